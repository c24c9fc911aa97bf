import PyProof.Rows.All
import Wide.All
import OpenK.AllK
import Wide.FinOn
import Lean
import PySem.Challenge.RW_pg0313_01
open PySem PySem.W PyProof.Rows PySem.Calls
set_option Elab.async false
set_option maxRecDepth 100000
set_option maxHeartbeats 16000000
namespace Mine
/-- the law's program; the same as the head looks at it: the statements whose names are read -/
abbrev theRow : OpenRow := PySem.Challenge.rw_pg0313_01.row
noncomputable def view : Program := (fun {c0 c1 c2 c3 c4 c5 c6 c7 c8 c9 c10 c11 c12 c13 c14 c15 c16 c17 c18 c19 c20 c21 c22 : Stmt} (_ : theRow.toRowW.prog.main.body = [c0, c1, c2, c3, c4, c5, c6, c7, c8, c9, c10, c11, c12, c13, c14, c15, c16, c17, c18, c19, c20, c21, c22]) =>
  ({ theRow.toRowW.prog with main := { theRow.toRowW.prog.main with body := [c0, c7, c8, c9, c10, c11, c12, c13, c15, c17, c18, c19, c20, c21, c22] } } : Program)) rfl
abbrev loosely : List Str := [Str.ofString "insort_right", Str.ofString "bisect_right", Str.ofString "insort_left", Str.ofString "bisect_left", Str.ofString "Whitespace"]
theorem head_of (H : Hook) {d : DefRec} {kwd : List (Str × PySem.Expr)} (left : LeftO theRow.prog view loosely (fun s => xlAt view [] s && recOk (RowW.records theRow.toRowW) s) (Hook.obs H) (Hook.val H) 2348)
    (hdef : defOf view theRow.name = some (d, kwd)) (hp : theRow.prog.theDef theRow.name = some (d.params, d.body, d.scope)) (hk : kwWritten? d.params.kwonlyargs d.params.kw_defaults = some kwd)
    (k1 : theRow.wellSaid = true) (hw : theRow.toRowW.promised) (call : WalkO view loosely (XL view []) H.says theRow.toRowW d kwd fun f vs => PySem.call f vs) : theRow.Holds :=
  holds_open (q := view) (loose := loosely) (Xt := fun s => xlAt view [] s && recOk (RowW.records theRow.toRowW) s) (XP := XL view []) (Yf := Hook.obs H) (Ya := Hook.val H) (YP := Hook.says H) (N := 2348) left (Hook.of H) (Hook.keeps H) (fun s e => xl_of s (Bool.and_eq_true_iff.mp e).1) XL.keeps hdef hp hk
    (fun s e => recFacts_of (Bool.and_eq_true_iff.mp e).2) (by rfl) k1 (by decide +kernel) ⟨rfl, rfl, rfl, rfl, rfl, by decide +kernel⟩ hw call
/-- the kit's quick twins of the machine, by name where they stand; else the machine itself -/
noncomputable abbrev qRun : (String → Option Builtin) → Program → World → Nat → Option Value → Nat → Shared → Thread → Option Shared := by
  first | exact PySem.W.Fast.tw14082659384304107361 | exact @topRun
theorem qRun_eq : @topRun = qRun := by first | exact PySem.W.Fast.te14082659384304107361 | rfl
noncomputable abbrev qGo : (String → Option Builtin) → Program → World → Nat → Option Value → Nat → Shared → Thread → Option (Shared × Thread) := by
  first | exact PySem.W.Fast.tw15667345088766844465 | exact @topGo
theorem qGo_eq : @topGo = qGo := by first | exact PySem.W.Fast.te15667345088766844465 | rfl
noncomputable abbrev qImp : (String → Option Builtin) → Program → World → Nat → Shared → Thread → Option Shared := by
  first | exact PySem.W.Fast.tw10274390034422433532 | exact @importEnds
theorem qImp_eq : @importEnds = qImp := by first | exact PySem.W.Fast.te10274390034422433532 | rfl
noncomputable abbrev qFence : Program → Shared → Option Shared := by
  first | exact PySem.W.Fast.tw14289696077712309145 | exact @fenceModules?
theorem qFence_eq : @fenceModules? = qFence := by first | exact PySem.W.Fast.te14289696077712309145 | rfl
noncomputable abbrev qTree : String → Option Builtin := by
  first | exact PySem.W.Fast.tw14364793385576792824 | exact @treeTable
theorem qTree_eq : treeTable = qTree := by first | exact PySem.W.Fast.te14364793385576792824 | rfl
noncomputable abbrev qStart : Program → Shared × Thread := by
  first | exact PySem.W.Fast.tw1435165496053646825 | exact @start
theorem qStart_eq : @start = qStart := by first | exact PySem.W.Fast.te1435165496053646825 | rfl
/-- the top's end with all that is looked at there -/
noncomputable def qEnd (p q : Program) (loose : List Str) (Xt : Shared → Bool) {α : Type} (Yf : Shared → α) (g0 : Bool) (m : Nat) (s₀ : Shared) (w : World) (st : Shared × Thread) :=
  (qRun qTree p w s₀.heap.objs.size (s₀.heap.nsMap mainGlobals "__annotations__") m st.1 st.2).map fun s₁ =>
    (staticsOk (importedModules p.main.body) s₀.heap s₁.heap && namesBound p s₁.heap && gensDone s₁ && laidKept s₀.heap s₁.heap, openSeen q loose (importedModules p.main.body) Xt g0 s₁, Yf s₁)
theorem left_quick {p q : Program} {loose : List Str} {Xt : Shared → Bool} {α : Type} {Yf : Shared → α} {Ya : World → α} {N : Nat} {g0 : Bool} (row : String) (n m : Nat) (hN : n + m = N)
    (h : ∀ w : World, ((qImp qTree (opening p) w N (qStart (opening p)).1 (qStart (opening p)).2).bind (qFence p)).bind (fun s₀ =>
        (qGo qTree p w s₀.heap.objs.size (s₀.heap.nsMap mainGlobals "__annotations__") n s₀ (topStub p)).map fun st =>
          (s₀.heap.isNs mainGlobals && s₀.gens.size == 0, qEnd p q loose Xt Yf g0 m s₀ (w.withFollow row false) st, qEnd p q loose Xt Yf g0 m s₀ (w.withFollow row true) st)) =
      some (true, some (true, openGood q loose, Ya (w.withFollow row false)), some (true, openGood q loose, Ya (w.withFollow row true)))) : LeftO p q loose Xt Yf Ya N g0 := fun w => by
  obtain ⟨s₀, a, b⟩ := Option.bind_eq_some_iff.mp (h w)
  obtain ⟨st, c, d⟩ := Option.map_eq_some_iff.mp b
  obtain ⟨z, d⟩ := Prod.mk.inj d
  obtain ⟨d1, d2⟩ := Prod.mk.inj d
  rw [← qImp_eq, ← qTree_eq, ← qStart_eq, ← qFence_eq] at a
  rw [← qGo_eq, ← qTree_eq] at c
  have e := World.withFollow_self w row
  have key : ∀ w', w' = w → qEnd p q loose Xt Yf g0 m s₀ w' st = some (true, openGood q loose, Ya w') → (openEnds treeTable p w N).map (fun s => (openSeen q loose (importedModules p.main.body) Xt g0 s, Yf s)) = some (openGood q loose, Ya w) := by
    intro w' hw k
    rw [hw] at k
    unfold qEnd at k
    rw [← qRun_eq, ← qTree_eq] at k
    obtain ⟨s₁, k1, k2⟩ := Option.map_eq_some_iff.mp k
    obtain ⟨k2, k3⟩ := Prod.mk.inj k2
    have r := go_top c k1
    rw [hN] at r
    have a' : fencedOpening treeTable p w N = some s₀ := a
    unfold openEnds
    rw [a']
    show (topFrom treeTable p w N s₀).map _ = _
    have t : topFrom treeTable p w N s₀ = some s₁ := by
      unfold topFrom
      rw [z, r]
      show (match staticsOk (importedModules p.main.body) s₀.heap s₁.heap && namesBound p s₁.heap && gensDone s₁ && laidKept s₀.heap s₁.heap with | true => _ | false => _) = _
      rw [k2]
    rw [t]
    exact congrArg some k3
  cases hb : w.params.followText row <;> rw [hb] at e
  · exact key _ e d1
  · exact key _ e d2
/-- the looks at the law's text, each by itself and by the kit's quick twins where they stand -/
theorem well_said : PySem.Challenge.rw_pg0313_01.wellSaid = true := by
  first
  | (rw [PySem.W.Fast.te9446332074065402090]
     unfold PySem.W.Fast.tw9446332074065402090
     unfold PySem.W.Fast.tw17960256430627541270 PySem.W.Fast.tw2436336058641802641 PySem.W.Fast.tw12908688711261696721)
  | (unfold OpenLaw.wellSaid OpenRow.wellSaid OpenRow.partSaid looksOpen)
  repeat' (with_reducible refine look_both ?_ ?_)
  all_goals decide +kernel
set_option hygiene false in
local macro_rules | `(tactic| o_law) => `(tactic| refine holds_law well_said fun said => ?_)
set_option hygiene false in
local macro_rules | `(tactic| o_head $H:term) => `(tactic| (refine head_of $H ?hl (by rfl) (by rfl) (by rfl) (by first | assumption | decide +kernel) ?hw ?hc; (case hl => exact left_quick "special-get-raises" 509 1839 (by rfl) (fun w => by kernel_rfl))))
open_top hd for PySem.Challenge.rw_pg0313_01
section
/-- what a call of f does from any frame with this ledger: Post r news' of what comes back and of the ledger behind it -/
def Does (w : World) (news : List (Addr × Obj)) (dn un : Nat) (f : Addr) (vs : List Value) (kw : List (Str × Value)) (Post : Value → List (Addr × Obj) → Prop) : Prop :=
  ∀ (p : Program) (loose : List Str) (mean : ExcName → Option Value) (mg mb : Str → Option Value) (dp un' : Nat) (gd : Option (List Code)) (cn : Str) (cs : Scope) (a : Addr) (ccd : Value) (cl : List (Str × Addr)) (outer : List Env) (A₀ : Around) (base h₀ : Heap) (L : Addr) (m : Str → Option Value) (s : Shared) (Q E : Value → Shared → Prop),
    Below A₀ base outer h₀ → Fr h₀ L s.heap m → (hd.heap_1 w.params).In h₀ → News h₀ L s.heap news → Top p loose mean mg mb h₀ → cs.kind = .function →
    CodeHd base 77 73 → CodeHd base 84 80 → CodeHd base 200 198 →
    dp + dn < recursionLimit → un' + un < cLine →
    (∀ (r : Value) (news' : List (Addr × Obj)) (h' : Heap) (tk' : Nat), Fr h₀ L h' m → News h₀ L h' news' → Post r news' → Q r { s with heap := h', toks := tk' }) →
    wpAny (model PySem.Challenge.rw_pg0313_01.row.prog w) (ktrTop dp un' gd cn cs L a ccd cl outer) (call (.ref f) vs kw) Q E s

/-- the same ledger behind it -/
abbrev Keeps1 (news : List (Addr × Obj)) (R : Value → Prop) : Value → List (Addr × Obj) → Prop := fun r news' => news' = news ∧ R r
theorem keep_ret {news : List (Addr × Obj)} {R : Value → Prop} {h₀ h' : Heap} {L : Addr} {m : Str → Option Value} {s : Shared} {Q : Value → Shared → Prop} {r : Value} {tk' : Nat} {news' : List (Addr × Obj)}
    (hret : ∀ (r : Value) (news' : List (Addr × Obj)) (h' : Heap) (tk' : Nat), Fr h₀ L h' m → News h₀ L h' news' → Keeps1 news R r news' → Q r { s with heap := h', toks := tk' })
    (F : Fr h₀ L h' m) (N : News h₀ L h' news') (hs : ∀ p ∈ news, p ∈ news') (hR : R r) : Q r { s with heap := h', toks := tk' } :=
  hret r news h' tk' F (cb_drop N hs) ⟨rfl, hR⟩
theorem Does.use {w : World} {news : List (Addr × Obj)} {dn un : Nat} {f : Addr} {vs : List Value} {kw : List (Str × Value)} {Post : Value → List (Addr × Obj) → Prop} (D : Does w news dn un f vs kw Post)
    {p : Program} {loose : List Str} {mean : ExcName → Option Value} {mg mb : Str → Option Value} {dp un' : Nat} {gd : Option (List Code)} {cn : Str} {cs : Scope} {a : Addr} {ccd : Value} {cl : List (Str × Addr)} {outer : List Env} {A₀ : Around} {base h₀ : Heap} {L : Addr} {m : Str → Option Value} {s : Shared} {Q E : Value → Shared → Prop}
    (B : Below A₀ base outer h₀) (F : Fr h₀ L s.heap m) (X : (hd.heap_1 w.params).In h₀) (N : News h₀ L s.heap news) (T : Top p loose mean mg mb h₀) (hk : cs.kind = .function)
    (C1 : CodeHd base 77 73) (C2 : CodeHd base 84 80) (C3 : CodeHd base 200 198) (h1 : dp + dn < recursionLimit) (h2 : un' + un < cLine)
    (ret : ∀ (r : Value) (news' : List (Addr × Obj)) (h' : Heap) (tk' : Nat), Fr h₀ L h' m → News h₀ L h' news' → Post r news' → Q r { s with heap := h', toks := tk' }) :
    wpAny (model PySem.Challenge.rw_pg0313_01.row.prog w) (ktrTop dp un' gd cn cs L a ccd cl outer) (call (.ref f) vs kw) Q E s :=
  D _ _ _ _ _ _ _ _ _ _ _ _ _ _ _ _ _ _ _ _ _ _ B F X N T hk C1 C2 C3 h1 h2 ret
theorem Does.use2 {w : World} {news : List (Addr × Obj)} {dn un : Nat} {f : Addr} {vs : List Value} {kw : List (Str × Value)} {Post : Value → List (Addr × Obj) → Prop}
    {p : Program} {loose : List Str} {mean : ExcName → Option Value} {mg mb : Str → Option Value} {dp un' : Nat} {gd : Option (List Code)} {cn : Str} {cs : Scope} {a : Addr} {ccd : Value} {cl : List (Str × Addr)} {outer : List Env} {A₀ : Around} {base h₀ : Heap} {L : Addr} {m : Str → Option Value} {s : Shared} {Q E : Value → Shared → Prop}
    (B : Below A₀ base outer h₀) (F : Fr h₀ L s.heap m) (X : (hd.heap_1 w.params).In h₀) (N : News h₀ L s.heap news) (T : Top p loose mean mg mb h₀) (hk : cs.kind = .function)
    (C1 : CodeHd base 77 73) (C2 : CodeHd base 84 80) (C3 : CodeHd base 200 198) (D : Does w news dn un f vs kw Post) (h1 : dp + dn < recursionLimit) (h2 : un' + un < cLine)
    (ret : ∀ (r : Value) (news' : List (Addr × Obj)) (h' : Heap) (tk' : Nat), Fr h₀ L h' m → News h₀ L h' news' → Post r news' → Q r { s with heap := h', toks := tk' }) :
    wpAny (model PySem.Challenge.rw_pg0313_01.row.prog w) (ktrTop dp un' gd cn cs L a ccd cl outer) (call (.ref f) vs kw) Q E s :=
  D.use B F X N T hk C1 C2 C3 h1 h2 ret
theorem news_head {h₀ h : Heap} {L : Addr} {a : Addr} {o : Obj} {r : List (Addr × Obj)} (N : News h₀ L h ((a, o) :: r)) : ∃ a' o', a' = a ∧ o' = o ∧ News h₀ L h ((a', o') :: r) := ⟨_, _, rfl, rfl, N⟩
theorem room0 {d n k K : Nat} (h : d + n < K) (e : Nat.ble k n = true) : d + k < K := Nat.lt_of_le_of_lt (Nat.add_le_add_left (Nat.le_of_ble_eq_true e) d) h
theorem room1 {d n k j K : Nat} (h : d + n < K) (e : Nat.ble (k + j) n = true) : d + k + j < K := by rw [Nat.add_assoc]; exact room0 h e
theorem ex0_2 {P0 P1 : Prop} {G : Prop} (h : P0  ∧ P1 ) (k : P0  → P1  → G) : G := by
  obtain ⟨h0, h1⟩ := h
  exact k h0 h1
theorem ex0_3 {P0 P1 P2 : Prop} {G : Prop} (h : P0  ∧ P1  ∧ P2 ) (k : P0  → P1  → P2  → G) : G := by
  obtain ⟨h0, h1, h2⟩ := h
  exact k h0 h1 h2
theorem ex0_4 {P0 P1 P2 P3 : Prop} {G : Prop} (h : P0  ∧ P1  ∧ P2  ∧ P3 ) (k : P0  → P1  → P2  → P3  → G) : G := by
  obtain ⟨h0, h1, h2, h3⟩ := h
  exact k h0 h1 h2 h3
theorem ex0_5 {P0 P1 P2 P3 P4 : Prop} {G : Prop} (h : P0  ∧ P1  ∧ P2  ∧ P3  ∧ P4 ) (k : P0  → P1  → P2  → P3  → P4  → G) : G := by
  obtain ⟨h0, h1, h2, h3, h4⟩ := h
  exact k h0 h1 h2 h3 h4
theorem ex0_6 {P0 P1 P2 P3 P4 P5 : Prop} {G : Prop} (h : P0  ∧ P1  ∧ P2  ∧ P3  ∧ P4  ∧ P5 ) (k : P0  → P1  → P2  → P3  → P4  → P5  → G) : G := by
  obtain ⟨h0, h1, h2, h3, h4, h5⟩ := h
  exact k h0 h1 h2 h3 h4 h5
theorem ex0_7 {P0 P1 P2 P3 P4 P5 P6 : Prop} {G : Prop} (h : P0  ∧ P1  ∧ P2  ∧ P3  ∧ P4  ∧ P5  ∧ P6 ) (k : P0  → P1  → P2  → P3  → P4  → P5  → P6  → G) : G := by
  obtain ⟨h0, h1, h2, h3, h4, h5, h6⟩ := h
  exact k h0 h1 h2 h3 h4 h5 h6
theorem ex0_9 {P0 P1 P2 P3 P4 P5 P6 P7 P8 : Prop} {G : Prop} (h : P0  ∧ P1  ∧ P2  ∧ P3  ∧ P4  ∧ P5  ∧ P6  ∧ P7  ∧ P8 ) (k : P0  → P1  → P2  → P3  → P4  → P5  → P6  → P7  → P8  → G) : G := by
  obtain ⟨h0, h1, h2, h3, h4, h5, h6, h7, h8⟩ := h
  exact k h0 h1 h2 h3 h4 h5 h6 h7 h8
theorem ex1_1 {a0 : Type} {P0 : a0 → Prop} {G : Prop} (h : ∃ x0, P0 x0) (k : ∀ x0, P0 x0 → G) : G := by
  obtain ⟨x0, h0⟩ := h
  exact k x0 h0
theorem ex1_2 {a0 : Type} {P0 P1 : a0 → Prop} {G : Prop} (h : ∃ x0, P0 x0 ∧ P1 x0) (k : ∀ x0, P0 x0 → P1 x0 → G) : G := by
  obtain ⟨x0, h0, h1⟩ := h
  exact k x0 h0 h1
theorem ex1_3 {a0 : Type} {P0 P1 P2 : a0 → Prop} {G : Prop} (h : ∃ x0, P0 x0 ∧ P1 x0 ∧ P2 x0) (k : ∀ x0, P0 x0 → P1 x0 → P2 x0 → G) : G := by
  obtain ⟨x0, h0, h1, h2⟩ := h
  exact k x0 h0 h1 h2
theorem ex1_4 {a0 : Type} {P0 P1 P2 P3 : a0 → Prop} {G : Prop} (h : ∃ x0, P0 x0 ∧ P1 x0 ∧ P2 x0 ∧ P3 x0) (k : ∀ x0, P0 x0 → P1 x0 → P2 x0 → P3 x0 → G) : G := by
  obtain ⟨x0, h0, h1, h2, h3⟩ := h
  exact k x0 h0 h1 h2 h3
theorem ex1_5 {a0 : Type} {P0 P1 P2 P3 P4 : a0 → Prop} {G : Prop} (h : ∃ x0, P0 x0 ∧ P1 x0 ∧ P2 x0 ∧ P3 x0 ∧ P4 x0) (k : ∀ x0, P0 x0 → P1 x0 → P2 x0 → P3 x0 → P4 x0 → G) : G := by
  obtain ⟨x0, h0, h1, h2, h3, h4⟩ := h
  exact k x0 h0 h1 h2 h3 h4
theorem ex1_6 {a0 : Type} {P0 P1 P2 P3 P4 P5 : a0 → Prop} {G : Prop} (h : ∃ x0, P0 x0 ∧ P1 x0 ∧ P2 x0 ∧ P3 x0 ∧ P4 x0 ∧ P5 x0) (k : ∀ x0, P0 x0 → P1 x0 → P2 x0 → P3 x0 → P4 x0 → P5 x0 → G) : G := by
  obtain ⟨x0, h0, h1, h2, h3, h4, h5⟩ := h
  exact k x0 h0 h1 h2 h3 h4 h5
theorem ex1_7 {a0 : Type} {P0 P1 P2 P3 P4 P5 P6 : a0 → Prop} {G : Prop} (h : ∃ x0, P0 x0 ∧ P1 x0 ∧ P2 x0 ∧ P3 x0 ∧ P4 x0 ∧ P5 x0 ∧ P6 x0) (k : ∀ x0, P0 x0 → P1 x0 → P2 x0 → P3 x0 → P4 x0 → P5 x0 → P6 x0 → G) : G := by
  obtain ⟨x0, h0, h1, h2, h3, h4, h5, h6⟩ := h
  exact k x0 h0 h1 h2 h3 h4 h5 h6
theorem ex1_9 {a0 : Type} {P0 P1 P2 P3 P4 P5 P6 P7 P8 : a0 → Prop} {G : Prop} (h : ∃ x0, P0 x0 ∧ P1 x0 ∧ P2 x0 ∧ P3 x0 ∧ P4 x0 ∧ P5 x0 ∧ P6 x0 ∧ P7 x0 ∧ P8 x0) (k : ∀ x0, P0 x0 → P1 x0 → P2 x0 → P3 x0 → P4 x0 → P5 x0 → P6 x0 → P7 x0 → P8 x0 → G) : G := by
  obtain ⟨x0, h0, h1, h2, h3, h4, h5, h6, h7, h8⟩ := h
  exact k x0 h0 h1 h2 h3 h4 h5 h6 h7 h8
theorem ex2_1 {a0 a1 : Type} {P0 : a0 → a1 → Prop} {G : Prop} (h : ∃ x0 x1, P0 x0 x1) (k : ∀ x0 x1, P0 x0 x1 → G) : G := by
  obtain ⟨x0, x1, h0⟩ := h
  exact k x0 x1 h0
theorem ex2_2 {a0 a1 : Type} {P0 P1 : a0 → a1 → Prop} {G : Prop} (h : ∃ x0 x1, P0 x0 x1 ∧ P1 x0 x1) (k : ∀ x0 x1, P0 x0 x1 → P1 x0 x1 → G) : G := by
  obtain ⟨x0, x1, h0, h1⟩ := h
  exact k x0 x1 h0 h1
theorem ex2_3 {a0 a1 : Type} {P0 P1 P2 : a0 → a1 → Prop} {G : Prop} (h : ∃ x0 x1, P0 x0 x1 ∧ P1 x0 x1 ∧ P2 x0 x1) (k : ∀ x0 x1, P0 x0 x1 → P1 x0 x1 → P2 x0 x1 → G) : G := by
  obtain ⟨x0, x1, h0, h1, h2⟩ := h
  exact k x0 x1 h0 h1 h2
theorem ex2_4 {a0 a1 : Type} {P0 P1 P2 P3 : a0 → a1 → Prop} {G : Prop} (h : ∃ x0 x1, P0 x0 x1 ∧ P1 x0 x1 ∧ P2 x0 x1 ∧ P3 x0 x1) (k : ∀ x0 x1, P0 x0 x1 → P1 x0 x1 → P2 x0 x1 → P3 x0 x1 → G) : G := by
  obtain ⟨x0, x1, h0, h1, h2, h3⟩ := h
  exact k x0 x1 h0 h1 h2 h3
theorem ex2_5 {a0 a1 : Type} {P0 P1 P2 P3 P4 : a0 → a1 → Prop} {G : Prop} (h : ∃ x0 x1, P0 x0 x1 ∧ P1 x0 x1 ∧ P2 x0 x1 ∧ P3 x0 x1 ∧ P4 x0 x1) (k : ∀ x0 x1, P0 x0 x1 → P1 x0 x1 → P2 x0 x1 → P3 x0 x1 → P4 x0 x1 → G) : G := by
  obtain ⟨x0, x1, h0, h1, h2, h3, h4⟩ := h
  exact k x0 x1 h0 h1 h2 h3 h4
theorem ex2_8 {a0 a1 : Type} {P0 P1 P2 P3 P4 P5 P6 P7 : a0 → a1 → Prop} {G : Prop} (h : ∃ x0 x1, P0 x0 x1 ∧ P1 x0 x1 ∧ P2 x0 x1 ∧ P3 x0 x1 ∧ P4 x0 x1 ∧ P5 x0 x1 ∧ P6 x0 x1 ∧ P7 x0 x1) (k : ∀ x0 x1, P0 x0 x1 → P1 x0 x1 → P2 x0 x1 → P3 x0 x1 → P4 x0 x1 → P5 x0 x1 → P6 x0 x1 → P7 x0 x1 → G) : G := by
  obtain ⟨x0, x1, h0, h1, h2, h3, h4, h5, h6, h7⟩ := h
  exact k x0 x1 h0 h1 h2 h3 h4 h5 h6 h7
theorem ex2_9 {a0 a1 : Type} {P0 P1 P2 P3 P4 P5 P6 P7 P8 : a0 → a1 → Prop} {G : Prop} (h : ∃ x0 x1, P0 x0 x1 ∧ P1 x0 x1 ∧ P2 x0 x1 ∧ P3 x0 x1 ∧ P4 x0 x1 ∧ P5 x0 x1 ∧ P6 x0 x1 ∧ P7 x0 x1 ∧ P8 x0 x1) (k : ∀ x0 x1, P0 x0 x1 → P1 x0 x1 → P2 x0 x1 → P3 x0 x1 → P4 x0 x1 → P5 x0 x1 → P6 x0 x1 → P7 x0 x1 → P8 x0 x1 → G) : G := by
  obtain ⟨x0, x1, h0, h1, h2, h3, h4, h5, h6, h7, h8⟩ := h
  exact k x0 x1 h0 h1 h2 h3 h4 h5 h6 h7 h8
theorem ex2_13 {a0 a1 : Type} {P0 P1 P2 P3 P4 P5 P6 P7 P8 P9 P10 P11 P12 : a0 → a1 → Prop} {G : Prop} (h : ∃ x0 x1, P0 x0 x1 ∧ P1 x0 x1 ∧ P2 x0 x1 ∧ P3 x0 x1 ∧ P4 x0 x1 ∧ P5 x0 x1 ∧ P6 x0 x1 ∧ P7 x0 x1 ∧ P8 x0 x1 ∧ P9 x0 x1 ∧ P10 x0 x1 ∧ P11 x0 x1 ∧ P12 x0 x1) (k : ∀ x0 x1, P0 x0 x1 → P1 x0 x1 → P2 x0 x1 → P3 x0 x1 → P4 x0 x1 → P5 x0 x1 → P6 x0 x1 → P7 x0 x1 → P8 x0 x1 → P9 x0 x1 → P10 x0 x1 → P11 x0 x1 → P12 x0 x1 → G) : G := by
  obtain ⟨x0, x1, h0, h1, h2, h3, h4, h5, h6, h7, h8, h9, h10, h11, h12⟩ := h
  exact k x0 x1 h0 h1 h2 h3 h4 h5 h6 h7 h8 h9 h10 h11 h12
theorem ex3_2 {a0 a1 a2 : Type} {P0 P1 : a0 → a1 → a2 → Prop} {G : Prop} (h : ∃ x0 x1 x2, P0 x0 x1 x2 ∧ P1 x0 x1 x2) (k : ∀ x0 x1 x2, P0 x0 x1 x2 → P1 x0 x1 x2 → G) : G := by
  obtain ⟨x0, x1, x2, h0, h1⟩ := h
  exact k x0 x1 x2 h0 h1
theorem ex3_3 {a0 a1 a2 : Type} {P0 P1 P2 : a0 → a1 → a2 → Prop} {G : Prop} (h : ∃ x0 x1 x2, P0 x0 x1 x2 ∧ P1 x0 x1 x2 ∧ P2 x0 x1 x2) (k : ∀ x0 x1 x2, P0 x0 x1 x2 → P1 x0 x1 x2 → P2 x0 x1 x2 → G) : G := by
  obtain ⟨x0, x1, x2, h0, h1, h2⟩ := h
  exact k x0 x1 x2 h0 h1 h2
theorem ex3_5 {a0 a1 a2 : Type} {P0 P1 P2 P3 P4 : a0 → a1 → a2 → Prop} {G : Prop} (h : ∃ x0 x1 x2, P0 x0 x1 x2 ∧ P1 x0 x1 x2 ∧ P2 x0 x1 x2 ∧ P3 x0 x1 x2 ∧ P4 x0 x1 x2) (k : ∀ x0 x1 x2, P0 x0 x1 x2 → P1 x0 x1 x2 → P2 x0 x1 x2 → P3 x0 x1 x2 → P4 x0 x1 x2 → G) : G := by
  obtain ⟨x0, x1, x2, h0, h1, h2, h3, h4⟩ := h
  exact k x0 x1 x2 h0 h1 h2 h3 h4
theorem ex3_6 {a0 a1 a2 : Type} {P0 P1 P2 P3 P4 P5 : a0 → a1 → a2 → Prop} {G : Prop} (h : ∃ x0 x1 x2, P0 x0 x1 x2 ∧ P1 x0 x1 x2 ∧ P2 x0 x1 x2 ∧ P3 x0 x1 x2 ∧ P4 x0 x1 x2 ∧ P5 x0 x1 x2) (k : ∀ x0 x1 x2, P0 x0 x1 x2 → P1 x0 x1 x2 → P2 x0 x1 x2 → P3 x0 x1 x2 → P4 x0 x1 x2 → P5 x0 x1 x2 → G) : G := by
  obtain ⟨x0, x1, x2, h0, h1, h2, h3, h4, h5⟩ := h
  exact k x0 x1 x2 h0 h1 h2 h3 h4 h5
theorem ex4_5 {a0 a1 a2 a3 : Type} {P0 P1 P2 P3 P4 : a0 → a1 → a2 → a3 → Prop} {G : Prop} (h : ∃ x0 x1 x2 x3, P0 x0 x1 x2 x3 ∧ P1 x0 x1 x2 x3 ∧ P2 x0 x1 x2 x3 ∧ P3 x0 x1 x2 x3 ∧ P4 x0 x1 x2 x3) (k : ∀ x0 x1 x2 x3, P0 x0 x1 x2 x3 → P1 x0 x1 x2 x3 → P2 x0 x1 x2 x3 → P3 x0 x1 x2 x3 → P4 x0 x1 x2 x3 → G) : G := by
  obtain ⟨x0, x1, x2, x3, h0, h1, h2, h3, h4⟩ := h
  exact k x0 x1 x2 x3 h0 h1 h2 h3 h4
theorem ex4_11 {a0 a1 a2 a3 : Type} {P0 P1 P2 P3 P4 P5 P6 P7 P8 P9 P10 : a0 → a1 → a2 → a3 → Prop} {G : Prop} (h : ∃ x0 x1 x2 x3, P0 x0 x1 x2 x3 ∧ P1 x0 x1 x2 x3 ∧ P2 x0 x1 x2 x3 ∧ P3 x0 x1 x2 x3 ∧ P4 x0 x1 x2 x3 ∧ P5 x0 x1 x2 x3 ∧ P6 x0 x1 x2 x3 ∧ P7 x0 x1 x2 x3 ∧ P8 x0 x1 x2 x3 ∧ P9 x0 x1 x2 x3 ∧ P10 x0 x1 x2 x3) (k : ∀ x0 x1 x2 x3, P0 x0 x1 x2 x3 → P1 x0 x1 x2 x3 → P2 x0 x1 x2 x3 → P3 x0 x1 x2 x3 → P4 x0 x1 x2 x3 → P5 x0 x1 x2 x3 → P6 x0 x1 x2 x3 → P7 x0 x1 x2 x3 → P8 x0 x1 x2 x3 → P9 x0 x1 x2 x3 → P10 x0 x1 x2 x3 → G) : G := by
  obtain ⟨x0, x1, x2, x3, h0, h1, h2, h3, h4, h5, h6, h7, h8, h9, h10⟩ := h
  exact k x0 x1 x2 x3 h0 h1 h2 h3 h4 h5 h6 h7 h8 h9 h10
theorem ex5_2 {a0 a1 a2 a3 a4 : Type} {P0 P1 : a0 → a1 → a2 → a3 → a4 → Prop} {G : Prop} (h : ∃ x0 x1 x2 x3 x4, P0 x0 x1 x2 x3 x4 ∧ P1 x0 x1 x2 x3 x4) (k : ∀ x0 x1 x2 x3 x4, P0 x0 x1 x2 x3 x4 → P1 x0 x1 x2 x3 x4 → G) : G := by
  obtain ⟨x0, x1, x2, x3, x4, h0, h1⟩ := h
  exact k x0 x1 x2 x3 x4 h0 h1
theorem ex5_9 {a0 a1 a2 a3 a4 : Type} {P0 P1 P2 P3 P4 P5 P6 P7 P8 : a0 → a1 → a2 → a3 → a4 → Prop} {G : Prop} (h : ∃ x0 x1 x2 x3 x4, P0 x0 x1 x2 x3 x4 ∧ P1 x0 x1 x2 x3 x4 ∧ P2 x0 x1 x2 x3 x4 ∧ P3 x0 x1 x2 x3 x4 ∧ P4 x0 x1 x2 x3 x4 ∧ P5 x0 x1 x2 x3 x4 ∧ P6 x0 x1 x2 x3 x4 ∧ P7 x0 x1 x2 x3 x4 ∧ P8 x0 x1 x2 x3 x4) (k : ∀ x0 x1 x2 x3 x4, P0 x0 x1 x2 x3 x4 → P1 x0 x1 x2 x3 x4 → P2 x0 x1 x2 x3 x4 → P3 x0 x1 x2 x3 x4 → P4 x0 x1 x2 x3 x4 → P5 x0 x1 x2 x3 x4 → P6 x0 x1 x2 x3 x4 → P7 x0 x1 x2 x3 x4 → P8 x0 x1 x2 x3 x4 → G) : G := by
  obtain ⟨x0, x1, x2, x3, x4, h0, h1, h2, h3, h4, h5, h6, h7, h8⟩ := h
  exact k x0 x1 x2 x3 x4 h0 h1 h2 h3 h4 h5 h6 h7 h8
theorem ex6_3 {a0 a1 a2 a3 a4 a5 : Type} {P0 P1 P2 : a0 → a1 → a2 → a3 → a4 → a5 → Prop} {G : Prop} (h : ∃ x0 x1 x2 x3 x4 x5, P0 x0 x1 x2 x3 x4 x5 ∧ P1 x0 x1 x2 x3 x4 x5 ∧ P2 x0 x1 x2 x3 x4 x5) (k : ∀ x0 x1 x2 x3 x4 x5, P0 x0 x1 x2 x3 x4 x5 → P1 x0 x1 x2 x3 x4 x5 → P2 x0 x1 x2 x3 x4 x5 → G) : G := by
  obtain ⟨x0, x1, x2, x3, x4, x5, h0, h1, h2⟩ := h
  exact k x0 x1 x2 x3 x4 x5 h0 h1 h2
theorem ex6_6 {a0 a1 a2 a3 a4 a5 : Type} {P0 P1 P2 P3 P4 P5 : a0 → a1 → a2 → a3 → a4 → a5 → Prop} {G : Prop} (h : ∃ x0 x1 x2 x3 x4 x5, P0 x0 x1 x2 x3 x4 x5 ∧ P1 x0 x1 x2 x3 x4 x5 ∧ P2 x0 x1 x2 x3 x4 x5 ∧ P3 x0 x1 x2 x3 x4 x5 ∧ P4 x0 x1 x2 x3 x4 x5 ∧ P5 x0 x1 x2 x3 x4 x5) (k : ∀ x0 x1 x2 x3 x4 x5, P0 x0 x1 x2 x3 x4 x5 → P1 x0 x1 x2 x3 x4 x5 → P2 x0 x1 x2 x3 x4 x5 → P3 x0 x1 x2 x3 x4 x5 → P4 x0 x1 x2 x3 x4 x5 → P5 x0 x1 x2 x3 x4 x5 → G) : G := by
  obtain ⟨x0, x1, x2, x3, x4, x5, h0, h1, h2, h3, h4, h5⟩ := h
  exact k x0 x1 x2 x3 x4 x5 h0 h1 h2 h3 h4 h5
theorem ex6_9 {a0 a1 a2 a3 a4 a5 : Type} {P0 P1 P2 P3 P4 P5 P6 P7 P8 : a0 → a1 → a2 → a3 → a4 → a5 → Prop} {G : Prop} (h : ∃ x0 x1 x2 x3 x4 x5, P0 x0 x1 x2 x3 x4 x5 ∧ P1 x0 x1 x2 x3 x4 x5 ∧ P2 x0 x1 x2 x3 x4 x5 ∧ P3 x0 x1 x2 x3 x4 x5 ∧ P4 x0 x1 x2 x3 x4 x5 ∧ P5 x0 x1 x2 x3 x4 x5 ∧ P6 x0 x1 x2 x3 x4 x5 ∧ P7 x0 x1 x2 x3 x4 x5 ∧ P8 x0 x1 x2 x3 x4 x5) (k : ∀ x0 x1 x2 x3 x4 x5, P0 x0 x1 x2 x3 x4 x5 → P1 x0 x1 x2 x3 x4 x5 → P2 x0 x1 x2 x3 x4 x5 → P3 x0 x1 x2 x3 x4 x5 → P4 x0 x1 x2 x3 x4 x5 → P5 x0 x1 x2 x3 x4 x5 → P6 x0 x1 x2 x3 x4 x5 → P7 x0 x1 x2 x3 x4 x5 → P8 x0 x1 x2 x3 x4 x5 → G) : G := by
  obtain ⟨x0, x1, x2, x3, x4, x5, h0, h1, h2, h3, h4, h5, h6, h7, h8⟩ := h
  exact k x0 x1 x2 x3 x4 x5 h0 h1 h2 h3 h4 h5 h6 h7 h8
theorem ex7_1 {a0 a1 a2 a3 a4 a5 a6 : Type} {P0 : a0 → a1 → a2 → a3 → a4 → a5 → a6 → Prop} {G : Prop} (h : ∃ x0 x1 x2 x3 x4 x5 x6, P0 x0 x1 x2 x3 x4 x5 x6) (k : ∀ x0 x1 x2 x3 x4 x5 x6, P0 x0 x1 x2 x3 x4 x5 x6 → G) : G := by
  obtain ⟨x0, x1, x2, x3, x4, x5, x6, h0⟩ := h
  exact k x0 x1 x2 x3 x4 x5 x6 h0
theorem ex7_9 {a0 a1 a2 a3 a4 a5 a6 : Type} {P0 P1 P2 P3 P4 P5 P6 P7 P8 : a0 → a1 → a2 → a3 → a4 → a5 → a6 → Prop} {G : Prop} (h : ∃ x0 x1 x2 x3 x4 x5 x6, P0 x0 x1 x2 x3 x4 x5 x6 ∧ P1 x0 x1 x2 x3 x4 x5 x6 ∧ P2 x0 x1 x2 x3 x4 x5 x6 ∧ P3 x0 x1 x2 x3 x4 x5 x6 ∧ P4 x0 x1 x2 x3 x4 x5 x6 ∧ P5 x0 x1 x2 x3 x4 x5 x6 ∧ P6 x0 x1 x2 x3 x4 x5 x6 ∧ P7 x0 x1 x2 x3 x4 x5 x6 ∧ P8 x0 x1 x2 x3 x4 x5 x6) (k : ∀ x0 x1 x2 x3 x4 x5 x6, P0 x0 x1 x2 x3 x4 x5 x6 → P1 x0 x1 x2 x3 x4 x5 x6 → P2 x0 x1 x2 x3 x4 x5 x6 → P3 x0 x1 x2 x3 x4 x5 x6 → P4 x0 x1 x2 x3 x4 x5 x6 → P5 x0 x1 x2 x3 x4 x5 x6 → P6 x0 x1 x2 x3 x4 x5 x6 → P7 x0 x1 x2 x3 x4 x5 x6 → P8 x0 x1 x2 x3 x4 x5 x6 → G) : G := by
  obtain ⟨x0, x1, x2, x3, x4, x5, x6, h0, h1, h2, h3, h4, h5, h6, h7, h8⟩ := h
  exact k x0 x1 x2 x3 x4 x5 x6 h0 h1 h2 h3 h4 h5 h6 h7 h8
theorem ex7_12 {a0 a1 a2 a3 a4 a5 a6 : Type} {P0 P1 P2 P3 P4 P5 P6 P7 P8 P9 P10 P11 : a0 → a1 → a2 → a3 → a4 → a5 → a6 → Prop} {G : Prop} (h : ∃ x0 x1 x2 x3 x4 x5 x6, P0 x0 x1 x2 x3 x4 x5 x6 ∧ P1 x0 x1 x2 x3 x4 x5 x6 ∧ P2 x0 x1 x2 x3 x4 x5 x6 ∧ P3 x0 x1 x2 x3 x4 x5 x6 ∧ P4 x0 x1 x2 x3 x4 x5 x6 ∧ P5 x0 x1 x2 x3 x4 x5 x6 ∧ P6 x0 x1 x2 x3 x4 x5 x6 ∧ P7 x0 x1 x2 x3 x4 x5 x6 ∧ P8 x0 x1 x2 x3 x4 x5 x6 ∧ P9 x0 x1 x2 x3 x4 x5 x6 ∧ P10 x0 x1 x2 x3 x4 x5 x6 ∧ P11 x0 x1 x2 x3 x4 x5 x6) (k : ∀ x0 x1 x2 x3 x4 x5 x6, P0 x0 x1 x2 x3 x4 x5 x6 → P1 x0 x1 x2 x3 x4 x5 x6 → P2 x0 x1 x2 x3 x4 x5 x6 → P3 x0 x1 x2 x3 x4 x5 x6 → P4 x0 x1 x2 x3 x4 x5 x6 → P5 x0 x1 x2 x3 x4 x5 x6 → P6 x0 x1 x2 x3 x4 x5 x6 → P7 x0 x1 x2 x3 x4 x5 x6 → P8 x0 x1 x2 x3 x4 x5 x6 → P9 x0 x1 x2 x3 x4 x5 x6 → P10 x0 x1 x2 x3 x4 x5 x6 → P11 x0 x1 x2 x3 x4 x5 x6 → G) : G := by
  obtain ⟨x0, x1, x2, x3, x4, x5, x6, h0, h1, h2, h3, h4, h5, h6, h7, h8, h9, h10, h11⟩ := h
  exact k x0 x1 x2 x3 x4 x5 x6 h0 h1 h2 h3 h4 h5 h6 h7 h8 h9 h10 h11
theorem ex8_10 {a0 a1 a2 a3 a4 a5 a6 a7 : Type} {P0 P1 P2 P3 P4 P5 P6 P7 P8 P9 : a0 → a1 → a2 → a3 → a4 → a5 → a6 → a7 → Prop} {G : Prop} (h : ∃ x0 x1 x2 x3 x4 x5 x6 x7, P0 x0 x1 x2 x3 x4 x5 x6 x7 ∧ P1 x0 x1 x2 x3 x4 x5 x6 x7 ∧ P2 x0 x1 x2 x3 x4 x5 x6 x7 ∧ P3 x0 x1 x2 x3 x4 x5 x6 x7 ∧ P4 x0 x1 x2 x3 x4 x5 x6 x7 ∧ P5 x0 x1 x2 x3 x4 x5 x6 x7 ∧ P6 x0 x1 x2 x3 x4 x5 x6 x7 ∧ P7 x0 x1 x2 x3 x4 x5 x6 x7 ∧ P8 x0 x1 x2 x3 x4 x5 x6 x7 ∧ P9 x0 x1 x2 x3 x4 x5 x6 x7) (k : ∀ x0 x1 x2 x3 x4 x5 x6 x7, P0 x0 x1 x2 x3 x4 x5 x6 x7 → P1 x0 x1 x2 x3 x4 x5 x6 x7 → P2 x0 x1 x2 x3 x4 x5 x6 x7 → P3 x0 x1 x2 x3 x4 x5 x6 x7 → P4 x0 x1 x2 x3 x4 x5 x6 x7 → P5 x0 x1 x2 x3 x4 x5 x6 x7 → P6 x0 x1 x2 x3 x4 x5 x6 x7 → P7 x0 x1 x2 x3 x4 x5 x6 x7 → P8 x0 x1 x2 x3 x4 x5 x6 x7 → P9 x0 x1 x2 x3 x4 x5 x6 x7 → G) : G := by
  obtain ⟨x0, x1, x2, x3, x4, x5, x6, x7, h0, h1, h2, h3, h4, h5, h6, h7, h8, h9⟩ := h
  exact k x0 x1 x2 x3 x4 x5 x6 x7 h0 h1 h2 h3 h4 h5 h6 h7 h8 h9
theorem ex9_11 {a0 a1 a2 a3 a4 a5 a6 a7 a8 : Type} {P0 P1 P2 P3 P4 P5 P6 P7 P8 P9 P10 : a0 → a1 → a2 → a3 → a4 → a5 → a6 → a7 → a8 → Prop} {G : Prop} (h : ∃ x0 x1 x2 x3 x4 x5 x6 x7 x8, P0 x0 x1 x2 x3 x4 x5 x6 x7 x8 ∧ P1 x0 x1 x2 x3 x4 x5 x6 x7 x8 ∧ P2 x0 x1 x2 x3 x4 x5 x6 x7 x8 ∧ P3 x0 x1 x2 x3 x4 x5 x6 x7 x8 ∧ P4 x0 x1 x2 x3 x4 x5 x6 x7 x8 ∧ P5 x0 x1 x2 x3 x4 x5 x6 x7 x8 ∧ P6 x0 x1 x2 x3 x4 x5 x6 x7 x8 ∧ P7 x0 x1 x2 x3 x4 x5 x6 x7 x8 ∧ P8 x0 x1 x2 x3 x4 x5 x6 x7 x8 ∧ P9 x0 x1 x2 x3 x4 x5 x6 x7 x8 ∧ P10 x0 x1 x2 x3 x4 x5 x6 x7 x8) (k : ∀ x0 x1 x2 x3 x4 x5 x6 x7 x8, P0 x0 x1 x2 x3 x4 x5 x6 x7 x8 → P1 x0 x1 x2 x3 x4 x5 x6 x7 x8 → P2 x0 x1 x2 x3 x4 x5 x6 x7 x8 → P3 x0 x1 x2 x3 x4 x5 x6 x7 x8 → P4 x0 x1 x2 x3 x4 x5 x6 x7 x8 → P5 x0 x1 x2 x3 x4 x5 x6 x7 x8 → P6 x0 x1 x2 x3 x4 x5 x6 x7 x8 → P7 x0 x1 x2 x3 x4 x5 x6 x7 x8 → P8 x0 x1 x2 x3 x4 x5 x6 x7 x8 → P9 x0 x1 x2 x3 x4 x5 x6 x7 x8 → P10 x0 x1 x2 x3 x4 x5 x6 x7 x8 → G) : G := by
  obtain ⟨x0, x1, x2, x3, x4, x5, x6, x7, x8, h0, h1, h2, h3, h4, h5, h6, h7, h8, h9, h10⟩ := h
  exact k x0 x1 x2 x3 x4 x5 x6 x7 x8 h0 h1 h2 h3 h4 h5 h6 h7 h8 h9 h10

theorem pr5_open {A B C D E : Type} {G : A × B × C × D × E → Prop} (h : ∀ a b c d e, G (a, b, c, d, e)) : ∀ x, G x := fun ⟨a, b, c, d, e⟩ => h a b c d e
theorem pr3_open {A B C : Type} {G : A × B × C → Prop} (h : ∀ a b c, G (a, b, c)) : ∀ x, G x := fun ⟨a, b, c⟩ => h a b c
theorem un_let {α : Type} {Q : α → Shared → Prop} {v : α} {s : Shared} (h : Q v s) : Q v s := h
end
local macro_rules | `(tactic| walk_at $s:str) => `(tactic| k_extra $s)
local macro_rules | `(tactic| omega) => `(tactic| lia)
local macro_rules | `(tactic| k_room) => `(tactic| k_extra "k_room")
local macro_rules | `(tactic| k_mem) => `(tactic| k_extra "k_mem")
local macro_rules | `(tactic| k_all) => `(tactic| k_extra "k_all")
local macro_rules | `(tactic| k_enter) => `(tactic| k_extra "k_enter")
example : True := by
  k_with "k_room" => ktr_room
  k_with "k_mem" => ((fail_if_success (with_reducible_and_instances refine List.mem_cons_of_mem _ ?_)); (with_reducible_and_instances refine List.mem_append_right _ ?_); k_mem)
  k_with "k_mem" => ((fail_if_success (with_reducible_and_instances refine List.mem_cons_of_mem _ ?_)); (with_reducible_and_instances refine List.mem_append_left _ ?_); k_mem)
  k_with "k_mem" => assumption
  k_with "k_all" => first | exact List.forall_mem_nil _ | assumption | (refine' List.forall_mem_cons.mpr ⟨?a, ?b⟩; (case a => k_ne); (case b => k_all))
  k_with "call ref" => k_dflt (k_extra "my call")
  k_with "my tail" => (intro r9 news9 h9 tk9 F9 N9 P9; obtain ⟨e9, t9, q9⟩ := P9; replace e9 := e9.symm; subst e9; subst q9; (try (k_unfold; (try dsimp only))); (try dsimp only); (try k_fold))
  trivial
section
/-- a def's table of the codes it has made: each stands in R, under the name qual -/
def TabG (qual : Str) (ps : Array Value) (R : List (Addr × Obj)) : Prop :=
  TriplesOk ps.toList ∧ ∀ pos cv, codeAmong pos ps.toList = some cv → ∃ c oc vs t, cv = .ref c ∧ (c, oc) ∈ R ∧ oc.data = .fields vs ∧ vs[1]? = some (.str qual t)
theorem TabG.nil {qual : Str} {R : List (Addr × Obj)} : TabG qual #[] R := ⟨trivial, fun _ _ h => by simp [codeAmong] at h⟩
theorem TabG.mono {qual : Str} {ps : Array Value} {R R' : List (Addr × Obj)} (h : TabG qual ps R) (hs : ∀ p ∈ R, p ∈ R') : TabG qual ps R' :=
  ⟨h.1, fun pos cv e => let ⟨c, oc, vs, t, a, b, r⟩ := h.2 pos cv e; ⟨c, oc, vs, t, a, hs _ b, r⟩⟩
theorem among_snoc {pos : Pos} {a b : Int} {c cv : Value} : ∀ (l : List Value), TriplesOk l → codeAmong pos (l ++ [rawInt a, rawInt b, c]) = some cv → codeAmong pos l = some cv ∨ cv = c := by
  intro l
  fun_induction TriplesOk l with
  | case1 =>
    intro _ h
    simp only [List.nil_append, codeAmong, rawInt] at h
    split at h
    · exact .inr (Option.some.inj h).symm
    · cases h
  | case2 x t y u z rest ih =>
    intro ht h
    simp only [List.cons_append, codeAmong] at h ⊢
    split at h
    · rename_i e; rw [if_pos e]; exact .inl h
    · rename_i e; rw [if_neg e]; exact ih ht h
  | case3 l h1 h2 => intro ht; exact ht.elim
theorem TabG.push {qual : Str} {ps : Array Value} {R : List (Addr × Obj)} {a b : Int} {c : Addr} {oc : Obj} {vs : Array Value} {t : Tok} (h : TabG qual ps R) (hd : oc.data = .fields vs) (hv : vs[1]? = some (.str qual t)) :
    TabG qual (ps ++ #[rawInt a, rawInt b, .ref c]) ([(c, oc)] ++ R) := by
  refine ⟨?_, fun pos cv e => ?_⟩
  · rw [Array.toList_append]; exact TriplesOk_snoc _ _ _ _ h.1
  · rw [Array.toList_append] at e
    rcases among_snoc _ h.1 e with e | e
    · obtain ⟨c', oc', vs', t', x, y, z⟩ := h.2 _ _ e
      exact ⟨c', oc', vs', t', x, List.mem_append_right _ y, z⟩
    · exact ⟨c, oc, vs, t, e, List.mem_append_left _ (.head _), hd, hv⟩
section
variable {M : Model} {A : Around} {E : Value → Shared → Prop} {s : Shared} {h₀ : Heap} {L a c P : Addr} {m mg mb : Str → Option Value} {cn : Str} {cs : Scope} {ccd : Value} {cl : List (Str × Addr)} {news R : List (Addr × Obj)} {g : Obj → List (Addr × Obj)}
  {p : Program} {loose : List Str} {mean : ExcName → Option Value} {name qual : Str} {params : Arguments} {scope : Scope} {ps : Array Value} {pos : Pos} {firstLine : Nat} {clos : List (Str × Addr)}
theorem updF_id {o : Obj} (U : UpdF P o news g) : g o = news := by
  obtain ⟨own, rest, rfl, hg, _⟩ := U.split
  rw [hg]
theorem nest_any {body : List Stmt} {Q : Value → Shared → Prop} (F : Fr h₀ L s.heap m) (N : News h₀ L s.heap news) (T : Top p loose mean mg mb h₀) (C : CodeHd h₀ c P) (hcd : ccd = .ref c) (U : UpdF P (tabObj ps) news g) (G : TabG qual ps R)
    (hcl : closureFor scope (envX cn cs L a ccd cl) = pure clos)
    (h : ∀ f c' oc vs t ctv doc ps' ex h' tk, Fr h₀ L h' m →
      News h₀ L h' ((f, fnMade name qual params body scope clos doc ((mg "__name__").getD .none) c' ctv) :: (ex ++ g (tabObj ps'))) → TabG qual ps' (ex ++ R) → (c', oc) ∈ ex ++ R →
      oc.data = .fields vs → vs[1]? = some (.str qual t) → (∀ q ∈ news, q.1 < f) → (∀ q ∈ ex, ∀ o ∈ news, o.1 < q.1) → Q (.ref f) { s with heap := h', toks := tk }) :
    wpAny M A (makeFunction name qual params (.stmts body) scope (envX cn cs L a ccd cl) [] [] [] pos firstLine) Q E s := by
  cases e : codeAmong pos ps.toList with
  | none =>
    refine nest_K F N T C hcd U G.1 e hcl ?_
    intro f c' oc vs t ctv doc h' tk F' N' d1 d2 l1 l2
    exact h f c' oc vs t ctv doc _ [(c', oc)] h' tk F' N' (G.push d1 d2) (.head _) d1 d2 (fun q hq => Nat.lt_trans (l1 q hq) l2) (fun q hq o ho => by rw [List.mem_singleton.mp hq]; exact l1 o ho)
  | some cv =>
    obtain ⟨c', oc, vs, t, rfl, hm, d1, d2⟩ := G.2 _ _ e
    have hP : (P, tabObj ps) ∈ news := by
      obtain ⟨own, rest, rfl, _⟩ := U.split
      exact List.mem_append_right _ (.head _)
    refine nestHit_K F N T C hcd hP G.1 e hcl ?_
    intro f ctv doc h' tk F' N' l1
    exact h f c' oc vs t ctv doc ps [] h' tk F' (by rw [List.nil_append, updF_id U]; exact N') (G.mono fun _ h => h) (by rw [List.nil_append]; exact hm) d1 d2 l1 (fun q hq => nomatch hq)
theorem lam_any {body : PySem.Expr} {Q : Value → Shared → Prop} (F : Fr h₀ L s.heap m) (N : News h₀ L s.heap news) (T : Top p loose mean mg mb h₀) (C : CodeHd h₀ c P) (hcd : ccd = .ref c) (U : UpdF P (tabObj ps) news g) (G : TabG qual ps R)
    (hcl : closureFor scope (envX cn cs L a ccd cl) = pure clos)
    (h : ∀ f c' oc vs t ctv ps' ex h' tk, Fr h₀ L h' m →
      News h₀ L h' ((f, kla_obj name qual params body scope clos ((mg "__name__").getD .none) c' ctv) :: (ex ++ g (tabObj ps'))) → TabG qual ps' (ex ++ R) → (c', oc) ∈ ex ++ R →
      oc.data = .fields vs → vs[1]? = some (.str qual t) → (∀ q ∈ news, q.1 < f) → (∀ q ∈ ex, ∀ o ∈ news, o.1 < q.1) → Q (.ref f) { s with heap := h', toks := tk }) :
    wpAny M A (makeFunction name qual params (.expr body) scope (envX cn cs L a ccd cl) [] [] [] pos firstLine) Q E s := by
  cases e : codeAmong pos ps.toList with
  | none =>
    refine kla_nest F N T C hcd U G.1 e hcl ?_
    intro f c' oc vs t ctv h' tk F' N' d1 d2 l1 l2
    exact h f c' oc vs t ctv _ [(c', oc)] h' tk F' N' (G.push d1 d2) (.head _) d1 d2 (fun q hq => Nat.lt_trans (l1 q hq) l2) (fun q hq o ho => by rw [List.mem_singleton.mp hq]; exact l1 o ho)
  | some cv =>
    obtain ⟨c', oc, vs, t, rfl, hm, d1, d2⟩ := G.2 _ _ e
    have hP : (P, tabObj ps) ∈ news := by
      obtain ⟨own, rest, rfl, _⟩ := U.split
      exact List.mem_append_right _ (.head _)
    refine kla_hit F N T C hcd hP G.1 e hcl ?_
    intro f ctv h' tk F' N' l1
    exact h f c' oc vs t ctv ps [] h' tk F' (by rw [List.nil_append, updF_id U]; exact N') (G.mono fun _ h => h) (by rw [List.nil_append]; exact hm) d1 d2 l1 (fun q hq => nomatch hq)
end
theorem nest_order3 {h₀ h : Heap} {L : Addr} {a b c d e : Addr × Obj} {ex rest : List (Addr × Obj)} (N : News h₀ L h (a :: (ex ++ b :: c :: d :: e :: rest))) : News h₀ L h (a :: b :: c :: d :: e :: (ex ++ rest)) :=
  cb_drop N fun p hp => by
    (revert p; (repeat' first | refine List.forall_mem_cons.mpr ⟨?_, ?_⟩ | refine List.forall_mem_append.mpr ⟨?_, ?_⟩); all_goals (try intro p hp); all_goals (repeat' first | assumption | exact List.Mem.head _ | exact List.mem_append_left _ (by assumption) | exact List.mem_append_right _ (by assumption) | exact absurd hp List.not_mem_nil | refine List.Mem.tail _ ?_ | refine List.mem_append_right _ ?_))
theorem allLt_get {d : Nat} {l : List (Addr × Obj)} (h : AllLt d l) (p : Addr × Obj) (hp : p ∈ l) : @LT.lt Nat _ p.1 d := kst_ltOf h p hp
theorem fr_let {g h : Heap} {L : Addr} {m : Str → Option Value} {P : Prop} (F : Fr g L h m) (k : let m' := m; Fr g L h m' → P) : P := k F
end
example : True := by
  k_with "k_enter" => first | (refine' code_def ?k1 ?k2 ?k3 ?k4 ?k5 ?kA ?kF ?kK ?k6 ?k7 ?k8 ?k9 ?kB ?_ ?c2 ?c3 ?c4 ?c5; (case kA => exact rfl); (case kF => exact rfl); (case kK => first | exact rfl | assumption); (case k1 => k_asm); (case k2 => k_asm); (case k3 => k_asm); (case k4 => k_asm); (case k5 => k_asm); (case k6 => k_is); (case k7 => k_is); (case k8 => k_room); (case k9 => first | exact BindsTo.of_eq rfl | exact binds_K (by k_in) rfl (by k_is) rfl rfl rfl | fail "k_enter: no rule for these arguments"); (case c5 => decide); (case kB => exact locs rfl); (case c2 => exact rfl); (case c3 => exact rfl); (case c4 => exact rfl); k_whole; intro g' L' h' FG' F' N' B' X' T'; (try dsimp only); (try k_lift B'); (refine fr_let F' ?_); clear F'; intro mF F'; (try k_fold)) | (refine' code_defC ?k1 ?k2 ?k3 ?k4 ?k5 ?kA ?kF ?kK ?k6 ?k7 ?k8 ?k9 ?kB ?kD ?_ ?c2 ?c3 ?c4; (case kA => exact rfl); (case kF => exact rfl); (case kK => first | exact rfl | assumption); (case k1 => k_asm); (case k2 => k_asm); (case k3 => k_asm); (case k4 => k_asm); (case k5 => k_asm); (case k6 => k_is); (case k7 => k_is); (case k8 => k_room); (case k9 => first | exact BindsTo.of_eq rfl | exact binds_K (by k_in) rfl (by k_is) rfl rfl rfl | fail "k_enter: no rule for these arguments"); (case kB => exact rfl); (case kD => decide +kernel); (case c2 => exact rfl); (case c3 => exact rfl); (case c4 => exact rfl); k_whole; intro g' L' h' tk' cells' FG' F' N' Y' B' X' T' l1; (try k_lt l1); k_cells Y'; (try simp only [List.cons_append, List.nil_append] at N'); (try dsimp only); (try k_lift B'); (refine fr_let F' ?_); clear F'; intro mF F'; (try k_fold))
  trivial
section
/-- a turn's end: the iterator as it stands, a ledger of any addresses beside it -/
def TurnEnd (h₀ : Heap) (L : Addr) (I : Addr) (oI : Obj) (J : (Str → Option Value) → List (Addr × Obj) → Prop) (s₁ s₂ : Shared) : Prop :=
  ∃ h' tk m' nx, s₂ = { s₁ with heap := h', toks := tk } ∧ Fr h₀ L h' m' ∧ News h₀ L h' ((I, oI) :: nx) ∧ (∀ p ∈ nx, p.1 ≠ I) ∧ J m' nx
def TurnPost (h₀ : Heap) (L : Addr) (I : Addr) (oI : Obj) (J : (Str → Option Value) → List (Addr × Obj) → Prop) (s₁ : Shared) (Q : Flow → Shared → Prop) (f : Flow) (s₂ : Shared) : Prop :=
  match f with
  | .ret v => Q (.ret v) s₂
  | .brk => Q .next s₂
  | _ => TurnEnd h₀ L I oI J s₁ s₂
theorem TurnEnd.intro {h₀ : Heap} {L I : Addr} {oI : Obj} {J : (Str → Option Value) → List (Addr × Obj) → Prop} {s₁ : Shared} {h' : Heap} {tk : Nat} {m' : Str → Option Value} {nx all : List (Addr × Obj)}
    (F : Fr h₀ L h' m') (N : News h₀ L h' all) (hs : ∀ p ∈ (I, oI) :: nx, p ∈ all) (off : ∀ p ∈ nx, p.1 ≠ I) (hj : J m' nx) : TurnEnd h₀ L I oI J s₁ { s₁ with heap := h', toks := tk } :=
  ⟨h', tk, m', nx, rfl, F, fun p hp => N p (hs p hp), off, hj⟩
section
variable {prog : Program} {w : World} {A : Around} {E : Value → Shared → Prop} {s : Shared} {env : Env} {h₀ : Heap} {x : Str} {body : List Stmt} {Q : Flow → Shared → Prop}
theorem my_loop {I : Addr} {n : Nat} {Pv : Nat → Value → Prop} {St : Nat → Heap → Prop} {m₀ : Str → Option Value} {news : List (Addr × Obj)} (J : Nat → (Str → Option Value) → List (Addr × Obj) → Prop)
    (W : Walks prog w A I [I] [I] n Pv St) (hL : env.locals ≠ I) (hI : h₀.get? I = none) (hsm : ∀ i h, St i h → ∃ o, h.get? I = some o) (hst : St 0 s.heap) (F : Fr h₀ env.locals s.heap m₀) (N : News h₀ env.locals s.heap news) (off : ∀ p ∈ news, p.1 ≠ I) (hj : J 0 m₀ news)
    (turn : ∀ i v m₁ nx h tk oI, i < n → Pv i v → (∀ p ∈ nx, p.1 ≠ I) → J i m₁ nx → Fr h₀ env.locals h (fun y => if y = x then some v else m₁ y) → News h₀ env.locals h ((I, oI) :: nx) →
      wpAny (model prog w) A (execs body env) (TurnPost h₀ env.locals I oI (J (i + 1)) { s with heap := h, toks := tk } Q) E { s with heap := h, toks := tk })
    (done : ∀ m₁ nx h tk, J n m₁ nx → Fr h₀ env.locals h m₁ → News h₀ env.locals h nx → Q .next { s with heap := h, toks := tk }) :
    LoopAtV prog w A h₀ env x body Q E (.ref I) s := by
  refine ⟨I, [I], [I], n, Pv, St, m₀, news, J, rfl, W, fun hm => hL (List.mem_singleton.mp hm), fun b hb => by rw [List.mem_singleton.mp hb]; exact hI, fun p hp hq => off p hp (List.mem_singleton.mp hq), hst, F, N, hj, ?_, ?_⟩
  · intro i v m₁ nx s₁ own hp9_6 hi hv hJ hoff hown _ hin hst' F₁ N₁
    first | ((first | refine ex0_3 (hp9_6) ?_ | refine ex1_2 (hp9_6) ?_ | refine ex2_1 (hp9_6) ?_); (try clear hp9_6); intro h tk hr9_0; subst hr9_0) | obtain ⟨h, tk, rfl⟩ := (hp9_6)
    first | ((first | refine ex0_2 (hsm _ _ hst') ?_ | refine ex1_1 (hsm _ _ hst') ?_); intro oI hoI) | obtain ⟨oI, hoI⟩ := (hsm _ _ hst')
    have hmem := hin I (List.mem_singleton.mpr rfl) hI oI hoI
    have own1 : ∀ p ∈ own, p = (I, oI) := fun p hp => by
      have e := List.mem_singleton.mp (hown p hp)
      have h1 := (N₁ p (List.mem_append_left _ hp)).1
      rw [e] at h1
      rw [hoI] at h1
      cases h1
      cases p; cases e; rfl
    have N₂ : News h₀ env.locals h ((I, oI) :: nx) := fun p hp => by
      rcases List.mem_cons.mp hp with rfl | hp
      · exact N₁ _ (List.mem_append_left _ hmem)
      · exact N₁ _ (List.mem_append_right _ hp)
    refine wpAny_mono (turn i v m₁ nx h tk oI hi hv (fun p hp hq => hoff p hp (List.mem_singleton.mpr hq)) hJ F₁ N₂) (fun f s₂ p => ?_) fun _ _ e => e
    have fin : TurnEnd h₀ env.locals I oI (J (i + 1)) { s with heap := h, toks := tk } s₂ → LoopStepU h₀ env.locals [I] own (J (i + 1)) { s with heap := h, toks := tk } .next s₂ := by
      intro hp9_0
      first | ((first | refine ex0_9 (hp9_0) ?_ | refine ex3_6 (hp9_0) ?_ | refine ex4_5 (hp9_0) ?_ | refine ex6_3 (hp9_0) ?_); (try clear hp9_0); intro h' tk' m' nx' e F' N' hoff' hj') | obtain ⟨h', tk', m', nx', e, F', N', hoff', hj'⟩ := (hp9_0)
      refine ⟨rfl, h', tk', m', nx', e, F', fun p hp => ?_, fun p hp hq => hoff' p hp (List.mem_singleton.mp hq), hj'⟩
      rcases List.mem_append.mp hp with hp | hp
      · rw [own1 p hp]; exact N' _ (.head _)
      · exact N' _ (.tail _ hp)
    cases f with
    | ret v => exact p
    | brk => exact p
    | next => exact fin p
    | cont => exact fin p
  · rintro h' tk m' nx F' N' _ hJ
    exact done m' nx h' tk hJ F' N'
theorem my_text {σ : Type} {xt : Str} {tx : Tok} {m₀ : Str → Option Value} (Led : σ → List (Addr × Obj)) (ps : σ → List (Str × Value)) (Facts : σ → Prop) (stored : List Str) (P : List Int → σ → Prop) (c₀ : σ)
    (hh : A.handled = none) (F : Fr h₀ env.locals s.heap m₀) (N : News h₀ env.locals s.heap (Led c₀)) (hf : Facts c₀) (hk : ∀ p ∈ ps c₀, m₀ p.1 = some p.2) (hp : P [] c₀)
    (turn : ∀ (c : σ) (pre post : List Int) (n : Nat) t (u : Str → Option Value) h tk I oI, KStt.codes xt = pre ++ (n : Int) :: post → (∀ p ∈ Led c, p.1 ≠ I) → Facts c → P pre c →
      Fr h₀ env.locals h (fun y => if y = x then some (.str ⟨#[n]⟩ t) else kstB (fun z => if stored.contains z then u z else m₀ z) (ps c) y) → News h₀ env.locals h ((I, oI) :: Led c) →
      wpAny (model prog w) A (execs body env) (TurnPost h₀ env.locals I oI (KstS Led ps Facts x stored m₀ P (pre ++ [(n : Int)])) { s with heap := h, toks := tk } Q) E { s with heap := h, toks := tk })
    (done : ∀ (c : σ) (u : Str → Option Value) h tk, Facts c → P (KStt.codes xt) c → Fr h₀ env.locals h (fun y => if y = x then u y else kstB (fun z => if stored.contains z then u z else m₀ z) (ps c) y) → News h₀ env.locals h (Led c) → Q .next { s with heap := h, toks := tk }) :
    wpAny (model prog w) A (pyIter (.str xt tx)) (fun it s₂ => LoopAtV prog w A h₀ env x body Q E it s₂) E s := by
  have key : ∀ (o : Obj) (St : Nat → Heap → Prop), Walks prog w A s.heap.objs.size [s.heap.objs.size] [s.heap.objs.size] xt.cps.size (SignAt xt) St → (∀ i h, St i h → ∃ o, h.get? s.heap.objs.size = some o) → St 0 (s.heap.push o) →
      LoopAtV prog w A h₀ env x body Q E (.ref s.heap.objs.size) { s with heap := s.heap.push o } := by
    intro o St W hsm hst
    refine my_loop (fun i m nx => KstS Led ps Facts x stored m₀ P ((KStt.codes xt).take i) m nx) W (Nat.ne_of_lt F.ns.lt) (next_is_new F) hsm hst (F.push _) (fun p hp => ⟨Heap.get?_push_of_some _ (N p hp).1, (N p hp).2⟩) (fun p hp => Nat.ne_of_lt (Heap.lt_size (N p hp).1)) ⟨c₀, rfl, hf, hk, fun _ _ _ _ => rfl, by simpa using hp⟩ ?_ ?_
    · intro i v m₁ nx h tk oI hi hp9_8 off hp9_10 F₁ N₁
      first | ((first | refine ex0_4 (hp9_8) ?_ | refine ex1_3 (hp9_8) ?_ | refine ex2_2 (hp9_8) ?_); (try clear hp9_8); intro n u hn hr9_0; subst hr9_0) | obtain ⟨n, u, hn, rfl⟩ := (hp9_8)
      first | ((first | refine ex0_6 (hp9_10) ?_ | refine ex1_5 (hp9_10) ?_ | refine ex2_4 (hp9_10) ?_ | refine ex3_3 (hp9_10) ?_); (try clear hp9_10); intro c hr9_0 hf' h1 h2 hp'; subst hr9_0) | obtain ⟨c, rfl, hf', h1, h2, hp'⟩ := (hp9_10)
      have hn' := KStt.code_at hn
      have hs : (KStt.codes xt).take (i + 1) = (KStt.codes xt).take i ++ [(n : Int)] := by simp [List.take_add_one, hn']
      have e : KStt.codes xt = (KStt.codes xt).take i ++ (n : Int) :: (KStt.codes xt).drop (i + 1) := by
        have ht := List.take_append_drop (i + 1) (KStt.codes xt)
        rw [hs, List.append_assoc] at ht
        exact ht.symm
      rw [hs]
      exact turn c _ _ n u m₁ h tk _ oI e off hf' hp' (kst_fr h1 h2 F₁) N₁
    · intro m₁ nx h tk hp9_4 F₁ N₁
      first | ((first | refine ex0_6 (hp9_4) ?_ | refine ex1_5 (hp9_4) ?_ | refine ex2_4 (hp9_4) ?_ | refine ex3_3 (hp9_4) ?_); (try clear hp9_4); intro c hr9_0 hf' h1 h2 hp'; subst hr9_0) | obtain ⟨c, rfl, hf', h1, h2, hp'⟩ := (hp9_4)
      have hl : xt.cps.size = (KStt.codes xt).length := (KStt.codes_length xt).symm
      rw [hl, List.take_length] at hp'
      exact done c m₁ h tk hf' hp' (kst_frOut h1 h2 F₁) N₁
  cases ha : xt.cps.all (· < 128)
  · exact wpAny_pyIter_wide ha (key _ _ (Walks.strWide hh _ xt tx) (fun i h st => by obtain ⟨o, e, _⟩ := st; exact ⟨o, e⟩) ⟨_, Heap.get?_push_size _ rfl, rfl, rfl⟩)
  · exact wpAny_pyIter_ascii ha (key _ _ (Walks.strAscii hh _ xt tx) (fun i h st => by obtain ⟨o, e, _⟩ := st; exact ⟨o, e⟩) ⟨_, Heap.get?_push_size _ rfl, rfl, rfl⟩)
theorem my_range {σ : Type} {r : Addr} {a b : Int} {t u v : Tok} {n : Nat} {m₀ : Str → Option Value} (Led : σ → List (Addr × Obj)) (ps : σ → List (Str × Value)) (Facts : σ → Prop) (stored : List Str) (P : Nat → σ → Prop) (c₀ : σ)
    (hh : A.handled = none) (hr : IsRange s.heap r a b 1 t u v) (hsm : Builtin.Range.small a b 1 = true) (hn : Builtin.Range.rangeSize a b 1 = ((n : Nat) : Int))
    (F : Fr h₀ env.locals s.heap m₀) (N : News h₀ env.locals s.heap (Led c₀)) (hf : Facts c₀) (hk : ∀ p ∈ ps c₀, m₀ p.1 = some p.2) (hp : P 0 c₀)
    (turn : ∀ (c : σ) (i : Nat) t (u : Str → Option Value) h tk I oI, i < n → (∀ p ∈ Led c, p.1 ≠ I) → Facts c → P i c →
      Fr h₀ env.locals h (fun y => if y = x then some (.int (a + (i : Int)) t) else kstB (fun z => if stored.contains z then u z else m₀ z) (ps c) y) → News h₀ env.locals h ((I, oI) :: Led c) →
      wpAny (model prog w) A (execs body env) (TurnPost h₀ env.locals I oI (KstS Led ps Facts x stored m₀ (fun _ => P (i + 1)) []) { s with heap := h, toks := tk } Q) E { s with heap := h, toks := tk })
    (done : ∀ (c : σ) (u : Str → Option Value) h tk, Facts c → P n c → Fr h₀ env.locals h (fun y => if y = x then u y else kstB (fun z => if stored.contains z then u z else m₀ z) (ps c) y) → News h₀ env.locals h (Led c) → Q .next { s with heap := h, toks := tk }) :
    wpAny (model prog w) A (pyIter (.ref r)) (fun it s₂ => LoopAtV prog w A h₀ env x body Q E it s₂) E s := by
  refine wpAny_pyIter_range hr hsm ?_
  refine my_loop (fun i m nx => KstS Led ps Facts x stored m₀ (fun _ => P i) [] m nx) (LCg.range_walks hh a n) (Nat.ne_of_lt F.ns.lt) (next_is_new F) (fun i h st => ⟨_, st⟩) ?_ (F.push _) (fun p hp => ⟨Heap.get?_push_of_some _ (N p hp).1, (N p hp).2⟩) (fun p hp => Nat.ne_of_lt (Heap.lt_size (N p hp).1)) ⟨c₀, rfl, hf, hk, fun _ _ _ _ => rfl, hp⟩ ?_ ?_
  · show IsRangeIter _ _ _ _ _
    rw [hn]; simpa using Heap.get?_push_size _ rfl
  · intro i v m₁ nx h tk oI hi hp9_8 off hp9_10 F₁ N₁
    first | ((first | refine ex0_2 (hp9_8) ?_ | refine ex1_1 (hp9_8) ?_); (try clear hp9_8); intro t hr9_0; subst hr9_0) | obtain ⟨t, rfl⟩ := (hp9_8)
    first | ((first | refine ex0_6 (hp9_10) ?_ | refine ex1_5 (hp9_10) ?_ | refine ex2_4 (hp9_10) ?_ | refine ex3_3 (hp9_10) ?_); (try clear hp9_10); intro c hr9_0 hf' h1 h2 hp'; subst hr9_0) | obtain ⟨c, rfl, hf', h1, h2, hp'⟩ := (hp9_10)
    exact turn c i t m₁ h tk _ oI hi off hf' hp' (kst_fr h1 h2 F₁) N₁
  · intro m₁ nx h tk hp9_4 F₁ N₁
    first | ((first | refine ex0_6 (hp9_4) ?_ | refine ex1_5 (hp9_4) ?_ | refine ex2_4 (hp9_4) ?_ | refine ex3_3 (hp9_4) ?_); (try clear hp9_4); intro c hr9_0 hf' h1 h2 hp'; subst hr9_0) | obtain ⟨c, rfl, hf', h1, h2, hp'⟩ := (hp9_4)
    exact done c m₁ h tk hf' hp' (kst_frOut h1 h2 F₁) N₁
end
/-- where this mark stands in the context the walk halts at a loop over an object -/
structure HaltMark : Prop where
theorem haltMark : HaltMark := ⟨⟩
def Halt (P : Prop) : Prop := P
theorem halt_intro {P : Prop} (h : Halt P) : P := h
end
example : True := by
  k_with "pyIter ref" => ((rename HaltMark => hM9); refine halt_intro ?_)
  trivial
section
section
variable {prog : Program} {w : World} {A : Around} {E : Value → Shared → Prop} {s : Shared} {h₀ : Heap} {L l : Addr} {m : Str → Option Value} {news : List (Addr × Obj)} {vs : List Value} {ns : List Int} {n : Nat} {Q : Value → Shared → Prop}
theorem my_lenT (N : News h₀ L s.heap news) (hm : (l, ({ cls := .type "tuple", data := .seq vs.toArray n } : Obj)) ∈ news) (hi : IntsAre vs ns) (hfit : (ns.length : Int) < 2 ^ 63)
    (h : Q (.int (ns.length : Int) (s.toks + 1)) { s with toks := s.toks + 1 + 1 }) : wpAny (model prog w) A (call (.builtin "len") [.ref l]) Q E s := by
  have e : vs.toArray.size = ns.length := by rw [List.size_toArray]; exact hi.length
  exact PyProof.Rows.len_tuple (News.isTup N hm) (by rw [e]; exact hfit) (by rw [e]; exact h)
theorem seqIx {k : Int} {n : Nat} (h0 : 0 ≤ k) (h1 : k < n) : seqIndex? k n = some k.toNat := by
  unfold seqIndex?
  have h2 : ¬ k < 0 := by omega
  simp [h2, h0, h1]
theorem my_itemT {value slice : PySem.Expr} {k : Int} {u : Tok} (N : News h₀ L s.heap news) (hm : (l, ({ cls := .type "tuple", data := .seq vs.toArray n } : Obj)) ∈ news) (hi : IntsAre vs ns) (h0 : 0 ≤ k) (h1 : k < (ns.length : Int)) (hfit : k < 2 ^ 63)
    (h : ∀ t', Q (.int (ns.getD k.toNat 0) t') s)
    (hs : subscripted slice false (.ref l) (.int k u) = operate [.ref l, .int k u] (getItem (.ref l) (.int k u)) := by with_unfolding_all rfl) :
    wpAny (model prog w) A (subscriptTail value slice (.ref l) (.int k u)) Q E s := by
  obtain ⟨t, hx⟩ := hi.get k.toNat (ns.getD k.toNat 0) (by
    have h2 : k.toNat < ns.length := by omega
    simp [List.getD, h2])
  have hl : vs.length = ns.length := hi.length
  refine item_tupleT (News.isTup N hm) (by omega) hfit (seqIx h0 (by rw [hl]; exact h1)) hx (h t) hs
theorem my_itemL {value slice : PySem.Expr} {k : Int} {u : Tok} (N : News h₀ L s.heap news) (hm : (l, W.listOf vs.toArray n) ∈ news) (hi : IntsAre vs ns) (h0 : 0 ≤ k) (h1 : k < (ns.length : Int)) (hfit : k < 2 ^ 63)
    (h : ∀ t', Q (.int (ns.getD k.toNat 0) t') s)
    (hs : subscripted slice false (.ref l) (.int k u) = operate [.ref l, .int k u] (getItem (.ref l) (.int k u)) := by with_unfolding_all rfl) (hg : ∀ r, letTemporaryGo value (.ref l) r = pure () := by intro _; with_unfolding_all rfl) :
    wpAny (model prog w) A (subscriptTail value slice (.ref l) (.int k u)) Q E s := by
  obtain ⟨t, hx⟩ := hi.get k.toNat (ns.getD k.toNat 0) (by
    have h2 : k.toNat < ns.length := by omega
    simp [List.getD, h2])
  exact item_list (News.isList N hm) h0 hfit (by simpa using hx) (h t) hs hg
theorem my_truthyL {k : Nat} {Q : Bool → Shared → Prop} (N : News h₀ L s.heap news) (hm : (l, W.listOf vs.toArray n) ∈ news) (hk : vs.length = k) (hfit : (k : Int) < 2 ^ 63)
    (h1 : 0 < k → Q true { s with toks := s.toks + 1 + 1 }) (h0 : k = 0 → Q false { s with toks := s.toks + 1 + 1 }) : wpAny (model prog w) A (truthy (.ref l)) Q E s := by
  have e : vs.toArray.size = k := by rw [List.size_toArray]; exact hk
  refine wpAny_truthy_list (News.isList N hm) (by rw [e]; exact hfit) ?_
  by_cases hz : k = 0
  · have := h0 hz
    rw [hz, List.size_toArray] at e
    rw [List.eq_nil_of_length_eq_zero e]; exact this
  · have := h1 (Nat.pos_of_ne_zero hz)
    cases vs with
    | nil => exact absurd hk.symm hz
    | cons v r => exact this
theorem my_lenL {k : Nat} (N : News h₀ L s.heap news) (hm : (l, W.listOf vs.toArray n) ∈ news) (hk : vs.length = k) (hfit : (k : Int) < 2 ^ 63)
    (h : Q (.int (k : Int) (s.toks + 1)) { s with toks := s.toks + 1 + 1 }) : wpAny (model prog w) A (call (.builtin "len") [.ref l]) Q E s := by
  have e : vs.toArray.size = k := by rw [List.size_toArray]; exact hk
  exact PyProof.Rows.len_list (News.isList N hm) (by rw [e]; exact hfit) (by rw [e]; exact h)
end
end
example : True := by
  k_with "call builtin:len" => (k_here; (with_reducible show wpAny _ _ (call (Value.builtin "len") [Value.ref _]) _ _ _); k_dflt (refine' my_lenT ?k1 ?k2 ?k3 ?k4 ?_; (case k1 => k_asm); (case k2 => k_mem); (case k3 => assumption); (case k4 => omega); k_whole))
  k_with "subscriptTail Name Name ref int" => (k_here; (with_reducible show wpAny _ _ (subscriptTail _ _ (Value.ref _) (Value.int _ _)) _ _ _); k_dflt (refine' my_itemT ?k1 ?k2 ?k3 ?k4 ?k5 ?k6 ?_ ?k7; (case k1 => k_asm); (case k2 => k_mem); (case k3 => assumption); (case k4 => omega); (case k5 => omega); (case k6 => omega); (case k7 => with_unfolding_all rfl); k_whole); intro t')
  k_with "subscriptTail Name Name ref int" => (k_here; (with_reducible show wpAny _ _ (subscriptTail _ _ (Value.ref _) (Value.int _ _)) _ _ _); k_dflt (refine' my_itemL ?k1 ?k2 ?k3 ?k4 ?k5 ?k6 ?_ ?k7 ?k8; (case k1 => k_asm); (case k2 => k_mem); (case k3 => assumption); (case k4 => omega); (case k5 => omega); (case k6 => omega); (case k7 => with_unfolding_all rfl); (case k8 => intro _; with_unfolding_all rfl); k_whole); intro t')
  k_with "truthy ref" => (k_here; k_dflt (refine' my_truthyL ?k1 ?k2 ?k3 ?k4 ?_ ?_; (case k1 => k_asm); (case k2 => k_mem); (case k3 => assumption); (case k4 => omega)); (all_goals intro hz9))
  k_with "call builtin:len" => (k_here; (with_reducible show wpAny _ _ (call (Value.builtin "len") [Value.ref _]) _ _ _); k_dflt (refine' my_lenL ?k1 ?k2 ?k3 ?k4 ?_; (case k1 => k_asm); (case k2 => k_mem); (case k3 => assumption); (case k4 => omega); k_whole))
  trivial
section
theorem nat_and_shift (a k : Nat) : a &&& (a / 2 ^ k * 2 ^ k) = a / 2 ^ k * 2 ^ k := by
  apply Nat.eq_of_testBit_eq
  intro i
  rw [Nat.testBit_and, Nat.testBit_mul_two_pow, Nat.testBit_div_two_pow]
  by_cases h : i < k
  · simp [Nat.not_le.mpr h]
  · have h2 : k ≤ i := Nat.le_of_not_lt h
    simp [h2, Nat.sub_add_cancel h2]
theorem bitXor_low {x : Int} (h : 0 ≤ x) (k : Nat) : Builtin.bitXor x (x.fdiv (2 ^ k) * 2 ^ k) = x % 2 ^ k := by
  have hp : (0 : Int) < 2 ^ k := Int.pow_pos (by decide)
  obtain ⟨n, rfl⟩ := Int.eq_ofNat_of_zero_le h
  have e : (n : Int).fdiv (2 ^ k) * 2 ^ k = ((n / 2 ^ k * 2 ^ k : Nat) : Int) := by
    rw [Int.fdiv_eq_ediv_of_nonneg _ (Int.le_of_lt hp)]
    push_cast
    rfl
  rw [bitXor_and, e]
  have e2 : Builtin.bitAnd (n : Int) ((n / 2 ^ k * 2 ^ k : Nat) : Int) = ((n / 2 ^ k * 2 ^ k : Nat) : Int) := by
    unfold Builtin.bitAnd
    have h1 : decide ((0 : Int) ≤ (n : Int)) = true := decide_eq_true (Int.natCast_nonneg _)
    have h2 : decide ((0 : Int) ≤ ((n / 2 ^ k * 2 ^ k : Nat) : Int)) = true := decide_eq_true (Int.natCast_nonneg _)
    rw [h1, h2]
    show (((n : Int).toNat &&& ((n / 2 ^ k * 2 ^ k : Nat) : Int).toNat : Nat) : Int) = _
    rw [Int.toNat_natCast, Int.toNat_natCast, nat_and_shift]
  rw [e2]
  have e3 := Nat.div_add_mod n (2 ^ k)
  have e4 : (n : Int) % 2 ^ k = ((n % 2 ^ k : Nat) : Int) := by push_cast; rfl
  rw [e4]
  rw [Nat.mul_comm] at e3
  omega
def digs (b : Nat) : Nat → Int → List Int
  | 0, _ => []
  | k + 1, x => x % 2 ^ b :: digs b k (x / 2 ^ b)
theorem digs_len (b : Nat) : ∀ k x, (digs b k x).length = k
  | 0, _ => rfl
  | k + 1, x => by simp [digs, digs_len b k]
theorem emod_mul_ediv (x m n : Int) (hm : 0 < m) : x % (m * n) / m = x / m % n := by
  have h1 : x % (m * n) = x + m * (-(n * (x / (m * n)))) := by
    rw [Int.emod_def, Int.mul_neg, ← Int.mul_assoc]; omega
  rw [h1, Int.add_mul_ediv_left _ _ (by omega), Int.emod_def, Int.ediv_ediv_of_nonneg (Int.le_of_lt hm)]
  omega
theorem digs_split (b : Nat) : ∀ (i j : Nat) (x : Int), digs b (i + j) x = digs b i (x % 2 ^ (b * i)) ++ digs b j (x / 2 ^ (b * i))
  | 0, j, x => by simp [digs]
  | i + 1, j, x => by
    have hp : (0 : Int) < 2 ^ b := Int.pow_pos (by decide)
    rw [show i + 1 + j = (i + j) + 1 by omega]
    simp only [digs, List.cons_append]
    rw [digs_split b i j]
    have e : (2 : Int) ^ (b * (i + 1)) = 2 ^ b * 2 ^ (b * i) := by rw [Nat.mul_succ, Int.pow_add, Int.mul_comm]
    rw [e, emod_mul_ediv _ _ _ hp, Int.emod_emod_of_dvd _ (Int.dvd_mul_right _ _), ← Int.ediv_ediv_of_nonneg (Int.le_of_lt hp)]
end
section
def colStep (size : Int) (c : Int) (ch : Int) : Int := if ch = 32 then c + 1 else c + size - Int.fmod c size
def colOf (size : Int) (l : List Int) : Int := l.foldl (colStep size) 0
theorem colOf_snoc (size : Int) (l : List Int) (c : Int) : colOf size (l ++ [c]) = colStep size (colOf size l) c := by
  simp [colOf]
theorem fmod_b {a b : Int} (h : 0 < b) : 0 ≤ Int.fmod a b ∧ Int.fmod a b < b := by
  rw [Int.fmod_eq_emod_of_nonneg _ (Int.le_of_lt h)]
  exact ⟨Int.emod_nonneg _ (by omega), Int.emod_lt_of_pos _ h⟩
theorem one_eq {n k : Nat} {s : Str} (hs : s = { cps := #[k] }) (h : (({ cps := #[n] } : Str) == s) = true) : n = k := by
  have h2 := eq_of_beq h
  rw [hs] at h2
  have h3 := congrArg (fun s : Str => s.cps.toList) h2
  simpa using h3
theorem one_ne {n k : Nat} {s : Str} (hs : s = { cps := #[k] }) (h : (({ cps := #[n] } : Str) == s) = false) : n ≠ k := by
  rintro rfl; rw [hs] at h; simp at h
theorem sp_is : (Str.ofString " ") = { cps := #[32] } := by decide +kernel
theorem tab_is : (Str.ofString "\t") = { cps := #[9] } := by decide +kernel
theorem col_t {size c : Int} {n : Nat} {pre : List Int} (h : (({ cps := #[n] } : Str) == (Str.ofString " ")) = true) (e : c = colOf size pre) (e0 : 0 ≤ c) (e1 : c ≤ 6 * pre.length) :
    c + 1 = colOf size (pre ++ [(n : Int)]) ∧ 0 ≤ c + 1 ∧ c + 1 ≤ 6 * ((pre ++ [(n : Int)]).length : Int) := by
  have := one_eq sp_is h
  subst this
  refine ⟨by rw [colOf_snoc, ← e]; rfl, by omega, by simp only [List.length_append, List.length_singleton]; omega⟩
theorem col_f {size c : Int} {n : Nat} {pre : List Int} (hs : 0 < size ∧ size ≤ 6) (h : (({ cps := #[n] } : Str) == (Str.ofString " ")) = false) (e : c = colOf size pre) (e0 : 0 ≤ c) (e1 : c ≤ 6 * pre.length) :
    c + size - Int.fmod c size = colOf size (pre ++ [(n : Int)]) ∧ 0 ≤ c + size - Int.fmod c size ∧ c + size - Int.fmod c size ≤ 6 * ((pre ++ [(n : Int)]).length : Int) := by
  have h1 := one_ne sp_is h
  have h2 := fmod_b (a := c) hs.1
  refine ⟨?_, by omega, by simp only [List.length_append, List.length_singleton]; omega⟩
  rw [colOf_snoc, ← e]
  unfold colStep
  rw [if_neg (by omega)]
theorem column_does (w : World) (news : List (Addr × Obj)) (x : Str) (t : Tok) (size : Int) (t' : Tok) (hs : 0 < size ∧ size ≤ 6) :
    Does w news 1 30 177 [.str x t, .int size t'] [] (Keeps1 news fun r => ∃ t, r = .int (colOf size (KStt.codes x)) t) := by
  unfold Does
  w_top off
  k_fill
  intro p loose mean mg mb dp un' gd cn cs a ccd cl outer A₀ base h₀ L m s Q E B F X N T hk C1 C2 C3 hd hu hret
  refine wpAny_call ?_
  k_dflt ktr_enter
  k_with "state" => first | exact ⟨rfl, by decide, by decide⟩ | exact col_t (by first | with_reducible assumption | assumption) (by first | with_reducible assumption | assumption) (by first | with_reducible assumption | assumption) (by assumption) | exact col_f hs (by first | with_reducible assumption | assumption) (by first | with_reducible assumption | assumption) (by first | with_reducible assumption | assumption) (by assumption)
  k_with "pyIter str" => k_state (fun pre column => column = colOf size pre ∧ 0 ≤ column ∧ column ≤ 6 * pre.length) "column"
  k_steps
  rename (_ = colOf _ _) => e
  subst e
  exact keep_ret hret (by k_asm) (by k_asm) (fun _ h => h) ⟨_, rfl⟩
example : True := by
  k_with_none
  k_with "k_room" => ktr_room
  k_with "k_mem" => ((fail_if_success (with_reducible_and_instances refine List.mem_cons_of_mem _ ?_)); (with_reducible_and_instances refine List.mem_append_right _ ?_); k_mem)
  k_with "k_mem" => ((fail_if_success (with_reducible_and_instances refine List.mem_cons_of_mem _ ?_)); (with_reducible_and_instances refine List.mem_append_left _ ?_); k_mem)
  k_with "k_mem" => assumption
  k_with "k_all" => first | exact List.forall_mem_nil _ | assumption | (refine' List.forall_mem_cons.mpr ⟨?a, ?b⟩; (case a => k_ne); (case b => k_all))
  k_with "call ref" => k_dflt (k_extra "my call")
  k_with "my tail" => (intro r9 news9 h9 tk9 F9 N9 P9; obtain ⟨e9, t9, q9⟩ := P9; replace e9 := e9.symm; subst e9; subst q9; (try (k_unfold; (try dsimp only))); (try dsimp only); (try k_fold))
  k_with "k_enter" => first | (refine' code_def ?k1 ?k2 ?k3 ?k4 ?k5 ?kA ?kF ?kK ?k6 ?k7 ?k8 ?k9 ?kB ?_ ?c2 ?c3 ?c4 ?c5; (case kA => exact rfl); (case kF => exact rfl); (case kK => first | exact rfl | assumption); (case k1 => k_asm); (case k2 => k_asm); (case k3 => k_asm); (case k4 => k_asm); (case k5 => k_asm); (case k6 => k_is); (case k7 => k_is); (case k8 => k_room); (case k9 => first | exact BindsTo.of_eq rfl | exact binds_K (by k_in) rfl (by k_is) rfl rfl rfl | fail "k_enter: no rule for these arguments"); (case c5 => decide); (case kB => exact locs rfl); (case c2 => exact rfl); (case c3 => exact rfl); (case c4 => exact rfl); k_whole; intro g' L' h' FG' F' N' B' X' T'; (try dsimp only); (try k_lift B'); (refine fr_let F' ?_); clear F'; intro mF F'; (try k_fold)) | (refine' code_defC ?k1 ?k2 ?k3 ?k4 ?k5 ?kA ?kF ?kK ?k6 ?k7 ?k8 ?k9 ?kB ?kD ?_ ?c2 ?c3 ?c4; (case kA => exact rfl); (case kF => exact rfl); (case kK => first | exact rfl | assumption); (case k1 => k_asm); (case k2 => k_asm); (case k3 => k_asm); (case k4 => k_asm); (case k5 => k_asm); (case k6 => k_is); (case k7 => k_is); (case k8 => k_room); (case k9 => first | exact BindsTo.of_eq rfl | exact binds_K (by k_in) rfl (by k_is) rfl rfl rfl | fail "k_enter: no rule for these arguments"); (case kB => exact rfl); (case kD => decide +kernel); (case c2 => exact rfl); (case c3 => exact rfl); (case c4 => exact rfl); k_whole; intro g' L' h' tk' cells' FG' F' N' Y' B' X' T' l1; (try k_lt l1); k_cells Y'; (try simp only [List.cons_append, List.nil_append] at N'); (try dsimp only); (try k_lift B'); (refine fr_let F' ?_); clear F'; intro mF F'; (try k_fold))
  k_with "pyIter ref" => ((rename HaltMark => hM9); refine halt_intro ?_)
  k_with "call builtin:len" => (k_here; (with_reducible show wpAny _ _ (call (Value.builtin "len") [Value.ref _]) _ _ _); k_dflt (refine' my_lenT ?k1 ?k2 ?k3 ?k4 ?_; (case k1 => k_asm); (case k2 => k_mem); (case k3 => assumption); (case k4 => omega); k_whole))
  k_with "subscriptTail Name Name ref int" => (k_here; (with_reducible show wpAny _ _ (subscriptTail _ _ (Value.ref _) (Value.int _ _)) _ _ _); k_dflt (refine' my_itemT ?k1 ?k2 ?k3 ?k4 ?k5 ?k6 ?_ ?k7; (case k1 => k_asm); (case k2 => k_mem); (case k3 => assumption); (case k4 => omega); (case k5 => omega); (case k6 => omega); (case k7 => with_unfolding_all rfl); k_whole); intro t')
  k_with "subscriptTail Name Name ref int" => (k_here; (with_reducible show wpAny _ _ (subscriptTail _ _ (Value.ref _) (Value.int _ _)) _ _ _); k_dflt (refine' my_itemL ?k1 ?k2 ?k3 ?k4 ?k5 ?k6 ?_ ?k7 ?k8; (case k1 => k_asm); (case k2 => k_mem); (case k3 => assumption); (case k4 => omega); (case k5 => omega); (case k6 => omega); (case k7 => with_unfolding_all rfl); (case k8 => intro _; with_unfolding_all rfl); k_whole); intro t')
  k_with "truthy ref" => (k_here; k_dflt (refine' my_truthyL ?k1 ?k2 ?k3 ?k4 ?_ ?_; (case k1 => k_asm); (case k2 => k_mem); (case k3 => assumption); (case k4 => omega)); (all_goals intro hz9))
  k_with "call builtin:len" => (k_here; (with_reducible show wpAny _ _ (call (Value.builtin "len") [Value.ref _]) _ _ _); k_dflt (refine' my_lenL ?k1 ?k2 ?k3 ?k4 ?_; (case k1 => k_asm); (case k2 => k_mem); (case k3 => assumption); (case k4 => omega); k_whole))
  trivial
end
example : True := by
  k_with "call ref" => (k_here; k_dflt ((try k_fold); refine Does.use2 (by k_asm) (by k_asm) (by k_asm) (by k_asm) (by k_asm) (by first | exact rfl | assumption) (by first | with_reducible assumption | assumption) (by first | with_reducible assumption | assumption) (by first | with_reducible assumption | assumption) (column_does _ _ _ _ _ _ (by first | assumption | omega)) (by first | exact room0 (by assumption) (by rfl) | exact room1 (by assumption) (by rfl) | ktr_room) (by first | exact room0 (by assumption) (by rfl) | exact room1 (by assumption) (by rfl) | ktr_units) ?_; walk_at "my tail"))
  trivial
section
/-- a Whitespace's state after a text of blanks and tabs: counts, blanks behind, tabs, all -/
structure WS where
  b : Int
  n : Int
  nt : Int
  count : List Int
def wsStep (st : WS) (ch : Int) : WS :=
  if ch = 32 then { st with b := st.b + 1, n := st.n + 1 }
  else
    let cnt := if st.count.length ≤ st.b then st.count ++ List.replicate (st.b - st.count.length + 1).toNat 0 else st.count
    { b := 0, n := st.n + 1, nt := st.nt + 1, count := cnt.set st.b.toNat (cnt.getD st.b.toNat 0 + 1) }
def wsOf (l : List Int) : WS := l.foldl wsStep ⟨0, 0, 0, []⟩
theorem wsOf_snoc (l : List Int) (c : Int) : wsOf (l ++ [c]) = wsStep (wsOf l) c := by simp [wsOf]
abbrev WSc := WS × (Tok × Tok × Tok × Addr × List Value × Nat)
abbrev wsLed (base : List (Addr × Obj)) (c : WSc) : List (Addr × Obj) := (c.2.2.2.2.1, W.listOf c.2.2.2.2.2.1.toArray c.2.2.2.2.2.2) :: base
abbrev wsPs (c : WSc) : List (Str × Value) := [("n", .int c.1.n c.2.1), ("b", .int c.1.b c.2.2.1), ("nt", .int c.1.nt c.2.2.2.1), ("count", .ref c.2.2.2.2.1)]
abbrev wsFacts (base : List (Addr × Obj)) (c : WSc) : Prop := IntsAre c.2.2.2.2.2.1 c.1.count ∧ (∀ p ∈ base, p.1 ≠ c.2.2.2.2.1)
abbrev wsP (pre : List Int) (c : WSc) : Prop := (∀ x ∈ pre, x = 32 ∨ x = 9) ∧ c.1 = wsOf pre ∧ 0 ≤ c.1.n ∧ c.1.n ≤ pre.length ∧ 0 ≤ c.1.b ∧ c.1.b ≤ pre.length ∧ 0 ≤ c.1.nt ∧ c.1.nt ≤ pre.length ∧ c.1.count.length ≤ pre.length
theorem my_tupleOf {prog : Program} {w : World} {A : Around} {E : Value → Shared → Prop} {s : Shared} {h₀ : Heap} {L l : Addr} {m : Str → Option Value} {news : List (Addr × Obj)} {vs : List Value} {Q : Value → Shared → Prop}
    (F : Fr h₀ L s.heap m) (N : News h₀ L s.heap news) (hl : s.heap.IsList l vs.toArray)
    (h : ∀ D h', Fr h₀ L h' m → News h₀ L h' ((D, { cls := .type "tuple", data := .seq vs.toArray }) :: news) → (∀ q ∈ news, q.1 < D) → Q (.ref D) { s with heap := h' })
    (hsz : vs.length ≤ sizeLine) : wpAny (model prog w) A (call (.type "tuple") [.ref l]) Q E s := by
  refine call_tuple_list hl (fun h' hk => ?_) (by rw [List.size_toArray]; exact hsz)
  have F' : Fr h₀ L h' m := F.keeps hk
  have N' : News h₀ L h' news := fun p hp => ⟨hk _ _ (N p hp).1, (N p hp).2⟩
  exact h _ _ (F'.push _) (N'.push F' _) fun q hq => Heap.lt_size (N' q hq).1
example : True := by
  k_with "call type:tuple" => (k_here; (with_reducible show wpAny _ _ (call (Value.type _) [Value.ref _]) _ _ _); k_dflt (refine' my_tupleOf ?k1 ?k2 ?k3 ?_ ?k4; (case k1 => k_asm); (case k2 => k_asm); (case k3 => exact News.isList (by k_asm) (by k_mem)); (case k4 => size_fits); k_whole); intro D' h' F' N' l1; (try k_lt l1); (try k_sweep))
  trivial
theorem pick7 {h₀ h : Heap} {L : Addr} {a b c d e f g : Addr × Obj} {news : List (Addr × Obj)} (N : News h₀ L h (a :: b :: c :: d :: e :: f :: g :: news)) : News h₀ L h (a :: b :: f :: g :: news) :=
  cb_drop N fun p hp => by (revert p; (repeat' first | refine List.forall_mem_cons.mpr ⟨?_, ?_⟩ | refine List.forall_mem_append.mpr ⟨?_, ?_⟩); all_goals (try intro p hp); all_goals (repeat' first | assumption | exact List.Mem.head _ | exact List.mem_append_left _ (by assumption) | exact List.mem_append_right _ (by assumption) | exact absurd hp List.not_mem_nil | refine List.Mem.tail _ ?_ | refine List.mem_append_right _ ?_))
theorem pick6 {h₀ h : Heap} {L : Addr} {a b d e f g : Addr × Obj} {news : List (Addr × Obj)} (N : News h₀ L h (a :: b :: d :: e :: f :: g :: news)) : News h₀ L h (a :: b :: f :: g :: news) :=
  cb_drop N fun p hp => by (revert p; (repeat' first | refine List.forall_mem_cons.mpr ⟨?_, ?_⟩ | refine List.forall_mem_append.mpr ⟨?_, ?_⟩); all_goals (try intro p hp); all_goals (repeat' first | assumption | exact List.Mem.head _ | exact List.mem_append_left _ (by assumption) | exact List.mem_append_right _ (by assumption) | exact absurd hp List.not_mem_nil | refine List.Mem.tail _ ?_ | refine List.mem_append_right _ ?_))
def blank (c : Int) : Bool := c == 32 || c == 9
/-- a Whitespace in the ledger at a, with this state -/
inductive WhiteIn (news : List (Addr × Obj)) (a : Addr) (st : WS) : Prop where
  | mk (d tn tc : Addr) (h0 h1 h2 h3 h4 : Int) (t0 t1 t2 t3 t4 tnt tb : Tok) (v0 v1 v4 : Value) (vs : List Value)
    (m1 : (a, instObj 161 d) ∈ news) (m2 : (d, dictOf [⟨h0, .str "raw" t0, v0⟩, ⟨h1, .str "n" t1, v1⟩, ⟨h2, .str "nt" t2, .int st.nt tnt⟩, ⟨h3, .str "norm" t3, .ref tn⟩, ⟨h4, .str "is_simple" t4, v4⟩] 5) ∈ news)
    (m3 : (tn, ({ cls := .type "tuple", data := .seq #[.ref tc, .int st.b tb] } : Obj)) ∈ news) (m4 : (tc, ({ cls := .type "tuple", data := .seq vs.toArray } : Obj)) ∈ news) (m5 : IntsAre vs st.count) : WhiteIn news a st
theorem WhiteIn.mono {news news' : List (Addr × Obj)} {a : Addr} {st : WS} (h : WhiteIn news a st) (hs : ∀ p ∈ news, p ∈ news') : WhiteIn news' a st := by
  obtain ⟨d, tn, tc, h0, h1, h2, h3, h4, t0, t1, t2, t3, t4, tnt, tb, v0, v1, v4, vs, a1, a2, a3, a4, a5⟩ := h
  exact ⟨d, tn, tc, h0, h1, h2, h3, h4, t0, t1, t2, t3, t4, tnt, tb, v0, v1, v4, vs, hs _ a1, hs _ a2, hs _ a3, hs _ a4, a5⟩
theorem ws_sp {b n nt : Int} {count pre : List Int} {ch : Nat} (h : (({ cps := #[ch] } : Str) == (Str.ofString " ")) = true) (hb : ∀ x ∈ pre, x = 32 ∨ x = 9) (hw : (⟨b, n, nt, count⟩ : WS) = wsOf pre)
    (b1 : 0 ≤ n) (b2 : n ≤ pre.length) (b3 : 0 ≤ b) (b4 : b ≤ pre.length) (b5 : 0 ≤ nt) (b6 : nt ≤ pre.length) (b7 : count.length ≤ pre.length) {tl : Tok × Tok × Tok × Addr × List Value × Nat} :
    wsP (pre ++ [(ch : Int)]) (⟨b + 1, n + 1, nt, count⟩, tl) := by
  have := one_eq sp_is h
  subst this
  refine ⟨fun x hx => ?_, ?_, ?_⟩
  · rcases List.mem_append.mp hx with hx | hx
    · exact hb x hx
    · rw [List.mem_singleton.mp hx]; exact .inl rfl
  · rw [wsOf_snoc, ← hw]; rfl
  · simp only [List.length_append, List.length_singleton]; omega
theorem ws_tab {b n nt : Int} {count cnt pre : List Int} {ch : Nat} (h : (({ cps := #[ch] } : Str) == (Str.ofString "\t")) = true) (hb : ∀ x ∈ pre, x = 32 ∨ x = 9) (hw : (⟨b, n, nt, count⟩ : WS) = wsOf pre)
    (b1 : 0 ≤ n) (b2 : n ≤ pre.length) (b3 : 0 ≤ b) (b4 : b ≤ pre.length) (b5 : 0 ≤ nt) (b6 : nt ≤ pre.length) (b7 : count.length ≤ pre.length) {tl : Tok × Tok × Tok × Addr × List Value × Nat}
    (hc : cnt = (let c := if (count.length : Int) ≤ b then count ++ List.replicate (b - count.length + 1).toNat 0 else count; c.set b.toNat (c.getD b.toNat 0 + 1))) :
    wsP (pre ++ [(ch : Int)]) (⟨0, n + 1, nt + 1, cnt⟩, tl) := by
  have := one_eq tab_is h
  subst this
  subst hc
  refine ⟨fun x hx => ?_, ?_, ?_⟩
  · rcases List.mem_append.mp hx with hx | hx
    · exact hb x hx
    · rw [List.mem_singleton.mp hx]; exact .inr rfl
  · rw [wsOf_snoc, ← hw]; rfl
  · refine ⟨?_, ?_, ?_, ?_, ?_, ?_, ?_⟩
    all_goals (try simp only [List.length_append, List.length_singleton]); (try dsimp only)
    all_goals (try omega)
    rw [List.length_set]
    split
    · rw [List.length_append, List.length_replicate]; omega
    · omega
theorem flat1 (k : Nat) : (List.replicate k [(0 : Int)]).flatten = List.replicate k 0 := by
  induction k with
  | zero => rfl
  | succ k ih => rw [List.replicate_succ, List.flatten_cons, ih]; rfl
theorem takeBlank {l pre post : List Int} {c : Int} (h : l = pre ++ c :: post) (hb : ∀ x ∈ pre, x = 32 ∨ x = 9) (hc : c ≠ 32 ∧ c ≠ 9) : l.takeWhile blank = pre := by
  subst h
  rw [List.takeWhile_append_of_pos (fun x hx => by rcases hb x hx with h | h <;> rw [h] <;> rfl)]
  rw [List.takeWhile_cons_of_neg (by simp [blank, hc.1, hc.2]), List.append_nil]
theorem takeBlankAll {l : List Int} (hb : ∀ x ∈ l, x = 32 ∨ x = 9) : l.takeWhile blank = l := by
  have := List.takeWhile_append_of_pos (p := blank) (l₁ := l) (l₂ := []) (fun x hx => by rcases hb x hx with h | h <;> rw [h] <;> rfl)
  simpa using this
theorem ws_open {A B C D E F : Type} {G : WS × A × B × C × D × E × F → Prop} (h : ∀ b n nt count x1 x2 x3 x4 x5 x6, G (⟨b, n, nt, count⟩, x1, x2, x3, x4, x5, x6)) : ∀ x, G x := fun ⟨⟨b, n, nt, count⟩, x1, x2, x3, x4, x5, x6⟩ => h b n nt count x1 x2 x3 x4 x5 x6
theorem white_does (w : World) (news : List (Addr × Obj)) (x : Str) (t : Tok) (hx : x.length ≤ 100) :
    Does w news 3 60 161 [.str x t] [] (fun r news' => ∃ a ex, r = .ref a ∧ news' = ex ++ news ∧ (∀ p ∈ ex, ∀ q ∈ news, q.1 < p.1) ∧ WhiteIn ex a (wsOf ((KStt.codes x).takeWhile blank))) := by
  unfold Does
  w_top off
  k_fill
  intro p loose mean mg mb dp un' gd cn cs a ccd cl outer A₀ base h₀ L m s Q E B F X N T hk C1 C2 C3 hd hu hret
  k_steps
  rename Fr _ _ _ _ => lF'
  rename News _ _ _ _ => lN'
  (with_unfolding_all refine' my_text (wsLed ?base) wsPs (wsFacts ?base) [] wsP (⟨0, 0, 0, []⟩, (_, _, _, _, [], 0)) (by rfl) lF' lN' ⟨.nil, ?hne⟩ (by kst_all) ⟨fun _ h => (nomatch h), rfl, by exact Int.le_refl _, by exact Int.le_refl _, by exact Int.le_refl _, by exact Int.le_refl _, by exact Int.le_refl _, by exact Int.le_refl _, by exact Nat.le_refl _⟩ ?turn ?done)
  case hne => k_all
  case turn =>
    have kMark := kstMark
    refine ws_open ?_
    intro b n nt count tb tn tnt lc vs cnt
    intro pre post ch tch u h tk I oI e off hp9_11 hp9_12 F₁ N₁
    first | ((first | refine ex0_2 (hp9_11) ?_ | refine ex1_1 (hp9_11) ?_); (try clear hp9_11); intro hi hlc) | obtain ⟨hi, hlc⟩ := (hp9_11)
    first | ((first | refine ex0_9 (hp9_12) ?_ | refine ex3_6 (hp9_12) ?_ | refine ex4_5 (hp9_12) ?_ | refine ex6_3 (hp9_12) ?_); (try clear hp9_12); intro hb hw b1 b2 b3 b4 b5 b6 b7) | obtain ⟨hb, hw, b1, b2, b3, b4, b5, b6, b7⟩ := (hp9_12)
    dsimp only [wsLed, wsPs, kstB] at F₁ N₁ off hi hlc hb hw b1 b2 b3 b4 b5 b6 b7
    simp only [List.forall_mem_cons] at off hlc
    first | ((first | refine ex0_5 (off) ?_ | refine ex1_4 (off) ?_ | refine ex2_3 (off) ?_ | refine ex3_2 (off) ?_); (try clear off); intro o1 o2 o3 o4 o5) | obtain ⟨o1, o2, o3, o4, o5⟩ := (off)
    first | ((first | refine ex0_4 (hlc) ?_ | refine ex1_3 (hlc) ?_ | refine ex2_2 (hlc) ?_); (try clear hlc); intro c2 c3 c4 c5) | obtain ⟨c2, c3, c4, c5⟩ := (hlc)
    replace o1 := neN o1; replace o2 := neN o2; replace o3 := neN o3; replace o4 := neN o4; replace c2 := neN c2; replace c3 := neN c3; replace c4 := neN c4
    have hL : pre.length < x.length := by rw [← KStt.codes_length x, e]; simp only [List.length_append, List.length_cons]; omega
    try k_fold
    k_steps
    · simp only [TurnPost]
      exact TurnEnd.intro (by k_asm) (by k_asm) (by intro p hp; kst_mem) (List.forall_mem_cons.mpr ⟨o1, List.forall_mem_cons.mpr ⟨o2, List.forall_mem_cons.mpr ⟨o3, List.forall_mem_cons.mpr ⟨o4, o5⟩⟩⟩⟩)
        ⟨(⟨b + 1, n + 1, nt, count⟩, _, _, _, lc, vs, cnt), rfl, ⟨hi, List.forall_mem_cons.mpr ⟨c2, List.forall_mem_cons.mpr ⟨c3, List.forall_mem_cons.mpr ⟨c4, c5⟩⟩⟩⟩, by kst_all, by kst_same, ws_sp (by assumption) hb hw b1 b2 b3 b4 b5 b6 b7⟩
    · simp only [TurnPost]
      rename IntsAre (List.set _ _ _) _ => hi9
      refine' TurnEnd.intro (by k_asm) (by k_asm) ?hs ?off ⟨(⟨0, n + 1, nt + 1, _⟩, _, _, _, _, _, _), rfl, ⟨hi9, ?fa⟩, ?ps, ?same, ?pp⟩
      case ps => kst_all
      case hs => exact List.forall_mem_cons.mpr ⟨by k_mem, List.forall_mem_cons.mpr ⟨by k_mem, fun p hp => by kst_mem⟩⟩
      case off => k_all
      case fa => k_all
      case same => kst_same
      case pp => exact ws_tab (by assumption) hb hw b1 b2 b3 b4 b5 b6 b7 (by rw [if_pos (by assumption), flat1])
    · simp only [TurnPost]
      rename IntsAre (List.set _ _ _) _ => hi9
      refine' TurnEnd.intro (by k_asm) (by k_asm) ?hs ?off ⟨(⟨0, n + 1, nt + 1, _⟩, _, _, _, _, _, _), rfl, ⟨hi9, ?fa⟩, ?ps, ?same, ?pp⟩
      case ps => kst_all
      case hs => exact List.forall_mem_cons.mpr ⟨by k_mem, List.forall_mem_cons.mpr ⟨by k_mem, fun p hp => by kst_mem⟩⟩
      case off => k_all
      case fa => k_all
      case same => kst_same
      case pp => exact ws_tab (by assumption) hb hw b1 b2 b3 b4 b5 b6 b7 (by rw [if_neg (by assumption)])
    · simp only [TurnPost]
      have e9 := takeBlank e hb ⟨by exact_mod_cast one_ne sp_is (by assumption), by exact_mod_cast one_ne tab_is (by assumption)⟩
      try k_fold
      k_steps
      rename Fr _ _ _ _ => lF
      rename News _ _ _ _ => lN
      refine' hret _ _ _ _ lF (pick7 lN) ⟨_, [_, _, _, _], rfl, rfl, ?fresh, ?wh⟩
      case fresh =>
        intro p hp q hq
        have f9 := (by assumption : ∀ p ∈ news, p.1 < _) q hq
        replace f9 := ltN f9
        simp only [List.mem_cons, List.not_mem_nil, or_false] at hp
        rcases hp with h | h | h | h <;> rw [h] <;> dsimp only <;> refine ltN ?_ <;> omega
      case wh =>
        rw [e9, ← hw]
        exact ⟨_, _, _, _, _, _, _, _, _, _, _, _, _, _, _, _, _, _, _, .tail _ (.tail _ (.head _)), .tail _ (.tail _ (.tail _ (.head _))), .head _, .tail _ (.head _), hi⟩
  case done =>
    have kMark := kstMark
    refine ws_open ?_
    intro b n nt count tb tn tnt lc vs cnt
    intro u h tk hp9_3 hp9_4 F₁ N₁
    first | ((first | refine ex0_2 (hp9_3) ?_ | refine ex1_1 (hp9_3) ?_); (try clear hp9_3); intro hi hlc) | obtain ⟨hi, hlc⟩ := (hp9_3)
    first | ((first | refine ex0_9 (hp9_4) ?_ | refine ex3_6 (hp9_4) ?_ | refine ex4_5 (hp9_4) ?_ | refine ex6_3 (hp9_4) ?_); (try clear hp9_4); intro hb hw b1 b2 b3 b4 b5 b6 b7) | obtain ⟨hb, hw, b1, b2, b3, b4, b5, b6, b7⟩ := (hp9_4)
    dsimp only [wsLed, wsPs, kstB] at F₁ N₁ hi hlc hb hw b1 b2 b3 b4 b5 b6 b7
    have e9 := takeBlankAll hb
    simp only [List.forall_mem_cons] at hlc
    first | ((first | refine ex0_4 (hlc) ?_ | refine ex1_3 (hlc) ?_ | refine ex2_2 (hlc) ?_); (try clear hlc); intro c2 c3 c4 c5) | obtain ⟨c2, c3, c4, c5⟩ := (hlc)
    replace c2 := neN c2; replace c3 := neN c3; replace c4 := neN c4
    have hcl := KStt.codes_length x
    try k_fold
    k_steps
    rename Fr _ _ _ _ => lF
    rename News _ _ _ _ => lN
    refine' hret _ _ _ _ lF (pick6 lN) ⟨_, [_, _, _, _], rfl, rfl, ?fresh, ?wh⟩
    case fresh =>
      intro p hp q hq
      have f9 := (by assumption : ∀ p ∈ news, p.1 < _) q hq
      replace f9 := ltN f9
      simp only [List.mem_cons, List.not_mem_nil, or_false] at hp
      rcases hp with h | h | h | h <;> rw [h] <;> dsimp only <;> refine ltN ?_ <;> omega
    case wh =>
      rw [e9, ← hw]
      exact ⟨_, _, _, _, _, _, _, _, _, _, _, _, _, _, _, _, _, _, _, .tail _ (.tail _ (.head _)), .tail _ (.tail _ (.tail _ (.head _))), .head _, .tail _ (.head _), hi⟩
example : True := by
  k_with_none
  k_with "k_room" => ktr_room
  k_with "k_mem" => ((fail_if_success (with_reducible_and_instances refine List.mem_cons_of_mem _ ?_)); (with_reducible_and_instances refine List.mem_append_right _ ?_); k_mem)
  k_with "k_mem" => ((fail_if_success (with_reducible_and_instances refine List.mem_cons_of_mem _ ?_)); (with_reducible_and_instances refine List.mem_append_left _ ?_); k_mem)
  k_with "k_mem" => assumption
  k_with "k_all" => first | exact List.forall_mem_nil _ | assumption | (refine' List.forall_mem_cons.mpr ⟨?a, ?b⟩; (case a => k_ne); (case b => k_all))
  k_with "call ref" => k_dflt (k_extra "my call")
  k_with "my tail" => (intro r9 news9 h9 tk9 F9 N9 P9; obtain ⟨e9, t9, q9⟩ := P9; replace e9 := e9.symm; subst e9; subst q9; (try (k_unfold; (try dsimp only))); (try dsimp only); (try k_fold))
  k_with "k_enter" => first | (refine' code_def ?k1 ?k2 ?k3 ?k4 ?k5 ?kA ?kF ?kK ?k6 ?k7 ?k8 ?k9 ?kB ?_ ?c2 ?c3 ?c4 ?c5; (case kA => exact rfl); (case kF => exact rfl); (case kK => first | exact rfl | assumption); (case k1 => k_asm); (case k2 => k_asm); (case k3 => k_asm); (case k4 => k_asm); (case k5 => k_asm); (case k6 => k_is); (case k7 => k_is); (case k8 => k_room); (case k9 => first | exact BindsTo.of_eq rfl | exact binds_K (by k_in) rfl (by k_is) rfl rfl rfl | fail "k_enter: no rule for these arguments"); (case c5 => decide); (case kB => exact locs rfl); (case c2 => exact rfl); (case c3 => exact rfl); (case c4 => exact rfl); k_whole; intro g' L' h' FG' F' N' B' X' T'; (try dsimp only); (try k_lift B'); (refine fr_let F' ?_); clear F'; intro mF F'; (try k_fold)) | (refine' code_defC ?k1 ?k2 ?k3 ?k4 ?k5 ?kA ?kF ?kK ?k6 ?k7 ?k8 ?k9 ?kB ?kD ?_ ?c2 ?c3 ?c4; (case kA => exact rfl); (case kF => exact rfl); (case kK => first | exact rfl | assumption); (case k1 => k_asm); (case k2 => k_asm); (case k3 => k_asm); (case k4 => k_asm); (case k5 => k_asm); (case k6 => k_is); (case k7 => k_is); (case k8 => k_room); (case k9 => first | exact BindsTo.of_eq rfl | exact binds_K (by k_in) rfl (by k_is) rfl rfl rfl | fail "k_enter: no rule for these arguments"); (case kB => exact rfl); (case kD => decide +kernel); (case c2 => exact rfl); (case c3 => exact rfl); (case c4 => exact rfl); k_whole; intro g' L' h' tk' cells' FG' F' N' Y' B' X' T' l1; (try k_lt l1); k_cells Y'; (try simp only [List.cons_append, List.nil_append] at N'); (try dsimp only); (try k_lift B'); (refine fr_let F' ?_); clear F'; intro mF F'; (try k_fold))
  k_with "pyIter ref" => ((rename HaltMark => hM9); refine halt_intro ?_)
  k_with "call builtin:len" => (k_here; (with_reducible show wpAny _ _ (call (Value.builtin "len") [Value.ref _]) _ _ _); k_dflt (refine' my_lenT ?k1 ?k2 ?k3 ?k4 ?_; (case k1 => k_asm); (case k2 => k_mem); (case k3 => assumption); (case k4 => omega); k_whole))
  k_with "subscriptTail Name Name ref int" => (k_here; (with_reducible show wpAny _ _ (subscriptTail _ _ (Value.ref _) (Value.int _ _)) _ _ _); k_dflt (refine' my_itemT ?k1 ?k2 ?k3 ?k4 ?k5 ?k6 ?_ ?k7; (case k1 => k_asm); (case k2 => k_mem); (case k3 => assumption); (case k4 => omega); (case k5 => omega); (case k6 => omega); (case k7 => with_unfolding_all rfl); k_whole); intro t')
  k_with "subscriptTail Name Name ref int" => (k_here; (with_reducible show wpAny _ _ (subscriptTail _ _ (Value.ref _) (Value.int _ _)) _ _ _); k_dflt (refine' my_itemL ?k1 ?k2 ?k3 ?k4 ?k5 ?k6 ?_ ?k7 ?k8; (case k1 => k_asm); (case k2 => k_mem); (case k3 => assumption); (case k4 => omega); (case k5 => omega); (case k6 => omega); (case k7 => with_unfolding_all rfl); (case k8 => intro _; with_unfolding_all rfl); k_whole); intro t')
  k_with "truthy ref" => (k_here; k_dflt (refine' my_truthyL ?k1 ?k2 ?k3 ?k4 ?_ ?_; (case k1 => k_asm); (case k2 => k_mem); (case k3 => assumption); (case k4 => omega)); (all_goals intro hz9))
  k_with "call builtin:len" => (k_here; (with_reducible show wpAny _ _ (call (Value.builtin "len") [Value.ref _]) _ _ _); k_dflt (refine' my_lenL ?k1 ?k2 ?k3 ?k4 ?_; (case k1 => k_asm); (case k2 => k_mem); (case k3 => assumption); (case k4 => omega); k_whole))
  k_with "call ref" => (k_here; k_dflt ((try k_fold); refine Does.use2 (by k_asm) (by k_asm) (by k_asm) (by k_asm) (by k_asm) (by first | exact rfl | assumption) (by first | with_reducible assumption | assumption) (by first | with_reducible assumption | assumption) (by first | with_reducible assumption | assumption) (column_does _ _ _ _ _ _ (by first | assumption | omega)) (by first | exact room0 (by assumption) (by rfl) | exact room1 (by assumption) (by rfl) | ktr_room) (by first | exact room0 (by assumption) (by rfl) | exact room1 (by assumption) (by rfl) | ktr_units) ?_; walk_at "my tail"))
  trivial
end
section
theorem longest_does (w : World) (news : List (Addr × Obj)) (a : Addr) (st : WS) (hW : WhiteIn news a st) (hl : st.count.length ≤ 100) :
    Does w news 1 30 123 [.ref a] [] (Keeps1 news fun r => ∃ t, r = .int (max ((st.count.length : Int) - 1) st.b) t) := by
  unfold Does
  w_top off
  k_fill
  intro p loose mean mg mb dp un' gd cn cs a ccd cl outer A₀ base h₀ L m s Q E B F X N T hk C1 C2 C3 hd hu hret
  obtain ⟨d, tn, tc, hh0, hh1, hh2, hh3, hh4, t0, t1, t2, t3, t4, tnt, tb, v0, v1, v4, vs, m1, m2, m3, m4, hi⟩ := hW
  have kMark := kstMark
  refine wpAny_call ?_
  k_dflt k_enter
  k_steps
  exact keep_ret hret (by k_asm) (by k_asm) (fun _ h => h) ⟨_, congrArg (Value.int · _) (by split <;> omega)⟩
def ilOf (ts : Int) (count : List Int) (is : List Int) : Int := is.foldl (fun a i => a + Int.fdiv i ts * count.getD i.toNat 0) 0
theorem ilOf_snoc (ts : Int) (count is : List Int) (i : Int) : ilOf ts count (is ++ [i]) = ilOf ts count is + Int.fdiv i ts * count.getD i.toNat 0 := by simp [ilOf]
def indentOf (st : WS) (ts : Int) : Int := st.b + ts * (ilOf ts st.count (rangeKs ts ((st.count.length : Int) - ts).toNat) + st.nt)
theorem bits100 {l : List Int} (hc : ∀ c ∈ l, 0 ≤ c ∧ c ≤ 100) (i : Nat) : Builtin.Int.intBits (l.getD i 0) ≤ 64 := by
  have h : 0 ≤ l.getD i 0 ∧ l.getD i 0 ≤ 100 := by
    rw [List.getD_eq_getElem?_getD]
    cases e : l[i]? with
    | none => exact ⟨by decide, by decide⟩
    | some c => exact hc c (List.mem_of_getElem? e)
  exact PySem.intBits_le_64 (by omega) (by omega)
local macro_rules | `(tactic| mul_fits) => `(tactic| exact PySem.IntMulOk.of_right ((by assumption : ∀ i : Nat, Builtin.Int.intBits (List.getD _ i 0) ≤ 64) _))
theorem indent_does (w : World) (news : List (Addr × Obj)) (a : Addr) (st : WS) (hW : WhiteIn news a st) (ts : Int) (t : Tok) (hl : st.count.length ≤ 100) (hc : ∀ c ∈ st.count, 0 ≤ c ∧ c ≤ 100) (h1 : 1 ≤ ts) (h2 : ts ≤ 100) :
    Does w news 1 30 130 [.ref a, .int ts t] [] (Keeps1 news fun r => ∃ t, r = .int (indentOf st ts) t) := by
  unfold Does
  w_top off
  k_fill
  intro p loose mean mg mb dp un' gd cn cs a ccd cl outer A₀ base h₀ L m s Q E B F X N T hk C1 C2 C3 hd hu hret
  obtain ⟨d, tn, tc, hh0, hh1, hh2, hh3, hh4, t0, t1, t2, t3, t4, tnt, tb, v0, v1, v4, vs, m1, m2, m3, m4, hi⟩ := hW
  have hc64 := bits100 hc
  have kMark := kstMark
  refine wpAny_call ?_
  k_dflt k_enter
  k_with "state" => first | exact rfl | (rw [ilOf_snoc, ← (by assumption : _ = ilOf _ _ _)])
  k_with "pyIter ref" => k_state (fun pre il => il = ilOf ts st.count pre) "il"
  k_steps
  rename (_ = ilOf _ _ _) => e
  subst e
  exact keep_ret hret (by k_asm) (by k_asm) (fun _ h => h) ⟨_, rfl⟩
example : True := by
  k_with_none
  k_with "k_room" => ktr_room
  k_with "k_mem" => ((fail_if_success (with_reducible_and_instances refine List.mem_cons_of_mem _ ?_)); (with_reducible_and_instances refine List.mem_append_right _ ?_); k_mem)
  k_with "k_mem" => ((fail_if_success (with_reducible_and_instances refine List.mem_cons_of_mem _ ?_)); (with_reducible_and_instances refine List.mem_append_left _ ?_); k_mem)
  k_with "k_mem" => assumption
  k_with "k_all" => first | exact List.forall_mem_nil _ | assumption | (refine' List.forall_mem_cons.mpr ⟨?a, ?b⟩; (case a => k_ne); (case b => k_all))
  k_with "call ref" => k_dflt (k_extra "my call")
  k_with "my tail" => (intro r9 news9 h9 tk9 F9 N9 P9; obtain ⟨e9, t9, q9⟩ := P9; replace e9 := e9.symm; subst e9; subst q9; (try (k_unfold; (try dsimp only))); (try dsimp only); (try k_fold))
  k_with "k_enter" => first | (refine' code_def ?k1 ?k2 ?k3 ?k4 ?k5 ?kA ?kF ?kK ?k6 ?k7 ?k8 ?k9 ?kB ?_ ?c2 ?c3 ?c4 ?c5; (case kA => exact rfl); (case kF => exact rfl); (case kK => first | exact rfl | assumption); (case k1 => k_asm); (case k2 => k_asm); (case k3 => k_asm); (case k4 => k_asm); (case k5 => k_asm); (case k6 => k_is); (case k7 => k_is); (case k8 => k_room); (case k9 => first | exact BindsTo.of_eq rfl | exact binds_K (by k_in) rfl (by k_is) rfl rfl rfl | fail "k_enter: no rule for these arguments"); (case c5 => decide); (case kB => exact locs rfl); (case c2 => exact rfl); (case c3 => exact rfl); (case c4 => exact rfl); k_whole; intro g' L' h' FG' F' N' B' X' T'; (try dsimp only); (try k_lift B'); (refine fr_let F' ?_); clear F'; intro mF F'; (try k_fold)) | (refine' code_defC ?k1 ?k2 ?k3 ?k4 ?k5 ?kA ?kF ?kK ?k6 ?k7 ?k8 ?k9 ?kB ?kD ?_ ?c2 ?c3 ?c4; (case kA => exact rfl); (case kF => exact rfl); (case kK => first | exact rfl | assumption); (case k1 => k_asm); (case k2 => k_asm); (case k3 => k_asm); (case k4 => k_asm); (case k5 => k_asm); (case k6 => k_is); (case k7 => k_is); (case k8 => k_room); (case k9 => first | exact BindsTo.of_eq rfl | exact binds_K (by k_in) rfl (by k_is) rfl rfl rfl | fail "k_enter: no rule for these arguments"); (case kB => exact rfl); (case kD => decide +kernel); (case c2 => exact rfl); (case c3 => exact rfl); (case c4 => exact rfl); k_whole; intro g' L' h' tk' cells' FG' F' N' Y' B' X' T' l1; (try k_lt l1); k_cells Y'; (try simp only [List.cons_append, List.nil_append] at N'); (try dsimp only); (try k_lift B'); (refine fr_let F' ?_); clear F'; intro mF F'; (try k_fold))
  k_with "pyIter ref" => ((rename HaltMark => hM9); refine halt_intro ?_)
  k_with "call builtin:len" => (k_here; (with_reducible show wpAny _ _ (call (Value.builtin "len") [Value.ref _]) _ _ _); k_dflt (refine' my_lenT ?k1 ?k2 ?k3 ?k4 ?_; (case k1 => k_asm); (case k2 => k_mem); (case k3 => assumption); (case k4 => omega); k_whole))
  k_with "subscriptTail Name Name ref int" => (k_here; (with_reducible show wpAny _ _ (subscriptTail _ _ (Value.ref _) (Value.int _ _)) _ _ _); k_dflt (refine' my_itemT ?k1 ?k2 ?k3 ?k4 ?k5 ?k6 ?_ ?k7; (case k1 => k_asm); (case k2 => k_mem); (case k3 => assumption); (case k4 => omega); (case k5 => omega); (case k6 => omega); (case k7 => with_unfolding_all rfl); k_whole); intro t')
  k_with "subscriptTail Name Name ref int" => (k_here; (with_reducible show wpAny _ _ (subscriptTail _ _ (Value.ref _) (Value.int _ _)) _ _ _); k_dflt (refine' my_itemL ?k1 ?k2 ?k3 ?k4 ?k5 ?k6 ?_ ?k7 ?k8; (case k1 => k_asm); (case k2 => k_mem); (case k3 => assumption); (case k4 => omega); (case k5 => omega); (case k6 => omega); (case k7 => with_unfolding_all rfl); (case k8 => intro _; with_unfolding_all rfl); k_whole); intro t')
  k_with "truthy ref" => (k_here; k_dflt (refine' my_truthyL ?k1 ?k2 ?k3 ?k4 ?_ ?_; (case k1 => k_asm); (case k2 => k_mem); (case k3 => assumption); (case k4 => omega)); (all_goals intro hz9))
  k_with "call builtin:len" => (k_here; (with_reducible show wpAny _ _ (call (Value.builtin "len") [Value.ref _]) _ _ _); k_dflt (refine' my_lenL ?k1 ?k2 ?k3 ?k4 ?_; (case k1 => k_asm); (case k2 => k_mem); (case k3 => assumption); (case k4 => omega); k_whole))
  k_with "call ref" => (k_here; k_dflt ((try k_fold); refine Does.use2 (by k_asm) (by k_asm) (by k_asm) (by k_asm) (by k_asm) (by first | exact rfl | assumption) (by first | with_reducible assumption | assumption) (by first | with_reducible assumption | assumption) (by first | with_reducible assumption | assumption) (column_does _ _ _ _ _ _ (by first | assumption | omega)) (by first | exact room0 (by assumption) (by rfl) | exact room1 (by assumption) (by rfl) | ktr_room) (by first | exact room0 (by assumption) (by rfl) | exact room1 (by assumption) (by rfl) | ktr_units) ?_; walk_at "my tail"))
  trivial
end
example : True := by
  k_with "call ref" => (k_here; k_dflt ((try k_fold); refine Does.use2 (by k_asm) (by k_asm) (by k_asm) (by k_asm) (by k_asm) (by first | exact rfl | assumption) (by first | with_reducible assumption | assumption) (by first | with_reducible assumption | assumption) (by first | with_reducible assumption | assumption) (longest_does _ _ _ _ (by first | assumption | exact WhiteIn.mono (by assumption) (by intro p9 h9; k_mem)) (by omega)) (by first | exact room0 (by assumption) (by rfl) | exact room1 (by assumption) (by rfl) | ktr_room) (by first | exact room0 (by assumption) (by rfl) | exact room1 (by assumption) (by rfl) | ktr_units) ?_; walk_at "my tail"))
  k_with "call ref" => (k_here; k_dflt ((try k_fold); refine Does.use2 (by k_asm) (by k_asm) (by k_asm) (by k_asm) (by k_asm) (by first | exact rfl | assumption) (by first | with_reducible assumption | assumption) (by first | with_reducible assumption | assumption) (by first | with_reducible assumption | assumption) (indent_does _ _ _ _ (by first | assumption | exact WhiteIn.mono (by assumption) (by intro p9 h9; k_mem)) _ _ (by omega) (by assumption) (by omega) (by omega)) (by first | exact room0 (by assumption) (by rfl) | exact room1 (by assumption) (by rfl) | ktr_room) (by first | exact room0 (by assumption) (by rfl) | exact room1 (by assumption) (by rfl) | ktr_units) ?_; walk_at "my tail"))
  trivial
section
inductive RowsAre (led : List (Addr × Obj)) : List Value → List (Int × Int × Int) → Prop where
  | nil : RowsAre led [] []
  | cons {a : Addr} {x y z : Int} {t u v : Tok} {vs : List Value} {rs : List (Int × Int × Int)} : (a, ({ cls := .type "tuple", data := .seq #[.int x t, .int y u, .int z v] } : Obj)) ∈ led → RowsAre led vs rs → RowsAre led (.ref a :: vs) ((x, y, z) :: rs)
theorem RowsAre.mono {led led' : List (Addr × Obj)} {vs : List Value} {rs : List (Int × Int × Int)} (h : RowsAre led vs rs) (hs : ∀ p ∈ led, p ∈ led') : RowsAre led' vs rs := by
  induction h with
  | nil => exact .nil
  | cons hm _ ih => exact .cons (hs _ hm) ih
theorem RowsAre.snoc {led : List (Addr × Obj)} {vs : List Value} {rs : List (Int × Int × Int)} {a : Addr} {x y z : Int} {t u v : Tok} (h : RowsAre led vs rs) (hm : (a, ({ cls := .type "tuple", data := .seq #[.int x t, .int y u, .int z v] } : Obj)) ∈ led) : RowsAre led (vs ++ [.ref a]) (rs ++ [(x, y, z)]) := by
  induction h with
  | nil => exact .cons hm .nil
  | cons hm' _ ih => exact .cons hm' ih
theorem RowsAre.length {led : List (Addr × Obj)} {vs : List Value} {rs : List (Int × Int × Int)} (h : RowsAre led vs rs) : vs.length = rs.length := by
  induction h with
  | nil => rfl
  | cons _ _ ih => simp [ih]
def rowsTo (st st' : WS) (n : Nat) : List (Int × Int × Int) :=
  (List.range n).filterMap fun (i : Nat) => if indentOf st (1 + (i : Int)) ≠ indentOf st' (1 + (i : Int)) then some (1 + (i : Int), indentOf st (1 + (i : Int)), indentOf st' (1 + (i : Int))) else none
theorem rowsTo_zero (st st' : WS) : rowsTo st st' 0 = [] := rfl
theorem rowsTo_succ (st st' : WS) (n : Nat) : rowsTo st st' (n + 1) = if indentOf st (1 + n) ≠ indentOf st' (1 + n) then rowsTo st st' n ++ [(1 + (n : Int), indentOf st (1 + n), indentOf st' (1 + n))] else rowsTo st st' n := by
  unfold rowsTo
  rw [List.range_succ, List.filterMap_append]
  by_cases h : indentOf st (1 + n) ≠ indentOf st' (1 + n)
  · simp [h]
  · simp [h]
theorem rowsTo_len (st st' : WS) (n : Nat) : (rowsTo st st' n).length ≤ n := by
  unfold rowsTo
  exact Nat.le_trans (List.length_filterMap_le _ _) (Nat.le_of_eq List.length_range)
def reach (st st' : WS) : Int := max (max ((st.count.length : Int) - 1) st.b) (max ((st'.count.length : Int) - 1) st'.b) + 1
/-- a state within bounds -/
structure WOk (st : WS) : Prop where
  len : st.count.length ≤ 100
  c : ∀ c ∈ st.count, 0 ≤ c ∧ c ≤ 100
  b0 : 0 ≤ st.b
  b1 : st.b ≤ 90
theorem neq_does (w : World) (news : List (Addr × Obj)) (a b : Addr) (st st' : WS) (hW : WhiteIn news a st) (hV : WhiteIn news b st') (o : WOk st) (o' : WOk st') :
    Does w news 2 60 144 [.ref a, .ref b] [] (fun r news' => ∃ l ex vs c, r = .ref l ∧ news' = ex ++ news ∧ (∀ p ∈ ex, ∀ q ∈ news, q.1 < p.1) ∧ (l, W.listOf vs.toArray c) ∈ ex ∧ RowsAre ex vs (rowsTo st st' (reach st st').toNat)) := by
  unfold Does
  w_top off
  k_fill
  k_with "storeName" => (k_here; k_dflt (refine' storeX_L ?F ?N ?_ ?a ?b; (case F => k_asm); (case N => k_asm); (case a => rfl); (case b => rfl); k_whole; intro h' F' N'; (refine fr_let F' ?_); clear F'; intro mF F'; (try k_sweep)))
  intro p loose mean mg mb dp un' gd cn cs a ccd cl outer A₀ base h₀ L m s Q E B F X N T hk C1 C2 C3 hd hu hret
  have o1 := o.len
  have o2 := o.c
  have o3 := o'.len
  have o4 := o'.c
  have o5 := o.b0
  have o6 := o.b1
  have o7 := o'.b0
  have o8 := o'.b1
  have hW' := hW
  obtain ⟨d, tn, tc, hh0, hh1, hh2, hh3, hh4, t0, t1, t2, t3, t4, tnt, tb, v0, v1, v4, vs, m1, m2, m3, m4, hi⟩ := hW'
  have hV' := hV
  obtain ⟨dx, tnx, tcx, hh0x, hh1x, hh2x, hh3x, hh4x, t0x, t1x, t2x, t3x, t4x, tntx, tbx, v0x, v1x, v4x, vsx, m1x, m2x, m3x, m4x, hix⟩ := hV'
  refine wpAny_call ?_
  k_dflt k_enter
  have hM := haltMark
  k_steps
  (rename HaltMark => hMx; clear hMx)
  unfold Halt
  rename Fr _ _ _ _ => lF'
  rename News _ _ _ _ => lN'
  rename ∀ p ∈ news, p.1 < _ => hl1
  first | ((first | refine ex0_3 (⟨_, hl1, rfl⟩ : ∃ la, (∀ p ∈ news, p.1 < la) ∧ la = _) ?_ | refine ex1_2 (⟨_, hl1, rfl⟩ : ∃ la, (∀ p ∈ news, p.1 < la) ∧ la = _) ?_ | refine ex2_1 (⟨_, hl1, rfl⟩ : ∃ la, (∀ p ∈ news, p.1 < la) ∧ la = _) ?_); intro la hla ela) | obtain ⟨la, hla, ela⟩ := (⟨_, hl1, rfl⟩ : ∃ la, (∀ p ∈ news, p.1 < la) ∧ la = _)
  subst ela
  (with_unfolding_all refine' my_range (σ := List Value × Nat × List (Addr × Obj)) (n := (reach st st').toNat) (fun c => (la, W.listOf c.1.toArray c.2.1) :: (c.2.2 ++ news)) (fun _ => []) (fun _ => True) [] (fun i c => RowsAre c.2.2 c.1 (rowsTo st st' i) ∧ ∀ p ∈ c.2.2, @LT.lt Nat _ la p.1) ([], 0, []) (by rfl) (by assumption) ?hsm ?hn lF' lN' trivial (fun _ h => nomatch h) ⟨.nil, fun _ h => nomatch h⟩ ?turn ?done)
  case hsm => exact small_one (by omega) (by omega) (by split <;> omega +splitDisjunctions) (by split <;> omega +splitDisjunctions)
  case hn => rw [rangeSize_nat]; congr 1; unfold reach; split <;> omega +splitDisjunctions
  case turn =>
    refine pr3_open ?_
    intro us cnt ex
    intro i ti u h tk I oI hi9 off hT hp9_10 F₁ N₁
    first | ((first | refine ex0_2 (hp9_10) ?_ | refine ex1_1 (hp9_10) ?_); (try clear hp9_10); intro hr hlt) | obtain ⟨hr, hlt⟩ := (hp9_10)
    dsimp only [kstB] at F₁ N₁ off hr hlt
    simp only [List.forall_mem_cons] at off
    first | ((first | refine ex0_2 (off) ?_ | refine ex1_1 (off) ?_); (try clear off); intro p1 p2) | obtain ⟨p1, p2⟩ := (off)
    replace p1 := neN p1
    have p3 : ∀ p ∈ ex ++ news, p.1 ≠ la := fun p hp => (List.mem_append.mp hp).elim (fun h => Nat.ne_of_gt (hlt p h)) fun h => Nat.ne_of_lt (hla p h)
    have hus : us.length ≤ i := by rw [hr.length]; exact rowsTo_len st st' i
    have hin : i < 100 := by unfold reach at hi9; omega +splitDisjunctions
    have kMark := kstMark
    k_steps
    · simp only [TurnPost]
      rename ¬ _ = _ => hne
      rename News _ _ _ _ => lN
      rename Fr _ _ _ _ => lF
      first | ((first | refine ex0_5 (news_head lN) ?_ | refine ex1_4 (news_head lN) ?_ | refine ex2_3 (news_head lN) ?_ | refine ex3_2 (news_head lN) ?_); intro da oda e1 e2 lN) | obtain ⟨da, oda, e1, e2, lN⟩ := (news_head lN)
      subst e1
      rename _ ∧ _ => l9
      first | ((first | refine ex0_3 (l9) ?_ | refine ex1_2 (l9) ?_ | refine ex2_1 (l9) ?_); (try clear l9); intro l91 l92 l93) | obtain ⟨l91, l92, l93⟩ := (l9)
      simp only [List.push_toArray] at lN
      refine' TurnEnd.intro lF lN ?hs ?off ⟨(us ++ [.ref da], cnt + 1, (da, oda) :: ex), rfl, trivial, (fun _ h => nomatch h), ?same, ?pp⟩
      case same => kst_same
      case pp =>
        dsimp only
        subst e2
        rw [rowsTo_succ, if_pos hne]
        exact ⟨(hr.mono fun p hp => .tail _ hp).snoc (.head _), List.forall_mem_cons.mpr ⟨l92, hlt⟩⟩
      case hs =>
        intro p hp
        (revert p; (repeat' first | refine List.forall_mem_cons.mpr ⟨?_, ?_⟩ | refine List.forall_mem_append.mpr ⟨?_, ?_⟩); all_goals (try intro p hp); all_goals (repeat' first | assumption | exact List.Mem.head _ | exact List.mem_append_left _ (by assumption) | exact List.mem_append_right _ (by assumption) | exact absurd hp List.not_mem_nil | refine List.Mem.tail _ ?_ | refine List.mem_append_right _ ?_))
      case off => exact List.forall_mem_cons.mpr ⟨p1, List.forall_mem_cons.mpr ⟨Nat.ne_of_gt l91, p2⟩⟩
    · simp only [TurnPost]
      rename _ = _ => hne
      rename News _ _ _ _ => lN
      rename Fr _ _ _ _ => lF
      refine' TurnEnd.intro lF lN (fun p hp => hp) (List.forall_mem_cons.mpr ⟨p1, p2⟩) ⟨(us, cnt, ex), rfl, trivial, (fun _ h => nomatch h), ?same, ?pp⟩
      case same => kst_same
      case pp => exact ⟨by rw [rowsTo_succ, if_neg (by simpa using hne)]; exact hr, hlt⟩
  case done =>
    refine pr3_open ?_
    intro us cnt ex
    intro u h tk hT hp9_4 F₁ N₁
    first | ((first | refine ex0_2 (hp9_4) ?_ | refine ex1_1 (hp9_4) ?_); (try clear hp9_4); intro hr hlt) | obtain ⟨hr, hlt⟩ := (hp9_4)
    dsimp only [kstB] at F₁ N₁ hr hlt
    k_steps
    rename Fr _ _ _ _ => lF
    rename News _ _ _ _ => lN
    refine hret _ _ _ _ lF lN ⟨la, (la, W.listOf us.toArray cnt) :: ex, us, cnt, rfl, rfl, ?_, .head _, hr.mono fun p hp => .tail _ hp⟩
    intro p hp q hq
    rcases List.mem_cons.mp hp with rfl | hp
    · exact hla q hq
    · exact Nat.lt_trans (hla q hq) (hlt p hp)
example : True := by
  k_with_none
  k_with "k_room" => ktr_room
  k_with "k_mem" => ((fail_if_success (with_reducible_and_instances refine List.mem_cons_of_mem _ ?_)); (with_reducible_and_instances refine List.mem_append_right _ ?_); k_mem)
  k_with "k_mem" => ((fail_if_success (with_reducible_and_instances refine List.mem_cons_of_mem _ ?_)); (with_reducible_and_instances refine List.mem_append_left _ ?_); k_mem)
  k_with "k_mem" => assumption
  k_with "k_all" => first | exact List.forall_mem_nil _ | assumption | (refine' List.forall_mem_cons.mpr ⟨?a, ?b⟩; (case a => k_ne); (case b => k_all))
  k_with "call ref" => k_dflt (k_extra "my call")
  k_with "my tail" => (intro r9 news9 h9 tk9 F9 N9 P9; obtain ⟨e9, t9, q9⟩ := P9; replace e9 := e9.symm; subst e9; subst q9; (try (k_unfold; (try dsimp only))); (try dsimp only); (try k_fold))
  k_with "k_enter" => first | (refine' code_def ?k1 ?k2 ?k3 ?k4 ?k5 ?kA ?kF ?kK ?k6 ?k7 ?k8 ?k9 ?kB ?_ ?c2 ?c3 ?c4 ?c5; (case kA => exact rfl); (case kF => exact rfl); (case kK => first | exact rfl | assumption); (case k1 => k_asm); (case k2 => k_asm); (case k3 => k_asm); (case k4 => k_asm); (case k5 => k_asm); (case k6 => k_is); (case k7 => k_is); (case k8 => k_room); (case k9 => first | exact BindsTo.of_eq rfl | exact binds_K (by k_in) rfl (by k_is) rfl rfl rfl | fail "k_enter: no rule for these arguments"); (case c5 => decide); (case kB => exact locs rfl); (case c2 => exact rfl); (case c3 => exact rfl); (case c4 => exact rfl); k_whole; intro g' L' h' FG' F' N' B' X' T'; (try dsimp only); (try k_lift B'); (refine fr_let F' ?_); clear F'; intro mF F'; (try k_fold)) | (refine' code_defC ?k1 ?k2 ?k3 ?k4 ?k5 ?kA ?kF ?kK ?k6 ?k7 ?k8 ?k9 ?kB ?kD ?_ ?c2 ?c3 ?c4; (case kA => exact rfl); (case kF => exact rfl); (case kK => first | exact rfl | assumption); (case k1 => k_asm); (case k2 => k_asm); (case k3 => k_asm); (case k4 => k_asm); (case k5 => k_asm); (case k6 => k_is); (case k7 => k_is); (case k8 => k_room); (case k9 => first | exact BindsTo.of_eq rfl | exact binds_K (by k_in) rfl (by k_is) rfl rfl rfl | fail "k_enter: no rule for these arguments"); (case kB => exact rfl); (case kD => decide +kernel); (case c2 => exact rfl); (case c3 => exact rfl); (case c4 => exact rfl); k_whole; intro g' L' h' tk' cells' FG' F' N' Y' B' X' T' l1; (try k_lt l1); k_cells Y'; (try simp only [List.cons_append, List.nil_append] at N'); (try dsimp only); (try k_lift B'); (refine fr_let F' ?_); clear F'; intro mF F'; (try k_fold))
  k_with "pyIter ref" => ((rename HaltMark => hM9); refine halt_intro ?_)
  k_with "call builtin:len" => (k_here; (with_reducible show wpAny _ _ (call (Value.builtin "len") [Value.ref _]) _ _ _); k_dflt (refine' my_lenT ?k1 ?k2 ?k3 ?k4 ?_; (case k1 => k_asm); (case k2 => k_mem); (case k3 => assumption); (case k4 => omega); k_whole))
  k_with "subscriptTail Name Name ref int" => (k_here; (with_reducible show wpAny _ _ (subscriptTail _ _ (Value.ref _) (Value.int _ _)) _ _ _); k_dflt (refine' my_itemT ?k1 ?k2 ?k3 ?k4 ?k5 ?k6 ?_ ?k7; (case k1 => k_asm); (case k2 => k_mem); (case k3 => assumption); (case k4 => omega); (case k5 => omega); (case k6 => omega); (case k7 => with_unfolding_all rfl); k_whole); intro t')
  k_with "subscriptTail Name Name ref int" => (k_here; (with_reducible show wpAny _ _ (subscriptTail _ _ (Value.ref _) (Value.int _ _)) _ _ _); k_dflt (refine' my_itemL ?k1 ?k2 ?k3 ?k4 ?k5 ?k6 ?_ ?k7 ?k8; (case k1 => k_asm); (case k2 => k_mem); (case k3 => assumption); (case k4 => omega); (case k5 => omega); (case k6 => omega); (case k7 => with_unfolding_all rfl); (case k8 => intro _; with_unfolding_all rfl); k_whole); intro t')
  k_with "truthy ref" => (k_here; k_dflt (refine' my_truthyL ?k1 ?k2 ?k3 ?k4 ?_ ?_; (case k1 => k_asm); (case k2 => k_mem); (case k3 => assumption); (case k4 => omega)); (all_goals intro hz9))
  k_with "call builtin:len" => (k_here; (with_reducible show wpAny _ _ (call (Value.builtin "len") [Value.ref _]) _ _ _); k_dflt (refine' my_lenL ?k1 ?k2 ?k3 ?k4 ?_; (case k1 => k_asm); (case k2 => k_mem); (case k3 => assumption); (case k4 => omega); k_whole))
  k_with "call ref" => (k_here; k_dflt ((try k_fold); refine Does.use2 (by k_asm) (by k_asm) (by k_asm) (by k_asm) (by k_asm) (by first | exact rfl | assumption) (by first | with_reducible assumption | assumption) (by first | with_reducible assumption | assumption) (by first | with_reducible assumption | assumption) (column_does _ _ _ _ _ _ (by first | assumption | omega)) (by first | exact room0 (by assumption) (by rfl) | exact room1 (by assumption) (by rfl) | ktr_room) (by first | exact room0 (by assumption) (by rfl) | exact room1 (by assumption) (by rfl) | ktr_units) ?_; walk_at "my tail"))
  k_with "call ref" => (k_here; k_dflt ((try k_fold); refine Does.use2 (by k_asm) (by k_asm) (by k_asm) (by k_asm) (by k_asm) (by first | exact rfl | assumption) (by first | with_reducible assumption | assumption) (by first | with_reducible assumption | assumption) (by first | with_reducible assumption | assumption) (longest_does _ _ _ _ (by first | assumption | exact WhiteIn.mono (by assumption) (by intro p9 h9; k_mem)) (by omega)) (by first | exact room0 (by assumption) (by rfl) | exact room1 (by assumption) (by rfl) | ktr_room) (by first | exact room0 (by assumption) (by rfl) | exact room1 (by assumption) (by rfl) | ktr_units) ?_; walk_at "my tail"))
  k_with "call ref" => (k_here; k_dflt ((try k_fold); refine Does.use2 (by k_asm) (by k_asm) (by k_asm) (by k_asm) (by k_asm) (by first | exact rfl | assumption) (by first | with_reducible assumption | assumption) (by first | with_reducible assumption | assumption) (by first | with_reducible assumption | assumption) (indent_does _ _ _ _ (by first | assumption | exact WhiteIn.mono (by assumption) (by intro p9 h9; k_mem)) _ _ (by omega) (by assumption) (by omega) (by omega)) (by first | exact room0 (by assumption) (by rfl) | exact room1 (by assumption) (by rfl) | ktr_room) (by first | exact room0 (by assumption) (by rfl) | exact room1 (by assumption) (by rfl) | ktr_units) ?_; walk_at "my tail"))
  trivial
end
section
def d2iStmt : { s : Stmt // PySem.Challenge.pw_pg0313_01.main.body[11]? = some s } := ⟨_, rfl⟩
def d2iIn : { x : Arguments × List Stmt × Scope // ∃ n a r d e t s u b p q, d2iStmt.1 = .FunctionDef n a (.FunctionDef (Str.ofString "inner") x.1 x.2.1 [] none [] x.2.2 none (Str.ofString "inner") q :: r) d e t s u b p } := ⟨(_, _, _), _, _, _, _, _, _, _, _, _, _, _, rfl⟩
def valOf (b : Nat) : List Int → Int
  | [] => 0
  | d :: r => d + valOf b r * 2 ^ b
theorem valOf_append (b : Nat) (xs ys : List Int) : valOf b (xs ++ ys) = valOf b xs + valOf b ys * 2 ^ (b * xs.length) := by
  induction xs with
  | nil => simp [valOf]
  | cons x r ih =>
    simp only [List.cons_append, valOf, List.length_cons, ih]
    rw [show b * (r.length + 1) = b * r.length + b from Nat.mul_succ _ _, Int.pow_add, Int.add_mul, Int.mul_assoc, Int.add_assoc]
theorem valOf_bound (b : Nat) (hb : 1 ≤ b) (xs : List Int) (h : ∀ d ∈ xs, 0 ≤ d ∧ d < 2 ^ b) : 0 ≤ valOf b xs ∧ valOf b xs < 2 ^ (b * xs.length) := by
  induction xs with
  | nil => simp [valOf]
  | cons x r ih =>
    have ih := ih fun d hd => h d (List.mem_cons_of_mem _ hd)
    have hx := h x List.mem_cons_self
    simp only [valOf, List.length_cons]
    rw [show b * (r.length + 1) = b * r.length + b from Nat.mul_succ _ _, Int.pow_add]
    have hp : (0 : Int) < 2 ^ b := Int.pow_pos (by decide)
    have h1 : 0 ≤ valOf b r * 2 ^ b := Int.mul_nonneg ih.1 (Int.le_of_lt hp)
    have h2 : (valOf b r + 1) * 2 ^ b ≤ 2 ^ (b * r.length) * 2 ^ b := Int.mul_le_mul_of_nonneg_right (by omega) (Int.le_of_lt hp)
    rw [Int.add_mul, Int.one_mul] at h2
    exact ⟨by omega, by omega⟩
theorem valOf_small {b : Nat} {ds : List Int} (hb : 1 ≤ b) (hb2 : b ≤ 3) (hlen : ds.length ≤ 8) (h : ∀ d ∈ ds, 0 ≤ d ∧ d < 2 ^ b) (i j : Nat) : 0 ≤ valOf b ((ds.drop i).take j) ∧ valOf b ((ds.drop i).take j) < 16777216 := by
  have q := valOf_bound b hb ((ds.drop i).take j) fun d hd => h d (List.mem_of_mem_drop (List.mem_of_mem_take hd))
  have hl : ((ds.drop i).take j).length ≤ 8 := by rw [List.length_take, List.length_drop]; omega
  have hp : (2 : Int) ^ (b * ((ds.drop i).take j).length) ≤ 2 ^ 24 := by
    have := Nat.pow_le_pow_right (n := 2) (by decide) (show b * ((ds.drop i).take j).length ≤ 24 from Nat.le_trans (Nat.mul_le_mul hb2 hl) (by decide))
    exact_mod_cast this
  exact ⟨q.1, by have : (2 : Int) ^ 24 = 16777216 := by decide
                 omega⟩
theorem valOf_one {b : Nat} {ds : List Int} {L R : Int} (h0 : 0 ≤ L) (e : L + 1 = R) (h2 : R ≤ ds.length) : ds.getD L.toNat 0 = valOf b ((ds.drop L.toNat).take (R - L).toNat) := by
  have e1 : (R - L).toNat = 1 := by omega
  have hl : L.toNat < ds.length := by omega
  rw [e1, List.drop_eq_getElem_cons hl, List.take_succ_cons, List.take_zero]
  simp only [valOf, Int.zero_mul, Int.add_zero]
  rw [List.getD_eq_getElem?_getD, List.getElem?_eq_getElem hl]; rfl
theorem valOf_split {b : Nat} {ds : List Int} {L mid R : Int} (h0 : 0 ≤ L) (q1 : L < mid) (q2 : mid < R) (h2 : R ≤ ds.length) (h : (mid - L) * (b : Int) = (((mid - L).toNat * b : Nat) : Int)) :
    valOf b ((ds.drop mid.toNat).take (R - mid).toNat) * 2 ^ ((mid - L) * (b : Int)).toNat + valOf b ((ds.drop L.toNat).take (mid - L).toNat) = valOf b ((ds.drop L.toNat).take (R - L).toNat) := by
  have e : (R - L).toNat = (mid - L).toNat + (R - mid).toNat := by omega
  rw [e, List.take_add, valOf_append, List.drop_drop]
  have e2 : L.toNat + (mid - L).toNat = mid.toNat := by omega
  rw [e2, h, Int.toNat_natCast]
  have e3 : ((ds.drop L.toNat).take (mid - L).toNat).length = (mid - L).toNat := by rw [List.length_take, List.length_drop]; omega
  rw [e3, Nat.mul_comm b]
  omega
theorem d2i_inner (w : World) (news : List (Addr × Obj)) (f c' cD cI cN l : Addr) (oD oI oN oc : Obj) (doc pm ctv : Value) (vs' : Array Value) (tq tb : Tok) (vs : List Value) (nn : Nat) (ds : List Int) (b : Nat)
    (hf : (f, fnMade (Str.ofString "inner") (Str.ofString "_digits2int.<locals>.inner") d2iIn.1.1 d2iIn.1.2.1 d2iIn.1.2.2 [(Str.ofString "n", cN), (Str.ofString "inner", cI), (Str.ofString "digits", cD)] doc pm c' ctv) ∈ news)
    (hc : (c', oc) ∈ news) (hc1 : oc.data = .fields vs') (hc2 : vs'[1]? = some (.str (Str.ofString "_digits2int.<locals>.inner") tq))
    (hD : (cD, oD) ∈ news) (hI : (cI, oI) ∈ news) (hN : (cN, oN) ∈ news) (hD1 : oD.data = .cell (some (.ref l))) (hI1 : oI.data = .cell (some (.ref f))) (hN1 : oN.data = .cell (some (.int b tb)))
    (hl : (l, W.listOf vs.toArray nn) ∈ news) (hi : IntsAre vs ds) (hds : ∀ d ∈ ds, 0 ≤ d ∧ d < 2 ^ b) (hb1 : 1 ≤ b) (hb2 : b ≤ 3) (hlen : ds.length ≤ 8) :
    ∀ (sz : Nat) (L R : Int) (tL tR : Tok), 0 ≤ L → L < R → R ≤ ds.length → (R - L).toNat ≤ sz →
    Does w news (sz + 1) (10 * sz + 20) f [.int L tL, .int R tR] [] (Keeps1 news fun r => ∃ t, r = .int (valOf b ((ds.drop L.toNat).take (R - L).toNat)) t) := by
  intro sz
  induction sz with
  | zero => intro L R tL tR h0 h1 h2 h3; omega
  | succ sz ih =>
  intro L R tL tR h0 h1 h2 h3
  unfold Does
  w_top off
  k_fill
  intro p loose mean mg mb dp un' gd cn cs a ccd cl outer A₀ base h₀ Lf m s Q E B F X N T hk C1 C2 C3 hd hu hret
  refine wpAny_call ?_
  dsimp only [d2iIn] at hf
  (k_dflt (refine' code_nest ?k1 ?k2 ?k3 ?k4 ?k5 ?kA ?kF ?kK ?k6 ?k7 ?k8 ?k9 ?kB ?_ ?c2 ?c3 ?c4 ?c5; (case kA => exact rfl); (case kF => exact rfl); (case kK => assumption); (case k1 => k_asm); (case k2 => k_asm); (case k3 => k_asm); (case k4 => k_asm); (case k5 => k_asm); (case k6 => exact hf); (case k7 => exact codeRec_news N hc hc1 hc2); (case k8 => k_room); (case k9 => exact BindsTo.of_eq rfl); (case c5 => decide); (case kB => exact locs rfl); (case c2 => exact rfl); (case c3 => exact rfl); (case c4 => exact rfl); k_whole; intro g' L' h' FG' F' N' B' X' T'; (try dsimp only); (try k_lift B'); (try k_fold)))
  iterate 18 (all_goals try first | (k_unfold; (try dsimp only)) | (k_end; wrow_close) | walk1 | (dsimp only; walk1))
  · k_steps
    exact keep_ret hret (by k_asm) (by k_asm) (fun _ h => h) ⟨_, congrArg (Value.int · _) (valOf_one h0 (by assumption) h2)⟩
  iterate 11 (all_goals try first | (k_unfold; (try dsimp only)) | (k_end; wrow_close) | walk1 | (dsimp only; walk1))
  have hmd : L < (L + R).fdiv (2 ^ Int.toNat 1) ∧ (L + R).fdiv (2 ^ Int.toNat 1) < R := by
    have e : (2 : Int) ^ Int.toNat 1 = 2 := by decide
    rw [e, Int.fdiv_eq_ediv_of_nonneg _ (by decide)]
    omega
  generalize hmid : (L + R).fdiv (2 ^ Int.toNat 1) = mid at *
  first | ((first | refine ex0_2 (hmd) ?_ | refine ex1_1 (hmd) ?_); (try clear hmd); intro q1 q2) | obtain ⟨q1, q2⟩ := (hmd)
  have hsh : (mid - L) * (b : Int) = (((mid - L).toNat * b : Nat) : Int) := by
    rw [Int.natCast_mul, Int.toNat_of_nonneg (by omega)]
  have hsh2 : (mid - L).toNat * b ≤ 320 := Nat.le_trans (Nat.mul_le_mul (show (mid - L).toNat ≤ 16 by omega) (show b ≤ 20 by omega)) (by decide)
  have hv1 := valOf_small hb1 hb2 hlen hds mid.toNat (R - mid).toNat
  k_with "my call" => ((try k_fold); refine' Does.use (ih _ _ _ _ ?p1 ?p2 ?p3 ?p4) ?k1 ?k2 ?k3 ?k4 ?k5 ?kK ?c1 ?c2 ?c3 ?kd ?ku ?_; (case k1 => k_asm); (case k2 => k_asm); (case k3 => k_asm); (case k4 => k_asm); (case k5 => k_asm); (case kK => first | exact rfl | assumption); (case c1 => first | with_reducible assumption | assumption); (case c2 => first | with_reducible assumption | assumption); (case c3 => first | with_reducible assumption | assumption); (case p1 => omega); (case p2 => omega); (case p3 => omega); (case p4 => omega); (case kd => first | exact room0 (by assumption) (by rfl) | exact room1 (by assumption) (by rfl) | ktr_room); (case ku => first | exact room0 (by assumption) (by rfl) | exact room1 (by assumption) (by rfl) | ktr_units); intro r9 news9 h9 tk9 F9 N9 P9; obtain ⟨e9, t9, q9⟩ := P9; replace e9 := e9.symm; subst e9; subst q9; (try (k_unfold; (try dsimp only))); (try dsimp only); (try k_fold))
  iterate 4 (all_goals try first | (k_unfold; (try dsimp only)) | (k_end; wrow_close) | walk1)
  k_steps
  exact keep_ret hret (by k_asm) (by k_asm) (fun _ h => h) ⟨_, congrArg (Value.int · _) (valOf_split h0 q1 q2 h2 hsh)⟩
example : True := by
  k_with_none
  k_with "k_room" => ktr_room
  k_with "k_mem" => ((fail_if_success (with_reducible_and_instances refine List.mem_cons_of_mem _ ?_)); (with_reducible_and_instances refine List.mem_append_right _ ?_); k_mem)
  k_with "k_mem" => ((fail_if_success (with_reducible_and_instances refine List.mem_cons_of_mem _ ?_)); (with_reducible_and_instances refine List.mem_append_left _ ?_); k_mem)
  k_with "k_mem" => assumption
  k_with "k_all" => first | exact List.forall_mem_nil _ | assumption | (refine' List.forall_mem_cons.mpr ⟨?a, ?b⟩; (case a => k_ne); (case b => k_all))
  k_with "call ref" => k_dflt (k_extra "my call")
  k_with "my tail" => (intro r9 news9 h9 tk9 F9 N9 P9; obtain ⟨e9, t9, q9⟩ := P9; replace e9 := e9.symm; subst e9; subst q9; (try (k_unfold; (try dsimp only))); (try dsimp only); (try k_fold))
  k_with "k_enter" => first | (refine' code_def ?k1 ?k2 ?k3 ?k4 ?k5 ?kA ?kF ?kK ?k6 ?k7 ?k8 ?k9 ?kB ?_ ?c2 ?c3 ?c4 ?c5; (case kA => exact rfl); (case kF => exact rfl); (case kK => first | exact rfl | assumption); (case k1 => k_asm); (case k2 => k_asm); (case k3 => k_asm); (case k4 => k_asm); (case k5 => k_asm); (case k6 => k_is); (case k7 => k_is); (case k8 => k_room); (case k9 => first | exact BindsTo.of_eq rfl | exact binds_K (by k_in) rfl (by k_is) rfl rfl rfl | fail "k_enter: no rule for these arguments"); (case c5 => decide); (case kB => exact locs rfl); (case c2 => exact rfl); (case c3 => exact rfl); (case c4 => exact rfl); k_whole; intro g' L' h' FG' F' N' B' X' T'; (try dsimp only); (try k_lift B'); (refine fr_let F' ?_); clear F'; intro mF F'; (try k_fold)) | (refine' code_defC ?k1 ?k2 ?k3 ?k4 ?k5 ?kA ?kF ?kK ?k6 ?k7 ?k8 ?k9 ?kB ?kD ?_ ?c2 ?c3 ?c4; (case kA => exact rfl); (case kF => exact rfl); (case kK => first | exact rfl | assumption); (case k1 => k_asm); (case k2 => k_asm); (case k3 => k_asm); (case k4 => k_asm); (case k5 => k_asm); (case k6 => k_is); (case k7 => k_is); (case k8 => k_room); (case k9 => first | exact BindsTo.of_eq rfl | exact binds_K (by k_in) rfl (by k_is) rfl rfl rfl | fail "k_enter: no rule for these arguments"); (case kB => exact rfl); (case kD => decide +kernel); (case c2 => exact rfl); (case c3 => exact rfl); (case c4 => exact rfl); k_whole; intro g' L' h' tk' cells' FG' F' N' Y' B' X' T' l1; (try k_lt l1); k_cells Y'; (try simp only [List.cons_append, List.nil_append] at N'); (try dsimp only); (try k_lift B'); (refine fr_let F' ?_); clear F'; intro mF F'; (try k_fold))
  k_with "pyIter ref" => ((rename HaltMark => hM9); refine halt_intro ?_)
  k_with "call builtin:len" => (k_here; (with_reducible show wpAny _ _ (call (Value.builtin "len") [Value.ref _]) _ _ _); k_dflt (refine' my_lenT ?k1 ?k2 ?k3 ?k4 ?_; (case k1 => k_asm); (case k2 => k_mem); (case k3 => assumption); (case k4 => omega); k_whole))
  k_with "subscriptTail Name Name ref int" => (k_here; (with_reducible show wpAny _ _ (subscriptTail _ _ (Value.ref _) (Value.int _ _)) _ _ _); k_dflt (refine' my_itemT ?k1 ?k2 ?k3 ?k4 ?k5 ?k6 ?_ ?k7; (case k1 => k_asm); (case k2 => k_mem); (case k3 => assumption); (case k4 => omega); (case k5 => omega); (case k6 => omega); (case k7 => with_unfolding_all rfl); k_whole); intro t')
  k_with "subscriptTail Name Name ref int" => (k_here; (with_reducible show wpAny _ _ (subscriptTail _ _ (Value.ref _) (Value.int _ _)) _ _ _); k_dflt (refine' my_itemL ?k1 ?k2 ?k3 ?k4 ?k5 ?k6 ?_ ?k7 ?k8; (case k1 => k_asm); (case k2 => k_mem); (case k3 => assumption); (case k4 => omega); (case k5 => omega); (case k6 => omega); (case k7 => with_unfolding_all rfl); (case k8 => intro _; with_unfolding_all rfl); k_whole); intro t')
  k_with "truthy ref" => (k_here; k_dflt (refine' my_truthyL ?k1 ?k2 ?k3 ?k4 ?_ ?_; (case k1 => k_asm); (case k2 => k_mem); (case k3 => assumption); (case k4 => omega)); (all_goals intro hz9))
  k_with "call builtin:len" => (k_here; (with_reducible show wpAny _ _ (call (Value.builtin "len") [Value.ref _]) _ _ _); k_dflt (refine' my_lenL ?k1 ?k2 ?k3 ?k4 ?_; (case k1 => k_asm); (case k2 => k_mem); (case k3 => assumption); (case k4 => omega); k_whole))
  k_with "call ref" => (k_here; k_dflt ((try k_fold); refine Does.use2 (by k_asm) (by k_asm) (by k_asm) (by k_asm) (by k_asm) (by first | exact rfl | assumption) (by first | with_reducible assumption | assumption) (by first | with_reducible assumption | assumption) (by first | with_reducible assumption | assumption) (column_does _ _ _ _ _ _ (by first | assumption | omega)) (by first | exact room0 (by assumption) (by rfl) | exact room1 (by assumption) (by rfl) | ktr_room) (by first | exact room0 (by assumption) (by rfl) | exact room1 (by assumption) (by rfl) | ktr_units) ?_; walk_at "my tail"))
  k_with "call ref" => (k_here; k_dflt ((try k_fold); refine Does.use2 (by k_asm) (by k_asm) (by k_asm) (by k_asm) (by k_asm) (by first | exact rfl | assumption) (by first | with_reducible assumption | assumption) (by first | with_reducible assumption | assumption) (by first | with_reducible assumption | assumption) (longest_does _ _ _ _ (by first | assumption | exact WhiteIn.mono (by assumption) (by intro p9 h9; k_mem)) (by omega)) (by first | exact room0 (by assumption) (by rfl) | exact room1 (by assumption) (by rfl) | ktr_room) (by first | exact room0 (by assumption) (by rfl) | exact room1 (by assumption) (by rfl) | ktr_units) ?_; walk_at "my tail"))
  k_with "call ref" => (k_here; k_dflt ((try k_fold); refine Does.use2 (by k_asm) (by k_asm) (by k_asm) (by k_asm) (by k_asm) (by first | exact rfl | assumption) (by first | with_reducible assumption | assumption) (by first | with_reducible assumption | assumption) (by first | with_reducible assumption | assumption) (indent_does _ _ _ _ (by first | assumption | exact WhiteIn.mono (by assumption) (by intro p9 h9; k_mem)) _ _ (by omega) (by assumption) (by omega) (by omega)) (by first | exact room0 (by assumption) (by rfl) | exact room1 (by assumption) (by rfl) | ktr_room) (by first | exact room0 (by assumption) (by rfl) | exact room1 (by assumption) (by rfl) | ktr_units) ?_; walk_at "my tail"))
  trivial
theorem d2i_does (w : World) (rest R₀ : List (Addr × Obj)) (ps : Array Value) (l : Addr) (vs : List Value) (nn : Nat) (ds : List Int) (b : Nat) (tb : Tok) (hl : (l, W.listOf vs.toArray nn) ∈ rest) (hi : IntsAre vs ds) (hds : ∀ d ∈ ds, 0 ≤ d ∧ d < 2 ^ b) (hb1 : 1 ≤ b) (hb2 : b ≤ 3) (hlen : ds.length ≤ 8)
   (hG : TabG (Str.ofString "_digits2int.<locals>.inner") ps R₀) (hR₀ : ∀ p ∈ R₀, p ∈ rest) (hO : ∀ p ∈ rest, p.1 ≠ 80) :
    Does w ((80, tabObj ps) :: rest) 12 150 85 [.ref l, .int b tb] [] (fun r news' => ∃ t ps' ex, r = .int (valOf b ds) t ∧ news' = (80, tabObj ps') :: (ex ++ rest) ∧ TabG (Str.ofString "_digits2int.<locals>.inner") ps' (ex ++ R₀) ∧ (∀ p ∈ ex, ∀ q ∈ rest, q.1 < p.1) ∧ ∀ p ∈ ex, 80 < p.1) := by
  unfold Does
  w_top off
  k_fill
  intro p loose mean mg mb dp un' gd cn cs a ccd cl outer A₀ base h₀ L m s Q E B F X N T hk C1 C2 C3 hd hu hret
  refine wpAny_call ?_
  k_dflt k_enter
  k_steps
  rename 80 < _ ∧ _ => l0
  first | ((first | refine ex0_2 (l0) ?_ | refine ex1_1 (l0) ?_); (try clear l0); intro l01 l02) | obtain ⟨l01, l02⟩ := (l0)
  first | ((first | refine ex0_3 (⟨_, l01, rfl⟩ : ∃ x, 80 < x ∧ x = _) ?_ | refine ex1_2 (⟨_, l01, rfl⟩ : ∃ x, 80 < x ∧ x = _) ?_ | refine ex2_1 (⟨_, l01, rfl⟩ : ∃ x, 80 < x ∧ x = _) ?_); intro Lx l03 eLx) | obtain ⟨Lx, l03, eLx⟩ := (⟨_, l01, rfl⟩ : ∃ x, 80 < x ∧ x = _)
  subst eLx
  (k_dflt (refine' nestDef_K ?d0 ?k0 ?a0 ?_; (case d0 => exact rfl); (case k0 => exact rfl); (case a0 => exact rfl)))
  (k_dflt (refine' nest_any ?F ?N ?T ?C ?cd ?U ?G ?cl ?_; (case F => k_asm); (case N => k_asm); (case T => k_asm); (case cd => exact rfl); (case C => kn_code); (case U => k_updF); (case G => assumption); (case cl => exact rfl); k_whole))
  intro f' c' oc' vs' t' ct' dc' ps' ex' h' tk' F' N' G' m' d1' d2' l1 l2
  simp only [List.forall_mem_cons] at l1 l2
  first | ((first | refine ex0_5 (l1) ?_ | refine ex1_4 (l1) ?_ | refine ex2_3 (l1) ?_ | refine ex3_2 (l1) ?_); (try clear l1); intro f1 f2 f3 f4 f5) | obtain ⟨f1, f2, f3, f4, f5⟩ := (l1)
  replace f1 := ltN f1; replace f2 := ltN f2; replace f3 := ltN f3; replace f4 := ltN f4
  replace N' := nest_order3 N'
  replace m' : (c', oc') ∈ ex' ++ rest := (List.mem_append.mp m').elim (List.mem_append_left _) fun h => List.mem_append_right _ (hR₀ _ h)
  have hA : ∀ p ∈ ex' ++ rest, p.1 ≠ Lx + 1 + 1 + 1 := fun p hp => (List.mem_append.mp hp).elim (fun h => Nat.ne_of_gt (l2 p h).1) fun h => Nat.ne_of_lt (by have := allLt_get l02 p h; omega)
  have kMark := kstMark
  have hlen' : vs.length = ds.length := hi.length
  k_with "my call" => ((try k_fold); refine' Does.use (d2i_inner w _ f' c' _ _ _ _ _ _ _ _ _ _ _ _ _ _ _ _ ds b ?hf ?hc d1' d2' ?hD ?hI ?hN ?hD1 ?hI1 ?hN1 ?hl hi hds hb1 hb2 hlen 8 _ _ _ _ ?p1 ?p2 ?p3 ?p4) ?k1 ?k2 ?k3 ?k4 ?k5 ?kK ?c1 ?c2 ?c3 ?kd ?ku ?_; (case k1 => k_asm); (case k2 => k_asm); (case k3 => k_asm); (case k4 => k_asm); (case k5 => k_asm); (case kK => first | exact rfl | assumption); (case c1 => first | with_reducible assumption | assumption); (case c2 => first | with_reducible assumption | assumption); (case c3 => first | with_reducible assumption | assumption); (case hf => k_mem); (case hc => k_mem); (case hD => k_mem); (case hI => k_mem); (case hN => k_mem); (case hD1 => assumption); (case hI1 => assumption); (case hN1 => assumption); (case hl => k_mem); (case p1 => omega); (case p2 => omega); (case p3 => omega); (case p4 => omega); (case kd => first | exact room0 (by assumption) (by rfl) | exact room1 (by assumption) (by rfl) | ktr_room); (case ku => first | exact room0 (by assumption) (by rfl) | exact room1 (by assumption) (by rfl) | ktr_units); intro r9 news9 h9 tk9 F9 N9 P9; obtain ⟨e9, t9, q9⟩ := P9; replace e9 := e9.symm; subst e9; subst q9; (try (k_unfold; (try dsimp only))); (try dsimp only); (try k_fold))
  k_steps
  all_goals (rename Fr _ _ _ _ => lF; rename News _ _ _ _ => lN; refine hret _ _ _ _ lF (cb_drop lN fun p hp => .tail _ (.tail _ (.tail _ (.tail _ hp)))) ⟨_, ps', ex', congrArg (Value.int · _) ?_, rfl, G', fun p hp q hq => (l2 p hp).2.2.2.2 q hq, fun p hp => (l2 p hp).2.2.2.1⟩)
  · rw [show ((ds.length : Int) - 0).toNat = ds.length by omega, show Int.toNat 0 = 0 from rfl, List.drop_zero, List.take_length]
  · rename ds.length = 0 => hz
    rw [List.eq_nil_of_length_eq_zero hz]; rfl
example : True := by
  k_with_none
  k_with "k_room" => ktr_room
  k_with "k_mem" => ((fail_if_success (with_reducible_and_instances refine List.mem_cons_of_mem _ ?_)); (with_reducible_and_instances refine List.mem_append_right _ ?_); k_mem)
  k_with "k_mem" => ((fail_if_success (with_reducible_and_instances refine List.mem_cons_of_mem _ ?_)); (with_reducible_and_instances refine List.mem_append_left _ ?_); k_mem)
  k_with "k_mem" => assumption
  k_with "k_all" => first | exact List.forall_mem_nil _ | assumption | (refine' List.forall_mem_cons.mpr ⟨?a, ?b⟩; (case a => k_ne); (case b => k_all))
  k_with "call ref" => k_dflt (k_extra "my call")
  k_with "my tail" => (intro r9 news9 h9 tk9 F9 N9 P9; obtain ⟨e9, t9, q9⟩ := P9; replace e9 := e9.symm; subst e9; subst q9; (try (k_unfold; (try dsimp only))); (try dsimp only); (try k_fold))
  k_with "k_enter" => first | (refine' code_def ?k1 ?k2 ?k3 ?k4 ?k5 ?kA ?kF ?kK ?k6 ?k7 ?k8 ?k9 ?kB ?_ ?c2 ?c3 ?c4 ?c5; (case kA => exact rfl); (case kF => exact rfl); (case kK => first | exact rfl | assumption); (case k1 => k_asm); (case k2 => k_asm); (case k3 => k_asm); (case k4 => k_asm); (case k5 => k_asm); (case k6 => k_is); (case k7 => k_is); (case k8 => k_room); (case k9 => first | exact BindsTo.of_eq rfl | exact binds_K (by k_in) rfl (by k_is) rfl rfl rfl | fail "k_enter: no rule for these arguments"); (case c5 => decide); (case kB => exact locs rfl); (case c2 => exact rfl); (case c3 => exact rfl); (case c4 => exact rfl); k_whole; intro g' L' h' FG' F' N' B' X' T'; (try dsimp only); (try k_lift B'); (refine fr_let F' ?_); clear F'; intro mF F'; (try k_fold)) | (refine' code_defC ?k1 ?k2 ?k3 ?k4 ?k5 ?kA ?kF ?kK ?k6 ?k7 ?k8 ?k9 ?kB ?kD ?_ ?c2 ?c3 ?c4; (case kA => exact rfl); (case kF => exact rfl); (case kK => first | exact rfl | assumption); (case k1 => k_asm); (case k2 => k_asm); (case k3 => k_asm); (case k4 => k_asm); (case k5 => k_asm); (case k6 => k_is); (case k7 => k_is); (case k8 => k_room); (case k9 => first | exact BindsTo.of_eq rfl | exact binds_K (by k_in) rfl (by k_is) rfl rfl rfl | fail "k_enter: no rule for these arguments"); (case kB => exact rfl); (case kD => decide +kernel); (case c2 => exact rfl); (case c3 => exact rfl); (case c4 => exact rfl); k_whole; intro g' L' h' tk' cells' FG' F' N' Y' B' X' T' l1; (try k_lt l1); k_cells Y'; (try simp only [List.cons_append, List.nil_append] at N'); (try dsimp only); (try k_lift B'); (refine fr_let F' ?_); clear F'; intro mF F'; (try k_fold))
  k_with "pyIter ref" => ((rename HaltMark => hM9); refine halt_intro ?_)
  k_with "call builtin:len" => (k_here; (with_reducible show wpAny _ _ (call (Value.builtin "len") [Value.ref _]) _ _ _); k_dflt (refine' my_lenT ?k1 ?k2 ?k3 ?k4 ?_; (case k1 => k_asm); (case k2 => k_mem); (case k3 => assumption); (case k4 => omega); k_whole))
  k_with "subscriptTail Name Name ref int" => (k_here; (with_reducible show wpAny _ _ (subscriptTail _ _ (Value.ref _) (Value.int _ _)) _ _ _); k_dflt (refine' my_itemT ?k1 ?k2 ?k3 ?k4 ?k5 ?k6 ?_ ?k7; (case k1 => k_asm); (case k2 => k_mem); (case k3 => assumption); (case k4 => omega); (case k5 => omega); (case k6 => omega); (case k7 => with_unfolding_all rfl); k_whole); intro t')
  k_with "subscriptTail Name Name ref int" => (k_here; (with_reducible show wpAny _ _ (subscriptTail _ _ (Value.ref _) (Value.int _ _)) _ _ _); k_dflt (refine' my_itemL ?k1 ?k2 ?k3 ?k4 ?k5 ?k6 ?_ ?k7 ?k8; (case k1 => k_asm); (case k2 => k_mem); (case k3 => assumption); (case k4 => omega); (case k5 => omega); (case k6 => omega); (case k7 => with_unfolding_all rfl); (case k8 => intro _; with_unfolding_all rfl); k_whole); intro t')
  k_with "truthy ref" => (k_here; k_dflt (refine' my_truthyL ?k1 ?k2 ?k3 ?k4 ?_ ?_; (case k1 => k_asm); (case k2 => k_mem); (case k3 => assumption); (case k4 => omega)); (all_goals intro hz9))
  k_with "call builtin:len" => (k_here; (with_reducible show wpAny _ _ (call (Value.builtin "len") [Value.ref _]) _ _ _); k_dflt (refine' my_lenL ?k1 ?k2 ?k3 ?k4 ?_; (case k1 => k_asm); (case k2 => k_mem); (case k3 => assumption); (case k4 => omega); k_whole))
  k_with "call ref" => (k_here; k_dflt ((try k_fold); refine Does.use2 (by k_asm) (by k_asm) (by k_asm) (by k_asm) (by k_asm) (by first | exact rfl | assumption) (by first | with_reducible assumption | assumption) (by first | with_reducible assumption | assumption) (by first | with_reducible assumption | assumption) (column_does _ _ _ _ _ _ (by first | assumption | omega)) (by first | exact room0 (by assumption) (by rfl) | exact room1 (by assumption) (by rfl) | ktr_room) (by first | exact room0 (by assumption) (by rfl) | exact room1 (by assumption) (by rfl) | ktr_units) ?_; walk_at "my tail"))
  k_with "call ref" => (k_here; k_dflt ((try k_fold); refine Does.use2 (by k_asm) (by k_asm) (by k_asm) (by k_asm) (by k_asm) (by first | exact rfl | assumption) (by first | with_reducible assumption | assumption) (by first | with_reducible assumption | assumption) (by first | with_reducible assumption | assumption) (longest_does _ _ _ _ (by first | assumption | exact WhiteIn.mono (by assumption) (by intro p9 h9; k_mem)) (by omega)) (by first | exact room0 (by assumption) (by rfl) | exact room1 (by assumption) (by rfl) | ktr_room) (by first | exact room0 (by assumption) (by rfl) | exact room1 (by assumption) (by rfl) | ktr_units) ?_; walk_at "my tail"))
  k_with "call ref" => (k_here; k_dflt ((try k_fold); refine Does.use2 (by k_asm) (by k_asm) (by k_asm) (by k_asm) (by k_asm) (by first | exact rfl | assumption) (by first | with_reducible assumption | assumption) (by first | with_reducible assumption | assumption) (by first | with_reducible assumption | assumption) (indent_does _ _ _ _ (by first | assumption | exact WhiteIn.mono (by assumption) (by intro p9 h9; k_mem)) _ _ (by omega) (by assumption) (by omega) (by omega)) (by first | exact room0 (by assumption) (by rfl) | exact room1 (by assumption) (by rfl) | ktr_room) (by first | exact room0 (by assumption) (by rfl) | exact room1 (by assumption) (by rfl) | ktr_units) ?_; walk_at "my tail"))
  trivial
end
section
def i2dStmt : { s : Stmt // PySem.Challenge.pw_pg0313_01.main.body[10]? = some s } := ⟨_, rfl⟩
def i2dIn : { x : Arguments × List Stmt × Scope // ∃ n a s0 r d e t s u b p q, i2dStmt.1 = .FunctionDef n a (s0 :: .FunctionDef (Str.ofString "inner") x.1 x.2.1 [] none [] x.2.2 none (Str.ofString "inner") q :: r) d e t s u b p } := ⟨(_, _, _), _, _, _, _, _, _, _, _, _, _, _, _, rfl⟩
theorem put_join {ds A B : List Int} {L mid R : Int} (h0 : 0 ≤ L) (q1 : L < mid) (q2 : mid < R) (h2 : R ≤ ds.length) (hA : A.length = (mid - L).toNat) :
    (ds.take L.toNat ++ A ++ ds.drop mid.toNat).take mid.toNat ++ B ++ (ds.take L.toNat ++ A ++ ds.drop mid.toNat).drop R.toNat = ds.take L.toNat ++ (A ++ B) ++ ds.drop R.toNat := by
  have hl : (ds.take L.toNat ++ A).length = mid.toNat := by rw [List.length_append, List.length_take, hA]; omega
  have e1 : (ds.take L.toNat ++ A ++ ds.drop mid.toNat).take mid.toNat = ds.take L.toNat ++ A := by
    rw [← hl, List.take_left]
  have e2 : (ds.take L.toNat ++ A ++ ds.drop mid.toNat).drop R.toNat = ds.drop R.toNat := by
    rw [List.drop_append, List.drop_eq_nil_of_le (by rw [hl]; omega), List.nil_append, hl, List.drop_drop]
    congr 1; omega
  rw [e1, e2, List.append_assoc (ds.take L.toNat) A B]
theorem put_len {ds A : List Int} {L mid : Int} (h0 : 0 ≤ L) (q1 : L < mid) (h2 : mid ≤ ds.length) (hA : A.length = (mid - L).toNat) : (ds.take L.toNat ++ A ++ ds.drop mid.toNat).length = ds.length := by
  rw [List.length_append, List.length_append, List.length_take, List.length_drop, hA]; omega
theorem put_one {ds : List Int} {L R x : Int} {b : Nat} (h0 : 0 ≤ L) (e : L + 1 = R) (h2 : R ≤ ds.length) (hx0 : 0 ≤ x) (hx : x < 2 ^ (b * (R - L).toNat)) : ds.set L.toNat x = ds.take L.toNat ++ digs b (R - L).toNat x ++ ds.drop R.toNat := by
  have e1 : (R - L).toNat = 1 := by omega
  have e2 : R.toNat = L.toNat + 1 := by omega
  have hl : L.toNat < ds.length := by omega
  rw [e1, Nat.mul_one] at hx
  rw [e1, e2]
  simp only [digs]
  rw [Int.emod_eq_of_lt hx0 hx, List.set_eq_take_append_cons_drop, if_pos hl, List.append_assoc]
  rfl
theorem fdiv_le {x : Int} (h : 0 ≤ x) (k : Nat) : 0 ≤ x.fdiv (2 ^ k) ∧ x.fdiv (2 ^ k) ≤ x := by
  have hp : (0 : Int) < 2 ^ k := Int.pow_pos (by decide)
  rw [Int.fdiv_eq_ediv_of_nonneg _ (Int.le_of_lt hp)]
  exact ⟨Int.ediv_nonneg h (Int.le_of_lt hp), Int.ediv_le_self _ h⟩
theorem i2d_inner (w : World) (rest : List (Addr × Obj)) (f c' cA cI cN l : Addr) (oA oI oN oc : Obj) (doc pm ctv : Value) (vs' : Array Value) (tq tb : Tok) (b : Nat)
    (hf : (f, fnMade (Str.ofString "inner") (Str.ofString "_int2digits.<locals>.inner") i2dIn.1.1 i2dIn.1.2.1 i2dIn.1.2.2 [(Str.ofString "n", cN), (Str.ofString "inner", cI), (Str.ofString "a_digits", cA)] doc pm c' ctv) ∈ rest)
    (hc : (c', oc) ∈ rest) (hc1 : oc.data = .fields vs') (hc2 : vs'[1]? = some (.str (Str.ofString "_int2digits.<locals>.inner") tq))
    (hA : (cA, oA) ∈ rest) (hI : (cI, oI) ∈ rest) (hN : (cN, oN) ∈ rest) (hA1 : oA.data = .cell (some (.ref l))) (hI1 : oI.data = .cell (some (.ref f))) (hN1 : oN.data = .cell (some (.int b tb)))
    (hR : ∀ p ∈ rest, p.1 ≠ l) (hb1 : 1 ≤ b) (hb2 : b ≤ 3) :
    ∀ (sz : Nat) (x L R : Int) (tx tL tR : Tok) (vs : List Value) (nn : Nat) (ds : List Int), 0 ≤ L → L < R → R ≤ ds.length → (R - L).toNat ≤ sz → 0 ≤ x → x < 2 ^ (b * (R - L).toNat) → x < 16777216 → IntsAre vs ds → ds.length ≤ 24 →
    Does w ((l, W.listOf vs.toArray nn) :: rest) (sz + 1) (10 * sz + 20) f [.int x tx, .int L tL, .int R tR] [] (fun r news' => ∃ vs' nn', news' = (l, W.listOf vs'.toArray nn') :: rest ∧ r = .none ∧ IntsAre vs' (ds.take L.toNat ++ digs b (R - L).toNat x ++ ds.drop R.toNat)) := by
  intro sz
  induction sz with
  | zero => intro x L R tx tL tR vs nn ds h0 h1 h2 h3; omega
  | succ sz ih =>
  intro x L R tx tL tR vs nn ds h0 h1 h2 h3 hx0 hx1 hx2 hi hlen
  unfold Does
  w_top off
  k_fill
  intro p loose mean mg mb dp un' gd cn cs a ccd cl outer A₀ base h₀ Lf m s Q E B F X N T hk C1 C2 C3 hd hu hret
  have hvl : vs.length = ds.length := hi.length
  have kMark := kstMark
  refine wpAny_call ?_
  dsimp only [i2dIn] at hf
  (k_dflt (refine' code_nest ?k1 ?k2 ?k3 ?k4 ?k5 ?kA ?kF ?kK ?k6 ?k7 ?k8 ?k9 ?kB ?_ ?c2 ?c3 ?c4 ?c5; (case kA => exact rfl); (case kF => exact rfl); (case kK => assumption); (case k1 => k_asm); (case k2 => k_asm); (case k3 => k_asm); (case k4 => k_asm); (case k5 => k_asm); (case k6 => exact .tail _ hf); (case k7 => exact codeRec_news N (.tail _ hc) hc1 hc2); (case k8 => k_room); (case k9 => exact BindsTo.of_eq rfl); (case c5 => decide); (case kB => exact locs rfl); (case c2 => exact rfl); (case c3 => exact rfl); (case c4 => exact rfl); k_whole; intro g' L' h' FG' F' N' B' X' T'; (try dsimp only); (try k_lift B'); (try k_fold)))
  iterate 18 (all_goals try first | (k_unfold; (try dsimp only)) | (k_end; wrow_close) | walk1 | (dsimp only; walk1))
  · k_steps
    rename IntsAre (List.set _ _ _) _ => hi9
    rename Fr _ _ _ _ => lF
    rename News _ _ _ _ => lN
    refine hret _ _ _ _ lF lN ⟨_, _, rfl, rfl, ?_⟩
    rw [← put_one h0 (by assumption) h2 hx0 hx1]
    exact hi9
  iterate 11 (all_goals try first | (k_unfold; (try dsimp only)) | (k_end; wrow_close) | walk1 | (dsimp only; walk1))
  have hmd : L < (L + R).fdiv (2 ^ Int.toNat 1) ∧ (L + R).fdiv (2 ^ Int.toNat 1) < R := by
    have e : (2 : Int) ^ Int.toNat 1 = 2 := by decide
    rw [e, Int.fdiv_eq_ediv_of_nonneg _ (by decide)]
    omega
  generalize hmid : (L + R).fdiv (2 ^ Int.toNat 1) = mid at *
  first | ((first | refine ex0_2 (hmd) ?_ | refine ex1_1 (hmd) ?_); (try clear hmd); intro q1 q2) | obtain ⟨q1, q2⟩ := (hmd)
  have hsh : (mid - L) * (b : Int) = (((mid - L).toNat * b : Nat) : Int) := by
    rw [Int.natCast_mul, Int.toNat_of_nonneg (by omega)]
  have hsh2 : (mid - L).toNat * b ≤ 480 := Nat.le_trans (Nat.mul_le_mul (show (mid - L).toNat ≤ 24 by omega) (show b ≤ 20 by omega)) (by decide)
  iterate 18 (all_goals try first | (k_unfold; (try dsimp only)) | (k_end; wrow_close) | walk1 | (dsimp only; walk1))
  have hup : 0 ≤ x.fdiv (2 ^ ((mid - L) * (b : Int)).toNat) ∧ x.fdiv (2 ^ ((mid - L) * (b : Int)).toNat) ≤ x := fdiv_le hx0 _
  generalize hupe : x.fdiv (2 ^ ((mid - L) * (b : Int)).toNat) = up at *
  iterate 8 (all_goals try first | (k_unfold; (try dsimp only)) | (k_end; wrow_close) | walk1 | (dsimp only; walk1))
  have eS : ((mid - L) * (b : Int)).toNat = b * (mid - L).toNat := by rw [hsh, Int.toNat_natCast, Nat.mul_comm]
  have hlow : Builtin.bitXor x (up * 2 ^ ((mid - L) * (b : Int)).toNat) = x % 2 ^ (b * (mid - L).toNat) := by rw [← eS, ← hupe]; exact bitXor_low hx0 _
  have hpS : (0 : Int) < 2 ^ (b * (mid - L).toNat) := Int.pow_pos (by decide)
  have hup2 : up = x / 2 ^ (b * (mid - L).toNat) := by rw [← hupe, eS, Int.fdiv_eq_ediv_of_nonneg _ (Int.le_of_lt hpS)]
  generalize Builtin.bitXor x (up * 2 ^ ((mid - L) * (b : Int)).toNat) = low at *
  have hlow0 : 0 ≤ low ∧ low < 2 ^ (b * (mid - L).toNat) := by rw [hlow]; exact ⟨Int.emod_nonneg _ (by omega), Int.emod_lt_of_pos _ hpS⟩
  have hlow1 : low < 16777216 := by
    have : x % 2 ^ (b * (mid - L).toNat) ≤ x := by
      have h5 := Int.mul_ediv_add_emod x (2 ^ (b * (mid - L).toNat))
      have h6 : 0 ≤ 2 ^ (b * (mid - L).toNat) * (x / 2 ^ (b * (mid - L).toNat)) := Int.mul_nonneg (Int.le_of_lt hpS) (Int.ediv_nonneg hx0 (Int.le_of_lt hpS))
      omega
    omega
  have eRL : (R - L).toNat = (mid - L).toNat + (R - mid).toNat := by omega
  have hup3 : up < 2 ^ (b * (R - mid).toNat) := by
    rw [hup2]
    refine Int.ediv_lt_of_lt_mul hpS ?_
    rw [← Int.pow_add, ← Nat.mul_add, Nat.add_comm, ← eRL]
    exact hx1
  k_with "my call" => ((try k_fold); refine' Does.use (ih _ _ _ _ _ _ _ _ _ ?p1 ?p2 ?p3 ?p4 ?p5 ?p6 ?p7 ?p8 ?p9) ?k1 ?k2 ?k3 ?k4 ?k5 ?kK ?c1 ?c2 ?c3 ?kd ?ku ?_; (case k1 => k_asm); (case k2 => k_asm); (case k3 => k_asm); (case k4 => k_asm); (case k5 => k_asm); (case kK => first | exact rfl | assumption); (case c1 => first | with_reducible assumption | assumption); (case c2 => first | with_reducible assumption | assumption); (case c3 => first | with_reducible assumption | assumption); (case p8 => assumption); (case p1 => omega); (case p2 => omega); (case p3 => omega); (case p4 => omega); (case p5 => omega); (case p6 => first | exact hlow0.2 | exact hup3); (case p7 => omega); (case p9 => omega); (case kd => first | exact room0 (by assumption) (by rfl) | exact room1 (by assumption) (by rfl) | ktr_room); (case ku => first | exact room0 (by assumption) (by rfl) | exact room1 (by assumption) (by rfl) | ktr_units); intro r9 news9 h9 tk9 F9 N9 P9; obtain ⟨vs9, nn9, e9, q9, i9⟩ := P9; replace e9 := e9.symm; subst e9; subst q9; (have l9 := put_len h0 q1 (show mid ≤ ds.length by omega) (digs_len b (mid - L).toNat low)); (try (k_unfold; (try dsimp only))); (try dsimp only); (try k_fold))
  k_steps
  rename IntsAre _ _ => i8
  rename Fr _ _ _ _ => lF
  rename News _ _ _ _ => lN
  rw [put_join h0 q1 q2 h2 (digs_len b _ _)] at i8
  refine hret _ _ _ _ lF lN ⟨_, _, rfl, rfl, ?_⟩
  rw [eRL, digs_split, ← hlow, ← hup2]
  exact i8
example : True := by
  k_with_none
  k_with "k_room" => ktr_room
  k_with "k_mem" => ((fail_if_success (with_reducible_and_instances refine List.mem_cons_of_mem _ ?_)); (with_reducible_and_instances refine List.mem_append_right _ ?_); k_mem)
  k_with "k_mem" => ((fail_if_success (with_reducible_and_instances refine List.mem_cons_of_mem _ ?_)); (with_reducible_and_instances refine List.mem_append_left _ ?_); k_mem)
  k_with "k_mem" => assumption
  k_with "k_all" => first | exact List.forall_mem_nil _ | assumption | (refine' List.forall_mem_cons.mpr ⟨?a, ?b⟩; (case a => k_ne); (case b => k_all))
  k_with "call ref" => k_dflt (k_extra "my call")
  k_with "my tail" => (intro r9 news9 h9 tk9 F9 N9 P9; obtain ⟨e9, t9, q9⟩ := P9; replace e9 := e9.symm; subst e9; subst q9; (try (k_unfold; (try dsimp only))); (try dsimp only); (try k_fold))
  k_with "k_enter" => first | (refine' code_def ?k1 ?k2 ?k3 ?k4 ?k5 ?kA ?kF ?kK ?k6 ?k7 ?k8 ?k9 ?kB ?_ ?c2 ?c3 ?c4 ?c5; (case kA => exact rfl); (case kF => exact rfl); (case kK => first | exact rfl | assumption); (case k1 => k_asm); (case k2 => k_asm); (case k3 => k_asm); (case k4 => k_asm); (case k5 => k_asm); (case k6 => k_is); (case k7 => k_is); (case k8 => k_room); (case k9 => first | exact BindsTo.of_eq rfl | exact binds_K (by k_in) rfl (by k_is) rfl rfl rfl | fail "k_enter: no rule for these arguments"); (case c5 => decide); (case kB => exact locs rfl); (case c2 => exact rfl); (case c3 => exact rfl); (case c4 => exact rfl); k_whole; intro g' L' h' FG' F' N' B' X' T'; (try dsimp only); (try k_lift B'); (refine fr_let F' ?_); clear F'; intro mF F'; (try k_fold)) | (refine' code_defC ?k1 ?k2 ?k3 ?k4 ?k5 ?kA ?kF ?kK ?k6 ?k7 ?k8 ?k9 ?kB ?kD ?_ ?c2 ?c3 ?c4; (case kA => exact rfl); (case kF => exact rfl); (case kK => first | exact rfl | assumption); (case k1 => k_asm); (case k2 => k_asm); (case k3 => k_asm); (case k4 => k_asm); (case k5 => k_asm); (case k6 => k_is); (case k7 => k_is); (case k8 => k_room); (case k9 => first | exact BindsTo.of_eq rfl | exact binds_K (by k_in) rfl (by k_is) rfl rfl rfl | fail "k_enter: no rule for these arguments"); (case kB => exact rfl); (case kD => decide +kernel); (case c2 => exact rfl); (case c3 => exact rfl); (case c4 => exact rfl); k_whole; intro g' L' h' tk' cells' FG' F' N' Y' B' X' T' l1; (try k_lt l1); k_cells Y'; (try simp only [List.cons_append, List.nil_append] at N'); (try dsimp only); (try k_lift B'); (refine fr_let F' ?_); clear F'; intro mF F'; (try k_fold))
  k_with "pyIter ref" => ((rename HaltMark => hM9); refine halt_intro ?_)
  k_with "call builtin:len" => (k_here; (with_reducible show wpAny _ _ (call (Value.builtin "len") [Value.ref _]) _ _ _); k_dflt (refine' my_lenT ?k1 ?k2 ?k3 ?k4 ?_; (case k1 => k_asm); (case k2 => k_mem); (case k3 => assumption); (case k4 => omega); k_whole))
  k_with "subscriptTail Name Name ref int" => (k_here; (with_reducible show wpAny _ _ (subscriptTail _ _ (Value.ref _) (Value.int _ _)) _ _ _); k_dflt (refine' my_itemT ?k1 ?k2 ?k3 ?k4 ?k5 ?k6 ?_ ?k7; (case k1 => k_asm); (case k2 => k_mem); (case k3 => assumption); (case k4 => omega); (case k5 => omega); (case k6 => omega); (case k7 => with_unfolding_all rfl); k_whole); intro t')
  k_with "subscriptTail Name Name ref int" => (k_here; (with_reducible show wpAny _ _ (subscriptTail _ _ (Value.ref _) (Value.int _ _)) _ _ _); k_dflt (refine' my_itemL ?k1 ?k2 ?k3 ?k4 ?k5 ?k6 ?_ ?k7 ?k8; (case k1 => k_asm); (case k2 => k_mem); (case k3 => assumption); (case k4 => omega); (case k5 => omega); (case k6 => omega); (case k7 => with_unfolding_all rfl); (case k8 => intro _; with_unfolding_all rfl); k_whole); intro t')
  k_with "truthy ref" => (k_here; k_dflt (refine' my_truthyL ?k1 ?k2 ?k3 ?k4 ?_ ?_; (case k1 => k_asm); (case k2 => k_mem); (case k3 => assumption); (case k4 => omega)); (all_goals intro hz9))
  k_with "call builtin:len" => (k_here; (with_reducible show wpAny _ _ (call (Value.builtin "len") [Value.ref _]) _ _ _); k_dflt (refine' my_lenL ?k1 ?k2 ?k3 ?k4 ?_; (case k1 => k_asm); (case k2 => k_mem); (case k3 => assumption); (case k4 => omega); k_whole))
  k_with "call ref" => (k_here; k_dflt ((try k_fold); refine Does.use2 (by k_asm) (by k_asm) (by k_asm) (by k_asm) (by k_asm) (by first | exact rfl | assumption) (by first | with_reducible assumption | assumption) (by first | with_reducible assumption | assumption) (by first | with_reducible assumption | assumption) (column_does _ _ _ _ _ _ (by first | assumption | omega)) (by first | exact room0 (by assumption) (by rfl) | exact room1 (by assumption) (by rfl) | ktr_room) (by first | exact room0 (by assumption) (by rfl) | exact room1 (by assumption) (by rfl) | ktr_units) ?_; walk_at "my tail"))
  k_with "call ref" => (k_here; k_dflt ((try k_fold); refine Does.use2 (by k_asm) (by k_asm) (by k_asm) (by k_asm) (by k_asm) (by first | exact rfl | assumption) (by first | with_reducible assumption | assumption) (by first | with_reducible assumption | assumption) (by first | with_reducible assumption | assumption) (longest_does _ _ _ _ (by first | assumption | exact WhiteIn.mono (by assumption) (by intro p9 h9; k_mem)) (by omega)) (by first | exact room0 (by assumption) (by rfl) | exact room1 (by assumption) (by rfl) | ktr_room) (by first | exact room0 (by assumption) (by rfl) | exact room1 (by assumption) (by rfl) | ktr_units) ?_; walk_at "my tail"))
  k_with "call ref" => (k_here; k_dflt ((try k_fold); refine Does.use2 (by k_asm) (by k_asm) (by k_asm) (by k_asm) (by k_asm) (by first | exact rfl | assumption) (by first | with_reducible assumption | assumption) (by first | with_reducible assumption | assumption) (by first | with_reducible assumption | assumption) (indent_does _ _ _ _ (by first | assumption | exact WhiteIn.mono (by assumption) (by intro p9 h9; k_mem)) _ _ (by omega) (by assumption) (by omega) (by omega)) (by first | exact room0 (by assumption) (by rfl) | exact room1 (by assumption) (by rfl) | ktr_room) (by first | exact room0 (by assumption) (by rfl) | exact room1 (by assumption) (by rfl) | ktr_units) ?_; walk_at "my tail"))
  trivial
theorem nest_order4 {h₀ h : Heap} {L : Addr} {a z b c d e : Addr × Obj} {ex rest : List (Addr × Obj)} (N : News h₀ L h (a :: (ex ++ z :: b :: c :: d :: e :: rest))) : News h₀ L h (z :: a :: b :: c :: d :: e :: (ex ++ rest)) :=
  cb_drop N fun p hp => by
    (revert p; (repeat' first | refine List.forall_mem_cons.mpr ⟨?_, ?_⟩ | refine List.forall_mem_append.mpr ⟨?_, ?_⟩); all_goals (try intro p hp); all_goals (repeat' first | assumption | exact List.Mem.head _ | exact List.mem_append_left _ (by assumption) | exact List.mem_append_right _ (by assumption) | exact absurd hp List.not_mem_nil | refine List.Mem.tail _ ?_ | refine List.mem_append_right _ ?_))
theorem drop_snd {h₀ h : Heap} {L : Addr} {a b : Addr × Obj} {rest : List (Addr × Obj)} (N : News h₀ L h (a :: b :: rest)) : News h₀ L h (a :: rest) :=
  cb_drop N fun p hp => (List.mem_cons.mp hp).elim (fun h => by rw [h]; exact .head _) fun h => .tail _ (.tail _ h)
theorem drop_mid5 {h₀ h : Heap} {L : Addr} {a b c d e f : Addr × Obj} {r : List (Addr × Obj)} (N : News h₀ L h (a :: b :: c :: d :: e :: f :: r)) : News h₀ L h (a :: f :: r) :=
  cb_drop N fun p hp => (List.mem_cons.mp hp).elim (fun h => by rw [h]; exact .head _) fun h => .tail _ (.tail _ (.tail _ (.tail _ (.tail _ h))))
theorem flatV (k : Nat) (v : Value) : (List.replicate k [v]).flatten = List.replicate k v := by
  induction k with
  | zero => rfl
  | succ k ih => rw [List.replicate_succ, List.flatten_cons, ih]; rfl
theorem flatI (k : Nat) : (List.replicate k [(0 : Int)]).flatten = List.replicate k 0 := by
  induction k with
  | zero => rfl
  | succ k ih => rw [List.replicate_succ, List.flatten_cons, ih]; rfl
/-- how many digits of b bits x has -/
def ndig (b : Nat) (x : Int) : Nat := (((Builtin.Int.intBits x : Nat) : Int) + b - 1).toNat / b
theorem lt_ndig {b : Nat} {x : Int} (hb : 1 ≤ b) (hx : 0 ≤ x) : x < 2 ^ (b * ndig b x) := by
  have h1 : x.natAbs < 2 ^ Builtin.Int.intBits x := intBits_le_iff.mp (Nat.le_refl _)
  have h2 : Builtin.Int.intBits x ≤ b * ndig b x := by
    unfold ndig
    have e : (((Builtin.Int.intBits x : Nat) : Int) + b - 1).toNat = Builtin.Int.intBits x + b - 1 := by omega
    rw [e]
    have h3 := Nat.div_add_mod (Builtin.Int.intBits x + b - 1) b
    have h4 := Nat.mod_lt (Builtin.Int.intBits x + b - 1) (show 0 < b by omega)
    omega
  have h3 : (2 : Nat) ^ Builtin.Int.intBits x ≤ 2 ^ (b * ndig b x) := Nat.pow_le_pow_right (by decide) h2
  have h4 : x.natAbs < 2 ^ (b * ndig b x) := Nat.lt_of_lt_of_le h1 h3
  have h5 : ((x.natAbs : Nat) : Int) < ((2 ^ (b * ndig b x) : Nat) : Int) := Int.ofNat_lt.mpr h4
  rw [Int.natCast_pow] at h5
  have h6 : (x.natAbs : Int) = x := by omega
  rw [h6] at h5
  exact h5
theorem ndig_zero {b : Nat} (hb : 1 ≤ b) : ndig b 0 = 0 := by
  unfold ndig
  have e : Builtin.Int.intBits 0 = 0 := rfl
  rw [e]
  exact Nat.div_eq_of_lt (by omega)
theorem ndig_pos {b : Nat} {x : Int} (hb : 1 ≤ b) (hx : 0 < x) : 0 < ndig b x := by
  rcases Nat.eq_zero_or_pos (ndig b x) with h | h
  · have := lt_ndig hb (Int.le_of_lt hx)
    rw [h] at this
    simp at this
    omega
  · exact h
end
section
theorem i2d_does (w : World) (rest R₀ : List (Addr × Obj)) (ps : Array Value) (x : Int) (tx : Tok) (b : Nat) (tb : Tok) (hx0 : 0 ≤ x) (hx1 : x < 16777216) (hb1 : 1 ≤ b) (hb2 : b ≤ 3)
   (hG : TabG (Str.ofString "_int2digits.<locals>.inner") ps R₀) (hR₀ : ∀ p ∈ R₀, p ∈ rest) (hO : ∀ p ∈ rest, p.1 ≠ 73) :
    Does w ((73, tabObj ps) :: rest) 30 400 78 [.int x tx, .int b tb] [] (fun r news' => ∃ l vs nn ps' ex, r = .ref l ∧ news' = (l, W.listOf vs.toArray nn) :: (73, tabObj ps') :: (ex ++ rest) ∧ IntsAre vs (digs b (ndig b x) x) ∧ TabG (Str.ofString "_int2digits.<locals>.inner") ps' (ex ++ R₀) ∧ (∀ p ∈ ex, ∀ q ∈ rest, q.1 < p.1) ∧ (∀ p ∈ ex, 73 < p.1) ∧ (∀ q ∈ rest, q.1 < l) ∧ 73 < l ∧ ∀ p ∈ ex, p.1 ≠ l) := by
  unfold Does
  w_top off
  k_fill
  intro p loose mean mg mb dp un' gd cn cs a ccd cl outer A₀ base h₀ L m s Q E B F X N T hk C1 C2 C3 hd hu hret
  have hb24 : Builtin.Int.intBits x ≤ 24 := intBits_le_iff.mpr (by omega)
  have hnd : ((Builtin.Int.intBits x : Nat) + (b : Int) - 1).fdiv b = (ndig b x : Nat) := by
    unfold ndig
    rw [Int.fdiv_eq_ediv_of_nonneg _ (by omega)]
    have : (((Builtin.Int.intBits x : Nat) : Int) + b - 1) = ((((Builtin.Int.intBits x : Nat) : Int) + b - 1).toNat : Int) := by omega
    rw [this]; simp
  have hnd24 : ndig b x ≤ 24 := by
    unfold ndig
    refine Nat.div_le_of_le_mul ?_
    have : 1 * 24 ≤ b * 24 := Nat.mul_le_mul_right 24 hb1
    have : (Builtin.Int.intBits x) + b ≤ b * 24 + 1 := by omega
    omega
  refine wpAny_call ?_
  k_dflt k_enter
  rename 73 < _ ∧ _ => l0
  first | ((first | refine ex0_2 (l0) ?_ | refine ex1_1 (l0) ?_); (try clear l0); intro l01 l02) | obtain ⟨l01, l02⟩ := (l0)
  first | ((first | refine ex0_3 (⟨_, l01, rfl⟩ : ∃ x, 73 < x ∧ x = _) ?_ | refine ex1_2 (⟨_, l01, rfl⟩ : ∃ x, 73 < x ∧ x = _) ?_ | refine ex2_1 (⟨_, l01, rfl⟩ : ∃ x, 73 < x ∧ x = _) ?_); intro Lx l03 eLx) | obtain ⟨Lx, l03, eLx⟩ := (⟨_, l01, rfl⟩ : ∃ x, 73 < x ∧ x = _)
  subst eLx
  have hA1 : ∀ p ∈ rest, p.1 ≠ Lx + 1 := fun p hp => Nat.ne_of_lt (by have := allLt_get l02 p hp; omega)
  have hA2 : ∀ p ∈ rest, p.1 ≠ Lx + 1 + 1 := fun p hp => Nat.ne_of_lt (by have := allLt_get l02 p hp; omega)
  have hA3 : ∀ p ∈ rest, p.1 ≠ Lx + 1 + 1 + 1 := fun p hp => Nat.ne_of_lt (by have := allLt_get l02 p hp; omega)
  k_steps
  simp only [hnd, Int.toNat_natCast, flatV, flatI] at *
  rename IntsAre (List.replicate _ _) _ => i1
  rename News _ _ _ _ => N1
  rename Fr _ _ _ _ => F1
  first | ((first | refine ex0_5 (news_head N1) ?_ | refine ex1_4 (news_head N1) ?_ | refine ex2_3 (news_head N1) ?_ | refine ex3_2 (news_head N1) ?_); intro Dl oD e1 e2 N1) | obtain ⟨Dl, oD, e1, e2, N1⟩ := (news_head N1)
  subst e1
  subst e2
  replace N1 := drop_snd N1
  rename _ < _ ∧ _ => l9
  first | ((first | refine ex0_6 (l9) ?_ | refine ex1_5 (l9) ?_ | refine ex2_4 (l9) ?_ | refine ex3_3 (l9) ?_); (try clear l9); intro l91 l92 l93 l94 l95 l96) | obtain ⟨l91, l92, l93, l94, l95, l96⟩ := (l9)
  (k_dflt (refine' nestDef_K ?d0 ?k0 ?a0 ?_; (case d0 => exact rfl); (case k0 => exact rfl); (case a0 => exact rfl)))
  (k_dflt (refine' nest_any ?F ?N ?T ?C ?cd ?U ?G ?cl ?_; (case F => exact F1); (case N => exact N1); (case T => k_asm); (case cd => exact rfl); (case C => kn_code); (case U => k_updF); (case G => assumption); (case cl => exact rfl); k_whole))
  intro f' c' oc' vs' t' ct' dc' ps' ex' h' tk' F' N' G' m' d1' d2' l1 l2
  simp only [List.forall_mem_cons] at l1 l2
  first | ((first | refine ex0_6 (l1) ?_ | refine ex1_5 (l1) ?_ | refine ex2_4 (l1) ?_ | refine ex3_3 (l1) ?_); (try clear l1); intro f0 f1 f2 f3 f4 f5) | obtain ⟨f0, f1, f2, f3, f4, f5⟩ := (l1)
  replace f0 := ltN f0; replace f1 := ltN f1; replace f2 := ltN f2; replace f3 := ltN f3; replace f4 := ltN f4
  replace N' := nest_order4 N'
  replace m' : (c', oc') ∈ ex' ++ rest := (List.mem_append.mp m').elim (List.mem_append_left _) fun h => List.mem_append_right _ (hR₀ _ h)
  have hB3 : ∀ p ∈ ex' ++ rest, p.1 ≠ Lx + 1 + 1 + 1 := fun p hp => (List.mem_append.mp hp).elim (fun h => Nat.ne_of_gt (l2 p h).2.1) fun h => hA3 p h
  have hBD : ∀ p ∈ ex' ++ rest, p.1 ≠ Dl := fun p hp => (List.mem_append.mp hp).elim (fun h => Nat.ne_of_gt (l2 p h).1) fun h => Nat.ne_of_lt (allLt_get l96 p h)
  have kMark := kstMark
  clear N1 F1
  rename (List.replicate _ (0 : Int)).length = _ => e1
  rw [List.length_replicate] at e1
  subst e1
  have hrl : (List.replicate (ndig b x) (0 : Int)).length = ndig b x := List.length_replicate
  have hxb : x < 2 ^ (b * (((ndig b x : Nat) : Int) - 0).toNat) := by
    rw [show (((ndig b x : Nat) : Int) - 0).toNat = ndig b x by omega]; exact lt_ndig hb1 hx0
  have hpos := fun h : 0 < x => ndig_pos (b := b) hb1 h
  k_with "my call" => ((try k_fold); refine' Does.use (i2d_inner w _ f' c' _ _ _ Dl _ _ _ _ _ _ _ _ _ _ b ?hf ?hc d1' d2' ?hA ?hI ?hN ?hA1 ?hI1 ?hN1 ?hR hb1 hb2 24 _ _ _ _ _ _ _ _ _ ?p1 ?p2 ?p3 ?p4 ?p5 ?p6 ?p7 ?p8 ?p9) ?k1 ?k2 ?k3 ?k4 ?k5 ?kK ?c1 ?c2 ?c3 ?kd ?ku ?_; (case k1 => k_asm); (case k2 => k_asm); (case k3 => k_asm); (case k4 => k_asm); (case k5 => k_asm); (case kK => first | exact rfl | assumption); (case c1 => first | with_reducible assumption | assumption); (case c2 => first | with_reducible assumption | assumption); (case c3 => first | with_reducible assumption | assumption); (case hf => k_mem); (case hc => k_mem); (case hA => k_mem); (case hI => k_mem); (case hN => k_mem); (case hA1 => assumption); (case hI1 => assumption); (case hN1 => assumption); (case hR => k_all); (case p8 => exact i1); (case p1 => omega); (case p2 => omega); (case p3 => omega); (case p4 => omega); (case p5 => omega); (case p6 => exact hxb); (case p7 => omega); (case p9 => omega); (case kd => first | exact room0 (by assumption) (by rfl) | exact room1 (by assumption) (by rfl) | ktr_room); (case ku => first | exact room0 (by assumption) (by rfl) | exact room1 (by assumption) (by rfl) | ktr_units); intro r9 news9 h9 tk9 F9 N9 P9; obtain ⟨vs9, nn9, e9, q9, i9⟩ := P9; replace e9 := e9.symm; subst e9; subst q9; (try (k_unfold; (try dsimp only))); (try dsimp only); (try k_fold))
  iterate 18 (all_goals try first | (k_unfold; (try dsimp only)) | (k_end; wrow_close) | walk1 | (dsimp only; walk1))
  rotate_left
  · rename Fr _ _ _ _ => lF
    rename News _ _ _ _ => lN
    refine hret _ _ _ _ lF (drop_mid5 lN) ⟨Dl, _, _, ps', ex', rfl, rfl, ?_, G', fun p hp q hq => (l2 p hp).2.2.2.2.2 q hq, fun p hp => (l2 p hp).2.2.2.2.1, fun q hq => allLt_get l96 q hq, l95, fun p hp => Nat.ne_of_gt (l2 p hp).1⟩
    rename x = 0 => hz
    rw [hz, ndig_zero hb1] at i1 ⊢
    exact i1
  have hp1 : 0 < ndig b x := hpos (by omega)
  k_steps
  rename Fr _ _ _ _ => lF
  rename News _ _ _ _ => lN
  refine hret _ _ _ _ lF (drop_mid5 lN) ⟨Dl, _, _, ps', ex', rfl, rfl, ?_, G', fun p hp q hq => (l2 p hp).2.2.2.2.2 q hq, fun p hp => (l2 p hp).2.2.2.2.1, fun q hq => allLt_get l96 q hq, l95, fun p hp => Nat.ne_of_gt (l2 p hp).1⟩
  rename IntsAre vs9 _ => i8
  have e9 : List.take (Int.toNat 0) (List.replicate (ndig b x) (0 : Int)) ++ digs b (((ndig b x : Nat) : Int) - 0).toNat x ++ List.drop ((ndig b x : Nat) : Int).toNat (List.replicate (ndig b x) (0 : Int)) = digs b (ndig b x) x := by
    rw [show (((ndig b x : Nat) : Int) - 0).toNat = ndig b x by omega, show Int.toNat 0 = 0 from rfl, List.take_zero, List.nil_append, Int.toNat_natCast, List.drop_eq_nil_of_le (by rw [List.length_replicate]; exact Nat.le_refl _), List.append_nil]
  rw [e9] at i8
  exact i8
example : True := by
  k_with_none
  k_with "k_room" => ktr_room
  k_with "k_mem" => ((fail_if_success (with_reducible_and_instances refine List.mem_cons_of_mem _ ?_)); (with_reducible_and_instances refine List.mem_append_right _ ?_); k_mem)
  k_with "k_mem" => ((fail_if_success (with_reducible_and_instances refine List.mem_cons_of_mem _ ?_)); (with_reducible_and_instances refine List.mem_append_left _ ?_); k_mem)
  k_with "k_mem" => assumption
  k_with "k_all" => first | exact List.forall_mem_nil _ | assumption | (refine' List.forall_mem_cons.mpr ⟨?a, ?b⟩; (case a => k_ne); (case b => k_all))
  k_with "call ref" => k_dflt (k_extra "my call")
  k_with "my tail" => (intro r9 news9 h9 tk9 F9 N9 P9; obtain ⟨e9, t9, q9⟩ := P9; replace e9 := e9.symm; subst e9; subst q9; (try (k_unfold; (try dsimp only))); (try dsimp only); (try k_fold))
  k_with "k_enter" => first | (refine' code_def ?k1 ?k2 ?k3 ?k4 ?k5 ?kA ?kF ?kK ?k6 ?k7 ?k8 ?k9 ?kB ?_ ?c2 ?c3 ?c4 ?c5; (case kA => exact rfl); (case kF => exact rfl); (case kK => first | exact rfl | assumption); (case k1 => k_asm); (case k2 => k_asm); (case k3 => k_asm); (case k4 => k_asm); (case k5 => k_asm); (case k6 => k_is); (case k7 => k_is); (case k8 => k_room); (case k9 => first | exact BindsTo.of_eq rfl | exact binds_K (by k_in) rfl (by k_is) rfl rfl rfl | fail "k_enter: no rule for these arguments"); (case c5 => decide); (case kB => exact locs rfl); (case c2 => exact rfl); (case c3 => exact rfl); (case c4 => exact rfl); k_whole; intro g' L' h' FG' F' N' B' X' T'; (try dsimp only); (try k_lift B'); (refine fr_let F' ?_); clear F'; intro mF F'; (try k_fold)) | (refine' code_defC ?k1 ?k2 ?k3 ?k4 ?k5 ?kA ?kF ?kK ?k6 ?k7 ?k8 ?k9 ?kB ?kD ?_ ?c2 ?c3 ?c4; (case kA => exact rfl); (case kF => exact rfl); (case kK => first | exact rfl | assumption); (case k1 => k_asm); (case k2 => k_asm); (case k3 => k_asm); (case k4 => k_asm); (case k5 => k_asm); (case k6 => k_is); (case k7 => k_is); (case k8 => k_room); (case k9 => first | exact BindsTo.of_eq rfl | exact binds_K (by k_in) rfl (by k_is) rfl rfl rfl | fail "k_enter: no rule for these arguments"); (case kB => exact rfl); (case kD => decide +kernel); (case c2 => exact rfl); (case c3 => exact rfl); (case c4 => exact rfl); k_whole; intro g' L' h' tk' cells' FG' F' N' Y' B' X' T' l1; (try k_lt l1); k_cells Y'; (try simp only [List.cons_append, List.nil_append] at N'); (try dsimp only); (try k_lift B'); (refine fr_let F' ?_); clear F'; intro mF F'; (try k_fold))
  k_with "pyIter ref" => ((rename HaltMark => hM9); refine halt_intro ?_)
  k_with "call builtin:len" => (k_here; (with_reducible show wpAny _ _ (call (Value.builtin "len") [Value.ref _]) _ _ _); k_dflt (refine' my_lenT ?k1 ?k2 ?k3 ?k4 ?_; (case k1 => k_asm); (case k2 => k_mem); (case k3 => assumption); (case k4 => omega); k_whole))
  k_with "subscriptTail Name Name ref int" => (k_here; (with_reducible show wpAny _ _ (subscriptTail _ _ (Value.ref _) (Value.int _ _)) _ _ _); k_dflt (refine' my_itemT ?k1 ?k2 ?k3 ?k4 ?k5 ?k6 ?_ ?k7; (case k1 => k_asm); (case k2 => k_mem); (case k3 => assumption); (case k4 => omega); (case k5 => omega); (case k6 => omega); (case k7 => with_unfolding_all rfl); k_whole); intro t')
  k_with "subscriptTail Name Name ref int" => (k_here; (with_reducible show wpAny _ _ (subscriptTail _ _ (Value.ref _) (Value.int _ _)) _ _ _); k_dflt (refine' my_itemL ?k1 ?k2 ?k3 ?k4 ?k5 ?k6 ?_ ?k7 ?k8; (case k1 => k_asm); (case k2 => k_mem); (case k3 => assumption); (case k4 => omega); (case k5 => omega); (case k6 => omega); (case k7 => with_unfolding_all rfl); (case k8 => intro _; with_unfolding_all rfl); k_whole); intro t')
  k_with "truthy ref" => (k_here; k_dflt (refine' my_truthyL ?k1 ?k2 ?k3 ?k4 ?_ ?_; (case k1 => k_asm); (case k2 => k_mem); (case k3 => assumption); (case k4 => omega)); (all_goals intro hz9))
  k_with "call builtin:len" => (k_here; (with_reducible show wpAny _ _ (call (Value.builtin "len") [Value.ref _]) _ _ _); k_dflt (refine' my_lenL ?k1 ?k2 ?k3 ?k4 ?_; (case k1 => k_asm); (case k2 => k_mem); (case k3 => assumption); (case k4 => omega); k_whole))
  k_with "call ref" => (k_here; k_dflt ((try k_fold); refine Does.use2 (by k_asm) (by k_asm) (by k_asm) (by k_asm) (by k_asm) (by first | exact rfl | assumption) (by first | with_reducible assumption | assumption) (by first | with_reducible assumption | assumption) (by first | with_reducible assumption | assumption) (column_does _ _ _ _ _ _ (by first | assumption | omega)) (by first | exact room0 (by assumption) (by rfl) | exact room1 (by assumption) (by rfl) | ktr_room) (by first | exact room0 (by assumption) (by rfl) | exact room1 (by assumption) (by rfl) | ktr_units) ?_; walk_at "my tail"))
  k_with "call ref" => (k_here; k_dflt ((try k_fold); refine Does.use2 (by k_asm) (by k_asm) (by k_asm) (by k_asm) (by k_asm) (by first | exact rfl | assumption) (by first | with_reducible assumption | assumption) (by first | with_reducible assumption | assumption) (by first | with_reducible assumption | assumption) (longest_does _ _ _ _ (by first | assumption | exact WhiteIn.mono (by assumption) (by intro p9 h9; k_mem)) (by omega)) (by first | exact room0 (by assumption) (by rfl) | exact room1 (by assumption) (by rfl) | ktr_room) (by first | exact room0 (by assumption) (by rfl) | exact room1 (by assumption) (by rfl) | ktr_units) ?_; walk_at "my tail"))
  k_with "call ref" => (k_here; k_dflt ((try k_fold); refine Does.use2 (by k_asm) (by k_asm) (by k_asm) (by k_asm) (by k_asm) (by first | exact rfl | assumption) (by first | with_reducible assumption | assumption) (by first | with_reducible assumption | assumption) (by first | with_reducible assumption | assumption) (indent_does _ _ _ _ (by first | assumption | exact WhiteIn.mono (by assumption) (by intro p9 h9; k_mem)) _ _ (by omega) (by assumption) (by omega) (by omega)) (by first | exact room0 (by assumption) (by rfl) | exact room1 (by assumption) (by rfl) | ktr_room) (by first | exact room0 (by assumption) (by rfl) | exact room1 (by assumption) (by rfl) | ktr_units) ?_; walk_at "my tail"))
  trivial
end
section
def runsOf (d : Int) : List Int := List.take (((d.fmod 3000).fdiv 125).fmod 4).toNat [(d.fmod 3000).fmod 5, ((d.fmod 3000).fdiv 5).fmod 5, ((d.fmod 3000).fdiv 25).fmod 5]
def tailOf (d : Int) : Int := (d.fmod 3000).fdiv 500
def textOf (runs : List Int) (tail : Int) : List Int := (runs.flatMap fun r => List.replicate r.toNat 32 ++ [9]) ++ List.replicate tail.toNat 32
def leadOf (d : Int) : List Int := textOf (runsOf d) (tailOf d)
theorem runs_len (d : Int) : (runsOf d).length ≤ 3 := by
  unfold runsOf
  rw [List.length_take]
  exact Nat.min_le_right _ _
theorem runs_in (d : Int) : ∀ r ∈ runsOf d, 0 ≤ r ∧ r ≤ 4 := by
  intro r hr
  have h := List.mem_of_mem_take hr
  have a (x : Int) : 0 ≤ x.fmod 5 ∧ x.fmod 5 ≤ 4 := by
    rw [Int.fmod_eq_emod_of_nonneg _ (by decide)]
    omega
  simp only [List.mem_cons, List.not_mem_nil, or_false] at h
  rcases h with rfl | rfl | rfl <;> exact a _
theorem tail_in (d : Int) : 0 ≤ tailOf d ∧ tailOf d ≤ 5 := by
  unfold tailOf
  rw [Int.fmod_eq_emod_of_nonneg _ (by decide), Int.fdiv_eq_ediv_of_nonneg _ (by decide)]
  omega
theorem codes_app (x y : Str) : KStt.codes (x ++ y) = KStt.codes x ++ KStt.codes y := by
  unfold KStt.codes
  rw [KT.app_list, List.map_append]
theorem codes_mul (k : Int) : KStt.codes (Txt.mul (Str.ofString " ") k) = List.replicate k.toNat 32 := by
  unfold KStt.codes
  rw [sp_is, mul_one_list, List.map_replicate]
  rfl
theorem codes_tab : KStt.codes (Str.ofString "\t") = [9] := by
  rw [tab_is]; rfl
theorem codes_none : KStt.codes (Str.ofString "") = [] := by
  have e : (Str.ofString "") = { cps := #[] } := by decide +kernel
  rw [e]; rfl
theorem codes_join : ∀ l : List Str, KStt.codes (Txt.join (Str.ofString "") l) = l.flatMap KStt.codes := by
  have key : ∀ l : List Str, KStt.codes (Str.join (Str.ofString "") l) = l.flatMap KStt.codes := by
    intro l
    induction l with
    | nil => rfl
    | cons x r ih =>
      cases r with
      | nil => show KStt.codes x = _; simp
      | cons y r =>
        show KStt.codes (x ++ (Str.ofString "") ++ Str.join (Str.ofString "") (y :: r)) = _
        rw [codes_app, codes_app, codes_none, List.append_nil, ih]
        rfl
  intro l
  unfold Txt.join
  rw [StrLaws.glued_eq_join]
  exact key l
theorem lead_codes (d : Int) : KStt.codes (Txt.join (Str.ofString "") ((runsOf d).map fun k => Txt.mul (Str.ofString " ") k ++ Str.ofString "\t") ++ Txt.mul (Str.ofString " ") (tailOf d)) = leadOf d := by
  rw [codes_app, codes_join, codes_mul, List.flatMap_map]
  unfold leadOf textOf
  congr 1
  congr 1
  funext k
  rw [codes_app, codes_mul, codes_tab]
theorem flat_len : ∀ l : List Int, (∀ r ∈ l, 0 ≤ r ∧ r ≤ 4) → (l.flatMap fun r => List.replicate r.toNat (32 : Int) ++ [9]).length ≤ 5 * l.length := by
  intro l
  induction l with
  | nil => intro _; exact Nat.le_refl _
  | cons x r ih =>
    intro h
    have h1 := h x List.mem_cons_self
    have h2 := ih fun r hr => h r (List.mem_cons_of_mem _ hr)
    rw [List.flatMap_cons, List.length_append, List.length_append, List.length_replicate, List.length_cons]
    simp only [List.length_nil, List.length_cons]
    omega
theorem join_len (d : Int) : (Txt.join (Str.ofString "") ((runsOf d).map fun k => Txt.mul (Str.ofString " ") k ++ Str.ofString "\t")).length ≤ 15 := by
  rw [← KStt.codes_length, codes_join, List.flatMap_map]
  have e : (fun k => KStt.codes (Txt.mul (Str.ofString " ") k ++ Str.ofString "\t")) = fun r => List.replicate r.toNat (32 : Int) ++ [9] := by
    funext k
    rw [codes_app, codes_mul, codes_tab]
  rw [e]
  have := flat_len _ (runs_in d)
  have := runs_len d
  omega
theorem lead_does (w : World) (news : List (Addr × Obj)) (d : Int) (t : Tok) :
    Does w news 1 60 170 [.int d t] [] (Keeps1 news fun r => ∃ x t, r = .str x t ∧ KStt.codes x = leadOf d) := by
  unfold Does
  w_top off
  k_fill
  intro p loose mean mg mb dp un' gd cn cs a ccd cl outer A₀ base h₀ L m s Q E B F X N T hk C1 C2 C3 hd hu hret
  refine wpAny_call ?_
  k_dflt k_enter
  have hM := haltMark
  iterate 48 (all_goals try first | (k_unfold; (try dsimp only)) | (k_end; wrow_close) | walk1 | (dsimp only; walk1))
  (with_reducible refine wpAny_execs_cons ?_); (try dsimp only)
  refine wpAny_Return_some ?_
  refine wpAny_BinOp ?_
  refine MethodCall_ ?_
  iterate 2 (all_goals try first | (k_unfold; (try dsimp only)) | (k_end; wrow_close) | walk1 | (dsimp only; walk1))
  rename IntsAre _ (List.take _ _) => i9
  replace i9 : IntsAre _ (runsOf d) := i9
  have r1 := runs_len d
  have r2 := runs_in d
  have r3 := tail_in d
  have i9l : _ = (runsOf d).length := i9.length
  iterate 2 (all_goals try first | (k_unfold; (try dsimp only)) | (k_end; wrow_close) | walk1 | (dsimp only; walk1))
  refine LCg.ListComp_U (F₀ := by k_asm) (by with_unfolding_all rfl) (by decide) (by rfl) (by decide) (by rfl) ?_
  iterate 1 (all_goals try first | (k_unfold; (try dsimp only)) | (k_end; wrow_close) | walk1 | (dsimp only; walk1))
  refine LCg.CompSrc.ledger (by rfl) (by k_asm) (by k_asm) (by k_mem) ?hsz ?_
  case hsz =>
    rw [List.size_toArray, i9l]
    exact Nat.le_trans r1 (by decide)
  intro g'
  refine kct_list (fun k => Txt.mul (Str.ofString " ") k ++ Str.ofString "\t") i9 ?turn ?fin
  case turn =>
    intro k t I oI C oC D m₂ ys h tk E' hk hC hx F₁ N₁ off ne
    intro mk9
    have r4 := r2 k hk
    refine wpAny_BinOp ?_
    refine wpAny_BinOp ?_
    iterate 2 (all_goals try first | (k_unfold; (try dsimp only)) | (k_end; wrow_close) | walk1 | (dsimp only; walk1))
    refine SB.mul (mulOk_of 1 600 (by decide) (by omega) (by omega) (by decide) (by decide)) ?_
    intro t9 k9
    iterate 1 (all_goals try first | (k_unfold; (try dsimp only)) | (k_end; wrow_close) | walk1 | (dsimp only; walk1))
    refine SBL.add (hsz := ?hsz2) ?_
    case hsz2 =>
      have e1 := len_mul_one (y := Str.ofString " ") (n := k) (N := 4) sp_is (by omega)
      have e : (Str.ofString "\t").length = 1 := by decide +kernel
      exact Nat.le_trans (Nat.add_le_add e1 (Nat.le_of_eq e)) (by decide)
    intro t7 k7 z7
    exact LCg.CompEnd.intro F₁ N₁ _ (fun p hp => hp) off (.inr ⟨_, .head _, rfl, _, rfl⟩) (kct_el rfl rfl rfl)
  case fin =>
    unfold KPfDone
    intro ys hc hl
    unfold LCg.FinE
    intro D9 h9 tk9 F₉ N₉ o9
    iterate 1 (all_goals try first | (k_unfold; (try dsimp only)) | (k_end; wrow_close) | walk1 | (dsimp only; walk1))
    refine KT.join_B 5 (News.isList N₉ (.head _)) hc ?hB (Nat.le_trans r1 (by decide)) (by decide) ?_
    case hB =>
      intro k hk
      have r4 := r2 k hk
      rw [Str.length_append]
      have := len_mul_one (y := Str.ofString " ") (n := k) (N := 4) sp_is (by omega)
      have e : (Str.ofString "\t").length = 1 := by decide +kernel
      omega
    intro t8 k8
    refine wpAny_BinOp ?_
    iterate 5 (all_goals try first | (k_unfold; (try dsimp only)) | (k_end; wrow_close) | walk1 | (dsimp only; walk1))
    refine SB.mul (mulOk_of 1 600 (by decide) (by exact Int.le_trans r3.2 (by decide)) (by exact Int.le_trans (by decide) r3.1) (by decide) (by decide)) ?_
    intro t6 k6
    refine SBL.add (hsz := ?hsz3) ?_
    case hsz3 =>
      have e1 := len_mul_one (y := Str.ofString " ") (n := tailOf d) (N := 5) sp_is r3.2
      exact Nat.le_trans (Nat.add_le_add (join_len d) e1) (by decide)
    intro t5 k5 z5
    k_steps
    exact keep_ret hret (by k_asm) (by k_asm) (fun _ h => by k_mem) ⟨_, _, rfl, lead_codes d⟩
theorem lead_len (d : Int) : (leadOf d).length ≤ 20 := by
  rw [← lead_codes, KStt.codes_length, Str.length_append]
  have e1 := len_mul_one (y := Str.ofString " ") (n := tailOf d) (N := 5) sp_is (tail_in d).2
  have := join_len d
  omega
end
section
def digitsOf (st : WS) : List Int := List.take 4 (List.drop 1 (st.count ++ [0, 0, 0, 0, 0])) ++ [st.b, st.nt]
def numOf (st : WS) : Int := valOf 3 (digitsOf st)
theorem news_rot6 {h₀ h : Heap} {L : Addr} {a b c d e f z : Addr × Obj} {rest : List (Addr × Obj)} (N : News h₀ L h (a :: b :: c :: d :: e :: f :: z :: rest)) : News h₀ L h (z :: a :: b :: c :: d :: e :: f :: rest) :=
  cb_drop N fun p hp => by
    (revert p; (repeat' first | refine List.forall_mem_cons.mpr ⟨?_, ?_⟩ | refine List.forall_mem_append.mpr ⟨?_, ?_⟩); all_goals (try intro p hp); all_goals (repeat' first | assumption | exact List.Mem.head _ | exact List.mem_append_left _ (by assumption) | exact List.mem_append_right _ (by assumption) | exact absurd hp List.not_mem_nil | refine List.Mem.tail _ ?_ | refine List.mem_append_right _ ?_))
example : True := by
  k_with "call type:list" => (k_here; (with_reducible show wpAny _ _ (call (Value.type _) [Value.ref _]) _ _ _); k_dflt (refine' list_copyKT ?k1 ?k2 ?k3 ?_ ?z; (case k1 => k_asm); (case k2 => k_asm); (case k3 => exact News.isTup (by k_asm) (by k_mem)); (case z => rw [List.size_toArray]; exact Nat.le_trans (by assumption) (by decide : 100 ≤ sizeLine)); k_whole); intro D' c' h' F' N' l1; (try k_lt l1); (try k_sweep))
  trivial
theorem drop_back6 {h₀ h : Heap} {L : Addr} {a b c d e f z : Addr × Obj} {ex rest : List (Addr × Obj)} (N : News h₀ L h (z :: (ex ++ a :: b :: c :: d :: e :: f :: rest))) : News h₀ L h (z :: (ex ++ rest)) :=
  cb_drop N fun p hp => by
    (revert p; (repeat' first | refine List.forall_mem_cons.mpr ⟨?_, ?_⟩ | refine List.forall_mem_append.mpr ⟨?_, ?_⟩); all_goals (try intro p hp); all_goals (repeat' first | assumption | exact List.Mem.head _ | exact List.mem_append_left _ (by assumption) | exact List.mem_append_right _ (by assumption) | exact absurd hp List.not_mem_nil | refine List.Mem.tail _ ?_ | refine List.mem_append_right _ ?_))
theorem number_does (w : World) (rest R₀ : List (Addr × Obj)) (ps : Array Value) (a : Addr) (st : WS) (hW : WhiteIn rest a st) (hl : st.count.length ≤ 100) (hds : ∀ d ∈ digitsOf st, 0 ≤ d ∧ d < 2 ^ 3)
   (hG : TabG (Str.ofString "_digits2int.<locals>.inner") ps R₀) (hR₀ : ∀ p ∈ R₀, p ∈ rest) (hO : ∀ p ∈ rest, p.1 ≠ 80) :
    Does w ((80, tabObj ps) :: rest) 14 200 184 [.ref a] [] (fun r news' => ∃ t ps' ex, r = .int (numOf st) t ∧ news' = (80, tabObj ps') :: (ex ++ rest) ∧ TabG (Str.ofString "_digits2int.<locals>.inner") ps' (ex ++ R₀) ∧ (∀ p ∈ ex, ∀ q ∈ rest, q.1 < p.1) ∧ ∀ p ∈ ex, 80 < p.1) := by
  unfold Does
  w_top off
  k_fill
  intro p loose mean mg mb dp un' gd cn cs a ccd cl outer A₀ base h₀ L m s Q E B F X N T hk C1 C2 C3 hd hu hret
  obtain ⟨d, tn, tc, hh0, hh1, hh2, hh3, hh4, t0, t1, t2, t3, t4, tnt, tb, v0, v1, v4, vs, m1, m2, m3, m4, hi⟩ := hW
  have kMark := kstMark
  have hvl : vs.length ≤ 100 := by rw [hi.length]; exact hl
  refine wpAny_call ?_
  k_dflt k_enter
  have hmin : min 5 (st.count ++ [0, 0, 0, 0, 0]).length - 1 = 4 := by rw [List.length_append]; simp only [List.length_cons, List.length_nil]; omega
  have hdl : (digitsOf st).length ≤ 8 := by unfold digitsOf; rw [List.length_append, List.length_take]; simp only [List.length_cons, List.length_nil]; omega
  k_with "my call" => ((try k_fold); refine' Does.use (d2i_does w _ R₀ ps _ _ _ (digitsOf st) 3 _ ?hl ?hi hds ?b1 ?b2 hdl hG ?hR ?hO) ?k1 ?k2 ?k3 ?k4 ?k5 ?kK ?c1 ?c2 ?c3 ?kd ?ku ?_; (case k1 => k_asm); (case k2 => k_asm); (case k3 => k_asm); (case k4 => exact news_rot6 (by k_asm)); (case k5 => k_asm); (case kK => first | exact rfl | assumption); (case c1 => first | with_reducible assumption | assumption); (case c2 => first | with_reducible assumption | assumption); (case c3 => first | with_reducible assumption | assumption); (case hl => k_mem); (case hi => rename IntsAre _ (_ ++ [st.b, st.nt]) => i9; rw [hmin] at i9; exact i9); (case b1 => decide); (case b2 => decide); (case hR => intro p hp; have := hR₀ p hp; k_mem); (case hO => k_all); (case kd => first | exact room0 (by assumption) (by rfl) | exact room1 (by assumption) (by rfl) | ktr_room); (case ku => first | exact room0 (by assumption) (by rfl) | exact room1 (by assumption) (by rfl) | ktr_units); intro r9 news9 h9 tk9 F9 N9 P9; obtain ⟨t9, ps9, ex9, q9, e9, g9, o9, z9⟩ := P9; subst e9; subst q9; (try (k_unfold; (try dsimp only))); (try dsimp only); (try k_fold))
  k_steps
  rename Fr _ _ _ _ => lF
  rename News _ _ _ _ => lN
  refine hret _ _ _ _ lF (drop_back6 lN) ⟨_, ps9, ex9, rfl, rfl, g9, fun p hp q hq => o9 p hp q (by k_mem), z9⟩
example : True := by
  k_with_none
  k_with "k_room" => ktr_room
  k_with "k_mem" => ((fail_if_success (with_reducible_and_instances refine List.mem_cons_of_mem _ ?_)); (with_reducible_and_instances refine List.mem_append_right _ ?_); k_mem)
  k_with "k_mem" => ((fail_if_success (with_reducible_and_instances refine List.mem_cons_of_mem _ ?_)); (with_reducible_and_instances refine List.mem_append_left _ ?_); k_mem)
  k_with "k_mem" => assumption
  k_with "k_all" => first | exact List.forall_mem_nil _ | assumption | (refine' List.forall_mem_cons.mpr ⟨?a, ?b⟩; (case a => k_ne); (case b => k_all))
  k_with "call ref" => k_dflt (k_extra "my call")
  k_with "my tail" => (intro r9 news9 h9 tk9 F9 N9 P9; obtain ⟨e9, t9, q9⟩ := P9; replace e9 := e9.symm; subst e9; subst q9; (try (k_unfold; (try dsimp only))); (try dsimp only); (try k_fold))
  k_with "k_enter" => first | (refine' code_def ?k1 ?k2 ?k3 ?k4 ?k5 ?kA ?kF ?kK ?k6 ?k7 ?k8 ?k9 ?kB ?_ ?c2 ?c3 ?c4 ?c5; (case kA => exact rfl); (case kF => exact rfl); (case kK => first | exact rfl | assumption); (case k1 => k_asm); (case k2 => k_asm); (case k3 => k_asm); (case k4 => k_asm); (case k5 => k_asm); (case k6 => k_is); (case k7 => k_is); (case k8 => k_room); (case k9 => first | exact BindsTo.of_eq rfl | exact binds_K (by k_in) rfl (by k_is) rfl rfl rfl | fail "k_enter: no rule for these arguments"); (case c5 => decide); (case kB => exact locs rfl); (case c2 => exact rfl); (case c3 => exact rfl); (case c4 => exact rfl); k_whole; intro g' L' h' FG' F' N' B' X' T'; (try dsimp only); (try k_lift B'); (refine fr_let F' ?_); clear F'; intro mF F'; (try k_fold)) | (refine' code_defC ?k1 ?k2 ?k3 ?k4 ?k5 ?kA ?kF ?kK ?k6 ?k7 ?k8 ?k9 ?kB ?kD ?_ ?c2 ?c3 ?c4; (case kA => exact rfl); (case kF => exact rfl); (case kK => first | exact rfl | assumption); (case k1 => k_asm); (case k2 => k_asm); (case k3 => k_asm); (case k4 => k_asm); (case k5 => k_asm); (case k6 => k_is); (case k7 => k_is); (case k8 => k_room); (case k9 => first | exact BindsTo.of_eq rfl | exact binds_K (by k_in) rfl (by k_is) rfl rfl rfl | fail "k_enter: no rule for these arguments"); (case kB => exact rfl); (case kD => decide +kernel); (case c2 => exact rfl); (case c3 => exact rfl); (case c4 => exact rfl); k_whole; intro g' L' h' tk' cells' FG' F' N' Y' B' X' T' l1; (try k_lt l1); k_cells Y'; (try simp only [List.cons_append, List.nil_append] at N'); (try dsimp only); (try k_lift B'); (refine fr_let F' ?_); clear F'; intro mF F'; (try k_fold))
  k_with "pyIter ref" => ((rename HaltMark => hM9); refine halt_intro ?_)
  k_with "call builtin:len" => (k_here; (with_reducible show wpAny _ _ (call (Value.builtin "len") [Value.ref _]) _ _ _); k_dflt (refine' my_lenT ?k1 ?k2 ?k3 ?k4 ?_; (case k1 => k_asm); (case k2 => k_mem); (case k3 => assumption); (case k4 => omega); k_whole))
  k_with "subscriptTail Name Name ref int" => (k_here; (with_reducible show wpAny _ _ (subscriptTail _ _ (Value.ref _) (Value.int _ _)) _ _ _); k_dflt (refine' my_itemT ?k1 ?k2 ?k3 ?k4 ?k5 ?k6 ?_ ?k7; (case k1 => k_asm); (case k2 => k_mem); (case k3 => assumption); (case k4 => omega); (case k5 => omega); (case k6 => omega); (case k7 => with_unfolding_all rfl); k_whole); intro t')
  k_with "subscriptTail Name Name ref int" => (k_here; (with_reducible show wpAny _ _ (subscriptTail _ _ (Value.ref _) (Value.int _ _)) _ _ _); k_dflt (refine' my_itemL ?k1 ?k2 ?k3 ?k4 ?k5 ?k6 ?_ ?k7 ?k8; (case k1 => k_asm); (case k2 => k_mem); (case k3 => assumption); (case k4 => omega); (case k5 => omega); (case k6 => omega); (case k7 => with_unfolding_all rfl); (case k8 => intro _; with_unfolding_all rfl); k_whole); intro t')
  k_with "truthy ref" => (k_here; k_dflt (refine' my_truthyL ?k1 ?k2 ?k3 ?k4 ?_ ?_; (case k1 => k_asm); (case k2 => k_mem); (case k3 => assumption); (case k4 => omega)); (all_goals intro hz9))
  k_with "call builtin:len" => (k_here; (with_reducible show wpAny _ _ (call (Value.builtin "len") [Value.ref _]) _ _ _); k_dflt (refine' my_lenL ?k1 ?k2 ?k3 ?k4 ?_; (case k1 => k_asm); (case k2 => k_mem); (case k3 => assumption); (case k4 => omega); k_whole))
  k_with "call ref" => (k_here; k_dflt ((try k_fold); refine Does.use2 (by k_asm) (by k_asm) (by k_asm) (by k_asm) (by k_asm) (by first | exact rfl | assumption) (by first | with_reducible assumption | assumption) (by first | with_reducible assumption | assumption) (by first | with_reducible assumption | assumption) (column_does _ _ _ _ _ _ (by first | assumption | omega)) (by first | exact room0 (by assumption) (by rfl) | exact room1 (by assumption) (by rfl) | ktr_room) (by first | exact room0 (by assumption) (by rfl) | exact room1 (by assumption) (by rfl) | ktr_units) ?_; walk_at "my tail"))
  k_with "call ref" => (k_here; k_dflt ((try k_fold); refine Does.use2 (by k_asm) (by k_asm) (by k_asm) (by k_asm) (by k_asm) (by first | exact rfl | assumption) (by first | with_reducible assumption | assumption) (by first | with_reducible assumption | assumption) (by first | with_reducible assumption | assumption) (longest_does _ _ _ _ (by first | assumption | exact WhiteIn.mono (by assumption) (by intro p9 h9; k_mem)) (by omega)) (by first | exact room0 (by assumption) (by rfl) | exact room1 (by assumption) (by rfl) | ktr_room) (by first | exact room0 (by assumption) (by rfl) | exact room1 (by assumption) (by rfl) | ktr_units) ?_; walk_at "my tail"))
  k_with "call ref" => (k_here; k_dflt ((try k_fold); refine Does.use2 (by k_asm) (by k_asm) (by k_asm) (by k_asm) (by k_asm) (by first | exact rfl | assumption) (by first | with_reducible assumption | assumption) (by first | with_reducible assumption | assumption) (by first | with_reducible assumption | assumption) (indent_does _ _ _ _ (by first | assumption | exact WhiteIn.mono (by assumption) (by intro p9 h9; k_mem)) _ _ (by omega) (by assumption) (by omega) (by omega)) (by first | exact room0 (by assumption) (by rfl) | exact room1 (by assumption) (by rfl) | ktr_room) (by first | exact room0 (by assumption) (by rfl) | exact room1 (by assumption) (by rfl) | ktr_units) ?_; walk_at "my tail"))
  trivial
example : True := by
  k_with_none
  k_with "k_room" => ktr_room
  k_with "k_mem" => ((fail_if_success (with_reducible_and_instances refine List.mem_cons_of_mem _ ?_)); (with_reducible_and_instances refine List.mem_append_right _ ?_); k_mem)
  k_with "k_mem" => ((fail_if_success (with_reducible_and_instances refine List.mem_cons_of_mem _ ?_)); (with_reducible_and_instances refine List.mem_append_left _ ?_); k_mem)
  k_with "k_mem" => assumption
  k_with "k_all" => first | exact List.forall_mem_nil _ | assumption | (refine' List.forall_mem_cons.mpr ⟨?a, ?b⟩; (case a => k_ne); (case b => k_all))
  k_with "call ref" => k_dflt (k_extra "my call")
  k_with "my tail" => (intro r9 news9 h9 tk9 F9 N9 P9; obtain ⟨e9, t9, q9⟩ := P9; replace e9 := e9.symm; subst e9; subst q9; (try (k_unfold; (try dsimp only))); (try dsimp only); (try k_fold))
  k_with "k_enter" => first | (refine' code_def ?k1 ?k2 ?k3 ?k4 ?k5 ?kA ?kF ?kK ?k6 ?k7 ?k8 ?k9 ?kB ?_ ?c2 ?c3 ?c4 ?c5; (case kA => exact rfl); (case kF => exact rfl); (case kK => first | exact rfl | assumption); (case k1 => k_asm); (case k2 => k_asm); (case k3 => k_asm); (case k4 => k_asm); (case k5 => k_asm); (case k6 => k_is); (case k7 => k_is); (case k8 => k_room); (case k9 => first | exact BindsTo.of_eq rfl | exact binds_K (by k_in) rfl (by k_is) rfl rfl rfl | fail "k_enter: no rule for these arguments"); (case c5 => decide); (case kB => exact locs rfl); (case c2 => exact rfl); (case c3 => exact rfl); (case c4 => exact rfl); k_whole; intro g' L' h' FG' F' N' B' X' T'; (try dsimp only); (try k_lift B'); (refine fr_let F' ?_); clear F'; intro mF F'; (try k_fold)) | (refine' code_defC ?k1 ?k2 ?k3 ?k4 ?k5 ?kA ?kF ?kK ?k6 ?k7 ?k8 ?k9 ?kB ?kD ?_ ?c2 ?c3 ?c4; (case kA => exact rfl); (case kF => exact rfl); (case kK => first | exact rfl | assumption); (case k1 => k_asm); (case k2 => k_asm); (case k3 => k_asm); (case k4 => k_asm); (case k5 => k_asm); (case k6 => k_is); (case k7 => k_is); (case k8 => k_room); (case k9 => first | exact BindsTo.of_eq rfl | exact binds_K (by k_in) rfl (by k_is) rfl rfl rfl | fail "k_enter: no rule for these arguments"); (case kB => exact rfl); (case kD => decide +kernel); (case c2 => exact rfl); (case c3 => exact rfl); (case c4 => exact rfl); k_whole; intro g' L' h' tk' cells' FG' F' N' Y' B' X' T' l1; (try k_lt l1); k_cells Y'; (try simp only [List.cons_append, List.nil_append] at N'); (try dsimp only); (try k_lift B'); (refine fr_let F' ?_); clear F'; intro mF F'; (try k_fold))
  k_with "pyIter ref" => ((rename HaltMark => hM9); refine halt_intro ?_)
  k_with "call builtin:len" => (k_here; (with_reducible show wpAny _ _ (call (Value.builtin "len") [Value.ref _]) _ _ _); k_dflt (refine' my_lenT ?k1 ?k2 ?k3 ?k4 ?_; (case k1 => k_asm); (case k2 => k_mem); (case k3 => assumption); (case k4 => omega); k_whole))
  k_with "subscriptTail Name Name ref int" => (k_here; (with_reducible show wpAny _ _ (subscriptTail _ _ (Value.ref _) (Value.int _ _)) _ _ _); k_dflt (refine' my_itemT ?k1 ?k2 ?k3 ?k4 ?k5 ?k6 ?_ ?k7; (case k1 => k_asm); (case k2 => k_mem); (case k3 => assumption); (case k4 => omega); (case k5 => omega); (case k6 => omega); (case k7 => with_unfolding_all rfl); k_whole); intro t')
  k_with "subscriptTail Name Name ref int" => (k_here; (with_reducible show wpAny _ _ (subscriptTail _ _ (Value.ref _) (Value.int _ _)) _ _ _); k_dflt (refine' my_itemL ?k1 ?k2 ?k3 ?k4 ?k5 ?k6 ?_ ?k7 ?k8; (case k1 => k_asm); (case k2 => k_mem); (case k3 => assumption); (case k4 => omega); (case k5 => omega); (case k6 => omega); (case k7 => with_unfolding_all rfl); (case k8 => intro _; with_unfolding_all rfl); k_whole); intro t')
  k_with "truthy ref" => (k_here; k_dflt (refine' my_truthyL ?k1 ?k2 ?k3 ?k4 ?_ ?_; (case k1 => k_asm); (case k2 => k_mem); (case k3 => assumption); (case k4 => omega)); (all_goals intro hz9))
  k_with "call builtin:len" => (k_here; (with_reducible show wpAny _ _ (call (Value.builtin "len") [Value.ref _]) _ _ _); k_dflt (refine' my_lenL ?k1 ?k2 ?k3 ?k4 ?_; (case k1 => k_asm); (case k2 => k_mem); (case k3 => assumption); (case k4 => omega); k_whole))
  k_with "call ref" => (k_here; k_dflt ((try k_fold); refine Does.use2 (by k_asm) (by k_asm) (by k_asm) (by k_asm) (by k_asm) (by first | exact rfl | assumption) (by first | with_reducible assumption | assumption) (by first | with_reducible assumption | assumption) (by first | with_reducible assumption | assumption) (column_does _ _ _ _ _ _ (by first | assumption | omega)) (by first | exact room0 (by assumption) (by rfl) | exact room1 (by assumption) (by rfl) | ktr_room) (by first | exact room0 (by assumption) (by rfl) | exact room1 (by assumption) (by rfl) | ktr_units) ?_; walk_at "my tail"))
  k_with "call ref" => (k_here; k_dflt ((try k_fold); refine Does.use2 (by k_asm) (by k_asm) (by k_asm) (by k_asm) (by k_asm) (by first | exact rfl | assumption) (by first | with_reducible assumption | assumption) (by first | with_reducible assumption | assumption) (by first | with_reducible assumption | assumption) (longest_does _ _ _ _ (by first | assumption | exact WhiteIn.mono (by assumption) (by intro p9 h9; k_mem)) (by omega)) (by first | exact room0 (by assumption) (by rfl) | exact room1 (by assumption) (by rfl) | ktr_room) (by first | exact room0 (by assumption) (by rfl) | exact room1 (by assumption) (by rfl) | ktr_units) ?_; walk_at "my tail"))
  k_with "call ref" => (k_here; k_dflt ((try k_fold); refine Does.use2 (by k_asm) (by k_asm) (by k_asm) (by k_asm) (by k_asm) (by first | exact rfl | assumption) (by first | with_reducible assumption | assumption) (by first | with_reducible assumption | assumption) (by first | with_reducible assumption | assumption) (indent_does _ _ _ _ (by first | assumption | exact WhiteIn.mono (by assumption) (by intro p9 h9; k_mem)) _ _ (by omega) (by assumption) (by omega) (by omega)) (by first | exact room0 (by assumption) (by rfl) | exact room1 (by assumption) (by rfl) | ktr_room) (by first | exact room0 (by assumption) (by rfl) | exact room1 (by assumption) (by rfl) | ktr_units) ?_; walk_at "my tail"))
  trivial
end
section
section
variable {prog : Program} {w : World} {A : Around} {E : Value → Shared → Prop} {s : Shared} {env : Env} {h₀ : Heap} {x : Str} {body : List Stmt} {Q : Flow → Shared → Prop}
theorem my_rev {σ : Type} {ax I : Addr} {lo : Obj} {vs : List Value} {n : Nat} {m₀ : Str → Option Value} (Led : σ → List (Addr × Obj)) (ps : σ → List (Str × Value)) (Facts : σ → Prop) (stored : List Str) (P : Nat → σ → Prop) (c₀ : σ)
    (hh : A.handled = none) (F : Fr h₀ env.locals s.heap m₀) (N : News h₀ env.locals s.heap ((I, revObj ax ((vs.length : Int) - 1)) :: Led c₀)) (hof : OffI I (revObj ax ((vs.length : Int) - 1)) (Led c₀)) (hm : ∀ c, (ax, lo) ∈ Led c) (hc : lo.cls = .type "list") (hd : lo.data = .seq vs.toArray n)
    (hf : Facts c₀) (hk : ∀ p ∈ ps c₀, m₀ p.1 = some p.2) (hp : P 0 c₀)
    (turn : ∀ (c : σ) (i : Nat) v (u : Str → Option Value) h tk it, vs.reverse[i]? = some v → Facts c → P i c →
      Fr h₀ env.locals h (fun y => if y = x then some v else kstB (fun z => if stored.contains z then u z else m₀ z) (ps c) y) → News h₀ env.locals h ((I, it) :: Led c) → it.cls = .type "list_reverseiterator" →
      wpAny (model prog w) A (execs body env) (UnrPost h₀ env.locals { s with heap := h, toks := tk } I it (KstS Led ps Facts x stored m₀ (fun _ => P (i + 1)) []) Q) E { s with heap := h, toks := tk })
    (done : ∀ (c : σ) (u : Str → Option Value) h tk, Facts c → P vs.length c → Fr h₀ env.locals h (fun y => if y = x then u y else kstB (fun z => if stored.contains z then u z else m₀ z) (ps c) y) → News h₀ env.locals h (Led c) → Q .next { s with heap := h, toks := tk }) :
    wpAny (model prog w) A (pyIter (.ref I)) (fun it s₂ => LoopAtV prog w A h₀ env x body Q E it s₂) E s := by
  refine iter_revUnr hh F N hof (hm _) hc hd ?_
  have key : ∀ (rem : List Value) (i : Nat), vs.reverse.drop i = rem → i + rem.length = vs.length → ∀ m nx, KstS Led ps Facts x stored m₀ (fun _ => P i) [] m nx → RevRest prog w A E h₀ env x body Q s I (ax, lo) rem m nx := by
    intro rem
    induction rem with
    | nil =>
      intro i hdr hl m nx hp9_5
      first | ((first | refine ex0_6 (hp9_5) ?_ | refine ex1_5 (hp9_5) ?_ | refine ex2_4 (hp9_5) ?_ | refine ex3_3 (hp9_5) ?_); (try clear hp9_5); intro c hr9_0 hf' h1 h2 hp'; subst hr9_0) | obtain ⟨c, rfl, hf', h1, h2, hp'⟩ := (hp9_5)
      have e : i = vs.length := by simpa using hl
      subst e
      refine RevRest.zero fun h tk F₁ N₁ => done c m h tk hf' hp' (kst_frOut h1 h2 F₁) N₁
    | cons v r ih =>
      intro i hdr hl m nx hp9_5
      first | ((first | refine ex0_6 (hp9_5) ?_ | refine ex1_5 (hp9_5) ?_ | refine ex2_4 (hp9_5) ?_ | refine ex3_3 (hp9_5) ?_); (try clear hp9_5); intro c hr9_0 hf' h1 h2 hp'; subst hr9_0) | obtain ⟨c, rfl, hf', h1, h2, hp'⟩ := (hp9_5)
      refine RevRest.succ fun it h tk hit F₁ N₁ => ?_
      have hv : vs.reverse[i]? = some v := by
        have := congrArg (fun l : List Value => l[0]?) hdr
        simpa [List.getElem?_drop] using this
      refine wpAny_mono (turn c i v m h tk it hv hf' hp' (kst_fr h1 h2 F₁) N₁ hit) (fun f s₂ p => ?_) fun _ _ e => e
      have hdr' : vs.reverse.drop (i + 1) = r := by
        have := congrArg (List.drop 1) hdr
        rw [List.drop_drop] at this
        simpa using this
      have fin : UnrEnd h₀ env.locals { s with heap := h, toks := tk } I it (KstS Led ps Facts x stored m₀ (fun _ => P (i + 1)) []) s₂ → UnrEnd h₀ env.locals { s with heap := h, toks := tk } I it (fun m' n' => (ax, lo) ∈ n' ∧ RevRest prog w A E h₀ env x body Q s I (ax, lo) r m' n') s₂ := by
        intro hp9_0
        first | ((first | refine ex0_9 (hp9_0) ?_ | refine ex3_6 (hp9_0) ?_ | refine ex4_5 (hp9_0) ?_ | refine ex6_3 (hp9_0) ?_); (try clear hp9_0); intro h' tk' m' n' e F' N' ho hK) | obtain ⟨h', tk', m', n', e, F', N', ho, hK⟩ := (hp9_0)
        refine ⟨h', tk', m', n', e, F', N', ho, ?_, ih (i + 1) hdr' (by simp only [List.length_cons] at hl; omega) m' n' hK⟩
        first | ((first | refine ex0_3 (hK) ?_ | refine ex1_2 (hK) ?_ | refine ex2_1 (hK) ?_); (try clear hK); intro c' hr9_0 _; subst hr9_0) | obtain ⟨c', rfl, _⟩ := (hK)
        exact hm c'
      cases f with
      | ret v => exact p
      | brk => exact p
      | next => exact fin p
      | cont => exact fin p
  exact key _ 0 (by rw [List.drop_zero]) (by simp) m₀ (Led c₀) ⟨c₀, rfl, hf, hk, fun _ _ _ _ => rfl, hp⟩
end
end
section
theorem div2_does (w : World) (news : List (Addr × Obj)) (x b n : Int) (tx tb tn : Tok) (ha0 : 0 ≤ x) (ha1 : x < 1048576) (hb0 : 1 ≤ b) (hb1 : b ≤ 6) (hn0 : 1 ≤ n) (hn1 : n ≤ 3) :
    Does w news 1 40 64 [.int x tx, .int b tb, .int n tn] [] (fun r news' => ∃ D t u, r = .ref D ∧ news' = (D, ({ cls := .type "tuple", data := .seq #[.int (x / b) t, .int (x % b) u] } : Obj)) :: news ∧ ∀ q ∈ news, @LT.lt Nat _ q.1 D) := by
  unfold Does
  w_top off
  k_fill
  intro p loose mean mg mb dp un' gd cn cs a ccd cl outer A₀ base h₀ L m s Q E B F X N T hk C1 C2 C3 hd hu hret
  have hb24 : Builtin.Int.intBits x ≤ 20 := intBits_le_iff.mpr (by omega)
  refine wpAny_call ?_
  k_dflt k_enter
  k_steps
  rename Fr _ _ _ _ => lF
  rename News _ _ _ ((_, _) :: news) => lN
  rw [Int.fdiv_eq_ediv_of_nonneg _ (by omega), Int.fmod_eq_emod_of_nonneg _ (by omega)] at lN
  refine hret _ _ _ _ lF lN ⟨_, _, _, rfl, rfl, fun q hq => ?_⟩
  rename News _ _ _ news => lN0
  exact Heap.lt_size (lN0 q hq).1
def topVal (n : Nat) (l : List Int) : Int := l.foldl (fun v d => v * 2 ^ n + d) 0
theorem topVal_snoc (n : Nat) (l : List Int) (d : Int) : topVal n (l ++ [d]) = topVal n l * 2 ^ n + d := by simp [topVal]
theorem topVal_rev (n : Nat) (l : List Int) : topVal n l.reverse = valOf n l := by
  induction l with
  | nil => rfl
  | cons d r ih => rw [List.reverse_cons, topVal_snoc, ih, valOf, Int.add_comm]
theorem valOf_digs (n : Nat) : ∀ (k : Nat) (x : Int), 0 ≤ x → x < 2 ^ (n * k) → valOf n (digs n k x) = x
  | 0, x, h0, h1 => by
    rw [Nat.mul_zero, Int.pow_zero] at h1
    simp only [digs, valOf]; omega
  | k + 1, x, h0, h1 => by
    have hp : (0 : Int) < 2 ^ n := Int.pow_pos (by decide)
    simp only [digs, valOf]
    rw [valOf_digs n k (x / 2 ^ n) (Int.ediv_nonneg h0 (Int.le_of_lt hp)) (by
      refine Int.ediv_lt_of_lt_mul hp ?_
      rw [← Int.pow_add]
      rw [Nat.mul_succ] at h1
      exact h1)]
    have := Int.mul_ediv_add_emod x (2 ^ n)
    rw [Int.mul_comm] at this
    omega
theorem digs_in (n : Nat) : ∀ (k : Nat) (x : Int), ∀ d ∈ digs n k x, 0 ≤ d ∧ d < 2 ^ n
  | 0, _, d, h => nomatch h
  | k + 1, x, d, h => by
    have hp : (0 : Int) < 2 ^ n := Int.pow_pos (by decide)
    rcases List.mem_cons.mp h with rfl | h
    · exact ⟨Int.emod_nonneg _ (by omega), Int.emod_lt_of_pos _ hp⟩
    · exact digs_in n k _ d h
/-- one turn of the division: the rest so far, the quotient's digits so far -/
structure DivOk (n : Nat) (b : Int) (pre : List Int) (r : Int) (qs : List Int) : Prop where
  len : qs.length = pre.length
  r : r = topVal n pre % b
  q : valOf n qs.reverse = topVal n pre / b
  all : ∀ q ∈ qs, 0 ≤ q ∧ q < 2 ^ n
theorem DivOk.zero (n : Nat) (b : Int) : DivOk n b [] 0 [] := ⟨rfl, by simp [topVal], by simp [topVal, valOf], fun _ h => nomatch h⟩
theorem DivOk.succ {n : Nat} {b : Int} {pre : List Int} {r : Int} {qs : List Int} (h : DivOk n b pre r qs) {d : Int} (hb : 0 < b) (d0 : 0 ≤ d) (d1 : d < 2 ^ n) :
    DivOk n b (pre ++ [d]) ((r * 2 ^ n + d) % b) (qs ++ [(r * 2 ^ n + d) / b]) := by
  have hp : (0 : Int) < 2 ^ n := Int.pow_pos (by decide)
  have r0 : 0 ≤ r := by rw [h.r]; exact Int.emod_nonneg _ (by omega)
  have r1 : r < b := by rw [h.r]; exact Int.emod_lt_of_pos _ hb
  have t0 : 0 ≤ r * 2 ^ n + d := by have := Int.mul_nonneg r0 (Int.le_of_lt hp); omega
  have t1 : r * 2 ^ n + d < b * 2 ^ n := by
    have h1 : (r + 1) * 2 ^ n ≤ b * 2 ^ n := Int.mul_le_mul_of_nonneg_right (by omega) (Int.le_of_lt hp)
    rw [Int.add_mul, Int.one_mul] at h1
    omega
  have e : topVal n pre * 2 ^ n + d = (r * 2 ^ n + d) + b * (topVal n pre / b * 2 ^ n) := by
    have h1 := Int.mul_ediv_add_emod (topVal n pre) b
    rw [← h.r] at h1
    have h2 : topVal n pre * 2 ^ n = (b * (topVal n pre / b) + r) * 2 ^ n := by rw [h1]
    rw [h2, Int.add_mul, Int.mul_assoc]
    omega
  refine ⟨by simp [h.len], ?_, ?_, ?_⟩
  · rw [topVal_snoc, e, Int.add_mul_emod_self_left]
  · rw [topVal_snoc, e, Int.add_mul_ediv_left _ _ (by omega), List.reverse_append, List.reverse_singleton, List.singleton_append, valOf, h.q]
  · intro q hq
    rcases List.mem_append.mp hq with hq | hq
    · exact h.all q hq
    · rw [List.mem_singleton.mp hq]
      exact ⟨Int.ediv_nonneg t0 (by omega), Int.ediv_lt_of_lt_mul hb (by rw [Int.mul_comm (2 ^ n) b]; exact t1)⟩
end
example : True := by
  k_with "call ref" => (k_here; k_dflt ((try k_fold); refine Does.use2 (by k_asm) (by k_asm) (by k_asm) (by k_asm) (by k_asm) (by first | exact rfl | assumption) (by first | with_reducible assumption | assumption) (by first | with_reducible assumption | assumption) (by first | with_reducible assumption | assumption) (div2_does _ _ _ _ _ _ _ _ (by omega) (by omega) (by omega) (by omega) (by omega) (by omega)) (by first | exact room0 (by assumption) (by rfl) | exact room1 (by assumption) (by rfl) | ktr_room) (by first | exact room0 (by assumption) (by rfl) | exact room1 (by assumption) (by rfl) | ktr_units) ?_; intro r9 news9 h9 tk9 F9 N9 P9; obtain ⟨D9, t9, u9, q9, e9, l9⟩ := P9; subst e9; subst q9; (try k_lt l9); (try (k_unfold; (try dsimp only))); (try dsimp only); (try k_fold)))
  trivial
section
theorem news_swap {h₀ h : Heap} {L : Addr} {a b : Addr × Obj} {rest : List (Addr × Obj)} (N : News h₀ L h (a :: b :: rest)) : News h₀ L h (b :: a :: rest) :=
  cb_drop N fun p hp => by
    (revert p; (repeat' first | refine List.forall_mem_cons.mpr ⟨?_, ?_⟩ | refine List.forall_mem_append.mpr ⟨?_, ?_⟩); all_goals (try intro p hp); all_goals (repeat' first | assumption | exact List.Mem.head _ | exact List.mem_append_left _ (by assumption) | exact List.mem_append_right _ (by assumption) | exact absurd hp List.not_mem_nil | refine List.Mem.tail _ ?_ | refine List.mem_append_right _ ?_))
theorem news_pull3 {h₀ h : Heap} {L : Addr} {a b c z : Addr × Obj} {ex rest : List (Addr × Obj)} (N : News h₀ L h (a :: b :: c :: (ex ++ z :: rest))) : News h₀ L h (z :: a :: b :: c :: (ex ++ rest)) :=
  cb_drop N fun p hp => by
    (revert p; (repeat' first | refine List.forall_mem_cons.mpr ⟨?_, ?_⟩ | refine List.forall_mem_append.mpr ⟨?_, ?_⟩); all_goals (try intro p hp); all_goals (repeat' first | assumption | exact List.Mem.head _ | exact List.mem_append_left _ (by assumption) | exact List.mem_append_right _ (by assumption) | exact absurd hp List.not_mem_nil | refine List.Mem.tail _ ?_ | refine List.mem_append_right _ ?_))
theorem drop_two3 {h₀ h : Heap} {L : Addr} {a b c d z : Addr × Obj} {ex ey rest : List (Addr × Obj)} (N : News h₀ L h (z :: a :: (ey ++ b :: c :: d :: (ex ++ rest)))) : News h₀ L h (z :: a :: d :: (ey ++ ex ++ rest)) :=
  cb_drop N fun p hp => by
    (revert p; (repeat' first | refine List.forall_mem_cons.mpr ⟨?_, ?_⟩ | refine List.forall_mem_append.mpr ⟨?_, ?_⟩); all_goals (try intro p hp); all_goals (repeat' first | assumption | exact List.Mem.head _ | exact List.mem_append_left _ (by assumption) | exact List.mem_append_right _ (by assumption) | exact absurd hp List.not_mem_nil | refine List.Mem.tail _ ?_ | refine List.mem_append_right _ ?_))
theorem offI_of {I : Addr} {it : Obj} : ∀ {l : List (Addr × Obj)}, (∀ p ∈ l, p.1 ≠ I) → OffI I it l
  | [], _ => trivial
  | _ :: _, h => ⟨.inl (h _ List.mem_cons_self), offI_of fun p hp => h p (List.mem_cons_of_mem _ hp)⟩
theorem ints_rev_at {vs : List Value} {ns : List Int} (h : IntsAre vs ns) {i : Nat} {v : Value} (hv : vs.reverse[i]? = some v) : ∃ k t, ns.reverse[i]? = some k ∧ v = .int k t := by
  have hl : i < vs.length := by
    have := (List.getElem?_eq_some_iff.mp hv).1
    simpa using this
  rw [List.getElem?_reverse hl] at hv
  first | ((first | refine ex0_4 (IntsAre.at h _ v hv) ?_ | refine ex1_3 (IntsAre.at h _ v hv) ?_ | refine ex2_2 (IntsAre.at h _ v hv) ?_); intro k t e hk) | obtain ⟨k, t, e, hk⟩ := (IntsAre.at h _ v hv)
  refine ⟨k, t, ?_, e⟩
  rw [List.getElem?_reverse (by rw [← h.length]; exact hl), ← h.length]
  exact hk
theorem bits6 {b : Int} (h0 : 1 ≤ b) (h1 : b ≤ 6) : 1 ≤ Builtin.Int.intBits b ∧ Builtin.Int.intBits b ≤ 3 := by
  have e : b = 1 ∨ b = 2 ∨ b = 3 ∨ b = 4 ∨ b = 5 ∨ b = 6 := by omega
  rcases e with rfl | rfl | rfl | rfl | rfl | rfl <;> decide
theorem ndig8 {n : Nat} {x : Int} (hn : 1 ≤ n) (h0 : 0 ≤ x) (h1 : x < 256) : ndig n x ≤ 8 := by
  have hb : Builtin.Int.intBits x ≤ 8 := intBits_le_iff.mpr (by omega)
  unfold ndig
  refine Nat.div_le_of_le_mul ?_
  have : 1 * 8 ≤ n * 8 := Nat.mul_le_mul_right 8 hn
  have : (Builtin.Int.intBits x) + n ≤ n * 8 + 1 := by omega
  omega
theorem divpos_does (w : World) (rest R₀ : List (Addr × Obj)) (ps qs : Array Value) (x b : Int) (tx tb : Tok) (hx0 : 0 ≤ x) (hx1 : x < 256) (hb0 : 1 ≤ b) (hb1 : b ≤ 6)
   (hG : TabG (Str.ofString "_digits2int.<locals>.inner") ps R₀) (hH : TabG (Str.ofString "_int2digits.<locals>.inner") qs R₀) (hR₀ : ∀ p ∈ R₀, p ∈ rest) (hO : ∀ p ∈ rest, p.1 ≠ 80) (hO' : ∀ p ∈ rest, p.1 ≠ 73) :
    Does w ((80, tabObj ps) :: (73, tabObj qs) :: rest) 40 600 92 [.int x tx, .int b tb] [] (fun r news' => ∃ D t u ps' qs' ex, r = .ref D ∧ news' = (D, ({ cls := .type "tuple", data := .seq #[.int (x / b) t, .int (x % b) u] } : Obj)) :: (80, tabObj ps') :: (73, tabObj qs') :: (ex ++ rest) ∧
      TabG (Str.ofString "_digits2int.<locals>.inner") ps' (ex ++ R₀) ∧ TabG (Str.ofString "_int2digits.<locals>.inner") qs' (ex ++ R₀) ∧ (∀ p ∈ ex, ∀ q ∈ rest, @LT.lt Nat _ q.1 p.1) ∧ (∀ p ∈ ex, @LT.lt Nat _ 80 p.1) ∧ (∀ p ∈ ex, p.1 ≠ D) ∧ (∀ q ∈ rest, @LT.lt Nat _ q.1 D) ∧ @LT.lt Nat _ 80 D) := by
  unfold Does
  w_top off
  k_fill
  intro p loose mean mg mb dp un' gd cn cs a ccd cl outer A₀ base h₀ L m s Q E B F X N T hk C1 C2 C3 hd hu hret
  have hn := bits6 hb0 hb1
  have hx24 : x < 16777216 := by omega
  generalize hnn : Builtin.Int.intBits b = n at hn
  first | ((first | refine ex0_2 (hn) ?_ | refine ex1_1 (hn) ?_); (try clear hn); intro hn1 hn3) | obtain ⟨hn1, hn3⟩ := (hn)
  have hnd8 := ndig8 hn1 hx0 hx1
  refine wpAny_call ?_
  k_dflt k_enter
  k_with "my call" => ((try k_fold); refine' Does.use (i2d_does w _ R₀ qs _ _ n _ hx0 hx24 hn1 hn3 hH ?hR ?hO) ?k1 ?k2 ?k3 ?k4 ?k5 ?kK ?c1 ?c2 ?c3 ?kd ?ku ?_; (case k1 => k_asm); (case k2 => k_asm); (case k3 => k_asm); (case k4 => exact news_swap (by k_asm)); (case k5 => k_asm); (case kK => first | exact rfl | assumption); (case c1 => first | with_reducible assumption | assumption); (case c2 => first | with_reducible assumption | assumption); (case c3 => first | with_reducible assumption | assumption); (case hR => intro p hp; have := hR₀ p hp; k_mem); (case hO => exact List.forall_mem_cons.mpr ⟨(show (80 : Nat) ≠ 73 by decide), hO'⟩); (case kd => first | exact room0 (by assumption) (by rfl) | exact room1 (by assumption) (by rfl) | ktr_room); (case ku => first | exact room0 (by assumption) (by rfl) | exact room1 (by assumption) (by rfl) | ktr_units); intro r9 news9 h9 tk9 F9 N9 P9; obtain ⟨l9, vs9, nn9, qs9, ex9, q9, e9, i9, g9, o9, z9, y9, x9, w9⟩ := P9; subst e9; subst q9; (try (k_unfold; (try dsimp only))); (try dsimp only); (try k_fold))
  iterate 12 (all_goals try first | (k_unfold; (try dsimp only)) | (k_end; wrow_close) | walk1 | (dsimp only; walk1))
  rename Fr _ _ _ _ => lFn
  rw [hnn] at lFn
  have hM := haltMark
  iterate 33 (all_goals try first | (k_unfold; (try dsimp only)) | (k_end; wrow_close) | walk1 | (dsimp only; walk1))
  (rename HaltMark => hMx; clear hMx)
  unfold Halt
  rename Fr _ _ _ _ => lF
  rename News _ _ _ _ => lN
  rename l9 < _ ∧ _ => lx1
  first | ((first | refine ex0_3 (⟨_, rfl, lx1.1⟩ : ∃ lq, lq = _ ∧ l9 < lq) ?_ | refine ex1_2 (⟨_, rfl, lx1.1⟩ : ∃ lq, lq = _ ∧ l9 < lq) ?_ | refine ex2_1 (⟨_, rfl, lx1.1⟩ : ∃ lq, lq = _ ∧ l9 < lq) ?_); intro lq hlq elq) | obtain ⟨lq, hlq, elq⟩ := (⟨_, rfl, lx1.1⟩ : ∃ lq, lq = _ ∧ l9 < lq)
  subst hlq
  rename lq < _ ∧ _ => lx2
  have hpq : ∀ p ∈ ex9 ++ (80, tabObj ps) :: rest, p.1 ≠ lq := fun p hp => Nat.ne_of_lt (allLt_get lx1.2.2 p hp)
  have hvl : vs9.length = ndig n x := by rw [i9.length, digs_len]
  (with_unfolding_all refine' my_rev (σ := Int × Tok × List Value × Nat × List Int) (ax := l9) (vs := vs9) (fun c => (lq, W.listOf c.2.2.1.toArray c.2.2.2.1) :: (l9, W.listOf vs9.toArray nn9) :: (73, tabObj qs9) :: (ex9 ++ (80, tabObj ps) :: rest)) (fun c => [(Str.ofString "r", .int c.1 c.2.1)]) (fun c => IntsAre c.2.2.1 c.2.2.2.2) [Str.ofString "q_digit"] (fun i c => DivOk n b ((digs n (ndig n x) x).reverse.take i) c.1 c.2.2.2.2) (0, ?tok, [], 0, []) (by rfl) lF lN ?hof (fun _ => .tail _ (.head _)) rfl rfl .nil ?hk (DivOk.zero n b) ?turn ?done)
  case hof => refine offI_of ?_; k_all
  case hk => exact List.forall_mem_cons.mpr ⟨by with_unfolding_all rfl, fun _ h => nomatch h⟩
  case turn =>
    refine pr5_open ?_
    intro r tr us cnt qi
    rintro i v u h tk it hv hus hP F₁ N₁ hit
    first | ((first | refine ex0_4 (ints_rev_at i9 hv) ?_ | refine ex1_3 (ints_rev_at i9 hv) ?_ | refine ex2_2 (ints_rev_at i9 hv) ?_); intro d td hd hr9_0; subst hr9_0) | obtain ⟨d, td, hd, rfl⟩ := (ints_rev_at i9 hv)
    dsimp only [kstB] at F₁ N₁ hus hP
    have hr0 : 0 ≤ r ∧ r < 6 := by
      rw [hP.r]
      have h1 := Int.emod_nonneg (topVal n (List.take i (digs n (ndig n x) x).reverse)) (show b ≠ 0 by omega)
      have h2 := Int.emod_lt_of_pos (topVal n (List.take i (digs n (ndig n x) x).reverse)) (show 0 < b by omega)
      omega
    have hil : i < ndig n x := by
      have := (List.getElem?_eq_some_iff.mp hd).1
      rwa [List.length_reverse, digs_len] at this
    have husl : us.length ≤ 8 := by
      rw [hus.length, hP.len, List.length_take]
      omega
    have hd0 : 0 ≤ d ∧ d < 2 ^ n := digs_in n _ _ d (List.mem_reverse.mp (List.mem_of_getElem? hd))
    have hn8 : (1 : Int) ≤ 2 ^ n ∧ (2 : Int) ^ n ≤ 8 := by
      have e : n = 1 ∨ n = 2 ∨ n = 3 := by omega
      rcases e with rfl | rfl | rfl <;> decide
    have hrn : 0 ≤ r * 2 ^ n ∧ r * 2 ^ n ≤ 48 := by
      refine ⟨Int.mul_nonneg hr0.1 (by omega), ?_⟩
      exact Int.le_trans (Int.mul_le_mul_of_nonneg_left hn8.2 hr0.1) (by omega)
    have kMark := kstMark
    iterate 18 (all_goals try first | (k_unfold; (try dsimp only)) | (k_end; wrow_close) | walk1 | (dsimp only; walk1))
    simp only [Int.toNat_natCast]
    k_steps
    rename Fr _ _ _ _ => lF'
    rename News _ _ _ _ => lN'
    simp only [List.push_toArray] at lN'
    refine ⟨_, _, _, _, rfl, lF', fun p hp => lN' p (.tail _ hp), ?off, ⟨((r * 2 ^ n + d) % b, ?tr, us ++ [.int ((r * 2 ^ n + d) / b) ?tq], cnt + 1, qi ++ [(r * 2 ^ n + d) / b]), ?led, ?facts, ?ps, ?same, ?pp⟩⟩
    case led => exact rfl
    case facts => exact hus.append (.cons _ _ .nil)
    case off => k_all
    case ps => exact List.forall_mem_cons.mpr ⟨by with_unfolding_all rfl, fun _ h => nomatch h⟩
    case same => kst_same
    case pp =>
      dsimp only
      rw [List.take_add_one, hd]
      exact hP.succ (by omega) hd0.1 hd0.2
  case done =>
    refine pr5_open ?_
    intro r tr us cnt qi
    rintro u h tk hus hP F₁ N₁
    dsimp only [kstB] at F₁ N₁ hus hP
    have kMark := kstMark
    have husl : us.length ≤ 8 := by
      rw [hus.length, hP.len, List.length_take, List.length_reverse, digs_len]
      omega
    have hpq' : ∀ p ∈ (l9, W.listOf vs9.toArray nn9) :: (73, tabObj qs9) :: (ex9 ++ (80, tabObj ps) :: rest), p.1 ≠ lq := by k_all
    iterate 6 (all_goals try first | (k_unfold; (try dsimp only)) | (k_end; wrow_close) | walk1 | (dsimp only; walk1))
    refine kl_reverse (its := us.toArray) (l := us.reverse) F₁ N₁ rfl (Upd.head hpq') ?z ?_
    case z => exact Nat.le_trans husl (by decide)
    intro h8 F₈ N₈
    replace N₈ := news_pull3 N₈
    have oX := o9
    have gX := g9
    have i8 : IntsAre us.reverse qi.reverse := by
      have := hus.reverse
      exact this
    have hql : qi.reverse.length ≤ 8 := by rw [List.length_reverse, ← hus.length]; exact husl
    have hqa : ∀ d ∈ qi.reverse, 0 ≤ d ∧ d < 2 ^ n := fun d hd => hP.all d (List.mem_reverse.mp hd)
    have hG2 : TabG (Str.ofString "_digits2int.<locals>.inner") ps (ex9 ++ R₀) := hG.mono fun p hp => List.mem_append_right _ hp
    have hO2 : ∀ p ∈ (lq, W.listOf us.reverse.toArray cnt) :: (l9, W.listOf vs9.toArray nn9) :: (73, tabObj qs9) :: (ex9 ++ rest), p.1 ≠ 80 := by
      have a1 : @LT.lt Nat _ 80 l9 := y9 _ (.head _)
      refine List.forall_mem_cons.mpr ⟨Nat.ne_of_gt (Nat.lt_trans a1 elq), List.forall_mem_cons.mpr ⟨Nat.ne_of_gt a1, List.forall_mem_cons.mpr ⟨(show (73 : Nat) ≠ 80 by decide), fun p hp => (List.mem_append.mp hp).elim (fun h => Nat.ne_of_gt (oX p h _ (.head _))) fun h => hO p h⟩⟩⟩
    have hR2 : ∀ p ∈ ex9 ++ R₀, p ∈ (lq, W.listOf us.reverse.toArray cnt) :: (l9, W.listOf vs9.toArray nn9) :: (73, tabObj qs9) :: (ex9 ++ rest) := fun p hp =>
      .tail _ (.tail _ (.tail _ ((List.mem_append.mp hp).elim (List.mem_append_left _) fun h => List.mem_append_right _ (hR₀ p h))))
    k_with "my call" => ((try k_fold); refine' Does.use (d2i_does w _ (ex9 ++ R₀) ps _ _ _ _ n _ ?hl i8 hqa hn1 hn3 hql hG2 hR2 hO2) ?k1 ?k2 ?k3 ?k4 ?k5 ?kK ?c1 ?c2 ?c3 ?kd ?ku ?_; (case k1 => k_asm); (case k2 => k_asm); (case k3 => k_asm); (case k4 => k_asm); (case k5 => k_asm); (case kK => first | exact rfl | assumption); (case c1 => first | with_reducible assumption | assumption); (case c2 => first | with_reducible assumption | assumption); (case c3 => first | with_reducible assumption | assumption); (case hl => k_mem); (case kd => first | exact room0 (by assumption) (by rfl) | exact room1 (by assumption) (by rfl) | ktr_room); (case ku => first | exact room0 (by assumption) (by rfl) | exact room1 (by assumption) (by rfl) | ktr_units); intro r9 news9 h9 tk9 F9 N9 P9; obtain ⟨t9, ps9, ey9, q9, e9, g9, o9, z9⟩ := P9; subst e9; subst q9; (try (k_unfold; (try dsimp only))); (try dsimp only); (try k_fold))
    have eV : topVal n (List.take vs9.length (digs n (ndig n x) x).reverse) = x := by
      rw [hvl, List.take_of_length_le (by rw [List.length_reverse, digs_len]; exact Nat.le_refl _), topVal_rev]
      exact valOf_digs n _ x hx0 (lt_ndig hn1 hx0)
    have eQ : valOf n qi.reverse = x / b := by rw [hP.q, eV]
    have eR : r = x % b := by rw [hP.r, eV]
    k_steps
    rename Fr _ _ _ _ => lF'
    rename News _ _ _ _ => lN'
    rename 80 < _ ∧ _ => l8
    first | ((first | refine ex0_2 (l8) ?_ | refine ex1_1 (l8) ?_); (try clear l8); intro l81 l82) | obtain ⟨l81, l82⟩ := (l8)
    rw [eQ, eR] at lN'
    refine hret _ _ _ _ lF' (drop_two3 lN') ⟨_, _, _, ps9, qs9, ey9 ++ ex9, rfl, rfl, ?_, ?_, ?_, ?_, ?_, ?_, l81⟩
    · rw [List.append_assoc]; assumption
    · exact gX.mono fun p hp => (List.mem_append.mp hp).elim (fun h => List.mem_append_left _ (List.mem_append_right _ h)) (List.mem_append_right _)
    · intro p hp q hq
      rcases List.mem_append.mp hp with hp | hp
      · exact o9 p hp q (.tail _ (.tail _ (.tail _ (List.mem_append_right _ hq))))
      · exact oX p hp q (.tail _ hq)
    · intro p hp
      rcases List.mem_append.mp hp with hp | hp
      · exact z9 p hp
      · exact oX p hp _ (.head _)
    · intro p hp
      rcases List.mem_append.mp hp with hp | hp
      · exact Nat.ne_of_lt (allLt_get l82 p (List.mem_append_left _ hp))
      · exact Nat.ne_of_lt (allLt_get l82 p (List.mem_append_right _ (.tail _ (.tail _ (.tail _ (List.mem_append_left _ hp))))))
    · intro q hq
      exact allLt_get l82 q (List.mem_append_right _ (.tail _ (.tail _ (.tail _ (List.mem_append_right _ hq)))))
example : True := by
  k_with_none
  k_with "k_room" => ktr_room
  k_with "k_mem" => ((fail_if_success (with_reducible_and_instances refine List.mem_cons_of_mem _ ?_)); (with_reducible_and_instances refine List.mem_append_right _ ?_); k_mem)
  k_with "k_mem" => ((fail_if_success (with_reducible_and_instances refine List.mem_cons_of_mem _ ?_)); (with_reducible_and_instances refine List.mem_append_left _ ?_); k_mem)
  k_with "k_mem" => assumption
  k_with "k_all" => first | exact List.forall_mem_nil _ | assumption | (refine' List.forall_mem_cons.mpr ⟨?a, ?b⟩; (case a => k_ne); (case b => k_all))
  k_with "call ref" => k_dflt (k_extra "my call")
  k_with "my tail" => (intro r9 news9 h9 tk9 F9 N9 P9; obtain ⟨e9, t9, q9⟩ := P9; replace e9 := e9.symm; subst e9; subst q9; (try (k_unfold; (try dsimp only))); (try dsimp only); (try k_fold))
  k_with "k_enter" => first | (refine' code_def ?k1 ?k2 ?k3 ?k4 ?k5 ?kA ?kF ?kK ?k6 ?k7 ?k8 ?k9 ?kB ?_ ?c2 ?c3 ?c4 ?c5; (case kA => exact rfl); (case kF => exact rfl); (case kK => first | exact rfl | assumption); (case k1 => k_asm); (case k2 => k_asm); (case k3 => k_asm); (case k4 => k_asm); (case k5 => k_asm); (case k6 => k_is); (case k7 => k_is); (case k8 => k_room); (case k9 => first | exact BindsTo.of_eq rfl | exact binds_K (by k_in) rfl (by k_is) rfl rfl rfl | fail "k_enter: no rule for these arguments"); (case c5 => decide); (case kB => exact locs rfl); (case c2 => exact rfl); (case c3 => exact rfl); (case c4 => exact rfl); k_whole; intro g' L' h' FG' F' N' B' X' T'; (try dsimp only); (try k_lift B'); (refine fr_let F' ?_); clear F'; intro mF F'; (try k_fold)) | (refine' code_defC ?k1 ?k2 ?k3 ?k4 ?k5 ?kA ?kF ?kK ?k6 ?k7 ?k8 ?k9 ?kB ?kD ?_ ?c2 ?c3 ?c4; (case kA => exact rfl); (case kF => exact rfl); (case kK => first | exact rfl | assumption); (case k1 => k_asm); (case k2 => k_asm); (case k3 => k_asm); (case k4 => k_asm); (case k5 => k_asm); (case k6 => k_is); (case k7 => k_is); (case k8 => k_room); (case k9 => first | exact BindsTo.of_eq rfl | exact binds_K (by k_in) rfl (by k_is) rfl rfl rfl | fail "k_enter: no rule for these arguments"); (case kB => exact rfl); (case kD => decide +kernel); (case c2 => exact rfl); (case c3 => exact rfl); (case c4 => exact rfl); k_whole; intro g' L' h' tk' cells' FG' F' N' Y' B' X' T' l1; (try k_lt l1); k_cells Y'; (try simp only [List.cons_append, List.nil_append] at N'); (try dsimp only); (try k_lift B'); (refine fr_let F' ?_); clear F'; intro mF F'; (try k_fold))
  k_with "pyIter ref" => ((rename HaltMark => hM9); refine halt_intro ?_)
  k_with "call builtin:len" => (k_here; (with_reducible show wpAny _ _ (call (Value.builtin "len") [Value.ref _]) _ _ _); k_dflt (refine' my_lenT ?k1 ?k2 ?k3 ?k4 ?_; (case k1 => k_asm); (case k2 => k_mem); (case k3 => assumption); (case k4 => omega); k_whole))
  k_with "subscriptTail Name Name ref int" => (k_here; (with_reducible show wpAny _ _ (subscriptTail _ _ (Value.ref _) (Value.int _ _)) _ _ _); k_dflt (refine' my_itemT ?k1 ?k2 ?k3 ?k4 ?k5 ?k6 ?_ ?k7; (case k1 => k_asm); (case k2 => k_mem); (case k3 => assumption); (case k4 => omega); (case k5 => omega); (case k6 => omega); (case k7 => with_unfolding_all rfl); k_whole); intro t')
  k_with "subscriptTail Name Name ref int" => (k_here; (with_reducible show wpAny _ _ (subscriptTail _ _ (Value.ref _) (Value.int _ _)) _ _ _); k_dflt (refine' my_itemL ?k1 ?k2 ?k3 ?k4 ?k5 ?k6 ?_ ?k7 ?k8; (case k1 => k_asm); (case k2 => k_mem); (case k3 => assumption); (case k4 => omega); (case k5 => omega); (case k6 => omega); (case k7 => with_unfolding_all rfl); (case k8 => intro _; with_unfolding_all rfl); k_whole); intro t')
  k_with "truthy ref" => (k_here; k_dflt (refine' my_truthyL ?k1 ?k2 ?k3 ?k4 ?_ ?_; (case k1 => k_asm); (case k2 => k_mem); (case k3 => assumption); (case k4 => omega)); (all_goals intro hz9))
  k_with "call builtin:len" => (k_here; (with_reducible show wpAny _ _ (call (Value.builtin "len") [Value.ref _]) _ _ _); k_dflt (refine' my_lenL ?k1 ?k2 ?k3 ?k4 ?_; (case k1 => k_asm); (case k2 => k_mem); (case k3 => assumption); (case k4 => omega); k_whole))
  k_with "call ref" => (k_here; k_dflt ((try k_fold); refine Does.use2 (by k_asm) (by k_asm) (by k_asm) (by k_asm) (by k_asm) (by first | exact rfl | assumption) (by first | with_reducible assumption | assumption) (by first | with_reducible assumption | assumption) (by first | with_reducible assumption | assumption) (column_does _ _ _ _ _ _ (by first | assumption | omega)) (by first | exact room0 (by assumption) (by rfl) | exact room1 (by assumption) (by rfl) | ktr_room) (by first | exact room0 (by assumption) (by rfl) | exact room1 (by assumption) (by rfl) | ktr_units) ?_; walk_at "my tail"))
  k_with "call ref" => (k_here; k_dflt ((try k_fold); refine Does.use2 (by k_asm) (by k_asm) (by k_asm) (by k_asm) (by k_asm) (by first | exact rfl | assumption) (by first | with_reducible assumption | assumption) (by first | with_reducible assumption | assumption) (by first | with_reducible assumption | assumption) (longest_does _ _ _ _ (by first | assumption | exact WhiteIn.mono (by assumption) (by intro p9 h9; k_mem)) (by omega)) (by first | exact room0 (by assumption) (by rfl) | exact room1 (by assumption) (by rfl) | ktr_room) (by first | exact room0 (by assumption) (by rfl) | exact room1 (by assumption) (by rfl) | ktr_units) ?_; walk_at "my tail"))
  k_with "call ref" => (k_here; k_dflt ((try k_fold); refine Does.use2 (by k_asm) (by k_asm) (by k_asm) (by k_asm) (by k_asm) (by first | exact rfl | assumption) (by first | with_reducible assumption | assumption) (by first | with_reducible assumption | assumption) (by first | with_reducible assumption | assumption) (indent_does _ _ _ _ (by first | assumption | exact WhiteIn.mono (by assumption) (by intro p9 h9; k_mem)) _ _ (by omega) (by assumption) (by omega) (by omega)) (by first | exact room0 (by assumption) (by rfl) | exact room1 (by assumption) (by rfl) | ktr_room) (by first | exact room0 (by assumption) (by rfl) | exact room1 (by assumption) (by rfl) | ktr_units) ?_; walk_at "my tail"))
  k_with "call ref" => (k_here; k_dflt ((try k_fold); refine Does.use2 (by k_asm) (by k_asm) (by k_asm) (by k_asm) (by k_asm) (by first | exact rfl | assumption) (by first | with_reducible assumption | assumption) (by first | with_reducible assumption | assumption) (by first | with_reducible assumption | assumption) (div2_does _ _ _ _ _ _ _ _ (by omega) (by omega) (by omega) (by omega) (by omega) (by omega)) (by first | exact room0 (by assumption) (by rfl) | exact room1 (by assumption) (by rfl) | ktr_room) (by first | exact room0 (by assumption) (by rfl) | exact room1 (by assumption) (by rfl) | ktr_units) ?_; intro r9 news9 h9 tk9 F9 N9 P9; obtain ⟨D9, t9, u9, q9, e9, l9⟩ := P9; subst e9; subst q9; (try k_lt l9); (try (k_unfold; (try dsimp only))); (try dsimp only); (try k_fold)))
  trivial
end
section
/-- what a division gives back: a tuple of the quotient and the rest, the tables grown -/
def DivPost (rest R₀ : List (Addr × Obj)) (x b : Int) (r : Value) (news' : List (Addr × Obj)) : Prop :=
  ∃ D t u ps' qs' ex, r = .ref D ∧ news' = (D, ({ cls := .type "tuple", data := .seq #[.int (x / b) t, .int (x % b) u] } : Obj)) :: (80, tabObj ps') :: (73, tabObj qs') :: (ex ++ rest) ∧
      TabG (Str.ofString "_digits2int.<locals>.inner") ps' (ex ++ R₀) ∧ TabG (Str.ofString "_int2digits.<locals>.inner") qs' (ex ++ R₀) ∧ (∀ p ∈ ex, ∀ q ∈ rest, @LT.lt Nat _ q.1 p.1) ∧ (∀ p ∈ ex, @LT.lt Nat _ 80 p.1) ∧ (∀ p ∈ ex, p.1 ≠ D) ∧ (∀ q ∈ rest, @LT.lt Nat _ q.1 D) ∧ @LT.lt Nat _ 80 D
theorem divmod0_does (w : World) (rest R₀ : List (Addr × Obj)) (ps qs : Array Value) (x b : Int) (tx tb : Tok) (hx0 : 0 ≤ x) (hx1 : x < 256) (hb0 : 1 ≤ b) (hb1 : b ≤ 6)
   (hG : TabG (Str.ofString "_digits2int.<locals>.inner") ps R₀) (hH : TabG (Str.ofString "_int2digits.<locals>.inner") qs R₀) (hR₀ : ∀ p ∈ R₀, p ∈ rest) (hO : ∀ p ∈ rest, p.1 ≠ 80) (hO' : ∀ p ∈ rest, p.1 ≠ 73) :
    Does w ((80, tabObj ps) :: (73, tabObj qs) :: rest) 42 640 99 [.int x tx, .int b tb] [] (DivPost rest R₀ x b) := by
  unfold Does
  w_top off
  k_fill
  intro p loose mean mg mb dp un' gd cn cs a ccd cl outer A₀ base h₀ L m s Q E B F X N T hk C1 C2 C3 hd hu hret
  refine wpAny_call ?_
  k_dflt k_enter
  k_with "my call" => ((try k_fold); refine' Does.use (divpos_does w _ R₀ _ _ _ _ _ _ hx0 hx1 hb0 hb1 hG hH hR₀ hO hO') ?k1 ?k2 ?k3 ?k4 ?k5 ?kK ?c1 ?c2 ?c3 ?kd ?ku ?_; (case k1 => k_asm); (case k2 => k_asm); (case k3 => k_asm); (case k4 => k_asm); (case k5 => k_asm); (case kK => first | exact rfl | assumption); (case c1 => first | with_reducible assumption | assumption); (case c2 => first | with_reducible assumption | assumption); (case c3 => first | with_reducible assumption | assumption); (case kd => first | exact room0 (by assumption) (by rfl) | exact room1 (by assumption) (by rfl) | ktr_room); (case ku => first | exact room0 (by assumption) (by rfl) | exact room1 (by assumption) (by rfl) | ktr_units); intro r9 news9 h9 tk9 F9 N9 P9; obtain ⟨D9, t9, u9, ps9, qs9, ex9, q9, e9, g9⟩ := P9; subst e9; subst q9; (try (k_unfold; (try dsimp only))); (try dsimp only); (try k_fold))
  iterate 22 (all_goals try first | (k_unfold; (try dsimp only)) | (k_end; wrow_close) | walk1 | (dsimp only; walk1))
  all_goals try (exfalso; omega)
  k_steps
  rename Fr _ _ _ _ => lF'
  rename News _ _ _ _ => lN'
  exact hret _ _ _ _ lF' lN' ⟨_, _, _, ps9, qs9, ex9, rfl, rfl, g9⟩
example : True := by
  k_with_none
  k_with "k_room" => ktr_room
  k_with "k_mem" => ((fail_if_success (with_reducible_and_instances refine List.mem_cons_of_mem _ ?_)); (with_reducible_and_instances refine List.mem_append_right _ ?_); k_mem)
  k_with "k_mem" => ((fail_if_success (with_reducible_and_instances refine List.mem_cons_of_mem _ ?_)); (with_reducible_and_instances refine List.mem_append_left _ ?_); k_mem)
  k_with "k_mem" => assumption
  k_with "k_all" => first | exact List.forall_mem_nil _ | assumption | (refine' List.forall_mem_cons.mpr ⟨?a, ?b⟩; (case a => k_ne); (case b => k_all))
  k_with "call ref" => k_dflt (k_extra "my call")
  k_with "my tail" => (intro r9 news9 h9 tk9 F9 N9 P9; obtain ⟨e9, t9, q9⟩ := P9; replace e9 := e9.symm; subst e9; subst q9; (try (k_unfold; (try dsimp only))); (try dsimp only); (try k_fold))
  k_with "k_enter" => first | (refine' code_def ?k1 ?k2 ?k3 ?k4 ?k5 ?kA ?kF ?kK ?k6 ?k7 ?k8 ?k9 ?kB ?_ ?c2 ?c3 ?c4 ?c5; (case kA => exact rfl); (case kF => exact rfl); (case kK => first | exact rfl | assumption); (case k1 => k_asm); (case k2 => k_asm); (case k3 => k_asm); (case k4 => k_asm); (case k5 => k_asm); (case k6 => k_is); (case k7 => k_is); (case k8 => k_room); (case k9 => first | exact BindsTo.of_eq rfl | exact binds_K (by k_in) rfl (by k_is) rfl rfl rfl | fail "k_enter: no rule for these arguments"); (case c5 => decide); (case kB => exact locs rfl); (case c2 => exact rfl); (case c3 => exact rfl); (case c4 => exact rfl); k_whole; intro g' L' h' FG' F' N' B' X' T'; (try dsimp only); (try k_lift B'); (refine fr_let F' ?_); clear F'; intro mF F'; (try k_fold)) | (refine' code_defC ?k1 ?k2 ?k3 ?k4 ?k5 ?kA ?kF ?kK ?k6 ?k7 ?k8 ?k9 ?kB ?kD ?_ ?c2 ?c3 ?c4; (case kA => exact rfl); (case kF => exact rfl); (case kK => first | exact rfl | assumption); (case k1 => k_asm); (case k2 => k_asm); (case k3 => k_asm); (case k4 => k_asm); (case k5 => k_asm); (case k6 => k_is); (case k7 => k_is); (case k8 => k_room); (case k9 => first | exact BindsTo.of_eq rfl | exact binds_K (by k_in) rfl (by k_is) rfl rfl rfl | fail "k_enter: no rule for these arguments"); (case kB => exact rfl); (case kD => decide +kernel); (case c2 => exact rfl); (case c3 => exact rfl); (case c4 => exact rfl); k_whole; intro g' L' h' tk' cells' FG' F' N' Y' B' X' T' l1; (try k_lt l1); k_cells Y'; (try simp only [List.cons_append, List.nil_append] at N'); (try dsimp only); (try k_lift B'); (refine fr_let F' ?_); clear F'; intro mF F'; (try k_fold))
  k_with "pyIter ref" => ((rename HaltMark => hM9); refine halt_intro ?_)
  k_with "call builtin:len" => (k_here; (with_reducible show wpAny _ _ (call (Value.builtin "len") [Value.ref _]) _ _ _); k_dflt (refine' my_lenT ?k1 ?k2 ?k3 ?k4 ?_; (case k1 => k_asm); (case k2 => k_mem); (case k3 => assumption); (case k4 => omega); k_whole))
  k_with "subscriptTail Name Name ref int" => (k_here; (with_reducible show wpAny _ _ (subscriptTail _ _ (Value.ref _) (Value.int _ _)) _ _ _); k_dflt (refine' my_itemT ?k1 ?k2 ?k3 ?k4 ?k5 ?k6 ?_ ?k7; (case k1 => k_asm); (case k2 => k_mem); (case k3 => assumption); (case k4 => omega); (case k5 => omega); (case k6 => omega); (case k7 => with_unfolding_all rfl); k_whole); intro t')
  k_with "subscriptTail Name Name ref int" => (k_here; (with_reducible show wpAny _ _ (subscriptTail _ _ (Value.ref _) (Value.int _ _)) _ _ _); k_dflt (refine' my_itemL ?k1 ?k2 ?k3 ?k4 ?k5 ?k6 ?_ ?k7 ?k8; (case k1 => k_asm); (case k2 => k_mem); (case k3 => assumption); (case k4 => omega); (case k5 => omega); (case k6 => omega); (case k7 => with_unfolding_all rfl); (case k8 => intro _; with_unfolding_all rfl); k_whole); intro t')
  k_with "truthy ref" => (k_here; k_dflt (refine' my_truthyL ?k1 ?k2 ?k3 ?k4 ?_ ?_; (case k1 => k_asm); (case k2 => k_mem); (case k3 => assumption); (case k4 => omega)); (all_goals intro hz9))
  k_with "call builtin:len" => (k_here; (with_reducible show wpAny _ _ (call (Value.builtin "len") [Value.ref _]) _ _ _); k_dflt (refine' my_lenL ?k1 ?k2 ?k3 ?k4 ?_; (case k1 => k_asm); (case k2 => k_mem); (case k3 => assumption); (case k4 => omega); k_whole))
  k_with "call ref" => (k_here; k_dflt ((try k_fold); refine Does.use2 (by k_asm) (by k_asm) (by k_asm) (by k_asm) (by k_asm) (by first | exact rfl | assumption) (by first | with_reducible assumption | assumption) (by first | with_reducible assumption | assumption) (by first | with_reducible assumption | assumption) (column_does _ _ _ _ _ _ (by first | assumption | omega)) (by first | exact room0 (by assumption) (by rfl) | exact room1 (by assumption) (by rfl) | ktr_room) (by first | exact room0 (by assumption) (by rfl) | exact room1 (by assumption) (by rfl) | ktr_units) ?_; walk_at "my tail"))
  k_with "call ref" => (k_here; k_dflt ((try k_fold); refine Does.use2 (by k_asm) (by k_asm) (by k_asm) (by k_asm) (by k_asm) (by first | exact rfl | assumption) (by first | with_reducible assumption | assumption) (by first | with_reducible assumption | assumption) (by first | with_reducible assumption | assumption) (longest_does _ _ _ _ (by first | assumption | exact WhiteIn.mono (by assumption) (by intro p9 h9; k_mem)) (by omega)) (by first | exact room0 (by assumption) (by rfl) | exact room1 (by assumption) (by rfl) | ktr_room) (by first | exact room0 (by assumption) (by rfl) | exact room1 (by assumption) (by rfl) | ktr_units) ?_; walk_at "my tail"))
  k_with "call ref" => (k_here; k_dflt ((try k_fold); refine Does.use2 (by k_asm) (by k_asm) (by k_asm) (by k_asm) (by k_asm) (by first | exact rfl | assumption) (by first | with_reducible assumption | assumption) (by first | with_reducible assumption | assumption) (by first | with_reducible assumption | assumption) (indent_does _ _ _ _ (by first | assumption | exact WhiteIn.mono (by assumption) (by intro p9 h9; k_mem)) _ _ (by omega) (by assumption) (by omega) (by omega)) (by first | exact room0 (by assumption) (by rfl) | exact room1 (by assumption) (by rfl) | ktr_room) (by first | exact room0 (by assumption) (by rfl) | exact room1 (by assumption) (by rfl) | ktr_units) ?_; walk_at "my tail"))
  k_with "call ref" => (k_here; k_dflt ((try k_fold); refine Does.use2 (by k_asm) (by k_asm) (by k_asm) (by k_asm) (by k_asm) (by first | exact rfl | assumption) (by first | with_reducible assumption | assumption) (by first | with_reducible assumption | assumption) (by first | with_reducible assumption | assumption) (div2_does _ _ _ _ _ _ _ _ (by omega) (by omega) (by omega) (by omega) (by omega) (by omega)) (by first | exact room0 (by assumption) (by rfl) | exact room1 (by assumption) (by rfl) | ktr_room) (by first | exact room0 (by assumption) (by rfl) | exact room1 (by assumption) (by rfl) | ktr_units) ?_; intro r9 news9 h9 tk9 F9 N9 P9; obtain ⟨D9, t9, u9, q9, e9, l9⟩ := P9; subst e9; subst q9; (try k_lt l9); (try (k_unfold; (try dsimp only))); (try dsimp only); (try k_fold)))
  trivial
theorem bitNot_is (x : Int) : Builtin.bitNot x = -x - 1 := by unfold Builtin.bitNot; omega
theorem inv_div {x b : Int} (hb : 0 < b) : -((-x - 1) / b) - 1 = x / b ∧ b + (-((-x - 1) % b) - 1) = x % b := by
  have h1 := Int.mul_ediv_add_emod (-x - 1) b
  have h2 := Int.emod_nonneg (-x - 1) (show b ≠ 0 by omega)
  have h3 := Int.emod_lt_of_pos (-x - 1) hb
  have e : x = (b - 1 - (-x - 1) % b) + b * (-((-x - 1) / b) - 1) := by
    rw [Int.mul_sub, Int.mul_neg]
    omega
  have h4 : (b - 1 - (-x - 1) % b) / b = 0 := Int.ediv_eq_zero_of_lt (by omega) (by omega)
  have h5 : (b - 1 - (-x - 1) % b) % b = b - 1 - (-x - 1) % b := Int.emod_eq_of_lt (by omega) (by omega)
  have e1 : x / b = -((-x - 1) / b) - 1 := by
    have h := congrArg (· / b) e
    rw [Int.add_mul_ediv_left _ _ (by omega), h4] at h
    omega
  have e2 : x % b = b - 1 - (-x - 1) % b := by
    have h := congrArg (· % b) e
    rw [Int.add_mul_emod_self_left, h5] at h
    exact h
  omega
theorem divmod_does (w : World) (rest R₀ : List (Addr × Obj)) (ps qs : Array Value) (x b : Int) (tx tb : Tok) (hx0 : -256 ≤ x) (hx1 : x < 256) (hb0 : 1 ≤ b) (hb1 : b ≤ 6)
   (hG : TabG (Str.ofString "_digits2int.<locals>.inner") ps R₀) (hH : TabG (Str.ofString "_int2digits.<locals>.inner") qs R₀) (hR₀ : ∀ p ∈ R₀, p ∈ rest) (hO : ∀ p ∈ rest, p.1 ≠ 80) (hO' : ∀ p ∈ rest, p.1 ≠ 73) :
    Does w ((80, tabObj ps) :: (73, tabObj qs) :: rest) 44 680 99 [.int x tx, .int b tb] [] (DivPost rest R₀ x b) := by
  by_cases hx : 0 ≤ x
  · intro p loose mean mg mb dp un' gd cn cs a ccd cl outer A₀ base h₀ L m s Q E B F X N T hk C1 C2 C3 hd hu hret
    exact divmod0_does w rest R₀ ps qs x b tx tb hx hx1 hb0 hb1 hG hH hR₀ hO hO' p loose mean mg mb dp un' gd cn cs a ccd cl outer A₀ base h₀ L m s Q E B F X N T hk C1 C2 C3 (by omega) (by omega) hret
  unfold Does
  w_top off
  k_fill
  intro p loose mean mg mb dp un' gd cn cs a ccd cl outer A₀ base h₀ L m s Q E B F X N T hk C1 C2 C3 hd hu hret
  have hbn := bitNot_is x
  refine wpAny_call ?_
  k_dflt k_enter
  k_with "my call" => ((try k_fold); refine' Does.use (divmod0_does w _ R₀ _ _ _ _ _ _ ?x0 ?x1 hb0 hb1 hG hH hR₀ hO hO') ?k1 ?k2 ?k3 ?k4 ?k5 ?kK ?c1 ?c2 ?c3 ?kd ?ku ?_; (case x0 => omega); (case x1 => omega); (case k1 => k_asm); (case k2 => k_asm); (case k3 => k_asm); (case k4 => k_asm); (case k5 => k_asm); (case kK => first | exact rfl | assumption); (case c1 => first | with_reducible assumption | assumption); (case c2 => first | with_reducible assumption | assumption); (case c3 => first | with_reducible assumption | assumption); (case kd => first | exact room0 (by assumption) (by rfl) | exact room1 (by assumption) (by rfl) | ktr_room); (case ku => first | exact room0 (by assumption) (by rfl) | exact room1 (by assumption) (by rfl) | ktr_units); intro r9 news9 h9 tk9 F9 N9 P9; obtain ⟨D9, t9, u9, ps9, qs9, ex9, q9, e9, g9⟩ := P9; subst e9; subst q9; (try (k_unfold; (try dsimp only))); (try dsimp only); (try k_fold))
  iterate 22 (all_goals try first | (k_unfold; (try dsimp only)) | (k_end; wrow_close) | walk1 | (dsimp only; walk1))
  all_goals try (exfalso; omega)
  k_steps
  rename Fr _ _ _ _ => lF'
  rename News _ _ _ _ => lN'
  rename D9 < _ ∧ _ => l8
  first | ((first | refine ex0_4 (l8) ?_ | refine ex1_3 (l8) ?_ | refine ex2_2 (l8) ?_); (try clear l8); intro l80 l81 l82 l83) | obtain ⟨l80, l81, l82, l83⟩ := (l8)
  first | ((first | refine ex0_7 (g9) ?_ | refine ex1_6 (g9) ?_ | refine ex2_5 (g9) ?_ | refine ex5_2 (g9) ?_); (try clear g9); intro g1 g2 g3 g4 g5 g6 g7) | obtain ⟨g1, g2, g3, g4, g5, g6, g7⟩ := (g9)
  have hq := inv_div (x := x) (show 0 < b by omega)
  have hq2 : Builtin.bitNot (Builtin.bitNot x / b) = x / b ∧ b + Builtin.bitNot (Builtin.bitNot x % b) = x % b := by
    rw [bitNot_is x, bitNot_is, bitNot_is]
    exact hq
  rw [hq2.1, hq2.2] at lN'
  refine hret _ _ _ _ lF' (drop_snd lN') ⟨_, _, _, ps9, qs9, ex9, rfl, rfl, g1, g2, g3, g4, fun p hp => Nat.ne_of_lt (allLt_get l83 p (List.mem_append_left _ hp)), fun q hq => allLt_get l83 q (List.mem_append_right _ hq), l81⟩
example : True := by
  k_with_none
  k_with "k_room" => ktr_room
  k_with "k_mem" => ((fail_if_success (with_reducible_and_instances refine List.mem_cons_of_mem _ ?_)); (with_reducible_and_instances refine List.mem_append_right _ ?_); k_mem)
  k_with "k_mem" => ((fail_if_success (with_reducible_and_instances refine List.mem_cons_of_mem _ ?_)); (with_reducible_and_instances refine List.mem_append_left _ ?_); k_mem)
  k_with "k_mem" => assumption
  k_with "k_all" => first | exact List.forall_mem_nil _ | assumption | (refine' List.forall_mem_cons.mpr ⟨?a, ?b⟩; (case a => k_ne); (case b => k_all))
  k_with "call ref" => k_dflt (k_extra "my call")
  k_with "my tail" => (intro r9 news9 h9 tk9 F9 N9 P9; obtain ⟨e9, t9, q9⟩ := P9; replace e9 := e9.symm; subst e9; subst q9; (try (k_unfold; (try dsimp only))); (try dsimp only); (try k_fold))
  k_with "k_enter" => first | (refine' code_def ?k1 ?k2 ?k3 ?k4 ?k5 ?kA ?kF ?kK ?k6 ?k7 ?k8 ?k9 ?kB ?_ ?c2 ?c3 ?c4 ?c5; (case kA => exact rfl); (case kF => exact rfl); (case kK => first | exact rfl | assumption); (case k1 => k_asm); (case k2 => k_asm); (case k3 => k_asm); (case k4 => k_asm); (case k5 => k_asm); (case k6 => k_is); (case k7 => k_is); (case k8 => k_room); (case k9 => first | exact BindsTo.of_eq rfl | exact binds_K (by k_in) rfl (by k_is) rfl rfl rfl | fail "k_enter: no rule for these arguments"); (case c5 => decide); (case kB => exact locs rfl); (case c2 => exact rfl); (case c3 => exact rfl); (case c4 => exact rfl); k_whole; intro g' L' h' FG' F' N' B' X' T'; (try dsimp only); (try k_lift B'); (refine fr_let F' ?_); clear F'; intro mF F'; (try k_fold)) | (refine' code_defC ?k1 ?k2 ?k3 ?k4 ?k5 ?kA ?kF ?kK ?k6 ?k7 ?k8 ?k9 ?kB ?kD ?_ ?c2 ?c3 ?c4; (case kA => exact rfl); (case kF => exact rfl); (case kK => first | exact rfl | assumption); (case k1 => k_asm); (case k2 => k_asm); (case k3 => k_asm); (case k4 => k_asm); (case k5 => k_asm); (case k6 => k_is); (case k7 => k_is); (case k8 => k_room); (case k9 => first | exact BindsTo.of_eq rfl | exact binds_K (by k_in) rfl (by k_is) rfl rfl rfl | fail "k_enter: no rule for these arguments"); (case kB => exact rfl); (case kD => decide +kernel); (case c2 => exact rfl); (case c3 => exact rfl); (case c4 => exact rfl); k_whole; intro g' L' h' tk' cells' FG' F' N' Y' B' X' T' l1; (try k_lt l1); k_cells Y'; (try simp only [List.cons_append, List.nil_append] at N'); (try dsimp only); (try k_lift B'); (refine fr_let F' ?_); clear F'; intro mF F'; (try k_fold))
  k_with "pyIter ref" => ((rename HaltMark => hM9); refine halt_intro ?_)
  k_with "call builtin:len" => (k_here; (with_reducible show wpAny _ _ (call (Value.builtin "len") [Value.ref _]) _ _ _); k_dflt (refine' my_lenT ?k1 ?k2 ?k3 ?k4 ?_; (case k1 => k_asm); (case k2 => k_mem); (case k3 => assumption); (case k4 => omega); k_whole))
  k_with "subscriptTail Name Name ref int" => (k_here; (with_reducible show wpAny _ _ (subscriptTail _ _ (Value.ref _) (Value.int _ _)) _ _ _); k_dflt (refine' my_itemT ?k1 ?k2 ?k3 ?k4 ?k5 ?k6 ?_ ?k7; (case k1 => k_asm); (case k2 => k_mem); (case k3 => assumption); (case k4 => omega); (case k5 => omega); (case k6 => omega); (case k7 => with_unfolding_all rfl); k_whole); intro t')
  k_with "subscriptTail Name Name ref int" => (k_here; (with_reducible show wpAny _ _ (subscriptTail _ _ (Value.ref _) (Value.int _ _)) _ _ _); k_dflt (refine' my_itemL ?k1 ?k2 ?k3 ?k4 ?k5 ?k6 ?_ ?k7 ?k8; (case k1 => k_asm); (case k2 => k_mem); (case k3 => assumption); (case k4 => omega); (case k5 => omega); (case k6 => omega); (case k7 => with_unfolding_all rfl); (case k8 => intro _; with_unfolding_all rfl); k_whole); intro t')
  k_with "truthy ref" => (k_here; k_dflt (refine' my_truthyL ?k1 ?k2 ?k3 ?k4 ?_ ?_; (case k1 => k_asm); (case k2 => k_mem); (case k3 => assumption); (case k4 => omega)); (all_goals intro hz9))
  k_with "call builtin:len" => (k_here; (with_reducible show wpAny _ _ (call (Value.builtin "len") [Value.ref _]) _ _ _); k_dflt (refine' my_lenL ?k1 ?k2 ?k3 ?k4 ?_; (case k1 => k_asm); (case k2 => k_mem); (case k3 => assumption); (case k4 => omega); k_whole))
  k_with "call ref" => (k_here; k_dflt ((try k_fold); refine Does.use2 (by k_asm) (by k_asm) (by k_asm) (by k_asm) (by k_asm) (by first | exact rfl | assumption) (by first | with_reducible assumption | assumption) (by first | with_reducible assumption | assumption) (by first | with_reducible assumption | assumption) (column_does _ _ _ _ _ _ (by first | assumption | omega)) (by first | exact room0 (by assumption) (by rfl) | exact room1 (by assumption) (by rfl) | ktr_room) (by first | exact room0 (by assumption) (by rfl) | exact room1 (by assumption) (by rfl) | ktr_units) ?_; walk_at "my tail"))
  k_with "call ref" => (k_here; k_dflt ((try k_fold); refine Does.use2 (by k_asm) (by k_asm) (by k_asm) (by k_asm) (by k_asm) (by first | exact rfl | assumption) (by first | with_reducible assumption | assumption) (by first | with_reducible assumption | assumption) (by first | with_reducible assumption | assumption) (longest_does _ _ _ _ (by first | assumption | exact WhiteIn.mono (by assumption) (by intro p9 h9; k_mem)) (by omega)) (by first | exact room0 (by assumption) (by rfl) | exact room1 (by assumption) (by rfl) | ktr_room) (by first | exact room0 (by assumption) (by rfl) | exact room1 (by assumption) (by rfl) | ktr_units) ?_; walk_at "my tail"))
  k_with "call ref" => (k_here; k_dflt ((try k_fold); refine Does.use2 (by k_asm) (by k_asm) (by k_asm) (by k_asm) (by k_asm) (by first | exact rfl | assumption) (by first | with_reducible assumption | assumption) (by first | with_reducible assumption | assumption) (by first | with_reducible assumption | assumption) (indent_does _ _ _ _ (by first | assumption | exact WhiteIn.mono (by assumption) (by intro p9 h9; k_mem)) _ _ (by omega) (by assumption) (by omega) (by omega)) (by first | exact room0 (by assumption) (by rfl) | exact room1 (by assumption) (by rfl) | ktr_room) (by first | exact room0 (by assumption) (by rfl) | exact room1 (by assumption) (by rfl) | ktr_units) ?_; walk_at "my tail"))
  k_with "call ref" => (k_here; k_dflt ((try k_fold); refine Does.use2 (by k_asm) (by k_asm) (by k_asm) (by k_asm) (by k_asm) (by first | exact rfl | assumption) (by first | with_reducible assumption | assumption) (by first | with_reducible assumption | assumption) (by first | with_reducible assumption | assumption) (div2_does _ _ _ _ _ _ _ _ (by omega) (by omega) (by omega) (by omega) (by omega) (by omega)) (by first | exact room0 (by assumption) (by rfl) | exact room1 (by assumption) (by rfl) | ktr_room) (by first | exact room0 (by assumption) (by rfl) | exact room1 (by assumption) (by rfl) | ktr_units) ?_; intro r9 news9 h9 tk9 F9 N9 P9; obtain ⟨D9, t9, u9, q9, e9, l9⟩ := P9; subst e9; subst q9; (try k_lt l9); (try (k_unfold; (try dsimp only))); (try dsimp only); (try k_fold)))
  trivial
end
section
theorem mid_in {lo hi : Int} (h0 : 0 ≤ lo) (h : lo < hi) : lo ≤ (lo + hi).fdiv 2 ∧ (lo + hi).fdiv 2 < hi := by
  rw [Int.fdiv_eq_ediv_of_nonneg _ (by decide)]
  omega
theorem bisr_does {fc fd fo fs} (w : World) (news : List (Addr × Obj)) (l f : Addr) (vs : List Value) (nn : Nat) (ks : List Int) (vals : Nat → Int) (x : Int) (tx tz : Tok) (j₀ dk uk : Nat) (args : List Value)
    (hargs : args = [.ref l, .int x tx] ∨ args = [.ref l, .int x tx, .int 0 tz, .none])
    (hf : (f, ({ cls := fc, dict := fd, data := .func fo, slots := fs } : Obj)) ∈ news) (hl : (l, W.listOf vs.toArray nn) ∈ news) (hi : IntsAre vs ks) (hlen : ks.length ≤ 8)
    (hkey : ∀ (i : Nat) t, i < ks.length → Does w news dk uk f [.int (ks.getD i 0) t] [] (Keeps1 news fun r => ∃ t, r = .int (vals i) t))
    (hj : j₀ ≤ ks.length) (hA : ∀ i, i < j₀ → ¬ x < vals i) (hB : ∀ i, j₀ ≤ i → i < ks.length → x < vals i) :
    Does w news (dk + 2) (uk + 60) 39 args [(Str.ofString "key", .ref f)] (Keeps1 news fun r => ∃ t, r = .int (j₀ : Int) t) := by
  unfold Does
  w_top off
  k_fill
  intro p loose mean mg mb dp un' gd cn cs a ccd cl outer A₀ base h₀ L m s Q E B F X N T hk C1 C2 C3 hd hu hret
  have hvl : vs.length = ks.length := hi.length
  have kMark := kstMark
  refine wpAny_call ?_
  have hMid : ∀ mid : Int, 0 ≤ mid → mid < (ks.length : Int) → (x < vals mid.toNat → (j₀ : Int) ≤ mid) ∧ (¬ x < vals mid.toNat → mid < (j₀ : Int)) := by
    intro mid h0 h1
    constructor
    · exact fun h => Int.not_lt.mp fun q => hA mid.toNat (by omega) h
    · exact fun h => Int.not_le.mp fun q => h (hB mid.toNat (by omega) (by omega))
  k_with "my call" => ((try k_fold); refine' Does.use (hkey _ _ ?p1) ?k1 ?k2 ?k3 ?k4 ?k5 ?kK ?c1 ?c2 ?c3 ?kd ?ku ?_; (case k1 => k_asm); (case k2 => k_asm); (case k3 => k_asm); (case k4 => k_asm); (case k5 => k_asm); (case kK => first | exact rfl | assumption); (case c1 => first | with_reducible assumption | assumption); (case c2 => first | with_reducible assumption | assumption); (case c3 => first | with_reducible assumption | assumption); (case p1 => omega); (case kd => first | exact room0 (by assumption) (by rfl) | exact room1 (by assumption) (by rfl) | ktr_room); (case ku => first | exact room0 (by assumption) (by rfl) | exact room1 (by assumption) (by rfl) | ktr_units); intro r9 news9 h9 tk9 F9 N9 P9; obtain ⟨e9, t9, q9⟩ := P9; replace e9 := e9.symm; subst e9; subst q9; (try (k_unfold; (try dsimp only))); (try dsimp only); (try k_fold))
  k_with "exec While Compare cons nil" => k_while (fun _ lo hi => 0 ≤ lo ∧ lo ≤ (j₀ : Int) ∧ (j₀ : Int) ≤ hi ∧ hi ≤ (ks.length : Int)) (fun _ lo hi => (hi - lo).toNat) "lo" "hi"
  rcases hargs with rfl | rfl
  all_goals (k_dflt k_enter)
  all_goals
    iterate 53 (all_goals try first | (k_unfold; (try dsimp only)) | (k_end; wrow_close) | walk1 | (dsimp only; walk1))
    rotate_left
    · (rename Fr _ _ _ _ => lF; rename News _ _ _ _ => lN)
      exact keep_ret hret lF lN (fun _ h => h) ⟨_, congrArg (Value.int · _) (by omega)⟩
    rename (_ : Int) < (_ : Int) => hlt
    have hm := mid_in (by assumption) hlt
    have hX := hMid _ (by omega) (Int.lt_of_lt_of_le hm.2 (by assumption))
    iterate 5 (all_goals try first | (k_unfold; (try dsimp only)) | (k_end; wrow_close) | walk1 | (dsimp only; walk1))
    generalize Int.fdiv (_ + _) 2 = mid at *
    k_steps
example : True := by
  k_with_none
  k_with "k_room" => ktr_room
  k_with "k_mem" => ((fail_if_success (with_reducible_and_instances refine List.mem_cons_of_mem _ ?_)); (with_reducible_and_instances refine List.mem_append_right _ ?_); k_mem)
  k_with "k_mem" => ((fail_if_success (with_reducible_and_instances refine List.mem_cons_of_mem _ ?_)); (with_reducible_and_instances refine List.mem_append_left _ ?_); k_mem)
  k_with "k_mem" => assumption
  k_with "k_all" => first | exact List.forall_mem_nil _ | assumption | (refine' List.forall_mem_cons.mpr ⟨?a, ?b⟩; (case a => k_ne); (case b => k_all))
  k_with "call ref" => k_dflt (k_extra "my call")
  k_with "my tail" => (intro r9 news9 h9 tk9 F9 N9 P9; obtain ⟨e9, t9, q9⟩ := P9; replace e9 := e9.symm; subst e9; subst q9; (try (k_unfold; (try dsimp only))); (try dsimp only); (try k_fold))
  k_with "k_enter" => first | (refine' code_def ?k1 ?k2 ?k3 ?k4 ?k5 ?kA ?kF ?kK ?k6 ?k7 ?k8 ?k9 ?kB ?_ ?c2 ?c3 ?c4 ?c5; (case kA => exact rfl); (case kF => exact rfl); (case kK => first | exact rfl | assumption); (case k1 => k_asm); (case k2 => k_asm); (case k3 => k_asm); (case k4 => k_asm); (case k5 => k_asm); (case k6 => k_is); (case k7 => k_is); (case k8 => k_room); (case k9 => first | exact BindsTo.of_eq rfl | exact binds_K (by k_in) rfl (by k_is) rfl rfl rfl | fail "k_enter: no rule for these arguments"); (case c5 => decide); (case kB => exact locs rfl); (case c2 => exact rfl); (case c3 => exact rfl); (case c4 => exact rfl); k_whole; intro g' L' h' FG' F' N' B' X' T'; (try dsimp only); (try k_lift B'); (refine fr_let F' ?_); clear F'; intro mF F'; (try k_fold)) | (refine' code_defC ?k1 ?k2 ?k3 ?k4 ?k5 ?kA ?kF ?kK ?k6 ?k7 ?k8 ?k9 ?kB ?kD ?_ ?c2 ?c3 ?c4; (case kA => exact rfl); (case kF => exact rfl); (case kK => first | exact rfl | assumption); (case k1 => k_asm); (case k2 => k_asm); (case k3 => k_asm); (case k4 => k_asm); (case k5 => k_asm); (case k6 => k_is); (case k7 => k_is); (case k8 => k_room); (case k9 => first | exact BindsTo.of_eq rfl | exact binds_K (by k_in) rfl (by k_is) rfl rfl rfl | fail "k_enter: no rule for these arguments"); (case kB => exact rfl); (case kD => decide +kernel); (case c2 => exact rfl); (case c3 => exact rfl); (case c4 => exact rfl); k_whole; intro g' L' h' tk' cells' FG' F' N' Y' B' X' T' l1; (try k_lt l1); k_cells Y'; (try simp only [List.cons_append, List.nil_append] at N'); (try dsimp only); (try k_lift B'); (refine fr_let F' ?_); clear F'; intro mF F'; (try k_fold))
  k_with "pyIter ref" => ((rename HaltMark => hM9); refine halt_intro ?_)
  k_with "call builtin:len" => (k_here; (with_reducible show wpAny _ _ (call (Value.builtin "len") [Value.ref _]) _ _ _); k_dflt (refine' my_lenT ?k1 ?k2 ?k3 ?k4 ?_; (case k1 => k_asm); (case k2 => k_mem); (case k3 => assumption); (case k4 => omega); k_whole))
  k_with "subscriptTail Name Name ref int" => (k_here; (with_reducible show wpAny _ _ (subscriptTail _ _ (Value.ref _) (Value.int _ _)) _ _ _); k_dflt (refine' my_itemT ?k1 ?k2 ?k3 ?k4 ?k5 ?k6 ?_ ?k7; (case k1 => k_asm); (case k2 => k_mem); (case k3 => assumption); (case k4 => omega); (case k5 => omega); (case k6 => omega); (case k7 => with_unfolding_all rfl); k_whole); intro t')
  k_with "subscriptTail Name Name ref int" => (k_here; (with_reducible show wpAny _ _ (subscriptTail _ _ (Value.ref _) (Value.int _ _)) _ _ _); k_dflt (refine' my_itemL ?k1 ?k2 ?k3 ?k4 ?k5 ?k6 ?_ ?k7 ?k8; (case k1 => k_asm); (case k2 => k_mem); (case k3 => assumption); (case k4 => omega); (case k5 => omega); (case k6 => omega); (case k7 => with_unfolding_all rfl); (case k8 => intro _; with_unfolding_all rfl); k_whole); intro t')
  k_with "truthy ref" => (k_here; k_dflt (refine' my_truthyL ?k1 ?k2 ?k3 ?k4 ?_ ?_; (case k1 => k_asm); (case k2 => k_mem); (case k3 => assumption); (case k4 => omega)); (all_goals intro hz9))
  k_with "call builtin:len" => (k_here; (with_reducible show wpAny _ _ (call (Value.builtin "len") [Value.ref _]) _ _ _); k_dflt (refine' my_lenL ?k1 ?k2 ?k3 ?k4 ?_; (case k1 => k_asm); (case k2 => k_mem); (case k3 => assumption); (case k4 => omega); k_whole))
  k_with "call ref" => (k_here; k_dflt ((try k_fold); refine Does.use2 (by k_asm) (by k_asm) (by k_asm) (by k_asm) (by k_asm) (by first | exact rfl | assumption) (by first | with_reducible assumption | assumption) (by first | with_reducible assumption | assumption) (by first | with_reducible assumption | assumption) (column_does _ _ _ _ _ _ (by first | assumption | omega)) (by first | exact room0 (by assumption) (by rfl) | exact room1 (by assumption) (by rfl) | ktr_room) (by first | exact room0 (by assumption) (by rfl) | exact room1 (by assumption) (by rfl) | ktr_units) ?_; walk_at "my tail"))
  k_with "call ref" => (k_here; k_dflt ((try k_fold); refine Does.use2 (by k_asm) (by k_asm) (by k_asm) (by k_asm) (by k_asm) (by first | exact rfl | assumption) (by first | with_reducible assumption | assumption) (by first | with_reducible assumption | assumption) (by first | with_reducible assumption | assumption) (longest_does _ _ _ _ (by first | assumption | exact WhiteIn.mono (by assumption) (by intro p9 h9; k_mem)) (by omega)) (by first | exact room0 (by assumption) (by rfl) | exact room1 (by assumption) (by rfl) | ktr_room) (by first | exact room0 (by assumption) (by rfl) | exact room1 (by assumption) (by rfl) | ktr_units) ?_; walk_at "my tail"))
  k_with "call ref" => (k_here; k_dflt ((try k_fold); refine Does.use2 (by k_asm) (by k_asm) (by k_asm) (by k_asm) (by k_asm) (by first | exact rfl | assumption) (by first | with_reducible assumption | assumption) (by first | with_reducible assumption | assumption) (by first | with_reducible assumption | assumption) (indent_does _ _ _ _ (by first | assumption | exact WhiteIn.mono (by assumption) (by intro p9 h9; k_mem)) _ _ (by omega) (by assumption) (by omega) (by omega)) (by first | exact room0 (by assumption) (by rfl) | exact room1 (by assumption) (by rfl) | ktr_room) (by first | exact room0 (by assumption) (by rfl) | exact room1 (by assumption) (by rfl) | ktr_units) ?_; walk_at "my tail"))
  k_with "call ref" => (k_here; k_dflt ((try k_fold); refine Does.use2 (by k_asm) (by k_asm) (by k_asm) (by k_asm) (by k_asm) (by first | exact rfl | assumption) (by first | with_reducible assumption | assumption) (by first | with_reducible assumption | assumption) (by first | with_reducible assumption | assumption) (div2_does _ _ _ _ _ _ _ _ (by omega) (by omega) (by omega) (by omega) (by omega) (by omega)) (by first | exact room0 (by assumption) (by rfl) | exact room1 (by assumption) (by rfl) | ktr_room) (by first | exact room0 (by assumption) (by rfl) | exact room1 (by assumption) (by rfl) | ktr_units) ?_; intro r9 news9 h9 tk9 F9 N9 P9; obtain ⟨D9, t9, u9, q9, e9, l9⟩ := P9; subst e9; subst q9; (try k_lt l9); (try (k_unfold; (try dsimp only))); (try dsimp only); (try k_fold)))
  trivial
theorem bisl_does {fc fd fo fs} (w : World) (news : List (Addr × Obj)) (l f : Addr) (vs : List Value) (nn : Nat) (ks : List Int) (vals : Nat → Int) (x : Int) (tx tz : Tok) (j₀ dk uk : Nat) (args : List Value)
    (hargs : args = [.ref l, .int x tx] ∨ args = [.ref l, .int x tx, .int 0 tz, .none])
    (hf : (f, ({ cls := fc, dict := fd, data := .func fo, slots := fs } : Obj)) ∈ news) (hl : (l, W.listOf vs.toArray nn) ∈ news) (hi : IntsAre vs ks) (hlen : ks.length ≤ 8)
    (hkey : ∀ (i : Nat) t, i < ks.length → Does w news dk uk f [.int (ks.getD i 0) t] [] (Keeps1 news fun r => ∃ t, r = .int (vals i) t))
    (hj : j₀ ≤ ks.length) (hA : ∀ i, i < j₀ → vals i < x) (hB : ∀ i, j₀ ≤ i → i < ks.length → ¬ vals i < x) :
    Does w news (dk + 2) (uk + 60) 57 args [(Str.ofString "key", .ref f)] (Keeps1 news fun r => ∃ t, r = .int (j₀ : Int) t) := by
  unfold Does
  w_top off
  k_fill
  intro p loose mean mg mb dp un' gd cn cs a ccd cl outer A₀ base h₀ L m s Q E B F X N T hk C1 C2 C3 hd hu hret
  have hvl : vs.length = ks.length := hi.length
  have kMark := kstMark
  refine wpAny_call ?_
  have hMid : ∀ mid : Int, 0 ≤ mid → mid < (ks.length : Int) → (vals mid.toNat < x → mid < (j₀ : Int)) ∧ (¬ vals mid.toNat < x → (j₀ : Int) ≤ mid) := by
    intro mid h0 h1
    constructor
    · exact fun h => Int.not_le.mp fun q => hB mid.toNat (by omega) (by omega) h
    · exact fun h => Int.not_lt.mp fun q => h (hA mid.toNat (by omega))
  k_with "my call" => ((try k_fold); refine' Does.use (hkey _ _ ?p1) ?k1 ?k2 ?k3 ?k4 ?k5 ?kK ?c1 ?c2 ?c3 ?kd ?ku ?_; (case k1 => k_asm); (case k2 => k_asm); (case k3 => k_asm); (case k4 => k_asm); (case k5 => k_asm); (case kK => first | exact rfl | assumption); (case c1 => first | with_reducible assumption | assumption); (case c2 => first | with_reducible assumption | assumption); (case c3 => first | with_reducible assumption | assumption); (case p1 => omega); (case kd => first | exact room0 (by assumption) (by rfl) | exact room1 (by assumption) (by rfl) | ktr_room); (case ku => first | exact room0 (by assumption) (by rfl) | exact room1 (by assumption) (by rfl) | ktr_units); intro r9 news9 h9 tk9 F9 N9 P9; obtain ⟨e9, t9, q9⟩ := P9; replace e9 := e9.symm; subst e9; subst q9; (try (k_unfold; (try dsimp only))); (try dsimp only); (try k_fold))
  k_with "exec While Compare cons nil" => k_while (fun _ lo hi => 0 ≤ lo ∧ lo ≤ (j₀ : Int) ∧ (j₀ : Int) ≤ hi ∧ hi ≤ (ks.length : Int)) (fun _ lo hi => (hi - lo).toNat) "lo" "hi"
  rcases hargs with rfl | rfl
  all_goals (k_dflt k_enter)
  all_goals
    iterate 53 (all_goals try first | (k_unfold; (try dsimp only)) | (k_end; wrow_close) | walk1 | (dsimp only; walk1))
    rotate_left
    · (rename Fr _ _ _ _ => lF; rename News _ _ _ _ => lN)
      exact keep_ret hret lF lN (fun _ h => h) ⟨_, congrArg (Value.int · _) (by omega)⟩
    rename (_ : Int) < (_ : Int) => hlt
    have hm := mid_in (by assumption) hlt
    have hX := hMid _ (by omega) (Int.lt_of_lt_of_le hm.2 (by assumption))
    iterate 5 (all_goals try first | (k_unfold; (try dsimp only)) | (k_end; wrow_close) | walk1 | (dsimp only; walk1))
    generalize Int.fdiv (_ + _) 2 = mid at *
    k_steps
example : True := by
  k_with_none
  k_with "k_room" => ktr_room
  k_with "k_mem" => ((fail_if_success (with_reducible_and_instances refine List.mem_cons_of_mem _ ?_)); (with_reducible_and_instances refine List.mem_append_right _ ?_); k_mem)
  k_with "k_mem" => ((fail_if_success (with_reducible_and_instances refine List.mem_cons_of_mem _ ?_)); (with_reducible_and_instances refine List.mem_append_left _ ?_); k_mem)
  k_with "k_mem" => assumption
  k_with "k_all" => first | exact List.forall_mem_nil _ | assumption | (refine' List.forall_mem_cons.mpr ⟨?a, ?b⟩; (case a => k_ne); (case b => k_all))
  k_with "call ref" => k_dflt (k_extra "my call")
  k_with "my tail" => (intro r9 news9 h9 tk9 F9 N9 P9; obtain ⟨e9, t9, q9⟩ := P9; replace e9 := e9.symm; subst e9; subst q9; (try (k_unfold; (try dsimp only))); (try dsimp only); (try k_fold))
  k_with "k_enter" => first | (refine' code_def ?k1 ?k2 ?k3 ?k4 ?k5 ?kA ?kF ?kK ?k6 ?k7 ?k8 ?k9 ?kB ?_ ?c2 ?c3 ?c4 ?c5; (case kA => exact rfl); (case kF => exact rfl); (case kK => first | exact rfl | assumption); (case k1 => k_asm); (case k2 => k_asm); (case k3 => k_asm); (case k4 => k_asm); (case k5 => k_asm); (case k6 => k_is); (case k7 => k_is); (case k8 => k_room); (case k9 => first | exact BindsTo.of_eq rfl | exact binds_K (by k_in) rfl (by k_is) rfl rfl rfl | fail "k_enter: no rule for these arguments"); (case c5 => decide); (case kB => exact locs rfl); (case c2 => exact rfl); (case c3 => exact rfl); (case c4 => exact rfl); k_whole; intro g' L' h' FG' F' N' B' X' T'; (try dsimp only); (try k_lift B'); (refine fr_let F' ?_); clear F'; intro mF F'; (try k_fold)) | (refine' code_defC ?k1 ?k2 ?k3 ?k4 ?k5 ?kA ?kF ?kK ?k6 ?k7 ?k8 ?k9 ?kB ?kD ?_ ?c2 ?c3 ?c4; (case kA => exact rfl); (case kF => exact rfl); (case kK => first | exact rfl | assumption); (case k1 => k_asm); (case k2 => k_asm); (case k3 => k_asm); (case k4 => k_asm); (case k5 => k_asm); (case k6 => k_is); (case k7 => k_is); (case k8 => k_room); (case k9 => first | exact BindsTo.of_eq rfl | exact binds_K (by k_in) rfl (by k_is) rfl rfl rfl | fail "k_enter: no rule for these arguments"); (case kB => exact rfl); (case kD => decide +kernel); (case c2 => exact rfl); (case c3 => exact rfl); (case c4 => exact rfl); k_whole; intro g' L' h' tk' cells' FG' F' N' Y' B' X' T' l1; (try k_lt l1); k_cells Y'; (try simp only [List.cons_append, List.nil_append] at N'); (try dsimp only); (try k_lift B'); (refine fr_let F' ?_); clear F'; intro mF F'; (try k_fold))
  k_with "pyIter ref" => ((rename HaltMark => hM9); refine halt_intro ?_)
  k_with "call builtin:len" => (k_here; (with_reducible show wpAny _ _ (call (Value.builtin "len") [Value.ref _]) _ _ _); k_dflt (refine' my_lenT ?k1 ?k2 ?k3 ?k4 ?_; (case k1 => k_asm); (case k2 => k_mem); (case k3 => assumption); (case k4 => omega); k_whole))
  k_with "subscriptTail Name Name ref int" => (k_here; (with_reducible show wpAny _ _ (subscriptTail _ _ (Value.ref _) (Value.int _ _)) _ _ _); k_dflt (refine' my_itemT ?k1 ?k2 ?k3 ?k4 ?k5 ?k6 ?_ ?k7; (case k1 => k_asm); (case k2 => k_mem); (case k3 => assumption); (case k4 => omega); (case k5 => omega); (case k6 => omega); (case k7 => with_unfolding_all rfl); k_whole); intro t')
  k_with "subscriptTail Name Name ref int" => (k_here; (with_reducible show wpAny _ _ (subscriptTail _ _ (Value.ref _) (Value.int _ _)) _ _ _); k_dflt (refine' my_itemL ?k1 ?k2 ?k3 ?k4 ?k5 ?k6 ?_ ?k7 ?k8; (case k1 => k_asm); (case k2 => k_mem); (case k3 => assumption); (case k4 => omega); (case k5 => omega); (case k6 => omega); (case k7 => with_unfolding_all rfl); (case k8 => intro _; with_unfolding_all rfl); k_whole); intro t')
  k_with "truthy ref" => (k_here; k_dflt (refine' my_truthyL ?k1 ?k2 ?k3 ?k4 ?_ ?_; (case k1 => k_asm); (case k2 => k_mem); (case k3 => assumption); (case k4 => omega)); (all_goals intro hz9))
  k_with "call builtin:len" => (k_here; (with_reducible show wpAny _ _ (call (Value.builtin "len") [Value.ref _]) _ _ _); k_dflt (refine' my_lenL ?k1 ?k2 ?k3 ?k4 ?_; (case k1 => k_asm); (case k2 => k_mem); (case k3 => assumption); (case k4 => omega); k_whole))
  k_with "call ref" => (k_here; k_dflt ((try k_fold); refine Does.use2 (by k_asm) (by k_asm) (by k_asm) (by k_asm) (by k_asm) (by first | exact rfl | assumption) (by first | with_reducible assumption | assumption) (by first | with_reducible assumption | assumption) (by first | with_reducible assumption | assumption) (column_does _ _ _ _ _ _ (by first | assumption | omega)) (by first | exact room0 (by assumption) (by rfl) | exact room1 (by assumption) (by rfl) | ktr_room) (by first | exact room0 (by assumption) (by rfl) | exact room1 (by assumption) (by rfl) | ktr_units) ?_; walk_at "my tail"))
  k_with "call ref" => (k_here; k_dflt ((try k_fold); refine Does.use2 (by k_asm) (by k_asm) (by k_asm) (by k_asm) (by k_asm) (by first | exact rfl | assumption) (by first | with_reducible assumption | assumption) (by first | with_reducible assumption | assumption) (by first | with_reducible assumption | assumption) (longest_does _ _ _ _ (by first | assumption | exact WhiteIn.mono (by assumption) (by intro p9 h9; k_mem)) (by omega)) (by first | exact room0 (by assumption) (by rfl) | exact room1 (by assumption) (by rfl) | ktr_room) (by first | exact room0 (by assumption) (by rfl) | exact room1 (by assumption) (by rfl) | ktr_units) ?_; walk_at "my tail"))
  k_with "call ref" => (k_here; k_dflt ((try k_fold); refine Does.use2 (by k_asm) (by k_asm) (by k_asm) (by k_asm) (by k_asm) (by first | exact rfl | assumption) (by first | with_reducible assumption | assumption) (by first | with_reducible assumption | assumption) (by first | with_reducible assumption | assumption) (indent_does _ _ _ _ (by first | assumption | exact WhiteIn.mono (by assumption) (by intro p9 h9; k_mem)) _ _ (by omega) (by assumption) (by omega) (by omega)) (by first | exact room0 (by assumption) (by rfl) | exact room1 (by assumption) (by rfl) | ktr_room) (by first | exact room0 (by assumption) (by rfl) | exact room1 (by assumption) (by rfl) | ktr_units) ?_; walk_at "my tail"))
  k_with "call ref" => (k_here; k_dflt ((try k_fold); refine Does.use2 (by k_asm) (by k_asm) (by k_asm) (by k_asm) (by k_asm) (by first | exact rfl | assumption) (by first | with_reducible assumption | assumption) (by first | with_reducible assumption | assumption) (by first | with_reducible assumption | assumption) (div2_does _ _ _ _ _ _ _ _ (by omega) (by omega) (by omega) (by omega) (by omega) (by omega)) (by first | exact room0 (by assumption) (by rfl) | exact room1 (by assumption) (by rfl) | ktr_room) (by first | exact room0 (by assumption) (by rfl) | exact room1 (by assumption) (by rfl) | ktr_units) ?_; intro r9 news9 h9 tk9 F9 N9 P9; obtain ⟨D9, t9, u9, q9, e9, l9⟩ := P9; subst e9; subst q9; (try k_lt l9); (try (k_unfold; (try dsimp only))); (try dsimp only); (try k_fold)))
  trivial
end
section
theorem fits_ix {k : Nat} (h : k ≤ 8) : Builtin.List.listFitsIndex (k : Int) = true := by
  unfold Builtin.List.listFitsIndex
  simp
  omega
theorem ins_at (vs : List Value) (y : Value) {j : Nat} (h : j ≤ vs.length) : kl_ins vs.toArray.toList (j : Int) y = vs.take j ++ y :: vs.drop j := by
  unfold kl_ins
  have e : ¬ ((j : Int) < 0) := by omega
  simp only [if_neg e, Int.toNat_natCast, Nat.min_eq_left h]
theorem ints_take {vs : List Value} {ks : List Int} (h : IntsAre vs ks) : ∀ j, IntsAre (vs.take j) (ks.take j) := by
  induction h with
  | nil => intro j; simp only [List.take_nil]; exact .nil
  | cons n t _ ih => intro j; cases j with
    | zero => exact .nil
    | succ j => exact .cons n t (ih j)
theorem ints_drop {vs : List Value} {ks : List Int} (h : IntsAre vs ks) : ∀ j, IntsAre (vs.drop j) (ks.drop j) := by
  induction h with
  | nil => intro j; simp only [List.drop_nil]; exact .nil
  | cons n t r ih => intro j; cases j with
    | zero => exact .cons n t r
    | succ j => exact ih j
theorem ints_ins {vs : List Value} {ks : List Int} {x : Int} {tx : Tok} {j : Nat} (h : IntsAre vs ks) : IntsAre (vs.take j ++ .int x tx :: vs.drop j) (ks.take j ++ x :: ks.drop j) :=
  (ints_take h j).append (.cons x tx (ints_drop h j))
theorem insr_does {fc fd fo fs} (w : World) (rest : List (Addr × Obj)) (l f : Addr) (vs : List Value) (nn : Nat) (ks : List Int) (vals : Nat → Int) (x vx : Int) (tx : Tok) (j₀ dk uk : Nat)
    (hf : (f, ({ cls := fc, dict := fd, data := .func fo, slots := fs } : Obj)) ∈ rest) (hne : ∀ p ∈ rest, p.1 ≠ l) (hi : IntsAre vs ks) (hlen : ks.length ≤ 8)
    (hkey : ∀ (i : Nat) t, i < ks.length → Does w ((l, W.listOf vs.toArray nn) :: rest) dk uk f [.int (ks.getD i 0) t] [] (Keeps1 ((l, W.listOf vs.toArray nn) :: rest) fun r => ∃ t, r = .int (vals i) t))
    (hkx : ∀ t, Does w ((l, W.listOf vs.toArray nn) :: rest) dk uk f [.int x t] [] (Keeps1 ((l, W.listOf vs.toArray nn) :: rest) fun r => ∃ t, r = .int vx t))
    (hj : j₀ ≤ ks.length) (hA : ∀ i, i < j₀ → ¬ vx < vals i) (hB : ∀ i, j₀ ≤ i → i < ks.length → vx < vals i) :
    Does w ((l, W.listOf vs.toArray nn) :: rest) (dk + 4) (uk + 120) 30 [.ref l, .int x tx] [(Str.ofString "key", .ref f)] (fun r news' => ∃ vs' nn', r = .none ∧ news' = (l, W.listOf vs'.toArray nn') :: rest ∧ IntsAre vs' (ks.take j₀ ++ x :: ks.drop j₀)) := by
  unfold Does
  w_top off
  k_fill
  intro p loose mean mg mb dp un' gd cn cs a ccd cl outer A₀ base h₀ L m s Q E B F X N T hk C1 C2 C3 hd hu hret
  have hvl : vs.length = ks.length := hi.length
  have kMark := kstMark
  k_with "my call" => ((try k_fold); refine' Does.use (hkx _) ?k1 ?k2 ?k3 ?k4 ?k5 ?kK ?c1 ?c2 ?c3 ?kd ?ku ?_; (case k1 => k_asm); (case k2 => k_asm); (case k3 => k_asm); (case k4 => k_asm); (case k5 => k_asm); (case kK => first | exact rfl | assumption); (case c1 => first | with_reducible assumption | assumption); (case c2 => first | with_reducible assumption | assumption); (case c3 => first | with_reducible assumption | assumption); (case kd => first | exact room0 (by assumption) (by rfl) | exact room1 (by assumption) (by rfl) | ktr_room); (case ku => first | exact room0 (by assumption) (by rfl) | exact room1 (by assumption) (by rfl) | ktr_units); intro r9 news9 h9 tk9 F9 N9 P9; obtain ⟨e9, t9, q9⟩ := P9; replace e9 := e9.symm; subst e9; subst q9; (try (k_unfold; (try dsimp only))); (try dsimp only); (try k_fold))
  k_with "my call" => ((try k_fold); refine' Does.use (bisr_does w _ l f vs nn ks vals vx _ _ j₀ dk uk _ (.inr rfl) (.tail _ hf) (.head _) hi hlen hkey hj hA hB) ?k1 ?k2 ?k3 ?k4 ?k5 ?kK ?c1 ?c2 ?c3 ?kd ?ku ?_; (case k1 => k_asm); (case k2 => k_asm); (case k3 => k_asm); (case k4 => k_asm); (case k5 => k_asm); (case kK => first | exact rfl | assumption); (case c1 => first | with_reducible assumption | assumption); (case c2 => first | with_reducible assumption | assumption); (case c3 => first | with_reducible assumption | assumption); (case kd => first | exact room0 (by assumption) (by rfl) | exact room1 (by assumption) (by rfl) | ktr_room); (case ku => first | exact room0 (by assumption) (by rfl) | exact room1 (by assumption) (by rfl) | ktr_units); intro r9 news9 h9 tk9 F9 N9 P9; obtain ⟨e9, t9, q9⟩ := P9; replace e9 := e9.symm; subst e9; subst q9; (try (k_unfold; (try dsimp only))); (try dsimp only); (try k_fold))
  refine wpAny_call ?_
  k_dflt k_enter
  iterate 49 (all_goals try first | (k_unfold; (try dsimp only)) | (k_end; wrow_close) | walk1 | (dsimp only; walk1))
  rename Fr _ _ _ _ => lF
  rename News _ _ _ _ => lN
  refine kl_insert (its := vs.toArray) (l := vs.take j₀ ++ .int x tx :: vs.drop j₀) lF lN ?fits ?ins (Upd.head hne) ?sz ?_
  case fits => exact fits_ix (by omega)
  case ins => exact ins_at _ _ (by omega)
  case sz => exact Nat.le_trans (by rw [hvl]; exact hlen) (by decide : 8 ≤ sizeLine)
  intro h8 F8 N8
  k_steps
  (rename Fr _ _ _ _ => lF; rename News _ _ _ _ => lN)
  exact hret _ _ _ _ lF lN ⟨_, _, rfl, rfl, ints_ins hi⟩
example : True := by
  k_with_none
  k_with "k_room" => ktr_room
  k_with "k_mem" => ((fail_if_success (with_reducible_and_instances refine List.mem_cons_of_mem _ ?_)); (with_reducible_and_instances refine List.mem_append_right _ ?_); k_mem)
  k_with "k_mem" => ((fail_if_success (with_reducible_and_instances refine List.mem_cons_of_mem _ ?_)); (with_reducible_and_instances refine List.mem_append_left _ ?_); k_mem)
  k_with "k_mem" => assumption
  k_with "k_all" => first | exact List.forall_mem_nil _ | assumption | (refine' List.forall_mem_cons.mpr ⟨?a, ?b⟩; (case a => k_ne); (case b => k_all))
  k_with "call ref" => k_dflt (k_extra "my call")
  k_with "my tail" => (intro r9 news9 h9 tk9 F9 N9 P9; obtain ⟨e9, t9, q9⟩ := P9; replace e9 := e9.symm; subst e9; subst q9; (try (k_unfold; (try dsimp only))); (try dsimp only); (try k_fold))
  k_with "k_enter" => first | (refine' code_def ?k1 ?k2 ?k3 ?k4 ?k5 ?kA ?kF ?kK ?k6 ?k7 ?k8 ?k9 ?kB ?_ ?c2 ?c3 ?c4 ?c5; (case kA => exact rfl); (case kF => exact rfl); (case kK => first | exact rfl | assumption); (case k1 => k_asm); (case k2 => k_asm); (case k3 => k_asm); (case k4 => k_asm); (case k5 => k_asm); (case k6 => k_is); (case k7 => k_is); (case k8 => k_room); (case k9 => first | exact BindsTo.of_eq rfl | exact binds_K (by k_in) rfl (by k_is) rfl rfl rfl | fail "k_enter: no rule for these arguments"); (case c5 => decide); (case kB => exact locs rfl); (case c2 => exact rfl); (case c3 => exact rfl); (case c4 => exact rfl); k_whole; intro g' L' h' FG' F' N' B' X' T'; (try dsimp only); (try k_lift B'); (refine fr_let F' ?_); clear F'; intro mF F'; (try k_fold)) | (refine' code_defC ?k1 ?k2 ?k3 ?k4 ?k5 ?kA ?kF ?kK ?k6 ?k7 ?k8 ?k9 ?kB ?kD ?_ ?c2 ?c3 ?c4; (case kA => exact rfl); (case kF => exact rfl); (case kK => first | exact rfl | assumption); (case k1 => k_asm); (case k2 => k_asm); (case k3 => k_asm); (case k4 => k_asm); (case k5 => k_asm); (case k6 => k_is); (case k7 => k_is); (case k8 => k_room); (case k9 => first | exact BindsTo.of_eq rfl | exact binds_K (by k_in) rfl (by k_is) rfl rfl rfl | fail "k_enter: no rule for these arguments"); (case kB => exact rfl); (case kD => decide +kernel); (case c2 => exact rfl); (case c3 => exact rfl); (case c4 => exact rfl); k_whole; intro g' L' h' tk' cells' FG' F' N' Y' B' X' T' l1; (try k_lt l1); k_cells Y'; (try simp only [List.cons_append, List.nil_append] at N'); (try dsimp only); (try k_lift B'); (refine fr_let F' ?_); clear F'; intro mF F'; (try k_fold))
  k_with "pyIter ref" => ((rename HaltMark => hM9); refine halt_intro ?_)
  k_with "call builtin:len" => (k_here; (with_reducible show wpAny _ _ (call (Value.builtin "len") [Value.ref _]) _ _ _); k_dflt (refine' my_lenT ?k1 ?k2 ?k3 ?k4 ?_; (case k1 => k_asm); (case k2 => k_mem); (case k3 => assumption); (case k4 => omega); k_whole))
  k_with "subscriptTail Name Name ref int" => (k_here; (with_reducible show wpAny _ _ (subscriptTail _ _ (Value.ref _) (Value.int _ _)) _ _ _); k_dflt (refine' my_itemT ?k1 ?k2 ?k3 ?k4 ?k5 ?k6 ?_ ?k7; (case k1 => k_asm); (case k2 => k_mem); (case k3 => assumption); (case k4 => omega); (case k5 => omega); (case k6 => omega); (case k7 => with_unfolding_all rfl); k_whole); intro t')
  k_with "subscriptTail Name Name ref int" => (k_here; (with_reducible show wpAny _ _ (subscriptTail _ _ (Value.ref _) (Value.int _ _)) _ _ _); k_dflt (refine' my_itemL ?k1 ?k2 ?k3 ?k4 ?k5 ?k6 ?_ ?k7 ?k8; (case k1 => k_asm); (case k2 => k_mem); (case k3 => assumption); (case k4 => omega); (case k5 => omega); (case k6 => omega); (case k7 => with_unfolding_all rfl); (case k8 => intro _; with_unfolding_all rfl); k_whole); intro t')
  k_with "truthy ref" => (k_here; k_dflt (refine' my_truthyL ?k1 ?k2 ?k3 ?k4 ?_ ?_; (case k1 => k_asm); (case k2 => k_mem); (case k3 => assumption); (case k4 => omega)); (all_goals intro hz9))
  k_with "call builtin:len" => (k_here; (with_reducible show wpAny _ _ (call (Value.builtin "len") [Value.ref _]) _ _ _); k_dflt (refine' my_lenL ?k1 ?k2 ?k3 ?k4 ?_; (case k1 => k_asm); (case k2 => k_mem); (case k3 => assumption); (case k4 => omega); k_whole))
  k_with "call ref" => (k_here; k_dflt ((try k_fold); refine Does.use2 (by k_asm) (by k_asm) (by k_asm) (by k_asm) (by k_asm) (by first | exact rfl | assumption) (by first | with_reducible assumption | assumption) (by first | with_reducible assumption | assumption) (by first | with_reducible assumption | assumption) (column_does _ _ _ _ _ _ (by first | assumption | omega)) (by first | exact room0 (by assumption) (by rfl) | exact room1 (by assumption) (by rfl) | ktr_room) (by first | exact room0 (by assumption) (by rfl) | exact room1 (by assumption) (by rfl) | ktr_units) ?_; walk_at "my tail"))
  k_with "call ref" => (k_here; k_dflt ((try k_fold); refine Does.use2 (by k_asm) (by k_asm) (by k_asm) (by k_asm) (by k_asm) (by first | exact rfl | assumption) (by first | with_reducible assumption | assumption) (by first | with_reducible assumption | assumption) (by first | with_reducible assumption | assumption) (longest_does _ _ _ _ (by first | assumption | exact WhiteIn.mono (by assumption) (by intro p9 h9; k_mem)) (by omega)) (by first | exact room0 (by assumption) (by rfl) | exact room1 (by assumption) (by rfl) | ktr_room) (by first | exact room0 (by assumption) (by rfl) | exact room1 (by assumption) (by rfl) | ktr_units) ?_; walk_at "my tail"))
  k_with "call ref" => (k_here; k_dflt ((try k_fold); refine Does.use2 (by k_asm) (by k_asm) (by k_asm) (by k_asm) (by k_asm) (by first | exact rfl | assumption) (by first | with_reducible assumption | assumption) (by first | with_reducible assumption | assumption) (by first | with_reducible assumption | assumption) (indent_does _ _ _ _ (by first | assumption | exact WhiteIn.mono (by assumption) (by intro p9 h9; k_mem)) _ _ (by omega) (by assumption) (by omega) (by omega)) (by first | exact room0 (by assumption) (by rfl) | exact room1 (by assumption) (by rfl) | ktr_room) (by first | exact room0 (by assumption) (by rfl) | exact room1 (by assumption) (by rfl) | ktr_units) ?_; walk_at "my tail"))
  k_with "call ref" => (k_here; k_dflt ((try k_fold); refine Does.use2 (by k_asm) (by k_asm) (by k_asm) (by k_asm) (by k_asm) (by first | exact rfl | assumption) (by first | with_reducible assumption | assumption) (by first | with_reducible assumption | assumption) (by first | with_reducible assumption | assumption) (div2_does _ _ _ _ _ _ _ _ (by omega) (by omega) (by omega) (by omega) (by omega) (by omega)) (by first | exact room0 (by assumption) (by rfl) | exact room1 (by assumption) (by rfl) | ktr_room) (by first | exact room0 (by assumption) (by rfl) | exact room1 (by assumption) (by rfl) | ktr_units) ?_; intro r9 news9 h9 tk9 F9 N9 P9; obtain ⟨D9, t9, u9, q9, e9, l9⟩ := P9; subst e9; subst q9; (try k_lt l9); (try (k_unfold; (try dsimp only))); (try dsimp only); (try k_fold)))
  trivial
theorem insl_does {fc fd fo fs} (w : World) (rest : List (Addr × Obj)) (l f : Addr) (vs : List Value) (nn : Nat) (ks : List Int) (vals : Nat → Int) (x vx : Int) (tx : Tok) (j₀ dk uk : Nat)
    (hf : (f, ({ cls := fc, dict := fd, data := .func fo, slots := fs } : Obj)) ∈ rest) (hne : ∀ p ∈ rest, p.1 ≠ l) (hi : IntsAre vs ks) (hlen : ks.length ≤ 8)
    (hkey : ∀ (i : Nat) t, i < ks.length → Does w ((l, W.listOf vs.toArray nn) :: rest) dk uk f [.int (ks.getD i 0) t] [] (Keeps1 ((l, W.listOf vs.toArray nn) :: rest) fun r => ∃ t, r = .int (vals i) t))
    (hkx : ∀ t, Does w ((l, W.listOf vs.toArray nn) :: rest) dk uk f [.int x t] [] (Keeps1 ((l, W.listOf vs.toArray nn) :: rest) fun r => ∃ t, r = .int vx t))
    (hj : j₀ ≤ ks.length) (hA : ∀ i, i < j₀ → vals i < vx) (hB : ∀ i, j₀ ≤ i → i < ks.length → ¬ vals i < vx) :
    Does w ((l, W.listOf vs.toArray nn) :: rest) (dk + 4) (uk + 120) 48 [.ref l, .int x tx] [(Str.ofString "key", .ref f)] (fun r news' => ∃ vs' nn', r = .none ∧ news' = (l, W.listOf vs'.toArray nn') :: rest ∧ IntsAre vs' (ks.take j₀ ++ x :: ks.drop j₀)) := by
  unfold Does
  w_top off
  k_fill
  intro p loose mean mg mb dp un' gd cn cs a ccd cl outer A₀ base h₀ L m s Q E B F X N T hk C1 C2 C3 hd hu hret
  have hvl : vs.length = ks.length := hi.length
  have kMark := kstMark
  k_with "my call" => ((try k_fold); refine' Does.use (hkx _) ?k1 ?k2 ?k3 ?k4 ?k5 ?kK ?c1 ?c2 ?c3 ?kd ?ku ?_; (case k1 => k_asm); (case k2 => k_asm); (case k3 => k_asm); (case k4 => k_asm); (case k5 => k_asm); (case kK => first | exact rfl | assumption); (case c1 => first | with_reducible assumption | assumption); (case c2 => first | with_reducible assumption | assumption); (case c3 => first | with_reducible assumption | assumption); (case kd => first | exact room0 (by assumption) (by rfl) | exact room1 (by assumption) (by rfl) | ktr_room); (case ku => first | exact room0 (by assumption) (by rfl) | exact room1 (by assumption) (by rfl) | ktr_units); intro r9 news9 h9 tk9 F9 N9 P9; obtain ⟨e9, t9, q9⟩ := P9; replace e9 := e9.symm; subst e9; subst q9; (try (k_unfold; (try dsimp only))); (try dsimp only); (try k_fold))
  k_with "my call" => ((try k_fold); refine' Does.use (bisl_does w _ l f vs nn ks vals vx _ _ j₀ dk uk _ (.inr rfl) (.tail _ hf) (.head _) hi hlen hkey hj hA hB) ?k1 ?k2 ?k3 ?k4 ?k5 ?kK ?c1 ?c2 ?c3 ?kd ?ku ?_; (case k1 => k_asm); (case k2 => k_asm); (case k3 => k_asm); (case k4 => k_asm); (case k5 => k_asm); (case kK => first | exact rfl | assumption); (case c1 => first | with_reducible assumption | assumption); (case c2 => first | with_reducible assumption | assumption); (case c3 => first | with_reducible assumption | assumption); (case kd => first | exact room0 (by assumption) (by rfl) | exact room1 (by assumption) (by rfl) | ktr_room); (case ku => first | exact room0 (by assumption) (by rfl) | exact room1 (by assumption) (by rfl) | ktr_units); intro r9 news9 h9 tk9 F9 N9 P9; obtain ⟨e9, t9, q9⟩ := P9; replace e9 := e9.symm; subst e9; subst q9; (try (k_unfold; (try dsimp only))); (try dsimp only); (try k_fold))
  refine wpAny_call ?_
  k_dflt k_enter
  iterate 49 (all_goals try first | (k_unfold; (try dsimp only)) | (k_end; wrow_close) | walk1 | (dsimp only; walk1))
  rename Fr _ _ _ _ => lF
  rename News _ _ _ _ => lN
  refine kl_insert (its := vs.toArray) (l := vs.take j₀ ++ .int x tx :: vs.drop j₀) lF lN ?fits ?ins (Upd.head hne) ?sz ?_
  case fits => exact fits_ix (by omega)
  case ins => exact ins_at _ _ (by omega)
  case sz => exact Nat.le_trans (by rw [hvl]; exact hlen) (by decide : 8 ≤ sizeLine)
  intro h8 F8 N8
  k_steps
  (rename Fr _ _ _ _ => lF; rename News _ _ _ _ => lN)
  exact hret _ _ _ _ lF lN ⟨_, _, rfl, rfl, ints_ins hi⟩
example : True := by
  k_with_none
  k_with "k_room" => ktr_room
  k_with "k_mem" => ((fail_if_success (with_reducible_and_instances refine List.mem_cons_of_mem _ ?_)); (with_reducible_and_instances refine List.mem_append_right _ ?_); k_mem)
  k_with "k_mem" => ((fail_if_success (with_reducible_and_instances refine List.mem_cons_of_mem _ ?_)); (with_reducible_and_instances refine List.mem_append_left _ ?_); k_mem)
  k_with "k_mem" => assumption
  k_with "k_all" => first | exact List.forall_mem_nil _ | assumption | (refine' List.forall_mem_cons.mpr ⟨?a, ?b⟩; (case a => k_ne); (case b => k_all))
  k_with "call ref" => k_dflt (k_extra "my call")
  k_with "my tail" => (intro r9 news9 h9 tk9 F9 N9 P9; obtain ⟨e9, t9, q9⟩ := P9; replace e9 := e9.symm; subst e9; subst q9; (try (k_unfold; (try dsimp only))); (try dsimp only); (try k_fold))
  k_with "k_enter" => first | (refine' code_def ?k1 ?k2 ?k3 ?k4 ?k5 ?kA ?kF ?kK ?k6 ?k7 ?k8 ?k9 ?kB ?_ ?c2 ?c3 ?c4 ?c5; (case kA => exact rfl); (case kF => exact rfl); (case kK => first | exact rfl | assumption); (case k1 => k_asm); (case k2 => k_asm); (case k3 => k_asm); (case k4 => k_asm); (case k5 => k_asm); (case k6 => k_is); (case k7 => k_is); (case k8 => k_room); (case k9 => first | exact BindsTo.of_eq rfl | exact binds_K (by k_in) rfl (by k_is) rfl rfl rfl | fail "k_enter: no rule for these arguments"); (case c5 => decide); (case kB => exact locs rfl); (case c2 => exact rfl); (case c3 => exact rfl); (case c4 => exact rfl); k_whole; intro g' L' h' FG' F' N' B' X' T'; (try dsimp only); (try k_lift B'); (refine fr_let F' ?_); clear F'; intro mF F'; (try k_fold)) | (refine' code_defC ?k1 ?k2 ?k3 ?k4 ?k5 ?kA ?kF ?kK ?k6 ?k7 ?k8 ?k9 ?kB ?kD ?_ ?c2 ?c3 ?c4; (case kA => exact rfl); (case kF => exact rfl); (case kK => first | exact rfl | assumption); (case k1 => k_asm); (case k2 => k_asm); (case k3 => k_asm); (case k4 => k_asm); (case k5 => k_asm); (case k6 => k_is); (case k7 => k_is); (case k8 => k_room); (case k9 => first | exact BindsTo.of_eq rfl | exact binds_K (by k_in) rfl (by k_is) rfl rfl rfl | fail "k_enter: no rule for these arguments"); (case kB => exact rfl); (case kD => decide +kernel); (case c2 => exact rfl); (case c3 => exact rfl); (case c4 => exact rfl); k_whole; intro g' L' h' tk' cells' FG' F' N' Y' B' X' T' l1; (try k_lt l1); k_cells Y'; (try simp only [List.cons_append, List.nil_append] at N'); (try dsimp only); (try k_lift B'); (refine fr_let F' ?_); clear F'; intro mF F'; (try k_fold))
  k_with "pyIter ref" => ((rename HaltMark => hM9); refine halt_intro ?_)
  k_with "call builtin:len" => (k_here; (with_reducible show wpAny _ _ (call (Value.builtin "len") [Value.ref _]) _ _ _); k_dflt (refine' my_lenT ?k1 ?k2 ?k3 ?k4 ?_; (case k1 => k_asm); (case k2 => k_mem); (case k3 => assumption); (case k4 => omega); k_whole))
  k_with "subscriptTail Name Name ref int" => (k_here; (with_reducible show wpAny _ _ (subscriptTail _ _ (Value.ref _) (Value.int _ _)) _ _ _); k_dflt (refine' my_itemT ?k1 ?k2 ?k3 ?k4 ?k5 ?k6 ?_ ?k7; (case k1 => k_asm); (case k2 => k_mem); (case k3 => assumption); (case k4 => omega); (case k5 => omega); (case k6 => omega); (case k7 => with_unfolding_all rfl); k_whole); intro t')
  k_with "subscriptTail Name Name ref int" => (k_here; (with_reducible show wpAny _ _ (subscriptTail _ _ (Value.ref _) (Value.int _ _)) _ _ _); k_dflt (refine' my_itemL ?k1 ?k2 ?k3 ?k4 ?k5 ?k6 ?_ ?k7 ?k8; (case k1 => k_asm); (case k2 => k_mem); (case k3 => assumption); (case k4 => omega); (case k5 => omega); (case k6 => omega); (case k7 => with_unfolding_all rfl); (case k8 => intro _; with_unfolding_all rfl); k_whole); intro t')
  k_with "truthy ref" => (k_here; k_dflt (refine' my_truthyL ?k1 ?k2 ?k3 ?k4 ?_ ?_; (case k1 => k_asm); (case k2 => k_mem); (case k3 => assumption); (case k4 => omega)); (all_goals intro hz9))
  k_with "call builtin:len" => (k_here; (with_reducible show wpAny _ _ (call (Value.builtin "len") [Value.ref _]) _ _ _); k_dflt (refine' my_lenL ?k1 ?k2 ?k3 ?k4 ?_; (case k1 => k_asm); (case k2 => k_mem); (case k3 => assumption); (case k4 => omega); k_whole))
  k_with "call ref" => (k_here; k_dflt ((try k_fold); refine Does.use2 (by k_asm) (by k_asm) (by k_asm) (by k_asm) (by k_asm) (by first | exact rfl | assumption) (by first | with_reducible assumption | assumption) (by first | with_reducible assumption | assumption) (by first | with_reducible assumption | assumption) (column_does _ _ _ _ _ _ (by first | assumption | omega)) (by first | exact room0 (by assumption) (by rfl) | exact room1 (by assumption) (by rfl) | ktr_room) (by first | exact room0 (by assumption) (by rfl) | exact room1 (by assumption) (by rfl) | ktr_units) ?_; walk_at "my tail"))
  k_with "call ref" => (k_here; k_dflt ((try k_fold); refine Does.use2 (by k_asm) (by k_asm) (by k_asm) (by k_asm) (by k_asm) (by first | exact rfl | assumption) (by first | with_reducible assumption | assumption) (by first | with_reducible assumption | assumption) (by first | with_reducible assumption | assumption) (longest_does _ _ _ _ (by first | assumption | exact WhiteIn.mono (by assumption) (by intro p9 h9; k_mem)) (by omega)) (by first | exact room0 (by assumption) (by rfl) | exact room1 (by assumption) (by rfl) | ktr_room) (by first | exact room0 (by assumption) (by rfl) | exact room1 (by assumption) (by rfl) | ktr_units) ?_; walk_at "my tail"))
  k_with "call ref" => (k_here; k_dflt ((try k_fold); refine Does.use2 (by k_asm) (by k_asm) (by k_asm) (by k_asm) (by k_asm) (by first | exact rfl | assumption) (by first | with_reducible assumption | assumption) (by first | with_reducible assumption | assumption) (by first | with_reducible assumption | assumption) (indent_does _ _ _ _ (by first | assumption | exact WhiteIn.mono (by assumption) (by intro p9 h9; k_mem)) _ _ (by omega) (by assumption) (by omega) (by omega)) (by first | exact room0 (by assumption) (by rfl) | exact room1 (by assumption) (by rfl) | ktr_room) (by first | exact room0 (by assumption) (by rfl) | exact room1 (by assumption) (by rfl) | ktr_units) ?_; walk_at "my tail"))
  k_with "call ref" => (k_here; k_dflt ((try k_fold); refine Does.use2 (by k_asm) (by k_asm) (by k_asm) (by k_asm) (by k_asm) (by first | exact rfl | assumption) (by first | with_reducible assumption | assumption) (by first | with_reducible assumption | assumption) (by first | with_reducible assumption | assumption) (div2_does _ _ _ _ _ _ _ _ (by omega) (by omega) (by omega) (by omega) (by omega) (by omega)) (by first | exact room0 (by assumption) (by rfl) | exact room1 (by assumption) (by rfl) | ktr_room) (by first | exact room0 (by assumption) (by rfl) | exact room1 (by assumption) (by rfl) | ktr_units) ?_; intro r9 news9 h9 tk9 F9 N9 P9; obtain ⟨D9, t9, u9, q9, e9, l9⟩ := P9; subst e9; subst q9; (try k_lt l9); (try (k_unfold; (try dsimp only))); (try dsimp only); (try k_fold)))
  trivial
end
section
section
variable {prog : Program} {w : World} {A : Around} {E : Value → Shared → Prop} {s : Shared} {h₀ : Heap} {L l b : Addr} {m : Str → Option Value} {news : List (Addr × Obj)} {vs : List Value} {n n2 : Nat} {Q : Value → Shared → Prop}
theorem my_eqNil {k : Nat} (N : News h₀ L s.heap news) (hm : (l, W.listOf vs.toArray n) ∈ news) (hb : (b, W.listOf #[] n2) ∈ news) (hk : vs.length = k) (hu : A.units < cLine)
    (h1 : k = 0 → Q (.bool true) s) (h0 : 0 < k → Q (.bool false) s) : wpAny (model prog w) A (compareOp .Eq (.ref l) (.ref b)) Q E s := by
  by_cases hz : k = 0
  · have e : vs = [] := List.eq_nil_of_length_eq_zero (by omega)
    subst e
    refine PySem.SeqAt.eq_listAt (e := fun _ => true) (News.isList N hm) (News.isList N hb) rfl hu (fun j h1 => ?_) (h1 hz)
    simp at h1
  · refine PySem.SeqAt.eq_list_lengthsAt (News.isList N hm) (News.isList N hb) ?_ hu (h0 (Nat.pos_of_ne_zero hz))
    rw [List.size_toArray, hk]
    simp [hz]
theorem my_last {value slice : PySem.Expr} {v : Value} {u : Tok} (N : News h₀ L s.heap news) (hm : (l, W.listOf (vs ++ [v]).toArray n) ∈ news)
    (h : Q v s)
    (hs : subscripted slice false (.ref l) (.int (-1) u) = operate [.ref l, .int (-1) u] (getItem (.ref l) (.int (-1) u)) := by with_unfolding_all rfl) :
    wpAny (model prog w) A (subscriptTail value slice (.ref l) (.int (-1) u)) Q E s := by
  have hl := News.isList N hm
  refine tail_any hl.typeIs slot_list_getitem.lookup (wpAny_getItem_list_neg hl (by decide) ?_ (by decide) (x := v) ?_ h) hs
  · rw [List.size_toArray, List.length_append, List.length_singleton]; omega
  · have e : ((-1 : Int) + ((vs ++ [v]).toArray.size : Int)).toNat = vs.length := by
      rw [List.size_toArray, List.length_append, List.length_singleton]; omega
    rw [e]
    simp
end
/-- where this mark stands in the context the walk halts at a call of an object -/
structure StopMark : Prop where
theorem stopMark : StopMark := ⟨⟩
end
example : True := by
  k_with "call ref" => ((rename StopMark => hM9); refine halt_intro ?_)
  k_with "compareOp Eq ref ref" => (k_here; k_dflt (refine' my_eqNil ?k1 ?k2 ?k3 ?k4 ?k5 ?_ ?_; (case k1 => k_asm); (case k2 => k_mem); (case k3 => k_mem); (case k4 => assumption); (case k5 => ktr_units)); (all_goals intro hz9))
  k_with "subscriptTail Name UnaryOp ref int" => (k_here; (with_reducible show wpAny _ _ (subscriptTail _ _ (Value.ref _) (Value.int _ _)) _ _ _); k_dflt (refine' my_last ?k1 ?k2 ?_ ?k7; (case k1 => k_asm); (case k2 => k_mem); (case k7 => with_unfolding_all rfl); k_whole))
  trivial
section
theorem RowsAre.last {led : List (Addr × Obj)} : ∀ {vs : List Value} {rs : List (Int × Int × Int)} {x y z : Int}, RowsAre led vs (rs ++ [(x, y, z)]) → ∃ us p t u v, vs = us ++ [.ref p] ∧ (p, ({ cls := .type "tuple", data := .seq #[.int x t, .int y u, .int z v] } : Obj)) ∈ led := by
  intro vs rs
  induction rs generalizing vs with
  | nil =>
    intro x y z h
    cases h with
    | cons hm r => cases r; exact ⟨[], _, _, _, _, rfl, hm⟩
  | cons r rs ih =>
    intro x y z h
    cases h with
    | cons hm r =>
      first | ((first | refine ex0_7 (ih r) ?_ | refine ex1_6 (ih r) ?_ | refine ex2_5 (ih r) ?_ | refine ex5_2 (ih r) ?_); intro us p t u v hr9_0 hp; subst hr9_0) | obtain ⟨us, p, t, u, v, rfl, hp⟩ := (ih r)
      exact ⟨_ :: us, p, t, u, v, rfl, hp⟩
def overOf (st st' : WS) : Int := match (rowsTo st st' (reach st st').toNat).getLast? with
  | none => 0
  | some r => r.2.1 - r.2.2
theorem over_does (w : World) (news : List (Addr × Obj)) (a b : Addr) (st st' : WS) (hW : WhiteIn news a st) (hV : WhiteIn news b st') (o : WOk st) (o' : WOk st') :
    Does w news 4 120 191 [.ref a, .ref b] [] (Keeps1 news fun r => ∃ t, r = .int (overOf st st') t) := by
  unfold Does
  w_top off
  k_fill
  intro p loose mean mg mb dp un' gd cn cs f ccd cl outer A₀ base h₀ L m s Q E B F X N T hk C1 C2 C3 hd hu hret
  have kMark := kstMark
  have hW' := hW
  obtain ⟨d, tn, tc, hh0, hh1, hh2, hh3, hh4, t0, t1, t2, t3, t4, tnt, tb, v0, v1, v4, vs, m1, m2, m3, m4, hi⟩ := hW'
  refine wpAny_call ?_
  k_dflt k_enter
  k_with "my call" => ((try k_fold); refine' Does.use (neq_does w _ a b st st' hW hV o o') ?k1 ?k2 ?k3 ?k4 ?k5 ?kK ?c1 ?c2 ?c3 ?kd ?ku ?_; (case k1 => k_asm); (case k2 => k_asm); (case k3 => k_asm); (case k4 => k_asm); (case k5 => k_asm); (case kK => first | exact rfl | assumption); (case c1 => first | with_reducible assumption | assumption); (case c2 => first | with_reducible assumption | assumption); (case c3 => first | with_reducible assumption | assumption); (case kd => first | exact room0 (by assumption) (by rfl) | exact room1 (by assumption) (by rfl) | ktr_room); (case ku => first | exact room0 (by assumption) (by rfl) | exact room1 (by assumption) (by rfl) | ktr_units); intro r9 news9 h9 tk9 F9 N9 P9; obtain ⟨l9, ex9, vs9, nn9, q9, e9, o9, m9, r9⟩ := P9; subst e9; subst q9; (try (k_unfold; (try dsimp only))); (try dsimp only); (try k_fold))
  iterate 22 (all_goals try first | (k_unfold; (try dsimp only)) | (k_end; wrow_close) | walk1 | (dsimp only; walk1))
  have hrl := r9.length
  unfold overOf at hret
  rcases List.eq_nil_or_concat (rowsTo st st' (reach st st').toNat) with he | ⟨rs, ⟨x, y, z⟩, he⟩
  · rw [he] at hrl hret
    dsimp only [List.length_nil] at hrl
    iterate 1 (all_goals try first | (k_unfold; (try dsimp only)) | (k_end; wrow_close) | walk1 | (dsimp only; walk1))
    rotate_left
    · exfalso
      omega
    k_steps
    (rename Fr _ _ _ _ => lF; rename News _ _ _ _ => lN)
    exact keep_ret hret lF lN (fun p hp => .tail _ (List.mem_append_right _ hp)) ⟨_, rfl⟩
  · rw [List.concat_eq_append] at he
    rw [he] at hrl r9 hret
    rw [List.getLast?_concat] at hret
    first | ((first | refine ex0_7 (r9.last) ?_ | refine ex1_6 (r9.last) ?_ | refine ex2_5 (r9.last) ?_ | refine ex5_2 (r9.last) ?_); intro us p9 t9 u9 v9 hr9_0 hp9; subst hr9_0) | obtain ⟨us, p9, t9, u9, v9, rfl, hp9⟩ := (r9.last)
    iterate 1 (all_goals try first | (k_unfold; (try dsimp only)) | (k_end; wrow_close) | walk1 | (dsimp only; walk1))
    · exfalso
      rename (_ ++ [_]).length = 0 => hz
      simp at hz
    k_steps
    (rename Fr _ _ _ _ => lF; rename News _ _ _ _ => lN)
    exact keep_ret hret lF lN (fun p hp => .tail _ (List.mem_append_right _ hp)) ⟨_, rfl⟩
example : True := by
  k_with_none
  k_with "k_room" => ktr_room
  k_with "k_mem" => ((fail_if_success (with_reducible_and_instances refine List.mem_cons_of_mem _ ?_)); (with_reducible_and_instances refine List.mem_append_right _ ?_); k_mem)
  k_with "k_mem" => ((fail_if_success (with_reducible_and_instances refine List.mem_cons_of_mem _ ?_)); (with_reducible_and_instances refine List.mem_append_left _ ?_); k_mem)
  k_with "k_mem" => assumption
  k_with "k_all" => first | exact List.forall_mem_nil _ | assumption | (refine' List.forall_mem_cons.mpr ⟨?a, ?b⟩; (case a => k_ne); (case b => k_all))
  k_with "call ref" => k_dflt (k_extra "my call")
  k_with "my tail" => (intro r9 news9 h9 tk9 F9 N9 P9; obtain ⟨e9, t9, q9⟩ := P9; replace e9 := e9.symm; subst e9; subst q9; (try (k_unfold; (try dsimp only))); (try dsimp only); (try k_fold))
  k_with "k_enter" => first | (refine' code_def ?k1 ?k2 ?k3 ?k4 ?k5 ?kA ?kF ?kK ?k6 ?k7 ?k8 ?k9 ?kB ?_ ?c2 ?c3 ?c4 ?c5; (case kA => exact rfl); (case kF => exact rfl); (case kK => first | exact rfl | assumption); (case k1 => k_asm); (case k2 => k_asm); (case k3 => k_asm); (case k4 => k_asm); (case k5 => k_asm); (case k6 => k_is); (case k7 => k_is); (case k8 => k_room); (case k9 => first | exact BindsTo.of_eq rfl | exact binds_K (by k_in) rfl (by k_is) rfl rfl rfl | fail "k_enter: no rule for these arguments"); (case c5 => decide); (case kB => exact locs rfl); (case c2 => exact rfl); (case c3 => exact rfl); (case c4 => exact rfl); k_whole; intro g' L' h' FG' F' N' B' X' T'; (try dsimp only); (try k_lift B'); (refine fr_let F' ?_); clear F'; intro mF F'; (try k_fold)) | (refine' code_defC ?k1 ?k2 ?k3 ?k4 ?k5 ?kA ?kF ?kK ?k6 ?k7 ?k8 ?k9 ?kB ?kD ?_ ?c2 ?c3 ?c4; (case kA => exact rfl); (case kF => exact rfl); (case kK => first | exact rfl | assumption); (case k1 => k_asm); (case k2 => k_asm); (case k3 => k_asm); (case k4 => k_asm); (case k5 => k_asm); (case k6 => k_is); (case k7 => k_is); (case k8 => k_room); (case k9 => first | exact BindsTo.of_eq rfl | exact binds_K (by k_in) rfl (by k_is) rfl rfl rfl | fail "k_enter: no rule for these arguments"); (case kB => exact rfl); (case kD => decide +kernel); (case c2 => exact rfl); (case c3 => exact rfl); (case c4 => exact rfl); k_whole; intro g' L' h' tk' cells' FG' F' N' Y' B' X' T' l1; (try k_lt l1); k_cells Y'; (try simp only [List.cons_append, List.nil_append] at N'); (try dsimp only); (try k_lift B'); (refine fr_let F' ?_); clear F'; intro mF F'; (try k_fold))
  k_with "pyIter ref" => ((rename HaltMark => hM9); refine halt_intro ?_)
  k_with "call builtin:len" => (k_here; (with_reducible show wpAny _ _ (call (Value.builtin "len") [Value.ref _]) _ _ _); k_dflt (refine' my_lenT ?k1 ?k2 ?k3 ?k4 ?_; (case k1 => k_asm); (case k2 => k_mem); (case k3 => assumption); (case k4 => omega); k_whole))
  k_with "subscriptTail Name Name ref int" => (k_here; (with_reducible show wpAny _ _ (subscriptTail _ _ (Value.ref _) (Value.int _ _)) _ _ _); k_dflt (refine' my_itemT ?k1 ?k2 ?k3 ?k4 ?k5 ?k6 ?_ ?k7; (case k1 => k_asm); (case k2 => k_mem); (case k3 => assumption); (case k4 => omega); (case k5 => omega); (case k6 => omega); (case k7 => with_unfolding_all rfl); k_whole); intro t')
  k_with "subscriptTail Name Name ref int" => (k_here; (with_reducible show wpAny _ _ (subscriptTail _ _ (Value.ref _) (Value.int _ _)) _ _ _); k_dflt (refine' my_itemL ?k1 ?k2 ?k3 ?k4 ?k5 ?k6 ?_ ?k7 ?k8; (case k1 => k_asm); (case k2 => k_mem); (case k3 => assumption); (case k4 => omega); (case k5 => omega); (case k6 => omega); (case k7 => with_unfolding_all rfl); (case k8 => intro _; with_unfolding_all rfl); k_whole); intro t')
  k_with "truthy ref" => (k_here; k_dflt (refine' my_truthyL ?k1 ?k2 ?k3 ?k4 ?_ ?_; (case k1 => k_asm); (case k2 => k_mem); (case k3 => assumption); (case k4 => omega)); (all_goals intro hz9))
  k_with "call builtin:len" => (k_here; (with_reducible show wpAny _ _ (call (Value.builtin "len") [Value.ref _]) _ _ _); k_dflt (refine' my_lenL ?k1 ?k2 ?k3 ?k4 ?_; (case k1 => k_asm); (case k2 => k_mem); (case k3 => assumption); (case k4 => omega); k_whole))
  k_with "call ref" => (k_here; k_dflt ((try k_fold); refine Does.use2 (by k_asm) (by k_asm) (by k_asm) (by k_asm) (by k_asm) (by first | exact rfl | assumption) (by first | with_reducible assumption | assumption) (by first | with_reducible assumption | assumption) (by first | with_reducible assumption | assumption) (column_does _ _ _ _ _ _ (by first | assumption | omega)) (by first | exact room0 (by assumption) (by rfl) | exact room1 (by assumption) (by rfl) | ktr_room) (by first | exact room0 (by assumption) (by rfl) | exact room1 (by assumption) (by rfl) | ktr_units) ?_; walk_at "my tail"))
  k_with "call ref" => (k_here; k_dflt ((try k_fold); refine Does.use2 (by k_asm) (by k_asm) (by k_asm) (by k_asm) (by k_asm) (by first | exact rfl | assumption) (by first | with_reducible assumption | assumption) (by first | with_reducible assumption | assumption) (by first | with_reducible assumption | assumption) (longest_does _ _ _ _ (by first | assumption | exact WhiteIn.mono (by assumption) (by intro p9 h9; k_mem)) (by omega)) (by first | exact room0 (by assumption) (by rfl) | exact room1 (by assumption) (by rfl) | ktr_room) (by first | exact room0 (by assumption) (by rfl) | exact room1 (by assumption) (by rfl) | ktr_units) ?_; walk_at "my tail"))
  k_with "call ref" => (k_here; k_dflt ((try k_fold); refine Does.use2 (by k_asm) (by k_asm) (by k_asm) (by k_asm) (by k_asm) (by first | exact rfl | assumption) (by first | with_reducible assumption | assumption) (by first | with_reducible assumption | assumption) (by first | with_reducible assumption | assumption) (indent_does _ _ _ _ (by first | assumption | exact WhiteIn.mono (by assumption) (by intro p9 h9; k_mem)) _ _ (by omega) (by assumption) (by omega) (by omega)) (by first | exact room0 (by assumption) (by rfl) | exact room1 (by assumption) (by rfl) | ktr_room) (by first | exact room0 (by assumption) (by rfl) | exact room1 (by assumption) (by rfl) | ktr_units) ?_; walk_at "my tail"))
  k_with "call ref" => (k_here; k_dflt ((try k_fold); refine Does.use2 (by k_asm) (by k_asm) (by k_asm) (by k_asm) (by k_asm) (by first | exact rfl | assumption) (by first | with_reducible assumption | assumption) (by first | with_reducible assumption | assumption) (by first | with_reducible assumption | assumption) (div2_does _ _ _ _ _ _ _ _ (by omega) (by omega) (by omega) (by omega) (by omega) (by omega)) (by first | exact room0 (by assumption) (by rfl) | exact room1 (by assumption) (by rfl) | ktr_room) (by first | exact room0 (by assumption) (by rfl) | exact room1 (by assumption) (by rfl) | ktr_units) ?_; intro r9 news9 h9 tk9 F9 N9 P9; obtain ⟨D9, t9, u9, q9, e9, l9⟩ := P9; subst e9; subst q9; (try k_lt l9); (try (k_unfold; (try dsimp only))); (try dsimp only); (try k_fold)))
  k_with "call ref" => ((rename StopMark => hM9); refine halt_intro ?_)
  k_with "compareOp Eq ref ref" => (k_here; k_dflt (refine' my_eqNil ?k1 ?k2 ?k3 ?k4 ?k5 ?_ ?_; (case k1 => k_asm); (case k2 => k_mem); (case k3 => k_mem); (case k4 => assumption); (case k5 => ktr_units)); (all_goals intro hz9))
  k_with "subscriptTail Name UnaryOp ref int" => (k_here; (with_reducible show wpAny _ _ (subscriptTail _ _ (Value.ref _) (Value.int _ _)) _ _ _); k_dflt (refine' my_last ?k1 ?k2 ?_ ?k7; (case k1 => k_asm); (case k2 => k_mem); (case k7 => with_unfolding_all rfl); k_whole))
  trivial
end
section
/-- lists of ints of one length in Python's order -/
def lexB (strict : Bool) : List Int → List Int → Bool
  | a :: as, b :: bs => if a = b then lexB strict as bs else decide (a < b)
  | _, _ => !strict
section
open PySem.SeqAt PySem.AutoSeq1 PySem.MeetsSeq PySem.MeetsSeq2 PySem.MeetsSeq3 PySem.Spec
theorem ltL_loop (l b : Addr) (vs us : List Value) (n n2 : Nat) (dd dd2 : Option Addr) (sl sl2 : Array (Option Value)) (k : Nat) :
    ∀ (i : Nat) (ns ms : List Int), vs.length = us.length → vs.length - i = k → IntsAre (vs.drop i) ns → IntsAre (us.drop i) ms → Meets (Builtin.«list.__eq__.loop» ⟨[.ref l, .ref b, rawInt i, rawInt 0], []⟩)
      (fun A R s => s.heap.get? l = some { cls := .type "list", dict := dd, data := .seq vs.toArray n, slots := sl } ∧ s.heap.get? b = some { cls := .type "list", dict := dd2, data := .seq us.toArray n2, slots := sl2 } ∧
        R (.ok (.ret (.bool (lexB true ns ms)))) s) := by
  induction k with
  | zero =>
    intro i ns ms hsz hk hi hj prog w A R s h
    obtain ⟨hp, g, d, tk, os⟩ := s; obtain ⟨hl, hb, h⟩ := h
    wp_walk using wpAny_loadPart' hl, wpAny_loadPart' hb
    have hi1 : vs.toArray[((i : Nat) : Int).toNat]? = none := by simp; omega
    have hi2 : us.toArray[((i : Nat) : Int).toNat]? = none := by simp; omega
    have hd : vs.drop i = [] := by simp; omega
    rw [hd] at hi
    cases hi
    rw [hi1, hi2]
    wp_walk using wpAny_loadPart' hl, wpAny_loadPart' hb
    show R (.ok (.ret (.bool (decide (vs.toArray.size < us.toArray.size))))) _
    have e : decide (vs.toArray.size < us.toArray.size) = lexB true [] ms := by
      unfold lexB; simp [hsz]
    rw [e]
    exact h
  | succ k ih =>
    intro i ns ms hsz hk hi hj prog w A R s h
    obtain ⟨hp, g, d, tk, os⟩ := s; obtain ⟨hl, hb, h⟩ := h
    wp_walk using wpAny_loadPart' hl, wpAny_loadPart' hb
    have hlt : i < vs.length := by omega
    have hlt2 : i < us.length := by omega
    rw [List.drop_eq_getElem_cons hlt] at hi
    rw [List.drop_eq_getElem_cons hlt2] at hj
    obtain ⟨x, hx⟩ : ∃ x, vs[i] = x := ⟨_, rfl⟩
    obtain ⟨y, hy⟩ : ∃ y, us[i] = y := ⟨_, rfl⟩
    rw [hx] at hi
    rw [hy] at hj
    have hi1 : vs.toArray[((i : Nat) : Int).toNat]? = some x := by simp [hlt, hx]
    have hi2 : us.toArray[((i : Nat) : Int).toNat]? = some y := by simp [hlt2, hy]
    have hc : ((i : Int) + 1) = ((i + 1 : Nat) : Int) := by push_cast; rfl
    cases hi with
    | cons a t ri =>
    cases hj with
    | cons c u rj =>
    rw [hi1, hi2]
    refine wpAny_bind (EqAt.int_int a t c u prog w _ _ ?_)
    by_cases e : a = c
    · have e' : (a == c) = true := by simpa using e
      rw [e']
      unfold lexB at h
      rw [if_pos e] at h
      wp_walk
      rw [hc]
      exact ⟨plainId_quiet plain_eq_loop _, codeAny_builtin entry_eq_loop (by
        rw [Around.under_plainId plain_eq_loop _]
        exact ih (i + 1) _ _ hsz (by omega) ri rj prog w A R _ ⟨hl, hb, h⟩)⟩
    · have e' : (a == c) = false := by simpa using e
      rw [e']
      unfold lexB at h
      rw [if_neg e] at h
      wp_walk using wpAny_loadPart' hl, wpAny_loadPart' hb
      rw [hi1, hi2]
      refine wpAny_bind ?_
      have e2 : decide (a < c) = decide (a < c) := by
        have : a < c ↔ a < c := by omega
        simp [this]
      rw [e2] at h
      show wpAny _ _ (compareOp .Lt (.int a t) (.int c u)) _ _ _
      refine lt_int ?_
      exact wpAny_pure h
theorem ltL_list (l b : Addr) (vs us : List Value) (n n2 : Nat) (dd dd2 : Option Addr) (sl sl2 : Array (Option Value)) (ns ms : List Int) (hsz : vs.length = us.length) (hi : IntsAre vs ns) (hj : IntsAre us ms) :
    Meets (Builtin.«list.__lt__» ⟨[.ref l, .ref b], []⟩)
      (fun A R s => s.heap.get? l = some { cls := .type "list", dict := dd, data := .seq vs.toArray n, slots := sl } ∧ s.heap.get? b = some { cls := .type "list", dict := dd2, data := .seq us.toArray n2, slots := sl2 } ∧
        R (.ok (.ret (.bool (lexB true ns ms)))) s) := by
  intro prog w A R s h
  obtain ⟨hp, g, d, tk, os⟩ := s; obtain ⟨hl, hb, h⟩ := h
  have f3 := AutoSeq1.sub_list_list
  wp_walk using wpAny_loadPart' hl, wpAny_loadPart' hb
  exact ⟨plainId_quiet plain_eq_loop _, codeAny_builtin entry_eq_loop (by
    rw [Around.under_plainId plain_eq_loop _]
    exact ltL_loop l b vs us n n2 dd dd2 sl sl2 _ 0 ns ms hsz rfl hi hj prog w A R _ ⟨hl, hb, h⟩)⟩
theorem my_ltLs {prog : Program} {w : World} {A : Around} {E : Value → Shared → Prop} {s : Shared} {Q : Value → Shared → Prop} {l b : Addr} {vs us : List Value} {n n2 : Nat} {ns ms : List Int} {h₀ : Heap} {L : Addr} {news : List (Addr × Obj)}
    (N : News h₀ L s.heap news) (hl : (l, W.listOf vs.toArray n) ∈ news) (hb : (b, W.listOf us.toArray n2) ∈ news) (hi : IntsAre vs ns) (hj : IntsAre us ms) (hsz : ns.length = ms.length) (hu : A.units < cLine)
    (h : Q (.bool (lexB true ns ms)) s) : wpAny (model prog w) A (compareOp .Lt (.ref l) (.ref b)) Q E s := by
  refine cmp_ofLt (richCompare_meets_room (op := .Lt) ⟨_, (N _ hl).1, rfl⟩ ⟨_, (N _ hb).1, rfl⟩ F.slot_list_lt F.entry_list_lt (F.args_list_lt_2 _ _) (ltL_list l b vs us n n2 none none #[] #[] ns ms (by rw [hi.length, hj.length]; exact hsz) hi hj) ⟨(N _ hl).1, (N _ hb).1, ?_⟩ hu)
  exact ⟨(fun x => nomatch x), h⟩
theorem leL_loop (l b : Addr) (vs us : List Value) (n n2 : Nat) (dd dd2 : Option Addr) (sl sl2 : Array (Option Value)) (k : Nat) :
    ∀ (i : Nat) (ns ms : List Int), vs.length = us.length → vs.length - i = k → IntsAre (vs.drop i) ns → IntsAre (us.drop i) ms → Meets (Builtin.«list.__eq__.loop» ⟨[.ref l, .ref b, rawInt i, rawInt 1], []⟩)
      (fun A R s => s.heap.get? l = some { cls := .type "list", dict := dd, data := .seq vs.toArray n, slots := sl } ∧ s.heap.get? b = some { cls := .type "list", dict := dd2, data := .seq us.toArray n2, slots := sl2 } ∧
        R (.ok (.ret (.bool (lexB false ns ms)))) s) := by
  induction k with
  | zero =>
    intro i ns ms hsz hk hi hj prog w A R s h
    obtain ⟨hp, g, d, tk, os⟩ := s; obtain ⟨hl, hb, h⟩ := h
    wp_walk using wpAny_loadPart' hl, wpAny_loadPart' hb
    have hi1 : vs.toArray[((i : Nat) : Int).toNat]? = none := by simp; omega
    have hi2 : us.toArray[((i : Nat) : Int).toNat]? = none := by simp; omega
    have hd : vs.drop i = [] := by simp; omega
    rw [hd] at hi
    cases hi
    rw [hi1, hi2]
    wp_walk using wpAny_loadPart' hl, wpAny_loadPart' hb
    show R (.ok (.ret (.bool (decide (vs.toArray.size ≤ us.toArray.size))))) _
    have e : decide (vs.toArray.size ≤ us.toArray.size) = lexB false [] ms := by
      unfold lexB; simp [hsz]
    rw [e]
    exact h
  | succ k ih =>
    intro i ns ms hsz hk hi hj prog w A R s h
    obtain ⟨hp, g, d, tk, os⟩ := s; obtain ⟨hl, hb, h⟩ := h
    wp_walk using wpAny_loadPart' hl, wpAny_loadPart' hb
    have hlt : i < vs.length := by omega
    have hlt2 : i < us.length := by omega
    rw [List.drop_eq_getElem_cons hlt] at hi
    rw [List.drop_eq_getElem_cons hlt2] at hj
    obtain ⟨x, hx⟩ : ∃ x, vs[i] = x := ⟨_, rfl⟩
    obtain ⟨y, hy⟩ : ∃ y, us[i] = y := ⟨_, rfl⟩
    rw [hx] at hi
    rw [hy] at hj
    have hi1 : vs.toArray[((i : Nat) : Int).toNat]? = some x := by simp [hlt, hx]
    have hi2 : us.toArray[((i : Nat) : Int).toNat]? = some y := by simp [hlt2, hy]
    have hc : ((i : Int) + 1) = ((i + 1 : Nat) : Int) := by push_cast; rfl
    cases hi with
    | cons a t ri =>
    cases hj with
    | cons c u rj =>
    rw [hi1, hi2]
    refine wpAny_bind (EqAt.int_int a t c u prog w _ _ ?_)
    by_cases e : a = c
    · have e' : (a == c) = true := by simpa using e
      rw [e']
      unfold lexB at h
      rw [if_pos e] at h
      wp_walk
      rw [hc]
      exact ⟨plainId_quiet plain_eq_loop _, codeAny_builtin entry_eq_loop (by
        rw [Around.under_plainId plain_eq_loop _]
        exact ih (i + 1) _ _ hsz (by omega) ri rj prog w A R _ ⟨hl, hb, h⟩)⟩
    · have e' : (a == c) = false := by simpa using e
      rw [e']
      unfold lexB at h
      rw [if_neg e] at h
      wp_walk using wpAny_loadPart' hl, wpAny_loadPart' hb
      rw [hi1, hi2]
      refine wpAny_bind ?_
      have e2 : decide (a < c) = decide (a ≤ c) := by
        have : a < c ↔ a ≤ c := by omega
        simp [this]
      rw [e2] at h
      show wpAny _ _ (compareOp .LtE (.int a t) (.int c u)) _ _ _
      refine le_int ?_
      exact wpAny_pure h
theorem leL_list (l b : Addr) (vs us : List Value) (n n2 : Nat) (dd dd2 : Option Addr) (sl sl2 : Array (Option Value)) (ns ms : List Int) (hsz : vs.length = us.length) (hi : IntsAre vs ns) (hj : IntsAre us ms) :
    Meets (Builtin.«list.__le__» ⟨[.ref l, .ref b], []⟩)
      (fun A R s => s.heap.get? l = some { cls := .type "list", dict := dd, data := .seq vs.toArray n, slots := sl } ∧ s.heap.get? b = some { cls := .type "list", dict := dd2, data := .seq us.toArray n2, slots := sl2 } ∧
        R (.ok (.ret (.bool (lexB false ns ms)))) s) := by
  intro prog w A R s h
  obtain ⟨hp, g, d, tk, os⟩ := s; obtain ⟨hl, hb, h⟩ := h
  have f3 := AutoSeq1.sub_list_list
  wp_walk using wpAny_loadPart' hl, wpAny_loadPart' hb
  exact ⟨plainId_quiet plain_eq_loop _, codeAny_builtin entry_eq_loop (by
    rw [Around.under_plainId plain_eq_loop _]
    exact leL_loop l b vs us n n2 dd dd2 sl sl2 _ 0 ns ms hsz rfl hi hj prog w A R _ ⟨hl, hb, h⟩)⟩
theorem my_leLs {prog : Program} {w : World} {A : Around} {E : Value → Shared → Prop} {s : Shared} {Q : Value → Shared → Prop} {l b : Addr} {vs us : List Value} {n n2 : Nat} {ns ms : List Int} {h₀ : Heap} {L : Addr} {news : List (Addr × Obj)}
    (N : News h₀ L s.heap news) (hl : (l, W.listOf vs.toArray n) ∈ news) (hb : (b, W.listOf us.toArray n2) ∈ news) (hi : IntsAre vs ns) (hj : IntsAre us ms) (hsz : ns.length = ms.length) (hu : A.units < cLine)
    (h : Q (.bool (lexB false ns ms)) s) : wpAny (model prog w) A (compareOp .LtE (.ref l) (.ref b)) Q E s := by
  refine cmp_ofLtE (richCompare_meets_room (op := .LtE) ⟨_, (N _ hl).1, rfl⟩ ⟨_, (N _ hb).1, rfl⟩ F.slot_list_le F.entry_list_le (F.args_list_le_2 _ _) (leL_list l b vs us n n2 none none #[] #[] ns ms (by rw [hi.length, hj.length]; exact hsz) hi hj) ⟨(N _ hl).1, (N _ hb).1, ?_⟩ hu)
  exact ⟨(fun x => nomatch x), h⟩
end
end
section
section
open PyProof.Rows.LCg
variable {prog : Program} {w : World} {A : Around} {E : Value → Shared → Prop} {s : Shared} {h₀ : Heap} {L : Addr} {m : Str → Option Value} {env : Env}
/-- what stands beside a comprehension's own objects -/
def Off4 (I C D K : Addr) (nx : List (Addr × Obj)) : Prop := ∀ p ∈ nx, p.1 ≠ I ∧ p.1 ≠ C ∧ p.1 ≠ D ∧ p.1 ≠ K
theorem cell_env {scope : Scope} {cl : List (Str × Addr)} {x : Str} {Q : Env → Shared → Prop} (hnm : scope.names = [(Str.ofString ".0", .local), (x, .cell)])
    (h : Q { (newEnv scope s.heap.objs.size env.globals ((x, s.heap.objs.size + 1) :: cl) env.qual none .none (some env) builtinsNs) with scope := scope } { s with heap := (s.heap.push { cls := .type "dict", data := .dict #[] }).push { cls := .type "cell", data := .cell none } }) :
    wpAny (model prog w) A (newFunctionEnv scope env.globals cl [] env.qual none .none (some env)) Q E s := by
  simp only [newFunctionEnv, Option.isSome_some, if_true]
  refine wpAny_bind (wpAny_alloc ?_)
  rw [hnm]
  refine wpAny_bind ?_
  simp only [List.forIn_cons, List.forIn_nil]
  refine wpAny_bind (wpAny_pure ?_)
  refine wpAny_bind (wpAny_bind (wpAny_alloc ?_))
  refine wpAny_pure (wpAny_pure ?_)
  refine wpAny_bind ?_
  refine wpAny_pure (wpAny_pure ?_)
  have e : (s.heap.push ({ cls := .type "dict", data := .dict #[] } : Obj)).objs.size = s.heap.objs.size + 1 := Heap.size_push ..
  simp only [e]
  exact h
theorem comp_block {elt iter : PySem.Expr} {x : Str} {px : Pos} {scope : Scope} {cl : List (Str × Addr)} {pos : Pos} {s₂ : Shared} {I ax : Addr} {its : Array Value} {news : List (Addr × Obj)}
    {J : Nat → List Value → List (Addr × Obj) → Prop} {RR : Value → Addr → Result → Shared → Prop}
    (hh : A.handled = none) (hsz : its.size ≤ sizeLine) (hnm : scope.names = [(Str.ofString ".0", .local), (x, .cell)]) (hx0 : (x == (Str.ofString ".0")) = false) (hkind : scope.kind = .function)
    (hax : ax < I) (hst : s₂.heap.IsListIter I ax 0) (hl : s₂.heap.IsList ax its)
    (F : Fr h₀ L s₂.heap m) (N : News h₀ L s₂.heap news) (hIL : L ≠ I) (hI₀ : h₀.get? I = none) (off : ∀ p ∈ news, p.1 ≠ I) (hj : J 0 [] news) (hS : ∀ i ys nx, J i ys nx → SrcAt h₀ ax its nx)
    (turn : ∀ i v ys nx oI C oC D K oK h tk (E' : Value → Shared → Prop), its[i]? = some v → J i ys nx → oK.data = .cell (some v) → Fr h₀ L h m → News h₀ L h ((I, oI) :: (C, oC) :: (D, lst ys) :: (K, oK) :: nx) → Off4 I C D K nx → (∀ p ∈ news, @LT.lt Nat _ p.1 D) →
      wpAny (model prog w) A (eval elt (compEnvC scope ((x, K) :: cl) C env)) (fun y s' => ∃ h' tk' nx', s' = { s₂ with heap := h', toks := tk' } ∧ Fr h₀ L h' m ∧ News h₀ L h' ((I, oI) :: (C, oC) :: (D, lst ys) :: (K, oK) :: nx') ∧ Off4 I C D K nx' ∧ J (i + 1) (ys ++ [y]) nx') E' { s₂ with heap := h, toks := tk })
    (hRR : ∀ D C h tk m' ys nx, Fr h₀ L h m → News h₀ L h ((D, lst ys) :: nx) → (∀ p ∈ nx, p.1 ≠ D) → h.Ns C m' → h₀.get? C = none → C ≠ L → C ≠ D → (∀ p ∈ nx, p.1 ≠ C) → J its.size ys nx → RR (.ref D) C (.ok .next) { s₂ with heap := h, toks := tk }) :
    wpAny (model prog w) A (newList []) (fun acc s₃ => wpAny (model prog w) A (newFunctionEnv scope env.globals cl [] env.qual none .none (some env)) (fun cenv s₄ =>
      codeAny (model prog w) A (.compStart (.ListComp elt [⟨.Name x px, iter, [], 0⟩] scope pos) 0 (.ref I) acc { cenv with scope := relabel scope env }) (RR acc cenv.locals) s₄) E s₃) E s₂ := by
  refine wpAny_newObj_type (cell_env hnm ?_)
  dsimp only
  generalize hH2 : s₂.heap.push { cls := .type "list", dict := none, data := .seq ([] : List Value).toArray } = H2
  have hC : H2.objs.size = s₂.heap.objs.size + 1 := by rw [← hH2, Heap.size_push]
  generalize hH3 : H2.push { cls := .type "dict", data := .dict #[] } = H3
  have hK : H3.objs.size = H2.objs.size + 1 := by rw [← hH3, Heap.size_push]
  generalize hH4 : H3.push { cls := .type "cell", data := .cell none } = h₁
  have up2 : ∀ b o, s₂.heap.get? b = some o → H2.get? b = some o := fun b o e => hH2 ▸ Heap.get?_push_of_some _ e
  have up3 : ∀ b o, H2.get? b = some o → H3.get? b = some o := fun b o e => hH3 ▸ Heap.get?_push_of_some _ e
  have up4 : ∀ b o, H3.get? b = some o → h₁.get? b = some o := fun b o e => hH4 ▸ Heap.get?_push_of_some _ e
  have old : ∀ b o, s₂.heap.get? b = some o → h₁.get? b = some o := fun b o e => up4 b o (up3 b o (up2 b o e))
  have hacc : h₁.get? s₂.heap.objs.size = some (lst []) := up4 _ _ (up3 _ _ (hH2 ▸ Heap.get?_push_size _ rfl))
  have hnC : H3.Ns H2.objs.size (fun _ => none) := by rw [← hH3]; exact Heap.Ns.new H2 (.type "dict")
  have hns₁ : h₁.Ns H2.objs.size (fun _ => none) := hnC.keeps up4
  have hcell₁ : h₁.IsCell (H2.objs.size + 1) none := ⟨_, by rw [← hK, ← hH4]; exact Heap.get?_push_size _ rfl, rfl⟩
  generalize hCe : H2.objs.size = C at *
  generalize hDe : s₂.heap.objs.size = D at *
  have fresh : ∀ a, D ≤ a → s₂.heap.get? a = none := fun a ha => by
    cases e : s₂.heap.get? a with
    | none => rfl
    | some o' => exact absurd (Heap.lt_size e) (by rw [hDe]; exact Nat.not_lt.mpr ha)
  have fresh₀ : ∀ a, D ≤ a → h₀.get? a = none := fun a ha => by
    cases e : h₀.get? a with
    | none => rfl
    | some o' => have := F.keep a o' e; rw [fresh a ha] at this; cases this
  have below : ∀ b o, s₂.heap.get? b = some o → @LT.lt Nat _ b D := fun b o e => by have := Heap.lt_size e; rw [hDe] at this; exact this
  have hD₀ : h₀.get? D = none := fresh₀ _ (Nat.le_refl _)
  have hC₀ : h₀.get? C = none := fresh₀ _ (by rw [hC]; exact Nat.le_succ _)
  have hK₀ : h₀.get? (C + 1) = none := fresh₀ _ (by rw [hC]; exact Nat.le_trans (Nat.le_succ _) (Nat.le_succ _))
  have hLlt : @LT.lt Nat _ L D := by have := F.ns.lt; rw [hDe] at this; exact this
  have hIlt : @LT.lt Nat _ I D := by obtain ⟨o, e, _⟩ := hst; exact below _ _ e
  have hNlt : ∀ p ∈ news, @LT.lt Nat _ p.1 D := fun p hp => below _ _ (N p hp).1
  have hDC : @LT.lt Nat _ D C := by rw [hC]; exact Nat.lt_succ_self _
  have hCK : @LT.lt Nat _ C (C + 1) := Nat.lt_succ_self _
  have hDK : @LT.lt Nat _ D (C + 1) := Nat.lt_trans hDC hCK
  have hIC : I ≠ C := Nat.ne_of_lt (Nat.lt_trans hIlt hDC)
  have hID : I ≠ D := Nat.ne_of_lt hIlt
  have hIK : I ≠ C + 1 := Nat.ne_of_lt (Nat.lt_trans hIlt hDK)
  have hDCn : D ≠ C := Nat.ne_of_lt hDC
  have hDKn : D ≠ C + 1 := Nat.ne_of_lt hDK
  have hCKn : C ≠ C + 1 := Nat.ne_of_lt hCK
  have hCL : C ≠ L := Nat.ne_of_gt (Nat.lt_trans hLlt hDC)
  have hDL : D ≠ L := Nat.ne_of_gt hLlt
  have hKL : C + 1 ≠ L := Nat.ne_of_gt (Nat.lt_trans hLlt hDK)
  have haxI : ax ≠ I := Nat.ne_of_lt hax
  have W := Walks.list (prog := prog) (w := w) hh I ax haxI its
  have hst₁ : h₁.IsListIter I ax 0 ∧ h₁.IsList ax its := ⟨by obtain ⟨o, e, r⟩ := hst; exact ⟨o, old _ _ e, r⟩, by obtain ⟨o, e, r⟩ := hl; exact ⟨o, old _ _ e, r⟩⟩
  have off₀ : Off4 I C D (C + 1) news := fun p hp => ⟨off p hp, Nat.ne_of_lt (Nat.lt_trans (hNlt p hp) hDC), Nat.ne_of_lt (hNlt p hp), Nat.ne_of_lt (Nat.lt_trans (hNlt p hp) hDK)⟩
  have kx : (compEnvC scope ((x, C + 1) :: cl) C env).kindOf x = some .cell := by
    show (relabel scope env).names.lookup x = some .cell
    unfold relabel
    rw [hnm]
    simp only [List.map_cons, List.map_nil]
    have hx1 : (x == (Str.ofString ".0")) = false := hx0
    simp [List.lookup, hx1]
  have loop : ∀ s₃ : Shared, s₃ = { s₂ with heap := h₁ } →
      codeAny (model prog w) A (.compLoop (.ListComp elt [⟨.Name x px, iter, [], 0⟩] scope pos) 0 (.ref I) (.ref D) (compEnvC scope ((x, C + 1) :: cl) C env)) (RR (.ref D) C) s₃ := by
    rintro s₃ rfl
    refine codeAny_compLoop_tests
      (fun k s' => ∃ h' tk i ys nx v₀ oK, s' = { s₂ with heap := h', toks := tk } ∧ i ≤ its.size ∧ k = its.size + 1 - i ∧ ys.length = i ∧ (h'.IsListIter I ax i ∧ h'.IsList ax its) ∧ Fr h₀ L h' m ∧ h'.Ns C (fun _ => none) ∧ h'.get? (C + 1) = some oK ∧ oK.data = .cell v₀ ∧
        News h₀ L h' ((D, lst ys) :: nx) ∧ Off4 I C D (C + 1) nx ∧ J i ys nx) ?_ (its.size + 1)
      (by
        first | ((first | refine ex0_3 (hcell₁) ?_ | refine ex1_2 (hcell₁) ?_ | refine ex2_1 (hcell₁) ?_); (try clear hcell₁); intro oK e1 e2) | obtain ⟨oK, e1, e2⟩ := (hcell₁)
        refine ⟨h₁, _, 0, [], news, none, oK, rfl, Nat.zero_le _, rfl, rfl, hst₁, F.keeps old, hns₁, e1, e2, fun p hp => ?_, off₀, hj⟩
        rcases List.mem_cons.mp hp with rfl | hp
        · exact ⟨hacc, hDL, hD₀⟩
        · exact ⟨old _ _ (N p hp).1, (N p hp).2⟩)
    intro k s' hp9_2
    first | ((first | refine ex7_12 (hp9_2) ?_); (try clear hp9_2); intro h' tk i ys nx v₀ oK hr9_0 hi hr9_1 hyl hst' F' hn' hK1 hK2 N' off' hJ; subst hr9_0; subst hr9_1) | obtain ⟨h', tk, i, ys, nx, v₀, oK, rfl, hi, rfl, hyl, hst', F', hn', hK1, hK2, N', off', hJ⟩ := (hp9_2)
    by_cases hlt : i < its.size
    · refine W.item i _ _ _ hlt hst' fun v h₂ tk₂ hPv hst₂ hk₂ => ?_
      have k2 : ∀ b o, b ≠ I → h'.get? b = some o → h₂.get? b = some o := fun b o hb e => hk₂ b o (by simpa using hb) e
      refine wpAny_assign_Name (wpAny_storeName_cell (c := C + 1) (v₀ := v₀) hkind kx (by simp [compEnvC]) ⟨oK, k2 _ _ (Ne.symm hIK) hK1, hK2⟩ (fun h₃ hc₃ hs₃ => ?_))
      refine wpAny_tests_nil ?_
      simp only [if_true]
      first | ((first | refine ex0_3 (hc₃) ?_ | refine ex1_2 (hc₃) ?_ | refine ex2_1 (hc₃) ?_); (try clear hc₃); intro oK' hK1' hK2') | obtain ⟨oK', hK1', hK2'⟩ := (hc₃)
      have k3 : ∀ b o, b ≠ C + 1 → h₂.get? b = some o → h₃.get? b = some o := fun b o hb e => hs₃.extBut b o hb e
      have k23 : ∀ b o, b ≠ I → b ≠ C + 1 → h'.get? b = some o → h₃.get? b = some o := fun b o h1 h2 e => k3 b o h2 (k2 b o h1 e)
      have hst₃ : h₃.IsListIter I ax (i + 1) ∧ h₃.IsList ax its := by
        refine ⟨by obtain ⟨o, e, r⟩ := hst₂.1; exact ⟨o, k3 _ _ hIK e, r⟩, ?_⟩
        first | ((first | refine ex0_3 (hst₂.2) ?_ | refine ex1_2 (hst₂.2) ?_ | refine ex2_1 (hst₂.2) ?_); intro o e r) | obtain ⟨o, e, r⟩ := (hst₂.2)
        exact ⟨o, k3 _ _ (Nat.ne_of_lt (Nat.lt_trans hax (Nat.lt_trans hIlt hDK))) e, r⟩
      first | ((first | refine ex0_2 (by obtain ⟨o, e, _⟩ := hst₃.1; exact ⟨o, e⟩ : ∃ oI, h₃.get? I = some oI) ?_ | refine ex1_1 (by obtain ⟨o, e, _⟩ := hst₃.1; exact ⟨o, e⟩ : ∃ oI, h₃.get? I = some oI) ?_); intro oI heI) | obtain ⟨oI, heI⟩ := (by obtain ⟨o, e, _⟩ := hst₃.1; exact ⟨o, e⟩ : ∃ oI, h₃.get? I = some oI)
      have hn₃ : h₃.Ns C (fun _ => none) := hn'.at' fun o e => k23 _ o (Ne.symm hIC) hCKn e
      first | ((first | refine ex0_3 (ns_obj hn₃) ?_ | refine ex1_2 (ns_obj hn₃) ?_ | refine ex2_1 (ns_obj hn₃) ?_); intro oC heC hoC) | obtain ⟨oC, heC, hoC⟩ := (ns_obj hn₃)
      have F₃ : Fr h₀ L h₃ m := ⟨F'.ns.at' fun o e => k23 L o hIL (Ne.symm hKL) e, fun b o e => k23 b o (fun q => by rw [q, hI₀] at e; cases e) (fun q => by rw [q, hK₀] at e; cases e) (F'.keep b o e), F'.above⟩
      have N₃ : News h₀ L h₃ ((I, oI) :: (C, oC) :: (D, lst ys) :: (C + 1, oK') :: nx) := fun p hp => by
        rcases List.mem_cons.mp hp with rfl | hp
        · exact ⟨heI, Ne.symm hIL, hI₀⟩
        rcases List.mem_cons.mp hp with rfl | hp
        · exact ⟨heC, hCL, hC₀⟩
        rcases List.mem_cons.mp hp with rfl | hp
        · have z := N' (D, lst ys) (.head _)
          exact ⟨k23 _ _ (Ne.symm hID) hDKn z.1, z.2⟩
        rcases List.mem_cons.mp hp with rfl | hp
        · exact ⟨hK1', hKL, hK₀⟩
        · have z := N' p (.tail _ hp)
          have o4 := off' p hp
          exact ⟨k23 _ _ o4.1 o4.2.2.2 z.1, z.2⟩
      refine wpAny_mono (turn i v ys nx oI C oC D (C + 1) oK' h₃ _ _ hPv hJ hK2' F₃ N₃ off' hNlt) (fun y s₄ h₄ => ?_) fun _ _ e => e
      first | ((first | refine ex1_7 (h₄) ?_ | refine ex3_5 (h₄) ?_ | refine ex7_1 (h₄) ?_); (try clear h₄); intro h₄ tk₄ nx₄ hr9_0 F₄ N₄ off₄ hJ₄; subst hr9_0) | obtain ⟨h₄, tk₄, nx₄, rfl, F₄, N₄, off₄, hJ₄⟩ := (h₄)
      have zI := (N₄ (I, oI) (.head _)).1
      have zC := (N₄ (C, oC) (.tail _ (.head _))).1
      have zD := (N₄ (D, lst ys) (.tail _ (.tail _ (.head _)))).1
      have zK := (N₄ (C + 1, oK') (.tail _ (.tail _ (.tail _ (.head _))))).1
      have N₄' : News h₀ L h₄ nx₄ := fun p hp => N₄ p (.tail _ (.tail _ (.tail _ (.tail _ hp))))
      refine append_at (hsz := by rw [List.size_toArray, hyl]; exact Nat.le_trans hi hsz) zD fun h₅ hs₅ hD₅ => ?_
      have k5 : ∀ b o, b ≠ D → h₄.get? b = some o → h₅.get? b = some o := fun b o hb e => hs₅.extBut b o hb e
      have hS₄ := (hS _ _ _ hJ₄).list F₄.keep N₄'
      refine ⟨its.size + 1 - (i + 1), by omega, h₅, tk₄, i + 1, ys ++ [y], nx₄, some v, oK', rfl, hlt, rfl, by rw [List.length_append, List.length_singleton, hyl], ⟨?_, ?_⟩, F₄.change hs₅ hDL hD₀, ?_, k5 _ _ (Ne.symm hDKn) zK, hK2', fun p hp => ?_, off₄, hJ₄⟩
      · first | ((first | refine ex0_3 (hst₃.1) ?_ | refine ex1_2 (hst₃.1) ?_ | refine ex2_1 (hst₃.1) ?_); intro o e r) | obtain ⟨o, e, r⟩ := (hst₃.1)
        rw [heI] at e
        cases e
        exact ⟨oI, k5 _ _ hID zI, r⟩
      · first | ((first | refine ex0_3 (hS₄) ?_ | refine ex1_2 (hS₄) ?_ | refine ex2_1 (hS₄) ?_); (try clear hS₄); intro o e r) | obtain ⟨o, e, r⟩ := (hS₄)
        exact ⟨o, k5 _ _ (Nat.ne_of_lt (Nat.lt_trans hax hIlt)) e, r⟩
      · exact (hoC.ns zC).at' fun o e => k5 _ o (Ne.symm hDCn) e
      · rcases List.mem_cons.mp hp with rfl | hp
        · exact ⟨hD₅.trans (congrArg some (lst_snoc ys y)), hDL, hD₀⟩
        · exact ⟨k5 _ _ (off₄ p hp).2.2.1 (N₄' p hp).1, (N₄' p hp).2⟩
    · obtain rfl : i = its.size := Nat.le_antisymm hi (Nat.not_lt.mp hlt)
      refine W.done _ _ _ hst' fun h₂ tk₂ hk₂ => ?_
      have k2 : ∀ b o, b ≠ I → h'.get? b = some o → h₂.get? b = some o := fun b o hb e => hk₂ b o (by simpa using hb) e
      refine hRR D C h₂ tk₂ _ ys nx ⟨F'.ns.at' fun o e => k2 L o hIL e, fun b o e => k2 b o (fun q => by rw [q, hI₀] at e; cases e) (F'.keep b o e), F'.above⟩ (fun p hp => ?_) (fun p hp => (off' p hp).2.2.1) (hn'.at' fun o e => k2 _ o (Ne.symm hIC) e) hC₀ hCL (Ne.symm hDCn) (fun p hp => (off' p hp).2.1) hJ
      have z := N' p hp
      refine ⟨k2 _ _ ?_ z.1, z.2⟩
      rcases List.mem_cons.mp hp with rfl | hp
      · exact Ne.symm hID
      · exact (off' p hp).1
  exact codeAny_compStart_list (loop _ rfl) (W.self 0 _ _ _ hst₁ (loop _ rfl))
/-- a list comprehension whose own target is a cell, over a list -/
theorem comp_cell {elt iter : PySem.Expr} {x : Str} {px : Pos} {scope : Scope} {cl : List (Str × Addr)} {pos : Pos} {Q : Value → Shared → Prop} (_ : Fr h₀ L s.heap m)
    (hclos : closureFor scope env = pure cl) (hnm : scope.names = [(Str.ofString ".0", .local), (x, .cell)]) (hx0 : (x == (Str.ofString ".0")) = false) (hkind : scope.kind = .function)
    (h : wpAny (model prog w) A (eval iter env) (fun xv s₁ => ∃ ax its news, xv = .ref ax ∧ A.handled = none ∧ Fr h₀ L s₁.heap m ∧ News h₀ L s₁.heap news ∧ its.size ≤ sizeLine ∧ ∃ J : Nat → List Value → List (Addr × Obj) → Prop, J 0 [] news ∧ (∀ i ys nx, J i ys nx → SrcAt h₀ ax its nx) ∧
      (∀ i v ys nx I oI C oC D K oK h tk (E' : Value → Shared → Prop), its[i]? = some v → J i ys nx → oK.data = .cell (some v) → Fr h₀ L h m → News h₀ L h ((I, oI) :: (C, oC) :: (D, lst ys) :: (K, oK) :: nx) → Off4 I C D K nx → (∀ p ∈ news, @LT.lt Nat _ p.1 D) →
        wpAny (model prog w) A (eval elt (compEnvC scope ((x, K) :: cl) C env)) (fun y s' => ∃ h' tk' nx', s' = { s₁ with heap := h', toks := tk' } ∧ Fr h₀ L h' m ∧ News h₀ L h' ((I, oI) :: (C, oC) :: (D, lst ys) :: (K, oK) :: nx') ∧ Off4 I C D K nx' ∧ J (i + 1) (ys ++ [y]) nx') E' { s₁ with heap := h, toks := tk }) ∧
      (∀ D h tk ys nx, Fr h₀ L h m → News h₀ L h ((D, lst ys) :: nx) → (∀ p ∈ nx, p.1 ≠ D) → J its.size ys nx → Q (.ref D) { s₁ with heap := h, toks := tk })) E s)
    (hs : ∀ x, foldedSetIterable iter env x = pure x := by intro _; rfl) :
    wpAny (model prog w) A (eval (.ListComp elt [⟨.Name x px, iter, [], 0⟩] scope pos) env) Q E s := by
  rw [eval_ListComp]
  refine wpAny_comprehension_free (use := none) rfl hs hclos hkind (fun y hy hloc => ?_) (wpAny_mono h (fun xv s₁ h₁ => ?_) fun _ _ e => e)
  · rw [hnm] at hy ⊢
    rcases List.mem_cons.mp hy with rfl | hy
    · rfl
    · rw [List.mem_singleton.mp hy] at hloc
      cases hloc
  first | ((first | refine ex0_9 (h₁) ?_ | refine ex3_6 (h₁) ?_ | refine ex4_5 (h₁) ?_ | refine ex6_3 (h₁) ?_); (try clear h₁); intro ax its news hr9_0 hh F N hsz h1; subst hr9_0) | obtain ⟨ax, its, news, rfl, hh, F, N, hsz, h1⟩ := (h₁)
  first | ((first | refine ex0_5 (h1) ?_ | refine ex1_4 (h1) ?_ | refine ex2_3 (h1) ?_ | refine ex3_2 (h1) ?_); (try clear h1); intro J hj hS turn done) | obtain ⟨J, hj, hS, turn, done⟩ := (h1)
  have hl := (hS 0 [] news hj).list F.keep N
  have hlt : ax < s₁.heap.objs.size := by obtain ⟨_, e, _⟩ := hl; exact Heap.lt_size e
  refine wpAny_pyIter_list hl ?_
  have up : ∀ b o, s₁.heap.get? b = some o → (s₁.heap.push { cls := .type "list_iterator", data := .fields #[.ref ax, .int 0 0] }).get? b = some o := fun b o e => Heap.get?_push_of_some _ e
  refine comp_block (J := J) hh hsz hnm hx0 hkind hlt ⟨_, Heap.get?_push_size _ rfl, rfl, rfl⟩ (hl.push _) (F.keeps up) (N.grown up) (Nat.ne_of_lt F.ns.lt) (next_is_new F) (fun p hp => Nat.ne_of_lt (Heap.lt_size (N p hp).1)) hj hS
    (fun i v ys nx oI C oC D K oK h tk E' hv hJ hK F₁ N₁ o4 hb => turn i v ys nx _ oI C oC D K oK h tk E' hv hJ hK F₁ N₁ o4 hb) ?_
  intro D C h tk m' ys nx F' N' o1 hn hC₀ hCL hCD offC hJ
  refine ⟨m', hn, fun h'' hs'' => done D h'' tk ys nx (F'.change hs'' hCL hC₀) (fun p hp => ?_) o1 hJ⟩
  refine ⟨hs''.extBut _ _ ?_ (N' p hp).1, (N' p hp).2⟩
  rcases List.mem_cons.mp hp with rfl | hp
  · exact Ne.symm hCD
  · exact offC p hp
/-- a list comprehension's turns by what holds between them, the ledger's addresses open -/
theorem my_turns {elt : PySem.Expr} {x : Str} {scope : Scope} {cl : List (Str × Addr)} {S : List (Addr × Obj) → Prop} {P : Nat → Value → Prop} {Fin : List Value → List (Addr × Obj) → Prop} {n : Nat} {news : List (Addr × Obj)}
    (J : Nat → List Value → List (Addr × Obj) → Prop) (hj : J 0 [] news)
    (turn : ∀ i v ys nx I oI C oC D m₂ h tk (E' : Value → Shared → Prop), i < n → P i v → J i ys nx → NsObj oC m₂ → m₂ x = some v → Fr h₀ L h m → News h₀ L h ((I, oI) :: (C, oC) :: (D, lst ys) :: nx) → Off3 I C D nx → ((@Ne Nat I C) ∧ (@Ne Nat I D) ∧ (@Ne Nat C D)) →
      wpAny (model prog w) A (eval elt (compEnvC scope cl C env)) (CompEnd h₀ L m { s with heap := h, toks := tk } I oI C oC D (lst ys) S (fun y nx' => J (i + 1) (ys ++ [y]) nx')) E' { s with heap := h, toks := tk })
    (fin : ∀ ys nx, J n ys nx → Fin ys nx) : CompRest prog w A h₀ L m env elt x scope cl s S P Fin n 0 [] news := by
  have key : ∀ (j i : Nat) (ys : List Value) (nx : List (Addr × Obj)), i + j = n → J i ys nx → CompRest prog w A h₀ L m env elt x scope cl s S P Fin j i ys nx := by
    intro j
    induction j with
    | zero =>
      intro i ys nx hi hJ
      have e : i = n := by omega
      subst e
      exact CompRest.zero (fin _ _ hJ)
    | succ j ih =>
      intro i ys nx hi hJ
      refine CompRest.succ ?_
      intro v I oI C oC D m₂ h tk E' hv hC hx F N off ne
      refine wpAny_mono (turn i v ys nx I oI C oC D m₂ h tk E' (by omega) hv hJ hC hx F N off ne) (fun y s₂ hq => ?_) fun _ _ e => e
      first | ((first | refine ex0_9 (hq) ?_ | refine ex3_6 (hq) ?_ | refine ex4_5 (hq) ?_ | refine ex6_3 (hq) ?_); (try clear hq); intro h' tk' nw e F' N' off' hS hJ') | obtain ⟨h', tk', nw, e, F', N', off', hS, hJ'⟩ := (hq)
      exact ⟨h', tk', nw, e, F', N', off', hS, ih (i + 1) _ nw (by omega) hJ'⟩
  exact key n 0 [] news (by omega) hj
/-- the same for a comprehension with a test -/
theorem my_turnsT {ct elt : PySem.Expr} {x : Str} {scope : Scope} {cl : List (Str × Addr)} {S : List (Addr × Obj) → Prop} {P : Nat → Value → Prop} {Fin : List Value → List (Addr × Obj) → Prop} {n : Nat} {news : List (Addr × Obj)}
    (J : Nat → List Value → List (Addr × Obj) → Prop) (hj : J 0 [] news)
    (turn : ∀ i v ys nx I oI C oC D m₂ h tk (E' : Value → Shared → Prop), i < n → P i v → J i ys nx → NsObj oC m₂ → m₂ x = some v → Fr h₀ L h m → News h₀ L h ((I, oI) :: (C, oC) :: (D, lst ys) :: nx) → Off3 I C D nx → ((@Ne Nat I C) ∧ (@Ne Nat I D) ∧ (@Ne Nat C D)) →
      wpAny (model prog w) A (isTrue ct (compEnvC scope cl C env) (eval ct (compEnvC scope cl C env))) (fun ok s' => if ok = true then
        wpAny (model prog w) A (eval elt (compEnvC scope cl C env)) (CompEnd h₀ L m { s with heap := h, toks := tk } I oI C oC D (lst ys) S (fun y nx' => J (i + 1) (ys ++ [y]) nx')) E' s'
        else CompEnd h₀ L m { s with heap := h, toks := tk } I oI C oC D (lst ys) S (fun _ nx' => J (i + 1) ys nx') Value.none s') E' { s with heap := h, toks := tk })
    (fin : ∀ ys nx, J n ys nx → Fin ys nx) : PyProof.Rows.LCt.CompRestT prog w A h₀ L m env ct elt x scope cl s S P Fin n 0 [] news := by
  have key : ∀ (j i : Nat) (ys : List Value) (nx : List (Addr × Obj)), i + j = n → J i ys nx → PyProof.Rows.LCt.CompRestT prog w A h₀ L m env ct elt x scope cl s S P Fin j i ys nx := by
    intro j
    induction j with
    | zero =>
      intro i ys nx hi hJ
      have e : i = n := by omega
      subst e
      exact PyProof.Rows.LCt.CompRestT.zero (fin _ _ hJ)
    | succ j ih =>
      intro i ys nx hi hJ
      refine PyProof.Rows.LCt.CompRestT.succ ?_
      intro v I oI C oC D m₂ h tk E' hv hC hx F N off ne
      refine wpAny_mono (turn i v ys nx I oI C oC D m₂ h tk E' (by omega) hv hJ hC hx F N off ne) (fun ok s₂ hq => ?_) fun _ _ e => e
      cases ok with
      | true =>
        rw [if_pos rfl] at hq ⊢
        refine wpAny_mono hq (fun y s₃ hq => ?_) fun _ _ e => e
        first | ((first | refine ex0_9 (hq) ?_ | refine ex3_6 (hq) ?_ | refine ex4_5 (hq) ?_ | refine ex6_3 (hq) ?_); (try clear hq); intro h' tk' nw e F' N' off' hS hJ') | obtain ⟨h', tk', nw, e, F', N', off', hS, hJ'⟩ := (hq)
        exact ⟨h', tk', nw, e, F', N', off', hS, ih (i + 1) _ nw (by omega) hJ'⟩
      | false =>
        rw [if_neg Bool.false_ne_true] at hq ⊢
        first | ((first | refine ex0_9 (hq) ?_ | refine ex3_6 (hq) ?_ | refine ex4_5 (hq) ?_ | refine ex6_3 (hq) ?_); (try clear hq); intro h' tk' nw e F' N' off' hS hJ') | obtain ⟨h', tk', nw, e, F', N', off', hS, hJ'⟩ := (hq)
        exact ⟨h', tk', nw, e, F', N', off', hS, ih (i + 1) _ nw (by omega) hJ'⟩
  exact key n 0 [] news (by omega) hj
/-- the same where the ledger stands -/
theorem my_turnsT0 {ct elt : PySem.Expr} {x : Str} {scope : Scope} {cl : List (Str × Addr)} {S : List (Addr × Obj) → Prop} {P : Nat → Value → Prop} {Fin : List Value → List (Addr × Obj) → Prop} {n : Nat} {news : List (Addr × Obj)}
    (J : Nat → List Value → Prop) (hj : J 0 [])
    (turn : ∀ i v ys I oI C oC D m₂ h tk (E' : Value → Shared → Prop), i < n → P i v → J i ys → NsObj oC m₂ → m₂ x = some v → Fr h₀ L h m → News h₀ L h ((I, oI) :: (C, oC) :: (D, lst ys) :: news) → Off3 I C D news → ((@Ne Nat I C) ∧ (@Ne Nat I D) ∧ (@Ne Nat C D)) →
      wpAny (model prog w) A (isTrue ct (compEnvC scope cl C env) (eval ct (compEnvC scope cl C env))) (fun ok s' => if ok = true then
        wpAny (model prog w) A (eval elt (compEnvC scope cl C env)) (CompEnd h₀ L m { s with heap := h, toks := tk } I oI C oC D (lst ys) S (fun y nx' => nx' = news ∧ J (i + 1) (ys ++ [y]))) E' s'
        else CompEnd h₀ L m { s with heap := h, toks := tk } I oI C oC D (lst ys) S (fun _ nx' => nx' = news ∧ J (i + 1) ys) Value.none s') E' { s with heap := h, toks := tk })
    (fin : ∀ ys, J n ys → Fin ys news) : PyProof.Rows.LCt.CompRestT prog w A h₀ L m env ct elt x scope cl s S P Fin n 0 [] news :=
  my_turnsT (fun i ys nx => nx = news ∧ J i ys) ⟨rfl, hj⟩ (fun i v ys nx I oI C oC D m₂ h tk E' hi hv hJ hC hx F N off ne => by
    first | ((first | refine ex0_2 (hJ) ?_ | refine ex1_1 (hJ) ?_); (try clear hJ); intro hr9_0 hJ; subst hr9_0) | obtain ⟨rfl, hJ⟩ := (hJ)
    exact turn i v ys I oI C oC D m₂ h tk E' hi hv hJ hC hx F N off ne) (fun ys nx h => by
    first | ((first | refine ex0_2 (h) ?_ | refine ex1_1 (h) ?_); (try clear h); intro hr9_0 h; subst hr9_0) | obtain ⟨rfl, h⟩ := (h)
    exact fin ys h)
/-- without a test -/
theorem my_turns0 {elt : PySem.Expr} {x : Str} {scope : Scope} {cl : List (Str × Addr)} {S : List (Addr × Obj) → Prop} {P : Nat → Value → Prop} {Fin : List Value → List (Addr × Obj) → Prop} {n : Nat} {news : List (Addr × Obj)}
    (J : Nat → List Value → Prop) (hj : J 0 [])
    (turn : ∀ i v ys I oI C oC D m₂ h tk (E' : Value → Shared → Prop), i < n → P i v → J i ys → NsObj oC m₂ → m₂ x = some v → Fr h₀ L h m → News h₀ L h ((I, oI) :: (C, oC) :: (D, lst ys) :: news) → Off3 I C D news → ((@Ne Nat I C) ∧ (@Ne Nat I D) ∧ (@Ne Nat C D)) →
      wpAny (model prog w) A (eval elt (compEnvC scope cl C env)) (CompEnd h₀ L m { s with heap := h, toks := tk } I oI C oC D (lst ys) S (fun y nx' => nx' = news ∧ J (i + 1) (ys ++ [y]))) E' { s with heap := h, toks := tk })
    (fin : ∀ ys, J n ys → Fin ys news) : CompRest prog w A h₀ L m env elt x scope cl s S P Fin n 0 [] news :=
  my_turns (fun i ys nx => nx = news ∧ J i ys) ⟨rfl, hj⟩ (fun i v ys nx I oI C oC D m₂ h tk E' hi hv hJ hC hx F N off ne => by
    first | ((first | refine ex0_2 (hJ) ?_ | refine ex1_1 (hJ) ?_); (try clear hJ); intro hr9_0 hJ; subst hr9_0) | obtain ⟨rfl, hJ⟩ := (hJ)
    exact turn i v ys I oI C oC D m₂ h tk E' hi hv hJ hC hx F N off ne) (fun ys nx h => by
    first | ((first | refine ex0_2 (h) ?_ | refine ex1_1 (h) ?_); (try clear h); intro hr9_0 h; subst hr9_0) | obtain ⟨rfl, h⟩ := (h)
    exact fin ys h)
end
end
section
open PySem.SeqAt PySem.Spec in
section
variable {prog : Program} {w : World} {A : Around} {E : Value → Shared → Prop} {s : Shared} {h₀ : Heap} {L : Addr} {news led : List (Addr × Obj)}
/-- a list's values are tuples of ints -/
inductive TupsAre (led : List (Addr × Obj)) : List Value → List (List Int) → Prop where
  | nil : TupsAre led [] []
  | cons {a : Addr} {vs us : List Value} {ns : List Int} {ts : List (List Int)} {n : Nat} : (a, ({ cls := .type "tuple", data := .seq vs.toArray n } : Obj)) ∈ led → IntsAre vs ns → TupsAre led us ts → TupsAre led (.ref a :: us) (ns :: ts)
theorem reads_tup {a : Addr} {vs : List Value} {ns : List Int} {n : Nat} (N : News h₀ L s.heap news) (hm : (a, ({ cls := .type "tuple", data := .seq vs.toArray n } : Obj)) ∈ news) (hi : IntsAre vs ns) : Reads s.heap (.ref a) (.tuple (ns.map PyData.int)) [] :=
  Reads.tuple (N _ hm).1 rfl rfl (by simpa using readsAll_of_ints hi)
theorem reads_tups {us : List Value} {ts : List (List Int)} (N : News h₀ L s.heap news) (h : TupsAre news us ts) : ReadsAll s.heap us (ts.map fun ns => PyData.tuple (ns.map PyData.int)) [] := by
  induction h with
  | nil => exact .nil
  | cons hm hi _ ih =>
    have := ReadsAll.cons (reads_tup N hm hi) ih
    simpa using this
theorem canLay_tups : ∀ ts : List (List Int), PyData.canLayAll0 (ts.map fun ns => PyData.tuple (ns.map PyData.int)) = true
  | [] => by simp [PyData.canLayAll0]
  | t :: r => by simp [PyData.canLayAll0, PyData.canLay0, canLay_tups r, canLayAll0_ints]
theorem depth_tups : ∀ ts : List (List Int), PyData.depthAll (ts.map fun ns => PyData.tuple (ns.map PyData.int)) ≤ 2
  | [] => by simp [PyData.depthAll]
  | t :: r => by
    have := depth_tups r
    have := W.depthAll_ints t
    simp only [List.map_cons, PyData.depthAll, PyData.depth]
    omega
theorem shaped_tup (ns : List Int) : shaped (.tuple (ns.map PyData.int)) = true := by
  have h1 := W.depthAll_ints ns
  have h2 : PyData.depth (.tuple (ns.map PyData.int)) ≤ 64 := by simp only [PyData.depth]; omega
  show (PyData.canLay0 (.tuple (ns.map PyData.int)) && decide (PyData.depth (.tuple (ns.map PyData.int)) ≤ 64)) = true
  rw [Bool.and_eq_true]
  exact ⟨by simp only [PyData.canLay0]; exact canLayAll0_ints ns, decide_eq_true h2⟩
theorem shaped_tups (ts : List (List Int)) : shaped (.list (ts.map fun ns => PyData.tuple (ns.map PyData.int))) = true := by
  have h1 := depth_tups ts
  have h2 : PyData.depth (.list (ts.map fun ns => PyData.tuple (ns.map PyData.int))) ≤ 64 := by simp only [PyData.depth]; omega
  show (PyData.canLay0 (.list (ts.map fun ns => PyData.tuple (ns.map PyData.int))) && decide (PyData.depth (.list (ts.map fun ns => PyData.tuple (ns.map PyData.int))) ≤ 64)) = true
  rw [Bool.and_eq_true]
  exact ⟨by simp only [PyData.canLay0]; exact canLay_tups ts, decide_eq_true h2⟩
theorem noMix_tups : ∀ ts us : List (List Int), noMixAll (ts.map fun ns => PyData.tuple (ns.map PyData.int)) (us.map fun ns => PyData.tuple (ns.map PyData.int)) = true
  | [], [] => by simp [noMixAll]
  | [], _ :: _ => by simp [noMixAll]
  | _ :: _, [] => by simp [noMixAll]
  | t :: r, u :: q => by simp [noMixAll, noMix, noMix_tups r q, noMix_ints]
theorem same_tups : ∀ ts us : List (List Int), PySem.Spec.sameAll (ts.map fun ns => PyData.tuple (ns.map PyData.int)) (us.map fun ns => PyData.tuple (ns.map PyData.int)) = decide (ts = us)
  | [], [] => by simp [PySem.Spec.sameAll]
  | [], _ :: _ => by simp [PySem.Spec.sameAll]
  | _ :: _, [] => by simp [PySem.Spec.sameAll]
  | t :: r, u :: q => by
    simp only [List.map_cons, PySem.Spec.sameAll, PySem.Spec.same, same_tups r q, same_ints]
    by_cases h : t = u <;> simp [h]
variable {a b : Addr} {vs us : List Value} {n n2 : Nat} {ns ms : List Int} {ts ts' : List (List Int)} {Q : Value → Shared → Prop}
theorem my_eqTup (N : News h₀ L s.heap news) (hl : (a, ({ cls := .type "tuple", data := .seq vs.toArray n } : Obj)) ∈ news) (hb : (b, ({ cls := .type "tuple", data := .seq us.toArray n2 } : Obj)) ∈ news) (hi : IntsAre vs ns) (hj : IntsAre us ms) (hu : A.units + 64 < cLine)
    (h : Q (.bool (decide (ns = ms))) s) : wpAny (model prog w) A (compareOp .Eq (.ref a) (.ref b)) Q E s :=
  eq_dataH_same (reads_tup N hl hi) (reads_tup N hb hj) (shaped_tup ns) (shaped_tup ms) hu (by simp only [noMix]; exact noMix_ints ns ms) (by simp only [PySem.Spec.same]; rw [same_ints]; exact h)
theorem my_neTup (N : News h₀ L s.heap news) (hl : (a, ({ cls := .type "tuple", data := .seq vs.toArray n } : Obj)) ∈ news) (hb : (b, ({ cls := .type "tuple", data := .seq us.toArray n2 } : Obj)) ∈ news) (hi : IntsAre vs ns) (hj : IntsAre us ms) (hu : A.units + 64 < cLine)
    (h : Q (.bool (!decide (ns = ms))) s) : wpAny (model prog w) A (compareOp .NotEq (.ref a) (.ref b)) Q E s :=
  ne_dataH_same (reads_tup N hl hi) (reads_tup N hb hj) (shaped_tup ns) (shaped_tup ms) hu (by simp only [noMix]; exact noMix_ints ns ms) (by simp only [PySem.Spec.same]; rw [same_ints]; exact h)
theorem my_neTups (N : News h₀ L s.heap news) (hl : (a, W.listOf vs.toArray n) ∈ news) (hb : (b, W.listOf us.toArray n2) ∈ news) (hi : TupsAre news vs ts) (hj : TupsAre news us ts') (hu : A.units + 64 < cLine)
    (h : Q (.bool (!decide (ts = ts'))) s) : wpAny (model prog w) A (compareOp .NotEq (.ref a) (.ref b)) Q E s :=
  ne_dataH_same (Reads.list (N _ hl).1 rfl rfl (by simpa using reads_tups N hi)) (Reads.list (N _ hb).1 rfl rfl (by simpa using reads_tups N hj)) (shaped_tups ts) (shaped_tups ts') hu (by simp only [noMix]; exact noMix_tups ts ts') (by simp only [PySem.Spec.same]; rw [same_tups]; exact h)
end
end
section
theorem xor_add (m : Nat) : ∀ n : Nat, (m ^^^ n) + 2 * (m &&& n) = m + n := by
  induction m using Nat.strongRecOn with
  | _ m ih =>
  intro n
  by_cases hm : m = 0
  · subst hm; simp
  have h := ih (m / 2) (by omega) (n / 2)
  have e1 : (m ^^^ n) / 2 = m / 2 ^^^ n / 2 := by
    apply Nat.eq_of_testBit_eq; intro i
    simp [Nat.testBit_div_two]
  have e2 : (m &&& n) / 2 = m / 2 &&& n / 2 := by
    apply Nat.eq_of_testBit_eq; intro i
    simp [Nat.testBit_div_two]
  have e3 : (m ^^^ n) % 2 = (m + n) % 2 := by
    have := Nat.xor_mod_two_pow (a := m) (b := n) (n := 1)
    simp only [Nat.pow_one] at this
    rw [this, Nat.add_mod]
    rcases Nat.mod_two_eq_zero_or_one m with a | a <;> rcases Nat.mod_two_eq_zero_or_one n with b | b <;> rw [a, b] <;> rfl
  have e4 : (m &&& n) % 2 = (m % 2) * (n % 2) := by
    have := Nat.and_mod_two_pow (a := m) (b := n) (n := 1)
    simp only [Nat.pow_one] at this
    rw [this]
    rcases Nat.mod_two_eq_zero_or_one m with a | a <;> rcases Nat.mod_two_eq_zero_or_one n with b | b <;> rw [a, b] <;> rfl
  have f1 := Nat.div_add_mod (m ^^^ n) 2
  have f2 := Nat.div_add_mod (m &&& n) 2
  rw [e1, e3] at f1
  rw [e2, e4] at f2
  rcases Nat.mod_two_eq_zero_or_one m with a | a <;> rcases Nat.mod_two_eq_zero_or_one n with b | b <;> rw [a, b] at f2 <;> omega
theorem bitXor_nat (a b : Nat) : Builtin.bitXor (a : Int) (b : Int) = ((a ^^^ b : Nat) : Int) := by
  have e : Builtin.bitAnd (a : Int) (b : Int) = ((a &&& b : Nat) : Int) := by
    unfold Builtin.bitAnd
    have h1 : decide ((0 : Int) ≤ (a : Int)) = true := decide_eq_true (Int.natCast_nonneg _)
    have h2 : decide ((0 : Int) ≤ (b : Int)) = true := decide_eq_true (Int.natCast_nonneg _)
    rw [h1, h2]
    rfl
  rw [bitXor_and, e]
  have := xor_add a b
  omega
theorem ndig_le {b k : Nat} {x : Int} (hb : 1 ≤ b) (hx : 0 ≤ x) (h : x < 2 ^ (b * k)) : ndig b x ≤ k := by
  have h0 : Builtin.Int.intBits x ≤ b * k := by
    refine intBits_le_iff.mpr ?_
    have e : ((x.natAbs : Nat) : Int) = x := by omega
    have : ((x.natAbs : Nat) : Int) < ((2 ^ (b * k) : Nat) : Int) := by rw [e, Int.natCast_pow]; exact h
    exact_mod_cast this
  unfold ndig
  have e : (((Builtin.Int.intBits x : Nat) : Int) + b - 1).toNat = Builtin.Int.intBits x + b - 1 := by omega
  rw [e]
  refine Nat.le_of_lt_succ (Nat.div_lt_of_lt_mul ?_)
  rw [Nat.mul_succ]
  omega
theorem xor_bound {a b : Int} (ha : 0 ≤ a ∧ a < 262144) (hb : 0 ≤ b ∧ b < 262144) : 0 ≤ Builtin.bitXor a b ∧ Builtin.bitXor a b < 16777216 := by
  first | ((first | refine ex0_2 (Int.eq_ofNat_of_zero_le ha.1) ?_ | refine ex1_1 (Int.eq_ofNat_of_zero_le ha.1) ?_); intro n hr9_0; subst hr9_0) | obtain ⟨n, rfl⟩ := (Int.eq_ofNat_of_zero_le ha.1)
  first | ((first | refine ex0_2 (Int.eq_ofNat_of_zero_le hb.1) ?_ | refine ex1_1 (Int.eq_ofNat_of_zero_le hb.1) ?_); intro k hr9_0; subst hr9_0) | obtain ⟨k, rfl⟩ := (Int.eq_ofNat_of_zero_le hb.1)
  rw [bitXor_nat]
  have := Nat.xor_lt_two_pow (n := 18) (x := n) (y := k) (by omega) (by omega)
  omega
theorem digits_len (st : WS) : (digitsOf st).length ≤ 6 := by
  unfold digitsOf
  rw [List.length_append, List.length_take]
  simp only [List.length_cons, List.length_nil]
  omega
theorem num_bound (st : WS) (h : ∀ d ∈ digitsOf st, 0 ≤ d ∧ d < 2 ^ 3) : 0 ≤ numOf st ∧ numOf st < 262144 := by
  have q := valOf_bound 3 (by decide) _ h
  have hl := digits_len st
  have hp : (2 : Int) ^ (3 * (digitsOf st).length) ≤ 2 ^ 18 := by
    have := Nat.pow_le_pow_right (n := 2) (by decide) (show 3 * (digitsOf st).length ≤ 18 by omega)
    exact_mod_cast this
  exact ⟨q.1, Int.lt_of_lt_of_le q.2 (by have : (2 : Int) ^ 18 = 262144 := by decide
                                         omega)⟩
theorem mine_len {x : Int} (h0 : 0 ≤ x) (h1 : x < 262144) : (digs 3 (ndig 3 x) x).length ≤ 6 := by
  rw [digs_len]; exact ndig_le (by decide) h0 h1
/-- a number's six digits -/
def mineOf (x : Int) : List Int := List.take 6 (digs 3 (ndig 3 x) x ++ [0, 0, 0, 0, 0, 0])
/-- the sizes at which two leads part, up to i -/
def farTo (xs ys : List Int) (i : Nat) : List Int := ((List.range i).map fun j : Nat => 1 + (j : Int)).filter fun s => decide (colOf s xs ≠ colOf s ys)
theorem farTo_succ (xs ys : List Int) (i : Nat) : farTo xs ys (i + 1) = if colOf (1 + i) xs ≠ colOf (1 + i) ys then farTo xs ys i ++ [1 + (i : Int)] else farTo xs ys i := by
  unfold farTo
  rw [List.range_succ, List.map_append, List.filter_append]
  by_cases h : colOf (1 + i) xs ≠ colOf (1 + i) ys
  · rw [if_pos h]; simp [h]
  · rw [if_neg h]; simp at h; simp [h]
/-- what the plain law tells of two leads -/
structure PF (xs ys : List Int) : Prop where
  none : farTo xs ys 6 = [] → rowsTo (wsOf xs) (wsOf ys) (reach (wsOf xs) (wsOf ys)).toNat = [] ∧ ndig 3 (Builtin.bitXor (numOf (wsOf xs)) (numOf (wsOf ys))) = 0
  low : ∀ fs top, farTo xs ys 6 = fs ++ [top] → top ≠ 6 → ∃ rs, rowsTo (wsOf xs) (wsOf ys) (reach (wsOf xs) (wsOf ys)).toNat = rs ++ [(top, colOf top xs, colOf top ys)] ∧ 1 ≤ top ∧ top ≤ 5 ∧ ndig 3 (Builtin.bitXor (numOf (wsOf xs)) (numOf (wsOf ys))) = top.toNat ∧
    -256 ≤ colOf top xs - colOf top ys ∧ colOf top xs - colOf top ys < 256 ∧ (colOf top xs - colOf top ys) / top = (mineOf (numOf (wsOf xs))).getD (top - 1).toNat 0 - (mineOf (numOf (wsOf ys))).getD (top - 1).toNat 0 ∧ (colOf top xs - colOf top ys) % top = 0 ∧ True
theorem mineOf_len (x : Int) : (mineOf x).length = 6 := by
  unfold mineOf
  rw [List.length_take, List.length_append]
  simp only [List.length_cons, List.length_nil]
  omega
end
section
/-- a lead's runs and the blanks behind -/
structure LOk (runs : List Int) (tail : Int) : Prop where
  len : runs.length ≤ 3
  run : ∀ r ∈ runs, 0 ≤ r ∧ r ≤ 4
  t0 : 0 ≤ tail
  t1 : tail ≤ 5
theorem leadOk (d : Int) : LOk (runsOf d) (tailOf d) := ⟨runs_len d, runs_in d, (tail_in d).1, (tail_in d).2⟩
def sumDiv (ts : Int) : List Int → Int
  | [] => 0
  | r :: rs => r / ts + sumDiv ts rs
/-- the column behind a lead at a tab size -/
def colAt (runs : List Int) (tail ts : Int) : Int := tail + ts * (runs.length + sumDiv ts runs)
theorem col_blanks (ts : Int) : ∀ (k : Nat) (c : Int), List.foldl (colStep ts) c (List.replicate k 32) = c + k
  | 0, c => by simp
  | k + 1, c => by
    rw [List.replicate_succ, List.foldl_cons, col_blanks ts k]
    unfold colStep
    rw [if_pos rfl]
    push_cast
    omega
theorem col_run {ts r : Int} (h : 0 < ts) (hr : 0 ≤ r) (q : Int) : List.foldl (colStep ts) (ts * q) (List.replicate r.toNat 32 ++ [9]) = ts * (q + r / ts + 1) := by
  rw [List.foldl_append, col_blanks, Int.toNat_of_nonneg hr]
  show colStep ts (ts * q + r) 9 = _
  unfold colStep
  rw [if_neg (by decide), Int.fmod_eq_emod_of_nonneg _ (Int.le_of_lt h), Int.add_comm (ts * q) r, Int.add_mul_emod_self_left]
  have := Int.mul_ediv_add_emod r ts
  rw [Int.mul_add, Int.mul_add, Int.mul_one]
  omega
theorem col_runs {ts : Int} (h : 0 < ts) : ∀ (runs : List Int) (q : Int), (∀ r ∈ runs, 0 ≤ r) → List.foldl (colStep ts) (ts * q) (runs.flatMap fun r => List.replicate r.toNat (32 : Int) ++ [9]) = ts * (q + runs.length + sumDiv ts runs)
  | [], q, _ => by simp [sumDiv]
  | r :: rs, q, hr => by
    rw [List.flatMap_cons, List.foldl_append, col_run h (hr r List.mem_cons_self), col_runs h rs _ fun x hx => hr x (List.mem_cons_of_mem _ hx)]
    congr 1
    simp only [sumDiv, List.length_cons]
    push_cast
    omega
theorem col_text {ts : Int} (h : 0 < ts) {runs : List Int} {tail : Int} (o : LOk runs tail) : colOf ts (textOf runs tail) = colAt runs tail ts := by
  unfold colOf textOf colAt
  have e : (0 : Int) = ts * 0 := by simp
  rw [List.foldl_append, e, col_runs h runs 0 fun r hr => (o.run r hr).1, col_blanks, Int.toNat_of_nonneg o.t0, Int.zero_add]
  omega
/-- the counts of a Whitespace: one turn at a tab -/
def cntStep (count : List Int) (r : Int) : List Int :=
  (fun c : List Int => c.set r.toNat (c.getD r.toNat 0 + 1)) (if count.length ≤ r then count ++ List.replicate (r - count.length + 1).toNat 0 else count)
def cntOf (runs : List Int) : List Int := runs.foldl cntStep []
theorem ws_blanks : ∀ (k : Nat) (st : WS), List.foldl wsStep st (List.replicate k 32) = { st with b := st.b + k, n := st.n + k }
  | 0, st => by simp
  | k + 1, st => by
    rw [List.replicate_succ, List.foldl_cons, ws_blanks k]
    unfold wsStep
    rw [if_pos rfl]
    simp only [WS.mk.injEq, true_and, and_true]
    push_cast
    omega
theorem ws_run {r : Int} (hr : 0 ≤ r) (st : WS) (hb : st.b = 0) : ∃ n, List.foldl wsStep st (List.replicate r.toNat 32 ++ [9]) = ⟨0, n, st.nt + 1, cntStep st.count r⟩ := by
  rw [List.foldl_append, ws_blanks, Int.toNat_of_nonneg hr, hb, Int.zero_add]
  refine ⟨st.n + r + 1, ?_⟩
  show wsStep _ 9 = _
  unfold wsStep cntStep
  rw [if_neg (by decide)]
theorem ws_runs : ∀ (runs : List Int) (st : WS), st.b = 0 → (∀ r ∈ runs, 0 ≤ r) → ∃ n, List.foldl wsStep st (runs.flatMap fun r => List.replicate r.toNat (32 : Int) ++ [9]) = ⟨0, n, st.nt + runs.length, runs.foldl cntStep st.count⟩
  | [], st, hb, _ => ⟨st.n, by rw [← hb]; simp⟩
  | r :: rs, st, hb, hr => by
    obtain ⟨n, e⟩ := ws_run (hr r List.mem_cons_self) st hb
    obtain ⟨n', e'⟩ := ws_runs rs ⟨0, n, st.nt + 1, cntStep st.count r⟩ rfl fun x hx => hr x (List.mem_cons_of_mem _ hx)
    refine ⟨n', ?_⟩
    rw [List.flatMap_cons, List.foldl_append, e, e']
    simp only [List.foldl_cons, List.length_cons, WS.mk.injEq, true_and, and_true]
    push_cast
    omega
theorem ws_text {runs : List Int} {tail : Int} (o : LOk runs tail) : ∃ n, wsOf (textOf runs tail) = ⟨tail, n, runs.length, cntOf runs⟩ := by
  unfold wsOf textOf cntOf
  obtain ⟨n, e⟩ := ws_runs runs ⟨0, 0, 0, []⟩ rfl fun r hr => (o.run r hr).1
  rw [List.foldl_append, e, ws_blanks, Int.toNat_of_nonneg o.t0]
  exact ⟨n + tail, by simp⟩
end
section
def five : List Int := [0, 1, 2, 3, 4]
def allRuns : List (List Int) := [] :: (five.map fun a => [a]) ++ (five.flatMap fun a => five.map fun b => [a, b]) ++ (five.flatMap fun a => five.flatMap fun b => five.map fun c => [a, b, c])
theorem in_five {r : Int} (h : 0 ≤ r ∧ r ≤ 4) : r ∈ five := by
  have e : r = 0 ∨ r = 1 ∨ r = 2 ∨ r = 3 ∨ r = 4 := by omega
  rcases e with rfl | rfl | rfl | rfl | rfl <;> decide
theorem runs_all {runs : List Int} {tail : Int} (o : LOk runs tail) : runs ∈ allRuns := by
  have h1 := o.len
  have h2 := fun r hr => in_five (o.run r hr)
  unfold allRuns
  match runs, h1, h2 with
  | [], _, _ => exact List.mem_append_left _ (List.mem_append_left _ (.head _))
  | [a], _, h => exact List.mem_append_left _ (List.mem_append_left _ (.tail _ (List.mem_map.mpr ⟨a, h a (.head _), rfl⟩)))
  | [a, b], _, h => exact List.mem_append_left _ (List.mem_append_right _ (List.mem_flatMap.mpr ⟨a, h a (.head _), List.mem_map.mpr ⟨b, h b (.tail _ (.head _)), rfl⟩⟩))
  | [a, b, c], _, h => exact List.mem_append_right _ (List.mem_flatMap.mpr ⟨a, h a (.head _), List.mem_flatMap.mpr ⟨b, h b (.tail _ (.head _)), List.mem_map.mpr ⟨c, h c (.tail _ (.tail _ (.head _))), rfl⟩⟩⟩)
  | _ :: _ :: _ :: _ :: _, h, _ => simp at h
/-- how many runs are i long -/
def nu (runs : List Int) (i : Nat) : Int := (cntOf runs).getD i 0
/-- one more than the longest run, 0 without a run -/
def hi (runs : List Int) : Int := ((cntOf runs).length : Int)
def runsOk (runs : List Int) : Bool :=
  decide (List.take 4 (List.drop 1 (cntOf runs ++ [0, 0, 0, 0, 0])) = [nu runs 1, nu runs 2, nu runs 3, nu runs 4]) &&
  decide (0 ≤ nu runs 0 ∧ 0 ≤ nu runs 1 ∧ 0 ≤ nu runs 2 ∧ 0 ≤ nu runs 3 ∧ 0 ≤ nu runs 4 ∧ nu runs 0 + nu runs 1 + nu runs 2 + nu runs 3 + nu runs 4 = (runs.length : Int)) &&
  decide (sumDiv 1 runs = nu runs 1 + 2 * nu runs 2 + 3 * nu runs 3 + 4 * nu runs 4 ∧ sumDiv 2 runs = nu runs 2 + nu runs 3 + 2 * nu runs 4 ∧ sumDiv 3 runs = nu runs 3 + nu runs 4 ∧ sumDiv 4 runs = nu runs 4 ∧ sumDiv 5 runs = 0 ∧ sumDiv 6 runs = 0) &&
  decide (hi runs ≤ 5 ∧ (nu runs 1 ≠ 0 → 1 < hi runs) ∧ (nu runs 2 ≠ 0 → 2 < hi runs) ∧ (nu runs 3 ≠ 0 → 3 < hi runs) ∧ (nu runs 4 ≠ 0 → 4 < hi runs)) &&
  decide (hi runs = runs.foldl (fun a r => max a (r + 1)) 0) &&
  decide (∀ c ∈ cntOf runs, 0 ≤ c ∧ c ≤ 100) &&
  [1, 2, 3, 4, 5, 6].all fun ts : Int => decide (ilOf ts (cntOf runs) (rangeKs ts (hi runs - ts).toNat) = sumDiv ts runs)
theorem runs_ok : allRuns.all runsOk = true := by decide +kernel
end
section
/-- all that the plain law asks of a lead -/
structure RF (xs : List Int) (c1 c2 c3 c4 t n h : Int) : Prop where
  bl : ∀ c ∈ xs, c = 32 ∨ c = 9
  ok : WOk (wsOf xs)
  dig : digitsOf (wsOf xs) = [c1, c2, c3, c4, t, n]
  ln : (wsOf xs).count.length = h.toNat
  b : (wsOf xs).b = t
  nt : (wsOf xs).nt = n
  p1 : 0 ≤ c1
  p2 : 0 ≤ c2
  p3 : 0 ≤ c3
  p4 : 0 ≤ c4
  sm : c1 + c2 + c3 + c4 ≤ n
  n3 : n ≤ 3
  t0 : 0 ≤ t
  t5 : t ≤ 5
  h0 : 0 ≤ h
  h5 : h ≤ 5
  h1 : c1 ≠ 0 → 1 < h
  h2 : c2 ≠ 0 → 2 < h
  h3 : c3 ≠ 0 → 3 < h
  h4 : c4 ≠ 0 → 4 < h
  C1 : colOf 1 xs = t + 1 * (n + (c1 + 2 * c2 + 3 * c3 + 4 * c4))
  C2 : colOf 2 xs = t + 2 * (n + (c2 + c3 + 2 * c4))
  C3 : colOf 3 xs = t + 3 * (n + (c3 + c4))
  C4 : colOf 4 xs = t + 4 * (n + c4)
  C5 : colOf 5 xs = t + 5 * n
  C6 : colOf 6 xs = t + 6 * n
  I : ∀ ts : Int, 1 ≤ ts → ts ≤ 6 → indentOf (wsOf xs) ts = colOf ts xs
theorem text_blank (runs : List Int) (tail : Int) : ∀ c ∈ textOf runs tail, c = 32 ∨ c = 9 := by
  intro c hc
  unfold textOf at hc
  rcases List.mem_append.mp hc with h | h
  · obtain ⟨r, _, h⟩ := List.mem_flatMap.mp h
    rcases List.mem_append.mp h with h | h
    · exact .inl (List.eq_of_mem_replicate h)
    · exact .inr (List.mem_singleton.mp h)
  · exact .inl (List.eq_of_mem_replicate h)
theorem lead_rf {runs : List Int} {tail : Int} (o : LOk runs tail) : RF (textOf runs tail) (nu runs 1) (nu runs 2) (nu runs 3) (nu runs 4) tail runs.length (hi runs) := by
  have h := List.all_eq_true.mp runs_ok _ (runs_all o)
  unfold runsOk at h
  simp only [Bool.and_eq_true, decide_eq_true_eq] at h
  obtain ⟨⟨⟨⟨⟨⟨g1, g2⟩, g3⟩, g4⟩, g5⟩, g6⟩, g7⟩ := h
  obtain ⟨m, e⟩ := ws_text o
  have hh : 0 ≤ hi runs := Int.natCast_nonneg _
  have hlen := o.len
  have t0 := o.t0
  have t5 := o.t1
  have col : ∀ ts : Int, 0 < ts → colOf ts (textOf runs tail) = tail + ts * (runs.length + sumDiv ts runs) := fun ts h => col_text h o
  refine ⟨text_blank runs tail, ?_, ?_, ?_, by rw [e], by rw [e], g2.2.1, g2.2.2.1, g2.2.2.2.1, g2.2.2.2.2.1, by omega, by omega, t0, t5, hh, g4.1, g4.2.1, g4.2.2.1, g4.2.2.2.1, g4.2.2.2.2, ?_, ?_, ?_, ?_, ?_, ?_, ?_⟩
  · rw [e]
    refine ⟨?_, g6, t0, by show tail ≤ 90; omega⟩
    show (cntOf runs).length ≤ 100
    have := g4.1
    unfold hi at this
    omega
  · rw [e]
    unfold digitsOf
    dsimp only
    rw [g1]
    rfl
  · rw [e]
    unfold hi
    simp
  · rw [col 1 (by decide), g3.1]
  · rw [col 2 (by decide), g3.2.1]
  · rw [col 3 (by decide), g3.2.2.1]
  · rw [col 4 (by decide), g3.2.2.2.1]
  · rw [col 5 (by decide), g3.2.2.2.2.1, Int.add_zero]
  · rw [col 6 (by decide), g3.2.2.2.2.2, Int.add_zero]
  · intro ts h1 h6
    rw [col ts (by omega), e]
    unfold indentOf
    dsimp only
    have e7 : ilOf ts (cntOf runs) (rangeKs ts (hi runs - ts).toNat) = sumDiv ts runs := by
      have := List.all_eq_true.mp g7 ts (by
        have : ts = 1 ∨ ts = 2 ∨ ts = 3 ∨ ts = 4 ∨ ts = 5 ∨ ts = 6 := by omega
        rcases this with rfl | rfl | rfl | rfl | rfl | rfl <;> decide)
      exact of_decide_eq_true this
    have e8 : (((cntOf runs).length : Int) - ts).toNat = (hi runs - ts).toNat := rfl
    rw [e8, e7, Int.add_comm (runs.length : Int)]
end
section
theorem RF.num {xs : List Int} {c1 c2 c3 c4 t n h : Int} (r : RF xs c1 c2 c3 c4 t n h) : numOf (wsOf xs) = c1 + 8 * (c2 + 8 * (c3 + 8 * (c4 + 8 * (t + 8 * n)))) := by
  unfold numOf
  rw [r.dig]
  simp only [valOf]
  have e : (2 : Int) ^ 3 = 8 := by decide
  rw [e]
  omega
theorem le3 {c1 c2 c3 c4 n : Int} (a1 : 0 ≤ c1) (a2 : 0 ≤ c2) (a3 : 0 ≤ c3) (a4 : 0 ≤ c4) (a5 : c1 + c2 + c3 + c4 ≤ n) (a6 : n ≤ 3) : c1 < 8 ∧ c2 < 8 ∧ c3 < 8 ∧ c4 < 8 ∧ 0 ≤ n := by lia
theorem RF.lt8 {xs : List Int} {c1 c2 c3 c4 t n h : Int} (r : RF xs c1 c2 c3 c4 t n h) : c1 < 8 ∧ c2 < 8 ∧ c3 < 8 ∧ c4 < 8 ∧ 0 ≤ n := le3 r.p1 r.p2 r.p3 r.p4 r.sm r.n3
/-- at a size no less than the runs' reach the column is the tail and the tabs alone -/
theorem RF.wide {xs : List Int} {c1 c2 c3 c4 t n h : Int} (r : RF xs c1 c2 c3 c4 t n h) {N : Int} (h1 : 1 ≤ N) (h6 : N ≤ 6) (hN : h ≤ N) : colOf N xs = t + N * n := by
  have z : ∀ {c j : Int}, (c ≠ 0 → j < h) → N ≤ j → c = 0 := fun hc hj => Classical.byContradiction fun e => Int.not_lt.mpr (Int.le_trans hN hj) (hc e)
  have e : N = 1 ∨ N = 2 ∨ N = 3 ∨ N = 4 ∨ N = 5 ∨ N = 6 := by clear r hN z; lia
  rcases e with rfl | rfl | rfl | rfl | rfl | rfl
  · rw [r.C1, z r.h1 (by decide), z r.h2 (by decide), z r.h3 (by decide), z r.h4 (by decide)]; show t + 1 * (n + 0) = _; rw [Int.add_zero]
  · rw [r.C2, z r.h2 (by decide), z r.h3 (by decide), z r.h4 (by decide)]; show t + 2 * (n + 0) = _; rw [Int.add_zero]
  · rw [r.C3, z r.h3 (by decide), z r.h4 (by decide)]; show t + 3 * (n + 0) = _; rw [Int.add_zero]
  · rw [r.C4, z r.h4 (by decide), Int.add_zero]
  · exact r.C5
  · exact r.C6
theorem RF.zero4 {xs : List Int} {c1 c2 c3 c4 t n h : Int} (r : RF xs c1 c2 c3 c4 t n h) {N : Int} (hN : h ≤ N) : (N ≤ 1 → c1 = 0) ∧ (N ≤ 2 → c2 = 0) ∧ (N ≤ 3 → c3 = 0) ∧ (N ≤ 4 → c4 = 0) := by
  have z : ∀ {c j : Int}, (c ≠ 0 → j < h) → N ≤ j → c = 0 := fun hc hj => Classical.byContradiction fun e => Int.not_lt.mpr (Int.le_trans hN hj) (hc e)
  exact ⟨z r.h1, z r.h2, z r.h3, z r.h4⟩
/-- the difference in the last row up to n -/
def ovr (f g : Int → Int) : Nat → Int
  | 0 => 0
  | n + 1 => if f (1 + n) ≠ g (1 + n) then f (1 + n) - g (1 + n) else ovr f g n
theorem rows_last (st st' : WS) : ∀ n, ((rowsTo st st' n).getLast? = none ∧ ovr (indentOf st) (indentOf st') n = 0 ∧ ∀ s : Int, 1 ≤ s → s ≤ n → indentOf st s = indentOf st' s) ∨ ∃ ts : Int, (rowsTo st st' n).getLast? = some (ts, indentOf st ts, indentOf st' ts) ∧ ovr (indentOf st) (indentOf st') n = indentOf st ts - indentOf st' ts ∧ 1 ≤ ts ∧ ts ≤ n ∧ indentOf st ts ≠ indentOf st' ts ∧ ∀ s : Int, ts < s → s ≤ n → indentOf st s = indentOf st' s
  | 0 => .inl ⟨rfl, rfl, fun s h1 h2 => by push_cast at h2; omega⟩
  | n + 1 => by
    rw [rowsTo_succ]
    by_cases h : indentOf st (1 + n) ≠ indentOf st' (1 + n)
    · refine .inr ⟨1 + n, ?_, ?_, by omega, by push_cast; omega, h, fun s h1 h2 => by push_cast at h2; omega⟩
      · rw [if_pos h, List.getLast?_concat]
      · unfold ovr; rw [if_pos h]
    · have h' : indentOf st (1 + n) = indentOf st' (1 + n) := Classical.not_not.mp h
      rw [if_neg h]
      unfold ovr
      rw [if_neg h]
      rcases rows_last st st' n with ⟨q1, q2, q3⟩ | ⟨ts, q1, q2, q3, q4, q5, q6⟩
      · refine .inl ⟨q1, q2, fun s h1 h2 => ?_⟩
        push_cast at h2
        by_cases e : s = 1 + n
        · rw [e]; exact h'
        · exact q3 s h1 (by omega)
      · refine .inr ⟨ts, q1, q2, q3, by push_cast; omega, q5, fun s h1 h2 => ?_⟩
        push_cast at h2
        by_cases e : s = 1 + n
        · rw [e]; exact h'
        · exact q6 s h1 (by omega)
theorem over_is (st st' : WS) : overOf st st' = ovr (indentOf st) (indentOf st') (reach st st').toNat := by
  unfold overOf
  rcases rows_last st st' (reach st st').toNat with ⟨q1, q2, _⟩ | ⟨ts, q1, q2, _⟩
  · rw [q1, q2]
  · rw [q1, q2]
theorem reach_is {xs ys : List Int} {c1 c2 c3 c4 t n h d1 d2 d3 d4 u m k : Int} (r : RF xs c1 c2 c3 c4 t n h) (q : RF ys d1 d2 d3 d4 u m k) : ∃ N, reach (wsOf xs) (wsOf ys) = N ∧ N = max (max (h - 1) t) (max (k - 1) u) + 1 := by
  refine ⟨_, rfl, ?_⟩
  unfold reach
  rw [r.ln, q.ln, r.b, q.b, Int.toNat_of_nonneg r.h0, Int.toNat_of_nonneg q.h0]
theorem max_or (a b : Int) : max a b = a ∨ max a b = b := (Int.le_total a b).elim (fun h => .inr (Int.max_eq_right h)) fun h => .inl (Int.max_eq_left h)
theorem reach_max {N h t k u : Int} (e : N = max (max (h - 1) t) (max (k - 1) u) + 1) (a2 : h ≤ 5) (a3 : 0 ≤ t) (a4 : t ≤ 5) (b2 : k ≤ 5) (b4 : u ≤ 5) :
    1 ≤ N ∧ N ≤ 6 ∧ t < N ∧ u < N ∧ h ≤ N ∧ k ≤ N ∧ (N = t + 1 ∨ N = u + 1 ∨ N = h ∨ N = k) := by
  have p1 := Int.le_max_left (h - 1) t
  have p2 := Int.le_max_right (h - 1) t
  have p3 := max_or (h - 1) t
  have q1 := Int.le_max_left (k - 1) u
  have q2 := Int.le_max_right (k - 1) u
  have q3 := max_or (k - 1) u
  generalize max (h - 1) t = p at *
  generalize max (k - 1) u = q at *
  have r1 := Int.le_max_left p q
  have r2 := Int.le_max_right p q
  have r3 := max_or p q
  generalize max p q = r at *
  have e1 : t ≤ r := Int.le_trans p2 r1
  have e2 : u ≤ r := Int.le_trans q2 r2
  have e3 : h - 1 ≤ r := Int.le_trans p1 r1
  have e4 : k - 1 ≤ r := Int.le_trans q1 r2
  have h1 : ∀ x : Int, x - 1 ≤ r → x ≤ r + 1 := fun x hx => Int.le_add_of_sub_right_le hx
  have f : r = t ∨ r = u ∨ r = h - 1 ∨ r = k - 1 := by
    rcases r3 with rfl | rfl
    · exact p3.elim (fun h => .inr (.inr (.inl h))) .inl
    · exact q3.elim (fun h => .inr (.inr (.inr h))) fun h => .inr (.inl h)
  subst e
  have e5 := h1 _ e3
  have e6 := h1 _ e4
  clear p1 p2 p3 q1 q2 q3 r1 r2 r3 e3 e4
  refine ⟨?_, ?_, Int.lt_add_one_of_le e1, Int.lt_add_one_of_le e2, e5, e6, ?_⟩
  · exact Int.add_le_add_right (Int.le_trans a3 e1) 1
  · refine (Int.add_le_add_right ?_ 1 : r + 1 ≤ 5 + 1)
    rcases f with f | f | f | f <;> rw [f]
    · exact a4
    · exact b4
    · exact Int.le_trans (Int.sub_le_self _ (by decide)) a2
    · exact Int.le_trans (Int.sub_le_self _ (by decide)) b2
  · rcases f with f | f | f | f <;> rw [f]
    · exact .inl rfl
    · exact .inr (.inl rfl)
    · exact .inr (.inr (.inl (Int.sub_add_cancel _ _)))
    · exact .inr (.inr (.inr (Int.sub_add_cancel _ _)))
theorem reach_in {xs ys : List Int} {c1 c2 c3 c4 t n h d1 d2 d3 d4 u m k : Int} (r : RF xs c1 c2 c3 c4 t n h) (q : RF ys d1 d2 d3 d4 u m k) :
    1 ≤ reach (wsOf xs) (wsOf ys) ∧ reach (wsOf xs) (wsOf ys) ≤ 6 ∧ t < reach (wsOf xs) (wsOf ys) ∧ u < reach (wsOf xs) (wsOf ys) ∧ h ≤ reach (wsOf xs) (wsOf ys) ∧ k ≤ reach (wsOf xs) (wsOf ys) ∧ (reach (wsOf xs) (wsOf ys) = t + 1 ∨ reach (wsOf xs) (wsOf ys) = u + 1 ∨ reach (wsOf xs) (wsOf ys) = h ∨ reach (wsOf xs) (wsOf ys) = k) := by
  first | ((first | refine ex0_3 (reach_is r q) ?_ | refine ex1_2 (reach_is r q) ?_ | refine ex2_1 (reach_is r q) ?_); intro N e1 e2) | obtain ⟨N, e1, e2⟩ := (reach_is r q)
  rw [e1]
  exact reach_max e2 r.h5 r.t0 r.t5 q.h5 q.t5
/-- orders of numbers in digits -/
theorem up8 {a b X Y : Int} (ha : a < 8) (hb : 0 ≤ b) (h : X < Y) : a + 8 * X < b + 8 * Y := by lia
theorem eqN {N t n u m : Int} (t0 : 0 ≤ t) (tN : t < N) (u0 : 0 ≤ u) (uN : u < N) (h : t + N * n = u + N * m) : t = u ∧ n = m := by
  have e1 : (t + N * n) % N = t := by rw [Int.add_mul_emod_self_left, Int.emod_eq_of_lt t0 tN]
  have e2 : (u + N * m) % N = u := by rw [Int.add_mul_emod_self_left, Int.emod_eq_of_lt u0 uN]
  have e : t = u := by rw [← e1, ← e2, h]
  subst e
  exact ⟨rfl, Int.eq_of_mul_eq_mul_left (Int.ne_of_gt (Int.lt_of_le_of_lt t0 tN)) (Int.add_left_cancel h)⟩
theorem ltN {N t n u m : Int} (tN : t < N) (t0 : 0 ≤ t) (u0 : 0 ≤ u) (uN : u < N) (t8 : t < 8) (h : t + N * n < u + N * m) : t + 8 * n < u + 8 * m := by
  rcases Int.lt_trichotomy n m with hl | hl | hl
  · exact up8 t8 u0 hl
  · subst hl
    exact Int.add_lt_add_right (Int.lt_of_add_lt_add_right h) _
  · have h2 : N * (m + 1) ≤ N * n := Int.mul_le_mul_of_nonneg_left hl (Int.le_of_lt (Int.lt_of_le_of_lt t0 tN))
    rw [Int.mul_add, Int.mul_one] at h2
    clear t8 tN
    generalize N * n = A at *
    generalize N * m = B at *
    lia
theorem ltK {k t n x y : Int} (hk : 0 ≤ k) (h : t + k * (n + x) < t + k * (n + y)) : x < y := by
  refine Int.not_le.mp fun hc => ?_
  have := Int.mul_le_mul_of_nonneg_left (Int.add_le_add_left hc n) hk
  exact absurd h (Int.not_lt.mpr (Int.add_le_add_left this t))
theorem eqK {k t n x y : Int} (hk : k ≠ 0) (h : t + k * (n + x) = t + k * (n + y)) : x = y := Int.add_left_cancel (Int.eq_of_mul_eq_mul_left hk (Int.add_left_cancel h))
theorem lt_c {a b x : Int} (h : a + x < b + x) : a < b := Int.lt_of_add_lt_add_right h
theorem lt_d {a b x y : Int} (h : a + x + y < b + x + y) : a < b := lt_c (lt_c h)
theorem lt_e {a b x y z : Int} (h : a + x + y + z < b + x + y + z) : a < b := lt_d (lt_c h)
theorem eq_c {a b x : Int} (h : a + x = b + x) : a = b := (Int.add_left_inj _).mp h
theorem eq_d {a b x y : Int} (h : a + x + y = b + x + y) : a = b := eq_c (eq_c h)
theorem eq_e {a b x y z : Int} (h : a + x + y + z = b + x + y + z) : a = b := eq_d (eq_c h)
/-- the sign of a difference tells the order of two numbers -/
def Sgn (o N M : Int) : Prop := (o < 0 ∧ N < M) ∨ (o = 0 ∧ N = M) ∨ (0 < o ∧ M < N)
theorem Sgn.iff {o N M : Int} (h : Sgn o N M) : (o < 0 ↔ N < M) ∧ (0 < o ↔ M < N) := by
  unfold Sgn at h
  lia
theorem sgn_step {x y rest N M : Int} (h1 : x < y → N < M) (h2 : y < x → M < N) (h3 : x = y → Sgn rest N M) : Sgn (if x ≠ y then x - y else rest) N M := by
  rcases Int.lt_trichotomy x y with h | h | h
  · rw [if_pos (Int.ne_of_lt h)]
    exact .inl ⟨Int.sub_neg_of_lt h, h1 h⟩
  · rw [if_neg (fun e => e h)]
    exact h3 h
  · rw [if_pos (Int.ne_of_gt h)]
    exact .inr (.inr ⟨Int.sub_pos_of_lt h, h2 h⟩)
section
variable {xs ys : List Int} {c1 c2 c3 c4 t n h d1 d2 d3 d4 u m k : Int}
theorem sg0 (f g : Int → Int) (N : Int) : Sgn (ovr f g 0) N N := .inr (.inl ⟨rfl, rfl⟩)
theorem sg1 (r : RF xs c1 c2 c3 c4 t n h) (q : RF ys d1 c2 c3 c4 t n k) : Sgn (ovr (indentOf (wsOf xs)) (indentOf (wsOf ys)) 1) (c1 + 8 * (c2 + 8 * (c3 + 8 * (c4 + 8 * (t + 8 * n))))) (d1 + 8 * (c2 + 8 * (c3 + 8 * (c4 + 8 * (t + 8 * n))))) := by
  show Sgn (if indentOf _ 1 ≠ indentOf _ 1 then indentOf _ 1 - indentOf _ 1 else _) _ _
  rw [r.I 1 (by decide) (by decide), q.I 1 (by decide) (by decide), r.C1, q.C1]
  refine sgn_step (fun e => Int.add_lt_add_right (lt_e (ltK (by decide) e)) _) (fun e => Int.add_lt_add_right (lt_e (ltK (by decide) e)) _) fun e => ?_
  obtain rfl := eq_e (eqK (by decide) e)
  exact sg0 _ _ _
theorem sg2 (r : RF xs c1 c2 c3 c4 t n h) (q : RF ys d1 d2 c3 c4 t n k) : Sgn (ovr (indentOf (wsOf xs)) (indentOf (wsOf ys)) 2) (c1 + 8 * (c2 + 8 * (c3 + 8 * (c4 + 8 * (t + 8 * n))))) (d1 + 8 * (d2 + 8 * (c3 + 8 * (c4 + 8 * (t + 8 * n))))) := by
  show Sgn (if indentOf _ 2 ≠ indentOf _ 2 then indentOf _ 2 - indentOf _ 2 else _) _ _
  rw [r.I 2 (by decide) (by decide), q.I 2 (by decide) (by decide), r.C2, q.C2]
  refine sgn_step (fun e => up8 r.lt8.1 q.p1 (Int.add_lt_add_right (lt_d (ltK (by decide) e)) _)) (fun e => up8 q.lt8.1 r.p1 (Int.add_lt_add_right (lt_d (ltK (by decide) e)) _)) fun e => ?_
  obtain rfl := eq_d (eqK (by decide) e)
  exact sg1 r q
theorem sg3 (r : RF xs c1 c2 c3 c4 t n h) (q : RF ys d1 d2 d3 c4 t n k) : Sgn (ovr (indentOf (wsOf xs)) (indentOf (wsOf ys)) 3) (c1 + 8 * (c2 + 8 * (c3 + 8 * (c4 + 8 * (t + 8 * n))))) (d1 + 8 * (d2 + 8 * (d3 + 8 * (c4 + 8 * (t + 8 * n))))) := by
  show Sgn (if indentOf _ 3 ≠ indentOf _ 3 then indentOf _ 3 - indentOf _ 3 else _) _ _
  rw [r.I 3 (by decide) (by decide), q.I 3 (by decide) (by decide), r.C3, q.C3]
  refine sgn_step (fun e => up8 r.lt8.1 q.p1 (up8 r.lt8.2.1 q.p2 (Int.add_lt_add_right (lt_c (ltK (by decide) e)) _))) (fun e => up8 q.lt8.1 r.p1 (up8 q.lt8.2.1 r.p2 (Int.add_lt_add_right (lt_c (ltK (by decide) e)) _))) fun e => ?_
  obtain rfl := eq_c (eqK (by decide) e)
  exact sg2 r q
theorem sg4 (r : RF xs c1 c2 c3 c4 t n h) (q : RF ys d1 d2 d3 d4 t n k) : Sgn (ovr (indentOf (wsOf xs)) (indentOf (wsOf ys)) 4) (c1 + 8 * (c2 + 8 * (c3 + 8 * (c4 + 8 * (t + 8 * n))))) (d1 + 8 * (d2 + 8 * (d3 + 8 * (d4 + 8 * (t + 8 * n))))) := by
  show Sgn (if indentOf _ 4 ≠ indentOf _ 4 then indentOf _ 4 - indentOf _ 4 else _) _ _
  rw [r.I 4 (by decide) (by decide), q.I 4 (by decide) (by decide), r.C4, q.C4]
  refine sgn_step (fun e => up8 r.lt8.1 q.p1 (up8 r.lt8.2.1 q.p2 (up8 r.lt8.2.2.1 q.p3 (Int.add_lt_add_right (ltK (by decide) e) _)))) (fun e => up8 q.lt8.1 r.p1 (up8 q.lt8.2.1 r.p2 (up8 q.lt8.2.2.1 r.p3 (Int.add_lt_add_right (ltK (by decide) e) _)))) fun e => ?_
  obtain rfl := eqK (by decide) e
  exact sg3 r q
theorem sg5 (r : RF xs c1 c2 c3 c4 t n h) (q : RF ys d1 d2 d3 d4 t n k) : Sgn (ovr (indentOf (wsOf xs)) (indentOf (wsOf ys)) 5) (c1 + 8 * (c2 + 8 * (c3 + 8 * (c4 + 8 * (t + 8 * n))))) (d1 + 8 * (d2 + 8 * (d3 + 8 * (d4 + 8 * (t + 8 * n))))) := by
  show Sgn (if indentOf _ 5 ≠ indentOf _ 5 then indentOf _ 5 - indentOf _ 5 else _) _ _
  rw [r.I 5 (by decide) (by decide), q.I 5 (by decide) (by decide), r.C5, q.C5, if_neg (fun e => e rfl)]
  exact sg4 r q
/-- the first comparison, at the size that the witness ends with -/
theorem sgT (r : RF xs c1 c2 c3 c4 t n h) (q : RF ys d1 d2 d3 d4 u m k) {N : Int} (hN : N = reach (wsOf xs) (wsOf ys)) {rest : Int} (hr : t = u → n = m → Sgn rest (c1 + 8 * (c2 + 8 * (c3 + 8 * (c4 + 8 * (t + 8 * n))))) (d1 + 8 * (d2 + 8 * (d3 + 8 * (d4 + 8 * (u + 8 * m)))))) :
    Sgn (if indentOf (wsOf xs) N ≠ indentOf (wsOf ys) N then indentOf (wsOf xs) N - indentOf (wsOf ys) N else rest) (c1 + 8 * (c2 + 8 * (c3 + 8 * (c4 + 8 * (t + 8 * n))))) (d1 + 8 * (d2 + 8 * (d3 + 8 * (d4 + 8 * (u + 8 * m))))) := by
  first | ((first | refine ex0_7 (reach_in r q) ?_ | refine ex1_6 (reach_in r q) ?_ | refine ex2_5 (reach_in r q) ?_ | refine ex5_2 (reach_in r q) ?_); intro w1 w2 w3 w4 w5 w6 w7) | obtain ⟨w1, w2, w3, w4, w5, w6, w7⟩ := (reach_in r q)
  rw [← hN] at w1 w2 w3 w4 w5 w6
  rw [r.I N w1 w2, q.I N w1 w2, r.wide w1 w2 w5, q.wide w1 w2 w6]
  refine sgn_step (fun e => up8 r.lt8.1 q.p1 (up8 r.lt8.2.1 q.p2 (up8 r.lt8.2.2.1 q.p3 (up8 r.lt8.2.2.2.1 q.p4 (ltN w3 r.t0 q.t0 w4 (Int.lt_of_le_of_lt r.t5 (by decide)) e)))))
    (fun e => up8 q.lt8.1 r.p1 (up8 q.lt8.2.1 r.p2 (up8 q.lt8.2.2.1 r.p3 (up8 q.lt8.2.2.2.1 r.p4 (ltN w4 q.t0 r.t0 w3 (Int.lt_of_le_of_lt q.t5 (by decide)) e))))) fun e => ?_
  first | ((first | refine ex0_2 (eqN r.t0 w3 q.t0 w4 e) ?_ | refine ex1_1 (eqN r.t0 w3 q.t0 w4 e) ?_); intro e1 e2) | obtain ⟨e1, e2⟩ := (eqN r.t0 w3 q.t0 w4 e)
  exact hr e1 e2
theorem six_of {N : Int} (h1 : 1 ≤ N) (h6 : N ≤ 6) : N = 1 ∨ N = 2 ∨ N = 3 ∨ N = 4 ∨ N = 5 ∨ N = 6 := by lia
theorem by_six {P : Int → Prop} (p1 : P 1) (p2 : P 2) (p3 : P 3) (p4 : P 4) (p5 : P 5) (p6 : P 6) : ∀ N : Int, 1 ≤ N → N ≤ 6 → P N := by
  intro N h1 h6
  rcases six_of h1 h6 with rfl | rfl | rfl | rfl | rfl | rfl
  · exact p1
  · exact p2
  · exact p3
  · exact p4
  · exact p5
  · exact p6
theorem ovr_sgn (r : RF xs c1 c2 c3 c4 t n h) (q : RF ys d1 d2 d3 d4 u m k) : Sgn (overOf (wsOf xs) (wsOf ys)) (c1 + 8 * (c2 + 8 * (c3 + 8 * (c4 + 8 * (t + 8 * n))))) (d1 + 8 * (d2 + 8 * (d3 + 8 * (d4 + 8 * (u + 8 * m))))) := by
  rw [over_is]
  first | ((first | refine ex0_7 (reach_in r q) ?_ | refine ex1_6 (reach_in r q) ?_ | refine ex2_5 (reach_in r q) ?_ | refine ex5_2 (reach_in r q) ?_); intro w1 w2 w3 w4 w5 w6 w7) | obtain ⟨w1, w2, w3, w4, w5, w6, w7⟩ := (reach_in r q)
  have top := @sgT xs ys c1 c2 c3 c4 t n h d1 d2 d3 d4 u m k r q (reach (wsOf xs) (wsOf ys)) rfl
  first | ((first | refine ex0_4 (r.zero4 w5) ?_ | refine ex1_3 (r.zero4 w5) ?_ | refine ex2_2 (r.zero4 w5) ?_); intro a1 a2 a3 a4) | obtain ⟨a1, a2, a3, a4⟩ := (r.zero4 w5)
  first | ((first | refine ex0_4 (q.zero4 w6) ?_ | refine ex1_3 (q.zero4 w6) ?_ | refine ex2_2 (q.zero4 w6) ?_); intro b1 b2 b3 b4) | obtain ⟨b1, b2, b3, b4⟩ := (q.zero4 w6)
  generalize reach (wsOf xs) (wsOf ys) = N at *
  clear w3 w4 w5 w6 w7
  revert top a1 a2 a3 a4 b1 b2 b3 b4
  revert N
  refine by_six ?_ ?_ ?_ ?_ ?_ ?_ <;> intro top a1 a2 a3 a4 b1 b2 b3 b4
  · refine top fun e1 e2 => ?_
    subst e1; subst e2
    obtain rfl := a1 (by decide); obtain rfl := a2 (by decide); obtain rfl := a3 (by decide); obtain rfl := a4 (by decide)
    obtain rfl := b1 (by decide); obtain rfl := b2 (by decide); obtain rfl := b3 (by decide); obtain rfl := b4 (by decide)
    exact sg0 _ _ _
  · refine top fun e1 e2 => ?_
    subst e1; subst e2
    obtain rfl := a2 (by decide); obtain rfl := a3 (by decide); obtain rfl := a4 (by decide)
    obtain rfl := b2 (by decide); obtain rfl := b3 (by decide); obtain rfl := b4 (by decide)
    exact sg1 r q
  · refine top fun e1 e2 => ?_
    subst e1; subst e2
    obtain rfl := a3 (by decide); obtain rfl := a4 (by decide)
    obtain rfl := b3 (by decide); obtain rfl := b4 (by decide)
    exact sg2 r q
  · refine top fun e1 e2 => ?_
    subst e1; subst e2
    obtain rfl := a4 (by decide)
    obtain rfl := b4 (by decide)
    exact sg3 r q
  · refine top fun e1 e2 => ?_
    subst e1; subst e2
    exact sg4 r q
  · refine top fun e1 e2 => ?_
    subst e1; subst e2
    exact sg5 r q
theorem ovr_sign (r : RF xs c1 c2 c3 c4 t n h) (q : RF ys d1 d2 d3 d4 u m k) :
    (overOf (wsOf xs) (wsOf ys) < 0 ↔ numOf (wsOf xs) < numOf (wsOf ys)) ∧ (0 < overOf (wsOf xs) (wsOf ys) ↔ numOf (wsOf ys) < numOf (wsOf xs)) := by
  rw [r.num, q.num]
  exact (ovr_sgn r q).iff
end
end
section
/-- a lead's columns at the tab sizes 6 to 1 -/
def colsOf (xs : List Int) : List Int := [colOf 6 xs, colOf 5 xs, colOf 4 xs, colOf 3 xs, colOf 2 xs, colOf 1 xs]
def cmpB (b : Bool) (N M : Int) : Bool := if b then decide (N < M) else decide (N ≤ M)
theorem lex_step {b : Bool} {x y N M : Int} {l l' : List Int} (h1 : x < y → N < M) (h2 : y < x → M < N) (h3 : x = y → lexB b l l' = cmpB b N M) : lexB b (x :: l) (y :: l') = cmpB b N M := by
  show (if x = y then lexB b l l' else decide (x < y)) = _
  rcases Int.lt_trichotomy x y with h | h | h
  · rw [if_neg (Int.ne_of_lt h), decide_eq_true h]
    unfold cmpB
    cases b
    · exact (decide_eq_true (Int.le_of_lt (h1 h))).symm
    · exact (decide_eq_true (h1 h)).symm
  · rw [if_pos h]
    exact h3 h
  · rw [if_neg (Int.ne_of_gt h), decide_eq_false (Int.not_lt.mpr (Int.le_of_lt h))]
    unfold cmpB
    cases b
    · exact (decide_eq_false (Int.not_le.mpr (h2 h))).symm
    · exact (decide_eq_false (Int.not_lt.mpr (Int.le_of_lt (h2 h)))).symm
theorem lex_nil {b : Bool} {N : Int} : lexB b [] [] = cmpB b N N := by
  cases b
  · exact (decide_eq_true (Int.le_refl N)).symm
  · exact (decide_eq_false (Int.lt_irrefl N)).symm
section
variable {xs ys : List Int} {c1 c2 c3 c4 t n h d1 d2 d3 d4 u m k : Int}
theorem cols_cmp (b : Bool) (r : RF xs c1 c2 c3 c4 t n h) (q : RF ys d1 d2 d3 d4 u m k) : lexB b (colsOf xs) (colsOf ys) = cmpB b (numOf (wsOf xs)) (numOf (wsOf ys)) := by
  rw [r.num, q.num]
  unfold colsOf
  rw [r.C1, r.C2, r.C3, r.C4, r.C5, r.C6, q.C1, q.C2, q.C3, q.C4, q.C5, q.C6]
  have l5 : ∀ {x : Int}, x ≤ 5 → x < 6 := fun h => Int.lt_of_le_of_lt h (by decide)
  have l8 : ∀ {x : Int}, x ≤ 5 → x < 8 := fun h => Int.lt_of_le_of_lt h (by decide)
  refine lex_step (fun e => up8 r.lt8.1 q.p1 (up8 r.lt8.2.1 q.p2 (up8 r.lt8.2.2.1 q.p3 (up8 r.lt8.2.2.2.1 q.p4 (ltN (l5 r.t5) r.t0 q.t0 (l5 q.t5) (l8 r.t5) e)))))
    (fun e => up8 q.lt8.1 r.p1 (up8 q.lt8.2.1 r.p2 (up8 q.lt8.2.2.1 r.p3 (up8 q.lt8.2.2.2.1 r.p4 (ltN (l5 q.t5) q.t0 r.t0 (l5 r.t5) (l8 q.t5) e))))) fun e => ?_
  first | ((first | refine ex0_2 (eqN r.t0 (l5 r.t5) q.t0 (l5 q.t5) e) ?_ | refine ex1_1 (eqN r.t0 (l5 r.t5) q.t0 (l5 q.t5) e) ?_); intro e1 e2) | obtain ⟨e1, e2⟩ := (eqN r.t0 (l5 r.t5) q.t0 (l5 q.t5) e)
  subst e1; subst e2
  refine lex_step (fun e => absurd e (Int.lt_irrefl _)) (fun e => absurd e (Int.lt_irrefl _)) fun _ => ?_
  refine lex_step (fun e => up8 r.lt8.1 q.p1 (up8 r.lt8.2.1 q.p2 (up8 r.lt8.2.2.1 q.p3 (Int.add_lt_add_right (ltK (by decide) e) _)))) (fun e => up8 q.lt8.1 r.p1 (up8 q.lt8.2.1 r.p2 (up8 q.lt8.2.2.1 r.p3 (Int.add_lt_add_right (ltK (by decide) e) _)))) fun e => ?_
  obtain rfl := eqK (by decide) e
  refine lex_step (fun e => up8 r.lt8.1 q.p1 (up8 r.lt8.2.1 q.p2 (Int.add_lt_add_right (lt_c (ltK (by decide) e)) _))) (fun e => up8 q.lt8.1 r.p1 (up8 q.lt8.2.1 r.p2 (Int.add_lt_add_right (lt_c (ltK (by decide) e)) _))) fun e => ?_
  obtain rfl := eq_c (eqK (by decide) e)
  refine lex_step (fun e => up8 r.lt8.1 q.p1 (Int.add_lt_add_right (lt_d (ltK (by decide) e)) _)) (fun e => up8 q.lt8.1 r.p1 (Int.add_lt_add_right (lt_d (ltK (by decide) e)) _)) fun e => ?_
  obtain rfl := eq_d (eqK (by decide) e)
  refine lex_step (fun e => Int.add_lt_add_right (lt_e (ltK (by decide) e)) _) (fun e => Int.add_lt_add_right (lt_e (ltK (by decide) e)) _) fun e => ?_
  obtain rfl := eq_e (eqK (by decide) e)
  exact lex_nil
theorem cols_lt (r : RF xs c1 c2 c3 c4 t n h) (q : RF ys d1 d2 d3 d4 u m k) : lexB true (colsOf xs) (colsOf ys) = decide (numOf (wsOf xs) < numOf (wsOf ys)) := cols_cmp true r q
theorem cols_le (r : RF xs c1 c2 c3 c4 t n h) (q : RF ys d1 d2 d3 d4 u m k) : lexB false (colsOf xs) (colsOf ys) = decide (numOf (wsOf xs) ≤ numOf (wsOf ys)) := cols_cmp false r q
end
end
section
theorem digs_zero (b : Nat) : ∀ k, digs b k 0 = List.replicate k 0
  | 0 => rfl
  | k + 1 => by simp only [digs, List.replicate_succ]; rw [Int.zero_emod, Int.zero_ediv, digs_zero b k]
theorem mine_six {x : Int} (h0 : 0 ≤ x) (h1 : x < 262144) : mineOf x = digs 3 6 x := by
  unfold mineOf
  have hk : ndig 3 x ≤ 6 := ndig_le (by decide) h0 h1
  have hx := lt_ndig (b := 3) (by decide) h0
  first | ((first | refine ex0_2 (⟨6 - ndig 3 x, by omega⟩ : ∃ j, 6 = ndig 3 x + j) ?_ | refine ex1_1 (⟨6 - ndig 3 x, by omega⟩ : ∃ j, 6 = ndig 3 x + j) ?_); intro j hj) | obtain ⟨j, hj⟩ := (⟨6 - ndig 3 x, by omega⟩ : ∃ j, 6 = ndig 3 x + j)
  have e : digs 3 6 x = digs 3 (ndig 3 x) x ++ List.replicate j 0 := by
    conv => lhs; rw [hj]
    rw [digs_split, Int.emod_eq_of_lt h0 hx, Int.ediv_eq_zero_of_lt h0 hx, digs_zero]
  have z : ([0, 0, 0, 0, 0, 0] : List Int) = List.replicate j 0 ++ List.replicate (ndig 3 x) 0 := by
    rw [List.replicate_append_replicate, show j + ndig 3 x = 6 by omega]; rfl
  rw [e, z, ← List.append_assoc]
  have l : (digs 3 (ndig 3 x) x ++ List.replicate j (0 : Int)).length = 6 := by rw [List.length_append, digs_len, List.length_replicate]; omega
  rw [← l, List.take_left]
theorem nn8 {c X : Int} (h : 0 ≤ c) (hX : 0 ≤ X) : 0 ≤ c + 8 * X := Int.add_nonneg h (Int.mul_nonneg (by decide) hX)
theorem b8 {c X M : Int} (h : c < 8) (hX : X < M) : c + 8 * X < 8 * M := by lia
theorem div8 {c X : Int} (h0 : 0 ≤ c) (h : c < 8) : (c + 8 * X) / 8 = X := by
  rw [Int.add_mul_ediv_left _ _ (by decide), Int.ediv_eq_zero_of_lt h0 h, Int.zero_add]
theorem mod8 {c X : Int} (h0 : 0 ≤ c) (h : c < 8) : (c + 8 * X) % 8 = c := by
  rw [Int.add_mul_emod_self_left, Int.emod_eq_of_lt h0 h]
theorem digs_step {c X : Int} (k : Nat) (h0 : 0 ≤ c) (h : c < 8) : digs 3 (k + 1) (c + 8 * X) = c :: digs 3 k X := by
  show (c + 8 * X) % 8 :: digs 3 k ((c + 8 * X) / 8) = _
  rw [div8 h0 h, mod8 h0 h]
/-- one digit less -/
theorem div_step {c X : Int} (k : Nat) (h0 : 0 ≤ c) (h : c < 8) : (c + 8 * X) / 2 ^ (3 * (k + 1)) = X / 2 ^ (3 * k) := by
  have e : (2 : Int) ^ (3 * (k + 1)) = 8 * 2 ^ (3 * k) := by
    rw [Nat.mul_add, Int.pow_add, Int.mul_comm]; rfl
  rw [e, ← Int.ediv_ediv_of_nonneg (by decide), div8 h0 h]
section
variable {xs : List Int} {c1 c2 c3 c4 t n h : Int}
theorem RF.t8 (r : RF xs c1 c2 c3 c4 t n h) : t < 8 := Int.lt_of_le_of_lt r.t5 (by decide)
theorem RF.n8 (r : RF xs c1 c2 c3 c4 t n h) : n < 8 := Int.lt_of_le_of_lt r.n3 (by decide)
theorem RF.num_in (r : RF xs c1 c2 c3 c4 t n h) : 0 ≤ numOf (wsOf xs) ∧ numOf (wsOf xs) < 262144 := by
  rw [r.num]
  exact ⟨nn8 r.p1 (nn8 r.p2 (nn8 r.p3 (nn8 r.p4 (nn8 r.t0 r.lt8.2.2.2.2)))), b8 r.lt8.1 (b8 r.lt8.2.1 (b8 r.lt8.2.2.1 (b8 r.lt8.2.2.2.1 (b8 r.t8 r.n8))))⟩
theorem RF.mine (r : RF xs c1 c2 c3 c4 t n h) : mineOf (numOf (wsOf xs)) = [c1, c2, c3, c4, t, n] := by
  have e : digs 3 1 n = [n] := by
    have := digs_step (X := 0) 0 r.lt8.2.2.2.2 r.n8
    rw [Int.mul_zero, Int.add_zero] at this
    exact this
  rw [mine_six r.num_in.1 r.num_in.2, r.num, digs_step _ r.p1 r.lt8.1, digs_step _ r.p2 r.lt8.2.1, digs_step _ r.p3 r.lt8.2.2.1, digs_step _ r.p4 r.lt8.2.2.2.1, digs_step _ r.t0 r.t8, e]
end
theorem xor_div (a b j : Nat) : (a ^^^ b) / 2 ^ j = a / 2 ^ j ^^^ b / 2 ^ j := by
  apply Nat.eq_of_testBit_eq; intro i
  simp [Nat.testBit_div_two_pow]
theorem ndig_xor {a b : Int} (ha : 0 ≤ a) (hb : 0 ≤ b) (k : Nat) : ndig 3 (Builtin.bitXor a b) ≤ k ↔ a / 2 ^ (3 * k) = b / 2 ^ (3 * k) := by
  first | ((first | refine ex0_2 (Int.eq_ofNat_of_zero_le ha) ?_ | refine ex1_1 (Int.eq_ofNat_of_zero_le ha) ?_); intro a hr9_0; subst hr9_0) | obtain ⟨a, rfl⟩ := (Int.eq_ofNat_of_zero_le ha)
  first | ((first | refine ex0_2 (Int.eq_ofNat_of_zero_le hb) ?_ | refine ex1_1 (Int.eq_ofNat_of_zero_le hb) ?_); intro b hr9_0; subst hr9_0) | obtain ⟨b, rfl⟩ := (Int.eq_ofNat_of_zero_le hb)
  rw [bitXor_nat]
  have key : (a ^^^ b) < 2 ^ (3 * k) ↔ a / 2 ^ (3 * k) = b / 2 ^ (3 * k) := by
    rw [← Nat.div_eq_zero_iff_lt (Nat.two_pow_pos _), xor_div]
    constructor
    · intro h
      have h2 := congrArg (fun z : Nat => z ^^^ (b / 2 ^ (3 * k))) h
      rw [Nat.xor_assoc, Nat.xor_self, Nat.xor_zero, Nat.zero_xor] at h2
      exact h2
    · intro h
      rw [h, Nat.xor_self]
  have e1 : ((a : Int) / 2 ^ (3 * k) = (b : Int) / 2 ^ (3 * k)) ↔ a / 2 ^ (3 * k) = b / 2 ^ (3 * k) := by
    constructor
    · intro h; exact_mod_cast h
    · intro h; exact_mod_cast h
  rw [e1, ← key]
  constructor
  · intro h
    have h1 := lt_ndig (b := 3) (x := ((a ^^^ b : Nat) : Int)) (by decide) (Int.natCast_nonneg _)
    have h2 : (2 : Nat) ^ (3 * ndig 3 ((a ^^^ b : Nat) : Int)) ≤ 2 ^ (3 * k) := Nat.pow_le_pow_right (by decide) (by omega)
    have h3 : a ^^^ b < 2 ^ (3 * ndig 3 ((a ^^^ b : Nat) : Int)) := by exact_mod_cast h1
    omega
  · intro h
    exact ndig_le (by decide) (Int.natCast_nonneg _) (by exact_mod_cast h)
theorem far_last (xs ys : List Int) : ∀ i : Nat, (farTo xs ys i = [] ∧ ∀ s : Int, 1 ≤ s → s ≤ i → colOf s xs = colOf s ys) ∨ ∃ fs, ∃ top : Int, farTo xs ys i = fs ++ [top] ∧ 1 ≤ top ∧ top ≤ i ∧ colOf top xs ≠ colOf top ys ∧ ∀ s : Int, top < s → s ≤ i → colOf s xs = colOf s ys
  | 0 => .inl ⟨rfl, fun s h1 h2 => by push_cast at h2; omega⟩
  | i + 1 => by
    rw [farTo_succ]
    by_cases h : colOf (1 + i) xs ≠ colOf (1 + i) ys
    · rw [if_pos h]
      exact .inr ⟨_, _, rfl, by omega, by push_cast; omega, h, fun s h1 h2 => by push_cast at h2; omega⟩
    · have h' := Classical.not_not.mp h
      rw [if_neg h]
      rcases far_last xs ys i with ⟨q1, q2⟩ | ⟨fs, top, q1, q2, q3, q4, q5⟩
      · refine .inl ⟨q1, fun s h1 h2 => ?_⟩
        push_cast at h2
        by_cases e : s = 1 + i
        · rw [e]; exact h'
        · exact q2 s h1 (by omega)
      · refine .inr ⟨fs, top, q1, q2, by push_cast; omega, q4, fun s h1 h2 => ?_⟩
        push_cast at h2
        by_cases e : s = 1 + i
        · rw [e]; exact h'
        · exact q5 s h1 (by omega)
end
section
theorem rows_none {st st' : WS} {n : Nat} (h : (rowsTo st st' n).getLast? = none) : rowsTo st st' n = [] := List.getLast?_eq_none_iff.mp h
theorem rows_some {st st' : WS} {n : Nat} {x : Int × Int × Int} (h : (rowsTo st st' n).getLast? = some x) : ∃ rs, rowsTo st st' n = rs ++ [x] := List.getLast?_eq_some_iff.mp h
theorem toNat_le {s N : Int} (h : 1 ≤ N) (e : s ≤ N) : s ≤ (N.toNat : Int) := by rw [Int.toNat_of_nonneg (Int.le_trans (by decide) h)]; exact e
theorem le_toNat {s N : Int} (h : 1 ≤ N) (e : s ≤ (N.toNat : Int)) : s ≤ N := by rw [Int.toNat_of_nonneg (Int.le_trans (by decide) h)] at e; exact e
section
variable {xs ys : List Int} {c1 c2 c3 c4 t n h d1 d2 d3 d4 u m k : Int}
theorem pf_none (r : RF xs c1 c2 c3 c4 t n h) (q : RF ys d1 d2 d3 d4 u m k) (hf : farTo xs ys 6 = []) :
    rowsTo (wsOf xs) (wsOf ys) (reach (wsOf xs) (wsOf ys)).toNat = [] ∧ ndig 3 (Builtin.bitXor (numOf (wsOf xs)) (numOf (wsOf ys))) = 0 := by
  rcases far_last xs ys 6 with ⟨_, q2⟩ | ⟨fs, top, q1, _⟩
  rotate_left
  · rw [hf] at q1; simp at q1
  first | ((first | refine ex0_3 (reach_in r q) ?_ | refine ex1_2 (reach_in r q) ?_ | refine ex2_1 (reach_in r q) ?_); intro w1 w2 _) | obtain ⟨w1, w2, _⟩ := (reach_in r q)
  constructor
  · rcases rows_last (wsOf xs) (wsOf ys) (reach (wsOf xs) (wsOf ys)).toNat with ⟨e, _⟩ | ⟨ts, e, _, e3, e4, e5, _⟩
    · exact rows_none e
    · have h6 : ts ≤ 6 := Int.le_trans (le_toNat w1 e4) w2
      rw [r.I ts e3 h6, q.I ts e3 h6] at e5
      exact absurd (q2 ts e3 h6) e5
  · have s1 := q2 1 (by decide) (by decide); have s2 := q2 2 (by decide) (by decide); have s3 := q2 3 (by decide) (by decide)
    have s4 := q2 4 (by decide) (by decide); have s6 := q2 6 (by decide) (by decide)
    rw [r.C1, q.C1] at s1; rw [r.C2, q.C2] at s2; rw [r.C3, q.C3] at s3; rw [r.C4, q.C4] at s4; rw [r.C6, q.C6] at s6
    first | ((first | refine ex0_2 (eqN r.t0 (Int.lt_of_le_of_lt r.t5 (by decide)) q.t0 (Int.lt_of_le_of_lt q.t5 (by decide)) s6) ?_ | refine ex1_1 (eqN r.t0 (Int.lt_of_le_of_lt r.t5 (by decide)) q.t0 (Int.lt_of_le_of_lt q.t5 (by decide)) s6) ?_); intro e1 e2) | obtain ⟨e1, e2⟩ := (eqN r.t0 (Int.lt_of_le_of_lt r.t5 (by decide)) q.t0 (Int.lt_of_le_of_lt q.t5 (by decide)) s6)
    subst e1; subst e2
    obtain rfl := eqK (by decide) s4
    obtain rfl := eq_c (eqK (by decide) s3)
    obtain rfl := eq_d (eqK (by decide) s2)
    obtain rfl := eq_e (eqK (by decide) s1)
    have e : numOf (wsOf xs) = numOf (wsOf ys) := by rw [r.num, q.num]
    exact Nat.le_zero.mp ((ndig_xor r.num_in.1 q.num_in.1 0).mpr (by rw [e]))
/-- the row at the greatest size that parts two leads, where that is below the witness's end -/
theorem row_low (r : RF xs c1 c2 c3 c4 t n h) (q : RF ys d1 d2 d3 d4 u m k) {top : Int} (q2 : 1 ≤ top) (ht : top ≤ reach (wsOf xs) (wsOf ys)) (q4 : colOf top xs ≠ colOf top ys) (q5 : ∀ s : Int, top < s → s ≤ reach (wsOf xs) (wsOf ys) → colOf s xs = colOf s ys) :
    ∃ rs, rowsTo (wsOf xs) (wsOf ys) (reach (wsOf xs) (wsOf ys)).toNat = rs ++ [(top, colOf top xs, colOf top ys)] := by
  first | ((first | refine ex0_3 (reach_in r q) ?_ | refine ex1_2 (reach_in r q) ?_ | refine ex2_1 (reach_in r q) ?_); intro w1 w2 _) | obtain ⟨w1, w2, _⟩ := (reach_in r q)
  have i0 := r.I top q2 (Int.le_trans ht w2)
  have j0 := q.I top q2 (Int.le_trans ht w2)
  rcases rows_last (wsOf xs) (wsOf ys) (reach (wsOf xs) (wsOf ys)).toNat with ⟨_, _, e2⟩ | ⟨ts, e, _, e3, e4, e5, e6⟩
  · exfalso
    have := e2 top q2 (toNat_le w1 ht)
    rw [i0, j0] at this
    exact q4 this
  · have hN : ts ≤ reach (wsOf xs) (wsOf ys) := le_toNat w1 e4
    have ets : ts = top := by
      rcases Int.lt_trichotomy ts top with hl | hl | hl
      · have := e6 top hl (toNat_le w1 ht)
        rw [i0, j0] at this
        exact absurd this q4
      · exact hl
      · rw [r.I ts e3 (Int.le_trans hN w2), q.I ts e3 (Int.le_trans hN w2)] at e5
        exact absurd (q5 ts hl hN) e5
    subst ets
    first | ((first | refine ex0_2 (rows_some e) ?_ | refine ex1_1 (rows_some e) ?_); intro rs hrs) | obtain ⟨rs, hrs⟩ := (rows_some e)
    exact ⟨rs, by rw [hrs, i0, j0]⟩
theorem kdiff {t n x y : Int} (k : Int) : t + k * (n + x) - (t + k * (n + y)) = k * (x - y) := by
  rw [Int.mul_add, Int.mul_add, Int.mul_sub]
  generalize k * n = A
  generalize k * x = B
  generalize k * y = C
  lia
theorem four_of {N : Int} (h1 : 1 ≤ N) (h6 : N ≤ 4) : N = 1 ∨ N = 2 ∨ N = 3 ∨ N = 4 := by lia
theorem small_mul {k d : Int} (hk : 1 ≤ k) (hk4 : k ≤ 4) (h0 : -4 < d) (h1 : d < 4) : -256 ≤ k * d ∧ k * d < 256 := by
  rcases four_of hk hk4 with rfl | rfl | rfl | rfl <;> exact ⟨by lia, by lia⟩
theorem diff4 {c d n m : Int} (hc : 0 ≤ c) (hd : 0 ≤ d) (c3 : c ≤ 3) (d3 : d ≤ 3) : -4 < c - d ∧ c - d < 4 := by lia
theorem all3 {c1 c2 c3 c4 n : Int} (a1 : 0 ≤ c1) (a2 : 0 ≤ c2) (a3 : 0 ≤ c3) (a4 : 0 ≤ c4) (a5 : c1 + c2 + c3 + c4 ≤ n) (a6 : n ≤ 3) : c1 ≤ 3 ∧ c2 ≤ 3 ∧ c3 ≤ 3 ∧ c4 ≤ 3 := by lia
theorem RF.le3 (r : RF xs c1 c2 c3 c4 t n h) : c1 ≤ 3 ∧ c2 ≤ 3 ∧ c3 ≤ 3 ∧ c4 ≤ 3 := all3 r.p1 r.p2 r.p3 r.p4 r.sm r.n3
/-- what the law asks of the columns' difference: by the digits' difference -/
def Low (top col col' : Int) (c d : Int) : Prop := -256 ≤ col - col' ∧ col - col' < 256 ∧ (col - col') / top = c - d ∧ (col - col') % top = 0
theorem low_of {top col col' c d : Int} (h1 : 1 ≤ top) (h4 : top ≤ 4) (e : col - col' = top * (c - d)) (hc : 0 ≤ c) (hd : 0 ≤ d) (c3 : c ≤ 3) (d3 : d ≤ 3) : Low top col col' c d := by
  have g := diff4 (n := 0) (m := 0) hc hd c3 d3
  have s := small_mul h1 h4 g.1 g.2
  unfold Low
  rw [e]
  exact ⟨s.1, s.2, Int.mul_ediv_cancel_left _ (Int.ne_of_gt h1), Int.mul_emod_right _ _⟩
theorem sub_c {a b x : Int} : a + x - (b + x) = a - b := Int.add_sub_add_right a x b
theorem by_four {P : Int → Prop} (p1 : P 1) (p2 : P 2) (p3 : P 3) (p4 : P 4) : ∀ N : Int, 1 ≤ N → N ≤ 4 → P N := by
  intro N h1 h6
  rcases four_of h1 h6 with rfl | rfl | rfl | rfl
  · exact p1
  · exact p2
  · exact p3
  · exact p4
/-- the four digits below the tabs and the tail: what a greatest parting size below 5 tells -/
theorem low_parts (r : RF xs c1 c2 c3 c4 t n h) (q : RF ys d1 d2 d3 d4 t n k) {top : Int} (h1 : 1 ≤ top) (h4 : top ≤ 4) (q4 : colOf top xs ≠ colOf top ys) (q5 : ∀ s : Int, top < s → s ≤ 6 → colOf s xs = colOf s ys) :
    ndig 3 (Builtin.bitXor (numOf (wsOf xs)) (numOf (wsOf ys))) = top.toNat ∧ Low top (colOf top xs) (colOf top ys) ((mineOf (numOf (wsOf xs))).getD (top - 1).toNat 0) ((mineOf (numOf (wsOf ys))).getD (top - 1).toNat 0) := by
  have fin : ∀ j : Nat, numOf (wsOf xs) / 2 ^ (3 * (j + 1)) = numOf (wsOf ys) / 2 ^ (3 * (j + 1)) → numOf (wsOf xs) / 2 ^ (3 * j) ≠ numOf (wsOf ys) / 2 ^ (3 * j) → ndig 3 (Builtin.bitXor (numOf (wsOf xs)) (numOf (wsOf ys))) = j + 1 := fun j e1 e2 =>
    Nat.le_antisymm ((ndig_xor r.num_in.1 q.num_in.1 _).mpr e1) (Nat.lt_of_not_le fun hc => e2 ((ndig_xor r.num_in.1 q.num_in.1 _).mp hc))
  have z0 : ∀ x : Int, x / 2 ^ (3 * 0) = x := fun x => Int.ediv_one x
  rw [r.mine, q.mine]
  generalize top = N at *
  revert N
  refine by_four ?_ ?_ ?_ ?_
  all_goals intro q4 q5
  · have s2 := q5 2 (by decide) (by decide); have s3 := q5 3 (by decide) (by decide); have s4 := q5 4 (by decide) (by decide)
    rw [r.C2, q.C2] at s2; rw [r.C3, q.C3] at s3; rw [r.C4, q.C4] at s4
    obtain rfl := eqK (by decide) s4
    obtain rfl := eq_c (eqK (by decide) s3)
    obtain rfl := eq_d (eqK (by decide) s2)
    rw [r.C1, q.C1] at q4 ⊢
    refine ⟨fin 0 ?_ ?_, low_of (by decide) (by decide) ((kdiff 1).trans (congrArg _ (sub_c.trans (sub_c.trans sub_c)))) r.p1 q.p1 r.le3.1 q.le3.1⟩
    · rw [r.num, q.num, div_step _ r.p1 r.lt8.1, div_step _ q.p1 q.lt8.1]
    · rw [r.num, q.num, z0, z0]
      exact fun hc => q4 (by rw [eq_c hc])
  · have s3 := q5 3 (by decide) (by decide); have s4 := q5 4 (by decide) (by decide)
    rw [r.C3, q.C3] at s3; rw [r.C4, q.C4] at s4
    obtain rfl := eqK (by decide) s4
    obtain rfl := eq_c (eqK (by decide) s3)
    rw [r.C2, q.C2] at q4 ⊢
    refine ⟨fin 1 ?_ ?_, low_of (by decide) (by decide) ((kdiff 2).trans (congrArg _ (sub_c.trans sub_c))) r.p2 q.p2 r.le3.2.1 q.le3.2.1⟩
    · rw [r.num, q.num, div_step _ r.p1 r.lt8.1, div_step _ q.p1 q.lt8.1, div_step _ r.p2 r.lt8.2.1, div_step _ q.p2 q.lt8.2.1]
    · rw [r.num, q.num, div_step _ r.p1 r.lt8.1, div_step _ q.p1 q.lt8.1, z0, z0]
      exact fun hc => q4 (by rw [eq_c hc])
  · have s4 := q5 4 (by decide) (by decide)
    rw [r.C4, q.C4] at s4
    obtain rfl := eqK (by decide) s4
    rw [r.C3, q.C3] at q4 ⊢
    refine ⟨fin 2 ?_ ?_, low_of (by decide) (by decide) ((kdiff 3).trans (congrArg _ sub_c)) r.p3 q.p3 r.le3.2.2.1 q.le3.2.2.1⟩
    · rw [r.num, q.num, div_step _ r.p1 r.lt8.1, div_step _ q.p1 q.lt8.1, div_step _ r.p2 r.lt8.2.1, div_step _ q.p2 q.lt8.2.1, div_step _ r.p3 r.lt8.2.2.1, div_step _ q.p3 q.lt8.2.2.1]
    · rw [r.num, q.num, div_step _ r.p1 r.lt8.1, div_step _ q.p1 q.lt8.1, div_step _ r.p2 r.lt8.2.1, div_step _ q.p2 q.lt8.2.1, z0, z0]
      exact fun hc => q4 (by rw [eq_c hc])
  · rw [r.C4, q.C4] at q4 ⊢
    refine ⟨fin 3 ?_ ?_, low_of (by decide) (by decide) (kdiff 4) r.p4 q.p4 r.le3.2.2.2 q.le3.2.2.2⟩
    · rw [r.num, q.num, div_step _ r.p1 r.lt8.1, div_step _ q.p1 q.lt8.1, div_step _ r.p2 r.lt8.2.1, div_step _ q.p2 q.lt8.2.1, div_step _ r.p3 r.lt8.2.2.1, div_step _ q.p3 q.lt8.2.2.1, div_step _ r.p4 r.lt8.2.2.2.1, div_step _ q.p4 q.lt8.2.2.2.1]
    · rw [r.num, q.num, div_step _ r.p1 r.lt8.1, div_step _ q.p1 q.lt8.1, div_step _ r.p2 r.lt8.2.1, div_step _ q.p2 q.lt8.2.1, div_step _ r.p3 r.lt8.2.2.1, div_step _ q.p3 q.lt8.2.2.1, z0, z0]
      exact fun hc => q4 (by rw [eq_c hc])
theorem top_is {fs fs' : List Int} {top top' : Int} (e : fs ++ [top] = fs' ++ [top']) : top' = top := by
  have := congrArg List.getLast? e
  rw [List.getLast?_concat, List.getLast?_concat] at this
  exact (Option.some.inj this).symm
theorem pf_low (r : RF xs c1 c2 c3 c4 t n h) (q : RF ys d1 d2 d3 d4 u m k) (fs : List Int) (top : Int) (hf : farTo xs ys 6 = fs ++ [top]) (h6 : top ≠ 6) :
    ∃ rs, rowsTo (wsOf xs) (wsOf ys) (reach (wsOf xs) (wsOf ys)).toNat = rs ++ [(top, colOf top xs, colOf top ys)] ∧ 1 ≤ top ∧ top ≤ 5 ∧ ndig 3 (Builtin.bitXor (numOf (wsOf xs)) (numOf (wsOf ys))) = top.toNat ∧
    -256 ≤ colOf top xs - colOf top ys ∧ colOf top xs - colOf top ys < 256 ∧ (colOf top xs - colOf top ys) / top = (mineOf (numOf (wsOf xs))).getD (top - 1).toNat 0 - (mineOf (numOf (wsOf ys))).getD (top - 1).toNat 0 ∧ (colOf top xs - colOf top ys) % top = 0 ∧ True := by
  rcases far_last xs ys 6 with ⟨q1, _⟩ | ⟨fs', top', q1, q2, q3, q4, q5⟩
  · rw [hf] at q1; simp at q1
  obtain rfl := top_is (hf.symm.trans q1)
  have lt6 : top' < 6 := Int.lt_iff_le_and_ne.mpr ⟨q3, h6⟩
  have s6 := q5 6 lt6 (by decide)
  rw [r.C6, q.C6] at s6
  first | ((first | refine ex0_2 (eqN r.t0 (Int.lt_of_le_of_lt r.t5 (by decide)) q.t0 (Int.lt_of_le_of_lt q.t5 (by decide)) s6) ?_ | refine ex1_1 (eqN r.t0 (Int.lt_of_le_of_lt r.t5 (by decide)) q.t0 (Int.lt_of_le_of_lt q.t5 (by decide)) s6) ?_); intro e1 e2) | obtain ⟨e1, e2⟩ := (eqN r.t0 (Int.lt_of_le_of_lt r.t5 (by decide)) q.t0 (Int.lt_of_le_of_lt q.t5 (by decide)) s6)
  subst e1; subst e2
  have n5 : top' ≠ 5 := fun e => by
    subst e
    rw [r.C5, q.C5] at q4
    exact q4 rfl
  have h4 : top' ≤ 4 := Int.le_of_lt_add_one (Int.lt_iff_le_and_ne.mpr ⟨Int.le_of_lt_add_one lt6, n5⟩)
  first | ((first | refine ex0_7 (reach_in r q) ?_ | refine ex1_6 (reach_in r q) ?_ | refine ex2_5 (reach_in r q) ?_ | refine ex5_2 (reach_in r q) ?_); intro w1 w2 w3 w4 w5 w6 _) | obtain ⟨w1, w2, w3, w4, w5, w6, _⟩ := (reach_in r q)
  have hN : top' ≤ reach (wsOf xs) (wsOf ys) := Int.not_lt.mp fun hc => q4 (by
    rw [r.wide q2 q3 (Int.le_trans w5 (Int.le_of_lt hc)), q.wide q2 q3 (Int.le_trans w6 (Int.le_of_lt hc))])
  first | ((first | refine ex0_2 (row_low r q q2 hN q4 fun s hs h => q5 s hs (Int.le_trans h w2)) ?_ | refine ex1_1 (row_low r q q2 hN q4 fun s hs h => q5 s hs (Int.le_trans h w2)) ?_); intro rs hrs) | obtain ⟨rs, hrs⟩ := (row_low r q q2 hN q4 fun s hs h => q5 s hs (Int.le_trans h w2))
  first | ((first | refine ex0_5 (low_parts r q q2 h4 q4 q5) ?_ | refine ex1_4 (low_parts r q q2 h4 q4 q5) ?_ | refine ex2_3 (low_parts r q q2 h4 q4 q5) ?_ | refine ex3_2 (low_parts r q q2 h4 q4 q5) ?_); intro p1 p2 p3 p4 p5) | obtain ⟨p1, p2, p3, p4, p5⟩ := (low_parts r q q2 h4 q4 q5)
  exact ⟨rs, hrs, q2, Int.le_trans h4 (by decide), p1, p2, p3, p4, p5, trivial⟩
end
end
section
section
variable {xs ys : List Int} {c1 c2 c3 c4 t n h d1 d2 d3 d4 u m k : Int}
theorem wide_in {t N n : Int} (h1 : 1 ≤ N) (h6 : N ≤ 6) (t0 : 0 ≤ t) (t5 : t ≤ 5) (n0 : 0 ≤ n) (n3 : n ≤ 3) : 0 ≤ t + N * n ∧ t + N * n < 256 := by
  rcases six_of h1 h6 with rfl | rfl | rfl | rfl | rfl | rfl <;> exact ⟨by lia, by lia⟩
theorem div_wide {t N n : Int} (t0 : 0 ≤ t) (tN : t < N) : (t + N * n) / N = n ∧ (t + N * n) % N = t := by
  have hN : N ≠ 0 := Int.ne_of_gt (Int.lt_of_le_of_lt t0 tN)
  rw [Int.add_mul_ediv_left _ _ hN, Int.ediv_eq_zero_of_lt t0 tN, Int.zero_add, Int.add_mul_emod_self_left, Int.emod_eq_of_lt t0 tN]
  exact ⟨rfl, rfl⟩
theorem num_div4 (r : RF xs c1 c2 c3 c4 t n h) : numOf (wsOf xs) / 2 ^ (3 * 4) = t + 8 * n := by
  rw [r.num, div_step _ r.p1 r.lt8.1, div_step _ r.p2 r.lt8.2.1, div_step _ r.p3 r.lt8.2.2.1, div_step _ r.p4 r.lt8.2.2.2.1]
  exact Int.ediv_one _
theorem num_div5 (r : RF xs c1 c2 c3 c4 t n h) : numOf (wsOf xs) / 2 ^ (3 * 5) = n := by
  rw [r.num, div_step _ r.p1 r.lt8.1, div_step _ r.p2 r.lt8.2.1, div_step _ r.p3 r.lt8.2.2.1, div_step _ r.p4 r.lt8.2.2.2.1, div_step _ r.t0 r.t8]
  exact Int.ediv_one _
theorem ndig_six (r : RF xs c1 c2 c3 c4 t n h) (q : RF ys d1 d2 d3 d4 u m k) (hne : ¬ (t = u ∧ n = m)) : ndig 3 (Builtin.bitXor (numOf (wsOf xs)) (numOf (wsOf ys))) = if n = m then 5 else 6 := by
  by_cases e : n = m
  · rw [if_pos e]
    refine Nat.le_antisymm ((ndig_xor r.num_in.1 q.num_in.1 5).mpr ?_) (Nat.lt_of_not_le fun hc => hne ?_)
    · rw [num_div5 r, num_div5 q]; exact e
    · have h4 := (ndig_xor r.num_in.1 q.num_in.1 4).mp hc
      rw [num_div4 r, num_div4 q] at h4
      exact eqN r.t0 r.t8 q.t0 q.t8 h4
  · rw [if_neg e]
    refine Nat.le_antisymm ((ndig_xor r.num_in.1 q.num_in.1 6).mpr ?_) (Nat.lt_of_not_le fun hc => e ?_)
    · exact (Int.ediv_eq_zero_of_lt r.num_in.1 r.num_in.2).trans (Int.ediv_eq_zero_of_lt q.num_in.1 q.num_in.2).symm
    · have h5 := (ndig_xor r.num_in.1 q.num_in.1 5).mp hc
      rw [num_div5 r, num_div5 q] at h5
      exact h5
theorem pf_six (r : RF xs c1 c2 c3 c4 t n h) (q : RF ys d1 d2 d3 d4 u m k) (fs : List Int) (hf : farTo xs ys 6 = fs ++ [6]) :
    ∃ rs past, rowsTo (wsOf xs) (wsOf ys) (reach (wsOf xs) (wsOf ys)).toNat = rs ++ [(past, colOf past xs, colOf past ys)] ∧ past = reach (wsOf xs) (wsOf ys) ∧ 1 ≤ past ∧ past ≤ 6 ∧ 0 ≤ colOf past xs ∧ colOf past xs < 256 ∧ 0 ≤ colOf past ys ∧ colOf past ys < 256 ∧
      colOf past xs / past = n ∧ colOf past xs % past = t ∧ colOf past ys / past = m ∧ colOf past ys % past = u ∧ ndig 3 (Builtin.bitXor (numOf (wsOf xs)) (numOf (wsOf ys))) = if n = m then 5 else 6 := by
  rcases far_last xs ys 6 with ⟨q1, _⟩ | ⟨fs', top', q1, q2, q3, q4, q5⟩
  · rw [hf] at q1; simp at q1
  obtain rfl := top_is (hf.symm.trans q1)
  rw [r.C6, q.C6] at q4
  have hne : ¬ (t = u ∧ n = m) := fun e => q4 (by rw [e.1, e.2])
  first | ((first | refine ex0_7 (reach_in r q) ?_ | refine ex1_6 (reach_in r q) ?_ | refine ex2_5 (reach_in r q) ?_ | refine ex5_2 (reach_in r q) ?_); intro w1 w2 w3 w4 w5 w6 _) | obtain ⟨w1, w2, w3, w4, w5, w6, _⟩ := (reach_in r q)
  have hx := r.wide w1 w2 w5
  have hy := q.wide w1 w2 w6
  first | ((first | refine ex0_2 (row_low r q w1 (Int.le_refl _) (fun e => hne (by rw [hx, hy] at e; exact eqN r.t0 w3 q.t0 w4 e)) fun s hs h => absurd h (Int.not_le.mpr hs)) ?_ | refine ex1_1 (row_low r q w1 (Int.le_refl _) (fun e => hne (by rw [hx, hy] at e; exact eqN r.t0 w3 q.t0 w4 e)) fun s hs h => absurd h (Int.not_le.mpr hs)) ?_); intro rs hrs) | obtain ⟨rs, hrs⟩ := (row_low r q w1 (Int.le_refl _) (fun e => hne (by rw [hx, hy] at e; exact eqN r.t0 w3 q.t0 w4 e)) fun s hs h => absurd h (Int.not_le.mpr hs))
  refine ⟨rs, _, hrs, rfl, w1, w2, ?_⟩
  rw [hx, hy]
  have bx := wide_in w1 w2 r.t0 r.t5 r.lt8.2.2.2.2 r.n3
  have bY := wide_in w1 w2 q.t0 q.t5 q.lt8.2.2.2.2 q.n3
  have vx := div_wide (n := n) r.t0 w3
  have vy := div_wide (n := m) q.t0 w4
  exact ⟨bx.1, bx.2, bY.1, bY.2, vx.1, vx.2, vy.1, vy.2, ndig_six r q hne⟩
end
end
section
/-- the pieces of a text between its tabs, by their codes -/
def glue9 : List (List Int) → List Int
  | [] => []
  | [p] => p
  | p :: q :: r => p ++ 9 :: glue9 (q :: r)
theorem glue9_inj : ∀ (P Q : List (List Int)), P ≠ [] → Q ≠ [] → (∀ p ∈ P, (9 : Int) ∉ p) → (∀ p ∈ Q, (9 : Int) ∉ p) → glue9 P = glue9 Q → P = Q
  | [], _, h, _, _, _, _ => absurd rfl h
  | _ :: _, [], _, h, _, _, _ => absurd rfl h
  | [p], [q], _, _, _, _, e => by simp only [glue9] at e; rw [e]
  | [p], q :: q' :: r, _, _, hp, _, e => by
    simp only [glue9] at e
    exact absurd (e ▸ List.mem_append_right _ (.head _) : (9 : Int) ∈ p) (hp p (.head _))
  | p :: p' :: r, [q], _, _, _, hq, e => by
    simp only [glue9] at e
    exact absurd (e ▸ List.mem_append_right _ (.head _) : (9 : Int) ∈ q) (hq q (.head _))
  | p :: p' :: r, q :: q' :: s, _, _, hp, hq, e => by
    simp only [glue9] at e
    have h1 := hp p (.head _)
    have h2 := hq q (.head _)
    have key : ∀ (a b u v : List Int), (9 : Int) ∉ a → (9 : Int) ∉ b → a ++ 9 :: u = b ++ 9 :: v → a = b ∧ u = v := by
      intro a
      induction a with
      | nil =>
        intro b u v _ hb e
        cases b with
        | nil => simp at e; exact ⟨rfl, e⟩
        | cons x b => simp at e; exact absurd (e.1 ▸ List.mem_cons_self) hb
      | cons x a ih =>
        intro b u v ha hb e
        cases b with
        | nil => simp at e; exact absurd (e.1 ▸ List.mem_cons_self) ha
        | cons y b =>
          simp at e
          obtain ⟨e1, e2⟩ := ih b u v (fun h => ha (List.mem_cons_of_mem _ h)) (fun h => hb (List.mem_cons_of_mem _ h)) e.2
          exact ⟨by rw [e.1, e1], e2⟩
    obtain ⟨e1, e2⟩ := key p q _ _ h1 h2 e
    rw [e1, glue9_inj (p' :: r) (q' :: s) (by simp) (by simp) (fun x hx => hp x (.tail _ hx)) (fun x hx => hq x (.tail _ hx)) e2]
theorem glue9_codes : ∀ l : List Str, KStt.codes (Str.join (Str.ofString "\t") l) = glue9 (l.map KStt.codes)
  | [] => rfl
  | [x] => rfl
  | x :: y :: r => by
    show KStt.codes (x ++ (Str.ofString "\t") ++ Str.join (Str.ofString "\t") (y :: r)) = _
    rw [codes_app, codes_app, codes_tab, glue9_codes (y :: r)]
    simp only [List.map_cons, glue9]
    rw [List.append_assoc]
    rfl
theorem free_codes {x : Str} (h : 9 ∉ x.cps.toList) : (9 : Int) ∉ KStt.codes x := by
  intro hm
  obtain ⟨c, hc, e⟩ := List.mem_map.mp hm
  have : c = 9 := by omega
  exact h (this ▸ hc)
/-- the pieces of a text whose codes are written as pieces -/
theorem split_codes (x : Str) (P : List (List Int)) (hP : P ≠ []) (hf : ∀ p ∈ P, (9 : Int) ∉ p) (e : KStt.codes x = glue9 P) : (Txt.split x (Str.ofString "\t")).map KStt.codes = P := by
  have h1 := StrLaws.join_split x (Str.ofString "\t")
  have h2 := StrLaws.split_free x 9
  rw [← tab_is] at h2
  have h3 := congrArg KStt.codes h1
  rw [glue9_codes, e] at h3
  have h4 := split_pos x (Str.ofString "\t")
  refine glue9_inj _ _ (fun hn => ?_) hP (fun p hp => ?_) hf h3
  · have := congrArg List.length hn
    rw [List.length_map, List.length_nil] at this
    omega
  · obtain ⟨y, hy, rfl⟩ := List.mem_map.mp hp
    exact free_codes (h2 y hy)
def piecesOf (runs : List Int) (tail : Int) : List (List Int) := runs.map (fun r => List.replicate r.toNat 32) ++ [List.replicate tail.toNat 32]
theorem text_pieces : ∀ (runs : List Int) (tail : Int), textOf runs tail = glue9 (piecesOf runs tail)
  | [], tail => by simp [textOf, piecesOf, glue9]
  | r :: rs, tail => by
    have ih := text_pieces rs tail
    unfold textOf piecesOf at *
    cases rs with
    | nil => simp [glue9]
    | cons s rs =>
      simp only [List.map_cons, List.cons_append, glue9] at ih ⊢
      rw [List.flatMap_cons, List.append_assoc, ih, List.append_assoc]
      rfl
end
section
theorem glue9_app : ∀ (P Q : List (List Int)), P ≠ [] → Q ≠ [] → glue9 (P ++ Q) = glue9 P ++ 9 :: glue9 Q
  | [], _, h, _ => absurd rfl h
  | [p], [], _, h => absurd rfl h
  | [p], q :: r, _, _ => rfl
  | p :: p' :: r, Q, _, hQ => by
    show p ++ 9 :: glue9 (p' :: r ++ Q) = _
    rw [glue9_app (p' :: r) Q (by simp) hQ]
    simp only [glue9]
    rw [List.append_assoc]
    rfl
/-- the lengths of the pieces of two leads with a tab between -/
def lensOf (runs : List Int) (tail : Int) (runs' : List Int) (tail' : Int) : List Int := runs ++ [tail] ++ (runs' ++ [tail'])
theorem hi_is {runs : List Int} {tail : Int} (o : LOk runs tail) : hi runs = runs.foldl (fun a r => max a (r + 1)) 0 := by
  have h := List.all_eq_true.mp runs_ok _ (runs_all o)
  unfold runsOk at h
  simp only [Bool.and_eq_true, decide_eq_true_eq] at h
  exact h.1.1.2
theorem max_fold : ∀ (l : List Int) (a : Int), a ≤ l.foldl (fun a r => max a (r + 1)) a ∧ (∀ r ∈ l, r + 1 ≤ l.foldl (fun a r => max a (r + 1)) a) ∧ (l.foldl (fun a r => max a (r + 1)) a = a ∨ ∃ r ∈ l, l.foldl (fun a r => max a (r + 1)) a = r + 1)
  | [], a => ⟨Int.le_refl _, (fun _ h => nomatch h), .inl rfl⟩
  | x :: l, a => by
    first | ((first | refine ex0_3 (max_fold l (max a (x + 1))) ?_ | refine ex1_2 (max_fold l (max a (x + 1))) ?_ | refine ex2_1 (max_fold l (max a (x + 1))) ?_); intro h1 h2 h3) | obtain ⟨h1, h2, h3⟩ := (max_fold l (max a (x + 1)))
    rw [List.foldl_cons]
    refine ⟨by omega, fun r hr => ?_, ?_⟩
    · rcases List.mem_cons.mp hr with rfl | hr
      · omega
      · exact h2 r hr
    · rcases h3 with h3 | ⟨r, hr, h3⟩
      · rw [h3]
        rcases Int.le_total a (x + 1) with hl | hl
        · exact .inr ⟨x, .head _, Int.max_eq_right hl⟩
        · exact .inl (Int.max_eq_left hl)
      · exact .inr ⟨r, .tail _ hr, h3⟩
theorem past_max {runs runs' : List Int} {tail tail' : Int} (o : LOk runs tail) (o' : LOk runs' tail') :
    (∀ p ∈ lensOf runs tail runs' tail', p + 1 ≤ reach (wsOf (textOf runs tail)) (wsOf (textOf runs' tail'))) ∧ ∃ p ∈ lensOf runs tail runs' tail', reach (wsOf (textOf runs tail)) (wsOf (textOf runs' tail')) = p + 1 := by
  have r := lead_rf o
  have q := lead_rf o'
  first | ((first | refine ex0_7 (reach_in r q) ?_ | refine ex1_6 (reach_in r q) ?_ | refine ex2_5 (reach_in r q) ?_ | refine ex5_2 (reach_in r q) ?_); intro w1 w2 w3 w4 w5 w6 w7) | obtain ⟨w1, w2, w3, w4, w5, w6, w7⟩ := (reach_in r q)
  have m1 := max_fold runs 0
  have m2 := max_fold runs' 0
  rw [← hi_is o] at m1
  rw [← hi_is o'] at m2
  generalize reach (wsOf (textOf runs tail)) (wsOf (textOf runs' tail')) = N at *
  unfold lensOf
  constructor
  · intro p hp
    rcases List.mem_append.mp hp with hp | hp <;> rcases List.mem_append.mp hp with hp | hp
    · have := m1.2.1 p hp; omega
    · rw [List.mem_singleton.mp hp]; omega
    · have := m2.2.1 p hp; omega
    · rw [List.mem_singleton.mp hp]; omega
  · rcases w7 with e | e | e | e
    · exact ⟨tail, List.mem_append_left _ (List.mem_append_right _ (.head _)), e⟩
    · exact ⟨tail', List.mem_append_right _ (List.mem_append_right _ (.head _)), e⟩
    · rcases m1.2.2 with h | ⟨x, hx, h⟩
      · omega
      · exact ⟨x, List.mem_append_left _ (List.mem_append_left _ hx), by omega⟩
    · rcases m2.2.2 with h | ⟨x, hx, h⟩
      · omega
      · exact ⟨x, List.mem_append_right _ (List.mem_append_left _ hx), by omega⟩
end
section
theorem tabs_free (runs : List Int) (tail : Int) : ∀ p ∈ piecesOf runs tail, (9 : Int) ∉ p := by
  intro p hp h9
  unfold piecesOf at hp
  rcases List.mem_append.mp hp with hp | hp
  · first | ((first | refine ex0_3 (List.mem_map.mp hp) ?_ | refine ex1_2 (List.mem_map.mp hp) ?_ | refine ex2_1 (List.mem_map.mp hp) ?_); intro r _ hr9_0; subst hr9_0) | obtain ⟨r, _, rfl⟩ := (List.mem_map.mp hp)
    exact absurd (List.eq_of_mem_replicate h9) (by decide)
  · rw [List.mem_singleton.mp hp] at h9
    exact absurd (List.eq_of_mem_replicate h9) (by decide)
theorem lead_split {x : Str} {runs : List Int} {tail : Int} (cx : KStt.codes x = textOf runs tail) : (Txt.split x (Str.ofString "\t")).map KStt.codes = piecesOf runs tail :=
  split_codes x (piecesOf runs tail) (by simp [piecesOf]) (tabs_free runs tail) (by rw [cx, text_pieces])
theorem lead_count {x : Str} {runs : List Int} {tail : Int} (cx : KStt.codes x = textOf runs tail) : Txt.count x (Str.ofString "\t") = (runs.length : Int) := by
  have h := congrArg List.length (lead_split cx)
  rw [List.length_map] at h
  have h1 := split_len x 9
  have h2 := count_cnt x 9
  rw [← tab_is] at h1 h2
  rw [h2]
  unfold piecesOf at h
  rw [List.length_append, List.length_map, List.length_singleton] at h
  omega
theorem lead_last {x : Str} {runs : List Int} {tail : Int} (o : LOk runs tail) (cx : KStt.codes x = textOf runs tail) {lst : List (Str × Tok)} (el : lst.map (·.1) = Txt.split x (Str.ofString "\t")) :
    ∃ us s t, strValues lst = us ++ [.str s t] ∧ (s.length : Int) = tail := by
  have h := lead_split cx
  rw [← el] at h
  rcases List.eq_nil_or_concat lst with rfl | ⟨l, p, rfl⟩
  · simp [piecesOf] at h
  · rw [List.concat_eq_append] at h ⊢
    unfold piecesOf at h
    rw [List.map_append, List.map_append] at h
    have h2 := (List.append_inj' h rfl).2
    refine ⟨strValues l, p.1, p.2, by simp [strValues], ?_⟩
    have h3 : KStt.codes p.1 = List.replicate tail.toNat 32 := by simpa using h2
    rw [← KStt.codes_length, h3, List.length_replicate, Int.toNat_of_nonneg o.t0]
end
section
/-- a list of places sorted by a worth -/
def SortedBy (v : Int → Int) (l : List Int) : Prop := l.Pairwise fun a b => v a ≤ v b
/-- how many stand ahead: those with v k ≤ x -/
def cntLe (v : Int → Int) (x : Int) (l : List Int) : Nat := (l.filter fun k => decide (v k ≤ x)).length
def cntLt (v : Int → Int) (x : Int) (l : List Int) : Nat := (l.filter fun k => decide (v k < x)).length
theorem cntLe_le (v : Int → Int) (x : Int) (l : List Int) : cntLe v x l ≤ l.length := List.length_filter_le _ _
theorem cntLt_le (v : Int → Int) (x : Int) (l : List Int) : cntLt v x l ≤ l.length := List.length_filter_le _ _
theorem le_split {v : Int → Int} {x : Int} : ∀ {l : List Int}, SortedBy v l → (∀ i, i < cntLe v x l → v (l.getD i 0) ≤ x) ∧ ∀ i, cntLe v x l ≤ i → i < l.length → x < v (l.getD i 0)
  | [], _ => ⟨fun i h => by simp [cntLe] at h, fun i _ h => by simp at h⟩
  | k :: l, h => by
    have h1 := List.pairwise_cons.mp h
    first | ((first | refine ex0_2 (le_split (x := x) h1.2) ?_ | refine ex1_1 (le_split (x := x) h1.2) ?_); intro i1 i2) | obtain ⟨i1, i2⟩ := (le_split (x := x) h1.2)
    by_cases hk : v k ≤ x
    · have e : cntLe v x (k :: l) = cntLe v x l + 1 := by unfold cntLe; rw [List.filter_cons_of_pos (by simpa using hk)]; rfl
      rw [e]
      refine ⟨fun i hi => ?_, fun i hi hl => ?_⟩
      · cases i with
        | zero => exact hk
        | succ i => exact i1 i (by omega)
      · cases i with
        | zero => omega
        | succ i => exact i2 i (by omega) (by simpa using hl)
    · have hall : ∀ a ∈ l, x < v a := fun a ha => by have := h1.1 a ha; omega
      have e : cntLe v x (k :: l) = 0 := by
        unfold cntLe
        rw [List.filter_cons_of_neg (by simpa using hk), List.length_eq_zero_iff, List.filter_eq_nil_iff]
        intro a ha
        have := hall a ha
        simp; omega
      rw [e]
      refine ⟨fun i hi => absurd hi (Nat.not_lt_zero _), fun i _ hl => ?_⟩
      cases i with
      | zero => show x < v k; omega
      | succ i =>
        have hl' : i < l.length := by simpa using hl
        show x < v (l.getD i 0)
        rw [List.getD_eq_getElem?_getD, List.getElem?_eq_getElem hl']
        exact hall _ (List.getElem_mem hl')
theorem lt_split {v : Int → Int} {x : Int} : ∀ {l : List Int}, SortedBy v l → (∀ i, i < cntLt v x l → v (l.getD i 0) < x) ∧ ∀ i, cntLt v x l ≤ i → i < l.length → ¬ v (l.getD i 0) < x := by
  intro l h
  have e : cntLt v x l = cntLe v (x - 1) l := by
    unfold cntLt cntLe
    congr 1
    refine List.filter_congr fun a _ => ?_
    rw [decide_eq_decide]; omega
  first | ((first | refine ex0_2 (le_split (x := x - 1) h) ?_ | refine ex1_1 (le_split (x := x - 1) h) ?_); intro a b) | obtain ⟨a, b⟩ := (le_split (x := x - 1) h)
  rw [e]
  exact ⟨fun i hi => by have := a i hi; omega, fun i hi hl => by have := b i hi hl; omega⟩
theorem ins_sorted {v : Int → Int} {x : Int} {l : List Int} {j : Nat} (h : SortedBy v l) (ha : ∀ i, i < j → i < l.length → v (l.getD i 0) ≤ v x) (hb : ∀ i, j ≤ i → i < l.length → v x ≤ v (l.getD i 0)) : SortedBy v (l.take j ++ x :: l.drop j) := by
  unfold SortedBy at *
  have hat : ∀ a ∈ l.take j, v a ≤ v x := fun a hm => by
    first | ((first | refine ex0_3 (List.getElem_of_mem hm) ?_ | refine ex1_2 (List.getElem_of_mem hm) ?_ | refine ex2_1 (List.getElem_of_mem hm) ?_); intro i hi hr9_0; subst hr9_0) | obtain ⟨i, hi, rfl⟩ := (List.getElem_of_mem hm)
    rw [List.length_take] at hi
    have := ha i (by omega) (by omega)
    rw [List.getD_eq_getElem?_getD, List.getElem?_eq_getElem (by omega)] at this
    rw [List.getElem_take]
    exact this
  have hbt : ∀ a ∈ l.drop j, v x ≤ v a := fun a hm => by
    first | ((first | refine ex0_3 (List.getElem_of_mem hm) ?_ | refine ex1_2 (List.getElem_of_mem hm) ?_ | refine ex2_1 (List.getElem_of_mem hm) ?_); intro i hi hr9_0; subst hr9_0) | obtain ⟨i, hi, rfl⟩ := (List.getElem_of_mem hm)
    rw [List.length_drop] at hi
    have := hb (j + i) (by omega) (by omega)
    rw [List.getD_eq_getElem?_getD, List.getElem?_eq_getElem (by omega)] at this
    rw [List.getElem_drop]
    exact this
  have h0 : (l.take j ++ l.drop j).Pairwise fun a b => v a ≤ v b := by rw [List.take_append_drop]; exact h
  first | ((first | refine ex0_3 (List.pairwise_append.mp h0) ?_ | refine ex1_2 (List.pairwise_append.mp h0) ?_ | refine ex2_1 (List.pairwise_append.mp h0) ?_); intro p1 p2 p3) | obtain ⟨p1, p2, p3⟩ := (List.pairwise_append.mp h0)
  refine List.pairwise_append.mpr ⟨p1, List.pairwise_cons.mpr ⟨hbt, p2⟩, fun a hm b hm' => ?_⟩
  rcases List.mem_cons.mp hm' with rfl | hm'
  · exact hat a hm
  · exact p3 a hm b hm'
end
section
theorem codes_mark : KStt.codes (Str.ofString "x\t ") = [120, 9, 32] := by
  have e : (Str.ofString "x\t ") = { cps := #[120, 9, 32] } := by decide +kernel
  rw [e]; rfl
theorem blank_in : ∀ (l : List Int), (∀ c ∈ l, c = 32 ∨ c = 9) → (l ++ [120, 9, 32]).takeWhile blank = l := by
  intro l
  induction l with
  | nil => intro _; rfl
  | cons c r ih =>
    intro h
    have hc : blank c = true := by rcases h c List.mem_cons_self with rfl | rfl <;> rfl
    rw [List.cons_append, List.takeWhile_cons, if_pos hc, ih fun d hd => h d (List.mem_cons_of_mem _ hd)]
theorem mark_len (x : Str) (h : x.length ≤ 20) : (x ++ Str.ofString "x\t ").length ≤ 100 := by
  have e : (Str.ofString "x\t ").length = 3 := by decide +kernel
  rw [Str.length_append, e]; omega
theorem ws_mark (x : Str) (hx : ∀ c ∈ KStt.codes x, c = 32 ∨ c = 9) : wsOf ((KStt.codes (x ++ Str.ofString "x\t ")).takeWhile blank) = wsOf (KStt.codes x) := by
  rw [codes_app, codes_mark, blank_in _ hx]
/-- the ledger behind a call that made ex: the tables first, the rest one list -/
theorem grow {h₀ h : Heap} {L : Addr} {a b : Obj} {ex R : List (Addr × Obj)} (N : News h₀ L h (ex ++ (80, a) :: (73, b) :: R)) (o : ∀ p ∈ ex, ∀ q ∈ (80, a) :: (73, b) :: R, @LT.lt Nat _ q.1 p.1) (hO : ∀ p ∈ R, p.1 ≠ 80) (hO' : ∀ p ∈ R, p.1 ≠ 73) :
    ∃ R', (∀ p ∈ R, p ∈ R') ∧ (∀ p ∈ ex, p ∈ R') ∧ (∀ p ∈ R', p.1 ≠ 80) ∧ (∀ p ∈ R', p.1 ≠ 73) ∧ News h₀ L h ((80, a) :: (73, b) :: R') := by
  refine ⟨ex ++ R, fun p hp => List.mem_append_right _ hp, fun p hp => List.mem_append_left _ hp, fun p hp => ?_, fun p hp => ?_, cb_drop N fun p hp => ?_⟩
  · exact (List.mem_append.mp hp).elim (fun h => Nat.ne_of_gt (o p h _ (.head _))) fun h => hO p h
  · exact (List.mem_append.mp hp).elim (fun h => Nat.ne_of_gt (o p h _ (.tail _ (.head _)))) fun h => hO' p h
  · (revert p; (repeat' first | refine List.forall_mem_cons.mpr ⟨?_, ?_⟩ | refine List.forall_mem_append.mpr ⟨?_, ?_⟩); all_goals (try intro p hp); all_goals (repeat' first | assumption | exact List.Mem.head _ | exact List.mem_append_left _ (by assumption) | exact List.mem_append_right _ (by assumption) | exact absurd hp List.not_mem_nil | refine List.Mem.tail _ ?_ | refine List.mem_append_right _ ?_))
theorem grow0 {h₀ h : Heap} {L c d : Addr} {a b : Obj} {oc od : Obj} {R : List (Addr × Obj)} (N : News h₀ L h ((c, oc) :: (d, od) :: (80, a) :: (73, b) :: R)) (hc : @LT.lt Nat _ 80 d) (hcd : @LT.lt Nat _ d c) (hO : ∀ p ∈ R, p.1 ≠ 80) (hO' : ∀ p ∈ R, p.1 ≠ 73) :
    ∃ R', (∀ p ∈ R, p ∈ R') ∧ (c, oc) ∈ R' ∧ (d, od) ∈ R' ∧ (∀ p ∈ R', p.1 ≠ 80) ∧ (∀ p ∈ R', p.1 ≠ 73) ∧ News h₀ L h ((80, a) :: (73, b) :: R') := by
  have h73 : @LT.lt Nat _ 73 d := Nat.lt_trans (show 73 < 80 by decide) hc
  refine ⟨(c, oc) :: (d, od) :: R, fun p hp => .tail _ (.tail _ hp), .head _, .tail _ (.head _), List.forall_mem_cons.mpr ⟨Nat.ne_of_gt (Nat.lt_trans hc hcd), List.forall_mem_cons.mpr ⟨Nat.ne_of_gt hc, hO⟩⟩, List.forall_mem_cons.mpr ⟨Nat.ne_of_gt (Nat.lt_trans h73 hcd), List.forall_mem_cons.mpr ⟨Nat.ne_of_gt h73, hO'⟩⟩, cb_drop N fun p hp => ?_⟩
  (revert p; (repeat' first | refine List.forall_mem_cons.mpr ⟨?_, ?_⟩ | refine List.forall_mem_append.mpr ⟨?_, ?_⟩); all_goals (try intro p hp); all_goals (repeat' first | assumption | exact List.Mem.head _ | exact List.mem_append_left _ (by assumption) | exact List.mem_append_right _ (by assumption) | exact absurd hp List.not_mem_nil | refine List.Mem.tail _ ?_ | refine List.mem_append_right _ ?_))
theorem WhiteIn.one {R : List (Addr × Obj)} {x : Addr} {st : WS} {a : Addr × Obj} (h : WhiteIn R x st) : WhiteIn (a :: R) x st := h.mono fun _ hp => .tail _ hp
theorem WhiteIn.two {R : List (Addr × Obj)} {x : Addr} {st : WS} {a b : Addr × Obj} (h : WhiteIn R x st) : WhiteIn (a :: b :: R) x st := h.one.one
abbrev d2iQ : Str := Str.ofString "_digits2int.<locals>.inner"
abbrev i2dQ : Str := Str.ofString "_int2digits.<locals>.inner"
theorem off80 {R : List (Addr × Obj)} {b : Obj} (h : ∀ p ∈ R, p.1 ≠ 80) : ∀ p ∈ ((73 : Addr), b) :: R, p.1 ≠ 80 := List.forall_mem_cons.mpr ⟨(show (73 : Nat) ≠ 80 by decide), h⟩
theorem off73 {R : List (Addr × Obj)} {b : Obj} (h : ∀ p ∈ R, p.1 ≠ 73) : ∀ p ∈ ((80 : Addr), b) :: R, p.1 ≠ 73 := List.forall_mem_cons.mpr ⟨(show (80 : Nat) ≠ 73 by decide), h⟩
/-- the ledger behind a call that wrote the first table -/
theorem growT80 {h₀ h : Heap} {L : Addr} {ps' qs : Array Value} {ex R R₀ : List (Addr × Obj)} (N : News h₀ L h ((80, tabObj ps') :: (ex ++ (73, tabObj qs) :: R))) (o : ∀ p ∈ ex, ∀ q ∈ (73, tabObj qs) :: R, @LT.lt Nat _ q.1 p.1) (z : ∀ p ∈ ex, @LT.lt Nat _ 80 p.1)
    (hO : ∀ p ∈ R, p.1 ≠ 80) (hO' : ∀ p ∈ R, p.1 ≠ 73) (g : TabG d2iQ ps' (ex ++ R₀)) (g2 : TabG i2dQ qs R₀) (hR : ∀ p ∈ R₀, p ∈ R) :
    ∃ R' S, (∀ p ∈ R, p ∈ R') ∧ (∀ p ∈ R₀, p ∈ S) ∧ (∀ p ∈ S, p ∈ R') ∧ (∀ p ∈ R', p.1 ≠ 80) ∧ (∀ p ∈ R', p.1 ≠ 73) ∧ TabG d2iQ ps' S ∧ TabG i2dQ qs S ∧ News h₀ L h ((80, tabObj ps') :: (73, tabObj qs) :: R') := by
  refine ⟨ex ++ R, ex ++ R₀, fun p hp => List.mem_append_right _ hp, fun p hp => List.mem_append_right _ hp, fun p hp => (List.mem_append.mp hp).elim (List.mem_append_left _) fun h => List.mem_append_right _ (hR p h), fun p hp => ?_, fun p hp => ?_, g, g2.mono fun p hp => List.mem_append_right _ hp, cb_drop N fun p hp => ?_⟩
  · exact (List.mem_append.mp hp).elim (fun h => Nat.ne_of_gt (z p h)) fun h => hO p h
  · exact (List.mem_append.mp hp).elim (fun h => Nat.ne_of_gt (o p h _ (.head _))) fun h => hO' p h
  · (revert p; (repeat' first | refine List.forall_mem_cons.mpr ⟨?_, ?_⟩ | refine List.forall_mem_append.mpr ⟨?_, ?_⟩); all_goals (try intro p hp); all_goals (repeat' first | assumption | exact List.Mem.head _ | exact List.mem_append_left _ (by assumption) | exact List.mem_append_right _ (by assumption) | exact absurd hp List.not_mem_nil | refine List.Mem.tail _ ?_ | refine List.mem_append_right _ ?_))
/-- the ledger behind a call that wrote the second table and made a list -/
theorem growT73 {h₀ h : Heap} {L l : Addr} {ol : Obj} {ps qs' : Array Value} {ex R R₀ : List (Addr × Obj)} (N : News h₀ L h ((l, ol) :: (73, tabObj qs') :: (ex ++ (80, tabObj ps) :: R))) (o : ∀ p ∈ ex, ∀ q ∈ (80, tabObj ps) :: R, @LT.lt Nat _ q.1 p.1) (z : ∀ p ∈ ex, @LT.lt Nat _ 73 p.1)
    (ol' : ∀ q ∈ (80, tabObj ps) :: R, @LT.lt Nat _ q.1 l) (zl : @LT.lt Nat _ 73 l)
    (hO : ∀ p ∈ R, p.1 ≠ 80) (hO' : ∀ p ∈ R, p.1 ≠ 73) (g : TabG i2dQ qs' (ex ++ R₀)) (g2 : TabG d2iQ ps R₀) (hR : ∀ p ∈ R₀, p ∈ R) :
    ∃ R' S, (∀ p ∈ R, p ∈ R') ∧ (l, ol) ∈ R' ∧ (∀ p ∈ R₀, p ∈ S) ∧ (∀ p ∈ S, p ∈ R') ∧ (∀ p ∈ R', p.1 ≠ 80) ∧ (∀ p ∈ R', p.1 ≠ 73) ∧ TabG d2iQ ps S ∧ TabG i2dQ qs' S ∧ News h₀ L h ((80, tabObj ps) :: (73, tabObj qs') :: R') := by
  refine ⟨(l, ol) :: (ex ++ R), ex ++ R₀, fun p hp => .tail _ (List.mem_append_right _ hp), .head _, fun p hp => List.mem_append_right _ hp, fun p hp => .tail _ ((List.mem_append.mp hp).elim (List.mem_append_left _) fun h => List.mem_append_right _ (hR p h)), ?_, ?_, g2.mono fun p hp => List.mem_append_right _ hp, g, cb_drop N fun p hp => ?_⟩
  · refine List.forall_mem_cons.mpr ⟨Nat.ne_of_gt (ol' _ (.head _)), fun p hp => (List.mem_append.mp hp).elim (fun h => Nat.ne_of_gt (o p h _ (.head _))) fun h => hO p h⟩
  · refine List.forall_mem_cons.mpr ⟨Nat.ne_of_gt zl, fun p hp => (List.mem_append.mp hp).elim (fun h => Nat.ne_of_gt (z p h)) fun h => hO' p h⟩
  · (revert p; (repeat' first | refine List.forall_mem_cons.mpr ⟨?_, ?_⟩ | refine List.forall_mem_append.mpr ⟨?_, ?_⟩); all_goals (try intro p hp); all_goals (repeat' first | assumption | exact List.Mem.head _ | exact List.mem_append_left _ (by assumption) | exact List.mem_append_right _ (by assumption) | exact absurd hp List.not_mem_nil | refine List.Mem.tail _ ?_ | refine List.mem_append_right _ ?_))
example : True := by
  k_with "binaryOp Add ref ref" => (k_here; (with_reducible show wpAny _ _ (binaryOp _ (Value.ref _) (Value.ref _)) _ _ _); k_dflt (refine' kmk_add_ints ?F ?N ?a ?b ?i ?j ?_ ?z; (case F => k_asm); (case N => k_asm); (case a => exact News.isList (by k_asm) (by k_mem)); (case b => exact News.isList (by k_asm) (by k_mem)); (case i => assumption); (case j => l_ints); (case z => simp only [List.length_cons, List.length_nil]; exact Nat.le_trans (Nat.add_le_add_right (by assumption) _) (by decide : 6 + 6 ≤ sizeLine))); intro D' ws' h' F' N' l1 hi'; (try k_lt l1))
  trivial
theorem grow3 {h₀ h : Heap} {L : Addr} {o1 o2 oc od oe : Obj} {c d e : Addr} {R : List (Addr × Obj)} (N : News h₀ L h ((c, oc) :: (d, od) :: (e, oe) :: (80, o1) :: (73, o2) :: R)) (hc : @LT.lt Nat _ 80 c) (hd : @LT.lt Nat _ 80 d) (he : @LT.lt Nat _ 80 e) (hO : ∀ p ∈ R, p.1 ≠ 80) (hO' : ∀ p ∈ R, p.1 ≠ 73) :
    ∃ R', (∀ p ∈ R, p ∈ R') ∧ (c, oc) ∈ R' ∧ (∀ p ∈ R', p.1 ≠ 80) ∧ (∀ p ∈ R', p.1 ≠ 73) ∧ News h₀ L h ((80, o1) :: (73, o2) :: R') := by
  have h73 : ∀ {n : Nat}, 80 < n → n ≠ 73 := fun h => by omega
  refine ⟨(c, oc) :: (d, od) :: (e, oe) :: R, fun p hp => .tail _ (.tail _ (.tail _ hp)), .head _, List.forall_mem_cons.mpr ⟨Nat.ne_of_gt hc, List.forall_mem_cons.mpr ⟨Nat.ne_of_gt hd, List.forall_mem_cons.mpr ⟨Nat.ne_of_gt he, hO⟩⟩⟩, List.forall_mem_cons.mpr ⟨h73 hc, List.forall_mem_cons.mpr ⟨h73 hd, List.forall_mem_cons.mpr ⟨h73 he, hO'⟩⟩⟩, cb_drop N fun p hp => ?_⟩
  (revert p; (repeat' first | refine List.forall_mem_cons.mpr ⟨?_, ?_⟩ | refine List.forall_mem_append.mpr ⟨?_, ?_⟩); all_goals (try intro p hp); all_goals (repeat' first | assumption | exact List.Mem.head _ | exact List.mem_append_left _ (by assumption) | exact List.mem_append_right _ (by assumption) | exact absurd hp List.not_mem_nil | refine List.Mem.tail _ ?_ | refine List.mem_append_right _ ?_))
theorem grow1 {h₀ h : Heap} {L : Addr} {o1 o2 oc : Obj} {c : Addr} {R : List (Addr × Obj)} (N : News h₀ L h ((c, oc) :: (80, o1) :: (73, o2) :: R)) (o : LCg.Off1 c ((80, o1) :: (73, o2) :: R)) (hO : ∀ p ∈ R, p.1 ≠ 80) (hO' : ∀ p ∈ R, p.1 ≠ 73) :
    ∃ R', (∀ p ∈ R, p ∈ R') ∧ (c, oc) ∈ R' ∧ (∀ p ∈ R', p.1 ≠ 80) ∧ (∀ p ∈ R', p.1 ≠ 73) ∧ News h₀ L h ((80, o1) :: (73, o2) :: R') := by
  refine ⟨(c, oc) :: R, fun p hp => .tail _ hp, .head _, List.forall_mem_cons.mpr ⟨Ne.symm o.1, hO⟩, List.forall_mem_cons.mpr ⟨Ne.symm o.2.1, hO'⟩, cb_drop N fun p hp => ?_⟩
  (revert p; (repeat' first | refine List.forall_mem_cons.mpr ⟨?_, ?_⟩ | refine List.forall_mem_append.mpr ⟨?_, ?_⟩); all_goals (try intro p hp); all_goals (repeat' first | assumption | exact List.Mem.head _ | exact List.mem_append_left _ (by assumption) | exact List.mem_append_right _ (by assumption) | exact absurd hp List.not_mem_nil | refine List.Mem.tail _ ?_ | refine List.mem_append_right _ ?_))
theorem ints_last : ∀ {vs : List Value} {ns : List Int} {x : Int}, IntsAre vs (ns ++ [x]) → ∃ us, IntsAre us ns ∧ ∃ t, vs = us ++ [.int x t] := by
  intro vs ns
  induction ns generalizing vs with
  | nil =>
    intro x h
    cases h with
    | cons n t r => cases r; exact ⟨[], .nil, t, rfl⟩
  | cons n ns ih =>
    intro x h
    cases h with
    | cons n t r =>
      first | ((first | refine ex0_4 (ih r) ?_ | refine ex1_3 (ih r) ?_ | refine ex2_2 (ih r) ?_); intro us hi t' hr9_0; subst hr9_0) | obtain ⟨us, hi, t', rfl⟩ := (ih r)
      exact ⟨_ :: us, .cons n t hi, t', rfl⟩
section
variable {prog : Program} {w : World} {A : Around} {E : Value → Shared → Prop} {s : Shared} {h₀ : Heap} {L l b : Addr} {m : Str → Option Value} {news : List (Addr × Obj)} {vs : List Value} {n n2 : Nat} {Q : Value → Shared → Prop}
theorem my_eqNil0 (N : News h₀ L s.heap news) (hm : (l, W.listOf vs.toArray n) ∈ news) (hb : (b, W.listOf #[] n2) ∈ news) (hk : vs.length = 0) (hu : A.units < cLine)
    (h1 : Q (.bool true) s) : wpAny (model prog w) A (compareOp .Eq (.ref l) (.ref b)) Q E s := my_eqNil N hm hb hk hu (fun _ => h1) fun h => absurd h (Nat.lt_irrefl _)
theorem my_eqNilS (N : News h₀ L s.heap news) (hm : (l, W.listOf vs.toArray n) ∈ news) (hb : (b, W.listOf #[] n2) ∈ news) (hk : 0 < vs.length) (hu : A.units < cLine)
    (h0 : Q (.bool false) s) : wpAny (model prog w) A (compareOp .Eq (.ref l) (.ref b)) Q E s := my_eqNil N hm hb rfl hu (fun h => absurd h (Nat.ne_of_gt hk)) fun _ => h0
end
example : True := by
  k_with "compareOp Eq ref ref" => (k_here; k_dflt (refine' my_eqNil0 ?k1 ?k2 ?k3 ?k4 ?k5 ?_; (case k1 => k_asm); (case k2 => k_mem); (case k3 => k_mem); (case k4 => assumption); (case k5 => ktr_units)))
  trivial
example : True := by
  k_with "compareOp Eq ref ref" => (k_here; k_dflt (refine' my_eqNilS ?k1 ?k2 ?k3 ?k4 ?k5 ?_; (case k1 => k_asm); (case k2 => k_mem); (case k3 => k_mem); (case k4 => assumption); (case k5 => ktr_units)))
  trivial
section
variable {prog : Program} {w : World} {A : Around} {E : Value → Shared → Prop} {s : Shared} {h₀ : Heap} {L a b : Addr} {m : Str → Option Value} {news : List (Addr × Obj)} {vs us : List Value} {n n2 : Nat} {ns ms : List Int} {ts ts' : List (List Int)} {Q : Value → Shared → Prop}
theorem my_neTup0 (N : News h₀ L s.heap news) (hl : (a, ({ cls := .type "tuple", data := .seq vs.toArray n } : Obj)) ∈ news) (hb : (b, ({ cls := .type "tuple", data := .seq us.toArray n2 } : Obj)) ∈ news) (hi : IntsAre vs ns) (hj : IntsAre us ms) (hu : A.units + 64 < cLine) (e : ns = ms)
    (h : Q (.bool false) s) : wpAny (model prog w) A (compareOp .NotEq (.ref a) (.ref b)) Q E s := by
  subst e
  refine my_neTup N hl hb hi hj hu ?_
  simpa using h
theorem my_eqTup0 (N : News h₀ L s.heap news) (hl : (a, ({ cls := .type "tuple", data := .seq vs.toArray n } : Obj)) ∈ news) (hb : (b, ({ cls := .type "tuple", data := .seq us.toArray n2 } : Obj)) ∈ news) (hi : IntsAre vs ns) (hj : IntsAre us ms) (hu : A.units + 64 < cLine) (e : ns = ms)
    (h : Q (.bool true) s) : wpAny (model prog w) A (compareOp .Eq (.ref a) (.ref b)) Q E s := by
  subst e
  refine my_eqTup N hl hb hi hj hu ?_
  simpa using h
end
example : True := by
  k_with "compareOp NotEq ref ref" => (k_here; k_dflt (refine' my_neTup0 ?k1 ?k2 ?k3 ?k4 ?k5 ?k6 ?k7 ?_; (case k1 => k_asm); (case k2 => k_mem); (case k3 => k_mem); (case k4 => l_ints); (case k5 => l_ints); (case k6 => ktr_units); (case k7 => rfl)))
  trivial
example : True := by
  k_with "subscriptTail Name BinOp ref int" => (k_here; (with_reducible show wpAny _ _ (subscriptTail _ _ (Value.ref _) (Value.int _ _)) _ _ _); k_dflt (refine' my_itemL ?k1 ?k2 ?k3 ?k4 ?k5 ?k6 ?_ ?k7 ?k8; (case k1 => k_asm); (case k2 => k_mem); (case k3 => assumption); (case k4 => omega); (case k5 => omega); (case k6 => omega); (case k7 => with_unfolding_all rfl); (case k8 => intro _; with_unfolding_all rfl); k_whole); intro t')
  trivial
example : True := by
  k_with "subscriptTail Name Constant ref int" => (k_here; (with_reducible show wpAny _ _ (subscriptTail _ _ (Value.ref _) (Value.int _ _)) _ _ _); k_dflt (refine' my_itemL ?k1 ?k2 ?k3 ?k4 ?k5 ?k6 ?_ ?k7 ?k8; (case k1 => k_asm); (case k2 => k_mem); (case k3 => assumption); (case k4 => decide); (case k5 => omega); (case k6 => decide); (case k7 => with_unfolding_all rfl); (case k8 => intro _; with_unfolding_all rfl); k_whole); intro t')
  trivial
theorem drop2N {h₀ h : Heap} {L : Addr} {a b : Addr × Obj} {rest : List (Addr × Obj)} (N : News h₀ L h (a :: b :: rest)) : News h₀ L h rest := cb_drop N fun p hp => .tail _ (.tail _ hp)
theorem drop3N {h₀ h : Heap} {L : Addr} {a b c : Addr × Obj} {rest : List (Addr × Obj)} (N : News h₀ L h (a :: b :: c :: rest)) : News h₀ L h rest := cb_drop N fun p hp => .tail _ (.tail _ (.tail _ hp))
theorem compEnd_tup {h₀ : Heap} {L I C D T q : Addr} {m : Str → Option Value} {s₁ : Shared} {oI oC oD o oq : Obj} {S : List (Addr × Obj) → Prop} {rest : Value → List (Addr × Obj) → Prop} {y : Value} {h' : Heap} {tk : Nat} {news : List (Addr × Obj)}
    (F : Fr h₀ L h' m) (N : News h₀ L h' ((T, o) :: (q, oq) :: (I, oI) :: (C, oC) :: (D, oD) :: news)) (off : LCg.Off3 I C D news) (h1 : @Ne Nat T I) (h2 : @Ne Nat T C) (h3 : @Ne Nat T D) (hS : S ((T, o) :: news)) (r : rest y ((T, o) :: news)) :
    LCg.CompEnd h₀ L m s₁ I oI C oC D oD S rest y { s₁ with heap := h', toks := tk } :=
  LCg.CompEnd.intro F N ((T, o) :: news) (fun p hp => by
    (revert p; (repeat' first | refine List.forall_mem_cons.mpr ⟨?_, ?_⟩ | refine List.forall_mem_append.mpr ⟨?_, ?_⟩); all_goals (try intro p hp); all_goals (repeat' first | assumption | exact List.Mem.head _ | exact List.mem_append_left _ (by assumption) | exact List.mem_append_right _ (by assumption) | exact absurd hp List.not_mem_nil | refine List.Mem.tail _ ?_ | refine List.mem_append_right _ ?_))) ⟨⟨h1, h2, h3⟩, off⟩ hS r
theorem grow3n {h₀ h : Heap} {L : Addr} {o1 o2 oc od oe ou ov : Obj} {c d e u v : Addr} {R : List (Addr × Obj)} (N : News h₀ L h ((c, oc) :: (d, od) :: (e, oe) :: (u, ou) :: (v, ov) :: (80, o1) :: (73, o2) :: R)) (hc : @Ne Nat c 80) (hc' : @Ne Nat c 73) (hd : @Ne Nat d 80) (hd' : @Ne Nat d 73) (he : @Ne Nat e 80) (he' : @Ne Nat e 73) (hO : ∀ p ∈ R, p.1 ≠ 80) (hO' : ∀ p ∈ R, p.1 ≠ 73) :
    ∃ R', (∀ p ∈ R, p ∈ R') ∧ (c, oc) ∈ R' ∧ (d, od) ∈ R' ∧ (e, oe) ∈ R' ∧ (∀ p ∈ R', p.1 ≠ 80) ∧ (∀ p ∈ R', p.1 ≠ 73) ∧ News h₀ L h ((80, o1) :: (73, o2) :: R') := by
  refine ⟨(c, oc) :: (d, od) :: (e, oe) :: R, fun p hp => .tail _ (.tail _ (.tail _ hp)), .head _, .tail _ (.head _), .tail _ (.tail _ (.head _)), List.forall_mem_cons.mpr ⟨hc, List.forall_mem_cons.mpr ⟨hd, List.forall_mem_cons.mpr ⟨he, hO⟩⟩⟩, List.forall_mem_cons.mpr ⟨hc', List.forall_mem_cons.mpr ⟨hd', List.forall_mem_cons.mpr ⟨he', hO'⟩⟩⟩, cb_drop N fun p hp => ?_⟩
  (revert p; (repeat' first | refine List.forall_mem_cons.mpr ⟨?_, ?_⟩ | refine List.forall_mem_append.mpr ⟨?_, ?_⟩); all_goals (try intro p hp); all_goals (repeat' first | assumption | exact List.Mem.head _ | exact List.mem_append_left _ (by assumption) | exact List.mem_append_right _ (by assumption) | exact absurd hp List.not_mem_nil | refine List.Mem.tail _ ?_ | refine List.mem_append_right _ ?_))
theorem growDiv {h₀ h : Heap} {L D : Addr} {o : Obj} {ps' qs' : Array Value} {ex R R₀ : List (Addr × Obj)} (N : News h₀ L h ((D, o) :: (80, tabObj ps') :: (73, tabObj qs') :: (ex ++ R))) (g : TabG d2iQ ps' (ex ++ R₀)) (g2 : TabG i2dQ qs' (ex ++ R₀)) (z : ∀ p ∈ ex, @LT.lt Nat _ 80 p.1) (zD : @LT.lt Nat _ 80 D)
    (hO : ∀ p ∈ R, p.1 ≠ 80) (hO' : ∀ p ∈ R, p.1 ≠ 73) (hR : ∀ p ∈ R₀, p ∈ R) :
    ∃ R' S, (∀ p ∈ R, p ∈ R') ∧ (D, o) ∈ R' ∧ (∀ p ∈ S, p ∈ R') ∧ (∀ p ∈ R', p.1 ≠ 80) ∧ (∀ p ∈ R', p.1 ≠ 73) ∧ TabG d2iQ ps' S ∧ TabG i2dQ qs' S ∧ News h₀ L h ((80, tabObj ps') :: (73, tabObj qs') :: R') := by
  have h73 : ∀ {n : Nat}, 80 < n → n ≠ 73 := fun h => by omega
  refine ⟨(D, o) :: (ex ++ R), ex ++ R₀, fun p hp => .tail _ (List.mem_append_right _ hp), .head _, fun p hp => .tail _ ((List.mem_append.mp hp).elim (List.mem_append_left _) fun h => List.mem_append_right _ (hR p h)), ?_, ?_, g, g2, cb_drop N fun p hp => ?_⟩
  · exact List.forall_mem_cons.mpr ⟨Nat.ne_of_gt zD, fun p hp => (List.mem_append.mp hp).elim (fun h => Nat.ne_of_gt (z p h)) fun h => hO p h⟩
  · exact List.forall_mem_cons.mpr ⟨h73 zD, fun p hp => (List.mem_append.mp hp).elim (fun h => h73 (z p h)) fun h => hO' p h⟩
  · (revert p; (repeat' first | refine List.forall_mem_cons.mpr ⟨?_, ?_⟩ | refine List.forall_mem_append.mpr ⟨?_, ?_⟩); all_goals (try intro p hp); all_goals (repeat' first | assumption | exact List.Mem.head _ | exact List.mem_append_left _ (by assumption) | exact List.mem_append_right _ (by assumption) | exact absurd hp List.not_mem_nil | refine List.Mem.tail _ ?_ | refine List.mem_append_right _ ?_))
theorem my_neTupsF {prog : Program} {w : World} {A : Around} {E : Value → Shared → Prop} {s : Shared} {h₀ : Heap} {L a b : Addr} {news : List (Addr × Obj)} {vs us : List Value} {n n2 : Nat} {ts ts' : List (List Int)} {Q : Value → Shared → Prop}
    (N : News h₀ L s.heap news) (hl : (a, W.listOf vs.toArray n) ∈ news) (hb : (b, W.listOf us.toArray n2) ∈ news) (hi : TupsAre news vs ts) (hj : TupsAre news us ts') (hu : A.units + 64 < cLine) (e : ts = ts')
    (h : Q (.bool false) s) : wpAny (model prog w) A (compareOp .NotEq (.ref a) (.ref b)) Q E s := by
  subst e
  refine my_neTups N hl hb hi hj hu ?_
  simpa using h
theorem my_itemV {prog : Program} {w : World} {A : Around} {E : Value → Shared → Prop} {s : Shared} {h₀ : Heap} {L l : Addr} {news : List (Addr × Obj)} {vs : List Value} {n : Nat} {Q : Value → Shared → Prop} {value slice : PySem.Expr} {k : Int} {u : Tok} {x : Value} (N : News h₀ L s.heap news) (hm : (l, W.listOf vs.toArray n) ∈ news) (h0 : 0 ≤ k) (hfit : k < 2 ^ 63) (hx : vs[k.toNat]? = some x)
    (h : Q x s)
    (hs : subscripted slice false (.ref l) (.int k u) = operate [.ref l, .int k u] (getItem (.ref l) (.int k u)) := by with_unfolding_all rfl) (hg : ∀ r, letTemporaryGo value (.ref l) r = pure () := by intro _; with_unfolding_all rfl) :
    wpAny (model prog w) A (subscriptTail value slice (.ref l) (.int k u)) Q E s :=
  item_list (News.isList N hm) h0 hfit (by simpa using hx) h hs hg
example : True := by
  k_with "subscriptTail Name Constant ref int" => (k_here; (with_reducible show wpAny _ _ (subscriptTail _ _ (Value.ref _) (Value.int _ _)) _ _ _); k_dflt (refine' my_itemV ?k1 ?k2 ?k4 ?k6 ?k3 ?_ ?k7 ?k8; (case k1 => k_asm); (case k2 => k_mem); (case k4 => decide); (case k6 => decide); (case k3 => rfl); (case k7 => with_unfolding_all rfl); (case k8 => intro _; with_unfolding_all rfl); k_whole))
  trivial
theorem my_itemTV {prog : Program} {w : World} {A : Around} {E : Value → Shared → Prop} {s : Shared} {h₀ : Heap} {L l : Addr} {news : List (Addr × Obj)} {vs : List Value} {n : Nat} {Q : Value → Shared → Prop} {value slice : PySem.Expr} {k : Int} {u : Tok} {x : Value} (N : News h₀ L s.heap news) (hm : (l, ({ cls := .type "tuple", data := .seq vs.toArray n } : Obj)) ∈ news) (h0 : 0 ≤ k) (hk : k < 64) (hx : vs[k.toNat]? = some x)
    (h : Q x s)
    (hs : subscripted slice false (.ref l) (.int k u) = operate [.ref l, .int k u] (getItem (.ref l) (.int k u)) := by with_unfolding_all rfl) :
    wpAny (model prog w) A (subscriptTail value slice (.ref l) (.int k u)) Q E s := by
  have hlen : k.toNat < vs.length := by
    rcases Nat.lt_or_ge k.toNat vs.length with h | h
    · exact h
    · rw [List.getElem?_eq_none h] at hx; cases hx
  exact item_tupleT (News.isTup N hm) (by omega) (by omega) (seqIx h0 (by omega)) hx h hs
example : True := by
  k_with "subscriptTail" => (k_here; (with_reducible show wpAny _ _ (subscriptTail (PySem.Expr.Subscript _ _ _) _ (Value.ref _) (Value.int _ _)) _ _ _); k_dflt (refine' my_itemTV ?k1 ?k2 ?k4 ?k5 ?k3 ?_ ?k7; (case k1 => k_asm); (case k2 => k_mem); (case k4 => decide); (case k5 => decide); (case k3 => rfl); (case k7 => with_unfolding_all rfl); k_whole))
  trivial
example : True := by
  k_with "subscriptTail" => (k_here; (with_reducible show wpAny _ _ (subscriptTail (PySem.Expr.Call _ _ _ _) _ (Value.ref _) (Value.int _ _)) _ _ _); k_dflt (refine' my_last ?k1 ?k2 ?_ ?k7; (case k1 => k_asm); (case k2 => k_mem); (case k7 => with_unfolding_all rfl); k_whole))
  trivial
theorem RF.digs8 {xs : List Int} {c1 c2 c3 c4 t n h : Int} (r : RF xs c1 c2 c3 c4 t n h) : ∀ d ∈ digitsOf (wsOf xs), 0 ≤ d ∧ d < 2 ^ 3 := by
  have a1 := r.p1; have a2 := r.p2; have a3 := r.p3; have a4 := r.p4; have a5 := r.sm; have a6 := r.n3; have a7 := r.t0; have a8 := r.t5
  rw [r.dig]
  have e : (2 : Int) ^ 3 = 8 := by decide
  intro d hd
  simp only [List.mem_cons, List.not_mem_nil, or_false] at hd
  rw [e]
  rcases hd with rfl | rfl | rfl | rfl | rfl | rfl <;> omega
theorem text_len {x : Str} {runs : List Int} {tail : Int} (o : LOk runs tail) (e : KStt.codes x = textOf runs tail) : x.length ≤ 20 := by
  rw [← KStt.codes_length, e]
  unfold textOf
  rw [List.length_append, List.length_replicate]
  have := flat_len runs o.run
  have := o.len
  have := o.t1
  omega
theorem strs_at : ∀ {vs : List Value} {ss : List Str}, StrsAre vs ss → ∀ {i : Nat} {v : Value}, vs[i]? = some v → ∃ s t, ss[i]? = some s ∧ v = .str s t
  | _, _, .nil, i, v, h => by simp at h
  | _, _, .cons y t r, 0, v, h => by simp at h; exact ⟨y, t, rfl, h.symm⟩
  | _, _, .cons y t r, i + 1, v, h => by simpa using strs_at r (by simpa using h)
theorem lens_pos (runs : List Int) (tail : Int) (runs' : List Int) (tail' : Int) : 0 < (lensOf runs tail runs' tail').length := by
  unfold lensOf
  simp only [List.length_append, List.length_singleton]
  omega
theorem mid_len {x y : Str} (hx : x.length ≤ 20) (hy : y.length ≤ 20) : (x ++ Str.ofString "\t" ++ y).length ≤ 41 := by
  have e : (Str.ofString "\t").length = 1 := by decide +kernel
  rw [Str.length_append, Str.length_append, e]; omega
theorem lens_len {runs runs' : List Int} {tail tail' : Int} (o : LOk runs tail) (o' : LOk runs' tail') : (lensOf runs tail runs' tail').length ≤ 8 := by
  unfold lensOf
  have := o.len
  have := o'.len
  simp only [List.length_append, List.length_singleton]
  omega
theorem pieces_lens {runs : List Int} {tail : Int} (o : LOk runs tail) : (piecesOf runs tail).map (fun p => (p.length : Int)) = runs ++ [tail] := by
  unfold piecesOf
  rw [List.map_append, List.map_map, List.map_singleton, List.length_replicate, Int.toNat_of_nonneg o.t0]
  congr 1
  conv => rhs; rw [← List.map_id runs]
  refine List.map_congr_left fun r hr => ?_
  show ((List.replicate r.toNat (32 : Int)).length : Int) = r
  rw [List.length_replicate, Int.toNat_of_nonneg (o.run r hr).1]
theorem pieces_free (runs : List Int) (tail : Int) : ∀ p ∈ piecesOf runs tail, (9 : Int) ∉ p := by
  intro p hp h9
  unfold piecesOf at hp
  rcases List.mem_append.mp hp with hp | hp
  · first | ((first | refine ex0_3 (List.mem_map.mp hp) ?_ | refine ex1_2 (List.mem_map.mp hp) ?_ | refine ex2_1 (List.mem_map.mp hp) ?_); intro r _ hr9_0; subst hr9_0) | obtain ⟨r, _, rfl⟩ := (List.mem_map.mp hp)
    exact absurd (List.eq_of_mem_replicate h9) (by decide)
  · rw [List.mem_singleton.mp hp] at h9
    exact absurd (List.eq_of_mem_replicate h9) (by decide)
theorem split_lens {x y : Str} {lst : List (Str × Tok)} {runs runs' : List Int} {tail tail' : Int} (o : LOk runs tail) (o' : LOk runs' tail') (cx : KStt.codes x = textOf runs tail) (cy : KStt.codes y = textOf runs' tail')
    (el : lst.map (·.1) = Txt.split (x ++ Str.ofString "\t" ++ y) (Str.ofString "\t")) : (lst.map (·.1)).map (fun s => (s.length : Int)) = lensOf runs tail runs' tail' := by
  have h := split_codes (x ++ Str.ofString "\t" ++ y) (piecesOf runs tail ++ piecesOf runs' tail') (by simp [piecesOf]) (fun p hp => (List.mem_append.mp hp).elim (pieces_free _ _ p) (pieces_free _ _ p)) (by
    rw [codes_app, codes_app, codes_tab, cx, cy, text_pieces, text_pieces, glue9_app _ _ (by simp [piecesOf]) (by simp [piecesOf]), List.append_assoc]
    rfl)
  rw [el]
  have h2 := congrArg (List.map fun p : List Int => (p.length : Int)) h
  rw [List.map_append, pieces_lens o, pieces_lens o', List.map_map] at h2
  unfold lensOf
  rw [← h2]
  refine List.map_congr_left fun s _ => ?_
  show (s.length : Int) = ((KStt.codes s).length : Int)
  rw [KStt.codes_length]
theorem parted_does (w : World) (rest R₀ : List (Addr × Obj)) (ps qs : Array Value) (x y : Str) (tx ty : Tok) (rx ry : List Int) (sx sy : Int) (lx : LOk rx sx) (ly : LOk ry sy) (cx : KStt.codes x = textOf rx sx) (cy : KStt.codes y = textOf ry sy)
   (hG : TabG (Str.ofString "_digits2int.<locals>.inner") ps R₀) (hH : TabG (Str.ofString "_int2digits.<locals>.inner") qs R₀) (hR₀ : ∀ p ∈ R₀, p ∈ rest) (hO : ∀ p ∈ rest, p.1 ≠ 80) (hO' : ∀ p ∈ rest, p.1 ≠ 73) (x198 : Obj) (h198 : ((198 : Addr), x198) ∈ rest) :
    Does w ((80, tabObj ps) :: (73, tabObj qs) :: rest) 60 900 196 [.str x tx, .str y ty] [] (fun r news' => r = .bool true ∧ ∃ ps' qs', (80, tabObj ps') ∈ news' ∧ (73, tabObj qs') ∈ news' ∧ ((198 : Addr), x198) ∈ news') := by
  unfold Does
  w_top off
  k_fill
  intro p loose mean mg mb dp un' gd cn cs a ccd cl outer A₀ base h₀ L m s Q E B F X N T hk C1 C2 C3 hd hu hret
  have kMark := kstMark
  have rfx := lead_rf lx
  have rfy := lead_rf ly
  rw [← cx] at rfx
  rw [← cy] at rfy
  have hx := rfx.bl
  have hy := rfy.bl
  have ox := rfx.ok
  have oy := rfy.ok
  have dx := rfx.digs8
  have dy := rfy.digs8
  have hxl := text_len lx cx
  have hyl := text_len ly cy
  have nx := num_bound _ dx
  have ny := num_bound _ dy
  have xo := xor_bound nx ny
  refine wpAny_call ?_
  k_dflt k_enter
  iterate 1 (all_goals try first | (k_unfold; (try dsimp only)) | (k_end; wrow_close) | walk1 | (dsimp only; walk1))
  (try k_fold)
  rename News _ _ _ _ => lN
  rename 80 < _ ∧ _ => l8
  first | ((first | refine ex0_3 (l8) ?_ | refine ex1_2 (l8) ?_ | refine ex2_1 (l8) ?_); (try clear l8); intro l81 l82 l83) | obtain ⟨l81, l82, l83⟩ := (l8)
  first | ((first | refine ex0_7 (grow0 lN (Nat.lt_succ_of_lt l81) (Nat.lt_succ_self _) hO hO') ?_ | refine ex1_6 (grow0 lN (Nat.lt_succ_of_lt l81) (Nat.lt_succ_self _) hO hO') ?_ | refine ex2_5 (grow0 lN (Nat.lt_succ_of_lt l81) (Nat.lt_succ_self _) hO hO') ?_ | refine ex5_2 (grow0 lN (Nat.lt_succ_of_lt l81) (Nat.lt_succ_self _) hO hO') ?_); intro R1 hs1 hcy hcx hO1 hP1 N1) | obtain ⟨R1, hs1, hcy, hcx, hO1, hP1, N1⟩ := (grow0 lN (Nat.lt_succ_of_lt l81) (Nat.lt_succ_self _) hO hO')
  replace h198 := hs1 _ h198
  clear lN
  have hStop := stopMark
  k_steps
  (rename StopMark => hStop9; clear hStop9)
  unfold Halt
  (try k_fold); refine' Does.use (white_does w _ _ _ (mark_len x hxl)) ?k1 ?k2 ?k3 ?k4 ?k5 ?kK ?c1 ?c2 ?c3 ?kd ?ku ?_; (case k1 => k_asm); (case k2 => k_asm); (case k3 => k_asm); (case k4 => first | k_asm | exact news_swap (by k_asm)); (case k5 => k_asm); (case kK => first | exact rfl | assumption); (case c1 => first | with_reducible assumption | assumption); (case c2 => first | with_reducible assumption | assumption); (case c3 => first | with_reducible assumption | assumption); (case kd => first | exact room0 (by assumption) (by rfl) | exact room1 (by assumption) (by rfl) | ktr_room); (case ku => first | exact room0 (by assumption) (by rfl) | exact room1 (by assumption) (by rfl) | ktr_units)
  intro r9 news9 h9 tk9 F9 N9 P9
  first | ((first | refine ex0_6 (P9) ?_ | refine ex1_5 (P9) ?_ | refine ex2_4 (P9) ?_ | refine ex3_3 (P9) ?_); (try clear P9); intro wa ex9 q9 e9 o9 hWa) | obtain ⟨wa, ex9, q9, e9, o9, hWa⟩ := (P9)
  subst e9
  subst q9
  rw [ws_mark x hx] at hWa
  first | ((first | refine ex0_6 (grow N9 o9 hO1 hP1) ?_ | refine ex1_5 (grow N9 o9 hO1 hP1) ?_ | refine ex2_4 (grow N9 o9 hO1 hP1) ?_ | refine ex3_3 (grow N9 o9 hO1 hP1) ?_); intro R2 hs2 he2 hO2 hP2 N2) | obtain ⟨R2, hs2, he2, hO2, hP2, N2⟩ := (grow N9 o9 hO1 hP1)
  replace hWa := hWa.mono he2
  replace hcx := hs2 _ hcx
  replace h198 := hs2 _ h198
  replace hcy := hs2 _ hcy
  clear N9 o9 he2
  (try (k_unfold; (try dsimp only)))
  (try dsimp only)
  (try k_fold)
  have hStop := stopMark
  k_steps
  (rename StopMark => hStop9; clear hStop9)
  unfold Halt
  (try k_fold); refine' Does.use (white_does w _ _ _ (mark_len y hyl)) ?k1 ?k2 ?k3 ?k4 ?k5 ?kK ?c1 ?c2 ?c3 ?kd ?ku ?_; (case k1 => k_asm); (case k2 => k_asm); (case k3 => k_asm); (case k4 => first | k_asm | exact news_swap (by k_asm)); (case k5 => k_asm); (case kK => first | exact rfl | assumption); (case c1 => first | with_reducible assumption | assumption); (case c2 => first | with_reducible assumption | assumption); (case c3 => first | with_reducible assumption | assumption); (case kd => first | exact room0 (by assumption) (by rfl) | exact room1 (by assumption) (by rfl) | ktr_room); (case ku => first | exact room0 (by assumption) (by rfl) | exact room1 (by assumption) (by rfl) | ktr_units)
  intro r9 news9 h9 tk9 F9 N9 P9
  first | ((first | refine ex0_6 (P9) ?_ | refine ex1_5 (P9) ?_ | refine ex2_4 (P9) ?_ | refine ex3_3 (P9) ?_); (try clear P9); intro wb ex9 q9 e9 o9 hWb) | obtain ⟨wb, ex9, q9, e9, o9, hWb⟩ := (P9)
  subst e9
  subst q9
  rw [ws_mark y hy] at hWb
  first | ((first | refine ex0_6 (grow N9 o9 hO2 hP2) ?_ | refine ex1_5 (grow N9 o9 hO2 hP2) ?_ | refine ex2_4 (grow N9 o9 hO2 hP2) ?_ | refine ex3_3 (grow N9 o9 hO2 hP2) ?_); intro R3 hs3 he3 hO3 hP3 N3) | obtain ⟨R3, hs3, he3, hO3, hP3, N3⟩ := (grow N9 o9 hO2 hP2)
  replace hWb := hWb.mono he3
  replace hWa := hWa.mono hs3
  replace hcx := hs3 _ hcx
  replace h198 := hs3 _ h198
  replace hcy := hs3 _ hcy
  clear N9 o9 he3
  (try (k_unfold; (try dsimp only)))
  (try dsimp only)
  (try k_fold)
  have hWa' := hWa
  obtain ⟨d, tn, tc, hh0, hh1, hh2, hh3, hh4, t0, t1, t2, t3, t4, tnt, tb, v0, v1, v4, vs, m1, m2, m3, m4, hi⟩ := hWa'
  have hStop := stopMark
  k_steps
  (rename StopMark => hStop9; clear hStop9)
  unfold Halt
  (try k_fold); refine' Does.use (neq_does w _ wa wb (wsOf (KStt.codes x)) (wsOf (KStt.codes y)) hWa.two hWb.two ox oy) ?k1 ?k2 ?k3 ?k4 ?k5 ?kK ?c1 ?c2 ?c3 ?kd ?ku ?_; (case k1 => k_asm); (case k2 => k_asm); (case k3 => k_asm); (case k4 => first | k_asm | exact news_swap (by k_asm)); (case k5 => k_asm); (case kK => first | exact rfl | assumption); (case c1 => first | with_reducible assumption | assumption); (case c2 => first | with_reducible assumption | assumption); (case c3 => first | with_reducible assumption | assumption); (case kd => first | exact room0 (by assumption) (by rfl) | exact room1 (by assumption) (by rfl) | ktr_room); (case ku => first | exact room0 (by assumption) (by rfl) | exact room1 (by assumption) (by rfl) | ktr_units)
  intro r9 news9 h9 tk9 F9 N9 P9
  first | ((first | refine ex0_9 (P9) ?_ | refine ex3_6 (P9) ?_ | refine ex4_5 (P9) ?_ | refine ex6_3 (P9) ?_); (try clear P9); intro lr ex9 vr cr q9 e9 o9 hlr hrows) | obtain ⟨lr, ex9, vr, cr, q9, e9, o9, hlr, hrows⟩ := (P9)
  subst e9
  subst q9
  first | ((first | refine ex0_6 (grow N9 o9 hO3 hP3) ?_ | refine ex1_5 (grow N9 o9 hO3 hP3) ?_ | refine ex2_4 (grow N9 o9 hO3 hP3) ?_ | refine ex3_3 (grow N9 o9 hO3 hP3) ?_); intro R4 hs4 he4 hO4 hP4 N4) | obtain ⟨R4, hs4, he4, hO4, hP4, N4⟩ := (grow N9 o9 hO3 hP3)
  replace hlr := he4 _ hlr
  replace hrows := hrows.mono he4
  replace hWb := hWb.mono hs4
  replace hWa := hWa.mono hs4
  replace hcx := hs4 _ hcx
  replace h198 := hs4 _ h198
  replace hcy := hs4 _ hcy
  have hG4 := hG
  have hH4 := hH
  have hR4 : ∀ p ∈ R₀, p ∈ R4 := fun p hp => hs4 _ (hs3 _ (hs2 _ (hs1 _ (hR₀ _ hp))))
  clear N9 o9 he4 m1 m2 m3 m4 hs4 hs3 hs2 hs1 hO3 hO2 hO1 hP3 hP2 hP1
  (try (k_unfold; (try dsimp only)))
  (try dsimp only)
  (try k_fold)
  have hStop := stopMark
  k_steps
  (rename StopMark => hStop9; clear hStop9)
  unfold Halt
  (try k_fold); refine' Does.use (number_does w _ R₀ _ wa _ hWa.one ox.len dx hG4 (fun p hp => .tail _ (hR4 p hp)) (off80 hO4)) ?k1 ?k2 ?k3 ?k4 ?k5 ?kK ?c1 ?c2 ?c3 ?kd ?ku ?_; (case k1 => k_asm); (case k2 => k_asm); (case k3 => k_asm); (case k4 => first | k_asm | exact news_swap (by k_asm)); (case k5 => k_asm); (case kK => first | exact rfl | assumption); (case c1 => first | with_reducible assumption | assumption); (case c2 => first | with_reducible assumption | assumption); (case c3 => first | with_reducible assumption | assumption); (case kd => first | exact room0 (by assumption) (by rfl) | exact room1 (by assumption) (by rfl) | ktr_room); (case ku => first | exact room0 (by assumption) (by rfl) | exact room1 (by assumption) (by rfl) | ktr_units)
  intro r9 news9 h9 tk9 F9 N9 P9
  first | ((first | refine ex1_7 (P9) ?_ | refine ex3_5 (P9) ?_ | refine ex7_1 (P9) ?_); (try clear P9); intro t9 ps9 ex9 q9 e9 g9 o9 z9) | obtain ⟨t9, ps9, ex9, q9, e9, g9, o9, z9⟩ := (P9)
  subst e9
  subst q9
  first | ((first | refine ex1_9 (growT80 N9 o9 z9 hO4 hP4 g9 hH4 hR4) ?_ | refine ex2_8 (growT80 N9 o9 z9 hO4 hP4 g9 hH4 hR4) ?_); intro R5 S5 hs9 hS9 hR5 hO5 hP5 hG5 hH5 N5) | obtain ⟨R5, S5, hs9, hS9, hR5, hO5, hP5, hG5, hH5, N5⟩ := (growT80 N9 o9 z9 hO4 hP4 g9 hH4 hR4)
  clear N9 o9 z9 g9 hG4 hH4 hO4 hP4 hR4
  replace hlr := hs9 _ hlr
  replace h198 := hs9 _ h198
  replace hrows := hrows.mono hs9
  replace hWb := hWb.mono hs9
  replace hWa := hWa.mono hs9
  replace hcx := hs9 _ hcx
  replace hcy := hs9 _ hcy
  clear hs9 hS9
  (try (k_unfold; (try dsimp only)))
  (try dsimp only)
  (try k_fold)
  have hStop := stopMark
  k_steps
  (rename StopMark => hStop9; clear hStop9)
  unfold Halt
  (try k_fold); refine' Does.use (number_does w _ S5 _ wb _ hWb.one oy.len dy hG5 (fun p hp => .tail _ (hR5 p hp)) (off80 hO5)) ?k1 ?k2 ?k3 ?k4 ?k5 ?kK ?c1 ?c2 ?c3 ?kd ?ku ?_; (case k1 => k_asm); (case k2 => k_asm); (case k3 => k_asm); (case k4 => first | k_asm | exact news_swap (by k_asm)); (case k5 => k_asm); (case kK => first | exact rfl | assumption); (case c1 => first | with_reducible assumption | assumption); (case c2 => first | with_reducible assumption | assumption); (case c3 => first | with_reducible assumption | assumption); (case kd => first | exact room0 (by assumption) (by rfl) | exact room1 (by assumption) (by rfl) | ktr_room); (case ku => first | exact room0 (by assumption) (by rfl) | exact room1 (by assumption) (by rfl) | ktr_units)
  intro r9 news9 h9 tk9 F9 N9 P9
  first | ((first | refine ex1_7 (P9) ?_ | refine ex3_5 (P9) ?_ | refine ex7_1 (P9) ?_); (try clear P9); intro t9 ps9 ex9 q9 e9 g9 o9 z9) | obtain ⟨t9, ps9, ex9, q9, e9, g9, o9, z9⟩ := (P9)
  subst e9
  subst q9
  first | ((first | refine ex1_9 (growT80 N9 o9 z9 hO5 hP5 g9 hH5 hR5) ?_ | refine ex2_8 (growT80 N9 o9 z9 hO5 hP5 g9 hH5 hR5) ?_); intro R6 S6 hs9 hS9 hR6 hO6 hP6 hG6 hH6 N6) | obtain ⟨R6, S6, hs9, hS9, hR6, hO6, hP6, hG6, hH6, N6⟩ := (growT80 N9 o9 z9 hO5 hP5 g9 hH5 hR5)
  clear N9 o9 z9 g9 hG5 hH5 hO5 hP5 hR5
  replace hlr := hs9 _ hlr
  replace h198 := hs9 _ h198
  replace hrows := hrows.mono hs9
  replace hWb := hWb.mono hs9
  replace hWa := hWa.mono hs9
  replace hcx := hs9 _ hcx
  replace hcy := hs9 _ hcy
  clear hs9 hS9
  (try (k_unfold; (try dsimp only)))
  (try dsimp only)
  (try k_fold)
  have hStop := stopMark
  k_steps
  (rename StopMark => hStop9; clear hStop9)
  unfold Halt
  (try k_fold); refine' Does.use (i2d_does w _ S6 _ _ _ 3 _ xo.1 xo.2 (by decide) (by decide) hH6 (fun p hp => .tail _ (hR6 p hp)) (off73 hP6)) ?k1 ?k2 ?k3 ?k4 ?k5 ?kK ?c1 ?c2 ?c3 ?kd ?ku ?_; (case k1 => k_asm); (case k2 => k_asm); (case k3 => k_asm); (case k4 => first | k_asm | exact news_swap (by k_asm)); (case k5 => k_asm); (case kK => first | exact rfl | assumption); (case c1 => first | with_reducible assumption | assumption); (case c2 => first | with_reducible assumption | assumption); (case c3 => first | with_reducible assumption | assumption); (case kd => first | exact room0 (by assumption) (by rfl) | exact room1 (by assumption) (by rfl) | ktr_room); (case ku => first | exact room0 (by assumption) (by rfl) | exact room1 (by assumption) (by rfl) | ktr_units)
  intro r9 news9 h9 tk9 F9 N9 P9
  first | ((first | refine ex5_9 (P9) ?_); (try clear P9); intro lp vs_lp nn_lp qs9 ex9 q9 e9 i_lp g9 o9 z9 y9 x9 w9) | obtain ⟨lp, vs_lp, nn_lp, qs9, ex9, q9, e9, i_lp, g9, o9, z9, y9, x9, w9⟩ := (P9)
  subst e9
  subst q9
  first | ((first | refine ex2_9 (growT73 N9 o9 z9 y9 x9 hO6 hP6 g9 hG6 hR6) ?_); intro R7 S7 hs9 hm_lp hS9 hR7 hO7 hP7 hG7 hH7 M7) | obtain ⟨R7, S7, hs9, hm_lp, hS9, hR7, hO7, hP7, hG7, hH7, M7⟩ := (growT73 N9 o9 z9 y9 x9 hO6 hP6 g9 hG6 hR6)
  clear N9 o9 z9 g9 y9 x9 w9 hG6 hH6 hO6 hP6 hR6
  replace hlr := hs9 _ hlr
  replace h198 := hs9 _ h198
  replace hrows := hrows.mono hs9
  replace hWb := hWb.mono hs9
  replace hWa := hWa.mono hs9
  replace hcx := hs9 _ hcx
  replace hcy := hs9 _ hcy
  clear hs9 hS9
  (try (k_unfold; (try dsimp only)))
  (try dsimp only)
  (try k_fold)
  have hStop := stopMark
  k_steps
  (rename StopMark => hStop9; clear hStop9)
  unfold Halt
  (try k_fold); refine' Does.use (number_does w _ S7 _ wa _ hWa.one ox.len dx hG7 (fun p hp => .tail _ (hR7 p hp)) (off80 hO7)) ?k1 ?k2 ?k3 ?k4 ?k5 ?kK ?c1 ?c2 ?c3 ?kd ?ku ?_; (case k1 => k_asm); (case k2 => k_asm); (case k3 => k_asm); (case k4 => first | k_asm | exact news_swap (by k_asm)); (case k5 => k_asm); (case kK => first | exact rfl | assumption); (case c1 => first | with_reducible assumption | assumption); (case c2 => first | with_reducible assumption | assumption); (case c3 => first | with_reducible assumption | assumption); (case kd => first | exact room0 (by assumption) (by rfl) | exact room1 (by assumption) (by rfl) | ktr_room); (case ku => first | exact room0 (by assumption) (by rfl) | exact room1 (by assumption) (by rfl) | ktr_units)
  intro r9 news9 h9 tk9 F9 N9 P9
  first | ((first | refine ex1_7 (P9) ?_ | refine ex3_5 (P9) ?_ | refine ex7_1 (P9) ?_); (try clear P9); intro t9 ps9 ex9 q9 e9 g9 o9 z9) | obtain ⟨t9, ps9, ex9, q9, e9, g9, o9, z9⟩ := (P9)
  subst e9
  subst q9
  first | ((first | refine ex1_9 (growT80 N9 o9 z9 hO7 hP7 g9 hH7 hR7) ?_ | refine ex2_8 (growT80 N9 o9 z9 hO7 hP7 g9 hH7 hR7) ?_); intro R8 S8 hs9 hS9 hR8 hO8 hP8 hG8 hH8 M8) | obtain ⟨R8, S8, hs9, hS9, hR8, hO8, hP8, hG8, hH8, M8⟩ := (growT80 N9 o9 z9 hO7 hP7 g9 hH7 hR7)
  clear N9 o9 z9 g9 hG7 hH7 hO7 hP7 hR7
  replace hlr := hs9 _ hlr
  replace h198 := hs9 _ h198
  replace hrows := hrows.mono hs9
  replace hWb := hWb.mono hs9
  replace hWa := hWa.mono hs9
  replace hcx := hs9 _ hcx
  replace hcy := hs9 _ hcy
  replace hm_lp := hs9 _ hm_lp
  clear hs9 hS9
  (try (k_unfold; (try dsimp only)))
  (try dsimp only)
  (try k_fold)
  have hStop := stopMark
  k_steps
  (rename StopMark => hStop9; clear hStop9)
  unfold Halt
  (try k_fold); refine' Does.use (i2d_does w _ S8 _ _ _ 3 _ nx.1 (by omega) (by decide) (by decide) hH8 (fun p hp => .tail _ (hR8 p hp)) (off73 hP8)) ?k1 ?k2 ?k3 ?k4 ?k5 ?kK ?c1 ?c2 ?c3 ?kd ?ku ?_; (case k1 => k_asm); (case k2 => k_asm); (case k3 => k_asm); (case k4 => first | k_asm | exact news_swap (by k_asm)); (case k5 => k_asm); (case kK => first | exact rfl | assumption); (case c1 => first | with_reducible assumption | assumption); (case c2 => first | with_reducible assumption | assumption); (case c3 => first | with_reducible assumption | assumption); (case kd => first | exact room0 (by assumption) (by rfl) | exact room1 (by assumption) (by rfl) | ktr_room); (case ku => first | exact room0 (by assumption) (by rfl) | exact room1 (by assumption) (by rfl) | ktr_units)
  intro r9 news9 h9 tk9 F9 N9 P9
  first | ((first | refine ex5_9 (P9) ?_); (try clear P9); intro lm vs_lm nn_lm qs9 ex9 q9 e9 i_lm g9 o9 z9 y9 x9 w9) | obtain ⟨lm, vs_lm, nn_lm, qs9, ex9, q9, e9, i_lm, g9, o9, z9, y9, x9, w9⟩ := (P9)
  subst e9
  subst q9
  first | ((first | refine ex2_9 (growT73 N9 o9 z9 y9 x9 hO8 hP8 g9 hG8 hR8) ?_); intro R9 S9 hs9 hm_lm hS9 hR9 hO9 hP9 hG9 hH9 M9) | obtain ⟨R9, S9, hs9, hm_lm, hS9, hR9, hO9, hP9, hG9, hH9, M9⟩ := (growT73 N9 o9 z9 y9 x9 hO8 hP8 g9 hG8 hR8)
  clear N9 o9 z9 g9 y9 x9 w9 hG8 hH8 hO8 hP8 hR8
  replace hlr := hs9 _ hlr
  replace h198 := hs9 _ h198
  replace hrows := hrows.mono hs9
  replace hWb := hWb.mono hs9
  replace hWa := hWa.mono hs9
  replace hcx := hs9 _ hcx
  replace hcy := hs9 _ hcy
  replace hm_lp := hs9 _ hm_lp
  clear hs9 hS9
  (try (k_unfold; (try dsimp only)))
  (try dsimp only)
  (try k_fold)
  have hl_lm := mine_len nx.1 nx.2
  have hStop := stopMark
  k_steps
  (rename StopMark => hStop9; clear hStop9)
  rename News _ _ _ (_ :: _ :: _ :: ((80 : Addr), _) :: _) => lN
  rename IntsAre _ (List.take 6 _) => i_mine
  replace i_mine : IntsAre _ (mineOf _) := i_mine
  first | ((first | refine ex0_6 (grow3 lN (by omega) (by omega) (by omega) hO9 hP9) ?_ | refine ex1_5 (grow3 lN (by omega) (by omega) (by omega) hO9 hP9) ?_ | refine ex2_4 (grow3 lN (by omega) (by omega) (by omega) hO9 hP9) ?_ | refine ex3_3 (grow3 lN (by omega) (by omega) (by omega) hO9 hP9) ?_); intro R10 hs9 hm_mine hO10 hP10 M10) | obtain ⟨R10, hs9, hm_mine, hO10, hP10, M10⟩ := (grow3 lN (by omega) (by omega) (by omega) hO9 hP9)
  have hR10 : ∀ p ∈ S9, p ∈ R10 := fun p hp => hs9 p (hR9 p hp)
  first | ((first | refine ex0_2 (⟨_, rfl⟩ : ∃ S, S = S9) ?_ | refine ex1_1 (⟨_, rfl⟩ : ∃ S, S = S9) ?_); intro S10 hS9) | obtain ⟨S10, hS9⟩ := (⟨_, rfl⟩ : ∃ S, S = S9)
  subst hS9
  have hG10 := hG9
  have hH10 := hH9
  clear lN hG9 hH9 hO9 hP9 hR9
  replace hlr := hs9 _ hlr
  replace h198 := hs9 _ h198
  replace hrows := hrows.mono hs9
  replace hWb := hWb.mono hs9
  replace hWa := hWa.mono hs9
  replace hcx := hs9 _ hcx
  replace hcy := hs9 _ hcy
  replace hm_lp := hs9 _ hm_lp
  clear hm_lm i_lm hl_lm
  clear hs9
  unfold Halt
  (try k_fold); refine' Does.use (number_does w _ S10 _ wb _ hWb.one oy.len dy hG10 (fun p hp => .tail _ (hR10 p hp)) (off80 hO10)) ?k1 ?k2 ?k3 ?k4 ?k5 ?kK ?c1 ?c2 ?c3 ?kd ?ku ?_; (case k1 => k_asm); (case k2 => k_asm); (case k3 => k_asm); (case k4 => first | k_asm | exact news_swap (by k_asm)); (case k5 => k_asm); (case kK => first | exact rfl | assumption); (case c1 => first | with_reducible assumption | assumption); (case c2 => first | with_reducible assumption | assumption); (case c3 => first | with_reducible assumption | assumption); (case kd => first | exact room0 (by assumption) (by rfl) | exact room1 (by assumption) (by rfl) | ktr_room); (case ku => first | exact room0 (by assumption) (by rfl) | exact room1 (by assumption) (by rfl) | ktr_units)
  intro r9 news9 h9 tk9 F9 N9 P9
  first | ((first | refine ex1_7 (P9) ?_ | refine ex3_5 (P9) ?_ | refine ex7_1 (P9) ?_); (try clear P9); intro t9 ps9 ex9 q9 e9 g9 o9 z9) | obtain ⟨t9, ps9, ex9, q9, e9, g9, o9, z9⟩ := (P9)
  subst e9
  subst q9
  first | ((first | refine ex1_9 (growT80 N9 o9 z9 hO10 hP10 g9 hH10 hR10) ?_ | refine ex2_8 (growT80 N9 o9 z9 hO10 hP10 g9 hH10 hR10) ?_); intro R11 S11 hs9 hS9 hR11 hO11 hP11 hG11 hH11 M11) | obtain ⟨R11, S11, hs9, hS9, hR11, hO11, hP11, hG11, hH11, M11⟩ := (growT80 N9 o9 z9 hO10 hP10 g9 hH10 hR10)
  clear N9 o9 z9 g9 hG10 hH10 hO10 hP10 hR10
  replace hlr := hs9 _ hlr
  replace h198 := hs9 _ h198
  replace hrows := hrows.mono hs9
  replace hWb := hWb.mono hs9
  replace hWa := hWa.mono hs9
  replace hcx := hs9 _ hcx
  replace hcy := hs9 _ hcy
  replace hm_lp := hs9 _ hm_lp
  replace hm_mine := hs9 _ hm_mine
  clear hs9 hS9
  (try (k_unfold; (try dsimp only)))
  (try dsimp only)
  (try k_fold)
  have hStop := stopMark
  k_steps
  (rename StopMark => hStop9; clear hStop9)
  unfold Halt
  (try k_fold); refine' Does.use (i2d_does w _ S11 _ _ _ 3 _ ny.1 (by omega) (by decide) (by decide) hH11 (fun p hp => .tail _ (hR11 p hp)) (off73 hP11)) ?k1 ?k2 ?k3 ?k4 ?k5 ?kK ?c1 ?c2 ?c3 ?kd ?ku ?_; (case k1 => k_asm); (case k2 => k_asm); (case k3 => k_asm); (case k4 => first | k_asm | exact news_swap (by k_asm)); (case k5 => k_asm); (case kK => first | exact rfl | assumption); (case c1 => first | with_reducible assumption | assumption); (case c2 => first | with_reducible assumption | assumption); (case c3 => first | with_reducible assumption | assumption); (case kd => first | exact room0 (by assumption) (by rfl) | exact room1 (by assumption) (by rfl) | ktr_room); (case ku => first | exact room0 (by assumption) (by rfl) | exact room1 (by assumption) (by rfl) | ktr_units)
  intro r9 news9 h9 tk9 F9 N9 P9
  first | ((first | refine ex5_9 (P9) ?_); (try clear P9); intro lt vs_lt nn_lt qs9 ex9 q9 e9 i_lt g9 o9 z9 y9 x9 w9) | obtain ⟨lt, vs_lt, nn_lt, qs9, ex9, q9, e9, i_lt, g9, o9, z9, y9, x9, w9⟩ := (P9)
  subst e9
  subst q9
  first | ((first | refine ex2_9 (growT73 N9 o9 z9 y9 x9 hO11 hP11 g9 hG11 hR11) ?_); intro R12 S12 hs9 hm_lt hS9 hR12 hO12 hP12 hG12 hH12 M12) | obtain ⟨R12, S12, hs9, hm_lt, hS9, hR12, hO12, hP12, hG12, hH12, M12⟩ := (growT73 N9 o9 z9 y9 x9 hO11 hP11 g9 hG11 hR11)
  clear N9 o9 z9 g9 y9 x9 w9 hG11 hH11 hO11 hP11 hR11
  replace hlr := hs9 _ hlr
  replace h198 := hs9 _ h198
  replace hrows := hrows.mono hs9
  replace hWb := hWb.mono hs9
  replace hWa := hWa.mono hs9
  replace hcx := hs9 _ hcx
  replace hcy := hs9 _ hcy
  replace hm_lp := hs9 _ hm_lp
  replace hm_mine := hs9 _ hm_mine
  clear hs9 hS9
  (try (k_unfold; (try dsimp only)))
  (try dsimp only)
  (try k_fold)
  have hl_lt := mine_len ny.1 ny.2
  iterate 26 (all_goals try first | (k_unfold; (try dsimp only)) | (k_end; wrow_close) | walk1 | (dsimp only; walk1))
  rename News _ _ _ (_ :: _ :: _ :: ((80 : Addr), _) :: _) => lN
  rename IntsAre _ (List.take 6 _) => i_theirs
  replace i_theirs : IntsAre _ (mineOf _) := i_theirs
  first | ((first | refine ex0_6 (grow3 lN (by omega) (by omega) (by omega) hO12 hP12) ?_ | refine ex1_5 (grow3 lN (by omega) (by omega) (by omega) hO12 hP12) ?_ | refine ex2_4 (grow3 lN (by omega) (by omega) (by omega) hO12 hP12) ?_ | refine ex3_3 (grow3 lN (by omega) (by omega) (by omega) hO12 hP12) ?_); intro R13 hs9 hm_theirs hO13 hP13 M13) | obtain ⟨R13, hs9, hm_theirs, hO13, hP13, M13⟩ := (grow3 lN (by omega) (by omega) (by omega) hO12 hP12)
  have hR13 : ∀ p ∈ S12, p ∈ R13 := fun p hp => hs9 p (hR12 p hp)
  have hG13 := hG12
  have hH13 := hH12
  clear lN hG12 hH12 hO12 hP12 hR12
  replace hlr := hs9 _ hlr
  replace h198 := hs9 _ h198
  replace hrows := hrows.mono hs9
  replace hWb := hWb.mono hs9
  replace hWa := hWa.mono hs9
  replace hcx := hs9 _ hcx
  replace hcy := hs9 _ hcy
  replace hm_lp := hs9 _ hm_lp
  replace hm_mine := hs9 _ hm_mine
  clear hm_lt i_lt hl_lt
  clear hs9
  refine LCt.Assign_ListComp_T (F₀ := by k_asm) (by rfl) (by with_unfolding_all rfl) (by with_unfolding_all rfl) (by decide) (by rfl) (by decide) (by rfl) (by rfl) (by rfl) ?_
  iterate 9 (all_goals try first | (k_unfold; (try dsimp only)) | (k_end; wrow_close) | walk1 | (dsimp only; walk1))
  refine LCt.CompSrcT.range (n := 6) (by rfl) (by k_asm) (by k_asm) (by assumption) (by decide) (by rfl) (by decide) ?_
  intro g'
  refine my_turnsT0 (fun i ys => IntsAre ys (farTo (KStt.codes x) (KStt.codes y) i)) .nil ?turn ?fin
  case turn =>
    intro i v ys I oI C oC D m₂ h tk E' hi hv hJ hC hx F₁ N₁ off ne
    first | ((first | refine ex0_2 (hv) ?_ | refine ex1_1 (hv) ?_); (try clear hv); intro tv hr9_0; subst hr9_0) | obtain ⟨tv, rfl⟩ := (hv)
    have hsz : 0 < 1 + (i : Int) ∧ 1 + (i : Int) ≤ 6 := by omega
    iterate 27 (all_goals try first | (k_unfold; (try dsimp only)) | (k_end; wrow_close) | walk1 | (dsimp only; walk1))
    · (rename Fr _ _ _ _ => lF; rename News _ _ _ _ => lN; rename colOf _ _ ≠ colOf _ _ => hne)
      refine LCg.CompEnd.intro lF lN _ (fun p hp => hp) off trivial ⟨rfl, ?_⟩
      rw [farTo_succ, if_pos hne]
      exact hJ.append (.cons _ _ .nil)
    · (rename Fr _ _ _ _ => lF; rename News _ _ _ _ => lN; rename colOf _ _ = colOf _ _ => hne)
      refine LCg.CompEnd.intro lF lN _ (fun p hp => hp) off trivial ⟨rfl, ?_⟩
      rw [farTo_succ, if_neg (fun h => h hne)]
      exact hJ
  case fin =>
    intro vf i_far
    unfold LCg.FinA
    intro lf h9 tk9 F9 N9 o9
    first | ((first | refine ex0_6 (grow1 N9 o9 hO13 hP13) ?_ | refine ex1_5 (grow1 N9 o9 hO13 hP13) ?_ | refine ex2_4 (grow1 N9 o9 hO13 hP13) ?_ | refine ex3_3 (grow1 N9 o9 hO13 hP13) ?_); intro R14 hs9 hm_far hO14 hP14 M14) | obtain ⟨R14, hs9, hm_far, hO14, hP14, M14⟩ := (grow1 N9 o9 hO13 hP13)
    have hR14 : ∀ p ∈ S12, p ∈ R14 := fun p hp => hs9 p (hR13 p hp)
    clear N9 o9 hO13 hP13 hR13
    replace hlr := hs9 _ hlr
    replace h198 := hs9 _ h198
    replace hrows := hrows.mono hs9
    replace hcx := hs9 _ hcx
    replace hcy := hs9 _ hcy
    replace hm_lp := hs9 _ hm_lp
    replace hm_mine := hs9 _ hm_mine
    replace hm_theirs := hs9 _ hm_theirs
    clear hs9
    have hfl := i_far.length
    have hrl := hrows.length
    have hpl := i_lp.length
    rcases List.eq_nil_or_concat (farTo (KStt.codes x) (KStt.codes y) 6) with he | ⟨fs, top, he⟩
    · first | ((first | refine ex0_2 (pf_none rfx rfy he) ?_ | refine ex1_1 (pf_none rfx rfy he) ?_); intro n1 n2) | obtain ⟨n1, n2⟩ := (pf_none rfx rfy he)
      rw [he, List.length_nil] at hfl
      rw [n1, List.length_nil] at hrl
      rw [digs_len, n2] at hpl
      k_steps
      (rename Fr _ _ _ _ => lF)
      exact hret _ _ _ _ lF (by k_asm) ⟨rfl, _, _, by k_mem, by k_mem, by k_mem⟩
    · rw [List.concat_eq_append] at he
      rw [he] at hfl i_far
      first | ((first | refine ex0_4 (ints_last i_far) ?_ | refine ex1_3 (ints_last i_far) ?_ | refine ex2_2 (ints_last i_far) ?_); intro vg hvg tt hr9_0; subst hr9_0) | obtain ⟨vg, hvg, tt, rfl⟩ := (ints_last i_far)
      have hf0 : 0 < (vg ++ [Value.int top tt]).length := by rw [List.length_append, List.length_singleton]; exact Nat.succ_pos _
      have hml := mineOf_len (numOf (wsOf (KStt.codes x)))
      have htl := mineOf_len (numOf (wsOf (KStt.codes y)))
      by_cases h6 : top = 6
      · subst h6
        first | ((first | refine ex2_13 (pf_six rfx rfy fs he) ?_ | refine ex4_11 (pf_six rfx rfy fs he) ?_ | refine ex6_9 (pf_six rfx rfy fs he) ?_); intro rs past f1 f2 f3 f4 f5 f6 f7 f8 f9 f10 f11 f12 f13) | obtain ⟨rs, past, f1, f2, f3, f4, f5, f6, f7, f8, f9, f10, f11, f12, f13⟩ := (pf_six rfx rfy fs he)
        rw [f1] at hrows hrl
        first | ((first | refine ex0_7 (hrows.last) ?_ | refine ex1_6 (hrows.last) ?_ | refine ex2_5 (hrows.last) ?_ | refine ex5_2 (hrows.last) ?_); intro us p9 t9 u9 v9 hr9_0 hp9; subst hr9_0) | obtain ⟨us, p9, t9, u9, v9, rfl, hp9⟩ := (hrows.last)
        rw [digs_len, f13] at hpl
        have mx := rfx.mine
        have my := rfy.mine
        have mx5 : (mineOf (numOf (wsOf (KStt.codes x)))).getD (Int.toNat 5) 0 = (rx.length : Int) := by rw [mx]; rfl
        have mx4 : (mineOf (numOf (wsOf (KStt.codes x)))).getD (Int.toNat 4) 0 = sx := by rw [mx]; rfl
        have my5 : (mineOf (numOf (wsOf (KStt.codes y)))).getD (Int.toNat 5) 0 = (ry.length : Int) := by rw [my]; rfl
        have my4 : (mineOf (numOf (wsOf (KStt.codes y)))).getD (Int.toNat 4) 0 = sy := by rw [my]; rfl
        clear rfx rfy nx ny xo ox oy dx dy mx my
        iterate 29 (all_goals try first | (k_unfold; (try dsimp only)) | (k_end; wrow_close) | walk1 | (dsimp only; walk1))
        all_goals try (exfalso; omega)
        iterate 9 (all_goals try first | (k_unfold; (try dsimp only)) | (k_end; wrow_close) | walk1 | (dsimp only; walk1))
        refine LCg.ListComp_U (F₀ := by k_asm) (by with_unfolding_all rfl) (by decide) (by rfl) (by decide) (by rfl) ?_
        iterate 13 (all_goals try first | (k_unfold; (try dsimp only)) | (k_end; wrow_close) | walk1 | (dsimp only; walk1))
        (rename Fr _ _ _ _ => lF; rename News _ _ _ _ => lN)
        refine splitN1A lF lN (by decide +kernel) ?_ ?szs
        case szs => exact Nat.le_trans (Nat.add_le_add_right (mid_len hxl hyl) 2) (by decide : 41 + 2 ≤ sizeLine)
        intro lst hs ks el Sl bl Ll Fl Nl
        have hlens := split_lens lx ly cx cy el
        have hl4 : lst.length ≤ 8 := by
          have := congrArg List.length hlens
          rw [List.length_map, List.length_map] at this
          rw [this]
          exact lens_len lx ly
        refine LCg.CompSrc.ledger (by rfl) (by k_asm) (by k_asm) (.head _) ?hsl ?_
        case hsl => rw [List.size_toArray, Sl.length, List.length_map]; exact Nat.le_trans hl4 (by decide)
        intro g'
        refine my_turns0 (fun i ys => IntsAre ys ((lensOf rx sx ry sy).take i)) .nil ?turn6 ?fin6
        case turn6 =>
          intro i v ys I oI C oC D m₂ h tk E' hi hv hJ hC hx F₁ N₁ off ne
          first | ((first | refine ex0_4 (strs_at Sl (by simpa using hv)) ?_ | refine ex1_3 (strs_at Sl (by simpa using hv)) ?_ | refine ex2_2 (strs_at Sl (by simpa using hv)) ?_); intro sp tp hsp hr9_0; subst hr9_0) | obtain ⟨sp, tp, hsp, rfl⟩ := (strs_at Sl (by simpa using hv))
          iterate 6 (all_goals try first | (k_unfold; (try dsimp only)) | (k_end; wrow_close) | walk1 | (dsimp only; walk1))
          have hsl : sp.length ≤ 41 := Nat.le_trans (bl sp (List.mem_of_getElem? hsp)) (mid_len hxl hyl)
          refine P.len_str (by omega) ?_
          refine LCg.CompEnd.intro F₁ N₁ _ (fun p hp => hp) off (.inr ⟨_, .head _, rfl, _, rfl⟩) ⟨rfl, ?_⟩
          rw [List.take_add_one, ← hlens, List.getElem?_map, hsp, hlens]
          exact hJ.append (.cons _ _ .nil)
        case fin6 =>
          intro ys hJ
          rw [List.size_toArray, Sl.length, List.length_map] at hJ
          have hln : lst.length = (lensOf rx sx ry sy).length := by
            have := congrArg List.length hlens
            rwa [List.length_map, List.length_map] at this
          rw [hln, List.take_length] at hJ
          unfold LCg.FinE
          intro lq h9 tk9 F9 N9 o9
          iterate 1 (all_goals try first | (k_unfold; (try dsimp only)) | (k_end; wrow_close) | walk1 | (dsimp only; walk1))
          refine kso_max F9 N9 (News.isList N9 (.head _)) hJ (lens_pos rx sx ry sy) (by rfl) ?_
          intro h8 M8 t8 tk8 F8 N8 hM1 hM2
          have ePast : 1 + M8 = past := by
            first | ((first | refine ex0_4 (past_max lx ly) ?_ | refine ex1_3 (past_max lx ly) ?_ | refine ex2_2 (past_max lx ly) ?_); intro pm1 pz pm2 pm3) | obtain ⟨pm1, pz, pm2, pm3⟩ := (past_max lx ly)
            rw [← cx, ← cy, ← f2] at pm1 pm3
            have := hM2 pz pm2
            have := pm1 M8 hM1
            omega
          clear hM1 hM2 N9 F9
          iterate 1 (all_goals try first | (k_unfold; (try dsimp only)) | (k_end; wrow_close) | walk1 | (dsimp only; walk1))
          rw [ePast]
          replace N8 := drop3N N8
          clear hJ el Sl bl Ll Fl Nl hlens hln hl4
          have hsz : 0 < past ∧ past ≤ 6 := by omega
          iterate 70 (all_goals try first | (k_unfold; (try dsimp only)) | (k_end; wrow_close) | walk1 | (dsimp only; walk1))
          (rename Fr _ _ _ _ => lF; rename News _ _ _ _ => lN)
          refine splitN1A lF lN (by decide +kernel) ?_ ?szs2
          case szs2 => exact Nat.le_trans (Nat.add_le_add_right hxl 2) (by decide : 20 + 2 ≤ sizeLine)
          intro lst2 hs2 ks2 el2 _ _ _ Fl2 Nl2
          first | ((first | refine ex0_5 (lead_last lx cx el2) ?_ | refine ex1_4 (lead_last lx cx el2) ?_ | refine ex2_3 (lead_last lx cx el2) ?_ | refine ex3_2 (lead_last lx cx el2) ?_); intro us2 sp2 tp2 ev2 hp2) | obtain ⟨us2, sp2, tp2, ev2, hp2⟩ := (lead_last lx cx el2)
          rw [ev2] at Nl2
          clear lF lN el2 ev2
          iterate 5 (all_goals try first | (k_unfold; (try dsimp only)) | (k_end; wrow_close) | walk1 | (dsimp only; walk1))
          have hsl2 : sp2.length ≤ 20 := by have := lx.t1; omega
          refine P.len_str (by omega) ?_
          rw [hp2, lead_count cx]
          iterate 2 (all_goals try first | (k_unfold; (try dsimp only)) | (k_end; wrow_close) | walk1 | (dsimp only; walk1))
          (rename Fr _ _ _ _ => lF; rename News _ _ _ _ => lN)
          refine compEnd_tup lF lN (by assumption) (by k_ne) (by k_ne) (by k_ne) (.inr ⟨_, by k_mem, rfl, _, rfl⟩) ?_
          clear lF lN
          iterate 25 (all_goals try first | (k_unfold; (try dsimp only)) | (k_end; wrow_close) | walk1 | (dsimp only; walk1))
          (rename Fr _ _ _ _ => lF; rename News _ _ _ _ => lN)
          refine splitN1A lF lN (by decide +kernel) ?_ ?szs3
          case szs3 => exact Nat.le_trans (Nat.add_le_add_right hyl 2) (by decide : 20 + 2 ≤ sizeLine)
          intro lst3 hs3 ks3 el3 _ _ _ Fl3 Nl3
          first | ((first | refine ex0_5 (lead_last ly cy el3) ?_ | refine ex1_4 (lead_last ly cy el3) ?_ | refine ex2_3 (lead_last ly cy el3) ?_ | refine ex3_2 (lead_last ly cy el3) ?_); intro us3 sp3 tp3 ev3 hp3) | obtain ⟨us3, sp3, tp3, ev3, hp3⟩ := (lead_last ly cy el3)
          rw [ev3] at Nl3
          clear lF lN el3 ev3
          iterate 5 (all_goals try first | (k_unfold; (try dsimp only)) | (k_end; wrow_close) | walk1 | (dsimp only; walk1))
          have hsl3 : sp3.length ≤ 20 := by have := ly.t1; omega
          refine P.len_str (by omega) ?_
          rw [hp3, lead_count cy]
          iterate 2 (all_goals try first | (k_unfold; (try dsimp only)) | (k_end; wrow_close) | walk1 | (dsimp only; walk1))
          (rename Fr _ _ _ _ => lF; rename News _ _ _ _ => lN)
          refine compEnd_tup lF lN (by assumption) (by k_ne) (by k_ne) (by k_ne) (.inr ⟨_, by k_mem, rfl, _, rfl⟩) ?_
          clear lF lN
          have hStop := stopMark
          k_steps
          (rename StopMark => hStop9; clear hStop9)
          unfold Halt
          (rename News _ _ _ _ => lN)
          first | ((first | refine ex1_7 (grow3n lN (by k_ne) (by k_ne) (by k_ne) (by k_ne) (by k_ne) (by k_ne) hO14 hP14) ?_ | refine ex3_5 (grow3n lN (by k_ne) (by k_ne) (by k_ne) (by k_ne) (by k_ne) (by k_ne) hO14 hP14) ?_ | refine ex7_1 (grow3n lN (by k_ne) (by k_ne) (by k_ne) (by k_ne) (by k_ne) (by k_ne) hO14 hP14) ?_); intro R15 hs9 hm_due hm_d2 hm_d1 hO15 hP15 M15) | obtain ⟨R15, hs9, hm_due, hm_d2, hm_d1, hO15, hP15, M15⟩ := (grow3n lN (by k_ne) (by k_ne) (by k_ne) (by k_ne) (by k_ne) (by k_ne) hO14 hP14)
          have hR15 : ∀ p ∈ S12, p ∈ R15 := fun p hp => hs9 p (hR14 p hp)
          replace hm_due : (_, W.listOf [Value.ref _, Value.ref _].toArray 2) ∈ R15 := hm_due
          clear lN
          replace hlr := hs9 _ hlr
          replace h198 := hs9 _ h198
          replace hp9 := hs9 _ hp9
          replace hm_lp := hs9 _ hm_lp
          replace hm_mine := hs9 _ hm_mine
          replace hm_theirs := hs9 _ hm_theirs
          clear hs9
          (try k_fold); refine' Does.use (divmod_does w R15 S12 _ _ _ _ _ _ (by omega) (by omega) (by omega) (by omega) hG13 hH13 hR15 hO15 hP15) ?k1 ?k2 ?k3 ?k4 ?k5 ?kK ?c1 ?c2 ?c3 ?kd ?ku ?_; (case k1 => k_asm); (case k2 => k_asm); (case k3 => k_asm); (case k4 => first | k_asm | exact news_swap (by k_asm)); (case k5 => k_asm); (case kK => first | exact rfl | assumption); (case c1 => first | with_reducible assumption | assumption); (case c2 => first | with_reducible assumption | assumption); (case c3 => first | with_reducible assumption | assumption); (case kd => first | exact room0 (by assumption) (by rfl) | exact room1 (by assumption) (by rfl) | ktr_room); (case ku => first | exact room0 (by assumption) (by rfl) | exact room1 (by assumption) (by rfl) | ktr_units)
          intro r9 news9 h9 tk9 F9 N9 P9
          first | ((first | refine ex2_13 (P9) ?_ | refine ex4_11 (P9) ?_ | refine ex6_9 (P9) ?_); (try clear P9); intro De1 td9 ud9 ps9 qs9 ex9 q9 e9 g1 g2 g3 g4 g5 g6 g7) | obtain ⟨De1, td9, ud9, ps9, qs9, ex9, q9, e9, g1, g2, g3, g4, g5, g6, g7⟩ := (P9)
          subst e9
          subst q9
          first | ((first | refine ex1_9 (growDiv N9 g1 g2 g4 g7 hO15 hP15 hR15) ?_ | refine ex2_8 (growDiv N9 g1 g2 g4 g7 hO15 hP15 hR15) ?_); intro R16 S16 hs9 hm_e1 hR16 hO16 hP16 hG16 hH16 M16) | obtain ⟨R16, S16, hs9, hm_e1, hR16, hO16, hP16, hG16, hH16, M16⟩ := (growDiv N9 g1 g2 g4 g7 hO15 hP15 hR15)
          clear N9 g1 g2 g3 g4 g5 g6 g7
          replace hlr := hs9 _ hlr
          replace h198 := hs9 _ h198
          replace hp9 := hs9 _ hp9
          replace hm_lp := hs9 _ hm_lp
          replace hm_mine := hs9 _ hm_mine
          replace hm_theirs := hs9 _ hm_theirs
          replace hm_due := hs9 _ hm_due
          replace hm_d1 := hs9 _ hm_d1
          replace hm_d2 := hs9 _ hm_d2
          clear hs9
          (try (k_unfold; (try dsimp only)))
          (try dsimp only)
          (try k_fold)
          have hStop := stopMark
          k_steps
          (rename StopMark => hStop9; clear hStop9)
          unfold Halt
          (try k_fold); refine' Does.use (divmod_does w R16 S16 _ _ _ _ _ _ (by omega) (by omega) (by omega) (by omega) hG16 hH16 hR16 hO16 hP16) ?k1 ?k2 ?k3 ?k4 ?k5 ?kK ?c1 ?c2 ?c3 ?kd ?ku ?_; (case k1 => k_asm); (case k2 => k_asm); (case k3 => k_asm); (case k4 => first | k_asm | exact news_swap (by k_asm)); (case k5 => k_asm); (case kK => first | exact rfl | assumption); (case c1 => first | with_reducible assumption | assumption); (case c2 => first | with_reducible assumption | assumption); (case c3 => first | with_reducible assumption | assumption); (case kd => first | exact room0 (by assumption) (by rfl) | exact room1 (by assumption) (by rfl) | ktr_room); (case ku => first | exact room0 (by assumption) (by rfl) | exact room1 (by assumption) (by rfl) | ktr_units)
          intro r9 news9 h9 tk9 F9 N9 P9
          first | ((first | refine ex2_13 (P9) ?_ | refine ex4_11 (P9) ?_ | refine ex6_9 (P9) ?_); (try clear P9); intro De2 td9 ud9 ps9 qs9 ex9 q9 e9 g1 g2 g3 g4 g5 g6 g7) | obtain ⟨De2, td9, ud9, ps9, qs9, ex9, q9, e9, g1, g2, g3, g4, g5, g6, g7⟩ := (P9)
          subst e9
          subst q9
          first | ((first | refine ex1_9 (growDiv N9 g1 g2 g4 g7 hO16 hP16 hR16) ?_ | refine ex2_8 (growDiv N9 g1 g2 g4 g7 hO16 hP16 hR16) ?_); intro R17 S17 hs9 hm_e2 hR17 hO17 hP17 hG17 hH17 M17) | obtain ⟨R17, S17, hs9, hm_e2, hR17, hO17, hP17, hG17, hH17, M17⟩ := (growDiv N9 g1 g2 g4 g7 hO16 hP16 hR16)
          clear N9 g1 g2 g3 g4 g5 g6 g7
          replace hlr := hs9 _ hlr
          replace h198 := hs9 _ h198
          replace hm_lp := hs9 _ hm_lp
          replace hm_mine := hs9 _ hm_mine
          replace hm_theirs := hs9 _ hm_theirs
          replace hm_due := hs9 _ hm_due
          replace hm_d1 := hs9 _ hm_d1
          replace hm_d2 := hs9 _ hm_d2
          replace hm_e1 := hs9 _ hm_e1
          clear hs9
          (try (k_unfold; (try dsimp only)))
          (try dsimp only)
          (try k_fold)
          iterate 4 (all_goals try first | (k_unfold; (try dsimp only)) | (k_end; wrow_close) | walk1 | (dsimp only; walk1))
          rw [f9, f10, f11, f12]
          simp only [beq_self_eq_true, Bool.and_self, Bool.not_true]
          iterate 40 (all_goals try first | (k_unfold; (try dsimp only)) | (k_end; wrow_close) | walk1 | (dsimp only; walk1))
          rw [mx5, mx4, my5, my4]
          simp only [beq_self_eq_true, Bool.and_self, Bool.not_true]
          by_cases hrr : (rx.length : Int) = (ry.length : Int)
          · rw [if_pos hrr] at hpl
            iterate 35 (all_goals try first | (k_unfold; (try dsimp only)) | (k_end; wrow_close) | walk1 | (dsimp only; walk1))
            all_goals try exact absurd hrr (by assumption)
            (rename Fr _ _ _ _ => lF)
            exact hret _ _ _ _ lF (by k_asm) ⟨rfl, _, _, by k_mem, by k_mem, by k_mem⟩
          · rw [if_neg hrr] at hpl
            iterate 35 (all_goals try first | (k_unfold; (try dsimp only)) | (k_end; wrow_close) | walk1 | (dsimp only; walk1))
            all_goals try exact absurd (by assumption) hrr
            (rename Fr _ _ _ _ => lF)
            exact hret _ _ _ _ lF (by k_asm) ⟨rfl, _, _, by k_mem, by k_mem, by k_mem⟩
      · first | ((first | refine ex1_9 (pf_low rfx rfy fs top he h6) ?_ | refine ex2_8 (pf_low rfx rfy fs top he h6) ?_); intro rs f1 f2 f3 f4 f5 f6 f7 f8 f9) | obtain ⟨rs, f1, f2, f3, f4, f5, f6, f7, f8, f9⟩ := (pf_low rfx rfy fs top he h6)
        rw [f1] at hrows hrl
        first | ((first | refine ex0_7 (hrows.last) ?_ | refine ex1_6 (hrows.last) ?_ | refine ex2_5 (hrows.last) ?_ | refine ex5_2 (hrows.last) ?_); intro us p9 t9 u9 v9 hr9_0 hp9; subst hr9_0) | obtain ⟨us, p9, t9, u9, v9, rfl, hp9⟩ := (hrows.last)
        rw [digs_len, f4] at hpl
        have hsz : 0 < top ∧ top ≤ 6 := by omega
        iterate 29 (all_goals try first | (k_unfold; (try dsimp only)) | (k_end; wrow_close) | walk1 | (dsimp only; walk1))
        all_goals try (exfalso; omega)
        iterate 55 (all_goals try first | (k_unfold; (try dsimp only)) | (k_end; wrow_close) | walk1 | (dsimp only; walk1))
        all_goals try (exfalso; omega)
        have hStop := stopMark
        k_steps
        (rename StopMark => hStop9; clear hStop9)
        unfold Halt
        rename News _ _ _ (_ :: _ :: ((80 : Addr), _) :: _) => lN
        replace lN := drop2N lN
        (try k_fold); refine' Does.use (divmod_does w R14 S12 _ _ _ _ _ _ f5 f6 (by omega) (by omega) hG13 hH13 hR14 hO14 hP14) ?k1 ?k2 ?k3 ?k4 ?k5 ?kK ?c1 ?c2 ?c3 ?kd ?ku ?_; (case k1 => k_asm); (case k2 => k_asm); (case k3 => k_asm); (case k4 => first | k_asm | exact news_swap (by k_asm)); (case k5 => k_asm); (case kK => first | exact rfl | assumption); (case c1 => first | with_reducible assumption | assumption); (case c2 => first | with_reducible assumption | assumption); (case c3 => first | with_reducible assumption | assumption); (case kd => first | exact room0 (by assumption) (by rfl) | exact room1 (by assumption) (by rfl) | ktr_room); (case ku => first | exact room0 (by assumption) (by rfl) | exact room1 (by assumption) (by rfl) | ktr_units)
        intro r9 news9 h9 tk9 F9 N9 P9
        first | ((first | refine ex0_9 (P9) ?_ | refine ex3_6 (P9) ?_ | refine ex4_5 (P9) ?_ | refine ex6_3 (P9) ?_); (try clear P9); intro D9 td9 ud9 ps9 qs9 ex9 q9 e9 g9) | obtain ⟨D9, td9, ud9, ps9, qs9, ex9, q9, e9, g9⟩ := (P9)
        subst e9
        subst q9
        clear lN
        (try (k_unfold; (try dsimp only)))
        (try dsimp only)
        (try k_fold)
        k_steps
        (rename Fr _ _ _ _ => lF)
        refine hret _ _ _ _ lF (by k_asm) ⟨?_, _, _, by k_mem, by k_mem, by k_mem⟩
        rw [f7, f8]
        simp
example : True := by
  k_with_none
  k_with "k_room" => ktr_room
  k_with "k_mem" => ((fail_if_success (with_reducible_and_instances refine List.mem_cons_of_mem _ ?_)); (with_reducible_and_instances refine List.mem_append_right _ ?_); k_mem)
  k_with "k_mem" => ((fail_if_success (with_reducible_and_instances refine List.mem_cons_of_mem _ ?_)); (with_reducible_and_instances refine List.mem_append_left _ ?_); k_mem)
  k_with "k_mem" => assumption
  k_with "k_all" => first | exact List.forall_mem_nil _ | assumption | (refine' List.forall_mem_cons.mpr ⟨?a, ?b⟩; (case a => k_ne); (case b => k_all))
  k_with "call ref" => k_dflt (k_extra "my call")
  k_with "my tail" => (intro r9 news9 h9 tk9 F9 N9 P9; obtain ⟨e9, t9, q9⟩ := P9; replace e9 := e9.symm; subst e9; subst q9; (try (k_unfold; (try dsimp only))); (try dsimp only); (try k_fold))
  k_with "k_enter" => first | (refine' code_def ?k1 ?k2 ?k3 ?k4 ?k5 ?kA ?kF ?kK ?k6 ?k7 ?k8 ?k9 ?kB ?_ ?c2 ?c3 ?c4 ?c5; (case kA => exact rfl); (case kF => exact rfl); (case kK => first | exact rfl | assumption); (case k1 => k_asm); (case k2 => k_asm); (case k3 => k_asm); (case k4 => k_asm); (case k5 => k_asm); (case k6 => k_is); (case k7 => k_is); (case k8 => k_room); (case k9 => first | exact BindsTo.of_eq rfl | exact binds_K (by k_in) rfl (by k_is) rfl rfl rfl | fail "k_enter: no rule for these arguments"); (case c5 => decide); (case kB => exact locs rfl); (case c2 => exact rfl); (case c3 => exact rfl); (case c4 => exact rfl); k_whole; intro g' L' h' FG' F' N' B' X' T'; (try dsimp only); (try k_lift B'); (refine fr_let F' ?_); clear F'; intro mF F'; (try k_fold)) | (refine' code_defC ?k1 ?k2 ?k3 ?k4 ?k5 ?kA ?kF ?kK ?k6 ?k7 ?k8 ?k9 ?kB ?kD ?_ ?c2 ?c3 ?c4; (case kA => exact rfl); (case kF => exact rfl); (case kK => first | exact rfl | assumption); (case k1 => k_asm); (case k2 => k_asm); (case k3 => k_asm); (case k4 => k_asm); (case k5 => k_asm); (case k6 => k_is); (case k7 => k_is); (case k8 => k_room); (case k9 => first | exact BindsTo.of_eq rfl | exact binds_K (by k_in) rfl (by k_is) rfl rfl rfl | fail "k_enter: no rule for these arguments"); (case kB => exact rfl); (case kD => decide +kernel); (case c2 => exact rfl); (case c3 => exact rfl); (case c4 => exact rfl); k_whole; intro g' L' h' tk' cells' FG' F' N' Y' B' X' T' l1; (try k_lt l1); k_cells Y'; (try simp only [List.cons_append, List.nil_append] at N'); (try dsimp only); (try k_lift B'); (refine fr_let F' ?_); clear F'; intro mF F'; (try k_fold))
  k_with "pyIter ref" => ((rename HaltMark => hM9); refine halt_intro ?_)
  k_with "call builtin:len" => (k_here; (with_reducible show wpAny _ _ (call (Value.builtin "len") [Value.ref _]) _ _ _); k_dflt (refine' my_lenT ?k1 ?k2 ?k3 ?k4 ?_; (case k1 => k_asm); (case k2 => k_mem); (case k3 => assumption); (case k4 => omega); k_whole))
  k_with "subscriptTail Name Name ref int" => (k_here; (with_reducible show wpAny _ _ (subscriptTail _ _ (Value.ref _) (Value.int _ _)) _ _ _); k_dflt (refine' my_itemT ?k1 ?k2 ?k3 ?k4 ?k5 ?k6 ?_ ?k7; (case k1 => k_asm); (case k2 => k_mem); (case k3 => assumption); (case k4 => omega); (case k5 => omega); (case k6 => omega); (case k7 => with_unfolding_all rfl); k_whole); intro t')
  k_with "subscriptTail Name Name ref int" => (k_here; (with_reducible show wpAny _ _ (subscriptTail _ _ (Value.ref _) (Value.int _ _)) _ _ _); k_dflt (refine' my_itemL ?k1 ?k2 ?k3 ?k4 ?k5 ?k6 ?_ ?k7 ?k8; (case k1 => k_asm); (case k2 => k_mem); (case k3 => assumption); (case k4 => omega); (case k5 => omega); (case k6 => omega); (case k7 => with_unfolding_all rfl); (case k8 => intro _; with_unfolding_all rfl); k_whole); intro t')
  k_with "truthy ref" => (k_here; k_dflt (refine' my_truthyL ?k1 ?k2 ?k3 ?k4 ?_ ?_; (case k1 => k_asm); (case k2 => k_mem); (case k3 => assumption); (case k4 => omega)); (all_goals intro hz9))
  k_with "call builtin:len" => (k_here; (with_reducible show wpAny _ _ (call (Value.builtin "len") [Value.ref _]) _ _ _); k_dflt (refine' my_lenL ?k1 ?k2 ?k3 ?k4 ?_; (case k1 => k_asm); (case k2 => k_mem); (case k3 => assumption); (case k4 => omega); k_whole))
  k_with "call ref" => (k_here; k_dflt ((try k_fold); refine Does.use2 (by k_asm) (by k_asm) (by k_asm) (by k_asm) (by k_asm) (by first | exact rfl | assumption) (by first | with_reducible assumption | assumption) (by first | with_reducible assumption | assumption) (by first | with_reducible assumption | assumption) (column_does _ _ _ _ _ _ (by first | assumption | omega)) (by first | exact room0 (by assumption) (by rfl) | exact room1 (by assumption) (by rfl) | ktr_room) (by first | exact room0 (by assumption) (by rfl) | exact room1 (by assumption) (by rfl) | ktr_units) ?_; walk_at "my tail"))
  k_with "call ref" => (k_here; k_dflt ((try k_fold); refine Does.use2 (by k_asm) (by k_asm) (by k_asm) (by k_asm) (by k_asm) (by first | exact rfl | assumption) (by first | with_reducible assumption | assumption) (by first | with_reducible assumption | assumption) (by first | with_reducible assumption | assumption) (longest_does _ _ _ _ (by first | assumption | exact WhiteIn.mono (by assumption) (by intro p9 h9; k_mem)) (by omega)) (by first | exact room0 (by assumption) (by rfl) | exact room1 (by assumption) (by rfl) | ktr_room) (by first | exact room0 (by assumption) (by rfl) | exact room1 (by assumption) (by rfl) | ktr_units) ?_; walk_at "my tail"))
  k_with "call ref" => (k_here; k_dflt ((try k_fold); refine Does.use2 (by k_asm) (by k_asm) (by k_asm) (by k_asm) (by k_asm) (by first | exact rfl | assumption) (by first | with_reducible assumption | assumption) (by first | with_reducible assumption | assumption) (by first | with_reducible assumption | assumption) (indent_does _ _ _ _ (by first | assumption | exact WhiteIn.mono (by assumption) (by intro p9 h9; k_mem)) _ _ (by omega) (by assumption) (by omega) (by omega)) (by first | exact room0 (by assumption) (by rfl) | exact room1 (by assumption) (by rfl) | ktr_room) (by first | exact room0 (by assumption) (by rfl) | exact room1 (by assumption) (by rfl) | ktr_units) ?_; walk_at "my tail"))
  k_with "call ref" => (k_here; k_dflt ((try k_fold); refine Does.use2 (by k_asm) (by k_asm) (by k_asm) (by k_asm) (by k_asm) (by first | exact rfl | assumption) (by first | with_reducible assumption | assumption) (by first | with_reducible assumption | assumption) (by first | with_reducible assumption | assumption) (div2_does _ _ _ _ _ _ _ _ (by omega) (by omega) (by omega) (by omega) (by omega) (by omega)) (by first | exact room0 (by assumption) (by rfl) | exact room1 (by assumption) (by rfl) | ktr_room) (by first | exact room0 (by assumption) (by rfl) | exact room1 (by assumption) (by rfl) | ktr_units) ?_; intro r9 news9 h9 tk9 F9 N9 P9; obtain ⟨D9, t9, u9, q9, e9, l9⟩ := P9; subst e9; subst q9; (try k_lt l9); (try (k_unfold; (try dsimp only))); (try dsimp only); (try k_fold)))
  k_with "call ref" => ((rename StopMark => hM9); refine halt_intro ?_)
  k_with "compareOp Eq ref ref" => (k_here; k_dflt (refine' my_eqNil ?k1 ?k2 ?k3 ?k4 ?k5 ?_ ?_; (case k1 => k_asm); (case k2 => k_mem); (case k3 => k_mem); (case k4 => assumption); (case k5 => ktr_units)); (all_goals intro hz9))
  k_with "subscriptTail Name UnaryOp ref int" => (k_here; (with_reducible show wpAny _ _ (subscriptTail _ _ (Value.ref _) (Value.int _ _)) _ _ _); k_dflt (refine' my_last ?k1 ?k2 ?_ ?k7; (case k1 => k_asm); (case k2 => k_mem); (case k7 => with_unfolding_all rfl); k_whole))
  trivial
end
section
inductive All2 (P : Value → Int → Prop) : List Value → List Int → Prop where
  | nil : All2 P [] []
  | cons {v : Value} {c : Int} {vs : List Value} {cs : List Int} : P v c → All2 P vs cs → All2 P (v :: vs) (c :: cs)
theorem All2.length {P : Value → Int → Prop} {vs : List Value} {cs : List Int} (h : All2 P vs cs) : vs.length = cs.length := by
  induction h with
  | nil => rfl
  | cons _ _ ih => rw [List.length_cons, List.length_cons, ih]
theorem All2.mono {P P' : Value → Int → Prop} (f : ∀ v c, P v c → P' v c) {vs : List Value} {cs : List Int} (h : All2 P vs cs) : All2 P' vs cs := by
  induction h with
  | nil => exact .nil
  | cons a _ ih => exact .cons (f _ _ a) ih
theorem All2.snoc {P : Value → Int → Prop} {vs : List Value} {cs : List Int} {v : Value} {c : Int} (h : All2 P vs cs) (hp : P v c) : All2 P (vs ++ [v]) (cs ++ [c]) := by
  induction h with
  | nil => exact .cons hp .nil
  | cons a _ ih => exact .cons a ih
theorem All2.at : ∀ {P : Value → Int → Prop} {vs : List Value} {cs : List Int}, All2 P vs cs → ∀ {i : Nat} {v : Value}, vs[i]? = some v → ∃ c, cs[i]? = some c ∧ P v c
  | _, _, _, .nil, i, v, h => by simp at h
  | _, _, _, .cons hp _, 0, v, h => by simp at h; exact ⟨_, rfl, h ▸ hp⟩
  | _, _, _, .cons _ r, i + 1, v, h => by simpa using r.at (by simpa using h)
theorem All2.ix : ∀ {P : Value → Int → Prop} {vs : List Value} {cs : List Int}, All2 P vs cs → ∀ {i : Nat} {c : Int}, cs[i]? = some c → ∃ v, vs[i]? = some v ∧ P v c
  | _, _, _, .nil, i, v, h => by simp at h
  | _, _, _, .cons hp _, 0, v, h => by simp at h; exact ⟨_, rfl, h ▸ hp⟩
  | _, _, _, .cons _ r, i + 1, v, h => by simpa using r.ix (by simpa using h)
theorem ints_at : ∀ {vs : List Value} {ns : List Int}, IntsAre vs ns → ∀ {i : Nat} {v : Value}, vs[i]? = some v → ∃ k t, ns[i]? = some k ∧ v = .int k t
  | _, _, .nil, i, v, h => by simp at h
  | _, _, .cons y t r, 0, v, h => by simp at h; exact ⟨y, t, rfl, h.symm⟩
  | _, _, .cons y t r, i + 1, v, h => by simpa using ints_at r (by simpa using h)
theorem take_snoc {cs : List Int} {i : Nat} {c : Int} (h : cs[i]? = some c) : cs.take (i + 1) = cs.take i ++ [c] := by
  rw [List.take_add_one, h]; rfl
/-- the leads of these cells -/
abbrev LeadV (v : Value) (c : Int) : Prop := ∃ x t, v = .str x t ∧ KStt.codes x = leadOf c
abbrev LeadsAre : List Value → List Int → Prop := All2 LeadV
abbrev WhiteV (R : List (Addr × Obj)) (v : Value) (c : Int) : Prop := ∃ a, v = .ref a ∧ WhiteIn R a (wsOf (leadOf c))
abbrev ColV (R : List (Addr × Obj)) (v : Value) (c : Int) : Prop := ∃ a us n, v = .ref a ∧ (a, W.listOf us.toArray n) ∈ R ∧ IntsAre us (colsOf (leadOf c))
abbrev numL (c : Int) : Int := numOf (wsOf (leadOf c))
theorem WhiteV.mono {R R' : List (Addr × Obj)} (hs : ∀ p ∈ R, p ∈ R') (v : Value) (c : Int) (h : WhiteV R v c) : WhiteV R' v c := let ⟨a, e, hw⟩ := h; ⟨a, e, hw.mono hs⟩
theorem ColV.mono {R R' : List (Addr × Obj)} (hs : ∀ p ∈ R, p ∈ R') (v : Value) (c : Int) (h : ColV R v c) : ColV R' v c := let ⟨a, us, n, e, hm, hi⟩ := h; ⟨a, us, n, e, hs _ hm, hi⟩
theorem lead_text (c : Int) : leadOf c = textOf (runsOf c) (tailOf c) := rfl
theorem lead_RF (c : Int) : ∃ c1 c2 c3 c4 t n h, RF (leadOf c) c1 c2 c3 c4 t n h := ⟨_, _, _, _, _, _, _, lead_rf (leadOk c)⟩
theorem lead_short {x : Str} {c : Int} (h : KStt.codes x = leadOf c) : x.length ≤ 20 := by
  rw [← KStt.codes_length, h]; exact lead_len c
theorem lead_ws {x : Str} {c : Int} (h : KStt.codes x = leadOf c) : wsOf ((KStt.codes (x ++ Str.ofString "x\t ")).takeWhile blank) = wsOf (leadOf c) := by
  first | ((first | refine ex1_7 (lead_RF c) ?_ | refine ex3_5 (lead_RF c) ?_ | refine ex7_1 (lead_RF c) ?_); intro _ _ _ _ _ _ _ r) | obtain ⟨_, _, _, _, _, _, _, r⟩ := (lead_RF c)
  have hb := r.bl
  rw [← h] at hb ⊢
  exact ws_mark x hb
theorem lead_wok (c : Int) : WOk (wsOf (leadOf c)) := by
  first | ((first | refine ex1_7 (lead_RF c) ?_ | refine ex3_5 (lead_RF c) ?_ | refine ex7_1 (lead_RF c) ?_); intro _ _ _ _ _ _ _ r) | obtain ⟨_, _, _, _, _, _, _, r⟩ := (lead_RF c)
  exact r.ok
theorem lead_digs (c : Int) : ∀ d ∈ digitsOf (wsOf (leadOf c)), 0 ≤ d ∧ d < 2 ^ 3 := by
  first | ((first | refine ex1_7 (lead_RF c) ?_ | refine ex3_5 (lead_RF c) ?_ | refine ex7_1 (lead_RF c) ?_); intro _ _ _ _ _ _ _ r) | obtain ⟨_, _, _, _, _, _, _, r⟩ := (lead_RF c)
  exact r.digs8
theorem cols_lt' (a b : Int) : lexB true (colsOf (leadOf a)) (colsOf (leadOf b)) = decide (numL a < numL b) := by
  first | ((first | refine ex1_7 (lead_RF a) ?_ | refine ex3_5 (lead_RF a) ?_ | refine ex7_1 (lead_RF a) ?_); intro _ _ _ _ _ _ _ r) | obtain ⟨_, _, _, _, _, _, _, r⟩ := (lead_RF a)
  first | ((first | refine ex1_7 (lead_RF b) ?_ | refine ex3_5 (lead_RF b) ?_ | refine ex7_1 (lead_RF b) ?_); intro _ _ _ _ _ _ _ q) | obtain ⟨_, _, _, _, _, _, _, q⟩ := (lead_RF b)
  exact cols_lt r q
theorem cols_le' (a b : Int) : lexB false (colsOf (leadOf a)) (colsOf (leadOf b)) = decide (numL a ≤ numL b) := by
  first | ((first | refine ex1_7 (lead_RF a) ?_ | refine ex3_5 (lead_RF a) ?_ | refine ex7_1 (lead_RF a) ?_); intro _ _ _ _ _ _ _ r) | obtain ⟨_, _, _, _, _, _, _, r⟩ := (lead_RF a)
  first | ((first | refine ex1_7 (lead_RF b) ?_ | refine ex3_5 (lead_RF b) ?_ | refine ex7_1 (lead_RF b) ?_); intro _ _ _ _ _ _ _ q) | obtain ⟨_, _, _, _, _, _, _, q⟩ := (lead_RF b)
  exact cols_le r q
/-- the objects ahead put behind the first n of the ledger -/
theorem grow_n {h₀ h : Heap} {L : Addr} {ex all : List (Addr × Obj)} (n : Nat) (N : News h₀ L h (ex ++ all)) : News h₀ L h (all.take n ++ (ex ++ all.drop n)) := cb_drop N fun p hp => by
  rcases List.mem_append.mp hp with hp | hp
  · exact List.mem_append_right _ (List.mem_of_mem_take hp)
  · rcases List.mem_append.mp hp with hp | hp
    · exact List.mem_append_left _ hp
    · exact List.mem_append_right _ (List.mem_of_mem_drop hp)
/-- no object of R stands at an address of C -/
def OffC (C : List Addr) (R : List (Addr × Obj)) : Prop := ∀ p ∈ R, p.1 ∉ C
theorem OffC.at {C : List Addr} {R : List (Addr × Obj)} (h : OffC C R) {a : Addr} (ha : a ∈ C) : ∀ p ∈ R, p.1 ≠ a := fun p hp e => h p hp (e ▸ ha)
theorem OffC.app {C : List Addr} {R R' : List (Addr × Obj)} (h : OffC C R) (h' : OffC C R') : OffC C (R ++ R') := fun p hp => (List.mem_append.mp hp).elim (h p) (h' p)
theorem OffC.cons {C : List Addr} {R : List (Addr × Obj)} {a : Addr} {o : Obj} (h : a ∉ C) (h' : OffC C R) : OffC C ((a, o) :: R) := fun p hp => by
  rcases List.mem_cons.mp hp with rfl | hp
  · exact h
  · exact h' p hp
theorem OffC.lt {C : List Addr} {ex all : List (Addr × Obj)} (o : ∀ p ∈ ex, ∀ q ∈ all, @LT.lt Nat _ q.1 p.1) (hC : ∀ a ∈ C, ∃ q ∈ all, q.1 = a) : OffC C ex := fun p hp hc => by
  first | ((first | refine ex0_3 (hC _ hc) ?_ | refine ex1_2 (hC _ hc) ?_ | refine ex2_1 (hC _ hc) ?_); intro q hq e) | obtain ⟨q, hq, e⟩ := (hC _ hc)
  exact Nat.ne_of_lt (o p hp q hq) e
/-- the fixed addresses of the law's ledger: the tables, the cells -/
abbrev Cz (z : Nat) : List Addr := [80, 73, 198, z + 1 + 1 + 1 + 1 + 1 + 1 + 1, z + 1 + 1 + 1 + 1 + 1 + 1, z + 1 + 1 + 1 + 1 + 1, z + 1 + 1 + 1 + 1, z + 1 + 1 + 1, z + 1 + 1, z + 1]
/-- the fixed part behind the first table -/
abbrev Tz (z : Nat) (ob oc o7 o6 o5 o4 o3 o2 o1 : Obj) : List (Addr × Obj) := [(73, ob), (198, oc), (z + 1 + 1 + 1 + 1 + 1 + 1 + 1, o7), (z + 1 + 1 + 1 + 1 + 1 + 1, o6), (z + 1 + 1 + 1 + 1 + 1, o5), (z + 1 + 1 + 1 + 1, o4), (z + 1 + 1 + 1, o3), (z + 1 + 1, o2), (z + 1, o1)]
section
variable {h₀ h : Heap} {L z a b c d : Addr} {oa ob oc o7 o6 o5 o4 o3 o2 o1 o : Obj} {R ex : List (Addr × Obj)}
theorem std_one {x1 x2 : Addr × Obj} {of' : Obj} (N : News h₀ L h [(a, o), (b, of'), x1, x2, (z + 1 + 1 + 1 + 1 + 1 + 1 + 1, o7), (z + 1 + 1 + 1 + 1 + 1 + 1, o6), (z + 1 + 1 + 1 + 1 + 1, o5), (z + 1 + 1 + 1 + 1, o4), (z + 1 + 1 + 1, o3), (z + 1 + 1, o2), (z + 1, o1), (73, ob), (80, oa), (198, oc)])
    (h1 : a ∉ Cz z) (h2 : b ∉ Cz z) : ∃ T R, T = Tz z ob oc o7 o6 o5 o4 o3 o2 o1 ∧ (a, o) ∈ R ∧ (b, of') ∈ R ∧ OffC (Cz z) R ∧ News h₀ L h ((80, oa) :: (T ++ R)) := by
  refine ⟨_, [(a, o), (b, of')], rfl, .head _, .tail _ (.head _), OffC.cons h1 (OffC.cons h2 fun p hp => nomatch hp), cb_drop N fun p hp => ?_⟩
  (revert p; (repeat' first | refine List.forall_mem_cons.mpr ⟨?_, ?_⟩ | refine List.forall_mem_append.mpr ⟨?_, ?_⟩); all_goals (try intro p hp); all_goals (repeat' first | assumption | exact List.Mem.head _ | exact List.mem_append_left _ (by assumption) | exact List.mem_append_right _ (by assumption) | exact absurd hp List.not_mem_nil | refine List.Mem.tail _ ?_ | refine List.mem_append_right _ ?_))
theorem std_two (N : News h₀ L h ((a, o) :: (80, oa) :: (Tz z ob oc o7 o6 o5 o4 o3 o2 o1 ++ R))) (h1 : a ∉ Cz z) (h2 : OffC (Cz z) R) : ∃ T R', T = Tz z ob oc o7 o6 o5 o4 o3 o2 o1 ∧ (a, o) ∈ R' ∧ (∀ p ∈ R, p ∈ R') ∧ OffC (Cz z) R' ∧ News h₀ L h ((80, oa) :: (T ++ R')) := by
  refine ⟨_, (a, o) :: R, rfl, .head _, fun p hp => .tail _ hp, OffC.cons h1 h2, cb_drop N fun p hp => ?_⟩
  (revert p; (repeat' first | refine List.forall_mem_cons.mpr ⟨?_, ?_⟩ | refine List.forall_mem_append.mpr ⟨?_, ?_⟩); all_goals (try intro p hp); all_goals (repeat' first | assumption | exact List.Mem.head _ | exact List.mem_append_left _ (by assumption) | exact List.mem_append_right _ (by assumption) | exact absurd hp List.not_mem_nil | refine List.Mem.tail _ ?_ | refine List.mem_append_right _ ?_))
end
section
variable {h₀ : Heap} {L I C D : Addr} {m : Str → Option Value} {s₁ : Shared} {oI oC oD : Obj} {S : List (Addr × Obj) → Prop} {rest : Value → List (Addr × Obj) → Prop} {y : Value} {h' : Heap} {tk : Nat} {ex T R : List (Addr × Obj)}
theorem off_grow {N : List (Addr × Obj)} (o : ∀ p ∈ ex, ∀ q ∈ (I, oI) :: (C, oC) :: (D, oD) :: N, @LT.lt Nat _ q.1 p.1) : ∀ p ∈ ex, p.1 ≠ I ∧ p.1 ≠ C ∧ p.1 ≠ D := fun p hp =>
  ⟨Nat.ne_of_gt (o p hp _ (.head _)), Nat.ne_of_gt (o p hp _ (.tail _ (.head _))), Nat.ne_of_gt (o p hp _ (.tail _ (.tail _ (.head _))))⟩
theorem compEnd_grow {a : Addr} {oa ob : Obj} (F : Fr h₀ L h' m) (N : News h₀ L h' ((a, ob) :: (ex ++ ((I, oI) :: (C, oC) :: (D, oD) :: (T ++ R))))) (o : ∀ p ∈ ex, ∀ q ∈ (I, oI) :: (C, oC) :: (D, oD) :: (T ++ R), @LT.lt Nat _ q.1 p.1)
    (off : LCg.Off3 I C D ((a, oa) :: (T ++ R))) (hS : S ((a, ob) :: (T ++ (ex ++ R)))) (r : rest y ((a, ob) :: (T ++ (ex ++ R)))) : LCg.CompEnd h₀ L m s₁ I oI C oC D oD S rest y { s₁ with heap := h', toks := tk } := by
  refine LCg.CompEnd.intro F N ((a, ob) :: (T ++ (ex ++ R))) (fun p hp => ?_) ⟨off.1, LCg.Off3.of fun p hp => ?_⟩ hS r
  · (revert p; (repeat' first | refine List.forall_mem_cons.mpr ⟨?_, ?_⟩ | refine List.forall_mem_append.mpr ⟨?_, ?_⟩); all_goals (try intro p hp); all_goals (repeat' first | assumption | exact List.Mem.head _ | exact List.mem_append_left _ (by assumption) | exact List.mem_append_right _ (by assumption) | exact absurd hp List.not_mem_nil | refine List.Mem.tail _ ?_ | refine List.mem_append_right _ ?_))
  · rcases List.mem_append.mp hp with h | h
    · exact off.2.mem p (List.mem_append_left _ h)
    · rcases List.mem_append.mp h with h | h
      · exact off_grow o p h
      · exact off.2.mem p (List.mem_append_right _ h)
theorem news_a3 {h : Heap} {a : Addr} {oa : Obj} {N : List (Addr × Obj)} {x y w : Addr × Obj} (h1 : News h₀ L h (x :: y :: w :: (a, oa) :: N)) : News h₀ L h ((a, oa) :: x :: y :: w :: N) := cb_drop h1 fun p hp => by
  (revert p; (repeat' first | refine List.forall_mem_cons.mpr ⟨?_, ?_⟩ | refine List.forall_mem_append.mpr ⟨?_, ?_⟩); all_goals (try intro p hp); all_goals (repeat' first | assumption | exact List.Mem.head _ | exact List.mem_append_left _ (by assumption) | exact List.mem_append_right _ (by assumption) | exact absurd hp List.not_mem_nil | refine List.Mem.tail _ ?_ | refine List.mem_append_right _ ?_))
theorem news_ex3 {h : Heap} {a : Addr × Obj} {N ex : List (Addr × Obj)} {x y w : Addr × Obj} (h1 : News h₀ L h (ex ++ x :: y :: w :: a :: N)) : News h₀ L h (a :: (ex ++ x :: y :: w :: N)) := cb_drop h1 fun p hp => by
  (revert p; (repeat' first | refine List.forall_mem_cons.mpr ⟨?_, ?_⟩ | refine List.forall_mem_append.mpr ⟨?_, ?_⟩); all_goals (try intro p hp); all_goals (repeat' first | assumption | exact List.Mem.head _ | exact List.mem_append_left _ (by assumption) | exact List.mem_append_right _ (by assumption) | exact absurd hp List.not_mem_nil | refine List.Mem.tail _ ?_ | refine List.mem_append_right _ ?_))
end
theorem Tz_has (z : Nat) (ob oc o7 o6 o5 o4 o3 o2 o1 : Obj) : ∀ a ∈ Cz z, a = 80 ∨ ∃ q ∈ Tz z ob oc o7 o6 o5 o4 o3 o2 o1, q.1 = a := by
  intro a ha
  simp only [Cz, List.mem_cons, List.not_mem_nil, or_false] at ha
  rcases ha with rfl | rfl | rfl | rfl | rfl | rfl | rfl | rfl | rfl | rfl
  · exact .inl rfl
  · exact .inr ⟨_, .head _, rfl⟩
  · exact .inr ⟨_, .tail _ (.head _), rfl⟩
  · exact .inr ⟨_, .tail _ (.tail _ (.head _)), rfl⟩
  · exact .inr ⟨_, .tail _ (.tail _ (.tail _ (.head _))), rfl⟩
  · exact .inr ⟨_, .tail _ (.tail _ (.tail _ (.tail _ (.head _)))), rfl⟩
  · exact .inr ⟨_, .tail _ (.tail _ (.tail _ (.tail _ (.tail _ (.head _))))), rfl⟩
  · exact .inr ⟨_, .tail _ (.tail _ (.tail _ (.tail _ (.tail _ (.tail _ (.head _)))))), rfl⟩
  · exact .inr ⟨_, .tail _ (.tail _ (.tail _ (.tail _ (.tail _ (.tail _ (.tail _ (.head _))))))), rfl⟩
  · exact .inr ⟨_, .tail _ (.tail _ (.tail _ (.tail _ (.tail _ (.tail _ (.tail _ (.tail _ (.head _)))))))), rfl⟩
theorem mem3 {x y w a q : Addr × Obj} {N : List (Addr × Obj)} (h : q ∈ x :: y :: w :: N) : q ∈ x :: y :: w :: a :: N := by
  simp only [List.mem_cons] at h ⊢
  rcases h with h | h | h | h <;> simp [h]
theorem off_ex {z : Nat} {x y w : Addr × Obj} {oa : Obj} {ex T R : List (Addr × Obj)} (o : ∀ p ∈ ex, ∀ q ∈ x :: y :: w :: (80, oa) :: (T ++ R), @LT.lt Nat _ q.1 p.1) (hT : ∀ a ∈ Cz z, a = 80 ∨ ∃ q ∈ T, q.1 = a) : OffC (Cz z) ex :=
  OffC.lt o fun a ha => by
    rcases hT a ha with rfl | ⟨q, hq, e⟩
    · exact ⟨_, .tail _ (.tail _ (.tail _ (.head _))), rfl⟩
    · exact ⟨q, .tail _ (.tail _ (.tail _ (.tail _ (List.mem_append_left _ hq)))), e⟩
theorem off_ex' {z : Nat} {x y w : Addr × Obj} {ex T R : List (Addr × Obj)} (o : ∀ p ∈ ex, ∀ q ∈ x :: y :: w :: (T ++ R), @LT.lt Nat _ q.1 p.1) (o80 : ∀ p ∈ ex, @LT.lt Nat _ 80 p.1) (hT : ∀ a ∈ Cz z, a = 80 ∨ ∃ q ∈ T, q.1 = a) : OffC (Cz z) ex := fun p hp hc => by
  rcases hT _ hc with e | ⟨q, hq, e⟩
  · exact Nat.ne_of_gt (o80 p hp) e
  · exact Nat.ne_of_lt (o p hp q (.tail _ (.tail _ (.tail _ (List.mem_append_left _ hq))))) e
theorem Tz_off {z : Nat} {ob oc o7 o6 o5 o4 o3 o2 o1 : Obj} (h : 80 < z) : ∀ p ∈ Tz z ob oc o7 o6 o5 o4 o3 o2 o1, p.1 ≠ 80 := by
  intro p hp
  simp only [List.mem_cons, List.not_mem_nil, or_false] at hp
  rcases hp with rfl | rfl | rfl | rfl | rfl | rfl | rfl | rfl | rfl
  · exact (by decide : (73 : Nat) ≠ 80)
  · exact (by decide : (198 : Nat) ≠ 80)
  all_goals exact (show @Ne Nat _ 80 by omega)
theorem not_Cz {a z : Nat} (h : a ≠ 80 ∧ a ≠ 73 ∧ a ≠ 198 ∧ (a ≠ z + 1 + 1 + 1 + 1 + 1 + 1 + 1 ∧ a ≠ z + 1 + 1 + 1 + 1 + 1 + 1 ∧ a ≠ z + 1 + 1 + 1 + 1 + 1 ∧ a ≠ z + 1 + 1 + 1 + 1 ∧ a ≠ z + 1 + 1 + 1 ∧ a ≠ z + 1 + 1 ∧ a ≠ z + 1)) : a ∉ Cz z := by
  simp only [Cz, List.mem_cons, List.not_mem_nil, or_false, not_or]
  exact h
theorem not_Cz_gt {a z : Nat} (h : z + 1 + 1 + 1 + 1 + 1 + 1 + 1 < a) (hz : 198 < z) : a ∉ Cz z := by
  have g : ∀ i : Nat, i ≤ 7 → a ≠ z + i := fun i hi => Nat.ne_of_gt (Nat.lt_of_le_of_lt (Nat.add_le_add_left hi z) h)
  have s : ∀ i : Nat, i ≤ 198 → a ≠ i := fun i hi => Nat.ne_of_gt (Nat.lt_of_le_of_lt (Nat.le_trans hi (Nat.le_trans (Nat.le_of_lt hz) (Nat.le_add_right z 7))) h)
  exact not_Cz ⟨s 80 (by decide), s 73 (by decide), s 198 (by decide), g 7 (by decide), g 6 (by decide), g 5 (by decide), g 4 (by decide), g 3 (by decide), g 2 (by decide), g 1 (by decide)⟩
theorem notin_of {C : List Addr} {a : Addr} {l : List (Addr × Obj)} (h : ∀ p ∈ l, p.1 ≠ a) (hC : ∀ c ∈ C, ∃ o, (c, o) ∈ l) : a ∉ C := fun hc => let ⟨_, ho⟩ := hC a hc; h _ ho rfl
theorem frame_cut {h₀ h : Heap} {L : Addr} {a b : Str} {v u : Value} {m : Str → Option Value} (F : Fr h₀ L h (fun x => if x = a then some v else (fun y => if y = b then some u else m y) x)) : ∃ m0 : Str → Option Value, Fr h₀ L h (fun x => if x = a then some v else if x = b then some u else m0 x) := ⟨m, F⟩
theorem int_nth {i : Nat} {s : Int} (h : ([6, 5, 4, 3, 2, 1] : List Int)[i]? = some s) : 0 < s ∧ s ≤ 6 := by
  have hm := List.mem_of_getElem? h
  simp only [List.mem_cons, List.not_mem_nil, or_false] at hm
  omega
theorem cols_take {xs : List Int} {i : Nat} {s : Int} (h : ([6, 5, 4, 3, 2, 1] : List Int)[i]? = some s) : (colsOf xs).take (i + 1) = (colsOf xs).take i ++ [colOf s xs] := by
  have e : colsOf xs = ([6, 5, 4, 3, 2, 1] : List Int).map fun s => colOf s xs := rfl
  have h2 : (colsOf xs)[i]? = some (colOf s xs) := by rw [e, List.getElem?_map, h]; rfl
  exact take_snoc h2
theorem colsOf_len (xs : List Int) : (colsOf xs).length = 6 := rfl
theorem Off4.cons {I C D K : Addr} {p : Addr × Obj} {N : List (Addr × Obj)} (h : p.1 ≠ I ∧ p.1 ≠ C ∧ p.1 ≠ D ∧ p.1 ≠ K) (h' : Off4 I C D K N) : Off4 I C D K (p :: N) := fun q hq => by
  rcases List.mem_cons.mp hq with rfl | hq
  · exact h
  · exact h' q hq
theorem Off1.mem {D : Addr} : ∀ {l : List (Addr × Obj)}, LCg.Off1 D l → ∀ p ∈ l, p.1 ≠ D
  | [], _, _, h => nomatch h
  | _ :: _, x, p, h => by
    rcases List.mem_cons.mp h with rfl | h
    · exact x.1
    · exact Off1.mem x.2 p h
theorem off1_Cz {z a : Nat} {oa : Obj} {T R : List (Addr × Obj)} (h : ∀ p ∈ ((80 : Addr), oa) :: (T ++ R), p.1 ≠ a) (hT : ∀ a ∈ Cz z, a = 80 ∨ ∃ q ∈ T, q.1 = a) : a ∉ Cz z := fun hc => by
  rcases hT a hc with e | ⟨q, hq, e⟩
  · exact h _ (.head _) e.symm
  · exact h q (.tail _ (List.mem_append_left _ hq)) e
theorem cell_end {h₀ h' : Heap} {L lc l' I C D K : Addr} {olc ol oI oC oD oK oa : Obj} {T R : List (Addr × Obj)} (N : News h₀ L h' ((lc, olc) :: (l', ol) :: (I, oI) :: (C, oC) :: (D, oD) :: (K, oK) :: (80, oa) :: (T ++ R)))
    (o : LCg.Off1 lc ((l', ol) :: (I, oI) :: (C, oC) :: (D, oD) :: (K, oK) :: (80, oa) :: (T ++ R))) (off : Off4 I C D K ((80, oa) :: (T ++ R))) :
    News h₀ L h' ((I, oI) :: (C, oC) :: (D, oD) :: (K, oK) :: (80, oa) :: (T ++ ((lc, olc) :: R))) ∧ Off4 I C D K ((80, oa) :: (T ++ ((lc, olc) :: R))) ∧ ∀ p ∈ ((80 : Addr), oa) :: (T ++ R), p.1 ≠ lc := by
  refine ⟨cb_drop N fun p hp => ?_, fun p hp => ?_, Off1.mem o.2.2.2.2.2⟩
  · (revert p; (repeat' first | refine List.forall_mem_cons.mpr ⟨?_, ?_⟩ | refine List.forall_mem_append.mpr ⟨?_, ?_⟩); all_goals (try intro p hp); all_goals (repeat' first | assumption | exact List.Mem.head _ | exact List.mem_append_left _ (by assumption) | exact List.mem_append_right _ (by assumption) | exact absurd hp List.not_mem_nil | refine List.Mem.tail _ ?_ | refine List.mem_append_right _ ?_))
  · rcases List.mem_cons.mp hp with rfl | hp
    · exact off _ (.head _)
    · rcases List.mem_append.mp hp with hp | hp
      · exact off _ (.tail _ (List.mem_append_left _ hp))
      · rcases List.mem_cons.mp hp with rfl | hp
        · exact ⟨Ne.symm o.2.1, Ne.symm o.2.2.1, Ne.symm o.2.2.2.1, Ne.symm o.2.2.2.2.1⟩
        · exact off _ (.tail _ (List.mem_append_right _ hp))
end
section
section
variable {prog : Program} {w : World} {A : Around} {E : Value → Shared → Prop} {s : Shared} {env : Env} {h₀ : Heap} {m : Str → Option Value}
/-- a turn's end where the loop's target is the cell c -/
def TurnEndC (h₀ : Heap) (L I c : Addr) (oI : Obj) (J : (Str → Option Value) → List (Addr × Obj) → Prop) (s₁ s₂ : Shared) : Prop :=
  ∃ h' tk m' nx oc v, s₂ = { s₁ with heap := h', toks := tk } ∧ Fr h₀ L h' m' ∧ News h₀ L h' ((I, oI) :: (c, oc) :: nx) ∧ (∀ p ∈ nx, p.1 ≠ I ∧ p.1 ≠ c) ∧ oc.data = .cell v ∧ J m' nx
def TurnPostC (h₀ : Heap) (L I c : Addr) (oI : Obj) (J : (Str → Option Value) → List (Addr × Obj) → Prop) (s₁ : Shared) (Q : Flow → Shared → Prop) (f : Flow) (s₂ : Shared) : Prop :=
  match f with
  | .ret v => Q (.ret v) s₂
  | .brk => Q .next s₂
  | _ => TurnEndC h₀ L I c oI J s₁ s₂
theorem for_cell {x : Str} {px pos : Pos} {iter : PySem.Expr} {body : List Stmt} {Q : Flow → Shared → Prop} {c : Addr} (_ : Fr h₀ env.locals s.heap m) (hk : env.scope.kind = .function) (hx : env.kindOf x = some .cell) (hcl : env.cells.lookup x = some c)
    (h : wpAny (model prog w) A (eval iter env) (fun xv s₁ => ∃ r b t u v n news oc v₀, xv = .ref r ∧ A.handled = none ∧ IsRange s₁.heap r 0 b 1 t u v ∧ Builtin.Range.small 0 b 1 = true ∧ Builtin.Range.rangeSize 0 b 1 = ((n : Nat) : Int) ∧ Fr h₀ env.locals s₁.heap m ∧
      News h₀ env.locals s₁.heap ((c, oc) :: news) ∧ oc.data = .cell v₀ ∧ (∀ p ∈ news, p.1 ≠ c) ∧ c ≠ env.locals ∧ ∃ J : Nat → (Str → Option Value) → List (Addr × Obj) → Prop, J 0 m news ∧
      (∀ i m₁ nx h tk I oI oc t, i < n → J i m₁ nx → oc.data = .cell (some (.int (i : Int) t)) → (∀ p ∈ nx, p.1 ≠ I ∧ p.1 ≠ c) → I ≠ c → Fr h₀ env.locals h m₁ → News h₀ env.locals h ((I, oI) :: (c, oc) :: nx) →
        wpAny (model prog w) A (execs body env) (TurnPostC h₀ env.locals I c oI (J (i + 1)) { s₁ with heap := h, toks := tk } Q) E { s₁ with heap := h, toks := tk }) ∧
      (∀ m₁ nx h tk oc v, J n m₁ nx → oc.data = .cell v → Fr h₀ env.locals h m₁ → News h₀ env.locals h ((c, oc) :: nx) → (∀ p ∈ nx, p.1 ≠ c) → Q .next { s₁ with heap := h, toks := tk })) E s)
    (hs : ∀ x, foldedSetIterable iter env x = pure x := by intro _; rfl)
    (hE : PassesOwn (model prog w) A env E := by passes_own) :
    wpAny (model prog w) A (exec (.For (.Name x px) iter body [] pos) env) Q E s := by
  refine wpAny_For (wpAny_mono h (fun xv s₁ h₁ => ?_) fun _ _ e => e) hs
  first | ((first | refine ex9_11 (h₁) ?_); (try clear h₁); intro r b t u v n news oc v₀ hr9_0 hh hr hsm hn F N hd hoff hcL h1; subst hr9_0) | obtain ⟨r, b, t, u, v, n, news, oc, v₀, rfl, hh, hr, hsm, hn, F, N, hd, hoff, hcL, h1⟩ := (h₁)
  first | ((first | refine ex0_4 (h1) ?_ | refine ex1_3 (h1) ?_ | refine ex2_2 (h1) ?_); (try clear h1); intro J hj turn done) | obtain ⟨J, hj, turn, done⟩ := (h1)
  refine wpAny_pyIter_range hr hsm ?_
  generalize hI : s₁.heap.objs.size = I
  generalize hH : s₁.heap.push _ = H
  have hIL : I ≠ env.locals := by rw [← hI]; exact Ne.symm (Nat.ne_of_lt F.ns.lt)
  have hI₀ : h₀.get? I = none := by rw [← hI]; exact next_is_new F
  have hc₀ : h₀.get? c = none := (N _ (.head _)).2.2
  have hIc : I ≠ c := by rw [← hI]; exact Nat.ne_of_gt (Heap.lt_size (N (c, oc) (.head _)).1)
  have hst : IsRangeIter H I (0 + ((0 : Nat) : Int) * 1) ((n : Int) - ((0 : Nat) : Int)) 1 := by
    show IsRangeIter _ _ _ _ _
    rw [← hH, ← hI, hn]; simpa using Heap.get?_push_size _ rfl
  have FH : Fr h₀ env.locals H m := by rw [← hH]; exact F.push _
  have NH : News h₀ env.locals H ((c, oc) :: news) := fun p hp => by rw [← hH]; exact ⟨Heap.get?_push_of_some _ (N p hp).1, (N p hp).2⟩
  have offI : ∀ p ∈ news, p.1 ≠ I ∧ p.1 ≠ c := fun p hp => ⟨by rw [← hI]; exact Nat.ne_of_lt (Heap.lt_size (N p (.tail _ hp)).1), hoff p hp⟩
  have W := LCg.range_walks (prog := prog) (w := w) (I := I) hh 0 n
  have old : ∀ b o, h₀.get? b = some o → b ≠ I := fun b o e q => by rw [q, hI₀] at e; cases e
  have oldc : ∀ b o, h₀.get? b = some o → b ≠ c := fun b o e q => by rw [q, hc₀] at e; cases e
  refine codeAny_forLoop
    (fun k s' => ∃ h' tk m' nx i oc v, s' = { s₁ with heap := h', toks := tk } ∧ IsRangeIter h' I (0 + ((i : Nat) : Int) * 1) ((n : Int) - ((i : Nat) : Int)) 1 ∧ Fr h₀ env.locals h' m' ∧ News h₀ env.locals h' ((c, oc) :: nx) ∧ (∀ p ∈ nx, p.1 ≠ I ∧ p.1 ≠ c) ∧ oc.data = .cell v ∧ J i m' nx ∧ i ≤ n ∧ k = n + 1 - i) ?_ (n + 1)
    ⟨H, _, m, news, 0, oc, v₀, rfl, hst, FH, NH, offI, hd, hj, Nat.zero_le _, rfl⟩
  intro k s' hp9_2
  first | ((first | refine ex7_9 (hp9_2) ?_); (try clear hp9_2); intro h' tk m' nx i oc v hr9_0 hst' F' N' off' hd' hJ hi hr9_1; subst hr9_0; subst hr9_1) | obtain ⟨h', tk, m', nx, i, oc, v, rfl, hst', F', N', off', hd', hJ, hi, rfl⟩ := (hp9_2)
  by_cases hlt : i < n
  · refine W.item i _ _ _ hlt hst' fun v h₁ tk₁ hP hst₁ hk₁ => ?_
    first | ((first | refine ex0_2 (hP) ?_ | refine ex1_1 (hP) ?_); (try clear hP); intro t hr9_0; subst hr9_0) | obtain ⟨t, rfl⟩ := (hP)
    have k1 : ∀ b o, b ≠ I → h'.get? b = some o → h₁.get? b = some o := fun b o hb e => hk₁ b o (by simpa using hb) e
    refine wpAny_assign_Name (wpAny_storeName_cell hk hx hcl ⟨oc, k1 _ _ (Ne.symm hIc) (N' (c, oc) (.head _)).1, hd'⟩ (fun h₂ hc₂ hs₂ => ?_))
    first | ((first | refine ex0_3 (hc₂) ?_ | refine ex1_2 (hc₂) ?_ | refine ex2_1 (hc₂) ?_); (try clear hc₂); intro oc₂ hoc hdc) | obtain ⟨oc₂, hoc, hdc⟩ := (hc₂)
    have k2 : ∀ b o, b ≠ c → h₁.get? b = some o → h₂.get? b = some o := fun b o hb e => hs₂.extBut b o hb e
    have k12 : ∀ b o, b ≠ I → b ≠ c → h'.get? b = some o → h₂.get? b = some o := fun b o h1 h2 e => k2 b o h2 (k1 b o h1 e)
    have F₂ : Fr h₀ env.locals h₂ m' := ⟨F'.ns.at' fun o e => k12 _ o (Ne.symm hIL) (Ne.symm hcL) e, fun b o e => k12 b o (old b o e) (oldc b o e) (F'.keep b o e), F'.above⟩
    have hst₂ : IsRangeIter h₂ I (0 + ((i + 1 : Nat) : Int) * 1) ((n : Int) - ((i + 1 : Nat) : Int)) 1 := k2 _ _ hIc hst₁
    first | ((first | refine ex0_2 (⟨_, hst₂⟩ : ∃ oI, h₂.get? I = some oI) ?_ | refine ex1_1 (⟨_, hst₂⟩ : ∃ oI, h₂.get? I = some oI) ?_); intro oI hoI) | obtain ⟨oI, hoI⟩ := (⟨_, hst₂⟩ : ∃ oI, h₂.get? I = some oI)
    have N₂ : News h₀ env.locals h₂ ((I, oI) :: (c, oc₂) :: nx) := fun p hp => by
      rcases List.mem_cons.mp hp with rfl | hp
      · exact ⟨hoI, hIL, hI₀⟩
      rcases List.mem_cons.mp hp with rfl | hp
      · exact ⟨hoc, hcL, hc₀⟩
      · have z := N' p (.tail _ hp)
        exact ⟨k12 _ _ (off' p hp).1 (off' p hp).2 z.1, z.2⟩
    refine wpAny_mono (wpAny_passesOwn hE (turn i m' nx h₂ tk₁ I oI oc₂ t hlt hJ (by rw [hdc]; simp) off' hIc F₂ N₂)) (fun f s₃ h₃ => ?_) fun _ _ e => e
    have fin : TurnEndC h₀ env.locals I c oI (J (i + 1)) { s₁ with heap := h₂, toks := tk₁ } s₃ → ∃ h' tk m' nx i' oc v, s₃ = { s₁ with heap := h', toks := tk } ∧ IsRangeIter h' I (0 + ((i' : Nat) : Int) * 1) ((n : Int) - ((i' : Nat) : Int)) 1 ∧ Fr h₀ env.locals h' m' ∧ News h₀ env.locals h' ((c, oc) :: nx) ∧ (∀ p ∈ nx, p.1 ≠ I ∧ p.1 ≠ c) ∧ oc.data = .cell v ∧ J i' m' nx ∧ i' ≤ n ∧ n + 1 - (i + 1) = n + 1 - i' := by
      intro hp9_0
      first | ((first | refine ex6_6 (hp9_0) ?_); (try clear hp9_0); intro h₃' tk₃ m₃ nx₃ oc₃ v₃ hr9_0 F₃ N₃ off₃ hd₃ hJ₃; subst hr9_0) | obtain ⟨h₃', tk₃, m₃, nx₃, oc₃, v₃, rfl, F₃, N₃, off₃, hd₃, hJ₃⟩ := (hp9_0)
      refine ⟨h₃', tk₃, m₃, nx₃, i + 1, oc₃, v₃, rfl, ?_, F₃, fun p hp => N₃ p (.tail _ hp), off₃, hd₃, hJ₃, hlt, rfl⟩
      have e := (N₃ (I, oI) (.head _)).1
      rw [show h₂.get? I = some _ from hst₂] at hoI
      cases hoI
      exact e
    cases f with
    | ret v => exact h₃
    | brk => exact h₃
    | next => exact ⟨n + 1 - (i + 1), by omega, fin h₃⟩
    | cont => exact ⟨n + 1 - (i + 1), by omega, fin h₃⟩
  · have hin : i = n := by omega
    subst hin
    refine W.done _ _ _ hst' fun h₁ tk₁ hk₁ => wpAny_execs_nil ?_
    have k1 : ∀ b o, b ≠ I → h'.get? b = some o → h₁.get? b = some o := fun b o hb e => hk₁ b o (by simpa using hb) e
    exact done m' nx h₁ tk₁ oc v hJ hd' ⟨F'.ns.at' fun o e => k1 _ o (Ne.symm hIL) e, fun b o e => k1 b o (old b o e) (F'.keep b o e), F'.above⟩ (fun p hp => by
      have z := N' p hp
      refine ⟨k1 _ _ ?_ z.1, z.2⟩
      rcases List.mem_cons.mp hp with rfl | hp
      · exact Ne.symm hIc
      · exact (off' p hp).1) fun p hp => (off' p hp).2
end
end
section
abbrev lamQ : Str := Str.ofString "law.<locals>.<lambda>"
abbrev lamP (p : Pos) : Arguments := { posonlyargs := [], args := [{ arg := Str.ofString "k", annotation := none, pos := p }], vararg := none, kwonlyargs := [], kw_defaults := [], kwarg := none, defaults := [] }
abbrev numBody (p q r : Pos) : PySem.Expr := .Subscript (.Name (Str.ofString "numbers") p) (.Name (Str.ofString "k") q) r
abbrev numScope : Scope := { kind := .function, names := [(Str.ofString "k", .local), (Str.ofString "numbers", .free)], isGenerator := false, isCoroutine := false }
abbrev overBody (a b c d e f : Pos) : PySem.Expr := .Call (.Name (Str.ofString "_law_over") a) [.Subscript (.Name (Str.ofString "whites") b) (.Name (Str.ofString "k") c) d, .Name (Str.ofString "found") e] [] f
abbrev overScope : Scope := { kind := .function, names := [(Str.ofString "k", .local), (Str.ofString "found", .free), (Str.ofString "whites", .free), (Str.ofString "_law_over", .globalImplicit)], isGenerator := false, isCoroutine := false }
theorem lamnum_does (w : World) (news : List (Addr × Obj)) (f c' cN ln : Addr) (oN oc : Obj) (pm ctv : Value) (vs' : Array Value) (tq : Tok) (p1 p2 p3 p4 : Pos) (nv : List Value) (nn : Nat) (ns : List Int) (k : Int) (t : Tok)
    (hf : (f, kla_obj (Str.ofString "<lambda>") lamQ (lamP p4) (numBody p1 p2 p3) numScope [(Str.ofString "numbers", cN)] pm c' ctv) ∈ news)
    (hc : (c', oc) ∈ news) (hc1 : oc.data = .fields vs') (hc2 : vs'[1]? = some (.str lamQ tq))
    (hN : (cN, oN) ∈ news) (hN1 : oN.data = .cell (some (.ref ln))) (hl : (ln, W.listOf nv.toArray nn) ∈ news) (hi : IntsAre nv ns) (h0 : 0 ≤ k) (h1 : k < (ns.length : Int)) (h2 : ns.length ≤ 8) :
    Does w news 1 30 f [.int k t] [] (Keeps1 news fun r => ∃ t, r = .int (ns.getD k.toNat 0) t) := by
  unfold Does
  w_top off
  k_fill
  intro p loose mean mg mb dp un' gd cn cs a ccd cl outer A₀ base h₀ Lf m s Q E B F X N T hk C1 C2 C3 hd hu hret
  refine wpAny_call ?_
  (k_dflt (refine' kla_code ?k1 ?k2 ?k3 ?k4 ?k5 ?kA ?kF ?kK ?k6 ?k7 ?k8 ?k9 ?kB ?_ ?c2 ?c3 ?c4 ?c5; (case kA => exact rfl); (case kF => exact rfl); (case kK => assumption); (case k1 => k_asm); (case k2 => k_asm); (case k3 => k_asm); (case k4 => k_asm); (case k5 => k_asm); (case k6 => exact hf); (case k7 => exact codeRec_news N hc hc1 hc2); (case k8 => k_room); (case k9 => exact rfl); (case c5 => decide); (case kB => exact locs rfl); (case c2 => exact rfl); (case c3 => exact rfl); (case c4 => exact rfl); k_whole; intro g' L' h' FG' F' N' B' X' T'; (try dsimp only); (try k_lift B'); (try k_fold)))
  have kMark := kstMark
  iterate 4 (all_goals try first | (k_unfold; (try dsimp only)) | (k_end; wrow_close) | walk1 | (dsimp only; walk1))
  k_steps
  exact keep_ret hret (by k_asm) (by k_asm) (fun _ h => h) ⟨_, rfl⟩
theorem lamover_does (w : World) (news : List (Addr × Obj)) (f c' cW cF lw af : Addr) (oW oF oc : Obj) (pm ctv : Value) (vs' : Array Value) (tq : Tok) (p1 p2 p3 p4 p5 p6 p7 : Pos) (wv : List Value) (wn : Nat) (cs : List Int) (st : WS) (k : Int) (t : Tok)
    (hf : (f, kla_obj (Str.ofString "<lambda>") lamQ (lamP p7) (overBody p1 p2 p3 p4 p5 p6) overScope [(Str.ofString "whites", cW), (Str.ofString "found", cF)] pm c' ctv) ∈ news)
    (hc : (c', oc) ∈ news) (hc1 : oc.data = .fields vs') (hc2 : vs'[1]? = some (.str lamQ tq))
    (hW : (cW, oW) ∈ news) (hW1 : oW.data = .cell (some (.ref lw))) (hF : (cF, oF) ∈ news) (hF1 : oF.data = .cell (some (.ref af))) (hl : (lw, W.listOf wv.toArray wn) ∈ news) (hi : All2 (WhiteV news) wv cs) (hfo : WhiteIn news af st) (hok : WOk st)
    (h0 : 0 ≤ k) (h1 : k < (cs.length : Int)) (h2 : cs.length ≤ 8) :
    Does w news 6 160 f [.int k t] [] (Keeps1 news fun r => ∃ t, r = .int (overOf (wsOf (leadOf (cs.getD k.toNat 0))) st) t) := by
  unfold Does
  w_top off
  k_fill
  intro p loose mean mg mb dp un' gd cn cs' a ccd cl outer A₀ base h₀ Lf m s Q E B F X N T hk C1 C2 C3 hd hu hret
  refine wpAny_call ?_
  (k_dflt (refine' kla_code ?k1 ?k2 ?k3 ?k4 ?k5 ?kA ?kF ?kK ?k6 ?k7 ?k8 ?k9 ?kB ?_ ?c2 ?c3 ?c4 ?c5; (case kA => exact rfl); (case kF => exact rfl); (case kK => assumption); (case k1 => k_asm); (case k2 => k_asm); (case k3 => k_asm); (case k4 => k_asm); (case k5 => k_asm); (case k6 => exact hf); (case k7 => exact codeRec_news N hc hc1 hc2); (case k8 => k_room); (case k9 => exact rfl); (case c5 => decide); (case kB => exact locs rfl); (case c2 => exact rfl); (case c3 => exact rfl); (case c4 => exact rfl); k_whole; intro g' L' h' FG' F' N' B' X' T'; (try dsimp only); (try k_lift B'); (try k_fold)))
  have kMark := kstMark
  obtain ⟨v, hv, wa, rfl, hwa⟩ := hi.ix (i := k.toNat) (c := cs.getD k.toNat 0) (by
    have h3 : k.toNat < cs.length := by omega
    simp [List.getD, h3])
  iterate 7 (all_goals try first | (k_unfold; (try dsimp only)) | (k_end; wrow_close) | walk1 | (dsimp only; walk1))
  refine my_itemV (by k_asm) hl h0 (by omega) hv ?_
  have hStop := stopMark
  k_steps
  (rename StopMark => hStop9; clear hStop9)
  unfold Halt
  (try k_fold); refine' Does.use (over_does w _ wa af _ st hwa hfo (lead_wok _) hok) ?k1 ?k2 ?k3 ?k4 ?k5 ?kK ?c1 ?c2 ?c3 ?kd ?ku ?_; (case k1 => k_asm); (case k2 => k_asm); (case k3 => k_asm); (case k4 => first | k_asm | exact news_swap (by k_asm)); (case k5 => k_asm); (case kK => first | exact rfl | assumption); (case c1 => first | with_reducible assumption | assumption); (case c2 => first | with_reducible assumption | assumption); (case c3 => first | with_reducible assumption | assumption); (case kd => first | exact room0 (by assumption) (by rfl) | exact room1 (by assumption) (by rfl) | ktr_room); (case ku => first | exact room0 (by assumption) (by rfl) | exact room1 (by assumption) (by rfl) | ktr_units)
  intro r9 news9 h9 tk9 F9 N9 P9
  first | ((first | refine ex0_3 (P9) ?_ | refine ex1_2 (P9) ?_ | refine ex2_1 (P9) ?_); (try clear P9); intro e9 t9 q9) | obtain ⟨e9, t9, q9⟩ := (P9)
  subst e9
  subst q9
  (try (k_unfold; (try dsimp only)))
  (try dsimp only)
  (try k_fold)
  k_steps
  exact keep_ret hret (by k_asm) (by k_asm) (fun _ h => h) ⟨_, rfl⟩
end
section
noncomputable def lawStmt : { s : Stmt // theRow.prog.main.body[22]? = some s } := ⟨_, rfl⟩
noncomputable def lawIn : { x : Scope × List Stmt // ∃ n a d e t u b p, lawStmt.1 = .FunctionDef n a x.2 d e t x.1 u b p } := ⟨(_, _), _, _, _, _, _, _, _, _, rfl⟩
noncomputable def lawLoop : { x : PySem.Expr × List Stmt // ∃ t p, lawIn.1.2[8]? = some (.For t x.1 x.2 [] p) } := ⟨(_, _), _, _, rfl⟩
noncomputable abbrev lawAround (dp un : Nat) (gd : Option (List Code)) (z : Nat) (fa : Addr) (outer : List Env) : Around := ktrTop dp un gd (Str.ofString "law") lawIn.1.1 z fa (.ref 200) (cellsFrom (z + 1) lawIn.1.1.names []) outer
noncomputable abbrev lawEnv (z : Nat) (fa : Addr) : Env := envOfC (Str.ofString "law") lawIn.1.1 z fa (.ref 200)
abbrev lawMap (ld lr ll lc : Addr) (m0 : Str → Option Value) : Str → Option Value := fun y => if y = Str.ofString "due" then some (.ref ld) else if y = Str.ofString "row" then some (.ref lr) else if y = Str.ofString "leads" then some (.ref ll) else if y = Str.ofString "cells" then some (.ref lc) else m0 y
/-- a place's worth -/
def ordV (cs : List Int) (k : Int) : Int := numL (cs.getD k.toNat 0)
def insJ (cs ks : List Int) (i : Int) : Nat := if (cs.getD i.toNat 0) % 2 = 0 then cntLe (ordV cs) (ordV cs i) ks else cntLt (ordV cs) (ordV cs i) ks
def insAt (cs ks : List Int) (i : Int) : List Int := ks.take (insJ cs ks i) ++ i :: ks.drop (insJ cs ks i)
theorem map_getD {cs : List Int} {k : Int} (h : k.toNat < cs.length) : (cs.map numL).getD k.toNat 0 = ordV cs k := by
  unfold ordV
  rw [List.getD_eq_getElem?_getD, List.getElem?_map, List.getD_eq_getElem?_getD, List.getElem?_eq_getElem h]
  rfl
section
variable {h₀ h : Heap} {L z lr ld f : Addr} {fo oc ot orow odue : Obj} {ex R : List (Addr × Obj)}
/-- behind a lambda: the row first -/
theorem lam_rest (N : News h₀ L h ((f, fo) :: (ex ++ (z, oc) :: (198, ot) :: (lr, orow) :: (ld, odue) :: R))) (hf : lr ≠ f) (hex : ∀ q ∈ ex, q.1 ≠ lr) (h1 : z ≠ lr) (h2 : (198 : Addr) ≠ lr) (h3 : ld ≠ lr) (hR : ∀ p ∈ R, p.1 ≠ lr) :
    ∃ rest, rest = (f, fo) :: (ex ++ (z, oc) :: (198, ot) :: (ld, odue) :: R) ∧ News h₀ L h ((lr, orow) :: rest) ∧ (f, fo) ∈ rest ∧ ∀ p ∈ rest, p.1 ≠ lr := by
  refine ⟨_, rfl, cb_drop N fun p hp => ?_, .head _, List.forall_mem_cons.mpr ⟨Ne.symm hf, fun p hp => ?_⟩⟩
  · (revert p; (repeat' first | refine List.forall_mem_cons.mpr ⟨?_, ?_⟩ | refine List.forall_mem_append.mpr ⟨?_, ?_⟩); all_goals (try intro p hp); all_goals (repeat' first | assumption | exact List.Mem.head _ | exact List.mem_append_left _ (by assumption) | exact List.mem_append_right _ (by assumption) | exact absurd hp List.not_mem_nil | refine List.Mem.tail _ ?_ | refine List.mem_append_right _ ?_))
  · have h4 : ∀ p ∈ (z, oc) :: ((198 : Addr), ot) :: (ld, odue) :: R, p.1 ≠ lr := List.forall_mem_cons.mpr ⟨h1, List.forall_mem_cons.mpr ⟨h2, List.forall_mem_cons.mpr ⟨h3, hR⟩⟩⟩
    rcases List.mem_append.mp hp with hp | hp
    · exact hex p hp
    · exact h4 p hp
theorem lam_back (N : News h₀ L h ((lr, orow) :: (f, fo) :: (ex ++ (z, oc) :: (198, ot) :: (ld, odue) :: R))) : News h₀ L h ((z, oc) :: (198, ot) :: (lr, orow) :: (ld, odue) :: ((f, fo) :: ex ++ R)) := cb_drop N fun p hp => by
  (revert p; (repeat' first | refine List.forall_mem_cons.mpr ⟨?_, ?_⟩ | refine List.forall_mem_append.mpr ⟨?_, ?_⟩); all_goals (try intro p hp); all_goals (repeat' first | assumption | exact List.Mem.head _ | exact List.mem_append_left _ (by assumption) | exact List.mem_append_right _ (by assumption) | exact absurd hp List.not_mem_nil | refine List.Mem.tail _ ?_ | refine List.mem_append_right _ ?_))
end
theorem turn_back {h₀ h : Heap} {L : Addr} {q a b c d : Addr × Obj} {ex R : List (Addr × Obj)} {f : Addr × Obj} (N : News h₀ L h (q :: a :: b :: c :: d :: (f :: ex ++ R))) : News h₀ L h (a :: b :: c :: d :: ((q :: f :: ex) ++ R)) := cb_drop N fun p hp => by
  (revert p; (repeat' first | refine List.forall_mem_cons.mpr ⟨?_, ?_⟩ | refine List.forall_mem_append.mpr ⟨?_, ?_⟩); all_goals (try intro p hp); all_goals (repeat' first | assumption | exact List.Mem.head _ | exact List.mem_append_left _ (by assumption) | exact List.mem_append_right _ (by assumption) | exact absurd hp List.not_mem_nil | refine List.Mem.tail _ ?_ | refine List.mem_append_right _ ?_))
theorem turn_off {z lr ld lq f : Addr} {oz ot orow odue olq of' oz' ot' orow' odue' : Obj} {ex R : List (Addr × Obj)} (o8 : LCg.Off1 lq ((z, oz) :: (198, ot) :: (lr, orow) :: (ld, odue) :: ((f, of') :: ex ++ R)))
    (l1 : ∀ q ∈ (z, oz') :: ((198 : Addr), ot') :: (lr, orow') :: (ld, odue') :: R, @LT.lt Nat _ q.1 f) (l2 : ∀ q ∈ ex, ∀ o ∈ (z, oz') :: ((198 : Addr), ot') :: (lr, orow') :: (ld, odue') :: R, @LT.lt Nat _ o.1 q.1) :
    ∀ p ∈ (lq, olq) :: (f, of') :: ex, p.1 ≠ z ∧ p.1 ≠ 198 ∧ p.1 ≠ lr ∧ p.1 ≠ ld ∧ ∀ q ∈ R, p.1 ≠ q.1 := by
  have gen : ∀ (a : Addr) (oz ot orow odue : Obj), (∀ q ∈ (z, oz) :: ((198 : Addr), ot) :: (lr, orow) :: (ld, odue) :: R, a ≠ q.1) → a ≠ z ∧ a ≠ 198 ∧ a ≠ lr ∧ a ≠ ld ∧ ∀ q ∈ R, a ≠ q.1 := fun a _ _ _ _ h =>
    ⟨h _ (.head _), h _ (.tail _ (.head _)), h _ (.tail _ (.tail _ (.head _))), h _ (.tail _ (.tail _ (.tail _ (.head _)))), fun q hq => h q (.tail _ (.tail _ (.tail _ (.tail _ hq))))⟩
  intro p hp
  rcases List.mem_cons.mp hp with rfl | hp
  · refine gen _ oz ot orow odue fun q hq => Ne.symm (Off1.mem o8 q ?_)
    simp only [List.mem_cons, List.cons_append, List.mem_append] at hq ⊢
    rcases hq with h | h | h | h | h <;> simp [h]
  · rcases List.mem_cons.mp hp with rfl | hp
    · exact gen _ oz' ot' orow' odue' fun q hq => Nat.ne_of_gt (l1 q hq)
    · exact gen _ oz' ot' orow' odue' fun q hq => Nat.ne_of_gt (l2 p hp q hq)
theorem fmod2 {x : Int} : x.fmod 2 = x % 2 := Int.fmod_eq_emod_of_nonneg _ (by decide)
theorem turn_does (w : World) (z : Nat) (ld lr ll lc ln lk : Addr) (oc o6 o2 : Obj) (us : Array Value) (rv dv wsc nv kv : List Value) (rn dn nc nn kn : Nat) (R S : List (Addr × Obj)) (cs ks : List Int) (i : Nat) (ti : Tok)
    (hcc : (lc, W.listOf wsc.toArray nc) ∈ R) (ic : IntsAre wsc cs) (hc5 : cs.length ≤ 5) (hi : i < cs.length)
    (m6 : (z + 1 + 1 + 1 + 1 + 1 + 1, o6) ∈ R) (d6 : o6.data = .cell (some (.ref ln))) (hn : (ln, W.listOf nv.toArray nn) ∈ R) (in_ : IntsAre nv (cs.map numL))
    (m2 : (z + 1 + 1, o2) ∈ R) (d2 : o2.data = .cell (some (.ref lk))) (hk : (lk, W.listOf kv.toArray kn) ∈ R) (ik : All2 (ColV R) kv cs)
    (dc : oc.data = .cell (some (.int (i : Int) ti))) (hG : TabG lamQ us S) (hS : ∀ p ∈ S, p ∈ R)
    (o198 : ∀ p ∈ R, p.1 ≠ 198) (olr : ∀ p ∈ R, p.1 ≠ lr) (old : ∀ p ∈ R, p.1 ≠ ld) (oz3 : ∀ p ∈ R, p.1 ≠ z + 1 + 1 + 1) (z198 : 198 < z) (n1 : @Ne Nat 198 lr) (n2 : @Ne Nat 198 ld) (n3 : @Ne Nat lr ld) (n4 : @Ne Nat (z + 1 + 1 + 1) lr) (n5 : @Ne Nat (z + 1 + 1 + 1) ld)
    (ir : IntsAre rv ks) (id_ : IntsAre dv ks) (hkl : ks.length = i) (hkin : ∀ k ∈ ks, 0 ≤ k ∧ k < (i : Int)) (hso : SortedBy (ordV cs) ks)
    (p : Program) (loose : List Str) (mean : ExcName → Option Value) (mg mb : Str → Option Value) (dp un' : Nat) (gd : Option (List Code)) (fa : Addr) (outer : List Env) (A₀ : Around) (base h₀ : Heap) (m0 : Str → Option Value) (s : Shared) (Q : Flow → Shared → Prop) (E : Value → Shared → Prop)
    (B : Below A₀ base outer h₀) (F : Fr h₀ z s.heap (lawMap ld lr ll lc m0)) (X : (hd.heap_1 w.params).In h₀) (N : News h₀ z s.heap ((z + 1 + 1 + 1, oc) :: (198, tabObj us) :: (lr, W.listOf rv.toArray rn) :: (ld, W.listOf dv.toArray dn) :: R)) (T : Top p loose mean mg mb h₀)
    (C1 : CodeHd base 77 73) (C2 : CodeHd base 84 80) (C3 : CodeHd base 200 198) (hd' : dp + 20 < recursionLimit) (hu : un' + 400 < cLine)
    (hret : ∀ us' rv' rn' dv' dn' ex h' tk', Fr h₀ z h' (lawMap ld lr ll lc m0) → News h₀ z h' ((z + 1 + 1 + 1, oc) :: (198, tabObj us') :: (lr, W.listOf rv'.toArray rn') :: (ld, W.listOf dv'.toArray dn') :: (ex ++ R)) → (∀ p ∈ ex, p.1 ≠ z + 1 + 1 + 1 ∧ p.1 ≠ 198 ∧ p.1 ≠ lr ∧ p.1 ≠ ld ∧ ∀ q ∈ R, p.1 ≠ q.1) →
      TabG lamQ us' (ex ++ S) → IntsAre rv' (insAt cs ks i) → IntsAre dv' (insAt cs ks i) → Q .next { s with heap := h', toks := tk' }) :
    wpAny (model PySem.Challenge.rw_pg0313_01.row.prog w) (lawAround dp un' gd z fa outer) (execs lawLoop.1.2 (lawEnv z fa)) Q E s := by
  revert X
  w_top off
  k_fill
  intro X
  dsimp only [lawLoop, lawAround, lawEnv, lawIn, lawMap] at F hret ⊢
  have kMark := kstMark
  have hicl : wsc.length = cs.length := ic.length
  iterate 14 (all_goals try first | (k_unfold; (try dsimp only)) | (k_end; wrow_close) | walk1 | (dsimp only; walk1))
  · rename Int.fmod _ 2 = 0 => hev
    rw [fmod2, Int.toNat_natCast] at hev
    have hJ : insJ cs ks i = cntLe (ordV cs) (ordV cs i) ks := if_pos (by rw [Int.toNat_natCast]; exact hev)
    iterate 11 (all_goals try first | (k_unfold; (try dsimp only)) | (k_end; wrow_close) | walk1 | (dsimp only; walk1))
    refine' kla_eval ?d0 ?_
    case d0 => exact rfl
    refine lam_any (ps := us) (R := S) (clos := [(Str.ofString "numbers", z + 1 + 1 + 1 + 1 + 1 + 1)]) (by k_asm) (by k_asm) (by k_asm) (by kn_code) (by rfl) (.tail (show @Ne Nat (z + 1 + 1 + 1) 198 by omega) (.head (List.forall_mem_cons.mpr ⟨Ne.symm n1, List.forall_mem_cons.mpr ⟨Ne.symm n2, o198⟩⟩))) hG (by rfl) ?_
    intro f c' ol vs' tq ctv ps' ex h1 tk1 F1 N1 G1 m1 d1 e1 l1 l2
    first | ((first | refine ex0_5 (lam_rest N1 (Nat.ne_of_lt (l1 _ (.tail _ (.tail _ (.head _))))) (fun q hq => Nat.ne_of_gt (l2 q hq _ (.tail _ (.tail _ (.head _))))) n4 n1 (Ne.symm n3) olr) ?_ | refine ex1_4 (lam_rest N1 (Nat.ne_of_lt (l1 _ (.tail _ (.tail _ (.head _))))) (fun q hq => Nat.ne_of_gt (l2 q hq _ (.tail _ (.tail _ (.head _))))) n4 n1 (Ne.symm n3) olr) ?_ | refine ex2_3 (lam_rest N1 (Nat.ne_of_lt (l1 _ (.tail _ (.tail _ (.head _))))) (fun q hq => Nat.ne_of_gt (l2 q hq _ (.tail _ (.tail _ (.head _))))) n4 n1 (Ne.symm n3) olr) ?_ | refine ex3_2 (lam_rest N1 (Nat.ne_of_lt (l1 _ (.tail _ (.tail _ (.head _))))) (fun q hq => Nat.ne_of_gt (l2 q hq _ (.tail _ (.tail _ (.head _))))) n4 n1 (Ne.symm n3) olr) ?_); intro rest er N2 hff hne) | obtain ⟨rest, er, N2, hff, hne⟩ := (lam_rest N1 (Nat.ne_of_lt (l1 _ (.tail _ (.tail _ (.head _))))) (fun q hq => Nat.ne_of_gt (l2 q hq _ (.tail _ (.tail _ (.head _))))) n4 n1 (Ne.symm n3) olr)
    have hfR : ∀ p ∈ R, p ∈ (lr, W.listOf rv.toArray rn) :: rest := fun p hp => by
      rw [er]
      exact .tail _ (.tail _ (List.mem_append_right _ (.tail _ (.tail _ (.tail _ hp)))))
    have hm1 : (c', ol) ∈ (lr, W.listOf rv.toArray rn) :: rest := (List.mem_append.mp m1).elim (fun h => by rw [er]; exact .tail _ (.tail _ (List.mem_append_left _ h))) fun h => hfR _ (hS _ h)
    have hkey : ∀ k t, 0 ≤ k → k < (cs.length : Int) → Does w ((lr, W.listOf rv.toArray rn) :: rest) 1 30 f [.int k t] [] (Keeps1 ((lr, W.listOf rv.toArray rn) :: rest) fun r => ∃ t, r = .int (ordV cs k) t) := fun k t h0 h1 => by
      rw [← map_getD (show k.toNat < cs.length by omega)]
      exact lamnum_does w _ f c' _ ln o6 ol _ ctv vs' tq _ _ _ _ nv nn (cs.map numL) k t (.tail _ hff) hm1 d1 e1 (hfR _ m6) d6 (hfR _ hn) in_ h0 (by rw [List.length_map]; exact h1) (by rw [List.length_map]; omega)
    have hgk : ∀ j, j < ks.length → 0 ≤ ks.getD j 0 ∧ ks.getD j 0 < (cs.length : Int) := fun j hj => by
      rw [List.getD_eq_getElem?_getD, List.getElem?_eq_getElem hj]
      have := hkin _ (List.getElem_mem hj)
      exact ⟨this.1, by have := this.2; show ks[j] < _; omega⟩
    have hsp := le_split (x := ordV cs i) hso
    have hStop := stopMark
    k_steps
    (rename StopMark => hStop9; clear hStop9)
    unfold Halt
    (try k_fold); refine' Does.use (insr_does w rest lr f rv rn ks (fun j => ordV cs (ks.getD j 0)) i (ordV cs i) ti (cntLe (ordV cs) (ordV cs i) ks) 1 30 hff hne ir (by omega) (fun j t hj => hkey _ t (hgk j hj).1 (hgk j hj).2) (fun t => hkey _ t (by omega) (by omega)) (cntLe_le _ _ _) (fun j hj => Int.not_lt.mpr (hsp.1 j hj)) (fun j h1 h2 => hsp.2 j h1 h2)) ?k1 ?k2 ?k3 ?k4 ?k5 ?kK ?c1 ?c2 ?c3 ?kd ?ku ?_; (case k1 => k_asm); (case k2 => k_asm); (case k3 => k_asm); (case k4 => exact N2); (case k5 => k_asm); (case kK => first | exact rfl | assumption); (case c1 => first | with_reducible assumption | assumption); (case c2 => first | with_reducible assumption | assumption); (case c3 => first | with_reducible assumption | assumption); (case kd => first | exact room0 (by assumption) (by rfl) | exact room1 (by assumption) (by rfl) | ktr_room); (case ku => first | exact room0 (by assumption) (by rfl) | exact room1 (by assumption) (by rfl) | ktr_units)
    intro r9 news9 h9 tk9 F9 N9 P9
    first | ((first | refine ex0_5 (P9) ?_ | refine ex1_4 (P9) ?_ | refine ex2_3 (P9) ?_ | refine ex3_2 (P9) ?_); (try clear P9); intro rv' rn' q9 e9 ir') | obtain ⟨rv', rn', q9, e9, ir'⟩ := (P9)
    subst e9
    subst q9
    rw [er] at N9
    replace N9 := lam_back N9
    rw [← hJ] at ir'
    (try (k_unfold; (try dsimp only)))
    (try dsimp only)
    (try k_fold)
    have hJ5 : cntLe (ordV cs) (ordV cs i) ks ≤ ks.length := cntLe_le _ _ _
    iterate 11 (all_goals try first | (k_unfold; (try dsimp only)) | (k_end; wrow_close) | walk1 | (dsimp only; walk1))
    refine LCt.ListComp_T (F₀ := by k_asm) (by with_unfolding_all rfl) (by decide) (by rfl) (by decide) (by rfl) ?_
    iterate 1 (all_goals try first | (k_unfold; (try dsimp only)) | (k_end; wrow_close) | walk1 | (dsimp only; walk1))
    refine LCt.CompSrcT.ledger (by rfl) (by k_asm) (by k_asm) (by k_mem) ?hsl ?_
    case hsl => rw [List.size_toArray, id_.length]; exact Nat.le_trans (show ks.length ≤ 5 by omega) (by decide)
    intro g'
    first | ((first | refine ex0_3 (ik.ix (i := i) (c := cs.getD i 0) (by rw [List.getD_eq_getElem?_getD, List.getElem?_eq_getElem hi]; rfl)) ?_ | refine ex1_2 (ik.ix (i := i) (c := cs.getD i 0) (by rw [List.getD_eq_getElem?_getD, List.getElem?_eq_getElem hi]; rfl)) ?_ | refine ex2_1 (ik.ix (i := i) (c := cs.getD i 0) (by rw [List.getD_eq_getElem?_getD, List.getElem?_eq_getElem hi]; rfl)) ?_); intro wv hwv hp8) | obtain ⟨wv, hwv, hp8⟩ := (ik.ix (i := i) (c := cs.getD i 0) (by rw [List.getD_eq_getElem?_getD, List.getElem?_eq_getElem hi]; rfl))
    first | ((first | refine ex0_6 (hp8) ?_ | refine ex1_5 (hp8) ?_ | refine ex2_4 (hp8) ?_ | refine ex3_3 (hp8) ?_); (try clear hp8); intro aw uw nw hr9_0 hmw hiw; subst hr9_0) | obtain ⟨aw, uw, nw, rfl, hmw, hiw⟩ := (hp8)
    refine my_turnsT0 (fun j ys => IntsAre ys ((ks.take j).filter fun k => decide (ordV cs k ≤ ordV cs i))) .nil ?turn ?fin
    case turn =>
      intro j v ys I oI C oC D m₂ h tk E' hj hv hJ2 hC hx F₁ N₁ off ne
      first | ((first | refine ex0_4 (ints_at id_ (by simpa using hv)) ?_ | refine ex1_3 (ints_at id_ (by simpa using hv)) ?_ | refine ex2_2 (ints_at id_ (by simpa using hv)) ?_); intro k tk hkk hr9_0; subst hr9_0) | obtain ⟨k, tk, hkk, rfl⟩ := (ints_at id_ (by simpa using hv))
      have hkb := hkin k (List.mem_of_getElem? hkk)
      have hkl2 : k.toNat < cs.length := by omega
      first | ((first | refine ex0_3 (ik.ix (i := k.toNat) (c := cs.getD k.toNat 0) (by rw [List.getD_eq_getElem?_getD, List.getElem?_eq_getElem hkl2]; rfl)) ?_ | refine ex1_2 (ik.ix (i := k.toNat) (c := cs.getD k.toNat 0) (by rw [List.getD_eq_getElem?_getD, List.getElem?_eq_getElem hkl2]; rfl)) ?_ | refine ex2_1 (ik.ix (i := k.toNat) (c := cs.getD k.toNat 0) (by rw [List.getD_eq_getElem?_getD, List.getElem?_eq_getElem hkl2]; rfl)) ?_); intro kv' hkv hp8) | obtain ⟨kv', hkv, hp8⟩ := (ik.ix (i := k.toNat) (c := cs.getD k.toNat 0) (by rw [List.getD_eq_getElem?_getD, List.getElem?_eq_getElem hkl2]; rfl))
      first | ((first | refine ex0_6 (hp8) ?_ | refine ex1_5 (hp8) ?_ | refine ex2_4 (hp8) ?_ | refine ex3_3 (hp8) ?_); (try clear hp8); intro ak uk nk hr9_0 hmk hik; subst hr9_0) | obtain ⟨ak, uk, nk, rfl, hmk, hik⟩ := (hp8)
      iterate 4 (all_goals try first | (k_unfold; (try dsimp only)) | (k_end; wrow_close) | walk1 | (dsimp only; walk1))
      refine my_itemV (by k_asm) (show (lk, W.listOf kv.toArray kn) ∈ _ by k_mem) hkb.1 (by omega) hkv ?_
      iterate 3 (all_goals try first | (k_unfold; (try dsimp only)) | (k_end; wrow_close) | walk1 | (dsimp only; walk1))
      refine my_itemV (by k_asm) (show (lk, W.listOf kv.toArray kn) ∈ _ by k_mem) (Int.natCast_nonneg i) (by omega) hwv ?_
      refine my_leLs (by k_asm) (show (ak, W.listOf uk.toArray nk) ∈ _ by k_mem) (show (aw, W.listOf uw.toArray nw) ∈ _ by k_mem) hik hiw rfl (by ktr_units) ?_
      rw [cols_le']
      by_cases hle : numL (cs.getD k.toNat 0) ≤ numL (cs.getD i 0)
      · rw [decide_eq_true hle]
        iterate 3 (all_goals try first | (k_unfold; (try dsimp only)) | (k_end; wrow_close) | walk1 | (dsimp only; walk1))
        refine LCg.CompEnd.intro F₁ N₁ _ (fun p hp => hp) off (.inr ⟨_, .tail _ (.tail _ (.tail _ (.head _))), rfl, _, rfl⟩) ⟨rfl, ?_⟩
        have hle2 : decide (ordV cs k ≤ ordV cs i) = true := decide_eq_true hle
        rw [take_snoc hkk, List.filter_append]
        simp only [List.filter_cons, List.filter_nil, hle2, if_true]
        exact hJ2.append (.cons _ _ .nil)
      · rw [decide_eq_false hle]
        iterate 2 (all_goals try first | (k_unfold; (try dsimp only)) | (k_end; wrow_close) | walk1 | (dsimp only; walk1))
        refine LCg.CompEnd.intro F₁ N₁ _ (fun p hp => hp) off (.inr ⟨_, .tail _ (.tail _ (.tail _ (.head _))), rfl, _, rfl⟩) ⟨rfl, ?_⟩
        have hle2 : decide (ordV cs k ≤ ordV cs i) = false := decide_eq_false hle
        rw [take_snoc hkk, List.filter_append]
        simp only [List.filter_cons, List.filter_nil, hle2, Bool.false_eq_true, if_false, List.append_nil]
        exact hJ2
    case fin =>
      intro ys hJ2
      rw [List.size_toArray, id_.length, List.take_length] at hJ2
      have hyl : ys.length = cntLe (ordV cs) (ordV cs i) ks := hJ2.length
      unfold LCg.FinE
      intro lq h8 tk8 F8 N8 o8
      replace N8 : News _ _ _ ((lq, W.listOf ys.toArray ys.length) :: _) := N8
      iterate 5 (all_goals try first | (k_unfold; (try dsimp only)) | (k_end; wrow_close) | walk1 | (dsimp only; walk1))
      rename Fr _ _ _ _ => lF
      refine kl_insert (its := dv.toArray) (l := dv.take (insJ cs ks i) ++ .int i ti :: dv.drop (insJ cs ks i)) lF N8 ?fits ?ins (.tail (Ne.symm o8.2.2.2.1) (.tail n5 (.tail n2 (.tail n3 (.head ?rest))))) ?sz ?_
      case fits => exact fits_ix (by omega)
      case ins => rw [hJ]; exact ins_at _ _ (by rw [id_.length]; exact cntLe_le _ _ _)
      case rest =>
        intro p hp
        rcases List.mem_cons.mp hp with rfl | hp
        · exact Nat.ne_of_gt (l1 _ (.tail _ (.tail _ (.tail _ (.head _)))))
        · exact (List.mem_append.mp hp).elim (fun h => Nat.ne_of_gt (l2 p h _ (.tail _ (.tail _ (.tail _ (.head _)))))) (old p)
      case sz => exact Nat.le_trans (by rw [id_.length]; exact (show ks.length ≤ 8 by omega)) (by decide : 8 ≤ sizeLine)
      intro h7 F7 N7
      iterate 3 (all_goals try first | (k_unfold; (try dsimp only)) | (k_end; wrow_close) | walk1 | (dsimp only; walk1))
      exact hret _ _ _ _ _ _ _ _ F7 (turn_back N7) (turn_off o8 l1 l2) (G1.mono fun p hp => .tail _ (.tail _ hp)) ir' (by unfold insAt; rw [hJ]; exact ints_ins id_)
  · rename Int.fmod _ 2 ≠ 0 => hev
    rw [fmod2, Int.toNat_natCast] at hev
    have hJ : insJ cs ks i = cntLt (ordV cs) (ordV cs i) ks := if_neg (by rw [Int.toNat_natCast]; exact hev)
    iterate 11 (all_goals try first | (k_unfold; (try dsimp only)) | (k_end; wrow_close) | walk1 | (dsimp only; walk1))
    refine' kla_eval ?d0 ?_
    case d0 => exact rfl
    refine lam_any (ps := us) (R := S) (clos := [(Str.ofString "numbers", z + 1 + 1 + 1 + 1 + 1 + 1)]) (by k_asm) (by k_asm) (by k_asm) (by kn_code) (by rfl) (.tail (show @Ne Nat (z + 1 + 1 + 1) 198 by omega) (.head (List.forall_mem_cons.mpr ⟨Ne.symm n1, List.forall_mem_cons.mpr ⟨Ne.symm n2, o198⟩⟩))) hG (by rfl) ?_
    intro f c' ol vs' tq ctv ps' ex h1 tk1 F1 N1 G1 m1 d1 e1 l1 l2
    first | ((first | refine ex0_5 (lam_rest N1 (Nat.ne_of_lt (l1 _ (.tail _ (.tail _ (.head _))))) (fun q hq => Nat.ne_of_gt (l2 q hq _ (.tail _ (.tail _ (.head _))))) n4 n1 (Ne.symm n3) olr) ?_ | refine ex1_4 (lam_rest N1 (Nat.ne_of_lt (l1 _ (.tail _ (.tail _ (.head _))))) (fun q hq => Nat.ne_of_gt (l2 q hq _ (.tail _ (.tail _ (.head _))))) n4 n1 (Ne.symm n3) olr) ?_ | refine ex2_3 (lam_rest N1 (Nat.ne_of_lt (l1 _ (.tail _ (.tail _ (.head _))))) (fun q hq => Nat.ne_of_gt (l2 q hq _ (.tail _ (.tail _ (.head _))))) n4 n1 (Ne.symm n3) olr) ?_ | refine ex3_2 (lam_rest N1 (Nat.ne_of_lt (l1 _ (.tail _ (.tail _ (.head _))))) (fun q hq => Nat.ne_of_gt (l2 q hq _ (.tail _ (.tail _ (.head _))))) n4 n1 (Ne.symm n3) olr) ?_); intro rest er N2 hff hne) | obtain ⟨rest, er, N2, hff, hne⟩ := (lam_rest N1 (Nat.ne_of_lt (l1 _ (.tail _ (.tail _ (.head _))))) (fun q hq => Nat.ne_of_gt (l2 q hq _ (.tail _ (.tail _ (.head _))))) n4 n1 (Ne.symm n3) olr)
    have hfR : ∀ p ∈ R, p ∈ (lr, W.listOf rv.toArray rn) :: rest := fun p hp => by
      rw [er]
      exact .tail _ (.tail _ (List.mem_append_right _ (.tail _ (.tail _ (.tail _ hp)))))
    have hm1 : (c', ol) ∈ (lr, W.listOf rv.toArray rn) :: rest := (List.mem_append.mp m1).elim (fun h => by rw [er]; exact .tail _ (.tail _ (List.mem_append_left _ h))) fun h => hfR _ (hS _ h)
    have hkey : ∀ k t, 0 ≤ k → k < (cs.length : Int) → Does w ((lr, W.listOf rv.toArray rn) :: rest) 1 30 f [.int k t] [] (Keeps1 ((lr, W.listOf rv.toArray rn) :: rest) fun r => ∃ t, r = .int (ordV cs k) t) := fun k t h0 h1 => by
      rw [← map_getD (show k.toNat < cs.length by omega)]
      exact lamnum_does w _ f c' _ ln o6 ol _ ctv vs' tq _ _ _ _ nv nn (cs.map numL) k t (.tail _ hff) hm1 d1 e1 (hfR _ m6) d6 (hfR _ hn) in_ h0 (by rw [List.length_map]; exact h1) (by rw [List.length_map]; omega)
    have hgk : ∀ j, j < ks.length → 0 ≤ ks.getD j 0 ∧ ks.getD j 0 < (cs.length : Int) := fun j hj => by
      rw [List.getD_eq_getElem?_getD, List.getElem?_eq_getElem hj]
      have := hkin _ (List.getElem_mem hj)
      exact ⟨this.1, by have := this.2; show ks[j] < _; omega⟩
    have hsp := lt_split (x := ordV cs i) hso
    have hStop := stopMark
    k_steps
    (rename StopMark => hStop9; clear hStop9)
    unfold Halt
    (try k_fold); refine' Does.use (insl_does w rest lr f rv rn ks (fun j => ordV cs (ks.getD j 0)) i (ordV cs i) ti (cntLt (ordV cs) (ordV cs i) ks) 1 30 hff hne ir (by omega) (fun j t hj => hkey _ t (hgk j hj).1 (hgk j hj).2) (fun t => hkey _ t (by omega) (by omega)) (cntLt_le _ _ _) (fun j hj => hsp.1 j hj) (fun j h1 h2 => hsp.2 j h1 h2)) ?k1 ?k2 ?k3 ?k4 ?k5 ?kK ?c1 ?c2 ?c3 ?kd ?ku ?_; (case k1 => k_asm); (case k2 => k_asm); (case k3 => k_asm); (case k4 => exact N2); (case k5 => k_asm); (case kK => first | exact rfl | assumption); (case c1 => first | with_reducible assumption | assumption); (case c2 => first | with_reducible assumption | assumption); (case c3 => first | with_reducible assumption | assumption); (case kd => first | exact room0 (by assumption) (by rfl) | exact room1 (by assumption) (by rfl) | ktr_room); (case ku => first | exact room0 (by assumption) (by rfl) | exact room1 (by assumption) (by rfl) | ktr_units)
    intro r9 news9 h9 tk9 F9 N9 P9
    first | ((first | refine ex0_5 (P9) ?_ | refine ex1_4 (P9) ?_ | refine ex2_3 (P9) ?_ | refine ex3_2 (P9) ?_); (try clear P9); intro rv' rn' q9 e9 ir') | obtain ⟨rv', rn', q9, e9, ir'⟩ := (P9)
    subst e9
    subst q9
    rw [er] at N9
    replace N9 := lam_back N9
    rw [← hJ] at ir'
    (try (k_unfold; (try dsimp only)))
    (try dsimp only)
    (try k_fold)
    have hJ5 : cntLt (ordV cs) (ordV cs i) ks ≤ ks.length := cntLt_le _ _ _
    iterate 11 (all_goals try first | (k_unfold; (try dsimp only)) | (k_end; wrow_close) | walk1 | (dsimp only; walk1))
    refine LCt.ListComp_T (F₀ := by k_asm) (by with_unfolding_all rfl) (by decide) (by rfl) (by decide) (by rfl) ?_
    iterate 1 (all_goals try first | (k_unfold; (try dsimp only)) | (k_end; wrow_close) | walk1 | (dsimp only; walk1))
    refine LCt.CompSrcT.ledger (by rfl) (by k_asm) (by k_asm) (by k_mem) ?hsl ?_
    case hsl => rw [List.size_toArray, id_.length]; exact Nat.le_trans (show ks.length ≤ 5 by omega) (by decide)
    intro g'
    first | ((first | refine ex0_3 (ik.ix (i := i) (c := cs.getD i 0) (by rw [List.getD_eq_getElem?_getD, List.getElem?_eq_getElem hi]; rfl)) ?_ | refine ex1_2 (ik.ix (i := i) (c := cs.getD i 0) (by rw [List.getD_eq_getElem?_getD, List.getElem?_eq_getElem hi]; rfl)) ?_ | refine ex2_1 (ik.ix (i := i) (c := cs.getD i 0) (by rw [List.getD_eq_getElem?_getD, List.getElem?_eq_getElem hi]; rfl)) ?_); intro wv hwv hp8) | obtain ⟨wv, hwv, hp8⟩ := (ik.ix (i := i) (c := cs.getD i 0) (by rw [List.getD_eq_getElem?_getD, List.getElem?_eq_getElem hi]; rfl))
    first | ((first | refine ex0_6 (hp8) ?_ | refine ex1_5 (hp8) ?_ | refine ex2_4 (hp8) ?_ | refine ex3_3 (hp8) ?_); (try clear hp8); intro aw uw nw hr9_0 hmw hiw; subst hr9_0) | obtain ⟨aw, uw, nw, rfl, hmw, hiw⟩ := (hp8)
    refine my_turnsT0 (fun j ys => IntsAre ys ((ks.take j).filter fun k => decide (ordV cs k < ordV cs i))) .nil ?turn ?fin
    case turn =>
      intro j v ys I oI C oC D m₂ h tk E' hj hv hJ2 hC hx F₁ N₁ off ne
      first | ((first | refine ex0_4 (ints_at id_ (by simpa using hv)) ?_ | refine ex1_3 (ints_at id_ (by simpa using hv)) ?_ | refine ex2_2 (ints_at id_ (by simpa using hv)) ?_); intro k tk hkk hr9_0; subst hr9_0) | obtain ⟨k, tk, hkk, rfl⟩ := (ints_at id_ (by simpa using hv))
      have hkb := hkin k (List.mem_of_getElem? hkk)
      have hkl2 : k.toNat < cs.length := by omega
      first | ((first | refine ex0_3 (ik.ix (i := k.toNat) (c := cs.getD k.toNat 0) (by rw [List.getD_eq_getElem?_getD, List.getElem?_eq_getElem hkl2]; rfl)) ?_ | refine ex1_2 (ik.ix (i := k.toNat) (c := cs.getD k.toNat 0) (by rw [List.getD_eq_getElem?_getD, List.getElem?_eq_getElem hkl2]; rfl)) ?_ | refine ex2_1 (ik.ix (i := k.toNat) (c := cs.getD k.toNat 0) (by rw [List.getD_eq_getElem?_getD, List.getElem?_eq_getElem hkl2]; rfl)) ?_); intro kv' hkv hp8) | obtain ⟨kv', hkv, hp8⟩ := (ik.ix (i := k.toNat) (c := cs.getD k.toNat 0) (by rw [List.getD_eq_getElem?_getD, List.getElem?_eq_getElem hkl2]; rfl))
      first | ((first | refine ex0_6 (hp8) ?_ | refine ex1_5 (hp8) ?_ | refine ex2_4 (hp8) ?_ | refine ex3_3 (hp8) ?_); (try clear hp8); intro ak uk nk hr9_0 hmk hik; subst hr9_0) | obtain ⟨ak, uk, nk, rfl, hmk, hik⟩ := (hp8)
      iterate 4 (all_goals try first | (k_unfold; (try dsimp only)) | (k_end; wrow_close) | walk1 | (dsimp only; walk1))
      refine my_itemV (by k_asm) (show (lk, W.listOf kv.toArray kn) ∈ _ by k_mem) hkb.1 (by omega) hkv ?_
      iterate 3 (all_goals try first | (k_unfold; (try dsimp only)) | (k_end; wrow_close) | walk1 | (dsimp only; walk1))
      refine my_itemV (by k_asm) (show (lk, W.listOf kv.toArray kn) ∈ _ by k_mem) (Int.natCast_nonneg i) (by omega) hwv ?_
      refine my_ltLs (by k_asm) (show (ak, W.listOf uk.toArray nk) ∈ _ by k_mem) (show (aw, W.listOf uw.toArray nw) ∈ _ by k_mem) hik hiw rfl (by ktr_units) ?_
      rw [cols_lt']
      by_cases hle : numL (cs.getD k.toNat 0) < numL (cs.getD i 0)
      · rw [decide_eq_true hle]
        iterate 3 (all_goals try first | (k_unfold; (try dsimp only)) | (k_end; wrow_close) | walk1 | (dsimp only; walk1))
        refine LCg.CompEnd.intro F₁ N₁ _ (fun p hp => hp) off (.inr ⟨_, .tail _ (.tail _ (.tail _ (.head _))), rfl, _, rfl⟩) ⟨rfl, ?_⟩
        have hle2 : decide (ordV cs k < ordV cs i) = true := decide_eq_true hle
        rw [take_snoc hkk, List.filter_append]
        simp only [List.filter_cons, List.filter_nil, hle2, if_true]
        exact hJ2.append (.cons _ _ .nil)
      · rw [decide_eq_false hle]
        iterate 2 (all_goals try first | (k_unfold; (try dsimp only)) | (k_end; wrow_close) | walk1 | (dsimp only; walk1))
        refine LCg.CompEnd.intro F₁ N₁ _ (fun p hp => hp) off (.inr ⟨_, .tail _ (.tail _ (.tail _ (.head _))), rfl, _, rfl⟩) ⟨rfl, ?_⟩
        have hle2 : decide (ordV cs k < ordV cs i) = false := decide_eq_false hle
        rw [take_snoc hkk, List.filter_append]
        simp only [List.filter_cons, List.filter_nil, hle2, Bool.false_eq_true, if_false, List.append_nil]
        exact hJ2
    case fin =>
      intro ys hJ2
      rw [List.size_toArray, id_.length, List.take_length] at hJ2
      have hyl : ys.length = cntLt (ordV cs) (ordV cs i) ks := hJ2.length
      unfold LCg.FinE
      intro lq h8 tk8 F8 N8 o8
      replace N8 : News _ _ _ ((lq, W.listOf ys.toArray ys.length) :: _) := N8
      iterate 5 (all_goals try first | (k_unfold; (try dsimp only)) | (k_end; wrow_close) | walk1 | (dsimp only; walk1))
      rename Fr _ _ _ _ => lF
      refine kl_insert (its := dv.toArray) (l := dv.take (insJ cs ks i) ++ .int i ti :: dv.drop (insJ cs ks i)) lF N8 ?fits ?ins (.tail (Ne.symm o8.2.2.2.1) (.tail n5 (.tail n2 (.tail n3 (.head ?rest))))) ?sz ?_
      case fits => exact fits_ix (by omega)
      case ins => rw [hJ]; exact ins_at _ _ (by rw [id_.length]; exact cntLt_le _ _ _)
      case rest =>
        intro p hp
        rcases List.mem_cons.mp hp with rfl | hp
        · exact Nat.ne_of_gt (l1 _ (.tail _ (.tail _ (.tail _ (.head _)))))
        · exact (List.mem_append.mp hp).elim (fun h => Nat.ne_of_gt (l2 p h _ (.tail _ (.tail _ (.tail _ (.head _)))))) (old p)
      case sz => exact Nat.le_trans (by rw [id_.length]; exact (show ks.length ≤ 8 by omega)) (by decide : 8 ≤ sizeLine)
      intro h7 F7 N7
      iterate 3 (all_goals try first | (k_unfold; (try dsimp only)) | (k_end; wrow_close) | walk1 | (dsimp only; walk1))
      exact hret _ _ _ _ _ _ _ _ F7 (turn_back N7) (turn_off o8 l1 l2) (G1.mono fun p hp => .tail _ (.tail _ hp)) ir' (by unfold insAt; rw [hJ]; exact ints_ins id_)
end
section
theorem insJ_le (cs ks : List Int) (i : Int) : insJ cs ks i ≤ ks.length := by
  unfold insJ
  split
  · exact cntLe_le _ _ _
  · exact cntLt_le _ _ _
theorem insAt_len (cs ks : List Int) (i : Int) : (insAt cs ks i).length = ks.length + 1 := by
  have := insJ_le cs ks i
  unfold insAt
  rw [List.length_append, List.length_take, List.length_cons, List.length_drop]
  omega
theorem insAt_in {cs ks : List Int} {n : Nat} (h : ∀ k ∈ ks, 0 ≤ k ∧ k < (n : Int)) : ∀ k ∈ insAt cs ks n, 0 ≤ k ∧ k < ((n + 1 : Nat) : Int) := by
  intro k hk
  unfold insAt at hk
  rcases List.mem_append.mp hk with hk | hk
  · have := h k (List.mem_of_mem_take hk); omega
  · rcases List.mem_cons.mp hk with rfl | hk
    · omega
    · have := h k (List.mem_of_mem_drop hk); omega
theorem insAt_sorted {cs ks : List Int} {i : Int} (h : SortedBy (ordV cs) ks) : SortedBy (ordV cs) (insAt cs ks i) := by
  unfold insAt insJ
  split
  · have := le_split (x := ordV cs i) h
    exact ins_sorted h (fun j hj _ => this.1 j hj) fun j hj hl => Int.le_of_lt (this.2 j hj hl)
  · have := lt_split (x := ordV cs i) h
    exact ins_sorted h (fun j hj _ => Int.le_of_lt (this.1 j hj)) fun j hj hl => Int.not_lt.mp (this.2 j hj hl)
/-- the fixed part of the loop's ledger -/
abbrev T4 (z : Nat) (oa ob o5 o4 : Obj) : List (Addr × Obj) := [(80, oa), (73, ob), (z + 1 + 1 + 1 + 1 + 1, o5), (z + 1 + 1 + 1 + 1, o4)]
abbrev C8 (z : Nat) (lr ld : Addr) : List Addr := [198, lr, ld, z + 1 + 1 + 1, 80, 73, z + 1 + 1 + 1 + 1 + 1, z + 1 + 1 + 1 + 1]
theorem not_mem8 {n a1 a2 a3 a4 a5 a6 a7 a8 : Nat} (h1 : n ≠ a1) (h2 : n ≠ a2) (h3 : n ≠ a3) (h4 : n ≠ a4) (h5 : n ≠ a5) (h6 : n ≠ a6) (h7 : n ≠ a7) (h8 : n ≠ a8) : n ∉ ([a1, a2, a3, a4, a5, a6, a7, a8] : List Addr) := by
  simp only [List.mem_cons, List.not_mem_nil, or_false, not_or]
  exact ⟨h1, h2, h3, h4, h5, h6, h7, h8⟩
theorem loop_led {h₀ h : Heap} {L : Addr} {z a b lk : Nat} {da db ok oa ob oc o7 o6 o5 o4 o3 o2 o1 : Obj} {R : List (Addr × Obj)}
    (N : News h₀ L h (((a : Addr), da) :: ((b : Addr), db) :: ((lk : Addr), ok) :: (80, oa) :: (Tz z ob oc o7 o6 o5 o4 o3 o2 o1 ++ R)))
    (hb : ∀ q ∈ ((lk : Addr), ok) :: (80, oa) :: (Tz z ob oc o7 o6 o5 o4 o3 o2 o1 ++ R), @LT.lt Nat _ q.1 b) (hba : b < a) (hlk : lk ∉ Cz z) (hR : OffC (Cz z) R) (hz : 198 < z) :
    ∃ ld lr T R7, ld = a ∧ lr = b ∧ T = T4 z oa ob o5 o4 ∧ ((lk : Addr), ok) ∈ R7 ∧ (((z + 1 + 1 + 1 + 1 + 1 + 1 + 1 : Nat) : Addr), o7) ∈ R7 ∧ (((z + 1 + 1 + 1 + 1 + 1 + 1 : Nat) : Addr), o6) ∈ R7 ∧ (((z + 1 + 1 : Nat) : Addr), o2) ∈ R7 ∧ (((z + 1 : Nat) : Addr), o1) ∈ R7 ∧ (∀ p ∈ R, p ∈ R7) ∧ OffC (C8 z b a) R7 ∧
      News h₀ L h ((((z + 1 + 1 + 1 : Nat) : Addr), o3) :: (198, oc) :: ((b : Addr), db) :: ((a : Addr), da) :: (T ++ R7)) := by
  refine ⟨a, b, _, (lk, ok) :: (z + 1 + 1 + 1 + 1 + 1 + 1 + 1, o7) :: (z + 1 + 1 + 1 + 1 + 1 + 1, o6) :: (z + 1 + 1, o2) :: (z + 1, o1) :: R, rfl, rfl, rfl, .head _, .tail _ (.head _), .tail _ (.tail _ (.head _)), .tail _ (.tail _ (.tail _ (.head _))), .tail _ (.tail _ (.tail _ (.tail _ (.head _)))), fun p hp => .tail _ (.tail _ (.tail _ (.tail _ (.tail _ hp)))), ?_, cb_drop N fun p hp => ?_⟩
  · have h7 : z + 1 + 1 + 1 + 1 + 1 + 1 + 1 < b := hb _ (.tail _ (.tail _ (.tail _ (.tail _ (.head _)))))
    have c1 : ∀ n : Nat, n ∉ Cz z → n < b → n ∉ C8 z b a := fun n h1 h2 => not_mem8 (fun e => h1 (by rw [e]; exact .tail _ (.tail _ (.head _)))) (Nat.ne_of_lt h2) (Nat.ne_of_lt (Nat.lt_trans h2 hba)) (fun e => h1 (by rw [e]; exact .tail _ (.tail _ (.tail _ (.tail _ (.tail _ (.tail _ (.tail _ (.head _)))))))))
      (fun e => h1 (by rw [e]; exact .head _)) (fun e => h1 (by rw [e]; exact .tail _ (.head _))) (fun e => h1 (by rw [e]; exact .tail _ (.tail _ (.tail _ (.tail _ (.tail _ (.head _))))))) (fun e => h1 (by rw [e]; exact .tail _ (.tail _ (.tail _ (.tail _ (.tail _ (.tail _ (.head _))))))))
    have c2 : ∀ n : Nat, z < n → n ≤ z + 1 + 1 + 1 + 1 + 1 + 1 + 1 → n ≠ z + 1 + 1 + 1 → n ≠ z + 1 + 1 + 1 + 1 + 1 → n ≠ z + 1 + 1 + 1 + 1 → n ∉ C8 z b a := fun n h1 h2 h3 h4 h5 =>
      have hz' : 198 < n := Nat.lt_trans hz h1
      have hb' : n < b := Nat.lt_of_le_of_lt h2 h7
      not_mem8 (Nat.ne_of_gt hz') (Nat.ne_of_lt hb') (Nat.ne_of_lt (Nat.lt_trans hb' hba)) h3 (Nat.ne_of_gt (Nat.lt_trans (by decide) hz')) (Nat.ne_of_gt (Nat.lt_trans (by decide) hz')) h4 h5
    have g : ∀ i j : Nat, i ≠ j → z + i ≠ z + j := fun i j h e => h (Nat.add_left_cancel e)
    refine OffC.cons (c1 _ hlk (hb _ (.head _))) (OffC.cons (c2 (z + 7) (Nat.lt_add_of_pos_right (by decide)) (Nat.le_refl _) (g 7 3 (by decide)) (g 7 5 (by decide)) (g 7 4 (by decide))) (OffC.cons (c2 (z + 6) (Nat.lt_add_of_pos_right (by decide)) (Nat.le_succ _) (g 6 3 (by decide)) (g 6 5 (by decide)) (g 6 4 (by decide)))
      (OffC.cons (c2 (z + 2) (Nat.lt_add_of_pos_right (by decide)) (Nat.add_le_add_left (by decide : 2 ≤ 7) z) (g 2 3 (by decide)) (g 2 5 (by decide)) (g 2 4 (by decide))) (OffC.cons (c2 (z + 1) (Nat.lt_add_of_pos_right (by decide)) (Nat.add_le_add_left (by decide : 1 ≤ 7) z) (g 1 3 (by decide)) (g 1 5 (by decide)) (g 1 4 (by decide))) fun p hp => c1 _ (hR p hp) ?_))))
    exact hb p (.tail _ (.tail _ (List.mem_append_right _ hp)))
  · (revert p; (repeat' first | refine List.forall_mem_cons.mpr ⟨?_, ?_⟩ | refine List.forall_mem_append.mpr ⟨?_, ?_⟩); all_goals (try intro p hp); all_goals (repeat' first | assumption | exact List.Mem.head _ | exact List.mem_append_left _ (by assumption) | exact List.mem_append_right _ (by assumption) | exact absurd hp List.not_mem_nil | refine List.Mem.tail _ ?_ | refine List.mem_append_right _ ?_))
/-- what holds between the turns of the law's loop -/
def LoopJ (z : Nat) (ld lr ll lc : Addr) (m0 : Str → Option Value) (T R7 : List (Addr × Obj)) (cs : List Int) (i : Nat) (m₁ : Str → Option Value) (nx : List (Addr × Obj)) : Prop :=
  m₁ = lawMap ld lr ll lc m0 ∧ ∃ us rv rn dv dn R' S' ks, nx = (198, tabObj us) :: (lr, W.listOf rv.toArray rn) :: (ld, W.listOf dv.toArray dn) :: (T ++ R') ∧ OffC (C8 z lr ld) R' ∧ (∀ p ∈ R7, p ∈ R') ∧ TabG lamQ us S' ∧ (∀ p ∈ S', p ∈ R') ∧
    IntsAre rv ks ∧ IntsAre dv ks ∧ ks.length = i ∧ (∀ k ∈ ks, 0 ≤ k ∧ k < (i : Int)) ∧ SortedBy (ordV cs) ks
theorem T4_off {z : Nat} {oa ob o5 o4 : Obj} {a : Addr} (h1 : (80 : Addr) ≠ a) (h2 : (73 : Addr) ≠ a) (h3 : ((z + 1 + 1 + 1 + 1 + 1 : Nat) : Addr) ≠ a) (h4 : ((z + 1 + 1 + 1 + 1 : Nat) : Addr) ≠ a) : ∀ p ∈ T4 z oa ob o5 o4, p.1 ≠ a := by
  intro p hp
  simp only [List.mem_cons, List.not_mem_nil, or_false] at hp
  rcases hp with rfl | rfl | rfl | rfl
  · exact h1
  · exact h2
  · exact h3
  · exact h4
theorem loop_end {h₀ h : Heap} {L : Addr} {z : Nat} {ld lr ll lc I : Addr} {oI oc : Obj} {m0 : Str → Option Value} {T R7 R' S' ex : List (Addr × Obj)} {cs ks : List Int} {i : Nat} {us' : Array Value} {rv' dv' : List Value} {rn' dn' : Nat} {s : Shared} {v : Option Value} {tk : Nat}
    (F : Fr h₀ L h (lawMap ld lr ll lc m0)) (N : News h₀ L h ((((z + 1 + 1 + 1 : Nat) : Addr), oc) :: (198, tabObj us') :: (lr, W.listOf rv'.toArray rn') :: (ld, W.listOf dv'.toArray dn') :: (ex ++ (I, oI) :: (T ++ R'))))
    (oex : ∀ p ∈ ex, p.1 ≠ ((z + 1 + 1 + 1 : Nat) : Addr) ∧ p.1 ≠ 198 ∧ p.1 ≠ lr ∧ p.1 ≠ ld ∧ ∀ q ∈ (I, oI) :: (T ++ R'), p.1 ≠ q.1) (hT : ∀ a ∈ ([80, 73, ((z + 1 + 1 + 1 + 1 + 1 : Nat) : Addr), ((z + 1 + 1 + 1 + 1 : Nat) : Addr)] : List Addr), ∃ q ∈ T, q.1 = a)
    (hoff : OffC (C8 z lr ld) R') (hnx : ∀ p ∈ ((198 : Addr), tabObj us') :: (lr, W.listOf rv'.toArray rn') :: (ld, W.listOf dv'.toArray dn') :: (T ++ R'), p.1 ≠ I ∧ p.1 ≠ ((z + 1 + 1 + 1 : Nat) : Addr)) (hsub : ∀ p ∈ R7, p ∈ R') (hG : TabG lamQ us' (ex ++ S')) (hS : ∀ p ∈ S', p ∈ R')
    (ir : IntsAre rv' (insAt cs ks i)) (id_ : IntsAre dv' (insAt cs ks i)) (hkl : ks.length = i) (hkin : ∀ k ∈ ks, 0 ≤ k ∧ k < (i : Int)) (hso : SortedBy (ordV cs) ks) (hd : oc.data = .cell v) :
    TurnEndC h₀ L I ((z + 1 + 1 + 1 : Nat) : Addr) oI (LoopJ z ld lr ll lc m0 T R7 cs (i + 1)) s { s with heap := h, toks := tk } := by
  refine ⟨h, tk, _, (198, tabObj us') :: (lr, W.listOf rv'.toArray rn') :: (ld, W.listOf dv'.toArray dn') :: (T ++ (ex ++ R')), oc, v, rfl, F, cb_drop N fun p hp => ?_, fun p hp => ?_, hd, rfl, us', rv', rn', dv', dn', ex ++ R', ex ++ S', insAt cs ks i, rfl, ?_, fun p hp => List.mem_append_right _ (hsub p hp), hG, fun p hp => (List.mem_append.mp hp).elim (fun h => List.mem_append_left _ h) fun h => List.mem_append_right _ (hS p h), ir, id_, by rw [insAt_len, hkl], insAt_in hkin, insAt_sorted hso⟩
  · (revert p; (repeat' first | refine List.forall_mem_cons.mpr ⟨?_, ?_⟩ | refine List.forall_mem_append.mpr ⟨?_, ?_⟩); all_goals (try intro p hp); all_goals (repeat' first | assumption | exact List.Mem.head _ | exact List.mem_append_left _ (by assumption) | exact List.mem_append_right _ (by assumption) | exact absurd hp List.not_mem_nil | refine List.Mem.tail _ ?_ | refine List.mem_append_right _ ?_))
  · simp only [List.mem_cons, List.mem_append] at hp
    have hin : ∀ q, (q = ((198 : Addr), tabObj us') ∨ q = (lr, W.listOf rv'.toArray rn') ∨ q = (ld, W.listOf dv'.toArray dn') ∨ q ∈ T ∨ q ∈ R') → q.1 ≠ I ∧ q.1 ≠ ((z + 1 + 1 + 1 : Nat) : Addr) := fun q hq => hnx q (by
      simp only [List.mem_cons, List.mem_append]
      exact hq)
    rcases hp with h | h | h | h | h | h
    · exact hin p (.inl h)
    · exact hin p (.inr (.inl h))
    · exact hin p (.inr (.inr (.inl h)))
    · exact hin p (.inr (.inr (.inr (.inl h))))
    · exact ⟨(oex p h).2.2.2.2 _ (.head _), (oex p h).1⟩
    · exact hin p (.inr (.inr (.inr (.inr h))))
  · refine OffC.app (fun p hp hc => ?_) hoff
    have o := oex p hp
    simp only [C8, List.mem_cons, List.not_mem_nil, or_false] at hc
    have hTT : ∀ a ∈ ([80, 73, ((z + 1 + 1 + 1 + 1 + 1 : Nat) : Addr), ((z + 1 + 1 + 1 + 1 : Nat) : Addr)] : List Addr), p.1 ≠ a := fun a ha => by
      first | ((first | refine ex0_3 (hT a ha) ?_ | refine ex1_2 (hT a ha) ?_ | refine ex2_1 (hT a ha) ?_); intro q hq hr9_0; subst hr9_0) | obtain ⟨q, hq, rfl⟩ := (hT a ha)
      exact o.2.2.2.2 q (.tail _ (List.mem_append_left _ hq))
    rcases hc with h | h | h | h | h | h | h | h
    · exact o.2.1 h
    · exact o.2.2.1 h
    · exact o.2.2.2.1 h
    · exact o.1 h
    · exact hTT _ (.head _) h
    · exact hTT _ (.tail _ (.head _)) h
    · exact hTT _ (.tail _ (.tail _ (.head _))) h
    · exact hTT _ (.tail _ (.tail _ (.tail _ (.head _)))) h
theorem T4_has (z : Nat) (oa ob o5 o4 : Obj) : ∀ a ∈ ([80, 73, ((z + 1 + 1 + 1 + 1 + 1 : Nat) : Addr), ((z + 1 + 1 + 1 + 1 : Nat) : Addr)] : List Addr), ∃ q ∈ T4 z oa ob o5 o4, q.1 = a := by
  intro a ha
  simp only [List.mem_cons, List.not_mem_nil, or_false] at ha
  rcases ha with rfl | rfl | rfl | rfl
  · exact ⟨_, .head _, rfl⟩
  · exact ⟨_, .tail _ (.head _), rfl⟩
  · exact ⟨_, .tail _ (.tail _ (.head _)), rfl⟩
  · exact ⟨_, .tail _ (.tail _ (.tail _ (.head _))), rfl⟩
theorem loop_off {a I : Addr} {oI : Obj} {T R : List (Addr × Obj)} (h1 : I ≠ a) (h2 : ∀ p ∈ T, p.1 ≠ a) (h3 : ∀ p ∈ R, p.1 ≠ a) : ∀ p ∈ (I, oI) :: (T ++ R), p.1 ≠ a :=
  fun p hp => by
    rcases List.mem_cons.mp hp with rfl | hp
    · exact h1
    · exact (List.mem_append.mp hp).elim (h2 p) (h3 p)
theorem loop_nx {z : Nat} {lr ld I : Addr} {o1 o2 o3 o1' o2' o3' : Obj} {X : List (Addr × Obj)} (h : ∀ p ∈ ((198 : Addr), o1) :: (lr, o2) :: (ld, o3) :: X, p.1 ≠ I ∧ p.1 ≠ ((z + 1 + 1 + 1 : Nat) : Addr)) :
    ∀ p ∈ ((198 : Addr), o1') :: (lr, o2') :: (ld, o3') :: X, p.1 ≠ I ∧ p.1 ≠ ((z + 1 + 1 + 1 : Nat) : Addr) := fun p hp => by
  rcases List.mem_cons.mp hp with rfl | hp
  · exact h (198, o1) (.head _)
  rcases List.mem_cons.mp hp with rfl | hp
  · exact h (lr, o2) (.tail _ (.head _))
  rcases List.mem_cons.mp hp with rfl | hp
  · exact h (ld, o3) (.tail _ (.tail _ (.head _)))
  · exact h p (.tail _ (.tail _ (.tail _ hp)))
end
section
/-- what the law's end knows of its ledger -/
inductive TF (z : Nat) (lr ld ll : Addr) (cs ks : List Int) (sd : Int) (R : List (Addr × Obj)) : Prop where
  | mk (rv dv lv nv kv wv zv : List Value) (rn dn lnn nn kn wn zn : Nat) (ln lk lw lz af : Addr) (o1 o2 o4 o5 o6 o7 : Obj) (sx : Str) (stx : Tok)
    (hr : (lr, W.listOf rv.toArray rn) ∈ R) (ir : IntsAre rv ks) (hdu : (ld, W.listOf dv.toArray dn) ∈ R) (id_ : IntsAre dv ks) (hl : (ll, W.listOf lv.toArray lnn) ∈ R) (il : LeadsAre lv cs)
    (m7 : (((z + 1 + 1 + 1 + 1 + 1 + 1 + 1 : Nat) : Addr), o7) ∈ R) (d7 : o7.data = .cell (some (.ref lw))) (hw : (lw, W.listOf wv.toArray wn) ∈ R) (iw : All2 (WhiteV R) wv cs)
    (m6 : (((z + 1 + 1 + 1 + 1 + 1 + 1 : Nat) : Addr), o6) ∈ R) (d6 : o6.data = .cell (some (.ref ln))) (hn : (ln, W.listOf nv.toArray nn) ∈ R) (in_ : IntsAre nv (cs.map numL))
    (m2 : (((z + 1 + 1 : Nat) : Addr), o2) ∈ R) (d2 : o2.data = .cell (some (.ref lk))) (hk : (lk, W.listOf kv.toArray kn) ∈ R) (ik : All2 (ColV R) kv cs)
    (m4 : (((z + 1 + 1 + 1 + 1 : Nat) : Addr), o4) ∈ R) (d4 : o4.data = .cell (some (.ref lz))) (hz : (lz, W.listOf zv.toArray zn) ∈ R) (iz : IntsAre zv (colsOf (leadOf sd)))
    (m5 : (((z + 1 + 1 + 1 + 1 + 1 : Nat) : Addr), o5) ∈ R) (d5 : o5.data = .cell (some (.ref af))) (hfo : WhiteIn R af (wsOf (leadOf sd)))
    (m1 : (((z + 1 : Nat) : Addr), o1) ∈ R) (d1 : o1.data = .cell (some (.str sx stx))) (hsx : KStt.codes sx = leadOf sd) : TF z lr ld ll cs ks sd R
theorem TF.mono {z : Nat} {lr ld ll : Addr} {cs ks : List Int} {sd : Int} {R R' : List (Addr × Obj)} (h : TF z lr ld ll cs ks sd R) (hs : ∀ p ∈ R, p ∈ R') : TF z lr ld ll cs ks sd R' := by
  obtain ⟨rv, dv, lv, nv, kv, wv, zv, rn, dn, lnn, nn, kn, wn, zn, ln, lk, lw, lz, af, o1, o2, o4, o5, o6, o7, sx, stx, hr, ir, hdu, id_, hl, il, m7, d7, hw, iw, m6, d6, hn, in_, m2, d2, hk, ik, m4, d4, hz, iz, m5, d5, hfo, m1, d1, hsx⟩ := h
  exact ⟨rv, dv, lv, nv, kv, wv, zv, rn, dn, lnn, nn, kn, wn, zn, ln, lk, lw, lz, af, o1, o2, o4, o5, o6, o7, sx, stx, hs _ hr, ir, hs _ hdu, id_, hs _ hl, il, hs _ m7, d7, hs _ hw, iw.mono fun v c => WhiteV.mono hs v c, hs _ m6, d6, hs _ hn, in_, hs _ m2, d2, hs _ hk, ik.mono fun v c => ColV.mono hs v c, hs _ m4, d4, hs _ hz, iz, hs _ m5, d5, hfo.mono hs, hs _ m1, d1, hsx⟩
/-- the addresses of the three tables -/
abbrev C3 : List Addr := [198, 80, 73]
/-- the frame behind worth -/
abbrev mapW (v : Value) (m : Str → Option Value) : Str → Option Value := fun y => if y = Str.ofString "worth" then some v else m y
abbrev mapA (v : Value) (m : Str → Option Value) : Str → Option Value := fun y => if y = Str.ofString "ahead" then some v else m y
abbrev mapU (v : Value) (m : Str → Option Value) : Str → Option Value := fun y => if y = Str.ofString "until" then some v else m y
section
variable {h₀ h : Heap} {L : Addr} {z : Nat} {lr ld : Addr} {oc us orow odue ops oqs o5 o4 : Obj} {ex R : List (Addr × Obj)}
theorem tail_led (N : News h₀ L h (ex ++ (((z + 1 + 1 + 1 : Nat) : Addr), oc) :: (198, us) :: (lr, orow) :: (ld, odue) :: (80, ops) :: (73, oqs) :: (((z + 1 + 1 + 1 + 1 + 1 : Nat) : Addr), o5) :: (((z + 1 + 1 + 1 + 1 : Nat) : Addr), o4) :: R))
    (o : ∀ p ∈ ex, ∀ q ∈ (((z + 1 + 1 + 1 : Nat) : Addr), oc) :: (198, us) :: (lr, orow) :: (ld, odue) :: (80, ops) :: (73, oqs) :: (((z + 1 + 1 + 1 + 1 + 1 : Nat) : Addr), o5) :: (((z + 1 + 1 + 1 + 1 : Nat) : Addr), o4) :: R, @LT.lt Nat _ q.1 p.1)
    (hoff : OffC (C8 z lr ld) R) (z198 : 198 < z) (g1 : z + 1 + 1 + 1 + 1 + 1 + 1 + 1 < lr) (g2 : z + 1 + 1 + 1 + 1 + 1 + 1 + 1 < ld) :
    ∃ R1, (∀ p ∈ R, p ∈ R1) ∧ (∀ p ∈ ex, p ∈ R1) ∧ (lr, orow) ∈ R1 ∧ (ld, odue) ∈ R1 ∧ OffC [80, 73, 198, ((z + 1 + 1 + 1 + 1 + 1 : Nat) : Addr), ((z + 1 + 1 + 1 + 1 : Nat) : Addr)] R1 ∧
      News h₀ L h ((((z + 1 + 1 + 1 + 1 + 1 : Nat) : Addr), o5) :: (80, ops) :: (((z + 1 + 1 + 1 + 1 : Nat) : Addr), o4) :: (73, oqs) :: (198, us) :: R1) := by
  refine ⟨(lr, orow) :: (ld, odue) :: (((z + 1 + 1 + 1 : Nat) : Addr), oc) :: (ex ++ R), fun p hp => .tail _ (.tail _ (.tail _ (List.mem_append_right _ hp))), fun p hp => .tail _ (.tail _ (.tail _ (List.mem_append_left _ hp))), .head _, .tail _ (.head _), ?_, cb_drop N fun p hp => ?_⟩
  · have big : ∀ n : Nat, z + 1 + 1 + 1 + 1 + 1 + 1 + 1 < n → n ∉ ([80, 73, 198, ((z + 1 + 1 + 1 + 1 + 1 : Nat) : Addr), ((z + 1 + 1 + 1 + 1 : Nat) : Addr)] : List Addr) := fun n hn => by
      simp only [List.mem_cons, List.not_mem_nil, or_false, not_or]
      omega
    refine OffC.cons (big _ g1) (OffC.cons (big _ g2) (OffC.cons ?_ (OffC.app (OffC.lt o ?_) fun p hp hc => hoff p hp ?_)))
    · exact (fun (n : Nat) (hn : n = z + 1 + 1 + 1) => by
        simp only [List.mem_cons, List.not_mem_nil, or_false, not_or]
        omega : ∀ n : Nat, n = z + 1 + 1 + 1 → n ∉ ([80, 73, 198, ((z + 1 + 1 + 1 + 1 + 1 : Nat) : Addr), ((z + 1 + 1 + 1 + 1 : Nat) : Addr)] : List Addr)) _ rfl
    · intro a ha
      simp only [List.mem_cons, List.not_mem_nil, or_false] at ha
      rcases ha with rfl | rfl | rfl | rfl | rfl
      · exact ⟨_, .tail _ (.tail _ (.tail _ (.tail _ (.head _)))), rfl⟩
      · exact ⟨_, .tail _ (.tail _ (.tail _ (.tail _ (.tail _ (.head _))))), rfl⟩
      · exact ⟨_, .tail _ (.head _), rfl⟩
      · exact ⟨_, .tail _ (.tail _ (.tail _ (.tail _ (.tail _ (.tail _ (.head _)))))), rfl⟩
      · exact ⟨_, .tail _ (.tail _ (.tail _ (.tail _ (.tail _ (.tail _ (.tail _ (.head _))))))), rfl⟩
    · simp only [C8, List.mem_cons, List.not_mem_nil, or_false] at hc ⊢
      rcases hc with h | h | h | h | h <;> simp [h]
  · (revert p; (repeat' first | refine List.forall_mem_cons.mpr ⟨?_, ?_⟩ | refine List.forall_mem_append.mpr ⟨?_, ?_⟩); all_goals (try intro p hp); all_goals (repeat' first | assumption | exact List.Mem.head _ | exact List.mem_append_left _ (by assumption) | exact List.mem_append_right _ (by assumption) | exact absurd hp List.not_mem_nil | refine List.Mem.tail _ ?_ | refine List.mem_append_right _ ?_))
/-- behind number: what it made goes into R -/
theorem tail_led2 (N : News h₀ L h ((80, ops) :: (ex ++ (((z + 1 + 1 + 1 + 1 + 1 : Nat) : Addr), o5) :: (((z + 1 + 1 + 1 + 1 : Nat) : Addr), o4) :: (73, oqs) :: (198, us) :: R)))
    (o : ∀ p ∈ ex, ∀ q ∈ (((z + 1 + 1 + 1 + 1 + 1 : Nat) : Addr), o5) :: (((z + 1 + 1 + 1 + 1 : Nat) : Addr), o4) :: (73, oqs) :: (198, us) :: R, @LT.lt Nat _ q.1 p.1) (o8 : ∀ p ∈ ex, @LT.lt Nat _ 80 p.1)
    (hoff : OffC [80, 73, 198, ((z + 1 + 1 + 1 + 1 + 1 : Nat) : Addr), ((z + 1 + 1 + 1 + 1 : Nat) : Addr)] R) (z198 : 198 < z) :
    ∃ R1, (∀ p ∈ R, p ∈ R1) ∧ (∀ p ∈ ex, p ∈ R1) ∧ (((z + 1 + 1 + 1 + 1 + 1 : Nat) : Addr), o5) ∈ R1 ∧ OffC [198, 80, 73, ((z + 1 + 1 + 1 + 1 : Nat) : Addr)] R1 ∧
      News h₀ L h ((((z + 1 + 1 + 1 + 1 : Nat) : Addr), o4) :: (80, ops) :: (73, oqs) :: (198, us) :: R1) := by
  refine ⟨(((z + 1 + 1 + 1 + 1 + 1 : Nat) : Addr), o5) :: (ex ++ R), fun p hp => .tail _ (List.mem_append_right _ hp), fun p hp => .tail _ (List.mem_append_left _ hp), .head _, ?_, cb_drop N fun p hp => ?_⟩
  · refine OffC.cons ?_ (OffC.app (fun p hp hc => ?_) fun p hp hc => hoff p hp ?_)
    · exact (fun (n : Nat) (hn : n = z + 1 + 1 + 1 + 1 + 1) => by
        simp only [List.mem_cons, List.not_mem_nil, or_false, not_or]
        omega : ∀ n : Nat, n = z + 1 + 1 + 1 + 1 + 1 → n ∉ ([198, 80, 73, ((z + 1 + 1 + 1 + 1 : Nat) : Addr)] : List Addr)) _ rfl
    · simp only [List.mem_cons, List.not_mem_nil, or_false] at hc
      rcases hc with h | h | h | h
      · exact Nat.ne_of_gt (o p hp _ (.tail _ (.tail _ (.tail _ (.head _))))) h
      · exact Nat.ne_of_gt (o8 p hp) h
      · exact Nat.ne_of_gt (o p hp _ (.tail _ (.tail _ (.head _)))) h
      · exact Nat.ne_of_gt (o p hp _ (.tail _ (.head _))) h
    · simp only [List.mem_cons, List.not_mem_nil, or_false] at hc ⊢
      rcases hc with h | h | h | h <;> simp [h]
  · (revert p; (repeat' first | refine List.forall_mem_cons.mpr ⟨?_, ?_⟩ | refine List.forall_mem_append.mpr ⟨?_, ?_⟩); all_goals (try intro p hp); all_goals (repeat' first | assumption | exact List.Mem.head _ | exact List.mem_append_left _ (by assumption) | exact List.mem_append_right _ (by assumption) | exact absurd hp List.not_mem_nil | refine List.Mem.tail _ ?_ | refine List.mem_append_right _ ?_))
/-- behind the aims: their list goes into R, the menu is dropped -/
theorem tail_led3 {l lz : Addr} {om oz : Obj} (N : News h₀ L h ((lz, oz) :: (l, om) :: (((z + 1 + 1 + 1 + 1 : Nat) : Addr), o4) :: (80, ops) :: (73, oqs) :: (198, us) :: R))
    (o : LCg.Off1 lz ((l, om) :: (((z + 1 + 1 + 1 + 1 : Nat) : Addr), o4) :: (80, ops) :: (73, oqs) :: (198, us) :: R)) (hoff : OffC [198, 80, 73, ((z + 1 + 1 + 1 + 1 : Nat) : Addr)] R) :
    ∃ R1, (∀ p ∈ R, p ∈ R1) ∧ (lz, oz) ∈ R1 ∧ OffC [198, 80, 73, ((z + 1 + 1 + 1 + 1 : Nat) : Addr)] R1 ∧ News h₀ L h ((((z + 1 + 1 + 1 + 1 : Nat) : Addr), o4) :: (80, ops) :: (73, oqs) :: (198, us) :: R1) := by
  refine ⟨(lz, oz) :: R, fun p hp => .tail _ hp, .head _, OffC.cons (fun hc => ?_) hoff, cb_drop N fun p hp => ?_⟩
  · obtain ⟨_, q4, q80, q73, q198, _⟩ := o
    simp only [List.mem_cons, List.not_mem_nil, or_false] at hc
    rcases hc with h | h | h | h
    · exact q198 h.symm
    · exact q80 h.symm
    · exact q73 h.symm
    · exact q4 h.symm
  · (revert p; (repeat' first | refine List.forall_mem_cons.mpr ⟨?_, ?_⟩ | refine List.forall_mem_append.mpr ⟨?_, ?_⟩); all_goals (try intro p hp); all_goals (repeat' first | assumption | exact List.Mem.head _ | exact List.mem_append_left _ (by assumption) | exact List.mem_append_right _ (by assumption) | exact absurd hp List.not_mem_nil | refine List.Mem.tail _ ?_ | refine List.mem_append_right _ ?_))
/-- behind the aims' cell -/
theorem tail_led4 (N : News h₀ L h ((((z + 1 + 1 + 1 + 1 : Nat) : Addr), o4) :: (80, ops) :: (73, oqs) :: (198, us) :: R)) (hoff : OffC [198, 80, 73, ((z + 1 + 1 + 1 + 1 : Nat) : Addr)] R) (z198 : 198 < z) :
    ∃ R1, (∀ p ∈ R, p ∈ R1) ∧ (((z + 1 + 1 + 1 + 1 : Nat) : Addr), o4) ∈ R1 ∧ OffC C3 R1 ∧ News h₀ L h ((198, us) :: (80, ops) :: (73, oqs) :: R1) := by
  refine ⟨(((z + 1 + 1 + 1 + 1 : Nat) : Addr), o4) :: R, fun p hp => .tail _ hp, .head _, OffC.cons ?_ (fun p hp hc => hoff p hp ?_), cb_drop N fun p hp => ?_⟩
  · exact (fun (n : Nat) (hn : n = z + 1 + 1 + 1 + 1) => by
      simp only [List.mem_cons, List.not_mem_nil, or_false, not_or]
      omega : ∀ n : Nat, n = z + 1 + 1 + 1 + 1 → n ∉ ([198, 80, 73] : List Addr)) _ rfl
  · simp only [List.mem_cons, List.not_mem_nil, or_false] at hc ⊢
    rcases hc with h | h | h <;> simp [h]
  · (revert p; (repeat' first | refine List.forall_mem_cons.mpr ⟨?_, ?_⟩ | refine List.forall_mem_append.mpr ⟨?_, ?_⟩); all_goals (try intro p hp); all_goals (repeat' first | assumption | exact List.Mem.head _ | exact List.mem_append_left _ (by assumption) | exact List.mem_append_right _ (by assumption) | exact absurd hp List.not_mem_nil | refine List.Mem.tail _ ?_ | refine List.mem_append_right _ ?_))
/-- behind a lambda: it and its code go into R -/
theorem tail_lam {f : Addr} {of' us' : Obj} {o80 o73 : Obj} (N : News h₀ L h ((f, of') :: (ex ++ (198, us') :: (80, ops) :: (73, oqs) :: R))) (hoff : OffC C3 R)
    (l1 : ∀ q ∈ ((198 : Addr), us) :: (80, o80) :: (73, o73) :: R, @LT.lt Nat _ q.1 f) (l2 : ∀ q ∈ ex, ∀ o ∈ ((198 : Addr), us) :: (80, o80) :: (73, o73) :: R, @LT.lt Nat _ o.1 q.1) :
    ∃ R1, (∀ p ∈ R, p ∈ R1) ∧ (∀ p ∈ ex, p ∈ R1) ∧ OffC C3 R1 ∧ News h₀ L h ((198, us') :: (80, ops) :: (73, oqs) :: R1) := by
  have gen : ∀ a : Addr, (∀ q ∈ ((198 : Addr), us) :: (80, o80) :: (73, o73) :: R, @LT.lt Nat _ q.1 a) → a ∉ C3 := fun a h hc => by
    simp only [C3, List.mem_cons, List.not_mem_nil, or_false] at hc
    rcases hc with e | e | e
    · exact Nat.ne_of_gt (h _ (.head _)) e
    · exact Nat.ne_of_gt (h _ (.tail _ (.head _))) e
    · exact Nat.ne_of_gt (h _ (.tail _ (.tail _ (.head _)))) e
  refine ⟨(f, of') :: (ex ++ R), fun p hp => .tail _ (List.mem_append_right _ hp), fun p hp => .tail _ (List.mem_append_left _ hp), OffC.cons (gen _ l1) (OffC.app (fun p hp => gen _ (l2 p hp)) hoff), cb_drop N fun p hp => ?_⟩
  (revert p; (repeat' first | refine List.forall_mem_cons.mpr ⟨?_, ?_⟩ | refine List.forall_mem_append.mpr ⟨?_, ?_⟩); all_goals (try intro p hp); all_goals (repeat' first | assumption | exact List.Mem.head _ | exact List.mem_append_left _ (by assumption) | exact List.mem_append_right _ (by assumption) | exact absurd hp List.not_mem_nil | refine List.Mem.tail _ ?_ | refine List.mem_append_right _ ?_))
theorem lam_open {f : Addr} {of' us' : Obj} (N : News h₀ L h ((f, of') :: (ex ++ (198, us') :: (80, ops) :: (73, oqs) :: R))) :
    ∃ led, led = (f, of') :: (ex ++ (198, us') :: (80, ops) :: (73, oqs) :: R) ∧ News h₀ L h led ∧ (f, of') ∈ led ∧ (∀ p ∈ R, p ∈ led) ∧ ∀ p ∈ ex, p ∈ led :=
  ⟨_, rfl, N, .head _, fun p hp => .tail _ (List.mem_append_right _ (.tail _ (.tail _ (.tail _ hp)))), fun p hp => .tail _ (List.mem_append_left _ hp)⟩
end
end
section
theorem tail1_does (w : World) (z : Nat) (ld lr ll lc ln lk lw : Addr) (oc o7 o6 o5 o4 o2 o1 : Obj) (us ps : Array Value) (rv dv lv nv kv wv : List Value) (rn dn lnn nn kn wn : Nat) (R S S2 : List (Addr × Obj)) (cs ks : List Int) (sx : Str) (stx : Tok) (sd : Int) (v4 v5 : Option Value)
    (hl : (ll, W.listOf lv.toArray lnn) ∈ R) (il : LeadsAre lv cs)
    (m7 : (z + 1 + 1 + 1 + 1 + 1 + 1 + 1, o7) ∈ R) (d7 : o7.data = .cell (some (.ref lw))) (hw : (lw, W.listOf wv.toArray wn) ∈ R) (iw : All2 (WhiteV R) wv cs)
    (m6 : (z + 1 + 1 + 1 + 1 + 1 + 1, o6) ∈ R) (d6 : o6.data = .cell (some (.ref ln))) (hn : (ln, W.listOf nv.toArray nn) ∈ R) (in_ : IntsAre nv (cs.map numL))
    (m2 : (z + 1 + 1, o2) ∈ R) (d2 : o2.data = .cell (some (.ref lk))) (hk : (lk, W.listOf kv.toArray kn) ∈ R) (ik : All2 (ColV R) kv cs)
    (m1 : (z + 1, o1) ∈ R) (d1 : o1.data = .cell (some (.str sx stx))) (hsx : KStt.codes sx = leadOf sd)
    (d4 : o4.data = .cell v4) (d5 : o5.data = .cell v5) (hS : ∀ p ∈ S, p ∈ R) (hG2 : TabG d2iQ ps S2) (hS2 : ∀ p ∈ S2, p ∈ R)
    (hoff : OffC (C8 z lr ld) R) (z198 : 198 < z) (g1 : z + 1 + 1 + 1 + 1 + 1 + 1 + 1 < lr) (g2 : z + 1 + 1 + 1 + 1 + 1 + 1 + 1 < ld)
    (ir : IntsAre rv ks) (id_ : IntsAre dv ks)
    (p : Program) (loose : List Str) (mean : ExcName → Option Value) (mg mb : Str → Option Value) (dp un' : Nat) (gd : Option (List Code)) (fa : Addr) (outer : List Env) (A₀ : Around) (base h₀ : Heap) (m0 : Str → Option Value) (s : Shared) (Q : Flow → Shared → Prop) (E : Value → Shared → Prop)
    (B : Below A₀ base outer h₀) (F : Fr h₀ z s.heap (lawMap ld lr ll lc m0)) (X : (hd.heap_1 w.params).In h₀)
    (N : News h₀ z s.heap ((z + 1 + 1 + 1, oc) :: (198, tabObj us) :: (lr, W.listOf rv.toArray rn) :: (ld, W.listOf dv.toArray dn) :: (80, tabObj ps) :: (73, tabObj #[]) :: (z + 1 + 1 + 1 + 1 + 1, o5) :: (z + 1 + 1 + 1 + 1, o4) :: R)) (T : Top p loose mean mg mb h₀)
    (C1 : CodeHd base 77 73) (C2 : CodeHd base 84 80) (C3' : CodeHd base 200 198) (hd' : dp + 100 < recursionLimit) (hu : un' + 2000 < cLine)
    (hret : ∀ R' S' ps' tw h' tk', Fr h₀ z h' (mapW (.int (numL sd) tw) (lawMap ld lr ll lc m0)) → News h₀ z h' ((198, tabObj us) :: (80, tabObj ps') :: (73, tabObj #[]) :: R') → OffC C3 R' → TF z lr ld ll cs ks sd R' → (∀ p ∈ S, p ∈ R') → TabG d2iQ ps' S' → (∀ p ∈ S', p ∈ R') →
      wpAny (model PySem.Challenge.rw_pg0313_01.row.prog w) (lawAround dp un' gd z fa outer) (execs (lawIn.1.2.drop 12) (lawEnv z fa)) Q E { s with heap := h', toks := tk' }) :
    wpAny (model PySem.Challenge.rw_pg0313_01.row.prog w) (lawAround dp un' gd z fa outer) (execs (lawIn.1.2.drop 9) (lawEnv z fa)) Q E s := by
  revert X
  w_top off
  k_fill
  intro X
  dsimp only [lawAround, lawEnv, lawIn, lawMap, List.drop] at F hret ⊢
  have kMark := kstMark
  have hxl := lead_short hsx
  have hStop := stopMark
  k_steps
  (rename StopMark => hStop9; clear hStop9)
  unfold Halt
  (try k_fold); refine' Does.use (white_does _ _ _ _ (mark_len sx hxl)) ?k1 ?k2 ?k3 ?k4 ?k5 ?kK ?c1 ?c2 ?c3 ?kd ?ku ?_; (case k1 => k_asm); (case k2 => k_asm); (case k3 => k_asm); (case k4 => first | k_asm | exact news_swap (by k_asm)); (case k5 => k_asm); (case kK => first | exact rfl | assumption); (case c1 => first | with_reducible assumption | assumption); (case c2 => first | with_reducible assumption | assumption); (case c3 => first | with_reducible assumption | assumption); (case kd => first | exact room0 (by assumption) (by rfl) | exact room1 (by assumption) (by rfl) | ktr_room); (case ku => first | exact room0 (by assumption) (by rfl) | exact room1 (by assumption) (by rfl) | ktr_units)
  intro r9 news9 h9 tk9 F9 N9 P9
  first | ((first | refine ex0_6 (P9) ?_ | refine ex1_5 (P9) ?_ | refine ex2_4 (P9) ?_ | refine ex3_3 (P9) ?_); (try clear P9); intro af ex q9 e9 o9 hW) | obtain ⟨af, ex, q9, e9, o9, hW⟩ := (P9)
  subst e9
  subst q9
  rw [lead_ws hsx] at hW
  first | ((first | refine ex0_7 (tail_led N9 o9 hoff z198 g1 g2) ?_ | refine ex1_6 (tail_led N9 o9 hoff z198 g1 g2) ?_ | refine ex2_5 (tail_led N9 o9 hoff z198 g1 g2) ?_ | refine ex5_2 (tail_led N9 o9 hoff z198 g1 g2) ?_); intro R1 hs1 hx1 hr1 hd1 hoff1 N1) | obtain ⟨R1, hs1, hx1, hr1, hd1, hoff1, N1⟩ := (tail_led N9 o9 hoff z198 g1 g2)
  replace hW := hW.mono hx1
  clear N9 o9
  have p5 := hoff1.at (a := z + 1 + 1 + 1 + 1 + 1) (.tail _ (.tail _ (.tail _ (.head _))))
  have p80 := hoff1.at (a := 80) (.head _)
  have hStop := stopMark
  k_steps
  (rename StopMark => hStop9; clear hStop9)
  unfold Halt
  rename News _ _ _ _ => lN
  rename Obj => oN
  rename oN.data = _ => dN
  have hO5 : ∀ p ∈ (z + 1 + 1 + 1 + 1 + 1, oN) :: (z + 1 + 1 + 1 + 1, o4) :: (73, tabObj #[]) :: (198, tabObj us) :: R1, p.1 ≠ 80 := List.forall_mem_cons.mpr ⟨(show @Ne Nat _ 80 by omega), List.forall_mem_cons.mpr ⟨(show @Ne Nat _ 80 by omega), List.forall_mem_cons.mpr ⟨(show (73 : Nat) ≠ 80 by decide), List.forall_mem_cons.mpr ⟨(show (198 : Nat) ≠ 80 by decide), p80⟩⟩⟩⟩
  (try k_fold); refine' Does.use (number_does _ ((z + 1 + 1 + 1 + 1 + 1, oN) :: (z + 1 + 1 + 1 + 1, o4) :: (73, tabObj #[]) :: (198, tabObj us) :: R1) S2 ps af _ (hW.mono fun p hp => .tail _ (.tail _ (.tail _ (.tail _ hp)))) (lead_wok _).len (lead_digs _) hG2 (fun p hp => .tail _ (.tail _ (.tail _ (.tail _ (hs1 _ (hS2 p hp)))))) hO5) ?k1 ?k2 ?k3 ?k4 ?k5 ?kK ?c1 ?c2 ?c3 ?kd ?ku ?_; (case k1 => k_asm); (case k2 => k_asm); (case k3 => k_asm); (case k4 => first | k_asm | exact news_swap (by k_asm)); (case k5 => k_asm); (case kK => first | exact rfl | assumption); (case c1 => first | with_reducible assumption | assumption); (case c2 => first | with_reducible assumption | assumption); (case c3 => first | with_reducible assumption | assumption); (case kd => first | exact room0 (by assumption) (by rfl) | exact room1 (by assumption) (by rfl) | ktr_room); (case ku => first | exact room0 (by assumption) (by rfl) | exact room1 (by assumption) (by rfl) | ktr_units)
  intro r9 news9 h9 tk9 F9 N9 P9
  first | ((first | refine ex1_7 (P9) ?_ | refine ex3_5 (P9) ?_ | refine ex7_1 (P9) ?_); (try clear P9); intro t9 ps9 ex9 q9 e9 g9 o9 z9) | obtain ⟨t9, ps9, ex9, q9, e9, g9, o9, z9⟩ := (P9)
  subst e9
  subst q9
  first | ((first | refine ex0_6 (tail_led2 N9 o9 z9 hoff1 z198) ?_ | refine ex1_5 (tail_led2 N9 o9 z9 hoff1 z198) ?_ | refine ex2_4 (tail_led2 N9 o9 z9 hoff1 z198) ?_ | refine ex3_3 (tail_led2 N9 o9 z9 hoff1 z198) ?_); intro R2 hs2 hx2 m5 hoff2 N2) | obtain ⟨R2, hs2, hx2, m5, hoff2, N2⟩ := (tail_led2 N9 o9 z9 hoff1 z198)
  clear N9 o9 lN p5 p80 hO5
  have p4 := hoff2.at (a := z + 1 + 1 + 1 + 1) (.tail _ (.tail _ (.tail _ (.head _))))
  replace m1 := hs2 _ (hs1 _ m1)
  iterate 4 (all_goals try first | (k_unfold; (try dsimp only)) | (k_end; wrow_close) | walk1 | (dsimp only; walk1))
  rename Fr _ _ _ _ => F₁
  refine LCg.ListComp_U (F₀ := F₁) (by with_unfolding_all rfl) (by decide) (by rfl) (by decide) (by rfl) ?_
  iterate 15 (all_goals try first | (k_unfold; (try dsimp only)) | (k_end; wrow_close) | walk1 | (dsimp only; walk1))
  refine LCg.CompSrc.ledger (by rfl) (by k_asm) (by k_asm) (.head _) (Nat.le_of_ble_eq_true rfl) ?_
  intro g5
  refine my_turns0 (fun i ys => IntsAre ys ((colsOf (leadOf sd)).take i)) .nil ?turn5 ?fin5
  case turn5 =>
    intro i5 v5 ys5 I5 oI5 C5 oC5 D5 m5 h5 tk5 E5 hi5 hv5 hJ5 hC5 hx5 F₅ N₅ off5 ne5
    first | ((first | refine ex0_4 (ints_at (ns := [6, 5, 4, 3, 2, 1]) (.cons _ _ (.cons _ _ (.cons _ _ (.cons _ _ (.cons _ _ (.cons _ _ .nil)))))) (by simpa using hv5)) ?_ | refine ex1_3 (ints_at (ns := [6, 5, 4, 3, 2, 1]) (.cons _ _ (.cons _ _ (.cons _ _ (.cons _ _ (.cons _ _ (.cons _ _ .nil)))))) (by simpa using hv5)) ?_ | refine ex2_2 (ints_at (ns := [6, 5, 4, 3, 2, 1]) (.cons _ _ (.cons _ _ (.cons _ _ (.cons _ _ (.cons _ _ (.cons _ _ .nil)))))) (by simpa using hv5)) ?_); intro s5 t5 hs5 hr9_0; subst hr9_0) | obtain ⟨s5, t5, hs5, rfl⟩ := (ints_at (ns := [6, 5, 4, 3, 2, 1]) (.cons _ _ (.cons _ _ (.cons _ _ (.cons _ _ (.cons _ _ (.cons _ _ .nil)))))) (by simpa using hv5))
    have hsz := int_nth hs5
    iterate 11 (all_goals try first | (k_unfold; (try dsimp only)) | (k_end; wrow_close) | walk1 | (dsimp only; walk1))
    rename Fr _ _ _ _ => lF
    rename News _ _ _ ((I5, _) :: _) => lN
    refine LCg.CompEnd.intro lF lN _ (fun p hp => hp) off5 (.inr ⟨_, .head _, rfl, _, rfl⟩) ⟨rfl, ?_⟩
    rw [cols_take hs5, hsx]
    exact hJ5.append (.cons _ _ .nil)
  case fin5 =>
    intro ys5 hJ5
    rw [show (#[Value.int 6 _, .int 5 _, .int 4 _, .int 3 _, .int 2 _, .int 1 _] : Array Value).size = 6 from rfl, ← colsOf_len (leadOf sd), List.take_length] at hJ5
    unfold LCg.FinE
    intro lz h6 tk6 F6 N6 o6
    replace N6 : News _ _ _ ((lz, W.listOf ys5.toArray ys5.length) :: _) := N6
    first | ((first | refine ex0_5 (tail_led3 N6 o6 hoff2) ?_ | refine ex1_4 (tail_led3 N6 o6 hoff2) ?_ | refine ex2_3 (tail_led3 N6 o6 hoff2) ?_ | refine ex3_2 (tail_led3 N6 o6 hoff2) ?_); intro R3 hs3 hz hoff3 N3) | obtain ⟨R3, hs3, hz, hoff3, N3⟩ := (tail_led3 N6 o6 hoff2)
    clear N6 o6 p4
    have p4 := hoff3.at (a := z + 1 + 1 + 1 + 1) (.tail _ (.tail _ (.tail _ (.head _))))
    iterate 2 (all_goals try first | (k_unfold; (try dsimp only)) | (k_end; wrow_close) | walk1 | (dsimp only; walk1))
    rename Obj => oA
    rename oA.data = _ => dA
    rename News _ _ _ _ => lN
    rename Fr _ _ _ _ => lF
    first | ((first | refine ex0_5 (tail_led4 lN hoff3 z198) ?_ | refine ex1_4 (tail_led4 lN hoff3 z198) ?_ | refine ex2_3 (tail_led4 lN hoff3 z198) ?_ | refine ex3_2 (tail_led4 lN hoff3 z198) ?_); intro R4 hs4 m4 hoff4 N4) | obtain ⟨R4, hs4, m4, hoff4, N4⟩ := (tail_led4 lN hoff3 z198)
    have up : ∀ p ∈ R1, p ∈ R4 := fun p hp => hs4 _ (hs3 _ (hs2 _ hp))
    have upR : ∀ p ∈ R, p ∈ R4 := fun p hp => up _ (hs1 _ hp)
    refine hret R4 (ex9 ++ S2) ps9 _ _ _ lF N4 hoff4 ⟨rv, dv, lv, nv, kv, wv, ys5, rn, dn, lnn, nn, kn, wn, _, ln, lk, lw, lz, af, o1, o2, oA, oN, o6, o7, sx, stx, up _ hr1, ir, up _ hd1, id_, upR _ hl, il, upR _ m7, d7, upR _ hw, iw.mono fun v c => WhiteV.mono upR v c, upR _ m6, d6, upR _ hn, in_, upR _ m2, d2, upR _ hk, ik.mono fun v c => ColV.mono upR v c, m4, dA, hs4 _ hz, hJ5, hs4 _ (hs3 _ m5), dN, hW.mono up, hs4 _ (hs3 _ m1), d1, hsx⟩ (fun p hp => upR _ (hS p hp)) g9 fun p hp => ?_
    rcases List.mem_append.mp hp with hp | hp
    · exact hs4 _ (hs3 _ (hx2 _ hp))
    · exact upR _ (hS2 _ hp)
end
section
theorem tail2_does (w : World) (z : Nat) (ld lr ll lc : Addr) (us ps qs : Array Value) (R : List (Addr × Obj)) (cs ks : List Int) (sd : Int) (tw : Tok)
    (hc5 : cs.length ≤ 5) (hkl : ks.length = cs.length) (hkin : ∀ k ∈ ks, 0 ≤ k ∧ k < (cs.length : Int))
    (H : TF z lr ld ll cs ks sd R) (hoff : OffC C3 R)
    (p : Program) (loose : List Str) (mean : ExcName → Option Value) (mg mb : Str → Option Value) (dp un' : Nat) (gd : Option (List Code)) (fa : Addr) (outer : List Env) (A₀ : Around) (base h₀ : Heap) (m0 : Str → Option Value) (s : Shared) (Q : Flow → Shared → Prop) (E : Value → Shared → Prop)
    (B : Below A₀ base outer h₀) (F : Fr h₀ z s.heap (mapW (.int (numL sd) tw) (lawMap ld lr ll lc m0))) (X : (hd.heap_1 w.params).In h₀)
    (N : News h₀ z s.heap ((198, tabObj us) :: (80, tabObj ps) :: (73, tabObj qs) :: R)) (T : Top p loose mean mg mb h₀)
    (C1 : CodeHd base 77 73) (C2 : CodeHd base 84 80) (C3' : CodeHd base 200 198) (hd' : dp + 100 < recursionLimit) (hu : un' + 2000 < cLine)
    (hret : ∀ ta tu h' tk', Fr h₀ z h' (mapU (.int (cntLe (ordV cs) (numL sd) ks : Int) tu) (mapA (.int (cntLt (ordV cs) (numL sd) ks : Int) ta) (mapW (.int (numL sd) tw) (lawMap ld lr ll lc m0)))) → News h₀ z h' ((198, tabObj us) :: (80, tabObj ps) :: (73, tabObj qs) :: R) →
      wpAny (model PySem.Challenge.rw_pg0313_01.row.prog w) (lawAround dp un' gd z fa outer) (execs (lawIn.1.2.drop 14) (lawEnv z fa)) Q E { s with heap := h', toks := tk' }) :
    wpAny (model PySem.Challenge.rw_pg0313_01.row.prog w) (lawAround dp un' gd z fa outer) (execs (lawIn.1.2.drop 12) (lawEnv z fa)) Q E s := by
  revert X
  w_top off
  k_fill
  intro X
  dsimp only [lawAround, lawEnv, lawIn, lawMap, mapW, mapA, mapU, List.drop] at F hret ⊢
  have kMark := kstMark
  obtain ⟨rv, dv, lv, nv, kv, wv, zv, rn, dn, lnn, nn, kn, wn, zn, ln, lk, lw, lz, af, o1, o2, o4, o5, o6, o7, sx, stx, hr, ir, hdu, id_, hl, il, m7, d7, hw, iw, m6, d6, hn, in_, m2, d2, hk, ik, m4, d4, hz, iz, m5, d5, hfo, m1, d1, hsx⟩ := H
  have hdl : dv.length = ks.length := id_.length
  iterate 6 (all_goals try first | (k_unfold; (try dsimp only)) | (k_end; wrow_close) | walk1 | (dsimp only; walk1))
  refine LCt.ListComp_T (F₀ := by k_asm) (by with_unfolding_all rfl) (by decide) (by rfl) (by decide) (by rfl) ?_
  iterate 1 (all_goals try first | (k_unfold; (try dsimp only)) | (k_end; wrow_close) | walk1 | (dsimp only; walk1))
  refine LCt.CompSrcT.ledger (by rfl) (by k_asm) (by k_asm) (by k_mem) ?hsl ?_
  case hsl => rw [List.size_toArray, id_.length]; exact Nat.le_trans (show ks.length ≤ 5 by omega) (by decide)
  intro g'
  refine my_turnsT0 (fun j ys => IntsAre ys ((ks.take j).filter fun k => decide (ordV cs k < numL sd))) .nil ?turn ?fin
  case turn =>
    intro j v ys I oI C oC D m₂ h tk E' hj hv hJ2 hC hx F₁ N₁ off ne
    first | ((first | refine ex0_4 (ints_at id_ (by simpa using hv)) ?_ | refine ex1_3 (ints_at id_ (by simpa using hv)) ?_ | refine ex2_2 (ints_at id_ (by simpa using hv)) ?_); intro k tk hkk hr9_0; subst hr9_0) | obtain ⟨k, tk, hkk, rfl⟩ := (ints_at id_ (by simpa using hv))
    have hkb := hkin k (List.mem_of_getElem? hkk)
    have hkl2 : k.toNat < cs.length := by omega
    first | ((first | refine ex0_3 (ik.ix (i := k.toNat) (c := cs.getD k.toNat 0) (by rw [List.getD_eq_getElem?_getD, List.getElem?_eq_getElem hkl2]; rfl)) ?_ | refine ex1_2 (ik.ix (i := k.toNat) (c := cs.getD k.toNat 0) (by rw [List.getD_eq_getElem?_getD, List.getElem?_eq_getElem hkl2]; rfl)) ?_ | refine ex2_1 (ik.ix (i := k.toNat) (c := cs.getD k.toNat 0) (by rw [List.getD_eq_getElem?_getD, List.getElem?_eq_getElem hkl2]; rfl)) ?_); intro kv' hkv hp8) | obtain ⟨kv', hkv, hp8⟩ := (ik.ix (i := k.toNat) (c := cs.getD k.toNat 0) (by rw [List.getD_eq_getElem?_getD, List.getElem?_eq_getElem hkl2]; rfl))
    first | ((first | refine ex0_6 (hp8) ?_ | refine ex1_5 (hp8) ?_ | refine ex2_4 (hp8) ?_ | refine ex3_3 (hp8) ?_); (try clear hp8); intro ak uk nk hr9_0 hmk hik; subst hr9_0) | obtain ⟨ak, uk, nk, rfl, hmk, hik⟩ := (hp8)
    iterate 4 (all_goals try first | (k_unfold; (try dsimp only)) | (k_end; wrow_close) | walk1 | (dsimp only; walk1))
    refine my_itemV (by k_asm) (show (lk, W.listOf kv.toArray kn) ∈ _ by k_mem) hkb.1 (by omega) hkv ?_
    iterate 1 (all_goals try first | (k_unfold; (try dsimp only)) | (k_end; wrow_close) | walk1 | (dsimp only; walk1))
    refine my_ltLs (by k_asm) (show (ak, W.listOf uk.toArray nk) ∈ _ by k_mem) (show (lz, W.listOf zv.toArray zn) ∈ _ by k_mem) hik iz rfl (by ktr_units) ?_
    rw [cols_lt']
    by_cases hle : numL (cs.getD k.toNat 0) < numL sd
    · rw [decide_eq_true hle]
      iterate 3 (all_goals try first | (k_unfold; (try dsimp only)) | (k_end; wrow_close) | walk1 | (dsimp only; walk1))
      refine LCg.CompEnd.intro F₁ N₁ _ (fun p hp => hp) off (.inr ⟨_, .tail _ (.tail _ (.tail _ hdu)), rfl, _, rfl⟩) ⟨rfl, ?_⟩
      have hle2 : decide (ordV cs k < numL sd) = true := decide_eq_true hle
      rw [take_snoc hkk, List.filter_append]
      simp only [List.filter_cons, List.filter_nil, hle2, if_true]
      exact hJ2.append (.cons _ _ .nil)
    · rw [decide_eq_false hle]
      iterate 2 (all_goals try first | (k_unfold; (try dsimp only)) | (k_end; wrow_close) | walk1 | (dsimp only; walk1))
      refine LCg.CompEnd.intro F₁ N₁ _ (fun p hp => hp) off (.inr ⟨_, .tail _ (.tail _ (.tail _ hdu)), rfl, _, rfl⟩) ⟨rfl, ?_⟩
      have hle2 : decide (ordV cs k < numL sd) = false := decide_eq_false hle
      rw [take_snoc hkk, List.filter_append]
      simp only [List.filter_cons, List.filter_nil, hle2, Bool.false_eq_true, if_false, List.append_nil]
      exact hJ2
  case fin =>
    intro ys hJ2
    rw [List.size_toArray, id_.length, List.take_length] at hJ2
    have hyl : ys.length = cntLt (ordV cs) (numL sd) ks := hJ2.length
    have hcl : cntLt (ordV cs) (numL sd) ks ≤ ks.length := cntLt_le _ _ _
    unfold LCg.FinE
    intro lq h8 tk8 F8 N8 o8
    replace N8 : News _ _ _ ((lq, W.listOf ys.toArray ys.length) :: _) := N8
    iterate 4 (all_goals try first | (k_unfold; (try dsimp only)) | (k_end; wrow_close) | walk1 | (dsimp only; walk1))
    rename News _ _ _ _ => lN
    replace lN := cb_drop lN (fun p (hp : p ∈ (198, tabObj us) :: (80, tabObj ps) :: (73, tabObj qs) :: R) => .tail _ hp)
    clear o8
    iterate 6 (all_goals try first | (k_unfold; (try dsimp only)) | (k_end; wrow_close) | walk1 | (dsimp only; walk1))
    rename Fr _ _ _ _ => F5
    refine LCt.ListComp_T (F₀ := F5) (by with_unfolding_all rfl) (by decide) (by rfl) (by decide) (by rfl) ?_
    iterate 1 (all_goals try first | (k_unfold; (try dsimp only)) | (k_end; wrow_close) | walk1 | (dsimp only; walk1))
    refine LCt.CompSrcT.ledger (by rfl) (by k_asm) (by k_asm) (by k_mem) ?hsl ?_
    case hsl => rw [List.size_toArray, id_.length]; exact Nat.le_trans (show ks.length ≤ 5 by omega) (by decide)
    intro g'
    refine my_turnsT0 (fun j ys => IntsAre ys ((ks.take j).filter fun k => decide (ordV cs k ≤ numL sd))) .nil ?turn2 ?fin2
    case turn2 =>
      intro j v ys I oI C oC D m₂ h tk E' hj hv hJ2 hC hx F₁ N₁ off ne
      first | ((first | refine ex0_4 (ints_at id_ (by simpa using hv)) ?_ | refine ex1_3 (ints_at id_ (by simpa using hv)) ?_ | refine ex2_2 (ints_at id_ (by simpa using hv)) ?_); intro k tk hkk hr9_0; subst hr9_0) | obtain ⟨k, tk, hkk, rfl⟩ := (ints_at id_ (by simpa using hv))
      have hkb := hkin k (List.mem_of_getElem? hkk)
      have hkl2 : k.toNat < cs.length := by omega
      first | ((first | refine ex0_3 (ik.ix (i := k.toNat) (c := cs.getD k.toNat 0) (by rw [List.getD_eq_getElem?_getD, List.getElem?_eq_getElem hkl2]; rfl)) ?_ | refine ex1_2 (ik.ix (i := k.toNat) (c := cs.getD k.toNat 0) (by rw [List.getD_eq_getElem?_getD, List.getElem?_eq_getElem hkl2]; rfl)) ?_ | refine ex2_1 (ik.ix (i := k.toNat) (c := cs.getD k.toNat 0) (by rw [List.getD_eq_getElem?_getD, List.getElem?_eq_getElem hkl2]; rfl)) ?_); intro kv' hkv hp8) | obtain ⟨kv', hkv, hp8⟩ := (ik.ix (i := k.toNat) (c := cs.getD k.toNat 0) (by rw [List.getD_eq_getElem?_getD, List.getElem?_eq_getElem hkl2]; rfl))
      first | ((first | refine ex0_6 (hp8) ?_ | refine ex1_5 (hp8) ?_ | refine ex2_4 (hp8) ?_ | refine ex3_3 (hp8) ?_); (try clear hp8); intro ak uk nk hr9_0 hmk hik; subst hr9_0) | obtain ⟨ak, uk, nk, rfl, hmk, hik⟩ := (hp8)
      iterate 4 (all_goals try first | (k_unfold; (try dsimp only)) | (k_end; wrow_close) | walk1 | (dsimp only; walk1))
      refine my_itemV (by k_asm) (show (lk, W.listOf kv.toArray kn) ∈ _ by k_mem) hkb.1 (by omega) hkv ?_
      iterate 1 (all_goals try first | (k_unfold; (try dsimp only)) | (k_end; wrow_close) | walk1 | (dsimp only; walk1))
      refine my_leLs (by k_asm) (show (ak, W.listOf uk.toArray nk) ∈ _ by k_mem) (show (lz, W.listOf zv.toArray zn) ∈ _ by k_mem) hik iz rfl (by ktr_units) ?_
      rw [cols_le']
      by_cases hle : numL (cs.getD k.toNat 0) ≤ numL sd
      · rw [decide_eq_true hle]
        iterate 3 (all_goals try first | (k_unfold; (try dsimp only)) | (k_end; wrow_close) | walk1 | (dsimp only; walk1))
        refine LCg.CompEnd.intro F₁ N₁ _ (fun p hp => hp) off (.inr ⟨_, .tail _ (.tail _ (.tail _ hdu)), rfl, _, rfl⟩) ⟨rfl, ?_⟩
        have hle2 : decide (ordV cs k ≤ numL sd) = true := decide_eq_true hle
        rw [take_snoc hkk, List.filter_append]
        simp only [List.filter_cons, List.filter_nil, hle2, if_true]
        exact hJ2.append (.cons _ _ .nil)
      · rw [decide_eq_false hle]
        iterate 2 (all_goals try first | (k_unfold; (try dsimp only)) | (k_end; wrow_close) | walk1 | (dsimp only; walk1))
        refine LCg.CompEnd.intro F₁ N₁ _ (fun p hp => hp) off (.inr ⟨_, .tail _ (.tail _ (.tail _ hdu)), rfl, _, rfl⟩) ⟨rfl, ?_⟩
        have hle2 : decide (ordV cs k ≤ numL sd) = false := decide_eq_false hle
        rw [take_snoc hkk, List.filter_append]
        simp only [List.filter_cons, List.filter_nil, hle2, Bool.false_eq_true, if_false, List.append_nil]
        exact hJ2
    case fin2 =>
      intro ys hJ2
      rw [List.size_toArray, id_.length, List.take_length] at hJ2
      have hyl : ys.length = cntLe (ordV cs) (numL sd) ks := hJ2.length
      have hcl : cntLe (ordV cs) (numL sd) ks ≤ ks.length := cntLe_le _ _ _
      unfold LCg.FinE
      intro lq h8 tk8 F8 N8 o8
      replace N8 : News _ _ _ ((lq, W.listOf ys.toArray ys.length) :: _) := N8
      iterate 4 (all_goals try first | (k_unfold; (try dsimp only)) | (k_end; wrow_close) | walk1 | (dsimp only; walk1))
      rename News _ _ _ _ => lN
      rename Fr _ _ _ _ => lF
      exact hret _ _ _ _ lF (cb_drop lN (fun p hp => .tail _ hp))
end
section
theorem tail3_does (w : World) (z : Nat) (ld lr ll lc : Addr) (us ps qs : Array Value) (R S : List (Addr × Obj)) (cs ks : List Int) (sd : Int) (tw ta tu : Tok)
    (hc5 : cs.length ≤ 5) (hkl : ks.length = cs.length) (hkin : ∀ k ∈ ks, 0 ≤ k ∧ k < (cs.length : Int)) (hso : SortedBy (ordV cs) ks)
    (H : TF z lr ld ll cs ks sd R) (hoff : OffC C3 R) (hG : TabG lamQ us S) (hS : ∀ p ∈ S, p ∈ R)
    (p : Program) (loose : List Str) (mean : ExcName → Option Value) (mg mb : Str → Option Value) (dp un' : Nat) (gd : Option (List Code)) (fa : Addr) (outer : List Env) (A₀ : Around) (base h₀ : Heap) (m0 : Str → Option Value) (s : Shared) (Q : Flow → Shared → Prop) (E : Value → Shared → Prop)
    (B : Below A₀ base outer h₀) (F : Fr h₀ z s.heap (mapU (.int (cntLe (ordV cs) (numL sd) ks : Int) tu) (mapA (.int (cntLt (ordV cs) (numL sd) ks : Int) ta) (mapW (.int (numL sd) tw) (lawMap ld lr ll lc m0))))) (X : (hd.heap_1 w.params).In h₀)
    (N : News h₀ z s.heap ((198, tabObj us) :: (80, tabObj ps) :: (73, tabObj qs) :: R)) (T : Top p loose mean mg mb h₀)
    (C1 : CodeHd base 77 73) (C2 : CodeHd base 84 80) (C3' : CodeHd base 200 198) (hd' : dp + 100 < recursionLimit) (hu : un' + 2000 < cLine)
    (hret : ∀ us' S' R' h' tk', Fr h₀ z h' (mapU (.int (cntLe (ordV cs) (numL sd) ks : Int) tu) (mapA (.int (cntLt (ordV cs) (numL sd) ks : Int) ta) (mapW (.int (numL sd) tw) (lawMap ld lr ll lc m0)))) → News h₀ z h' ((198, tabObj us') :: (80, tabObj ps) :: (73, tabObj qs) :: R') → (∀ p ∈ R, p ∈ R') → OffC C3 R' → TabG lamQ us' S' → (∀ p ∈ S', p ∈ R') →
      wpAny (model PySem.Challenge.rw_pg0313_01.row.prog w) (lawAround dp un' gd z fa outer) (execs (lawIn.1.2.drop 17) (lawEnv z fa)) Q E { s with heap := h', toks := tk' }) :
    wpAny (model PySem.Challenge.rw_pg0313_01.row.prog w) (lawAround dp un' gd z fa outer) (execs (lawIn.1.2.drop 14) (lawEnv z fa)) Q E s := by
  revert X
  w_top off
  k_fill
  intro X
  dsimp only [lawAround, lawEnv, lawIn, lawMap, mapW, mapA, mapU, List.drop] at F hret ⊢
  have kMark := kstMark
  obtain ⟨rv, dv, lv, nv, kv, wv, zv, rn, dn, lnn, nn, kn, wn, zn, ln, lk, lw, lz, af, o1, o2, o4, o5, o6, o7, sx, stx, hr, ir, hdu, id_, hl, il, m7, d7, hw, iw, m6, d6, hn, in_, m2, d2, hk, ik, m4, d4, hz, iz, m5, d5, hfo, m1, d1, hsx⟩ := H
  have hcl : cntLe (ordV cs) (numL sd) ks ≤ ks.length := cntLe_le _ _ _
  have hcl2 : cntLt (ordV cs) (numL sd) ks ≤ ks.length := cntLt_le _ _ _
  have hgk : ∀ j, j < ks.length → 0 ≤ ks.getD j 0 ∧ ks.getD j 0 < (cs.length : Int) := fun j hj => by
    rw [List.getD_eq_getElem?_getD, List.getElem?_eq_getElem hj]
    exact hkin _ (List.getElem_mem hj)
  iterate 5 (all_goals try first | (k_unfold; (try dsimp only)) | (k_end; wrow_close) | walk1 | (dsimp only; walk1))
  refine ne_intsK (News.isList N (show (lr, W.listOf rv.toArray rn) ∈ _ by k_mem)) ir (News.isList N (show (ld, W.listOf dv.toArray dn) ∈ _ by k_mem)) id_ (by ktr_units) ?_
  rw [decide_eq_true rfl]
  iterate 15 (all_goals try first | (k_unfold; (try dsimp only)) | (k_end; wrow_close) | walk1 | (dsimp only; walk1))
  refine' kla_eval ?d0 ?_
  case d0 => exact rfl
  refine lam_any (ps := us) (R := S) (clos := [(Str.ofString "numbers", z + 1 + 1 + 1 + 1 + 1 + 1)]) (by k_asm) (by k_asm) (by k_asm) (by kn_code) (by rfl) (.head (List.forall_mem_cons.mpr ⟨(show (80 : Nat) ≠ 198 by decide), List.forall_mem_cons.mpr ⟨(show (73 : Nat) ≠ 198 by decide), hoff.at (.head _)⟩⟩)) hG (by rfl) ?_
  intro f2 c2 ol2 vs2 tq2 ctv2 us2 ex2 h2 tk2 F2 N2 G2 m2' d2' e2' l2 l2'
  first | ((first | refine ex0_6 (lam_open N2) ?_ | refine ex1_5 (lam_open N2) ?_ | refine ex2_4 (lam_open N2) ?_ | refine ex3_3 (lam_open N2) ?_); intro led2 eled2 N2' hf2 up2 upx2) | obtain ⟨led2, eled2, N2', hf2, up2, upx2⟩ := (lam_open N2)
  have hm2 : (c2, ol2) ∈ led2 := (List.mem_append.mp m2').elim (upx2 _) fun h => up2 _ (hS _ h)
  have hkey2 : ∀ k t, 0 ≤ k → k < (cs.length : Int) → Does w led2 1 30 f2 [.int k t] [] (Keeps1 led2 fun r => ∃ t, r = .int (ordV cs k) t) := fun k t h0 h1 => by
    rw [← map_getD (show k.toNat < cs.length by omega)]
    exact lamnum_does w _ f2 c2 _ ln o6 ol2 _ ctv2 vs2 tq2 _ _ _ _ nv nn (cs.map numL) k t hf2 hm2 d2' e2' (up2 _ m6) d6 (up2 _ hn) in_ h0 (by rw [List.length_map]; exact h1) (by rw [List.length_map]; omega)
  have hsp2 := lt_split (x := numL sd) hso
  have hStop := stopMark
  k_steps
  (rename StopMark => hStop9; clear hStop9)
  unfold Halt
  (try k_fold); refine' Does.use (bisl_does w led2 lr f2 rv rn ks (fun j => ordV cs (ks.getD j 0)) (numL sd) tw tw (cntLt (ordV cs) (numL sd) ks) 1 30 [.ref lr, .int (numL sd) tw] (.inl rfl) hf2 (up2 _ hr) ir (by omega) (fun j t hj => hkey2 _ t (hgk j hj).1 (hgk j hj).2) (cntLt_le _ _ _) (fun j hj => hsp2.1 j hj) (fun j h1 h2 => hsp2.2 j h1 h2)) ?k1 ?k2 ?k3 ?k4 ?k5 ?kK ?c1 ?c2 ?c3 ?kd ?ku ?_; (case k1 => k_asm); (case k2 => k_asm); (case k3 => k_asm); (case k4 => exact N2'); (case k5 => k_asm); (case kK => first | exact rfl | assumption); (case c1 => first | with_reducible assumption | assumption); (case c2 => first | with_reducible assumption | assumption); (case c3 => first | with_reducible assumption | assumption); (case kd => first | exact room0 (by assumption) (by rfl) | exact room1 (by assumption) (by rfl) | ktr_room); (case ku => first | exact room0 (by assumption) (by rfl) | exact room1 (by assumption) (by rfl) | ktr_units)
  intro r2 news2 hh2 tkk2 FF2 NN2 P2
  first | ((first | refine ex0_3 (P2) ?_ | refine ex1_2 (P2) ?_ | refine ex2_1 (P2) ?_); (try clear P2); intro en2 t2 q2) | obtain ⟨en2, t2, q2⟩ := (P2)
  subst en2
  subst q2
  rw [eled2] at NN2
  first | ((first | refine ex0_5 (tail_lam NN2 hoff l2 l2') ?_ | refine ex1_4 (tail_lam NN2 hoff l2 l2') ?_ | refine ex2_3 (tail_lam NN2 hoff l2 l2') ?_ | refine ex3_2 (tail_lam NN2 hoff l2 l2') ?_); intro R2 hR2 hx2 hoff2 NB2) | obtain ⟨R2, hR2, hx2, hoff2, NB2⟩ := (tail_lam NN2 hoff l2 l2')
  clear NN2 N2 N2'
  have hS2 : ∀ p ∈ ex2 ++ S, p ∈ R2 := fun p hp => (List.mem_append.mp hp).elim (hx2 _) fun h => hR2 _ (hS _ h)
  (try (k_unfold; (try dsimp only)))
  (try dsimp only)
  (try k_fold)
  iterate 2 (all_goals try first | (k_unfold; (try dsimp only)) | (k_end; wrow_close) | walk1 | (dsimp only; walk1))
  simp only [bne_self_eq_false]
  iterate 15 (all_goals try first | (k_unfold; (try dsimp only)) | (k_end; wrow_close) | walk1 | (dsimp only; walk1))
  refine' kla_eval ?d0 ?_
  case d0 => exact rfl
  refine lam_any (ps := us2) (R := (ex2 ++ S)) (clos := [(Str.ofString "numbers", z + 1 + 1 + 1 + 1 + 1 + 1)]) (by k_asm) (by k_asm) (by k_asm) (by kn_code) (by rfl) (.head (List.forall_mem_cons.mpr ⟨(show (80 : Nat) ≠ 198 by decide), List.forall_mem_cons.mpr ⟨(show (73 : Nat) ≠ 198 by decide), hoff2.at (.head _)⟩⟩)) G2 (by rfl) ?_
  intro f3 c3 ol3 vs3 tq3 ctv3 us3 ex3 h3 tk3 F3 N3 G3 m3' d3' e3' l3 l3'
  first | ((first | refine ex0_6 (lam_open N3) ?_ | refine ex1_5 (lam_open N3) ?_ | refine ex2_4 (lam_open N3) ?_ | refine ex3_3 (lam_open N3) ?_); intro led3 eled3 N3' hf3 up3 upx3) | obtain ⟨led3, eled3, N3', hf3, up3, upx3⟩ := (lam_open N3)
  have hm3 : (c3, ol3) ∈ led3 := (List.mem_append.mp m3').elim (upx3 _) fun h => up3 _ (hS2 _ h)
  have hkey3 : ∀ k t, 0 ≤ k → k < (cs.length : Int) → Does w led3 1 30 f3 [.int k t] [] (Keeps1 led3 fun r => ∃ t, r = .int (ordV cs k) t) := fun k t h0 h1 => by
    rw [← map_getD (show k.toNat < cs.length by omega)]
    exact lamnum_does w _ f3 c3 _ ln o6 ol3 _ ctv3 vs3 tq3 _ _ _ _ nv nn (cs.map numL) k t hf3 hm3 d3' e3' (up3 _ (hR2 _ m6)) d6 (up3 _ (hR2 _ hn)) in_ h0 (by rw [List.length_map]; exact h1) (by rw [List.length_map]; omega)
  have hsp3 := le_split (x := numL sd) hso
  have hStop := stopMark
  k_steps
  (rename StopMark => hStop9; clear hStop9)
  unfold Halt
  (try k_fold); refine' Does.use (bisr_does w led3 lr f3 rv rn ks (fun j => ordV cs (ks.getD j 0)) (numL sd) tw tw (cntLe (ordV cs) (numL sd) ks) 1 30 [.ref lr, .int (numL sd) tw] (.inl rfl) hf3 (up3 _ (hR2 _ hr)) ir (by omega) (fun j t hj => hkey3 _ t (hgk j hj).1 (hgk j hj).2) (cntLe_le _ _ _) (fun j hj => Int.not_lt.mpr (hsp3.1 j hj)) (fun j h1 h2 => hsp3.2 j h1 h2)) ?k1 ?k2 ?k3 ?k4 ?k5 ?kK ?c1 ?c2 ?c3 ?kd ?ku ?_; (case k1 => k_asm); (case k2 => k_asm); (case k3 => k_asm); (case k4 => exact N3'); (case k5 => k_asm); (case kK => first | exact rfl | assumption); (case c1 => first | with_reducible assumption | assumption); (case c2 => first | with_reducible assumption | assumption); (case c3 => first | with_reducible assumption | assumption); (case kd => first | exact room0 (by assumption) (by rfl) | exact room1 (by assumption) (by rfl) | ktr_room); (case ku => first | exact room0 (by assumption) (by rfl) | exact room1 (by assumption) (by rfl) | ktr_units)
  intro r3 news3 hh3 tkk3 FF3 NN3 P3
  first | ((first | refine ex0_3 (P3) ?_ | refine ex1_2 (P3) ?_ | refine ex2_1 (P3) ?_); (try clear P3); intro en3 t3 q3) | obtain ⟨en3, t3, q3⟩ := (P3)
  subst en3
  subst q3
  rw [eled3] at NN3
  first | ((first | refine ex0_5 (tail_lam NN3 hoff2 l3 l3') ?_ | refine ex1_4 (tail_lam NN3 hoff2 l3 l3') ?_ | refine ex2_3 (tail_lam NN3 hoff2 l3 l3') ?_ | refine ex3_2 (tail_lam NN3 hoff2 l3 l3') ?_); intro R3 hR3 hx3 hoff3 NB3) | obtain ⟨R3, hR3, hx3, hoff3, NB3⟩ := (tail_lam NN3 hoff2 l3 l3')
  clear NN3 N3 N3'
  have hS3 : ∀ p ∈ ex3 ++ (ex2 ++ S), p ∈ R3 := fun p hp => (List.mem_append.mp hp).elim (hx3 _) fun h => hR3 _ (hS2 _ h)
  (try (k_unfold; (try dsimp only)))
  (try dsimp only)
  (try k_fold)
  iterate 2 (all_goals try first | (k_unfold; (try dsimp only)) | (k_end; wrow_close) | walk1 | (dsimp only; walk1))
  simp only [bne_self_eq_false]
  iterate 3 (all_goals try first | (k_unfold; (try dsimp only)) | (k_end; wrow_close) | walk1 | (dsimp only; walk1))
  exact hret us3 _ R3 _ _ FF3 NB3 (fun p hp => hR3 _ (hR2 _ hp)) hoff3 G3 hS3
end
section
theorem over_sign (c sd : Int) : (overOf (wsOf (leadOf c)) (wsOf (leadOf sd)) < 0 ↔ numL c < numL sd) ∧ (0 < overOf (wsOf (leadOf c)) (wsOf (leadOf sd)) ↔ numL sd < numL c) := by
  first | ((first | refine ex1_7 (lead_RF c) ?_ | refine ex3_5 (lead_RF c) ?_ | refine ex7_1 (lead_RF c) ?_); intro _ _ _ _ _ _ _ r) | obtain ⟨_, _, _, _, _, _, _, r⟩ := (lead_RF c)
  first | ((first | refine ex1_7 (lead_RF sd) ?_ | refine ex3_5 (lead_RF sd) ?_ | refine ex7_1 (lead_RF sd) ?_); intro _ _ _ _ _ _ _ q) | obtain ⟨_, _, _, _, _, _, _, q⟩ := (lead_RF sd)
  exact ovr_sign r q
theorem All2.last {P : Value → Int → Prop} : ∀ {vs : List Value} {cs : List Int}, All2 P vs cs → 0 < cs.length → ∃ us v c, vs = us ++ [v] ∧ P v c
  | _, _, .nil, h => absurd h (by decide)
  | _, _, .cons hp .nil, _ => ⟨[], _, _, rfl, hp⟩
  | _, _, .cons (v := v) _ (.cons (c := c) (cs := cs) hp r), _ => by
    first | ((first | refine ex0_5 (All2.last (All2.cons hp r) (Nat.succ_pos _)) ?_ | refine ex1_4 (All2.last (All2.cons hp r) (Nat.succ_pos _)) ?_ | refine ex2_3 (All2.last (All2.cons hp r) (Nat.succ_pos _)) ?_ | refine ex3_2 (All2.last (All2.cons hp r) (Nat.succ_pos _)) ?_); intro us v' c' e h) | obtain ⟨us, v', c', e, h⟩ := (All2.last (All2.cons hp r) (Nat.succ_pos _))
    exact ⟨v :: us, v', c', by rw [e]; rfl, h⟩
theorem tail4_does (w : World) (z : Nat) (ld lr ll lc : Addr) (us ps : Array Value) (R S S2 : List (Addr × Obj)) (cs ks : List Int) (sd : Int) (tw ta tu : Tok)
    (hc0 : 0 < cs.length) (hc5 : cs.length ≤ 5) (hkl : ks.length = cs.length) (hkin : ∀ k ∈ ks, 0 ≤ k ∧ k < (cs.length : Int)) (hso : SortedBy (ordV cs) ks)
    (H : TF z lr ld ll cs ks sd R) (hoff : OffC C3 R) (hG : TabG lamQ us S) (hS : ∀ p ∈ S, p ∈ R) (hGd : TabG d2iQ ps S2) (hSd : ∀ p ∈ S2, p ∈ R)
    (p : Program) (loose : List Str) (mean : ExcName → Option Value) (mg mb : Str → Option Value) (dp un' : Nat) (gd : Option (List Code)) (fa : Addr) (outer : List Env) (A₀ : Around) (base h₀ : Heap) (m0 : Str → Option Value) (s : Shared) (Q : Flow → Shared → Prop) (E : Value → Shared → Prop)
    (B : Below A₀ base outer h₀) (F : Fr h₀ z s.heap (mapU (.int (cntLe (ordV cs) (numL sd) ks : Int) tu) (mapA (.int (cntLt (ordV cs) (numL sd) ks : Int) ta) (mapW (.int (numL sd) tw) (lawMap ld lr ll lc m0))))) (X : (hd.heap_1 w.params).In h₀)
    (N : News h₀ z s.heap ((198, tabObj us) :: (80, tabObj ps) :: (73, tabObj #[]) :: R)) (T : Top p loose mean mg mb h₀)
    (C1 : CodeHd base 77 73) (C2 : CodeHd base 84 80) (C3' : CodeHd base 200 198) (hd' : dp + 100 < recursionLimit) (hu : un' + 2000 < cLine)
    (hret : ∀ m' ps' qs' us' news' h' tk', Fr h₀ z h' m' → News h₀ z h' news' → (80, tabObj ps') ∈ news' → (73, tabObj qs') ∈ news' → (198, tabObj us') ∈ news' → Q (.ret (.bool true)) { s with heap := h', toks := tk' }) :
    wpAny (model PySem.Challenge.rw_pg0313_01.row.prog w) (lawAround dp un' gd z fa outer) (execs (lawIn.1.2.drop 17) (lawEnv z fa)) Q E s := by
  revert X
  w_top off
  k_fill
  intro X
  dsimp only [lawAround, lawEnv, lawIn, lawMap, mapW, mapA, mapU, List.drop] at F hret ⊢
  have kMark := kstMark
  obtain ⟨rv, dv, lv, nv, kv, wv, zv, rn, dn, lnn, nn, kn, wn, zn, ln, lk, lw, lz, af, o1, o2, o4, o5, o6, o7, sx, stx, hr, ir, hdu, id_, hl, il, m7, d7, hw, iw, m6, d6, hn, in_, m2, d2, hk, ik, m4, d4, hz, iz, m5, d5, hfo, m1, d1, hsx⟩ := H
  have hcl : cntLe (ordV cs) (numL sd) ks ≤ ks.length := cntLe_le _ _ _
  have hcl2 : cntLt (ordV cs) (numL sd) ks ≤ ks.length := cntLt_le _ _ _
  have hgk : ∀ j, j < ks.length → 0 ≤ ks.getD j 0 ∧ ks.getD j 0 < (cs.length : Int) := fun j hj => by
    rw [List.getD_eq_getElem?_getD, List.getElem?_eq_getElem hj]
    exact hkin _ (List.getElem_mem hj)
  iterate 12 (all_goals try first | (k_unfold; (try dsimp only)) | (k_end; wrow_close) | walk1 | (dsimp only; walk1))
  refine' kla_eval ?d0 ?_
  case d0 => exact rfl
  refine lam_any (ps := us) (R := S) (clos := [(Str.ofString "whites", z + 1 + 1 + 1 + 1 + 1 + 1 + 1), (Str.ofString "found", z + 1 + 1 + 1 + 1 + 1)]) (by k_asm) (by k_asm) (by k_asm) (by kn_code) (by rfl) (.head (List.forall_mem_cons.mpr ⟨(show (80 : Nat) ≠ 198 by decide), List.forall_mem_cons.mpr ⟨(show (73 : Nat) ≠ 198 by decide), hoff.at (.head _)⟩⟩)) hG (by rfl) ?_
  intro f2 c2 ol2 vs2 tq2 ctv2 us2 ex2 h2 tk2 F2 N2 G2 m2' d2' e2' l2 l2'
  first | ((first | refine ex0_6 (lam_open N2) ?_ | refine ex1_5 (lam_open N2) ?_ | refine ex2_4 (lam_open N2) ?_ | refine ex3_3 (lam_open N2) ?_); intro led2 eled2 N2' hf2 up2 upx2) | obtain ⟨led2, eled2, N2', hf2, up2, upx2⟩ := (lam_open N2)
  have hm2 : (c2, ol2) ∈ led2 := (List.mem_append.mp m2').elim (upx2 _) fun h => up2 _ (hS _ h)
  have hkey2 : ∀ k t, 0 ≤ k → k < (cs.length : Int) → Does w led2 6 160 f2 [.int k t] [] (Keeps1 led2 fun r => ∃ t, r = .int (overOf (wsOf (leadOf (cs.getD k.toNat 0))) (wsOf (leadOf sd))) t) := fun k t h0 h1 =>
    lamover_does w _ f2 c2 _ _ lw af o7 o5 ol2 _ ctv2 vs2 tq2 _ _ _ _ _ _ _ wv wn cs _ k t hf2 hm2 d2' e2' (up2 _ m7) d7 (up2 _ m5) d5 (up2 _ hw) (iw.mono fun v c => WhiteV.mono (fun p hp => up2 _ hp) v c) (hfo.mono fun p hp => up2 _ hp) (lead_wok _) h0 h1 (by omega)
  have hsp2 := lt_split (x := numL sd) hso
  have hStop := stopMark
  k_steps
  (rename StopMark => hStop9; clear hStop9)
  unfold Halt
  (try k_fold); refine' Does.use (bisl_does w led2 lr f2 rv rn ks (fun j => overOf (wsOf (leadOf (cs.getD (ks.getD j 0).toNat 0))) (wsOf (leadOf sd))) 0 _ 0 (cntLt (ordV cs) (numL sd) ks) 6 160 _ (.inl rfl) hf2 (up2 _ hr) ir (by omega) (fun j t hj => hkey2 _ t (hgk j hj).1 (hgk j hj).2) (cntLt_le _ _ _) (fun j hj => (over_sign _ sd).1.mpr (hsp2.1 j hj)) (fun j h1 h2 => fun hc => hsp2.2 j h1 h2 ((over_sign _ sd).1.mp hc))) ?k1 ?k2 ?k3 ?k4 ?k5 ?kK ?c1 ?c2 ?c3 ?kd ?ku ?_; (case k1 => k_asm); (case k2 => k_asm); (case k3 => k_asm); (case k4 => exact N2'); (case k5 => k_asm); (case kK => first | exact rfl | assumption); (case c1 => first | with_reducible assumption | assumption); (case c2 => first | with_reducible assumption | assumption); (case c3 => first | with_reducible assumption | assumption); (case kd => first | exact room0 (by assumption) (by rfl) | exact room1 (by assumption) (by rfl) | ktr_room); (case ku => first | exact room0 (by assumption) (by rfl) | exact room1 (by assumption) (by rfl) | ktr_units)
  intro r2 news2 hh2 tkk2 FF2 NN2 P2
  first | ((first | refine ex0_3 (P2) ?_ | refine ex1_2 (P2) ?_ | refine ex2_1 (P2) ?_); (try clear P2); intro en2 t2 q2) | obtain ⟨en2, t2, q2⟩ := (P2)
  subst en2
  subst q2
  rw [eled2] at NN2
  first | ((first | refine ex0_5 (tail_lam NN2 hoff l2 l2') ?_ | refine ex1_4 (tail_lam NN2 hoff l2 l2') ?_ | refine ex2_3 (tail_lam NN2 hoff l2 l2') ?_ | refine ex3_2 (tail_lam NN2 hoff l2 l2') ?_); intro R2 hR2 hx2 hoff2 NB2) | obtain ⟨R2, hR2, hx2, hoff2, NB2⟩ := (tail_lam NN2 hoff l2 l2')
  clear NN2 N2 N2'
  have hS2 : ∀ p ∈ ex2 ++ S, p ∈ R2 := fun p hp => (List.mem_append.mp hp).elim (hx2 _) fun h => hR2 _ (hS _ h)
  (try (k_unfold; (try dsimp only)))
  (try dsimp only)
  (try k_fold)
  iterate 2 (all_goals try first | (k_unfold; (try dsimp only)) | (k_end; wrow_close) | walk1 | (dsimp only; walk1))
  simp only [bne_self_eq_false]
  iterate 15 (all_goals try first | (k_unfold; (try dsimp only)) | (k_end; wrow_close) | walk1 | (dsimp only; walk1))
  refine' kla_eval ?d0 ?_
  case d0 => exact rfl
  refine lam_any (ps := us2) (R := (ex2 ++ S)) (clos := [(Str.ofString "whites", z + 1 + 1 + 1 + 1 + 1 + 1 + 1), (Str.ofString "found", z + 1 + 1 + 1 + 1 + 1)]) (by k_asm) (by k_asm) (by k_asm) (by kn_code) (by rfl) (.head (List.forall_mem_cons.mpr ⟨(show (80 : Nat) ≠ 198 by decide), List.forall_mem_cons.mpr ⟨(show (73 : Nat) ≠ 198 by decide), hoff2.at (.head _)⟩⟩)) G2 (by rfl) ?_
  intro f3 c3 ol3 vs3 tq3 ctv3 us3 ex3 h3 tk3 F3 N3 G3 m3' d3' e3' l3 l3'
  first | ((first | refine ex0_6 (lam_open N3) ?_ | refine ex1_5 (lam_open N3) ?_ | refine ex2_4 (lam_open N3) ?_ | refine ex3_3 (lam_open N3) ?_); intro led3 eled3 N3' hf3 up3 upx3) | obtain ⟨led3, eled3, N3', hf3, up3, upx3⟩ := (lam_open N3)
  have hm3 : (c3, ol3) ∈ led3 := (List.mem_append.mp m3').elim (upx3 _) fun h => up3 _ (hS2 _ h)
  have hkey3 : ∀ k t, 0 ≤ k → k < (cs.length : Int) → Does w led3 6 160 f3 [.int k t] [] (Keeps1 led3 fun r => ∃ t, r = .int (overOf (wsOf (leadOf (cs.getD k.toNat 0))) (wsOf (leadOf sd))) t) := fun k t h0 h1 =>
    lamover_does w _ f3 c3 _ _ lw af o7 o5 ol3 _ ctv3 vs3 tq3 _ _ _ _ _ _ _ wv wn cs _ k t hf3 hm3 d3' e3' (up3 _ (hR2 _ m7)) d7 (up3 _ (hR2 _ m5)) d5 (up3 _ (hR2 _ hw)) (iw.mono fun v c => WhiteV.mono (fun p hp => up3 _ (hR2 _ hp)) v c) (hfo.mono fun p hp => up3 _ (hR2 _ hp)) (lead_wok _) h0 h1 (by omega)
  have hsp3 := le_split (x := numL sd) hso
  have hStop := stopMark
  k_steps
  (rename StopMark => hStop9; clear hStop9)
  unfold Halt
  (try k_fold); refine' Does.use (bisr_does w led3 lr f3 rv rn ks (fun j => overOf (wsOf (leadOf (cs.getD (ks.getD j 0).toNat 0))) (wsOf (leadOf sd))) 0 _ 0 (cntLe (ordV cs) (numL sd) ks) 6 160 _ (.inl rfl) hf3 (up3 _ (hR2 _ hr)) ir (by omega) (fun j t hj => hkey3 _ t (hgk j hj).1 (hgk j hj).2) (cntLe_le _ _ _) (fun j hj => fun hc => Int.not_lt.mpr (hsp3.1 j hj) ((over_sign _ sd).2.mp hc)) (fun j h1 h2 => (over_sign _ sd).2.mpr (hsp3.2 j h1 h2))) ?k1 ?k2 ?k3 ?k4 ?k5 ?kK ?c1 ?c2 ?c3 ?kd ?ku ?_; (case k1 => k_asm); (case k2 => k_asm); (case k3 => k_asm); (case k4 => exact N3'); (case k5 => k_asm); (case kK => first | exact rfl | assumption); (case c1 => first | with_reducible assumption | assumption); (case c2 => first | with_reducible assumption | assumption); (case c3 => first | with_reducible assumption | assumption); (case kd => first | exact room0 (by assumption) (by rfl) | exact room1 (by assumption) (by rfl) | ktr_room); (case ku => first | exact room0 (by assumption) (by rfl) | exact room1 (by assumption) (by rfl) | ktr_units)
  intro r3 news3 hh3 tkk3 FF3 NN3 P3
  first | ((first | refine ex0_3 (P3) ?_ | refine ex1_2 (P3) ?_ | refine ex2_1 (P3) ?_); (try clear P3); intro en3 t3 q3) | obtain ⟨en3, t3, q3⟩ := (P3)
  subst en3
  subst q3
  rw [eled3] at NN3
  first | ((first | refine ex0_5 (tail_lam NN3 hoff2 l3 l3') ?_ | refine ex1_4 (tail_lam NN3 hoff2 l3 l3') ?_ | refine ex2_3 (tail_lam NN3 hoff2 l3 l3') ?_ | refine ex3_2 (tail_lam NN3 hoff2 l3 l3') ?_); intro R3 hR3 hx3 hoff3 NB3) | obtain ⟨R3, hR3, hx3, hoff3, NB3⟩ := (tail_lam NN3 hoff2 l3 l3')
  clear NN3 N3 N3'
  have hS3 : ∀ p ∈ ex3 ++ (ex2 ++ S), p ∈ R3 := fun p hp => (List.mem_append.mp hp).elim (hx3 _) fun h => hR3 _ (hS2 _ h)
  (try (k_unfold; (try dsimp only)))
  (try dsimp only)
  (try k_fold)
  iterate 2 (all_goals try first | (k_unfold; (try dsimp only)) | (k_end; wrow_close) | walk1 | (dsimp only; walk1))
  simp only [bne_self_eq_false]
  first | ((first | refine ex1_7 (il.last hc0) ?_ | refine ex3_5 (il.last hc0) ?_ | refine ex7_1 (il.last hc0) ?_); intro lvs lv9 lc9 hr9_0 xl txl hr9_1 hxl; subst hr9_0; subst hr9_1) | obtain ⟨lvs, lv9, lc9, rfl, xl, txl, rfl, hxl⟩ := (il.last hc0)
  replace hl := hR3 _ (hR2 _ hl)
  replace m1 := hR3 _ (hR2 _ m1)
  have hStop := stopMark
  k_steps
  (rename StopMark => hStop9; clear hStop9)
  unfold Halt
  have hO80 : ∀ p ∈ ((198 : Addr), tabObj us3) :: R3, p.1 ≠ 80 := List.forall_mem_cons.mpr ⟨(show (198 : Nat) ≠ 80 by decide), hoff3.at (.tail _ (.head _))⟩
  have hO73 : ∀ p ∈ ((198 : Addr), tabObj us3) :: R3, p.1 ≠ 73 := List.forall_mem_cons.mpr ⟨(show (198 : Nat) ≠ 73 by decide), hoff3.at (.tail _ (.tail _ (.head _)))⟩
  have NP : News h₀ z hh3 ((80, tabObj ps) :: (73, tabObj #[]) :: (198, tabObj us3) :: R3) := cb_drop NB3 fun p hp => by
    (revert p; (repeat' first | refine List.forall_mem_cons.mpr ⟨?_, ?_⟩ | refine List.forall_mem_append.mpr ⟨?_, ?_⟩); all_goals (try intro p hp); all_goals (repeat' first | assumption | exact List.Mem.head _ | exact List.mem_append_left _ (by assumption) | exact List.mem_append_right _ (by assumption) | exact absurd hp List.not_mem_nil | refine List.Mem.tail _ ?_ | refine List.mem_append_right _ ?_))
  (try k_fold); refine' Does.use (parted_does w ((198, tabObj us3) :: R3) S2 ps #[] xl sx txl stx _ _ _ _ (leadOk lc9) (leadOk sd) hxl hsx hGd TabG.nil (fun p hp => .tail _ (hR3 _ (hR2 _ (hSd _ hp)))) hO80 hO73 _ (.head _)) ?k1 ?k2 ?k3 ?k4 ?k5 ?kK ?c1 ?c2 ?c3 ?kd ?ku ?_; (case k1 => k_asm); (case k2 => k_asm); (case k3 => k_asm); (case k4 => exact NP); (case k5 => k_asm); (case kK => first | exact rfl | assumption); (case c1 => first | with_reducible assumption | assumption); (case c2 => first | with_reducible assumption | assumption); (case c3 => first | with_reducible assumption | assumption); (case kd => first | exact room0 (by assumption) (by rfl) | exact room1 (by assumption) (by rfl) | ktr_room); (case ku => first | exact room0 (by assumption) (by rfl) | exact room1 (by assumption) (by rfl) | ktr_units)
  intro r9 news9 h9 tk9 F9 N9 P9
  first | ((first | refine ex0_6 (P9) ?_ | refine ex1_5 (P9) ?_ | refine ex2_4 (P9) ?_ | refine ex3_3 (P9) ?_); (try clear P9); intro q9 ps9 qs9 e80 e73 e198) | obtain ⟨q9, ps9, qs9, e80, e73, e198⟩ := (P9)
  subst q9
  exact hret _ _ _ _ _ _ _ F9 N9 e80 e73 e198
end
section
theorem tail_does (w : World) (z : Nat) (ld lr ll lc ln lk lw : Addr) (oc o7 o6 o5 o4 o2 o1 : Obj) (us ps : Array Value) (rv dv lv nv kv wv : List Value) (rn dn lnn nn kn wn : Nat) (R S S2 : List (Addr × Obj)) (cs ks : List Int) (sx : Str) (stx : Tok) (sd : Int) (v3 v4 v5 : Option Value)
    (hc0 : 0 < cs.length) (hc5 : cs.length ≤ 5) (hl : (ll, W.listOf lv.toArray lnn) ∈ R) (il : LeadsAre lv cs)
    (m7 : (z + 1 + 1 + 1 + 1 + 1 + 1 + 1, o7) ∈ R) (d7 : o7.data = .cell (some (.ref lw))) (hw : (lw, W.listOf wv.toArray wn) ∈ R) (iw : All2 (WhiteV R) wv cs)
    (m6 : (z + 1 + 1 + 1 + 1 + 1 + 1, o6) ∈ R) (d6 : o6.data = .cell (some (.ref ln))) (hn : (ln, W.listOf nv.toArray nn) ∈ R) (in_ : IntsAre nv (cs.map numL))
    (m2 : (z + 1 + 1, o2) ∈ R) (d2 : o2.data = .cell (some (.ref lk))) (hk : (lk, W.listOf kv.toArray kn) ∈ R) (ik : All2 (ColV R) kv cs)
    (m1 : (z + 1, o1) ∈ R) (d1 : o1.data = .cell (some (.str sx stx))) (hsx : KStt.codes sx = leadOf sd)
    (d3 : oc.data = .cell v3) (d4 : o4.data = .cell v4) (d5 : o5.data = .cell v5) (hG : TabG lamQ us S) (hS : ∀ p ∈ S, p ∈ R) (hG2 : TabG d2iQ ps S2) (hS2 : ∀ p ∈ S2, p ∈ R)
    (hoff : OffC (C8 z lr ld) R) (z198 : 198 < z) (n1 : @Ne Nat 198 lr) (n2 : @Ne Nat 198 ld) (n3 : @Ne Nat lr ld) (g1 : z + 1 + 1 + 1 + 1 + 1 + 1 + 1 < lr) (g2 : z + 1 + 1 + 1 + 1 + 1 + 1 + 1 < ld)
    (ir : IntsAre rv ks) (id_ : IntsAre dv ks) (hkl : ks.length = cs.length) (hkin : ∀ k ∈ ks, 0 ≤ k ∧ k < (cs.length : Int)) (hso : SortedBy (ordV cs) ks)
    (p : Program) (loose : List Str) (mean : ExcName → Option Value) (mg mb : Str → Option Value) (dp un' : Nat) (gd : Option (List Code)) (fa : Addr) (outer : List Env) (A₀ : Around) (base h₀ : Heap) (m0 : Str → Option Value) (s : Shared) (Q : Flow → Shared → Prop) (E : Value → Shared → Prop)
    (B : Below A₀ base outer h₀) (F : Fr h₀ z s.heap (lawMap ld lr ll lc m0)) (X : (hd.heap_1 w.params).In h₀)
    (N : News h₀ z s.heap ((z + 1 + 1 + 1, oc) :: (198, tabObj us) :: (lr, W.listOf rv.toArray rn) :: (ld, W.listOf dv.toArray dn) :: (80, tabObj ps) :: (73, tabObj #[]) :: (z + 1 + 1 + 1 + 1 + 1, o5) :: (z + 1 + 1 + 1 + 1, o4) :: R)) (T : Top p loose mean mg mb h₀)
    (C1 : CodeHd base 77 73) (C2 : CodeHd base 84 80) (C3' : CodeHd base 200 198) (hd' : dp + 100 < recursionLimit) (hu : un' + 2000 < cLine)
    (hret : ∀ m' ps' qs' us' news' h' tk', Fr h₀ z h' m' → News h₀ z h' news' → (80, tabObj ps') ∈ news' → (73, tabObj qs') ∈ news' → (198, tabObj us') ∈ news' → Q (.ret (.bool true)) { s with heap := h', toks := tk' }) :
    wpAny (model PySem.Challenge.rw_pg0313_01.row.prog w) (lawAround dp un' gd z fa outer) (execs (lawIn.1.2.drop 9) (lawEnv z fa)) Q E s := by
  refine tail1_does w z ld lr ll lc ln lk lw oc o7 o6 o5 o4 o2 o1 us ps rv dv lv nv kv wv rn dn lnn nn kn wn R S S2 cs ks sx stx sd v4 v5 hl il m7 d7 hw iw m6 d6 hn in_ m2 d2 hk ik m1 d1 hsx d4 d5 hS hG2 hS2 hoff z198 g1 g2 ir id_ p loose mean mg mb dp un' gd fa outer A₀ base h₀ m0 s Q E B F X N T C1 C2 C3' hd' hu ?_
  intro R1 S1 ps1 tw h1 tk1 F1 N1 off1 H1 hS1 hG1 hSd1
  refine tail2_does w z ld lr ll lc us ps1 #[] R1 cs ks sd tw hc5 hkl hkin H1 off1 p loose mean mg mb dp un' gd fa outer A₀ base h₀ m0 _ Q E B F1 X N1 T C1 C2 C3' hd' hu ?_
  intro ta tu h2 tk2 F2 N2
  refine tail3_does w z ld lr ll lc us ps1 #[] R1 S cs ks sd tw ta tu hc5 hkl hkin hso H1 off1 hG hS1 p loose mean mg mb dp un' gd fa outer A₀ base h₀ m0 _ Q E B F2 X N2 T C1 C2 C3' hd' hu ?_
  intro us3 S3 R3 h3 tk3 F3 N3 up3 off3 hG3 hS3
  exact tail4_does w z ld lr ll lc us3 ps1 R3 S3 S1 cs ks sd tw ta tu hc0 hc5 hkl hkin hso (H1.mono up3) off3 hG3 hS3 hG1 (fun q hq => up3 _ (hSd1 _ hq)) p loose mean mg mb dp un' gd fa outer A₀ base h₀ m0 _ Q E B F3 X N3 T C1 C2 C3' hd' hu hret
end
section
theorem law_holds : PySem.Challenge.rw_pg0313_01.Holds := hd (by
  k_go0
  (all_goals try k_fold)
  dsimp only at *
  generalize hz : Array.size _ = z at *
  have kMark := kstMark
  (try k_fold)
  iterate 22 (all_goals try first | (k_unfold; (try dsimp only)) | (k_end; wrow_close) | walk1 | (dsimp only; walk1))
  rename 73 < _ ∧ 80 < _ ∧ 198 < _ => hz8
  rename IntsAre _ ([1766, 929] ++ List.take 3 _) => i_cs
  rename List (Int) => script
  first | ((first | refine ex0_2 (⟨_, rfl⟩ : ∃ cs, cs = [1766, 929] ++ List.take 3 script) ?_ | refine ex1_1 (⟨_, rfl⟩ : ∃ cs, cs = [1766, 929] ++ List.take 3 script) ?_); intro cs ecs) | obtain ⟨cs, ecs⟩ := (⟨_, rfl⟩ : ∃ cs, cs = [1766, 929] ++ List.take 3 script)
  rw [← ecs] at i_cs
  have hcl : cs.length ≤ 5 := by rw [ecs, List.length_append, List.length_take]; simp only [List.length_cons, List.length_nil]; omega
  refine LCg.Assign_ListComp_U (F₀ := by k_asm) (by rfl) (by with_unfolding_all rfl) (by rfl) (by decide) (by rfl) (by decide) (by rfl) (by rfl) (by rfl) ?_
  iterate 1 (all_goals try first | (k_unfold; (try dsimp only)) | (k_end; wrow_close) | walk1 | (dsimp only; walk1))
  refine LCg.CompSrc.ledger (by rfl) (by k_asm) (by k_asm) (.head _) ?hsl ?_
  case hsl => rw [List.size_toArray, i_cs.length]; exact Nat.le_trans hcl (by decide)
  intro g'
  refine my_turns0 (fun i ys => LeadsAre ys (cs.take i)) .nil ?turn1 ?fin1
  case turn1 =>
    intro i v ys I oI C oC D m₂ h tk E' hi hv hJ hC hx F₁ N₁ off ne
    first | ((first | refine ex0_4 (ints_at i_cs (by simpa using hv)) ?_ | refine ex1_3 (ints_at i_cs (by simpa using hv)) ?_ | refine ex2_2 (ints_at i_cs (by simpa using hv)) ?_); intro c tc hc hr9_0; subst hr9_0) | obtain ⟨c, tc, hc, rfl⟩ := (ints_at i_cs (by simpa using hv))
    have hStop := stopMark
    k_steps
    (rename StopMark => hStop9; clear hStop9)
    unfold Halt
    (try k_fold); refine' Does.use (lead_does _ _ _ _) ?k1 ?k2 ?k3 ?k4 ?k5 ?kK ?c1 ?c2 ?c3 ?kd ?ku ?_; (case k1 => k_asm); (case k2 => k_asm); (case k3 => k_asm); (case k4 => first | k_asm | exact news_swap (by k_asm)); (case k5 => k_asm); (case kK => first | exact rfl | assumption); (case c1 => first | with_reducible assumption | assumption); (case c2 => first | with_reducible assumption | assumption); (case c3 => first | with_reducible assumption | assumption); (case kd => first | exact room0 (by assumption) (by rfl) | exact room1 (by assumption) (by rfl) | ktr_room); (case ku => first | exact room0 (by assumption) (by rfl) | exact room1 (by assumption) (by rfl) | ktr_units)
    intro r9 news9 h9 tk9 F9 N9 P9
    first | ((first | refine ex0_5 (P9) ?_ | refine ex1_4 (P9) ?_ | refine ex2_3 (P9) ?_ | refine ex3_2 (P9) ?_); (try clear P9); intro e9 sx stx q9 hcx) | obtain ⟨e9, sx, stx, q9, hcx⟩ := (P9)
    subst e9
    subst q9
    refine LCg.CompEnd.intro F9 N9 _ (fun p hp => hp) off (.inr ⟨_, .head _, rfl, _, rfl⟩) ⟨rfl, ?_⟩
    rw [take_snoc hc]
    exact hJ.snoc ⟨_, _, rfl, hcx⟩
  case fin1 =>
    intro ys hJ
    rw [List.size_toArray, i_cs.length, List.take_length] at hJ
    unfold LCg.FinA
    intro ll h9 tk9 F9 N9 o9
    have hllC : ll ∉ Cz z := notin_of (Off1.mem o9) (by repeat' first | exact List.forall_mem_nil _ | refine List.forall_mem_cons.mpr ⟨⟨_, by k_mem⟩, ?_⟩)
    simp only [LCg.Off1, and_true] at o9
    have hStop := stopMark
    k_steps
    (rename StopMark => hStop9; clear hStop9)
    unfold Halt
    (try k_fold); refine' Does.use (lead_does _ _ _ _) ?k1 ?k2 ?k3 ?k4 ?k5 ?kK ?c1 ?c2 ?c3 ?kd ?ku ?_; (case k1 => k_asm); (case k2 => k_asm); (case k3 => k_asm); (case k4 => first | k_asm | exact news_swap (by k_asm)); (case k5 => k_asm); (case kK => first | exact rfl | assumption); (case c1 => first | with_reducible assumption | assumption); (case c2 => first | with_reducible assumption | assumption); (case c3 => first | with_reducible assumption | assumption); (case kd => first | exact room0 (by assumption) (by rfl) | exact room1 (by assumption) (by rfl) | ktr_room); (case ku => first | exact room0 (by assumption) (by rfl) | exact room1 (by assumption) (by rfl) | ktr_units)
    intro r9 news9 h8 tk8 F8 N8 P9
    first | ((first | refine ex0_5 (P9) ?_ | refine ex1_4 (P9) ?_ | refine ex2_3 (P9) ?_ | refine ex3_2 (P9) ?_); (try clear P9); intro e9 sx stx q9 hcs) | obtain ⟨e9, sx, stx, q9, hcs⟩ := (P9)
    replace e9 := e9.symm
    subst e9
    subst q9
    clear F9 N9
    (try (k_unfold; (try dsimp only)))
    (try dsimp only)
    (try k_fold)
    iterate 4 (all_goals try first | (k_unfold; (try dsimp only)) | (k_end; wrow_close) | walk1 | (dsimp only; walk1))
    rename News _ _ _ _ => lN
    first | ((first | refine ex0_7 (std_one lN hllC (not_Cz_gt (by first | exact And.left (And.right (by assumption)) | omega) hz8.2.2)) ?_ | refine ex1_6 (std_one lN hllC (not_Cz_gt (by first | exact And.left (And.right (by assumption)) | omega) hz8.2.2)) ?_ | refine ex2_5 (std_one lN hllC (not_Cz_gt (by first | exact And.left (And.right (by assumption)) | omega) hz8.2.2)) ?_ | refine ex5_2 (std_one lN hllC (not_Cz_gt (by first | exact And.left (And.right (by assumption)) | omega) hz8.2.2)) ?_); intro T R eT hll hlc hoff N1) | obtain ⟨T, R, eT, hll, hlc, hoff, N1⟩ := (std_one lN hllC (not_Cz_gt (by first | exact And.left (And.right (by assumption)) | omega) hz8.2.2))
    clear lN o9
    have hCT : ∀ a ∈ Cz z, a = 80 ∨ ∃ q ∈ T, q.1 = a := by rw [eT]; exact Tz_has _ _ _ _ _ _ _ _ _ _
    have hT80 : ∀ p ∈ T, p.1 ≠ 80 := by rw [eT]; exact Tz_off hz8.2.1
    have hJl := hJ.length
    rename Fr _ _ _ _ => lF
    first | ((first | refine ex0_2 (frame_cut lF) ?_ | refine ex1_1 (frame_cut lF) ?_); intro m0 lF0) | obtain ⟨m0, lF0⟩ := (frame_cut lF)
    clear lF
    refine LCg.ListComp_U (F₀ := by k_asm) (by with_unfolding_all rfl) (by decide) (by rfl) (by decide) (by rfl) ?_
    iterate 1 (all_goals try first | (k_unfold; (try dsimp only)) | (k_end; wrow_close) | walk1 | (dsimp only; walk1))
    refine LCg.CompSrc.ledger (by rfl) (by k_asm) (by k_asm) (by k_mem) ?hsl2 ?_
    case hsl2 => rw [List.size_toArray, hJl]; exact Nat.le_trans hcl (by decide)
    intro g'
    refine my_turns (fun i ys nx => ∃ R', nx = (80, tabObj #[]) :: (T ++ R') ∧ OffC (Cz z) R' ∧ (∀ p ∈ R, p ∈ R') ∧ All2 (WhiteV R') ys (cs.take i)) ⟨R, rfl, hoff, fun _ h => h, .nil⟩ ?turn2 ?fin2
    case turn2 =>
      intro i v ys2 nx I oI C oC D m₂ h tk E' hi hv hp9_15 hC hx F₁ N₁ off ne
      first | ((first | refine ex0_5 (hp9_15) ?_ | refine ex1_4 (hp9_15) ?_ | refine ex2_3 (hp9_15) ?_ | refine ex3_2 (hp9_15) ?_); (try clear hp9_15); intro R' hr9_0 hoff' hsub hJ2; subst hr9_0) | obtain ⟨R', rfl, hoff', hsub, hJ2⟩ := (hp9_15)
      first | ((first | refine ex0_6 (hJ.at (by simpa using hv)) ?_ | refine ex1_5 (hJ.at (by simpa using hv)) ?_ | refine ex2_4 (hJ.at (by simpa using hv)) ?_ | refine ex3_3 (hJ.at (by simpa using hv)) ?_); intro c hc x tx hr9_0 ecx; subst hr9_0) | obtain ⟨c, hc, x, tx, rfl, ecx⟩ := (hJ.at (by simpa using hv))
      have hxl := lead_short ecx
      have hStop := stopMark
      k_steps
      (rename StopMark => hStop9; clear hStop9)
      unfold Halt
      (try k_fold); refine' Does.use (white_does _ _ _ _ (mark_len x hxl)) ?k1 ?k2 ?k3 ?k4 ?k5 ?kK ?c1 ?c2 ?c3 ?kd ?ku ?_; (case k1 => k_asm); (case k2 => k_asm); (case k3 => k_asm); (case k4 => first | k_asm | exact news_swap (by k_asm)); (case k5 => k_asm); (case kK => first | exact rfl | assumption); (case c1 => first | with_reducible assumption | assumption); (case c2 => first | with_reducible assumption | assumption); (case c3 => first | with_reducible assumption | assumption); (case kd => first | exact room0 (by assumption) (by rfl) | exact room1 (by assumption) (by rfl) | ktr_room); (case ku => first | exact room0 (by assumption) (by rfl) | exact room1 (by assumption) (by rfl) | ktr_units)
      intro r9 news9 h9 tk9 F9 N9 P9
      first | ((first | refine ex0_6 (P9) ?_ | refine ex1_5 (P9) ?_ | refine ex2_4 (P9) ?_ | refine ex3_3 (P9) ?_); (try clear P9); intro a ex q9 e9 o9 hW) | obtain ⟨a, ex, q9, e9, o9, hW⟩ := (P9)
      subst e9
      subst q9
      rw [lead_ws ecx] at hW
      refine compEnd_grow F9 (news_ex3 N9) (fun p hp q hq => o9 p hp q (mem3 hq)) off (.inr ⟨_, .tail _ (List.mem_append_right _ (List.mem_append_right _ (hsub _ hll))), rfl, _, rfl⟩) ⟨ex ++ R', rfl, (off_ex o9 hCT).app hoff', fun p hp => List.mem_append_right _ (hsub p hp), ?_⟩
      rw [take_snoc hc]
      exact (hJ2.mono fun v c => WhiteV.mono (fun p hp => List.mem_append_right _ hp) v c).snoc ⟨a, rfl, hW.mono fun p hp => List.mem_append_left _ hp⟩
    case fin2 =>
      intro ys2 nx hp9_2
      first | ((first | refine ex0_5 (hp9_2) ?_ | refine ex1_4 (hp9_2) ?_ | refine ex2_3 (hp9_2) ?_ | refine ex3_2 (hp9_2) ?_); (try clear hp9_2); intro R2 hr9_0 hoff2 hsub2 hJ2; subst hr9_0) | obtain ⟨R2, rfl, hoff2, hsub2, hJ2⟩ := (hp9_2)
      rw [List.size_toArray, hJl, List.take_length] at hJ2
      unfold LCg.FinE
      intro lw h9 tk9 F9 N9 o9
      have hlwC : lw ∉ Cz z := off1_Cz (Off1.mem o9) hCT
      subst eT
      simp only [LCg.Off1, List.cons_append, List.nil_append] at o9 N9
      clear N1
      have p7 := hoff2.at (a := z + 1 + 1 + 1 + 1 + 1 + 1 + 1) (.tail _ (.tail _ (.tail _ (.head _))))
      iterate 3 (all_goals try first | (k_unfold; (try dsimp only)) | (k_end; wrow_close) | walk1 | (dsimp only; walk1))
      refine LCg.ListComp_U (F₀ := by k_asm) (by with_unfolding_all rfl) (by decide) (by rfl) (by decide) (by rfl) ?_
      iterate 1 (all_goals try first | (k_unfold; (try dsimp only)) | (k_end; wrow_close) | walk1 | (dsimp only; walk1))
      rename News _ _ _ (_ :: (80, _) :: _) => lN
      first | ((first | refine ex0_7 (std_two lN hlwC hoff2) ?_ | refine ex1_6 (std_two lN hlwC hoff2) ?_ | refine ex2_5 (std_two lN hlwC hoff2) ?_ | refine ex5_2 (std_two lN hlwC hoff2) ?_); intro T R3 eT hlw hsub3 hoff3 N2) | obtain ⟨T, R3, eT, hlw, hsub3, hoff3, N2⟩ := (std_two lN hlwC hoff2)
      clear lN o9
      replace hll := hsub3 _ (hsub2 _ hll)
      replace hlc := hsub3 _ (hsub2 _ hlc)
      replace hJ2 := hJ2.mono fun v c => WhiteV.mono hsub3 v c
      clear hsub2 hsub3 hoff hoff2 hCT hT80 p7
      have hCT : ∀ a ∈ Cz z, a = 80 ∨ ∃ q ∈ T, q.1 = a := by rw [eT]; exact Tz_has _ _ _ _ _ _ _ _ _ _
      have hT80 : ∀ p ∈ T, p.1 ≠ 80 := by rw [eT]; exact Tz_off hz8.2.1
      have hJ2l := hJ2.length
      refine LCg.CompSrc.ledger (by rfl) (by k_asm) (by k_asm) (by k_mem) ?hsl3 ?_
      case hsl3 => rw [List.size_toArray, hJ2l]; exact Nat.le_trans hcl (by decide)
      intro g'
      refine my_turns (fun i ys nx => ∃ ps' R' S', nx = (80, tabObj ps') :: (T ++ R') ∧ OffC (Cz z) R' ∧ (∀ p ∈ R3, p ∈ R') ∧ (∀ p ∈ S', p ∈ R') ∧ TabG d2iQ ps' S' ∧ IntsAre ys ((cs.take i).map numL)) ⟨#[], R3, [], rfl, hoff3, fun _ h => h, (fun _ h => nomatch h), TabG.nil, .nil⟩ ?turn3 ?fin3
      case turn3 =>
        intro i v ys3 nx I oI C oC D m₂ h tk E' hi hv hp9_15 hC hx F₁ N₁ off ne
        first | ((first | refine ex0_9 (hp9_15) ?_ | refine ex3_6 (hp9_15) ?_ | refine ex4_5 (hp9_15) ?_ | refine ex6_3 (hp9_15) ?_); (try clear hp9_15); intro ps' R' S' hr9_0 hoff' hsub hS' hG' hJ3; subst hr9_0) | obtain ⟨ps', R', S', rfl, hoff', hsub, hS', hG', hJ3⟩ := (hp9_15)
        first | ((first | refine ex0_5 (hJ2.at (by simpa using hv)) ?_ | refine ex1_4 (hJ2.at (by simpa using hv)) ?_ | refine ex2_3 (hJ2.at (by simpa using hv)) ?_ | refine ex3_2 (hJ2.at (by simpa using hv)) ?_); intro c hc a hr9_0 hW; subst hr9_0) | obtain ⟨c, hc, a, rfl, hW⟩ := (hJ2.at (by simpa using hv))
        have hO3 : ∀ p ∈ (I, oI) :: (C, oC) :: (D, LCg.lst ys3) :: (T ++ R'), p.1 ≠ 80 := List.forall_mem_cons.mpr ⟨Ne.symm off.1.1, List.forall_mem_cons.mpr ⟨Ne.symm off.1.2.1, List.forall_mem_cons.mpr ⟨Ne.symm off.1.2.2, fun p hp => (List.mem_append.mp hp).elim (hT80 p) (hoff'.at (.head _) p)⟩⟩⟩
        have hStop := stopMark
        k_steps
        (rename StopMark => hStop9; clear hStop9)
        unfold Halt
        (try k_fold); refine' Does.use (number_does _ ((I, oI) :: (C, oC) :: (D, LCg.lst ys3) :: (T ++ R')) S' ps' a _ (hW.mono fun p hp => .tail _ (.tail _ (.tail _ (List.mem_append_right _ (hsub p hp))))) (lead_wok c).len (lead_digs c) hG' (fun p hp => .tail _ (.tail _ (.tail _ (List.mem_append_right _ (hS' p hp))))) hO3) ?k1 ?k2 ?k3 ?k4 ?k5 ?kK ?c1 ?c2 ?c3 ?kd ?ku ?_; (case k1 => k_asm); (case k2 => k_asm); (case k3 => k_asm); (case k4 => exact news_a3 N₁); (case k5 => k_asm); (case kK => first | exact rfl | assumption); (case c1 => first | with_reducible assumption | assumption); (case c2 => first | with_reducible assumption | assumption); (case c3 => first | with_reducible assumption | assumption); (case kd => first | exact room0 (by assumption) (by rfl) | exact room1 (by assumption) (by rfl) | ktr_room); (case ku => first | exact room0 (by assumption) (by rfl) | exact room1 (by assumption) (by rfl) | ktr_units)
        intro r9 news9 h9 tk9 F9 N9 P9
        first | ((first | refine ex1_7 (P9) ?_ | refine ex3_5 (P9) ?_ | refine ex7_1 (P9) ?_); (try clear P9); intro t9 ps9 ex9 q9 e9 g9 o9 z9) | obtain ⟨t9, ps9, ex9, q9, e9, g9, o9, z9⟩ := (P9)
        subst e9
        subst q9
        refine compEnd_grow F9 N9 o9 off (.inr ⟨_, .tail _ (List.mem_append_right _ (List.mem_append_right _ (hsub _ hlw))), rfl, _, rfl⟩) ⟨ps9, ex9 ++ R', ex9 ++ S', rfl, (off_ex' o9 z9 hCT).app hoff', fun p hp => List.mem_append_right _ (hsub p hp), fun p hp => (List.mem_append.mp hp).elim (fun h => List.mem_append_left _ h) fun h => List.mem_append_right _ (hS' p h), g9, ?_⟩
        rw [take_snoc hc, List.map_append]
        exact hJ3.append (.cons _ _ .nil)
      case fin3 =>
        intro ys3 nx hp9_2
        first | ((first | refine ex0_9 (hp9_2) ?_ | refine ex3_6 (hp9_2) ?_ | refine ex4_5 (hp9_2) ?_ | refine ex6_3 (hp9_2) ?_); (try clear hp9_2); intro ps3 R4 S3 hr9_0 hoff4 hsub4 hS3 hG3 hJ3; subst hr9_0) | obtain ⟨ps3, R4, S3, rfl, hoff4, hsub4, hS3, hG3, hJ3⟩ := (hp9_2)
        rw [List.size_toArray, hJ2l, List.take_length] at hJ3
        unfold LCg.FinE
        intro ln h9 tk9 F9 N9 o9
        have hlnC : ln ∉ Cz z := off1_Cz (Off1.mem o9) hCT
        subst eT
        simp only [LCg.Off1, List.cons_append, List.nil_append] at o9 N9
        clear N2
        have p6 := hoff4.at (a := z + 1 + 1 + 1 + 1 + 1 + 1) (.tail _ (.tail _ (.tail _ (.tail _ (.head _)))))
        iterate 3 (all_goals try first | (k_unfold; (try dsimp only)) | (k_end; wrow_close) | walk1 | (dsimp only; walk1))
        refine comp_cell (by k_asm) (by rfl) (by rfl) (by rfl) (by rfl) ?_
        iterate 1 (all_goals try first | (k_unfold; (try dsimp only)) | (k_end; wrow_close) | walk1 | (dsimp only; walk1))
        rename News _ _ _ (_ :: (80, _) :: _) => lN
        first | ((first | refine ex0_7 (std_two lN hlnC hoff4) ?_ | refine ex1_6 (std_two lN hlnC hoff4) ?_ | refine ex2_5 (std_two lN hlnC hoff4) ?_ | refine ex5_2 (std_two lN hlnC hoff4) ?_); intro T R5 eT hln hsub5 hoff5 N3) | obtain ⟨T, R5, eT, hln, hsub5, hoff5, N3⟩ := (std_two lN hlnC hoff4)
        clear lN o9
        replace hlw := hsub5 _ (hsub4 _ hlw)
        replace hll := hsub5 _ (hsub4 _ hll)
        replace hlc := hsub5 _ (hsub4 _ hlc)
        replace hJ2 := hJ2.mono fun v c => WhiteV.mono (fun p hp => hsub5 p (hsub4 p hp)) v c
        have hS5 : ∀ p ∈ S3, p ∈ R5 := fun p hp => hsub5 p (hS3 p hp)
        clear hsub4 hsub5 hoff3 hoff4 hCT hT80 p6 hS3
        have hCT : ∀ a ∈ Cz z, a = 80 ∨ ∃ q ∈ T, q.1 = a := by rw [eT]; exact Tz_has _ _ _ _ _ _ _ _ _ _
        refine ⟨_, ys.toArray, _, rfl, by rfl, by k_asm, N3, ?hsl4, fun i ys nx => ∃ R', nx = (80, tabObj ps3) :: (T ++ R') ∧ OffC (Cz z) R' ∧ (∀ p ∈ R5, p ∈ R') ∧ All2 (ColV R') ys (cs.take i), ⟨R5, rfl, hoff5, fun _ h => h, .nil⟩, ?hsrc4, ?turn4, ?fin4⟩
        case hsl4 => rw [List.size_toArray, hJl]; exact Nat.le_trans hcl (by decide)
        case hsrc4 =>
          intro i ys nx hp9_3
          first | ((first | refine ex0_5 (hp9_3) ?_ | refine ex1_4 (hp9_3) ?_ | refine ex2_3 (hp9_3) ?_ | refine ex3_2 (hp9_3) ?_); (try clear hp9_3); intro R' hr9_0 _ hsub _; subst hr9_0) | obtain ⟨R', rfl, _, hsub, _⟩ := (hp9_3)
          exact .inr ⟨_, .tail _ (List.mem_append_right _ (hsub _ hll)), rfl, _, rfl⟩
        case turn4 =>
          intro i v ys4 nx I oI C oC D K oK h tk E' hv hp9_15 hoK F₁ N₁ off hD
          first | ((first | refine ex0_5 (hp9_15) ?_ | refine ex1_4 (hp9_15) ?_ | refine ex2_3 (hp9_15) ?_ | refine ex3_2 (hp9_15) ?_); (try clear hp9_15); intro R' hr9_0 hoff' hsub hJ4; subst hr9_0) | obtain ⟨R', rfl, hoff', hsub, hJ4⟩ := (hp9_15)
          first | ((first | refine ex0_6 (hJ.at (by simpa using hv)) ?_ | refine ex1_5 (hJ.at (by simpa using hv)) ?_ | refine ex2_4 (hJ.at (by simpa using hv)) ?_ | refine ex3_3 (hJ.at (by simpa using hv)) ?_); intro c hc x tx hr9_0 ecx; subst hr9_0) | obtain ⟨c, hc, x, tx, rfl, ecx⟩ := (hJ.at (by simpa using hv))
          refine LCg.ListComp_U (F₀ := F₁) (by with_unfolding_all rfl) (by decide) (by rfl) (by decide) (by rfl) ?_
          iterate 15 (all_goals try first | (k_unfold; (try dsimp only)) | (k_end; wrow_close) | walk1 | (dsimp only; walk1))
          refine LCg.CompSrc.ledger (by rfl) (by k_asm) (by k_asm) (.head _) (Nat.le_of_ble_eq_true rfl) ?_
          intro g5
          have hxl := lead_short ecx
          refine my_turns0 (fun i ys => IntsAre ys ((colsOf (leadOf c)).take i)) .nil ?turn5 ?fin5
          case turn5 =>
            intro i5 v5 ys5 I5 oI5 C5 oC5 D5 m5 h5 tk5 E5 hi5 hv5 hJ5 hC5 hx5 F₅ N₅ off5 ne5
            first | ((first | refine ex0_4 (ints_at (ns := [6, 5, 4, 3, 2, 1]) (.cons _ _ (.cons _ _ (.cons _ _ (.cons _ _ (.cons _ _ (.cons _ _ .nil)))))) (by simpa using hv5)) ?_ | refine ex1_3 (ints_at (ns := [6, 5, 4, 3, 2, 1]) (.cons _ _ (.cons _ _ (.cons _ _ (.cons _ _ (.cons _ _ (.cons _ _ .nil)))))) (by simpa using hv5)) ?_ | refine ex2_2 (ints_at (ns := [6, 5, 4, 3, 2, 1]) (.cons _ _ (.cons _ _ (.cons _ _ (.cons _ _ (.cons _ _ (.cons _ _ .nil)))))) (by simpa using hv5)) ?_); intro s5 t5 hs5 hr9_0; subst hr9_0) | obtain ⟨s5, t5, hs5, rfl⟩ := (ints_at (ns := [6, 5, 4, 3, 2, 1]) (.cons _ _ (.cons _ _ (.cons _ _ (.cons _ _ (.cons _ _ (.cons _ _ .nil)))))) (by simpa using hv5))
            have hsz := int_nth hs5
            iterate 11 (all_goals try first | (k_unfold; (try dsimp only)) | (k_end; wrow_close) | walk1 | (dsimp only; walk1))
            rename Fr _ _ _ _ => lF
            rename News _ _ _ ((I5, _) :: _) => lN
            refine LCg.CompEnd.intro lF lN _ (fun p hp => hp) off5 (.inr ⟨_, .head _, rfl, _, rfl⟩) ⟨rfl, ?_⟩
            rw [cols_take hs5, ecx]
            exact hJ5.append (.cons _ _ .nil)
          case fin5 =>
            intro ys5 hJ5
            rw [show (#[Value.int 6 _, .int 5 _, .int 4 _, .int 3 _, .int 2 _, .int 1 _] : Array Value).size = 6 from rfl, ← colsOf_len (leadOf c), List.take_length] at hJ5
            unfold LCg.FinE
            intro lc h6 tk6 F6 N6 o6
            first | ((first | refine ex0_3 (cell_end N6 o6 off) ?_ | refine ex1_2 (cell_end N6 o6 off) ?_ | refine ex2_1 (cell_end N6 o6 off) ?_); intro N7 off7 o7) | obtain ⟨N7, off7, o7⟩ := (cell_end N6 o6 off)
            refine ⟨h6, tk6, _, rfl, F6, N7, off7, _, rfl, OffC.cons (off1_Cz o7 hCT) hoff', fun p hp => .tail _ (hsub p hp), ?_⟩
            rw [take_snoc hc]
            exact (hJ4.mono fun v c => ColV.mono (fun p hp => .tail _ hp) v c).snoc ⟨lc, _, _, rfl, .head _, hJ5⟩
        case fin4 =>
          intro lk h tk ys4 nx F9 N9 o9 hp9_8
          first | ((first | refine ex0_5 (hp9_8) ?_ | refine ex1_4 (hp9_8) ?_ | refine ex2_3 (hp9_8) ?_ | refine ex3_2 (hp9_8) ?_); (try clear hp9_8); intro R6 hr9_0 hoff6 hsub6 hJ4; subst hr9_0) | obtain ⟨R6, rfl, hoff6, hsub6, hJ4⟩ := (hp9_8)
          rw [List.size_toArray, hJl, List.take_length] at hJ4
          have hk := off1_Cz o9 hCT
          have hk0 := hk
          replace hln := hsub6 _ hln
          replace hlw := hsub6 _ hlw
          replace hll := hsub6 _ hll
          replace hlc := hsub6 _ hlc
          replace hJ2 := hJ2.mono fun v c => WhiteV.mono hsub6 v c
          have hS6 : ∀ p ∈ S3, p ∈ R6 := fun p hp => hsub6 p (hS5 p hp)
          clear hS5 hsub6
          subst eT
          simp only [List.cons_append, List.nil_append] at N9 o9
          clear N3
          have p2 := hoff6.at (a := z + 1 + 1) (.tail _ (.tail _ (.tail _ (.tail _ (.tail _ (.tail _ (.tail _ (.tail _ (.head _)))))))))
          simp only [Cz, List.mem_cons, List.not_mem_nil, or_false, not_or] at hk
          iterate 16 (all_goals try first | (k_unfold; (try dsimp only)) | (k_end; wrow_close) | walk1 | (dsimp only; walk1))
          have hicl : _ = cs.length := i_cs.length
          refine for_cell (by k_asm) (by rfl) (by rfl) (by rfl) ?_
          iterate 13 (all_goals try first | (k_unfold; (try dsimp only)) | (k_end; wrow_close) | walk1 | (dsimp only; walk1))
          rename (lk < _ ∧ _) => l5
          rename (_ < _ ∧ lk < _ ∧ _) => l6
          rename PySem.IsRange _ _ _ _ _ _ _ _ => hrng
          rename News _ _ _ ((_, W.listOf #[] 0) :: (_, W.listOf #[] 0) :: _) => lN
          first | ((first | refine ex2_13 (loop_led lN (allLt_get l5) l6.1 hk0 hoff6 hz8.2.2) ?_ | refine ex4_11 (loop_led lN (allLt_get l5) l6.1 hk0 hoff6 hz8.2.2) ?_ | refine ex6_9 (loop_led lN (allLt_get l5) l6.1 hk0 hoff6 hz8.2.2) ?_); intro ld lr T R7 e1 e2 eT hlk m7 m6 m2 m1 hsub7 hoff7 N7) | obtain ⟨ld, lr, T, R7, e1, e2, eT, hlk, m7, m6, m2, m1, hsub7, hoff7, N7⟩ := (loop_led lN (allLt_get l5) l6.1 hk0 hoff6 hz8.2.2)
          subst e1
          subst e2
          have hTo : ∀ a : Nat, 80 ≠ a → 73 ≠ a → z + 1 + 1 + 1 + 1 + 1 ≠ a → z + 1 + 1 + 1 + 1 ≠ a → ∀ p ∈ T, p.1 ≠ a := fun a h1 h2 h3 h4 => by rw [eT]; exact T4_off h1 h2 h3 h4
          have hTh : ∀ a ∈ ([80, 73, ((z + 1 + 1 + 1 + 1 + 1 : Nat) : Addr), ((z + 1 + 1 + 1 + 1 : Nat) : Addr)] : List Addr), ∃ q ∈ T, q.1 = a := by rw [eT]; exact T4_has _ _ _ _ _
          have z7 : z + 1 + 1 + 1 + 1 + 1 + 1 + 1 < lr := l5.2.2.2.2.1
          have z8 : z + 1 + 1 + 1 + 1 + 1 + 1 + 1 < ld := Nat.lt_trans z7 l6.1
          have s198 : 198 ≤ z + 1 + 1 + 1 + 1 + 1 + 1 + 1 := Nat.le_trans (Nat.le_of_lt hz8.2.2) (Nat.le_add_right z 7)
          have low : ∀ a k : Nat, z + 1 + 1 + 1 + 1 + 1 + 1 + 1 < a → k ≤ z + 1 + 1 + 1 + 1 + 1 + 1 + 1 → k ≠ a := fun a k h1 h2 => Nat.ne_of_lt (Nat.lt_of_le_of_lt h2 h1)
          have up7 : ∀ i : Nat, i ≤ 7 → z + i ≤ z + 1 + 1 + 1 + 1 + 1 + 1 + 1 := fun i h => Nat.add_le_add_left h z
          have n1 : @Ne Nat 198 lr := low _ _ z7 s198
          have n2 : @Ne Nat 198 ld := low _ _ z8 s198
          have n3 : @Ne Nat lr ld := Nat.ne_of_lt l6.1
          have n4 : @Ne Nat (z + 1 + 1 + 1) lr := low _ _ z7 (up7 3 (by decide))
          have n5 : @Ne Nat (z + 1 + 1 + 1) ld := low _ _ z8 (up7 3 (by decide))
          have t198 := hTo 198 (by decide) (by decide) (Nat.ne_of_gt (Nat.lt_of_lt_of_le hz8.2.2 (Nat.le_add_right z 5))) (Nat.ne_of_gt (Nat.lt_of_lt_of_le hz8.2.2 (Nat.le_add_right z 4)))
          have tlr := hTo lr (low _ _ z7 (Nat.le_trans (by decide) s198)) (low _ _ z7 (Nat.le_trans (by decide) s198)) (low _ _ z7 (up7 5 (by decide))) (low _ _ z7 (up7 4 (by decide)))
          have tld := hTo ld (low _ _ z8 (Nat.le_trans (by decide) s198)) (low _ _ z8 (Nat.le_trans (by decide) s198)) (low _ _ z8 (up7 5 (by decide))) (low _ _ z8 (up7 4 (by decide)))
          have tz3 := hTo (z + 1 + 1 + 1) (Nat.ne_of_lt (Nat.lt_of_lt_of_le hz8.2.1 (Nat.le_add_right z 3))) (Nat.ne_of_lt (Nat.lt_of_lt_of_le hz8.1 (Nat.le_add_right z 3))) (fun e => absurd (Nat.add_left_cancel e : 5 = 3) (by decide)) (fun e => absurd (Nat.add_left_cancel e : 4 = 3) (by decide))
          refine ⟨_, _, _, _, _, cs.length, _, _, _, rfl, by rfl, hrng, small_one (by omega) (by omega) (by omega) (by omega), (by rw [rangeSize_nat]; congr 1), by k_asm, N7, (by assumption), ?offc, (show @Ne Nat (z + 1 + 1 + 1) z by omega), LoopJ z ld lr ll _ m0 T R7 cs, ⟨rfl, #[], [], 0, [], 0, R7, [], [], rfl, hoff7, fun _ h => h, TabG.nil, (fun _ h => nomatch h), .nil, .nil, rfl, (fun _ h => nomatch h), List.Pairwise.nil⟩, ?turn6, ?done6⟩
          case offc =>
            intro p hp
            rcases List.mem_cons.mp hp with rfl | hp
            · exact Nat.ne_of_lt (Nat.lt_of_lt_of_le hz8.2.2 (Nat.le_add_right z 3))
            rcases List.mem_cons.mp hp with rfl | hp
            · exact Ne.symm n4
            rcases List.mem_cons.mp hp with rfl | hp
            · exact Ne.symm n5
            · exact (List.mem_append.mp hp).elim (tz3 p) (hoff7.at (.tail _ (.tail _ (.tail _ (.head _)))) p)
          case turn6 =>
            intro i m₁ nx h tk I oI oc t hi hp9_10 hd6 hofs hIc F₁ N₁
            first | ((first | refine ex0_2 (hp9_10) ?_ | refine ex1_1 (hp9_10) ?_); (try clear hp9_10); intro hr9_0 hp8; subst hr9_0) | obtain ⟨rfl, hp8⟩ := (hp9_10)
            first | ((first | refine ex8_10 (hp8) ?_); (try clear hp8); intro us rv rn dv dn R' S' ks hr9_0 hoff' hsub hG hS ir id_ hkl hkin hso; subst hr9_0) | obtain ⟨us, rv, rn, dv, dn, R', S', ks, rfl, hoff', hsub, hG, hS, ir, id_, hkl, hkin, hso⟩ := (hp8)
            have up : ∀ p ∈ R7, p ∈ (I, oI) :: (T ++ R') := fun p hp => .tail _ (List.mem_append_right _ (hsub p hp))
            refine' turn_does _ z ld lr ll _ ln lk oc _ _ us rv dv _ ys3 ys4 rn dn _ _ _ ((I, oI) :: (T ++ R')) S' cs ks i t (up _ (hsub7 _ hlc)) i_cs hcl hi (up _ m6) (by assumption) (up _ (hsub7 _ hln)) hJ3 (up _ m2) (by assumption) (up _ hlk) (hJ4.mono fun v c => ColV.mono (fun p hp => up p (hsub7 p hp)) v c) hd6 hG (fun p hp => .tail _ (List.mem_append_right _ (hS p hp)))
              (loop_off (Ne.symm (hofs _ (.head _)).1) t198 (hoff'.at (.head _))) (loop_off (Ne.symm (hofs _ (.tail _ (.head _))).1) tlr (hoff'.at (.tail _ (.head _)))) (loop_off (Ne.symm (hofs _ (.tail _ (.tail _ (.head _)))).1) tld (hoff'.at (.tail _ (.tail _ (.head _))))) (loop_off hIc tz3 (hoff'.at (.tail _ (.tail _ (.tail _ (.head _))))))
              hz8.2.2 n1 n2 n3 n4 n5 ir id_ hkl hkin hso _ _ _ _ _ _ _ _ _ _ _ _ _ _ _ _ _ ?B F₁ ?X ?N ?T ?C1 ?C2 ?C3 ?hd ?hu ?hret
            case N =>
              refine cb_drop N₁ fun p hp => ?_
              (revert p; (repeat' first | refine List.forall_mem_cons.mpr ⟨?_, ?_⟩ | refine List.forall_mem_append.mpr ⟨?_, ?_⟩); all_goals (try intro p hp); all_goals (repeat' first | assumption | exact List.Mem.head _ | exact List.mem_append_left _ (by assumption) | exact List.mem_append_right _ (by assumption) | exact absurd hp List.not_mem_nil | refine List.Mem.tail _ ?_ | refine List.mem_append_right _ ?_))
            case B => k_asm
            case X => k_asm
            case T => k_asm
            case C1 => first | with_reducible assumption | assumption
            case C2 => first | with_reducible assumption | assumption
            case C3 => first | with_reducible assumption | assumption
            case hd => ktr_room
            case hu => ktr_units
            case hret =>
              intro us' rv' rn' dv' dn' ex h' tk' F' N' oex G' ir' id'
              exact loop_end F' N' oex hTh hoff' (loop_nx hofs) hsub G' hS ir' id' hkl hkin hso hd6
          case done6 =>
            intro m₁ nx h tk oc v hp9_6 hd6 F₁ N₁ off₁
            first | ((first | refine ex0_2 (hp9_6) ?_ | refine ex1_1 (hp9_6) ?_); (try clear hp9_6); intro hr9_0 hp8; subst hr9_0) | obtain ⟨rfl, hp8⟩ := (hp9_6)
            first | ((first | refine ex8_10 (hp8) ?_); (try clear hp8); intro us rv rn dv dn R8 S8 ks hr9_0 hoff8 hsub8 hG8 hS8 ir id_ hkl hkin hso; subst hr9_0) | obtain ⟨us, rv, rn, dv, dn, R8, S8, ks, rfl, hoff8, hsub8, hG8, hS8, ir, id_, hkl, hkin, hso⟩ := (hp8)
            subst eT
            have up : ∀ p ∈ R7, p ∈ R8 := hsub8
            have up6 : ∀ p ∈ R6, p ∈ R8 := fun p hp => hsub8 p (hsub7 p hp)
            refine' tail_does _ z ld lr ll _ ln lk lw oc _ _ _ _ _ _ us ps3 rv dv ys ys3 ys4 ys2 rn dn _ _ _ _ R8 S8 S3 cs ks sx stx (script.sum + 917) v _ _ (by rw [ecs]; exact Nat.succ_pos _) hcl (up6 _ hll) hJ (up _ m7) (by assumption) (up6 _ hlw) (hJ2.mono fun v c => WhiteV.mono up6 v c)
              (up _ m6) (by assumption) (up6 _ hln) hJ3 (up _ m2) (by assumption) (up _ hlk) (hJ4.mono fun v c => ColV.mono up6 v c) (up _ m1) (by assumption) hcs hd6 ?e4 ?e5 hG8 hS8 hG3 (fun p hp => up6 _ (hS6 p hp)) hoff8 hz8.2.2 n1 n2 n3 z7 z8 ir id_ hkl hkin hso
              _ _ _ _ _ _ _ _ _ _ _ _ _ _ _ _ _ ?B F₁ ?X N₁ ?T ?C1 ?C2 ?C3 ?hd ?hu ?hret
            case e4 => assumption
            case e5 => assumption
            case B => k_asm
            case X => k_asm
            case T => k_asm
            case C1 => first | with_reducible assumption | assumption
            case C2 => first | with_reducible assumption | assumption
            case C3 => first | with_reducible assumption | assumption
            case hd => ktr_room
            case hu => ktr_units
            case hret =>
              intro m' ps' qs' us' news' h' tk' F' N' h80 h73 h198
              (try dsimp only)
              k_steps)
end
end Mine
theorem PySem.Challenge.cw_pg0313_01_holds : PySem.Challenge.rw_pg0313_01.Holds :=
  Mine.law_holds
