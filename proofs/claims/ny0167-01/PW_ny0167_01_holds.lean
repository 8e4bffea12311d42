import PyProof.Rows.All
import Wide.All
import OpenK.AllK
import Wide.FinOn
import Lean
import PySem.Challenge.RW_ny0167_01
set_option Elab.async false
set_option compiler.extract_closed false
set_option linter.all false
-- part Gd
section
open PySem PySem.W PyProof.Rows
set_option maxRecDepth 100000
namespace Mine

/-- the built-ins that a bytearray looks for on the stack -/
def badIds : List String := ["bytearray.__contains__", "bytearray.__mod__", "bytearray.__rmod__", "_struct.pack_into.held", "bytearray.find.held"] ++ Builtin.Bytes.decodersThatHold
def hold (c : Code) : Bool := match c with
  | .builtin id _ => badIds.contains id
  | _ => false
structure Ok (Γ : Ctx) : Prop where
  here : hold Γ.code = false
  below : ∀ x ∈ Γ.below, hold x.1 = false

/-- wpAny over clean stacks alone -/
def wpG {α : Type} (M : Model) (A : Around) (t : Sem α) (Q : α → Shared → Prop) (E : Value → Shared → Prop) (s : Shared) : Prop :=
  ∀ Γ p, Γ.In A → Ok Γ → Sem.wp M Γ t (fun a _ s' => Q a s') (fun e _ s' => E e s') p s
def codeG (M : Model) (A : Around) (c : Code) (R : Result → Shared → Prop) (s : Shared) : Prop :=
  ∀ Γ p, Γ.code = c → Γ.Below A → Ok Γ → wpCode M Γ R p s
end Mine

/-- the head for this row: the call is walked over clean stacks alone -/
theorem MineHd.PySem.W.holds_open {q : Program} {loose : List Str} {Xt : Shared → Bool} {XP : (Str → Option Value) → Heap → Prop} {α : Type} {Yf : Shared → α} {Ya : World → α} {YP : World → Heap → Prop} {d : DefRec} {kwd : List (Str × Expr)} {N : Nat}
    (left : LeftO PySem.Challenge.rw_ny0167_01.row.prog q loose Xt Yf Ya N) (hY : ∀ w s, Yf s = Ya w → YP w s.heap) (hYk : ∀ w h h', YP w h → (∀ b o, h.get? b = some o → h'.get? b = some o) → YP w h')
    (hX : ∀ s, Xt s = true → XP (s.heap.nsMap mainGlobals) s.heap) (hXk : ∀ mg h h', XP mg h → (∀ b o, h.get? b = some o → h'.get? b = some o) → XP mg h')
    (hdef : defOf q PySem.Challenge.rw_ny0167_01.row.name = some (d, kwd)) (hp : PySem.Challenge.rw_ny0167_01.row.prog.theDef PySem.Challenge.rw_ny0167_01.row.name = some (d.params, d.body, d.scope)) (hk : kwWritten? d.params.kwonlyargs d.params.kw_defaults = some kwd) (_hRf : ∀ s, Xt s = true → RecFacts PySem.Challenge.rw_ny0167_01.row.records s.heap) (_hwr : (!PySem.Challenge.rw_ny0167_01.row.writes || PySem.Challenge.rw_ny0167_01.row.records.isEmpty) = true)
    (k1 : PySem.Challenge.rw_ny0167_01.row.wellSaid = true) (ok : (chainsOk q && opensWell PySem.Challenge.rw_ny0167_01.row.prog && (frees PySem.Challenge.rw_ny0167_01.row.toRowW && PySem.Challenge.rw_ny0167_01.row.within.isEmpty)) = true) (hb : PySem.Challenge.rw_ny0167_01.row.prog.bare) (hw : PySem.Challenge.rw_ny0167_01.row.toRowW.promised)
    (call : ∀ (w : World) (s₀ s₁ : Shared) (mg mb : Str → Option Value), Ground q loose [] XP w s₀ mg mb s₁.heap → YP w s₁.heap → s₁.gens = #[] →
      ∀ (args : List WData) (vals : List Value) (as : List Addr), PySem.Challenge.rw_ny0167_01.row.claim.pre args = true → WData.layableAll args = true → Laid [] w s₀ s₁ args vals as →
      ∃ f, mg PySem.Challenge.rw_ny0167_01.row.name = some f ∧
        Mine.wpG (model PySem.Challenge.rw_ny0167_01.row.prog w) callerA (PySem.call f vals) (fun v s' => GoodWG PySem.Challenge.rw_ny0167_01.row.claim (classAt s₀.heap) (ExcName.means s₀.heap) args s₁ (.ok (.ret v)) s') (fun _ _ => False) s₁) :
    PySem.Challenge.rw_ny0167_01.row.Holds := by
  obtain ⟨ok, k5⟩ := Bool.and_eq_true_iff.mp ok
  obtain ⟨hch, o1⟩ := Bool.and_eq_true_iff.mp ok
  refine ⟨k1, hw, ⟨hb, o1, rfl⟩, hw.witness, fun w => ⟨(left.behind hX hch w).1, fun s' hs' => ?_⟩⟩
  obtain ⟨s₀, hf, hg0, s, hT, hz, hgens, hg, G, y⟩ := (left.behind hX hch w).2 s' hs'
  refine ⟨s₀, hf, hg0, s, hT, fun n hn => ?_, fun x hx => (nomatch hx), fun x hx => (nomatch hx), ?_⟩
  · obtain rfl : n = PySem.Challenge.rw_ny0167_01.row.name := List.mem_singleton.mp hn
    exact pinned_of_view hg G hdef hp hk
  have hgens : s.gens = #[] := Array.eq_empty_of_size_eq_zero (beq_iff_eq.mp hgens)
  intro args hpre hlay ord hord
  obtain ⟨⟨vs, s₁⟩, hlaid⟩ := Option.isSome_iff_exists.mp (layAllW_isSome (P := w.params) (ord := ord) G.has args PySem.Challenge.rw_ny0167_01.row.args s (pre_splitW hpre).1)
  have keeps := layAllW_keeps _ _ _ hlaid
  have hal := layAllW_rest _ _ _ hlaid
  obtain ⟨as, hrd, hin, hold⟩ := reads_layAllW hord _ _ _ hlaid hlay s₁.heap (fun _ _ e => e)
  have L : Laid [] w s s₁ args vs as := ⟨⟨ord, hord, hlaid⟩, hrd, hin, hold, keeps, hal.1.trans hgens, hal.2.2.1⟩
  have G₁ := G.keeps hXk keeps
  obtain ⟨f, hf, h⟩ := call w s s₁ _ _ G₁ (hYk _ _ _ (hY w s y) keeps) L.gens args vs as hpre hlay L
  have h₀ := h ⟨.builtin "claim.caller" {}, none, none, [], none⟩ default caller_in ⟨by decide +kernel, fun _ hx => (nomatch hx)⟩
  have W : Sem.wp (model PySem.Challenge.rw_ny0167_01.row.prog w) ⟨.builtin "claim.caller" {}, none, none, [], none⟩ (callStub PySem.Challenge.rw_ny0167_01.row.name vs).cur
      (Sem.finPost (model PySem.Challenge.rw_ny0167_01.row.prog w) ⟨.builtin "claim.caller" {}, none, none, [], none⟩ fun r s' => (PySem.Challenge.rw_ny0167_01.row.claim.Ends s args vs s₁ r s' ∧ s'.os = s.os) ∧ leftWithCleanup s'.gens = false)
      (fun e _ s' => (PySem.Challenge.rw_ny0167_01.row.claim.Ends s args vs s₁ (.error e) s' ∧ s'.os = s.os) ∧ leftWithCleanup s'.gens = false) default s₁ := by
    unfold callStub
    dsimp only
    rw [Sem.wp_bind']
    show Sem.wp _ _ (nsGet mainGlobals _) _ _ _ _
    rw [Sem.wp_nsGet _ _ _ _ _ G₁.T.g, hf]
    dsimp only
    rw [Sem.wp_bind']
    refine Sem.wp_mono _ _ _ (fun v p' s' g => ?_) (fun _ _ _ x => x.elim) _ _ h₀
    have z := g.laid (c := PySem.Challenge.rw_ny0167_01.row.claim) rfl rfl (ident_freeW (r := PySem.Challenge.rw_ny0167_01.row.toRowW) rfl rfl rfl) L
    exact ⟨⟨z.1, z.2.1⟩, leftWithCleanup_false_of_bare z.2.2⟩
  obtain ⟨n, r, s₂, s₃, hs, hr, hfo, hE, hos⟩ := wp_halts_full (M := model PySem.Challenge.rw_ny0167_01.row.prog w) (R := fun r s' => PySem.Challenge.rw_ny0167_01.row.claim.Ends s args vs s₁ r s' ∧ s'.os = s.os) (Shared.asleep_of_life hal.2.2.2 hz) W
  obtain ⟨eh, _, _, eo, _⟩ := Shared.forget_eq hfo
  have hE := hE.congr eh
  have hlife : s₃.heap.life = s.heap.life := (runN_life _ _ _ hr).trans hal.2.2.2
  refine ⟨vs, s₁, hlaid, n, _, s₃, hs, ?_, (fun _ i x hx => by rw [hgens] at hx; simp at hx), fun q => (nomatch q), by rw [hlife], Shared.rest_eq (eo.trans hos)⟩
  rcases hE with ⟨v, rfl, d1, d2, d3, d4, d5⟩ | ⟨e, ob, cls, rfl, d1, d2, d3, d4, d5⟩
  · exact .inl ⟨v, rfl, d1, d2, d3, fun b o y _ => d4 b o y, d5⟩
  · exact .inr ⟨e, ob, cls, rfl, d1, d2, d3, d4, fun b o y _ => d5 b o y⟩
end
-- part Hd2
section
open PySem PySem.W PyProof.Rows
namespace Mine
theorem anewHd2 {M : Model} {A : Around} {E : Value → Shared → Prop} {s : Shared} {Q : Nat → Shared → Prop} (h : Q 0 s) : wpAny M A (pure 0) Q E s := by
  first | (walk1; exact h) | exact wpAny_pure h
end Mine
end
section
open PySem PySem.W PyProof.Rows
namespace MineHd
set_option maxRecDepth 100000
set_option maxHeartbeats 8000000
def view : Program := { PySem.Challenge.pw_ny0167_01 with main := { PySem.Challenge.pw_ny0167_01.main with body := PySem.Challenge.pw_ny0167_01.main.body.drop 21 } }
def free : List Str := [Str.ofString "__name__", Str.ofString "T", Str.ofString "digits", Str.ofString "generate_generalized_integer", Str.ofString "adapt", Str.ofString "generate_integers", Str.ofString "decode_generalized_number", Str.ofString "insertion_sort", Str.ofString "punycode_decode", Str.ofString "_initial_missing", Str.ofString "reduce", Str.ofString "_law_write", Str.ofString "_law_bias", Str.ofString "_law_read", Str.ofString "_law_lay", Str.ofString "_law_strict", Str.ofString "_law_states", Str.ofString "_law_text", Str.ofString "_law_agree"]
theorem said : PySem.Challenge.rw_ny0167_01.wellSaid = true := by decide +kernel
local macro_rules | `(tactic| o_law) => `(tactic| refine holds_law said fun _ => ?_)
local macro_rules | `(tactic| o_head $H) => `(tactic| (refine MineHd.PySem.W.holds_open (q := view) (loose := free) (Xt := fun s => xlAt view [] s && recOk [] s) (XP := XL view []) (Yf := Hook.obs $H) (Ya := Hook.val $H) (YP := Hook.says $H) (N := 1386) ?hl (Hook.of $H) (Hook.keeps $H) (fun s e => xl_of s (Bool.and_eq_true_iff.mp e).1) XL.keeps (by rfl) (by rfl) (by rfl) (fun s e => recFacts_of (Bool.and_eq_true_iff.mp e).2) (by rfl) (by assumption) (by decide +kernel) ⟨rfl, rfl, rfl, rfl, rfl, by decide +kernel⟩ ?hw ?hc; (case hl => (intro w; kernel_rfl))))
open_top hd for PySem.Challenge.rw_ny0167_01
end MineHd
end
-- part Fw
section
open PySem PySem.W PyProof.Rows
set_option maxRecDepth 100000
namespace Mine

/-- the written part and the top's facts stand in the heap -/
structure Gd (w : World) (h : Heap) : Prop where
  K : (MineHd.hd.heap_1 w.params).In h
  T : ∃ p loose mean mg mb, Top p loose mean mg mb h

theorem Gd.keeps {w : World} {h h' : Heap} (G : Gd w h) (k : h.StaysIn h') : Gd w h' :=
  ⟨G.K.keeps k, let ⟨p, l, me, mg, mb, T⟩ := G.T; ⟨p, l, me, mg, mb, T.keeps k⟩⟩

/-- room on the stack -/
structure Rm (A : Around) (n : Nat) : Prop where
  hd : A.handled = none
  dp : A.depth + n < 990
  un : A.units + 8 * n + 100 < 9800

theorem Rm.deeper {A : Around} {n : Nat} {env : Env} (r : Rm A (n + 1)) : Rm (A.deeper env) n :=
  ⟨r.hd, by have := r.dp; show A.depth + 1 + n < 990; omega, by have := r.un; show A.units + 3 + 8 * n + 100 < 9800; omega⟩
theorem Rm.less {A : Around} {n m : Nat} (r : Rm A n) (h : m ≤ n) : Rm A m := ⟨r.hd, by have := r.dp; omega, by have := r.un; omega⟩
theorem Rm.to {A : Around} {n m : Nat} {env : Env} (r : Rm A n) (h : m + 1 ≤ n) : Rm (A.deeper env) m := (r.less h).deeper
theorem Rm.depth {A : Around} {n : Nat} (r : Rm A n) : A.depth < recursionLimit := by have := r.dp; show A.depth < 1000; omega
theorem Rm.units {A : Around} {n : Nat} (r : Rm A n) : A.units + 64 < cLine := by have := r.un; show A.units + 64 < 9900; omega

/-- a def of the written part is entered: all that stood is its ground -/
theorem enter {prog : Program} {w : World} {A : Around} {s : Shared} {E : Value → Shared → Prop} {Q : Value → Shared → Prop} {K : Frag} {p : Program} {loose : List Str} {mean : ExcName → Option Value} {mg mb : Str → Option Value}
    {name qual : Str} {params : Arguments} {body : List Stmt} {scope : Scope} {dV kV doc pm cdv ct oc : Value} {an od : Option Addr} {osl : Array (Option Value)} {f : Addr} {args : List Value} {binds : List (Str × Value)}
    (X : K.In s.heap) (T : Top p loose mean mg mb s.heap)
    (ho : K.lookup f = some ⟨oc, od, .func (fnOf name qual params body scope dV kV doc pm an cdv ct), osl⟩) (hcd : codeIn K cdv qual = true) (hroom : A.depth < recursionLimit)
    (hbind : BindsTo s (fnOf name qual params body scope dV kV doc pm an cdv ct) ⟨args, []⟩ binds) (hloc : ∀ y ∈ binds, scope.names.lookup y.1 = some .local)
    (hco : scope.isCoroutine = false) (hgen : scope.isGenerator = false) (hk : scope.kind = .function) (hcell : ∀ x ∈ scope.names, x.2 ≠ .cell)
    (h : ∀ L h₁ tk, Fr s.heap L h₁ (fun y => binds.reverse.lookup y) → News s.heap L h₁ [] →
      wpAny (model prog w) (A.deeper (envOf qual scope L f cdv)) (execs body (envOf qual scope L f cdv)) (fun fl s' => Q (match fl with | .ret v => v | _ => .none) s')
        (fun e s' => wpAny (model prog w) (A.deeper (envOf qual scope L f cdv)) (leaving (envOf qual scope L f cdv) e) (fun _ s'' => E e s'') (fun e' s'' => E e' s'') s')
        { s with heap := h₁, toks := tk }) :
    wpAny (model prog w) A (call (.ref f) args) Q E s := by
  refine wpAny_call ?_
  refine codeAny_call_def (fd := fnOf name qual params body scope dV kV doc pm an cdv ct) (body := body) (binds := binds) hroom (X _ _ ho) rfl T.nolimit (codeRec_of X hcd) rfl hbind hcell hloc (fun h₁ hns hk₁ => ?_) hco hgen hk
  exact h _ h₁ _ ⟨hns, hk₁, Nat.le_refl _⟩ News.nil

/-- the same for a body that raises nothing -/
theorem enterF {prog : Program} {w : World} {A : Around} {s : Shared} {E : Value → Shared → Prop} {Q : Value → Shared → Prop} {K : Frag} {p : Program} {loose : List Str} {mean : ExcName → Option Value} {mg mb : Str → Option Value}
    {name qual : Str} {params : Arguments} {body : List Stmt} {scope : Scope} {dV kV doc pm cdv ct oc : Value} {an od : Option Addr} {osl : Array (Option Value)} {f : Addr} {args : List Value} {binds : List (Str × Value)}
    (X : K.In s.heap) (T : Top p loose mean mg mb s.heap)
    (ho : K.lookup f = some ⟨oc, od, .func (fnOf name qual params body scope dV kV doc pm an cdv ct), osl⟩) (hcd : codeIn K cdv qual = true) (hroom : A.depth < recursionLimit)
    (hbind : BindsTo s (fnOf name qual params body scope dV kV doc pm an cdv ct) ⟨args, []⟩ binds) (hloc : ∀ y ∈ binds, scope.names.lookup y.1 = some .local)
    (hco : scope.isCoroutine = false) (hgen : scope.isGenerator = false) (hk : scope.kind = .function) (hcell : ∀ x ∈ scope.names, x.2 ≠ .cell)
    (h : ∀ L h₁ tk, Fr s.heap L h₁ (fun y => binds.reverse.lookup y) → News s.heap L h₁ [] →
      wpAny (model prog w) (A.deeper (envOf qual scope L f cdv)) (execs body (envOf qual scope L f cdv)) (fun fl s' => Q (match fl with | .ret v => v | _ => .none) s') (fun _ _ => False)
        { s with heap := h₁, toks := tk }) :
    wpAny (model prog w) A (call (.ref f) args) Q E s :=
  enter X T ho hcd hroom hbind hloc hco hgen hk hcell fun L h₁ tk F N => wpAny_mono (h L h₁ tk F N) (fun _ _ x => x) fun _ _ x => x.elim

def Stop (P : Prop) : Prop := P
theorem stop {P : Prop} (h : Stop P) : P := h
theorem unstop {P : Prop} (h : P) : Stop P := h

theorem Fr.grow {h₀ h h' : Heap} {L : Addr} {m : Str → Option Value} (F : Fr h₀ L h m) (k : h.StaysIn h') : Fr h₀ L h' m :=
  ⟨F.ns.keeps k, fun b o e => k b o (F.keep b o e), F.above⟩
theorem Fr.stays {h₀ h : Heap} {L : Addr} {m : Str → Option Value} (F : Fr h₀ L h m) : h₀.StaysIn h := F.keep
theorem News.grow {h₀ h h' : Heap} {L : Addr} {news : List (Addr × Obj)} (N : News h₀ L h news) (k : h.StaysIn h') : News h₀ L h' news :=
  fun p hp => ⟨k _ _ (N p hp).1, (N p hp).2⟩

theorem News.fresh1 {h₀ h h' : Heap} {L : Addr} {m : Str → Option Value} {news : List (Addr × Obj)} {o : Obj} (F : Fr h₀ L h m) (N : News h₀ L h news) (k : h.StaysIn h') (e : h'.get? h.objs.size = some o) : News h₀ L h' ((h.objs.size, o) :: news) := by
  intro p hp
  rcases List.mem_cons.mp hp with rfl | hp
  · refine ⟨e, Nat.ne_of_gt F.ns.lt, ?_⟩
    cases hq : h₀.get? h.objs.size with
    | none => rfl
    | some o' => exact absurd (Heap.lt_size (F.keep _ _ hq)) (Nat.lt_irrefl _)
  · exact ⟨k _ _ (N p hp).1, (N p hp).2⟩

theorem upd1 {h₀ h h' : Heap} {L r : Addr} {m : Str → Option Value} {o o' : Obj} (F : Fr h₀ L h m) (N : News h₀ L h [(r, o)]) (sb : Heap.SameBut r h h') (e : h'.get? r = some o') : Fr h₀ L h' m ∧ News h₀ L h' [(r, o')] := by
  have D := N (r, o) (.head _)
  obtain ⟨oL, es, ep, hL, z⟩ := F.ns
  refine ⟨⟨⟨oL, es, ep, (sb.2 L (Ne.symm D.2.1)).trans hL, z⟩, fun b x q => (sb.2 b fun y => ?_).trans (F.keep b x q), F.above⟩, fun p hp => ?_⟩
  · have := D.2.2; dsimp only at this; rw [← y, q] at this; cases this
  · obtain rfl := List.mem_singleton.mp hp
    exact ⟨e, D.2⟩

theorem upd2 {h₀ h h' : Heap} {L r : Addr} {m : Str → Option Value} {o o' : Obj} {pre : List (Addr × Obj)} (F : Fr h₀ L h m) (N : News h₀ L h (pre ++ [(r, o)])) (hne : ∀ p ∈ pre, p.1 ≠ r) (sb : Heap.SameBut r h h') (e : h'.get? r = some o') : Fr h₀ L h' m ∧ News h₀ L h' (pre ++ [(r, o')]) := by
  have q := upd1 F (fun p hp => N p (List.mem_append.mpr (.inr hp))) sb e
  refine ⟨q.1, fun p hp => (List.mem_append.mp hp).elim (fun hp => ?_) (q.2 p)⟩
  have D := N p (List.mem_append.mpr (.inl hp))
  exact ⟨(sb.2 _ (hne p hp)).trans D.1, D.2⟩
theorem fresh_ge {h₀ h : Heap} {L b : Addr} {m : Str → Option Value} (F : Fr h₀ L h m) (hb : h.objs.size ≤ b) : h₀.get? b = none ∧ b ≠ L := by
  have hL := F.ns.lt
  refine ⟨?_, Nat.ne_of_gt (Nat.lt_of_lt_of_le hL hb)⟩
  cases hq : h₀.get? b with
  | none => rfl
  | some o => exact absurd (Heap.lt_size (F.keep _ _ hq)) (Nat.not_lt.mpr hb)
theorem own2 {a b : Addr} : ∀ {own : List (Addr × Obj)}, own.map (·.1) = [a, b] → ∃ o1 o2, own = [(a, o1), (b, o2)]
  | [], h => nomatch h
  | [_], h => nomatch h
  | p :: q :: r :: t, h => nomatch h
  | [p, q], h => ⟨p.2, q.2, by injection h with h1 h2; injection h2 with h2 h3; rw [← h1, ← h2]⟩
theorem own1 {a : Addr} : ∀ {own : List (Addr × Obj)}, own.map (·.1) = [a] → ∃ o1, own = [(a, o1)]
  | [], h => nomatch h
  | p :: q :: t, h => nomatch h
  | [p], h => ⟨p.2, by injection h with h1 h2; rw [← h1]⟩

/-- a while whose turns raise nothing, by an invariant and a measure -/
theorem while_inv {prog : Program} {w : World} {A : Around} {env : Env} {test : PySem.Expr} {body orelse : List Stmt} {pos : Pos} {Q : Flow → Shared → Prop} {s : Shared} {ι : Type} (I : ι → Shared → Prop) (μ : ι → Nat) (h0 : ∃ i, I i s)
    (turn : ∀ i s, I i s → wpAny (model prog w) A (isTrue test env (eval test env)) (fun b s₂ => if b = true then
        wpAny (model prog w) A (execs body env) (fun f s₃ => match f with | .next => Stop (∃ i', μ i' < μ i ∧ I i' s₃) | .cont => Stop (∃ i', μ i' < μ i ∧ I i' s₃) | .brk => Q .next s₃ | .ret v => Q (.ret v) s₃) (fun _ _ => False) s₂
        else wpAny (model prog w) A (execs orelse env) Q (fun _ _ => False) s₂) (fun _ _ => False) s) :
    wpAny (model prog w) A (exec (.While test body orelse pos) env) Q (fun _ _ => False) s := by
  refine whl_start 0 ?_
  have all : ∀ n i s, μ i < n → I i s → WhlRest prog w A (fun _ _ => False) env test body orelse Q 1 s := by
    intro n
    induction n with
    | zero => intro i s h; exact absurd h (Nat.not_lt_zero _)
    | succ n ih =>
      intro i s hn hi
      refine whl_turn (k := 0) PassesOwn.never (wpAny_mono (turn i s hi) (fun b s₂ h => ?_) fun _ _ x => x)
      cases b with
      | false => exact WhlIf.no rfl (by simpa using h)
      | true =>
        refine WhlIf.yes rfl ?_
        rw [if_pos rfl] at h
        refine wpAny_mono h (fun f s₃ h => ?_) fun _ _ x => x
        cases f with
        | next => obtain ⟨i', h1, h2⟩ := h; exact ih i' s₃ (by omega) h2
        | cont => obtain ⟨i', h1, h2⟩ := h; exact ih i' s₃ (by omega) h2
        | brk => exact h
        | ret v => exact h
  obtain ⟨i₀, h0⟩ := h0
  exact all _ i₀ s (Nat.lt_succ_self _) h0

/-- what is known of some locals, as a map -/
theorem Fr.view {h₀ h : Heap} {L : Addr} {m : Str → Option Value} (F : Fr h₀ L h m) (ps : List (Str × Value)) (hp : ∀ p ∈ ps, m p.1 = some p.2) : Fr h₀ L h (fun y => (ps.lookup y).or (m y)) := by
  have e : (fun y => (ps.lookup y).or (m y)) = m := by
    funext y
    cases q : ps.lookup y with
    | none => rfl
    | some v =>
      have := List.lookup_eq_some_iff.mp q
      obtain ⟨l₁, l₂, rfl, _⟩ := this
      exact (hp (y, v) (by simp)).symm
  rw [e]; exact F
end Mine
end
-- part GR
section
open PySem PySem.W PyProof.Rows
set_option maxRecDepth 100000
namespace Mine

/-- over clean stacks, and nothing is raised -/
def wpN {α : Type} (M : Model) (A : Around) (t : Sem α) (Q : α → Shared → Prop) (s : Shared) : Prop := wpG M A t Q (fun _ _ => False) s
def codeN (M : Model) (A : Around) (c : Code) (Q : Flow → Shared → Prop) (s : Shared) : Prop := codeG M A c (fun r s' => match r with | .ok f => Q f s' | .error _ => False) s

section
variable {α β : Type} {M : Model} {A : Around} {s : Shared} {env : Env}
theorem N_any {t : Sem α} {Q : α → Shared → Prop} (h : wpAny M A t Q (fun _ _ => False) s) : wpN M A t Q s := fun Γ p hΓ _ => h Γ p hΓ
theorem N_mono {t : Sem α} {Q Q' : α → Shared → Prop} (h : wpN M A t Q s) (k : ∀ a s, Q a s → Q' a s) : wpN M A t Q' s :=
  fun Γ p hΓ o => Sem.wp_mono M Γ t (fun a _ s => k a s) (fun _ _ _ x => x) p s (h Γ p hΓ o)
theorem N_pure {a : α} {Q : α → Shared → Prop} (h : Q a s) : wpN M A (pure a) Q s := fun _ _ _ _ => h
theorem N_bind {m : Sem α} {f : α → Sem β} {Q : β → Shared → Prop} (h : wpN M A m (fun a s' => wpN M A (f a) Q s') s) : wpN M A (m >>= f) Q s := fun Γ p hΓ o => by
  rw [Sem.wp_bind']
  exact Sem.wp_mono M Γ m (fun a p' s' h' => h' Γ p' hΓ o) (fun _ _ _ h' => h') p s (h Γ p hΓ o)
theorem N_bindA {m : Sem α} {f : α → Sem β} {Q : β → Shared → Prop} (h : wpAny M A m (fun a s' => wpN M A (f a) Q s') (fun _ _ => False) s) : wpN M A (m >>= f) Q s := N_bind (N_any h)
theorem N_onRaise {m : Sem α} {k : Value → Sem Unit} {Q : α → Shared → Prop} (h : wpN M A m Q s) : wpN M A (m.onRaise k) Q s := fun Γ p hΓ o => by
  rw [Sem.wp_onRaise]
  exact Sem.wp_mono M Γ m (fun _ _ _ h' => h') (fun _ _ _ h' => h'.elim) p s (h Γ p hΓ o)
theorem N_attempt {m : Sem α} {Q : Except Value α → Shared → Prop} (h : wpN M A m (fun a s' => Q (.ok a) s') s) : wpN M A m.attempt Q s := fun Γ p hΓ o => by
  rw [Sem.wp_attempt]
  exact Sem.wp_mono M Γ m (fun _ _ _ h' => h') (fun _ _ _ h' => h'.elim) p s (h Γ p hΓ o)
theorem N_holding {vs : List Value} {m : Sem α} {Q : α → Shared → Prop} (h : wpN M A m Q s) : wpN M A (holding vs m) Q s := fun Γ p hΓ o => by
  rw [Sem.wp_holding]; exact h Γ p hΓ o
theorem N_keep {vs : List Value} {m : Sem α} {Q : α → Shared → Prop} (h : wpN M A m Q s) : wpN M A (m.keep vs) Q s := fun Γ p hΓ o => by
  rw [Sem.wp_keep]; exact h Γ p hΓ o
theorem N_ite {c : Bool} {a b : Sem α} {Q : α → Shared → Prop} (h : if c = true then wpN M A a Q s else wpN M A b Q s) : wpN M A (if c = true then a else b) Q s := by
  cases c <;> simpa using h

theorem N_tt {c : Bool} {a b : Sem α} {Q : α → Shared → Prop} (hc : c = true) (h : wpN M A a Q s) : wpN M A (if c = true then a else b) Q s := by
  subst hc; exact h
theorem N_ff {c : Bool} {a b : Sem α} {Q : α → Shared → Prop} (hc : c = false) (h : wpN M A b Q s) : wpN M A (if c = true then a else b) Q s := by
  subst hc; exact h
theorem Ok.enter {Γ : Ctx} (o : Ok Γ) {c : Code} (h : Option Value) (p : Pos) (hc : hold c = false) : Ok (Γ.enter c h p) :=
  ⟨hc, fun x hx => by rcases List.mem_cons.mp hx with rfl | hx; exact o.here; exact o.below x hx⟩
theorem N_run {c : Code} {h : Option Value} {Q : Flow → Shared → Prop} (hc : codeN M (A.mark h) c Q s) (ho : hold c = false) (hnb : h ≠ some byPass := by intro x; cases x) : wpN M A (run c h) Q s := fun Γ p hΓ o => by
  rw [Sem.wp_run]
  refine wpCode_mono (fun r s' x => ?_) (hc _ p rfl (hΓ.enter c h p hnb) (o.enter h p ho))
  cases r with
  | ok f => exact x
  | error e => exact x.elim
theorem N_call {f : Value} {pos : List Value} {kw : List (Str × Value)} {Q : Value → Shared → Prop} (hc : codeN M A (.call f ⟨pos, kw⟩) (fun fl s' => ∃ v, fl = .ret v ∧ Q v s') s) : wpN M A (call f pos kw) Q s := fun Γ p hΓ o => by
  show Sem.wp M Γ (runValue _) _ _ p s
  rw [Sem.wp_runValue]
  refine wpCode_mono (fun r s' x => ?_) (hc _ p rfl (hΓ.enter _ none p (by intro x; cases x)) (o.enter none p rfl))
  cases r with
  | ok f => obtain ⟨v, rfl, q⟩ := x; exact q
  | error e => exact x.elim
theorem codeN_mono {c : Code} {Q Q' : Flow → Shared → Prop} (h : codeN M A c Q s) (k : ∀ f s, Q f s → Q' f s) : codeN M A c Q' s := fun Γ p hc hΓ o =>
  wpCode_mono (fun r s' x => by cases r with | ok f => exact k f s' x | error e => exact x.elim) (h Γ p hc hΓ o)
theorem codeN_any {c : Code} {Q : Flow → Shared → Prop} (h : codeAny M A c (fun r s' => match r with | .ok f => Q f s' | .error _ => False) s) : codeN M A c Q s := fun Γ p hc hΓ _ => h Γ p hc hΓ
theorem codeN_tree {c : Code} {Q : Flow → Shared → Prop}
    (h : wpN M (A.under c) (M.den c) (fun fin s' => match fin with | .done f => Q f s' | .again c' => c'.quiet = true ∧ hold c' = false ∧ codeN M A c' Q s') s) : codeN M A c Q s := fun Γ p hc hΓ o => by
  rw [wpCode_iff_wp, hc]
  refine Sem.wp_mono M Γ _ (fun fin p' s' h' => ?_) (fun _ _ _ h' => h'.elim) p s (h Γ p (hc ▸ hΓ.in) o)
  cases fin with
  | done f => exact h'
  | again c' => exact ⟨h'.1, h'.2.2 (Γ.goto c') p' rfl (hΓ.goto c') ⟨h'.2.1, o.below⟩⟩

theorem N_nil {Q : Flow → Shared → Prop} (h : Q .next s) : wpN M A (execs [] env) Q s := N_pure h
theorem N_cons {st : Stmt} {rest : List Stmt} {Q : Flow → Shared → Prop}
    (h : wpN M A (exec st env) (fun f s' => match f with | .next => wpN M A (execs rest env) Q s' | f => Q f s') s) : wpN M A (execs (st :: rest) env) Q s := by
  rw [execs_cons]
  refine N_bind (N_mono h fun f s' h' => ?_)
  cases f <;> first | exact h' | exact N_pure h'
/-- a statement that is walked by the library's lines -/
theorem N_consA {st : Stmt} {rest : List Stmt} {Q : Flow → Shared → Prop}
    (h : wpAny M A (exec st env) (fun f s' => match f with | .next => wpN M A (execs rest env) Q s' | f => Q f s') (fun _ _ => False) s) : wpN M A (execs (st :: rest) env) Q s := N_cons (N_any h)
theorem N_Assign {x : Str} {pos' : Pos} {value : PySem.Expr} {pos : Pos} {Q : Flow → Shared → Prop}
    (h : wpN M A (eval value env) (fun v s₁ => wpAny M A (storeName env x v) (fun _ => Q .next) (fun _ _ => False) s₁) s)
    (hs : swapsWith value (some (.Name x pos')) pos.line env = pure false := by rfl) : wpN M A (exec (.Assign [.Name x pos'] value pos) env) Q s := fun Γ p hΓ o => by
  simp only [exec_Assign_Name env x pos' value pos hs, Sem.wp_bind', Sem.wp_cmd_standAt, Sem.wp_bindName, Sem.wp_pure']
  exact Sem.wp_mono M Γ _ (fun v _ s₁ h₁ => h₁ Γ _ hΓ) (fun _ _ _ h' => h') _ _ (h Γ _ hΓ o)
theorem N_Expr {e : PySem.Expr} {pos : Pos} {Q : Flow → Shared → Prop} (h : wpN M A (eval e env) (fun v s' => v = .none ∧ Q .next s') s)
    (hi : interactive env = false := by rfl) (hs : swapsWith e none pos.line env = pure false := by rfl) : wpN M A (exec (.Expr e pos) env) Q s := by
  rw [exec_Expr env e pos hi hs]
  refine N_bindA (wpAny_standAt (N_bind (N_mono h fun v s' h' => ?_)))
  obtain ⟨rfl, hq⟩ := h'
  rw [dropValue_plain (by intro a; simp)]
  exact N_pure hq
theorem N_Return {e : PySem.Expr} {pos : Pos} {Q : Flow → Shared → Prop} (h : wpN M A (eval e env) (fun v => Q (.ret v)) s) : wpN M A (exec (.Return (some e) pos) env) Q s := by
  rw [exec_Return_some]
  exact N_bindA (wpAny_standAt (N_bind (N_mono h fun _ _ x => N_pure x)))
theorem N_If {test : PySem.Expr} {body orelse : List Stmt} {pos : Pos} {Q : Flow → Shared → Prop}
    (h : wpAny M A (isTrue test env (eval test env)) (fun b s₂ => if b = true then wpN M A (execs body env) Q s₂ else wpN M A (execs orelse env) Q s₂) (fun _ _ => False) s) :
    wpN M A (exec (.If test body orelse pos) env) Q s := by
  rw [exec_If]
  refine N_bindA (wpAny_standAt (N_bindA (wpAny_mono h (fun b s₂ h₂ => ?_) fun _ _ x => x)))
  exact N_ite h₂

theorem N_while {test : PySem.Expr} {body orelse : List Stmt} {pos : Pos} {Q : Flow → Shared → Prop} {ι : Type} (I : ι → Shared → Prop) (μ : ι → Nat) (h0 : ∃ i, I i s)
    (turn : ∀ i s, I i s → wpAny M A (isTrue test env (eval test env)) (fun b s₂ => if b = true then
        wpN M A (execs body env) (fun f s₃ => match f with | .next => Stop (∃ i', μ i' < μ i ∧ I i' s₃) | .cont => Stop (∃ i', μ i' < μ i ∧ I i' s₃) | .brk => Q .next s₃ | .ret v => Q (.ret v) s₃) s₂
        else wpN M A (execs orelse env) Q s₂) (fun _ _ => False) s)
    (hden : ∀ c, M.den c = denote table c := by intro _; rfl) :
    wpN M A (exec (.While test body orelse pos) env) Q s := by
  rw [exec_While]
  refine N_bindA (wpAny_standAt ?_)
  unfold runOwn
  refine N_onRaise (N_run (h := none) ?_ rfl)
  have all : ∀ n i s, μ i < n → I i s → codeN M (A.mark none) (.whileLoop test body orelse env) Q s := by
    intro n
    induction n with
    | zero => intro i s h; exact absurd h (Nat.not_lt_zero _)
    | succ n ih =>
      intro i s hn hi
      refine codeN_tree ?_
      rw [hden]
      have e1 : (A.mark none).under (.whileLoop test body orelse env) = A := by
        rw [Around.under_of_weight rfl rfl]; rfl
      rw [e1]
      show wpN M A ((whileTurn test body orelse env).onRaise _) _ s
      refine N_onRaise ?_
      simp only [whileTurn]
      refine N_bindA (wpAny_mono (turn i s hi) (fun b s₂ h => ?_) fun _ _ x => x)
      cases b with
      | false => exact N_bind (N_mono (show wpN M A (execs orelse env) Q s₂ by simpa using h) fun f s₃ x => N_pure x)
      | true =>
        rw [if_pos rfl] at h
        refine N_bind (N_mono h fun f s₃ h => ?_)
        cases f with
        | next => obtain ⟨i', h1, h2⟩ := h; exact N_pure ⟨rfl, rfl, ih i' s₃ (by omega) h2⟩
        | cont => obtain ⟨i', h1, h2⟩ := h; exact N_pure ⟨rfl, rfl, ih i' s₃ (by omega) h2⟩
        | brk => exact N_pure h
        | ret v => exact N_pure h
  obtain ⟨i₀, h0⟩ := h0
  exact all _ i₀ s (Nat.lt_succ_self _) h0
end

section
variable {prog : Program} {w : World} {A : Around} {s : Shared} {env : Env} {Q : Value → Shared → Prop}
/-- a call of a def: its arguments by the library's lines -/
theorem N_callWith {pos : Pos} {f : Addr} {first : List Value} {args : List (Bool × Sem Value)} (hplain : args.any (·.1) = false) 
    (h : wpAny (model prog w) A (evalArgs (.ref f) true args []) (fun a s₁ => (∃ o fd, s₁.heap.get? f = some o ∧ o.data = .func fd) ∧ a.kw = [] ∧ wpN (model prog w) A (call (.ref f) (first ++ a.pos)) Q s₁) (fun _ _ => False) s) :
    wpN (model prog w) A (callWith pos (.ref f) first args []) Q s := by
  unfold callWith
  refine N_bindA (wpAny_holding (wpAny_mono h (fun a s₁ h₁ => N_bindA (wpAny_standAt ?_)) fun _ _ x => x))
  obtain ⟨⟨o, fd, ho, hd⟩, hkw, hc⟩ := h₁
  obtain ⟨ap, ak⟩ := a
  dsimp only at hkw hc
  subst hkw
  simp only [hplain, List.any_nil, Bool.or_false]
  refine N_bindA ?_
  unfold keeperOf
  refine wpAny_bind (wpAny_load ho ?_)
  rw [hd]
  refine wpAny_pure ?_
  have tail : ∀ {t : Sem Value}, wpN (model prog w) A t Q s₁ → wpN (model prog w) A (t >>= fun r => holding [r] point >>= fun _ => pure r) Q s₁ :=
    fun ht => N_bind (N_mono ht fun r s₂ hr => N_bindA (wpAny_holding (wpAny_point (N_pure hr))))
  dsimp only
  split
  · exact tail hc
  · exact tail (by unfold callMarked; exact N_keep hc)
theorem N_callWithB {pos : Pos} {id : String} {first : List Value} {args : List (Bool × Sem Value)} (hplain : args.any (·.1) = false) 
    (h : wpAny (model prog w) A (evalArgs (.builtin id) true args []) (fun a s₁ => a.kw = [] ∧ wpN (model prog w) A (call (.builtin id) (first ++ a.pos)) Q s₁) (fun _ _ => False) s) :
    wpN (model prog w) A (callWith pos (.builtin id) first args []) Q s := by
  unfold callWith
  refine N_bindA (wpAny_holding (wpAny_mono h (fun a s₁ h₁ => N_bindA (wpAny_standAt ?_)) fun _ _ x => x))
  obtain ⟨hkw, hc⟩ := h₁
  obtain ⟨ap, ak⟩ := a
  dsimp only at hkw hc
  subst hkw
  simp only [hplain, List.any_nil, Bool.or_false]
  refine N_bindA ?_
  refine wpAny_pure ?_
  exact N_bind (N_mono hc fun r s₂ hr => N_bindA (wpAny_holding (wpAny_point (N_pure hr))))
theorem N_callWithT {pos : Pos} {T : String} {first : List Value} {args : List (Bool × Sem Value)} (hplain : args.any (·.1) = false) 
    (h : wpAny (model prog w) A (evalArgs (.type T) true args []) (fun a s₁ => a.kw = [] ∧ wpN (model prog w) A (call (.type T) (first ++ a.pos)) Q s₁) (fun _ _ => False) s) :
    wpN (model prog w) A (callWith pos (.type T) first args []) Q s := by
  unfold callWith
  refine N_bindA (wpAny_holding (wpAny_mono h (fun a s₁ h₁ => N_bindA (wpAny_standAt ?_)) fun _ _ x => x))
  obtain ⟨hkw, hc⟩ := h₁
  obtain ⟨ap, ak⟩ := a
  dsimp only at hkw hc
  subst hkw
  simp only [hplain, List.any_nil, Bool.or_false]
  refine N_bindA ?_
  refine wpAny_pure ?_
  exact N_bind (N_mono hc fun r s₂ hr => N_bindA (wpAny_holding (wpAny_point (N_pure hr))))
end

section
variable {prog : Program} {w : World} {A : Around} {s : Shared}
theorem codeN_func {body : List Stmt} {env : Env} {Q : Value → Shared → Prop}
    (h : wpN (model prog w) (A.deeper env) (execs body env) (fun f s' => Q (match f with | .ret v => v | _ => .none) s') s) :
    codeN (model prog w) A (.func body env) (fun fl s' => ∃ v, fl = .ret v ∧ Q v s') s := by
  refine codeN_tree ?_
  show wpN _ (A.deeper env) (do point; match ← (execs body env).onRaise (leaving env) with | .ret v => ret v | _ => ret .none) _ s
  refine N_bindA (wpAny_point (N_bind (N_onRaise (N_mono h fun f s' h' => ?_))))
  cases f <;> exact N_pure ⟨_, rfl, h'⟩
theorem codeN_expr {e : PySem.Expr} {env : Env} {Q : Value → Shared → Prop}
    (h : wpN (model prog w) (A.deeper env) (eval e env) Q s) : codeN (model prog w) A (.expr e env) (fun fl s' => ∃ v, fl = .ret v ∧ Q v s') s := by
  refine codeN_tree ?_
  show wpN _ (A.deeper env) (do point; ret (← (eval e env).onRaise (leaving env))) _ s
  exact N_bindA (wpAny_point (N_bind (N_onRaise (N_mono h fun v s' h' => N_pure ⟨_, rfl, h'⟩))))

theorem enterN {Q : Value → Shared → Prop} {K : Frag} {p : Program} {loose : List Str} {mean : ExcName → Option Value} {mg mb : Str → Option Value}
    {name qual : Str} {params : Arguments} {body : List Stmt} {scope : Scope} {dV kV doc pm cdv ct oc : Value} {an od : Option Addr} {osl : Array (Option Value)} {f : Addr} {args : List Value} {binds : List (Str × Value)}
    (X : K.In s.heap) (T : Top p loose mean mg mb s.heap)
    (ho : K.lookup f = some ⟨oc, od, .func (fnOf name qual params body scope dV kV doc pm an cdv ct), osl⟩) (hcd : codeIn K cdv qual = true) (hroom : A.depth < recursionLimit)
    (hbind : BindsTo s (fnOf name qual params body scope dV kV doc pm an cdv ct) ⟨args, []⟩ binds) (hloc : ∀ y ∈ binds, scope.names.lookup y.1 = some .local)
    (hco : scope.isCoroutine = false) (hgen : scope.isGenerator = false) (hk : scope.kind = .function) (hcell : ∀ x ∈ scope.names, x.2 ≠ .cell)
    (h : ∀ L h₁ tk, Fr s.heap L h₁ (fun y => binds.reverse.lookup y) → News s.heap L h₁ [] →
      wpN (model prog w) (A.deeper (envOf qual scope L f cdv)) (execs body (envOf qual scope L f cdv)) (fun fl s' => Q (match fl with | .ret v => v | _ => .none) s') { s with heap := h₁, toks := tk }) :
    wpN (model prog w) A (call (.ref f) args) Q s := by
  refine N_call (codeN_tree ?_)
  show wpN _ A.in1 (callAny (.ref f) ⟨args, []⟩) _ s
  simp only [callAny]
  refine N_bindA (wpAny_load (X _ _ ho) ?_)
  obtain ⟨c, oc', vs, tq, hc, hoc, hdc, hq⟩ := codeRec_of X hcd
  subst hc
  simp only [callFunction, hco, hgen]
  refine N_bindA (m := field (.ref c) 1) (wpAny_field hoc hdc hq (N_bindA (wpAny_pure ?_)))
  refine N_bindA (hbind _ _ _ _ ?_)
  refine N_bindA (wpAny_newFunctionEnv hcell hloc (fun h₁ hns hsb => ?_) hk)
  refine N_bindA (wpAny_enterFrame (T.nolimit.fresh _ hsb) (show A.in1.depth < recursionLimit from hroom) (N_pure ⟨rfl, rfl, ?_⟩))
  have hk₁ : ∀ b o, s.heap.get? b = some o → h₁.get? b = some o := fun b o e => hsb.extBut b o (Nat.ne_of_lt (Heap.lt_size e)) (Heap.get?_push_of_some _ e)
  exact codeN_func (h _ h₁ _ ⟨hns, hk₁, Nat.le_refl _⟩ News.nil)

/-- a plain call by name -/
theorem N_Call {env : Env} {func : PySem.Expr} {args : List PySem.Expr} {pos : Pos} {Q : Value → Shared → Prop}
    (h : wpAny (model prog w) A (eval func env) (fun f s₁ => wpN (model prog w) A (callWith pos f [] (backTo pos (starEach args env)) []) Q s₁) (fun _ _ => False) s)
    (he : eval (.Call func args [] pos) env = (do callWith pos (← eval func env) [] (backTo pos (starEach args env)) (backToKw pos (keywordEach [] env))) := by rfl) :
    wpN (model prog w) A (eval (.Call func args [] pos) env) Q s := by
  rw [he]; exact N_bindA h
theorem N_Meth {env : Env} {o : PySem.Expr} {name : Str} {apos pos : Pos} {args : List PySem.Expr} {pl : Sem Bool} {Q : Value → Shared → Prop}
    (h : wpAny (model prog w) A (eval o env) (fun ov s₁ => wpAny (model prog w) A (getMethod ov name pl) (fun fx s₂ => wpN (model prog w) A (callWith pos fx.1 fx.2 (backTo pos (starEach args env)) []) Q s₂) (fun _ _ => False) s₁) (fun _ _ => False) s)
    (he : eval (.Call (.Attribute o name apos) args [] pos) env = (do
      let ov ← eval o env
      standAt apos.atName
      let (f, first) ← holding [ov] (getMethod ov name pl)
      callWith pos f first (backTo pos (starEach args env)) []) := by rfl) :
    wpN (model prog w) A (eval (.Call (.Attribute o name apos) args [] pos) env) Q s := by
  rw [he]
  exact N_bindA (wpAny_mono h (fun ov s₁ h₁ => N_bindA (wpAny_standAt (N_bindA (wpAny_holding (wpAny_mono h₁ (fun fx s₂ h₂ => h₂) fun _ _ x => x))))) fun _ _ x => x)
end

section
variable {prog : Program} {w : World} {A : Around} {s : Shared} {env : Env} {Q : Value → Shared → Prop}
theorem N_callB1 {pos : Pos} {id : String} {first : List Value} {e : PySem.Expr} (h : wpAny (model prog w) A (eval e env) (fun v s₁ => wpN (model prog w) A (call (.builtin id) (first ++ [v])) Q s₁) (fun _ _ => False) s)
    (he : starEach [e] env = [(false, eval e env)] := by rfl) : wpN (model prog w) A (callWith pos (.builtin id) first (backTo pos (starEach [e] env)) []) Q s := by
  rw [he]
  refine N_callWithB rfl ?_
  show wpAny _ _ (evalArgs (.builtin id) true [(false, eval e env)] []) _ _ _
  refine Calls.evalArgs_plain (Calls.spliced_cons (wpAny_mono h (fun v s₁ h₁ => Calls.spliced_nil ⟨rfl, h₁⟩) fun _ _ x => x))
theorem N_callF {pos : Pos} {f : Addr} {first : List Value} {e : PySem.Expr} {rest : List PySem.Expr} {K : Frag} {h₀ : Heap} {oc : Value} {od : Option Addr} {fd : FuncData} {osl : Array (Option Value)} (_X : K.In h₀) (ho : K.lookup f = some ⟨oc, od, .func fd, osl⟩)
    (h : wpAny (model prog w) A (spliced (backTo pos (starEach (e :: rest) env))) (fun vs s₁ => K.In s₁.heap ∧ wpN (model prog w) A (call (.ref f) (first ++ vs)) Q s₁) (fun _ _ => False) s)
    (he : starEach (e :: rest) env = (false, eval e env) :: starEach rest env := by rfl) (hplain : (backTo pos (starEach rest env)).any (·.1) = false := by rfl) :
    wpN (model prog w) A (callWith pos (.ref f) first (backTo pos (starEach (e :: rest) env)) []) Q s := by
  rw [he] at h ⊢
  refine N_callWith (by show (false || (backTo pos (starEach rest env)).any (·.1)) = false; rw [hplain]; rfl) (Calls.evalArgs_plain (wpAny_mono h (fun vs s₁ h₁ => ⟨⟨_, _, h₁.1 _ _ ho, rfl⟩, rfl, h₁.2⟩) fun _ _ x => x))
end

section
variable {prog : Program} {w : World} {A : Around} {s : Shared} {env : Env}
theorem N_For {target iter : PySem.Expr} {body orelse : List Stmt} {pos : Pos} {Q : Flow → Shared → Prop}
    (h : wpAny (model prog w) A (eval iter env) (fun xv s₁ => wpAny (model prog w) A (pyIter xv) (fun it s₂ => codeN (model prog w) A (.forLoop target it body orelse env) Q s₂) (fun _ _ => False) s₁) (fun _ _ => False) s)
    (hs : ∀ x, foldedSetIterable iter env x = pure x := by intro _; rfl) : wpN (model prog w) A (exec (.For target iter body orelse pos) env) Q s := by
  have e : exec (.For target iter body orelse pos) env = (do
    standAt pos
    let x ← foldedSetIterable iter env (← eval iter env)
    standAt iter.pos
    runOwn (.forLoop target (← holding [x] (pyIter x)) body orelse env) env) := rfl
  rw [e]
  refine N_bindA (wpAny_standAt (N_bindA (wpAny_mono h (fun xv s₁ h₁ => ?_) fun _ _ x => x)))
  rw [hs]
  refine N_bindA (wpAny_pure (N_bindA (wpAny_standAt (N_bindA (wpAny_holding (wpAny_mono h₁ (fun it s₂ h₂ => ?_) fun _ _ x => x))))))
  unfold runOwn
  exact N_onRaise (N_run (h := none) h₂ rfl)
theorem codeN_for {target : PySem.Expr} {it : Value} {body : List Stmt} {Q : Flow → Shared → Prop} (I : Nat → Shared → Prop)
    (turn : ∀ n s, I n s → wpAny (model prog w) A (pyNext it) (fun r s₁ => match r with
      | none => Q .next s₁
      | some v => wpAny (model prog w) A (letOwnedTupleGo target it v) (fun _ s₁' => wpAny (model prog w) A (assign target env v) (fun _ s₂ =>
          wpN (model prog w) A (execs body env) (fun f s₃ => match f with | .next => ∃ m, m < n ∧ I m s₃ | .cont => ∃ m, m < n ∧ I m s₃ | .brk => Q .next s₃ | .ret v => Q (.ret v) s₃) s₂) (fun _ _ => False) s₁') (fun _ _ => False) s₁) (fun _ _ => False) s)
    (n : Nat) (h : I n s) : codeN (model prog w) A (.forLoop target it body [] env) Q s := by
  induction n using Nat.strongRecOn generalizing s with
  | ind n ih =>
    refine codeN_tree ?_
    rw [Around.under_of_weight rfl rfl]
    show wpN _ A ((forTurn target it body [] env).onRaise _) _ s
    refine N_onRaise ?_
    simp only [forTurn]
    refine N_bindA (wpAny_standAt (N_bind (N_onRaise (N_any (wpAny_mono (turn n s h) (fun r s₁ h₁ => ?_) fun _ _ x => x)))))
    cases r with
    | none =>
      refine N_pure ⟨rfl, rfl, codeN_tree ?_⟩
      rw [Around.under_of_weight rfl rfl]
      show wpN _ A (do return Fin.done (← (execs [] env).onRaise _)) _ s₁
      exact N_bind (N_onRaise (N_pure (N_pure h₁)))
    | some v =>
      refine N_bindA (wpAny_mono h₁ (fun _ s₁' h₁' => ?_) fun _ _ x => x)
      refine N_bindA (wpAny_mono h₁' (fun _ s₂ h₂ => N_bind (N_mono h₂ fun f s₃ h₃ => ?_)) fun _ _ x => x)
      cases f with
      | next => obtain ⟨m, h1, h2⟩ := h₃; exact N_pure ⟨rfl, rfl, ih m h1 h2⟩
      | cont => obtain ⟨m, h1, h2⟩ := h₃; exact N_pure ⟨rfl, rfl, ih m h1 h2⟩
      | brk => exact N_pure h₃
      | ret v => exact N_pure h₃

/-- what one turn of a loop hands on -/
def Nx (s : Shared) (h₀ : Heap) (L : Addr) (own : List (Addr × Obj)) (wr : List Addr) (J : (Str → Option Value) → List (Addr × Obj) → Prop) (s' : Shared) : Prop :=
  ∃ h' tk' m' news', s' = { s with heap := h', toks := tk' } ∧ Fr h₀ L h' m' ∧ News h₀ L h' (own ++ news') ∧ (∀ p ∈ news', p.1 ∉ wr) ∧ J m' news'

theorem own_of {h₀ h : Heap} {L : Addr} (wr : List Addr) (hwr : ∀ b ∈ wr, h₀.get? b = none ∧ b ≠ L) (hex : ∀ b ∈ wr, ∃ o, h.get? b = some o) : ∃ own, own.map (·.1) = wr ∧ News h₀ L h own := by
  induction wr with
  | nil => exact ⟨[], rfl, News.nil⟩
  | cons a r ih =>
    obtain ⟨own, e, N⟩ := ih (fun b hb => hwr b (.tail _ hb)) fun b hb => hex b (.tail _ hb)
    obtain ⟨o, ho⟩ := hex a (.head _)
    refine ⟨(a, o) :: own, by simp [e], fun p hp => ?_⟩
    rcases List.mem_cons.mp hp with rfl | hp
    · exact ⟨ho, (hwr a (.head _)).2, (hwr a (.head _)).1⟩
    · exact N p hp
theorem newsLeft {h₀ h : Heap} {L : Addr} {a b : List (Addr × Obj)} (x : News h₀ L h (a ++ b)) : News h₀ L h a := fun p hp => x p (List.mem_append.mpr (.inl hp))

/-- a for over what walks, one name -/
theorem codeN_forW {x : Str} {px : Pos} {I : Addr} {body : List Stmt} {Q : Flow → Shared → Prop} {fp wr : List Addr} {n : Nat} {P : Nat → Value → Prop} {St : Nat → Heap → Prop} {h₀ : Heap} {m : Str → Option Value} {news : List (Addr × Obj)}
    (W : Walks prog w A I fp wr n P St) (J : Nat → (Str → Option Value) → List (Addr × Obj) → Prop)
    (hwr : ∀ b ∈ wr, h₀.get? b = none ∧ b ≠ env.locals) (hex : ∀ i h, St i h → ∀ b ∈ wr, ∃ o, h.get? b = some o) (hfp : ∀ b ∈ fp, b ∈ wr ∨ ∃ o, h₀.get? b = some o)
    (hst : St 0 s.heap) (F : Fr h₀ env.locals s.heap m) (N : News h₀ env.locals s.heap news) (hoff : ∀ p ∈ news, p.1 ∉ wr) (hj : J 0 m news)
    (hx : env.kindOf x = some .local) (hp : (env.scope.kind == .class || (env.scope.kind == .module && env.locals != env.globals)) = false)
    (turn : ∀ i v m₁ news₁ own h tk, i < n → P i v → J i m₁ news₁ → own.map (·.1) = wr → (∀ p ∈ news₁, p.1 ∉ wr) → Fr h₀ env.locals h (fun y => if y = x then some v else m₁ y) → News h₀ env.locals h (own ++ news₁) →
      wpN (model prog w) A (execs body env) (fun f s' => match f with | .next => Nx s h₀ env.locals own wr (J (i + 1)) s' | .cont => Nx s h₀ env.locals own wr (J (i + 1)) s' | .brk => Q .next s' | .ret v => Q (.ret v) s') { s with heap := h, toks := tk })
    (done : ∀ m₁ news₁ h tk, J n m₁ news₁ → Fr h₀ env.locals h m₁ → News h₀ env.locals h news₁ → Q .next { s with heap := h, toks := tk }) :
    codeN (model prog w) A (.forLoop (.Name x px) (.ref I) body [] env) Q s := by
  refine codeN_for (fun k s' => ∃ h' tk' m₁ news₁ i, s' = { s with heap := h', toks := tk' } ∧ St i h' ∧ Fr h₀ env.locals h' m₁ ∧ News h₀ env.locals h' news₁ ∧ (∀ p ∈ news₁, p.1 ∉ wr) ∧ J i m₁ news₁ ∧ i ≤ n ∧ k = n - i) ?_ n
    ⟨s.heap, s.toks, m, news, 0, rfl, hst, F, N, hoff, hj, Nat.zero_le _, rfl⟩
  rintro k s' ⟨h, tk, m₁, news₁, i, rfl, hst, F, N, hoff, hj, hi, rfl⟩
  have frOf : ∀ h₁, (∀ b o, b ∉ wr → h.get? b = some o → h₁.get? b = some o) → Fr h₀ env.locals h₁ m₁ ∧ News h₀ env.locals h₁ news₁ := fun h₁ k₁ =>
    ⟨⟨F.ns.at' fun o e => k₁ _ o (fun hm => (hwr _ hm).2 rfl) e, fun b o e => k₁ b o (fun hm => by rw [(hwr b hm).1] at e; cases e) (F.keep b o e), F.above⟩,
     fun p hp => ⟨k₁ _ _ (hoff p hp) (N p hp).1, (N p hp).2⟩⟩
  by_cases hlt : i < n
  · refine W.item i _ _ _ hlt hst fun v h₁ tk₁ hPv hst₁ hk₁ => ?_
    obtain ⟨F₁, N₁⟩ := frOf h₁ hk₁
    refine wpAny_pure ?_
    refine wpAny_assign_Name (wpAny_storeName_local hx F₁.ns (fun h₂ hn₂ hs₂ => ?_) hp)
    have F₂ := F₁.set hn₂ hs₂
    have N₂ := N₁.set hs₂
    have hst₂ : St (i + 1) h₂ := W.frame _ _ _ hst₁ fun b hb o e => hs₂.extBut b o (fun hm => by
      rcases hfp b hb with q | ⟨o', q⟩
      · exact (hwr b q).2 hm
      · exact absurd (Nat.lt_of_lt_of_le (Heap.lt_size q) F.above) (hm ▸ Nat.lt_irrefl _)) e
    obtain ⟨own, eo, No⟩ := own_of (h := h₂) (L := env.locals) wr hwr (hex _ _ hst₂)
    refine N_mono (turn i v m₁ news₁ own h₂ _ hlt hPv hj eo hoff F₂ (News.append No N₂)) fun f s₃ h₃ => ?_
    have fin : Nx s h₀ env.locals own wr (J (i + 1)) s₃ → ∃ m', m' < n - i ∧ ∃ h' tk' m₁ news₁ i, s₃ = { s with heap := h', toks := tk' } ∧ St i h' ∧ Fr h₀ env.locals h' m₁ ∧ News h₀ env.locals h' news₁ ∧ (∀ p ∈ news₁, p.1 ∉ wr) ∧ J i m₁ news₁ ∧ i ≤ n ∧ m' = n - i := by
      rintro ⟨h', tk', m', news', rfl, F', N', hoff', hj'⟩
      refine ⟨n - (i + 1), by omega, h', tk', m', news', i + 1, rfl, W.frame _ _ _ hst₂ fun b hb o e => ?_, F', News.right N', hoff', hj', hlt, rfl⟩
      rcases hfp b hb with q | ⟨o', q⟩
      · rw [← eo] at q
        obtain ⟨p, hp, rfl⟩ := List.mem_map.mp q
        have e1 := (No p hp).1
        rw [e] at e1
        cases e1
        exact (newsLeft N' p hp).1
      · rw [F₂.keep b o' q] at e
        cases e
        exact F'.keep b _ q
    cases f with
    | next => exact fin h₃
    | cont => exact fin h₃
    | brk => exact h₃
    | ret v => exact h₃
  · have hin : i = n := by omega
    subst hin
    refine W.done _ _ _ hst fun h₁ tk₁ hk₁ => ?_
    obtain ⟨F₁, N₁⟩ := frOf h₁ hk₁
    exact done m₁ news₁ h₁ tk₁ hj F₁ N₁
end

section
variable {prog : Program} {w : World} {A : Around} {s : Shared} {env : Env}
/-- a for over enumerate of a list of the ground -/
theorem codeN_forE {xi xv : Str} {pi pv pt : Pos} {x1 : Nat} {e it l : Addr} {items : Array Value} {body : List Stmt} {Q : Flow → Shared → Prop} {h₀ : Heap} {m : Str → Option Value} {news : List (Addr × Obj)}
    (hh : A.handled = none) (J : Nat → (Str → Option Value) → List (Addr × Obj) → Prop)
    (hei : e ≠ it) (hwr : ∀ b ∈ [e, it], h₀.get? b = none ∧ b ≠ env.locals) (hl : h₀.IsList l items) (he : IsEnum s.heap e it 0 .none) (hit : s.heap.IsListIter it l 0)
    (F : Fr h₀ env.locals s.heap m) (N : News h₀ env.locals s.heap news) (hoff : ∀ p ∈ news, p.1 ∉ [e, it]) (hj : J 0 m news)
    (hxi : env.kindOf xi = some .local) (hxv : env.kindOf xv = some .local) (hp : (env.scope.kind == .class || (env.scope.kind == .module && env.locals != env.globals)) = false)
    (turn : ∀ i v ti m₁ news₁ own h tk, items[i]? = some v → J i m₁ news₁ → own.map (·.1) = [e, it] → (∀ p ∈ news₁, p.1 ∉ [e, it]) → Fr h₀ env.locals h (fun y => if y = xv then some v else if y = xi then some (.int i ti) else m₁ y) → News h₀ env.locals h (own ++ news₁) →
      wpN (model prog w) A (execs body env) (fun f s' => match f with | .next => Nx s h₀ env.locals own [e, it] (J (i + 1)) s' | .cont => Nx s h₀ env.locals own [e, it] (J (i + 1)) s' | .brk => Q .next s' | .ret v => Q (.ret v) s') { s with heap := h, toks := tk })
    (done : ∀ m₁ news₁ h tk, J items.size m₁ news₁ → Fr h₀ env.locals h m₁ → News h₀ env.locals h news₁ → Q .next { s with heap := h, toks := tk }) :
    codeN (model prog w) A (.forLoop (.Tuple [.Name xi pi, .Name xv pv] x1 pt) (.ref e) body [] env) Q s := by
  refine codeN_for (fun k s' => ∃ h' tk' m₁ news₁ i old, s' = { s with heap := h', toks := tk' } ∧ IsEnum h' e it ((i : Nat) : Int) old ∧ h'.IsListIter it l i ∧ Fr h₀ env.locals h' m₁ ∧ News h₀ env.locals h' news₁ ∧ (∀ p ∈ news₁, p.1 ∉ [e, it]) ∧ J i m₁ news₁ ∧ i ≤ items.size ∧ k = items.size - i) ?_ items.size
    ⟨s.heap, s.toks, m, news, 0, .none, rfl, he, hit, F, N, hoff, hj, Nat.zero_le _, rfl⟩
  rintro k s' ⟨h, tk, m₁, news₁, i, old, rfl, he, hit, F, N, hoff, hj, hi, rfl⟩
  have hlh : h.IsList l items := let ⟨o, ho, z⟩ := hl; ⟨o, F.keep _ _ ho, z⟩
  have frOf : ∀ h₁ : Heap, (∀ b o, b ≠ e → b ≠ it → h.get? b = some o → h₁.get? b = some o) → Fr h₀ env.locals h₁ m₁ ∧ News h₀ env.locals h₁ news₁ := fun h₁ k₁ =>
    ⟨⟨F.ns.at' fun o q => k₁ _ o (fun hm => (hwr e (by simp)).2 hm.symm) (fun hm => (hwr it (by simp)).2 hm.symm) q, fun b o q => k₁ b o (fun hm => by rw [hm, (hwr e (by simp)).1] at q; cases q) (fun hm => by rw [hm, (hwr it (by simp)).1] at q; cases q) (F.keep b o q), F.above⟩,
     fun p hp => ⟨k₁ _ _ (fun q => hoff p hp (by simp [q])) (fun q => hoff p hp (by simp [q])) (N p hp).1, (N p hp).2⟩⟩
  cases hv : items[i]? with
  | none =>
    have hsz : i = items.size := Nat.le_antisymm hi (by simpa using hv)
    refine wpAny_pyNext_enum_end hh he hit hlh hv fun h₁ he₁ => ?_
    obtain ⟨F₁, N₁⟩ := frOf h₁ fun b o _ hbi q => he₁ b o hbi q
    exact done m₁ news₁ h₁ tk (hsz ▸ hj) F₁ N₁
  | some v =>
    have hlt : i < items.size := (Array.getElem?_eq_some_iff.mp hv).1
    refine wpAny_pyNext_enum_item he hit hlh hv hei fun h₁ heo hit₁ ht₁ hz₁ hk₁ => ?_
    dsimp only at ht₁ hz₁ hk₁ heo
    refine wpAny_letOwnedTupleGo_enum heo fun h₂ he₂ hs₂ => ?_
    dsimp only at hs₂
    have heH : e < h.objs.size := Heap.lt_size he
    have ht₂ : h₂.IsTuple h.objs.size #[.int i tk, v] := ⟨_, (hs₂.2 _ (Nat.ne_of_gt heH)).trans ht₁, rfl, _, rfl⟩
    have hz₂ : h₂.objs.size = h.objs.size + 1 := hs₂.1.trans hz₁
    refine wpAny_assign_Tuple hh ht₂ rfl rfl fun h₃ hx₃ => ?_
    dsimp only at hx₃
    have up₃ : ∀ b o, h₂.get? b = some o → h₃.get? b = some o := fun b o q => hx₃ b o (Nat.ne_of_lt (Heap.lt_size q)) q
    obtain ⟨F₃, N₃⟩ := frOf h₃ fun b o hbe hbi q => up₃ b o ((hs₂.2 b hbe).trans (hk₁ b o hbe hbi q))
    have he₃ := up₃ _ _ he₂
    have hit₃ : h₃.IsListIter it l (i + 1) := (hit₁.at fun o q => (hs₂.2 it (Ne.symm hei)).trans q).at fun o q => up₃ _ o q
    show wpAny _ A (do holding [v] (assign (.Name xi pi) env (.int i tk)); do holding [] (assign (.Name xv pv) env v); pure ()) _ _ _
    refine wpAny_bind (wpAny_holding (wpAny_assign_Name (wpAny_storeName_local hxi F₃.ns (fun h₄ hn₄ hs₄ => ?_) hp)))
    dsimp only at hs₄
    have F₄ := F₃.set hn₄ hs₄
    have N₄ := N₃.set hs₄
    refine wpAny_bind (wpAny_holding (wpAny_assign_Name (wpAny_storeName_local hxv F₄.ns (fun h₅ hn₅ hs₅ => wpAny_pure ?_) hp)))
    dsimp only at hs₅
    have F₅ := F₄.set hn₅ hs₅
    have N₅ := N₄.set hs₅
    have he₅ := (hs₅.2 e (hwr e (by simp)).2).trans ((hs₄.2 e (hwr e (by simp)).2).trans he₃)
    have hit₅ : h₅.IsListIter it l (i + 1) := (hit₃.at fun o q => (hs₄.2 it (hwr it (by simp)).2).trans q).at fun o q => (hs₅.2 it (hwr it (by simp)).2).trans q
    obtain ⟨oi, hoi, hoi2⟩ := id hit₅
    obtain ⟨own, eo, No⟩ := own_of (h := h₅) (L := env.locals) [e, it] hwr (fun b hb => by
      rcases List.mem_cons.mp hb with rfl | hb
      · exact ⟨_, he₅⟩
      · obtain rfl := List.mem_singleton.mp hb
        exact ⟨_, hoi⟩)
    refine N_mono (turn i v tk m₁ news₁ own h₅ _ hv hj eo hoff F₅ (News.append No N₅)) fun f s₃ h₃ => ?_
    have fin : Nx s h₀ env.locals own [e, it] (J (i + 1)) s₃ → ∃ m', m' < items.size - i ∧ ∃ h' tk' m₁ news₁ i old, s₃ = { s with heap := h', toks := tk' } ∧ IsEnum h' e it ((i : Nat) : Int) old ∧ h'.IsListIter it l i ∧ Fr h₀ env.locals h' m₁ ∧ News h₀ env.locals h' news₁ ∧ (∀ p ∈ news₁, p.1 ∉ [e, it]) ∧ J i m₁ news₁ ∧ i ≤ items.size ∧ m' = items.size - i := by
      rintro ⟨h', tk', m', news', rfl, F', N', hoff', hj'⟩
      have kp : ∀ b ∈ [e, it], ∀ o, h₅.get? b = some o → h'.get? b = some o := fun b hb o q => by
        rw [← eo] at hb
        obtain ⟨p, hp, rfl⟩ := List.mem_map.mp hb
        have e1 := (No p hp).1
        rw [q] at e1
        cases e1
        exact (newsLeft N' p hp).1
      have c1 : ((i + 1 : Nat) : Int) = (i : Int) + 1 := by push_cast; rfl
      exact ⟨items.size - (i + 1), by omega, h', tk', m', news', i + 1, _, rfl, by rw [c1]; exact kp e (by simp) _ he₅, hit₅.at fun o q => kp it (by simp) o q, F', News.right N', hoff', hj', hlt, rfl⟩
    cases f with
    | next => exact fin h₃
    | cont => exact fin h₃
    | brk => exact h₃
    | ret v => exact h₃
end
end Mine
end
-- part BA
section
open PySem PySem.W PyProof.Rows
set_option maxRecDepth 100000
namespace Mine

theorem hold_decoder {id : String} {args : Args} (h : hold (.builtin id args) = false) : Builtin.Bytes.decodersThatHold.contains id = false := by
  have h' : badIds.contains id = false := h
  unfold badIds at h'
  rw [List.contains_append] at h'
  exact (Bool.or_eq_false_iff.mp h').2

theorem hold_not {id : String} {args : Args} (h : hold (.builtin id args) = false) {k : String} (hk : badIds.contains k = true) : ¬ id = k := fun e => by
  subst e
  have h' : badIds.contains id = false := h
  rw [hk] at h'
  cases h'
theorem N_exported {M : Model} {A : Around} {s : Shared} {v : Value} {Q : Bool → Shared → Prop} (h : Q false s) : wpN M A (Builtin.Bytes.exported v) Q s := fun Γ p hΓ o => by
  have fin : ∀ b, b = false → Q b s := by rintro _ rfl; exact h
  show Q (((Γ.code, p) :: Γ.below).any _) s
  refine fin _ (List.any_eq_false.mpr fun x hx => ?_)
  have hx' : hold x.1 = false := by
    rcases List.mem_cons.mp hx with rfl | hx
    · exact o.here
    · exact o.below x hx
  rw [Bool.not_eq_true]
  clear hx o hΓ fin h
  obtain ⟨c, p⟩ := x
  unfold Builtin.Bytes.exported.match_1
  cases c with
  | builtin id args =>
    have hd := hold_decoder hx'
    have h1 := hold_not hx' (k := "bytearray.__contains__") (by decide +kernel)
    have h2 := hold_not hx' (k := "bytearray.__mod__") (by decide +kernel)
    have h3 := hold_not hx' (k := "bytearray.__rmod__") (by decide +kernel)
    have h4 := hold_not hx' (k := "_struct.pack_into.held") (by decide +kernel)
    have h5 := hold_not hx' (k := "bytearray.find.held") (by decide +kernel)
    obtain ⟨pos, kw⟩ := args
    refine Eq.trans (dif_neg h1) (Eq.trans (dif_neg h2) (Eq.trans (dif_neg h3) (Eq.trans (dif_neg h4) (Eq.trans (dif_neg h5) ?_))))
    cases pos with
    | nil => rfl
    | cons a r => exact (congrArg (_ && ·) hd).trans (Bool.and_false _)
  | _ => rfl
section
variable {prog : Program} {w : World} {A : Around} {s : Shared}
theorem codeN_builtin0 {id : String} {args : Args} {b : Builtin} {Q : Flow → Shared → Prop} (hb : entryFor table id = some b)
    (h : wpN (model prog w) (A.under (.builtin id args)) (b args) (fun fin s' => match fin with | .done f => Q f s' | .again c' => c'.quiet = true ∧ hold c' = false ∧ codeN (model prog w) A c' Q s') s) :
    codeN (model prog w) A (.builtin id args) Q s := by
  refine codeN_tree ?_
  show wpN _ _ (match entryFor table id with | some b => b args | none => unsupported ((withoutEnding? id "#data").getD id)) _ s
  rw [hb]; exact h
theorem codeN_builtin {id : String} {args : Args} {b : Builtin} {Q : Flow → Shared → Prop} (hq : plainId id = true) (hb : entryFor table id = some b)
    (h : wpN (model prog w) A.in1 (b args) (fun fin s' => match fin with | .done f => Q f s' | .again c' => c'.quiet = true ∧ hold c' = false ∧ codeN (model prog w) A c' Q s') s) :
    codeN (model prog w) A (.builtin id args) Q s := by
  refine codeN_tree ?_
  rw [Around.under_plainId hq args]
  show wpN _ _ (match entryFor table id with | some b => b args | none => unsupported ((withoutEnding? id "#data").getD id)) _ s
  rw [hb]; exact h
theorem N_entry {T : String} {name : Str} {id : String} {b : Builtin} {self : Value} {rest : List Value} {Q : Value → Shared → Prop} (h : Slot T name id) (hT : s.TypeIs self T)
    (hb : entryFor table id = some b) (ho : badIds.contains id = false)
    (hc : wpN (model prog w) A.in1 (b ⟨self :: rest, []⟩) (fun fin s' => ∃ v, fin = .done (.ret v) ∧ Q v s') s)
    (ha : argsOk id ⟨self :: rest, []⟩) : wpN (model prog w) A (call (.builtin id) (self :: rest)) Q s := by
  refine N_call (codeN_tree ?_)
  show wpN _ A.in1 (do checkBuiltinCall id ⟨self :: rest, []⟩; again (.builtin id ⟨self :: rest, []⟩)) _ s
  refine N_bindA (h.check _ _ _ _ _ _ _ _ hT ha (N_pure ⟨plainId_quiet h.plain _, ho, ?_⟩))
  refine codeN_builtin h.plain hb (N_mono hc fun fin s' h' => ?_)
  obtain ⟨v, rfl, hv⟩ := h'
  exact ⟨v, rfl, hv⟩
end

abbrev baObj (b : Array UInt8) : Obj := { cls := .type "bytearray", data := .bytearray b }

namespace BF
theorem slot_append : Slot "bytearray" "append" "bytearray.append" :=
  .of (owner := "bytearray") (n := "append") (by rw [typeLookup_type, builtinLookup_eq_fast]; kernel_rfl) (by decide +kernel) (by decide +kernel) (by decide +kernel)
    (by first | exact .inl (by decide +kernel) | exact .inr (by decide +kernel)) (by rw [isSubtype_type]; kernel_rfl)
theorem entry_append : entryFor table "bytearray.append" = some Builtin.«bytearray.append» := entryFor_of_tree (by kernel_rfl)
theorem args_append (a b : Value) : argsOk "bytearray.append" ⟨[a, b], []⟩ := by unfold argsOk; kernel_rfl
theorem slot_extend : Slot "bytearray" "extend" "bytearray.extend" :=
  .of (owner := "bytearray") (n := "extend") (by rw [typeLookup_type, builtinLookup_eq_fast]; kernel_rfl) (by decide +kernel) (by decide +kernel) (by decide +kernel)
    (by first | exact .inl (by decide +kernel) | exact .inr (by decide +kernel)) (by rw [isSubtype_type]; kernel_rfl)
theorem entry_extend : entryFor table "bytearray.extend" = some Builtin.«bytearray.extend» := entryFor_of_tree (by kernel_rfl)
theorem args_extend (a b : Value) : argsOk "bytearray.extend" ⟨[a, b], []⟩ := by unfold argsOk; kernel_rfl
theorem buf_ba : typeLookup (.type "bytearray") "__buffer__" = pure (some (.builtin "bytearray.__buffer__")) := by rw [typeLookup_type, builtinLookup_eq_fast]; kernel_rfl
theorem rel_ba : typeLookup (.type "bytearray") "__release_buffer__" = pure (some (.builtin "bytearray.__release_buffer__")) := by rw [typeLookup_type, builtinLookup_eq_fast]; kernel_rfl
theorem getattr_ba : typeLookup (.type "bytearray") "__getattribute__" = pure (some (.builtin "bytearray.__getattribute__")) := by rw [typeLookup_type, builtinLookup_eq_fast]; kernel_rfl
theorem getattr2_ba : typeLookup (.type "bytearray") "__getattr__" = pure none := by rw [typeLookup_type, builtinLookup_eq_fast]; kernel_rfl
theorem can_ba : (Manifest.canonical "bytearray.__getattribute__" != "object.__getattribute__") = false := by decide +kernel
theorem ty_append : typeOf (.builtin "bytearray.append") = pure (.type "method_descriptor") := by show builtinType _ = _; rw [builtinType_eq_fast]; kernel_rfl
theorem ty_extend : typeOf (.builtin "bytearray.extend") = pure (.type "method_descriptor") := by show builtinType _ = _; rw [builtinType_eq_fast]; kernel_rfl
end BF

section
variable {prog : Program} {w : World} {A : Around} {s : Shared}

theorem N_checkResize {r : Addr} {b : Array UInt8} {Q : Unit → Shared → Prop} (hr : s.heap.get? r = some (baObj b)) (h : Q () s) : wpN (model prog w) A (Builtin.Bytes.checkResize (.ref r)) Q s := by
  unfold Builtin.Bytes.checkResize
  refine N_bind (N_bind (N_exported ?_))
  show wpN _ _ (Builtin.Bytes.exportsOf (.ref r) >>= fun n => pure (decide (n > 0))) _ _
  refine N_bindA ?_
  unfold Builtin.Bytes.exportsOf
  refine wpAny_bind (wpAny_load hr (wpAny_pure ?_))
  refine N_pure ?_
  refine N_ite ?_
  rw [if_neg (by decide)]
  exact N_pure h

theorem A_write {E : Value → Shared → Prop} {r : Addr} {b b' : Array UInt8} {f : Array UInt8 → Array UInt8} {Q : Unit → Shared → Prop} (hr : s.heap.get? r = some (baObj b)) (hf : f b = b') (hz : b'.size ≤ sizeLine)
    (h : ∀ h', h'.get? r = some (baObj b') → Heap.SameBut r s.heap h' → Q () { s with heap := h' }) : wpAny (model prog w) A (Builtin.Bytes.write (.ref r) f) Q E s := by
  show wpAny _ _ (updateBytearray r f) _ _ _
  unfold updateBytearray
  refine wpAny_bind (wpAny_load hr ?_)
  show wpAny _ _ (update r (Obj.mapBytearray f) >>= fun _ => lookBehind r) _ _ _
  refine wpAny_bind (wpAny_update hr ?_)
  have hS : (s.heap.update r (Obj.mapBytearray f)).get? r = some (baObj b') := by
    rw [← hf]; exact Heap.get?_update_self (Obj.mapBytearray f) hr rfl
  refine wpAny_lookBehind hS ?_ (h _ hS (Heap.SameBut.update ..))
  show (if b'.size > sizeLine then some "bytearray:memory" else none) = none
  rw [if_neg (Nat.not_lt.mpr hz)]

theorem N_append {r : Addr} {b : Array UInt8} {n : Int} {t : Tok} {Q : Value → Shared → Prop} (hr : s.heap.get? r = some (baObj b)) (h0 : 0 ≤ n) (h1 : n < 256) (hz : b.size + 1 ≤ sizeLine)
    (h : ∀ h', h'.get? r = some (baObj (b.push n.toNat.toUInt8)) → Heap.SameBut r s.heap h' → Q .none { s with heap := h' }) :
    wpN (model prog w) A (call (.builtin "bytearray.append") [.ref r, .int n t]) Q s := by
  refine N_entry BF.slot_append ⟨_, hr, rfl⟩ BF.entry_append (by decide +kernel) ?_ (BF.args_append _ _)
  unfold Builtin.«bytearray.append»
  refine N_bindA (wpAny_of_eq (a := (Value.ref r, Value.int n t)) rfl ?_)
  dsimp only
  refine N_bindA ?_
  unfold Builtin.Bytes.byteValue
  refine wpAny_bind (wpAny_of_eq (rfl : asIndex (.int n t) = pure n) ?_)
  refine bm_if_false (by simp only [Bool.or_eq_false_iff, decide_eq_false_iff_not]; omega) ?_
  refine wpAny_pure ?_
  refine N_bind (N_checkResize hr ?_)
  refine N_bindA (A_write hr rfl (by simpa using hz) fun h' h1' h2' => ?_)
  exact N_pure ⟨_, rfl, h h' h1' h2'⟩
end
end Mine
end
-- part BB
section
open PySem PySem.W PyProof.Rows
set_option maxRecDepth 100000
namespace Mine
namespace BF
theorem ends_bytes : ("bytes.__buffer__".endsWith ("." ++ "__buffer__")) = true := by decide +kernel
theorem drop_bytes : "bytes.__buffer__".dropRight ("__buffer__".length + 1) = "bytes" := by decide +kernel
theorem ends_ba : ("bytearray.__buffer__".endsWith ("." ++ "__buffer__")) = true := by decide +kernel
theorem drop_ba : "bytearray.__buffer__".dropRight ("__buffer__".length + 1) = "bytearray" := by decide +kernel
theorem ends_rel : ("bytearray.__release_buffer__".endsWith ("." ++ "__release_buffer__")) = true := by decide +kernel
theorem drop_rel : "bytearray.__release_buffer__".dropRight ("__release_buffer__".length + 1) = "bytearray" := by decide +kernel
end BF
section
variable {prog : Program} {w : World} {A : Around} {E : Value → Shared → Prop} {s : Shared}
theorem own_buf_bytes {b : Array UInt8} {t : Tok} {Q : Bool → Shared → Prop} (h : Q true s) : wpAny (model prog w) A (Builtin.Bytes.slotIsOwn (.bytes b t) "__buffer__") Q E s := by
  have hT : s.TypeIs (.bytes b t) "bytes" := typeIs_bytes s b t
  unfold Builtin.Bytes.slotIsOwn
  refine wpAny_bind (wpAny_specialOf hT KBy.look_buffer ?_)
  dsimp only
  rw [BF.ends_bytes, BF.drop_bytes]
  exact wpAny_isInstance hT PySem.F.bm_sub h
theorem own_rel_bytes {b : Array UInt8} {t : Tok} {Q : Bool → Shared → Prop} (h : Q false s) : wpAny (model prog w) A (Builtin.Bytes.ownRelease (.bytes b t)) Q E s := by
  have hT : s.TypeIs (.bytes b t) "bytes" := typeIs_bytes s b t
  unfold Builtin.Bytes.ownRelease Builtin.Bytes.slotIsOwn
  refine wpAny_bind (wpAny_bind (wpAny_specialOf hT KBy.look_release ?_))
  exact wpAny_pure (wpAny_pure h)
theorem A_buffer_bytes {id : String} {full : Bool} {b : Array UInt8} {t : Tok} {Q : Option (Array UInt8) → Shared → Prop} (h : Q (some b) s) : wpAny (model prog w) A (Builtin.Bytes.buffer? id (.bytes b t) full) Q E s := by
  have hT : s.TypeIs (.bytes b t) "bytes" := typeIs_bytes s b t
  unfold Builtin.Bytes.buffer?
  refine wpAny_bind (wpAny_specialOf hT KBy.look_buffer ?_)
  dsimp only
  refine wpAny_bind (own_buf_bytes ?_)
  simp only [Bool.not_true, Bool.false_eq_true, if_false]
  refine wpAny_bind (wpAny_specialOf hT KBy.look_buffer ?_)
  refine wpAny_bind (own_rel_bytes ?_)
  simp only [Bool.false_eq_true, if_false]
  refine wpAny_bind ?_
  unfold Builtin.Bytes.payload Builtin.Bytes.payload?
  exact wpAny_bind (wpAny_pure (wpAny_pure (wpAny_pure h)))
theorem A_take_bytes {id : String} {b : Array UInt8} {t : Tok} {Q : Option (Array UInt8 × Option Value) → Shared → Prop} (h : Q (some (b, none)) s) : wpAny (model prog w) A (Builtin.Bytes.takeBufferQuiet? id (.bytes b t) 0) Q E s := by
  have hT : s.TypeIs (.bytes b t) "bytes" := typeIs_bytes s b t
  unfold Builtin.Bytes.takeBufferQuiet?
  refine wpAny_bind (wpAny_attempt ?_)
  unfold Builtin.Bytes.takeBuffer?
  refine wpAny_bind (wpAny_specialOf hT KBy.look_buffer ?_)
  dsimp only
  refine wpAny_bind (own_buf_bytes ?_)
  simp only [Bool.not_true, Bool.false_eq_true, if_false]
  refine wpAny_bind (wpAny_specialOf hT KBy.look_buffer ?_)
  refine wpAny_bind (A_buffer_bytes ?_)
  exact wpAny_pure (wpAny_pure h)
theorem N_extend {r : Addr} {b c : Array UInt8} {t : Tok} {Q : Value → Shared → Prop} (hr : s.heap.get? r = some (baObj b)) (hz : (b ++ c).size ≤ sizeLine)
    (h : ∀ h', h'.get? r = some (baObj (b ++ c)) → Heap.SameBut r s.heap h' → Q .none { s with heap := h' }) :
    wpN (model prog w) A (call (.builtin "bytearray.extend") [.ref r, .bytes c t]) Q s := by
  have hT : s.TypeIs (.bytes c t) "bytes" := typeIs_bytes s c t
  refine N_entry BF.slot_extend ⟨_, hr, rfl⟩ BF.entry_extend (by decide +kernel) ?_ (BF.args_extend _ _)
  unfold Builtin.«bytearray.extend»
  refine N_bindA (wpAny_of_eq (a := (Value.ref r, Value.bytes c t)) rfl ?_)
  dsimp only
  refine N_bindA (wpAny_specialOf hT KBy.look_buffer ?_)
  refine N_tt rfl ?_
  refine N_bindA (wpAny_rule ?_)
  refine N_bindA ?_
  unfold Builtin.Bytes.payload Builtin.Bytes.payload?
  refine wpAny_bind (wpAny_bind (wpAny_load hr (wpAny_pure (wpAny_pure ?_))))
  refine N_bindA (A_take_bytes ?_)
  dsimp only
  refine N_tt rfl ?_
  have tail : wpN (model prog w) A.in1 (Builtin.Bytes.write (.ref r) (fun x => x ++ c) >>= fun _ => ret .none) (fun fin s' => ∃ v, fin = Fin.done (Flow.ret v) ∧ Q v s') s :=
    N_bindA (A_write hr rfl hz fun h' h1' h2' => N_pure ⟨_, rfl, h h' h1' h2'⟩)
  have body : wpN (model prog w) A.in1 (do
        if !c.isEmpty then Builtin.Bytes.checkResize (.ref r)
        Builtin.Bytes.write (.ref r) (fun x => x ++ c)
        ret .none) (fun fin s' => ∃ v, fin = Fin.done (Flow.ret v) ∧ Q v s') s := by
    cases he : c.isEmpty with
    | true => exact tail
    | false => exact N_bind (N_checkResize hr tail)
  exact body
theorem A_getMethod_ba {r : Addr} {b : Array UInt8} {name : Str} {id : String} {pl : Sem Bool} {Q : Value × List Value → Shared → Prop} (hr : s.heap.get? r = some (baObj b)) (sl : Slot "bytearray" name id) (ty : typeOf (.builtin id) = pure (.type "method_descriptor")) (h : Q (.builtin id, [.ref r]) s) :
    wpAny (model prog w) A (getMethod (.ref r) name pl) Q E s := by
  have hT : s.TypeIs (.ref r) "bytearray" := ⟨_, hr, rfl⟩
  unfold getMethod
  refine wpAny_bind (wpAny_specialOf hT BF.getattr_ba ?_)
  dsimp only
  rw [BF.can_ba]
  simp only [Bool.false_eq_true, if_false]
  refine wpAny_bind (wpAny_specialOf hT BF.getattr2_ba ?_)
  simp only [Option.isSome_none, Bool.false_eq_true, if_false]
  refine wpAny_bind (wpAny_specialOf hT sl.lookup ?_)
  dsimp only
  refine wpAny_bind (wpAny_of_eq ty ?_)
  refine bm_if_false (by decide) ?_
  refine wpAny_bind (wpAny_loadPart hr ?_)
  exact wpAny_bind (wpAny_rule (wpAny_pure h))
end
end Mine
end
-- part BC
section
open PySem PySem.W PyProof.Rows
set_option maxRecDepth 100000
namespace Mine
namespace BF
theorem mro_ba : mroOf (.type "bytearray") = pure [.type "bytearray", .type "object"] := by rw [mroOf_type]; kernel_rfl
theorem lookup_ba_new : typeLookup (.type "bytearray") "__new__" = pure (some (.builtin "bytearray.__new__")) := by rw [typeLookup_type, builtinLookup_eq_fast]; kernel_rfl
theorem slot_ba_init : Slot "bytearray" "__init__" "bytearray.__init__" :=
  .of (owner := "bytearray") (n := "__init__") (by rw [typeLookup_type, builtinLookup_eq_fast]; kernel_rfl) (by decide +kernel) (by decide +kernel) (by decide +kernel)
    (by first | exact .inl (by decide +kernel) | exact .inr (by decide +kernel)) (by rw [isSubtype_type]; kernel_rfl)
theorem called_ba : TypeCalled "bytearray" "bytearray.__new__" "bytearray.__init__" :=
  ⟨by decide +kernel, by decide +kernel, ⟨_, _, mro_ba⟩, madeBy_type mro_ba lookup_ba_new (by decide +kernel), by decide +kernel, by rw [isSubtype_type]; kernel_rfl, slot_ba_init⟩
theorem typeCall_ba : checkTypeCall "bytearray" ⟨[], []⟩ = pure () := by kernel_rfl
theorem newCall_ba : checkBuiltinCall "bytearray.__new__" ⟨[.type "bytearray"], []⟩ = pure () := by kernel_rfl
theorem plain_ba_new : plainId "bytearray.__new__" = true := by decide +kernel
theorem entry_ba_new : entryFor table "bytearray.__new__" = some Builtin.«list.__new__» :=
  entryFor_alias (id' := "list.__new__") (by rw [fastTable_eq_tree]; kernel_rfl) (by decide +kernel) (by decide +kernel) (by rw [fastTable_eq_tree]; kernel_rfl)
theorem entry_ba_init : entryFor table "bytearray.__init__" = some Builtin.«bytearray.__init__» := entryFor_of_tree (by kernel_rfl)
theorem bind_ba : Builtin.Bytes.bindOptional "bytearray.__init__" "bytearray" ["source", "encoding", "errors"] [] [] = pure [none, none, none] := by kernel_rfl
theorem args_ba_init (a : Value) : argsOk "bytearray.__init__" ⟨[a], []⟩ := by unfold argsOk; kernel_rfl
theorem nodict_ba : typeHasDict (.type "bytearray") = false := by decide +kernel
end BF
set_option maxRecDepth 1000000 in
set_option maxHeartbeats 4000000 in
theorem owner_ba_new : ("bytearray.__new__".splitOn ".__new__").headD "" = "bytearray" := by simp +decide [String.splitOn, String.splitOnAux]

section
variable {prog : Program} {w : World} {A : Around} {s : Shared}
theorem own_rel_ba {E : Value → Shared → Prop} {r : Addr} {b : Array UInt8} {Q : Bool → Shared → Prop} (hr : s.heap.get? r = some (baObj b)) (h : Q false s) : wpAny (model prog w) A (Builtin.Bytes.ownRelease (.ref r)) Q E s := by
  have hT : s.TypeIs (.ref r) "bytearray" := ⟨_, hr, rfl⟩
  unfold Builtin.Bytes.ownRelease Builtin.Bytes.slotIsOwn
  refine wpAny_bind (wpAny_bind (wpAny_specialOf hT BF.rel_ba ?_))
  dsimp only
  rw [BF.ends_rel, BF.drop_rel]
  exact wpAny_isInstance hT PySem.F.isi_self_bytearray (wpAny_pure h)
theorem B_tt {α : Type} {M : Model} {E : Value → Shared → Prop} {c : Bool} {a b : Sem α} {Q : α → Shared → Prop} (hc : c = true) (h : wpAny M A a Q E s) : wpAny M A (if c = true then a else b) Q E s := by
  subst hc; exact h
theorem B_ff {α : Type} {M : Model} {E : Value → Shared → Prop} {c : Bool} {a b : Sem α} {Q : α → Shared → Prop} (hc : c = false) (h : wpAny M A b Q E s) : wpAny M A (if c = true then a else b) Q E s := by
  subst hc; exact h
theorem code_ba_new {E : Value → Shared → Prop} {Q₁ : Value → Shared → Prop} (h : Q₁ (.ref s.heap.objs.size) { s with heap := s.heap.push (baObj #[]) }) :
    codeAny (model prog w) A (.call (.builtin "bytearray.__new__") ⟨[.type "bytearray"], []⟩) (wants Q₁ E) s := by
  refine codeAny_of_tree ?_
  show wpAny _ A.in1 (do checkBuiltinCall "bytearray.__new__" ⟨[.type "bytearray"], []⟩; again (.builtin "bytearray.__new__" ⟨[.type "bytearray"], []⟩)) _ _ s
  refine wpAny_bind (wpAny_of_eq BF.newCall_ba (wpAny_pure ⟨plainId_quiet BF.plain_ba_new _, codeAny_builtin_stack BF.entry_ba_new rfl fun p st => ?_⟩))
  rw [Around.under_plainId BF.plain_ba_new _]
  have hsub := PySem.F.isi_self_bytearray
  have hown := owner_ba_new
  have hnd : (!typeHasDict (.type "bytearray")) = true := by rw [BF.nodict_ba]; rfl
  obtain ⟨hp, g, d, tk, os⟩ := s
  dsimp only
  rw [hown]
  refine wpAny_bind (wpAny_pure ?_)
  refine B_ff rfl ?_
  refine wpAny_bind (wpAny_of_eq hsub ?_)
  refine B_ff rfl ?_
  refine wpAny_bind (wpAny_pure ?_)
  refine B_tt hnd ?_
  clear hsub hown hnd
  wp_walk
  exact h
theorem N_ba_init {r : Addr} {Q : Flow → Shared → Prop} (hr : s.heap.get? r = some (baObj #[])) (h : ∀ h', h'.get? r = some (baObj #[]) → Heap.SameBut r s.heap h' → Q (.ret .none) { s with heap := h' }) :
    codeN (model prog w) A (.call (.builtin "bytearray.__init__") ⟨[.ref r], []⟩) Q s := by
  refine codeN_tree ?_
  show wpN _ A.in1 (do checkBuiltinCall "bytearray.__init__" ⟨[.ref r], []⟩; again (.builtin "bytearray.__init__" ⟨[.ref r], []⟩)) _ s
  refine N_bindA (BF.slot_ba_init.check _ _ _ _ _ _ _ _ ⟨_, hr, rfl⟩ (BF.args_ba_init _) (N_pure ⟨plainId_quiet BF.slot_ba_init.plain _, (show badIds.contains "bytearray.__init__" = false by decide +kernel), ?_⟩))
  refine codeN_builtin BF.slot_ba_init.plain BF.entry_ba_init ?_
  unfold Builtin.«bytearray.__init__»
  dsimp only
  refine N_bindA (own_rel_ba hr ?_)
  refine N_ff rfl ?_
  refine N_bindA (wpAny_of_eq BF.bind_ba ?_)
  dsimp only
  refine N_bindA (wpAny_of_eq (a := ()) rfl ?_)
  refine N_bindA (wpAny_of_eq (a := ()) rfl ?_)
  refine N_bind (N_bind (N_exported ?_))
  show wpN _ _ (Builtin.Bytes.exportsOf (.ref r) >>= fun n => pure (decide (n > 0))) _ _
  refine N_bindA ?_
  unfold Builtin.Bytes.exportsOf
  refine wpAny_bind (wpAny_load hr (wpAny_pure ?_))
  refine N_pure ?_
  refine N_ff rfl ?_
  refine N_bindA (A_write hr rfl (Nat.zero_le _) fun h' h1' h2' => ?_)
  exact N_bind (N_ff rfl (N_ff rfl (N_pure (N_pure (h h' h1' h2')))))
theorem N_newBA {Q : Value → Shared → Prop} (h : ∀ h', h'.get? s.heap.objs.size = some (baObj #[]) → (∀ b o, s.heap.get? b = some o → h'.get? b = some o) → Q (.ref s.heap.objs.size) { s with heap := h' }) :
    wpN (model prog w) A (call (.type "bytearray") []) Q s := by
  obtain ⟨c, tl, hmro⟩ := BF.called_ba.mro
  have hmade := BF.called_ba.made
  refine N_call (codeN_tree ?_)
  show wpN _ _ (callAny (.type "bytearray") _) _ _
  refine N_pure ⟨Code.quiet_builtin _ (by decide +kernel), (show badIds.contains "type.__call__" = false by decide +kernel), codeN_builtin0 F.entry_type_call ?_⟩
  rw [Around.under_plain (weight_type_call_type "bytearray" [] []) rfl]
  have h1 := BF.called_ba.notType
  have h2 := BF.called_ba.canCreate
  unfold Builtin.«type.__call__»
  dsimp only
  refine N_ff h1 ?_
  refine N_ff h2 ?_
  refine N_bindA (wpAny_of_eq BF.typeCall_ba ?_)
  refine N_bindA (wpAny_of_eq BF.mro_ba ?_)
  refine N_ff rfl ?_
  refine N_bindA (wpAny_of_eq hmade ?_)
  dsimp only
  refine N_bindA (wpAny_pure ?_)
  refine N_bindA (wpAny_holding (wpAny_call (codeAny_mono (code_ba_new (E := fun _ _ => False) (Q₁ := fun v s' => v = .ref s.heap.objs.size ∧ s' = { s with heap := s.heap.push (baObj #[]) }) ⟨rfl, rfl⟩) fun r s' hr => ?_)))
  cases r with
  | error e => exact hr
  | ok fl =>
    cases fl with
    | ret obj =>
      obtain ⟨rfl, rfl⟩ := hr
      have hr : (s.heap.push (baObj #[])).get? s.heap.objs.size = some (baObj #[]) := Heap.get?_push_size _ rfl
      have hT : Shared.TypeIs { s with heap := s.heap.push (baObj #[]) } (.ref s.heap.objs.size) "bytearray" := ⟨_, hr, rfl⟩
      dsimp only
      refine N_bindA (wpAny_isInstance hT PySem.F.isi_self_bytearray ?_)
      refine N_ff rfl ?_
      refine N_bind (N_holding ?_)
      unfold callSpecial?
      refine N_bindA (wpAny_specialOf hT BF.slot_ba_init.lookup ?_)
      dsimp only
      refine N_holding (N_bindA (wpAny_of_eq (BF.slot_ba_init.bind _) ?_))
      dsimp only [List.append_nil]
      refine N_bind (N_call (codeN_mono (N_ba_init hr fun h' h1' h2' => (⟨.none, rfl, N_pure (N_ff rfl (N_pure ⟨_, rfl, h h' h1' fun b o e => (h2'.2 b (Nat.ne_of_lt (Heap.lt_size e))).trans (Heap.get?_push_of_some _ e)⟩))⟩ : _)) fun _ _ x => x))
    | _ => exact hr.elim
end
end Mine
end
-- part BD
section
open PySem PySem.W PyProof.Rows
set_option maxRecDepth 100000
namespace Mine
namespace BF
theorem no_bytes_ba : typeLookup (.type "bytearray") "__bytes__" = pure none := by rw [typeLookup_type, builtinLookup_eq_fast]; kernel_rfl
theorem no_index_ba : typeLookup (.type "bytearray") "__index__" = pure none := by rw [typeLookup_type, builtinLookup_eq_fast]; kernel_rfl
end BF
section
variable {prog : Program} {w : World} {A : Around} {E : Value → Shared → Prop} {s : Shared}
theorem A_buffer_ba {id : String} {full : Bool} {r : Addr} {b : Array UInt8} {Q : Option (Array UInt8) → Shared → Prop} (hr : s.heap.get? r = some (baObj b)) (h : Q (some b) s) : wpAny (model prog w) A (Builtin.Bytes.buffer? id (.ref r) full) Q E s := by
  have hT : s.TypeIs (.ref r) "bytearray" := ⟨_, hr, rfl⟩
  unfold Builtin.Bytes.buffer?
  refine wpAny_bind (wpAny_specialOf hT BF.buf_ba ?_)
  dsimp only
  refine wpAny_bind ?_
  unfold Builtin.Bytes.slotIsOwn
  refine wpAny_bind (wpAny_specialOf hT BF.buf_ba ?_)
  dsimp only
  rw [BF.ends_ba, BF.drop_ba]
  refine wpAny_isInstance hT PySem.F.isi_self_bytearray ?_
  simp only [Bool.not_true, Bool.false_eq_true, if_false]
  refine wpAny_bind (wpAny_specialOf hT BF.buf_ba ?_)
  refine wpAny_bind (own_rel_ba hr ?_)
  simp only [Bool.false_eq_true, if_false]
  refine wpAny_bind ?_
  unfold Builtin.Bytes.payload Builtin.Bytes.payload?
  exact wpAny_bind (wpAny_bind (wpAny_load hr (wpAny_pure (wpAny_pure (wpAny_pure h)))))
theorem A_bytes_ba {r : Addr} {b : Array UInt8} {Q : Value → Shared → Prop} (hr : s.heap.get? r = some (baObj b)) (hz : b.size ≤ sizeLine) (h : Q (.bytes b s.toks) { s with toks := s.toks + 1 }) :
    wpAny (model prog w) A (call (.type "bytes") [.ref r]) Q E s := by
  have hT : s.TypeIs (.ref r) "bytearray" := ⟨_, hr, rfl⟩
  refine callType_codes (Q₁ := fun obj s₁ => s₁.TypeIs obj "bytes" ∧ Q obj s₁) F.bm_called (F.bm_typeCall _) F.entry_object_init ?_ fun obj s₁ h₁ => ⟨h₁.1, F.args_object_init_2 obj _, object_init_meets F.bm_called.init.lookup F.bm_called.made (by decide) prog w A.in1 _ s₁ ⟨h₁.1, rfl, h₁.2⟩⟩
  refine codeAny_of_tree ?_
  show wpAny _ A.in1.in1 (do checkBuiltinCall "bytes.__new__" ⟨[.type "bytes", .ref r], []⟩; again (.builtin "bytes.__new__" ⟨[.type "bytes", .ref r], []⟩)) _ _ s
  refine wpAny_bind (wpAny_of_eq (F.bm_newCall _) (wpAny_pure ⟨plainId_quiet F.bm_plain _, codeAny_builtin F.bm_entry ?_⟩))
  rw [Around.under_plainId F.bm_plain _]
  unfold Builtin.«bytes.__new__»
  refine wpAny_bind (wpAny_of_eq (a := true) rfl ?_)
  refine bm_if_false rfl ?_
  refine wpAny_bind (wpAny_of_eq F.bm_sub ?_)
  refine bm_if_false rfl ?_
  refine wpAny_bind (wpAny_of_eq (F.bm_bind _) ?_)
  refine wpAny_bind (wpAny_of_eq (a := ()) rfl ?_)
  refine wpAny_bind (wpAny_of_eq (a := ()) rfl ?_)
  refine bm_if_false rfl ?_
  refine wpAny_bind (wpAny_specialOf hT BF.no_bytes_ba ?_)
  refine wpAny_bind (wpAny_bind ?_)
  show wpAny _ _ (load r >>= _) _ _ _
  refine wpAny_bind (wpAny_load hr ?_)
  refine wpAny_pure (wpAny_pure ?_)
  refine bm_if_false rfl ?_
  refine wpAny_bind (wpAny_specialOf hT BF.no_index_ba ?_)
  refine bm_if_true rfl ?_
  refine wpAny_bind (A_buffer_ba hr ?_)
  dsimp only
  refine wpAny_bind (wpAny_rule ?_)
  refine wpAny_bind (wpAny_mkBytes ?_ hz)
  exact wpAny_pure ⟨typeIs_bytes _ _ _, h⟩
end
end Mine
end
-- part F1
section
open PySem PySem.W PyProof.Rows
set_option maxRecDepth 100000
set_option maxHeartbeats 8000000
namespace Mine
theorem fill1 : PySem.Challenge.rw_ny0167_01 = PySem.Challenge.rw_ny0167_01 ∧ MineHd.hd.heap_1 = MineHd.hd.heap_1 := by
  k_fill
  exact ⟨rfl, rfl⟩

def Tf (j b : Int) : Int := max 1 (min 26 (36 * (j + 1) - b))

theorem T_k {prog : Program} {w : World} {A : Around} {s : Shared} {Q E : Value → Shared → Prop} {j b : Int} {t1 t2 : Tok} (G : Gd w s.heap) (r : Rm A 1)
    (h : ∀ t h' tk', s.heap.StaysIn h' → Q (.int (Tf j b) t) { s with heap := h', toks := tk' }) :
    wpAny (model prog w) A (call (.ref 21) [.int j t1, .int b t2]) Q E s := by
  obtain ⟨X, p, loose, mean, mg, mb, T⟩ := G
  (k_dflt (refine' enter ?eX ?eT ?eo ?ec ?er ?eb ?el ?eco ?ege ?ek ?ece ?_; (case eX => k_asm); (case eT => k_asm); (case eo => k_is); (case ec => k_is); (case er => exact Rm.depth (by assumption)); (case eb => exact BindsTo.of_eq rfl); (case el => exact locs rfl); (case eco => exact rfl); (case ege => exact rfl); (case ek => exact rfl); (case ece => decide); k_whole))
  intro L h₁ tk F N
  (try dsimp only)
  k_steps
  all_goals (refine Eq.mp (congrArg (fun x => Q (Value.int x _) _) ?_) (h _ _ _ (Fr.stays (by assumption))); unfold Tf; omega)
end Mine
end
-- part F2
section
open PySem PySem.W PyProof.Rows
namespace Mine
theorem anewF2 {M : Model} {A : Around} {E : Value → Shared → Prop} {s : Shared} {Q : Nat → Shared → Prop} (h : Q 0 s) : wpAny M A (pure 0) Q E s := by
  first | (walk1; exact h) | exact wpAny_pure h
end Mine
end
section
open PySem PySem.W PyProof.Rows
set_option maxRecDepth 100000
set_option maxHeartbeats 8000000
namespace Mine
theorem fill2 : PySem.Challenge.rw_ny0167_01 = PySem.Challenge.rw_ny0167_01 ∧ MineHd.hd.heap_1 = MineHd.hd.heap_1 := by
  k_fill
  exact ⟨rfl, rfl⟩
local macro_rules | `(tactic| walk_at "exec While Compare") => `(tactic| refine stop ?_)
local macro_rules | `(tactic| walk_at "exec While Compare cons nil") => `(tactic| refine stop ?_)
local macro_rules | `(tactic| walk_at "binaryOp FloorDiv int int") => `(tactic| refine stop ?_)
local macro_rules | `(tactic| walk_at "inplaceOp FloorDiv int int") => `(tactic| refine stop ?_)

def adl (d v : Int) : Int := if 455 < d then adl (d / 35) (v + 36) else v + 36 * d / (d + 38)
termination_by d.toNat
decreasing_by omega
def adf (d : Int) (b : Bool) (n : Int) : Int := let e := if b then d / 700 else d / 2; adl (e + e / n) 0

theorem adapt_k {prog : Program} {w : World} {A : Around} {s : Shared} {Q E : Value → Shared → Prop} {d n : Int} {b : Bool} {t1 t2 : Tok} (G : Gd w s.heap) (r : Rm A 1) (hd0 : 0 ≤ d) (hn : 1 ≤ n) (hn2 : n < 1000000)
    (h : ∀ t h' tk', s.heap.StaysIn h' → Q (.int (adf d b n) t) { s with heap := h', toks := tk' }) :
    wpAny (model prog w) A (call (.ref 35) [.int d t1, .bool b, .int n t2]) Q E s := by
  obtain ⟨X, p, loose, mean, mg, mb, T⟩ := G
  refine' enterF (binds := [("delta", .int d t1), ("first", .bool b), ("numchars", .int n t2)]) ?eX ?eT ?eo ?ec ?er ?eb ?el ?eco ?ege ?ek ?ece ?_
  ((case eX => k_asm); (case eT => k_asm); (case eo => k_dflt k_is); (case ec => k_dflt k_is); (case er => exact Rm.depth (by assumption)); (case eb => exact BindsTo.of_eq (by with_unfolding_all rfl)); (case el => exact locs rfl); (case eco => exact rfl); (case ege => exact rfl); (case ek => exact rfl); (case ece => decide); k_whole)
  intro L h₁ tk F N
  (try dsimp only)
  (k_steps; all_goals (repeat' (first | ((with_reducible refine unstop ?_); (first | (with_reducible (first | (((with_reducible refine' ifloordiv_int ?hb9 ?_ ?hp9); (case hb9 => omega); (case hp9 => exact Or.inl (PyProof.noPylong_small (by omega))))) | (((with_reducible refine' floordiv_int ?hb9 ?_ ?hp9); (case hb9 => omega); (case hp9 => exact Or.inl (PyProof.noPylong_small (by omega))))) | fail)) ); k_steps) | fail)))
  all_goals (
    unfold Stop
    refine while_inv (ι := Int × Int) (fun i s' => ∃ h' tk' m t t', s' = { s with heap := h', toks := tk' } ∧ Fr s.heap L h' m ∧ 0 ≤ i.1 ∧ adl i.1 i.2 = adf d b n ∧ m "delta" = some (.int i.1 t) ∧ m "divisions" = some (.int i.2 t')) (fun i => i.1.toNat) ?_ ?_
    · refine ⟨(_, 0), _, _, _, _, _, rfl, by assumption, ?_, ?_, rfl, rfl⟩
      · simp only [Int.fdiv_eq_ediv_of_nonneg _ (show (0 : Int) ≤ 700 by decide), Int.fdiv_eq_ediv_of_nonneg _ (show (0 : Int) ≤ 2 by decide), Int.fdiv_eq_ediv_of_nonneg _ (show (0 : Int) ≤ n by omega)]
        have h1 : ∀ x : Int, 0 ≤ x → 0 ≤ x / n := fun x hx => Int.ediv_nonneg hx (by omega)
        first | (have := h1 (d / 700) (by omega); omega) | (have := h1 (d / 2) (by omega); omega)
      · simp only [Int.fdiv_eq_ediv_of_nonneg _ (show (0 : Int) ≤ 700 by decide), Int.fdiv_eq_ediv_of_nonneg _ (show (0 : Int) ≤ 2 by decide), Int.fdiv_eq_ediv_of_nonneg _ (show (0 : Int) ≤ n by omega)]
        unfold adf
        simp_all
    · rintro ⟨d', v⟩ s' ⟨h', tk', m, t, t', rfl, F, h0, hr, hm1, hm2⟩
      replace F := Fr.view F [("delta", .int d' t), ("divisions", .int v t')] (by simp only [List.forall_mem_cons]; exact ⟨hm1, hm2, List.forall_mem_nil _⟩)
      have N : News s.heap L h' [] := News.nil
      dsimp only at h0 hr hm1 hm2 F
      (k_steps; all_goals (repeat' (first | ((with_reducible refine unstop ?_); (first | (with_reducible (first | (((with_reducible refine' ifloordiv_int ?hb9 ?_ ?hp9); (case hb9 => omega); (case hp9 => exact Or.inl (PyProof.noPylong_small (by omega))))) | (((with_reducible refine' floordiv_int ?hb9 ?_ ?hp9); (case hb9 => omega); (case hp9 => exact Or.inl (PyProof.noPylong_small (by omega))))) | fail)) ); k_steps) | fail)))
      · refine ⟨(d'.fdiv 35, v + 36), ?_, _, _, _, _, _, rfl, by assumption, ?_, ?_, rfl, rfl⟩
        · simp only [Int.fdiv_eq_ediv_of_nonneg _ (show (0 : Int) ≤ 35 by decide)]; omega
        · simp only [Int.fdiv_eq_ediv_of_nonneg _ (show (0 : Int) ≤ 35 by decide)]; omega
        · simp only [Int.fdiv_eq_ediv_of_nonneg _ (show (0 : Int) ≤ 35 by decide)]
          rw [← hr, adl.eq_1 d' v, if_pos (by omega)]
      · refine Eq.mp (congrArg (fun x => Q (Value.int x _) _) ?_) (h _ _ _ (Fr.stays (by assumption)))
        rw [← hr, adl.eq_1 d' v, if_neg (by omega), Int.fdiv_eq_ediv_of_nonneg _ (by omega)])
end Mine
end
-- part F3
section
open PySem PySem.W PyProof.Rows
namespace Mine
theorem anewF3 {M : Model} {A : Around} {E : Value → Shared → Prop} {s : Shared} {Q : Nat → Shared → Prop} (h : Q 0 s) : wpAny M A (pure 0) Q E s := by
  first | (walk1; exact h) | exact wpAny_pure h
end Mine
end
section
open PySem PySem.W PyProof.Rows
set_option maxRecDepth 100000
set_option maxHeartbeats 1000000
namespace Mine
theorem fill3 : PySem.Challenge.rw_ny0167_01 = PySem.Challenge.rw_ny0167_01 ∧ MineHd.hd.heap_1 = MineHd.hd.heap_1 := by
  k_fill
  exact ⟨rfl, rfl⟩

local macro_rules | `(tactic| walk_at "call ref") => `(tactic| refine stop ?_)

local macro_rules | `(tactic| walk_at "getMethod ref") => `(tactic| refine stop ?_)

local macro_rules | `(tactic| walk_at "call type:bytes") => `(tactic| refine stop ?_)
local macro_rules | `(tactic| walk_at "binaryOp FloorDiv int int") => `(tactic| refine stop ?_)
def dL : List UInt8 := [97, 98, 99, 100, 101, 102, 103, 104, 105, 106, 107, 108, 109, 110, 111, 112, 113, 114, 115, 116, 117, 118, 119, 120, 121, 122, 48, 49, 50, 51, 52, 53, 54, 55, 56, 57]
def dg (n : Int) : UInt8 := dL.getD n.toNat 0
theorem Tf_lo (j b : Int) : 1 ≤ Tf j b := by unfold Tf; omega
theorem Tf_hi (j b : Int) : Tf j b ≤ 26 := by unfold Tf; omega
theorem div_small {N t : Int} (h1 : t ≤ N) (h2 : 1 ≤ t) (h3 : t ≤ 26) : 0 ≤ (N - t) / (36 - t) ∧ (N - t) / (36 - t) * 10 ≤ N ∧ (N - t) / (36 - t) < N := by
  have h4 : 0 ≤ (N - t) / (36 - t) := Int.ediv_nonneg (by omega) (by omega)
  have h5 : (N - t) / (36 - t) * (36 - t) ≤ N - t := Int.ediv_mul_le _ (by omega)
  have h6 : (N - t) / (36 - t) * 10 ≤ (N - t) / (36 - t) * (36 - t) := Int.mul_le_mul_of_nonneg_left (by omega) h4
  exact ⟨h4, by omega, by omega⟩
def ggiF (N j b : Int) : List UInt8 := if h : Tf j b ≤ N then dg (Tf j b + (N - Tf j b) % (36 - Tf j b)) :: ggiF ((N - Tf j b) / (36 - Tf j b)) (j + 1) b else [dg N]
termination_by N.toNat
decreasing_by
  have := div_small h (Tf_lo j b) (Tf_hi j b)
  omega

theorem u8_back (x : UInt8) : ((x.toNat : Int)).toNat.toUInt8 = x := by simp
theorem ggiF_stop {N j b : Int} (h : N < Tf j b) : ggiF N j b = [dg N] := by rw [ggiF, dif_neg (by omega)]
theorem ggiF_go {N j b : Int} (h : Tf j b ≤ N) : ggiF N j b = dg (Tf j b + (N - Tf j b) % (36 - Tf j b)) :: ggiF ((N - Tf j b) / (36 - Tf j b)) (j + 1) b := by rw [ggiF, dif_pos h]
theorem pow10_step {q N : Int} {k : Nat} (_h0 : 0 ≤ q) (h1 : q * 10 ≤ N) (h2 : N < 10 ^ k) (h3 : 1 ≤ N) : ∃ k', k = k' + 1 ∧ q < 10 ^ k' := by
  cases k with
  | zero => simp at h2; omega
  | succ k => exact ⟨k, rfl, by rw [Int.pow_succ] at h2; omega⟩

theorem ggi_endA {acc R : Array UInt8} {N j b : Int} (hacc : acc ++ (ggiF N j b).toArray = R) (h : N < Tf j b) : R = acc.push (((dg N).toNat : Int)).toNat.toUInt8 := by
  rw [← hacc, ggiF_stop h, u8_back]; simp
theorem ggi_endB {acc R : Array UInt8} {N j b : Int} (hacc : acc ++ (ggiF N j b).toArray = R) (h : Tf j b ≤ N) :
    acc.push (((dg (Tf j b + (N - Tf j b).fmod (36 - Tf j b))).toNat : Int)).toNat.toUInt8 ++ (ggiF ((N - Tf j b).fdiv (36 - Tf j b)) (j + 1) b).toArray = R := by
  have h2 := Tf_hi j b
  rw [← hacc, ggiF_go h, u8_back, Int.fdiv_eq_ediv_of_nonneg _ (by omega), Int.fmod_eq_emod_of_nonneg _ (by omega)]
  simp
theorem ggi_endC {N j b : Int} {k : Nat} (h : Tf j b ≤ N) (h10 : N < 10 ^ k) : 0 ≤ (N - Tf j b).fdiv (36 - Tf j b) ∧ ∃ k', k = k' + 1 ∧ (N - Tf j b).fdiv (36 - Tf j b) < 10 ^ k' := by
  have h1 := Tf_lo j b
  have h2 := Tf_hi j b
  rw [Int.fdiv_eq_ediv_of_nonneg _ (by omega)]
  have hd := div_small h h1 h2
  exact ⟨hd.1, pow10_step hd.1 hd.2.1 h10 (by omega)⟩
theorem dg_lt (n : Int) : ((dg n).toNat : Int) < 256 := Int.ofNat_lt.mpr (UInt8.toNat_lt (dg n))
theorem size_ok {a k : Nat} (h : a + k ≤ 40) : a + 1 ≤ sizeLine := by rw [sizeLine_eq]; omega

theorem ggi_k {prog : Program} {w : World} {A : Around} {s : Shared} {Q : Value → Shared → Prop} {n b : Int} {t1 t2 : Tok} (G : Gd w s.heap) (r : Rm A 2) (hN0 : 0 ≤ n) (hN : n < 10 ^ 31)
    (h : ∀ t h' tk', s.heap.StaysIn h' → Q (.bytes (ggiF n 0 b).toArray t) { s with heap := h', toks := tk' }) :
    wpN (model prog w) A (call (.ref 28) [.int n t1, .int b t2]) Q s := by
  obtain ⟨X, p, loose, mean, mg, mb, T⟩ := id G
  refine' enterN (binds := [("N", .int n t1), ("bias", .int b t2)]) ?eX ?eT ?eo ?ec ?er ?eb ?el ?eco ?ege ?ek ?ece ?_
  ((case eX => k_asm); (case eT => k_asm); (case eo => k_dflt k_is); (case ec => k_dflt k_is); (case er => exact Rm.depth (by assumption)); (case eb => exact BindsTo.of_eq (by with_unfolding_all rfl)); (case el => exact locs rfl); (case eco => exact rfl); (case ege => exact rfl); (case ek => exact rfl); (case ece => decide); k_whole)
  intro L h₁ tk F N
  (try dsimp only)
  refine N_cons (N_Assign (N_Call ?_))
  (k_steps; all_goals (repeat' (first | ((with_reducible refine unstop ?_); (first | (with_reducible (first | (((with_reducible refine' floordiv_int ?hb9 ?_ ?hp9); (case hb9 => omega); (case hp9 => exact Or.inl (PyProof.noPylong_small (by omega))))) | ((k_here; k_dflt (refine' A_bytes_ba ?g1 ?g2 ?_; (case g1 => exact News.get (by assumption) (by k_mem)); (case g2 => (simp only [Array.size_push, sizeLine_eq]; omega))))) | ((k_here; k_dflt (first | (refine' A_getMethod_ba ?g1 BF.slot_append BF.ty_append ?_; (case g1 => exact News.get (by assumption) (by k_mem))) | (refine' A_getMethod_ba ?g1 BF.slot_extend BF.ty_extend ?_; (case g1 => exact News.get (by assumption) (by k_mem)))))) | ((k_here; (with_reducible refine' T_k ?g9 ?r9 ?_); (case g9 => exact Gd.keeps (by assumption) (Fr.stays (by assumption))); (case r9 => exact Rm.to (by assumption) (by decide)); intro zzt9 zzh9 zztk9 zzk9; (have zzF9 := Fr.grow (by assumption) zzk9); (have zzN9 := News.grow (by assumption) zzk9); (try k_sweep))) | fail)) ); k_steps) | fail)))
  refine N_callWithT rfl (evalArgs_nil3 ⟨rfl, ?_⟩)
  dsimp only [List.nil_append]
  refine N_newBA fun h2 hb hk => ?_
  dsimp only at hb hk
  have F2 := Fr.grow (by assumption) hk
  have N2 := News.fresh1 (by assumption) (by assumption) hk hb
  clear hb hk
  generalize h₁.objs.size = r1 at *
  k_sweep
  (k_steps; all_goals (repeat' (first | ((with_reducible refine unstop ?_); (first | (with_reducible (first | (((with_reducible refine' floordiv_int ?hb9 ?_ ?hp9); (case hb9 => omega); (case hp9 => exact Or.inl (PyProof.noPylong_small (by omega))))) | ((k_here; k_dflt (refine' A_bytes_ba ?g1 ?g2 ?_; (case g1 => exact News.get (by assumption) (by k_mem)); (case g2 => (simp only [Array.size_push, sizeLine_eq]; omega))))) | ((k_here; k_dflt (first | (refine' A_getMethod_ba ?g1 BF.slot_append BF.ty_append ?_; (case g1 => exact News.get (by assumption) (by k_mem))) | (refine' A_getMethod_ba ?g1 BF.slot_extend BF.ty_extend ?_; (case g1 => exact News.get (by assumption) (by k_mem)))))) | ((k_here; (with_reducible refine' T_k ?g9 ?r9 ?_); (case g9 => exact Gd.keeps (by assumption) (Fr.stays (by assumption))); (case r9 => exact Rm.to (by assumption) (by decide)); intro zzt9 zzh9 zztk9 zzk9; (have zzF9 := Fr.grow (by assumption) zzk9); (have zzN9 := News.grow (by assumption) zzk9); (try k_sweep))) | fail)) ); k_steps) | fail)))
  refine N_consA ?_
  (k_steps; all_goals (repeat' (first | ((with_reducible refine unstop ?_); (first | (with_reducible (first | (((with_reducible refine' floordiv_int ?hb9 ?_ ?hp9); (case hb9 => omega); (case hp9 => exact Or.inl (PyProof.noPylong_small (by omega))))) | ((k_here; k_dflt (refine' A_bytes_ba ?g1 ?g2 ?_; (case g1 => exact News.get (by assumption) (by k_mem)); (case g2 => (simp only [Array.size_push, sizeLine_eq]; omega))))) | ((k_here; k_dflt (first | (refine' A_getMethod_ba ?g1 BF.slot_append BF.ty_append ?_; (case g1 => exact News.get (by assumption) (by k_mem))) | (refine' A_getMethod_ba ?g1 BF.slot_extend BF.ty_extend ?_; (case g1 => exact News.get (by assumption) (by k_mem)))))) | ((k_here; (with_reducible refine' T_k ?g9 ?r9 ?_); (case g9 => exact Gd.keeps (by assumption) (Fr.stays (by assumption))); (case r9 => exact Rm.to (by assumption) (by decide)); intro zzt9 zzh9 zztk9 zzk9; (have zzF9 := Fr.grow (by assumption) zzk9); (have zzN9 := News.grow (by assumption) zzk9); (try k_sweep))) | fail)) ); k_steps) | fail)))
  refine N_cons (N_while (ι := Int × Int × Array UInt8 × Nat) (fun i s' => ∃ h' tk' m t t' t'', s' = { s with heap := h', toks := tk' } ∧ Fr s.heap L h' m ∧ News s.heap L h' [(r1, baObj i.2.2.1)] ∧ 0 ≤ i.1 ∧ i.1 < 10 ^ i.2.2.2 ∧ i.2.2.1.size + i.2.2.2 ≤ 40 ∧ i.2.2.1 ++ (ggiF i.1 i.2.1 b).toArray = (ggiF n 0 b).toArray ∧
     m "N" = some (.int i.1 t) ∧ m "j" = some (.int i.2.1 t') ∧ m "result" = some (.ref r1) ∧ m "bias" = some (.int b t'')) (fun i => i.2.2.2) ?_ ?_)
  · exact ⟨(n, 0, #[], 31), _, _, _, _, _, _, rfl, by assumption, by assumption, hN0, hN, (by show 0 + 31 ≤ 40; decide), (by simp), rfl, rfl, rfl, rfl⟩
  · rintro ⟨N, j, acc, k⟩ s' ⟨h', tk', m, t, t', t'', rfl, F, N9, h0, h10, hsz, hacc, hm1, hm2, hm3, hm4⟩
    replace F := Fr.view F [("N", .int N t), ("j", .int j t'), ("result", .ref r1), ("bias", .int b t'')] (by simp only [List.forall_mem_cons]; exact ⟨hm1, hm2, hm3, hm4, List.forall_mem_nil _⟩)
    dsimp only at h0 h10 hsz N9 hacc
    clear hm1 hm2 hm3 hm4
    have hT1 := Tf_lo j b
    have hT2 := Tf_hi j b
    (k_steps; all_goals (repeat' (first | ((with_reducible refine unstop ?_); (first | (with_reducible (first | (((with_reducible refine' floordiv_int ?hb9 ?_ ?hp9); (case hb9 => omega); (case hp9 => exact Or.inl (PyProof.noPylong_small (by omega))))) | ((k_here; k_dflt (refine' A_bytes_ba ?g1 ?g2 ?_; (case g1 => exact News.get (by assumption) (by k_mem)); (case g2 => (simp only [Array.size_push, sizeLine_eq]; omega))))) | ((k_here; k_dflt (first | (refine' A_getMethod_ba ?g1 BF.slot_append BF.ty_append ?_; (case g1 => exact News.get (by assumption) (by k_mem))) | (refine' A_getMethod_ba ?g1 BF.slot_extend BF.ty_extend ?_; (case g1 => exact News.get (by assumption) (by k_mem)))))) | ((k_here; (with_reducible refine' T_k ?g9 ?r9 ?_); (case g9 => exact Gd.keeps (by assumption) (Fr.stays (by assumption))); (case r9 => exact Rm.to (by assumption) (by decide)); intro zzt9 zzh9 zztk9 zzk9; (have zzF9 := Fr.grow (by assumption) zzk9); (have zzN9 := News.grow (by assumption) zzk9); (try k_sweep))) | fail)) ); k_steps) | fail)))
    refine N_consA ?_
    (k_steps; all_goals (repeat' (first | ((with_reducible refine unstop ?_); (first | (with_reducible (first | (((with_reducible refine' floordiv_int ?hb9 ?_ ?hp9); (case hb9 => omega); (case hp9 => exact Or.inl (PyProof.noPylong_small (by omega))))) | ((k_here; k_dflt (refine' A_bytes_ba ?g1 ?g2 ?_; (case g1 => exact News.get (by assumption) (by k_mem)); (case g2 => (simp only [Array.size_push, sizeLine_eq]; omega))))) | ((k_here; k_dflt (first | (refine' A_getMethod_ba ?g1 BF.slot_append BF.ty_append ?_; (case g1 => exact News.get (by assumption) (by k_mem))) | (refine' A_getMethod_ba ?g1 BF.slot_extend BF.ty_extend ?_; (case g1 => exact News.get (by assumption) (by k_mem)))))) | ((k_here; (with_reducible refine' T_k ?g9 ?r9 ?_); (case g9 => exact Gd.keeps (by assumption) (Fr.stays (by assumption))); (case r9 => exact Rm.to (by assumption) (by decide)); intro zzt9 zzh9 zztk9 zzk9; (have zzF9 := Fr.grow (by assumption) zzk9); (have zzN9 := News.grow (by assumption) zzk9); (try k_sweep))) | fail)) ); k_steps) | fail)))
    refine N_cons (N_If ?_)
    (k_steps; all_goals (repeat' (first | ((with_reducible refine unstop ?_); (first | (with_reducible (first | (((with_reducible refine' floordiv_int ?hb9 ?_ ?hp9); (case hb9 => omega); (case hp9 => exact Or.inl (PyProof.noPylong_small (by omega))))) | ((k_here; k_dflt (refine' A_bytes_ba ?g1 ?g2 ?_; (case g1 => exact News.get (by assumption) (by k_mem)); (case g2 => (simp only [Array.size_push, sizeLine_eq]; omega))))) | ((k_here; k_dflt (first | (refine' A_getMethod_ba ?g1 BF.slot_append BF.ty_append ?_; (case g1 => exact News.get (by assumption) (by k_mem))) | (refine' A_getMethod_ba ?g1 BF.slot_extend BF.ty_extend ?_; (case g1 => exact News.get (by assumption) (by k_mem)))))) | ((k_here; (with_reducible refine' T_k ?g9 ?r9 ?_); (case g9 => exact Gd.keeps (by assumption) (Fr.stays (by assumption))); (case r9 => exact Rm.to (by assumption) (by decide)); intro zzt9 zzh9 zztk9 zzk9; (have zzF9 := Fr.grow (by assumption) zzk9); (have zzN9 := News.grow (by assumption) zzk9); (try k_sweep))) | fail)) ); k_steps) | fail)))
    · refine N_cons (N_Expr (N_Meth ?_))
      (k_steps; all_goals (repeat' (first | ((with_reducible refine unstop ?_); (first | (with_reducible (first | (((with_reducible refine' floordiv_int ?hb9 ?_ ?hp9); (case hb9 => omega); (case hp9 => exact Or.inl (PyProof.noPylong_small (by omega))))) | ((k_here; k_dflt (refine' A_bytes_ba ?g1 ?g2 ?_; (case g1 => exact News.get (by assumption) (by k_mem)); (case g2 => (simp only [Array.size_push, sizeLine_eq]; omega))))) | ((k_here; k_dflt (first | (refine' A_getMethod_ba ?g1 BF.slot_append BF.ty_append ?_; (case g1 => exact News.get (by assumption) (by k_mem))) | (refine' A_getMethod_ba ?g1 BF.slot_extend BF.ty_extend ?_; (case g1 => exact News.get (by assumption) (by k_mem)))))) | ((k_here; (with_reducible refine' T_k ?g9 ?r9 ?_); (case g9 => exact Gd.keeps (by assumption) (Fr.stays (by assumption))); (case r9 => exact Rm.to (by assumption) (by decide)); intro zzt9 zzh9 zztk9 zzk9; (have zzF9 := Fr.grow (by assumption) zzk9); (have zzN9 := News.grow (by assumption) zzk9); (try k_sweep))) | fail)) ); k_steps) | fail)))
      refine N_callB1 ?_
      (k_steps; all_goals (repeat' (first | ((with_reducible refine unstop ?_); (first | (with_reducible (first | (((with_reducible refine' floordiv_int ?hb9 ?_ ?hp9); (case hb9 => omega); (case hp9 => exact Or.inl (PyProof.noPylong_small (by omega))))) | ((k_here; k_dflt (refine' A_bytes_ba ?g1 ?g2 ?_; (case g1 => exact News.get (by assumption) (by k_mem)); (case g2 => (simp only [Array.size_push, sizeLine_eq]; omega))))) | ((k_here; k_dflt (first | (refine' A_getMethod_ba ?g1 BF.slot_append BF.ty_append ?_; (case g1 => exact News.get (by assumption) (by k_mem))) | (refine' A_getMethod_ba ?g1 BF.slot_extend BF.ty_extend ?_; (case g1 => exact News.get (by assumption) (by k_mem)))))) | ((k_here; (with_reducible refine' T_k ?g9 ?r9 ?_); (case g9 => exact Gd.keeps (by assumption) (Fr.stays (by assumption))); (case r9 => exact Rm.to (by assumption) (by decide)); intro zzt9 zzh9 zztk9 zzk9; (have zzF9 := Fr.grow (by assumption) zzk9); (have zzN9 := News.grow (by assumption) zzk9); (try k_sweep))) | fail)) ); k_steps) | fail)))
      refine N_append (News.get (by assumption) (by k_mem)) (Int.natCast_nonneg _) (dg_lt N) (size_ok hsz) fun h3 e3 sb3 => ⟨rfl, ?_⟩
      obtain ⟨F3, N3⟩ := upd1 (by assumption) (by assumption) sb3 e3
      clear sb3 e3
      k_sweep
      refine N_consA ?_
      (k_steps; all_goals (repeat' (first | ((with_reducible refine unstop ?_); (first | (with_reducible (first | (((with_reducible refine' floordiv_int ?hb9 ?_ ?hp9); (case hb9 => omega); (case hp9 => exact Or.inl (PyProof.noPylong_small (by omega))))) | ((k_here; k_dflt (refine' A_bytes_ba ?g1 ?g2 ?_; (case g1 => exact News.get (by assumption) (by k_mem)); (case g2 => (simp only [Array.size_push, sizeLine_eq]; omega))))) | ((k_here; k_dflt (first | (refine' A_getMethod_ba ?g1 BF.slot_append BF.ty_append ?_; (case g1 => exact News.get (by assumption) (by k_mem))) | (refine' A_getMethod_ba ?g1 BF.slot_extend BF.ty_extend ?_; (case g1 => exact News.get (by assumption) (by k_mem)))))) | ((k_here; (with_reducible refine' T_k ?g9 ?r9 ?_); (case g9 => exact Gd.keeps (by assumption) (Fr.stays (by assumption))); (case r9 => exact Rm.to (by assumption) (by decide)); intro zzt9 zzh9 zztk9 zzk9; (have zzF9 := Fr.grow (by assumption) zzk9); (have zzN9 := News.grow (by assumption) zzk9); (try k_sweep))) | fail)) ); k_steps) | fail)))
      exact Eq.mp (congrArg (fun x => Q (Value.bytes x _) _) (ggi_endA hacc (by assumption))) (h _ _ _ (Fr.stays (by assumption)))
    · refine N_nil ?_
      dsimp only
      have hf0 := Int.fmod_nonneg_of_pos (N - Tf j b) (show 0 < 36 - Tf j b by omega)
      have hf1 := Int.fmod_lt_of_pos (N - Tf j b) (show 0 < 36 - Tf j b by omega)
      refine N_cons (N_Expr (N_Meth ?_))
      (k_steps; all_goals (repeat' (first | ((with_reducible refine unstop ?_); (first | (with_reducible (first | (((with_reducible refine' floordiv_int ?hb9 ?_ ?hp9); (case hb9 => omega); (case hp9 => exact Or.inl (PyProof.noPylong_small (by omega))))) | ((k_here; k_dflt (refine' A_bytes_ba ?g1 ?g2 ?_; (case g1 => exact News.get (by assumption) (by k_mem)); (case g2 => (simp only [Array.size_push, sizeLine_eq]; omega))))) | ((k_here; k_dflt (first | (refine' A_getMethod_ba ?g1 BF.slot_append BF.ty_append ?_; (case g1 => exact News.get (by assumption) (by k_mem))) | (refine' A_getMethod_ba ?g1 BF.slot_extend BF.ty_extend ?_; (case g1 => exact News.get (by assumption) (by k_mem)))))) | ((k_here; (with_reducible refine' T_k ?g9 ?r9 ?_); (case g9 => exact Gd.keeps (by assumption) (Fr.stays (by assumption))); (case r9 => exact Rm.to (by assumption) (by decide)); intro zzt9 zzh9 zztk9 zzk9; (have zzF9 := Fr.grow (by assumption) zzk9); (have zzN9 := News.grow (by assumption) zzk9); (try k_sweep))) | fail)) ); k_steps) | fail)))
      refine N_callB1 ?_
      (k_steps; all_goals (repeat' (first | ((with_reducible refine unstop ?_); (first | (with_reducible (first | (((with_reducible refine' floordiv_int ?hb9 ?_ ?hp9); (case hb9 => omega); (case hp9 => exact Or.inl (PyProof.noPylong_small (by omega))))) | ((k_here; k_dflt (refine' A_bytes_ba ?g1 ?g2 ?_; (case g1 => exact News.get (by assumption) (by k_mem)); (case g2 => (simp only [Array.size_push, sizeLine_eq]; omega))))) | ((k_here; k_dflt (first | (refine' A_getMethod_ba ?g1 BF.slot_append BF.ty_append ?_; (case g1 => exact News.get (by assumption) (by k_mem))) | (refine' A_getMethod_ba ?g1 BF.slot_extend BF.ty_extend ?_; (case g1 => exact News.get (by assumption) (by k_mem)))))) | ((k_here; (with_reducible refine' T_k ?g9 ?r9 ?_); (case g9 => exact Gd.keeps (by assumption) (Fr.stays (by assumption))); (case r9 => exact Rm.to (by assumption) (by decide)); intro zzt9 zzh9 zztk9 zzk9; (have zzF9 := Fr.grow (by assumption) zzk9); (have zzN9 := News.grow (by assumption) zzk9); (try k_sweep))) | fail)) ); k_steps) | fail)))
      refine N_append (News.get (by assumption) (by k_mem)) (Int.natCast_nonneg _) (dg_lt _) (size_ok hsz) fun h3 e3 sb3 => ⟨rfl, ?_⟩
      obtain ⟨F3, N3⟩ := upd1 (by assumption) (by assumption) sb3 e3
      clear sb3 e3
      k_sweep
      refine N_consA ?_
      (k_steps; all_goals (repeat' (first | ((with_reducible refine unstop ?_); (first | (with_reducible (first | (((with_reducible refine' floordiv_int ?hb9 ?_ ?hp9); (case hb9 => omega); (case hp9 => exact Or.inl (PyProof.noPylong_small (by omega))))) | ((k_here; k_dflt (refine' A_bytes_ba ?g1 ?g2 ?_; (case g1 => exact News.get (by assumption) (by k_mem)); (case g2 => (simp only [Array.size_push, sizeLine_eq]; omega))))) | ((k_here; k_dflt (first | (refine' A_getMethod_ba ?g1 BF.slot_append BF.ty_append ?_; (case g1 => exact News.get (by assumption) (by k_mem))) | (refine' A_getMethod_ba ?g1 BF.slot_extend BF.ty_extend ?_; (case g1 => exact News.get (by assumption) (by k_mem)))))) | ((k_here; (with_reducible refine' T_k ?g9 ?r9 ?_); (case g9 => exact Gd.keeps (by assumption) (Fr.stays (by assumption))); (case r9 => exact Rm.to (by assumption) (by decide)); intro zzt9 zzh9 zztk9 zzk9; (have zzF9 := Fr.grow (by assumption) zzk9); (have zzN9 := News.grow (by assumption) zzk9); (try k_sweep))) | fail)) ); k_steps) | fail)))
      refine N_consA ?_
      (k_steps; all_goals (repeat' (first | ((with_reducible refine unstop ?_); (first | (with_reducible (first | (((with_reducible refine' floordiv_int ?hb9 ?_ ?hp9); (case hb9 => omega); (case hp9 => exact Or.inl (PyProof.noPylong_small (by omega))))) | ((k_here; k_dflt (refine' A_bytes_ba ?g1 ?g2 ?_; (case g1 => exact News.get (by assumption) (by k_mem)); (case g2 => (simp only [Array.size_push, sizeLine_eq]; omega))))) | ((k_here; k_dflt (first | (refine' A_getMethod_ba ?g1 BF.slot_append BF.ty_append ?_; (case g1 => exact News.get (by assumption) (by k_mem))) | (refine' A_getMethod_ba ?g1 BF.slot_extend BF.ty_extend ?_; (case g1 => exact News.get (by assumption) (by k_mem)))))) | ((k_here; (with_reducible refine' T_k ?g9 ?r9 ?_); (case g9 => exact Gd.keeps (by assumption) (Fr.stays (by assumption))); (case r9 => exact Rm.to (by assumption) (by decide)); intro zzt9 zzh9 zztk9 zzk9; (have zzF9 := Fr.grow (by assumption) zzk9); (have zzN9 := News.grow (by assumption) zzk9); (try k_sweep))) | fail)) ); k_steps) | fail)))
      refine N_nil ?_
      have hle : Tf j b ≤ N := by omega
      have q9 := ggi_endC hle h10
      refine Exists.elim q9.2 fun k' hk => ?_
      have hs' : ∀ x : UInt8, (acc.push x).size + k' ≤ 40 := fun x => by rw [Array.size_push]; omega
      refine ⟨((N - Tf j b).fdiv (36 - Tf j b), j + 1, acc.push (((dg (Tf j b + (N - Tf j b).fmod (36 - Tf j b))).toNat : Int)).toNat.toUInt8, k'), ?_, _, _, _, _, _, _, rfl, by assumption, by assumption, q9.1, hk.2, hs' _, ggi_endB hacc hle, rfl, rfl, rfl, rfl⟩
      show k' < k
      omega
end Mine
end
-- part F4
section
open PySem PySem.W PyProof.Rows
namespace Mine
theorem anewF4 {M : Model} {A : Around} {E : Value → Shared → Prop} {s : Shared} {Q : Nat → Shared → Prop} (h : Q 0 s) : wpAny M A (pure 0) Q E s := by
  first | (walk1; exact h) | exact wpAny_pure h
end Mine
end
section
open PySem PySem.W PyProof.Rows
set_option maxRecDepth 100000
set_option maxHeartbeats 1000000
namespace Mine
theorem fill4 : PySem.Challenge.rw_ny0167_01 = PySem.Challenge.rw_ny0167_01 ∧ MineHd.hd.heap_1 = MineHd.hd.heap_1 := by
  k_fill
  exact ⟨rfl, rfl⟩
local macro_rules | `(tactic| walk_at "call ref") => `(tactic| refine stop ?_)
local macro_rules | `(tactic| walk_at "getMethod ref") => `(tactic| refine stop ?_)
local macro_rules | `(tactic| walk_at "call type:bytes") => `(tactic| refine stop ?_)
local macro_rules | `(tactic| walk_at "call type:enumerate") => `(tactic| refine stop ?_)

theorem ggiF_len {b : Int} : ∀ (k : Nat) {N j : Int}, 0 ≤ N → N < 10 ^ k → (ggiF N j b).length ≤ k + 1
  | 0, N, j, h0, h => by
    have h1 := Tf_lo j b
    have e : N = 0 := by simp at h; omega
    subst e
    rw [ggiF_stop (by omega)]
    simp
  | k + 1, N, j, h0, h => by
    have h1 := Tf_lo j b
    have h2 := Tf_hi j b
    by_cases hc : Tf j b ≤ N
    · have hd := div_small hc h1 h2
      rw [ggiF_go hc, List.length_cons]
      have := ggiF_len (b := b) k (j := j + 1) hd.1 (by rw [Int.pow_succ] at h; omega)
      omega
    · rw [ggiF_stop (by omega)]
      simp
def giL (size : Int) : Nat → Int → List Int → List UInt8
  | _, _, [] => []
  | i, b, d :: r => ggiF d 0 b ++ giL size (i + 1) (adf d ((i : Int) == 0) (size + i + 1)) r

theorem gi_step {z bias d : Int} {i : Nat} {ns : List Int} {acc R : Array UInt8} (h : acc ++ (giL z i bias (ns.drop i)).toArray = R) (hd : ns[i]? = some d) :
    acc ++ (ggiF d 0 bias).toArray ++ (giL z (i + 1) (adf d ((i : Int) == 0) (z + i + 1)) (ns.drop (i + 1))).toArray = R := by
  rw [← h]
  have e : ns.drop i = d :: ns.drop (i + 1) := by
    rw [List.drop_eq_getElem_cons (List.getElem?_eq_some_iff.mp hd).1, (List.getElem?_eq_some_iff.mp hd).2]
  rw [e, giL]
  simp
theorem gi_size {acc : Array UInt8} {d bias : Int} {i : Nat} (h : acc.size ≤ 40 * i) (h0 : 0 ≤ d) (h1 : d < 10 ^ 31) : (acc ++ (ggiF d 0 bias).toArray).size ≤ 40 * (i + 1) := by
  have := ggiF_len (b := bias) 31 (j := 0) h0 h1
  simp only [Array.size_append, List.size_toArray]
  omega
theorem gi_at {vs : List Value} {ns : List Int} (h : IntsAre vs ns) {i : Nat} {v : Value} (hv : vs[i]? = some v) : ∃ d t, v = .int d t ∧ ns[i]? = some d := IntsAre.at h i v hv
theorem gi_size2 {acc c : Array UInt8} {i n : Nat} (h : (acc ++ c).size ≤ 40 * (i + 1)) (h1 : i < n) (h2 : n ≤ 20) : (acc ++ c).size ≤ sizeLine := by
  simp only [sizeLine_eq]; omega
theorem gi_off {a b r : Addr} {x y z : Obj} (h : ∀ p ∈ [(r, z)], p.1 ∉ [a, b]) : ∀ p ∈ [(a, x), (b, y)], p.1 ≠ r := by
  have := h _ (.head _)
  intro p hp e
  apply this
  rcases List.mem_cons.mp hp with rfl | hp
  · exact e ▸ .head _
  · obtain rfl := List.mem_singleton.mp hp
    exact e ▸ .tail _ (.head _)
theorem gi_len : ∀ {vs : List Value} {ns : List Int}, IntsAre vs ns → vs.length = ns.length
  | _, _, .nil => rfl
  | _, _, .cons _ _ h => by simp [gi_len h]
theorem gi_done {vs : List Value} {ns : List Int} {z b : Int} {acc R : Array UInt8} (hi : IntsAre vs ns) (h : acc ++ (giL z vs.toArray.size b (ns.drop vs.toArray.size)).toArray = R) : acc = R := by
  rw [← h, List.drop_eq_nil_of_le (by simp [gi_len hi])]
  simp [giL]
theorem gi_sz3 {vs : List Value} {ns : List Int} {n : Nat} (hi : IntsAre vs ns) (h : n ≤ 40 * vs.toArray.size) (h2 : ns.length ≤ 20) : n ≤ 800 := by
  have := gi_len hi
  simp at h; omega
theorem gi_k {prog : Program} {w : World} {A : Around} {s : Shared} {Q : Value → Shared → Prop} {z : Int} {t1 : Tok} {l : Addr} {vs : List Value} {ns : List Int} (G : Gd w s.heap) (r : Rm A 3) (hz0 : 0 ≤ z) (hz : z < 1000)
    (hl : s.heap.IsList l vs.toArray) (hi : IntsAre vs ns) (hlen : ns.length ≤ 20) (hns : ∀ n ∈ ns, 0 ≤ n ∧ n < 10 ^ 31)
    (h : ∀ t h' tk', s.heap.StaysIn h' → Q (.bytes (giL z 0 72 ns).toArray t) { s with heap := h', toks := tk' }) :
    wpN (model prog w) A (call (.ref 42) [.int z t1, .ref l]) Q s := by
  obtain ⟨X, p, loose, mean, mg, mb, T⟩ := id G
  refine' enterN (binds := [("baselen", .int z t1), ("deltas", .ref l)]) ?eX ?eT ?eo ?ec ?er ?eb ?el ?eco ?ege ?ek ?ece ?_
  ((case eX => k_asm); (case eT => k_asm); (case eo => k_dflt k_is); (case ec => k_dflt k_is); (case er => exact Rm.depth (by assumption)); (case eb => exact BindsTo.of_eq (by with_unfolding_all rfl)); (case el => exact locs rfl); (case eco => exact rfl); (case ege => exact rfl); (case ek => exact rfl); (case ece => decide); k_whole)
  intro L h₁ tk F N
  (try dsimp only)
  refine N_cons (N_Assign (N_Call ?_))
  (k_steps; all_goals (repeat' (first | ((with_reducible refine unstop ?_); (first | (with_reducible (first | ((k_here; k_dflt (refine' A_bytes_ba ?g1 ?g2 ?_; (case g1 => exact News.get (by assumption) (by k_mem)); (case g2 => (simp only [sizeLine_eq]; omega))))) | ((k_here; k_dflt (first | (refine' A_getMethod_ba ?g1 BF.slot_append BF.ty_append ?_; (case g1 => exact News.get (by assumption) (by k_mem))) | (refine' A_getMethod_ba ?g1 BF.slot_extend BF.ty_extend ?_; (case g1 => exact News.get (by assumption) (by k_mem)))))) | ((k_here; (with_reducible refine' adapt_k ?g9 ?r9 ?a9 ?b9 ?c9 ?_); (case g9 => exact Gd.keeps (by assumption) (Fr.stays (by assumption))); (case r9 => exact Rm.to (by assumption) (by decide)); (case a9 => omega); (case b9 => omega); (case c9 => omega); intro zzt9 zzh9 zztk9 zzk9; (have zzF9 := Fr.grow (by assumption) zzk9); (have zzN9 := News.grow (by assumption) zzk9); (try k_sweep))) | fail)) ); k_steps) | fail)))
  refine N_callWithT rfl (evalArgs_nil3 ⟨rfl, ?_⟩)
  dsimp only [List.nil_append]
  refine N_newBA fun h2 hb hk => ?_
  dsimp only at hb hk
  have F2 := Fr.grow (by assumption) hk
  have N2 := News.fresh1 (by assumption) (by assumption) hk hb
  clear hb hk
  generalize h₁.objs.size = r1 at *
  k_sweep
  (k_steps; all_goals (repeat' (first | ((with_reducible refine unstop ?_); (first | (with_reducible (first | ((k_here; k_dflt (refine' A_bytes_ba ?g1 ?g2 ?_; (case g1 => exact News.get (by assumption) (by k_mem)); (case g2 => (simp only [sizeLine_eq]; omega))))) | ((k_here; k_dflt (first | (refine' A_getMethod_ba ?g1 BF.slot_append BF.ty_append ?_; (case g1 => exact News.get (by assumption) (by k_mem))) | (refine' A_getMethod_ba ?g1 BF.slot_extend BF.ty_extend ?_; (case g1 => exact News.get (by assumption) (by k_mem)))))) | ((k_here; (with_reducible refine' adapt_k ?g9 ?r9 ?a9 ?b9 ?c9 ?_); (case g9 => exact Gd.keeps (by assumption) (Fr.stays (by assumption))); (case r9 => exact Rm.to (by assumption) (by decide)); (case a9 => omega); (case b9 => omega); (case c9 => omega); intro zzt9 zzh9 zztk9 zzk9; (have zzF9 := Fr.grow (by assumption) zzk9); (have zzN9 := News.grow (by assumption) zzk9); (try k_sweep))) | fail)) ); k_steps) | fail)))
  refine N_consA ?_
  (k_steps; all_goals (repeat' (first | ((with_reducible refine unstop ?_); (first | (with_reducible (first | ((k_here; k_dflt (refine' A_bytes_ba ?g1 ?g2 ?_; (case g1 => exact News.get (by assumption) (by k_mem)); (case g2 => (simp only [sizeLine_eq]; omega))))) | ((k_here; k_dflt (first | (refine' A_getMethod_ba ?g1 BF.slot_append BF.ty_append ?_; (case g1 => exact News.get (by assumption) (by k_mem))) | (refine' A_getMethod_ba ?g1 BF.slot_extend BF.ty_extend ?_; (case g1 => exact News.get (by assumption) (by k_mem)))))) | ((k_here; (with_reducible refine' adapt_k ?g9 ?r9 ?a9 ?b9 ?c9 ?_); (case g9 => exact Gd.keeps (by assumption) (Fr.stays (by assumption))); (case r9 => exact Rm.to (by assumption) (by decide)); (case a9 => omega); (case b9 => omega); (case c9 => omega); intro zzt9 zzh9 zztk9 zzk9; (have zzF9 := Fr.grow (by assumption) zzk9); (have zzN9 := News.grow (by assumption) zzk9); (try k_sweep))) | fail)) ); k_steps) | fail)))
  refine N_cons (N_For ?_)
  (k_steps; all_goals (repeat' (first | ((with_reducible refine unstop ?_); (first | (with_reducible (first | ((k_here; k_dflt (refine' A_bytes_ba ?g1 ?g2 ?_; (case g1 => exact News.get (by assumption) (by k_mem)); (case g2 => (simp only [sizeLine_eq]; omega))))) | ((k_here; k_dflt (first | (refine' A_getMethod_ba ?g1 BF.slot_append BF.ty_append ?_; (case g1 => exact News.get (by assumption) (by k_mem))) | (refine' A_getMethod_ba ?g1 BF.slot_extend BF.ty_extend ?_; (case g1 => exact News.get (by assumption) (by k_mem)))))) | ((k_here; (with_reducible refine' adapt_k ?g9 ?r9 ?a9 ?b9 ?c9 ?_); (case g9 => exact Gd.keeps (by assumption) (Fr.stays (by assumption))); (case r9 => exact Rm.to (by assumption) (by decide)); (case a9 => omega); (case b9 => omega); (case c9 => omega); intro zzt9 zzh9 zztk9 zzk9; (have zzF9 := Fr.grow (by assumption) zzk9); (have zzN9 := News.grow (by assumption) zzk9); (try k_sweep))) | fail)) ); k_steps) | fail)))
  unfold Stop
  refine call_enumerate_list (stays_list (Fr.stays (by assumption)) hl) fun h3 he hit hz3 hk3 => ?_
  dsimp only at he hit hz3 hk3
  refine wpAny_pyIter_enum he ?_
  rename_i F4 N4
  have hw1 := fresh_ge F4 (Nat.le_succ _)
  have hw2 := fresh_ge F4 (Nat.le_refl _)
  have hr1 := Heap.lt_size (N4 _ (.head _)).1
  have F3 := Fr.grow F4 hk3
  have N3 := News.grow N4 hk3
  refine codeN_forE (h₀ := s.heap) (l := l) (items := vs.toArray) r.hd (fun i m news => ∃ acc bias t, news = [(r1, baObj acc)] ∧ acc ++ (giL z i bias (ns.drop i)).toArray = (giL z 0 72 ns).toArray ∧ acc.size ≤ 40 * i ∧ m "bias" = some (.int bias t) ∧ m "baselen" = some (.int z t1) ∧ m "result" = some (.ref r1))
    (Nat.succ_ne_self _) ?_ hl he hit F3 N3 ?_ ?_ rfl rfl rfl ?_ ?_
  · intro b hb
    rcases List.mem_cons.mp hb with rfl | hb
    · exact hw1
    · obtain rfl := List.mem_singleton.mp hb
      exact hw2
  · intro p hp
    obtain rfl := List.mem_singleton.mp hp
    simp only [List.mem_cons, List.not_mem_nil, or_false, not_or]
    exact ⟨Nat.ne_of_lt (Nat.lt_succ_of_lt hr1), Nat.ne_of_lt hr1⟩
  · exact ⟨#[], 72, _, rfl, by simp, by simp, rfl, rfl, rfl⟩
  · intro i v ti m₁ news₁ own h5 tk5 hv hj ho hoff F5 N5
    refine Exists.elim hj fun acc hj => Exists.elim hj fun bias hj => Exists.elim hj fun t hj => ?_
    have e1 := hj.1
    subst e1
    refine Exists.elim (own2 ho) fun o1 q => Exists.elim q fun o2 q => ?_
    subst q
    clear ho
    have hv' : vs[i]? = some v := by simpa using hv
    refine Exists.elim (gi_at hi hv') fun d q => Exists.elim q fun td q => ?_
    have e2 := q.1
    subst e2
    have hd := hns d (List.mem_of_getElem? q.2)
    have hile : i < ns.length := (List.getElem?_eq_some_iff.mp q.2).1
    have hst := gi_step hj.2.1 q.2
    have hsz := gi_size (bias := bias) hj.2.2.1 hd.1 hd.2
    replace F5 := Fr.view F5 [("delta", .int d td), ("points", .int i ti), ("bias", .int bias t), ("baselen", .int z t1), ("result", .ref r1)] (by simp only [List.forall_mem_cons]; exact ⟨rfl, rfl, hj.2.2.2.1, hj.2.2.2.2.1, hj.2.2.2.2.2, List.forall_mem_nil _⟩)
    have hoff' : ∀ p ∈ [(r1, baObj (acc ++ (ggiF d 0 bias).toArray))], p.1 ∉ [_ + 1, _] := fun p hp => by obtain rfl := List.mem_singleton.mp hp; exact hoff (r1, baObj acc) (.head _)
    clear hj q hv hv' N3 F3 N4 F4
    refine N_cons (N_Assign (N_Call ?_))
    (k_steps; all_goals (repeat' (first | ((with_reducible refine unstop ?_); (first | (with_reducible (first | ((k_here; k_dflt (refine' A_bytes_ba ?g1 ?g2 ?_; (case g1 => exact News.get (by assumption) (by k_mem)); (case g2 => (simp only [sizeLine_eq]; omega))))) | ((k_here; k_dflt (first | (refine' A_getMethod_ba ?g1 BF.slot_append BF.ty_append ?_; (case g1 => exact News.get (by assumption) (by k_mem))) | (refine' A_getMethod_ba ?g1 BF.slot_extend BF.ty_extend ?_; (case g1 => exact News.get (by assumption) (by k_mem)))))) | ((k_here; (with_reducible refine' adapt_k ?g9 ?r9 ?a9 ?b9 ?c9 ?_); (case g9 => exact Gd.keeps (by assumption) (Fr.stays (by assumption))); (case r9 => exact Rm.to (by assumption) (by decide)); (case a9 => omega); (case b9 => omega); (case c9 => omega); intro zzt9 zzh9 zztk9 zzk9; (have zzF9 := Fr.grow (by assumption) zzk9); (have zzN9 := News.grow (by assumption) zzk9); (try k_sweep))) | fail)) ); k_steps) | fail)))
    dsimp only
    refine' N_callF (K := MineHd.hd.heap_1 w.params) X ?ho ?_
    case ho => k_dflt k_is
    (k_steps; all_goals (repeat' (first | ((with_reducible refine unstop ?_); (first | (with_reducible (first | ((k_here; k_dflt (refine' A_bytes_ba ?g1 ?g2 ?_; (case g1 => exact News.get (by assumption) (by k_mem)); (case g2 => (simp only [sizeLine_eq]; omega))))) | ((k_here; k_dflt (first | (refine' A_getMethod_ba ?g1 BF.slot_append BF.ty_append ?_; (case g1 => exact News.get (by assumption) (by k_mem))) | (refine' A_getMethod_ba ?g1 BF.slot_extend BF.ty_extend ?_; (case g1 => exact News.get (by assumption) (by k_mem)))))) | ((k_here; (with_reducible refine' adapt_k ?g9 ?r9 ?a9 ?b9 ?c9 ?_); (case g9 => exact Gd.keeps (by assumption) (Fr.stays (by assumption))); (case r9 => exact Rm.to (by assumption) (by decide)); (case a9 => omega); (case b9 => omega); (case c9 => omega); intro zzt9 zzh9 zztk9 zzk9; (have zzF9 := Fr.grow (by assumption) zzk9); (have zzN9 := News.grow (by assumption) zzk9); (try k_sweep))) | fail)) ); k_steps) | fail)))
    (try dsimp only [List.nil_append])
    refine ggi_k (G.keeps (Fr.stays (by assumption))) (r.to (by decide)) hd.1 hd.2 fun t9 h9 tk9 k9 => ?_
    have F9 := Fr.grow (by assumption) k9
    have N9 := News.grow (by assumption) k9
    clear k9
    k_sweep
    (k_steps; all_goals (repeat' (first | ((with_reducible refine unstop ?_); (first | (with_reducible (first | ((k_here; k_dflt (refine' A_bytes_ba ?g1 ?g2 ?_; (case g1 => exact News.get (by assumption) (by k_mem)); (case g2 => (simp only [sizeLine_eq]; omega))))) | ((k_here; k_dflt (first | (refine' A_getMethod_ba ?g1 BF.slot_append BF.ty_append ?_; (case g1 => exact News.get (by assumption) (by k_mem))) | (refine' A_getMethod_ba ?g1 BF.slot_extend BF.ty_extend ?_; (case g1 => exact News.get (by assumption) (by k_mem)))))) | ((k_here; (with_reducible refine' adapt_k ?g9 ?r9 ?a9 ?b9 ?c9 ?_); (case g9 => exact Gd.keeps (by assumption) (Fr.stays (by assumption))); (case r9 => exact Rm.to (by assumption) (by decide)); (case a9 => omega); (case b9 => omega); (case c9 => omega); intro zzt9 zzh9 zztk9 zzk9; (have zzF9 := Fr.grow (by assumption) zzk9); (have zzN9 := News.grow (by assumption) zzk9); (try k_sweep))) | fail)) ); k_steps) | fail)))
    refine N_cons (N_Expr (N_Meth ?_))
    (k_steps; all_goals (repeat' (first | ((with_reducible refine unstop ?_); (first | (with_reducible (first | ((k_here; k_dflt (refine' A_bytes_ba ?g1 ?g2 ?_; (case g1 => exact News.get (by assumption) (by k_mem)); (case g2 => (simp only [sizeLine_eq]; omega))))) | ((k_here; k_dflt (first | (refine' A_getMethod_ba ?g1 BF.slot_append BF.ty_append ?_; (case g1 => exact News.get (by assumption) (by k_mem))) | (refine' A_getMethod_ba ?g1 BF.slot_extend BF.ty_extend ?_; (case g1 => exact News.get (by assumption) (by k_mem)))))) | ((k_here; (with_reducible refine' adapt_k ?g9 ?r9 ?a9 ?b9 ?c9 ?_); (case g9 => exact Gd.keeps (by assumption) (Fr.stays (by assumption))); (case r9 => exact Rm.to (by assumption) (by decide)); (case a9 => omega); (case b9 => omega); (case c9 => omega); intro zzt9 zzh9 zztk9 zzk9; (have zzF9 := Fr.grow (by assumption) zzk9); (have zzN9 := News.grow (by assumption) zzk9); (try k_sweep))) | fail)) ); k_steps) | fail)))
    refine N_callB1 ?_
    (k_steps; all_goals (repeat' (first | ((with_reducible refine unstop ?_); (first | (with_reducible (first | ((k_here; k_dflt (refine' A_bytes_ba ?g1 ?g2 ?_; (case g1 => exact News.get (by assumption) (by k_mem)); (case g2 => (simp only [sizeLine_eq]; omega))))) | ((k_here; k_dflt (first | (refine' A_getMethod_ba ?g1 BF.slot_append BF.ty_append ?_; (case g1 => exact News.get (by assumption) (by k_mem))) | (refine' A_getMethod_ba ?g1 BF.slot_extend BF.ty_extend ?_; (case g1 => exact News.get (by assumption) (by k_mem)))))) | ((k_here; (with_reducible refine' adapt_k ?g9 ?r9 ?a9 ?b9 ?c9 ?_); (case g9 => exact Gd.keeps (by assumption) (Fr.stays (by assumption))); (case r9 => exact Rm.to (by assumption) (by decide)); (case a9 => omega); (case b9 => omega); (case c9 => omega); intro zzt9 zzh9 zztk9 zzk9; (have zzF9 := Fr.grow (by assumption) zzk9); (have zzN9 := News.grow (by assumption) zzk9); (try k_sweep))) | fail)) ); k_steps) | fail)))
    refine N_extend (News.get (by assumption) (by k_mem)) (gi_size2 hsz hile hlen) fun h6 e6 sb6 => ⟨rfl, ?_⟩
    have q6 := upd2 (by assumption) (by assumption) (gi_off hoff) sb6 e6
    have F6 := q6.1
    have N6 := q6.2
    clear q6 e6 sb6
    k_sweep
    refine N_consA ?_
    (k_steps; all_goals (repeat' (first | ((with_reducible refine unstop ?_); (first | (with_reducible (first | ((k_here; k_dflt (refine' A_bytes_ba ?g1 ?g2 ?_; (case g1 => exact News.get (by assumption) (by k_mem)); (case g2 => (simp only [sizeLine_eq]; omega))))) | ((k_here; k_dflt (first | (refine' A_getMethod_ba ?g1 BF.slot_append BF.ty_append ?_; (case g1 => exact News.get (by assumption) (by k_mem))) | (refine' A_getMethod_ba ?g1 BF.slot_extend BF.ty_extend ?_; (case g1 => exact News.get (by assumption) (by k_mem)))))) | ((k_here; (with_reducible refine' adapt_k ?g9 ?r9 ?a9 ?b9 ?c9 ?_); (case g9 => exact Gd.keeps (by assumption) (Fr.stays (by assumption))); (case r9 => exact Rm.to (by assumption) (by decide)); (case a9 => omega); (case b9 => omega); (case c9 => omega); intro zzt9 zzh9 zztk9 zzk9; (have zzF9 := Fr.grow (by assumption) zzk9); (have zzN9 := News.grow (by assumption) zzk9); (try k_sweep))) | fail)) ); k_steps) | fail)))
    refine N_nil ?_
    refine ⟨_, _, _, _, rfl, by assumption, by assumption, hoff', _, _, _, rfl, hst, hsz, rfl, rfl, rfl⟩
  · intro m₁ news₁ h5 tk5 hj F5 N5
    refine Exists.elim hj fun acc hj => Exists.elim hj fun bias hj => Exists.elim hj fun t hj => ?_
    have e1 := hj.1
    subst e1
    have hst := gi_done hi hj.2.1
    have hsz : acc.size ≤ 800 := gi_sz3 hi hj.2.2.1 hlen
    replace F5 := Fr.view F5 [("result", .ref r1)] (by simp only [List.forall_mem_cons]; exact ⟨hj.2.2.2.2.2, List.forall_mem_nil _⟩)
    clear hj N3 F3 N4 F4
    dsimp only
    refine N_consA ?_
    (k_steps; all_goals (repeat' (first | ((with_reducible refine unstop ?_); (first | (with_reducible (first | ((k_here; k_dflt (refine' A_bytes_ba ?g1 ?g2 ?_; (case g1 => exact News.get (by assumption) (by k_mem)); (case g2 => (simp only [sizeLine_eq]; omega))))) | ((k_here; k_dflt (first | (refine' A_getMethod_ba ?g1 BF.slot_append BF.ty_append ?_; (case g1 => exact News.get (by assumption) (by k_mem))) | (refine' A_getMethod_ba ?g1 BF.slot_extend BF.ty_extend ?_; (case g1 => exact News.get (by assumption) (by k_mem)))))) | ((k_here; (with_reducible refine' adapt_k ?g9 ?r9 ?a9 ?b9 ?c9 ?_); (case g9 => exact Gd.keeps (by assumption) (Fr.stays (by assumption))); (case r9 => exact Rm.to (by assumption) (by decide)); (case a9 => omega); (case b9 => omega); (case c9 => omega); intro zzt9 zzh9 zztk9 zzk9; (have zzF9 := Fr.grow (by assumption) zzk9); (have zzN9 := News.grow (by assumption) zzk9); (try k_sweep))) | fail)) ); k_steps) | fail)))
    exact Eq.mp (congrArg (fun x => Q (Value.bytes x _) _) hst.symm) (h _ _ _ (Fr.stays (by assumption)))
end Mine
end
-- part X1
section
open PySem PySem.W PyProof.Rows
set_option maxRecDepth 100000
namespace Mine

/-- an exception under way: its fields but the trace obey P, its trace is marked by fl -/
structure Fly (B : Heap) (l : List Env) (e : Addr) (cls : Value) (P : Array Value → Prop) (fl : Value) (h : Heap) : Prop where
  stays : B.StaysIn h
  new : B.get? e = none
  frames : h.FunFrames B l
  tr : ∃ oe vs T oT ts, h.get? e = some oe ∧ oe.cls = cls ∧ P vs ∧ oe.data = .fields vs ∧ vs[1]? = some (.ref T) ∧ B.get? T = none ∧ T ≠ e ∧ h.get? T = some oT ∧ oT.data = .fields ts ∧ ts[3]? = some fl

def Keep1 (P : Array Value → Prop) : Prop := ∀ vs v, P vs → P (vs.setIfInBounds 1 v)

section
variable {M : Model} {A : Around} {E : Value → Shared → Prop} {s : Shared} {B : Heap} {l outer : List Env} {env : Env} {e L : Addr} {cls fl : Value} {P : Array Value → Prop} {Q : Unit → Shared → Prop}

theorem fly_set {T : Addr} {oT : Obj} {ts : Array Value} {n : Nat} {x : Value} (hnT : B.get? T = none) (hT : s.heap.get? T = some oT) (hd : oT.data = .fields ts) :
    let h' := s.heap.update T (Obj.mapFields (·.setIfInBounds n x))
    (∀ b, b ≠ T → h'.get? b = s.heap.get? b) ∧ h'.get? T = some (Obj.mapFields (·.setIfInBounds n x) oT) ∧ (B.StaysIn s.heap → B.StaysIn h') ∧ (s.heap.FunFrames B l → h'.FunFrames B l) ∧ s.heap.UpToSlots h' := by
  intro h'
  have other : ∀ b, b ≠ T → h'.get? b = s.heap.get? b := fun b hb => Heap.get?_update_other _ _ (Ne.symm hb)
  have nr : ∀ b o, s.heap.get? b = some o → (∀ vs, o.data ≠ .fields vs) → b ≠ T := fun b o hb hnf q => by
    rw [q, hT] at hb; injection hb with hb; subst hb; exact hnf ts hd
  refine ⟨other, Heap.get?_update_self _ hT (Obj.isFreed_of_fields (Obj.data_mapFields hd _)), fun k b o q => (other b fun z => by rw [z, hnT] at q; cases q).trans (k b o q), fun k => k.of_keeps fun b o hb hnf => ⟨o, (other b (nr b o hb hnf)).trans hb, rfl⟩, fun b o hb hnf => ⟨o.slots, (other b (nr b o hb hnf)).trans hb⟩⟩

theorem fly_flight {fr : Option Addr} (F : Fly B l e cls P fl s.heap) (h : ∀ h', Fly B l e cls P (fr.elim .none fun f => rawInt f) h' → s.heap.UpToSlots h' → Q () { s with heap := h' }) : wpAny M A (setFlight (.ref e) fr) Q E s := by
  obtain ⟨hk, hn, hl, oe, vs, T, oT, ts, he, hc, hP, hd, h1, hnT, hTe, hT, hdT, h3⟩ := F
  have hsz : 3 < ts.size := (Array.getElem?_eq_some_iff.mp h3).1
  unfold setFlight
  refine wpAny_bind (wpAny_field he hd h1 ?_)
  rw [if_pos (show (Value.ref T != Value.none) = true from by simp)]
  obtain ⟨k1, k2, k3, k4, k5⟩ := fly_set (s := s) (B := B) (l := l) (n := 3) (x := fr.elim .none fun f => rawInt f) hnT hT hdT
  refine wpAny_setField hT hdT hsz (h _ ⟨k3 hk, hn, k4 hl, oe, vs, T, _, _, (k1 e (Ne.symm hTe)).trans he, hc, hP, hd, h1, hnT, hTe, k2, Obj.data_mapFields hdT _, by simp [hsz]⟩ k5)

theorem fly_entry {oe : Obj} {vs : Array Value} {head : Value} {hadNext : Bool} (hP1 : Keep1 P)
    (hfr : A.frames = some (env :: outer)) (hl : s.heap.FunFrames B (env :: outer)) (hf : env.frame = some L)
    (he : s.heap.get? e = some oe) (hkb : B.StaysIn s.heap) (hen : B.get? e = none) (hd : oe.data = .fields vs) (hsz : 1 < vs.size) (hP : P vs) (hc : oe.cls = cls)
    (h : ∀ h', Fly B (env :: outer) e cls P (rawInt L) h' → s.heap.UpToSlots h' → Q () { s with heap := h' }) :
    wpAny M A (do let a ← frameOf env; let pl ← entryPlaceOf L hadNext; let b ← EntryCells.newEntry head a .none (rawInt L) .none pl; setField (.ref e) 1 b) Q E s := by
  have hene : e ∉ (env :: outer).filterMap (·.frame) := fun hm => by
    obtain ⟨_, o, ho, hnf⟩ := hl.mem hm
    rw [he] at ho; injection ho with ho; subst ho; exact hnf vs hd
  refine wpAny_bind (wpAny_frameOf_fun hfr hl hf fun h₁ hs₁ => ?_)
  refine wpAny_bind (wpAny_entryPlaceOf fun pl hpl => ?_)
  unfold EntryCells.newEntry newFields
  refine wpAny_bind (wpAny_newObj_type ?_ (hpl.sizeOk5 _ _ _ _ _))
  generalize hts : ([head, .ref L, .none, rawInt L, .none] ++ (if pl.isEmpty then List.replicate 6 Value.none else pl)).toArray = ts
  have h3 : ts[3]? = some (rawInt L) := by rw [← hts]; simp
  have he₁ : h₁.get? e = some oe := (hs₁.2.1 e hene).trans he
  have kb₁ : B.StaysIn h₁ := fun b o hbo => (hs₁.2.1 b fun hm => by rw [(hl.mem hm).1] at hbo; cases hbo).trans (hkb b o hbo)
  have fl₁ : h₁.FunFrames B (env :: outer) := hl.of_slotsOnly hs₁
  have up₁ : s.heap.UpToSlots h₁ := fun b o q _ => hs₁.2.2 b o q
  generalize hob : ({ cls := .type "traceback", dict := none, data := .fields ts } : Obj) = ob
  have kp : ∀ b o, h₁.get? b = some o → (h₁.push ob).get? b = some o := fun b o q => Heap.get?_push_of_some ob q
  have hTe : h₁.objs.size ≠ e := Nat.ne_of_gt (Heap.lt_size he₁)
  have hT : (h₁.push ob).get? h₁.objs.size = some ob := Heap.get?_push_size h₁ (by subst hob; rfl)
  obtain ⟨k1, k2, k3, k4, k5⟩ := fly_set (s := { s with heap := h₁.push ob }) (B := B) (l := env :: outer) (n := 1) (x := Value.ref h₁.objs.size) hen (kp _ _ he₁) hd
  refine wpAny_setField (kp _ _ he₁) hd hsz (h _ ⟨k3 fun b o q => kp _ _ (kb₁ b o q), hen, k4 (fl₁.of_keeps fun b o q _ => ⟨o, kp _ _ q, rfl⟩), _, _, h₁.objs.size, ob, ts, k2, by rw [Obj.cls_mapFields]; exact hc, hP1 vs _ hP, Obj.data_mapFields hd _, by simp [hsz], kb₁.fresh, hTe, (k1 _ hTe).trans hT, by subst hob; rfl, h3⟩
    ((up₁.trans (Heap.UpToSlots.of_keeps kp)).trans k5))

/-- the frame stands in the trace already -/
theorem fly_again (hf : env.frame = some L) (F : Fly B l e cls P (rawInt L) s.heap) (h : Q () s) : wpAny M A (noteFrame (.ref e) env) Q E s := by
  obtain ⟨hk, hn, hl, oe, vs, T, oT, ts, he, hc, hP, hd, h1, hnT, hTe, hT, hdT, h3⟩ := F
  unfold noteFrame
  simp only [hf]
  refine wpAny_bind (wpAny_field he hd h1 ?_)
  rw [if_pos (show (Value.ref T != Value.none) = true from by simp)]
  refine wpAny_bind (wpAny_field hT hdT h3 ?_)
  rw [if_pos (show (rawInt L == rawInt L) = true from by simp)]
  exact wpAny_pure h

theorem fly_note (hP1 : Keep1 P) (hfr : A.frames = some (env :: outer)) (hf : env.frame = some L) (F : Fly B (env :: outer) e cls P .none s.heap)
    (h : ∀ h', Fly B (env :: outer) e cls P (rawInt L) h' → s.heap.UpToSlots h' → Q () { s with heap := h' }) : wpAny M A (noteFrame (.ref e) env) Q E s := by
  obtain ⟨hk, hn, hl, oe, vs, T, oT, ts, he, hc, hP, hd, h1, hnT, hTe, hT, hdT, h3⟩ := F
  unfold noteFrame
  simp only [hf]
  refine wpAny_bind (wpAny_field he hd h1 ?_)
  rw [if_pos (show (Value.ref T != Value.none) = true from by simp)]
  refine wpAny_bind (wpAny_field hT hdT h3 ?_)
  rw [if_neg (show ¬ ((Value.none == rawInt L) = true) from by simp [rawInt])]
  obtain ⟨k1, k2, k3, k4, k5⟩ := fly_set (s := s) (B := B) (l := env :: outer) (n := 3) (x := Value.none) hnT hT hdT
  refine wpAny_bind (wpAny_setField hT hdT (Array.getElem?_eq_some_iff.mp h3).1 ?_)
  exact fly_entry hP1 hfr (k4 hl) hf ((k1 e (Ne.symm hTe)).trans he) (k3 hk) hn hd (Array.getElem?_eq_some_iff.mp h1).1 hP hc fun h' F' U' => h h' F' (k5.trans U')

theorem fly_first {oe : Obj} {vs : Array Value} (hP1 : Keep1 P) (hfr : A.frames = some (env :: outer)) (hl : s.heap.FunFrames B (env :: outer)) (hf : env.frame = some L)
    (he : s.heap.get? e = some oe) (hkb : B.StaysIn s.heap) (hen : B.get? e = none) (hd : oe.data = .fields vs) (h1 : vs[1]? = some .none) (hP : P vs) (hc : oe.cls = cls)
    (h : ∀ h', Fly B (env :: outer) e cls P (rawInt L) h' → s.heap.UpToSlots h' → Q () { s with heap := h' }) : wpAny M A (noteFrame (.ref e) env) Q E s := by
  unfold noteFrame
  simp only [hf]
  refine wpAny_bind (wpAny_field he hd h1 ?_)
  rw [if_neg (by decide)]
  exact fly_entry hP1 hfr hl hf he hkb hen hd (Array.getElem?_eq_some_iff.mp h1).1 hP hc h

theorem fly_pop (F : Fly B (env :: outer) e cls P fl s.heap) : Fly B outer e cls P fl s.heap := ⟨F.stays, F.new, F.frames.2.2, F.tr⟩

theorem fly_traced (F : Fly B l e cls P fl s.heap) {Q : Value → Shared → Prop} (h : ∀ T, Q (.ref T) s) : wpAny M A (field (.ref e) 1) Q E s := by
  obtain ⟨hk, hn, hl, oe, vs, T, oT, ts, he, hc, hP, hd, h1, hnT, hTe, hT, hdT, h3⟩ := F
  exact wpAny_field he hd h1 (h T)
theorem fly_back (F : Fly B l e cls P fl s.heap) {E : Value → Shared → Prop} (hf : env.frame = some L) (h : ∀ h', Fly B l e cls P (rawInt L) h' → s.heap.UpToSlots h' → E (.ref e) { s with heap := h' }) : cameBackBy M A env E (.ref e) s := by
  unfold cameBackBy
  refine wpAny_bind (fly_traced F fun T => ?_)
  rw [if_neg (by simp)]
  first
  | (refine wpAny_bind (wpAny_pure ?_); rw [hf]; exact fly_flight F h)
  | (rw [hf]; exact fly_flight F h)
end
end Mine
end
-- part X2
section
open PySem PySem.W PyProof.Rows
set_option maxRecDepth 100000
namespace Mine

/-- k_steps stands still here -/
structure Halt (P : Prop) : Prop where
  out : P
abbrev frs (l : List Env) : List Addr := l.filterMap (·.frame)

/-- all that stood stands, but for slots of the frames fs -/
def Up (fs : List Addr) (h h' : Heap) : Prop := ∃ g', KtsTurn fs h g' ∧ g'.StaysIn h'
theorem Up.of_stays {fs : List Addr} {h h' : Heap} (k : h.StaysIn h') : Up fs h h' := ⟨h, .refl, k⟩

section
variable {A : Around} {base g h h' : Heap} {outer : List Env} {L a : Addr} {m : Str → Option Value} {news : List (Addr × Obj)} {name : Str} {scope : Scope} {cd : Value}

/-- the ground turns under a frame: what stood stands in a heap that differs in slots of frames -/
theorem up_turn (K : Below A base outer g) (F : Fr g L h m) (N : News g L h news)
    (k1 : ∀ b o, h.get? b = some o → b ≠ L → b ∉ frs outer → h'.get? b = some o) (k2 : ∀ b o, h.get? b = some o → b = L ∨ b ∈ frs outer → ∃ sl, h'.get? b = some { o with slots := sl }) :
    ∃ g', KtsTurn (frs outer) g g' ∧ Below A base outer g' ∧ Fr g' L h' m ∧ News g' L h' news := by
  obtain ⟨T, S⟩ := kts_turn_at (h := h') (fs := frs outer) (g := g)
    (fun b hb => let ⟨_, o, ho, _⟩ := K.frames.mem hb; ⟨o, ho⟩)
    (fun b o e nm => k1 b o (F.keep b o e) (fun z => by rw [z, kts_self F] at e; cases e) nm)
    (fun b o e hm => k2 b o (F.keep b o e) (.inr hm))
  refine ⟨_, T, ⟨K.stack, fun b o e => T.other b o (K.stays b o e) (fun hm => by rw [(K.frames.mem hm).1] at e; cases e), K.frames.of_keeps fun b o e _ => ?_⟩, ⟨?_, S, by rw [T.size]; exact F.above⟩, fun p hp => ⟨k1 _ _ (N p hp).1 (N p hp).2.1 fun hm => ?_, (N p hp).2.1, T.none_ _ (N p hp).2.2⟩⟩
  · obtain ⟨sl, hs⟩ := T.up e
    exact ⟨_, hs, rfl⟩
  · obtain ⟨o, es, ep, ho, r⟩ := F.ns
    obtain ⟨sl, hs⟩ := k2 L o ho (.inl rfl)
    exact ⟨_, es, ep, hs, r⟩
  · obtain ⟨_, o, ho, _⟩ := K.frames.mem hm
    rw [(N p hp).2.2] at ho; cases ho

/-- a call that may turn slots of frames is over -/
theorem up_fr (K : Below A base outer g) (F : Fr g L h m) (N : News g L h news) (U : Up (frs (envOf name scope L a cd :: outer)) h h') :
    ∃ g', KtsTurn (frs outer) g g' ∧ Below A base outer g' ∧ Fr g' L h' m ∧ News g' L h' news := by
  obtain ⟨g1, T, S⟩ := U
  refine up_turn K F N (fun b o e n1 n2 => S b o (T.other b o e fun hm => (kts_mem hm).elim n1 n2)) fun b o e _ => ?_
  obtain ⟨sl, hs⟩ := T.up e
  exact ⟨sl, S _ _ hs⟩

/-- an exception has landed in this frame -/
theorem fly_fr {B : Heap} {e : Addr} {cls fl : Value} {P : Array Value → Prop} (K : Below A base outer g) (F : Fr g L h m) (N : News g L h news)
    (hB : (hideAll h (frs (envOf name scope L a cd :: outer))).StaysIn B) (fly : Fly B (envOf name scope L a cd :: outer) e cls P fl h') (U : h.UpToSlots h') :
    ∃ g', KtsTurn (frs outer) g g' ∧ Below A base outer g' ∧ Fr g' L h' m ∧ News g' L h' news := by
  refine up_turn K F N (fun b o e n1 n2 => fly.stays b o (hB b o (hideAll_get _ e fun hm => (kts_mem hm).elim n1 n2))) fun b o e hm => U b o e ?_
  rcases hm with rfl | hm
  · obtain ⟨o', es, ep, ho, hd, r⟩ := F.ns
    rw [e] at ho; cases ho
    intro vs q; rw [hd] at q; cases q
  · obtain ⟨_, o', ho, hd⟩ := K.frames.mem hm
    have := F.keep _ _ ho
    rw [e] at this; cases this
    exact hd

theorem fly_shrink {B B' : Heap} {l : List Env} {e : Addr} {cls fl : Value} {P : Array Value → Prop} (k : B'.StaysIn B) (F : Fly B l e cls P fl h) : Fly B' l e cls P fl h := by
  have nn : ∀ b, B.get? b = none → B'.get? b = none := fun b hb => by
    cases q : B'.get? b with
    | none => rfl
    | some o => have := k b o q; rw [hb] at this; cases this
  obtain ⟨oe, vs, T, oT, ts, he, hc, hP, hd, h1, hnT, r⟩ := F.tr
  refine ⟨fun b o q => F.stays b o (k b o q), nn e F.new, ?_, oe, vs, T, oT, ts, he, hc, hP, hd, h1, nn T hnT, r⟩
  have : ∀ l, h.FunFrames B l → h.FunFrames B' l := fun l => by
    induction l with
    | nil => exact fun _ => trivial
    | cons env r ih => exact fun ⟨hk, ⟨L, o, hf, hn, ho, hd⟩, hr⟩ => ⟨hk, ⟨L, o, hf, nn L hn, ho, hd⟩, ih hr⟩
  exact this l F.frames

/-- what is hidden in the caller is hidden in the callee -/
theorem hide_push (F : Fr g L h m) : (hideAll g (frs outer)).StaysIn (hideAll h (frs (envOf name scope L a cd :: outer))) := fun b o q => by
  have q' := of_hideAll _ q
  refine hideAll_get _ (F.keep b o q') fun hm => ?_
  rcases kts_mem hm with z | z
  · rw [z, kts_self F] at q'; cases q'
  · rw [hideAll_none _ z] at q; cases q
theorem hide_turn {fs : List Addr} (T : KtsTurn fs g h) : (hideAll g fs).StaysIn (hideAll h fs) := fun b o q => by
  have q' := of_hideAll _ q
  have nm : b ∉ fs := fun z => by rw [hideAll_none _ z] at q; cases q
  exact hideAll_get _ (T.other b o q' nm) nm
theorem hide_grow {fs : List Addr} (k : g.StaysIn h) : (hideAll g fs).StaysIn (hideAll h fs) := fun b o q => hideAll_get _ (k b o (of_hideAll _ q)) fun z => by rw [hideAll_none _ z] at q; cases q

theorem frames_hide (K : Below A base outer g) : g.FunFrames (hideAll g (frs outer)) outer := funFrames_hide K.frames fun env he b hb => List.mem_filterMap.mpr ⟨env, he, hb⟩

theorem Up.trans_turn {fs : List Addr} {g g' : Heap} (T : KtsTurn fs g g') (k : g'.StaysIn h) : Up fs g h := ⟨g', T, k⟩
end

/-- what a body that raises hands on: the exception under way in its own frame -/
def EB (s : Shared) (l : List Env) (L : Addr) (cls : Value) (P : Heap → Array Value → Prop) : Value → Shared → Prop := fun v s' =>
  ∃ e h' tk' fl B, v = .ref e ∧ s' = { s with heap := h', toks := tk' } ∧ (fl = .none ∨ fl = rawInt L) ∧ (hideAll s.heap (frs l.tail)).StaysIn B ∧ Fly B l e cls (P B) fl h' ∧ s.heap.UpToSlots h'

section
variable {M : Model} {A A' : Around} {s : Shared} {outer : List Env} {env : Env} {L : Addr} {cls : Value} {P : Heap → Array Value → Prop}
theorem EB.passes (hP : ∀ B, Keep1 (P B)) (hfr : A'.frames = some (env :: outer)) (hf : env.frame = some L) : PassesOwnAt M A' A env (EB s (env :: outer) L cls P) := by
  rintro v s' ⟨e, h', tk', fl, B, rfl, rfl, hfl, hB, F, U⟩
  have back : ∀ h2, Fly B (env :: outer) e cls (P B) (rawInt L) h2 → h'.UpToSlots h2 → cameBackBy M A env (EB s (env :: outer) L cls P) (.ref e) { s with heap := h2, toks := tk' } := fun h2 F2 U2 =>
    fly_back (s := { s with heap := h2, toks := tk' }) F2 hf fun h3 F3 U3 => ⟨e, h3, tk', _, B, rfl, rfl, .inr rfl, hB, F3, (U.trans U2).trans U3⟩
  unfold notedBy
  rcases hfl with rfl | rfl
  · exact fly_note (s := { s with heap := h', toks := tk' }) (hP B) hfr hf F fun h2 F2 U2 => back h2 F2 U2
  · exact fly_again (s := { s with heap := h', toks := tk' }) hf F (back h' F (Heap.UpToSlots.refl _))

/-- leaving the frame -/
theorem EB.leave (hP : ∀ B, Keep1 (P B)) (hfr : A.frames = some (env :: outer)) (hf : env.frame = some L) {E : Value → Shared → Prop}
    (h : ∀ e h' tk' B, (hideAll s.heap (frs outer)).StaysIn B → Fly B outer e cls (P B) .none h' → s.heap.UpToSlots h' → E (.ref e) { s with heap := h', toks := tk' }) {v : Value} {s' : Shared} (x : EB s (env :: outer) L cls P v s') :
    wpAny M A (leaving env v) (fun _ s'' => E v s'') (fun e' s'' => E e' s'') s' := by
  obtain ⟨e, h', tk', fl, B, rfl, rfl, hfl, hB, F, U⟩ := x
  have fin : ∀ h2, Fly B (env :: outer) e cls (P B) (rawInt L) h2 → h'.UpToSlots h2 → wpAny M A (setFlight (.ref e) none) (fun _ s'' => E (.ref e) s'') (fun e' s'' => E e' s'') { s with heap := h2, toks := tk' } := fun h2 F2 U2 =>
    fly_flight (s := { s with heap := h2, toks := tk' }) F2 fun h3 F3 U3 => h e h3 tk' B hB (fly_pop (s := { s with heap := h3 }) F3) ((U.trans U2).trans U3)
  unfold leaving
  refine wpAny_bind ?_
  rcases hfl with rfl | rfl
  · exact fly_note (s := { s with heap := h', toks := tk' }) (hP B) hfr hf F fun h2 F2 U2 => fin h2 F2 U2
  · exact fly_again (s := { s with heap := h', toks := tk' }) hf F (fin h' F (Heap.UpToSlots.refl _))
end

/-- a while whose turns may raise, by an invariant and a measure -/
theorem while_E {prog : Program} {w : World} {A : Around} {env : Env} {test : PySem.Expr} {body orelse : List Stmt} {pos : Pos} {Q : Flow → Shared → Prop} {E : Value → Shared → Prop} {s : Shared} {ι : Type} (hE : PassesOwn (model prog w) A env E) (I : ι → Shared → Prop) (μ : ι → Nat) (h0 : ∃ i, I i s)
    (turn : ∀ i s, I i s → wpAny (model prog w) A (isTrue test env (eval test env)) (fun b s₂ => if b = true then
        wpAny (model prog w) A (execs body env) (fun f s₃ => match f with | .next => Halt (∃ i', μ i' < μ i ∧ I i' s₃) | .cont => Halt (∃ i', μ i' < μ i ∧ I i' s₃) | .brk => Q .next s₃ | .ret v => Q (.ret v) s₃) E s₂
        else wpAny (model prog w) A (execs orelse env) Q E s₂) E s) :
    wpAny (model prog w) A (exec (.While test body orelse pos) env) Q E s := by
  refine whl_start 0 ?_
  have all : ∀ n i s, μ i < n → I i s → WhlRest prog w A E env test body orelse Q 1 s := by
    intro n
    induction n with
    | zero => intro i s h; exact absurd h (Nat.not_lt_zero _)
    | succ n ih =>
      intro i s hn hi
      refine whl_turn (k := 0) hE (wpAny_mono (turn i s hi) (fun b s₂ h => ?_) fun _ _ x => x)
      cases b with
      | false => exact WhlIf.no rfl (by simpa using h)
      | true =>
        refine WhlIf.yes rfl ?_
        rw [if_pos rfl] at h
        refine wpAny_mono h (fun f s₃ h => ?_) fun _ _ x => x
        cases f with
        | next => obtain ⟨i', h1, h2⟩ := h.out; exact ih i' s₃ (by omega) h2
        | cont => obtain ⟨i', h1, h2⟩ := h.out; exact ih i' s₃ (by omega) h2
        | brk => exact h
        | ret v => exact h
  obtain ⟨i₀, h0⟩ := h0
  exact all _ i₀ s (Nat.lt_succ_self _) h0
end Mine
end
-- part X3
section
open PySem PySem.W PyProof.Rows
set_option maxRecDepth 100000
namespace Mine
section
variable {α : Type} {M : Model} {A : Around} {E : Value → Shared → Prop} {s : Shared}
theorem A_tt {c : Bool} {a b : Sem α} {Q : α → Shared → Prop} (hc : c = true) (h : wpAny M A a Q E s) : wpAny M A (if c = true then a else b) Q E s := by
  subst hc; exact h
theorem A_ff {c : Bool} {a b : Sem α} {Q : α → Shared → Prop} (hc : c = false) (h : wpAny M A b Q E s) : wpAny M A (if c = true then a else b) Q E s := by
  subst hc; exact h
end
namespace U
theorem newF : ExcNewFacts "UnicodeDecodeError" "UnicodeDecodeError.__new__" where
  ends := by decide +kernel
  owner := by decide +kernel
  entry := entryFor_alias (id' := "BaseException.__new__") (by rw [fastTable_eq_tree]; kernel_rfl) (by decide +kernel) (by decide +kernel) (by rw [fastTable_eq_tree]; kernel_rfl)
  sub := by rw [isSubtype_type]; kernel_rfl
  notAttr := by rw [isSubtype_type]; kernel_rfl
  notName := by rw [isSubtype_type]; kernel_rfl
  made := by kernel_rfl
theorem notType : (Value.type "UnicodeDecodeError" == Value.type "type") = false := by decide +kernel
theorem canMake : ((Manifest.find? "UnicodeDecodeError").bind fun x => List.findSome? (fun t => (Manifest.find? t).bind fun b =>
    if b.noNew = true then some true else if (b.attrs.any fun x => x.fst == "__new__") = true then some false else none) x.mro).getD false = false := by kernel_rfl
theorem noVector (args) : checkTypeCall "UnicodeDecodeError" args = pure () := by kernel_rfl
theorem mro : mroOf (.type "UnicodeDecodeError") = pure [.type "UnicodeDecodeError", .type "UnicodeError", .type "ValueError", .type "Exception", .type "BaseException", .type "object"] := by rw [mroOf_type]; kernel_rfl
theorem madeBy : Bind.madeBy (.type "UnicodeDecodeError") = pure (some "UnicodeDecodeError.__new__") := by kernel_rfl
theorem newOk (rest) : checkBuiltinCall "UnicodeDecodeError.__new__" ⟨.type "UnicodeDecodeError" :: rest, []⟩ = pure () := by kernel_rfl
theorem init : Slot "UnicodeDecodeError" "__init__" "UnicodeDecodeError.__init__" :=
  .of (owner := "UnicodeDecodeError") (n := "__init__") (by rw [typeLookup_type, builtinLookup_eq_fast]; kernel_rfl) (by decide +kernel) (by decide +kernel) (by decide +kernel)
    (by first | exact .inl (by decide +kernel) | exact .inr (by decide +kernel)) (by rw [isSubtype_type]; kernel_rfl)
theorem initEntry : entryFor table "UnicodeDecodeError.__init__" = some Builtin.«UnicodeDecodeError.__init__» := entryFor_of_tree (by kernel_rfl)
theorem initArgs (a b c d e f : Value) : argsOk "UnicodeDecodeError.__init__" ⟨[a, b, c, d, e, f], []⟩ := by unfold argsOk; kernel_rfl
theorem raiseF : ExcRaiseFacts "UnicodeDecodeError" where
  isExc := by rw [isSubtype_type]; kernel_rfl
  plainMeta := by kernel_rfl
end U

def ude (t ctx cau sup enc ob rs : Value) (st sp : Int) : Obj := { cls := .type "UnicodeDecodeError", data := .fields #[t, .none, ctx, cau, sup, .none, enc, ob, rawInt st, rawInt sp, rs] }

def V0 (t : Value) : Array Value := #[t, .none, .none, .none, .bool false, .none]
def V (t enc ob : Value) (a b : Int) (rs : Value) : Array Value := #[t, .none, .none, .none, .bool false, .none, enc, ob, rawInt a, rawInt b, rs]
structure At (h0 : Heap) (e : Addr) (vs : Array Value) (h : Heap) : Prop where
  keep : ∀ b o, b ≠ e → h0.get? b = some o → h.get? b = some o
  there : h.get? e = some { cls := .type "UnicodeDecodeError", data := .fields vs }

open Builtin.UnicodeEncodeError in
section
variable {M : Model} {A : Around} {E : Value → Shared → Prop} {s : Shared} {h0 : Heap} {e : Addr} {vs : Array Value}
theorem At.upd (H : At h0 e vs s.heap) (f : Array Value → Array Value) : At h0 e (f vs) (s.heap.update e (Obj.mapFields f)) :=
  ⟨fun b o hb q => (Heap.get?_update_other _ _ (Ne.symm hb)).trans (H.keep b o hb q), Heap.get?_update_self _ H.there rfl⟩
theorem at_arg {t x : Value} {Q : Unit → Shared → Prop} (H : At h0 e (V0 t) s.heap) (h : ∀ h', At h0 e (V0 x) h' → Q () { s with heap := h' }) : wpAny M A (setField (.ref e) 0 x) Q E s :=
  wpAny_setField H.there rfl (by simp [V0]) (h _ (H.upd fun vs => vs.setIfInBounds 0 x))
theorem at_mem0 {t : Value} {Q : Members → Shared → Prop} (H : At h0 e (V0 t) s.heap) (h : Q {} s) : wpAny M A (members (.ref e)) Q E s := by
  unfold members
  refine wpAny_bind ?_
  unfold fieldsOf
  refine wpAny_bind (wpAny_load H.there (wpAny_pure ?_))
  exact wpAny_pure h
theorem at_mem {t enc ob rs : Value} {a b : Int} {Q : Members → Shared → Prop} (H : At h0 e (V t enc ob a b rs) s.heap) (h : Q ⟨enc, ob, a, b, rs⟩ s) : wpAny M A (members (.ref e)) Q E s := by
  unfold members
  refine wpAny_bind ?_
  unfold fieldsOf
  refine wpAny_bind (wpAny_load H.there (wpAny_pure ?_))
  exact wpAny_pure h
theorem at_set0 {t : Value} {m : Members} {Q : Unit → Shared → Prop} (H : At h0 e (V0 t) s.heap) (h : ∀ h', At h0 e (V t m.encoding m.object m.start m.stop m.reason) h' → Q () { s with heap := h' }) : wpAny M A (setMembers (.ref e) m) Q E s := by
  unfold setMembers
  refine wpAny_updateFields H.there rfl (h _ (H.upd fun vs => vs.extract 0 6 ++ #[m.encoding, m.object, rawInt m.start, rawInt m.stop, m.reason])) ?_
  simp [sizeLine_eq, V0]
theorem at_set {t enc ob rs : Value} {a b : Int} {m : Members} {Q : Unit → Shared → Prop} (H : At h0 e (V t enc ob a b rs) s.heap) (h : ∀ h', At h0 e (V t m.encoding m.object m.start m.stop m.reason) h' → Q () { s with heap := h' }) : wpAny M A (setMembers (.ref e) m) Q E s := by
  unfold setMembers
  refine wpAny_updateFields H.there rfl (h _ (H.upd fun vs => vs.extract 0 6 ++ #[m.encoding, m.object, rawInt m.start, rawInt m.stop, m.reason])) ?_
  simp [sizeLine_eq, V]
end

open Builtin.UnicodeEncodeError in
section
variable {prog : Program} {w : World} {A : Around} {E : Value → Shared → Prop} {Q : Value → Shared → Prop}
theorem ude_init {s : Shared} {e : Addr} {t : Value} {enc rs : Str} {ob : Array UInt8} {st sp : Int} {t1 t2 t3 t4 t5 : Tok} (he : s.heap.get? e = some { cls := .type "UnicodeDecodeError", data := .fields #[t, .none, .none, .none, .bool false, .none] })
    (h1 : 0 ≤ st ∧ st < 1000000) (h2 : 0 ≤ sp ∧ sp < 1000000)
    (h : ∀ h' t', (∀ b o, b ≠ e → s.heap.get? b = some o → h'.get? b = some o) → h'.get? e = some (ude t' .none .none (.bool false) (.str enc t1) (.bytes ob t2) (.str rs t5) st sp) → Q .none { s with heap := h' }) :
    wpAny (model prog w) A (call (.builtin "UnicodeDecodeError.__init__") [.ref e, .str enc t1, .bytes ob t2, .int st t3, .int sp t4, .str rs t5]) Q E s := by
  refine wpAny_call_entry U.init ⟨_, he, rfl⟩ U.initEntry ?_ (U.initArgs _ _ _ _ _ _)
  unfold Builtin.«UnicodeDecodeError.__init__» beginInit
  refine wpAny_bind ?_
  dsimp only
  refine wpAny_bind (wpAny_field he rfl rfl ?_)
  refine wpAny_bind (wpAny_newTuple ?_ (by simp [sizeLine_eq]))
  refine wpAny_bind (at_arg (h0 := s.heap) (t := t) ⟨fun b o _ q => Heap.get?_push_of_some _ q, Heap.get?_push_of_some _ he⟩ fun hp hA => ?_)
  refine wpAny_bind (wpAny_letGo ?_)
  refine A_tt rfl ?_
  refine wpAny_bind (at_mem0 (s := { s with heap := hp }) hA ?_)
  refine wpAny_bind (at_set0 (s := { s with heap := hp }) hA fun h3 hA3 => ?_)
  refine wpAny_bind (wpAny_letGo ?_)
  refine wpAny_bind (at_mem (s := { s with heap := h3 }) hA3 ?_)
  refine wpAny_bind (at_set (s := { s with heap := h3 }) hA3 fun h4 hA4 => ?_)
  refine wpAny_bind (wpAny_letGo ?_)
  refine wpAny_bind (at_mem (s := { s with heap := h4 }) hA4 ?_)
  refine wpAny_bind (at_set (s := { s with heap := h4 }) hA4 fun h5 hA5 => ?_)
  refine wpAny_bind (wpAny_letGo ?_)
  refine A_ff rfl (wpAny_pure ?_)
  dsimp only
  unfold strArgument initRange sizeArgument
  refine wpAny_bind (wpAny_bind (wpAny_pure (A_ff rfl (wpAny_pure ?_))))
  refine wpAny_bind ?_
  refine wpAny_bind (wpAny_bind (wpAny_of_eq (rfl : asIndex (.int st t3) = pure st) (A_ff (by simp only [Bool.or_eq_false_iff, decide_eq_false_iff_not]; omega) (wpAny_pure ?_))))
  refine wpAny_bind (at_mem (s := { s with heap := h5 }) hA5 ?_)
  refine wpAny_bind (at_set (s := { s with heap := h5 }) hA5 fun h6 hA6 => ?_)
  refine wpAny_bind (wpAny_bind (wpAny_of_eq (rfl : asIndex (.int sp t4) = pure sp) (A_ff (by simp only [Bool.or_eq_false_iff, decide_eq_false_iff_not]; omega) (wpAny_pure ?_))))
  refine wpAny_bind (at_mem (s := { s with heap := h6 }) hA6 ?_)
  refine (at_set (s := { s with heap := h6 }) hA6 fun h7 hA7 => ?_)
  refine wpAny_bind (wpAny_bind (wpAny_pure (A_ff rfl (wpAny_pure ?_))))
  refine wpAny_bind (wpAny_pure (A_tt rfl (wpAny_bind (wpAny_pure ?_))))
  refine A_tt rfl (wpAny_bind (wpAny_pure (A_ff rfl ?_)))
  refine wpAny_bind (at_mem (s := { s with heap := h7 }) hA7 ?_)
  refine wpAny_bind (at_set (s := { s with heap := h7 }) hA7 fun h8 hA8 => ?_)
  exact wpAny_pure ⟨_, rfl, h h8 _ hA8.keep hA8.there⟩

structure NewUde (h h' : Heap) (e : Addr) (ctx cau sup : Value) (st sp : Int) : Prop where
  keeps : ∀ b o, h.get? b = some o → h'.get? b = some o
  new : h.get? e = none
  there : ∃ t enc ob rs, h'.get? e = some (ude t ctx cau sup enc ob (.str rs 0) st sp)

theorem ude_type_call {enc rs : Str} {ob : Array UInt8} {st sp : Int} {t1 t2 t3 t4 t5 : Tok} {hp : Heap} {g : Array GenState} {d : Drawn} {tk : Nat} {os : OsState} {Q : Fin → Shared → Prop}
    (h1 : 0 ≤ st ∧ st < 1000000) (h2 : 0 ≤ sp ∧ sp < 1000000)
    (h : ∀ h' e t, (∀ b o, hp.get? b = some o → h'.get? b = some o) → hp.get? e = none → h'.get? e = some (ude t .none .none (.bool false) (.str enc t1) (.bytes ob t2) (.str rs t5) st sp) → Q (.done (.ret (.ref e))) ⟨h', g, d, tk, os⟩) :
    wpAny (model prog w) A (Builtin.«type.__call__» ⟨[.type "UnicodeDecodeError", .str enc t1, .bytes ob t2, .int st t3, .int sp t4, .str rs t5], []⟩) Q E ⟨hp, g, d, tk, os⟩ := by
  unfold Builtin.«type.__call__»
  dsimp only
  refine A_ff U.notType ?_
  refine A_ff U.canMake ?_
  refine wpAny_bind (wpAny_of_eq (U.noVector _) ?_)
  refine wpAny_bind (wpAny_of_eq U.mro ?_)
  refine A_ff rfl ?_
  refine wpAny_bind (wpAny_of_eq U.madeBy ?_)
  dsimp only
  refine wpAny_bind (wpAny_pure ?_)
  refine wpAny_bind (wpAny_holding (wpAny_call ?_))
  refine codeAny_call_builtin_code (Code.quiet_builtin _ (by decide +kernel)) (wpAny_of_eq (U.newOk _) ?_)
  refine codeAny_exc_new U.newF ?_ (by simp [sizeLine_eq])
  show wpAny _ _ _ _ _ _
  have hget : ((hp.push { cls := .type "tuple", data := .seq [Value.str enc t1, .bytes ob t2, .int st t3, .int sp t4, .str rs t5].toArray }).push
      { cls := .type "UnicodeDecodeError", data := .fields #[.ref hp.objs.size, .none, .none, .none, .bool false, .none] }).get? (hp.objs.size + 1) = some
      { cls := .type "UnicodeDecodeError", data := .fields #[.ref hp.objs.size, .none, .none, .none, .bool false, .none] } := by heap_get
  refine wpAny_bind (wpAny_isInstance ⟨_, hget, rfl⟩ U.newF.sub ?_)
  refine A_ff rfl ?_
  refine wpAny_bind (wpAny_holding (wpAny_callSpecial?_slot ⟨_, hget, rfl⟩ U.init (ude_init hget h1 h2 fun h' t' k1 k2 => ?_)))
  dsimp only
  refine A_ff rfl (wpAny_pure ?_)
  refine h _ _ _ (fun b o q => k1 b o (Nat.ne_of_lt (Nat.lt_succ_of_lt (Heap.lt_size q))) (Heap.get?_push_of_some _ (Heap.get?_push_of_some _ q))) (Heap.get?_none_of_le (Nat.le_succ _)) k2
end
end Mine
end
-- part X4
section
open PySem PySem.W PyProof.Rows
set_option maxRecDepth 100000
namespace Mine
section
variable {prog : Program} {w : World} {A : Around} {E : Value → Shared → Prop} {s : Shared} {env : Env}

/-- the chain behind the one that is handled is short -/
inductive Chain (h : Heap) : Addr → Prop
  | one {a : Addr} {o : Obj} {vs : Array Value} (ho : h.get? a = some o) (hd : o.data = .fields vs) (h2 : vs[2]? = some .none) : Chain h a
  | two {a b : Addr} {o p : Obj} {vs ws : Array Value} (ho : h.get? a = some o) (hd : o.data = .fields vs) (h2 : vs[2]? = some (.ref b)) (hab : a ≠ b) (hp : h.get? b = some p) (hw : p.data = .fields ws) (h3 : ws[2]? = some .none) : Chain h a

theorem entry_unchain : entryFor table "proto.unchain" = some Builtin.«proto.unchain» := entryFor_of_tree (by kernel_rfl)

theorem unchain_ok {a e : Addr} {Q : Value → Shared → Prop} (C : Chain s.heap a) (hne : s.heap.get? e = none ∨ ∀ b, (∃ o vs, s.heap.get? a = some o ∧ o.data = .fields vs ∧ vs[2]? = some (.ref b)) → b ≠ e) (h : Q .none s) :
    wpAny (model prog w) A (runValue (.builtin "proto.unchain" ⟨[.ref e, .ref a, .ref a, .bool false], []⟩)) Q E s := by
  refine wpAny_runValue (codeAny_builtin entry_unchain ?_)
  unfold Builtin.«proto.unchain»
  dsimp only
  cases C with
  | one ho hd h2 =>
    refine wpAny_bind (wpAny_field ho hd h2 ?_)
    exact A_tt rfl (wpAny_pure h)
  | @two b o p vs ws ho hd h2 hab hp hw h3 =>
    refine wpAny_bind (wpAny_field ho hd h2 ?_)
    have hbe : b ≠ e := by
      rcases hne with q | q
      · intro z; rw [z, q] at hp; cases hp
      · exact q b ⟨o, vs, ho, hd, h2⟩
    refine A_ff rfl (A_ff (by simp [hbe]) (A_ff (by simp [Ne.symm hab]) ?_))
    refine A_ff rfl (wpAny_bind (wpAny_pure ?_))
    refine wpAny_pure ⟨Code.quiet_builtin _ (by decide +kernel), codeAny_builtin entry_unchain ?_⟩
    unfold Builtin.«proto.unchain»
    dsimp only
    refine wpAny_bind (wpAny_field hp hw h3 ?_)
    exact A_tt rfl (wpAny_pure h)

theorem raiseNew_in {α : Type} {a e : Addr} {oe : Obj} {vs : Array Value} {Q : α → Shared → Prop} (hh : A.handled = some (.ref a)) (hae : a ≠ e) (C : Chain s.heap a) (hne : ∀ b, (∃ o vs, s.heap.get? a = some o ∧ o.data = .fields vs ∧ vs[2]? = some (.ref b)) → b ≠ e)
    (he : s.heap.get? e = some oe) (hd : oe.data = .fields vs) (hz : 2 < vs.size) (h : E (.ref e) { s with heap := s.heap.update e (Obj.mapFields (·.setIfInBounds 2 (.ref a))) }) : wpAny (model prog w) A (raiseNew (.ref e) : Sem α) Q E s := by
  unfold raiseNew
  refine wpAny_bind (wpAny_handled ?_)
  rw [hh]
  have hc : ((Value.ref a != Value.ref e) : Bool) = true := by simp [hae]
  dsimp only
  refine A_tt hc ?_
  refine wpAny_bind (wpAny_holding (unchain_ok C (.inr hne) ?_))
  unfold updateField
  refine wpAny_bind (wpAny_bind (wpAny_load he ?_))
  rw [hd]
  dsimp only
  rw [if_pos hz]
  exact wpAny_update he (wpAny_throw h)

theorem ude_notType {e : Addr} {t ctx cau sup enc ob rs : Value} {st sp : Int} {Q : Bool → Shared → Prop} (he : s.heap.get? e = some (ude t ctx cau sup enc ob rs st sp)) (h : Q false s) : wpAny (model prog w) A (isType (.ref e)) Q E s := by
  show wpAny _ _ (do return match (← loadHead e).data with | .cls _ => true | _ => false) _ _ _
  refine wpAny_bind (wpAny_loadPart he (wpAny_pure h))
theorem ude_exc {e : Addr} {t ctx cau sup enc ob rs : Value} {st sp : Int} {Q : Value → Shared → Prop} (he : s.heap.get? e = some (ude t ctx cau sup enc ob rs st sp)) (h : Q (.ref e) s) :
    wpAny (model prog w) A (excFromValue (.ref e) "exceptions must derive from BaseException") Q E s := by
  unfold excFromValue isExcClass
  refine wpAny_bind (wpAny_bind (ude_notType he ?_))
  refine A_ff rfl (wpAny_pure ?_)
  refine A_ff rfl (wpAny_bind (wpAny_isInstance ⟨_, he, rfl⟩ U.raiseF.isExc ?_))
  exact A_tt rfl (wpAny_pure h)
theorem ude_inst {e : Addr} {t ctx cau sup enc ob rs : Value} {st sp : Int} {Q : Value → Shared → Prop} (he : s.heap.get? e = some (ude t ctx cau sup enc ob rs st sp)) (h : Q (.ref e) s) :
    wpAny (model prog w) A (raisedInstance (.ref e)) Q E s := by
  unfold raisedInstance
  refine wpAny_bind (wpAny_typeOf ⟨_, he, rfl⟩ ?_)
  refine wpAny_bind (wpAny_of_eq (show typeOf (Value.type "UnicodeDecodeError") = pure (Value.type ((Manifest.find? "UnicodeDecodeError").elim "type" fun x => x.metatype)) from rfl) ?_)
  exact A_tt U.raiseF.plainMeta (wpAny_pure h)
theorem ude_flight {e : Addr} {t ctx cau sup enc ob rs : Value} {st sp : Int} {Q : Unit → Shared → Prop} (he : s.heap.get? e = some (ude t ctx cau sup enc ob rs st sp)) (h : Q () s) :
    wpAny (model prog w) A (setFlight (.ref e) none) Q E s := by
  unfold setFlight
  refine wpAny_bind (wpAny_field he rfl rfl ?_)
  exact A_ff rfl (wpAny_pure h)
theorem raiseStmt_in {a : Addr} {x : Sem Value} {Q : Flow → Shared → Prop} (hh : A.handled = some (.ref a))
    (h : wpAny (model prog w) A x (fun v s₁ => ∃ e t enc ob rs st sp, v = .ref e ∧ s₁.heap.get? e = some (ude t .none .none (.bool false) enc ob rs st sp) ∧ a ≠ e ∧ Chain s₁.heap a ∧ (∀ b, (∃ o vs, s₁.heap.get? a = some o ∧ o.data = .fields vs ∧ vs[2]? = some (.ref b)) → b ≠ e) ∧
      E (.ref e) { s₁ with heap := s₁.heap.update e (Obj.mapFields (·.setIfInBounds 2 (.ref a))) }) E s) :
    wpAny (model prog w) A (raiseStmt env (some x) none) Q E s := by
  unfold raiseStmt
  refine wpAny_bind (wpAny_mono h (fun v s₁ h₁ => ?_) fun _ _ x => x)
  obtain ⟨e, t, enc, ob, rs, st, sp, rfl, he, hae, C, hne, hE⟩ := h₁
  dsimp only
  refine wpAny_bind (wpAny_pure ?_)
  refine wpAny_bind (wpAny_holding (ude_exc he ?_))
  dsimp only
  refine wpAny_bind (ude_notType he ?_)
  refine A_ff rfl (wpAny_bind (ude_inst he ?_))
  refine wpAny_bind (ude_flight he ?_)
  unfold ude at he
  exact raiseNew_in hh hae C hne he rfl (by simp) hE

/-- raise .. from None -/
theorem raiseStmt_from {a : Addr} {x c : Sem Value} {Q : Flow → Shared → Prop} (hh : A.handled = some (.ref a)) (hc : ∀ s (Q : Value → Shared → Prop), Q .none s → wpAny (model prog w) A c Q E s)
    (h : wpAny (model prog w) A x (fun v s₁ => ∃ e t enc ob rs st sp, v = .ref e ∧ s₁.heap.get? e = some (ude t .none .none (.bool false) enc ob rs st sp) ∧ a ≠ e ∧ Chain s₁.heap a ∧ (∀ b, (∃ o vs, s₁.heap.get? a = some o ∧ o.data = .fields vs ∧ vs[2]? = some (.ref b)) → b ≠ e) ∧
      (∀ h', (∀ b o, b ≠ e → s₁.heap.get? b = some o → h'.get? b = some o) → h'.get? e = some (ude t (.ref a) .none (.bool true) enc ob rs st sp) → E (.ref e) { s₁ with heap := h' })) E s) :
    wpAny (model prog w) A (raiseStmt env (some x) (some c)) Q E s := by
  unfold raiseStmt
  refine wpAny_bind (wpAny_mono h (fun v s₁ h₁ => ?_) fun _ _ x => x)
  obtain ⟨e, t, enc, ob, rs, st, sp, rfl, he, hae, C, hne, hE⟩ := h₁
  obtain ⟨hp, g, d, tk, os⟩ := s₁
  have hu := he
  unfold ude at he
  dsimp only
  refine wpAny_bind (wpAny_holding (hc _ _ ?_))
  refine wpAny_bind (wpAny_pure ?_)
  have ex : wpAny (model prog w) A (excFromValue (.ref e) "exceptions must derive from BaseException") (fun v s' => v = .ref e ∧ s' = ⟨hp, g, d, tk, os⟩) E ⟨hp, g, d, tk, os⟩ := ude_exc hu ⟨rfl, rfl⟩
  refine wpAny_bind (wpAny_holding (wpAny_mono ex (fun v s' q => ?_) fun _ _ x => x))
  obtain ⟨rfl, rfl⟩ := q
  dsimp only
  refine A_tt rfl (wpAny_bind (wpAny_pure ?_))
  refine wpAny_bind (wpAny_setField he rfl (by simp) ?_)
  have he1 := Heap.get?_update_self (h := hp) (Obj.mapFields (·.setIfInBounds 3 Value.none)) he rfl
  refine wpAny_bind (wpAny_setField he1 rfl (by simp) ?_)
  have he2 := Heap.get?_update_self (Obj.mapFields (·.setIfInBounds 4 (.bool true))) he1 rfl
  generalize hX : (hp.update e (Obj.mapFields (·.setIfInBounds 3 Value.none))).update e (Obj.mapFields (·.setIfInBounds 4 (.bool true))) = hq at he2 ⊢
  have oth : ∀ b, b ≠ e → hq.get? b = hp.get? b := fun b hb => by
    rw [← hX, Heap.get?_update_other _ _ (Ne.symm hb), Heap.get?_update_other _ _ (Ne.symm hb)]
  clear hX he1
  have C' : Chain hq a := by
    cases C with
    | one ho hd h2 => exact .one ((oth _ hae).trans ho) hd h2
    | two ho hd h2 hab hp hw h3 => exact .two ((oth _ hae).trans ho) hd h2 hab ((oth _ (hne _ ⟨_, _, ho, hd, h2⟩)).trans hp) hw h3
  have he3 : hq.get? e = some { cls := .type "UnicodeDecodeError", data := .fields #[t, .none, .none, .none, .bool true, .none, enc, ob, rawInt st, rawInt sp, rs] } := he2
  have hu3 : hq.get? e = some (ude t .none .none (.bool true) enc ob rs st sp) := he3
  refine wpAny_bind (ude_notType hu3 ?_)
  refine A_ff rfl (wpAny_bind (ude_inst hu3 ?_))
  refine wpAny_bind (ude_flight hu3 ?_)
  refine raiseNew_in hh hae C' (fun b ⟨o, vs, q1, q2, q3⟩ => hne b ⟨o, vs, (oth _ hae).symm.trans q1, q2, q3⟩) he3 rfl (by simp) (hE _ (fun b o hb q => ?_) ?_)
  · rw [Heap.get?_update_other _ _ (Ne.symm hb)]
    exact (oth b hb).trans q
  · exact Heap.get?_update_self _ he3 rfl
end
end Mine
end
-- part X5
section
open PySem PySem.W PyProof.Rows
set_option maxRecDepth 100000
namespace Mine
section
variable {prog : Program} {w : World} {A : Around} {E : Value → Shared → Prop} {s : Shared} {env : Env}

theorem call_ude {enc rs : Str} {ob : Array UInt8} {st sp : Int} {t1 t2 t3 t4 t5 : Tok} {Q : Value → Shared → Prop}
    (h1 : 0 ≤ st ∧ st < 1000000) (h2 : 0 ≤ sp ∧ sp < 1000000)
    (h : ∀ h' e t, (∀ b o, s.heap.get? b = some o → h'.get? b = some o) → s.heap.get? e = none → h'.get? e = some (ude t .none .none (.bool false) (.str enc t1) (.bytes ob t2) (.str rs t5) st sp) → Q (.ref e) { s with heap := h' }) :
    wpAny (model prog w) A (call (.type "UnicodeDecodeError") [.str enc t1, .bytes ob t2, .int st t3, .int sp t4, .str rs t5]) Q E s := by
  obtain ⟨hp, g, d, tk, os⟩ := s
  refine wpAny_call (codeAny_of_tree ?_)
  show wpAny _ _ (again (.builtin "type.__call__" ⟨[.type "UnicodeDecodeError", .str enc t1, .bytes ob t2, .int st t3, .int sp t4, .str rs t5], []⟩)) _ _ _
  exact wpAny_pure ⟨Code.quiet_builtin _ (by decide +kernel), codeAny_builtin entry_typeCall (ude_type_call h1 h2 fun h' e t k1 k2 k3 => h h' e t k1 k2 k3)⟩

/-- what the raised one hands on -/
def RaisedIn (s : Shared) (a : Addr) (E : Value → Shared → Prop) (vs : List Value) : Prop :=
  ∃ enc ob rs st sp t1 t2 t3 t4 t5, vs = [.str enc t1, .bytes ob t2, .int st t3, .int sp t4, .str rs t5] ∧ (0 ≤ st ∧ st < 1000000) ∧ (0 ≤ sp ∧ sp < 1000000) ∧ Chain s.heap a ∧
    ∀ h' e t cau sup, (∀ b o, s.heap.get? b = some o → h'.get? b = some o) → s.heap.get? e = none → h'.get? e = some (ude t (.ref a) cau sup (.str enc t1) (.bytes ob t2) (.str rs t5) st sp) → E (.ref e) { s with heap := h' }

theorem Chain.there {h : Heap} {a : Addr} (C : Chain h a) : ∃ o, h.get? a = some o := by
  cases C with
  | one ho _ _ => exact ⟨_, ho⟩
  | two ho _ _ _ _ _ _ => exact ⟨_, ho⟩
theorem Chain.keeps {h h' : Heap} {a : Addr} (C : Chain h a) (k : ∀ b o, h.get? b = some o → h'.get? b = some o) : Chain h' a := by
  cases C with
  | one ho hd h2 => exact .one (k _ _ ho) hd h2
  | two ho hd h2 hab hp hw h3 => exact .two (k _ _ ho) hd h2 hab (k _ _ hp) hw h3
theorem Chain.next {h : Heap} {a e : Addr} (C : Chain h a) (he : h.get? e = none) {h' : Heap} (k : ∀ b o, h.get? b = some o → h'.get? b = some o) : ∀ b, (∃ o vs, h'.get? a = some o ∧ o.data = .fields vs ∧ vs[2]? = some (.ref b)) → b ≠ e := by
  rintro b ⟨o, vs, ho, hd, h2⟩
  cases C with
  | one ho' hd' h2' =>
    rw [k _ _ ho'] at ho; cases ho; rw [hd'] at hd; cases hd; rw [h2'] at h2; cases h2
  | two ho' hd' h2' hab hp hw h3 =>
    rw [k _ _ ho'] at ho; cases ho; rw [hd'] at hd; cases hd; rw [h2'] at h2; cases h2
    intro z; rw [z, he] at hp; cases hp

theorem Raise_ude {x : Str} {np cpos pos : Pos} {e₀ : PySem.Expr} {rest : List PySem.Expr} {a : Addr} {Q : Flow → Shared → Prop} (hh : A.handled = some (.ref a))
    (h : wpAny (model prog w) A (eval (.Name x np) env) (fun f s₁ => f = .type "UnicodeDecodeError" ∧ wpAny (model prog w) A (spliced (backTo cpos (starEach (e₀ :: rest) env)))
      (fun vs s₂ => Stop (RaisedIn s₂ a E vs)) E s₁) E s)
    (he : starEach (e₀ :: rest) env = (false, eval e₀ env) :: starEach rest env := by rfl) (hplain : (backTo cpos (starEach rest env)).any (·.1) = false := by rfl) :
    wpAny (model prog w) A (exec (.Raise (some (.Call (.Name x np) (e₀ :: rest) [] cpos)) none pos) env) Q E s := by
  rw [arm_exec_Raise]
  refine wpAny_bind (wpAny_standAt ?_)
  show wpAny _ _ (raiseStmt env (some (do let v ← eval (.Call (.Name x np) (e₀ :: rest) [] cpos) env; standAt pos; pure v)) none) _ _ _
  refine raiseStmt_in hh (wpAny_bind (wpAny_Call_ofName (wpAny_mono h (fun f s₁ h₁ => ?_) fun _ _ y => y)))
  obtain ⟨rfl, h₁⟩ := h₁
  refine callWith_excType (by rw [he]; show (false || (backTo cpos (starEach rest env)).any (·.1)) = false; rw [hplain]; rfl) ?_
  rw [he] at h₁ ⊢
  refine Calls.evalArgs_plain (wpAny_mono h₁ (fun vs s₂ h₂ => ?_) fun _ _ y => y)
  obtain ⟨enc, ob, rs, st, sp, t1, t2, t3, t4, t5, rfl, b1, b2, C, hE⟩ := h₂
  refine call_ude b1 b2 fun h' e t k1 k2 k3 => wpAny_bind (wpAny_standAt (wpAny_pure ⟨e, t, _, _, _, st, sp, rfl, k3, ?_, C.keeps k1, C.next k2 k1, ?_⟩))
  · obtain ⟨o, ho⟩ := C.there
    intro z; rw [z, k2] at ho; cases ho
  · refine hE _ e t .none (.bool false) (fun b o q => ?_) k2 (Heap.get?_update_self _ k3 rfl)
    rw [Heap.get?_update_other _ _ (fun z => by rw [← z, k2] at q; cases q)]
    exact k1 b o q

theorem Raise_ude_from {x : Str} {np cpos pos npos : Pos} {k : Nat} {e₀ : PySem.Expr} {rest : List PySem.Expr} {a : Addr} {Q : Flow → Shared → Prop} (hh : A.handled = some (.ref a))
    (h : wpAny (model prog w) A (eval (.Name x np) env) (fun f s₁ => f = .type "UnicodeDecodeError" ∧ wpAny (model prog w) A (spliced (backTo cpos (starEach (e₀ :: rest) env)))
      (fun vs s₂ => Stop (RaisedIn s₂ a E vs)) E s₁) E s)
    (he : starEach (e₀ :: rest) env = (false, eval e₀ env) :: starEach rest env := by rfl) (hplain : (backTo cpos (starEach rest env)).any (·.1) = false := by rfl) :
    wpAny (model prog w) A (exec (.Raise (some (.Call (.Name x np) (e₀ :: rest) [] cpos)) (some (.Constant .none k npos)) pos) env) Q E s := by
  rw [arm_exec_Raise]
  refine wpAny_bind (wpAny_standAt ?_)
  show wpAny _ _ (raiseStmt env (some (do let v ← eval (.Call (.Name x np) (e₀ :: rest) [] cpos) env; standAt pos; pure v)) (some (do let v ← eval (.Constant .none k npos) env; standAt pos; pure v))) _ _ _
  refine raiseStmt_from hh (fun s Q hq => wpAny_bind (wpAny_of_eq (a := Value.none) rfl (wpAny_bind (wpAny_standAt (wpAny_pure hq))))) (wpAny_bind (wpAny_Call_ofName (wpAny_mono h (fun f s₁ h₁ => ?_) fun _ _ y => y)))
  obtain ⟨rfl, h₁⟩ := h₁
  refine callWith_excType (by rw [he]; show (false || (backTo cpos (starEach rest env)).any (·.1)) = false; rw [hplain]; rfl) ?_
  rw [he] at h₁ ⊢
  refine Calls.evalArgs_plain (wpAny_mono h₁ (fun vs s₂ h₂ => ?_) fun _ _ y => y)
  obtain ⟨enc, ob, rs, st, sp, t1, t2, t3, t4, t5, rfl, b1, b2, C, hE⟩ := h₂
  refine call_ude b1 b2 fun h' e t k1 k2 k3 => wpAny_bind (wpAny_standAt (wpAny_pure ⟨e, t, _, _, _, st, sp, rfl, k3, ?_, C.keeps k1, C.next k2 k1, ?_⟩))
  · obtain ⟨o, ho⟩ := C.there
    intro z; rw [z, k2] at ho; cases ho
  · exact fun h'' j1 j2 => hE _ e t .none (.bool true) (fun b o q => j1 b o (fun z => by rw [z, k2] at q; cases q) (k1 b o q)) k2 j2
end
end Mine
end
-- part X6
section
open PySem PySem.W PyProof.Rows
set_option maxRecDepth 100000
namespace Mine
noncomputable abbrev KF (w : World) : Frag := MineHd.hd.heap_1 w.params

section
variable {prog : Program} {w : World} {A : Around} {E : Value → Shared → Prop} {s : Shared} {base g h B : Heap} {outer : List Env} {L a e : Addr} {m : Str → Option Value} {news : List (Addr × Obj)} {name : Str} {scope : Scope} {cd : Value}
  {P : Array Value → Prop} {X : String} {x n : Str} {np pos : Pos} {b₀ : Stmt} {suite : List Stmt} {rest : List ExceptHandler} {Q : Flow → Shared → Prop}

theorem fly_isA {B : Heap} {l : List Env} {fl : Value} (F : Fly B l e (.type X) P fl s.heap) : s.TypeIs (.ref e) X := by
  obtain ⟨oe, vs, T, oT, ts, he, hc, _⟩ := F.tr
  exact ⟨oe, he, hc⟩

/-- a new exception is noted in its own frame -/
theorem note_new (K : Below A base outer g) (F : Fr g L h m) (hx : Heap.NewExc h s.heap e X) {Q : Unit → Shared → Prop}
    (k : ∀ h', Fly (hideAll h (frs (envOf name scope L a cd :: outer))) (envOf name scope L a cd :: outer) e (.type X) (fun vs => vs[2]? = some .none) (rawInt L) h' → h.UpToSlots h' → Q () { s with heap := h' }) (hk : scope.kind = .function) :
    wpAny (model prog w) (A.deeper (envOf name scope L a cd)) (noteFrame (.ref e) (envOf name scope L a cd)) Q E s := by
  have K' := K.push (name := name) (a := a) (cd := cd) F hk
  obtain ⟨ob, t, he, hc, hd⟩ := hx.there
  have hen : (hideAll h (frs (envOf name scope L a cd :: outer))).get? e = none := by
    cases q : (hideAll h (frs (envOf name scope L a cd :: outer))).get? e with
    | none => rfl
    | some o => have := of_hideAll _ q; rw [hx.new] at this; cases this
  exact fly_first (P := fun vs => vs[2]? = some .none) (fun vs v q => by show (vs.setIfInBounds 1 v)[2]? = some .none; rw [Array.getElem?_setIfInBounds_ne (by decide)]; exact q) K'.stack ((frames_hide K').of_keeps fun b o q _ => ⟨o, hx.keeps b o q, rfl⟩) rfl he (fun b o q => hx.keeps b o (of_hideAll _ q)) hen hd rfl rfl hc
    fun h' F' U' => k h' F' ((Heap.UpToSlots.of_keeps hx.keeps).trans U')

theorem handle0 (K : Below A base outer g) (F : Fr g L h m) (N : News g L h news) (hB : (hideAll h (frs (envOf name scope L a cd :: outer))).StaysIn B)
    (fly : Fly B (envOf name scope L a cd :: outer) e (.type X) P .none s.heap) (U : h.UpToSlots s.heap) (G : Gd w base)
    (ex : nsIn (KF w) mainGlobals x = some none) (hv : bootBuiltins x = some (.type X)) (hn' : x ≠ "__name__")
    (hexc : isSubtype (.type X) (.type "BaseException") = pure true) (hnt : isSubtype (.type ((Manifest.find? X).elim "type" fun y => y.metatype)) (.type "tuple") = pure false) (hsub : isSubtype (.type X) (.type X) = pure true)
    (hk : scope.kind = .function) (hx : (envOf name scope L a cd).kindOf x = some .globalImplicit) (hd : (x == ("__debug__" : Str)) = false)
    (k : ∀ h' g', KtsTurn (frs outer) g g' → Below A base outer g' → Fr g' L h' m → News g' L h' news → Fly B (envOf name scope L a cd :: outer) e (.type X) P .none h' → h.UpToSlots h' →
      wpAny (model prog w) ((A.deeper (envOf name scope L a cd)).mark (some (.ref e))) (execs (b₀ :: suite) (envOf name scope L a cd)) Q
        (notedBy (model prog w) ((A.deeper (envOf name scope L a cd)).mark (some (.ref e))) (envOf name scope L a cd) (cameBackBy (model prog w) (A.deeper (envOf name scope L a cd)) (envOf name scope L a cd) E)) { s with heap := h' }) :
    wpAny (model prog w) (A.deeper (envOf name scope L a cd)) (handleBy (.ref e) (envOf name scope L a cd) (.ExceptHandler (some (.Name x np)) none (b₀ :: suite) pos :: rest)) Q E s := by
  obtain ⟨g1, T1, K1, F1, N1⟩ := fly_fr K F N hB fly U
  obtain ⟨XB, p, loose, mean, mg, mb, TB⟩ := G
  refine wpAny_handleBy_builtin (X := X) (T := X) (b := true) hexc hnt hsub (name_B F1 (XB.keeps K1.stays) (topRead_of (TB.keeps K1.stays)) ex hv hn' ⟨rfl, fly_isA fly, ?_⟩ hk hx hd)
  rw [if_pos rfl]
  refine fly_flight fly fun h2 F2 U2 => ?_
  obtain ⟨g2, T2, K2, F2', N2⟩ := fly_fr K F N hB F2 (U.trans U2)
  exact k h2 g2 T2 K2 F2' N2 F2 (U.trans U2)

theorem handle1 (K : Below A base outer g) (F : Fr g L h m) (N : News g L h news) (hB : (hideAll h (frs (envOf name scope L a cd :: outer))).StaysIn B)
    (fly : Fly B (envOf name scope L a cd :: outer) e (.type X) P .none s.heap) (U : h.UpToSlots s.heap) (G : Gd w base)
    (ex : nsIn (KF w) mainGlobals x = some none) (hv : bootBuiltins x = some (.type X)) (hn' : x ≠ "__name__")
    (hexc : isSubtype (.type X) (.type "BaseException") = pure true) (hnt : isSubtype (.type ((Manifest.find? X).elim "type" fun y => y.metatype)) (.type "tuple") = pure false) (hsub : isSubtype (.type X) (.type X) = pure true)
    (hk : scope.kind = .function) (hx : (envOf name scope L a cd).kindOf x = some .globalImplicit) (hd : (x == ("__debug__" : Str)) = false) (hlo : (envOf name scope L a cd).kindOf n = some .local)
    (k : ∀ h₀' h' g' tk, KtsTurn (frs outer) g g' → Below A base outer g' → Fr g' L h' (fun y => if y = n then some (.ref e) else m y) → News g' L h' news → Fly B (envOf name scope L a cd :: outer) e (.type X) P .none h₀' → h.UpToSlots h₀' → Heap.SameBut L h₀' h' →
      wpAny (model prog w) ((A.deeper (envOf name scope L a cd)).mark (some (.ref e))) (execs (b₀ :: suite) (envOf name scope L a cd))
        (fun f s₄ => wpAny (model prog w) (A.deeper (envOf name scope L a cd)) (do bindName (envOf name scope L a cd) n .none; unbindBehindTheSuite (envOf name scope L a cd) n pos) (fun _ s₅ => Q f s₅) E s₄)
        (AsSuiteRaised (model prog w) ((A.deeper (envOf name scope L a cd)).mark (some (.ref e))) (envOf name scope L a cd) n pos (notedBy (model prog w) ((A.deeper (envOf name scope L a cd)).mark (some (.ref e))) (envOf name scope L a cd) (cameBackBy (model prog w) (A.deeper (envOf name scope L a cd)) (envOf name scope L a cd) E)))
        { s with heap := h', toks := tk }) :
    wpAny (model prog w) (A.deeper (envOf name scope L a cd)) (handleBy (.ref e) (envOf name scope L a cd) (.ExceptHandler (some (.Name x np)) (some n) (b₀ :: suite) pos :: rest)) Q E s := by
  obtain ⟨g1, T1, K1, F1, N1⟩ := fly_fr K F N hB fly U
  obtain ⟨XB, p, loose, mean, mg, mb, TB⟩ := G
  refine wpAny_handleBy_builtin_as (X := X) (T := X) (b := true) hexc hnt hsub (name_B F1 (XB.keeps K1.stays) (topRead_of (TB.keeps K1.stays)) ex hv hn' ⟨rfl, fly_isA fly, ?_⟩ hk hx hd)
  rw [if_pos rfl]
  refine fly_flight fly fun h2 F2 U2 => ?_
  obtain ⟨g2, T2, K2, F2', N2⟩ := fly_fr K F N hB F2 (U.trans U2)
  refine wpAny_storeName_local hlo F2'.ns (fun h3 hn hs => ?_) (by show (scope.kind == .class || (scope.kind == .module && L != mainGlobals)) = false; rw [hk]; rfl)
  exact k h2 h3 g2 _ T2 K2 (F2'.set hn hs) (N2.set hs) F2 (U.trans U2) hs

theorem frames_but {h2 h3 B : Heap} {L : Addr} (other : ∀ b, b ≠ L → h3.get? b = h2.get? b) (hL : ∃ o, h3.get? L = some o ∧ ∀ vs, o.data ≠ .fields vs) : ∀ {l : List Env}, h2.FunFrames B l → h3.FunFrames B l
  | [], _ => trivial
  | env :: r, ⟨hk, ⟨L', o, hf, hn, ho, hd⟩, hr⟩ => by
    refine ⟨hk, ?_, frames_but other hL hr⟩
    by_cases q : L' = L
    · subst q
      obtain ⟨o3, ho3, hd3⟩ := hL
      exact ⟨L', o3, hf, hn, ho3, hd3⟩
    · exact ⟨L', o, hf, hn, (other L' q).trans ho, hd⟩
/-- the suite of an except .. as raises anew: the name goes, the frame is noted -/
theorem as_raised {A' : Around} {P' : Array Value → Prop} {cls : Value} {oe : Obj} {vs : Array Value} {NB : Value → Shared → Prop} (hP1 : Keep1 P') (hfr : A'.frames = some (envOf name scope L a cd :: outer)) (hl : s.heap.FunFrames B (envOf name scope L a cd :: outer))
    (he : s.heap.get? e = some oe) (hkb : B.StaysIn s.heap) (hen : B.get? e = none) (hd : oe.data = .fields vs) (h1 : vs[1]? = some .none) (hP : P' vs) (hc : oe.cls = cls) (hns : s.heap.Ns L m)
    (hk : scope.kind = .function) (hlo : (envOf name scope L a cd).kindOf n = some .local)
    (k : ∀ h' tk, Fly B (envOf name scope L a cd :: outer) e cls P' (rawInt L) h' → (∀ b o, b ≠ L → s.heap.get? b = some o → (∀ vs, o.data ≠ .fields vs) → ∃ sl, h'.get? b = some { o with slots := sl }) → NB (.ref e) { s with heap := h', toks := tk }) :
    AsSuiteRaised (model prog w) A' (envOf name scope L a cd) n pos NB (.ref e) s := by
  refine fly_first hP1 hfr hl rfl he hkb hen hd h1 hP hc fun h2 F2 U2 => ?_
  have hns2 := U2.ns hns
  have hp : ((envOf name scope L a cd).scope.kind == .class || ((envOf name scope L a cd).scope.kind == .module && (envOf name scope L a cd).locals != (envOf name scope L a cd).globals)) = false := by
    show (scope.kind == .class || (scope.kind == .module && L != mainGlobals)) = false; rw [hk]; rfl
  refine wpAny_nameGoes hlo hns2 hp fun h3 m3 hns3 hs3 => ?_
  have dict2 : ∀ o, h2.get? L = some o → ∀ vs, o.data ≠ .fields vs := fun o q vs z => by
    obtain ⟨o', es, ep, ho, hdd, _⟩ := hns2
    rw [q] at ho; cases ho; rw [z] at hdd; cases hdd
  have other : ∀ b, b ≠ L → h3.get? b = h2.get? b := fun b hb => hs3.2 b hb
  obtain ⟨hkB, hn, hl2, oe2, vs2, T, oT, ts, he2, hc2, hP2, hd2, h12, hnT, hTe, hT, hdT, h32⟩ := F2
  have hLB : B.get? L = none := by
    obtain ⟨_, ⟨L', _, hf, hn', _⟩, _⟩ := hl2
    obtain rfl : L = L' := Option.some.inj hf
    exact hn'
  have F3 : Fly B (envOf name scope L a cd :: outer) e cls P' (rawInt L) h3 := by
    refine ⟨fun b o q => (other b fun z => by rw [z, hLB] at q; cases q).trans (hkB b o q), hn, frames_but other ?_ hl2, oe2, vs2, T, oT, ts, (other e fun z => dict2 _ (z ▸ he2) _ hd2).trans he2, hc2, hP2, hd2, h12, hnT, hTe, (other T fun z => dict2 _ (z ▸ hT) _ hdT).trans hT, hdT, h32⟩
    obtain ⟨o3, es, ep, ho3, hd3, _⟩ := hns3
    exact ⟨o3, ho3, fun vs q => by rw [hd3] at q; cases q⟩
  unfold PySem.passOn
  refine wpAny_bind (fly_traced (s := { s with heap := h3, toks := _ }) F3 fun T => ?_)
  refine A_ff rfl ?_
  refine wpAny_bind (fly_flight (s := { s with heap := h3, toks := _ }) F3 fun h4 F4 U4 => wpAny_throw ?_)
  refine k h4 _ F4 fun b o hb q hnf => ?_
  obtain ⟨sl, q2⟩ := U2 b o q hnf
  obtain ⟨sl', q3⟩ := U4 b _ ((other b hb).trans q2) hnf
  exact ⟨sl', q3⟩
end
end Mine
end
-- part F5
section
open PySem PySem.W PyProof.Rows
namespace Mine
theorem anewF5 {M : Model} {A : Around} {E : Value → Shared → Prop} {s : Shared} {Q : Nat → Shared → Prop} (h : Q 0 s) : wpAny M A (pure 0) Q E s := by
  first | (walk1; exact h) | exact wpAny_pure h
end Mine
end
section
open PySem PySem.W PyProof.Rows
set_option maxRecDepth 100000
set_option maxHeartbeats 1000000
namespace Mine
theorem fill5 : PySem.Challenge.rw_ny0167_01 = PySem.Challenge.rw_ny0167_01 ∧ MineHd.hd.heap_1 = MineHd.hd.heap_1 := by
  k_fill
  exact ⟨rfl, rfl⟩

open Builtin in
theorem raises_bytes_getitem (b : Array UInt8) (i : Int) (t u : Tok) (hr : Bytes.fitsIndex i = true) (h : (seqIndex? i b.size).bind (b[·]?) = none) :
    Meets («bytes.__getitem__» ⟨[.bytes b t, .int i u], []⟩) (raisesNew "IndexError") := by
  intro prog w A R s hS
  show wpAny _ A.in1 (Bytes.subscript? (.int i u) >>= fun r => _) _ _ s
  refine wpAny_bind ?_
  unfold Bytes.subscript?
  refine wpAny_bind (wpAny_specialOf (typeIs_int s i u) F.slot_int_index.lookup ?_)
  show wpAny _ A.in1 (if (!Bytes.fitsIndex i) = true then _ else pure (some i)) _ _ s
  rw [hr]
  refine wpAny_pure ?_
  show wpAny _ A.in1 (match (seqIndex? i b.size).bind (b[·]?) with | some x => retInt x.toNat | none => _) _ _ s
  rw [h]
  refine wpAny_bind (wpAny_rule (wpAny_bind ?_))
  exact wpAny_raiseErrorWords plainExc_IndexError hS.1 hS.2

section
variable {prog : Program} {w : World} {A : Around} {E : Value → Shared → Prop} {s : Shared}
theorem sub_out {value slice : PySem.Expr} {b : Array UInt8} {t u : Tok} {i : Int} {Q : Value → Shared → Prop} (hh : A.handled = none) (h0 : (b.size : Int) ≤ i) (h1 : i < 1000000)
    (h : ∀ h' tk e, Heap.NewExc s.heap h' e "IndexError" → E (.ref e) { s with heap := h', toks := tk })
    (hs : subscripted slice false (.bytes b t) (.int i u) = operate [.bytes b t, .int i u] (getItem (.bytes b t) (.int i u)) := by with_unfolding_all rfl)
    (ht : ∀ r, letTemporaryGo value (.bytes b t) r = pure () := by intro _; with_unfolding_all rfl) : wpAny (model prog w) A (subscriptTail value slice (.bytes b t) (.int i u)) Q E s := by
  refine tail_of_ItemOn ⟨"bytes", _, FB.slot_bytes_getitem.lookup, typeIs_bytes _ _ _, getItem_meets (typeIs_bytes _ _ _) (by decide) FB.slot_bytes_getitem FB.entry_bytes_getitem (FB.args_bytes_getitem_2 _ _) (raises_bytes_getitem b i t u ?_ ?_) ⟨hh, h⟩⟩ hs ht
  · simp only [Builtin.Bytes.fitsIndex, Bool.and_eq_true, decide_eq_true_eq]; omega
  · have : seqIndex? i b.size = none := by
      unfold seqIndex?
      have : ¬ i < 0 := by omega
      simp [this]; omega
    rw [this]; rfl
theorem sub_in {value slice : PySem.Expr} {b : Array UInt8} {t u : Tok} {i : Int} {c : UInt8} {Q : Value → Shared → Prop} (hc : b.toList.getD i.toNat 0 = c) (hi : 0 ≤ i) (h0 : i < b.size) (h1 : b.size < 1000000)
    (h : ∀ t' k, Q (.int (c.toNat : Int) t') { s with toks := k })
    (hs : subscripted slice false (.bytes b t) (.int i u) = operate [.bytes b t, .int i u] (getItem (.bytes b t) (.int i u)) := by with_unfolding_all rfl)
    (ht : ∀ r, letTemporaryGo value (.bytes b t) r = pure () := by intro _; with_unfolding_all rfl) : wpAny (model prog w) A (subscriptTail value slice (.bytes b t) (.int i u)) Q E s := by
  have g : wpAny (model prog w) A (getItem (.bytes b t) (.int i u)) Q E s := by
    refine getItem_gives (typeIs_bytes s _ t) (by decide) FB.slot_bytes_getitem FB.entry_bytes_getitem (FB.args_bytes_getitem_2 _ _) (gives_bytes_getitem _ i t u c ?_ ?_) ?_
    · simp only [Builtin.Bytes.fitsIndex, Bool.and_eq_true, decide_eq_true_eq]; omega
    · have e : seqIndex? i b.size = some i.toNat := by
        have h2 : ¬ i < 0 := by omega
        simp [seqIndex?, h2, h0, hi]
      have hl : i.toNat < b.size := by omega
      rw [e, ← hc]; simp [hl]
    · exact h _ _
  exact tail_of_ItemOn ⟨"bytes", _, FB.slot_bytes_getitem.lookup, typeIs_bytes _ _ _, g⟩ hs ht
end

def fig (c : UInt8) : Int := if 65 ≤ c.toNat ∧ c.toNat ≤ 90 then c.toNat - 65 else c.toNat - 22
def isFig (c : UInt8) : Prop := (65 ≤ c.toNat ∧ c.toNat ≤ 90) ∨ (48 ≤ c.toNat ∧ c.toNat ≤ 57)
def dgnL (b : Int) : List UInt8 → Int → Int → Int → Option (Int × List UInt8)
  | [], _, _, _ => none
  | c :: r, J, R, W => if fig c < Tf J b then some (R + fig c * W, r) else dgnL b r (J + 1) (R + fig c * W) (W * (36 - Tf J b))

local macro_rules | `(tactic| walk_at "call ref") => `(tactic| refine stop ?_)
local macro_rules | `(tactic| walk_at "exec While") => `(tactic| refine stop ?_)
local macro_rules | `(tactic| walk_at "subscriptTail") => `(tactic| refine stop ?_)
local macro_rules | `(tactic| walk_at "exec Raise some none") => `(tactic| refine stop ?_)
local macro_rules | `(tactic| walk_at "exec Try") => `(tactic| refine stop ?_)

/-- what is known of a refusal -/
def UdeP (H B : Heap) (vs : Array Value) : Prop := ∃ t tb cau sup x enc ob rs tr st sp e0 o0 ws, vs = #[t, tb, .ref e0, cau, sup, x, enc, ob, rawInt st, rawInt sp, .str rs tr] ∧ 0 ≤ st ∧ st < 100000 ∧ 0 ≤ sp ∧ sp < 100000 ∧ B.get? e0 = some o0 ∧ o0.data = .fields ws ∧ ws[2]? = some .none ∧ H.get? e0 = none
theorem UdeP.keep1 (H B : Heap) : Keep1 (UdeP H B) := by
  rintro vs v ⟨t, tb, cau, sup, x, enc, ob, rs, tr, st, sp, e0, o0, ws, rfl, r⟩
  exact ⟨t, v, cau, sup, x, enc, ob, rs, tr, st, sp, e0, o0, ws, rfl, r⟩
theorem fig_big {c : UInt8} (h : 65 ≤ c.toNat ∧ c.toNat ≤ 90) : fig c = c.toNat - 65 := by unfold fig; rw [if_pos h]
theorem fig_small {c : UInt8} (h : 48 ≤ c.toNat ∧ c.toNat ≤ 57) : fig c = c.toNat - 22 := by unfold fig; rw [if_neg (by omega)]
theorem UdeP.anti {H H' B : Heap} (k : H.StaysIn H') {vs : Array Value} : UdeP H' B vs → UdeP H B vs := by
  rintro ⟨t, tb, cau, sup, x, enc, ob, rs, tr, st, sp, e0, o0, ws, e1, e2, e3, e4, e5, e6, e7, e8, e9⟩
  refine ⟨t, tb, cau, sup, x, enc, ob, rs, tr, st, sp, e0, o0, ws, e1, e2, e3, e4, e5, e6, e7, e8, ?_⟩
  cases q : H.get? e0 with
  | none => rfl
  | some o => have := k _ _ q; rw [e9] at this; cases this
theorem dgn_step {b : Int} {ext : Array UInt8} {q : Nat} {J R W : Int} {o : Option (Int × List UInt8)} (hlt : q < ext.size) (h : dgnL b (ext.toList.drop q) J R W = o) :
    (if fig (ext.toList.getD q 0) < Tf J b then some (R + fig (ext.toList.getD q 0) * W, ext.toList.drop (q + 1)) else dgnL b (ext.toList.drop (q + 1)) (J + 1) (R + fig (ext.toList.getD q 0) * W) (W * (36 - Tf J b))) = o := by
  have e : ext.toList.drop q = ext.toList.getD q 0 :: ext.toList.drop (q + 1) := by
    have hq : q < ext.toList.length := by simpa using hlt
    rw [List.drop_eq_getElem_cons hq, List.getD_eq_getElem?_getD, List.getElem?_eq_getElem hq]; rfl
  rw [e, dgnL] at h
  exact h
theorem dgn_end1 {b J R W x : Int} {c : UInt8} {rest : List UInt8} {o z : Option (Int × List UInt8)} (h : (if fig c < Tf J b then some (R + fig c * W, rest) else z) = o) (e : fig c = x) (hlt : x < Tf J b) : o = some (R + x * W, rest) := by
  rw [e, if_pos hlt] at h; exact h.symm
theorem dgn_end2 {b J R W x : Int} {c : UInt8} {rest : List UInt8} {o : Option (Int × List UInt8)} {y : Option (Int × List UInt8)} (h : (if fig c < Tf J b then y else dgnL b rest (J + 1) (R + fig c * W) (W * (36 - Tf J b))) = o) (e : fig c = x) (hlt : ¬ x < Tf J b) : dgnL b rest (J + 1) (R + x * W) (W * (36 - Tf J b)) = o := by
  rw [e, if_neg hlt] at h; exact h
theorem dgn_pos {ext : Array UInt8} {q : Nat} (h : q < ext.size) : ((ext.size - (ext.toList.drop (q + 1)).length : Nat) : Int) = (q : Int) + 1 := by
  rw [List.length_drop, Array.length_toList]; omega
theorem news1 {h₀ h : Heap} {L a : Addr} {o : Obj} (N : News h₀ L h [(a, o)]) : h.get? a = some o ∧ h₀.get? a = none := ⟨(N _ (.head _)).1, (N _ (.head _)).2.2⟩
def tupObj (l : List Value) : Obj := { cls := .type "tuple", data := .seq l.toArray }

theorem fly_mono {B h : Heap} {l : List Env} {e : Addr} {cls fl : Value} {P P' : Array Value → Prop} (k : ∀ vs, P vs → P' vs) (F : Fly B l e cls P fl h) : Fly B l e cls P' fl h := by
  obtain ⟨a, b, c, oe, vs, T, oT, ts, he, hc, hP, r⟩ := F
  exact ⟨a, b, c, oe, vs, T, oT, ts, he, hc, k vs hP, r⟩
theorem fly_P {B h : Heap} {l : List Env} {e : Addr} {cls fl : Value} {C : Prop} {P : Array Value → Prop} (F : Fly B l e cls (fun vs => C ∧ P vs) fl h) : C ∧ True := by
  obtain ⟨a, b, c, oe, vs, T, oT, ts, he, hc, hP, r⟩ := F
  exact ⟨hP.1, trivial⟩
theorem raise_out {M : Model} {A A' A'' : Around} {s : Shared} {base g h h5 : Heap} {outer : List Env} {L a e : Addr} {m : Str → Option Value} {name : Str} {scope : Scope} {cd cls : Value} {P : Heap → Array Value → Prop} {oe : Obj} {vs : Array Value} {tk : Nat}
    (K : Below A base outer g) (F : Fr g L h m) (T : KtsTurn (frs outer) s.heap g) (k1 : ∀ b o, h.get? b = some o → h5.get? b = some o) (k2 : h.get? e = none) (k3 : h5.get? e = some oe) (hd : oe.data = .fields vs) (h1 : vs[1]? = some .none) (hc : oe.cls = cls)
    (hP1 : ∀ B, Keep1 (P B)) (hP : P (hideAll h (frs (envOf name scope L a cd :: outer))) vs) (hfr : A'.frames = some (envOf name scope L a cd :: outer)) (hk : scope.kind = .function) :
    notedBy M A' (envOf name scope L a cd) (cameBackBy M A'' (envOf name scope L a cd) (EB s (envOf name scope L a cd :: outer) L cls P)) (.ref e) { s with heap := h5, toks := tk } := by
  have K' := K.push (name := name) (a := a) (cd := cd) F hk
  have hen : (hideAll h (frs (envOf name scope L a cd :: outer))).get? e = none := by
    cases q : (hideAll h (frs (envOf name scope L a cd :: outer))).get? e with
    | none => rfl
    | some o => have := of_hideAll _ q; rw [k2] at this; cases this
  have up : s.heap.UpToSlots h5 := fun b o q hn => by
    obtain ⟨sl, hs⟩ := T.up q
    exact ⟨sl, k1 _ _ (F.keep _ _ hs)⟩
  refine fly_first (s := { s with heap := h5, toks := tk }) (hP1 _) hfr ((frames_hide K').of_keeps fun b o q _ => ⟨o, k1 b o q, rfl⟩) rfl k3 (fun b o q => k1 b o (of_hideAll _ q)) hen hd h1 hP hc fun h6 F6 U6 => ?_
  refine fly_back (s := { s with heap := h6, toks := tk }) F6 rfl fun h7 F7 U7 => ?_
  exact ⟨e, h7, tk, _, _, rfl, rfl, .inr rfl, fun b o q => hide_push F b o (hide_turn T b o q), F7, (up.trans U6).trans U7⟩
theorem not_frame {A : Around} {base g : Heap} {outer : List Env} {L a b : Addr} {name : Str} {scope : Scope} {cd : Value} (K : Below A base outer g) (h1 : b ≠ L) (h2 : g.get? b = none) : b ∉ frs (envOf name scope L a cd :: outer) := fun hm => by
  rcases kts_mem hm with z | z
  · exact h1 z
  · obtain ⟨_, o, ho, _⟩ := K.frames.mem z
    rw [h2] at ho; cases ho
theorem turn_none {fs : List Addr} {g g' : Heap} (T : KtsTurn fs g g') {b : Addr} (h : g'.get? b = none) : g.get? b = none := by
  cases q : g.get? b with
  | none => rfl
  | some o => obtain ⟨sl, hs⟩ := T.up q; rw [h] at hs; cases hs
theorem stays_none {g g' : Heap} (k : g.StaysIn g') {b : Addr} (h : g'.get? b = none) : g.get? b = none := by
  cases q : g.get? b with
  | none => rfl
  | some o => have := k _ _ q; rw [h] at this; cases this
theorem dgn_k {prog : Program} {w : World} {A : Around} {s : Shared} {Q E : Value → Shared → Prop} {base : Heap} {outer : List Env} {ext : Array UInt8} {pos : Nat} {bias : Int} {err : Str} {t1 t2 t3 t4 : Tok}
    (G : Gd w base) (K : Below A base outer s.heap) (r : Rm A 2) (hz : ext.size < 10000) (hp : pos ≤ ext.size) (hf : ∀ c ∈ ext.toList, isFig c)
    (hQ1 : ∀ v rest, dgnL bias (ext.toList.drop pos) 0 0 1 = some (v, rest) → ∀ a u1 u2 h' tk', s.heap.StaysIn h' → s.heap.get? a = none → h'.get? a = some (tupObj [.int ((ext.size - rest.length : Nat) : Int) u1, .int v u2]) → Q (.ref a) { s with heap := h', toks := tk' })
    (hQ2 : dgnL bias (ext.toList.drop pos) 0 0 1 = none → err ≠ "strict" → ∀ a u1 h' tk', Up (frs outer) s.heap h' → s.heap.get? a = none → h'.get? a = some (tupObj [.int ((ext.size + 1 : Nat) : Int) u1, .none]) → Q (.ref a) { s with heap := h', toks := tk' })
    (hE3 : dgnL bias (ext.toList.drop pos) 0 0 1 = none → err = "strict" → ∀ e h' tk' B, (hideAll s.heap (frs outer)).StaysIn B → Fly B outer e (.type "UnicodeDecodeError") (UdeP s.heap B) .none h' → s.heap.UpToSlots h' → E (.ref e) { s with heap := h', toks := tk' }) :
    wpAny (model prog w) A (call (.ref 49) [.bytes ext t1, .int pos t2, .int bias t3, .str err t4]) Q E s := by
  have G' : Gd w s.heap := G.keeps K.stays
  obtain ⟨X, p, loose, mean, mg, mb, T⟩ := id G'
  refine' enter (binds := [("extended", .bytes ext t1), ("extpos", .int pos t2), ("bias", .int bias t3), ("errors", .str err t4)]) ?eX ?eT ?eo ?ec ?er ?eb ?el ?eco ?ege ?ek ?ece ?_
  ((case eX => k_asm); (case eT => k_asm); (case eo => k_dflt k_is); (case ec => k_dflt k_is); (case er => exact Rm.depth (by assumption)); (case eb => exact BindsTo.of_eq (by with_unfolding_all rfl)); (case el => exact locs rfl); (case eco => exact rfl); (case ege => exact rfl); (case ek => exact rfl); (case ece => decide); k_whole)
  intro L h₁ tk F N
  refine wpAny_mono (E := EB s (_ :: outer) L (.type "UnicodeDecodeError") (fun B vs => (dgnL bias (ext.toList.drop pos) 0 0 1 = none ∧ err = "strict") ∧ UdeP s.heap B vs)) ?_ (fun _ _ x => x) (fun v s' x => EB.leave (fun B vs v q => ⟨q.1, UdeP.keep1 _ B vs v q.2⟩) (Around.frames_deeper K.stack) rfl (fun e h' tk' B hB fly U => hE3 (fly_P fly).1.1 (fly_P fly).1.2 e h' tk' B hB (fly_mono (fun _ q => q.2) fly) U) x)
  generalize hEE : EB s (_ :: outer) L (.type "UnicodeDecodeError") (fun B vs => (dgnL bias (ext.toList.drop pos) 0 0 1 = none ∧ err = "strict") ∧ UdeP s.heap B vs) = EE
  (try dsimp only)
  (k_steps; all_goals (repeat' (first | ((with_reducible refine unstop ?_); (first | (with_reducible (first | ((k_here; first | ((refine sub_in (by assumption) (by omega) (by omega) (by omega) ?_); intro _ _) | (refine sub_out (Rm.hd (Rm.to (m := 0) (by assumption) (by decide))) (Int.le_refl _) (by omega) ?_; intro zzhX zztkX zzeX zznewX; refine stop ?_))) | ((k_here; (with_reducible refine' T_k ?g9 ?r9 ?_); (case g9 => exact Gd.keeps (by assumption) (Fr.stays (by assumption))); (case r9 => exact Rm.to (by assumption) (by decide)); intro zzt9 zzh9 zztk9 zzk9; (have zzF9 := Fr.grow (by assumption) zzk9); (have zzN9 := News.grow (by assumption) zzk9); (try k_sweep))) | fail)) ); k_steps) | fail)))
  unfold Stop
  refine while_E (ι := Nat × Int × Int × Int) (hEE ▸ EB.passes (fun B vs v q => ⟨q.1, UdeP.keep1 _ B vs v q.2⟩) (Around.frames_deeper K.stack) rfl) (fun i s' => ∃ h' tk' m u1 u2 u3 u4, s' = { s with heap := h', toks := tk' } ∧ Fr s.heap L h' m ∧ i.1 ≤ ext.size ∧ dgnL bias (ext.toList.drop i.1) i.2.1 i.2.2.1 i.2.2.2 = dgnL bias (ext.toList.drop pos) 0 0 1 ∧
     m "extended" = some (.bytes ext t1) ∧ m "extpos" = some (.int i.1 u1) ∧ m "bias" = some (.int bias t3) ∧ m "errors" = some (.str err t4) ∧ m "j" = some (.int i.2.1 u2) ∧ m "result" = some (.int i.2.2.1 u3) ∧ m "w" = some (.int i.2.2.2 u4)) (fun i => ext.size - i.1) ?_ ?_
  · exact ⟨(pos, 0, 0, 1), _, _, _, _, _, _, _, rfl, by assumption, hp, rfl, rfl, rfl, rfl, rfl, rfl, rfl, rfl⟩
  · rintro ⟨q, J, R, W⟩ s' ⟨h', tk', m, u1, u2, u3, u4, rfl, F, hq, hd, hm1, hm2, hm3, hm4, hm5, hm6, hm7⟩
    dsimp only at hq hd hm2 hm5 hm6 hm7
    replace F := Fr.view F [("extended", .bytes ext t1), ("extpos", .int q u1), ("bias", .int bias t3), ("errors", .str err t4), ("j", .int J u2), ("result", .int R u3), ("w", .int W u4)] (by simp only [List.forall_mem_cons]; exact ⟨hm1, hm2, hm3, hm4, hm5, hm6, hm7, List.forall_mem_nil _⟩)
    have N : News s.heap L h' [] := News.nil
    clear hm1 hm2 hm3 hm4 hm5 hm6 hm7
    (k_steps; all_goals (repeat' (first | ((with_reducible refine unstop ?_); (first | (with_reducible (first | ((k_here; first | ((refine sub_in (by assumption) (by omega) (by omega) (by omega) ?_); intro _ _) | (refine sub_out (Rm.hd (Rm.to (m := 0) (by assumption) (by decide))) (Int.le_refl _) (by omega) ?_; intro zzhX zztkX zzeX zznewX; refine stop ?_))) | ((k_here; (with_reducible refine' T_k ?g9 ?r9 ?_); (case g9 => exact Gd.keeps (by assumption) (Fr.stays (by assumption))); (case r9 => exact Rm.to (by assumption) (by decide)); intro zzt9 zzh9 zztk9 zzk9; (have zzF9 := Fr.grow (by assumption) zzk9); (have zzN9 := News.grow (by assumption) zzk9); (try k_sweep))) | fail)) ); k_steps) | fail)))
    unfold Stop
    refine wpAny_Try_except ?_
    by_cases hlt : q < ext.size
    · have hcin : ext.toList.getD ((q : Int)).toNat 0 ∈ ext.toList := by
        rw [Int.toNat_natCast, List.getD_eq_getElem?_getD, List.getElem?_eq_getElem (by simpa using hlt)]
        exact List.getElem_mem _
      have hfig := hf _ hcin
      have hst := dgn_step hlt hd
      rw [Int.toNat_natCast] at hfig hcin
      generalize hc : ext.toList.getD ((q : Int)).toNat 0 = c at *
      rw [Int.toNat_natCast] at hc
      rw [hc] at hfig hcin hst
      have hc' : ext.toList.getD ((q : Int)).toNat 0 = c := hc
      have hT1 := Tf_lo J bias
      have hT2 := Tf_hi J bias
      rcases hfig with hfig | hfig
      · have e1 := fig_big hfig
        (k_steps; all_goals (repeat' (first | ((with_reducible refine unstop ?_); (first | (with_reducible (first | ((k_here; first | ((refine sub_in (by assumption) (by omega) (by omega) (by omega) ?_); intro _ _) | (refine sub_out (Rm.hd (Rm.to (m := 0) (by assumption) (by decide))) (Int.le_refl _) (by omega) ?_; intro zzhX zztkX zzeX zznewX; refine stop ?_))) | ((k_here; (with_reducible refine' T_k ?g9 ?r9 ?_); (case g9 => exact Gd.keeps (by assumption) (Fr.stays (by assumption))); (case r9 => exact Rm.to (by assumption) (by decide)); intro zzt9 zzh9 zztk9 zzk9; (have zzF9 := Fr.grow (by assumption) zzk9); (have zzN9 := News.grow (by assumption) zzk9); (try k_sweep))) | fail)) ); k_steps) | fail)))
        · have hn := dgn_end1 hst e1 (by assumption)
          (with_reducible rename News _ _ _ _ => N8)
          have hN := news1 N8
          exact Eq.mp (congrArg (fun x => Q x _) rfl) (hQ1 _ _ hn _ _ _ _ _ (Fr.stays (by assumption)) hN.2 (by rw [dgn_pos hlt]; exact hN.1))
        · have hn := dgn_end2 hst e1 (by assumption)
          refine Halt.mk ?_
          exact ⟨(q + 1, J + 1, _, _), by show ext.size - (q + 1) < ext.size - q; omega, _, _, _, _, _, _, _, rfl, by assumption, hlt, hn, rfl, rfl, rfl, rfl, rfl, rfl, rfl⟩
      · have e1 := fig_small hfig
        (k_steps; all_goals (repeat' (first | ((with_reducible refine unstop ?_); (first | (with_reducible (first | ((k_here; first | ((refine sub_in (by assumption) (by omega) (by omega) (by omega) ?_); intro _ _) | (refine sub_out (Rm.hd (Rm.to (m := 0) (by assumption) (by decide))) (Int.le_refl _) (by omega) ?_; intro zzhX zztkX zzeX zznewX; refine stop ?_))) | ((k_here; (with_reducible refine' T_k ?g9 ?r9 ?_); (case g9 => exact Gd.keeps (by assumption) (Fr.stays (by assumption))); (case r9 => exact Rm.to (by assumption) (by decide)); intro zzt9 zzh9 zztk9 zzk9; (have zzF9 := Fr.grow (by assumption) zzk9); (have zzN9 := News.grow (by assumption) zzk9); (try k_sweep))) | fail)) ); k_steps) | fail)))
        have hn := dgn_end2 hst e1 (by omega)
        refine Halt.mk ?_
        exact ⟨(q + 1, J + 1, _, _), by show ext.size - (q + 1) < ext.size - q; omega, _, _, _, _, _, _, _, rfl, by assumption, hlt, hn, rfl, rfl, rfl, rfl, rfl, rfl, rfl⟩
    · have hq' : q = ext.size := by omega
      subst hq'
      have hnone : dgnL bias (ext.toList.drop pos) 0 0 1 = none := by
        rw [← hd, List.drop_eq_nil_of_le (by simp)]; rfl
      (k_steps; all_goals (repeat' (first | ((with_reducible refine unstop ?_); (first | (with_reducible (first | ((k_here; first | ((refine sub_in (by assumption) (by omega) (by omega) (by omega) ?_); intro _ _) | (refine sub_out (Rm.hd (Rm.to (m := 0) (by assumption) (by decide))) (Int.le_refl _) (by omega) ?_; intro zzhX zztkX zzeX zznewX; refine stop ?_))) | ((k_here; (with_reducible refine' T_k ?g9 ?r9 ?_); (case g9 => exact Gd.keeps (by assumption) (Fr.stays (by assumption))); (case r9 => exact Rm.to (by assumption) (by decide)); intro zzt9 zzh9 zztk9 zzk9; (have zzF9 := Fr.grow (by assumption) zzk9); (have zzN9 := News.grow (by assumption) zzk9); (try k_sweep))) | fail)) ); k_steps) | fail)))
      unfold Stop
      rename Heap.NewExc _ _ _ _ => newX
      dsimp only at newX
      refine note_new (s := ⟨_, _, _, _, _⟩) K F newX (fun h1 fly1 U1 => ?_) rfl
      refine fly_flight (s := ⟨_, _, _, _, _⟩) fly1 fun h2 fly2 U2 => ?_
      refine' handle0 (s := ⟨_, _, _, _, _⟩) K F N (fun _ _ q => q) fly2 (U1.trans U2) G ?ex Boot.IndexError (by decide) PySem.F.isExc_IndexError PySem.F.notTuple_IndexError PySem.F.self_IndexError rfl rfl (by decide) fun h3 g3 T3 K3 F3 N3 fly3 U3 => ?_
      case ex => (show nsIn (MineHd.hd.heap_1 w.params) _ _ = _; k_dflt k_is)
      have G3 := G.keeps K3.stays
      have X3 := G3.K
      refine Exists.elim G3.T fun p3 G3 => Exists.elim G3 fun loose3 G3 => Exists.elim G3 fun mean3 G3 => Exists.elim G3 fun mg3 G3 => Exists.elim G3 fun mb3 P3 => ?_
      have hne := T3.none_ _ (stays_none F.keep newX.new)
      refine Exists.elim fly3.tr fun o0 q0 => Exists.elim q0 fun w0 q0 => Exists.elim q0 fun _ q0 => Exists.elim q0 fun _ q0 => Exists.elim q0 fun _ q0 => ?_
      have N4 : News g3 L h3 [(_, o0)] := fun p hp => by
        obtain rfl := List.mem_singleton.mp hp
        refine ⟨q0.1, fun z => ?_, hne⟩
        obtain ⟨o', es, ep, ho', hd', _⟩ := F3.ns
        have z' := q0.1
        dsimp only at z
        rw [z, ho'] at z'; cases z'
        have := q0.2.2.2.1
        rw [hd'] at this; cases this
      have hd0 := q0.2.2.2.1
      have hp0 := q0.2.2.1
      clear F N X T N3 q0
      (k_steps; all_goals (repeat' (first | ((with_reducible refine unstop ?_); (first | (with_reducible (first | ((k_here; first | ((refine sub_in (by assumption) (by omega) (by omega) (by omega) ?_); intro _ _) | (refine sub_out (Rm.hd (Rm.to (m := 0) (by assumption) (by decide))) (Int.le_refl _) (by omega) ?_; intro zzhX zztkX zzeX zznewX; refine stop ?_))) | ((k_here; (with_reducible refine' T_k ?g9 ?r9 ?_); (case g9 => exact Gd.keeps (by assumption) (Fr.stays (by assumption))); (case r9 => exact Rm.to (by assumption) (by decide)); intro zzt9 zzh9 zztk9 zzk9; (have zzF9 := Fr.grow (by assumption) zzk9); (have zzN9 := News.grow (by assumption) zzk9); (try k_sweep))) | fail)) ); k_steps) | fail)))
      · unfold Stop
        refine Raise_ude rfl ?_
        (k_steps; all_goals (repeat' (first | ((with_reducible refine unstop ?_); (first | (with_reducible (first | ((k_here; first | ((refine sub_in (by assumption) (by omega) (by omega) (by omega) ?_); intro _ _) | (refine sub_out (Rm.hd (Rm.to (m := 0) (by assumption) (by decide))) (Int.le_refl _) (by omega) ?_; intro zzhX zztkX zzeX zznewX; refine stop ?_))) | ((k_here; (with_reducible refine' T_k ?g9 ?r9 ?_); (case g9 => exact Gd.keeps (by assumption) (Fr.stays (by assumption))); (case r9 => exact Rm.to (by assumption) (by decide)); intro zzt9 zzh9 zztk9 zzk9; (have zzF9 := Fr.grow (by assumption) zzk9); (have zzN9 := News.grow (by assumption) zzk9); (try k_sweep))) | fail)) ); k_steps) | fail)))
        (with_reducible rename News _ _ _ _ => N8)
        (with_reducible rename Fr _ _ _ _ => F8)
        have hg0 := (N8 _ (.head _)).1
        subst hEE
        refine ⟨_, _, _, _, _, _, _, _, _, _, rfl, by omega, by omega, .one hg0 hd0 hp0, fun h5 e5 t5 cau5 sup5 k1 k2 k3 => ?_⟩
        refine raise_out (cls := .type "UnicodeDecodeError") K3 F8 T3 k1 k2 k3 rfl rfl rfl (fun B vs v q => ⟨q.1, UdeP.keep1 _ B vs v q.2⟩) ⟨⟨hnone, ?_⟩, ?_⟩ (Around.frames_deeper K.stack) rfl
        · simp_all
        · exact ⟨_, _, _, _, _, _, _, _, _, _, _, _, o0, w0, rfl, by omega, by omega, by omega, by omega, hideAll_get _ hg0 (not_frame K3 (N8 _ (.head _)).2.1 (N8 _ (.head _)).2.2), hd0, hp0, turn_none T3 (N8 _ (.head _)).2.2⟩
      · (with_reducible rename News _ _ _ _ => N8)
        (with_reducible rename Fr _ _ _ _ => F8)
        refine hQ2 hnone ?_ _ _ _ _ (Up.trans_turn T3 (Fr.stays F8)) (turn_none T3 (N8 _ (.head _)).2.2) (N8 _ (.head _)).1
        intro z
        simp_all
end Mine
end
-- part F6
section
open PySem PySem.W PyProof.Rows
namespace Mine
theorem anewF6 {M : Model} {A : Around} {E : Value → Shared → Prop} {s : Shared} {Q : Nat → Shared → Prop} (h : Q 0 s) : wpAny M A (pure 0) Q E s := by
  first | (walk1; exact h) | exact wpAny_pure h
end Mine
end
section
open PySem PySem.W PyProof.Rows
set_option maxRecDepth 100000
set_option maxHeartbeats 1000000
namespace Mine
theorem fill6 : PySem.Challenge.rw_ny0167_01 = PySem.Challenge.rw_ny0167_01 ∧ MineHd.hd.heap_1 = MineHd.hd.heap_1 := by
  k_fill
  exact ⟨rfl, rfl⟩
local macro_rules | `(tactic| walk_at "call ref") => `(tactic| refine stop ?_)

local macro_rules | `(tactic| walk_at "assign Tuple") => `(tactic| refine stop ?_)
local macro_rules | `(tactic| walk_at "exec While Compare") => `(tactic| refine stop ?_)


def insS (s : Str) (k c : Int) : Str := Txt.slice s none (some k) ++ ({ cps := #[c.toNat] } : Str) ++ Txt.slice s (some k) none
def lenI (s : Str) (k : Int) : Int := (((Txt.slice s none (some k)).length + 1 + (Txt.slice s (some k) none).length : Nat) : Int)
theorem dgnL_short {b : Int} : ∀ {l : List UInt8} {J R W v : Int} {r : List UInt8}, dgnL b l J R W = some (v, r) → r.length < l.length
  | [], J, R, W, v, r, h => by cases h
  | c :: l, J, R, W, v, r, h => by
    unfold dgnL at h
    split at h
    · cases h; simp
    · have := dgnL_short h
      simp; omega
/-- what is laid by insertion_sort: extpos, bias, char, pos, base; the text; whole -/
inductive Ins (ext : List UInt8) : Nat → Int → Int → Int → Str → Str → Bool → Prop
  | done {q : Nat} {b c p : Int} {s : Str} (h : q = ext.length) : Ins ext q b c p s s true
  | stop {q : Nat} {b c p : Int} {s : Str} (h : q < ext.length) (hd : dgnL b (ext.drop q) 0 0 1 = none) : Ins ext q b c p s s false
  | step {q : Nat} {b c p d : Int} {s res : Str} {r : List UInt8} {ok : Bool} (h : q < ext.length) (hd : dgnL b (ext.drop q) 0 0 1 = some (d, r)) (h0 : 0 ≤ d) (h1 : d < 1000000) (hs : s.length < 1000) (hp : -1 ≤ p) (hp2 : p < 1000000)
      (hc : 0 ≤ c) (hc2 : c + (p + (d + 1)).fdiv (s.length + 1) < 55000) (k : Ins ext (ext.length - r.length) (adf d (((q : Int)) == 0) (lenI s ((p + (d + 1)).fmod (s.length + 1)))) (c + (p + (d + 1)).fdiv (s.length + 1)) ((p + (d + 1)).fmod (s.length + 1)) (insS s ((p + (d + 1)).fmod (s.length + 1)) (c + (p + (d + 1)).fdiv (s.length + 1))) res ok) : Ins ext q b c p s res ok

theorem Ins.inv_step {ext : List UInt8} {q : Nat} {b c p d : Int} {s res : Str} {r : List UInt8} {ok : Bool} (X : Ins ext q b c p s res ok) (hd : dgnL b (ext.drop q) 0 0 1 = some (d, r)) :
    0 ≤ d ∧ d < 1000000 ∧ s.length < 1000 ∧ -1 ≤ p ∧ p < 1000000 ∧ 0 ≤ c ∧ c + (p + (d + 1)).fdiv (s.length + 1) < 55000 ∧ Ins ext (ext.length - r.length) (adf d (((q : Int)) == 0) (lenI s ((p + (d + 1)).fmod (s.length + 1)))) (c + (p + (d + 1)).fdiv (s.length + 1)) ((p + (d + 1)).fmod (s.length + 1)) (insS s ((p + (d + 1)).fmod (s.length + 1)) (c + (p + (d + 1)).fdiv (s.length + 1))) res ok := by
  cases X with
  | done h => rw [h, List.drop_length] at hd; cases hd
  | stop h hd' => rw [hd] at hd'; cases hd'
  | step h hd' h0 h1 hs hp hp2 hc hc2 k => rw [hd] at hd'; cases hd'; exact ⟨h0, h1, hs, hp, hp2, hc, hc2, k⟩
theorem Ins.inv_none {ext : List UInt8} {q : Nat} {b c p : Int} {s res : Str} {ok : Bool} (X : Ins ext q b c p s res ok) (hq : q < ext.length) (hd : dgnL b (ext.drop q) 0 0 1 = none) : s = res ∧ ok = false := by
  cases X with
  | done h => omega
  | stop h hd' => exact ⟨rfl, rfl⟩
  | step h hd' h0 h1 hs hp hp2 hc hc2 k => rw [hd] at hd'; cases hd'
theorem Ins.inv_done {ext : List UInt8} {q : Nat} {b c p : Int} {s res : Str} {ok : Bool} (X : Ins ext q b c p s res ok) (hq : ¬ q < ext.length) : s = res ∧ ok = true := by
  cases X with
  | done h => exact ⟨rfl, rfl⟩
  | stop h hd' => exact absurd h hq
  | step h hd' h0 h1 hs hp hp2 hc hc2 k => exact absurd h hq
theorem tup_news {h₀ h h' : Heap} {L a : Addr} {m : Str → Option Value} {o : Obj} (F : Fr h₀ L h m) (hn : h.get? a = none) (hg : h'.get? a = some o) : News h₀ L h' [(a, o)] := fun p hp => by
  obtain rfl := List.mem_singleton.mp hp
  refine ⟨hg, fun z => ?_, stays_none F.keep hn⟩
  obtain ⟨o', _, _, ho, _⟩ := F.ns
  dsimp only at z
  rw [z, ho] at hn; cases hn
theorem ins_lt {ext : Array UInt8} {q : Nat} (h : (q : Int) < (ext.size : Int)) : q < ext.toList.length := by simpa using h
theorem ins_nlt {ext : Array UInt8} {q : Nat} (h : ¬ (q : Int) < (ext.size : Int)) : ¬ q < ext.toList.length := by simpa using h
theorem ins_less {ext : Array UInt8} {q : Nat} {b v : Int} {r : List UInt8} (hq : (q : Int) < (ext.size : Int)) (h : dgnL b (ext.toList.drop q) 0 0 1 = some (v, r)) : ext.size - (ext.size - r.length) < ext.size - q := by
  have := dgnL_short h
  rw [List.length_drop] at this
  have e : ext.toList.length = ext.size := by simp
  omega
theorem up_news {h₀ h h' g : Heap} {fs : List Addr} {L a : Addr} {m m' : Str → Option Value} {o : Obj} (F : Fr h₀ L h m) (_F : Fr g L h' m') (T : KtsTurn fs h₀ g) (hn : h.get? a = none) (hg : h'.get? a = some o) : News g L h' [(a, o)] := fun p hp => by
  obtain rfl := List.mem_singleton.mp hp
  refine ⟨hg, fun z => ?_, T.none_ _ (stays_none F.keep hn)⟩
  obtain ⟨o', _, _, ho, _⟩ := F.ns
  dsimp only at z
  rw [z, ho] at hn; cases hn
theorem ins_k {prog : Program} {w : World} {A : Around} {s : Shared} {Q E : Value → Shared → Prop} {base : Heap} {outer : List Env} {ext : Array UInt8} {bs err res : Str} {ok : Bool} {t1 t2 t3 : Tok}
    (G : Gd w base) (K : Below A base outer s.heap) (r : Rm A 3) (hz : ext.size < 10000) (hf : ∀ c ∈ ext.toList, isFig c) (I : Ins ext.toList 0 72 128 (-1) bs res ok)
    (hQ : (ok = true ∨ err ≠ "strict") → ∀ t h' tk', Up (frs outer) s.heap h' → Q (.str res t) { s with heap := h', toks := tk' })
    (hE : ok = false → err = "strict" → ∀ e h' tk' B, (hideAll s.heap (frs outer)).StaysIn B → Fly B outer e (.type "UnicodeDecodeError") (UdeP s.heap B) .none h' → s.heap.UpToSlots h' → E (.ref e) { s with heap := h', toks := tk' }) :
    wpAny (model prog w) A (call (.ref 56) [.str bs t1, .bytes ext t2, .str err t3]) Q E s := by
  have G' : Gd w s.heap := G.keeps K.stays
  obtain ⟨X, p, loose, mean, mg, mb, T⟩ := id G'
  refine' enter (binds := [("base", .str bs t1), ("extended", .bytes ext t2), ("errors", .str err t3)]) ?eX ?eT ?eo ?ec ?er ?eb ?el ?eco ?ege ?ek ?ece ?_
  ((case eX => k_asm); (case eT => k_asm); (case eo => k_dflt k_is); (case ec => k_dflt k_is); (case er => exact Rm.depth (by assumption)); (case eb => exact BindsTo.of_eq (by with_unfolding_all rfl)); (case el => exact locs rfl); (case eco => exact rfl); (case ege => exact rfl); (case ek => exact rfl); (case ece => decide); k_whole)
  intro L h₁ tk F N
  refine wpAny_mono (E := EB s (_ :: outer) L (.type "UnicodeDecodeError") (fun B vs => (ok = false ∧ err = "strict") ∧ UdeP s.heap B vs)) ?_ (fun _ _ x => x) (fun v s' x => EB.leave (fun B vs v q => ⟨q.1, UdeP.keep1 _ B vs v q.2⟩) (Around.frames_deeper K.stack) rfl (fun e h' tk' B hB fly U => hE (fly_P fly).1.1 (fly_P fly).1.2 e h' tk' B hB (fly_mono (fun _ q => q.2) fly) U) x)
  generalize hEE : EB s (_ :: outer) L (.type "UnicodeDecodeError") (fun B vs => (ok = false ∧ err = "strict") ∧ UdeP s.heap B vs) = EE
  (try dsimp only)
  (k_steps; all_goals (repeat' (first | ((with_reducible refine unstop ?_); (first | (with_reducible (first | ((k_here; (with_reducible show wpAny _ _ (assign (Expr.Tuple _ _ _) _ (Value.ref _)) _ _ _); k_dflt (refine' unpackN_ ?k1 ?k2 ?k3 ?k4 ?k5 ?k6 ?_; (case k1 => k_asm); (case k2 => k_asm); (case k3 => kun_tup); (case k4 => exact Rm.hd (Rm.to (m := 0) (by assumption) (by decide))); (case k5 => exact rfl); (case k6 => exact rfl); k_whole); intro zzh' zzF' zzN'; (try k_sweep))) | ((k_here; (with_reducible refine' adapt_k ?g9 ?r9 ?a9 ?b9 ?c9 ?_); (case g9 => exact Gd.keeps (by assumption) (Fr.stays (by assumption))); (case r9 => exact Rm.to (by assumption) (by decide)); (case a9 => omega); (case b9 => omega); (case c9 => omega); intro zzt9 zzh9 zztk9 zzk9; (have zzF9 := Fr.grow (by assumption) zzk9); (have zzN9 := News.grow (by assumption) zzk9); (try k_sweep))) | fail)) ); k_steps) | fail)))
  unfold Stop
  refine while_E (ι := Nat × Int × Int × Int × Str) (hEE ▸ EB.passes (fun B vs v q => ⟨q.1, UdeP.keep1 _ B vs v q.2⟩) (Around.frames_deeper K.stack) rfl) (fun i s' => ∃ h' tk' m u1 u2 u3 u4 u5, s' = { s with heap := h', toks := tk' } ∧ Fr s.heap L h' m ∧ i.1 ≤ ext.size ∧ Ins ext.toList i.1 i.2.1 i.2.2.1 i.2.2.2.1 i.2.2.2.2 res ok ∧
     m "extended" = some (.bytes ext t2) ∧ m "extpos" = some (.int i.1 u1) ∧ m "bias" = some (.int i.2.1 u2) ∧ m "errors" = some (.str err t3) ∧ m "char" = some (.int i.2.2.1 u3) ∧ m "pos" = some (.int i.2.2.2.1 u4) ∧ m "base" = some (.str i.2.2.2.2 u5)) (fun i => ext.size - i.1) ?_ ?_
  · exact ⟨(0, 72, 128, -1, bs), _, _, _, _, _, _, _, _, rfl, by assumption, Nat.zero_le _, I, rfl, rfl, rfl, rfl, rfl, rfl, rfl⟩
  · rintro ⟨q, bias, char, pos, b⟩ s' ⟨h', tk', m, u1, u2, u3, u4, u5, rfl, F, hq, hI, hm1, hm2, hm3, hm4, hm5, hm6, hm7⟩
    dsimp only at hq hm2 hm3 hm5 hm6 hm7 hI
    replace F := Fr.view F [("extended", .bytes ext t2), ("extpos", .int q u1), ("bias", .int bias u2), ("errors", .str err t3), ("char", .int char u3), ("pos", .int pos u4), ("base", .str b u5)] (by simp only [List.forall_mem_cons]; exact ⟨hm1, hm2, hm3, hm4, hm5, hm6, hm7, List.forall_mem_nil _⟩)
    have N : News s.heap L h' [] := News.nil
    clear hm1 hm2 hm3 hm4 hm5 hm6 hm7 I
    (k_steps; all_goals (repeat' (first | ((with_reducible refine unstop ?_); (first | (with_reducible (first | ((k_here; (with_reducible show wpAny _ _ (assign (Expr.Tuple _ _ _) _ (Value.ref _)) _ _ _); k_dflt (refine' unpackN_ ?k1 ?k2 ?k3 ?k4 ?k5 ?k6 ?_; (case k1 => k_asm); (case k2 => k_asm); (case k3 => kun_tup); (case k4 => exact Rm.hd (Rm.to (m := 0) (by assumption) (by decide))); (case k5 => exact rfl); (case k6 => exact rfl); k_whole); intro zzh' zzF' zzN'; (try k_sweep))) | ((k_here; (with_reducible refine' adapt_k ?g9 ?r9 ?a9 ?b9 ?c9 ?_); (case g9 => exact Gd.keeps (by assumption) (Fr.stays (by assumption))); (case r9 => exact Rm.to (by assumption) (by decide)); (case a9 => omega); (case b9 => omega); (case c9 => omega); intro zzt9 zzh9 zztk9 zzk9; (have zzF9 := Fr.grow (by assumption) zzk9); (have zzN9 := News.grow (by assumption) zzk9); (try k_sweep))) | fail)) ); k_steps) | fail)))
    · unfold Stop
      (with_reducible rename Fr _ _ _ _ => F1)
      (with_reducible rename News _ _ _ _ => N1)
      refine dgn_k (pos := q) G (K.push F1) (r.to (by decide)) hz hq hf ?_ ?_ ?_
      · intro v rest hdg a v1 v2 h9 tk9 k9 hnew hget
        have F9 := Fr.grow F1 k9
        have N9 : News s.heap L h9 [(a, _)] := tup_news F1 hnew hget
        unfold tupObj at N9
        have hv := hI.inv_step hdg
        have e1 := hv.1
        have e2 := hv.2.1
        have e3 := hv.2.2.1
        have e4 := hv.2.2.2.1
        have e5 := hv.2.2.2.2.1
        have e6 := hv.2.2.2.2.2.1
        have e7 := hv.2.2.2.2.2.2.1
        have hI2 := hv.2.2.2.2.2.2.2
        clear F1 N1 hv
        have e8 : 0 ≤ (pos + (v + 1)).fdiv ((b.length : Int) + 1) := Int.fdiv_nonneg (by omega) (by omega)
        have e9 : 0 ≤ (pos + (v + 1)).fmod ((b.length : Int) + 1) := Int.fmod_nonneg_of_pos _ (by omega)
        have e10 : (pos + (v + 1)).fmod ((b.length : Int) + 1) < b.length + 1 := Int.fmod_lt_of_pos _ (by omega)
        (k_steps; all_goals (repeat' (first | ((with_reducible refine unstop ?_); (first | (with_reducible (first | ((k_here; (with_reducible show wpAny _ _ (assign (Expr.Tuple _ _ _) _ (Value.ref _)) _ _ _); k_dflt (refine' unpackN_ ?k1 ?k2 ?k3 ?k4 ?k5 ?k6 ?_; (case k1 => k_asm); (case k2 => k_asm); (case k3 => kun_tup); (case k4 => exact Rm.hd (Rm.to (m := 0) (by assumption) (by decide))); (case k5 => exact rfl); (case k6 => exact rfl); k_whole); intro zzh' zzF' zzN'; (try k_sweep))) | ((k_here; (with_reducible refine' adapt_k ?g9 ?r9 ?a9 ?b9 ?c9 ?_); (case g9 => exact Gd.keeps (by assumption) (Fr.stays (by assumption))); (case r9 => exact Rm.to (by assumption) (by decide)); (case a9 => omega); (case b9 => omega); (case c9 => omega); intro zzt9 zzh9 zztk9 zzk9; (have zzF9 := Fr.grow (by assumption) zzk9); (have zzN9 := News.grow (by assumption) zzk9); (try k_sweep))) | fail)) ); k_steps) | fail)))
        refine Halt.mk ?_
        refine ⟨(ext.size - rest.length, _, _, _, _), ?_, _, _, _, _, _, _, _, _, rfl, by assumption, Nat.sub_le _ _, hI2, rfl, rfl, rfl, rfl, rfl, rfl, rfl⟩
        exact ins_less (by assumption) hdg
      · intro hdg hne a v1 h9 tk9 U9 hnew hget
        refine Exists.elim (up_fr K F1 N1 U9) fun g2 q2 => ?_
        have T2 := q2.1
        have K2 := q2.2.1
        have F2 := q2.2.2.1
        have N2 : News g2 L h9 [(a, _)] := up_news F1 F2 T2 hnew hget
        unfold tupObj at N2
        have hv := hI.inv_none (ins_lt (by assumption)) hdg
        have G2 := G.keeps K2.stays
        have X2 := G2.K
        refine Exists.elim G2.T fun p3 G3 => Exists.elim G3 fun loose3 G3 => Exists.elim G3 fun mean3 G3 => Exists.elim G3 fun mg3 G3 => Exists.elim G3 fun mb3 P3 => ?_
        clear F1 N1 q2 X T
        (k_steps; all_goals (repeat' (first | ((with_reducible refine unstop ?_); (first | (with_reducible (first | ((k_here; (with_reducible show wpAny _ _ (assign (Expr.Tuple _ _ _) _ (Value.ref _)) _ _ _); k_dflt (refine' unpackN_ ?k1 ?k2 ?k3 ?k4 ?k5 ?k6 ?_; (case k1 => k_asm); (case k2 => k_asm); (case k3 => kun_tup); (case k4 => exact Rm.hd (Rm.to (m := 0) (by assumption) (by decide))); (case k5 => exact rfl); (case k6 => exact rfl); k_whole); intro zzh' zzF' zzN'; (try k_sweep))) | ((k_here; (with_reducible refine' adapt_k ?g9 ?r9 ?a9 ?b9 ?c9 ?_); (case g9 => exact Gd.keeps (by assumption) (Fr.stays (by assumption))); (case r9 => exact Rm.to (by assumption) (by decide)); (case a9 => omega); (case b9 => omega); (case c9 => omega); intro zzt9 zzh9 zztk9 zzk9; (have zzF9 := Fr.grow (by assumption) zzk9); (have zzN9 := News.grow (by assumption) zzk9); (try k_sweep))) | fail)) ); k_steps) | fail)))
        exact Eq.mp (congrArg (fun x => Q (Value.str x _) _) hv.1.symm) (hQ (.inr hne) _ _ _ (Up.trans_turn T2 (Fr.stays (by assumption))))
      · intro hdg hst e9 h9 tk9 B hB fly U9
        have hv := hI.inv_none (ins_lt (by assumption)) hdg
        subst hEE
        exact ⟨e9, h9, tk9, .none, B, rfl, rfl, .inl rfl, fun b o q => hB b o (hide_push F1 b o q), fly_mono (fun vs q => ⟨⟨hv.2, hst⟩, UdeP.anti F1.keep q⟩) fly, (Heap.UpToSlots.of_keeps F1.keep).trans U9⟩
    · have hv := hI.inv_done (ins_nlt (by assumption))
      exact Eq.mp (congrArg (fun x => Q (Value.str x _) _) hv.1.symm) (hQ (.inl hv.2) _ _ _ (Up.of_stays (Fr.stays (by assumption))))
end Mine
end
-- part XA
section
open PySem PySem.W PyProof.Rows
set_option maxRecDepth 100000
namespace Mine
namespace U
theorem ga : Slot "UnicodeDecodeError" "__getattribute__" "BaseException.__getattribute__" :=
  .of (owner := "BaseException") (n := "__getattribute__") (by rw [typeLookup_type, builtinLookup_eq_fast]; kernel_rfl) (by decide +kernel) (by decide +kernel) (by decide +kernel)
    (by first | exact .inl (by decide +kernel) | exact .inr (by decide +kernel)) (by rw [isSubtype_type]; kernel_rfl)
theorem lk_start : typeLookup (.type "UnicodeDecodeError") "start" = pure (some (.builtin "UnicodeDecodeError.start")) := by rw [typeLookup_type, builtinLookup_eq_fast]; kernel_rfl
theorem ty_start : typeOf (.builtin "UnicodeDecodeError.start") = pure (.type "member_descriptor") := by kernel_rfl
theorem en_start : entryFor table "UnicodeDecodeError.start" = some Builtin.«UnicodeDecodeError.start» := entryFor_of_tree (by kernel_rfl)
theorem lk_end : typeLookup (.type "UnicodeDecodeError") "end" = pure (some (.builtin "UnicodeDecodeError.end")) := by rw [typeLookup_type, builtinLookup_eq_fast]; kernel_rfl
theorem ty_end : typeOf (.builtin "UnicodeDecodeError.end") = pure (.type "member_descriptor") := by kernel_rfl
theorem en_end : entryFor table "UnicodeDecodeError.end" = some Builtin.«UnicodeDecodeError.end» := entryFor_of_tree (by kernel_rfl)
theorem lk_reason : typeLookup (.type "UnicodeDecodeError") "reason" = pure (some (.builtin "UnicodeDecodeError.reason")) := by rw [typeLookup_type, builtinLookup_eq_fast]; kernel_rfl
theorem ty_reason : typeOf (.builtin "UnicodeDecodeError.reason") = pure (.type "member_descriptor") := by kernel_rfl
theorem en_reason : entryFor table "UnicodeDecodeError.reason" = some Builtin.«UnicodeDecodeError.reason» := entryFor_of_tree (by kernel_rfl)
theorem ow_start : (".".intercalate ("UnicodeDecodeError.start".cutAt '.').dropLast) = "UnicodeDecodeError" := by decide +kernel
theorem ow_end : (".".intercalate ("UnicodeDecodeError.end".cutAt '.').dropLast) = "UnicodeDecodeError" := by decide +kernel
theorem ow_reason : (".".intercalate ("UnicodeDecodeError.reason".cutAt '.').dropLast) = "UnicodeDecodeError" := by decide +kernel
end U
section
variable {prog : Program} {w : World} {A : Around} {E : Value → Shared → Prop} {h : Heap} {g : Array GenState} {d : Drawn} {t : Nat} {os : OsState} {a : Addr} {o : Obj} {vs : Array Value} {id : String} {nm : Str} {B : Builtin} {v : Value} {k : Nat}

theorem mem_get {R : Result → Shared → Prop} (hty : typeOf (.builtin id) = pure (.type "member_descriptor")) (how : (".".intercalate (id.cutAt '.').dropLast) = "UnicodeDecodeError") (hen : entryFor table id = some B) (hqt : id.startsWith "lifetime." = false)
    (hx : h.get? a = some o) (hc : o.cls = .type "UnicodeDecodeError") (hB : ∀ A' (Q : Fin → Shared → Prop) E', Q (.done (.ret v)) ⟨h, g, d, k, os⟩ → wpAny (model prog w) A' (B ⟨[.ref a], []⟩) Q E' ⟨h, g, d, t, os⟩) (hq : R (.ok (.ret v)) ⟨h, g, d, k, os⟩) :
    codeAny (model prog w) A (.call (.builtin "member_descriptor.__get__") ⟨[.builtin id, .ref a, .type "UnicodeDecodeError"], []⟩) R ⟨h, g, d, t, os⟩ := by
  have hT : (⟨h, g, d, t, os⟩ : Shared).TypeIs (.ref a) "UnicodeDecodeError" := ⟨_, hx, hc⟩
  have hT5 : (⟨h, g, d, t, os⟩ : Shared).TypeIs (.builtin id) "member_descriptor" := hty
  have f8 : isSubtype (.type "UnicodeDecodeError") (.type (".".intercalate (id.cutAt '.').dropLast)) = pure true := by rw [how]; exact U.newF.sub
  refine codeAny_call_builtin KF.slot_mem.plain KF.entry_mem (KF.slot_mem.check _ _ _ _ _ _ _ _ hT5 (KF.args_mem _ _ _) ?_)
  repeat (any_goals (first | assumption | wp_step))
  refine ⟨Code.quiet_builtin _ hqt, codeAny_builtin hen ?_⟩
  exact hB _ _ _ hq

theorem mem_entry {tk : Tok} {Q : Fin → Shared → Prop} (hlk : typeLookup (.type "UnicodeDecodeError") nm = pure (some (.builtin id))) (hty : typeOf (.builtin id) = pure (.type "member_descriptor")) (how : (".".intercalate (id.cutAt '.').dropLast) = "UnicodeDecodeError") (hen : entryFor table id = some B) (hqt : id.startsWith "lifetime." = false)
    (hx : h.get? a = some o) (hc : o.cls = .type "UnicodeDecodeError") (hB : ∀ A' (Q : Fin → Shared → Prop) E', Q (.done (.ret v)) ⟨h, g, d, k, os⟩ → wpAny (model prog w) A' (B ⟨[.ref a], []⟩) Q E' ⟨h, g, d, t, os⟩) (hq : Q (.done (.ret v)) ⟨h, g, d, k, os⟩) :
    wpAny (model prog w) A (Builtin.«object.__getattribute__» ⟨[.ref a, .str nm tk], []⟩) Q E ⟨h, g, d, t, os⟩ := by
  have hT : (⟨h, g, d, t, os⟩ : Shared).TypeIs (.ref a) "UnicodeDecodeError" := ⟨_, hx, hc⟩
  have hT5 : (⟨h, g, d, t, os⟩ : Shared).TypeIs (.builtin id) "member_descriptor" := hty
  have f6 := KF.slot_mem.lookup
  have f7 := KF.slot_mset.lookup
  repeat (any_goals (first | assumption | wp_step))
  refine mem_get hty how hen hqt hx hc hB ?_
  repeat (any_goals (first | assumption | wp_step))

theorem mem_call {tk : Tok} {R : Result → Shared → Prop} (hlk : typeLookup (.type "UnicodeDecodeError") nm = pure (some (.builtin id))) (hty : typeOf (.builtin id) = pure (.type "member_descriptor")) (how : (".".intercalate (id.cutAt '.').dropLast) = "UnicodeDecodeError") (hen : entryFor table id = some B) (hqt : id.startsWith "lifetime." = false)
    (hx : h.get? a = some o) (hc : o.cls = .type "UnicodeDecodeError") (hB : ∀ A' (Q : Fin → Shared → Prop) E', Q (.done (.ret v)) ⟨h, g, d, k, os⟩ → wpAny (model prog w) A' (B ⟨[.ref a], []⟩) Q E' ⟨h, g, d, t, os⟩) (hq : R (.ok (.ret v)) ⟨h, g, d, k, os⟩) :
    codeAny (model prog w) A (.call (.builtin "BaseException.__getattribute__") ⟨[.ref a, .str nm tk], []⟩) R ⟨h, g, d, t, os⟩ :=
  codeAny_call_builtin U.ga.plain F.entry_bexc_ga (U.ga.check _ _ _ _ _ _ _ _ (show (⟨h, g, d, t, os⟩ : Shared).TypeIs (.ref a) "UnicodeDecodeError" from ⟨_, hx, hc⟩) (F.args_bexc_ga _ _) (mem_entry hlk hty how hen hqt hx hc hB hq))

theorem mem_by {tk : Tok} {fill expr : Bool} {Q : Value → Shared → Prop} (hlk : typeLookup (.type "UnicodeDecodeError") nm = pure (some (.builtin id))) (hty : typeOf (.builtin id) = pure (.type "member_descriptor")) (how : (".".intercalate (id.cutAt '.').dropLast) = "UnicodeDecodeError") (hen : entryFor table id = some B) (hqt : id.startsWith "lifetime." = false)
    (hx : h.get? a = some o) (hc : o.cls = .type "UnicodeDecodeError") (hB : ∀ A' (Q : Fin → Shared → Prop) E', Q (.done (.ret v)) ⟨h, g, d, k, os⟩ → wpAny (model prog w) A' (B ⟨[.ref a], []⟩) Q E' ⟨h, g, d, t, os⟩) (hv : ∀ i, v ≠ .builtin i) (hq : Q v ⟨h, g, d, k, os⟩) :
    wpAny (model prog w) A (getAttrBy (.ref a) (.str nm tk) fill expr) Q E ⟨h, g, d, t, os⟩ := by
  have hT : (⟨h, g, d, t, os⟩ : Shared).TypeIs (.ref a) "UnicodeDecodeError" := ⟨_, hx, hc⟩
  have f2 := U.ga.lookup
  have f3 := U.ga.bind (.ref a)
  have hx0 : (expr && onTheHeap (Value.builtin "BaseException.__getattribute__")) = false := by cases expr <;> rfl
  repeat (any_goals (first | assumption | wp_step))
  refine mem_call hlk hty how hen hqt hx hc hB ?_
  repeat (any_goals (first | assumption | wp_step))
  cases v <;> first | exact absurd rfl (hv _) | exact wpAny_pure hq
end
section
variable {prog : Program} {w : World} {A : Around} {E : Value → Shared → Prop} {s : Shared} {a : Addr} {o : Obj} {t tb c cau sup x enc ob : Value} {st sp : Int} {rs : Str} {tr : Tok}
open Builtin.UnicodeEncodeError in
theorem members_ok {M : Model} {Q : Members → Shared → Prop} (hx : s.heap.get? a = some o) (hd : o.data = .fields #[t, tb, c, cau, sup, x, enc, ob, rawInt st, rawInt sp, .str rs tr]) (h : Q ⟨enc, ob, st, sp, .str rs tr⟩ s) : wpAny M A (members (.ref a)) Q E s := by
  unfold members
  refine wpAny_bind ?_
  unfold fieldsOf
  refine wpAny_bind (wpAny_load hx ?_)
  rw [hd]
  exact wpAny_pure (wpAny_pure h)
open Builtin.UnicodeEncodeError in
theorem attr_start {expr : Bool} {Q : Value → Shared → Prop} (hx : s.heap.get? a = some o) (hc : o.cls = .type "UnicodeDecodeError") (hd : o.data = .fields #[t, tb, c, cau, sup, x, enc, ob, rawInt st, rawInt sp, .str rs tr]) (h : ∀ u k, Q (.int st u) { s with toks := k }) : wpAny (model prog w) A (getAttr (.ref a) "start" expr) Q E s := by
  obtain ⟨hp, g, d, tk, os⟩ := s
  unfold getAttr
  refine wpAny_bind (wpAny_mkText ?_)
  refine mem_by (v := .int st (tk + 1)) (k := tk + 1 + 1) U.lk_start U.ty_start U.ow_start U.en_start (by decide +kernel) hx hc (fun A' Q E' hq => ?_) (fun _ q => nomatch q) (h _ _)
  unfold Builtin.«UnicodeDecodeError.start» sizeGet
  refine wpAny_bind (members_ok (s := ⟨_, _, _, _, _⟩) hx hd ?_)
  exact wpAny_bind (wpAny_mkInt (wpAny_pure hq))
open Builtin.UnicodeEncodeError in
theorem attr_end {expr : Bool} {Q : Value → Shared → Prop} (hx : s.heap.get? a = some o) (hc : o.cls = .type "UnicodeDecodeError") (hd : o.data = .fields #[t, tb, c, cau, sup, x, enc, ob, rawInt st, rawInt sp, .str rs tr]) (h : ∀ u k, Q (.int sp u) { s with toks := k }) : wpAny (model prog w) A (getAttr (.ref a) "end" expr) Q E s := by
  obtain ⟨hp, g, d, tk, os⟩ := s
  unfold getAttr
  refine wpAny_bind (wpAny_mkText ?_)
  refine mem_by (v := .int sp (tk + 1)) (k := tk + 1 + 1) U.lk_end U.ty_end U.ow_end U.en_end (by decide +kernel) hx hc (fun A' Q E' hq => ?_) (fun _ q => nomatch q) (h _ _)
  unfold Builtin.«UnicodeDecodeError.end» sizeGet
  refine wpAny_bind (members_ok (s := ⟨_, _, _, _, _⟩) hx hd ?_)
  exact wpAny_bind (wpAny_mkInt (wpAny_pure hq))
open Builtin.UnicodeEncodeError in
theorem attr_reason {expr : Bool} {Q : Value → Shared → Prop} (hx : s.heap.get? a = some o) (hc : o.cls = .type "UnicodeDecodeError") (hd : o.data = .fields #[t, tb, c, cau, sup, x, enc, ob, rawInt st, rawInt sp, .str rs tr]) (h : ∀ k, Q (.str rs tr) { s with toks := k }) : wpAny (model prog w) A (getAttr (.ref a) "reason" expr) Q E s := by
  obtain ⟨hp, g, d, tk, os⟩ := s
  unfold getAttr
  refine wpAny_bind (wpAny_mkText ?_)
  refine mem_by (v := .str rs tr) (k := tk + 1) U.lk_reason U.ty_reason U.ow_reason U.en_reason (by decide +kernel) hx hc (fun A' Q E' hq => ?_) (fun _ q => nomatch q) (h _)
  unfold Builtin.«UnicodeDecodeError.reason» objectGet
  refine wpAny_bind (members_ok (s := ⟨_, _, _, _, _⟩) hx hd ?_)
  exact wpAny_pure hq
end
end Mine
end
-- part BE
section
open PySem PySem.W PyProof.Rows
set_option maxRecDepth 100000
namespace Mine
namespace BG
theorem slot_rfind : Slot "bytes" "rfind" "bytes.rfind" :=
  .of (owner := "bytes") (n := "rfind") (by rw [typeLookup_type, builtinLookup_eq_fast]; kernel_rfl) (by decide +kernel) (by decide +kernel) (by decide +kernel)
    (by first | exact .inl (by decide +kernel) | exact .inr (by decide +kernel)) (by rw [isSubtype_type]; kernel_rfl)
theorem entry_rfind : entryFor table "bytes.rfind" = some Builtin.«bytes.rfind» := entryFor_of_tree (by kernel_rfl)
theorem args_rfind (a b : Value) : argsOk "bytes.rfind" ⟨[a, b], []⟩ := by unfold argsOk; kernel_rfl
theorem ty_rfind : typeOf (.builtin "bytes.rfind") = pure (.type "method_descriptor") := by kernel_rfl
theorem slot_upper : Slot "bytes" "upper" "bytes.upper" :=
  .of (owner := "bytes") (n := "upper") (by rw [typeLookup_type, builtinLookup_eq_fast]; kernel_rfl) (by decide +kernel) (by decide +kernel) (by decide +kernel)
    (by first | exact .inl (by decide +kernel) | exact .inr (by decide +kernel)) (by rw [isSubtype_type]; kernel_rfl)
theorem entry_upper : entryFor table "bytes.upper" = some Builtin.«bytes.upper» := entryFor_of_tree (by kernel_rfl)
theorem args_upper (a : Value) : argsOk "bytes.upper" ⟨[a], []⟩ := by unfold argsOk; kernel_rfl
theorem ty_upper : typeOf (.builtin "bytes.upper") = pure (.type "method_descriptor") := by kernel_rfl
end BG
open Builtin in
theorem gives_rfind (b c : Array UInt8) (t u : Tok) (i : Nat) (hz : c.size ≤ b.size) (h : Bytes.rfind? b c 0 b.size = some i) : Gives («bytes.rfind» ⟨[.bytes b t, .bytes c u], []⟩) (.int i) := by
  refine .of_wp fun M A E s Q hq => ?_
  unfold «bytes.rfind» Bytes.searchM Bytes.searchArgs
  refine wpAny_bind ?_
  refine wpAny_bind (wpAny_of_eq (a := (Value.bytes b t, [Value.bytes c u])) rfl ?_)
  dsimp only
  refine wpAny_bind (wpAny_pure ?_)
  refine wpAny_bind (wpAny_pure ?_)
  refine wpAny_bind (wpAny_of_eq KBy.buffer_eq ?_)
  refine wpAny_bind (wpAny_pure ?_)
  refine wpAny_bind (wpAny_of_eq (a := b) rfl ?_)
  have hw : Bytes.window b.size none none = (0, (b.size : Int)) := by
    unfold Bytes.window
    have : ¬ (b.size : Int) < 0 := by omega
    simp only [Option.getD_none, this, if_false]
    simp
  rw [hw]
  dsimp only
  rw [if_neg (by omega)]
  refine wpAny_pure ?_
  dsimp only [Option.bind]
  have e1 : (0 : Int).toNat = 0 := rfl
  have e2 : ((b.size : Int)).toNat = b.size := Int.toNat_natCast _
  rw [e1, e2, if_pos rfl, h]
  exact wpAny_bind (wpAny_mkInt (wpAny_pure ⟨_, rfl, hq⟩))
section
variable {prog : Program} {w : World} {A : Around} {E : Value → Shared → Prop} {s : Shared} {b c : Array UInt8} {t u : Tok}
theorem A_rfind {i : Nat} {Q : Value → Shared → Prop} (hz : c.size ≤ b.size) (h : Builtin.Bytes.rfind? b c 0 b.size = some i) (hq : ∀ t' k, Q (.int i t') { s with toks := k }) : wpAny (model prog w) A (call (.builtin "bytes.rfind") [.bytes b t, .bytes c u]) Q E s :=
  call_gives BG.slot_rfind (typeIs_bytes _ _ _) BG.entry_rfind (BG.args_rfind _ _) (gives_rfind b c t u i hz h) (hq _ _)
open Builtin in
theorem A_upper {Q : Value → Shared → Prop} (hz : b.size ≤ 1000000) (hq : ∀ t' k, Q (.bytes (b.toList.map Bytes.toUpper).toArray t') { s with toks := k }) : wpAny (model prog w) A (call (.builtin "bytes.upper") [.bytes b t]) Q E s := by
  refine wpAny_call_entry BG.slot_upper (typeIs_bytes _ _ _) BG.entry_upper ?_ (BG.args_upper _)
  unfold «bytes.upper» Bytes.mappedM
  refine wpAny_bind (wpAny_of_eq (a := Value.bytes b t) rfl ?_)
  refine wpAny_bind (wpAny_of_eq (a := b) rfl ?_)
  refine wpAny_bind (wpAny_mkBytes (wpAny_pure ⟨_, rfl, hq _ _⟩) ?_)
  simp [sizeLine_eq]; omega
theorem A_meth {pl : Sem Bool} {Q : Value × List Value → Shared → Prop} {name : PySem.Str} {id : String} (slot : Slot "bytes" name id) (ty : typeOf (.builtin id) = pure (.type "method_descriptor")) (h : Q (.builtin id, [.bytes b t]) s) : wpAny (model prog w) A (getMethod (.bytes b t) name pl) Q E s :=
  KBd.method_of (.bytes b t) (typeIs_bytes _ _ _) slot ty KBd.noRef h
end
end Mine
end
-- part BH
section
open PySem PySem.W PyProof.Rows
set_option maxRecDepth 100000
namespace Mine
open Builtin
theorem dec1 {id : String} {errors : Option PySem.Str} {a : UInt8} (ha : a.toNat < 128) : _codecs.runDecoder id _codecs.asciiDecoder errors true #[a] 0 [] = pure (#[a.toNat], 1) := by
  unfold _codecs.runDecoder
  simp [_codecs.asciiDecoder, ha, _codecs.Found.char]
theorem dec2 {id : String} {errors : Option PySem.Str} {a b : UInt8} (ha : a.toNat < 128) (hb : b.toNat < 128) : _codecs.runDecoder id _codecs.asciiDecoder errors true #[a, b] 0 [] = pure (#[a.toNat, b.toNat], 2) := by
  unfold _codecs.runDecoder
  have e : List.range' 0 2 = [0, 1] := rfl
  simp [_codecs.asciiDecoder, ha, hb, _codecs.Found.char, sizeLine_eq, e]
theorem dec3 {id : String} {errors : Option PySem.Str} {a b c : UInt8} (ha : a.toNat < 128) (hb : b.toNat < 128) (hc : c.toNat < 128) : _codecs.runDecoder id _codecs.asciiDecoder errors true #[a, b, c] 0 [] = pure (#[a.toNat, b.toNat, c.toNat], 3) := by
  unfold _codecs.runDecoder
  have e : List.range' 0 3 = [0, 1, 2] := rfl
  simp [_codecs.asciiDecoder, ha, hb, hc, _codecs.Found.char, sizeLine_eq, e]
theorem dec_all {b : Array UInt8} (hz : b.size ≤ 3) (h : ∀ c ∈ b.toList, c.toNat < 128) (hne : b.size ≠ 0) (id : String) (errors : Option PySem.Str) : _codecs.runDecoder id _codecs.asciiDecoder errors true b 0 [] = pure ((b.toList.map (·.toNat)).toArray, b.size) := by
  obtain ⟨l⟩ := b
  match l, hz, h, hne with
  | [], _, _, hne => exact absurd rfl hne
  | [a], _, h, _ => exact dec1 (h a (by simp))
  | [a, b], _, h, _ => exact dec2 (h a (by simp)) (h b (by simp))
  | [a, b, c], _, h, _ => exact dec3 (h a (by simp)) (h b (by simp)) (h c (by simp))
  | _ :: _ :: _ :: _ :: _, hz, _, _ => simp at hz
theorem road_ascii {id : String} {b : Array UInt8} {errors : Option PySem.Str} : _codecs.decodeRoad id b (PySem.Str.ofString "ascii") errors [] = (_codecs.runDecoder id _codecs.asciiDecoder errors true b 0 [] >>= fun r => mkStr ⟨r.1⟩) := by kernel_rfl
def errOk (e : PySem.Str) : Prop := e = PySem.Str.ofString "ignore" ∨ e = PySem.Str.ofString "replace" ∨ e = PySem.Str.ofString "strict"
section
variable {prog : Program} {w : World} {A : Around} {E : Value → Shared → Prop} {s : Shared} {b : Array UInt8} {t : Tok}
theorem A_text {t1 t2 t3 : Tok} {d e : PySem.Str} {Q : Value → Shared → Prop} (hz : b.size ≤ 3) (h : ∀ c ∈ b.toList, c.toNat < 128) (hne : b.size ≠ 0) (hq : ∀ t' k, Q (.str ⟨(b.toList.map (·.toNat)).toArray⟩ t') { s with toks := k }) :
    wpAny (model prog w) A (call (.builtin "_codecs.decode.text") [.bytes b t, .str (PySem.Str.ofString "ascii") t1, .str e t2, .str d t3]) Q E s := by
  refine Calls.call_function_entry KBd.kind_text KBd.plain_text KBd.entry_text (KBd.args_text _ _ _ _) ?_
  show wpAny _ _ (Bytes.bytesLike _ (.bytes b t) >>= fun r => _) _ _ s
  refine wpAny_bind (wpAny_of_eq KBd.like_eq ?_)
  refine wpAny_bind (wpAny_of_eq KBd.held_eq ?_)
  show wpAny _ _ (_codecs.decodeRoad _ b (PySem.Str.ofString "ascii") (some e) [] >>= fun v => _) _ _ s
  rw [road_ascii, dec_all hz h hne]
  refine wpAny_bind (wpAny_bind (wpAny_pure ?_))
  refine wpAny_mkStr (wpAny_pure ⟨_, rfl, hq _ _⟩) ?_
  show ((b.toList.map (·.toNat)).toArray).size ≤ _
  simp [sizeLine_eq]; omega

theorem checkDec (e r : Value) : checkBuiltinCall "bytes.decode" ⟨[.bytes b t], [(PySem.Str.ofString "encoding", e), (PySem.Str.ofString "errors", r)]⟩ = pure () := by kernel_rfl
theorem A_decode {t1 t2 : Tok} {e : PySem.Str} {Q : Value → Shared → Prop} (he : errOk e) (hz : b.size ≤ 3) (h : ∀ c ∈ b.toList, c.toNat < 128) (hq : ∀ t' k, Q (.str ⟨(b.toList.map (·.toNat)).toArray⟩ t') { s with toks := k }) :
    wpAny (model prog w) A (call (.builtin "bytes.decode") [.bytes b t] [(PySem.Str.ofString "encoding", .str (PySem.Str.ofString "ascii") t1), (PySem.Str.ofString "errors", .str e t2)]) Q E s := by
  refine wpAny_call (codeAny_call_builtin FB.slot_bytes_decode.plain FB.entry_bytes_decode (wpAny_of_eq (checkDec _ _) ?_))
  unfold «bytes.decode» Bytes.decodeM
  refine wpAny_bind (wpAny_of_eq (a := [some (Value.str (PySem.Str.ofString "ascii") t1), some (Value.str e t2)]) rfl ?_)
  have c1 : ∀ id f, Bytes.checkCodecArg id f "encoding" (some (Value.str (PySem.Str.ofString "ascii") t1)) = pure () := fun id f => by kernel_rfl
  have c2 : ∀ id f, Bytes.checkCodecArg id f "errors" (some (Value.str e t2)) = pure () := fun id f => by
    rcases he with rfl | rfl | rfl <;> kernel_rfl
  dsimp only
  refine wpAny_bind (wpAny_of_eq (c1 _ _) ?_)
  refine wpAny_bind (wpAny_of_eq (c2 _ _) ?_)
  refine A_ff rfl ?_
  have go : wpAny (model prog w) A.in1 (do
      let x ← Bytes.payload (Value.bytes b t)
      if x.isEmpty = true then do
          rule (toString (toString Bytes.Kind.bytes.name ++ toString ".decode") ++ toString ".empty")
          retStr Str.empty
        else do
          let _ ← mkStr (Str.ofString "utf-8")
          let y ← (do
              let __x ← asStr? (Value.str (Str.ofString "ascii") t1)
              match __x with
                | some s => mkStr s
                | x => unsupported (toString "internal:" ++ toString (toString Bytes.Kind.bytes.name ++ toString ".decode")))
          let z ← (do
              let __x ← asStr? (Value.str e t2)
              match __x with
                | some s => mkStr s
                | x => unsupported (toString "internal:" ++ toString (toString Bytes.Kind.bytes.name ++ toString ".decode")))
          let u ← mkStr (Str.ofString (toString Bytes.Kind.bytes.name ++ toString ".decode"))
          let r ← call (Value.builtin "_codecs.decode.text") [Value.bytes b t, y, z, u]
          ret r) (fun fin s' => ∃ v, fin = .done (.ret v) ∧ Q v s') E s := by
    refine wpAny_bind (wpAny_of_eq (a := b) rfl ?_)
    by_cases h0 : b.size = 0
    · have hb : b = #[] := Array.eq_empty_of_size_eq_zero h0
      subst hb
      refine A_tt rfl ?_
      refine wpAny_bind (wpAny_rule ?_)
      refine wpAny_bind (wpAny_mkStr (wpAny_pure ⟨_, rfl, hq _ _⟩) (by simp [sizeLine_eq, Str.empty, Str.length]))
    · refine A_ff (by simpa [Array.isEmpty] using h0) ?_
      refine wpAny_bind (wpAny_mkStr ?_ (by rw [sizeLine_eq]; decide +kernel))
      refine wpAny_bind (wpAny_bind (wpAny_pure (wpAny_mkStr ?_ (by rw [sizeLine_eq]; decide +kernel))))
      refine wpAny_bind (wpAny_bind (wpAny_pure (wpAny_mkStr ?_ (by rw [sizeLine_eq]; rcases he with rfl | rfl | rfl <;> decide +kernel))))
      refine wpAny_bind (wpAny_mkStr ?_ (by rw [sizeLine_eq]; decide +kernel))
      exact wpAny_bind (A_text hz h h0 fun t' k => wpAny_pure ⟨_, rfl, hq _ _⟩)
  show wpAny (model prog w) A.in1 _ _ _ s
  refine wpAny_mono ?_ (Q := fun fin s' => ∃ v, fin = .done (.ret v) ∧ Q v s') (fun fin s' h' => by obtain ⟨v, rfl, hv⟩ := h'; exact hv) (fun _ _ x => x)
  exact go

theorem A_strnew {t1 t2 : Tok} {e : PySem.Str} {Q : Value → Shared → Prop} (he : errOk e) (hz : b.size ≤ 3) (h : ∀ c ∈ b.toList, c.toNat < 128) (hq : ∀ t' k, Q (.str ⟨(b.toList.map (·.toNat)).toArray⟩ t') { s with toks := k }) :
    wpAny (model prog w) A («str.__new__» ⟨[.type "str", .bytes b t, .str (PySem.Str.ofString "ascii") t1, .str e t2], []⟩) (fun fin s' => ∃ v, fin = .done (.ret v) ∧ Q v s') E s := by
  unfold «str.__new__»
  dsimp only
  refine wpAny_bind (wpAny_pure ?_)
  refine A_ff rfl ?_
  refine wpAny_bind (wpAny_of_eq isSubtype_str_str ?_)
  refine A_ff rfl ?_
  refine A_ff rfl ?_
  have c0 : Str.bindOptional "str.__new__" "str" 0 ["object", "encoding", "errors"] [Value.bytes b t, Value.str (PySem.Str.ofString "ascii") t1, Value.str e t2] [] = pure [some (Value.bytes b t), some (Value.str (PySem.Str.ofString "ascii") t1), some (Value.str e t2)] := by kernel_rfl
  refine wpAny_bind (wpAny_of_eq c0 ?_)
  dsimp only
  refine wpAny_bind ?_
  refine wpAny_of_eq (a := some (PySem.Str.ofString "ascii")) ?_ ?_
  · kernel_rfl
  refine wpAny_bind ?_
  refine wpAny_of_eq (a := some e) ?_ ?_
  · rcases he with rfl | rfl | rfl <;> kernel_rfl
  refine A_ff rfl ?_
  refine wpAny_bind ?_
  show wpAny (model prog w) A ((do let m ← mkStr (PySem.Str.ofString "ascii"); pure [(PySem.Str.ofString "encoding", m)]) >>= fun a => (do let m ← mkStr e; pure [(PySem.Str.ofString "errors", m)]) >>= fun b => _) _ _ _
  refine wpAny_bind (wpAny_bind (wpAny_mkStr (wpAny_pure ?_) (by rw [sizeLine_eq]; decide +kernel)))
  refine wpAny_bind (wpAny_bind (wpAny_mkStr (wpAny_pure ?_) (by rw [sizeLine_eq]; rcases he with rfl | rfl | rfl <;> decide +kernel)))
  refine wpAny_bind (wpAny_isInstance (b := true) (typeIs_bytes _ _ _) (by rw [isSubtype_type]; kernel_rfl) ?_)
  refine A_tt rfl ?_
  refine wpAny_bind (wpAny_rule ?_)
  refine A_decode he hz h fun t' k => ?_
  refine A_tt rfl ?_
  exact wpAny_pure ⟨_, rfl, hq _ _⟩
theorem typeCall_str_3 (a b c : Value) : checkTypeCall "str" ⟨[a, b, c], []⟩ = pure () := by kernel_rfl
theorem newCall_str_3 (a b c : Value) : checkBuiltinCall "str.__new__" ⟨[.type "str", a, b, c], []⟩ = pure () := by kernel_rfl
theorem args_oinit_4 (o a b c : Value) : argsOk "object.__init__" ⟨[o, a, b, c], []⟩ := by unfold argsOk; kernel_rfl
theorem A_str3 {t1 t2 : Tok} {e : PySem.Str} {Q : Value → Shared → Prop} (he : errOk e) (hz : b.size ≤ 3) (h : ∀ c ∈ b.toList, c.toNat < 128) (hq : ∀ t' k, Q (.str ⟨(b.toList.map (·.toNat)).toArray⟩ t') { s with toks := k }) :
    wpAny (model prog w) A (call (.type "str") [.bytes b t, .str (PySem.Str.ofString "ascii") t1, .str e t2]) Q E s :=
  callType_new F.called_str (by decide) (typeCall_str_3 _ _ _) (newCall_str_3 _ _ _) (fun obj => args_oinit_4 obj _ _ _) F.entry_str_new
    (S := fun _ R s => ∀ t' k, R (.ok (.ret (.str ⟨(b.toList.map (·.toNat)).toArray⟩ t'))) { s with toks := k }) (Meets.of_wp fun prog w A R s hS => A_strnew he hz h hS) (fun t' k => ⟨typeIs_str _ _ _, hq _ _⟩)
end
end Mine
end
-- part F7
section
open PySem PySem.W PyProof.Rows
namespace Mine
theorem anewF7 {M : Model} {A : Around} {E : Value → Shared → Prop} {s : Shared} {Q : Nat → Shared → Prop} (h : Q 0 s) : wpAny M A (pure 0) Q E s := by
  first | (walk1; exact h) | exact wpAny_pure h
end Mine
end
section
open PySem PySem.W PyProof.Rows
set_option maxRecDepth 100000
set_option maxHeartbeats 1000000
namespace Mine
theorem fill7 : PySem.Challenge.rw_ny0167_01 = PySem.Challenge.rw_ny0167_01 ∧ MineHd.hd.heap_1 = MineHd.hd.heap_1 := by
  k_fill
  exact ⟨rfl, rfl⟩
local macro_rules | `(tactic| walk_at "call ref") => `(tactic| refine stop ?_)
local macro_rules | `(tactic| walk_at "exec Try") => `(tactic| refine stop ?_)

local macro_rules | `(tactic| walk_at "getMethod bytes") => `(tactic| refine stop ?_)
local macro_rules | `(tactic| walk_at "call builtin:bytes.rfind") => `(tactic| refine stop ?_)
local macro_rules | `(tactic| walk_at "call builtin:bytes.upper") => `(tactic| refine stop ?_)
local macro_rules | `(tactic| walk_at "call type:str") => `(tactic| refine stop ?_)
local macro_rules | `(tactic| walk_at "getAttr ref") => `(tactic| refine stop ?_)
theorem slice_to {prog : Program} {w : World} {A : Around} {E : Value → Shared → Prop} {s : Shared} {value slice : PySem.Expr} {b c : Array UInt8} {t : Tok} {h₀ : Heap} {L : Addr} {m : PySem.Str → Option Value} {news : List (Addr × Obj)} {l u : Value} {lo hi : Option Int} {Q : Value → Shared → Prop} (hc : KBy.picked b lo hi = c) (hF : Fr h₀ L s.heap m) (hN : News h₀ L s.heap news) (hl : PySem.IsPart l lo) (hu : PySem.IsPart u hi) (hz : b.size ≤ 16777216)
    (h : ∀ h' t' k, Fr h₀ L h' m → News h₀ L h' news → Q (.bytes c t') { s with heap := h', toks := k })
    (hs : subscripted slice false (.bytes b t) (.ref s.heap.objs.size) = operate [.ref s.heap.objs.size, .bytes b t] (getItem (.bytes b t) (.ref s.heap.objs.size)) := by with_unfolding_all rfl)
    (ht : ∀ r, letTemporaryGo value (.bytes b t) r = pure () := by intro _; with_unfolding_all rfl) :
    wpAny (model prog w) A (subscriptTail value slice (.bytes b t) (.ref s.heap.objs.size)) Q E { s with heap := s.heap.push { cls := .type "slice", data := .fields #[l, u, .none] } } := by
  subst hc
  exact KBc.slice_K hF hN rfl hl hu (by rw [KBw.ints_length]; exact hz) (fun h' t' k F N _ => h h' t' k F N) hs ht
local macro_rules | `(tactic| walk_at "subscriptTail") => `(tactic| refine stop ?_)

theorem pd_news {A : Around} {base g g' h h1 h2 B : Heap} {outer : List Env} {L a e : Addr} {m m' : Str → Option Value} {name : Str} {scope : Scope} {cd : Value} (K : Below A base outer g) (F : Fr g L h m) (T : KtsTurn (frs outer) g g') (_F' : Fr g' L h2 m')
    (hB : (hideAll h (frs (envOf name scope L a cd :: outer))).StaysIn B) (fly : Fly B (envOf name scope L a cd :: outer) e (.type "UnicodeDecodeError") (UdeP h B) .none h1) (sb : Heap.SameBut L h1 h2) :
    ∃ t tb cau sup x enc ob rs tr st sp e0 o0 ws oe, (0 ≤ st ∧ st < 100000 ∧ 0 ≤ sp ∧ sp < 100000) ∧ oe.cls = .type "UnicodeDecodeError" ∧ oe.data = .fields #[t, tb, .ref e0, cau, sup, x, enc, ob, rawInt st, rawInt sp, .str rs tr] ∧ News g' L h2 [(e, oe), (e0, o0)] ∧ e ≠ e0 ∧ o0.data = .fields ws ∧ ws[2]? = some .none := by
  obtain ⟨hk, hn, hl, oe, vs, T', oT, ts, he, hc, hP, hd, h1', hnT, hTe, hT, hdT, h3⟩ := fly
  obtain ⟨t, tb, cau, sup, x, enc, ob, rs, tr, st, sp, e0, o0, ws, rfl, e1, e2, e3, e4, e5, e6, e7, e8⟩ := hP
  have hLB : B.get? L = none := by
    obtain ⟨_, ⟨L', _, hf, hn', _⟩, _⟩ := hl
    obtain rfl : L = L' := Option.some.inj hf
    exact hn'
  have nfr : e ∉ frs (envOf name scope L a cd :: outer) := fun hm => by
    obtain ⟨_, o, ho, hnf⟩ := hl.mem hm
    rw [he] at ho; cases ho; exact hnf _ hd
  have heL : e ≠ L := fun z => nfr (List.mem_filterMap.mpr ⟨_, .head _, by rw [z]; rfl⟩)
  have hhe : h.get? e = none := by
    cases q : h.get? e with
    | none => rfl
    | some o => have := hB _ _ (hideAll_get _ q nfr); rw [hn] at this; cases this
  have he0L : e0 ≠ L := fun z => by rw [z, hLB] at e5; cases e5
  refine ⟨t, tb, cau, sup, x, enc, ob, rs, tr, st, sp, e0, o0, ws, oe, ⟨e1, e2, e3, e4⟩, hc, hd, fun p hp => ?_, (fun z => by rw [z, e5] at hn; cases hn), e6, e7⟩
  rcases List.mem_cons.mp hp with rfl | hp
  · exact ⟨(sb.2 e heL).trans he, heL, T.none_ _ (stays_none F.keep hhe)⟩
  · obtain rfl := List.mem_singleton.mp hp
    exact ⟨(sb.2 e0 he0L).trans (hk _ _ e5), he0L, T.none_ _ (stays_none F.keep e8)⟩
theorem as_out {prog : Program} {w : World} {A A' A'' : Around} {s : Shared} {base g h h5 : Heap} {outer : List Env} {L a e : Addr} {m : Str → Option Value} {name n : Str} {pos : Pos} {scope : Scope} {cd cls : Value} {P : Heap → Array Value → Prop} {oe : Obj} {vs : Array Value} {tk : Nat}
    (K : Below A base outer g) (F : Fr g L h m) (T : KtsTurn (frs outer) s.heap g) (k1 : ∀ b o, h.get? b = some o → h5.get? b = some o) (k2 : h.get? e = none) (k3 : h5.get? e = some oe) (hd : oe.data = .fields vs) (h1 : vs[1]? = some .none) (hc : oe.cls = cls)
    (hP1 : ∀ B, Keep1 (P B)) (hP : P (hideAll h (frs (envOf name scope L a cd :: outer))) vs) (hfr : A'.frames = some (envOf name scope L a cd :: outer)) (hk : scope.kind = .function) (hlo : (envOf name scope L a cd).kindOf n = some .local) :
    AsSuiteRaised (model prog w) A' (envOf name scope L a cd) n pos (notedBy (model prog w) A' (envOf name scope L a cd) (cameBackBy (model prog w) A'' (envOf name scope L a cd) (EB s (envOf name scope L a cd :: outer) L cls P))) (.ref e) { s with heap := h5, toks := tk } := by
  have K' := K.push (name := name) (a := a) (cd := cd) F hk
  have hen : (hideAll h (frs (envOf name scope L a cd :: outer))).get? e = none := by
    cases q : (hideAll h (frs (envOf name scope L a cd :: outer))).get? e with
    | none => rfl
    | some o => have := of_hideAll _ q; rw [k2] at this; cases this
  have ns5 : h5.Ns L m := let ⟨o, es, ep, q, r⟩ := F.ns; ⟨o, es, ep, k1 _ _ q, r⟩
  have self0 : s.heap.get? L = none := turn_none T (kts_self F)
  refine as_raised (s := { s with heap := h5, toks := tk }) (hP1 _) hfr ((frames_hide K').of_keeps fun b o q _ => ⟨o, k1 b o q, rfl⟩) k3 (fun b o q => k1 b o (of_hideAll _ q)) hen hd h1 hP hc ns5 hk hlo fun h6 tk6 F6 U6 => ?_
  refine fly_again (s := { s with heap := h6, toks := tk6 }) rfl F6 ?_
  refine fly_back (s := { s with heap := h6, toks := tk6 }) F6 rfl fun h7 F7 U7 => ?_
  refine ⟨e, h7, tk6, _, _, rfl, rfl, .inr rfl, fun b o q => hide_push F b o (hide_turn T b o q), F7, fun b o q hn => ?_⟩
  obtain ⟨sl, q1⟩ := T.up q
  obtain ⟨sl2, q2⟩ := U6 b _ (fun z => by rw [z, self0] at q; cases q) (k1 _ _ (F.keep _ _ q1)) hn
  obtain ⟨sl3, q3⟩ := U7 b _ q2 hn
  exact ⟨sl3, q3⟩
theorem pd_sum {p : Nat} {x : Int} (hp : p < 10000) (a : 0 ≤ x ∧ x < 100000) : 0 ≤ (p : Int) + 1 + x ∧ (p : Int) + 1 + x < 1000000 := by omega
theorem pd_neg {p : Nat} (h : (p : Int) = -1) : False := by omega
theorem pd_k {prog : Program} {w : World} {A : Around} {s : Shared} {Q E : Value → Shared → Prop} {base : Heap} {outer : List Env} {tx bs ex : Array UInt8} {pos : Nat} {err res : Str} {ok : Bool} {t1 t2 : Tok}
    (G : Gd w base) (K : Below A base outer s.heap) (r : Rm A 4) (herr : errOk err) (hz : tx.size < 10000) (hz1 : (#[45] : Array UInt8).size ≤ tx.size) (hr : Builtin.Bytes.rfind? tx #[45] 0 tx.size = some pos) (hp : pos < 10000)
    (hb : KBy.picked tx none (some (pos : Int)) = bs) (he : KBy.picked tx (some ((pos : Int) + 1)) none = ex) (hb1 : bs.size ≤ 3) (hb2 : ∀ c ∈ bs.toList, c.toNat < 128) (hx1 : ex.size < 10000) (hx2 : ∀ c ∈ (ex.toList.map Builtin.Bytes.toUpper).toArray.toList, isFig c)
    (I : Ins (ex.toList.map Builtin.Bytes.toUpper).toArray.toList 0 72 128 (-1) ⟨(bs.toList.map (·.toNat)).toArray⟩ res ok)
    (hQ : (ok = true ∨ err ≠ "strict") → ∀ t h' tk', Up (frs outer) s.heap h' → Q (.str res t) { s with heap := h', toks := tk' })
    (hE : ok = false → err = "strict" → ∀ e h' tk' B, (hideAll s.heap (frs outer)).StaysIn B → Fly B outer e (.type "UnicodeDecodeError") (fun _ => True) .none h' → s.heap.UpToSlots h' → E (.ref e) { s with heap := h', toks := tk' }) :
    wpAny (model prog w) A (call (.ref 63) [.bytes tx t1, .str err t2]) Q E s := by
  have G' : Gd w s.heap := G.keeps K.stays
  obtain ⟨X, p, loose, mean, mg, mb, T⟩ := id G'
  refine' enter (binds := [("text", .bytes tx t1), ("errors", .str err t2)]) ?eX ?eT ?eo ?ec ?er ?eb ?el ?eco ?ege ?ek ?ece ?_
  ((case eX => k_asm); (case eT => k_asm); (case eo => k_dflt k_is); (case ec => k_dflt k_is); (case er => exact Rm.depth (by assumption)); (case eb => exact BindsTo.of_eq (by with_unfolding_all rfl)); (case el => exact locs rfl); (case eco => exact rfl); (case ege => exact rfl); (case ek => exact rfl); (case ece => decide); k_whole)
  intro L h₁ tk F N
  refine wpAny_mono (E := EB s (_ :: outer) L (.type "UnicodeDecodeError") (fun B vs => (ok = false ∧ err = "strict") ∧ True)) ?_ (fun _ _ x => x) (fun v s' x => EB.leave (fun B vs v q => q) (Around.frames_deeper K.stack) rfl (fun e h' tk' B hB fly U => hE (fly_P fly).1.1 (fly_P fly).1.2 e h' tk' B hB (fly_mono (fun _ q => q.2) fly) U) x)
  generalize hEE : EB s (_ :: outer) L (.type "UnicodeDecodeError") (fun B vs => (ok = false ∧ err = "strict") ∧ True) = EE
  (try dsimp only)
  (k_steps; all_goals (repeat' (first | ((with_reducible refine unstop ?_); (first | (with_reducible (first | ((k_here; (with_reducible rename Fr _ _ _ _ => zzF'); (with_reducible rename News _ _ _ _ => zzN'); (refine' slice_to (s := ⟨_, _, _, _, _⟩) ?hc zzF' zzN' ?hl ?hu ?hz ?_; (case hl => constructor); (case hu => constructor); (case hc => assumption); (case hz => omega); k_whole); intro _ _ _ _ _; (try k_sweep))) | ((k_here; k_dflt (first | ((with_reducible show wpAny _ _ (getAttr _ (Str.ofString "start") _) _ _ _); refine' attr_start ?hx ?hc ?hd ?_; (case hx => exact News.get (by assumption) (by k_mem)); (case hc => assumption); (case hd => assumption); k_whole; intro _ _) | ((with_reducible show wpAny _ _ (getAttr _ (Str.ofString "end") _) _ _ _); refine' attr_end ?hx ?hc ?hd ?_; (case hx => exact News.get (by assumption) (by k_mem)); (case hc => assumption); (case hd => assumption); k_whole; intro _ _) | ((with_reducible show wpAny _ _ (getAttr _ (Str.ofString "reason") _) _ _ _); refine' attr_reason ?hx ?hc ?hd ?_; (case hx => exact News.get (by assumption) (by k_mem)); (case hc => assumption); (case hd => assumption); k_whole; intro _)))) | ((k_here; (refine A_str3 (by assumption) (by assumption) (by assumption) ?_); intro _ _)) | ((k_here; (refine A_upper (by omega) ?_); intro _ _)) | ((k_here; (refine A_rfind (by assumption) (by assumption) ?_); intro _ _)) | ((k_here; first | (refine A_meth BG.slot_rfind BG.ty_rfind ?_) | (refine A_meth BG.slot_upper BG.ty_upper ?_))) | fail)) | ((with_reducible show wpAny _ _ (call (Value.builtin "bytes.rfind") _ _) _ _ _); ((k_here; (refine A_rfind (by assumption) (by assumption) ?_); intro _ _)))); k_steps) | fail)))
  · exfalso; first | exact pd_neg (by assumption) | omega
  · unfold Stop
    refine wpAny_Try_except ?_
    (k_steps; all_goals (repeat' (first | ((with_reducible refine unstop ?_); (first | (with_reducible (first | ((k_here; (with_reducible rename Fr _ _ _ _ => zzF'); (with_reducible rename News _ _ _ _ => zzN'); (refine' slice_to (s := ⟨_, _, _, _, _⟩) ?hc zzF' zzN' ?hl ?hu ?hz ?_; (case hl => constructor); (case hu => constructor); (case hc => assumption); (case hz => omega); k_whole); intro _ _ _ _ _; (try k_sweep))) | ((k_here; k_dflt (first | ((with_reducible show wpAny _ _ (getAttr _ (Str.ofString "start") _) _ _ _); refine' attr_start ?hx ?hc ?hd ?_; (case hx => exact News.get (by assumption) (by k_mem)); (case hc => assumption); (case hd => assumption); k_whole; intro _ _) | ((with_reducible show wpAny _ _ (getAttr _ (Str.ofString "end") _) _ _ _); refine' attr_end ?hx ?hc ?hd ?_; (case hx => exact News.get (by assumption) (by k_mem)); (case hc => assumption); (case hd => assumption); k_whole; intro _ _) | ((with_reducible show wpAny _ _ (getAttr _ (Str.ofString "reason") _) _ _ _); refine' attr_reason ?hx ?hc ?hd ?_; (case hx => exact News.get (by assumption) (by k_mem)); (case hc => assumption); (case hd => assumption); k_whole; intro _)))) | ((k_here; (refine A_str3 (by assumption) (by assumption) (by assumption) ?_); intro _ _)) | ((k_here; (refine A_upper (by omega) ?_); intro _ _)) | ((k_here; (refine A_rfind (by assumption) (by assumption) ?_); intro _ _)) | ((k_here; first | (refine A_meth BG.slot_rfind BG.ty_rfind ?_) | (refine A_meth BG.slot_upper BG.ty_upper ?_))) | fail)) | ((with_reducible show wpAny _ _ (call (Value.builtin "bytes.rfind") _ _) _ _ _); ((k_here; (refine A_rfind (by assumption) (by assumption) ?_); intro _ _)))); k_steps) | fail)))
    unfold Stop
    refine wpAny_Try_except ?_
    (k_steps; all_goals (repeat' (first | ((with_reducible refine unstop ?_); (first | (with_reducible (first | ((k_here; (with_reducible rename Fr _ _ _ _ => zzF'); (with_reducible rename News _ _ _ _ => zzN'); (refine' slice_to (s := ⟨_, _, _, _, _⟩) ?hc zzF' zzN' ?hl ?hu ?hz ?_; (case hl => constructor); (case hu => constructor); (case hc => assumption); (case hz => omega); k_whole); intro _ _ _ _ _; (try k_sweep))) | ((k_here; k_dflt (first | ((with_reducible show wpAny _ _ (getAttr _ (Str.ofString "start") _) _ _ _); refine' attr_start ?hx ?hc ?hd ?_; (case hx => exact News.get (by assumption) (by k_mem)); (case hc => assumption); (case hd => assumption); k_whole; intro _ _) | ((with_reducible show wpAny _ _ (getAttr _ (Str.ofString "end") _) _ _ _); refine' attr_end ?hx ?hc ?hd ?_; (case hx => exact News.get (by assumption) (by k_mem)); (case hc => assumption); (case hd => assumption); k_whole; intro _ _) | ((with_reducible show wpAny _ _ (getAttr _ (Str.ofString "reason") _) _ _ _); refine' attr_reason ?hx ?hc ?hd ?_; (case hx => exact News.get (by assumption) (by k_mem)); (case hc => assumption); (case hd => assumption); k_whole; intro _)))) | ((k_here; (refine A_str3 (by assumption) (by assumption) (by assumption) ?_); intro _ _)) | ((k_here; (refine A_upper (by omega) ?_); intro _ _)) | ((k_here; (refine A_rfind (by assumption) (by assumption) ?_); intro _ _)) | ((k_here; first | (refine A_meth BG.slot_rfind BG.ty_rfind ?_) | (refine A_meth BG.slot_upper BG.ty_upper ?_))) | fail)) | ((with_reducible show wpAny _ _ (call (Value.builtin "bytes.rfind") _ _) _ _ _); ((k_here; (refine A_rfind (by assumption) (by assumption) ?_); intro _ _)))); k_steps) | fail)))
    unfold Stop
    (with_reducible rename Fr _ _ _ _ => F1)
    (with_reducible rename News _ _ _ _ => N1)
    refine ins_k G (K.push F1) (r.to (by decide)) (by simpa using hx1) hx2 I ?_ ?_
    · intro hok t9 h9 tk9 U9
      refine Exists.elim (up_fr K F1 N1 U9) fun g2 q2 => ?_
      exact hQ hok _ _ _ (Up.trans_turn q2.1 q2.2.2.1.keep)
    · intro hok hst e9 h9 tk9 B hB fly U9
      refine fly_note (s := ⟨_, _, _, _, _⟩) (UdeP.keep1 _ B) (Around.frames_deeper K.stack) rfl fly fun h10 fly10 U10 => ?_
      refine fly_flight (s := ⟨_, _, _, _, _⟩) fly10 fun h11 fly11 U11 => ?_
      refine' handle1 (s := ⟨_, _, _, _, _⟩) K F1 N1 hB fly11 ((U9.trans U10).trans U11) G ?ex Boot.UnicodeDecodeError (by decide) U.raiseF.isExc ?nt U.newF.sub rfl rfl (by decide) rfl fun h12 h13 g13 tk13 T13 K13 F13 N13 fly13 U13 sb13 => ?_
      case ex => (show nsIn (MineHd.hd.heap_1 w.params) _ _ = _; k_dflt k_is)
      case nt => (rw [isSubtype_type]; kernel_rfl)
      have G3 := G.keeps K13.stays
      have X3 := G3.K
      refine Exists.elim G3.T fun p3 G3 => Exists.elim G3 fun loose3 G3 => Exists.elim G3 fun mean3 G3 => Exists.elim G3 fun mg3 G3 => Exists.elim G3 fun mb3 P3 => ?_
      refine Exists.elim (pd_news K F1 T13 F13 hB fly13 sb13) fun y1 q => Exists.elim q fun y2 q => Exists.elim q fun y3 q => Exists.elim q fun y4 q => Exists.elim q fun y5 q => Exists.elim q fun y6 q => Exists.elim q fun y7 q => Exists.elim q fun y8 q => Exists.elim q fun y9 q => Exists.elim q fun st9 q => Exists.elim q fun sp9 q => Exists.elim q fun e0 q => Exists.elim q fun o0 q => Exists.elim q fun ws0 q => Exists.elim q fun oe9 q => ?_
      have hbd := q.1
      have hcls := q.2.1
      have hdat := q.2.2.1
      have N14 := q.2.2.2.1
      have hnee := q.2.2.2.2.1
      have hd0 := q.2.2.2.2.2.1
      have hw0 := q.2.2.2.2.2.2
      clear F1 N1 N13 X T q
      (k_steps; all_goals (repeat' (first | ((with_reducible refine unstop ?_); (first | (with_reducible (first | ((k_here; (with_reducible rename Fr _ _ _ _ => zzF'); (with_reducible rename News _ _ _ _ => zzN'); (refine' slice_to (s := ⟨_, _, _, _, _⟩) ?hc zzF' zzN' ?hl ?hu ?hz ?_; (case hl => constructor); (case hu => constructor); (case hc => assumption); (case hz => omega); k_whole); intro _ _ _ _ _; (try k_sweep))) | ((k_here; k_dflt (first | ((with_reducible show wpAny _ _ (getAttr _ (Str.ofString "start") _) _ _ _); refine' attr_start ?hx ?hc ?hd ?_; (case hx => exact News.get (by assumption) (by k_mem)); (case hc => assumption); (case hd => assumption); k_whole; intro _ _) | ((with_reducible show wpAny _ _ (getAttr _ (Str.ofString "end") _) _ _ _); refine' attr_end ?hx ?hc ?hd ?_; (case hx => exact News.get (by assumption) (by k_mem)); (case hc => assumption); (case hd => assumption); k_whole; intro _ _) | ((with_reducible show wpAny _ _ (getAttr _ (Str.ofString "reason") _) _ _ _); refine' attr_reason ?hx ?hc ?hd ?_; (case hx => exact News.get (by assumption) (by k_mem)); (case hc => assumption); (case hd => assumption); k_whole; intro _)))) | ((k_here; (refine A_str3 (by assumption) (by assumption) (by assumption) ?_); intro _ _)) | ((k_here; (refine A_upper (by omega) ?_); intro _ _)) | ((k_here; (refine A_rfind (by assumption) (by assumption) ?_); intro _ _)) | ((k_here; first | (refine A_meth BG.slot_rfind BG.ty_rfind ?_) | (refine A_meth BG.slot_upper BG.ty_upper ?_))) | fail)) | ((with_reducible show wpAny _ _ (call (Value.builtin "bytes.rfind") _ _) _ _ _); ((k_here; (refine A_rfind (by assumption) (by assumption) ?_); intro _ _)))); k_steps) | fail)))
      refine Raise_ude_from rfl ?_
      (k_steps; all_goals (repeat' (first | ((with_reducible refine unstop ?_); (first | (with_reducible (first | ((k_here; (with_reducible rename Fr _ _ _ _ => zzF'); (with_reducible rename News _ _ _ _ => zzN'); (refine' slice_to (s := ⟨_, _, _, _, _⟩) ?hc zzF' zzN' ?hl ?hu ?hz ?_; (case hl => constructor); (case hu => constructor); (case hc => assumption); (case hz => omega); k_whole); intro _ _ _ _ _; (try k_sweep))) | ((k_here; k_dflt (first | ((with_reducible show wpAny _ _ (getAttr _ (Str.ofString "start") _) _ _ _); refine' attr_start ?hx ?hc ?hd ?_; (case hx => exact News.get (by assumption) (by k_mem)); (case hc => assumption); (case hd => assumption); k_whole; intro _ _) | ((with_reducible show wpAny _ _ (getAttr _ (Str.ofString "end") _) _ _ _); refine' attr_end ?hx ?hc ?hd ?_; (case hx => exact News.get (by assumption) (by k_mem)); (case hc => assumption); (case hd => assumption); k_whole; intro _ _) | ((with_reducible show wpAny _ _ (getAttr _ (Str.ofString "reason") _) _ _ _); refine' attr_reason ?hx ?hc ?hd ?_; (case hx => exact News.get (by assumption) (by k_mem)); (case hc => assumption); (case hd => assumption); k_whole; intro _)))) | ((k_here; (refine A_str3 (by assumption) (by assumption) (by assumption) ?_); intro _ _)) | ((k_here; (refine A_upper (by omega) ?_); intro _ _)) | ((k_here; (refine A_rfind (by assumption) (by assumption) ?_); intro _ _)) | ((k_here; first | (refine A_meth BG.slot_rfind BG.ty_rfind ?_) | (refine A_meth BG.slot_upper BG.ty_upper ?_))) | fail)) | ((with_reducible show wpAny _ _ (call (Value.builtin "bytes.rfind") _ _) _ _ _); ((k_here; (refine A_rfind (by assumption) (by assumption) ?_); intro _ _)))); k_steps) | fail)))
      (with_reducible rename News _ _ _ _ => N8)
      (with_reducible rename Fr _ _ _ _ => F8)
      have hg9 := (N8 _ (.head _)).1
      have hg0 := (N8 _ (.tail _ (.head _))).1
      subst hEE
      refine ⟨_, _, _, _, _, _, _, _, _, _, rfl, pd_sum hp ⟨hbd.1, hbd.2.1⟩, pd_sum hp hbd.2.2, .two hg9 hdat rfl hnee hg0 hd0 hw0, fun h5 e5 t5 cau5 sup5 k1 k2 k3 => ?_⟩
      exact as_out (cls := .type "UnicodeDecodeError") K13 F8 T13 k1 k2 k3 rfl rfl rfl (fun B vs v q => q) ⟨⟨hok, hst⟩, trivial⟩ (Around.frames_deeper K.stack) rfl rfl
end Mine
end
-- part F8
section
open PySem PySem.W PyProof.Rows
namespace Mine
theorem anewF8 {M : Model} {A : Around} {E : Value → Shared → Prop} {s : Shared} {Q : Nat → Shared → Prop} (h : Q 0 s) : wpAny M A (pure 0) Q E s := by
  first | (walk1; exact h) | exact wpAny_pure h
end Mine
end
section
open PySem PySem.W PyProof.Rows
set_option maxRecDepth 100000
set_option maxHeartbeats 1000000
namespace Mine
theorem fill8 : PySem.Challenge.rw_ny0167_01 = PySem.Challenge.rw_ny0167_01 ∧ MineHd.hd.heap_1 = MineHd.hd.heap_1 := by
  k_fill
  exact ⟨rfl, rfl⟩
local macro_rules | `(tactic| walk_at "call ref") => `(tactic| refine stop ?_)
local macro_rules | `(tactic| walk_at "exec Try") => `(tactic| refine stop ?_)

theorem strict_k {prog : Program} {w : World} {A : Around} {s : Shared} {Q E : Value → Shared → Prop} {base : Heap} {outer : List Env} {tx bs ex : Array UInt8} {pos : Nat} {res : Str} {ok : Bool} {t1 : Tok}
    (G : Gd w base) (K : Below A base outer s.heap) (r : Rm A 5) (hz : tx.size < 10000) (hz1 : (#[45] : Array UInt8).size ≤ tx.size) (hr : Builtin.Bytes.rfind? tx #[45] 0 tx.size = some pos) (hp : pos < 10000)
    (hb : KBy.picked tx none (some (pos : Int)) = bs) (he : KBy.picked tx (some ((pos : Int) + 1)) none = ex) (hb1 : bs.size ≤ 3) (hb2 : ∀ c ∈ bs.toList, c.toNat < 128) (hx1 : ex.size < 10000) (hx2 : ∀ c ∈ (ex.toList.map Builtin.Bytes.toUpper).toArray.toList, isFig c)
    (I : Ins (ex.toList.map Builtin.Bytes.toUpper).toArray.toList 0 72 128 (-1) ⟨(bs.toList.map (·.toNat)).toArray⟩ res ok)
    (hQ1 : ok = true → ∀ t h' tk', Up (frs outer) s.heap h' → Q (.str res t) { s with heap := h', toks := tk' })
    (hQ2 : ok = false → ∀ h' tk', Up (frs outer) s.heap h' → Q .none { s with heap := h', toks := tk' }) :
    wpAny (model prog w) A (call (.ref 105) [.bytes tx t1]) Q E s := by
  have G' : Gd w s.heap := G.keeps K.stays
  obtain ⟨X, p, loose, mean, mg, mb, T⟩ := id G'
  refine' enterF (binds := [("octets", .bytes tx t1)]) ?eX ?eT ?eo ?ec ?er ?eb ?el ?eco ?ege ?ek ?ece ?_
  ((case eX => k_asm); (case eT => k_asm); (case eo => k_dflt k_is); (case ec => k_dflt k_is); (case er => exact Rm.depth (by assumption)); (case eb => exact BindsTo.of_eq (by with_unfolding_all rfl)); (case el => exact locs rfl); (case eco => exact rfl); (case ege => exact rfl); (case ek => exact rfl); (case ece => decide); k_whole)
  intro L h₁ tk F N
  (try dsimp only)
  k_steps
  unfold Stop
  refine wpAny_Try_except ?_
  k_steps
  unfold Stop
  (with_reducible rename Fr _ _ _ _ => F1)
  (with_reducible rename News _ _ _ _ => N1)
  refine pd_k G (K.push F1) (r.to (by decide)) (.inr (.inr rfl)) hz hz1 hr hp hb he hb1 hb2 hx1 hx2 I ?_ ?_
  · intro hok t9 h9 tk9 U9
    refine Exists.elim (up_fr K F1 N1 U9) fun g2 q2 => ?_
    exact hQ1 (hok.resolve_right fun z => z rfl) _ _ _ (Up.trans_turn q2.1 q2.2.2.1.keep)
  · intro hok hst e9 h9 tk9 B hB fly U9
    refine fly_note (s := ⟨_, _, _, _, _⟩) (fun _ _ _ => trivial) (Around.frames_deeper K.stack) rfl fly fun h10 fly10 U10 => ?_
    refine fly_flight (s := ⟨_, _, _, _, _⟩) fly10 fun h11 fly11 U11 => ?_
    refine' handle0 (s := ⟨_, _, _, _, _⟩) K F1 N1 hB fly11 ((U9.trans U10).trans U11) G ?ex Boot.UnicodeDecodeError (by decide) U.raiseF.isExc ?nt U.newF.sub rfl rfl (by decide) fun h13 g13 T13 K13 F13 N13 fly13 U13 => ?_
    case ex => (show nsIn (MineHd.hd.heap_1 w.params) _ _ = _; k_dflt k_is)
    case nt => (rw [isSubtype_type]; kernel_rfl)
    have G3 := G.keeps K13.stays
    have X3 := G3.K
    refine Exists.elim G3.T fun p3 G3 => Exists.elim G3 fun loose3 G3 => Exists.elim G3 fun mean3 G3 => Exists.elim G3 fun mg3 G3 => Exists.elim G3 fun mb3 P3 => ?_
    clear F1 N1 X T
    k_steps
    exact hQ2 hok _ _ (Up.trans_turn T13 (Fr.stays (by assumption)))
end Mine
end
-- part F9
section
open PySem PySem.W PyProof.Rows
namespace Mine
theorem anewF9 {M : Model} {A : Around} {E : Value → Shared → Prop} {s : Shared} {Q : Nat → Shared → Prop} (h : Q 0 s) : wpAny M A (pure 0) Q E s := by
  first | (walk1; exact h) | exact wpAny_pure h
end Mine
end
section
open PySem PySem.W PyProof.Rows
set_option maxRecDepth 100000
set_option maxHeartbeats 1000000
namespace Mine
theorem fill9 : PySem.Challenge.rw_ny0167_01 = PySem.Challenge.rw_ny0167_01 ∧ MineHd.hd.heap_1 = MineHd.hd.heap_1 := by
  k_fill
  exact ⟨rfl, rfl⟩
local macro_rules | `(tactic| walk_at "call ref") => `(tactic| refine stop ?_)
local macro_rules | `(tactic| walk_at "assign Tuple") => `(tactic| refine stop ?_)
def lstObj (l : List Value) : Obj := { cls := .type "list", data := .seq l.toArray }

theorem lay_k {prog : Program} {w : World} {A : Around} {s : Shared} {Q E : Value → Shared → Prop} {l : Addr} {tx : Str} {st num : Int} {t1 t2 t3 : Tok}
    (G : Gd w s.heap) (r : Rm A 2) (hl : s.heap.IsList l #[.str tx t1, .int st t2]) (hlen : tx.length < 1000) (h0 : 0 ≤ st) (h1 : 0 ≤ num) (h2 : st + num < 1000000) (h3 : (st + num).fdiv (tx.length + 1) < 55000)
    (h : ∀ a u1 u2 h' tk', s.heap.StaysIn h' → s.heap.get? a = none → h'.get? a = some (lstObj [.str (insS tx ((st + num).fmod (tx.length + 1)) ((st + num).fdiv (tx.length + 1))) u1, .int ((st + num).fdiv (tx.length + 1) * (tx.length + 2) + (st + num).fmod (tx.length + 1) + 1) u2]) → Q (.ref a) { s with heap := h', toks := tk' }) :
    wpAny (model prog w) A (call (.ref 98) [.ref l, .int num t3]) Q E s := by
  obtain ⟨X, p, loose, mean, mg, mb, T⟩ := id G
  refine' enterF (binds := [("state", .ref l), ("number", .int num t3)]) ?eX ?eT ?eo ?ec ?er ?eb ?el ?eco ?ege ?ek ?ece ?_
  ((case eX => k_asm); (case eT => k_asm); (case eo => k_dflt k_is); (case ec => k_dflt k_is); (case er => exact Rm.depth (by assumption)); (case eb => exact BindsTo.of_eq (by with_unfolding_all rfl)); (case el => exact locs rfl); (case eco => exact rfl); (case ege => exact rfl); (case ek => exact rfl); (case ece => decide); k_whole)
  intro L h₁ tk F N
  have e8 : 0 ≤ (st + num).fdiv ((tx.length : Int) + 1) := Int.fdiv_nonneg (by omega) (by omega)
  have e9 : 0 ≤ (st + num).fmod ((tx.length : Int) + 1) := Int.fmod_nonneg_of_pos _ (by omega)
  have e10 : (st + num).fmod ((tx.length : Int) + 1) < tx.length + 1 := Int.fmod_lt_of_pos _ (by omega)
  (try dsimp only)
  (k_steps; all_goals (repeat' (first | ((with_reducible refine unstop ?_); (first | (with_reducible (first | ((k_here; (with_reducible show wpAny _ _ (assign (Expr.Tuple _ _ _) _ (Value.ref _)) _ _ _); (first | k_dflt (refine' kun_list ?k1 ?k2 ?k3 ?k4 ?k5 ?k6 ?_; (case k1 => k_asm); (case k2 => k_asm); (case k3 => exact stays_list (Fr.stays (by assumption)) (by assumption)); (case k4 => exact Rm.hd (Rm.to (m := 0) (by assumption) (by decide))); (case k5 => exact rfl); (case k6 => exact rfl); k_whole) | k_dflt (refine' unpackN_ ?k1 ?k2 ?k3 ?k4 ?k5 ?k6 ?_; (case k1 => k_asm); (case k2 => k_asm); (case k3 => kun_tup); (case k4 => exact Rm.hd (Rm.to (m := 0) (by assumption) (by decide))); (case k5 => exact rfl); (case k6 => exact rfl); k_whole)); intro zzh' zzF' zzN'; (try k_sweep))) | fail)) ); k_steps) | fail)))
  (with_reducible rename News _ _ _ _ => N8)
  (with_reducible rename Fr _ _ _ _ => F8)
  exact h _ _ _ _ _ (Fr.stays F8) (N8 _ (.head _)).2.2 (N8 _ (.head _)).1
end Mine
end
-- part Cl
section
open PySem PySem.W PyProof.Rows
set_option maxRecDepth 100000
namespace Mine
/-- a def of the written part whose body has cells is entered: all that stood is its ground, its cells are new -/
theorem enterC {prog : Program} {w : World} {A : Around} {s : Shared} {E : Value → Shared → Prop} {Q : Value → Shared → Prop} {K : Frag} {p : Program} {loose : List Str} {mean : ExcName → Option Value} {mg mb : Str → Option Value}
    {name qual : Str} {params : Arguments} {body : List Stmt} {scope : Scope} {dV kV doc pm cdv ct oc : Value} {an od : Option Addr} {osl : Array (Option Value)} {f : Addr} {args : List Value} {binds : List (Str × Value)}
    (X : K.In s.heap) (T : Top p loose mean mg mb s.heap)
    (ho : K.lookup f = some ⟨oc, od, .func (fnX name qual params body scope [] dV kV doc pm an cdv ct), osl⟩) (hcd : codeIn K cdv qual = true) (hroom : A.depth < recursionLimit)
    (hbind : BindsTo s (fnX name qual params body scope [] dV kV doc pm an cdv ct) ⟨args, []⟩ binds)
    (hkind : ∀ n, ∀ x ∈ binds, scope.names.lookup x.1 = some .local ∨ (scope.names.lookup x.1 = some .cell ∧ ((cellsFrom n scope.names []).lookup x.1).isSome = true))
    (hnd : ((cellsFrom 0 scope.names []).map (·.1)).Nodup)
    (hco : scope.isCoroutine = false) (hgen : scope.isGenerator = false) (hk : scope.kind = .function)
    (h : ∀ L h₁ tk cells, Fr s.heap L h₁ (bindL (envOfC qual scope L f cdv).kindOf binds fun _ => none) → News s.heap L h₁ cells → CellsAre (bindC (envOfC qual scope L f cdv).kindOf binds fun _ => none) (cellsFrom (L + 1) scope.names []) cells →
      wpAny (model prog w) (A.deeper (envOfC qual scope L f cdv)) (execs body (envOfC qual scope L f cdv)) (fun fl s' => Q (match fl with | .ret v => v | _ => .none) s') (fun _ _ => False)
        { s with heap := h₁, toks := tk }) :
    wpAny (model prog w) A (call (.ref f) args) Q E s := by
  refine wpAny_call ?_
  refine codeAny_call_function hroom (X _ _ ho) rfl hco hgen rfl (codeRec_of X hcd) (hbind _ _ _ _ ?_)
  refine wpAny_newFunctionEnv_cells hk (hkind _) fun env' he s' x => ?_
  subst he
  refine ⟨T.nolimit.keeps x.toInCall.keep, codeAny_func ?_⟩
  obtain ⟨h₁, tk, rfl, _⟩ := x.done
  obtain ⟨cells, NC, Y⟩ := Cl.news (h₀ := s.heap) (Nat.le_refl _) fun n c hm => ⟨x.cell n c (lookup_of_mem_nodup (cellsFrom_names scope.names 0 (s.heap.objs.size + 1) [] [] rfl ▸ hnd) hm), x.above n c hm⟩
  exact wpAny_mono (h s.heap.objs.size h₁ tk cells ⟨x.toInCall.ns, x.toInCall.keep, Nat.le_refl _⟩ NC Y) (fun fl s' hl => hl) fun _ _ y => y.elim
end Mine
end
-- part FB0
section
open PySem PySem.W PyProof.Rows
set_option maxRecDepth 100000
set_option maxHeartbeats 1000000
namespace Mine
theorem fill10 : PySem.Challenge.rw_ny0167_01 = PySem.Challenge.rw_ny0167_01 ∧ MineHd.hd.heap_1 = MineHd.hd.heap_1 := by
  k_fill
  exact ⟨rfl, rfl⟩


theorem ediv_pow35 (p : Int) (k : Nat) : p / 35 / 35 ^ k = p / 35 ^ (k + 1) := by
  rw [Int.ediv_ediv_of_nonneg (by decide), Int.pow_succ, Int.mul_comm]
theorem adl_pow : ∀ (c : Nat) (p v : Int), (∀ k < c, 455 < p / 35 ^ k) → p / 35 ^ c ≤ 455 → adl p v = v + 36 * c + 36 * (p / 35 ^ c) / (p / 35 ^ c + 38)
  | 0, p, v, _, h => by
    have h' : p ≤ 455 := by simpa using h
    rw [adl.eq_1, if_neg (by omega)]
    simp
  | c + 1, p, v, h, h2 => by
    have h0 : 455 < p := by simpa using h 0 (by omega)
    rw [adl.eq_1, if_pos h0, adl_pow c (p / 35) (v + 36) (fun k hk => by rw [ediv_pow35]; exact h (k + 1) (by omega)) (by rw [ediv_pow35]; exact h2), ediv_pow35]
    push_cast
    omega
theorem fall35 (p : Int) {c : Nat} (h : p / 35 ^ c ≤ 455) : ∀ j, p / 35 ^ (c + j) ≤ 455
  | 0 => h
  | j + 1 => by
    have ih := fall35 p h j
    have e : p / 35 ^ (c + j + 1) = p / 35 ^ (c + j) / 35 := by rw [Int.pow_succ, Int.ediv_ediv_of_nonneg (Int.le_of_lt (Int.pow_pos (by decide)))]
    have e2 : c + (j + 1) = c + j + 1 := by omega
    rw [e2, e]
    omega
theorem first35 (p : Int) : ∀ n : Nat, p / 35 ^ n ≤ 455 → ∃ c, c ≤ n ∧ (∀ k < c, 455 < p / 35 ^ k) ∧ p / 35 ^ c ≤ 455
  | 0, h => ⟨0, Nat.le_refl _, fun _ hk => absurd hk (Nat.not_lt_zero _), h⟩
  | n + 1, h => by
    by_cases q : p / 35 ^ n ≤ 455
    · obtain ⟨c, h1, h2, h3⟩ := first35 p n q
      exact ⟨c, by omega, h2, h3⟩
    · refine ⟨n + 1, Nat.le_refl _, fun k hk => Classical.byContradiction fun z => q ?_, h⟩
      have := fall35 p (c := k) (by omega) (n - k)
      rw [show k + (n - k) = n by omega] at this
      exact this
def gt35 (p : Int) : Int → Bool := fun k => decide (p.fdiv (35 ^ k.toNat) > 455)
theorem cnt35 {p : Int} (hp : p < 10 ^ 31) : ∃ c : Nat, c ≤ 20 ∧ ((rangeInts 0 1 20).filter (gt35 p)).length = c ∧ adl p 0 = 36 * c + (36 * (p.fdiv (35 ^ c))).fdiv (p.fdiv (35 ^ c) + 38) ∧ 0 ≤ p.fdiv (35 ^ c) ∧ p.fdiv (35 ^ c) ≤ 455 ∨ p < 0 := by
  by_cases h0 : p < 0
  · exact ⟨0, .inr h0⟩
  have hq : p / 35 ^ 20 ≤ 455 := by
    have : p < 456 * 35 ^ 20 := by omega
    have := Int.ediv_lt_of_lt_mul (show (0 : Int) < 35 ^ 20 by decide) this
    omega
  obtain ⟨c, h1, h2, h3⟩ := first35 p 20 hq
  have nn : 0 ≤ p / 35 ^ c := Int.ediv_nonneg (by omega) (Int.le_of_lt (Int.pow_pos (by decide)))
  have ee : p.fdiv (35 ^ c) = p / 35 ^ c := Int.fdiv_eq_ediv_of_nonneg _ (Int.le_of_lt (Int.pow_pos (by decide)))
  refine ⟨c, .inl ⟨h1, ?_, ?_, ee ▸ nn, ee ▸ h3⟩⟩
  · have tab : ∀ c < 21, ((rangeInts 0 1 20).filter (fun k => decide (k.toNat < c))).length = c := by decide +kernel
    rw [← tab c (by omega)]
    congr 1
    refine List.filter_congr fun k hk => ?_
    unfold gt35
    rw [Int.fdiv_eq_ediv_of_nonneg _ (Int.le_of_lt (Int.pow_pos (by decide)))]
    by_cases q : k.toNat < c
    · simp [q, h2 _ q]
    · have := fall35 p h3 (k.toNat - c)
      rw [show c + (k.toNat - c) = k.toNat by omega] at this
      simp only [q, decide_false, decide_eq_false_iff_not]
      omega
  · rw [adl_pow c p 0 h2 h3, Int.fdiv_eq_ediv_of_nonneg _ (Int.le_of_lt (Int.pow_pos (by decide))), Int.fdiv_eq_ediv_of_nonneg _ (by omega)]
    omega
end Mine
end
-- part FA
section
open PySem PySem.W PyProof.Rows
namespace Mine
theorem anewFA {M : Model} {A : Around} {E : Value → Shared → Prop} {s : Shared} {Q : Nat → Shared → Prop} (h : Q 0 s) : wpAny M A (pure 0) Q E s := by
  first | (walk1; exact h) | exact wpAny_pure h
end Mine
end
section
open PySem PySem.W PyProof.Rows
set_option maxRecDepth 100000
set_option maxHeartbeats 1000000
namespace Mine
theorem fill11 : PySem.Challenge.rw_ny0167_01 = PySem.Challenge.rw_ny0167_01 ∧ MineHd.hd.heap_1 = MineHd.hd.heap_1 := by
  k_fill
  exact ⟨rfl, rfl⟩
local macro_rules | `(tactic| walk_at "binaryOp FloorDiv int int") => `(tactic| refine stop ?_)

theorem pow35_np {x : Int} {k : Int} (h0 : 0 ≤ k) (h1 : k ≤ 20) : Builtin.divisionGoesByPylong x (35 ^ k.toNat) = false := by
  have q : ∀ j < 21, ((35 : Int) ^ j).natAbs.log2 < 9000 := by decide +kernel
  exact PyProof.noPylong_of_log2 (q k.toNat (by omega))
theorem pow35_ne {k : Int} : (35 : Int) ^ k.toNat ≠ 0 := by
  have := Int.pow_pos (n := 35) (m := k.toNat) (by decide)
  omega

theorem comp_r {prog : Program} {w : World} {A : Around} {E : Value → Shared → Prop} {s : Shared} {h₀ : Heap} {L : Addr} {m : Str → Option Value} {env : Env} {elt iter : PySem.Expr} {x : Str} {px : Pos} {ifs : List PySem.Expr} {scope : Scope} {cl : List (Str × Addr)} {pos : Pos} {Q : Value → Shared → Prop} {pz : Int → Bool} {d : Int → PyData}
    (_F : Fr h₀ L s.heap m) (hh : A.handled = none) (hclos : closureFor scope env = pure cl) (hcell : ∀ y ∈ scope.names, y.2 ≠ .cell) (hkind : scope.kind = .function)
    (hnames : ∀ y ∈ scope.names, y.2 = .local → scope.names.lookup y.1 = some .local) (hx : scope.names.lookup x = some .local)
    (h : wpAny (model prog w) A (eval iter env) (fun xv s₁ => Halt (∃ news : List (Addr × Obj), ∃ r a₀ b₀ c₀ t₀ u₀ v₀, ∃ n : Nat, xv = .ref r ∧ IsRange s₁.heap r a₀ b₀ c₀ t₀ u₀ v₀ ∧ Builtin.Range.small a₀ b₀ c₀ = true ∧ Builtin.Range.rangeSize a₀ b₀ c₀ = (n : Int) ∧ n ≤ sizeLine ∧ Fr h₀ L s₁.heap m ∧ News h₀ L s₁.heap news ∧
      (∀ C a v s₂ m₂ E', s₁.heap.objs.size ≤ C → a ∈ rangeInts a₀ c₀ n → ItemKind.int.is a v → s₂.heap.Ns (compEnvC scope cl C env).locals m₂ → m₂ x = some v → (∀ b o, s₁.heap.get? b = some o → s₂.heap.get? b = some o) →
        wpAny (model prog w) A (forIn ifs true fun c r => if r = true then do let ok ← isTrue c (compEnvC scope cl C env) (eval c (compEnvC scope cl C env)); pure (ForInStep.yield ok) else pure (ForInStep.yield r))
          (fun ok s₃ => ok = pz a ∧ Keeps s₂ s₃) E' s₂) ∧
      (∀ C a v s₂ m₂ E', s₁.heap.objs.size ≤ C → a ∈ rangeInts a₀ c₀ n → ItemKind.int.is a v → pz a = true → s₂.heap.Ns (compEnvC scope cl C env).locals m₂ → m₂ x = some v → (∀ b o, s₁.heap.get? b = some o → s₂.heap.get? b = some o) →
        wpAny (model prog w) A (eval elt (compEnvC scope cl C env)) (fun y s₃ => Carried y (d a) ∧ Keeps s₂ s₃) E' s₂) ∧
      (∀ D (ys : List Value) h' tk, Fr h₀ L h' m → News h₀ L h' news → h₀.get? D = none → h'.IsList D ys.toArray → NewPlain h' news D ys.toArray → CarriedAll ys (((rangeInts a₀ c₀ n).filter pz).map d) → Q (.ref D) { s₁ with heap := h', toks := tk }))) E s)
    (hs : ∀ x, foldedSetIterable iter env x = pure x) :
    wpAny (model prog w) A (eval (.ListComp elt [⟨.Name x px, iter, ifs, 0⟩] scope pos) env) Q E s :=
  ListComp_DCr hh hclos hcell hkind hnames hx (wpAny_mono h (fun _ _ x => x.out) fun _ _ x => x) hs
theorem adf_le {d n : Int} {b : Bool} (hd0 : 0 ≤ d) (hd : d < 10 ^ 31) (hn : 1 ≤ n) : ∀ e, e = (if b then d.fdiv 700 else d.fdiv 2) → 0 ≤ e + e.fdiv n ∧ e + e.fdiv n < 10 ^ 31 ∧ adf d b n = adl (e + e.fdiv n) 0 := by
  intro e he
  have h1 : 0 ≤ e ∧ 2 * e ≤ d := by
    rw [he]; simp only [Int.fdiv_eq_ediv_of_nonneg _ (show (0 : Int) ≤ 700 by decide), Int.fdiv_eq_ediv_of_nonneg _ (show (0 : Int) ≤ 2 by decide)]
    split <;> omega
  have h2 : e.fdiv n ≤ e := by
    rw [Int.fdiv_eq_ediv_of_nonneg _ (by omega)]
    exact Int.ediv_le_self _ h1.1
  have h3 : 0 ≤ e.fdiv n := Int.fdiv_nonneg h1.1 (by omega)
  refine ⟨by omega, by omega, ?_⟩
  unfold adf
  rw [he]
  simp only [Int.fdiv_eq_ediv_of_nonneg _ (show (0 : Int) ≤ 700 by decide), Int.fdiv_eq_ediv_of_nonneg _ (show (0 : Int) ≤ 2 by decide), Int.fdiv_eq_ediv_of_nonneg _ (show (0 : Int) ≤ n by omega)]
theorem keeps_same {s s' : Shared} (h : s' = { s with heap := s.heap, toks := s'.toks }) : Keeps s s' := ⟨s.heap, s'.toks, h, fun _ _ e => e⟩
local macro_rules | `(tactic| walk_at "eval ListComp") => `(tactic| refine stop ?_)

theorem bias_k {prog : Program} {w : World} {A : Around} {s : Shared} {Q E : Value → Shared → Prop} {d n : Int} {b : Bool} {t1 t2 : Tok} (G : Gd w s.heap) (r : Rm A 1) (hd0 : 0 ≤ d) (hd1 : d < 10 ^ 31) (hn : 1 ≤ n) (hn2 : n < 1000000)
    (h : ∀ t h' tk', s.heap.StaysIn h' → Q (.int (adf d b n) t) { s with heap := h', toks := tk' }) :
    wpAny (model prog w) A (call (.ref 84) [.int d t1, .bool b, .int n t2]) Q E s := by
  obtain ⟨X, p, loose, mean, mg, mb, T⟩ := G
  refine' enterC (binds := [("delta", .int d t1), ("first", .bool b), ("size", .int n t2)]) ?eX ?eT ?eo ?ec ?er ?eb ?ek1 ?en ?eco ?ege ?ek ?_
  (case eX => k_asm); (case eT => k_asm); (case eo => k_dflt k_is); (case ec => k_dflt k_is); (case er => exact Rm.depth (by assumption)); (case eb => exact BindsTo.of_eq (by with_unfolding_all rfl))
  (case ek1 => intro n x hx; simp only [List.mem_cons, List.not_mem_nil, or_false] at hx; rcases hx with rfl | rfl | rfl <;> exact .inl rfl); (case en => decide); (case eco => exact rfl); (case ege => exact rfl); (case ek => exact rfl)
  intro L h₁ tk cells F N Y
  refine Exists.elim (CellsAre.one Y) fun oc q => ?_
  have e1 := q.1
  have hoc := q.2
  subst e1
  clear q Y
  (try dsimp only)
  have hple := adf_le (b := b) hd0 hd1 hn _ rfl
  refine Exists.elim (cnt35 hple.2.1) fun c hc0 => ?_
  have hc := hc0.resolve_right (by omega)
  clear hc0
  cases b
  · simp only [if_true, if_false, Bool.false_eq_true] at hple hc
    (k_steps; all_goals (repeat' (first | ((with_reducible refine unstop ?_); (first | (with_reducible (first | (((with_reducible refine' floordiv_int ?hb9 ?_ ?hp9); (case hb9 => exact pow35_ne); (case hp9 => exact Or.inl (pow35_np (by omega) (by omega))))) | (((with_reducible refine' floordiv_int ?hb9 ?_ ?hp9); (case hb9 => omega); (case hp9 => exact Or.inl (PyProof.noPylong_small (by omega))))) | fail)) ); k_steps) | fail)))
    unfold Stop
    (with_reducible rename News _ _ _ _ => N8)
    (with_reducible rename Fr _ _ _ _ => F8)
    refine comp_r F8 (pz := gt35 (d.fdiv 2 + (d.fdiv 2).fdiv n)) (d := fun k => .int k) r.hd rfl (by decide) rfl (by decide) rfl ?_ (fun _ => rfl)
    (k_steps; all_goals (repeat' (first | ((with_reducible refine unstop ?_); (first | (with_reducible (first | (((with_reducible refine' floordiv_int ?hb9 ?_ ?hp9); (case hb9 => exact pow35_ne); (case hp9 => exact Or.inl (pow35_np (by omega) (by omega))))) | (((with_reducible refine' floordiv_int ?hb9 ?_ ?hp9); (case hb9 => omega); (case hp9 => exact Or.inl (PyProof.noPylong_small (by omega))))) | fail)) ); k_steps) | fail)))
    (with_reducible rename News _ _ _ _ => N9)
    (with_reducible rename Fr _ _ _ _ => F9)
    (with_reducible rename IsRange _ _ _ _ _ _ _ _ => R9)
    refine Halt.mk ⟨[(L + 1, _)], _, _, _, _, _, _, _, 20, rfl, R9, by decide, by decide, by rw [sizeLine_eq]; decide, F9, N9, ?_, ?_, ?_⟩
    · intro C a v s₂ m₂ E' hC ha hv hns hm hk
      have hcell := hk _ _ (N9 _ (.head _)).1
      have hra := mem_rangeInts ha
      obtain ⟨u, rfl⟩ : ∃ u, v = .int a u := by
        simpa [ItemKind.int] using hv
      simp only [List.forIn_cons, List.forIn_nil, if_true]
      refine wpAny_bind (wpAny_bind ?_)
      (k_steps; all_goals (repeat' (first | ((with_reducible refine unstop ?_); (first | (with_reducible (first | (((with_reducible refine' floordiv_int ?hb9 ?_ ?hp9); (case hb9 => exact pow35_ne); (case hp9 => exact Or.inl (pow35_np (by omega) (by omega))))) | (((with_reducible refine' floordiv_int ?hb9 ?_ ?hp9); (case hb9 => omega); (case hp9 => exact Or.inl (PyProof.noPylong_small (by omega))))) | fail)) ); k_steps) | fail)))
      refine wpAny_pure (wpAny_pure ⟨rfl, ?_⟩)
      exact keeps_same rfl
    · intro C a v s₂ m₂ E' hC ha hv hp hns hm hk
      obtain ⟨u, rfl⟩ : ∃ u, v = .int a u := by
        simpa [ItemKind.int] using hv
      (k_steps; all_goals (repeat' (first | ((with_reducible refine unstop ?_); (first | (with_reducible (first | (((with_reducible refine' floordiv_int ?hb9 ?_ ?hp9); (case hb9 => exact pow35_ne); (case hp9 => exact Or.inl (pow35_np (by omega) (by omega))))) | (((with_reducible refine' floordiv_int ?hb9 ?_ ?hp9); (case hb9 => omega); (case hp9 => exact Or.inl (PyProof.noPylong_small (by omega))))) | fail)) ); k_steps) | fail)))
      · exact .int _ _
      · exact keeps_same rfl
    · intro D ys h5 tk5 F5 N5 hD hL hpl hcar
      have hlen := hcar.length_eq
      rw [List.length_map, hc.2.1] at hlen
      have hz : 0 ≤ (d.fdiv 2 + (d.fdiv 2).fdiv n).fdiv (35 ^ ((((rangeInts 0 1 20).filter (gt35 (d.fdiv 2 + (d.fdiv 2).fdiv n))).length : Nat) : Int).toNat) ∧ (d.fdiv 2 + (d.fdiv 2).fdiv n).fdiv (35 ^ ((((rangeInts 0 1 20).filter (gt35 (d.fdiv 2 + (d.fdiv 2).fdiv n))).length : Nat) : Int).toNat) ≤ 455 := by
        rw [hc.2.1]; exact hc.2.2.2
      have hz2 : (((rangeInts 0 1 20).filter (gt35 (d.fdiv 2 + (d.fdiv 2).fdiv n))).length : Int) ≤ 20 := by rw [hc.2.1]; omega
      have hz3 : 36 * ((((rangeInts 0 1 20).filter (gt35 (d.fdiv 2 + (d.fdiv 2).fdiv n))).length : Nat) : Int) + (36 * (d.fdiv 2 + (d.fdiv 2).fdiv n).fdiv (35 ^ ((((rangeInts 0 1 20).filter (gt35 (d.fdiv 2 + (d.fdiv 2).fdiv n))).length : Nat) : Int).toNat)).fdiv ((d.fdiv 2 + (d.fdiv 2).fdiv n).fdiv (35 ^ ((((rangeInts 0 1 20).filter (gt35 (d.fdiv 2 + (d.fdiv 2).fdiv n))).length : Nat) : Int).toNat) + 38) = adf d false n := by
        rw [hc.2.1, hple.2.2, hc.2.2.1]; rfl
      clear hc hlen
      (k_steps; all_goals (repeat' (first | ((with_reducible refine unstop ?_); (first | (with_reducible (first | (((with_reducible refine' floordiv_int ?hb9 ?_ ?hp9); (case hb9 => exact pow35_ne); (case hp9 => exact Or.inl (pow35_np (by omega) (by omega))))) | (((with_reducible refine' floordiv_int ?hb9 ?_ ?hp9); (case hb9 => omega); (case hp9 => exact Or.inl (PyProof.noPylong_small (by omega))))) | fail)) ); k_steps) | fail)))
      exact Eq.mp (congrArg (fun x => Q (Value.int x _) _) hz3.symm) (h _ _ _ (Fr.stays (by assumption)))
  · simp only [if_true, if_false, Bool.false_eq_true] at hple hc
    (k_steps; all_goals (repeat' (first | ((with_reducible refine unstop ?_); (first | (with_reducible (first | (((with_reducible refine' floordiv_int ?hb9 ?_ ?hp9); (case hb9 => exact pow35_ne); (case hp9 => exact Or.inl (pow35_np (by omega) (by omega))))) | (((with_reducible refine' floordiv_int ?hb9 ?_ ?hp9); (case hb9 => omega); (case hp9 => exact Or.inl (PyProof.noPylong_small (by omega))))) | fail)) ); k_steps) | fail)))
    unfold Stop
    (with_reducible rename News _ _ _ _ => N8)
    (with_reducible rename Fr _ _ _ _ => F8)
    refine comp_r F8 (pz := gt35 (d.fdiv 700 + (d.fdiv 700).fdiv n)) (d := fun k => .int k) r.hd rfl (by decide) rfl (by decide) rfl ?_ (fun _ => rfl)
    (k_steps; all_goals (repeat' (first | ((with_reducible refine unstop ?_); (first | (with_reducible (first | (((with_reducible refine' floordiv_int ?hb9 ?_ ?hp9); (case hb9 => exact pow35_ne); (case hp9 => exact Or.inl (pow35_np (by omega) (by omega))))) | (((with_reducible refine' floordiv_int ?hb9 ?_ ?hp9); (case hb9 => omega); (case hp9 => exact Or.inl (PyProof.noPylong_small (by omega))))) | fail)) ); k_steps) | fail)))
    (with_reducible rename News _ _ _ _ => N9)
    (with_reducible rename Fr _ _ _ _ => F9)
    (with_reducible rename IsRange _ _ _ _ _ _ _ _ => R9)
    refine Halt.mk ⟨[(L + 1, _)], _, _, _, _, _, _, _, 20, rfl, R9, by decide, by decide, by rw [sizeLine_eq]; decide, F9, N9, ?_, ?_, ?_⟩
    · intro C a v s₂ m₂ E' hC ha hv hns hm hk
      have hcell := hk _ _ (N9 _ (.head _)).1
      have hra := mem_rangeInts ha
      obtain ⟨u, rfl⟩ : ∃ u, v = .int a u := by
        simpa [ItemKind.int] using hv
      simp only [List.forIn_cons, List.forIn_nil, if_true]
      refine wpAny_bind (wpAny_bind ?_)
      (k_steps; all_goals (repeat' (first | ((with_reducible refine unstop ?_); (first | (with_reducible (first | (((with_reducible refine' floordiv_int ?hb9 ?_ ?hp9); (case hb9 => exact pow35_ne); (case hp9 => exact Or.inl (pow35_np (by omega) (by omega))))) | (((with_reducible refine' floordiv_int ?hb9 ?_ ?hp9); (case hb9 => omega); (case hp9 => exact Or.inl (PyProof.noPylong_small (by omega))))) | fail)) ); k_steps) | fail)))
      refine wpAny_pure (wpAny_pure ⟨rfl, ?_⟩)
      exact keeps_same rfl
    · intro C a v s₂ m₂ E' hC ha hv hp hns hm hk
      obtain ⟨u, rfl⟩ : ∃ u, v = .int a u := by
        simpa [ItemKind.int] using hv
      (k_steps; all_goals (repeat' (first | ((with_reducible refine unstop ?_); (first | (with_reducible (first | (((with_reducible refine' floordiv_int ?hb9 ?_ ?hp9); (case hb9 => exact pow35_ne); (case hp9 => exact Or.inl (pow35_np (by omega) (by omega))))) | (((with_reducible refine' floordiv_int ?hb9 ?_ ?hp9); (case hb9 => omega); (case hp9 => exact Or.inl (PyProof.noPylong_small (by omega))))) | fail)) ); k_steps) | fail)))
      · exact .int _ _
      · exact keeps_same rfl
    · intro D ys h5 tk5 F5 N5 hD hL hpl hcar
      have hlen := hcar.length_eq
      rw [List.length_map, hc.2.1] at hlen
      have hz : 0 ≤ (d.fdiv 700 + (d.fdiv 700).fdiv n).fdiv (35 ^ ((((rangeInts 0 1 20).filter (gt35 (d.fdiv 700 + (d.fdiv 700).fdiv n))).length : Nat) : Int).toNat) ∧ (d.fdiv 700 + (d.fdiv 700).fdiv n).fdiv (35 ^ ((((rangeInts 0 1 20).filter (gt35 (d.fdiv 700 + (d.fdiv 700).fdiv n))).length : Nat) : Int).toNat) ≤ 455 := by
        rw [hc.2.1]; exact hc.2.2.2
      have hz2 : (((rangeInts 0 1 20).filter (gt35 (d.fdiv 700 + (d.fdiv 700).fdiv n))).length : Int) ≤ 20 := by rw [hc.2.1]; omega
      have hz3 : 36 * ((((rangeInts 0 1 20).filter (gt35 (d.fdiv 700 + (d.fdiv 700).fdiv n))).length : Nat) : Int) + (36 * (d.fdiv 700 + (d.fdiv 700).fdiv n).fdiv (35 ^ ((((rangeInts 0 1 20).filter (gt35 (d.fdiv 700 + (d.fdiv 700).fdiv n))).length : Nat) : Int).toNat)).fdiv ((d.fdiv 700 + (d.fdiv 700).fdiv n).fdiv (35 ^ ((((rangeInts 0 1 20).filter (gt35 (d.fdiv 700 + (d.fdiv 700).fdiv n))).length : Nat) : Int).toNat) + 38) = adf d true n := by
        rw [hc.2.1, hple.2.2, hc.2.2.1]; rfl
      clear hc hlen
      (k_steps; all_goals (repeat' (first | ((with_reducible refine unstop ?_); (first | (with_reducible (first | (((with_reducible refine' floordiv_int ?hb9 ?_ ?hp9); (case hb9 => exact pow35_ne); (case hp9 => exact Or.inl (pow35_np (by omega) (by omega))))) | (((with_reducible refine' floordiv_int ?hb9 ?_ ?hp9); (case hb9 => omega); (case hp9 => exact Or.inl (PyProof.noPylong_small (by omega))))) | fail)) ); k_steps) | fail)))
      exact Eq.mp (congrArg (fun x => Q (Value.int x _) _) hz3.symm) (h _ _ _ (Fr.stays (by assumption)))
end Mine
end
-- part LR
section
open PySem PySem.W PyProof.Rows
set_option maxRecDepth 100000
namespace Mine
/-- what a ledger says of lists -/
def ML (M : List (Addr × Obj)) (a : Addr) (its : Array Value) : Prop := ∃ o, (a, o) ∈ M ∧ o.cls = .type "list" ∧ ∃ n, o.data = .seq its n
/-- a reader of lists, with more made -/
def Or2 (M : List (Addr × Obj)) (R : Addr → Array Value → Prop) (a : Addr) (its : Array Value) : Prop := ML M a its ∨ R a its
/-- all of M is new -/
def Made (h h' : Heap) (M : List (Addr × Obj)) : Prop := ∀ p ∈ M, h'.get? p.1 = some p.2 ∧ h.get? p.1 = none
abbrev Rd := Addr → Array Value → Prop
def Rd.At (R : Rd) (h : Heap) : Prop := ∀ a its, R a its → h.IsList a its

theorem ML.mono {M M' : List (Addr × Obj)} {a : Addr} {its : Array Value} (k : ∀ p ∈ M, p ∈ M') : ML M a its → ML M' a its := fun ⟨o, h, r⟩ => ⟨o, k _ h, r⟩
theorem ML.head {M : List (Addr × Obj)} {a : Addr} {its : Array Value} {n : Nat} : ML ((a, listOf its n) :: M) a its := ⟨_, .head _, rfl, n, rfl⟩
theorem ML.tail {M : List (Addr × Obj)} {a : Addr} {its : Array Value} {p : Addr × Obj} : ML M a its → ML (p :: M) a its := .mono fun _ h => .tail _ h
theorem ML.left {M M' : List (Addr × Obj)} {a : Addr} {its : Array Value} : ML M a its → ML (M ++ M') a its := .mono fun _ h => List.mem_append.mpr (.inl h)
theorem ML.right {M M' : List (Addr × Obj)} {a : Addr} {its : Array Value} : ML M' a its → ML (M ++ M') a its := .mono fun _ h => List.mem_append.mpr (.inr h)
theorem ML.at {M : List (Addr × Obj)} {h₀ h : Heap} {L : Addr} (N : News h₀ L h M) : Rd.At (ML M) h := fun _ _ ⟨o, hm, hc, n, hd⟩ => ⟨o, (N _ hm).1, hc, n, hd⟩
theorem Or2.at {M : List (Addr × Obj)} {h₀ h : Heap} {L : Addr} {m : Str → Option Value} {R : Rd} (F : Fr h₀ L h m) (N : News h₀ L h M) (hR : R.At h₀) : Rd.At (Or2 M R) h := fun a its x =>
  x.elim (ML.at N a its) fun x => stays_list F.keep (hR a its x)
theorem Rd.At.stays {R : Rd} {h h' : Heap} (hR : R.At h) (k : h.StaysIn h') : R.At h' := fun a its x => stays_list k (hR a its x)
theorem made_news {h₀ h h' : Heap} {L : Addr} {m : Str → Option Value} {M news : List (Addr × Obj)} (F : Fr h₀ L h m) (N : News h₀ L h news) (k : h.StaysIn h') (D : Made h h' M) : News h₀ L h' (M ++ news) := fun p hp => by
  rcases List.mem_append.mp hp with hp | hp
  · have q := D p hp
    refine ⟨q.1, fun z => ?_, ?_⟩
    · obtain ⟨o', _, _, ho, _⟩ := F.ns
      rw [z, ho] at q; cases q.2
    · cases e : h₀.get? p.1 with
      | none => rfl
      | some o => have := F.keep _ _ e; rw [q.2] at this; cases this
  · exact ⟨k _ _ (N p hp).1, (N p hp).2⟩
theorem news_made {h₀ h : Heap} {L : Addr} {M : List (Addr × Obj)} (N : News h₀ L h M) : Made h₀ h M := fun p hp => ⟨(N p hp).1, (N p hp).2.2⟩
theorem Made.sub {h h' : Heap} {M M' : List (Addr × Obj)} (D : Made h h' M) (k : ∀ p ∈ M', p ∈ M) : Made h h' M' := fun p hp => D p (k p hp)

structure RSt where
  ns : List Int
  v : Int
  w : Int
  p : Int
  b : Int
/-- a list of ints -/
def IntsR (R : Rd) (a : Addr) (ns : List Int) : Prop := ∃ vs, R a (List.toArray vs) ∧ IntsAre vs ns
/-- a state of the reading -/
def StR (R : Rd) (a : Addr) (st : RSt) : Prop := ∃ ln t1 t2 t3 t4, R a #[.ref ln, .int st.v t1, .int st.w t2, .int st.p t3, .int st.b t4] ∧ IntsR R ln st.ns
theorem IntsR.mono {R R' : Rd} {a : Addr} {ns : List Int} (k : ∀ a its, R a its → R' a its) : IntsR R a ns → IntsR R' a ns := fun ⟨vs, h, r⟩ => ⟨vs, k _ _ h, r⟩
theorem StR.mono {R R' : Rd} {a : Addr} {st : RSt} (k : ∀ a its, R a its → R' a its) : StR R a st → StR R' a st := fun ⟨ln, t1, t2, t3, t4, h, r⟩ => ⟨ln, t1, t2, t3, t4, k _ _ h, r.mono k⟩
/-- a list of states -/
def StsR (R : Rd) (a : Addr) (sts : List RSt) : Prop := ∃ as : List Addr, R a (as.map Value.ref).toArray ∧ as.length = sts.length ∧ ∀ (i : Nat) b st, as[i]? = some b → sts[i]? = some st → StR R b st
theorem StsR.mono {R R' : Rd} {a : Addr} {sts : List RSt} (k : ∀ a its, R a its → R' a its) : StsR R a sts → StsR R' a sts := fun ⟨as, h, hl, r⟩ => ⟨as, k _ _ h, hl, fun i b st h1 h2 => (r i b st h1 h2).mono k⟩

def figL (o : Int) : Int := if o > 96 then o - 97 else o - 22
def bndL (p b : Int) : Int := max 1 (min 26 (36 * (p + 1) - b))
def rdF (z : Int) (adf : Int → Bool → Int → Int) (st : RSt) (o : Int) : RSt :=
  if bndL st.p st.b ≤ figL o then ⟨st.ns, st.v + figL o * st.w, st.w * (36 - bndL st.p st.b), st.p + 1, st.b⟩
  else ⟨st.ns ++ [st.v + figL o * st.w], 0, 1, 0, adf (st.v + figL o * st.w) st.ns.isEmpty (z + st.ns.length + 1)⟩
end Mine
end
-- part FC
section
open PySem PySem.W PyProof.Rows
namespace Mine
theorem anewFC {M : Model} {A : Around} {E : Value → Shared → Prop} {s : Shared} {Q : Nat → Shared → Prop} (h : Q 0 s) : wpAny M A (pure 0) Q E s := by
  first | (walk1; exact h) | exact wpAny_pure h
end Mine
end
section
open PySem PySem.W PyProof.Rows
set_option maxRecDepth 100000
set_option maxHeartbeats 1000000
namespace Mine
theorem fill12 : PySem.Challenge.rw_ny0167_01 = PySem.Challenge.rw_ny0167_01 ∧ MineHd.hd.heap_1 = MineHd.hd.heap_1 := by
  k_fill
  exact ⟨rfl, rfl⟩
local macro_rules | `(tactic| walk_at "call ref") => `(tactic| refine stop ?_)
local macro_rules | `(tactic| walk_at "assign Tuple") => `(tactic| refine stop ?_)

section
variable {prog : Program} {w : World} {A : Around} {E : Value → Shared → Prop} {s : Shared} {h₀ : Heap} {L : Addr} {m : Str → Option Value} {news : List (Addr × Obj)}
theorem max_w {a b : Int} {t u : Tok} {Q : Value → Shared → Prop} (hh : A.handled = none) (F : Fr h₀ L s.heap m) (N : News h₀ L s.heap news)
    (h : ∀ h' tk t', Fr h₀ L h' m → News h₀ L h' news → Q (.int (max a b) t') { s with heap := h', toks := tk }) :
    wpAny (model prog w) A (call (.builtin "max") [.int a t, .int b u]) Q E s :=
  max_two_N hh F N fun h' tk F' N' => by
    have : (if b > a then b else a) = max a b := by omega
    rw [this]; exact h h' tk _ F' N'
theorem min_w {a b : Int} {t u : Tok} {Q : Value → Shared → Prop} (hh : A.handled = none) (F : Fr h₀ L s.heap m) (N : News h₀ L s.heap news)
    (h : ∀ h' tk t', Fr h₀ L h' m → News h₀ L h' news → Q (.int (min a b) t') { s with heap := h', toks := tk }) :
    wpAny (model prog w) A (call (.builtin "min") [.int a t, .int b u]) Q E s :=
  min_two_N hh F N fun h' tk F' N' => by
    have : (if b < a then b else a) = min a b := by omega
    rw [this]; exact h h' tk _ F' N'
end
local macro_rules | `(tactic| walk_at "call builtin:max") => `(tactic| refine stop ?_)
local macro_rules | `(tactic| walk_at "call builtin:min") => `(tactic| refine stop ?_)
local macro_rules | `(tactic| walk_at "compareOp Eq ref ref") => `(tactic| refine stop ?_)

theorem rd_end {z v wv pl b x o : Int} {ns : List Int} (h : figL o < bndL pl b) (e : figL o = x) : rdF z adf ⟨ns, v, wv, pl, b⟩ o = ⟨ns ++ [v + x * wv], 0, 1, 0, adf (v + x * wv) (decide (ns = [])) (z + ns.length + 1)⟩ := by
  subst e
  unfold rdF
  rw [if_neg (by dsimp only; omega)]
  have : ns.isEmpty = decide (ns = []) := by cases ns <;> simp
  simp [this]
theorem rd_go {z v wv pl b x o : Int} {ns : List Int} (h : ¬ figL o < bndL pl b) (e : figL o = x) : rdF z adf ⟨ns, v, wv, pl, b⟩ o = ⟨ns, v + x * wv, wv * (36 - min 26 (max 1 (36 * pl + 36 - b))), pl + 1, b⟩ := by
  subst e
  unfold rdF
  rw [if_pos (by dsimp only; omega)]
  have : bndL pl b = min 26 (max 1 (36 * pl + 36 - b)) := by unfold bndL; omega
  simp [this]
theorem read_k {prog : Program} {w : World} {A : Around} {s : Shared} {Q E : Value → Shared → Prop} {l : Addr} {R : Rd} {st : RSt} {o z : Int} {t1 t2 : Tok}
    (G : Gd w s.heap) (r : Rm A 3) (hR : R.At s.heap) (hs : StR R l st) (hlen : st.ns.length ≤ 20) (ho : 48 ≤ o ∧ o ≤ 57 ∨ 97 ≤ o ∧ o ≤ 122) (hz0 : 0 ≤ z) (hz : z < 1000) (hv : figL o < bndL st.p st.b → 0 ≤ st.v + figL o * st.w ∧ st.v + figL o * st.w < 10 ^ 31)
    (h : ∀ a M h' tk', s.heap.StaysIn h' → Made s.heap h' M → StR (Or2 M R) a (rdF z adf st o) → Q (.ref a) { s with heap := h', toks := tk' }) :
    wpAny (model prog w) A (call (.ref 91) [.ref l, .int o t1, .int z t2]) Q E s := by
  obtain ⟨X, p, loose, mean, mg, mb, T⟩ := id G
  obtain ⟨ns, v, wv, pl, b⟩ := st
  obtain ⟨ln, u1, u2, u3, u4, hl', vs, hln', hi⟩ := hs
  dsimp only at hl' hi hlen hv
  have hl := hR _ _ hl'
  have hln := hR _ _ hln'
  refine' enterF (binds := [("state", .ref l), ("octet", .int o t1), ("size", .int z t2)]) ?eX ?eT ?eo ?ec ?er ?eb ?el ?eco ?ege ?ek ?ece ?_
  ((case eX => k_asm); (case eT => k_asm); (case eo => k_dflt k_is); (case ec => k_dflt k_is); (case er => exact Rm.depth (by assumption)); (case eb => exact BindsTo.of_eq (by with_unfolding_all rfl)); (case el => exact locs rfl); (case eco => exact rfl); (case ege => exact rfl); (case ek => exact rfl); (case ece => decide); k_whole)
  intro L h₁ tk F N
  (try dsimp only)
  have hfb : figL o = if o > 96 then o - 97 else o - 22 := rfl
  have hbd : bndL pl b = max 1 (min 26 (36 * (pl + 1) - b)) := rfl
  by_cases hc : figL o < bndL pl b
  · have hv' := hv hc
    have h97 : o > 96 := by omega
    rw [if_pos h97] at hfb
    rw [hfb] at hv'
    (k_steps; all_goals (repeat' (first | ((with_reducible refine unstop ?_); (first | (with_reducible (first | ((k_here; (with_reducible refine' bias_k ?g9 ?r9 ?a9 ?b9 ?c9 ?d9 ?_); (case g9 => exact Gd.keeps (by assumption) (Fr.stays (by assumption))); (case r9 => exact Rm.to (by assumption) (by decide)); (case a9 => exact And.left (by assumption)); (case b9 => exact And.right (by assumption)); (case c9 => omega); (case d9 => omega); intro zzt9 zzh9 zztk9 zzk9; (have zzF9 := Fr.grow (by assumption) zzk9); (have zzN9 := News.grow (by assumption) zzk9); (try k_sweep))) | ((k_here; k_dflt ((refine' ke_eq_ints ?k0 ?k1 ?k2 ?k3 ?k4 ?_; (case k0 => is_list); (case k1 => is_list); (case k2 => l_ints); (case k3 => l_ints); (case k4 => exact Rm.units (Rm.to (m := 0) (by assumption) (by decide))))))) | ((k_here; (refine' min_w ?k0 ?k1 ?k2 ?_; (case k0 => exact Rm.hd (Rm.to (m := 0) (by assumption) (by decide))); (case k1 => k_asm); (case k2 => k_asm); k_whole); intro zzh' zztk' zzt' zzF' zzN'; (try k_sweep))) | ((k_here; (refine' max_w ?k0 ?k1 ?k2 ?_; (case k0 => exact Rm.hd (Rm.to (m := 0) (by assumption) (by decide))); (case k1 => k_asm); (case k2 => k_asm); k_whole); intro zzh' zztk' zzt' zzF' zzN'; (try k_sweep))) | ((k_here; (with_reducible show wpAny _ _ (assign (Expr.Tuple _ _ _) _ (Value.ref _)) _ _ _); (first | k_dflt (refine' kun_list ?k1 ?k2 ?k3 ?k4 ?k5 ?k6 ?_; (case k1 => k_asm); (case k2 => k_asm); (case k3 => exact stays_list (Fr.stays (by assumption)) (by assumption)); (case k4 => exact Rm.hd (Rm.to (m := 0) (by assumption) (by decide))); (case k5 => exact rfl); (case k6 => exact rfl); k_whole) | k_dflt (refine' unpackN_ ?k1 ?k2 ?k3 ?k4 ?k5 ?k6 ?_; (case k1 => k_asm); (case k2 => k_asm); (case k3 => kun_tup); (case k4 => exact Rm.hd (Rm.to (m := 0) (by assumption) (by decide))); (case k5 => exact rfl); (case k6 => exact rfl); k_whole)); intro zzh' zzF' zzN'; (try k_sweep))) | fail)) ); k_steps) | fail)))
    (with_reducible rename News _ _ _ _ => N8)
    (with_reducible rename Fr _ _ _ _ => F8)
    refine h _ _ _ _ (Fr.stays F8) (news_made N8) ?_
    rw [rd_end hc hfb]
    exact ⟨_, _, _, _, _, .inl ⟨_, .head _, rfl, _, rfl⟩, _, .inl ⟨_, .tail _ (.tail _ (.head _)), rfl, _, rfl⟩, by assumption⟩
  · by_cases h97 : o > 96
    · rw [if_pos h97] at hfb
      (k_steps; all_goals (repeat' (first | ((with_reducible refine unstop ?_); (first | (with_reducible (first | ((k_here; (with_reducible refine' bias_k ?g9 ?r9 ?a9 ?b9 ?c9 ?d9 ?_); (case g9 => exact Gd.keeps (by assumption) (Fr.stays (by assumption))); (case r9 => exact Rm.to (by assumption) (by decide)); (case a9 => exact And.left (by assumption)); (case b9 => exact And.right (by assumption)); (case c9 => omega); (case d9 => omega); intro zzt9 zzh9 zztk9 zzk9; (have zzF9 := Fr.grow (by assumption) zzk9); (have zzN9 := News.grow (by assumption) zzk9); (try k_sweep))) | ((k_here; k_dflt ((refine' ke_eq_ints ?k0 ?k1 ?k2 ?k3 ?k4 ?_; (case k0 => is_list); (case k1 => is_list); (case k2 => l_ints); (case k3 => l_ints); (case k4 => exact Rm.units (Rm.to (m := 0) (by assumption) (by decide))))))) | ((k_here; (refine' min_w ?k0 ?k1 ?k2 ?_; (case k0 => exact Rm.hd (Rm.to (m := 0) (by assumption) (by decide))); (case k1 => k_asm); (case k2 => k_asm); k_whole); intro zzh' zztk' zzt' zzF' zzN'; (try k_sweep))) | ((k_here; (refine' max_w ?k0 ?k1 ?k2 ?_; (case k0 => exact Rm.hd (Rm.to (m := 0) (by assumption) (by decide))); (case k1 => k_asm); (case k2 => k_asm); k_whole); intro zzh' zztk' zzt' zzF' zzN'; (try k_sweep))) | ((k_here; (with_reducible show wpAny _ _ (assign (Expr.Tuple _ _ _) _ (Value.ref _)) _ _ _); (first | k_dflt (refine' kun_list ?k1 ?k2 ?k3 ?k4 ?k5 ?k6 ?_; (case k1 => k_asm); (case k2 => k_asm); (case k3 => exact stays_list (Fr.stays (by assumption)) (by assumption)); (case k4 => exact Rm.hd (Rm.to (m := 0) (by assumption) (by decide))); (case k5 => exact rfl); (case k6 => exact rfl); k_whole) | k_dflt (refine' unpackN_ ?k1 ?k2 ?k3 ?k4 ?k5 ?k6 ?_; (case k1 => k_asm); (case k2 => k_asm); (case k3 => kun_tup); (case k4 => exact Rm.hd (Rm.to (m := 0) (by assumption) (by decide))); (case k5 => exact rfl); (case k6 => exact rfl); k_whole)); intro zzh' zzF' zzN'; (try k_sweep))) | fail)) ); k_steps) | fail)))
      (with_reducible rename News _ _ _ _ => N8)
      (with_reducible rename Fr _ _ _ _ => F8)
      refine h _ _ _ _ (Fr.stays F8) (news_made N8) ?_
      rw [rd_go hc hfb]
      exact ⟨_, _, _, _, _, .inl ⟨_, .head _, rfl, _, rfl⟩, _, .inr hln', hi⟩
    · rw [if_neg h97] at hfb
      (k_steps; all_goals (repeat' (first | ((with_reducible refine unstop ?_); (first | (with_reducible (first | ((k_here; (with_reducible refine' bias_k ?g9 ?r9 ?a9 ?b9 ?c9 ?d9 ?_); (case g9 => exact Gd.keeps (by assumption) (Fr.stays (by assumption))); (case r9 => exact Rm.to (by assumption) (by decide)); (case a9 => exact And.left (by assumption)); (case b9 => exact And.right (by assumption)); (case c9 => omega); (case d9 => omega); intro zzt9 zzh9 zztk9 zzk9; (have zzF9 := Fr.grow (by assumption) zzk9); (have zzN9 := News.grow (by assumption) zzk9); (try k_sweep))) | ((k_here; k_dflt ((refine' ke_eq_ints ?k0 ?k1 ?k2 ?k3 ?k4 ?_; (case k0 => is_list); (case k1 => is_list); (case k2 => l_ints); (case k3 => l_ints); (case k4 => exact Rm.units (Rm.to (m := 0) (by assumption) (by decide))))))) | ((k_here; (refine' min_w ?k0 ?k1 ?k2 ?_; (case k0 => exact Rm.hd (Rm.to (m := 0) (by assumption) (by decide))); (case k1 => k_asm); (case k2 => k_asm); k_whole); intro zzh' zztk' zzt' zzF' zzN'; (try k_sweep))) | ((k_here; (refine' max_w ?k0 ?k1 ?k2 ?_; (case k0 => exact Rm.hd (Rm.to (m := 0) (by assumption) (by decide))); (case k1 => k_asm); (case k2 => k_asm); k_whole); intro zzh' zztk' zzt' zzF' zzN'; (try k_sweep))) | ((k_here; (with_reducible show wpAny _ _ (assign (Expr.Tuple _ _ _) _ (Value.ref _)) _ _ _); (first | k_dflt (refine' kun_list ?k1 ?k2 ?k3 ?k4 ?k5 ?k6 ?_; (case k1 => k_asm); (case k2 => k_asm); (case k3 => exact stays_list (Fr.stays (by assumption)) (by assumption)); (case k4 => exact Rm.hd (Rm.to (m := 0) (by assumption) (by decide))); (case k5 => exact rfl); (case k6 => exact rfl); k_whole) | k_dflt (refine' unpackN_ ?k1 ?k2 ?k3 ?k4 ?k5 ?k6 ?_; (case k1 => k_asm); (case k2 => k_asm); (case k3 => kun_tup); (case k4 => exact Rm.hd (Rm.to (m := 0) (by assumption) (by decide))); (case k5 => exact rfl); (case k6 => exact rfl); k_whole)); intro zzh' zzF' zzN'; (try k_sweep))) | fail)) ); k_steps) | fail)))
      (with_reducible rename News _ _ _ _ => N8)
      (with_reducible rename Fr _ _ _ _ => F8)
      refine h _ _ _ _ (Fr.stays F8) (news_made N8) ?_
      rw [rd_go hc hfb]
      exact ⟨_, _, _, _, _, .inl ⟨_, .head _, rfl, _, rfl⟩, _, .inr hln', hi⟩
end Mine
end
-- part LL
section
open PySem PySem.W PyProof.Rows
set_option maxRecDepth 100000
namespace Mine
def isLo (o : Obj) : Bool := match o.cls with | .type c => c == "list" | _ => false
theorem ML.filter {M : List (Addr × Obj)} {a : Addr} {its : Array Value} : ML M a its → ML (M.filter fun p => isLo p.2) a its := fun ⟨o, hm, hc, r⟩ =>
  ⟨o, List.mem_filter.mpr ⟨hm, by show isLo o = true; unfold isLo; rw [hc]; rfl⟩, hc, r⟩
/-- what one turn of a loop hands on -/
def Gx (s : Shared) (h₀ : Heap) (L : Addr) (own : List (Addr × Obj)) (J : (Str → Option Value) → Rd → Prop) (s' : Shared) : Prop :=
  ∃ h' tk' m' news', s' = { s with heap := h', toks := tk' } ∧ Fr h₀ L h' m' ∧ News h₀ L h' news' ∧ (∀ p ∈ own, p ∈ news') ∧ J m' (ML news')
section
variable {prog : Program} {w : World} {A : Around} {E : Value → Shared → Prop} {s : Shared} {env : Env} {h₀ : Heap} {x : Str} {body : List Stmt} {Q : Flow → Shared → Prop}
/-- a for whose turns make lists that stay -/
theorem for_L {I : Addr} {fp : List Addr} {n : Nat} {P : Nat → Value → Prop} {St : Nat → Heap → Prop} {m₀ : Str → Option Value} {news : List (Addr × Obj)} (J : Nat → (Str → Option Value) → Rd → Prop)
    (hJ : ∀ i m (R R' : Rd), (∀ a its, R a its → R' a its) → J i m R → J i m R')
    (W : Walks prog w A I fp [I] n P St) (hIf : I ∈ fp) (hLf : env.locals ∉ fp) (hI0 : h₀.get? I = none) (hcl : ∀ i h, St i h → ∃ o, h.get? I = some o ∧ isLo o = false) (hst : St 0 s.heap) (F : Fr h₀ env.locals s.heap m₀) (N : News h₀ env.locals s.heap news) (hj : J 0 m₀ (ML news))
    (turn : ∀ i v m₁ news₁ own h tk, i < n → P i v → J i m₁ (ML news₁) → Fr h₀ env.locals h (fun y => if y = x then some v else m₁ y) → News h₀ env.locals h news₁ → (∀ p ∈ own, p ∈ news₁) →
      wpAny (model prog w) A (execs body env) (fun f s' => match f with | .next => Halt (Gx s h₀ env.locals own (J (i + 1)) s') | .cont => Halt (Gx s h₀ env.locals own (J (i + 1)) s') | .brk => Q .next s' | .ret v => Q (.ret v) s') E { s with heap := h, toks := tk })
    (done : ∀ m₁ news₁ h tk, J n m₁ (ML news₁) → Fr h₀ env.locals h m₁ → News h₀ env.locals h news₁ → Q .next { s with heap := h, toks := tk }) :
    LoopAtV prog w A h₀ env x body Q E (.ref I) s := by
  refine ⟨I, fp, [I], n, P, St, m₀, news.filter (fun p => isLo p.2), fun i m ns => J i m (ML ns), rfl, W, hLf, (fun b hb => by rw [List.mem_singleton.mp hb]; exact hI0), ?_, hst, F, (fun p hp => N p (List.mem_filter.mp hp).1), hJ _ _ _ _ (fun _ _ => ML.filter) hj, ?_, ?_⟩
  · intro p hp hI
    have hp := List.mem_filter.mp hp
    obtain ⟨o, ho, hc⟩ := hcl _ _ hst
    have e := (N p hp.1).1
    rw [List.mem_singleton.mp hI, ho] at e
    cases e
    rw [hc] at hp; cases hp.2
  · rintro i v m₁ news₁ s₁ own ⟨hh', tk', rfl⟩ hin hP hJi hoff hown hget hall hst₁ F₁ N₁
    obtain ⟨oI, hoI, hcI⟩ := hcl _ _ hst₁
    have hIo := hall I hIf hI0 oI hoI
    refine wpAny_mono (turn i v m₁ (own ++ news₁) own hh' tk' hin hP (hJ _ _ _ _ (fun _ _ => ML.right) hJi) F₁ N₁ (fun p hp => List.mem_append.mpr (.inl hp))) (fun f s₂ p => ?_) fun _ _ e => e
    have fin : Halt (Gx s h₀ env.locals own (J (i + 1)) s₂) → LoopStepU h₀ env.locals [I] own (fun m ns => J (i + 1) m (ML ns)) { s with heap := hh', toks := tk' } .next s₂ := by
      rintro ⟨h', tk, m', news', rfl, F', N', ho, hm⟩
      refine ⟨rfl, h', tk, m', news'.filter (fun p => isLo p.2), rfl, F', fun p hp => N' p ((List.mem_append.mp hp).elim (ho p) fun hp => (List.mem_filter.mp hp).1), fun p hp hI => ?_, hJ _ _ _ _ (fun _ _ => ML.filter) hm⟩
      have hp := List.mem_filter.mp hp
      have e := (N' p hp.1).1
      have e2 := (N' _ (ho _ hIo)).1
      rw [List.mem_singleton.mp hI, e2] at e
      cases e
      rw [hcI] at hp; cases hp.2
    cases f with
    | ret v => exact .ret p
    | brk => exact .brk p
    | next => exact .next (fin p)
    | cont => exact .cont (fin p)
  · rintro h' tk m' news' F' N' _ hJ'
    exact done m' news' h' tk hJ' F' N'

theorem for_bytes {b : Array UInt8} {tb : Tok} {m₀ : Str → Option Value} {news : List (Addr × Obj)} (J : Nat → (Str → Option Value) → Rd → Prop)
    (hJ : ∀ i m (R R' : Rd), (∀ a its, R a its → R' a its) → J i m R → J i m R') (hh : A.handled = none) (F : Fr h₀ env.locals s.heap m₀) (N : News h₀ env.locals s.heap news) (hj : J 0 m₀ (ML news))
    (turn : ∀ i c u m₁ news₁ own h tk, b[i]? = some c → J i m₁ (ML news₁) → Fr h₀ env.locals h (fun y => if y = x then some (.int (c.toNat : Int) u) else m₁ y) → News h₀ env.locals h news₁ → (∀ p ∈ own, p ∈ news₁) →
      wpAny (model prog w) A (execs body env) (fun f s' => match f with | .next => Halt (Gx s h₀ env.locals own (J (i + 1)) s') | .cont => Halt (Gx s h₀ env.locals own (J (i + 1)) s') | .brk => Q .next s' | .ret v => Q (.ret v) s') E { s with heap := h, toks := tk })
    (done : ∀ m₁ news₁ h tk, J b.size m₁ (ML news₁) → Fr h₀ env.locals h m₁ → News h₀ env.locals h news₁ → Q .next { s with heap := h, toks := tk }) :
    wpAny (model prog w) A (pyIter (.bytes b tb)) (fun it s₂ => LoopAtV prog w A h₀ env x body Q E it s₂) E s := by
  refine KBw.pyIter_bytes ?_
  have W := KBw.walks (prog := prog) (w := w) hh s.heap.objs.size b tb
  refine for_L J hJ W (.head _) ?_ (next_is_new F) ?_ ⟨_, Heap.get?_push_size _ rfl, rfl, rfl⟩ (F.push _) (fun p hp => ⟨Heap.get?_push_of_some _ (N p hp).1, (N p hp).2⟩) hj ?_ ?_
  · intro hm
    exact absurd F.ns.lt ((List.mem_singleton.mp hm) ▸ Nat.lt_irrefl _)
  · rintro i h ⟨o, ho, hc, _⟩
    exact ⟨o, ho, by unfold isLo; rw [hc]; rfl⟩
  · rintro i v m₁ news₁ own h tk hi ⟨c, u, hc, rfl⟩ hJi F₁ N₁ ho
    exact turn i c u m₁ news₁ own h tk hc hJi F₁ N₁ ho
  · exact done

theorem for_list {l : Addr} {items : Array Value} {m₀ : Str → Option Value} {news : List (Addr × Obj)} (J : Nat → (Str → Option Value) → Rd → Prop)
    (hJ : ∀ i m (R R' : Rd), (∀ a its, R a its → R' a its) → J i m R → J i m R') (hh : A.handled = none) (hl : h₀.IsList l items) (F : Fr h₀ env.locals s.heap m₀) (N : News h₀ env.locals s.heap news) (hj : J 0 m₀ (ML news))
    (turn : ∀ i v m₁ news₁ own h tk, items[i]? = some v → J i m₁ (ML news₁) → Fr h₀ env.locals h (fun y => if y = x then some v else m₁ y) → News h₀ env.locals h news₁ → (∀ p ∈ own, p ∈ news₁) →
      wpAny (model prog w) A (execs body env) (fun f s' => match f with | .next => Halt (Gx s h₀ env.locals own (J (i + 1)) s') | .cont => Halt (Gx s h₀ env.locals own (J (i + 1)) s') | .brk => Q .next s' | .ret v => Q (.ret v) s') E { s with heap := h, toks := tk })
    (done : ∀ m₁ news₁ h tk, J items.size m₁ (ML news₁) → Fr h₀ env.locals h m₁ → News h₀ env.locals h news₁ → Q .next { s with heap := h, toks := tk }) :
    wpAny (model prog w) A (pyIter (.ref l)) (fun it s₂ => LoopAtV prog w A h₀ env x body Q E it s₂) E s := by
  have hls : s.heap.IsList l items := hl.at fun o e => F.keep l o e
  obtain ⟨ol, hol, _⟩ := id hl
  have hlt : l < h₀.objs.size := Heap.lt_size hol
  have hne : l ≠ s.heap.objs.size := Nat.ne_of_lt (Nat.lt_trans (Nat.lt_of_lt_of_le hlt F.above) F.ns.lt)
  refine wpAny_pyIter_list hls ?_
  have W := Walks.list (prog := prog) (w := w) hh s.heap.objs.size l hne items
  refine for_L J hJ W (.head _) ?_ (next_is_new F) ?_ ⟨⟨_, Heap.get?_push_size _ rfl, rfl, rfl⟩, hls.at fun o e => Heap.get?_push_of_some _ e⟩ (F.push _) (fun p hp => ⟨Heap.get?_push_of_some _ (N p hp).1, (N p hp).2⟩) hj ?_ ?_
  · intro hm
    rcases List.mem_cons.mp hm with e | hm
    · exact absurd F.ns.lt (e ▸ Nat.lt_irrefl _)
    · exact absurd (Nat.lt_of_lt_of_le hlt F.above) ((List.mem_singleton.mp hm) ▸ Nat.lt_irrefl _)
  · rintro i h ⟨⟨o, ho, hc, _⟩, _⟩
    exact ⟨o, ho, by unfold isLo; rw [hc]; rfl⟩
  · intro i v m₁ news₁ own h tk hi hP hJi F₁ N₁ ho
    exact turn i v m₁ news₁ own h tk hP hJi F₁ N₁ ho
  · exact done

/-- an item from behind -/
theorem item_last {value slice : PySem.Expr} {l : Addr} {items : Array Value} {u : Tok} {v : Value} {Q : Value → Shared → Prop}
    (hl : s.heap.IsList l items) (h0 : 0 < items.size) (hx : items[items.size - 1]? = some v) (h : Q v s)
    (hs : subscripted slice false (.ref l) (.int (-1) u) = operate [.ref l, .int (-1) u] (getItem (.ref l) (.int (-1) u)) := by with_unfolding_all rfl) (hg : ∀ r, letTemporaryGo value (.ref l) r = pure () := by intro _; with_unfolding_all rfl) :
    wpAny (model prog w) A (subscriptTail value slice (.ref l) (.int (-1) u)) Q E s :=
  subscriptTail_builtin hl.typeIs slot_list_getitem.lookup (wpAny_getItem_list_neg hl (by decide) (by omega) (by decide) (by rw [show ((-1 : Int) + (items.size : Int)).toNat = items.size - 1 by omega]; exact hx) h) hs hg
end
end Mine
end
-- part FD
section
open PySem PySem.W PyProof.Rows
namespace Mine
theorem anewFD {M : Model} {A : Around} {E : Value → Shared → Prop} {s : Shared} {Q : Nat → Shared → Prop} (h : Q 0 s) : wpAny M A (pure 0) Q E s := by
  first | (walk1; exact h) | exact wpAny_pure h
end Mine
end
section
open PySem PySem.W PyProof.Rows
set_option maxRecDepth 100000
set_option maxHeartbeats 1000000
namespace Mine
theorem fill13 : PySem.Challenge.rw_ny0167_01 = PySem.Challenge.rw_ny0167_01 ∧ MineHd.hd.heap_1 = MineHd.hd.heap_1 := by
  k_fill
  exact ⟨rfl, rfl⟩
local macro_rules | `(tactic| walk_at "call ref") => `(tactic| refine stop ?_)
local macro_rules | `(tactic| walk_at "exec For Name Name") => `(tactic| refine stop ?_)
local macro_rules | `(tactic| walk_at "exec For") => `(tactic| refine stop ?_)
local macro_rules | `(tactic| walk_at "subscriptTail") => `(tactic| refine stop ?_)
local macro_rules | `(tactic| walk_at "binaryOp Add ref ref") => `(tactic| refine stop ?_)

def st0 : RSt := ⟨[], 0, 1, 0, 72⟩
/-- the state behind the first i octets -/
def rdAt (z : Int) (bs : List UInt8) (i : Nat) : RSt := ((bs.take i).map fun c => (c.toNat : Int)).foldl (rdF z adf) st0
theorem rdAt_succ {z : Int} {bs : List UInt8} {i : Nat} {c : UInt8} (h : bs[i]? = some c) : rdAt z bs (i + 1) = rdF z adf (rdAt z bs i) c.toNat := by
  unfold rdAt
  rw [List.take_add_one, h]
  simp
/-- what reading an octet needs -/
def RdOk (z : Int) (bs : List UInt8) : Prop := ∀ (i : Nat) c, bs[i]? = some c → (rdAt z bs i).ns.length ≤ 20 ∧ (48 ≤ (c.toNat : Int) ∧ (c.toNat : Int) ≤ 57 ∨ 97 ≤ (c.toNat : Int) ∧ (c.toNat : Int) ≤ 122) ∧
  (figL c.toNat < bndL (rdAt z bs i).p (rdAt z bs i).b → 0 ≤ (rdAt z bs i).v + figL c.toNat * (rdAt z bs i).w ∧ (rdAt z bs i).v + figL c.toNat * (rdAt z bs i).w < 10 ^ 31)
def rdAll (z : Int) (bs : List UInt8) (i : Nat) : List RSt := (List.range (i + 1)).map (rdAt z bs)

theorem sts_first {R : Rd} {S a ln : Addr} {z : Int} {bs : List UInt8} {u1 u2 u3 u4 : Tok} (h1 : R S #[.ref a]) (h2 : R a #[.ref ln, .int 0 u1, .int 1 u2, .int 0 u3, .int 72 u4]) (h3 : R ln #[]) : StsR R S (rdAll z bs 0) := by
  refine ⟨[a], h1, rfl, fun i b st e1 e2 => ?_⟩
  have e : rdAll z bs 0 = [st0] := by simp [rdAll, List.range_succ, rdAt]
  rw [e] at e2
  cases i with
  | zero =>
    cases e1; cases e2
    exact ⟨ln, _, _, _, _, h2, [], h3, .nil⟩
  | succ i => simp at e1
theorem rdAll_succ {z : Int} {bs : List UInt8} {i : Nat} : rdAll z bs (i + 1) = rdAll z bs i ++ [rdAt z bs (i + 1)] := by
  unfold rdAll
  rw [List.range_succ, List.map_append]
  rfl
theorem sts_next {R R' : Rd} {S' a : Addr} {z : Int} {bs : List UInt8} {i : Nat} {as : List Addr} (k : ∀ a its, R a its → R' a its) (hl : as.length = (rdAll z bs i).length) (h1 : R' S' (as.map Value.ref ++ [Value.ref a]).toArray) (hA : ∀ (j : Nat) b st, as[j]? = some b → (rdAll z bs i)[j]? = some st → StR R b st) (h2 : StR R' a (rdAt z bs (i + 1))) : StsR R' S' (rdAll z bs (i + 1)) := by
  refine ⟨as ++ [a], by simpa using h1, by rw [rdAll_succ]; simp [hl], fun j b st e1 e2 => ?_⟩
  rw [rdAll_succ] at e2
  by_cases hj : j < as.length
  · rw [List.getElem?_append_left hj] at e1
    rw [List.getElem?_append_left (by omega)] at e2
    exact (hA j b st e1 e2).mono k
  · rw [List.getElem?_append_right (by omega)] at e1
    rw [List.getElem?_append_right (by omega), ← hl] at e2
    cases hq : j - as.length with
    | zero => rw [hq] at e1 e2; cases e1; cases e2; exact h2
    | succ q => rw [hq] at e1; simp at e1
theorem rdAll_length {z : Int} {bs : List UInt8} {i : Nat} : (rdAll z bs i).length = i + 1 := by simp [rdAll]
theorem rdAll_last {z : Int} {bs : List UInt8} {i : Nat} : (rdAll z bs i)[i]? = some (rdAt z bs i) := by simp [rdAll]
theorem sts_last {R : Rd} {z : Int} {bs : List UInt8} {i : Nat} {as : List Addr} (hl : as.length = (rdAll z bs i).length) (hA : ∀ (j : Nat) b st, as[j]? = some b → (rdAll z bs i)[j]? = some st → StR R b st) :
    ∃ a, (as.map Value.ref).toArray[(as.map Value.ref).toArray.size - 1]? = some (.ref a) ∧ StR R a (rdAt z bs i) := by
  rw [rdAll_length] at hl
  have hi : i < as.length := by omega
  refine ⟨as[i], ?_, hA i _ _ (List.getElem?_eq_getElem hi) rdAll_last⟩
  simp [hl]
theorem states_k {prog : Program} {w : World} {A : Around} {s : Shared} {Q E : Value → Shared → Prop} {bs : Array UInt8} {z : Int} {t1 t2 : Tok}
    (G : Gd w s.heap) (r : Rm A 4) (hok : RdOk z bs.toList) (hz0 : 0 ≤ z) (hz : z < 1000) (hlen : bs.size < 10000)
    (h : ∀ a M h' tk', s.heap.StaysIn h' → Made s.heap h' M → StsR (ML M) a (rdAll z bs.toList bs.size) → Q (.ref a) { s with heap := h', toks := tk' }) :
    wpAny (model prog w) A (call (.ref 112) [.bytes bs t1, .int z t2]) Q E s := by
  obtain ⟨X, p, loose, mean, mg, mb, T⟩ := id G
  refine' enterF (binds := [("octets", .bytes bs t1), ("size", .int z t2)]) ?eX ?eT ?eo ?ec ?er ?eb ?el ?eco ?ege ?ek ?ece ?_
  ((case eX => k_asm); (case eT => k_asm); (case eo => k_dflt k_is); (case ec => k_dflt k_is); (case er => exact Rm.depth (by assumption)); (case eb => exact BindsTo.of_eq (by with_unfolding_all rfl)); (case el => exact locs rfl); (case eco => exact rfl); (case ege => exact rfl); (case ek => exact rfl); (case ece => decide); k_whole)
  intro L h₁ tk F N
  (try dsimp only)
  k_steps
  (with_reducible rename News _ _ _ _ => N8)
  (with_reducible rename Fr _ _ _ _ => F8)
  refine for_bytes (fun i m R => ∃ S, m "states" = some (.ref S) ∧ m "size" = some (.int z t2) ∧ StsR R S (rdAll z bs.toList i)) ?_ r.hd F8 N8 ?_ ?_ ?_
  · rintro i m R R' k ⟨S, h1, h2, h3⟩
    exact ⟨S, h1, h2, h3.mono k⟩
  · exact ⟨_, rfl, rfl, sts_first ⟨_, .head _, rfl, _, rfl⟩ ⟨_, .tail _ (.head _), rfl, _, rfl⟩ ⟨_, .tail _ (.tail _ (.head _)), rfl, _, rfl⟩⟩
  · intro i c u m₁ news₁ own h2 tk2 hc hJ F2 N2 ho
    refine Exists.elim hJ fun S hJ => ?_
    have hS := hJ.2.2
    refine Exists.elim hS fun as hS => ?_
    have hst := sts_last hS.2.1 hS.2.2
    refine Exists.elim hst fun a hst => ?_
    have hI := ML.at N2 _ _ hS.1
    have hc' : bs.toList[i]? = some c := by simpa using hc
    have hk := hok i c hc'
    have hlt : i < bs.size := (Array.getElem?_eq_some_iff.mp hc).1
    replace F2 := Fr.view F2 [("octet", .int c.toNat u), ("states", .ref S), ("size", .int z t2)] (by simp only [List.forall_mem_cons]; exact ⟨rfl, hJ.1, hJ.2.1, List.forall_mem_nil _⟩)
    clear hJ N8 F8
    k_steps
    unfold Stop
    refine item_last (stays_list (fun _ _ e => e) hI) (by rw [List.size_toArray, List.length_map, hS.2.1, rdAll_length]; omega) hst.1 ?_
    k_steps
    unfold Stop
    refine read_k (R := ML news₁) (G.keeps (Fr.stays (by assumption))) (r.to (by decide)) (ML.at (by assumption)) hst.2 hk.1 hk.2.1 hz0 hz hk.2.2 fun a9 M9 h9 tk9 k9 D9 S9 => ?_
    have F9 := Fr.grow (by assumption) k9
    have N9 := made_news (by assumption) (by assumption) k9 D9
    have I9 := ML.at N9 _ _ (ML.right hS.1)
    clear k9 D9 N2 F2 hI
    k_sweep
    k_steps
    unfold Stop
    (with_reducible rename News _ _ _ _ => N3)
    (with_reducible rename Fr _ _ _ _ => F3)
    refine add_lists (ws := [Value.ref a9]) F3 N3 (ML.at N3 _ _ (ML.tail (ML.right hS.1))) (ML.at N3 _ _ ⟨_, .head _, rfl, _, rfl⟩) (fun h4 F4 N4 => ?_) (hsz := by rw [List.length_map, hS.2.1, rdAll_length, sizeLine_eq, List.length_singleton]; omega)
    generalize Array.size _ = r4 at N4 ⊢
    clear N3 F3
    k_steps
    (with_reducible rename News _ _ _ _ => N5)
    (with_reducible rename Fr _ _ _ _ => F5)
    refine Halt.mk ⟨_, _, _, _, rfl, F5, N5, fun p hp => .tail _ (.tail _ (List.mem_append.mpr (.inr (ho p hp)))), _, rfl, rfl, ?_⟩
    rw [← rdAt_succ hc'] at S9
    exact sts_next (R := ML news₁) (fun _ _ x => .tail (.tail (.right x))) hS.2.1 ⟨_, .head _, rfl, _, rfl⟩ hS.2.2 (S9.mono fun _ _ x => x.elim (fun x => .tail (.tail (.left x))) fun x => .tail (.tail (.right x)))
  · intro m₁ news₁ h2 tk2 hJ F2 N2
    refine Exists.elim hJ fun S hJ => ?_
    replace F2 := Fr.view F2 [("states", .ref S)] (by simp only [List.forall_mem_cons]; exact ⟨hJ.1, List.forall_mem_nil _⟩)
    clear N8 F8
    dsimp only
    k_steps
    exact h _ _ _ _ (Fr.stays (by assumption)) (news_made N2) hJ.2.2
end Mine
end
-- part FE
section
open PySem PySem.W PyProof.Rows
namespace Mine
theorem anewFE {M : Model} {A : Around} {E : Value → Shared → Prop} {s : Shared} {Q : Nat → Shared → Prop} (h : Q 0 s) : wpAny M A (pure 0) Q E s := by
  first | (walk1; exact h) | exact wpAny_pure h
end Mine
end
section
open PySem PySem.W PyProof.Rows
set_option maxRecDepth 100000
set_option maxHeartbeats 1000000
namespace Mine
theorem fill14 : PySem.Challenge.rw_ny0167_01 = PySem.Challenge.rw_ny0167_01 ∧ MineHd.hd.heap_1 = MineHd.hd.heap_1 := by
  k_fill
  exact ⟨rfl, rfl⟩
local macro_rules | `(tactic| walk_at "call ref") => `(tactic| refine stop ?_)
local macro_rules | `(tactic| walk_at "pyIter ref") => `(tactic| refine stop ?_)
local macro_rules | `(tactic| walk_at "subscriptTail") => `(tactic| refine stop ?_)

def layF (st : Str × Int) (num : Int) : Str × Int :=
  (insS st.1 ((st.2 + num).fmod (st.1.length + 1)) ((st.2 + num).fdiv (st.1.length + 1)), (st.2 + num).fdiv (st.1.length + 1) * (st.1.length + 2) + (st.2 + num).fmod (st.1.length + 1) + 1)
def layAt (base : Str) (ns : List Int) (i : Nat) : Str × Int := (ns.take i).foldl layF (base, 128 * (base.length + 1))
def LayOk (base : Str) (ns : List Int) : Prop := ∀ (i : Nat) d, ns[i]? = some d → (layAt base ns i).1.length < 1000 ∧ 0 ≤ (layAt base ns i).2 ∧ 0 ≤ d ∧ (layAt base ns i).2 + d < 1000000 ∧ ((layAt base ns i).2 + d).fdiv ((layAt base ns i).1.length + 1) < 55000
theorem layAt_succ {base : Str} {ns : List Int} {i : Nat} {d : Int} (h : ns[i]? = some d) : layAt base ns (i + 1) = layF (layAt base ns i) d := by
  unfold layAt
  rw [List.take_add_one, h]
  simp

theorem text_k {prog : Program} {w : World} {A : Around} {s : Shared} {Q E : Value → Shared → Prop} {base : Str} {l : Addr} {ns : List Int} {t1 : Tok}
    (G : Gd w s.heap) (r : Rm A 3) (hl : IntsR s.heap.IsList l ns) (hok : LayOk base ns) (hlen : base.length < 1000)
    (h : ∀ t h' tk', s.heap.StaysIn h' → Q (.str (layAt base ns ns.length).1 t) { s with heap := h', toks := tk' }) :
    wpAny (model prog w) A (call (.ref 119) [.str base t1, .ref l]) Q E s := by
  obtain ⟨X, p, loose, mean, mg, mb, T⟩ := id G
  obtain ⟨vs, hl, hi⟩ := hl
  have hat : ∀ (i : Nat) v, vs[i]? = some v → ∃ d t, v = .int d t ∧ ns[i]? = some d := fun i v hv => IntsAre.at hi i v hv
  have e0 : vs.toArray.size = ns.length := by simp [hi.length]
  clear hi
  refine' enterF (binds := [("base", .str base t1), ("numbers", .ref l)]) ?eX ?eT ?eo ?ec ?er ?eb ?el ?eco ?ege ?ek ?ece ?_
  ((case eX => k_asm); (case eT => k_asm); (case eo => k_dflt k_is); (case ec => k_dflt k_is); (case er => exact Rm.depth (by assumption)); (case eb => exact BindsTo.of_eq (by with_unfolding_all rfl)); (case el => exact locs rfl); (case eco => exact rfl); (case ege => exact rfl); (case ek => exact rfl); (case ece => decide); k_whole)
  intro L h₁ tk F N
  (try dsimp only)
  k_steps
  refine For_invV s.heap rfl rfl ?_ (fun _ => rfl)
  k_steps
  unfold Stop
  (with_reducible rename News _ _ _ _ => N8)
  (with_reducible rename Fr _ _ _ _ => F8)
  refine for_list (fun i m R => ∃ S t u, m "state" = some (.ref S) ∧ R S #[.str (layAt base ns i).1 t, .int (layAt base ns i).2 u]) ?_ r.hd hl F8 N8 ?_ ?_ ?_
  · rintro i m R R' k ⟨S, t, u, h1, h2⟩
    exact ⟨S, t, u, h1, k _ _ h2⟩
  · exact ⟨_, _, _, rfl, _, .head _, rfl, _, rfl⟩
  · intro i v m₁ news₁ own h2 tk2 hc hJ F2 N2 ho
    refine Exists.elim hJ fun S hJ => Exists.elim hJ fun t hJ => Exists.elim hJ fun u hJ => ?_
    have hv : vs[i]? = some v := by simpa using hc
    refine Exists.elim (hat i v hv) fun d q => Exists.elim q fun td q => ?_
    have e2 := q.1
    subst e2
    have hk := hok i d q.2
    replace F2 := Fr.view F2 [("number", .int d td), ("state", .ref S)] (by simp only [List.forall_mem_cons]; exact ⟨rfl, hJ.1, List.forall_mem_nil _⟩)
    clear N8 F8
    k_steps
    unfold Stop
    refine lay_k (G.keeps (Fr.stays (by assumption))) (r.to (by decide)) (ML.at (by assumption) _ _ hJ.2) hk.1 hk.2.1 hk.2.2.1 hk.2.2.2.1 hk.2.2.2.2 fun a9 v1 v2 h9 tk9 k9 n9 g9 => ?_
    have F9 := Fr.grow (by assumption) k9
    have N9 := made_news (M := [(a9, _)]) (by assumption) (by assumption) k9 (fun p hp => by obtain rfl := List.mem_singleton.mp hp; exact ⟨g9, n9⟩)
    clear k9 n9 g9 N2 F2
    k_sweep
    k_steps
    (with_reducible rename News _ _ _ _ => N5)
    (with_reducible rename Fr _ _ _ _ => F5)
    refine Halt.mk ⟨_, _, _, _, rfl, F5, N5, fun p hp => .tail _ (ho p hp), _, v1, v2, rfl, ?_⟩
    rw [layAt_succ q.2]
    exact ⟨_, .head _, rfl, _, rfl⟩
  · intro m₁ news₁ h2 tk2 hJ F2 N2
    refine Exists.elim hJ fun S hJ => Exists.elim hJ fun t hJ => Exists.elim hJ fun u hJ => ?_
    replace F2 := Fr.view F2 [("state", .ref S)] (by simp only [List.forall_mem_cons]; exact ⟨hJ.1, List.forall_mem_nil _⟩)
    clear N8 F8
    dsimp only
    k_steps
    unfold Stop
    refine item_list (ML.at N2 _ _ hJ.2) (by decide) (by decide) rfl ?_
    k_steps
    rw [e0]
    exact h _ _ _ (Fr.stays (by assumption))
end Mine
end
-- part BI
section
open PySem PySem.W PyProof.Rows
set_option maxRecDepth 100000
namespace Mine
open Builtin
theorem enc0 {id : String} {errors : Option PySem.Str} {self : Value} : _codecs.encodeNarrow id _codecs.asciiCodec errors self ⟨#[]⟩ = pure #[] := by
  unfold _codecs.encodeNarrow
  simp [Str.length]
theorem loop2 {α : Type} (f : Nat → α → Sem (ForInStep α)) (a b : α) (n : Nat) (h1 : f 0 a = pure (.yield b)) (h2 : ∀ k, f k b = pure (.done b)) : forIn [0:n + 1] a f = pure b := by
  have e : (forIn [0:n + 1] a f : Sem α) = forIn (List.range' 0 (n + 1)) a f := by simp
  rw [e, List.range'_succ, List.forIn_cons, h1, pure_bind]
  cases n with
  | zero => rfl
  | succ n => 
    dsimp only
    rw [List.range'_succ, List.forIn_cons, h2, pure_bind]
theorem enc_some {id : String} {errors : Option PySem.Str} {self : Value} {x : PySem.Str} {n : Nat} (hz : x.length = n + 1) (hn : n < 3) (h : ∀ c ∈ x.cps.toList, c < 128) : _codecs.encodeNarrow id _codecs.asciiCodec errors self x = pure (x.cps.toList.map (·.toUInt8)).toArray := by
  have hbad : x.cps.findIdx? _codecs.asciiCodec.bad = none := by
    rw [Array.findIdx?_eq_none_iff]
    intro c hc
    have := h c (Array.mem_toList_iff.mpr hc)
    simp [_codecs.asciiCodec]
    omega
  have hfold : ∀ (l : List Nat) (acc : Array UInt8), l.foldl (fun acc y => acc ++ (_codecs.asciiCodec.bytesOf y).toArray) acc = acc ++ (l.map (·.toUInt8)).toArray := by
    intro l
    induction l with
    | nil => intro acc; simp
    | cons a l ih => intro acc; rw [List.foldl_cons, ih]; simp [_codecs.asciiCodec]
  have hsz : x.cps.size = n + 1 := hz
  have h0 : ∃ a, x.cps[0]? = some a ∧ _codecs.asciiCodec.bad a = false := by
    have hlt : 0 < x.cps.size := by omega
    refine ⟨x.cps[0], Array.getElem?_eq_getElem hlt, ?_⟩
    exact Bool.eq_false_iff.mpr fun q => absurd q (by simpa using Array.findIdx?_eq_none_iff.mp hbad _ (Array.getElem_mem hlt))
  obtain ⟨a, ha, hab⟩ := h0
  have hend : x.cps[n + 1]? = none := Array.getElem?_eq_none (by omega)
  unfold _codecs.encodeNarrow
  rw [hz]
  dsimp only
  rw [loop2 _ _ (n + 1, (x.cps.toList.map (·.toUInt8)).toArray, {}) n ?h1 ?h2, pure_bind]
  case h1 =>
    rw [if_neg (by simp), ha]
    dsimp only
    rw [hab, if_pos (show (!false) = true from rfl), show x.cps.extract 0 x.cps.size = x.cps by simp, hbad]
    rw [show (none : Option Nat).getD x.cps.size = x.cps.size from rfl, show x.cps.extract 0 x.cps.size = x.cps by simp, ← Array.foldl_toList, hfold, hsz, Nat.zero_add, Array.empty_append]
  case h2 =>
    intro k
    have hs : (List.map (fun c : Nat => c.toUInt8) x.cps.toList).toArray.size = n + 1 := by simp [hsz]
    rw [if_neg (by rw [hs, sizeLine_eq]; omega), hend]
theorem enc_all {x : PySem.Str} (hz : x.length ≤ 3) (h : ∀ c ∈ x.cps.toList, c < 128) (id : String) (errors : Option PySem.Str) (self : Value) : _codecs.encodeNarrow id _codecs.asciiCodec errors self x = pure (x.cps.toList.map (·.toUInt8)).toArray := by
  cases q : x.length with
  | zero =>
    obtain ⟨⟨l⟩⟩ := x
    cases l with
    | nil => exact enc0
    | cons a l => simp [Str.length] at q
  | succ n => exact enc_some q (by omega) h
theorem road_enc {id : String} {self : Value} {x : PySem.Str} {errors : Option PySem.Str} : _codecs.encodeRoad id self x (PySem.Str.ofString "ascii") errors = (do mkBytes (← _codecs.encodeNarrow id _codecs.asciiCodec errors self x)) := by
  first | rfl | kernel_rfl
section
variable {prog : Program} {w : World} {A : Around} {E : Value → Shared → Prop} {s : Shared} {x : PySem.Str} {t : Tok}
theorem A_encode {t1 : Tok} {Q : Value → Shared → Prop} (hz : x.length ≤ 3) (h : ∀ c ∈ x.cps.toList, c < 128) (hq : ∀ t' k, Q (.bytes (x.cps.toList.map (·.toUInt8)).toArray t') { s with toks := k }) :
    wpAny (model prog w) A (call (.builtin "str.encode") [.str x t, .str (PySem.Str.ofString "ascii") t1]) Q E s := by
  refine wpAny_call_entry F.slot_str_encode (typeIs_str s x t) F.entry_str_encode ?_ (F.args_str_encode_2 _ _)
  unfold «str.encode»
  refine wpAny_bind (wpAny_of_eq (a := (Value.str x t, x, [Value.str (PySem.Str.ofString "ascii") t1])) rfl ?_)
  dsimp only
  refine wpAny_bind (wpAny_of_eq (a := [some (Value.str (PySem.Str.ofString "ascii") t1), none]) (by kernel_rfl) ?_)
  dsimp only
  refine wpAny_bind (wpAny_of_eq (a := some (PySem.Str.ofString "ascii")) (by kernel_rfl) ?_)
  refine wpAny_bind (wpAny_of_eq (a := none) (by kernel_rfl) ?_)
  show wpAny _ _ (_codecs.encodeRoad _ _ x (PySem.Str.ofString "ascii") _ >>= fun v => ret v) _ _ s
  rw [road_enc, enc_all hz h]
  refine wpAny_bind (wpAny_bind (wpAny_pure (wpAny_mkBytes (wpAny_pure ⟨_, rfl, hq _ _⟩) ?_)))
  simp only [List.size_toArray, List.length_map, Array.length_toList]
  have : x.cps.size ≤ 3 := hz
  rw [sizeLine_eq]; omega
theorem A_mencode {M : Model} {pl : Sem Bool} {Q : Value × List Value → Shared → Prop} (h : Q (.builtin "str.encode", [.str x t]) s) : wpAny M A (getMethod (.str x t) "encode" pl) Q E s := by
  with_reducible exact getMethod_builtin (typeIs_str _ _ _) F.plainAttrs_str F.slot_str_encode F.type_str_encode (fun _ e => nomatch e) h
end
end Mine
end
-- part LK
section
open PySem PySem.W PyProof.Rows
set_option maxRecDepth 100000
namespace Mine
/-- what one turn hands on, where the ground may turn -/
def Gt (s : Shared) (A : Around) (base : Heap) (outer : List Env) (g₀ : Heap) (L : Addr) (own : List (Addr × Obj)) (J : (Str → Option Value) → Rd → Prop) (s' : Shared) : Prop :=
  ∃ h' tk' g' m' news', s' = { s with heap := h', toks := tk' } ∧ KtsTurn (frs outer) g₀ g' ∧ Below A base outer g' ∧ Fr g' L h' m' ∧ News g' L h' news' ∧ (∀ p ∈ own, p ∈ news') ∧ J m' (ML news')
section
variable {prog : Program} {w : World} {A A' : Around} {s : Shared} {env : Env} {x : Str} {px : Pos} {body : List Stmt} {Q : Flow → Shared → Prop} {base g₀ : Heap} {outer : List Env}
theorem for_turn {I : Addr} {n : Nat} {P : Nat → Value → Prop} {St : Nat → Heap → Prop} {m₀ : Str → Option Value} {news₀ : List (Addr × Obj)} {gs : Heap} (J : Nat → (Str → Option Value) → Rd → Prop)
    (hJ : ∀ i m (R R' : Rd), (∀ a its, R a its → R' a its) → J i m R → J i m R')
    (W : Walks prog w A' I [I] [I] n P St) (hcl : ∀ i h, St i h → ∃ o, h.get? I = some o ∧ isLo o = false) (hI0 : g₀.get? I = none) (hIL : I ≠ env.locals)
    (hst : St 0 s.heap) (T₀ : KtsTurn (frs outer) g₀ gs) (K₀ : Below A base outer gs) (F : Fr gs env.locals s.heap m₀) (N : News gs env.locals s.heap news₀) (hj : J 0 m₀ (ML news₀))
    (hx : env.kindOf x = some .local) (hp : (env.scope.kind == .class || (env.scope.kind == .module && env.locals != env.globals)) = false)
    (turn : ∀ i v g m₁ news₁ own h tk, i < n → P i v → KtsTurn (frs outer) g₀ g → Below A base outer g → J i m₁ (ML news₁) → Fr g env.locals h (fun y => if y = x then some v else m₁ y) → News g env.locals h news₁ → (∀ p ∈ own, p ∈ news₁) →
      wpAny (model prog w) A' (execs body env) (fun f s' => match f with | .next => Halt (Gt s A base outer g₀ env.locals own (J (i + 1)) s') | .cont => Halt (Gt s A base outer g₀ env.locals own (J (i + 1)) s') | .brk => Q .next s' | .ret v => Q (.ret v) s') (fun _ _ => False) { s with heap := h, toks := tk })
    (done : ∀ g m₁ news₁ h tk, KtsTurn (frs outer) g₀ g → Below A base outer g → J n m₁ (ML news₁) → Fr g env.locals h m₁ → News g env.locals h news₁ → Q .next { s with heap := h, toks := tk }) :
    codeAny (model prog w) A' (.forLoop (.Name x px) (.ref I) body [] env) (fun r s' => match r with | .ok f => Q f s' | .error e => cameBackBy (model prog w) A' env (fun _ _ => False) e s') s := by
  refine codeAny_forLoop (fun k s' => ∃ i h tk g m news, s' = { s with heap := h, toks := tk } ∧ k = n - i ∧ i ≤ n ∧ KtsTurn (frs outer) g₀ g ∧ Below A base outer g ∧ Fr g env.locals h m ∧ News g env.locals h news ∧ (∀ p ∈ news, p.1 ≠ I) ∧ St i h ∧ J i m (ML news)) ?_ n
    ⟨0, s.heap, s.toks, gs, m₀, news₀.filter (fun p => isLo p.2), rfl, by omega, Nat.zero_le _, T₀, K₀, F, (fun p hp => N p (List.mem_filter.mp hp).1), ?_, hst, hJ _ _ _ _ (fun _ _ => ML.filter) hj⟩
  case refine_2 =>
    intro p hp e
    have hp := List.mem_filter.mp hp
    obtain ⟨o, ho, hc⟩ := hcl _ _ hst
    have q := (N p hp.1).1
    rw [e, ho] at q
    cases q
    rw [hc] at hp; cases hp.2
  rintro k s' ⟨i, h, tk, g, m₁, news₁, rfl, rfl, hi, T, K, F, N, hoff, hst, hj⟩
  have hgI : g.get? I = none := T.none_ _ hI0
  have frOf : ∀ h₁, (∀ b o, b ∉ [I] → h.get? b = some o → h₁.get? b = some o) → Fr g env.locals h₁ m₁ ∧ News g env.locals h₁ news₁ := fun h₁ k₁ =>
    ⟨⟨F.ns.at' fun o e => k₁ _ o (fun hm => hIL (List.mem_singleton.mp hm).symm) e, fun b o e => k₁ b o (fun hm => by rw [List.mem_singleton.mp hm, hgI] at e; cases e) (F.keep b o e), F.above⟩,
     fun p hp => ⟨k₁ _ _ (fun hm => hoff p hp (List.mem_singleton.mp hm)) (N p hp).1, (N p hp).2⟩⟩
  by_cases hlt : i < n
  · refine W.item i _ _ _ hlt hst fun v h₁ tk₁ hPv hst₁ hk₁ => ?_
    obtain ⟨F₁, N₁⟩ := frOf h₁ hk₁
    dsimp only
    refine wpAny_assign_Name (wpAny_storeName_local hx F₁.ns (fun h₂ hn₂ hs₂ => ?_) hp)
    have F₂ := F₁.set hn₂ hs₂
    have N₂ := N₁.set hs₂
    have hst₂ : St (i + 1) h₂ := W.frame _ _ _ hst₁ fun b hb o e => hs₂.extBut b o (fun hm => by rw [List.mem_singleton.mp hb] at hm; exact hIL hm) e
    obtain ⟨oI, hoI, hcI⟩ := hcl _ _ hst₂
    refine wpAny_mono (turn i v g m₁ ((I, oI) :: news₁) [(I, oI)] h₂ _ hlt hPv T K (hJ _ _ _ _ (fun _ _ => ML.tail) hj) F₂ (fun p hp => ?_) (fun p hp => by rw [List.mem_singleton.mp hp]; exact .head _)) (fun f s₃ h₃ => ?_) fun _ _ y => y.elim
    · rcases List.mem_cons.mp hp with rfl | hp
      · exact ⟨hoI, hIL, hgI⟩
      · exact N₂ p hp
    have fin : Halt (Gt s A base outer g₀ env.locals [(I, oI)] (J (i + 1)) s₃) → ∃ m', m' < n - i ∧ ∃ i h tk g m news, s₃ = { s with heap := h, toks := tk } ∧ m' = n - i ∧ i ≤ n ∧ KtsTurn (frs outer) g₀ g ∧ Below A base outer g ∧ Fr g env.locals h m ∧ News g env.locals h news ∧ (∀ p ∈ news, p.1 ≠ I) ∧ St i h ∧ J i m (ML news) := by
      rintro ⟨h', tk', g', m', news', rfl, T', K', F', N', ho, hj'⟩
      have hI' := (N' _ (ho _ (.head _))).1
      refine ⟨n - (i + 1), by omega, i + 1, h', tk', g', m', news'.filter (fun p => isLo p.2), rfl, rfl, hlt, T', K', F', (fun p hp => N' p (List.mem_filter.mp hp).1), (fun p hp e => ?_), W.frame _ _ _ hst₂ (fun b hb o e => ?_), hJ _ _ _ _ (fun _ _ => ML.filter) hj'⟩
      · have hp := List.mem_filter.mp hp
        have q := (N' p hp.1).1
        rw [e, hI'] at q
        cases q
        rw [hcI] at hp; cases hp.2
      · rw [List.mem_singleton.mp hb] at e ⊢
        rw [hoI] at e; cases e
        exact hI'
    cases f with
    | next => exact fin h₃
    | cont => exact fin h₃
    | brk => exact h₃
    | ret v => exact h₃
  · have hin : i = n := by omega
    subst hin
    refine W.done _ _ _ hst fun h₁ tk₁ hk₁ => ?_
    obtain ⟨F₁, N₁⟩ := frOf h₁ hk₁
    exact wpAny_pure (done g m₁ news₁ h₁ tk₁ T K hj F₁ N₁)
end
end Mine
end
-- part LE
section
open PySem PySem.W PyProof.Rows PySem.Spec
set_option maxRecDepth 100000
namespace Mine
theorem reads_of {h : Heap} {a : Addr} {vs : List Value} {ds : List PyData} {as : List Addr} (hl : h.IsList a vs.toArray) (hr : ReadsAll h vs ds as) : Reads h (.ref a) (.list ds) (a :: as) := by
  obtain ⟨o, ho, hc, n, hd⟩ := hl
  exact .list ho hc hd (by simpa using hr)
section
variable {prog : Program} {w : World} {A : Around} {E : Value → Shared → Prop} {s : Shared}
theorem sh1 {d : Str} (hs : PyData.strOk d = true) : SeqAt.shaped (.list [.str d, .str d]) = true := by
  simp [SeqAt.shaped, PyData.canLay0, PyData.canLayAll0, PyData.depth, PyData.depthAll, hs]
theorem sh2 {d : Str} (hs : PyData.strOk d = true) : SeqAt.shaped (.list [.str d, .none]) = true := by
  simp [SeqAt.shaped, PyData.canLay0, PyData.canLayAll0, PyData.depth, PyData.depthAll, hs]
theorem ne_told1 {a b : Addr} {d : Str} {t1 t2 t3 t4 : Tok} {Q : Value → Shared → Prop} (ha : s.heap.IsList a #[.str d t1, .str d t2]) (hb : s.heap.IsList b #[.str d t3, .str d t4]) (hs : PyData.strOk d = true) (hu : A.units + 64 < cLine) (h : Q (.bool false) s) :
    wpAny (model prog w) A (compareOp .NotEq (.ref a) (.ref b)) Q E s := by
  refine ne_dataH (reads_of (vs := [_, _]) ha (.cons (.str _ _) (.cons (.str _ _) .nil))) (reads_of (vs := [_, _]) hb (.cons (.str _ _) (.cons (.str _ _) .nil))) (sh1 hs) (sh1 hs) hu ?_
  have e : PyData.eqv (.list [.str d, .str d]) (.list [.str d, .str d]) = true := by simp [PyData.eqv, PyData.eqvAll]
  rw [e]; exact h
theorem ne_told2 {a b : Addr} {d : Str} {t1 t3 : Tok} {Q : Value → Shared → Prop} (ha : s.heap.IsList a #[.str d t1, .none]) (hb : s.heap.IsList b #[.str d t3, .none]) (hs : PyData.strOk d = true) (hu : A.units + 64 < cLine) (h : Q (.bool false) s) :
    wpAny (model prog w) A (compareOp .NotEq (.ref a) (.ref b)) Q E s := by
  refine ne_dataH (reads_of (vs := [_, _]) ha (.cons (.str _ _) (.cons .none .nil))) (reads_of (vs := [_, _]) hb (.cons (.str _ _) (.cons .none .nil))) (sh2 hs) (sh2 hs) hu ?_
  have e : PyData.eqv (.list [.str d, .none]) (.list [.str d, .none]) = true := by simp [PyData.eqv, PyData.eqvAll]
  rw [e]; exact h
end
end Mine
end
-- part FF
section
open PySem PySem.W PyProof.Rows
namespace Mine
theorem anewFF {M : Model} {A : Around} {E : Value → Shared → Prop} {s : Shared} {Q : Nat → Shared → Prop} (h : Q 0 s) : wpAny M A (pure 0) Q E s := by
  first | (walk1; exact h) | exact wpAny_pure h
end Mine
end
section
open PySem PySem.W PyProof.Rows
set_option maxRecDepth 100000
set_option maxHeartbeats 2000000
namespace Mine
theorem fill15 : PySem.Challenge.rw_ny0167_01 = PySem.Challenge.rw_ny0167_01 ∧ MineHd.hd.heap_1 = MineHd.hd.heap_1 := by
  k_fill
  exact ⟨rfl, rfl⟩
local macro_rules | `(tactic| walk_at "call ref") => `(tactic| refine stop ?_)
local macro_rules | `(tactic| walk_at "exec For") => `(tactic| refine stop ?_)
local macro_rules | `(tactic| walk_at "exec For Name Call cons nil") => `(tactic| refine stop ?_)
local macro_rules | `(tactic| walk_at "pyIter ref") => `(tactic| refine stop ?_)
local macro_rules | `(tactic| walk_at "getMethod bytes") => `(tactic| refine stop ?_)
local macro_rules | `(tactic| walk_at "call builtin:bytes.upper") => `(tactic| refine stop ?_)
local macro_rules | `(tactic| walk_at "getMethod str") => `(tactic| refine stop ?_)
local macro_rules | `(tactic| walk_at "call builtin:str.encode") => `(tactic| refine stop ?_)

local macro_rules | `(tactic| walk_at "unpackItems ref") => `(tactic| refine stop ?_)
local macro_rules | `(tactic| walk_at "my ml") => `(tactic| (first | with_reducible assumption | exact ⟨_, .head _, rfl, _, rfl⟩ | (refine ML.tail ?_; walk_at "my ml") | (refine ML.right ?_; walk_at "my ml") | (refine ML.left ?_; walk_at "my ml")))

section
variable {prog : Program} {w : World} {A : Around} {E : Value → Shared → Prop} {s : Shared}
theorem item_any {value slice : PySem.Expr} {l : Addr} {items : Array Value} {k : Int} {u : Tok} {v : Value} {Q : Value → Shared → Prop}
    (hl : s.heap.IsList l items) (h0 : 0 ≤ k) (hhi : k < 2 ^ 63) (hx : items[k.toNat]? = some v) (h : Q v s)
    (hs : subscripted slice false (.ref l) (.int k u) = operate [.ref l, .int k u] (getItem (.ref l) (.int k u)) := by with_unfolding_all rfl) :
    wpAny (model prog w) A (subscriptTail value slice (.ref l) (.int k u)) Q E s :=
  tail_any hl.typeIs slot_list_getitem.lookup (wpAny_getItem_list hl h0 hhi hx h) hs
end
theorem item5_0 {a b c d e : Value} : #[a, b, c, d, e][(0 : Int).toNat]? = some a := rfl
theorem item5_3 {a b c d e : Value} : #[a, b, c, d, e][(3 : Int).toNat]? = some d := rfl
structure ErrAt (k : Int) (e : Str) : Prop where
  ok : errOk e
  ne : e ≠ "strict"
  lo : 0 ≤ k
  hi : k < 2
  look : ∀ t1 t2, #[Value.str "ignore" t1, Value.str "replace" t2][k.toNat]? = some (.str e (if k = 0 then t1 else t2))
theorem errAt (i : Nat) : ∃ e, ErrAt ((i : Int).fmod 2) e := by
  have hpar : ((i : Int)).fmod 2 = 0 ∨ ((i : Int)).fmod 2 = 1 := by
    rw [Int.fmod_eq_emod_of_nonneg _ (by decide)]; omega
  rcases hpar with h | h <;> rw [h]
  · exact ⟨"ignore", ⟨.inl rfl, by decide, by decide, by decide, fun _ _ => rfl⟩⟩
  · exact ⟨"replace", ⟨.inr (.inl rfl), by decide, by decide, by decide, fun _ _ => rfl⟩⟩
local macro_rules | `(tactic| walk_at "subscriptTail") => `(tactic| refine stop ?_)

theorem size3 {bs : Str} (h : bs.length ≤ 3) : (bs.cps.toList.map (·.toUInt8)).toArray.size + (#[45] : Array UInt8).size ≤ 16777216 := by
  have : bs.cps.size ≤ 3 := h
  simp; omega
def headOf (bs : Str) : Array UInt8 := (bs.cps.toList.map (·.toUInt8)).toArray ++ #[45]
theorem size4 {bs : Str} {wr : Array UInt8} {lo hi : Option Int} (h : bs.length ≤ 3) (hw : wr.size < 5000) : (headOf bs).size + (KBy.picked wr lo hi).size ≤ 16777216 := by
  have := size3 h
  have h2 := KBc.size_picked_le wr lo hi
  unfold headOf
  rw [Array.size_append]
  have : bs.cps.size ≤ 3 := h
  simp; omega
local macro_rules | `(tactic| walk_at "binaryOp Add bytes bytes") => `(tactic| refine stop ?_)

local macro_rules | `(tactic| walk_at "compareOp NotEq ref ref") => `(tactic| refine stop ?_)
/-- what punycode_decode needs of its text, and what comes -/
def PdOk (tx : Array UInt8) (res : Str) (ok : Bool) : Prop := ∃ (pos : Nat) (b0 ex : Array UInt8), tx.size < 10000 ∧ (#[45] : Array UInt8).size ≤ tx.size ∧ Builtin.Bytes.rfind? tx #[45] 0 tx.size = some pos ∧ pos < 10000 ∧
    KBy.picked tx none (some (pos : Int)) = b0 ∧ KBy.picked tx (some ((pos : Int) + 1)) none = ex ∧ b0.size ≤ 3 ∧ (∀ c ∈ b0.toList, c.toNat < 128) ∧ ex.size < 10000 ∧ (∀ c ∈ (ex.toList.map Builtin.Bytes.toUpper).toArray.toList, isFig c) ∧
    Ins (ex.toList.map Builtin.Bytes.toUpper).toArray.toList 0 72 128 (-1) ⟨(b0.toList.map (·.toNat)).toArray⟩ res ok
def dueAt (bs : Str) (wr : Array UInt8) (k : Nat) : Str := (layAt bs (rdAt bs.length wr.toList k).ns (rdAt bs.length wr.toList k).ns.length).1
structure AgOk (bs : Str) (wr : Array UInt8) : Prop where
  b3 : bs.length ≤ 3
  b128 : ∀ c ∈ bs.cps.toList, c < 128
  wz : wr.size < 5000
  rd : RdOk bs.length wr.toList
  lay : ∀ k ≤ wr.size, LayOk bs (rdAt bs.length wr.toList k).ns
  pd : ∀ k ≤ wr.size, PdOk (headOf bs ++ KBy.picked wr none (some (k : Int))) (dueAt bs wr k) (decide ((rdAt bs.length wr.toList k).p = 0))
  sok : ∀ k ≤ wr.size, PyData.strOk (dueAt bs wr k) = true
  fig : ∀ c ∈ (wr.toList.map Builtin.Bytes.toUpper).toArray.toList, isFig c
  fin : Ins (wr.toList.map Builtin.Bytes.toUpper).toArray.toList 0 72 128 (-1) bs (dueAt bs wr wr.size) true

theorem range_small {n : Nat} (h : n < 5000) : Builtin.Range.small 0 ((n : Int) + 1) 1 = true := by
  simp only [Builtin.Range.small, Builtin.Range.rangeSize]
  have e : Builtin.Range.rangeFitsLong ((n : Int) + 1) = true := by unfold Builtin.Range.rangeFitsLong; simp; omega
  simp [e]
  decide
theorem range_size {n : Nat} : Builtin.Range.rangeSize 0 ((n : Int) + 1) 1 = ((n + 1 : Nat) : Int) := by
  unfold Builtin.Range.rangeSize
  simp
theorem sts_at {R : Rd} {z : Int} {bs : List UInt8} {i n : Nat} {as : List Addr} (hl : as.length = (rdAll z bs n).length) (hA : ∀ (j : Nat) b st, as[j]? = some b → (rdAll z bs n)[j]? = some st → StR R b st) (hi : i ≤ n) :
    ∃ a, (as.map Value.ref).toArray[((i : Nat) : Int).toNat]? = some (.ref a) ∧ StR R a (rdAt z bs i) := by
  rw [rdAll_length] at hl
  have hi : i < as.length := by omega
  refine ⟨as[i], by simp [hi], hA i _ _ (List.getElem?_eq_getElem hi) ?_⟩
  have : i < n + 1 := by omega
  simp [rdAll, this]

theorem agree_k {prog : Program} {w : World} {A : Around} {s : Shared} {Q E : Value → Shared → Prop} {base : Heap} {outer : List Env} {bs : Str} {wr : Array UInt8} {t1 t2 : Tok}
    (G : Gd w base) (K : Below A base outer s.heap) (r : Rm A 6) (ok : AgOk bs wr)
    (h : ∀ h' tk', Up (frs outer) s.heap h' → Q (.bool true) { s with heap := h', toks := tk' }) :
    wpAny (model prog w) A (call (.ref 126) [.str bs t1, .bytes wr t2]) Q E s := by
  have G' : Gd w s.heap := G.keeps K.stays
  obtain ⟨X, p, loose, mean, mg, mb, T⟩ := id G'
  refine' enterF (binds := [("base", .str bs t1), ("written", .bytes wr t2)]) ?eX ?eT ?eo ?ec ?er ?eb ?el ?eco ?ege ?ek ?ece ?_
  ((case eX => k_asm); (case eT => k_asm); (case eo => k_dflt k_is); (case ec => k_dflt k_is); (case er => exact Rm.depth (by assumption)); (case eb => exact BindsTo.of_eq (by with_unfolding_all rfl)); (case el => exact locs rfl); (case eco => exact rfl); (case ege => exact rfl); (case ek => exact rfl); (case ece => decide); k_whole)
  intro L h₁ tk F N
  have hb3 := ok.b3
  have hb128 := ok.b128
  have hwz := ok.wz
  (try dsimp only)
  (k_steps; all_goals (repeat' (first | ((with_reducible refine unstop ?_); (first | (with_reducible (first | ((k_here; k_dflt ((with_reducible show wpAny _ _ (subscriptTail _ _ (Value.bytes _ _) _) _ _ _); (with_reducible rename Fr _ _ _ _ => zzF'); (with_reducible rename News _ _ _ _ => zzN'); (refine' slice_to (s := ⟨_, _, _, _, _⟩) rfl zzF' zzN' ?hl ?hu ?hz ?_; (case hl => constructor); (case hu => constructor); (case hz => omega); k_whole); intro _ _ _ _ _; (try k_sweep)))) | ((k_here; first | ((refine KBy.add_bytes (size3 (by with_reducible assumption)) ?_); intro _ _) | ((refine KBy.add_bytes (size4 (by with_reducible assumption) (by with_reducible assumption)) ?_); intro _ _))) | ((k_here; k_dflt ((with_reducible show wpAny _ _ (subscriptTail _ _ (Value.ref _) (Value.int _ _)) _ _ _); (refine' item_any ?k1 ?k2 ?k3 ?k4 ?_; (case k1 => exact ML.at (by with_reducible assumption) _ _ (by walk_at "my ml")); (case k2 => omega); (case k3 => omega); (case k4 => first | with_reducible assumption | with_reducible exact item5_0 | with_reducible exact item5_3 | exact ErrAt.look (by with_reducible assumption) _ _)); (try dsimp only)))) | ((k_here; k_dflt (refine' unpackItemsN_ ?k1 ?k2 ?k3 ?k4 ?k5 ?_; (case k1 => k_asm); (case k2 => k_asm); (case k3 => kun_tup); (case k4 => exact Rm.hd (Rm.to (m := 0) (by with_reducible assumption) (by decide))); (case k5 => exact rfl); k_whole); intro zzh' zzF' zzN'; (try k_sweep))) | ((k_here; (refine A_encode (by assumption) (by assumption) ?_); intro _ _)) | ((k_here; with_reducible refine A_mencode ?_)) | ((k_here; (refine A_upper (by omega) ?_); intro _ _)) | ((k_here; (refine A_meth BG.slot_upper BG.ty_upper ?_))) | fail)) | ((with_reducible show wpAny _ _ (call (Value.builtin "str.encode") _ _) _ _ _); ((k_here; (refine A_encode (by assumption) (by assumption) ?_); intro _ _)))); k_steps) | fail)))
  unfold Stop
  refine states_k (G'.keeps (Fr.stays (by assumption))) (r.to (by decide)) ok.rd (by omega) (by omega) (by omega) fun a9 M9 h9 tk9 k9 D9 S9 => ?_
  have F9 := Fr.grow (by assumption) k9
  have N9 := made_news (by assumption) (by assumption) k9 D9
  clear k9 D9
  k_sweep
  (k_steps; all_goals (repeat' (first | ((with_reducible refine unstop ?_); (first | (with_reducible (first | ((k_here; k_dflt ((with_reducible show wpAny _ _ (subscriptTail _ _ (Value.bytes _ _) _) _ _ _); (with_reducible rename Fr _ _ _ _ => zzF'); (with_reducible rename News _ _ _ _ => zzN'); (refine' slice_to (s := ⟨_, _, _, _, _⟩) rfl zzF' zzN' ?hl ?hu ?hz ?_; (case hl => constructor); (case hu => constructor); (case hz => omega); k_whole); intro _ _ _ _ _; (try k_sweep)))) | ((k_here; first | ((refine KBy.add_bytes (size3 (by with_reducible assumption)) ?_); intro _ _) | ((refine KBy.add_bytes (size4 (by with_reducible assumption) (by with_reducible assumption)) ?_); intro _ _))) | ((k_here; k_dflt ((with_reducible show wpAny _ _ (subscriptTail _ _ (Value.ref _) (Value.int _ _)) _ _ _); (refine' item_any ?k1 ?k2 ?k3 ?k4 ?_; (case k1 => exact ML.at (by with_reducible assumption) _ _ (by walk_at "my ml")); (case k2 => omega); (case k3 => omega); (case k4 => first | with_reducible assumption | with_reducible exact item5_0 | with_reducible exact item5_3 | exact ErrAt.look (by with_reducible assumption) _ _)); (try dsimp only)))) | ((k_here; k_dflt (refine' unpackItemsN_ ?k1 ?k2 ?k3 ?k4 ?k5 ?_; (case k1 => k_asm); (case k2 => k_asm); (case k3 => kun_tup); (case k4 => exact Rm.hd (Rm.to (m := 0) (by with_reducible assumption) (by decide))); (case k5 => exact rfl); k_whole); intro zzh' zzF' zzN'; (try k_sweep))) | ((k_here; (refine A_encode (by assumption) (by assumption) ?_); intro _ _)) | ((k_here; with_reducible refine A_mencode ?_)) | ((k_here; (refine A_upper (by omega) ?_); intro _ _)) | ((k_here; (refine A_meth BG.slot_upper BG.ty_upper ?_))) | fail)) | ((with_reducible show wpAny _ _ (call (Value.builtin "str.encode") _ _) _ _ _); ((k_here; (refine A_encode (by assumption) (by assumption) ?_); intro _ _)))); k_steps) | fail)))
  unfold Stop
  refine wpAny_For ?_ (fun _ => rfl)
  (k_steps; all_goals (repeat' (first | ((with_reducible refine unstop ?_); (first | (with_reducible (first | ((k_here; k_dflt ((with_reducible show wpAny _ _ (subscriptTail _ _ (Value.bytes _ _) _) _ _ _); (with_reducible rename Fr _ _ _ _ => zzF'); (with_reducible rename News _ _ _ _ => zzN'); (refine' slice_to (s := ⟨_, _, _, _, _⟩) rfl zzF' zzN' ?hl ?hu ?hz ?_; (case hl => constructor); (case hu => constructor); (case hz => omega); k_whole); intro _ _ _ _ _; (try k_sweep)))) | ((k_here; first | ((refine KBy.add_bytes (size3 (by with_reducible assumption)) ?_); intro _ _) | ((refine KBy.add_bytes (size4 (by with_reducible assumption) (by with_reducible assumption)) ?_); intro _ _))) | ((k_here; k_dflt ((with_reducible show wpAny _ _ (subscriptTail _ _ (Value.ref _) (Value.int _ _)) _ _ _); (refine' item_any ?k1 ?k2 ?k3 ?k4 ?_; (case k1 => exact ML.at (by with_reducible assumption) _ _ (by walk_at "my ml")); (case k2 => omega); (case k3 => omega); (case k4 => first | with_reducible assumption | with_reducible exact item5_0 | with_reducible exact item5_3 | exact ErrAt.look (by with_reducible assumption) _ _)); (try dsimp only)))) | ((k_here; k_dflt (refine' unpackItemsN_ ?k1 ?k2 ?k3 ?k4 ?k5 ?_; (case k1 => k_asm); (case k2 => k_asm); (case k3 => kun_tup); (case k4 => exact Rm.hd (Rm.to (m := 0) (by with_reducible assumption) (by decide))); (case k5 => exact rfl); k_whole); intro zzh' zzF' zzN'; (try k_sweep))) | ((k_here; (refine A_encode (by assumption) (by assumption) ?_); intro _ _)) | ((k_here; with_reducible refine A_mencode ?_)) | ((k_here; (refine A_upper (by omega) ?_); intro _ _)) | ((k_here; (refine A_meth BG.slot_upper BG.ty_upper ?_))) | fail)) | ((with_reducible show wpAny _ _ (call (Value.builtin "str.encode") _ _) _ _ _); ((k_here; (refine A_encode (by assumption) (by assumption) ?_); intro _ _)))); k_steps) | fail)))
  unfold Stop
  (with_reducible rename News _ _ _ _ => N8)
  (with_reducible rename Fr _ _ _ _ => F8)
  (with_reducible rename IsRange _ _ _ _ _ _ _ _ => R8)
  refine wpAny_pyIter_range R8 (range_small hwz) ?_
  refine for_turn (A := A) (base := base) (outer := outer) (g₀ := s.heap) (fun i m R => ∃ S th, m "base" = some (.str bs t1) ∧ m "written" = some (.bytes wr t2) ∧ m "head" = some (.bytes (headOf bs) th) ∧ m "states" = some (.ref S) ∧ StsR R S (rdAll bs.length wr.toList wr.size) ∧ (0 < i → ∃ t, m "due" = some (.str (dueAt bs wr (i - 1)) t))) ?_
    (Walks.range (show (A.deeper _).handled = none from r.hd) _ 0 1 (wr.size + 1)) ?_ (next_is_new F8) ?_ ?_ .refl K (F8.push _) (fun p hp => ⟨Heap.get?_push_of_some _ (N8 p hp).1, (N8 p hp).2⟩) ?_ rfl rfl ?_ ?_
  · rintro i m R R' k ⟨S, th, q1, q2, q3, q4, q5, q6⟩
    exact ⟨S, th, q1, q2, q3, q4, q5.mono k, q6⟩
  · rintro i h ho
    exact ⟨_, ho, rfl⟩
  · exact Ne.symm (Nat.ne_of_lt F8.ns.lt)
  · show IsRangeIter _ _ _ _ _
    rw [range_size]
    simpa using Heap.get?_push_size _ rfl
  · exact ⟨_, _, rfl, rfl, rfl, rfl, S9.mono fun _ _ x => x.left, fun q => absurd q (Nat.lt_irrefl _)⟩
  · intro i v g m₁ news₁ own h2 tk2 hi hP T2 K2 hJ F2 N2 ho
    refine Exists.elim hP fun tv hv => ?_
    have hv' : v = .int (i : Int) tv := by rw [hv]; simp
    clear hv hP
    subst hv'
    refine Exists.elim hJ fun S hJ => Exists.elim hJ fun th hJ => ?_
    have hst5 := hJ.2.2.2.2.1
    refine Exists.elim hst5 fun as hS => ?_
    refine Exists.elim (sts_at hS.2.1 hS.2.2 (by omega : i ≤ wr.size)) fun a ha => ?_
    have hidx := ha.1
    have hSm := hS.1
    refine Exists.elim ha.2 fun ln q => Exists.elim q fun w1 q => Exists.elim q fun w2 q => Exists.elim q fun w3 q => Exists.elim q fun w4 q => ?_
    have ham := q.1
    have hln := q.2
    clear q ha
    replace F2 := Fr.view F2 [("k", .int i tv), ("base", .str bs t1), ("written", .bytes wr t2), ("head", .bytes (headOf bs) th), ("states", .ref S)] (by simp only [List.forall_mem_cons]; exact ⟨rfl, hJ.1, hJ.2.1, hJ.2.2.1, hJ.2.2.2.1, List.forall_mem_nil _⟩)
    have G2 := G.keeps K2.stays
    have X2 := G2.K
    refine Exists.elim G2.T fun p3 G3 => Exists.elim G3 fun loose3 G3 => Exists.elim G3 fun mean3 G3 => Exists.elim G3 fun mg3 G3 => Exists.elim G3 fun mb3 P3 => ?_
    clear F8 N8 X T hJ
    (k_steps; all_goals (repeat' (first | ((with_reducible refine unstop ?_); (first | (with_reducible (first | ((k_here; k_dflt ((with_reducible show wpAny _ _ (subscriptTail _ _ (Value.bytes _ _) _) _ _ _); (with_reducible rename Fr _ _ _ _ => zzF'); (with_reducible rename News _ _ _ _ => zzN'); (refine' slice_to (s := ⟨_, _, _, _, _⟩) rfl zzF' zzN' ?hl ?hu ?hz ?_; (case hl => constructor); (case hu => constructor); (case hz => omega); k_whole); intro _ _ _ _ _; (try k_sweep)))) | ((k_here; first | ((refine KBy.add_bytes (size3 (by with_reducible assumption)) ?_); intro _ _) | ((refine KBy.add_bytes (size4 (by with_reducible assumption) (by with_reducible assumption)) ?_); intro _ _))) | ((k_here; k_dflt ((with_reducible show wpAny _ _ (subscriptTail _ _ (Value.ref _) (Value.int _ _)) _ _ _); (refine' item_any ?k1 ?k2 ?k3 ?k4 ?_; (case k1 => exact ML.at (by with_reducible assumption) _ _ (by walk_at "my ml")); (case k2 => omega); (case k3 => omega); (case k4 => first | with_reducible assumption | with_reducible exact item5_0 | with_reducible exact item5_3 | exact ErrAt.look (by with_reducible assumption) _ _)); (try dsimp only)))) | ((k_here; k_dflt (refine' unpackItemsN_ ?k1 ?k2 ?k3 ?k4 ?k5 ?_; (case k1 => k_asm); (case k2 => k_asm); (case k3 => kun_tup); (case k4 => exact Rm.hd (Rm.to (m := 0) (by with_reducible assumption) (by decide))); (case k5 => exact rfl); k_whole); intro zzh' zzF' zzN'; (try k_sweep))) | ((k_here; (refine A_encode (by assumption) (by assumption) ?_); intro _ _)) | ((k_here; with_reducible refine A_mencode ?_)) | ((k_here; (refine A_upper (by omega) ?_); intro _ _)) | ((k_here; (refine A_meth BG.slot_upper BG.ty_upper ?_))) | fail)) | ((with_reducible show wpAny _ _ (call (Value.builtin "str.encode") _ _) _ _ _); ((k_here; (refine A_encode (by assumption) (by assumption) ?_); intro _ _)))); k_steps) | fail)))
    unfold Stop
    refine text_k (G2.keeps (Fr.stays (by assumption))) (r.to (by decide)) (hln.mono (ML.at (by assumption))) (ok.lay i (by omega)) (by omega) fun t9 h9 tk9 k9 => ?_
    have F9 := Fr.grow (by assumption) k9
    have N9 := News.grow (by assumption) k9
    have hpd := ok.pd i (by omega)
    have hdd : (layAt bs (rdAt bs.length wr.toList i).ns (rdAt bs.length wr.toList i).ns.length).1 = dueAt bs wr i := rfl
    rw [hdd]
    clear hdd
    have hsok := ok.sok i (by omega)
    generalize hdue : dueAt bs wr i = due9 at hpd hsok ⊢
    clear k9 F2 N2
    k_sweep
    refine Exists.elim (errAt i) fun e9 he9 => ?_
    have hlo9 := he9.lo
    have hhi9 := he9.hi
    (k_steps; all_goals (repeat' (first | ((with_reducible refine unstop ?_); (first | (with_reducible (first | ((k_here; k_dflt ((with_reducible show wpAny _ _ (subscriptTail _ _ (Value.bytes _ _) _) _ _ _); (with_reducible rename Fr _ _ _ _ => zzF'); (with_reducible rename News _ _ _ _ => zzN'); (refine' slice_to (s := ⟨_, _, _, _, _⟩) rfl zzF' zzN' ?hl ?hu ?hz ?_; (case hl => constructor); (case hu => constructor); (case hz => omega); k_whole); intro _ _ _ _ _; (try k_sweep)))) | ((k_here; first | ((refine KBy.add_bytes (size3 (by with_reducible assumption)) ?_); intro _ _) | ((refine KBy.add_bytes (size4 (by with_reducible assumption) (by with_reducible assumption)) ?_); intro _ _))) | ((k_here; k_dflt ((with_reducible show wpAny _ _ (subscriptTail _ _ (Value.ref _) (Value.int _ _)) _ _ _); (refine' item_any ?k1 ?k2 ?k3 ?k4 ?_; (case k1 => exact ML.at (by with_reducible assumption) _ _ (by walk_at "my ml")); (case k2 => omega); (case k3 => omega); (case k4 => first | with_reducible assumption | with_reducible exact item5_0 | with_reducible exact item5_3 | exact ErrAt.look (by with_reducible assumption) _ _)); (try dsimp only)))) | ((k_here; k_dflt (refine' unpackItemsN_ ?k1 ?k2 ?k3 ?k4 ?k5 ?_; (case k1 => k_asm); (case k2 => k_asm); (case k3 => kun_tup); (case k4 => exact Rm.hd (Rm.to (m := 0) (by with_reducible assumption) (by decide))); (case k5 => exact rfl); k_whole); intro zzh' zzF' zzN'; (try k_sweep))) | ((k_here; (refine A_encode (by assumption) (by assumption) ?_); intro _ _)) | ((k_here; with_reducible refine A_mencode ?_)) | ((k_here; (refine A_upper (by omega) ?_); intro _ _)) | ((k_here; (refine A_meth BG.slot_upper BG.ty_upper ?_))) | fail)) | ((with_reducible show wpAny _ _ (call (Value.builtin "str.encode") _ _) _ _ _); ((k_here; (refine A_encode (by assumption) (by assumption) ?_); intro _ _)))); k_steps) | fail)))
    all_goals (
      unfold Stop
      refine Exists.elim hpd fun pos hpd => Exists.elim hpd fun b0 hpd => Exists.elim hpd fun ex hpd => ?_
      have pd1 := hpd.1
      have pd2 := hpd.2.1
      have pd3 := hpd.2.2.1
      have pd4 := hpd.2.2.2.1
      have pd5 := hpd.2.2.2.2.1
      have pd6 := hpd.2.2.2.2.2.1
      have pd7 := hpd.2.2.2.2.2.2.1
      have pd8 := hpd.2.2.2.2.2.2.2.1
      have pd9 := hpd.2.2.2.2.2.2.2.2.1
      have pd10 := hpd.2.2.2.2.2.2.2.2.2.1
      have pd11 := hpd.2.2.2.2.2.2.2.2.2.2
      clear hpd
      (with_reducible rename Fr _ _ _ _ => F1)
      (with_reducible rename News _ _ _ _ => N1)
      refine pd_k G (K2.push F1) (r.to (by decide)) he9.ok pd1 pd2 pd3 pd4 pd5 pd6 pd7 pd8 pd9 pd10 pd11 ?_ (fun _ q => absurd q he9.ne)
      intro _ t10 h10 tk10 U10
      refine Exists.elim (up_fr K2 F1 N1 U10) fun g10 q10 => ?_
      have T10 := q10.1
      have K10 := q10.2.1
      have F10 := q10.2.2.1
      have N10 := q10.2.2.2
      have G10 := G.keeps K10.stays
      have X10 := G10.K
      refine Exists.elim G10.T fun p4 G3 => Exists.elim G3 fun loose4 G3 => Exists.elim G3 fun mean4 G3 => Exists.elim G3 fun mg4 G3 => Exists.elim G3 fun mb4 P4 => ?_
      clear F1 N1 q10 U10 X2 P3
      k_sweep
      (k_steps; all_goals (repeat' (first | ((with_reducible refine unstop ?_); (first | (with_reducible (first | ((k_here; k_dflt ((with_reducible show wpAny _ _ (subscriptTail _ _ (Value.bytes _ _) _) _ _ _); (with_reducible rename Fr _ _ _ _ => zzF'); (with_reducible rename News _ _ _ _ => zzN'); (refine' slice_to (s := ⟨_, _, _, _, _⟩) rfl zzF' zzN' ?hl ?hu ?hz ?_; (case hl => constructor); (case hu => constructor); (case hz => omega); k_whole); intro _ _ _ _ _; (try k_sweep)))) | ((k_here; first | ((refine KBy.add_bytes (size3 (by with_reducible assumption)) ?_); intro _ _) | ((refine KBy.add_bytes (size4 (by with_reducible assumption) (by with_reducible assumption)) ?_); intro _ _))) | ((k_here; k_dflt ((with_reducible show wpAny _ _ (subscriptTail _ _ (Value.ref _) (Value.int _ _)) _ _ _); (refine' item_any ?k1 ?k2 ?k3 ?k4 ?_; (case k1 => exact ML.at (by with_reducible assumption) _ _ (by walk_at "my ml")); (case k2 => omega); (case k3 => omega); (case k4 => first | with_reducible assumption | with_reducible exact item5_0 | with_reducible exact item5_3 | exact ErrAt.look (by with_reducible assumption) _ _)); (try dsimp only)))) | ((k_here; k_dflt (refine' unpackItemsN_ ?k1 ?k2 ?k3 ?k4 ?k5 ?_; (case k1 => k_asm); (case k2 => k_asm); (case k3 => kun_tup); (case k4 => exact Rm.hd (Rm.to (m := 0) (by with_reducible assumption) (by decide))); (case k5 => exact rfl); k_whole); intro zzh' zzF' zzN'; (try k_sweep))) | ((k_here; (refine A_encode (by assumption) (by assumption) ?_); intro _ _)) | ((k_here; with_reducible refine A_mencode ?_)) | ((k_here; (refine A_upper (by omega) ?_); intro _ _)) | ((k_here; (refine A_meth BG.slot_upper BG.ty_upper ?_))) | fail)) | ((with_reducible show wpAny _ _ (call (Value.builtin "str.encode") _ _) _ _ _); ((k_here; (refine A_encode (by assumption) (by assumption) ?_); intro _ _)))); k_steps) | fail)))
      unfold Stop
      (with_reducible rename Fr _ _ _ _ => F3)
      (with_reducible rename News _ _ _ _ => N3)
      refine strict_k G (K10.push F3) (r.to (by decide)) pd1 pd2 pd3 pd4 pd5 pd6 pd7 pd8 pd9 pd10 pd11 ?_ ?_
      all_goals (
        intro hok11
        first
        | (exfalso; have q11 := of_decide_eq_true hok11; with_reducible (exact absurd q11 (by assumption)))
        | (exfalso; have q11 := of_decide_eq_false hok11; with_reducible (exact absurd (by assumption) q11))
        | skip)
      all_goals (
        intros
        (with_reducible rename Up _ _ _ => U11)
        refine Exists.elim (up_fr K10 F3 N3 U11) fun g11 q11 => ?_
        have T11 := q11.1
        have K11 := q11.2.1
        have F11 := q11.2.2.1
        have N11 := q11.2.2.2
        have G11 := G.keeps K11.stays
        have X11 := G11.K
        refine Exists.elim G11.T fun p5 G3 => Exists.elim G3 fun loose5 G3 => Exists.elim G3 fun mean5 G3 => Exists.elim G3 fun mg5 G3 => Exists.elim G3 fun mb5 P5 => ?_
        clear F3 N3 q11 U11 X10 P4 pd1 pd2 pd3 pd4 pd5 pd6 pd7 pd8 pd9 pd10 pd11 hok11
        k_sweep
        (k_steps; all_goals (repeat' (first | ((with_reducible refine unstop ?_); (first | (with_reducible (first | ((k_here; k_dflt ((with_reducible show wpAny _ _ (subscriptTail _ _ (Value.bytes _ _) _) _ _ _); (with_reducible rename Fr _ _ _ _ => zzF'); (with_reducible rename News _ _ _ _ => zzN'); (refine' slice_to (s := ⟨_, _, _, _, _⟩) rfl zzF' zzN' ?hl ?hu ?hz ?_; (case hl => constructor); (case hu => constructor); (case hz => omega); k_whole); intro _ _ _ _ _; (try k_sweep)))) | ((k_here; first | ((refine KBy.add_bytes (size3 (by with_reducible assumption)) ?_); intro _ _) | ((refine KBy.add_bytes (size4 (by with_reducible assumption) (by with_reducible assumption)) ?_); intro _ _))) | ((k_here; k_dflt ((with_reducible show wpAny _ _ (subscriptTail _ _ (Value.ref _) (Value.int _ _)) _ _ _); (refine' item_any ?k1 ?k2 ?k3 ?k4 ?_; (case k1 => exact ML.at (by with_reducible assumption) _ _ (by walk_at "my ml")); (case k2 => omega); (case k3 => omega); (case k4 => first | with_reducible assumption | with_reducible exact item5_0 | with_reducible exact item5_3 | exact ErrAt.look (by with_reducible assumption) _ _)); (try dsimp only)))) | ((k_here; k_dflt (refine' unpackItemsN_ ?k1 ?k2 ?k3 ?k4 ?k5 ?_; (case k1 => k_asm); (case k2 => k_asm); (case k3 => kun_tup); (case k4 => exact Rm.hd (Rm.to (m := 0) (by with_reducible assumption) (by decide))); (case k5 => exact rfl); k_whole); intro zzh' zzF' zzN'; (try k_sweep))) | ((k_here; (refine A_encode (by assumption) (by assumption) ?_); intro _ _)) | ((k_here; with_reducible refine A_mencode ?_)) | ((k_here; (refine A_upper (by omega) ?_); intro _ _)) | ((k_here; (refine A_meth BG.slot_upper BG.ty_upper ?_))) | fail)) | ((with_reducible show wpAny _ _ (call (Value.builtin "str.encode") _ _) _ _ _); ((k_here; (refine A_encode (by assumption) (by assumption) ?_); intro _ _)))); k_steps) | fail)))
        unfold Stop
        (with_reducible rename Fr _ _ _ _ => F5)
        (with_reducible rename News _ _ _ _ => N5)
        first
        | refine ne_told1 (d := due9) (ML.at N5 _ _ ⟨_, .tail _ (.head _), rfl, _, rfl⟩) (ML.at N5 _ _ ⟨_, .head _, rfl, _, rfl⟩) hsok (Rm.units (r.to (m := 0) (by decide))) ?_
        | refine ne_told2 (d := due9) (ML.at N5 _ _ ⟨_, .tail _ (.head _), rfl, _, rfl⟩) (ML.at N5 _ _ ⟨_, .head _, rfl, _, rfl⟩) hsok (Rm.units (r.to (m := 0) (by decide))) ?_
        (k_steps; all_goals (repeat' (first | ((with_reducible refine unstop ?_); (first | (with_reducible (first | ((k_here; k_dflt ((with_reducible show wpAny _ _ (subscriptTail _ _ (Value.bytes _ _) _) _ _ _); (with_reducible rename Fr _ _ _ _ => zzF'); (with_reducible rename News _ _ _ _ => zzN'); (refine' slice_to (s := ⟨_, _, _, _, _⟩) rfl zzF' zzN' ?hl ?hu ?hz ?_; (case hl => constructor); (case hu => constructor); (case hz => omega); k_whole); intro _ _ _ _ _; (try k_sweep)))) | ((k_here; first | ((refine KBy.add_bytes (size3 (by with_reducible assumption)) ?_); intro _ _) | ((refine KBy.add_bytes (size4 (by with_reducible assumption) (by with_reducible assumption)) ?_); intro _ _))) | ((k_here; k_dflt ((with_reducible show wpAny _ _ (subscriptTail _ _ (Value.ref _) (Value.int _ _)) _ _ _); (refine' item_any ?k1 ?k2 ?k3 ?k4 ?_; (case k1 => exact ML.at (by with_reducible assumption) _ _ (by walk_at "my ml")); (case k2 => omega); (case k3 => omega); (case k4 => first | with_reducible assumption | with_reducible exact item5_0 | with_reducible exact item5_3 | exact ErrAt.look (by with_reducible assumption) _ _)); (try dsimp only)))) | ((k_here; k_dflt (refine' unpackItemsN_ ?k1 ?k2 ?k3 ?k4 ?k5 ?_; (case k1 => k_asm); (case k2 => k_asm); (case k3 => kun_tup); (case k4 => exact Rm.hd (Rm.to (m := 0) (by with_reducible assumption) (by decide))); (case k5 => exact rfl); k_whole); intro zzh' zzF' zzN'; (try k_sweep))) | ((k_here; (refine A_encode (by assumption) (by assumption) ?_); intro _ _)) | ((k_here; with_reducible refine A_mencode ?_)) | ((k_here; (refine A_upper (by omega) ?_); intro _ _)) | ((k_here; (refine A_meth BG.slot_upper BG.ty_upper ?_))) | fail)) | ((with_reducible show wpAny _ _ (call (Value.builtin "str.encode") _ _) _ _ _); ((k_here; (refine A_encode (by assumption) (by assumption) ?_); intro _ _)))); k_steps) | fail)))
        dsimp only
        refine Halt.mk ⟨_, _, g11, _, _, rfl, (T2.trans T10).trans T11, K11, F5, N5, fun p hp => .tail _ (.tail _ (.tail _ (ho p hp))), S, th, rfl, rfl, rfl, rfl, hst5.mono (fun _ _ x => .tail (.tail (.tail x))), fun _ => ⟨t9, ?_⟩⟩
        rw [show dueAt bs wr (i + 1 - 1) = due9 from hdue]
        rfl))
  · intro g m₁ news₁ h2 tk2 T2 K2 hJ F2 N2
    refine Exists.elim hJ fun S hJ => Exists.elim hJ fun th hJ => ?_
    refine Exists.elim (hJ.2.2.2.2.2 (Nat.succ_pos _)) fun td hdue => ?_
    replace F2 := Fr.view F2 [("base", .str bs t1), ("written", .bytes wr t2), ("due", .str (dueAt bs wr wr.size) td)] (by simp only [List.forall_mem_cons]; exact ⟨hJ.1, hJ.2.1, hdue, List.forall_mem_nil _⟩)
    have G2 := G.keeps K2.stays
    have X2 := G2.K
    refine Exists.elim G2.T fun p3 G3 => Exists.elim G3 fun loose3 G3 => Exists.elim G3 fun mean3 G3 => Exists.elim G3 fun mg3 G3 => Exists.elim G3 fun mb3 P3 => ?_
    clear F8 N8 X T hJ hdue
    dsimp only
    (k_steps; all_goals (repeat' (first | ((with_reducible refine unstop ?_); (first | (with_reducible (first | ((k_here; k_dflt ((with_reducible show wpAny _ _ (subscriptTail _ _ (Value.bytes _ _) _) _ _ _); (with_reducible rename Fr _ _ _ _ => zzF'); (with_reducible rename News _ _ _ _ => zzN'); (refine' slice_to (s := ⟨_, _, _, _, _⟩) rfl zzF' zzN' ?hl ?hu ?hz ?_; (case hl => constructor); (case hu => constructor); (case hz => omega); k_whole); intro _ _ _ _ _; (try k_sweep)))) | ((k_here; first | ((refine KBy.add_bytes (size3 (by with_reducible assumption)) ?_); intro _ _) | ((refine KBy.add_bytes (size4 (by with_reducible assumption) (by with_reducible assumption)) ?_); intro _ _))) | ((k_here; k_dflt ((with_reducible show wpAny _ _ (subscriptTail _ _ (Value.ref _) (Value.int _ _)) _ _ _); (refine' item_any ?k1 ?k2 ?k3 ?k4 ?_; (case k1 => exact ML.at (by with_reducible assumption) _ _ (by walk_at "my ml")); (case k2 => omega); (case k3 => omega); (case k4 => first | with_reducible assumption | with_reducible exact item5_0 | with_reducible exact item5_3 | exact ErrAt.look (by with_reducible assumption) _ _)); (try dsimp only)))) | ((k_here; k_dflt (refine' unpackItemsN_ ?k1 ?k2 ?k3 ?k4 ?k5 ?_; (case k1 => k_asm); (case k2 => k_asm); (case k3 => kun_tup); (case k4 => exact Rm.hd (Rm.to (m := 0) (by with_reducible assumption) (by decide))); (case k5 => exact rfl); k_whole); intro zzh' zzF' zzN'; (try k_sweep))) | ((k_here; (refine A_encode (by assumption) (by assumption) ?_); intro _ _)) | ((k_here; with_reducible refine A_mencode ?_)) | ((k_here; (refine A_upper (by omega) ?_); intro _ _)) | ((k_here; (refine A_meth BG.slot_upper BG.ty_upper ?_))) | fail)) | ((with_reducible show wpAny _ _ (call (Value.builtin "str.encode") _ _) _ _ _); ((k_here; (refine A_encode (by assumption) (by assumption) ?_); intro _ _)))); k_steps) | fail)))
    unfold Stop
    (with_reducible rename Fr _ _ _ _ => F1)
    (with_reducible rename News _ _ _ _ => N1)
    refine ins_k G (K2.push F1) (r.to (by decide)) (by simp; omega) ok.fig ok.fin ?_ (fun q => by cases q)
    intro _ t10 h10 tk10 U10
    refine Exists.elim (up_fr K2 F1 N1 U10) fun g10 q10 => ?_
    have T10 := q10.1
    have K10 := q10.2.1
    have F10 := q10.2.2.1
    have N10 := q10.2.2.2
    have G10 := G.keeps K10.stays
    have X10 := G10.K
    refine Exists.elim G10.T fun p4 G3 => Exists.elim G3 fun loose4 G3 => Exists.elim G3 fun mean4 G3 => Exists.elim G3 fun mg4 G3 => Exists.elim G3 fun mb4 P4 => ?_
    clear F1 N1 q10 U10 X2 P3
    k_sweep
    (k_steps; all_goals (repeat' (first | ((with_reducible refine unstop ?_); (first | (with_reducible (first | ((k_here; k_dflt ((with_reducible show wpAny _ _ (subscriptTail _ _ (Value.bytes _ _) _) _ _ _); (with_reducible rename Fr _ _ _ _ => zzF'); (with_reducible rename News _ _ _ _ => zzN'); (refine' slice_to (s := ⟨_, _, _, _, _⟩) rfl zzF' zzN' ?hl ?hu ?hz ?_; (case hl => constructor); (case hu => constructor); (case hz => omega); k_whole); intro _ _ _ _ _; (try k_sweep)))) | ((k_here; first | ((refine KBy.add_bytes (size3 (by with_reducible assumption)) ?_); intro _ _) | ((refine KBy.add_bytes (size4 (by with_reducible assumption) (by with_reducible assumption)) ?_); intro _ _))) | ((k_here; k_dflt ((with_reducible show wpAny _ _ (subscriptTail _ _ (Value.ref _) (Value.int _ _)) _ _ _); (refine' item_any ?k1 ?k2 ?k3 ?k4 ?_; (case k1 => exact ML.at (by with_reducible assumption) _ _ (by walk_at "my ml")); (case k2 => omega); (case k3 => omega); (case k4 => first | with_reducible assumption | with_reducible exact item5_0 | with_reducible exact item5_3 | exact ErrAt.look (by with_reducible assumption) _ _)); (try dsimp only)))) | ((k_here; k_dflt (refine' unpackItemsN_ ?k1 ?k2 ?k3 ?k4 ?k5 ?_; (case k1 => k_asm); (case k2 => k_asm); (case k3 => kun_tup); (case k4 => exact Rm.hd (Rm.to (m := 0) (by with_reducible assumption) (by decide))); (case k5 => exact rfl); k_whole); intro zzh' zzF' zzN'; (try k_sweep))) | ((k_here; (refine A_encode (by assumption) (by assumption) ?_); intro _ _)) | ((k_here; with_reducible refine A_mencode ?_)) | ((k_here; (refine A_upper (by omega) ?_); intro _ _)) | ((k_here; (refine A_meth BG.slot_upper BG.ty_upper ?_))) | fail)) | ((with_reducible show wpAny _ _ (call (Value.builtin "str.encode") _ _) _ _ _); ((k_here; (refine A_encode (by assumption) (by assumption) ?_); intro _ _)))); k_steps) | fail)))
    rw [beq_self_eq_true]
    exact h _ _ (Up.trans_turn (T2.trans T10) (Fr.stays (by assumption)))
end Mine
end
-- part FG
section
open PySem PySem.W PyProof.Rows
namespace Mine
theorem anewFG {M : Model} {A : Around} {E : Value → Shared → Prop} {s : Shared} {Q : Nat → Shared → Prop} (h : Q 0 s) : wpAny M A (pure 0) Q E s := by
  first | (walk1; exact h) | exact wpAny_pure h
end Mine
end
section
open PySem PySem.W PyProof.Rows
set_option maxRecDepth 100000
set_option maxHeartbeats 1000000
namespace Mine
theorem fill16 : PySem.Challenge.rw_ny0167_01 = PySem.Challenge.rw_ny0167_01 ∧ MineHd.hd.heap_1 = MineHd.hd.heap_1 := by
  k_fill
  exact ⟨rfl, rfl⟩
local macro_rules | `(tactic| walk_at "call ref") => `(tactic| refine stop ?_)
local macro_rules | `(tactic| walk_at "assign Tuple") => `(tactic| refine stop ?_)
theorem wr_size {b : Array UInt8} {d bias : Int} (h : b.size < 10000) (h0 : 0 ≤ d) (h1 : d < 10 ^ 31) : b.size + (ggiF d 0 bias).toArray.size ≤ 16777216 := by
  have := ggiF_len (b := bias) 31 (j := 0) h0 h1
  simp; omega
local macro_rules | `(tactic| walk_at "binaryOp Add bytes bytes") => `(tactic| refine stop ?_)

theorem write_k {prog : Program} {w : World} {A : Around} {s : Shared} {Q : Value → Shared → Prop} {l : Addr} {b : Array UInt8} {bias cnt d z : Int} {t1 t2 t3 t4 t5 : Tok}
    (G : Gd w s.heap) (r : Rm A 3) (hl : s.heap.IsList l #[.bytes b t1, .int bias t2, .int cnt t3]) (hb : b.size < 10000) (hd0 : 0 ≤ d) (hd1 : d < 10 ^ 31) (hc0 : 0 ≤ cnt) (hc1 : cnt < 1000) (hz0 : 0 ≤ z) (hz : z < 1000)
    (h : ∀ a u1 u2 u3 h' tk', s.heap.StaysIn h' → s.heap.get? a = none → h'.get? a = some (lstObj [.bytes (b ++ (ggiF d 0 bias).toArray) u1, .int (adf d (cnt == 0) (z + cnt + 1)) u2, .int (cnt + 1) u3]) → Q (.ref a) { s with heap := h', toks := tk' }) :
    wpN (model prog w) A (call (.ref 79) [.ref l, .int d t4, .int z t5]) Q s := by
  obtain ⟨X, p, loose, mean, mg, mb, T⟩ := id G
  refine' enterN (binds := [("state", .ref l), ("delta", .int d t4), ("size", .int z t5)]) ?eX ?eT ?eo ?ec ?er ?eb ?el ?eco ?ege ?ek ?ece ?_
  ((case eX => k_asm); (case eT => k_asm); (case eo => k_dflt k_is); (case ec => k_dflt k_is); (case er => exact Rm.depth (by assumption)); (case eb => exact BindsTo.of_eq (by with_unfolding_all rfl)); (case el => exact locs rfl); (case eco => exact rfl); (case ege => exact rfl); (case ek => exact rfl); (case ece => decide); k_whole)
  intro L h₁ tk F N
  have hsz := wr_size (bias := bias) hb hd0 hd1
  (try dsimp only)
  refine N_consA ?_
  (k_steps; all_goals (repeat' (first | ((with_reducible refine unstop ?_); (first | (with_reducible (first | ((k_here; ((refine KBy.add_bytes (by with_reducible assumption) ?_); intro _ _))) | ((k_here; (with_reducible show wpAny _ _ (assign (Expr.Tuple _ _ _) _ (Value.ref _)) _ _ _); ( k_dflt (refine' kun_list ?k1 ?k2 ?k3 ?k4 ?k5 ?k6 ?_; (case k1 => k_asm); (case k2 => k_asm); (case k3 => exact stays_list (Fr.stays (by assumption)) (by assumption)); (case k4 => exact Rm.hd (Rm.to (m := 0) (by assumption) (by decide))); (case k5 => exact rfl); (case k6 => exact rfl); k_whole)); intro zzh' zzF' zzN'; (try k_sweep))) | ((k_here; (with_reducible refine' adapt_k ?g9 ?r9 ?a9 ?b9 ?c9 ?_); (case g9 => exact Gd.keeps (by assumption) (Fr.stays (by assumption))); (case r9 => exact Rm.to (by assumption) (by decide)); (case a9 => omega); (case b9 => omega); (case c9 => omega); intro zzt9 zzh9 zztk9 zzk9; (have zzF9 := Fr.grow (by assumption) zzk9); (have zzN9 := News.grow (by assumption) zzk9); (try k_sweep))) | fail)) ); k_steps) | fail)))
  refine N_cons (N_Assign (N_Call ?_))
  (k_steps; all_goals (repeat' (first | ((with_reducible refine unstop ?_); (first | (with_reducible (first | ((k_here; ((refine KBy.add_bytes (by with_reducible assumption) ?_); intro _ _))) | ((k_here; (with_reducible show wpAny _ _ (assign (Expr.Tuple _ _ _) _ (Value.ref _)) _ _ _); ( k_dflt (refine' kun_list ?k1 ?k2 ?k3 ?k4 ?k5 ?k6 ?_; (case k1 => k_asm); (case k2 => k_asm); (case k3 => exact stays_list (Fr.stays (by assumption)) (by assumption)); (case k4 => exact Rm.hd (Rm.to (m := 0) (by assumption) (by decide))); (case k5 => exact rfl); (case k6 => exact rfl); k_whole)); intro zzh' zzF' zzN'; (try k_sweep))) | ((k_here; (with_reducible refine' adapt_k ?g9 ?r9 ?a9 ?b9 ?c9 ?_); (case g9 => exact Gd.keeps (by assumption) (Fr.stays (by assumption))); (case r9 => exact Rm.to (by assumption) (by decide)); (case a9 => omega); (case b9 => omega); (case c9 => omega); intro zzt9 zzh9 zztk9 zzk9; (have zzF9 := Fr.grow (by assumption) zzk9); (have zzN9 := News.grow (by assumption) zzk9); (try k_sweep))) | fail)) ); k_steps) | fail)))
  dsimp only
  refine' N_callF (K := MineHd.hd.heap_1 w.params) X ?ho ?_
  case ho => k_dflt k_is
  (k_steps; all_goals (repeat' (first | ((with_reducible refine unstop ?_); (first | (with_reducible (first | ((k_here; ((refine KBy.add_bytes (by with_reducible assumption) ?_); intro _ _))) | ((k_here; (with_reducible show wpAny _ _ (assign (Expr.Tuple _ _ _) _ (Value.ref _)) _ _ _); ( k_dflt (refine' kun_list ?k1 ?k2 ?k3 ?k4 ?k5 ?k6 ?_; (case k1 => k_asm); (case k2 => k_asm); (case k3 => exact stays_list (Fr.stays (by assumption)) (by assumption)); (case k4 => exact Rm.hd (Rm.to (m := 0) (by assumption) (by decide))); (case k5 => exact rfl); (case k6 => exact rfl); k_whole)); intro zzh' zzF' zzN'; (try k_sweep))) | ((k_here; (with_reducible refine' adapt_k ?g9 ?r9 ?a9 ?b9 ?c9 ?_); (case g9 => exact Gd.keeps (by assumption) (Fr.stays (by assumption))); (case r9 => exact Rm.to (by assumption) (by decide)); (case a9 => omega); (case b9 => omega); (case c9 => omega); intro zzt9 zzh9 zztk9 zzk9; (have zzF9 := Fr.grow (by assumption) zzk9); (have zzN9 := News.grow (by assumption) zzk9); (try k_sweep))) | fail)) ); k_steps) | fail)))
  (try dsimp only [List.nil_append])
  refine ggi_k (G.keeps (Fr.stays (by assumption))) (r.to (by decide)) hd0 hd1 fun t9 h9 tk9 k9 => ?_
  have F9 := Fr.grow (by assumption) k9
  have N9 := News.grow (by assumption) k9
  clear k9
  k_sweep
  (k_steps; all_goals (repeat' (first | ((with_reducible refine unstop ?_); (first | (with_reducible (first | ((k_here; ((refine KBy.add_bytes (by with_reducible assumption) ?_); intro _ _))) | ((k_here; (with_reducible show wpAny _ _ (assign (Expr.Tuple _ _ _) _ (Value.ref _)) _ _ _); ( k_dflt (refine' kun_list ?k1 ?k2 ?k3 ?k4 ?k5 ?k6 ?_; (case k1 => k_asm); (case k2 => k_asm); (case k3 => exact stays_list (Fr.stays (by assumption)) (by assumption)); (case k4 => exact Rm.hd (Rm.to (m := 0) (by assumption) (by decide))); (case k5 => exact rfl); (case k6 => exact rfl); k_whole)); intro zzh' zzF' zzN'; (try k_sweep))) | ((k_here; (with_reducible refine' adapt_k ?g9 ?r9 ?a9 ?b9 ?c9 ?_); (case g9 => exact Gd.keeps (by assumption) (Fr.stays (by assumption))); (case r9 => exact Rm.to (by assumption) (by decide)); (case a9 => omega); (case b9 => omega); (case c9 => omega); intro zzt9 zzh9 zztk9 zzk9; (have zzF9 := Fr.grow (by assumption) zzk9); (have zzN9 := News.grow (by assumption) zzk9); (try k_sweep))) | fail)) ); k_steps) | fail)))
  refine N_consA ?_
  (k_steps; all_goals (repeat' (first | ((with_reducible refine unstop ?_); (first | (with_reducible (first | ((k_here; ((refine KBy.add_bytes (by with_reducible assumption) ?_); intro _ _))) | ((k_here; (with_reducible show wpAny _ _ (assign (Expr.Tuple _ _ _) _ (Value.ref _)) _ _ _); ( k_dflt (refine' kun_list ?k1 ?k2 ?k3 ?k4 ?k5 ?k6 ?_; (case k1 => k_asm); (case k2 => k_asm); (case k3 => exact stays_list (Fr.stays (by assumption)) (by assumption)); (case k4 => exact Rm.hd (Rm.to (m := 0) (by assumption) (by decide))); (case k5 => exact rfl); (case k6 => exact rfl); k_whole)); intro zzh' zzF' zzN'; (try k_sweep))) | ((k_here; (with_reducible refine' adapt_k ?g9 ?r9 ?a9 ?b9 ?c9 ?_); (case g9 => exact Gd.keeps (by assumption) (Fr.stays (by assumption))); (case r9 => exact Rm.to (by assumption) (by decide)); (case a9 => omega); (case b9 => omega); (case c9 => omega); intro zzt9 zzh9 zztk9 zzk9; (have zzF9 := Fr.grow (by assumption) zzk9); (have zzN9 := News.grow (by assumption) zzk9); (try k_sweep))) | fail)) ); k_steps) | fail)))
  (with_reducible rename News _ _ _ _ => N8)
  (with_reducible rename Fr _ _ _ _ => F8)
  exact h _ _ _ _ _ _ (Fr.stays F8) (N8 _ (.head _)).2.2 (N8 _ (.head _)).1
end Mine
end
-- part LM
section
open PySem PySem.W PyProof.Rows
set_option maxRecDepth 100000
namespace Mine
section
variable {M : Model} {A : Around} {E : Value → Shared → Prop} {s : Shared} {env : Env} {x : Str} {pos : Pos} {v : Value} {Q : Value → Shared → Prop}
theorem nm_L {m : Str → Option Value} (hn : s.heap.Ns env.locals m) (hv : m x = some v) (h : Q v s)
    (hk : env.scope.kind = .function := by rfl) (hx : env.kindOf x = some .local := by rfl) (hd : (x == ("__debug__" : Str)) = false := by decide) :
    wpAny M A (eval (.Name x pos) env) Q E s := wpAny_Name (wpAny_loadName_local hk hx hn hv h) hd
theorem nm_C {c : Addr} (hc : env.cells.lookup x = some c) (hv : s.heap.IsCell c (some v)) (h : Q v s)
    (hk : env.scope.kind = .function := by rfl) (hx : env.kindOf x = some .cell := by rfl) (hd : (x == ("__debug__" : Str)) = false := by decide) :
    wpAny M A (eval (.Name x pos) env) Q E s := wpAny_Name (wpAny_loadName_cell hk hx hc hv h) hd
theorem nm_F {c : Addr} (hc : env.cells.lookup x = some c) (hv : s.heap.IsCell c (some v)) (h : Q v s)
    (hk : env.scope.kind = .function := by rfl) (hx : env.kindOf x = some .free := by rfl) (hd : (x == ("__debug__" : Str)) = false := by decide) (hn : (x == ("__classdict__" : Str)) = false := by decide) :
    wpAny M A (eval (.Name x pos) env) Q E s := wpAny_Name (wpAny_loadName_free hk hx hc hv h hn) hd
theorem nm_G {w : World} (G : Gd w s.heap) (e : nsIn (MineHd.hd.heap_1 w.params) mainGlobals x = some (some v)) (h : Q v s)
    (hg : env.globals = mainGlobals := by rfl) (hk : env.scope.kind = .function := by rfl) (hx : env.kindOf x = some .globalImplicit := by rfl) (hd : (x == ("__debug__" : Str)) = false := by decide) :
    wpAny M A (eval (.Name x pos) env) Q E s := by
  obtain ⟨X, p, loose, mean, mg, mb, T⟩ := G
  exact PySem.Calls.Name_function_global hk hx (PySem.Calls.loadGlobal_global (show s.heap.Ns env.globals mg from hg ▸ T.g) (mg_of X T.g e) h) hd
end
section
variable {prog : Program} {w : World} {A : Around} {s : Shared}
/-- a lambda is entered -/
theorem enterLam {Q : Value → Shared → Prop} {name qual : Str} {params : Arguments} {body : PySem.Expr} {scope : Scope} {cl : List (Str × Addr)} {pm ctv : Value} {c' f : Addr} {args : List Value} {binds : List (Str × Value)}
    (G : Gd w s.heap) (ho : s.heap.get? f = some (kla_obj name qual params body scope cl pm c' ctv)) (hcd : s.heap.CodeRec (.ref c') qual) (hroom : A.depth < recursionLimit)
    (hbind : bindArgs (kla_fn name qual params body scope cl pm (.ref c') ctv) ⟨args, []⟩ = pure binds) (hloc : ∀ y ∈ binds, scope.names.lookup y.1 = some .local)
    (h : ∀ L h₁ tk, Fr s.heap L h₁ (fun y => binds.reverse.lookup y) →
      wpN (model prog w) (A.deeper (envX qual scope L f (.ref c') cl)) (eval body (envX qual scope L f (.ref c') cl)) Q { s with heap := h₁, toks := tk })
    (hco : scope.isCoroutine = false) (hgen : scope.isGenerator = false) (hk : scope.kind = .function) (hcell : ∀ x ∈ scope.names, x.2 ≠ .cell) :
    wpN (model prog w) A (call (.ref f) args) Q s := by
  obtain ⟨X, p, loose, mean, mg, mb, T⟩ := G
  refine N_call (codeN_tree ?_)
  show wpN _ A.in1 (callAny (.ref f) ⟨args, []⟩) _ s
  simp only [callAny]
  refine N_bindA (wpAny_load ho ?_)
  obtain ⟨c, oc', vs, tq, hc, hoc, hdc, hq⟩ := hcd
  cases hc
  simp only [callFunction, hco, hgen]
  refine N_bindA (m := field (.ref c') 1) (wpAny_field hoc hdc hq (N_bindA (wpAny_pure ?_)))
  rw [hbind]
  refine N_bindA (wpAny_pure ?_)
  refine N_bindA (wpAny_newFunctionEnv hcell hloc (fun h₁ hns hsb => ?_) hk)
  refine N_bindA (wpAny_enterFrame (T.nolimit.fresh _ hsb) (show A.in1.depth < recursionLimit from hroom) (N_pure ⟨rfl, rfl, ?_⟩))
  have hk₁ : ∀ b o, s.heap.get? b = some o → h₁.get? b = some o := fun b o e => hsb.extBut b o (Nat.ne_of_lt (Heap.lt_size e)) (Heap.get?_push_of_some _ e)
  exact codeN_expr (h _ h₁ _ ⟨hns, hk₁, Nat.le_refl _⟩)
end
section
variable {prog : Program} {w : World} {A : Around} {s : Shared} {env : Env} {h₀ : Heap} {x : Str} {px : Pos} {body : List Stmt} {Q : Flow → Shared → Prop}
/-- the loop of for_L, over clean stacks -/
theorem forN_L {I : Addr} {fp : List Addr} {n : Nat} {P : Nat → Value → Prop} {St : Nat → Heap → Prop} {m₀ : Str → Option Value} {news₀ : List (Addr × Obj)} (J : Nat → (Str → Option Value) → Rd → Prop)
    (hJ : ∀ i m (R R' : Rd), (∀ a its, R a its → R' a its) → J i m R → J i m R')
    (W : Walks prog w A I fp [I] n P St) (hfp : ∀ b ∈ fp, b = I ∨ ∃ o, h₀.get? b = some o) (hIL : I ≠ env.locals) (hI0 : h₀.get? I = none) (hcl : ∀ i h, St i h → ∃ o, h.get? I = some o ∧ isLo o = false) (hst : St 0 s.heap) (F : Fr h₀ env.locals s.heap m₀) (N : News h₀ env.locals s.heap news₀) (hj : J 0 m₀ (ML news₀))
    (hx : env.kindOf x = some .local) (hp : (env.scope.kind == .class || (env.scope.kind == .module && env.locals != env.globals)) = false)
    (turn : ∀ i v m₁ news₁ own h tk, i < n → P i v → J i m₁ (ML news₁) → Fr h₀ env.locals h (fun y => if y = x then some v else m₁ y) → News h₀ env.locals h news₁ → (∀ p ∈ own, p ∈ news₁) →
      wpN (model prog w) A (execs body env) (fun f s' => match f with | .next => Gx s h₀ env.locals own (J (i + 1)) s' | .cont => Gx s h₀ env.locals own (J (i + 1)) s' | .brk => Q .next s' | .ret v => Q (.ret v) s') { s with heap := h, toks := tk })
    (done : ∀ m₁ news₁ h tk, J n m₁ (ML news₁) → Fr h₀ env.locals h m₁ → News h₀ env.locals h news₁ → Q .next { s with heap := h, toks := tk }) :
    codeN (model prog w) A (.forLoop (.Name x px) (.ref I) body [] env) Q s := by
  refine codeN_for (fun k s' => ∃ i h tk m news, s' = { s with heap := h, toks := tk } ∧ k = n - i ∧ i ≤ n ∧ Fr h₀ env.locals h m ∧ News h₀ env.locals h news ∧ (∀ p ∈ news, p.1 ≠ I) ∧ St i h ∧ J i m (ML news)) ?_ n
    ⟨0, s.heap, s.toks, m₀, news₀.filter (fun p => isLo p.2), rfl, by omega, Nat.zero_le _, F, (fun p hp => N p (List.mem_filter.mp hp).1), ?_, hst, hJ _ _ _ _ (fun _ _ => ML.filter) hj⟩
  case refine_2 =>
    intro p hp e
    have hp := List.mem_filter.mp hp
    obtain ⟨o, ho, hc⟩ := hcl _ _ hst
    have q := (N p hp.1).1
    rw [e, ho] at q
    cases q
    rw [hc] at hp; cases hp.2
  rintro k s' ⟨i, h, tk, m₁, news₁, rfl, rfl, hi, F, N, hoff, hst, hj⟩
  have frOf : ∀ h₁, (∀ b o, b ∉ [I] → h.get? b = some o → h₁.get? b = some o) → Fr h₀ env.locals h₁ m₁ ∧ News h₀ env.locals h₁ news₁ := fun h₁ k₁ =>
    ⟨⟨F.ns.at' fun o e => k₁ _ o (fun hm => hIL (List.mem_singleton.mp hm).symm) e, fun b o e => k₁ b o (fun hm => by rw [List.mem_singleton.mp hm, hI0] at e; cases e) (F.keep b o e), F.above⟩,
     fun p hp => ⟨k₁ _ _ (fun hm => hoff p hp (List.mem_singleton.mp hm)) (N p hp).1, (N p hp).2⟩⟩
  by_cases hlt : i < n
  · refine W.item i _ _ _ hlt hst fun v h₁ tk₁ hPv hst₁ hk₁ => ?_
    obtain ⟨F₁, N₁⟩ := frOf h₁ hk₁
    refine wpAny_pure ?_
    refine wpAny_assign_Name (wpAny_storeName_local hx F₁.ns (fun h₂ hn₂ hs₂ => ?_) hp)
    have F₂ := F₁.set hn₂ hs₂
    have N₂ := N₁.set hs₂
    have offL : ∀ b ∈ fp, b ≠ env.locals := fun b hb e => by
      rcases hfp b hb with rfl | ⟨o, ho⟩
      · exact hIL e
      · exact absurd (Nat.lt_of_lt_of_le (Heap.lt_size ho) F.above) (e ▸ Nat.lt_irrefl _)
    have hst₂ : St (i + 1) h₂ := W.frame _ _ _ hst₁ fun b hb o e => hs₂.extBut b o (fun hm => offL b hb hm) e
    obtain ⟨oI, hoI, hcI⟩ := hcl _ _ hst₂
    refine N_mono (turn i v m₁ ((I, oI) :: news₁) [(I, oI)] h₂ _ hlt hPv (hJ _ _ _ _ (fun _ _ => ML.tail) hj) F₂ (fun p hp => ?_) (fun p hp => by rw [List.mem_singleton.mp hp]; exact .head _)) (fun f s₃ h₃ => ?_)
    · rcases List.mem_cons.mp hp with rfl | hp
      · exact ⟨hoI, hIL, hI0⟩
      · exact N₂ p hp
    have fin : Gx s h₀ env.locals [(I, oI)] (J (i + 1)) s₃ → ∃ m', m' < n - i ∧ ∃ i h tk m news, s₃ = { s with heap := h, toks := tk } ∧ m' = n - i ∧ i ≤ n ∧ Fr h₀ env.locals h m ∧ News h₀ env.locals h news ∧ (∀ p ∈ news, p.1 ≠ I) ∧ St i h ∧ J i m (ML news) := by
      rintro ⟨h', tk', m', news', rfl, F', N', ho, hj'⟩
      have hI' := (N' _ (ho _ (.head _))).1
      refine ⟨n - (i + 1), by omega, i + 1, h', tk', m', news'.filter (fun p => isLo p.2), rfl, rfl, hlt, F', (fun p hp => N' p (List.mem_filter.mp hp).1), (fun p hp e => ?_), W.frame _ _ _ hst₂ (fun b hb o e => ?_), hJ _ _ _ _ (fun _ _ => ML.filter) hj'⟩
      · have hp := List.mem_filter.mp hp
        have q := (N' p hp.1).1
        rw [e, hI'] at q
        cases q
        rw [hcI] at hp; cases hp.2
      · rcases hfp b hb with rfl | ⟨o', ho'⟩
        · rw [hoI] at e; cases e
          exact hI'
        · rw [F₂.keep b o' ho'] at e; cases e
          exact F'.keep b _ ho'
    cases f with
    | next => exact fin h₃
    | cont => exact fin h₃
    | brk => exact h₃
    | ret v => exact h₃
  · have hin : i = n := by omega
    subst hin
    refine W.done _ _ _ hst fun h₁ tk₁ hk₁ => ?_
    obtain ⟨F₁, N₁⟩ := frOf h₁ hk₁
    exact done m₁ news₁ h₁ tk₁ hj F₁ N₁
end
end Mine
end
-- part FH
section
open PySem PySem.W PyProof.Rows
namespace Mine
theorem anewFH {M : Model} {A : Around} {E : Value → Shared → Prop} {s : Shared} {Q : Nat → Shared → Prop} (h : Q 0 s) : wpAny M A (pure 0) Q E s := by
  first | (walk1; exact h) | exact wpAny_pure h
end Mine
end
section
open PySem PySem.W PyProof.Rows
set_option maxRecDepth 100000
set_option maxHeartbeats 1000000
namespace Mine
theorem fill17 : PySem.Challenge.rw_ny0167_01 = PySem.Challenge.rw_ny0167_01 ∧ MineHd.hd.heap_1 = MineHd.hd.heap_1 := by
  k_fill
  exact ⟨rfl, rfl⟩
local macro_rules | `(tactic| walk_at "call builtin:iter") => `(tactic| refine stop ?_)
local macro_rules | `(tactic| walk_at "compareOp Is ref ref") => `(tactic| refine stop ?_)
local macro_rules | `(tactic| walk_at "call ref") => `(tactic| refine stop ?_)

theorem ex64 (w : World) : ∃ o, (MineHd.hd.heap_1 w.params).lookup 64 = some o := ⟨_, by with_unfolding_all rfl⟩
theorem A_iter {prog : Program} {w : World} {A : Around} {E : Value → Shared → Prop} {s : Shared} {v : Value} {Q : Value → Shared → Prop} (h : wpAny (model prog w) A.in1 (pyIter v) Q E s) :
    wpAny (model prog w) A (call (.builtin "iter") [v]) Q E s := by
  refine Calls.call_function_entry (b := Builtin.«iter») (by decide +kernel) (by decide +kernel) (entryFor_of_tree (by kernel_rfl)) (by unfold argsOk; kernel_rfl) ?_
  unfold Builtin.«iter»
  refine wpAny_bind (wpAny_of_eq (a := [v]) (by kernel_rfl) ?_)
  dsimp only
  exact wpAny_bind (wpAny_mono h (fun r s' h' => wpAny_pure ⟨_, rfl, h'⟩) fun _ _ x => x)

theorem N_callR {prog : Program} {w : World} {A : Around} {s : Shared} {env : Env} {Q : Value → Shared → Prop} {pos : Pos} {f : Addr} {first : List Value} {e : PySem.Expr} {rest : List PySem.Expr}
    (h : wpAny (model prog w) A (spliced (backTo pos (starEach (e :: rest) env))) (fun vs s₁ => Halt ((∃ o fd, s₁.heap.get? f = some o ∧ o.data = .func fd) ∧ wpN (model prog w) A (call (.ref f) (first ++ vs)) Q s₁)) (fun _ _ => False) s)
    (he : starEach (e :: rest) env = (false, eval e env) :: starEach rest env := by rfl) (hplain : (backTo pos (starEach rest env)).any (·.1) = false := by rfl) :
    wpN (model prog w) A (callWith pos (.ref f) first (backTo pos (starEach (e :: rest) env)) []) Q s := by
  rw [he] at h ⊢
  refine N_callWith (by show (false || (backTo pos (starEach rest env)).any (·.1)) = false; rw [hplain]; rfl) (Calls.evalArgs_plain (wpAny_mono h (fun vs s₁ h₁ => ⟨h₁.out.1, rfl, h₁.out.2⟩) fun _ _ x => x))
theorem reduce_k {prog : Program} {w : World} {A : Around} {s : Shared} {Q : Value → Shared → Prop} {f iv : Addr} {sv : Value} {n : Nat} {P : Nat → Value → Prop} {R : Rd} {oI : Obj} {fpx : List Addr} {St : Addr → Nat → Heap → Prop}
    (Acc : Rd → Nat → Value → Prop) (hAcc : ∀ (R R' : Rd) i v, (∀ a its, R a its → R' a its) → Acc R i v → Acc R' i v)
    (G : Gd w s.heap) (r : Rm A 6) (hR : R.At s.heap) (hne : iv ≠ 64) (hiv : ∃ o, s.heap.get? iv = some o ∧ o.cls ≠ .type "tuple") (hfr : oI.isFreed = false) (hf : ∃ o fd, s.heap.get? f = some o ∧ o.data = .func fd)
    (hfpx : ∀ b ∈ fpx, ∃ o, s.heap.get? b = some o)
    (hit : ∀ {A' : Around} {s' : Shared} {Q' : Value → Shared → Prop} {E' : Value → Shared → Prop}, s.heap.StaysIn s'.heap → Q' (.ref s'.heap.objs.size) { s' with heap := s'.heap.push oI } → wpAny (model prog w) A' (pyIter sv) Q' E' s')
    (hlo : isLo oI = false) (hW : ∀ (A' : Around) I, A'.handled = none → (∀ b ∈ fpx, b ≠ I) → Walks prog w A' I (I :: fpx) [I] n P (St I))
    (hst0 : ∀ h I, s.heap.StaysIn h → h.get? I = some oI → St I 0 h) (hcl : ∀ I i h, St I i h → ∃ o, h.get? I = some o ∧ isLo o = false)
    (h0 : Acc R 0 (.ref iv))
    (hstep : ∀ (A' : Around) (s' : Shared) (R' : Rd) (Q' : Value → Shared → Prop) i acc el, Rm A' 5 → s.heap.StaysIn s'.heap → R'.At s'.heap → Acc R' i acc → P i el →
      (∀ v M h' tk', s'.heap.StaysIn h' → Made s'.heap h' M → Acc (Or2 M R') (i + 1) v → Q' v { s' with heap := h', toks := tk' }) → wpN (model prog w) A' (call (.ref f) [acc, el]) Q' s')
    (h : ∀ v M h' tk', s.heap.StaysIn h' → Made s.heap h' M → Acc (Or2 M R) n v → Q v { s with heap := h', toks := tk' }) :
    wpN (model prog w) A (call (.ref 72) [.ref f, sv, .ref iv]) Q s := by
  obtain ⟨X, p, loose, mean, mg, mb, T⟩ := id G
  refine' enterN (binds := [("function", .ref f), ("sequence", sv), ("initial", .ref iv)]) ?eX ?eT ?eo ?ec ?er ?eb ?el ?eco ?ege ?ek ?ece ?_
  (case eX => k_asm); (case eT => k_asm); (case eo => k_dflt k_is); (case ec => k_dflt k_is); (case er => exact Rm.depth (by assumption)); (case eb => with_unfolding_all exact binds_K X rfl (by k_dflt k_is) rfl rfl rfl); (case el => exact locs rfl); (case eco => exact rfl); (case ege => exact rfl); (case ek => exact rfl); (case ece => decide)
  intro L h₁ tk F N
  (try dsimp only)
  refine N_consA ?_
  k_steps
  unfold Stop
  refine A_iter (hit (Fr.stays F) ?_)
  have I9 := fresh_ge F (Nat.le_refl _)
  have hget : (h₁.push oI).get? h₁.objs.size = some oI := Heap.get?_push_size _ hfr
  have k9 : h₁.StaysIn (h₁.push oI) := fun b o e => Heap.get?_push_of_some _ e
  have F9 := Fr.grow F k9
  have N9 := News.fresh1 F N k9 hget
  clear F N hget k9
  dsimp only at F9 N9 ⊢
  generalize h₁.objs.size = I at *
  k_steps
  refine N_cons (N_If ?_)
  k_steps
  unfold Stop
  refine Exists.elim hiv fun oiv qiv => ?_
  refine Exists.elim (ex64 w) fun o64 h64 => ?_
  refine kto_is (ox := oiv) (oy := o64) (Fr.stays (by assumption) _ _ qiv.1) (Fr.stays (by assumption) _ _ (X _ _ h64)) hne qiv.2 ?_
  k_steps
  refine N_consA ?_
  k_steps
  refine N_nil ?_
  dsimp only
  refine N_cons (N_For ?_)
  k_steps
  (with_reducible rename News _ _ _ _ => N8)
  (with_reducible rename Fr _ _ _ _ => F8)
  have W8 : ∀ A' : Around, A'.handled = none → Walks prog w A' I (I :: fpx) [I] n P (St I) := fun A' hh => hW A' I hh (fun b hb e => by
    refine Exists.elim (hfpx b hb) fun o ho => ?_
    rw [e, I9.1] at ho; cases ho)
  have hs8 := hst0 _ I (Fr.stays F8) (N8 _ (.head _)).1
  refine (W8 _ (show (A.deeper _).handled = none from r.hd)).self 0 _ _ _ hs8 ?_
  refine forN_L (fun i m R' => ∃ v, m "value" = some v ∧ m "function" = some (.ref f) ∧ Acc (fun a its => R' a its ∨ R a its) i v) ?_ (W8 _ (show (A.deeper _).handled = none from r.hd)) ?_ I9.2 I9.1 (hcl I) hs8 F8 N8 ?_ rfl rfl ?_ ?_
  · rintro i m R1 R2 k ⟨v, q1, q2, q3⟩
    exact ⟨v, q1, q2, hAcc _ _ _ _ (fun a its x => x.imp (k a its) id) q3⟩
  · intro b hb
    rcases List.mem_cons.mp hb with e | hb
    · exact .inl e
    · exact .inr (hfpx b hb)
  · exact ⟨_, rfl, rfl, hAcc _ _ _ _ (fun a its x => .inr x) h0⟩
  · intro i el m₁ news₁ own h2 tk2 hi hP hJ F2 N2 ho
    refine Exists.elim hJ fun v hJ => ?_
    replace F2 := Fr.view F2 [("element", el), ("value", v), ("function", .ref f)] (by simp only [List.forall_mem_cons]; exact ⟨rfl, hJ.1, hJ.2.1, List.forall_mem_nil _⟩)
    clear N8 F8
    refine N_cons (N_Assign (N_Call ?_))
    k_steps
    refine N_callR ?_
    k_steps
    (with_reducible rename News _ _ _ _ => N3)
    (with_reducible rename Fr _ _ _ _ => F3)
    refine Halt.mk ⟨?_, ?_⟩
    · refine Exists.elim hf fun o q => Exists.elim q fun fd q => ⟨o, fd, Fr.stays F3 _ _ q.1, q.2⟩
    · (try dsimp only [List.nil_append])
      refine hstep _ _ (fun a its => ML news₁ a its ∨ R a its) _ i _ _ (r.to (by decide)) (Fr.stays F3) (fun a its x => x.elim (ML.at N3 a its) fun x => stays_list F3.keep (hR a its x)) hJ.2.2 hP fun v9 M9 h9 tk9 k9 D9 A9 => ?_
      have F9 := Fr.grow F3 k9
      have N9 := made_news F3 N3 k9 D9
      clear F3 N3 k9 D9
      k_sweep
      k_steps
      (with_reducible rename News _ _ _ _ => N5)
      (with_reducible rename Fr _ _ _ _ => F5)
      refine N_nil ?_
      refine ⟨_, _, _, _, rfl, F5, N5, fun p hp => List.mem_append.mpr (.inr (ho p hp)), _, rfl, rfl, hAcc _ _ _ _ (fun a its x => ?_) A9⟩
      exact x.elim (fun x => .inl (.left x)) fun x => x.imp .right id
  · intro m₁ news₁ h2 tk2 hJ F2 N2
    refine Exists.elim hJ fun v hJ => ?_
    replace F2 := Fr.view F2 [("value", v)] (by simp only [List.forall_mem_cons]; exact ⟨hJ.1, List.forall_mem_nil _⟩)
    clear N8 F8
    dsimp only
    refine N_consA ?_
    k_steps
    exact h _ _ _ _ (Fr.stays (by assumption)) (news_made N2) hJ.2.2
end Mine
end
-- part NC
section
open PySem PySem.W PyProof.Rows
set_option maxRecDepth 100000
namespace Mine
section
variable {prog : Program} {w : World} {A : Around} {s : Shared} {env : Env}
theorem codeN_compLoop {elt target iter : PySem.Expr} {scope : Scope} {pos : Pos} {it acc : Value} {Q : Flow → Shared → Prop} (I : Nat → Shared → Prop)
    (turn : ∀ n s, I n s → wpAny (model prog w) A (pyNext it) (fun r s₁ => match r with
      | none => Q .next s₁
      | some v => wpAny (model prog w) A (assign target env v) (fun _ s₂ => wpN (model prog w) A (eval elt env) (fun x s₃ =>
          wpAny (model prog w) A (call (.builtin "list.append") [acc, x]) (fun _ s₄ => ∃ m, m < n ∧ I m s₄) (fun _ _ => False) s₃) s₂) (fun _ _ => False) s₁) (fun _ _ => False) s)
    (n : Nat) (h : I n s) (ht : ∀ v, letOwnedTupleGo target it v = pure () := by intro _; rfl) :
    codeN (model prog w) A (.compLoop (.ListComp elt [⟨target, iter, [], 0⟩] scope pos) 0 it acc env) Q s := by
  induction n using Nat.strongRecOn generalizing s with
  | ind n ih =>
    refine codeN_tree ?_
    rw [Around.under_of_weight rfl rfl]
    show wpN _ A ((compTurn (.ListComp elt [⟨target, iter, [], 0⟩] scope pos) 0 it acc env).onRaise _) _ s
    refine N_onRaise ?_
    rw [compTurn_list1]
    refine N_bindA (wpAny_standAt (N_bindA (wpAny_mono (turn n s h) (fun r s₁ h₁ => ?_) fun _ _ x => x)))
    cases r with
    | none => exact N_pure h₁
    | some v =>
      refine N_bindA (wpAny_of_eq (ht v) ?_)
      refine N_bindA (wpAny_mono h₁ (fun _ s₂ h₂ => N_bind (N_bind (N_mono h₂ fun x s₃ h₃ => N_bindA (wpAny_mono h₃ (fun _ s₄ h₄ => N_pure ?_) fun _ _ x => x)))) fun _ _ x => x)
      obtain ⟨m, h1, h2⟩ := h₄
      exact N_pure ⟨rfl, rfl, ih m h1 h2⟩
theorem codeN_compStart {elt target iter : PySem.Expr} {ifs : List PySem.Expr} {rest : List Comprehension} {scope : Scope} {pos : Pos} {it acc : Value} {Q : Flow → Shared → Prop}
    (h0 : codeN (model prog w) A (.compLoop (.ListComp elt (⟨target, iter, ifs, 0⟩ :: rest) scope pos) 0 it acc env) Q s)
    (h : wpAny (model prog w) A (pyIter it) (fun it' s' => codeN (model prog w) A (.compLoop (.ListComp elt (⟨target, iter, ifs, 0⟩ :: rest) scope pos) 0 it' acc env) Q s') (fun _ _ => False) s) :
    codeN (model prog w) A (.compStart (.ListComp elt (⟨target, iter, ifs, 0⟩ :: rest) scope pos) 0 it acc env) Q s := by
  refine codeN_tree ?_
  rw [Around.under_of_weight rfl rfl]
  show wpN _ _ ((compStart (.ListComp elt (⟨target, iter, ifs, 0⟩ :: rest) scope pos) 0 it acc env).onRaise _) _ s
  refine N_onRaise ?_
  unfold compStart
  show wpN _ _ (ask >>= _) _ s
  refine N_bindA (wpAny_askSetting ?_)
  refine N_ite ?_
  split
  · first
      | exact N_bindA (wpAny_pure (N_pure ⟨rfl, rfl, h0⟩))
      | exact N_pure ⟨rfl, rfl, h0⟩
  · first
      | exact N_bindA (wpAny_rule (N_bindA (wpAny_standAt (N_bindA (wpAny_mono h (fun it' s' h' => N_pure ⟨rfl, rfl, h'⟩) fun _ _ x => x)))))
      | (refine N_bindA (wpAny_rule ?_); show wpN _ _ (standAt iter.pos >>= _) _ s; exact N_bindA (wpAny_standAt (N_bindA (wpAny_mono h (fun it' s' h' => N_pure ⟨rfl, rfl, h'⟩) fun _ _ x => x))))

theorem N_standIf {α : Type} {M : Model} {c : Prop} [Decidable c] {pos : Pos} {k : PUnit → Sem α} {Q : α → Shared → Prop} (h : wpN M A (k ()) Q s) : wpN M A (if c then (standAt pos >>= k) else k ()) Q s := by
  split
  · exact N_bindA (wpAny_standAt h)
  · exact h

/-- a comprehension that is stored into a local name -/
theorem N_Assign_comp {elt iter : PySem.Expr} {x y : Str} {px py : Pos} {scope : Scope} {cl : List (Str × Addr)} {pos spos : Pos} {Q : Flow → Shared → Prop}
    (hsw : swapsWith (.ListComp elt [⟨.Name x px, iter, [], 0⟩] scope pos) (some (.Name y py)) spos.line env = pure true)
    (hclos : closureFor scope env = pure cl) (hkind : scope.kind = .function) (hnames : ∀ z ∈ scope.names, z.2 = .local → scope.names.lookup z.1 = some .local)
    (h : wpAny (model prog w) A (eval iter env) (fun xv s₁ => wpAny (model prog w) A (pyIter xv) (fun it s₂ => wpAny (model prog w) A (newList []) (fun acc s₃ =>
      wpAny (model prog w) A (newFunctionEnv scope env.globals cl [] env.qual none .none (some env)) (fun cenv s₄ =>
        codeN (model prog w) A (.compStart (.ListComp elt [⟨.Name x px, iter, [], 0⟩] scope pos) 0 it acc { cenv with scope := relabel scope env }) (fun _ s' =>
          wpAny (model prog w) A (assign (.Name y py) env acc) (fun _ s'' => ∃ m, s''.heap.Ns cenv.locals m ∧ ∀ h', Heap.SameBut cenv.locals s''.heap h' → Q .next { s'' with heap := h' }) (fun _ _ => False) s') s₄) (fun _ _ => False) s₃) (fun _ _ => False) s₂) (fun _ _ => False) s₁) (fun _ _ => False) s)
    (hs : ∀ x, foldedSetIterable iter env x = pure x := by intro _; rfl) :
    wpN (model prog w) A (exec (.Assign [.Name y py] (.ListComp elt [⟨.Name x px, iter, [], 0⟩] scope pos) spos) env) Q s := by
  rw [exec_Assign_Name_used _ _ _ _ hsw]
  refine N_bindA (wpAny_standAt (N_bind ?_))
  show wpN _ A (do let _ ← comprehension (.ListComp elt [⟨.Name x px, iter, [], 0⟩] scope pos) scope env _ (newList []) false (eval iter env) (some (assign (.Name y py) env))) _ s
  refine N_bind (N_mono (Q := fun _ s' => Q .next s') ?_ fun _ s' hq => N_pure (N_pure hq))
  unfold comprehension
  rw [hclos]
  refine N_bindA (wpAny_mono h (fun xv s₁ h₁ => N_bindA (wpAny_standAt (N_bindA (wpAny_of_eq (hs xv) (N_bindA (wpAny_holding (wpAny_mono h₁ (fun it s₂ h₂ =>
    N_standIf (N_bindA (wpAny_mono h₂ (fun acc s₃ h₃ => N_bindA (wpAny_pure (N_bindA (wpAny_mono h₃ (fun cenv s₄ h₄ => ?_) fun _ _ h' => h')))) fun _ _ h' => h')))
      fun _ _ h' => h'))))))) fun _ _ h' => h')
  dsimp only
  have hv : ∀ x ∈ (scope.names.filter fun x => (x.2 == .local || x.2 == .cell) && x.1 != (".0" : Str)).reverse, x.2 = .local →
      Env.kindOf { cenv with scope := relabel scope env } x.1 = some .local := fun x hx hl => lookup_relabel_local (hnames x (List.mem_filter.mp (List.mem_reverse.mp hx)).1 hl)
  have hv' : ∀ x ∈ (scope.names.filter fun x => (x.2 == .local || x.2 == .cell) && x.1 != (".0" : Str)).reverse.drop 1 ++ (scope.names.filter fun x => (x.2 == .local || x.2 == .cell) && x.1 != (".0" : Str)).reverse.take 1,
      x.2 = .local → Env.kindOf { cenv with scope := relabel scope env } x.1 = some .local := fun x hx hl => by
    rcases List.mem_append.mp hx with h1 | h1
    · exact hv x (List.mem_of_mem_drop h1) hl
    · exact hv x (List.mem_of_mem_take h1) hl
  refine N_holding (N_bind (N_attempt (N_holding (N_run (h := none) ?_ rfl))))
  refine codeN_mono h₄ fun f s' hr => ?_
  refine N_bindA (wpAny_rule (N_bindA (wpAny_holding (wpAny_mono hr (fun _ s'' hr' => ?_) fun _ _ h' => h'))))
  obtain ⟨m, hn, hr'⟩ := hr'
  exact N_bindA (wpAny_comp_letGo (cenv := { cenv with scope := relabel scope env }) hkind _ s'' m hv' hn fun h' m' _ hs' => N_pure (hr' h' hs'))
end
end Mine
end
-- part ND
section
open PySem PySem.W PyProof.Rows
set_option maxRecDepth 100000
namespace Mine
/-- what the element of a comprehension hands on -/
def Ex (s : Shared) (h₀ : Heap) (L : Addr) (m : Str → Option Value) (own : List (Addr × Obj)) (J : Value → List (Addr × Obj) → Prop) (y : Value) (s' : Shared) : Prop :=
  ∃ h' tk' rest', s' = { s with heap := h', toks := tk' } ∧ Fr h₀ L h' m ∧ News h₀ L h' (own ++ rest') ∧ (∀ p ∈ rest', ∀ q ∈ own, p.1 ≠ q.1) ∧ J y rest'
/-- a loop's premise is kept out of sight of the walk -/
theorem opaque_inv {α β : Type} {C : Prop} (I : α → β → Prop) (h : ∀ J : α → β → Prop, (∀ a b, J a b → I a b) → (∀ a b, I a b → J a b) → C) : C := h I (fun _ _ x => x) (fun _ _ x => x)
section
variable {prog : Program} {w : World} {A : Around} {s : Shared} {env : Env}
theorem N_compL {elt iter : PySem.Expr} {x y : Str} {px py : Pos} {scope : Scope} {cl : List (Str × Addr)} {pos spos : Pos} {Q : Flow → Shared → Prop} {h₀ : Heap} {m : Str → Option Value} {news : List (Addr × Obj)} {l : Addr} {items : Array Value}
    (J : Nat → List Value → List (Addr × Obj) → Prop)
    (hsw : swapsWith (.ListComp elt [⟨.Name x px, iter, [], 0⟩] scope pos) (some (.Name y py)) spos.line env = pure true)
    (hclos : closureFor scope env = pure cl) (hcell : ∀ z ∈ scope.names, z.2 ≠ .cell) (hkind : scope.kind = .function) (hnames : ∀ z ∈ scope.names, z.2 = .local → scope.names.lookup z.1 = some .local) (hx : scope.names.lookup x = some .local)
    (hy : env.kindOf y = some .local) (hp : (env.scope.kind == .class || (env.scope.kind == .module && env.locals != env.globals)) = false) (hh : A.handled = none) (hsz : items.size ≤ 1000)
    (hs : ∀ x, foldedSetIterable iter env x = pure x) (hiter : wpAny (model prog w) A (eval iter env) (fun xv s₁ => xv = .ref l ∧ s₁ = s) (fun _ _ => False) s)
    (F : Fr h₀ env.locals s.heap m) (N : News h₀ env.locals s.heap news) (hj : J 0 [] news)
    (hsrc : ∀ i ys rest h, J i ys rest → News h₀ env.locals h rest → Fr h₀ env.locals h m → h.IsList l items)
    (turn : ∀ i v ys rest own C m₂ h tk, items[i]? = some v → ys.length = i → J i ys rest → Fr h₀ env.locals h m → News h₀ env.locals h (own ++ rest) → h.Ns C m₂ → m₂ x = some v → (∃ oC, (C, oC) ∈ own) → (∀ p ∈ rest, ∀ q ∈ own, p.1 ≠ q.1) →
      wpN (model prog w) A (eval elt (compEnvC scope cl C env)) (Ex s h₀ env.locals m own (fun u rest' => J (i + 1) (ys ++ [u]) rest')) { s with heap := h, toks := tk })
    (done : ∀ ys rest D oD h tk, ys.length = items.size → J items.size ys rest → oD.cls = .type "list" → (∃ n, oD.data = .seq ys.toArray n) → Fr h₀ env.locals h (fun z => if z = y then some (.ref D) else m z) → News h₀ env.locals h ((D, oD) :: rest) →
      Q .next { s with heap := h, toks := tk }) :
    wpN (model prog w) A (exec (.Assign [.Name y py] (.ListComp elt [⟨.Name x px, iter, [], 0⟩] scope pos) spos) env) Q s := by
  refine N_Assign_comp hsw hclos hkind hnames (wpAny_mono hiter (fun xv s₁ q => ?_) fun _ _ e => e) hs
  obtain ⟨rfl, rfl⟩ := q
  have hl₀ := hsrc 0 [] news s₁.heap hj N F
  obtain ⟨ol, hol, _⟩ := id hl₀
  have hll : l < s₁.heap.objs.size := Heap.lt_size hol
  refine wpAny_pyIter_list hl₀ ?_
  generalize hIo : ({ cls := .type "list_iterator", data := _ } : Obj) = oI
  refine wpAny_newObj_type (wpAny_newFunctionEnv hcell (by intro z hz; simp at hz) (fun h₁ hns₁ hsb₁ => ?_) hkind)
  dsimp only at hns₁ hsb₁ ⊢
  have hfI : oI.isFreed = false := by subst hIo; rfl
  generalize hoD0 : ({ cls := .type "list", dict := none, data := .seq ([] : List Value).toArray } : Obj) = oD0 at hns₁ hsb₁ ⊢
  have hfD : oD0.isFreed = false := by subst hoD0; rfl
  have hsI : (s₁.heap.push oI).objs.size = s₁.heap.objs.size + 1 := Heap.size_push ..
  have hsD : ((s₁.heap.push oI).push oD0).objs.size = s₁.heap.objs.size + 2 := by rw [Heap.size_push, hsI]
  have gI0 : (s₁.heap.push oI).get? s₁.heap.objs.size = some oI := Heap.get?_push_size _ hfI
  have gD0 : ((s₁.heap.push oI).push oD0).get? (s₁.heap.push oI).objs.size = some oD0 := Heap.get?_push_size _ hfD
  have up0 : ∀ b o, s₁.heap.get? b = some o → ((s₁.heap.push oI).push oD0).get? b = some o := fun b o e => Heap.get?_push_of_some _ (Heap.get?_push_of_some _ e)
  have gI1 : ((s₁.heap.push oI).push oD0).get? s₁.heap.objs.size = some oI := Heap.get?_push_of_some _ gI0
  have hLI0 := F.ns.lt
  have hlt0 : ∀ (b : Nat) o, s₁.heap.get? b = some o → @LT.lt Nat instLTNat b s₁.heap.objs.size := fun b o e => Heap.lt_size e
  generalize hHH : (s₁.heap.push oI).push oD0 = HH at *
  generalize hC : HH.objs.size = C at *
  generalize hD : (s₁.heap.push oI).objs.size = D at *
  generalize hI : s₁.heap.objs.size = I at *
  subst hsI hsD
  -- addresses
  have up : ∀ b o, s₁.heap.get? b = some o → h₁.get? b = some o := fun b o e => hsb₁.extBut b o (Nat.ne_of_lt (by have := hlt0 b o e; omega)) (Heap.get?_push_of_some _ (up0 b o e))
  have gI : h₁.get? I = some oI := hsb₁.extBut _ _ (Nat.ne_of_lt (by omega)) (Heap.get?_push_of_some _ gI1)
  have gD : h₁.get? (I + 1) = some oD0 := hsb₁.extBut _ _ (Nat.ne_of_lt (by omega)) (Heap.get?_push_of_some _ gD0)
  have hLI : @LT.lt Nat instLTNat env.locals I := hLI0
  have new₀ : ∀ b : Nat, @LE.le Nat instLENat I b → h₀.get? b = none := fun b hb => by
    cases e : h₀.get? b with
    | none => rfl
    | some o => have := hlt0 _ _ (F.keep _ _ e); omega
  have F₁ := Fr.grow F up
  have N₁ := News.grow N up
  have hW := Walks.list (prog := prog) (w := w) hh I l (Nat.ne_of_lt hll) items
  have loop : ∀ s₃ : Shared, s₃ = { s₁ with heap := h₁, toks := s₁.toks + ([] : List (Str × Value)).length } →
      codeN (model prog w) A (.compLoop (.ListComp elt [⟨.Name x px, iter, [], 0⟩] scope pos) 0 (.ref I) (.ref (I + 1)) (compEnvC scope cl (I + 2) env)) (fun _ s' =>
          wpAny (model prog w) A (assign (.Name y py) env (.ref (I + 1))) (fun _ s'' => ∃ m, s''.heap.Ns (I + 2) m ∧ ∀ h', Heap.SameBut (I + 2) s''.heap h' → Q .next { s'' with heap := h' }) (fun _ _ => False) s') s₃ := by
    rintro s₃ rfl
    refine opaque_inv (fun (k : Nat) (s' : Shared) => ∃ i ys h tk rest oD m₂, s' = { s₁ with heap := h, toks := tk } ∧ k = items.size - i ∧ i ≤ items.size ∧ ys.length = i ∧ Fr h₀ env.locals h m ∧ News h₀ env.locals h rest ∧ (∀ p ∈ rest, p.1 ≠ I ∧ p.1 ≠ I + 1 ∧ p.1 ≠ I + 2) ∧
        h.IsListIter I l i ∧ h.get? (I + 1) = some oD ∧ oD.cls = .type "list" ∧ (∃ n, oD.data = .seq (List.toArray ys) n) ∧ h.Ns (I + 2) m₂ ∧ J i ys rest) fun Inv out into => ?_
    refine codeN_compLoop Inv ?_ items.size
      (into _ _ ⟨0, [], h₁, _, news, oD0, _, rfl, by omega, Nat.zero_le _, rfl, F₁, N₁, fun p hp => ?_, ⟨_, gI, by subst hIo; rfl, by subst hIo; rfl⟩, gD, by subst hoD0; rfl, ⟨_, by subst hoD0; rfl⟩, hns₁, hj⟩)
    case refine_2 =>
      have := hlt0 _ _ (N p hp).1
      exact ⟨Nat.ne_of_lt (by omega), Nat.ne_of_lt (by omega), Nat.ne_of_lt (by omega)⟩
    intro k s' hI
    obtain ⟨i, ys, h, tk, rest, oD, m₂, rfl, rfl, hi, hys, Fh, Nh, hoff, hit, hD, hDc, hDd, hC, hJi⟩ := out _ _ hI
    clear hI
    have hlh := hsrc i ys rest h hJi Nh Fh
    -- what a change at I, I + 1, I + 2 leaves
    have frOf : ∀ h₂ : Heap, (∀ b o, b ≠ I → b ≠ I + 1 → b ≠ I + 2 → h.get? b = some o → h₂.get? b = some o) → Fr h₀ env.locals h₂ m ∧ News h₀ env.locals h₂ rest := fun h₂ k₂ =>
      ⟨⟨Fh.ns.at' fun o e => k₂ _ o (by omega) (by omega) (by omega) e, fun b o e => by
          have hb : @LT.lt Nat instLTNat b I := by
            cases Nat.lt_or_ge b I with
            | inl q => exact q
            | inr q => rw [new₀ b q] at e; cases e
          exact k₂ b o (by omega) (by omega) (by omega) (Fh.keep b o e), Fh.above⟩,
       fun p hp => ⟨k₂ _ _ (hoff p hp).1 (hoff p hp).2.1 (hoff p hp).2.2 (Nh p hp).1, (Nh p hp).2⟩⟩
    by_cases hlt : i < items.size
    · refine hW.item i _ _ _ hlt ⟨hit, hlh⟩ fun v h₂ tk₂ hv hst₂ hk₂ => ?_
      dsimp only
      have hC₂ : h₂.Ns (I + 2) m₂ := hC.at' fun o e => hk₂ _ o (by simp) e
      refine wpAny_assign_Name (wpAny_storeName_local (env := compEnvC scope cl (I + 2) env) (lookup_relabel_local hx) hC₂ (fun h₃ hn₃ hs₃ => ?_) (by simp [compEnvC, relabel, hkind]))
      dsimp only [compEnvC] at hn₃ hs₃
      have up₃ : ∀ b o, b ≠ I → b ≠ I + 2 → h.get? b = some o → h₃.get? b = some o := fun b o n1 n2 e => (hs₃.2 b n2).trans (hk₂ b o (by simpa using n1) e)
      obtain ⟨F₃, N₃⟩ := frOf h₃ fun b o n1 _ n3 e => up₃ b o n1 n3 e
      have hD₃ := up₃ _ _ (by omega) (by omega) hD
      have hit₃ : h₃.IsListIter I l (i + 1) := hst₂.1.at fun o e => (hs₃.2 I (Nat.ne_of_lt (by omega))).trans e
      obtain ⟨oI₃, hoI₃, hI₃⟩ := id hit₃
      obtain ⟨oC₃, es₃, ep₃, hoC₃, hC₃⟩ := id hn₃
      have Nown : News h₀ env.locals h₃ ([(I, oI₃), (I + 2, oC₃), (I + 1, oD)] ++ rest) := fun p hp => by
        rcases List.mem_append.mp hp with hp | hp
        · simp only [List.mem_cons, List.not_mem_nil, or_false] at hp
          rcases hp with rfl | rfl | rfl
          · exact ⟨hoI₃, by show I ≠ _; omega, new₀ _ (Nat.le_refl _)⟩
          · exact ⟨hoC₃, by show I + 2 ≠ _; omega, new₀ _ (by omega)⟩
          · exact ⟨hD₃, by show I + 1 ≠ _; omega, new₀ _ (by omega)⟩
        · exact N₃ p hp
      refine N_mono (turn i v ys rest [(I, oI₃), (I + 2, oC₃), (I + 1, oD)] (I + 2) _ h₃ _ (by simpa using hv) hys hJi F₃ Nown hn₃ (by simp) ⟨oC₃, by simp⟩ (fun p hp q hq => ?_)) fun u s₄ q => ?_
      case refine_1 =>
        have z := hoff p hp
        simp only [List.mem_cons, List.not_mem_nil, or_false] at hq
        rcases hq with rfl | rfl | rfl
        · exact z.1
        · exact z.2.2
        · exact z.2.1
      obtain ⟨h₄, tk₄, rest', rfl, F₄, N₄, hoff₄, hJ₄⟩ := q
      have gI₄ := (N₄ (I, oI₃) (by simp)).1
      have gC₄ := (N₄ (I + 2, oC₃) (by simp)).1
      have gD₄ := (N₄ (I + 1, oD) (by simp)).1
      dsimp only at gI₄ gC₄ gD₄
      obtain ⟨nD, hDd'⟩ := hDd
      refine wpAny_list_append (items := ys.toArray) ⟨oD, gD₄, hDc, nD, hDd'⟩ (fun h₅ hl₅ hs₅ => ?_) (by rw [List.size_toArray, sizeLine_eq]; omega)
      dsimp only at hs₅
      obtain ⟨oD₅, hoD₅, hc₅, n₅, hd₅⟩ := hl₅
      have hoff' : ∀ p ∈ rest', p.1 ≠ I ∧ p.1 ≠ I + 1 ∧ p.1 ≠ I + 2 := fun p hp => ⟨hoff₄ p hp (I, oI₃) (by simp), hoff₄ p hp (I + 1, oD) (by simp), hoff₄ p hp (I + 2, oC₃) (by simp)⟩
      have up₅ : ∀ b o, b ≠ I + 1 → h₄.get? b = some o → h₅.get? b = some o := fun b o n1 e => (hs₅.2 b n1).trans e
      have hC₅ : h₅.Ns (I + 2) (fun z => if z = x then some v else m₂ z) := ⟨oC₃, es₃, ep₃, up₅ _ _ (Nat.ne_of_gt (by omega)) gC₄, hC₃⟩
      refine ⟨items.size - (i + 1), by omega, into _ _ ⟨i + 1, ys ++ [u], h₅, tk₄, rest', oD₅, _, rfl, rfl, hlt, by simp [hys], ?_, ?_, hoff', ?_, hoD₅, hc₅, ⟨n₅, by rw [hd₅]; simp⟩, hC₅, hJ₄⟩⟩
      · exact ⟨F₄.ns.at' fun o e => up₅ _ o (by omega) e, fun b o e => up₅ b o (fun z => by rw [z, new₀ _ (by omega)] at e; cases e) (F₄.keep b o e), F₄.above⟩
      · exact fun p hp => ⟨up₅ _ _ (hoff' p hp).2.1 (N₄ p (List.mem_append.mpr (.inr hp))).1, (N₄ p (List.mem_append.mpr (.inr hp))).2⟩
      · exact ⟨oI₃, up₅ _ _ (by omega) gI₄, hI₃⟩
    · have hin : i = items.size := by omega
      subst hin
      refine hW.done _ _ _ ⟨hit, hlh⟩ fun h₂ tk₂ hk₂ => ?_
      dsimp only
      obtain ⟨F₂, N₂⟩ := frOf h₂ fun b o n1 _ _ e => hk₂ b o (by simpa using n1) e
      have hD₂ := hk₂ (I + 1) _ (by simp) hD
      refine wpAny_assign_Name (wpAny_storeName_local hy F₂.ns (fun h₃ hn₃ hs₃ => ?_) hp)
      dsimp only at hs₃
      have F₃ := F₂.set hn₃ hs₃
      have N₃ := N₂.set hs₃
      obtain ⟨oC, es, ep, hoC, hC'⟩ := id hC
      have gC : h₃.get? (I + 2) = some oC := (hs₃.2 _ (Nat.ne_of_gt (by omega))).trans (hk₂ _ _ (by simp) hoC)
      refine ⟨m₂, ⟨oC, es, ep, gC, hC'⟩, fun h₄ hs₄ => ?_⟩
      dsimp only at hs₄
      refine done ys rest (I + 1) oD h₄ _ hys hJi hDc hDd ?_ ?_
      · exact ⟨F₃.ns.at' fun o e => (hs₄.2 _ (Nat.ne_of_lt (by omega))).trans e, fun b o e => (hs₄.2 b fun z => by rw [z, new₀ _ (by omega)] at e; cases e).trans (F₃.keep b o e), F₃.above⟩
      · intro p hp
        rcases List.mem_cons.mp hp with rfl | hp
        · exact ⟨(hs₄.2 _ (by show I + 1 ≠ _; omega)).trans ((hs₃.2 _ (by show I + 1 ≠ _; omega)).trans hD₂), by show I + 1 ≠ _; omega, new₀ _ (by omega)⟩
        · exact ⟨(hs₄.2 _ (hoff p hp).2.2).trans (N₃ p hp).1, (N₃ p hp).2⟩
  exact codeN_compStart (loop _ rfl) (hW.self 0 _ _ _ ⟨⟨_, gI, by subst hIo; rfl, by subst hIo; rfl⟩, stays_list up hl₀⟩ (loop _ rfl))
end
end Mine
end
-- part FL
section
open PySem PySem.W PyProof.Rows
set_option maxRecDepth 100000
namespace Mine
section
variable {prog : Program} {w : World} {A : Around} {s : Shared}
/-- law is entered: its cell is new, its code table lies in the ledger -/
theorem enterCN {Q : Value → Shared → Prop} {K : Frag} {p : Program} {loose : List Str} {mean : ExcName → Option Value} {mg mb : Str → Option Value}
    {name qual : Str} {params : Arguments} {body : List Stmt} {scope : Scope} {dV kV doc pm cdv ct oc : Value} {an od : Option Addr} {osl : Array (Option Value)} {f : Addr} {args : List Value} {binds : List (Str × Value)} {tabs : List (Addr × Addr)}
    (X : K.In s.heap) (T : Top p loose mean mg mb s.heap) (hT : TabsAt tabs s.heap)
    (ho : K.lookup f = some ⟨oc, od, .func (fnX name qual params body scope [] dV kV doc pm an cdv ct), osl⟩) (hcd : codeIn K cdv qual = true) (hroom : A.depth < recursionLimit)
    (hbind : BindsTo s (fnX name qual params body scope [] dV kV doc pm an cdv ct) ⟨args, []⟩ binds)
    (hkind : ∀ n, ∀ x ∈ binds, scope.names.lookup x.1 = some .local ∨ (scope.names.lookup x.1 = some .cell ∧ ((cellsFrom n scope.names []).lookup x.1).isSome = true))
    (hnd : ((cellsFrom 0 scope.names []).map (·.1)).Nodup)
    (hco : scope.isCoroutine = false) (hgen : scope.isGenerator = false) (hk : scope.kind = .function)
    (h : ∀ L h₁ tk cells, Fr (ghostOf s.heap tabs) L h₁ (bindL (envOfC qual scope L f cdv).kindOf binds fun _ => none) → News (ghostOf s.heap tabs) L h₁ (cells ++ tabNews tabs) → CellsAre (bindC (envOfC qual scope L f cdv).kindOf binds fun _ => none) (cellsFrom (L + 1) scope.names []) cells →
      wpN (model prog w) (A.deeper (envOfC qual scope L f cdv)) (execs body (envOfC qual scope L f cdv)) (fun fl s' => Q (match fl with | .ret v => v | _ => .none) s')
        { s with heap := h₁, toks := tk }) :
    wpN (model prog w) A (call (.ref f) args) Q s := by
  refine N_call (codeN_tree ?_)
  show wpN _ A.in1 (callAny (.ref f) ⟨args, []⟩) _ s
  simp only [callAny]
  refine N_bindA (wpAny_load (X _ _ ho) ?_)
  obtain ⟨c, oc', vs, tq, hc, hoc, hdc, hq⟩ := codeRec_of X hcd
  subst hc
  simp only [callFunction, hco, hgen]
  refine N_bindA (m := field (.ref c) 1) (wpAny_field hoc hdc hq (N_bindA (wpAny_pure ?_)))
  refine N_bindA (hbind _ _ _ _ ?_)
  refine N_bindA (wpAny_newFunctionEnv_cells hk (hkind _) fun env' he s' x => ?_)
  subst he
  refine N_bindA (wpAny_enterFrame (T.nolimit.keeps x.toInCall.keep) (show A.in1.depth < recursionLimit from hroom) (N_pure ⟨rfl, rfl, ?_⟩))
  obtain ⟨h₁, tk, rfl, _⟩ := x.done
  obtain ⟨cells, NC, Y⟩ := Cl.news (h₀ := s.heap) (Nat.le_refl _) fun n c hm => ⟨x.cell n c (lookup_of_mem_nodup (cellsFrom_names scope.names 0 (s.heap.objs.size + 1) [] [] rfl ▸ hnd) hm), x.above n c hm⟩
  have F : Fr s.heap s.heap.objs.size h₁ _ := ⟨x.toInCall.ns, x.toInCall.keep, Nat.le_refl _⟩
  exact codeN_func (h s.heap.objs.size h₁ tk cells (ghost_fr hT F) (ghost_news hT F NC) Y)
theorem ghost_gd {w : World} {h : Heap} {tabs : List (Addr × Addr)} (hT : TabsAt tabs h) (G : Gd w h) (hK : noTabs (MineHd.hd.heap_1 w.params) = true) : Gd w (ghostOf h tabs) := by
  obtain ⟨X, p, loose, mean, mg, mb, T⟩ := G
  exact ⟨ghost_K hT X hK, _, _, _, _, _, ghost_top hT T⟩
theorem noTabs39 (w : World) : noTabs (MineHd.hd.heap_1 w.params) = true := by with_unfolding_all rfl
end
end Mine
end
-- part NE
section
open PySem PySem.W PyProof.Rows
set_option maxRecDepth 100000
namespace Mine
section
variable {prog : Program} {w : World} {A : Around} {E : Value → Shared → Prop} {s : Shared} {env : Env} {h₀ : Heap} {L : Addr} {m : Str → Option Value}
theorem comp_list {elt iter : PySem.Expr} {x : Str} {px : Pos} {scope : Scope} {cl : List (Str × Addr)} {pos : Pos} {Q : Value → Shared → Prop} {pF : Value → Value → Prop}
    (_F : Fr h₀ L s.heap m) (hh : A.handled = none) (hclos : closureFor scope env = pure cl) (hcell : ∀ y ∈ scope.names, y.2 ≠ .cell) (hkind : scope.kind = .function)
    (hnames : ∀ y ∈ scope.names, y.2 = .local → scope.names.lookup y.1 = some .local) (hx : scope.names.lookup x = some .local)
    (h : wpAny (model prog w) A (eval iter env) (fun xv s₁ => Halt (∃ l items news, xv = .ref l ∧ Fr h₀ L s₁.heap m ∧ News h₀ L s₁.heap news ∧ s₁.heap.IsList l items ∧ items.size ≤ 1000 ∧
      (∀ C (i : Nat) v s₂ m₂ E', items[i]? = some v → s₂.heap.Ns (compEnvC scope cl C env).locals m₂ → m₂ x = some v → (∀ b o, s₁.heap.get? b = some o → s₂.heap.get? b = some o) →
        wpAny (model prog w) A (eval elt (compEnvC scope cl C env)) (fun y s₃ => pF v y ∧ Keeps s₂ s₃) E' s₂) ∧
      (∀ D ys nD h' tk, Fr h₀ L h' m → News h₀ L h' ((D, listOf ys nD) :: news) → Paired pF items.toList ys.toList → Q (.ref D) { s₁ with heap := h', toks := tk }))) E s)
    (hs : ∀ x, foldedSetIterable iter env x = pure x) :
    wpAny (model prog w) A (eval (.ListComp elt [⟨.Name x px, iter, [], 0⟩] scope pos) env) Q E s := by
  refine wpAny_ListComp_free (fun _ => true) pF hclos hcell hkind hnames hx (wpAny_mono h (fun xv s₁ h₁ => ?_) fun _ _ e => e) hs
  obtain ⟨l, items, news, rfl, F, N, hl, hsz, helt, hQ⟩ := h₁.out
  obtain ⟨ol, hol, _⟩ := id hl
  have hll : l < s₁.heap.objs.size := Heap.lt_size hol
  refine wpAny_pyIter_list hl ?_
  generalize hIo : ({ cls := .type "list_iterator", data := _ } : Obj) = oI
  have hfI : oI.isFreed = false := by subst hIo; rfl
  have up : ∀ (u : Heap), (∀ b o, b ∉ [s₁.heap.objs.size] → (s₁.heap.push oI).get? b = some o → u.get? b = some o) → ∀ b o, s₁.heap.get? b = some o → u.get? b = some o :=
    fun u hk b o e => hk b o (fun hm => by rcases List.mem_cons.mp hm with rfl | hm; exact Nat.lt_irrefl _ (Heap.lt_size e); cases hm) (Heap.get?_push_of_some _ e)
  refine ⟨s₁.heap.objs.size, _, _, items.size, _, _, rfl, Walks.list hh _ l (Nat.ne_of_lt hll) items, by rw [sizeLine_eq]; omega, ⟨⟨_, Heap.get?_push_size _ hfI, by subst hIo; rfl, by subst hIo; rfl⟩, hl.at fun o e => Heap.get?_push_of_some _ e⟩, ?_, ⟨?_, ?_⟩, ?_⟩
  · intro b hb
    show b < (s₁.heap.push _).objs.size
    rw [Heap.size_push]
    rcases List.mem_cons.mp hb with rfl | hb
    · exact Nat.lt_succ_self _
    · rw [List.mem_singleton.mp hb]
      exact Nat.lt_succ_of_lt hll
  · intro C i v s₃ m₃ E' hC hP hn hm hk _
    exact wpAny_pure ⟨rfl, ⟨s₃.heap, s₃.toks, rfl, fun _ _ e => e⟩⟩
  · intro C i v s₃ m₃ E' hC hP _ hn hm hk _
    exact helt C i v s₃ m₃ E' hP hn hm (up _ hk)
  · intro D h' tk ys vs hnew hlD hplD hlen hP hF hk
    have keep := up _ hk
    obtain ⟨nD, hD⟩ := hplD
    have hvs : vs = items.toList := by
      apply List.ext_getElem?
      intro j
      by_cases hj : j < vs.length
      · have e := hP j _ (List.getElem?_eq_getElem hj)
        rw [List.getElem?_eq_getElem hj, Array.getElem?_toList]
        exact e.symm
      · rw [List.getElem?_eq_none (by omega), List.getElem?_eq_none (by simp; omega)]
    have hnew1 : s₁.heap.get? D = none := by
      cases e : s₁.heap.get? D with
      | none => rfl
      | some o => rw [Heap.get?_push_of_some _ e] at hnew; cases hnew
    refine hQ D ys nD h' tk (F.keeps keep) (made_news (M := [(D, _)]) F N keep fun p hp => ?_) (by rw [List.filter_eq_self.mpr (fun _ _ => rfl), hvs] at hF; exact hF)
    obtain rfl := List.mem_singleton.mp hp
    exact ⟨hD, hnew1⟩
end
end Mine
end
-- part PA
section
open PySem PySem.W PyProof.Rows
set_option maxRecDepth 100000
namespace Mine
def sgn (n : Int) : Str := Txt.item (Str.ofString "-ab0Z") (n.fmod 5)
theorem sgn_cases (n : Int) : sgn n = ⟨#[45]⟩ ∨ sgn n = ⟨#[97]⟩ ∨ sgn n = ⟨#[98]⟩ ∨ sgn n = ⟨#[48]⟩ ∨ sgn n = ⟨#[90]⟩ := by
  have h0 := Int.fmod_nonneg_of_pos n (show (0 : Int) < 5 by decide)
  have h1 := Int.fmod_lt_of_pos n (show (0 : Int) < 5 by decide)
  unfold sgn
  generalize n.fmod 5 = k at *
  have hk : k = 0 ∨ k = 1 ∨ k = 2 ∨ k = 3 ∨ k = 4 := by omega
  rcases hk with rfl | rfl | rfl | rfl | rfl
  · exact .inl (by decide +kernel)
  · exact .inr (.inl (by decide +kernel))
  · exact .inr (.inr (.inl (by decide +kernel)))
  · exact .inr (.inr (.inr (.inl (by decide +kernel))))
  · exact .inr (.inr (.inr (.inr (by decide +kernel))))
theorem sgn_len (n : Int) : (sgn n).length = 1 := by
  rcases sgn_cases n with h | h | h | h | h <;> rw [h] <;> rfl
def isSgn (v y : Value) : Prop := ∃ n t t', v = .int n t ∧ y = .str (sgn n) t'
def isFun (f : Int → Int) (v y : Value) : Prop := ∃ n t t', v = .int n t ∧ y = .int (f n) t'
theorem sgn_strs : ∀ {ws ys : List Value} {ns : List Int}, Paired isSgn ws ys → IntsAre ws ns → StrsAre ys (ns.map sgn)
  | _, _, _, .nil, .nil => .nil
  | _, _, _, .cons h1 r, h => by
    obtain ⟨n, t, t', e1, e2⟩ := h1
    subst e1 e2
    cases h with
    | cons m u h => exact .cons _ _ (sgn_strs r h)
theorem fun_ints {f : Int → Int} : ∀ {ws ys : List Value} {ns : List Int}, Paired (isFun f) ws ys → IntsAre ws ns → IntsAre ys (ns.map f)
  | _, _, _, .nil, .nil => .nil
  | _, _, _, .cons h1 r, h => by
    obtain ⟨n, t, t', e1, e2⟩ := h1
    subst e1 e2
    cases h with
    | cons m u h => exact .cons _ _ (fun_ints r h)
theorem sgn_sum : ∀ (ns : List Int), ((ns.map sgn).map (·.length)).sum = ns.length
  | [] => rfl
  | n :: r => by
    have ih := sgn_sum r
    simp only [List.map_cons, List.sum_cons, sgn_len, ih, List.length_cons]
    omega
def baseOf (ns : List Int) : Str := Txt.join (Str.ofString "") ((ns.take 3).map sgn)
theorem base_cps (ns : List Int) : (baseOf ns).length ≤ 3 ∧ ∀ c ∈ (baseOf ns).cps.toList, c = 45 ∨ c = 97 ∨ c = 98 ∨ c = 48 ∨ c = 90 := by
  have one : ∀ n, ∃ c, sgn n = ⟨#[c]⟩ ∧ (c = 45 ∨ c = 97 ∨ c = 98 ∨ c = 48 ∨ c = 90) := fun n => by
    rcases sgn_cases n with h | h | h | h | h
    · exact ⟨45, h, by simp⟩
    · exact ⟨97, h, by simp⟩
    · exact ⟨98, h, by simp⟩
    · exact ⟨48, h, by simp⟩
    · exact ⟨90, h, by simp⟩
  have he : Str.ofString "" = ⟨#[]⟩ := by decide +kernel
  unfold baseOf
  rw [he]
  match ns with
  | [] => simp [Txt.join, Builtin.Str.glued, Str.empty, Str.length]
  | [a] =>
    obtain ⟨x, hx, px⟩ := one a
    simp [Txt.join, Builtin.Str.glued, Str.length, hx]
    exact px
  | [a, b] =>
    obtain ⟨x, hx, px⟩ := one a
    obtain ⟨y, hy, py⟩ := one b
    simp [Txt.join, Builtin.Str.glued, Str.length, hx, hy]
    exact ⟨px, py⟩
  | a :: b :: c :: r =>
    obtain ⟨x, hx, px⟩ := one a
    obtain ⟨y, hy, py⟩ := one b
    obtain ⟨z, hz, pz⟩ := one c
    simp [Txt.join, Builtin.Str.glued, Str.length, hx, hy, hz]
    exact ⟨px, py, pz⟩
end Mine
end
-- part LN
section
open PySem PySem.W PyProof.Rows
set_option maxRecDepth 100000
namespace Mine
section
variable {M : Model} {A : Around} {E : Value → Shared → Prop} {s : Shared} {env : Env} {g : Heap} {L : Addr} {m : Str → Option Value} {own rest : List (Addr × Obj)} {w : World}
  {params : Arguments} {body : PySem.Expr} {scope : Scope} {pos : Pos} {clos : List (Str × Addr)} {ps : Array Value} {Q : Value → Shared → Prop}
theorem lam_new (hdef : defaultsOf params env = ([], [])) (hcl : closureFor scope env = pure clos) (hge : env.globals = mainGlobals) (hcode : env.code = .ref 130) (hC : CodeHd g 130 128)
    (G : Gd w g) (F : Fr g L s.heap m) (N : News g L s.heap (own ++ rest)) (hdis : ∀ p ∈ rest, ∀ q ∈ own, p.1 ≠ q.1) (hP : (128, tabObj ps) ∈ rest) (ht : TriplesOk ps.toList) (hnf : codeAmong pos ps.toList = none)
    (h : ∀ f c' oc vs t ctv pm h' tk, Fr g L h' m → News g L h' (own ++ ((f, kla_obj "<lambda>" (env.qual ++ "<lambda>") params body scope clos pm c' ctv) :: (c', oc) :: (128, tabObj (ps ++ #[rawInt pos.line, rawInt pos.col, .ref c'])) :: rest.filter fun p => p.1 != 128)) →
      oc.data = .fields vs → vs[1]? = some (.str (env.qual ++ "<lambda>") t) → s.heap.get? f = none → s.heap.get? c' = none → Q (.ref f) { s with heap := h', toks := tk }) :
    wpAny M A (eval (.Lambda params body scope pos) env) Q E s := by
  obtain ⟨X, p, loose, mean, mg, mb, T⟩ := G
  have hm := N (128, tabObj ps) (List.mem_append_right _ hP)
  dsimp only at hm
  have hgs := T.g.keeps F.keep
  obtain ⟨bm, ob, b1, b2, b3, b4, b5, b6⟩ := T.bmain
  have hgP : mainGlobals ≠ 128 := fun q => by
    obtain ⟨o, es, ep, e, hd, _⟩ := hgs
    rw [q, hm.1] at e; cases e; cases hd
  have hbP : bm ≠ 128 := fun q => by
    have e := F.keep _ _ b3
    rw [q, hm.1] at e; cases e; cases b4
  have hbG : bm ≠ mainGlobals := fun q => by
    obtain ⟨o, es, ep, e, hd, _⟩ := T.g
    rw [q, e] at b3; cases b3; rw [hd] at b6; cases b6
  refine kla_eval hdef ?_
  refine kla_makeFunction (mg := mg) hcl hge hgs hcode (hC.keeps F.keep) hm.1 ht hnf hgP ⟨bm, ob, b1, b2, hbG, hbP, F.keep _ _ b3, b4, b5, b6⟩ fun c' ctv h' tk hx hge' hlt hrec htb => ?_
  obtain ⟨c₂, oc, vs, t, e2, hoc, hd, hv⟩ := hrec
  cases e2
  have hLs : L < s.heap.objs.size := F.ns.lt
  have old : ∀ b o, g.get? b = some o → h'.get? b = some o := fun b o e => hx b o (fun q => by rw [q, hm.2.2] at e; cases e) (F.keep b o e)
  have fresh : ∀ b, L < b → g.get? b = none := fun b hb => Heap.get?_none_of_le (Nat.le_trans F.above (Nat.le_of_lt hb))
  have hLc : L < c' := Nat.lt_of_lt_of_le hLs hge'
  refine h h'.objs.size c' oc vs t ctv ((mg "__name__").getD .none) (h'.push (kla_obj "<lambda>" (env.qual ++ "<lambda>") params body scope clos ((mg "__name__").getD .none) c' ctv)) tk ⟨(F.ns.extBut hx hm.2.1.symm).push _, fun b o e => Heap.get?_push_of_some _ (old b o e), F.above⟩ (fun q hq => ?_) hd hv (Heap.get?_none_of_le (Nat.le_of_lt (Nat.lt_of_le_of_lt hge' hlt))) (Heap.get?_none_of_le hge')
  rcases List.mem_append.mp hq with hq | hq
  · have n := N q (List.mem_append_left _ hq)
    exact ⟨Heap.get?_push_of_some _ (hx _ _ (fun z => hdis _ hP q hq z.symm) n.1), n.2⟩
  rcases List.mem_cons.mp hq with rfl | hq
  · exact ⟨Heap.get?_push_size _ rfl, Nat.ne_of_gt (Nat.lt_trans hLc hlt), fresh _ (Nat.lt_trans hLc hlt)⟩
  rcases List.mem_cons.mp hq with rfl | hq
  · exact ⟨Heap.get?_push_of_some _ hoc, Nat.ne_of_gt hLc, fresh _ hLc⟩
  rcases List.mem_cons.mp hq with rfl | hq
  · exact ⟨Heap.get?_push_of_some _ htb, hm.2⟩
  · have z := List.mem_filter.mp hq
    have n := N q (List.mem_append_right _ z.1)
    exact ⟨Heap.get?_push_of_some _ (hx _ _ (by simpa using z.2) n.1), n.2⟩

theorem lam_hit {c' : Addr} (hdef : defaultsOf params env = ([], [])) (hcl : closureFor scope env = pure clos) (hge : env.globals = mainGlobals) (hcode : env.code = .ref 130) (hC : CodeHd g 130 128)
    (G : Gd w g) (F : Fr g L s.heap m) (N : News g L s.heap (own ++ rest)) (hP : (128, tabObj ps) ∈ rest) (ht : TriplesOk ps.toList) (hf : codeAmong pos ps.toList = some (.ref c'))
    (h : ∀ f ctv pm h' tk, Fr g L h' m → News g L h' (own ++ ((f, kla_obj "<lambda>" (env.qual ++ "<lambda>") params body scope clos pm c' ctv) :: rest)) → s.heap.get? f = none → Q (.ref f) { s with heap := h', toks := tk }) :
    wpAny M A (eval (.Lambda params body scope pos) env) Q E s := by
  obtain ⟨X, p, loose, mean, mg, mb, T⟩ := G
  have hm := N (128, tabObj ps) (List.mem_append_right _ hP)
  dsimp only at hm
  have hgs := T.g.keeps F.keep
  obtain ⟨bm, ob, b1, b2, b3, b4, b5, b6⟩ := T.bmain
  have hbP : bm ≠ 128 := fun q => by
    have e := F.keep _ _ b3
    rw [q, hm.1] at e; cases e; cases b4
  have hbG : bm ≠ mainGlobals := fun q => by
    obtain ⟨o, es, ep, e, hd, _⟩ := T.g
    rw [q, e] at b3; cases b3; rw [hd] at b6; cases b6
  refine kla_eval hdef ?_
  refine kla_makeFunctionHit (mg := mg) hcl hge hgs hcode (hC.keeps F.keep) hm.1 ht hf ⟨bm, ob, b1, b2, hbG, hbP, F.keep _ _ b3, b4, b5, b6⟩ fun ctv h' tk hk hsz => ?_
  have hLs : L < h'.objs.size := Nat.lt_of_lt_of_le F.ns.lt hsz
  have fresh : ∀ b, L < b → g.get? b = none := fun b hb => Heap.get?_none_of_le (Nat.le_trans F.above (Nat.le_of_lt hb))
  refine h h'.objs.size ctv ((mg "__name__").getD .none) (h'.push (kla_obj "<lambda>" (env.qual ++ "<lambda>") params body scope clos ((mg "__name__").getD .none) c' ctv)) tk ⟨(F.ns.keeps hk).push _, fun b o e => Heap.get?_push_of_some _ (hk b o (F.keep b o e)), F.above⟩ (fun q hq => ?_) (Heap.get?_none_of_le hsz)
  rcases List.mem_append.mp hq with hq | hq
  · exact ⟨Heap.get?_push_of_some _ (hk _ _ (N q (List.mem_append_left _ hq)).1), (N q (List.mem_append_left _ hq)).2⟩
  rcases List.mem_cons.mp hq with rfl | hq
  · exact ⟨Heap.get?_push_size _ rfl, Nat.ne_of_gt hLs, fresh _ hLs⟩
  · exact ⟨Heap.get?_push_of_some _ (hk _ _ (N q (List.mem_append_right _ hq)).1), (N q (List.mem_append_right _ hq)).2⟩
/-- the table does not know the lambda yet, or knows it -/
def TabS (pre : Array Value) (rest : List (Addr × Obj)) : Prop := (128, tabObj pre) ∈ rest
def TabE (pre : Array Value) (pos : Pos) (qual : Str) (rest : List (Addr × Obj)) : Prop := ∃ c' oc vs t, (128, tabObj (pre ++ #[rawInt pos.line, rawInt pos.col, .ref c'])) ∈ rest ∧ (c', oc) ∈ rest ∧ oc.data = .fields vs ∧ vs[1]? = some (.str qual t)
theorem lam_any {pre : Array Value} (hdef : defaultsOf params env = ([], [])) (hcl : closureFor scope env = pure clos) (hge : env.globals = mainGlobals) (hcode : env.code = .ref 130) (hC : CodeHd g 130 128)
    (G : Gd w g) (F : Fr g L s.heap m) (N : News g L s.heap (own ++ rest)) (hdis : ∀ p ∈ rest, ∀ q ∈ own, p.1 ≠ q.1) (hT : TabS pre rest ∨ TabE pre pos (env.qual ++ "<lambda>") rest)
    (ht : TriplesOk pre.toList) (hnf : codeAmong pos pre.toList = none) (ht' : ∀ c', TriplesOk (pre ++ #[rawInt pos.line, rawInt pos.col, .ref c']).toList) (hhit : ∀ c', codeAmong pos (pre ++ #[rawInt pos.line, rawInt pos.col, .ref c']).toList = some (.ref c'))
    (h : ∀ f c' oc vs t ctv pm h' tk rest', Fr g L h' m → News g L h' (own ++ rest') → (f, kla_obj "<lambda>" (env.qual ++ "<lambda>") params body scope clos pm c' ctv) ∈ rest' → (c', oc) ∈ rest' → oc.data = .fields vs → vs[1]? = some (.str (env.qual ++ "<lambda>") t) →
      TabE pre pos (env.qual ++ "<lambda>") rest' → (∀ p ∈ rest, p.1 ≠ 128 → p ∈ rest') → (∀ p ∈ rest', (∃ o, (p.1, o) ∈ rest) ∨ s.heap.get? p.1 = none) → Q (.ref f) { s with heap := h', toks := tk }) :
    wpAny M A (eval (.Lambda params body scope pos) env) Q E s := by
  rcases hT with hP | ⟨c', oc, vs, t, hP, hc, hd, hv⟩
  · refine lam_new hdef hcl hge hcode hC G F N hdis hP ht hnf fun f c' oc vs t ctv pm h' tk F' N' hd hv hf hc => ?_
    refine h f c' oc vs t ctv pm h' tk _ F' N' (.head _) (.tail _ (.head _)) hd hv ⟨c', oc, vs, t, .tail _ (.tail _ (.head _)), .tail _ (.head _), hd, hv⟩ (fun p hp hn => .tail _ (.tail _ (.tail _ (List.mem_filter.mpr ⟨hp, by simpa using hn⟩)))) fun p hp => ?_
    rcases List.mem_cons.mp hp with rfl | hp
    · exact .inr hf
    rcases List.mem_cons.mp hp with rfl | hp
    · exact .inr hc
    rcases List.mem_cons.mp hp with rfl | hp
    · exact .inl ⟨_, hP⟩
    · exact .inl ⟨p.2, (List.mem_filter.mp hp).1⟩
  · refine lam_hit hdef hcl hge hcode hC G F N hP (ht' c') (hhit c') fun f ctv pm h' tk F' N' hf => ?_
    refine h f c' oc vs t ctv pm h' tk _ F' N' (.head _) (.tail _ hc) hd hv ⟨c', oc, vs, t, .tail _ hP, .tail _ hc, hd, hv⟩ (fun p hp _ => .tail _ hp) fun p hp => ?_
    rcases List.mem_cons.mp hp with rfl | hp
    · exact .inr hf
    · exact .inl ⟨p.2, hp⟩
end
end Mine
end
-- part LO
section
open PySem PySem.W PyProof.Rows
set_option maxRecDepth 100000
namespace Mine
theorem N_Subscript {prog : Program} {w : World} {A : Around} {s : Shared} {env : Env} {value slice : PySem.Expr} {pos : Pos} {Q : Value → Shared → Prop}
    (h : wpN (model prog w) A (eval value env) (fun o s₁ => wpAny (model prog w) A (eval slice env) (fun i s₂ => wpAny (model prog w) A (subscriptTail value slice o i) Q (fun _ _ => False) s₂) (fun _ _ => False) s₁) s) :
    wpN (model prog w) A (eval (.Subscript value slice pos) env) Q s := by
  have e : eval (.Subscript value slice pos) env = (do
    let o ← eval value env
    let i ← holding [o] (eval slice env)
    standAt pos
    subscriptTail value slice o i) := rfl
  rw [e]
  exact N_bind (N_mono h fun o s₁ h₁ => N_bindA (wpAny_holding (wpAny_mono h₁ (fun i s₂ h₂ => N_bindA (wpAny_standAt (N_any h₂))) fun _ _ x => x)))
section
variable {prog : Program} {w : World} {A : Around} {s : Shared} {Q : Value → Shared → Prop} {f iv : Addr} {R : Rd}
theorem reduce_list {l : Addr} {items : Array Value} (Acc : Rd → Nat → Value → Prop) (hAcc : ∀ (R R' : Rd) i v, (∀ a its, R a its → R' a its) → Acc R i v → Acc R' i v)
    (G : Gd w s.heap) (r : Rm A 6) (hR : R.At s.heap) (hne : iv ≠ 64) (hiv : ∃ o, s.heap.get? iv = some o ∧ o.cls ≠ .type "tuple") (hf : ∃ o fd, s.heap.get? f = some o ∧ o.data = .func fd) (hl : s.heap.IsList l items)
    (h0 : Acc R 0 (.ref iv))
    (hstep : ∀ (A' : Around) (s' : Shared) (R' : Rd) (Q' : Value → Shared → Prop) i acc el, Rm A' 5 → s.heap.StaysIn s'.heap → R'.At s'.heap → Acc R' i acc → items[i]? = some el →
      (∀ v M h' tk', s'.heap.StaysIn h' → Made s'.heap h' M → Acc (Or2 M R') (i + 1) v → Q' v { s' with heap := h', toks := tk' }) → wpN (model prog w) A' (call (.ref f) [acc, el]) Q' s')
    (h : ∀ v M h' tk', s.heap.StaysIn h' → Made s.heap h' M → Acc (Or2 M R) items.size v → Q v { s with heap := h', toks := tk' }) :
    wpN (model prog w) A (call (.ref 72) [.ref f, .ref l, .ref iv]) Q s := by
  refine reduce_k (oI := { cls := .type "list_iterator", data := .fields #[.ref l, rawInt 0] }) (fpx := [l]) (St := fun I i h => h.IsListIter I l i ∧ h.IsList l items) Acc hAcc G r hR hne hiv rfl hf ?_ ?_ rfl ?_ ?_ ?_ h0 hstep h
  · intro b hb
    rw [List.mem_singleton.mp hb]
    obtain ⟨o, ho, _⟩ := hl
    exact ⟨o, ho⟩
  · intro A' s' Q' E' hk hq
    exact wpAny_pyIter_list (stays_list hk hl) hq
  · intro A' I hh hn
    exact Walks.list hh I l (hn l (.head _)) items
  · intro h I hk hI
    exact ⟨⟨_, hI, rfl, rfl⟩, stays_list hk hl⟩
  · rintro I i h ⟨⟨o, ho, hc, _⟩, _⟩
    exact ⟨o, ho, by unfold isLo; rw [hc]; rfl⟩
theorem reduce_bytes {b : Array UInt8} {tb : Tok} (Acc : Rd → Nat → Value → Prop) (hAcc : ∀ (R R' : Rd) i v, (∀ a its, R a its → R' a its) → Acc R i v → Acc R' i v)
    (G : Gd w s.heap) (r : Rm A 6) (hR : R.At s.heap) (hne : iv ≠ 64) (hiv : ∃ o, s.heap.get? iv = some o ∧ o.cls ≠ .type "tuple") (hf : ∃ o fd, s.heap.get? f = some o ∧ o.data = .func fd)
    (h0 : Acc R 0 (.ref iv))
    (hstep : ∀ (A' : Around) (s' : Shared) (R' : Rd) (Q' : Value → Shared → Prop) i acc el, Rm A' 5 → s.heap.StaysIn s'.heap → R'.At s'.heap → Acc R' i acc → (∃ c u, b[i]? = some c ∧ el = .int (c.toNat : Int) u) →
      (∀ v M h' tk', s'.heap.StaysIn h' → Made s'.heap h' M → Acc (Or2 M R') (i + 1) v → Q' v { s' with heap := h', toks := tk' }) → wpN (model prog w) A' (call (.ref f) [acc, el]) Q' s')
    (h : ∀ v M h' tk', s.heap.StaysIn h' → Made s.heap h' M → Acc (Or2 M R) b.size v → Q v { s with heap := h', toks := tk' }) :
    wpN (model prog w) A (call (.ref 72) [.ref f, .bytes b tb, .ref iv]) Q s := by
  refine reduce_k (oI := { cls := .type "bytes_iterator", data := .fields #[.bytes b tb, .int 0 0] }) (fpx := []) (St := fun I i h => KBw.IsBytesIter h I b tb i) Acc hAcc G r hR hne hiv rfl hf ?_ ?_ rfl ?_ ?_ ?_ h0 hstep h
  · intro b hb; cases hb
  · intro A' s' Q' E' hk hq
    exact KBw.pyIter_bytes hq
  · intro A' I hh hn
    exact KBw.walks hh I b tb
  · intro h I hk hI
    exact ⟨_, hI, rfl, rfl⟩
  · rintro I i h ⟨o, ho, hc, _⟩
    exact ⟨o, ho, by unfold isLo; rw [hc]; rfl⟩
end
end Mine
end
-- part PB
section
open PySem PySem.W PyProof.Rows
set_option maxRecDepth 100000
namespace Mine
/-- what write has laid behind i numbers, and its bias -/
def wAt (z : Int) (row : List Int) : Nat → Array UInt8 × Int
  | 0 => (#[], 72)
  | i + 1 => ((wAt z row i).1 ++ (ggiF (row.getD i 0) 0 (wAt z row i).2).toArray, adf (row.getD i 0) ((i : Int) == 0) (z + i + 1))
def AccW (z : Int) (row : List Int) (R : Rd) (i : Nat) (v : Value) : Prop := ∃ a t1 t2 t3, v = .ref a ∧ R a #[.bytes (wAt z row i).1 t1, .int (wAt z row i).2 t2, .int (i : Int) t3]
theorem AccW.mono {z : Int} {row : List Int} (R R' : Rd) (i : Nat) (v : Value) (k : ∀ a its, R a its → R' a its) : AccW z row R i v → AccW z row R' i v := fun ⟨a, t1, t2, t3, e, h⟩ => ⟨a, t1, t2, t3, e, k _ _ h⟩
theorem wAt_size {z : Int} {row : List Int} (hr : ∀ n ∈ row, 0 ≤ n ∧ n < 10 ^ 31) : ∀ i, i ≤ row.length → (wAt z row i).1.size ≤ 40 * i
  | 0, _ => by simp [wAt]
  | i + 1, h => by
    have ih := wAt_size (z := z) hr i (by omega)
    have hd := hr (row.getD i 0) (by rw [List.getD_eq_getElem?_getD, List.getElem?_eq_getElem (by omega)]; exact List.getElem_mem _)
    exact gi_size ih hd.1 hd.2
theorem wAt_giL {z : Int} {row : List Int} : ∀ i, i ≤ row.length → (wAt z row i).1 ++ (giL z i (wAt z row i).2 (row.drop i)).toArray = (giL z 0 72 row).toArray
  | 0, _ => by simp [wAt]
  | i + 1, h => by
    have ih := wAt_giL (z := z) (row := row) i (by omega)
    have e : row[i]? = some (row.getD i 0) := by rw [List.getD_eq_getElem?_getD, List.getElem?_eq_getElem (by omega)]; rfl
    exact gi_step ih e
theorem wAt_end {z : Int} {row : List Int} : (wAt z row row.length).1 = (giL z 0 72 row).toArray := by
  have := wAt_giL (z := z) (row := row) row.length (Nat.le_refl _)
  rw [List.drop_length, giL] at this
  simpa using this
def AccR (z : Int) (bs : List UInt8) (R : Rd) (i : Nat) (v : Value) : Prop := ∃ a, v = .ref a ∧ StR R a (rdAt z bs i)
theorem AccR.mono {z : Int} {bs : List UInt8} (R R' : Rd) (i : Nat) (v : Value) (k : ∀ a its, R a its → R' a its) : AccR z bs R i v → AccR z bs R' i v := fun ⟨a, e, h⟩ => ⟨a, e, h.mono k⟩
end Mine
end
-- part LF
section
open PySem PySem.W PyProof.Rows PySem.Spec
set_option maxRecDepth 100000
namespace Mine
def dI (ns : List Int) : PyData := .list (ns.map .int)
theorem eqv_ints (ns : List Int) : PyData.eqv (dI ns) (dI ns) = true := by
  show PyData.eqvAll (ns.map .int) (ns.map .int) = true
  rw [ked_eqvAll]; simp
theorem shaped_list2 {d1 d2 : PyData} (h1 : d1.canLay0 = true) (h2 : d2.canLay0 = true) (k1 : d1.depth ≤ 10) (k2 : d2.depth ≤ 10) : SeqAt.shaped (.list [d1, d2]) = true := by
  simp only [SeqAt.shaped, PyData.canLay0, PyData.canLayAll0, PyData.depth, PyData.depthAll, h1, h2, Bool.and_true, Bool.true_and]
  refine decide_eq_true ?_
  omega
theorem dI_lay (ns : List Int) : (dI ns).canLay0 = true ∧ (dI ns).depth ≤ 10 := by
  have h := ke_shaped_ints ns
  constructor
  · exact SeqAt.canLay_of_shaped h
  · unfold dI
    simp [PyData.depth, ke_depthAll]
    try omega
theorem reads_ints {h : Heap} {a : Addr} {ns : List Int} (x : IntsR h.IsList a ns) : ∃ as, Reads h (.ref a) (dI ns) as := by
  obtain ⟨vs, hl, hi⟩ := x
  exact ⟨_, reads_newData hl (ke_carried hi)⟩
section
variable {prog : Program} {w : World} {A : Around} {E : Value → Shared → Prop} {s : Shared} {Q : Value → Shared → Prop} {a b a1 a2 b1 b2 : Addr} {r1 r2 : List Int}
theorem ne_rows (ha : s.heap.IsList a #[.ref a1, .ref a2]) (hb : s.heap.IsList b #[.ref b1, .ref b2]) (x1 : IntsR s.heap.IsList a1 r1) (x2 : IntsR s.heap.IsList a2 r2) (y1 : IntsR s.heap.IsList b1 r1) (y2 : IntsR s.heap.IsList b2 r2) (hu : A.units + 64 < cLine) (h : Q (.bool false) s) :
    wpAny (model prog w) A (compareOp .NotEq (.ref a) (.ref b)) Q E s := by
  obtain ⟨_, p1⟩ := reads_ints x1
  obtain ⟨_, p2⟩ := reads_ints x2
  obtain ⟨_, q1⟩ := reads_ints y1
  obtain ⟨_, q2⟩ := reads_ints y2
  have hs := shaped_list2 (dI_lay r1).1 (dI_lay r2).1 (dI_lay r1).2 (dI_lay r2).2
  refine ne_dataH (reads_of (vs := [_, _]) ha (.cons p1 (.cons p2 .nil))) (reads_of (vs := [_, _]) hb (.cons q1 (.cons q2 .nil))) hs hs hu ?_
  have e : PyData.eqv (.list [dI r1, dI r2]) (.list [dI r1, dI r2]) = true := by
    show PyData.eqvAll [dI r1, dI r2] [dI r1, dI r2] = true
    simp [PyData.eqvAll, eqv_ints]
  rw [e]; exact h
/-- a state as data -/
def dS (st : RSt) : PyData := .list [dI st.ns, .int st.v, .int st.w, .int st.p, .int st.b]
theorem reads_st {h : Heap} {a : Addr} {st : RSt} (x : StR h.IsList a st) : ∃ as, Reads h (.ref a) (dS st) as := by
  obtain ⟨ln, t1, t2, t3, t4, hl, hn⟩ := x
  obtain ⟨_, p1⟩ := reads_ints hn
  exact ⟨_, reads_of (vs := [_, _, _, _, _]) hl (.cons p1 (.cons (.int _ _) (.cons (.int _ _) (.cons (.int _ _) (.cons (.int _ _) .nil)))))⟩
theorem dS_lay (st : RSt) : (dS st).canLay0 = true ∧ (dS st).depth ≤ 10 := by
  have h := dI_lay st.ns
  unfold dS
  have h3 : (dI st.ns).depth ≤ 2 := by
    unfold dI
    simp [PyData.depth, ke_depthAll]
  constructor
  · simp [PyData.canLay0, PyData.canLayAll0, h.1]
  · simp only [PyData.depth, PyData.depthAll]
    omega
theorem eqv_st (st : RSt) : PyData.eqv (dS st) (dS st) = true := by
  show PyData.eqvAll [dI st.ns, .int st.v, .int st.w, .int st.p, .int st.b] _ = true
  simp [PyData.eqvAll, eqv_ints, PyData.eqv]
theorem eq_states {st1 st2 : RSt} (ha : s.heap.IsList a #[.ref a1, .ref a2]) (hb : s.heap.IsList b #[.ref b1, .ref b2]) (x1 : StR s.heap.IsList a1 st1) (x2 : StR s.heap.IsList a2 st2) (y1 : StR s.heap.IsList b1 st1) (y2 : StR s.heap.IsList b2 st2) (hu : A.units + 64 < cLine) (h : Q (.bool true) s) :
    wpAny (model prog w) A (compareOp .Eq (.ref a) (.ref b)) Q E s := by
  obtain ⟨_, p1⟩ := reads_st x1
  obtain ⟨_, p2⟩ := reads_st x2
  obtain ⟨_, q1⟩ := reads_st y1
  obtain ⟨_, q2⟩ := reads_st y2
  have hs := shaped_list2 (dS_lay st1).1 (dS_lay st2).1 (dS_lay st1).2 (dS_lay st2).2
  refine eq_dataH (reads_of (vs := [_, _]) ha (.cons p1 (.cons p2 .nil))) (reads_of (vs := [_, _]) hb (.cons q1 (.cons q2 .nil))) hs hs hu ?_
  have e : PyData.eqv (.list [dS st1, dS st2]) (.list [dS st1, dS st2]) = true := by
    show PyData.eqvAll [dS st1, dS st2] [dS st1, dS st2] = true
    simp [PyData.eqvAll, eqv_st]
  rw [e]; exact h
end
end Mine
end
-- part LG
section
open PySem PySem.W PyProof.Rows
set_option maxRecDepth 100000
namespace Mine
/-- refs to states -/
def RefsAre (R : Rd) (ys : List Value) (sts : List RSt) : Prop := ys.length = sts.length ∧ ∀ (j : Nat) v st, ys[j]? = some v → sts[j]? = some st → ∃ a, v = .ref a ∧ StR R a st
theorem RefsAre.mono {R R' : Rd} {ys : List Value} {sts : List RSt} (k : ∀ a its, R a its → R' a its) (h : RefsAre R ys sts) : RefsAre R' ys sts :=
  ⟨h.1, fun j v st h1 h2 => let ⟨a, e, x⟩ := h.2 j v st h1 h2; ⟨a, e, x.mono k⟩⟩
theorem RefsAre.snoc {R : Rd} {ys : List Value} {sts : List RSt} {a : Addr} {st : RSt} (h : RefsAre R ys sts) (x : StR R a st) : RefsAre R (ys ++ [.ref a]) (sts ++ [st]) := by
  refine ⟨by simp [h.1], fun j v st' h1 h2 => ?_⟩
  by_cases hj : j < ys.length
  · rw [List.getElem?_append_left hj] at h1
    rw [List.getElem?_append_left (by rw [← h.1]; exact hj)] at h2
    exact h.2 j v st' h1 h2
  · rw [List.getElem?_append_right (by omega)] at h1
    rw [List.getElem?_append_right (by rw [← h.1]; omega), ← h.1] at h2
    cases hq : j - ys.length with
    | zero => rw [hq] at h1 h2; cases h1; cases h2; exact ⟨a, rfl, x⟩
    | succ q => rw [hq] at h1; simp at h1
def isItem (R : Rd) (k : Nat) (v y : Value) : Prop := ∃ a its, v = .ref a ∧ R a its ∧ its[k]? = some y
theorem RefsAre.at {R : Rd} {ys : List Value} {sts : List RSt} (h : RefsAre R ys sts) {i : Nat} {v : Value} (hv : ys[i]? = some v) : ∃ a st, v = .ref a ∧ sts[i]? = some st ∧ StR R a st := by
  have hi : i < ys.length := (List.getElem?_eq_some_iff.mp hv).1
  have hi2 : i < sts.length := by rw [← h.1]; exact hi
  have hs : sts[i]? = some (sts[i]'hi2) := List.getElem?_eq_getElem hi2
  obtain ⟨a, e, x⟩ := h.2 i v _ hv hs
  exact ⟨a, _, e, hs, x⟩
theorem isList_unique {h : Heap} {a : Addr} {x y : Array Value} (h1 : h.IsList a x) (h2 : h.IsList a y) : x = y := by
  obtain ⟨o, e1, _, n, d1⟩ := h1
  obtain ⟨o', e2, _, n', d2⟩ := h2
  rw [e1] at e2; cases e2
  rw [d1] at d2; cases d2; rfl
/-- two refs to states -/
theorem RefsAre.two {R : Rd} {ys : List Value} {st1 st2 : RSt} (h : RefsAre R ys [st1, st2]) : ∃ a1 a2, ys = [.ref a1, .ref a2] ∧ StR R a1 st1 ∧ StR R a2 st2 := by
  obtain ⟨hl, hr⟩ := h
  cases ys with
  | nil => cases hl
  | cons v1 r => cases r with
    | nil => cases hl
    | cons v2 r => cases r with
      | cons v3 r => cases hl
      | nil =>
        obtain ⟨a1, e1, x1⟩ := hr 0 v1 st1 rfl rfl
        obtain ⟨a2, e2, x2⟩ := hr 1 v2 st2 rfl rfl
        subst e1 e2
        exact ⟨a1, a2, rfl, x1, x2⟩
theorem Paired.two {F : Value → Value → Prop} {x1 x2 : Value} {ys : List Value} (h : Paired F [x1, x2] ys) : ∃ y1 y2, ys = [y1, y2] ∧ F x1 y1 ∧ F x2 y2 := by
  cases h with
  | cons h1 r => cases r with
    | cons h2 r => cases r; exact ⟨_, _, rfl, h1, h2⟩
theorem item0 {R : Rd} {h : Heap} {a : Addr} {st : RSt} {y : Value} (hR : R.At h) (x : StR R a st) (i : isItem R 0 (.ref a) y) : ∃ ln, y = .ref ln ∧ IntsR R ln st.ns := by
  obtain ⟨ln, t1, t2, t3, t4, hl, hn⟩ := x
  obtain ⟨a', its, e, hi, hy⟩ := i
  cases e
  have := isList_unique (hR _ _ hl) (hR _ _ hi)
  subst this
  exact ⟨ln, by simpa using hy.symm, hn⟩
theorem item3 {R : Rd} {h : Heap} {a : Addr} {st : RSt} {y : Value} (hR : R.At h) (x : StR R a st) (i : isItem R 3 (.ref a) y) : ∃ t, y = .int st.p t := by
  obtain ⟨ln, t1, t2, t3, t4, hl, hn⟩ := x
  obtain ⟨a', its, e, hi, hy⟩ := i
  cases e
  have := isList_unique (hR _ _ hl) (hR _ _ hi)
  subst this
  exact ⟨t3, by simpa using hy.symm⟩
end Mine
end
-- part LH
section
open PySem PySem.W PyProof.Rows PySem.SeqAt
set_option maxRecDepth 100000
namespace Mine
theorem eqAt_bytes {A : Around} {s : Shared} (b : Array UInt8) (t u : Tok) : EqAt A s (.bytes b t) (.bytes b u) true := fun prog w E Q h => eqBool_bytes (by simpa using h)
/-- bytes values -/
inductive BytesAre : List Value → List (Array UInt8) → Prop
  | nil : BytesAre [] []
  | cons (b : Array UInt8) (t : Tok) {vs bs} : BytesAre vs bs → BytesAre (.bytes b t :: vs) (b :: bs)
theorem BytesAre.snoc : ∀ {vs : List Value} {bs : List (Array UInt8)} (b : Array UInt8) (t : Tok), BytesAre vs bs → BytesAre (vs ++ [.bytes b t]) (bs ++ [b])
  | _, _, b, t, .nil => .cons b t .nil
  | _, _, b, t, .cons b' t' h => .cons b' t' (h.snoc b t)
theorem BytesAre.at : ∀ {vs : List Value} {bs : List (Array UInt8)}, BytesAre vs bs → ∀ (i : Nat) v, vs[i]? = some v → ∃ b t, v = .bytes b t ∧ bs[i]? = some b
  | _, _, .nil, i, v, h => by simp at h
  | _, _, .cons b t _, 0, v, h => ⟨b, t, by simpa using h.symm, rfl⟩
  | _, _, .cons b t r, i + 1, v, h => by simpa using r.at i v (by simpa using h)
theorem BytesAre.length : ∀ {vs : List Value} {bs : List (Array UInt8)}, BytesAre vs bs → vs.length = bs.length
  | _, _, .nil => rfl
  | _, _, .cons _ _ r => by simp [r.length]
theorem eq_wrs {prog : Program} {w : World} {A : Around} {E : Value → Shared → Prop} {s : Shared} {Q : Value → Shared → Prop} {a b : Addr} {xs ys : List Value} {bs : List (Array UInt8)}
    (ha : s.heap.IsList a xs.toArray) (hb : s.heap.IsList b ys.toArray) (hx : BytesAre xs bs) (hy : BytesAre ys bs) (hu : A.units < cLine) (h : Q (.bool true) s) :
    wpAny (model prog w) A (compareOp .Eq (.ref a) (.ref b)) Q E s := by
  have hR := RcAt.lists (A := A) (e := fun _ => true) ha hb (by simp [hx.length, hy.length]) hu fun j h1 h2 => by
    obtain ⟨c, t, e1, e2⟩ := hx.at j xs.toArray[j] (by simp at h1; simp [h1])
    obtain ⟨c', t', e3, e4⟩ := hy.at j ys.toArray[j] (by simp at h2; simp [h2])
    rw [e2] at e4; cases e4
    rw [e1, e3]
    exact eqAt_bytes c t t'
  refine hR prog w E Q ?_
  rw [show (List.range xs.toArray.size).all (fun _ => true) = true by simp]
  exact h
end Mine
end
-- part PC
section
open PySem PySem.W PyProof.Rows
set_option maxRecDepth 100000
namespace Mine
theorem nat_of {n : Int} (h0 : 0 ≤ n) (h : n < 36) : ∃ k : Nat, k < 36 ∧ n = k := ⟨n.toNat, by omega, by omega⟩
theorem figL_tab : ∀ k : Nat, k < 36 → figL ((dg k).toNat : Int) = k := by decide +kernel
theorem dgOk_tab : ∀ k : Nat, k < 36 → (48 ≤ ((dg k).toNat : Int) ∧ ((dg k).toNat : Int) ≤ 57 ∨ 97 ≤ ((dg k).toNat : Int) ∧ ((dg k).toNat : Int) ≤ 122) := by decide +kernel
theorem figL_dg {n : Int} (h0 : 0 ≤ n) (h : n < 36) : figL ((dg n).toNat : Int) = n := by
  obtain ⟨k, hk, rfl⟩ := nat_of h0 h
  exact figL_tab k hk
theorem dgOk {n : Int} (h0 : 0 ≤ n) (h : n < 36) : 48 ≤ ((dg n).toNat : Int) ∧ ((dg n).toNat : Int) ≤ 57 ∨ 97 ≤ ((dg n).toNat : Int) ∧ ((dg n).toNat : Int) ≤ 122 := by
  obtain ⟨k, hk, rfl⟩ := nat_of h0 h
  exact dgOk_tab k hk
/-- the octets as ints -/
def oL (l : List UInt8) : List Int := l.map fun c => (c.toNat : Int)
theorem oL_cons (c : UInt8) (l : List UInt8) : oL (c :: l) = (c.toNat : Int) :: oL l := rfl
theorem oL_append (l l' : List UInt8) : oL (l ++ l') = oL l ++ oL l' := List.map_append
/-- the figure that is written where the number goes on -/
theorem fig_go {N t : Int} (_h : t ≤ N) (h1 : 1 ≤ t) (h2 : t ≤ 26) : 0 ≤ t + (N - t) % (36 - t) ∧ t + (N - t) % (36 - t) < 36 ∧ t ≤ t + (N - t) % (36 - t) ∧ t + (N - t) % (36 - t) + (N - t) / (36 - t) * (36 - t) = N := by
  have a := Int.emod_nonneg (N - t) (show 36 - t ≠ 0 by omega)
  have b := Int.emod_lt_of_pos (N - t) (show 0 < 36 - t by omega)
  have c := Int.mul_ediv_add_emod (N - t) (36 - t)
  rw [Int.mul_comm] at c
  omega
theorem rdF_go {z v wv pl b : Int} {ns : List Int} {o : Int} (h : Tf pl b ≤ figL o) : rdF z adf ⟨ns, v, wv, pl, b⟩ o = ⟨ns, v + figL o * wv, wv * (36 - Tf pl b), pl + 1, b⟩ := by
  unfold rdF
  rw [if_pos (show bndL pl b ≤ figL o from h)]
  rfl
theorem rdF_end {z v wv pl b : Int} {ns : List Int} {o : Int} (h : figL o < Tf pl b) : rdF z adf ⟨ns, v, wv, pl, b⟩ o = ⟨ns ++ [v + figL o * wv], 0, 1, 0, adf (v + figL o * wv) ns.isEmpty (z + ns.length + 1)⟩ := by
  unfold rdF
  rw [if_neg (by show ¬ Tf pl b ≤ _; omega)]
theorem worth {v f w q t N : Int} (h : f + q * (36 - t) = N) : v + f * w + q * (w * (36 - t)) = v + N * w := by
  subst h
  rw [Int.add_mul, Int.mul_comm w, ← Int.mul_assoc]
  omega
theorem rd_num {z b : Int} (N j : Int) (h0 : 0 ≤ N) (ns : List Int) (v w : Int) :
    (oL (ggiF N j b)).foldl (rdF z adf) ⟨ns, v, w, j, b⟩ = ⟨ns ++ [v + N * w], 0, 1, 0, adf (v + N * w) ns.isEmpty (z + ns.length + 1)⟩ := by
  have h1 := Tf_lo j b
  have h2 := Tf_hi j b
  by_cases hc : Tf j b ≤ N
  · have hf := fig_go hc h1 h2
    have hd := div_small hc h1 h2
    have e := figL_dg hf.1 hf.2.1
    rw [ggiF_go hc, oL_cons, List.foldl_cons, rdF_go (by omega), e, rd_num _ (j + 1) hd.1, worth hf.2.2.2]
  · have e := figL_dg h0 (by omega)
    rw [ggiF_stop (by omega)]
    show rdF z adf _ ((dg N).toNat : Int) = _
    rw [rdF_end (by omega), e]
termination_by N.toNat
decreasing_by omega
theorem ggiF_pos (N j b : Int) : 0 < (ggiF N j b).length := by
  by_cases hc : Tf j b ≤ N
  · rw [ggiF_go hc]; simp
  · rw [ggiF_stop (by omega)]; simp
theorem rd_mid {z b : Int} (N j : Int) (h0 : 0 ≤ N) (ns : List Int) (v w : Int) (k : Nat) (hk : k < (ggiF N j b).length) :
    ∃ v' w' c n, (oL ((ggiF N j b).take k)).foldl (rdF z adf) ⟨ns, v, w, j, b⟩ = ⟨ns, v', w', j + k, b⟩ ∧ (ggiF N j b)[k]? = some c ∧ c = dg n ∧ 0 ≤ n ∧ n < 36 ∧ (n < Tf (j + k) b → v' + n * w' = v + N * w) := by
  have h1 := Tf_lo j b
  have h2 := Tf_hi j b
  by_cases hc : Tf j b ≤ N
  · have hf := fig_go hc h1 h2
    have hd := div_small hc h1 h2
    have e := figL_dg hf.1 hf.2.1
    rw [ggiF_go hc] at hk ⊢
    cases k with
    | zero => exact ⟨v, w, _, _, by simp [oL], rfl, rfl, hf.1, hf.2.1, fun q => by simp at q; omega⟩
    | succ k =>
      obtain ⟨v', w', c, n, q1, q2, q3, q4, q5, q6⟩ := rd_mid (z := z) (b := b) _ (j + 1) hd.1 ns (v + (Tf j b + (N - Tf j b) % (36 - Tf j b)) * w) (w * (36 - Tf j b)) k (by simpa using hk)
      have ej : j + 1 + (k : Int) = j + ((k + 1 : Nat) : Int) := by omega
      rw [ej] at q1 q6
      refine ⟨v', w', c, n, ?_, by simpa using q2, q3, q4, q5, fun q => by rw [q6 q, worth hf.2.2.2]⟩
      rw [List.take_succ_cons, oL_cons, List.foldl_cons, rdF_go (by omega), e, q1]
  · have e := figL_dg h0 (by omega)
    rw [ggiF_stop (by omega)] at hk ⊢
    cases k with
    | zero => exact ⟨v, w, _, N, by simp [oL], rfl, rfl, h0, by omega, fun _ => rfl⟩
    | succ k => simp at hk
termination_by N.toNat
decreasing_by omega
theorem isEmpty_beq {ns : List Int} {i : Nat} (h : ns.length = i) : ns.isEmpty = ((i : Int) == 0) := by
  subst h
  cases ns with
  | nil => rfl
  | cons a r =>
    have : ((((a :: r).length : Nat) : Int) == 0) = false := by simp; omega
    rw [this]; rfl
/-- the reading of a row, octet by octet -/
theorem rd_row {z : Int} : ∀ (row : List Int) (i : Nat) (b : Int) (ns : List Int), ns.length = i → (∀ n ∈ row, 0 ≤ n) → ∀ k ≤ (giL z i b row).length,
    ∃ m v w p b', (oL ((giL z i b row).take k)).foldl (rdF z adf) ⟨ns, 0, 1, 0, b⟩ = ⟨ns ++ row.take m, v, w, p, b'⟩ ∧ 0 ≤ p ∧ (k = (giL z i b row).length → m = row.length ∧ p = 0) ∧
      ∀ c, (giL z i b row)[k]? = some c → ∃ n, c = dg n ∧ 0 ≤ n ∧ n < 36 ∧ (n < Tf p b' → ∃ d ∈ row, v + n * w = d)
  | [], i, b, ns, hl, hr, k, hk => by
    have : k = 0 := by simpa [giL] using hk
    subst this
    exact ⟨0, 0, 1, 0, b, by simp [giL, oL], Int.le_refl _, fun _ => ⟨rfl, rfl⟩, fun c hc => by simp [giL] at hc⟩
  | d :: r, i, b, ns, hl, hr, k, hk => by
    have hd := hr d (.head _)
    rw [giL] at hk ⊢
    by_cases hc : k < (ggiF d 0 b).length
    · obtain ⟨v', w', c, n, q1, q2, q3, q4, q5, q6⟩ := rd_mid (z := z) (b := b) d 0 hd ns 0 1 k hc
      refine ⟨0, v', w', (k : Int), b, ?_, by omega, fun e => ?_, fun c' hc' => ?_⟩
      · rw [List.take_append_of_le_length (Nat.le_of_lt hc), q1]
        simp
      · rw [List.length_append] at e; omega
      · rw [List.getElem?_append_left hc, q2] at hc'
        cases hc'
        refine ⟨n, q3, q4, q5, fun q => ⟨d, .head _, ?_⟩⟩
        rw [q6 (by rw [Int.zero_add]; exact q)]
        omega
    · have hk' : k - (ggiF d 0 b).length ≤ (giL z (i + 1) (adf d ((i : Int) == 0) (z + i + 1)) r).length := by rw [List.length_append] at hk; omega
      obtain ⟨m, v, w, p, b', q1, q2, q3, q4⟩ := rd_row r (i + 1) (adf d ((i : Int) == 0) (z + i + 1)) (ns ++ [d]) (by simp [hl]) (fun n hn => hr n (.tail _ hn)) _ hk'
      refine ⟨m + 1, v, w, p, b', ?_, q2, fun e => ?_, fun c hc' => ?_⟩
      · rw [List.take_append, List.take_of_length_le (by omega), oL_append, List.foldl_append, rd_num d 0 hd]
        rw [show (0 : Int) + d * 1 = d by omega, isEmpty_beq hl, hl, q1]
        simp
      · have := q3 (by rw [List.length_append] at e; omega)
        exact ⟨by rw [this.1]; rfl, this.2⟩
      · rw [List.getElem?_append_right (by omega)] at hc'
        obtain ⟨n, a1, a2, a3, a4⟩ := q4 c hc'
        exact ⟨n, a1, a2, a3, fun q => let ⟨d', x, y⟩ := a4 q; ⟨d', .tail _ x, y⟩⟩
theorem rdAt_row {z : Int} {row : List Int} (hr : ∀ n ∈ row, 0 ≤ n) {k : Nat} (hk : k ≤ (giL z 0 72 row).length) :
    ∃ m, (rdAt z (giL z 0 72 row) k).ns = row.take m ∧ 0 ≤ (rdAt z (giL z 0 72 row) k).p ∧ (k = (giL z 0 72 row).length → m = row.length ∧ (rdAt z (giL z 0 72 row) k).p = 0) ∧
      ∀ c, (giL z 0 72 row)[k]? = some c → ∃ n, c = dg n ∧ 0 ≤ n ∧ n < 36 ∧ (n < Tf (rdAt z (giL z 0 72 row) k).p (rdAt z (giL z 0 72 row) k).b → ∃ d ∈ row, (rdAt z (giL z 0 72 row) k).v + n * (rdAt z (giL z 0 72 row) k).w = d) := by
  obtain ⟨m, v, w, p, b', q1, q2, q3, q4⟩ := rd_row (z := z) row 0 72 [] rfl hr k hk
  have e : rdAt z (giL z 0 72 row) k = ⟨row.take m, v, w, p, b'⟩ := q1
  rw [e]
  exact ⟨m, rfl, q2, q3, q4⟩
theorem rdOk_row {z : Int} {row : List Int} (hlen : row.length ≤ 20) (hr : ∀ n ∈ row, 0 ≤ n ∧ n < 10 ^ 31) : RdOk z (giL z 0 72 row) := by
  intro i c hc
  have hi : i < (giL z 0 72 row).length := (List.getElem?_eq_some_iff.mp hc).1
  obtain ⟨m, q1, q2, q3, q4⟩ := rdAt_row (z := z) (fun n hn => (hr n hn).1) (Nat.le_of_lt hi)
  obtain ⟨n, a1, a2, a3, a4⟩ := q4 c hc
  have e := figL_dg a2 a3
  refine ⟨?_, ?_, fun q => ?_⟩
  · rw [q1, List.length_take]; omega
  · rw [a1]; exact dgOk a2 a3
  · rw [a1, e] at q ⊢
    obtain ⟨d, hd, ed⟩ := a4 q
    rw [ed]
    exact hr d hd
theorem rdAt_end {z : Int} {row : List Int} (hr : ∀ n ∈ row, 0 ≤ n) : (rdAt z (giL z 0 72 row) (giL z 0 72 row).length).ns = row ∧ (rdAt z (giL z 0 72 row) (giL z 0 72 row).length).p = 0 := by
  obtain ⟨m, q1, q2, q3, q4⟩ := rdAt_row (z := z) hr (Nat.le_refl _)
  have := q3 rfl
  exact ⟨by rw [q1, this.1, List.take_length], this.2⟩
theorem giL_size {z : Int} {row : List Int} (hlen : row.length ≤ 20) (hr : ∀ n ∈ row, 0 ≤ n ∧ n < 10 ^ 31) : (giL z 0 72 row).length < 5000 := by
  have key : ∀ (row : List Int) (i : Nat) (b : Int), (∀ n ∈ row, 0 ≤ n ∧ n < 10 ^ 31) → (giL z i b row).length ≤ 40 * row.length := by
    intro row
    induction row with
    | nil => intro i b _; simp [giL]
    | cons d r ih =>
      intro i b h
      have h1 := ggiF_len (b := b) 31 (j := 0) (h d (.head _)).1 (h d (.head _)).2
      have h2 := ih (i + 1) (adf d ((i : Int) == 0) (z + i + 1)) fun n hn => h n (.tail _ hn)
      rw [giL, List.length_append, List.length_cons]
      omega
  have := key row 0 72 hr
  omega
end Mine
end
-- part PD
section
open PySem PySem.W PyProof.Rows
set_option maxRecDepth 100000
namespace Mine
/-- great letters -/
def uL (l : List UInt8) : List UInt8 := l.map Builtin.Bytes.toUpper
theorem fig_tab : ∀ k : Nat, k < 36 → fig (Builtin.Bytes.toUpper (dg k)) = k ∧ ((65 ≤ (Builtin.Bytes.toUpper (dg k)).toNat ∧ (Builtin.Bytes.toUpper (dg k)).toNat ≤ 90) ∨ (48 ≤ (Builtin.Bytes.toUpper (dg k)).toNat ∧ (Builtin.Bytes.toUpper (dg k)).toNat ≤ 57)) ∧ dg k ≠ 45 := by decide +kernel
theorem fig_up {n : Int} (h0 : 0 ≤ n) (h : n < 36) : fig (Builtin.Bytes.toUpper (dg n)) = n := by
  obtain ⟨k, hk, rfl⟩ := nat_of h0 h
  exact (fig_tab k hk).1
theorem isFig_up {n : Int} (h0 : 0 ≤ n) (h : n < 36) : isFig (Builtin.Bytes.toUpper (dg n)) := by
  obtain ⟨k, hk, rfl⟩ := nat_of h0 h
  exact (fig_tab k hk).2.1
theorem dg_ne {n : Int} (h0 : 0 ≤ n) (h : n < 36) : dg n ≠ 45 := by
  obtain ⟨k, hk, rfl⟩ := nat_of h0 h
  exact (fig_tab k hk).2.2
theorem dgn_num {b : Int} (N j : Int) (h0 : 0 ≤ N) (v w : Int) (rest : List UInt8) : dgnL b (uL (ggiF N j b) ++ rest) j v w = some (v + N * w, rest) := by
  have h1 := Tf_lo j b
  have h2 := Tf_hi j b
  by_cases hc : Tf j b ≤ N
  · have hf := fig_go hc h1 h2
    have hd := div_small hc h1 h2
    have e := fig_up hf.1 hf.2.1
    rw [ggiF_go hc]
    show dgnL b (Builtin.Bytes.toUpper _ :: (uL _ ++ rest)) j v w = _
    rw [dgnL, e, if_neg (by omega), dgn_num _ (j + 1) hd.1, worth hf.2.2.2]
  · have e := fig_up h0 (by omega)
    rw [ggiF_stop (by omega)]
    show dgnL b (Builtin.Bytes.toUpper (dg N) :: ([] ++ rest)) j v w = _
    rw [dgnL, e, if_pos (by omega)]
    rfl
termination_by N.toNat
decreasing_by omega
theorem dgn_mid {b : Int} (N j : Int) (_h0 : 0 ≤ N) (v w : Int) (k : Nat) (hk : k < (ggiF N j b).length) : dgnL b (uL ((ggiF N j b).take k)) j v w = none := by
  have h1 := Tf_lo j b
  have h2 := Tf_hi j b
  cases k with
  | zero => rfl
  | succ k =>
    by_cases hc : Tf j b ≤ N
    · have hf := fig_go hc h1 h2
      have hd := div_small hc h1 h2
      have e := fig_up hf.1 hf.2.1
      rw [ggiF_go hc] at hk ⊢
      show dgnL b (Builtin.Bytes.toUpper _ :: uL _) j v w = _
      rw [dgnL, e, if_neg (by omega)]
      exact dgn_mid _ (j + 1) hd.1 _ _ k (by simpa using hk)
    · rw [ggiF_stop (by omega)] at hk
      simp at hk
termination_by N.toNat
decreasing_by omega
theorem slice_to_list {s : Str} {k : Int} (h0 : 0 ≤ k) (h1 : k ≤ s.length) : (Txt.slice s none (some k)).cps.toList = s.cps.toList.take k.toNat := by
  rw [eq_of_beq (slice_closes_toL h0 h1)]
  simp
theorem slice_from_list {s : Str} {k : Int} (h0 : 0 ≤ k) (h1 : k ≤ s.length) : (Txt.slice s (some k) none).cps.toList = s.cps.toList.drop k.toNat := by
  rw [slice_from_eq h0 h1 rfl]
  have : s.cps.toList.length = s.length := by simp [Str.length]
  simp only
  rw [List.take_of_length_le (by rw [List.length_drop]; omega)]
theorem insS_list {s : Str} {k c : Int} (h0 : 0 ≤ k) (h1 : k ≤ s.length) : (insS s k c).cps.toList = s.cps.toList.take k.toNat ++ [c.toNat] ++ s.cps.toList.drop k.toNat := by
  unfold insS
  show (((Txt.slice s none (some k)).cps ++ #[c.toNat]) ++ (Txt.slice s (some k) none).cps).toList = _
  rw [Array.toList_append, Array.toList_append, slice_to_list h0 h1, slice_from_list h0 h1]
theorem insS_len {s : Str} {k c : Int} (h0 : 0 ≤ k) (h1 : k ≤ s.length) : (insS s k c).length = s.length + 1 := by
  have h := insS_list (c := c) h0 h1
  have e : s.cps.toList.length = s.length := by simp [Str.length]
  have e2 : (insS s k c).cps.toList.length = (insS s k c).length := by simp [Str.length]
  rw [← e2, h]
  simp only [List.length_append, List.length_take, List.length_drop, List.length_singleton]
  omega
theorem lenI_eq {s : Str} {k : Int} (h0 : 0 ≤ k) (h1 : k ≤ s.length) : lenI s k = (s.length : Int) + 1 := by
  unfold lenI
  have a := congrArg List.length (slice_to_list h0 h1)
  have b := congrArg List.length (slice_from_list h0 h1)
  rw [List.length_take] at a
  rw [List.length_drop] at b
  have e : ∀ s : Str, s.cps.toList.length = s.length := fun s => by simp [Str.length]
  rw [e, e] at a b
  omega
theorem insS_ok {s : Str} {k c : Int} (h0 : 0 ≤ k) (h1 : k ≤ s.length) (hs : PyData.strOk s = true) (hc : c < 55000) : PyData.strOk (insS s k c) = true := by
  unfold PyData.strOk at hs ⊢
  rw [← Array.all_toList, List.all_eq_true] at hs ⊢
  intro x hx
  rw [insS_list h0 h1] at hx
  rcases List.mem_append.mp hx with hx | hx
  · rcases List.mem_append.mp hx with hx | hx
    · exact hs x (List.mem_of_mem_take hx)
    · obtain rfl := List.mem_singleton.mp hx
      simp; omega
  · exact hs x (List.mem_of_mem_drop hx)
/-- the division: one sign on -/
theorem div_step {st n : Int} (h0 : 0 ≤ st) (h1 : 1 ≤ n) : 0 ≤ st.fdiv n ∧ 0 ≤ st.fmod n ∧ st.fmod n < n ∧ st.fdiv n * n + st.fmod n = st := by
  rw [Int.fdiv_eq_ediv_of_nonneg _ (by omega), Int.fmod_eq_emod_of_nonneg _ (by omega)]
  have := Int.mul_ediv_add_emod st n
  rw [Int.mul_comm] at this
  exact ⟨Int.ediv_nonneg h0 (by omega), Int.emod_nonneg _ (by omega), Int.emod_lt_of_pos _ (by omega), this⟩
theorem div_shift {c n x : Int} (h1 : 1 ≤ n) : (c * n + x).fdiv n = c + x.fdiv n ∧ (c * n + x).fmod n = x.fmod n := by
  rw [Int.fdiv_eq_ediv_of_nonneg _ (by omega), Int.fmod_eq_emod_of_nonneg _ (by omega), Int.fdiv_eq_ediv_of_nonneg _ (by omega), Int.fmod_eq_emod_of_nonneg _ (by omega)]
  constructor
  · rw [Int.add_comm, Int.add_mul_ediv_right _ _ (by omega), Int.add_comm]
  · rw [Int.add_comm, Int.add_mul_emod_self_right]
/-- lay, and insertion_sort's turn -/
theorem layF_eq {s : Str} {c p d : Int} : layF (s, c * ((s.length : Int) + 1) + (p + 1)) d = (insS s ((p + (d + 1)).fmod (s.length + 1)) (c + (p + (d + 1)).fdiv (s.length + 1)), (c + (p + (d + 1)).fdiv (s.length + 1)) * ((s.length : Int) + 2) + ((p + (d + 1)).fmod (s.length + 1) + 1)) := by
  unfold layF
  dsimp only
  have e : c * ((s.length : Int) + 1) + (p + 1) + d = c * ((s.length : Int) + 1) + (p + (d + 1)) := by omega
  have q := div_shift (c := c) (n := (s.length : Int) + 1) (x := p + (d + 1)) (by omega)
  rw [e, q.1, q.2]
  congr 1
  omega
theorem div_le {x n d : Int} (h0 : 0 ≤ d) (h1 : 1 ≤ n) (hx0 : 0 ≤ x) (hx : x ≤ n + d) : x.fdiv n ≤ 1 + d := by
  have q := div_step hx0 h1
  apply Classical.byContradiction
  intro hc
  have h2 : (2 + d) * n ≤ x.fdiv n * n := Int.mul_le_mul_of_nonneg_right (by omega) (by omega)
  have h3 : d * 1 ≤ d * n := Int.mul_le_mul_of_nonneg_left h1 h0
  rw [Int.add_mul] at h2
  omega
theorem drop_end {ext A R : List UInt8} {q : Nat} (h : ext.drop q = A ++ R) : ext.drop (ext.length - R.length) = R := by
  have e : ext = (ext.take q ++ A) ++ R := by rw [List.append_assoc, ← h, List.take_append_drop]
  generalize ext.take q ++ A = B at e
  subst e
  rw [show (B ++ R).length - R.length = B.length by rw [List.length_append]; omega, List.drop_left]
theorem ins_row {z : Nat} : ∀ (row : List Int) (i : Nat) (b : Int) (ns : List Int) (ext : List UInt8) (q : Nat) (c p : Int) (s : Str) (k : Nat), ns.length = i → i + row.length ≤ 5 → (∀ n ∈ row, 0 ≤ n ∧ n < 9000) →
    ext.drop q = uL ((giL z i b row).take k) → q ≤ ext.length → (((q : Int)) == 0) = ((i : Int) == 0) → s.length = z + i → z ≤ 3 → 0 ≤ c → c ≤ 128 + 9000 * i → -1 ≤ p → p ≤ s.length →
    ∃ m v w p' b', (oL ((giL z i b row).take k)).foldl (rdF z adf) ⟨ns, 0, 1, 0, b⟩ = ⟨ns ++ row.take m, v, w, p', b'⟩ ∧ Ins ext q b c p s ((row.take m).foldl layF (s, c * ((s.length : Int) + 1) + (p + 1))).1 (decide (p' = 0))
  | [], i, b, ns, ext, q, c, p, s, k, hl, h5, hr, hx, hq, hqi, hs, hz, hc, hc2, hp, hp2 => by
    refine ⟨0, 0, 1, 0, b, by simp [giL, oL], .done ?_⟩
    have := congrArg List.length hx
    simp [giL, uL] at this
    omega
  | d :: r, i, b, ns, ext, q, c, p, s, k, hl, h5, hr, hx, hq, hqi, hs, hz, hc, hc2, hp, hp2 => by
    have hd := hr d (.head _)
    rw [giL] at hx ⊢
    by_cases hk : k < (ggiF d 0 b).length
    · obtain ⟨v', w', c', n, q1, _⟩ := rd_mid (z := z) (b := b) d 0 hd.1 ns 0 1 k hk
      rw [List.take_append_of_le_length (Nat.le_of_lt hk)] at hx ⊢
      refine ⟨0, v', w', 0 + k, b, by rw [q1]; simp, ?_⟩
      have hlx := congrArg List.length hx
      rw [List.length_drop] at hlx
      simp only [uL, List.length_map, List.length_take] at hlx
      cases k with
      | zero => exact .done (by omega)
      | succ k =>
        have : decide ((0 : Int) + ((k + 1 : Nat) : Int) = 0) = false := by simp; omega
        rw [this]
        exact .stop (by omega) (by rw [hx]; exact dgn_mid d 0 hd.1 0 1 _ hk)
    · have hlen1 := ggiF_pos d 0 b
      generalize hR : uL ((giL z (i + 1) (adf d ((i : Int) == 0) (z + i + 1)) r).take (k - (ggiF d 0 b).length)) = R
      have hx2 : ext.drop q = uL (ggiF d 0 b) ++ R := by
        rw [hx, List.take_append, List.take_of_length_le (by omega), ← hR]
        exact List.map_append
      have hlx := congrArg List.length hx2
      rw [List.length_drop, List.length_append] at hlx
      have hul : (uL (ggiF d 0 b)).length = (ggiF d 0 b).length := by simp [uL]
      have hdv : dgnL b (ext.drop q) 0 0 1 = some (d, R) := by
        rw [hx2, dgn_num d 0 hd.1]
        simp
      have hst := div_step (st := p + (d + 1)) (n := (s.length : Int) + 1) (by omega) (by omega)
      have hcd := div_le (x := p + (d + 1)) (n := (s.length : Int) + 1) hd.1 (by omega) (by omega) (by omega)
      simp only [List.length_cons] at h5
      have hlI := lenI_eq (s := s) (k := (p + (d + 1)).fmod ((s.length : Int) + 1)) hst.2.1 (by omega)
      have hiL := insS_len (s := s) (c := c + (p + (d + 1)).fdiv ((s.length : Int) + 1)) (k := (p + (d + 1)).fmod ((s.length : Int) + 1)) hst.2.1 (by omega)
      have hb : adf d ((q : Int) == 0) (lenI s ((p + (d + 1)).fmod ((s.length : Int) + 1))) = adf d ((i : Int) == 0) (z + i + 1) := by
        rw [hqi, hlI, hs]
        congr 1
      have hq' : (((ext.length - R.length : Nat) : Int) == 0) = (((i + 1 : Nat) : Int) == 0) := by
        have a1 : (((ext.length - R.length : Nat) : Int) == 0) = false := by simp; omega
        have a2 : (((i + 1 : Nat) : Int) == 0) = false := by simp; omega
        rw [a1, a2]
      obtain ⟨m, v, w, p', b', e1, e2⟩ := ins_row (z := z) r (i + 1) (adf d ((i : Int) == 0) (z + i + 1)) (ns ++ [d]) ext (ext.length - R.length) (c + (p + (d + 1)).fdiv ((s.length : Int) + 1)) ((p + (d + 1)).fmod ((s.length : Int) + 1)) (insS s ((p + (d + 1)).fmod ((s.length : Int) + 1)) (c + (p + (d + 1)).fdiv ((s.length : Int) + 1))) (k - (ggiF d 0 b).length)
        (by simp [hl]) (by omega) (fun n hn => hr n (.tail _ hn)) (by rw [drop_end hx2, hR]) (Nat.sub_le _ _) hq' (by rw [hiL]; omega) hz (by omega) (by push_cast; omega) (by omega) (by rw [hiL]; omega)
      refine ⟨m + 1, v, w, p', b', ?_, ?_⟩
      · rw [List.take_append, List.take_of_length_le (by omega), oL_append, List.foldl_append, rd_num d 0 hd.1]
        rw [show (0 : Int) + d * 1 = d by omega, isEmpty_beq hl, hl, e1]
        simp
      · refine .step (by omega) hdv hd.1 (by omega) (by omega) hp (by omega) hc (by omega) ?_
        rw [hb, List.take_succ_cons, List.foldl_cons, layF_eq]
        rw [hiL] at e2
        have e3 : (((s.length + 1 : Nat) : Int)) + 1 = (s.length : Int) + 2 := by omega
        rw [e3] at e2
        exact e2
end Mine
end
-- part PE
section
open PySem PySem.W PyProof.Rows
set_option maxRecDepth 100000
namespace Mine
theorem lay_fold {X : Int} {n st d : Int} (hn : 1 ≤ n) (h0 : 0 ≤ st) (hd : 0 ≤ d) (hX : st ≤ X * n) : (st + d).fdiv n ≤ X + d := by
  have q := div_step (st := st + d) (n := n) (by omega) hn
  apply Classical.byContradiction
  intro hc
  have h2 : (X + d + 1) * n ≤ (st + d).fdiv n * n := Int.mul_le_mul_of_nonneg_right (by omega) (by omega)
  have h3 : d * 1 ≤ d * n := Int.mul_le_mul_of_nonneg_left hn hd
  rw [Int.add_mul, Int.add_mul] at h2
  omega
theorem layF_inv {z i : Nat} {st : Str × Int} {d : Int} (hz : z ≤ 3) (hi : i ≤ 4) (hd : 0 ≤ d) (hd2 : d < 9000) (h1 : st.1.length = z + i) (h2 : 0 ≤ st.2) (h3 : st.2 ≤ (129 + 9000 * (i : Int)) * ((z : Int) + i + 1)) (h4 : PyData.strOk st.1 = true) :
    (st.1.length < 1000 ∧ 0 ≤ st.2 ∧ 0 ≤ d ∧ st.2 + d < 1000000 ∧ (st.2 + d).fdiv (st.1.length + 1) < 55000) ∧
    ((layF st d).1.length = z + (i + 1) ∧ 0 ≤ (layF st d).2 ∧ (layF st d).2 ≤ (129 + 9000 * ((i + 1 : Nat) : Int)) * ((z : Int) + (i + 1 : Nat) + 1) ∧ PyData.strOk (layF st d).1 = true) := by
  have en : ((st.1.length : Int) + 1) = (z : Int) + i + 1 := by rw [h1]; push_cast; omega
  have q := div_step (st := st.2 + d) (n := (st.1.length : Int) + 1) (by omega) (by omega)
  have hs := lay_fold (X := 129 + 9000 * (i : Int)) (n := (st.1.length : Int) + 1) (by omega) h2 hd (by rw [en]; exact h3)
  have hm : (129 + 9000 * (i : Int)) * ((z : Int) + i + 1) ≤ (129 + 9000 * (i : Int)) * 8 := Int.mul_le_mul_of_nonneg_left (by omega) (by omega)
  have hL := insS_len (s := st.1) (c := (st.2 + d).fdiv ((st.1.length : Int) + 1)) (k := (st.2 + d).fmod ((st.1.length : Int) + 1)) q.2.1 (by omega)
  refine ⟨⟨by omega, h2, hd, by omega, by omega⟩, ?_, ?_, ?_, ?_⟩
  · show (insS _ _ _).length = _
    rw [hL]; omega
  · show 0 ≤ (st.2 + d).fdiv ((st.1.length : Int) + 1) * ((st.1.length : Int) + 2) + (st.2 + d).fmod ((st.1.length : Int) + 1) + 1
    have := Int.mul_nonneg q.1 (show 0 ≤ (st.1.length : Int) + 2 by omega)
    omega
  · show (st.2 + d).fdiv ((st.1.length : Int) + 1) * ((st.1.length : Int) + 2) + (st.2 + d).fmod ((st.1.length : Int) + 1) + 1 ≤ _
    have a1 : ((st.2 + d).fdiv ((st.1.length : Int) + 1) + 1) * ((st.1.length : Int) + 2) ≤ (129 + 9000 * ((i + 1 : Nat) : Int)) * ((st.1.length : Int) + 2) := Int.mul_le_mul_of_nonneg_right (by push_cast; omega) (by omega)
    rw [Int.add_mul] at a1
    have a2 : ((st.1.length : Int) + 2) = (z : Int) + (i + 1 : Nat) + 1 := by push_cast; omega
    rw [← a2]
    omega
  · exact insS_ok q.2.1 (by omega) h4 (by omega)
theorem layAt_inv {bs : Str} {ns : List Int} (hz : bs.length ≤ 3) (hok : PyData.strOk bs = true) (hl : ns.length ≤ 5) (hr : ∀ n ∈ ns, 0 ≤ n ∧ n < 9000) : ∀ i, i ≤ ns.length →
    (layAt bs ns i).1.length = bs.length + i ∧ 0 ≤ (layAt bs ns i).2 ∧ (layAt bs ns i).2 ≤ (129 + 9000 * (i : Int)) * ((bs.length : Int) + i + 1) ∧ PyData.strOk (layAt bs ns i).1 = true
  | 0, _ => by
    refine ⟨rfl, ?_, ?_, hok⟩
    · show (0 : Int) ≤ 128 * ((bs.length : Int) + 1)
      omega
    · show 128 * ((bs.length : Int) + 1) ≤ _
      rw [show ((0 : Nat) : Int) = 0 from rfl]
      omega
  | i + 1, h => by
    have ih := layAt_inv hz hok hl hr i (by omega)
    have hi : i < ns.length := by omega
    have hd := hr ns[i] (List.getElem_mem _)
    rw [layAt_succ (List.getElem?_eq_getElem hi)]
    exact (layF_inv hz (by omega) hd.1 hd.2 ih.1 ih.2.1 ih.2.2.1 ih.2.2.2).2
theorem layOk_of {bs : Str} {ns : List Int} (hz : bs.length ≤ 3) (hok : PyData.strOk bs = true) (hl : ns.length ≤ 5) (hr : ∀ n ∈ ns, 0 ≤ n ∧ n < 9000) : LayOk bs ns := by
  intro i d hd
  have hi : i < ns.length := (List.getElem?_eq_some_iff.mp hd).1
  have ih := layAt_inv hz hok hl hr i (by omega)
  have hdd := hr d (List.mem_of_getElem? hd)
  exact (layF_inv hz (by omega) hdd.1 hdd.2 ih.1 ih.2.1 ih.2.2.1 ih.2.2.2).1
theorem picked_to {b : Array UInt8} {k : Nat} (h : k ≤ b.size) : KBy.picked b none (some (k : Int)) = (b.toList.take k).toArray := by
  rw [KBc.picked_eq]
  simp only [Option.elim, clipAt_nat]
  rw [List.drop_zero, Nat.sub_zero, Nat.min_eq_left h]
theorem picked_from {b : Array UInt8} {k : Nat} (h : k ≤ b.size) : KBy.picked b (some (k : Int)) none = (b.toList.drop k).toArray := by
  rw [KBc.picked_eq]
  simp only [Option.elim, clipAt_nat]
  rw [Nat.min_eq_left h, List.take_of_length_le (by simp)]
theorem find_last {p : Nat → Bool} {m : Nat} (hm : p m = true) : ∀ n, m < n → (∀ j, m < j → j < n → p j = false) → (List.range n).reverse.find? p = some m
  | 0, h, _ => absurd h (Nat.not_lt_zero _)
  | n + 1, h, hj => by
    rw [List.range_succ, List.reverse_append, List.reverse_singleton, List.singleton_append, List.find?_cons]
    by_cases e : m = n
    · subst e; rw [hm]
    · rw [hj n (by omega) (by omega)]
      exact find_last hm n (by omega) fun j h1 h2 => hj j h1 (by omega)
theorem rfind_at {tx : Array UInt8} {m : Nat} (h : tx[m]? = some 45) (hj : ∀ j, m < j → tx[j]? ≠ some 45) : Builtin.Bytes.rfind? tx #[45] 0 tx.size = some m := by
  unfold Builtin.Bytes.rfind?
  have hm : m < tx.size := (Array.getElem?_eq_some_iff.mp h).1
  have e : tx.size + 1 - (0 + (#[45] : Array UInt8).size) = tx.size := by simp
  have e2 : (List.range tx.size).map (· + 0) = List.range tx.size := by simp
  rw [e, e2]
  have key : ∀ j, j < tx.size → ((tx.extract j (j + (#[45] : Array UInt8).size) == #[45]) = true ↔ tx[j]? = some 45) := fun j hj => by
    have : tx.extract j (j + (#[45] : Array UInt8).size) = #[tx[j]] := by
      apply Array.ext
      · simp; omega
      · intro i h1 h2
        have : i = 0 := by simpa using h2
        subst this
        simp
    rw [this, Array.getElem?_eq_getElem hj]
    simp
  refine find_last ((key m hm).mpr h) _ hm fun j h1 h2 => ?_
  cases hc : (tx.extract j (j + (#[45] : Array UInt8).size) == #[45]) with
  | false => rfl
  | true => exact absurd ((key j h2).mp hc) (hj j h1)
theorem base_back {bs : Str} (h : ∀ c ∈ bs.cps.toList, c < 128) : (⟨((bs.cps.toList.map (·.toUInt8)).map (·.toNat)).toArray⟩ : Str) = bs := by
  apply ext_toList
  simp only
  rw [List.map_map]
  conv => rhs; rw [← List.map_id bs.cps.toList]
  refine List.map_congr_left fun c hc => ?_
  have := h c hc
  show (c.toUInt8).toNat = c
  rw [Nat.toUInt8, UInt8.toNat_ofNat']
  omega
theorem octs_row {z : Int} {row : List Int} (hr : ∀ n ∈ row, 0 ≤ n) {c : UInt8} (hc : c ∈ giL z 0 72 row) : ∃ n, c = dg n ∧ 0 ≤ n ∧ n < 36 := by
  obtain ⟨k, hk, e⟩ := List.getElem_of_mem hc
  obtain ⟨m, _, _, _, q4⟩ := rdAt_row (z := z) hr (Nat.le_of_lt hk)
  obtain ⟨n, a1, a2, a3, _⟩ := q4 c (by rw [← e]; exact List.getElem?_eq_getElem hk)
  exact ⟨n, a1, a2, a3⟩
theorem agOk_row {bs : Str} {row : List Int} (hz : bs.length ≤ 3) (hb : ∀ c ∈ bs.cps.toList, c < 128) (hl : row.length ≤ 5) (hr : ∀ n ∈ row, 0 ≤ n ∧ n < 9000) : AgOk bs (giL bs.length 0 72 row).toArray := by
  have hr0 : ∀ n ∈ row, 0 ≤ n := fun n hn => (hr n hn).1
  have hrB : ∀ n ∈ row, 0 ≤ n ∧ n < 10 ^ 31 := fun n hn => by have := hr n hn; omega
  have hok : PyData.strOk bs = true := by
    unfold PyData.strOk
    rw [← Array.all_toList, List.all_eq_true]
    intro x hx
    have := hb x hx
    simp; omega
  have hsz := giL_size (z := bs.length) (row := row) (by omega) hrB
  have hoct : ∀ c ∈ giL bs.length 0 72 row, ∃ n, c = dg n ∧ 0 ≤ n ∧ n < 36 := fun c hc => octs_row hr0 hc
  have hfig : ∀ c ∈ uL (giL bs.length 0 72 row), isFig c := fun c hc => by
    obtain ⟨x, hx, rfl⟩ := List.mem_map.mp hc
    obtain ⟨n, rfl, h0, h1⟩ := hoct x hx
    exact isFig_up h0 h1
  have hIns : ∀ k, k ≤ (giL bs.length 0 72 row).length → Ins (uL ((giL bs.length 0 72 row).take k)) 0 72 128 (-1) bs (dueAt bs (giL bs.length 0 72 row).toArray k) (decide ((rdAt bs.length (giL bs.length 0 72 row) k).p = 0)) ∧ ∃ m, (rdAt bs.length (giL bs.length 0 72 row) k).ns = row.take m := fun k hk => by
    obtain ⟨m, v, w, p', b', e1, e2⟩ := ins_row (z := bs.length) row 0 72 [] (uL ((giL bs.length 0 72 row).take k)) 0 128 (-1) bs k rfl (by omega) hr rfl (Nat.zero_le _) rfl rfl hz (by decide) (by decide) (by decide) (by omega)
    have e : rdAt bs.length (giL bs.length 0 72 row) k = ⟨row.take m, v, w, p', b'⟩ := e1
    refine ⟨?_, m, by rw [e]⟩
    unfold dueAt layAt
    show Ins _ _ _ _ _ _ (List.foldl layF _ (((rdAt bs.length (giL bs.length 0 72 row) k).ns).take ((rdAt bs.length (giL bs.length 0 72 row) k).ns).length)).1 _
    rw [e, List.take_length]
    rw [show (-1 : Int) + 1 = 0 from rfl, Int.add_zero] at e2
    exact e2
  have hns : ∀ k, k ≤ (giL bs.length 0 72 row).length → ((rdAt bs.length (giL bs.length 0 72 row) k).ns.length ≤ 5 ∧ ∀ n ∈ (rdAt bs.length (giL bs.length 0 72 row) k).ns, 0 ≤ n ∧ n < 9000) := fun k hk => by
    obtain ⟨_, m, e⟩ := hIns k hk
    rw [e]
    exact ⟨by rw [List.length_take]; omega, fun n hn => hr n (List.mem_of_mem_take hn)⟩
  refine ⟨hz, hb, by simpa using hsz, rdOk_row (by omega) hrB, fun k hk => ?_, fun k hk => ?_, fun k hk => ?_, ?_, ?_⟩
  · exact layOk_of hz hok (hns k (by simpa using hk)).1 (hns k (by simpa using hk)).2
  · have hk' : k ≤ (giL bs.length 0 72 row).length := by simpa using hk
    rw [picked_to hk]
    have hbl : bs.cps.toList.length = bs.length := by simp [Str.length]
    generalize hW : (giL bs.length 0 72 row).take k = W
    have hWm : ∀ c ∈ W, ∃ n, c = dg n ∧ 0 ≤ n ∧ n < 36 := fun c hc => hoct c (List.mem_of_mem_take (hW ▸ hc))
    have hWl : W.length < 5000 := by rw [← hW, List.length_take]; omega
    have htx : (headOf bs ++ W.toArray).toList = (bs.cps.toList.map (·.toUInt8)) ++ 45 :: W := by
      unfold headOf
      simp
    have hpos : ((bs.cps.toList.map (·.toUInt8)).length) = bs.length := by rw [List.length_map, hbl]
    have hts : (headOf bs ++ W.toArray).size = bs.length + (W.length + 1) := by
      rw [← Array.length_toList, htx, List.length_append, hpos, List.length_cons]
    have I := (hIns k hk').1
    rw [hW] at I
    refine ⟨bs.length, (bs.cps.toList.map (·.toUInt8)).toArray, W.toArray, by omega, by rw [hts]; simp; omega, rfind_at ?_ ?_, by omega, ?_, ?_, by rw [List.size_toArray, hpos]; exact hz, ?_, by rw [List.size_toArray]; omega, ?_, ?_⟩
    · rw [← Array.getElem?_toList, htx, List.getElem?_append_right (by omega), hpos, Nat.sub_self]
      rfl
    · intro j hj e
      rw [← Array.getElem?_toList, htx, List.getElem?_append_right (by omega), hpos] at e
      obtain ⟨q, hq⟩ : ∃ q, j - bs.length = q + 1 := ⟨j - bs.length - 1, by omega⟩
      rw [hq, List.getElem?_cons_succ] at e
      obtain ⟨n, h1, h2, h3⟩ := hWm _ (List.mem_of_getElem? e)
      exact dg_ne h2 h3 h1.symm
    · rw [picked_to (by omega), htx, List.take_left' hpos]
    · rw [show ((bs.length : Int) + 1) = ((bs.length + 1 : Nat) : Int) from rfl, picked_from (by omega), htx]
      congr 1
      rw [List.drop_append, hpos, List.drop_eq_nil_of_le (by omega), show bs.length + 1 - bs.length = 1 by omega]
      rfl
    · intro c hc
      obtain ⟨x, hx, rfl⟩ := List.mem_map.mp hc
      have := hb x hx
      show (x.toUInt8).toNat < 128
      rw [Nat.toUInt8, UInt8.toNat_ofNat']
      omega
    · intro c hc
      obtain ⟨x, hx, rfl⟩ := List.mem_map.mp hc
      obtain ⟨n, rfl, h0, h1⟩ := hWm x hx
      exact isFig_up h0 h1
    · show Ins (uL W) 0 72 128 (-1) ⟨((bs.cps.toList.map (·.toUInt8)).map (·.toNat)).toArray⟩ _ _
      rw [base_back hb]
      exact I
  · have hk' : k ≤ (giL bs.length 0 72 row).length := by simpa using hk
    have := hns k hk'
    exact (layAt_inv hz hok this.1 this.2 _ (Nat.le_refl _)).2.2.2
  · exact hfig
  · have I := (hIns _ (Nat.le_refl _)).1
    rw [List.take_length, (rdAt_end hr0).2] at I
    simpa [uL] using I
end Mine
end
-- part PF
section
open PySem PySem.W PyProof.Rows
set_option maxRecDepth 100000
namespace Mine
def absF (n : Int) : Int := (if n < 0 then -n else n).fmod (10 ^ Int.toNat 30)
theorem absF_ok (n : Int) : 0 ≤ absF n ∧ absF n < 10 ^ 31 := by
  unfold absF
  have e : (10 : Int) ^ Int.toNat 30 = 10 ^ 30 := rfl
  rw [e]
  have h0 := Int.fmod_nonneg_of_pos (if n < 0 then -n else n) (show (0 : Int) < 10 ^ 30 by decide)
  have h1 := Int.fmod_lt_of_pos (if n < 0 then -n else n) (show (0 : Int) < 10 ^ 30 by decide)
  exact ⟨h0, by omega⟩
theorem row1_ok {ns row1 : List Int} (h : row1 = (ns.take 3).map (fun n => n.fmod 9000) ++ [700, 41]) : row1.length ≤ 5 ∧ ∀ n ∈ row1, 0 ≤ n ∧ n < 9000 := by
  subst h
  constructor
  · rw [List.length_append, List.length_map, List.length_take]
    simp; omega
  · intro n hn
    rcases List.mem_append.mp hn with hn | hn
    · obtain ⟨x, _, rfl⟩ := List.mem_map.mp hn
      exact ⟨Int.fmod_nonneg_of_pos x (by decide), Int.fmod_lt_of_pos x (by decide)⟩
    · simp only [List.mem_cons, List.not_mem_nil, or_false] at hn
      omega
theorem row1_big {row1 : List Int} (h : row1.length ≤ 5 ∧ ∀ n ∈ row1, 0 ≤ n ∧ n < 9000) : row1.length ≤ 20 ∧ ∀ n ∈ row1, 0 ≤ n ∧ n < 10 ^ 31 :=
  ⟨by omega, fun n hn => by have := h.2 n hn; omega⟩
theorem row2_ok {ns row1 row2 : List Int} (h : row1.length ≤ 5 ∧ ∀ n ∈ row1, 0 ≤ n ∧ n < 9000) (h2 : row2 = row1 ++ (ns.take 3).map absF ++ [10 ^ Int.toNat 12]) : row2.length ≤ 20 ∧ ∀ n ∈ row2, 0 ≤ n ∧ n < 10 ^ 31 := by
  subst h2
  constructor
  · rw [List.length_append, List.length_append, List.length_map, List.length_take]
    simp; omega
  · intro n hn
    rcases List.mem_append.mp hn with hn | hn
    · rcases List.mem_append.mp hn with hn | hn
      · have := h.2 n hn; omega
      · obtain ⟨x, _, rfl⟩ := List.mem_map.mp hn
        exact absF_ok x
    · obtain rfl := List.mem_singleton.mp hn
      decide +kernel
theorem wrs_rd {z : Int} {row1 row2 : List Int} {wrs : List (Array UInt8)} (h1 : row1.length ≤ 20 ∧ ∀ n ∈ row1, 0 ≤ n ∧ n < 10 ^ 31) (h2 : row2.length ≤ 20 ∧ ∀ n ∈ row2, 0 ≤ n ∧ n < 10 ^ 31) (hW : [(giL z 0 72 row1).toArray, (giL z 0 72 row2).toArray] = wrs) :
    ∀ b ∈ wrs, RdOk z b.toList ∧ b.size < 5000 := by
  subst hW
  intro b hb
  simp only [List.mem_cons, List.not_mem_nil, or_false] at hb
  rcases hb with rfl | rfl
  · exact ⟨rdOk_row h1.1 h1.2, by rw [List.size_toArray]; exact giL_size h1.1 h1.2⟩
  · exact ⟨rdOk_row h2.1 h2.2, by rw [List.size_toArray]; exact giL_size h2.1 h2.2⟩
theorem sts_ok {z : Int} {row1 row2 : List Int} {wrs : List (Array UInt8)} {sts : List RSt} (h1 : ∀ n ∈ row1, 0 ≤ n ∧ n < 10 ^ 31) (h2 : ∀ n ∈ row2, 0 ≤ n ∧ n < 10 ^ 31) (hW : [(giL z 0 72 row1).toArray, (giL z 0 72 row2).toArray] = wrs) (hS : wrs.map (fun b => rdAt z b.toList b.size) = sts) :
    sts.map (·.ns) = [row1, row2] ∧ ∀ st ∈ sts, st.p = 0 := by
  subst hW hS
  have e1 := rdAt_end (z := z) (row := row1) fun n hn => (h1 n hn).1
  have e2 := rdAt_end (z := z) (row := row2) fun n hn => (h2 n hn).1
  simp only [List.map_cons, List.map_nil, List.size_toArray]
  refine ⟨by rw [e1.1, e2.1], fun st hs => ?_⟩
  simp only [List.mem_cons, List.not_mem_nil, or_false] at hs
  rcases hs with rfl | rfl
  · exact e1.2
  · exact e2.2
end Mine
end
-- part FO
section
open PySem PySem.W PyProof.Rows
namespace Mine
theorem anewFO {M : Model} {A : Around} {E : Value → Shared → Prop} {s : Shared} {Q : Nat → Shared → Prop} (h : Q 0 s) : wpAny M A (pure 0) Q E s := by
  first | (walk1; exact h) | exact wpAny_pure h
end Mine
end
section
open PySem PySem.W PyProof.Rows
set_option maxRecDepth 100000
set_option maxHeartbeats 2000000
namespace Mine
theorem fill18 : PySem.Challenge.rw_ny0167_01 = PySem.Challenge.rw_ny0167_01 ∧ MineHd.hd.heap_1 = MineHd.hd.heap_1 := by
  k_fill
  exact ⟨rfl, rfl⟩
local macro_rules | `(tactic| walk_at "call ref") => `(tactic| refine stop ?_)
local macro_rules | `(tactic| walk_at "binaryOp Pow int int") => `(tactic| refine stop ?_)
local macro_rules | `(tactic| walk_at "compareOp NotEq ref ref") => `(tactic| refine stop ?_)
local macro_rules | `(tactic| walk_at "compareOp Eq ref ref") => `(tactic| refine stop ?_)
local macro_rules | `(tactic| walk_at "eval ListComp") => `(tactic| refine stop ?_)

local macro_rules | `(tactic| walk_at "call builtin:str.join") => `(tactic| refine stop ?_)

local macro_rules | `(tactic| walk_at "assign Tuple") => `(tactic| refine stop ?_)
theorem keeps_tok {s : Shared} {h : Heap} {tk : Nat} (h1 : h = s.heap) : Keeps s { s with heap := h, toks := tk } := ⟨h, tk, rfl, fun b o e => by rw [h1]; exact e⟩
theorem base_room (ns : List Int) : (((ns.take 3).map sgn).map (·.length)).sum + ((ns.take 3).map sgn).length * (Str.ofString "").length ≤ 16777216 := by
  have he : Str.ofString "" = ⟨#[]⟩ := by decide +kernel
  rw [sgn_sum, he]
  simp [Str.length]
  omega
theorem exFn42 (w : World) : ∃ o fd, (MineHd.hd.heap_1 w.params).lookup 42 = some o ∧ o.data = .func fd := ⟨_, _, by with_unfolding_all rfl, rfl⟩
theorem exFn72 (w : World) : ∃ o fd, (MineHd.hd.heap_1 w.params).lookup 72 = some o ∧ o.data = .func fd := ⟨_, _, by with_unfolding_all rfl, rfl⟩
theorem exFn112 (w : World) : ∃ o fd, (MineHd.hd.heap_1 w.params).lookup 112 = some o ∧ o.data = .func fd := ⟨_, _, by with_unfolding_all rfl, rfl⟩
theorem Gd.fn {w : World} {h : Heap} {f : Addr} (G : Gd w h) (e : ∃ o fd, (MineHd.hd.heap_1 w.params).lookup f = some o ∧ o.data = .func fd) : ∃ o fd, h.get? f = some o ∧ o.data = .func fd :=
  let ⟨o, fd, h1, h2⟩ := e; ⟨o, fd, G.K _ _ h1, h2⟩
theorem exFn79 (w : World) : ∃ o fd, (MineHd.hd.heap_1 w.params).lookup 79 = some o ∧ o.data = .func fd := ⟨_, _, by with_unfolding_all rfl, rfl⟩
theorem exFn91 (w : World) : ∃ o fd, (MineHd.hd.heap_1 w.params).lookup 91 = some o ∧ o.data = .func fd := ⟨_, _, by with_unfolding_all rfl, rfl⟩
theorem ns_own {g h h' : Heap} {L C : Addr} {own r1 r2 : List (Addr × Obj)} {m : Str → Option Value} (N : News g L h (own ++ r1)) (N' : News g L h' (own ++ r2)) (hC : ∃ oC, (C, oC) ∈ own) (hn : h.Ns C m) : h'.Ns C m := by
  obtain ⟨oC, hm⟩ := hC
  have e1 := (N _ (List.mem_append_left _ hm)).1
  have e2 := (N' _ (List.mem_append_left _ hm)).1
  exact hn.at' fun o e => by rw [e1] at e; cases e; exact e2
theorem item3_0 {a b c : Value} : #[a, b, c][(0 : Int).toNat]? = some a := rfl
theorem ne128 {g h : Heap} {L a : Addr} {M : List (Addr × Obj)} {o : Obj} {ps : Array Value} (N : News g L h M) (hT : (128, tabObj ps) ∈ M) (hm : (a, o) ∈ M) (hc : o.cls = .type "list") : a ≠ 128 := fun e => by
  have e1 := (N _ hT).1
  have e2 := (N _ hm).1
  dsimp only at e1 e2
  rw [e, e1] at e2
  cases e2
  cases hc
/-- a table that the next lambda may be laid into -/
structure Pre (pre : Array Value) (pos : Pos) : Prop where
  ok : TriplesOk pre.toList
  no : codeAmong pos pre.toList = none
  ok' : ∀ c', TriplesOk (pre ++ #[rawInt pos.line, rawInt pos.col, .ref c']).toList
  yes : ∀ c', codeAmong pos (pre ++ #[rawInt pos.line, rawInt pos.col, .ref c']).toList = some (.ref c')
theorem item_lastA {prog : Program} {w : World} {A : Around} {E : Value → Shared → Prop} {s : Shared} {value slice : PySem.Expr} {l : Addr} {items : Array Value} {u : Tok} {v : Value} {Q : Value → Shared → Prop}
    (hl : s.heap.IsList l items) (h0 : 0 < items.size) (hx : items[items.size - 1]? = some v) (h : Q v s)
    (hs : subscripted slice false (.ref l) (.int (-1) u) = operate [.ref l, .int (-1) u] (getItem (.ref l) (.int (-1) u)) := by with_unfolding_all rfl) :
    wpAny (model prog w) A (subscriptTail value slice (.ref l) (.int (-1) u)) Q E s :=
  tail_any hl.typeIs slot_list_getitem.lookup (wpAny_getItem_list_neg hl (by decide) (by omega) (by decide) (by rw [show ((-1 : Int) + (items.size : Int)).toNat = items.size - 1 by omega]; exact hx) h) hs
theorem ex_mk {s : Shared} {g h' : Heap} {L : Addr} {m : Str → Option Value} {own rest' : List (Addr × Obj)} {J : Value → List (Addr × Obj) → Prop} {y : Value} {tk : Nat} (F : Fr g L h' m) (Nr : News g L h' rest') (No : News g L h' own) (hdis : ∀ p ∈ rest', ∀ q ∈ own, p.1 ≠ q.1) (hJ : J y rest') :
    Ex s g L m own J y { s with heap := h', toks := tk } := ⟨h', tk, rest', rfl, F, News.append No Nr, hdis, hJ⟩
theorem trip1 (a b : Int) (c : Addr) : TriplesOk (#[rawInt a, rawInt b, .ref c] : Array Value).toList := by
  show TriplesOk [rawInt a, rawInt b, .ref c]
  simp [TriplesOk, rawInt]
/-- one of two -/
theorem two_at {a b v : Value} {i : Nat} (h : #[a, b][i]? = some v) : i = 0 ∧ v = a ∨ i = 1 ∧ v = b := by
  match i, h with
  | 0, h => exact .inl ⟨rfl, by simpa using h.symm⟩
  | 1, h => exact .inr ⟨rfl, by simpa using h.symm⟩
  | i + 2, h => simp at h
theorem pre0 (pos : Pos) (h : ∀ c', codeAmong pos [rawInt pos.line, rawInt pos.col, .ref c'] = some (.ref c')) : Pre #[] pos := ⟨trivial, rfl, fun c' => trip1 _ _ _, fun c' => h c'⟩
theorem pre6 (c1 : Addr) : Pre (#[] ++ #[rawInt 174, rawInt 21, .ref c1]) ⟨175, 19, 175, 69⟩ := by
  refine ⟨trip1 _ _ _, by with_unfolding_all rfl, fun c' => ?_, fun c' => by with_unfolding_all rfl⟩
  show TriplesOk [rawInt 174, rawInt 21, .ref c1, rawInt 175, rawInt 19, .ref c']
  simp [TriplesOk, rawInt]
theorem pre6' : Pre #[] ⟨175, 19, 175, 69⟩ := pre0 _ fun c' => by with_unfolding_all rfl
/-- what is left behind the first three statements -/
def Tail3 (prog : Program) (w : World) (A : Around) (env : Env) (rest : List Stmt) (Q : Flow → Shared → Prop) (g : Heap) (L : Addr) (ns : List Int) (s : Shared) : Prop :=
  ∀ bs tb D1 D2 Dr ws1 ws2 (row1 row2 : List Int) ocz tz (m : Str → Option Value) hh tk, baseOf ns = bs → row1 = (ns.take 3).map (fun n => n.fmod 9000) ++ [700, 41] → row2 = row1 ++ (ns.take 3).map absF ++ [10 ^ Int.toNat 12] → IntsAre ws1 row1 → IntsAre ws2 row2 → ocz.data = .cell (some (.int bs.length tz)) →
      m "base" = some (.str bs tb) → m "rows" = some (.ref Dr) → Fr g L hh m → News g L hh [(Dr, listOf #[.ref D1, .ref D2] 0), (D2, listOf ws2.toArray 0), (D1, listOf ws1.toArray 0), (L + 1, ocz), (128, tabObj #[])] →
      wpN (model prog w) A (execs rest env) Q { s with heap := hh, toks := tk }
theorem cut3 {prog : Program} {w : World} {A : Around} {s : Shared} {env : Env} {s1 s2 s3 : Stmt} {rest : List Stmt} {Q : Flow → Shared → Prop} {g : Heap} {L : Addr} {ns : List Int}
    (h : Tail3 prog w A env rest Q g L ns s) (k : Halt (Tail3 prog w A env rest Q g L ns s) → wpN (model prog w) A (execs (s1 :: s2 :: s3 :: rest) env) Q s) : wpN (model prog w) A (execs (s1 :: s2 :: s3 :: rest) env) Q s := k ⟨h⟩
theorem news_five {g h : Heap} {L : Addr} {a b c d e f x y z : Addr × Obj} {M : List (Addr × Obj)} (N : News g L h (a :: b :: c :: d :: e :: f :: x :: y :: z :: M)) : News g L h [a, b, x, y, z] := fun p hp => N p (by
  simp only [List.mem_cons, List.not_mem_nil, or_false] at hp ⊢
  rcases hp with rfl | rfl | rfl | rfl | rfl <;> simp)
theorem two_states {sts : List RSt} {a b : List Int} (hl : sts.length = 2) (h1 : sts.map (·.ns) = [a, b]) (h0 : ∀ st ∈ sts, st.p = 0) : ∃ st1 st2, sts = [st1, st2] ∧ st1.ns = a ∧ st2.ns = b ∧ st1.p = 0 ∧ st2.p = 0 := by
  cases sts with
  | nil => cases hl
  | cons x1 r => cases r with
    | nil => cases hl
    | cons x2 r => cases r with
      | nil =>
        simp only [List.map_cons, List.map_nil, List.cons.injEq, and_true] at h1
        exact ⟨x1, x2, rfl, h1.1, h1.2, h0 _ (.head _), h0 _ (.tail _ (.head _))⟩
      | cons x3 r => cases hl
theorem law_s {prog : Program} {w : World} {s : Shared} {l : Addr} {vs : List Value} {ns : List Int} {A : Around}
    (G : Gd w s.heap) (r : Rm A 12) (hA : A.frames = some []) (hT : s.heap.get? 128 = some (tabObj #[])) (hl : s.heap.IsList l vs.toArray) (hi : IntsAre vs ns) (hlen : ns.length ≤ 63)
    {Q : Value → Shared → Prop} (hQ : ∀ h' tk', (ghostOf s.heap [(130, 128)]).StaysIn h' → GrownAt 128 h' → Q (.bool true) { s with heap := h', toks := tk' }) :
    wpN (model prog w) A (call (.ref 131) [.ref l]) Q s := by
  have hTabs : TabsAt [(130, 128)] s.heap := by
    intro q hq
    obtain rfl := List.mem_singleton.mp hq
    exact ⟨codeHd_of_K G.K (by kernel_rfl), hT⟩
  have Gg := ghost_gd hTabs G (noTabs39 w)
  obtain ⟨X, p, loose, mean, mg, mb, T⟩ := id G
  refine' enterCN (tabs := [(130, 128)]) (binds := [("script", .ref l)]) X T hTabs ?eo ?ec ?er ?eb ?ek1 ?en ?eco ?ege ?ek ?_
  (case eo => k_dflt k_is); (case ec => k_dflt k_is); (case er => exact Rm.depth (by assumption)); (case eb => exact BindsTo.of_eq (by with_unfolding_all rfl))
  (case ek1 => intro n x hx; simp only [List.mem_cons, List.not_mem_nil, or_false] at hx; rcases hx with rfl; exact .inl rfl); (case en => decide); (case eco => exact rfl); (case ege => exact rfl); (case ek => exact rfl)
  intro L h₁ tk cells F N Y
  have Y1 := CellsAre.one Y
  with_reducible refine Exists.elim Y1 fun oc q => ?_
  clear Y1
  have e1 := q.1
  have hoc := q.2
  subst e1
  clear q Y X T
  have hlg := ghost_list hTabs hl
  have X := Gg.K
  first | (with_reducible refine Exists.elim Gg.T fun p3 G3 => Exists.elim G3 fun loose3 G3 => Exists.elim G3 fun mean3 G3 => Exists.elim G3 fun mg3 G3 => Exists.elim G3 fun mb3 P3 => ?_) | refine Exists.elim Gg.T fun p3 G3 => Exists.elim G3 fun loose3 G3 => Exists.elim G3 fun mean3 G3 => Exists.elim G3 fun mg3 G3 => Exists.elim G3 fun mb3 P3 => ?_
  generalize hg0 : ghostOf s.heap [(130, 128)] = g at *
  have h128 : 128 < L := by
    have q1 := Heap.lt_size hT
    have q2 := F.above
    rw [← hg0, hideAll_size] at q2
    exact Nat.lt_of_lt_of_le q1 q2
  (try dsimp only [tabNews, List.map_cons, List.map_nil, List.cons_append, List.nil_append] at N)
  (try dsimp only)
  first | (with_reducible refine cut3 (g := g) (L := L) (ns := ns) ?_ ?_) | refine cut3 (g := g) (L := L) (ns := ns) ?_ ?_
  · unfold Tail3
    intro bs tb D1 D2 Dr ws1 ws2 row1 row2 ocz tz m hh tk3 hbs hr1 hr2 I1 I2 hocz hm1 hm2 F3 N3
    have hbc := base_cps ns
    rw [hbs] at hbc
    have hb3 := hbc.1
    have hb128 : ∀ c ∈ bs.cps.toList, c < 128 := fun c hc => by rcases hbc.2 c hc with h | h | h | h | h <;> omega
    clear F N hoc
    have hr15 := row1_ok hr1
    have hrow1 : row1.length ≤ 20 ∧ ∀ n ∈ row1, 0 ≤ n ∧ n < 10 ^ 31 := row1_big hr15
    have hrow2 : row2.length ≤ 20 ∧ ∀ n ∈ row2, 0 ≤ n ∧ n < 10 ^ 31 := row2_ok hr15 hr2
    generalize hbl : [(Dr, listOf #[.ref D1, .ref D2] 0), (D2, listOf ws2.toArray 0), (D1, listOf ws1.toArray 0), (L + 1, ocz), (128, tabObj #[])] = bl at N3
    have mDr : (Dr, listOf #[.ref D1, .ref D2] 0) ∈ bl := hbl ▸ .head _
    have mD2 : (D2, listOf ws2.toArray 0) ∈ bl := hbl ▸ .tail _ (.head _)
    have mD1 : (D1, listOf ws1.toArray 0) ∈ bl := hbl ▸ .tail _ (.tail _ (.head _))
    have mz : (L + 1, ocz) ∈ bl := hbl ▸ .tail _ (.tail _ (.tail _ (.head _)))
    have mT : (128, tabObj #[]) ∈ bl := hbl ▸ .tail _ (.tail _ (.tail _ (.tail _ (.head _))))
    generalize hW : [(giL bs.length 0 72 row1).toArray, (giL bs.length 0 72 row2).toArray] = wrs
    first | (with_reducible refine N_cons (N_compL (l := Dr) (items := #[.ref D1, .ref D2]) (fun i ys rest => (∀ p ∈ bl, p ∈ rest) ∧ BytesAre ys (wrs.take i)) rfl rfl (by decide) rfl (by decide) rfl rfl rfl r.hd (by simp) (fun _ => rfl) ?_ F3 N3 ⟨fun p hp => hp, .nil⟩ ?_ ?_ ?_)) | refine N_cons (N_compL (l := Dr) (items := #[.ref D1, .ref D2]) (fun i ys rest => (∀ p ∈ bl, p ∈ rest) ∧ BytesAre ys (wrs.take i)) rfl rfl (by decide) rfl (by decide) rfl rfl rfl r.hd (by simp) (fun _ => rfl) ?_ F3 N3 ⟨fun p hp => hp, .nil⟩ ?_ ?_ ?_)
    · first | (with_reducible refine nm_L F3.ns hm2 ⟨rfl, rfl⟩) | refine nm_L F3.ns hm2 ⟨rfl, rfl⟩
    · intro i ys rest h hJ Nh _
      exact ⟨_, (Nh _ (hJ.1 _ mDr)).1, rfl, _, rfl⟩
    · intro i v ys rest own C m₂ h tk4 hv hys hJ F4 N4 hns hm hC hdis
      have N4r : News g L h rest := News.right N4
      have hcz : h.IsCell (L + 1) (some (.int bs.length tz)) := ⟨_, (N4r _ (hJ.1 _ mz)).1, hocz⟩
      have Gh : Gd w h := Gg.keeps F4.keep
      first | (with_reducible refine N_Call ?_) | refine N_Call ?_
      first | (with_reducible refine nm_G Gh (v := .ref 42) (by k_dflt k_is) ?_) | refine nm_G Gh (v := .ref 42) (by k_dflt k_is) ?_
      first | (with_reducible refine N_callR ?_) | refine N_callR ?_
      first | (with_reducible refine Calls.spliced_cons (nm_C rfl hcz (Calls.spliced_cons (nm_L hns hm (Calls.spliced_nil ?_))))) | refine Calls.spliced_cons (nm_C rfl hcz (Calls.spliced_cons (nm_L hns hm (Calls.spliced_nil ?_))))
      first | (with_reducible refine Halt.mk ⟨Gd.fn Gh (exFn42 w), ?_⟩) | refine Halt.mk ⟨Gd.fn Gh (exFn42 w), ?_⟩
      dsimp only [List.nil_append]
      rcases two_at hv with ⟨hi0, hvv⟩ | ⟨hi0, hvv⟩
      · subst hi0 hvv
        first | (with_reducible refine gi_k Gh (r.to (by decide)) (by omega) (by omega) ⟨_, (N4r _ (hJ.1 _ mD1)).1, rfl, _, rfl⟩ I1 hrow1.1 hrow1.2 fun t9 h9 tk9 k9 => ?_) | refine gi_k Gh (r.to (by decide)) (by omega) (by omega) ⟨_, (N4r _ (hJ.1 _ mD1)).1, rfl, _, rfl⟩ I1 hrow1.1 hrow1.2 fun t9 h9 tk9 k9 => ?_
        refine ⟨h9, tk9, rest, rfl, Fr.grow F4 k9, News.grow N4 k9, hdis, hJ.1, ?_⟩
        have q := hJ.2.snoc (giL bs.length 0 72 row1).toArray t9
        rw [← hW] at q ⊢
        exact q
      · subst hi0 hvv
        first | (with_reducible refine gi_k Gh (r.to (by decide)) (by omega) (by omega) ⟨_, (N4r _ (hJ.1 _ mD2)).1, rfl, _, rfl⟩ I2 hrow2.1 hrow2.2 fun t9 h9 tk9 k9 => ?_) | refine gi_k Gh (r.to (by decide)) (by omega) (by omega) ⟨_, (N4r _ (hJ.1 _ mD2)).1, rfl, _, rfl⟩ I2 hrow2.1 hrow2.2 fun t9 h9 tk9 k9 => ?_
        refine ⟨h9, tk9, rest, rfl, Fr.grow F4 k9, News.grow N4 k9, hdis, hJ.1, ?_⟩
        have q := hJ.2.snoc (giL bs.length 0 72 row2).toArray t9
        rw [← hW] at q ⊢
        exact q
    · intro ys rest Dw oDw h4 tk4 hys hJ hwc hwd F4 N4
      dsimp only
      have hC130 : CodeHd g 130 128 := codeHd_of_K X (by kernel_rfl)
      have hDw128 : Dw ≠ 128 := ne128 N4 (.tail _ (hJ.1 _ mT)) (.head _) hwc
      have inF : ∀ a o, (a, o) ∈ bl → a ≠ 128 → (a, o) ∈ (Dw, oDw) :: bl.filter (fun p => p.1 != 128) := fun a o hm hn => .tail _ (List.mem_filter.mpr ⟨hm, by simpa using hn⟩)
      have nbm0 : ∀ p ∈ (Dw, oDw) :: bl.filter (fun p => p.1 != 128), p.1 ≠ 128 := fun p hp => by
        rcases List.mem_cons.mp hp with rfl | hp
        · exact hDw128
        · simpa using (List.mem_filter.mp hp).2
      have sub0 : ∀ p ∈ (Dw, oDw) :: bl.filter (fun p => p.1 != 128), p ∈ (Dw, oDw) :: rest := fun p hp => by
        rcases List.mem_cons.mp hp with rfl | hp
        · exact .head _
        · exact .tail _ (hJ.1 _ (List.mem_filter.mp hp).1)
      have nDr0 := inF _ _ mDr (ne128 N3 mT mDr rfl)
      have nD10 := inF _ _ mD1 (ne128 N3 mT mD1 rfl)
      have nD20 := inF _ _ mD2 (ne128 N3 mT mD2 rfl)
      have nz0 := inF _ _ mz (Nat.ne_of_gt (Nat.lt_succ_of_lt h128))
      have nDw0 : (Dw, oDw) ∈ (Dw, oDw) :: bl.filter (fun p => p.1 != 128) := .head _
      generalize hbm : (Dw, oDw) :: bl.filter (fun p => p.1 != 128) = bm at inF nbm0 sub0 nDr0 nD10 nD20 nz0 nDw0
      have nDr := nDr0
      have nD1 := nD10
      have nD2 := nD20
      have nz := nz0
      have nbm := nbm0
      first | (with_reducible refine N_cons (N_compL (l := Dr) (items := #[.ref D1, .ref D2]) (fun i ys rest => (∀ p ∈ bm, p ∈ rest) ∧ (TabS #[] rest ∨ TabE #[] ⟨174, 21, 174, 72⟩ (Str.ofString "law" ++ Str.ofString ".<locals>." ++ Str.ofString "<lambda>") rest) ∧ BytesAre ys (wrs.take i)) rfl rfl (by decide) rfl (by decide) rfl rfl rfl r.hd (by simp) (fun _ => rfl) ?_ F4 N4 ⟨?_, ?_, .nil⟩ ?_ ?_ ?_)) | refine N_cons (N_compL (l := Dr) (items := #[.ref D1, .ref D2]) (fun i ys rest => (∀ p ∈ bm, p ∈ rest) ∧ (TabS #[] rest ∨ TabE #[] ⟨174, 21, 174, 72⟩ (Str.ofString "law" ++ Str.ofString ".<locals>." ++ Str.ofString "<lambda>") rest) ∧ BytesAre ys (wrs.take i)) rfl rfl (by decide) rfl (by decide) rfl rfl rfl r.hd (by simp) (fun _ => rfl) ?_ F4 N4 ⟨?_, ?_, .nil⟩ ?_ ?_ ?_)
      · exact nm_L F4.ns (show (if _ then _ else m _) = _ from hm2) ⟨rfl, rfl⟩
      · exact sub0
      · exact .inl (.tail _ (hJ.1 _ mT))
      · intro i ys2 rest2 h hJ2 Nh _
        exact ⟨_, (Nh _ (hJ2.1 _ nDr)).1, rfl, _, rfl⟩
      · intro i v ys2 rest2 own C m₂ h tk5 hv hys2 hJ2 F5 N5 hns hmr hC hdis
        have N5r : News g L h rest2 := News.right N5
        have Gh : Gd w h := Gg.keeps F5.keep
        have hrow : ∃ Dx wsx rowx, v = .ref Dx ∧ (Dx, listOf (List.toArray wsx) 0) ∈ bm ∧ IntsAre wsx rowx ∧ (rowx.length ≤ 20 ∧ ∀ n ∈ rowx, 0 ≤ n ∧ n < 10 ^ 31) ∧ wrs[i]? = some (giL bs.length 0 72 rowx).toArray := by
          rcases two_at hv with ⟨hi0, hvv⟩ | ⟨hi0, hvv⟩
          · exact ⟨D1, ws1, row1, hvv, nD1, I1, hrow1, by rw [hi0, ← hW]; rfl⟩
          · exact ⟨D2, ws2, row2, hvv, nD2, I2, hrow2, by rw [hi0, ← hW]; rfl⟩
        first | (with_reducible refine Exists.elim hrow fun Dx q => Exists.elim q fun wsx q => Exists.elim q fun rowx q => ?_) | refine Exists.elim hrow fun Dx q => Exists.elim q fun wsx q => Exists.elim q fun rowx q => ?_
        have e2 := q.1
        subst e2
        have mDx := q.2.1
        have Ix := q.2.2.1
        have hrx := q.2.2.2.1
        have hwi := q.2.2.2.2
        clear q hrow hv
        first | (with_reducible refine N_Subscript (N_Call ?_)) | refine N_Subscript (N_Call ?_)
        first | (with_reducible refine nm_G Gh (v := .ref 72) (by k_dflt k_is) ?_) | refine nm_G Gh (v := .ref 72) (by k_dflt k_is) ?_
        first | (with_reducible refine N_callR ?_) | refine N_callR ?_
        first | (with_reducible refine Calls.spliced_cons ?_) | refine Calls.spliced_cons ?_
        simp only [Bool.false_eq_true, if_false]
        first | (with_reducible refine lam_any rfl rfl rfl rfl hC130 Gg F5 N5 hdis hJ2.2.1 trivial rfl (fun c' => trip1 _ _ _) (fun c' => by with_unfolding_all rfl) ?_) | refine lam_any rfl rfl rfl rfl hC130 Gg F5 N5 hdis hJ2.2.1 trivial rfl (fun c' => trip1 _ _ _) (fun c' => by with_unfolding_all rfl) ?_
        intro f c' oc' vs' t' ctv pm h6 tk6 rest3 F6 N6 mf mc hd' hv' hTE hsub3 hoff3
        have hns6 := ns_own N5 N6 hC hns
        have hsub : ∀ p ∈ bm, p ∈ rest3 := fun p hp => hsub3 p (hJ2.1 p hp) (nbm p hp)
        first | (with_reducible refine Calls.spliced_cons (nm_L hns6 hmr ?_)) | refine Calls.spliced_cons (nm_L hns6 hmr ?_)
        have hownG : ∀ q ∈ own, ∃ o, h.get? q.1 = some o := fun q hq => ⟨_, (N5 q (List.mem_append_left _ hq)).1⟩
        have HK := Halt.mk (And.intro hoff3 (And.intro hdis hownG))
        clear hsub3 hoff3 hdis hns hownG
        (k_steps; all_goals (repeat' (first | ((with_reducible refine unstop ?_); (first | (with_reducible (first | ((k_here; (with_reducible show wpAny _ _ (assign (Expr.Tuple _ _ _) _ (Value.ref _)) _ _ _); ( k_dflt (refine' unpackN_ ?k1 ?k2 ?k3 ?k4 ?k5 ?k6 ?_; (case k1 => k_asm); (case k2 => k_asm); (case k3 => kun_tup); (case k4 => exact Rm.hd (Rm.to (m := 0) (by with_reducible assumption) (by decide))); (case k5 => exact rfl); (case k6 => exact rfl); k_whole)); intro zzh' zzF' zzN'; (try k_sweep))) | ((k_here; (with_reducible refine pow_int_small ?kb1 ?kb2 ?kb3 ?_); (case kb1 => decide); (case kb2 => decide); (case kb3 => decide))) | fail)) ); k_steps) | fail)))
        (with_reducible rename News _ _ _ _ => N7)
        (with_reducible rename Fr _ _ _ _ => F7)
        have G7 := Gg.keeps F7.keep
        have up7 : ∀ p ∈ rest3, _ := fun p hp => (N7 p (.tail _ (List.mem_append_right _ hp))).1
        first | (with_reducible refine Halt.mk ⟨Gd.fn G7 (exFn72 w), ?_⟩) | refine Halt.mk ⟨Gd.fn G7 (exFn72 w), ?_⟩
        first | (with_reducible refine reduce_list (items := wsx.toArray) (R := ML _) (AccW bs.length rowx) AccW.mono G7 (r.to (by decide)) (ML.at N7) ?_ ⟨_, (N7 _ (.head _)).1, by show Value.type "list" ≠ Value.type "tuple"; simp⟩ ⟨_, _, up7 _ mf, rfl⟩ ⟨_, up7 _ (hsub _ mDx), rfl, _, rfl⟩ ⟨_, _, _, _, rfl, _, .head _, rfl, _, rfl⟩ ?_ ?_) | refine reduce_list (items := wsx.toArray) (R := ML _) (AccW bs.length rowx) AccW.mono G7 (r.to (by decide)) (ML.at N7) ?_ ⟨_, (N7 _ (.head _)).1, by show Value.type "list" ≠ Value.type "tuple"; simp⟩ ⟨_, _, up7 _ mf, rfl⟩ ⟨_, up7 _ (hsub _ mDx), rfl, _, rfl⟩ ⟨_, _, _, _, rfl, _, .head _, rfl, _, rfl⟩ ?_ ?_
        · intro e
          first | (with_reducible refine Exists.elim (ex64 w) fun o64 h64 => ?_) | refine Exists.elim (ex64 w) fun o64 h64 => ?_
          have z := (N7 _ (.head _)).2.2
          dsimp only at z
          rw [e, X _ _ h64] at z
          cases z
        · intro A' s' R' Q' i' acc el r' hk' hR' hacc hel hQ'
          first | (with_reducible refine Exists.elim hacc fun a q => Exists.elim q fun u1 q => Exists.elim q fun u2 q => Exists.elim q fun u3 q => ?_) | refine Exists.elim hacc fun a q => Exists.elim q fun u1 q => Exists.elim q fun u2 q => Exists.elim q fun u3 q => ?_
          have e3 := q.1
          subst e3
          have hla := hR' _ _ q.2
          first | (with_reducible refine Exists.elim (IntsAre.at Ix i' el (by simpa using hel)) fun d q => Exists.elim q fun td q => ?_) | refine Exists.elim (IntsAre.at Ix i' el (by simpa using hel)) fun d q => Exists.elim q fun td q => ?_
          have e4 := q.1
          subst e4
          have hdi := q.2
          have hlt : i' < rowx.length := (List.getElem?_eq_some_iff.mp hdi).1
          have hdd := hrx.2 d (List.mem_of_getElem? hdi)
          have hcz' : s'.heap.IsCell (L + 1) (some (.int bs.length tz)) := ⟨_, hk' _ _ (up7 _ (hsub _ nz)), hocz⟩
          first | (with_reducible refine enterLam (binds := [("state", .ref a), ("delta", .int d td)]) (G7.keeps hk') (hk' _ _ (up7 _ mf)) ⟨c', oc', vs', t', rfl, hk' _ _ (up7 _ mc), hd', hv'⟩ r'.depth rfl (locs rfl) ?_ rfl rfl rfl (by decide)) | refine enterLam (binds := [("state", .ref a), ("delta", .int d td)]) (G7.keeps hk') (hk' _ _ (up7 _ mf)) ⟨c', oc', vs', t', rfl, hk' _ _ (up7 _ mc), hd', hv'⟩ r'.depth rfl (locs rfl) ?_ rfl rfl rfl (by decide)
          intro L' h₁' tk₁' F'
          have G8 := (G7.keeps hk').keeps F'.keep
          first | (with_reducible refine N_Call (nm_G G8 (v := .ref 79) (by k_dflt k_is) (N_callR ?_))) | refine N_Call (nm_G G8 (v := .ref 79) (by k_dflt k_is) (N_callR ?_))
          first | (with_reducible refine Calls.spliced_cons (nm_L F'.ns rfl (Calls.spliced_cons (nm_L F'.ns rfl (Calls.spliced_cons (nm_F rfl (hcz'.keeps F'.keep) (Calls.spliced_nil ?_))))))) | refine Calls.spliced_cons (nm_L F'.ns rfl (Calls.spliced_cons (nm_L F'.ns rfl (Calls.spliced_cons (nm_F rfl (hcz'.keeps F'.keep) (Calls.spliced_nil ?_))))))
          first | (with_reducible refine Halt.mk ⟨Gd.fn G8 (exFn79 w), ?_⟩) | refine Halt.mk ⟨Gd.fn G8 (exFn79 w), ?_⟩
          dsimp only [List.nil_append]
          have hsz := wAt_size (z := bs.length) hrx.2 i' (Nat.le_of_lt hlt)
          first | (with_reducible refine write_k G8 (r'.to (by decide)) (stays_list F'.keep hla) (by omega) hdd.1 hdd.2 (by omega) (by omega) (by omega) (by omega) fun a9 u1 u2 u3 h9 tk9 k9 n9 g9 => ?_) | refine write_k G8 (r'.to (by decide)) (stays_list F'.keep hla) (by omega) hdd.1 hdd.2 (by omega) (by omega) (by omega) (by omega) fun a9 u1 u2 u3 h9 tk9 k9 n9 g9 => ?_
          first | (with_reducible refine hQ' _ [(a9, lstObj [.bytes ((wAt bs.length rowx i').1 ++ (ggiF d 0 (wAt bs.length rowx i').2).toArray) u1, .int (adf d ((i' : Int) == 0) (bs.length + i' + 1)) u2, .int (i' + 1) u3])] h9 tk9 (fun b o e => k9 b o (F'.keep b o e)) (fun p hp => ?_) ⟨a9, u1, u2, u3, rfl, .inl ⟨_, .head _, rfl, 0, ?_⟩⟩) | refine hQ' _ [(a9, lstObj [.bytes ((wAt bs.length rowx i').1 ++ (ggiF d 0 (wAt bs.length rowx i').2).toArray) u1, .int (adf d ((i' : Int) == 0) (bs.length + i' + 1)) u2, .int (i' + 1) u3])] h9 tk9 (fun b o e => k9 b o (F'.keep b o e)) (fun p hp => ?_) ⟨a9, u1, u2, u3, rfl, .inl ⟨_, .head _, rfl, 0, ?_⟩⟩
          · obtain rfl := List.mem_singleton.mp hp
            exact ⟨g9, stays_none F'.keep n9⟩
          · have e5 : rowx.getD i' 0 = d := by rw [List.getD_eq_getElem?_getD, hdi]; rfl
            show Data.seq _ _ = _
            simp only [wAt, e5]
            rfl
        · intro v9 M9 h9 tk9 k9 D9 A9
          first | (with_reducible refine Exists.elim A9 fun a q => Exists.elim q fun u1 q => Exists.elim q fun u2 q => Exists.elim q fun u3 q => ?_) | refine Exists.elim A9 fun a q => Exists.elim q fun u1 q => Exists.elim q fun u2 q => Exists.elim q fun u3 q => ?_
          have e3 := q.1
          subst e3
          have F9 := Fr.grow F7 k9
          have N9 := made_news F7 N7 k9 D9
          have hR9 := q.2
          have hI9 : _ := ML.at N9 a _ (hR9.elim .left fun x => .right x)
          have hnl : wsx.toArray.size = rowx.length := by simp [Ix.length]
          rw [hnl, wAt_end] at hI9
          have HD := Halt.mk D9
          have HU := Halt.mk up7
          clear D9 k9 up7 hR9 q A9
          (k_steps; all_goals (repeat' (first | ((with_reducible refine unstop ?_); (first | (with_reducible (first | ((k_here; (with_reducible show wpAny _ _ (assign (Expr.Tuple _ _ _) _ (Value.ref _)) _ _ _); ( k_dflt (refine' unpackN_ ?k1 ?k2 ?k3 ?k4 ?k5 ?k6 ?_; (case k1 => k_asm); (case k2 => k_asm); (case k3 => kun_tup); (case k4 => exact Rm.hd (Rm.to (m := 0) (by with_reducible assumption) (by decide))); (case k5 => exact rfl); (case k6 => exact rfl); k_whole)); intro zzh' zzF' zzN'; (try k_sweep))) | ((k_here; (with_reducible refine pow_int_small ?kb1 ?kb2 ?kb3 ?_); (case kb1 => decide); (case kb2 => decide); (case kb3 => decide))) | fail)) ); k_steps) | fail)))
          refine ⟨h9, _, rest3, rfl, F9, fun p hp => N9 p (List.mem_append_right _ (.tail _ hp)), fun p hp q hq => ?_, hsub, .inr hTE, ?_⟩
          · rcases HK.out.1 p hp with z | z
            · exact Exists.elim z fun o ho => HK.out.2.1 _ ho q hq
            · intro e
              first | (with_reducible refine Exists.elim (HK.out.2.2 q hq) fun o e4 => ?_) | refine Exists.elim (HK.out.2.2 q hq) fun o e4 => ?_
              rw [← e] at e4
              rw [show h.get? p.1 = none from z] at e4
              cases e4
          · rw [List.take_add_one, hwi]
            exact hJ2.2.2.snoc _ _
      · intro ys3 rest4 Df oDf h5 tk5 hys3 hJ3 hfc hfd F5 N5
        dsimp only
        have hwrs2 : wrs.length = 2 := by rw [← hW]; rfl
        have hysB : BytesAre ys wrs := by
          have q := hJ.2
          rw [List.take_of_length_le (by rw [hwrs2]; simp)] at q
          exact q
        have hrd : ∀ b ∈ wrs, RdOk bs.length b.toList ∧ b.size < 5000 := wrs_rd hrow1 hrow2 hW
        have hpre : ∃ pre, TabS pre rest4 ∧ Pre pre ⟨175, 19, 175, 69⟩ := by
          rcases hJ3.2.1 with q | ⟨c1, oc1, vs1, t1, q, _⟩
          · exact ⟨_, q, pre6'⟩
          · exact ⟨_, q, pre6 c1⟩
        first | (with_reducible refine Exists.elim hpre fun pre hpre => ?_) | refine Exists.elim hpre fun pre hpre => ?_
        generalize hsts : wrs.map (fun b => rdAt bs.length b.toList b.size) = sts
        have hnDf : Df ≠ 128 := ne128 N5 (.tail _ hpre.1) (.head _) hfc
        have hbn1 : ∀ p ∈ (Df, oDf) :: bm, p.1 ≠ 128 := fun p hp => by
          rcases List.mem_cons.mp hp with rfl | hp
          · exact hnDf
          · exact nbm p hp
        have hbn2 : ∀ p ∈ (Df, oDf) :: bm, p ∈ (Df, oDf) :: rest4 := fun p hp => by
          rcases List.mem_cons.mp hp with rfl | hp
          · exact .head _
          · exact .tail _ (hJ3.1 p hp)
        first | (with_reducible refine Exists.elim hwd fun nw hwd => ?_) | refine Exists.elim hwd fun nw hwd => ?_
        first | (with_reducible refine N_cons (N_compL (l := Dw) (items := ys.toArray) (fun i zs rest => (∀ p ∈ (Df, oDf) :: bm, p ∈ rest) ∧ (TabS pre rest ∨ TabE pre ⟨175, 19, 175, 69⟩ (Str.ofString "law" ++ Str.ofString ".<locals>." ++ Str.ofString "<lambda>") rest) ∧ RefsAre (ML rest) zs (sts.take i)) rfl rfl (by decide) rfl (by decide) rfl rfl rfl r.hd (by rw [List.size_toArray, hysB.length, hwrs2]; decide) (fun _ => rfl) ?_ F5 N5 ⟨hbn2, .inl (.tail _ hpre.1), rfl, ?_⟩ ?_ ?_ ?_)) | refine N_cons (N_compL (l := Dw) (items := ys.toArray) (fun i zs rest => (∀ p ∈ (Df, oDf) :: bm, p ∈ rest) ∧ (TabS pre rest ∨ TabE pre ⟨175, 19, 175, 69⟩ (Str.ofString "law" ++ Str.ofString ".<locals>." ++ Str.ofString "<lambda>") rest) ∧ RefsAre (ML rest) zs (sts.take i)) rfl rfl (by decide) rfl (by decide) rfl rfl rfl r.hd (by rw [List.size_toArray, hysB.length, hwrs2]; decide) (fun _ => rfl) ?_ F5 N5 ⟨hbn2, .inl (.tail _ hpre.1), rfl, ?_⟩ ?_ ?_ ?_)
        · exact nm_L F5.ns rfl ⟨rfl, rfl⟩
        · intro j v st h1; simp at h1
        · intro i zs rest5 h hJ6 Nh _
          exact ⟨oDw, (Nh _ (hJ6.1 _ (.tail _ nDw0))).1, hwc, nw, hwd⟩
        · intro i v zs rest5 own C m₂ h tk6 hv hzs hJ6 F6 N6 hns hmr hC hdis
          have Gh : Gd w h := Gg.keeps F6.keep
          first | (with_reducible refine Exists.elim (hysB.at i v (by simpa using hv)) fun wb q => Exists.elim q fun tw q => ?_) | refine Exists.elim (hysB.at i v (by simpa using hv)) fun wb q => Exists.elim q fun tw q => ?_
          have e2 := q.1
          subst e2
          have hwi := q.2
          have hrdb := hrd wb (List.mem_of_getElem? hwi)
          clear q hv
          first | (with_reducible refine N_Call ?_) | refine N_Call ?_
          first | (with_reducible refine nm_G Gh (v := .ref 72) (by k_dflt k_is) ?_) | refine nm_G Gh (v := .ref 72) (by k_dflt k_is) ?_
          first | (with_reducible refine N_callR ?_) | refine N_callR ?_
          first | (with_reducible refine Calls.spliced_cons ?_) | refine Calls.spliced_cons ?_
          simp only [Bool.false_eq_true, if_false]
          first | (with_reducible refine lam_any rfl rfl rfl rfl hC130 Gg F6 N6 hdis hJ6.2.1 hpre.2.ok hpre.2.no hpre.2.ok' hpre.2.yes ?_) | refine lam_any rfl rfl rfl rfl hC130 Gg F6 N6 hdis hJ6.2.1 hpre.2.ok hpre.2.no hpre.2.ok' hpre.2.yes ?_
          intro f c' oc' vs' t' ctv pm h7 tk7 rest6 F7 N7 mf mc hd' hv' hTE hsub3 hoff3
          have hns7 := ns_own N6 N7 hC hns
          have hsub : ∀ p ∈ (Df, oDf) :: bm, p ∈ rest6 := fun p hp => hsub3 p (hJ6.1 p hp) (hbn1 p hp)
          first | (with_reducible refine Calls.spliced_cons (nm_L hns7 hmr ?_)) | refine Calls.spliced_cons (nm_L hns7 hmr ?_)
          have hownG : ∀ q ∈ own, ∃ o, h.get? q.1 = some o := fun q hq => ⟨_, (N6 q (List.mem_append_left _ hq)).1⟩
          have hml : ∀ a its, ML rest5 a its → ML rest6 a its := fun a its x => by
            obtain ⟨o, hm, hc, r⟩ := x
            refine ⟨o, hsub3 _ hm ?_, hc, r⟩
            rcases hJ6.2.1 with z | ⟨_, _, _, _, z, _⟩
            · exact ne128 (News.right N6) z hm hc
            · exact ne128 (News.right N6) z hm hc
          have HK := Halt.mk (And.intro hoff3 (And.intro hdis (And.intro hownG hml)))
          clear hsub3 hoff3 hdis hns hownG hbn1 hbn2 hml
          (k_steps; all_goals (repeat' (first | ((with_reducible refine unstop ?_); (first | (with_reducible (first | ((k_here; (with_reducible show wpAny _ _ (assign (Expr.Tuple _ _ _) _ (Value.ref _)) _ _ _); ( k_dflt (refine' unpackN_ ?k1 ?k2 ?k3 ?k4 ?k5 ?k6 ?_; (case k1 => k_asm); (case k2 => k_asm); (case k3 => kun_tup); (case k4 => exact Rm.hd (Rm.to (m := 0) (by with_reducible assumption) (by decide))); (case k5 => exact rfl); (case k6 => exact rfl); k_whole)); intro zzh' zzF' zzN'; (try k_sweep))) | ((k_here; (with_reducible refine pow_int_small ?kb1 ?kb2 ?kb3 ?_); (case kb1 => decide); (case kb2 => decide); (case kb3 => decide))) | fail)) ); k_steps) | fail)))
          rename_i l2 hA hl2 l1 hB F8 N8 hl1
          have G8 := Gg.keeps F8.keep
          have up8 : ∀ p ∈ rest6, _ := fun p hp => (N8 p (.tail _ (.tail _ (List.mem_append_right _ hp)))).1
          have hne8 : ∀ q ∈ own, q.1 < l2 ∧ q.1 < l1 := fun q hq => ⟨hl2 q (List.mem_append_left _ hq), Nat.lt_trans (hl2 q (List.mem_append_left _ hq)) hl1.1⟩
          have N8r : News g L hB ((l1, _) :: (l2, _) :: rest6) := fun p hp => by
            rcases List.mem_cons.mp hp with rfl | hp
            · exact N8 _ (.head _)
            rcases List.mem_cons.mp hp with rfl | hp
            · exact N8 _ (.tail _ (.head _))
            · exact N8 _ (.tail _ (.tail _ (List.mem_append_right _ hp)))
          first | (with_reducible refine Halt.mk ⟨Gd.fn G8 (exFn72 w), ?_⟩) | refine Halt.mk ⟨Gd.fn G8 (exFn72 w), ?_⟩
          first | (with_reducible refine reduce_bytes (R := ML _) (AccR bs.length wb.toList) AccR.mono G8 (r.to (by decide)) (ML.at N8r) ?_ ⟨_, (N8 _ (.head _)).1, by show Value.type "list" ≠ Value.type "tuple"; simp⟩ ⟨_, _, up8 _ mf, rfl⟩ ⟨_, rfl, _, _, _, _, _, ⟨_, .head _, rfl, _, rfl⟩, [], ⟨_, .tail _ (.head _), rfl, _, rfl⟩, .nil⟩ ?_ ?_) | refine reduce_bytes (R := ML _) (AccR bs.length wb.toList) AccR.mono G8 (r.to (by decide)) (ML.at N8r) ?_ ⟨_, (N8 _ (.head _)).1, by show Value.type "list" ≠ Value.type "tuple"; simp⟩ ⟨_, _, up8 _ mf, rfl⟩ ⟨_, rfl, _, _, _, _, _, ⟨_, .head _, rfl, _, rfl⟩, [], ⟨_, .tail _ (.head _), rfl, _, rfl⟩, .nil⟩ ?_ ?_
          · intro e
            first | (with_reducible refine Exists.elim (ex64 w) fun o64 h64 => ?_) | refine Exists.elim (ex64 w) fun o64 h64 => ?_
            have z := (N8 _ (.head _)).2.2
            dsimp only at z
            rw [e, X _ _ h64] at z
            cases z
          · intro A' s' R' Q' i' acc el r' hk' hR' hacc hel hQ'
            first | (with_reducible refine Exists.elim hacc fun a q => ?_) | refine Exists.elim hacc fun a q => ?_
            have e3 := q.1
            subst e3
            have hsta := q.2
            first | (with_reducible refine Exists.elim hel fun c q => Exists.elim q fun u q => ?_) | refine Exists.elim hel fun c q => Exists.elim q fun u q => ?_
            have e4 := q.2
            subst e4
            have hci : wb.toList[i']? = some c := by simpa using q.1
            have hok := hrdb.1 i' c hci
            have hcz' : s'.heap.IsCell (L + 1) (some (.int bs.length tz)) := ⟨_, hk' _ _ (up8 _ (hsub _ (.tail _ nz))), hocz⟩
            first | (with_reducible refine enterLam (binds := [("state", .ref a), ("octet", .int c.toNat u)]) (G8.keeps hk') (hk' _ _ (up8 _ mf)) ⟨c', oc', vs', t', rfl, hk' _ _ (up8 _ mc), hd', hv'⟩ r'.depth rfl (locs rfl) ?_ rfl rfl rfl (by decide)) | refine enterLam (binds := [("state", .ref a), ("octet", .int c.toNat u)]) (G8.keeps hk') (hk' _ _ (up8 _ mf)) ⟨c', oc', vs', t', rfl, hk' _ _ (up8 _ mc), hd', hv'⟩ r'.depth rfl (locs rfl) ?_ rfl rfl rfl (by decide)
            intro L' h₁' tk₁' F'
            have G9 := (G8.keeps hk').keeps F'.keep
            first | (with_reducible refine N_Call (nm_G G9 (v := .ref 91) (by k_dflt k_is) (N_callR ?_))) | refine N_Call (nm_G G9 (v := .ref 91) (by k_dflt k_is) (N_callR ?_))
            first | (with_reducible refine Calls.spliced_cons (nm_L F'.ns rfl (Calls.spliced_cons (nm_L F'.ns rfl (Calls.spliced_cons (nm_F rfl (hcz'.keeps F'.keep) (Calls.spliced_nil ?_))))))) | refine Calls.spliced_cons (nm_L F'.ns rfl (Calls.spliced_cons (nm_L F'.ns rfl (Calls.spliced_cons (nm_F rfl (hcz'.keeps F'.keep) (Calls.spliced_nil ?_))))))
            first | (with_reducible refine Halt.mk ⟨Gd.fn G9 (exFn91 w), ?_⟩) | refine Halt.mk ⟨Gd.fn G9 (exFn91 w), ?_⟩
            dsimp only [List.nil_append]
            first | (with_reducible refine N_any (read_k (R := R') G9 (r'.to (by decide)) (hR'.stays F'.keep) hsta hok.1 hok.2.1 (by omega) (by omega) hok.2.2 fun a9 M9 h9 tk9 k9 D9 S9 => ?_)) | refine N_any (read_k (R := R') G9 (r'.to (by decide)) (hR'.stays F'.keep) hsta hok.1 hok.2.1 (by omega) (by omega) hok.2.2 fun a9 M9 h9 tk9 k9 D9 S9 => ?_)
            first | (with_reducible refine hQ' _ M9 h9 tk9 (fun b o e => k9 b o (F'.keep b o e)) (fun p hp => ⟨(D9 p hp).1, stays_none F'.keep (D9 p hp).2⟩) ⟨a9, rfl, ?_⟩) | refine hQ' _ M9 h9 tk9 (fun b o e => k9 b o (F'.keep b o e)) (fun p hp => ⟨(D9 p hp).1, stays_none F'.keep (D9 p hp).2⟩) ⟨a9, rfl, ?_⟩
            rw [rdAt_succ hci]
            exact S9
          · intro v9 M9 h9 tk9 k9 D9 A9
            first | (with_reducible refine Exists.elim A9 fun a q => ?_) | refine Exists.elim A9 fun a q => ?_
            have e3 := q.1
            subst e3
            have F9 := Fr.grow F8 k9
            have N9 := made_news F8 N8 k9 D9
            have N9r := made_news F8 N8r k9 D9
            first | (with_reducible refine ex_mk F9 N9r (fun p hp => N9 p (List.mem_append_right _ (.tail _ (.tail _ (List.mem_append_left _ hp))))) (fun p hp q hq => ?_) ⟨fun p hp => List.mem_append_right _ (.tail _ (.tail _ (hsub p hp))), .inr ?_, ?_⟩) | refine ex_mk F9 N9r (fun p hp => N9 p (List.mem_append_right _ (.tail _ (.tail _ (List.mem_append_left _ hp))))) (fun p hp q hq => ?_) ⟨fun p hp => List.mem_append_right _ (.tail _ (.tail _ (hsub p hp))), .inr ?_, ?_⟩
            · rcases List.mem_append.mp hp with hp | hp
              · intro e
                have z1 := (D9 p hp).2
                have z2 := (N8 q (.tail _ (.tail _ (List.mem_append_left _ hq)))).1
                rw [← e] at z2
                rw [show hB.get? p.1 = none from z1] at z2
                cases z2
              rcases List.mem_cons.mp hp with rfl | hp
              · exact Nat.ne_of_gt (hne8 q hq).2
              rcases List.mem_cons.mp hp with rfl | hp
              · exact Nat.ne_of_gt (hne8 q hq).1
              rcases HK.out.1 p hp with z | z
              · exact Exists.elim z fun o ho => HK.out.2.1 _ ho q hq
              · intro e
                first | (with_reducible refine Exists.elim (HK.out.2.2.1 q hq) fun o e4 => ?_) | refine Exists.elim (HK.out.2.2.1 q hq) fun o e4 => ?_
                rw [← e] at e4
                rw [show h.get? p.1 = none from z] at e4
                cases e4
            · first | (with_reducible refine Exists.elim hTE fun c9 q => Exists.elim q fun o9 q => Exists.elim q fun v9 q => Exists.elim q fun t9 q => ?_) | refine Exists.elim hTE fun c9 q => Exists.elim q fun o9 q => Exists.elim q fun v9 q => Exists.elim q fun t9 q => ?_
              exact ⟨c9, o9, v9, t9, List.mem_append_right _ (.tail _ (.tail _ q.1)), List.mem_append_right _ (.tail _ (.tail _ q.2.1)), q.2.2⟩
            · have hsi : sts[i]? = some (rdAt bs.length wb.toList wb.size) := by rw [← hsts, List.getElem?_map, hwi]; rfl
              rw [List.take_add_one, hsi]
              first | (with_reducible refine RefsAre.snoc (hJ6.2.2.mono fun a its x => .right (.tail (.tail (HK.out.2.2.2 a its x)))) (q.2.mono fun a its x => x.elim .left fun x => .right x)) | refine RefsAre.snoc (hJ6.2.2.mono fun a its x => .right (.tail (.tail (HK.out.2.2.2 a its x)))) (q.2.mono fun a its x => x.elim .left fun x => .right x)
        · intro zs rest5 De oDe h6 tk6 hzs hJ6 hec hed F6 N6
          dsimp only
          have hstsl : sts.length = 2 := by rw [← hsts, List.length_map, hwrs2]
          have hsz2 : ys.toArray.size = 2 := by rw [List.size_toArray, hysB.length, hwrs2]
          have hRd : RefsAre (ML ((De, oDe) :: rest5)) zs sts := by
            have q := hJ6.2.2
            rw [hsz2, List.take_of_length_le (by omega)] at q
            exact q.mono fun _ _ x => .tail x
          first | (with_reducible refine N_cons (N_compL (l := Dw) (items := ys.toArray) (fun i us rest => (∀ p ∈ (De, oDe) :: rest5, p ∈ rest) ∧ RefsAre (ML rest) us (sts.take i)) rfl rfl (by decide) rfl (by decide) rfl rfl rfl r.hd (by rw [hsz2]; decide) (fun _ => rfl) ?_ F6 N6 ⟨fun p hp => hp, rfl, ?_⟩ ?_ ?_ ?_)) | refine N_cons (N_compL (l := Dw) (items := ys.toArray) (fun i us rest => (∀ p ∈ (De, oDe) :: rest5, p ∈ rest) ∧ RefsAre (ML rest) us (sts.take i)) rfl rfl (by decide) rfl (by decide) rfl rfl rfl r.hd (by rw [hsz2]; decide) (fun _ => rfl) ?_ F6 N6 ⟨fun p hp => hp, rfl, ?_⟩ ?_ ?_ ?_)
          · exact nm_L F6.ns rfl ⟨rfl, rfl⟩
          · intro j v st h1; simp at h1
          · intro i us rest6 h hJ7 Nh _
            exact ⟨oDw, (Nh _ (hJ7.1 _ (.tail _ (hJ6.1 _ (.tail _ nDw0))))).1, hwc, nw, hwd⟩
          · intro i v us rest6 own C m₂ h tk7 hv hus hJ7 F7 N7 hns hmr hC hdis
            have Gh : Gd w h := Gg.keeps F7.keep
            have N7r : News g L h rest6 := News.right N7
            have hcz : h.IsCell (L + 1) (some (.int bs.length tz)) := ⟨_, (N7r _ (hJ7.1 _ (.tail _ (hJ6.1 _ (.tail _ nz))))).1, hocz⟩
            first | (with_reducible refine Exists.elim (hysB.at i v (by simpa using hv)) fun wb q => Exists.elim q fun tw q => ?_) | refine Exists.elim (hysB.at i v (by simpa using hv)) fun wb q => Exists.elim q fun tw q => ?_
            have e2 := q.1
            subst e2
            have hwi := q.2
            have hrdb := hrd wb (List.mem_of_getElem? hwi)
            clear q hv
            first | (with_reducible refine N_Subscript (N_Call (nm_G Gh (v := .ref 112) (by k_dflt k_is) (N_callR ?_)))) | refine N_Subscript (N_Call (nm_G Gh (v := .ref 112) (by k_dflt k_is) (N_callR ?_)))
            first | (with_reducible refine Calls.spliced_cons (nm_L hns hmr (Calls.spliced_cons (nm_C rfl hcz (Calls.spliced_nil ?_))))) | refine Calls.spliced_cons (nm_L hns hmr (Calls.spliced_cons (nm_C rfl hcz (Calls.spliced_nil ?_))))
            first | (with_reducible refine Halt.mk ⟨Gd.fn Gh (exFn112 w), ?_⟩) | refine Halt.mk ⟨Gd.fn Gh (exFn112 w), ?_⟩
            dsimp only [List.nil_append]
            first | (with_reducible refine N_any (states_k Gh (r.to (by decide)) hrdb.1 (by omega) (by omega) (by omega) fun a9 M9 h9 tk9 k9 D9 S9 => ?_)) | refine N_any (states_k Gh (r.to (by decide)) hrdb.1 (by omega) (by omega) (by omega) fun a9 M9 h9 tk9 k9 D9 S9 => ?_)
            have F9 := Fr.grow F7 k9
            have N9r := made_news F7 N7r k9 D9
            have N9 := News.grow N7 k9
            first | (with_reducible refine Exists.elim S9 fun as hS => ?_) | refine Exists.elim S9 fun as hS => ?_
            first | (with_reducible refine Exists.elim (sts_last hS.2.1 hS.2.2) fun al hal => ?_) | refine Exists.elim (sts_last hS.2.1 hS.2.2) fun al hal => ?_
            have hI9 := ML.at N9r _ _ (ML.left hS.1)
            have HK := Halt.mk (And.intro hdis D9)
            clear D9 k9 hdis
            (k_steps; all_goals (repeat' (first | ((with_reducible refine unstop ?_); (first | (with_reducible (first | ((k_here; (with_reducible show wpAny _ _ (assign (Expr.Tuple _ _ _) _ (Value.ref _)) _ _ _); ( k_dflt (refine' unpackN_ ?k1 ?k2 ?k3 ?k4 ?k5 ?k6 ?_; (case k1 => k_asm); (case k2 => k_asm); (case k3 => kun_tup); (case k4 => exact Rm.hd (Rm.to (m := 0) (by with_reducible assumption) (by decide))); (case k5 => exact rfl); (case k6 => exact rfl); k_whole)); intro zzh' zzF' zzN'; (try k_sweep))) | ((k_here; (with_reducible refine pow_int_small ?kb1 ?kb2 ?kb3 ?_); (case kb1 => decide); (case kb2 => decide); (case kb3 => decide))) | fail)) ); k_steps) | fail)))
            first | (with_reducible refine item_lastA hI9 (by rw [List.size_toArray, List.length_map, hS.2.1, rdAll_length]; omega) hal.1 ?_) | refine item_lastA hI9 (by rw [List.size_toArray, List.length_map, hS.2.1, rdAll_length]; omega) hal.1 ?_
            first | (with_reducible refine ex_mk F9 N9r (newsLeft N9) (fun p hp q hq => ?_) ⟨fun p hp => List.mem_append_right _ (hJ7.1 p hp), ?_⟩) | refine ex_mk F9 N9r (newsLeft N9) (fun p hp q hq => ?_) ⟨fun p hp => List.mem_append_right _ (hJ7.1 p hp), ?_⟩
            · rcases List.mem_append.mp hp with hp | hp
              · intro e
                have z1 := (HK.out.2 p hp).2
                have z2 := (N7 q (List.mem_append_left _ hq)).1
                rw [← e] at z2
                rw [show h.get? p.1 = none from z1] at z2
                cases z2
              · exact HK.out.1 p hp q hq
            · have hsi : sts[i]? = some (rdAt bs.length wb.toList wb.size) := by rw [← hsts, List.getElem?_map, hwi]; rfl
              rw [List.take_add_one, hsi]
              exact RefsAre.snoc (hJ7.2.mono fun a its x => .right x) (hal.2.mono fun a its x => .left x)
          · intro us rest6 Dp oDp h7 tk7 hus hJ7 hpc hpd F7 N7
            dsimp only
            have hPl : RefsAre (ML ((Dp, oDp) :: rest6)) us sts := by
              have q := hJ7.2
              rw [hsz2, List.take_of_length_le (by omega)] at q
              exact q.mono fun _ _ x => .tail x
            have hRd2 : RefsAre (ML ((Dp, oDp) :: rest6)) zs sts := hRd.mono fun _ _ x => .tail (ML.mono hJ7.1 x)
            have hns1 : sts.map (·.ns) = [row1, row2] := (sts_ok hrow1.2 hrow2.2 hW hsts).1
            have hp0 : ∀ st ∈ sts, st.p = 0 := (sts_ok hrow1.2 hrow2.2 hW hsts).2
            first | (with_reducible refine Exists.elim hpd fun npl hpd => ?_) | refine Exists.elim hpd fun npl hpd => ?_
            first | (with_reducible refine N_cons (N_If ?_)) | refine N_cons (N_If ?_)
            (k_steps; all_goals (repeat' (first | ((with_reducible refine unstop ?_); (first | (with_reducible (first | ((k_here; (with_reducible show wpAny _ _ (assign (Expr.Tuple _ _ _) _ (Value.ref _)) _ _ _); ( k_dflt (refine' unpackN_ ?k1 ?k2 ?k3 ?k4 ?k5 ?k6 ?_; (case k1 => k_asm); (case k2 => k_asm); (case k3 => kun_tup); (case k4 => exact Rm.hd (Rm.to (m := 0) (by with_reducible assumption) (by decide))); (case k5 => exact rfl); (case k6 => exact rfl); k_whole)); intro zzh' zzF' zzN'; (try k_sweep))) | ((k_here; (with_reducible refine pow_int_small ?kb1 ?kb2 ?kb3 ?_); (case kb1 => decide); (case kb2 => decide); (case kb3 => decide))) | fail)) ); k_steps) | fail)))
            unfold Stop
            (with_reducible rename News _ _ _ _ => Nt0)
            (with_reducible rename Fr _ _ _ _ => Ft0)
            first | (with_reducible refine comp_list Ft0 (pF := isItem (ML ((Dp, oDp) :: rest6)) 0) r.hd rfl (by decide) rfl (by decide) rfl ?_ (fun _ => rfl)) | refine comp_list Ft0 (pF := isItem (ML ((Dp, oDp) :: rest6)) 0) r.hd rfl (by decide) rfl (by decide) rfl ?_ (fun _ => rfl)
            first | (with_reducible refine nm_L Ft0.ns rfl ?_) | refine nm_L Ft0.ns rfl ?_
            first | (with_reducible refine Halt.mk ⟨Dp, us.toArray, _, rfl, Ft0, Nt0, ML.at Nt0 _ _ ?_, by rw [List.size_toArray, hPl.1]; omega, ?_, ?_⟩) | refine Halt.mk ⟨Dp, us.toArray, _, rfl, Ft0, Nt0, ML.at Nt0 _ _ ?_, by rw [List.size_toArray, hPl.1]; omega, ?_, ?_⟩
            · exact ⟨oDp, .head _, hpc, npl, hpd⟩
            · intro C i v s₂ m₂ E' hv hns hm hk
              first | (with_reducible refine Exists.elim (hPl.at (by simpa using hv)) fun a q => Exists.elim q fun st q => ?_) | refine Exists.elim (hPl.at (by simpa using hv)) fun a q => Exists.elim q fun st q => ?_
              have e2 := q.1
              subst e2
              first | (with_reducible refine Exists.elim q.2.2 fun ln q => Exists.elim q fun t1 q => Exists.elim q fun t2 q => Exists.elim q fun t3 q => Exists.elim q fun t4 q => ?_) | refine Exists.elim q.2.2 fun ln q => Exists.elim q fun t1 q => Exists.elim q fun t2 q => Exists.elim q fun t3 q => Exists.elim q fun t4 q => ?_
              have hq := q.1
              have hI : s₂.heap.IsList a #[.ref ln, .int st.v t1, .int st.w t2, .int st.p t3, .int st.b t4] := stays_list hk (ML.at Nt0 _ _ (hq))
              clear q hv
              (k_steps; all_goals (repeat' (first | ((with_reducible refine unstop ?_); (first | (with_reducible (first | ((k_here; (with_reducible show wpAny _ _ (assign (Expr.Tuple _ _ _) _ (Value.ref _)) _ _ _); ( k_dflt (refine' unpackN_ ?k1 ?k2 ?k3 ?k4 ?k5 ?k6 ?_; (case k1 => k_asm); (case k2 => k_asm); (case k3 => kun_tup); (case k4 => exact Rm.hd (Rm.to (m := 0) (by with_reducible assumption) (by decide))); (case k5 => exact rfl); (case k6 => exact rfl); k_whole)); intro zzh' zzF' zzN'; (try k_sweep))) | ((k_here; (with_reducible refine pow_int_small ?kb1 ?kb2 ?kb3 ?_); (case kb1 => decide); (case kb2 => decide); (case kb3 => decide))) | fail)) ); k_steps) | fail)))
              · exact ⟨a, _, rfl, hq, rfl⟩
              · exact keeps_tok rfl
            intro Dt0 yt0 nt0 ht0 tkt0 Fu0 Nu0 hpa0
            clear Nt0 Ft0
            have hst2 : ∃ st1 st2, sts = [st1, st2] ∧ st1.ns = row1 ∧ st2.ns = row2 ∧ st1.p = 0 ∧ st2.p = 0 := two_states hstsl hns1 hp0
            first | (with_reducible refine Exists.elim hst2 fun st1 q => Exists.elim q fun st2 q => ?_) | refine Exists.elim hst2 fun st1 q => Exists.elim q fun st2 q => ?_
            have est := q.1
            have er1 := q.2.1
            have er2 := q.2.2.1
            have ep1 := q.2.2.2.1
            have ep2 := q.2.2.2.2
            clear q hst2
            have hPl2 := hPl
            have hRd3 := hRd2
            rw [est] at hPl2 hRd3
            first | (with_reducible refine Exists.elim hPl2.two fun ap1 q => Exists.elim q fun ap2 q => ?_) | refine Exists.elim hPl2.two fun ap1 q => Exists.elim q fun ap2 q => ?_
            have eus := q.1
            have sp1 := q.2.1
            have sp2 := q.2.2
            clear q
            have N7at : Rd.At (ML ((Dp, oDp) :: rest6)) ht0 := fun a its x => ML.at Nu0 a its (.tail x)
            have hpa0' : Paired (isItem (ML ((Dp, oDp) :: rest6)) 0) [.ref ap1, .ref ap2] yt0.toList := by rw [← eus]; simpa using hpa0
            first | (with_reducible refine Exists.elim (Paired.two hpa0') fun y1 q => Exists.elim q fun y2 q => ?_) | refine Exists.elim (Paired.two hpa0') fun y1 q => Exists.elim q fun y2 q => ?_
            first | (with_reducible refine Exists.elim (item0 N7at sp1 q.2.1) fun ln1 w1 => Exists.elim (item0 N7at sp2 q.2.2) fun ln2 w2 => ?_) | refine Exists.elim (item0 N7at sp1 q.2.1) fun ln1 w1 => Exists.elim (item0 N7at sp2 q.2.2) fun ln2 w2 => ?_
            have eyt : yt0 = #[.ref ln1, .ref ln2] := by
              apply Array.ext'
              rw [q.1, w1.1, w2.1]
            have hDt : ht0.IsList Dt0 #[.ref ln1, .ref ln2] := eyt ▸ ML.at Nu0 _ _ ⟨_, .head _, rfl, _, rfl⟩
            have hDr0 : ht0.IsList Dr #[.ref D1, .ref D2] := ML.at Nu0 _ _ (.tail (.tail ⟨_, hJ7.1 _ (.tail _ (hJ6.1 _ (.tail _ nDr))), rfl, _, rfl⟩))
            have hD10 : IntsR ht0.IsList D1 row1 := ⟨ws1, ML.at Nu0 _ _ (.tail (.tail ⟨_, hJ7.1 _ (.tail _ (hJ6.1 _ (.tail _ nD1))), rfl, _, rfl⟩)), I1⟩
            have hD20 : IntsR ht0.IsList D2 row2 := ⟨ws2, ML.at Nu0 _ _ (.tail (.tail ⟨_, hJ7.1 _ (.tail _ (hJ6.1 _ (.tail _ nD2))), rfl, _, rfl⟩)), I2⟩
            first | (with_reducible refine nm_L Fu0.ns hm2 ?_) | refine nm_L Fu0.ns hm2 ?_
            refine ne_rows hDt hDr0 (er1 ▸ w1.2.mono N7at) (er2 ▸ w2.2.mono N7at) hD10 hD20 (Rm.units (r.to (m := 0) (by decide))) ?_
            clear hpa0 hpa0' q w1 w2 hDt hDr0 hD10 hD20 N7at
            (k_steps; all_goals (repeat' (first | ((with_reducible refine unstop ?_); (first | (with_reducible (first | ((k_here; (with_reducible show wpAny _ _ (assign (Expr.Tuple _ _ _) _ (Value.ref _)) _ _ _); ( k_dflt (refine' unpackN_ ?k1 ?k2 ?k3 ?k4 ?k5 ?k6 ?_; (case k1 => k_asm); (case k2 => k_asm); (case k3 => kun_tup); (case k4 => exact Rm.hd (Rm.to (m := 0) (by with_reducible assumption) (by decide))); (case k5 => exact rfl); (case k6 => exact rfl); k_whole)); intro zzh' zzF' zzN'; (try k_sweep))) | ((k_here; (with_reducible refine pow_int_small ?kb1 ?kb2 ?kb3 ?_); (case kb1 => decide); (case kb2 => decide); (case kb3 => decide))) | fail)) ); k_steps) | fail)))
            unfold Stop
            (with_reducible rename News _ _ _ _ => Nt30)
            have Nt3 : News g L _ ((Dp, oDp) :: rest6) := fun p hp => Nt30 p (.tail _ hp)
            clear Nt30
            (with_reducible rename Fr _ _ _ _ => Ft3)
            first | (with_reducible refine comp_list Ft3 (pF := isItem (ML ((Dp, oDp) :: rest6)) 3) r.hd rfl (by decide) rfl (by decide) rfl ?_ (fun _ => rfl)) | refine comp_list Ft3 (pF := isItem (ML ((Dp, oDp) :: rest6)) 3) r.hd rfl (by decide) rfl (by decide) rfl ?_ (fun _ => rfl)
            first | (with_reducible refine nm_L Ft3.ns rfl ?_) | refine nm_L Ft3.ns rfl ?_
            first | (with_reducible refine Halt.mk ⟨Dp, us.toArray, _, rfl, Ft3, Nt3, ML.at Nt3 _ _ ?_, by rw [List.size_toArray, hPl.1]; omega, ?_, ?_⟩) | refine Halt.mk ⟨Dp, us.toArray, _, rfl, Ft3, Nt3, ML.at Nt3 _ _ ?_, by rw [List.size_toArray, hPl.1]; omega, ?_, ?_⟩
            · exact ⟨oDp, .head _, hpc, npl, hpd⟩
            · intro C i v s₂ m₂ E' hv hns hm hk
              first | (with_reducible refine Exists.elim (hPl.at (by simpa using hv)) fun a q => Exists.elim q fun st q => ?_) | refine Exists.elim (hPl.at (by simpa using hv)) fun a q => Exists.elim q fun st q => ?_
              have e2 := q.1
              subst e2
              first | (with_reducible refine Exists.elim q.2.2 fun ln q => Exists.elim q fun t1 q => Exists.elim q fun t2 q => Exists.elim q fun t3 q => Exists.elim q fun t4 q => ?_) | refine Exists.elim q.2.2 fun ln q => Exists.elim q fun t1 q => Exists.elim q fun t2 q => Exists.elim q fun t3 q => Exists.elim q fun t4 q => ?_
              have hq := q.1
              have hI : s₂.heap.IsList a #[.ref ln, .int st.v t1, .int st.w t2, .int st.p t3, .int st.b t4] := stays_list hk (ML.at Nt3 _ _ hq)
              clear q hv
              (k_steps; all_goals (repeat' (first | ((with_reducible refine unstop ?_); (first | (with_reducible (first | ((k_here; (with_reducible show wpAny _ _ (assign (Expr.Tuple _ _ _) _ (Value.ref _)) _ _ _); ( k_dflt (refine' unpackN_ ?k1 ?k2 ?k3 ?k4 ?k5 ?k6 ?_; (case k1 => k_asm); (case k2 => k_asm); (case k3 => kun_tup); (case k4 => exact Rm.hd (Rm.to (m := 0) (by with_reducible assumption) (by decide))); (case k5 => exact rfl); (case k6 => exact rfl); k_whole)); intro zzh' zzF' zzN'; (try k_sweep))) | ((k_here; (with_reducible refine pow_int_small ?kb1 ?kb2 ?kb3 ?_); (case kb1 => decide); (case kb2 => decide); (case kb3 => decide))) | fail)) ); k_steps) | fail)))
              · exact ⟨a, _, rfl, hq, rfl⟩
              · exact keeps_tok rfl
            intro Dt3 yt3 nt3 ht3 tkt3 Fu3 Nu3 hpa3
            clear Nt3 Ft3
            have N8at : Rd.At (ML ((Dp, oDp) :: rest6)) ht3 := fun a its x => ML.at Nu3 a its (.tail x)
            have hpa3' : Paired (isItem (ML ((Dp, oDp) :: rest6)) 3) [.ref ap1, .ref ap2] yt3.toList := by rw [← eus]; simpa using hpa3
            first | (with_reducible refine Exists.elim (Paired.two hpa3') fun y1 q => Exists.elim q fun y2 q => ?_) | refine Exists.elim (Paired.two hpa3') fun y1 q => Exists.elim q fun y2 q => ?_
            first | (with_reducible refine Exists.elim (item3 N8at sp1 q.2.1) fun u1 w1 => Exists.elim (item3 N8at sp2 q.2.2) fun u2 w2 => ?_) | refine Exists.elim (item3 N8at sp1 q.2.1) fun u1 w1 => Exists.elim (item3 N8at sp2 q.2.2) fun u2 w2 => ?_
            have eyt3 : IntsAre yt3.toList [0, 0] := by
              rw [q.1, w1, w2, ep1, ep2]
              exact .cons _ _ (.cons _ _ .nil)
            clear hpa3 hpa3' q w1 w2 N8at
            (k_steps; all_goals (repeat' (first | ((with_reducible refine unstop ?_); (first | (with_reducible (first | ((k_here; (with_reducible show wpAny _ _ (assign (Expr.Tuple _ _ _) _ (Value.ref _)) _ _ _); ( k_dflt (refine' unpackN_ ?k1 ?k2 ?k3 ?k4 ?k5 ?k6 ?_; (case k1 => k_asm); (case k2 => k_asm); (case k3 => kun_tup); (case k4 => exact Rm.hd (Rm.to (m := 0) (by with_reducible assumption) (by decide))); (case k5 => exact rfl); (case k6 => exact rfl); k_whole)); intro zzh' zzF' zzN'; (try k_sweep))) | ((k_here; (with_reducible refine pow_int_small ?kb1 ?kb2 ?kb3 ?_); (case kb1 => decide); (case kb2 => decide); (case kb3 => decide))) | fail)) ); k_steps) | fail)))
            unfold Stop
            (with_reducible rename News _ _ _ _ => Nv)
            (with_reducible rename Fr _ _ _ _ => Fv)
            first | (with_reducible refine ke_ne_ints (xs := yt3.toList) (ys := [_, _]) (ns := [0, 0]) (ms := [0, 0]) (ML.at Nv _ _ ⟨_, .tail _ (.head _), rfl, _, rfl⟩) (ML.at Nv _ _ ⟨_, .head _, rfl, _, rfl⟩) eyt3 (.cons _ _ (.cons _ _ .nil)) (Rm.units (r.to (m := 0) (by decide))) ?_) | refine ke_ne_ints (xs := yt3.toList) (ys := [_, _]) (ns := [0, 0]) (ms := [0, 0]) (ML.at Nv _ _ ⟨_, .tail _ (.head _), rfl, _, rfl⟩) (ML.at Nv _ _ ⟨_, .head _, rfl, _, rfl⟩) eyt3 (.cons _ _ (.cons _ _ .nil)) (Rm.units (r.to (m := 0) (by decide))) ?_
            clear eyt3
            (k_steps; all_goals (repeat' (first | ((with_reducible refine unstop ?_); (first | (with_reducible (first | ((k_here; (with_reducible show wpAny _ _ (assign (Expr.Tuple _ _ _) _ (Value.ref _)) _ _ _); ( k_dflt (refine' unpackN_ ?k1 ?k2 ?k3 ?k4 ?k5 ?k6 ?_; (case k1 => k_asm); (case k2 => k_asm); (case k3 => kun_tup); (case k4 => exact Rm.hd (Rm.to (m := 0) (by with_reducible assumption) (by decide))); (case k5 => exact rfl); (case k6 => exact rfl); k_whole)); intro zzh' zzF' zzN'; (try k_sweep))) | ((k_here; (with_reducible refine pow_int_small ?kb1 ?kb2 ?kb3 ?_); (case kb1 => decide); (case kb2 => decide); (case kb3 => decide))) | fail)) ); k_steps) | fail)))
            first | (with_reducible refine N_nil ?_) | refine N_nil ?_
            dsimp only
            first | (with_reducible refine N_consA ?_) | refine N_consA ?_
            (k_steps; all_goals (repeat' (first | ((with_reducible refine unstop ?_); (first | (with_reducible (first | ((k_here; (with_reducible show wpAny _ _ (assign (Expr.Tuple _ _ _) _ (Value.ref _)) _ _ _); ( k_dflt (refine' unpackN_ ?k1 ?k2 ?k3 ?k4 ?k5 ?k6 ?_; (case k1 => k_asm); (case k2 => k_asm); (case k3 => kun_tup); (case k4 => exact Rm.hd (Rm.to (m := 0) (by with_reducible assumption) (by decide))); (case k5 => exact rfl); (case k6 => exact rfl); k_whole)); intro zzh' zzF' zzN'; (try k_sweep))) | ((k_here; (with_reducible refine pow_int_small ?kb1 ?kb2 ?kb3 ?_); (case kb1 => decide); (case kb2 => decide); (case kb3 => decide))) | fail)) ); k_steps) | fail)))
            unfold Stop
            (with_reducible rename News _ _ _ _ => Nw)
            (with_reducible rename Fr _ _ _ _ => Fw)
            have Nx : News g L _ ((Dp, oDp) :: rest6) := fun p hp => Nw p (.tail _ (.tail _ hp))
            clear Nw
            have mDw := hJ7.1 _ (.tail _ (hJ6.1 _ (.tail _ nDw0)))
            have mDf := hJ7.1 _ (.tail _ (hJ6.1 _ (.head _)))
            have mDe := hJ7.1 (De, oDe) (.head _)
            have hys3B : BytesAre ys3 wrs := by
              have q := hJ3.2.2
              rw [List.take_of_length_le (by rw [hwrs2]; simp)] at q
              exact q
            first | (with_reducible refine Exists.elim hfd fun nf hfd => ?_) | refine Exists.elim hfd fun nf hfd => ?_
            first | (with_reducible refine Exists.elim hed fun ne hed => ?_) | refine Exists.elim hed fun ne hed => ?_
            first | (with_reducible refine eq_wrs (xs := ys3) (ys := ys) (bs := wrs) ⟨oDf, (Nx _ (.tail _ mDf)).1, hfc, nf, hfd⟩ ⟨oDw, (Nx _ (.tail _ mDw)).1, hwc, nw, hwd⟩ hys3B hysB (by have := Rm.units (r.to (m := 0) (env := (envOfC "law" default L 131 (.ref 130))) (by decide)); exact Nat.lt_of_le_of_lt (Nat.le_add_right _ _) this) ?_) | refine eq_wrs (xs := ys3) (ys := ys) (bs := wrs) ⟨oDf, (Nx _ (.tail _ mDf)).1, hfc, nf, hfd⟩ ⟨oDw, (Nx _ (.tail _ mDw)).1, hwc, nw, hwd⟩ hys3B hysB (by have := Rm.units (r.to (m := 0) (env := (envOfC "law" default L 131 (.ref 130))) (by decide)); exact Nat.lt_of_le_of_lt (Nat.le_add_right _ _) this) ?_
            (k_steps; all_goals (repeat' (first | ((with_reducible refine unstop ?_); (first | (with_reducible (first | ((k_here; (with_reducible show wpAny _ _ (assign (Expr.Tuple _ _ _) _ (Value.ref _)) _ _ _); ( k_dflt (refine' unpackN_ ?k1 ?k2 ?k3 ?k4 ?k5 ?k6 ?_; (case k1 => k_asm); (case k2 => k_asm); (case k3 => kun_tup); (case k4 => exact Rm.hd (Rm.to (m := 0) (by with_reducible assumption) (by decide))); (case k5 => exact rfl); (case k6 => exact rfl); k_whole)); intro zzh' zzF' zzN'; (try k_sweep))) | ((k_here; (with_reducible refine pow_int_small ?kb1 ?kb2 ?kb3 ?_); (case kb1 => decide); (case kb2 => decide); (case kb3 => decide))) | fail)) ); k_steps) | fail)))
            unfold Stop
            first | (with_reducible refine Exists.elim hRd3.two fun az1 q => Exists.elim q fun az2 q => ?_) | refine Exists.elim hRd3.two fun az1 q => Exists.elim q fun az2 q => ?_
            have ezs := q.1
            have sz1 := q.2.1
            have sz2 := q.2.2
            clear q
            have Nxat : Rd.At (ML ((Dp, oDp) :: rest6)) _ := ML.at Nx
            first | (with_reducible refine eq_states (st1 := st1) (st2 := st2) (a1 := az1) (a2 := az2) (b1 := ap1) (b2 := ap2) ⟨oDe, (Nx _ (.tail _ mDe)).1, hec, ne, by rw [hed, ezs]⟩ ⟨oDp, (Nx _ (.head _)).1, hpc, npl, by rw [hpd, eus]⟩ (sz1.mono Nxat) (sz2.mono Nxat) (sp1.mono Nxat) (sp2.mono Nxat) (Rm.units (r.to (m := 0) (by decide))) ?_) | refine eq_states (st1 := st1) (st2 := st2) (a1 := az1) (a2 := az2) (b1 := ap1) (b2 := ap2) ⟨oDe, (Nx _ (.tail _ mDe)).1, hec, ne, by rw [hed, ezs]⟩ ⟨oDp, (Nx _ (.head _)).1, hpc, npl, by rw [hpd, eus]⟩ (sz1.mono Nxat) (sz2.mono Nxat) (sp1.mono Nxat) (sp2.mono Nxat) (Rm.units (r.to (m := 0) (by decide))) ?_
            clear Nxat
            (k_steps; all_goals (repeat' (first | ((with_reducible refine unstop ?_); (first | (with_reducible (first | ((k_here; (with_reducible show wpAny _ _ (assign (Expr.Tuple _ _ _) _ (Value.ref _)) _ _ _); ( k_dflt (refine' unpackN_ ?k1 ?k2 ?k3 ?k4 ?k5 ?k6 ?_; (case k1 => k_asm); (case k2 => k_asm); (case k3 => kun_tup); (case k4 => exact Rm.hd (Rm.to (m := 0) (by with_reducible assumption) (by decide))); (case k5 => exact rfl); (case k6 => exact rfl); k_whole)); intro zzh' zzF' zzN'; (try k_sweep))) | ((k_here; (with_reducible refine pow_int_small ?kb1 ?kb2 ?kb3 ?_); (case kb1 => decide); (case kb2 => decide); (case kb3 => decide))) | fail)) ); k_steps) | fail)))
            have hag : AgOk bs (giL bs.length 0 72 row1).toArray := agOk_row hb3 hb128 hr15.1 hr15.2
            have hys0 : ∃ tw0 rst, ys = .bytes (giL bs.length 0 72 row1).toArray tw0 :: rst := by
              have q := hysB
              rw [← hW] at q
              cases q with
              | cons b t r => exact ⟨t, _, rfl⟩
            first | (with_reducible refine Exists.elim hys0 fun tw0 q => Exists.elim q fun rst eys => ?_) | refine Exists.elim hys0 fun tw0 q => Exists.elim q fun rst eys => ?_
            clear q hys0
            (with_reducible rename Fr _ _ _ _ => Fy)
            have hDw0 := ML.at Nx Dw (List.toArray (.bytes (giL bs.length 0 72 row1).toArray tw0 :: rst)) (.tail ⟨oDw, mDw, hwc, nw, by rw [hwd, eys]⟩)
            first | (with_reducible refine nm_L Fy.ns hm1 ?_) | refine nm_L Fy.ns hm1 ?_
            (k_steps; all_goals (repeat' (first | ((with_reducible refine unstop ?_); (first | (with_reducible (first | ((k_here; (with_reducible show wpAny _ _ (assign (Expr.Tuple _ _ _) _ (Value.ref _)) _ _ _); ( k_dflt (refine' unpackN_ ?k1 ?k2 ?k3 ?k4 ?k5 ?k6 ?_; (case k1 => k_asm); (case k2 => k_asm); (case k3 => kun_tup); (case k4 => exact Rm.hd (Rm.to (m := 0) (by with_reducible assumption) (by decide))); (case k5 => exact rfl); (case k6 => exact rfl); k_whole)); intro zzh' zzF' zzN'; (try k_sweep))) | ((k_here; (with_reducible refine pow_int_small ?kb1 ?kb2 ?kb3 ?_); (case kb1 => decide); (case kb2 => decide); (case kb3 => decide))) | fail)) ); k_steps) | fail)))
            unfold Stop
            have K0 : Below A g [] g := ⟨hA, fun _ _ e => e, trivial⟩
            first | (with_reducible refine agree_k Gg (pushX K0 Fy rfl rfl) (r.to (by decide)) hag fun h9 tk9 U9 => ?_) | refine agree_k Gg (pushX K0 Fy rfl rfl) (r.to (by decide)) hag fun h9 tk9 U9 => ?_
            have U9' : Up (frs [envOf default default L default default]) _ h9 := U9
            first | (with_reducible refine Exists.elim (up_fr K0 Fy Nx U9') fun g9 q => ?_) | refine Exists.elim (up_fr K0 Fy Nx U9') fun g9 q => ?_
            first | (with_reducible refine hQ _ _ (fun b o e => q.2.2.1.keep b o (q.1.other b o e (fun hm => nomatch hm))) ?_) | refine hQ _ _ (fun b o e => q.2.2.1.keep b o (q.1.other b o e (fun hm => nomatch hm))) ?_
            rcases hJ6.2.1 with z | z
            · exact ⟨_, (q.2.2.2 _ (.tail _ (hJ7.1 _ (.tail _ z)))).1⟩
            · exact Exists.elim z fun c9 z => Exists.elim z fun o9 z => Exists.elim z fun v9 z => Exists.elim z fun t9 z => ⟨_, (q.2.2.2 _ (.tail _ (hJ7.1 _ (.tail _ z.1)))).1⟩
  · intro HT
    first | (with_reducible refine N_consA ?_) | refine N_consA ?_
    (k_steps; all_goals (repeat' (first | ((with_reducible refine unstop ?_); (first | (with_reducible (first | ((k_here; (with_reducible show wpAny _ _ (assign (Expr.Tuple _ _ _) _ (Value.ref _)) _ _ _); ( k_dflt (refine' unpackN_ ?k1 ?k2 ?k3 ?k4 ?k5 ?k6 ?_; (case k1 => k_asm); (case k2 => k_asm); (case k3 => kun_tup); (case k4 => exact Rm.hd (Rm.to (m := 0) (by with_reducible assumption) (by decide))); (case k5 => exact rfl); (case k6 => exact rfl); k_whole)); intro zzh' zzF' zzN'; (try k_sweep))) | ((k_here; (with_reducible refine pow_int_small ?kb1 ?kb2 ?kb3 ?_); (case kb1 => decide); (case kb2 => decide); (case kb3 => decide))) | fail)) ); k_steps) | fail)))
    unfold Stop
    simp only [List.map_cons, List.map_nil] at N
    (with_reducible rename News _ _ _ _ => N8)
    (with_reducible rename Fr _ _ _ _ => F8)
    first | (with_reducible refine comp_list F8 (pF := isSgn) r.hd rfl (by decide) rfl (by decide) rfl ?_ (fun _ => rfl)) | refine comp_list F8 (pF := isSgn) r.hd rfl (by decide) rfl (by decide) rfl ?_ (fun _ => rfl)
    (k_steps; all_goals (repeat' (first | ((with_reducible refine unstop ?_); (first | (with_reducible (first | ((k_here; (with_reducible show wpAny _ _ (assign (Expr.Tuple _ _ _) _ (Value.ref _)) _ _ _); ( k_dflt (refine' unpackN_ ?k1 ?k2 ?k3 ?k4 ?k5 ?k6 ?_; (case k1 => k_asm); (case k2 => k_asm); (case k3 => kun_tup); (case k4 => exact Rm.hd (Rm.to (m := 0) (by with_reducible assumption) (by decide))); (case k5 => exact rfl); (case k6 => exact rfl); k_whole)); intro zzh' zzF' zzN'; (try k_sweep))) | ((k_here; (with_reducible refine pow_int_small ?kb1 ?kb2 ?kb3 ?_); (case kb1 => decide); (case kb2 => decide); (case kb3 => decide))) | fail)) ); k_steps) | fail)))
    (with_reducible rename News _ _ _ _ => N9)
    (with_reducible rename Fr _ _ _ _ => F9)
    (with_reducible rename IntsAre _ _ => I9)
    have hws := I9.length
    have hat9 := IntsAre.at I9
    first | (with_reducible refine Halt.mk ⟨_, _, _, rfl, F9, N9, ML.at N9 _ _ ⟨_, .head _, rfl, _, rfl⟩, ?_, ?_, ?_⟩) | refine Halt.mk ⟨_, _, _, rfl, F9, N9, ML.at N9 _ _ ⟨_, .head _, rfl, _, rfl⟩, ?_, ?_, ?_⟩
    · rw [List.size_toArray, hws]
      simp; omega
    · intro C i v s₂ m₂ E' hv hns hm hk
      first | (with_reducible refine Exists.elim (hat9 i v (by simpa using hv)) fun d q => Exists.elim q fun td q => ?_) | refine Exists.elim (hat9 i v (by simpa using hv)) fun d q => Exists.elim q fun td q => ?_
      have e2 := q.1
      subst e2
      clear hat9 q hv I9
      (k_steps; all_goals (repeat' (first | ((with_reducible refine unstop ?_); (first | (with_reducible (first | ((k_here; (with_reducible show wpAny _ _ (assign (Expr.Tuple _ _ _) _ (Value.ref _)) _ _ _); ( k_dflt (refine' unpackN_ ?k1 ?k2 ?k3 ?k4 ?k5 ?k6 ?_; (case k1 => k_asm); (case k2 => k_asm); (case k3 => kun_tup); (case k4 => exact Rm.hd (Rm.to (m := 0) (by with_reducible assumption) (by decide))); (case k5 => exact rfl); (case k6 => exact rfl); k_whole)); intro zzh' zzF' zzN'; (try k_sweep))) | ((k_here; (with_reducible refine pow_int_small ?kb1 ?kb2 ?kb3 ?_); (case kb1 => decide); (case kb2 => decide); (case kb3 => decide))) | fail)) ); k_steps) | fail)))
      · exact ⟨_, _, _, rfl, rfl⟩
      · exact keeps_tok rfl
    · intro D ys nD h5 tk5 F5 N5 hpa
      have hst := sgn_strs (by simpa using hpa) I9
      have hbc := base_cps ns
      clear N9 F9 hat9 hpa
      (k_steps; all_goals (repeat' (first | ((with_reducible refine unstop ?_); (first | (with_reducible (first | ((k_here; (with_reducible show wpAny _ _ (assign (Expr.Tuple _ _ _) _ (Value.ref _)) _ _ _); ( k_dflt (refine' unpackN_ ?k1 ?k2 ?k3 ?k4 ?k5 ?k6 ?_; (case k1 => k_asm); (case k2 => k_asm); (case k3 => kun_tup); (case k4 => exact Rm.hd (Rm.to (m := 0) (by with_reducible assumption) (by decide))); (case k5 => exact rfl); (case k6 => exact rfl); k_whole)); intro zzh' zzF' zzN'; (try k_sweep))) | ((k_here; (with_reducible refine pow_int_small ?kb1 ?kb2 ?kb3 ?_); (case kb1 => decide); (case kb2 => decide); (case kb3 => decide))) | fail)) ); k_steps) | fail)))
      unfold Stop
      first | (with_reducible refine join_list (ML.at N5 _ _ ⟨_, .head _, rfl, _, rfl⟩) hst (base_room ns) fun tb kb => ?_) | refine join_list (ML.at N5 _ _ ⟨_, .head _, rfl, _, rfl⟩) hst (base_room ns) fun tb kb => ?_
      rw [show Txt.join (Str.ofString "") ((ns.take 3).map sgn) = baseOf ns from rfl]
      generalize hbs : baseOf ns = bs at *
      have hb3 := hbc.1
      clear I9 hst
      (k_steps; all_goals (repeat' (first | ((with_reducible refine unstop ?_); (first | (with_reducible (first | ((k_here; (with_reducible show wpAny _ _ (assign (Expr.Tuple _ _ _) _ (Value.ref _)) _ _ _); ( k_dflt (refine' unpackN_ ?k1 ?k2 ?k3 ?k4 ?k5 ?k6 ?_; (case k1 => k_asm); (case k2 => k_asm); (case k3 => kun_tup); (case k4 => exact Rm.hd (Rm.to (m := 0) (by with_reducible assumption) (by decide))); (case k5 => exact rfl); (case k6 => exact rfl); k_whole)); intro zzh' zzF' zzN'; (try k_sweep))) | ((k_here; (with_reducible refine pow_int_small ?kb1 ?kb2 ?kb3 ?_); (case kb1 => decide); (case kb2 => decide); (case kb3 => decide))) | fail)) ); k_steps) | fail)))
      first | (with_reducible refine N_consA ?_) | refine N_consA ?_
      (k_steps; all_goals (repeat' (first | ((with_reducible refine unstop ?_); (first | (with_reducible (first | ((k_here; (with_reducible show wpAny _ _ (assign (Expr.Tuple _ _ _) _ (Value.ref _)) _ _ _); ( k_dflt (refine' unpackN_ ?k1 ?k2 ?k3 ?k4 ?k5 ?k6 ?_; (case k1 => k_asm); (case k2 => k_asm); (case k3 => kun_tup); (case k4 => exact Rm.hd (Rm.to (m := 0) (by with_reducible assumption) (by decide))); (case k5 => exact rfl); (case k6 => exact rfl); k_whole)); intro zzh' zzF' zzN'; (try k_sweep))) | ((k_here; (with_reducible refine pow_int_small ?kb1 ?kb2 ?kb3 ?_); (case kb1 => decide); (case kb2 => decide); (case kb3 => decide))) | fail)) ); k_steps) | fail)))
      unfold Stop
      (with_reducible rename News _ _ _ _ => Na2)
      (with_reducible rename Fr _ _ _ _ => Fa2)
      first | (with_reducible refine comp_list Fa2 (pF := isFun (fun n => n.fmod 9000)) r.hd rfl (by decide) rfl (by decide) rfl ?_ (fun _ => rfl)) | refine comp_list Fa2 (pF := isFun (fun n => n.fmod 9000)) r.hd rfl (by decide) rfl (by decide) rfl ?_ (fun _ => rfl)
      (k_steps; all_goals (repeat' (first | ((with_reducible refine unstop ?_); (first | (with_reducible (first | ((k_here; (with_reducible show wpAny _ _ (assign (Expr.Tuple _ _ _) _ (Value.ref _)) _ _ _); ( k_dflt (refine' unpackN_ ?k1 ?k2 ?k3 ?k4 ?k5 ?k6 ?_; (case k1 => k_asm); (case k2 => k_asm); (case k3 => kun_tup); (case k4 => exact Rm.hd (Rm.to (m := 0) (by with_reducible assumption) (by decide))); (case k5 => exact rfl); (case k6 => exact rfl); k_whole)); intro zzh' zzF' zzN'; (try k_sweep))) | ((k_here; (with_reducible refine pow_int_small ?kb1 ?kb2 ?kb3 ?_); (case kb1 => decide); (case kb2 => decide); (case kb3 => decide))) | fail)) ); k_steps) | fail)))
      (with_reducible rename News _ _ _ _ => Nb2)
      (with_reducible rename Fr _ _ _ _ => Fb2)
      (with_reducible rename IntsAre _ _ => Ib2)
      have hw2 := Ib2.length
      have hat2 := IntsAre.at Ib2
      first | (with_reducible refine Halt.mk ⟨_, _, _, rfl, Fb2, Nb2, ML.at Nb2 _ _ ⟨_, .head _, rfl, _, rfl⟩, ?_, ?_, ?_⟩) | refine Halt.mk ⟨_, _, _, rfl, Fb2, Nb2, ML.at Nb2 _ _ ⟨_, .head _, rfl, _, rfl⟩, ?_, ?_, ?_⟩
      · rw [List.size_toArray, hw2]
        simp; omega
      · intro C i v s₂ m₂ E' hv hns hm hk
        first | (with_reducible refine Exists.elim (hat2 i v (by simpa using hv)) fun d q => Exists.elim q fun td q => ?_) | refine Exists.elim (hat2 i v (by simpa using hv)) fun d q => Exists.elim q fun td q => ?_
        have e2 := q.1
        subst e2
        clear hat2 q hv Ib2
        (k_steps; all_goals (repeat' (first | ((with_reducible refine unstop ?_); (first | (with_reducible (first | ((k_here; (with_reducible show wpAny _ _ (assign (Expr.Tuple _ _ _) _ (Value.ref _)) _ _ _); ( k_dflt (refine' unpackN_ ?k1 ?k2 ?k3 ?k4 ?k5 ?k6 ?_; (case k1 => k_asm); (case k2 => k_asm); (case k3 => kun_tup); (case k4 => exact Rm.hd (Rm.to (m := 0) (by with_reducible assumption) (by decide))); (case k5 => exact rfl); (case k6 => exact rfl); k_whole)); intro zzh' zzF' zzN'; (try k_sweep))) | ((k_here; (with_reducible refine pow_int_small ?kb1 ?kb2 ?kb3 ?_); (case kb1 => decide); (case kb2 => decide); (case kb3 => decide))) | fail)) ); k_steps) | fail)))
        · exact ⟨_, _, _, rfl, rfl⟩
        · exact keeps_tok rfl
      intro Dc2 ys2 nc2 hc2 tc2 Fc2 Nc2 hpa2
      have J2 := fun_ints (by simpa using hpa2) Ib2
      clear Nb2 Fb2 hat2 hpa2 Ib2 hw2
      (k_steps; all_goals (repeat' (first | ((with_reducible refine unstop ?_); (first | (with_reducible (first | ((k_here; (with_reducible show wpAny _ _ (assign (Expr.Tuple _ _ _) _ (Value.ref _)) _ _ _); ( k_dflt (refine' unpackN_ ?k1 ?k2 ?k3 ?k4 ?k5 ?k6 ?_; (case k1 => k_asm); (case k2 => k_asm); (case k3 => kun_tup); (case k4 => exact Rm.hd (Rm.to (m := 0) (by with_reducible assumption) (by decide))); (case k5 => exact rfl); (case k6 => exact rfl); k_whole)); intro zzh' zzF' zzN'; (try k_sweep))) | ((k_here; (with_reducible refine pow_int_small ?kb1 ?kb2 ?kb3 ?_); (case kb1 => decide); (case kb2 => decide); (case kb3 => decide))) | fail)) ); k_steps) | fail)))
      (with_reducible rename News _ _ _ _ => Nd)
      (with_reducible rename IntsAre _ _ => Id)
      have Ne : News g L _ [(_, _), (L + 1, oc), (128, tabObj #[])] := fun p hp => Nd p (by
        simp only [List.mem_cons, List.not_mem_nil, or_false] at hp
        rcases hp with rfl | rfl | rfl
        · exact .tail _ (.head _)
        · exact .tail _ (.tail _ (.tail _ (.tail _ (.tail _ (.tail _ (.tail _ (.head _)))))))
        · exact .tail _ (.tail _ (.tail _ (.tail _ (.tail _ (.tail _ (.tail _ (.tail _ (.head _)))))))))
      clear Nd J2
      (k_steps; all_goals (repeat' (first | ((with_reducible refine unstop ?_); (first | (with_reducible (first | ((k_here; (with_reducible show wpAny _ _ (assign (Expr.Tuple _ _ _) _ (Value.ref _)) _ _ _); ( k_dflt (refine' unpackN_ ?k1 ?k2 ?k3 ?k4 ?k5 ?k6 ?_; (case k1 => k_asm); (case k2 => k_asm); (case k3 => kun_tup); (case k4 => exact Rm.hd (Rm.to (m := 0) (by with_reducible assumption) (by decide))); (case k5 => exact rfl); (case k6 => exact rfl); k_whole)); intro zzh' zzF' zzN'; (try k_sweep))) | ((k_here; (with_reducible refine pow_int_small ?kb1 ?kb2 ?kb3 ?_); (case kb1 => decide); (case kb2 => decide); (case kb3 => decide))) | fail)) ); k_steps) | fail)))
      (with_reducible rename News _ _ _ _ => Nf)
      (with_reducible rename Fr _ _ _ _ => Ff)
      (try dsimp only [List.cons_append, List.nil_append] at Nf)
      first | (with_reducible refine N_consA ?_) | refine N_consA ?_
      (k_steps; all_goals (repeat' (first | ((with_reducible refine unstop ?_); (first | (with_reducible (first | ((k_here; (with_reducible show wpAny _ _ (assign (Expr.Tuple _ _ _) _ (Value.ref _)) _ _ _); ( k_dflt (refine' unpackN_ ?k1 ?k2 ?k3 ?k4 ?k5 ?k6 ?_; (case k1 => k_asm); (case k2 => k_asm); (case k3 => kun_tup); (case k4 => exact Rm.hd (Rm.to (m := 0) (by with_reducible assumption) (by decide))); (case k5 => exact rfl); (case k6 => exact rfl); k_whole)); intro zzh' zzF' zzN'; (try k_sweep))) | ((k_here; (with_reducible refine pow_int_small ?kb1 ?kb2 ?kb3 ?_); (case kb1 => decide); (case kb2 => decide); (case kb3 => decide))) | fail)) ); k_steps) | fail)))
      unfold Stop
      (with_reducible rename News _ _ _ _ => Na3)
      (with_reducible rename Fr _ _ _ _ => Fa3)
      first | (with_reducible refine comp_list Fa3 (pF := isFun absF) r.hd rfl (by decide) rfl (by decide) rfl ?_ (fun _ => rfl)) | refine comp_list Fa3 (pF := isFun absF) r.hd rfl (by decide) rfl (by decide) rfl ?_ (fun _ => rfl)
      (k_steps; all_goals (repeat' (first | ((with_reducible refine unstop ?_); (first | (with_reducible (first | ((k_here; (with_reducible show wpAny _ _ (assign (Expr.Tuple _ _ _) _ (Value.ref _)) _ _ _); ( k_dflt (refine' unpackN_ ?k1 ?k2 ?k3 ?k4 ?k5 ?k6 ?_; (case k1 => k_asm); (case k2 => k_asm); (case k3 => kun_tup); (case k4 => exact Rm.hd (Rm.to (m := 0) (by with_reducible assumption) (by decide))); (case k5 => exact rfl); (case k6 => exact rfl); k_whole)); intro zzh' zzF' zzN'; (try k_sweep))) | ((k_here; (with_reducible refine pow_int_small ?kb1 ?kb2 ?kb3 ?_); (case kb1 => decide); (case kb2 => decide); (case kb3 => decide))) | fail)) ); k_steps) | fail)))
      (with_reducible rename News _ _ _ _ => Nb3)
      (with_reducible rename Fr _ _ _ _ => Fb3)
      (with_reducible rename IntsAre _ _ => Ib3)
      have hw3 := Ib3.length
      have hat3 := IntsAre.at Ib3
      first | (with_reducible refine Halt.mk ⟨_, _, _, rfl, Fb3, Nb3, ML.at Nb3 _ _ ⟨_, .head _, rfl, _, rfl⟩, ?_, ?_, ?_⟩) | refine Halt.mk ⟨_, _, _, rfl, Fb3, Nb3, ML.at Nb3 _ _ ⟨_, .head _, rfl, _, rfl⟩, ?_, ?_, ?_⟩
      · rw [List.size_toArray, hw3]
        simp; omega
      · intro C i v s₂ m₂ E' hv hns hm hk
        first | (with_reducible refine Exists.elim (hat3 i v (by simpa using hv)) fun d q => Exists.elim q fun td q => ?_) | refine Exists.elim (hat3 i v (by simpa using hv)) fun d q => Exists.elim q fun td q => ?_
        have e2 := q.1
        subst e2
        clear hat3 q hv Ib3
        (k_steps; all_goals (repeat' (first | ((with_reducible refine unstop ?_); (first | (with_reducible (first | ((k_here; (with_reducible show wpAny _ _ (assign (Expr.Tuple _ _ _) _ (Value.ref _)) _ _ _); ( k_dflt (refine' unpackN_ ?k1 ?k2 ?k3 ?k4 ?k5 ?k6 ?_; (case k1 => k_asm); (case k2 => k_asm); (case k3 => kun_tup); (case k4 => exact Rm.hd (Rm.to (m := 0) (by with_reducible assumption) (by decide))); (case k5 => exact rfl); (case k6 => exact rfl); k_whole)); intro zzh' zzF' zzN'; (try k_sweep))) | ((k_here; (with_reducible refine pow_int_small ?kb1 ?kb2 ?kb3 ?_); (case kb1 => decide); (case kb2 => decide); (case kb3 => decide))) | fail)) ); k_steps) | fail)))
        · exact ⟨_, _, _, rfl, rfl⟩
        · exact keeps_tok rfl
      intro Dc3 ys3 nc3 hc3 tc3 Fc3 Nc3 hpa3
      have J3 := fun_ints (by simpa using hpa3) Ib3
      clear Nb3 Fb3 hat3 hpa3 Ib3 hw3
      (k_steps; all_goals (repeat' (first | ((with_reducible refine unstop ?_); (first | (with_reducible (first | ((k_here; (with_reducible show wpAny _ _ (assign (Expr.Tuple _ _ _) _ (Value.ref _)) _ _ _); ( k_dflt (refine' unpackN_ ?k1 ?k2 ?k3 ?k4 ?k5 ?k6 ?_; (case k1 => k_asm); (case k2 => k_asm); (case k3 => kun_tup); (case k4 => exact Rm.hd (Rm.to (m := 0) (by with_reducible assumption) (by decide))); (case k5 => exact rfl); (case k6 => exact rfl); k_whole)); intro zzh' zzF' zzN'; (try k_sweep))) | ((k_here; (with_reducible refine pow_int_small ?kb1 ?kb2 ?kb3 ?_); (case kb1 => decide); (case kb2 => decide); (case kb3 => decide))) | fail)) ); k_steps) | fail)))
      (with_reducible rename News _ _ _ _ => Nz)
      (with_reducible rename Fr _ _ _ _ => Fz)
      (with_reducible rename IntsAre _ _ => Iz)
      (with_reducible rename _ = Data.cell _ => hcell)
      exact HT.out bs _ _ _ _ _ _ _ _ _ _ _ _ _ hbs rfl rfl Id Iz hcell rfl rfl Fz (news_five Nz)
end Mine
end
-- part ZT
section
open PySem PySem.W PyProof.Rows
set_option maxRecDepth 100000
set_option maxHeartbeats 2000000
namespace Mine
theorem law_tabs {w : World} {h : Heap} (K : (MineHd.hd.heap_1 w.params).In h) (hT : h.get? 128 = some (tabObj #[])) : TabsAt [(130, 128)] h := by
  intro q hq
  obtain rfl := List.mem_singleton.mp hq
  exact ⟨codeHd_of_K K (by kernel_rfl), hT⟩
theorem law_ints {R : WRecords} {cl : Str → Option Addr} {h : Heap} : ∀ {vs : List Value} {xs : List WData} {as : List Addr}, ReadsAllW R cl h vs xs as → (∀ d ∈ xs, WShape.has R d .int = true) → ∃ ns : List Int, xs.length = ns.length ∧ IntsAre vs ns
  | _, _, _, .nil, _ => ⟨[], rfl, .nil⟩
  | _, _, _, .cons r1 r2, hx => by
    obtain ⟨n, e⟩ := hasW_int (hx _ (.head _))
    subst e
    obtain ⟨t, e, _⟩ := readsW_int_inv r1
    subst e
    obtain ⟨ns, e, q⟩ := law_ints r2 fun d hd => hx d (.tail _ hd)
    exact ⟨n :: ns, congrArg (· + 1) e, .cons _ _ q⟩
theorem law_short {xs : List WData} (h : PySem.Challenge.rw_ny0167_01.row.pre.holds PySem.Challenge.rw_ny0167_01.row.records { args := [.list xs] } = true) : xs.length ≤ 63 := by
  have h0 : PySem.Challenge.rw_ny0167_01.row.pre = .and (.not (.lt (.lit (.int 63)) (.len (.arg 0)))) (.lit (.bool true)) := rfl
  rw [h0] at h
  have h1 := (holds_andW h).1
  have h2 := condW_of h1 (by wtm_val)
  simp at h2
  omega
theorem law_oldK {w : World} {h h' : Heap} (K : (MineHd.hd.heap_1 w.params).In h) (hT : h.get? 128 = some (tabObj #[])) (k : (ghostOf h [(130, 128)]).StaysIn h') (hg : GrownAt 128 h') : OldK h h' := by
  have T := law_tabs K hT
  have hc := ((T _ (.head _)).1.tab hT).isCodeTable
  obtain ⟨ps, hP⟩ := hg
  have kept : ∀ b o, b ≠ 128 → h.get? b = some o → h'.get? b = some o := fun b o hb e => k b o (ghost_ne e (by simpa using hb))
  refine ⟨fun b o e => ?_, fun b o e => ?_⟩
  · by_cases hb : b = 128
    · subst hb
      rw [hT] at e
      cases e
      exact .inr (.inl ⟨hc, rfl, #[], ps, rfl, by rw [Array.empty_append]; exact hP⟩)
    · exact .inl (kept b o hb e)
  · by_cases hb : b = 128
    · subst hb
      exact ⟨_, hP⟩
    · exact ⟨o, kept b o hb e⟩
theorem law_name {w : World} {h : Heap} {mg : Str → Option Value} (K : (MineHd.hd.heap_1 w.params).In h) (G : h.Ns mainGlobals mg) : mg PySem.Challenge.rw_ny0167_01.row.name = some (.ref 131) :=
  mg_of K G (by kernel_rfl)
theorem law_good {args : List WData} {cl : Str → Option Addr} {mean : ExcName → Option Value} {s₁ : Shared} {h' : Heap} {tk : Nat} (hg : s₁.gens = #[]) (k : OldK s₁.heap h') :
    GoodWG PySem.Challenge.rw_ny0167_01.row.claim cl mean args s₁ (.ok (.ret (.bool true))) { s₁ with heap := h', toks := tk } :=
  ⟨.inl ⟨_, _, [], rfl, fun _ => rfl, ReadsW.bool true, postW_of (by wrow_shape) (by wtm_val) (by w_fin), fun _ => ⟨List.nodup_nil, fun _ hm => nomatch hm⟩⟩, k, rfl, .of_eq hg⟩
end Mine
end
open PySem PySem.W PyProof.Rows
set_option maxRecDepth 100000 in
set_option maxHeartbeats 8000000 in
theorem PySem.Challenge.cw_ny0167_01_holds : PySem.Challenge.rw_ny0167_01.Holds := by
  refine MineHd.hd ?_
  intro w s₀ s₁ mg mb G Y hgens args vals as hpre hlay L
  have K := km_in_of Y
  have hT : s₁.heap.get? 128 = some (tabObj #[]) := km_tabs_of Y 128 (.head _)
  refine ⟨_, Mine.law_name K G.T.g, ?_⟩
  obtain ⟨hsh, hcond⟩ := pre_splitW hpre
  obtain ⟨d, ds, e, hx, hr⟩ := hasAllW_cons hsh
  subst e
  have e := hasAllW_nil hr
  subst e
  obtain ⟨xs, e, hall⟩ := hasW_list hx
  subst e
  have hlen := Mine.law_short hcond
  obtain ⟨v, vs, as1, as2, e, _, r1, r2⟩ := readsAllW_cons_inv L.reads
  subst e
  have e := (readsAllW_nil_inv r2).1
  subst e
  obtain ⟨a, vs, as', e, hl, ri, _⟩ := readsW_list_inv r1
  subst e
  obtain ⟨ns, hn, hi⟩ := Mine.law_ints ri (hasItemsW_at hall)
  exact Mine.law_s (vs := vs.toList) (ns := ns) ⟨K, _, _, _, _, _, G.T⟩ ⟨rfl, by decide, by decide⟩ rfl hT (by simpa using hl) hi (hn ▸ hlen) fun h' tk k hg => Mine.law_good hgens (Mine.law_oldK K hT k hg)
