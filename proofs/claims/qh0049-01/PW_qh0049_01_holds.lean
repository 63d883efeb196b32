import PyProof.Rows.All
import Wide.All
import OpenK.AllK
import Wide.FinOn
import PySem.Challenge.RW_qh0049_01
set_option Elab.async false
section
open PySem PySem.W PyProof.Rows
set_option maxRecDepth 100000
set_option maxHeartbeats 8000000
namespace Mine
open_top hd for PySem.Challenge.rw_qh0049_01
end Mine
end
section
open PySem PySem.W PyProof.Rows
set_option maxRecDepth 100000
set_option maxHeartbeats 8000000
namespace Mine

abbrev Keeps (h h' : Heap) : Prop := ∀ b o, h.get? b = some o → h'.get? b = some o

abbrev Ar (dp un : Nat) (gd : Option (List Code)) (outer : List Env) : Around := { handled := none, depth := dp, frames := some outer, guards := gd, units := un }

/-- what a callee may lean on -/
structure Cx (w : World) (A : Around) (h : Heap) (base : Heap) (outer : List Env) (mean : ExcName → Option Value) (mg mb : Str → Option Value) : Prop where
  X : (hd.heap_39 w.params).In h
  T : Top hd.view_39 (looseW hd.view_39 [Str.ofString "bytes_types", Str.ofString "a2b_base64", Str.ofString "b2a_base64", Str.ofString "b64encode", Str.ofString "b64decode"]) mean mg mb h

section
variable {w : World} {A : Around} {h h' h₀ base : Heap} {outer : List Env} {mean : ExcName → Option Value} {mg mb m : Str → Option Value} {L a : Addr} {name : Str} {scope : Scope} {cd : Value} {news : List (Addr × Obj)}

theorem Cx.push (C : Cx w A h₀ base outer mean mg mb) (F : Fr h₀ L h m) (hk : scope.kind = .function) :
    Cx w (A.deeper (envOf name scope L a cd)) h base (envOf name scope L a cd :: outer) mean mg mb :=
  ⟨C.X.keeps F.keep, C.T.keeps F.keep⟩

theorem newsKeeps (N : News h₀ L h news) (hk : Keeps h h') : News h₀ L h' news := fun p hp => ⟨hk _ _ (N p hp).1, (N p hp).2⟩

/-- a new object that a callee hands back goes onto the ledger -/
theorem newsMore {x : Addr} {o : Obj} (F : Fr h₀ L h m) (N : News h₀ L h news) (hk : Keeps h h') (hx : h'.get? x = some o) (hn : h.get? x = none) :
    News h₀ L h' ((x, o) :: news) := by
  intro p hp
  rcases List.mem_cons.mp hp with rfl | hp
  · refine ⟨hx, ?_, ?_⟩
    · intro e
      obtain ⟨oL, _, _, hL, _⟩ := F.ns
      have e' : x = L := e
      rw [e', hL] at hn; cases hn
    · cases q : h₀.get? x with
      | none => rfl
      | some o' => rw [F.keep _ _ q] at hn; cases hn
  · exact newsKeeps N hk p hp
theorem newsNe {x : Addr} (N : News h₀ L h news) (hn : h.get? x = none) : ∀ p ∈ news, p.1 ≠ x := fun p hp e => by
  have := (N p hp).1
  rw [e, hn] at this; cases this
end

section
variable {h₀ h : Heap} {L : Addr} {news rest : List (Addr × Obj)} {x : Addr × Obj}
/-- a ledger picked out of another one, object by object -/
theorem newsC (hx : x ∈ news) (N : News h₀ L h news) (R : News h₀ L h rest) : News h₀ L h (x :: rest) := fun p hp => by
  rcases List.mem_cons.mp hp with rfl | hp
  · exact N _ hx
  · exact R p hp
theorem newsW (N : News h₀ L h news) (hs : ∀ p ∈ rest, p ∈ news) : News h₀ L h rest := fun p hp => N p (hs p hp)
theorem offN {a : Addr} : ∀ q ∈ ([] : List (Addr × Obj)), q.1 ≠ a := fun _ hq => nomatch hq
theorem offC {a : Addr} (hx : x.1 ≠ a) (R : ∀ q ∈ rest, q.1 ≠ a) : ∀ q ∈ x :: rest, q.1 ≠ a := fun p hp => by
  rcases List.mem_cons.mp hp with rfl | hp
  · exact hx
  · exact R p hp
theorem getC (hx : x ∈ news) (N : News h₀ L h news) (R : ∀ q ∈ rest, h.get? q.1 = some q.2) : ∀ q ∈ x :: rest, h.get? q.1 = some q.2 := fun p hp => by
  rcases List.mem_cons.mp hp with rfl | hp
  · exact (N _ hx).1
  · exact R p hp
theorem getN : ∀ q ∈ ([] : List (Addr × Obj)), h.get? q.1 = some q.2 := fun _ hq => nomatch hq
end
theorem room {d n L : Nat} (k : Nat) (h : d + n < L) (hk : k ≤ n := by decide) : d + k < L := Nat.lt_of_le_of_lt (Nat.add_le_add_left hk d) h
theorem wpI {P : Prop} (h : P) : P := h
/-- a statement's post gets a name -/
theorem foldQ {M : Model} {A : Around} {α : Type} {t : Sem α} {Q : α → Shared → Prop} {E : Value → Shared → Prop} {s : Shared} (h : let qx := Q; wpAny M A t qx E s) : wpAny M A t Q E s := h
section
variable {M : Model} {A : Around} {E : Value → Shared → Prop} {s : Shared} {h₀ : Heap} {L a : Addr} {m : Str → Option Value} {cn : Str} {cs : Scope} {ccd : Value} {cl : List (Str × Addr)} {x : Str} {v : Value} {Q : Unit → Shared → Prop} {news : List (Addr × Obj)}
/-- a local name is stored: the frame's map gets a name of its own -/
theorem storeM (F : Fr h₀ L s.heap m) (N : News h₀ L s.heap news)
    (h : let m' := fun y => if y = x then some v else m y; ∀ h', Fr h₀ L h' m' → News h₀ L h' news → Q () { s with heap := h', toks := s.toks + 1 })
    (hk : cs.kind = .function) (hx : (envX cn cs L a ccd cl).kindOf x = some .local) : wpAny M A (storeName (envX cn cs L a ccd cl) x v) Q E s := storeX_L F N h hk hx
end
/-- a def of the text is entered; nothing that stood may turn -/
theorem enterP {K : Frag} {prog : Program} {w : World} {A : Around} {s : Shared} {p : Program} {loose : List Str} {mean : ExcName → Option Value} {mg mb : Str → Option Value} {name qual : Str} {params : Arguments} {body : List Stmt} {scope : Scope} {dV kV doc pm cdv ct oc : Value} {an od : Option Addr} {osl : Array (Option Value)} {f : Addr} {vs : List Value} {kw : List (Str × Value)} {binds : List (Str × Value)} {Q E : Value → Shared → Prop}
    (X : K.In s.heap) (T : Top p loose mean mg mb s.heap)
    (ho : K.lookup f = some ⟨oc, od, .func (fnOf name qual params body scope dV kV doc pm an cdv ct), osl⟩) (hcd : codeIn K cdv qual = true) (hroom : A.depth < recursionLimit)
    (hbind : BindsTo s (fnOf name qual params body scope dV kV doc pm an cdv ct) ⟨vs, kw⟩ binds) (hloc : ∀ y ∈ binds, scope.names.lookup y.1 = some .local)
    (h : ∀ L, let ev := envOf qual scope L f cdv; let Ak := A.deeper ev; let m0 := fun y => binds.reverse.lookup y; ∀ h₁, Fr s.heap L h₁ m0 → News s.heap L h₁ [] →
      wpAny (model prog w) Ak (execs body ev)
        (fun fl s' => Q (match fl with | .ret v => v | _ => .none) s') (fun _ _ => False)
        { s with heap := h₁, toks := s.toks + binds.length })
    (hco : scope.isCoroutine = false) (hgen : scope.isGenerator = false) (hk : scope.kind = .function)
    (hcell : ∀ x ∈ scope.names, x.2 ≠ .cell) : wpAny (model prog w) A (call (.ref f) vs kw) Q E s := by
  refine wpAny_call ?_
  refine codeAny_call_def (fd := fnOf name qual params body scope dV kV doc pm an cdv ct) (body := body) (binds := binds) hroom (X _ _ ho) rfl T.nolimit (codeRec_of X hcd) rfl hbind hcell hloc (fun h₁ hns hk₁ => ?_) hco hgen hk
  exact wpAny_mono (h _ h₁ ⟨hns, hk₁, Nat.le_refl _⟩ News.nil) (fun _ _ x => x) (fun _ _ x => x.elim)
end Mine
end
section
open PySem PySem.W PyProof.Rows
set_option maxRecDepth 100000
set_option maxHeartbeats 8000000
namespace Mine
def cleared (n : Int) (rows : List Int) : Int := rows.foldl (fun r row => if Builtin.bitXor r row < r then Builtin.bitXor r row else r) n
theorem cleared_con {w : World} {dp un : Nat} {gd : Option (List Code)} {base : Heap} {outer : List Env} {mean : ExcName → Option Value} {mg mb : Str → Option Value} {s : Shared} {Q E : Value → Shared → Prop}
    {n : Int} {t : Tok} {l : Addr} {vs : List Value} {ns : List Int}
    (C : Cx w (Ar dp un gd outer) s.heap base outer mean mg mb) (hdp : dp + 1 < recursionLimit) (hun : un + 8 < cLine)
    (hl : s.heap.IsList l vs.toArray) (hi : IntsAre vs ns)
    (ret : ∀ t' h' tk', Keeps s.heap h' → Q (.int (cleared n ns) t') { s with heap := h', toks := tk' }) :
    wpAny (model PySem.Challenge.rw_qh0049_01.row.prog w) (Ar dp un gd outer) (call (.ref 137) [.int n t, .ref l]) Q E s := by
  have KX := C.X
  revert KX
  k_fill
  intro KX
  have KT := C.T
  w_on
  refine' enterP (binds := [(Str.ofString "number", .int n t), (Str.ofString "basis", .ref l)]) KX KT ?k6 ?k7 ?k8 ?k9 ?kB ?_ ?c2 ?c3 ?c4 ?c5
  (k_dflt ((case k6 => k_is); (case k7 => k_is); (case k8 => exact Nat.lt_of_le_of_lt (Nat.le_add_right _ _) hdp); (case k9 => first | exact BindsTo.of_eq rfl | exact binds_K (by assumption) rfl (by k_is) rfl rfl rfl); (case c5 => decide); (case kB => exact locs rfl); (case c2 => exact rfl); (case c3 => exact rfl); (case c4 => exact rfl)))
  intro Lf ev Ak m0 h1 F N
  (try k_fold)
  repeat ((fail_if_success (with_reducible show wpAny _ _ (exec (PySem.Stmt.For _ _ _ _ _) _) _ _ _)); ((try ((with_reducible show wpAny _ _ (execs _ _) _ _ _); k_gentoks)); (try ((with_reducible show wpAny _ _ (exec _ _) _ _ _); (with_reducible refine foldQ ?_); intro qx)); (first | (k_unfold; (try (first | refine wpI (P := wpAny _ _ _ _ _ ⟨_, s.gens, s.drawn, _, s.os⟩) ?_ | refine wpI (P := wpAny _ _ _ _ _ _) ?_)); (try dsimp only)) | (k_end; kc_close) | (with_reducible ((with_reducible show wpAny _ _ (storeName _ _ _) _ _ _); k_dflt (refine' storeM ?Fq7 ?Nq7 ?_ ?aq7 ?bq7; (case Fq7 => k_asm); (case Nq7 => k_asm); (case aq7 => rfl); (case bq7 => rfl); k_whole; intro m'q7 h'q7 F'q7 N'q7; (try k_sweep)))) | (with_reducible ((with_reducible show wpAny _ _ (eval (PySem.Expr.Name _ _) _) _ _ _); k_dflt (refine' nameX_L ?Fq7 ?vq7 ?_ ?aq7 ?bq7; (case Fq7 => k_asm); (case aq7 => rfl); (case bq7 => rfl); (case vq7 => exact Eq.refl (some _)); k_whole))) | ((with_reducible show InvEnd _ _ _ _ _ _); ((with_reducible rename Fr _ _ _ _ => kFq7); first | ((dsimp +zetaDelta only at kFq7); (try dsimp +zetaDelta only)) | dsimp +zetaDelta only)) | ((with_reducible show InvEndG _ _ _ _ _ _); ((with_reducible rename Fr _ _ _ _ => kFq7); first | ((dsimp +zetaDelta only at kFq7); (try dsimp +zetaDelta only)) | dsimp +zetaDelta only)) | walk1 | (dsimp only; walk1) | (leave1; (try dsimp only)) | fail "no step") <;> (repeat ((fail_if_success (fail_if_success ((generalize qx = zq); (with_reducible show zq _ _)))); k_unfold; (try clear qx); (try (first | refine wpI (P := wpAny _ _ _ _ _ ⟨_, s.gens, s.drawn, _, s.os⟩) ?_ | refine wpI (P := wpAny _ _ _ _ _ _) ?_)); (try dsimp only)))))
  refine For_invV s.heap (by rfl) (by rfl) ?_
  ((try ((with_reducible show wpAny _ _ (execs _ _) _ _ _); k_gentoks)); (try ((with_reducible show wpAny _ _ (exec _ _) _ _ _); (with_reducible refine foldQ ?_); intro qx)); (first | (k_unfold; (try (first | refine wpI (P := wpAny _ _ _ _ _ ⟨_, s.gens, s.drawn, _, s.os⟩) ?_ | refine wpI (P := wpAny _ _ _ _ _ _) ?_)); (try dsimp only)) | (k_end; kc_close) | (with_reducible ((with_reducible show wpAny _ _ (storeName _ _ _) _ _ _); k_dflt (refine' storeM ?Fq7 ?Nq7 ?_ ?aq7 ?bq7; (case Fq7 => k_asm); (case Nq7 => k_asm); (case aq7 => rfl); (case bq7 => rfl); k_whole; intro m'q7 h'q7 F'q7 N'q7; (try k_sweep)))) | (with_reducible ((with_reducible show wpAny _ _ (eval (PySem.Expr.Name _ _) _) _ _ _); k_dflt (refine' nameX_L ?Fq7 ?vq7 ?_ ?aq7 ?bq7; (case Fq7 => k_asm); (case aq7 => rfl); (case bq7 => rfl); (case vq7 => exact Eq.refl (some _)); k_whole))) | ((with_reducible show InvEnd _ _ _ _ _ _); ((with_reducible rename Fr _ _ _ _ => kFq7); first | ((dsimp +zetaDelta only at kFq7); (try dsimp +zetaDelta only)) | dsimp +zetaDelta only)) | ((with_reducible show InvEndG _ _ _ _ _ _); ((with_reducible rename Fr _ _ _ _ => kFq7); first | ((dsimp +zetaDelta only at kFq7); (try dsimp +zetaDelta only)) | dsimp +zetaDelta only)) | walk1 | (dsimp only; walk1) | (leave1; (try dsimp only)) | fail "no step") <;> (repeat ((fail_if_success (fail_if_success ((generalize qx = zq); (with_reducible show zq _ _)))); k_unfold; (try clear qx); (try (first | refine wpI (P := wpAny _ _ _ _ _ ⟨_, s.gens, s.drawn, _, s.os⟩) ?_ | refine wpI (P := wpAny _ _ _ _ _ _) ?_)); (try dsimp only))))
  rename Fr _ _ _ _ => F
  rename News _ _ _ _ => N
  refine iter_acc1 (fun r row => if Builtin.bitXor r row < r then Builtin.bitXor r row else r) rfl hl hi F N (y := Str.ofString "rest") rfl (by decide) ?_ ?_
  · intro n1 t1 a1 ta1 h tk own hn F N
    (repeat' ((try ((with_reducible show wpAny _ _ (execs _ _) _ _ _); k_gentoks)); (try ((with_reducible show wpAny _ _ (exec _ _) _ _ _); (with_reducible refine foldQ ?_); intro qx)); (first | (k_unfold; (try (first | refine wpI (P := wpAny _ _ _ _ _ ⟨_, s.gens, s.drawn, _, s.os⟩) ?_ | refine wpI (P := wpAny _ _ _ _ _ _) ?_)); (try dsimp only)) | (k_end; wrow_close) | (with_reducible ((with_reducible show wpAny _ _ (storeName _ _ _) _ _ _); k_dflt (refine' storeM ?Fq7 ?Nq7 ?_ ?aq7 ?bq7; (case Fq7 => k_asm); (case Nq7 => k_asm); (case aq7 => rfl); (case bq7 => rfl); k_whole; intro m'q7 h'q7 F'q7 N'q7; (try k_sweep)))) | (with_reducible ((with_reducible show wpAny _ _ (eval (PySem.Expr.Name _ _) _) _ _ _); k_dflt (refine' nameX_L ?Fq7 ?vq7 ?_ ?aq7 ?bq7; (case Fq7 => k_asm); (case aq7 => rfl); (case bq7 => rfl); (case vq7 => exact Eq.refl (some _)); k_whole))) | ((with_reducible show InvEnd _ _ _ _ _ _); ((with_reducible rename Fr _ _ _ _ => kFq7); first | ((dsimp +zetaDelta only at kFq7); (try dsimp +zetaDelta only)) | dsimp +zetaDelta only)) | ((with_reducible show InvEndG _ _ _ _ _ _); ((with_reducible rename Fr _ _ _ _ => kFq7); first | ((dsimp +zetaDelta only at kFq7); (try dsimp +zetaDelta only)) | dsimp +zetaDelta only)) | walk1 | (dsimp only; walk1) | (leave1; (try dsimp only)) | fail "no step") <;> (repeat ((fail_if_success (fail_if_success ((generalize qx = zq); (with_reducible show zq _ _)))); k_unfold; (try clear qx); (try (first | refine wpI (P := wpAny _ _ _ _ _ ⟨_, s.gens, s.drawn, _, s.os⟩) ?_ | refine wpI (P := wpAny _ _ _ _ _ _) ?_)); (try dsimp only)))))
  · intro u t1 h tk F N
    repeat ((with_reducible show wpAny _ _ _ _ _ _); ((try ((with_reducible show wpAny _ _ (execs _ _) _ _ _); k_gentoks)); (try ((with_reducible show wpAny _ _ (exec _ _) _ _ _); (with_reducible refine foldQ ?_); intro qx)); (first | (k_unfold; (try (first | refine wpI (P := wpAny _ _ _ _ _ ⟨_, s.gens, s.drawn, _, s.os⟩) ?_ | refine wpI (P := wpAny _ _ _ _ _ _) ?_)); (try dsimp only)) | (k_end; kc_close) | (with_reducible ((with_reducible show wpAny _ _ (storeName _ _ _) _ _ _); k_dflt (refine' storeM ?Fq7 ?Nq7 ?_ ?aq7 ?bq7; (case Fq7 => k_asm); (case Nq7 => k_asm); (case aq7 => rfl); (case bq7 => rfl); k_whole; intro m'q7 h'q7 F'q7 N'q7; (try k_sweep)))) | (with_reducible ((with_reducible show wpAny _ _ (eval (PySem.Expr.Name _ _) _) _ _ _); k_dflt (refine' nameX_L ?Fq7 ?vq7 ?_ ?aq7 ?bq7; (case Fq7 => k_asm); (case aq7 => rfl); (case bq7 => rfl); (case vq7 => exact Eq.refl (some _)); k_whole))) | ((with_reducible show InvEnd _ _ _ _ _ _); ((with_reducible rename Fr _ _ _ _ => kFq7); first | ((dsimp +zetaDelta only at kFq7); (try dsimp +zetaDelta only)) | dsimp +zetaDelta only)) | ((with_reducible show InvEndG _ _ _ _ _ _); ((with_reducible rename Fr _ _ _ _ => kFq7); first | ((dsimp +zetaDelta only at kFq7); (try dsimp +zetaDelta only)) | dsimp +zetaDelta only)) | walk1 | (dsimp only; walk1) | (leave1; (try dsimp only)) | fail "no step") <;> (repeat ((fail_if_success (fail_if_success ((generalize qx = zq); (with_reducible show zq _ _)))); k_unfold; (try clear qx); (try (first | refine wpI (P := wpAny _ _ _ _ _ ⟨_, s.gens, s.drawn, _, s.os⟩) ?_ | refine wpI (P := wpAny _ _ _ _ _ _) ?_)); (try dsimp only)))))
    exact ret _ _ _ F.keep
end Mine
end
section
open PySem PySem.W PyProof.Rows
set_option maxRecDepth 100000
set_option maxHeartbeats 8000000
namespace Mine
def basisOf (ns : List Int) : List Int := ns.foldl (fun bs n => if cleared n bs = 0 then bs else bs ++ [cleared n bs]) []
theorem basisOf_step (ns : List Int) (i : Nat) (n : Int) (h : ns[i]? = some n) : basisOf (ns.take (i + 1)) = if cleared n (basisOf (ns.take i)) = 0 then basisOf (ns.take i) else basisOf (ns.take i) ++ [cleared n (basisOf (ns.take i))] := by
  unfold basisOf
  rw [List.take_add_one, h]; simp
theorem mapOff1 {m m₀ : Str → Option Value} {a : Str} (h : ∀ y, y ≠ a → m y = m₀ y) : m = fun y => if y = a then m a else m₀ y := by
  funext y; by_cases h1 : y = a <;> simp_all
theorem mapOff2 {m m₀ : Str → Option Value} {a b : Str} (h : ∀ y, y ≠ a → y ≠ b → m y = m₀ y) : m = fun y => if y = a then m a else if y = b then m b else m₀ y := by
  funext y; by_cases h1 : y = a <;> by_cases h2 : y = b <;> simp_all
theorem endG1 {h₀ h' : Heap} {L b : Addr} {J : (Str → Option Value) → List (Addr × Obj) → Prop} {m' : Str → Option Value} {own : List (Addr × Obj)} {s₁ : Shared} {tk k : Nat} {bs : List Value} {v : Value}
    (F : Fr h₀ L h' m') (N : News h₀ L h' ((b, listOf (bs.toArray.push v) k) :: own)) (hj : J m' [(b, listOf (bs ++ [v]).toArray k)]) (ho : OwnOff own [b]) : InvEndG h₀ L J own s₁ { s₁ with heap := h', toks := tk } := by
  refine InvEndG.intro F N hj ho ?_ (fun p hp => .tail _ hp)
  intro p hp
  rw [List.mem_singleton.mp hp]
  simp
theorem endG0 {h₀ h' : Heap} {L b : Addr} {J : (Str → Option Value) → List (Addr × Obj) → Prop} {m' : Str → Option Value} {own : List (Addr × Obj)} {s₁ : Shared} {tk : Nat} {o : Obj}
    (F : Fr h₀ L h' m') (N : News h₀ L h' ((b, o) :: own)) (hj : J m' [(b, o)]) (ho : OwnOff own [b]) : InvEndG h₀ L J own s₁ { s₁ with heap := h', toks := tk } := by
  refine InvEndG.intro F N hj ho ?_ (fun p hp => .tail _ hp)
  intro p hp
  rw [List.mem_singleton.mp hp]
  exact .head _
inductive BasJ (l : Addr) (ns : List Int) (i : Nat) (m : Str → Option Value) (nx : List (Addr × Obj)) : Prop
  | mk (b : Addr) (bs : List Value) (k : Nat) (hm : ∀ y, y ≠ Str.ofString "number" → y ≠ Str.ofString "rest" → m y = (fun y => if y = Str.ofString "basis" then some (.ref b) else List.lookup y [(Str.ofString "numbers", .ref l)]) y)
    (hx : nx = [(b, listOf bs.toArray k)]) (hb : IntsAre bs (basisOf (ns.take i))) (hl : bs.length ≤ i) : BasJ l ns i m nx
theorem basis_con {w : World} {dp un : Nat} {gd : Option (List Code)} {base : Heap} {outer : List Env} {mean : ExcName → Option Value} {mg mb : Str → Option Value} {s : Shared} {Q E : Value → Shared → Prop}
    {l : Addr} {vs : List Value} {ns : List Int}
    (C : Cx w (Ar dp un gd outer) s.heap base outer mean mg mb) (hdp : dp + 2 < recursionLimit) (hun : un + 16 < cLine)
    (hl : s.heap.IsList l vs.toArray) (hi : IntsAre vs ns) (hlen : ns.length ≤ 63)
    (ret : ∀ b bs k h' tk', Keeps s.heap h' → h'.get? b = some (listOf bs.toArray k) → s.heap.get? b = none → IntsAre bs (basisOf ns) → Q (.ref b) { s with heap := h', toks := tk' }) :
    wpAny (model PySem.Challenge.rw_qh0049_01.row.prog w) (Ar dp un gd outer) (call (.ref 144) [.ref l]) Q E s := by
  have KX := C.X
  revert KX
  k_fill
  intro KX
  have KT := C.T
  w_on
  refine' enterP (binds := [(Str.ofString "numbers", .ref l)]) KX KT ?k6 ?k7 ?k8 ?k9 ?kB ?_ ?c2 ?c3 ?c4 ?c5
  (k_dflt ((case k6 => k_is); (case k7 => k_is); (case k8 => exact Nat.lt_of_le_of_lt (Nat.le_add_right _ _) hdp); (case k9 => first | exact BindsTo.of_eq rfl | exact binds_K (by assumption) rfl (by k_is) rfl rfl rfl); (case c5 => decide); (case kB => exact locs rfl); (case c2 => exact rfl); (case c3 => exact rfl); (case c4 => exact rfl)))
  intro Lf ev Ak m0 h1 F N
  (try k_fold)
  repeat ((fail_if_success (with_reducible show wpAny _ _ (exec (PySem.Stmt.For _ _ _ _ _) _) _ _ _)); ((try ((with_reducible show wpAny _ _ (execs _ _) _ _ _); k_gentoks)); (try ((with_reducible show wpAny _ _ (exec _ _) _ _ _); (with_reducible refine foldQ ?_); intro qx)); (first | (k_unfold; (try (first | refine wpI (P := wpAny _ _ _ _ _ ⟨_, s.gens, s.drawn, _, s.os⟩) ?_ | refine wpI (P := wpAny _ _ _ _ _ _) ?_)); (try dsimp only)) | (k_end; kc_close) | (with_reducible ((with_reducible show wpAny _ _ (call (Value.ref 137) [Value.int _ _, Value.ref _]) _ _ _); (with_reducible rename Fr _ _ _ _ => kFq9); (with_reducible rename News _ _ _ _ => kNq9); k_dflt (refine' cleared_con (Cx.push (by assumption) kFq9 rfl) ?kdq8 ?kuq8 ?klq8 ?kiq8 ?_; (case kdq8 => (first | exact room 1 hdp | exact room 2 hdp | exact room 3 hdp | exact room 4 hdp | exact room 8 hun | exact room 16 hun | exact room 24 hun | exact room 32 hun | exact room 64 hun | exact room 65 hun | exact room 2 hun | exact Nat.lt_of_le_of_lt (Nat.le_add_right _ _) hun | ((try dsimp +zetaDelta only [Ar, Around.deeper, Around.mark]); omega))); (case kuq8 => (first | exact room 1 hdp | exact room 2 hdp | exact room 3 hdp | exact room 4 hdp | exact room 8 hun | exact room 16 hun | exact room 24 hun | exact room 32 hun | exact room 64 hun | exact room 65 hun | exact room 2 hun | exact Nat.lt_of_le_of_lt (Nat.le_add_right _ _) hun | ((try dsimp +zetaDelta only [Ar, Around.deeper, Around.mark]); omega))); (case klq8 => (first | assumption | exact News.isList (by assumption) (by first | k_mem | assumption) | exact Fr.lst (by assumption) (by assumption))); (case kiq8 => assumption)); intro t'q9 h'q9 tk'q9 hk'q9; (have F'q9 := Fr.after kFq9 hk'q9); (have N'q9 := newsKeeps kNq9 hk'q9); clear hk'q9; clear kNq9 kFq9; (try dsimp only); (try k_fold))) | (with_reducible ((with_reducible show wpAny _ _ (storeName _ _ _) _ _ _); k_dflt (refine' storeM ?Fq7 ?Nq7 ?_ ?aq7 ?bq7; (case Fq7 => k_asm); (case Nq7 => k_asm); (case aq7 => rfl); (case bq7 => rfl); k_whole; intro m'q7 h'q7 F'q7 N'q7; (try k_sweep)))) | (with_reducible ((with_reducible show wpAny _ _ (eval (PySem.Expr.Name _ _) _) _ _ _); k_dflt (refine' nameX_L ?Fq7 ?vq7 ?_ ?aq7 ?bq7; (case Fq7 => k_asm); (case aq7 => rfl); (case bq7 => rfl); (case vq7 => exact Eq.refl (some _)); k_whole))) | ((with_reducible show InvEnd _ _ _ _ _ _); ((with_reducible rename Fr _ _ _ _ => kFq7); first | ((dsimp +zetaDelta only at kFq7); (try dsimp +zetaDelta only)) | dsimp +zetaDelta only)) | ((with_reducible show InvEndG _ _ _ _ _ _); ((with_reducible rename Fr _ _ _ _ => kFq7); first | ((dsimp +zetaDelta only at kFq7); (try dsimp +zetaDelta only)) | dsimp +zetaDelta only)) | walk1 | (dsimp only; walk1) | (leave1; (try dsimp only)) | fail "no step") <;> (repeat ((fail_if_success (fail_if_success ((generalize qx = zq); (with_reducible show zq _ _)))); k_unfold; (try clear qx); (try (first | refine wpI (P := wpAny _ _ _ _ _ ⟨_, s.gens, s.drawn, _, s.os⟩) ?_ | refine wpI (P := wpAny _ _ _ _ _ _) ?_)); (try dsimp only)))))
  refine For_invV s.heap (by rfl) (by rfl) ?_
  ((try ((with_reducible show wpAny _ _ (execs _ _) _ _ _); k_gentoks)); (try ((with_reducible show wpAny _ _ (exec _ _) _ _ _); (with_reducible refine foldQ ?_); intro qx)); (first | (k_unfold; (try (first | refine wpI (P := wpAny _ _ _ _ _ ⟨_, s.gens, s.drawn, _, s.os⟩) ?_ | refine wpI (P := wpAny _ _ _ _ _ _) ?_)); (try dsimp only)) | (k_end; kc_close) | (with_reducible ((with_reducible show wpAny _ _ (call (Value.ref 137) [Value.int _ _, Value.ref _]) _ _ _); (with_reducible rename Fr _ _ _ _ => kFq9); (with_reducible rename News _ _ _ _ => kNq9); k_dflt (refine' cleared_con (Cx.push (by assumption) kFq9 rfl) ?kdq8 ?kuq8 ?klq8 ?kiq8 ?_; (case kdq8 => (first | exact room 1 hdp | exact room 2 hdp | exact room 3 hdp | exact room 4 hdp | exact room 8 hun | exact room 16 hun | exact room 24 hun | exact room 32 hun | exact room 64 hun | exact room 65 hun | exact room 2 hun | exact Nat.lt_of_le_of_lt (Nat.le_add_right _ _) hun | ((try dsimp +zetaDelta only [Ar, Around.deeper, Around.mark]); omega))); (case kuq8 => (first | exact room 1 hdp | exact room 2 hdp | exact room 3 hdp | exact room 4 hdp | exact room 8 hun | exact room 16 hun | exact room 24 hun | exact room 32 hun | exact room 64 hun | exact room 65 hun | exact room 2 hun | exact Nat.lt_of_le_of_lt (Nat.le_add_right _ _) hun | ((try dsimp +zetaDelta only [Ar, Around.deeper, Around.mark]); omega))); (case klq8 => (first | assumption | exact News.isList (by assumption) (by first | k_mem | assumption) | exact Fr.lst (by assumption) (by assumption))); (case kiq8 => assumption)); intro t'q9 h'q9 tk'q9 hk'q9; (have F'q9 := Fr.after kFq9 hk'q9); (have N'q9 := newsKeeps kNq9 hk'q9); clear hk'q9; clear kNq9 kFq9; (try dsimp only); (try k_fold))) | (with_reducible ((with_reducible show wpAny _ _ (storeName _ _ _) _ _ _); k_dflt (refine' storeM ?Fq7 ?Nq7 ?_ ?aq7 ?bq7; (case Fq7 => k_asm); (case Nq7 => k_asm); (case aq7 => rfl); (case bq7 => rfl); k_whole; intro m'q7 h'q7 F'q7 N'q7; (try k_sweep)))) | (with_reducible ((with_reducible show wpAny _ _ (eval (PySem.Expr.Name _ _) _) _ _ _); k_dflt (refine' nameX_L ?Fq7 ?vq7 ?_ ?aq7 ?bq7; (case Fq7 => k_asm); (case aq7 => rfl); (case bq7 => rfl); (case vq7 => exact Eq.refl (some _)); k_whole))) | ((with_reducible show InvEnd _ _ _ _ _ _); ((with_reducible rename Fr _ _ _ _ => kFq7); first | ((dsimp +zetaDelta only at kFq7); (try dsimp +zetaDelta only)) | dsimp +zetaDelta only)) | ((with_reducible show InvEndG _ _ _ _ _ _); ((with_reducible rename Fr _ _ _ _ => kFq7); first | ((dsimp +zetaDelta only at kFq7); (try dsimp +zetaDelta only)) | dsimp +zetaDelta only)) | walk1 | (dsimp only; walk1) | (leave1; (try dsimp only)) | fail "no step") <;> (repeat ((fail_if_success (fail_if_success ((generalize qx = zq); (with_reducible show zq _ _)))); k_unfold; (try clear qx); (try (first | refine wpI (P := wpAny _ _ _ _ _ ⟨_, s.gens, s.drawn, _, s.os⟩) ?_ | refine wpI (P := wpAny _ _ _ _ _ _) ?_)); (try dsimp only))))
  rename Fr _ _ _ _ => F
  rename News _ _ _ _ => N
  refine iter_invG (BasJ l ns) rfl hl hi F N ⟨_, [], 0, fun _ _ _ => rfl, rfl, .nil, Nat.zero_le _⟩ ?_ ?_
  · rintro i n1 t1 m1 nx h tk own hn ho hoff ⟨b, bs, k, hm, rfl, hb, hbl⟩ F N
    rw [mapOff2 hm] at F
    have hoff' : OwnOff own [b] := hoff
    have N : News s.heap Lf h ((b, listOf bs.toArray k) :: own) := N
    have hi1 : i < ns.length := (List.getElem?_eq_some_iff.mp hn).1
    have hsz : bs.toArray.size ≤ sizeLine := by rw [List.size_toArray, sizeLine_eq]; omega
    (repeat' ((try ((with_reducible show wpAny _ _ (execs _ _) _ _ _); k_gentoks)); (try ((with_reducible show wpAny _ _ (exec _ _) _ _ _); (with_reducible refine foldQ ?_); intro qx)); (first | (k_unfold; (try (first | refine wpI (P := wpAny _ _ _ _ _ ⟨_, s.gens, s.drawn, _, s.os⟩) ?_ | refine wpI (P := wpAny _ _ _ _ _ _) ?_)); (try dsimp only)) | (k_end; wrow_close) | (with_reducible ((with_reducible show wpAny _ _ (call (Value.ref 137) [Value.int _ _, Value.ref _]) _ _ _); (with_reducible rename Fr _ _ _ _ => kFq9); (with_reducible rename News _ _ _ _ => kNq9); k_dflt (refine' cleared_con (Cx.push (by assumption) kFq9 rfl) ?kdq8 ?kuq8 ?klq8 ?kiq8 ?_; (case kdq8 => (first | exact room 1 hdp | exact room 2 hdp | exact room 3 hdp | exact room 4 hdp | exact room 8 hun | exact room 16 hun | exact room 24 hun | exact room 32 hun | exact room 64 hun | exact room 65 hun | exact room 2 hun | exact Nat.lt_of_le_of_lt (Nat.le_add_right _ _) hun | ((try dsimp +zetaDelta only [Ar, Around.deeper, Around.mark]); omega))); (case kuq8 => (first | exact room 1 hdp | exact room 2 hdp | exact room 3 hdp | exact room 4 hdp | exact room 8 hun | exact room 16 hun | exact room 24 hun | exact room 32 hun | exact room 64 hun | exact room 65 hun | exact room 2 hun | exact Nat.lt_of_le_of_lt (Nat.le_add_right _ _) hun | ((try dsimp +zetaDelta only [Ar, Around.deeper, Around.mark]); omega))); (case klq8 => (first | assumption | exact News.isList (by assumption) (by first | k_mem | assumption) | exact Fr.lst (by assumption) (by assumption))); (case kiq8 => assumption)); intro t'q9 h'q9 tk'q9 hk'q9; (have F'q9 := Fr.after kFq9 hk'q9); (have N'q9 := newsKeeps kNq9 hk'q9); clear hk'q9; clear kNq9 kFq9; (try dsimp only); (try k_fold))) | (with_reducible ((with_reducible show wpAny _ _ (storeName _ _ _) _ _ _); k_dflt (refine' storeM ?Fq7 ?Nq7 ?_ ?aq7 ?bq7; (case Fq7 => k_asm); (case Nq7 => k_asm); (case aq7 => rfl); (case bq7 => rfl); k_whole; intro m'q7 h'q7 F'q7 N'q7; (try k_sweep)))) | (with_reducible ((with_reducible show wpAny _ _ (eval (PySem.Expr.Name _ _) _) _ _ _); k_dflt (refine' nameX_L ?Fq7 ?vq7 ?_ ?aq7 ?bq7; (case Fq7 => k_asm); (case aq7 => rfl); (case bq7 => rfl); (case vq7 => exact Eq.refl (some _)); k_whole))) | ((with_reducible show InvEnd _ _ _ _ _ _); ((with_reducible rename Fr _ _ _ _ => kFq7); first | ((dsimp +zetaDelta only at kFq7); (try dsimp +zetaDelta only)) | dsimp +zetaDelta only)) | ((with_reducible show InvEndG _ _ _ _ _ _); ((with_reducible rename Fr _ _ _ _ => kFq7); first | ((dsimp +zetaDelta only at kFq7); (try dsimp +zetaDelta only)) | dsimp +zetaDelta only)) | walk1 | (dsimp only; walk1) | (leave1; (try dsimp only)) | fail "no step") <;> (repeat ((fail_if_success (fail_if_success ((generalize qx = zq); (with_reducible show zq _ _)))); k_unfold; (try clear qx); (try (first | refine wpI (P := wpAny _ _ _ _ _ ⟨_, s.gens, s.drawn, _, s.os⟩) ?_ | refine wpI (P := wpAny _ _ _ _ _ _) ?_)); (try dsimp only)))))
    · refine' endG1 ?F ?N ?_ hoff'
      (case F => assumption)
      (case N => assumption)
      refine ⟨b, _, _, fun y h1 h2 => by simp [h1, h2], rfl, ?_, ?_⟩
      · rw [basisOf_step _ _ _ hn, if_neg (by assumption)]
        exact hb.append (.cons _ _ .nil)
      · simp; omega
    · refine' endG0 ?F ?N ?_ hoff'
      (case F => assumption)
      (case N => assumption)
      refine ⟨b, _, _, fun y h1 h2 => by simp [h1, h2], rfl, ?_, ?_⟩
      · rw [basisOf_step _ _ _ hn, if_pos (by assumption)]
        exact hb
      · omega
  · rintro m1 nx h tk ⟨b, bs, k, hm, rfl, hb, hbl⟩ F N
    rw [mapOff2 hm] at F
    rw [List.take_length] at hb
    repeat ((with_reducible show wpAny _ _ _ _ _ _); ((try ((with_reducible show wpAny _ _ (execs _ _) _ _ _); k_gentoks)); (try ((with_reducible show wpAny _ _ (exec _ _) _ _ _); (with_reducible refine foldQ ?_); intro qx)); (first | (k_unfold; (try (first | refine wpI (P := wpAny _ _ _ _ _ ⟨_, s.gens, s.drawn, _, s.os⟩) ?_ | refine wpI (P := wpAny _ _ _ _ _ _) ?_)); (try dsimp only)) | (k_end; kc_close) | (with_reducible ((with_reducible show wpAny _ _ (call (Value.ref 137) [Value.int _ _, Value.ref _]) _ _ _); (with_reducible rename Fr _ _ _ _ => kFq9); (with_reducible rename News _ _ _ _ => kNq9); k_dflt (refine' cleared_con (Cx.push (by assumption) kFq9 rfl) ?kdq8 ?kuq8 ?klq8 ?kiq8 ?_; (case kdq8 => (first | exact room 1 hdp | exact room 2 hdp | exact room 3 hdp | exact room 4 hdp | exact room 8 hun | exact room 16 hun | exact room 24 hun | exact room 32 hun | exact room 64 hun | exact room 65 hun | exact room 2 hun | exact Nat.lt_of_le_of_lt (Nat.le_add_right _ _) hun | ((try dsimp +zetaDelta only [Ar, Around.deeper, Around.mark]); omega))); (case kuq8 => (first | exact room 1 hdp | exact room 2 hdp | exact room 3 hdp | exact room 4 hdp | exact room 8 hun | exact room 16 hun | exact room 24 hun | exact room 32 hun | exact room 64 hun | exact room 65 hun | exact room 2 hun | exact Nat.lt_of_le_of_lt (Nat.le_add_right _ _) hun | ((try dsimp +zetaDelta only [Ar, Around.deeper, Around.mark]); omega))); (case klq8 => (first | assumption | exact News.isList (by assumption) (by first | k_mem | assumption) | exact Fr.lst (by assumption) (by assumption))); (case kiq8 => assumption)); intro t'q9 h'q9 tk'q9 hk'q9; (have F'q9 := Fr.after kFq9 hk'q9); (have N'q9 := newsKeeps kNq9 hk'q9); clear hk'q9; clear kNq9 kFq9; (try dsimp only); (try k_fold))) | (with_reducible ((with_reducible show wpAny _ _ (storeName _ _ _) _ _ _); k_dflt (refine' storeM ?Fq7 ?Nq7 ?_ ?aq7 ?bq7; (case Fq7 => k_asm); (case Nq7 => k_asm); (case aq7 => rfl); (case bq7 => rfl); k_whole; intro m'q7 h'q7 F'q7 N'q7; (try k_sweep)))) | (with_reducible ((with_reducible show wpAny _ _ (eval (PySem.Expr.Name _ _) _) _ _ _); k_dflt (refine' nameX_L ?Fq7 ?vq7 ?_ ?aq7 ?bq7; (case Fq7 => k_asm); (case aq7 => rfl); (case bq7 => rfl); (case vq7 => exact Eq.refl (some _)); k_whole))) | ((with_reducible show InvEnd _ _ _ _ _ _); ((with_reducible rename Fr _ _ _ _ => kFq7); first | ((dsimp +zetaDelta only at kFq7); (try dsimp +zetaDelta only)) | dsimp +zetaDelta only)) | ((with_reducible show InvEndG _ _ _ _ _ _); ((with_reducible rename Fr _ _ _ _ => kFq7); first | ((dsimp +zetaDelta only at kFq7); (try dsimp +zetaDelta only)) | dsimp +zetaDelta only)) | walk1 | (dsimp only; walk1) | (leave1; (try dsimp only)) | fail "no step") <;> (repeat ((fail_if_success (fail_if_success ((generalize qx = zq); (with_reducible show zq _ _)))); k_unfold; (try clear qx); (try (first | refine wpI (P := wpAny _ _ _ _ _ ⟨_, s.gens, s.drawn, _, s.os⟩) ?_ | refine wpI (P := wpAny _ _ _ _ _ _) ?_)); (try dsimp only)))))
    exact ret _ _ _ _ _ F.keep (N _ (.head _)).1 (N _ (.head _)).2.2 hb
end Mine
end
section
open PySem PySem.W PyProof.Rows
set_option maxRecDepth 100000
set_option maxHeartbeats 8000000
set_option linter.unusedVariables false
namespace Mine
theorem buffer_con {w : World} {dp un : Nat} {gd : Option (List Code)} {base : Heap} {outer : List Env} {mean : ExcName → Option Value} {mg mb : Str → Option Value} {s : Shared} {Q E : Value → Shared → Prop}
    {b : Array UInt8} {t : Tok}
    (C : Cx w (Ar dp un gd outer) s.heap base outer mean mg mb) (hdp : dp + 1 < recursionLimit) (hun : un + 8 < cLine)
    
    (ret : ∀ h' tk', Keeps s.heap h' → Q (.bytes b t) { s with heap := h', toks := tk' }) :
    wpAny (model PySem.Challenge.rw_qh0049_01.row.prog w) (Ar dp un gd outer) (call (.ref 70) [.bytes b t]) Q E s := by
  have KX := C.X
  revert KX
  k_fill
  intro KX
  have KT := C.T
  w_on
  refine' enterP (binds := [(Str.ofString "data", .bytes b t)]) KX KT ?k6 ?k7 ?k8 ?k9 ?kB ?_ ?c2 ?c3 ?c4 ?c5
  (k_dflt ((case k6 => k_is); (case k7 => k_is); (case k8 => exact Nat.lt_of_le_of_lt (Nat.le_add_right _ _) hdp); (case k9 => first | exact BindsTo.of_eq rfl | exact binds_K (by assumption) rfl (by k_is) rfl rfl rfl); (case c5 => decide); (case kB => exact locs rfl); (case c2 => exact rfl); (case c3 => exact rfl); (case c4 => exact rfl)))
  intro Lf ev Ak m0 h1 F N
  (try k_fold)
  (repeat' ((try ((with_reducible show wpAny _ _ (execs _ _) _ _ _); k_gentoks)); (try ((with_reducible show wpAny _ _ (exec _ _) _ _ _); (with_reducible refine foldQ ?_); intro qx)); (first | (k_unfold; (try (first | refine wpI (P := wpAny _ _ _ _ _ ⟨_, s.gens, s.drawn, _, s.os⟩) ?_ | refine wpI (P := wpAny _ _ _ _ _ _) ?_)); (try dsimp only)) | (k_end; wrow_close) | (with_reducible ((with_reducible show wpAny _ _ (call (Value.type "bytes") [Value.ref _]) _ _ _); k_dflt (refine' bytes4 ?Fq8 ?Nq8 ?hhq8 ?aq8 ?bq8 ?cq8 ?dq8 ?_; (case Fq8 => assumption); (case Nq8 => assumption); (case hhq8 => exact rfl); (case aq8 => exact ⟨by omega, by omega⟩); (case bq8 => exact ⟨by omega, by omega⟩); (case cq8 => exact ⟨by omega, by omega⟩); (case dq8 => exact ⟨by omega, by omega⟩)); intro h'q9 t'q9 k'q9 F'q9)) | (with_reducible ((with_reducible show wpAny _ _ (subscriptTail _ _ (Value.bytes _ _) (Value.int _ _)) _ _ _); refine tab_V (by simp only [List.length_cons, List.length_nil]; omega) (by omega) (by simp only [List.length_cons, List.length_nil]; omega) ?_; intro c'q9 v'q9 k'q9 hc'q9 hlo'q9 hhi'q9)) | (with_reducible ((with_reducible show wpAny _ _ (binaryOp PySem.Operator.RShift (Value.int _ _) (Value.int _ _)) _ _ _); (refine shr_V (by first | omega | decide) ?_; intro c'q9 v'q9 k'q9 hc'q9))) | (with_reducible ((with_reducible show wpAny _ _ (binaryOp PySem.Operator.LShift (Value.int _ _) (Value.int _ _)) _ _ _); (refine shl_V (by first | omega | decide) (by first | omega | decide) (by omega) ?_; intro c'q9 v'q9 k'q9 hc'q9; (simp only [show ((2 : Int) ^ Int.toNat 8) = 256 from rfl, show ((2 : Int) ^ Int.toNat 2) = 4 from rfl, show ((2 : Int) ^ Int.toNat 4) = 16 from rfl, show ((2 : Int) ^ Int.toNat 6) = 64 from rfl] at hc'q9)))) | (with_reducible ((with_reducible show wpAny _ _ (binaryOp PySem.Operator.BitOr (Value.int _ _) (Value.int _ _)) _ _ _); (refine or_V ?_; intro c'q9 v'q9 k'q9 hc'q9))) | (with_reducible ((with_reducible show wpAny _ _ (binaryOp PySem.Operator.BitAnd (Value.int _ _) (Value.int _ _)) _ _ _); (refine and_V (by first | omega | decide) ?_; intro c'q9 v'q9 k'q9 hc'q9 hlo'q9 hhi'q9))) | (with_reducible ((with_reducible show wpAny _ _ (call (Value.ref 77) [Value.bool false]) _ _ _); (with_reducible rename Fr _ _ _ _ => kFq9); k_dflt (refine' truth_con (Cx.push (by assumption) kFq9 rfl) ?kdq8 ?kuq8  ?_; (case kdq8 => (first | exact room 1 hdp | exact room 2 hdp | exact room 3 hdp | exact room 4 hdp | exact room 8 hun | exact room 16 hun | exact room 24 hun | exact room 32 hun | exact room 64 hun | exact room 65 hun | exact room 2 hun | exact Nat.lt_of_le_of_lt (Nat.le_add_right _ _) hun | ((try dsimp +zetaDelta only [Ar, Around.deeper, Around.mark]); omega))); (case kuq8 => (first | exact room 1 hdp | exact room 2 hdp | exact room 3 hdp | exact room 4 hdp | exact room 8 hun | exact room 16 hun | exact room 24 hun | exact room 32 hun | exact room 64 hun | exact room 65 hun | exact room 2 hun | exact Nat.lt_of_le_of_lt (Nat.le_add_right _ _) hun | ((try dsimp +zetaDelta only [Ar, Around.deeper, Around.mark]); omega)));  skip); intro h'q9 tk'q9 hk'q9; ((with_reducible rename Fr _ _ _ _ => kFq9); (with_reducible rename News _ _ _ _ => kNq9); (with_reducible rename Keeps _ _ => hk'q9); (have F'q9 := Fr.after kFq9 hk'q9); (have N'q9 := newsKeeps kNq9 hk'q9); clear hk'q9; clear kNq9 kFq9; (try dsimp only); (try k_fold)))) | (with_reducible ((with_reducible show wpAny _ _ (call (Value.ref 70) [Value.bytes _ _]) _ _ _); (with_reducible rename Fr _ _ _ _ => kFq9); k_dflt (refine' buffer_con (Cx.push (by assumption) kFq9 rfl) ?kdq8 ?kuq8  ?_; (case kdq8 => (first | exact room 1 hdp | exact room 2 hdp | exact room 3 hdp | exact room 4 hdp | exact room 8 hun | exact room 16 hun | exact room 24 hun | exact room 32 hun | exact room 64 hun | exact room 65 hun | exact room 2 hun | exact Nat.lt_of_le_of_lt (Nat.le_add_right _ _) hun | ((try dsimp +zetaDelta only [Ar, Around.deeper, Around.mark]); omega))); (case kuq8 => (first | exact room 1 hdp | exact room 2 hdp | exact room 3 hdp | exact room 4 hdp | exact room 8 hun | exact room 16 hun | exact room 24 hun | exact room 32 hun | exact room 64 hun | exact room 65 hun | exact room 2 hun | exact Nat.lt_of_le_of_lt (Nat.le_add_right _ _) hun | ((try dsimp +zetaDelta only [Ar, Around.deeper, Around.mark]); omega)));  skip); intro h'q9 tk'q9 hk'q9; ((with_reducible rename Fr _ _ _ _ => kFq9); (with_reducible rename News _ _ _ _ => kNq9); (with_reducible rename Keeps _ _ => hk'q9); (have F'q9 := Fr.after kFq9 hk'q9); (have N'q9 := newsKeeps kNq9 hk'q9); clear hk'q9; clear kNq9 kFq9; (try dsimp only); (try k_fold)))) | ((with_reducible show wpAny _ _ (call _ [Value.bytes _ _]) _ _ _); refine call_type_of (Tx := "bytes") rfl (by decide +kernel) ?_) | (with_reducible ((with_reducible show wpAny _ _ (storeName _ _ _) _ _ _); k_dflt (refine' storeM ?Fq7 ?Nq7 ?_ ?aq7 ?bq7; (case Fq7 => k_asm); (case Nq7 => k_asm); (case aq7 => rfl); (case bq7 => rfl); k_whole; intro m'q7 h'q7 F'q7 N'q7; (try k_sweep)))) | (with_reducible ((with_reducible show wpAny _ _ (eval (PySem.Expr.Name _ _) _) _ _ _); k_dflt (refine' nameX_L ?Fq7 ?vq7 ?_ ?aq7 ?bq7; (case Fq7 => k_asm); (case aq7 => rfl); (case bq7 => rfl); (case vq7 => exact Eq.refl (some _)); k_whole))) | ((with_reducible show InvEnd _ _ _ _ _ _); ((with_reducible rename Fr _ _ _ _ => kFq7); first | ((dsimp +zetaDelta only at kFq7); (try dsimp +zetaDelta only)) | dsimp +zetaDelta only)) | ((with_reducible show InvEndG _ _ _ _ _ _); ((with_reducible rename Fr _ _ _ _ => kFq7); first | ((dsimp +zetaDelta only at kFq7); (try dsimp +zetaDelta only)) | dsimp +zetaDelta only)) | walk1 | (dsimp only; walk1) | (leave1; (try dsimp only)) | fail "no step") <;> (repeat ((fail_if_success (fail_if_success ((generalize qx = zq); (with_reducible show zq _ _)))); k_unfold; (try clear qx); (try (first | refine wpI (P := wpAny _ _ _ _ _ ⟨_, s.gens, s.drawn, _, s.os⟩) ?_ | refine wpI (P := wpAny _ _ _ _ _ _) ?_)); (try dsimp only)))))
  rename Fr _ _ _ _ => F
  exact ret _ _ F.keep
theorem truth_con {w : World} {dp un : Nat} {gd : Option (List Code)} {base : Heap} {outer : List Env} {mean : ExcName → Option Value} {mg mb : Str → Option Value} {s : Shared} {Q E : Value → Shared → Prop}
    
    (C : Cx w (Ar dp un gd outer) s.heap base outer mean mg mb) (hdp : dp + 1 < recursionLimit) (hun : un + 8 < cLine)
    
    (ret : ∀ h' tk', Keeps s.heap h' → Q (.bool false) { s with heap := h', toks := tk' }) :
    wpAny (model PySem.Challenge.rw_qh0049_01.row.prog w) (Ar dp un gd outer) (call (.ref 77) [.bool false]) Q E s := by
  have KX := C.X
  revert KX
  k_fill
  intro KX
  have KT := C.T
  w_on
  refine' enterP (binds := [(Str.ofString "x", .bool false)]) KX KT ?k6 ?k7 ?k8 ?k9 ?kB ?_ ?c2 ?c3 ?c4 ?c5
  (k_dflt ((case k6 => k_is); (case k7 => k_is); (case k8 => exact Nat.lt_of_le_of_lt (Nat.le_add_right _ _) hdp); (case k9 => first | exact BindsTo.of_eq rfl | exact binds_K (by assumption) rfl (by k_is) rfl rfl rfl); (case c5 => decide); (case kB => exact locs rfl); (case c2 => exact rfl); (case c3 => exact rfl); (case c4 => exact rfl)))
  intro Lf ev Ak m0 h1 F N
  (try k_fold)
  (repeat' ((try ((with_reducible show wpAny _ _ (execs _ _) _ _ _); k_gentoks)); (try ((with_reducible show wpAny _ _ (exec _ _) _ _ _); (with_reducible refine foldQ ?_); intro qx)); (first | (k_unfold; (try (first | refine wpI (P := wpAny _ _ _ _ _ ⟨_, s.gens, s.drawn, _, s.os⟩) ?_ | refine wpI (P := wpAny _ _ _ _ _ _) ?_)); (try dsimp only)) | (k_end; wrow_close) | (with_reducible ((with_reducible show wpAny _ _ (call (Value.type "bytes") [Value.ref _]) _ _ _); k_dflt (refine' bytes4 ?Fq8 ?Nq8 ?hhq8 ?aq8 ?bq8 ?cq8 ?dq8 ?_; (case Fq8 => assumption); (case Nq8 => assumption); (case hhq8 => exact rfl); (case aq8 => exact ⟨by omega, by omega⟩); (case bq8 => exact ⟨by omega, by omega⟩); (case cq8 => exact ⟨by omega, by omega⟩); (case dq8 => exact ⟨by omega, by omega⟩)); intro h'q9 t'q9 k'q9 F'q9)) | (with_reducible ((with_reducible show wpAny _ _ (subscriptTail _ _ (Value.bytes _ _) (Value.int _ _)) _ _ _); refine tab_V (by simp only [List.length_cons, List.length_nil]; omega) (by omega) (by simp only [List.length_cons, List.length_nil]; omega) ?_; intro c'q9 v'q9 k'q9 hc'q9 hlo'q9 hhi'q9)) | (with_reducible ((with_reducible show wpAny _ _ (binaryOp PySem.Operator.RShift (Value.int _ _) (Value.int _ _)) _ _ _); (refine shr_V (by first | omega | decide) ?_; intro c'q9 v'q9 k'q9 hc'q9))) | (with_reducible ((with_reducible show wpAny _ _ (binaryOp PySem.Operator.LShift (Value.int _ _) (Value.int _ _)) _ _ _); (refine shl_V (by first | omega | decide) (by first | omega | decide) (by omega) ?_; intro c'q9 v'q9 k'q9 hc'q9; (simp only [show ((2 : Int) ^ Int.toNat 8) = 256 from rfl, show ((2 : Int) ^ Int.toNat 2) = 4 from rfl, show ((2 : Int) ^ Int.toNat 4) = 16 from rfl, show ((2 : Int) ^ Int.toNat 6) = 64 from rfl] at hc'q9)))) | (with_reducible ((with_reducible show wpAny _ _ (binaryOp PySem.Operator.BitOr (Value.int _ _) (Value.int _ _)) _ _ _); (refine or_V ?_; intro c'q9 v'q9 k'q9 hc'q9))) | (with_reducible ((with_reducible show wpAny _ _ (binaryOp PySem.Operator.BitAnd (Value.int _ _) (Value.int _ _)) _ _ _); (refine and_V (by first | omega | decide) ?_; intro c'q9 v'q9 k'q9 hc'q9 hlo'q9 hhi'q9))) | (with_reducible ((with_reducible show wpAny _ _ (call (Value.ref 77) [Value.bool false]) _ _ _); (with_reducible rename Fr _ _ _ _ => kFq9); k_dflt (refine' truth_con (Cx.push (by assumption) kFq9 rfl) ?kdq8 ?kuq8  ?_; (case kdq8 => (first | exact room 1 hdp | exact room 2 hdp | exact room 3 hdp | exact room 4 hdp | exact room 8 hun | exact room 16 hun | exact room 24 hun | exact room 32 hun | exact room 64 hun | exact room 65 hun | exact room 2 hun | exact Nat.lt_of_le_of_lt (Nat.le_add_right _ _) hun | ((try dsimp +zetaDelta only [Ar, Around.deeper, Around.mark]); omega))); (case kuq8 => (first | exact room 1 hdp | exact room 2 hdp | exact room 3 hdp | exact room 4 hdp | exact room 8 hun | exact room 16 hun | exact room 24 hun | exact room 32 hun | exact room 64 hun | exact room 65 hun | exact room 2 hun | exact Nat.lt_of_le_of_lt (Nat.le_add_right _ _) hun | ((try dsimp +zetaDelta only [Ar, Around.deeper, Around.mark]); omega)));  skip); intro h'q9 tk'q9 hk'q9; ((with_reducible rename Fr _ _ _ _ => kFq9); (with_reducible rename News _ _ _ _ => kNq9); (with_reducible rename Keeps _ _ => hk'q9); (have F'q9 := Fr.after kFq9 hk'q9); (have N'q9 := newsKeeps kNq9 hk'q9); clear hk'q9; clear kNq9 kFq9; (try dsimp only); (try k_fold)))) | (with_reducible ((with_reducible show wpAny _ _ (call (Value.ref 70) [Value.bytes _ _]) _ _ _); (with_reducible rename Fr _ _ _ _ => kFq9); k_dflt (refine' buffer_con (Cx.push (by assumption) kFq9 rfl) ?kdq8 ?kuq8  ?_; (case kdq8 => (first | exact room 1 hdp | exact room 2 hdp | exact room 3 hdp | exact room 4 hdp | exact room 8 hun | exact room 16 hun | exact room 24 hun | exact room 32 hun | exact room 64 hun | exact room 65 hun | exact room 2 hun | exact Nat.lt_of_le_of_lt (Nat.le_add_right _ _) hun | ((try dsimp +zetaDelta only [Ar, Around.deeper, Around.mark]); omega))); (case kuq8 => (first | exact room 1 hdp | exact room 2 hdp | exact room 3 hdp | exact room 4 hdp | exact room 8 hun | exact room 16 hun | exact room 24 hun | exact room 32 hun | exact room 64 hun | exact room 65 hun | exact room 2 hun | exact Nat.lt_of_le_of_lt (Nat.le_add_right _ _) hun | ((try dsimp +zetaDelta only [Ar, Around.deeper, Around.mark]); omega)));  skip); intro h'q9 tk'q9 hk'q9; ((with_reducible rename Fr _ _ _ _ => kFq9); (with_reducible rename News _ _ _ _ => kNq9); (with_reducible rename Keeps _ _ => hk'q9); (have F'q9 := Fr.after kFq9 hk'q9); (have N'q9 := newsKeeps kNq9 hk'q9); clear hk'q9; clear kNq9 kFq9; (try dsimp only); (try k_fold)))) | ((with_reducible show wpAny _ _ (call _ [Value.bytes _ _]) _ _ _); refine call_type_of (Tx := "bytes") rfl (by decide +kernel) ?_) | (with_reducible ((with_reducible show wpAny _ _ (storeName _ _ _) _ _ _); k_dflt (refine' storeM ?Fq7 ?Nq7 ?_ ?aq7 ?bq7; (case Fq7 => k_asm); (case Nq7 => k_asm); (case aq7 => rfl); (case bq7 => rfl); k_whole; intro m'q7 h'q7 F'q7 N'q7; (try k_sweep)))) | (with_reducible ((with_reducible show wpAny _ _ (eval (PySem.Expr.Name _ _) _) _ _ _); k_dflt (refine' nameX_L ?Fq7 ?vq7 ?_ ?aq7 ?bq7; (case Fq7 => k_asm); (case aq7 => rfl); (case bq7 => rfl); (case vq7 => exact Eq.refl (some _)); k_whole))) | ((with_reducible show InvEnd _ _ _ _ _ _); ((with_reducible rename Fr _ _ _ _ => kFq7); first | ((dsimp +zetaDelta only at kFq7); (try dsimp +zetaDelta only)) | dsimp +zetaDelta only)) | ((with_reducible show InvEndG _ _ _ _ _ _); ((with_reducible rename Fr _ _ _ _ => kFq7); first | ((dsimp +zetaDelta only at kFq7); (try dsimp +zetaDelta only)) | dsimp +zetaDelta only)) | walk1 | (dsimp only; walk1) | (leave1; (try dsimp only)) | fail "no step") <;> (repeat ((fail_if_success (fail_if_success ((generalize qx = zq); (with_reducible show zq _ _)))); k_unfold; (try clear qx); (try (first | refine wpI (P := wpAny _ _ _ _ _ ⟨_, s.gens, s.drawn, _, s.os⟩) ?_ | refine wpI (P := wpAny _ _ _ _ _ _) ?_)); (try dsimp only)))))
  rename Fr _ _ _ _ => F
  exact ret _ _ F.keep
section
variable {prog : Program} {w : World} {A : Around} {s : Shared} {Q : Value → Shared → Prop} {E : Value → Shared → Prop} {a b n : Int} {t u : Tok}
theorem and_V (hb : 0 ≤ b) (h : ∀ c v k, c = Builtin.bitAnd a b → 0 ≤ c → c ≤ b → Q (.int c v) { s with toks := k }) : wpAny (model prog w) A (binaryOp .BitAnd (.int a t) (.int b u)) Q E s :=
  and_int (h _ _ _ rfl (bitAnd_range a hb).1 (bitAnd_range a hb).2)
theorem or_V (h : ∀ c v k, c = Builtin.bitOr a b → Q (.int c v) { s with toks := k }) : wpAny (model prog w) A (binaryOp .BitOr (.int a t) (.int b u)) Q E s :=
  or_int (h _ _ _ rfl)
theorem shl_V (hn : 0 ≤ n) (hn2 : n ≤ 1000000) (ha : a.natAbs < 2 ^ 64) (h : ∀ c v k, c = a * 2 ^ n.toNat → Q (.int c v) { s with toks := k }) : wpAny (model prog w) A (binaryOp .LShift (.int a t) (.int n u)) Q E s :=
  lshift_int_small hn hn2 ha (h _ _ _ rfl)
theorem shr_V (hn : 0 ≤ n) (h : ∀ c v k, c = a.fdiv (2 ^ n.toNat) → Q (.int c v) { s with toks := k }) : wpAny (model prog w) A (binaryOp .RShift (.int a t) (.int n u)) Q E s :=
  rshift_int hn (h _ _ _ rfl)
theorem tab_V {x : List UInt8} {i : Int} {t ui : Tok} {value slice : PySem.Expr} (hfit : x.length ≤ 1099511627776) (h0 : 0 ≤ i) (h1 : i < (x.length : Int))
    (h : ∀ c v k, c = (((x.getD i.toNat 0).toNat : Nat) : Int) → 0 ≤ c → c < 256 → Q (.int c v) { s with toks := k })
    (hs : subscripted slice false (.bytes x.toArray t) (.int i ui) = operate [.bytes x.toArray t, .int i ui] (getItem (.bytes x.toArray t) (.int i ui)) := by with_unfolding_all rfl)
    (ht : ∀ r, letTemporaryGo value (.bytes x.toArray t) r = pure () := by intro _; with_unfolding_all rfl) : wpAny (model prog w) A (subscriptTail value slice (.bytes x.toArray t) (.int i ui)) Q E s :=
  bytes_item_K hfit h0 h1 rfl (h _ _ _ rfl (by omega) (by have := (x.getD i.toNat 0).toNat_lt; omega)) hs ht
end
theorem bytes4 {prog : Program} {w : World} {A : Around} {s : Shared} {Q : Value → Shared → Prop} {E : Value → Shared → Prop} {h₀ : Heap} {L l : Addr} {m : Str → Option Value} {news : List (Addr × Obj)} {a b c d : Int} {ta tb tc td : Tok} {k : Nat}
    (F : Fr h₀ L s.heap m) (N : News h₀ L s.heap ((l, listOf #[.int a ta, .int b tb, .int c tc, .int d td] k) :: news)) (hh : A.handled = none) (ha : 0 ≤ a ∧ a < 256) (hb : 0 ≤ b ∧ b < 256) (hc : 0 ≤ c ∧ c < 256) (hd : 0 ≤ d ∧ d < 256)
    (h : ∀ h' t k, Fr h₀ L h' m → Q (.bytes #[a.toNat.toUInt8, b.toNat.toUInt8, c.toNat.toUInt8, d.toNat.toUInt8] t) { s with heap := h', toks := k }) : wpAny (model prog w) A (call (.type "bytes") [.ref l]) Q E s := by
  refine bytes_K F N (vs := [.int a ta, .int b tb, .int c tc, .int d td]) (ns := [a, b, c, d]) ⟨_, (N _ (.head _)).1, rfl, _, rfl⟩ (.cons _ _ (.cons _ _ (.cons _ _ (.cons _ _ .nil)))) ?_ (by rw [sizeLine_eq]; simp) hh fun h' t k F' _ _ => h h' t k F'
  intro n hn
  simp only [List.mem_cons, List.not_mem_nil, or_false] at hn
  rcases hn with rfl | rfl | rfl | rfl <;> assumption
def tabI (i : Int) : Int := ((([65, 66, 67, 68, 69, 70, 71, 72, 73, 74, 75, 76, 77, 78, 79, 80, 81, 82, 83, 84, 85, 86, 87, 88, 89, 90, 97, 98, 99, 100, 101, 102, 103, 104, 105, 106, 107, 108, 109, 110, 111, 112, 113, 114, 115, 116, 117, 118, 119, 120, 121, 122, 48, 49, 50, 51, 52, 53, 54, 55, 56, 57, 43, 47] : List UInt8).getD i.toNat 0).toNat : Int)
def enc2 (x y : Int) : List Int :=
  [tabI (Builtin.bitAnd ((Builtin.bitAnd (Builtin.bitOr (0 * 256) x) 65535).fdiv (2 ^ (0 + 8 - 6 : Int).toNat)) 63),
   tabI (Builtin.bitAnd ((Builtin.bitAnd (Builtin.bitOr ((Builtin.bitAnd (Builtin.bitOr (0 * 256) x) 65535) * 256) y) 65535).fdiv (2 ^ (0 + 8 - 6 + 8 - 6 : Int).toNat)) 63),
   tabI (Builtin.bitAnd (Builtin.bitAnd (Builtin.bitOr ((Builtin.bitAnd (Builtin.bitOr (0 * 256) x) 65535) * 256) y) 65535) 15 * 4), 61]
def bytesOf (l : List Int) : Array UInt8 := (l.map fun n => n.toNat.toUInt8).toArray
theorem bInts_two (x y : UInt8) : KBw.bInts #[x, y] = [(x.toNat : Int), (y.toNat : Int)] := rfl
theorem b2a_con {w : World} {dp un : Nat} {gd : Option (List Code)} {base : Heap} {outer : List Env} {mean : ExcName → Option Value} {mg mb : Str → Option Value} {s : Shared} {Q E : Value → Shared → Prop}
    {x y : UInt8} {t : Tok}
    (C : Cx w (Ar dp un gd outer) s.heap base outer mean mg mb) (hdp : dp + 2 < recursionLimit) (hun : un + 16 < cLine)
    
    (ret : ∀ t' h' tk', Keeps s.heap h' → Q (.bytes (bytesOf (enc2 x.toNat y.toNat)) t') { s with heap := h', toks := tk' }) :
    wpAny (model PySem.Challenge.rw_qh0049_01.row.prog w) (Ar dp un gd outer) (call (.ref 100) [.bytes #[x, y] t] [(Str.ofString "newline", .bool false)]) Q E s := by
  have KX := C.X
  revert KX
  k_fill
  intro KX
  have KT := C.T
  w_on
  refine' enterP (binds := [(Str.ofString "data", .bytes #[x, y] t), (Str.ofString "newline", .bool false)]) KX KT ?k6 ?k7 ?k8 ?k9 ?kB ?_ ?c2 ?c3 ?c4 ?c5
  (k_dflt ((case k6 => k_is); (case k7 => k_is); (case k8 => exact Nat.lt_of_le_of_lt (Nat.le_add_right _ _) hdp); (case k9 => first | exact BindsTo.of_eq rfl | exact binds_K (by assumption) rfl (by k_is) rfl rfl rfl); (case c5 => decide); (case kB => exact locs rfl); (case c2 => exact rfl); (case c3 => exact rfl); (case c4 => exact rfl)))
  intro Lf ev Ak m0 h1 F N
  (try k_fold)
  (repeat' ((try ((with_reducible show wpAny _ _ (execs _ _) _ _ _); k_gentoks)); (try ((with_reducible show wpAny _ _ (exec _ _) _ _ _); (with_reducible refine foldQ ?_); intro qx)); (first | (k_unfold; (try (first | refine wpI (P := wpAny _ _ _ _ _ ⟨_, s.gens, s.drawn, _, s.os⟩) ?_ | refine wpI (P := wpAny _ _ _ _ _ _) ?_)); (try dsimp only)) | (k_end; wrow_close) | (with_reducible ((with_reducible show wpAny _ _ (call (Value.type "bytes") [Value.ref _]) _ _ _); k_dflt (refine' bytes4 ?Fq8 ?Nq8 ?hhq8 ?aq8 ?bq8 ?cq8 ?dq8 ?_; (case Fq8 => assumption); (case Nq8 => assumption); (case hhq8 => exact rfl); (case aq8 => exact ⟨by omega, by omega⟩); (case bq8 => exact ⟨by omega, by omega⟩); (case cq8 => exact ⟨by omega, by omega⟩); (case dq8 => exact ⟨by omega, by omega⟩)); intro h'q9 t'q9 k'q9 F'q9)) | (with_reducible ((with_reducible show wpAny _ _ (subscriptTail _ _ (Value.bytes _ _) (Value.int _ _)) _ _ _); refine tab_V (by simp only [List.length_cons, List.length_nil]; omega) (by omega) (by simp only [List.length_cons, List.length_nil]; omega) ?_; intro c'q9 v'q9 k'q9 hc'q9 hlo'q9 hhi'q9)) | (with_reducible ((with_reducible show wpAny _ _ (binaryOp PySem.Operator.RShift (Value.int _ _) (Value.int _ _)) _ _ _); (refine shr_V (by first | omega | decide) ?_; intro c'q9 v'q9 k'q9 hc'q9))) | (with_reducible ((with_reducible show wpAny _ _ (binaryOp PySem.Operator.LShift (Value.int _ _) (Value.int _ _)) _ _ _); (refine shl_V (by first | omega | decide) (by first | omega | decide) (by omega) ?_; intro c'q9 v'q9 k'q9 hc'q9; (simp only [show ((2 : Int) ^ Int.toNat 8) = 256 from rfl, show ((2 : Int) ^ Int.toNat 2) = 4 from rfl, show ((2 : Int) ^ Int.toNat 4) = 16 from rfl, show ((2 : Int) ^ Int.toNat 6) = 64 from rfl] at hc'q9)))) | (with_reducible ((with_reducible show wpAny _ _ (binaryOp PySem.Operator.BitOr (Value.int _ _) (Value.int _ _)) _ _ _); (refine or_V ?_; intro c'q9 v'q9 k'q9 hc'q9))) | (with_reducible ((with_reducible show wpAny _ _ (binaryOp PySem.Operator.BitAnd (Value.int _ _) (Value.int _ _)) _ _ _); (refine and_V (by first | omega | decide) ?_; intro c'q9 v'q9 k'q9 hc'q9 hlo'q9 hhi'q9))) | (with_reducible ((with_reducible show wpAny _ _ (call (Value.ref 77) [Value.bool false]) _ _ _); (with_reducible rename Fr _ _ _ _ => kFq9); k_dflt (refine' truth_con (Cx.push (by assumption) kFq9 rfl) ?kdq8 ?kuq8  ?_; (case kdq8 => (first | exact room 1 hdp | exact room 2 hdp | exact room 3 hdp | exact room 4 hdp | exact room 8 hun | exact room 16 hun | exact room 24 hun | exact room 32 hun | exact room 64 hun | exact room 65 hun | exact room 2 hun | exact Nat.lt_of_le_of_lt (Nat.le_add_right _ _) hun | ((try dsimp +zetaDelta only [Ar, Around.deeper, Around.mark]); omega))); (case kuq8 => (first | exact room 1 hdp | exact room 2 hdp | exact room 3 hdp | exact room 4 hdp | exact room 8 hun | exact room 16 hun | exact room 24 hun | exact room 32 hun | exact room 64 hun | exact room 65 hun | exact room 2 hun | exact Nat.lt_of_le_of_lt (Nat.le_add_right _ _) hun | ((try dsimp +zetaDelta only [Ar, Around.deeper, Around.mark]); omega)));  skip); intro h'q9 tk'q9 hk'q9; ((with_reducible rename Fr _ _ _ _ => kFq9); (with_reducible rename News _ _ _ _ => kNq9); (with_reducible rename Keeps _ _ => hk'q9); (have F'q9 := Fr.after kFq9 hk'q9); (have N'q9 := newsKeeps kNq9 hk'q9); clear hk'q9; clear kNq9 kFq9; (try dsimp only); (try k_fold)))) | (with_reducible ((with_reducible show wpAny _ _ (call (Value.ref 70) [Value.bytes _ _]) _ _ _); (with_reducible rename Fr _ _ _ _ => kFq9); k_dflt (refine' buffer_con (Cx.push (by assumption) kFq9 rfl) ?kdq8 ?kuq8  ?_; (case kdq8 => (first | exact room 1 hdp | exact room 2 hdp | exact room 3 hdp | exact room 4 hdp | exact room 8 hun | exact room 16 hun | exact room 24 hun | exact room 32 hun | exact room 64 hun | exact room 65 hun | exact room 2 hun | exact Nat.lt_of_le_of_lt (Nat.le_add_right _ _) hun | ((try dsimp +zetaDelta only [Ar, Around.deeper, Around.mark]); omega))); (case kuq8 => (first | exact room 1 hdp | exact room 2 hdp | exact room 3 hdp | exact room 4 hdp | exact room 8 hun | exact room 16 hun | exact room 24 hun | exact room 32 hun | exact room 64 hun | exact room 65 hun | exact room 2 hun | exact Nat.lt_of_le_of_lt (Nat.le_add_right _ _) hun | ((try dsimp +zetaDelta only [Ar, Around.deeper, Around.mark]); omega)));  skip); intro h'q9 tk'q9 hk'q9; ((with_reducible rename Fr _ _ _ _ => kFq9); (with_reducible rename News _ _ _ _ => kNq9); (with_reducible rename Keeps _ _ => hk'q9); (have F'q9 := Fr.after kFq9 hk'q9); (have N'q9 := newsKeeps kNq9 hk'q9); clear hk'q9; clear kNq9 kFq9; (try dsimp only); (try k_fold)))) | ((with_reducible show wpAny _ _ (call _ [Value.bytes _ _]) _ _ _); refine call_type_of (Tx := "bytes") rfl (by decide +kernel) ?_) | (with_reducible ((with_reducible show wpAny _ _ (storeName _ _ _) _ _ _); k_dflt (refine' storeM ?Fq7 ?Nq7 ?_ ?aq7 ?bq7; (case Fq7 => k_asm); (case Nq7 => k_asm); (case aq7 => rfl); (case bq7 => rfl); k_whole; intro m'q7 h'q7 F'q7 N'q7; (try k_sweep)))) | (with_reducible ((with_reducible show wpAny _ _ (eval (PySem.Expr.Name _ _) _) _ _ _); k_dflt (refine' nameX_L ?Fq7 ?vq7 ?_ ?aq7 ?bq7; (case Fq7 => k_asm); (case aq7 => rfl); (case bq7 => rfl); (case vq7 => exact Eq.refl (some _)); k_whole))) | ((with_reducible show InvEnd _ _ _ _ _ _); ((with_reducible rename Fr _ _ _ _ => kFq7); first | ((dsimp +zetaDelta only at kFq7); (try dsimp +zetaDelta only)) | dsimp +zetaDelta only)) | ((with_reducible show InvEndG _ _ _ _ _ _); ((with_reducible rename Fr _ _ _ _ => kFq7); first | ((dsimp +zetaDelta only at kFq7); (try dsimp +zetaDelta only)) | dsimp +zetaDelta only)) | walk1 | (dsimp only; walk1) | (leave1; (try dsimp only)) | fail "no step") <;> (repeat ((fail_if_success (fail_if_success ((generalize qx = zq); (with_reducible show zq _ _)))); k_unfold; (try clear qx); (try (first | refine wpI (P := wpAny _ _ _ _ _ ⟨_, s.gens, s.drawn, _, s.os⟩) ?_ | refine wpI (P := wpAny _ _ _ _ _ _) ?_)); (try dsimp only)))))
  rename Fr _ _ _ _ => F
  rename News _ _ _ _ => N
  refine iter_bytesUnr (l := [(x.toNat : Int), (y.toNat : Int)]) rfl F N rfl ?_
  intro i' l1
  k_lt l1
  (repeat' ((try ((with_reducible show wpAny _ _ (execs _ _) _ _ _); k_gentoks)); (try ((with_reducible show wpAny _ _ (exec _ _) _ _ _); (with_reducible refine foldQ ?_); intro qx)); (first | (k_unfold; (try (first | refine wpI (P := wpAny _ _ _ _ _ ⟨_, s.gens, s.drawn, _, s.os⟩) ?_ | refine wpI (P := wpAny _ _ _ _ _ _) ?_)); (try dsimp only)) | (k_end; wrow_close) | (with_reducible ((with_reducible show wpAny _ _ (call (Value.type "bytes") [Value.ref _]) _ _ _); k_dflt (refine' bytes4 ?Fq8 ?Nq8 ?hhq8 ?aq8 ?bq8 ?cq8 ?dq8 ?_; (case Fq8 => assumption); (case Nq8 => assumption); (case hhq8 => exact rfl); (case aq8 => exact ⟨by omega, by omega⟩); (case bq8 => exact ⟨by omega, by omega⟩); (case cq8 => exact ⟨by omega, by omega⟩); (case dq8 => exact ⟨by omega, by omega⟩)); intro h'q9 t'q9 k'q9 F'q9)) | (with_reducible ((with_reducible show wpAny _ _ (subscriptTail _ _ (Value.bytes _ _) (Value.int _ _)) _ _ _); refine tab_V (by simp only [List.length_cons, List.length_nil]; omega) (by omega) (by simp only [List.length_cons, List.length_nil]; omega) ?_; intro c'q9 v'q9 k'q9 hc'q9 hlo'q9 hhi'q9)) | (with_reducible ((with_reducible show wpAny _ _ (binaryOp PySem.Operator.RShift (Value.int _ _) (Value.int _ _)) _ _ _); (refine shr_V (by first | omega | decide) ?_; intro c'q9 v'q9 k'q9 hc'q9))) | (with_reducible ((with_reducible show wpAny _ _ (binaryOp PySem.Operator.LShift (Value.int _ _) (Value.int _ _)) _ _ _); (refine shl_V (by first | omega | decide) (by first | omega | decide) (by omega) ?_; intro c'q9 v'q9 k'q9 hc'q9; (simp only [show ((2 : Int) ^ Int.toNat 8) = 256 from rfl, show ((2 : Int) ^ Int.toNat 2) = 4 from rfl, show ((2 : Int) ^ Int.toNat 4) = 16 from rfl, show ((2 : Int) ^ Int.toNat 6) = 64 from rfl] at hc'q9)))) | (with_reducible ((with_reducible show wpAny _ _ (binaryOp PySem.Operator.BitOr (Value.int _ _) (Value.int _ _)) _ _ _); (refine or_V ?_; intro c'q9 v'q9 k'q9 hc'q9))) | (with_reducible ((with_reducible show wpAny _ _ (binaryOp PySem.Operator.BitAnd (Value.int _ _) (Value.int _ _)) _ _ _); (refine and_V (by first | omega | decide) ?_; intro c'q9 v'q9 k'q9 hc'q9 hlo'q9 hhi'q9))) | (with_reducible ((with_reducible show wpAny _ _ (call (Value.ref 77) [Value.bool false]) _ _ _); (with_reducible rename Fr _ _ _ _ => kFq9); k_dflt (refine' truth_con (Cx.push (by assumption) kFq9 rfl) ?kdq8 ?kuq8  ?_; (case kdq8 => (first | exact room 1 hdp | exact room 2 hdp | exact room 3 hdp | exact room 4 hdp | exact room 8 hun | exact room 16 hun | exact room 24 hun | exact room 32 hun | exact room 64 hun | exact room 65 hun | exact room 2 hun | exact Nat.lt_of_le_of_lt (Nat.le_add_right _ _) hun | ((try dsimp +zetaDelta only [Ar, Around.deeper, Around.mark]); omega))); (case kuq8 => (first | exact room 1 hdp | exact room 2 hdp | exact room 3 hdp | exact room 4 hdp | exact room 8 hun | exact room 16 hun | exact room 24 hun | exact room 32 hun | exact room 64 hun | exact room 65 hun | exact room 2 hun | exact Nat.lt_of_le_of_lt (Nat.le_add_right _ _) hun | ((try dsimp +zetaDelta only [Ar, Around.deeper, Around.mark]); omega)));  skip); intro h'q9 tk'q9 hk'q9; ((with_reducible rename Fr _ _ _ _ => kFq9); (with_reducible rename News _ _ _ _ => kNq9); (with_reducible rename Keeps _ _ => hk'q9); (have F'q9 := Fr.after kFq9 hk'q9); (have N'q9 := newsKeeps kNq9 hk'q9); clear hk'q9; clear kNq9 kFq9; (try dsimp only); (try k_fold)))) | (with_reducible ((with_reducible show wpAny _ _ (call (Value.ref 70) [Value.bytes _ _]) _ _ _); (with_reducible rename Fr _ _ _ _ => kFq9); k_dflt (refine' buffer_con (Cx.push (by assumption) kFq9 rfl) ?kdq8 ?kuq8  ?_; (case kdq8 => (first | exact room 1 hdp | exact room 2 hdp | exact room 3 hdp | exact room 4 hdp | exact room 8 hun | exact room 16 hun | exact room 24 hun | exact room 32 hun | exact room 64 hun | exact room 65 hun | exact room 2 hun | exact Nat.lt_of_le_of_lt (Nat.le_add_right _ _) hun | ((try dsimp +zetaDelta only [Ar, Around.deeper, Around.mark]); omega))); (case kuq8 => (first | exact room 1 hdp | exact room 2 hdp | exact room 3 hdp | exact room 4 hdp | exact room 8 hun | exact room 16 hun | exact room 24 hun | exact room 32 hun | exact room 64 hun | exact room 65 hun | exact room 2 hun | exact Nat.lt_of_le_of_lt (Nat.le_add_right _ _) hun | ((try dsimp +zetaDelta only [Ar, Around.deeper, Around.mark]); omega)));  skip); intro h'q9 tk'q9 hk'q9; ((with_reducible rename Fr _ _ _ _ => kFq9); (with_reducible rename News _ _ _ _ => kNq9); (with_reducible rename Keeps _ _ => hk'q9); (have F'q9 := Fr.after kFq9 hk'q9); (have N'q9 := newsKeeps kNq9 hk'q9); clear hk'q9; clear kNq9 kFq9; (try dsimp only); (try k_fold)))) | ((with_reducible show wpAny _ _ (call _ [Value.bytes _ _]) _ _ _); refine call_type_of (Tx := "bytes") rfl (by decide +kernel) ?_) | (with_reducible ((with_reducible show wpAny _ _ (storeName _ _ _) _ _ _); k_dflt (refine' storeM ?Fq7 ?Nq7 ?_ ?aq7 ?bq7; (case Fq7 => k_asm); (case Nq7 => k_asm); (case aq7 => rfl); (case bq7 => rfl); k_whole; intro m'q7 h'q7 F'q7 N'q7; (try k_sweep)))) | (with_reducible ((with_reducible show wpAny _ _ (eval (PySem.Expr.Name _ _) _) _ _ _); k_dflt (refine' nameX_L ?Fq7 ?vq7 ?_ ?aq7 ?bq7; (case Fq7 => k_asm); (case aq7 => rfl); (case bq7 => rfl); (case vq7 => exact Eq.refl (some _)); k_whole))) | ((with_reducible show InvEnd _ _ _ _ _ _); ((with_reducible rename Fr _ _ _ _ => kFq7); first | ((dsimp +zetaDelta only at kFq7); (try dsimp +zetaDelta only)) | dsimp +zetaDelta only)) | ((with_reducible show InvEndG _ _ _ _ _ _); ((with_reducible rename Fr _ _ _ _ => kFq7); first | ((dsimp +zetaDelta only at kFq7); (try dsimp +zetaDelta only)) | dsimp +zetaDelta only)) | walk1 | (dsimp only; walk1) | (leave1; (try dsimp only)) | fail "no step") <;> (repeat ((fail_if_success (fail_if_success ((generalize qx = zq); (with_reducible show zq _ _)))); k_unfold; (try clear qx); (try (first | refine wpI (P := wpAny _ _ _ _ _ ⟨_, s.gens, s.drawn, _, s.os⟩) ?_ | refine wpI (P := wpAny _ _ _ _ _ _) ?_)); (try dsimp only)))))
  rename Fr _ _ _ _ => F
  rename News _ _ _ _ => N
  refine (?_ : ∀ (a b c d : Int) t h' tk, [a, b, c, d] = enc2 x.toNat y.toNat → Keeps s.heap h' → Q (.bytes #[a.toNat.toUInt8, b.toNat.toUInt8, c.toNat.toUInt8, d.toNat.toUInt8] t) { s with heap := h', toks := tk }) _ _ _ _ _ _ _ ?e F.keep
  · intro a b c d t h' tk e hk
    have := ret t h' tk hk
    rw [← e] at this
    exact this
  · clear F N; subst_vars; rfl
end Mine
end
section
open PySem PySem.W PyProof.Rows
set_option maxRecDepth 100000
set_option maxHeartbeats 8000000
namespace Mine
section
variable {prog : Program} {w : World} {A : Around} {E : Value → Shared → Prop} {s : Shared}
theorem bytes_len_lookup : typeLookup (.type "bytes") "__len__" = pure (some (.builtin "bytes.__len__")) := by rw [typeLookup_type, builtinLookup_eq_fast]; kernel_rfl
abbrev ByteAt (b : Array UInt8) : Nat → Value → Prop := fun i v => ∃ c u, b[i]? = some c ∧ v = .int (c.toNat : Int) u
theorem extend_bytes {R : Result → Shared → Prop} (hh : A.handled = none) (x : Array UInt8) (t : Tok) (S : Addr) (res : Value) (c₀ : Nat) (hS : s.heap.get? S = some { cls := .type "list", data := .seq #[] c₀ })
    (hR : ∀ h' tk acc' c', (∀ b o, b ≠ S → s.heap.get? b = some o → h'.get? b = some o) → h'.get? S = some { cls := .type "list", dict := none, data := .seq acc' c', slots := #[] } →
      ItemsOf (ByteAt x) acc' x.size → R (.ok (.ret res)) { s with heap := h', toks := tk }) (hn : x.size ≤ sizeLine) :
    wpAny (model prog w) A.in1 (Builtin.List.listExtendWith (.ref S) (.bytes x t) res)
      (fun fin s' => match fin with | .done f => R (.ok f) s' | .again c' => c'.quiet = true ∧ codeAny (model prog w) A c' R s') (fun e s' => R (.error e) s') s := by
  have hSI : S ≠ s.heap.objs.size := Nat.ne_of_lt (Heap.lt_size hS)
  have hSf : S ∉ [s.heap.objs.size] := fun hm => hSI (List.mem_singleton.mp hm)
  unfold Builtin.List.listExtendWith
  refine wpAny_bind (wpAny_typeOf (T := "bytes") (v := .bytes x t) rfl ?_)
  have h1 : Builtin.List.listSameRef (.ref S) (.bytes x t) = false := rfl
  have h2 : (Value.type "bytes" == Value.type "list") = false := by decide
  have h3 : (Value.type "bytes" == Value.type "tuple") = false := by decide
  simp only [h1, h2, h3, Bool.or_false, Bool.false_eq_true, if_false]
  refine wpAny_bind (KBw.pyIter_bytes ?_)
  refine wpAny_bind (wpAny_holding ?_)
  unfold Builtin.List.listLengthHint
  refine wpAny_bind (wpAny_specialOf (T := "bytes") (v := .bytes x t) rfl bytes_len_lookup ?_)
  wp_delta
  refine wpAny_bind (wpAny_isInstance (T := "bytes") (v := .bytes x t) (b := true) rfl (by rw [isSubtype_type]; kernel_rfl) ?_)
  show wpAny _ _ (typeOf (Value.bytes x t) >>= _) _ _ _
  refine wpAny_bind (wpAny_typeOf (T := "bytes") (v := .bytes x t) rfl ?_)
  refine wpAny_pure ?_
  rw [if_neg (by decide)]
  have W := KBw.walks (prog := prog) (w := w) (A := A.in1) hh s.heap.objs.size x t
  refine wpAny_pure ⟨plainId_quiet F.plain_extend_loop _, codeAny_extend_loopS W.toS hn _ hSf _ x.size 0 _ _ _ rfl (Nat.zero_le _) ⟨_, Heap.get?_push_size _ rfl, rfl, rfl⟩ (Heap.get?_push_of_some _ hS) (ItemsOf.nil _) fun s' acc' c' hm hS' hacc => ?_⟩
  rw [Moved.eq_with hm]
  refine hR s'.heap s'.toks acc' c' (fun b ob hb e => hm.heap b ob (fun hmem => ?_) (Heap.get?_push_of_some _ e)) hS' hacc
  rcases List.mem_cons.mp hmem with e' | hmem
  · exact hb e'
  · exact absurd (Heap.lt_size e) (by rw [List.mem_singleton.mp hmem]; exact Nat.lt_irrefl _)
theorem list_init_bytes {R : Result → Shared → Prop} (hh : A.handled = none) (x : Array UInt8) (t : Tok) (S : Addr) (hS : s.heap.get? S = some { cls := .type "list", data := .seq #[] })
    (hR : ∀ h' tk acc' c', (∀ b o, b ≠ S → s.heap.get? b = some o → h'.get? b = some o) → h'.get? S = some { cls := .type "list", dict := none, data := .seq acc' c', slots := #[] } →
      ItemsOf (ByteAt x) acc' x.size → R (.ok (.ret .none)) { s with heap := h', toks := tk }) (hn : x.size ≤ sizeLine) :
    wpAny (model prog w) A.in1 (Builtin.«list.__init__» ⟨[.ref S, .bytes x t], []⟩)
      (fun fin s' => match fin with | .done f => R (.ok f) s' | .again c' => c'.quiet = true ∧ codeAny (model prog w) A c' R s') (fun e s' => R (.error e) s') s := by
  show wpAny _ _ (do let old ← Builtin.List.listItems (.ref S); Builtin.List.listUpdate (.ref S) (fun _ => #[]); letGo old.toList.reverse; Builtin.List.listExtendWith (.ref S) (.bytes x t) .none) _ _ s
  refine wpAny_bind ?_
  unfold Builtin.List.listItems
  refine wpAny_bind (wpAny_seqItems hS rfl (wpAny_pure ?_))
  show wpAny _ _ (updateSeq S (fun _ => #[]) >>= fun _ => letGo (#[] : Array Value).toList.reverse >>= fun _ => Builtin.List.listExtendWith (.ref S) (.bytes x t) .none) _ _ s
  refine wpAny_bind (wpAny_updateSeq hS rfl ?_)
  have hS₂ := Heap.get?_update_self (Obj.mapSeq (fun _ => (#[] : Array Value))) hS rfl
  have oth : ∀ b o, b ≠ S → s.heap.get? b = some o → (s.heap.update S (Obj.mapSeq (fun _ => (#[] : Array Value)))).get? b = some o :=
    fun b o hb e => (Heap.get?_update_other _ _ (Ne.symm hb)).trans e
  refine wpAny_bind (wpAny_letGo ?_)
  refine extend_bytes (hn := hn) hh x t S .none _ hS₂ fun h' tk acc' c' hk hS' hacc => ?_
  exact hR h' tk acc' c' (fun b o hb e => hk b o hb (oth b o hb e)) hS' hacc
theorem call_list_bytes {Q : Value → Shared → Prop} (hh : A.handled = none) (x : Array UInt8) (t : Tok)
    (hQ : ∀ h' tk acc' c', (∀ b o, s.heap.get? b = some o → h'.get? b = some o) →
      h'.get? s.heap.objs.size = some (listOf acc' c') → ItemsOf (ByteAt x) acc' x.size → Q (.ref s.heap.objs.size) { s with heap := h', toks := tk }) (hn : x.size ≤ sizeLine) :
    wpAny (model prog w) A (call (.type "list") [.bytes x t]) Q E s := by
  refine callType_codes (Q₁ := fun obj s₁ => obj = .ref s.heap.objs.size ∧ s₁ = { s with heap := s.heap.push { cls := .type "list", data := .seq #[] } }) F.called_list (F.typeCall_list_1 _) F.entry_list_init
    (code_list_new _ ⟨rfl, rfl⟩) fun obj s₁ h₁ => ?_
  obtain ⟨rfl, rfl⟩ := h₁
  have hS : (s.heap.push { cls := .type "list", data := .seq #[] }).get? s.heap.objs.size = some { cls := .type "list", data := .seq #[] } := Heap.get?_push_size _ rfl
  refine ⟨⟨_, hS, rfl⟩, F.args_list_init_2 _ _, list_init_bytes (A := A.in1) (hn := hn) hh x t _ hS fun h' tk acc' c' hk hS' hacc => ?_⟩
  exact ⟨rfl, hQ h' tk acc' c' (fun b o e => hk b o (Nat.ne_of_lt (Heap.lt_size e)) (Heap.get?_push_of_some _ e)) hS' hacc⟩
/-- the list that list(b) makes, on the ledger -/
theorem list_bytes_K {Q : Value → Shared → Prop} {h₀ : Heap} {L : Addr} {m : Str → Option Value} {news : List (Addr × Obj)} {x : Array UInt8} {t : Tok} (F : Fr h₀ L s.heap m) (N : News h₀ L s.heap news) (hh : A.handled = none) (hn : x.size ≤ sizeLine)
    (h : ∀ a vs c h' tk, Fr h₀ L h' m → News h₀ L h' ((a, listOf (List.toArray vs) c) :: news) → (∀ p ∈ news, p.1 ≠ a) → IntsAre vs (KBw.bInts x) → Q (.ref a) { s with heap := h', toks := tk }) :
    wpAny (model prog w) A (call (.type "list") [.bytes x t]) Q E s := by
  refine call_list_bytes hh x t (fun h' tk acc' c' hk hS hacc => ?_) hn
  refine h _ acc'.toList c' h' tk (F.after hk) (newsMore F N hk (by simpa using hS) ?_) (fun p hp => Nat.ne_of_lt (Heap.lt_size (N p hp).1)) ?_
  · cases q : s.heap.get? s.heap.objs.size with
    | none => rfl
    | some o => exact absurd (Heap.lt_size q) (Nat.lt_irrefl _)
  · have key : ∀ (l : List Value) (ys : List UInt8), l.length = ys.length → (∀ (j : Nat) (v : Value), l[j]? = some v → ∃ (c : UInt8) (u : Tok), ys[j]? = some c ∧ v = Value.int (c.toNat : Int) u) → IntsAre l (ys.map fun c => (c.toNat : Int)) := by
      intro l
      induction l with
      | nil => intro ys hl _; cases ys with
        | nil => exact .nil
        | cons _ _ => simp at hl
      | cons v l ih => intro ys hl hv; cases ys with
        | nil => simp at hl
        | cons y ys =>
          obtain ⟨c, u, hc, rfl⟩ := hv 0 v rfl
          have : y = c := by simpa using hc
          subst this
          exact .cons _ _ (ih ys (by simpa using hl) fun j w hw => hv (j + 1) w hw)
    refine key _ x.toList (by simp [hacc.1]) fun j v hv => ?_
    obtain ⟨c, u, hc, e⟩ := hacc.2 j v (by simpa using hv)
    exact ⟨c, u, by simpa using hc, e⟩
end
end Mine
end
section
open PySem PySem.W PyProof.Rows
set_option maxRecDepth 100000
set_option maxHeartbeats 8000000
set_option linter.unusedVariables false
namespace Mine
theorem encode_con {w : World} {dp un : Nat} {gd : Option (List Code)} {base : Heap} {outer : List Env} {mean : ExcName → Option Value} {mg mb : Str → Option Value} {s : Shared} {Q E : Value → Shared → Prop}
    {x y : UInt8} {t : Tok}
    (C : Cx w (Ar dp un gd outer) s.heap base outer mean mg mb) (hdp : dp + 3 < recursionLimit) (hun : un + 24 < cLine)
    
    (ret : ∀ t' h' tk', Keeps s.heap h' → Q (.bytes (bytesOf (enc2 x.toNat y.toNat)) t') { s with heap := h', toks := tk' }) :
    wpAny (model PySem.Challenge.rw_qh0049_01.row.prog w) (Ar dp un gd outer) (call (.ref 108) [.bytes #[x, y] t]) Q E s := by
  have KX := C.X
  revert KX
  k_fill
  intro KX
  have KT := C.T
  w_on
  refine' enterP (binds := [(Str.ofString "s", .bytes #[x, y] t), (Str.ofString "altchars", .none)]) KX KT ?k6 ?k7 ?k8 ?k9 ?kB ?_ ?c2 ?c3 ?c4 ?c5
  (k_dflt ((case k6 => k_is); (case k7 => k_is); (case k8 => exact Nat.lt_of_le_of_lt (Nat.le_add_right _ _) hdp); (case k9 => first | exact BindsTo.of_eq rfl | exact binds_K (by assumption) rfl (by k_is) rfl rfl rfl); (case c5 => decide); (case kB => exact locs rfl); (case c2 => exact rfl); (case c3 => exact rfl); (case c4 => exact rfl)))
  intro Lf ev Ak m0 h1 F N
  (try k_fold)
  (repeat' ((try ((with_reducible show wpAny _ _ (execs _ _) _ _ _); k_gentoks)); (try ((with_reducible show wpAny _ _ (exec _ _) _ _ _); (with_reducible refine foldQ ?_); intro qx)); (first | (k_unfold; (try (first | refine wpI (P := wpAny _ _ _ _ _ ⟨_, s.gens, s.drawn, _, s.os⟩) ?_ | refine wpI (P := wpAny _ _ _ _ _ _) ?_)); (try dsimp only)) | (k_end; wrow_close) | (with_reducible ((with_reducible show wpAny _ _ (call (Value.type "list") [Value.bytes _ _]) _ _ _); k_dflt (refine' list_bytes_K ?Fq8 ?Nq8 ?hhq8 ?zq8 ?_; (case Fq8 => assumption); (case Nq8 => assumption); (case hhq8 => exact rfl); (case zq8 => first | exact enc_size _ _ | assumption)); intro a'q9 vs'q9 c'q9 h'q9 tk'q9 F'q9 N'q9 l1'q9 hi'q9)) | (with_reducible ((with_reducible show wpAny _ _ (call (Value.ref 108) [Value.bytes _ _]) _ _ _); (with_reducible rename Fr _ _ _ _ => kFq9); k_dflt (refine' encode_con (Cx.push (by assumption) kFq9 rfl) ?kdq8 ?kuq8  ?_; (case kdq8 => (first | exact room 1 hdp | exact room 2 hdp | exact room 3 hdp | exact room 4 hdp | exact room 8 hun | exact room 16 hun | exact room 24 hun | exact room 32 hun | exact room 64 hun | exact room 65 hun | exact room 2 hun | exact Nat.lt_of_le_of_lt (Nat.le_add_right _ _) hun | ((try dsimp +zetaDelta only [Ar, Around.deeper, Around.mark]); omega))); (case kuq8 => (first | exact room 1 hdp | exact room 2 hdp | exact room 3 hdp | exact room 4 hdp | exact room 8 hun | exact room 16 hun | exact room 24 hun | exact room 32 hun | exact room 64 hun | exact room 65 hun | exact room 2 hun | exact Nat.lt_of_le_of_lt (Nat.le_add_right _ _) hun | ((try dsimp +zetaDelta only [Ar, Around.deeper, Around.mark]); omega)));  skip); intro t'q9 h'q9 tk'q9 hk'q9; ((with_reducible rename Fr _ _ _ _ => kFq9); (with_reducible rename News _ _ _ _ => kNq9); (with_reducible rename Keeps _ _ => hk'q9); (have F'q9 := Fr.after kFq9 hk'q9); (have N'q9 := newsKeeps kNq9 hk'q9); clear hk'q9; clear kNq9 kFq9; (try dsimp only); (try k_fold)))) | (with_reducible ((with_reducible show wpAny _ _ (call (Value.ref 100) [Value.bytes _ _] _) _ _ _); (with_reducible rename Fr _ _ _ _ => kFq9); k_dflt (refine' b2a_con (Cx.push (by assumption) kFq9 rfl) ?kdq8 ?kuq8  ?_; (case kdq8 => (first | exact room 1 hdp | exact room 2 hdp | exact room 3 hdp | exact room 4 hdp | exact room 8 hun | exact room 16 hun | exact room 24 hun | exact room 32 hun | exact room 64 hun | exact room 65 hun | exact room 2 hun | exact Nat.lt_of_le_of_lt (Nat.le_add_right _ _) hun | ((try dsimp +zetaDelta only [Ar, Around.deeper, Around.mark]); omega))); (case kuq8 => (first | exact room 1 hdp | exact room 2 hdp | exact room 3 hdp | exact room 4 hdp | exact room 8 hun | exact room 16 hun | exact room 24 hun | exact room 32 hun | exact room 64 hun | exact room 65 hun | exact room 2 hun | exact Nat.lt_of_le_of_lt (Nat.le_add_right _ _) hun | ((try dsimp +zetaDelta only [Ar, Around.deeper, Around.mark]); omega)));  skip); intro t'q9 h'q9 tk'q9 hk'q9; ((with_reducible rename Fr _ _ _ _ => kFq9); (with_reducible rename News _ _ _ _ => kNq9); (with_reducible rename Keeps _ _ => hk'q9); (have F'q9 := Fr.after kFq9 hk'q9); (have N'q9 := newsKeeps kNq9 hk'q9); clear hk'q9; clear kNq9 kFq9; (try dsimp only); (try k_fold)))) | ((with_reducible show wpAny _ _ (call _ [Value.bytes _ _]) _ _ _); refine call_type_of (Tx := "bytes") rfl (by decide +kernel) ?_) | (with_reducible ((with_reducible show wpAny _ _ (storeName _ _ _) _ _ _); k_dflt (refine' storeM ?Fq7 ?Nq7 ?_ ?aq7 ?bq7; (case Fq7 => k_asm); (case Nq7 => k_asm); (case aq7 => rfl); (case bq7 => rfl); k_whole; intro m'q7 h'q7 F'q7 N'q7; (try k_sweep)))) | (with_reducible ((with_reducible show wpAny _ _ (eval (PySem.Expr.Name _ _) _) _ _ _); k_dflt (refine' nameX_L ?Fq7 ?vq7 ?_ ?aq7 ?bq7; (case Fq7 => k_asm); (case aq7 => rfl); (case bq7 => rfl); (case vq7 => exact Eq.refl (some _)); k_whole))) | ((with_reducible show InvEnd _ _ _ _ _ _); ((with_reducible rename Fr _ _ _ _ => kFq7); first | ((dsimp +zetaDelta only at kFq7); (try dsimp +zetaDelta only)) | dsimp +zetaDelta only)) | ((with_reducible show InvEndG _ _ _ _ _ _); ((with_reducible rename Fr _ _ _ _ => kFq7); first | ((dsimp +zetaDelta only at kFq7); (try dsimp +zetaDelta only)) | dsimp +zetaDelta only)) | walk1 | (dsimp only; walk1) | (leave1; (try dsimp only)) | fail "no step") <;> (repeat ((fail_if_success (fail_if_success ((generalize qx = zq); (with_reducible show zq _ _)))); k_unfold; (try clear qx); (try (first | refine wpI (P := wpAny _ _ _ _ _ ⟨_, s.gens, s.drawn, _, s.os⟩) ?_ | refine wpI (P := wpAny _ _ _ _ _ _) ?_)); (try dsimp only)))))
  rename Fr _ _ _ _ => F
  exact ret _ _ _ F.keep
theorem enc_size (x y : Int) : (bytesOf (enc2 x y)).size ≤ sizeLine := by rw [sizeLine_eq]; show 4 ≤ 16777216; decide
def wordOf (n : Int) : List Int := enc2 n (16 * n)
theorem tabI_range (i : Int) : 0 ≤ tabI i ∧ tabI i < 256 := by
  unfold tabI
  generalize List.getD _ _ _ = c
  have := c.toNat_lt
  omega
theorem enc_back (x y : Int) : KBw.bInts (bytesOf (enc2 x y)) = enc2 x y := by
  show (((enc2 x y).map fun n => n.toNat.toUInt8).map fun c => (c.toNat : Int)) = enc2 x y
  rw [List.map_map]
  refine (List.map_congr_left fun n hn => ?_).trans (List.map_id _)
  show ((n.toNat.toUInt8.toNat : Nat) : Int) = n
  unfold enc2 at hn
  simp only [List.mem_cons, List.not_mem_nil, or_false] at hn
  rcases hn with rfl | rfl | rfl | rfl
  · exact byte_back (tabI_range _).1 (tabI_range _).2
  · exact byte_back (tabI_range _).1 (tabI_range _).2
  · exact byte_back (tabI_range _).1 (tabI_range _).2
  · exact byte_back (by decide) (by decide)
theorem word_con {w : World} {dp un : Nat} {gd : Option (List Code)} {base : Heap} {outer : List Env} {mean : ExcName → Option Value} {mg mb : Str → Option Value} {s : Shared} {Q E : Value → Shared → Prop}
    {n : Int} {t : Tok}
    (C : Cx w (Ar dp un gd outer) s.heap base outer mean mg mb) (hdp : dp + 4 < recursionLimit) (hun : un + 32 < cLine)
    (h0 : 0 ≤ n) (h16 : n < 16)
    (ret : ∀ a vs k h' tk', Keeps s.heap h' → h'.get? a = some (listOf (List.toArray vs) k) → s.heap.get? a = none → IntsAre vs (wordOf n) → Q (.ref a) { s with heap := h', toks := tk' }) :
    wpAny (model PySem.Challenge.rw_qh0049_01.row.prog w) (Ar dp un gd outer) (call (.ref 151) [.int n t]) Q E s := by
  have KX := C.X
  revert KX
  k_fill
  intro KX
  have KT := C.T
  w_on
  refine' enterP (binds := [(Str.ofString "number", .int n t)]) KX KT ?k6 ?k7 ?k8 ?k9 ?kB ?_ ?c2 ?c3 ?c4 ?c5
  (k_dflt ((case k6 => k_is); (case k7 => k_is); (case k8 => exact Nat.lt_of_le_of_lt (Nat.le_add_right _ _) hdp); (case k9 => first | exact BindsTo.of_eq rfl | exact binds_K (by assumption) rfl (by k_is) rfl rfl rfl); (case c5 => decide); (case kB => exact locs rfl); (case c2 => exact rfl); (case c3 => exact rfl); (case c4 => exact rfl)))
  intro Lf ev Ak m0 h1 F N
  (try k_fold)
  (repeat' ((try ((with_reducible show wpAny _ _ (execs _ _) _ _ _); k_gentoks)); (try ((with_reducible show wpAny _ _ (exec _ _) _ _ _); (with_reducible refine foldQ ?_); intro qx)); (first | (k_unfold; (try (first | refine wpI (P := wpAny _ _ _ _ _ ⟨_, s.gens, s.drawn, _, s.os⟩) ?_ | refine wpI (P := wpAny _ _ _ _ _ _) ?_)); (try dsimp only)) | (k_end; wrow_close) | (with_reducible ((with_reducible show wpAny _ _ (call (Value.type "list") [Value.bytes _ _]) _ _ _); k_dflt (refine' list_bytes_K ?Fq8 ?Nq8 ?hhq8 ?zq8 ?_; (case Fq8 => assumption); (case Nq8 => assumption); (case hhq8 => exact rfl); (case zq8 => first | exact enc_size _ _ | assumption)); intro a'q9 vs'q9 c'q9 h'q9 tk'q9 F'q9 N'q9 l1'q9 hi'q9)) | (with_reducible ((with_reducible show wpAny _ _ (call (Value.ref 108) [Value.bytes _ _]) _ _ _); (with_reducible rename Fr _ _ _ _ => kFq9); k_dflt (refine' encode_con (Cx.push (by assumption) kFq9 rfl) ?kdq8 ?kuq8  ?_; (case kdq8 => (first | exact room 1 hdp | exact room 2 hdp | exact room 3 hdp | exact room 4 hdp | exact room 8 hun | exact room 16 hun | exact room 24 hun | exact room 32 hun | exact room 64 hun | exact room 65 hun | exact room 2 hun | exact Nat.lt_of_le_of_lt (Nat.le_add_right _ _) hun | ((try dsimp +zetaDelta only [Ar, Around.deeper, Around.mark]); omega))); (case kuq8 => (first | exact room 1 hdp | exact room 2 hdp | exact room 3 hdp | exact room 4 hdp | exact room 8 hun | exact room 16 hun | exact room 24 hun | exact room 32 hun | exact room 64 hun | exact room 65 hun | exact room 2 hun | exact Nat.lt_of_le_of_lt (Nat.le_add_right _ _) hun | ((try dsimp +zetaDelta only [Ar, Around.deeper, Around.mark]); omega)));  skip); intro t'q9 h'q9 tk'q9 hk'q9; ((with_reducible rename Fr _ _ _ _ => kFq9); (with_reducible rename News _ _ _ _ => kNq9); (with_reducible rename Keeps _ _ => hk'q9); (have F'q9 := Fr.after kFq9 hk'q9); (have N'q9 := newsKeeps kNq9 hk'q9); clear hk'q9; clear kNq9 kFq9; (try dsimp only); (try k_fold)))) | (with_reducible ((with_reducible show wpAny _ _ (call (Value.ref 100) [Value.bytes _ _] _) _ _ _); (with_reducible rename Fr _ _ _ _ => kFq9); k_dflt (refine' b2a_con (Cx.push (by assumption) kFq9 rfl) ?kdq8 ?kuq8  ?_; (case kdq8 => (first | exact room 1 hdp | exact room 2 hdp | exact room 3 hdp | exact room 4 hdp | exact room 8 hun | exact room 16 hun | exact room 24 hun | exact room 32 hun | exact room 64 hun | exact room 65 hun | exact room 2 hun | exact Nat.lt_of_le_of_lt (Nat.le_add_right _ _) hun | ((try dsimp +zetaDelta only [Ar, Around.deeper, Around.mark]); omega))); (case kuq8 => (first | exact room 1 hdp | exact room 2 hdp | exact room 3 hdp | exact room 4 hdp | exact room 8 hun | exact room 16 hun | exact room 24 hun | exact room 32 hun | exact room 64 hun | exact room 65 hun | exact room 2 hun | exact Nat.lt_of_le_of_lt (Nat.le_add_right _ _) hun | ((try dsimp +zetaDelta only [Ar, Around.deeper, Around.mark]); omega)));  skip); intro t'q9 h'q9 tk'q9 hk'q9; ((with_reducible rename Fr _ _ _ _ => kFq9); (with_reducible rename News _ _ _ _ => kNq9); (with_reducible rename Keeps _ _ => hk'q9); (have F'q9 := Fr.after kFq9 hk'q9); (have N'q9 := newsKeeps kNq9 hk'q9); clear hk'q9; clear kNq9 kFq9; (try dsimp only); (try k_fold)))) | ((with_reducible show wpAny _ _ (call _ [Value.bytes _ _]) _ _ _); refine call_type_of (Tx := "bytes") rfl (by decide +kernel) ?_) | (with_reducible ((with_reducible show wpAny _ _ (storeName _ _ _) _ _ _); k_dflt (refine' storeM ?Fq7 ?Nq7 ?_ ?aq7 ?bq7; (case Fq7 => k_asm); (case Nq7 => k_asm); (case aq7 => rfl); (case bq7 => rfl); k_whole; intro m'q7 h'q7 F'q7 N'q7; (try k_sweep)))) | (with_reducible ((with_reducible show wpAny _ _ (eval (PySem.Expr.Name _ _) _) _ _ _); k_dflt (refine' nameX_L ?Fq7 ?vq7 ?_ ?aq7 ?bq7; (case Fq7 => k_asm); (case aq7 => rfl); (case bq7 => rfl); (case vq7 => exact Eq.refl (some _)); k_whole))) | ((with_reducible show InvEnd _ _ _ _ _ _); ((with_reducible rename Fr _ _ _ _ => kFq7); first | ((dsimp +zetaDelta only at kFq7); (try dsimp +zetaDelta only)) | dsimp +zetaDelta only)) | ((with_reducible show InvEndG _ _ _ _ _ _); ((with_reducible rename Fr _ _ _ _ => kFq7); first | ((dsimp +zetaDelta only at kFq7); (try dsimp +zetaDelta only)) | dsimp +zetaDelta only)) | walk1 | (dsimp only; walk1) | (leave1; (try dsimp only)) | fail "no step") <;> (repeat ((fail_if_success (fail_if_success ((generalize qx = zq); (with_reducible show zq _ _)))); k_unfold; (try clear qx); (try (first | refine wpI (P := wpAny _ _ _ _ _ ⟨_, s.gens, s.drawn, _, s.os⟩) ?_ | refine wpI (P := wpAny _ _ _ _ _ _) ?_)); (try dsimp only)))))
  rename Fr _ _ _ _ => F
  rename News _ _ _ _ => N
  rename IntsAre _ _ => hI
  rw [enc_back, byte_back h0 (by omega), byte_back (by omega) (by omega)] at hI
  exact ret _ _ _ _ _ F.keep (N _ (.head _)).1 (N _ (.head _)).2.2 hI
end Mine
end
section
-- NOFOLD
open PySem PySem.W PyProof.Rows
set_option maxRecDepth 100000
set_option maxHeartbeats 8000000
set_option linter.unusedVariables false
namespace Mine
theorem ascii_con {w : World} {dp un : Nat} {gd : Option (List Code)} {base : Heap} {outer : List Env} {mean : ExcName → Option Value} {mg mb : Str → Option Value} {s : Shared} {Q E : Value → Shared → Prop}
    {b : Array UInt8} {t : Tok}
    (C : Cx w (Ar dp un gd outer) s.heap base outer mean mg mb) (hdp : dp + 1 < recursionLimit) (hun : un + 8 < cLine)
    
    (ret : ∀ h' tk', Keeps s.heap h' → Q (.bytes b t) { s with heap := h', toks := tk' }) :
    wpAny (model PySem.Challenge.rw_qh0049_01.row.prog w) (Ar dp un gd outer) (call (.ref 63) [.bytes b t]) Q E s := by
  have KX := C.X
  revert KX
  k_fill
  intro KX
  have KT := C.T
  w_on
  refine' enterP (binds := [(Str.ofString "data", .bytes b t)]) KX KT ?k6 ?k7 ?k8 ?k9 ?kB ?_ ?c2 ?c3 ?c4 ?c5
  (k_dflt ((case k6 => k_is); (case k7 => k_is); (case k8 => exact Nat.lt_of_le_of_lt (Nat.le_add_right _ _) hdp); (case k9 => first | exact BindsTo.of_eq rfl | exact binds_K (by assumption) rfl (by k_is) rfl rfl rfl); (case c5 => decide); (case kB => exact locs rfl); (case c2 => exact rfl); (case c3 => exact rfl); (case c4 => exact rfl)))
  intro Lf ev Ak m0 h1 F N
  (try k_fold)
  (repeat' ((first | (k_unfold; (try (first | refine wpI (P := wpAny _ _ _ _ _ ⟨_, s.gens, s.drawn, _, s.os⟩) ?_ | refine wpI (P := wpAny _ _ _ _ _ _) ?_)); (try dsimp only)) | (k_end; wrow_close) | (with_reducible ((with_reducible show wpAny _ _ (call (Value.ref 43) [Value.bytes _ _]) _ _ _); (with_reducible rename Fr _ _ _ _ => kFq9); k_dflt (refine' bfdd_con (Cx.push (by assumption) kFq9 rfl) ?kdq8 ?kuq8  ?_; (case kdq8 => (first | exact room 1 hdp | exact room 2 hdp | exact room 3 hdp | exact room 4 hdp | exact room 8 hun | exact room 16 hun | exact room 24 hun | exact room 32 hun | exact room 64 hun | exact room 65 hun | exact room 2 hun | exact Nat.lt_of_le_of_lt (Nat.le_add_right _ _) hun | ((try dsimp +zetaDelta only [Ar, Around.deeper, Around.mark]); omega))); (case kuq8 => (first | exact room 1 hdp | exact room 2 hdp | exact room 3 hdp | exact room 4 hdp | exact room 8 hun | exact room 16 hun | exact room 24 hun | exact room 32 hun | exact room 64 hun | exact room 65 hun | exact room 2 hun | exact Nat.lt_of_le_of_lt (Nat.le_add_right _ _) hun | ((try dsimp +zetaDelta only [Ar, Around.deeper, Around.mark]); omega)));  skip); intro h'q9 tk'q9 hk'q9; ((with_reducible rename Fr _ _ _ _ => kFq9); (with_reducible rename News _ _ _ _ => kNq9); (with_reducible rename Keeps _ _ => hk'q9); (have F'q9 := Fr.after kFq9 hk'q9); (have N'q9 := newsKeeps kNq9 hk'q9); clear hk'q9; clear kNq9 kFq9; (try dsimp only); (try k_fold)))) | (with_reducible ((with_reducible show wpAny _ _ (call (Value.ref 63) [Value.bytes _ _]) _ _ _); (with_reducible rename Fr _ _ _ _ => kFq9); k_dflt (refine' ascii_con (Cx.push (by assumption) kFq9 rfl) ?kdq8 ?kuq8  ?_; (case kdq8 => (first | exact room 1 hdp | exact room 2 hdp | exact room 3 hdp | exact room 4 hdp | exact room 8 hun | exact room 16 hun | exact room 24 hun | exact room 32 hun | exact room 64 hun | exact room 65 hun | exact room 2 hun | exact Nat.lt_of_le_of_lt (Nat.le_add_right _ _) hun | ((try dsimp +zetaDelta only [Ar, Around.deeper, Around.mark]); omega))); (case kuq8 => (first | exact room 1 hdp | exact room 2 hdp | exact room 3 hdp | exact room 4 hdp | exact room 8 hun | exact room 16 hun | exact room 24 hun | exact room 32 hun | exact room 64 hun | exact room 65 hun | exact room 2 hun | exact Nat.lt_of_le_of_lt (Nat.le_add_right _ _) hun | ((try dsimp +zetaDelta only [Ar, Around.deeper, Around.mark]); omega)));  skip); intro h'q9 tk'q9 hk'q9; ((with_reducible rename Fr _ _ _ _ => kFq9); (with_reducible rename News _ _ _ _ => kNq9); (with_reducible rename Keeps _ _ => hk'q9); (have F'q9 := Fr.after kFq9 hk'q9); (have N'q9 := newsKeeps kNq9 hk'q9); clear hk'q9; clear kNq9 kFq9; (try dsimp only); (try k_fold)))) | (with_reducible ((with_reducible show wpAny _ _ (call (Value.ref 77) [Value.bool false]) _ _ _); (with_reducible rename Fr _ _ _ _ => kFq9); k_dflt (refine' truth_con (Cx.push (by assumption) kFq9 rfl) ?kdq8 ?kuq8  ?_; (case kdq8 => (first | exact room 1 hdp | exact room 2 hdp | exact room 3 hdp | exact room 4 hdp | exact room 8 hun | exact room 16 hun | exact room 24 hun | exact room 32 hun | exact room 64 hun | exact room 65 hun | exact room 2 hun | exact Nat.lt_of_le_of_lt (Nat.le_add_right _ _) hun | ((try dsimp +zetaDelta only [Ar, Around.deeper, Around.mark]); omega))); (case kuq8 => (first | exact room 1 hdp | exact room 2 hdp | exact room 3 hdp | exact room 4 hdp | exact room 8 hun | exact room 16 hun | exact room 24 hun | exact room 32 hun | exact room 64 hun | exact room 65 hun | exact room 2 hun | exact Nat.lt_of_le_of_lt (Nat.le_add_right _ _) hun | ((try dsimp +zetaDelta only [Ar, Around.deeper, Around.mark]); omega)));  skip); intro h'q9 tk'q9 hk'q9; ((with_reducible rename Fr _ _ _ _ => kFq9); (with_reducible rename News _ _ _ _ => kNq9); (with_reducible rename Keeps _ _ => hk'q9); (have F'q9 := Fr.after kFq9 hk'q9); (have N'q9 := newsKeeps kNq9 hk'q9); clear hk'q9; clear kNq9 kFq9; (try dsimp only); (try k_fold)))) | ((with_reducible show wpAny _ _ (call _ [Value.bytes _ _]) _ _ _); refine call_type_of (Tx := "bytes") rfl (by decide +kernel) ?_) | (with_reducible ((with_reducible show wpAny _ _ (storeName _ _ _) _ _ _); k_dflt (refine' storeM ?Fq7 ?Nq7 ?_ ?aq7 ?bq7; (case Fq7 => k_asm); (case Nq7 => k_asm); (case aq7 => rfl); (case bq7 => rfl); k_whole; intro m'q7 h'q7 F'q7 N'q7; (try k_sweep)))) | (with_reducible ((with_reducible show wpAny _ _ (eval (PySem.Expr.Name _ _) _) _ _ _); k_dflt (refine' nameX_L ?Fq7 ?vq7 ?_ ?aq7 ?bq7; (case Fq7 => k_asm); (case aq7 => rfl); (case bq7 => rfl); (case vq7 => exact Eq.refl (some _)); k_whole))) | ((with_reducible show InvEnd _ _ _ _ _ _); ((with_reducible rename Fr _ _ _ _ => kFq7); first | ((dsimp +zetaDelta only at kFq7); (try dsimp +zetaDelta only)) | dsimp +zetaDelta only)) | ((with_reducible show InvEndG _ _ _ _ _ _); ((with_reducible rename Fr _ _ _ _ => kFq7); first | ((dsimp +zetaDelta only at kFq7); (try dsimp +zetaDelta only)) | dsimp +zetaDelta only)) | walk1 | (dsimp only; walk1) | (leave1; (try dsimp only)) | fail "no step")))
  rename Fr _ _ _ _ => F
  exact ret _ _ F.keep
theorem bfdd_con {w : World} {dp un : Nat} {gd : Option (List Code)} {base : Heap} {outer : List Env} {mean : ExcName → Option Value} {mg mb : Str → Option Value} {s : Shared} {Q E : Value → Shared → Prop}
    {b : Array UInt8} {t : Tok}
    (C : Cx w (Ar dp un gd outer) s.heap base outer mean mg mb) (hdp : dp + 1 < recursionLimit) (hun : un + 16 < cLine)
    
    (ret : ∀ h' tk', Keeps s.heap h' → Q (.bytes b t) { s with heap := h', toks := tk' }) :
    wpAny (model PySem.Challenge.rw_qh0049_01.row.prog w) (Ar dp un gd outer) (call (.ref 43) [.bytes b t]) Q E s := by
  have KX := C.X
  revert KX
  k_fill
  intro KX
  have KT := C.T
  w_on
  refine' enterP (binds := [(Str.ofString "s", .bytes b t)]) KX KT ?k6 ?k7 ?k8 ?k9 ?kB ?_ ?c2 ?c3 ?c4 ?c5
  (k_dflt ((case k6 => k_is); (case k7 => k_is); (case k8 => exact Nat.lt_of_le_of_lt (Nat.le_add_right _ _) hdp); (case k9 => first | exact BindsTo.of_eq rfl | exact binds_K (by assumption) rfl (by k_is) rfl rfl rfl); (case c5 => decide); (case kB => exact locs rfl); (case c2 => exact rfl); (case c3 => exact rfl); (case c4 => exact rfl)))
  intro Lf ev Ak m0 h1 F N
  (try k_fold)
  (repeat' ((first | (k_unfold; (try (first | refine wpI (P := wpAny _ _ _ _ _ ⟨_, s.gens, s.drawn, _, s.os⟩) ?_ | refine wpI (P := wpAny _ _ _ _ _ _) ?_)); (try dsimp only)) | (k_end; wrow_close) | (with_reducible ((with_reducible show wpAny _ _ (call (Value.ref 43) [Value.bytes _ _]) _ _ _); (with_reducible rename Fr _ _ _ _ => kFq9); k_dflt (refine' bfdd_con (Cx.push (by assumption) kFq9 rfl) ?kdq8 ?kuq8  ?_; (case kdq8 => (first | exact room 1 hdp | exact room 2 hdp | exact room 3 hdp | exact room 4 hdp | exact room 8 hun | exact room 16 hun | exact room 24 hun | exact room 32 hun | exact room 64 hun | exact room 65 hun | exact room 2 hun | exact Nat.lt_of_le_of_lt (Nat.le_add_right _ _) hun | ((try dsimp +zetaDelta only [Ar, Around.deeper, Around.mark]); omega))); (case kuq8 => (first | exact room 1 hdp | exact room 2 hdp | exact room 3 hdp | exact room 4 hdp | exact room 8 hun | exact room 16 hun | exact room 24 hun | exact room 32 hun | exact room 64 hun | exact room 65 hun | exact room 2 hun | exact Nat.lt_of_le_of_lt (Nat.le_add_right _ _) hun | ((try dsimp +zetaDelta only [Ar, Around.deeper, Around.mark]); omega)));  skip); intro h'q9 tk'q9 hk'q9; ((with_reducible rename Fr _ _ _ _ => kFq9); (with_reducible rename News _ _ _ _ => kNq9); (with_reducible rename Keeps _ _ => hk'q9); (have F'q9 := Fr.after kFq9 hk'q9); (have N'q9 := newsKeeps kNq9 hk'q9); clear hk'q9; clear kNq9 kFq9; (try dsimp only); (try k_fold)))) | (with_reducible ((with_reducible show wpAny _ _ (call (Value.ref 63) [Value.bytes _ _]) _ _ _); (with_reducible rename Fr _ _ _ _ => kFq9); k_dflt (refine' ascii_con (Cx.push (by assumption) kFq9 rfl) ?kdq8 ?kuq8  ?_; (case kdq8 => (first | exact room 1 hdp | exact room 2 hdp | exact room 3 hdp | exact room 4 hdp | exact room 8 hun | exact room 16 hun | exact room 24 hun | exact room 32 hun | exact room 64 hun | exact room 65 hun | exact room 2 hun | exact Nat.lt_of_le_of_lt (Nat.le_add_right _ _) hun | ((try dsimp +zetaDelta only [Ar, Around.deeper, Around.mark]); omega))); (case kuq8 => (first | exact room 1 hdp | exact room 2 hdp | exact room 3 hdp | exact room 4 hdp | exact room 8 hun | exact room 16 hun | exact room 24 hun | exact room 32 hun | exact room 64 hun | exact room 65 hun | exact room 2 hun | exact Nat.lt_of_le_of_lt (Nat.le_add_right _ _) hun | ((try dsimp +zetaDelta only [Ar, Around.deeper, Around.mark]); omega)));  skip); intro h'q9 tk'q9 hk'q9; ((with_reducible rename Fr _ _ _ _ => kFq9); (with_reducible rename News _ _ _ _ => kNq9); (with_reducible rename Keeps _ _ => hk'q9); (have F'q9 := Fr.after kFq9 hk'q9); (have N'q9 := newsKeeps kNq9 hk'q9); clear hk'q9; clear kNq9 kFq9; (try dsimp only); (try k_fold)))) | (with_reducible ((with_reducible show wpAny _ _ (call (Value.ref 77) [Value.bool false]) _ _ _); (with_reducible rename Fr _ _ _ _ => kFq9); k_dflt (refine' truth_con (Cx.push (by assumption) kFq9 rfl) ?kdq8 ?kuq8  ?_; (case kdq8 => (first | exact room 1 hdp | exact room 2 hdp | exact room 3 hdp | exact room 4 hdp | exact room 8 hun | exact room 16 hun | exact room 24 hun | exact room 32 hun | exact room 64 hun | exact room 65 hun | exact room 2 hun | exact Nat.lt_of_le_of_lt (Nat.le_add_right _ _) hun | ((try dsimp +zetaDelta only [Ar, Around.deeper, Around.mark]); omega))); (case kuq8 => (first | exact room 1 hdp | exact room 2 hdp | exact room 3 hdp | exact room 4 hdp | exact room 8 hun | exact room 16 hun | exact room 24 hun | exact room 32 hun | exact room 64 hun | exact room 65 hun | exact room 2 hun | exact Nat.lt_of_le_of_lt (Nat.le_add_right _ _) hun | ((try dsimp +zetaDelta only [Ar, Around.deeper, Around.mark]); omega)));  skip); intro h'q9 tk'q9 hk'q9; ((with_reducible rename Fr _ _ _ _ => kFq9); (with_reducible rename News _ _ _ _ => kNq9); (with_reducible rename Keeps _ _ => hk'q9); (have F'q9 := Fr.after kFq9 hk'q9); (have N'q9 := newsKeeps kNq9 hk'q9); clear hk'q9; clear kNq9 kFq9; (try dsimp only); (try k_fold)))) | ((with_reducible show wpAny _ _ (call _ [Value.bytes _ _]) _ _ _); refine call_type_of (Tx := "bytes") rfl (by decide +kernel) ?_) | (with_reducible ((with_reducible show wpAny _ _ (storeName _ _ _) _ _ _); k_dflt (refine' storeM ?Fq7 ?Nq7 ?_ ?aq7 ?bq7; (case Fq7 => k_asm); (case Nq7 => k_asm); (case aq7 => rfl); (case bq7 => rfl); k_whole; intro m'q7 h'q7 F'q7 N'q7; (try k_sweep)))) | (with_reducible ((with_reducible show wpAny _ _ (eval (PySem.Expr.Name _ _) _) _ _ _); k_dflt (refine' nameX_L ?Fq7 ?vq7 ?_ ?aq7 ?bq7; (case Fq7 => k_asm); (case aq7 => rfl); (case bq7 => rfl); (case vq7 => exact Eq.refl (some _)); k_whole))) | ((with_reducible show InvEnd _ _ _ _ _ _); ((with_reducible rename Fr _ _ _ _ => kFq7); first | ((dsimp +zetaDelta only at kFq7); (try dsimp +zetaDelta only)) | dsimp +zetaDelta only)) | ((with_reducible show InvEndG _ _ _ _ _ _); ((with_reducible rename Fr _ _ _ _ => kFq7); first | ((dsimp +zetaDelta only at kFq7); (try dsimp +zetaDelta only)) | dsimp +zetaDelta only)) | walk1 | (dsimp only; walk1) | (leave1; (try dsimp only)) | fail "no step")))
  rename Fr _ _ _ _ => F
  exact ret _ _ F.keep
def valOf (c : Int) : Int := if 65 ≤ c ∧ c ≤ 90 then c - 65 else if 97 ≤ c ∧ c ≤ 122 then c - 71 else if 48 ≤ c ∧ c ≤ 57 then c + 4 else if c = 43 then 62 else if c = 47 then 63 else 64
theorem value_con {w : World} {dp un : Nat} {gd : Option (List Code)} {base : Heap} {outer : List Env} {mean : ExcName → Option Value} {mg mb : Str → Option Value} {s : Shared} {Q E : Value → Shared → Prop}
    {c : Int} {t : Tok}
    (C : Cx w (Ar dp un gd outer) s.heap base outer mean mg mb) (hdp : dp + 1 < recursionLimit) (hun : un + 8 < cLine)
    
    (ret : ∀ t' h' tk', Keeps s.heap h' → Q (.int (valOf c) t') { s with heap := h', toks := tk' }) :
    wpAny (model PySem.Challenge.rw_qh0049_01.row.prog w) (Ar dp un gd outer) (call (.ref 84) [.int c t]) Q E s := by
  have KX := C.X
  revert KX
  k_fill
  intro KX
  have KT := C.T
  w_on
  refine' enterP (binds := [(Str.ofString "c", .int c t)]) KX KT ?k6 ?k7 ?k8 ?k9 ?kB ?_ ?c2 ?c3 ?c4 ?c5
  (k_dflt ((case k6 => k_is); (case k7 => k_is); (case k8 => exact Nat.lt_of_le_of_lt (Nat.le_add_right _ _) hdp); (case k9 => first | exact BindsTo.of_eq rfl | exact binds_K (by assumption) rfl (by k_is) rfl rfl rfl); (case c5 => decide); (case kB => exact locs rfl); (case c2 => exact rfl); (case c3 => exact rfl); (case c4 => exact rfl)))
  intro Lf ev Ak m0 h1 F N
  (try k_fold)
  have ret9 : ∀ x t' h' tk', x = valOf c → Keeps s.heap h' → Q (.int x t') { s with heap := h', toks := tk' } := by
    rintro x t' h' tk' rfl hk
    exact ret _ _ _ hk
  (repeat' ((first | (k_unfold; (try (first | refine wpI (P := wpAny _ _ _ _ _ ⟨_, s.gens, s.drawn, _, s.os⟩) ?_ | refine wpI (P := wpAny _ _ _ _ _ _) ?_)); (try dsimp only)) | (k_end; wrow_close) | (with_reducible ((with_reducible show wpAny _ _ (call (Value.ref 43) [Value.bytes _ _]) _ _ _); (with_reducible rename Fr _ _ _ _ => kFq9); k_dflt (refine' bfdd_con (Cx.push (by assumption) kFq9 rfl) ?kdq8 ?kuq8  ?_; (case kdq8 => (first | exact room 1 hdp | exact room 2 hdp | exact room 3 hdp | exact room 4 hdp | exact room 8 hun | exact room 16 hun | exact room 24 hun | exact room 32 hun | exact room 64 hun | exact room 65 hun | exact room 2 hun | exact Nat.lt_of_le_of_lt (Nat.le_add_right _ _) hun | ((try dsimp +zetaDelta only [Ar, Around.deeper, Around.mark]); omega))); (case kuq8 => (first | exact room 1 hdp | exact room 2 hdp | exact room 3 hdp | exact room 4 hdp | exact room 8 hun | exact room 16 hun | exact room 24 hun | exact room 32 hun | exact room 64 hun | exact room 65 hun | exact room 2 hun | exact Nat.lt_of_le_of_lt (Nat.le_add_right _ _) hun | ((try dsimp +zetaDelta only [Ar, Around.deeper, Around.mark]); omega)));  skip); intro h'q9 tk'q9 hk'q9; ((with_reducible rename Fr _ _ _ _ => kFq9); (with_reducible rename News _ _ _ _ => kNq9); (with_reducible rename Keeps _ _ => hk'q9); (have F'q9 := Fr.after kFq9 hk'q9); (have N'q9 := newsKeeps kNq9 hk'q9); clear hk'q9; clear kNq9 kFq9; (try dsimp only); (try k_fold)))) | (with_reducible ((with_reducible show wpAny _ _ (call (Value.ref 63) [Value.bytes _ _]) _ _ _); (with_reducible rename Fr _ _ _ _ => kFq9); k_dflt (refine' ascii_con (Cx.push (by assumption) kFq9 rfl) ?kdq8 ?kuq8  ?_; (case kdq8 => (first | exact room 1 hdp | exact room 2 hdp | exact room 3 hdp | exact room 4 hdp | exact room 8 hun | exact room 16 hun | exact room 24 hun | exact room 32 hun | exact room 64 hun | exact room 65 hun | exact room 2 hun | exact Nat.lt_of_le_of_lt (Nat.le_add_right _ _) hun | ((try dsimp +zetaDelta only [Ar, Around.deeper, Around.mark]); omega))); (case kuq8 => (first | exact room 1 hdp | exact room 2 hdp | exact room 3 hdp | exact room 4 hdp | exact room 8 hun | exact room 16 hun | exact room 24 hun | exact room 32 hun | exact room 64 hun | exact room 65 hun | exact room 2 hun | exact Nat.lt_of_le_of_lt (Nat.le_add_right _ _) hun | ((try dsimp +zetaDelta only [Ar, Around.deeper, Around.mark]); omega)));  skip); intro h'q9 tk'q9 hk'q9; ((with_reducible rename Fr _ _ _ _ => kFq9); (with_reducible rename News _ _ _ _ => kNq9); (with_reducible rename Keeps _ _ => hk'q9); (have F'q9 := Fr.after kFq9 hk'q9); (have N'q9 := newsKeeps kNq9 hk'q9); clear hk'q9; clear kNq9 kFq9; (try dsimp only); (try k_fold)))) | (with_reducible ((with_reducible show wpAny _ _ (call (Value.ref 77) [Value.bool false]) _ _ _); (with_reducible rename Fr _ _ _ _ => kFq9); k_dflt (refine' truth_con (Cx.push (by assumption) kFq9 rfl) ?kdq8 ?kuq8  ?_; (case kdq8 => (first | exact room 1 hdp | exact room 2 hdp | exact room 3 hdp | exact room 4 hdp | exact room 8 hun | exact room 16 hun | exact room 24 hun | exact room 32 hun | exact room 64 hun | exact room 65 hun | exact room 2 hun | exact Nat.lt_of_le_of_lt (Nat.le_add_right _ _) hun | ((try dsimp +zetaDelta only [Ar, Around.deeper, Around.mark]); omega))); (case kuq8 => (first | exact room 1 hdp | exact room 2 hdp | exact room 3 hdp | exact room 4 hdp | exact room 8 hun | exact room 16 hun | exact room 24 hun | exact room 32 hun | exact room 64 hun | exact room 65 hun | exact room 2 hun | exact Nat.lt_of_le_of_lt (Nat.le_add_right _ _) hun | ((try dsimp +zetaDelta only [Ar, Around.deeper, Around.mark]); omega)));  skip); intro h'q9 tk'q9 hk'q9; ((with_reducible rename Fr _ _ _ _ => kFq9); (with_reducible rename News _ _ _ _ => kNq9); (with_reducible rename Keeps _ _ => hk'q9); (have F'q9 := Fr.after kFq9 hk'q9); (have N'q9 := newsKeeps kNq9 hk'q9); clear hk'q9; clear kNq9 kFq9; (try dsimp only); (try k_fold)))) | ((with_reducible show wpAny _ _ (call _ [Value.bytes _ _]) _ _ _); refine call_type_of (Tx := "bytes") rfl (by decide +kernel) ?_) | (with_reducible ((with_reducible show wpAny _ _ (storeName _ _ _) _ _ _); k_dflt (refine' storeM ?Fq7 ?Nq7 ?_ ?aq7 ?bq7; (case Fq7 => k_asm); (case Nq7 => k_asm); (case aq7 => rfl); (case bq7 => rfl); k_whole; intro m'q7 h'q7 F'q7 N'q7; (try k_sweep)))) | (with_reducible ((with_reducible show wpAny _ _ (eval (PySem.Expr.Name _ _) _) _ _ _); k_dflt (refine' nameX_L ?Fq7 ?vq7 ?_ ?aq7 ?bq7; (case Fq7 => k_asm); (case aq7 => rfl); (case bq7 => rfl); (case vq7 => exact Eq.refl (some _)); k_whole))) | ((with_reducible show InvEnd _ _ _ _ _ _); ((with_reducible rename Fr _ _ _ _ => kFq7); first | ((dsimp +zetaDelta only at kFq7); (try dsimp +zetaDelta only)) | dsimp +zetaDelta only)) | ((with_reducible show InvEndG _ _ _ _ _ _); ((with_reducible rename Fr _ _ _ _ => kFq7); first | ((dsimp +zetaDelta only at kFq7); (try dsimp +zetaDelta only)) | dsimp +zetaDelta only)) | walk1 | (dsimp only; walk1) | (leave1; (try dsimp only)) | fail "no step")))
  all_goals (
    rename Fr _ _ _ _ => F
    refine ret9 _ _ _ _ ?_ F.keep
    unfold valOf
    (repeat' split) <;> omega)
end Mine
end
section
open PySem PySem.W PyProof.Rows
set_option maxRecDepth 100000
set_option maxHeartbeats 8000000
set_option linter.unusedVariables false
namespace Mine
theorem eq_noV {prog : Program} {w : World} {A : Around} {s : Shared} {Q : Value → Shared → Prop} {E : Value → Shared → Prop} {a b : Int} {t u : Tok} (h : a ≠ b) (hq : Q (.bool false) s) : wpAny (model prog w) A (compareOp .Eq (.int a t) (.int b u)) Q E s :=
  eq_int (by rw [beq_eq_false_iff_ne.mpr h]; exact hq)
theorem eq_yesV {prog : Program} {w : World} {A : Around} {s : Shared} {Q : Value → Shared → Prop} {E : Value → Shared → Prop} {a b : Int} {t u : Tok} (h : a = b) (hq : Q (.bool true) s) : wpAny (model prog w) A (compareOp .Eq (.int a t) (.int b u)) Q E s :=
  eq_int (by rw [beq_iff_eq.mpr h]; exact hq)
theorem bytes2 {prog : Program} {w : World} {A : Around} {s : Shared} {Q : Value → Shared → Prop} {E : Value → Shared → Prop} {h₀ : Heap} {L l : Addr} {m : Str → Option Value} {news : List (Addr × Obj)} {a b : Int} {ta tb : Tok} {k : Nat}
    (F : Fr h₀ L s.heap m) (N : News h₀ L s.heap ((l, listOf #[.int a ta, .int b tb] k) :: news)) (hh : A.handled = none) (ha : 0 ≤ a ∧ a < 256) (hb : 0 ≤ b ∧ b < 256)
    (h : ∀ h' t k, Fr h₀ L h' m → Q (.bytes #[a.toNat.toUInt8, b.toNat.toUInt8] t) { s with heap := h', toks := k }) : wpAny (model prog w) A (call (.type "bytes") [.ref l]) Q E s := by
  refine bytes_K F N (vs := [.int a ta, .int b tb]) (ns := [a, b]) ⟨_, (N _ (.head _)).1, rfl, _, rfl⟩ (.cons _ _ (.cons _ _ .nil)) ?_ (by rw [sizeLine_eq]; simp) hh fun h' t k F' _ _ => h h' t k F'
  intro n hn
  simp only [List.mem_cons, List.not_mem_nil, or_false] at hn
  rcases hn with rfl | rfl <;> assumption
def dec0 (v0 v1 : Int) : Int := Builtin.bitOr (v0 * 4) (v1.fdiv (2 ^ Int.toNat 4))
def dec1 (v1 v2 : Int) : Int := Builtin.bitOr (Builtin.bitAnd v1 15 * 16) (v2.fdiv (2 ^ Int.toNat 2))
theorem a2b_con {w : World} {dp un : Nat} {gd : Option (List Code)} {base : Heap} {outer : List Env} {mean : ExcName → Option Value} {mg mb : Str → Option Value} {s : Shared} {Q E : Value → Shared → Prop}
    {c0 c1 c2 c3 : UInt8} {t : Tok}
    (C : Cx w (Ar dp un gd outer) s.heap base outer mean mg mb) (hdp : dp + 2 < recursionLimit) (hun : un + 16 < cLine)
    (n0 : (c0.toNat : Int) ≠ 61) (n1 : (c1.toNat : Int) ≠ 61) (n2 : (c2.toNat : Int) ≠ 61) (n3 : (c3.toNat : Int) = 61) (v0 : 0 ≤ valOf c0.toNat ∧ valOf c0.toNat < 64) (v1 : 0 ≤ valOf c1.toNat ∧ valOf c1.toNat < 64) (v2 : 0 ≤ valOf c2.toNat ∧ valOf c2.toNat < 64)
    (r0 : 0 ≤ dec0 (valOf c0.toNat) (valOf c1.toNat) ∧ dec0 (valOf c0.toNat) (valOf c1.toNat) < 256) (r1 : 0 ≤ dec1 (valOf c1.toNat) (valOf c2.toNat) ∧ dec1 (valOf c1.toNat) (valOf c2.toNat) < 256)
    (ret : ∀ t' h' tk', Keeps s.heap h' → Q (.bytes #[(dec0 (valOf c0.toNat) (valOf c1.toNat)).toNat.toUInt8, (dec1 (valOf c1.toNat) (valOf c2.toNat)).toNat.toUInt8] t') { s with heap := h', toks := tk' }) :
    wpAny (model PySem.Challenge.rw_qh0049_01.row.prog w) (Ar dp un gd outer) (call (.ref 92) [.bytes #[c0, c1, c2, c3] t] [(Str.ofString "strict_mode", .bool false)]) Q E s := by
  have KX := C.X
  revert KX
  k_fill
  intro KX
  have KT := C.T
  w_on
  refine' enterP (binds := [(Str.ofString "data", .bytes #[c0, c1, c2, c3] t), (Str.ofString "strict_mode", .bool false)]) KX KT ?k6 ?k7 ?k8 ?k9 ?kB ?_ ?c2 ?c3 ?c4 ?c5
  (k_dflt ((case k6 => k_is); (case k7 => k_is); (case k8 => exact Nat.lt_of_le_of_lt (Nat.le_add_right _ _) hdp); (case k9 => first | exact BindsTo.of_eq rfl | exact binds_K (by assumption) rfl (by k_is) rfl rfl rfl); (case c5 => decide); (case kB => exact locs rfl); (case c2 => exact rfl); (case c3 => exact rfl); (case c4 => exact rfl)))
  intro Lf ev Ak m0 h1 F N
  (try k_fold)
  unfold dec0 at r0
  unfold dec1 at r1
  (repeat' ((try ((with_reducible show wpAny _ _ (execs _ _) _ _ _); k_gentoks)); (try ((with_reducible show wpAny _ _ (exec _ _) _ _ _); (with_reducible refine foldQ ?_); intro qx)); (first | (k_unfold; (try (first | refine wpI (P := wpAny _ _ _ _ _ ⟨_, s.gens, s.drawn, _, s.os⟩) ?_ | refine wpI (P := wpAny _ _ _ _ _ _) ?_)); (try dsimp only)) | (k_end; wrow_close) | (with_reducible ((with_reducible show wpAny _ _ (call (Value.type "bytes") [Value.ref _]) _ _ _); k_dflt (refine' bytes2 ?Fq8 ?Nq8 ?hhq8 ?aq8 ?bq8 ?_; (case Fq8 => assumption); (case Nq8 => assumption); (case hhq8 => exact rfl); (case aq8 => ((repeat (first | (with_reducible rename Fr _ _ _ _ => kF; clear kF) | (with_reducible rename News _ _ _ _ => kN; clear kN))); subst_vars; assumption)); (case bq8 => ((repeat (first | (with_reducible rename Fr _ _ _ _ => kF; clear kF) | (with_reducible rename News _ _ _ _ => kN; clear kN))); subst_vars; assumption))); intro h'q9 t'q9 k'q9 F'q9)) | (with_reducible ((with_reducible show wpAny _ _ (compareOp PySem.CmpOp.Eq (Value.int _ _) (Value.int _ _)) _ _ _); (first | refine eq_noV (by assumption) ?_ | refine eq_yesV (by assumption) ?_))) | (with_reducible ((with_reducible show wpAny _ _ (subscriptTail _ _ (Value.bytes _ _) (Value.int _ _)) _ _ _); refine tab_V (by simp only [List.length_cons, List.length_nil]; omega) (by omega) (by simp only [List.length_cons, List.length_nil]; omega) ?_; intro c'q9 v'q9 k'q9 hc'q9 hlo'q9 hhi'q9)) | (with_reducible ((with_reducible show wpAny _ _ (binaryOp PySem.Operator.RShift (Value.int _ _) (Value.int _ _)) _ _ _); (refine shr_V (by first | omega | decide) ?_; intro c'q9 v'q9 k'q9 hc'q9))) | (with_reducible ((with_reducible show wpAny _ _ (binaryOp PySem.Operator.LShift (Value.int _ _) (Value.int _ _)) _ _ _); (refine shl_V (by first | omega | decide) (by first | omega | decide) (by omega) ?_; intro c'q9 v'q9 k'q9 hc'q9; (simp only [show ((2 : Int) ^ Int.toNat 8) = 256 from rfl, show ((2 : Int) ^ Int.toNat 2) = 4 from rfl, show ((2 : Int) ^ Int.toNat 4) = 16 from rfl, show ((2 : Int) ^ Int.toNat 6) = 64 from rfl] at hc'q9)))) | (with_reducible ((with_reducible show wpAny _ _ (binaryOp PySem.Operator.BitOr (Value.int _ _) (Value.int _ _)) _ _ _); (refine or_V ?_; intro c'q9 v'q9 k'q9 hc'q9))) | (with_reducible ((with_reducible show wpAny _ _ (binaryOp PySem.Operator.BitAnd (Value.int _ _) (Value.int _ _)) _ _ _); (refine and_V (by first | omega | decide) ?_; intro c'q9 v'q9 k'q9 hc'q9 hlo'q9 hhi'q9))) | (with_reducible ((with_reducible show wpAny _ _ (call (Value.ref 84) [Value.int _ _]) _ _ _); (with_reducible rename Fr _ _ _ _ => kFq9); k_dflt (refine' value_con (Cx.push (by assumption) kFq9 rfl) ?kdq8 ?kuq8  ?_; (case kdq8 => (first | exact room 1 hdp | exact room 2 hdp | exact room 3 hdp | exact room 4 hdp | exact room 8 hun | exact room 16 hun | exact room 24 hun | exact room 32 hun | exact room 64 hun | exact room 65 hun | exact room 2 hun | exact Nat.lt_of_le_of_lt (Nat.le_add_right _ _) hun | ((try dsimp +zetaDelta only [Ar, Around.deeper, Around.mark]); omega))); (case kuq8 => (first | exact room 1 hdp | exact room 2 hdp | exact room 3 hdp | exact room 4 hdp | exact room 8 hun | exact room 16 hun | exact room 24 hun | exact room 32 hun | exact room 64 hun | exact room 65 hun | exact room 2 hun | exact Nat.lt_of_le_of_lt (Nat.le_add_right _ _) hun | ((try dsimp +zetaDelta only [Ar, Around.deeper, Around.mark]); omega)));  skip); intro t'q9 h'q9 tk'q9 hk'q9; ((with_reducible rename Fr _ _ _ _ => kFq9); (with_reducible rename News _ _ _ _ => kNq9); (with_reducible rename Keeps _ _ => hk'q9); (have F'q9 := Fr.after kFq9 hk'q9); (have N'q9 := newsKeeps kNq9 hk'q9); clear hk'q9; clear kNq9 kFq9; (try dsimp only); (try k_fold)))) | (with_reducible ((with_reducible show wpAny _ _ (call (Value.ref 63) [Value.bytes _ _]) _ _ _); (with_reducible rename Fr _ _ _ _ => kFq9); k_dflt (refine' ascii_con (Cx.push (by assumption) kFq9 rfl) ?kdq8 ?kuq8  ?_; (case kdq8 => (first | exact room 1 hdp | exact room 2 hdp | exact room 3 hdp | exact room 4 hdp | exact room 8 hun | exact room 16 hun | exact room 24 hun | exact room 32 hun | exact room 64 hun | exact room 65 hun | exact room 2 hun | exact Nat.lt_of_le_of_lt (Nat.le_add_right _ _) hun | ((try dsimp +zetaDelta only [Ar, Around.deeper, Around.mark]); omega))); (case kuq8 => (first | exact room 1 hdp | exact room 2 hdp | exact room 3 hdp | exact room 4 hdp | exact room 8 hun | exact room 16 hun | exact room 24 hun | exact room 32 hun | exact room 64 hun | exact room 65 hun | exact room 2 hun | exact Nat.lt_of_le_of_lt (Nat.le_add_right _ _) hun | ((try dsimp +zetaDelta only [Ar, Around.deeper, Around.mark]); omega)));  skip); intro h'q9 tk'q9 hk'q9; ((with_reducible rename Fr _ _ _ _ => kFq9); (with_reducible rename News _ _ _ _ => kNq9); (with_reducible rename Keeps _ _ => hk'q9); (have F'q9 := Fr.after kFq9 hk'q9); (have N'q9 := newsKeeps kNq9 hk'q9); clear hk'q9; clear kNq9 kFq9; (try dsimp only); (try k_fold)))) | (with_reducible ((with_reducible show wpAny _ _ (call (Value.ref 77) [Value.bool false]) _ _ _); (with_reducible rename Fr _ _ _ _ => kFq9); k_dflt (refine' truth_con (Cx.push (by assumption) kFq9 rfl) ?kdq8 ?kuq8  ?_; (case kdq8 => (first | exact room 1 hdp | exact room 2 hdp | exact room 3 hdp | exact room 4 hdp | exact room 8 hun | exact room 16 hun | exact room 24 hun | exact room 32 hun | exact room 64 hun | exact room 65 hun | exact room 2 hun | exact Nat.lt_of_le_of_lt (Nat.le_add_right _ _) hun | ((try dsimp +zetaDelta only [Ar, Around.deeper, Around.mark]); omega))); (case kuq8 => (first | exact room 1 hdp | exact room 2 hdp | exact room 3 hdp | exact room 4 hdp | exact room 8 hun | exact room 16 hun | exact room 24 hun | exact room 32 hun | exact room 64 hun | exact room 65 hun | exact room 2 hun | exact Nat.lt_of_le_of_lt (Nat.le_add_right _ _) hun | ((try dsimp +zetaDelta only [Ar, Around.deeper, Around.mark]); omega)));  skip); intro h'q9 tk'q9 hk'q9; ((with_reducible rename Fr _ _ _ _ => kFq9); (with_reducible rename News _ _ _ _ => kNq9); (with_reducible rename Keeps _ _ => hk'q9); (have F'q9 := Fr.after kFq9 hk'q9); (have N'q9 := newsKeeps kNq9 hk'q9); clear hk'q9; clear kNq9 kFq9; (try dsimp only); (try k_fold)))) | ((with_reducible show wpAny _ _ (call _ [Value.bytes _ _]) _ _ _); refine call_type_of (Tx := "bytes") rfl (by decide +kernel) ?_) | (with_reducible ((with_reducible show wpAny _ _ (storeName _ _ _) _ _ _); k_dflt (refine' storeM ?Fq7 ?Nq7 ?_ ?aq7 ?bq7; (case Fq7 => k_asm); (case Nq7 => k_asm); (case aq7 => rfl); (case bq7 => rfl); k_whole; intro m'q7 h'q7 F'q7 N'q7; (try k_sweep)))) | (with_reducible ((with_reducible show wpAny _ _ (eval (PySem.Expr.Name _ _) _) _ _ _); k_dflt (refine' nameX_L ?Fq7 ?vq7 ?_ ?aq7 ?bq7; (case Fq7 => k_asm); (case aq7 => rfl); (case bq7 => rfl); (case vq7 => exact Eq.refl (some _)); k_whole))) | ((with_reducible show InvEnd _ _ _ _ _ _); ((with_reducible rename Fr _ _ _ _ => kFq7); first | ((dsimp +zetaDelta only at kFq7); (try dsimp +zetaDelta only)) | dsimp +zetaDelta only)) | ((with_reducible show InvEndG _ _ _ _ _ _); ((with_reducible rename Fr _ _ _ _ => kFq7); first | ((dsimp +zetaDelta only at kFq7); (try dsimp +zetaDelta only)) | dsimp +zetaDelta only)) | walk1 | (dsimp only; walk1) | (leave1; (try dsimp only)) | fail "no step") <;> (repeat ((fail_if_success (fail_if_success ((generalize qx = zq); (with_reducible show zq _ _)))); k_unfold; (try clear qx); (try (first | refine wpI (P := wpAny _ _ _ _ _ ⟨_, s.gens, s.drawn, _, s.os⟩) ?_ | refine wpI (P := wpAny _ _ _ _ _ _) ?_)); (try dsimp only)))))
  rename Fr _ _ _ _ => F
  rename News _ _ _ _ => N
  refine iter_bytesUnr (l := [(c0.toNat : Int), (c1.toNat : Int), (c2.toNat : Int), (c3.toNat : Int)]) rfl F N rfl ?_
  intro i' l1
  k_lt l1
  (repeat' ((try ((with_reducible show wpAny _ _ (execs _ _) _ _ _); k_gentoks)); (try ((with_reducible show wpAny _ _ (exec _ _) _ _ _); (with_reducible refine foldQ ?_); intro qx)); (first | (k_unfold; (try (first | refine wpI (P := wpAny _ _ _ _ _ ⟨_, s.gens, s.drawn, _, s.os⟩) ?_ | refine wpI (P := wpAny _ _ _ _ _ _) ?_)); (try dsimp only)) | (k_end; wrow_close) | (with_reducible ((with_reducible show wpAny _ _ (call (Value.type "bytes") [Value.ref _]) _ _ _); k_dflt (refine' bytes2 ?Fq8 ?Nq8 ?hhq8 ?aq8 ?bq8 ?_; (case Fq8 => assumption); (case Nq8 => assumption); (case hhq8 => exact rfl); (case aq8 => ((repeat (first | (with_reducible rename Fr _ _ _ _ => kF; clear kF) | (with_reducible rename News _ _ _ _ => kN; clear kN))); subst_vars; assumption)); (case bq8 => ((repeat (first | (with_reducible rename Fr _ _ _ _ => kF; clear kF) | (with_reducible rename News _ _ _ _ => kN; clear kN))); subst_vars; assumption))); intro h'q9 t'q9 k'q9 F'q9)) | (with_reducible ((with_reducible show wpAny _ _ (compareOp PySem.CmpOp.Eq (Value.int _ _) (Value.int _ _)) _ _ _); (first | refine eq_noV (by assumption) ?_ | refine eq_yesV (by assumption) ?_))) | (with_reducible ((with_reducible show wpAny _ _ (subscriptTail _ _ (Value.bytes _ _) (Value.int _ _)) _ _ _); refine tab_V (by simp only [List.length_cons, List.length_nil]; omega) (by omega) (by simp only [List.length_cons, List.length_nil]; omega) ?_; intro c'q9 v'q9 k'q9 hc'q9 hlo'q9 hhi'q9)) | (with_reducible ((with_reducible show wpAny _ _ (binaryOp PySem.Operator.RShift (Value.int _ _) (Value.int _ _)) _ _ _); (refine shr_V (by first | omega | decide) ?_; intro c'q9 v'q9 k'q9 hc'q9))) | (with_reducible ((with_reducible show wpAny _ _ (binaryOp PySem.Operator.LShift (Value.int _ _) (Value.int _ _)) _ _ _); (refine shl_V (by first | omega | decide) (by first | omega | decide) (by omega) ?_; intro c'q9 v'q9 k'q9 hc'q9; (simp only [show ((2 : Int) ^ Int.toNat 8) = 256 from rfl, show ((2 : Int) ^ Int.toNat 2) = 4 from rfl, show ((2 : Int) ^ Int.toNat 4) = 16 from rfl, show ((2 : Int) ^ Int.toNat 6) = 64 from rfl] at hc'q9)))) | (with_reducible ((with_reducible show wpAny _ _ (binaryOp PySem.Operator.BitOr (Value.int _ _) (Value.int _ _)) _ _ _); (refine or_V ?_; intro c'q9 v'q9 k'q9 hc'q9))) | (with_reducible ((with_reducible show wpAny _ _ (binaryOp PySem.Operator.BitAnd (Value.int _ _) (Value.int _ _)) _ _ _); (refine and_V (by first | omega | decide) ?_; intro c'q9 v'q9 k'q9 hc'q9 hlo'q9 hhi'q9))) | (with_reducible ((with_reducible show wpAny _ _ (call (Value.ref 84) [Value.int _ _]) _ _ _); (with_reducible rename Fr _ _ _ _ => kFq9); k_dflt (refine' value_con (Cx.push (by assumption) kFq9 rfl) ?kdq8 ?kuq8  ?_; (case kdq8 => (first | exact room 1 hdp | exact room 2 hdp | exact room 3 hdp | exact room 4 hdp | exact room 8 hun | exact room 16 hun | exact room 24 hun | exact room 32 hun | exact room 64 hun | exact room 65 hun | exact room 2 hun | exact Nat.lt_of_le_of_lt (Nat.le_add_right _ _) hun | ((try dsimp +zetaDelta only [Ar, Around.deeper, Around.mark]); omega))); (case kuq8 => (first | exact room 1 hdp | exact room 2 hdp | exact room 3 hdp | exact room 4 hdp | exact room 8 hun | exact room 16 hun | exact room 24 hun | exact room 32 hun | exact room 64 hun | exact room 65 hun | exact room 2 hun | exact Nat.lt_of_le_of_lt (Nat.le_add_right _ _) hun | ((try dsimp +zetaDelta only [Ar, Around.deeper, Around.mark]); omega)));  skip); intro t'q9 h'q9 tk'q9 hk'q9; ((with_reducible rename Fr _ _ _ _ => kFq9); (with_reducible rename News _ _ _ _ => kNq9); (with_reducible rename Keeps _ _ => hk'q9); (have F'q9 := Fr.after kFq9 hk'q9); (have N'q9 := newsKeeps kNq9 hk'q9); clear hk'q9; clear kNq9 kFq9; (try dsimp only); (try k_fold)))) | (with_reducible ((with_reducible show wpAny _ _ (call (Value.ref 63) [Value.bytes _ _]) _ _ _); (with_reducible rename Fr _ _ _ _ => kFq9); k_dflt (refine' ascii_con (Cx.push (by assumption) kFq9 rfl) ?kdq8 ?kuq8  ?_; (case kdq8 => (first | exact room 1 hdp | exact room 2 hdp | exact room 3 hdp | exact room 4 hdp | exact room 8 hun | exact room 16 hun | exact room 24 hun | exact room 32 hun | exact room 64 hun | exact room 65 hun | exact room 2 hun | exact Nat.lt_of_le_of_lt (Nat.le_add_right _ _) hun | ((try dsimp +zetaDelta only [Ar, Around.deeper, Around.mark]); omega))); (case kuq8 => (first | exact room 1 hdp | exact room 2 hdp | exact room 3 hdp | exact room 4 hdp | exact room 8 hun | exact room 16 hun | exact room 24 hun | exact room 32 hun | exact room 64 hun | exact room 65 hun | exact room 2 hun | exact Nat.lt_of_le_of_lt (Nat.le_add_right _ _) hun | ((try dsimp +zetaDelta only [Ar, Around.deeper, Around.mark]); omega)));  skip); intro h'q9 tk'q9 hk'q9; ((with_reducible rename Fr _ _ _ _ => kFq9); (with_reducible rename News _ _ _ _ => kNq9); (with_reducible rename Keeps _ _ => hk'q9); (have F'q9 := Fr.after kFq9 hk'q9); (have N'q9 := newsKeeps kNq9 hk'q9); clear hk'q9; clear kNq9 kFq9; (try dsimp only); (try k_fold)))) | (with_reducible ((with_reducible show wpAny _ _ (call (Value.ref 77) [Value.bool false]) _ _ _); (with_reducible rename Fr _ _ _ _ => kFq9); k_dflt (refine' truth_con (Cx.push (by assumption) kFq9 rfl) ?kdq8 ?kuq8  ?_; (case kdq8 => (first | exact room 1 hdp | exact room 2 hdp | exact room 3 hdp | exact room 4 hdp | exact room 8 hun | exact room 16 hun | exact room 24 hun | exact room 32 hun | exact room 64 hun | exact room 65 hun | exact room 2 hun | exact Nat.lt_of_le_of_lt (Nat.le_add_right _ _) hun | ((try dsimp +zetaDelta only [Ar, Around.deeper, Around.mark]); omega))); (case kuq8 => (first | exact room 1 hdp | exact room 2 hdp | exact room 3 hdp | exact room 4 hdp | exact room 8 hun | exact room 16 hun | exact room 24 hun | exact room 32 hun | exact room 64 hun | exact room 65 hun | exact room 2 hun | exact Nat.lt_of_le_of_lt (Nat.le_add_right _ _) hun | ((try dsimp +zetaDelta only [Ar, Around.deeper, Around.mark]); omega)));  skip); intro h'q9 tk'q9 hk'q9; ((with_reducible rename Fr _ _ _ _ => kFq9); (with_reducible rename News _ _ _ _ => kNq9); (with_reducible rename Keeps _ _ => hk'q9); (have F'q9 := Fr.after kFq9 hk'q9); (have N'q9 := newsKeeps kNq9 hk'q9); clear hk'q9; clear kNq9 kFq9; (try dsimp only); (try k_fold)))) | ((with_reducible show wpAny _ _ (call _ [Value.bytes _ _]) _ _ _); refine call_type_of (Tx := "bytes") rfl (by decide +kernel) ?_) | (with_reducible ((with_reducible show wpAny _ _ (storeName _ _ _) _ _ _); k_dflt (refine' storeM ?Fq7 ?Nq7 ?_ ?aq7 ?bq7; (case Fq7 => k_asm); (case Nq7 => k_asm); (case aq7 => rfl); (case bq7 => rfl); k_whole; intro m'q7 h'q7 F'q7 N'q7; (try k_sweep)))) | (with_reducible ((with_reducible show wpAny _ _ (eval (PySem.Expr.Name _ _) _) _ _ _); k_dflt (refine' nameX_L ?Fq7 ?vq7 ?_ ?aq7 ?bq7; (case Fq7 => k_asm); (case aq7 => rfl); (case bq7 => rfl); (case vq7 => exact Eq.refl (some _)); k_whole))) | ((with_reducible show InvEnd _ _ _ _ _ _); ((with_reducible rename Fr _ _ _ _ => kFq7); first | ((dsimp +zetaDelta only at kFq7); (try dsimp +zetaDelta only)) | dsimp +zetaDelta only)) | ((with_reducible show InvEndG _ _ _ _ _ _); ((with_reducible rename Fr _ _ _ _ => kFq7); first | ((dsimp +zetaDelta only at kFq7); (try dsimp +zetaDelta only)) | dsimp +zetaDelta only)) | walk1 | (dsimp only; walk1) | (leave1; (try dsimp only)) | fail "no step") <;> (repeat ((fail_if_success (fail_if_success ((generalize qx = zq); (with_reducible show zq _ _)))); k_unfold; (try clear qx); (try (first | refine wpI (P := wpAny _ _ _ _ _ ⟨_, s.gens, s.drawn, _, s.os⟩) ?_ | refine wpI (P := wpAny _ _ _ _ _ _) ?_)); (try dsimp only)))))
  rename Fr _ _ _ _ => F
  rename News _ _ _ _ => N
  refine (?_ : ∀ a b t h' tk, a = dec0 (valOf c0.toNat) (valOf c1.toNat) → b = dec1 (valOf c1.toNat) (valOf c2.toNat) → Keeps s.heap h' → Q (.bytes #[a.toNat.toUInt8, b.toNat.toUInt8] t) { s with heap := h', toks := tk }) _ _ _ _ _ ?ea ?eb F.keep
  · rintro a b t h' tk rfl rfl hk
    exact ret _ _ _ hk
  · clear F N; subst_vars; rfl
  · clear F N; subst_vars; rfl
end Mine
end
section
open PySem PySem.W PyProof.Rows
set_option maxRecDepth 100000
set_option maxHeartbeats 8000000
set_option linter.unusedVariables false
namespace Mine
theorem decode4_con {w : World} {dp un : Nat} {gd : Option (List Code)} {base : Heap} {outer : List Env} {mean : ExcName → Option Value} {mg mb : Str → Option Value} {s : Shared} {Q E : Value → Shared → Prop}
    {c0 c1 c2 c3 : UInt8} {t : Tok}
    (C : Cx w (Ar dp un gd outer) s.heap base outer mean mg mb) (hdp : dp + 3 < recursionLimit) (hun : un + 24 < cLine)
    (n0 : (c0.toNat : Int) ≠ 61) (n1 : (c1.toNat : Int) ≠ 61) (n2 : (c2.toNat : Int) ≠ 61) (n3 : (c3.toNat : Int) = 61) (v0 : 0 ≤ valOf c0.toNat ∧ valOf c0.toNat < 64) (v1 : 0 ≤ valOf c1.toNat ∧ valOf c1.toNat < 64) (v2 : 0 ≤ valOf c2.toNat ∧ valOf c2.toNat < 64)
    (r0 : 0 ≤ dec0 (valOf c0.toNat) (valOf c1.toNat) ∧ dec0 (valOf c0.toNat) (valOf c1.toNat) < 256) (r1 : 0 ≤ dec1 (valOf c1.toNat) (valOf c2.toNat) ∧ dec1 (valOf c1.toNat) (valOf c2.toNat) < 256)
    (ret : ∀ t' h' tk', Keeps s.heap h' → Q (.bytes #[(dec0 (valOf c0.toNat) (valOf c1.toNat)).toNat.toUInt8, (dec1 (valOf c1.toNat) (valOf c2.toNat)).toNat.toUInt8] t') { s with heap := h', toks := tk' }) :
    wpAny (model PySem.Challenge.rw_qh0049_01.row.prog w) (Ar dp un gd outer) (call (.ref 116) [.bytes #[c0, c1, c2, c3] t]) Q E s := by
  have KX := C.X
  revert KX
  k_fill
  intro KX
  have KT := C.T
  w_on
  refine' enterP (binds := [(Str.ofString "s", .bytes #[c0, c1, c2, c3] t), (Str.ofString "altchars", .none), (Str.ofString "validate", .bool false)]) KX KT ?k6 ?k7 ?k8 ?k9 ?kB ?_ ?c2 ?c3 ?c4 ?c5
  (k_dflt ((case k6 => k_is); (case k7 => k_is); (case k8 => exact Nat.lt_of_le_of_lt (Nat.le_add_right _ _) hdp); (case k9 => first | exact BindsTo.of_eq rfl | exact binds_K (by assumption) rfl (by k_is) rfl rfl rfl); (case c5 => decide); (case kB => exact locs rfl); (case c2 => exact rfl); (case c3 => exact rfl); (case c4 => exact rfl)))
  intro Lf ev Ak m0 h1 F N
  (try k_fold)
  (repeat' ((try ((with_reducible show wpAny _ _ (execs _ _) _ _ _); k_gentoks)); (try ((with_reducible show wpAny _ _ (exec _ _) _ _ _); (with_reducible refine foldQ ?_); intro qx)); (first | (k_unfold; (try (first | refine wpI (P := wpAny _ _ _ _ _ ⟨_, s.gens, s.drawn, _, s.os⟩) ?_ | refine wpI (P := wpAny _ _ _ _ _ _) ?_)); (try dsimp only)) | (k_end; wrow_close) | (with_reducible ((with_reducible show wpAny _ _ (call (Value.ref 92) [Value.bytes _ _] _) _ _ _); (with_reducible rename Fr _ _ _ _ => kFq9); k_dflt (refine' a2b_con (Cx.push (by assumption) kFq9 rfl) ?kdq8 ?kuq8 ?n0q8 ?n1q8 ?n2q8 ?n3q8 ?v0q8 ?v1q8 ?v2q8 ?r0q8 ?r1q8 ?_; (case kdq8 => (first | exact room 1 hdp | exact room 2 hdp | exact room 3 hdp | exact room 4 hdp | exact room 8 hun | exact room 16 hun | exact room 24 hun | exact room 32 hun | exact room 64 hun | exact room 65 hun | exact room 2 hun | exact Nat.lt_of_le_of_lt (Nat.le_add_right _ _) hun | ((try dsimp +zetaDelta only [Ar, Around.deeper, Around.mark]); omega))); (case kuq8 => (first | exact room 1 hdp | exact room 2 hdp | exact room 3 hdp | exact room 4 hdp | exact room 8 hun | exact room 16 hun | exact room 24 hun | exact room 32 hun | exact room 64 hun | exact room 65 hun | exact room 2 hun | exact Nat.lt_of_le_of_lt (Nat.le_add_right _ _) hun | ((try dsimp +zetaDelta only [Ar, Around.deeper, Around.mark]); omega))); (case n0q8 => assumption); (case n1q8 => assumption); (case n2q8 => assumption); (case n3q8 => assumption); (case v0q8 => assumption); (case v1q8 => assumption); (case v2q8 => assumption); (case r0q8 => assumption); (case r1q8 => assumption); skip); intro t'q9 h'q9 tk'q9 hk'q9; ((with_reducible rename Fr _ _ _ _ => kFq9); (with_reducible rename News _ _ _ _ => kNq9); (with_reducible rename Keeps _ _ => hk'q9); (have F'q9 := Fr.after kFq9 hk'q9); (have N'q9 := newsKeeps kNq9 hk'q9); clear hk'q9; clear kNq9 kFq9; (try dsimp only); (try k_fold)))) | (with_reducible ((with_reducible show wpAny _ _ (call (Value.ref 43) [Value.bytes _ _]) _ _ _); (with_reducible rename Fr _ _ _ _ => kFq9); k_dflt (refine' bfdd_con (Cx.push (by assumption) kFq9 rfl) ?kdq8 ?kuq8  ?_; (case kdq8 => (first | exact room 1 hdp | exact room 2 hdp | exact room 3 hdp | exact room 4 hdp | exact room 8 hun | exact room 16 hun | exact room 24 hun | exact room 32 hun | exact room 64 hun | exact room 65 hun | exact room 2 hun | exact Nat.lt_of_le_of_lt (Nat.le_add_right _ _) hun | ((try dsimp +zetaDelta only [Ar, Around.deeper, Around.mark]); omega))); (case kuq8 => (first | exact room 1 hdp | exact room 2 hdp | exact room 3 hdp | exact room 4 hdp | exact room 8 hun | exact room 16 hun | exact room 24 hun | exact room 32 hun | exact room 64 hun | exact room 65 hun | exact room 2 hun | exact Nat.lt_of_le_of_lt (Nat.le_add_right _ _) hun | ((try dsimp +zetaDelta only [Ar, Around.deeper, Around.mark]); omega)));  skip); intro h'q9 tk'q9 hk'q9; ((with_reducible rename Fr _ _ _ _ => kFq9); (with_reducible rename News _ _ _ _ => kNq9); (with_reducible rename Keeps _ _ => hk'q9); (have F'q9 := Fr.after kFq9 hk'q9); (have N'q9 := newsKeeps kNq9 hk'q9); clear hk'q9; clear kNq9 kFq9; (try dsimp only); (try k_fold)))) | ((with_reducible show wpAny _ _ (call _ [Value.bytes _ _]) _ _ _); refine call_type_of (Tx := "bytes") rfl (by decide +kernel) ?_) | (with_reducible ((with_reducible show wpAny _ _ (storeName _ _ _) _ _ _); k_dflt (refine' storeM ?Fq7 ?Nq7 ?_ ?aq7 ?bq7; (case Fq7 => k_asm); (case Nq7 => k_asm); (case aq7 => rfl); (case bq7 => rfl); k_whole; intro m'q7 h'q7 F'q7 N'q7; (try k_sweep)))) | (with_reducible ((with_reducible show wpAny _ _ (eval (PySem.Expr.Name _ _) _) _ _ _); k_dflt (refine' nameX_L ?Fq7 ?vq7 ?_ ?aq7 ?bq7; (case Fq7 => k_asm); (case aq7 => rfl); (case bq7 => rfl); (case vq7 => exact Eq.refl (some _)); k_whole))) | ((with_reducible show InvEnd _ _ _ _ _ _); ((with_reducible rename Fr _ _ _ _ => kFq7); first | ((dsimp +zetaDelta only at kFq7); (try dsimp +zetaDelta only)) | dsimp +zetaDelta only)) | ((with_reducible show InvEndG _ _ _ _ _ _); ((with_reducible rename Fr _ _ _ _ => kFq7); first | ((dsimp +zetaDelta only at kFq7); (try dsimp +zetaDelta only)) | dsimp +zetaDelta only)) | walk1 | (dsimp only; walk1) | (leave1; (try dsimp only)) | fail "no step") <;> (repeat ((fail_if_success (fail_if_success ((generalize qx = zq); (with_reducible show zq _ _)))); k_unfold; (try clear qx); (try (first | refine wpI (P := wpAny _ _ _ _ _ ⟨_, s.gens, s.drawn, _, s.os⟩) ?_ | refine wpI (P := wpAny _ _ _ _ _ _) ?_)); (try dsimp only)))))
  rename Fr _ _ _ _ => F
  exact ret _ _ _ F.keep
def WordOk (n : Int) : Prop :=
  let c := fun i => (((wordOf n).getD i 0).toNat.toUInt8.toNat : Int)
  c 0 ≠ 61 ∧ c 1 ≠ 61 ∧ c 2 ≠ 61 ∧ c 3 = 61 ∧ (0 ≤ valOf (c 0) ∧ valOf (c 0) < 64) ∧ (0 ≤ valOf (c 1) ∧ valOf (c 1) < 64) ∧ (0 ≤ valOf (c 2) ∧ valOf (c 2) < 64) ∧
  (0 ≤ dec0 (valOf (c 0)) (valOf (c 1)) ∧ dec0 (valOf (c 0)) (valOf (c 1)) < 256) ∧ (0 ≤ dec1 (valOf (c 1)) (valOf (c 2)) ∧ dec1 (valOf (c 1)) (valOf (c 2)) < 256) ∧
  dec0 (valOf (c 0)) (valOf (c 1)) = n ∧ dec1 (valOf (c 1)) (valOf (c 2)) = 16 * n
theorem wordOk_all : ∀ k : _root_.Fin 16, WordOk ((k.val : Nat) : Int) := by
  unfold WordOk
  decide +kernel
theorem wordOk {n : Int} (h0 : 0 ≤ n) (h16 : n < 16) : WordOk n := by
  have := wordOk_all ⟨n.toNat, by omega⟩
  have e : ((n.toNat : Nat) : Int) = n := by omega
  simpa [e] using this
theorem decode5_con {w : World} {dp un : Nat} {gd : Option (List Code)} {base : Heap} {outer : List Env} {mean : ExcName → Option Value} {mg mb : Str → Option Value} {s : Shared} {Q E : Value → Shared → Prop}
    {c0 c1 c2 c3 : UInt8} {t : Tok} {d0 d1 : Int}
    (C : Cx w (Ar dp un gd outer) s.heap base outer mean mg mb) (hdp : dp + 3 < recursionLimit) (hun : un + 24 < cLine)
    (n0 : (c0.toNat : Int) ≠ 61) (n1 : (c1.toNat : Int) ≠ 61) (n2 : (c2.toNat : Int) ≠ 61) (n3 : (c3.toNat : Int) = 61) (v0 : 0 ≤ valOf c0.toNat ∧ valOf c0.toNat < 64) (v1 : 0 ≤ valOf c1.toNat ∧ valOf c1.toNat < 64) (v2 : 0 ≤ valOf c2.toNat ∧ valOf c2.toNat < 64)
    (r0 : 0 ≤ dec0 (valOf c0.toNat) (valOf c1.toNat) ∧ dec0 (valOf c0.toNat) (valOf c1.toNat) < 256) (r1 : 0 ≤ dec1 (valOf c1.toNat) (valOf c2.toNat) ∧ dec1 (valOf c1.toNat) (valOf c2.toNat) < 256)
    (q0 : dec0 (valOf c0.toNat) (valOf c1.toNat) = d0) (q1 : dec1 (valOf c1.toNat) (valOf c2.toNat) = d1)
    (ret : ∀ t' h' tk', Keeps s.heap h' → Q (.bytes #[d0.toNat.toUInt8, d1.toNat.toUInt8] t') { s with heap := h', toks := tk' }) :
    wpAny (model PySem.Challenge.rw_qh0049_01.row.prog w) (Ar dp un gd outer) (call (.ref 116) [.bytes #[c0, c1, c2, c3] t]) Q E s := by
  subst q0 q1
  exact decode4_con C hdp hun n0 n1 n2 n3 v0 v1 v2 r0 r1 ret
theorem decode_con {w : World} {dp un : Nat} {gd : Option (List Code)} {base : Heap} {outer : List Env} {mean : ExcName → Option Value} {mg mb : Str → Option Value} {s : Shared} {Q E : Value → Shared → Prop}
    {n : Int} {t : Tok}
    (C : Cx w (Ar dp un gd outer) s.heap base outer mean mg mb) (hdp : dp + 3 < recursionLimit) (hun : un + 24 < cLine) (h0 : 0 ≤ n) (h16 : n < 16)
    (ret : ∀ t' h' tk', Keeps s.heap h' → Q (.bytes #[n.toNat.toUInt8, (16 * n).toNat.toUInt8] t') { s with heap := h', toks := tk' }) :
    wpAny (model PySem.Challenge.rw_qh0049_01.row.prog w) (Ar dp un gd outer) (call (.ref 116) [.bytes (bytesOf (wordOf n)) t]) Q E s := by
  obtain ⟨n0, n1, n2, n3, v0, v1, v2, r0, r1, e0, e1⟩ := wordOk h0 h16
  exact decode5_con C hdp hun n0 n1 n2 n3 v0 v1 v2 r0 r1 e0 e1 ret
end Mine
end
section
open PySem PySem.W PyProof.Rows
set_option maxRecDepth 100000
set_option maxHeartbeats 8000000
set_option linter.unusedVariables false
namespace Mine
/-- the values are the addresses of words, each the word of its number -/
inductive Wd (W : List (Addr × Obj)) : List Value → List Int → Prop
  | nil : Wd W [] []
  | cons {a : Addr} {xs : List Value} {k : Nat} {m : Int} {vs : List Value} {ms : List Int} : (a, listOf (List.toArray xs) k) ∈ W → IntsAre xs (wordOf m) → 0 ≤ m → m < 16 → Wd W vs ms → Wd W (.ref a :: vs) (m :: ms)
theorem Wd.mono {W W' : List (Addr × Obj)} (hs : ∀ p ∈ W, p ∈ W') : ∀ {vs : List Value} {ms : List Int}, Wd W vs ms → Wd W' vs ms
  | _, _, .nil => .nil
  | _, _, .cons h i a b r => .cons (hs _ h) i a b (r.mono hs)
theorem Wd.append {W : List (Addr × Obj)} : ∀ {vs us : List Value} {ms ns : List Int}, Wd W vs ms → Wd W us ns → Wd W (vs ++ us) (ms ++ ns)
  | _, _, _, _, .nil, h => h
  | _, _, _, _, .cons h i a b r, h' => .cons h i a b (r.append h')
theorem Wd.length {W : List (Addr × Obj)} : ∀ {vs : List Value} {ms : List Int}, Wd W vs ms → vs.length = ms.length
  | _, _, .nil => rfl
  | _, _, .cons _ _ _ _ r => by simp [r.length]
theorem Wd.get {W : List (Addr × Obj)} : ∀ {vs : List Value} {ms : List Int}, Wd W vs ms → ∀ {i : Nat} {v : Value}, vs[i]? = some v → ∃ m a xs k, ms[i]? = some m ∧ v = .ref a ∧ (a, listOf (List.toArray xs) k) ∈ W ∧ IntsAre xs (wordOf m) ∧ 0 ≤ m ∧ m < 16
  | _, _, .nil, i, v, h => by simp at h
  | _, _, .cons (a := a) (xs := xs) (k := k) (m := m) h1 h2 h3 h4 r, 0, v, h => by
    simp at h
    exact ⟨m, a, xs, k, rfl, h.symm, h1, h2, h3, h4⟩
  | _, _, .cons h1 h2 h3 h4 r, i + 1, v, h => by
    obtain ⟨m, a, xs, k, e, rest⟩ := r.get (i := i) (v := v) (by simpa using h)
    exact ⟨m, a, xs, k, by simpa using e, rest⟩
theorem xor_ok_all : ∀ a b : _root_.Fin 16, 0 ≤ Builtin.bitXor ((a.val : Nat) : Int) ((b.val : Nat) : Int) ∧ Builtin.bitXor ((a.val : Nat) : Int) ((b.val : Nat) : Int) < 16 ∧ Builtin.bitXor (16 * ((a.val : Nat) : Int)) (16 * ((b.val : Nat) : Int)) = 16 * Builtin.bitXor ((a.val : Nat) : Int) ((b.val : Nat) : Int) := by decide +kernel
theorem xor_ok {a b : Int} (ha : 0 ≤ a) (ha' : a < 16) (hb : 0 ≤ b) (hb' : b < 16) : 0 ≤ Builtin.bitXor a b ∧ Builtin.bitXor a b < 16 ∧ Builtin.bitXor (16 * a) (16 * b) = 16 * Builtin.bitXor a b := by
  have := xor_ok_all ⟨a.toNat, by omega⟩ ⟨b.toNat, by omega⟩
  have e : ((a.toNat : Nat) : Int) = a := by omega
  have e' : ((b.toNat : Nat) : Int) = b := by omega
  simpa [e, e'] using this
def sumsOf (ns : List Int) : List Int := ns.foldl (fun ws n => ws ++ ws.map (fun m => Builtin.bitXor n m)) [0]
theorem sumsOf_step (ns : List Int) (i : Nat) (n : Int) (h : ns[i]? = some n) : sumsOf (ns.take (i + 1)) = sumsOf (ns.take i) ++ (sumsOf (ns.take i)).map (fun m => Builtin.bitXor n m) := by
  unfold sumsOf
  rw [List.take_add_one, h]; simp
section
variable {prog : Program} {w : World} {A : Around} {s : Shared} {Q : Value → Shared → Prop} {E : Value → Shared → Prop} {h₀ : Heap} {L l : Addr} {m : Str → Option Value} {news : List (Addr × Obj)}
/-- bytes of a word -/
theorem bytesW {xs : List Value} {n : Int} (F : Fr h₀ L s.heap m) (N : News h₀ L s.heap news) (hl : s.heap.IsList l xs.toArray) (hi : IntsAre xs (wordOf n)) (hh : A.handled = none)
    (h : ∀ h' t k, Fr h₀ L h' m → News h₀ L h' news → Q (.bytes (bytesOf (wordOf n)) t) { s with heap := h', toks := k }) : wpAny (model prog w) A (call (.type "bytes") [.ref l]) Q E s := by
  refine bytes_K F N hl hi ?_ ?_ hh fun h' t k F' N' _ => h h' t k F' N'
  · intro d hd
    unfold wordOf enc2 at hd
    simp only [List.mem_cons, List.not_mem_nil, or_false] at hd
    rcases hd with rfl | rfl | rfl | rfl
    · exact tabI_range _
    · exact tabI_range _
    · exact tabI_range _
    · decide
  · rw [hi.length, sizeLine_eq]; show 4 ≤ 16777216; decide
/-- bytes of two ints in a list just made: the list is forgotten -/
theorem bytes2N {a b : Int} {ta tb : Tok} {k : Nat}
    (F : Fr h₀ L s.heap m) (N : News h₀ L s.heap ((l, listOf #[.int a ta, .int b tb] k) :: news)) (hh : A.handled = none) (ha : 0 ≤ a ∧ a < 256) (hb : 0 ≤ b ∧ b < 256)
    (h : ∀ h' t k, Fr h₀ L h' m → News h₀ L h' news → Q (.bytes #[a.toNat.toUInt8, b.toNat.toUInt8] t) { s with heap := h', toks := k }) : wpAny (model prog w) A (call (.type "bytes") [.ref l]) Q E s := by
  refine bytes_K F N (vs := [.int a ta, .int b tb]) (ns := [a, b]) ⟨_, (N _ (.head _)).1, rfl, _, rfl⟩ (.cons _ _ (.cons _ _ .nil)) ?_ (by rw [sizeLine_eq]; simp) hh fun h' t k F' N' _ => h h' t k F' (fun p hp => N' p (.tail _ hp))
  intro n hn
  simp only [List.mem_cons, List.not_mem_nil, or_false] at hn
  rcases hn with rfl | rfl <;> assumption
/-- the first and the second octet of two -/
theorem item0 {n d : Int} {t ui : Tok} {value slice : PySem.Expr} (h0 : 0 ≤ n) (h1 : n < 256) (h : ∀ v k, Q (.int n v) { s with toks := k })
    (hs : subscripted slice false (.bytes #[n.toNat.toUInt8, d.toNat.toUInt8] t) (.int 0 ui) = operate [.bytes #[n.toNat.toUInt8, d.toNat.toUInt8] t, .int 0 ui] (getItem (.bytes #[n.toNat.toUInt8, d.toNat.toUInt8] t) (.int 0 ui)) := by with_unfolding_all rfl)
    (ht : ∀ r, letTemporaryGo value (.bytes #[n.toNat.toUInt8, d.toNat.toUInt8] t) r = pure () := by intro _; with_unfolding_all rfl) : wpAny (model prog w) A (subscriptTail value slice (.bytes #[n.toNat.toUInt8, d.toNat.toUInt8] t) (.int 0 ui)) Q E s :=
  bytes_item_K (x := [n.toNat.toUInt8, d.toNat.toUInt8]) (by simp) (by decide) (by simp) (byte_back h0 h1) (h _ _) hs ht
theorem item1 {n d : Int} {t ui : Tok} {value slice : PySem.Expr} (h0 : 0 ≤ d) (h1 : d < 256) (h : ∀ v k, Q (.int d v) { s with toks := k })
    (hs : subscripted slice false (.bytes #[n.toNat.toUInt8, d.toNat.toUInt8] t) (.int 1 ui) = operate [.bytes #[n.toNat.toUInt8, d.toNat.toUInt8] t, .int 1 ui] (getItem (.bytes #[n.toNat.toUInt8, d.toNat.toUInt8] t) (.int 1 ui)) := by with_unfolding_all rfl)
    (ht : ∀ r, letTemporaryGo value (.bytes #[n.toNat.toUInt8, d.toNat.toUInt8] t) r = pure () := by intro _; with_unfolding_all rfl) : wpAny (model prog w) A (subscriptTail value slice (.bytes #[n.toNat.toUInt8, d.toNat.toUInt8] t) (.int 1 ui)) Q E s :=
  bytes_item_K (x := [n.toNat.toUInt8, d.toNat.toUInt8]) (by simp) (by decide) (by simp) (byte_back h0 h1) (h _ _) hs ht
theorem xor_V {a b : Int} {t u : Tok} (h : ∀ v k, Q (.int (Builtin.bitXor a b) v) { s with toks := k }) : wpAny (model prog w) A (binaryOp .BitXor (.int a t) (.int b u)) Q E s := xor_int (h _ _)
end
end Mine
end
section
open PySem PySem.W PyProof.Rows
set_option maxRecDepth 100000
set_option maxHeartbeats 8000000
set_option linter.unusedVariables false
namespace Mine
theorem mapOff5 {m m₀ : Str → Option Value} {a b c d e : Str} (h : ∀ y, y ≠ a → y ≠ b → y ≠ c → y ≠ d → y ≠ e → m y = m₀ y) : m = fun y => if y = a then m a else if y = b then m b else if y = c then m c else if y = d then m d else if y = e then m e else m₀ y := by
  funext y
  by_cases h1 : y = a
  · rw [if_pos h1, h1]
  · rw [if_neg h1]
    by_cases h2 : y = b
    · rw [if_pos h2, h2]
    · rw [if_neg h2]
      by_cases h3 : y = c
      · rw [if_pos h3, h3]
      · rw [if_neg h3]
        by_cases h4 : y = d
        · rw [if_pos h4, h4]
        · rw [if_neg h4]
          by_cases h5 : y = e
          · rw [if_pos h5, h5]
          · rw [if_neg h5]; exact h y h1 h2 h3 h4 h5
theorem sumStart {fv ov nv u1 u2 u3 u4 u5 wv : Option Value} {r : Str → Option Value} (y : Str) (h1 : y ≠ Str.ofString "word") (h2 : y ≠ Str.ofString "two") :
    (if y = Str.ofString "further" then fv else if y = Str.ofString "one" then ov else if y = Str.ofString "number" then nv else if y = Str.ofString "number" then u1 else if y = Str.ofString "one" then u2 else if y = Str.ofString "further" then u3 else if y = Str.ofString "word" then u4 else if y = Str.ofString "two" then u5 else if y = Str.ofString "words" then wv else r y) =
    (if y = Str.ofString "further" then fv else if y = Str.ofString "one" then ov else if y = Str.ofString "number" then nv else if y = Str.ofString "words" then wv else r y) := by
  by_cases f1 : y = Str.ofString "further"
  · simp [f1]
  · by_cases f2 : y = Str.ofString "one"
    · simp [f2]
    · by_cases f3 : y = Str.ofString "number"
      · simp [f3]
      · simp [f1, f2, f3, h1, h2]
theorem sums_len : ∀ {ns : List Int}, ns.length ≤ 2 → (sumsOf ns).length ≤ 4
  | [], _ => by decide
  | [_], _ => by simp [sumsOf]
  | [_, _], _ => by simp [sumsOf]
  | _ :: _ :: _ :: _, h => by simp at h
inductive SumJ (l : Addr) (ns : List Int) (i : Nat) (m : Str → Option Value) (nx : List (Addr × Obj)) : Prop
  | mk (b : Addr) (bs : List Value) (k : Nat) (W : List (Addr × Obj))
    (hm : ∀ y, y ≠ Str.ofString "number" → y ≠ Str.ofString "one" → y ≠ Str.ofString "further" → y ≠ Str.ofString "word" → y ≠ Str.ofString "two" → m y = (fun y => if y = Str.ofString "words" then some (.ref b) else List.lookup y [(Str.ofString "numbers", .ref l)]) y)
    (hx : nx = (b, listOf (List.toArray bs) k) :: W) (hW : Wd W bs (sumsOf (ns.take i))) (hb : ∀ p ∈ W, p.1 ≠ b) : SumJ l ns i m nx
inductive SumK (l b : Addr) (bs : List Value) (k : Nat) (W own : List (Addr × Obj)) (n : Int) (t : Tok) (ms : List Int) (j : Nat) (m : Str → Option Value) (nx : List (Addr × Obj)) : Prop
  | mk (fl : Addr) (fs : List Value) (kf : Nat) (T W' : List (Addr × Obj)) (t1 : Tok)
    (hm : ∀ y, y ≠ Str.ofString "word" → y ≠ Str.ofString "two" → m y = (fun y => if y = Str.ofString "further" then some (.ref fl) else if y = Str.ofString "one" then some (.bytes #[n.toNat.toUInt8, (16 * n).toNat.toUInt8] t1) else if y = Str.ofString "number" then some (.int n t) else if y = Str.ofString "words" then some (.ref b) else List.lookup y [(Str.ofString "numbers", .ref l)]) y)
    (hx : nx = (fl, listOf (List.toArray fs) kf) :: T) (hT : ∀ p ∈ T, p.1 ≠ fl) (hR : ∀ p ∈ (b, listOf (List.toArray bs) k) :: (W ++ own), p ∈ T) (hW : Wd W' fs ((ms.take j).map (fun x => Builtin.bitXor n x))) (hT' : ∀ p ∈ W', p ∈ T) (ho : OwnOff own (W'.map (·.1))) (hl : fs.length ≤ j) : SumK l b bs k W own n t ms j m nx
theorem sums_con {w : World} {dp un : Nat} {gd : Option (List Code)} {base : Heap} {outer : List Env} {mean : ExcName → Option Value} {mg mb : Str → Option Value} {s : Shared} {Q E : Value → Shared → Prop}
    {l : Addr} {vs : List Value} {ns : List Int}
    (C : Cx w (Ar dp un gd outer) s.heap base outer mean mg mb) (hdp : dp + 5 < recursionLimit) (hun : un + 40 < cLine)
    (hl : s.heap.IsList l vs.toArray) (hi : IntsAre vs ns) (hns : ∀ n ∈ ns, 0 ≤ n ∧ n < 16) (hlen : ns.length ≤ 3)
    (ret : ∀ b bs k W h' tk', Keeps s.heap h' → (∀ p ∈ (b, listOf (List.toArray bs) k) :: W, h'.get? p.1 = some p.2 ∧ s.heap.get? p.1 = none) → (∀ p ∈ W, p.1 ≠ b) → Wd W bs (sumsOf ns) → Q (.ref b) { s with heap := h', toks := tk' }) :
    wpAny (model PySem.Challenge.rw_qh0049_01.row.prog w) (Ar dp un gd outer) (call (.ref 158) [.ref l]) Q E s := by
  have KX := C.X
  revert KX
  k_fill
  intro KX
  have KT := C.T
  w_on
  refine' enterP (binds := [(Str.ofString "numbers", .ref l)]) KX KT ?k6 ?k7 ?k8 ?k9 ?kB ?_ ?c2 ?c3 ?c4 ?c5
  (k_dflt ((case k6 => k_is); (case k7 => k_is); (case k8 => exact Nat.lt_of_le_of_lt (Nat.le_add_right _ _) hdp); (case k9 => first | exact BindsTo.of_eq rfl | exact binds_K (by assumption) rfl (by k_is) rfl rfl rfl); (case c5 => decide); (case kB => exact locs rfl); (case c2 => exact rfl); (case c3 => exact rfl); (case c4 => exact rfl)))
  intro Lf ev Ak m0 h1 F N
  (try k_fold)
  repeat ((fail_if_success (with_reducible show wpAny _ _ (exec (PySem.Stmt.For _ _ _ _ _) _) _ _ _)); ((try ((with_reducible show wpAny _ _ (execs _ _) _ _ _); k_gentoks)); (try ((with_reducible show wpAny _ _ (exec _ _) _ _ _); (with_reducible refine foldQ ?_); intro qx)); (first | (k_unfold; (try (first | refine wpI (P := wpAny _ _ _ _ _ ⟨_, s.gens, s.drawn, _, s.os⟩) ?_ | refine wpI (P := wpAny _ _ _ _ _ _) ?_)); (try dsimp only)) | (k_end; kc_close) | (with_reducible ((with_reducible show wpAny _ _ (subscriptTail _ _ (Value.bytes _ _) (Value.int _ _)) _ _ _); first | (refine item0 (by omega) (by omega) ?_; intro v'q9 k'q9) | (refine item1 (by omega) (by omega) ?_; intro v'q9 k'q9))) | (with_reducible ((with_reducible show wpAny _ _ (binaryOp PySem.Operator.BitXor (Value.int _ _) (Value.int _ _)) _ _ _); (refine xor_V ?_; intro v'q9 k'q9))) | (with_reducible ((with_reducible show wpAny _ _ (call (Value.type "bytes") [Value.ref _]) _ _ _); k_dflt (first | (refine' bytes2N ?Fq8 ?Nq8 ?hhq8 ?aq8 ?bq8 ?_; (case Fq8 => assumption); (case Nq8 => assumption); (case hhq8 => exact rfl); (case aq8 => (constructor <;> omega)); (case bq8 => (constructor <;> omega)); intro h'q9 t'q9 k'q9 F'q9 N'q9; (try k_sweep)) | (refine' bytesW ?Fq8 ?Nq8 ?lq8 ?iq8 ?hhq8 ?_; (case Fq8 => assumption); (case Nq8 => assumption); (case iq8 => assumption); (case lq8 => (first | exact News.isList (by assumption) (by first | k_mem | assumption) | assumption)); (case hhq8 => exact rfl); intro h'q9 t'q9 k'q9 F'q9 N'q9; (try k_sweep))))) | (with_reducible ((with_reducible show wpAny _ _ (call (Value.type "list") [Value.bytes _ _]) _ _ _); k_dflt (refine' list_bytes_K ?Fq8 ?Nq8 ?hhq8 ?zq8 ?_; (case Fq8 => assumption); (case Nq8 => assumption); (case hhq8 => exact rfl); (case zq8 => exact enc_size _ _)); intro aW vW cW h' tk' F' N' lW iW)) | (with_reducible ((with_reducible show wpAny _ _ (call (Value.ref 108) [Value.bytes _ _]) _ _ _); (with_reducible rename Fr _ _ _ _ => kFq9); k_dflt (refine' encode_con (Cx.push (by assumption) kFq9 rfl) ?kdq8 ?kuq8  ?_; (case kdq8 => (first | exact room 1 hdp | exact room 2 hdp | exact room 3 hdp | exact room 4 hdp | exact room 8 hun | exact room 16 hun | exact room 24 hun | exact room 32 hun | exact room 64 hun | exact room 65 hun | exact room 2 hun | exact Nat.lt_of_le_of_lt (Nat.le_add_right _ _) hun | ((try dsimp +zetaDelta only [Ar, Around.deeper, Around.mark]); omega))); (case kuq8 => (first | exact room 1 hdp | exact room 2 hdp | exact room 3 hdp | exact room 4 hdp | exact room 8 hun | exact room 16 hun | exact room 24 hun | exact room 32 hun | exact room 64 hun | exact room 65 hun | exact room 2 hun | exact Nat.lt_of_le_of_lt (Nat.le_add_right _ _) hun | ((try dsimp +zetaDelta only [Ar, Around.deeper, Around.mark]); omega)));  skip); intro t'q9 h'q9 tk'q9 hk'q9; ((with_reducible rename Fr _ _ _ _ => kFq9); (with_reducible rename News _ _ _ _ => kNq9); (with_reducible rename Keeps _ _ => hk'q9); (have F'q9 := Fr.after kFq9 hk'q9); (have N'q9 := newsKeeps kNq9 hk'q9); clear hk'q9; clear kNq9 kFq9; (try dsimp only); (try k_fold)))) | (with_reducible ((with_reducible show wpAny _ _ (call (Value.ref 116) [Value.bytes (bytesOf (wordOf _)) _]) _ _ _); (with_reducible rename Fr _ _ _ _ => kFq9); k_dflt (refine' decode_con (Cx.push (by assumption) kFq9 rfl) ?kdq8 ?kuq8 ?h0q8 ?h16q8 ?_; (case kdq8 => (first | exact room 1 hdp | exact room 2 hdp | exact room 3 hdp | exact room 4 hdp | exact room 8 hun | exact room 16 hun | exact room 24 hun | exact room 32 hun | exact room 64 hun | exact room 65 hun | exact room 2 hun | exact Nat.lt_of_le_of_lt (Nat.le_add_right _ _) hun | ((try dsimp +zetaDelta only [Ar, Around.deeper, Around.mark]); omega))); (case kuq8 => (first | exact room 1 hdp | exact room 2 hdp | exact room 3 hdp | exact room 4 hdp | exact room 8 hun | exact room 16 hun | exact room 24 hun | exact room 32 hun | exact room 64 hun | exact room 65 hun | exact room 2 hun | exact Nat.lt_of_le_of_lt (Nat.le_add_right _ _) hun | ((try dsimp +zetaDelta only [Ar, Around.deeper, Around.mark]); omega))); (case h0q8 => omega); (case h16q8 => omega); skip); intro t'q9 h'q9 tk'q9 hk'q9; ((with_reducible rename Fr _ _ _ _ => kFq9); (with_reducible rename News _ _ _ _ => kNq9); (with_reducible rename Keeps _ _ => hk'q9); (have F'q9 := Fr.after kFq9 hk'q9); (have N'q9 := newsKeeps kNq9 hk'q9); clear hk'q9; clear kNq9 kFq9; (try dsimp only); (try k_fold)))) | (with_reducible ((with_reducible show wpAny _ _ (call (Value.ref 151) [Value.int _ _]) _ _ _); (with_reducible rename Fr _ _ _ _ => kFq9); (with_reducible rename News _ _ _ _ => kNq9); k_dflt (refine' word_con (Cx.push (by assumption) kFq9 rfl) ?kdq8 ?kuq8 ?h0q8 ?h16q8 ?_; (case kdq8 => (first | exact room 1 hdp | exact room 2 hdp | exact room 3 hdp | exact room 4 hdp | exact room 8 hun | exact room 16 hun | exact room 24 hun | exact room 32 hun | exact room 64 hun | exact room 65 hun | exact room 2 hun | exact Nat.lt_of_le_of_lt (Nat.le_add_right _ _) hun | ((try dsimp +zetaDelta only [Ar, Around.deeper, Around.mark]); omega))); (case kuq8 => (first | exact room 1 hdp | exact room 2 hdp | exact room 3 hdp | exact room 4 hdp | exact room 8 hun | exact room 16 hun | exact room 24 hun | exact room 32 hun | exact room 64 hun | exact room 65 hun | exact room 2 hun | exact Nat.lt_of_le_of_lt (Nat.le_add_right _ _) hun | ((try dsimp +zetaDelta only [Ar, Around.deeper, Around.mark]); omega))); (case h0q8 => omega); (case h16q8 => omega)); intro a'q9 vs'q9 k'q9 h'q9 tk'q9 hk'q9 hg'q9 hn'q9 hi'q9; (have F'q9 := Fr.after kFq9 hk'q9); (have N'q9 := newsMore kFq9 kNq9 hk'q9 hg'q9 hn'q9); (have l1'q9 := newsNe kNq9 hn'q9); clear hk'q9 hg'q9 hn'q9; clear kNq9 kFq9; (try dsimp only); (try k_fold))) | ((with_reducible show wpAny _ _ (call _ [Value.bytes _ _]) _ _ _); refine call_type_of (Tx := "bytes") rfl (by decide +kernel) ?_) | (with_reducible ((with_reducible show wpAny _ _ (storeName _ _ _) _ _ _); k_dflt (refine' storeM ?Fq7 ?Nq7 ?_ ?aq7 ?bq7; (case Fq7 => k_asm); (case Nq7 => k_asm); (case aq7 => rfl); (case bq7 => rfl); k_whole; intro m'q7 h'q7 F'q7 N'q7; (try k_sweep)))) | (with_reducible ((with_reducible show wpAny _ _ (eval (PySem.Expr.Name _ _) _) _ _ _); k_dflt (refine' nameX_L ?Fq7 ?vq7 ?_ ?aq7 ?bq7; (case Fq7 => k_asm); (case aq7 => rfl); (case bq7 => rfl); (case vq7 => exact Eq.refl (some _)); k_whole))) | ((with_reducible show InvEnd _ _ _ _ _ _); ((with_reducible rename Fr _ _ _ _ => kFq7); first | ((dsimp +zetaDelta only at kFq7); (try dsimp +zetaDelta only)) | dsimp +zetaDelta only)) | ((with_reducible show InvEndG _ _ _ _ _ _); ((with_reducible rename Fr _ _ _ _ => kFq7); first | ((dsimp +zetaDelta only at kFq7); (try dsimp +zetaDelta only)) | dsimp +zetaDelta only)) | walk1 | (dsimp only; walk1) | (leave1; (try dsimp only)) | fail "no step") <;> (repeat ((fail_if_success (fail_if_success ((generalize qx = zq); (with_reducible show zq _ _)))); k_unfold; (try clear qx); (try (first | refine wpI (P := wpAny _ _ _ _ _ ⟨_, s.gens, s.drawn, _, s.os⟩) ?_ | refine wpI (P := wpAny _ _ _ _ _ _) ?_)); (try dsimp only)))))
  refine For_invV s.heap (by rfl) (by rfl) ?_
  ((try ((with_reducible show wpAny _ _ (execs _ _) _ _ _); k_gentoks)); (try ((with_reducible show wpAny _ _ (exec _ _) _ _ _); (with_reducible refine foldQ ?_); intro qx)); (first | (k_unfold; (try (first | refine wpI (P := wpAny _ _ _ _ _ ⟨_, s.gens, s.drawn, _, s.os⟩) ?_ | refine wpI (P := wpAny _ _ _ _ _ _) ?_)); (try dsimp only)) | (k_end; kc_close) | (with_reducible ((with_reducible show wpAny _ _ (subscriptTail _ _ (Value.bytes _ _) (Value.int _ _)) _ _ _); first | (refine item0 (by omega) (by omega) ?_; intro v'q9 k'q9) | (refine item1 (by omega) (by omega) ?_; intro v'q9 k'q9))) | (with_reducible ((with_reducible show wpAny _ _ (binaryOp PySem.Operator.BitXor (Value.int _ _) (Value.int _ _)) _ _ _); (refine xor_V ?_; intro v'q9 k'q9))) | (with_reducible ((with_reducible show wpAny _ _ (call (Value.type "bytes") [Value.ref _]) _ _ _); k_dflt (first | (refine' bytes2N ?Fq8 ?Nq8 ?hhq8 ?aq8 ?bq8 ?_; (case Fq8 => assumption); (case Nq8 => assumption); (case hhq8 => exact rfl); (case aq8 => (constructor <;> omega)); (case bq8 => (constructor <;> omega)); intro h'q9 t'q9 k'q9 F'q9 N'q9; (try k_sweep)) | (refine' bytesW ?Fq8 ?Nq8 ?lq8 ?iq8 ?hhq8 ?_; (case Fq8 => assumption); (case Nq8 => assumption); (case iq8 => assumption); (case lq8 => (first | exact News.isList (by assumption) (by first | k_mem | assumption) | assumption)); (case hhq8 => exact rfl); intro h'q9 t'q9 k'q9 F'q9 N'q9; (try k_sweep))))) | (with_reducible ((with_reducible show wpAny _ _ (call (Value.type "list") [Value.bytes _ _]) _ _ _); k_dflt (refine' list_bytes_K ?Fq8 ?Nq8 ?hhq8 ?zq8 ?_; (case Fq8 => assumption); (case Nq8 => assumption); (case hhq8 => exact rfl); (case zq8 => exact enc_size _ _)); intro aW vW cW h' tk' F' N' lW iW)) | (with_reducible ((with_reducible show wpAny _ _ (call (Value.ref 108) [Value.bytes _ _]) _ _ _); (with_reducible rename Fr _ _ _ _ => kFq9); k_dflt (refine' encode_con (Cx.push (by assumption) kFq9 rfl) ?kdq8 ?kuq8  ?_; (case kdq8 => (first | exact room 1 hdp | exact room 2 hdp | exact room 3 hdp | exact room 4 hdp | exact room 8 hun | exact room 16 hun | exact room 24 hun | exact room 32 hun | exact room 64 hun | exact room 65 hun | exact room 2 hun | exact Nat.lt_of_le_of_lt (Nat.le_add_right _ _) hun | ((try dsimp +zetaDelta only [Ar, Around.deeper, Around.mark]); omega))); (case kuq8 => (first | exact room 1 hdp | exact room 2 hdp | exact room 3 hdp | exact room 4 hdp | exact room 8 hun | exact room 16 hun | exact room 24 hun | exact room 32 hun | exact room 64 hun | exact room 65 hun | exact room 2 hun | exact Nat.lt_of_le_of_lt (Nat.le_add_right _ _) hun | ((try dsimp +zetaDelta only [Ar, Around.deeper, Around.mark]); omega)));  skip); intro t'q9 h'q9 tk'q9 hk'q9; ((with_reducible rename Fr _ _ _ _ => kFq9); (with_reducible rename News _ _ _ _ => kNq9); (with_reducible rename Keeps _ _ => hk'q9); (have F'q9 := Fr.after kFq9 hk'q9); (have N'q9 := newsKeeps kNq9 hk'q9); clear hk'q9; clear kNq9 kFq9; (try dsimp only); (try k_fold)))) | (with_reducible ((with_reducible show wpAny _ _ (call (Value.ref 116) [Value.bytes (bytesOf (wordOf _)) _]) _ _ _); (with_reducible rename Fr _ _ _ _ => kFq9); k_dflt (refine' decode_con (Cx.push (by assumption) kFq9 rfl) ?kdq8 ?kuq8 ?h0q8 ?h16q8 ?_; (case kdq8 => (first | exact room 1 hdp | exact room 2 hdp | exact room 3 hdp | exact room 4 hdp | exact room 8 hun | exact room 16 hun | exact room 24 hun | exact room 32 hun | exact room 64 hun | exact room 65 hun | exact room 2 hun | exact Nat.lt_of_le_of_lt (Nat.le_add_right _ _) hun | ((try dsimp +zetaDelta only [Ar, Around.deeper, Around.mark]); omega))); (case kuq8 => (first | exact room 1 hdp | exact room 2 hdp | exact room 3 hdp | exact room 4 hdp | exact room 8 hun | exact room 16 hun | exact room 24 hun | exact room 32 hun | exact room 64 hun | exact room 65 hun | exact room 2 hun | exact Nat.lt_of_le_of_lt (Nat.le_add_right _ _) hun | ((try dsimp +zetaDelta only [Ar, Around.deeper, Around.mark]); omega))); (case h0q8 => omega); (case h16q8 => omega); skip); intro t'q9 h'q9 tk'q9 hk'q9; ((with_reducible rename Fr _ _ _ _ => kFq9); (with_reducible rename News _ _ _ _ => kNq9); (with_reducible rename Keeps _ _ => hk'q9); (have F'q9 := Fr.after kFq9 hk'q9); (have N'q9 := newsKeeps kNq9 hk'q9); clear hk'q9; clear kNq9 kFq9; (try dsimp only); (try k_fold)))) | (with_reducible ((with_reducible show wpAny _ _ (call (Value.ref 151) [Value.int _ _]) _ _ _); (with_reducible rename Fr _ _ _ _ => kFq9); (with_reducible rename News _ _ _ _ => kNq9); k_dflt (refine' word_con (Cx.push (by assumption) kFq9 rfl) ?kdq8 ?kuq8 ?h0q8 ?h16q8 ?_; (case kdq8 => (first | exact room 1 hdp | exact room 2 hdp | exact room 3 hdp | exact room 4 hdp | exact room 8 hun | exact room 16 hun | exact room 24 hun | exact room 32 hun | exact room 64 hun | exact room 65 hun | exact room 2 hun | exact Nat.lt_of_le_of_lt (Nat.le_add_right _ _) hun | ((try dsimp +zetaDelta only [Ar, Around.deeper, Around.mark]); omega))); (case kuq8 => (first | exact room 1 hdp | exact room 2 hdp | exact room 3 hdp | exact room 4 hdp | exact room 8 hun | exact room 16 hun | exact room 24 hun | exact room 32 hun | exact room 64 hun | exact room 65 hun | exact room 2 hun | exact Nat.lt_of_le_of_lt (Nat.le_add_right _ _) hun | ((try dsimp +zetaDelta only [Ar, Around.deeper, Around.mark]); omega))); (case h0q8 => omega); (case h16q8 => omega)); intro a'q9 vs'q9 k'q9 h'q9 tk'q9 hk'q9 hg'q9 hn'q9 hi'q9; (have F'q9 := Fr.after kFq9 hk'q9); (have N'q9 := newsMore kFq9 kNq9 hk'q9 hg'q9 hn'q9); (have l1'q9 := newsNe kNq9 hn'q9); clear hk'q9 hg'q9 hn'q9; clear kNq9 kFq9; (try dsimp only); (try k_fold))) | ((with_reducible show wpAny _ _ (call _ [Value.bytes _ _]) _ _ _); refine call_type_of (Tx := "bytes") rfl (by decide +kernel) ?_) | (with_reducible ((with_reducible show wpAny _ _ (storeName _ _ _) _ _ _); k_dflt (refine' storeM ?Fq7 ?Nq7 ?_ ?aq7 ?bq7; (case Fq7 => k_asm); (case Nq7 => k_asm); (case aq7 => rfl); (case bq7 => rfl); k_whole; intro m'q7 h'q7 F'q7 N'q7; (try k_sweep)))) | (with_reducible ((with_reducible show wpAny _ _ (eval (PySem.Expr.Name _ _) _) _ _ _); k_dflt (refine' nameX_L ?Fq7 ?vq7 ?_ ?aq7 ?bq7; (case Fq7 => k_asm); (case aq7 => rfl); (case bq7 => rfl); (case vq7 => exact Eq.refl (some _)); k_whole))) | ((with_reducible show InvEnd _ _ _ _ _ _); ((with_reducible rename Fr _ _ _ _ => kFq7); first | ((dsimp +zetaDelta only at kFq7); (try dsimp +zetaDelta only)) | dsimp +zetaDelta only)) | ((with_reducible show InvEndG _ _ _ _ _ _); ((with_reducible rename Fr _ _ _ _ => kFq7); first | ((dsimp +zetaDelta only at kFq7); (try dsimp +zetaDelta only)) | dsimp +zetaDelta only)) | walk1 | (dsimp only; walk1) | (leave1; (try dsimp only)) | fail "no step") <;> (repeat ((fail_if_success (fail_if_success ((generalize qx = zq); (with_reducible show zq _ _)))); k_unfold; (try clear qx); (try (first | refine wpI (P := wpAny _ _ _ _ _ ⟨_, s.gens, s.drawn, _, s.os⟩) ?_ | refine wpI (P := wpAny _ _ _ _ _ _) ?_)); (try dsimp only))))
  rename Fr _ _ _ _ => F
  rename News _ _ _ _ => N
  rename IntsAre _ (wordOf 0) => hw0
  refine iter_invG (SumJ l ns) rfl hl hi F N ⟨_, [_], _, _, fun _ _ _ _ _ _ => rfl, rfl, .cons (.head _) hw0 (by decide) (by decide) .nil, ?_⟩ ?_ ?_
  · intro p hp
    rw [List.mem_singleton.mp hp]
    exact Nat.ne_of_lt (by assumption)
  · rintro i n t m1 nx h tk own hn ho hoff ⟨b, bs, k, W, hm, rfl, hW, hbW⟩ F N
    rw [mapOff5 hm] at F
    obtain ⟨hn0, hn16⟩ := hns n (List.mem_of_getElem? hn)
    have hi1 : i < ns.length := (List.getElem?_eq_some_iff.mp hn).1
    generalize hms : sumsOf (ns.take i) = ms at hW
    have hml : ms.length ≤ 4 := by rw [← hms]; exact sums_len (by rw [List.length_take]; omega)
    have N : News s.heap Lf h ((b, listOf (List.toArray bs) k) :: (W ++ own)) := N
    replace F : Fr s.heap Lf h _ := F
    repeat ((fail_if_success (with_reducible show wpAny _ _ (exec (PySem.Stmt.For _ _ _ _ _) _) _ _ _)); ((try ((with_reducible show wpAny _ _ (execs _ _) _ _ _); k_gentoks)); (try ((with_reducible show wpAny _ _ (exec _ _) _ _ _); (with_reducible refine foldQ ?_); intro qx)); (first | (k_unfold; (try (first | refine wpI (P := wpAny _ _ _ _ _ ⟨_, s.gens, s.drawn, _, s.os⟩) ?_ | refine wpI (P := wpAny _ _ _ _ _ _) ?_)); (try dsimp only)) | (k_end; kc_close) | (with_reducible ((with_reducible show wpAny _ _ (subscriptTail _ _ (Value.bytes _ _) (Value.int _ _)) _ _ _); first | (refine item0 (by omega) (by omega) ?_; intro v'q9 k'q9) | (refine item1 (by omega) (by omega) ?_; intro v'q9 k'q9))) | (with_reducible ((with_reducible show wpAny _ _ (binaryOp PySem.Operator.BitXor (Value.int _ _) (Value.int _ _)) _ _ _); (refine xor_V ?_; intro v'q9 k'q9))) | (with_reducible ((with_reducible show wpAny _ _ (call (Value.type "bytes") [Value.ref _]) _ _ _); k_dflt (first | (refine' bytes2N ?Fq8 ?Nq8 ?hhq8 ?aq8 ?bq8 ?_; (case Fq8 => assumption); (case Nq8 => assumption); (case hhq8 => exact rfl); (case aq8 => (constructor <;> omega)); (case bq8 => (constructor <;> omega)); intro h'q9 t'q9 k'q9 F'q9 N'q9; (try k_sweep)) | (refine' bytesW ?Fq8 ?Nq8 ?lq8 ?iq8 ?hhq8 ?_; (case Fq8 => assumption); (case Nq8 => assumption); (case iq8 => assumption); (case lq8 => (first | exact News.isList (by assumption) (by first | k_mem | assumption) | assumption)); (case hhq8 => exact rfl); intro h'q9 t'q9 k'q9 F'q9 N'q9; (try k_sweep))))) | (with_reducible ((with_reducible show wpAny _ _ (call (Value.type "list") [Value.bytes _ _]) _ _ _); k_dflt (refine' list_bytes_K ?Fq8 ?Nq8 ?hhq8 ?zq8 ?_; (case Fq8 => assumption); (case Nq8 => assumption); (case hhq8 => exact rfl); (case zq8 => exact enc_size _ _)); intro aW vW cW h' tk' F' N' lW iW)) | (with_reducible ((with_reducible show wpAny _ _ (call (Value.ref 108) [Value.bytes _ _]) _ _ _); (with_reducible rename Fr _ _ _ _ => kFq9); k_dflt (refine' encode_con (Cx.push (by assumption) kFq9 rfl) ?kdq8 ?kuq8  ?_; (case kdq8 => (first | exact room 1 hdp | exact room 2 hdp | exact room 3 hdp | exact room 4 hdp | exact room 8 hun | exact room 16 hun | exact room 24 hun | exact room 32 hun | exact room 64 hun | exact room 65 hun | exact room 2 hun | exact Nat.lt_of_le_of_lt (Nat.le_add_right _ _) hun | ((try dsimp +zetaDelta only [Ar, Around.deeper, Around.mark]); omega))); (case kuq8 => (first | exact room 1 hdp | exact room 2 hdp | exact room 3 hdp | exact room 4 hdp | exact room 8 hun | exact room 16 hun | exact room 24 hun | exact room 32 hun | exact room 64 hun | exact room 65 hun | exact room 2 hun | exact Nat.lt_of_le_of_lt (Nat.le_add_right _ _) hun | ((try dsimp +zetaDelta only [Ar, Around.deeper, Around.mark]); omega)));  skip); intro t'q9 h'q9 tk'q9 hk'q9; ((with_reducible rename Fr _ _ _ _ => kFq9); (with_reducible rename News _ _ _ _ => kNq9); (with_reducible rename Keeps _ _ => hk'q9); (have F'q9 := Fr.after kFq9 hk'q9); (have N'q9 := newsKeeps kNq9 hk'q9); clear hk'q9; clear kNq9 kFq9; (try dsimp only); (try k_fold)))) | (with_reducible ((with_reducible show wpAny _ _ (call (Value.ref 116) [Value.bytes (bytesOf (wordOf _)) _]) _ _ _); (with_reducible rename Fr _ _ _ _ => kFq9); k_dflt (refine' decode_con (Cx.push (by assumption) kFq9 rfl) ?kdq8 ?kuq8 ?h0q8 ?h16q8 ?_; (case kdq8 => (first | exact room 1 hdp | exact room 2 hdp | exact room 3 hdp | exact room 4 hdp | exact room 8 hun | exact room 16 hun | exact room 24 hun | exact room 32 hun | exact room 64 hun | exact room 65 hun | exact room 2 hun | exact Nat.lt_of_le_of_lt (Nat.le_add_right _ _) hun | ((try dsimp +zetaDelta only [Ar, Around.deeper, Around.mark]); omega))); (case kuq8 => (first | exact room 1 hdp | exact room 2 hdp | exact room 3 hdp | exact room 4 hdp | exact room 8 hun | exact room 16 hun | exact room 24 hun | exact room 32 hun | exact room 64 hun | exact room 65 hun | exact room 2 hun | exact Nat.lt_of_le_of_lt (Nat.le_add_right _ _) hun | ((try dsimp +zetaDelta only [Ar, Around.deeper, Around.mark]); omega))); (case h0q8 => omega); (case h16q8 => omega); skip); intro t'q9 h'q9 tk'q9 hk'q9; ((with_reducible rename Fr _ _ _ _ => kFq9); (with_reducible rename News _ _ _ _ => kNq9); (with_reducible rename Keeps _ _ => hk'q9); (have F'q9 := Fr.after kFq9 hk'q9); (have N'q9 := newsKeeps kNq9 hk'q9); clear hk'q9; clear kNq9 kFq9; (try dsimp only); (try k_fold)))) | (with_reducible ((with_reducible show wpAny _ _ (call (Value.ref 151) [Value.int _ _]) _ _ _); (with_reducible rename Fr _ _ _ _ => kFq9); (with_reducible rename News _ _ _ _ => kNq9); k_dflt (refine' word_con (Cx.push (by assumption) kFq9 rfl) ?kdq8 ?kuq8 ?h0q8 ?h16q8 ?_; (case kdq8 => (first | exact room 1 hdp | exact room 2 hdp | exact room 3 hdp | exact room 4 hdp | exact room 8 hun | exact room 16 hun | exact room 24 hun | exact room 32 hun | exact room 64 hun | exact room 65 hun | exact room 2 hun | exact Nat.lt_of_le_of_lt (Nat.le_add_right _ _) hun | ((try dsimp +zetaDelta only [Ar, Around.deeper, Around.mark]); omega))); (case kuq8 => (first | exact room 1 hdp | exact room 2 hdp | exact room 3 hdp | exact room 4 hdp | exact room 8 hun | exact room 16 hun | exact room 24 hun | exact room 32 hun | exact room 64 hun | exact room 65 hun | exact room 2 hun | exact Nat.lt_of_le_of_lt (Nat.le_add_right _ _) hun | ((try dsimp +zetaDelta only [Ar, Around.deeper, Around.mark]); omega))); (case h0q8 => omega); (case h16q8 => omega)); intro a'q9 vs'q9 k'q9 h'q9 tk'q9 hk'q9 hg'q9 hn'q9 hi'q9; (have F'q9 := Fr.after kFq9 hk'q9); (have N'q9 := newsMore kFq9 kNq9 hk'q9 hg'q9 hn'q9); (have l1'q9 := newsNe kNq9 hn'q9); clear hk'q9 hg'q9 hn'q9; clear kNq9 kFq9; (try dsimp only); (try k_fold))) | ((with_reducible show wpAny _ _ (call _ [Value.bytes _ _]) _ _ _); refine call_type_of (Tx := "bytes") rfl (by decide +kernel) ?_) | (with_reducible ((with_reducible show wpAny _ _ (storeName _ _ _) _ _ _); k_dflt (refine' storeM ?Fq7 ?Nq7 ?_ ?aq7 ?bq7; (case Fq7 => k_asm); (case Nq7 => k_asm); (case aq7 => rfl); (case bq7 => rfl); k_whole; intro m'q7 h'q7 F'q7 N'q7; (try k_sweep)))) | (with_reducible ((with_reducible show wpAny _ _ (eval (PySem.Expr.Name _ _) _) _ _ _); k_dflt (refine' nameX_L ?Fq7 ?vq7 ?_ ?aq7 ?bq7; (case Fq7 => k_asm); (case aq7 => rfl); (case bq7 => rfl); (case vq7 => exact Eq.refl (some _)); k_whole))) | ((with_reducible show InvEnd _ _ _ _ _ _); ((with_reducible rename Fr _ _ _ _ => kFq7); first | ((dsimp +zetaDelta only at kFq7); (try dsimp +zetaDelta only)) | dsimp +zetaDelta only)) | ((with_reducible show InvEndG _ _ _ _ _ _); ((with_reducible rename Fr _ _ _ _ => kFq7); first | ((dsimp +zetaDelta only at kFq7); (try dsimp +zetaDelta only)) | dsimp +zetaDelta only)) | walk1 | (dsimp only; walk1) | (leave1; (try dsimp only)) | fail "no step") <;> (repeat ((fail_if_success (fail_if_success ((generalize qx = zq); (with_reducible show zq _ _)))); k_unfold; (try clear qx); (try (first | refine wpI (P := wpAny _ _ _ _ _ ⟨_, s.gens, s.drawn, _, s.os⟩) ?_ | refine wpI (P := wpAny _ _ _ _ _ _) ?_)); (try dsimp only)))))
    refine For_invV s.heap (by rfl) (by rfl) ?_
    ((try ((with_reducible show wpAny _ _ (execs _ _) _ _ _); k_gentoks)); (try ((with_reducible show wpAny _ _ (exec _ _) _ _ _); (with_reducible refine foldQ ?_); intro qx)); (first | (k_unfold; (try (first | refine wpI (P := wpAny _ _ _ _ _ ⟨_, s.gens, s.drawn, _, s.os⟩) ?_ | refine wpI (P := wpAny _ _ _ _ _ _) ?_)); (try dsimp only)) | (k_end; kc_close) | (with_reducible ((with_reducible show wpAny _ _ (subscriptTail _ _ (Value.bytes _ _) (Value.int _ _)) _ _ _); first | (refine item0 (by omega) (by omega) ?_; intro v'q9 k'q9) | (refine item1 (by omega) (by omega) ?_; intro v'q9 k'q9))) | (with_reducible ((with_reducible show wpAny _ _ (binaryOp PySem.Operator.BitXor (Value.int _ _) (Value.int _ _)) _ _ _); (refine xor_V ?_; intro v'q9 k'q9))) | (with_reducible ((with_reducible show wpAny _ _ (call (Value.type "bytes") [Value.ref _]) _ _ _); k_dflt (first | (refine' bytes2N ?Fq8 ?Nq8 ?hhq8 ?aq8 ?bq8 ?_; (case Fq8 => assumption); (case Nq8 => assumption); (case hhq8 => exact rfl); (case aq8 => (constructor <;> omega)); (case bq8 => (constructor <;> omega)); intro h'q9 t'q9 k'q9 F'q9 N'q9; (try k_sweep)) | (refine' bytesW ?Fq8 ?Nq8 ?lq8 ?iq8 ?hhq8 ?_; (case Fq8 => assumption); (case Nq8 => assumption); (case iq8 => assumption); (case lq8 => (first | exact News.isList (by assumption) (by first | k_mem | assumption) | assumption)); (case hhq8 => exact rfl); intro h'q9 t'q9 k'q9 F'q9 N'q9; (try k_sweep))))) | (with_reducible ((with_reducible show wpAny _ _ (call (Value.type "list") [Value.bytes _ _]) _ _ _); k_dflt (refine' list_bytes_K ?Fq8 ?Nq8 ?hhq8 ?zq8 ?_; (case Fq8 => assumption); (case Nq8 => assumption); (case hhq8 => exact rfl); (case zq8 => exact enc_size _ _)); intro aW vW cW h' tk' F' N' lW iW)) | (with_reducible ((with_reducible show wpAny _ _ (call (Value.ref 108) [Value.bytes _ _]) _ _ _); (with_reducible rename Fr _ _ _ _ => kFq9); k_dflt (refine' encode_con (Cx.push (by assumption) kFq9 rfl) ?kdq8 ?kuq8  ?_; (case kdq8 => (first | exact room 1 hdp | exact room 2 hdp | exact room 3 hdp | exact room 4 hdp | exact room 8 hun | exact room 16 hun | exact room 24 hun | exact room 32 hun | exact room 64 hun | exact room 65 hun | exact room 2 hun | exact Nat.lt_of_le_of_lt (Nat.le_add_right _ _) hun | ((try dsimp +zetaDelta only [Ar, Around.deeper, Around.mark]); omega))); (case kuq8 => (first | exact room 1 hdp | exact room 2 hdp | exact room 3 hdp | exact room 4 hdp | exact room 8 hun | exact room 16 hun | exact room 24 hun | exact room 32 hun | exact room 64 hun | exact room 65 hun | exact room 2 hun | exact Nat.lt_of_le_of_lt (Nat.le_add_right _ _) hun | ((try dsimp +zetaDelta only [Ar, Around.deeper, Around.mark]); omega)));  skip); intro t'q9 h'q9 tk'q9 hk'q9; ((with_reducible rename Fr _ _ _ _ => kFq9); (with_reducible rename News _ _ _ _ => kNq9); (with_reducible rename Keeps _ _ => hk'q9); (have F'q9 := Fr.after kFq9 hk'q9); (have N'q9 := newsKeeps kNq9 hk'q9); clear hk'q9; clear kNq9 kFq9; (try dsimp only); (try k_fold)))) | (with_reducible ((with_reducible show wpAny _ _ (call (Value.ref 116) [Value.bytes (bytesOf (wordOf _)) _]) _ _ _); (with_reducible rename Fr _ _ _ _ => kFq9); k_dflt (refine' decode_con (Cx.push (by assumption) kFq9 rfl) ?kdq8 ?kuq8 ?h0q8 ?h16q8 ?_; (case kdq8 => (first | exact room 1 hdp | exact room 2 hdp | exact room 3 hdp | exact room 4 hdp | exact room 8 hun | exact room 16 hun | exact room 24 hun | exact room 32 hun | exact room 64 hun | exact room 65 hun | exact room 2 hun | exact Nat.lt_of_le_of_lt (Nat.le_add_right _ _) hun | ((try dsimp +zetaDelta only [Ar, Around.deeper, Around.mark]); omega))); (case kuq8 => (first | exact room 1 hdp | exact room 2 hdp | exact room 3 hdp | exact room 4 hdp | exact room 8 hun | exact room 16 hun | exact room 24 hun | exact room 32 hun | exact room 64 hun | exact room 65 hun | exact room 2 hun | exact Nat.lt_of_le_of_lt (Nat.le_add_right _ _) hun | ((try dsimp +zetaDelta only [Ar, Around.deeper, Around.mark]); omega))); (case h0q8 => omega); (case h16q8 => omega); skip); intro t'q9 h'q9 tk'q9 hk'q9; ((with_reducible rename Fr _ _ _ _ => kFq9); (with_reducible rename News _ _ _ _ => kNq9); (with_reducible rename Keeps _ _ => hk'q9); (have F'q9 := Fr.after kFq9 hk'q9); (have N'q9 := newsKeeps kNq9 hk'q9); clear hk'q9; clear kNq9 kFq9; (try dsimp only); (try k_fold)))) | (with_reducible ((with_reducible show wpAny _ _ (call (Value.ref 151) [Value.int _ _]) _ _ _); (with_reducible rename Fr _ _ _ _ => kFq9); (with_reducible rename News _ _ _ _ => kNq9); k_dflt (refine' word_con (Cx.push (by assumption) kFq9 rfl) ?kdq8 ?kuq8 ?h0q8 ?h16q8 ?_; (case kdq8 => (first | exact room 1 hdp | exact room 2 hdp | exact room 3 hdp | exact room 4 hdp | exact room 8 hun | exact room 16 hun | exact room 24 hun | exact room 32 hun | exact room 64 hun | exact room 65 hun | exact room 2 hun | exact Nat.lt_of_le_of_lt (Nat.le_add_right _ _) hun | ((try dsimp +zetaDelta only [Ar, Around.deeper, Around.mark]); omega))); (case kuq8 => (first | exact room 1 hdp | exact room 2 hdp | exact room 3 hdp | exact room 4 hdp | exact room 8 hun | exact room 16 hun | exact room 24 hun | exact room 32 hun | exact room 64 hun | exact room 65 hun | exact room 2 hun | exact Nat.lt_of_le_of_lt (Nat.le_add_right _ _) hun | ((try dsimp +zetaDelta only [Ar, Around.deeper, Around.mark]); omega))); (case h0q8 => omega); (case h16q8 => omega)); intro a'q9 vs'q9 k'q9 h'q9 tk'q9 hk'q9 hg'q9 hn'q9 hi'q9; (have F'q9 := Fr.after kFq9 hk'q9); (have N'q9 := newsMore kFq9 kNq9 hk'q9 hg'q9 hn'q9); (have l1'q9 := newsNe kNq9 hn'q9); clear hk'q9 hg'q9 hn'q9; clear kNq9 kFq9; (try dsimp only); (try k_fold))) | ((with_reducible show wpAny _ _ (call _ [Value.bytes _ _]) _ _ _); refine call_type_of (Tx := "bytes") rfl (by decide +kernel) ?_) | (with_reducible ((with_reducible show wpAny _ _ (storeName _ _ _) _ _ _); k_dflt (refine' storeM ?Fq7 ?Nq7 ?_ ?aq7 ?bq7; (case Fq7 => k_asm); (case Nq7 => k_asm); (case aq7 => rfl); (case bq7 => rfl); k_whole; intro m'q7 h'q7 F'q7 N'q7; (try k_sweep)))) | (with_reducible ((with_reducible show wpAny _ _ (eval (PySem.Expr.Name _ _) _) _ _ _); k_dflt (refine' nameX_L ?Fq7 ?vq7 ?_ ?aq7 ?bq7; (case Fq7 => k_asm); (case aq7 => rfl); (case bq7 => rfl); (case vq7 => exact Eq.refl (some _)); k_whole))) | ((with_reducible show InvEnd _ _ _ _ _ _); ((with_reducible rename Fr _ _ _ _ => kFq7); first | ((dsimp +zetaDelta only at kFq7); (try dsimp +zetaDelta only)) | dsimp +zetaDelta only)) | ((with_reducible show InvEndG _ _ _ _ _ _); ((with_reducible rename Fr _ _ _ _ => kFq7); first | ((dsimp +zetaDelta only at kFq7); (try dsimp +zetaDelta only)) | dsimp +zetaDelta only)) | walk1 | (dsimp only; walk1) | (leave1; (try dsimp only)) | fail "no step") <;> (repeat ((fail_if_success (fail_if_success ((generalize qx = zq); (with_reducible show zq _ _)))); k_unfold; (try clear qx); (try (first | refine wpI (P := wpAny _ _ _ _ _ ⟨_, s.gens, s.drawn, _, s.os⟩) ?_ | refine wpI (P := wpAny _ _ _ _ _ _) ?_)); (try dsimp only))))
    rename Fr _ _ _ _ => F
    rename News _ _ _ _ => N
    rename _ ∧ _ => l1
    refine kdl_iter (SumK l b bs k W own n t ms) rfl (by k_mem) F N ⟨_, [], _, _, [], _, sumStart, rfl, ?T, ?R, .nil, fun _ hp => (nomatch hp), fun _ _ _ hb => (nomatch hb), Nat.zero_le _⟩ ?turn ?done
    case T =>
      intro p hp
      rcases List.mem_cons.mp hp with rfl | hp
      · exact Nat.ne_of_lt l1.1
      · rcases List.mem_cons.mp hp with rfl | hp
        · exact Nat.ne_of_lt l1.2.1
        · exact Nat.ne_of_lt (ktn_ltOf l1.2.2 p hp)
    case R =>
      exact fun p hp => .tail _ hp
    case turn =>
      rintro j v m2 nx2 h2 tk2 own2 hv hoff2 hbm ⟨fl, fs, kf, T, W', t1, hm2, rfl, hT, hR, hW', hWT, hoW, hfl⟩ F N
      rw [mapOff2 hm2] at F
      obtain ⟨mm, aw, xs, kw, hmj, rfl, hmem, hxs, hm0, hm16⟩ := hW.get hv
      have hmemT : (aw, listOf (List.toArray xs) kw) ∈ T ++ own2 := List.mem_append.mpr (.inl (hR _ (.tail _ (List.mem_append.mpr (.inl hmem)))))
      have hTo : ∀ p ∈ T ++ own2, p.1 ≠ fl := by
        intro p hp
        rcases List.mem_append.mp hp with hp | hp
        · exact hT p hp
        · exact fun e => hoff2 p hp fl (.head _) e
      have N : News s.heap Lf h2 ((fl, listOf (List.toArray fs) kf) :: (T ++ own2)) := N
      replace F : Fr s.heap Lf h2 _ := F
      have hlw : h2.IsList aw xs.toArray := ⟨_, (N _ (.tail _ hmemT)).1, rfl, _, rfl⟩
      obtain ⟨x0, x16, x256⟩ := xor_ok hn0 hn16 hm0 hm16
      (repeat' ((try ((with_reducible show wpAny _ _ (execs _ _) _ _ _); k_gentoks)); (try ((with_reducible show wpAny _ _ (exec _ _) _ _ _); (with_reducible refine foldQ ?_); intro qx)); (first | (k_unfold; (try (first | refine wpI (P := wpAny _ _ _ _ _ ⟨_, s.gens, s.drawn, _, s.os⟩) ?_ | refine wpI (P := wpAny _ _ _ _ _ _) ?_)); (try dsimp only)) | (k_end; wrow_close) | (with_reducible ((with_reducible show wpAny _ _ (subscriptTail _ _ (Value.bytes _ _) (Value.int _ _)) _ _ _); first | (refine item0 (by omega) (by omega) ?_; intro v'q9 k'q9) | (refine item1 (by omega) (by omega) ?_; intro v'q9 k'q9))) | (with_reducible ((with_reducible show wpAny _ _ (binaryOp PySem.Operator.BitXor (Value.int _ _) (Value.int _ _)) _ _ _); (refine xor_V ?_; intro v'q9 k'q9))) | (with_reducible ((with_reducible show wpAny _ _ (call (Value.type "bytes") [Value.ref _]) _ _ _); k_dflt (first | (refine' bytes2N ?Fq8 ?Nq8 ?hhq8 ?aq8 ?bq8 ?_; (case Fq8 => assumption); (case Nq8 => assumption); (case hhq8 => exact rfl); (case aq8 => (constructor <;> omega)); (case bq8 => (constructor <;> omega)); intro h'q9 t'q9 k'q9 F'q9 N'q9; (try k_sweep)) | (refine' bytesW ?Fq8 ?Nq8 ?lq8 ?iq8 ?hhq8 ?_; (case Fq8 => assumption); (case Nq8 => assumption); (case iq8 => assumption); (case lq8 => (first | exact News.isList (by assumption) (by first | k_mem | assumption) | assumption)); (case hhq8 => exact rfl); intro h'q9 t'q9 k'q9 F'q9 N'q9; (try k_sweep))))) | (with_reducible ((with_reducible show wpAny _ _ (call (Value.type "list") [Value.bytes _ _]) _ _ _); k_dflt (refine' list_bytes_K ?Fq8 ?Nq8 ?hhq8 ?zq8 ?_; (case Fq8 => assumption); (case Nq8 => assumption); (case hhq8 => exact rfl); (case zq8 => exact enc_size _ _)); intro aW vW cW h' tk' F' N' lW iW)) | (with_reducible ((with_reducible show wpAny _ _ (call (Value.ref 108) [Value.bytes _ _]) _ _ _); (with_reducible rename Fr _ _ _ _ => kFq9); k_dflt (refine' encode_con (Cx.push (by assumption) kFq9 rfl) ?kdq8 ?kuq8  ?_; (case kdq8 => (first | exact room 1 hdp | exact room 2 hdp | exact room 3 hdp | exact room 4 hdp | exact room 8 hun | exact room 16 hun | exact room 24 hun | exact room 32 hun | exact room 64 hun | exact room 65 hun | exact room 2 hun | exact Nat.lt_of_le_of_lt (Nat.le_add_right _ _) hun | ((try dsimp +zetaDelta only [Ar, Around.deeper, Around.mark]); omega))); (case kuq8 => (first | exact room 1 hdp | exact room 2 hdp | exact room 3 hdp | exact room 4 hdp | exact room 8 hun | exact room 16 hun | exact room 24 hun | exact room 32 hun | exact room 64 hun | exact room 65 hun | exact room 2 hun | exact Nat.lt_of_le_of_lt (Nat.le_add_right _ _) hun | ((try dsimp +zetaDelta only [Ar, Around.deeper, Around.mark]); omega)));  skip); intro t'q9 h'q9 tk'q9 hk'q9; ((with_reducible rename Fr _ _ _ _ => kFq9); (with_reducible rename News _ _ _ _ => kNq9); (with_reducible rename Keeps _ _ => hk'q9); (have F'q9 := Fr.after kFq9 hk'q9); (have N'q9 := newsKeeps kNq9 hk'q9); clear hk'q9; clear kNq9 kFq9; (try dsimp only); (try k_fold)))) | (with_reducible ((with_reducible show wpAny _ _ (call (Value.ref 116) [Value.bytes (bytesOf (wordOf _)) _]) _ _ _); (with_reducible rename Fr _ _ _ _ => kFq9); k_dflt (refine' decode_con (Cx.push (by assumption) kFq9 rfl) ?kdq8 ?kuq8 ?h0q8 ?h16q8 ?_; (case kdq8 => (first | exact room 1 hdp | exact room 2 hdp | exact room 3 hdp | exact room 4 hdp | exact room 8 hun | exact room 16 hun | exact room 24 hun | exact room 32 hun | exact room 64 hun | exact room 65 hun | exact room 2 hun | exact Nat.lt_of_le_of_lt (Nat.le_add_right _ _) hun | ((try dsimp +zetaDelta only [Ar, Around.deeper, Around.mark]); omega))); (case kuq8 => (first | exact room 1 hdp | exact room 2 hdp | exact room 3 hdp | exact room 4 hdp | exact room 8 hun | exact room 16 hun | exact room 24 hun | exact room 32 hun | exact room 64 hun | exact room 65 hun | exact room 2 hun | exact Nat.lt_of_le_of_lt (Nat.le_add_right _ _) hun | ((try dsimp +zetaDelta only [Ar, Around.deeper, Around.mark]); omega))); (case h0q8 => omega); (case h16q8 => omega); skip); intro t'q9 h'q9 tk'q9 hk'q9; ((with_reducible rename Fr _ _ _ _ => kFq9); (with_reducible rename News _ _ _ _ => kNq9); (with_reducible rename Keeps _ _ => hk'q9); (have F'q9 := Fr.after kFq9 hk'q9); (have N'q9 := newsKeeps kNq9 hk'q9); clear hk'q9; clear kNq9 kFq9; (try dsimp only); (try k_fold)))) | (with_reducible ((with_reducible show wpAny _ _ (call (Value.ref 151) [Value.int _ _]) _ _ _); (with_reducible rename Fr _ _ _ _ => kFq9); (with_reducible rename News _ _ _ _ => kNq9); k_dflt (refine' word_con (Cx.push (by assumption) kFq9 rfl) ?kdq8 ?kuq8 ?h0q8 ?h16q8 ?_; (case kdq8 => (first | exact room 1 hdp | exact room 2 hdp | exact room 3 hdp | exact room 4 hdp | exact room 8 hun | exact room 16 hun | exact room 24 hun | exact room 32 hun | exact room 64 hun | exact room 65 hun | exact room 2 hun | exact Nat.lt_of_le_of_lt (Nat.le_add_right _ _) hun | ((try dsimp +zetaDelta only [Ar, Around.deeper, Around.mark]); omega))); (case kuq8 => (first | exact room 1 hdp | exact room 2 hdp | exact room 3 hdp | exact room 4 hdp | exact room 8 hun | exact room 16 hun | exact room 24 hun | exact room 32 hun | exact room 64 hun | exact room 65 hun | exact room 2 hun | exact Nat.lt_of_le_of_lt (Nat.le_add_right _ _) hun | ((try dsimp +zetaDelta only [Ar, Around.deeper, Around.mark]); omega))); (case h0q8 => omega); (case h16q8 => omega)); intro a'q9 vs'q9 k'q9 h'q9 tk'q9 hk'q9 hg'q9 hn'q9 hi'q9; (have F'q9 := Fr.after kFq9 hk'q9); (have N'q9 := newsMore kFq9 kNq9 hk'q9 hg'q9 hn'q9); (have l1'q9 := newsNe kNq9 hn'q9); clear hk'q9 hg'q9 hn'q9; clear kNq9 kFq9; (try dsimp only); (try k_fold))) | ((with_reducible show wpAny _ _ (call _ [Value.bytes _ _]) _ _ _); refine call_type_of (Tx := "bytes") rfl (by decide +kernel) ?_) | (with_reducible ((with_reducible show wpAny _ _ (storeName _ _ _) _ _ _); k_dflt (refine' storeM ?Fq7 ?Nq7 ?_ ?aq7 ?bq7; (case Fq7 => k_asm); (case Nq7 => k_asm); (case aq7 => rfl); (case bq7 => rfl); k_whole; intro m'q7 h'q7 F'q7 N'q7; (try k_sweep)))) | (with_reducible ((with_reducible show wpAny _ _ (eval (PySem.Expr.Name _ _) _) _ _ _); k_dflt (refine' nameX_L ?Fq7 ?vq7 ?_ ?aq7 ?bq7; (case Fq7 => k_asm); (case aq7 => rfl); (case bq7 => rfl); (case vq7 => exact Eq.refl (some _)); k_whole))) | ((with_reducible show InvEnd _ _ _ _ _ _); ((with_reducible rename Fr _ _ _ _ => kFq7); first | ((dsimp +zetaDelta only at kFq7); (try dsimp +zetaDelta only)) | dsimp +zetaDelta only)) | ((with_reducible show InvEndG _ _ _ _ _ _); ((with_reducible rename Fr _ _ _ _ => kFq7); first | ((dsimp +zetaDelta only at kFq7); (try dsimp +zetaDelta only)) | dsimp +zetaDelta only)) | walk1 | (dsimp only; walk1) | (leave1; (try dsimp only)) | fail "no step") <;> (repeat ((fail_if_success (fail_if_success ((generalize qx = zq); (with_reducible show zq _ _)))); k_unfold; (try clear qx); (try (first | refine wpI (P := wpAny _ _ _ _ _ ⟨_, s.gens, s.drawn, _, s.os⟩) ?_ | refine wpI (P := wpAny _ _ _ _ _ _) ?_)); (try dsimp only)))))
      rename Fr _ _ _ _ => F
      rename News _ _ _ _ => N
      rw [enc_back, byte_back x0 (by omega), x256, byte_back (by omega) (by omega)] at iW
      have hjl : j < bs.length := (List.getElem?_eq_some_iff.mp hv).1
      have hbl : bs.length ≤ 4 := by rw [hW.length]; exact hml
      refine append_K F N (Upd.tail (Ne.symm (lW _ (.head _))) (Upd.head hTo)) ?_ (by rw [List.size_toArray, sizeLine_eq]; omega)
      intro h3 F3 N3
      (repeat' ((try ((with_reducible show wpAny _ _ (execs _ _) _ _ _); k_gentoks)); (try ((with_reducible show wpAny _ _ (exec _ _) _ _ _); (with_reducible refine foldQ ?_); intro qx)); (first | (k_unfold; (try (first | refine wpI (P := wpAny _ _ _ _ _ ⟨_, s.gens, s.drawn, _, s.os⟩) ?_ | refine wpI (P := wpAny _ _ _ _ _ _) ?_)); (try dsimp only)) | (k_end; wrow_close) | (with_reducible ((with_reducible show wpAny _ _ (subscriptTail _ _ (Value.bytes _ _) (Value.int _ _)) _ _ _); first | (refine item0 (by omega) (by omega) ?_; intro v'q9 k'q9) | (refine item1 (by omega) (by omega) ?_; intro v'q9 k'q9))) | (with_reducible ((with_reducible show wpAny _ _ (binaryOp PySem.Operator.BitXor (Value.int _ _) (Value.int _ _)) _ _ _); (refine xor_V ?_; intro v'q9 k'q9))) | (with_reducible ((with_reducible show wpAny _ _ (call (Value.type "bytes") [Value.ref _]) _ _ _); k_dflt (first | (refine' bytes2N ?Fq8 ?Nq8 ?hhq8 ?aq8 ?bq8 ?_; (case Fq8 => assumption); (case Nq8 => assumption); (case hhq8 => exact rfl); (case aq8 => (constructor <;> omega)); (case bq8 => (constructor <;> omega)); intro h'q9 t'q9 k'q9 F'q9 N'q9; (try k_sweep)) | (refine' bytesW ?Fq8 ?Nq8 ?lq8 ?iq8 ?hhq8 ?_; (case Fq8 => assumption); (case Nq8 => assumption); (case iq8 => assumption); (case lq8 => (first | exact News.isList (by assumption) (by first | k_mem | assumption) | assumption)); (case hhq8 => exact rfl); intro h'q9 t'q9 k'q9 F'q9 N'q9; (try k_sweep))))) | (with_reducible ((with_reducible show wpAny _ _ (call (Value.type "list") [Value.bytes _ _]) _ _ _); k_dflt (refine' list_bytes_K ?Fq8 ?Nq8 ?hhq8 ?zq8 ?_; (case Fq8 => assumption); (case Nq8 => assumption); (case hhq8 => exact rfl); (case zq8 => exact enc_size _ _)); intro aW vW cW h' tk' F' N' lW iW)) | (with_reducible ((with_reducible show wpAny _ _ (call (Value.ref 108) [Value.bytes _ _]) _ _ _); (with_reducible rename Fr _ _ _ _ => kFq9); k_dflt (refine' encode_con (Cx.push (by assumption) kFq9 rfl) ?kdq8 ?kuq8  ?_; (case kdq8 => (first | exact room 1 hdp | exact room 2 hdp | exact room 3 hdp | exact room 4 hdp | exact room 8 hun | exact room 16 hun | exact room 24 hun | exact room 32 hun | exact room 64 hun | exact room 65 hun | exact room 2 hun | exact Nat.lt_of_le_of_lt (Nat.le_add_right _ _) hun | ((try dsimp +zetaDelta only [Ar, Around.deeper, Around.mark]); omega))); (case kuq8 => (first | exact room 1 hdp | exact room 2 hdp | exact room 3 hdp | exact room 4 hdp | exact room 8 hun | exact room 16 hun | exact room 24 hun | exact room 32 hun | exact room 64 hun | exact room 65 hun | exact room 2 hun | exact Nat.lt_of_le_of_lt (Nat.le_add_right _ _) hun | ((try dsimp +zetaDelta only [Ar, Around.deeper, Around.mark]); omega)));  skip); intro t'q9 h'q9 tk'q9 hk'q9; ((with_reducible rename Fr _ _ _ _ => kFq9); (with_reducible rename News _ _ _ _ => kNq9); (with_reducible rename Keeps _ _ => hk'q9); (have F'q9 := Fr.after kFq9 hk'q9); (have N'q9 := newsKeeps kNq9 hk'q9); clear hk'q9; clear kNq9 kFq9; (try dsimp only); (try k_fold)))) | (with_reducible ((with_reducible show wpAny _ _ (call (Value.ref 116) [Value.bytes (bytesOf (wordOf _)) _]) _ _ _); (with_reducible rename Fr _ _ _ _ => kFq9); k_dflt (refine' decode_con (Cx.push (by assumption) kFq9 rfl) ?kdq8 ?kuq8 ?h0q8 ?h16q8 ?_; (case kdq8 => (first | exact room 1 hdp | exact room 2 hdp | exact room 3 hdp | exact room 4 hdp | exact room 8 hun | exact room 16 hun | exact room 24 hun | exact room 32 hun | exact room 64 hun | exact room 65 hun | exact room 2 hun | exact Nat.lt_of_le_of_lt (Nat.le_add_right _ _) hun | ((try dsimp +zetaDelta only [Ar, Around.deeper, Around.mark]); omega))); (case kuq8 => (first | exact room 1 hdp | exact room 2 hdp | exact room 3 hdp | exact room 4 hdp | exact room 8 hun | exact room 16 hun | exact room 24 hun | exact room 32 hun | exact room 64 hun | exact room 65 hun | exact room 2 hun | exact Nat.lt_of_le_of_lt (Nat.le_add_right _ _) hun | ((try dsimp +zetaDelta only [Ar, Around.deeper, Around.mark]); omega))); (case h0q8 => omega); (case h16q8 => omega); skip); intro t'q9 h'q9 tk'q9 hk'q9; ((with_reducible rename Fr _ _ _ _ => kFq9); (with_reducible rename News _ _ _ _ => kNq9); (with_reducible rename Keeps _ _ => hk'q9); (have F'q9 := Fr.after kFq9 hk'q9); (have N'q9 := newsKeeps kNq9 hk'q9); clear hk'q9; clear kNq9 kFq9; (try dsimp only); (try k_fold)))) | (with_reducible ((with_reducible show wpAny _ _ (call (Value.ref 151) [Value.int _ _]) _ _ _); (with_reducible rename Fr _ _ _ _ => kFq9); (with_reducible rename News _ _ _ _ => kNq9); k_dflt (refine' word_con (Cx.push (by assumption) kFq9 rfl) ?kdq8 ?kuq8 ?h0q8 ?h16q8 ?_; (case kdq8 => (first | exact room 1 hdp | exact room 2 hdp | exact room 3 hdp | exact room 4 hdp | exact room 8 hun | exact room 16 hun | exact room 24 hun | exact room 32 hun | exact room 64 hun | exact room 65 hun | exact room 2 hun | exact Nat.lt_of_le_of_lt (Nat.le_add_right _ _) hun | ((try dsimp +zetaDelta only [Ar, Around.deeper, Around.mark]); omega))); (case kuq8 => (first | exact room 1 hdp | exact room 2 hdp | exact room 3 hdp | exact room 4 hdp | exact room 8 hun | exact room 16 hun | exact room 24 hun | exact room 32 hun | exact room 64 hun | exact room 65 hun | exact room 2 hun | exact Nat.lt_of_le_of_lt (Nat.le_add_right _ _) hun | ((try dsimp +zetaDelta only [Ar, Around.deeper, Around.mark]); omega))); (case h0q8 => omega); (case h16q8 => omega)); intro a'q9 vs'q9 k'q9 h'q9 tk'q9 hk'q9 hg'q9 hn'q9 hi'q9; (have F'q9 := Fr.after kFq9 hk'q9); (have N'q9 := newsMore kFq9 kNq9 hk'q9 hg'q9 hn'q9); (have l1'q9 := newsNe kNq9 hn'q9); clear hk'q9 hg'q9 hn'q9; clear kNq9 kFq9; (try dsimp only); (try k_fold))) | ((with_reducible show wpAny _ _ (call _ [Value.bytes _ _]) _ _ _); refine call_type_of (Tx := "bytes") rfl (by decide +kernel) ?_) | (with_reducible ((with_reducible show wpAny _ _ (storeName _ _ _) _ _ _); k_dflt (refine' storeM ?Fq7 ?Nq7 ?_ ?aq7 ?bq7; (case Fq7 => k_asm); (case Nq7 => k_asm); (case aq7 => rfl); (case bq7 => rfl); k_whole; intro m'q7 h'q7 F'q7 N'q7; (try k_sweep)))) | (with_reducible ((with_reducible show wpAny _ _ (eval (PySem.Expr.Name _ _) _) _ _ _); k_dflt (refine' nameX_L ?Fq7 ?vq7 ?_ ?aq7 ?bq7; (case Fq7 => k_asm); (case aq7 => rfl); (case bq7 => rfl); (case vq7 => exact Eq.refl (some _)); k_whole))) | ((with_reducible show InvEnd _ _ _ _ _ _); ((with_reducible rename Fr _ _ _ _ => kFq7); first | ((dsimp +zetaDelta only at kFq7); (try dsimp +zetaDelta only)) | dsimp +zetaDelta only)) | ((with_reducible show InvEndG _ _ _ _ _ _); ((with_reducible rename Fr _ _ _ _ => kFq7); first | ((dsimp +zetaDelta only at kFq7); (try dsimp +zetaDelta only)) | dsimp +zetaDelta only)) | walk1 | (dsimp only; walk1) | (leave1; (try dsimp only)) | fail "no step") <;> (repeat ((fail_if_success (fail_if_success ((generalize qx = zq); (with_reducible show zq _ _)))); k_unfold; (try clear qx); (try (first | refine wpI (P := wpAny _ _ _ _ _ ⟨_, s.gens, s.drawn, _, s.os⟩) ?_ | refine wpI (P := wpAny _ _ _ _ _ _) ?_)); (try dsimp only)))))
      rename Fr _ _ _ _ => F
      rename News _ _ _ _ => N
      have hTa : ∀ p ∈ T, p.1 ≠ aW := fun p hp => lW p (.tail _ (List.mem_append.mpr (.inl hp)))
      refine InvEndG.intro (nx := (fl, listOf (List.toArray (fs ++ [.ref aW])) (kf + 1)) :: (aW, listOf (List.toArray vW) cW) :: T) F N ⟨?eb, fl, fs ++ [.ref aW], kf + 1, (aW, listOf (List.toArray vW) cW) :: T, (aW, listOf (List.toArray vW) cW) :: W', t1, fun y h1 h2 => by simp [h1, h2], rfl, ?eT, ?eR, ?eWd, ?eWT, ?eoW, ?elen⟩ ?eoff ?enx ?eown
      case eb => exact .tail _ (.tail _ (hR _ (.head _)))
      case eT =>
        intro p hp
        rcases List.mem_cons.mp hp with rfl | hp
        · exact Ne.symm (lW _ (.head _))
        · exact hT p hp
      case eR => exact fun p hp => .tail _ (hR p hp)
      case eWd =>
        have e : (ms.take (j + 1)).map (fun x => Builtin.bitXor n x) = (ms.take j).map (fun x => Builtin.bitXor n x) ++ [Builtin.bitXor n mm] := by
          rw [List.take_add_one, hmj]; simp
        rw [e]
        exact (hW'.mono fun p hp => .tail _ hp).append (.cons (.head _) iW x0 x16 .nil)
      case eWT =>
        intro p hp
        rcases List.mem_cons.mp hp with rfl | hp
        · exact .head _
        · exact .tail _ (hWT p hp)
      case eoW =>
        intro p hp q hq
        rcases List.mem_cons.mp hq with rfl | hq
        · exact hTa p (hR _ (.tail _ (List.mem_append.mpr (.inr hp))))
        · exact hoW p hp q hq
      case elen => simp; omega
      case eoff =>
        intro p hp q hq
        rcases List.mem_cons.mp hq with rfl | hq
        · exact hoff2 p hp _ (.head _)
        · rcases List.mem_cons.mp hq with rfl | hq
          · exact lW p (.tail _ (List.mem_append.mpr (.inr hp)))
          · exact hoff2 p hp q (.tail _ hq)
      case enx =>
        intro p hp
        rcases List.mem_cons.mp hp with rfl | hp
        · refine .tail _ ?_
          simp only [List.push_toArray]
          exact .head _
        · rcases List.mem_cons.mp hp with rfl | hp
          · exact .head _
          · exact .tail _ (.tail _ (List.mem_append.mpr (.inl hp)))
      case eown => exact fun p hp => .tail _ (.tail _ (List.mem_append.mpr (.inr hp)))
    case done =>
      rintro m2 nx2 h2 tk2 ⟨fl, fs, kf, T, W', t1, hm2, rfl, hT, hR, hW', hWT, hoW, hfl⟩ F N
      rw [mapOff2 hm2] at F
      rw [hW.length, List.take_length] at hW'
      have hbl : bs.length ≤ 4 := by rw [hW.length]; exact hml
      replace F : Fr s.heap Lf h2 _ := F
      have N : News s.heap Lf h2 ((fl, listOf (List.toArray fs) kf) :: T) := N
      have hlb : h2.IsList b bs.toArray := ⟨_, (N _ (.tail _ (hR _ (.head _)))).1, rfl, _, rfl⟩
      have hlf : h2.IsList fl fs.toArray := ⟨_, (N _ (.head _)).1, rfl, _, rfl⟩
      repeat ((fail_if_success (with_reducible show wpAny _ _ (binaryOp _ _ _) _ _ _)); ((try ((with_reducible show wpAny _ _ (execs _ _) _ _ _); k_gentoks)); (try ((with_reducible show wpAny _ _ (exec _ _) _ _ _); (with_reducible refine foldQ ?_); intro qx)); (first | (k_unfold; (try (first | refine wpI (P := wpAny _ _ _ _ _ ⟨_, s.gens, s.drawn, _, s.os⟩) ?_ | refine wpI (P := wpAny _ _ _ _ _ _) ?_)); (try dsimp only)) | (k_end; kc_close) | (with_reducible ((with_reducible show wpAny _ _ (subscriptTail _ _ (Value.bytes _ _) (Value.int _ _)) _ _ _); first | (refine item0 (by omega) (by omega) ?_; intro v'q9 k'q9) | (refine item1 (by omega) (by omega) ?_; intro v'q9 k'q9))) | (with_reducible ((with_reducible show wpAny _ _ (binaryOp PySem.Operator.BitXor (Value.int _ _) (Value.int _ _)) _ _ _); (refine xor_V ?_; intro v'q9 k'q9))) | (with_reducible ((with_reducible show wpAny _ _ (call (Value.type "bytes") [Value.ref _]) _ _ _); k_dflt (first | (refine' bytes2N ?Fq8 ?Nq8 ?hhq8 ?aq8 ?bq8 ?_; (case Fq8 => assumption); (case Nq8 => assumption); (case hhq8 => exact rfl); (case aq8 => (constructor <;> omega)); (case bq8 => (constructor <;> omega)); intro h'q9 t'q9 k'q9 F'q9 N'q9; (try k_sweep)) | (refine' bytesW ?Fq8 ?Nq8 ?lq8 ?iq8 ?hhq8 ?_; (case Fq8 => assumption); (case Nq8 => assumption); (case iq8 => assumption); (case lq8 => (first | exact News.isList (by assumption) (by first | k_mem | assumption) | assumption)); (case hhq8 => exact rfl); intro h'q9 t'q9 k'q9 F'q9 N'q9; (try k_sweep))))) | (with_reducible ((with_reducible show wpAny _ _ (call (Value.type "list") [Value.bytes _ _]) _ _ _); k_dflt (refine' list_bytes_K ?Fq8 ?Nq8 ?hhq8 ?zq8 ?_; (case Fq8 => assumption); (case Nq8 => assumption); (case hhq8 => exact rfl); (case zq8 => exact enc_size _ _)); intro aW vW cW h' tk' F' N' lW iW)) | (with_reducible ((with_reducible show wpAny _ _ (call (Value.ref 108) [Value.bytes _ _]) _ _ _); (with_reducible rename Fr _ _ _ _ => kFq9); k_dflt (refine' encode_con (Cx.push (by assumption) kFq9 rfl) ?kdq8 ?kuq8  ?_; (case kdq8 => (first | exact room 1 hdp | exact room 2 hdp | exact room 3 hdp | exact room 4 hdp | exact room 8 hun | exact room 16 hun | exact room 24 hun | exact room 32 hun | exact room 64 hun | exact room 65 hun | exact room 2 hun | exact Nat.lt_of_le_of_lt (Nat.le_add_right _ _) hun | ((try dsimp +zetaDelta only [Ar, Around.deeper, Around.mark]); omega))); (case kuq8 => (first | exact room 1 hdp | exact room 2 hdp | exact room 3 hdp | exact room 4 hdp | exact room 8 hun | exact room 16 hun | exact room 24 hun | exact room 32 hun | exact room 64 hun | exact room 65 hun | exact room 2 hun | exact Nat.lt_of_le_of_lt (Nat.le_add_right _ _) hun | ((try dsimp +zetaDelta only [Ar, Around.deeper, Around.mark]); omega)));  skip); intro t'q9 h'q9 tk'q9 hk'q9; ((with_reducible rename Fr _ _ _ _ => kFq9); (with_reducible rename News _ _ _ _ => kNq9); (with_reducible rename Keeps _ _ => hk'q9); (have F'q9 := Fr.after kFq9 hk'q9); (have N'q9 := newsKeeps kNq9 hk'q9); clear hk'q9; clear kNq9 kFq9; (try dsimp only); (try k_fold)))) | (with_reducible ((with_reducible show wpAny _ _ (call (Value.ref 116) [Value.bytes (bytesOf (wordOf _)) _]) _ _ _); (with_reducible rename Fr _ _ _ _ => kFq9); k_dflt (refine' decode_con (Cx.push (by assumption) kFq9 rfl) ?kdq8 ?kuq8 ?h0q8 ?h16q8 ?_; (case kdq8 => (first | exact room 1 hdp | exact room 2 hdp | exact room 3 hdp | exact room 4 hdp | exact room 8 hun | exact room 16 hun | exact room 24 hun | exact room 32 hun | exact room 64 hun | exact room 65 hun | exact room 2 hun | exact Nat.lt_of_le_of_lt (Nat.le_add_right _ _) hun | ((try dsimp +zetaDelta only [Ar, Around.deeper, Around.mark]); omega))); (case kuq8 => (first | exact room 1 hdp | exact room 2 hdp | exact room 3 hdp | exact room 4 hdp | exact room 8 hun | exact room 16 hun | exact room 24 hun | exact room 32 hun | exact room 64 hun | exact room 65 hun | exact room 2 hun | exact Nat.lt_of_le_of_lt (Nat.le_add_right _ _) hun | ((try dsimp +zetaDelta only [Ar, Around.deeper, Around.mark]); omega))); (case h0q8 => omega); (case h16q8 => omega); skip); intro t'q9 h'q9 tk'q9 hk'q9; ((with_reducible rename Fr _ _ _ _ => kFq9); (with_reducible rename News _ _ _ _ => kNq9); (with_reducible rename Keeps _ _ => hk'q9); (have F'q9 := Fr.after kFq9 hk'q9); (have N'q9 := newsKeeps kNq9 hk'q9); clear hk'q9; clear kNq9 kFq9; (try dsimp only); (try k_fold)))) | (with_reducible ((with_reducible show wpAny _ _ (call (Value.ref 151) [Value.int _ _]) _ _ _); (with_reducible rename Fr _ _ _ _ => kFq9); (with_reducible rename News _ _ _ _ => kNq9); k_dflt (refine' word_con (Cx.push (by assumption) kFq9 rfl) ?kdq8 ?kuq8 ?h0q8 ?h16q8 ?_; (case kdq8 => (first | exact room 1 hdp | exact room 2 hdp | exact room 3 hdp | exact room 4 hdp | exact room 8 hun | exact room 16 hun | exact room 24 hun | exact room 32 hun | exact room 64 hun | exact room 65 hun | exact room 2 hun | exact Nat.lt_of_le_of_lt (Nat.le_add_right _ _) hun | ((try dsimp +zetaDelta only [Ar, Around.deeper, Around.mark]); omega))); (case kuq8 => (first | exact room 1 hdp | exact room 2 hdp | exact room 3 hdp | exact room 4 hdp | exact room 8 hun | exact room 16 hun | exact room 24 hun | exact room 32 hun | exact room 64 hun | exact room 65 hun | exact room 2 hun | exact Nat.lt_of_le_of_lt (Nat.le_add_right _ _) hun | ((try dsimp +zetaDelta only [Ar, Around.deeper, Around.mark]); omega))); (case h0q8 => omega); (case h16q8 => omega)); intro a'q9 vs'q9 k'q9 h'q9 tk'q9 hk'q9 hg'q9 hn'q9 hi'q9; (have F'q9 := Fr.after kFq9 hk'q9); (have N'q9 := newsMore kFq9 kNq9 hk'q9 hg'q9 hn'q9); (have l1'q9 := newsNe kNq9 hn'q9); clear hk'q9 hg'q9 hn'q9; clear kNq9 kFq9; (try dsimp only); (try k_fold))) | ((with_reducible show wpAny _ _ (call _ [Value.bytes _ _]) _ _ _); refine call_type_of (Tx := "bytes") rfl (by decide +kernel) ?_) | (with_reducible ((with_reducible show wpAny _ _ (storeName _ _ _) _ _ _); k_dflt (refine' storeM ?Fq7 ?Nq7 ?_ ?aq7 ?bq7; (case Fq7 => k_asm); (case Nq7 => k_asm); (case aq7 => rfl); (case bq7 => rfl); k_whole; intro m'q7 h'q7 F'q7 N'q7; (try k_sweep)))) | (with_reducible ((with_reducible show wpAny _ _ (eval (PySem.Expr.Name _ _) _) _ _ _); k_dflt (refine' nameX_L ?Fq7 ?vq7 ?_ ?aq7 ?bq7; (case Fq7 => k_asm); (case aq7 => rfl); (case bq7 => rfl); (case vq7 => exact Eq.refl (some _)); k_whole))) | ((with_reducible show InvEnd _ _ _ _ _ _); ((with_reducible rename Fr _ _ _ _ => kFq7); first | ((dsimp +zetaDelta only at kFq7); (try dsimp +zetaDelta only)) | dsimp +zetaDelta only)) | ((with_reducible show InvEndG _ _ _ _ _ _); ((with_reducible rename Fr _ _ _ _ => kFq7); first | ((dsimp +zetaDelta only at kFq7); (try dsimp +zetaDelta only)) | dsimp +zetaDelta only)) | walk1 | (dsimp only; walk1) | (leave1; (try dsimp only)) | fail "no step") <;> (repeat ((fail_if_success (fail_if_success ((generalize qx = zq); (with_reducible show zq _ _)))); k_unfold; (try clear qx); (try (first | refine wpI (P := wpAny _ _ _ _ _ ⟨_, s.gens, s.drawn, _, s.os⟩) ?_ | refine wpI (P := wpAny _ _ _ _ _ _) ?_)); (try dsimp only)))))
      refine kmk_add_lit F N hlb hlf (zs := bs ++ fs) (by simp) ?_ (by rw [sizeLine_eq]; simp; omega)
      intro D h3 F3 N3 lD
      (repeat' ((try ((with_reducible show wpAny _ _ (execs _ _) _ _ _); k_gentoks)); (try ((with_reducible show wpAny _ _ (exec _ _) _ _ _); (with_reducible refine foldQ ?_); intro qx)); (first | (k_unfold; (try (first | refine wpI (P := wpAny _ _ _ _ _ ⟨_, s.gens, s.drawn, _, s.os⟩) ?_ | refine wpI (P := wpAny _ _ _ _ _ _) ?_)); (try dsimp only)) | (k_end; wrow_close) | (with_reducible ((with_reducible show wpAny _ _ (subscriptTail _ _ (Value.bytes _ _) (Value.int _ _)) _ _ _); first | (refine item0 (by omega) (by omega) ?_; intro v'q9 k'q9) | (refine item1 (by omega) (by omega) ?_; intro v'q9 k'q9))) | (with_reducible ((with_reducible show wpAny _ _ (binaryOp PySem.Operator.BitXor (Value.int _ _) (Value.int _ _)) _ _ _); (refine xor_V ?_; intro v'q9 k'q9))) | (with_reducible ((with_reducible show wpAny _ _ (call (Value.type "bytes") [Value.ref _]) _ _ _); k_dflt (first | (refine' bytes2N ?Fq8 ?Nq8 ?hhq8 ?aq8 ?bq8 ?_; (case Fq8 => assumption); (case Nq8 => assumption); (case hhq8 => exact rfl); (case aq8 => (constructor <;> omega)); (case bq8 => (constructor <;> omega)); intro h'q9 t'q9 k'q9 F'q9 N'q9; (try k_sweep)) | (refine' bytesW ?Fq8 ?Nq8 ?lq8 ?iq8 ?hhq8 ?_; (case Fq8 => assumption); (case Nq8 => assumption); (case iq8 => assumption); (case lq8 => (first | exact News.isList (by assumption) (by first | k_mem | assumption) | assumption)); (case hhq8 => exact rfl); intro h'q9 t'q9 k'q9 F'q9 N'q9; (try k_sweep))))) | (with_reducible ((with_reducible show wpAny _ _ (call (Value.type "list") [Value.bytes _ _]) _ _ _); k_dflt (refine' list_bytes_K ?Fq8 ?Nq8 ?hhq8 ?zq8 ?_; (case Fq8 => assumption); (case Nq8 => assumption); (case hhq8 => exact rfl); (case zq8 => exact enc_size _ _)); intro aW vW cW h' tk' F' N' lW iW)) | (with_reducible ((with_reducible show wpAny _ _ (call (Value.ref 108) [Value.bytes _ _]) _ _ _); (with_reducible rename Fr _ _ _ _ => kFq9); k_dflt (refine' encode_con (Cx.push (by assumption) kFq9 rfl) ?kdq8 ?kuq8  ?_; (case kdq8 => (first | exact room 1 hdp | exact room 2 hdp | exact room 3 hdp | exact room 4 hdp | exact room 8 hun | exact room 16 hun | exact room 24 hun | exact room 32 hun | exact room 64 hun | exact room 65 hun | exact room 2 hun | exact Nat.lt_of_le_of_lt (Nat.le_add_right _ _) hun | ((try dsimp +zetaDelta only [Ar, Around.deeper, Around.mark]); omega))); (case kuq8 => (first | exact room 1 hdp | exact room 2 hdp | exact room 3 hdp | exact room 4 hdp | exact room 8 hun | exact room 16 hun | exact room 24 hun | exact room 32 hun | exact room 64 hun | exact room 65 hun | exact room 2 hun | exact Nat.lt_of_le_of_lt (Nat.le_add_right _ _) hun | ((try dsimp +zetaDelta only [Ar, Around.deeper, Around.mark]); omega)));  skip); intro t'q9 h'q9 tk'q9 hk'q9; ((with_reducible rename Fr _ _ _ _ => kFq9); (with_reducible rename News _ _ _ _ => kNq9); (with_reducible rename Keeps _ _ => hk'q9); (have F'q9 := Fr.after kFq9 hk'q9); (have N'q9 := newsKeeps kNq9 hk'q9); clear hk'q9; clear kNq9 kFq9; (try dsimp only); (try k_fold)))) | (with_reducible ((with_reducible show wpAny _ _ (call (Value.ref 116) [Value.bytes (bytesOf (wordOf _)) _]) _ _ _); (with_reducible rename Fr _ _ _ _ => kFq9); k_dflt (refine' decode_con (Cx.push (by assumption) kFq9 rfl) ?kdq8 ?kuq8 ?h0q8 ?h16q8 ?_; (case kdq8 => (first | exact room 1 hdp | exact room 2 hdp | exact room 3 hdp | exact room 4 hdp | exact room 8 hun | exact room 16 hun | exact room 24 hun | exact room 32 hun | exact room 64 hun | exact room 65 hun | exact room 2 hun | exact Nat.lt_of_le_of_lt (Nat.le_add_right _ _) hun | ((try dsimp +zetaDelta only [Ar, Around.deeper, Around.mark]); omega))); (case kuq8 => (first | exact room 1 hdp | exact room 2 hdp | exact room 3 hdp | exact room 4 hdp | exact room 8 hun | exact room 16 hun | exact room 24 hun | exact room 32 hun | exact room 64 hun | exact room 65 hun | exact room 2 hun | exact Nat.lt_of_le_of_lt (Nat.le_add_right _ _) hun | ((try dsimp +zetaDelta only [Ar, Around.deeper, Around.mark]); omega))); (case h0q8 => omega); (case h16q8 => omega); skip); intro t'q9 h'q9 tk'q9 hk'q9; ((with_reducible rename Fr _ _ _ _ => kFq9); (with_reducible rename News _ _ _ _ => kNq9); (with_reducible rename Keeps _ _ => hk'q9); (have F'q9 := Fr.after kFq9 hk'q9); (have N'q9 := newsKeeps kNq9 hk'q9); clear hk'q9; clear kNq9 kFq9; (try dsimp only); (try k_fold)))) | (with_reducible ((with_reducible show wpAny _ _ (call (Value.ref 151) [Value.int _ _]) _ _ _); (with_reducible rename Fr _ _ _ _ => kFq9); (with_reducible rename News _ _ _ _ => kNq9); k_dflt (refine' word_con (Cx.push (by assumption) kFq9 rfl) ?kdq8 ?kuq8 ?h0q8 ?h16q8 ?_; (case kdq8 => (first | exact room 1 hdp | exact room 2 hdp | exact room 3 hdp | exact room 4 hdp | exact room 8 hun | exact room 16 hun | exact room 24 hun | exact room 32 hun | exact room 64 hun | exact room 65 hun | exact room 2 hun | exact Nat.lt_of_le_of_lt (Nat.le_add_right _ _) hun | ((try dsimp +zetaDelta only [Ar, Around.deeper, Around.mark]); omega))); (case kuq8 => (first | exact room 1 hdp | exact room 2 hdp | exact room 3 hdp | exact room 4 hdp | exact room 8 hun | exact room 16 hun | exact room 24 hun | exact room 32 hun | exact room 64 hun | exact room 65 hun | exact room 2 hun | exact Nat.lt_of_le_of_lt (Nat.le_add_right _ _) hun | ((try dsimp +zetaDelta only [Ar, Around.deeper, Around.mark]); omega))); (case h0q8 => omega); (case h16q8 => omega)); intro a'q9 vs'q9 k'q9 h'q9 tk'q9 hk'q9 hg'q9 hn'q9 hi'q9; (have F'q9 := Fr.after kFq9 hk'q9); (have N'q9 := newsMore kFq9 kNq9 hk'q9 hg'q9 hn'q9); (have l1'q9 := newsNe kNq9 hn'q9); clear hk'q9 hg'q9 hn'q9; clear kNq9 kFq9; (try dsimp only); (try k_fold))) | ((with_reducible show wpAny _ _ (call _ [Value.bytes _ _]) _ _ _); refine call_type_of (Tx := "bytes") rfl (by decide +kernel) ?_) | (with_reducible ((with_reducible show wpAny _ _ (storeName _ _ _) _ _ _); k_dflt (refine' storeM ?Fq7 ?Nq7 ?_ ?aq7 ?bq7; (case Fq7 => k_asm); (case Nq7 => k_asm); (case aq7 => rfl); (case bq7 => rfl); k_whole; intro m'q7 h'q7 F'q7 N'q7; (try k_sweep)))) | (with_reducible ((with_reducible show wpAny _ _ (eval (PySem.Expr.Name _ _) _) _ _ _); k_dflt (refine' nameX_L ?Fq7 ?vq7 ?_ ?aq7 ?bq7; (case Fq7 => k_asm); (case aq7 => rfl); (case bq7 => rfl); (case vq7 => exact Eq.refl (some _)); k_whole))) | ((with_reducible show InvEnd _ _ _ _ _ _); ((with_reducible rename Fr _ _ _ _ => kFq7); first | ((dsimp +zetaDelta only at kFq7); (try dsimp +zetaDelta only)) | dsimp +zetaDelta only)) | ((with_reducible show InvEndG _ _ _ _ _ _); ((with_reducible rename Fr _ _ _ _ => kFq7); first | ((dsimp +zetaDelta only at kFq7); (try dsimp +zetaDelta only)) | dsimp +zetaDelta only)) | walk1 | (dsimp only; walk1) | (leave1; (try dsimp only)) | fail "no step") <;> (repeat ((fail_if_success (fail_if_success ((generalize qx = zq); (with_reducible show zq _ _)))); k_unfold; (try clear qx); (try (first | refine wpI (P := wpAny _ _ _ _ _ ⟨_, s.gens, s.drawn, _, s.os⟩) ?_ | refine wpI (P := wpAny _ _ _ _ _ _) ?_)); (try dsimp only)))))
      rename Fr _ _ _ _ => F
      rename News _ _ _ _ => N
      refine InvEndG.intro (nx := (D, listOf (List.toArray (bs ++ fs)) 0) :: (W ++ W')) F N ⟨D, bs ++ fs, 0, W ++ W', ?em, rfl, ?eW, ?eD⟩ ?eoff ?enx ?eown
      case em => exact fun y h1 h2 h3 h4 h5 => by by_cases h6 : y = Str.ofString "words" <;> simp [h1, h2, h3, h4, h5, h6]
      case eW =>
        rw [sumsOf_step _ _ _ hn, hms]
        exact (hW.mono fun p hp => List.mem_append.mpr (.inl hp)).append (hW'.mono fun p hp => List.mem_append.mpr (.inr hp))
      case eD =>
        intro p hp
        refine Nat.ne_of_lt (lD p (.tail _ ?_))
        rcases List.mem_append.mp hp with hp | hp
        · exact hR _ (.tail _ (List.mem_append.mpr (.inl hp)))
        · exact hWT p hp
      case eoff =>
        intro p hp q hq
        rcases List.mem_cons.mp hq with rfl | hq
        · exact Nat.ne_of_lt (lD p (.tail _ (hR _ (.tail _ (List.mem_append.mpr (.inr hp))))))
        · rw [List.map_append] at hq
          rcases List.mem_append.mp hq with hq | hq
          · exact hoff p hp q (.tail _ hq)
          · exact hoW p hp q hq
      case enx =>
        intro p hp
        rcases List.mem_cons.mp hp with rfl | hp
        · exact .head _
        · refine .tail _ (.tail _ ?_)
          rcases List.mem_append.mp hp with hp | hp
          · exact hR _ (.tail _ (List.mem_append.mpr (.inl hp)))
          · exact hWT p hp
      case eown => exact fun p hp => .tail _ (.tail _ (hR _ (.tail _ (List.mem_append.mpr (.inr hp)))))
  · rintro m1 nx h tk ⟨b, bs, k, W, hm, rfl, hW, hbW⟩ F N
    rw [mapOff5 hm] at F
    rw [List.take_length] at hW
    repeat ((with_reducible show wpAny _ _ _ _ _ _); ((try ((with_reducible show wpAny _ _ (execs _ _) _ _ _); k_gentoks)); (try ((with_reducible show wpAny _ _ (exec _ _) _ _ _); (with_reducible refine foldQ ?_); intro qx)); (first | (k_unfold; (try (first | refine wpI (P := wpAny _ _ _ _ _ ⟨_, s.gens, s.drawn, _, s.os⟩) ?_ | refine wpI (P := wpAny _ _ _ _ _ _) ?_)); (try dsimp only)) | (k_end; kc_close) | (with_reducible ((with_reducible show wpAny _ _ (subscriptTail _ _ (Value.bytes _ _) (Value.int _ _)) _ _ _); first | (refine item0 (by omega) (by omega) ?_; intro v'q9 k'q9) | (refine item1 (by omega) (by omega) ?_; intro v'q9 k'q9))) | (with_reducible ((with_reducible show wpAny _ _ (binaryOp PySem.Operator.BitXor (Value.int _ _) (Value.int _ _)) _ _ _); (refine xor_V ?_; intro v'q9 k'q9))) | (with_reducible ((with_reducible show wpAny _ _ (call (Value.type "bytes") [Value.ref _]) _ _ _); k_dflt (first | (refine' bytes2N ?Fq8 ?Nq8 ?hhq8 ?aq8 ?bq8 ?_; (case Fq8 => assumption); (case Nq8 => assumption); (case hhq8 => exact rfl); (case aq8 => (constructor <;> omega)); (case bq8 => (constructor <;> omega)); intro h'q9 t'q9 k'q9 F'q9 N'q9; (try k_sweep)) | (refine' bytesW ?Fq8 ?Nq8 ?lq8 ?iq8 ?hhq8 ?_; (case Fq8 => assumption); (case Nq8 => assumption); (case iq8 => assumption); (case lq8 => (first | exact News.isList (by assumption) (by first | k_mem | assumption) | assumption)); (case hhq8 => exact rfl); intro h'q9 t'q9 k'q9 F'q9 N'q9; (try k_sweep))))) | (with_reducible ((with_reducible show wpAny _ _ (call (Value.type "list") [Value.bytes _ _]) _ _ _); k_dflt (refine' list_bytes_K ?Fq8 ?Nq8 ?hhq8 ?zq8 ?_; (case Fq8 => assumption); (case Nq8 => assumption); (case hhq8 => exact rfl); (case zq8 => exact enc_size _ _)); intro aW vW cW h' tk' F' N' lW iW)) | (with_reducible ((with_reducible show wpAny _ _ (call (Value.ref 108) [Value.bytes _ _]) _ _ _); (with_reducible rename Fr _ _ _ _ => kFq9); k_dflt (refine' encode_con (Cx.push (by assumption) kFq9 rfl) ?kdq8 ?kuq8  ?_; (case kdq8 => (first | exact room 1 hdp | exact room 2 hdp | exact room 3 hdp | exact room 4 hdp | exact room 8 hun | exact room 16 hun | exact room 24 hun | exact room 32 hun | exact room 64 hun | exact room 65 hun | exact room 2 hun | exact Nat.lt_of_le_of_lt (Nat.le_add_right _ _) hun | ((try dsimp +zetaDelta only [Ar, Around.deeper, Around.mark]); omega))); (case kuq8 => (first | exact room 1 hdp | exact room 2 hdp | exact room 3 hdp | exact room 4 hdp | exact room 8 hun | exact room 16 hun | exact room 24 hun | exact room 32 hun | exact room 64 hun | exact room 65 hun | exact room 2 hun | exact Nat.lt_of_le_of_lt (Nat.le_add_right _ _) hun | ((try dsimp +zetaDelta only [Ar, Around.deeper, Around.mark]); omega)));  skip); intro t'q9 h'q9 tk'q9 hk'q9; ((with_reducible rename Fr _ _ _ _ => kFq9); (with_reducible rename News _ _ _ _ => kNq9); (with_reducible rename Keeps _ _ => hk'q9); (have F'q9 := Fr.after kFq9 hk'q9); (have N'q9 := newsKeeps kNq9 hk'q9); clear hk'q9; clear kNq9 kFq9; (try dsimp only); (try k_fold)))) | (with_reducible ((with_reducible show wpAny _ _ (call (Value.ref 116) [Value.bytes (bytesOf (wordOf _)) _]) _ _ _); (with_reducible rename Fr _ _ _ _ => kFq9); k_dflt (refine' decode_con (Cx.push (by assumption) kFq9 rfl) ?kdq8 ?kuq8 ?h0q8 ?h16q8 ?_; (case kdq8 => (first | exact room 1 hdp | exact room 2 hdp | exact room 3 hdp | exact room 4 hdp | exact room 8 hun | exact room 16 hun | exact room 24 hun | exact room 32 hun | exact room 64 hun | exact room 65 hun | exact room 2 hun | exact Nat.lt_of_le_of_lt (Nat.le_add_right _ _) hun | ((try dsimp +zetaDelta only [Ar, Around.deeper, Around.mark]); omega))); (case kuq8 => (first | exact room 1 hdp | exact room 2 hdp | exact room 3 hdp | exact room 4 hdp | exact room 8 hun | exact room 16 hun | exact room 24 hun | exact room 32 hun | exact room 64 hun | exact room 65 hun | exact room 2 hun | exact Nat.lt_of_le_of_lt (Nat.le_add_right _ _) hun | ((try dsimp +zetaDelta only [Ar, Around.deeper, Around.mark]); omega))); (case h0q8 => omega); (case h16q8 => omega); skip); intro t'q9 h'q9 tk'q9 hk'q9; ((with_reducible rename Fr _ _ _ _ => kFq9); (with_reducible rename News _ _ _ _ => kNq9); (with_reducible rename Keeps _ _ => hk'q9); (have F'q9 := Fr.after kFq9 hk'q9); (have N'q9 := newsKeeps kNq9 hk'q9); clear hk'q9; clear kNq9 kFq9; (try dsimp only); (try k_fold)))) | (with_reducible ((with_reducible show wpAny _ _ (call (Value.ref 151) [Value.int _ _]) _ _ _); (with_reducible rename Fr _ _ _ _ => kFq9); (with_reducible rename News _ _ _ _ => kNq9); k_dflt (refine' word_con (Cx.push (by assumption) kFq9 rfl) ?kdq8 ?kuq8 ?h0q8 ?h16q8 ?_; (case kdq8 => (first | exact room 1 hdp | exact room 2 hdp | exact room 3 hdp | exact room 4 hdp | exact room 8 hun | exact room 16 hun | exact room 24 hun | exact room 32 hun | exact room 64 hun | exact room 65 hun | exact room 2 hun | exact Nat.lt_of_le_of_lt (Nat.le_add_right _ _) hun | ((try dsimp +zetaDelta only [Ar, Around.deeper, Around.mark]); omega))); (case kuq8 => (first | exact room 1 hdp | exact room 2 hdp | exact room 3 hdp | exact room 4 hdp | exact room 8 hun | exact room 16 hun | exact room 24 hun | exact room 32 hun | exact room 64 hun | exact room 65 hun | exact room 2 hun | exact Nat.lt_of_le_of_lt (Nat.le_add_right _ _) hun | ((try dsimp +zetaDelta only [Ar, Around.deeper, Around.mark]); omega))); (case h0q8 => omega); (case h16q8 => omega)); intro a'q9 vs'q9 k'q9 h'q9 tk'q9 hk'q9 hg'q9 hn'q9 hi'q9; (have F'q9 := Fr.after kFq9 hk'q9); (have N'q9 := newsMore kFq9 kNq9 hk'q9 hg'q9 hn'q9); (have l1'q9 := newsNe kNq9 hn'q9); clear hk'q9 hg'q9 hn'q9; clear kNq9 kFq9; (try dsimp only); (try k_fold))) | ((with_reducible show wpAny _ _ (call _ [Value.bytes _ _]) _ _ _); refine call_type_of (Tx := "bytes") rfl (by decide +kernel) ?_) | (with_reducible ((with_reducible show wpAny _ _ (storeName _ _ _) _ _ _); k_dflt (refine' storeM ?Fq7 ?Nq7 ?_ ?aq7 ?bq7; (case Fq7 => k_asm); (case Nq7 => k_asm); (case aq7 => rfl); (case bq7 => rfl); k_whole; intro m'q7 h'q7 F'q7 N'q7; (try k_sweep)))) | (with_reducible ((with_reducible show wpAny _ _ (eval (PySem.Expr.Name _ _) _) _ _ _); k_dflt (refine' nameX_L ?Fq7 ?vq7 ?_ ?aq7 ?bq7; (case Fq7 => k_asm); (case aq7 => rfl); (case bq7 => rfl); (case vq7 => exact Eq.refl (some _)); k_whole))) | ((with_reducible show InvEnd _ _ _ _ _ _); ((with_reducible rename Fr _ _ _ _ => kFq7); first | ((dsimp +zetaDelta only at kFq7); (try dsimp +zetaDelta only)) | dsimp +zetaDelta only)) | ((with_reducible show InvEndG _ _ _ _ _ _); ((with_reducible rename Fr _ _ _ _ => kFq7); first | ((dsimp +zetaDelta only at kFq7); (try dsimp +zetaDelta only)) | dsimp +zetaDelta only)) | walk1 | (dsimp only; walk1) | (leave1; (try dsimp only)) | fail "no step") <;> (repeat ((fail_if_success (fail_if_success ((generalize qx = zq); (with_reducible show zq _ _)))); k_unfold; (try clear qx); (try (first | refine wpI (P := wpAny _ _ _ _ _ ⟨_, s.gens, s.drawn, _, s.os⟩) ?_ | refine wpI (P := wpAny _ _ _ _ _ _) ?_)); (try dsimp only)))))
    exact ret _ _ _ _ _ _ F.keep (fun p hp => ⟨(N p hp).1, (N p hp).2.2⟩) hbW hW
end Mine
end
section
open PySem PySem.W PyProof.Rows PySem.SeqAt PySem.MeetsSeq
set_option maxRecDepth 100000
set_option maxHeartbeats 8000000
set_option linter.unusedVariables false
namespace Mine
inductive WdH (h : Heap) : List Value → List Int → Prop
  | nil : WdH h [] []
  | cons {a : Addr} {xs : List Value} {m : Int} {vs : List Value} {ms : List Int} : h.IsList a (List.toArray xs) → IntsAre xs (wordOf m) → 0 ≤ m → m < 16 → WdH h vs ms → WdH h (.ref a :: vs) (m :: ms)
theorem WdH.keeps {h h' : Heap} (hk : Keeps h h') : ∀ {vs : List Value} {ms : List Int}, WdH h vs ms → WdH h' vs ms
  | _, _, .nil => .nil
  | _, _, .cons l i a b r => .cons (l.at fun o e => hk _ o e) i a b (r.keeps hk)
theorem WdH.append {h : Heap} : ∀ {vs us : List Value} {ms ns : List Int}, WdH h vs ms → WdH h us ns → WdH h (vs ++ us) (ms ++ ns)
  | _, _, _, _, .nil, h => h
  | _, _, _, _, .cons l i a b r, h' => .cons l i a b (r.append h')
theorem WdH.length {h : Heap} : ∀ {vs : List Value} {ms : List Int}, WdH h vs ms → vs.length = ms.length
  | _, _, .nil => rfl
  | _, _, .cons _ _ _ _ r => by simp [r.length]
theorem Wd.toH {W : List (Addr × Obj)} {h : Heap} (hW : ∀ p ∈ W, h.get? p.1 = some p.2) : ∀ {vs : List Value} {ms : List Int}, Wd W vs ms → WdH h vs ms
  | _, _, .nil => .nil
  | _, _, .cons m i a b r => .cons ⟨_, hW _ m, rfl, _, rfl⟩ i a b (r.toH hW)
/-- the value is the word of the number m -/
def IsW (h : Heap) (v : Value) (m : Int) : Prop := ∃ a xs, v = .ref a ∧ h.IsList a (List.toArray xs) ∧ IntsAre xs (wordOf m) ∧ 0 ≤ m ∧ m < 16
theorem word_inj_all : ∀ a b : _root_.Fin 16, wordOf ((a.val : Nat) : Int) = wordOf ((b.val : Nat) : Int) → a = b := by decide +kernel
theorem word_inj {a b : Int} (ha : 0 ≤ a) (ha' : a < 16) (hb : 0 ≤ b) (hb' : b < 16) (e : wordOf a = wordOf b) : a = b := by
  have e1 : ((a.toNat : Nat) : Int) = a := by omega
  have e2 : ((b.toNat : Nat) : Int) = b := by omega
  have z := word_inj_all ⟨a.toNat, by omega⟩ ⟨b.toNat, by omega⟩ (by simpa only [e1, e2] using e)
  have := congrArg _root_.Fin.val z
  simp only at this
  omega
theorem intsAre_fun : ∀ {xs : List Value} {ns ms : List Int}, IntsAre xs ns → IntsAre xs ms → ns = ms
  | _, _, _, .nil, h => by cases h; rfl
  | _, _, _, .cons n t r, h => by
    cases h with
    | cons _ _ r' => rw [intsAre_fun r r']
theorem isList_fun {h : Heap} {a : Addr} {xs ys : Array Value} (h1 : h.IsList a xs) (h2 : h.IsList a ys) : xs = ys := by
  obtain ⟨o, ho, _, n, hd⟩ := h1
  obtain ⟨o', ho', _, n', hd'⟩ := h2
  have : o = o' := Option.some.inj (ho.symm.trans ho')
  subst this
  rw [hd] at hd'
  injection hd'
theorem IsW.fun {h : Heap} {v : Value} {m m' : Int} (h1 : IsW h v m) (h2 : IsW h v m') : m = m' := by
  obtain ⟨a, xs, rfl, l, i, p, q⟩ := h1
  obtain ⟨a', xs', e, l', i', p', q'⟩ := h2
  cases e
  have e1 := congrArg Array.toList (isList_fun l l')
  simp at e1
  subst e1
  exact word_inj p q p' q' (intsAre_fun i i')
theorem IsW.keeps {h h' : Heap} (hk : Keeps h h') {v : Value} {m : Int} (hw : IsW h v m) : IsW h' v m := by
  obtain ⟨a, xs, rfl, l, r⟩ := hw
  exact ⟨a, xs, rfl, l.at fun o e => hk _ o e, r⟩
theorem WdH.get {h : Heap} : ∀ {vs : List Value} {ms : List Int}, WdH h vs ms → ∀ {i : Nat} {v : Value}, vs[i]? = some v → ∃ m, ms[i]? = some m ∧ IsW h v m
  | _, _, .nil, i, v, e => by simp at e
  | _, _, .cons (a := a) (xs := xs) (m := m) h1 h2 h3 h4 r, 0, v, e => by
    simp at e
    exact ⟨m, rfl, a, xs, e.symm, h1, h2, h3, h4⟩
  | _, _, .cons h1 h2 h3 h4 r, i + 1, v, e => by
    obtain ⟨m, e', w⟩ := r.get (i := i) (v := v) (by simpa using e)
    exact ⟨m, by simpa using e', w⟩
theorem WdH.mem {h : Heap} {vs : List Value} {ms : List Int} (hW : WdH h vs ms) {v : Value} (hv : v ∈ vs) : ∃ m, m ∈ ms ∧ IsW h v m := by
  obtain ⟨i, hi⟩ := List.getElem?_of_mem hv
  obtain ⟨m, hm, w⟩ := hW.get hi
  exact ⟨m, List.mem_of_getElem? hm, w⟩
theorem WdH.one {h : Heap} {v : Value} {m : Int} (w : IsW h v m) : WdH h [v] [m] := by
  obtain ⟨a, xs, rfl, l, i, p, q⟩ := w
  exact .cons l i p q .nil
theorem WdH.erase {h : Heap} : ∀ {vs : List Value} {ms : List Int}, WdH h vs ms → ∀ j : Nat, WdH h (vs.eraseIdx j) (ms.eraseIdx j)
  | _, _, .nil, _ => .nil
  | _, _, .cons _ _ _ _ r, 0 => r
  | _, _, .cons l i a b r, j + 1 => .cons l i a b (r.erase j)
open Classical in
/-- is the value the word of m -/
noncomputable def eW (h : Heap) (m : Int) (v : Value) : Bool := decide (IsW h v m)
theorem eW_of {h : Heap} {v : Value} {m m' : Int} (w : IsW h v m') : eW h m v = decide (m' = m) := by
  unfold eW
  by_cases e : m' = m
  · subst e; simp [w]
  · have : ¬ IsW h v m := fun w' => e (w.fun w')
    simp [this, e]
section
variable {A : Around} {s : Shared}
theorem eqAtW {v v' : Value} {m m' : Int} (w : IsW s.heap v m) (w' : IsW s.heap v' m') (hu : A.units + 64 < cLine) : EqAt A s v v' (decide (m = m')) := by
  by_cases e : v = v'
  · subst e
    rw [decide_eq_true (w.fun w')]
    exact EqAt.same _
  · obtain ⟨a, xs, rfl, l, i, p, q⟩ := w
    obtain ⟨a', xs', rfl, l', i', p', q'⟩ := w'
    refine EqAt.of_refs (fun z => e (by rw [z])) fun prog w E Q hq => ?_
    have d : decide (wordOf m = wordOf m') = decide (m = m') := by
      by_cases z : m = m'
      · simp [z]
      · have : wordOf m ≠ wordOf m' := fun y => z (word_inj p q p' q' y)
        simp [z, this]
    exact (eq_intsK l i l' i' hu (by rw [d]; exact hq) : wpAny (model prog w) A (compareOp .Eq (.ref a) (.ref a')) Q E s)
theorem anyW {h : Heap} {m : Int} : ∀ {vs : List Value} {ms : List Int}, WdH h vs ms → vs.any (eW h m) = decide (m ∈ ms)
  | _, _, .nil => by simp
  | _, _, .cons (a := a) (xs := xs) (m := m') l i p q r => by
    rw [List.any_cons, anyW r, eW_of ⟨a, xs, rfl, l, i, p, q⟩]
    by_cases z : m' = m
    · subst z; simp
    · have z' : m ≠ m' := fun y => z y.symm
      simp [z, z']
variable {prog : Program} {w : World} {E : Value → Shared → Prop} {Q : Value → Shared → Prop}
theorem notInW {v : Value} {l : Addr} {vs : List Value} {ms : List Int} {m : Int} (wv : IsW s.heap v m) (hl : s.heap.IsList l vs.toArray) (hW : WdH s.heap vs ms) (hu : A.units + 65 < cLine)
    (h : Q (.bool (decide (m ∉ ms))) s) : wpAny (model prog w) A (compareOp .NotIn v (.ref l)) Q E s := by
  refine notIn_listAt (eW s.heap m) hl (fun y hy => ?_) ?_
  · obtain ⟨m', _, wy⟩ := hW.mem (by simpa using hy)
    rw [eW_of wy]
    exact eqAtW wy wv (by show A.units + 1 + 64 < cLine; omega)
  · rw [← Array.any_toList]
    rw [show vs.toArray.toList = vs from rfl, anyW hW]
    simpa using h
theorem eqW {v v' : Value} {m m' : Int} (w : IsW s.heap v m) (w' : IsW s.heap v' m') (hu : A.units + 64 < cLine) (h : Q (.bool (decide (m = m'))) s) :
    wpAny (model prog w₀) A (compareOp .Eq v v') Q E s := by
  obtain ⟨a, xs, rfl, l, i, p, q⟩ := w
  obtain ⟨a', xs', rfl, l', i', p', q'⟩ := w'
  have d : decide (wordOf m = wordOf m') = decide (m = m') := by
    by_cases z : m = m'
    · simp [z]
    · have : wordOf m ≠ wordOf m' := fun y => z (word_inj p q p' q' y)
      simp [z, this]
  exact eq_intsK l i l' i' hu (by rw [d]; exact h)
end
end Mine
end
section
open PySem PySem.W PyProof.Rows
set_option maxRecDepth 100000
set_option maxHeartbeats 8000000
set_option linter.unusedVariables false
namespace Mine
theorem iter_base {prog : Program} {w : World} {A : Around} {E : Value → Shared → Prop} {s : Shared} {env : Env} {h₀ : Heap} {x : Str} {body : List Stmt} {Q : Flow → Shared → Prop} {l : Addr} {vs : List Value} {m₀ : Str → Option Value} {news : List (Addr × Obj)} (J : Nat → (Str → Option Value) → List (Addr × Obj) → Prop)
    (hh : A.handled = none) (hl : h₀.IsList l vs.toArray) (F : Fr h₀ env.locals s.heap m₀) (N : News h₀ env.locals s.heap news) (hj : J 0 m₀ news)
    (turn : ∀ i v m₁ news₁ h tk own, vs[i]? = some v → OwnOff own (news₁.map (·.1)) → J i m₁ news₁ → Fr h₀ env.locals h (fun y => if y = x then some v else m₁ y) → News h₀ env.locals h (news₁ ++ own) →
      wpAny (model prog w) A (execs body env) (InvPostG h₀ env.locals (J (i + 1)) own { s with heap := h, toks := tk } Q) E { s with heap := h, toks := tk })
    (done : ∀ m₁ news₁ h tk, J vs.length m₁ news₁ → Fr h₀ env.locals h m₁ → News h₀ env.locals h news₁ → Q .next { s with heap := h, toks := tk }) :
    wpAny (model prog w) A (pyIter (.ref l)) (fun it s₂ => LoopAtV prog w A h₀ env x body Q E it s₂) E s := by
  have hls : s.heap.IsList l vs.toArray := hl.at fun o e => F.keep l o e
  obtain ⟨ol, hol, _⟩ := id hl
  have hlt : l < h₀.objs.size := Heap.lt_size hol
  have hne : l ≠ s.heap.objs.size := Nat.ne_of_lt (Nat.lt_trans (Nat.lt_of_lt_of_le hlt F.above) F.ns.lt)
  refine wpAny_pyIter_list hls ?_
  have W := Walks.list (prog := prog) (w := w) hh s.heap.objs.size l hne vs.toArray
  have hlen : vs.toArray.size = vs.length := by simp
  rw [hlen] at W
  refine ⟨_, _, _, vs.length, _, _, m₀, news, J, rfl, W, ?_, ?_, ?_, ⟨⟨_, Heap.get?_push_size _ rfl, rfl, rfl⟩, hls.at fun o e => Heap.get?_push_of_some _ e⟩, F.push _, (fun p hp => ⟨Heap.get?_push_of_some _ (N p hp).1, (N p hp).2⟩), hj, ?_, ?_⟩
  · intro hm
    rcases List.mem_cons.mp hm with e | hm
    · exact absurd F.ns.lt (e ▸ Nat.lt_irrefl _)
    · exact absurd (Nat.lt_of_lt_of_le hlt F.above) ((List.mem_singleton.mp hm) ▸ Nat.lt_irrefl _)
  · intro b hb
    rw [List.mem_singleton.mp hb]
    exact next_is_new F
  · intro p hp hI
    exact absurd (Heap.lt_size (N p hp).1) ((List.mem_singleton.mp hI) ▸ Nat.lt_irrefl _)
  · rintro i v m₁ news₁ s₁ own ⟨hh', tk', rfl⟩ hin hP hJ hoff hown _ hfp hst F₁ N₁
    have hI0 : h₀.get? s.heap.objs.size = none := next_is_new F
    obtain ⟨⟨oI, hoI, _⟩, _⟩ := id hst
    have hIown : (s.heap.objs.size, oI) ∈ own := hfp _ (List.mem_cons.mpr (.inl rfl)) hI0 _ hoI
    have hsep : OwnOff own (news₁.map (·.1)) := by
      intro p hp b hb e
      obtain ⟨q, hq, rfl⟩ := List.mem_map.mp hb
      rcases List.mem_cons.mp (hown p hp) with h1 | h1
      · exact hoff q hq (List.mem_singleton.mpr (e ▸ h1))
      · have h2 := List.mem_singleton.mp h1
        have h3 := (N₁ q (List.mem_append.mpr (.inr hq))).2.2
        rw [← e, h2, hol] at h3
        cases h3
    have hP' : vs[i]? = some v := by simpa using hP
    have N₂ : News h₀ env.locals hh' (news₁ ++ own) := fun p hp => N₁ p ((List.mem_append.mp hp).elim (fun h => List.mem_append.mpr (.inr h)) fun h => List.mem_append.mpr (.inl h))
    refine wpAny_mono (turn i v m₁ news₁ hh' tk' own hP' hsep hJ F₁ N₂) (fun f s₂ p => ?_) fun _ _ e => e
    have fin : InvEndG h₀ env.locals (J (i + 1)) own { s with heap := hh', toks := tk' } s₂ → LoopStepU h₀ env.locals [s.heap.objs.size] own (J (i + 1)) { s with heap := hh', toks := tk' } .next s₂ := by
      rintro ⟨h', tk, m', news', nx, e, F', N', hn, ho, ha, hm⟩
      refine ⟨rfl, h', tk, m', nx, e, F', fun p hp => N' p ((List.mem_append.mp hp).elim (ho p) (hn p)), fun p hp hq => ?_, hm⟩
      exact ha _ hIown p.1 (List.mem_map.mpr ⟨p, hp, rfl⟩) (List.mem_singleton.mp hq).symm
    cases f with
    | ret v => exact .ret p
    | brk => exact .brk p
    | next => exact .next (fin p)
    | cont => exact .cont (fin p)
  · rintro h' tk m' news' F' N' _ hJ
    exact done m' news' h' tk hJ F' N'
def ddOf (ms : List Int) : List Int := ms.foldl (fun acc m => if m ∉ acc then acc ++ [m] else acc) []
theorem ddOf_step (ms : List Int) (i : Nat) (m : Int) (h : ms[i]? = some m) : ddOf (ms.take (i + 1)) = if m ∉ ddOf (ms.take i) then ddOf (ms.take i) ++ [m] else ddOf (ms.take i) := by
  unfold ddOf
  rw [List.take_add_one, h]; simp
inductive DdJ (hb : Heap) (l : Addr) (ms : List Int) (i : Nat) (m : Str → Option Value) (nx : List (Addr × Obj)) : Prop
  | mk (b : Addr) (us : List Value) (k : Nat) (hm : ∀ y, y ≠ Str.ofString "t" → m y = (fun y => if y = Str.ofString "new_unhashable" then some (.ref b) else List.lookup y [(Str.ofString "unhashable_params", .ref l)]) y)
    (hx : nx = [(b, listOf (List.toArray us) k)]) (hU : WdH hb us (ddOf (ms.take i))) (hl : us.length ≤ i) : DdJ hb l ms i m nx
theorem dedup_con {w : World} {dp un : Nat} {gd : Option (List Code)} {base : Heap} {outer : List Env} {mean : ExcName → Option Value} {mg mb : Str → Option Value} {s : Shared} {Q E : Value → Shared → Prop}
    {l : Addr} {vs : List Value} {ms : List Int} {hb : Heap}
    (C : Cx w (Ar dp un gd outer) s.heap base outer mean mg mb) (hdp : dp + 1 < recursionLimit) (hun : un + 100 < cLine)
    (hl : s.heap.IsList l vs.toArray) (hkb : Keeps hb s.heap) (hW : WdH hb vs ms) (hlen : vs.length ≤ 63)
    (ret : ∀ b us k h' tk', Keeps s.heap h' → h'.get? b = some (listOf (List.toArray us) k) → s.heap.get? b = none → WdH hb us (ddOf ms) → us.length ≤ vs.length → Q (.ref b) { s with heap := h', toks := tk' }) :
    wpAny (model PySem.Challenge.rw_qh0049_01.row.prog w) (Ar dp un gd outer) (call (.ref 28) [.ref l]) Q E s := by
  have KX := C.X
  revert KX
  k_fill
  intro KX
  have KT := C.T
  w_on
  refine' enterP (binds := [(Str.ofString "unhashable_params", .ref l)]) KX KT ?k6 ?k7 ?k8 ?k9 ?kB ?_ ?c2 ?c3 ?c4 ?c5
  (k_dflt ((case k6 => k_is); (case k7 => k_is); (case k8 => exact Nat.lt_of_le_of_lt (Nat.le_add_right _ _) hdp); (case k9 => first | exact BindsTo.of_eq rfl | exact binds_K (by assumption) rfl (by k_is) rfl rfl rfl); (case c5 => decide); (case kB => exact locs rfl); (case c2 => exact rfl); (case c3 => exact rfl); (case c4 => exact rfl)))
  intro Lf ev Ak m0 h1 F N
  (try k_fold)
  repeat ((fail_if_success (with_reducible show wpAny _ _ (exec (PySem.Stmt.For _ _ _ _ _) _) _ _ _)); ((try ((with_reducible show wpAny _ _ (execs _ _) _ _ _); k_gentoks)); (try ((with_reducible show wpAny _ _ (exec _ _) _ _ _); (with_reducible refine foldQ ?_); intro qx)); (first | (k_unfold; (try (first | refine wpI (P := wpAny _ _ _ _ _ ⟨_, s.gens, s.drawn, _, s.os⟩) ?_ | refine wpI (P := wpAny _ _ _ _ _ _) ?_)); (try dsimp only)) | (k_end; kc_close) | (with_reducible ((with_reducible show wpAny _ _ (compareOp PySem.CmpOp.NotIn (Value.ref _) (Value.ref _)) _ _ _); (k_dflt (refine' notInW ?wvq8 ?hlq8 ?hWq8 ?huq8 ?_; (case wvq8 => assumption); (case hlq8 => assumption); (case hWq8 => assumption); (case huq8 => ((first | exact room 1 hdp | exact room 2 hdp | exact room 3 hdp | exact room 4 hdp | exact room 8 hun | exact room 16 hun | exact room 24 hun | exact room 32 hun | exact room 64 hun | exact room 65 hun | exact room 2 hun | exact Nat.lt_of_le_of_lt (Nat.le_add_right _ _) hun | ((try dsimp +zetaDelta only [Ar, Around.deeper, Around.mark]); omega)))))))) | ((with_reducible show wpAny _ _ (call _ [Value.bytes _ _]) _ _ _); refine call_type_of (Tx := "bytes") rfl (by decide +kernel) ?_) | (with_reducible ((with_reducible show wpAny _ _ (storeName _ _ _) _ _ _); k_dflt (refine' storeM ?Fq7 ?Nq7 ?_ ?aq7 ?bq7; (case Fq7 => k_asm); (case Nq7 => k_asm); (case aq7 => rfl); (case bq7 => rfl); k_whole; intro m'q7 h'q7 F'q7 N'q7; (try k_sweep)))) | (with_reducible ((with_reducible show wpAny _ _ (eval (PySem.Expr.Name _ _) _) _ _ _); k_dflt (refine' nameX_L ?Fq7 ?vq7 ?_ ?aq7 ?bq7; (case Fq7 => k_asm); (case aq7 => rfl); (case bq7 => rfl); (case vq7 => exact Eq.refl (some _)); k_whole))) | ((with_reducible show InvEnd _ _ _ _ _ _); ((with_reducible rename Fr _ _ _ _ => kFq7); first | ((dsimp +zetaDelta only at kFq7); (try dsimp +zetaDelta only)) | dsimp +zetaDelta only)) | ((with_reducible show InvEndG _ _ _ _ _ _); ((with_reducible rename Fr _ _ _ _ => kFq7); first | ((dsimp +zetaDelta only at kFq7); (try dsimp +zetaDelta only)) | dsimp +zetaDelta only)) | walk1 | (dsimp only; walk1) | (leave1; (try dsimp only)) | fail "no step") <;> (repeat ((fail_if_success (fail_if_success ((generalize qx = zq); (with_reducible show zq _ _)))); k_unfold; (try clear qx); (try (first | refine wpI (P := wpAny _ _ _ _ _ ⟨_, s.gens, s.drawn, _, s.os⟩) ?_ | refine wpI (P := wpAny _ _ _ _ _ _) ?_)); (try dsimp only)))))
  refine For_invV s.heap (by rfl) (by rfl) ?_
  ((try ((with_reducible show wpAny _ _ (execs _ _) _ _ _); k_gentoks)); (try ((with_reducible show wpAny _ _ (exec _ _) _ _ _); (with_reducible refine foldQ ?_); intro qx)); (first | (k_unfold; (try (first | refine wpI (P := wpAny _ _ _ _ _ ⟨_, s.gens, s.drawn, _, s.os⟩) ?_ | refine wpI (P := wpAny _ _ _ _ _ _) ?_)); (try dsimp only)) | (k_end; kc_close) | (with_reducible ((with_reducible show wpAny _ _ (compareOp PySem.CmpOp.NotIn (Value.ref _) (Value.ref _)) _ _ _); (k_dflt (refine' notInW ?wvq8 ?hlq8 ?hWq8 ?huq8 ?_; (case wvq8 => assumption); (case hlq8 => assumption); (case hWq8 => assumption); (case huq8 => ((first | exact room 1 hdp | exact room 2 hdp | exact room 3 hdp | exact room 4 hdp | exact room 8 hun | exact room 16 hun | exact room 24 hun | exact room 32 hun | exact room 64 hun | exact room 65 hun | exact room 2 hun | exact Nat.lt_of_le_of_lt (Nat.le_add_right _ _) hun | ((try dsimp +zetaDelta only [Ar, Around.deeper, Around.mark]); omega)))))))) | ((with_reducible show wpAny _ _ (call _ [Value.bytes _ _]) _ _ _); refine call_type_of (Tx := "bytes") rfl (by decide +kernel) ?_) | (with_reducible ((with_reducible show wpAny _ _ (storeName _ _ _) _ _ _); k_dflt (refine' storeM ?Fq7 ?Nq7 ?_ ?aq7 ?bq7; (case Fq7 => k_asm); (case Nq7 => k_asm); (case aq7 => rfl); (case bq7 => rfl); k_whole; intro m'q7 h'q7 F'q7 N'q7; (try k_sweep)))) | (with_reducible ((with_reducible show wpAny _ _ (eval (PySem.Expr.Name _ _) _) _ _ _); k_dflt (refine' nameX_L ?Fq7 ?vq7 ?_ ?aq7 ?bq7; (case Fq7 => k_asm); (case aq7 => rfl); (case bq7 => rfl); (case vq7 => exact Eq.refl (some _)); k_whole))) | ((with_reducible show InvEnd _ _ _ _ _ _); ((with_reducible rename Fr _ _ _ _ => kFq7); first | ((dsimp +zetaDelta only at kFq7); (try dsimp +zetaDelta only)) | dsimp +zetaDelta only)) | ((with_reducible show InvEndG _ _ _ _ _ _); ((with_reducible rename Fr _ _ _ _ => kFq7); first | ((dsimp +zetaDelta only at kFq7); (try dsimp +zetaDelta only)) | dsimp +zetaDelta only)) | walk1 | (dsimp only; walk1) | (leave1; (try dsimp only)) | fail "no step") <;> (repeat ((fail_if_success (fail_if_success ((generalize qx = zq); (with_reducible show zq _ _)))); k_unfold; (try clear qx); (try (first | refine wpI (P := wpAny _ _ _ _ _ ⟨_, s.gens, s.drawn, _, s.os⟩) ?_ | refine wpI (P := wpAny _ _ _ _ _ _) ?_)); (try dsimp only))))
  rename Fr _ _ _ _ => F
  rename News _ _ _ _ => N
  refine iter_base (DdJ hb l ms) rfl hl F N ⟨_, [], 0, fun _ _ => rfl, rfl, .nil, Nat.zero_le _⟩ ?_ ?_
  · rintro i v m1 nx h tk own hv hoff ⟨b, us, k, hm, rfl, hU, hul⟩ F N
    rw [mapOff1 hm] at F
    obtain ⟨mm, hmi, hw⟩ := hW.get hv
    have hoff' : OwnOff own [b] := hoff
    have N : News s.heap Lf h ((b, listOf (List.toArray us) k) :: own) := N
    replace F : Fr s.heap Lf h _ := F
    have hi1 : i < vs.length := (List.getElem?_eq_some_iff.mp hv).1
    have hsz : us.toArray.size ≤ sizeLine := by rw [List.size_toArray, sizeLine_eq]; omega
    have hwv : IsW h v mm := (hw.keeps hkb).keeps F.keep
    have hlu : h.IsList b us.toArray := ⟨_, (N _ (.head _)).1, rfl, _, rfl⟩
    have hWu : WdH h us (ddOf (ms.take i)) := (hU.keeps hkb).keeps F.keep
    obtain ⟨av, xv, rfl, _⟩ := id hwv
    (repeat' ((try ((with_reducible show wpAny _ _ (execs _ _) _ _ _); k_gentoks)); (try ((with_reducible show wpAny _ _ (exec _ _) _ _ _); (with_reducible refine foldQ ?_); intro qx)); (first | (k_unfold; (try (first | refine wpI (P := wpAny _ _ _ _ _ ⟨_, s.gens, s.drawn, _, s.os⟩) ?_ | refine wpI (P := wpAny _ _ _ _ _ _) ?_)); (try dsimp only)) | (k_end; wrow_close) | (with_reducible ((with_reducible show wpAny _ _ (compareOp PySem.CmpOp.NotIn (Value.ref _) (Value.ref _)) _ _ _); (k_dflt (refine' notInW ?wvq8 ?hlq8 ?hWq8 ?huq8 ?_; (case wvq8 => assumption); (case hlq8 => assumption); (case hWq8 => assumption); (case huq8 => ((first | exact room 1 hdp | exact room 2 hdp | exact room 3 hdp | exact room 4 hdp | exact room 8 hun | exact room 16 hun | exact room 24 hun | exact room 32 hun | exact room 64 hun | exact room 65 hun | exact room 2 hun | exact Nat.lt_of_le_of_lt (Nat.le_add_right _ _) hun | ((try dsimp +zetaDelta only [Ar, Around.deeper, Around.mark]); omega)))))))) | ((with_reducible show wpAny _ _ (call _ [Value.bytes _ _]) _ _ _); refine call_type_of (Tx := "bytes") rfl (by decide +kernel) ?_) | (with_reducible ((with_reducible show wpAny _ _ (storeName _ _ _) _ _ _); k_dflt (refine' storeM ?Fq7 ?Nq7 ?_ ?aq7 ?bq7; (case Fq7 => k_asm); (case Nq7 => k_asm); (case aq7 => rfl); (case bq7 => rfl); k_whole; intro m'q7 h'q7 F'q7 N'q7; (try k_sweep)))) | (with_reducible ((with_reducible show wpAny _ _ (eval (PySem.Expr.Name _ _) _) _ _ _); k_dflt (refine' nameX_L ?Fq7 ?vq7 ?_ ?aq7 ?bq7; (case Fq7 => k_asm); (case aq7 => rfl); (case bq7 => rfl); (case vq7 => exact Eq.refl (some _)); k_whole))) | ((with_reducible show InvEnd _ _ _ _ _ _); ((with_reducible rename Fr _ _ _ _ => kFq7); first | ((dsimp +zetaDelta only at kFq7); (try dsimp +zetaDelta only)) | dsimp +zetaDelta only)) | ((with_reducible show InvEndG _ _ _ _ _ _); ((with_reducible rename Fr _ _ _ _ => kFq7); first | ((dsimp +zetaDelta only at kFq7); (try dsimp +zetaDelta only)) | dsimp +zetaDelta only)) | walk1 | (dsimp only; walk1) | (leave1; (try dsimp only)) | fail "no step") <;> (repeat ((fail_if_success (fail_if_success ((generalize qx = zq); (with_reducible show zq _ _)))); k_unfold; (try clear qx); (try (first | refine wpI (P := wpAny _ _ _ _ _ ⟨_, s.gens, s.drawn, _, s.os⟩) ?_ | refine wpI (P := wpAny _ _ _ _ _ _) ?_)); (try dsimp only)))))
    · refine' endG1 ?F ?N ?_ hoff'
      (case F => assumption)
      (case N => assumption)
      refine ⟨b, _, _, fun y h1 => by simp [h1], rfl, ?_, ?_⟩
      · rw [ddOf_step _ _ _ hmi, if_pos (by assumption)]
        exact hU.append (WdH.one hw)
      · simp; omega
    · refine' endG0 ?F ?N ?_ hoff'
      (case F => assumption)
      (case N => assumption)
      refine ⟨b, _, _, fun y h1 => by simp [h1], rfl, ?_, ?_⟩
      · rw [ddOf_step _ _ _ hmi, if_neg (by assumption)]
        exact hU
      · omega
  · rintro m1 nx h tk ⟨b, us, k, hm, rfl, hU, hul⟩ F N
    rw [mapOff1 hm] at F
    rw [hW.length, List.take_length] at hU
    repeat ((with_reducible show wpAny _ _ _ _ _ _); ((try ((with_reducible show wpAny _ _ (execs _ _) _ _ _); k_gentoks)); (try ((with_reducible show wpAny _ _ (exec _ _) _ _ _); (with_reducible refine foldQ ?_); intro qx)); (first | (k_unfold; (try (first | refine wpI (P := wpAny _ _ _ _ _ ⟨_, s.gens, s.drawn, _, s.os⟩) ?_ | refine wpI (P := wpAny _ _ _ _ _ _) ?_)); (try dsimp only)) | (k_end; kc_close) | (with_reducible ((with_reducible show wpAny _ _ (compareOp PySem.CmpOp.NotIn (Value.ref _) (Value.ref _)) _ _ _); (k_dflt (refine' notInW ?wvq8 ?hlq8 ?hWq8 ?huq8 ?_; (case wvq8 => assumption); (case hlq8 => assumption); (case hWq8 => assumption); (case huq8 => ((first | exact room 1 hdp | exact room 2 hdp | exact room 3 hdp | exact room 4 hdp | exact room 8 hun | exact room 16 hun | exact room 24 hun | exact room 32 hun | exact room 64 hun | exact room 65 hun | exact room 2 hun | exact Nat.lt_of_le_of_lt (Nat.le_add_right _ _) hun | ((try dsimp +zetaDelta only [Ar, Around.deeper, Around.mark]); omega)))))))) | ((with_reducible show wpAny _ _ (call _ [Value.bytes _ _]) _ _ _); refine call_type_of (Tx := "bytes") rfl (by decide +kernel) ?_) | (with_reducible ((with_reducible show wpAny _ _ (storeName _ _ _) _ _ _); k_dflt (refine' storeM ?Fq7 ?Nq7 ?_ ?aq7 ?bq7; (case Fq7 => k_asm); (case Nq7 => k_asm); (case aq7 => rfl); (case bq7 => rfl); k_whole; intro m'q7 h'q7 F'q7 N'q7; (try k_sweep)))) | (with_reducible ((with_reducible show wpAny _ _ (eval (PySem.Expr.Name _ _) _) _ _ _); k_dflt (refine' nameX_L ?Fq7 ?vq7 ?_ ?aq7 ?bq7; (case Fq7 => k_asm); (case aq7 => rfl); (case bq7 => rfl); (case vq7 => exact Eq.refl (some _)); k_whole))) | ((with_reducible show InvEnd _ _ _ _ _ _); ((with_reducible rename Fr _ _ _ _ => kFq7); first | ((dsimp +zetaDelta only at kFq7); (try dsimp +zetaDelta only)) | dsimp +zetaDelta only)) | ((with_reducible show InvEndG _ _ _ _ _ _); ((with_reducible rename Fr _ _ _ _ => kFq7); first | ((dsimp +zetaDelta only at kFq7); (try dsimp +zetaDelta only)) | dsimp +zetaDelta only)) | walk1 | (dsimp only; walk1) | (leave1; (try dsimp only)) | fail "no step") <;> (repeat ((fail_if_success (fail_if_success ((generalize qx = zq); (with_reducible show zq _ _)))); k_unfold; (try clear qx); (try (first | refine wpI (P := wpAny _ _ _ _ _ ⟨_, s.gens, s.drawn, _, s.os⟩) ?_ | refine wpI (P := wpAny _ _ _ _ _ _) ?_)); (try dsimp only)))))
    exact ret _ _ _ _ _ F.keep (N _ (.head _)).1 (N _ (.head _)).2.2 hU hul
end Mine
end
section
open PySem PySem.W PyProof.Rows PySem.SeqAt PySem.MeetsSeq PySem.Calls
open AutoSeq1 (wpAny_loadPart')
set_option maxRecDepth 100000
set_option maxHeartbeats 8000000
set_option linter.unusedVariables false
namespace Mine
theorem remove_loopAt (l : Addr) (items : Array Value) (n : Nat) (x : Value) (e : Value → Bool) (j : Nat) (hj : j < items.size) (hit : e items[j] = true) (k : Nat) (hs1 : items.size ≤ sizeLine) :
    ∀ i : Nat, j - i = k → i ≤ j → (∀ m (hm : m < items.size), i ≤ m → m < j → e items[m] = false) → Meets (Builtin.«list.remove.loop» ⟨[.ref l, x, rawInt i], []⟩)
      (fun A R s => s.heap.get? l = some { cls := .type "list", dict := none, data := .seq items n, slots := #[] } ∧ (∀ y, y ∈ items → EqAt A.in1 s y x (e y)) ∧ R (.ok (.ret .none)) { s with heap := s.heap.update l (Obj.mapSeq fun xs => xs.eraseIdxIfInBounds j) }) := by
  induction k with
  | zero =>
    intro i hk hij hno prog w A R s h
    obtain ⟨hp, g, d, tk, os⟩ := s; obtain ⟨hl, he, h⟩ := h
    have hij' : i = j := by omega
    subst hij'
    wp_walk using wpAny_loadPart' hl
    have hi : items[((i : Nat) : Int).toNat]? = some items[i] := by simp [hj]
    rw [hi]
    refine wpAny_bind (he _ (Array.getElem_mem hj) prog w _ _ ?_)
    rw [hit]
    have hz' : (items.eraseIdxIfInBounds i).size ≤ sizeLine + 1 := Nat.le_trans (size_erased items _) (Nat.le_succ_of_le hs1)
    wp_walk using (wpAny_updateSeq hl rfl (hz := hs1) (_hz' := hz')), wpAny_loadPart' hl
    simpa using h
  | succ k ih =>
    intro i hk hij hno prog w A R s h
    obtain ⟨hp, g, d, tk, os⟩ := s; obtain ⟨hl, he, h⟩ := h
    have hlt : i < items.size := by omega
    wp_walk using wpAny_loadPart' hl
    have hi : items[((i : Nat) : Int).toNat]? = some items[i] := by simp [hlt]
    have hc : ((i : Int) + 1) = ((i + 1 : Nat) : Int) := by push_cast; rfl
    rw [hi]
    refine wpAny_bind (he _ (Array.getElem_mem hlt) prog w _ _ ?_)
    rw [hno i hlt (Nat.le_refl _) (by omega)]
    wp_walk
    rw [hc]
    exact ⟨plainId_quiet plain_remove_loop _, codeAny_builtin entry_remove_loop (by
      rw [Around.under_plainId plain_remove_loop _]
      exact ih (i + 1) (by omega) (by omega) (fun m hm h1 h2 => hno m hm (by omega) h2) prog w A R _ ⟨hl, he, h⟩)⟩
theorem list_removeAt (l : Addr) (items : Array Value) (n : Nat) (x : Value) (e : Value → Bool) (j : Nat) (hj : j < items.size)
    (hit : e items[j] = true) (hno : ∀ m (hm : m < items.size), m < j → e items[m] = false) (hs1 : items.size ≤ sizeLine) :
    Meets (Builtin.«list.remove» ⟨[.ref l, x], []⟩)
      (fun A R s => s.heap.get? l = some { cls := .type "list", dict := none, data := .seq items n, slots := #[] } ∧ (∀ y, y ∈ items → EqAt A.in1 s y x (e y)) ∧ R (.ok (.ret .none)) { s with heap := s.heap.update l (Obj.mapSeq fun xs => xs.eraseIdxIfInBounds j) }) := by
  intro prog w A R s h
  obtain ⟨hp, g, d, tk, os⟩ := s; obtain ⟨hl, he, h⟩ := h
  wp_walk using wpAny_loadPart' hl
  exact ⟨plainId_quiet plain_remove_loop _, codeAny_builtin entry_remove_loop (by
    rw [Around.under_plainId plain_remove_loop _]
    exact remove_loopAt l items n x e j hj hit _ hs1 0 rfl (Nat.zero_le _) (fun m hm _ h2 => hno m hm h2) prog w A R _ ⟨hl, he, h⟩)⟩
theorem remove_loop_noneAt (l : Addr) (items : Array Value) (n : Nat) (x : Value) (e : Value → Bool) (hno : ∀ m (hm : m < items.size), e items[m] = false) (k : Nat) :
    ∀ i : Nat, items.size - i = k → Meets (Builtin.«list.remove.loop» ⟨[.ref l, x, rawInt i], []⟩)
      (fun A R s => s.heap.get? l = some { cls := .type "list", dict := none, data := .seq items n, slots := #[] } ∧ (∀ y, y ∈ items → EqAt A.in1 s y x (e y)) ∧ raisesNew "ValueError" A R s) := by
  induction k with
  | zero =>
    intro i hk prog w A R s h
    obtain ⟨hp, g, d, tk, os⟩ := s; obtain ⟨hl, he, h⟩ := h
    wp_walk using wpAny_loadPart' hl
    have hi : items[((i : Nat) : Int).toNat]? = none := by simp; omega
    rw [hi]
    wp_walk
    exact_raiseError plainExc_ValueError h.1 h.2
  | succ k ih =>
    intro i hk prog w A R s h
    obtain ⟨hp, g, d, tk, os⟩ := s; obtain ⟨hl, he, h⟩ := h
    have hlt : i < items.size := by omega
    wp_walk using wpAny_loadPart' hl
    have hi : items[((i : Nat) : Int).toNat]? = some items[i] := by simp [hlt]
    have hc : ((i : Int) + 1) = ((i + 1 : Nat) : Int) := by push_cast; rfl
    rw [hi]
    refine wpAny_bind (he _ (Array.getElem_mem hlt) prog w _ _ ?_)
    rw [hno i hlt]
    wp_walk
    rw [hc]
    exact ⟨plainId_quiet plain_remove_loop _, codeAny_builtin entry_remove_loop (by
      rw [Around.under_plainId plain_remove_loop _]
      exact ih (i + 1) (by omega) prog w A R _ ⟨hl, he, h⟩)⟩
theorem list_remove_noneAt (l : Addr) (items : Array Value) (n : Nat) (x : Value) (e : Value → Bool) (hno : ∀ m (hm : m < items.size), e items[m] = false) :
    Meets (Builtin.«list.remove» ⟨[.ref l, x], []⟩)
      (fun A R s => s.heap.get? l = some { cls := .type "list", dict := none, data := .seq items n, slots := #[] } ∧ (∀ y, y ∈ items → EqAt A.in1 s y x (e y)) ∧ raisesNew "ValueError" A R s) := by
  intro prog w A R s h
  obtain ⟨hp, g, d, tk, os⟩ := s; obtain ⟨hl, he, h⟩ := h
  wp_walk using wpAny_loadPart' hl
  exact ⟨plainId_quiet plain_remove_loop _, codeAny_builtin entry_remove_loop (by
    rw [Around.under_plainId plain_remove_loop _]
    exact remove_loop_noneAt l items n x e hno _ 0 rfl prog w A R _ ⟨hl, he, h⟩)⟩
section
variable {prog : Program} {w : World} {A : Around} {s : Shared} {E : Value → Shared → Prop} {Q : Value → Shared → Prop} {h₀ : Heap} {L D : Addr} {m : Str → Option Value} {news news' : List (Addr × Obj)}
theorem removeW {ts : List Value} {n : Nat} {x : Value} {tms : List Int} {mx : Int} (F : Fr h₀ L s.heap m) (N : News h₀ L s.heap ((D, listOf (List.toArray ts) n) :: news)) (hD : ∀ p ∈ news, p.1 ≠ D)
    (hW : WdH s.heap ts tms) (hx : IsW s.heap x mx) (hu : A.units + 65 < cLine) (hh : A.handled = none) (hz : ts.length ≤ sizeLine)
    (yes : mx ∈ tms → ∀ h', Fr h₀ L h' m → News h₀ L h' ((D, listOf (List.toArray (ts.eraseIdx (tms.idxOf mx))) (n + 1)) :: news) → Q .none { s with heap := h' })
    (no : mx ∉ tms → ∀ h' tk e, Heap.NewExc s.heap h' e "ValueError" → E (.ref e) { s with heap := h', toks := tk }) :
    wpAny (model prog w) A (call (.builtin "list.remove") [.ref D, x]) Q E s := by
  have z := N _ (.head _)
  have hs : ts.toArray.size = ts.length := by simp
  have heq : ∀ y, y ∈ ts.toArray → EqAt A.in1 s y x (eW s.heap mx y) := by
    intro y hy
    obtain ⟨m', _, wy⟩ := hW.mem (by simpa using hy)
    rw [eW_of wy]
    exact eqAtW wy hx (by show A.units + 1 + 64 < cLine; omega)
  have hat : ∀ i (hi : i < ts.toArray.size), ∃ m', tms[i]? = some m' ∧ eW s.heap mx ts.toArray[i] = decide (m' = mx) := by
    intro i hi
    obtain ⟨m', e, wy⟩ := hW.get (i := i) (v := ts.toArray[i]) (by simp)
    exact ⟨m', e, eW_of wy⟩
  by_cases hm : mx ∈ tms
  · have hj : tms.idxOf mx < tms.length := List.idxOf_lt_length_of_mem hm
    have hj' : tms.idxOf mx < ts.toArray.size := by rw [hs, hW.length]; exact hj
    refine call_meets PySem.F.slot_list_remove ⟨_, z.1, rfl⟩ PySem.F.entry_list_remove (PySem.F.args_list_remove_2 _ _)
      (list_removeAt D _ n x (eW s.heap mx) (tms.idxOf mx) hj' ?_ ?_ (by rw [hs]; exact hz)) ⟨z.1, ?_, yes hm _ (F.change (Heap.SameBut.update ..) z.2.1 z.2.2) ?_⟩
    · obtain ⟨m', e, q⟩ := hat _ hj'
      rw [q]
      have : tms[tms.idxOf mx] = mx := List.getElem_idxOf hj
      have e2 : m' = mx := by
        rw [List.getElem?_eq_getElem hj, this] at e
        exact (Option.some.inj e).symm
      simp [e2]
    · intro i hi hlt
      obtain ⟨m', e, q⟩ := hat _ hi
      rw [q]
      have e2 : m' ≠ mx := by
        intro e3
        subst e3
        have hi2 : i < tms.length := by rw [← hW.length, ← hs]; exact hi
        rw [List.getElem?_eq_getElem hi2] at e
        have e4 := Option.some.inj e
        have := List.not_of_lt_findIdx (p := (· == m')) (xs := tms) (i := i) hlt
        simp [e4] at this
      simp [e2]
    · exact heq
    · refine kl_turn (pre := []) _ N (fun _ hp => (nomatch hp)) hD ?_ ?_
      · apply Array.toList_inj.mp
        simp [Array.toList_eraseIdxIfInBounds]
      · rw [List.size_toArray, List.size_toArray, List.length_eraseIdx]
        rw [hs] at hj'
        rw [if_pos hj']
        omega
  · refine call_meets PySem.F.slot_list_remove ⟨_, z.1, rfl⟩ PySem.F.entry_list_remove (PySem.F.args_list_remove_2 _ _)
      (list_remove_noneAt D _ n x (eW s.heap mx) ?_) ⟨z.1, heq, hh, fun h' tk e he => no hm h' tk e he⟩
    intro i hi
    obtain ⟨m', e, q⟩ := hat _ hi
    rw [q]
    have : m' ≠ mx := fun e3 => hm (e3 ▸ List.mem_of_getElem? e)
    simp [this]
end
end Mine
end
section
open PySem PySem.W PyProof.Rows
set_option maxRecDepth 100000
set_option maxHeartbeats 8000000
set_option linter.unusedVariables false
namespace Mine
theorem hideNe {h : Heap} {a b : Addr} (e : b ≠ a) : (h.hide a).get? b = h.get? b := Heap.hide_ne h e
/-- a def of the text is entered, which may catch: the caller's frame object stands on the ledger -/
theorem enterT {K : Frag} {prog : Program} {w : World} {A : Around} {s : Shared} {p : Program} {loose : List Str} {mean : ExcName → Option Value} {mg mb : Str → Option Value} {name qual : Str} {params : Arguments} {body : List Stmt} {scope : Scope} {dV kV doc pm cdv ct oc : Value} {an od : Option Addr} {osl : Array (Option Value)} {f : Addr} {vs : List Value} {kw : List (Str × Value)} {binds : List (Str × Value)} {Q E : Value → Shared → Prop} {L : Addr} {oL : Obj}
    (hoL : s.heap.get? L = some oL)
    (X : K.In (s.heap.hide L)) (T : Top p loose mean mg mb (s.heap.hide L))
    (ho : K.lookup f = some ⟨oc, od, .func (fnOf name qual params body scope dV kV doc pm an cdv ct), osl⟩) (hcd : codeIn K cdv qual = true) (hroom : A.depth < recursionLimit)
    (hbind : BindsTo s (fnOf name qual params body scope dV kV doc pm an cdv ct) ⟨vs, kw⟩ binds) (hloc : ∀ y ∈ binds, scope.names.lookup y.1 = some .local)
    (h : ∀ Lf, let ev := envOf qual scope Lf f cdv; let Ak := A.deeper ev; let m0 := fun y => binds.reverse.lookup y; ∀ h₁, Fr (s.heap.hide L) Lf h₁ m0 → News (s.heap.hide L) Lf h₁ [(L, oL)] →
      wpAny (model prog w) Ak (execs body ev)
        (fun fl s' => Q (match fl with | .ret v => v | _ => .none) s') (fun _ _ => False)
        { s with heap := h₁, toks := s.toks + binds.length })
    (hco : scope.isCoroutine = false) (hgen : scope.isGenerator = false) (hk : scope.kind = .function)
    (hcell : ∀ x ∈ scope.names, x.2 ≠ .cell) : wpAny (model prog w) A (call (.ref f) vs kw) Q E s := by
  have kp : Keeps (s.heap.hide L) s.heap := fun b o e => Heap.of_hide e
  have X' := X.keeps kp
  refine wpAny_call ?_
  refine codeAny_call_def (fd := fnOf name qual params body scope dV kV doc pm an cdv ct) (body := body) (binds := binds) hroom (X' _ _ ho) rfl (T.nolimit.keeps kp) (codeRec_of X' hcd) rfl hbind hcell hloc (fun h₁ hns hk₁ => ?_) hco hgen hk
  refine wpAny_mono (h _ h₁ ⟨hns, fun b o e => hk₁ b o (kp b o e), Nat.le_of_eq (Heap.hide_size _ _)⟩ ?_) (fun _ _ x => x) (fun _ _ x => x.elim)
  intro q hq
  rw [List.mem_singleton.mp hq]
  exact ⟨hk₁ _ _ hoL, Nat.ne_of_lt (Heap.lt_size hoL), Heap.hide_self _ _⟩
/-- what a def that catches may lean on: its caller's frame -/
structure Tx (s : Shared) (L : Addr) (oL : Obj) (envL : Env) : Prop where
  here : s.heap.get? L = some oL
  dict : ∃ es ep, oL.data = .dict es ep
  frame : envL.frame = some L
  kind : envL.scope.kind ≠ .module
theorem Tx.frs {s : Shared} {L : Addr} {oL : Obj} {envL : Env} (t : Tx s L oL envL) (sl : Array (Option Value)) : TI.Frs [envL] [(L, { oL with slots := sl })] := ⟨t.kind, t.frame, t.dict, trivial⟩
/-- an exception just raised is noted, landed and taken by the first clause -/
theorem caughtT {prog : Program} {w : World} {A₀ : Around} {E : Value → Shared → Prop} {s s' : Shared} {hb h : Heap} {L' L a e : Addr} {oL : Obj} {envL : Env} {m : Str → Option Value} {name : Str} {scope : Scope} {cd : Value} {new : List (Addr × Obj)} {sl : Array (Option Value)}
    {b₀ : Stmt} {suite : List Stmt} {pos np : Pos} {rest : List ExceptHandler} {Q : Flow → Shared → Prop} {X : String} {x : Str} {p : Program} {loose : List Str} {mean : ExcName → Option Value} {mg mb : Str → Option Value}
    (t : Tx s L oL envL) (hfr : A₀.frames = some [envL]) (hx : Heap.NewExc h s'.heap e X) (F : Fr hb L' h m) (N : News hb L' h (new ++ [(L, { oL with slots := sl })])) (hnd : new.all TI.notDict = true) (T : Top p loose mean mg mb hb)
    (k : ∀ h' sl', Fr hb L' h' m → News hb L' h' (new ++ [(L, { oL with slots := sl' })]) → wpAny (model prog w) ((A₀.deeper (envOf name scope L' a cd)).mark (some (.ref e))) (execs (b₀ :: suite) (envOf name scope L' a cd)) Q E { s' with heap := h' })
    (t1 : x ∉ startupNames := by decide +kernel) (t2 : x ∉ loose := by decide +kernel) (t3 : x ∉ (recsOf p).map (·.name) := by decide +kernel) (t4 : x ∉ (litsOf p).map (·.1) := by decide +kernel) (t5 : x ∉ (clssOf p loose).map (·.name) := by decide +kernel)
    (h3 : subB X (.type x.toString) = some true := by decide +kernel) (hv : bootBuiltins x = some (.type x.toString) := by decide +kernel) (h1 : subB x.toString (.type "BaseException") = some true := by decide +kernel)
    (h2 : subB ((Manifest.find? x.toString).elim "type" fun y => y.metatype) (.type "tuple") = some false := by decide +kernel) (hn : x ≠ "__name__" := by decide)
    (hk : scope.kind = .function := by rfl) (hxk : (envOf name scope L' a cd).kindOf x = some .globalImplicit := by rfl) (hdb : (x == ("__debug__" : Str)) = false := by decide)
    (hE : PassesOwnAt (model prog w) ((A₀.deeper (envOf name scope L' a cd)).mark (some (.ref e))) (A₀.deeper (envOf name scope L' a cd)) (envOf name scope L' a cd) E := by passes_own) :
    wpAny (model prog w) (A₀.deeper (envOf name scope L' a cd)) (noteFrame (.ref e) (envOf name scope L' a cd))
      (fun _ s₂ => wpAny (model prog w) (A₀.deeper (envOf name scope L' a cd)) (setFlight (.ref e) none) (fun _ s₃ =>
        wpAny (model prog w) (A₀.deeper (envOf name scope L' a cd)) (handleBy (.ref e) (envOf name scope L' a cd) (.ExceptHandler (some (.Name x np)) none (b₀ :: suite) pos :: rest)) Q E s₃) E s₂) E s' := by
  refine TI.noted_newT hfr (t.frs sl) hx F N hnd (fun h' frs' su fr' H => ?_) hk
  refine TT.HeldNA.land H fun h2' H2 => ?_
  obtain ⟨q, rfl⟩ : ∃ q, frs' = [q] := by
    cases frs' with
    | nil => exact su.elim
    | cons q r => cases r with
      | nil => exact ⟨q, rfl⟩
      | cons _ _ => exact su.2.2.elim
  obtain ⟨e1, ⟨sl', e2⟩, _⟩ := su
  have e3 : q = (L, { oL with slots := sl' }) := Prod.ext e1 e2
  subst e3
  exact TT.clause_hitTN H2 T t1 t2 t3 t4 t5 (fun h3' F3 N3 => k h3' sl' F3 N3) h3 hv h1 h2 hn hk hxk hdb hE
end Mine
end
section
open PySem PySem.W PyProof.Rows
set_option maxRecDepth 100000
set_option maxHeartbeats 8000000
set_option linter.unusedVariables false
namespace Mine
def rmOne (m : Int) (t : List Int) : Option (List Int) := if m ∈ t then some (t.eraseIdx (t.idxOf m)) else none
def remAll (ms t : List Int) : Option (List Int) := ms.foldl (fun acc m => acc.bind (rmOne m)) (some t)
def cmpOf (m1 m2 : List Int) : Bool := decide (remAll (ddOf m1) (ddOf m2) = some [])
theorem remAll_step (ms t : List Int) (i : Nat) (m : Int) (h : ms[i]? = some m) : remAll (ms.take (i + 1)) t = (remAll (ms.take i) t).bind (rmOne m) := by
  unfold remAll
  rw [List.take_add_one, h]; simp
theorem remAll_none (ms t : List Int) (i : Nat) (h : remAll (ms.take i) t = none) : remAll ms t = none := by
  have e : ms = ms.take i ++ ms.drop i := (List.take_append_drop i ms).symm
  unfold remAll at *
  rw [e, List.foldl_append, h]
  generalize ms.drop i = r
  induction r with
  | nil => rfl
  | cons x r ih => simpa using ih
theorem mapOn1 {m : Str → Option Value} {a : Str} {v : Option Value} (h : m a = v) : m = fun y => if y = a then v else m y := by
  funext y
  by_cases e : y = a
  · subst e; simp [h]
  · simp [e]
inductive CmpJ (hp : Heap) (b1 L : Addr) (u1 : List Value) (k1 : Nat) (oL : Obj) (m1 m2 : List Int) (i : Nat) (m : Str → Option Value) (nx : List (Addr × Obj)) : Prop
  | mk (d : Addr) (ts : List Value) (kt : Nat) (T : List (Addr × Obj)) (tms : List Int) (hm : m (Str.ofString "t") = some (.ref d)) (hx : nx = (d, listOf (List.toArray ts) kt) :: T) (hT : ∀ p ∈ T, p.1 ≠ d)
    (hb : (b1, listOf (List.toArray u1) k1) ∈ T) (hL : (L, oL) ∈ T) (hr : remAll ((ddOf m1).take i) (ddOf m2) = some tms) (hW : WdH hp ts tms) (hl : ts.length ≤ 63) : CmpJ hp b1 L u1 k1 oL m1 m2 i m nx
theorem compare_con {w : World} {dp un : Nat} {gd : Option (List Code)} {base : Heap} {mean : ExcName → Option Value} {mg mb : Str → Option Value} {s : Shared} {Q E : Value → Shared → Prop} {L : Addr} {oL : Obj} {envL : Env}
    {l1 l2 : Addr} {v1 v2 : List Value} {m1 m2 : List Int}
    (C : Cx w (Ar dp un gd [envL]) (s.heap.hide L) base [envL] mean mg mb) (tx : Tx s L oL envL) (hdp : dp + 2 < recursionLimit) (hun : un + 300 < cLine)
    (hl1 : (s.heap.hide L).IsList l1 v1.toArray) (hW1 : WdH (s.heap.hide L) v1 m1) (hlen1 : v1.length ≤ 63) (hl2 : (s.heap.hide L).IsList l2 v2.toArray) (hW2 : WdH (s.heap.hide L) v2 m2) (hlen2 : v2.length ≤ 63)
    (ret : ∀ h' tk' sl, Keeps (s.heap.hide L) h' → h'.get? L = some { oL with slots := sl } → Q (.bool (cmpOf m1 m2)) { s with heap := h', toks := tk' }) :
    wpAny (model PySem.Challenge.rw_qh0049_01.row.prog w) (Ar dp un gd [envL]) (call (.ref 35) [.ref l1, .ref l2]) Q E s := by
  have KX := C.X
  revert KX
  k_fill
  intro KX
  have KT := C.T
  w_on
  refine' enterT (binds := [(Str.ofString "first_args", .ref l1), (Str.ofString "second_args", .ref l2)]) tx.here KX KT ?k6 ?k7 ?k8 ?k9 ?kB ?_ ?c2 ?c3 ?c4 ?c5
  (k_dflt ((case k6 => k_is); (case k7 => k_is); (case k8 => exact Nat.lt_of_le_of_lt (Nat.le_add_right _ _) hdp); (case k9 => first | exact BindsTo.of_eq rfl | exact binds_K (by assumption) rfl (by k_is) rfl rfl rfl); (case c5 => decide); (case kB => exact locs rfl); (case c2 => exact rfl); (case c3 => exact rfl); (case c4 => exact rfl)))
  intro Lf ev Ak m0 h1 F N
  (try k_fold)
  repeat ((fail_if_success (with_reducible show wpAny _ _ (storeName _ _ _) _ _ _)); ((try ((with_reducible show wpAny _ _ (execs _ _) _ _ _); k_gentoks)); (try ((with_reducible show wpAny _ _ (exec _ _) _ _ _); (with_reducible refine foldQ ?_); intro qx)); (first | (k_unfold; (try (first | refine wpI (P := wpAny _ _ _ _ _ ⟨_, s.gens, s.drawn, _, s.os⟩) ?_ | refine wpI (P := wpAny _ _ _ _ _ _) ?_)); (try dsimp only)) | (k_end; kc_close) | (with_reducible ((with_reducible show wpAny _ _ (call (Value.ref 28) [Value.ref _]) _ _ _); (with_reducible rename Fr _ _ _ _ => kFq9); (with_reducible rename News _ _ _ _ => kNq9); k_dflt (refine' dedup_con (Cx.push (by assumption) kFq9 rfl) ?kdq8 ?kuq8 ?klq8 kFq9.keep ?kwq8 ?kzq8 ?_; (case kdq8 => (first | exact room 1 hdp | exact room 2 hdp | exact room 3 hdp | exact room 4 hdp | exact room 8 hun | exact room 16 hun | exact room 24 hun | exact room 32 hun | exact room 64 hun | exact room 65 hun | exact room 2 hun | exact Nat.lt_of_le_of_lt (Nat.le_add_right _ _) hun | ((try dsimp +zetaDelta only [Ar, Around.deeper, Around.mark]); omega))); (case kuq8 => (first | exact room 1 hdp | exact room 2 hdp | exact room 3 hdp | exact room 4 hdp | exact room 8 hun | exact room 16 hun | exact room 24 hun | exact room 32 hun | exact room 64 hun | exact room 65 hun | exact room 2 hun | exact Nat.lt_of_le_of_lt (Nat.le_add_right _ _) hun | ((try dsimp +zetaDelta only [Ar, Around.deeper, Around.mark]); omega))); (case klq8 => exact Fr.lst kFq9 (by assumption)); (case kwq8 => assumption); (case kzq8 => assumption)); intro bD uD kD h' tk' hk' hg' hn' wD lD; (have F'q9 := Fr.after kFq9 hk'); (have N'q9 := newsMore kFq9 kNq9 hk' hg' hn'); (have nD := newsNe kNq9 hn'); clear hk' hg' hn'; clear kNq9 kFq9; (try dsimp only); (try k_fold))) | ((with_reducible show wpAny _ _ (call _ [Value.bytes _ _]) _ _ _); refine call_type_of (Tx := "bytes") rfl (by decide +kernel) ?_) | (with_reducible ((with_reducible show wpAny _ _ (storeName _ _ _) _ _ _); k_dflt (refine' storeM ?Fq7 ?Nq7 ?_ ?aq7 ?bq7; (case Fq7 => k_asm); (case Nq7 => k_asm); (case aq7 => rfl); (case bq7 => rfl); k_whole; intro m'q7 h'q7 F'q7 N'q7; (try k_sweep)))) | (with_reducible ((with_reducible show wpAny _ _ (eval (PySem.Expr.Name _ _) _) _ _ _); k_dflt (refine' nameX_L ?Fq7 ?vq7 ?_ ?aq7 ?bq7; (case Fq7 => k_asm); (case aq7 => rfl); (case bq7 => rfl); (case vq7 => exact Eq.refl (some _)); k_whole))) | ((with_reducible show InvEnd _ _ _ _ _ _); ((with_reducible rename Fr _ _ _ _ => kFq7); first | ((dsimp +zetaDelta only at kFq7); (try dsimp +zetaDelta only)) | dsimp +zetaDelta only)) | ((with_reducible show InvEndG _ _ _ _ _ _); ((with_reducible rename Fr _ _ _ _ => kFq7); first | ((dsimp +zetaDelta only at kFq7); (try dsimp +zetaDelta only)) | dsimp +zetaDelta only)) | walk1 | (dsimp only; walk1) | (leave1; (try dsimp only)) | fail "no step") <;> (repeat ((fail_if_success (fail_if_success ((generalize qx = zq); (with_reducible show zq _ _)))); k_unfold; (try clear qx); (try (first | refine wpI (P := wpAny _ _ _ _ _ ⟨_, s.gens, s.drawn, _, s.os⟩) ?_ | refine wpI (P := wpAny _ _ _ _ _ _) ?_)); (try dsimp only)))))
  have w1 := wD
  have z1 := lD
  obtain ⟨b1, u1, k1, e1, e2, e3⟩ : ∃ b u k, b = bD ∧ u = uD ∧ k = kD := ⟨_, _, _, rfl, rfl, rfl⟩
  subst e1 e2 e3
  repeat ((fail_if_success (with_reducible show wpAny _ _ (exec (PySem.Stmt.For _ _ _ _ _) _) _ _ _)); ((try ((with_reducible show wpAny _ _ (execs _ _) _ _ _); k_gentoks)); (try ((with_reducible show wpAny _ _ (exec _ _) _ _ _); (with_reducible refine foldQ ?_); intro qx)); (first | (k_unfold; (try (first | refine wpI (P := wpAny _ _ _ _ _ ⟨_, s.gens, s.drawn, _, s.os⟩) ?_ | refine wpI (P := wpAny _ _ _ _ _ _) ?_)); (try dsimp only)) | (k_end; kc_close) | (with_reducible ((with_reducible show wpAny _ _ (call (Value.ref 28) [Value.ref _]) _ _ _); (with_reducible rename Fr _ _ _ _ => kFq9); (with_reducible rename News _ _ _ _ => kNq9); k_dflt (refine' dedup_con (Cx.push (by assumption) kFq9 rfl) ?kdq8 ?kuq8 ?klq8 kFq9.keep ?kwq8 ?kzq8 ?_; (case kdq8 => (first | exact room 1 hdp | exact room 2 hdp | exact room 3 hdp | exact room 4 hdp | exact room 8 hun | exact room 16 hun | exact room 24 hun | exact room 32 hun | exact room 64 hun | exact room 65 hun | exact room 2 hun | exact Nat.lt_of_le_of_lt (Nat.le_add_right _ _) hun | ((try dsimp +zetaDelta only [Ar, Around.deeper, Around.mark]); omega))); (case kuq8 => (first | exact room 1 hdp | exact room 2 hdp | exact room 3 hdp | exact room 4 hdp | exact room 8 hun | exact room 16 hun | exact room 24 hun | exact room 32 hun | exact room 64 hun | exact room 65 hun | exact room 2 hun | exact Nat.lt_of_le_of_lt (Nat.le_add_right _ _) hun | ((try dsimp +zetaDelta only [Ar, Around.deeper, Around.mark]); omega))); (case klq8 => exact Fr.lst kFq9 (by assumption)); (case kwq8 => assumption); (case kzq8 => assumption)); intro bD uD kD h' tk' hk' hg' hn' wD lD; (have F'q9 := Fr.after kFq9 hk'); (have N'q9 := newsMore kFq9 kNq9 hk' hg' hn'); (have nD := newsNe kNq9 hn'); clear hk' hg' hn'; clear kNq9 kFq9; (try dsimp only); (try k_fold))) | ((with_reducible show wpAny _ _ (call _ [Value.bytes _ _]) _ _ _); refine call_type_of (Tx := "bytes") rfl (by decide +kernel) ?_) | (with_reducible ((with_reducible show wpAny _ _ (storeName _ _ _) _ _ _); k_dflt (refine' storeM ?Fq7 ?Nq7 ?_ ?aq7 ?bq7; (case Fq7 => k_asm); (case Nq7 => k_asm); (case aq7 => rfl); (case bq7 => rfl); k_whole; intro m'q7 h'q7 F'q7 N'q7; (try k_sweep)))) | (with_reducible ((with_reducible show wpAny _ _ (eval (PySem.Expr.Name _ _) _) _ _ _); k_dflt (refine' nameX_L ?Fq7 ?vq7 ?_ ?aq7 ?bq7; (case Fq7 => k_asm); (case aq7 => rfl); (case bq7 => rfl); (case vq7 => exact Eq.refl (some _)); k_whole))) | ((with_reducible show InvEnd _ _ _ _ _ _); ((with_reducible rename Fr _ _ _ _ => kFq7); first | ((dsimp +zetaDelta only at kFq7); (try dsimp +zetaDelta only)) | dsimp +zetaDelta only)) | ((with_reducible show InvEndG _ _ _ _ _ _); ((with_reducible rename Fr _ _ _ _ => kFq7); first | ((dsimp +zetaDelta only at kFq7); (try dsimp +zetaDelta only)) | dsimp +zetaDelta only)) | walk1 | (dsimp only; walk1) | (leave1; (try dsimp only)) | fail "no step") <;> (repeat ((fail_if_success (fail_if_success ((generalize qx = zq); (with_reducible show zq _ _)))); k_unfold; (try clear qx); (try (first | refine wpI (P := wpAny _ _ _ _ _ ⟨_, s.gens, s.drawn, _, s.os⟩) ?_ | refine wpI (P := wpAny _ _ _ _ _ _) ?_)); (try dsimp only)))))
  have w2 := wD
  have z2 := lD
  refine For_invV (s.heap.hide L) (by rfl) (by rfl) ?_
  ((try ((with_reducible show wpAny _ _ (execs _ _) _ _ _); k_gentoks)); (try ((with_reducible show wpAny _ _ (exec _ _) _ _ _); (with_reducible refine foldQ ?_); intro qx)); (first | (k_unfold; (try (first | refine wpI (P := wpAny _ _ _ _ _ ⟨_, s.gens, s.drawn, _, s.os⟩) ?_ | refine wpI (P := wpAny _ _ _ _ _ _) ?_)); (try dsimp only)) | (k_end; kc_close) | (with_reducible ((with_reducible show wpAny _ _ (call (Value.ref 28) [Value.ref _]) _ _ _); (with_reducible rename Fr _ _ _ _ => kFq9); (with_reducible rename News _ _ _ _ => kNq9); k_dflt (refine' dedup_con (Cx.push (by assumption) kFq9 rfl) ?kdq8 ?kuq8 ?klq8 kFq9.keep ?kwq8 ?kzq8 ?_; (case kdq8 => (first | exact room 1 hdp | exact room 2 hdp | exact room 3 hdp | exact room 4 hdp | exact room 8 hun | exact room 16 hun | exact room 24 hun | exact room 32 hun | exact room 64 hun | exact room 65 hun | exact room 2 hun | exact Nat.lt_of_le_of_lt (Nat.le_add_right _ _) hun | ((try dsimp +zetaDelta only [Ar, Around.deeper, Around.mark]); omega))); (case kuq8 => (first | exact room 1 hdp | exact room 2 hdp | exact room 3 hdp | exact room 4 hdp | exact room 8 hun | exact room 16 hun | exact room 24 hun | exact room 32 hun | exact room 64 hun | exact room 65 hun | exact room 2 hun | exact Nat.lt_of_le_of_lt (Nat.le_add_right _ _) hun | ((try dsimp +zetaDelta only [Ar, Around.deeper, Around.mark]); omega))); (case klq8 => exact Fr.lst kFq9 (by assumption)); (case kwq8 => assumption); (case kzq8 => assumption)); intro bD uD kD h' tk' hk' hg' hn' wD lD; (have F'q9 := Fr.after kFq9 hk'); (have N'q9 := newsMore kFq9 kNq9 hk' hg' hn'); (have nD := newsNe kNq9 hn'); clear hk' hg' hn'; clear kNq9 kFq9; (try dsimp only); (try k_fold))) | ((with_reducible show wpAny _ _ (call _ [Value.bytes _ _]) _ _ _); refine call_type_of (Tx := "bytes") rfl (by decide +kernel) ?_) | (with_reducible ((with_reducible show wpAny _ _ (storeName _ _ _) _ _ _); k_dflt (refine' storeM ?Fq7 ?Nq7 ?_ ?aq7 ?bq7; (case Fq7 => k_asm); (case Nq7 => k_asm); (case aq7 => rfl); (case bq7 => rfl); k_whole; intro m'q7 h'q7 F'q7 N'q7; (try k_sweep)))) | (with_reducible ((with_reducible show wpAny _ _ (eval (PySem.Expr.Name _ _) _) _ _ _); k_dflt (refine' nameX_L ?Fq7 ?vq7 ?_ ?aq7 ?bq7; (case Fq7 => k_asm); (case aq7 => rfl); (case bq7 => rfl); (case vq7 => exact Eq.refl (some _)); k_whole))) | ((with_reducible show InvEnd _ _ _ _ _ _); ((with_reducible rename Fr _ _ _ _ => kFq7); first | ((dsimp +zetaDelta only at kFq7); (try dsimp +zetaDelta only)) | dsimp +zetaDelta only)) | ((with_reducible show InvEndG _ _ _ _ _ _); ((with_reducible rename Fr _ _ _ _ => kFq7); first | ((dsimp +zetaDelta only at kFq7); (try dsimp +zetaDelta only)) | dsimp +zetaDelta only)) | walk1 | (dsimp only; walk1) | (leave1; (try dsimp only)) | fail "no step") <;> (repeat ((fail_if_success (fail_if_success ((generalize qx = zq); (with_reducible show zq _ _)))); k_unfold; (try clear qx); (try (first | refine wpI (P := wpAny _ _ _ _ _ ⟨_, s.gens, s.drawn, _, s.os⟩) ?_ | refine wpI (P := wpAny _ _ _ _ _ _) ?_)); (try dsimp only))))
  rename Fr _ _ _ _ => F
  rename News _ _ _ _ => N
  rename _ ∧ _ => q1
  refine kdl_iter (CmpJ (s.heap.hide L) b1 L u1 k1 oL m1 m2) rfl (by k_mem) F N ⟨_, _, _, _, _, rfl, rfl, ?T, by k_mem, by k_mem, rfl, w2, ?len⟩ ?turn ?done
  case T =>
    intro p hp
    rcases List.mem_cons.mp hp with rfl | hp
    · exact Nat.ne_of_lt q1.1
    · rcases List.mem_cons.mp hp with rfl | hp
      · exact Nat.ne_of_lt q1.2.1
      · rw [List.mem_singleton.mp hp]
        exact Nat.ne_of_lt q1.2.2
  case len => omega
  case turn =>
    rintro i v m9 nx h tk own hv hoff hmem ⟨d, ts, kt, T, tms, hmt, rfl, hT, hb1, hLT, hrem, hts, htl⟩ F N
    obtain ⟨mm, hmi, hw⟩ := w1.get hv
    rw [mapOn1 hmt] at F
    have N : News (s.heap.hide L) Lf h ((d, listOf (List.toArray ts) kt) :: (T ++ own)) := N
    replace F : Fr (s.heap.hide L) Lf h _ := F
    have hTo : ∀ p ∈ T ++ own, p.1 ≠ d := by
      intro p hp
      rcases List.mem_append.mp hp with hp | hp
      · exact hT p hp
      · exact fun e => hoff p hp d (.head _) e
    repeat ((fail_if_success (with_reducible show wpAny _ _ (call (Value.builtin _) _) _ _ _)); ((try ((with_reducible show wpAny _ _ (execs _ _) _ _ _); k_gentoks)); (try ((with_reducible show wpAny _ _ (exec _ _) _ _ _); (with_reducible refine foldQ ?_); intro qx)); (first | (k_unfold; (try (first | refine wpI (P := wpAny _ _ _ _ _ ⟨_, s.gens, s.drawn, _, s.os⟩) ?_ | refine wpI (P := wpAny _ _ _ _ _ _) ?_)); (try dsimp only)) | (k_end; kc_close) | (with_reducible ((with_reducible show wpAny _ _ (call (Value.ref 28) [Value.ref _]) _ _ _); (with_reducible rename Fr _ _ _ _ => kFq9); (with_reducible rename News _ _ _ _ => kNq9); k_dflt (refine' dedup_con (Cx.push (by assumption) kFq9 rfl) ?kdq8 ?kuq8 ?klq8 kFq9.keep ?kwq8 ?kzq8 ?_; (case kdq8 => (first | exact room 1 hdp | exact room 2 hdp | exact room 3 hdp | exact room 4 hdp | exact room 8 hun | exact room 16 hun | exact room 24 hun | exact room 32 hun | exact room 64 hun | exact room 65 hun | exact room 2 hun | exact Nat.lt_of_le_of_lt (Nat.le_add_right _ _) hun | ((try dsimp +zetaDelta only [Ar, Around.deeper, Around.mark]); omega))); (case kuq8 => (first | exact room 1 hdp | exact room 2 hdp | exact room 3 hdp | exact room 4 hdp | exact room 8 hun | exact room 16 hun | exact room 24 hun | exact room 32 hun | exact room 64 hun | exact room 65 hun | exact room 2 hun | exact Nat.lt_of_le_of_lt (Nat.le_add_right _ _) hun | ((try dsimp +zetaDelta only [Ar, Around.deeper, Around.mark]); omega))); (case klq8 => exact Fr.lst kFq9 (by assumption)); (case kwq8 => assumption); (case kzq8 => assumption)); intro bD uD kD h' tk' hk' hg' hn' wD lD; (have F'q9 := Fr.after kFq9 hk'); (have N'q9 := newsMore kFq9 kNq9 hk' hg' hn'); (have nD := newsNe kNq9 hn'); clear hk' hg' hn'; clear kNq9 kFq9; (try dsimp only); (try k_fold))) | ((with_reducible show wpAny _ _ (call _ [Value.bytes _ _]) _ _ _); refine call_type_of (Tx := "bytes") rfl (by decide +kernel) ?_) | (with_reducible ((with_reducible show wpAny _ _ (storeName _ _ _) _ _ _); k_dflt (refine' storeM ?Fq7 ?Nq7 ?_ ?aq7 ?bq7; (case Fq7 => k_asm); (case Nq7 => k_asm); (case aq7 => rfl); (case bq7 => rfl); k_whole; intro m'q7 h'q7 F'q7 N'q7; (try k_sweep)))) | (with_reducible ((with_reducible show wpAny _ _ (eval (PySem.Expr.Name _ _) _) _ _ _); k_dflt (refine' nameX_L ?Fq7 ?vq7 ?_ ?aq7 ?bq7; (case Fq7 => k_asm); (case aq7 => rfl); (case bq7 => rfl); (case vq7 => exact Eq.refl (some _)); k_whole))) | ((with_reducible show InvEnd _ _ _ _ _ _); ((with_reducible rename Fr _ _ _ _ => kFq7); first | ((dsimp +zetaDelta only at kFq7); (try dsimp +zetaDelta only)) | dsimp +zetaDelta only)) | ((with_reducible show InvEndG _ _ _ _ _ _); ((with_reducible rename Fr _ _ _ _ => kFq7); first | ((dsimp +zetaDelta only at kFq7); (try dsimp +zetaDelta only)) | dsimp +zetaDelta only)) | walk1 | (dsimp only; walk1) | (leave1; (try dsimp only)) | fail "no step") <;> (repeat ((fail_if_success (fail_if_success ((generalize qx = zq); (with_reducible show zq _ _)))); k_unfold; (try clear qx); (try (first | refine wpI (P := wpAny _ _ _ _ _ ⟨_, s.gens, s.drawn, _, s.os⟩) ?_ | refine wpI (P := wpAny _ _ _ _ _ _) ?_)); (try dsimp only)))))
    refine removeW F N hTo (hts.keeps F.keep) (hw.keeps F.keep) (by (first | exact room 1 hdp | exact room 2 hdp | exact room 3 hdp | exact room 4 hdp | exact room 8 hun | exact room 16 hun | exact room 24 hun | exact room 32 hun | exact room 64 hun | exact room 65 hun | exact room 2 hun | exact Nat.lt_of_le_of_lt (Nat.le_add_right _ _) hun | ((try dsimp +zetaDelta only [Ar, Around.deeper, Around.mark]); omega))) rfl (by rw [sizeLine_eq]; omega) ?yes ?no
    case yes =>
      intro hmm h3 F3 N3
      (repeat' ((try ((with_reducible show wpAny _ _ (execs _ _) _ _ _); k_gentoks)); (try ((with_reducible show wpAny _ _ (exec _ _) _ _ _); (with_reducible refine foldQ ?_); intro qx)); (first | (k_unfold; (try (first | refine wpI (P := wpAny _ _ _ _ _ ⟨_, s.gens, s.drawn, _, s.os⟩) ?_ | refine wpI (P := wpAny _ _ _ _ _ _) ?_)); (try dsimp only)) | (k_end; wrow_close) | (with_reducible ((with_reducible show wpAny _ _ (call (Value.ref 28) [Value.ref _]) _ _ _); (with_reducible rename Fr _ _ _ _ => kFq9); (with_reducible rename News _ _ _ _ => kNq9); k_dflt (refine' dedup_con (Cx.push (by assumption) kFq9 rfl) ?kdq8 ?kuq8 ?klq8 kFq9.keep ?kwq8 ?kzq8 ?_; (case kdq8 => (first | exact room 1 hdp | exact room 2 hdp | exact room 3 hdp | exact room 4 hdp | exact room 8 hun | exact room 16 hun | exact room 24 hun | exact room 32 hun | exact room 64 hun | exact room 65 hun | exact room 2 hun | exact Nat.lt_of_le_of_lt (Nat.le_add_right _ _) hun | ((try dsimp +zetaDelta only [Ar, Around.deeper, Around.mark]); omega))); (case kuq8 => (first | exact room 1 hdp | exact room 2 hdp | exact room 3 hdp | exact room 4 hdp | exact room 8 hun | exact room 16 hun | exact room 24 hun | exact room 32 hun | exact room 64 hun | exact room 65 hun | exact room 2 hun | exact Nat.lt_of_le_of_lt (Nat.le_add_right _ _) hun | ((try dsimp +zetaDelta only [Ar, Around.deeper, Around.mark]); omega))); (case klq8 => exact Fr.lst kFq9 (by assumption)); (case kwq8 => assumption); (case kzq8 => assumption)); intro bD uD kD h' tk' hk' hg' hn' wD lD; (have F'q9 := Fr.after kFq9 hk'); (have N'q9 := newsMore kFq9 kNq9 hk' hg' hn'); (have nD := newsNe kNq9 hn'); clear hk' hg' hn'; clear kNq9 kFq9; (try dsimp only); (try k_fold))) | ((with_reducible show wpAny _ _ (call _ [Value.bytes _ _]) _ _ _); refine call_type_of (Tx := "bytes") rfl (by decide +kernel) ?_) | (with_reducible ((with_reducible show wpAny _ _ (storeName _ _ _) _ _ _); k_dflt (refine' storeM ?Fq7 ?Nq7 ?_ ?aq7 ?bq7; (case Fq7 => k_asm); (case Nq7 => k_asm); (case aq7 => rfl); (case bq7 => rfl); k_whole; intro m'q7 h'q7 F'q7 N'q7; (try k_sweep)))) | (with_reducible ((with_reducible show wpAny _ _ (eval (PySem.Expr.Name _ _) _) _ _ _); k_dflt (refine' nameX_L ?Fq7 ?vq7 ?_ ?aq7 ?bq7; (case Fq7 => k_asm); (case aq7 => rfl); (case bq7 => rfl); (case vq7 => exact Eq.refl (some _)); k_whole))) | ((with_reducible show InvEnd _ _ _ _ _ _); ((with_reducible rename Fr _ _ _ _ => kFq7); first | ((dsimp +zetaDelta only at kFq7); (try dsimp +zetaDelta only)) | dsimp +zetaDelta only)) | ((with_reducible show InvEndG _ _ _ _ _ _); ((with_reducible rename Fr _ _ _ _ => kFq7); first | ((dsimp +zetaDelta only at kFq7); (try dsimp +zetaDelta only)) | dsimp +zetaDelta only)) | walk1 | (dsimp only; walk1) | (leave1; (try dsimp only)) | fail "no step") <;> (repeat ((fail_if_success (fail_if_success ((generalize qx = zq); (with_reducible show zq _ _)))); k_unfold; (try clear qx); (try (first | refine wpI (P := wpAny _ _ _ _ _ ⟨_, s.gens, s.drawn, _, s.os⟩) ?_ | refine wpI (P := wpAny _ _ _ _ _ _) ?_)); (try dsimp only)))))
      rename Fr _ _ _ _ => F
      rename News _ _ _ _ => N
      refine InvEndG.intro (nx := (d, listOf (List.toArray (ts.eraseIdx (tms.idxOf mm))) (kt + 1)) :: T) F N ⟨.tail _ hb1, d, ts.eraseIdx (tms.idxOf mm), kt + 1, T, tms.eraseIdx (tms.idxOf mm), ?em, rfl, hT, hb1, hLT, ?er, hts.erase _, ?el⟩ ?eo ?en ?ew
      case em => exact rfl
      case er =>
        rw [remAll_step _ _ _ _ hmi, hrem]
        simp [rmOne, hmm]
      case el =>
        rw [List.length_eraseIdx]
        split <;> omega
      case eo => exact hoff
      case en =>
        intro p hp
        rcases List.mem_cons.mp hp with rfl | hp
        · exact .head _
        · exact .tail _ (List.mem_append.mpr (.inl hp))
      case ew => exact fun p hp => .tail _ (List.mem_append.mpr (.inr hp))
    case no =>
      intro hmm h3 tk3 e3 hx3
      have hnone : cmpOf m1 m2 = false := by
        unfold cmpOf
        rw [remAll_none _ _ (i + 1) (by rw [remAll_step _ _ _ _ hmi, hrem]; simp [rmOne, hmm])]
        rfl
      refine' caughtT (new := []) (sl := oL.slots) tx rfl hx3 F (fun p hp => N p ?_) rfl KT ?_
      · rw [List.mem_singleton.mp hp]
        exact .tail _ (List.mem_append.mpr (.inl hLT))
      · intro h4 sl4 F4 N4
        (repeat' ((try ((with_reducible show wpAny _ _ (execs _ _) _ _ _); k_gentoks)); (try ((with_reducible show wpAny _ _ (exec _ _) _ _ _); (with_reducible refine foldQ ?_); intro qx)); (first | (k_unfold; (try (first | refine wpI (P := wpAny _ _ _ _ _ ⟨_, s.gens, s.drawn, _, s.os⟩) ?_ | refine wpI (P := wpAny _ _ _ _ _ _) ?_)); (try dsimp only)) | (k_end; wrow_close) | (with_reducible ((with_reducible show wpAny _ _ (call (Value.ref 28) [Value.ref _]) _ _ _); (with_reducible rename Fr _ _ _ _ => kFq9); (with_reducible rename News _ _ _ _ => kNq9); k_dflt (refine' dedup_con (Cx.push (by assumption) kFq9 rfl) ?kdq8 ?kuq8 ?klq8 kFq9.keep ?kwq8 ?kzq8 ?_; (case kdq8 => (first | exact room 1 hdp | exact room 2 hdp | exact room 3 hdp | exact room 4 hdp | exact room 8 hun | exact room 16 hun | exact room 24 hun | exact room 32 hun | exact room 64 hun | exact room 65 hun | exact room 2 hun | exact Nat.lt_of_le_of_lt (Nat.le_add_right _ _) hun | ((try dsimp +zetaDelta only [Ar, Around.deeper, Around.mark]); omega))); (case kuq8 => (first | exact room 1 hdp | exact room 2 hdp | exact room 3 hdp | exact room 4 hdp | exact room 8 hun | exact room 16 hun | exact room 24 hun | exact room 32 hun | exact room 64 hun | exact room 65 hun | exact room 2 hun | exact Nat.lt_of_le_of_lt (Nat.le_add_right _ _) hun | ((try dsimp +zetaDelta only [Ar, Around.deeper, Around.mark]); omega))); (case klq8 => exact Fr.lst kFq9 (by assumption)); (case kwq8 => assumption); (case kzq8 => assumption)); intro bD uD kD h' tk' hk' hg' hn' wD lD; (have F'q9 := Fr.after kFq9 hk'); (have N'q9 := newsMore kFq9 kNq9 hk' hg' hn'); (have nD := newsNe kNq9 hn'); clear hk' hg' hn'; clear kNq9 kFq9; (try dsimp only); (try k_fold))) | ((with_reducible show wpAny _ _ (call _ [Value.bytes _ _]) _ _ _); refine call_type_of (Tx := "bytes") rfl (by decide +kernel) ?_) | (with_reducible ((with_reducible show wpAny _ _ (storeName _ _ _) _ _ _); k_dflt (refine' storeM ?Fq7 ?Nq7 ?_ ?aq7 ?bq7; (case Fq7 => k_asm); (case Nq7 => k_asm); (case aq7 => rfl); (case bq7 => rfl); k_whole; intro m'q7 h'q7 F'q7 N'q7; (try k_sweep)))) | (with_reducible ((with_reducible show wpAny _ _ (eval (PySem.Expr.Name _ _) _) _ _ _); k_dflt (refine' nameX_L ?Fq7 ?vq7 ?_ ?aq7 ?bq7; (case Fq7 => k_asm); (case aq7 => rfl); (case bq7 => rfl); (case vq7 => exact Eq.refl (some _)); k_whole))) | ((with_reducible show InvEnd _ _ _ _ _ _); ((with_reducible rename Fr _ _ _ _ => kFq7); first | ((dsimp +zetaDelta only at kFq7); (try dsimp +zetaDelta only)) | dsimp +zetaDelta only)) | ((with_reducible show InvEndG _ _ _ _ _ _); ((with_reducible rename Fr _ _ _ _ => kFq7); first | ((dsimp +zetaDelta only at kFq7); (try dsimp +zetaDelta only)) | dsimp +zetaDelta only)) | walk1 | (dsimp only; walk1) | (leave1; (try dsimp only)) | fail "no step") <;> (repeat ((fail_if_success (fail_if_success ((generalize qx = zq); (with_reducible show zq _ _)))); k_unfold; (try clear qx); (try (first | refine wpI (P := wpAny _ _ _ _ _ ⟨_, s.gens, s.drawn, _, s.os⟩) ?_ | refine wpI (P := wpAny _ _ _ _ _ _) ?_)); (try dsimp only)))))
        rename Fr _ _ _ _ => F
        rename News _ _ _ _ => N
        rw [hnone] at ret
        exact ret _ _ sl4 F.keep (N _ (.head _)).1
  case done =>
    rintro m9 nx h tk ⟨d, ts, kt, T, tms, hmt, rfl, hT, hb1, hLT, hrem, hts, htl⟩ F N
    rw [mapOn1 hmt] at F
    rw [w1.length, List.take_length] at hrem
    have N : News (s.heap.hide L) Lf h ((d, listOf (List.toArray ts) kt) :: T) := N
    replace F : Fr (s.heap.hide L) Lf h _ := F
    (repeat' ((try ((with_reducible show wpAny _ _ (execs _ _) _ _ _); k_gentoks)); (try ((with_reducible show wpAny _ _ (exec _ _) _ _ _); (with_reducible refine foldQ ?_); intro qx)); (first | (k_unfold; (try (first | refine wpI (P := wpAny _ _ _ _ _ ⟨_, s.gens, s.drawn, _, s.os⟩) ?_ | refine wpI (P := wpAny _ _ _ _ _ _) ?_)); (try dsimp only)) | (k_end; wrow_close) | (with_reducible ((with_reducible show wpAny _ _ (call (Value.ref 28) [Value.ref _]) _ _ _); (with_reducible rename Fr _ _ _ _ => kFq9); (with_reducible rename News _ _ _ _ => kNq9); k_dflt (refine' dedup_con (Cx.push (by assumption) kFq9 rfl) ?kdq8 ?kuq8 ?klq8 kFq9.keep ?kwq8 ?kzq8 ?_; (case kdq8 => (first | exact room 1 hdp | exact room 2 hdp | exact room 3 hdp | exact room 4 hdp | exact room 8 hun | exact room 16 hun | exact room 24 hun | exact room 32 hun | exact room 64 hun | exact room 65 hun | exact room 2 hun | exact Nat.lt_of_le_of_lt (Nat.le_add_right _ _) hun | ((try dsimp +zetaDelta only [Ar, Around.deeper, Around.mark]); omega))); (case kuq8 => (first | exact room 1 hdp | exact room 2 hdp | exact room 3 hdp | exact room 4 hdp | exact room 8 hun | exact room 16 hun | exact room 24 hun | exact room 32 hun | exact room 64 hun | exact room 65 hun | exact room 2 hun | exact Nat.lt_of_le_of_lt (Nat.le_add_right _ _) hun | ((try dsimp +zetaDelta only [Ar, Around.deeper, Around.mark]); omega))); (case klq8 => exact Fr.lst kFq9 (by assumption)); (case kwq8 => assumption); (case kzq8 => assumption)); intro bD uD kD h' tk' hk' hg' hn' wD lD; (have F'q9 := Fr.after kFq9 hk'); (have N'q9 := newsMore kFq9 kNq9 hk' hg' hn'); (have nD := newsNe kNq9 hn'); clear hk' hg' hn'; clear kNq9 kFq9; (try dsimp only); (try k_fold))) | ((with_reducible show wpAny _ _ (call _ [Value.bytes _ _]) _ _ _); refine call_type_of (Tx := "bytes") rfl (by decide +kernel) ?_) | (with_reducible ((with_reducible show wpAny _ _ (storeName _ _ _) _ _ _); k_dflt (refine' storeM ?Fq7 ?Nq7 ?_ ?aq7 ?bq7; (case Fq7 => k_asm); (case Nq7 => k_asm); (case aq7 => rfl); (case bq7 => rfl); k_whole; intro m'q7 h'q7 F'q7 N'q7; (try k_sweep)))) | (with_reducible ((with_reducible show wpAny _ _ (eval (PySem.Expr.Name _ _) _) _ _ _); k_dflt (refine' nameX_L ?Fq7 ?vq7 ?_ ?aq7 ?bq7; (case Fq7 => k_asm); (case aq7 => rfl); (case bq7 => rfl); (case vq7 => exact Eq.refl (some _)); k_whole))) | ((with_reducible show InvEnd _ _ _ _ _ _); ((with_reducible rename Fr _ _ _ _ => kFq7); first | ((dsimp +zetaDelta only at kFq7); (try dsimp +zetaDelta only)) | dsimp +zetaDelta only)) | ((with_reducible show InvEndG _ _ _ _ _ _); ((with_reducible rename Fr _ _ _ _ => kFq7); first | ((dsimp +zetaDelta only at kFq7); (try dsimp +zetaDelta only)) | dsimp +zetaDelta only)) | walk1 | (dsimp only; walk1) | (leave1; (try dsimp only)) | fail "no step") <;> (repeat ((fail_if_success (fail_if_success ((generalize qx = zq); (with_reducible show zq _ _)))); k_unfold; (try clear qx); (try (first | refine wpI (P := wpAny _ _ _ _ _ ⟨_, s.gens, s.drawn, _, s.os⟩) ?_ | refine wpI (P := wpAny _ _ _ _ _ _) ?_)); (try dsimp only)))))
    have e : cmpOf m1 m2 = !!ts.isEmpty := by
      unfold cmpOf
      rw [hrem]
      have := hts.length
      cases ts <;> cases tms <;> simp_all
    rw [e] at ret
    exact ret _ _ oL.slots F.keep (N _ (.tail _ hLT)).1
end Mine
end
section
open PySem PySem.W PyProof.Rows
set_option maxRecDepth 100000
set_option maxHeartbeats 8000000
set_option linter.unusedVariables false
namespace Mine
/-- a def of the text is entered, which may turn what stands on the ledger handed over -/
theorem enterG {K : Frag} {prog : Program} {w : World} {A : Around} {s : Shared} {p : Program} {loose : List Str} {mean : ExcName → Option Value} {mg mb : Str → Option Value} {name qual : Str} {params : Arguments} {body : List Stmt} {scope : Scope} {dV kV doc pm cdv ct oc : Value} {an od : Option Addr} {osl : Array (Option Value)} {f : Addr} {vs : List Value} {kw : List (Str × Value)} {binds : List (Str × Value)} {Q E : Value → Shared → Prop} {news₀ : List (Addr × Obj)} {as : List Addr} (has : news₀.map (·.1) = as)
    (hN : ∀ p ∈ news₀, s.heap.get? p.1 = some p.2)
    (X : K.In (hideAll s.heap as)) (T : Top p loose mean mg mb (hideAll s.heap as))
    (ho : K.lookup f = some ⟨oc, od, .func (fnOf name qual params body scope dV kV doc pm an cdv ct), osl⟩) (hcd : codeIn K cdv qual = true) (hroom : A.depth < recursionLimit)
    (hbind : BindsTo s (fnOf name qual params body scope dV kV doc pm an cdv ct) ⟨vs, kw⟩ binds) (hloc : ∀ y ∈ binds, scope.names.lookup y.1 = some .local)
    (h : ∀ Lf, let ev := envOf qual scope Lf f cdv; let Ak := A.deeper ev; let m0 := fun y => binds.reverse.lookup y; ∀ h₁, Fr (hideAll s.heap as) Lf h₁ m0 → News (hideAll s.heap as) Lf h₁ news₀ →
      wpAny (model prog w) Ak (execs body ev)
        (fun fl s' => Q (match fl with | .ret v => v | _ => .none) s') (fun _ _ => False)
        { s with heap := h₁, toks := s.toks + binds.length })
    (hco : scope.isCoroutine = false) (hgen : scope.isGenerator = false) (hk : scope.kind = .function)
    (hcell : ∀ x ∈ scope.names, x.2 ≠ .cell) : wpAny (model prog w) A (call (.ref f) vs kw) Q E s := by
  have kp : Keeps (hideAll s.heap as) s.heap := fun b o e => of_hideAll _ e
  have X' := X.keeps kp
  refine wpAny_call ?_
  refine codeAny_call_def (fd := fnOf name qual params body scope dV kV doc pm an cdv ct) (body := body) (binds := binds) hroom (X' _ _ ho) rfl (T.nolimit.keeps kp) (codeRec_of X' hcd) rfl hbind hcell hloc (fun h₁ hns hk₁ => ?_) hco hgen hk
  refine wpAny_mono (h _ h₁ ⟨hns, fun b o e => hk₁ b o (kp b o e), Nat.le_of_eq (hideAll_size _ _)⟩ ?_) (fun _ _ x => x) (fun _ _ x => x.elim)
  intro q hq
  exact ⟨hk₁ _ _ (hN q hq), Nat.ne_of_lt (Heap.lt_size (hN q hq)), hideAll_none _ (has ▸ List.mem_map_of_mem hq)⟩
theorem kl_last_app : ∀ (p : List Value) (y : Value), kl_last (p ++ [y]) = some (p, y)
  | [], y => rfl
  | x :: p, y => by
    show (match kl_last (p ++ [y]) with | some (p, y) => some (x :: p, y) | none => some ([], x)) = _
    rw [kl_last_app p y]
def uldF (st : List Int × List Int) (m : Int) : List Int × List Int := if m ∈ st.1 then (st.1.eraseIdx (st.1.idxOf m), st.2) else (st.1, st.2 ++ [m])
def uldOf (m1 m2 : List Int) : List Int × List Int := m1.reverse.foldl uldF (m2, [])
theorem uld_step (m1 m2 : List Int) (n : Nat) (m : Int) (h : m1[n]? = some m) : (m1.drop n).reverse.foldl uldF (m2, []) = uldF ((m1.drop (n + 1)).reverse.foldl uldF (m2, [])) m := by
  have hl : n < m1.length := (List.getElem?_eq_some_iff.mp h).1
  have e : m1.drop n = m :: m1.drop (n + 1) := by
    rw [List.drop_eq_getElem_cons hl]
    congr 1
    exact Option.some.inj ((List.getElem?_eq_getElem hl).symm.trans h)
  rw [e, List.reverse_cons, List.foldl_append]
  rfl
end Mine
end
section
open PySem PySem.W PyProof.Rows
set_option maxRecDepth 100000
set_option maxHeartbeats 8000000
set_option linter.unusedVariables false
namespace Mine
theorem WdH.snoc {h : Heap} : ∀ {ms : List Int} {vs : List Value} {m : Int}, WdH h vs (ms ++ [m]) → ∃ p y, vs = p ++ [y] ∧ WdH h p ms ∧ IsW h y m
  | [], vs, m, w => by
    cases w with
    | cons l i p q r =>
      cases r with
      | nil => exact ⟨[], _, rfl, .nil, _, _, rfl, l, i, p, q⟩
  | m' :: ms, vs, m, w => by
    cases w with
    | cons l i p q r =>
      obtain ⟨p', y, e, w', z⟩ := WdH.snoc (ms := ms) r
      subst e
      exact ⟨_ :: p', y, rfl, .cons l i p q w', z⟩
theorem hideAll_new {h : Heap} {as : List Addr} {a : Addr} (e : (hideAll h as).get? a = none) (n : a ∉ as) : h.get? a = none := by
  cases q : h.get? a with
  | none => rfl
  | some o => rw [hideAll_get as q n] at e; cases e
inductive UldJ (hp : Heap) (l1 l2 L : Addr) (oL : Obj) (m1 m2 : List Int) (n : Nat) (m : Str → Option Value) (nx : List (Addr × Obj)) : Prop
  | mk (mi : Addr) (ev mv av : List Value) (ke km ka : Nat) (sl : Array (Option Value)) (ems mms ams : List Int)
    (hm : ∀ y, y ≠ Str.ofString "item" → m y = (fun y => if y = Str.ofString "missing" then some (.ref mi) else List.lookup y [(Str.ofString "actual", .ref l2), (Str.ofString "expected", .ref l1)]) y)
    (hx : nx = [(mi, listOf (List.toArray mv) km), (l1, listOf (List.toArray ev) ke), (l2, listOf (List.toArray av) ka), (L, { oL with slots := sl })])
    (d1 : mi ≠ l1) (d2 : mi ≠ l2) (d3 : mi ≠ L) (d4 : hp.get? mi = none) (hE : WdH (hideAll hp [l1, l2, L]) ev ems) (hM : WdH (hideAll hp [l1, l2, L]) mv mms) (hA : WdH (hideAll hp [l1, l2, L]) av ams)
    (he : ems = m1.take n) (hn : n ≤ m1.length) (hst : (m1.drop n).reverse.foldl uldF (m2, []) = (ams, mms)) (hml : mv.length + n ≤ m1.length) (hal : av.length ≤ 63) : UldJ hp l1 l2 L oL m1 m2 n m nx
theorem uld_con {w : World} {dp un : Nat} {gd : Option (List Code)} {base : Heap} {mean : ExcName → Option Value} {mg mb : Str → Option Value} {s : Shared} {Q E : Value → Shared → Prop} {L : Addr} {oL : Obj} {envL : Env}
    {l1 l2 : Addr} {v1 v2 : List Value} {m1 m2 : List Int} {k1 k2 : Nat} {hb : Heap} (ehb : hb = hideAll s.heap [l1, l2, L])
    (C : Cx w (Ar dp un gd [envL]) hb base [envL] mean mg mb) (tx : Tx s L oL envL) (hdp : dp + 2 < recursionLimit) (hun : un + 300 < cLine)
    (hl1 : s.heap.get? l1 = some (listOf (List.toArray v1) k1)) (hl2 : s.heap.get? l2 = some (listOf (List.toArray v2) k2)) (h12 : l1 ≠ l2) (h1L : l1 ≠ L) (h2L : l2 ≠ L)
    (hW1 : WdH hb v1 m1) (hW2 : WdH hb v2 m2) (hlen1 : v1.length ≤ 63) (hlen2 : v2.length ≤ 63)
    (ret : ∀ t mi mv av kt km ka h' tk', (∀ p ∈ [(t, ({ cls := .type "tuple", data := .seq #[.ref mi, .ref l2] kt } : Obj)), (mi, listOf (List.toArray mv) km), (l2, listOf (List.toArray av) ka)], h'.get? p.1 = some p.2) → mv.length = (uldOf m1 m2).2.length → av.length = (uldOf m1 m2).1.length → (∃ sl, h'.get? L = some { oL with slots := sl }) → Keeps hb h' → s.heap.get? t = none → s.heap.get? mi = none → Q (.ref t) { s with heap := h', toks := tk' }) :
    wpAny (model PySem.Challenge.rw_qh0049_01.row.prog w) (Ar dp un gd [envL]) (call (.ref 130) [.ref l1, .ref l2]) Q E s := by
  have KX := C.X
  revert KX
  k_fill
  intro KX
  have KT := C.T
  w_on
  subst ehb
  refine' enterG (binds := [(Str.ofString "expected", .ref l1), (Str.ofString "actual", .ref l2)]) (news₀ := [(l1, listOf (List.toArray v1) k1), (l2, listOf (List.toArray v2) k2), (L, oL)]) (as := [l1, l2, L]) rfl ?hN KX KT ?k6 ?k7 ?k8 ?k9 ?kB ?_ ?c2 ?c3 ?c4 ?c5
  case hN =>
    intro p hp
    simp only [List.mem_cons, List.not_mem_nil, or_false] at hp
    rcases hp with rfl | rfl | rfl
    · exact hl1
    · exact hl2
    · exact tx.here
  (k_dflt ((case k6 => k_is); (case k7 => k_is); (case k8 => exact Nat.lt_of_le_of_lt (Nat.le_add_right _ _) hdp); (case k9 => first | exact BindsTo.of_eq rfl | exact binds_K (by assumption) rfl (by k_is) rfl rfl rfl); (case c5 => decide); (case kB => exact locs rfl); (case c2 => exact rfl); (case c3 => exact rfl); (case c4 => exact rfl)))
  intro Lf ev Ak m0 h1 F N
  (try k_fold)
  repeat ((fail_if_success (with_reducible show wpAny _ _ (exec (PySem.Stmt.While _ _ _ _) _) _ _ _)); ((try ((with_reducible show wpAny _ _ (execs _ _) _ _ _); k_gentoks)); (try ((with_reducible show wpAny _ _ (exec _ _) _ _ _); (with_reducible refine foldQ ?_); intro qx)); (first | (k_unfold; (try (first | refine wpI (P := wpAny _ _ _ _ _ ⟨_, s.gens, s.drawn, _, s.os⟩) ?_ | refine wpI (P := wpAny _ _ _ _ _ _) ?_)); (try dsimp only)) | (k_end; kc_close) | ((with_reducible show wpAny _ _ (call _ [Value.bytes _ _]) _ _ _); refine call_type_of (Tx := "bytes") rfl (by decide +kernel) ?_) | (with_reducible ((with_reducible show wpAny _ _ (storeName _ _ _) _ _ _); k_dflt (refine' storeM ?Fq7 ?Nq7 ?_ ?aq7 ?bq7; (case Fq7 => k_asm); (case Nq7 => k_asm); (case aq7 => rfl); (case bq7 => rfl); k_whole; intro m'q7 h'q7 F'q7 N'q7; (try k_sweep)))) | (with_reducible ((with_reducible show wpAny _ _ (eval (PySem.Expr.Name _ _) _) _ _ _); k_dflt (refine' nameX_L ?Fq7 ?vq7 ?_ ?aq7 ?bq7; (case Fq7 => k_asm); (case aq7 => rfl); (case bq7 => rfl); (case vq7 => exact Eq.refl (some _)); k_whole))) | ((with_reducible show InvEnd _ _ _ _ _ _); ((with_reducible rename Fr _ _ _ _ => kFq7); first | ((dsimp +zetaDelta only at kFq7); (try dsimp +zetaDelta only)) | dsimp +zetaDelta only)) | ((with_reducible show InvEndG _ _ _ _ _ _); ((with_reducible rename Fr _ _ _ _ => kFq7); first | ((dsimp +zetaDelta only at kFq7); (try dsimp +zetaDelta only)) | dsimp +zetaDelta only)) | walk1 | (dsimp only; walk1) | (leave1; (try dsimp only)) | fail "no step") <;> (repeat ((fail_if_success (fail_if_success ((generalize qx = zq); (with_reducible show zq _ _)))); k_unfold; (try clear qx); (try (first | refine wpI (P := wpAny _ _ _ _ _ ⟨_, s.gens, s.drawn, _, s.os⟩) ?_ | refine wpI (P := wpAny _ _ _ _ _ _) ?_)); (try dsimp only)))))
  rename Fr _ _ _ _ => F
  rename News _ _ _ _ => N
  rename _ ∧ _ => q1
  refine While_inv2 (UldJ s.heap l1 l2 L oL m1 m2) (n₀ := m1.length) F N ⟨_, v1, [], v2, k1, 0, k2, oL.slots, m1, [], m2, ?m, rfl, ?a1, ?a2, ?a3, ?a4, hW1, .nil, hW2, ?a5, Nat.le_refl _, ?a6, Nat.le_of_eq (Nat.zero_add _), hlen2⟩ ?turn
  case m => exact fun y hy => rfl
  case a1 => exact Nat.ne_of_gt q1.1
  case a2 => exact Nat.ne_of_gt q1.2.1
  case a3 => exact Nat.ne_of_gt q1.2.2
  case a4 =>
    refine hideAll_new (N _ (.head _)).2.2 ?_
    intro hm
    simp only [List.map_cons, List.map_nil, List.mem_cons, List.not_mem_nil, or_false] at hm
    rcases hm with e | e | e
    · exact Nat.ne_of_gt q1.1 e
    · exact Nat.ne_of_gt q1.2.1 e
    · exact Nat.ne_of_gt q1.2.2 e
  case a5 => simp
  case a6 => simp
  case turn =>
    rintro n m9 nx h tk F N ⟨mi, ev, mv, av, ke, km, ka, sl, ems, mms, ams, hm, rfl, d1, d2, d3, d4, hE1, hM1, hA1, he, hn, hst, hml, hal⟩
    rw [mapOff1 hm] at F
    replace F : Fr (hideAll s.heap [l1, l2, L]) Lf h _ := F
    replace N : News (hideAll s.heap [l1, l2, L]) Lf h _ := N
    have hle : h.IsList l1 ev.toArray := ⟨_, (N _ (.tail _ (.head _))).1, rfl, _, rfl⟩
    repeat ((fail_if_success (with_reducible show wpAny _ _ (truthy _) _ _ _)); ((try ((with_reducible show wpAny _ _ (execs _ _) _ _ _); k_gentoks)); (try ((with_reducible show wpAny _ _ (exec _ _) _ _ _); (with_reducible refine foldQ ?_); intro qx)); (first | (k_unfold; (try (first | refine wpI (P := wpAny _ _ _ _ _ ⟨_, s.gens, s.drawn, _, s.os⟩) ?_ | refine wpI (P := wpAny _ _ _ _ _ _) ?_)); (try dsimp only)) | (k_end; kc_close) | ((with_reducible show wpAny _ _ (call _ [Value.bytes _ _]) _ _ _); refine call_type_of (Tx := "bytes") rfl (by decide +kernel) ?_) | (with_reducible ((with_reducible show wpAny _ _ (storeName _ _ _) _ _ _); k_dflt (refine' storeM ?Fq7 ?Nq7 ?_ ?aq7 ?bq7; (case Fq7 => k_asm); (case Nq7 => k_asm); (case aq7 => rfl); (case bq7 => rfl); k_whole; intro m'q7 h'q7 F'q7 N'q7; (try k_sweep)))) | (with_reducible ((with_reducible show wpAny _ _ (eval (PySem.Expr.Name _ _) _) _ _ _); k_dflt (refine' nameX_L ?Fq7 ?vq7 ?_ ?aq7 ?bq7; (case Fq7 => k_asm); (case aq7 => rfl); (case bq7 => rfl); (case vq7 => exact Eq.refl (some _)); k_whole))) | ((with_reducible show InvEnd _ _ _ _ _ _); ((with_reducible rename Fr _ _ _ _ => kFq7); first | ((dsimp +zetaDelta only at kFq7); (try dsimp +zetaDelta only)) | dsimp +zetaDelta only)) | ((with_reducible show InvEndG _ _ _ _ _ _); ((with_reducible rename Fr _ _ _ _ => kFq7); first | ((dsimp +zetaDelta only at kFq7); (try dsimp +zetaDelta only)) | dsimp +zetaDelta only)) | walk1 | (dsimp only; walk1) | (leave1; (try dsimp only)) | fail "no step") <;> (repeat ((fail_if_success (fail_if_success ((generalize qx = zq); (with_reducible show zq _ _)))); k_unfold; (try clear qx); (try (first | refine wpI (P := wpAny _ _ _ _ _ ⟨_, s.gens, s.drawn, _, s.os⟩) ?_ | refine wpI (P := wpAny _ _ _ _ _ _) ?_)); (try dsimp only)))))
    refine wpAny_truthy_list hle (by rw [List.size_toArray, hE1.length, he, List.length_take]; rw [hW1.length] at hlen1; omega) ?_
    cases n with
    | zero =>
      have hev : ev = [] := by
        have := hE1.length
        rw [he] at this
        simpa using this
      subst hev
      rw [if_neg (by simp)]
      (repeat' ((try ((with_reducible show wpAny _ _ (execs _ _) _ _ _); k_gentoks)); (try ((with_reducible show wpAny _ _ (exec _ _) _ _ _); (with_reducible refine foldQ ?_); intro qx)); (first | (k_unfold; (try (first | refine wpI (P := wpAny _ _ _ _ _ ⟨_, s.gens, s.drawn, _, s.os⟩) ?_ | refine wpI (P := wpAny _ _ _ _ _ _) ?_)); (try dsimp only)) | (k_end; wrow_close) | ((with_reducible show wpAny _ _ (call _ [Value.bytes _ _]) _ _ _); refine call_type_of (Tx := "bytes") rfl (by decide +kernel) ?_) | (with_reducible ((with_reducible show wpAny _ _ (storeName _ _ _) _ _ _); k_dflt (refine' storeM ?Fq7 ?Nq7 ?_ ?aq7 ?bq7; (case Fq7 => k_asm); (case Nq7 => k_asm); (case aq7 => rfl); (case bq7 => rfl); k_whole; intro m'q7 h'q7 F'q7 N'q7; (try k_sweep)))) | (with_reducible ((with_reducible show wpAny _ _ (eval (PySem.Expr.Name _ _) _) _ _ _); k_dflt (refine' nameX_L ?Fq7 ?vq7 ?_ ?aq7 ?bq7; (case Fq7 => k_asm); (case aq7 => rfl); (case bq7 => rfl); (case vq7 => exact Eq.refl (some _)); k_whole))) | ((with_reducible show InvEnd _ _ _ _ _ _); ((with_reducible rename Fr _ _ _ _ => kFq7); first | ((dsimp +zetaDelta only at kFq7); (try dsimp +zetaDelta only)) | dsimp +zetaDelta only)) | ((with_reducible show InvEndG _ _ _ _ _ _); ((with_reducible rename Fr _ _ _ _ => kFq7); first | ((dsimp +zetaDelta only at kFq7); (try dsimp +zetaDelta only)) | dsimp +zetaDelta only)) | walk1 | (dsimp only; walk1) | (leave1; (try dsimp only)) | fail "no step") <;> (repeat ((fail_if_success (fail_if_success ((generalize qx = zq); (with_reducible show zq _ _)))); k_unfold; (try clear qx); (try (first | refine wpI (P := wpAny _ _ _ _ _ ⟨_, s.gens, s.drawn, _, s.os⟩) ?_ | refine wpI (P := wpAny _ _ _ _ _ _) ?_)); (try dsimp only)))))
      rename Fr _ _ _ _ => F
      rename News _ _ _ _ => N
      rename _ ∧ _ => q2
      have eu : uldOf m1 m2 = (ams, mms) := hst
      refine ret _ mi mv av 0 km ka _ _ (getC (by k_mem) N (getC (by k_mem) N (getC (by k_mem) N getN))) (by rw [eu]; exact hM1.length) (by rw [eu]; exact hA1.length) ⟨sl, (N (L, _) (.tail _ (.tail _ (.tail _ (.tail _ (.head _)))))).1⟩ F.keep (hideAll_new (N _ (.head _)).2.2 ?_) d4
      · intro hm
        simp only [List.mem_cons, List.not_mem_nil, or_false] at hm
        rcases hm with e | e | e
        · exact Nat.ne_of_gt q2.2.1 e
        · exact Nat.ne_of_gt q2.2.2.1 e
        · exact Nat.ne_of_gt q2.2.2.2 e
    | succ n =>
      have hlt : n < m1.length := by omega
      obtain ⟨x, hx⟩ : ∃ x, m1[n]? = some x := ⟨_, List.getElem?_eq_getElem hlt⟩
      have he2 : ems = m1.take n ++ [x] := by rw [he, List.take_add_one, hx]; rfl
      rw [he2] at hE1
      obtain ⟨p, y, rfl, hp, hy⟩ := hE1.snoc
      have hpl : p.length ≤ 63 := by
        have := hp.length
        rw [List.length_take] at this
        rw [hW1.length] at hlen1
        omega
      rw [if_pos (by simp)]
      repeat ((fail_if_success (with_reducible show wpAny _ _ (call (Value.builtin _) _) _ _ _)); ((try ((with_reducible show wpAny _ _ (execs _ _) _ _ _); k_gentoks)); (try ((with_reducible show wpAny _ _ (exec _ _) _ _ _); (with_reducible refine foldQ ?_); intro qx)); (first | (k_unfold; (try (first | refine wpI (P := wpAny _ _ _ _ _ ⟨_, s.gens, s.drawn, _, s.os⟩) ?_ | refine wpI (P := wpAny _ _ _ _ _ _) ?_)); (try dsimp only)) | (k_end; kc_close) | ((with_reducible show wpAny _ _ (call _ [Value.bytes _ _]) _ _ _); refine call_type_of (Tx := "bytes") rfl (by decide +kernel) ?_) | (with_reducible ((with_reducible show wpAny _ _ (storeName _ _ _) _ _ _); k_dflt (refine' storeM ?Fq7 ?Nq7 ?_ ?aq7 ?bq7; (case Fq7 => k_asm); (case Nq7 => k_asm); (case aq7 => rfl); (case bq7 => rfl); k_whole; intro m'q7 h'q7 F'q7 N'q7; (try k_sweep)))) | (with_reducible ((with_reducible show wpAny _ _ (eval (PySem.Expr.Name _ _) _) _ _ _); k_dflt (refine' nameX_L ?Fq7 ?vq7 ?_ ?aq7 ?bq7; (case Fq7 => k_asm); (case aq7 => rfl); (case bq7 => rfl); (case vq7 => exact Eq.refl (some _)); k_whole))) | ((with_reducible show InvEnd _ _ _ _ _ _); ((with_reducible rename Fr _ _ _ _ => kFq7); first | ((dsimp +zetaDelta only at kFq7); (try dsimp +zetaDelta only)) | dsimp +zetaDelta only)) | ((with_reducible show InvEndG _ _ _ _ _ _); ((with_reducible rename Fr _ _ _ _ => kFq7); first | ((dsimp +zetaDelta only at kFq7); (try dsimp +zetaDelta only)) | dsimp +zetaDelta only)) | walk1 | (dsimp only; walk1) | (leave1; (try dsimp only)) | fail "no step") <;> (repeat ((fail_if_success (fail_if_success ((generalize qx = zq); (with_reducible show zq _ _)))); k_unfold; (try clear qx); (try (first | refine wpI (P := wpAny _ _ _ _ _ ⟨_, s.gens, s.drawn, _, s.os⟩) ?_ | refine wpI (P := wpAny _ _ _ _ _ _) ?_)); (try dsimp only)))))
      have hd : ∀ q ∈ [(l2, listOf (List.toArray av) ka), (L, ({ oL with slots := sl } : Obj))], q.1 ≠ l1 := offC (Ne.symm h12) (offC (Ne.symm h1L) offN)
      refine kl_pop (its := (p ++ [y]).toArray) (p := p) (y := y) (n := ke) F N (by simpa using kl_last_app p y) (Upd.tail d1 (Upd.head hd)) (by rw [sizeLine_eq]; simp; omega) ?_
      intro h5 F5 N5
      obtain ⟨ya, yx, rfl, _⟩ := id hy
      repeat ((fail_if_success (with_reducible show wpAny _ _ (call (Value.builtin _) _) _ _ _)); ((try ((with_reducible show wpAny _ _ (execs _ _) _ _ _); k_gentoks)); (try ((with_reducible show wpAny _ _ (exec _ _) _ _ _); (with_reducible refine foldQ ?_); intro qx)); (first | (k_unfold; (try (first | refine wpI (P := wpAny _ _ _ _ _ ⟨_, s.gens, s.drawn, _, s.os⟩) ?_ | refine wpI (P := wpAny _ _ _ _ _ _) ?_)); (try dsimp only)) | (k_end; kc_close) | ((with_reducible show wpAny _ _ (call _ [Value.bytes _ _]) _ _ _); refine call_type_of (Tx := "bytes") rfl (by decide +kernel) ?_) | (with_reducible ((with_reducible show wpAny _ _ (storeName _ _ _) _ _ _); k_dflt (refine' storeM ?Fq7 ?Nq7 ?_ ?aq7 ?bq7; (case Fq7 => k_asm); (case Nq7 => k_asm); (case aq7 => rfl); (case bq7 => rfl); k_whole; intro m'q7 h'q7 F'q7 N'q7; (try k_sweep)))) | (with_reducible ((with_reducible show wpAny _ _ (eval (PySem.Expr.Name _ _) _) _ _ _); k_dflt (refine' nameX_L ?Fq7 ?vq7 ?_ ?aq7 ?bq7; (case Fq7 => k_asm); (case aq7 => rfl); (case bq7 => rfl); (case vq7 => exact Eq.refl (some _)); k_whole))) | ((with_reducible show InvEnd _ _ _ _ _ _); ((with_reducible rename Fr _ _ _ _ => kFq7); first | ((dsimp +zetaDelta only at kFq7); (try dsimp +zetaDelta only)) | dsimp +zetaDelta only)) | ((with_reducible show InvEndG _ _ _ _ _ _); ((with_reducible rename Fr _ _ _ _ => kFq7); first | ((dsimp +zetaDelta only at kFq7); (try dsimp +zetaDelta only)) | dsimp +zetaDelta only)) | walk1 | (dsimp only; walk1) | (leave1; (try dsimp only)) | fail "no step") <;> (repeat ((fail_if_success (fail_if_success ((generalize qx = zq); (with_reducible show zq _ _)))); k_unfold; (try clear qx); (try (first | refine wpI (P := wpAny _ _ _ _ _ ⟨_, s.gens, s.drawn, _, s.os⟩) ?_ | refine wpI (P := wpAny _ _ _ _ _ _) ?_)); (try dsimp only)))))
      rename Fr _ _ _ _ => F
      rename News _ _ _ _ => N
      have N7 : News (hideAll s.heap [l1, l2, L]) Lf _ ((l2, listOf (List.toArray av) ka) :: [(mi, listOf (List.toArray mv) km), (l1, listOf (List.toArray p) (ke + 1)), (L, ({ oL with slots := sl } : Obj))]) := newsC (by k_mem) N (newsC (by k_mem) N (newsC (by k_mem) N (newsC (by k_mem) N News.nil)))
      have hD : ∀ q ∈ [(mi, listOf (List.toArray mv) km), (l1, listOf (List.toArray p) (ke + 1)), (L, ({ oL with slots := sl } : Obj))], q.1 ≠ l2 := offC d2 (offC h12 (offC (Ne.symm h2L) offN))
      refine removeW F N7 hD (hA1.keeps F.keep) (hy.keeps F.keep) (by (first | exact room 1 hdp | exact room 2 hdp | exact room 3 hdp | exact room 4 hdp | exact room 8 hun | exact room 16 hun | exact room 24 hun | exact room 32 hun | exact room 64 hun | exact room 65 hun | exact room 2 hun | exact Nat.lt_of_le_of_lt (Nat.le_add_right _ _) hun | ((try dsimp +zetaDelta only [Ar, Around.deeper, Around.mark]); omega))) rfl (by rw [sizeLine_eq]; omega) ?yes ?no
      case yes =>
        intro hmm h8 F8 N8
        have e9 : (m1.drop n).reverse.foldl uldF (m2, []) = (ams.eraseIdx (ams.idxOf x), mms) := by
          rw [uld_step _ _ _ _ hx, hst]
          simp [uldF, hmm]
        (repeat' ((try ((with_reducible show wpAny _ _ (execs _ _) _ _ _); k_gentoks)); (try ((with_reducible show wpAny _ _ (exec _ _) _ _ _); (with_reducible refine foldQ ?_); intro qx)); (first | (k_unfold; (try (first | refine wpI (P := wpAny _ _ _ _ _ ⟨_, s.gens, s.drawn, _, s.os⟩) ?_ | refine wpI (P := wpAny _ _ _ _ _ _) ?_)); (try dsimp only)) | (k_end; wrow_close) | ((with_reducible show wpAny _ _ (call _ [Value.bytes _ _]) _ _ _); refine call_type_of (Tx := "bytes") rfl (by decide +kernel) ?_) | (with_reducible ((with_reducible show wpAny _ _ (storeName _ _ _) _ _ _); k_dflt (refine' storeM ?Fq7 ?Nq7 ?_ ?aq7 ?bq7; (case Fq7 => k_asm); (case Nq7 => k_asm); (case aq7 => rfl); (case bq7 => rfl); k_whole; intro m'q7 h'q7 F'q7 N'q7; (try k_sweep)))) | (with_reducible ((with_reducible show wpAny _ _ (eval (PySem.Expr.Name _ _) _) _ _ _); k_dflt (refine' nameX_L ?Fq7 ?vq7 ?_ ?aq7 ?bq7; (case Fq7 => k_asm); (case aq7 => rfl); (case bq7 => rfl); (case vq7 => exact Eq.refl (some _)); k_whole))) | ((with_reducible show InvEnd _ _ _ _ _ _); ((with_reducible rename Fr _ _ _ _ => kFq7); first | ((dsimp +zetaDelta only at kFq7); (try dsimp +zetaDelta only)) | dsimp +zetaDelta only)) | ((with_reducible show InvEndG _ _ _ _ _ _); ((with_reducible rename Fr _ _ _ _ => kFq7); first | ((dsimp +zetaDelta only at kFq7); (try dsimp +zetaDelta only)) | dsimp +zetaDelta only)) | walk1 | (dsimp only; walk1) | (leave1; (try dsimp only)) | fail "no step") <;> (repeat ((fail_if_success (fail_if_success ((generalize qx = zq); (with_reducible show zq _ _)))); k_unfold; (try clear qx); (try (first | refine wpI (P := wpAny _ _ _ _ _ ⟨_, s.gens, s.drawn, _, s.os⟩) ?_ | refine wpI (P := wpAny _ _ _ _ _ _) ?_)); (try dsimp only)))))
        rename Fr _ _ _ _ => F
        rename News _ _ _ _ => N
        refine ⟨_, _, _, [(mi, listOf (List.toArray mv) km), (l1, listOf (List.toArray p) (ke + 1)), (l2, listOf (List.toArray (av.eraseIdx (ams.idxOf x))) (ka + 1)), (L, ({ oL with slots := sl } : Obj))], n, rfl, F, newsC (by k_mem) N (newsC (by k_mem) N (newsC (by k_mem) N (newsC (by k_mem) N News.nil))), Nat.lt_succ_self _, mi, p, mv, av.eraseIdx (ams.idxOf x), ke + 1, km, ka + 1, sl, m1.take n, mms, ams.eraseIdx (ams.idxOf x), ?_, rfl, d1, d2, d3, d4, hp, hM1, hA1.erase _, rfl, by omega, e9, by omega, ?_⟩
        · intro y' hy'
          exact (if_neg hy').trans (if_neg hy')
        · rw [List.length_eraseIdx]
          split <;> omega
      case no =>
        intro hmm h8 tk8 e8 hx8
        have e9 : (m1.drop n).reverse.foldl uldF (m2, []) = (ams, mms ++ [x]) := by
          rw [uld_step _ _ _ _ hx, hst]
          simp [uldF, hmm]
        refine' caughtT (new := [(mi, listOf (List.toArray mv) km), (l1, listOf (List.toArray p) (ke + 1)), (l2, listOf (List.toArray av) ka)]) (sl := sl) tx rfl hx8 F N rfl KT ?_
        intro h9 sl9 F9 N9
        (repeat' ((try ((with_reducible show wpAny _ _ (execs _ _) _ _ _); k_gentoks)); (try ((with_reducible show wpAny _ _ (exec _ _) _ _ _); (with_reducible refine foldQ ?_); intro qx)); (first | (k_unfold; (try (first | refine wpI (P := wpAny _ _ _ _ _ ⟨_, s.gens, s.drawn, _, s.os⟩) ?_ | refine wpI (P := wpAny _ _ _ _ _ _) ?_)); (try dsimp only)) | (k_end; wrow_close) | ((with_reducible show wpAny _ _ (call _ [Value.bytes _ _]) _ _ _); refine call_type_of (Tx := "bytes") rfl (by decide +kernel) ?_) | (with_reducible ((with_reducible show wpAny _ _ (storeName _ _ _) _ _ _); k_dflt (refine' storeM ?Fq7 ?Nq7 ?_ ?aq7 ?bq7; (case Fq7 => k_asm); (case Nq7 => k_asm); (case aq7 => rfl); (case bq7 => rfl); k_whole; intro m'q7 h'q7 F'q7 N'q7; (try k_sweep)))) | (with_reducible ((with_reducible show wpAny _ _ (eval (PySem.Expr.Name _ _) _) _ _ _); k_dflt (refine' nameX_L ?Fq7 ?vq7 ?_ ?aq7 ?bq7; (case Fq7 => k_asm); (case aq7 => rfl); (case bq7 => rfl); (case vq7 => exact Eq.refl (some _)); k_whole))) | ((with_reducible show InvEnd _ _ _ _ _ _); ((with_reducible rename Fr _ _ _ _ => kFq7); first | ((dsimp +zetaDelta only at kFq7); (try dsimp +zetaDelta only)) | dsimp +zetaDelta only)) | ((with_reducible show InvEndG _ _ _ _ _ _); ((with_reducible rename Fr _ _ _ _ => kFq7); first | ((dsimp +zetaDelta only at kFq7); (try dsimp +zetaDelta only)) | dsimp +zetaDelta only)) | walk1 | (dsimp only; walk1) | (leave1; (try dsimp only)) | fail "no step") <;> (repeat ((fail_if_success (fail_if_success ((generalize qx = zq); (with_reducible show zq _ _)))); k_unfold; (try clear qx); (try (first | refine wpI (P := wpAny _ _ _ _ _ ⟨_, s.gens, s.drawn, _, s.os⟩) ?_ | refine wpI (P := wpAny _ _ _ _ _ _) ?_)); (try dsimp only)))))
        have N9' : News (hideAll s.heap [l1, l2, L]) Lf h9 ((mi, listOf (List.toArray mv) km) :: [(l1, listOf (List.toArray p) (ke + 1)), (l2, listOf (List.toArray av) ka), (L, ({ oL with slots := sl9 } : Obj))]) := N9
        have hml1 := hW1.length
        refine append_K F9 N9' (Upd.head (offC (Ne.symm d1) (offC (Ne.symm d2) (offC (Ne.symm d3) offN)))) ?_ (by rw [List.size_toArray, sizeLine_eq]; omega)
        intro h10 F10 N10
        (repeat' ((try ((with_reducible show wpAny _ _ (execs _ _) _ _ _); k_gentoks)); (try ((with_reducible show wpAny _ _ (exec _ _) _ _ _); (with_reducible refine foldQ ?_); intro qx)); (first | (k_unfold; (try (first | refine wpI (P := wpAny _ _ _ _ _ ⟨_, s.gens, s.drawn, _, s.os⟩) ?_ | refine wpI (P := wpAny _ _ _ _ _ _) ?_)); (try dsimp only)) | (k_end; wrow_close) | ((with_reducible show wpAny _ _ (call _ [Value.bytes _ _]) _ _ _); refine call_type_of (Tx := "bytes") rfl (by decide +kernel) ?_) | (with_reducible ((with_reducible show wpAny _ _ (storeName _ _ _) _ _ _); k_dflt (refine' storeM ?Fq7 ?Nq7 ?_ ?aq7 ?bq7; (case Fq7 => k_asm); (case Nq7 => k_asm); (case aq7 => rfl); (case bq7 => rfl); k_whole; intro m'q7 h'q7 F'q7 N'q7; (try k_sweep)))) | (with_reducible ((with_reducible show wpAny _ _ (eval (PySem.Expr.Name _ _) _) _ _ _); k_dflt (refine' nameX_L ?Fq7 ?vq7 ?_ ?aq7 ?bq7; (case Fq7 => k_asm); (case aq7 => rfl); (case bq7 => rfl); (case vq7 => exact Eq.refl (some _)); k_whole))) | ((with_reducible show InvEnd _ _ _ _ _ _); ((with_reducible rename Fr _ _ _ _ => kFq7); first | ((dsimp +zetaDelta only at kFq7); (try dsimp +zetaDelta only)) | dsimp +zetaDelta only)) | ((with_reducible show InvEndG _ _ _ _ _ _); ((with_reducible rename Fr _ _ _ _ => kFq7); first | ((dsimp +zetaDelta only at kFq7); (try dsimp +zetaDelta only)) | dsimp +zetaDelta only)) | walk1 | (dsimp only; walk1) | (leave1; (try dsimp only)) | fail "no step") <;> (repeat ((fail_if_success (fail_if_success ((generalize qx = zq); (with_reducible show zq _ _)))); k_unfold; (try clear qx); (try (first | refine wpI (P := wpAny _ _ _ _ _ ⟨_, s.gens, s.drawn, _, s.os⟩) ?_ | refine wpI (P := wpAny _ _ _ _ _ _) ?_)); (try dsimp only)))))
        rename Fr _ _ _ _ => F
        rename News _ _ _ _ => N
        rw [List.push_toArray] at N
        refine ⟨_, _, _, [(mi, listOf (List.toArray (mv ++ [.ref ya])) (km + 1)), (l1, listOf (List.toArray p) (ke + 1)), (l2, listOf (List.toArray av) ka), (L, ({ oL with slots := sl9 } : Obj))], n, rfl, F, newsC (by k_mem) N (newsC (by k_mem) N (newsC (by k_mem) N (newsC (by k_mem) N News.nil))), Nat.lt_succ_self _, mi, p, mv ++ [.ref ya], av, ke + 1, km + 1, ka, sl9, m1.take n, mms ++ [x], ams, ?_, rfl, d1, d2, d3, d4, hp, hM1.append (WdH.one hy), hA1, rfl, by omega, e9, ?_, hal⟩
        · intro y' hy'
          exact (if_neg hy').trans (if_neg hy')
        · rw [List.length_append, List.length_singleton]; omega
end Mine
end
section
open PySem PySem.W PyProof.Rows PySem.SeqAt PySem.MeetsSeq PySem.MeetsSeq3 PySem.Calls
open AutoSeq1 (wpAny_loadPart')
set_option maxRecDepth 100000
set_option maxHeartbeats 8000000
set_option linter.unusedVariables false
namespace Mine
/-- one list of ints ahead of another of its length -/
noncomputable def lexLt : List Int → List Int → Bool
  | a :: x, b :: y => if a = b then lexLt x y else decide (a < b)
  | _, _ => false
theorem ints_drop : ∀ {vs : List Value} {ns : List Int}, IntsAre vs ns → ∀ {i : Nat} {v : Value}, vs[i]? = some v → ∃ n t, v = .int n t ∧ ns.drop i = n :: ns.drop (i + 1)
  | _, _, .nil, i, v, e => by simp at e
  | _, _, .cons n t r, 0, v, e => by
    simp at e
    exact ⟨n, t, e.symm, rfl⟩
  | _, _, .cons n t r, i + 1, v, e => by
    obtain ⟨m, u, e', w⟩ := ints_drop r (i := i) (v := v) (by simpa using e)
    exact ⟨m, u, e', by simpa using w⟩
theorem lt_loopAt (l b : Addr) (items items2 : Array Value) (n n2 : Nat) (dd dd2 : Option Addr) (sl sl2 : Array (Option Value)) (ns ms : List Int) (h1 : IntsAre items.toList ns) (h2 : IntsAre items2.toList ms) (hsz : items.size = items2.size) (k : Nat) :
    ∀ i : Nat, items.size - i = k → Meets (Builtin.«list.__eq__.loop» ⟨[.ref l, .ref b, rawInt i, rawInt 0], []⟩)
      (fun A R s => s.heap.get? l = some { cls := .type "list", dict := dd, data := .seq items n, slots := sl } ∧ s.heap.get? b = some { cls := .type "list", dict := dd2, data := .seq items2 n2, slots := sl2 } ∧
        R (.ok (.ret (.bool (lexLt (ns.drop i) (ms.drop i))))) s) := by
  induction k with
  | zero =>
    intro i hk prog w A R s h
    obtain ⟨hp, g, d, tk, os⟩ := s; obtain ⟨hl, hb, h⟩ := h
    wp_walk using wpAny_loadPart' hl, wpAny_loadPart' hb
    have hi1 : items[((i : Nat) : Int).toNat]? = none := by simp; omega
    have hi2 : items2[((i : Nat) : Int).toNat]? = none := by simp; omega
    have hd : ns.drop i = [] := by
      have := h1.length
      simp at this ⊢; omega
    have hd2 : ms.drop i = [] := by
      have := h2.length
      simp at this ⊢; omega
    rw [hi1, hi2]
    wp_walk using wpAny_loadPart' hl, wpAny_loadPart' hb
    rw [hd, hd2] at h
    show R (.ok (.ret (.bool (decide (items.size < items2.size))))) _
    rw [hsz]
    simpa [lexLt] using h
  | succ k ih =>
    intro i hk prog w A R s h
    obtain ⟨hp, g, d, tk, os⟩ := s; obtain ⟨hl, hb, h⟩ := h
    wp_walk using wpAny_loadPart' hl, wpAny_loadPart' hb
    have hlt : i < items.size := by omega
    have hlt2 : i < items2.size := by omega
    obtain ⟨x, tx, ex, dx⟩ := ints_drop h1 (i := i) (v := items[i]) (by simp)
    obtain ⟨y, ty, ey, dy⟩ := ints_drop h2 (i := i) (v := items2[i]) (by simp)
    have hi1 : items[((i : Nat) : Int).toNat]? = some (.int x tx) := by rw [← ex]; simp [hlt]
    have hi2 : items2[((i : Nat) : Int).toNat]? = some (.int y ty) := by rw [← ey]; simp [hlt2]
    have hc : ((i : Int) + 1) = ((i + 1 : Nat) : Int) := by push_cast; rfl
    rw [dx, dy] at h
    rw [hi1, hi2]
    refine wpAny_bind (EqAt.int_int x tx y ty prog w _ _ ?_)
    by_cases hb' : x = y
    · subst hb'
      have e1 : (x == x) = true := by simp
      rw [e1]
      wp_walk
      rw [hc]
      exact ⟨plainId_quiet plain_eq_loop _, codeAny_builtin entry_eq_loop (by
        rw [Around.under_plainId plain_eq_loop _]
        exact ih (i + 1) (by omega) prog w A R _ ⟨hl, hb, by simpa [lexLt] using h⟩)⟩
    · have e1 : (x == y) = false := by simp [hb']
      rw [e1]
      wp_walk using wpAny_loadPart' hl, wpAny_loadPart' hb
      rw [hi1, hi2]
      dsimp only
      refine wpAny_bind (PyProof.Rows.lt_int (a := x) (b := y) (t := tx) (u := ty) ?_)
      wp_walk
      simpa [lexLt, hb', Ne.symm hb'] using h
theorem list_ltAt (l b : Addr) (items items2 : Array Value) (n n2 : Nat) (dd dd2 : Option Addr) (sl sl2 : Array (Option Value)) (ns ms : List Int) (h1 : IntsAre items.toList ns) (h2 : IntsAre items2.toList ms) (hsz : items.size = items2.size) :
    Meets (Builtin.«list.__lt__» ⟨[.ref l, .ref b], []⟩)
      (fun A R s => s.heap.get? l = some { cls := .type "list", dict := dd, data := .seq items n, slots := sl } ∧ s.heap.get? b = some { cls := .type "list", dict := dd2, data := .seq items2 n2, slots := sl2 } ∧
        R (.ok (.ret (.bool (lexLt ns ms)))) s) := by
  intro prog w A R s h
  obtain ⟨hp, g, d, tk, os⟩ := s; obtain ⟨hl, hb, h⟩ := h
  have f3 := AutoSeq1.sub_list_list
  wp_walk using wpAny_loadPart' hl, wpAny_loadPart' hb
  exact ⟨plainId_quiet plain_eq_loop _, codeAny_builtin entry_eq_loop (by
    rw [Around.under_plainId plain_eq_loop _]
    exact lt_loopAt l b items items2 n n2 dd dd2 sl sl2 ns ms h1 h2 hsz _ 0 rfl prog w A R _ ⟨hl, hb, by simpa using h⟩)⟩
theorem gt_loopAt (l b : Addr) (items items2 : Array Value) (n n2 : Nat) (dd dd2 : Option Addr) (sl sl2 : Array (Option Value)) (ns ms : List Int) (h1 : IntsAre items.toList ns) (h2 : IntsAre items2.toList ms) (hsz : items.size = items2.size) (k : Nat) :
    ∀ i : Nat, items.size - i = k → Meets (Builtin.«list.__eq__.loop» ⟨[.ref l, .ref b, rawInt i, rawInt 4], []⟩)
      (fun A R s => s.heap.get? l = some { cls := .type "list", dict := dd, data := .seq items n, slots := sl } ∧ s.heap.get? b = some { cls := .type "list", dict := dd2, data := .seq items2 n2, slots := sl2 } ∧
        R (.ok (.ret (.bool (lexLt (ms.drop i) (ns.drop i))))) s) := by
  induction k with
  | zero =>
    intro i hk prog w A R s h
    obtain ⟨hp, g, d, tk, os⟩ := s; obtain ⟨hl, hb, h⟩ := h
    wp_walk using wpAny_loadPart' hl, wpAny_loadPart' hb
    have hi1 : items[((i : Nat) : Int).toNat]? = none := by simp; omega
    have hi2 : items2[((i : Nat) : Int).toNat]? = none := by simp; omega
    have hd : ns.drop i = [] := by
      have := h1.length
      simp at this ⊢; omega
    have hd2 : ms.drop i = [] := by
      have := h2.length
      simp at this ⊢; omega
    rw [hi1, hi2]
    wp_walk using wpAny_loadPart' hl, wpAny_loadPart' hb
    rw [hd, hd2] at h
    show R (.ok (.ret (.bool (decide (items.size > items2.size))))) _
    rw [hsz]
    simpa [lexLt] using h
  | succ k ih =>
    intro i hk prog w A R s h
    obtain ⟨hp, g, d, tk, os⟩ := s; obtain ⟨hl, hb, h⟩ := h
    wp_walk using wpAny_loadPart' hl, wpAny_loadPart' hb
    have hlt : i < items.size := by omega
    have hlt2 : i < items2.size := by omega
    obtain ⟨x, tx, ex, dx⟩ := ints_drop h1 (i := i) (v := items[i]) (by simp)
    obtain ⟨y, ty, ey, dy⟩ := ints_drop h2 (i := i) (v := items2[i]) (by simp)
    have hi1 : items[((i : Nat) : Int).toNat]? = some (.int x tx) := by rw [← ex]; simp [hlt]
    have hi2 : items2[((i : Nat) : Int).toNat]? = some (.int y ty) := by rw [← ey]; simp [hlt2]
    have hc : ((i : Int) + 1) = ((i + 1 : Nat) : Int) := by push_cast; rfl
    rw [dx, dy] at h
    rw [hi1, hi2]
    refine wpAny_bind (EqAt.int_int x tx y ty prog w _ _ ?_)
    by_cases hb' : x = y
    · subst hb'
      have e1 : (x == x) = true := by simp
      rw [e1]
      wp_walk
      rw [hc]
      exact ⟨plainId_quiet plain_eq_loop _, codeAny_builtin entry_eq_loop (by
        rw [Around.under_plainId plain_eq_loop _]
        exact ih (i + 1) (by omega) prog w A R _ ⟨hl, hb, by simpa [lexLt] using h⟩)⟩
    · have e1 : (x == y) = false := by simp [hb']
      rw [e1]
      wp_walk using wpAny_loadPart' hl, wpAny_loadPart' hb
      rw [hi1, hi2]
      dsimp only
      refine wpAny_bind (PyProof.Rows.gt_int (a := x) (b := y) (t := tx) (u := ty) ?_)
      wp_walk
      simpa [lexLt, hb', Ne.symm hb'] using h
theorem list_gtAt (l b : Addr) (items items2 : Array Value) (n n2 : Nat) (dd dd2 : Option Addr) (sl sl2 : Array (Option Value)) (ns ms : List Int) (h1 : IntsAre items.toList ns) (h2 : IntsAre items2.toList ms) (hsz : items.size = items2.size) :
    Meets (Builtin.«list.__gt__» ⟨[.ref l, .ref b], []⟩)
      (fun A R s => s.heap.get? l = some { cls := .type "list", dict := dd, data := .seq items n, slots := sl } ∧ s.heap.get? b = some { cls := .type "list", dict := dd2, data := .seq items2 n2, slots := sl2 } ∧
        R (.ok (.ret (.bool (lexLt ms ns)))) s) := by
  intro prog w A R s h
  obtain ⟨hp, g, d, tk, os⟩ := s; obtain ⟨hl, hb, h⟩ := h
  have f3 := AutoSeq1.sub_list_list
  wp_walk using wpAny_loadPart' hl, wpAny_loadPart' hb
  exact ⟨plainId_quiet plain_eq_loop _, codeAny_builtin entry_eq_loop (by
    rw [Around.under_plainId plain_eq_loop _]
    exact gt_loopAt l b items items2 n n2 dd dd2 sl sl2 ns ms h1 h2 hsz _ 0 rfl prog w A R _ ⟨hl, hb, by simpa using h⟩)⟩
end Mine
end
section
open PySem PySem.W PyProof.Rows PySem.SeqAt PySem.MeetsSeq PySem.Calls
set_option maxRecDepth 100000
set_option maxHeartbeats 8000000
set_option linter.unusedVariables false
namespace Mine
/-- the word of the one number stands ahead of the other's -/
noncomputable def ltW (m m' : Int) : Bool := lexLt (wordOf m) (wordOf m')
section
variable {prog : Program} {w : World} {A : Around} {s : Shared} {E : Value → Shared → Prop}
theorem lt_lists {a b : Addr} {xs ys : List Value} {ns ms : List Int} {Q : Value → Shared → Prop} (hl : s.heap.IsList a xs.toArray) (hi : IntsAre xs ns) (hl' : s.heap.IsList b ys.toArray) (hi' : IntsAre ys ms) (hz : ns.length = ms.length) (hu : A.units < cLine)
    (h : Q (.bool (lexLt ns ms)) s) : wpAny (model prog w) A (compareOp .Lt (.ref a) (.ref b)) Q E s := by
  obtain ⟨⟨cls, dd, dat, sl⟩, ho, hc, n, hd⟩ := hl
  obtain ⟨⟨cls2, dd2, dat2, sl2⟩, ho2, hc2, n2, hd2⟩ := hl'
  simp only at hc hd hc2 hd2
  subst hc hd hc2 hd2
  have hsz : xs.toArray.size = ys.toArray.size := by rw [List.size_toArray, List.size_toArray, hi.length, hi'.length]; exact hz
  exact (richCompare_meets_room (op := .Lt) ⟨_, ho, rfl⟩ ⟨_, ho2, rfl⟩ F.slot_list_lt F.entry_list_lt (F.args_list_lt_2 _ _) (list_ltAt a b _ _ n n2 dd dd2 sl sl2 ns ms hi hi' hsz) ⟨ho, ho2, And.intro (fun x : Value.bool _ = Value.notImplemented => nomatch x) h⟩ hu : wpAny (model prog w) A (richCompare .Lt (.ref a) (.ref b)) Q E s)
theorem gt_lists {a b : Addr} {xs ys : List Value} {ns ms : List Int} {Q : Value → Shared → Prop} (hl : s.heap.IsList a xs.toArray) (hi : IntsAre xs ns) (hl' : s.heap.IsList b ys.toArray) (hi' : IntsAre ys ms) (hz : ns.length = ms.length) (hu : A.units < cLine)
    (h : Q (.bool (lexLt ms ns)) s) : wpAny (model prog w) A (compareOp .Gt (.ref a) (.ref b)) Q E s := by
  obtain ⟨⟨cls, dd, dat, sl⟩, ho, hc, n, hd⟩ := hl
  obtain ⟨⟨cls2, dd2, dat2, sl2⟩, ho2, hc2, n2, hd2⟩ := hl'
  simp only at hc hd hc2 hd2
  subst hc hd hc2 hd2
  have hsz : xs.toArray.size = ys.toArray.size := by rw [List.size_toArray, List.size_toArray, hi.length, hi'.length]; exact hz
  exact (richCompare_meets_room (op := .Gt) ⟨_, ho, rfl⟩ ⟨_, ho2, rfl⟩ F.slot_list_gt F.entry_list_gt (F.args_list_gt_2 _ _) (list_gtAt a b _ _ n n2 dd dd2 sl sl2 ns ms hi hi' hsz) ⟨ho, ho2, And.intro (fun x : Value.bool _ = Value.notImplemented => nomatch x) h⟩ hu : wpAny (model prog w) A (richCompare .Gt (.ref a) (.ref b)) Q E s)
/-- the direct question that a sort asks of two lists -/
theorem one_lists {a b : Addr} {xs ys : List Value} {ns ms : List Int} {Q : Bool → Shared → Prop} (hl : s.heap.IsList a xs.toArray) (hi : IntsAre xs ns) (hl' : s.heap.IsList b ys.toArray) (hi' : IntsAre ys ms) (hz : ns.length = ms.length) (hu : A.units < cLine)
    (h : Q (lexLt ns ms) s) : wpAny (model prog w) A (keyLt' oneType' (.ref a) (.ref b)) Q E s := by
  have hT := hl.typeIs
  obtain ⟨⟨cls, dd, dat, sl⟩, ho, hc, n, hd⟩ := hl
  obtain ⟨⟨cls2, dd2, dat2, sl2⟩, ho2, hc2, n2, hd2⟩ := hl'
  simp only at hc hd hc2 hd2
  subst hc hd hc2 hd2
  have hsz : xs.toArray.size = ys.toArray.size := by rw [List.size_toArray, List.size_toArray, hi.length, hi'.length]; exact hz
  rw [keyLt'_oneType, oneLt'_eq]
  simp only [if_true]
  refine wpAny_bind (wpAny_cRoomFor hu ?_)
  refine wpAny_bind (wpAny_callSpecialIfBound?_slot hT F.slot_list_lt (call_meets F.slot_list_lt hT F.entry_list_lt (F.args_list_lt_2 _ _) (list_ltAt a b _ _ n n2 dd dd2 sl sl2 ns ms hi hi' hsz) ⟨ho, ho2, ?_⟩))
  exact wpAny_truthy_bool h
theorem ltWords {v v' : Value} {m m' : Int} {Q : Value → Shared → Prop} (hw : IsW s.heap v m) (hw' : IsW s.heap v' m') (hu : A.units < cLine) (h : Q (.bool (ltW m m')) s) : wpAny (model prog w) A (compareOp .Lt v v') Q E s := by
  obtain ⟨a, xs, rfl, l, i, p, q⟩ := hw
  obtain ⟨a', xs', rfl, l', i', p', q'⟩ := hw'
  exact lt_lists l i l' i' rfl hu h
theorem gtWords {v v' : Value} {m m' : Int} {Q : Value → Shared → Prop} (hw : IsW s.heap v m) (hw' : IsW s.heap v' m') (hu : A.units < cLine) (h : Q (.bool (ltW m' m)) s) : wpAny (model prog w) A (compareOp .Gt v v') Q E s := by
  obtain ⟨a, xs, rfl, l, i, p, q⟩ := hw
  obtain ⟨a', xs', rfl, l', i', p', q'⟩ := hw'
  exact gt_lists l i l' i' rfl hu h
theorem oneWords {v v' : Value} {m m' : Int} {Q : Bool → Shared → Prop} (hw : IsW s.heap v m) (hw' : IsW s.heap v' m') (hu : A.units < cLine) (h : Q (ltW m m') s) : wpAny (model prog w) A (keyLt' oneType' v v') Q E s := by
  obtain ⟨a, xs, rfl, l, i, p, q⟩ := hw
  obtain ⟨a', xs', rfl, l', i', p', q'⟩ := hw'
  exact one_lists l i l' i' rfl hu h
end
end Mine
end
section
open PySem PySem.W PyProof.Rows
set_option maxRecDepth 100000
set_option maxHeartbeats 8000000
set_option linter.unusedVariables false
namespace Mine
/-- the tree of questions, answered by lt, ends in a -/
inductive Runs (lt : Nat → Nat → Bool) (n : Nat) {α : Type} : KasT α → α → Prop
  | ret (a : α) : Runs lt n (.ret a) a
  | ask {i j : Nat} {k : Bool → KasT α} {a : α} : i < n → j < n → Runs lt n (k (lt i j)) a → Runs lt n (.ask i j k) a
theorem Runs.bind {lt : Nat → Nat → Bool} {n : Nat} {α β : Type} {t : KasT α} {f : α → KasT β} {a : α} {b : β} (h : Runs lt n t a) (h' : Runs lt n (f a) b) : Runs lt n (t.bind f) b := by
  induction h with
  | ret a => exact h'
  | ask hi hj _ ih => exact .ask hi hj (ih h')
theorem Runs.wp {lt : Nat → Nat → Bool} {n : Nat} {α : Type} {t : KasT α} {a : α} {cmp : Nat → Nat → (Bool → Shared → Prop) → Shared → Prop} {s : Shared} {Q : α → Shared → Prop}
    (hc : ∀ i j C, i < n → j < n → C (lt i j) s → cmp i j C s) (h : Runs lt n t a) (hq : Q a s) : t.kasWp cmp Q s := by
  induction h with
  | ret a => exact hq
  | ask hi hj _ ih => exact hc _ _ _ hi hj (ih hq)
section
variable {key : Nat → Nat} {n : Nat}
abbrev Ky (key : Nat → Nat) (p : Array Nat) (i : Nat) : Nat := key (p.getD i 0)
abbrev ltK (key : Nat → Nat) (i j : Nat) : Bool := decide (key i < key j)
/-- an order of the numbers below n -/
structure Ord (key : Nat → Nat) (n : Nat) (p : Array Nat) : Prop where
  perm : p.toList.Perm (List.range n)
  inj : ∀ i j, i < n → j < n → key i = key j → i = j
theorem Ord.size {p : Array Nat} (o : Ord key n p) : p.size = n := by
  have := o.perm.length_eq
  simpa using this
theorem Ord.lt {p : Array Nat} (o : Ord key n p) {i : Nat} (h : i < n) : p.getD i 0 < n := by
  have e : p.getD i 0 = p.toList[i]'(by simp [o.size, h]) := by simp [Array.getD, o.size, h]
  rw [e]
  exact List.mem_range.mp (o.perm.mem_iff.mp (List.getElem_mem _))
theorem Ord.ne {p : Array Nat} (o : Ord key n p) {i j : Nat} (hi : i < n) (hj : j < n) (hij : i ≠ j) : Ky key p i ≠ Ky key p j := by
  intro e
  have e' := o.inj _ _ (o.lt hi) (o.lt hj) e
  have e1 : p.getD i 0 = p.toList[i]'(by simp [o.size, hi]) := by simp [Array.getD, o.size, hi]
  have e2 : p.getD j 0 = p.toList[j]'(by simp [o.size, hj]) := by simp [Array.getD, o.size, hj]
  rw [e1, e2] at e'
  have nd : p.toList.Nodup := o.perm.nodup_iff.mpr List.nodup_range
  exact hij ((List.getElem_inj nd).mp e')
def Sr (key : Nat → Nat) (p : Array Nat) (m : Nat) : Prop := ∀ i j, i < j → j < m → Ky key p i < Ky key p j
def Ds (key : Nat → Nat) (p : Array Nat) (m : Nat) : Prop := ∀ i j, i < j → j < m → Ky key p j < Ky key p i
theorem Sr.snoc {p : Array Nat} : ∀ {k : Nat}, 1 ≤ k → Sr key p k → Ky key p (k - 1) < Ky key p k → Sr key p (k + 1)
  | k + 1, _, hs, h, i, j, hij, hj => by
    rcases Nat.lt_or_eq_of_le (Nat.le_of_lt_succ hj) with hj | rfl
    · exact hs i j hij hj
    · rcases Nat.lt_or_eq_of_le (Nat.le_of_lt_succ hij) with hi | rfl
      · exact Nat.lt_trans (hs _ _ hi (Nat.lt_succ_self _)) h
      · exact h
theorem Ds.snoc {p : Array Nat} : ∀ {k : Nat}, 1 ≤ k → Ds key p k → Ky key p k < Ky key p (k - 1) → Ds key p (k + 1)
  | k + 1, _, hs, h, i, j, hij, hj => by
    rcases Nat.lt_or_eq_of_le (Nat.le_of_lt_succ hj) with hj | rfl
    · exact hs i j hij hj
    · rcases Nat.lt_or_eq_of_le (Nat.le_of_lt_succ hij) with hi | rfl
      · exact Nat.lt_trans h (hs _ _ hi (Nat.lt_succ_self _))
      · exact h
theorem ix1 {k f n : Nat} (h : k + (f + 1) ≤ n) : k < n := Nat.lt_of_lt_of_le (Nat.lt_add_of_pos_right (Nat.succ_pos f)) h
theorem ix2 {k f n : Nat} (h : k + (f + 1) ≤ n) : k - 1 < n := Nat.lt_of_le_of_lt (Nat.sub_le k 1) (ix1 h)
theorem ix3 (k f : Nat) : k + 1 + f = k + (f + 1) := Nat.succ_add_eq_add_succ k f
theorem ix4 {k : Nat} (h : 1 ≤ k) : k ≠ k - 1 := Nat.ne_of_gt (Nat.sub_lt h Nat.one_pos)
theorem ix5 {j k : Nat} (h : 0 < j) (hj : j < k + 1) : j - 1 < k := Nat.lt_of_lt_of_le (Nat.sub_lt h Nat.one_pos) (Nat.le_of_lt_succ hj)
theorem gt_of {a b : Nat} (h : ¬ a < b) (h' : a ≠ b) : b < a := Nat.lt_of_le_of_ne (Nat.le_of_not_lt h) (Ne.symm h')
theorem runs_asc {p : Array Nat} (o : Ord key n p) : ∀ (f k : Nat), 1 ≤ k → k + f ≤ n → Sr key p k → ∃ m, k ≤ m ∧ m ≤ k + f ∧ Sr key p m ∧ (m < k + f → Ky key p m < Ky key p (m - 1)) ∧ Runs (ltK key) n (kas_asc p f k) m
  | 0, k, _, _, hs => ⟨k, Nat.le_refl _, Nat.le_refl _, hs, fun h => absurd h (Nat.lt_irrefl _), .ret _⟩
  | f + 1, k, h1, hk, hs => by
    by_cases c : Ky key p k < Ky key p (k - 1)
    · refine ⟨k, Nat.le_refl _, Nat.le_add_right _ _, hs, fun _ => c, .ask (o.lt (ix1 hk)) (o.lt (ix2 hk)) ?_⟩
      have e : ltK key (p.getD k 0) (p.getD (k - 1) 0) = true := decide_eq_true c
      rw [e]
      exact .ret _
    · obtain ⟨m, a1, a2, a3, a4, a5⟩ := runs_asc o f (k + 1) (Nat.succ_pos k) (ix3 k f ▸ hk) (hs.snoc h1 (gt_of c (o.ne (ix1 hk) (ix2 hk) (ix4 h1))))
      rw [ix3] at a2 a4
      refine ⟨m, Nat.le_of_succ_le a1, a2, a3, a4, .ask (o.lt (ix1 hk)) (o.lt (ix2 hk)) ?_⟩
      have e : ltK key (p.getD k 0) (p.getD (k - 1) 0) = false := decide_eq_false c
      rw [e]
      exact a5
theorem runs_desc {p : Array Nat} (o : Ord key n p) : ∀ (f k : Nat), 1 ≤ k → k + f ≤ n → Ds key p k → ∃ m, k ≤ m ∧ m ≤ k + f ∧ Ds key p m ∧ Runs (ltK key) n (kas_desc f p k 0) (p, m, 0)
  | 0, k, _, _, hs => ⟨k, Nat.le_refl _, Nat.le_refl _, hs, .ret _⟩
  | f + 1, k, h1, hk, hs => by
    by_cases c : Ky key p k < Ky key p (k - 1)
    · obtain ⟨m, a1, a2, a3, a5⟩ := runs_desc o f (k + 1) (Nat.succ_pos k) (ix3 k f ▸ hk) (hs.snoc h1 c)
      rw [ix3] at a2
      refine ⟨m, Nat.le_of_succ_le a1, a2, a3, .ask (o.lt (ix1 hk)) (o.lt (ix2 hk)) ?_⟩
      have e : ltK key (p.getD k 0) (p.getD (k - 1) 0) = true := decide_eq_true c
      rw [e]
      exact a5
    · refine ⟨k, Nat.le_refl _, Nat.le_add_right _ _, hs, .ask (o.lt (ix1 hk)) (o.lt (ix2 hk)) ?_⟩
      have e : ltK key (p.getD k 0) (p.getD (k - 1) 0) = false := decide_eq_false c
      rw [e]
      refine .ask (o.lt (ix2 hk)) (o.lt (ix1 hk)) ?_
      have e : ltK key (p.getD (k - 1) 0) (p.getD k 0) = true := decide_eq_true (gt_of c (o.ne (ix1 hk) (ix2 hk) (ix4 h1)))
      rw [e]
      exact .ret _
theorem getD_of {p q : Array Nat} {i j : Nat} (h : p[i]? = q[j]?) : p.getD i 0 = q.getD j 0 := by
  rw [Array.getD_eq_getD_getElem?, Array.getD_eq_getD_getElem?, h]
theorem Ord.perm' {p q : Array Nat} (o : Ord key n p) (h : q.Perm p) : Ord key n q := ⟨(Array.perm_iff_toList_perm.mp h).trans o.perm, o.inj⟩
theorem ix6 {i j d : Nat} (hij : i < j) (hj : j < d) : 0 + d - 1 - j < 0 + d - 1 - i := by
  rw [Nat.zero_add]
  exact Nat.sub_lt_sub_left (Nat.lt_of_lt_of_le hij (Nat.le_sub_one_of_lt hj)) hij
theorem ix7 {i d : Nat} (h : i < d) : 0 + d - 1 - i < d := by
  rw [Nat.zero_add]
  exact Nat.lt_of_le_of_lt (Nat.sub_le _ _) (Nat.sub_lt (Nat.lt_of_le_of_lt (Nat.zero_le _) h) Nat.one_pos)
theorem rev_get {p : Array Nat} (o : Ord key n p) {d k : Nat} (hd : d ≤ n) (hk : k < d) : (kas_rev p 0 d).getD k 0 = p.getD (0 + d - 1 - k) 0 :=
  getD_of ((getElem?_mirror_all (xs := p) (i := 0) (j := d) (by rw [o.size]; exact hd) k).trans (if_pos ⟨Nat.zero_le _, hk⟩))
theorem runs_tail3 {p : Array Nat} (o : Ord key n p) {d : Nat} (h1 : 1 ≤ d) (hd : d ≤ n) (hs : Ds key p d) : ∃ m q, d ≤ m ∧ m ≤ n ∧ Ord key n q ∧ Sr key q m ∧ Runs (ltK key) n (kas_tail3 d n p) (m, q) := by
  have o' : Ord key n (kas_rev p 0 d) := o.perm' (mirror_perm _ _ _ _)
  have hr : Sr key (kas_rev p 0 d) d := by
    intro i j hij hj
    show key _ < key _
    rw [rev_get o hd hj, rev_get o hd (Nat.lt_trans hij hj)]
    exact hs _ _ (ix6 hij hj) (ix7 (Nat.lt_trans hij hj))
  obtain ⟨m, a1, a2, a3, a4, a5⟩ := runs_asc o' (n - d) d h1 (Nat.le_of_eq (Nat.add_sub_of_le hd)) hr
  exact ⟨m, _, a1, Nat.le_trans a2 (Nat.le_of_eq (Nat.add_sub_of_le hd)), o', a3, a5.bind (.ret _)⟩
theorem Sr.one {p : Array Nat} : Sr key p 1 := fun _ _ hij hj => absurd (Nat.lt_of_lt_of_le hij (Nat.le_of_lt_succ hj)) (Nat.not_lt_zero _)
theorem Ds.one {p : Array Nat} : Ds key p 1 := fun _ _ hij hj => absurd (Nat.lt_of_lt_of_le hij (Nat.le_of_lt_succ hj)) (Nat.not_lt_zero _)
theorem runs_count (h1 : 1 ≤ n) {p : Array Nat} (o : Ord key n p) : ∃ m q, 1 ≤ m ∧ m ≤ n ∧ Ord key n q ∧ Sr key q m ∧ Runs (ltK key) n (kas_count n p) (m, q) := by
  obtain ⟨m, a1, a2, a3, a4, a5⟩ := runs_asc o (n - 1) 1 (Nat.le_refl _) (Nat.le_of_eq (Nat.add_sub_of_le h1)) Sr.one
  rw [Nat.add_sub_of_le h1] at a2 a4
  by_cases e1 : m = n
  · exact ⟨m, p, a1, a2, o, a3, a5.bind (by simp only [e1, beq_self_eq_true, if_true]; exact .ret _)⟩
  · have e1' : (m == n) = false := beq_eq_false_iff_ne.mpr e1
    by_cases e2 : m > 1
    · refine ⟨m, p, a1, a2, o, a3, a5.bind ?_⟩
      simp only [e1', Bool.false_eq_true, if_false, if_pos e2]
      refine .ask (o.lt h1) (o.lt (Nat.lt_of_lt_of_le (Nat.sub_lt a1 Nat.one_pos) a2)) ?_
      have e : ltK key (p.getD 0 0) (p.getD (m - 1) 0) = true := decide_eq_true (a3 0 (m - 1) (Nat.sub_pos_of_lt e2) (Nat.sub_lt a1 Nat.one_pos))
      rw [e]
      exact .ret _
    · have e3 : m = 1 := Nat.le_antisymm (Nat.le_of_not_lt e2) a1
      subst e3
      have h2 : 1 + 1 ≤ n := Nat.lt_of_le_of_ne a2 e1
      obtain ⟨d, b1, b2, b3, b4⟩ := runs_desc o (n - (1 + 1)) (1 + 1) (Nat.le_succ 1) (Nat.le_of_eq (Nat.add_sub_of_le h2)) (Ds.one.snoc (Nat.le_refl 1) (a4 h2))
      obtain ⟨m', q, c1, c2, c3, c4, c5⟩ := runs_tail3 o (d := d) (Nat.le_of_succ_le b1) (Nat.le_trans b2 (Nat.le_of_eq (Nat.add_sub_of_le h2))) b3
      refine ⟨m', q, Nat.le_trans (Nat.le_of_succ_le b1) c1, c2, c3, c4, a5.bind ?_⟩
      simp only [e1', Bool.false_eq_true, if_false, if_neg e2]
      exact b4.bind (by simpa using c5)
theorem mid_l {l r : Nat} (c : l < r) : l ≤ (l + r) / 2 := by omega
theorem mid_r {l r : Nat} (c : l < r) : (l + r) / 2 < r := by omega
theorem mid_lf {l r f : Nat} (c : l < r) (h : r - l ≤ f + 1) : (l + r) / 2 - l ≤ f := Nat.le_of_lt_succ (Nat.lt_of_lt_of_le (Nat.sub_lt_sub_right (mid_l c) (mid_r c)) h)
theorem mid_rf {l r f : Nat} (c : l < r) (h : r - l ≤ f + 1) : r - ((l + r) / 2 + 1) ≤ f := Nat.le_of_lt_succ (Nat.lt_of_lt_of_le (Nat.sub_lt_sub_left c (Nat.lt_succ_of_le (mid_l c))) h)
theorem runs_place {p : Array Nat} (o : Ord key n p) {k : Nat} (hk : k < n) (hs : Sr key p k) : ∀ (f l r : Nat), l ≤ r → r ≤ k → r - l ≤ f → (∀ i, i < l → Ky key p i < Ky key p k) → (∀ i, r ≤ i → i < k → Ky key p k < Ky key p i) →
    ∃ m, m ≤ k ∧ (∀ i, i < m → Ky key p i < Ky key p k) ∧ (∀ i, m ≤ i → i < k → Ky key p k < Ky key p i) ∧ Runs (ltK key) n (kas_place p k f l r) m
  | 0, l, r, h1, h2, h3, hl, hr => by
    have : l = r := Nat.le_antisymm h1 (Nat.le_of_sub_eq_zero (Nat.le_zero.mp h3))
    subst this
    exact ⟨l, h2, hl, hr, .ret _⟩
  | f + 1, l, r, h1, h2, h3, hl, hr => by
    unfold kas_place
    by_cases c : l ≥ r
    · have : l = r := Nat.le_antisymm h1 c
      subst this
      exact ⟨l, h2, hl, hr, by rw [if_pos (Nat.le_refl _)]; exact .ret _⟩
    · have c' := Nat.lt_of_not_ge c
      have hmk := Nat.lt_of_lt_of_le (mid_r c') h2
      have hmn := Nat.lt_trans hmk hk
      rw [if_neg c]
      by_cases d : Ky key p k < Ky key p ((l + r) / 2)
      · obtain ⟨m, a1, a2, a3, a4⟩ := runs_place o hk hs f l ((l + r) / 2) (mid_l c') (Nat.le_of_lt hmk) (mid_lf c' h3) hl (fun i hi hik =>
          (Nat.lt_or_eq_of_le hi).elim (fun h => Nat.lt_trans d (hs _ i h hik)) (fun h => h ▸ d))
        refine ⟨m, a1, a2, a3, .ask (o.lt hk) (o.lt hmn) ?_⟩
        have e : ltK key (p.getD k 0) (p.getD ((l + r) / 2) 0) = true := decide_eq_true d
        rw [e]
        exact a4
      · have hne := gt_of d (o.ne hk hmn (Nat.ne_of_gt hmk))
        obtain ⟨m, a1, a2, a3, a4⟩ := runs_place o hk hs f ((l + r) / 2 + 1) r (mid_r c') h2 (mid_rf c' h3) (fun i hi =>
          (Nat.lt_or_eq_of_le (Nat.le_of_lt_succ hi)).elim (fun h => Nat.lt_trans (hs i _ h hmk) hne) (fun h => h ▸ hne)) hr
        refine ⟨m, a1, a2, a3, .ask (o.lt hk) (o.lt hmn) ?_⟩
        have e : ltK key (p.getD k 0) (p.getD ((l + r) / 2) 0) = false := decide_eq_false d
        rw [e]
        exact a4
abbrev bx (m k i : Nat) : Nat := if i = m then k else if m < i ∧ i ≤ k then i - 1 else i
theorem bx_hit {m k : Nat} : bx m k m = k := if_pos rfl
theorem bx_low {m k i : Nat} (h : i < m) : bx m k i = i := (if_neg (Nat.ne_of_lt h)).trans (if_neg fun q => Nat.lt_asymm h q.1)
theorem bx_mid {m k i : Nat} (h : m < i) (h' : i < k + 1) : bx m k i = i - 1 := (if_neg (Nat.ne_of_gt h)).trans (if_pos ⟨h, Nat.le_of_lt_succ h'⟩)
theorem bubble_get {p : Array Nat} (o : Ord key n p) {k m : Nat} (hk : k < n) (a1 : m ≤ k) (i : Nat) : (bubble p k (k - m)).getD i 0 = p.getD (bx m k i) 0 := by
  refine getD_of ((getElem?_bubble (xs := p) (src := k) (by rw [o.size]; exact hk) (k - m) (Nat.sub_le _ _) i).trans ?_)
  rw [Nat.sub_sub_self a1]
  unfold bx
  split
  · rfl
  · split <;> rfl
theorem runs_bin : ∀ (f : Nat) {p : Array Nat} (k : Nat), Ord key n p → 1 ≤ k → k + f = n → Sr key p k → ∃ q, Ord key n q ∧ Sr key q n ∧ Runs (ltK key) n (kas_bin f p k) q
  | 0, p, k, o, _, hk, hs => ⟨p, o, (show k = n from hk) ▸ hs, .ret _⟩
  | f + 1, p, k, o, h1, hk, hs => by
    have hkn := ix1 (Nat.le_of_eq hk)
    obtain ⟨m, a1, a2, a3, a4⟩ := runs_place o hkn hs k 0 k (Nat.zero_le _) (Nat.le_refl _) (Nat.sub_le k 0) (fun i hi => absurd hi (Nat.not_lt_zero _)) (fun i h1 h2 => absurd h2 (Nat.not_lt.mpr h1))
    have o' : Ord key n (bubble p k (k - m)) := o.perm' (bubble_perm _ _ _)
    obtain ⟨q, b1, b2, b3⟩ := runs_bin f (p := bubble p k (k - m)) (k + 1) o' (Nat.succ_pos k) (ix3 k f ▸ hk) (by
      intro i j hij hj
      show key _ < key _
      rw [bubble_get o hkn a1, bubble_get o hkn a1]
      rcases Nat.lt_trichotomy i m with c | rfl | c
      · rw [bx_low c]
        rcases Nat.lt_trichotomy j m with d | rfl | d
        · rw [bx_low d]; exact hs _ _ hij (Nat.lt_of_lt_of_le d a1)
        · rw [bx_hit]; exact a2 _ hij
        · rw [bx_mid d hj]; exact hs _ _ (Nat.lt_of_lt_of_le c (Nat.le_sub_one_of_lt d)) (ix5 (Nat.zero_lt_of_lt d) hj)
      · rw [bx_hit, bx_mid hij hj]; exact a3 _ (Nat.le_sub_one_of_lt hij) (ix5 (Nat.zero_lt_of_lt hij) hj)
      · rw [bx_mid c (Nat.lt_trans hij hj), bx_mid (Nat.lt_trans c hij) hj]
        exact hs _ _ (Nat.sub_lt_sub_right (Nat.zero_lt_of_lt c) hij) (ix5 (Nat.zero_lt_of_lt hij) hj))
    exact ⟨q, b1, b2, a4.bind b3⟩
theorem runs_sort (h1 : 1 ≤ n) (inj : ∀ i j, i < n → j < n → key i = key j → i = j) : ∃ q, Ord key n q ∧ Sr key q n ∧ Runs (ltK key) n (kas_sort n) q := by
  have o : Ord key n (List.toArray (List.range n)) := ⟨List.Perm.refl _, inj⟩
  obtain ⟨m, q, a1, a2, a3, a4, a5⟩ := runs_count h1 o
  by_cases c : m < n
  · have hm : max m 1 = m := Nat.max_eq_left a1
    obtain ⟨q', b1, b2, b3⟩ := runs_bin (n - m) (p := q) m a3 a1 (Nat.add_sub_of_le a2) a4
    exact ⟨q', b1, b2, a5.bind (by rw [if_pos c, hm]; exact b3)⟩
  · have e : m = n := Nat.le_antisymm a2 (Nat.le_of_not_lt c)
    subst e
    exact ⟨q, a3, a4, a5.bind (by rw [if_neg c]; exact .ret _)⟩
end
end Mine
end
section
open PySem PySem.W PyProof.Rows PySem.Calls
set_option maxRecDepth 100000
set_option maxHeartbeats 8000000
set_option linter.unusedVariables false
namespace Mine
section
variable {prog : Program} {w : World} {A : Around} {E : Value → Shared → Prop} {s : Shared}
theorem sort_short {a : Addr} {vs : List Value} {n : Nat} {P : PySem.Fin → Shared → Prop} (ho : s.heap.get? a = some (seqObj "list" vs.toArray n)) (h2 : vs.length < 2)
    (h : P (.done (.ret .none)) { s with heap := sortedHeap s.heap a vs vs.toArray }) : wpAny (model prog w) A (Builtin.«list.sort» ⟨[.ref a], []⟩) P E s := by
  rw [list_sort_plain]
  have ha : a < s.heap.objs.size := Heap.lt_size ho
  have hz : vs.toArray.size = vs.length := by simp
  have hn2 : vs.toArray.size < 2 := by omega
  have hzl : vs.toArray.size ≤ sizeLine := by rw [sizeLine_eq]; omega
  refine wpAny_bind (listItems_at ho rfl ?_)
  refine wpAny_bind (listUpdate_at ho rfl ?_ hzl (Nat.zero_le _))
  obtain ⟨e1, ho1⟩ : ∃ e1, (s.heap.update a (Obj.mapSeq fun _ => (#[] : Array Value))).get? a = some (seqObj "list" #[] e1) := ⟨_, get?_update_seq ho fun _ => #[]⟩
  refine wpAny_bind (seqEpoch_at ho1 rfl ?_)
  refine wpAny_bind (wpAny_newTuple ?_ (by show vs.length ≤ _; omega))
  refine wpAny_bind (wpAny_newList ?_ (Nat.zero_le _))
  refine wpAny_holding ?_
  have ho6 : (((s.heap.update a (Obj.mapSeq fun _ => (#[] : Array Value))).push (seqObj "tuple" vs.toArray 0)).push (seqObj "list" #[] 0)).get? a = some (seqObj "list" #[] e1) :=
    Heap.get?_push_of_some _ (Heap.get?_push_of_some _ ho1)
  show wpAny (model prog w) A _ P E { s with heap := ((s.heap.update a (Obj.mapSeq fun _ => (#[] : Array Value))).push (seqObj "tuple" vs.toArray 0)).push (seqObj "list" #[] 0) }
  dsimp only
  rw [if_pos hn2, if_pos hn2]
  refine wpAny_bind (wpAny_pure ?_)
  rw [StateT.run_pure]
  refine wpAny_bind (wpAny_pure ?_)
  dsimp only
  have e : (arrOf (SortSt.mk' general' (vs.toArray.zip vs.toArray) #[] 7 none)).map (·.2) = vs.toArray := by
    show (vs.toArray.zip vs.toArray).map (·.2) = vs.toArray
    apply Array.toList_inj.mp
    simp [List.map_snd_zip]
  rw [e]
  refine wpAny_bind (seqEpoch_at ho6 rfl ?_)
  refine wpAny_bind (listUpdate_at ho6 rfl ?_ (Nat.zero_le _) (by omega))
  show wpAny (model prog w) A (if (e1 != e1) = true then _ else _) P E _
  simp only [bne_self_eq_false, Bool.false_eq_true, if_false]
  exact wpAny_pure h
theorem sorted_short {l : Addr} {vs : List Value} {Q : Value → Shared → Prop} (hl : s.heap.IsList l vs.toArray) (h2 : vs.length < 2)
    (h : Q (.ref (s.heap.objs.size + 1)) { s with heap := sortedAll s.heap vs vs.toArray }) : wpAny (model prog w) A (call (.builtin "sorted") [.ref l]) Q E s := by
  have hzl : vs.length ≤ sizeLine := by rw [sizeLine_eq]; omega
  refine Calls.call_function_entry kind_sorted plain_sorted entry_sorted (args_sorted1 _) ?_
  unfold Builtin.«sorted»
  refine wpAny_bind (m := checkCount "sorted" 1 1 _) (wpAny_pure ?_)
  refine wpAny_bind (collect_list hl ?_ hzl)
  refine wpAny_bind (wpAny_newList ?_ hzl)
  have hsz : ((s.heap.push (seqObj "list" #[] 0)).update s.heap.objs.size (Obj.mapSeq (· ++ vs.toArray))).objs.size = s.heap.objs.size + 1 := by
    rw [Heap.size_update, size_push']
  have hoL : (((s.heap.push (seqObj "list" #[] 0)).update s.heap.objs.size (Obj.mapSeq (· ++ vs.toArray))).push (seqObj "list" vs.toArray 0)).get? (s.heap.objs.size + 1) = some (seqObj "list" vs.toArray 0) := by
    rw [← hsz]; exact Heap.get?_push_size _ rfl
  show wpAny _ _ _ _ _ { s with heap := ((s.heap.push (seqObj "list" #[] 0)).update s.heap.objs.size (Obj.mapSeq (· ++ vs.toArray))).push (seqObj "list" vs.toArray 0) }
  rw [hsz]
  refine wpAny_bind (wpAny_holding (wpAny_call_entry slot_list_sort ⟨_, hoL, rfl⟩ entry_list_sort (sort_short hoL h2 ⟨_, rfl, ?_⟩) (args_list_sort _)))
  exact wpAny_pure ⟨_, rfl, h⟩
end
/-- the numbers below 16 in the order of their words -/
def ordW : List Int := [0, 1, 2, 3, 7, 4, 5, 6, 11, 8, 9, 10, 15, 12, 13, 14]
def rkW (m : Int) : Nat := ordW.idxOf m
theorem ltW_all : ∀ a b : _root_.Fin 16, ltW ((a.val : Nat) : Int) ((b.val : Nat) : Int) = decide (rkW ((a.val : Nat) : Int) < rkW ((b.val : Nat) : Int)) := by decide +kernel
theorem ltW_rk {a b : Int} (ha : 0 ≤ a) (ha' : a < 16) (hb : 0 ≤ b) (hb' : b < 16) : ltW a b = decide (rkW a < rkW b) := by
  have e1 : ((a.toNat : Nat) : Int) = a := by omega
  have e2 : ((b.toNat : Nat) : Int) = b := by omega
  have z := ltW_all ⟨a.toNat, by omega⟩ ⟨b.toNat, by omega⟩
  simpa only [e1, e2] using z

/-- two lists in one strict order, of the same members -/
theorem same_sorted {α : Type} {R : α → α → Prop} (irr : ∀ a, ¬ R a a) (asy : ∀ a b, R a b → ¬ R b a) : ∀ {x y : List α}, x.Pairwise R → y.Pairwise R → (∀ a, a ∈ x ↔ a ∈ y) → x = y
  | [], [], _, _, _ => rfl
  | [], b :: y, _, _, h => absurd ((h b).mpr (.head _)) (by simp)
  | a :: x, [], _, _, h => absurd ((h a).mp (.head _)) (by simp)
  | a :: x, b :: y, hx, hy, h => by
    obtain ⟨ha, hx2⟩ := List.pairwise_cons.mp hx
    obtain ⟨hb, hy2⟩ := List.pairwise_cons.mp hy
    have e : a = b := by
      rcases List.mem_cons.mp ((h a).mp (.head _)) with e | e
      · exact e
      · rcases List.mem_cons.mp ((h b).mpr (.head _)) with e' | e'
        · exact e'.symm
        · exact absurd (hb _ e) (asy _ _ (ha _ e'))
    subst e
    refine congrArg (List.cons a) (same_sorted irr asy hx2 hy2 fun c => ?_)
    have := h c
    simp only [List.mem_cons] at this
    constructor
    · intro hc
      rcases this.mp (.inr hc) with rfl | e
      · exact absurd (ha _ hc) (irr _)
      · exact e
    · intro hc
      rcases this.mpr (.inr hc) with rfl | e
      · exact absurd (hb _ hc) (irr _)
      · exact e
def srtW (ms : List Int) : List Int := ordW.filter fun m => decide (m ∈ ms)
abbrev Rk (a b : Int) : Prop := rkW a < rkW b
theorem ordW_sorted : ordW.Pairwise Rk := by decide +kernel
theorem ordW_mem {m : Int} (h : 0 ≤ m ∧ m < 16) : m ∈ ordW := by
  have : ∀ k : _root_.Fin 16, ((k.val : Nat) : Int) ∈ ordW := by decide +kernel
  have z := this ⟨m.toNat, by omega⟩
  have e : ((m.toNat : Nat) : Int) = m := by omega
  simpa only [e] using z
theorem ordW_range {m : Int} (h : m ∈ ordW) : 0 ≤ m ∧ m < 16 := by
  have : ∀ m ∈ ordW, 0 ≤ m ∧ m < 16 := by decide +kernel
  exact this m h
theorem srtW_of {ms x : List Int} (hr : ∀ m ∈ ms, 0 ≤ m ∧ m < 16) (hx : x.Pairwise Rk) (hm : ∀ m, m ∈ x ↔ m ∈ ms) : x = srtW ms := by
  refine same_sorted (R := Rk) (fun a => Nat.lt_irrefl _) (fun a b => Nat.lt_asymm) hx (ordW_sorted.sublist List.filter_sublist) fun m => ?_
  unfold srtW
  rw [hm, List.mem_filter]
  constructor
  · intro h
    exact ⟨ordW_mem (hr m h), by simpa using h⟩
  · rintro ⟨_, h⟩
    simpa using h
theorem rkW_inj {a b : Int} (ha : 0 ≤ a ∧ a < 16) (hb : 0 ≤ b ∧ b < 16) (e : rkW a = rkW b) : a = b := by
  have h1 := List.getElem_idxOf (List.idxOf_lt_length_of_mem (ordW_mem ha))
  have h2 := List.getElem_idxOf (List.idxOf_lt_length_of_mem (ordW_mem hb))
  unfold rkW at e
  rw [← h1, ← h2]
  simp only [e]
theorem srt_perm {ms : List Int} (hr : ∀ m ∈ ms, 0 ≤ m ∧ m < 16) {p : Array Nat} (o : Ord (fun i => rkW (ms.getD i 0)) ms.length p) (hs : Sr (fun i => rkW (ms.getD i 0)) p ms.length) :
    srtW ms = p.toList.map fun i => ms.getD i 0 := by
  refine (srtW_of hr ?_ ?_).symm
  · rw [List.pairwise_iff_getElem]
    intro i j hi hj hij
    simp only [List.length_map, Array.length_toList] at hi hj
    have z := hs i j hij (by rw [← o.size]; exact hj)
    simp only [Ky, Array.getD, hi, hj, dif_pos] at z
    simpa using z
  · intro m
    simp only [List.mem_map]
    constructor
    · rintro ⟨i, hi, rfl⟩
      have h := List.mem_range.mp (o.perm.mem_iff.mp hi)
      simp [List.getD, h]
    · intro h
      obtain ⟨i, hi⟩ := List.getElem?_of_mem h
      have hl := (List.getElem?_eq_some_iff.mp hi).1
      exact ⟨i, o.perm.mem_iff.mpr (List.mem_range.mpr hl), by simp [List.getD, hi]⟩
theorem nodup_key {ms : List Int} (hr : ∀ m ∈ ms, 0 ≤ m ∧ m < 16) (hn : ms.Nodup) : ∀ i j, i < ms.length → j < ms.length → rkW (ms.getD i 0) = rkW (ms.getD j 0) → i = j := by
  intro i j hi hj e
  have e1 : ms.getD i 0 = ms[i] := by simp [hi]
  have e2 : ms.getD j 0 = ms[j] := by simp [hj]
  rw [e1, e2] at e
  exact (List.getElem_inj hn).mp (rkW_inj (hr _ (List.getElem_mem _)) (hr _ (List.getElem_mem _)) e)
end Mine
end
section
open PySem PySem.W PyProof.Rows PySem.Calls
set_option maxRecDepth 100000
set_option maxHeartbeats 1000000
set_option linter.unusedVariables false
namespace Mine
theorem WdH.range {h : Heap} : ∀ {vs : List Value} {ms : List Int}, WdH h vs ms → ∀ m ∈ ms, 0 ≤ m ∧ m < 16
  | _, _, .nil, m, hm => by simp at hm
  | _, _, .cons _ _ a b r, m, hm => by
    rcases List.mem_cons.mp hm with rfl | hm
    · exact ⟨a, b⟩
    · exact r.range m hm
theorem WdH.at {h : Heap} {vs : List Value} {ms : List Int} (w : WdH h vs ms) {i : Nat} (hi : i < vs.length) : IsW h (vs.getD i .none) (ms.getD i 0) := by
  obtain ⟨m, e, z⟩ := w.get (i := i) (v := vs[i]) (List.getElem?_eq_getElem hi)
  have e1 : vs.getD i .none = vs[i] := by simp [hi]
  have e2 : ms.getD i 0 = m := by simp [List.getD, e]
  rw [e1, e2]
  exact z
theorem WdH.pick {h : Heap} {vs : List Value} {ms : List Int} (w : WdH h vs ms) : ∀ {p : List Nat}, (∀ i ∈ p, i < vs.length) → WdH h (p.map fun i => vs.getD i .none) (p.map fun i => ms.getD i 0)
  | [], _ => .nil
  | i :: p, hp => (WdH.one (w.at (hp i (.head _)))).append (w.pick fun j hj => hp j (.tail _ hj))
theorem WdH.ref {h : Heap} {vs : List Value} {ms : List Int} (w : WdH h vs ms) {v : Value} (hv : v ∈ vs) : ∃ a o, v = .ref a ∧ h.get? a = some o ∧ o.cls = .type "list" := by
  obtain ⟨m, _, a, xs, rfl, ⟨o, ho, hc, _⟩, _⟩ := w.mem hv
  exact ⟨a, o, rfl, ho, hc⟩
theorem Wd.at {W : List (Addr × Obj)} {vs : List Value} {ms : List Int} (w : Wd W vs ms) {i : Nat} (hi : i < vs.length) : Wd W [vs.getD i .none] [ms.getD i 0] := by
  obtain ⟨m, a, xs, k, e, e', z1, z2, z3, z4⟩ := w.get (i := i) (v := vs[i]) (List.getElem?_eq_getElem hi)
  have e1 : vs.getD i .none = vs[i] := by simp [hi]
  have e2 : ms.getD i 0 = m := by simp [List.getD, e]
  rw [e1, e2, e']
  exact .cons z1 z2 z3 z4 .nil
theorem Wd.pick {W : List (Addr × Obj)} {vs : List Value} {ms : List Int} (w : Wd W vs ms) : ∀ {p : List Nat}, (∀ i ∈ p, i < vs.length) → Wd W (p.map fun i => vs.getD i .none) (p.map fun i => ms.getD i 0)
  | [], _ => .nil
  | i :: p, hp => (w.at (hp i (.head _))).append (w.pick fun j hj => hp j (.tail _ hj))
theorem pick_range {α : Type} (xs : List α) (d : α) : xs = (List.range xs.length).map fun i => xs.getD i d := by
  refine List.ext_getElem (by simp) fun i h1 h2 => ?_
  simp [h1]
theorem srt_short {ms : List Int} (hr : ∀ m ∈ ms, 0 ≤ m ∧ m < 16) (h : ms.length < 2) : srtW ms = ms := by
  refine (srtW_of hr ?_ fun a => Iff.rfl).symm
  match ms, h with
  | [], _ => exact .nil
  | [_], _ => exact List.pairwise_singleton _ _
section
variable {prog : Program} {w : World} {A : Around} {E : Value → Shared → Prop} {s : Shared}
theorem sortedW {h₀ : Heap} {L : Addr} {m : Str → Option Value} {news : List (Addr × Obj)} {l : Addr} {vs : List Value} {ms : List Int} {Q : Value → Shared → Prop}
    (F : Fr h₀ L s.heap m) (N : News h₀ L s.heap news) (hl : s.heap.IsList l vs.toArray) (hW : ∀ h', Fr h₀ L h' m → News h₀ L h' news → WdH h' vs ms) (hn : ms.Nodup) (h64 : vs.length < 64) (hu : A.units + 2 < cLine)
    (h : ∀ D vs' c h', Fr h₀ L h' m → News h₀ L h' ((D, listOf (List.toArray vs') c) :: news) → (∀ q ∈ news, q.1 < D) →
      (∃ p : List Nat, (∀ i ∈ p, i < vs.length) ∧ vs' = p.map (fun i => vs.getD i .none) ∧ srtW ms = p.map fun i => ms.getD i 0) → Q (.ref D) { s with heap := h' }) :
    wpAny (model prog w) A (call (.builtin "sorted") [.ref l]) Q E s := by
  have hW0 := hW _ F N
  have hr := hW0.range
  have hlen := hW0.length
  by_cases h2 : vs.length < 2
  · refine sorted_short hl h2 ?_
    obtain ⟨e, he⟩ := sortedAll_at s.heap vs vs.toArray
    refine h _ vs e _ (F.kept fun _ _ => sortedAll_old) (N.kept_cons F (fun _ _ => sortedAll_old) (Nat.le_succ _) he) (fun p hp => Nat.lt_succ_of_lt (Heap.lt_size (N p hp).1)) ⟨List.range vs.length, fun i hi => List.mem_range.mp hi, ?_, ?_⟩
    · exact pick_range vs _
    · rw [hlen]
      exact (srt_short hr (by omega)).trans (pick_range ms _)
  · obtain ⟨p, o, hs, hR⟩ := runs_sort (key := fun i => rkW (ms.getD i 0)) (n := ms.length) (by omega) (nodup_key hr hn)
    refine kas_sorted (T := .type "list") F N hl (by omega) h64 ?_ (by decide) ?_
    · intro h' F' N' v hv
      obtain ⟨a, ob, rfl, ho, hc⟩ := (hW h' F' N').ref hv
      exact hc ▸ (Looks.ld ho).andThen .now
    · intro D e1 h' F' N' hlt
      rw [hlen]
      have N0 : News h₀ L h' news := fun q hq => N' q (.tail _ hq)
      have hWn := hW h' F' N0
      refine hR.wp (fun i j C hi hj hc => ?_) (KasFin.intro F' N' (UpdF.head fun q hq => Nat.ne_of_lt (hlt q hq)) fun h'' c F'' N'' => ?_)
      · refine oneWords (hWn.at (by omega)) (hWn.at (by omega)) (by show A.units + 1 + 1 < cLine; omega) ?_
        have e := ltW_rk (hr _ (List.getElem_mem (h := hi))).1 (hr _ (List.getElem_mem (h := hi))).2 (hr _ (List.getElem_mem (h := hj))).1 (hr _ (List.getElem_mem (h := hj))).2
        have e1 : ms.getD i 0 = ms[i] := by simp [hi]
        have e2 : ms.getD j 0 = ms[j] := by simp [hj]
        rw [e1, e2, e]
        have hc' : C (decide (rkW (ms.getD i 0) < rkW (ms.getD j 0))) _ := hc
        rw [e1, e2] at hc'
        exact hc'
      · refine h D _ c h'' F'' N'' hlt ⟨p.toList, fun i hi => ?_, rfl, srt_perm hr o hs⟩
        rw [hlen]
        exact List.mem_range.mp (o.perm.mem_iff.mp hi)
end
end Mine
end
section
open PySem PySem.W PyProof.Rows PySem.Calls
set_option maxRecDepth 100000
set_option maxHeartbeats 2000000
set_option linter.unusedVariables false
namespace Mine
/-- an exception on its way through a frame: it and its first entry stand on the ledger -/
inductive FlyT (hb : Heap) (L : Addr) (h : Heap) (e : Addr) (X : String) (c fl : Value) (news : List (Addr × Obj)) : Prop
  | mk (oe : Obj) (tb : Addr) (otb : Obj) (vs tvs : Array Value) (N : News hb L h (news ++ [(e, oe), (tb, otb)])) (h1 : e ≠ tb) (h2 : ∀ p ∈ news, p.1 ≠ e ∧ p.1 ≠ tb) (h3 : oe.cls = .type X) (h4 : oe.data = .fields vs) (h5 : vs[1]? = some (.ref tb)) (h6 : vs[2]? = some c) (h7 : otb.data = .fields tvs) (h8 : tvs[3]? = some fl) : FlyT hb L h e X c fl news
structure Fly (hb : Heap) (L : Addr) (h : Heap) (m : Str → Option Value) (e : Addr) (X : String) (c fl : Value) (news : List (Addr × Obj)) : Prop where
  fr : Fr hb L h m
  there : FlyT hb L h e X c fl news
section
variable {M : Model} {A : Around} {E : Value → Shared → Prop} {s : Shared} {hb h : Heap} {L e a : Addr} {m : Str → Option Value} {X : String} {c fl : Value} {news : List (Addr × Obj)} {name : Str} {scope : Scope} {cd : Value}
theorem Fly.made (H : Fly hb L h m e X c fl news) : News hb L h news := by
  obtain ⟨oe, tb, otb, vs, tvs, N, _⟩ := H.there
  exact fun p hp => N p (List.mem_append_left _ hp)
theorem Fly.toNA (H : Fly hb L h m e X c fl news) : TT.HeldNA hb L h m e X news fl := by
  obtain ⟨oe, tb, otb, vs, tvs, N, h1, h2, h3, h4, h5, h6, h7, h8⟩ := H.there
  have ze := N (e, oe) (List.mem_append_right _ (.head _))
  have zt := N (tb, otb) (List.mem_append_right _ (.tail _ (.head _)))
  refine ⟨⟨H.fr, ⟨oe, vs, tb, otb, tvs, ze.1, h3, h4, h5, zt.1, h7, h8, zt.2.1, Ne.symm h1, zt.2.2⟩, ze.2.2⟩, H.made, ?_⟩
  intro ob ws tb' e1 e2 e3 p hp
  have e4 := Option.some.inj (ze.1.symm.trans e1)
  subst e4
  rw [h4] at e2
  injection e2 with e2
  subst e2
  rw [h5] at e3
  injection e3 with e3
  injection e3 with e3
  subst e3
  exact (h2 p hp).2
theorem Fly.again {Q : Unit → Shared → Prop} (H : Fly hb L s.heap m e X c (rawInt L) news) (k : Q () s) : wpAny M A (noteFrame (.ref e) (envOf name scope L a cd)) Q E s :=
  noted_again H.toNA.held fun _ _ => k
theorem Fly.set {Q : Unit → Shared → Prop} {fr : Option Addr} (H : Fly hb L s.heap m e X c fl news)
    (k : ∀ h', Fly hb L h' m e X c (fr.elim .none fun f => rawInt f) news → Q () { s with heap := h' }) : wpAny M A (setFlight (.ref e) fr) Q E s := by
  obtain ⟨oe, tb, otb, vs, tvs, N, h1, h2, h3, h4, h5, h6, h7, h8⟩ := H.there
  have ze := N (e, oe) (List.mem_append_right _ (.head _))
  have zt := N (tb, otb) (List.mem_append_right _ (.tail _ (.head _)))
  have hsz : 3 < tvs.size := (Array.getElem?_eq_some_iff.mp h8).1
  unfold setFlight
  refine wpAny_bind (wpAny_field ze.1 h4 h5 ?_)
  rw [if_pos (show (Value.ref tb != Value.none) = true from by simp)]
  refine wpAny_setField zt.1 h7 hsz (k _ ?_)
  have sb : Heap.SameBut tb s.heap (s.heap.update tb (Obj.mapFields (·.setIfInBounds 3 (fr.elim .none fun f => rawInt f)))) := Heap.SameBut.update ..
  refine ⟨H.fr.change sb zt.2.1 zt.2.2, oe, tb, otb.mapFields (·.setIfInBounds 3 (fr.elim .none fun f => rawInt f)), vs, tvs.setIfInBounds 3 (fr.elim .none fun f => rawInt f), ?_, h1, h2, h3, h4, h5, h6, Obj.data_mapFields h7 _, by simp [hsz]⟩
  intro p hp
  rcases List.mem_append.mp hp with hp | hp
  · have z := N p (List.mem_append_left _ hp)
    exact ⟨(sb.2 _ (h2 p hp).2).trans z.1, z.2⟩
  · rcases List.mem_cons.mp hp with rfl | hp
    · exact ⟨(sb.2 _ h1).trans ze.1, ze.2⟩
    · rw [List.mem_singleton.mp hp]
      exact ⟨Heap.get?_update_self _ zt.1 (Obj.isFreed_of_fields (Obj.data_mapFields h7 _)), zt.2⟩
theorem Fly.field1 {Q : Value → Shared → Prop} (H : Fly hb L s.heap m e X c fl news) (k : ∀ tb, Q (.ref tb) s) : wpAny M A (field (.ref e) 1) Q E s := by
  obtain ⟨oe, tb, otb, vs, tvs, N, h1, h2, h3, h4, h5, h6, h7, h8⟩ := H.there
  exact wpAny_field (N (e, oe) (List.mem_append_right _ (.head _))).1 h4 h5 (k tb)
theorem Fly.pass {α : Type} {what : String} {Q : α → Shared → Prop} (H : Fly hb L s.heap m e X c fl news)
    (k : ∀ h', Fly hb L h' m e X c (rawInt L) news → E (.ref e) { s with heap := h' }) : wpAny M A (PySem.passOn what (.ref e) (envOf name scope L a cd)) Q E s := by
  unfold PySem.passOn
  refine wpAny_bind (H.field1 fun tb => ?_)
  rw [if_neg (show ¬ ((Value.ref tb == Value.none) = true) from by simp)]
  first
    | exact wpAny_bind (wpAny_pure (wpAny_bind (H.set fun h' K' => wpAny_throw (k h' K'))))
    | exact wpAny_bind (H.set fun h' K' => wpAny_throw (k h' K'))
theorem Fly.came (H : Fly hb L s.heap m e X c fl news)
    (k : ∀ h', Fly hb L h' m e X c (rawInt L) news → E (.ref e) { s with heap := h' }) : cameBackBy M A (envOf name scope L a cd) E (.ref e) s := by
  unfold cameBackBy
  refine wpAny_bind (H.field1 fun tb => ?_)
  rw [if_neg (show ¬ ((Value.ref tb == Value.none) = true) from by simp)]
  first
    | exact wpAny_bind (wpAny_pure (H.set fun h' K' => k h' K'))
    | exact H.set fun h' K' => k h' K'
end
section
variable {M : Model} {A : Around} {E : Value → Shared → Prop} {s' : Shared} {hb h : Heap} {L' L e a : Addr} {m : Str → Option Value} {X : String} {c : Value} {new : List (Addr × Obj)} {name : Str} {scope : Scope} {cd : Value} {envL : Env} {oL : Obj}
theorem noted_fly {Q : Unit → Shared → Prop} (hfr : A.frames = some [envOf name scope L' a cd, envL]) (Fs : TI.Frs [envL] [(L, oL)]) (F : Fr hb L' h m) (N : News hb L' h (new ++ [(L, oL)])) (hL : ∀ p ∈ new, p.1 ≠ L)
    (hkeep : ∀ b o, h.get? b = some o → s'.heap.get? b = some o) (hnew : h.get? e = none) (hthere : ∃ ob vs, s'.heap.get? e = some ob ∧ ob.cls = .type X ∧ ob.data = .fields vs ∧ vs[1]? = some .none ∧ vs[2]? = some c)
    (k : ∀ h' sl, Fly hb L' h' m e X c (rawInt L') (new ++ [(L, { oL with slots := sl })]) → Q () { s' with heap := h' }) (hk : scope.kind = .function := by rfl) :
    wpAny M A (noteFrame (.ref e) (envOf name scope L' a cd)) Q E s' := by
  obtain ⟨oe, vs, he, hcls, hd, h1, h2⟩ := hthere
  have hsz : 1 < vs.size := (Array.getElem?_eq_some_iff.mp h1).1
  have hsub : ∀ p ∈ [(L, oL)], p ∈ new ++ [(L, oL)] := fun p hp => List.mem_append_right _ hp
  obtain ⟨hff, hNs, frs₁, SU, ht⟩ := TI.frames_at (name := name) (a := a) (cd := cd) (h' := s'.heap) (base := TI.gone h (L' :: [(L, oL)].map (·.1))) hk Fs F N hsub (fun b o hb' => ⟨o.slots, hkeep b o hb'⟩) fun b hm => TI.gone_none hm
  have eL : e ≠ L' := fun q => by
    obtain ⟨oI, _, _, hI, _⟩ := F.ns
    rw [q, hI] at hnew; cases hnew
  have eL2 : e ≠ L := fun q => by
    have := (N (L, oL) (hsub _ (.head _))).1
    rw [q, this] at hnew; cases hnew
  have hfrs : (envOf name scope L' a cd :: [envL]).filterMap (·.frame) = [L', L] := TI.frames_are Fs
  unfold noteFrame
  simp only [show (envOf name scope L' a cd).frame = some L' from rfl]
  refine wpAny_bind (wpAny_field he hd h1 ?_)
  rw [if_neg (by decide)]
  refine wpAny_bind (wpAny_frameOf_fun hfr hff rfl fun h₁ hs₁ => ?_)
  refine wpAny_bind (wpAny_entryPlaceOf fun pl hpl => ?_)
  unfold EntryCells.newEntry newFields
  refine wpAny_bind (wpAny_newObj_type ?_ (hpl.sizeOk5 _ _ _ _ _))
  rw [hfrs] at hs₁
  have he₁ : h₁.get? e = some oe := (hs₁.2.1 e (by simp [eL, eL2])).trans he
  have he₂ := Heap.get?_push_of_some (h := h₁) { cls := .type "traceback", dict := none, data := .fields ([Value.none, .ref L', .none, rawInt L', .none] ++ (if pl.isEmpty then List.replicate 6 Value.none else pl)).toArray } he₁
  refine wpAny_setField he₂ hd hsz ?_
  have hTe : h₁.objs.size ≠ e := Nat.ne_of_gt (Heap.lt_size he₁)
  have hd₃ := Obj.data_mapFields hd (·.setIfInBounds 1 (Value.ref h₁.objs.size))
  have he₃ := Heap.get?_update_self (Obj.mapFields (·.setIfInBounds 1 (Value.ref h₁.objs.size))) he₂ (Obj.isFreed_of_fields hd₃)
  have hT₃ := (Heap.get?_update_other (h₁.push { cls := .type "traceback", dict := none, data := .fields ([Value.none, .ref L', .none, rawInt L', .none] ++ (if pl.isEmpty then List.replicate 6 Value.none else pl)).toArray })
    (Obj.mapFields (·.setIfInBounds 1 (Value.ref h₁.objs.size))) (Ne.symm hTe)).trans (Heap.get?_push_size h₁ rfl)
  generalize hH : ((h₁.push { cls := .type "traceback", dict := none, data := .fields ([Value.none, .ref L', .none, rawInt L', .none] ++ (if pl.isEmpty then List.replicate 6 Value.none else pl)).toArray }).update e (Obj.mapFields (·.setIfInBounds 1 (Value.ref h₁.objs.size)))) = H at he₃ hT₃
  have keep : ∀ b o, b ≠ e → h₁.get? b = some o → H.get? b = some o := fun b o hbe hb => by
    rw [← hH, Heap.get?_update_other _ _ (Ne.symm hbe)]
    exact Heap.get?_push_of_some _ hb
  have he0 : ∀ b o, h.get? b = some o → b ≠ e := fun b o hq q => by rw [q, hnew] at hq; cases hq
  have kept : ∀ b o, b ≠ L' → b ≠ L → h.get? b = some o → H.get? b = some o := fun b o n1 n2 hq =>
    keep b o (he0 b o hq) ((hs₁.2.1 b (by simp [n1, n2])).trans (hkeep b o hq))
  have hbL : hb.get? L = none := (N (L, oL) (hsub _ (.head _))).2.2
  have hNs' : H.Ns L' m := by
    obtain ⟨oI, es, ep, hI, r⟩ := F.ns
    obtain ⟨sl, hsl⟩ := hs₁.2.2 L' oI (hkeep _ _ hI)
    exact ⟨_, es, ep, keep _ _ (Ne.symm eL) hsl, r⟩
  have F' : Fr hb L' H m := ⟨hNs', fun b o hq => kept b o (Nat.ne_of_lt (Nat.lt_of_lt_of_le (Heap.lt_size hq) F.above)) (fun q => by rw [q, hbL] at hq; cases hq) (F.keep b o hq), F.above⟩
  obtain ⟨sl, hsl⟩ := hs₁.2.2 L oL (hkeep _ _ (N (L, oL) (hsub _ (.head _))).1)
  have hLn := (N (L, oL) (hsub _ (.head _))).2
  have hTn : h.get? h₁.objs.size = none := by
    cases hq : h.get? h₁.objs.size with
    | none => rfl
    | some o =>
      have z := Heap.lt_size (hkeep _ _ hq)
      rw [hs₁.1] at z
      exact absurd z (Nat.lt_irrefl _)
  have nb : ∀ b, h.get? b = none → hb.get? b = none := fun b hq => by
    cases hz : hb.get? b with
    | none => rfl
    | some o => rw [F.keep b o hz] at hq; cases hq
  have hTL : h₁.objs.size ≠ L' := fun q => by
    obtain ⟨oI, _, _, hI, _⟩ := F.ns
    rw [q, hI] at hTn; cases hTn
  refine k H sl ⟨F', oe.mapFields (·.setIfInBounds 1 (Value.ref h₁.objs.size)), h₁.objs.size, { cls := .type "traceback", dict := none, data := .fields ([Value.none, .ref L', .none, rawInt L', .none] ++ (if pl.isEmpty then List.replicate 6 Value.none else pl)).toArray }, vs.setIfInBounds 1 (Value.ref h₁.objs.size), _, ?_, Ne.symm hTe, ?_, (Obj.cls_mapFields _ _).trans hcls, hd₃, by simp [hsz], ?_, rfl, ?_⟩
  · intro p hp
    rcases List.mem_append.mp hp with hp | hp
    · rcases List.mem_append.mp hp with hp | hp
      · have z := N p (List.mem_append_left _ hp)
        exact ⟨kept _ _ z.2.1 (hL p hp) z.1, z.2⟩
      · rw [List.mem_singleton.mp hp]
        exact ⟨keep _ _ (Ne.symm eL2) hsl, hLn⟩
    · rcases List.mem_cons.mp hp with rfl | hp
      · exact ⟨he₃, eL, nb _ hnew⟩
      · rw [List.mem_singleton.mp hp]
        exact ⟨hT₃, hTL, nb _ hTn⟩
  · intro p hp
    rcases List.mem_append.mp hp with hp | hp
    · have z := (N p (List.mem_append_left _ hp)).1
      exact ⟨he0 _ _ z, fun q => by rw [q, hTn] at z; cases z⟩
    · rw [List.mem_singleton.mp hp]
      have z := (N (L, oL) (hsub _ (.head _))).1
      exact ⟨Ne.symm eL2, fun q => by
        have q' : L = h₁.objs.size := q
        rw [← q', z] at hTn; cases hTn⟩
  · rw [Array.getElem?_setIfInBounds_ne (by decide)]
    exact h2
  · first | (simp; done) | (rcases hpl with rfl | ⟨_, _, _, _, _, _, _, rfl⟩ <;> simp)
end
end Mine
end
section
open PySem PySem.W PyProof.Rows PySem.Calls
set_option maxRecDepth 100000
set_option maxHeartbeats 2000000
set_option linter.unusedVariables false
namespace Mine
theorem plain_unchain : plainId "proto.unchain" = true := by decide +kernel
theorem entry_unchain : entryFor table "proto.unchain" = some Builtin.«proto.unchain» := entryFor_of_fast (by kernel_rfl)
/-- an exception just raised while another is handled -/
def NewIn (h h' : Heap) (e : Addr) (cls : String) (e0 : Addr) : Prop :=
  Keeps h h' ∧ h.get? e = none ∧ ∃ ob vs, h'.get? e = some ob ∧ ob.cls = .type cls ∧ ob.data = .fields vs ∧ vs[1]? = some .none ∧ vs[2]? = some (.ref e0)
section
variable {prog : Program} {w : World} {A : Around} {E : Value → Shared → Prop} {s : Shared} {α : Type}
theorem raiseNew_in {e e0 : Addr} {oe o0 : Obj} {vs vs0 : Array Value} {Q : α → Shared → Prop} (hh : A.handled = some (.ref e0)) (he : s.heap.get? e = some oe) (hde : oe.data = .fields vs) (hsz : 2 < vs.size) (hne : e0 ≠ e)
    (h0 : s.heap.get? e0 = some o0) (hd0 : o0.data = .fields vs0) (hc0 : vs0[2]? = some .none)
    (h : E (.ref e) { s with heap := s.heap.update e (Obj.mapFields (·.setIfInBounds 2 (.ref e0))) }) : wpAny (model prog w) A (raiseNew (.ref e) : Sem α) Q E s := by
  unfold raiseNew
  refine wpAny_bind (wpAny_handled ?_)
  rw [hh]
  have hne' : (Value.ref e0 != Value.ref e) = true := by simpa using hne
  dsimp only
  rw [if_pos hne']
  have unch : ∀ {Q' : Value → Shared → Prop}, Q' .none s → wpAny (model prog w) A (holding [.ref e] (runValue (.builtin "proto.unchain" ⟨[.ref e, .ref e0, .ref e0, .bool false], []⟩))) Q' E s := by
    intro Q' hq
    refine wpAny_holding (wpAny_runValue (codeAny_builtin entry_unchain ?_))
    show wpAny _ _ (field (.ref e0) 2 >>= _) _ _ s
    refine wpAny_bind (wpAny_field h0 hd0 hc0 ?_)
    rw [if_pos (by rfl)]
    exact wpAny_pure hq
  have upd : ∀ {Q' : Unit → Shared → Prop}, Q' () { s with heap := s.heap.update e (Obj.mapFields (·.setIfInBounds 2 (.ref e0))) } → wpAny (model prog w) A (updateField e 2 (.ref e0)) Q' E s := by
    intro Q' hq
    exact (wpAny_setField he hde hsz hq : wpAny (model prog w) A (setField (.ref e) 2 (.ref e0)) Q' E s)
  first
    | exact wpAny_bind (wpAny_bind (unch (upd (wpAny_throw h))))
    | exact wpAny_bind (unch (wpAny_bind (upd (wpAny_throw h))))
    | exact wpAny_bind (wpAny_bind (unch (wpAny_bind (upd (wpAny_throw h)))))
    | (trace_state; fail "shape")
theorem raise_in {cls msg : String} {Q : α → Shared → Prop} (hp : PlainExc cls) {e0 : Addr} {o0 : Obj} {vs0 : Array Value} (hh : A.handled = some (.ref e0)) (h0 : s.heap.get? e0 = some o0) (hd0 : o0.data = .fields vs0) (hc0 : vs0[2]? = some .none)
    (h : ∀ h' tk e, NewIn s.heap h' e cls e0 → E (.ref e) { s with heap := h', toks := tk }) :
    wpAny (model prog w) A (raiseErrorWords cls msg : Sem α) Q E s := by
  unfold raiseErrorWords
  refine wpAny_bind (wpAny_mkText (wpAny_bind ?_))
  unfold newExc newTuple
  refine wpAny_bind (wpAny_newObj_type ?_)
  refine wpAny_bind (m := firstArgMember _ _) (wpAny_of_eq (a := Value.none) (by simp only [firstArgMember, hp.first]; rfl) ?_)
  rw [hp.own]
  refine wpAny_newObj_type ?_
  have hlt := Heap.lt_size h0
  refine raiseNew_in hh (Heap.get?_push_size _ rfl) rfl (by simp) (Nat.ne_of_lt (by rw [size_push']; exact Nat.lt_succ_of_lt hlt)) (Heap.get?_push_of_some _ (Heap.get?_push_of_some _ h0)) hd0 hc0 ?_
  refine h _ _ _ ⟨fun b o hb => ?_, Heap.get?_none_of_le (by simp), _, _, Heap.get?_update_self _ (Heap.get?_push_size _ rfl) (by rfl), rfl, rfl, by simp, by simp⟩
  have hb' := Heap.lt_size hb
  rw [Heap.get?_update_other _ _ (Nat.ne_of_gt (by rw [size_push']; exact Nat.lt_succ_of_lt hb'))]
  exact Heap.get?_push_of_some _ (Heap.get?_push_of_some _ hb)
theorem item_outIn {value slice : PySem.Expr} {l : Addr} {items : Array Value} {k : Int} {u : Tok} {Q : Value → Shared → Prop} {e0 : Addr} {o0 : Obj} {vs0 : Array Value} (hA : A.handled = some (.ref e0)) (h0 : s.heap.get? e0 = some o0) (hd0 : o0.data = .fields vs0) (hc0 : vs0[2]? = some .none)
    (hl : s.heap.IsList l items) (hout : (items.size : Int) ≤ k) (hhi : k < 2 ^ 63)
    (hE : ∀ h' tk e, NewIn s.heap h' e "IndexError" e0 → E (.ref e) { s with heap := h', toks := tk })
    (hs : subscripted slice false (.ref l) (.int k u) = operate [.ref l, .int k u] (getItem (.ref l) (.int k u)) := by with_unfolding_all rfl) :
    wpAny (model prog w) A (subscriptTail value slice (.ref l) (.int k u)) Q E s := by
  refine tail_any hl.typeIs slot_list_getitem.lookup ?_ hs
  obtain ⟨o, ho, hc, ne, hd⟩ := id hl
  unfold getItem
  try with_reducible refine wpAny_holding ?_
  first | refine wpAny_bind (wpAny_pure ?_) | skip
  refine wpAny_bind (wpAny_sequenceKey hl.typeIs (by decide) ?_)
  refine wpAny_bind (wpAny_callSpecial?_slot (name := Str.ofString "__getitem__") hl.typeIs slot_list_getitem
    (wpAny_call_entry slot_list_getitem hl.typeIs entry_list_getitem ?_ (args_list_getitem _ _)))
  show wpAny _ _ (Builtin.List.listSubscript? (.int k u) >>= _) _ _ s
  refine wpAny_bind (wpAny_listSubscript_int (fitsIndex_both (by omega) hhi) ?_)
  obtain ⟨j, rfl⟩ : ∃ j : Nat, k = Int.ofNat j := ⟨k.toNat, by simp only [Int.ofNat_eq_natCast]; omega⟩
  have hx : items[j]? = none := Array.getElem?_eq_none (by have : (items.size : Int) ≤ (j : Int) := hout; omega)
  show wpAny _ _ ((seqItemAt l j >>= fun r => pure (r.map (j, ·))) >>= _) _ _ s
  refine wpAny_bind (wpAny_bind (wpAny_seqItemAt ho hd (wpAny_pure ?_)))
  rw [hx]
  first
    | exact wpAny_bind (wpAny_rule (raise_in plainExc_IndexError hA h0 hd0 hc0 hE))
    | exact wpAny_bind (wpAny_rule (wpAny_bind (raise_in plainExc_IndexError hA h0 hd0 hc0 hE)))
end
end Mine
end
section
open PySem PySem.W PyProof.Rows
set_option maxRecDepth 100000
set_option maxHeartbeats 8000000
set_option linter.unusedVariables false
namespace Mine
/-- what the one list has and the other has not, both in the order of the words -/
inductive Sld : List Int → List Int → List Int → List Int → Prop
  | left (ys : List Int) : Sld [] ys [] ys
  | right (xs : List Int) : Sld xs [] xs []
  | lt {x y : Int} {xs ys a b : List Int} : ltW x y = true → Sld xs (y :: ys) a b → Sld (x :: xs) (y :: ys) (x :: a) b
  | gt {x y : Int} {xs ys a b : List Int} : ltW x y = false → ltW y x = true → Sld (x :: xs) ys a b → Sld (x :: xs) (y :: ys) a (y :: b)
  | eq {x y : Int} {xs ys a b : List Int} : ltW x y = false → ltW y x = false → Sld xs ys a b → Sld (x :: xs) (y :: ys) a b
theorem sld_end {m1 m2 : List Int} {i j : Nat} (h : i = m1.length ∨ j = m2.length) : Sld (m1.drop i) (m2.drop j) (m1.drop i) (m2.drop j) := by
  rcases h with h | h
  · rw [show m1.drop i = [] from by simp [h]]; exact .left _
  · rw [show m2.drop j = [] from by simp [h]]; exact .right _
theorem drop_at {m : List Int} {i : Nat} {x : Int} (h : m[i]? = some x) : m.drop i = x :: m.drop (i + 1) := by
  have hl : i < m.length := (List.getElem?_eq_some_iff.mp h).1
  rw [List.drop_eq_getElem_cons hl]
  congr 1
  exact Option.some.inj ((List.getElem?_eq_getElem hl).symm.trans h)
theorem mapOn6 {m : Str → Option Value} {a b c d e f : Str} {va vb vc vd ve vf : Option Value} (h1 : m a = va) (h2 : m b = vb) (h3 : m c = vc) (h4 : m d = vd) (h5 : m e = ve) (h6 : m f = vf) :
    m = fun y => if y = a then va else if y = b then vb else if y = c then vc else if y = d then vd else if y = e then ve else if y = f then vf else m y := by
  funext y
  subst h1 h2 h3 h4 h5 h6
  repeat' split
  all_goals first | rfl | (subst_vars; rfl)
theorem WdH.drop {h : Heap} : ∀ {vs : List Value} {ms : List Int}, WdH h vs ms → ∀ n : Nat, WdH h (vs.drop n) (ms.drop n)
  | _, _, .nil, n => by simp only [List.drop_nil]; exact .nil
  | _, _, .cons l i a b r, 0 => .cons l i a b r
  | _, _, .cons l i a b r, n + 1 => r.drop n
theorem natSucc (n : Nat) : (n : Int) + 1 = ((n + 1 : Nat) : Int) := rfl
section
variable {prog : Program} {w : World} {A : Around} {E : Value → Shared → Prop} {s : Shared} {l : Addr} {vs : List Value} {k : Int} {u : Tok} {n : Nat} {value slice : PySem.Expr} {nm : Str} {np : Pos}
theorem subsName (x : Str) (p : Pos) (l : Addr) (k : Int) (u : Tok) : subscripted (.Name x p) false (.ref l) (.int k u) = operate [.ref l, .int k u] (getItem (.ref l) (.int k u)) := by with_unfolding_all rfl
theorem itemIn {v : Value} {Q : Value → Shared → Prop} (hl : s.heap.IsList l vs.toArray) (hk : k = (n : Int)) (hx : vs[n]? = some v) (hz : vs.length ≤ 63) (h : Q v s) : wpAny (model prog w) A (subscriptTail value (.Name nm np) (.ref l) (.int k u)) Q E s := by
  have hlt : n < vs.length := (List.getElem?_eq_some_iff.mp hx).1
  subst hk
  exact tail_any hl.typeIs slot_list_getitem.lookup (wpAny_getItem_list hl (by omega) (by omega) (by simpa using hx) h) (subsName _ _ _ _ _)
theorem itemOut {Q : Value → Shared → Prop} (hl : s.heap.IsList l vs.toArray) (hk : k = (n : Int)) (hx : n = vs.length) (hz : vs.length ≤ 63) (hh : A.handled = none) (h : ∀ h' tk e, Heap.NewExc s.heap h' e "IndexError" → E (.ref e) { s with heap := h', toks := tk }) : wpAny (model prog w) A (subscriptTail value (.Name nm np) (.ref l) (.int k u)) Q E s := by
  subst hk
  exact item_outK hh hl (.inr (by simp; omega)) (by omega) (by omega) h (subsName _ _ _ _ _)
theorem kTrans {a b c : Heap} (h : Keeps a b) (h' : Keeps b c) : Keeps a c := fun x o e => h' x o (h x o e)
theorem ltRef {a b : Addr} {m m' : Int} {c : Bool} {hb : Heap} {Q : Value → Shared → Prop} (hk : Keeps hb s.heap) (hw : IsW hb (.ref a) m) (hw' : IsW hb (.ref b) m') (hc : ltW m m' = c) (hu : A.units < cLine) (h : Q (.bool c) s) : wpAny (model prog w) A (compareOp .Lt (.ref a) (.ref b)) Q E s :=
  ltWords (hw.keeps hk) (hw'.keeps hk) hu (hc ▸ h)
theorem gtRef {a b : Addr} {m m' : Int} {c : Bool} {hb : Heap} {Q : Value → Shared → Prop} (hk : Keeps hb s.heap) (hw : IsW hb (.ref a) m) (hw' : IsW hb (.ref b) m') (hc : ltW m' m = c) (hu : A.units < cLine) (h : Q (.bool c) s) : wpAny (model prog w) A (compareOp .Gt (.ref a) (.ref b)) Q E s :=
  gtWords (hw.keeps hk) (hw'.keeps hk) hu (hc ▸ h)
theorem eqRef {a b : Addr} {m m' : Int} {hb : Heap} {Q : Value → Shared → Prop} (hk : Keeps hb s.heap) (hw : IsW hb (.ref a) m) (hw' : IsW hb (.ref b) m') (hc : m' ≠ m) (hu : A.units + 64 < cLine) (h : Q (.bool false) s) : wpAny (model prog w) A (compareOp .Eq (.ref a) (.ref b)) Q E s :=
  eqW (hw.keeps hk) (hw'.keeps hk) hu (by rw [decide_eq_false (Ne.symm hc)]; exact h)
theorem subsSlice (y : Str) (q p : Pos) (l z : Addr) : subscripted (.Slice (some (.Name y q)) none none p) false (.ref l) (.ref z) = operate [.ref z, .ref l] (getItem (.ref l) (.ref z)) := by with_unfolding_all rfl
theorem tempName (x : Str) (p : Pos) (l : Addr) (r : Value) : letTemporaryGo (.Name x p) (.ref l) r = pure () := by with_unfolding_all rfl
theorem sliceFrom {h₀ : Heap} {L : Addr} {m : Str → Option Value} {news : List (Addr × Obj)} {Q : Value → Shared → Prop} {y : Str} {q p : Pos} (F : Fr h₀ L s.heap m) (N : News h₀ L s.heap news) (hl : s.heap.IsList l vs.toArray) (hk : k = (n : Int)) (hz : vs.length ≤ 63)
    (h : ∀ D h', Fr h₀ L h' m → News h₀ L h' ((D, listOf (List.toArray (vs.drop n)) 0) :: news) → (∀ q ∈ news, q.1 < D) → Q (.ref D) { s with heap := h' }) :
    wpAny (model prog w) A (subscriptTail (.Name nm np) (.Slice (some (.Name y q)) none none p) (.ref l) (.ref s.heap.objs.size)) Q E { s with heap := s.heap.push { cls := .type "slice", data := .fields #[.int k u, .none, .none] } } := by
  subst hk
  refine kmk_slice F N hl (IsPart.int _ _) IsPart.none (fun D h' F' N' l1 => h D h' F' ?_ l1) (subsSlice _ _ _ _ _) (tempName _ _ _) (by rw [List.size_toArray, sizeLine_eq]; omega)
  rw [slicePick_from'] at N'
  exact N'
theorem updOf {D : Addr} {o o' : Obj} {post : List (Addr × Obj)} (hp : ∀ p ∈ post, p.1 ≠ D) : ∀ {pre : List (Addr × Obj)}, (∀ p ∈ pre, p.1 ≠ D) → Upd D o o' (pre ++ (D, o) :: post) (pre ++ (D, o') :: post)
  | [], _ => .head hp
  | p :: pre, h => .tail (h p (.head _)) (updOf hp fun q hq => h q (.tail _ hq))
theorem extSlice {h₀ : Heap} {L D b : Addr} {m : Str → Option Value} {news : List (Addr × Obj)} {g : Obj → List (Addr × Obj)} {v us : List Value} {ku c : Nat} {Q : Value → Shared → Prop} (F : Fr h₀ L s.heap m) (N : News h₀ L s.heap news)
    (hb : (b, listOf (List.toArray (v.drop n)) c) ∈ news) (U : UpdF D (listOf (List.toArray us) ku) news g) (hz : us.length + v.length ≤ 1000)
    (h : ∀ h' c', Fr h₀ L h' m → News h₀ L h' (g (listOf (List.toArray (us ++ v.drop n)) c')) → Q .none { s with heap := h' }) : wpAny (model prog w) A (call (.builtin "list.extend") [.ref D, .ref b]) Q E s := by
  obtain ⟨pre, post, rfl, hg, a, c0⟩ := U.split
  have hl : (v.drop n).length ≤ v.length := by rw [List.length_drop]; omega
  have hd : ¬(!(List.toArray us).isEmpty && Builtin.List.listTooLong ((List.toArray us).size + (List.toArray (v.drop n)).size)) = true := by
    rw [List.size_toArray, List.size_toArray]
    have : Builtin.List.listTooLong (us.length + (v.drop n).length) = false := by
      unfold Builtin.List.listTooLong
      exact decide_eq_false (by rw [sizeLine_eq]; omega)
    rw [this, Bool.and_false]
    decide
  have z1 : (List.toArray us).toList.length ≤ sizeLine := by rw [sizeLine_eq]; show us.length ≤ _; omega
  have z2 : (List.toArray us).size + (List.toArray (v.drop n)).size ≤ sizeLine + 1 := by rw [sizeLine_eq, List.size_toArray, List.size_toArray]; omega
  by_cases he : v.drop n = []
  · refine kxn_extend F N hb (by simpa using he) (updOf c0 a) hd z1 z2 fun h' F' N' => h h' ku F' ?_
    rw [hg, he, List.append_nil]
    exact N'
  · refine kl_extend F N hb rfl (by show (v.drop n).length ≠ 0; exact fun q => he (List.length_eq_zero_iff.mp q)) (updOf c0 a) hd z1 z2 fun h' F' N' => h h' (ku + 1) F' ?_
    rw [hg]
    exact N'
/-- an exception that is on its way and noted here is taken by the first clause -/
theorem caughtF {prog : Program} {w : World} {A₀ : Around} {E : Value → Shared → Prop} {s' : Shared} {hb : Heap} {L' a e : Addr} {m : Str → Option Value} {name : Str} {scope : Scope} {cd : Value} {news : List (Addr × Obj)} {c : Value}
    {b₀ : Stmt} {suite : List Stmt} {pos np : Pos} {rest : List ExceptHandler} {Q : Flow → Shared → Prop} {X : String} {x : Str} {p : Program} {loose : List Str} {mean : ExcName → Option Value} {mg mb : Str → Option Value}
    (H : Fly hb L' s'.heap m e X c (rawInt L') news) (T : Top p loose mean mg mb hb)
    (k : ∀ h', Fr hb L' h' m → News hb L' h' news → wpAny (model prog w) ((A₀.deeper (envOf name scope L' a cd)).mark (some (.ref e))) (execs (b₀ :: suite) (envOf name scope L' a cd)) Q E { s' with heap := h' })
    (t1 : x ∉ startupNames := by decide +kernel) (t2 : x ∉ loose := by decide +kernel) (t3 : x ∉ (recsOf p).map (·.name) := by decide +kernel) (t4 : x ∉ (litsOf p).map (·.1) := by decide +kernel) (t5 : x ∉ (clssOf p loose).map (·.name) := by decide +kernel)
    (h3 : subB X (.type x.toString) = some true := by decide +kernel) (hv : bootBuiltins x = some (.type x.toString) := by decide +kernel) (h1 : subB x.toString (.type "BaseException") = some true := by decide +kernel)
    (h2 : subB ((Manifest.find? x.toString).elim "type" fun y => y.metatype) (.type "tuple") = some false := by decide +kernel) (hn : x ≠ "__name__" := by decide)
    (hk : scope.kind = .function := by rfl) (hxk : (envOf name scope L' a cd).kindOf x = some .globalImplicit := by rfl) (hdb : (x == ("__debug__" : Str)) = false := by decide)
    (hE : PassesOwnAt (model prog w) ((A₀.deeper (envOf name scope L' a cd)).mark (some (.ref e))) (A₀.deeper (envOf name scope L' a cd)) (envOf name scope L' a cd) E := by passes_own) :
    wpAny (model prog w) (A₀.deeper (envOf name scope L' a cd)) (noteFrame (.ref e) (envOf name scope L' a cd))
      (fun _ s₂ => wpAny (model prog w) (A₀.deeper (envOf name scope L' a cd)) (setFlight (.ref e) none) (fun _ s₃ =>
        wpAny (model prog w) (A₀.deeper (envOf name scope L' a cd)) (handleBy (.ref e) (envOf name scope L' a cd) (.ExceptHandler (some (.Name x np)) none (b₀ :: suite) pos :: rest)) Q E s₃) E s₂) E s' :=
  H.again (TT.HeldNA.land H.toNA fun h2' H2 => TT.clause_hitTN H2 T t1 t2 t3 t4 t5 k h3 hv h1 h2 hn hk hxk hdb hE)
theorem excNew {h h' : Heap} {e : Addr} {X : String} (x : Heap.NewExc h h' e X) : ∃ ob vs, h'.get? e = some ob ∧ ob.cls = .type X ∧ ob.data = .fields vs ∧ vs[1]? = some .none ∧ vs[2]? = some .none := by
  obtain ⟨ob, t, a, b, c⟩ := x.there
  exact ⟨ob, _, a, b, c, rfl, rfl⟩
theorem itemOutM {h₀ : Heap} {L : Addr} {news : List (Addr × Obj)} {e0 : Addr} {o0 : Obj} {vs0 : Array Value} {Q : Value → Shared → Prop} (hl : s.heap.IsList l vs.toArray) (hk : k = (n : Int)) (hx : n = vs.length) (hz : vs.length ≤ 63) (hh : A.handled = some (.ref e0)) (N : News h₀ L s.heap news) (hm : (e0, o0) ∈ news) (hd : o0.data = .fields vs0) (hc : vs0[2]? = some .none)
    (h : ∀ h' tk e, NewIn s.heap h' e "IndexError" e0 → E (.ref e) { s with heap := h', toks := tk }) : wpAny (model prog w) A (subscriptTail value (.Name nm np) (.ref l) (.int k u)) Q E s := by
  subst hk
  exact item_outIn hh (N _ hm).1 hd hc hl (by simp; omega) (by omega) h (subsName _ _ _ _ _)
theorem While_once {test : PySem.Expr} {body : List Stmt} {pos : Pos} {env : Env} {Q : Flow → Shared → Prop} (turn : wpAny (model prog w) A (isTrue test env (eval test env)) (fun b s₂ => if b = true then False else Q .next s₂) E s)
    (hE : PassesOwn (model prog w) A env E := by passes_own) : wpAny (model prog w) A (exec (.While test body [] pos) env) Q E s := by
  refine wpAny_While (codeAny_whileLoop (fun n s' => s' = s) ?_ 0 rfl)
  rintro n s' rfl
  refine wpAny_mono turn (fun b s₂ h₂ => ?_) hE
  cases b with
  | false =>
    simp only [Bool.false_eq_true, if_false] at h₂ ⊢
    exact wpAny_execs_nil h₂
  | true =>
    simp only [if_true] at h₂
end
/-- what follows a caught exception is walked once -/
theorem withTail {prog : Program} {w : World} {A : Around} {env : Env} {body suite : List Stmt} {b₀ : Stmt} {x : Str} {np pos : Pos} {Qb Q : Flow → Shared → Prop} {E : Value → Shared → Prop} {s : Shared} (T : List Stmt → Prop) (ht : T (b₀ :: suite))
    (k : T (b₀ :: suite) → wpAny (model prog w) A (execs body env) Qb (fun e s₁ => wpAny (model prog w) A (noteFrame e env) (fun _ s₂ => wpAny (model prog w) A (setFlight e none) (fun _ s₃ => wpAny (model prog w) A (handleBy e env [.ExceptHandler (some (.Name x np)) none (b₀ :: suite) pos]) Q E s₃) E s₂) E s₁) s) :
    wpAny (model prog w) A (execs body env) Qb (fun e s₁ => wpAny (model prog w) A (noteFrame e env) (fun _ s₂ => wpAny (model prog w) A (setFlight e none) (fun _ s₃ => wpAny (model prog w) A (handleBy e env [.ExceptHandler (some (.Name x np)) none (b₀ :: suite) pos]) Q E s₃) E s₂) E s₁) s := k ht
inductive SldJ (hb : Heap) (l1 l2 L : Addr) (v1 v2 : List Value) (m1 m2 : List Int) (oL : Obj) (n : Nat) (m : Str → Option Value) (nx : List (Addr × Obj)) : Prop
  | mk (ni nj : Nat) (ti tj : Tok) (mi ux : Addr) (mv uv : List Value) (km ku : Nat) (sl : Array (Option Value)) (xm xu : List Int) (e1 : m (Str.ofString "i") = some (.int (ni : Int) ti)) (e2 : m (Str.ofString "j") = some (.int (nj : Int) tj))
    (e3 : m (Str.ofString "unexpected") = some (.ref ux)) (e4 : m (Str.ofString "missing") = some (.ref mi)) (e5 : m (Str.ofString "actual") = some (.ref l2)) (e6 : m (Str.ofString "expected") = some (.ref l1))
    (hx : nx = [(ux, listOf (List.toArray uv) ku), (mi, listOf (List.toArray mv) km), (L, { oL with slots := sl })]) (d1 : ux ≠ mi) (d2 : ux ≠ L) (d3 : mi ≠ L) (hM : WdH hb mv xm) (hU : WdH hb uv xu) (hi : ni ≤ v1.length) (hj : nj ≤ v2.length)
    (hn : n = (v1.length - ni) + (v2.length - nj)) (hst : ∀ a b, Sld (m1.drop ni) (m2.drop nj) a b → Sld m1 m2 (xm ++ a) (xu ++ b)) (hml : mv.length ≤ ni) (hul : uv.length ≤ nj) : SldJ hb l1 l2 L v1 v2 m1 m2 oL n m nx
theorem sld_con {w : World} {dp un : Nat} {gd : Option (List Code)} {base : Heap} {mean : ExcName → Option Value} {mg mb : Str → Option Value} {s : Shared} {Q E : Value → Shared → Prop} {L : Addr} {oL : Obj} {envL : Env}
    {l1 l2 : Addr} {v1 v2 : List Value} {m1 m2 : List Int} {hb : Heap}
    (C : Cx w (Ar dp un gd [envL]) (s.heap.hide L) base [envL] mean mg mb) (tx : Tx s L oL envL) (hdp : dp + 2 < recursionLimit) (hun : un + 300 < cLine)
    (hl1 : (s.heap.hide L).IsList l1 v1.toArray) (hkb : Keeps hb (s.heap.hide L)) (hW1 : WdH hb v1 m1) (hlen1 : v1.length ≤ 63) (hl2 : (s.heap.hide L).IsList l2 v2.toArray) (hW2 : WdH hb v2 m2) (hlen2 : v2.length ≤ 63) (hs1 : ∀ i x y, m1[i]? = some x → m1[i + 1]? = some y → y ≠ x) (hs2 : ∀ i x y, m2[i]? = some x → m2[i + 1]? = some y → y ≠ x)
    (ret : ∀ t mi ux mv uv xm xu kt km ku h' tk' sl, Keeps (s.heap.hide L) h' → h'.get? L = some { oL with slots := sl } → (∀ p ∈ [(t, ({ cls := .type "tuple", data := .seq #[.ref mi, .ref ux] kt } : Obj)), (mi, listOf (List.toArray mv) km), (ux, listOf (List.toArray uv) ku)], h'.get? p.1 = some p.2 ∧ (s.heap.hide L).get? p.1 = none ∧ p.1 ≠ L) → WdH hb mv xm → WdH hb uv xu → Sld m1 m2 xm xu → Q (.ref t) { s with heap := h', toks := tk' }) :
    wpAny (model PySem.Challenge.rw_qh0049_01.row.prog w) (Ar dp un gd [envL]) (call (.ref 123) [.ref l1, .ref l2]) Q E s := by
  have KX := C.X
  revert KX
  k_fill
  intro KX
  have KT := C.T
  w_on
  refine' enterT (binds := [(Str.ofString "expected", .ref l1), (Str.ofString "actual", .ref l2)]) tx.here KX KT ?k6 ?k7 ?k8 ?k9 ?kB ?_ ?c2 ?c3 ?c4 ?c5
  (k_dflt ((case k6 => k_is); (case k7 => k_is); (case k8 => exact Nat.lt_of_le_of_lt (Nat.le_add_right _ _) hdp); (case k9 => first | exact BindsTo.of_eq rfl | exact binds_K (by assumption) rfl (by k_is) rfl rfl rfl); (case c5 => decide); (case kB => exact locs rfl); (case c2 => exact rfl); (case c3 => exact rfl); (case c4 => exact rfl)))
  intro Lf ev Ak m0 h1 F N
  (try k_fold)
  repeat ((fail_if_success (with_reducible show wpAny _ _ (exec (PySem.Stmt.While _ _ _ _) _) _ _ _)); ((try ((with_reducible show wpAny _ _ (execs _ _) _ _ _); k_gentoks)); (try ((with_reducible show wpAny _ _ (exec _ _) _ _ _); (with_reducible refine foldQ ?_); intro qx)); (first | (k_unfold; (try (first | refine wpI (P := wpAny _ _ _ _ _ ⟨_, s.gens, s.drawn, _, s.os⟩) ?_ | refine wpI (P := wpAny _ _ _ _ _ _) ?_)); (try dsimp only)) | (k_end; kc_close) | (with_reducible ((with_reducible show wpAny _ _ (exec (Stmt.Try _ [] _ (_ :: _) _) _) _ _ _); refine wpAny_Try_finally ?_)) | (with_reducible ((with_reducible show wpAny _ _ (exec (PySem.Stmt.While (PySem.Expr.Compare _ _ _ _) (_ :: _) [] _) _) _ _ _); (first | (refine While_once ?_ PassesOwn.looking) | (refine While_once ?_)))) | (with_reducible ((with_reducible show wpAny _ _ (compareOp PySem.CmpOp.Eq (Value.ref _) (Value.ref _)) _ _ _); (k_dflt (refine' eqRef (kTrans (by with_reducible assumption) (Fr.keep (by with_reducible assumption))) ?aq8 ?bq8 ?cq8 ?uq8 ?_; (case aq8 => with_reducible assumption); (case bq8 => with_reducible assumption); (case cq8 => with_reducible assumption); (case uq8 => ((first | exact room 1 hdp | exact room 2 hdp | exact room 3 hdp | exact room 4 hdp | exact room 8 hun | exact room 16 hun | exact room 24 hun | exact room 32 hun | exact room 64 hun | exact room 65 hun | exact room 2 hun | exact Nat.lt_of_le_of_lt (Nat.le_add_right _ _) hun | ((try dsimp +zetaDelta only [Ar, Around.deeper, Around.mark]); omega)))))))) | (with_reducible ((with_reducible show wpAny _ _ (compareOp PySem.CmpOp.Gt (Value.ref _) (Value.ref _)) _ _ _); (k_dflt (refine' gtRef (kTrans (by with_reducible assumption) (Fr.keep (by with_reducible assumption))) ?aq8 ?bq8 ?cq8 ?uq8 ?_; (case aq8 => with_reducible assumption); (case bq8 => with_reducible assumption); (case cq8 => with_reducible assumption); (case uq8 => ((first | exact room 1 hdp | exact room 2 hdp | exact room 3 hdp | exact room 4 hdp | exact room 8 hun | exact room 16 hun | exact room 24 hun | exact room 32 hun | exact room 64 hun | exact room 65 hun | exact room 2 hun | exact Nat.lt_of_le_of_lt (Nat.le_add_right _ _) hun | ((try dsimp +zetaDelta only [Ar, Around.deeper, Around.mark]); omega)))))))) | (with_reducible ((with_reducible show wpAny _ _ (compareOp PySem.CmpOp.Lt (Value.ref _) (Value.ref _)) _ _ _); (k_dflt (refine' ltRef (kTrans (by with_reducible assumption) (Fr.keep (by with_reducible assumption))) ?aq8 ?bq8 ?cq8 ?uq8 ?_; (case aq8 => with_reducible assumption); (case bq8 => with_reducible assumption); (case cq8 => with_reducible assumption); (case uq8 => ((first | exact room 1 hdp | exact room 2 hdp | exact room 3 hdp | exact room 4 hdp | exact room 8 hun | exact room 16 hun | exact room 24 hun | exact room 32 hun | exact room 64 hun | exact room 65 hun | exact room 2 hun | exact Nat.lt_of_le_of_lt (Nat.le_add_right _ _) hun | ((try dsimp +zetaDelta only [Ar, Around.deeper, Around.mark]); omega)))))))) | (with_reducible ((with_reducible show wpAny _ _ (subscriptTail (PySem.Expr.Name _ _) (PySem.Expr.Slice _ _ _ _) (Value.ref _) (Value.ref _)) _ _ _); (k_dflt (refine' sliceFrom ?Fq8 ?Nq8 ?lq8 ?kq8 ?zq8 ?_; (case Fq8 => with_reducible assumption); (case Nq8 => with_reducible assumption); (case lq8 => (first | exact Fr.lst (by with_reducible assumption) (by with_reducible assumption) | with_reducible assumption)); (case kq8 => (first | exact natSucc _ | exact rfl)); (case zq8 => with_reducible assumption)); intro dS h' F' N' lS))) | (with_reducible ((with_reducible show wpAny _ _ (subscriptTail _ _ (Value.ref _) (Value.int _ _)) _ _ _); k_dflt (first | (refine' itemIn ?lq8 ?kq8 ?xq8 ?zq8 ?_; (case lq8 => (first | exact Fr.lst (by with_reducible assumption) (by with_reducible assumption) | with_reducible assumption)); (case kq8 => (first | exact natSucc _ | exact rfl)); (case xq8 => with_reducible assumption); (case zq8 => with_reducible assumption)) | (refine' itemOut ?lq8 ?kq8 ?xq8 ?zq8 ?hhq8 ?_; (case lq8 => (first | exact Fr.lst (by with_reducible assumption) (by with_reducible assumption) | with_reducible assumption)); (case kq8 => (first | exact natSucc _ | exact rfl)); (case xq8 => with_reducible assumption); (case zq8 => with_reducible assumption); (case hhq8 => exact rfl); intro h'q9 tk'q9 e'q9 hx'q9) | (refine' itemOutM ?lq8 ?kq8 ?xq8 ?zq8 ?hhq8 ?Nq8 ?mq8 ?dq8 ?cq8 ?_; (case lq8 => (first | exact Fr.lst (by with_reducible assumption) (by with_reducible assumption) | with_reducible assumption)); (case kq8 => (first | exact natSucc _ | exact rfl)); (case xq8 => with_reducible assumption); (case zq8 => with_reducible assumption); (case hhq8 => exact rfl); (case Nq8 => with_reducible assumption); (case dq8 => with_reducible assumption); (case mq8 => k_mem); (case cq8 => with_reducible assumption); intro h'q9 tk'q9 e'q9 hx'q9)))) | ((with_reducible show wpAny _ _ (call _ [Value.bytes _ _]) _ _ _); refine call_type_of (Tx := "bytes") rfl (by decide +kernel) ?_) | (with_reducible ((with_reducible show wpAny _ _ (storeName _ _ _) _ _ _); k_dflt (refine' storeM ?Fq7 ?Nq7 ?_ ?aq7 ?bq7; (case Fq7 => k_asm); (case Nq7 => k_asm); (case aq7 => rfl); (case bq7 => rfl); k_whole; intro m'q7 h'q7 F'q7 N'q7; (try k_sweep)))) | (with_reducible ((with_reducible show wpAny _ _ (eval (PySem.Expr.Name _ _) _) _ _ _); k_dflt (refine' nameX_L ?Fq7 ?vq7 ?_ ?aq7 ?bq7; (case Fq7 => k_asm); (case aq7 => rfl); (case bq7 => rfl); (case vq7 => exact Eq.refl (some _)); k_whole))) | ((with_reducible show InvEnd _ _ _ _ _ _); ((with_reducible rename Fr _ _ _ _ => kFq7); first | ((dsimp +zetaDelta only at kFq7); (try dsimp +zetaDelta only)) | dsimp +zetaDelta only)) | ((with_reducible show InvEndG _ _ _ _ _ _); ((with_reducible rename Fr _ _ _ _ => kFq7); first | ((dsimp +zetaDelta only at kFq7); (try dsimp +zetaDelta only)) | dsimp +zetaDelta only)) | walk1 | (dsimp only; walk1) | (leave1; (try dsimp only)) | fail "no step") <;> (repeat ((fail_if_success (fail_if_success ((generalize qx = zq); (with_reducible show zq _ _)))); k_unfold; (try clear qx); (try (first | refine wpI (P := wpAny _ _ _ _ _ ⟨_, s.gens, s.drawn, _, s.os⟩) ?_ | refine wpI (P := wpAny _ _ _ _ _ _) ?_)); (try dsimp only)))))
  rename Fr _ _ _ _ => F
  rename News _ _ _ _ => N
  rename _ ∧ _ => q1
  rename L < _ => q2
  refine While_inv2 (SldJ hb l1 l2 L v1 v2 m1 m2 oL) (n₀ := v1.length + v2.length) F N ⟨0, 0, _, _, _, _, [], [], _, _, oL.slots, [], [], rfl, rfl, rfl, rfl, rfl, rfl, rfl, Nat.ne_of_gt q1.1, Nat.ne_of_gt q1.2, Nat.ne_of_gt q2, .nil, .nil, Nat.zero_le _, Nat.zero_le _, rfl, fun a b h => h, Nat.le_refl _, Nat.le_refl _⟩ ?turn
  case turn =>
    rintro n m9 nx h tk F N ⟨ni, nj, ti, tj, mi, ux, mv, uv, km, ku, sl, xm, xu, e1, e2, e3, e4, e5, e6, rfl, d1, d2, d3, hM, hU, hi, hj, hn, hst, hml, hul⟩
    rw [mapOn6 e1 e2 e3 e4 e5 e6] at F
    replace F : Fr (s.heap.hide L) Lf h _ := F
    replace N : News (s.heap.hide L) Lf h _ := N
    iterate 6 ((try ((with_reducible show wpAny _ _ (execs _ _) _ _ _); k_gentoks)); (try ((with_reducible show wpAny _ _ (exec _ _) _ _ _); (with_reducible refine foldQ ?_); intro qx)); (first | (k_unfold; (try (first | refine wpI (P := wpAny _ _ _ _ _ ⟨_, s.gens, s.drawn, _, s.os⟩) ?_ | refine wpI (P := wpAny _ _ _ _ _ _) ?_)); (try dsimp only)) | (k_end; kc_close) | (with_reducible ((with_reducible show wpAny _ _ (exec (Stmt.Try _ [] _ (_ :: _) _) _) _ _ _); refine wpAny_Try_finally ?_)) | (with_reducible ((with_reducible show wpAny _ _ (exec (PySem.Stmt.While (PySem.Expr.Compare _ _ _ _) (_ :: _) [] _) _) _ _ _); (first | (refine While_once ?_ PassesOwn.looking) | (refine While_once ?_)))) | (with_reducible ((with_reducible show wpAny _ _ (compareOp PySem.CmpOp.Eq (Value.ref _) (Value.ref _)) _ _ _); (k_dflt (refine' eqRef (kTrans (by with_reducible assumption) (Fr.keep (by with_reducible assumption))) ?aq8 ?bq8 ?cq8 ?uq8 ?_; (case aq8 => with_reducible assumption); (case bq8 => with_reducible assumption); (case cq8 => with_reducible assumption); (case uq8 => ((first | exact room 1 hdp | exact room 2 hdp | exact room 3 hdp | exact room 4 hdp | exact room 8 hun | exact room 16 hun | exact room 24 hun | exact room 32 hun | exact room 64 hun | exact room 65 hun | exact room 2 hun | exact Nat.lt_of_le_of_lt (Nat.le_add_right _ _) hun | ((try dsimp +zetaDelta only [Ar, Around.deeper, Around.mark]); omega)))))))) | (with_reducible ((with_reducible show wpAny _ _ (compareOp PySem.CmpOp.Gt (Value.ref _) (Value.ref _)) _ _ _); (k_dflt (refine' gtRef (kTrans (by with_reducible assumption) (Fr.keep (by with_reducible assumption))) ?aq8 ?bq8 ?cq8 ?uq8 ?_; (case aq8 => with_reducible assumption); (case bq8 => with_reducible assumption); (case cq8 => with_reducible assumption); (case uq8 => ((first | exact room 1 hdp | exact room 2 hdp | exact room 3 hdp | exact room 4 hdp | exact room 8 hun | exact room 16 hun | exact room 24 hun | exact room 32 hun | exact room 64 hun | exact room 65 hun | exact room 2 hun | exact Nat.lt_of_le_of_lt (Nat.le_add_right _ _) hun | ((try dsimp +zetaDelta only [Ar, Around.deeper, Around.mark]); omega)))))))) | (with_reducible ((with_reducible show wpAny _ _ (compareOp PySem.CmpOp.Lt (Value.ref _) (Value.ref _)) _ _ _); (k_dflt (refine' ltRef (kTrans (by with_reducible assumption) (Fr.keep (by with_reducible assumption))) ?aq8 ?bq8 ?cq8 ?uq8 ?_; (case aq8 => with_reducible assumption); (case bq8 => with_reducible assumption); (case cq8 => with_reducible assumption); (case uq8 => ((first | exact room 1 hdp | exact room 2 hdp | exact room 3 hdp | exact room 4 hdp | exact room 8 hun | exact room 16 hun | exact room 24 hun | exact room 32 hun | exact room 64 hun | exact room 65 hun | exact room 2 hun | exact Nat.lt_of_le_of_lt (Nat.le_add_right _ _) hun | ((try dsimp +zetaDelta only [Ar, Around.deeper, Around.mark]); omega)))))))) | (with_reducible ((with_reducible show wpAny _ _ (subscriptTail (PySem.Expr.Name _ _) (PySem.Expr.Slice _ _ _ _) (Value.ref _) (Value.ref _)) _ _ _); (k_dflt (refine' sliceFrom ?Fq8 ?Nq8 ?lq8 ?kq8 ?zq8 ?_; (case Fq8 => with_reducible assumption); (case Nq8 => with_reducible assumption); (case lq8 => (first | exact Fr.lst (by with_reducible assumption) (by with_reducible assumption) | with_reducible assumption)); (case kq8 => (first | exact natSucc _ | exact rfl)); (case zq8 => with_reducible assumption)); intro dS h' F' N' lS))) | (with_reducible ((with_reducible show wpAny _ _ (subscriptTail _ _ (Value.ref _) (Value.int _ _)) _ _ _); k_dflt (first | (refine' itemIn ?lq8 ?kq8 ?xq8 ?zq8 ?_; (case lq8 => (first | exact Fr.lst (by with_reducible assumption) (by with_reducible assumption) | with_reducible assumption)); (case kq8 => (first | exact natSucc _ | exact rfl)); (case xq8 => with_reducible assumption); (case zq8 => with_reducible assumption)) | (refine' itemOut ?lq8 ?kq8 ?xq8 ?zq8 ?hhq8 ?_; (case lq8 => (first | exact Fr.lst (by with_reducible assumption) (by with_reducible assumption) | with_reducible assumption)); (case kq8 => (first | exact natSucc _ | exact rfl)); (case xq8 => with_reducible assumption); (case zq8 => with_reducible assumption); (case hhq8 => exact rfl); intro h'q9 tk'q9 e'q9 hx'q9) | (refine' itemOutM ?lq8 ?kq8 ?xq8 ?zq8 ?hhq8 ?Nq8 ?mq8 ?dq8 ?cq8 ?_; (case lq8 => (first | exact Fr.lst (by with_reducible assumption) (by with_reducible assumption) | with_reducible assumption)); (case kq8 => (first | exact natSucc _ | exact rfl)); (case xq8 => with_reducible assumption); (case zq8 => with_reducible assumption); (case hhq8 => exact rfl); (case Nq8 => with_reducible assumption); (case dq8 => with_reducible assumption); (case mq8 => k_mem); (case cq8 => with_reducible assumption); intro h'q9 tk'q9 e'q9 hx'q9)))) | ((with_reducible show wpAny _ _ (call _ [Value.bytes _ _]) _ _ _); refine call_type_of (Tx := "bytes") rfl (by decide +kernel) ?_) | (with_reducible ((with_reducible show wpAny _ _ (storeName _ _ _) _ _ _); k_dflt (refine' storeM ?Fq7 ?Nq7 ?_ ?aq7 ?bq7; (case Fq7 => k_asm); (case Nq7 => k_asm); (case aq7 => rfl); (case bq7 => rfl); k_whole; intro m'q7 h'q7 F'q7 N'q7; (try k_sweep)))) | (with_reducible ((with_reducible show wpAny _ _ (eval (PySem.Expr.Name _ _) _) _ _ _); k_dflt (refine' nameX_L ?Fq7 ?vq7 ?_ ?aq7 ?bq7; (case Fq7 => k_asm); (case aq7 => rfl); (case bq7 => rfl); (case vq7 => exact Eq.refl (some _)); k_whole))) | ((with_reducible show InvEnd _ _ _ _ _ _); ((with_reducible rename Fr _ _ _ _ => kFq7); first | ((dsimp +zetaDelta only at kFq7); (try dsimp +zetaDelta only)) | dsimp +zetaDelta only)) | ((with_reducible show InvEndG _ _ _ _ _ _); ((with_reducible rename Fr _ _ _ _ => kFq7); first | ((dsimp +zetaDelta only at kFq7); (try dsimp +zetaDelta only)) | dsimp +zetaDelta only)) | walk1 | (dsimp only; walk1) | (leave1; (try dsimp only)) | fail "no step") <;> (repeat ((fail_if_success (fail_if_success ((generalize qx = zq); (with_reducible show zq _ _)))); k_unfold; (try clear qx); (try (first | refine wpI (P := wpAny _ _ _ _ _ ⟨_, s.gens, s.drawn, _, s.os⟩) ?_ | refine wpI (P := wpAny _ _ _ _ _ _) ?_)); (try dsimp only))))
    refine withTail (env := ev) (T := fun HB => ∀ (e : Addr) (ni nj : Nat) (ti tj : Tok) (mi ux : Addr) (mv uv : List Value) (km ku : Nat) (sl9 : Array (Option Value)) (xm xu : List Int) (m9 : Str → Option Value) (h9 : Heap) (tk9 : Nat), Fr (s.heap.hide L) Lf h9 m9 → News (s.heap.hide L) Lf h9 [(ux, listOf (List.toArray uv) ku), (mi, listOf (List.toArray mv) km), (L, { oL with slots := sl9 })] → m9 (Str.ofString "i") = some (.int (ni : Int) ti) → m9 (Str.ofString "j") = some (.int (nj : Int) tj) → m9 (Str.ofString "unexpected") = some (.ref ux) → m9 (Str.ofString "missing") = some (.ref mi) → m9 (Str.ofString "actual") = some (.ref l2) → m9 (Str.ofString "expected") = some (.ref l1) → ux ≠ mi → ux ≠ L → mi ≠ L → mv.length ≤ 100 → uv.length ≤ 100 → WdH hb mv xm → WdH hb uv xu → Sld m1 m2 (xm ++ m1.drop ni) (xu ++ m2.drop nj) →
      wpAny (model PySem.Challenge.rw_qh0049_01.row.prog w) (Ak.mark (some (.ref e))) (execs HB ev) qx ek { s with heap := h9, toks := tk9 }) ?tail ?_
    case tail =>
      clear F N e1 e2 e3 e4 e5 e6 d1 d2 d3 hM hU hi hj hn hst hml hul
      clear ni nj ti tj mi ux mv uv km ku sl xm xu
      intro e ni nj ti tj mi ux mv uv km ku sl9 xm xu m9 h9 tk9 F N e1 e2 e3 e4 e5 e6 d1 d2 d3 hml hul hM hU hS
      rw [mapOn6 e1 e2 e3 e4 e5 e6] at F
      clear e1 e2 e3 e4 e5 e6
      (repeat' ((try ((with_reducible show wpAny _ _ (execs _ _) _ _ _); k_gentoks)); (try ((with_reducible show wpAny _ _ (exec _ _) _ _ _); (with_reducible refine foldQ ?_); intro qx)); (first | (k_unfold; (try (first | refine wpI (P := wpAny _ _ _ _ _ ⟨_, s.gens, s.drawn, _, s.os⟩) ?_ | refine wpI (P := wpAny _ _ _ _ _ _) ?_)); (try dsimp only)) | (k_end; wrow_close) | (with_reducible ((with_reducible show wpAny _ _ (exec (Stmt.Try _ [] _ (_ :: _) _) _) _ _ _); refine wpAny_Try_finally ?_)) | (with_reducible ((with_reducible show wpAny _ _ (exec (PySem.Stmt.While (PySem.Expr.Compare _ _ _ _) (_ :: _) [] _) _) _ _ _); (first | (refine While_once ?_ PassesOwn.looking) | (refine While_once ?_)))) | (with_reducible ((with_reducible show wpAny _ _ (compareOp PySem.CmpOp.Eq (Value.ref _) (Value.ref _)) _ _ _); (k_dflt (refine' eqRef (kTrans (by with_reducible assumption) (Fr.keep (by with_reducible assumption))) ?aq8 ?bq8 ?cq8 ?uq8 ?_; (case aq8 => with_reducible assumption); (case bq8 => with_reducible assumption); (case cq8 => with_reducible assumption); (case uq8 => ((first | exact room 1 hdp | exact room 2 hdp | exact room 3 hdp | exact room 4 hdp | exact room 8 hun | exact room 16 hun | exact room 24 hun | exact room 32 hun | exact room 64 hun | exact room 65 hun | exact room 2 hun | exact Nat.lt_of_le_of_lt (Nat.le_add_right _ _) hun | ((try dsimp +zetaDelta only [Ar, Around.deeper, Around.mark]); omega)))))))) | (with_reducible ((with_reducible show wpAny _ _ (compareOp PySem.CmpOp.Gt (Value.ref _) (Value.ref _)) _ _ _); (k_dflt (refine' gtRef (kTrans (by with_reducible assumption) (Fr.keep (by with_reducible assumption))) ?aq8 ?bq8 ?cq8 ?uq8 ?_; (case aq8 => with_reducible assumption); (case bq8 => with_reducible assumption); (case cq8 => with_reducible assumption); (case uq8 => ((first | exact room 1 hdp | exact room 2 hdp | exact room 3 hdp | exact room 4 hdp | exact room 8 hun | exact room 16 hun | exact room 24 hun | exact room 32 hun | exact room 64 hun | exact room 65 hun | exact room 2 hun | exact Nat.lt_of_le_of_lt (Nat.le_add_right _ _) hun | ((try dsimp +zetaDelta only [Ar, Around.deeper, Around.mark]); omega)))))))) | (with_reducible ((with_reducible show wpAny _ _ (compareOp PySem.CmpOp.Lt (Value.ref _) (Value.ref _)) _ _ _); (k_dflt (refine' ltRef (kTrans (by with_reducible assumption) (Fr.keep (by with_reducible assumption))) ?aq8 ?bq8 ?cq8 ?uq8 ?_; (case aq8 => with_reducible assumption); (case bq8 => with_reducible assumption); (case cq8 => with_reducible assumption); (case uq8 => ((first | exact room 1 hdp | exact room 2 hdp | exact room 3 hdp | exact room 4 hdp | exact room 8 hun | exact room 16 hun | exact room 24 hun | exact room 32 hun | exact room 64 hun | exact room 65 hun | exact room 2 hun | exact Nat.lt_of_le_of_lt (Nat.le_add_right _ _) hun | ((try dsimp +zetaDelta only [Ar, Around.deeper, Around.mark]); omega)))))))) | (with_reducible ((with_reducible show wpAny _ _ (subscriptTail (PySem.Expr.Name _ _) (PySem.Expr.Slice _ _ _ _) (Value.ref _) (Value.ref _)) _ _ _); (k_dflt (refine' sliceFrom ?Fq8 ?Nq8 ?lq8 ?kq8 ?zq8 ?_; (case Fq8 => with_reducible assumption); (case Nq8 => with_reducible assumption); (case lq8 => (first | exact Fr.lst (by with_reducible assumption) (by with_reducible assumption) | with_reducible assumption)); (case kq8 => (first | exact natSucc _ | exact rfl)); (case zq8 => with_reducible assumption)); intro dS h' F' N' lS))) | (with_reducible ((with_reducible show wpAny _ _ (subscriptTail _ _ (Value.ref _) (Value.int _ _)) _ _ _); k_dflt (first | (refine' itemIn ?lq8 ?kq8 ?xq8 ?zq8 ?_; (case lq8 => (first | exact Fr.lst (by with_reducible assumption) (by with_reducible assumption) | with_reducible assumption)); (case kq8 => (first | exact natSucc _ | exact rfl)); (case xq8 => with_reducible assumption); (case zq8 => with_reducible assumption)) | (refine' itemOut ?lq8 ?kq8 ?xq8 ?zq8 ?hhq8 ?_; (case lq8 => (first | exact Fr.lst (by with_reducible assumption) (by with_reducible assumption) | with_reducible assumption)); (case kq8 => (first | exact natSucc _ | exact rfl)); (case xq8 => with_reducible assumption); (case zq8 => with_reducible assumption); (case hhq8 => exact rfl); intro h'q9 tk'q9 e'q9 hx'q9) | (refine' itemOutM ?lq8 ?kq8 ?xq8 ?zq8 ?hhq8 ?Nq8 ?mq8 ?dq8 ?cq8 ?_; (case lq8 => (first | exact Fr.lst (by with_reducible assumption) (by with_reducible assumption) | with_reducible assumption)); (case kq8 => (first | exact natSucc _ | exact rfl)); (case xq8 => with_reducible assumption); (case zq8 => with_reducible assumption); (case hhq8 => exact rfl); (case Nq8 => with_reducible assumption); (case dq8 => with_reducible assumption); (case mq8 => k_mem); (case cq8 => with_reducible assumption); intro h'q9 tk'q9 e'q9 hx'q9)))) | ((with_reducible show wpAny _ _ (call _ [Value.bytes _ _]) _ _ _); refine call_type_of (Tx := "bytes") rfl (by decide +kernel) ?_) | (with_reducible ((with_reducible show wpAny _ _ (storeName _ _ _) _ _ _); k_dflt (refine' storeM ?Fq7 ?Nq7 ?_ ?aq7 ?bq7; (case Fq7 => k_asm); (case Nq7 => k_asm); (case aq7 => rfl); (case bq7 => rfl); k_whole; intro m'q7 h'q7 F'q7 N'q7; (try k_sweep)))) | (with_reducible ((with_reducible show wpAny _ _ (eval (PySem.Expr.Name _ _) _) _ _ _); k_dflt (refine' nameX_L ?Fq7 ?vq7 ?_ ?aq7 ?bq7; (case Fq7 => k_asm); (case aq7 => rfl); (case bq7 => rfl); (case vq7 => exact Eq.refl (some _)); k_whole))) | ((with_reducible show InvEnd _ _ _ _ _ _); ((with_reducible rename Fr _ _ _ _ => kFq7); first | ((dsimp +zetaDelta only at kFq7); (try dsimp +zetaDelta only)) | dsimp +zetaDelta only)) | ((with_reducible show InvEndG _ _ _ _ _ _); ((with_reducible rename Fr _ _ _ _ => kFq7); first | ((dsimp +zetaDelta only at kFq7); (try dsimp +zetaDelta only)) | dsimp +zetaDelta only)) | walk1 | (dsimp only; walk1) | (leave1; (try dsimp only)) | fail "no step") <;> (repeat ((fail_if_success (fail_if_success ((generalize qx = zq); (with_reducible show zq _ _)))); k_unfold; (try clear qx); (try (first | refine wpI (P := wpAny _ _ _ _ _ ⟨_, s.gens, s.drawn, _, s.os⟩) ?_ | refine wpI (P := wpAny _ _ _ _ _ _) ?_)); (try dsimp only)))))
      rename Fr _ _ _ _ => F
      rename News _ _ _ _ => N
      have gm : mi < dS := lS _ (.tail _ (.head _))
      have gu : ux < dS := lS _ (.head _)
      refine extSlice (us := mv) (v := v1) (n := ni) F N (.head _) (UpdF.tail (Nat.ne_of_gt gm) (UpdF.tail d1 (UpdF.head ?b2))) (by omega) ?_
      case b2 => exact fun q hq => by rw [List.mem_singleton.mp hq]; exact Ne.symm d3
      intro h10 c10 F10 N10
      (repeat' ((try ((with_reducible show wpAny _ _ (execs _ _) _ _ _); k_gentoks)); (try ((with_reducible show wpAny _ _ (exec _ _) _ _ _); (with_reducible refine foldQ ?_); intro qx)); (first | (k_unfold; (try (first | refine wpI (P := wpAny _ _ _ _ _ ⟨_, s.gens, s.drawn, _, s.os⟩) ?_ | refine wpI (P := wpAny _ _ _ _ _ _) ?_)); (try dsimp only)) | (k_end; wrow_close) | (with_reducible ((with_reducible show wpAny _ _ (exec (Stmt.Try _ [] _ (_ :: _) _) _) _ _ _); refine wpAny_Try_finally ?_)) | (with_reducible ((with_reducible show wpAny _ _ (exec (PySem.Stmt.While (PySem.Expr.Compare _ _ _ _) (_ :: _) [] _) _) _ _ _); (first | (refine While_once ?_ PassesOwn.looking) | (refine While_once ?_)))) | (with_reducible ((with_reducible show wpAny _ _ (compareOp PySem.CmpOp.Eq (Value.ref _) (Value.ref _)) _ _ _); (k_dflt (refine' eqRef (kTrans (by with_reducible assumption) (Fr.keep (by with_reducible assumption))) ?aq8 ?bq8 ?cq8 ?uq8 ?_; (case aq8 => with_reducible assumption); (case bq8 => with_reducible assumption); (case cq8 => with_reducible assumption); (case uq8 => ((first | exact room 1 hdp | exact room 2 hdp | exact room 3 hdp | exact room 4 hdp | exact room 8 hun | exact room 16 hun | exact room 24 hun | exact room 32 hun | exact room 64 hun | exact room 65 hun | exact room 2 hun | exact Nat.lt_of_le_of_lt (Nat.le_add_right _ _) hun | ((try dsimp +zetaDelta only [Ar, Around.deeper, Around.mark]); omega)))))))) | (with_reducible ((with_reducible show wpAny _ _ (compareOp PySem.CmpOp.Gt (Value.ref _) (Value.ref _)) _ _ _); (k_dflt (refine' gtRef (kTrans (by with_reducible assumption) (Fr.keep (by with_reducible assumption))) ?aq8 ?bq8 ?cq8 ?uq8 ?_; (case aq8 => with_reducible assumption); (case bq8 => with_reducible assumption); (case cq8 => with_reducible assumption); (case uq8 => ((first | exact room 1 hdp | exact room 2 hdp | exact room 3 hdp | exact room 4 hdp | exact room 8 hun | exact room 16 hun | exact room 24 hun | exact room 32 hun | exact room 64 hun | exact room 65 hun | exact room 2 hun | exact Nat.lt_of_le_of_lt (Nat.le_add_right _ _) hun | ((try dsimp +zetaDelta only [Ar, Around.deeper, Around.mark]); omega)))))))) | (with_reducible ((with_reducible show wpAny _ _ (compareOp PySem.CmpOp.Lt (Value.ref _) (Value.ref _)) _ _ _); (k_dflt (refine' ltRef (kTrans (by with_reducible assumption) (Fr.keep (by with_reducible assumption))) ?aq8 ?bq8 ?cq8 ?uq8 ?_; (case aq8 => with_reducible assumption); (case bq8 => with_reducible assumption); (case cq8 => with_reducible assumption); (case uq8 => ((first | exact room 1 hdp | exact room 2 hdp | exact room 3 hdp | exact room 4 hdp | exact room 8 hun | exact room 16 hun | exact room 24 hun | exact room 32 hun | exact room 64 hun | exact room 65 hun | exact room 2 hun | exact Nat.lt_of_le_of_lt (Nat.le_add_right _ _) hun | ((try dsimp +zetaDelta only [Ar, Around.deeper, Around.mark]); omega)))))))) | (with_reducible ((with_reducible show wpAny _ _ (subscriptTail (PySem.Expr.Name _ _) (PySem.Expr.Slice _ _ _ _) (Value.ref _) (Value.ref _)) _ _ _); (k_dflt (refine' sliceFrom ?Fq8 ?Nq8 ?lq8 ?kq8 ?zq8 ?_; (case Fq8 => with_reducible assumption); (case Nq8 => with_reducible assumption); (case lq8 => (first | exact Fr.lst (by with_reducible assumption) (by with_reducible assumption) | with_reducible assumption)); (case kq8 => (first | exact natSucc _ | exact rfl)); (case zq8 => with_reducible assumption)); intro dS h' F' N' lS))) | (with_reducible ((with_reducible show wpAny _ _ (subscriptTail _ _ (Value.ref _) (Value.int _ _)) _ _ _); k_dflt (first | (refine' itemIn ?lq8 ?kq8 ?xq8 ?zq8 ?_; (case lq8 => (first | exact Fr.lst (by with_reducible assumption) (by with_reducible assumption) | with_reducible assumption)); (case kq8 => (first | exact natSucc _ | exact rfl)); (case xq8 => with_reducible assumption); (case zq8 => with_reducible assumption)) | (refine' itemOut ?lq8 ?kq8 ?xq8 ?zq8 ?hhq8 ?_; (case lq8 => (first | exact Fr.lst (by with_reducible assumption) (by with_reducible assumption) | with_reducible assumption)); (case kq8 => (first | exact natSucc _ | exact rfl)); (case xq8 => with_reducible assumption); (case zq8 => with_reducible assumption); (case hhq8 => exact rfl); intro h'q9 tk'q9 e'q9 hx'q9) | (refine' itemOutM ?lq8 ?kq8 ?xq8 ?zq8 ?hhq8 ?Nq8 ?mq8 ?dq8 ?cq8 ?_; (case lq8 => (first | exact Fr.lst (by with_reducible assumption) (by with_reducible assumption) | with_reducible assumption)); (case kq8 => (first | exact natSucc _ | exact rfl)); (case xq8 => with_reducible assumption); (case zq8 => with_reducible assumption); (case hhq8 => exact rfl); (case Nq8 => with_reducible assumption); (case dq8 => with_reducible assumption); (case mq8 => k_mem); (case cq8 => with_reducible assumption); intro h'q9 tk'q9 e'q9 hx'q9)))) | ((with_reducible show wpAny _ _ (call _ [Value.bytes _ _]) _ _ _); refine call_type_of (Tx := "bytes") rfl (by decide +kernel) ?_) | (with_reducible ((with_reducible show wpAny _ _ (storeName _ _ _) _ _ _); k_dflt (refine' storeM ?Fq7 ?Nq7 ?_ ?aq7 ?bq7; (case Fq7 => k_asm); (case Nq7 => k_asm); (case aq7 => rfl); (case bq7 => rfl); k_whole; intro m'q7 h'q7 F'q7 N'q7; (try k_sweep)))) | (with_reducible ((with_reducible show wpAny _ _ (eval (PySem.Expr.Name _ _) _) _ _ _); k_dflt (refine' nameX_L ?Fq7 ?vq7 ?_ ?aq7 ?bq7; (case Fq7 => k_asm); (case aq7 => rfl); (case bq7 => rfl); (case vq7 => exact Eq.refl (some _)); k_whole))) | ((with_reducible show InvEnd _ _ _ _ _ _); ((with_reducible rename Fr _ _ _ _ => kFq7); first | ((dsimp +zetaDelta only at kFq7); (try dsimp +zetaDelta only)) | dsimp +zetaDelta only)) | ((with_reducible show InvEndG _ _ _ _ _ _); ((with_reducible rename Fr _ _ _ _ => kFq7); first | ((dsimp +zetaDelta only at kFq7); (try dsimp +zetaDelta only)) | dsimp +zetaDelta only)) | walk1 | (dsimp only; walk1) | (leave1; (try dsimp only)) | fail "no step") <;> (repeat ((fail_if_success (fail_if_success ((generalize qx = zq); (with_reducible show zq _ _)))); k_unfold; (try clear qx); (try (first | refine wpI (P := wpAny _ _ _ _ _ ⟨_, s.gens, s.drawn, _, s.os⟩) ?_ | refine wpI (P := wpAny _ _ _ _ _ _) ?_)); (try dsimp only)))))
      rename Fr _ _ _ _ => F
      rename News _ _ _ _ => N
      have gu2 : ux < dS := lS _ (.tail _ (.head _))
      refine extSlice (us := uv) (v := v2) (n := nj) F N (.head _) (UpdF.tail (Nat.ne_of_gt gu2) (UpdF.tail (Nat.ne_of_gt gu) (UpdF.head ?b2))) (by omega) ?_
      case b2 =>
        intro q hq
        rcases List.mem_cons.mp hq with rfl | hq
        · exact Ne.symm d1
        · rw [List.mem_singleton.mp hq]; exact Ne.symm d2
      intro h11 c11 F11 N11
      (repeat' ((try ((with_reducible show wpAny _ _ (execs _ _) _ _ _); k_gentoks)); (try ((with_reducible show wpAny _ _ (exec _ _) _ _ _); (with_reducible refine foldQ ?_); intro qx)); (first | (k_unfold; (try (first | refine wpI (P := wpAny _ _ _ _ _ ⟨_, s.gens, s.drawn, _, s.os⟩) ?_ | refine wpI (P := wpAny _ _ _ _ _ _) ?_)); (try dsimp only)) | (k_end; wrow_close) | (with_reducible ((with_reducible show wpAny _ _ (exec (Stmt.Try _ [] _ (_ :: _) _) _) _ _ _); refine wpAny_Try_finally ?_)) | (with_reducible ((with_reducible show wpAny _ _ (exec (PySem.Stmt.While (PySem.Expr.Compare _ _ _ _) (_ :: _) [] _) _) _ _ _); (first | (refine While_once ?_ PassesOwn.looking) | (refine While_once ?_)))) | (with_reducible ((with_reducible show wpAny _ _ (compareOp PySem.CmpOp.Eq (Value.ref _) (Value.ref _)) _ _ _); (k_dflt (refine' eqRef (kTrans (by with_reducible assumption) (Fr.keep (by with_reducible assumption))) ?aq8 ?bq8 ?cq8 ?uq8 ?_; (case aq8 => with_reducible assumption); (case bq8 => with_reducible assumption); (case cq8 => with_reducible assumption); (case uq8 => ((first | exact room 1 hdp | exact room 2 hdp | exact room 3 hdp | exact room 4 hdp | exact room 8 hun | exact room 16 hun | exact room 24 hun | exact room 32 hun | exact room 64 hun | exact room 65 hun | exact room 2 hun | exact Nat.lt_of_le_of_lt (Nat.le_add_right _ _) hun | ((try dsimp +zetaDelta only [Ar, Around.deeper, Around.mark]); omega)))))))) | (with_reducible ((with_reducible show wpAny _ _ (compareOp PySem.CmpOp.Gt (Value.ref _) (Value.ref _)) _ _ _); (k_dflt (refine' gtRef (kTrans (by with_reducible assumption) (Fr.keep (by with_reducible assumption))) ?aq8 ?bq8 ?cq8 ?uq8 ?_; (case aq8 => with_reducible assumption); (case bq8 => with_reducible assumption); (case cq8 => with_reducible assumption); (case uq8 => ((first | exact room 1 hdp | exact room 2 hdp | exact room 3 hdp | exact room 4 hdp | exact room 8 hun | exact room 16 hun | exact room 24 hun | exact room 32 hun | exact room 64 hun | exact room 65 hun | exact room 2 hun | exact Nat.lt_of_le_of_lt (Nat.le_add_right _ _) hun | ((try dsimp +zetaDelta only [Ar, Around.deeper, Around.mark]); omega)))))))) | (with_reducible ((with_reducible show wpAny _ _ (compareOp PySem.CmpOp.Lt (Value.ref _) (Value.ref _)) _ _ _); (k_dflt (refine' ltRef (kTrans (by with_reducible assumption) (Fr.keep (by with_reducible assumption))) ?aq8 ?bq8 ?cq8 ?uq8 ?_; (case aq8 => with_reducible assumption); (case bq8 => with_reducible assumption); (case cq8 => with_reducible assumption); (case uq8 => ((first | exact room 1 hdp | exact room 2 hdp | exact room 3 hdp | exact room 4 hdp | exact room 8 hun | exact room 16 hun | exact room 24 hun | exact room 32 hun | exact room 64 hun | exact room 65 hun | exact room 2 hun | exact Nat.lt_of_le_of_lt (Nat.le_add_right _ _) hun | ((try dsimp +zetaDelta only [Ar, Around.deeper, Around.mark]); omega)))))))) | (with_reducible ((with_reducible show wpAny _ _ (subscriptTail (PySem.Expr.Name _ _) (PySem.Expr.Slice _ _ _ _) (Value.ref _) (Value.ref _)) _ _ _); (k_dflt (refine' sliceFrom ?Fq8 ?Nq8 ?lq8 ?kq8 ?zq8 ?_; (case Fq8 => with_reducible assumption); (case Nq8 => with_reducible assumption); (case lq8 => (first | exact Fr.lst (by with_reducible assumption) (by with_reducible assumption) | with_reducible assumption)); (case kq8 => (first | exact natSucc _ | exact rfl)); (case zq8 => with_reducible assumption)); intro dS h' F' N' lS))) | (with_reducible ((with_reducible show wpAny _ _ (subscriptTail _ _ (Value.ref _) (Value.int _ _)) _ _ _); k_dflt (first | (refine' itemIn ?lq8 ?kq8 ?xq8 ?zq8 ?_; (case lq8 => (first | exact Fr.lst (by with_reducible assumption) (by with_reducible assumption) | with_reducible assumption)); (case kq8 => (first | exact natSucc _ | exact rfl)); (case xq8 => with_reducible assumption); (case zq8 => with_reducible assumption)) | (refine' itemOut ?lq8 ?kq8 ?xq8 ?zq8 ?hhq8 ?_; (case lq8 => (first | exact Fr.lst (by with_reducible assumption) (by with_reducible assumption) | with_reducible assumption)); (case kq8 => (first | exact natSucc _ | exact rfl)); (case xq8 => with_reducible assumption); (case zq8 => with_reducible assumption); (case hhq8 => exact rfl); intro h'q9 tk'q9 e'q9 hx'q9) | (refine' itemOutM ?lq8 ?kq8 ?xq8 ?zq8 ?hhq8 ?Nq8 ?mq8 ?dq8 ?cq8 ?_; (case lq8 => (first | exact Fr.lst (by with_reducible assumption) (by with_reducible assumption) | with_reducible assumption)); (case kq8 => (first | exact natSucc _ | exact rfl)); (case xq8 => with_reducible assumption); (case zq8 => with_reducible assumption); (case hhq8 => exact rfl); (case Nq8 => with_reducible assumption); (case dq8 => with_reducible assumption); (case mq8 => k_mem); (case cq8 => with_reducible assumption); intro h'q9 tk'q9 e'q9 hx'q9)))) | ((with_reducible show wpAny _ _ (call _ [Value.bytes _ _]) _ _ _); refine call_type_of (Tx := "bytes") rfl (by decide +kernel) ?_) | (with_reducible ((with_reducible show wpAny _ _ (storeName _ _ _) _ _ _); k_dflt (refine' storeM ?Fq7 ?Nq7 ?_ ?aq7 ?bq7; (case Fq7 => k_asm); (case Nq7 => k_asm); (case aq7 => rfl); (case bq7 => rfl); k_whole; intro m'q7 h'q7 F'q7 N'q7; (try k_sweep)))) | (with_reducible ((with_reducible show wpAny _ _ (eval (PySem.Expr.Name _ _) _) _ _ _); k_dflt (refine' nameX_L ?Fq7 ?vq7 ?_ ?aq7 ?bq7; (case Fq7 => k_asm); (case aq7 => rfl); (case bq7 => rfl); (case vq7 => exact Eq.refl (some _)); k_whole))) | ((with_reducible show InvEnd _ _ _ _ _ _); ((with_reducible rename Fr _ _ _ _ => kFq7); first | ((dsimp +zetaDelta only at kFq7); (try dsimp +zetaDelta only)) | dsimp +zetaDelta only)) | ((with_reducible show InvEndG _ _ _ _ _ _); ((with_reducible rename Fr _ _ _ _ => kFq7); first | ((dsimp +zetaDelta only at kFq7); (try dsimp +zetaDelta only)) | dsimp +zetaDelta only)) | walk1 | (dsimp only; walk1) | (leave1; (try dsimp only)) | fail "no step") <;> (repeat ((fail_if_success (fail_if_success ((generalize qx = zq); (with_reducible show zq _ _)))); k_unfold; (try clear qx); (try (first | refine wpI (P := wpAny _ _ _ _ _ ⟨_, s.gens, s.drawn, _, s.os⟩) ?_ | refine wpI (P := wpAny _ _ _ _ _ _) ?_)); (try dsimp only)))))
      dsimp only [WhileStep2]
      (repeat' ((try ((with_reducible show wpAny _ _ (execs _ _) _ _ _); k_gentoks)); (try ((with_reducible show wpAny _ _ (exec _ _) _ _ _); (with_reducible refine foldQ ?_); intro qx)); (first | (k_unfold; (try (first | refine wpI (P := wpAny _ _ _ _ _ ⟨_, s.gens, s.drawn, _, s.os⟩) ?_ | refine wpI (P := wpAny _ _ _ _ _ _) ?_)); (try dsimp only)) | (k_end; wrow_close) | (with_reducible ((with_reducible show wpAny _ _ (exec (Stmt.Try _ [] _ (_ :: _) _) _) _ _ _); refine wpAny_Try_finally ?_)) | (with_reducible ((with_reducible show wpAny _ _ (exec (PySem.Stmt.While (PySem.Expr.Compare _ _ _ _) (_ :: _) [] _) _) _ _ _); (first | (refine While_once ?_ PassesOwn.looking) | (refine While_once ?_)))) | (with_reducible ((with_reducible show wpAny _ _ (compareOp PySem.CmpOp.Eq (Value.ref _) (Value.ref _)) _ _ _); (k_dflt (refine' eqRef (kTrans (by with_reducible assumption) (Fr.keep (by with_reducible assumption))) ?aq8 ?bq8 ?cq8 ?uq8 ?_; (case aq8 => with_reducible assumption); (case bq8 => with_reducible assumption); (case cq8 => with_reducible assumption); (case uq8 => ((first | exact room 1 hdp | exact room 2 hdp | exact room 3 hdp | exact room 4 hdp | exact room 8 hun | exact room 16 hun | exact room 24 hun | exact room 32 hun | exact room 64 hun | exact room 65 hun | exact room 2 hun | exact Nat.lt_of_le_of_lt (Nat.le_add_right _ _) hun | ((try dsimp +zetaDelta only [Ar, Around.deeper, Around.mark]); omega)))))))) | (with_reducible ((with_reducible show wpAny _ _ (compareOp PySem.CmpOp.Gt (Value.ref _) (Value.ref _)) _ _ _); (k_dflt (refine' gtRef (kTrans (by with_reducible assumption) (Fr.keep (by with_reducible assumption))) ?aq8 ?bq8 ?cq8 ?uq8 ?_; (case aq8 => with_reducible assumption); (case bq8 => with_reducible assumption); (case cq8 => with_reducible assumption); (case uq8 => ((first | exact room 1 hdp | exact room 2 hdp | exact room 3 hdp | exact room 4 hdp | exact room 8 hun | exact room 16 hun | exact room 24 hun | exact room 32 hun | exact room 64 hun | exact room 65 hun | exact room 2 hun | exact Nat.lt_of_le_of_lt (Nat.le_add_right _ _) hun | ((try dsimp +zetaDelta only [Ar, Around.deeper, Around.mark]); omega)))))))) | (with_reducible ((with_reducible show wpAny _ _ (compareOp PySem.CmpOp.Lt (Value.ref _) (Value.ref _)) _ _ _); (k_dflt (refine' ltRef (kTrans (by with_reducible assumption) (Fr.keep (by with_reducible assumption))) ?aq8 ?bq8 ?cq8 ?uq8 ?_; (case aq8 => with_reducible assumption); (case bq8 => with_reducible assumption); (case cq8 => with_reducible assumption); (case uq8 => ((first | exact room 1 hdp | exact room 2 hdp | exact room 3 hdp | exact room 4 hdp | exact room 8 hun | exact room 16 hun | exact room 24 hun | exact room 32 hun | exact room 64 hun | exact room 65 hun | exact room 2 hun | exact Nat.lt_of_le_of_lt (Nat.le_add_right _ _) hun | ((try dsimp +zetaDelta only [Ar, Around.deeper, Around.mark]); omega)))))))) | (with_reducible ((with_reducible show wpAny _ _ (subscriptTail (PySem.Expr.Name _ _) (PySem.Expr.Slice _ _ _ _) (Value.ref _) (Value.ref _)) _ _ _); (k_dflt (refine' sliceFrom ?Fq8 ?Nq8 ?lq8 ?kq8 ?zq8 ?_; (case Fq8 => with_reducible assumption); (case Nq8 => with_reducible assumption); (case lq8 => (first | exact Fr.lst (by with_reducible assumption) (by with_reducible assumption) | with_reducible assumption)); (case kq8 => (first | exact natSucc _ | exact rfl)); (case zq8 => with_reducible assumption)); intro dS h' F' N' lS))) | (with_reducible ((with_reducible show wpAny _ _ (subscriptTail _ _ (Value.ref _) (Value.int _ _)) _ _ _); k_dflt (first | (refine' itemIn ?lq8 ?kq8 ?xq8 ?zq8 ?_; (case lq8 => (first | exact Fr.lst (by with_reducible assumption) (by with_reducible assumption) | with_reducible assumption)); (case kq8 => (first | exact natSucc _ | exact rfl)); (case xq8 => with_reducible assumption); (case zq8 => with_reducible assumption)) | (refine' itemOut ?lq8 ?kq8 ?xq8 ?zq8 ?hhq8 ?_; (case lq8 => (first | exact Fr.lst (by with_reducible assumption) (by with_reducible assumption) | with_reducible assumption)); (case kq8 => (first | exact natSucc _ | exact rfl)); (case xq8 => with_reducible assumption); (case zq8 => with_reducible assumption); (case hhq8 => exact rfl); intro h'q9 tk'q9 e'q9 hx'q9) | (refine' itemOutM ?lq8 ?kq8 ?xq8 ?zq8 ?hhq8 ?Nq8 ?mq8 ?dq8 ?cq8 ?_; (case lq8 => (first | exact Fr.lst (by with_reducible assumption) (by with_reducible assumption) | with_reducible assumption)); (case kq8 => (first | exact natSucc _ | exact rfl)); (case xq8 => with_reducible assumption); (case zq8 => with_reducible assumption); (case hhq8 => exact rfl); (case Nq8 => with_reducible assumption); (case dq8 => with_reducible assumption); (case mq8 => k_mem); (case cq8 => with_reducible assumption); intro h'q9 tk'q9 e'q9 hx'q9)))) | ((with_reducible show wpAny _ _ (call _ [Value.bytes _ _]) _ _ _); refine call_type_of (Tx := "bytes") rfl (by decide +kernel) ?_) | (with_reducible ((with_reducible show wpAny _ _ (storeName _ _ _) _ _ _); k_dflt (refine' storeM ?Fq7 ?Nq7 ?_ ?aq7 ?bq7; (case Fq7 => k_asm); (case Nq7 => k_asm); (case aq7 => rfl); (case bq7 => rfl); k_whole; intro m'q7 h'q7 F'q7 N'q7; (try k_sweep)))) | (with_reducible ((with_reducible show wpAny _ _ (eval (PySem.Expr.Name _ _) _) _ _ _); k_dflt (refine' nameX_L ?Fq7 ?vq7 ?_ ?aq7 ?bq7; (case Fq7 => k_asm); (case aq7 => rfl); (case bq7 => rfl); (case vq7 => exact Eq.refl (some _)); k_whole))) | ((with_reducible show InvEnd _ _ _ _ _ _); ((with_reducible rename Fr _ _ _ _ => kFq7); first | ((dsimp +zetaDelta only at kFq7); (try dsimp +zetaDelta only)) | dsimp +zetaDelta only)) | ((with_reducible show InvEndG _ _ _ _ _ _); ((with_reducible rename Fr _ _ _ _ => kFq7); first | ((dsimp +zetaDelta only at kFq7); (try dsimp +zetaDelta only)) | dsimp +zetaDelta only)) | walk1 | (dsimp only; walk1) | (leave1; (try dsimp only)) | fail "no step") <;> (repeat ((fail_if_success (fail_if_success ((generalize qx = zq); (with_reducible show zq _ _)))); k_unfold; (try clear qx); (try (first | refine wpI (P := wpAny _ _ _ _ _ ⟨_, s.gens, s.drawn, _, s.os⟩) ?_ | refine wpI (P := wpAny _ _ _ _ _ _) ?_)); (try dsimp only)))))
      rename Fr _ _ _ _ => F
      rename News _ _ _ _ => N
      rename _ ∧ _ => q9
      refine ret _ mi ux (mv ++ v1.drop (ni)) (uv ++ v2.drop (nj)) _ _ 0 c10 c11 _ _ sl9 F.keep (N (L, _) (.tail _ (.tail _ (.tail _ (.tail _ (.tail _ (.head _))))))).1 ?memq (WdH.append (hM) (hW1.drop (ni))) (WdH.append (hU) (hW2.drop (nj))) hS
      case memq =>
        intro q hq
        simp only [List.mem_cons, List.not_mem_nil, or_false] at hq
        rcases hq with rfl | rfl | rfl
        · exact ⟨(N _ (.head _)).1, (N _ (.head _)).2.2, Nat.ne_of_gt (by first | exact q9.2.2.2.2 | exact ktn_ltOf q9.2.2.2.2 _ (.head _))⟩
        · exact ⟨(N _ (.tail _ (.tail _ (.tail _ (.tail _ (.head _)))))).1, (N _ (.tail _ (.tail _ (.tail _ (.tail _ (.head _)))))).2.2, d3⟩
        · exact ⟨(N _ (.tail _ (.tail _ (.tail _ (.head _))))).1, (N _ (.tail _ (.tail _ (.tail _ (.head _))))).2.2, d2⟩
    intro tail
    (try k_fold)
    by_cases hA : ni = v1.length
    · (repeat' ((try ((with_reducible show wpAny _ _ (execs _ _) _ _ _); k_gentoks)); (try ((with_reducible show wpAny _ _ (exec _ _) _ _ _); (with_reducible refine foldQ ?_); intro qx)); (first | (k_unfold; (try (first | refine wpI (P := wpAny _ _ _ _ _ ⟨_, s.gens, s.drawn, _, s.os⟩) ?_ | refine wpI (P := wpAny _ _ _ _ _ _) ?_)); (try dsimp only)) | (k_end; wrow_close) | (with_reducible ((with_reducible show wpAny _ _ (exec (Stmt.Try _ [] _ (_ :: _) _) _) _ _ _); refine wpAny_Try_finally ?_)) | (with_reducible ((with_reducible show wpAny _ _ (exec (PySem.Stmt.While (PySem.Expr.Compare _ _ _ _) (_ :: _) [] _) _) _ _ _); (first | (refine While_once ?_ PassesOwn.looking) | (refine While_once ?_)))) | (with_reducible ((with_reducible show wpAny _ _ (compareOp PySem.CmpOp.Eq (Value.ref _) (Value.ref _)) _ _ _); (k_dflt (refine' eqRef (kTrans (by with_reducible assumption) (Fr.keep (by with_reducible assumption))) ?aq8 ?bq8 ?cq8 ?uq8 ?_; (case aq8 => with_reducible assumption); (case bq8 => with_reducible assumption); (case cq8 => with_reducible assumption); (case uq8 => ((first | exact room 1 hdp | exact room 2 hdp | exact room 3 hdp | exact room 4 hdp | exact room 8 hun | exact room 16 hun | exact room 24 hun | exact room 32 hun | exact room 64 hun | exact room 65 hun | exact room 2 hun | exact Nat.lt_of_le_of_lt (Nat.le_add_right _ _) hun | ((try dsimp +zetaDelta only [Ar, Around.deeper, Around.mark]); omega)))))))) | (with_reducible ((with_reducible show wpAny _ _ (compareOp PySem.CmpOp.Gt (Value.ref _) (Value.ref _)) _ _ _); (k_dflt (refine' gtRef (kTrans (by with_reducible assumption) (Fr.keep (by with_reducible assumption))) ?aq8 ?bq8 ?cq8 ?uq8 ?_; (case aq8 => with_reducible assumption); (case bq8 => with_reducible assumption); (case cq8 => with_reducible assumption); (case uq8 => ((first | exact room 1 hdp | exact room 2 hdp | exact room 3 hdp | exact room 4 hdp | exact room 8 hun | exact room 16 hun | exact room 24 hun | exact room 32 hun | exact room 64 hun | exact room 65 hun | exact room 2 hun | exact Nat.lt_of_le_of_lt (Nat.le_add_right _ _) hun | ((try dsimp +zetaDelta only [Ar, Around.deeper, Around.mark]); omega)))))))) | (with_reducible ((with_reducible show wpAny _ _ (compareOp PySem.CmpOp.Lt (Value.ref _) (Value.ref _)) _ _ _); (k_dflt (refine' ltRef (kTrans (by with_reducible assumption) (Fr.keep (by with_reducible assumption))) ?aq8 ?bq8 ?cq8 ?uq8 ?_; (case aq8 => with_reducible assumption); (case bq8 => with_reducible assumption); (case cq8 => with_reducible assumption); (case uq8 => ((first | exact room 1 hdp | exact room 2 hdp | exact room 3 hdp | exact room 4 hdp | exact room 8 hun | exact room 16 hun | exact room 24 hun | exact room 32 hun | exact room 64 hun | exact room 65 hun | exact room 2 hun | exact Nat.lt_of_le_of_lt (Nat.le_add_right _ _) hun | ((try dsimp +zetaDelta only [Ar, Around.deeper, Around.mark]); omega)))))))) | (with_reducible ((with_reducible show wpAny _ _ (subscriptTail (PySem.Expr.Name _ _) (PySem.Expr.Slice _ _ _ _) (Value.ref _) (Value.ref _)) _ _ _); (k_dflt (refine' sliceFrom ?Fq8 ?Nq8 ?lq8 ?kq8 ?zq8 ?_; (case Fq8 => with_reducible assumption); (case Nq8 => with_reducible assumption); (case lq8 => (first | exact Fr.lst (by with_reducible assumption) (by with_reducible assumption) | with_reducible assumption)); (case kq8 => (first | exact natSucc _ | exact rfl)); (case zq8 => with_reducible assumption)); intro dS h' F' N' lS))) | (with_reducible ((with_reducible show wpAny _ _ (subscriptTail _ _ (Value.ref _) (Value.int _ _)) _ _ _); k_dflt (first | (refine' itemIn ?lq8 ?kq8 ?xq8 ?zq8 ?_; (case lq8 => (first | exact Fr.lst (by with_reducible assumption) (by with_reducible assumption) | with_reducible assumption)); (case kq8 => (first | exact natSucc _ | exact rfl)); (case xq8 => with_reducible assumption); (case zq8 => with_reducible assumption)) | (refine' itemOut ?lq8 ?kq8 ?xq8 ?zq8 ?hhq8 ?_; (case lq8 => (first | exact Fr.lst (by with_reducible assumption) (by with_reducible assumption) | with_reducible assumption)); (case kq8 => (first | exact natSucc _ | exact rfl)); (case xq8 => with_reducible assumption); (case zq8 => with_reducible assumption); (case hhq8 => exact rfl); intro h'q9 tk'q9 e'q9 hx'q9) | (refine' itemOutM ?lq8 ?kq8 ?xq8 ?zq8 ?hhq8 ?Nq8 ?mq8 ?dq8 ?cq8 ?_; (case lq8 => (first | exact Fr.lst (by with_reducible assumption) (by with_reducible assumption) | with_reducible assumption)); (case kq8 => (first | exact natSucc _ | exact rfl)); (case xq8 => with_reducible assumption); (case zq8 => with_reducible assumption); (case hhq8 => exact rfl); (case Nq8 => with_reducible assumption); (case dq8 => with_reducible assumption); (case mq8 => k_mem); (case cq8 => with_reducible assumption); intro h'q9 tk'q9 e'q9 hx'q9)))) | ((with_reducible show wpAny _ _ (call _ [Value.bytes _ _]) _ _ _); refine call_type_of (Tx := "bytes") rfl (by decide +kernel) ?_) | (with_reducible ((with_reducible show wpAny _ _ (storeName _ _ _) _ _ _); k_dflt (refine' storeM ?Fq7 ?Nq7 ?_ ?aq7 ?bq7; (case Fq7 => k_asm); (case Nq7 => k_asm); (case aq7 => rfl); (case bq7 => rfl); k_whole; intro m'q7 h'q7 F'q7 N'q7; (try k_sweep)))) | (with_reducible ((with_reducible show wpAny _ _ (eval (PySem.Expr.Name _ _) _) _ _ _); k_dflt (refine' nameX_L ?Fq7 ?vq7 ?_ ?aq7 ?bq7; (case Fq7 => k_asm); (case aq7 => rfl); (case bq7 => rfl); (case vq7 => exact Eq.refl (some _)); k_whole))) | ((with_reducible show InvEnd _ _ _ _ _ _); ((with_reducible rename Fr _ _ _ _ => kFq7); first | ((dsimp +zetaDelta only at kFq7); (try dsimp +zetaDelta only)) | dsimp +zetaDelta only)) | ((with_reducible show InvEndG _ _ _ _ _ _); ((with_reducible rename Fr _ _ _ _ => kFq7); first | ((dsimp +zetaDelta only at kFq7); (try dsimp +zetaDelta only)) | dsimp +zetaDelta only)) | walk1 | (dsimp only; walk1) | (leave1; (try dsimp only)) | fail "no step") <;> (repeat ((fail_if_success (fail_if_success ((generalize qx = zq); (with_reducible show zq _ _)))); k_unfold; (try clear qx); (try (first | refine wpI (P := wpAny _ _ _ _ _ ⟨_, s.gens, s.drawn, _, s.os⟩) ?_ | refine wpI (P := wpAny _ _ _ _ _ _) ?_)); (try dsimp only)))))
      rename Fr _ _ _ _ => F
      rename News _ _ _ _ => N
      rename Heap.NewExc _ _ _ _ => hx8
      refine' caughtT (new := [(ux, listOf (List.toArray (uv)) (ku)), (mi, listOf (List.toArray (mv)) (km))]) (sl := sl) tx rfl hx8 F N rfl KT ?_
      intro h9 sl9 F9 N9
      exact tail _ (ni) (nj) _ _ mi ux (mv) (uv) _ _ sl9 _ _ _ h9 _ F9 N9 rfl rfl rfl rfl rfl rfl d1 d2 d3 (by first | omega | (simp only [List.length_append, List.length_cons, List.length_nil]; omega)) (by first | omega | (simp only [List.length_append, List.length_cons, List.length_nil]; omega)) (hM) (hU) (hst _ _ (sld_end (.inl (by rw [hA, hW1.length]))))
    · obtain ⟨va, hx1⟩ : ∃ v, v1[ni]? = some v := ⟨_, List.getElem?_eq_getElem (by omega)⟩
      obtain ⟨x, ex, wx⟩ := hW1.get hx1
      obtain ⟨xa, _, rfl, _⟩ := id wx
      by_cases hB : nj = v2.length
      · (repeat' ((try ((with_reducible show wpAny _ _ (execs _ _) _ _ _); k_gentoks)); (try ((with_reducible show wpAny _ _ (exec _ _) _ _ _); (with_reducible refine foldQ ?_); intro qx)); (first | (k_unfold; (try (first | refine wpI (P := wpAny _ _ _ _ _ ⟨_, s.gens, s.drawn, _, s.os⟩) ?_ | refine wpI (P := wpAny _ _ _ _ _ _) ?_)); (try dsimp only)) | (k_end; wrow_close) | (with_reducible ((with_reducible show wpAny _ _ (exec (Stmt.Try _ [] _ (_ :: _) _) _) _ _ _); refine wpAny_Try_finally ?_)) | (with_reducible ((with_reducible show wpAny _ _ (exec (PySem.Stmt.While (PySem.Expr.Compare _ _ _ _) (_ :: _) [] _) _) _ _ _); (first | (refine While_once ?_ PassesOwn.looking) | (refine While_once ?_)))) | (with_reducible ((with_reducible show wpAny _ _ (compareOp PySem.CmpOp.Eq (Value.ref _) (Value.ref _)) _ _ _); (k_dflt (refine' eqRef (kTrans (by with_reducible assumption) (Fr.keep (by with_reducible assumption))) ?aq8 ?bq8 ?cq8 ?uq8 ?_; (case aq8 => with_reducible assumption); (case bq8 => with_reducible assumption); (case cq8 => with_reducible assumption); (case uq8 => ((first | exact room 1 hdp | exact room 2 hdp | exact room 3 hdp | exact room 4 hdp | exact room 8 hun | exact room 16 hun | exact room 24 hun | exact room 32 hun | exact room 64 hun | exact room 65 hun | exact room 2 hun | exact Nat.lt_of_le_of_lt (Nat.le_add_right _ _) hun | ((try dsimp +zetaDelta only [Ar, Around.deeper, Around.mark]); omega)))))))) | (with_reducible ((with_reducible show wpAny _ _ (compareOp PySem.CmpOp.Gt (Value.ref _) (Value.ref _)) _ _ _); (k_dflt (refine' gtRef (kTrans (by with_reducible assumption) (Fr.keep (by with_reducible assumption))) ?aq8 ?bq8 ?cq8 ?uq8 ?_; (case aq8 => with_reducible assumption); (case bq8 => with_reducible assumption); (case cq8 => with_reducible assumption); (case uq8 => ((first | exact room 1 hdp | exact room 2 hdp | exact room 3 hdp | exact room 4 hdp | exact room 8 hun | exact room 16 hun | exact room 24 hun | exact room 32 hun | exact room 64 hun | exact room 65 hun | exact room 2 hun | exact Nat.lt_of_le_of_lt (Nat.le_add_right _ _) hun | ((try dsimp +zetaDelta only [Ar, Around.deeper, Around.mark]); omega)))))))) | (with_reducible ((with_reducible show wpAny _ _ (compareOp PySem.CmpOp.Lt (Value.ref _) (Value.ref _)) _ _ _); (k_dflt (refine' ltRef (kTrans (by with_reducible assumption) (Fr.keep (by with_reducible assumption))) ?aq8 ?bq8 ?cq8 ?uq8 ?_; (case aq8 => with_reducible assumption); (case bq8 => with_reducible assumption); (case cq8 => with_reducible assumption); (case uq8 => ((first | exact room 1 hdp | exact room 2 hdp | exact room 3 hdp | exact room 4 hdp | exact room 8 hun | exact room 16 hun | exact room 24 hun | exact room 32 hun | exact room 64 hun | exact room 65 hun | exact room 2 hun | exact Nat.lt_of_le_of_lt (Nat.le_add_right _ _) hun | ((try dsimp +zetaDelta only [Ar, Around.deeper, Around.mark]); omega)))))))) | (with_reducible ((with_reducible show wpAny _ _ (subscriptTail (PySem.Expr.Name _ _) (PySem.Expr.Slice _ _ _ _) (Value.ref _) (Value.ref _)) _ _ _); (k_dflt (refine' sliceFrom ?Fq8 ?Nq8 ?lq8 ?kq8 ?zq8 ?_; (case Fq8 => with_reducible assumption); (case Nq8 => with_reducible assumption); (case lq8 => (first | exact Fr.lst (by with_reducible assumption) (by with_reducible assumption) | with_reducible assumption)); (case kq8 => (first | exact natSucc _ | exact rfl)); (case zq8 => with_reducible assumption)); intro dS h' F' N' lS))) | (with_reducible ((with_reducible show wpAny _ _ (subscriptTail _ _ (Value.ref _) (Value.int _ _)) _ _ _); k_dflt (first | (refine' itemIn ?lq8 ?kq8 ?xq8 ?zq8 ?_; (case lq8 => (first | exact Fr.lst (by with_reducible assumption) (by with_reducible assumption) | with_reducible assumption)); (case kq8 => (first | exact natSucc _ | exact rfl)); (case xq8 => with_reducible assumption); (case zq8 => with_reducible assumption)) | (refine' itemOut ?lq8 ?kq8 ?xq8 ?zq8 ?hhq8 ?_; (case lq8 => (first | exact Fr.lst (by with_reducible assumption) (by with_reducible assumption) | with_reducible assumption)); (case kq8 => (first | exact natSucc _ | exact rfl)); (case xq8 => with_reducible assumption); (case zq8 => with_reducible assumption); (case hhq8 => exact rfl); intro h'q9 tk'q9 e'q9 hx'q9) | (refine' itemOutM ?lq8 ?kq8 ?xq8 ?zq8 ?hhq8 ?Nq8 ?mq8 ?dq8 ?cq8 ?_; (case lq8 => (first | exact Fr.lst (by with_reducible assumption) (by with_reducible assumption) | with_reducible assumption)); (case kq8 => (first | exact natSucc _ | exact rfl)); (case xq8 => with_reducible assumption); (case zq8 => with_reducible assumption); (case hhq8 => exact rfl); (case Nq8 => with_reducible assumption); (case dq8 => with_reducible assumption); (case mq8 => k_mem); (case cq8 => with_reducible assumption); intro h'q9 tk'q9 e'q9 hx'q9)))) | ((with_reducible show wpAny _ _ (call _ [Value.bytes _ _]) _ _ _); refine call_type_of (Tx := "bytes") rfl (by decide +kernel) ?_) | (with_reducible ((with_reducible show wpAny _ _ (storeName _ _ _) _ _ _); k_dflt (refine' storeM ?Fq7 ?Nq7 ?_ ?aq7 ?bq7; (case Fq7 => k_asm); (case Nq7 => k_asm); (case aq7 => rfl); (case bq7 => rfl); k_whole; intro m'q7 h'q7 F'q7 N'q7; (try k_sweep)))) | (with_reducible ((with_reducible show wpAny _ _ (eval (PySem.Expr.Name _ _) _) _ _ _); k_dflt (refine' nameX_L ?Fq7 ?vq7 ?_ ?aq7 ?bq7; (case Fq7 => k_asm); (case aq7 => rfl); (case bq7 => rfl); (case vq7 => exact Eq.refl (some _)); k_whole))) | ((with_reducible show InvEnd _ _ _ _ _ _); ((with_reducible rename Fr _ _ _ _ => kFq7); first | ((dsimp +zetaDelta only at kFq7); (try dsimp +zetaDelta only)) | dsimp +zetaDelta only)) | ((with_reducible show InvEndG _ _ _ _ _ _); ((with_reducible rename Fr _ _ _ _ => kFq7); first | ((dsimp +zetaDelta only at kFq7); (try dsimp +zetaDelta only)) | dsimp +zetaDelta only)) | walk1 | (dsimp only; walk1) | (leave1; (try dsimp only)) | fail "no step") <;> (repeat ((fail_if_success (fail_if_success ((generalize qx = zq); (with_reducible show zq _ _)))); k_unfold; (try clear qx); (try (first | refine wpI (P := wpAny _ _ _ _ _ ⟨_, s.gens, s.drawn, _, s.os⟩) ?_ | refine wpI (P := wpAny _ _ _ _ _ _) ?_)); (try dsimp only)))))
        rename Fr _ _ _ _ => F
        rename News _ _ _ _ => N
        rename Heap.NewExc _ _ _ _ => hx8
        refine' caughtT (new := [(ux, listOf (List.toArray (uv)) (ku)), (mi, listOf (List.toArray (mv)) (km))]) (sl := sl) tx rfl hx8 F N rfl KT ?_
        intro h9 sl9 F9 N9
        exact tail _ (ni) (nj) _ _ mi ux (mv) (uv) _ _ sl9 _ _ _ h9 _ F9 N9 rfl rfl rfl rfl rfl rfl d1 d2 d3 (by first | omega | (simp only [List.length_append, List.length_cons, List.length_nil]; omega)) (by first | omega | (simp only [List.length_append, List.length_cons, List.length_nil]; omega)) (hM) (hU) (hst _ _ (sld_end (.inr (by rw [hB, hW2.length]))))
      · obtain ⟨vb, hx2⟩ : ∃ v, v2[nj]? = some v := ⟨_, List.getElem?_eq_getElem (by omega)⟩
        obtain ⟨y, ey, wy⟩ := hW2.get hx2
        obtain ⟨xb, _, rfl, _⟩ := id wy
        rw [drop_at ex, drop_at ey] at hst
        have hdL : ∀ q ∈ [(L, ({ oL with slots := sl } : Obj))], q.1 ≠ mi := fun q hq => by rw [List.mem_singleton.mp hq]; exact Ne.symm d3
        have hdU : ∀ q ∈ [(mi, listOf (List.toArray mv) km), (L, ({ oL with slots := sl } : Obj))], q.1 ≠ ux := by
          intro q hq
          rcases List.mem_cons.mp hq with rfl | hq
          · exact Ne.symm d1
          · rw [List.mem_singleton.mp hq]; exact Ne.symm d2
        cases hlt : ltW x y with
        | true =>
          have hst1 : ∀ a b, Sld (m1.drop (ni + 1)) (m2.drop nj) a b → Sld m1 m2 ((xm ++ [x]) ++ a) (xu ++ b) := fun a b z => by
            rw [drop_at ey] at z
            have := hst (x :: a) b (.lt hlt z)
            simpa using this
          (repeat' ((try ((with_reducible show wpAny _ _ (execs _ _) _ _ _); k_gentoks)); (try ((with_reducible show wpAny _ _ (exec _ _) _ _ _); (with_reducible refine foldQ ?_); intro qx)); (first | (k_unfold; (try (first | refine wpI (P := wpAny _ _ _ _ _ ⟨_, s.gens, s.drawn, _, s.os⟩) ?_ | refine wpI (P := wpAny _ _ _ _ _ _) ?_)); (try dsimp only)) | (k_end; wrow_close) | (with_reducible ((with_reducible show wpAny _ _ (exec (Stmt.Try _ [] _ (_ :: _) _) _) _ _ _); refine wpAny_Try_finally ?_)) | (with_reducible ((with_reducible show wpAny _ _ (exec (PySem.Stmt.While (PySem.Expr.Compare _ _ _ _) (_ :: _) [] _) _) _ _ _); (first | (refine While_once ?_ PassesOwn.looking) | (refine While_once ?_)))) | (with_reducible ((with_reducible show wpAny _ _ (compareOp PySem.CmpOp.Eq (Value.ref _) (Value.ref _)) _ _ _); (k_dflt (refine' eqRef (kTrans (by with_reducible assumption) (Fr.keep (by with_reducible assumption))) ?aq8 ?bq8 ?cq8 ?uq8 ?_; (case aq8 => with_reducible assumption); (case bq8 => with_reducible assumption); (case cq8 => with_reducible assumption); (case uq8 => ((first | exact room 1 hdp | exact room 2 hdp | exact room 3 hdp | exact room 4 hdp | exact room 8 hun | exact room 16 hun | exact room 24 hun | exact room 32 hun | exact room 64 hun | exact room 65 hun | exact room 2 hun | exact Nat.lt_of_le_of_lt (Nat.le_add_right _ _) hun | ((try dsimp +zetaDelta only [Ar, Around.deeper, Around.mark]); omega)))))))) | (with_reducible ((with_reducible show wpAny _ _ (compareOp PySem.CmpOp.Gt (Value.ref _) (Value.ref _)) _ _ _); (k_dflt (refine' gtRef (kTrans (by with_reducible assumption) (Fr.keep (by with_reducible assumption))) ?aq8 ?bq8 ?cq8 ?uq8 ?_; (case aq8 => with_reducible assumption); (case bq8 => with_reducible assumption); (case cq8 => with_reducible assumption); (case uq8 => ((first | exact room 1 hdp | exact room 2 hdp | exact room 3 hdp | exact room 4 hdp | exact room 8 hun | exact room 16 hun | exact room 24 hun | exact room 32 hun | exact room 64 hun | exact room 65 hun | exact room 2 hun | exact Nat.lt_of_le_of_lt (Nat.le_add_right _ _) hun | ((try dsimp +zetaDelta only [Ar, Around.deeper, Around.mark]); omega)))))))) | (with_reducible ((with_reducible show wpAny _ _ (compareOp PySem.CmpOp.Lt (Value.ref _) (Value.ref _)) _ _ _); (k_dflt (refine' ltRef (kTrans (by with_reducible assumption) (Fr.keep (by with_reducible assumption))) ?aq8 ?bq8 ?cq8 ?uq8 ?_; (case aq8 => with_reducible assumption); (case bq8 => with_reducible assumption); (case cq8 => with_reducible assumption); (case uq8 => ((first | exact room 1 hdp | exact room 2 hdp | exact room 3 hdp | exact room 4 hdp | exact room 8 hun | exact room 16 hun | exact room 24 hun | exact room 32 hun | exact room 64 hun | exact room 65 hun | exact room 2 hun | exact Nat.lt_of_le_of_lt (Nat.le_add_right _ _) hun | ((try dsimp +zetaDelta only [Ar, Around.deeper, Around.mark]); omega)))))))) | (with_reducible ((with_reducible show wpAny _ _ (subscriptTail (PySem.Expr.Name _ _) (PySem.Expr.Slice _ _ _ _) (Value.ref _) (Value.ref _)) _ _ _); (k_dflt (refine' sliceFrom ?Fq8 ?Nq8 ?lq8 ?kq8 ?zq8 ?_; (case Fq8 => with_reducible assumption); (case Nq8 => with_reducible assumption); (case lq8 => (first | exact Fr.lst (by with_reducible assumption) (by with_reducible assumption) | with_reducible assumption)); (case kq8 => (first | exact natSucc _ | exact rfl)); (case zq8 => with_reducible assumption)); intro dS h' F' N' lS))) | (with_reducible ((with_reducible show wpAny _ _ (subscriptTail _ _ (Value.ref _) (Value.int _ _)) _ _ _); k_dflt (first | (refine' itemIn ?lq8 ?kq8 ?xq8 ?zq8 ?_; (case lq8 => (first | exact Fr.lst (by with_reducible assumption) (by with_reducible assumption) | with_reducible assumption)); (case kq8 => (first | exact natSucc _ | exact rfl)); (case xq8 => with_reducible assumption); (case zq8 => with_reducible assumption)) | (refine' itemOut ?lq8 ?kq8 ?xq8 ?zq8 ?hhq8 ?_; (case lq8 => (first | exact Fr.lst (by with_reducible assumption) (by with_reducible assumption) | with_reducible assumption)); (case kq8 => (first | exact natSucc _ | exact rfl)); (case xq8 => with_reducible assumption); (case zq8 => with_reducible assumption); (case hhq8 => exact rfl); intro h'q9 tk'q9 e'q9 hx'q9) | (refine' itemOutM ?lq8 ?kq8 ?xq8 ?zq8 ?hhq8 ?Nq8 ?mq8 ?dq8 ?cq8 ?_; (case lq8 => (first | exact Fr.lst (by with_reducible assumption) (by with_reducible assumption) | with_reducible assumption)); (case kq8 => (first | exact natSucc _ | exact rfl)); (case xq8 => with_reducible assumption); (case zq8 => with_reducible assumption); (case hhq8 => exact rfl); (case Nq8 => with_reducible assumption); (case dq8 => with_reducible assumption); (case mq8 => k_mem); (case cq8 => with_reducible assumption); intro h'q9 tk'q9 e'q9 hx'q9)))) | ((with_reducible show wpAny _ _ (call _ [Value.bytes _ _]) _ _ _); refine call_type_of (Tx := "bytes") rfl (by decide +kernel) ?_) | (with_reducible ((with_reducible show wpAny _ _ (storeName _ _ _) _ _ _); k_dflt (refine' storeM ?Fq7 ?Nq7 ?_ ?aq7 ?bq7; (case Fq7 => k_asm); (case Nq7 => k_asm); (case aq7 => rfl); (case bq7 => rfl); k_whole; intro m'q7 h'q7 F'q7 N'q7; (try k_sweep)))) | (with_reducible ((with_reducible show wpAny _ _ (eval (PySem.Expr.Name _ _) _) _ _ _); k_dflt (refine' nameX_L ?Fq7 ?vq7 ?_ ?aq7 ?bq7; (case Fq7 => k_asm); (case aq7 => rfl); (case bq7 => rfl); (case vq7 => exact Eq.refl (some _)); k_whole))) | ((with_reducible show InvEnd _ _ _ _ _ _); ((with_reducible rename Fr _ _ _ _ => kFq7); first | ((dsimp +zetaDelta only at kFq7); (try dsimp +zetaDelta only)) | dsimp +zetaDelta only)) | ((with_reducible show InvEndG _ _ _ _ _ _); ((with_reducible rename Fr _ _ _ _ => kFq7); first | ((dsimp +zetaDelta only at kFq7); (try dsimp +zetaDelta only)) | dsimp +zetaDelta only)) | walk1 | (dsimp only; walk1) | (leave1; (try dsimp only)) | fail "no step") <;> (repeat ((fail_if_success (fail_if_success ((generalize qx = zq); (with_reducible show zq _ _)))); k_unfold; (try clear qx); (try (first | refine wpI (P := wpAny _ _ _ _ _ ⟨_, s.gens, s.drawn, _, s.os⟩) ?_ | refine wpI (P := wpAny _ _ _ _ _ _) ?_)); (try dsimp only)))))
          rename Fr _ _ _ _ => F
          rename News _ _ _ _ => N
          refine append_K F N (Upd.tail d1 (Upd.head hdL)) ?_ (by rw [List.size_toArray, sizeLine_eq]; omega)
          intro h8 F8 N8
          replace N8 : News (s.heap.hide L) Lf h8 [(ux, listOf (List.toArray uv) ku), (mi, listOf (List.toArray (mv ++ [.ref xa])) (km + 1)), (L, ({ oL with slots := sl } : Obj))] := by simpa using N8
          by_cases hA2 : ni + 1 = v1.length
          · (repeat' ((try ((with_reducible show wpAny _ _ (execs _ _) _ _ _); k_gentoks)); (try ((with_reducible show wpAny _ _ (exec _ _) _ _ _); (with_reducible refine foldQ ?_); intro qx)); (first | (k_unfold; (try (first | refine wpI (P := wpAny _ _ _ _ _ ⟨_, s.gens, s.drawn, _, s.os⟩) ?_ | refine wpI (P := wpAny _ _ _ _ _ _) ?_)); (try dsimp only)) | (k_end; wrow_close) | (with_reducible ((with_reducible show wpAny _ _ (exec (Stmt.Try _ [] _ (_ :: _) _) _) _ _ _); refine wpAny_Try_finally ?_)) | (with_reducible ((with_reducible show wpAny _ _ (exec (PySem.Stmt.While (PySem.Expr.Compare _ _ _ _) (_ :: _) [] _) _) _ _ _); (first | (refine While_once ?_ PassesOwn.looking) | (refine While_once ?_)))) | (with_reducible ((with_reducible show wpAny _ _ (compareOp PySem.CmpOp.Eq (Value.ref _) (Value.ref _)) _ _ _); (k_dflt (refine' eqRef (kTrans (by with_reducible assumption) (Fr.keep (by with_reducible assumption))) ?aq8 ?bq8 ?cq8 ?uq8 ?_; (case aq8 => with_reducible assumption); (case bq8 => with_reducible assumption); (case cq8 => with_reducible assumption); (case uq8 => ((first | exact room 1 hdp | exact room 2 hdp | exact room 3 hdp | exact room 4 hdp | exact room 8 hun | exact room 16 hun | exact room 24 hun | exact room 32 hun | exact room 64 hun | exact room 65 hun | exact room 2 hun | exact Nat.lt_of_le_of_lt (Nat.le_add_right _ _) hun | ((try dsimp +zetaDelta only [Ar, Around.deeper, Around.mark]); omega)))))))) | (with_reducible ((with_reducible show wpAny _ _ (compareOp PySem.CmpOp.Gt (Value.ref _) (Value.ref _)) _ _ _); (k_dflt (refine' gtRef (kTrans (by with_reducible assumption) (Fr.keep (by with_reducible assumption))) ?aq8 ?bq8 ?cq8 ?uq8 ?_; (case aq8 => with_reducible assumption); (case bq8 => with_reducible assumption); (case cq8 => with_reducible assumption); (case uq8 => ((first | exact room 1 hdp | exact room 2 hdp | exact room 3 hdp | exact room 4 hdp | exact room 8 hun | exact room 16 hun | exact room 24 hun | exact room 32 hun | exact room 64 hun | exact room 65 hun | exact room 2 hun | exact Nat.lt_of_le_of_lt (Nat.le_add_right _ _) hun | ((try dsimp +zetaDelta only [Ar, Around.deeper, Around.mark]); omega)))))))) | (with_reducible ((with_reducible show wpAny _ _ (compareOp PySem.CmpOp.Lt (Value.ref _) (Value.ref _)) _ _ _); (k_dflt (refine' ltRef (kTrans (by with_reducible assumption) (Fr.keep (by with_reducible assumption))) ?aq8 ?bq8 ?cq8 ?uq8 ?_; (case aq8 => with_reducible assumption); (case bq8 => with_reducible assumption); (case cq8 => with_reducible assumption); (case uq8 => ((first | exact room 1 hdp | exact room 2 hdp | exact room 3 hdp | exact room 4 hdp | exact room 8 hun | exact room 16 hun | exact room 24 hun | exact room 32 hun | exact room 64 hun | exact room 65 hun | exact room 2 hun | exact Nat.lt_of_le_of_lt (Nat.le_add_right _ _) hun | ((try dsimp +zetaDelta only [Ar, Around.deeper, Around.mark]); omega)))))))) | (with_reducible ((with_reducible show wpAny _ _ (subscriptTail (PySem.Expr.Name _ _) (PySem.Expr.Slice _ _ _ _) (Value.ref _) (Value.ref _)) _ _ _); (k_dflt (refine' sliceFrom ?Fq8 ?Nq8 ?lq8 ?kq8 ?zq8 ?_; (case Fq8 => with_reducible assumption); (case Nq8 => with_reducible assumption); (case lq8 => (first | exact Fr.lst (by with_reducible assumption) (by with_reducible assumption) | with_reducible assumption)); (case kq8 => (first | exact natSucc _ | exact rfl)); (case zq8 => with_reducible assumption)); intro dS h' F' N' lS))) | (with_reducible ((with_reducible show wpAny _ _ (subscriptTail _ _ (Value.ref _) (Value.int _ _)) _ _ _); k_dflt (first | (refine' itemIn ?lq8 ?kq8 ?xq8 ?zq8 ?_; (case lq8 => (first | exact Fr.lst (by with_reducible assumption) (by with_reducible assumption) | with_reducible assumption)); (case kq8 => (first | exact natSucc _ | exact rfl)); (case xq8 => with_reducible assumption); (case zq8 => with_reducible assumption)) | (refine' itemOut ?lq8 ?kq8 ?xq8 ?zq8 ?hhq8 ?_; (case lq8 => (first | exact Fr.lst (by with_reducible assumption) (by with_reducible assumption) | with_reducible assumption)); (case kq8 => (first | exact natSucc _ | exact rfl)); (case xq8 => with_reducible assumption); (case zq8 => with_reducible assumption); (case hhq8 => exact rfl); intro h'q9 tk'q9 e'q9 hx'q9) | (refine' itemOutM ?lq8 ?kq8 ?xq8 ?zq8 ?hhq8 ?Nq8 ?mq8 ?dq8 ?cq8 ?_; (case lq8 => (first | exact Fr.lst (by with_reducible assumption) (by with_reducible assumption) | with_reducible assumption)); (case kq8 => (first | exact natSucc _ | exact rfl)); (case xq8 => with_reducible assumption); (case zq8 => with_reducible assumption); (case hhq8 => exact rfl); (case Nq8 => with_reducible assumption); (case dq8 => with_reducible assumption); (case mq8 => k_mem); (case cq8 => with_reducible assumption); intro h'q9 tk'q9 e'q9 hx'q9)))) | ((with_reducible show wpAny _ _ (call _ [Value.bytes _ _]) _ _ _); refine call_type_of (Tx := "bytes") rfl (by decide +kernel) ?_) | (with_reducible ((with_reducible show wpAny _ _ (storeName _ _ _) _ _ _); k_dflt (refine' storeM ?Fq7 ?Nq7 ?_ ?aq7 ?bq7; (case Fq7 => k_asm); (case Nq7 => k_asm); (case aq7 => rfl); (case bq7 => rfl); k_whole; intro m'q7 h'q7 F'q7 N'q7; (try k_sweep)))) | (with_reducible ((with_reducible show wpAny _ _ (eval (PySem.Expr.Name _ _) _) _ _ _); k_dflt (refine' nameX_L ?Fq7 ?vq7 ?_ ?aq7 ?bq7; (case Fq7 => k_asm); (case aq7 => rfl); (case bq7 => rfl); (case vq7 => exact Eq.refl (some _)); k_whole))) | ((with_reducible show InvEnd _ _ _ _ _ _); ((with_reducible rename Fr _ _ _ _ => kFq7); first | ((dsimp +zetaDelta only at kFq7); (try dsimp +zetaDelta only)) | dsimp +zetaDelta only)) | ((with_reducible show InvEndG _ _ _ _ _ _); ((with_reducible rename Fr _ _ _ _ => kFq7); first | ((dsimp +zetaDelta only at kFq7); (try dsimp +zetaDelta only)) | dsimp +zetaDelta only)) | walk1 | (dsimp only; walk1) | (leave1; (try dsimp only)) | fail "no step") <;> (repeat ((fail_if_success (fail_if_success ((generalize qx = zq); (with_reducible show zq _ _)))); k_unfold; (try clear qx); (try (first | refine wpI (P := wpAny _ _ _ _ _ ⟨_, s.gens, s.drawn, _, s.os⟩) ?_ | refine wpI (P := wpAny _ _ _ _ _ _) ?_)); (try dsimp only)))))
            rename Fr _ _ _ _ => F
            rename News _ _ _ _ => N
            rename Heap.NewExc _ _ _ _ => hx8
            refine' caughtT (new := [(ux, listOf (List.toArray (uv)) (ku)), (mi, listOf (List.toArray (mv ++ [.ref xa])) (km + 1))]) (sl := sl) tx rfl hx8 F N rfl KT ?_
            intro h9 sl9 F9 N9
            exact tail _ (ni + 1) (nj) _ _ mi ux (mv ++ [Value.ref xa]) (uv) _ _ sl9 _ _ _ h9 _ F9 N9 rfl rfl rfl rfl rfl rfl d1 d2 d3 (by first | omega | (simp only [List.length_append, List.length_cons, List.length_nil]; omega)) (by first | omega | (simp only [List.length_append, List.length_cons, List.length_nil]; omega)) ((hM.append (WdH.one wx))) (hU) (hst1 _ _ (sld_end (.inl (by rw [hA2, hW1.length]))))
          · obtain ⟨vc, hx3⟩ : ∃ v, v1[ni + 1]? = some v := ⟨_, List.getElem?_eq_getElem (by omega)⟩
            obtain ⟨z, ez, wz⟩ := hW1.get hx3
            obtain ⟨xc, _, rfl, _⟩ := id wz
            have hne := Ne.symm (hs1 _ _ _ ex ez)
            (repeat' ((try ((with_reducible show wpAny _ _ (execs _ _) _ _ _); k_gentoks)); (try ((with_reducible show wpAny _ _ (exec _ _) _ _ _); (with_reducible refine foldQ ?_); intro qx)); (first | (k_unfold; (try (first | refine wpI (P := wpAny _ _ _ _ _ ⟨_, s.gens, s.drawn, _, s.os⟩) ?_ | refine wpI (P := wpAny _ _ _ _ _ _) ?_)); (try dsimp only)) | (k_end; wrow_close) | (with_reducible ((with_reducible show wpAny _ _ (exec (Stmt.Try _ [] _ (_ :: _) _) _) _ _ _); refine wpAny_Try_finally ?_)) | (with_reducible ((with_reducible show wpAny _ _ (exec (PySem.Stmt.While (PySem.Expr.Compare _ _ _ _) (_ :: _) [] _) _) _ _ _); (first | (refine While_once ?_ PassesOwn.looking) | (refine While_once ?_)))) | (with_reducible ((with_reducible show wpAny _ _ (compareOp PySem.CmpOp.Eq (Value.ref _) (Value.ref _)) _ _ _); (k_dflt (refine' eqRef (kTrans (by with_reducible assumption) (Fr.keep (by with_reducible assumption))) ?aq8 ?bq8 ?cq8 ?uq8 ?_; (case aq8 => with_reducible assumption); (case bq8 => with_reducible assumption); (case cq8 => with_reducible assumption); (case uq8 => ((first | exact room 1 hdp | exact room 2 hdp | exact room 3 hdp | exact room 4 hdp | exact room 8 hun | exact room 16 hun | exact room 24 hun | exact room 32 hun | exact room 64 hun | exact room 65 hun | exact room 2 hun | exact Nat.lt_of_le_of_lt (Nat.le_add_right _ _) hun | ((try dsimp +zetaDelta only [Ar, Around.deeper, Around.mark]); omega)))))))) | (with_reducible ((with_reducible show wpAny _ _ (compareOp PySem.CmpOp.Gt (Value.ref _) (Value.ref _)) _ _ _); (k_dflt (refine' gtRef (kTrans (by with_reducible assumption) (Fr.keep (by with_reducible assumption))) ?aq8 ?bq8 ?cq8 ?uq8 ?_; (case aq8 => with_reducible assumption); (case bq8 => with_reducible assumption); (case cq8 => with_reducible assumption); (case uq8 => ((first | exact room 1 hdp | exact room 2 hdp | exact room 3 hdp | exact room 4 hdp | exact room 8 hun | exact room 16 hun | exact room 24 hun | exact room 32 hun | exact room 64 hun | exact room 65 hun | exact room 2 hun | exact Nat.lt_of_le_of_lt (Nat.le_add_right _ _) hun | ((try dsimp +zetaDelta only [Ar, Around.deeper, Around.mark]); omega)))))))) | (with_reducible ((with_reducible show wpAny _ _ (compareOp PySem.CmpOp.Lt (Value.ref _) (Value.ref _)) _ _ _); (k_dflt (refine' ltRef (kTrans (by with_reducible assumption) (Fr.keep (by with_reducible assumption))) ?aq8 ?bq8 ?cq8 ?uq8 ?_; (case aq8 => with_reducible assumption); (case bq8 => with_reducible assumption); (case cq8 => with_reducible assumption); (case uq8 => ((first | exact room 1 hdp | exact room 2 hdp | exact room 3 hdp | exact room 4 hdp | exact room 8 hun | exact room 16 hun | exact room 24 hun | exact room 32 hun | exact room 64 hun | exact room 65 hun | exact room 2 hun | exact Nat.lt_of_le_of_lt (Nat.le_add_right _ _) hun | ((try dsimp +zetaDelta only [Ar, Around.deeper, Around.mark]); omega)))))))) | (with_reducible ((with_reducible show wpAny _ _ (subscriptTail (PySem.Expr.Name _ _) (PySem.Expr.Slice _ _ _ _) (Value.ref _) (Value.ref _)) _ _ _); (k_dflt (refine' sliceFrom ?Fq8 ?Nq8 ?lq8 ?kq8 ?zq8 ?_; (case Fq8 => with_reducible assumption); (case Nq8 => with_reducible assumption); (case lq8 => (first | exact Fr.lst (by with_reducible assumption) (by with_reducible assumption) | with_reducible assumption)); (case kq8 => (first | exact natSucc _ | exact rfl)); (case zq8 => with_reducible assumption)); intro dS h' F' N' lS))) | (with_reducible ((with_reducible show wpAny _ _ (subscriptTail _ _ (Value.ref _) (Value.int _ _)) _ _ _); k_dflt (first | (refine' itemIn ?lq8 ?kq8 ?xq8 ?zq8 ?_; (case lq8 => (first | exact Fr.lst (by with_reducible assumption) (by with_reducible assumption) | with_reducible assumption)); (case kq8 => (first | exact natSucc _ | exact rfl)); (case xq8 => with_reducible assumption); (case zq8 => with_reducible assumption)) | (refine' itemOut ?lq8 ?kq8 ?xq8 ?zq8 ?hhq8 ?_; (case lq8 => (first | exact Fr.lst (by with_reducible assumption) (by with_reducible assumption) | with_reducible assumption)); (case kq8 => (first | exact natSucc _ | exact rfl)); (case xq8 => with_reducible assumption); (case zq8 => with_reducible assumption); (case hhq8 => exact rfl); intro h'q9 tk'q9 e'q9 hx'q9) | (refine' itemOutM ?lq8 ?kq8 ?xq8 ?zq8 ?hhq8 ?Nq8 ?mq8 ?dq8 ?cq8 ?_; (case lq8 => (first | exact Fr.lst (by with_reducible assumption) (by with_reducible assumption) | with_reducible assumption)); (case kq8 => (first | exact natSucc _ | exact rfl)); (case xq8 => with_reducible assumption); (case zq8 => with_reducible assumption); (case hhq8 => exact rfl); (case Nq8 => with_reducible assumption); (case dq8 => with_reducible assumption); (case mq8 => k_mem); (case cq8 => with_reducible assumption); intro h'q9 tk'q9 e'q9 hx'q9)))) | ((with_reducible show wpAny _ _ (call _ [Value.bytes _ _]) _ _ _); refine call_type_of (Tx := "bytes") rfl (by decide +kernel) ?_) | (with_reducible ((with_reducible show wpAny _ _ (storeName _ _ _) _ _ _); k_dflt (refine' storeM ?Fq7 ?Nq7 ?_ ?aq7 ?bq7; (case Fq7 => k_asm); (case Nq7 => k_asm); (case aq7 => rfl); (case bq7 => rfl); k_whole; intro m'q7 h'q7 F'q7 N'q7; (try k_sweep)))) | (with_reducible ((with_reducible show wpAny _ _ (eval (PySem.Expr.Name _ _) _) _ _ _); k_dflt (refine' nameX_L ?Fq7 ?vq7 ?_ ?aq7 ?bq7; (case Fq7 => k_asm); (case aq7 => rfl); (case bq7 => rfl); (case vq7 => exact Eq.refl (some _)); k_whole))) | ((with_reducible show InvEnd _ _ _ _ _ _); ((with_reducible rename Fr _ _ _ _ => kFq7); first | ((dsimp +zetaDelta only at kFq7); (try dsimp +zetaDelta only)) | dsimp +zetaDelta only)) | ((with_reducible show InvEndG _ _ _ _ _ _); ((with_reducible rename Fr _ _ _ _ => kFq7); first | ((dsimp +zetaDelta only at kFq7); (try dsimp +zetaDelta only)) | dsimp +zetaDelta only)) | walk1 | (dsimp only; walk1) | (leave1; (try dsimp only)) | fail "no step") <;> (repeat ((fail_if_success (fail_if_success ((generalize qx = zq); (with_reducible show zq _ _)))); k_unfold; (try clear qx); (try (first | refine wpI (P := wpAny _ _ _ _ _ ⟨_, s.gens, s.drawn, _, s.os⟩) ?_ | refine wpI (P := wpAny _ _ _ _ _ _) ?_)); (try dsimp only)))))
            rename Fr _ _ _ _ => F
            rename News _ _ _ _ => N
            exact ⟨_, _, _, _, _, rfl, F, N, (by omega : (v1.length - (ni + 1)) + (v2.length - (nj)) < n), ni + 1, nj, _, _, mi, ux, (mv ++ [.ref xa]), uv, (km + 1), ku, sl, _, _, rfl, rfl, rfl, rfl, rfl, rfl, rfl, d1, d2, d3, (hM.append (WdH.one wx)), hU, by omega, by omega, rfl, hst1, by first | omega | (simp only [List.length_append, List.length_cons, List.length_nil]; omega), by first | omega | (simp only [List.length_append, List.length_cons, List.length_nil]; omega)⟩
        | false =>
          cases hgt : ltW y x with
          | true =>
            have hst1 : ∀ a b, Sld (m1.drop ni) (m2.drop (nj + 1)) a b → Sld m1 m2 (xm ++ a) ((xu ++ [y]) ++ b) := fun a b z => by
              rw [drop_at ex] at z
              have := hst a (y :: b) (.gt hlt hgt z)
              simpa using this
            (repeat' ((try ((with_reducible show wpAny _ _ (execs _ _) _ _ _); k_gentoks)); (try ((with_reducible show wpAny _ _ (exec _ _) _ _ _); (with_reducible refine foldQ ?_); intro qx)); (first | (k_unfold; (try (first | refine wpI (P := wpAny _ _ _ _ _ ⟨_, s.gens, s.drawn, _, s.os⟩) ?_ | refine wpI (P := wpAny _ _ _ _ _ _) ?_)); (try dsimp only)) | (k_end; wrow_close) | (with_reducible ((with_reducible show wpAny _ _ (exec (Stmt.Try _ [] _ (_ :: _) _) _) _ _ _); refine wpAny_Try_finally ?_)) | (with_reducible ((with_reducible show wpAny _ _ (exec (PySem.Stmt.While (PySem.Expr.Compare _ _ _ _) (_ :: _) [] _) _) _ _ _); (first | (refine While_once ?_ PassesOwn.looking) | (refine While_once ?_)))) | (with_reducible ((with_reducible show wpAny _ _ (compareOp PySem.CmpOp.Eq (Value.ref _) (Value.ref _)) _ _ _); (k_dflt (refine' eqRef (kTrans (by with_reducible assumption) (Fr.keep (by with_reducible assumption))) ?aq8 ?bq8 ?cq8 ?uq8 ?_; (case aq8 => with_reducible assumption); (case bq8 => with_reducible assumption); (case cq8 => with_reducible assumption); (case uq8 => ((first | exact room 1 hdp | exact room 2 hdp | exact room 3 hdp | exact room 4 hdp | exact room 8 hun | exact room 16 hun | exact room 24 hun | exact room 32 hun | exact room 64 hun | exact room 65 hun | exact room 2 hun | exact Nat.lt_of_le_of_lt (Nat.le_add_right _ _) hun | ((try dsimp +zetaDelta only [Ar, Around.deeper, Around.mark]); omega)))))))) | (with_reducible ((with_reducible show wpAny _ _ (compareOp PySem.CmpOp.Gt (Value.ref _) (Value.ref _)) _ _ _); (k_dflt (refine' gtRef (kTrans (by with_reducible assumption) (Fr.keep (by with_reducible assumption))) ?aq8 ?bq8 ?cq8 ?uq8 ?_; (case aq8 => with_reducible assumption); (case bq8 => with_reducible assumption); (case cq8 => with_reducible assumption); (case uq8 => ((first | exact room 1 hdp | exact room 2 hdp | exact room 3 hdp | exact room 4 hdp | exact room 8 hun | exact room 16 hun | exact room 24 hun | exact room 32 hun | exact room 64 hun | exact room 65 hun | exact room 2 hun | exact Nat.lt_of_le_of_lt (Nat.le_add_right _ _) hun | ((try dsimp +zetaDelta only [Ar, Around.deeper, Around.mark]); omega)))))))) | (with_reducible ((with_reducible show wpAny _ _ (compareOp PySem.CmpOp.Lt (Value.ref _) (Value.ref _)) _ _ _); (k_dflt (refine' ltRef (kTrans (by with_reducible assumption) (Fr.keep (by with_reducible assumption))) ?aq8 ?bq8 ?cq8 ?uq8 ?_; (case aq8 => with_reducible assumption); (case bq8 => with_reducible assumption); (case cq8 => with_reducible assumption); (case uq8 => ((first | exact room 1 hdp | exact room 2 hdp | exact room 3 hdp | exact room 4 hdp | exact room 8 hun | exact room 16 hun | exact room 24 hun | exact room 32 hun | exact room 64 hun | exact room 65 hun | exact room 2 hun | exact Nat.lt_of_le_of_lt (Nat.le_add_right _ _) hun | ((try dsimp +zetaDelta only [Ar, Around.deeper, Around.mark]); omega)))))))) | (with_reducible ((with_reducible show wpAny _ _ (subscriptTail (PySem.Expr.Name _ _) (PySem.Expr.Slice _ _ _ _) (Value.ref _) (Value.ref _)) _ _ _); (k_dflt (refine' sliceFrom ?Fq8 ?Nq8 ?lq8 ?kq8 ?zq8 ?_; (case Fq8 => with_reducible assumption); (case Nq8 => with_reducible assumption); (case lq8 => (first | exact Fr.lst (by with_reducible assumption) (by with_reducible assumption) | with_reducible assumption)); (case kq8 => (first | exact natSucc _ | exact rfl)); (case zq8 => with_reducible assumption)); intro dS h' F' N' lS))) | (with_reducible ((with_reducible show wpAny _ _ (subscriptTail _ _ (Value.ref _) (Value.int _ _)) _ _ _); k_dflt (first | (refine' itemIn ?lq8 ?kq8 ?xq8 ?zq8 ?_; (case lq8 => (first | exact Fr.lst (by with_reducible assumption) (by with_reducible assumption) | with_reducible assumption)); (case kq8 => (first | exact natSucc _ | exact rfl)); (case xq8 => with_reducible assumption); (case zq8 => with_reducible assumption)) | (refine' itemOut ?lq8 ?kq8 ?xq8 ?zq8 ?hhq8 ?_; (case lq8 => (first | exact Fr.lst (by with_reducible assumption) (by with_reducible assumption) | with_reducible assumption)); (case kq8 => (first | exact natSucc _ | exact rfl)); (case xq8 => with_reducible assumption); (case zq8 => with_reducible assumption); (case hhq8 => exact rfl); intro h'q9 tk'q9 e'q9 hx'q9) | (refine' itemOutM ?lq8 ?kq8 ?xq8 ?zq8 ?hhq8 ?Nq8 ?mq8 ?dq8 ?cq8 ?_; (case lq8 => (first | exact Fr.lst (by with_reducible assumption) (by with_reducible assumption) | with_reducible assumption)); (case kq8 => (first | exact natSucc _ | exact rfl)); (case xq8 => with_reducible assumption); (case zq8 => with_reducible assumption); (case hhq8 => exact rfl); (case Nq8 => with_reducible assumption); (case dq8 => with_reducible assumption); (case mq8 => k_mem); (case cq8 => with_reducible assumption); intro h'q9 tk'q9 e'q9 hx'q9)))) | ((with_reducible show wpAny _ _ (call _ [Value.bytes _ _]) _ _ _); refine call_type_of (Tx := "bytes") rfl (by decide +kernel) ?_) | (with_reducible ((with_reducible show wpAny _ _ (storeName _ _ _) _ _ _); k_dflt (refine' storeM ?Fq7 ?Nq7 ?_ ?aq7 ?bq7; (case Fq7 => k_asm); (case Nq7 => k_asm); (case aq7 => rfl); (case bq7 => rfl); k_whole; intro m'q7 h'q7 F'q7 N'q7; (try k_sweep)))) | (with_reducible ((with_reducible show wpAny _ _ (eval (PySem.Expr.Name _ _) _) _ _ _); k_dflt (refine' nameX_L ?Fq7 ?vq7 ?_ ?aq7 ?bq7; (case Fq7 => k_asm); (case aq7 => rfl); (case bq7 => rfl); (case vq7 => exact Eq.refl (some _)); k_whole))) | ((with_reducible show InvEnd _ _ _ _ _ _); ((with_reducible rename Fr _ _ _ _ => kFq7); first | ((dsimp +zetaDelta only at kFq7); (try dsimp +zetaDelta only)) | dsimp +zetaDelta only)) | ((with_reducible show InvEndG _ _ _ _ _ _); ((with_reducible rename Fr _ _ _ _ => kFq7); first | ((dsimp +zetaDelta only at kFq7); (try dsimp +zetaDelta only)) | dsimp +zetaDelta only)) | walk1 | (dsimp only; walk1) | (leave1; (try dsimp only)) | fail "no step") <;> (repeat ((fail_if_success (fail_if_success ((generalize qx = zq); (with_reducible show zq _ _)))); k_unfold; (try clear qx); (try (first | refine wpI (P := wpAny _ _ _ _ _ ⟨_, s.gens, s.drawn, _, s.os⟩) ?_ | refine wpI (P := wpAny _ _ _ _ _ _) ?_)); (try dsimp only)))))
            rename Fr _ _ _ _ => F
            rename News _ _ _ _ => N
            refine append_K F N (Upd.head hdU) ?_ (by rw [List.size_toArray, sizeLine_eq]; omega)
            intro h8 F8 N8
            replace N8 : News (s.heap.hide L) Lf h8 [(ux, listOf (List.toArray (uv ++ [.ref xb])) (ku + 1)), (mi, listOf (List.toArray mv) km), (L, ({ oL with slots := sl } : Obj))] := by simpa using N8
            by_cases hB2 : nj + 1 = v2.length
            · (repeat' ((try ((with_reducible show wpAny _ _ (execs _ _) _ _ _); k_gentoks)); (try ((with_reducible show wpAny _ _ (exec _ _) _ _ _); (with_reducible refine foldQ ?_); intro qx)); (first | (k_unfold; (try (first | refine wpI (P := wpAny _ _ _ _ _ ⟨_, s.gens, s.drawn, _, s.os⟩) ?_ | refine wpI (P := wpAny _ _ _ _ _ _) ?_)); (try dsimp only)) | (k_end; wrow_close) | (with_reducible ((with_reducible show wpAny _ _ (exec (Stmt.Try _ [] _ (_ :: _) _) _) _ _ _); refine wpAny_Try_finally ?_)) | (with_reducible ((with_reducible show wpAny _ _ (exec (PySem.Stmt.While (PySem.Expr.Compare _ _ _ _) (_ :: _) [] _) _) _ _ _); (first | (refine While_once ?_ PassesOwn.looking) | (refine While_once ?_)))) | (with_reducible ((with_reducible show wpAny _ _ (compareOp PySem.CmpOp.Eq (Value.ref _) (Value.ref _)) _ _ _); (k_dflt (refine' eqRef (kTrans (by with_reducible assumption) (Fr.keep (by with_reducible assumption))) ?aq8 ?bq8 ?cq8 ?uq8 ?_; (case aq8 => with_reducible assumption); (case bq8 => with_reducible assumption); (case cq8 => with_reducible assumption); (case uq8 => ((first | exact room 1 hdp | exact room 2 hdp | exact room 3 hdp | exact room 4 hdp | exact room 8 hun | exact room 16 hun | exact room 24 hun | exact room 32 hun | exact room 64 hun | exact room 65 hun | exact room 2 hun | exact Nat.lt_of_le_of_lt (Nat.le_add_right _ _) hun | ((try dsimp +zetaDelta only [Ar, Around.deeper, Around.mark]); omega)))))))) | (with_reducible ((with_reducible show wpAny _ _ (compareOp PySem.CmpOp.Gt (Value.ref _) (Value.ref _)) _ _ _); (k_dflt (refine' gtRef (kTrans (by with_reducible assumption) (Fr.keep (by with_reducible assumption))) ?aq8 ?bq8 ?cq8 ?uq8 ?_; (case aq8 => with_reducible assumption); (case bq8 => with_reducible assumption); (case cq8 => with_reducible assumption); (case uq8 => ((first | exact room 1 hdp | exact room 2 hdp | exact room 3 hdp | exact room 4 hdp | exact room 8 hun | exact room 16 hun | exact room 24 hun | exact room 32 hun | exact room 64 hun | exact room 65 hun | exact room 2 hun | exact Nat.lt_of_le_of_lt (Nat.le_add_right _ _) hun | ((try dsimp +zetaDelta only [Ar, Around.deeper, Around.mark]); omega)))))))) | (with_reducible ((with_reducible show wpAny _ _ (compareOp PySem.CmpOp.Lt (Value.ref _) (Value.ref _)) _ _ _); (k_dflt (refine' ltRef (kTrans (by with_reducible assumption) (Fr.keep (by with_reducible assumption))) ?aq8 ?bq8 ?cq8 ?uq8 ?_; (case aq8 => with_reducible assumption); (case bq8 => with_reducible assumption); (case cq8 => with_reducible assumption); (case uq8 => ((first | exact room 1 hdp | exact room 2 hdp | exact room 3 hdp | exact room 4 hdp | exact room 8 hun | exact room 16 hun | exact room 24 hun | exact room 32 hun | exact room 64 hun | exact room 65 hun | exact room 2 hun | exact Nat.lt_of_le_of_lt (Nat.le_add_right _ _) hun | ((try dsimp +zetaDelta only [Ar, Around.deeper, Around.mark]); omega)))))))) | (with_reducible ((with_reducible show wpAny _ _ (subscriptTail (PySem.Expr.Name _ _) (PySem.Expr.Slice _ _ _ _) (Value.ref _) (Value.ref _)) _ _ _); (k_dflt (refine' sliceFrom ?Fq8 ?Nq8 ?lq8 ?kq8 ?zq8 ?_; (case Fq8 => with_reducible assumption); (case Nq8 => with_reducible assumption); (case lq8 => (first | exact Fr.lst (by with_reducible assumption) (by with_reducible assumption) | with_reducible assumption)); (case kq8 => (first | exact natSucc _ | exact rfl)); (case zq8 => with_reducible assumption)); intro dS h' F' N' lS))) | (with_reducible ((with_reducible show wpAny _ _ (subscriptTail _ _ (Value.ref _) (Value.int _ _)) _ _ _); k_dflt (first | (refine' itemIn ?lq8 ?kq8 ?xq8 ?zq8 ?_; (case lq8 => (first | exact Fr.lst (by with_reducible assumption) (by with_reducible assumption) | with_reducible assumption)); (case kq8 => (first | exact natSucc _ | exact rfl)); (case xq8 => with_reducible assumption); (case zq8 => with_reducible assumption)) | (refine' itemOut ?lq8 ?kq8 ?xq8 ?zq8 ?hhq8 ?_; (case lq8 => (first | exact Fr.lst (by with_reducible assumption) (by with_reducible assumption) | with_reducible assumption)); (case kq8 => (first | exact natSucc _ | exact rfl)); (case xq8 => with_reducible assumption); (case zq8 => with_reducible assumption); (case hhq8 => exact rfl); intro h'q9 tk'q9 e'q9 hx'q9) | (refine' itemOutM ?lq8 ?kq8 ?xq8 ?zq8 ?hhq8 ?Nq8 ?mq8 ?dq8 ?cq8 ?_; (case lq8 => (first | exact Fr.lst (by with_reducible assumption) (by with_reducible assumption) | with_reducible assumption)); (case kq8 => (first | exact natSucc _ | exact rfl)); (case xq8 => with_reducible assumption); (case zq8 => with_reducible assumption); (case hhq8 => exact rfl); (case Nq8 => with_reducible assumption); (case dq8 => with_reducible assumption); (case mq8 => k_mem); (case cq8 => with_reducible assumption); intro h'q9 tk'q9 e'q9 hx'q9)))) | ((with_reducible show wpAny _ _ (call _ [Value.bytes _ _]) _ _ _); refine call_type_of (Tx := "bytes") rfl (by decide +kernel) ?_) | (with_reducible ((with_reducible show wpAny _ _ (storeName _ _ _) _ _ _); k_dflt (refine' storeM ?Fq7 ?Nq7 ?_ ?aq7 ?bq7; (case Fq7 => k_asm); (case Nq7 => k_asm); (case aq7 => rfl); (case bq7 => rfl); k_whole; intro m'q7 h'q7 F'q7 N'q7; (try k_sweep)))) | (with_reducible ((with_reducible show wpAny _ _ (eval (PySem.Expr.Name _ _) _) _ _ _); k_dflt (refine' nameX_L ?Fq7 ?vq7 ?_ ?aq7 ?bq7; (case Fq7 => k_asm); (case aq7 => rfl); (case bq7 => rfl); (case vq7 => exact Eq.refl (some _)); k_whole))) | ((with_reducible show InvEnd _ _ _ _ _ _); ((with_reducible rename Fr _ _ _ _ => kFq7); first | ((dsimp +zetaDelta only at kFq7); (try dsimp +zetaDelta only)) | dsimp +zetaDelta only)) | ((with_reducible show InvEndG _ _ _ _ _ _); ((with_reducible rename Fr _ _ _ _ => kFq7); first | ((dsimp +zetaDelta only at kFq7); (try dsimp +zetaDelta only)) | dsimp +zetaDelta only)) | walk1 | (dsimp only; walk1) | (leave1; (try dsimp only)) | fail "no step") <;> (repeat ((fail_if_success (fail_if_success ((generalize qx = zq); (with_reducible show zq _ _)))); k_unfold; (try clear qx); (try (first | refine wpI (P := wpAny _ _ _ _ _ ⟨_, s.gens, s.drawn, _, s.os⟩) ?_ | refine wpI (P := wpAny _ _ _ _ _ _) ?_)); (try dsimp only)))))
              rename Fr _ _ _ _ => F
              rename News _ _ _ _ => N
              rename Heap.NewExc _ _ _ _ => hx8
              refine' caughtT (new := [(ux, listOf (List.toArray (uv ++ [.ref xb])) (ku + 1)), (mi, listOf (List.toArray (mv)) (km))]) (sl := sl) tx rfl hx8 F N rfl KT ?_
              intro h9 sl9 F9 N9
              exact tail _ (ni) (nj + 1) _ _ mi ux (mv) (uv ++ [Value.ref xb]) _ _ sl9 _ _ _ h9 _ F9 N9 rfl rfl rfl rfl rfl rfl d1 d2 d3 (by first | omega | (simp only [List.length_append, List.length_cons, List.length_nil]; omega)) (by first | omega | (simp only [List.length_append, List.length_cons, List.length_nil]; omega)) (hM) ((hU.append (WdH.one wy))) (hst1 _ _ (sld_end (.inr (by rw [hB2, hW2.length]))))
            · obtain ⟨vc, hx3⟩ : ∃ v, v2[nj + 1]? = some v := ⟨_, List.getElem?_eq_getElem (by omega)⟩
              obtain ⟨z, ez, wz⟩ := hW2.get hx3
              obtain ⟨xc, _, rfl, _⟩ := id wz
              have hne := Ne.symm (hs2 _ _ _ ey ez)
              (repeat' ((try ((with_reducible show wpAny _ _ (execs _ _) _ _ _); k_gentoks)); (try ((with_reducible show wpAny _ _ (exec _ _) _ _ _); (with_reducible refine foldQ ?_); intro qx)); (first | (k_unfold; (try (first | refine wpI (P := wpAny _ _ _ _ _ ⟨_, s.gens, s.drawn, _, s.os⟩) ?_ | refine wpI (P := wpAny _ _ _ _ _ _) ?_)); (try dsimp only)) | (k_end; wrow_close) | (with_reducible ((with_reducible show wpAny _ _ (exec (Stmt.Try _ [] _ (_ :: _) _) _) _ _ _); refine wpAny_Try_finally ?_)) | (with_reducible ((with_reducible show wpAny _ _ (exec (PySem.Stmt.While (PySem.Expr.Compare _ _ _ _) (_ :: _) [] _) _) _ _ _); (first | (refine While_once ?_ PassesOwn.looking) | (refine While_once ?_)))) | (with_reducible ((with_reducible show wpAny _ _ (compareOp PySem.CmpOp.Eq (Value.ref _) (Value.ref _)) _ _ _); (k_dflt (refine' eqRef (kTrans (by with_reducible assumption) (Fr.keep (by with_reducible assumption))) ?aq8 ?bq8 ?cq8 ?uq8 ?_; (case aq8 => with_reducible assumption); (case bq8 => with_reducible assumption); (case cq8 => with_reducible assumption); (case uq8 => ((first | exact room 1 hdp | exact room 2 hdp | exact room 3 hdp | exact room 4 hdp | exact room 8 hun | exact room 16 hun | exact room 24 hun | exact room 32 hun | exact room 64 hun | exact room 65 hun | exact room 2 hun | exact Nat.lt_of_le_of_lt (Nat.le_add_right _ _) hun | ((try dsimp +zetaDelta only [Ar, Around.deeper, Around.mark]); omega)))))))) | (with_reducible ((with_reducible show wpAny _ _ (compareOp PySem.CmpOp.Gt (Value.ref _) (Value.ref _)) _ _ _); (k_dflt (refine' gtRef (kTrans (by with_reducible assumption) (Fr.keep (by with_reducible assumption))) ?aq8 ?bq8 ?cq8 ?uq8 ?_; (case aq8 => with_reducible assumption); (case bq8 => with_reducible assumption); (case cq8 => with_reducible assumption); (case uq8 => ((first | exact room 1 hdp | exact room 2 hdp | exact room 3 hdp | exact room 4 hdp | exact room 8 hun | exact room 16 hun | exact room 24 hun | exact room 32 hun | exact room 64 hun | exact room 65 hun | exact room 2 hun | exact Nat.lt_of_le_of_lt (Nat.le_add_right _ _) hun | ((try dsimp +zetaDelta only [Ar, Around.deeper, Around.mark]); omega)))))))) | (with_reducible ((with_reducible show wpAny _ _ (compareOp PySem.CmpOp.Lt (Value.ref _) (Value.ref _)) _ _ _); (k_dflt (refine' ltRef (kTrans (by with_reducible assumption) (Fr.keep (by with_reducible assumption))) ?aq8 ?bq8 ?cq8 ?uq8 ?_; (case aq8 => with_reducible assumption); (case bq8 => with_reducible assumption); (case cq8 => with_reducible assumption); (case uq8 => ((first | exact room 1 hdp | exact room 2 hdp | exact room 3 hdp | exact room 4 hdp | exact room 8 hun | exact room 16 hun | exact room 24 hun | exact room 32 hun | exact room 64 hun | exact room 65 hun | exact room 2 hun | exact Nat.lt_of_le_of_lt (Nat.le_add_right _ _) hun | ((try dsimp +zetaDelta only [Ar, Around.deeper, Around.mark]); omega)))))))) | (with_reducible ((with_reducible show wpAny _ _ (subscriptTail (PySem.Expr.Name _ _) (PySem.Expr.Slice _ _ _ _) (Value.ref _) (Value.ref _)) _ _ _); (k_dflt (refine' sliceFrom ?Fq8 ?Nq8 ?lq8 ?kq8 ?zq8 ?_; (case Fq8 => with_reducible assumption); (case Nq8 => with_reducible assumption); (case lq8 => (first | exact Fr.lst (by with_reducible assumption) (by with_reducible assumption) | with_reducible assumption)); (case kq8 => (first | exact natSucc _ | exact rfl)); (case zq8 => with_reducible assumption)); intro dS h' F' N' lS))) | (with_reducible ((with_reducible show wpAny _ _ (subscriptTail _ _ (Value.ref _) (Value.int _ _)) _ _ _); k_dflt (first | (refine' itemIn ?lq8 ?kq8 ?xq8 ?zq8 ?_; (case lq8 => (first | exact Fr.lst (by with_reducible assumption) (by with_reducible assumption) | with_reducible assumption)); (case kq8 => (first | exact natSucc _ | exact rfl)); (case xq8 => with_reducible assumption); (case zq8 => with_reducible assumption)) | (refine' itemOut ?lq8 ?kq8 ?xq8 ?zq8 ?hhq8 ?_; (case lq8 => (first | exact Fr.lst (by with_reducible assumption) (by with_reducible assumption) | with_reducible assumption)); (case kq8 => (first | exact natSucc _ | exact rfl)); (case xq8 => with_reducible assumption); (case zq8 => with_reducible assumption); (case hhq8 => exact rfl); intro h'q9 tk'q9 e'q9 hx'q9) | (refine' itemOutM ?lq8 ?kq8 ?xq8 ?zq8 ?hhq8 ?Nq8 ?mq8 ?dq8 ?cq8 ?_; (case lq8 => (first | exact Fr.lst (by with_reducible assumption) (by with_reducible assumption) | with_reducible assumption)); (case kq8 => (first | exact natSucc _ | exact rfl)); (case xq8 => with_reducible assumption); (case zq8 => with_reducible assumption); (case hhq8 => exact rfl); (case Nq8 => with_reducible assumption); (case dq8 => with_reducible assumption); (case mq8 => k_mem); (case cq8 => with_reducible assumption); intro h'q9 tk'q9 e'q9 hx'q9)))) | ((with_reducible show wpAny _ _ (call _ [Value.bytes _ _]) _ _ _); refine call_type_of (Tx := "bytes") rfl (by decide +kernel) ?_) | (with_reducible ((with_reducible show wpAny _ _ (storeName _ _ _) _ _ _); k_dflt (refine' storeM ?Fq7 ?Nq7 ?_ ?aq7 ?bq7; (case Fq7 => k_asm); (case Nq7 => k_asm); (case aq7 => rfl); (case bq7 => rfl); k_whole; intro m'q7 h'q7 F'q7 N'q7; (try k_sweep)))) | (with_reducible ((with_reducible show wpAny _ _ (eval (PySem.Expr.Name _ _) _) _ _ _); k_dflt (refine' nameX_L ?Fq7 ?vq7 ?_ ?aq7 ?bq7; (case Fq7 => k_asm); (case aq7 => rfl); (case bq7 => rfl); (case vq7 => exact Eq.refl (some _)); k_whole))) | ((with_reducible show InvEnd _ _ _ _ _ _); ((with_reducible rename Fr _ _ _ _ => kFq7); first | ((dsimp +zetaDelta only at kFq7); (try dsimp +zetaDelta only)) | dsimp +zetaDelta only)) | ((with_reducible show InvEndG _ _ _ _ _ _); ((with_reducible rename Fr _ _ _ _ => kFq7); first | ((dsimp +zetaDelta only at kFq7); (try dsimp +zetaDelta only)) | dsimp +zetaDelta only)) | walk1 | (dsimp only; walk1) | (leave1; (try dsimp only)) | fail "no step") <;> (repeat ((fail_if_success (fail_if_success ((generalize qx = zq); (with_reducible show zq _ _)))); k_unfold; (try clear qx); (try (first | refine wpI (P := wpAny _ _ _ _ _ ⟨_, s.gens, s.drawn, _, s.os⟩) ?_ | refine wpI (P := wpAny _ _ _ _ _ _) ?_)); (try dsimp only)))))
              rename Fr _ _ _ _ => F
              rename News _ _ _ _ => N
              exact ⟨_, _, _, _, _, rfl, F, N, (by omega : (v1.length - (ni)) + (v2.length - (nj + 1)) < n), ni, nj + 1, _, _, mi, ux, mv, (uv ++ [.ref xb]), km, (ku + 1), sl, _, _, rfl, rfl, rfl, rfl, rfl, rfl, rfl, d1, d2, d3, hM, (hU.append (WdH.one wy)), by omega, by omega, rfl, hst1, by first | omega | (simp only [List.length_append, List.length_cons, List.length_nil]; omega), by first | omega | (simp only [List.length_append, List.length_cons, List.length_nil]; omega)⟩
          | false =>
            have hst1 : ∀ a b, Sld (m1.drop (ni + 1)) (m2.drop (nj + 1)) a b → Sld m1 m2 (xm ++ a) (xu ++ b) := fun a b z => hst a b (.eq hlt hgt z)
            have hLne : ∀ q ∈ [(ux, listOf (List.toArray uv) ku), (mi, listOf (List.toArray mv) km)], q.1 ≠ L := by
              intro q hq
              rcases List.mem_cons.mp hq with rfl | hq
              · exact d2
              · rw [List.mem_singleton.mp hq]; exact d3
            by_cases hA2 : ni + 1 = v1.length
            · by_cases hB2 : nj + 1 = v2.length
              · (repeat' ((try ((with_reducible show wpAny _ _ (execs _ _) _ _ _); k_gentoks)); (try ((with_reducible show wpAny _ _ (exec _ _) _ _ _); (with_reducible refine foldQ ?_); intro qx)); (first | (k_unfold; (try (first | refine wpI (P := wpAny _ _ _ _ _ ⟨_, s.gens, s.drawn, _, s.os⟩) ?_ | refine wpI (P := wpAny _ _ _ _ _ _) ?_)); (try dsimp only)) | (k_end; wrow_close) | (with_reducible ((with_reducible show wpAny _ _ (exec (Stmt.Try _ [] _ (_ :: _) _) _) _ _ _); refine wpAny_Try_finally ?_)) | (with_reducible ((with_reducible show wpAny _ _ (exec (PySem.Stmt.While (PySem.Expr.Compare _ _ _ _) (_ :: _) [] _) _) _ _ _); (first | (refine While_once ?_ PassesOwn.looking) | (refine While_once ?_)))) | (with_reducible ((with_reducible show wpAny _ _ (compareOp PySem.CmpOp.Eq (Value.ref _) (Value.ref _)) _ _ _); (k_dflt (refine' eqRef (kTrans (by with_reducible assumption) (Fr.keep (by with_reducible assumption))) ?aq8 ?bq8 ?cq8 ?uq8 ?_; (case aq8 => with_reducible assumption); (case bq8 => with_reducible assumption); (case cq8 => with_reducible assumption); (case uq8 => ((first | exact room 1 hdp | exact room 2 hdp | exact room 3 hdp | exact room 4 hdp | exact room 8 hun | exact room 16 hun | exact room 24 hun | exact room 32 hun | exact room 64 hun | exact room 65 hun | exact room 2 hun | exact Nat.lt_of_le_of_lt (Nat.le_add_right _ _) hun | ((try dsimp +zetaDelta only [Ar, Around.deeper, Around.mark]); omega)))))))) | (with_reducible ((with_reducible show wpAny _ _ (compareOp PySem.CmpOp.Gt (Value.ref _) (Value.ref _)) _ _ _); (k_dflt (refine' gtRef (kTrans (by with_reducible assumption) (Fr.keep (by with_reducible assumption))) ?aq8 ?bq8 ?cq8 ?uq8 ?_; (case aq8 => with_reducible assumption); (case bq8 => with_reducible assumption); (case cq8 => with_reducible assumption); (case uq8 => ((first | exact room 1 hdp | exact room 2 hdp | exact room 3 hdp | exact room 4 hdp | exact room 8 hun | exact room 16 hun | exact room 24 hun | exact room 32 hun | exact room 64 hun | exact room 65 hun | exact room 2 hun | exact Nat.lt_of_le_of_lt (Nat.le_add_right _ _) hun | ((try dsimp +zetaDelta only [Ar, Around.deeper, Around.mark]); omega)))))))) | (with_reducible ((with_reducible show wpAny _ _ (compareOp PySem.CmpOp.Lt (Value.ref _) (Value.ref _)) _ _ _); (k_dflt (refine' ltRef (kTrans (by with_reducible assumption) (Fr.keep (by with_reducible assumption))) ?aq8 ?bq8 ?cq8 ?uq8 ?_; (case aq8 => with_reducible assumption); (case bq8 => with_reducible assumption); (case cq8 => with_reducible assumption); (case uq8 => ((first | exact room 1 hdp | exact room 2 hdp | exact room 3 hdp | exact room 4 hdp | exact room 8 hun | exact room 16 hun | exact room 24 hun | exact room 32 hun | exact room 64 hun | exact room 65 hun | exact room 2 hun | exact Nat.lt_of_le_of_lt (Nat.le_add_right _ _) hun | ((try dsimp +zetaDelta only [Ar, Around.deeper, Around.mark]); omega)))))))) | (with_reducible ((with_reducible show wpAny _ _ (subscriptTail (PySem.Expr.Name _ _) (PySem.Expr.Slice _ _ _ _) (Value.ref _) (Value.ref _)) _ _ _); (k_dflt (refine' sliceFrom ?Fq8 ?Nq8 ?lq8 ?kq8 ?zq8 ?_; (case Fq8 => with_reducible assumption); (case Nq8 => with_reducible assumption); (case lq8 => (first | exact Fr.lst (by with_reducible assumption) (by with_reducible assumption) | with_reducible assumption)); (case kq8 => (first | exact natSucc _ | exact rfl)); (case zq8 => with_reducible assumption)); intro dS h' F' N' lS))) | (with_reducible ((with_reducible show wpAny _ _ (subscriptTail _ _ (Value.ref _) (Value.int _ _)) _ _ _); k_dflt (first | (refine' itemIn ?lq8 ?kq8 ?xq8 ?zq8 ?_; (case lq8 => (first | exact Fr.lst (by with_reducible assumption) (by with_reducible assumption) | with_reducible assumption)); (case kq8 => (first | exact natSucc _ | exact rfl)); (case xq8 => with_reducible assumption); (case zq8 => with_reducible assumption)) | (refine' itemOut ?lq8 ?kq8 ?xq8 ?zq8 ?hhq8 ?_; (case lq8 => (first | exact Fr.lst (by with_reducible assumption) (by with_reducible assumption) | with_reducible assumption)); (case kq8 => (first | exact natSucc _ | exact rfl)); (case xq8 => with_reducible assumption); (case zq8 => with_reducible assumption); (case hhq8 => exact rfl); intro h'q9 tk'q9 e'q9 hx'q9) | (refine' itemOutM ?lq8 ?kq8 ?xq8 ?zq8 ?hhq8 ?Nq8 ?mq8 ?dq8 ?cq8 ?_; (case lq8 => (first | exact Fr.lst (by with_reducible assumption) (by with_reducible assumption) | with_reducible assumption)); (case kq8 => (first | exact natSucc _ | exact rfl)); (case xq8 => with_reducible assumption); (case zq8 => with_reducible assumption); (case hhq8 => exact rfl); (case Nq8 => with_reducible assumption); (case dq8 => with_reducible assumption); (case mq8 => k_mem); (case cq8 => with_reducible assumption); intro h'q9 tk'q9 e'q9 hx'q9)))) | ((with_reducible show wpAny _ _ (call _ [Value.bytes _ _]) _ _ _); refine call_type_of (Tx := "bytes") rfl (by decide +kernel) ?_) | (with_reducible ((with_reducible show wpAny _ _ (storeName _ _ _) _ _ _); k_dflt (refine' storeM ?Fq7 ?Nq7 ?_ ?aq7 ?bq7; (case Fq7 => k_asm); (case Nq7 => k_asm); (case aq7 => rfl); (case bq7 => rfl); k_whole; intro m'q7 h'q7 F'q7 N'q7; (try k_sweep)))) | (with_reducible ((with_reducible show wpAny _ _ (eval (PySem.Expr.Name _ _) _) _ _ _); k_dflt (refine' nameX_L ?Fq7 ?vq7 ?_ ?aq7 ?bq7; (case Fq7 => k_asm); (case aq7 => rfl); (case bq7 => rfl); (case vq7 => exact Eq.refl (some _)); k_whole))) | ((with_reducible show InvEnd _ _ _ _ _ _); ((with_reducible rename Fr _ _ _ _ => kFq7); first | ((dsimp +zetaDelta only at kFq7); (try dsimp +zetaDelta only)) | dsimp +zetaDelta only)) | ((with_reducible show InvEndG _ _ _ _ _ _); ((with_reducible rename Fr _ _ _ _ => kFq7); first | ((dsimp +zetaDelta only at kFq7); (try dsimp +zetaDelta only)) | dsimp +zetaDelta only)) | walk1 | (dsimp only; walk1) | (leave1; (try dsimp only)) | fail "no step") <;> (repeat ((fail_if_success (fail_if_success ((generalize qx = zq); (with_reducible show zq _ _)))); k_unfold; (try clear qx); (try (first | refine wpI (P := wpAny _ _ _ _ _ ⟨_, s.gens, s.drawn, _, s.os⟩) ?_ | refine wpI (P := wpAny _ _ _ _ _ _) ?_)); (try dsimp only)))))
                rename Fr _ _ _ _ => F
                rename News _ _ _ _ => N
                rename Heap.NewExc _ _ _ _ => hx8
                rename Addr => e0
                refine noted_fly (new := [(ux, listOf (List.toArray uv) ku), (mi, listOf (List.toArray mv) km)]) rfl (tx.frs sl) F N hLne hx8.keeps hx8.new (excNew hx8) ?_
                intro h12 sl9 H12
                refine ⟨ref_ne_byPass _, ?_⟩
                refine H12.again ?_
                refine H12.set ?_
                intro h13 H13
                obtain ⟨oe, tb, otb, vse, tvs, N13, y1, y2, y3, y4, y5, y6, y7, y8⟩ := H13.there
                have F13 := H13.fr
                replace N13 : News (s.heap.hide L) Lf h13 [(ux, listOf (List.toArray uv) ku), (mi, listOf (List.toArray mv) km), (L, ({ oL with slots := sl9 } : Obj)), (e0, oe), (tb, otb)] := N13
                iterate 12 ((try ((with_reducible show wpAny _ _ (execs _ _) _ _ _); k_gentoks)); (try ((with_reducible show wpAny _ _ (exec _ _) _ _ _); (with_reducible refine foldQ ?_); intro qx)); (first | (k_unfold; (try (first | refine wpI (P := wpAny _ _ _ _ _ ⟨_, s.gens, s.drawn, _, s.os⟩) ?_ | refine wpI (P := wpAny _ _ _ _ _ _) ?_)); (try dsimp only)) | (k_end; kc_close) | (with_reducible ((with_reducible show wpAny _ _ (exec (Stmt.Try _ [] _ (_ :: _) _) _) _ _ _); refine wpAny_Try_finally ?_)) | (with_reducible ((with_reducible show wpAny _ _ (exec (PySem.Stmt.While (PySem.Expr.Compare _ _ _ _) (_ :: _) [] _) _) _ _ _); (first | (refine While_once ?_ PassesOwn.looking) | (refine While_once ?_)))) | (with_reducible ((with_reducible show wpAny _ _ (compareOp PySem.CmpOp.Eq (Value.ref _) (Value.ref _)) _ _ _); (k_dflt (refine' eqRef (kTrans (by with_reducible assumption) (Fr.keep (by with_reducible assumption))) ?aq8 ?bq8 ?cq8 ?uq8 ?_; (case aq8 => with_reducible assumption); (case bq8 => with_reducible assumption); (case cq8 => with_reducible assumption); (case uq8 => ((first | exact room 1 hdp | exact room 2 hdp | exact room 3 hdp | exact room 4 hdp | exact room 8 hun | exact room 16 hun | exact room 24 hun | exact room 32 hun | exact room 64 hun | exact room 65 hun | exact room 2 hun | exact Nat.lt_of_le_of_lt (Nat.le_add_right _ _) hun | ((try dsimp +zetaDelta only [Ar, Around.deeper, Around.mark]); omega)))))))) | (with_reducible ((with_reducible show wpAny _ _ (compareOp PySem.CmpOp.Gt (Value.ref _) (Value.ref _)) _ _ _); (k_dflt (refine' gtRef (kTrans (by with_reducible assumption) (Fr.keep (by with_reducible assumption))) ?aq8 ?bq8 ?cq8 ?uq8 ?_; (case aq8 => with_reducible assumption); (case bq8 => with_reducible assumption); (case cq8 => with_reducible assumption); (case uq8 => ((first | exact room 1 hdp | exact room 2 hdp | exact room 3 hdp | exact room 4 hdp | exact room 8 hun | exact room 16 hun | exact room 24 hun | exact room 32 hun | exact room 64 hun | exact room 65 hun | exact room 2 hun | exact Nat.lt_of_le_of_lt (Nat.le_add_right _ _) hun | ((try dsimp +zetaDelta only [Ar, Around.deeper, Around.mark]); omega)))))))) | (with_reducible ((with_reducible show wpAny _ _ (compareOp PySem.CmpOp.Lt (Value.ref _) (Value.ref _)) _ _ _); (k_dflt (refine' ltRef (kTrans (by with_reducible assumption) (Fr.keep (by with_reducible assumption))) ?aq8 ?bq8 ?cq8 ?uq8 ?_; (case aq8 => with_reducible assumption); (case bq8 => with_reducible assumption); (case cq8 => with_reducible assumption); (case uq8 => ((first | exact room 1 hdp | exact room 2 hdp | exact room 3 hdp | exact room 4 hdp | exact room 8 hun | exact room 16 hun | exact room 24 hun | exact room 32 hun | exact room 64 hun | exact room 65 hun | exact room 2 hun | exact Nat.lt_of_le_of_lt (Nat.le_add_right _ _) hun | ((try dsimp +zetaDelta only [Ar, Around.deeper, Around.mark]); omega)))))))) | (with_reducible ((with_reducible show wpAny _ _ (subscriptTail (PySem.Expr.Name _ _) (PySem.Expr.Slice _ _ _ _) (Value.ref _) (Value.ref _)) _ _ _); (k_dflt (refine' sliceFrom ?Fq8 ?Nq8 ?lq8 ?kq8 ?zq8 ?_; (case Fq8 => with_reducible assumption); (case Nq8 => with_reducible assumption); (case lq8 => (first | exact Fr.lst (by with_reducible assumption) (by with_reducible assumption) | with_reducible assumption)); (case kq8 => (first | exact natSucc _ | exact rfl)); (case zq8 => with_reducible assumption)); intro dS h' F' N' lS))) | (with_reducible ((with_reducible show wpAny _ _ (subscriptTail _ _ (Value.ref _) (Value.int _ _)) _ _ _); k_dflt (first | (refine' itemIn ?lq8 ?kq8 ?xq8 ?zq8 ?_; (case lq8 => (first | exact Fr.lst (by with_reducible assumption) (by with_reducible assumption) | with_reducible assumption)); (case kq8 => (first | exact natSucc _ | exact rfl)); (case xq8 => with_reducible assumption); (case zq8 => with_reducible assumption)) | (refine' itemOut ?lq8 ?kq8 ?xq8 ?zq8 ?hhq8 ?_; (case lq8 => (first | exact Fr.lst (by with_reducible assumption) (by with_reducible assumption) | with_reducible assumption)); (case kq8 => (first | exact natSucc _ | exact rfl)); (case xq8 => with_reducible assumption); (case zq8 => with_reducible assumption); (case hhq8 => exact rfl); intro h'q9 tk'q9 e'q9 hx'q9) | (refine' itemOutM ?lq8 ?kq8 ?xq8 ?zq8 ?hhq8 ?Nq8 ?mq8 ?dq8 ?cq8 ?_; (case lq8 => (first | exact Fr.lst (by with_reducible assumption) (by with_reducible assumption) | with_reducible assumption)); (case kq8 => (first | exact natSucc _ | exact rfl)); (case xq8 => with_reducible assumption); (case zq8 => with_reducible assumption); (case hhq8 => exact rfl); (case Nq8 => with_reducible assumption); (case dq8 => with_reducible assumption); (case mq8 => k_mem); (case cq8 => with_reducible assumption); intro h'q9 tk'q9 e'q9 hx'q9)))) | ((with_reducible show wpAny _ _ (call _ [Value.bytes _ _]) _ _ _); refine call_type_of (Tx := "bytes") rfl (by decide +kernel) ?_) | (with_reducible ((with_reducible show wpAny _ _ (storeName _ _ _) _ _ _); k_dflt (refine' storeM ?Fq7 ?Nq7 ?_ ?aq7 ?bq7; (case Fq7 => k_asm); (case Nq7 => k_asm); (case aq7 => rfl); (case bq7 => rfl); k_whole; intro m'q7 h'q7 F'q7 N'q7; (try k_sweep)))) | (with_reducible ((with_reducible show wpAny _ _ (eval (PySem.Expr.Name _ _) _) _ _ _); k_dflt (refine' nameX_L ?Fq7 ?vq7 ?_ ?aq7 ?bq7; (case Fq7 => k_asm); (case aq7 => rfl); (case bq7 => rfl); (case vq7 => exact Eq.refl (some _)); k_whole))) | ((with_reducible show InvEnd _ _ _ _ _ _); ((with_reducible rename Fr _ _ _ _ => kFq7); first | ((dsimp +zetaDelta only at kFq7); (try dsimp +zetaDelta only)) | dsimp +zetaDelta only)) | ((with_reducible show InvEndG _ _ _ _ _ _); ((with_reducible rename Fr _ _ _ _ => kFq7); first | ((dsimp +zetaDelta only at kFq7); (try dsimp +zetaDelta only)) | dsimp +zetaDelta only)) | walk1 | (dsimp only; walk1) | (leave1; (try dsimp only)) | fail "no step") <;> (repeat ((fail_if_success (fail_if_success ((generalize qx = zq); (with_reducible show zq _ _)))); k_unfold; (try clear qx); (try (first | refine wpI (P := wpAny _ _ _ _ _ ⟨_, s.gens, s.drawn, _, s.os⟩) ?_ | refine wpI (P := wpAny _ _ _ _ _ _) ?_)); (try dsimp only))))
                rename Fr _ _ _ _ => F
                rename News _ _ _ _ => N
                refine itemOutM (vs := v2) (n := nj + 1) (Fr.lst F hl2) (natSucc _) hB2 hlen2 rfl N (.tail _ (.tail _ (.tail _ (.head _)))) y4 y6 ?_
                intro h16 tk16 e16 hx16
                unfold notedBy
                have NN : News (s.heap.hide L) Lf _ ([(ux, listOf (List.toArray uv) ku), (mi, listOf (List.toArray mv) km), (e0, oe), (tb, otb)] ++ [(L, ({ oL with slots := sl9 } : Obj))]) := fun q hq => N q (by
                  simp only [List.cons_append, List.nil_append, List.mem_cons, List.not_mem_nil, or_false] at hq ⊢
                  rcases hq with rfl | rfl | rfl | rfl | rfl <;> simp)
                refine noted_fly (new := [(ux, listOf (List.toArray uv) ku), (mi, listOf (List.toArray mv) km), (e0, oe), (tb, otb)]) rfl (tx.frs sl9) F NN ?ne hx16.1 hx16.2.1 hx16.2.2 ?_
                case ne =>
                  intro q hq
                  have yL := y2 (L, _) (List.mem_append_right _ (.head _))
                  simp only [List.mem_cons, List.not_mem_nil, or_false] at hq
                  rcases hq with rfl | rfl | rfl | rfl
                  · exact d2
                  · exact d3
                  · exact Ne.symm yL.1
                  · exact Ne.symm yL.2
                intro h17 sl9 H17
                refine H17.came ?_
                intro h18 H18
                refine' caughtF H18 KT ?_
                intro h9 F9 N90
                have N9 : News (s.heap.hide L) Lf h9 [(ux, listOf (List.toArray uv) ku), (mi, listOf (List.toArray mv) km), (L, ({ oL with slots := sl9 } : Obj))] := fun q hq => N90 q (by
                  simp only [List.cons_append, List.nil_append, List.mem_cons, List.not_mem_nil, or_false] at hq ⊢
                  rcases hq with rfl | rfl | rfl <;> simp)
                exact tail _ (ni + 1) (nj + 1) _ _ mi ux (mv) (uv) _ _ sl9 _ _ _ h9 _ F9 N9 rfl rfl rfl rfl rfl rfl d1 d2 d3 (by first | omega | (simp only [List.length_append, List.length_cons, List.length_nil]; omega)) (by first | omega | (simp only [List.length_append, List.length_cons, List.length_nil]; omega)) (hM) (hU) (hst1 _ _ (sld_end (.inl (by rw [hA2, hW1.length]))))
              · obtain ⟨vd, hx4⟩ : ∃ v, v2[nj + 1]? = some v := ⟨_, List.getElem?_eq_getElem (by omega)⟩
                obtain ⟨z2, ez2, wz2⟩ := hW2.get hx4
                obtain ⟨xd, _, rfl, _⟩ := id wz2
                have hne2 := Ne.symm (hs2 _ _ _ ey ez2)
                (repeat' ((try ((with_reducible show wpAny _ _ (execs _ _) _ _ _); k_gentoks)); (try ((with_reducible show wpAny _ _ (exec _ _) _ _ _); (with_reducible refine foldQ ?_); intro qx)); (first | (k_unfold; (try (first | refine wpI (P := wpAny _ _ _ _ _ ⟨_, s.gens, s.drawn, _, s.os⟩) ?_ | refine wpI (P := wpAny _ _ _ _ _ _) ?_)); (try dsimp only)) | (k_end; wrow_close) | (with_reducible ((with_reducible show wpAny _ _ (exec (Stmt.Try _ [] _ (_ :: _) _) _) _ _ _); refine wpAny_Try_finally ?_)) | (with_reducible ((with_reducible show wpAny _ _ (exec (PySem.Stmt.While (PySem.Expr.Compare _ _ _ _) (_ :: _) [] _) _) _ _ _); (first | (refine While_once ?_ PassesOwn.looking) | (refine While_once ?_)))) | (with_reducible ((with_reducible show wpAny _ _ (compareOp PySem.CmpOp.Eq (Value.ref _) (Value.ref _)) _ _ _); (k_dflt (refine' eqRef (kTrans (by with_reducible assumption) (Fr.keep (by with_reducible assumption))) ?aq8 ?bq8 ?cq8 ?uq8 ?_; (case aq8 => with_reducible assumption); (case bq8 => with_reducible assumption); (case cq8 => with_reducible assumption); (case uq8 => ((first | exact room 1 hdp | exact room 2 hdp | exact room 3 hdp | exact room 4 hdp | exact room 8 hun | exact room 16 hun | exact room 24 hun | exact room 32 hun | exact room 64 hun | exact room 65 hun | exact room 2 hun | exact Nat.lt_of_le_of_lt (Nat.le_add_right _ _) hun | ((try dsimp +zetaDelta only [Ar, Around.deeper, Around.mark]); omega)))))))) | (with_reducible ((with_reducible show wpAny _ _ (compareOp PySem.CmpOp.Gt (Value.ref _) (Value.ref _)) _ _ _); (k_dflt (refine' gtRef (kTrans (by with_reducible assumption) (Fr.keep (by with_reducible assumption))) ?aq8 ?bq8 ?cq8 ?uq8 ?_; (case aq8 => with_reducible assumption); (case bq8 => with_reducible assumption); (case cq8 => with_reducible assumption); (case uq8 => ((first | exact room 1 hdp | exact room 2 hdp | exact room 3 hdp | exact room 4 hdp | exact room 8 hun | exact room 16 hun | exact room 24 hun | exact room 32 hun | exact room 64 hun | exact room 65 hun | exact room 2 hun | exact Nat.lt_of_le_of_lt (Nat.le_add_right _ _) hun | ((try dsimp +zetaDelta only [Ar, Around.deeper, Around.mark]); omega)))))))) | (with_reducible ((with_reducible show wpAny _ _ (compareOp PySem.CmpOp.Lt (Value.ref _) (Value.ref _)) _ _ _); (k_dflt (refine' ltRef (kTrans (by with_reducible assumption) (Fr.keep (by with_reducible assumption))) ?aq8 ?bq8 ?cq8 ?uq8 ?_; (case aq8 => with_reducible assumption); (case bq8 => with_reducible assumption); (case cq8 => with_reducible assumption); (case uq8 => ((first | exact room 1 hdp | exact room 2 hdp | exact room 3 hdp | exact room 4 hdp | exact room 8 hun | exact room 16 hun | exact room 24 hun | exact room 32 hun | exact room 64 hun | exact room 65 hun | exact room 2 hun | exact Nat.lt_of_le_of_lt (Nat.le_add_right _ _) hun | ((try dsimp +zetaDelta only [Ar, Around.deeper, Around.mark]); omega)))))))) | (with_reducible ((with_reducible show wpAny _ _ (subscriptTail (PySem.Expr.Name _ _) (PySem.Expr.Slice _ _ _ _) (Value.ref _) (Value.ref _)) _ _ _); (k_dflt (refine' sliceFrom ?Fq8 ?Nq8 ?lq8 ?kq8 ?zq8 ?_; (case Fq8 => with_reducible assumption); (case Nq8 => with_reducible assumption); (case lq8 => (first | exact Fr.lst (by with_reducible assumption) (by with_reducible assumption) | with_reducible assumption)); (case kq8 => (first | exact natSucc _ | exact rfl)); (case zq8 => with_reducible assumption)); intro dS h' F' N' lS))) | (with_reducible ((with_reducible show wpAny _ _ (subscriptTail _ _ (Value.ref _) (Value.int _ _)) _ _ _); k_dflt (first | (refine' itemIn ?lq8 ?kq8 ?xq8 ?zq8 ?_; (case lq8 => (first | exact Fr.lst (by with_reducible assumption) (by with_reducible assumption) | with_reducible assumption)); (case kq8 => (first | exact natSucc _ | exact rfl)); (case xq8 => with_reducible assumption); (case zq8 => with_reducible assumption)) | (refine' itemOut ?lq8 ?kq8 ?xq8 ?zq8 ?hhq8 ?_; (case lq8 => (first | exact Fr.lst (by with_reducible assumption) (by with_reducible assumption) | with_reducible assumption)); (case kq8 => (first | exact natSucc _ | exact rfl)); (case xq8 => with_reducible assumption); (case zq8 => with_reducible assumption); (case hhq8 => exact rfl); intro h'q9 tk'q9 e'q9 hx'q9) | (refine' itemOutM ?lq8 ?kq8 ?xq8 ?zq8 ?hhq8 ?Nq8 ?mq8 ?dq8 ?cq8 ?_; (case lq8 => (first | exact Fr.lst (by with_reducible assumption) (by with_reducible assumption) | with_reducible assumption)); (case kq8 => (first | exact natSucc _ | exact rfl)); (case xq8 => with_reducible assumption); (case zq8 => with_reducible assumption); (case hhq8 => exact rfl); (case Nq8 => with_reducible assumption); (case dq8 => with_reducible assumption); (case mq8 => k_mem); (case cq8 => with_reducible assumption); intro h'q9 tk'q9 e'q9 hx'q9)))) | ((with_reducible show wpAny _ _ (call _ [Value.bytes _ _]) _ _ _); refine call_type_of (Tx := "bytes") rfl (by decide +kernel) ?_) | (with_reducible ((with_reducible show wpAny _ _ (storeName _ _ _) _ _ _); k_dflt (refine' storeM ?Fq7 ?Nq7 ?_ ?aq7 ?bq7; (case Fq7 => k_asm); (case Nq7 => k_asm); (case aq7 => rfl); (case bq7 => rfl); k_whole; intro m'q7 h'q7 F'q7 N'q7; (try k_sweep)))) | (with_reducible ((with_reducible show wpAny _ _ (eval (PySem.Expr.Name _ _) _) _ _ _); k_dflt (refine' nameX_L ?Fq7 ?vq7 ?_ ?aq7 ?bq7; (case Fq7 => k_asm); (case aq7 => rfl); (case bq7 => rfl); (case vq7 => exact Eq.refl (some _)); k_whole))) | ((with_reducible show InvEnd _ _ _ _ _ _); ((with_reducible rename Fr _ _ _ _ => kFq7); first | ((dsimp +zetaDelta only at kFq7); (try dsimp +zetaDelta only)) | dsimp +zetaDelta only)) | ((with_reducible show InvEndG _ _ _ _ _ _); ((with_reducible rename Fr _ _ _ _ => kFq7); first | ((dsimp +zetaDelta only at kFq7); (try dsimp +zetaDelta only)) | dsimp +zetaDelta only)) | walk1 | (dsimp only; walk1) | (leave1; (try dsimp only)) | fail "no step") <;> (repeat ((fail_if_success (fail_if_success ((generalize qx = zq); (with_reducible show zq _ _)))); k_unfold; (try clear qx); (try (first | refine wpI (P := wpAny _ _ _ _ _ ⟨_, s.gens, s.drawn, _, s.os⟩) ?_ | refine wpI (P := wpAny _ _ _ _ _ _) ?_)); (try dsimp only)))))
                rename Fr _ _ _ _ => F
                rename News _ _ _ _ => N
                rename Heap.NewExc _ _ _ _ => hx8
                rename Addr => e0
                refine noted_fly (new := [(ux, listOf (List.toArray uv) ku), (mi, listOf (List.toArray mv) km)]) rfl (tx.frs sl) F N hLne hx8.keeps hx8.new (excNew hx8) ?_
                intro h12 sl9 H12
                refine ⟨ref_ne_byPass _, ?_⟩
                refine H12.again ?_
                refine H12.set ?_
                intro h13 H13
                obtain ⟨oe, tb, otb, vse, tvs, N13, y1, y2, y3, y4, y5, y6, y7, y8⟩ := H13.there
                have F13 := H13.fr
                replace N13 : News (s.heap.hide L) Lf h13 [(ux, listOf (List.toArray uv) ku), (mi, listOf (List.toArray mv) km), (L, ({ oL with slots := sl9 } : Obj)), (e0, oe), (tb, otb)] := N13
                (repeat' ((try ((with_reducible show wpAny _ _ (execs _ _) _ _ _); k_gentoks)); (try ((with_reducible show wpAny _ _ (exec _ _) _ _ _); (with_reducible refine foldQ ?_); intro qx)); (first | (k_unfold; (try (first | refine wpI (P := wpAny _ _ _ _ _ ⟨_, s.gens, s.drawn, _, s.os⟩) ?_ | refine wpI (P := wpAny _ _ _ _ _ _) ?_)); (try dsimp only)) | (k_end; wrow_close) | (with_reducible ((with_reducible show wpAny _ _ (exec (Stmt.Try _ [] _ (_ :: _) _) _) _ _ _); refine wpAny_Try_finally ?_)) | (with_reducible ((with_reducible show wpAny _ _ (exec (PySem.Stmt.While (PySem.Expr.Compare _ _ _ _) (_ :: _) [] _) _) _ _ _); (first | (refine While_once ?_ PassesOwn.looking) | (refine While_once ?_)))) | (with_reducible ((with_reducible show wpAny _ _ (compareOp PySem.CmpOp.Eq (Value.ref _) (Value.ref _)) _ _ _); (k_dflt (refine' eqRef (kTrans (by with_reducible assumption) (Fr.keep (by with_reducible assumption))) ?aq8 ?bq8 ?cq8 ?uq8 ?_; (case aq8 => with_reducible assumption); (case bq8 => with_reducible assumption); (case cq8 => with_reducible assumption); (case uq8 => ((first | exact room 1 hdp | exact room 2 hdp | exact room 3 hdp | exact room 4 hdp | exact room 8 hun | exact room 16 hun | exact room 24 hun | exact room 32 hun | exact room 64 hun | exact room 65 hun | exact room 2 hun | exact Nat.lt_of_le_of_lt (Nat.le_add_right _ _) hun | ((try dsimp +zetaDelta only [Ar, Around.deeper, Around.mark]); omega)))))))) | (with_reducible ((with_reducible show wpAny _ _ (compareOp PySem.CmpOp.Gt (Value.ref _) (Value.ref _)) _ _ _); (k_dflt (refine' gtRef (kTrans (by with_reducible assumption) (Fr.keep (by with_reducible assumption))) ?aq8 ?bq8 ?cq8 ?uq8 ?_; (case aq8 => with_reducible assumption); (case bq8 => with_reducible assumption); (case cq8 => with_reducible assumption); (case uq8 => ((first | exact room 1 hdp | exact room 2 hdp | exact room 3 hdp | exact room 4 hdp | exact room 8 hun | exact room 16 hun | exact room 24 hun | exact room 32 hun | exact room 64 hun | exact room 65 hun | exact room 2 hun | exact Nat.lt_of_le_of_lt (Nat.le_add_right _ _) hun | ((try dsimp +zetaDelta only [Ar, Around.deeper, Around.mark]); omega)))))))) | (with_reducible ((with_reducible show wpAny _ _ (compareOp PySem.CmpOp.Lt (Value.ref _) (Value.ref _)) _ _ _); (k_dflt (refine' ltRef (kTrans (by with_reducible assumption) (Fr.keep (by with_reducible assumption))) ?aq8 ?bq8 ?cq8 ?uq8 ?_; (case aq8 => with_reducible assumption); (case bq8 => with_reducible assumption); (case cq8 => with_reducible assumption); (case uq8 => ((first | exact room 1 hdp | exact room 2 hdp | exact room 3 hdp | exact room 4 hdp | exact room 8 hun | exact room 16 hun | exact room 24 hun | exact room 32 hun | exact room 64 hun | exact room 65 hun | exact room 2 hun | exact Nat.lt_of_le_of_lt (Nat.le_add_right _ _) hun | ((try dsimp +zetaDelta only [Ar, Around.deeper, Around.mark]); omega)))))))) | (with_reducible ((with_reducible show wpAny _ _ (subscriptTail (PySem.Expr.Name _ _) (PySem.Expr.Slice _ _ _ _) (Value.ref _) (Value.ref _)) _ _ _); (k_dflt (refine' sliceFrom ?Fq8 ?Nq8 ?lq8 ?kq8 ?zq8 ?_; (case Fq8 => with_reducible assumption); (case Nq8 => with_reducible assumption); (case lq8 => (first | exact Fr.lst (by with_reducible assumption) (by with_reducible assumption) | with_reducible assumption)); (case kq8 => (first | exact natSucc _ | exact rfl)); (case zq8 => with_reducible assumption)); intro dS h' F' N' lS))) | (with_reducible ((with_reducible show wpAny _ _ (subscriptTail _ _ (Value.ref _) (Value.int _ _)) _ _ _); k_dflt (first | (refine' itemIn ?lq8 ?kq8 ?xq8 ?zq8 ?_; (case lq8 => (first | exact Fr.lst (by with_reducible assumption) (by with_reducible assumption) | with_reducible assumption)); (case kq8 => (first | exact natSucc _ | exact rfl)); (case xq8 => with_reducible assumption); (case zq8 => with_reducible assumption)) | (refine' itemOut ?lq8 ?kq8 ?xq8 ?zq8 ?hhq8 ?_; (case lq8 => (first | exact Fr.lst (by with_reducible assumption) (by with_reducible assumption) | with_reducible assumption)); (case kq8 => (first | exact natSucc _ | exact rfl)); (case xq8 => with_reducible assumption); (case zq8 => with_reducible assumption); (case hhq8 => exact rfl); intro h'q9 tk'q9 e'q9 hx'q9) | (refine' itemOutM ?lq8 ?kq8 ?xq8 ?zq8 ?hhq8 ?Nq8 ?mq8 ?dq8 ?cq8 ?_; (case lq8 => (first | exact Fr.lst (by with_reducible assumption) (by with_reducible assumption) | with_reducible assumption)); (case kq8 => (first | exact natSucc _ | exact rfl)); (case xq8 => with_reducible assumption); (case zq8 => with_reducible assumption); (case hhq8 => exact rfl); (case Nq8 => with_reducible assumption); (case dq8 => with_reducible assumption); (case mq8 => k_mem); (case cq8 => with_reducible assumption); intro h'q9 tk'q9 e'q9 hx'q9)))) | ((with_reducible show wpAny _ _ (call _ [Value.bytes _ _]) _ _ _); refine call_type_of (Tx := "bytes") rfl (by decide +kernel) ?_) | (with_reducible ((with_reducible show wpAny _ _ (storeName _ _ _) _ _ _); k_dflt (refine' storeM ?Fq7 ?Nq7 ?_ ?aq7 ?bq7; (case Fq7 => k_asm); (case Nq7 => k_asm); (case aq7 => rfl); (case bq7 => rfl); k_whole; intro m'q7 h'q7 F'q7 N'q7; (try k_sweep)))) | (with_reducible ((with_reducible show wpAny _ _ (eval (PySem.Expr.Name _ _) _) _ _ _); k_dflt (refine' nameX_L ?Fq7 ?vq7 ?_ ?aq7 ?bq7; (case Fq7 => k_asm); (case aq7 => rfl); (case bq7 => rfl); (case vq7 => exact Eq.refl (some _)); k_whole))) | ((with_reducible show InvEnd _ _ _ _ _ _); ((with_reducible rename Fr _ _ _ _ => kFq7); first | ((dsimp +zetaDelta only at kFq7); (try dsimp +zetaDelta only)) | dsimp +zetaDelta only)) | ((with_reducible show InvEndG _ _ _ _ _ _); ((with_reducible rename Fr _ _ _ _ => kFq7); first | ((dsimp +zetaDelta only at kFq7); (try dsimp +zetaDelta only)) | dsimp +zetaDelta only)) | walk1 | (dsimp only; walk1) | (leave1; (try dsimp only)) | fail "no step") <;> (repeat ((fail_if_success (fail_if_success ((generalize qx = zq); (with_reducible show zq _ _)))); k_unfold; (try clear qx); (try (first | refine wpI (P := wpAny _ _ _ _ _ ⟨_, s.gens, s.drawn, _, s.os⟩) ?_ | refine wpI (P := wpAny _ _ _ _ _ _) ?_)); (try dsimp only)))))
                rename Fr _ _ _ _ => F
                rename News _ _ _ _ => N
                have H14 : Fly (s.heap.hide L) Lf _ _ _ "IndexError" .none .none [(ux, listOf (List.toArray uv) ku), (mi, listOf (List.toArray mv) km), (L, ({ oL with slots := sl9 } : Obj))] := ⟨F, oe, tb, otb, vse, tvs, N, y1, y2, y3, y4, y5, y6, y7, y8⟩
                dsimp only
                refine H14.pass ?_
                intro h15 H15
                refine' caughtF H15 KT ?_
                intro h9 F9 N9
                exact tail _ (ni + 1) (nj + 1) _ _ mi ux (mv) (uv) _ _ sl9 _ _ _ h9 _ F9 N9 rfl rfl rfl rfl rfl rfl d1 d2 d3 (by first | omega | (simp only [List.length_append, List.length_cons, List.length_nil]; omega)) (by first | omega | (simp only [List.length_append, List.length_cons, List.length_nil]; omega)) (hM) (hU) (hst1 _ _ (sld_end (.inl (by rw [hA2, hW1.length]))))
            · obtain ⟨vc, hx3⟩ : ∃ v, v1[ni + 1]? = some v := ⟨_, List.getElem?_eq_getElem (by omega)⟩
              obtain ⟨z, ez, wz⟩ := hW1.get hx3
              obtain ⟨xc, _, rfl, _⟩ := id wz
              have hne := Ne.symm (hs1 _ _ _ ex ez)
              by_cases hB2 : nj + 1 = v2.length
              · (repeat' ((try ((with_reducible show wpAny _ _ (execs _ _) _ _ _); k_gentoks)); (try ((with_reducible show wpAny _ _ (exec _ _) _ _ _); (with_reducible refine foldQ ?_); intro qx)); (first | (k_unfold; (try (first | refine wpI (P := wpAny _ _ _ _ _ ⟨_, s.gens, s.drawn, _, s.os⟩) ?_ | refine wpI (P := wpAny _ _ _ _ _ _) ?_)); (try dsimp only)) | (k_end; wrow_close) | (with_reducible ((with_reducible show wpAny _ _ (exec (Stmt.Try _ [] _ (_ :: _) _) _) _ _ _); refine wpAny_Try_finally ?_)) | (with_reducible ((with_reducible show wpAny _ _ (exec (PySem.Stmt.While (PySem.Expr.Compare _ _ _ _) (_ :: _) [] _) _) _ _ _); (first | (refine While_once ?_ PassesOwn.looking) | (refine While_once ?_)))) | (with_reducible ((with_reducible show wpAny _ _ (compareOp PySem.CmpOp.Eq (Value.ref _) (Value.ref _)) _ _ _); (k_dflt (refine' eqRef (kTrans (by with_reducible assumption) (Fr.keep (by with_reducible assumption))) ?aq8 ?bq8 ?cq8 ?uq8 ?_; (case aq8 => with_reducible assumption); (case bq8 => with_reducible assumption); (case cq8 => with_reducible assumption); (case uq8 => ((first | exact room 1 hdp | exact room 2 hdp | exact room 3 hdp | exact room 4 hdp | exact room 8 hun | exact room 16 hun | exact room 24 hun | exact room 32 hun | exact room 64 hun | exact room 65 hun | exact room 2 hun | exact Nat.lt_of_le_of_lt (Nat.le_add_right _ _) hun | ((try dsimp +zetaDelta only [Ar, Around.deeper, Around.mark]); omega)))))))) | (with_reducible ((with_reducible show wpAny _ _ (compareOp PySem.CmpOp.Gt (Value.ref _) (Value.ref _)) _ _ _); (k_dflt (refine' gtRef (kTrans (by with_reducible assumption) (Fr.keep (by with_reducible assumption))) ?aq8 ?bq8 ?cq8 ?uq8 ?_; (case aq8 => with_reducible assumption); (case bq8 => with_reducible assumption); (case cq8 => with_reducible assumption); (case uq8 => ((first | exact room 1 hdp | exact room 2 hdp | exact room 3 hdp | exact room 4 hdp | exact room 8 hun | exact room 16 hun | exact room 24 hun | exact room 32 hun | exact room 64 hun | exact room 65 hun | exact room 2 hun | exact Nat.lt_of_le_of_lt (Nat.le_add_right _ _) hun | ((try dsimp +zetaDelta only [Ar, Around.deeper, Around.mark]); omega)))))))) | (with_reducible ((with_reducible show wpAny _ _ (compareOp PySem.CmpOp.Lt (Value.ref _) (Value.ref _)) _ _ _); (k_dflt (refine' ltRef (kTrans (by with_reducible assumption) (Fr.keep (by with_reducible assumption))) ?aq8 ?bq8 ?cq8 ?uq8 ?_; (case aq8 => with_reducible assumption); (case bq8 => with_reducible assumption); (case cq8 => with_reducible assumption); (case uq8 => ((first | exact room 1 hdp | exact room 2 hdp | exact room 3 hdp | exact room 4 hdp | exact room 8 hun | exact room 16 hun | exact room 24 hun | exact room 32 hun | exact room 64 hun | exact room 65 hun | exact room 2 hun | exact Nat.lt_of_le_of_lt (Nat.le_add_right _ _) hun | ((try dsimp +zetaDelta only [Ar, Around.deeper, Around.mark]); omega)))))))) | (with_reducible ((with_reducible show wpAny _ _ (subscriptTail (PySem.Expr.Name _ _) (PySem.Expr.Slice _ _ _ _) (Value.ref _) (Value.ref _)) _ _ _); (k_dflt (refine' sliceFrom ?Fq8 ?Nq8 ?lq8 ?kq8 ?zq8 ?_; (case Fq8 => with_reducible assumption); (case Nq8 => with_reducible assumption); (case lq8 => (first | exact Fr.lst (by with_reducible assumption) (by with_reducible assumption) | with_reducible assumption)); (case kq8 => (first | exact natSucc _ | exact rfl)); (case zq8 => with_reducible assumption)); intro dS h' F' N' lS))) | (with_reducible ((with_reducible show wpAny _ _ (subscriptTail _ _ (Value.ref _) (Value.int _ _)) _ _ _); k_dflt (first | (refine' itemIn ?lq8 ?kq8 ?xq8 ?zq8 ?_; (case lq8 => (first | exact Fr.lst (by with_reducible assumption) (by with_reducible assumption) | with_reducible assumption)); (case kq8 => (first | exact natSucc _ | exact rfl)); (case xq8 => with_reducible assumption); (case zq8 => with_reducible assumption)) | (refine' itemOut ?lq8 ?kq8 ?xq8 ?zq8 ?hhq8 ?_; (case lq8 => (first | exact Fr.lst (by with_reducible assumption) (by with_reducible assumption) | with_reducible assumption)); (case kq8 => (first | exact natSucc _ | exact rfl)); (case xq8 => with_reducible assumption); (case zq8 => with_reducible assumption); (case hhq8 => exact rfl); intro h'q9 tk'q9 e'q9 hx'q9) | (refine' itemOutM ?lq8 ?kq8 ?xq8 ?zq8 ?hhq8 ?Nq8 ?mq8 ?dq8 ?cq8 ?_; (case lq8 => (first | exact Fr.lst (by with_reducible assumption) (by with_reducible assumption) | with_reducible assumption)); (case kq8 => (first | exact natSucc _ | exact rfl)); (case xq8 => with_reducible assumption); (case zq8 => with_reducible assumption); (case hhq8 => exact rfl); (case Nq8 => with_reducible assumption); (case dq8 => with_reducible assumption); (case mq8 => k_mem); (case cq8 => with_reducible assumption); intro h'q9 tk'q9 e'q9 hx'q9)))) | ((with_reducible show wpAny _ _ (call _ [Value.bytes _ _]) _ _ _); refine call_type_of (Tx := "bytes") rfl (by decide +kernel) ?_) | (with_reducible ((with_reducible show wpAny _ _ (storeName _ _ _) _ _ _); k_dflt (refine' storeM ?Fq7 ?Nq7 ?_ ?aq7 ?bq7; (case Fq7 => k_asm); (case Nq7 => k_asm); (case aq7 => rfl); (case bq7 => rfl); k_whole; intro m'q7 h'q7 F'q7 N'q7; (try k_sweep)))) | (with_reducible ((with_reducible show wpAny _ _ (eval (PySem.Expr.Name _ _) _) _ _ _); k_dflt (refine' nameX_L ?Fq7 ?vq7 ?_ ?aq7 ?bq7; (case Fq7 => k_asm); (case aq7 => rfl); (case bq7 => rfl); (case vq7 => exact Eq.refl (some _)); k_whole))) | ((with_reducible show InvEnd _ _ _ _ _ _); ((with_reducible rename Fr _ _ _ _ => kFq7); first | ((dsimp +zetaDelta only at kFq7); (try dsimp +zetaDelta only)) | dsimp +zetaDelta only)) | ((with_reducible show InvEndG _ _ _ _ _ _); ((with_reducible rename Fr _ _ _ _ => kFq7); first | ((dsimp +zetaDelta only at kFq7); (try dsimp +zetaDelta only)) | dsimp +zetaDelta only)) | walk1 | (dsimp only; walk1) | (leave1; (try dsimp only)) | fail "no step") <;> (repeat ((fail_if_success (fail_if_success ((generalize qx = zq); (with_reducible show zq _ _)))); k_unfold; (try clear qx); (try (first | refine wpI (P := wpAny _ _ _ _ _ ⟨_, s.gens, s.drawn, _, s.os⟩) ?_ | refine wpI (P := wpAny _ _ _ _ _ _) ?_)); (try dsimp only)))))
                rename Fr _ _ _ _ => F
                rename News _ _ _ _ => N
                rename Heap.NewExc _ _ _ _ => hx8
                unfold notedBy
                refine noted_fly (new := [(ux, listOf (List.toArray uv) ku), (mi, listOf (List.toArray mv) km)]) rfl (tx.frs sl) F N hLne hx8.keeps hx8.new (excNew hx8) ?_
                intro h12 sl9 H12
                refine H12.came ?_
                intro h13 H13
                refine' caughtF H13 KT ?_
                intro h9 F9 N9
                exact tail _ (ni + 1) (nj + 1) _ _ mi ux (mv) (uv) _ _ sl9 _ _ _ h9 _ F9 N9 rfl rfl rfl rfl rfl rfl d1 d2 d3 (by first | omega | (simp only [List.length_append, List.length_cons, List.length_nil]; omega)) (by first | omega | (simp only [List.length_append, List.length_cons, List.length_nil]; omega)) (hM) (hU) (hst1 _ _ (sld_end (.inr (by rw [hB2, hW2.length]))))
              · obtain ⟨vd, hx4⟩ : ∃ v, v2[nj + 1]? = some v := ⟨_, List.getElem?_eq_getElem (by omega)⟩
                obtain ⟨z2, ez2, wz2⟩ := hW2.get hx4
                obtain ⟨xd, _, rfl, _⟩ := id wz2
                have hne2 := Ne.symm (hs2 _ _ _ ey ez2)
                (repeat' ((try ((with_reducible show wpAny _ _ (execs _ _) _ _ _); k_gentoks)); (try ((with_reducible show wpAny _ _ (exec _ _) _ _ _); (with_reducible refine foldQ ?_); intro qx)); (first | (k_unfold; (try (first | refine wpI (P := wpAny _ _ _ _ _ ⟨_, s.gens, s.drawn, _, s.os⟩) ?_ | refine wpI (P := wpAny _ _ _ _ _ _) ?_)); (try dsimp only)) | (k_end; wrow_close) | (with_reducible ((with_reducible show wpAny _ _ (exec (Stmt.Try _ [] _ (_ :: _) _) _) _ _ _); refine wpAny_Try_finally ?_)) | (with_reducible ((with_reducible show wpAny _ _ (exec (PySem.Stmt.While (PySem.Expr.Compare _ _ _ _) (_ :: _) [] _) _) _ _ _); (first | (refine While_once ?_ PassesOwn.looking) | (refine While_once ?_)))) | (with_reducible ((with_reducible show wpAny _ _ (compareOp PySem.CmpOp.Eq (Value.ref _) (Value.ref _)) _ _ _); (k_dflt (refine' eqRef (kTrans (by with_reducible assumption) (Fr.keep (by with_reducible assumption))) ?aq8 ?bq8 ?cq8 ?uq8 ?_; (case aq8 => with_reducible assumption); (case bq8 => with_reducible assumption); (case cq8 => with_reducible assumption); (case uq8 => ((first | exact room 1 hdp | exact room 2 hdp | exact room 3 hdp | exact room 4 hdp | exact room 8 hun | exact room 16 hun | exact room 24 hun | exact room 32 hun | exact room 64 hun | exact room 65 hun | exact room 2 hun | exact Nat.lt_of_le_of_lt (Nat.le_add_right _ _) hun | ((try dsimp +zetaDelta only [Ar, Around.deeper, Around.mark]); omega)))))))) | (with_reducible ((with_reducible show wpAny _ _ (compareOp PySem.CmpOp.Gt (Value.ref _) (Value.ref _)) _ _ _); (k_dflt (refine' gtRef (kTrans (by with_reducible assumption) (Fr.keep (by with_reducible assumption))) ?aq8 ?bq8 ?cq8 ?uq8 ?_; (case aq8 => with_reducible assumption); (case bq8 => with_reducible assumption); (case cq8 => with_reducible assumption); (case uq8 => ((first | exact room 1 hdp | exact room 2 hdp | exact room 3 hdp | exact room 4 hdp | exact room 8 hun | exact room 16 hun | exact room 24 hun | exact room 32 hun | exact room 64 hun | exact room 65 hun | exact room 2 hun | exact Nat.lt_of_le_of_lt (Nat.le_add_right _ _) hun | ((try dsimp +zetaDelta only [Ar, Around.deeper, Around.mark]); omega)))))))) | (with_reducible ((with_reducible show wpAny _ _ (compareOp PySem.CmpOp.Lt (Value.ref _) (Value.ref _)) _ _ _); (k_dflt (refine' ltRef (kTrans (by with_reducible assumption) (Fr.keep (by with_reducible assumption))) ?aq8 ?bq8 ?cq8 ?uq8 ?_; (case aq8 => with_reducible assumption); (case bq8 => with_reducible assumption); (case cq8 => with_reducible assumption); (case uq8 => ((first | exact room 1 hdp | exact room 2 hdp | exact room 3 hdp | exact room 4 hdp | exact room 8 hun | exact room 16 hun | exact room 24 hun | exact room 32 hun | exact room 64 hun | exact room 65 hun | exact room 2 hun | exact Nat.lt_of_le_of_lt (Nat.le_add_right _ _) hun | ((try dsimp +zetaDelta only [Ar, Around.deeper, Around.mark]); omega)))))))) | (with_reducible ((with_reducible show wpAny _ _ (subscriptTail (PySem.Expr.Name _ _) (PySem.Expr.Slice _ _ _ _) (Value.ref _) (Value.ref _)) _ _ _); (k_dflt (refine' sliceFrom ?Fq8 ?Nq8 ?lq8 ?kq8 ?zq8 ?_; (case Fq8 => with_reducible assumption); (case Nq8 => with_reducible assumption); (case lq8 => (first | exact Fr.lst (by with_reducible assumption) (by with_reducible assumption) | with_reducible assumption)); (case kq8 => (first | exact natSucc _ | exact rfl)); (case zq8 => with_reducible assumption)); intro dS h' F' N' lS))) | (with_reducible ((with_reducible show wpAny _ _ (subscriptTail _ _ (Value.ref _) (Value.int _ _)) _ _ _); k_dflt (first | (refine' itemIn ?lq8 ?kq8 ?xq8 ?zq8 ?_; (case lq8 => (first | exact Fr.lst (by with_reducible assumption) (by with_reducible assumption) | with_reducible assumption)); (case kq8 => (first | exact natSucc _ | exact rfl)); (case xq8 => with_reducible assumption); (case zq8 => with_reducible assumption)) | (refine' itemOut ?lq8 ?kq8 ?xq8 ?zq8 ?hhq8 ?_; (case lq8 => (first | exact Fr.lst (by with_reducible assumption) (by with_reducible assumption) | with_reducible assumption)); (case kq8 => (first | exact natSucc _ | exact rfl)); (case xq8 => with_reducible assumption); (case zq8 => with_reducible assumption); (case hhq8 => exact rfl); intro h'q9 tk'q9 e'q9 hx'q9) | (refine' itemOutM ?lq8 ?kq8 ?xq8 ?zq8 ?hhq8 ?Nq8 ?mq8 ?dq8 ?cq8 ?_; (case lq8 => (first | exact Fr.lst (by with_reducible assumption) (by with_reducible assumption) | with_reducible assumption)); (case kq8 => (first | exact natSucc _ | exact rfl)); (case xq8 => with_reducible assumption); (case zq8 => with_reducible assumption); (case hhq8 => exact rfl); (case Nq8 => with_reducible assumption); (case dq8 => with_reducible assumption); (case mq8 => k_mem); (case cq8 => with_reducible assumption); intro h'q9 tk'q9 e'q9 hx'q9)))) | ((with_reducible show wpAny _ _ (call _ [Value.bytes _ _]) _ _ _); refine call_type_of (Tx := "bytes") rfl (by decide +kernel) ?_) | (with_reducible ((with_reducible show wpAny _ _ (storeName _ _ _) _ _ _); k_dflt (refine' storeM ?Fq7 ?Nq7 ?_ ?aq7 ?bq7; (case Fq7 => k_asm); (case Nq7 => k_asm); (case aq7 => rfl); (case bq7 => rfl); k_whole; intro m'q7 h'q7 F'q7 N'q7; (try k_sweep)))) | (with_reducible ((with_reducible show wpAny _ _ (eval (PySem.Expr.Name _ _) _) _ _ _); k_dflt (refine' nameX_L ?Fq7 ?vq7 ?_ ?aq7 ?bq7; (case Fq7 => k_asm); (case aq7 => rfl); (case bq7 => rfl); (case vq7 => exact Eq.refl (some _)); k_whole))) | ((with_reducible show InvEnd _ _ _ _ _ _); ((with_reducible rename Fr _ _ _ _ => kFq7); first | ((dsimp +zetaDelta only at kFq7); (try dsimp +zetaDelta only)) | dsimp +zetaDelta only)) | ((with_reducible show InvEndG _ _ _ _ _ _); ((with_reducible rename Fr _ _ _ _ => kFq7); first | ((dsimp +zetaDelta only at kFq7); (try dsimp +zetaDelta only)) | dsimp +zetaDelta only)) | walk1 | (dsimp only; walk1) | (leave1; (try dsimp only)) | fail "no step") <;> (repeat ((fail_if_success (fail_if_success ((generalize qx = zq); (with_reducible show zq _ _)))); k_unfold; (try clear qx); (try (first | refine wpI (P := wpAny _ _ _ _ _ ⟨_, s.gens, s.drawn, _, s.os⟩) ?_ | refine wpI (P := wpAny _ _ _ _ _ _) ?_)); (try dsimp only)))))
                rename Fr _ _ _ _ => F
                rename News _ _ _ _ => N
                exact ⟨_, _, _, _, _, rfl, F, N, (by omega : (v1.length - (ni + 1)) + (v2.length - (nj + 1)) < n), ni + 1, nj + 1, _, _, mi, ux, mv, uv, km, ku, sl, _, _, rfl, rfl, rfl, rfl, rfl, rfl, rfl, d1, d2, d3, hM, hU, by omega, by omega, rfl, hst1, by first | omega | (simp only [List.length_append, List.length_cons, List.length_nil]; omega), by first | omega | (simp only [List.length_append, List.length_cons, List.length_nil]; omega)⟩

end Mine
end
section
open PySem PySem.W PyProof.Rows
set_option maxRecDepth 100000
set_option maxHeartbeats 8000000
set_option linter.unusedVariables false
namespace Mine
theorem Cx.any {w : World} {A A' : Around} {h h' base : Heap} {outer outer' : List Env} {mean : ExcName → Option Value} {mg mb : Str → Option Value} (C : Cx w A h base outer mean mg mb) (hk : Keeps h h') : Cx w A' h' base outer' mean mg mb :=
  ⟨C.X.keeps hk, C.T.keeps hk⟩
theorem compEnd_mono {h₀ : Heap} {L I C D : Addr} {m : Str → Option Value} {s₁ s₂ : Shared} {oI oC oD : Obj} {S : List (Addr × Obj) → Prop} {r r' : Value → List (Addr × Obj) → Prop} {y : Value} (hr : ∀ y n, r y n → r' y n)
    (h : LCg.CompEnd h₀ L m s₁ I oI C oC D oD S r y s₂) : LCg.CompEnd h₀ L m s₁ I oI C oC D oD S r' y s₂ := by
  obtain ⟨h', tk, n, e, F, N, o, hs, q⟩ := h
  exact ⟨h', tk, n, e, F, N, o, hs, hr _ _ q⟩
/-- a comprehension with a test, by what holds between its turns -/
theorem compT_ind {prog : Program} {w : World} {A : Around} {h₀ : Heap} {L : Addr} {m : Str → Option Value} {env : Env} {ct elt : PySem.Expr} {x : Str} {scope : Scope} {cl : List (Str × Addr)} {s : Shared} {S : List (Addr × Obj) → Prop} {P : Nat → Value → Prop}
    {Fin : List Value → List (Addr × Obj) → Prop} {n : Nat} (J : Nat → List Value → List (Addr × Obj) → Prop) (hfin : ∀ ys news, J n ys news → Fin ys news)
    (hstep : ∀ i ys news, i < n → J i ys news → ∀ v I oI C oC D m₂ h tk (E' : Value → Shared → Prop), P i v → LCg.NsObj oC m₂ → m₂ x = some v → Fr h₀ L h m → News h₀ L h ((I, oI) :: (C, oC) :: (D, LCg.lst ys) :: news) → LCg.Off3 I C D news → ((@Ne Nat I C) ∧ (@Ne Nat I D) ∧ (@Ne Nat C D)) →
      wpAny (model prog w) A (isTrue ct (compEnvC scope cl C env) (eval ct (compEnvC scope cl C env))) (fun ok s' => if ok = true then
        wpAny (model prog w) A (eval elt (compEnvC scope cl C env)) (LCg.CompEnd h₀ L m { s with heap := h, toks := tk } I oI C oC D (LCg.lst ys) S (fun y news' => J (i + 1) (ys ++ [y]) news')) E' s'
        else LCg.CompEnd h₀ L m { s with heap := h, toks := tk } I oI C oC D (LCg.lst ys) S (fun _ news' => J (i + 1) ys news') Value.none s') E' { s with heap := h, toks := tk }) :
    ∀ k i ys news, k + i = n → J i ys news → LCt.CompRestT prog w A h₀ L m env ct elt x scope cl s S P Fin k i ys news
  | 0, i, ys, news, e, hj => LCt.CompRestT.zero (hfin _ _ (by rw [show i = n from by omega] at hj; exact hj))
  | k + 1, i, ys, news, e, hj => by
    refine LCt.CompRestT.succ fun v I oI C oC D m₂ h tk E' a b c d e1 f g => ?_
    refine wpAny_mono (hstep i ys news (by omega) hj v I oI C oC D m₂ h tk E' a b c d e1 f g) (fun ok s' hh => ?_) fun _ _ e => e
    cases ok with
    | true =>
      simp only [if_true] at hh ⊢
      exact wpAny_mono hh (fun y s'' h2 => compEnd_mono (fun y n q => compT_ind J hfin hstep k (i + 1) _ _ (by omega) q) h2) fun _ _ e => e
    | false =>
      simp only [Bool.false_eq_true, if_false] at hh ⊢
      exact compEnd_mono (fun y n q => compT_ind J hfin hstep k (i + 1) _ _ (by omega) q) hh
theorem compU_ind {prog : Program} {w : World} {A : Around} {h₀ : Heap} {L : Addr} {m : Str → Option Value} {env : Env} {elt : PySem.Expr} {x : Str} {scope : Scope} {cl : List (Str × Addr)} {s : Shared} {S : List (Addr × Obj) → Prop} {P : Nat → Value → Prop}
    {Fin : List Value → List (Addr × Obj) → Prop} {n : Nat} (J : Nat → List Value → List (Addr × Obj) → Prop) (hfin : ∀ ys news, J n ys news → Fin ys news)
    (hstep : ∀ i ys news, i < n → J i ys news → ∀ v I oI C oC D m₂ h tk (E' : Value → Shared → Prop), P i v → LCg.NsObj oC m₂ → m₂ x = some v → Fr h₀ L h m → News h₀ L h ((I, oI) :: (C, oC) :: (D, LCg.lst ys) :: news) → LCg.Off3 I C D news → ((@Ne Nat I C) ∧ (@Ne Nat I D) ∧ (@Ne Nat C D)) →
      wpAny (model prog w) A (eval elt (compEnvC scope cl C env)) (LCg.CompEnd h₀ L m { s with heap := h, toks := tk } I oI C oC D (LCg.lst ys) S (fun y news' => J (i + 1) (ys ++ [y]) news')) E' { s with heap := h, toks := tk }) :
    ∀ k i ys news, k + i = n → J i ys news → LCg.CompRest prog w A h₀ L m env elt x scope cl s S P Fin k i ys news
  | 0, i, ys, news, e, hj => LCg.CompRest.zero (hfin _ _ (by rw [show i = n from by omega] at hj; exact hj))
  | k + 1, i, ys, news, e, hj => by
    refine LCg.CompRest.succ fun v I oI C oC D m₂ h tk E' a b c d e1 f g => ?_
    exact wpAny_mono (hstep i ys news (by omega) hj v I oI C oC D m₂ h tk E' a b c d e1 f g) (fun y s'' h2 => compEnd_mono (fun y n q => compU_ind J hfin hstep k (i + 1) _ _ (by omega) q) h2) fun _ _ e => e
/-- a def of the text with cells is entered; nothing that stood may turn -/
theorem enterC {K : Frag} {prog : Program} {w : World} {A : Around} {s : Shared} {p : Program} {loose : List Str} {mean : ExcName → Option Value} {mg mb : Str → Option Value} {name qual : Str} {params : Arguments} {body : List Stmt} {scope : Scope} {dV kV doc pm cdv ct oc : Value} {an od : Option Addr} {osl : Array (Option Value)} {f : Addr} {vs : List Value} {kw : List (Str × Value)} {binds : List (Str × Value)} {Q E : Value → Shared → Prop}
    (X : K.In s.heap) (T : Top p loose mean mg mb s.heap)
    (ho : K.lookup f = some ⟨oc, od, .func (fnOf name qual params body scope dV kV doc pm an cdv ct), osl⟩) (hcd : codeIn K cdv qual = true) (hroom : A.depth < recursionLimit)
    (hbind : BindsTo s (fnOf name qual params body scope dV kV doc pm an cdv ct) ⟨vs, kw⟩ binds)
    (hkind : ∀ n, ∀ x ∈ binds, scope.names.lookup x.1 = some .local ∨ (scope.names.lookup x.1 = some .cell ∧ ((cellsFrom n scope.names []).lookup x.1).isSome = true))
    (hnd : ((cellsFrom 0 scope.names []).map (·.1)).Nodup)
    (h : ∀ L, let ev := envOfC qual scope L f cdv; let Ak := A.deeper ev; let m0 := bindL ev.kindOf binds fun _ => none; ∀ h₁ tk cells, Fr s.heap L h₁ m0 → News s.heap L h₁ cells →
      CellsAre (bindC ev.kindOf binds fun _ => none) (cellsFrom (L + 1) scope.names []) cells →
      wpAny (model prog w) Ak (execs body ev)
        (fun fl s' => Q (match fl with | .ret v => v | _ => .none) s') (fun _ _ => False)
        { s with heap := h₁, toks := tk })
    (hco : scope.isCoroutine = false) (hgen : scope.isGenerator = false) (hk : scope.kind = .function) : wpAny (model prog w) A (call (.ref f) vs kw) Q E s := by
  refine wpAny_call ?_
  refine codeAny_call_function hroom (X _ _ ho) rfl hco hgen rfl (codeRec_of X hcd) (hbind _ _ _ _ ?_)
  refine wpAny_newFunctionEnv_cells hk (hkind _) fun env' he s' x => ?_
  subst he
  refine ⟨T.nolimit.keeps x.toInCall.keep, codeAny_func ?_⟩
  obtain ⟨h₁, tk, rfl, _⟩ := x.done
  have hk₁ := x.toInCall.keep
  obtain ⟨cells, NC, Y⟩ := Cl.news (h₀ := s.heap) (Nat.le_refl _) fun n c hm => ⟨x.cell n c (lookup_of_mem_nodup (cellsFrom_names scope.names 0 (s.heap.objs.size + 1) [] [] rfl ▸ hnd) hm), x.above n c hm⟩
  exact wpAny_mono (h _ h₁ tk cells ⟨x.toInCall.ns, fun b o e => hk₁ b o e, Nat.le_refl _⟩ NC Y) (fun _ _ x => x) (fun _ _ x => x.elim)
def onlyN (b1 b2 : List Int) (k : Nat) : List Int := (List.map (fun (i : Nat) => (i : Int)) (List.range k)).filter fun n => decide (cleared n b1 = 0) && decide (cleared n b2 ≠ 0)
def onlyOf (b1 b2 : List Int) : List Int := srtW (onlyN b1 b2 16)
theorem onlyN_step (b1 b2 : List Int) (i : Nat) : onlyN b1 b2 (i + 1) = onlyN b1 b2 i ++ (if cleared (i : Int) b1 = 0 ∧ cleared (i : Int) b2 ≠ 0 then [(i : Int)] else []) := by
  unfold onlyN
  rw [List.range_succ, List.map_append, List.filter_append]
  congr 1
  by_cases h1 : cleared (i : Int) b1 = 0 <;> by_cases h2 : cleared (i : Int) b2 = 0 <;> simp [h1, h2]
theorem onlyN_nodup (b1 b2 : List Int) (k : Nat) : (onlyN b1 b2 k).Nodup := by
  unfold onlyN
  refine List.Nodup.sublist List.filter_sublist ?_
  refine List.Pairwise.map _ (fun a b (h : a ≠ b) => ?_) List.nodup_range
  exact fun e => h (by omega)
theorem only_con {w : World} {dp un : Nat} {gd : Option (List Code)} {base : Heap} {outer : List Env} {mean : ExcName → Option Value} {mg mb : Str → Option Value} {s : Shared} {Q E : Value → Shared → Prop}
    {l1 l2 : Addr} {v1 v2 : List Value} {b1 b2 : List Int}
    (C : Cx w (Ar dp un gd outer) s.heap base outer mean mg mb) (hdp : dp + 5 < recursionLimit) (hun : un + 60 < cLine)
    (hl1 : s.heap.IsList l1 v1.toArray) (i1 : IntsAre v1 b1) (hl2 : s.heap.IsList l2 v2.toArray) (i2 : IntsAre v2 b2)
    (ret : ∀ D vs c W h' tk', Keeps s.heap h' → (∀ p ∈ (D, listOf (List.toArray vs) c) :: W, h'.get? p.1 = some p.2 ∧ s.heap.get? p.1 = none) → Wd W vs (onlyOf b1 b2) → Q (.ref D) { s with heap := h', toks := tk' }) :
    wpAny (model PySem.Challenge.rw_qh0049_01.row.prog w) (Ar dp un gd outer) (call (.ref 163) [.ref l1, .ref l2]) Q E s := by
  have KX := C.X
  revert KX
  k_fill
  intro KX
  have KT := C.T
  w_on
  refine' enterC (binds := [(Str.ofString "here", .ref l1), (Str.ofString "there", .ref l2)]) KX KT ?k6 ?k7 ?k8 ?k9 ?kB ?kN ?_ ?c2 ?c3 ?c4
  (case k6 => k_is)
  (case k7 => k_is)
  (case k8 => exact Nat.lt_of_le_of_lt (Nat.le_add_right _ _) hdp)
  (case k9 => first | exact BindsTo.of_eq rfl | exact binds_K (by assumption) rfl (by k_is) rfl rfl rfl)
  (case kB => exact kindsX rfl)
  (case kN => decide)
  (case c2 => exact rfl)
  (case c3 => exact rfl)
  (case c4 => exact rfl)
  intro Lf ev Ak m0 h1 tk1 cells F N Y
  (try k_fold)
  obtain ⟨o1, o2, rfl, d1, d2⟩ := CellsAre.two Y
  have d1' : o1.data = .cell (some (.ref l2)) := d1
  have d2' : o2.data = .cell (some (.ref l1)) := d2
  clear Y d1 d2
  (try k_fold)
  iterate 6 ((try ((with_reducible show wpAny _ _ (execs _ _) _ _ _); k_gentoks)); (try ((with_reducible show wpAny _ _ (exec _ _) _ _ _); (with_reducible refine foldQ ?_); intro qx)); (first | (k_unfold; (try (first | refine wpI (P := wpAny _ _ _ _ _ ⟨_, s.gens, s.drawn, _, s.os⟩) ?_ | refine wpI (P := wpAny _ _ _ _ _ _) ?_)); (try dsimp only)) | (k_end; kc_close) | (with_reducible ((with_reducible show wpAny _ _ (call (Value.ref 151) [Value.int _ _]) _ _ _); (with_reducible rename Fr _ _ _ _ => kFq9); (with_reducible rename News _ _ _ _ => kNq9); k_dflt (refine' word_con (Cx.any (by assumption) (Fr.keep kFq9)) ?kdq8 ?kuq8 ?h0q8 ?h16q8 ?_; (case kdq8 => (first | exact room 1 hdp | exact room 2 hdp | exact room 3 hdp | exact room 4 hdp | exact room 8 hun | exact room 16 hun | exact room 24 hun | exact room 32 hun | exact room 64 hun | exact room 65 hun | exact room 2 hun | exact Nat.lt_of_le_of_lt (Nat.le_add_right _ _) hun | ((try dsimp +zetaDelta only [Ar, Around.deeper, Around.mark]); omega))); (case kuq8 => (first | exact room 1 hdp | exact room 2 hdp | exact room 3 hdp | exact room 4 hdp | exact room 8 hun | exact room 16 hun | exact room 24 hun | exact room 32 hun | exact room 64 hun | exact room 65 hun | exact room 2 hun | exact Nat.lt_of_le_of_lt (Nat.le_add_right _ _) hun | ((try dsimp +zetaDelta only [Ar, Around.deeper, Around.mark]); omega))); (case h0q8 => omega); (case h16q8 => omega)); intro aW vW cW h' tk' hk' hg' hn' iW; (have F'q9 := Fr.after kFq9 hk'); (have N'q9 := newsMore kFq9 kNq9 hk' hg' hn'); (have lW := newsNe kNq9 hn'); clear hk' hg' hn'; clear kNq9 kFq9; (try dsimp only); (try k_fold))) | (with_reducible ((with_reducible show wpAny _ _ (call (Value.ref 137) [Value.int _ _, Value.ref _]) _ _ _); (with_reducible rename Fr _ _ _ _ => kFq9); (with_reducible rename News _ _ _ _ => kNq9); k_dflt (refine' cleared_con (Cx.any (by assumption) (Fr.keep kFq9)) ?kdq8 ?kuq8 ?klq8 ?kiq8 ?_; (case kdq8 => (first | exact room 1 hdp | exact room 2 hdp | exact room 3 hdp | exact room 4 hdp | exact room 8 hun | exact room 16 hun | exact room 24 hun | exact room 32 hun | exact room 64 hun | exact room 65 hun | exact room 2 hun | exact Nat.lt_of_le_of_lt (Nat.le_add_right _ _) hun | ((try dsimp +zetaDelta only [Ar, Around.deeper, Around.mark]); omega))); (case kuq8 => (first | exact room 1 hdp | exact room 2 hdp | exact room 3 hdp | exact room 4 hdp | exact room 8 hun | exact room 16 hun | exact room 24 hun | exact room 32 hun | exact room 64 hun | exact room 65 hun | exact room 2 hun | exact Nat.lt_of_le_of_lt (Nat.le_add_right _ _) hun | ((try dsimp +zetaDelta only [Ar, Around.deeper, Around.mark]); omega))); (case klq8 => exact Fr.lst kFq9 (by assumption)); (case kiq8 => assumption)); intro t'q9 h'q9 tk'q9 hk'q9; (have F'q9 := Fr.after kFq9 hk'q9); (have N'q9 := newsKeeps kNq9 hk'q9); clear hk'q9; clear kNq9 kFq9; (try dsimp only); (try k_fold))) | ((with_reducible show wpAny _ _ (call _ [Value.bytes _ _]) _ _ _); refine call_type_of (Tx := "bytes") rfl (by decide +kernel) ?_) | (with_reducible ((with_reducible show wpAny _ _ (storeName _ _ _) _ _ _); k_dflt (refine' storeM ?Fq7 ?Nq7 ?_ ?aq7 ?bq7; (case Fq7 => k_asm); (case Nq7 => k_asm); (case aq7 => rfl); (case bq7 => rfl); k_whole; intro m'q7 h'q7 F'q7 N'q7; (try k_sweep)))) | (with_reducible ((with_reducible show wpAny _ _ (eval (PySem.Expr.Name _ _) _) _ _ _); k_dflt (refine' nameX_L ?Fq7 ?vq7 ?_ ?aq7 ?bq7; (case Fq7 => k_asm); (case aq7 => rfl); (case bq7 => rfl); (case vq7 => exact Eq.refl (some _)); k_whole))) | ((with_reducible show InvEnd _ _ _ _ _ _); ((with_reducible rename Fr _ _ _ _ => kFq7); first | ((dsimp +zetaDelta only at kFq7); (try dsimp +zetaDelta only)) | dsimp +zetaDelta only)) | ((with_reducible show InvEndG _ _ _ _ _ _); ((with_reducible rename Fr _ _ _ _ => kFq7); first | ((dsimp +zetaDelta only at kFq7); (try dsimp +zetaDelta only)) | dsimp +zetaDelta only)) | walk1 | (dsimp only; walk1) | (leave1; (try dsimp only)) | fail "no step") <;> (repeat ((fail_if_success (fail_if_success ((generalize qx = zq); (with_reducible show zq _ _)))); k_unfold; (try clear qx); (try (first | refine wpI (P := wpAny _ _ _ _ _ ⟨_, s.gens, s.drawn, _, s.os⟩) ?_ | refine wpI (P := wpAny _ _ _ _ _ _) ?_)); (try dsimp only))))
  rename Fr _ _ _ _ => F
  rename News _ _ _ _ => N
  refine LCt.ListComp_T (F₀ := F) (by with_unfolding_all rfl) (by decide) (by rfl) (by decide) (by rfl) ?_
  iterate 7 ((try ((with_reducible show wpAny _ _ (execs _ _) _ _ _); k_gentoks)); (try ((with_reducible show wpAny _ _ (exec _ _) _ _ _); (with_reducible refine foldQ ?_); intro qx)); (first | (k_unfold; (try (first | refine wpI (P := wpAny _ _ _ _ _ ⟨_, s.gens, s.drawn, _, s.os⟩) ?_ | refine wpI (P := wpAny _ _ _ _ _ _) ?_)); (try dsimp only)) | (k_end; kc_close) | (with_reducible ((with_reducible show wpAny _ _ (call (Value.ref 151) [Value.int _ _]) _ _ _); (with_reducible rename Fr _ _ _ _ => kFq9); (with_reducible rename News _ _ _ _ => kNq9); k_dflt (refine' word_con (Cx.any (by assumption) (Fr.keep kFq9)) ?kdq8 ?kuq8 ?h0q8 ?h16q8 ?_; (case kdq8 => (first | exact room 1 hdp | exact room 2 hdp | exact room 3 hdp | exact room 4 hdp | exact room 8 hun | exact room 16 hun | exact room 24 hun | exact room 32 hun | exact room 64 hun | exact room 65 hun | exact room 2 hun | exact Nat.lt_of_le_of_lt (Nat.le_add_right _ _) hun | ((try dsimp +zetaDelta only [Ar, Around.deeper, Around.mark]); omega))); (case kuq8 => (first | exact room 1 hdp | exact room 2 hdp | exact room 3 hdp | exact room 4 hdp | exact room 8 hun | exact room 16 hun | exact room 24 hun | exact room 32 hun | exact room 64 hun | exact room 65 hun | exact room 2 hun | exact Nat.lt_of_le_of_lt (Nat.le_add_right _ _) hun | ((try dsimp +zetaDelta only [Ar, Around.deeper, Around.mark]); omega))); (case h0q8 => omega); (case h16q8 => omega)); intro aW vW cW h' tk' hk' hg' hn' iW; (have F'q9 := Fr.after kFq9 hk'); (have N'q9 := newsMore kFq9 kNq9 hk' hg' hn'); (have lW := newsNe kNq9 hn'); clear hk' hg' hn'; clear kNq9 kFq9; (try dsimp only); (try k_fold))) | (with_reducible ((with_reducible show wpAny _ _ (call (Value.ref 137) [Value.int _ _, Value.ref _]) _ _ _); (with_reducible rename Fr _ _ _ _ => kFq9); (with_reducible rename News _ _ _ _ => kNq9); k_dflt (refine' cleared_con (Cx.any (by assumption) (Fr.keep kFq9)) ?kdq8 ?kuq8 ?klq8 ?kiq8 ?_; (case kdq8 => (first | exact room 1 hdp | exact room 2 hdp | exact room 3 hdp | exact room 4 hdp | exact room 8 hun | exact room 16 hun | exact room 24 hun | exact room 32 hun | exact room 64 hun | exact room 65 hun | exact room 2 hun | exact Nat.lt_of_le_of_lt (Nat.le_add_right _ _) hun | ((try dsimp +zetaDelta only [Ar, Around.deeper, Around.mark]); omega))); (case kuq8 => (first | exact room 1 hdp | exact room 2 hdp | exact room 3 hdp | exact room 4 hdp | exact room 8 hun | exact room 16 hun | exact room 24 hun | exact room 32 hun | exact room 64 hun | exact room 65 hun | exact room 2 hun | exact Nat.lt_of_le_of_lt (Nat.le_add_right _ _) hun | ((try dsimp +zetaDelta only [Ar, Around.deeper, Around.mark]); omega))); (case klq8 => exact Fr.lst kFq9 (by assumption)); (case kiq8 => assumption)); intro t'q9 h'q9 tk'q9 hk'q9; (have F'q9 := Fr.after kFq9 hk'q9); (have N'q9 := newsKeeps kNq9 hk'q9); clear hk'q9; clear kNq9 kFq9; (try dsimp only); (try k_fold))) | ((with_reducible show wpAny _ _ (call _ [Value.bytes _ _]) _ _ _); refine call_type_of (Tx := "bytes") rfl (by decide +kernel) ?_) | (with_reducible ((with_reducible show wpAny _ _ (storeName _ _ _) _ _ _); k_dflt (refine' storeM ?Fq7 ?Nq7 ?_ ?aq7 ?bq7; (case Fq7 => k_asm); (case Nq7 => k_asm); (case aq7 => rfl); (case bq7 => rfl); k_whole; intro m'q7 h'q7 F'q7 N'q7; (try k_sweep)))) | (with_reducible ((with_reducible show wpAny _ _ (eval (PySem.Expr.Name _ _) _) _ _ _); k_dflt (refine' nameX_L ?Fq7 ?vq7 ?_ ?aq7 ?bq7; (case Fq7 => k_asm); (case aq7 => rfl); (case bq7 => rfl); (case vq7 => exact Eq.refl (some _)); k_whole))) | ((with_reducible show InvEnd _ _ _ _ _ _); ((with_reducible rename Fr _ _ _ _ => kFq7); first | ((dsimp +zetaDelta only at kFq7); (try dsimp +zetaDelta only)) | dsimp +zetaDelta only)) | ((with_reducible show InvEndG _ _ _ _ _ _); ((with_reducible rename Fr _ _ _ _ => kFq7); first | ((dsimp +zetaDelta only at kFq7); (try dsimp +zetaDelta only)) | dsimp +zetaDelta only)) | walk1 | (dsimp only; walk1) | (leave1; (try dsimp only)) | fail "no step") <;> (repeat ((fail_if_success (fail_if_success ((generalize qx = zq); (with_reducible show zq _ _)))); k_unfold; (try clear qx); (try (first | refine wpI (P := wpAny _ _ _ _ _ ⟨_, s.gens, s.drawn, _, s.os⟩) ?_ | refine wpI (P := wpAny _ _ _ _ _ _) ?_)); (try dsimp only))))
  rename Fr _ _ _ _ => F
  rename News _ _ _ _ => N
  refine LCt.CompSrcT.range (n := 16) (by rfl) F N (by assumption) (by first | decide | rfl) (by first | rfl | decide) (by rw [sizeLine_eq]; decide) ?_
  intro g'
  refine compT_ind (fun i ys news => ∃ W, news = (Lf + 1 + 1, o1) :: (Lf + 1, o2) :: W ∧ Wd W ys (onlyN b1 b2 i) ∧ ys.length ≤ i) ?fin ?step 16 0 [] _ rfl ⟨[], rfl, .nil, Nat.le_refl _⟩
  case fin =>
    rintro ys news ⟨W, rfl, hW, hl⟩
    unfold LCg.FinE
    intro D h tk F N o1'
    iterate 1 ((try ((with_reducible show wpAny _ _ (execs _ _) _ _ _); k_gentoks)); (try ((with_reducible show wpAny _ _ (exec _ _) _ _ _); (with_reducible refine foldQ ?_); intro qx)); (first | (k_unfold; (try (first | refine wpI (P := wpAny _ _ _ _ _ ⟨_, s.gens, s.drawn, _, s.os⟩) ?_ | refine wpI (P := wpAny _ _ _ _ _ _) ?_)); (try dsimp only)) | (k_end; kc_close) | (with_reducible ((with_reducible show wpAny _ _ (call (Value.ref 151) [Value.int _ _]) _ _ _); (with_reducible rename Fr _ _ _ _ => kFq9); (with_reducible rename News _ _ _ _ => kNq9); k_dflt (refine' word_con (Cx.any (by assumption) (Fr.keep kFq9)) ?kdq8 ?kuq8 ?h0q8 ?h16q8 ?_; (case kdq8 => (first | exact room 1 hdp | exact room 2 hdp | exact room 3 hdp | exact room 4 hdp | exact room 8 hun | exact room 16 hun | exact room 24 hun | exact room 32 hun | exact room 64 hun | exact room 65 hun | exact room 2 hun | exact Nat.lt_of_le_of_lt (Nat.le_add_right _ _) hun | ((try dsimp +zetaDelta only [Ar, Around.deeper, Around.mark]); omega))); (case kuq8 => (first | exact room 1 hdp | exact room 2 hdp | exact room 3 hdp | exact room 4 hdp | exact room 8 hun | exact room 16 hun | exact room 24 hun | exact room 32 hun | exact room 64 hun | exact room 65 hun | exact room 2 hun | exact Nat.lt_of_le_of_lt (Nat.le_add_right _ _) hun | ((try dsimp +zetaDelta only [Ar, Around.deeper, Around.mark]); omega))); (case h0q8 => omega); (case h16q8 => omega)); intro aW vW cW h' tk' hk' hg' hn' iW; (have F'q9 := Fr.after kFq9 hk'); (have N'q9 := newsMore kFq9 kNq9 hk' hg' hn'); (have lW := newsNe kNq9 hn'); clear hk' hg' hn'; clear kNq9 kFq9; (try dsimp only); (try k_fold))) | (with_reducible ((with_reducible show wpAny _ _ (call (Value.ref 137) [Value.int _ _, Value.ref _]) _ _ _); (with_reducible rename Fr _ _ _ _ => kFq9); (with_reducible rename News _ _ _ _ => kNq9); k_dflt (refine' cleared_con (Cx.any (by assumption) (Fr.keep kFq9)) ?kdq8 ?kuq8 ?klq8 ?kiq8 ?_; (case kdq8 => (first | exact room 1 hdp | exact room 2 hdp | exact room 3 hdp | exact room 4 hdp | exact room 8 hun | exact room 16 hun | exact room 24 hun | exact room 32 hun | exact room 64 hun | exact room 65 hun | exact room 2 hun | exact Nat.lt_of_le_of_lt (Nat.le_add_right _ _) hun | ((try dsimp +zetaDelta only [Ar, Around.deeper, Around.mark]); omega))); (case kuq8 => (first | exact room 1 hdp | exact room 2 hdp | exact room 3 hdp | exact room 4 hdp | exact room 8 hun | exact room 16 hun | exact room 24 hun | exact room 32 hun | exact room 64 hun | exact room 65 hun | exact room 2 hun | exact Nat.lt_of_le_of_lt (Nat.le_add_right _ _) hun | ((try dsimp +zetaDelta only [Ar, Around.deeper, Around.mark]); omega))); (case klq8 => exact Fr.lst kFq9 (by assumption)); (case kiq8 => assumption)); intro t'q9 h'q9 tk'q9 hk'q9; (have F'q9 := Fr.after kFq9 hk'q9); (have N'q9 := newsKeeps kNq9 hk'q9); clear hk'q9; clear kNq9 kFq9; (try dsimp only); (try k_fold))) | ((with_reducible show wpAny _ _ (call _ [Value.bytes _ _]) _ _ _); refine call_type_of (Tx := "bytes") rfl (by decide +kernel) ?_) | (with_reducible ((with_reducible show wpAny _ _ (storeName _ _ _) _ _ _); k_dflt (refine' storeM ?Fq7 ?Nq7 ?_ ?aq7 ?bq7; (case Fq7 => k_asm); (case Nq7 => k_asm); (case aq7 => rfl); (case bq7 => rfl); k_whole; intro m'q7 h'q7 F'q7 N'q7; (try k_sweep)))) | (with_reducible ((with_reducible show wpAny _ _ (eval (PySem.Expr.Name _ _) _) _ _ _); k_dflt (refine' nameX_L ?Fq7 ?vq7 ?_ ?aq7 ?bq7; (case Fq7 => k_asm); (case aq7 => rfl); (case bq7 => rfl); (case vq7 => exact Eq.refl (some _)); k_whole))) | ((with_reducible show InvEnd _ _ _ _ _ _); ((with_reducible rename Fr _ _ _ _ => kFq7); first | ((dsimp +zetaDelta only at kFq7); (try dsimp +zetaDelta only)) | dsimp +zetaDelta only)) | ((with_reducible show InvEndG _ _ _ _ _ _); ((with_reducible rename Fr _ _ _ _ => kFq7); first | ((dsimp +zetaDelta only at kFq7); (try dsimp +zetaDelta only)) | dsimp +zetaDelta only)) | walk1 | (dsimp only; walk1) | (leave1; (try dsimp only)) | fail "no step") <;> (repeat ((fail_if_success (fail_if_success ((generalize qx = zq); (with_reducible show zq _ _)))); k_unfold; (try clear qx); (try (first | refine wpI (P := wpAny _ _ _ _ _ ⟨_, s.gens, s.drawn, _, s.os⟩) ?_ | refine wpI (P := wpAny _ _ _ _ _ _) ?_)); (try dsimp only))))
    refine sortedW F N ⟨_, (N _ (.head _)).1, rfl, _, rfl⟩ (fun h' F' N' => hW.toH (fun p hp => (N' p (.tail _ (.tail _ (.tail _ hp)))).1)) (onlyN_nodup _ _ _) (by omega) (by (first | exact room 1 hdp | exact room 2 hdp | exact room 3 hdp | exact room 4 hdp | exact room 8 hun | exact room 16 hun | exact room 24 hun | exact room 32 hun | exact room 64 hun | exact room 65 hun | exact room 2 hun | exact Nat.lt_of_le_of_lt (Nat.le_add_right _ _) hun | ((try dsimp +zetaDelta only [Ar, Around.deeper, Around.mark]); omega))) ?_
    rintro D2 vs' c2 h2 F2 N2 lt2 ⟨p, hp, rfl, e2⟩
    (repeat' ((try ((with_reducible show wpAny _ _ (execs _ _) _ _ _); k_gentoks)); (try ((with_reducible show wpAny _ _ (exec _ _) _ _ _); (with_reducible refine foldQ ?_); intro qx)); (first | (k_unfold; (try (first | refine wpI (P := wpAny _ _ _ _ _ ⟨_, s.gens, s.drawn, _, s.os⟩) ?_ | refine wpI (P := wpAny _ _ _ _ _ _) ?_)); (try dsimp only)) | (k_end; wrow_close) | (with_reducible ((with_reducible show wpAny _ _ (call (Value.ref 151) [Value.int _ _]) _ _ _); (with_reducible rename Fr _ _ _ _ => kFq9); (with_reducible rename News _ _ _ _ => kNq9); k_dflt (refine' word_con (Cx.any (by assumption) (Fr.keep kFq9)) ?kdq8 ?kuq8 ?h0q8 ?h16q8 ?_; (case kdq8 => (first | exact room 1 hdp | exact room 2 hdp | exact room 3 hdp | exact room 4 hdp | exact room 8 hun | exact room 16 hun | exact room 24 hun | exact room 32 hun | exact room 64 hun | exact room 65 hun | exact room 2 hun | exact Nat.lt_of_le_of_lt (Nat.le_add_right _ _) hun | ((try dsimp +zetaDelta only [Ar, Around.deeper, Around.mark]); omega))); (case kuq8 => (first | exact room 1 hdp | exact room 2 hdp | exact room 3 hdp | exact room 4 hdp | exact room 8 hun | exact room 16 hun | exact room 24 hun | exact room 32 hun | exact room 64 hun | exact room 65 hun | exact room 2 hun | exact Nat.lt_of_le_of_lt (Nat.le_add_right _ _) hun | ((try dsimp +zetaDelta only [Ar, Around.deeper, Around.mark]); omega))); (case h0q8 => omega); (case h16q8 => omega)); intro aW vW cW h' tk' hk' hg' hn' iW; (have F'q9 := Fr.after kFq9 hk'); (have N'q9 := newsMore kFq9 kNq9 hk' hg' hn'); (have lW := newsNe kNq9 hn'); clear hk' hg' hn'; clear kNq9 kFq9; (try dsimp only); (try k_fold))) | (with_reducible ((with_reducible show wpAny _ _ (call (Value.ref 137) [Value.int _ _, Value.ref _]) _ _ _); (with_reducible rename Fr _ _ _ _ => kFq9); (with_reducible rename News _ _ _ _ => kNq9); k_dflt (refine' cleared_con (Cx.any (by assumption) (Fr.keep kFq9)) ?kdq8 ?kuq8 ?klq8 ?kiq8 ?_; (case kdq8 => (first | exact room 1 hdp | exact room 2 hdp | exact room 3 hdp | exact room 4 hdp | exact room 8 hun | exact room 16 hun | exact room 24 hun | exact room 32 hun | exact room 64 hun | exact room 65 hun | exact room 2 hun | exact Nat.lt_of_le_of_lt (Nat.le_add_right _ _) hun | ((try dsimp +zetaDelta only [Ar, Around.deeper, Around.mark]); omega))); (case kuq8 => (first | exact room 1 hdp | exact room 2 hdp | exact room 3 hdp | exact room 4 hdp | exact room 8 hun | exact room 16 hun | exact room 24 hun | exact room 32 hun | exact room 64 hun | exact room 65 hun | exact room 2 hun | exact Nat.lt_of_le_of_lt (Nat.le_add_right _ _) hun | ((try dsimp +zetaDelta only [Ar, Around.deeper, Around.mark]); omega))); (case klq8 => exact Fr.lst kFq9 (by assumption)); (case kiq8 => assumption)); intro t'q9 h'q9 tk'q9 hk'q9; (have F'q9 := Fr.after kFq9 hk'q9); (have N'q9 := newsKeeps kNq9 hk'q9); clear hk'q9; clear kNq9 kFq9; (try dsimp only); (try k_fold))) | ((with_reducible show wpAny _ _ (call _ [Value.bytes _ _]) _ _ _); refine call_type_of (Tx := "bytes") rfl (by decide +kernel) ?_) | (with_reducible ((with_reducible show wpAny _ _ (storeName _ _ _) _ _ _); k_dflt (refine' storeM ?Fq7 ?Nq7 ?_ ?aq7 ?bq7; (case Fq7 => k_asm); (case Nq7 => k_asm); (case aq7 => rfl); (case bq7 => rfl); k_whole; intro m'q7 h'q7 F'q7 N'q7; (try k_sweep)))) | (with_reducible ((with_reducible show wpAny _ _ (eval (PySem.Expr.Name _ _) _) _ _ _); k_dflt (refine' nameX_L ?Fq7 ?vq7 ?_ ?aq7 ?bq7; (case Fq7 => k_asm); (case aq7 => rfl); (case bq7 => rfl); (case vq7 => exact Eq.refl (some _)); k_whole))) | ((with_reducible show InvEnd _ _ _ _ _ _); ((with_reducible rename Fr _ _ _ _ => kFq7); first | ((dsimp +zetaDelta only at kFq7); (try dsimp +zetaDelta only)) | dsimp +zetaDelta only)) | ((with_reducible show InvEndG _ _ _ _ _ _); ((with_reducible rename Fr _ _ _ _ => kFq7); first | ((dsimp +zetaDelta only at kFq7); (try dsimp +zetaDelta only)) | dsimp +zetaDelta only)) | walk1 | (dsimp only; walk1) | (leave1; (try dsimp only)) | fail "no step") <;> (repeat ((fail_if_success (fail_if_success ((generalize qx = zq); (with_reducible show zq _ _)))); k_unfold; (try clear qx); (try (first | refine wpI (P := wpAny _ _ _ _ _ ⟨_, s.gens, s.drawn, _, s.os⟩) ?_ | refine wpI (P := wpAny _ _ _ _ _ _) ?_)); (try dsimp only)))))
    rename Fr _ _ _ _ => F
    rename News _ _ _ _ => N
    refine ret _ _ c2 W _ _ F.keep (fun q hq => ?_) (by unfold onlyOf; rw [e2]; exact hW.pick hp)
    rcases List.mem_cons.mp hq with rfl | hq
    · exact ⟨(N _ (.head _)).1, (N _ (.head _)).2.2⟩
    · have z := N q (.tail _ (.tail _ (.tail _ (.tail _ hq))))
      exact ⟨z.1, z.2.2⟩
  case step =>
    rintro i ys news hi ⟨W, rfl, hW, hl⟩ v I oI C' oC D m2 h tk E' ⟨t, rfl⟩ hC hx F N off ne
    rw [Int.zero_add] at *
    (repeat' ((try ((with_reducible show wpAny _ _ (execs _ _) _ _ _); k_gentoks)); (try ((with_reducible show wpAny _ _ (exec _ _) _ _ _); (with_reducible refine foldQ ?_); intro qx)); (first | (k_unfold; (try (first | refine wpI (P := wpAny _ _ _ _ _ ⟨_, s.gens, s.drawn, _, s.os⟩) ?_ | refine wpI (P := wpAny _ _ _ _ _ _) ?_)); (try dsimp only)) | (k_end; wrow_close) | (with_reducible ((with_reducible show wpAny _ _ (call (Value.ref 151) [Value.int _ _]) _ _ _); (with_reducible rename Fr _ _ _ _ => kFq9); (with_reducible rename News _ _ _ _ => kNq9); k_dflt (refine' word_con (Cx.any (by assumption) (Fr.keep kFq9)) ?kdq8 ?kuq8 ?h0q8 ?h16q8 ?_; (case kdq8 => (first | exact room 1 hdp | exact room 2 hdp | exact room 3 hdp | exact room 4 hdp | exact room 8 hun | exact room 16 hun | exact room 24 hun | exact room 32 hun | exact room 64 hun | exact room 65 hun | exact room 2 hun | exact Nat.lt_of_le_of_lt (Nat.le_add_right _ _) hun | ((try dsimp +zetaDelta only [Ar, Around.deeper, Around.mark]); omega))); (case kuq8 => (first | exact room 1 hdp | exact room 2 hdp | exact room 3 hdp | exact room 4 hdp | exact room 8 hun | exact room 16 hun | exact room 24 hun | exact room 32 hun | exact room 64 hun | exact room 65 hun | exact room 2 hun | exact Nat.lt_of_le_of_lt (Nat.le_add_right _ _) hun | ((try dsimp +zetaDelta only [Ar, Around.deeper, Around.mark]); omega))); (case h0q8 => omega); (case h16q8 => omega)); intro aW vW cW h' tk' hk' hg' hn' iW; (have F'q9 := Fr.after kFq9 hk'); (have N'q9 := newsMore kFq9 kNq9 hk' hg' hn'); (have lW := newsNe kNq9 hn'); clear hk' hg' hn'; clear kNq9 kFq9; (try dsimp only); (try k_fold))) | (with_reducible ((with_reducible show wpAny _ _ (call (Value.ref 137) [Value.int _ _, Value.ref _]) _ _ _); (with_reducible rename Fr _ _ _ _ => kFq9); (with_reducible rename News _ _ _ _ => kNq9); k_dflt (refine' cleared_con (Cx.any (by assumption) (Fr.keep kFq9)) ?kdq8 ?kuq8 ?klq8 ?kiq8 ?_; (case kdq8 => (first | exact room 1 hdp | exact room 2 hdp | exact room 3 hdp | exact room 4 hdp | exact room 8 hun | exact room 16 hun | exact room 24 hun | exact room 32 hun | exact room 64 hun | exact room 65 hun | exact room 2 hun | exact Nat.lt_of_le_of_lt (Nat.le_add_right _ _) hun | ((try dsimp +zetaDelta only [Ar, Around.deeper, Around.mark]); omega))); (case kuq8 => (first | exact room 1 hdp | exact room 2 hdp | exact room 3 hdp | exact room 4 hdp | exact room 8 hun | exact room 16 hun | exact room 24 hun | exact room 32 hun | exact room 64 hun | exact room 65 hun | exact room 2 hun | exact Nat.lt_of_le_of_lt (Nat.le_add_right _ _) hun | ((try dsimp +zetaDelta only [Ar, Around.deeper, Around.mark]); omega))); (case klq8 => exact Fr.lst kFq9 (by assumption)); (case kiq8 => assumption)); intro t'q9 h'q9 tk'q9 hk'q9; (have F'q9 := Fr.after kFq9 hk'q9); (have N'q9 := newsKeeps kNq9 hk'q9); clear hk'q9; clear kNq9 kFq9; (try dsimp only); (try k_fold))) | ((with_reducible show wpAny _ _ (call _ [Value.bytes _ _]) _ _ _); refine call_type_of (Tx := "bytes") rfl (by decide +kernel) ?_) | (with_reducible ((with_reducible show wpAny _ _ (storeName _ _ _) _ _ _); k_dflt (refine' storeM ?Fq7 ?Nq7 ?_ ?aq7 ?bq7; (case Fq7 => k_asm); (case Nq7 => k_asm); (case aq7 => rfl); (case bq7 => rfl); k_whole; intro m'q7 h'q7 F'q7 N'q7; (try k_sweep)))) | (with_reducible ((with_reducible show wpAny _ _ (eval (PySem.Expr.Name _ _) _) _ _ _); k_dflt (refine' nameX_L ?Fq7 ?vq7 ?_ ?aq7 ?bq7; (case Fq7 => k_asm); (case aq7 => rfl); (case bq7 => rfl); (case vq7 => exact Eq.refl (some _)); k_whole))) | ((with_reducible show InvEnd _ _ _ _ _ _); ((with_reducible rename Fr _ _ _ _ => kFq7); first | ((dsimp +zetaDelta only at kFq7); (try dsimp +zetaDelta only)) | dsimp +zetaDelta only)) | ((with_reducible show InvEndG _ _ _ _ _ _); ((with_reducible rename Fr _ _ _ _ => kFq7); first | ((dsimp +zetaDelta only at kFq7); (try dsimp +zetaDelta only)) | dsimp +zetaDelta only)) | walk1 | (dsimp only; walk1) | (leave1; (try dsimp only)) | fail "no step") <;> (repeat ((fail_if_success (fail_if_success ((generalize qx = zq); (with_reducible show zq _ _)))); k_unfold; (try clear qx); (try (first | refine wpI (P := wpAny _ _ _ _ _ ⟨_, s.gens, s.drawn, _, s.os⟩) ?_ | refine wpI (P := wpAny _ _ _ _ _ _) ?_)); (try dsimp only)))))
    · rename Fr _ _ _ _ => F
      rename News _ _ _ _ => N
      refine LCg.CompEnd.intro F N ((Lf + 1 + 1, o1) :: (Lf + 1, o2) :: (aW, listOf (List.toArray vW) cW) :: W) ?sub ⟨off.1, off.2.1, ⟨Ne.symm (lW (I, oI) (.head _)), Ne.symm (lW (C', oC) (.tail _ (.head _))), Ne.symm (lW (D, LCg.lst ys) (.tail _ (.tail _ (.head _))))⟩, off.2.2⟩ trivial ⟨(aW, listOf (List.toArray vW) cW) :: W, rfl, ?W, ?len⟩
      case sub =>
        intro p hp
        simp only [List.mem_cons] at hp ⊢
        rcases hp with h | h | h | h | h | h | h <;> simp [h]
      case W =>
        rw [onlyN_step, if_pos ⟨by assumption, by assumption⟩]
        exact (hW.mono fun p hp => .tail _ hp).append (.cons (.head _) iW (by omega) (by omega) .nil)
      case len => rw [List.length_append, List.length_singleton]; omega
    · rename Fr _ _ _ _ => F
      rename News _ _ _ _ => N
      rename cleared _ b2 = 0 => hz
      refine LCg.CompEnd.intro F N ((Lf + 1 + 1, o1) :: (Lf + 1, o2) :: W) (fun p hp => hp) off trivial ⟨W, rfl, ?w2, by omega⟩
      rw [onlyN_step, if_neg (fun q => q.2 hz), List.append_nil]
      exact hW
    · rename Fr _ _ _ _ => F
      rename News _ _ _ _ => N
      rename cleared _ b1 ≠ 0 => hz
      refine LCg.CompEnd.intro F N ((Lf + 1 + 1, o1) :: (Lf + 1, o2) :: W) (fun p hp => hp) off trivial ⟨W, rfl, ?w3, by omega⟩
      rw [onlyN_step, if_neg (fun q => hz q.1), List.append_nil]
      exact hW

end Mine
end
section
open PySem PySem.W PyProof.Rows
set_option linter.unusedVariables false
namespace Mine
abbrev xr (a b : Int) : Int := Builtin.bitXor a b
abbrev I16 (a : Int) : Prop := 0 ≤ a ∧ a < 16
def fr (r row : Int) : Int := if xr r row < r then xr r row else r
theorem fin16 {P : Int → Prop} (h : ∀ a : _root_.Fin 16, P ((a.val : Nat) : Int)) {a : Int} (ha : I16 a) : P a := by
  have e : ((a.toNat : Nat) : Int) = a := by omega
  have := h ⟨a.toNat, by omega⟩
  simpa only [e] using this
theorem xr_facts : ∀ a b : _root_.Fin 16, I16 (xr ((a.val : Nat) : Int) ((b.val : Nat) : Int)) ∧ xr ((a.val : Nat) : Int) ((b.val : Nat) : Int) = xr ((b.val : Nat) : Int) ((a.val : Nat) : Int) ∧
    xr ((a.val : Nat) : Int) ((a.val : Nat) : Int) = 0 ∧ xr ((a.val : Nat) : Int) 0 = ((a.val : Nat) : Int) ∧ xr 0 ((a.val : Nat) : Int) = ((a.val : Nat) : Int) ∧ (xr ((a.val : Nat) : Int) ((b.val : Nat) : Int) = 0 → a = b) ∧
    I16 (fr ((a.val : Nat) : Int) ((b.val : Nat) : Int)) ∧ fr (fr ((a.val : Nat) : Int) ((b.val : Nat) : Int)) ((b.val : Nat) : Int) = fr ((a.val : Nat) : Int) ((b.val : Nat) : Int) ∧
    (fr ((a.val : Nat) : Int) ((b.val : Nat) : Int) = 0 ↔ (a = 0 ∨ a = b)) ∧ (fr ((a.val : Nat) : Int) ((b.val : Nat) : Int) = ((a.val : Nat) : Int) ∨ fr ((a.val : Nat) : Int) ((b.val : Nat) : Int) = xr ((a.val : Nat) : Int) ((b.val : Nat) : Int)) := by decide +kernel
theorem xr_assoc_all : ∀ a b c : _root_.Fin 16, xr (xr ((a.val : Nat) : Int) ((b.val : Nat) : Int)) ((c.val : Nat) : Int) = xr ((a.val : Nat) : Int) (xr ((b.val : Nat) : Int) ((c.val : Nat) : Int)) := by decide +kernel
theorem fr_lin_all : ∀ a b c : _root_.Fin 16, fr (xr ((a.val : Nat) : Int) ((b.val : Nat) : Int)) ((c.val : Nat) : Int) = xr (fr ((a.val : Nat) : Int) ((c.val : Nat) : Int)) (fr ((b.val : Nat) : Int) ((c.val : Nat) : Int)) := by decide +kernel
section
variable {a b c : Int}
theorem xr_in (ha : I16 a) (hb : I16 b) : I16 (xr a b) := fin16 (P := fun a => I16 (xr a b)) (fun a => fin16 (P := fun b => I16 (xr _ b)) (fun b => (xr_facts a b).1) hb) ha
theorem xr_comm (ha : I16 a) (hb : I16 b) : xr a b = xr b a := fin16 (P := fun a => xr a b = xr b a) (fun a => fin16 (P := fun b => xr _ b = xr b _) (fun b => (xr_facts a b).2.1) hb) ha
theorem xr_self (ha : I16 a) : xr a a = 0 := fin16 (P := fun a => xr a a = 0) (fun a => (xr_facts a a).2.2.1) ha
theorem xr_zero (ha : I16 a) : xr a 0 = a := fin16 (P := fun a => xr a 0 = a) (fun a => (xr_facts a a).2.2.2.1) ha
theorem zero_xr (ha : I16 a) : xr 0 a = a := fin16 (P := fun a => xr 0 a = a) (fun a => (xr_facts a a).2.2.2.2.1) ha
theorem xr_eq0 (ha : I16 a) (hb : I16 b) : xr a b = 0 → a = b := fin16 (P := fun a => xr a b = 0 → a = b) (fun a => fin16 (P := fun b => xr _ b = 0 → _ = b) (fun b h => by rw [(xr_facts a b).2.2.2.2.2.1 h]) hb) ha
theorem fr_in (ha : I16 a) (hb : I16 b) : I16 (fr a b) := fin16 (P := fun a => I16 (fr a b)) (fun a => fin16 (P := fun b => I16 (fr _ b)) (fun b => (xr_facts a b).2.2.2.2.2.2.1) hb) ha
theorem fr_idem (ha : I16 a) (hb : I16 b) : fr (fr a b) b = fr a b := fin16 (P := fun a => fr (fr a b) b = fr a b) (fun a => fin16 (P := fun b => fr (fr _ b) b = fr _ b) (fun b => (xr_facts a b).2.2.2.2.2.2.2.1) hb) ha
theorem fr_zero (ha : I16 a) (hb : I16 b) : fr a b = 0 ↔ a = 0 ∨ a = b := fin16 (P := fun a => fr a b = 0 ↔ a = 0 ∨ a = b) (fun a => fin16 (P := fun b => fr _ b = 0 ↔ _ = 0 ∨ _ = b) (fun b => by
  rw [(xr_facts a b).2.2.2.2.2.2.2.2.1]
  constructor
  · rintro (h | h)
    · left; rw [h]; rfl
    · right; rw [h]
  · rintro (h | h)
    · left; exact Fin.ext (by have : (a.val : Int) = 0 := h; show a.val = 0; omega)
    · right; exact Fin.ext (by omega)) hb) ha
theorem fr_or (ha : I16 a) (hb : I16 b) : fr a b = a ∨ fr a b = xr a b := fin16 (P := fun a => fr a b = a ∨ fr a b = xr a b) (fun a => fin16 (P := fun b => fr _ b = _ ∨ fr _ b = xr _ b) (fun b => (xr_facts a b).2.2.2.2.2.2.2.2.2) hb) ha
theorem xr_assoc (ha : I16 a) (hb : I16 b) (hc : I16 c) : xr (xr a b) c = xr a (xr b c) := fin16 (P := fun a => xr (xr a b) c = xr a (xr b c)) (fun a => fin16 (P := fun b => xr (xr _ b) c = xr _ (xr b c)) (fun b => fin16 (P := fun c => xr (xr _ _) c = xr _ (xr _ c)) (fun c => xr_assoc_all a b c) hc) hb) ha
theorem fr_lin (ha : I16 a) (hb : I16 b) (hc : I16 c) : fr (xr a b) c = xr (fr a c) (fr b c) := fin16 (P := fun a => fr (xr a b) c = xr (fr a c) (fr b c)) (fun a => fin16 (P := fun b => fr (xr _ b) c = xr (fr _ c) (fr b c)) (fun b => fin16 (P := fun c => fr (xr _ _) c = xr (fr _ c) (fr _ c)) (fun c => fr_lin_all a b c) hc) hb) ha
theorem xr_back (ha : I16 a) (hb : I16 b) : xr (xr a b) b = a := by rw [xr_assoc ha hb hb, xr_self hb, xr_zero ha]
end
end Mine
end
section
open PySem PySem.W PyProof.Rows
set_option linter.unusedVariables false
namespace Mine
abbrev Z (b : List Int) (n : Int) : Prop := cleared n b = 0
def All16 (b : List Int) : Prop := ∀ n ∈ b, I16 n
theorem cl_nil (n : Int) : cleared n [] = n := rfl
theorem cl_snoc (n c : Int) (b : List Int) : cleared n (b ++ [c]) = fr (cleared n b) c := by
  unfold cleared; rw [List.foldl_append]; rfl
theorem cl_cons (n c : Int) (b : List Int) : cleared n (c :: b) = cleared (fr n c) b := rfl
theorem cl_in : ∀ {b : List Int} {n : Int}, All16 b → I16 n → I16 (cleared n b)
  | [], _, _, h => h
  | c :: b, n, hb, h => by
    rw [cl_cons]
    exact cl_in (b := b) (fun m hm => hb m (.tail _ hm)) (fr_in h (hb c (.head _)))
theorem cl_lin : ∀ {b : List Int} {n m : Int}, All16 b → I16 n → I16 m → cleared (xr n m) b = xr (cleared n b) (cleared m b)
  | [], _, _, _, _, _ => rfl
  | c :: b, n, m, hb, h, h' => by
    have hc := hb c (.head _)
    rw [cl_cons, cl_cons, cl_cons, fr_lin h h' hc]
    exact cl_lin (b := b) (fun m hm => hb m (.tail _ hm)) (fr_in h hc) (fr_in h' hc)
structure Good (b : List Int) : Prop where
  all : All16 b
  idem : ∀ n, I16 n → cleared (cleared n b) b = cleared n b
def stepB (b : List Int) (n : Int) : List Int := if cleared n b = 0 then b else b ++ [cleared n b]
theorem good_nil : Good [] := ⟨fun _ h => (List.not_mem_nil h).elim, fun _ _ => rfl⟩
theorem good_step {b : List Int} {n : Int} (g : Good b) (h : I16 n) : Good (stepB b n) := by
  unfold stepB
  split
  · exact g
  have hc := cl_in g.all h
  refine ⟨fun m hm => ?_, fun m hm => ?_⟩
  · rcases List.mem_append.mp hm with hm | hm
    · exact g.all m hm
    · rw [List.mem_singleton.mp hm]; exact hc
  · have hm' := cl_in g.all hm
    rw [cl_snoc m, cl_snoc]
    have : cleared (fr (cleared m b) (cleared n b)) b = fr (cleared m b) (cleared n b) := by
      rcases fr_or hm' hc with e | e
      · rw [e, g.idem m hm]
      · rw [e, cl_lin g.all hm' hc, g.idem m hm, g.idem n h]
    rw [this, fr_idem hm' hc]
theorem I0 : I16 0 := ⟨by decide, by decide⟩
theorem Z0 {b : List Int} (g : Good b) : Z b 0 := by
  have := cl_lin g.all I0 I0
  rw [show xr 0 0 = 0 from by decide +kernel, xr_self (cl_in g.all I0)] at this
  exact this
theorem Z_xr {b : List Int} {n m : Int} (g : Good b) (hn : I16 n) (hm : I16 m) (z : Z b n) (z' : Z b m) : Z b (xr n m) := by
  show cleared _ _ = 0
  rw [cl_lin g.all hn hm, z, z']; decide +kernel
theorem Z_eq {b : List Int} {n m : Int} (g : Good b) (hn : I16 n) (hm : I16 m) : Z b (xr n m) ↔ cleared n b = cleared m b := by
  show cleared _ _ = 0 ↔ _
  rw [cl_lin g.all hn hm]
  have h1 := cl_in g.all hn
  have h2 := cl_in g.all hm
  exact ⟨xr_eq0 h1 h2, fun e => by rw [e, xr_self h2]⟩
theorem Z_iff {b : List Int} {n m : Int} (g : Good b) (hn : I16 n) (hm : I16 m) (z : Z b m) : Z b (xr n m) ↔ Z b n := by
  rw [Z_eq g hn hm, z]
theorem Z_step {b : List Int} {n a : Int} (g : Good b) (hn : I16 n) (ha : I16 a) : Z (stepB b a) n ↔ Z b n ∨ Z b (xr n a) := by
  unfold stepB
  split
  · rename_i z
    rw [Z_iff g hn ha z, or_self]
  · rename_i z
    rw [Z_eq g hn ha]
    show cleared _ _ = 0 ↔ _
    rw [cl_snoc, fr_zero (cl_in g.all hn) (cl_in g.all ha)]
def R16 : List Int := [0, 1, 2, 3, 4, 5, 6, 7, 8, 9, 10, 11, 12, 13, 14, 15]
theorem R16_mem {n : Int} : n ∈ R16 ↔ I16 n :=
  ⟨(by decide +kernel : ∀ n ∈ R16, I16 n) n, fun h => fin16 (P := fun n => n ∈ R16) (by decide +kernel) h⟩
theorem R16_perm_all : ∀ a : _root_.Fin 16, (R16.map (fun n => xr n ((a.val : Nat) : Int))).Perm R16 := by decide +kernel
theorem R16_perm {a : Int} (h : I16 a) : (R16.map (fun n => xr n a)).Perm R16 := fin16 (P := fun a => (R16.map (fun n => xr n a)).Perm R16) R16_perm_all h
theorem ord_perm : ordW.Perm R16 := by decide +kernel
noncomputable def cnt (P : Int → Prop) : Nat := by classical exact R16.countP (fun n => decide (P n))
theorem cnt_congr {P Q : Int → Prop} (h : ∀ n, I16 n → (P n ↔ Q n)) : cnt P = cnt Q := by
  classical
  unfold cnt
  refine List.countP_congr fun n hn => ?_
  simp only [decide_eq_true_eq]
  exact h n (R16_mem.mp hn)
theorem cnt_shift {P : Int → Prop} {a : Int} (h : I16 a) : cnt (fun n => P (xr n a)) = cnt P := by
  classical
  unfold cnt
  have := (R16_perm h).countP_eq (fun n => decide (P n))
  rw [List.countP_map] at this
  exact this
theorem countP_or (P Q : Int → Bool) : ∀ l : List Int, (∀ n ∈ l, ¬ (P n = true ∧ Q n = true)) → l.countP (fun n => P n || Q n) = l.countP P + l.countP Q
  | [], _ => rfl
  | a :: l, h => by
    have ih := countP_or P Q l (fun n hn => h n (.tail _ hn))
    have ha := h a (.head _)
    simp only [List.countP_cons, ih]
    cases e : P a <;> cases e' : Q a <;> simp [e, e'] at ha ⊢ <;> omega
theorem cnt_or {P Q : Int → Prop} (h : ∀ n, I16 n → ¬ (P n ∧ Q n)) : cnt (fun n => P n ∨ Q n) = cnt P + cnt Q := by
  classical
  unfold cnt
  rw [← countP_or]
  · refine List.countP_congr fun n hn => ?_
    simp
  · intro n hn
    simpa using h n (R16_mem.mp hn)
theorem cnt_mono {P Q : Int → Prop} (h : ∀ n, I16 n → P n → Q n) : cnt P ≤ cnt Q := by
  have e : cnt Q = cnt P + cnt (fun n => Q n ∧ ¬ P n) := by
    rw [← cnt_or (fun n _ z => z.2.2 z.1)]
    refine cnt_congr fun n hn => ?_
    have := h n hn
    by_cases p : P n <;> simp_all
  omega
theorem cnt_eq {P Q : Int → Prop} (h : ∀ n, I16 n → P n → Q n) (e : cnt P = cnt Q) : ∀ n, I16 n → Q n → P n := by
  have e' : cnt Q = cnt P + cnt (fun n => Q n ∧ ¬ P n) := by
    rw [← cnt_or (fun n _ z => z.2.2 z.1)]
    refine cnt_congr fun n hn => ?_
    have := h n hn
    by_cases p : P n <;> simp_all
  have z : cnt (fun n => Q n ∧ ¬ P n) = 0 := by omega
  intro n hn q
  classical
  unfold cnt at z
  rw [List.countP_eq_zero] at z
  have := z n (R16_mem.mpr hn)
  by_cases p : P n
  · exact p
  · simp [p, q] at this
theorem cnt_one : cnt (Z []) = 1 := by
  classical
  unfold cnt
  have : R16.countP (fun n => decide (n = 0)) = 1 := by decide +kernel
  rw [← this]
  refine List.countP_congr fun n hn => ?_
  simp only [decide_eq_true_eq]
  exact Iff.rfl
theorem cnt_step {b : List Int} {a : Int} (g : Good b) (ha : I16 a) (z : ¬ Z b a) : cnt (Z (stepB b a)) = 2 * cnt (Z b) := by
  rw [cnt_congr (Q := fun n => Z b n ∨ Z b (xr n a)) (fun n hn => Z_step g hn ha), cnt_or, cnt_shift (P := Z b) ha]
  · omega
  · rintro n hn ⟨h1, h2⟩
    rw [Z_eq g hn ha, h1] at h2
    exact z h2.symm
theorem len_step {b : List Int} {a : Int} : (stepB b a).length = if Z b a then b.length else b.length + 1 := by
  unfold stepB
  split <;> simp
theorem basis_snoc (x : List Int) (a : Int) : basisOf (x ++ [a]) = stepB (basisOf x) a := by
  unfold basisOf stepB
  rw [List.foldl_append]
  rfl
theorem sums_snoc (x : List Int) (a : Int) : sumsOf (x ++ [a]) = sumsOf x ++ (sumsOf x).map (fun m => xr a m) := by
  unfold sumsOf
  rw [List.foldl_append]
  rfl
theorem snocInd {P : List Int → Prop} (h0 : P []) (hs : ∀ x a, All16 x → I16 a → P x → P (x ++ [a])) : ∀ x, All16 x → P x := by
  intro x hx
  have : ∀ r : List Int, All16 r → P r.reverse := by
    intro r
    induction r with
    | nil => exact fun _ => h0
    | cons a r ih =>
      intro h
      rw [List.reverse_cons]
      exact hs _ _ (fun n hn => h n (.tail _ (List.mem_reverse.mp hn))) (h a (.head _)) (ih fun n hn => h n (.tail _ hn))
  have := this x.reverse (fun n hn => hx n (List.mem_reverse.mp hn))
  rwa [List.reverse_reverse] at this
theorem good_basis : ∀ x, All16 x → Good (basisOf x) := snocInd good_nil fun x a hx ha g => by
  rw [basis_snoc]; exact good_step g ha
theorem cnt_basis : ∀ x, All16 x → cnt (Z (basisOf x)) = 2 ^ (basisOf x).length := snocInd cnt_one fun x a hx ha ih => by
  rw [basis_snoc]
  by_cases z : Z (basisOf x) a
  · unfold stepB; rw [if_pos z]; exact ih
  · rw [cnt_step (good_basis x hx) ha z, len_step, if_neg z, ih, Nat.pow_succ]; omega
theorem sums_in : ∀ x, All16 x → All16 (sumsOf x) := snocInd (fun n hn => by
  have : n = 0 := List.mem_singleton.mp hn
  rw [this]; exact I0) fun x a hx ha ih => by
  rw [sums_snoc]
  intro n hn
  rcases List.mem_append.mp hn with hn | hn
  · exact ih n hn
  · obtain ⟨m, hm, rfl⟩ := List.mem_map.mp hn
    exact xr_in ha (ih m hm)
theorem count_xr {a m : Int} (ha : I16 a) (hm : I16 m) : ∀ l, All16 l → (l.map (fun n => xr a n)).count m = l.count (xr a m)
  | [], _ => rfl
  | n :: l, h => by
    have hn := h n (.head _)
    have ih := count_xr ha hm l (fun n hn => h n (.tail _ hn))
    have e : (xr a n = m) ↔ (n = xr a m) := by
      constructor
      · intro e; rw [← e, ← xr_assoc ha ha hn, xr_self ha, zero_xr hn]
      · intro e; rw [e, ← xr_assoc ha ha hm, xr_self ha, zero_xr hm]
    simp only [List.map_cons, List.count_cons, ih, beq_iff_eq, e]
theorem count_sums : ∀ x, All16 x → ∀ n, I16 n → ((Z (basisOf x) n → (sumsOf x).count n * 2 ^ (basisOf x).length = 2 ^ x.length) ∧ (¬ Z (basisOf x) n → (sumsOf x).count n = 0)) :=
  snocInd (fun n hn => by
    have e : sumsOf [] = [0] := rfl
    have e' : basisOf [] = [] := rfl
    rw [e, e']
    refine ⟨fun z => ?_, fun z => ?_⟩
    · have : n = 0 := z
      rw [this]; rfl
    · refine List.count_eq_zero.mpr fun hm => z ?_
      exact List.mem_singleton.mp hm) fun x a hx ha ih n hn => by
  have g := good_basis x hx
  have hna := xr_in ha hn
  have e : xr a n = xr n a := xr_comm ha hn
  rw [basis_snoc, sums_snoc, List.count_append, count_xr ha hn _ (sums_in x hx), Z_step g hn ha, len_step, List.length_append, List.length_singleton, e]
  rw [e] at hna
  have i1 := ih n hn
  have i2 := ih (xr n a) hna
  by_cases z : Z (basisOf x) a
  · rw [if_pos z]
    rw [Z_iff g hn ha z] at i2 ⊢
    rw [or_self]
    refine ⟨fun q => ?_, fun q => ?_⟩
    · rw [Nat.add_mul, i1.1 q, i2.1 q, Nat.pow_succ]; omega
    · rw [i1.2 q, i2.2 q]
  · rw [if_neg z]
    refine ⟨fun q => ?_, fun q => ?_⟩
    · have hx2 : ¬ (Z (basisOf x) n ∧ Z (basisOf x) (xr n a)) := fun ⟨h1, h2⟩ => by
        rw [Z_eq g hn ha, h1] at h2
        exact z h2.symm
      by_cases q1 : Z (basisOf x) n
      · have q2 : ¬ Z (basisOf x) (xr n a) := fun h => hx2 ⟨q1, h⟩
        rw [i2.2 q2, Nat.add_zero, Nat.pow_succ, ← Nat.mul_assoc, i1.1 q1, Nat.pow_succ]
      · have q2 : Z (basisOf x) (xr n a) := q.resolve_left q1
        rw [i1.2 q1, Nat.zero_add, Nat.pow_succ, ← Nat.mul_assoc, i2.1 q2, Nat.pow_succ]
    · rw [i1.2 (fun h => q (.inl h)), i2.2 (fun h => q (.inr h))]
/-- the two spans: their sum, and what they share -/
structure Two (x y : List Int) (m : Nat) : Prop where
  len : (basisOf (x ++ y)).length + m = (basisOf x).length + (basisOf y).length
  cap : cnt (fun n => Z (basisOf x) n ∧ Z (basisOf y) n) = 2 ^ m
  sum : ∀ n, I16 n → (Z (basisOf (x ++ y)) n ↔ ∃ v, I16 v ∧ Z (basisOf x) v ∧ Z (basisOf y) (xr n v))
theorem two {x : List Int} (hx : All16 x) : ∀ y, All16 y → ∃ m, Two x y m := by
  have gx := good_basis x hx
  refine snocInd ⟨0, ?_⟩ ?_
  · have e' : basisOf [] = [] := rfl
    refine ⟨?_, ?_, fun n hn => ?_⟩
    · rw [List.append_nil, e']; rfl
    · rw [e', Nat.pow_zero, ← cnt_one]
      refine cnt_congr fun n hn => ⟨fun z => z.2, fun z => ⟨?_, z⟩⟩
      have : n = 0 := z
      rw [this]; exact Z0 gx
    · rw [List.append_nil, e']
      refine ⟨fun z => ⟨n, hn, z, xr_self hn⟩, fun ⟨v, hv, z, q⟩ => ?_⟩
      rw [xr_eq0 hn hv q]; exact z
  intro y a hy ha ⟨m, t⟩
  have gy := good_basis y hy
  have hxy : All16 (x ++ y) := fun n hn => (List.mem_append.mp hn).elim (hx n) (hy n)
  have gB := good_basis (x ++ y) hxy
  have hs : ∀ n, I16 n → (Z (basisOf (x ++ (y ++ [a]))) n ↔ ∃ v, I16 v ∧ Z (basisOf x) v ∧ Z (basisOf (y ++ [a])) (xr n v)) := by
    intro n hn
    rw [← List.append_assoc, basis_snoc, basis_snoc, Z_step gB hn ha, t.sum n hn, t.sum _ (xr_in hn ha)]
    have ex : ∀ v, I16 v → xr (xr n a) v = xr (xr n v) a := fun v hv => by
      rw [xr_assoc hn ha hv, xr_comm ha hv, xr_assoc hn hv ha]
    constructor
    · rintro (⟨v, hv, z, q⟩ | ⟨v, hv, z, q⟩)
      · exact ⟨v, hv, z, (Z_step gy (xr_in hn hv) ha).mpr (.inl q)⟩
      · exact ⟨v, hv, z, (Z_step gy (xr_in hn hv) ha).mpr (.inr (ex v hv ▸ q))⟩
    · rintro ⟨v, hv, z, q⟩
      rcases (Z_step gy (xr_in hn hv) ha).mp q with q | q
      · exact .inl ⟨v, hv, z, q⟩
      · exact .inr ⟨v, hv, z, (ex v hv).symm ▸ q⟩
  by_cases z : Z (basisOf y) a
  · have zB : Z (basisOf (x ++ y)) a := (t.sum a ha).mpr ⟨0, I0, Z0 gx, by rw [xr_zero ha]; exact z⟩
    refine ⟨m, ?_, ?_, hs⟩
    · rw [← List.append_assoc, basis_snoc, basis_snoc, len_step, len_step, if_pos z, if_pos zB]; exact t.len
    · rw [basis_snoc]; unfold stepB; rw [if_pos z]; exact t.cap
  by_cases zB : Z (basisOf (x ++ y)) a
  · obtain ⟨v, hv, zv, qv⟩ := (t.sum a ha).mp zB
    refine ⟨m + 1, ?_, ?_, hs⟩
    · rw [← List.append_assoc, basis_snoc, basis_snoc, len_step, len_step, if_neg z, if_pos zB]; have := t.len; omega
    · rw [Nat.pow_succ, ← t.cap, basis_snoc]
      have e : ∀ n, I16 n → (Z (basisOf y) (xr n a) ↔ Z (basisOf y) (xr n v)) := fun n hn => by
        rw [Z_eq gy hn ha, Z_eq gy hn hv]
        rw [Z_eq gy ha hv] at qv
        rw [qv]
      rw [cnt_congr (Q := fun n => (Z (basisOf x) n ∧ Z (basisOf y) n) ∨ (fun k => Z (basisOf x) k ∧ Z (basisOf y) k) (xr n v)), cnt_or, cnt_shift (P := fun k => Z (basisOf x) k ∧ Z (basisOf y) k) hv]
      · omega
      · rintro n hn ⟨⟨_, h1⟩, ⟨_, h2⟩⟩
        rw [← e n hn, Z_eq gy hn ha, h1] at h2
        exact z h2.symm
      · intro n hn
        rw [Z_step gy hn ha, e n hn]
        have := Z_iff gx hn hv zv
        show _ ↔ (_ ∧ _) ∨ (Z (basisOf x) (xr n v) ∧ Z (basisOf y) (xr n v))
        rw [this]
        exact and_or_left
  · refine ⟨m, ?_, ?_, hs⟩
    · rw [← List.append_assoc, basis_snoc, basis_snoc, len_step, len_step, if_neg z, if_neg zB]; have := t.len; omega
    · rw [← t.cap, basis_snoc]
      refine cnt_congr fun n hn => ?_
      rw [Z_step gy hn ha]
      refine ⟨fun ⟨h1, h2⟩ => ⟨h1, h2.resolve_right fun q => zB ?_⟩, fun ⟨h1, h2⟩ => ⟨h1, .inl h2⟩⟩
      exact (t.sum a ha).mpr ⟨n, hn, h1, by rw [xr_comm ha hn]; exact q⟩
end Mine
end
section
open PySem PySem.W PyProof.Rows
set_option linter.unusedVariables false
namespace Mine
/-- what the law's numbers are, in plain words -/
structure Plain (x y : List Int) (m : Nat) : Prop where
  sum : (basisOf (x ++ y)).length + m = (basisOf x).length + (basisOf y).length
  le1 : m ≤ (basisOf x).length
  le2 : m ≤ (basisOf y).length
  len1 : (srtW (ddOf (sumsOf x))).length = 2 ^ (basisOf x).length
  len2 : (srtW (ddOf (sumsOf y))).length = 2 ^ (basisOf y).length
  sld : ∀ a b, Sld (srtW (ddOf (sumsOf x))) (srtW (ddOf (sumsOf y))) a b → a = onlyOf (basisOf x) (basisOf y) ∧ b = onlyOf (basisOf y) (basisOf x) ∧ a.length + 2 ^ m = 2 ^ (basisOf x).length ∧ b.length + 2 ^ m = 2 ^ (basisOf y).length
  cmp : cmpOf (sumsOf x) (sumsOf y) = decide ((basisOf x).length = m ∧ (basisOf y).length = m)
  uld1 : (uldOf (sumsOf x) (sumsOf y)).2.length + 2 ^ (3 + m - max (basisOf x).length (basisOf y).length) = 8
  uld2 : (uldOf (sumsOf x) (sumsOf y)).1.length + 2 ^ (3 + m - max (basisOf x).length (basisOf y).length) = 8
theorem dd_mem0 : ∀ (ms acc : List Int) (n : Int), n ∈ ms.foldl (fun acc m => if m ∉ acc then acc ++ [m] else acc) acc ↔ n ∈ acc ∨ n ∈ ms
  | [], acc, n => by simp
  | m :: ms, acc, n => by
    rw [List.foldl_cons, dd_mem0 ms]
    split
    · simp only [List.mem_append, List.mem_cons, or_assoc]; simp
    · rename_i h
      have h : m ∈ acc := Decidable.not_not.mp h
      rw [List.mem_cons]
      constructor
      · rintro (q | q)
        · exact .inl q
        · exact .inr (.inr q)
      · rintro (q | q | q)
        · exact .inl q
        · exact .inl (q ▸ h)
        · exact .inr q
theorem dd_mem (ms : List Int) (n : Int) : n ∈ ddOf ms ↔ n ∈ ms := by
  unfold ddOf
  rw [dd_mem0]; simp
theorem dd_nodup9 : ∀ (ms acc : List Int), acc.Nodup → (ms.foldl (fun acc m => if m ∉ acc then acc ++ [m] else acc) acc).Nodup
  | [], _, h => h
  | m :: ms, acc, h => by
    rw [List.foldl_cons]
    refine dd_nodup9 ms _ ?_
    split
    · rename_i hm
      exact List.nodup_append.mpr ⟨h, by simp, fun a ha b hb e => hm (by rw [List.mem_singleton.mp hb] at e; exact e ▸ ha)⟩
    · exact h
theorem sums_len9 {ns : List Int} (h : ns.length = 3) : (sumsOf ns).length = 8 := by
  match ns, h with
  | [_, _, _], _ => simp [sumsOf]
theorem basis_len9 : ∀ x, All16 x → (basisOf x).length ≤ x.length := snocInd (Nat.le_refl _) fun x a hx ha ih => by
  rw [basis_snoc, len_step, List.length_append, List.length_singleton]
  split <;> omega
theorem sums_mem {x : List Int} (hx : All16 x) {n : Int} (hn : I16 n) : n ∈ sumsOf x ↔ Z (basisOf x) n := by
  have c := count_sums x hx n hn
  constructor
  · intro h
    refine Decidable.byContradiction fun z => ?_
    have := List.count_pos_iff.mpr h
    have := c.2 z
    omega
  · intro z
    have := c.1 z
    refine Decidable.byContradiction fun h => ?_
    rw [List.count_eq_zero.mpr h, Nat.zero_mul] at this
    exact absurd this.symm (Nat.pos_iff_ne_zero.mp (Nat.pow_pos (by decide)))
theorem srt_mem {ms : List Int} (h : All16 ms) (n : Int) : n ∈ srtW ms ↔ n ∈ ms := by
  unfold srtW
  rw [List.mem_filter, decide_eq_true_eq]
  exact ⟨fun z => z.2, fun z => ⟨ordW_mem (h n z), z⟩⟩
theorem len_cnt (P : Int → Bool) (Q : Int → Prop) (h : ∀ n, I16 n → (P n = true ↔ Q n)) : (ordW.filter P).length = cnt Q := by
  classical
  rw [← List.countP_eq_length_filter, ord_perm.countP_eq]
  unfold cnt
  refine List.countP_congr fun n hn => ?_
  rw [decide_eq_true_eq]
  exact h n (R16_mem.mp hn)
theorem dd_in {x : List Int} (h : All16 x) : All16 (ddOf x) := fun n hn => h n ((dd_mem _ _).mp hn)
theorem srt_len {x : List Int} (hx : All16 x) : (srtW (ddOf (sumsOf x))).length = 2 ^ (basisOf x).length := by
  rw [← cnt_basis x hx]
  unfold srtW
  refine len_cnt _ _ fun n hn => ?_
  rw [decide_eq_true_eq, dd_mem, sums_mem hx hn]
theorem not_head {x y : Int} {ys : List Int} (h : (y :: ys).Pairwise Rk) (hxy : rkW x < rkW y) : x ∉ y :: ys := fun hm => by
  rcases List.mem_cons.mp hm with e | hm
  · rw [e] at hxy; exact Nat.lt_irrefl _ hxy
  · exact Nat.lt_asymm hxy (List.rel_of_pairwise_cons h hm)
theorem filter_drop {x : Int} {xs l : List Int} (h : x ∉ l) : l.filter (fun n => decide (n ∉ x :: xs)) = l.filter (fun n => decide (n ∉ xs)) := by
  refine List.filter_congr fun n hn => ?_
  have : n ≠ x := fun e => h (e ▸ hn)
  simp [this]
theorem sld_filter {p q a b : List Int} (s : Sld p q a b) : All16 p → All16 q → p.Pairwise Rk → q.Pairwise Rk → a = p.filter (fun n => decide (n ∉ q)) ∧ b = q.filter (fun n => decide (n ∉ p)) := by
  induction s with
  | left ys => intro _ _ _ _; refine ⟨rfl, (List.filter_eq_self.mpr fun n hn => ?_).symm⟩; simp
  | right xs => intro _ _ _ _; refine ⟨(List.filter_eq_self.mpr fun n hn => ?_).symm, rfl⟩; simp
  | @lt x y xs ys a b h s ih =>
    intro hp hq sp sq
    have hx := hp x (.head _)
    have hy := hq y (.head _)
    rw [ltW_rk hx.1 hx.2 hy.1 hy.2, decide_eq_true_eq] at h
    obtain ⟨ea, eb⟩ := ih (fun n hn => hp n (.tail _ hn)) hq sp.of_cons sq
    have nx := not_head sq h
    rw [filter_drop nx, ← eb, List.filter_cons_of_pos (by simpa using nx), ← ea]
    exact ⟨rfl, rfl⟩
  | @gt x y xs ys a b h0 h s ih =>
    intro hp hq sp sq
    have hx := hp x (.head _)
    have hy := hq y (.head _)
    rw [ltW_rk hy.1 hy.2 hx.1 hx.2, decide_eq_true_eq] at h
    obtain ⟨ea, eb⟩ := ih hp (fun n hn => hq n (.tail _ hn)) sp sq.of_cons
    have ny := not_head sp h
    rw [filter_drop ny, ← ea, List.filter_cons_of_pos (by simpa using ny), ← eb]
    exact ⟨rfl, rfl⟩
  | @eq x y xs ys a b h0 h s ih =>
    intro hp hq sp sq
    have hx := hp x (.head _)
    have hy := hq y (.head _)
    rw [ltW_rk hx.1 hx.2 hy.1 hy.2, decide_eq_false_iff_not] at h0
    rw [ltW_rk hy.1 hy.2 hx.1 hx.2, decide_eq_false_iff_not] at h
    have e : x = y := rkW_inj hx hy (by omega)
    subst e
    obtain ⟨ea, eb⟩ := ih (fun n hn => hp n (.tail _ hn)) (fun n hn => hq n (.tail _ hn)) sp.of_cons sq.of_cons
    have nx : x ∉ xs := fun hm => Nat.lt_irrefl _ (List.rel_of_pairwise_cons sp hm)
    have ny : x ∉ ys := fun hm => Nat.lt_irrefl _ (List.rel_of_pairwise_cons sq hm)
    rw [List.filter_cons_of_neg (by simp), List.filter_cons_of_neg (by simp), filter_drop nx, filter_drop ny]
    exact ⟨ea, eb⟩
theorem only_mem {b1 b2 : List Int} {n : Int} (hn : I16 n) : n ∈ onlyN b1 b2 16 ↔ Z b1 n ∧ ¬ Z b2 n := by
  unfold onlyN
  rw [List.mem_filter]
  have : n ∈ List.map (fun (i : Nat) => (i : Int)) (List.range 16) := List.mem_map.mpr ⟨n.toNat, List.mem_range.mpr (by omega), by omega⟩
  simp only [this, true_and, Bool.and_eq_true, decide_eq_true_eq]
theorem only_side {x y : List Int} {m : Nat} (hx : All16 x) (hy : All16 y) (cap : cnt (fun n => Z (basisOf x) n ∧ Z (basisOf y) n) = 2 ^ m) :
    (srtW (ddOf (sumsOf x))).filter (fun n => decide (n ∉ srtW (ddOf (sumsOf y)))) = onlyOf (basisOf x) (basisOf y) ∧ ((srtW (ddOf (sumsOf x))).filter (fun n => decide (n ∉ srtW (ddOf (sumsOf y))))).length + 2 ^ m = 2 ^ (basisOf x).length := by
  have e : ∀ n, I16 n → ((n ∈ ddOf (sumsOf x)) ↔ Z (basisOf x) n) := fun n hn => by rw [dd_mem, sums_mem hx hn]
  have e' : ∀ n, I16 n → ((n ∈ srtW (ddOf (sumsOf y))) ↔ Z (basisOf y) n) := fun n hn => by rw [srt_mem (dd_in (sums_in y hy)), dd_mem, sums_mem hy hn]
  have q : (srtW (ddOf (sumsOf x))).filter (fun n => decide (n ∉ srtW (ddOf (sumsOf y)))) = onlyOf (basisOf x) (basisOf y) := by
    unfold onlyOf
    rw [show srtW (ddOf (sumsOf x)) = ordW.filter (fun n => decide (n ∈ ddOf (sumsOf x))) from rfl, List.filter_filter]
    rw [show srtW (onlyN (basisOf x) (basisOf y) 16) = ordW.filter (fun n => decide (n ∈ onlyN (basisOf x) (basisOf y) 16)) from rfl]
    refine List.filter_congr fun n hn => ?_
    have hn := ordW_range hn
    rw [Bool.eq_iff_iff]
    simp only [Bool.and_eq_true, decide_eq_true_eq]
    rw [e n hn, e' n hn, only_mem hn, and_comm]
  refine ⟨q, ?_⟩
  rw [q]
  unfold onlyOf
  rw [show srtW (onlyN (basisOf x) (basisOf y) 16) = ordW.filter (fun n => decide (n ∈ onlyN (basisOf x) (basisOf y) 16)) from rfl]
  rw [len_cnt _ (fun n => Z (basisOf x) n ∧ ¬ Z (basisOf y) n) (fun n hn => by rw [decide_eq_true_eq, only_mem hn]), ← cap, ← cnt_or (fun n _ h => h.1.2 h.2.2), ← cnt_basis x hx]
  refine cnt_congr fun n hn => ?_
  by_cases z : Z (basisOf y) n
  · exact ⟨fun h => h.elim (fun h => h.1) (fun h => h.1), fun h => .inr ⟨h, z⟩⟩
  · exact ⟨fun h => h.elim (fun h => h.1) (fun h => h.1), fun h => .inl ⟨h, z⟩⟩
theorem dd_nd (ms : List Int) : (ddOf ms).Nodup := dd_nodup9 ms [] List.nodup_nil
theorem fold_none : ∀ l : List Int, l.foldl (fun acc m => acc.bind (rmOne m)) none = none
  | [] => rfl
  | _ :: l => by rw [List.foldl_cons]; exact fold_none l
theorem rm_all : ∀ (l t : List Int), l.Nodup → t.Nodup → (remAll l t = some [] ↔ ∀ n, n ∈ l ↔ n ∈ t)
  | [], t, _, ht => by
    show some t = some [] ↔ _
    rw [Option.some.injEq]
    refine ⟨fun e n => by rw [e], fun h => ?_⟩
    cases t with
    | nil => rfl
    | cons a t => exact absurd ((h a).mpr (.head _)) List.not_mem_nil
  | m :: l, t, hl, ht => by
    have hm := (List.nodup_cons.mp hl)
    show (m :: l).foldl (fun acc m => acc.bind (rmOne m)) (some t) = some [] ↔ _
    rw [List.foldl_cons]
    show l.foldl (fun acc m => acc.bind (rmOne m)) (rmOne m t) = some [] ↔ _
    by_cases h : m ∈ t
    · rw [show rmOne m t = some (t.eraseIdx (t.idxOf m)) from if_pos h, ← List.erase_eq_eraseIdx_of_idxOf rfl]
      have := rm_all l (t.erase m) hm.2 (ht.erase m)
      unfold remAll at this
      rw [this]
      constructor
      · intro q n
        have := q n
        rw [ht.mem_erase_iff] at this
        rw [List.mem_cons, this]
        by_cases e : n = m
        · simp [e, h]
        · simp [e]
      · intro q n
        have := q n
        rw [List.mem_cons] at this
        rw [ht.mem_erase_iff]
        by_cases e : n = m
        · subst e; simp [hm.1]
        · simp only [e, false_or] at this; simp [e, this]
    · rw [show rmOne m t = none from if_neg h, fold_none]
      constructor
      · intro q; cases q
      · intro q; exact absurd ((q m).mp (.head _)) h
theorem cmp_side {x y : List Int} {m : Nat} (hx : All16 x) (hy : All16 y) (cap : cnt (fun n => Z (basisOf x) n ∧ Z (basisOf y) n) = 2 ^ m) :
    cmpOf (sumsOf x) (sumsOf y) = decide ((basisOf x).length = m ∧ (basisOf y).length = m) := by
  unfold cmpOf
  rw [Bool.eq_iff_iff, decide_eq_true_eq, decide_eq_true_eq, rm_all _ _ (dd_nd _) (dd_nd _)]
  have cx := cnt_basis x hx
  have cy := cnt_basis y hy
  have inj : ∀ {a b : Nat}, 2 ^ a = 2 ^ b → a = b := fun h => Nat.le_antisymm ((Nat.pow_le_pow_iff_right (by decide)).mp (Nat.le_of_eq h)) ((Nat.pow_le_pow_iff_right (by decide)).mp (Nat.le_of_eq h.symm))
  constructor
  · intro h
    have h' : ∀ n, I16 n → (Z (basisOf x) n ↔ Z (basisOf y) n) := fun n hn => by
      rw [← sums_mem hx hn, ← sums_mem hy hn, ← dd_mem (sumsOf x), ← dd_mem (sumsOf y), h]
    refine ⟨inj ?_, inj ?_⟩
    · rw [← cx, ← cap]; exact cnt_congr fun n hn => by rw [h' n hn, and_self]
    · rw [← cy, ← cap]; exact cnt_congr fun n hn => by rw [h' n hn, and_self]
  · rintro ⟨h1, h2⟩ n
    rw [dd_mem, dd_mem]
    have k1 := cnt_eq (P := fun n => Z (basisOf x) n ∧ Z (basisOf y) n) (Q := Z (basisOf x)) (fun n _ h => h.1) (by rw [cap, cx, h1])
    have k2 := cnt_eq (P := fun n => Z (basisOf x) n ∧ Z (basisOf y) n) (Q := Z (basisOf y)) (fun n _ h => h.2) (by rw [cap, cy, h2])
    constructor
    · intro q
      have hn := sums_in x hx n q
      exact (sums_mem hy hn).mpr (k1 n hn ((sums_mem hx hn).mp q)).2
    · intro q
      have hn := sums_in y hy n q
      exact (sums_mem hx hn).mpr (k2 n hn ((sums_mem hy hn).mp q)).1
theorem tot_add (f g : Int → Nat) : ∀ L : List Int, (L.map fun n => f n + g n).sum = (L.map f).sum + (L.map g).sum
  | [] => rfl
  | a :: L => by
    simp only [List.map_cons, List.sum_cons, tot_add f g L]; omega
theorem tot_if (P : Int → Bool) (k : Nat) : ∀ L : List Int, (L.map fun n => if P n then k else 0).sum = L.countP P * k
  | [] => by simp
  | a :: L => by
    simp only [List.map_cons, List.sum_cons, tot_if P k L, List.countP_cons]
    by_cases h : P a
    · simp only [h, if_true]; rw [Nat.add_mul, Nat.one_mul, Nat.add_comm]
    · simp [h]
theorem tot_cnt (P : Int → Bool) (Q : Int → Prop) (h : ∀ n, P n = true ↔ Q n) (k : Nat) : (R16.map fun n => if P n then k else 0).sum = cnt Q * k := by
  classical
  have e : R16.countP P = cnt Q := by
    unfold cnt
    refine List.countP_congr fun n hn => ?_
    rw [decide_eq_true_eq, h n]
  rw [tot_if, e]
theorem tot_congr {f g : Int → Nat} (h : ∀ n, I16 n → f n = g n) : (R16.map f).sum = (R16.map g).sum := by
  rw [List.map_congr_left fun n hn => h n (R16_mem.mp hn)]
theorem one_all : ∀ a : _root_.Fin 16, R16.countP (fun n => ((a.val : Nat) : Int) == n) = 1 := by decide +kernel
theorem tot_count : ∀ l : List Int, All16 l → (R16.map fun n => l.count n).sum = l.length
  | [], _ => by decide
  | a :: l, h => by
    have ih := tot_count l fun n hn => h n (.tail _ hn)
    have e : R16.countP (fun n => a == n) = 1 := fin16 (P := fun a => R16.countP (fun n => a == n) = 1) one_all (h a (.head _))
    simp only [List.count_cons, tot_add, tot_if, ih, e, Nat.one_mul, List.length_cons]
theorem uld_inv : ∀ (l : List Int) (st : List Int × List Int), (∀ n, (l.foldl uldF st).1.count n = st.1.count n - l.count n) ∧ (l.foldl uldF st).2.length + st.1.length = (l.foldl uldF st).1.length + l.length + st.2.length ∧ (∀ n ∈ (l.foldl uldF st).1, n ∈ st.1)
  | [], st => ⟨fun n => by simp, by simp only [List.foldl_nil, List.length_nil]; omega, fun n h => h⟩
  | m :: l, (a, b) => by
    rw [List.foldl_cons]
    obtain ⟨h1, h2, h3⟩ := uld_inv l (uldF (a, b) m)
    by_cases h : m ∈ a
    · have e : uldF (a, b) m = (a.erase m, b) := by
        unfold uldF
        rw [if_pos h, ← List.erase_eq_eraseIdx_of_idxOf rfl]
      rw [e] at h1 h2 h3 ⊢
      have hl := List.length_erase_of_mem h
      have hp := List.length_pos_of_mem h
      refine ⟨fun n => ?_, ?_, fun n hn => List.mem_of_mem_erase (h3 n hn)⟩
      · rw [h1 n, List.count_cons, List.count_erase]
        by_cases q : m == n <;> simp [q] <;> omega
      · simp only [List.length_cons] at h2 ⊢; omega
    · have e : uldF (a, b) m = (a, b ++ [m]) := by
        unfold uldF
        rw [if_neg h]
      rw [e] at h1 h2 h3 ⊢
      refine ⟨fun n => ?_, ?_, h3⟩
      · rw [h1 n, List.count_cons]
        by_cases q : m == n
        · have q := eq_of_beq q
          subst q
          have := List.count_eq_zero.mpr h
          simp only [this]; omega
        · simp [q]
      · simp only [List.length_cons, List.length_append, List.length_nil] at h2 ⊢; omega
theorem eighth {c r : Nat} (hr : r ≤ 3) (h : c * 2 ^ r = 2 ^ 3) : c = 2 ^ (3 - r) := by
  have : r = 0 ∨ r = 1 ∨ r = 2 ∨ r = 3 := by omega
  rcases this with rfl | rfl | rfl | rfl <;> simp at h ⊢ <;> omega
theorem min_pow {r s : Nat} : min (2 ^ (3 - s)) (2 ^ (3 - r)) = 2 ^ (3 - max r s) := by
  rcases Nat.le_total r s with h | h
  · rw [Nat.max_eq_right h, Nat.min_eq_left (Nat.pow_le_pow_right (by decide) (by omega))]
  · rw [Nat.max_eq_left h, Nat.min_eq_right (Nat.pow_le_pow_right (by decide) (by omega))]
theorem pow_join {m M : Nat} (h : M ≤ 3) : 2 ^ m * 2 ^ (3 - M) = 2 ^ (3 + m - M) := by rw [← Nat.pow_add, show m + (3 - M) = 3 + m - M from by omega]
theorem uld_side {x y : List Int} {m : Nat} (lx : x.length = 3) (ly : y.length = 3) (hx : All16 x) (hy : All16 y) (cap : cnt (fun n => Z (basisOf x) n ∧ Z (basisOf y) n) = 2 ^ m) :
    (uldOf (sumsOf x) (sumsOf y)).2.length + 2 ^ (3 + m - max (basisOf x).length (basisOf y).length) = 8 ∧ (uldOf (sumsOf x) (sumsOf y)).1.length + 2 ^ (3 + m - max (basisOf x).length (basisOf y).length) = 8 := by
  have rx := basis_len9 x hx
  have ry := basis_len9 y hy
  rw [lx] at rx
  rw [ly] at ry
  obtain ⟨h1, h2, h3⟩ := uld_inv (sumsOf x).reverse (sumsOf y, [])
  have e : uldOf (sumsOf x) (sumsOf y) = (sumsOf x).reverse.foldl uldF (sumsOf y, []) := rfl
  rw [← e] at h1 h2 h3
  simp only [List.length_reverse, List.length_nil, sums_len9 lx, sums_len9 ly, List.count_reverse] at h1 h2 h3
  have ha : All16 (uldOf (sumsOf x) (sumsOf y)).1 := fun n hn => sums_in y hy n (h3 n hn)
  have t1 := tot_count _ ha
  have t2 := tot_count _ (sums_in y hy)
  rw [sums_len9 ly] at t2
  have t3 : (R16.map fun n => if decide (Z (basisOf x) n ∧ Z (basisOf y) n) then 2 ^ (3 - max (basisOf x).length (basisOf y).length) else 0).sum = 2 ^ m * 2 ^ (3 - max (basisOf x).length (basisOf y).length) := by
    have z := tot_cnt (fun n => decide (Z (basisOf x) n ∧ Z (basisOf y) n)) (fun n => Z (basisOf x) n ∧ Z (basisOf y) n) (fun n => decide_eq_true_iff) (2 ^ (3 - max (basisOf x).length (basisOf y).length))
    rw [cap] at z
    exact z
  have ep : 2 ^ m * 2 ^ (3 - max (basisOf x).length (basisOf y).length) = 2 ^ (3 + m - max (basisOf x).length (basisOf y).length) := by
    exact pow_join (Nat.max_le.mpr ⟨rx, ry⟩)
  rw [ep] at t3
  have t4 : (R16.map fun n => (uldOf (sumsOf x) (sumsOf y)).1.count n + (if decide (Z (basisOf x) n ∧ Z (basisOf y) n) then 2 ^ (3 - max (basisOf x).length (basisOf y).length) else 0)).sum = 8 := by
    rw [← t2]
    refine tot_congr fun n hn => ?_
    rw [h1 n]
    have c1 := count_sums x hx n hn
    have c2 := count_sums y hy n hn
    rw [lx] at c1
    rw [ly] at c2
    by_cases z : Z (basisOf x) n
    · have d1 := eighth rx (c1.1 z)
      by_cases z' : Z (basisOf y) n
      · have d2 := eighth ry (c2.1 z')
        rw [if_pos (decide_eq_true (And.intro z z')), ← min_pow, ← d1, ← d2]
        omega
      · have d2 := c2.2 z'
        rw [if_neg (fun q => z' (of_decide_eq_true q).2), d2]; omega
    · have d1 := c1.2 z
      rw [if_neg (fun q => z (of_decide_eq_true q).1), d1]; omega
  rw [tot_add, t1, t3] at t4
  exact ⟨by omega, t4⟩
theorem plain {x y : List Int} (hx : x.length = 3) (hy : y.length = 3) (rx : ∀ n ∈ x, 0 ≤ n ∧ n < 16) (ry : ∀ n ∈ y, 0 ≤ n ∧ n < 16) : ∃ m, Plain x y m := by
  obtain ⟨m, t⟩ := two rx y ry
  have cap' : cnt (fun n => Z (basisOf y) n ∧ Z (basisOf x) n) = 2 ^ m := by
    rw [← t.cap]; exact cnt_congr fun n _ => and_comm
  have le : ∀ z : List Int, All16 z → 2 ^ m ≤ cnt (Z (basisOf z)) → m ≤ (basisOf z).length := fun z hz h => by
    rw [cnt_basis z hz] at h
    exact (Nat.pow_le_pow_iff_right (by decide)).mp h
  have u := uld_side hx hy rx ry t.cap
  have o1 := only_side rx ry t.cap
  have o2 := only_side ry rx cap'
  refine ⟨m, t.len, le x rx ?_, le y ry ?_, srt_len rx, srt_len ry, fun a b s => ?_, cmp_side rx ry t.cap, u.1, u.2⟩
  · rw [← t.cap]; exact cnt_mono fun n _ h => h.1
  · rw [← t.cap]; exact cnt_mono fun n _ h => h.2
  · have all : ∀ z, All16 z → All16 (srtW (ddOf (sumsOf z))) := fun z hz n hn => dd_in (sums_in z hz) n ((srt_mem (dd_in (sums_in z hz)) n).mp hn)
    obtain ⟨ea, eb⟩ := sld_filter s (all x rx) (all y ry) (ordW_sorted.sublist List.filter_sublist) (ordW_sorted.sublist List.filter_sublist)
    exact ⟨ea.trans o1.1, eb.trans o2.1, by rw [ea]; exact o1.2, by rw [eb]; exact o2.2⟩
end Mine
end
section
open PySem PySem.W PyProof.Rows PySem.SeqAt PySem.MeetsSeq PySem.Calls
set_option maxRecDepth 100000
set_option maxHeartbeats 2000000
set_option linter.unusedVariables false
namespace Mine
section
variable {A : Around} {s : Shared}
theorem eqAtWords {a b : Addr} {vs us : List Value} {ms : List Int} (hl : s.heap.IsList a vs.toArray) (hl' : s.heap.IsList b us.toArray) (w : WdH s.heap vs ms) (w' : WdH s.heap us ms) (hu : A.units + 70 < cLine) : EqAt A s (.ref a) (.ref b) true := by
  by_cases e : (Value.ref a) = .ref b
  · rw [e]; exact EqAt.same _
  · refine EqAt.of_refs (fun z => e (by rw [z])) fun prog w0 E Q hq => ?_
    obtain ⟨⟨cls, dd, dat, sl⟩, ho, hc, n, hd⟩ := hl
    obtain ⟨⟨cls2, dd2, dat2, sl2⟩, ho2, hc2, n2, hd2⟩ := hl'
    simp only at hc hd hc2 hd2
    subst hc hd hc2 hd2
    have hz : vs.toArray.size = us.toArray.size := by rw [List.size_toArray, List.size_toArray, w.length, w'.length]
    refine (richCompare_meets_room (op := .Eq) ⟨_, ho, rfl⟩ ⟨_, ho2, rfl⟩ F.slot_list_eq F.entry_list_eq (F.args_list_eq_2 _ _) (list_eqAt a b _ _ n n2 dd dd2 sl sl2 hz (fun _ => true)) ⟨ho, ho2, fun j h1 h2 => ?_, And.intro (fun x : Value.bool _ = Value.notImplemented => nomatch x) ?_⟩ (by omega) : wpAny (model prog w0) A (richCompare .Eq (.ref a) (.ref b)) Q E s)
    · have h1' : j < vs.length := by simpa using h1
      have h2' : j < us.length := by simpa using h2
      obtain ⟨m, e1, z1⟩ := w.get (i := j) (v := vs[j]) (List.getElem?_eq_getElem h1')
      obtain ⟨m', e2, z2⟩ := w'.get (i := j) (v := us[j]) (List.getElem?_eq_getElem h2')
      rw [e1] at e2
      cases e2
      have := eqAtW (A := A.in1) z1 z2 (by show A.units + 1 + 64 < cLine; omega)
      simpa using this
    · have : ((List.range vs.toArray.size).all fun _ => true) = true := by simp
      rw [this]
      exact hq
theorem neTuples {prog : Program} {w0 : World} {E : Value → Shared → Prop} {Q : Value → Shared → Prop} {t t2 a b c d : Addr} {k k2 : Nat} {va vb vc vd : List Value} {m1 m2 : List Int}
    (ht : s.heap.get? t = some { cls := .type "tuple", data := .seq #[.ref a, .ref b] k }) (ht2 : s.heap.get? t2 = some { cls := .type "tuple", data := .seq #[.ref c, .ref d] k2 })
    (ha : s.heap.IsList a va.toArray) (hb : s.heap.IsList b vb.toArray) (hc : s.heap.IsList c vc.toArray) (hd : s.heap.IsList d vd.toArray)
    (wa : WdH s.heap va m1) (wb : WdH s.heap vb m2) (wc : WdH s.heap vc m1) (wd : WdH s.heap vd m2) (hu : A.units + 80 < cLine) (h : Q (.bool false) s) : wpAny (model prog w0) A (compareOp .NotEq (.ref t) (.ref t2)) Q E s := by
  refine (richCompare_meets_room (op := .NotEq) ⟨_, ht, rfl⟩ ⟨_, ht2, rfl⟩ F.slot_tuple_ne F.entry_tuple_ne (F.args_tuple_ne_2 _ _) (tuple_neAt t t2 #[.ref a, .ref b] #[.ref c, .ref d] k k2 none none #[] #[] (fun _ => true)) ⟨ht, ht2, fun j h1 h2 => ?_, And.intro (fun x : Value.bool _ = Value.notImplemented => nomatch x) ?_⟩ (by omega) : wpAny (model prog w0) A (richCompare .NotEq (.ref t) (.ref t2)) Q E s)
  · match j, h1, h2 with
    | 0, _, _ => exact eqAtWords (A := A.in1) ha hc wa wc (by show A.units + 1 + 70 < cLine; omega)
    | 1, _, _ => exact eqAtWords (A := A.in1) hb hd wb wd (by show A.units + 1 + 70 < cLine; omega)
    | n + 2, h1, _ => exact absurd h1 (by simp)
  · exact h
end
end Mine
end
section
open PySem PySem.W PyProof.Rows
set_option maxRecDepth 100000
set_option maxHeartbeats 8000000
set_option linter.unusedVariables false
namespace Mine
theorem mkCx {w : World} {A : Around} {h : Heap} {outer : List Env} {mean : ExcName → Option Value} {mg mb : Str → Option Value} (X : (hd.heap_39 w.params).In h) (T : Top hd.view_39 (looseW hd.view_39 [Str.ofString "bytes_types", Str.ofString "a2b_base64", Str.ofString "b2a_base64", Str.ofString "b64encode", Str.ofString "b64decode"]) mean mg mb h) : Cx w A h h outer mean mg mb := ⟨X, T⟩
theorem basis_len0 : ∀ (ns bs : List Int), (ns.foldl (fun bs n => if cleared n bs = 0 then bs else bs ++ [cleared n bs]) bs).length ≤ bs.length + ns.length
  | [], bs => Nat.le_refl _
  | n :: ns, bs => by
    rw [List.foldl_cons]
    refine Nat.le_trans (basis_len0 ns _) ?_
    split
    · simp only [List.length_cons]; omega
    · simp only [List.length_append, List.length_cons, List.length_nil]; omega
theorem basis_len (ns : List Int) : (basisOf ns).length ≤ ns.length := by
  have := basis_len0 ns []
  simpa [basisOf] using this
theorem dd_nodup0 : ∀ (ms acc : List Int), acc.Nodup → (ms.foldl (fun acc m => if m ∉ acc then acc ++ [m] else acc) acc).Nodup
  | [], _, h => h
  | m :: ms, acc, h => by
    rw [List.foldl_cons]
    refine dd_nodup0 ms _ ?_
    split
    · rename_i hm
      exact List.nodup_append.mpr ⟨h, by simp, fun a ha b hb e => hm (by rw [List.mem_singleton.mp hb] at e; exact e ▸ ha)⟩
    · exact h
theorem dd_nodup (ms : List Int) : (ddOf ms).Nodup := dd_nodup0 ms [] List.nodup_nil
theorem sums_len3 {ns : List Int} (h : ns.length = 3) : (sumsOf ns).length = 8 := by
  match ns, h with
  | [_, _, _], _ => simp [sumsOf]
theorem lenV {prog : Program} {w : World} {A : Around} {E : Value → Shared → Prop} {s : Shared} {D : Addr} {vs : List Value} {Q : Value → Shared → Prop} (hl : s.heap.IsList D vs.toArray) (hz : vs.length ≤ 1000) (h : ∀ t k, Q (.int (vs.length : Nat) t) { s with toks := k }) :
    wpAny (model prog w) A (call (.builtin "len") [.ref D]) Q E s := by
  have e : vs.toArray.size = vs.length := by simp
  refine Calls.call_len_list hl (by rw [e]; omega) ?_
  rw [e]
  exact h _ _
theorem neV {prog : Program} {w : World} {A : Around} {E : Value → Shared → Prop} {s : Shared} {a b : Int} {t u : Tok} {Q : Value → Shared → Prop} (e : a = b) (h : Q (.bool false) s) :
    wpAny (model prog w) A (compareOp .NotEq (.int a t) (.int b u)) Q E s := ne_int (by rw [show (a != b) = false from by simp [e]]; exact h)
theorem neB {prog : Program} {w : World} {A : Around} {E : Value → Shared → Prop} {s : Shared} {a b : Bool} {Q : Value → Shared → Prop} (e : a = b) (h : Q (.bool false) s) :
    wpAny (model prog w) A (compareOp .NotEq (.bool a) (.bool b)) Q E s := by
  subst e
  refine ne_bool ?_
  cases a <;> exact h
theorem maxW {prog : Program} {w : World} {A : Around} {E : Value → Shared → Prop} {s : Shared} {h₀ : Heap} {L : Addr} {mp : Str → Option Value} {news : List (Addr × Obj)} {a b : Int} {c : Nat} {t u : Tok} {Q : Value → Shared → Prop} (hh : A.handled = none) (F : Fr h₀ L s.heap mp) (N : News h₀ L s.heap news) (e : (if b > a then b else a) = (c : Int))
    (h : ∀ h' t k, Fr h₀ L h' mp → News h₀ L h' news → Q (.int (c : Int) t) { s with heap := h', toks := k }) : wpAny (model prog w) A (call (.builtin "max") [.int a t, .int b u]) Q E s :=
  max_two_N hh F N fun h' tk F' N' => by rw [e]; exact h _ _ _ F' N'
theorem max_cast (a b : Nat) : (if (b : Int) > (a : Int) then (b : Int) else (a : Int)) = ((max a b : Nat) : Int) := by
  split <;> omega
theorem pow_cast (n : Nat) : ((2 ^ n : Nat) : Int) = (2 : Int) ^ (Int.toNat (n : Int)) := by rw [Int.toNat_natCast]; push_cast; rfl
theorem pow_8 {n : Nat} (h : n ≤ 3) : 2 ^ n ≤ 8 := by
  have : 2 ^ n ≤ 2 ^ 3 := Nat.pow_le_pow_right (by decide) h
  omega
theorem powV {prog : Program} {w : World} {A : Around} {E : Value → Shared → Prop} {s : Shared} {n : Int} {t u : Tok} {Q : Value → Shared → Prop} (h0 : 0 ≤ n) (h1 : n ≤ 1000) (h : ∀ t k, Q (.int (2 ^ n.toNat) t) { s with toks := k }) :
    wpAny (model prog w) A (binaryOp .Pow (.int 2 t) (.int n u)) Q E s :=
  pow_int h0 (by rw [show Builtin.Int.intBits 2 = 2 from by decide +kernel]; omega) (h _ _)
section
variable {h₀ h h' : Heap} {L : Addr} {m : Str → Option Value} {news W : List (Addr × Obj)}
theorem newsMores (F : Fr h₀ L h m) (N : News h₀ L h news) (hk : Keeps h h') (hW : ∀ p ∈ W, h'.get? p.1 = some p.2 ∧ h.get? p.1 = none) : News h₀ L h' (news ++ W) := by
  intro p hp
  rcases List.mem_append.mp hp with hp | hp
  · exact newsKeeps N hk p hp
  · exact newsMore F N hk (hW p hp).1 (hW p hp).2 p (.head _)
theorem newsMores2 {x : Addr × Obj} (F : Fr h₀ L h m) (N : News h₀ L h news) (hk : Keeps h h') (hW : ∀ p ∈ x :: W, h'.get? p.1 = some p.2 ∧ h.get? p.1 = none) : News h₀ L h' (x :: (news ++ W)) := by
  intro p hp
  have z := newsMores F N hk hW
  rcases List.mem_cons.mp hp with rfl | hp
  · exact z _ (List.mem_append_right _ (.head _))
  · rcases List.mem_append.mp hp with hp | hp
    · exact z _ (List.mem_append_left _ hp)
    · exact z _ (List.mem_append_right _ (.tail _ hp))
theorem newsX {x : Addr × Obj} {rest : List (Addr × Obj)} (hx : h.get? x.1 = some x.2 ∧ x.1 ≠ L ∧ h₀.get? x.1 = none) (R : News h₀ L h rest) : News h₀ L h (x :: rest) := fun p hp => by
  rcases List.mem_cons.mp hp with rfl | hp
  · exact hx
  · exact R p hp
theorem letLaw {M : Model} {A : Around} {env : Env} {body : List Stmt} {Q : Flow → Shared → Prop} {E : Value → Shared → Prop} {s : Shared} (h : let ev := env; let Ak := A.deeper ev; wpAny M Ak (execs body ev) Q E s) : wpAny M (A.deeper env) (execs body env) Q E s := h
theorem lower_none {a : Addr} (F : Fr h₀ L h m) (hn : h.get? a = none) : h₀.get? a = none := by
  cases q : h₀.get? a with
  | none => rfl
  | some o => rw [F.keep _ _ q] at hn; cases hn
theorem keepHide (F : Fr h₀ L h m) : Keeps h₀ (h.hide L) := fun b o e => by
  have hne : b ≠ L := Nat.ne_of_lt (Nat.lt_of_lt_of_le (Heap.lt_size e) F.above)
  rw [hideNe hne]
  exact F.keep b o e
theorem frHide {oL : Obj} {sl : Array (Option Value)} (F : Fr h₀ L h m) (ho : h.get? L = some oL) (hk : Keeps (h.hide L) h') (hL : h'.get? L = some { oL with slots := sl }) : Fr h₀ L h' m := by
  refine ⟨?_, fun b o e => hk b o (keepHide F b o e), F.above⟩
  obtain ⟨o, es, ep, e, r⟩ := F.ns
  rw [ho] at e
  cases e
  exact ⟨_, es, ep, hL, r⟩
theorem newsHide (N : News h₀ L h news) (hk : Keeps (h.hide L) h') : News h₀ L h' news := fun p hp => by
  have z := N p hp
  exact ⟨hk _ _ (by rw [hideNe z.2.1]; exact z.1), z.2⟩
theorem newsHide2 {ws : List (Addr × Obj)} (F : Fr h₀ L h m) (hw : ∀ p ∈ ws, h'.get? p.1 = some p.2 ∧ (h.hide L).get? p.1 = none ∧ p.1 ≠ L) : News h₀ L h' ws := fun p hp => by
  obtain ⟨a, b, c⟩ := hw p hp
  refine ⟨a, c, ?_⟩
  cases q : h₀.get? p.1 with
  | none => rfl
  | some o => rw [keepHide F _ _ q] at b; cases b
theorem listHide {a : Addr} {vs : List Value} {k : Nat} (N : News h₀ L h news) (hm : (a, listOf (List.toArray vs) k) ∈ news) : (h.hide L).IsList a vs.toArray := by
  have z := N _ hm
  exact ⟨_, by rw [hideNe z.2.1]; exact z.1, rfl, _, rfl⟩
theorem txOf {s : Shared} {envL : Env} (F : Fr h₀ L s.heap m) (hf : envL.frame = some L) (hk : envL.scope.kind ≠ .module) : ∃ oL, Tx s L oL envL := by
  obtain ⟨o, es, ep, e, hd, r⟩ := F.ns
  exact ⟨o, e, ⟨es, ep, hd⟩, hf, hk⟩
theorem srt_ne (ms : List Int) : ∀ i x y, (srtW ms)[i]? = some x → (srtW ms)[i + 1]? = some y → y ≠ x := by
  intro i x y hx hy e
  have hp : (srtW ms).Pairwise Rk := ordW_sorted.sublist List.filter_sublist
  obtain ⟨h1, e1⟩ := List.getElem?_eq_some_iff.mp hx
  obtain ⟨h2, e2⟩ := List.getElem?_eq_some_iff.mp hy
  have := List.pairwise_iff_getElem.mp hp i (i + 1) h1 h2 (Nat.lt_succ_self _)
  rw [e1, e2, e] at this
  exact Nat.lt_irrefl _ this
/-- a heap that holds the words and nothing else -/
theorem heapOf (hW : ∀ p ∈ W, h.get? p.1 = some p.2) : ∃ hb : Heap, (∀ vs ms, Wd W vs ms → WdH hb vs ms) ∧ (∀ h', (∀ p ∈ W, h'.get? p.1 = some p.2) → Keeps hb h') := by
  classical
  let as := (List.range h.objs.size).filter fun a => decide (a ∉ W.map (·.1))
  refine ⟨hideAll h as, fun vs ms w => w.toH fun p hp => hideAll_get _ (hW p hp) fun hm => ?_, fun h' hk a o e => ?_⟩
  · have := (List.mem_filter.mp hm).2
    simp only [decide_eq_true_eq] at this
    exact this (List.mem_map_of_mem hp)
  · have e1 := of_hideAll _ e
    have hna : a ∉ as := fun hm => by rw [hideAll_none _ hm] at e; cases e
    have hin : a ∈ W.map (·.1) := by
      by_cases q : a ∈ W.map (·.1)
      · exact q
      · exact absurd (List.mem_filter.mpr ⟨List.mem_range.mpr (Heap.lt_size e1), by simpa using q⟩) hna
    obtain ⟨p, hp, rfl⟩ := List.mem_map.mp hin
    have e2 := hW p hp
    rw [e1] at e2
    rw [hk p hp, e2]
end
section
variable {w : World} {dp un : Nat} {gd : Option (List Code)} {base : Heap} {A0 : Around} {outer0 : List Env} {mean : ExcName → Option Value} {mg mb : Str → Option Value} {s : Shared} {Q E : Value → Shared → Prop} {h₀ : Heap} {L : Addr} {m : Str → Option Value} {news WW : List (Addr × Obj)} {envL : Env}
  {l1 l2 : Addr} {v1 v2 : List Value} {k1 k2 : Nat} {m1 m2 : List Int} {hb : Heap}
theorem hbHide (N : News h₀ L s.heap news) (hbK : ∀ h', (∀ p ∈ WW, h'.get? p.1 = some p.2) → Keeps hb h') (hWW : ∀ p ∈ WW, p ∈ news) : Keeps hb (s.heap.hide L) := hbK _ fun p hp => by
  have z := N p (hWW p hp)
  rw [hideNe z.2.1]
  exact z.1
theorem sldL (C0 : Cx w A0 h₀ base outer0 mean mg mb) (F : Fr h₀ L s.heap m) (N : News h₀ L s.heap news) (hf : envL.frame = some L) (hk : envL.scope.kind ≠ .module) (hdp : dp + 2 < recursionLimit) (hun : un + 300 < cLine)
    (e1 : (l1, listOf (List.toArray v1) k1) ∈ news) (e2 : (l2, listOf (List.toArray v2) k2) ∈ news) (hbK : ∀ h', (∀ p ∈ WW, h'.get? p.1 = some p.2) → Keeps hb h') (hWW : ∀ p ∈ WW, p ∈ news) (w1 : WdH hb v1 m1) (w2 : WdH hb v2 m2) (z1 : v1.length ≤ 63) (z2 : v2.length ≤ 63)
    (s1 : ∀ i x y, m1[i]? = some x → m1[i + 1]? = some y → y ≠ x) (s2 : ∀ i x y, m2[i]? = some x → m2[i + 1]? = some y → y ≠ x)
    (ret : ∀ t mi ux mv uv xm xu kt km ku h' tk', Fr h₀ L h' m → News h₀ L h' ((t, ({ cls := .type "tuple", data := .seq #[.ref mi, .ref ux] kt } : Obj)) :: (mi, listOf (List.toArray mv) km) :: (ux, listOf (List.toArray uv) ku) :: news) → WdH hb mv xm → WdH hb uv xu → Sld m1 m2 xm xu → Q (.ref t) { s with heap := h', toks := tk' }) :
    wpAny (model PySem.Challenge.rw_qh0049_01.row.prog w) (Ar dp un gd [envL]) (call (.ref 123) [.ref l1, .ref l2]) Q E s := by
  obtain ⟨oL, tx⟩ := txOf F hf hk
  refine sld_con (Cx.any C0 (keepHide F)) tx hdp hun (listHide N e1) (hbHide N hbK hWW) w1 z1 (listHide N e2) w2 z2 s1 s2 ?_
  intro t mi ux mv uv xm xu kt km ku h' tk' sl hk hL hall wm wu hS
  refine ret t mi ux mv uv xm xu kt km ku h' tk' (frHide F tx.here hk hL) (fun p hp => ?_) wm wu hS
  simp only [List.mem_cons] at hp
  rcases hp with rfl | rfl | rfl | hp
  · exact newsHide2 F hall _ (.head _)
  · exact newsHide2 F hall _ (.tail _ (.head _))
  · exact newsHide2 F hall _ (.tail _ (.tail _ (.head _)))
  · exact newsHide N hk p hp
theorem compareL (C0 : Cx w A0 h₀ base outer0 mean mg mb) (F : Fr h₀ L s.heap m) (N : News h₀ L s.heap news) (hf : envL.frame = some L) (hk : envL.scope.kind ≠ .module) (hdp : dp + 2 < recursionLimit) (hun : un + 300 < cLine)
    (e1 : (l1, listOf (List.toArray v1) k1) ∈ news) (e2 : (l2, listOf (List.toArray v2) k2) ∈ news) (hbK : ∀ h', (∀ p ∈ WW, h'.get? p.1 = some p.2) → Keeps hb h') (hWW : ∀ p ∈ WW, p ∈ news) (w1 : WdH hb v1 m1) (w2 : WdH hb v2 m2) (z1 : v1.length ≤ 63) (z2 : v2.length ≤ 63)
    (ret : ∀ h' tk', Fr h₀ L h' m → News h₀ L h' news → Q (.bool (cmpOf m1 m2)) { s with heap := h', toks := tk' }) :
    wpAny (model PySem.Challenge.rw_qh0049_01.row.prog w) (Ar dp un gd [envL]) (call (.ref 35) [.ref l1, .ref l2]) Q E s := by
  obtain ⟨oL, tx⟩ := txOf F hf hk
  have kb := hbHide N hbK hWW
  refine compare_con (Cx.any C0 (keepHide F)) tx hdp hun (listHide N e1) (w1.keeps kb) z1 (listHide N e2) (w2.keeps kb) z2 ?_
  intro h' tk' sl hk hL
  exact ret h' tk' (frHide F tx.here hk hL) (newsHide N hk)
theorem uldL (C0 : Cx w A0 h₀ base outer0 mean mg mb) (F : Fr h₀ L s.heap m) (N : News h₀ L s.heap news) (hf : envL.frame = some L) (hk : envL.scope.kind ≠ .module) (hdp : dp + 2 < recursionLimit) (hun : un + 300 < cLine)
    (e1 : (l1, listOf (List.toArray v1) k1) ∈ news) (e2 : (l2, listOf (List.toArray v2) k2) ∈ news) (h12 : l1 ≠ l2) (d1 : ∀ p ∈ WW, p.1 ≠ l1) (d2 : ∀ p ∈ WW, p.1 ≠ l2) (hbK : ∀ h', (∀ p ∈ WW, h'.get? p.1 = some p.2) → Keeps hb h') (hWW : ∀ p ∈ WW, p ∈ news) (w1 : WdH hb v1 m1) (w2 : WdH hb v2 m2) (z1 : v1.length ≤ 63) (z2 : v2.length ≤ 63)
    (ret : ∀ t mi mv av kt km ka h' tk', Fr h₀ L h' m → (∀ p ∈ news, p.1 ≠ l1 → p.1 ≠ l2 → h'.get? p.1 = some p.2 ∧ p.1 ≠ L ∧ h₀.get? p.1 = none) → News h₀ L h' [(t, ({ cls := .type "tuple", data := .seq #[.ref mi, .ref l2] kt } : Obj)), (mi, listOf (List.toArray mv) km), (l2, listOf (List.toArray av) ka)] → mv.length = (uldOf m1 m2).2.length → av.length = (uldOf m1 m2).1.length → Q (.ref t) { s with heap := h', toks := tk' }) :
    wpAny (model PySem.Challenge.rw_qh0049_01.row.prog w) (Ar dp un gd [envL]) (call (.ref 130) [.ref l1, .ref l2]) Q E s := by
  obtain ⟨oL, tx⟩ := txOf F hf hk
  have n1 := N _ e1
  have n2 := N _ e2
  have kb : Keeps hb (hideAll s.heap [l1, l2, L]) := hbK _ fun p hp => by
    have z := N p (hWW p hp)
    refine hideAll_get _ z.1 fun hm => ?_
    simp only [List.mem_cons, List.not_mem_nil, or_false] at hm
    rcases hm with e | e | e
    · exact d1 p hp e
    · exact d2 p hp e
    · exact z.2.1 e
  have k0 : Keeps h₀ (hideAll s.heap [l1, l2, L]) := fun b o e => by
    refine hideAll_get _ (F.keep b o e) fun hm => ?_
    simp only [List.mem_cons, List.not_mem_nil, or_false] at hm
    rcases hm with q | q | q
    · rw [q, n1.2.2] at e; cases e
    · rw [q, n2.2.2] at e; cases e
    · exact absurd (Nat.lt_of_lt_of_le (Heap.lt_size e) F.above) (q ▸ Nat.lt_irrefl _)
  refine uld_con rfl (Cx.any C0 k0) tx hdp hun n1.1 n2.1 h12 n1.2.1 n2.2.1 (w1.keeps kb) (w2.keeps kb) z1 z2 ?_
  intro t mi mv av kt km ka h' tk' hall lm la hL hk ht hm
  obtain ⟨sl, hL⟩ := hL
  have hF : Fr h₀ L h' m := by
    refine ⟨?_, fun b o e => hk b o (k0 b o e), F.above⟩
    obtain ⟨o, es, ep, e, r⟩ := F.ns
    rw [tx.here] at e
    cases e
    exact ⟨_, es, ep, hL, r⟩
  have nL : ∀ a, s.heap.get? a = none → a ≠ L := fun a ha q => by rw [q, tx.here] at ha; cases ha
  refine ret t mi mv av kt km ka h' tk' hF (fun p hp p1 p2 => ?_) (fun p hp => ?_) lm la
  · have z := N p hp
    refine ⟨hk _ _ (hideAll_get _ z.1 fun hm => ?_), z.2⟩
    simp only [List.mem_cons, List.not_mem_nil, or_false] at hm
    rcases hm with e | e | e
    · exact p1 e
    · exact p2 e
    · exact z.2.1 e
  refine ⟨hall p hp, ?_⟩
  simp only [List.mem_cons, List.not_mem_nil, or_false] at hp
  rcases hp with rfl | rfl | rfl
  · exact ⟨nL _ ht, lower_none F ht⟩
  · exact ⟨nL _ hm, lower_none F hm⟩
  · exact ⟨n2.2.1, n2.2.2⟩
end
theorem law_holds : PySem.Challenge.rw_qh0049_01.Holds := by
  refine Mine.hd ?_
  k_go0
  all_goals (refine letLaw ?_; intro ev Ak)
  all_goals try k_fold
  rename Fr _ _ _ _ => F
  rename News _ _ _ _ => N
  rename ¬ _ => hc63
  rename Frag.In _ _ => KX
  rename Top _ _ _ _ _ _ => KT
  have C0 := mkCx (A := callerA) (outer := []) KX KT
  rename IntsAre _ _ => hI0
  repeat ((fail_if_success (with_reducible show wpAny _ _ (exec _ _) _ _ _)); ((try ((with_reducible show wpAny _ _ (execs _ _) _ _ _); k_gentoks)); (try ((with_reducible show wpAny _ _ (exec _ _) _ _ _); (with_reducible refine foldQ ?_); intro qx)); (first | (k_unfold; (try (first | refine wpI (P := wpAny _ _ _ _ _ ⟨_, s.gens, s.drawn, _, s.os⟩) ?_ | refine wpI (P := wpAny _ _ _ _ _ _) ?_)); (try dsimp only)) | (k_end; kc_close) | (with_reducible ((with_reducible show wpAny _ _ (call (Value.builtin _) [Value.int _ _, Value.int _ _]) _ _ _); k_dflt (refine' maxW rfl ?Fq8 ?Nq8 ?eq8 ?_; (case Fq8 => with_reducible assumption); (case Nq8 => with_reducible assumption); (case eq8 => with_reducible assumption)); intro h'q9 t'q9 k'q9 F'q9 N'q9)) | (with_reducible ((with_reducible show wpAny _ _ (call (Value.ref 163) [Value.ref _, Value.ref _]) _ _ _); (with_reducible rename Fr _ _ _ _ => kFq9); (with_reducible rename News _ _ _ _ => kNq9); k_dflt (refine' only_con (Cx.any (by assumption) (Fr.keep kFq9)) ?kdq8 ?kuq8 ?klq8 ?kiq8 ?kmq8 ?kjq8 ?_; (case kdq8 => decide); (case kuq8 => decide); (case klq8 => exact News.isList kNq9 (by k_mem)); (case kiq8 => assumption); (case kmq8 => exact News.isList kNq9 (by k_mem)); (case kjq8 => assumption)); intro bO vO cO WO h' tk' hk' hg' wO; (have F'q9 := Fr.after kFq9 hk'); (have N'q9 := newsMores2 kFq9 kNq9 hk' hg'); (dsimp only [List.cons_append, List.nil_append] at N'q9); clear hk' hg'; clear kNq9 kFq9; (try dsimp only); (try k_fold))) | (with_reducible ((with_reducible show wpAny _ _ (compareOp PySem.CmpOp.NotEq (Value.int _ _) (Value.int _ _)) _ _ _); (k_dflt (refine' neV ?eq8 ?_; (case eq8 => first | assumption | omega))))) | (with_reducible ((with_reducible show wpAny _ _ (call (Value.ref 28) [Value.ref _]) _ _ _); (with_reducible rename Fr _ _ _ _ => kFq9); (with_reducible rename News _ _ _ _ => kNq9); k_dflt (refine' dedup_con (Cx.any (by assumption) (Fr.keep kFq9)) ?kdq8 ?kuq8 ?klq8 (hbK _ fun p hp => (kNq9 p (by (repeat (first | assumption | (refine List.mem_append_left _ ?_) | refine List.mem_cons_of_mem _ ?_)))).1) ?kwq8 ?kzq8 ?_; (case kdq8 => decide); (case kuq8 => decide); (case klq8 => exact News.isList kNq9 (by k_mem)); (case kwq8 => assumption); (case kzq8 => assumption)); intro bD uD kD h' tk' hk' hg' hn' wD lD; (have F'q9 := Fr.after kFq9 hk'); (have N'q9 := newsMore kFq9 kNq9 hk' hg' hn'); clear hk' hg' hn'; clear kNq9 kFq9; (try dsimp only); (try k_fold))) | (with_reducible ((with_reducible show wpAny _ _ (binaryOp PySem.Operator.Pow (Value.int _ _) (Value.int _ _)) _ _ _); (k_dflt (refine' powV ?aq8 ?bq8 ?_; (case aq8 => first | exact Int.natCast_nonneg _ | omega); (case bq8 => first | exact Int.ofNat_le.mpr (Nat.le_trans (by assumption) (by decide)) | omega)); intro t'q9 k'q9))) | (with_reducible ((with_reducible show wpAny _ _ (call (Value.builtin _) [Value.ref _]) _ _ _); k_dflt (refine' lenV (News.isList (by with_reducible assumption) (by k_mem)) ?zq8 ?_; (case zq8 => first | exact Nat.le_trans (by assumption) (by decide) | omega)); intro t'q9 k'q9)) | (with_reducible ((with_reducible show wpAny _ _ (call (Value.ref 144) [Value.ref _]) _ _ _); (with_reducible rename Fr _ _ _ _ => kFq9); (with_reducible rename News _ _ _ _ => kNq9); k_dflt (refine' basis_con (Cx.any (by assumption) (Fr.keep kFq9)) ?kdq8 ?kuq8 ?klq8 ?kiq8 ?kzq8 ?_; (case kdq8 => decide); (case kuq8 => decide); (case klq8 => exact News.isList kNq9 (by k_mem)); (case kiq8 => assumption); (case kzq8 => first | (first | (rw [List.length_take]; omega) | (rw [List.length_drop]; omega) | omega) | (rw [List.length_take]; omega) | (rw [List.length_drop]; omega) | omega)); intro bB vB kB h' tk' hk' hg' hn' iB; (have F'q9 := Fr.after kFq9 hk'); (have N'q9 := newsMore kFq9 kNq9 hk' hg' hn'); (have lB := newsNe kNq9 hn'); clear hk' hg' hn'; clear kNq9 kFq9; (try dsimp only); (try k_fold))) | (with_reducible ((with_reducible show wpAny _ _ (call (Value.ref 158) [Value.ref _]) _ _ _); (with_reducible rename Fr _ _ _ _ => kFq9); (with_reducible rename News _ _ _ _ => kNq9); k_dflt (refine' sums_con (Cx.any (by assumption) (Fr.keep kFq9)) ?kdq8 ?kuq8 ?klq8 ?kiq8 ?knq8 ?kzq8 ?_; (case kdq8 => decide); (case kuq8 => decide); (case klq8 => exact News.isList kNq9 (by k_mem)); (case kiq8 => assumption); (case knq8 => exact fun n hn => hn16 n (by first | exact List.mem_of_mem_take hn | exact List.mem_of_mem_drop hn)); (case kzq8 => (first | (rw [List.length_take]; omega) | (rw [List.length_drop]; omega) | omega))); intro bS vS kS WS h' tk' hk' hg' oS wS; (have F'q9 := Fr.after kFq9 hk'); (have N'q9 := newsMores kFq9 kNq9 hk' hg'); (dsimp only [List.cons_append, List.nil_append] at N'q9); (have lS := fun p hp => newsNe kNq9 (hg' p hp).2); clear hk' hg'; clear kNq9 kFq9; (try dsimp only); (try k_fold))) | ((with_reducible show wpAny _ _ (call _ [Value.bytes _ _]) _ _ _); refine call_type_of (Tx := "bytes") rfl (by decide +kernel) ?_) | (with_reducible ((with_reducible show wpAny _ _ (storeName _ _ _) _ _ _); k_dflt (refine' storeM ?Fq7 ?Nq7 ?_ ?aq7 ?bq7; (case Fq7 => k_asm); (case Nq7 => k_asm); (case aq7 => rfl); (case bq7 => rfl); k_whole; intro m'q7 h'q7 F'q7 N'q7; (try k_sweep)))) | (with_reducible ((with_reducible show wpAny _ _ (eval (PySem.Expr.Name _ _) _) _ _ _); k_dflt (refine' nameX_L ?Fq7 ?vq7 ?_ ?aq7 ?bq7; (case Fq7 => k_asm); (case aq7 => rfl); (case bq7 => rfl); (case vq7 => exact Eq.refl (some _)); k_whole))) | ((with_reducible show InvEnd _ _ _ _ _ _); ((with_reducible rename Fr _ _ _ _ => kFq7); first | ((dsimp +zetaDelta only at kFq7); (try dsimp +zetaDelta only)) | dsimp +zetaDelta only)) | ((with_reducible show InvEndG _ _ _ _ _ _); ((with_reducible rename Fr _ _ _ _ => kFq7); first | ((dsimp +zetaDelta only at kFq7); (try dsimp +zetaDelta only)) | dsimp +zetaDelta only)) | walk1 | (dsimp only; walk1) | (leave1; (try dsimp only)) | fail "no step") <;> (repeat ((fail_if_success (fail_if_success ((generalize qx = zq); (with_reducible show zq _ _)))); k_unfold; (try clear qx); (try (first | refine wpI (P := wpAny _ _ _ _ _ ⟨_, s.gens, s.drawn, _, s.os⟩) ?_ | refine wpI (P := wpAny _ _ _ _ _ _) ?_)); (try dsimp only)))))
  rename Fr _ _ _ _ => F
  refine LCg.Assign_ListComp_U (F₀ := F) (by rfl) (by with_unfolding_all rfl) (by rfl) (by decide) (by rfl) (by decide) (by rfl) (by rfl) (by rfl) ?_
  iterate 31 ((try ((with_reducible show wpAny _ _ (execs _ _) _ _ _); k_gentoks)); (try ((with_reducible show wpAny _ _ (exec _ _) _ _ _); (with_reducible refine foldQ ?_); intro qx)); (first | (k_unfold; (try (first | refine wpI (P := wpAny _ _ _ _ _ ⟨_, s.gens, s.drawn, _, s.os⟩) ?_ | refine wpI (P := wpAny _ _ _ _ _ _) ?_)); (try dsimp only)) | (k_end; kc_close) | (with_reducible ((with_reducible show wpAny _ _ (call (Value.builtin _) [Value.int _ _, Value.int _ _]) _ _ _); k_dflt (refine' maxW rfl ?Fq8 ?Nq8 ?eq8 ?_; (case Fq8 => with_reducible assumption); (case Nq8 => with_reducible assumption); (case eq8 => with_reducible assumption)); intro h'q9 t'q9 k'q9 F'q9 N'q9)) | (with_reducible ((with_reducible show wpAny _ _ (call (Value.ref 163) [Value.ref _, Value.ref _]) _ _ _); (with_reducible rename Fr _ _ _ _ => kFq9); (with_reducible rename News _ _ _ _ => kNq9); k_dflt (refine' only_con (Cx.any (by assumption) (Fr.keep kFq9)) ?kdq8 ?kuq8 ?klq8 ?kiq8 ?kmq8 ?kjq8 ?_; (case kdq8 => decide); (case kuq8 => decide); (case klq8 => exact News.isList kNq9 (by k_mem)); (case kiq8 => assumption); (case kmq8 => exact News.isList kNq9 (by k_mem)); (case kjq8 => assumption)); intro bO vO cO WO h' tk' hk' hg' wO; (have F'q9 := Fr.after kFq9 hk'); (have N'q9 := newsMores2 kFq9 kNq9 hk' hg'); (dsimp only [List.cons_append, List.nil_append] at N'q9); clear hk' hg'; clear kNq9 kFq9; (try dsimp only); (try k_fold))) | (with_reducible ((with_reducible show wpAny _ _ (compareOp PySem.CmpOp.NotEq (Value.int _ _) (Value.int _ _)) _ _ _); (k_dflt (refine' neV ?eq8 ?_; (case eq8 => first | assumption | omega))))) | (with_reducible ((with_reducible show wpAny _ _ (call (Value.ref 28) [Value.ref _]) _ _ _); (with_reducible rename Fr _ _ _ _ => kFq9); (with_reducible rename News _ _ _ _ => kNq9); k_dflt (refine' dedup_con (Cx.any (by assumption) (Fr.keep kFq9)) ?kdq8 ?kuq8 ?klq8 (hbK _ fun p hp => (kNq9 p (by (repeat (first | assumption | (refine List.mem_append_left _ ?_) | refine List.mem_cons_of_mem _ ?_)))).1) ?kwq8 ?kzq8 ?_; (case kdq8 => decide); (case kuq8 => decide); (case klq8 => exact News.isList kNq9 (by k_mem)); (case kwq8 => assumption); (case kzq8 => assumption)); intro bD uD kD h' tk' hk' hg' hn' wD lD; (have F'q9 := Fr.after kFq9 hk'); (have N'q9 := newsMore kFq9 kNq9 hk' hg' hn'); clear hk' hg' hn'; clear kNq9 kFq9; (try dsimp only); (try k_fold))) | (with_reducible ((with_reducible show wpAny _ _ (binaryOp PySem.Operator.Pow (Value.int _ _) (Value.int _ _)) _ _ _); (k_dflt (refine' powV ?aq8 ?bq8 ?_; (case aq8 => first | exact Int.natCast_nonneg _ | omega); (case bq8 => first | exact Int.ofNat_le.mpr (Nat.le_trans (by assumption) (by decide)) | omega)); intro t'q9 k'q9))) | (with_reducible ((with_reducible show wpAny _ _ (call (Value.builtin _) [Value.ref _]) _ _ _); k_dflt (refine' lenV (News.isList (by with_reducible assumption) (by k_mem)) ?zq8 ?_; (case zq8 => first | exact Nat.le_trans (by assumption) (by decide) | omega)); intro t'q9 k'q9)) | (with_reducible ((with_reducible show wpAny _ _ (call (Value.ref 144) [Value.ref _]) _ _ _); (with_reducible rename Fr _ _ _ _ => kFq9); (with_reducible rename News _ _ _ _ => kNq9); k_dflt (refine' basis_con (Cx.any (by assumption) (Fr.keep kFq9)) ?kdq8 ?kuq8 ?klq8 ?kiq8 ?kzq8 ?_; (case kdq8 => decide); (case kuq8 => decide); (case klq8 => exact News.isList kNq9 (by k_mem)); (case kiq8 => assumption); (case kzq8 => first | (first | (rw [List.length_take]; omega) | (rw [List.length_drop]; omega) | omega) | (rw [List.length_take]; omega) | (rw [List.length_drop]; omega) | omega)); intro bB vB kB h' tk' hk' hg' hn' iB; (have F'q9 := Fr.after kFq9 hk'); (have N'q9 := newsMore kFq9 kNq9 hk' hg' hn'); (have lB := newsNe kNq9 hn'); clear hk' hg' hn'; clear kNq9 kFq9; (try dsimp only); (try k_fold))) | (with_reducible ((with_reducible show wpAny _ _ (call (Value.ref 158) [Value.ref _]) _ _ _); (with_reducible rename Fr _ _ _ _ => kFq9); (with_reducible rename News _ _ _ _ => kNq9); k_dflt (refine' sums_con (Cx.any (by assumption) (Fr.keep kFq9)) ?kdq8 ?kuq8 ?klq8 ?kiq8 ?knq8 ?kzq8 ?_; (case kdq8 => decide); (case kuq8 => decide); (case klq8 => exact News.isList kNq9 (by k_mem)); (case kiq8 => assumption); (case knq8 => exact fun n hn => hn16 n (by first | exact List.mem_of_mem_take hn | exact List.mem_of_mem_drop hn)); (case kzq8 => (first | (rw [List.length_take]; omega) | (rw [List.length_drop]; omega) | omega))); intro bS vS kS WS h' tk' hk' hg' oS wS; (have F'q9 := Fr.after kFq9 hk'); (have N'q9 := newsMores kFq9 kNq9 hk' hg'); (dsimp only [List.cons_append, List.nil_append] at N'q9); (have lS := fun p hp => newsNe kNq9 (hg' p hp).2); clear hk' hg'; clear kNq9 kFq9; (try dsimp only); (try k_fold))) | ((with_reducible show wpAny _ _ (call _ [Value.bytes _ _]) _ _ _); refine call_type_of (Tx := "bytes") rfl (by decide +kernel) ?_) | (with_reducible ((with_reducible show wpAny _ _ (storeName _ _ _) _ _ _); k_dflt (refine' storeM ?Fq7 ?Nq7 ?_ ?aq7 ?bq7; (case Fq7 => k_asm); (case Nq7 => k_asm); (case aq7 => rfl); (case bq7 => rfl); k_whole; intro m'q7 h'q7 F'q7 N'q7; (try k_sweep)))) | (with_reducible ((with_reducible show wpAny _ _ (eval (PySem.Expr.Name _ _) _) _ _ _); k_dflt (refine' nameX_L ?Fq7 ?vq7 ?_ ?aq7 ?bq7; (case Fq7 => k_asm); (case aq7 => rfl); (case bq7 => rfl); (case vq7 => exact Eq.refl (some _)); k_whole))) | ((with_reducible show InvEnd _ _ _ _ _ _); ((with_reducible rename Fr _ _ _ _ => kFq7); first | ((dsimp +zetaDelta only at kFq7); (try dsimp +zetaDelta only)) | dsimp +zetaDelta only)) | ((with_reducible show InvEndG _ _ _ _ _ _); ((with_reducible rename Fr _ _ _ _ => kFq7); first | ((dsimp +zetaDelta only at kFq7); (try dsimp +zetaDelta only)) | dsimp +zetaDelta only)) | walk1 | (dsimp only; walk1) | (leave1; (try dsimp only)) | fail "no step") <;> (repeat ((fail_if_success (fail_if_success ((generalize qx = zq); (with_reducible show zq _ _)))); k_unfold; (try clear qx); (try (first | refine wpI (P := wpAny _ _ _ _ _ ⟨_, s.gens, s.drawn, _, s.os⟩) ?_ | refine wpI (P := wpAny _ _ _ _ _ _) ?_)); (try dsimp only))))
  rename Fr _ _ _ _ => F
  rename News _ _ _ _ => N
  rename IntsAre _ (_ ++ _) => hI1
  refine kba_turn (value' := PySem.Expr.Name (PySem.Str.ofString "_") ⟨0, 0, 0, 0⟩) (fun _ => rfl) ?_
  refine kmk_slice F N (News.isList N (.head _)) IsPart.none (IsPart.int _ _) ?_ (by with_unfolding_all rfl) (by intro _; with_unfolding_all rfl) (by rw [List.size_toArray, hI1.length, sizeLine_eq, List.length_append, List.length_take]; simp only [List.length_cons, List.length_nil]; omega)
  intro D0 h0 F0 N0 l0
  have hI2 := slice_ints_uptoW hI1 (y := 6) (by decide)
  rw [show Int.toNat 6 = 6 from rfl] at hI2
  generalize hns6 : List.take 6 _ = ns6 at hI2
  generalize slicePick _ none _ none = its6 at hI2 N0
  have hl6 : ns6.length = 6 := by
    rw [← hns6, List.length_take, List.length_append, List.length_take]
    simp only [List.length_cons, List.length_nil]
    omega
  have hz6 : its6.size = 6 := by rw [← Array.length_toList, hI2.length, hl6]
  refine LCg.CompSrc.ledger (by rfl) F0 N0 (.head _) (by rw [hz6, sizeLine_eq]; decide) ?_
  intro g'
  rw [hz6]
  refine compU_ind (fun i ys news => news = _ ∧ IntsAre ys ((ns6.take i).map fun x => Int.fmod x 16)) ?fin ?step 6 0 [] _ rfl ⟨rfl, .nil⟩
  case fin =>
    rintro ys news ⟨rfl, hy⟩
    unfold LCg.FinA
    intro D h tk F N o1'
    have N : News _ _ h [(D, listOf ys.toArray ys.length)] := fun p hp => N p (by rw [List.mem_singleton.mp hp]; exact .head _)
    rw [show ns6.take (6 + 0) = ns6 from by rw [Nat.add_zero, ← hl6, List.take_length]] at hy
    generalize hnn : List.map (fun x => Int.fmod x 16) ns6 = nn at hy
    have hn16 : ∀ n ∈ nn, 0 ≤ n ∧ n < 16 := by
      rw [← hnn]
      intro n hn
      obtain ⟨a, _, rfl⟩ := List.mem_map.mp hn
      exact ⟨Int.fmod_nonneg_of_pos _ (by decide), Int.fmod_lt_of_pos _ (by decide)⟩
    have hln : nn.length = 6 := by rw [← hnn, List.length_map, hl6]
    clear hnn hns6 hz6 hI1 N0 o1'
    dsimp only
    repeat ((fail_if_success (with_reducible show wpAny _ _ (storeName _ (Str.ofString "mine") _) _ _ _)); ((try ((with_reducible show wpAny _ _ (execs _ _) _ _ _); k_gentoks)); (try ((with_reducible show wpAny _ _ (exec _ _) _ _ _); (with_reducible refine foldQ ?_); intro qx)); (first | (k_unfold; (try (first | refine wpI (P := wpAny _ _ _ _ _ ⟨_, s.gens, s.drawn, _, s.os⟩) ?_ | refine wpI (P := wpAny _ _ _ _ _ _) ?_)); (try dsimp only)) | (k_end; kc_close) | (with_reducible ((with_reducible show wpAny _ _ (call (Value.builtin _) [Value.int _ _, Value.int _ _]) _ _ _); k_dflt (refine' maxW rfl ?Fq8 ?Nq8 ?eq8 ?_; (case Fq8 => with_reducible assumption); (case Nq8 => with_reducible assumption); (case eq8 => with_reducible assumption)); intro h'q9 t'q9 k'q9 F'q9 N'q9)) | (with_reducible ((with_reducible show wpAny _ _ (call (Value.ref 163) [Value.ref _, Value.ref _]) _ _ _); (with_reducible rename Fr _ _ _ _ => kFq9); (with_reducible rename News _ _ _ _ => kNq9); k_dflt (refine' only_con (Cx.any (by assumption) (Fr.keep kFq9)) ?kdq8 ?kuq8 ?klq8 ?kiq8 ?kmq8 ?kjq8 ?_; (case kdq8 => decide); (case kuq8 => decide); (case klq8 => exact News.isList kNq9 (by k_mem)); (case kiq8 => assumption); (case kmq8 => exact News.isList kNq9 (by k_mem)); (case kjq8 => assumption)); intro bO vO cO WO h' tk' hk' hg' wO; (have F'q9 := Fr.after kFq9 hk'); (have N'q9 := newsMores2 kFq9 kNq9 hk' hg'); (dsimp only [List.cons_append, List.nil_append] at N'q9); clear hk' hg'; clear kNq9 kFq9; (try dsimp only); (try k_fold))) | (with_reducible ((with_reducible show wpAny _ _ (compareOp PySem.CmpOp.NotEq (Value.int _ _) (Value.int _ _)) _ _ _); (k_dflt (refine' neV ?eq8 ?_; (case eq8 => first | assumption | omega))))) | (with_reducible ((with_reducible show wpAny _ _ (call (Value.ref 28) [Value.ref _]) _ _ _); (with_reducible rename Fr _ _ _ _ => kFq9); (with_reducible rename News _ _ _ _ => kNq9); k_dflt (refine' dedup_con (Cx.any (by assumption) (Fr.keep kFq9)) ?kdq8 ?kuq8 ?klq8 (hbK _ fun p hp => (kNq9 p (by (repeat (first | assumption | (refine List.mem_append_left _ ?_) | refine List.mem_cons_of_mem _ ?_)))).1) ?kwq8 ?kzq8 ?_; (case kdq8 => decide); (case kuq8 => decide); (case klq8 => exact News.isList kNq9 (by k_mem)); (case kwq8 => assumption); (case kzq8 => assumption)); intro bD uD kD h' tk' hk' hg' hn' wD lD; (have F'q9 := Fr.after kFq9 hk'); (have N'q9 := newsMore kFq9 kNq9 hk' hg' hn'); clear hk' hg' hn'; clear kNq9 kFq9; (try dsimp only); (try k_fold))) | (with_reducible ((with_reducible show wpAny _ _ (binaryOp PySem.Operator.Pow (Value.int _ _) (Value.int _ _)) _ _ _); (k_dflt (refine' powV ?aq8 ?bq8 ?_; (case aq8 => first | exact Int.natCast_nonneg _ | omega); (case bq8 => first | exact Int.ofNat_le.mpr (Nat.le_trans (by assumption) (by decide)) | omega)); intro t'q9 k'q9))) | (with_reducible ((with_reducible show wpAny _ _ (call (Value.builtin _) [Value.ref _]) _ _ _); k_dflt (refine' lenV (News.isList (by with_reducible assumption) (by k_mem)) ?zq8 ?_; (case zq8 => first | exact Nat.le_trans (by assumption) (by decide) | omega)); intro t'q9 k'q9)) | (with_reducible ((with_reducible show wpAny _ _ (call (Value.ref 144) [Value.ref _]) _ _ _); (with_reducible rename Fr _ _ _ _ => kFq9); (with_reducible rename News _ _ _ _ => kNq9); k_dflt (refine' basis_con (Cx.any (by assumption) (Fr.keep kFq9)) ?kdq8 ?kuq8 ?klq8 ?kiq8 ?kzq8 ?_; (case kdq8 => decide); (case kuq8 => decide); (case klq8 => exact News.isList kNq9 (by k_mem)); (case kiq8 => assumption); (case kzq8 => first | (first | (rw [List.length_take]; omega) | (rw [List.length_drop]; omega) | omega) | (rw [List.length_take]; omega) | (rw [List.length_drop]; omega) | omega)); intro bB vB kB h' tk' hk' hg' hn' iB; (have F'q9 := Fr.after kFq9 hk'); (have N'q9 := newsMore kFq9 kNq9 hk' hg' hn'); (have lB := newsNe kNq9 hn'); clear hk' hg' hn'; clear kNq9 kFq9; (try dsimp only); (try k_fold))) | (with_reducible ((with_reducible show wpAny _ _ (call (Value.ref 158) [Value.ref _]) _ _ _); (with_reducible rename Fr _ _ _ _ => kFq9); (with_reducible rename News _ _ _ _ => kNq9); k_dflt (refine' sums_con (Cx.any (by assumption) (Fr.keep kFq9)) ?kdq8 ?kuq8 ?klq8 ?kiq8 ?knq8 ?kzq8 ?_; (case kdq8 => decide); (case kuq8 => decide); (case klq8 => exact News.isList kNq9 (by k_mem)); (case kiq8 => assumption); (case knq8 => exact fun n hn => hn16 n (by first | exact List.mem_of_mem_take hn | exact List.mem_of_mem_drop hn)); (case kzq8 => (first | (rw [List.length_take]; omega) | (rw [List.length_drop]; omega) | omega))); intro b1 v1 k1 W1 h' tk' hk' hg' o1 w1; (have F'q9 := Fr.after kFq9 hk'); (have N'q9 := newsMores kFq9 kNq9 hk' hg'); (dsimp only [List.cons_append, List.nil_append] at N'q9); (have l1 := fun p hp => newsNe kNq9 (hg' p hp).2); clear hk' hg'; clear kNq9 kFq9; (try dsimp only); (try k_fold))) | ((with_reducible show wpAny _ _ (call _ [Value.bytes _ _]) _ _ _); refine call_type_of (Tx := "bytes") rfl (by decide +kernel) ?_) | (with_reducible ((with_reducible show wpAny _ _ (storeName _ _ _) _ _ _); k_dflt (refine' storeM ?Fq7 ?Nq7 ?_ ?aq7 ?bq7; (case Fq7 => k_asm); (case Nq7 => k_asm); (case aq7 => rfl); (case bq7 => rfl); k_whole; intro m'q7 h'q7 F'q7 N'q7; (try k_sweep)))) | (with_reducible ((with_reducible show wpAny _ _ (eval (PySem.Expr.Name _ _) _) _ _ _); k_dflt (refine' nameX_L ?Fq7 ?vq7 ?_ ?aq7 ?bq7; (case Fq7 => k_asm); (case aq7 => rfl); (case bq7 => rfl); (case vq7 => exact Eq.refl (some _)); k_whole))) | ((with_reducible show InvEnd _ _ _ _ _ _); ((with_reducible rename Fr _ _ _ _ => kFq7); first | ((dsimp +zetaDelta only at kFq7); (try dsimp +zetaDelta only)) | dsimp +zetaDelta only)) | ((with_reducible show InvEndG _ _ _ _ _ _); ((with_reducible rename Fr _ _ _ _ => kFq7); first | ((dsimp +zetaDelta only at kFq7); (try dsimp +zetaDelta only)) | dsimp +zetaDelta only)) | walk1 | (dsimp only; walk1) | (leave1; (try dsimp only)) | fail "no step") <;> (repeat ((fail_if_success (fail_if_success ((generalize qx = zq); (with_reducible show zq _ _)))); k_unfold; (try clear qx); (try (first | refine wpI (P := wpAny _ _ _ _ _ ⟨_, s.gens, s.drawn, _, s.os⟩) ?_ | refine wpI (P := wpAny _ _ _ _ _ _) ?_)); (try dsimp only)))))
    repeat ((fail_if_success (with_reducible show wpAny _ _ (storeName _ (Str.ofString "yours") _) _ _ _)); ((try ((with_reducible show wpAny _ _ (execs _ _) _ _ _); k_gentoks)); (try ((with_reducible show wpAny _ _ (exec _ _) _ _ _); (with_reducible refine foldQ ?_); intro qx)); (first | (k_unfold; (try (first | refine wpI (P := wpAny _ _ _ _ _ ⟨_, s.gens, s.drawn, _, s.os⟩) ?_ | refine wpI (P := wpAny _ _ _ _ _ _) ?_)); (try dsimp only)) | (k_end; kc_close) | (with_reducible ((with_reducible show wpAny _ _ (call (Value.builtin _) [Value.int _ _, Value.int _ _]) _ _ _); k_dflt (refine' maxW rfl ?Fq8 ?Nq8 ?eq8 ?_; (case Fq8 => with_reducible assumption); (case Nq8 => with_reducible assumption); (case eq8 => with_reducible assumption)); intro h'q9 t'q9 k'q9 F'q9 N'q9)) | (with_reducible ((with_reducible show wpAny _ _ (call (Value.ref 163) [Value.ref _, Value.ref _]) _ _ _); (with_reducible rename Fr _ _ _ _ => kFq9); (with_reducible rename News _ _ _ _ => kNq9); k_dflt (refine' only_con (Cx.any (by assumption) (Fr.keep kFq9)) ?kdq8 ?kuq8 ?klq8 ?kiq8 ?kmq8 ?kjq8 ?_; (case kdq8 => decide); (case kuq8 => decide); (case klq8 => exact News.isList kNq9 (by k_mem)); (case kiq8 => assumption); (case kmq8 => exact News.isList kNq9 (by k_mem)); (case kjq8 => assumption)); intro bO vO cO WO h' tk' hk' hg' wO; (have F'q9 := Fr.after kFq9 hk'); (have N'q9 := newsMores2 kFq9 kNq9 hk' hg'); (dsimp only [List.cons_append, List.nil_append] at N'q9); clear hk' hg'; clear kNq9 kFq9; (try dsimp only); (try k_fold))) | (with_reducible ((with_reducible show wpAny _ _ (compareOp PySem.CmpOp.NotEq (Value.int _ _) (Value.int _ _)) _ _ _); (k_dflt (refine' neV ?eq8 ?_; (case eq8 => first | assumption | omega))))) | (with_reducible ((with_reducible show wpAny _ _ (call (Value.ref 28) [Value.ref _]) _ _ _); (with_reducible rename Fr _ _ _ _ => kFq9); (with_reducible rename News _ _ _ _ => kNq9); k_dflt (refine' dedup_con (Cx.any (by assumption) (Fr.keep kFq9)) ?kdq8 ?kuq8 ?klq8 (hbK _ fun p hp => (kNq9 p (by (repeat (first | assumption | (refine List.mem_append_left _ ?_) | refine List.mem_cons_of_mem _ ?_)))).1) ?kwq8 ?kzq8 ?_; (case kdq8 => decide); (case kuq8 => decide); (case klq8 => exact News.isList kNq9 (by k_mem)); (case kwq8 => assumption); (case kzq8 => assumption)); intro bD uD kD h' tk' hk' hg' hn' wD lD; (have F'q9 := Fr.after kFq9 hk'); (have N'q9 := newsMore kFq9 kNq9 hk' hg' hn'); clear hk' hg' hn'; clear kNq9 kFq9; (try dsimp only); (try k_fold))) | (with_reducible ((with_reducible show wpAny _ _ (binaryOp PySem.Operator.Pow (Value.int _ _) (Value.int _ _)) _ _ _); (k_dflt (refine' powV ?aq8 ?bq8 ?_; (case aq8 => first | exact Int.natCast_nonneg _ | omega); (case bq8 => first | exact Int.ofNat_le.mpr (Nat.le_trans (by assumption) (by decide)) | omega)); intro t'q9 k'q9))) | (with_reducible ((with_reducible show wpAny _ _ (call (Value.builtin _) [Value.ref _]) _ _ _); k_dflt (refine' lenV (News.isList (by with_reducible assumption) (by k_mem)) ?zq8 ?_; (case zq8 => first | exact Nat.le_trans (by assumption) (by decide) | omega)); intro t'q9 k'q9)) | (with_reducible ((with_reducible show wpAny _ _ (call (Value.ref 144) [Value.ref _]) _ _ _); (with_reducible rename Fr _ _ _ _ => kFq9); (with_reducible rename News _ _ _ _ => kNq9); k_dflt (refine' basis_con (Cx.any (by assumption) (Fr.keep kFq9)) ?kdq8 ?kuq8 ?klq8 ?kiq8 ?kzq8 ?_; (case kdq8 => decide); (case kuq8 => decide); (case klq8 => exact News.isList kNq9 (by k_mem)); (case kiq8 => assumption); (case kzq8 => first | (first | (rw [List.length_take]; omega) | (rw [List.length_drop]; omega) | omega) | (rw [List.length_take]; omega) | (rw [List.length_drop]; omega) | omega)); intro bB vB kB h' tk' hk' hg' hn' iB; (have F'q9 := Fr.after kFq9 hk'); (have N'q9 := newsMore kFq9 kNq9 hk' hg' hn'); (have lB := newsNe kNq9 hn'); clear hk' hg' hn'; clear kNq9 kFq9; (try dsimp only); (try k_fold))) | (with_reducible ((with_reducible show wpAny _ _ (call (Value.ref 158) [Value.ref _]) _ _ _); (with_reducible rename Fr _ _ _ _ => kFq9); (with_reducible rename News _ _ _ _ => kNq9); k_dflt (refine' sums_con (Cx.any (by assumption) (Fr.keep kFq9)) ?kdq8 ?kuq8 ?klq8 ?kiq8 ?knq8 ?kzq8 ?_; (case kdq8 => decide); (case kuq8 => decide); (case klq8 => exact News.isList kNq9 (by k_mem)); (case kiq8 => assumption); (case knq8 => exact fun n hn => hn16 n (by first | exact List.mem_of_mem_take hn | exact List.mem_of_mem_drop hn)); (case kzq8 => (first | (rw [List.length_take]; omega) | (rw [List.length_drop]; omega) | omega))); intro b2 v2 k2 WS h' tk' hk' hg' oS wS; (have F'q9 := Fr.after kFq9 hk'); (have N'q9 := newsMores kFq9 kNq9 hk' hg'); (dsimp only [List.cons_append, List.nil_append] at N'q9); (have lS := fun p hp => newsNe kNq9 (hg' p hp).2); clear hk' hg'; clear kNq9 kFq9; (try dsimp only); (try k_fold))) | ((with_reducible show wpAny _ _ (call _ [Value.bytes _ _]) _ _ _); refine call_type_of (Tx := "bytes") rfl (by decide +kernel) ?_) | (with_reducible ((with_reducible show wpAny _ _ (storeName _ _ _) _ _ _); k_dflt (refine' storeM ?Fq7 ?Nq7 ?_ ?aq7 ?bq7; (case Fq7 => k_asm); (case Nq7 => k_asm); (case aq7 => rfl); (case bq7 => rfl); k_whole; intro m'q7 h'q7 F'q7 N'q7; (try k_sweep)))) | (with_reducible ((with_reducible show wpAny _ _ (eval (PySem.Expr.Name _ _) _) _ _ _); k_dflt (refine' nameX_L ?Fq7 ?vq7 ?_ ?aq7 ?bq7; (case Fq7 => k_asm); (case aq7 => rfl); (case bq7 => rfl); (case vq7 => exact Eq.refl (some _)); k_whole))) | ((with_reducible show InvEnd _ _ _ _ _ _); ((with_reducible rename Fr _ _ _ _ => kFq7); first | ((dsimp +zetaDelta only at kFq7); (try dsimp +zetaDelta only)) | dsimp +zetaDelta only)) | ((with_reducible show InvEndG _ _ _ _ _ _); ((with_reducible rename Fr _ _ _ _ => kFq7); first | ((dsimp +zetaDelta only at kFq7); (try dsimp +zetaDelta only)) | dsimp +zetaDelta only)) | walk1 | (dsimp only; walk1) | (leave1; (try dsimp only)) | fail "no step") <;> (repeat ((fail_if_success (fail_if_success ((generalize qx = zq); (with_reducible show zq _ _)))); k_unfold; (try clear qx); (try (first | refine wpI (P := wpAny _ _ _ _ _ ⟨_, s.gens, s.drawn, _, s.os⟩) ?_ | refine wpI (P := wpAny _ _ _ _ _ _) ?_)); (try dsimp only)))))
    rename Fr _ _ _ _ => F
    rename News _ _ _ _ => N
    have N2 : News _ _ _ ((b2, listOf (List.toArray v2) k2) :: (b1, listOf (List.toArray v1) k1) :: (D, listOf ys.toArray ys.length) :: (WS ++ W1)) := newsC (by first | k_mem | simp) N (newsC (by first | k_mem | simp) N (newsC (by first | k_mem | simp) N (newsW N (fun p hp => by rcases List.mem_append.mp hp with h | h <;> simp [h]))))
    have dB : b1 ≠ b2 := lS _ (.head _) (b1, listOf (List.toArray v1) k1) (.tail _ (.tail _ (.tail _ (.head _))))
    have dW1 : ∀ p ∈ WS ++ W1, p.1 ≠ b1 := fun p hp => by
      rcases List.mem_append.mp hp with hp | hp
      · exact Ne.symm (lS p (.tail _ hp) (b1, listOf (List.toArray v1) k1) (.tail _ (.tail _ (.tail _ (.head _)))))
      · exact o1 p hp
    have dW2 : ∀ p ∈ WS ++ W1, p.1 ≠ b2 := fun p hp => by
      rcases List.mem_append.mp hp with hp | hp
      · exact oS p hp
      · exact lS _ (.head _) p (.tail _ (.tail _ (.tail _ (.tail _ hp))))
    obtain ⟨hb, hbW, hbK⟩ := heapOf (W := WS ++ W1) (fun p hp => (N2 p (.tail _ (.tail _ (.tail _ hp)))).1)
    have wm := hbW _ _ (w1.mono fun p hp => List.mem_append_right _ hp)
    have wy := hbW _ _ (wS.mono fun p hp => List.mem_append_left _ hp)
    clear hbW lS l1 oS o1 w1 wS N
    revert N2 dW1 dW2 hbK
    generalize WS ++ W1 = WW
    intro N2 dW1 dW2 hbK
    repeat ((fail_if_success (with_reducible show wpAny _ _ (storeName _ (Str.ofString "here") _) _ _ _)); ((try ((with_reducible show wpAny _ _ (execs _ _) _ _ _); k_gentoks)); (try ((with_reducible show wpAny _ _ (exec _ _) _ _ _); (with_reducible refine foldQ ?_); intro qx)); (first | (k_unfold; (try (first | refine wpI (P := wpAny _ _ _ _ _ ⟨_, s.gens, s.drawn, _, s.os⟩) ?_ | refine wpI (P := wpAny _ _ _ _ _ _) ?_)); (try dsimp only)) | (k_end; kc_close) | (with_reducible ((with_reducible show wpAny _ _ (call (Value.builtin _) [Value.int _ _, Value.int _ _]) _ _ _); k_dflt (refine' maxW rfl ?Fq8 ?Nq8 ?eq8 ?_; (case Fq8 => with_reducible assumption); (case Nq8 => with_reducible assumption); (case eq8 => with_reducible assumption)); intro h'q9 t'q9 k'q9 F'q9 N'q9)) | (with_reducible ((with_reducible show wpAny _ _ (call (Value.ref 163) [Value.ref _, Value.ref _]) _ _ _); (with_reducible rename Fr _ _ _ _ => kFq9); (with_reducible rename News _ _ _ _ => kNq9); k_dflt (refine' only_con (Cx.any (by assumption) (Fr.keep kFq9)) ?kdq8 ?kuq8 ?klq8 ?kiq8 ?kmq8 ?kjq8 ?_; (case kdq8 => decide); (case kuq8 => decide); (case klq8 => exact News.isList kNq9 (by k_mem)); (case kiq8 => assumption); (case kmq8 => exact News.isList kNq9 (by k_mem)); (case kjq8 => assumption)); intro bO vO cO WO h' tk' hk' hg' wO; (have F'q9 := Fr.after kFq9 hk'); (have N'q9 := newsMores2 kFq9 kNq9 hk' hg'); (dsimp only [List.cons_append, List.nil_append] at N'q9); clear hk' hg'; clear kNq9 kFq9; (try dsimp only); (try k_fold))) | (with_reducible ((with_reducible show wpAny _ _ (compareOp PySem.CmpOp.NotEq (Value.int _ _) (Value.int _ _)) _ _ _); (k_dflt (refine' neV ?eq8 ?_; (case eq8 => first | assumption | omega))))) | (with_reducible ((with_reducible show wpAny _ _ (call (Value.ref 28) [Value.ref _]) _ _ _); (with_reducible rename Fr _ _ _ _ => kFq9); (with_reducible rename News _ _ _ _ => kNq9); k_dflt (refine' dedup_con (Cx.any (by assumption) (Fr.keep kFq9)) ?kdq8 ?kuq8 ?klq8 (hbK _ fun p hp => (kNq9 p (by (repeat (first | assumption | (refine List.mem_append_left _ ?_) | refine List.mem_cons_of_mem _ ?_)))).1) ?kwq8 ?kzq8 ?_; (case kdq8 => decide); (case kuq8 => decide); (case klq8 => exact News.isList kNq9 (by k_mem)); (case kwq8 => assumption); (case kzq8 => assumption)); intro bD uD kD h' tk' hk' hg' hn' wD lD; (have F'q9 := Fr.after kFq9 hk'); (have N'q9 := newsMore kFq9 kNq9 hk' hg' hn'); clear hk' hg' hn'; clear kNq9 kFq9; (try dsimp only); (try k_fold))) | (with_reducible ((with_reducible show wpAny _ _ (binaryOp PySem.Operator.Pow (Value.int _ _) (Value.int _ _)) _ _ _); (k_dflt (refine' powV ?aq8 ?bq8 ?_; (case aq8 => first | exact Int.natCast_nonneg _ | omega); (case bq8 => first | exact Int.ofNat_le.mpr (Nat.le_trans (by assumption) (by decide)) | omega)); intro t'q9 k'q9))) | (with_reducible ((with_reducible show wpAny _ _ (call (Value.builtin _) [Value.ref _]) _ _ _); k_dflt (refine' lenV (News.isList (by with_reducible assumption) (by k_mem)) ?zq8 ?_; (case zq8 => first | exact Nat.le_trans (by assumption) (by decide) | omega)); intro t'q9 k'q9)) | (with_reducible ((with_reducible show wpAny _ _ (call (Value.ref 144) [Value.ref _]) _ _ _); (with_reducible rename Fr _ _ _ _ => kFq9); (with_reducible rename News _ _ _ _ => kNq9); k_dflt (refine' basis_con (Cx.any (by assumption) (Fr.keep kFq9)) ?kdq8 ?kuq8 ?klq8 ?kiq8 ?kzq8 ?_; (case kdq8 => decide); (case kuq8 => decide); (case klq8 => exact News.isList kNq9 (by k_mem)); (case kiq8 => assumption); (case kzq8 => first | (first | (rw [List.length_take]; omega) | (rw [List.length_drop]; omega) | omega) | (rw [List.length_take]; omega) | (rw [List.length_drop]; omega) | omega)); intro b3 v3 k3 h' tk' hk' hg' hn' i3; (have F'q9 := Fr.after kFq9 hk'); (have N'q9 := newsMore kFq9 kNq9 hk' hg' hn'); (have lB := newsNe kNq9 hn'); clear hk' hg' hn'; clear kNq9 kFq9; (try dsimp only); (try k_fold))) | (with_reducible ((with_reducible show wpAny _ _ (call (Value.ref 158) [Value.ref _]) _ _ _); (with_reducible rename Fr _ _ _ _ => kFq9); (with_reducible rename News _ _ _ _ => kNq9); k_dflt (refine' sums_con (Cx.any (by assumption) (Fr.keep kFq9)) ?kdq8 ?kuq8 ?klq8 ?kiq8 ?knq8 ?kzq8 ?_; (case kdq8 => decide); (case kuq8 => decide); (case klq8 => exact News.isList kNq9 (by k_mem)); (case kiq8 => assumption); (case knq8 => exact fun n hn => hn16 n (by first | exact List.mem_of_mem_take hn | exact List.mem_of_mem_drop hn)); (case kzq8 => (first | (rw [List.length_take]; omega) | (rw [List.length_drop]; omega) | omega))); intro bS vS kS WS h' tk' hk' hg' oS wS; (have F'q9 := Fr.after kFq9 hk'); (have N'q9 := newsMores kFq9 kNq9 hk' hg'); (dsimp only [List.cons_append, List.nil_append] at N'q9); (have lS := fun p hp => newsNe kNq9 (hg' p hp).2); clear hk' hg'; clear kNq9 kFq9; (try dsimp only); (try k_fold))) | ((with_reducible show wpAny _ _ (call _ [Value.bytes _ _]) _ _ _); refine call_type_of (Tx := "bytes") rfl (by decide +kernel) ?_) | (with_reducible ((with_reducible show wpAny _ _ (storeName _ _ _) _ _ _); k_dflt (refine' storeM ?Fq7 ?Nq7 ?_ ?aq7 ?bq7; (case Fq7 => k_asm); (case Nq7 => k_asm); (case aq7 => rfl); (case bq7 => rfl); k_whole; intro m'q7 h'q7 F'q7 N'q7; (try k_sweep)))) | (with_reducible ((with_reducible show wpAny _ _ (eval (PySem.Expr.Name _ _) _) _ _ _); k_dflt (refine' nameX_L ?Fq7 ?vq7 ?_ ?aq7 ?bq7; (case Fq7 => k_asm); (case aq7 => rfl); (case bq7 => rfl); (case vq7 => exact Eq.refl (some _)); k_whole))) | ((with_reducible show InvEnd _ _ _ _ _ _); ((with_reducible rename Fr _ _ _ _ => kFq7); first | ((dsimp +zetaDelta only at kFq7); (try dsimp +zetaDelta only)) | dsimp +zetaDelta only)) | ((with_reducible show InvEndG _ _ _ _ _ _); ((with_reducible rename Fr _ _ _ _ => kFq7); first | ((dsimp +zetaDelta only at kFq7); (try dsimp +zetaDelta only)) | dsimp +zetaDelta only)) | walk1 | (dsimp only; walk1) | (leave1; (try dsimp only)) | fail "no step") <;> (repeat ((fail_if_success (fail_if_success ((generalize qx = zq); (with_reducible show zq _ _)))); k_unfold; (try clear qx); (try (first | refine wpI (P := wpAny _ _ _ _ _ ⟨_, s.gens, s.drawn, _, s.os⟩) ?_ | refine wpI (P := wpAny _ _ _ _ _ _) ?_)); (try dsimp only)))))
    have d31 : b1 ≠ b3 := lB (b1, listOf (List.toArray v1) k1) (by k_mem)
    have d32 : b2 ≠ b3 := lB (b2, listOf (List.toArray v2) k2) (by k_mem)
    clear lB
    repeat ((fail_if_success (with_reducible show wpAny _ _ (storeName _ (Str.ofString "there") _) _ _ _)); ((try ((with_reducible show wpAny _ _ (execs _ _) _ _ _); k_gentoks)); (try ((with_reducible show wpAny _ _ (exec _ _) _ _ _); (with_reducible refine foldQ ?_); intro qx)); (first | (k_unfold; (try (first | refine wpI (P := wpAny _ _ _ _ _ ⟨_, s.gens, s.drawn, _, s.os⟩) ?_ | refine wpI (P := wpAny _ _ _ _ _ _) ?_)); (try dsimp only)) | (k_end; kc_close) | (with_reducible ((with_reducible show wpAny _ _ (call (Value.builtin _) [Value.int _ _, Value.int _ _]) _ _ _); k_dflt (refine' maxW rfl ?Fq8 ?Nq8 ?eq8 ?_; (case Fq8 => with_reducible assumption); (case Nq8 => with_reducible assumption); (case eq8 => with_reducible assumption)); intro h'q9 t'q9 k'q9 F'q9 N'q9)) | (with_reducible ((with_reducible show wpAny _ _ (call (Value.ref 163) [Value.ref _, Value.ref _]) _ _ _); (with_reducible rename Fr _ _ _ _ => kFq9); (with_reducible rename News _ _ _ _ => kNq9); k_dflt (refine' only_con (Cx.any (by assumption) (Fr.keep kFq9)) ?kdq8 ?kuq8 ?klq8 ?kiq8 ?kmq8 ?kjq8 ?_; (case kdq8 => decide); (case kuq8 => decide); (case klq8 => exact News.isList kNq9 (by k_mem)); (case kiq8 => assumption); (case kmq8 => exact News.isList kNq9 (by k_mem)); (case kjq8 => assumption)); intro bO vO cO WO h' tk' hk' hg' wO; (have F'q9 := Fr.after kFq9 hk'); (have N'q9 := newsMores2 kFq9 kNq9 hk' hg'); (dsimp only [List.cons_append, List.nil_append] at N'q9); clear hk' hg'; clear kNq9 kFq9; (try dsimp only); (try k_fold))) | (with_reducible ((with_reducible show wpAny _ _ (compareOp PySem.CmpOp.NotEq (Value.int _ _) (Value.int _ _)) _ _ _); (k_dflt (refine' neV ?eq8 ?_; (case eq8 => first | assumption | omega))))) | (with_reducible ((with_reducible show wpAny _ _ (call (Value.ref 28) [Value.ref _]) _ _ _); (with_reducible rename Fr _ _ _ _ => kFq9); (with_reducible rename News _ _ _ _ => kNq9); k_dflt (refine' dedup_con (Cx.any (by assumption) (Fr.keep kFq9)) ?kdq8 ?kuq8 ?klq8 (hbK _ fun p hp => (kNq9 p (by (repeat (first | assumption | (refine List.mem_append_left _ ?_) | refine List.mem_cons_of_mem _ ?_)))).1) ?kwq8 ?kzq8 ?_; (case kdq8 => decide); (case kuq8 => decide); (case klq8 => exact News.isList kNq9 (by k_mem)); (case kwq8 => assumption); (case kzq8 => assumption)); intro bD uD kD h' tk' hk' hg' hn' wD lD; (have F'q9 := Fr.after kFq9 hk'); (have N'q9 := newsMore kFq9 kNq9 hk' hg' hn'); clear hk' hg' hn'; clear kNq9 kFq9; (try dsimp only); (try k_fold))) | (with_reducible ((with_reducible show wpAny _ _ (binaryOp PySem.Operator.Pow (Value.int _ _) (Value.int _ _)) _ _ _); (k_dflt (refine' powV ?aq8 ?bq8 ?_; (case aq8 => first | exact Int.natCast_nonneg _ | omega); (case bq8 => first | exact Int.ofNat_le.mpr (Nat.le_trans (by assumption) (by decide)) | omega)); intro t'q9 k'q9))) | (with_reducible ((with_reducible show wpAny _ _ (call (Value.builtin _) [Value.ref _]) _ _ _); k_dflt (refine' lenV (News.isList (by with_reducible assumption) (by k_mem)) ?zq8 ?_; (case zq8 => first | exact Nat.le_trans (by assumption) (by decide) | omega)); intro t'q9 k'q9)) | (with_reducible ((with_reducible show wpAny _ _ (call (Value.ref 144) [Value.ref _]) _ _ _); (with_reducible rename Fr _ _ _ _ => kFq9); (with_reducible rename News _ _ _ _ => kNq9); k_dflt (refine' basis_con (Cx.any (by assumption) (Fr.keep kFq9)) ?kdq8 ?kuq8 ?klq8 ?kiq8 ?kzq8 ?_; (case kdq8 => decide); (case kuq8 => decide); (case klq8 => exact News.isList kNq9 (by k_mem)); (case kiq8 => assumption); (case kzq8 => first | (first | (rw [List.length_take]; omega) | (rw [List.length_drop]; omega) | omega) | (rw [List.length_take]; omega) | (rw [List.length_drop]; omega) | omega)); intro b4 v4 k4 h' tk' hk' hg' hn' i4; (have F'q9 := Fr.after kFq9 hk'); (have N'q9 := newsMore kFq9 kNq9 hk' hg' hn'); (have lB := newsNe kNq9 hn'); clear hk' hg' hn'; clear kNq9 kFq9; (try dsimp only); (try k_fold))) | (with_reducible ((with_reducible show wpAny _ _ (call (Value.ref 158) [Value.ref _]) _ _ _); (with_reducible rename Fr _ _ _ _ => kFq9); (with_reducible rename News _ _ _ _ => kNq9); k_dflt (refine' sums_con (Cx.any (by assumption) (Fr.keep kFq9)) ?kdq8 ?kuq8 ?klq8 ?kiq8 ?knq8 ?kzq8 ?_; (case kdq8 => decide); (case kuq8 => decide); (case klq8 => exact News.isList kNq9 (by k_mem)); (case kiq8 => assumption); (case knq8 => exact fun n hn => hn16 n (by first | exact List.mem_of_mem_take hn | exact List.mem_of_mem_drop hn)); (case kzq8 => (first | (rw [List.length_take]; omega) | (rw [List.length_drop]; omega) | omega))); intro bS vS kS WS h' tk' hk' hg' oS wS; (have F'q9 := Fr.after kFq9 hk'); (have N'q9 := newsMores kFq9 kNq9 hk' hg'); (dsimp only [List.cons_append, List.nil_append] at N'q9); (have lS := fun p hp => newsNe kNq9 (hg' p hp).2); clear hk' hg'; clear kNq9 kFq9; (try dsimp only); (try k_fold))) | ((with_reducible show wpAny _ _ (call _ [Value.bytes _ _]) _ _ _); refine call_type_of (Tx := "bytes") rfl (by decide +kernel) ?_) | (with_reducible ((with_reducible show wpAny _ _ (storeName _ _ _) _ _ _); k_dflt (refine' storeM ?Fq7 ?Nq7 ?_ ?aq7 ?bq7; (case Fq7 => k_asm); (case Nq7 => k_asm); (case aq7 => rfl); (case bq7 => rfl); k_whole; intro m'q7 h'q7 F'q7 N'q7; (try k_sweep)))) | (with_reducible ((with_reducible show wpAny _ _ (eval (PySem.Expr.Name _ _) _) _ _ _); k_dflt (refine' nameX_L ?Fq7 ?vq7 ?_ ?aq7 ?bq7; (case Fq7 => k_asm); (case aq7 => rfl); (case bq7 => rfl); (case vq7 => exact Eq.refl (some _)); k_whole))) | ((with_reducible show InvEnd _ _ _ _ _ _); ((with_reducible rename Fr _ _ _ _ => kFq7); first | ((dsimp +zetaDelta only at kFq7); (try dsimp +zetaDelta only)) | dsimp +zetaDelta only)) | ((with_reducible show InvEndG _ _ _ _ _ _); ((with_reducible rename Fr _ _ _ _ => kFq7); first | ((dsimp +zetaDelta only at kFq7); (try dsimp +zetaDelta only)) | dsimp +zetaDelta only)) | walk1 | (dsimp only; walk1) | (leave1; (try dsimp only)) | fail "no step") <;> (repeat ((fail_if_success (fail_if_success ((generalize qx = zq); (with_reducible show zq _ _)))); k_unfold; (try clear qx); (try (first | refine wpI (P := wpAny _ _ _ _ _ ⟨_, s.gens, s.drawn, _, s.os⟩) ?_ | refine wpI (P := wpAny _ _ _ _ _ _) ?_)); (try dsimp only)))))
    have d41 : b1 ≠ b4 := lB (b1, listOf (List.toArray v1) k1) (by k_mem)
    have d42 : b2 ≠ b4 := lB (b2, listOf (List.toArray v2) k2) (by k_mem)
    clear lB
    rename Fr _ _ _ _ => F
    rename News _ _ _ _ => N
    have N3 : News _ _ _ ((b4, listOf (List.toArray v4) k4) :: (b3, listOf (List.toArray v3) k3) :: (b2, listOf (List.toArray v2) k2) :: (b1, listOf (List.toArray v1) k1) :: (D, listOf ys.toArray ys.length) :: WW) := newsC (by k_mem) N (newsC (by k_mem) N (newsC (by k_mem) N (newsC (by k_mem) N (newsC (by k_mem) N (newsW N (fun p hp => by (repeat (first | assumption | (refine List.mem_append_left _ ?_) | refine List.mem_cons_of_mem _ ?_))))))))
    clear N
    have z3 : v3.length ≤ 3 := by
      have a := i3.length
      have b := basis_len (nn.take 3)
      rw [List.length_take] at b
      omega
    have z4 : v4.length ≤ 3 := by
      have a := i4.length
      have b := basis_len (nn.drop 3)
      rw [List.length_drop] at b
      omega
    have q1 : v1.length ≤ 63 := by rw [wm.length, sums_len3 (by rw [List.length_take]; omega)]; decide
    have q2 : v2.length ≤ 63 := by rw [wy.length, sums_len3 (by rw [List.length_drop]; omega)]; decide
    repeat ((fail_if_success (with_reducible show wpAny _ _ (call (Value.ref 144) _) _ _ _)); ((try ((with_reducible show wpAny _ _ (execs _ _) _ _ _); k_gentoks)); (try ((with_reducible show wpAny _ _ (exec _ _) _ _ _); (with_reducible refine foldQ ?_); intro qx)); (first | (k_unfold; (try (first | refine wpI (P := wpAny _ _ _ _ _ ⟨_, s.gens, s.drawn, _, s.os⟩) ?_ | refine wpI (P := wpAny _ _ _ _ _ _) ?_)); (try dsimp only)) | (k_end; kc_close) | (with_reducible ((with_reducible show wpAny _ _ (call (Value.builtin _) [Value.int _ _, Value.int _ _]) _ _ _); k_dflt (refine' maxW rfl ?Fq8 ?Nq8 ?eq8 ?_; (case Fq8 => with_reducible assumption); (case Nq8 => with_reducible assumption); (case eq8 => with_reducible assumption)); intro h'q9 t'q9 k'q9 F'q9 N'q9)) | (with_reducible ((with_reducible show wpAny _ _ (call (Value.ref 163) [Value.ref _, Value.ref _]) _ _ _); (with_reducible rename Fr _ _ _ _ => kFq9); (with_reducible rename News _ _ _ _ => kNq9); k_dflt (refine' only_con (Cx.any (by assumption) (Fr.keep kFq9)) ?kdq8 ?kuq8 ?klq8 ?kiq8 ?kmq8 ?kjq8 ?_; (case kdq8 => decide); (case kuq8 => decide); (case klq8 => exact News.isList kNq9 (by k_mem)); (case kiq8 => assumption); (case kmq8 => exact News.isList kNq9 (by k_mem)); (case kjq8 => assumption)); intro bO vO cO WO h' tk' hk' hg' wO; (have F'q9 := Fr.after kFq9 hk'); (have N'q9 := newsMores2 kFq9 kNq9 hk' hg'); (dsimp only [List.cons_append, List.nil_append] at N'q9); clear hk' hg'; clear kNq9 kFq9; (try dsimp only); (try k_fold))) | (with_reducible ((with_reducible show wpAny _ _ (compareOp PySem.CmpOp.NotEq (Value.int _ _) (Value.int _ _)) _ _ _); (k_dflt (refine' neV ?eq8 ?_; (case eq8 => first | assumption | omega))))) | (with_reducible ((with_reducible show wpAny _ _ (call (Value.ref 28) [Value.ref _]) _ _ _); (with_reducible rename Fr _ _ _ _ => kFq9); (with_reducible rename News _ _ _ _ => kNq9); k_dflt (refine' dedup_con (Cx.any (by assumption) (Fr.keep kFq9)) ?kdq8 ?kuq8 ?klq8 (hbK _ fun p hp => (kNq9 p (by (repeat (first | assumption | (refine List.mem_append_left _ ?_) | refine List.mem_cons_of_mem _ ?_)))).1) ?kwq8 ?kzq8 ?_; (case kdq8 => decide); (case kuq8 => decide); (case klq8 => exact News.isList kNq9 (by k_mem)); (case kwq8 => assumption); (case kzq8 => assumption)); intro bD uD kD h' tk' hk' hg' hn' wD lD; (have F'q9 := Fr.after kFq9 hk'); (have N'q9 := newsMore kFq9 kNq9 hk' hg' hn'); clear hk' hg' hn'; clear kNq9 kFq9; (try dsimp only); (try k_fold))) | (with_reducible ((with_reducible show wpAny _ _ (binaryOp PySem.Operator.Pow (Value.int _ _) (Value.int _ _)) _ _ _); (k_dflt (refine' powV ?aq8 ?bq8 ?_; (case aq8 => first | exact Int.natCast_nonneg _ | omega); (case bq8 => first | exact Int.ofNat_le.mpr (Nat.le_trans (by assumption) (by decide)) | omega)); intro t'q9 k'q9))) | (with_reducible ((with_reducible show wpAny _ _ (call (Value.builtin _) [Value.ref _]) _ _ _); k_dflt (refine' lenV (News.isList (by with_reducible assumption) (by k_mem)) ?zq8 ?_; (case zq8 => first | exact Nat.le_trans (by assumption) (by decide) | omega)); intro t'q9 k'q9)) | (with_reducible ((with_reducible show wpAny _ _ (call (Value.ref 144) [Value.ref _]) _ _ _); (with_reducible rename Fr _ _ _ _ => kFq9); (with_reducible rename News _ _ _ _ => kNq9); k_dflt (refine' basis_con (Cx.any (by assumption) (Fr.keep kFq9)) ?kdq8 ?kuq8 ?klq8 ?kiq8 ?kzq8 ?_; (case kdq8 => decide); (case kuq8 => decide); (case klq8 => exact News.isList kNq9 (by k_mem)); (case kiq8 => assumption); (case kzq8 => first | (first | (rw [List.length_take]; omega) | (rw [List.length_drop]; omega) | omega) | (rw [List.length_take]; omega) | (rw [List.length_drop]; omega) | omega)); intro bB vB kB h' tk' hk' hg' hn' iB; (have F'q9 := Fr.after kFq9 hk'); (have N'q9 := newsMore kFq9 kNq9 hk' hg' hn'); (have lB := newsNe kNq9 hn'); clear hk' hg' hn'; clear kNq9 kFq9; (try dsimp only); (try k_fold))) | (with_reducible ((with_reducible show wpAny _ _ (call (Value.ref 158) [Value.ref _]) _ _ _); (with_reducible rename Fr _ _ _ _ => kFq9); (with_reducible rename News _ _ _ _ => kNq9); k_dflt (refine' sums_con (Cx.any (by assumption) (Fr.keep kFq9)) ?kdq8 ?kuq8 ?klq8 ?kiq8 ?knq8 ?kzq8 ?_; (case kdq8 => decide); (case kuq8 => decide); (case klq8 => exact News.isList kNq9 (by k_mem)); (case kiq8 => assumption); (case knq8 => exact fun n hn => hn16 n (by first | exact List.mem_of_mem_take hn | exact List.mem_of_mem_drop hn)); (case kzq8 => (first | (rw [List.length_take]; omega) | (rw [List.length_drop]; omega) | omega))); intro bS vS kS WS h' tk' hk' hg' oS wS; (have F'q9 := Fr.after kFq9 hk'); (have N'q9 := newsMores kFq9 kNq9 hk' hg'); (dsimp only [List.cons_append, List.nil_append] at N'q9); (have lS := fun p hp => newsNe kNq9 (hg' p hp).2); clear hk' hg'; clear kNq9 kFq9; (try dsimp only); (try k_fold))) | ((with_reducible show wpAny _ _ (call _ [Value.bytes _ _]) _ _ _); refine call_type_of (Tx := "bytes") rfl (by decide +kernel) ?_) | (with_reducible ((with_reducible show wpAny _ _ (storeName _ _ _) _ _ _); k_dflt (refine' storeM ?Fq7 ?Nq7 ?_ ?aq7 ?bq7; (case Fq7 => k_asm); (case Nq7 => k_asm); (case aq7 => rfl); (case bq7 => rfl); k_whole; intro m'q7 h'q7 F'q7 N'q7; (try k_sweep)))) | (with_reducible ((with_reducible show wpAny _ _ (eval (PySem.Expr.Name _ _) _) _ _ _); k_dflt (refine' nameX_L ?Fq7 ?vq7 ?_ ?aq7 ?bq7; (case Fq7 => k_asm); (case aq7 => rfl); (case bq7 => rfl); (case vq7 => exact Eq.refl (some _)); k_whole))) | ((with_reducible show InvEnd _ _ _ _ _ _); ((with_reducible rename Fr _ _ _ _ => kFq7); first | ((dsimp +zetaDelta only at kFq7); (try dsimp +zetaDelta only)) | dsimp +zetaDelta only)) | ((with_reducible show InvEndG _ _ _ _ _ _); ((with_reducible rename Fr _ _ _ _ => kFq7); first | ((dsimp +zetaDelta only at kFq7); (try dsimp +zetaDelta only)) | dsimp +zetaDelta only)) | walk1 | (dsimp only; walk1) | (leave1; (try dsimp only)) | fail "no step") <;> (repeat ((fail_if_success (fail_if_success ((generalize qx = zq); (with_reducible show zq _ _)))); k_unfold; (try clear qx); (try (first | refine wpI (P := wpAny _ _ _ _ _ ⟨_, s.gens, s.drawn, _, s.os⟩) ?_ | refine wpI (P := wpAny _ _ _ _ _ _) ?_)); (try dsimp only)))))
    ((try ((with_reducible show wpAny _ _ (execs _ _) _ _ _); k_gentoks)); (try ((with_reducible show wpAny _ _ (exec _ _) _ _ _); (with_reducible refine foldQ ?_); intro qx)); (first | (k_unfold; (try (first | refine wpI (P := wpAny _ _ _ _ _ ⟨_, s.gens, s.drawn, _, s.os⟩) ?_ | refine wpI (P := wpAny _ _ _ _ _ _) ?_)); (try dsimp only)) | (k_end; kc_close) | (with_reducible ((with_reducible show wpAny _ _ (call (Value.builtin _) [Value.int _ _, Value.int _ _]) _ _ _); k_dflt (refine' maxW rfl ?Fq8 ?Nq8 ?eq8 ?_; (case Fq8 => with_reducible assumption); (case Nq8 => with_reducible assumption); (case eq8 => with_reducible assumption)); intro h'q9 t'q9 k'q9 F'q9 N'q9)) | (with_reducible ((with_reducible show wpAny _ _ (call (Value.ref 163) [Value.ref _, Value.ref _]) _ _ _); (with_reducible rename Fr _ _ _ _ => kFq9); (with_reducible rename News _ _ _ _ => kNq9); k_dflt (refine' only_con (Cx.any (by assumption) (Fr.keep kFq9)) ?kdq8 ?kuq8 ?klq8 ?kiq8 ?kmq8 ?kjq8 ?_; (case kdq8 => decide); (case kuq8 => decide); (case klq8 => exact News.isList kNq9 (by k_mem)); (case kiq8 => assumption); (case kmq8 => exact News.isList kNq9 (by k_mem)); (case kjq8 => assumption)); intro bO vO cO WO h' tk' hk' hg' wO; (have F'q9 := Fr.after kFq9 hk'); (have N'q9 := newsMores2 kFq9 kNq9 hk' hg'); (dsimp only [List.cons_append, List.nil_append] at N'q9); clear hk' hg'; clear kNq9 kFq9; (try dsimp only); (try k_fold))) | (with_reducible ((with_reducible show wpAny _ _ (compareOp PySem.CmpOp.NotEq (Value.int _ _) (Value.int _ _)) _ _ _); (k_dflt (refine' neV ?eq8 ?_; (case eq8 => first | assumption | omega))))) | (with_reducible ((with_reducible show wpAny _ _ (call (Value.ref 28) [Value.ref _]) _ _ _); (with_reducible rename Fr _ _ _ _ => kFq9); (with_reducible rename News _ _ _ _ => kNq9); k_dflt (refine' dedup_con (Cx.any (by assumption) (Fr.keep kFq9)) ?kdq8 ?kuq8 ?klq8 (hbK _ fun p hp => (kNq9 p (by (repeat (first | assumption | (refine List.mem_append_left _ ?_) | refine List.mem_cons_of_mem _ ?_)))).1) ?kwq8 ?kzq8 ?_; (case kdq8 => decide); (case kuq8 => decide); (case klq8 => exact News.isList kNq9 (by k_mem)); (case kwq8 => assumption); (case kzq8 => assumption)); intro bD uD kD h' tk' hk' hg' hn' wD lD; (have F'q9 := Fr.after kFq9 hk'); (have N'q9 := newsMore kFq9 kNq9 hk' hg' hn'); clear hk' hg' hn'; clear kNq9 kFq9; (try dsimp only); (try k_fold))) | (with_reducible ((with_reducible show wpAny _ _ (binaryOp PySem.Operator.Pow (Value.int _ _) (Value.int _ _)) _ _ _); (k_dflt (refine' powV ?aq8 ?bq8 ?_; (case aq8 => first | exact Int.natCast_nonneg _ | omega); (case bq8 => first | exact Int.ofNat_le.mpr (Nat.le_trans (by assumption) (by decide)) | omega)); intro t'q9 k'q9))) | (with_reducible ((with_reducible show wpAny _ _ (call (Value.builtin _) [Value.ref _]) _ _ _); k_dflt (refine' lenV (News.isList (by with_reducible assumption) (by k_mem)) ?zq8 ?_; (case zq8 => first | exact Nat.le_trans (by assumption) (by decide) | omega)); intro t'q9 k'q9)) | (with_reducible ((with_reducible show wpAny _ _ (call (Value.ref 144) [Value.ref _]) _ _ _); (with_reducible rename Fr _ _ _ _ => kFq9); (with_reducible rename News _ _ _ _ => kNq9); k_dflt (refine' basis_con (Cx.any (by assumption) (Fr.keep kFq9)) ?kdq8 ?kuq8 ?klq8 ?kiq8 ?kzq8 ?_; (case kdq8 => decide); (case kuq8 => decide); (case klq8 => exact News.isList kNq9 (by k_mem)); (case kiq8 => assumption); (case kzq8 => first | (first | (rw [List.length_take]; omega) | (rw [List.length_drop]; omega) | omega) | (rw [List.length_take]; omega) | (rw [List.length_drop]; omega) | omega)); intro b5 v5 k5 h' tk' hk' hg' hn' i5; (have F'q9 := Fr.after kFq9 hk'); (have N'q9 := newsMore kFq9 kNq9 hk' hg' hn'); (have lB := newsNe kNq9 hn'); clear hk' hg' hn'; clear kNq9 kFq9; (try dsimp only); (try k_fold))) | (with_reducible ((with_reducible show wpAny _ _ (call (Value.ref 158) [Value.ref _]) _ _ _); (with_reducible rename Fr _ _ _ _ => kFq9); (with_reducible rename News _ _ _ _ => kNq9); k_dflt (refine' sums_con (Cx.any (by assumption) (Fr.keep kFq9)) ?kdq8 ?kuq8 ?klq8 ?kiq8 ?knq8 ?kzq8 ?_; (case kdq8 => decide); (case kuq8 => decide); (case klq8 => exact News.isList kNq9 (by k_mem)); (case kiq8 => assumption); (case knq8 => exact fun n hn => hn16 n (by first | exact List.mem_of_mem_take hn | exact List.mem_of_mem_drop hn)); (case kzq8 => (first | (rw [List.length_take]; omega) | (rw [List.length_drop]; omega) | omega))); intro bS vS kS WS h' tk' hk' hg' oS wS; (have F'q9 := Fr.after kFq9 hk'); (have N'q9 := newsMores kFq9 kNq9 hk' hg'); (dsimp only [List.cons_append, List.nil_append] at N'q9); (have lS := fun p hp => newsNe kNq9 (hg' p hp).2); clear hk' hg'; clear kNq9 kFq9; (try dsimp only); (try k_fold))) | ((with_reducible show wpAny _ _ (call _ [Value.bytes _ _]) _ _ _); refine call_type_of (Tx := "bytes") rfl (by decide +kernel) ?_) | (with_reducible ((with_reducible show wpAny _ _ (storeName _ _ _) _ _ _); k_dflt (refine' storeM ?Fq7 ?Nq7 ?_ ?aq7 ?bq7; (case Fq7 => k_asm); (case Nq7 => k_asm); (case aq7 => rfl); (case bq7 => rfl); k_whole; intro m'q7 h'q7 F'q7 N'q7; (try k_sweep)))) | (with_reducible ((with_reducible show wpAny _ _ (eval (PySem.Expr.Name _ _) _) _ _ _); k_dflt (refine' nameX_L ?Fq7 ?vq7 ?_ ?aq7 ?bq7; (case Fq7 => k_asm); (case aq7 => rfl); (case bq7 => rfl); (case vq7 => exact Eq.refl (some _)); k_whole))) | ((with_reducible show InvEnd _ _ _ _ _ _); ((with_reducible rename Fr _ _ _ _ => kFq7); first | ((dsimp +zetaDelta only at kFq7); (try dsimp +zetaDelta only)) | dsimp +zetaDelta only)) | ((with_reducible show InvEndG _ _ _ _ _ _); ((with_reducible rename Fr _ _ _ _ => kFq7); first | ((dsimp +zetaDelta only at kFq7); (try dsimp +zetaDelta only)) | dsimp +zetaDelta only)) | walk1 | (dsimp only; walk1) | (leave1; (try dsimp only)) | fail "no step") <;> (repeat ((fail_if_success (fail_if_success ((generalize qx = zq); (with_reducible show zq _ _)))); k_unfold; (try clear qx); (try (first | refine wpI (P := wpAny _ _ _ _ _ ⟨_, s.gens, s.drawn, _, s.os⟩) ?_ | refine wpI (P := wpAny _ _ _ _ _ _) ?_)); (try dsimp only))))
    have z5 : v5.length ≤ 6 := by
      have a := i5.length
      have b := basis_len nn
      omega
    repeat ((fail_if_success (with_reducible show wpAny _ _ (storeName _ (Str.ofString "shared") _) _ _ _)); ((try ((with_reducible show wpAny _ _ (execs _ _) _ _ _); k_gentoks)); (try ((with_reducible show wpAny _ _ (exec _ _) _ _ _); (with_reducible refine foldQ ?_); intro qx)); (first | (k_unfold; (try (first | refine wpI (P := wpAny _ _ _ _ _ ⟨_, s.gens, s.drawn, _, s.os⟩) ?_ | refine wpI (P := wpAny _ _ _ _ _ _) ?_)); (try dsimp only)) | (k_end; kc_close) | (with_reducible ((with_reducible show wpAny _ _ (call (Value.builtin _) [Value.int _ _, Value.int _ _]) _ _ _); k_dflt (refine' maxW rfl ?Fq8 ?Nq8 ?eq8 ?_; (case Fq8 => with_reducible assumption); (case Nq8 => with_reducible assumption); (case eq8 => with_reducible assumption)); intro h'q9 t'q9 k'q9 F'q9 N'q9)) | (with_reducible ((with_reducible show wpAny _ _ (call (Value.ref 163) [Value.ref _, Value.ref _]) _ _ _); (with_reducible rename Fr _ _ _ _ => kFq9); (with_reducible rename News _ _ _ _ => kNq9); k_dflt (refine' only_con (Cx.any (by assumption) (Fr.keep kFq9)) ?kdq8 ?kuq8 ?klq8 ?kiq8 ?kmq8 ?kjq8 ?_; (case kdq8 => decide); (case kuq8 => decide); (case klq8 => exact News.isList kNq9 (by k_mem)); (case kiq8 => assumption); (case kmq8 => exact News.isList kNq9 (by k_mem)); (case kjq8 => assumption)); intro bO vO cO WO h' tk' hk' hg' wO; (have F'q9 := Fr.after kFq9 hk'); (have N'q9 := newsMores2 kFq9 kNq9 hk' hg'); (dsimp only [List.cons_append, List.nil_append] at N'q9); clear hk' hg'; clear kNq9 kFq9; (try dsimp only); (try k_fold))) | (with_reducible ((with_reducible show wpAny _ _ (compareOp PySem.CmpOp.NotEq (Value.int _ _) (Value.int _ _)) _ _ _); (k_dflt (refine' neV ?eq8 ?_; (case eq8 => first | assumption | omega))))) | (with_reducible ((with_reducible show wpAny _ _ (call (Value.ref 28) [Value.ref _]) _ _ _); (with_reducible rename Fr _ _ _ _ => kFq9); (with_reducible rename News _ _ _ _ => kNq9); k_dflt (refine' dedup_con (Cx.any (by assumption) (Fr.keep kFq9)) ?kdq8 ?kuq8 ?klq8 (hbK _ fun p hp => (kNq9 p (by (repeat (first | assumption | (refine List.mem_append_left _ ?_) | refine List.mem_cons_of_mem _ ?_)))).1) ?kwq8 ?kzq8 ?_; (case kdq8 => decide); (case kuq8 => decide); (case klq8 => exact News.isList kNq9 (by k_mem)); (case kwq8 => assumption); (case kzq8 => assumption)); intro bD uD kD h' tk' hk' hg' hn' wD lD; (have F'q9 := Fr.after kFq9 hk'); (have N'q9 := newsMore kFq9 kNq9 hk' hg' hn'); clear hk' hg' hn'; clear kNq9 kFq9; (try dsimp only); (try k_fold))) | (with_reducible ((with_reducible show wpAny _ _ (binaryOp PySem.Operator.Pow (Value.int _ _) (Value.int _ _)) _ _ _); (k_dflt (refine' powV ?aq8 ?bq8 ?_; (case aq8 => first | exact Int.natCast_nonneg _ | omega); (case bq8 => first | exact Int.ofNat_le.mpr (Nat.le_trans (by assumption) (by decide)) | omega)); intro t'q9 k'q9))) | (with_reducible ((with_reducible show wpAny _ _ (call (Value.builtin _) [Value.ref _]) _ _ _); k_dflt (refine' lenV (News.isList (by with_reducible assumption) (by k_mem)) ?zq8 ?_; (case zq8 => first | exact Nat.le_trans (by assumption) (by decide) | omega)); intro t'q9 k'q9)) | (with_reducible ((with_reducible show wpAny _ _ (call (Value.ref 144) [Value.ref _]) _ _ _); (with_reducible rename Fr _ _ _ _ => kFq9); (with_reducible rename News _ _ _ _ => kNq9); k_dflt (refine' basis_con (Cx.any (by assumption) (Fr.keep kFq9)) ?kdq8 ?kuq8 ?klq8 ?kiq8 ?kzq8 ?_; (case kdq8 => decide); (case kuq8 => decide); (case klq8 => exact News.isList kNq9 (by k_mem)); (case kiq8 => assumption); (case kzq8 => first | (first | (rw [List.length_take]; omega) | (rw [List.length_drop]; omega) | omega) | (rw [List.length_take]; omega) | (rw [List.length_drop]; omega) | omega)); intro bB vB kB h' tk' hk' hg' hn' iB; (have F'q9 := Fr.after kFq9 hk'); (have N'q9 := newsMore kFq9 kNq9 hk' hg' hn'); (have lB := newsNe kNq9 hn'); clear hk' hg' hn'; clear kNq9 kFq9; (try dsimp only); (try k_fold))) | (with_reducible ((with_reducible show wpAny _ _ (call (Value.ref 158) [Value.ref _]) _ _ _); (with_reducible rename Fr _ _ _ _ => kFq9); (with_reducible rename News _ _ _ _ => kNq9); k_dflt (refine' sums_con (Cx.any (by assumption) (Fr.keep kFq9)) ?kdq8 ?kuq8 ?klq8 ?kiq8 ?knq8 ?kzq8 ?_; (case kdq8 => decide); (case kuq8 => decide); (case klq8 => exact News.isList kNq9 (by k_mem)); (case kiq8 => assumption); (case knq8 => exact fun n hn => hn16 n (by first | exact List.mem_of_mem_take hn | exact List.mem_of_mem_drop hn)); (case kzq8 => (first | (rw [List.length_take]; omega) | (rw [List.length_drop]; omega) | omega))); intro bS vS kS WS h' tk' hk' hg' oS wS; (have F'q9 := Fr.after kFq9 hk'); (have N'q9 := newsMores kFq9 kNq9 hk' hg'); (dsimp only [List.cons_append, List.nil_append] at N'q9); (have lS := fun p hp => newsNe kNq9 (hg' p hp).2); clear hk' hg'; clear kNq9 kFq9; (try dsimp only); (try k_fold))) | ((with_reducible show wpAny _ _ (call _ [Value.bytes _ _]) _ _ _); refine call_type_of (Tx := "bytes") rfl (by decide +kernel) ?_) | (with_reducible ((with_reducible show wpAny _ _ (storeName _ _ _) _ _ _); k_dflt (refine' storeM ?Fq7 ?Nq7 ?_ ?aq7 ?bq7; (case Fq7 => k_asm); (case Nq7 => k_asm); (case aq7 => rfl); (case bq7 => rfl); k_whole; intro m'q7 h'q7 F'q7 N'q7; (try k_sweep)))) | (with_reducible ((with_reducible show wpAny _ _ (eval (PySem.Expr.Name _ _) _) _ _ _); k_dflt (refine' nameX_L ?Fq7 ?vq7 ?_ ?aq7 ?bq7; (case Fq7 => k_asm); (case aq7 => rfl); (case bq7 => rfl); (case vq7 => exact Eq.refl (some _)); k_whole))) | ((with_reducible show InvEnd _ _ _ _ _ _); ((with_reducible rename Fr _ _ _ _ => kFq7); first | ((dsimp +zetaDelta only at kFq7); (try dsimp +zetaDelta only)) | dsimp +zetaDelta only)) | ((with_reducible show InvEndG _ _ _ _ _ _); ((with_reducible rename Fr _ _ _ _ => kFq7); first | ((dsimp +zetaDelta only at kFq7); (try dsimp +zetaDelta only)) | dsimp +zetaDelta only)) | walk1 | (dsimp only; walk1) | (leave1; (try dsimp only)) | fail "no step") <;> (repeat ((fail_if_success (fail_if_success ((generalize qx = zq); (with_reducible show zq _ _)))); k_unfold; (try clear qx); (try (first | refine wpI (P := wpAny _ _ _ _ _ ⟨_, s.gens, s.drawn, _, s.os⟩) ?_ | refine wpI (P := wpAny _ _ _ _ _ _) ?_)); (try dsimp only)))))
    rename Fr _ _ _ _ => F
    rename News _ _ _ _ => N
    have N4 : News _ _ _ ((b4, listOf (List.toArray v4) k4) :: (b3, listOf (List.toArray v3) k3) :: (b2, listOf (List.toArray v2) k2) :: (b1, listOf (List.toArray v1) k1) :: WW) := newsC (by k_mem) N (newsC (by k_mem) N (newsC (by k_mem) N (newsC (by k_mem) N (newsW N (fun p hp => by (repeat (first | assumption | (refine List.mem_append_left _ ?_) | refine List.mem_cons_of_mem _ ?_)))))))
    clear N
    have hx3 : (nn.take 3).length = 3 := by rw [List.length_take]; omega
    have hy3 : (nn.drop 3).length = 3 := by rw [List.length_drop]; omega
    obtain ⟨m, PL⟩ := plain hx3 hy3 (fun n hn => hn16 n (List.mem_of_mem_take hn)) (fun n hn => hn16 n (List.mem_of_mem_drop hn))
    have a3 := i3.length
    have a4 := i4.length
    have a5 := i5.length
    have ps := PL.sum
    rw [List.take_append_drop, ← a3, ← a4, ← a5] at ps
    have p1 := PL.le1
    have p2 := PL.le2
    rw [← a3] at p1
    rw [← a4] at p2
    repeat ((fail_if_success (with_reducible show wpAny _ _ (call (Value.builtin "sorted") _) _ _ _)); ((try ((with_reducible show wpAny _ _ (execs _ _) _ _ _); k_gentoks)); (try ((with_reducible show wpAny _ _ (exec _ _) _ _ _); (with_reducible refine foldQ ?_); intro qx)); (first | (k_unfold; (try (first | refine wpI (P := wpAny _ _ _ _ _ ⟨_, s.gens, s.drawn, _, s.os⟩) ?_ | refine wpI (P := wpAny _ _ _ _ _ _) ?_)); (try dsimp only)) | (k_end; kc_close) | (with_reducible ((with_reducible show wpAny _ _ (call (Value.builtin _) [Value.int _ _, Value.int _ _]) _ _ _); k_dflt (refine' maxW rfl ?Fq8 ?Nq8 ?eq8 ?_; (case Fq8 => with_reducible assumption); (case Nq8 => with_reducible assumption); (case eq8 => with_reducible assumption)); intro h'q9 t'q9 k'q9 F'q9 N'q9)) | (with_reducible ((with_reducible show wpAny _ _ (call (Value.ref 163) [Value.ref _, Value.ref _]) _ _ _); (with_reducible rename Fr _ _ _ _ => kFq9); (with_reducible rename News _ _ _ _ => kNq9); k_dflt (refine' only_con (Cx.any (by assumption) (Fr.keep kFq9)) ?kdq8 ?kuq8 ?klq8 ?kiq8 ?kmq8 ?kjq8 ?_; (case kdq8 => decide); (case kuq8 => decide); (case klq8 => exact News.isList kNq9 (by k_mem)); (case kiq8 => assumption); (case kmq8 => exact News.isList kNq9 (by k_mem)); (case kjq8 => assumption)); intro bO vO cO WO h' tk' hk' hg' wO; (have F'q9 := Fr.after kFq9 hk'); (have N'q9 := newsMores2 kFq9 kNq9 hk' hg'); (dsimp only [List.cons_append, List.nil_append] at N'q9); clear hk' hg'; clear kNq9 kFq9; (try dsimp only); (try k_fold))) | (with_reducible ((with_reducible show wpAny _ _ (compareOp PySem.CmpOp.NotEq (Value.int _ _) (Value.int _ _)) _ _ _); (k_dflt (refine' neV ?eq8 ?_; (case eq8 => first | assumption | omega))))) | (with_reducible ((with_reducible show wpAny _ _ (call (Value.ref 28) [Value.ref _]) _ _ _); (with_reducible rename Fr _ _ _ _ => kFq9); (with_reducible rename News _ _ _ _ => kNq9); k_dflt (refine' dedup_con (Cx.any (by assumption) (Fr.keep kFq9)) ?kdq8 ?kuq8 ?klq8 (hbK _ fun p hp => (kNq9 p (by (repeat (first | assumption | (refine List.mem_append_left _ ?_) | refine List.mem_cons_of_mem _ ?_)))).1) ?kwq8 ?kzq8 ?_; (case kdq8 => decide); (case kuq8 => decide); (case klq8 => exact News.isList kNq9 (by k_mem)); (case kwq8 => assumption); (case kzq8 => assumption)); intro bD uD kD h' tk' hk' hg' hn' wD lD; (have F'q9 := Fr.after kFq9 hk'); (have N'q9 := newsMore kFq9 kNq9 hk' hg' hn'); clear hk' hg' hn'; clear kNq9 kFq9; (try dsimp only); (try k_fold))) | (with_reducible ((with_reducible show wpAny _ _ (binaryOp PySem.Operator.Pow (Value.int _ _) (Value.int _ _)) _ _ _); (k_dflt (refine' powV ?aq8 ?bq8 ?_; (case aq8 => first | exact Int.natCast_nonneg _ | omega); (case bq8 => first | exact Int.ofNat_le.mpr (Nat.le_trans (by assumption) (by decide)) | omega)); intro t'q9 k'q9))) | (with_reducible ((with_reducible show wpAny _ _ (call (Value.builtin _) [Value.ref _]) _ _ _); k_dflt (refine' lenV (News.isList (by with_reducible assumption) (by k_mem)) ?zq8 ?_; (case zq8 => first | exact Nat.le_trans (by assumption) (by decide) | omega)); intro t'q9 k'q9)) | (with_reducible ((with_reducible show wpAny _ _ (call (Value.ref 144) [Value.ref _]) _ _ _); (with_reducible rename Fr _ _ _ _ => kFq9); (with_reducible rename News _ _ _ _ => kNq9); k_dflt (refine' basis_con (Cx.any (by assumption) (Fr.keep kFq9)) ?kdq8 ?kuq8 ?klq8 ?kiq8 ?kzq8 ?_; (case kdq8 => decide); (case kuq8 => decide); (case klq8 => exact News.isList kNq9 (by k_mem)); (case kiq8 => assumption); (case kzq8 => first | (first | (rw [List.length_take]; omega) | (rw [List.length_drop]; omega) | omega) | (rw [List.length_take]; omega) | (rw [List.length_drop]; omega) | omega)); intro bB vB kB h' tk' hk' hg' hn' iB; (have F'q9 := Fr.after kFq9 hk'); (have N'q9 := newsMore kFq9 kNq9 hk' hg' hn'); (have lB := newsNe kNq9 hn'); clear hk' hg' hn'; clear kNq9 kFq9; (try dsimp only); (try k_fold))) | (with_reducible ((with_reducible show wpAny _ _ (call (Value.ref 158) [Value.ref _]) _ _ _); (with_reducible rename Fr _ _ _ _ => kFq9); (with_reducible rename News _ _ _ _ => kNq9); k_dflt (refine' sums_con (Cx.any (by assumption) (Fr.keep kFq9)) ?kdq8 ?kuq8 ?klq8 ?kiq8 ?knq8 ?kzq8 ?_; (case kdq8 => decide); (case kuq8 => decide); (case klq8 => exact News.isList kNq9 (by k_mem)); (case kiq8 => assumption); (case knq8 => exact fun n hn => hn16 n (by first | exact List.mem_of_mem_take hn | exact List.mem_of_mem_drop hn)); (case kzq8 => (first | (rw [List.length_take]; omega) | (rw [List.length_drop]; omega) | omega))); intro bS vS kS WS h' tk' hk' hg' oS wS; (have F'q9 := Fr.after kFq9 hk'); (have N'q9 := newsMores kFq9 kNq9 hk' hg'); (dsimp only [List.cons_append, List.nil_append] at N'q9); (have lS := fun p hp => newsNe kNq9 (hg' p hp).2); clear hk' hg'; clear kNq9 kFq9; (try dsimp only); (try k_fold))) | ((with_reducible show wpAny _ _ (call _ [Value.bytes _ _]) _ _ _); refine call_type_of (Tx := "bytes") rfl (by decide +kernel) ?_) | (with_reducible ((with_reducible show wpAny _ _ (storeName _ _ _) _ _ _); k_dflt (refine' storeM ?Fq7 ?Nq7 ?_ ?aq7 ?bq7; (case Fq7 => k_asm); (case Nq7 => k_asm); (case aq7 => rfl); (case bq7 => rfl); k_whole; intro m'q7 h'q7 F'q7 N'q7; (try k_sweep)))) | (with_reducible ((with_reducible show wpAny _ _ (eval (PySem.Expr.Name _ _) _) _ _ _); k_dflt (refine' nameX_L ?Fq7 ?vq7 ?_ ?aq7 ?bq7; (case Fq7 => k_asm); (case aq7 => rfl); (case bq7 => rfl); (case vq7 => exact Eq.refl (some _)); k_whole))) | ((with_reducible show InvEnd _ _ _ _ _ _); ((with_reducible rename Fr _ _ _ _ => kFq7); first | ((dsimp +zetaDelta only at kFq7); (try dsimp +zetaDelta only)) | dsimp +zetaDelta only)) | ((with_reducible show InvEndG _ _ _ _ _ _); ((with_reducible rename Fr _ _ _ _ => kFq7); first | ((dsimp +zetaDelta only at kFq7); (try dsimp +zetaDelta only)) | dsimp +zetaDelta only)) | walk1 | (dsimp only; walk1) | (leave1; (try dsimp only)) | fail "no step") <;> (repeat ((fail_if_success (fail_if_success ((generalize qx = zq); (with_reducible show zq _ _)))); k_unfold; (try clear qx); (try (first | refine wpI (P := wpAny _ _ _ _ _ ⟨_, s.gens, s.drawn, _, s.os⟩) ?_ | refine wpI (P := wpAny _ _ _ _ _ _) ?_)); (try dsimp only)))))
    rename Fr _ _ _ _ => F
    rename News _ _ _ _ => N
    have r6 : uD.length ≤ 63 := Nat.le_trans lD q1
    refine sortedW F N (News.isList N (.head _)) (fun h' F' N' => wD.keeps (hbK _ fun p hp => (N' p (by (repeat (first | assumption | (refine List.mem_append_left _ ?_) | refine List.mem_cons_of_mem _ ?_)))).1)) (dd_nodup _) (by omega) (by (show (Around.deeper callerA ev).units + _ < cLine; simp only [units_deeper, units_caller]; decide)) ?_
    rintro b6 v6 k6 h6 F6 N6 l6 ⟨p6, hp6, ev6, e6⟩
    have w6 : WdH hb v6 (srtW (ddOf (sumsOf (nn.take 3)))) := by
      rw [ev6, e6]
      exact wD.pick hp6
    clear ev6 e6 hp6 l6 N F
    have N6' : News _ _ _ ((b6, listOf (List.toArray v6) k6) :: (b4, listOf (List.toArray v4) k4) :: (b3, listOf (List.toArray v3) k3) :: (b2, listOf (List.toArray v2) k2) :: (b1, listOf (List.toArray v1) k1) :: WW) := newsC (by k_mem) N6 (newsC (by k_mem) N6 (newsC (by k_mem) N6 (newsC (by k_mem) N6 (newsC (by k_mem) N6 (newsW N6 (fun p hp => by (repeat (first | assumption | (refine List.mem_append_left _ ?_) | refine List.mem_cons_of_mem _ ?_))))))))
    clear N6
    repeat ((fail_if_success (with_reducible show wpAny _ _ (call (Value.builtin "sorted") _) _ _ _)); ((try ((with_reducible show wpAny _ _ (execs _ _) _ _ _); k_gentoks)); (try ((with_reducible show wpAny _ _ (exec _ _) _ _ _); (with_reducible refine foldQ ?_); intro qx)); (first | (k_unfold; (try (first | refine wpI (P := wpAny _ _ _ _ _ ⟨_, s.gens, s.drawn, _, s.os⟩) ?_ | refine wpI (P := wpAny _ _ _ _ _ _) ?_)); (try dsimp only)) | (k_end; kc_close) | (with_reducible ((with_reducible show wpAny _ _ (call (Value.builtin _) [Value.int _ _, Value.int _ _]) _ _ _); k_dflt (refine' maxW rfl ?Fq8 ?Nq8 ?eq8 ?_; (case Fq8 => with_reducible assumption); (case Nq8 => with_reducible assumption); (case eq8 => with_reducible assumption)); intro h'q9 t'q9 k'q9 F'q9 N'q9)) | (with_reducible ((with_reducible show wpAny _ _ (call (Value.ref 163) [Value.ref _, Value.ref _]) _ _ _); (with_reducible rename Fr _ _ _ _ => kFq9); (with_reducible rename News _ _ _ _ => kNq9); k_dflt (refine' only_con (Cx.any (by assumption) (Fr.keep kFq9)) ?kdq8 ?kuq8 ?klq8 ?kiq8 ?kmq8 ?kjq8 ?_; (case kdq8 => decide); (case kuq8 => decide); (case klq8 => exact News.isList kNq9 (by k_mem)); (case kiq8 => assumption); (case kmq8 => exact News.isList kNq9 (by k_mem)); (case kjq8 => assumption)); intro bO vO cO WO h' tk' hk' hg' wO; (have F'q9 := Fr.after kFq9 hk'); (have N'q9 := newsMores2 kFq9 kNq9 hk' hg'); (dsimp only [List.cons_append, List.nil_append] at N'q9); clear hk' hg'; clear kNq9 kFq9; (try dsimp only); (try k_fold))) | (with_reducible ((with_reducible show wpAny _ _ (compareOp PySem.CmpOp.NotEq (Value.int _ _) (Value.int _ _)) _ _ _); (k_dflt (refine' neV ?eq8 ?_; (case eq8 => first | assumption | omega))))) | (with_reducible ((with_reducible show wpAny _ _ (call (Value.ref 28) [Value.ref _]) _ _ _); (with_reducible rename Fr _ _ _ _ => kFq9); (with_reducible rename News _ _ _ _ => kNq9); k_dflt (refine' dedup_con (Cx.any (by assumption) (Fr.keep kFq9)) ?kdq8 ?kuq8 ?klq8 (hbK _ fun p hp => (kNq9 p (by (repeat (first | assumption | (refine List.mem_append_left _ ?_) | refine List.mem_cons_of_mem _ ?_)))).1) ?kwq8 ?kzq8 ?_; (case kdq8 => decide); (case kuq8 => decide); (case klq8 => exact News.isList kNq9 (by k_mem)); (case kwq8 => assumption); (case kzq8 => assumption)); intro bD uD kD h' tk' hk' hg' hn' wD lD; (have F'q9 := Fr.after kFq9 hk'); (have N'q9 := newsMore kFq9 kNq9 hk' hg' hn'); clear hk' hg' hn'; clear kNq9 kFq9; (try dsimp only); (try k_fold))) | (with_reducible ((with_reducible show wpAny _ _ (binaryOp PySem.Operator.Pow (Value.int _ _) (Value.int _ _)) _ _ _); (k_dflt (refine' powV ?aq8 ?bq8 ?_; (case aq8 => first | exact Int.natCast_nonneg _ | omega); (case bq8 => first | exact Int.ofNat_le.mpr (Nat.le_trans (by assumption) (by decide)) | omega)); intro t'q9 k'q9))) | (with_reducible ((with_reducible show wpAny _ _ (call (Value.builtin _) [Value.ref _]) _ _ _); k_dflt (refine' lenV (News.isList (by with_reducible assumption) (by k_mem)) ?zq8 ?_; (case zq8 => first | exact Nat.le_trans (by assumption) (by decide) | omega)); intro t'q9 k'q9)) | (with_reducible ((with_reducible show wpAny _ _ (call (Value.ref 144) [Value.ref _]) _ _ _); (with_reducible rename Fr _ _ _ _ => kFq9); (with_reducible rename News _ _ _ _ => kNq9); k_dflt (refine' basis_con (Cx.any (by assumption) (Fr.keep kFq9)) ?kdq8 ?kuq8 ?klq8 ?kiq8 ?kzq8 ?_; (case kdq8 => decide); (case kuq8 => decide); (case klq8 => exact News.isList kNq9 (by k_mem)); (case kiq8 => assumption); (case kzq8 => first | (first | (rw [List.length_take]; omega) | (rw [List.length_drop]; omega) | omega) | (rw [List.length_take]; omega) | (rw [List.length_drop]; omega) | omega)); intro bB vB kB h' tk' hk' hg' hn' iB; (have F'q9 := Fr.after kFq9 hk'); (have N'q9 := newsMore kFq9 kNq9 hk' hg' hn'); (have lB := newsNe kNq9 hn'); clear hk' hg' hn'; clear kNq9 kFq9; (try dsimp only); (try k_fold))) | (with_reducible ((with_reducible show wpAny _ _ (call (Value.ref 158) [Value.ref _]) _ _ _); (with_reducible rename Fr _ _ _ _ => kFq9); (with_reducible rename News _ _ _ _ => kNq9); k_dflt (refine' sums_con (Cx.any (by assumption) (Fr.keep kFq9)) ?kdq8 ?kuq8 ?klq8 ?kiq8 ?knq8 ?kzq8 ?_; (case kdq8 => decide); (case kuq8 => decide); (case klq8 => exact News.isList kNq9 (by k_mem)); (case kiq8 => assumption); (case knq8 => exact fun n hn => hn16 n (by first | exact List.mem_of_mem_take hn | exact List.mem_of_mem_drop hn)); (case kzq8 => (first | (rw [List.length_take]; omega) | (rw [List.length_drop]; omega) | omega))); intro bS vS kS WS h' tk' hk' hg' oS wS; (have F'q9 := Fr.after kFq9 hk'); (have N'q9 := newsMores kFq9 kNq9 hk' hg'); (dsimp only [List.cons_append, List.nil_append] at N'q9); (have lS := fun p hp => newsNe kNq9 (hg' p hp).2); clear hk' hg'; clear kNq9 kFq9; (try dsimp only); (try k_fold))) | ((with_reducible show wpAny _ _ (call _ [Value.bytes _ _]) _ _ _); refine call_type_of (Tx := "bytes") rfl (by decide +kernel) ?_) | (with_reducible ((with_reducible show wpAny _ _ (storeName _ _ _) _ _ _); k_dflt (refine' storeM ?Fq7 ?Nq7 ?_ ?aq7 ?bq7; (case Fq7 => k_asm); (case Nq7 => k_asm); (case aq7 => rfl); (case bq7 => rfl); k_whole; intro m'q7 h'q7 F'q7 N'q7; (try k_sweep)))) | (with_reducible ((with_reducible show wpAny _ _ (eval (PySem.Expr.Name _ _) _) _ _ _); k_dflt (refine' nameX_L ?Fq7 ?vq7 ?_ ?aq7 ?bq7; (case Fq7 => k_asm); (case aq7 => rfl); (case bq7 => rfl); (case vq7 => exact Eq.refl (some _)); k_whole))) | ((with_reducible show InvEnd _ _ _ _ _ _); ((with_reducible rename Fr _ _ _ _ => kFq7); first | ((dsimp +zetaDelta only at kFq7); (try dsimp +zetaDelta only)) | dsimp +zetaDelta only)) | ((with_reducible show InvEndG _ _ _ _ _ _); ((with_reducible rename Fr _ _ _ _ => kFq7); first | ((dsimp +zetaDelta only at kFq7); (try dsimp +zetaDelta only)) | dsimp +zetaDelta only)) | walk1 | (dsimp only; walk1) | (leave1; (try dsimp only)) | fail "no step") <;> (repeat ((fail_if_success (fail_if_success ((generalize qx = zq); (with_reducible show zq _ _)))); k_unfold; (try clear qx); (try (first | refine wpI (P := wpAny _ _ _ _ _ ⟨_, s.gens, s.drawn, _, s.os⟩) ?_ | refine wpI (P := wpAny _ _ _ _ _ _) ?_)); (try dsimp only)))))
    rename Fr _ _ _ _ => F
    rename News _ _ _ _ => N
    have r7 : uD.length ≤ 63 := Nat.le_trans lD q2
    refine sortedW F N (News.isList N (.head _)) (fun h' F' N' => wD.keeps (hbK _ fun p hp => (N' p (by (repeat (first | assumption | (refine List.mem_append_left _ ?_) | refine List.mem_cons_of_mem _ ?_)))).1)) (dd_nodup _) (by omega) (by (show (Around.deeper callerA ev).units + _ < cLine; simp only [units_deeper, units_caller]; decide)) ?_
    rintro b7 v7 k7 h7 F7 N7 l7 ⟨p7, hp7, ev7, e7⟩
    have w7 : WdH hb v7 (srtW (ddOf (sumsOf (nn.drop 3)))) := by
      rw [ev7, e7]
      exact wD.pick hp7
    clear ev7 e7 hp7 l7 N F
    have N7' : News _ _ _ ((b7, listOf (List.toArray v7) k7) :: (b6, listOf (List.toArray v6) k6) :: (b4, listOf (List.toArray v4) k4) :: (b3, listOf (List.toArray v3) k3) :: (b2, listOf (List.toArray v2) k2) :: (b1, listOf (List.toArray v1) k1) :: WW) := newsC (by k_mem) N7 (newsC (by k_mem) N7 (newsC (by k_mem) N7 (newsC (by k_mem) N7 (newsC (by k_mem) N7 (newsC (by k_mem) N7 (newsW N7 (fun p hp => by (repeat (first | assumption | (refine List.mem_append_left _ ?_) | refine List.mem_cons_of_mem _ ?_)))))))))
    clear N7
    have g6 : v6.length = 2 ^ v3.length := by rw [w6.length, PL.len1, a3]
    have g7 : v7.length = 2 ^ v4.length := by rw [w7.length, PL.len2, a4]
    have y6 : v6.length ≤ 8 := by rw [g6]; exact pow_8 z3
    have y7 : v7.length ≤ 8 := by rw [g7]; exact pow_8 z4
    have f6 : ((v6.length : Nat) : Int) = 2 ^ (Int.toNat (v3.length : Int)) := by rw [g6]; exact pow_cast _
    have f7 : ((v7.length : Nat) : Int) = 2 ^ (Int.toNat (v4.length : Int)) := by rw [g7]; exact pow_cast _
    clear g6 g7
    repeat ((fail_if_success (with_reducible show wpAny _ _ (call (Value.ref 123) _) _ _ _)); ((try ((with_reducible show wpAny _ _ (execs _ _) _ _ _); k_gentoks)); (try ((with_reducible show wpAny _ _ (exec _ _) _ _ _); (with_reducible refine foldQ ?_); intro qx)); (first | (k_unfold; (try (first | refine wpI (P := wpAny _ _ _ _ _ ⟨_, s.gens, s.drawn, _, s.os⟩) ?_ | refine wpI (P := wpAny _ _ _ _ _ _) ?_)); (try dsimp only)) | (k_end; kc_close) | (with_reducible ((with_reducible show wpAny _ _ (call (Value.builtin _) [Value.int _ _, Value.int _ _]) _ _ _); k_dflt (refine' maxW rfl ?Fq8 ?Nq8 ?eq8 ?_; (case Fq8 => with_reducible assumption); (case Nq8 => with_reducible assumption); (case eq8 => with_reducible assumption)); intro h'q9 t'q9 k'q9 F'q9 N'q9)) | (with_reducible ((with_reducible show wpAny _ _ (call (Value.ref 163) [Value.ref _, Value.ref _]) _ _ _); (with_reducible rename Fr _ _ _ _ => kFq9); (with_reducible rename News _ _ _ _ => kNq9); k_dflt (refine' only_con (Cx.any (by assumption) (Fr.keep kFq9)) ?kdq8 ?kuq8 ?klq8 ?kiq8 ?kmq8 ?kjq8 ?_; (case kdq8 => decide); (case kuq8 => decide); (case klq8 => exact News.isList kNq9 (by k_mem)); (case kiq8 => assumption); (case kmq8 => exact News.isList kNq9 (by k_mem)); (case kjq8 => assumption)); intro bO vO cO WO h' tk' hk' hg' wO; (have F'q9 := Fr.after kFq9 hk'); (have N'q9 := newsMores2 kFq9 kNq9 hk' hg'); (dsimp only [List.cons_append, List.nil_append] at N'q9); clear hk' hg'; clear kNq9 kFq9; (try dsimp only); (try k_fold))) | (with_reducible ((with_reducible show wpAny _ _ (compareOp PySem.CmpOp.NotEq (Value.int _ _) (Value.int _ _)) _ _ _); (k_dflt (refine' neV ?eq8 ?_; (case eq8 => first | assumption | omega))))) | (with_reducible ((with_reducible show wpAny _ _ (call (Value.ref 28) [Value.ref _]) _ _ _); (with_reducible rename Fr _ _ _ _ => kFq9); (with_reducible rename News _ _ _ _ => kNq9); k_dflt (refine' dedup_con (Cx.any (by assumption) (Fr.keep kFq9)) ?kdq8 ?kuq8 ?klq8 (hbK _ fun p hp => (kNq9 p (by (repeat (first | assumption | (refine List.mem_append_left _ ?_) | refine List.mem_cons_of_mem _ ?_)))).1) ?kwq8 ?kzq8 ?_; (case kdq8 => decide); (case kuq8 => decide); (case klq8 => exact News.isList kNq9 (by k_mem)); (case kwq8 => assumption); (case kzq8 => assumption)); intro bD uD kD h' tk' hk' hg' hn' wD lD; (have F'q9 := Fr.after kFq9 hk'); (have N'q9 := newsMore kFq9 kNq9 hk' hg' hn'); clear hk' hg' hn'; clear kNq9 kFq9; (try dsimp only); (try k_fold))) | (with_reducible ((with_reducible show wpAny _ _ (binaryOp PySem.Operator.Pow (Value.int _ _) (Value.int _ _)) _ _ _); (k_dflt (refine' powV ?aq8 ?bq8 ?_; (case aq8 => first | exact Int.natCast_nonneg _ | omega); (case bq8 => first | exact Int.ofNat_le.mpr (Nat.le_trans (by assumption) (by decide)) | omega)); intro t'q9 k'q9))) | (with_reducible ((with_reducible show wpAny _ _ (call (Value.builtin _) [Value.ref _]) _ _ _); k_dflt (refine' lenV (News.isList (by with_reducible assumption) (by k_mem)) ?zq8 ?_; (case zq8 => first | exact Nat.le_trans (by assumption) (by decide) | omega)); intro t'q9 k'q9)) | (with_reducible ((with_reducible show wpAny _ _ (call (Value.ref 144) [Value.ref _]) _ _ _); (with_reducible rename Fr _ _ _ _ => kFq9); (with_reducible rename News _ _ _ _ => kNq9); k_dflt (refine' basis_con (Cx.any (by assumption) (Fr.keep kFq9)) ?kdq8 ?kuq8 ?klq8 ?kiq8 ?kzq8 ?_; (case kdq8 => decide); (case kuq8 => decide); (case klq8 => exact News.isList kNq9 (by k_mem)); (case kiq8 => assumption); (case kzq8 => first | (first | (rw [List.length_take]; omega) | (rw [List.length_drop]; omega) | omega) | (rw [List.length_take]; omega) | (rw [List.length_drop]; omega) | omega)); intro bB vB kB h' tk' hk' hg' hn' iB; (have F'q9 := Fr.after kFq9 hk'); (have N'q9 := newsMore kFq9 kNq9 hk' hg' hn'); (have lB := newsNe kNq9 hn'); clear hk' hg' hn'; clear kNq9 kFq9; (try dsimp only); (try k_fold))) | (with_reducible ((with_reducible show wpAny _ _ (call (Value.ref 158) [Value.ref _]) _ _ _); (with_reducible rename Fr _ _ _ _ => kFq9); (with_reducible rename News _ _ _ _ => kNq9); k_dflt (refine' sums_con (Cx.any (by assumption) (Fr.keep kFq9)) ?kdq8 ?kuq8 ?klq8 ?kiq8 ?knq8 ?kzq8 ?_; (case kdq8 => decide); (case kuq8 => decide); (case klq8 => exact News.isList kNq9 (by k_mem)); (case kiq8 => assumption); (case knq8 => exact fun n hn => hn16 n (by first | exact List.mem_of_mem_take hn | exact List.mem_of_mem_drop hn)); (case kzq8 => (first | (rw [List.length_take]; omega) | (rw [List.length_drop]; omega) | omega))); intro bS vS kS WS h' tk' hk' hg' oS wS; (have F'q9 := Fr.after kFq9 hk'); (have N'q9 := newsMores kFq9 kNq9 hk' hg'); (dsimp only [List.cons_append, List.nil_append] at N'q9); (have lS := fun p hp => newsNe kNq9 (hg' p hp).2); clear hk' hg'; clear kNq9 kFq9; (try dsimp only); (try k_fold))) | ((with_reducible show wpAny _ _ (call _ [Value.bytes _ _]) _ _ _); refine call_type_of (Tx := "bytes") rfl (by decide +kernel) ?_) | (with_reducible ((with_reducible show wpAny _ _ (storeName _ _ _) _ _ _); k_dflt (refine' storeM ?Fq7 ?Nq7 ?_ ?aq7 ?bq7; (case Fq7 => k_asm); (case Nq7 => k_asm); (case aq7 => rfl); (case bq7 => rfl); k_whole; intro m'q7 h'q7 F'q7 N'q7; (try k_sweep)))) | (with_reducible ((with_reducible show wpAny _ _ (eval (PySem.Expr.Name _ _) _) _ _ _); k_dflt (refine' nameX_L ?Fq7 ?vq7 ?_ ?aq7 ?bq7; (case Fq7 => k_asm); (case aq7 => rfl); (case bq7 => rfl); (case vq7 => exact Eq.refl (some _)); k_whole))) | ((with_reducible show InvEnd _ _ _ _ _ _); ((with_reducible rename Fr _ _ _ _ => kFq7); first | ((dsimp +zetaDelta only at kFq7); (try dsimp +zetaDelta only)) | dsimp +zetaDelta only)) | ((with_reducible show InvEndG _ _ _ _ _ _); ((with_reducible rename Fr _ _ _ _ => kFq7); first | ((dsimp +zetaDelta only at kFq7); (try dsimp +zetaDelta only)) | dsimp +zetaDelta only)) | walk1 | (dsimp only; walk1) | (leave1; (try dsimp only)) | fail "no step") <;> (repeat ((fail_if_success (fail_if_success ((generalize qx = zq); (with_reducible show zq _ _)))); k_unfold; (try clear qx); (try (first | refine wpI (P := wpAny _ _ _ _ _ ⟨_, s.gens, s.drawn, _, s.os⟩) ?_ | refine wpI (P := wpAny _ _ _ _ _ _) ?_)); (try dsimp only)))))
    rename Fr _ _ _ _ => F
    rename News _ _ _ _ => N
    refine sldL C0 F N rfl (by show ScopeKind.function ≠ ScopeKind.module; decide) (by decide) (by decide) (by k_mem) (by k_mem) hbK (fun p hp => by (repeat (first | assumption | (refine List.mem_append_left _ ?_) | refine List.mem_cons_of_mem _ ?_))) w6 w7 (by omega) (by omega) (srt_ne _) (srt_ne _) ?_
    intro b8 b9 b10 v9 v10 m9 m10 k8 k9 k10 h8 tk8 F8 N8 w9 w10 hS
    obtain ⟨q9, q10, g9, g10⟩ := PL.sld _ _ hS
    have u9 : v9.length + 2 ^ m = 2 ^ v3.length := by rw [w9.length, a3]; exact g9
    have u10 : v10.length + 2 ^ m = 2 ^ v4.length := by rw [w10.length, a4]; exact g10
    have x3 := pow_8 z3
    have x4 := pow_8 z4
    have xm : (m : Int) = (v3.length : Int) + (v4.length : Int) - (v5.length : Int) := by omega
    have f9 : ((v9.length : Nat) : Int) = 2 ^ (Int.toNat (v3.length : Int)) - 2 ^ (Int.toNat ((v3.length : Int) + (v4.length : Int) - (v5.length : Int))) := by
      rw [← xm, ← pow_cast, ← pow_cast]; omega
    have f10 : ((v10.length : Nat) : Int) = 2 ^ (Int.toNat (v4.length : Int)) - 2 ^ (Int.toNat ((v3.length : Int) + (v4.length : Int) - (v5.length : Int))) := by
      rw [← xm, ← pow_cast, ← pow_cast]; omega
    have y9 : v9.length ≤ 8 := Nat.le_trans (Nat.le_add_right _ _) (Nat.le_trans (Nat.le_of_eq u9) x3)
    have y10 : v10.length ≤ 8 := Nat.le_trans (Nat.le_add_right _ _) (Nat.le_trans (Nat.le_of_eq u10) x4)
    clear N F
    repeat ((fail_if_success (with_reducible show wpAny _ _ (call (Value.ref 163) _) _ _ _)); ((try ((with_reducible show wpAny _ _ (execs _ _) _ _ _); k_gentoks)); (try ((with_reducible show wpAny _ _ (exec _ _) _ _ _); (with_reducible refine foldQ ?_); intro qx)); (first | (k_unfold; (try (first | refine wpI (P := wpAny _ _ _ _ _ ⟨_, s.gens, s.drawn, _, s.os⟩) ?_ | refine wpI (P := wpAny _ _ _ _ _ _) ?_)); (try dsimp only)) | (k_end; kc_close) | (with_reducible ((with_reducible show wpAny _ _ (call (Value.builtin _) [Value.int _ _, Value.int _ _]) _ _ _); k_dflt (refine' maxW rfl ?Fq8 ?Nq8 ?eq8 ?_; (case Fq8 => with_reducible assumption); (case Nq8 => with_reducible assumption); (case eq8 => with_reducible assumption)); intro h'q9 t'q9 k'q9 F'q9 N'q9)) | (with_reducible ((with_reducible show wpAny _ _ (call (Value.ref 163) [Value.ref _, Value.ref _]) _ _ _); (with_reducible rename Fr _ _ _ _ => kFq9); (with_reducible rename News _ _ _ _ => kNq9); k_dflt (refine' only_con (Cx.any (by assumption) (Fr.keep kFq9)) ?kdq8 ?kuq8 ?klq8 ?kiq8 ?kmq8 ?kjq8 ?_; (case kdq8 => decide); (case kuq8 => decide); (case klq8 => exact News.isList kNq9 (by k_mem)); (case kiq8 => assumption); (case kmq8 => exact News.isList kNq9 (by k_mem)); (case kjq8 => assumption)); intro bO vO cO WO h' tk' hk' hg' wO; (have F'q9 := Fr.after kFq9 hk'); (have N'q9 := newsMores2 kFq9 kNq9 hk' hg'); (dsimp only [List.cons_append, List.nil_append] at N'q9); clear hk' hg'; clear kNq9 kFq9; (try dsimp only); (try k_fold))) | (with_reducible ((with_reducible show wpAny _ _ (compareOp PySem.CmpOp.NotEq (Value.int _ _) (Value.int _ _)) _ _ _); (k_dflt (refine' neV ?eq8 ?_; (case eq8 => first | assumption | omega))))) | (with_reducible ((with_reducible show wpAny _ _ (call (Value.ref 28) [Value.ref _]) _ _ _); (with_reducible rename Fr _ _ _ _ => kFq9); (with_reducible rename News _ _ _ _ => kNq9); k_dflt (refine' dedup_con (Cx.any (by assumption) (Fr.keep kFq9)) ?kdq8 ?kuq8 ?klq8 (hbK _ fun p hp => (kNq9 p (by (repeat (first | assumption | (refine List.mem_append_left _ ?_) | refine List.mem_cons_of_mem _ ?_)))).1) ?kwq8 ?kzq8 ?_; (case kdq8 => decide); (case kuq8 => decide); (case klq8 => exact News.isList kNq9 (by k_mem)); (case kwq8 => assumption); (case kzq8 => assumption)); intro bD uD kD h' tk' hk' hg' hn' wD lD; (have F'q9 := Fr.after kFq9 hk'); (have N'q9 := newsMore kFq9 kNq9 hk' hg' hn'); clear hk' hg' hn'; clear kNq9 kFq9; (try dsimp only); (try k_fold))) | (with_reducible ((with_reducible show wpAny _ _ (binaryOp PySem.Operator.Pow (Value.int _ _) (Value.int _ _)) _ _ _); (k_dflt (refine' powV ?aq8 ?bq8 ?_; (case aq8 => first | exact Int.natCast_nonneg _ | omega); (case bq8 => first | exact Int.ofNat_le.mpr (Nat.le_trans (by assumption) (by decide)) | omega)); intro t'q9 k'q9))) | (with_reducible ((with_reducible show wpAny _ _ (call (Value.builtin _) [Value.ref _]) _ _ _); k_dflt (refine' lenV (News.isList (by with_reducible assumption) (by k_mem)) ?zq8 ?_; (case zq8 => first | exact Nat.le_trans (by assumption) (by decide) | omega)); intro t'q9 k'q9)) | (with_reducible ((with_reducible show wpAny _ _ (call (Value.ref 144) [Value.ref _]) _ _ _); (with_reducible rename Fr _ _ _ _ => kFq9); (with_reducible rename News _ _ _ _ => kNq9); k_dflt (refine' basis_con (Cx.any (by assumption) (Fr.keep kFq9)) ?kdq8 ?kuq8 ?klq8 ?kiq8 ?kzq8 ?_; (case kdq8 => decide); (case kuq8 => decide); (case klq8 => exact News.isList kNq9 (by k_mem)); (case kiq8 => assumption); (case kzq8 => first | (first | (rw [List.length_take]; omega) | (rw [List.length_drop]; omega) | omega) | (rw [List.length_take]; omega) | (rw [List.length_drop]; omega) | omega)); intro bB vB kB h' tk' hk' hg' hn' iB; (have F'q9 := Fr.after kFq9 hk'); (have N'q9 := newsMore kFq9 kNq9 hk' hg' hn'); (have lB := newsNe kNq9 hn'); clear hk' hg' hn'; clear kNq9 kFq9; (try dsimp only); (try k_fold))) | (with_reducible ((with_reducible show wpAny _ _ (call (Value.ref 158) [Value.ref _]) _ _ _); (with_reducible rename Fr _ _ _ _ => kFq9); (with_reducible rename News _ _ _ _ => kNq9); k_dflt (refine' sums_con (Cx.any (by assumption) (Fr.keep kFq9)) ?kdq8 ?kuq8 ?klq8 ?kiq8 ?knq8 ?kzq8 ?_; (case kdq8 => decide); (case kuq8 => decide); (case klq8 => exact News.isList kNq9 (by k_mem)); (case kiq8 => assumption); (case knq8 => exact fun n hn => hn16 n (by first | exact List.mem_of_mem_take hn | exact List.mem_of_mem_drop hn)); (case kzq8 => (first | (rw [List.length_take]; omega) | (rw [List.length_drop]; omega) | omega))); intro bS vS kS WS h' tk' hk' hg' oS wS; (have F'q9 := Fr.after kFq9 hk'); (have N'q9 := newsMores kFq9 kNq9 hk' hg'); (dsimp only [List.cons_append, List.nil_append] at N'q9); (have lS := fun p hp => newsNe kNq9 (hg' p hp).2); clear hk' hg'; clear kNq9 kFq9; (try dsimp only); (try k_fold))) | ((with_reducible show wpAny _ _ (call _ [Value.bytes _ _]) _ _ _); refine call_type_of (Tx := "bytes") rfl (by decide +kernel) ?_) | (with_reducible ((with_reducible show wpAny _ _ (storeName _ _ _) _ _ _); k_dflt (refine' storeM ?Fq7 ?Nq7 ?_ ?aq7 ?bq7; (case Fq7 => k_asm); (case Nq7 => k_asm); (case aq7 => rfl); (case bq7 => rfl); k_whole; intro m'q7 h'q7 F'q7 N'q7; (try k_sweep)))) | (with_reducible ((with_reducible show wpAny _ _ (eval (PySem.Expr.Name _ _) _) _ _ _); k_dflt (refine' nameX_L ?Fq7 ?vq7 ?_ ?aq7 ?bq7; (case Fq7 => k_asm); (case aq7 => rfl); (case bq7 => rfl); (case vq7 => exact Eq.refl (some _)); k_whole))) | ((with_reducible show InvEnd _ _ _ _ _ _); ((with_reducible rename Fr _ _ _ _ => kFq7); first | ((dsimp +zetaDelta only at kFq7); (try dsimp +zetaDelta only)) | dsimp +zetaDelta only)) | ((with_reducible show InvEndG _ _ _ _ _ _); ((with_reducible rename Fr _ _ _ _ => kFq7); first | ((dsimp +zetaDelta only at kFq7); (try dsimp +zetaDelta only)) | dsimp +zetaDelta only)) | walk1 | (dsimp only; walk1) | (leave1; (try dsimp only)) | fail "no step") <;> (repeat ((fail_if_success (fail_if_success ((generalize qx = zq); (with_reducible show zq _ _)))); k_unfold; (try clear qx); (try (first | refine wpI (P := wpAny _ _ _ _ _ ⟨_, s.gens, s.drawn, _, s.os⟩) ?_ | refine wpI (P := wpAny _ _ _ _ _ _) ?_)); (try dsimp only)))))
    ((try ((with_reducible show wpAny _ _ (execs _ _) _ _ _); k_gentoks)); (try ((with_reducible show wpAny _ _ (exec _ _) _ _ _); (with_reducible refine foldQ ?_); intro qx)); (first | (k_unfold; (try (first | refine wpI (P := wpAny _ _ _ _ _ ⟨_, s.gens, s.drawn, _, s.os⟩) ?_ | refine wpI (P := wpAny _ _ _ _ _ _) ?_)); (try dsimp only)) | (k_end; kc_close) | (with_reducible ((with_reducible show wpAny _ _ (call (Value.builtin _) [Value.int _ _, Value.int _ _]) _ _ _); k_dflt (refine' maxW rfl ?Fq8 ?Nq8 ?eq8 ?_; (case Fq8 => with_reducible assumption); (case Nq8 => with_reducible assumption); (case eq8 => with_reducible assumption)); intro h'q9 t'q9 k'q9 F'q9 N'q9)) | (with_reducible ((with_reducible show wpAny _ _ (call (Value.ref 163) [Value.ref _, Value.ref _]) _ _ _); (with_reducible rename Fr _ _ _ _ => kFq9); (with_reducible rename News _ _ _ _ => kNq9); k_dflt (refine' only_con (Cx.any (by assumption) (Fr.keep kFq9)) ?kdq8 ?kuq8 ?klq8 ?kiq8 ?kmq8 ?kjq8 ?_; (case kdq8 => decide); (case kuq8 => decide); (case klq8 => exact News.isList kNq9 (by k_mem)); (case kiq8 => assumption); (case kmq8 => exact News.isList kNq9 (by k_mem)); (case kjq8 => assumption)); intro c1 u1 n1 V1 h' tk' hk' hg' t1; (have F'q9 := Fr.after kFq9 hk'); (have N'q9 := newsMores2 kFq9 kNq9 hk' hg'); (dsimp only [List.cons_append, List.nil_append] at N'q9); clear hk' hg'; clear kNq9 kFq9; (try dsimp only); (try k_fold))) | (with_reducible ((with_reducible show wpAny _ _ (compareOp PySem.CmpOp.NotEq (Value.int _ _) (Value.int _ _)) _ _ _); (k_dflt (refine' neV ?eq8 ?_; (case eq8 => first | assumption | omega))))) | (with_reducible ((with_reducible show wpAny _ _ (call (Value.ref 28) [Value.ref _]) _ _ _); (with_reducible rename Fr _ _ _ _ => kFq9); (with_reducible rename News _ _ _ _ => kNq9); k_dflt (refine' dedup_con (Cx.any (by assumption) (Fr.keep kFq9)) ?kdq8 ?kuq8 ?klq8 (hbK _ fun p hp => (kNq9 p (by (repeat (first | assumption | (refine List.mem_append_left _ ?_) | refine List.mem_cons_of_mem _ ?_)))).1) ?kwq8 ?kzq8 ?_; (case kdq8 => decide); (case kuq8 => decide); (case klq8 => exact News.isList kNq9 (by k_mem)); (case kwq8 => assumption); (case kzq8 => assumption)); intro bD uD kD h' tk' hk' hg' hn' wD lD; (have F'q9 := Fr.after kFq9 hk'); (have N'q9 := newsMore kFq9 kNq9 hk' hg' hn'); clear hk' hg' hn'; clear kNq9 kFq9; (try dsimp only); (try k_fold))) | (with_reducible ((with_reducible show wpAny _ _ (binaryOp PySem.Operator.Pow (Value.int _ _) (Value.int _ _)) _ _ _); (k_dflt (refine' powV ?aq8 ?bq8 ?_; (case aq8 => first | exact Int.natCast_nonneg _ | omega); (case bq8 => first | exact Int.ofNat_le.mpr (Nat.le_trans (by assumption) (by decide)) | omega)); intro t'q9 k'q9))) | (with_reducible ((with_reducible show wpAny _ _ (call (Value.builtin _) [Value.ref _]) _ _ _); k_dflt (refine' lenV (News.isList (by with_reducible assumption) (by k_mem)) ?zq8 ?_; (case zq8 => first | exact Nat.le_trans (by assumption) (by decide) | omega)); intro t'q9 k'q9)) | (with_reducible ((with_reducible show wpAny _ _ (call (Value.ref 144) [Value.ref _]) _ _ _); (with_reducible rename Fr _ _ _ _ => kFq9); (with_reducible rename News _ _ _ _ => kNq9); k_dflt (refine' basis_con (Cx.any (by assumption) (Fr.keep kFq9)) ?kdq8 ?kuq8 ?klq8 ?kiq8 ?kzq8 ?_; (case kdq8 => decide); (case kuq8 => decide); (case klq8 => exact News.isList kNq9 (by k_mem)); (case kiq8 => assumption); (case kzq8 => first | (first | (rw [List.length_take]; omega) | (rw [List.length_drop]; omega) | omega) | (rw [List.length_take]; omega) | (rw [List.length_drop]; omega) | omega)); intro bB vB kB h' tk' hk' hg' hn' iB; (have F'q9 := Fr.after kFq9 hk'); (have N'q9 := newsMore kFq9 kNq9 hk' hg' hn'); (have lB := newsNe kNq9 hn'); clear hk' hg' hn'; clear kNq9 kFq9; (try dsimp only); (try k_fold))) | (with_reducible ((with_reducible show wpAny _ _ (call (Value.ref 158) [Value.ref _]) _ _ _); (with_reducible rename Fr _ _ _ _ => kFq9); (with_reducible rename News _ _ _ _ => kNq9); k_dflt (refine' sums_con (Cx.any (by assumption) (Fr.keep kFq9)) ?kdq8 ?kuq8 ?klq8 ?kiq8 ?knq8 ?kzq8 ?_; (case kdq8 => decide); (case kuq8 => decide); (case klq8 => exact News.isList kNq9 (by k_mem)); (case kiq8 => assumption); (case knq8 => exact fun n hn => hn16 n (by first | exact List.mem_of_mem_take hn | exact List.mem_of_mem_drop hn)); (case kzq8 => (first | (rw [List.length_take]; omega) | (rw [List.length_drop]; omega) | omega))); intro bS vS kS WS h' tk' hk' hg' oS wS; (have F'q9 := Fr.after kFq9 hk'); (have N'q9 := newsMores kFq9 kNq9 hk' hg'); (dsimp only [List.cons_append, List.nil_append] at N'q9); (have lS := fun p hp => newsNe kNq9 (hg' p hp).2); clear hk' hg'; clear kNq9 kFq9; (try dsimp only); (try k_fold))) | ((with_reducible show wpAny _ _ (call _ [Value.bytes _ _]) _ _ _); refine call_type_of (Tx := "bytes") rfl (by decide +kernel) ?_) | (with_reducible ((with_reducible show wpAny _ _ (storeName _ _ _) _ _ _); k_dflt (refine' storeM ?Fq7 ?Nq7 ?_ ?aq7 ?bq7; (case Fq7 => k_asm); (case Nq7 => k_asm); (case aq7 => rfl); (case bq7 => rfl); k_whole; intro m'q7 h'q7 F'q7 N'q7; (try k_sweep)))) | (with_reducible ((with_reducible show wpAny _ _ (eval (PySem.Expr.Name _ _) _) _ _ _); k_dflt (refine' nameX_L ?Fq7 ?vq7 ?_ ?aq7 ?bq7; (case Fq7 => k_asm); (case aq7 => rfl); (case bq7 => rfl); (case vq7 => exact Eq.refl (some _)); k_whole))) | ((with_reducible show InvEnd _ _ _ _ _ _); ((with_reducible rename Fr _ _ _ _ => kFq7); first | ((dsimp +zetaDelta only at kFq7); (try dsimp +zetaDelta only)) | dsimp +zetaDelta only)) | ((with_reducible show InvEndG _ _ _ _ _ _); ((with_reducible rename Fr _ _ _ _ => kFq7); first | ((dsimp +zetaDelta only at kFq7); (try dsimp +zetaDelta only)) | dsimp +zetaDelta only)) | walk1 | (dsimp only; walk1) | (leave1; (try dsimp only)) | fail "no step") <;> (repeat ((fail_if_success (fail_if_success ((generalize qx = zq); (with_reducible show zq _ _)))); k_unfold; (try clear qx); (try (first | refine wpI (P := wpAny _ _ _ _ _ ⟨_, s.gens, s.drawn, _, s.os⟩) ?_ | refine wpI (P := wpAny _ _ _ _ _ _) ?_)); (try dsimp only))))
    repeat ((fail_if_success (with_reducible show wpAny _ _ (call (Value.ref 163) _) _ _ _)); ((try ((with_reducible show wpAny _ _ (execs _ _) _ _ _); k_gentoks)); (try ((with_reducible show wpAny _ _ (exec _ _) _ _ _); (with_reducible refine foldQ ?_); intro qx)); (first | (k_unfold; (try (first | refine wpI (P := wpAny _ _ _ _ _ ⟨_, s.gens, s.drawn, _, s.os⟩) ?_ | refine wpI (P := wpAny _ _ _ _ _ _) ?_)); (try dsimp only)) | (k_end; kc_close) | (with_reducible ((with_reducible show wpAny _ _ (call (Value.builtin _) [Value.int _ _, Value.int _ _]) _ _ _); k_dflt (refine' maxW rfl ?Fq8 ?Nq8 ?eq8 ?_; (case Fq8 => with_reducible assumption); (case Nq8 => with_reducible assumption); (case eq8 => with_reducible assumption)); intro h'q9 t'q9 k'q9 F'q9 N'q9)) | (with_reducible ((with_reducible show wpAny _ _ (call (Value.ref 163) [Value.ref _, Value.ref _]) _ _ _); (with_reducible rename Fr _ _ _ _ => kFq9); (with_reducible rename News _ _ _ _ => kNq9); k_dflt (refine' only_con (Cx.any (by assumption) (Fr.keep kFq9)) ?kdq8 ?kuq8 ?klq8 ?kiq8 ?kmq8 ?kjq8 ?_; (case kdq8 => decide); (case kuq8 => decide); (case klq8 => exact News.isList kNq9 (by k_mem)); (case kiq8 => assumption); (case kmq8 => exact News.isList kNq9 (by k_mem)); (case kjq8 => assumption)); intro bO vO cO WO h' tk' hk' hg' wO; (have F'q9 := Fr.after kFq9 hk'); (have N'q9 := newsMores2 kFq9 kNq9 hk' hg'); (dsimp only [List.cons_append, List.nil_append] at N'q9); clear hk' hg'; clear kNq9 kFq9; (try dsimp only); (try k_fold))) | (with_reducible ((with_reducible show wpAny _ _ (compareOp PySem.CmpOp.NotEq (Value.int _ _) (Value.int _ _)) _ _ _); (k_dflt (refine' neV ?eq8 ?_; (case eq8 => first | assumption | omega))))) | (with_reducible ((with_reducible show wpAny _ _ (call (Value.ref 28) [Value.ref _]) _ _ _); (with_reducible rename Fr _ _ _ _ => kFq9); (with_reducible rename News _ _ _ _ => kNq9); k_dflt (refine' dedup_con (Cx.any (by assumption) (Fr.keep kFq9)) ?kdq8 ?kuq8 ?klq8 (hbK _ fun p hp => (kNq9 p (by (repeat (first | assumption | (refine List.mem_append_left _ ?_) | refine List.mem_cons_of_mem _ ?_)))).1) ?kwq8 ?kzq8 ?_; (case kdq8 => decide); (case kuq8 => decide); (case klq8 => exact News.isList kNq9 (by k_mem)); (case kwq8 => assumption); (case kzq8 => assumption)); intro bD uD kD h' tk' hk' hg' hn' wD lD; (have F'q9 := Fr.after kFq9 hk'); (have N'q9 := newsMore kFq9 kNq9 hk' hg' hn'); clear hk' hg' hn'; clear kNq9 kFq9; (try dsimp only); (try k_fold))) | (with_reducible ((with_reducible show wpAny _ _ (binaryOp PySem.Operator.Pow (Value.int _ _) (Value.int _ _)) _ _ _); (k_dflt (refine' powV ?aq8 ?bq8 ?_; (case aq8 => first | exact Int.natCast_nonneg _ | omega); (case bq8 => first | exact Int.ofNat_le.mpr (Nat.le_trans (by assumption) (by decide)) | omega)); intro t'q9 k'q9))) | (with_reducible ((with_reducible show wpAny _ _ (call (Value.builtin _) [Value.ref _]) _ _ _); k_dflt (refine' lenV (News.isList (by with_reducible assumption) (by k_mem)) ?zq8 ?_; (case zq8 => first | exact Nat.le_trans (by assumption) (by decide) | omega)); intro t'q9 k'q9)) | (with_reducible ((with_reducible show wpAny _ _ (call (Value.ref 144) [Value.ref _]) _ _ _); (with_reducible rename Fr _ _ _ _ => kFq9); (with_reducible rename News _ _ _ _ => kNq9); k_dflt (refine' basis_con (Cx.any (by assumption) (Fr.keep kFq9)) ?kdq8 ?kuq8 ?klq8 ?kiq8 ?kzq8 ?_; (case kdq8 => decide); (case kuq8 => decide); (case klq8 => exact News.isList kNq9 (by k_mem)); (case kiq8 => assumption); (case kzq8 => first | (first | (rw [List.length_take]; omega) | (rw [List.length_drop]; omega) | omega) | (rw [List.length_take]; omega) | (rw [List.length_drop]; omega) | omega)); intro bB vB kB h' tk' hk' hg' hn' iB; (have F'q9 := Fr.after kFq9 hk'); (have N'q9 := newsMore kFq9 kNq9 hk' hg' hn'); (have lB := newsNe kNq9 hn'); clear hk' hg' hn'; clear kNq9 kFq9; (try dsimp only); (try k_fold))) | (with_reducible ((with_reducible show wpAny _ _ (call (Value.ref 158) [Value.ref _]) _ _ _); (with_reducible rename Fr _ _ _ _ => kFq9); (with_reducible rename News _ _ _ _ => kNq9); k_dflt (refine' sums_con (Cx.any (by assumption) (Fr.keep kFq9)) ?kdq8 ?kuq8 ?klq8 ?kiq8 ?knq8 ?kzq8 ?_; (case kdq8 => decide); (case kuq8 => decide); (case klq8 => exact News.isList kNq9 (by k_mem)); (case kiq8 => assumption); (case knq8 => exact fun n hn => hn16 n (by first | exact List.mem_of_mem_take hn | exact List.mem_of_mem_drop hn)); (case kzq8 => (first | (rw [List.length_take]; omega) | (rw [List.length_drop]; omega) | omega))); intro bS vS kS WS h' tk' hk' hg' oS wS; (have F'q9 := Fr.after kFq9 hk'); (have N'q9 := newsMores kFq9 kNq9 hk' hg'); (dsimp only [List.cons_append, List.nil_append] at N'q9); (have lS := fun p hp => newsNe kNq9 (hg' p hp).2); clear hk' hg'; clear kNq9 kFq9; (try dsimp only); (try k_fold))) | ((with_reducible show wpAny _ _ (call _ [Value.bytes _ _]) _ _ _); refine call_type_of (Tx := "bytes") rfl (by decide +kernel) ?_) | (with_reducible ((with_reducible show wpAny _ _ (storeName _ _ _) _ _ _); k_dflt (refine' storeM ?Fq7 ?Nq7 ?_ ?aq7 ?bq7; (case Fq7 => k_asm); (case Nq7 => k_asm); (case aq7 => rfl); (case bq7 => rfl); k_whole; intro m'q7 h'q7 F'q7 N'q7; (try k_sweep)))) | (with_reducible ((with_reducible show wpAny _ _ (eval (PySem.Expr.Name _ _) _) _ _ _); k_dflt (refine' nameX_L ?Fq7 ?vq7 ?_ ?aq7 ?bq7; (case Fq7 => k_asm); (case aq7 => rfl); (case bq7 => rfl); (case vq7 => exact Eq.refl (some _)); k_whole))) | ((with_reducible show InvEnd _ _ _ _ _ _); ((with_reducible rename Fr _ _ _ _ => kFq7); first | ((dsimp +zetaDelta only at kFq7); (try dsimp +zetaDelta only)) | dsimp +zetaDelta only)) | ((with_reducible show InvEndG _ _ _ _ _ _); ((with_reducible rename Fr _ _ _ _ => kFq7); first | ((dsimp +zetaDelta only at kFq7); (try dsimp +zetaDelta only)) | dsimp +zetaDelta only)) | walk1 | (dsimp only; walk1) | (leave1; (try dsimp only)) | fail "no step") <;> (repeat ((fail_if_success (fail_if_success ((generalize qx = zq); (with_reducible show zq _ _)))); k_unfold; (try clear qx); (try (first | refine wpI (P := wpAny _ _ _ _ _ ⟨_, s.gens, s.drawn, _, s.os⟩) ?_ | refine wpI (P := wpAny _ _ _ _ _ _) ?_)); (try dsimp only)))))
    ((try ((with_reducible show wpAny _ _ (execs _ _) _ _ _); k_gentoks)); (try ((with_reducible show wpAny _ _ (exec _ _) _ _ _); (with_reducible refine foldQ ?_); intro qx)); (first | (k_unfold; (try (first | refine wpI (P := wpAny _ _ _ _ _ ⟨_, s.gens, s.drawn, _, s.os⟩) ?_ | refine wpI (P := wpAny _ _ _ _ _ _) ?_)); (try dsimp only)) | (k_end; kc_close) | (with_reducible ((with_reducible show wpAny _ _ (call (Value.builtin _) [Value.int _ _, Value.int _ _]) _ _ _); k_dflt (refine' maxW rfl ?Fq8 ?Nq8 ?eq8 ?_; (case Fq8 => with_reducible assumption); (case Nq8 => with_reducible assumption); (case eq8 => with_reducible assumption)); intro h'q9 t'q9 k'q9 F'q9 N'q9)) | (with_reducible ((with_reducible show wpAny _ _ (call (Value.ref 163) [Value.ref _, Value.ref _]) _ _ _); (with_reducible rename Fr _ _ _ _ => kFq9); (with_reducible rename News _ _ _ _ => kNq9); k_dflt (refine' only_con (Cx.any (by assumption) (Fr.keep kFq9)) ?kdq8 ?kuq8 ?klq8 ?kiq8 ?kmq8 ?kjq8 ?_; (case kdq8 => decide); (case kuq8 => decide); (case klq8 => exact News.isList kNq9 (by k_mem)); (case kiq8 => assumption); (case kmq8 => exact News.isList kNq9 (by k_mem)); (case kjq8 => assumption)); intro c2 u2 n2 V2 h' tk' hk' hg' t2; (have F'q9 := Fr.after kFq9 hk'); (have N'q9 := newsMores2 kFq9 kNq9 hk' hg'); (dsimp only [List.cons_append, List.nil_append] at N'q9); clear hk' hg'; clear kNq9 kFq9; (try dsimp only); (try k_fold))) | (with_reducible ((with_reducible show wpAny _ _ (compareOp PySem.CmpOp.NotEq (Value.int _ _) (Value.int _ _)) _ _ _); (k_dflt (refine' neV ?eq8 ?_; (case eq8 => first | assumption | omega))))) | (with_reducible ((with_reducible show wpAny _ _ (call (Value.ref 28) [Value.ref _]) _ _ _); (with_reducible rename Fr _ _ _ _ => kFq9); (with_reducible rename News _ _ _ _ => kNq9); k_dflt (refine' dedup_con (Cx.any (by assumption) (Fr.keep kFq9)) ?kdq8 ?kuq8 ?klq8 (hbK _ fun p hp => (kNq9 p (by (repeat (first | assumption | (refine List.mem_append_left _ ?_) | refine List.mem_cons_of_mem _ ?_)))).1) ?kwq8 ?kzq8 ?_; (case kdq8 => decide); (case kuq8 => decide); (case klq8 => exact News.isList kNq9 (by k_mem)); (case kwq8 => assumption); (case kzq8 => assumption)); intro bD uD kD h' tk' hk' hg' hn' wD lD; (have F'q9 := Fr.after kFq9 hk'); (have N'q9 := newsMore kFq9 kNq9 hk' hg' hn'); clear hk' hg' hn'; clear kNq9 kFq9; (try dsimp only); (try k_fold))) | (with_reducible ((with_reducible show wpAny _ _ (binaryOp PySem.Operator.Pow (Value.int _ _) (Value.int _ _)) _ _ _); (k_dflt (refine' powV ?aq8 ?bq8 ?_; (case aq8 => first | exact Int.natCast_nonneg _ | omega); (case bq8 => first | exact Int.ofNat_le.mpr (Nat.le_trans (by assumption) (by decide)) | omega)); intro t'q9 k'q9))) | (with_reducible ((with_reducible show wpAny _ _ (call (Value.builtin _) [Value.ref _]) _ _ _); k_dflt (refine' lenV (News.isList (by with_reducible assumption) (by k_mem)) ?zq8 ?_; (case zq8 => first | exact Nat.le_trans (by assumption) (by decide) | omega)); intro t'q9 k'q9)) | (with_reducible ((with_reducible show wpAny _ _ (call (Value.ref 144) [Value.ref _]) _ _ _); (with_reducible rename Fr _ _ _ _ => kFq9); (with_reducible rename News _ _ _ _ => kNq9); k_dflt (refine' basis_con (Cx.any (by assumption) (Fr.keep kFq9)) ?kdq8 ?kuq8 ?klq8 ?kiq8 ?kzq8 ?_; (case kdq8 => decide); (case kuq8 => decide); (case klq8 => exact News.isList kNq9 (by k_mem)); (case kiq8 => assumption); (case kzq8 => first | (first | (rw [List.length_take]; omega) | (rw [List.length_drop]; omega) | omega) | (rw [List.length_take]; omega) | (rw [List.length_drop]; omega) | omega)); intro bB vB kB h' tk' hk' hg' hn' iB; (have F'q9 := Fr.after kFq9 hk'); (have N'q9 := newsMore kFq9 kNq9 hk' hg' hn'); (have lB := newsNe kNq9 hn'); clear hk' hg' hn'; clear kNq9 kFq9; (try dsimp only); (try k_fold))) | (with_reducible ((with_reducible show wpAny _ _ (call (Value.ref 158) [Value.ref _]) _ _ _); (with_reducible rename Fr _ _ _ _ => kFq9); (with_reducible rename News _ _ _ _ => kNq9); k_dflt (refine' sums_con (Cx.any (by assumption) (Fr.keep kFq9)) ?kdq8 ?kuq8 ?klq8 ?kiq8 ?knq8 ?kzq8 ?_; (case kdq8 => decide); (case kuq8 => decide); (case klq8 => exact News.isList kNq9 (by k_mem)); (case kiq8 => assumption); (case knq8 => exact fun n hn => hn16 n (by first | exact List.mem_of_mem_take hn | exact List.mem_of_mem_drop hn)); (case kzq8 => (first | (rw [List.length_take]; omega) | (rw [List.length_drop]; omega) | omega))); intro bS vS kS WS h' tk' hk' hg' oS wS; (have F'q9 := Fr.after kFq9 hk'); (have N'q9 := newsMores kFq9 kNq9 hk' hg'); (dsimp only [List.cons_append, List.nil_append] at N'q9); (have lS := fun p hp => newsNe kNq9 (hg' p hp).2); clear hk' hg'; clear kNq9 kFq9; (try dsimp only); (try k_fold))) | ((with_reducible show wpAny _ _ (call _ [Value.bytes _ _]) _ _ _); refine call_type_of (Tx := "bytes") rfl (by decide +kernel) ?_) | (with_reducible ((with_reducible show wpAny _ _ (storeName _ _ _) _ _ _); k_dflt (refine' storeM ?Fq7 ?Nq7 ?_ ?aq7 ?bq7; (case Fq7 => k_asm); (case Nq7 => k_asm); (case aq7 => rfl); (case bq7 => rfl); k_whole; intro m'q7 h'q7 F'q7 N'q7; (try k_sweep)))) | (with_reducible ((with_reducible show wpAny _ _ (eval (PySem.Expr.Name _ _) _) _ _ _); k_dflt (refine' nameX_L ?Fq7 ?vq7 ?_ ?aq7 ?bq7; (case Fq7 => k_asm); (case aq7 => rfl); (case bq7 => rfl); (case vq7 => exact Eq.refl (some _)); k_whole))) | ((with_reducible show InvEnd _ _ _ _ _ _); ((with_reducible rename Fr _ _ _ _ => kFq7); first | ((dsimp +zetaDelta only at kFq7); (try dsimp +zetaDelta only)) | dsimp +zetaDelta only)) | ((with_reducible show InvEndG _ _ _ _ _ _); ((with_reducible rename Fr _ _ _ _ => kFq7); first | ((dsimp +zetaDelta only at kFq7); (try dsimp +zetaDelta only)) | dsimp +zetaDelta only)) | walk1 | (dsimp only; walk1) | (leave1; (try dsimp only)) | fail "no step") <;> (repeat ((fail_if_success (fail_if_success ((generalize qx = zq); (with_reducible show zq _ _)))); k_unfold; (try clear qx); (try (first | refine wpI (P := wpAny _ _ _ _ _ ⟨_, s.gens, s.drawn, _, s.os⟩) ?_ | refine wpI (P := wpAny _ _ _ _ _ _) ?_)); (try dsimp only))))
    rw [← q9] at t1
    rw [← q10] at t2
    repeat ((fail_if_success (with_reducible show wpAny _ _ (compareOp _ _ _) _ _ _)); ((try ((with_reducible show wpAny _ _ (execs _ _) _ _ _); k_gentoks)); (try ((with_reducible show wpAny _ _ (exec _ _) _ _ _); (with_reducible refine foldQ ?_); intro qx)); (first | (k_unfold; (try (first | refine wpI (P := wpAny _ _ _ _ _ ⟨_, s.gens, s.drawn, _, s.os⟩) ?_ | refine wpI (P := wpAny _ _ _ _ _ _) ?_)); (try dsimp only)) | (k_end; kc_close) | (with_reducible ((with_reducible show wpAny _ _ (call (Value.builtin _) [Value.int _ _, Value.int _ _]) _ _ _); k_dflt (refine' maxW rfl ?Fq8 ?Nq8 ?eq8 ?_; (case Fq8 => with_reducible assumption); (case Nq8 => with_reducible assumption); (case eq8 => with_reducible assumption)); intro h'q9 t'q9 k'q9 F'q9 N'q9)) | (with_reducible ((with_reducible show wpAny _ _ (call (Value.ref 163) [Value.ref _, Value.ref _]) _ _ _); (with_reducible rename Fr _ _ _ _ => kFq9); (with_reducible rename News _ _ _ _ => kNq9); k_dflt (refine' only_con (Cx.any (by assumption) (Fr.keep kFq9)) ?kdq8 ?kuq8 ?klq8 ?kiq8 ?kmq8 ?kjq8 ?_; (case kdq8 => decide); (case kuq8 => decide); (case klq8 => exact News.isList kNq9 (by k_mem)); (case kiq8 => assumption); (case kmq8 => exact News.isList kNq9 (by k_mem)); (case kjq8 => assumption)); intro bO vO cO WO h' tk' hk' hg' wO; (have F'q9 := Fr.after kFq9 hk'); (have N'q9 := newsMores2 kFq9 kNq9 hk' hg'); (dsimp only [List.cons_append, List.nil_append] at N'q9); clear hk' hg'; clear kNq9 kFq9; (try dsimp only); (try k_fold))) | (with_reducible ((with_reducible show wpAny _ _ (compareOp PySem.CmpOp.NotEq (Value.int _ _) (Value.int _ _)) _ _ _); (k_dflt (refine' neV ?eq8 ?_; (case eq8 => first | assumption | omega))))) | (with_reducible ((with_reducible show wpAny _ _ (call (Value.ref 28) [Value.ref _]) _ _ _); (with_reducible rename Fr _ _ _ _ => kFq9); (with_reducible rename News _ _ _ _ => kNq9); k_dflt (refine' dedup_con (Cx.any (by assumption) (Fr.keep kFq9)) ?kdq8 ?kuq8 ?klq8 (hbK _ fun p hp => (kNq9 p (by (repeat (first | assumption | (refine List.mem_append_left _ ?_) | refine List.mem_cons_of_mem _ ?_)))).1) ?kwq8 ?kzq8 ?_; (case kdq8 => decide); (case kuq8 => decide); (case klq8 => exact News.isList kNq9 (by k_mem)); (case kwq8 => assumption); (case kzq8 => assumption)); intro bD uD kD h' tk' hk' hg' hn' wD lD; (have F'q9 := Fr.after kFq9 hk'); (have N'q9 := newsMore kFq9 kNq9 hk' hg' hn'); clear hk' hg' hn'; clear kNq9 kFq9; (try dsimp only); (try k_fold))) | (with_reducible ((with_reducible show wpAny _ _ (binaryOp PySem.Operator.Pow (Value.int _ _) (Value.int _ _)) _ _ _); (k_dflt (refine' powV ?aq8 ?bq8 ?_; (case aq8 => first | exact Int.natCast_nonneg _ | omega); (case bq8 => first | exact Int.ofNat_le.mpr (Nat.le_trans (by assumption) (by decide)) | omega)); intro t'q9 k'q9))) | (with_reducible ((with_reducible show wpAny _ _ (call (Value.builtin _) [Value.ref _]) _ _ _); k_dflt (refine' lenV (News.isList (by with_reducible assumption) (by k_mem)) ?zq8 ?_; (case zq8 => first | exact Nat.le_trans (by assumption) (by decide) | omega)); intro t'q9 k'q9)) | (with_reducible ((with_reducible show wpAny _ _ (call (Value.ref 144) [Value.ref _]) _ _ _); (with_reducible rename Fr _ _ _ _ => kFq9); (with_reducible rename News _ _ _ _ => kNq9); k_dflt (refine' basis_con (Cx.any (by assumption) (Fr.keep kFq9)) ?kdq8 ?kuq8 ?klq8 ?kiq8 ?kzq8 ?_; (case kdq8 => decide); (case kuq8 => decide); (case klq8 => exact News.isList kNq9 (by k_mem)); (case kiq8 => assumption); (case kzq8 => first | (first | (rw [List.length_take]; omega) | (rw [List.length_drop]; omega) | omega) | (rw [List.length_take]; omega) | (rw [List.length_drop]; omega) | omega)); intro bB vB kB h' tk' hk' hg' hn' iB; (have F'q9 := Fr.after kFq9 hk'); (have N'q9 := newsMore kFq9 kNq9 hk' hg' hn'); (have lB := newsNe kNq9 hn'); clear hk' hg' hn'; clear kNq9 kFq9; (try dsimp only); (try k_fold))) | (with_reducible ((with_reducible show wpAny _ _ (call (Value.ref 158) [Value.ref _]) _ _ _); (with_reducible rename Fr _ _ _ _ => kFq9); (with_reducible rename News _ _ _ _ => kNq9); k_dflt (refine' sums_con (Cx.any (by assumption) (Fr.keep kFq9)) ?kdq8 ?kuq8 ?klq8 ?kiq8 ?knq8 ?kzq8 ?_; (case kdq8 => decide); (case kuq8 => decide); (case klq8 => exact News.isList kNq9 (by k_mem)); (case kiq8 => assumption); (case knq8 => exact fun n hn => hn16 n (by first | exact List.mem_of_mem_take hn | exact List.mem_of_mem_drop hn)); (case kzq8 => (first | (rw [List.length_take]; omega) | (rw [List.length_drop]; omega) | omega))); intro bS vS kS WS h' tk' hk' hg' oS wS; (have F'q9 := Fr.after kFq9 hk'); (have N'q9 := newsMores kFq9 kNq9 hk' hg'); (dsimp only [List.cons_append, List.nil_append] at N'q9); (have lS := fun p hp => newsNe kNq9 (hg' p hp).2); clear hk' hg'; clear kNq9 kFq9; (try dsimp only); (try k_fold))) | ((with_reducible show wpAny _ _ (call _ [Value.bytes _ _]) _ _ _); refine call_type_of (Tx := "bytes") rfl (by decide +kernel) ?_) | (with_reducible ((with_reducible show wpAny _ _ (storeName _ _ _) _ _ _); k_dflt (refine' storeM ?Fq7 ?Nq7 ?_ ?aq7 ?bq7; (case Fq7 => k_asm); (case Nq7 => k_asm); (case aq7 => rfl); (case bq7 => rfl); k_whole; intro m'q7 h'q7 F'q7 N'q7; (try k_sweep)))) | (with_reducible ((with_reducible show wpAny _ _ (eval (PySem.Expr.Name _ _) _) _ _ _); k_dflt (refine' nameX_L ?Fq7 ?vq7 ?_ ?aq7 ?bq7; (case Fq7 => k_asm); (case aq7 => rfl); (case bq7 => rfl); (case vq7 => exact Eq.refl (some _)); k_whole))) | ((with_reducible show InvEnd _ _ _ _ _ _); ((with_reducible rename Fr _ _ _ _ => kFq7); first | ((dsimp +zetaDelta only at kFq7); (try dsimp +zetaDelta only)) | dsimp +zetaDelta only)) | ((with_reducible show InvEndG _ _ _ _ _ _); ((with_reducible rename Fr _ _ _ _ => kFq7); first | ((dsimp +zetaDelta only at kFq7); (try dsimp +zetaDelta only)) | dsimp +zetaDelta only)) | walk1 | (dsimp only; walk1) | (leave1; (try dsimp only)) | fail "no step") <;> (repeat ((fail_if_success (fail_if_success ((generalize qx = zq); (with_reducible show zq _ _)))); k_unfold; (try clear qx); (try (first | refine wpI (P := wpAny _ _ _ _ _ ⟨_, s.gens, s.drawn, _, s.os⟩) ?_ | refine wpI (P := wpAny _ _ _ _ _ _) ?_)); (try dsimp only)))))
    rename Fr _ _ _ _ => F
    rename News _ _ _ _ => N
    have nWW : ∀ p ∈ WW, _ := fun p hp => (N p (by (repeat (first | assumption | (refine List.mem_append_left _ ?_) | refine List.mem_cons_of_mem _ ?_)))).1
    refine neTuples (a := b9) (b := b10) (c := c1) (d := c2) (k := k8) (k2 := 0) (N (b8, _) (by k_mem)).1 (N _ (.head _)).1 (News.isList N (items := v9.toArray) (by k_mem)) (News.isList N (items := v10.toArray) (by k_mem)) (News.isList N (items := u1.toArray) (by k_mem)) (News.isList N (items := u2.toArray) (by k_mem)) (w9.keeps (hbK _ nWW)) (w10.keeps (hbK _ nWW)) (t1.toH fun p hp => (N p (by simp only [List.mem_cons, List.mem_append]; simp [hp])).1) (t2.toH fun p hp => (N p (by simp only [List.mem_cons, List.mem_append]; simp [hp])).1) (by (show (Around.deeper callerA ev).units + _ < cLine; simp only [units_deeper, units_caller]; decide)) ?_
    have N11 : News _ _ _ ((b4, listOf (List.toArray v4) k4) :: (b3, listOf (List.toArray v3) k3) :: (b2, listOf (List.toArray v2) k2) :: (b1, listOf (List.toArray v1) k1) :: WW) := newsC (by k_mem) N (newsC (by k_mem) N (newsC (by k_mem) N (newsC (by k_mem) N (newsW N (fun p hp => by (repeat (first | assumption | (refine List.mem_append_left _ ?_) | refine List.mem_cons_of_mem _ ?_)))))))
    clear N nWW t1 t2
    repeat ((fail_if_success (with_reducible show wpAny _ _ (call (Value.ref 35) _) _ _ _)); ((try ((with_reducible show wpAny _ _ (execs _ _) _ _ _); k_gentoks)); (try ((with_reducible show wpAny _ _ (exec _ _) _ _ _); (with_reducible refine foldQ ?_); intro qx)); (first | (k_unfold; (try (first | refine wpI (P := wpAny _ _ _ _ _ ⟨_, s.gens, s.drawn, _, s.os⟩) ?_ | refine wpI (P := wpAny _ _ _ _ _ _) ?_)); (try dsimp only)) | (k_end; kc_close) | (with_reducible ((with_reducible show wpAny _ _ (call (Value.builtin _) [Value.int _ _, Value.int _ _]) _ _ _); k_dflt (refine' maxW rfl ?Fq8 ?Nq8 ?eq8 ?_; (case Fq8 => with_reducible assumption); (case Nq8 => with_reducible assumption); (case eq8 => with_reducible assumption)); intro h'q9 t'q9 k'q9 F'q9 N'q9)) | (with_reducible ((with_reducible show wpAny _ _ (call (Value.ref 163) [Value.ref _, Value.ref _]) _ _ _); (with_reducible rename Fr _ _ _ _ => kFq9); (with_reducible rename News _ _ _ _ => kNq9); k_dflt (refine' only_con (Cx.any (by assumption) (Fr.keep kFq9)) ?kdq8 ?kuq8 ?klq8 ?kiq8 ?kmq8 ?kjq8 ?_; (case kdq8 => decide); (case kuq8 => decide); (case klq8 => exact News.isList kNq9 (by k_mem)); (case kiq8 => assumption); (case kmq8 => exact News.isList kNq9 (by k_mem)); (case kjq8 => assumption)); intro bO vO cO WO h' tk' hk' hg' wO; (have F'q9 := Fr.after kFq9 hk'); (have N'q9 := newsMores2 kFq9 kNq9 hk' hg'); (dsimp only [List.cons_append, List.nil_append] at N'q9); clear hk' hg'; clear kNq9 kFq9; (try dsimp only); (try k_fold))) | (with_reducible ((with_reducible show wpAny _ _ (compareOp PySem.CmpOp.NotEq (Value.int _ _) (Value.int _ _)) _ _ _); (k_dflt (refine' neV ?eq8 ?_; (case eq8 => first | assumption | omega))))) | (with_reducible ((with_reducible show wpAny _ _ (call (Value.ref 28) [Value.ref _]) _ _ _); (with_reducible rename Fr _ _ _ _ => kFq9); (with_reducible rename News _ _ _ _ => kNq9); k_dflt (refine' dedup_con (Cx.any (by assumption) (Fr.keep kFq9)) ?kdq8 ?kuq8 ?klq8 (hbK _ fun p hp => (kNq9 p (by (repeat (first | assumption | (refine List.mem_append_left _ ?_) | refine List.mem_cons_of_mem _ ?_)))).1) ?kwq8 ?kzq8 ?_; (case kdq8 => decide); (case kuq8 => decide); (case klq8 => exact News.isList kNq9 (by k_mem)); (case kwq8 => assumption); (case kzq8 => assumption)); intro bD uD kD h' tk' hk' hg' hn' wD lD; (have F'q9 := Fr.after kFq9 hk'); (have N'q9 := newsMore kFq9 kNq9 hk' hg' hn'); clear hk' hg' hn'; clear kNq9 kFq9; (try dsimp only); (try k_fold))) | (with_reducible ((with_reducible show wpAny _ _ (binaryOp PySem.Operator.Pow (Value.int _ _) (Value.int _ _)) _ _ _); (k_dflt (refine' powV ?aq8 ?bq8 ?_; (case aq8 => first | exact Int.natCast_nonneg _ | omega); (case bq8 => first | exact Int.ofNat_le.mpr (Nat.le_trans (by assumption) (by decide)) | omega)); intro t'q9 k'q9))) | (with_reducible ((with_reducible show wpAny _ _ (call (Value.builtin _) [Value.ref _]) _ _ _); k_dflt (refine' lenV (News.isList (by with_reducible assumption) (by k_mem)) ?zq8 ?_; (case zq8 => first | exact Nat.le_trans (by assumption) (by decide) | omega)); intro t'q9 k'q9)) | (with_reducible ((with_reducible show wpAny _ _ (call (Value.ref 144) [Value.ref _]) _ _ _); (with_reducible rename Fr _ _ _ _ => kFq9); (with_reducible rename News _ _ _ _ => kNq9); k_dflt (refine' basis_con (Cx.any (by assumption) (Fr.keep kFq9)) ?kdq8 ?kuq8 ?klq8 ?kiq8 ?kzq8 ?_; (case kdq8 => decide); (case kuq8 => decide); (case klq8 => exact News.isList kNq9 (by k_mem)); (case kiq8 => assumption); (case kzq8 => first | (first | (rw [List.length_take]; omega) | (rw [List.length_drop]; omega) | omega) | (rw [List.length_take]; omega) | (rw [List.length_drop]; omega) | omega)); intro bB vB kB h' tk' hk' hg' hn' iB; (have F'q9 := Fr.after kFq9 hk'); (have N'q9 := newsMore kFq9 kNq9 hk' hg' hn'); (have lB := newsNe kNq9 hn'); clear hk' hg' hn'; clear kNq9 kFq9; (try dsimp only); (try k_fold))) | (with_reducible ((with_reducible show wpAny _ _ (call (Value.ref 158) [Value.ref _]) _ _ _); (with_reducible rename Fr _ _ _ _ => kFq9); (with_reducible rename News _ _ _ _ => kNq9); k_dflt (refine' sums_con (Cx.any (by assumption) (Fr.keep kFq9)) ?kdq8 ?kuq8 ?klq8 ?kiq8 ?knq8 ?kzq8 ?_; (case kdq8 => decide); (case kuq8 => decide); (case klq8 => exact News.isList kNq9 (by k_mem)); (case kiq8 => assumption); (case knq8 => exact fun n hn => hn16 n (by first | exact List.mem_of_mem_take hn | exact List.mem_of_mem_drop hn)); (case kzq8 => (first | (rw [List.length_take]; omega) | (rw [List.length_drop]; omega) | omega))); intro bS vS kS WS h' tk' hk' hg' oS wS; (have F'q9 := Fr.after kFq9 hk'); (have N'q9 := newsMores kFq9 kNq9 hk' hg'); (dsimp only [List.cons_append, List.nil_append] at N'q9); (have lS := fun p hp => newsNe kNq9 (hg' p hp).2); clear hk' hg'; clear kNq9 kFq9; (try dsimp only); (try k_fold))) | ((with_reducible show wpAny _ _ (call _ [Value.bytes _ _]) _ _ _); refine call_type_of (Tx := "bytes") rfl (by decide +kernel) ?_) | (with_reducible ((with_reducible show wpAny _ _ (storeName _ _ _) _ _ _); k_dflt (refine' storeM ?Fq7 ?Nq7 ?_ ?aq7 ?bq7; (case Fq7 => k_asm); (case Nq7 => k_asm); (case aq7 => rfl); (case bq7 => rfl); k_whole; intro m'q7 h'q7 F'q7 N'q7; (try k_sweep)))) | (with_reducible ((with_reducible show wpAny _ _ (eval (PySem.Expr.Name _ _) _) _ _ _); k_dflt (refine' nameX_L ?Fq7 ?vq7 ?_ ?aq7 ?bq7; (case Fq7 => k_asm); (case aq7 => rfl); (case bq7 => rfl); (case vq7 => exact Eq.refl (some _)); k_whole))) | ((with_reducible show InvEnd _ _ _ _ _ _); ((with_reducible rename Fr _ _ _ _ => kFq7); first | ((dsimp +zetaDelta only at kFq7); (try dsimp +zetaDelta only)) | dsimp +zetaDelta only)) | ((with_reducible show InvEndG _ _ _ _ _ _); ((with_reducible rename Fr _ _ _ _ => kFq7); first | ((dsimp +zetaDelta only at kFq7); (try dsimp +zetaDelta only)) | dsimp +zetaDelta only)) | walk1 | (dsimp only; walk1) | (leave1; (try dsimp only)) | fail "no step") <;> (repeat ((fail_if_success (fail_if_success ((generalize qx = zq); (with_reducible show zq _ _)))); k_unfold; (try clear qx); (try (first | refine wpI (P := wpAny _ _ _ _ _ ⟨_, s.gens, s.drawn, _, s.os⟩) ?_ | refine wpI (P := wpAny _ _ _ _ _ _) ?_)); (try dsimp only)))))
    rename Fr _ _ _ _ => F
    rename News _ _ _ _ => N
    refine compareL C0 F N rfl (by show ScopeKind.function ≠ ScopeKind.module; decide) (by decide) (by decide) (by k_mem) (by k_mem) hbK (fun p hp => by (repeat (first | assumption | (refine List.mem_append_left _ ?_) | refine List.mem_cons_of_mem _ ?_))) wm wy q1 q2 ?_
    intro h12 tk12 F12 N12
    clear F N
    have hc : cmpOf (sumsOf (List.take 3 nn)) (sumsOf (List.drop 3 nn)) = decide (v3.length = m ∧ v4.length = m) := by rw [PL.cmp, a3, a4]
    repeat' ((fail_if_success (with_reducible show wpAny _ _ (compareOp _ (Value.bool _ ) (Value.bool _ )) _ _ _)); ((try ((with_reducible show wpAny _ _ (execs _ _) _ _ _); k_gentoks)); (try ((with_reducible show wpAny _ _ (exec _ _) _ _ _); (with_reducible refine foldQ ?_); intro qx)); (first | (k_unfold; (try (first | refine wpI (P := wpAny _ _ _ _ _ ⟨_, s.gens, s.drawn, _, s.os⟩) ?_ | refine wpI (P := wpAny _ _ _ _ _ _) ?_)); (try dsimp only)) | (k_end; kc_close) | (with_reducible ((with_reducible show wpAny _ _ (call (Value.builtin _) [Value.int _ _, Value.int _ _]) _ _ _); k_dflt (refine' maxW rfl ?Fq8 ?Nq8 ?eq8 ?_; (case Fq8 => with_reducible assumption); (case Nq8 => with_reducible assumption); (case eq8 => with_reducible assumption)); intro h'q9 t'q9 k'q9 F'q9 N'q9)) | (with_reducible ((with_reducible show wpAny _ _ (call (Value.ref 163) [Value.ref _, Value.ref _]) _ _ _); (with_reducible rename Fr _ _ _ _ => kFq9); (with_reducible rename News _ _ _ _ => kNq9); k_dflt (refine' only_con (Cx.any (by assumption) (Fr.keep kFq9)) ?kdq8 ?kuq8 ?klq8 ?kiq8 ?kmq8 ?kjq8 ?_; (case kdq8 => decide); (case kuq8 => decide); (case klq8 => exact News.isList kNq9 (by k_mem)); (case kiq8 => assumption); (case kmq8 => exact News.isList kNq9 (by k_mem)); (case kjq8 => assumption)); intro bO vO cO WO h' tk' hk' hg' wO; (have F'q9 := Fr.after kFq9 hk'); (have N'q9 := newsMores2 kFq9 kNq9 hk' hg'); (dsimp only [List.cons_append, List.nil_append] at N'q9); clear hk' hg'; clear kNq9 kFq9; (try dsimp only); (try k_fold))) | (with_reducible ((with_reducible show wpAny _ _ (compareOp PySem.CmpOp.NotEq (Value.int _ _) (Value.int _ _)) _ _ _); (k_dflt (refine' neV ?eq8 ?_; (case eq8 => first | assumption | omega))))) | (with_reducible ((with_reducible show wpAny _ _ (call (Value.ref 28) [Value.ref _]) _ _ _); (with_reducible rename Fr _ _ _ _ => kFq9); (with_reducible rename News _ _ _ _ => kNq9); k_dflt (refine' dedup_con (Cx.any (by assumption) (Fr.keep kFq9)) ?kdq8 ?kuq8 ?klq8 (hbK _ fun p hp => (kNq9 p (by (repeat (first | assumption | (refine List.mem_append_left _ ?_) | refine List.mem_cons_of_mem _ ?_)))).1) ?kwq8 ?kzq8 ?_; (case kdq8 => decide); (case kuq8 => decide); (case klq8 => exact News.isList kNq9 (by k_mem)); (case kwq8 => assumption); (case kzq8 => assumption)); intro bD uD kD h' tk' hk' hg' hn' wD lD; (have F'q9 := Fr.after kFq9 hk'); (have N'q9 := newsMore kFq9 kNq9 hk' hg' hn'); clear hk' hg' hn'; clear kNq9 kFq9; (try dsimp only); (try k_fold))) | (with_reducible ((with_reducible show wpAny _ _ (binaryOp PySem.Operator.Pow (Value.int _ _) (Value.int _ _)) _ _ _); (k_dflt (refine' powV ?aq8 ?bq8 ?_; (case aq8 => first | exact Int.natCast_nonneg _ | omega); (case bq8 => first | exact Int.ofNat_le.mpr (Nat.le_trans (by assumption) (by decide)) | omega)); intro t'q9 k'q9))) | (with_reducible ((with_reducible show wpAny _ _ (call (Value.builtin _) [Value.ref _]) _ _ _); k_dflt (refine' lenV (News.isList (by with_reducible assumption) (by k_mem)) ?zq8 ?_; (case zq8 => first | exact Nat.le_trans (by assumption) (by decide) | omega)); intro t'q9 k'q9)) | (with_reducible ((with_reducible show wpAny _ _ (call (Value.ref 144) [Value.ref _]) _ _ _); (with_reducible rename Fr _ _ _ _ => kFq9); (with_reducible rename News _ _ _ _ => kNq9); k_dflt (refine' basis_con (Cx.any (by assumption) (Fr.keep kFq9)) ?kdq8 ?kuq8 ?klq8 ?kiq8 ?kzq8 ?_; (case kdq8 => decide); (case kuq8 => decide); (case klq8 => exact News.isList kNq9 (by k_mem)); (case kiq8 => assumption); (case kzq8 => first | (first | (rw [List.length_take]; omega) | (rw [List.length_drop]; omega) | omega) | (rw [List.length_take]; omega) | (rw [List.length_drop]; omega) | omega)); intro bB vB kB h' tk' hk' hg' hn' iB; (have F'q9 := Fr.after kFq9 hk'); (have N'q9 := newsMore kFq9 kNq9 hk' hg' hn'); (have lB := newsNe kNq9 hn'); clear hk' hg' hn'; clear kNq9 kFq9; (try dsimp only); (try k_fold))) | (with_reducible ((with_reducible show wpAny _ _ (call (Value.ref 158) [Value.ref _]) _ _ _); (with_reducible rename Fr _ _ _ _ => kFq9); (with_reducible rename News _ _ _ _ => kNq9); k_dflt (refine' sums_con (Cx.any (by assumption) (Fr.keep kFq9)) ?kdq8 ?kuq8 ?klq8 ?kiq8 ?knq8 ?kzq8 ?_; (case kdq8 => decide); (case kuq8 => decide); (case klq8 => exact News.isList kNq9 (by k_mem)); (case kiq8 => assumption); (case knq8 => exact fun n hn => hn16 n (by first | exact List.mem_of_mem_take hn | exact List.mem_of_mem_drop hn)); (case kzq8 => (first | (rw [List.length_take]; omega) | (rw [List.length_drop]; omega) | omega))); intro bS vS kS WS h' tk' hk' hg' oS wS; (have F'q9 := Fr.after kFq9 hk'); (have N'q9 := newsMores kFq9 kNq9 hk' hg'); (dsimp only [List.cons_append, List.nil_append] at N'q9); (have lS := fun p hp => newsNe kNq9 (hg' p hp).2); clear hk' hg'; clear kNq9 kFq9; (try dsimp only); (try k_fold))) | ((with_reducible show wpAny _ _ (call _ [Value.bytes _ _]) _ _ _); refine call_type_of (Tx := "bytes") rfl (by decide +kernel) ?_) | (with_reducible ((with_reducible show wpAny _ _ (storeName _ _ _) _ _ _); k_dflt (refine' storeM ?Fq7 ?Nq7 ?_ ?aq7 ?bq7; (case Fq7 => k_asm); (case Nq7 => k_asm); (case aq7 => rfl); (case bq7 => rfl); k_whole; intro m'q7 h'q7 F'q7 N'q7; (try k_sweep)))) | (with_reducible ((with_reducible show wpAny _ _ (eval (PySem.Expr.Name _ _) _) _ _ _); k_dflt (refine' nameX_L ?Fq7 ?vq7 ?_ ?aq7 ?bq7; (case Fq7 => k_asm); (case aq7 => rfl); (case bq7 => rfl); (case vq7 => exact Eq.refl (some _)); k_whole))) | ((with_reducible show InvEnd _ _ _ _ _ _); ((with_reducible rename Fr _ _ _ _ => kFq7); first | ((dsimp +zetaDelta only at kFq7); (try dsimp +zetaDelta only)) | dsimp +zetaDelta only)) | ((with_reducible show InvEndG _ _ _ _ _ _); ((with_reducible rename Fr _ _ _ _ => kFq7); first | ((dsimp +zetaDelta only at kFq7); (try dsimp +zetaDelta only)) | dsimp +zetaDelta only)) | walk1 | (dsimp only; walk1) | (leave1; (try dsimp only)) | fail "no step") <;> (repeat ((fail_if_success (fail_if_success ((generalize qx = zq); (with_reducible show zq _ _)))); k_unfold; (try clear qx); (try (first | refine wpI (P := wpAny _ _ _ _ _ ⟨_, s.gens, s.drawn, _, s.os⟩) ?_ | refine wpI (P := wpAny _ _ _ _ _ _) ?_)); (try dsimp only)))))
    all_goals refine neB (by rw [hc]; refine Bool.eq_iff_iff.mpr ?_; simp only [decide_eq_true_eq, beq_iff_eq]; constructor <;> intro hh <;> omega) ?_
    all_goals repeat ((fail_if_success (with_reducible show wpAny _ _ (call (Value.ref 130) _) _ _ _)); ((try ((with_reducible show wpAny _ _ (execs _ _) _ _ _); k_gentoks)); (try ((with_reducible show wpAny _ _ (exec _ _) _ _ _); (with_reducible refine foldQ ?_); intro qx)); (first | (k_unfold; (try (first | refine wpI (P := wpAny _ _ _ _ _ ⟨_, s.gens, s.drawn, _, s.os⟩) ?_ | refine wpI (P := wpAny _ _ _ _ _ _) ?_)); (try dsimp only)) | (k_end; kc_close) | (with_reducible ((with_reducible show wpAny _ _ (call (Value.builtin _) [Value.int _ _, Value.int _ _]) _ _ _); k_dflt (refine' maxW rfl ?Fq8 ?Nq8 ?eq8 ?_; (case Fq8 => with_reducible assumption); (case Nq8 => with_reducible assumption); (case eq8 => with_reducible assumption)); intro h'q9 t'q9 k'q9 F'q9 N'q9)) | (with_reducible ((with_reducible show wpAny _ _ (call (Value.ref 163) [Value.ref _, Value.ref _]) _ _ _); (with_reducible rename Fr _ _ _ _ => kFq9); (with_reducible rename News _ _ _ _ => kNq9); k_dflt (refine' only_con (Cx.any (by assumption) (Fr.keep kFq9)) ?kdq8 ?kuq8 ?klq8 ?kiq8 ?kmq8 ?kjq8 ?_; (case kdq8 => decide); (case kuq8 => decide); (case klq8 => exact News.isList kNq9 (by k_mem)); (case kiq8 => assumption); (case kmq8 => exact News.isList kNq9 (by k_mem)); (case kjq8 => assumption)); intro bO vO cO WO h' tk' hk' hg' wO; (have F'q9 := Fr.after kFq9 hk'); (have N'q9 := newsMores2 kFq9 kNq9 hk' hg'); (dsimp only [List.cons_append, List.nil_append] at N'q9); clear hk' hg'; clear kNq9 kFq9; (try dsimp only); (try k_fold))) | (with_reducible ((with_reducible show wpAny _ _ (compareOp PySem.CmpOp.NotEq (Value.int _ _) (Value.int _ _)) _ _ _); (k_dflt (refine' neV ?eq8 ?_; (case eq8 => first | assumption | omega))))) | (with_reducible ((with_reducible show wpAny _ _ (call (Value.ref 28) [Value.ref _]) _ _ _); (with_reducible rename Fr _ _ _ _ => kFq9); (with_reducible rename News _ _ _ _ => kNq9); k_dflt (refine' dedup_con (Cx.any (by assumption) (Fr.keep kFq9)) ?kdq8 ?kuq8 ?klq8 (hbK _ fun p hp => (kNq9 p (by (repeat (first | assumption | (refine List.mem_append_left _ ?_) | refine List.mem_cons_of_mem _ ?_)))).1) ?kwq8 ?kzq8 ?_; (case kdq8 => decide); (case kuq8 => decide); (case klq8 => exact News.isList kNq9 (by k_mem)); (case kwq8 => assumption); (case kzq8 => assumption)); intro bD uD kD h' tk' hk' hg' hn' wD lD; (have F'q9 := Fr.after kFq9 hk'); (have N'q9 := newsMore kFq9 kNq9 hk' hg' hn'); clear hk' hg' hn'; clear kNq9 kFq9; (try dsimp only); (try k_fold))) | (with_reducible ((with_reducible show wpAny _ _ (binaryOp PySem.Operator.Pow (Value.int _ _) (Value.int _ _)) _ _ _); (k_dflt (refine' powV ?aq8 ?bq8 ?_; (case aq8 => first | exact Int.natCast_nonneg _ | omega); (case bq8 => first | exact Int.ofNat_le.mpr (Nat.le_trans (by assumption) (by decide)) | omega)); intro t'q9 k'q9))) | (with_reducible ((with_reducible show wpAny _ _ (call (Value.builtin _) [Value.ref _]) _ _ _); k_dflt (refine' lenV (News.isList (by with_reducible assumption) (by k_mem)) ?zq8 ?_; (case zq8 => first | exact Nat.le_trans (by assumption) (by decide) | omega)); intro t'q9 k'q9)) | (with_reducible ((with_reducible show wpAny _ _ (call (Value.ref 144) [Value.ref _]) _ _ _); (with_reducible rename Fr _ _ _ _ => kFq9); (with_reducible rename News _ _ _ _ => kNq9); k_dflt (refine' basis_con (Cx.any (by assumption) (Fr.keep kFq9)) ?kdq8 ?kuq8 ?klq8 ?kiq8 ?kzq8 ?_; (case kdq8 => decide); (case kuq8 => decide); (case klq8 => exact News.isList kNq9 (by k_mem)); (case kiq8 => assumption); (case kzq8 => first | (first | (rw [List.length_take]; omega) | (rw [List.length_drop]; omega) | omega) | (rw [List.length_take]; omega) | (rw [List.length_drop]; omega) | omega)); intro bB vB kB h' tk' hk' hg' hn' iB; (have F'q9 := Fr.after kFq9 hk'); (have N'q9 := newsMore kFq9 kNq9 hk' hg' hn'); (have lB := newsNe kNq9 hn'); clear hk' hg' hn'; clear kNq9 kFq9; (try dsimp only); (try k_fold))) | (with_reducible ((with_reducible show wpAny _ _ (call (Value.ref 158) [Value.ref _]) _ _ _); (with_reducible rename Fr _ _ _ _ => kFq9); (with_reducible rename News _ _ _ _ => kNq9); k_dflt (refine' sums_con (Cx.any (by assumption) (Fr.keep kFq9)) ?kdq8 ?kuq8 ?klq8 ?kiq8 ?knq8 ?kzq8 ?_; (case kdq8 => decide); (case kuq8 => decide); (case klq8 => exact News.isList kNq9 (by k_mem)); (case kiq8 => assumption); (case knq8 => exact fun n hn => hn16 n (by first | exact List.mem_of_mem_take hn | exact List.mem_of_mem_drop hn)); (case kzq8 => (first | (rw [List.length_take]; omega) | (rw [List.length_drop]; omega) | omega))); intro bS vS kS WS h' tk' hk' hg' oS wS; (have F'q9 := Fr.after kFq9 hk'); (have N'q9 := newsMores kFq9 kNq9 hk' hg'); (dsimp only [List.cons_append, List.nil_append] at N'q9); (have lS := fun p hp => newsNe kNq9 (hg' p hp).2); clear hk' hg'; clear kNq9 kFq9; (try dsimp only); (try k_fold))) | ((with_reducible show wpAny _ _ (call _ [Value.bytes _ _]) _ _ _); refine call_type_of (Tx := "bytes") rfl (by decide +kernel) ?_) | (with_reducible ((with_reducible show wpAny _ _ (storeName _ _ _) _ _ _); k_dflt (refine' storeM ?Fq7 ?Nq7 ?_ ?aq7 ?bq7; (case Fq7 => k_asm); (case Nq7 => k_asm); (case aq7 => rfl); (case bq7 => rfl); k_whole; intro m'q7 h'q7 F'q7 N'q7; (try k_sweep)))) | (with_reducible ((with_reducible show wpAny _ _ (eval (PySem.Expr.Name _ _) _) _ _ _); k_dflt (refine' nameX_L ?Fq7 ?vq7 ?_ ?aq7 ?bq7; (case Fq7 => k_asm); (case aq7 => rfl); (case bq7 => rfl); (case vq7 => exact Eq.refl (some _)); k_whole))) | ((with_reducible show InvEnd _ _ _ _ _ _); ((with_reducible rename Fr _ _ _ _ => kFq7); first | ((dsimp +zetaDelta only at kFq7); (try dsimp +zetaDelta only)) | dsimp +zetaDelta only)) | ((with_reducible show InvEndG _ _ _ _ _ _); ((with_reducible rename Fr _ _ _ _ => kFq7); first | ((dsimp +zetaDelta only at kFq7); (try dsimp +zetaDelta only)) | dsimp +zetaDelta only)) | walk1 | (dsimp only; walk1) | (leave1; (try dsimp only)) | fail "no step") <;> (repeat ((fail_if_success (fail_if_success ((generalize qx = zq); (with_reducible show zq _ _)))); k_unfold; (try clear qx); (try (first | refine wpI (P := wpAny _ _ _ _ _ ⟨_, s.gens, s.drawn, _, s.os⟩) ?_ | refine wpI (P := wpAny _ _ _ _ _ _) ?_)); (try dsimp only)))))
    all_goals (
      rename Fr _ _ _ _ => F
      rename News _ _ _ _ => N
      refine uldL C0 F N rfl (by show ScopeKind.function ≠ ScopeKind.module; decide) (by decide) (by decide) (l1 := b1) (l2 := b2) (by k_mem) (by k_mem) dB dW1 dW2 hbK (fun p hp => by (repeat (first | assumption | (refine List.mem_append_left _ ?_) | refine List.mem_cons_of_mem _ ?_))) wm wy q1 q2 ?_
      intro b13 b14 v14 v15 k13 k14 k15 h13 tk13 F13 K13 N13 g14 g15)
    all_goals (
      have N14 : News _ _ h13 [(b13, ({ cls := .type "tuple", data := .seq #[.ref b14, .ref b2] k13 } : Obj)), (b14, listOf (List.toArray v14) k14), (b2, listOf (List.toArray v15) k15), (b4, listOf (List.toArray v4) k4), (b3, listOf (List.toArray v3) k3)] := newsX (N13 _ (.head _)) (newsX (N13 _ (.tail _ (.head _))) (newsX (N13 _ (.tail _ (.tail _ (.head _)))) (newsX (K13 _ (by k_mem) (Ne.symm d41) (Ne.symm d42)) (newsX (K13 _ (by k_mem) (Ne.symm d31) (Ne.symm d32)) News.nil))))
      clear N13 K13 F N
      have c14 := PL.uld1
      have c15 := PL.uld2
      rw [← g14, ← a3, ← a4] at c14
      rw [← g15, ← a3, ← a4] at c15
      clear PL hc
      have emx := max_cast v3.length v4.length
      have lmx : max v3.length v4.length ≤ 3 := by omega
      generalize max v3.length v4.length = mx at emx lmx c14 c15
      have e3 : (3 : Int) + ((v3.length : Int) + (v4.length : Int) - (v5.length : Int)) - (mx : Int) = ((3 + m - mx : Nat) : Int) := by omega
      have f14 : ((v14.length : Nat) : Int) = 8 - 2 ^ (Int.toNat ((3 : Int) + ((v3.length : Int) + (v4.length : Int) - (v5.length : Int)) - (mx : Int))) := by
        rw [e3, ← pow_cast]; omega
      have f15 : ((v15.length : Nat) : Int) = 8 - 2 ^ (Int.toNat ((3 : Int) + ((v3.length : Int) + (v4.length : Int) - (v5.length : Int)) - (mx : Int))) := by
        rw [e3, ← pow_cast]; omega
      have y14 : v14.length ≤ 8 := Nat.le_trans (Nat.le_add_right _ _) (Nat.le_of_eq c14)
      have y15 : v15.length ≤ 8 := Nat.le_trans (Nat.le_add_right _ _) (Nat.le_of_eq c15))
    all_goals (repeat' ((try ((with_reducible show wpAny _ _ (execs _ _) _ _ _); k_gentoks)); (try ((with_reducible show wpAny _ _ (exec _ _) _ _ _); (with_reducible refine foldQ ?_); intro qx)); (first | (k_unfold; (try (first | refine wpI (P := wpAny _ _ _ _ _ ⟨_, s.gens, s.drawn, _, s.os⟩) ?_ | refine wpI (P := wpAny _ _ _ _ _ _) ?_)); (try dsimp only)) | (k_end; kc_close) | (with_reducible ((with_reducible show wpAny _ _ (call (Value.builtin _) [Value.int _ _, Value.int _ _]) _ _ _); k_dflt (refine' maxW rfl ?Fq8 ?Nq8 ?eq8 ?_; (case Fq8 => with_reducible assumption); (case Nq8 => with_reducible assumption); (case eq8 => with_reducible assumption)); intro h'q9 t'q9 k'q9 F'q9 N'q9)) | (with_reducible ((with_reducible show wpAny _ _ (call (Value.ref 163) [Value.ref _, Value.ref _]) _ _ _); (with_reducible rename Fr _ _ _ _ => kFq9); (with_reducible rename News _ _ _ _ => kNq9); k_dflt (refine' only_con (Cx.any (by assumption) (Fr.keep kFq9)) ?kdq8 ?kuq8 ?klq8 ?kiq8 ?kmq8 ?kjq8 ?_; (case kdq8 => decide); (case kuq8 => decide); (case klq8 => exact News.isList kNq9 (by k_mem)); (case kiq8 => assumption); (case kmq8 => exact News.isList kNq9 (by k_mem)); (case kjq8 => assumption)); intro bO vO cO WO h' tk' hk' hg' wO; (have F'q9 := Fr.after kFq9 hk'); (have N'q9 := newsMores2 kFq9 kNq9 hk' hg'); (dsimp only [List.cons_append, List.nil_append] at N'q9); clear hk' hg'; clear kNq9 kFq9; (try dsimp only); (try k_fold))) | (with_reducible ((with_reducible show wpAny _ _ (compareOp PySem.CmpOp.NotEq (Value.int _ _) (Value.int _ _)) _ _ _); (k_dflt (refine' neV ?eq8 ?_; (case eq8 => first | assumption | omega))))) | (with_reducible ((with_reducible show wpAny _ _ (call (Value.ref 28) [Value.ref _]) _ _ _); (with_reducible rename Fr _ _ _ _ => kFq9); (with_reducible rename News _ _ _ _ => kNq9); k_dflt (refine' dedup_con (Cx.any (by assumption) (Fr.keep kFq9)) ?kdq8 ?kuq8 ?klq8 (hbK _ fun p hp => (kNq9 p (by (repeat (first | assumption | (refine List.mem_append_left _ ?_) | refine List.mem_cons_of_mem _ ?_)))).1) ?kwq8 ?kzq8 ?_; (case kdq8 => decide); (case kuq8 => decide); (case klq8 => exact News.isList kNq9 (by k_mem)); (case kwq8 => assumption); (case kzq8 => assumption)); intro bD uD kD h' tk' hk' hg' hn' wD lD; (have F'q9 := Fr.after kFq9 hk'); (have N'q9 := newsMore kFq9 kNq9 hk' hg' hn'); clear hk' hg' hn'; clear kNq9 kFq9; (try dsimp only); (try k_fold))) | (with_reducible ((with_reducible show wpAny _ _ (binaryOp PySem.Operator.Pow (Value.int _ _) (Value.int _ _)) _ _ _); (k_dflt (refine' powV ?aq8 ?bq8 ?_; (case aq8 => first | exact Int.natCast_nonneg _ | omega); (case bq8 => first | exact Int.ofNat_le.mpr (Nat.le_trans (by assumption) (by decide)) | omega)); intro t'q9 k'q9))) | (with_reducible ((with_reducible show wpAny _ _ (call (Value.builtin _) [Value.ref _]) _ _ _); k_dflt (refine' lenV (News.isList (by with_reducible assumption) (by k_mem)) ?zq8 ?_; (case zq8 => first | exact Nat.le_trans (by assumption) (by decide) | omega)); intro t'q9 k'q9)) | (with_reducible ((with_reducible show wpAny _ _ (call (Value.ref 144) [Value.ref _]) _ _ _); (with_reducible rename Fr _ _ _ _ => kFq9); (with_reducible rename News _ _ _ _ => kNq9); k_dflt (refine' basis_con (Cx.any (by assumption) (Fr.keep kFq9)) ?kdq8 ?kuq8 ?klq8 ?kiq8 ?kzq8 ?_; (case kdq8 => decide); (case kuq8 => decide); (case klq8 => exact News.isList kNq9 (by k_mem)); (case kiq8 => assumption); (case kzq8 => first | (first | (rw [List.length_take]; omega) | (rw [List.length_drop]; omega) | omega) | (rw [List.length_take]; omega) | (rw [List.length_drop]; omega) | omega)); intro bB vB kB h' tk' hk' hg' hn' iB; (have F'q9 := Fr.after kFq9 hk'); (have N'q9 := newsMore kFq9 kNq9 hk' hg' hn'); (have lB := newsNe kNq9 hn'); clear hk' hg' hn'; clear kNq9 kFq9; (try dsimp only); (try k_fold))) | (with_reducible ((with_reducible show wpAny _ _ (call (Value.ref 158) [Value.ref _]) _ _ _); (with_reducible rename Fr _ _ _ _ => kFq9); (with_reducible rename News _ _ _ _ => kNq9); k_dflt (refine' sums_con (Cx.any (by assumption) (Fr.keep kFq9)) ?kdq8 ?kuq8 ?klq8 ?kiq8 ?knq8 ?kzq8 ?_; (case kdq8 => decide); (case kuq8 => decide); (case klq8 => exact News.isList kNq9 (by k_mem)); (case kiq8 => assumption); (case knq8 => exact fun n hn => hn16 n (by first | exact List.mem_of_mem_take hn | exact List.mem_of_mem_drop hn)); (case kzq8 => (first | (rw [List.length_take]; omega) | (rw [List.length_drop]; omega) | omega))); intro bS vS kS WS h' tk' hk' hg' oS wS; (have F'q9 := Fr.after kFq9 hk'); (have N'q9 := newsMores kFq9 kNq9 hk' hg'); (dsimp only [List.cons_append, List.nil_append] at N'q9); (have lS := fun p hp => newsNe kNq9 (hg' p hp).2); clear hk' hg'; clear kNq9 kFq9; (try dsimp only); (try k_fold))) | ((with_reducible show wpAny _ _ (call _ [Value.bytes _ _]) _ _ _); refine call_type_of (Tx := "bytes") rfl (by decide +kernel) ?_) | (with_reducible ((with_reducible show wpAny _ _ (storeName _ _ _) _ _ _); k_dflt (refine' storeM ?Fq7 ?Nq7 ?_ ?aq7 ?bq7; (case Fq7 => k_asm); (case Nq7 => k_asm); (case aq7 => rfl); (case bq7 => rfl); k_whole; intro m'q7 h'q7 F'q7 N'q7; (try k_sweep)))) | (with_reducible ((with_reducible show wpAny _ _ (eval (PySem.Expr.Name _ _) _) _ _ _); k_dflt (refine' nameX_L ?Fq7 ?vq7 ?_ ?aq7 ?bq7; (case Fq7 => k_asm); (case aq7 => rfl); (case bq7 => rfl); (case vq7 => exact Eq.refl (some _)); k_whole))) | ((with_reducible show InvEnd _ _ _ _ _ _); ((with_reducible rename Fr _ _ _ _ => kFq7); first | ((dsimp +zetaDelta only at kFq7); (try dsimp +zetaDelta only)) | dsimp +zetaDelta only)) | ((with_reducible show InvEndG _ _ _ _ _ _); ((with_reducible rename Fr _ _ _ _ => kFq7); first | ((dsimp +zetaDelta only at kFq7); (try dsimp +zetaDelta only)) | dsimp +zetaDelta only)) | walk1 | (dsimp only; walk1) | (leave1; (try dsimp only)) | fail "no step") <;> (repeat ((fail_if_success (fail_if_success ((generalize qx = zq); (with_reducible show zq _ _)))); k_unfold; (try clear qx); (try (first | refine wpI (P := wpAny _ _ _ _ _ ⟨_, s.gens, s.drawn, _, s.os⟩) ?_ | refine wpI (P := wpAny _ _ _ _ _ _) ?_)); (try dsimp only)))))
  case step =>
    rintro i ys news hi ⟨rfl, hy⟩ v I oI C' oC D m2 h tk E' hv hC hx F N off ne
    obtain ⟨xn, tn, rfl, hd⟩ := ints_drop hI2 (i := i) (v := v) (by simpa using hv)
    (repeat' ((try ((with_reducible show wpAny _ _ (execs _ _) _ _ _); k_gentoks)); (try ((with_reducible show wpAny _ _ (exec _ _) _ _ _); (with_reducible refine foldQ ?_); intro qx)); (first | (k_unfold; (try (first | refine wpI (P := wpAny _ _ _ _ _ ⟨_, s.gens, s.drawn, _, s.os⟩) ?_ | refine wpI (P := wpAny _ _ _ _ _ _) ?_)); (try dsimp only)) | (k_end; wrow_close) | (with_reducible ((with_reducible show wpAny _ _ (call (Value.builtin _) [Value.int _ _, Value.int _ _]) _ _ _); k_dflt (refine' maxW rfl ?Fq8 ?Nq8 ?eq8 ?_; (case Fq8 => with_reducible assumption); (case Nq8 => with_reducible assumption); (case eq8 => with_reducible assumption)); intro h'q9 t'q9 k'q9 F'q9 N'q9)) | (with_reducible ((with_reducible show wpAny _ _ (call (Value.ref 163) [Value.ref _, Value.ref _]) _ _ _); (with_reducible rename Fr _ _ _ _ => kFq9); (with_reducible rename News _ _ _ _ => kNq9); k_dflt (refine' only_con (Cx.any (by assumption) (Fr.keep kFq9)) ?kdq8 ?kuq8 ?klq8 ?kiq8 ?kmq8 ?kjq8 ?_; (case kdq8 => decide); (case kuq8 => decide); (case klq8 => exact News.isList kNq9 (by k_mem)); (case kiq8 => assumption); (case kmq8 => exact News.isList kNq9 (by k_mem)); (case kjq8 => assumption)); intro bO vO cO WO h' tk' hk' hg' wO; (have F'q9 := Fr.after kFq9 hk'); (have N'q9 := newsMores2 kFq9 kNq9 hk' hg'); (dsimp only [List.cons_append, List.nil_append] at N'q9); clear hk' hg'; clear kNq9 kFq9; (try dsimp only); (try k_fold))) | (with_reducible ((with_reducible show wpAny _ _ (compareOp PySem.CmpOp.NotEq (Value.int _ _) (Value.int _ _)) _ _ _); (k_dflt (refine' neV ?eq8 ?_; (case eq8 => first | assumption | omega))))) | (with_reducible ((with_reducible show wpAny _ _ (call (Value.ref 28) [Value.ref _]) _ _ _); (with_reducible rename Fr _ _ _ _ => kFq9); (with_reducible rename News _ _ _ _ => kNq9); k_dflt (refine' dedup_con (Cx.any (by assumption) (Fr.keep kFq9)) ?kdq8 ?kuq8 ?klq8 (hbK _ fun p hp => (kNq9 p (by (repeat (first | assumption | (refine List.mem_append_left _ ?_) | refine List.mem_cons_of_mem _ ?_)))).1) ?kwq8 ?kzq8 ?_; (case kdq8 => decide); (case kuq8 => decide); (case klq8 => exact News.isList kNq9 (by k_mem)); (case kwq8 => assumption); (case kzq8 => assumption)); intro bD uD kD h' tk' hk' hg' hn' wD lD; (have F'q9 := Fr.after kFq9 hk'); (have N'q9 := newsMore kFq9 kNq9 hk' hg' hn'); clear hk' hg' hn'; clear kNq9 kFq9; (try dsimp only); (try k_fold))) | (with_reducible ((with_reducible show wpAny _ _ (binaryOp PySem.Operator.Pow (Value.int _ _) (Value.int _ _)) _ _ _); (k_dflt (refine' powV ?aq8 ?bq8 ?_; (case aq8 => first | exact Int.natCast_nonneg _ | omega); (case bq8 => first | exact Int.ofNat_le.mpr (Nat.le_trans (by assumption) (by decide)) | omega)); intro t'q9 k'q9))) | (with_reducible ((with_reducible show wpAny _ _ (call (Value.builtin _) [Value.ref _]) _ _ _); k_dflt (refine' lenV (News.isList (by with_reducible assumption) (by k_mem)) ?zq8 ?_; (case zq8 => first | exact Nat.le_trans (by assumption) (by decide) | omega)); intro t'q9 k'q9)) | (with_reducible ((with_reducible show wpAny _ _ (call (Value.ref 144) [Value.ref _]) _ _ _); (with_reducible rename Fr _ _ _ _ => kFq9); (with_reducible rename News _ _ _ _ => kNq9); k_dflt (refine' basis_con (Cx.any (by assumption) (Fr.keep kFq9)) ?kdq8 ?kuq8 ?klq8 ?kiq8 ?kzq8 ?_; (case kdq8 => decide); (case kuq8 => decide); (case klq8 => exact News.isList kNq9 (by k_mem)); (case kiq8 => assumption); (case kzq8 => first | (first | (rw [List.length_take]; omega) | (rw [List.length_drop]; omega) | omega) | (rw [List.length_take]; omega) | (rw [List.length_drop]; omega) | omega)); intro bB vB kB h' tk' hk' hg' hn' iB; (have F'q9 := Fr.after kFq9 hk'); (have N'q9 := newsMore kFq9 kNq9 hk' hg' hn'); (have lB := newsNe kNq9 hn'); clear hk' hg' hn'; clear kNq9 kFq9; (try dsimp only); (try k_fold))) | (with_reducible ((with_reducible show wpAny _ _ (call (Value.ref 158) [Value.ref _]) _ _ _); (with_reducible rename Fr _ _ _ _ => kFq9); (with_reducible rename News _ _ _ _ => kNq9); k_dflt (refine' sums_con (Cx.any (by assumption) (Fr.keep kFq9)) ?kdq8 ?kuq8 ?klq8 ?kiq8 ?knq8 ?kzq8 ?_; (case kdq8 => decide); (case kuq8 => decide); (case klq8 => exact News.isList kNq9 (by k_mem)); (case kiq8 => assumption); (case knq8 => exact fun n hn => hn16 n (by first | exact List.mem_of_mem_take hn | exact List.mem_of_mem_drop hn)); (case kzq8 => (first | (rw [List.length_take]; omega) | (rw [List.length_drop]; omega) | omega))); intro bS vS kS WS h' tk' hk' hg' oS wS; (have F'q9 := Fr.after kFq9 hk'); (have N'q9 := newsMores kFq9 kNq9 hk' hg'); (dsimp only [List.cons_append, List.nil_append] at N'q9); (have lS := fun p hp => newsNe kNq9 (hg' p hp).2); clear hk' hg'; clear kNq9 kFq9; (try dsimp only); (try k_fold))) | ((with_reducible show wpAny _ _ (call _ [Value.bytes _ _]) _ _ _); refine call_type_of (Tx := "bytes") rfl (by decide +kernel) ?_) | (with_reducible ((with_reducible show wpAny _ _ (storeName _ _ _) _ _ _); k_dflt (refine' storeM ?Fq7 ?Nq7 ?_ ?aq7 ?bq7; (case Fq7 => k_asm); (case Nq7 => k_asm); (case aq7 => rfl); (case bq7 => rfl); k_whole; intro m'q7 h'q7 F'q7 N'q7; (try k_sweep)))) | (with_reducible ((with_reducible show wpAny _ _ (eval (PySem.Expr.Name _ _) _) _ _ _); k_dflt (refine' nameX_L ?Fq7 ?vq7 ?_ ?aq7 ?bq7; (case Fq7 => k_asm); (case aq7 => rfl); (case bq7 => rfl); (case vq7 => exact Eq.refl (some _)); k_whole))) | ((with_reducible show InvEnd _ _ _ _ _ _); ((with_reducible rename Fr _ _ _ _ => kFq7); first | ((dsimp +zetaDelta only at kFq7); (try dsimp +zetaDelta only)) | dsimp +zetaDelta only)) | ((with_reducible show InvEndG _ _ _ _ _ _); ((with_reducible rename Fr _ _ _ _ => kFq7); first | ((dsimp +zetaDelta only at kFq7); (try dsimp +zetaDelta only)) | dsimp +zetaDelta only)) | walk1 | (dsimp only; walk1) | (leave1; (try dsimp only)) | fail "no step") <;> (repeat ((fail_if_success (fail_if_success ((generalize qx = zq); (with_reducible show zq _ _)))); k_unfold; (try clear qx); (try (first | refine wpI (P := wpAny _ _ _ _ _ ⟨_, s.gens, s.drawn, _, s.os⟩) ?_ | refine wpI (P := wpAny _ _ _ _ _ _) ?_)); (try dsimp only)))))
    rename Fr _ _ _ _ => F
    rename News _ _ _ _ => N
    refine LCg.CompEnd.intro F N _ (fun p hp => hp) off (.inr ⟨_, .head _, rfl, _, rfl⟩) ⟨rfl, ?_⟩
    have e6 : (ns6.take (i + 1)).map (fun x => Int.fmod x 16) = (ns6.take i).map (fun x => Int.fmod x 16) ++ [Int.fmod xn 16] := by
      have e7 : ns6[i]? = some xn := by
        have := congrArg List.head? hd
        rw [List.head?_drop] at this
        simpa using this
      rw [List.take_add_one, e7]; simp
    rw [e6]
    exact hy.append (.cons _ _ .nil)
end Mine
end
theorem PySem.Challenge.cw_qh0049_01_holds : PySem.Challenge.rw_qh0049_01.Holds :=
  Mine.law_holds
