import PyProof.Rows.All
import Wide.All
import OpenK.AllK
import Wide.FinOn
import PySem.Challenge.RW_bg0019_01
set_option Elab.async false

namespace Mine
open PySem PySem.W PyProof.Rows
set_option maxRecDepth 100000 in
set_option maxHeartbeats 8000000 in
open_top hd for PySem.Challenge.rw_bg0019_01
end Mine

namespace Mine
open PySem PySem.W PyProof.Rows PySem.Calls
set_option maxRecDepth 100000
abbrev Led := List (Addr × Obj)
abbrev AA (n : Nat) : Around := { handled := none, depth := n, frames := none, guards := none, units := n }
def Sub (h h' : Heap) : Prop := ∀ b o, h.get? b = some o → h'.get? b = some o
theorem Sub.rfl {h : Heap} : Sub h h := fun _ _ e => e
theorem Sub.trans {a b c : Heap} (x : Sub a b) (y : Sub b c) : Sub a c := fun p o e => y p o (x p o e)

theorem lift_A {α : Type} {M : Model} {A : Around} {n : Nat} {t : Sem α} {Q : α → Shared → Prop} {E : Value → Shared → Prop} {s : Shared} (hh : A.handled = none) (hd : A.depth ≤ n) (hu : A.units ≤ n) (h : wpAny M (AA n) t Q E s) : wpAny M A t Q E s :=
  fun Γ p hΓ => h Γ p ⟨hΓ.1.trans hh, Nat.le_trans hΓ.2.1 hd, fun _ e => (by cases e), fun _ e => (by cases e), Nat.le_trans hΓ.2.2.2.2 hu⟩

/-- a call of the def at f, by its level: it leaves all that stood as it stood -/
def Tell (w : World) (n : Nat) (f : Addr) (vs : List Value) (pre : Heap → Prop) (post : Value → Heap → Heap → Prop) : Prop :=
  ∀ (loose : List Str) (mean : ExcName → Option Value) (mg mb : Str → Option Value) (A : Around) (s : Shared) (Q E : Value → Shared → Prop),
    A.handled = none → A.depth ≤ n → A.units ≤ n → (hd.heap_39 w.params).In s.heap → Top hd.view_39 loose mean mg mb s.heap → pre s.heap →
    (∀ (r : Value) (h' : Heap) (tk' : Nat), Sub s.heap h' → post r s.heap h' → Q r { s with heap := h', toks := tk' }) →
    wpAny (model PySem.Challenge.rw_bg0019_01.row.prog w) A (call (.ref f) vs) Q E s

section
variable {prog : Program} {w : World} {A : Around} {s : Shared} {K : Frag} {loose : List Str} {mean : ExcName → Option Value} {mg mb : Str → Option Value} {p : Program}
theorem enter0 {Q E : Value → Shared → Prop} {name qual : Str} {params : Arguments} {body : List Stmt} {scope : Scope} {dV kV doc pm cdv ct oc : Value} {an od : Option Addr} {osl : Array (Option Value)} {f : Addr} {vs : List Value} {binds : List (Str × Value)}
    (X : K.In s.heap) (T : Top p loose mean mg mb s.heap)
    (ho : K.lookup f = some ⟨oc, od, .func (fnOf name qual params body scope dV kV doc pm an cdv ct), osl⟩) (hcd : codeIn K cdv qual = true) (hroom : A.depth < recursionLimit)
    (hbind : BindsTo s (fnOf name qual params body scope dV kV doc pm an cdv ct) ⟨vs, []⟩ binds) (hloc : ∀ y ∈ binds, scope.names.lookup y.1 = some .local)
    (h : ∀ L' h₁ tk, Sub s.heap h₁ → Fr s.heap L' h₁ (fun y => binds.reverse.lookup y) → News s.heap L' h₁ [] →
      wpAny (model prog w) (A.deeper (envOf qual scope L' f cdv)) (execs body (envOf qual scope L' f cdv))
        (fun fl s' => Q (match fl with | .ret v => v | _ => .none) s') (fun _ _ => False) { s with heap := h₁, toks := tk })
    (hco : scope.isCoroutine = false) (hgen : scope.isGenerator = false) (hk : scope.kind = .function)
    (hcell : ∀ x ∈ scope.names, x.2 ≠ .cell) : wpAny (model prog w) A (call (.ref f) vs) Q E s := by
  refine wpAny_call ?_
  refine codeAny_call_def (fd := fnX name qual params body scope [] dV kV doc pm an cdv ct) (body := body) (binds := binds) hroom (X _ _ ho) rfl T.nolimit (codeRec_of X hcd) rfl hbind hcell hloc (fun h₁ hns hk₁ => ?_) hco hgen hk
  exact wpAny_mono (h _ _ _ hk₁ ⟨hns, hk₁, Nat.le_refl _⟩ News.nil) (fun _ _ x => x) (fun _ _ x => x.elim)
theorem enter1 {Q E : Value → Shared → Prop} {name qual : Str} {params : Arguments} {body : List Stmt} {scope : Scope} {dV kV doc pm cdv ct oc : Value} {an od : Option Addr} {osl : Array (Option Value)} {f : Addr} {vs : List Value} {binds : List (Str × Value)}
    (X : K.In s.heap) (T : Top p loose mean mg mb s.heap)
    (ho : K.lookup f = some ⟨oc, od, .func (fnOf name qual params body scope dV kV doc pm an cdv ct), osl⟩) (hcd : codeIn K cdv qual = true) (hroom : A.depth < recursionLimit)
    (hbind : BindsTo s (fnOf name qual params body scope dV kV doc pm an cdv ct) ⟨vs, []⟩ binds) (hkind : (binds.all fun y => scope.names.lookup y.1 == some .local || scope.names.lookup y.1 == some .cell) = true)
    (hnd : ((cellsFrom 0 scope.names []).map (·.1)).Nodup)
    (h : ∀ L' h₁ tk cells, Sub s.heap h₁ → Fr s.heap L' h₁ (bindL (envOfC qual scope L' f cdv).kindOf binds fun _ => none) → News s.heap L' h₁ cells →
      CellsAre (bindC (envOfC qual scope L' f cdv).kindOf binds fun _ => none) (cellsFrom (L' + 1) scope.names []) cells →
      wpAny (model prog w) (A.deeper (envOfC qual scope L' f cdv)) (execs body (envOfC qual scope L' f cdv))
        (fun fl s' => Q (match fl with | .ret v => v | _ => .none) s') (fun _ _ => False) { s with heap := h₁, toks := tk })
    (hco : scope.isCoroutine = false) (hgen : scope.isGenerator = false) (hk : scope.kind = .function) : wpAny (model prog w) A (call (.ref f) vs) Q E s := by
  refine wpAny_call ?_
  refine codeAny_call_function hroom (X _ _ ho) rfl hco hgen rfl (codeRec_of X hcd) (hbind _ _ _ _ ?_)
  refine wpAny_newFunctionEnv_cells hk (kindsX hkind _) fun env' he s' x => ?_
  subst he
  refine ⟨T.nolimit.keeps x.toInCall.keep, codeAny_func ?_⟩
  obtain ⟨h₁, tk, rfl, _⟩ := x.done
  have hk₁ := x.toInCall.keep
  obtain ⟨cells, NC, Y⟩ := Cl.news (h₀ := s.heap) (Nat.le_refl _) fun n c hm => ⟨x.cell n c (lookup_of_mem_nodup (cellsFrom_names scope.names 0 (s.heap.objs.size + 1) [] [] rfl ▸ hnd) hm), x.above n c hm⟩
  exact wpAny_mono (h s.heap.objs.size h₁ tk cells hk₁ ⟨x.toInCall.ns, hk₁, Nat.le_refl _⟩ NC Y) (fun _ _ x => x) (fun _ _ x => x.elim)
end
/-- the walk stops here -/
def Halt (P : Prop) : Prop := P
theorem Halt.out {P : Prop} (h : Halt P) : P := h
theorem Halt.mk {P : Prop} (h : P) : Halt P := h
theorem fr_in {h₀ h : Heap} {L : Addr} {m : Str → Option Value} {x : Str} {v : Value} (e : m x = some v) (F : Fr h₀ L h m) : Fr h₀ L h (fun y => if y = x then some v else m y) := by
  have : (fun y => if y = x then some v else m y) = m := by
    funext y
    by_cases hy : y = x
    · rw [if_pos hy, hy, e]
    · rw [if_neg hy]
  rw [this]; exact F
end Mine

namespace Mine
open PySem PySem.W PyProof.Rows PySem.Calls
set_option maxRecDepth 100000
section
variable {h₀ h : Heap} {L l : Addr} {o : Obj} {m : Str → Option Value} {led : Led}
/-- an object laid next stands apart from the frame, from what stood before the call, and from the ledger -/
theorem next_fr (F : Fr h₀ L h m) : L ∉ [h.objs.size] := fun hm => Nat.ne_of_lt F.ns.lt (List.mem_singleton.mp hm)
theorem next_ground (F : Fr h₀ L h m) : ∀ b ∈ [h.objs.size], h₀.get? b = none := fun _ hb => List.mem_singleton.mp hb ▸ F.fresh
theorem next_led (N : News h₀ L h led) : ∀ p ∈ led, p.1 ∉ [h.objs.size] := fun p hp hm => Nat.ne_of_lt (Heap.lt_size (N p hp).1) (List.mem_singleton.mp hm)
/-- and so do it and an object that stood before the call -/
theorem next_fr2 (F : Fr h₀ L h m) (ho : h₀.get? l = some o) : L ∉ [h.objs.size, l] := fun hm =>
  (List.mem_cons.mp hm).elim (Nat.ne_of_lt F.ns.lt) fun hm => Nat.ne_of_gt (Nat.lt_of_lt_of_le (Heap.lt_size ho) F.above) (List.mem_singleton.mp hm)
theorem next_led2 (N : News h₀ L h led) (ho : h₀.get? l = some o) : ∀ p ∈ led, p.1 ∉ [h.objs.size, l] := fun p hp hm =>
  (List.mem_cons.mp hm).elim (Nat.ne_of_lt (Heap.lt_size (N p hp).1)) fun hm => by
    have e := (N p hp).2.2
    rw [List.mem_singleton.mp hm, ho] at e
    cases e
theorem take_step {α : Type} {xs : List α} {i : Nat} {x : α} (hx : xs[i]? = some x) : xs.take (i + 1) = xs.take i ++ [x] := by
  rw [List.take_add_one, hx]; rfl
theorem cut_at {α : Type} {xs : List α} {i : Nat} {x : α} (hx : xs[i]? = some x) : xs = xs.take i ++ x :: xs.drop (i + 1) :=
  (List.take_append_drop (i + 1) xs).symm.trans (by rw [take_step hx, List.append_assoc]; rfl)
end
section
variable {prog : Program} {w : World} {A : Around} {E : Value → Shared → Prop} {s : Shared} {env : Env} {h₀ : Heap} {x : Str} {body : List Stmt} {Q : Flow → Shared → Prop}
/-- one int letter y, some stored names, a ledger that stays -/
def RAcc (y x : Str) (stored : List Str) (m₀ : Str → Option Value) (led : Led) (P : Int → Prop) (m : Str → Option Value) (nx : Led) : Prop :=
  nx = led ∧ ∃ c t, m y = some (.int c t) ∧ P c ∧ ∀ z, z ≠ x → z ≠ y → stored.contains z = false → m z = m₀ z
theorem racc_map {y : Str} {stored : List Str} {m₀ m₁ : Str → Option Value} {v : Option Value} {c : Int} {t : Tok} (h1 : m₁ y = some (.int c t)) (h2 : ∀ z, z ≠ x → z ≠ y → stored.contains z = false → m₁ z = m₀ z) :
    (fun z => if z = x then v else m₁ z) = fun z => if z = x then v else if z = y then some (.int c t) else if stored.contains z then m₁ z else m₀ z := by
  funext z
  by_cases hx : z = x
  · rw [if_pos hx, if_pos hx]
  · rw [if_neg hx, if_neg hx]
    by_cases hy : z = y
    · rw [if_pos hy, hy, h1]
    · rw [if_neg hy]
      cases hc : stored.contains z with
      | true => rw [if_pos rfl]
      | false => rw [if_neg Bool.false_ne_true, h2 z hx hy hc]
theorem racc_map' {y : Str} {stored : List Str} {m₀ m₁ : Str → Option Value} {c : Int} {t : Tok} (h1 : m₁ y = some (.int c t)) (h2 : ∀ z, z ≠ x → z ≠ y → stored.contains z = false → m₁ z = m₀ z) :
    m₁ = fun z => if z = x then m₁ z else if z = y then some (.int c t) else if stored.contains z then m₁ z else m₀ z := by
  funext z
  by_cases hx : z = x
  · rw [if_pos hx]
  · rw [if_neg hx]
    by_cases hy : z = y
    · rw [if_pos hy, hy, h1]
    · rw [if_neg hy]
      cases hc : stored.contains z with
      | true => rw [if_pos rfl]
      | false => rw [if_neg Bool.false_ne_true, h2 z hx hy hc]
theorem racc_end {L : Addr} {y : Str} {stored : List Str} {m₀ m' : Str → Option Value} {led own news' : Led} {adr : List Addr} {P : Int → Prop} {c : Int} {t : Tok} {s₁ : Shared} {h' : Heap} {tk : Nat}
    (F : Fr h₀ L h' m') (N : News h₀ L h' news') (hy : m' y = some (.int c t)) (hP : P c) (hr : ∀ z, z ≠ x → z ≠ y → stored.contains z = false → m' z = m₀ z) (ha : led.map (·.1) = adr) (hn : ∀ p ∈ led, p ∈ news') (ho : ∀ p ∈ own, p ∈ news') :
    InvEndN h₀ L (RAcc y x stored m₀ led P) own adr s₁ { s₁ with heap := h', toks := tk } := InvEndN.intro F N ⟨rfl, c, t, hy, hP, hr⟩ ha hn ho

theorem lp_list {l : Addr} {vs : List Value} {ns : List Int} {m₀ : Str → Option Value} {led : Led} {a₀ : Int} {t₀ : Tok} (y : Str) (stored : List Str) (P : List Int → Int → Prop)
    (hh : A.handled = none) (hl : h₀.IsList l vs.toArray) (hi : IntsAre vs ns) (F : Fr h₀ env.locals s.heap m₀) (N : News h₀ env.locals s.heap led) (hk : m₀ y = some (.int a₀ t₀)) (hp : P [] a₀)
    (turn : ∀ pre post n t c tc (u : Str → Option Value) h tk own, ns = pre ++ n :: post → OwnOff own (led.map (·.1)) → P pre c →
      Fr h₀ env.locals h (fun z => if z = x then some (.int n t) else if z = y then some (.int c tc) else if stored.contains z then u z else m₀ z) → News h₀ env.locals h (led ++ own) →
      wpAny (model prog w) A (execs body env) (InvPostN h₀ env.locals (RAcc y x stored m₀ led (P (pre ++ [n]))) own (led.map (·.1)) { s with heap := h, toks := tk } Q) E { s with heap := h, toks := tk })
    (done : ∀ c t (u : Str → Option Value) h tk, P ns c → Fr h₀ env.locals h (fun z => if z = x then u z else if z = y then some (.int c t) else if stored.contains z then u z else m₀ z) → News h₀ env.locals h led → Q .next { s with heap := h, toks := tk }) :
    wpAny (model prog w) A (pyIter (.ref l)) (fun it s₂ => LoopAtV prog w A h₀ env x body Q E it s₂) E s := by
  refine iter_invN (fun i m nx => RAcc y x stored m₀ led (P (ns.take i)) m nx) hh hl hi F N ⟨rfl, a₀, t₀, hk, by simpa using hp, fun _ _ _ _ => rfl⟩ ?_ ?_
  · rintro i n t m₁ nx h tk own hn _ hoff ⟨rfl, c, tc, h1, hP, h2⟩ F₁ N₁
    rw [take_step hn]
    rw [racc_map h1 h2] at F₁
    exact turn _ _ n t c tc m₁ h tk own (cut_at hn) hoff hP F₁ N₁
  · rintro m₁ nx h tk ⟨rfl, c, tc, h1, hP, h2⟩ F₁ N₁
    rw [List.take_length] at hP
    rw [racc_map' h1 h2] at F₁
    exact done c tc m₁ h tk hP F₁ N₁
theorem lp_range {r : Addr} {a b : Int} {t₁ u₁ v₁ : Tok} {n : Nat} {m₀ : Str → Option Value} {led : Led} {a₀ : Int} {t₀ : Tok} (y : Str) (stored : List Str) (P : List Int → Int → Prop)
    (hh : A.handled = none) (hr : IsRange s.heap r a b 1 t₁ u₁ v₁) (hsmall : Builtin.Range.small a b 1 = true) (hn : Builtin.Range.rangeSize a b 1 = (n : Int)) (F : Fr h₀ env.locals s.heap m₀) (N : News h₀ env.locals s.heap led) (hk : m₀ y = some (.int a₀ t₀)) (hp : P [] a₀)
    (turn : ∀ (pre : List Int) (k : Int) t c tc (u : Str → Option Value) h tk own, k = a + (pre.length : Int) → pre.length < n → OwnOff own (led.map (·.1)) → P pre c →
      Fr h₀ env.locals h (fun z => if z = x then some (.int k t) else if z = y then some (.int c tc) else if stored.contains z then u z else m₀ z) → News h₀ env.locals h (led ++ own) →
      wpAny (model prog w) A (execs body env) (InvPostN h₀ env.locals (RAcc y x stored m₀ led (P (pre ++ [k]))) own (led.map (·.1)) { s with heap := h, toks := tk } Q) E { s with heap := h, toks := tk })
    (done : ∀ c t (u : Str → Option Value) h tk, P (rangeKs a n) c → Fr h₀ env.locals h (fun z => if z = x then u z else if z = y then some (.int c t) else if stored.contains z then u z else m₀ z) → News h₀ env.locals h led → Q .next { s with heap := h, toks := tk }) :
    wpAny (model prog w) A (pyIter (.ref r)) (fun it s₂ => LoopAtV prog w A h₀ env x body Q E it s₂) E s := by
  refine wpAny_pyIter_range hr hsmall ?_
  have W : Walks prog w A s.heap.objs.size [s.heap.objs.size] [s.heap.objs.size] n (fun i v => i < n ∧ ∃ t, v = .int (a + i * 1) t)
      (fun i h => IsRangeIter h s.heap.objs.size (a + (i : Nat) * 1) ((n : Int) - (i : Nat)) 1) := (Walks.range hh _ a 1 n).bound
  refine loop_invN (fun i m nx => RAcc y x stored m₀ led (P ((rangeKs a n).take i)) m nx) W (next_fr F) (next_ground F) (next_led N) (next_led N) (by show IsRangeIter _ _ _ _ _; rw [hn]; simpa using Heap.get?_push_size _ rfl) (F.push _) (fun p hp => ⟨Heap.get?_push_of_some _ (N p hp).1, (N p hp).2⟩) ⟨rfl, a₀, t₀, hk, by simpa using hp, fun _ _ _ _ => rfl⟩ ?_ ?_
  · rintro i v m₁ nx h tk own hi ⟨_, t, rfl⟩ _ hoff ⟨rfl, c, tc, h1, hP, h2⟩ F₁ N₁
    have e1 : a + (i : Int) * 1 = a + (i : Int) := by omega
    rw [e1] at F₁
    have hk' : (rangeKs a n)[i]? = some (a + (i : Int)) := by simp [rangeKs, hi]
    have hs : (rangeKs a n).take (i + 1) = (rangeKs a n).take i ++ [a + (i : Int)] := by simp [List.take_add_one, hk']
    have hlen : ((rangeKs a n).take i).length = i := by rw [List.length_take, rangeKs_length]; omega
    rw [hs]
    rw [racc_map h1 h2] at F₁
    exact turn _ _ t c tc m₁ h tk own (by rw [hlen]) (by rw [hlen]; exact hi) hoff hP F₁ N₁
  · rintro m₁ nx h tk ⟨rfl, c, tc, h1, hP, h2⟩ F₁ N₁
    have hl : (rangeKs a n).take n = rangeKs a n := List.take_of_length_le (Nat.le_of_eq (rangeKs_length _ _))
    rw [hl] at hP
    rw [racc_map' h1 h2] at F₁
    exact done c tc m₁ h tk hP F₁ N₁

theorem lp_vals {l : Addr} {vs : List Value} {m₀ : Str → Option Value} {led : Led} {a₀ : Int} {t₀ : Tok} (y : Str) (stored : List Str) (P : Nat → Int → Prop)
    (hh : A.handled = none) (hl : h₀.IsList l vs.toArray) (F : Fr h₀ env.locals s.heap m₀) (N : News h₀ env.locals s.heap led) (hk : m₀ y = some (.int a₀ t₀)) (hp : P 0 a₀)
    (turn : ∀ i v c tc (u : Str → Option Value) h tk own, vs[i]? = some v → OwnOff own (led.map (·.1)) → P i c →
      Fr h₀ env.locals h (fun z => if z = x then some v else if z = y then some (.int c tc) else if stored.contains z then u z else m₀ z) → News h₀ env.locals h (led ++ own) →
      wpAny (model prog w) A (execs body env) (InvPostN h₀ env.locals (RAcc y x stored m₀ led (P (i + 1))) own (led.map (·.1)) { s with heap := h, toks := tk } Q) E { s with heap := h, toks := tk })
    (done : ∀ c t (u : Str → Option Value) h tk, P vs.length c → Fr h₀ env.locals h (fun z => if z = x then u z else if z = y then some (.int c t) else if stored.contains z then u z else m₀ z) → News h₀ env.locals h led → Q .next { s with heap := h, toks := tk }) :
    wpAny (model prog w) A (pyIter (.ref l)) (fun it s₂ => LoopAtV prog w A h₀ env x body Q E it s₂) E s := by
  have hls : s.heap.IsList l vs.toArray := F.lst hl
  obtain ⟨ol, hol, _⟩ := id hl
  have hne : l ≠ s.heap.objs.size := Nat.ne_of_lt (Nat.lt_trans (Nat.lt_of_lt_of_le (Heap.lt_size hol) F.above) F.ns.lt)
  refine wpAny_pyIter_list hls ?_
  have W := Walks.list (prog := prog) (w := w) hh s.heap.objs.size l hne vs.toArray
  rw [List.size_toArray] at W
  refine loop_invN (fun i m nx => RAcc y x stored m₀ led (P i) m nx) W (next_fr2 F hol) (next_ground F) (next_led N) (next_led2 N hol) ⟨⟨_, Heap.get?_push_size _ rfl, rfl, rfl⟩, hls.at fun o e => Heap.get?_push_of_some _ e⟩ (F.push _) (fun p hp => ⟨Heap.get?_push_of_some _ (N p hp).1, (N p hp).2⟩) ⟨rfl, a₀, t₀, hk, hp, fun _ _ _ _ => rfl⟩ ?_ ?_
  · rintro i v m₁ nx h tk own hi hP' _ hoff ⟨rfl, c, tc, h1, hP, h2⟩ F₁ N₁
    rw [racc_map h1 h2] at F₁
    exact turn i v c tc m₁ h tk own (by simpa using hP') hoff hP F₁ N₁
  · rintro m₁ nx h tk ⟨rfl, c, tc, h1, hP, h2⟩ F₁ N₁
    rw [racc_map' h1 h2] at F₁
    exact done c tc m₁ h tk hP F₁ N₁

/-- a list at D grown, some stored names -/
def RApp (D : Addr) (x : Str) (stored : List Str) (m₀ : Str → Option Value) (P : List Value → Prop) (m : Str → Option Value) (nx : Led) : Prop :=
  ∃ vs n, nx = [(D, W.listOf vs.toArray n)] ∧ P vs ∧ ∀ z, z ≠ x → stored.contains z = false → m z = m₀ z
theorem rapp_map {stored : List Str} {m₀ m₁ : Str → Option Value} {v : Option Value} (h2 : ∀ z, z ≠ x → stored.contains z = false → m₁ z = m₀ z) :
    (fun z => if z = x then v else m₁ z) = fun z => if z = x then v else if stored.contains z then m₁ z else m₀ z := by
  funext z
  by_cases hx : z = x
  · rw [if_pos hx, if_pos hx]
  · rw [if_neg hx, if_neg hx]
    cases hc : stored.contains z with
    | true => rw [if_pos rfl]
    | false => rw [if_neg Bool.false_ne_true, h2 z hx hc]
theorem rapp_map' {stored : List Str} {m₀ m₁ : Str → Option Value} (h2 : ∀ z, z ≠ x → stored.contains z = false → m₁ z = m₀ z) :
    m₁ = fun z => if z = x then m₁ z else if stored.contains z then m₁ z else m₀ z := by
  funext z
  by_cases hx : z = x
  · rw [if_pos hx]
  · rw [if_neg hx]
    cases hc : stored.contains z with
    | true => rw [if_pos rfl]
    | false => rw [if_neg Bool.false_ne_true, h2 z hx hc]
theorem rapp_end {L D : Addr} {stored : List Str} {m₀ m' : Str → Option Value} {own news' : Led} {adr : List Addr} {P : List Value → Prop} {vs : List Value} {n : Nat} {s₁ : Shared} {h' : Heap} {tk : Nat}
    (F : Fr h₀ L h' m') (N : News h₀ L h' news') (hP : P vs) (hr : ∀ z, z ≠ x → stored.contains z = false → m' z = m₀ z) (ha : [D] = adr) (hn : (D, W.listOf vs.toArray n) ∈ news') (ho : ∀ p ∈ own, p ∈ news') :
    InvEndN h₀ L (RApp D x stored m₀ P) own adr s₁ { s₁ with heap := h', toks := tk } :=
  InvEndN.intro F N ⟨vs, n, rfl, hP, hr⟩ ha (fun p hp => by rw [List.mem_singleton.mp hp]; exact hn) ho
theorem lp_range_app {r D : Addr} {a b : Int} {t₁ u₁ v₁ : Tok} {n n₀ : Nat} {vs₀ : List Value} {m₀ : Str → Option Value} (stored : List Str) (P : Nat → List Value → Prop)
    (hh : A.handled = none) (hr : IsRange s.heap r a b 1 t₁ u₁ v₁) (hsmall : Builtin.Range.small a b 1 = true) (hn : Builtin.Range.rangeSize a b 1 = (n : Int)) (F : Fr h₀ env.locals s.heap m₀) (N : News h₀ env.locals s.heap [(D, W.listOf vs₀.toArray n₀)]) (hp : P 0 vs₀)
    (turn : ∀ (i : Nat) (k : Int) t vs n' (u : Str → Option Value) h tk own, k = a + (i : Int) → i < n → OwnOff own [D] → P i vs →
      Fr h₀ env.locals h (fun z => if z = x then some (.int k t) else if stored.contains z then u z else m₀ z) → News h₀ env.locals h ((D, W.listOf vs.toArray n') :: own) →
      wpAny (model prog w) A (execs body env) (InvPostN h₀ env.locals (RApp D x stored m₀ (P (i + 1))) own [D] { s with heap := h, toks := tk } Q) E { s with heap := h, toks := tk })
    (done : ∀ vs n' (u : Str → Option Value) h tk, P n vs → Fr h₀ env.locals h (fun z => if z = x then u z else if stored.contains z then u z else m₀ z) → News h₀ env.locals h [(D, W.listOf vs.toArray n')] → Q .next { s with heap := h, toks := tk }) :
    wpAny (model prog w) A (pyIter (.ref r)) (fun it s₂ => LoopAtV prog w A h₀ env x body Q E it s₂) E s := by
  refine wpAny_pyIter_range hr hsmall ?_
  have W : Walks prog w A s.heap.objs.size [s.heap.objs.size] [s.heap.objs.size] n (fun i v => i < n ∧ ∃ t, v = .int (a + i * 1) t)
      (fun i h => IsRangeIter h s.heap.objs.size (a + (i : Nat) * 1) ((n : Int) - (i : Nat)) 1) := (Walks.range hh _ a 1 n).bound
  refine loop_invN (fun i m nx => RApp D x stored m₀ (P i) m nx) W (next_fr F) (next_ground F) (next_led N) (next_led N) (by show IsRangeIter _ _ _ _ _; rw [hn]; simpa using Heap.get?_push_size _ rfl) (F.push _) (fun p hp => ⟨Heap.get?_push_of_some _ (N p hp).1, (N p hp).2⟩) ⟨vs₀, n₀, rfl, hp, fun _ _ _ => rfl⟩ ?_ ?_
  · rintro i v m₁ nx h tk own hi ⟨_, t, rfl⟩ _ hoff ⟨vs, n', rfl, hP, h2⟩ F₁ N₁
    have e1 : a + (i : Int) * 1 = a + (i : Int) := by omega
    rw [e1] at F₁
    rw [rapp_map h2] at F₁
    exact turn i _ t vs n' m₁ h tk own rfl hi hoff hP F₁ N₁
  · rintro m₁ nx h tk ⟨vs, n', rfl, hP, h2⟩ F₁ N₁
    rw [rapp_map' h2] at F₁
    exact done vs n' m₁ h tk hP F₁ N₁
end
end Mine

namespace Mine
open PySem PySem.W PyProof.Rows PySem.Calls PyProof.Rows.LCg
set_option maxRecDepth 100000
section
variable {prog : Program} {w : World} {A : Around} {E : Value → Shared → Prop} {s : Shared} {h₀ : Heap} {L : Addr} {m : Str → Option Value} {env : Env}
theorem comp_ints {elt : Expr} {x : Str} {scope : Scope} {cl : List (Str × Addr)} {S : Led → Prop} {P : Nat → Value → Prop} {Fin : List Value → Led → Prop} {news : Led} {n : Nat} (g : Nat → Int) (hS : S news)
    (turn : ∀ i v I oI C oC D m₂ ys h tk (E' : Value → Shared → Prop), i < n → P i v → NsObj oC m₂ → m₂ x = some v → Fr h₀ L h m → News h₀ L h ((I, oI) :: (C, oC) :: (D, lst ys) :: news) → Off3 I C D news → ((@Ne Nat I C) ∧ (@Ne Nat I D) ∧ (@Ne Nat C D)) →
      wpAny (model prog w) A (eval elt (compEnvC scope cl C env)) (fun y s₂ => ∃ t h' tk', y = .int (g i) t ∧ s₂ = { s with heap := h', toks := tk' } ∧ Fr h₀ L h' m ∧ News h₀ L h' ((I, oI) :: (C, oC) :: (D, lst ys) :: news)) E' { s with heap := h, toks := tk })
    (fin : ∀ ys, IntsAre ys ((List.range n).map g) → Fin ys news) : CompRest prog w A h₀ L m env elt x scope cl s S P Fin n 0 [] news := by
  have key : ∀ (j i : Nat) (ys : List Value), i + j = n → IntsAre ys ((List.range i).map g) → CompRest prog w A h₀ L m env elt x scope cl s S P Fin j i ys news := by
    intro j
    induction j with
    | zero =>
      intro i ys hi hy
      have e : i = n := by omega
      rw [e] at hy
      exact CompRest.zero (fin ys hy)
    | succ j ih =>
      intro i ys hi hy
      refine CompRest.succ ?_
      intro v I oI C oC D m₂ h tk E' hv hC hx F N off ne
      refine wpAny_mono (turn i v I oI C oC D m₂ ys h tk E' (by omega) hv hC hx F N off ne) (fun y s₂ hq => ?_) fun _ _ e => e
      obtain ⟨t, h', tk', rfl, rfl, F', N'⟩ := hq
      refine ⟨h', tk', news, rfl, F', N', off, hS, ?_⟩
      refine ih (i + 1) _ (by omega) ?_
      rw [List.range_succ, List.map_append]
      exact IntsAre.append hy (.cons _ _ .nil)
  exact key n 0 [] (by omega) .nil

theorem comp_ones {elt : Expr} {x : Str} {scope : Scope} {cl : List (Str × Addr)} {S : Led → Prop} {P : Nat → Value → Prop} {Fin : List Value → Led → Prop} {news : Led} {n : Nat} (hS : S news)
    (turn : ∀ i v I oI C oC D m₂ ys h tk (E' : Value → Shared → Prop), i < n → P i v → NsObj oC m₂ → m₂ x = some v → Fr h₀ L h m → News h₀ L h ((I, oI) :: (C, oC) :: (D, lst ys) :: news) → Off3 I C D news → ((@Ne Nat I C) ∧ (@Ne Nat I D) ∧ (@Ne Nat C D)) →
      wpAny (model prog w) A (eval elt (compEnvC scope cl C env)) (fun y s₂ => ∃ c t h' tk', y = .str c t ∧ s₂ = { s with heap := h', toks := tk' } ∧ Fr h₀ L h' m ∧ News h₀ L h' ((I, oI) :: (C, oC) :: (D, lst ys) :: news) ∧ c.length = 1) E' { s with heap := h, toks := tk })
    (fin : ∀ ys gs, StrsAre ys gs → gs.length = n → (∀ x ∈ gs, x.length = 1) → Fin ys news) : CompRest prog w A h₀ L m env elt x scope cl s S P Fin n 0 [] news := by
  have key : ∀ (j i : Nat) (ys : List Value) (gs : List Str), i + j = n → StrsAre ys gs → gs.length = i → (∀ x ∈ gs, x.length = 1) → CompRest prog w A h₀ L m env elt x scope cl s S P Fin j i ys news := by
    intro j
    induction j with
    | zero =>
      intro i ys gs hi hy hg h1
      exact CompRest.zero (fin ys gs hy (by omega) h1)
    | succ j ih =>
      intro i ys gs hi hy hg h1
      refine CompRest.succ ?_
      intro v I oI C oC D m₂ h tk E' hv hC hx F N off ne
      refine wpAny_mono (turn i v I oI C oC D m₂ ys h tk E' (by omega) hv hC hx F N off ne) (fun y s₂ hq => ?_) fun _ _ e => e
      obtain ⟨c, t, h', tk', rfl, rfl, F', N', hc⟩ := hq
      refine ⟨h', tk', news, rfl, F', N', off, hS, ?_⟩
      refine ih (i + 1) _ (gs ++ [c]) (by omega) (W.kct_snoc hy) (by rw [List.length_append, hg]; rfl) (fun x hx => ?_)
      rcases List.mem_append.mp hx with hx | hx
      · exact h1 x hx
      · rw [List.mem_singleton.mp hx]; exact hc
  exact key n 0 [] [] (by omega) .nil rfl (fun _ h => nomatch h)

/-- what is laid next stands below the heap's new end -/
theorem next_in {h : Heap} (o : Obj) : ∀ b ∈ [h.objs.size], b < (h.push o).objs.size := fun _ hb => by
  rw [Heap.size_push, List.mem_singleton.mp hb]; exact Nat.lt_add_one _
/-- the ledger stays while another object is filled -/
theorem news_past {h h' : Heap} {C D : Addr} {o : Obj} {led : Led} (N : News h₀ L h ((D, o) :: led)) (hs : Heap.SameBut C h h') (ne : C ≠ D) (off : ∀ p ∈ led, p.1 ≠ C) : News h₀ L h' ((D, o) :: led) := fun p hp =>
  ⟨hs.extBut _ _ ((List.mem_cons.mp hp).elim (fun e => e ▸ Ne.symm ne) (off p)) (N p hp).1, (N p hp).2⟩

/-- y = [elt for tg in iter]: the comprehension, at whose end the list is stored -/
theorem assign_comp {elt tg iter : Expr} {y : Str} {py : Pos} {scope : Scope} {pos spos : Pos} {Q : Flow → Shared → Prop}
    (hsw : swapsWith (.ListComp elt [⟨tg, iter, [], 0⟩] scope pos) (some (.Name y py)) spos.line env = pure true)
    (h : ∀ here, wpAny (model prog w) A (comprehension (.ListComp elt [⟨tg, iter, [], 0⟩] scope pos) scope env here (newList []) false (eval iter env) (some (assign (.Name y py) env))) (fun _ s' => Q .next s') E s) :
    wpAny (model prog w) A (exec (.Assign [.Name y py] (.ListComp elt [⟨tg, iter, [], 0⟩] scope pos) spos) env) Q E s := by
  rw [exec_Assign_Name_used _ _ _ _ hsw]
  exact wpAny_bind (wpAny_standAt (wpAny_bind (wpAny_bind (wpAny_mono (h _) (fun _ _ q => wpAny_pure (wpAny_pure q)) fun _ _ e => e))))
/-- that end: the list at D stored under y, the comprehension's own frame at C let go -/
theorem store_end {y : Str} {py : Pos} {Q : Flow → Shared → Prop} {C D : Addr} {o : Obj} {led : Led} {h : Heap} {m' : Str → Option Value} {tk : Nat}
    (hy : env.kindOf y = some .local) (hp : (env.scope.kind == .class || (env.scope.kind == .module && env.locals != env.globals)) = false)
    (F : Fr h₀ env.locals h m) (N : News h₀ env.locals h ((D, o) :: led)) (hn : h.Ns C m') (hC₀ : h₀.get? C = none) (hCL : C ≠ env.locals) (ne : C ≠ D) (off : ∀ p ∈ led, p.1 ≠ C)
    (fin : ∀ h' tk', Fr h₀ env.locals h' (fun z => if z = y then some (.ref D) else m z) → News h₀ env.locals h' ((D, o) :: led) → Q .next { s with heap := h', toks := tk' }) :
    compPost (model prog w) A E (some (assign (.Name y py) env)) (fun _ s' => Q .next s') (.ref D) C (.ok .next) { s with heap := h, toks := tk } :=
  wpAny_assign_Name (wpAny_storeName_local hy F.ns (fun _ n₂ k₂ =>
    have N₂ := fun p hp => ⟨k₂.extBut _ _ (N p hp).2.1 (N p hp).1, (N p hp).2⟩
    ⟨m', hn.sameBut k₂ hCL, fun h' k' => fin h' _ ((F.set n₂ k₂).change k' hCL hC₀) (news_past N₂ k' ne off)⟩) hp)

def SrcS (prog : Program) (w : World) (A : Around) (h₀ : Heap) (L : Addr) (m : Str → Option Value) (env : Env) (elt : Expr) (x : Str) (scope : Scope) (cl : List (Str × Addr)) (Fin : Shared → List Value → Led → Prop) (xv : Value) (s₁ : Shared) : Prop :=
  ∃ str t news, xv = .str str t ∧ A.handled = none ∧ Fr h₀ L s₁.heap m ∧ News h₀ L s₁.heap news ∧ str.cps.size ≤ sizeLine ∧
    ∀ s₂ : Shared, (∃ h, s₂ = { s₁ with heap := h }) → CompRest prog w A h₀ L m env elt x scope cl s₂ (fun _ => True) (SignAt str) (Fin s₂) str.cps.size 0 [] news

theorem ListComp_S {elt iter : Expr} {x : Str} {px : Pos} {scope : Scope} {cl : List (Str × Addr)} {pos : Pos} {Q : Value → Shared → Prop} (_F₀ : Fr h₀ L s.heap m)
    (hclos : closureFor scope env = pure cl) (hcell : ∀ y ∈ scope.names, y.2 ≠ .cell) (hkind : scope.kind = .function)
    (hnames : ∀ y ∈ scope.names, y.2 = .local → scope.names.lookup y.1 = some .local) (hx : scope.names.lookup x = some .local)
    (h : wpAny (model prog w) A (eval iter env) (SrcS prog w A h₀ L m env elt x scope cl (fun s₂ => FinE h₀ L m s₂ Q)) E s)
    (hs : ∀ x, foldedSetIterable iter env x = pure x := by intro _; rfl) :
    wpAny (model prog w) A (eval (.ListComp elt [⟨.Name x px, iter, [], 0⟩] scope pos) env) Q E s := by
  rw [eval_ListComp]
  refine wpAny_comprehension_free (use := none) rfl hs hclos hkind hnames (wpAny_mono h (fun xv s₁ h₁ => ?_) fun _ _ e => e)
  obtain ⟨str, t, news, rfl, hh, F, N, hsz, R⟩ := h₁
  have ext : ∀ (cls : String) (I : Addr) i (h h' : Heap) (o : Obj) (nw : Led), h.IsStrIter I cls str t i → h.get? I = some o → h'.get? I = some o → (∀ b o, h₀.get? b = some o → h'.get? b = some o) → News h₀ L h' nw → True → h'.IsStrIter I cls str t i :=
    fun cls I i h h' o nw st e e' _ _ _ => by
      obtain ⟨o', q, r⟩ := st
      rw [e] at q; cases q
      exact ⟨o, e', r⟩
  cases ha : str.cps.all (· < 128)
  · refine wpAny_pyIter_wide ha ?_
    refine block_U (Walks.strWide hh s₁.heap.objs.size str t) hsz (fun i h st => by obtain ⟨o, e, _⟩ := st; exact ⟨o, e⟩) (ext _ _) hcell hkind hx ⟨_, Heap.get?_push_size _ rfl, rfl, rfl⟩ (next_in _)
      (F.push _) (N.grown fun _ _ e => Heap.get?_push_of_some _ e) (Nat.ne_of_lt F.ns.lt) (next_is_new F) (fun p hp => Nat.ne_of_lt (Heap.lt_size (N p hp).1)) trivial (R _ ⟨_, rfl⟩) ?_
    exact fun D C _ tk m' _ _ F' N' o1 hn hC₀ _ hCL _ hCD offC fin => ⟨m', hn, fun h'' hs => fin D h'' tk (F'.change hs hCL hC₀) (news_past N' hs hCD offC) o1⟩
  · refine wpAny_pyIter_ascii ha ?_
    refine block_U (Walks.strAscii hh s₁.heap.objs.size str t) hsz (fun i h st => by obtain ⟨o, e, _⟩ := st; exact ⟨o, e⟩) (ext _ _) hcell hkind hx ⟨_, Heap.get?_push_size _ rfl, rfl, rfl⟩ (next_in _)
      (F.push _) (N.grown fun _ _ e => Heap.get?_push_of_some _ e) (Nat.ne_of_lt F.ns.lt) (next_is_new F) (fun p hp => Nat.ne_of_lt (Heap.lt_size (N p hp).1)) trivial (R _ ⟨_, rfl⟩) ?_
    exact fun D C _ tk m' _ _ F' N' o1 hn hC₀ _ hCL _ hCD offC fin => ⟨m', hn, fun h'' hs => fin D h'' tk (F'.change hs hCL hC₀) (news_past N' hs hCD offC) o1⟩

theorem comp_end1 {I C D a : Addr} {oI oC oD o : Obj} {S : Led → Prop} {rest : Value → Led → Prop} {s₁ : Shared} {h' : Heap} {tk : Nat} {news : Led}
    (F : Fr h₀ L h' m) (N : News h₀ L h' ((a, o) :: (I, oI) :: (C, oC) :: (D, oD) :: news)) (oa : Off1 a ((I, oI) :: (C, oC) :: (D, oD) :: news)) (off : Off3 I C D news) (hS : S ((a, o) :: news)) (r : rest (.ref a) ((a, o) :: news)) :
    CompEnd h₀ L m s₁ I oI C oC D oD S rest (.ref a) { s₁ with heap := h', toks := tk } := by
  refine CompEnd.intro F N ((a, o) :: news) (fun p hp => ?_) ⟨⟨Ne.symm oa.1, Ne.symm oa.2.1, Ne.symm oa.2.2.1⟩, off⟩ hS r
  simp only [List.mem_cons] at hp ⊢
  rcases hp with h | h | h | h | h
  · exact .inr (.inl h)
  · exact .inr (.inr (.inl h))
  · exact .inr (.inr (.inr (.inl h)))
  · exact .inl h
  · exact .inr (.inr (.inr (.inr h)))
theorem srcAt_cons {ax : Addr} {its : Array Value} {news : Led} {p : Addr × Obj} (h : SrcAt h₀ ax its news) : SrcAt h₀ ax its (p :: news) := by
  rcases h with h | ⟨o, hm, r⟩
  · exact .inl h
  · exact .inr ⟨o, List.mem_cons_of_mem _ hm, r⟩
end
end Mine

namespace Mine
open PySem PySem.W PyProof.Rows PySem.Calls
set_option maxRecDepth 100000
def gen : List Int := [996825010, 642813549, 513874426, 1027748829, 705979059]
def istep (top : Int) (c : Int) (i : Int) : Int := Builtin.bitXor c (if Builtin.bitAnd (top.fdiv (2 ^ i.toNat)) 1 ≠ 0 then gen.getD i.toNat 0 else 0)
def pstep (c v : Int) : Int := (rangeKs 0 5).foldl (istep (c.fdiv (2 ^ Int.toNat 25))) (Builtin.bitXor (Builtin.bitAnd c 33554431 * 2 ^ Int.toNat 5) v)
def pm (ns : List Int) : Int := ns.foldl pstep 1
theorem pm_snoc (ns : List Int) (n : Int) : pm (ns ++ [n]) = pstep (pm ns) n := by unfold pm; rw [List.foldl_append, List.foldl_cons, List.foldl_nil]
theorem istep_yes {top c k : Int} (h : Builtin.bitAnd (top.fdiv (2 ^ k.toNat)) 1 ≠ 0) : istep top c k = Builtin.bitXor c ([996825010, 642813549, 513874426, 1027748829, 705979059].getD k.toNat 0) := by unfold istep; rw [if_pos h]; unfold gen; exact Eq.refl _
theorem istep_no {top c k : Int} (h : Builtin.bitAnd (top.fdiv (2 ^ k.toNat)) 1 = 0) : istep top c k = Builtin.bitXor c 0 := by unfold istep; rw [if_neg (fun x => x h)]

local macro_rules | `(tactic| walk_at "exec For") => `(tactic| (k_here; (rename Fr _ _ _ _ => lF'); k_dflt (refine' For_invVF lF' ?k1 ?k2 ?_; (case k1 => exact rfl); (case k2 => exact rfl); k_whole)))
local macro_rules | `(tactic| walk_at "exec For Name Name cons nil") => `(tactic| (k_here; (rename Fr _ _ _ _ => lF'); k_dflt (refine' For_invVF lF' ?k1 ?k2 ?_; (case k1 => exact rfl); (case k2 => exact rfl); k_whole)))
local macro_rules | `(tactic| walk_at "exec For Name Call cons nil") => `(tactic| (k_here; (rename Fr _ _ _ _ => lF'); k_dflt (refine' For_invVF lF' ?k1 ?k2 ?_; (case k1 => exact rfl); (case k2 => exact rfl); k_whole)))
local macro_rules | `(tactic| walk_at "pyIter ref") => `(tactic| ((with_reducible show wpAny _ _ (pyIter (Value.ref _)) (fun it s₂ => LoopAtV _ _ _ _ _ _ _ _ _ it s₂) _ _); refine Halt.out ?_))
theorem and25 (c : Int) : (Builtin.bitAnd c 33554431).natAbs < 2 ^ 64 := by
  have h := kbt_mask c 25
  have e : (2 : Int) ^ 25 - 1 = 33554431 := by decide
  rw [e] at h
  rw [h]
  omega
local macro_rules | `(tactic| walk_at "binaryOp LShift int int") => `(tactic| (k_dflt (refine' lshift_int_small (by decide) (by decide) (and25 _) ?_)))
set_option maxHeartbeats 8000000 in
theorem c_polymod (w : World) (l : Addr) (vs : List Value) (ns : List Int) : Tell w 600 21 [.ref l] (fun h => h.IsList l vs.toArray ∧ IntsAre vs ns ∧ ns.length ≤ 60) (fun r _ _ => ∃ t, r = .int (pm ns) t) := by
  w_top off
  intro loose mean mg mb A s Q E hh hd hu K T hpre ret
  obtain ⟨hl, hi, hn⟩ := hpre
  refine lift_A hh hd hu ?_
  clear hd hu hh
  revert K; k_fill; intro K
  k_dflt (refine enter0 (binds := [(Str.ofString "values", .ref l)]) K T (by k_is) (by k_is) (by decide) (BindsTo.of_eq rfl) (locs rfl) ?_ rfl rfl rfl (by decide))
  intro L' h0 tk0 kS F0 N0
  k_fold
  k_steps
  rename_i g h1 l1 h2 h3 lF' N'
  refine Halt.mk ?_
  refine' lp_list (Str.ofString "chk") [Str.ofString "top", Str.ofString "i"] (fun pre c => c = pm pre) rfl hl hi lF' N' ?k1 ?k2 ?turn ?done
  case k1 => rfl
  case k2 => rfl
  case turn =>
    intro pre post n t c tc u h tk own hns hoff hP F N
    clear lF' N' kS
    k_fold
    k_steps
    refine Halt.mk ?_
    rename_i hR FR NR kR
    refine' lp_range (n := 5) (Str.ofString "chk") [] (fun pr c' => c' = pr.foldl (istep (c.fdiv (2 ^ Int.toNat 25))) (Builtin.bitXor (Builtin.bitAnd c 33554431 * 2 ^ Int.toNat 5) n)) rfl hR (by decide) (by decide) FR NR ?i1 ?i2 ?iturn ?idone
    case i1 => rfl
    case i2 => rfl
    case iturn =>
      intro pr k t2 c2 tc2 u2 h2 tk2 own2 hk hlt hoff2 hP2 F2 N2
      clear FR NR kR hR
      have hk0 : 0 ≤ k := by omega
      have hk5 : k < 5 := by omega
      k_unmd
      k_fold
      k_steps
      · rename_i hb h8 tk8 F8 N8
        refine' racc_end F8 N8 rfl ?_ ?_ rfl ?_ ?_
        · rw [List.foldl_append, List.foldl_cons, List.foldl_nil, ← hP2, istep_yes hb]
        · intro z h1 h2 h3; simp [h1, h2]
        · exact fun p hp => List.mem_append_left _ hp
        · exact fun p hp => List.mem_append_right _ hp
      · rename_i hb h8 F8 N8
        refine' racc_end F8 N8 rfl ?_ ?_ rfl ?_ ?_
        · rw [List.foldl_append, List.foldl_cons, List.foldl_nil, ← hP2, istep_no hb]
        · intro z h1 h2 h3; simp [h1, h2]
        · exact fun p hp => List.mem_append_left _ hp
        · exact fun p hp => List.mem_append_right _ hp
    case idone =>
      intro c2 t2 u2 h2 tk2 hP2 F2 N2
      clear FR NR kR hR
      k_unmd
      k_steps
      refine' racc_end F2 N2 rfl ?_ ?_ rfl ?_ ?_
      · rw [hP2, pm_snoc, ← hP]
        unfold pstep
        exact Eq.refl _
      · intro z h1 h2 h3
        simp only [List.contains_cons, List.contains_nil, Bool.or_false, Bool.or_eq_false_iff, beq_eq_false_iff_ne] at h3
        simp [h1, h2, h3]
      · exact fun p hp => List.mem_append_left _ hp
      · exact fun p hp => List.mem_append_right _ hp
  case done => 
    intro c2 t2 u2 h2 tk2 hP2 F2 N2
    k_unmd
    k_steps
    dsimp only
    k_unfold
    exact ret _ _ _ F2.keep ⟨_, by rw [hP2]⟩
end Mine

namespace Mine
open PySem PySem.W PyProof.Rows PySem.Calls
set_option maxRecDepth 100000
set_option maxHeartbeats 8000000 in
theorem c_at (w : World) (l : Addr) (vs : List Value) (ns : List Int) (k d : Int) (t u : Tok) : Tell w 600 45 [.ref l, .int k t, .int d u] (fun h => h.IsList l vs.toArray ∧ IntsAre vs ns ∧ ns.length ≤ 100 ∧ 0 ≤ k ∧ k ≤ 100) (fun r _ _ => ∃ t, r = .int (ns.getD k.toNat d) t) := by
  w_top off
  intro loose mean mg mb A s Q E hh hd hu K T hpre ret
  obtain ⟨hl, hi, hn, hk0, hk1⟩ := hpre
  refine lift_A hh hd hu ?_
  clear hd hu hh
  revert K; k_fill; intro K
  k_dflt (refine enter0 (binds := [(Str.ofString "script", .ref l), (Str.ofString "k", .int k t), (Str.ofString "other", .int d u)]) K T (by k_is) (by k_is) (by decide) (BindsTo.of_eq rfl) (locs rfl) ?_ rfl rfl rfl (by decide))
  intro L' h0 tk0 kS F0 N0
  k_fold
  k_steps
  · have e : ns.getD k.toNat 0 = ns.getD k.toNat d := by
      rw [List.getD_eq_getElem?_getD, List.getD_eq_getElem?_getD, List.getElem?_eq_getElem (by omega)]; rfl
    rw [e]
    exact ret _ _ _ F0.keep ⟨_, rfl⟩
  · have e : d = ns.getD k.toNat d := by
      rw [List.getD_eq_getElem?_getD, List.getElem?_eq_none (by omega)]; rfl
    refine ret _ _ _ F0.keep ⟨u, ?_⟩
    rw [← e]
end Mine

namespace Mine
open PySem PySem.W PyProof.Rows PySem.Calls
set_option maxRecDepth 100000
/-- a list of ints somewhere: its address, its values, its ints -/
abbrev Row3 := Addr × List Value × List Int
def sumI (rows : List (List Int)) (m : Nat) : List Int := (List.range m).map fun k => (rows.map fun r => r.getD k 0).foldl Builtin.bitXor 0
def RowsAt (h : Heap) (R : List Row3) (m : Nat) : Prop := ∀ p ∈ R, h.IsList p.1 p.2.1.toArray ∧ IntsAre p.2.1 p.2.2 ∧ p.2.2.length = m
/-- a new list of ints came back -/
def NewInts (ns : List Int) (r : Value) (h h' : Heap) : Prop := ∃ a vs n, r = .ref a ∧ h.get? a = none ∧ h'.get? a = some (W.listOf vs.toArray n) ∧ IntsAre vs ns
theorem ints_snoc {vs : List Value} {ns : List Int} {n : Int} {t : Tok} (h : IntsAre vs ns) : IntsAre (vs ++ [.int n t]) (ns ++ [n]) := IntsAre.append h (.cons n t .nil)
theorem rowsAt_get {h : Heap} {R : List Row3} {m i : Nat} {v : Value} (x : RowsAt h R m) (e : (R.map fun p => Value.ref p.1)[i]? = some v) : ∃ p, R[i]? = some p ∧ v = .ref p.1 ∧ h.IsList p.1 p.2.1.toArray ∧ IntsAre p.2.1 p.2.2 ∧ p.2.2.length = m := by
  rw [List.getElem?_map] at e
  cases hp : R[i]? with
  | none => rw [hp] at e; cases e
  | some p =>
    rw [hp] at e
    cases e
    exact ⟨p, rfl, rfl, x p (List.mem_of_getElem? hp)⟩

local macro_rules | `(tactic| walk_at "exec For") => `(tactic| (k_here; (rename Fr _ _ _ _ => lF'); k_dflt (refine' For_invVF lF' ?k1 ?k2 ?_; (case k1 => exact rfl); (case k2 => exact rfl); k_whole)))
local macro_rules | `(tactic| walk_at "exec For Name Name cons nil") => `(tactic| (k_here; (rename Fr _ _ _ _ => lF'); k_dflt (refine' For_invVF lF' ?k1 ?k2 ?_; (case k1 => exact rfl); (case k2 => exact rfl); k_whole)))
local macro_rules | `(tactic| walk_at "exec For Name Call cons nil") => `(tactic| (k_here; (rename Fr _ _ _ _ => lF'); k_dflt (refine' For_invVF lF' ?k1 ?k2 ?_; (case k1 => exact rfl); (case k2 => exact rfl); k_whole)))
local macro_rules | `(tactic| walk_at "pyIter ref") => `(tactic| ((with_reducible show wpAny _ _ (pyIter (Value.ref _)) (fun it s₂ => LoopAtV _ _ _ _ _ _ _ _ _ it s₂) _ _); refine Halt.out ?_))
set_option maxHeartbeats 8000000 in
theorem c_sum (w : World) (l : Addr) (R : List Row3) (m : Nat) : Tell w 600 57 [.ref l] (fun h => h.IsList l (R.map fun p => Value.ref p.1).toArray ∧ RowsAt h R m ∧ R ≠ [] ∧ m ≤ 60) (NewInts (sumI (R.map fun p => p.2.2) m)) := by
  w_top off
  intro loose mean mg mb A s Q E hh hd hu K T hpre ret
  obtain ⟨hl, hR, hne, hm⟩ := hpre
  refine lift_A hh hd hu ?_
  clear hd hu hh
  revert K; k_fill; intro K
  k_dflt (refine enter0 (binds := [(Str.ofString "rows", .ref l)]) K T (by k_is) (by k_is) (by decide) (BindsTo.of_eq rfl) (locs rfl) ?_ rfl rfl rfl (by decide))
  intro L' h0 tk0 kS F0 N0
  k_fold
  obtain ⟨⟨a0, v0, n0⟩, R', rfl⟩ : ∃ p R', R = p :: R' := by cases R with
    | nil => exact absurd rfl hne
    | cons p R' => exact ⟨p, R', rfl⟩
  obtain ⟨hl0, hi0, hm0⟩ := hR _ (List.mem_cons_self ..)
  dsimp only at hl0 hi0 hm0
  k_steps
  refine Halt.mk ?_
  rename_i hR' FR NR kR
  refine' lp_range_app (n := m) (vs₀ := []) [Str.ofString "one", Str.ofString "row"] (fun i vs => IntsAre vs ((List.range i).map fun k => ((((a0, v0, n0) :: R').map fun p => p.2.2).map fun r => r.getD k 0).foldl Builtin.bitXor 0)) rfl hR' ?s1 ?s2 FR NR IntsAre.nil ?turn ?done
  case s1 => exact small_one (by decide) (by decide) (by omega) (by omega)
  case s2 => rw [hm0]; exact rangeSize_nat _ _
  case turn =>
    intro i k t vs n' u h tk own hk hi hoff hP F N
    k_unmd
    k_fold
    k_steps
    refine Halt.mk ?_
    rename_i F2 N2
    refine' lp_vals (Str.ofString "one") [] (fun j c => c = ((((((a0, v0, n0) :: R').map fun p => p.2.2).take j).map fun r => r.getD i 0).foldl Builtin.bitXor 0)) rfl hl F2 N2 ?i1 ?i2 ?iturn ?idone
    case i1 => rfl
    case i2 => rfl
    case iturn =>
      intro j v c tc u3 h3 tk3 own3 hv hoff3 hP3 F3 N3
      obtain ⟨⟨pa, pv, pn⟩, hp, rfl, hpl, hpi, hpm⟩ := rowsAt_get hR hv
      dsimp only at hpl hpi hpm F3
      k_unmd
      k_fold
      k_steps
      rename_i F9 N9
      refine' racc_end F9 N9 rfl ?_ ?_ rfl ?_ ?_
      · have ep : (((a0, v0, n0) :: R').map fun p => p.2.2)[j]? = some pn := by rw [List.getElem?_map, hp]; rfl
        have ek : k.toNat = i := by omega
        rw [List.take_add_one, ep, hP3, ek, List.map_append, List.foldl_append]
        exact Eq.refl _
      · intro z h1 h2 h3
        simp [h1, h2]
      · exact fun p hp => List.mem_append_left _ hp
      · exact fun p hp => List.mem_append_right _ hp
    case idone =>
      intro c tc u3 h3 tk3 hP3 F3 N3
      k_unmd
      k_steps
      have hvl : vs.length = i := by rw [IntsAre.length hP]; simp
      refine append_K F3 N3 (Upd.head (hoff.ne (List.mem_singleton.mpr rfl))) (fun h9 F9 N9 => ?_) (by rw [List.size_toArray, hvl]; exact Nat.le_trans (Nat.le_trans (Nat.le_of_lt hi) hm) (by decide))
      k_steps
      rw [List.push_toArray] at N9
      refine' rapp_end F9 N9 ?_ ?_ rfl (List.mem_cons_self ..) (fun p hp => List.mem_cons_of_mem _ hp)
      · rw [List.range_succ, List.map_append]
        rw [List.length_map, ← List.length_map (f := fun p : Row3 => p.2.2), List.take_length] at hP3
        rw [hP3]
        exact ints_snoc hP
      · intro z h1 h3
        simp only [List.contains_cons, List.contains_nil, Bool.or_false, Bool.or_eq_false_iff, beq_eq_false_iff_ne] at h3
        simp [h1, h3]
  case done =>
    intro vs n' u h tk hP F N
    k_unmd
    k_steps
    dsimp only
    k_unfold
    exact ret _ _ _ F.keep ⟨_, vs, n', rfl, (N _ (List.mem_cons_self ..)).2.2, (N _ (List.mem_cons_self ..)).1, hP⟩
end Mine

namespace Mine
open PySem PySem.W PyProof.Rows PySem.Calls
set_option maxRecDepth 100000
def hrpI (x : Str) : List Int := x.cps.toList.map (fun c : Nat => (c : Int).fdiv (2 ^ Int.toNat 5)) ++ [0] ++ x.cps.toList.map (fun c : Nat => Builtin.bitAnd (c : Int) 31)
theorem map_range_getD {α : Type} (l : List Nat) (f : Nat → α) : (List.range l.length).map (fun i => f (l.getD i 0)) = l.map f := by
  apply List.ext_getElem?
  intro i
  rw [List.getElem?_map, List.getElem?_map]
  by_cases h : i < l.length
  · rw [List.getElem?_range h, List.getElem?_eq_getElem h]
    simp [List.getD_eq_getElem?_getD, List.getElem?_eq_getElem h]
  · rw [List.getElem?_eq_none (by simpa using h), List.getElem?_eq_none (by simpa using h)]
    rfl
theorem signAt_get {x : Str} {i : Nat} {v : Value} (h : SignAt x i v) : ∃ u, v = .str ⟨#[x.cps.toList.getD i 0]⟩ u := by
  obtain ⟨c, u, hc, rfl⟩ := h
  refine ⟨u, ?_⟩
  rw [List.getD_eq_getElem?_getD, Array.getElem?_toList, hc]; rfl
local macro_rules | `(tactic| walk_at "eval ListComp") => `(tactic| (k_here; refine Halt.out ?_))
set_option maxHeartbeats 8000000 in
theorem c_hrp (w : World) (x : Str) (t : Tok) : Tell w 600 26 [.str x t] (fun h => x.cps.size ≤ 10) (NewInts (hrpI x)) := by
  w_top off
  intro loose mean mg mb A s Q E hh hd hu K T hpre ret
  refine lift_A hh hd hu ?_
  clear hd hu hh
  revert K; k_fill; intro K
  k_dflt (refine enter0 (binds := [(Str.ofString "hrp", .str x t)]) K T (by k_is) (by k_is) (by decide) (BindsTo.of_eq rfl) (locs rfl) ?_ rfl rfl rfl (by decide))
  have hcl : x.cps.toList.length ≤ 10 := by rw [Array.length_toList]; exact hpre
  intro L' h0 tk0 kS F0 N0
  k_fold
  k_steps
  refine Halt.mk ?_
  refine ListComp_S F0 (by with_unfolding_all rfl) (by decide) rfl (by decide) rfl ?_
  k_steps
  refine ⟨_, _, _, rfl, rfl, F0, N0, Nat.le_trans hpre (by decide), ?_⟩
  rintro s₂ ⟨h2, rfl⟩
  refine comp_ints (fun i => ((x.cps.toList.getD i 0 : Nat) : Int).fdiv (2 ^ Int.toNat 5)) trivial ?_ ?_
  · intro i v I oI C oC D m₂ ys h tk E' hi hv hC hx F N off ne
    obtain ⟨u, rfl⟩ := signAt_get hv
    k_unmd
    k_fold
    k_steps
    all_goals assumption
  intro ys hys D h3 tk3 F3 N3 o3
  rw [show x.cps.size = x.cps.toList.length from Array.length_toList.symm, map_range_getD x.cps.toList (fun c : Nat => (c : Int).fdiv (2 ^ Int.toNat 5))] at hys
  k_steps
  refine Halt.mk ?_
  rename_i F4 N4 hI4 l4
  refine ListComp_S F4 (by with_unfolding_all rfl) (by decide) rfl (by decide) rfl ?_
  k_steps
  refine ⟨_, _, _, rfl, rfl, F4, N4, Nat.le_trans hpre (by decide), ?_⟩
  rintro s₂ ⟨h2, rfl⟩
  refine comp_ints (fun i => Builtin.bitAnd ((x.cps.toList.getD i 0 : Nat) : Int) 31) trivial ?_ ?_
  · intro i v I oI C oC D m₂ ys h tk E' hi hv hC hx F N off ne
    obtain ⟨u, rfl⟩ := signAt_get hv
    k_unmd
    k_fold
    k_steps
    all_goals assumption
  intro zs hzs D5 h5 tk5 F5 N5 o5
  rw [show x.cps.size = x.cps.toList.length from Array.length_toList.symm, map_range_getD x.cps.toList (fun c : Nat => Builtin.bitAnd (c : Int) 31)] at hzs
  k_steps
  rename_i F6 N6 hI6 l6
  exact ret _ _ _ F6.keep ⟨_, _, _, rfl, (N6 _ (List.mem_cons_self ..)).2.2, (N6 _ (List.mem_cons_self ..)).1, hI6⟩
end Mine

namespace Mine
open PySem PySem.W PyProof.Rows PySem.Calls
set_option maxRecDepth 100000
section
variable {w : World} {loose : List Str} {mean : ExcName → Option Value} {mg mb : Str → Option Value} {A : Around} {s : Shared} {Q E : Value → Shared → Prop} {n : Nat} {f : Addr} {vs : List Value} {pre : Heap → Prop} {h₀ : Heap} {L : Addr} {m : Str → Option Value} {news : Led}
theorem use_int {x : Int} (C : Tell w n f vs pre (fun r _ _ => ∃ t, r = .int x t)) (hh : A.handled = none) (hdp : A.depth ≤ n) (hu : A.units ≤ n) (F : Fr h₀ L s.heap m) (N : News h₀ L s.heap news) (K : (hd.heap_39 w.params).In h₀) (T : Top hd.view_39 loose mean mg mb h₀) (hp : pre s.heap)
    (h : ∀ t h' tk', Fr h₀ L h' m → News h₀ L h' news → Q (.int x t) { s with heap := h', toks := tk' }) : wpAny (model PySem.Challenge.rw_bg0019_01.row.prog w) A (call (.ref f) vs) Q E s :=
  C loose mean mg mb A s Q E hh hdp hu (K.keeps F.keep) (T.keeps F.keep) hp fun r h' tk' k ⟨t, e⟩ => e ▸ h t h' tk' (F.keeps k) (N.grown k)
theorem use_bool {x : Bool} (C : Tell w n f vs pre (fun r _ _ => r = .bool x)) (hh : A.handled = none) (hdp : A.depth ≤ n) (hu : A.units ≤ n) (F : Fr h₀ L s.heap m) (N : News h₀ L s.heap news) (K : (hd.heap_39 w.params).In h₀) (T : Top hd.view_39 loose mean mg mb h₀) (hp : pre s.heap)
    (h : ∀ h' tk', Fr h₀ L h' m → News h₀ L h' news → Q (.bool x) { s with heap := h', toks := tk' }) : wpAny (model PySem.Challenge.rw_bg0019_01.row.prog w) A (call (.ref f) vs) Q E s :=
  C loose mean mg mb A s Q E hh hdp hu (K.keeps F.keep) (T.keeps F.keep) hp fun r h' tk' k e => e ▸ h h' tk' (F.keeps k) (N.grown k)
theorem use_str {x : Str} (C : Tell w n f vs pre (fun r _ _ => ∃ t, r = .str x t)) (hh : A.handled = none) (hdp : A.depth ≤ n) (hu : A.units ≤ n) (F : Fr h₀ L s.heap m) (N : News h₀ L s.heap news) (K : (hd.heap_39 w.params).In h₀) (T : Top hd.view_39 loose mean mg mb h₀) (hp : pre s.heap)
    (h : ∀ t h' tk', Fr h₀ L h' m → News h₀ L h' news → Q (.str x t) { s with heap := h', toks := tk' }) : wpAny (model PySem.Challenge.rw_bg0019_01.row.prog w) A (call (.ref f) vs) Q E s :=
  C loose mean mg mb A s Q E hh hdp hu (K.keeps F.keep) (T.keeps F.keep) hp fun r h' tk' k ⟨t, e⟩ => e ▸ h t h' tk' (F.keeps k) (N.grown k)
theorem use_ints {ns : List Int} (C : Tell w n f vs pre (NewInts ns)) (hh : A.handled = none) (hdp : A.depth ≤ n) (hu : A.units ≤ n) (F : Fr h₀ L s.heap m) (N : News h₀ L s.heap news) (K : (hd.heap_39 w.params).In h₀) (T : Top hd.view_39 loose mean mg mb h₀) (hp : pre s.heap)
    (h : ∀ a us k h' tk', Fr h₀ L h' m → News h₀ L h' ((a, W.listOf (List.toArray us) k) :: news) → LCg.Off1 a news → IntsAre us ns → Q (.ref a) { s with heap := h', toks := tk' }) : wpAny (model PySem.Challenge.rw_bg0019_01.row.prog w) A (call (.ref f) vs) Q E s :=
  C loose mean mg mb A s Q E hh hdp hu (K.keeps F.keep) (T.keeps F.keep) hp fun r h' tk' k ⟨a, us, j, e, hn, hg, hi⟩ => by
    subst e
    have off : ∀ p ∈ news, p.1 ≠ a := fun p hp e => by have := (N p hp).1; rw [e, hn] at this; cases this
    refine h a us j h' tk' (F.keeps k) (fun p hp => ?_) ?_ hi
    · rcases List.mem_cons.mp hp with rfl | hp
      · refine ⟨hg, fun e => ?_, ?_⟩
        · obtain ⟨o, _, _, ho, _⟩ := F.ns
          have e' : a = L := e
          rw [e', ho] at hn; cases hn
        · cases hq : h₀.get? a with
          | none => rfl
          | some o => rw [F.keep _ _ hq] at hn; cases hn
      · exact (N.grown k) p hp
    · have : ∀ (l : Led), (∀ p ∈ l, p.1 ≠ a) → LCg.Off1 a l := fun l => by
        induction l with
        | nil => exact fun _ => trivial
        | cons p r ih => exact fun x => ⟨x p (List.mem_cons_self ..), ih fun q hq => x q (List.mem_cons_of_mem _ hq)⟩
      exact this _ off
end
end Mine

namespace Mine
open PySem PySem.W PyProof.Rows PySem.Calls
set_option maxRecDepth 100000
theorem hrpI_length (x : Str) : (hrpI x).length = 2 * x.cps.size + 1 := by
  unfold hrpI
  simp only [List.length_append, List.length_map, List.length_cons, List.length_nil, Array.length_toList]
  omega
def crI (x : Str) (ns : List Int) : List Int := (List.range 6).map fun i : Nat => Builtin.bitAnd ((Builtin.bitXor (pm (hrpI x ++ ns ++ [0, 0, 0, 0, 0, 0])) 1).fdiv (2 ^ (5 * (5 - (i : Int))).toNat)) 31
local macro_rules | `(tactic| walk_at "eval ListComp") => `(tactic| (k_here; refine Halt.out ?_))
local macro_rules | `(tactic| walk_at "call ref") => `(tactic| (k_here; k_dflt (refine' use_int (c_polymod _ _ _ _) rfl (Nat.le_of_ble_eq_true rfl) (Nat.le_of_ble_eq_true rfl) ?F ?N ?K ?T ⟨?l, ?i, ?z⟩ ?_; (case F => k_asm); (case N => k_asm); (case K => k_asm); (case T => k_asm); (case l => is_list); (case i => l_ints); (case z => l_fit)); intro t' h' tk' F' N'; (try k_unmd); (try k_fold)))
local macro_rules | `(tactic| walk_at "call ref") => `(tactic| (k_here; k_dflt (refine' use_ints (c_hrp _ _ _) rfl (Nat.le_of_ble_eq_true rfl) (Nat.le_of_ble_eq_true rfl) ?F ?N ?K ?T ?z ?_; (case F => k_asm); (case N => k_asm); (case K => k_asm); (case T => k_asm); (case z => assumption)); intro a' us' k' h' tk' F' N' o1' hI'; (try simp only [LCg.Off1, and_true] at o1'); (try k_unmd); (try k_fold)))
local macro_rules | `(tactic| walk_at "CompSrc") => `(tactic| (k_here; refine Halt.out ?_))
set_option maxHeartbeats 8000000 in
theorem c_create (w : World) (x : Str) (t : Tok) (l : Addr) (vs : List Value) (ns : List Int) : Tell w 500 38 [.str x t, .ref l] (fun h => x.length ≤ 10 ∧ h.IsList l vs.toArray ∧ IntsAre vs ns ∧ ns.length ≤ 20) (NewInts (crI x ns)) := by
  w_top off
  intro loose mean mg mb A s Q E hh hd hu K T hpre ret
  obtain ⟨hx, hl, hi, hn⟩ := hpre
  replace hx : x.cps.size ≤ 10 := hx
  have hxl := hrpI_length x
  refine lift_A hh hd hu ?_
  clear hd hu hh
  revert K; k_fill; intro K
  k_dflt (refine enter1 (binds := [(Str.ofString "hrp", .str x t), (Str.ofString "data", .ref l)]) K T (by k_is) (by k_is) (by decide) (BindsTo.of_eq rfl) rfl (by decide +kernel) ?_ rfl rfl rfl)
  intro L' h0 tk0 cells kS F0 N0 Y0
  obtain ⟨o', hE', d1'⟩ := CellsAre.one Y0
  subst hE'
  clear Y0
  k_fold
  k_steps
  refine Halt.mk ?_
  rename_i d4 F4 N4 d5
  refine LCg.ListComp_U F4 (by with_unfolding_all rfl) (by decide) rfl (by decide) rfl ?_
  k_steps
  refine Halt.mk ?_
  rename_i hR FR NR kR
  refine LCg.CompSrc.range (n := 6) rfl FR NR hR (by decide) (by decide) (by decide) (fun g => ?_)
  refine comp_ints (n := 6) (fun i : Nat => Builtin.bitAnd ((Builtin.bitXor (pm (hrpI x ++ ns ++ [0, 0, 0, 0, 0, 0])) 1).fdiv (2 ^ (5 * (5 - (i : Int))).toNat)) 31) trivial ?_ ?_
  · intro i v I oI C oC D m₂ ys h tk E' hi hv hC hx F N off ne
    obtain ⟨u, rfl⟩ := hv
    rw [Int.zero_add] at hx
    k_unmd
    k_fold
    k_steps
    all_goals assumption
  intro ys hys D h3 tk3 F3 N3 o3
  dsimp only
  k_unfold
  exact ret _ _ _ F3.keep ⟨D, ys, ys.length, rfl, (N3 _ (List.mem_cons_self ..)).2.2, (N3 _ (List.mem_cons_self ..)).1, hys⟩
set_option maxHeartbeats 8000000 in
theorem c_verify (w : World) (x : Str) (t : Tok) (l : Addr) (vs : List Value) (ns : List Int) : Tell w 500 33 [.str x t, .ref l] (fun h => x.length ≤ 10 ∧ h.IsList l vs.toArray ∧ IntsAre vs ns ∧ ns.length ≤ 30) (fun r _ _ => r = .bool (pm (hrpI x ++ ns) == 1)) := by
  w_top off
  intro loose mean mg mb A s Q E hh hd hu K T hpre ret
  obtain ⟨hx, hl, hi, hn⟩ := hpre
  replace hx : x.cps.size ≤ 10 := hx
  have hxl := hrpI_length x
  refine lift_A hh hd hu ?_
  clear hd hu hh
  revert K; k_fill; intro K
  k_dflt (refine enter0 (binds := [(Str.ofString "hrp", .str x t), (Str.ofString "data", .ref l)]) K T (by k_is) (by k_is) (by decide) (BindsTo.of_eq rfl) (locs rfl) ?_ rfl rfl rfl (by decide))
  intro L' h0 tk0 kS F0 N0
  k_fold
  k_steps
  rename_i F4 N4
  exact ret _ _ _ F4.keep rfl
end Mine

namespace Mine
open PySem PySem.W PyProof.Rows PySem.Calls
set_option maxRecDepth 100000
local macro_rules | `(tactic| walk_at "eval ListComp") => `(tactic| (k_here; refine Halt.out ?_))
local macro_rules | `(tactic| walk_at "CompSrc") => `(tactic| (k_here; refine Halt.out ?_))
local macro_rules | `(tactic| walk_at "call builtin:str.join") => `(tactic| (k_here; refine Halt.out ?_))
set_option maxHeartbeats 8000000 in
theorem c_name (w : World) (l : Addr) (vs : List Value) (ns : List Int) : Tell w 500 50 [.ref l] (fun h => h.IsList l vs.toArray ∧ IntsAre vs ns ∧ ns.length ≤ 100) (fun r _ _ => ∃ x t, r = .str x t ∧ x.length ≤ 4) := by
  w_top off
  intro loose mean mg mb A s Q E hh hd hu K T hpre ret
  obtain ⟨hl, hi, hn⟩ := hpre
  refine lift_A hh hd hu ?_
  clear hd hu hh
  revert K; k_fill; intro K
  k_dflt (refine enter0 (binds := [(Str.ofString "script", .ref l)]) K T (by k_is) (by k_is) (by decide) (BindsTo.of_eq rfl) (locs rfl) ?_ rfl rfl rfl (by decide))
  intro L' h0 tk0 kS F0 N0
  k_fold
  k_steps
  refine Halt.mk ?_
  refine LCg.ListComp_U F0 (by with_unfolding_all rfl) (by decide) rfl (by decide) rfl ?_
  k_steps
  refine Halt.mk ?_
  rename_i D us h4 F4 N4 hI4 hC4 hL4 l4
  have hul : us.length ≤ 3 := by rw [IntsAre.length hI4, hC4]; omega
  refine LCg.CompSrc.ledger rfl F4 N4 (List.mem_cons_self ..) (by rw [List.size_toArray]; exact Nat.le_trans hul (by decide)) (fun g => ?_)
  refine comp_ones (.inr ⟨_, List.mem_cons_self .., rfl, _, rfl⟩) ?_ ?_
  · intro i v I oI C oC D m₂ ys h tk E' hi' hv hC hx F N off ne
    obtain ⟨k, u, hk, rfl⟩ : ∃ k u, us[i]? = some (.int k u) ∧ v = .int k u := by
      obtain ⟨k, u, rfl, hk⟩ := IntsAre.at hI4 i v (by simpa using hv)
      exact ⟨k, u, by simpa using hv, rfl⟩
    k_unmd
    k_fold
    k_steps
    all_goals assumption
  intro ys gs hys hgl hg1 D5 h5 tk5 F5 N5 o5
  have hgl' : gs.length ≤ 3 := by rw [hgl, List.size_toArray]; exact hul
  k_steps
  refine Halt.mk ?_
  refine W.KT.join_1 (l := gs) (g := fun a => a) (News.isList N5 (List.mem_cons_self ..)) hys.carried hg1 (by omega) (fun t' k hlen => ?_)
  k_steps
  rename_i hle
  have hb : (Str.ofString "b").length = 1 := by decide +kernel
  have h4 : (Txt.join (Str.ofString "") (List.map (fun a => a) gs) ++ Str.ofString "b").length ≤ 4 := by have := hle.2; omega
  exact ret _ _ _ F5.keep ⟨_, _, rfl, h4⟩
end Mine

namespace Mine
open PySem PySem.W PyProof.Rows PySem.Calls
set_option maxRecDepth 100000
section
variable {w : World} {loose : List Str} {mean : ExcName → Option Value} {mg mb : Str → Option Value} {A : Around} {s : Shared} {Q E : Value → Shared → Prop} {n : Nat} {f : Addr} {vs : List Value} {pre pre' : Heap → Prop} {h₀ : Heap} {L : Addr} {m : Str → Option Value} {news : Led}
theorem Tell.weaken {post : Value → Heap → Heap → Prop} (C : Tell w n f vs pre post) (h : ∀ g, pre' g → pre g) : Tell w n f vs pre' post :=
  fun loose mean mg mb A s Q E hh hdp hu K T hp ret => C loose mean mg mb A s Q E hh hdp hu K T (h _ hp) ret
/-- the row at a, of m ints -/
abbrev RowIn (h : Heap) (a : Addr) (va : List Value) (na : List Int) (m : Nat) : Prop := h.IsList a va.toArray ∧ IntsAre va na ∧ na.length = m
theorem c_sum2 (w : World) (l a b : Addr) (va vb : List Value) (na nb : List Int) (m : Nat) : Tell w 600 57 [.ref l] (fun h => h.IsList l #[Value.ref a, Value.ref b] ∧ RowIn h a va na m ∧ RowIn h b vb nb m ∧ m ≤ 60) (NewInts (sumI [na, nb] m)) :=
  (c_sum w l [(a, va, na), (b, vb, nb)] m).weaken fun g hp => ⟨hp.1, fun p hp' => by
    simp only [List.mem_cons, List.not_mem_nil, or_false] at hp'
    rcases hp' with rfl | rfl
    · exact hp.2.1
    · exact hp.2.2.1, by simp, hp.2.2.2⟩
theorem c_sum3 (w : World) (l a b c : Addr) (va vb vc : List Value) (na nb nc : List Int) (m : Nat) : Tell w 600 57 [.ref l] (fun h => h.IsList l #[Value.ref a, Value.ref b, Value.ref c] ∧ RowIn h a va na m ∧ RowIn h b vb nb m ∧ RowIn h c vc nc m ∧ m ≤ 60) (NewInts (sumI [na, nb, nc] m)) :=
  (c_sum w l [(a, va, na), (b, vb, nb), (c, vc, nc)] m).weaken fun g hp => ⟨hp.1, fun p hp' => by
    simp only [List.mem_cons, List.not_mem_nil, or_false] at hp'
    rcases hp' with rfl | rfl | rfl
    · exact hp.2.1
    · exact hp.2.2.1
    · exact hp.2.2.2.1, by simp, hp.2.2.2.2⟩
theorem c_sum4 (w : World) (l a b c d : Addr) (va vb vc vd : List Value) (na nb nc nd : List Int) (m : Nat) : Tell w 600 57 [.ref l] (fun h => h.IsList l #[Value.ref a, Value.ref b, Value.ref c, Value.ref d] ∧ RowIn h a va na m ∧ RowIn h b vb nb m ∧ RowIn h c vc nc m ∧ RowIn h d vd nd m ∧ m ≤ 60) (NewInts (sumI [na, nb, nc, nd] m)) :=
  (c_sum w l [(a, va, na), (b, vb, nb), (c, vc, nc), (d, vd, nd)] m).weaken fun g hp => ⟨hp.1, fun p hp' => by
    simp only [List.mem_cons, List.not_mem_nil, or_false] at hp'
    rcases hp' with rfl | rfl | rfl | rfl
    · exact hp.2.1
    · exact hp.2.2.1
    · exact hp.2.2.2.1
    · exact hp.2.2.2.2.1, by simp, hp.2.2.2.2.2⟩
theorem use_name (C : Tell w n f vs pre (fun r _ _ => ∃ x t, r = .str x t ∧ x.length ≤ 4)) (hh : A.handled = none) (hdp : A.depth ≤ n) (hu : A.units ≤ n) (F : Fr h₀ L s.heap m) (N : News h₀ L s.heap news) (K : (hd.heap_39 w.params).In h₀) (T : Top hd.view_39 loose mean mg mb h₀) (hp : pre s.heap)
    (h : ∀ x t h' tk', Fr h₀ L h' m → News h₀ L h' news → x.length ≤ 4 → Q (.str x t) { s with heap := h', toks := tk' }) : wpAny (model PySem.Challenge.rw_bg0019_01.row.prog w) A (call (.ref f) vs) Q E s :=
  C loose mean mg mb A s Q E hh hdp hu (K.keeps F.keep) (T.keeps F.keep) hp fun _ h' tk' k ⟨x, t, e, hx⟩ => e ▸ h x t h' tk' (F.keeps k) (N.grown k) hx
end
end Mine

namespace Mine
open PySem PySem.W PyProof.Rows PySem.Calls PyProof.Rows.LCg
set_option maxRecDepth 100000
/-- the turns that are left, where the block's own name is a cell at c -/
def RestK (prog : Program) (w : World) (A : Around) (h₀ : Heap) (L : Addr) (m : Str → Option Value) (env : Env) (elt : Expr) (x : Str) (scope : Scope) (cl : List (Str × Addr)) (s : Shared) (a : Int) (Fin : List Value → Led → Prop) : Nat → Nat → List Value → Led → Prop
  | 0, _, ys, news => Fin ys news
  | k + 1, i, ys, news => ∀ t I oI C oC c oc D h tk (E' : Value → Shared → Prop), oc.data = .cell (some (.int (a + (i : Int)) t)) → Fr h₀ L h m → News h₀ L h ((I, oI) :: (C, oC) :: (c, oc) :: (D, lst ys) :: news) → Off3 I C D news → Off1 c news → ((@Ne Nat I C) ∧ (@Ne Nat I D) ∧ (@Ne Nat C D) ∧ (@Ne Nat I c) ∧ (@Ne Nat C c) ∧ (@Ne Nat c D)) →
      wpAny (model prog w) A (eval elt (compEnvC scope ((x, c) :: cl) C env)) (fun y s₂ => ∃ h' tk' news', s₂ = { s with heap := h', toks := tk' } ∧ Fr h₀ L h' m ∧ News h₀ L h' ((I, oI) :: (C, oC) :: (c, oc) :: (D, lst ys) :: news') ∧ Off3 I C D news' ∧ Off1 c news' ∧
        RestK prog w A h₀ L m env elt x scope cl s a Fin k (i + 1) (ys ++ [y]) news') E' { s with heap := h, toks := tk }
theorem off1_of {c : Addr} : ∀ {l : Led}, (∀ p ∈ l, p.1 ≠ c) → Off1 c l
  | [], _ => trivial
  | _ :: _, h => ⟨h _ List.mem_cons_self, off1_of fun p hp => h p (List.mem_cons_of_mem _ hp)⟩
theorem off1_mem {c : Addr} : ∀ {l : Led}, Off1 c l → ∀ p ∈ l, p.1 ≠ c
  | [], _, _, hp => nomatch hp
  | _ :: _, h, p, hp => by
    rcases List.mem_cons.mp hp with rfl | hp
    · exact h.1
    · exact off1_mem h.2 p hp
section
variable {prog : Program} {w : World} {A : Around} {E : Value → Shared → Prop} {s : Shared} {h₀ : Heap} {L : Addr} {m : Str → Option Value} {env : Env}
theorem rows_block {elt iter : Expr} {x : Str} {px : Pos} {scope : Scope} {cl : List (Str × Addr)} {pos : Pos} {s₂ : Shared} {I : Addr} {n : Nat} {a : Int} {news : Led} {Fin : List Value → Led → Prop} {RR : Value → Addr → Result → Shared → Prop}
    (hh : A.handled = none) (hsz : n ≤ sizeLine) (hxk : ∀ c C, (compEnvC scope ((x, c) :: cl) C env).kindOf x = some .cell) (hkind : scope.kind = .function)
    (hcf : ∀ k, cellsFrom k scope.names cl = (x, k) :: cl) (hpc : ∀ h, pushCells h scope.names = h.push { cls := .type "cell", data := .cell none })
    (hst : IsRangeIter s₂.heap I a n 1) (F : Fr h₀ L s₂.heap m) (N : News h₀ L s₂.heap news) (hIL : L ≠ I) (hI₀ : h₀.get? I = none) (off : ∀ p ∈ news, p.1 ≠ I)
    (R : RestK prog w A h₀ L m env elt x scope cl s₂ a Fin n 0 [] news)
    (hRR : ∀ D C h tk m' ys news', Fr h₀ L h m → News h₀ L h ((D, lst ys) :: news') → Off1 D news' → h.Ns C m' → h₀.get? C = none → h₀.get? D = none → C ≠ L → D ≠ L → C ≠ D → (∀ p ∈ news', p.1 ≠ C) → Fin ys news' → RR (.ref D) C (.ok .next) { s₂ with heap := h, toks := tk }) :
    wpAny (model prog w) A (newList []) (fun acc s₃ => wpAny (model prog w) A (newFunctionEnv scope env.globals cl [] env.qual none .none (some env)) (fun cenv s₄ =>
      codeAny (model prog w) A (.compStart (.ListComp elt [⟨.Name x px, iter, [], 0⟩] scope pos) 0 (.ref I) acc { cenv with scope := relabel scope env }) (RR acc cenv.locals) s₄) E s₃) E s₂ := by
  refine wpAny_newObj_type ?_
  generalize hH1 : s₂.heap.push { cls := .type "list", dict := none, data := .seq ([] : List Value).toArray } = H1
  have hD1 : H1.objs.size = s₂.heap.objs.size + 1 := by rw [← hH1, Heap.size_push]
  simp only [newFunctionEnv, Option.isSome_some, if_true]
  refine wpAny_bind (wpAny_alloc ?_)
  generalize hH2 : H1.push { cls := .type "dict", data := .dict #[] } = H2
  have hC1 : H2.objs.size = s₂.heap.objs.size + 2 := by rw [← hH2, Heap.size_push, hD1]
  refine wpAny_bind (wpAny_layCells _ (fun _ kind _ => by cases kind == NameKind.cell <;> simp) _ _ _ _ ?_)
  rw [hcf, hpc]
  dsimp only
  rw [List.forIn_nil]
  refine wpAny_bind (wpAny_pure (wpAny_pure ?_))
  generalize hH3 : H2.push { cls := .type "cell", data := .cell none } = H3
  -- the three new places
  have old1 : ∀ b o, s₂.heap.get? b = some o → H1.get? b = some o := fun b o e => hH1 ▸ Heap.get?_push_of_some _ e
  have old2 : ∀ b o, H1.get? b = some o → H2.get? b = some o := fun b o e => hH2 ▸ Heap.get?_push_of_some _ e
  have old3 : ∀ b o, H2.get? b = some o → H3.get? b = some o := fun b o e => hH3 ▸ Heap.get?_push_of_some _ e
  have old : ∀ b o, s₂.heap.get? b = some o → H3.get? b = some o := fun b o e => old3 b o (old2 b o (old1 b o e))
  have gD : H3.get? s₂.heap.objs.size = some (lst []) := old3 _ _ (old2 _ _ (by rw [← hH1]; exact Heap.get?_push_size _ rfl))
  have gC : H3.Ns H1.objs.size (fun _ => none) := by
    have : H2.Ns H1.objs.size (fun _ => none) := by rw [← hH2]; exact Heap.Ns.new H1 (.type "dict")
    exact this.at' fun o e => old3 _ _ e
  have gc : H3.IsCell H2.objs.size none := ⟨_, by rw [← hH3]; exact Heap.get?_push_size _ rfl, rfl⟩
  have fresh₀ : ∀ b, s₂.heap.objs.size ≤ b → h₀.get? b = none := fun b hb => by
    cases e : h₀.get? b with
    | none => rfl
    | some o' => exact absurd (Heap.lt_size (F.keep b o' e)) (Nat.not_lt.mpr hb)
  have hLlt : L < s₂.heap.objs.size := F.ns.lt
  have hIlt : I < s₂.heap.objs.size := Heap.lt_size hst
  generalize hDn : s₂.heap.objs.size = D at *
  generalize hCn : H1.objs.size = C at *
  generalize hcn : H2.objs.size = c at *
  have hD₀ : h₀.get? D = none := fresh₀ D (Nat.le_refl _)
  have hC₀ : h₀.get? C = none := fresh₀ C (by rw [hD1]; exact Nat.le_add_right _ _)
  have hc₀ : h₀.get? c = none := fresh₀ c (by rw [hC1]; exact Nat.le_add_right _ _)
  have nDL : D ≠ L := Nat.ne_of_gt hLlt
  have nCL : C ≠ L := by rw [hD1]; exact Nat.ne_of_gt (Nat.lt_of_lt_of_le hLlt (Nat.le_add_right _ _))
  have ncL : c ≠ L := by rw [hC1]; exact Nat.ne_of_gt (Nat.lt_of_lt_of_le hLlt (Nat.le_add_right _ _))
  have nIC : I ≠ C := by rw [hD1]; exact Nat.ne_of_lt (Nat.lt_of_lt_of_le hIlt (Nat.le_add_right _ _))
  have nID : I ≠ D := Nat.ne_of_lt hIlt
  have nIc : I ≠ c := by rw [hC1]; exact Nat.ne_of_lt (Nat.lt_of_lt_of_le hIlt (Nat.le_add_right _ _))
  have nCD : C ≠ D := by rw [hD1]; exact Nat.succ_ne_self D
  have ncD : c ≠ D := by rw [hC1]; exact Nat.ne_of_gt (Nat.lt_add_of_pos_right (by decide))
  have nCc : C ≠ c := by rw [hD1, hC1]; exact Nat.ne_of_lt (Nat.lt_succ_self _)
  have lowN : ∀ p ∈ news, p.1 < D := fun p hp => hDn ▸ Heap.lt_size (N p hp).1
  have offD : ∀ p ∈ news, p.1 ≠ D := fun p hp => Nat.ne_of_lt (lowN p hp)
  have offC : ∀ p ∈ news, p.1 ≠ C := fun p hp => by rw [hD1]; exact Nat.ne_of_lt (Nat.lt_of_lt_of_le (lowN p hp) (Nat.le_add_right _ _))
  have offc : ∀ p ∈ news, p.1 ≠ c := fun p hp => by rw [hC1]; exact Nat.ne_of_lt (Nat.lt_of_lt_of_le (lowN p hp) (Nat.le_add_right _ _))
  have W := range_walks (prog := prog) (w := w) (A := A) (I := I) hh a n
  have loop : ∀ s₃ : Shared, (∃ tk, s₃ = { s₂ with heap := H3, toks := tk }) →
      codeAny (model prog w) A (.compLoop (.ListComp elt [⟨.Name x px, iter, [], 0⟩] scope pos) 0 (.ref I) (.ref D) (compEnvC scope ((x, c) :: cl) C env)) (RR (.ref D) C) s₃ := by
    rintro s₃ ⟨tk₃, rfl⟩
    refine codeAny_compLoop_tests
      (fun k s' => ∃ h' tk i ys m' u news', s' = { s₂ with heap := h', toks := tk } ∧ i ≤ n ∧ k = n + 1 - i ∧ ys.length = i ∧ IsRangeIter h' I (a + (i : Nat) * 1) ((n : Int) - (i : Nat)) 1 ∧ Fr h₀ L h' m ∧ h'.Ns C m' ∧ h'.IsCell c u ∧ News h₀ L h' ((D, lst ys) :: news') ∧
        Off3 I C D news' ∧ Off1 c news' ∧ RestK prog w A h₀ L m env elt x scope cl s₂ a Fin (n - i) i ys news') ?_ (n + 1)
      ⟨H3, _, 0, [], _, none, news, rfl, Nat.zero_le _, rfl, rfl, by simpa using old _ _ hst, F.keeps old, gC, gc, ?_, Off3.of fun p hp => ⟨off p hp, offC p hp, offD p hp⟩, off1_of offc, R⟩
    · rintro k s' ⟨h', tk, i, ys, m', u, news', rfl, hi, rfl, hyl, hst', F', hn', hc', N', off', offc', R'⟩
      have off3 := off'.mem
      have off4 := off1_mem offc'
      by_cases hlt : i < n
      · obtain ⟨j, hj⟩ : ∃ j, n - i = j + 1 := ⟨n - i - 1, by omega⟩
        rw [hj] at R'
        refine W.item i _ _ _ hlt hst' fun v h₂ tk₂ hPv hst₂ hk₂ => ?_
        obtain ⟨t, rfl⟩ := hPv
        have k₂ : ∀ b o, b ≠ I → h'.get? b = some o → h₂.get? b = some o := fun b o hb e => hk₂ b o (by simpa using hb) e
        obtain ⟨oc₀, hoc₀, hoc₁⟩ := hc'
        refine wpAny_assign_Name (wpAny_storeName_cell hkind (hxk c C) (by simp [compEnvC]) (v₀ := u) ⟨oc₀, k₂ _ _ (Ne.symm nIc) hoc₀, hoc₁⟩ fun h₃ hc₃ hs₃ => ?_)
        refine wpAny_tests_nil ?_
        simp only [if_true]
        obtain ⟨oc, hoc, hocd⟩ := hc₃
        have k₃ : ∀ b o, b ≠ c → h₂.get? b = some o → h₃.get? b = some o := fun b o hb e => hs₃.extBut b o hb e
        have hst₃ : IsRangeIter h₃ I (a + ((i + 1 : Nat) : Nat) * 1) ((n : Int) - ((i + 1 : Nat) : Nat)) 1 := k₃ _ _ nIc hst₂
        obtain ⟨oC, heC, hoC⟩ := ns_obj hn'
        have F₂ : Fr h₀ L h₂ m := fr_but F' hk₂ hIL hI₀
        have F₃ : Fr h₀ L h₃ m := F₂.change hs₃ ncL hc₀
        have N₃ : News h₀ L h₃ ((I, _) :: (C, oC) :: (c, oc) :: (D, lst ys) :: news') := fun p hp => by
          rcases List.mem_cons.mp hp with rfl | hp
          · exact ⟨hst₃, Ne.symm hIL, hI₀⟩
          rcases List.mem_cons.mp hp with rfl | hp
          · exact ⟨k₃ _ _ nCc (k₂ _ _ (Ne.symm nIC) heC), nCL, hC₀⟩
          rcases List.mem_cons.mp hp with rfl | hp
          · exact ⟨hoc, ncL, hc₀⟩
          have z := N' p hp
          have n1 : p.1 ≠ I ∧ p.1 ≠ c := by
            rcases List.mem_cons.mp hp with rfl | hp
            · exact ⟨Ne.symm nID, Ne.symm ncD⟩
            · exact ⟨(off3 p hp).1, off4 p hp⟩
          exact ⟨k₃ _ _ n1.2 (k₂ _ _ n1.1 z.1), z.2⟩
        refine wpAny_mono (R' t I _ C oC c oc D h₃ _ _ hocd F₃ N₃ off' offc' ⟨nIC, nID, nCD, nIc, nCc, ncD⟩) (fun y s₄ h₄ => ?_) fun _ _ e => e
        obtain ⟨h₄, tk₄, news₄, rfl, F₄, N₄, off₄, offc₄, R₄⟩ := h₄
        have zI := (N₄ _ List.mem_cons_self).1
        have zC := (N₄ _ (List.mem_cons_of_mem _ List.mem_cons_self)).1
        have zc := (N₄ _ (List.mem_cons_of_mem _ (List.mem_cons_of_mem _ List.mem_cons_self))).1
        have zD := (N₄ _ (List.mem_cons_of_mem _ (List.mem_cons_of_mem _ (List.mem_cons_of_mem _ List.mem_cons_self)))).1
        have N₄' : News h₀ L h₄ news₄ := fun p hp => N₄ p (List.mem_cons_of_mem _ (List.mem_cons_of_mem _ (List.mem_cons_of_mem _ (List.mem_cons_of_mem _ hp))))
        refine append_at (hsz := by show ys.toArray.size ≤ sizeLine; rw [List.size_toArray, hyl]; exact Nat.le_trans hi hsz) zD fun h₅ hs₅ hD₅ => ?_
        have k₅ : ∀ b o, b ≠ D → h₄.get? b = some o → h₅.get? b = some o := fun b o hb e => hs₅.extBut b o hb e
        refine ⟨n + 1 - (i + 1), by omega, h₅, tk₄, i + 1, ys ++ [y], m', _, news₄, rfl, hlt, rfl, by rw [List.length_append, List.length_singleton, hyl], k₅ _ _ nID zI, F₄.change hs₅ nDL hD₀,
          (hoC.ns zC).sameBut hs₅ nCD, ⟨oc, k₅ _ _ ncD zc, hocd⟩, fun p hp => ?_, off₄, offc₄, ?_⟩
        · rcases List.mem_cons.mp hp with rfl | hp
          · exact ⟨hD₅.trans (congrArg some (lst_snoc ys y)), nDL, hD₀⟩
          · exact ⟨k₅ _ _ (off₄.mem p hp).2.2 (N₄' p hp).1, (N₄' p hp).2⟩
        · rw [show n - (i + 1) = j by omega]
          exact R₄
      · obtain rfl : i = n := Nat.le_antisymm hi (Nat.not_lt.mp hlt)
        rw [Nat.sub_self] at R'
        refine W.done _ _ _ hst' fun h₂ tk₂ hk₂ => ?_
        exact hRR _ _ h₂ tk₂ _ ys news' (fr_but F' hk₂ hIL hI₀) (news_but N' hk₂ fun p hp => by
          rcases List.mem_cons.mp hp with rfl | hp
          · exact Ne.symm nID
          · exact (off3 p hp).1) off'.one (hn'.at' fun o e => hk₂ _ o (by simpa using Ne.symm nIC) e) hC₀ hD₀ nCL nDL nCD (fun p hp => (off3 p hp).2.1) R'
    · intro p hp
      rcases List.mem_cons.mp hp with rfl | hp
      · exact ⟨gD, nDL, hD₀⟩
      · exact ⟨old _ _ (N p hp).1, (N p hp).2⟩
  exact codeAny_compStart_list (loop _ ⟨_, rfl⟩) (W.self 0 _ _ _ (by simpa using old _ _ hst) (loop _ ⟨_, rfl⟩))

def SrcK (prog : Program) (w : World) (A : Around) (h₀ : Heap) (L : Addr) (m : Str → Option Value) (env : Env) (elt : Expr) (x : Str) (scope : Scope) (cl : List (Str × Addr)) (Fin : Shared → List Value → Led → Prop) (xv : Value) (s₁ : Shared) : Prop :=
  ∃ r a b t u v n news, xv = .ref r ∧ A.handled = none ∧ Fr h₀ L s₁.heap m ∧ News h₀ L s₁.heap news ∧ IsRange s₁.heap r a b 1 t u v ∧ Builtin.Range.small a b 1 = true ∧ Builtin.Range.rangeSize a b 1 = ((n : Nat) : Int) ∧ n ≤ sizeLine ∧
      ∀ s₂ : Shared, (∃ h, s₂ = { s₁ with heap := h }) → RestK prog w A h₀ L m env elt x scope cl s₂ a (Fin s₂) n 0 [] news

theorem Assign_rows {elt iter : Expr} {x y : Str} {px py : Pos} {scope : Scope} {cl : List (Str × Addr)} {pos spos : Pos} {Q : Flow → Shared → Prop} (_F₀ : Fr h₀ L s.heap m) (hLe : env.locals = L)
    (hsw : swapsWith (.ListComp elt [⟨.Name x px, iter, [], 0⟩] scope pos) (some (.Name y py)) spos.line env = pure true)
    (hclos : closureFor scope env = pure cl) (hkind : scope.kind = .function) (hnames : ∀ z ∈ scope.names, z.2 = .local → scope.names.lookup z.1 = some .local)
    (hxk : ∀ c C, (compEnvC scope ((x, c) :: cl) C env).kindOf x = some .cell)
    (hcf : ∀ k, cellsFrom k scope.names cl = (x, k) :: cl) (hpc : ∀ h, pushCells h scope.names = h.push { cls := .type "cell", data := .cell none })
    (hy : env.kindOf y = some .local) (hp : (env.scope.kind == .class || (env.scope.kind == .module && env.locals != env.globals)) = false)
    (h : wpAny (model prog w) A (eval iter env) (SrcK prog w A h₀ L m env elt x scope cl (fun s₂ => FinA h₀ L m s₂ y Q)) E s)
    (hs : ∀ x, foldedSetIterable iter env x = pure x := by intro _; rfl) :
    wpAny (model prog w) A (exec (.Assign [.Name y py] (.ListComp elt [⟨.Name x px, iter, [], 0⟩] scope pos) spos) env) Q E s := by
  subst hLe
  refine assign_comp hsw fun _ => wpAny_comprehension_free rfl hs hclos hkind hnames (wpAny_mono h (fun xv s₁ h₁ => ?_) fun _ _ e => e)
  obtain ⟨r, a, b, t, u, v, n, news, rfl, hh, F, N, hr, hsm, hn, hsz, R⟩ := h₁
  refine wpAny_pyIter_range hr hsm ?_
  refine rows_block hh hsz hxk hkind hcf hpc (by rw [← hn]; exact Heap.get?_push_size _ rfl)
    (F.keeps fun _ _ e => Heap.get?_push_of_some _ e) (N.grown fun _ _ e => Heap.get?_push_of_some _ e) (Nat.ne_of_lt F.ns.lt) (next_is_new F) (fun p hp => Nat.ne_of_lt (Heap.lt_size (N p hp).1)) (R _ ⟨_, rfl⟩) ?_
  exact fun D C _ _ _ _ _ F' N' o1 hn hC₀ _ hCL _ hCD offC fin => store_end hy hp F' N' hn hC₀ hCL hCD offC fun h tk F N => fin D h tk F N o1
end
end Mine

namespace Mine
open PySem PySem.W PyProof.Rows PySem.Calls
set_option maxRecDepth 100000
def lawParts : List Stmt × Scope := match PySem.Challenge.rw_bg0019_01.row.prog.main.body.getLast? with
  | some (.FunctionDef _ _ b _ _ _ sc _ _ _) => (b, sc)
  | _ => ([], PySem.Challenge.rw_bg0019_01.row.prog.main.scope)
/-- law's statements from the n-th on, in the frame at L -/
def lawRest (n : Nat) : List Stmt := lawParts.1.drop n
def lawEnv (L : Addr) : Env := envOfC (Str.ofString "law") lawParts.2 L 62 (.ref 61)
def up (l : List Nat) : List Int := l.map fun n : Nat => (n : Int)
/-- the plain facts of the checksums that law leans on: rows a, b, their sum c, noughts z -/
structure Good (x y : Str) (a b c z : List Nat) (sz : Nat) : Prop where
  la : (up a).length = sz
  lb : (up b).length = sz
  lc : (up c).length = sz
  lz : (up z).length = sz
  sum : sumI [up a, up b] sz = up c
  nought : List.replicate sz (0 : Int) = up z
  fa : sumI [crI x (up a), crI x (up z)] 6 = sumI [crI y (up a), crI y (up z)] 6
  fb : sumI [crI x (up b), crI x (up z)] 6 = sumI [crI y (up b), crI y (up z)] 6
  fc : sumI [crI x (up c), crI x (up z)] 6 = sumI [crI y (up c), crI y (up z)] 6
  fz : sumI [crI x (up z), crI x (up z)] 6 = sumI [crI y (up z), crI y (up z)] 6
  all : sumI [crI x (up a), crI x (up b), crI x (up c), crI x (up z)] 6 = [0, 0, 0, 0, 0, 0]
  va : (pm (hrpI x ++ (up a ++ crI x (up a))) == 1) = true
  vb : (pm (hrpI x ++ (up b ++ crI x (up b))) == 1) = true
  vc : (pm (hrpI x ++ (up c ++ crI x (up c))) == 1) = true
  vz : (pm (hrpI x ++ (up z ++ crI x (up z))) == 1) = true
  vabz : (pm (hrpI x ++ sumI [up a ++ crI x (up a), up b ++ crI x (up b), up z ++ crI x (up z)] (sz + 6)) == 1) = true
  vabc : (pm (hrpI x ++ sumI [up a ++ crI x (up a), up b ++ crI x (up b), up c ++ crI x (up c)] (sz + 6)) == 1) = true
  turned : ∀ p t : Int, 0 ≤ p → p < ((sz + 6 : Nat) : Int) → 1 ≤ t → t ≤ 31 → (pm (hrpI x ++ sumI [up a ++ crI x (up a), up b ++ crI x (up b), up c ++ crI x (up c), (List.range (sz + 6)).map fun k : Nat => if (k : Int) = p then t else 0] (sz + 6)) == 1) = false
theorem crI_length (x : Str) (l : List Int) : (crI x l).length = 6 := by unfold crI; rw [List.length_map, List.length_range]
theorem flat_zero (n : Nat) : (List.replicate ((n : Int)).toNat [(0 : Int)]).flatten = List.replicate n 0 := by
  rw [Int.toNat_natCast]
  induction n with
  | zero => rfl
  | succ n ih => rw [List.replicate_succ, List.flatten_cons, ih, List.replicate_succ]; rfl
theorem up_length (l : List Nat) : (up l).length = l.length := List.length_map _
theorem up_append (a b : List Nat) : up (a ++ b) = up a ++ up b := List.map_append
theorem news_sub {h₀ h : Heap} {L : Addr} {a b : Led} (N : News h₀ L h a) (k : ∀ p ∈ b, p ∈ a) : News h₀ L h b := fun p hp => N p (k p hp)
theorem news_drop2 {h₀ h : Heap} {L : Addr} {a b : Addr × Obj} {l : Led} (N : News h₀ L h (a :: b :: l)) : News h₀ L h (a :: l) := fun p hp => N p (by
  rcases List.mem_cons.mp hp with h | h
  · exact h ▸ List.mem_cons_self
  · exact List.mem_cons_of_mem _ (List.mem_cons_of_mem _ h))
theorem ne_cell {h₀ h : Heap} {L a c : Addr} {news : Led} {cls : Value} {d : Option Addr} {xs : Array Value} {n : Nat} {sl : Array (Option Value)} {q : Obj} {u : Option Value} (N : News h₀ L h news)
    (hm : (a, ({ cls := cls, dict := d, data := .seq xs n, slots := sl } : Obj)) ∈ news) (hc : (c, q) ∈ news) (hq : q.data = .cell u) : a ≠ c := by
  intro e
  have h1 := (N _ hm).1
  have h2 := (N _ hc).1
  dsimp only at h1 h2
  rw [e, h2] at h1
  have h3 := Option.some.inj h1
  rw [h3] at hq
  cases hq
end Mine

namespace Mine
open PySem PySem.W PyProof.Rows PySem.Calls
set_option maxRecDepth 100000
theorem datAll_ints {news : Led} : ∀ {vs : List Value} {ns : List Int}, IntsAre vs ns → W.DatAll news vs (ns.map W.Dat.int)
  | _, _, .nil => .nil
  | _, _, .cons n t r => .cons (.int n t) (datAll_ints r)
theorem ok_ints (ns : List Int) : W.kqdOk 8 (W.Dat.list (ns.map W.Dat.int)) = true := by
  simp [W.kqdOk]
section
variable {prog : Program} {w : World} {A : Around} {E : Value → Shared → Prop} {s : Shared} {h₀ : Heap} {L : Addr} {news : Led} {Q : Value → Shared → Prop}
theorem ne_four {x y a0 a1 a2 a3 b0 b1 b2 b3 : Addr} {k k' ka0 ka1 ka2 ka3 kb0 kb1 kb2 kb3 : Nat} {u0 u1 u2 u3 v0 v1 v2 v3 : List Value} {n0 n1 n2 n3 : List Int} (N : News h₀ L s.heap news)
    (mx : (x, W.listOf [Value.ref a0, .ref a1, .ref a2, .ref a3].toArray k) ∈ news) (my : (y, W.listOf [Value.ref b0, .ref b1, .ref b2, .ref b3].toArray k') ∈ news)
    (ha0 : (a0, W.listOf u0.toArray ka0) ∈ news) (ha1 : (a1, W.listOf u1.toArray ka1) ∈ news) (ha2 : (a2, W.listOf u2.toArray ka2) ∈ news) (ha3 : (a3, W.listOf u3.toArray ka3) ∈ news)
    (hb0 : (b0, W.listOf v0.toArray kb0) ∈ news) (hb1 : (b1, W.listOf v1.toArray kb1) ∈ news) (hb2 : (b2, W.listOf v2.toArray kb2) ∈ news) (hb3 : (b3, W.listOf v3.toArray kb3) ∈ news)
    (i0 : IntsAre u0 n0) (i1 : IntsAre u1 n1) (i2 : IntsAre u2 n2) (i3 : IntsAre u3 n3) (j0 : IntsAre v0 n0) (j1 : IntsAre v1 n1) (j2 : IntsAre v2 n2) (j3 : IntsAre v3 n3)
    (hu : A.units + 64 < cLine) (h : Q (.bool false) s) : wpAny (model prog w) A (compareOp .NotEq (.ref x) (.ref y)) Q E s := by
  have ok : ∀ d ∈ [W.Dat.list (n0.map W.Dat.int), W.Dat.list (n1.map W.Dat.int), W.Dat.list (n2.map W.Dat.int), W.Dat.list (n3.map W.Dat.int)], W.kqdOk 8 d = true := by
    intro d hd
    simp only [List.mem_cons, List.not_mem_nil, or_false] at hd
    rcases hd with rfl | rfl | rfl | rfl <;> exact ok_ints _
  refine W.kqd_ne N mx rfl rfl (.cons (.list ha0 (datAll_ints i0)) (.cons (.list ha1 (datAll_ints i1)) (.cons (.list ha2 (datAll_ints i2)) (.cons (.list ha3 (datAll_ints i3)) .nil)))) (fun _ h => h)
    my rfl rfl (.cons (.list hb0 (datAll_ints j0)) (.cons (.list hb1 (datAll_ints j1)) (.cons (.list hb2 (datAll_ints j2)) (.cons (.list hb3 (datAll_ints j3)) .nil)))) (fun _ h => h) ok ok hu ?_
  simpa using h
theorem comp_end0 {m : Str → Option Value} {I C D : Addr} {oI oC oD : Obj} {S : Led → Prop} {rest : Value → Led → Prop} {s₁ : Shared} {h' : Heap} {tk : Nat} {news : Led} {v : Value}
    (F : Fr h₀ L h' m) (N : News h₀ L h' ((I, oI) :: (C, oC) :: (D, oD) :: news)) (off : LCg.Off3 I C D news) (hS : S news) (r : rest v news) :
    LCg.CompEnd h₀ L m s₁ I oI C oC D oD S rest v { s₁ with heap := h', toks := tk } := ⟨h', tk, news, rfl, F, N, off, hS, r⟩
end
end Mine

namespace Mine
open PySem PySem.W PyProof.Rows PySem.Calls PyProof.Rows.LCg
set_option maxRecDepth 100000
/-- n pairs of lists, named by two lists of refs -/
def PairsOf (h : Heap) (n : Nat) (us vs : Nat → List Value) (xs ys : List Value) : Prop :=
  xs.length = n ∧ ys.length = n ∧ ∀ j, j < n → ∃ X Y k k', xs[j]? = some (.ref X) ∧ ys[j]? = some (.ref Y) ∧ h.get? X = some (W.listOf (us j).toArray k) ∧ h.get? Y = some (W.listOf (vs j).toArray k')
/-- the first i joined lists, above the place lo -/
def MadeOf (h : Heap) (lo : Nat) (i : Nat) (us vs : Nat → List Value) (zs : List Value) : Prop :=
  zs.length = i ∧ ∀ j, j < i → ∃ B k, zs[j]? = some (.ref B) ∧ lo < B ∧ h.get? B = some (W.listOf (us j ++ vs j).toArray k)
def SrcZ (h₀ : Heap) (L : Addr) (m : Str → Option Value) (y : Str) (n : Nat) (us vs : Nat → List Value) (Q : Flow → Shared → Prop) (xv : Value) (s₁ : Shared) : Prop :=
  ∃ (h00 : Heap) (Z TI TO I1 I2 l1 l2 : Addr) (xs ys : List Value), xv = .ref Z ∧ ZipApart Z TI TO I1 I2 l1 l2 ∧ Fr h₀ L h00 m ∧ (∀ c o, h00.get? c = some o → s₁.heap.get? c = some o) ∧
    (h00.objs.size ≤ Z ∧ h00.objs.size ≤ TI ∧ h00.objs.size ≤ TO ∧ h00.objs.size ≤ I1 ∧ h00.objs.size ≤ I2) ∧
    IsZip s₁.heap Z TI TO .none ∧ IsPair s₁.heap TI (.ref I1) (.ref I2) ∧ (∃ a b, IsPair s₁.heap TO a b) ∧ s₁.heap.IsListIter I1 l1 0 ∧ s₁.heap.IsListIter I2 l2 0 ∧ h00.IsList l1 xs.toArray ∧ h00.IsList l2 ys.toArray ∧
    PairsOf h00 n us vs xs ys ∧ n ≤ sizeLine ∧ (∀ j, j < n → (us j).length + (vs j).length ≤ sizeLine) ∧
    ∀ D zs h' tk, Fr h₀ L h' (fun z => if z = y then some (.ref D) else m z) → (∀ c o, c ≠ L → h00.get? c = some o → h'.get? c = some o) → h00.objs.size ≤ D → h'.get? D = some (lst zs) → MadeOf h' D n us vs zs → Q .next { s₁ with heap := h', toks := tk }
theorem natne {a b : Addr} (h : ¬ ((a : Nat) = (b : Nat))) : a ≠ b := h
section
variable {prog : Program} {w : World} {A : Around} {E : Value → Shared → Prop} {s : Shared} {h₀ : Heap} {L : Addr} {m : Str → Option Value} {env : Env}
theorem Assign_zip {iter : Expr} {a b y : Str} {pa pb tp py pl pr bp : Pos} {kk : Nat} {scope : Scope} {cl : List (Str × Addr)} {pos spos : Pos} {Q : Flow → Shared → Prop} {n : Nat} {us vs : Nat → List Value} (_F₀ : Fr h₀ L s.heap m) (hLe : env.locals = L) (hh : A.handled = none)
    (hsw : swapsWith (.ListComp (.BinOp (.Name a pl) .Add (.Name b pr) bp) [⟨.Tuple [.Name a pa, .Name b pb] kk tp, iter, [], 0⟩] scope pos) (some (.Name y py)) spos.line env = pure true)
    (hclos : closureFor scope env = pure cl) (hcell : ∀ y ∈ scope.names, y.2 ≠ .cell) (hkind : scope.kind = .function) (hnames : ∀ z ∈ scope.names, z.2 = .local → scope.names.lookup z.1 = some .local)
    (hxa : scope.names.lookup a = some .local) (hxb : scope.names.lookup b = some .local) (hab : ¬ a = b) (hda : (a == ("__debug__" : Str)) = false) (hdb : (b == ("__debug__" : Str)) = false)
    (hy : env.kindOf y = some .local) (hp : (env.scope.kind == .class || (env.scope.kind == .module && env.locals != env.globals)) = false)
    (h : wpAny (model prog w) A (eval iter env) (SrcZ h₀ L m y n us vs Q) E s)
    (hs : ∀ x, foldedSetIterable iter env x = pure x := by intro _; rfl) :
    wpAny (model prog w) A (exec (.Assign [.Name y py] (.ListComp (.BinOp (.Name a pl) .Add (.Name b pr) bp) [⟨.Tuple [.Name a pa, .Name b pb] kk tp, iter, [], 0⟩] scope pos) spos) env) Q E s := by
  subst hLe
  refine assign_comp hsw fun _ => wpAny_comprehension_free rfl hs hclos hkind hnames (wpAny_mono h (fun xv s₁ h₁ => ?_) fun _ _ e => e)
  obtain ⟨h00, Z, TI, TO, I1, I2, l1, l2, xs, ys, rfl, DZ, F, up₁, ⟨gZ, gTI, gTO, gI1, gI2⟩, hz, hTI, hTO, hi1, hi2, hl1, hl2, ⟨hxl, hyl, hP⟩, hn16, hsz, fin⟩ := h₁
  refine wpAny_pyIter_zip hz ?_
  refine wpAny_newObj_type (wpAny_newFunctionEnv hcell (by intro y hy; simp at hy) (fun h₁ hns₁ hsb₁ => ?_) hkind)
  dsimp only at hns₁ hsb₁ ⊢
  generalize hH2 : s₁.heap.push { cls := .type "list", dict := none, data := .seq ([] : List Value).toArray } = H2 at hns₁ hsb₁ ⊢
  have hC : H2.objs.size = s₁.heap.objs.size + 1 := by rw [← hH2, Heap.size_push]
  have hDC : s₁.heap.objs.size ≠ H2.objs.size := by rw [hC]; exact Nat.ne_of_lt (Nat.lt_succ_self _)
  have below : ∀ b, b < s₁.heap.objs.size → b ≠ H2.objs.size ∧ b ≠ s₁.heap.objs.size := fun b hb => ⟨by rw [hC]; exact Nat.ne_of_lt (Nat.lt_succ_of_lt hb), Nat.ne_of_lt hb⟩
  have old : ∀ b o, s₁.heap.get? b = some o → h₁.get? b = some o := fun b o e => hsb₁.extBut b o (below b (Heap.lt_size e)).1 (Heap.get?_push_of_some _ (hH2 ▸ Heap.get?_push_of_some _ e))
  have hacc : h₁.get? s₁.heap.objs.size = some (lst []) := hsb₁.extBut _ _ hDC (Heap.get?_push_of_some _ (hH2 ▸ Heap.get?_push_size _ rfl))
  have ltZ : Z < s₁.heap.objs.size := Heap.lt_size hz
  have ltTI : TI < s₁.heap.objs.size := Heap.lt_size hTI
  have ltTO : TO < s₁.heap.objs.size := by obtain ⟨a, b, e⟩ := hTO; exact Heap.lt_size e
  have ltI1 : I1 < s₁.heap.objs.size := by obtain ⟨_, e, _⟩ := hi1; exact Heap.lt_size e
  have ltI2 : I2 < s₁.heap.objs.size := by obtain ⟨_, e, _⟩ := hi2; exact Heap.lt_size e
  have lt1 : l1 < h00.objs.size := by obtain ⟨_, e, _⟩ := hl1; exact Heap.lt_size e
  have lt2 : l2 < h00.objs.size := by obtain ⟨_, e, _⟩ := hl2; exact Heap.lt_size e
  have ltL : env.locals < h00.objs.size := F.ns.lt
  generalize hDn : s₁.heap.objs.size = D at *
  generalize hCn : H2.objs.size = C at *
  have low : h00.objs.size ≤ D := Nat.le_of_lt (Nat.lt_of_le_of_lt gZ ltZ)
  have lC : D < C := by rw [hC]; exact Nat.lt_succ_self _
  have WT := WalksT.zip2 (prog := prog) (w := w) hh Z TI TO I1 I2 l1 l2 DZ xs.toArray ys.toArray
  have hmin : min xs.toArray.size ys.toArray.size = n := by rw [List.size_toArray, List.size_toArray, hxl, hyl, Nat.min_self]
  rw [hmin] at WT
  have St0 : IsZip h₁ Z TI TO .none ∧ IsPair h₁ TI (.ref I1) (.ref I2) ∧ (∃ a b, IsPair h₁ TO a b) ∧ h₁.IsListIter I1 l1 0 ∧ h₁.IsListIter I2 l2 0 ∧ h₁.IsList l1 xs.toArray ∧ h₁.IsList l2 ys.toArray :=
    ⟨old _ _ hz, old _ _ hTI, (by obtain ⟨a, b, e⟩ := hTO; exact ⟨a, b, old _ _ e⟩), hi1.at fun o e => old _ _ e, hi2.at fun o e => old _ _ e, hl1.at fun o e => old _ _ (up₁ _ _ e), hl2.at fun o e => old _ _ (up₁ _ _ e)⟩
  have wrlt : ∀ c ∈ [Z, TO, I1, I2], h00.objs.size ≤ c ∧ c < D := by
    intro c hc
    simp only [List.mem_cons, List.not_mem_nil, or_false] at hc
    rcases hc with rfl | rfl | rfl | rfl
    · exact ⟨gZ, ltZ⟩
    · exact ⟨gTO, ltTO⟩
    · exact ⟨gI1, ltI1⟩
    · exact ⟨gI2, ltI2⟩
  have fplt : ∀ c ∈ [Z, TI, TO, I1, I2, l1, l2], c < D := by
    intro c hc
    simp only [List.mem_cons, List.not_mem_nil, or_false] at hc
    rcases hc with rfl | rfl | rfl | rfl | rfl | rfl | rfl
    · exact ltZ
    · exact ltTI
    · exact ltTO
    · exact ltI1
    · exact ltI2
    · exact Nat.lt_of_lt_of_le lt1 low
    · exact Nat.lt_of_lt_of_le lt2 low
  have nwr : ∀ c, c < h00.objs.size ∨ D ≤ c → c ∉ [Z, TO, I1, I2] := fun c hc hm => by
    have := wrlt c hm
    rcases hc with h | h
    · exact Nat.lt_irrefl _ (Nat.lt_of_lt_of_le h this.1)
    · exact Nat.lt_irrefl _ (Nat.lt_of_lt_of_le this.2 h)
  have loop : ∀ s₃ : Shared, (∃ tk, s₃ = { s₁ with heap := h₁, toks := tk }) →
      codeAny (model prog w) A (.compLoop (.ListComp (.BinOp (.Name a pl) .Add (.Name b pr) bp) [⟨.Tuple [.Name a pa, .Name b pb] kk tp, iter, [], 0⟩] scope pos) 0 (.ref Z) (.ref D) (compEnvC scope cl C env))
        (compPost (model prog w) A E (some (assign (.Name y py) env)) (fun _ s' => Q .next s') (.ref D) C) s₃ := by
    rintro s₃ ⟨tk₃, rfl⟩
    refine kcp_loop
      (fun k s' => ∃ h' tk i zs m', s' = { s₁ with heap := h', toks := tk } ∧ i ≤ n ∧ k = n + 1 - i ∧ (∀ c o, h00.get? c = some o → h'.get? c = some o) ∧
        (IsZip h' Z TI TO .none ∧ IsPair h' TI (.ref I1) (.ref I2) ∧ (∃ a b, IsPair h' TO a b) ∧ h'.IsListIter I1 l1 i ∧ h'.IsListIter I2 l2 i ∧ h'.IsList l1 xs.toArray ∧ h'.IsList l2 ys.toArray) ∧
        h'.Ns C m' ∧ h'.get? D = some (lst zs) ∧ MadeOf h' C i us vs zs) ?_ (n + 1)
      ⟨h₁, _, 0, [], _, rfl, Nat.zero_le _, rfl, fun c o e => old _ _ (up₁ c o e), St0, hns₁, hacc, rfl, fun j hj => absurd hj (Nat.not_lt_zero _)⟩
    rintro k s' ⟨h', tk, i, zs, m', rfl, hi, rfl, sub', st', hn', hD', hzl, hM⟩
    by_cases hlt : i < n
    · refine WT.item i _ _ _ hlt st' fun T vals h₂ tk₂ hPt hT hTup hMid hk₂ => ?_
      have apT : T ∉ [Z, TO, I1, I2] := WT.apart i T _ hMid
      refine WT.go _ _ _ i T _ _ _ hMid fun h₃ hst₃ hk₃ => ?_
      obtain ⟨x, y', hx, hy', rfl⟩ := hPt
      obtain ⟨X, Y, kx, ky, ex, ey, gX, gY⟩ := hP i hlt
      have ex' : x = .ref X := by
        have : xs[i]? = some x := by simpa using hx
        exact Option.some.inj (this.symm.trans ex)
      have ey' : y' = .ref Y := by
        have : ys[i]? = some y' := by simpa using hy'
        exact Option.some.inj (this.symm.trans ey)
      subst ex' ey'
      have hk : ∀ c o, c ∉ [Z, TO, I1, I2] → h'.get? c = some o → h₃.get? c = some o := fun c o hc e => hk₃ c o hc (hk₂ c o hc e)
      have hT₃ : h₃.IsTuple T #[.ref X, .ref Y] := by
        obtain ⟨oT, eT, rT⟩ := hTup
        exact ⟨oT, hk₃ T oT apT eT, rT⟩
      refine kcp_assign (env := compEnvC scope cl C env) hh hT₃ (lookup_relabel_local hxa) (lookup_relabel_local hxb) (by simp [compEnvC, relabel, hkind]) (hn'.at' fun o e => hk _ o (nwr _ (.inr (Nat.le_of_lt lC))) e) fun h₄ tk₄ hn₄ hs₄ => ?_
      have up : ∀ c o, c ∉ [Z, TO, I1, I2] → c ≠ C → h'.get? c = some o → h₄.get? c = some o := fun c o h1 h2 e => hs₄ c o h2 (hk c o h1 e)
      have sub₄ : ∀ c o, h00.get? c = some o → h₄.get? c = some o := fun c o e => up c o (nwr c (.inl (Heap.lt_size e))) (natne (Nat.ne_of_lt (Nat.lt_trans (Nat.lt_of_lt_of_le (Heap.lt_size e) low) lC))) (sub' c o e)
      have kx : env.scope.kind = env.scope.kind := rfl
      refine wpAny_BinOp (wpAny_Name (wpAny_loadName_local (by simp [compEnvC, relabel, hkind]) (lookup_relabel_local hxa) hn₄ (v := .ref X) (by simp [hab]) (wpAny_Name (wpAny_loadName_local (by simp [compEnvC, relabel, hkind]) (lookup_relabel_local hxb) hn₄ (v := .ref Y) (by simp) ?_) hdb)) hda)
      refine P.add_list (sub₄ _ _ gX) (sub₄ _ _ gY) ?_ (by rw [List.size_toArray, List.size_toArray]; exact hsz i hlt)
      generalize hH5 : h₄.push _ = h₅
      have up₅ : ∀ c o, h₄.get? c = some o → h₅.get? c = some o := fun c o e => by rw [← hH5]; exact Heap.get?_push_of_some _ e
      have g5 : h₅.get? h₄.objs.size = some (W.listOf (us i ++ vs i).toArray 0) := by rw [← hH5]; exact (Heap.get?_push_size _ rfl).trans (by rw [List.append_toArray])
      have ltC4 : C < h₄.objs.size := hn₄.lt
      have gD5 : h₅.get? D = some (lst zs) := up₅ _ _ (up _ _ (nwr D (.inr (Nat.le_refl _))) (natne (Nat.ne_of_lt lC)) hD')
      refine append_at (hsz := by show zs.toArray.size ≤ sizeLine; rw [List.size_toArray, hzl]; exact Nat.le_trans hi hn16) gD5 fun h₆ hs₆ hD₆ => ?_
      have up₆ : ∀ c o, c ≠ D → h₅.get? c = some o → h₆.get? c = some o := fun c o hc e => hs₆.extBut c o hc e
      have hn₆ := (hn₄.at' fun o e => up₅ _ o e).sameBut hs₆ (natne (Nat.ne_of_gt lC))
      refine ⟨n + 1 - (i + 1), by omega, h₆, tk₄, i + 1, zs ++ [.ref h₄.objs.size], _, rfl, hlt, rfl, ?_, ?_, hn₆, ?_, ?_⟩
      · exact fun c o e => up₆ c o (natne (Nat.ne_of_lt (Nat.lt_of_lt_of_le (Heap.lt_size e) low))) (up₅ _ _ (sub₄ c o e))
      · refine WT.frame (i + 1) h₃ h₆ hst₃ fun c hc o e => ?_
        have hcD := fplt c hc
        exact up₆ c o (natne (Nat.ne_of_lt hcD)) (up₅ _ _ (hs₄ c o (natne (Nat.ne_of_lt (Nat.lt_trans hcD lC))) e))
      · exact hD₆.trans (congrArg some (lst_snoc zs _))
      · refine ⟨by rw [List.length_append, List.length_singleton, hzl], fun j hj => ?_⟩
        by_cases hji : j < i
        · obtain ⟨Wj, kj, e1, e2, e3⟩ := hM j hji
          refine ⟨Wj, kj, by rw [List.getElem?_append_left (by rw [hzl]; exact hji)]; exact e1, e2, ?_⟩
          exact up₆ _ _ (natne (Nat.ne_of_gt (Nat.lt_trans lC e2))) (up₅ _ _ (up _ _ (nwr Wj (.inr (Nat.le_of_lt (Nat.lt_trans lC e2)))) (natne (Nat.ne_of_gt e2)) e3))
        · have hje : j = i := Nat.le_antisymm (Nat.le_of_lt_succ hj) (Nat.not_lt.mp hji)
          subst hje
          refine ⟨h₄.objs.size, 0, ?_, ltC4, ?_⟩
          · rw [List.getElem?_append_right (by rw [hzl]; exact Nat.le_refl _), hzl, Nat.sub_self]; rfl
          · exact up₆ _ _ (natne (Nat.ne_of_gt (Nat.lt_trans lC ltC4))) g5
    · have hin : i = n := Nat.le_antisymm hi (Nat.not_lt.mp hlt)
      subst hin
      refine WT.done _ _ _ st' fun h₂ tk₂ hk₂ => ?_
      have sub₂ : ∀ c o, h00.get? c = some o → h₂.get? c = some o := fun c o e => hk₂ c o (nwr c (.inl (Heap.lt_size e))) (sub' c o e)
      have F₂ : Fr h₀ env.locals h₂ m := F.keeps sub₂
      show wpAny _ A (assign (.Name y py) env (.ref D)) _ _ _
      refine wpAny_assign_Name (wpAny_storeName_local hy F₂.ns (fun h₃ hn₃ hs₃ => ?_) hp)
      have nCL : C ≠ env.locals := natne (Nat.ne_of_gt (Nat.lt_trans (Nat.lt_of_lt_of_le ltL low) lC))
      have F₃ := F₂.set hn₃ hs₃
      have hC₀ : h₀.get? C = none := by
        cases e : h₀.get? C with
        | none => rfl
        | some o' => exact absurd (Heap.lt_size (F.keep _ o' e)) (Nat.not_lt.mpr (Nat.le_of_lt (Nat.lt_of_le_of_lt low lC)))
      refine ⟨m', (hn'.at' fun o e => hk₂ _ o (nwr _ (.inr (Nat.le_of_lt lC))) e).sameBut hs₃ nCL, fun h'' hs'' => ?_⟩
      have chain : ∀ c o, c ∉ [Z, TO, I1, I2] → c ≠ env.locals → c ≠ C → h'.get? c = some o → h''.get? c = some o := fun c o h1 h2 h3 e => hs''.extBut c o h3 (hs₃.extBut c o h2 (hk₂ c o h1 e))
      refine fin D zs h'' _ (F₃.change hs'' nCL hC₀) (fun c o hc e => ?_) low ?_ ⟨hzl, fun j hj => ?_⟩
      · exact chain c o (nwr c (.inl (Heap.lt_size e))) hc (natne (Nat.ne_of_lt (Nat.lt_trans (Nat.lt_of_lt_of_le (Heap.lt_size e) low) lC))) (sub' c o e)
      · exact chain _ _ (nwr D (.inr (Nat.le_refl _))) (natne (Nat.ne_of_gt (Nat.lt_of_lt_of_le ltL low))) (natne (Nat.ne_of_lt lC)) hD'
      · obtain ⟨Wj, kj, e1, e2, e3⟩ := hM j hj
        have dW := Nat.lt_trans lC e2
        exact ⟨Wj, kj, e1, dW, chain _ _ (nwr Wj (.inr (Nat.le_of_lt dW))) (natne (Nat.ne_of_gt (Nat.lt_trans (Nat.lt_of_lt_of_le ltL low) dW))) (natne (Nat.ne_of_gt e2)) e3⟩
  exact codeAny_compStart_list (loop _ ⟨_, rfl⟩) (wpAny_pyIter_zip St0.1 (loop _ ⟨_, rfl⟩))
theorem call_zip_src {l1 l2 : Addr} {xs ys : List Value} {y : Str} {n : Nat} {us vs : Nat → List Value} {Q : Flow → Shared → Prop} (F : Fr h₀ L s.heap m) (hl1 : s.heap.IsList l1 xs.toArray) (hl2 : s.heap.IsList l2 ys.toArray)
    (hP : PairsOf s.heap n us vs xs ys) (hn : n ≤ sizeLine) (hsz : ∀ j, j < n → (us j).length + (vs j).length ≤ sizeLine)
    (fin : ∀ D zs h' tk, Fr h₀ L h' (fun z => if z = y then some (.ref D) else m z) → (∀ c o, c ≠ L → s.heap.get? c = some o → h'.get? c = some o) → s.heap.objs.size ≤ D → h'.get? D = some (lst zs) → MadeOf h' D n us vs zs → Q .next { s with heap := h', toks := tk }) :
    wpAny (model prog w) A (call (.type "zip") [.ref l1, .ref l2]) (SrcZ h₀ L m y n us vs Q) E s := by
  have lt1 : l1 < s.heap.objs.size := by obtain ⟨_, e, _⟩ := hl1; exact Heap.lt_size e
  have lt2 : l2 < s.heap.objs.size := by obtain ⟨_, e, _⟩ := hl2; exact Heap.lt_size e
  refine call_zip_2 hl1 hl2 fun h' hz hTI hTO hi1 hi2 hsz' hk => ?_
  exact ⟨s.heap, _, _, _, _, _, l1, l2, xs, ys, rfl, ktu_apart _ _ _ lt1 lt2, F, hk, ⟨Nat.le_add_right _ _, Nat.le_add_right _ _, Nat.le_add_right _ _, Nat.le_refl _, Nat.le_add_right _ _⟩, hz, hTI, ⟨_, _, hTO⟩, hi1, hi2, hl1, hl2, hP, hn, hsz, fin⟩
def pick4 (u0 u1 u2 u3 : List Value) : Nat → List Value
  | 0 => u0
  | 1 => u1
  | 2 => u2
  | _ => u3
theorem zip_four {l1 l2 : Addr} {y : Str} {Q : Flow → Shared → Prop} {news : Led} {X0 X1 X2 X3 Y0 Y1 Y2 Y3 : Addr} {u0 u1 u2 u3 v0 v1 v2 v3 : List Value} {n1 n2 a0 a1 a2 a3 b0 b1 b2 b3 : Nat}
    (F : Fr h₀ L s.heap m) (N : News h₀ L s.heap news)
    (m1 : (l1, W.listOf [Value.ref X0, .ref X1, .ref X2, .ref X3].toArray n1) ∈ news) (m2 : (l2, W.listOf [Value.ref Y0, .ref Y1, .ref Y2, .ref Y3].toArray n2) ∈ news)
    (x0 : (X0, W.listOf u0.toArray a0) ∈ news) (x1 : (X1, W.listOf u1.toArray a1) ∈ news) (x2 : (X2, W.listOf u2.toArray a2) ∈ news) (x3 : (X3, W.listOf u3.toArray a3) ∈ news)
    (y0 : (Y0, W.listOf v0.toArray b0) ∈ news) (y1 : (Y1, W.listOf v1.toArray b1) ∈ news) (y2 : (Y2, W.listOf v2.toArray b2) ∈ news) (y3 : (Y3, W.listOf v3.toArray b3) ∈ news)
    (s0 : u0.length + v0.length ≤ 64) (s1 : u1.length + v1.length ≤ 64) (s2 : u2.length + v2.length ≤ 64) (s3 : u3.length + v3.length ≤ 64)
    (fin : ∀ D W0 W1 W2 W3 k0 k1 k2 k3 h' tk, Fr h₀ L h' (fun z => if z = y then some (.ref D) else m z) →
      News h₀ L h' ((D, W.listOf #[Value.ref W0, .ref W1, .ref W2, .ref W3] 4) :: (W3, W.listOf (u3 ++ v3).toArray k3) :: (W2, W.listOf (u2 ++ v2).toArray k2) :: (W1, W.listOf (u1 ++ v1).toArray k1) :: (W0, W.listOf (u0 ++ v0).toArray k0) :: news) → Q .next { s with heap := h', toks := tk }) :
    wpAny (model prog w) A (call (.type "zip") [.ref l1, .ref l2]) (SrcZ h₀ L m y 4 (pick4 u0 u1 u2 u3) (pick4 v0 v1 v2 v3) Q) E s := by
  have s16 : (64 : Nat) ≤ sizeLine := Nat.le_of_ble_eq_true rfl
  refine call_zip_src (xs := [Value.ref X0, .ref X1, .ref X2, .ref X3]) (ys := [Value.ref Y0, .ref Y1, .ref Y2, .ref Y3]) F ⟨_, (N _ m1).1, rfl, _, rfl⟩ ⟨_, (N _ m2).1, rfl, _, rfl⟩ ⟨rfl, rfl, fun j hj => ?_⟩ (Nat.le_of_ble_eq_true rfl) (fun j hj => ?_) ?_
  · match j, hj with
    | 0, _ => exact ⟨X0, Y0, _, _, rfl, rfl, (N _ x0).1, (N _ y0).1⟩
    | 1, _ => exact ⟨X1, Y1, _, _, rfl, rfl, (N _ x1).1, (N _ y1).1⟩
    | 2, _ => exact ⟨X2, Y2, _, _, rfl, rfl, (N _ x2).1, (N _ y2).1⟩
    | 3, _ => exact ⟨X3, Y3, _, _, rfl, rfl, (N _ x3).1, (N _ y3).1⟩
  · match j, hj with
    | 0, _ => exact Nat.le_trans s0 s16
    | 1, _ => exact Nat.le_trans s1 s16
    | 2, _ => exact Nat.le_trans s2 s16
    | 3, _ => exact Nat.le_trans s3 s16
  · intro D zs h' tk F' up lD gD ⟨hzl, hM⟩
    obtain ⟨W0, k0, e0, o0, g0⟩ := hM 0 (by decide)
    obtain ⟨W1, k1, e1, o1, g1⟩ := hM 1 (by decide)
    obtain ⟨W2, k2, e2, o2, g2⟩ := hM 2 (by decide)
    obtain ⟨W3, k3, e3, o3, g3⟩ := hM 3 (by decide)
    have hz : zs = [.ref W0, .ref W1, .ref W2, .ref W3] := by
      match zs, hzl with
      | [p, q, r, t], _ =>
        have p0 : p = _ := Option.some.inj e0
        have p1 : q = _ := Option.some.inj e1
        have p2 : r = _ := Option.some.inj e2
        have p3 : t = _ := Option.some.inj e3
        rw [p0, p1, p2, p3]
    subst hz
    have ltL : L < s.heap.objs.size := F.ns.lt
    have fresh : ∀ c, s.heap.objs.size ≤ c → c ≠ L ∧ h₀.get? c = none := fun c hc => ⟨natne (Nat.ne_of_gt (Nat.lt_of_lt_of_le ltL hc)), ktu_new F hc⟩
    refine fin D W0 W1 W2 W3 k0 k1 k2 k3 h' tk F' fun p hp => ?_
    rcases List.mem_cons.mp hp with rfl | hp
    · exact ⟨gD, fresh D lD⟩
    rcases List.mem_cons.mp hp with rfl | hp
    · exact ⟨g3, fresh W3 (Nat.le_of_lt (Nat.lt_of_le_of_lt lD o3))⟩
    rcases List.mem_cons.mp hp with rfl | hp
    · exact ⟨g2, fresh W2 (Nat.le_of_lt (Nat.lt_of_le_of_lt lD o2))⟩
    rcases List.mem_cons.mp hp with rfl | hp
    · exact ⟨g1, fresh W1 (Nat.le_of_lt (Nat.lt_of_le_of_lt lD o1))⟩
    rcases List.mem_cons.mp hp with rfl | hp
    · exact ⟨g0, fresh W0 (Nat.le_of_lt (Nat.lt_of_le_of_lt lD o0))⟩
    · exact ⟨up _ _ (N p hp).2.1 (N p hp).1, (N p hp).2⟩
end
end Mine

namespace Mine
open PySem PySem.W PyProof.Rows PySem.Calls
set_option maxRecDepth 100000
local macro_rules | `(tactic| is_list) => `(tactic| first | (with_reducible assumption) | (refine' News.isList ?isN ?isM; (case isN => with_reducible assumption); (case isM => k_mem)))
local macro_rules | `(tactic| walk_at "my open") => `(tactic| ((conv => arg 3; arg 1; whnf); (conv => arg 3; arg 2; unfold lawEnv; arg 2; whnf); (conv => arg 2; arg 2; unfold lawEnv; arg 2; whnf)))
local macro_rules | `(tactic| walk_at "eval ListComp") => `(tactic| (k_here; refine Halt.out ?_))
local macro_rules | `(tactic| walk_at "execs cons") => `(tactic| (k_here; (with_reducible show wpAny _ _ (execs (Stmt.Assign _ (Expr.ListComp _ _ _ _) _ :: _) _) _ _ _); refine Halt.out ?_))
local macro_rules | `(tactic| walk_at "execs cons") => `(tactic| (k_here; (with_reducible show wpAny _ _ (execs (Stmt.If _ _ _ _ :: _) _) _ _ _); refine Halt.out ?_))
local macro_rules | `(tactic| walk_at "CompEnd") => `(tactic| (k_here; refine Halt.out ?_))
local macro_rules | `(tactic| walk_at "CompRest") => `(tactic| (k_here; refine Halt.out ?_))
local macro_rules | `(tactic| walk_at "CompSrc") => `(tactic| (k_here; refine Halt.out ?_))
local macro_rules | `(tactic| k_ne) => `(tactic| first | (refine neN ?_; (try dsimp only); omega) | ((with_reducible show @Ne Nat _ (_ + 1)); exact ne_cell (by with_reducible assumption) (by k_mem) (by k_mem) (by with_reducible assumption)) | ((with_reducible show @Ne Nat (_ + 1) _); exact Ne.symm (ne_cell (by with_reducible assumption) (by k_mem) (by k_mem) (by with_reducible assumption))))
local macro_rules | `(tactic| walk_at "call ref") => `(tactic| (k_here; k_dflt (refine' use_int (c_at _ _ _ _ _ _ _ _) rfl (Nat.le_of_ble_eq_true rfl) (Nat.le_of_ble_eq_true rfl) ?F ?N ?K ?T ⟨?l, ?i, ?z, ?z1, ?z2⟩ ?_; (case F => k_asm); (case N => k_asm); (case K => k_asm); (case T => k_asm); (case l => is_list); (case i => l_ints); (case z => first | with_reducible assumption | l_fit); (case z1 => omega); (case z2 => omega)); intro t' h' tk' F' N'; (try k_unmd); (try k_fold)))
local macro_rules | `(tactic| walk_at "call ref") => `(tactic| (k_here; k_dflt (refine' use_ints (c_create _ _ _ _ _ _) rfl (Nat.le_of_ble_eq_true rfl) (Nat.le_of_ble_eq_true rfl) ?F ?N ?K ?T ⟨?x, ?l, ?i, ?z⟩ ?_; (case F => k_asm); (case N => k_asm); (case K => k_asm); (case T => k_asm); (case x => first | with_reducible assumption | omega); (case l => is_list); (case i => l_ints); (case z => first | with_reducible assumption | l_fit)); intro a' us' k' h' tk' F' N' o1' hI'; (try k_unmd); (try k_fold)))
local macro_rules | `(tactic| walk_at "call ref") => `(tactic| (k_here; k_dflt (refine' use_bool (c_verify _ _ _ _ _ _) rfl (Nat.le_of_ble_eq_true rfl) (Nat.le_of_ble_eq_true rfl) ?F ?N ?K ?T ⟨?x, ?l, ?i, ?z⟩ ?_; (case F => k_asm); (case N => k_asm); (case K => k_asm); (case T => k_asm); (case x => first | with_reducible assumption | omega); (case l => is_list); (case i => l_ints); (case z => first | with_reducible assumption | l_fit)); intro h' tk' F' N'; (try k_unmd); (try k_fold)))
local macro_rules | `(tactic| walk_at "call ref") => `(tactic| (k_here; k_dflt (refine' use_ints (c_sum4 _ _ _ _ _ _ _ _ _ _ _ _ _ _ _) rfl (Nat.le_of_ble_eq_true rfl) (Nat.le_of_ble_eq_true rfl) ?F ?N ?K ?T ⟨?l, ⟨?a1, ?a2, ?a3⟩, ⟨?b1, ?b2, ?b3⟩, ⟨?c1, ?c2, ?c3⟩, ⟨?e1, ?e2, ?e3⟩, ?z⟩ ?_; (case F => k_asm); (case N => k_asm); (case K => k_asm); (case T => k_asm); (case l => is_list); (case a1 => is_list); (case a2 => l_ints); (case a3 => with_reducible assumption); (case b1 => is_list); (case b2 => l_ints); (case b3 => with_reducible assumption); (case c1 => is_list); (case c2 => l_ints); (case c3 => with_reducible assumption); (case e1 => is_list); (case e2 => l_ints); (case e3 => with_reducible assumption); (case z => first | decide | with_reducible assumption | omega)); intro a' us' k' h' tk' F' N' o1' hI'; (try k_unmd); (try k_fold)))
local macro_rules | `(tactic| walk_at "call ref") => `(tactic| (k_here; k_dflt (refine' use_ints (c_sum3 _ _ _ _ _ _ _ _ _ _ _ _) rfl (Nat.le_of_ble_eq_true rfl) (Nat.le_of_ble_eq_true rfl) ?F ?N ?K ?T ⟨?l, ⟨?a1, ?a2, ?a3⟩, ⟨?b1, ?b2, ?b3⟩, ⟨?c1, ?c2, ?c3⟩, ?z⟩ ?_; (case F => k_asm); (case N => k_asm); (case K => k_asm); (case T => k_asm); (case l => is_list); (case a1 => is_list); (case a2 => l_ints); (case a3 => with_reducible assumption); (case b1 => is_list); (case b2 => l_ints); (case b3 => with_reducible assumption); (case c1 => is_list); (case c2 => l_ints); (case c3 => with_reducible assumption); (case z => first | decide | with_reducible assumption | omega)); intro a' us' k' h' tk' F' N' o1' hI'; (try k_unmd); (try k_fold)))
local macro_rules | `(tactic| walk_at "call ref") => `(tactic| (k_here; k_dflt (refine' use_ints (c_sum2 _ _ _ _ _ _ _ _ _) rfl (Nat.le_of_ble_eq_true rfl) (Nat.le_of_ble_eq_true rfl) ?F ?N ?K ?T ⟨?l, ⟨?a1, ?a2, ?a3⟩, ⟨?b1, ?b2, ?b3⟩, ?z⟩ ?_; (case F => k_asm); (case N => k_asm); (case K => k_asm); (case T => k_asm); (case l => is_list); (case a1 => is_list); (case a2 => l_ints); (case a3 => with_reducible assumption); (case b1 => is_list); (case b2 => l_ints); (case b3 => with_reducible assumption); (case z => first | decide | with_reducible assumption | omega)); intro a' us' k' h' tk' F' N' o1' hI'; (try k_unmd); (try k_fold)))
local macro_rules | `(tactic| walk_at "my sweep") => `(tactic| ((repeat (rename (News _ _ _ _) => nX; clear nX)); (repeat (rename (Fr _ _ _ _) => fX; clear fX)); (repeat (rename (InElt _ _) => eX; clear eX)); (repeat (rename (@LT.lt Nat _ _ _ ∧ _) => lX; clear lX)); (repeat (rename (@LT.lt Nat _ _ _) => lX; clear lX))))
set_option maxHeartbeats 8000000 in
theorem law_11 {w : World} {loose : List Str} {mean : ExcName → Option Value} {mg mb : Str → Option Value} {s : Shared} {L l : Addr} {h : Heap} {tk sz : Nat} {vs : List Value} {ns : List Int} {x y : Str} {tx ty tz : Tok} {q1 q2 q3 q4 q5 q6 q7 q8 : Obj} {Q : Flow → Shared → Prop} {DR DN DW W0 W1 W2 W3 : Addr} {w0 w1 w2 w3 : List Value} {nW k0 k1 k2 k3 : Nat} {a b c z : List Nat}
    (K : (hd.heap_39 w.params).In s.heap) (T : Top hd.view_39 loose mean mg mb s.heap) (hl : s.heap.IsList l vs.toArray) (hi : IntsAre vs ns) (hn : ns.length ≤ 63) (hx : x.length ≤ 10) (hy : y.length ≤ 10) (hs : sz ≤ 10)
    (F : Fr s.heap L h (fun z => if z = Str.ofString "whole" then some (.ref DW) else if z = Str.ofString "noughts" then some (.ref DN) else if z = Str.ofString "rows" then some (.ref DR) else none))
    (N : News s.heap L h [(DW, W.listOf #[.ref W0, .ref W1, .ref W2, .ref W3] nW), (W3, W.listOf w3.toArray k3), (W2, W.listOf w2.toArray k2), (W1, W.listOf w1.toArray k1), (W0, W.listOf w0.toArray k0), (L + 1 + 1 + 1 + 1 + 1 + 1 + 1 + 1, q1), (L + 1 + 1 + 1 + 1 + 1 + 1 + 1, q2), (L + 1 + 1 + 1 + 1 + 1 + 1, q3), (L + 1 + 1 + 1 + 1 + 1, q4), (L + 1 + 1 + 1 + 1, q5), (L + 1 + 1 + 1, q6), (L + 1 + 1, q7), (L + 1, q8)])
    (d5 : q5.data = .cell (some (.int (sz : Int) tz))) (d6 : q6.data = .cell (some (.str y ty))) (d7 : q7.data = .cell (some (.str x tx))) (d8 : q8.data = .cell (some (.ref l)))
    (d1 : q1.data = .cell none) (d2 : q2.data = .cell none)
    (i0 : IntsAre w0 (up a ++ crI x (up a))) (i1 : IntsAre w1 (up b ++ crI x (up b))) (i2 : IntsAre w2 (up c ++ crI x (up c))) (i3 : IntsAre w3 (up z ++ crI x (up z))) (G : Good x y a b c z sz)
    (ret : ∀ h' tk', Sub s.heap h' → Q (.ret (.bool true)) { s with heap := h', toks := tk' }) :
    wpAny (model PySem.Challenge.rw_bg0019_01.row.prog w) ((AA 400).deeper (lawEnv L)) (execs (lawRest 11) (lawEnv L)) Q (fun _ _ => False) { s with heap := h, toks := tk } := by
  w_top off
  revert K; k_fill; intro K
  walk_at "my open"
  k_unmd
  try k_fold
  have e0 : (up a ++ crI x (up a)).length = sz + 6 := by rw [List.length_append, G.la, crI_length]
  have e1 : (up b ++ crI x (up b)).length = sz + 6 := by rw [List.length_append, G.lb, crI_length]
  have e2 : (up c ++ crI x (up c)).length = sz + 6 := by rw [List.length_append, G.lc, crI_length]
  have e3 : (up z ++ crI x (up z)).length = sz + 6 := by rw [List.length_append, G.lz, crI_length]
  have e9 : sz + 6 ≤ 30 := by omega
  have f0 : (up a ++ crI x (up a)).length ≤ 30 := by rw [e0]; exact e9
  have f1 : (up b ++ crI x (up b)).length ≤ 30 := by rw [e1]; exact e9
  have f2 : (up c ++ crI x (up c)).length ≤ 30 := by rw [e2]; exact e9
  have f3 : (up z ++ crI x (up z)).length ≤ 30 := by rw [e3]; exact e9
  have e8 : sz + 6 ≤ 60 := by omega
  have p0 : 0 ≤ (ns.getD (Int.toNat 24) 2).fmod ((sz : Int) + 6) := fmod_lo _ (by omega)
  have p1 : (ns.getD (Int.toNat 24) 2).fmod ((sz : Int) + 6) < (sz : Int) + 6 := fmod_hi _ (by omega)
  have r0 : 0 ≤ (ns.getD (Int.toNat 25) 6).fmod 31 := fmod_lo _ (by decide)
  have r1 : (ns.getD (Int.toNat 25) 6).fmod 31 < 31 := fmod_hi _ (by decide)
  k_steps
  refine Halt.mk ?_
  rename (Fr _ _ _ _) => F5
  rename (Obj.data _ = .cell (some (.int ((ns.getD (Int.toNat 24) 2).fmod _) _))) => dp
  rename (Obj.data _ = .cell (some (.int (1 + (ns.getD (Int.toNat 25) 6).fmod _) _))) => dt
  generalize (ns.getD (Int.toNat 24) 2).fmod ((sz : Int) + 6) = P at *
  generalize hT0 : 1 + (ns.getD (Int.toNat 25) 6).fmod 31 = T0 at *
  refine LCg.ListComp_U F5 (by with_unfolding_all rfl) (by decide) rfl (by decide) rfl ?_
  k_steps
  refine Halt.mk ?_
  rename (News _ _ _ _) => NR
  rename (Fr _ _ _ _) => FR
  rename (IsRange _ _ _ _ _ _ _ _) => hR
  refine LCg.CompSrc.range (n := sz + 6) rfl FR NR hR (small_one (by omega) (by omega) (by omega) (by omega)) (by rw [rangeSize_nat]; omega) (Nat.le_trans e8 (by decide)) (fun g2 => ?_)
  refine comp_ints (n := sz + 6) (fun k : Nat => if (k : Int) = P then T0 else 0) trivial ?_ ?_
  · intro i v I oI C oC D m₂ ys h tk E' hi' hv hC hx F N off ne
    obtain ⟨u, rfl⟩ := hv
    rw [Int.zero_add] at hx
    k_unmd
    k_fold
    k_steps
    all_goals first | with_reducible assumption | exact congrArg (Value.int · _) (if_pos (by assumption)).symm | exact congrArg (Value.int · _) (if_neg (by assumption)).symm
  intro vT iT DT hT tkT FT NT oT
  dsimp only
  have eT : ((List.range (sz + 6)).map fun k : Nat => if (k : Int) = P then T0 else 0).length = sz + 6 := by rw [List.length_map, List.length_range]
  have gt : (sumI [up a ++ crI x (up a), up b ++ crI x (up b), up c ++ crI x (up c), (List.range (sz + 6)).map fun k : Nat => if (k : Int) = P then T0 else 0] (sz + 6)).length ≤ 30 := by unfold sumI; rw [List.length_map, List.length_range]; exact e9
  have gs : (sumI [up a ++ crI x (up a), up b ++ crI x (up b), up c ++ crI x (up c)] (sz + 6)).length ≤ 30 := by unfold sumI; rw [List.length_map, List.length_range]; exact e9
  have vt := G.turned P T0 p0 (by omega) (by omega) (by omega)
  have vs' := G.vabc
  k_steps
  rename (Fr _ _ _ _) => FZ
  rw [vs']
  exact ret _ _ FZ.keep
section
local macro_rules | `(tactic| walk_at "execs cons") => `(tactic| (k_here; (with_reducible show wpAny _ _ (execs (Stmt.Assign [Expr.Tuple _ _ _] _ _ :: _) _) _ _ _); refine Halt.out ?_))
set_option maxHeartbeats 8000000 in
theorem law_10 {w : World} {loose : List Str} {mean : ExcName → Option Value} {mg mb : Str → Option Value} {s : Shared} {L l : Addr} {h : Heap} {tk sz : Nat} {vs : List Value} {ns : List Int} {x y : Str} {tx ty tz : Tok} {q1 q2 q3 q4 q5 q6 q7 q8 : Obj} {Q : Flow → Shared → Prop} {DR DN DW W0 W1 W2 W3 : Addr} {w0 w1 w2 w3 : List Value} {nW k0 k1 k2 k3 : Nat} {a b c z : List Nat}
    (K : (hd.heap_39 w.params).In s.heap) (T : Top hd.view_39 loose mean mg mb s.heap) (hl : s.heap.IsList l vs.toArray) (hi : IntsAre vs ns) (hn : ns.length ≤ 63) (hx : x.length ≤ 10) (hy : y.length ≤ 10) (hs : sz ≤ 10)
    (F : Fr s.heap L h (fun z => if z = Str.ofString "whole" then some (.ref DW) else if z = Str.ofString "noughts" then some (.ref DN) else if z = Str.ofString "rows" then some (.ref DR) else none))
    (N : News s.heap L h [(DW, W.listOf #[.ref W0, .ref W1, .ref W2, .ref W3] nW), (W3, W.listOf w3.toArray k3), (W2, W.listOf w2.toArray k2), (W1, W.listOf w1.toArray k1), (W0, W.listOf w0.toArray k0), (L + 1 + 1 + 1 + 1 + 1 + 1 + 1 + 1, q1), (L + 1 + 1 + 1 + 1 + 1 + 1 + 1, q2), (L + 1 + 1 + 1 + 1 + 1 + 1, q3), (L + 1 + 1 + 1 + 1 + 1, q4), (L + 1 + 1 + 1 + 1, q5), (L + 1 + 1 + 1, q6), (L + 1 + 1, q7), (L + 1, q8)])
    (d5 : q5.data = .cell (some (.int (sz : Int) tz))) (d6 : q6.data = .cell (some (.str y ty))) (d7 : q7.data = .cell (some (.str x tx))) (d8 : q8.data = .cell (some (.ref l)))
    (d1 : q1.data = .cell none) (d2 : q2.data = .cell none)
    (i0 : IntsAre w0 (up a ++ crI x (up a))) (i1 : IntsAre w1 (up b ++ crI x (up b))) (i2 : IntsAre w2 (up c ++ crI x (up c))) (i3 : IntsAre w3 (up z ++ crI x (up z))) (G : Good x y a b c z sz)
    (ret : ∀ h' tk', Sub s.heap h' → Q (.ret (.bool true)) { s with heap := h', toks := tk' }) :
    wpAny (model PySem.Challenge.rw_bg0019_01.row.prog w) ((AA 400).deeper (lawEnv L)) (execs (lawRest 10) (lawEnv L)) Q (fun _ _ => False) { s with heap := h, toks := tk } := by
  w_top off
  revert K; k_fill; intro K
  walk_at "my open"
  k_unmd
  try k_fold
  have e0 : (up a ++ crI x (up a)).length = sz + 6 := by rw [List.length_append, G.la, crI_length]
  have e1 : (up b ++ crI x (up b)).length = sz + 6 := by rw [List.length_append, G.lb, crI_length]
  have e2 : (up c ++ crI x (up c)).length = sz + 6 := by rw [List.length_append, G.lc, crI_length]
  have e3 : (up z ++ crI x (up z)).length = sz + 6 := by rw [List.length_append, G.lz, crI_length]
  have e9 : sz + 6 ≤ 30 := by omega
  have f0 : (up a ++ crI x (up a)).length ≤ 30 := by rw [e0]; exact e9
  have f1 : (up b ++ crI x (up b)).length ≤ 30 := by rw [e1]; exact e9
  have f2 : (up c ++ crI x (up c)).length ≤ 30 := by rw [e2]; exact e9
  have f3 : (up z ++ crI x (up z)).length ≤ 30 := by rw [e3]; exact e9
  have e8 : sz + 6 ≤ 60 := by omega
  refine wpAny_execs_cons ?_
  k_steps
  refine Halt.mk ?_
  refine LCg.ListComp_U F (by with_unfolding_all rfl) (by decide) rfl (by decide) rfl ?_
  k_steps
  refine Halt.mk ?_
  rename (IntsAre _ (sumI _ _)) => iS
  k_dflt (refine LCg.CompSrc.ledger (by rfl) (by k_asm) (by k_asm) (by k_mem) (by first | size_fits | exact Nat.le_of_ble_eq_true rfl) ?_; intro g'; lcg_lit)
  have e4 : (sumI [up a ++ crI x (up a), up b ++ crI x (up b), up z ++ crI x (up z)] (sz + 6)).length = sz + 6 := by unfold sumI; rw [List.length_map, List.length_range]
  have f4 : (sumI [up a ++ crI x (up a), up b ++ crI x (up b), up z ++ crI x (up z)] (sz + 6)).length ≤ 30 := by rw [e4]; exact e9
  refine LCg.CompRest.succ ?_
  intro v I oI C oC D m' h' tk' E' hv hC hx' F' N' off ne
  lcg_open hv
  k_unmd
  k_fold
  k_steps
  refine Halt.mk ?_
  refine comp_end0 (by with_reducible assumption) (by with_reducible assumption) off (.inr ⟨_, by k_mem, rfl, _, rfl⟩) ?_
  clear off hC hx' ne hv
  walk_at "my sweep"
  refine LCg.CompRest.succ ?_
  intro v I oI C oC D m' h' tk' E' hv hC hx' F' N' off ne
  lcg_open hv
  k_unmd
  k_fold
  k_steps
  refine Halt.mk ?_
  refine comp_end0 (by with_reducible assumption) (by with_reducible assumption) off (.inr ⟨_, by k_mem, rfl, _, rfl⟩) ?_
  clear off hC hx' ne hv
  walk_at "my sweep"
  refine LCg.CompRest.succ ?_
  intro v I oI C oC D m' h' tk' E' hv hC hx' F' N' off ne
  lcg_open hv
  k_unmd
  k_fold
  k_steps
  refine Halt.mk ?_
  refine comp_end0 (by with_reducible assumption) (by with_reducible assumption) off (.inr ⟨_, by k_mem, rfl, _, rfl⟩) ?_
  clear off hC hx' ne hv
  walk_at "my sweep"
  refine LCg.CompRest.succ ?_
  intro v I oI C oC D m' h' tk' E' hv hC hx' F' N' off ne
  lcg_open hv
  k_unmd
  k_fold
  k_steps
  refine Halt.mk ?_
  refine comp_end0 (by with_reducible assumption) (by with_reducible assumption) off (.inr ⟨_, by k_mem, rfl, _, rfl⟩) ?_
  clear off hC hx' ne hv
  walk_at "my sweep"
  refine LCg.CompRest.succ ?_
  intro v I oI C oC D m' h' tk' E' hv hC hx' F' N' off ne
  lcg_open hv
  k_unmd
  k_fold
  k_steps
  refine Halt.mk ?_
  refine comp_end0 (by with_reducible assumption) (by with_reducible assumption) off (.inr ⟨_, by k_mem, rfl, _, rfl⟩) ?_
  clear off hC hx' ne hv
  walk_at "my sweep"
  refine LCg.CompRest.zero ?_
  intro DU hU tkU FU NU oU
  dsimp only
  rw [G.va, G.vb, G.vc, G.vz, G.vabz] at NU
  k_steps
  refine Halt.mk ?_
  exact law_11 (s := s) K T hl hi hn hx hy hs (by with_reducible assumption) (news_sub (by with_reducible assumption) (by lcg_sub)) d5 d6 d7 d8 d1 d2 i0 i1 i2 i3 G ret
end
section
local macro_rules | `(tactic| walk_at "pad 0") => `(tactic| skip)
local macro_rules | `(tactic| walk_at "call type:zip") => `(tactic| (k_here; refine Halt.out ?_))
set_option maxHeartbeats 8000000 in
theorem law_9 {w : World} {loose : List Str} {mean : ExcName → Option Value} {mg mb : Str → Option Value} {s : Shared} {L l : Addr} {h : Heap} {tk sz : Nat} {vs : List Value} {ns : List Int} {x y : Str} {tx ty tz : Tok} {q1 q2 q3 q4 q5 q6 q7 q8 : Obj} {Q : Flow → Shared → Prop} {DR R0 R1 R2 DN DM M0 M1 M2 M3 : Addr} {r0 r1 r2 rn m0 m1 m2 m3 : List Value} {nR n0 n1 n2 nN nM k0 k1 k2 k3 : Nat} {a b c z : List Nat}
    (K : (hd.heap_39 w.params).In s.heap) (T : Top hd.view_39 loose mean mg mb s.heap) (hl : s.heap.IsList l vs.toArray) (hi : IntsAre vs ns) (hn : ns.length ≤ 63) (hx : x.length ≤ 10) (hy : y.length ≤ 10) (hs : sz ≤ 10)
    (F : Fr s.heap L h (fun z => if z = Str.ofString "noughts" then some (.ref DN) else if z = Str.ofString "rows" then some (.ref DR) else none))
    (N : News s.heap L h [(DM, W.listOf #[.ref M0, .ref M1, .ref M2, .ref M3] nM), (M3, W.listOf m3.toArray k3), (M2, W.listOf m2.toArray k2), (M1, W.listOf m1.toArray k1), (M0, W.listOf m0.toArray k0), (R2, W.listOf r2.toArray n2), (DN, W.listOf rn.toArray nN), (DR, W.listOf #[.ref R0, .ref R1, .ref R2] nR), (R1, W.listOf r1.toArray n1), (R0, W.listOf r0.toArray n0), (L + 1 + 1 + 1 + 1 + 1 + 1 + 1 + 1, q1), (L + 1 + 1 + 1 + 1 + 1 + 1 + 1, q2), (L + 1 + 1 + 1 + 1 + 1 + 1, q3), (L + 1 + 1 + 1 + 1 + 1, q4), (L + 1 + 1 + 1 + 1, q5), (L + 1 + 1 + 1, q6), (L + 1 + 1, q7), (L + 1, q8)])
    (d5 : q5.data = .cell (some (.int (sz : Int) tz))) (d6 : q6.data = .cell (some (.str y ty))) (d7 : q7.data = .cell (some (.str x tx))) (d8 : q8.data = .cell (some (.ref l)))
    (d1 : q1.data = .cell none) (d2 : q2.data = .cell none)
    (i0 : IntsAre r0 (up a)) (i1 : IntsAre r1 (up b)) (i2 : IntsAre r2 (up c)) (iN : IntsAre rn (up z)) (G : Good x y a b c z sz) (d4 : q4.data = .cell (some (.ref DM)))
    (j0 : IntsAre m0 (crI x (up a))) (j1 : IntsAre m1 (crI x (up b))) (j2 : IntsAre m2 (crI x (up c))) (j3 : IntsAre m3 (crI x (up z)))
    (ret : ∀ h' tk', Sub s.heap h' → Q (.ret (.bool true)) { s with heap := h', toks := tk' }) :
    wpAny (model PySem.Challenge.rw_bg0019_01.row.prog w) ((AA 400).deeper (lawEnv L)) (execs (lawRest 9) (lawEnv L)) Q (fun _ _ => False) { s with heap := h, toks := tk } := by
  w_top off
  revert K; k_fill; intro K
  walk_at "my open"
  k_unmd
  try k_fold
  have la := G.la
  have lb := G.lb
  have lc := G.lc
  have lz := G.lz
  have e0 := crI_length x (up a)
  have e1 := crI_length x (up b)
  have e2 := crI_length x (up c)
  have e3 := crI_length x (up z)
  refine wpAny_execs_cons ?_
  k_dflt (refine' Assign_zip (L := L) (h₀ := s.heap) (n := 4) (us := pick4 r0 r1 r2 rn) (vs := pick4 m0 m1 m2 m3) F rfl rfl ?a1 ?a2 ?a3 rfl ?a4 ?a5 ?a6 ?a7 ?a8 ?a9 ?a10 ?a11 ?_ ?a12; (case a1 => with_unfolding_all rfl); (case a2 => rfl); (case a3 => decide); (case a4 => decide); (case a5 => rfl); (case a6 => rfl); (case a7 => decide); (case a8 => decide); (case a9 => decide); (case a10 => rfl); (case a11 => rfl); (case a12 => (intro _; rfl)))
  k_steps
  refine Halt.mk ?_
  refine zip_four (X0 := R0) (X1 := R1) (X2 := R2) (X3 := DN) (Y0 := M0) (Y1 := M1) (Y2 := M2) (Y3 := M3) (u0 := r0) (u1 := r1) (u2 := r2) (u3 := rn) (v0 := m0) (v1 := m1) (v2 := m2) (v3 := m3) (by with_reducible assumption) (by with_reducible assumption) (by k_mem) (by k_mem) (by k_mem) (by k_mem) (by k_mem) (by k_mem) (by k_mem) (by k_mem) (by k_mem) (by k_mem) (by rw [i0.length, j0.length]; omega) (by rw [i1.length, j1.length]; omega) (by rw [i2.length, j2.length]; omega) (by rw [iN.length, j3.length]; omega) ?_
  intro DW W0 W1 W2 W3 t0 t1 t2 t3 hW tkW FW NW
  exact law_10 (s := s) K T hl hi hn hx hy hs FW (news_sub NW (by lcg_sub)) d5 d6 d7 d8 d1 d2 (i0.append j0) (i1.append j1) (i2.append j2) (iN.append j3) G ret
end
section
local macro_rules | `(tactic| walk_at "pad 0") => `(tactic| skip)
local macro_rules | `(tactic| walk_at "pad 1") => `(tactic| skip)
local macro_rules | `(tactic| walk_at "compareOp NotEq ref ref") => `(tactic| (k_here; refine Halt.out ?_))
set_option maxHeartbeats 8000000 in
theorem law_8 {w : World} {loose : List Str} {mean : ExcName → Option Value} {mg mb : Str → Option Value} {s : Shared} {L l : Addr} {h : Heap} {tk sz : Nat} {vs : List Value} {ns : List Int} {x y : Str} {tx ty tz : Tok} {q1 q2 q3 q4 q5 q6 q7 q8 : Obj} {Q : Flow → Shared → Prop} {DR R0 R1 R2 DN DT T0 T1 T2 T3 DM M0 M1 M2 M3 : Addr} {r0 r1 r2 rn w0 w1 w2 w3 m0 m1 m2 m3 : List Value} {nR n0 n1 n2 nN nM nT c0 c1 c2 c3 k0 k1 k2 k3 : Nat} {a b c z : List Nat}
    (K : (hd.heap_39 w.params).In s.heap) (T : Top hd.view_39 loose mean mg mb s.heap) (hl : s.heap.IsList l vs.toArray) (hi : IntsAre vs ns) (hn : ns.length ≤ 63) (hx : x.length ≤ 10) (hy : y.length ≤ 10) (hs : sz ≤ 10)
    (F : Fr s.heap L h (fun z => if z = Str.ofString "noughts" then some (.ref DN) else if z = Str.ofString "rows" then some (.ref DR) else none))
    (N : News s.heap L h [(DT, W.listOf #[.ref T0, .ref T1, .ref T2, .ref T3] nT), (T3, W.listOf w3.toArray c3), (T2, W.listOf w2.toArray c2), (T1, W.listOf w1.toArray c1), (T0, W.listOf w0.toArray c0), (DM, W.listOf #[.ref M0, .ref M1, .ref M2, .ref M3] nM), (M3, W.listOf m3.toArray k3), (M2, W.listOf m2.toArray k2), (M1, W.listOf m1.toArray k1), (M0, W.listOf m0.toArray k0), (R2, W.listOf r2.toArray n2), (DN, W.listOf rn.toArray nN), (DR, W.listOf #[.ref R0, .ref R1, .ref R2] nR), (R1, W.listOf r1.toArray n1), (R0, W.listOf r0.toArray n0), (L + 1 + 1 + 1 + 1 + 1 + 1 + 1 + 1, q1), (L + 1 + 1 + 1 + 1 + 1 + 1 + 1, q2), (L + 1 + 1 + 1 + 1 + 1 + 1, q3), (L + 1 + 1 + 1 + 1 + 1, q4), (L + 1 + 1 + 1 + 1, q5), (L + 1 + 1 + 1, q6), (L + 1 + 1, q7), (L + 1, q8)])
    (d5 : q5.data = .cell (some (.int (sz : Int) tz))) (d6 : q6.data = .cell (some (.str y ty))) (d7 : q7.data = .cell (some (.str x tx))) (d8 : q8.data = .cell (some (.ref l)))
    (d1 : q1.data = .cell none) (d2 : q2.data = .cell none) (d3 : q3.data = .cell (some (.ref DT)))
    (i0 : IntsAre r0 (up a)) (i1 : IntsAre r1 (up b)) (i2 : IntsAre r2 (up c)) (iN : IntsAre rn (up z)) (G : Good x y a b c z sz) (d4 : q4.data = .cell (some (.ref DM)))
    (j0 : IntsAre m0 (crI x (up a))) (j1 : IntsAre m1 (crI x (up b))) (j2 : IntsAre m2 (crI x (up c))) (j3 : IntsAre m3 (crI x (up z)))
    (t0 : IntsAre w0 (crI y (up a))) (t1 : IntsAre w1 (crI y (up b))) (t2 : IntsAre w2 (crI y (up c))) (t3 : IntsAre w3 (crI y (up z)))
    (ret : ∀ h' tk', Sub s.heap h' → Q (.ret (.bool true)) { s with heap := h', toks := tk' }) :
    wpAny (model PySem.Challenge.rw_bg0019_01.row.prog w) ((AA 400).deeper (lawEnv L)) (execs (lawRest 8) (lawEnv L)) Q (fun _ _ => False) { s with heap := h, toks := tk } := by
  w_top off
  revert K; k_fill; intro K
  walk_at "my open"
  k_unmd
  try k_fold
  have la := G.la
  have lb := G.lb
  have lc := G.lc
  have lz := G.lz
  have e0 := crI_length x (up a)
  have e1 := crI_length x (up b)
  have e2 := crI_length x (up c)
  have e3 := crI_length x (up z)
  have g0 := crI_length y (up a)
  have g1 := crI_length y (up b)
  have g2 := crI_length y (up c)
  have g3 := crI_length y (up z)
  refine wpAny_execs_cons ?_
  k_steps
  refine Halt.mk ?_
  refine LCg.ListComp_U F (by with_unfolding_all rfl) (by decide) rfl (by decide) rfl ?_
  k_steps
  refine Halt.mk ?_
  k_dflt (refine LCg.CompSrc.ledger (by rfl) (by k_asm) (by k_asm) (by k_mem) (by first | size_fits | exact Nat.le_of_ble_eq_true rfl) ?_; intro g'; lcg_lit)
  refine LCg.CompRest.succ ?_
  intro v I oI C oC D m' h' tk' E' hv hC hx' F' N' off ne
  lcg_open hv
  k_unmd
  k_fold
  k_steps
  refine Halt.mk ?_
  rename (LCg.Off1 _ _) => oa
  rename (IntsAre _ (sumI [crI _ (up a), crI _ (up z)] 6)) => u0
  refine comp_end1 (by with_reducible assumption) (news_drop2 (by with_reducible assumption)) oa.2 off (.inr ⟨_, by k_mem, rfl, _, rfl⟩) ?_
  clear oa off hC hx' ne hv
  walk_at "my sweep"
  refine LCg.CompRest.succ ?_
  intro v I oI C oC D m' h' tk' E' hv hC hx' F' N' off ne
  lcg_open hv
  k_unmd
  k_fold
  k_steps
  refine Halt.mk ?_
  rename (LCg.Off1 _ _) => oa
  rename (IntsAre _ (sumI [crI _ (up b), crI _ (up z)] 6)) => u1
  refine comp_end1 (by with_reducible assumption) (news_drop2 (by with_reducible assumption)) oa.2 off (.inr ⟨_, by k_mem, rfl, _, rfl⟩) ?_
  clear oa off hC hx' ne hv
  walk_at "my sweep"
  refine LCg.CompRest.succ ?_
  intro v I oI C oC D m' h' tk' E' hv hC hx' F' N' off ne
  lcg_open hv
  k_unmd
  k_fold
  k_steps
  refine Halt.mk ?_
  rename (LCg.Off1 _ _) => oa
  rename (IntsAre _ (sumI [crI _ (up c), crI _ (up z)] 6)) => u2
  refine comp_end1 (by with_reducible assumption) (news_drop2 (by with_reducible assumption)) oa.2 off (.inr ⟨_, by k_mem, rfl, _, rfl⟩) ?_
  clear oa off hC hx' ne hv
  walk_at "my sweep"
  refine LCg.CompRest.succ ?_
  intro v I oI C oC D m' h' tk' E' hv hC hx' F' N' off ne
  lcg_open hv
  k_unmd
  k_fold
  k_steps
  refine Halt.mk ?_
  rename (LCg.Off1 _ _) => oa
  rename (IntsAre _ (sumI [crI _ (up z), crI _ (up z)] 6)) => u3
  refine comp_end1 (by with_reducible assumption) (news_drop2 (by with_reducible assumption)) oa.2 off (.inr ⟨_, by k_mem, rfl, _, rfl⟩) ?_
  clear oa off hC hx' ne hv
  walk_at "my sweep"
  refine LCg.CompRest.zero ?_
  intro DU hU tkU FU NU oU
  dsimp only
  k_steps
  refine Halt.mk ?_
  refine LCg.ListComp_U FU (by with_unfolding_all rfl) (by decide) rfl (by decide) rfl ?_
  k_steps
  refine Halt.mk ?_
  k_dflt (refine LCg.CompSrc.ledger (by rfl) (by k_asm) (by k_asm) (by k_mem) (by first | size_fits | exact Nat.le_of_ble_eq_true rfl) ?_; intro g'; lcg_lit)
  refine LCg.CompRest.succ ?_
  intro v I oI C oC D m' h' tk' E' hv hC hx' F' N' off ne
  lcg_open hv
  k_unmd
  k_fold
  k_steps
  refine Halt.mk ?_
  rename (LCg.Off1 _ _) => oa
  rename (IntsAre _ (sumI [crI _ (up a), crI _ (up z)] 6)) => v0
  refine comp_end1 (by with_reducible assumption) (news_drop2 (by with_reducible assumption)) oa.2 off (.inr ⟨_, by k_mem, rfl, _, rfl⟩) ?_
  clear oa off hC hx' ne hv
  walk_at "my sweep"
  refine LCg.CompRest.succ ?_
  intro v I oI C oC D m' h' tk' E' hv hC hx' F' N' off ne
  lcg_open hv
  k_unmd
  k_fold
  k_steps
  refine Halt.mk ?_
  rename (LCg.Off1 _ _) => oa
  rename (IntsAre _ (sumI [crI _ (up b), crI _ (up z)] 6)) => v1
  refine comp_end1 (by with_reducible assumption) (news_drop2 (by with_reducible assumption)) oa.2 off (.inr ⟨_, by k_mem, rfl, _, rfl⟩) ?_
  clear oa off hC hx' ne hv
  walk_at "my sweep"
  refine LCg.CompRest.succ ?_
  intro v I oI C oC D m' h' tk' E' hv hC hx' F' N' off ne
  lcg_open hv
  k_unmd
  k_fold
  k_steps
  refine Halt.mk ?_
  rename (LCg.Off1 _ _) => oa
  rename (IntsAre _ (sumI [crI _ (up c), crI _ (up z)] 6)) => v2
  refine comp_end1 (by with_reducible assumption) (news_drop2 (by with_reducible assumption)) oa.2 off (.inr ⟨_, by k_mem, rfl, _, rfl⟩) ?_
  clear oa off hC hx' ne hv
  walk_at "my sweep"
  refine LCg.CompRest.succ ?_
  intro v I oI C oC D m' h' tk' E' hv hC hx' F' N' off ne
  lcg_open hv
  k_unmd
  k_fold
  k_steps
  refine Halt.mk ?_
  rename (LCg.Off1 _ _) => oa
  rename (IntsAre _ (sumI [crI _ (up z), crI _ (up z)] 6)) => v3
  refine comp_end1 (by with_reducible assumption) (news_drop2 (by with_reducible assumption)) oa.2 off (.inr ⟨_, by k_mem, rfl, _, rfl⟩) ?_
  clear oa off hC hx' ne hv
  walk_at "my sweep"
  refine LCg.CompRest.zero ?_
  intro DV hV tkV FV NV oV
  dsimp only
  rw [G.fa] at u0
  rw [G.fb] at u1
  rw [G.fc] at u2
  rw [G.fz] at u3
  k_steps
  refine Halt.mk ?_
  refine ne_four NV (k := 4) (k' := 4) (by k_mem) (by k_mem) (by k_mem) (by k_mem) (by k_mem) (by k_mem) (by k_mem) (by k_mem) (by k_mem) (by k_mem) u0 u1 u2 u3 v0 v1 v2 v3 (Nat.le_of_ble_eq_true rfl) ?_
  k_steps
  refine Halt.mk ?_
  exact law_9 (s := s) K T hl hi hn hx hy hs (by with_reducible assumption) (news_sub (by with_reducible assumption) (by lcg_sub)) d5 d6 d7 d8 d1 d2 i0 i1 i2 iN G d4 j0 j1 j2 j3 ret
end
set_option maxHeartbeats 8000000 in
theorem law_7 {w : World} {loose : List Str} {mean : ExcName → Option Value} {mg mb : Str → Option Value} {s : Shared} {L l : Addr} {h : Heap} {tk sz : Nat} {vs : List Value} {ns : List Int} {x y : Str} {tx ty tz : Tok} {q1 q2 q3 q4 q5 q6 q7 q8 : Obj} {Q : Flow → Shared → Prop} {DR R0 R1 R2 DN DM M0 M1 M2 M3 : Addr} {r0 r1 r2 rn m0 m1 m2 m3 : List Value} {nR n0 n1 n2 nN nM k0 k1 k2 k3 : Nat} {a b c z : List Nat}
    (K : (hd.heap_39 w.params).In s.heap) (T : Top hd.view_39 loose mean mg mb s.heap) (hl : s.heap.IsList l vs.toArray) (hi : IntsAre vs ns) (hn : ns.length ≤ 63) (hx : x.length ≤ 10) (hy : y.length ≤ 10) (hs : sz ≤ 10)
    (F : Fr s.heap L h (fun z => if z = Str.ofString "noughts" then some (.ref DN) else if z = Str.ofString "rows" then some (.ref DR) else none))
    (N : News s.heap L h [(DM, W.listOf #[.ref M0, .ref M1, .ref M2, .ref M3] nM), (M3, W.listOf m3.toArray k3), (M2, W.listOf m2.toArray k2), (M1, W.listOf m1.toArray k1), (M0, W.listOf m0.toArray k0), (R2, W.listOf r2.toArray n2), (DN, W.listOf rn.toArray nN), (DR, W.listOf #[.ref R0, .ref R1, .ref R2] nR), (R1, W.listOf r1.toArray n1), (R0, W.listOf r0.toArray n0), (L + 1 + 1 + 1 + 1 + 1 + 1 + 1 + 1, q1), (L + 1 + 1 + 1 + 1 + 1 + 1 + 1, q2), (L + 1 + 1 + 1 + 1 + 1 + 1, q3), (L + 1 + 1 + 1 + 1 + 1, q4), (L + 1 + 1 + 1 + 1, q5), (L + 1 + 1 + 1, q6), (L + 1 + 1, q7), (L + 1, q8)])
    (d5 : q5.data = .cell (some (.int (sz : Int) tz))) (d6 : q6.data = .cell (some (.str y ty))) (d7 : q7.data = .cell (some (.str x tx))) (d8 : q8.data = .cell (some (.ref l)))
    (d1 : q1.data = .cell none) (d2 : q2.data = .cell none) (d3 : q3.data = .cell none)
    (i0 : IntsAre r0 (up a)) (i1 : IntsAre r1 (up b)) (i2 : IntsAre r2 (up c)) (iN : IntsAre rn (up z)) (G : Good x y a b c z sz) (d4 : q4.data = .cell (some (.ref DM)))
    (j0 : IntsAre m0 (crI x (up a))) (j1 : IntsAre m1 (crI x (up b))) (j2 : IntsAre m2 (crI x (up c))) (j3 : IntsAre m3 (crI x (up z)))
    (ret : ∀ h' tk', Sub s.heap h' → Q (.ret (.bool true)) { s with heap := h', toks := tk' }) :
    wpAny (model PySem.Challenge.rw_bg0019_01.row.prog w) ((AA 400).deeper (lawEnv L)) (execs (lawRest 7) (lawEnv L)) Q (fun _ _ => False) { s with heap := h, toks := tk } := by
  w_top off
  revert K; k_fill; intro K
  walk_at "my open"
  k_unmd
  try k_fold
  have la := G.la
  have lb := G.lb
  have lc := G.lc
  have lz := G.lz
  have e0 := crI_length x (up a)
  have e1 := crI_length x (up b)
  have e2 := crI_length x (up c)
  have e3 := crI_length x (up z)
  refine wpAny_execs_cons ?_
  k_steps
  refine Halt.mk ?_
  refine LCg.ListComp_U F (by with_unfolding_all rfl) (by decide) rfl (by decide) rfl ?_
  k_steps
  refine Halt.mk ?_
  k_dflt (refine LCg.CompSrc.ledger (by rfl) (by k_asm) (by k_asm) (by k_mem) (by first | size_fits | exact Nat.le_of_ble_eq_true rfl) ?_; intro g'; lcg_lit)
  refine LCg.CompRest.succ ?_
  intro v I oI C oC D m' h' tk' E' hv hC hx' F' N' off ne
  lcg_open hv
  k_unmd
  k_fold
  k_steps
  refine Halt.mk ?_
  rename (LCg.Off1 _ _) => oa
  rename (IntsAre _ (crI _ (up a))) => t0
  refine comp_end1 (by with_reducible assumption) (by with_reducible assumption) oa off (.inr ⟨_, by k_mem, rfl, _, rfl⟩) ?_
  clear oa off hC hx' ne
  refine LCg.CompRest.succ ?_
  intro v I oI C oC D m' h' tk' E' hv hC hx' F' N' off ne
  lcg_open hv
  k_unmd
  k_fold
  k_steps
  refine Halt.mk ?_
  rename (LCg.Off1 _ _) => oa
  rename (IntsAre _ (crI _ (up b))) => t1
  refine comp_end1 (by with_reducible assumption) (by with_reducible assumption) oa off (.inr ⟨_, by k_mem, rfl, _, rfl⟩) ?_
  clear oa off hC hx' ne
  refine LCg.CompRest.succ ?_
  intro v I oI C oC D m' h' tk' E' hv hC hx' F' N' off ne
  lcg_open hv
  k_unmd
  k_fold
  k_steps
  refine Halt.mk ?_
  rename (LCg.Off1 _ _) => oa
  rename (IntsAre _ (crI _ (up c))) => t2
  refine comp_end1 (by with_reducible assumption) (by with_reducible assumption) oa off (.inr ⟨_, by k_mem, rfl, _, rfl⟩) ?_
  clear oa off hC hx' ne
  refine LCg.CompRest.succ ?_
  intro v I oI C oC D m' h' tk' E' hv hC hx' F' N' off ne
  lcg_open hv
  k_unmd
  k_fold
  k_steps
  refine Halt.mk ?_
  rename (LCg.Off1 _ _) => oa
  rename (IntsAre _ (crI _ (up z))) => t3
  refine comp_end1 (by with_reducible assumption) (by with_reducible assumption) oa off (.inr ⟨_, by k_mem, rfl, _, rfl⟩) ?_
  clear oa off hC hx' ne
  refine LCg.CompRest.zero ?_
  intro DTT hM tkM FM NM oM
  dsimp only
  k_steps
  refine Halt.mk ?_
  rename (Obj.data _ = Data.cell (some (Value.ref DTT))) => dT
  exact law_8 (s := s) K T hl hi hn hx hy hs (by with_reducible assumption) (news_sub (by with_reducible assumption) (by lcg_sub)) d5 d6 d7 d8 d1 d2 dT i0 i1 i2 iN G d4 j0 j1 j2 j3 t0 t1 t2 t3 ret
set_option maxHeartbeats 8000000 in
theorem law_6 {w : World} {loose : List Str} {mean : ExcName → Option Value} {mg mb : Str → Option Value} {s : Shared} {L l : Addr} {h : Heap} {tk sz : Nat} {vs : List Value} {ns : List Int} {x y : Str} {tx ty tz : Tok} {q1 q2 q3 q4 q5 q6 q7 q8 : Obj} {Q : Flow → Shared → Prop} {DR R0 R1 R2 DN DM M0 M1 M2 M3 : Addr} {r0 r1 r2 rn m0 m1 m2 m3 : List Value} {nR n0 n1 n2 nN nM k0 k1 k2 k3 : Nat} {a b c z : List Nat}
    (K : (hd.heap_39 w.params).In s.heap) (T : Top hd.view_39 loose mean mg mb s.heap) (hl : s.heap.IsList l vs.toArray) (hi : IntsAre vs ns) (hn : ns.length ≤ 63) (hx : x.length ≤ 10) (hy : y.length ≤ 10) (hs : sz ≤ 10)
    (F : Fr s.heap L h (fun z => if z = Str.ofString "noughts" then some (.ref DN) else if z = Str.ofString "rows" then some (.ref DR) else none))
    (N : News s.heap L h [(DM, W.listOf #[.ref M0, .ref M1, .ref M2, .ref M3] nM), (M3, W.listOf m3.toArray k3), (M2, W.listOf m2.toArray k2), (M1, W.listOf m1.toArray k1), (M0, W.listOf m0.toArray k0), (R2, W.listOf r2.toArray n2), (DN, W.listOf rn.toArray nN), (DR, W.listOf #[.ref R0, .ref R1, .ref R2] nR), (R1, W.listOf r1.toArray n1), (R0, W.listOf r0.toArray n0), (L + 1 + 1 + 1 + 1 + 1 + 1 + 1 + 1, q1), (L + 1 + 1 + 1 + 1 + 1 + 1 + 1, q2), (L + 1 + 1 + 1 + 1 + 1 + 1, q3), (L + 1 + 1 + 1 + 1 + 1, q4), (L + 1 + 1 + 1 + 1, q5), (L + 1 + 1 + 1, q6), (L + 1 + 1, q7), (L + 1, q8)])
    (d5 : q5.data = .cell (some (.int (sz : Int) tz))) (d6 : q6.data = .cell (some (.str y ty))) (d7 : q7.data = .cell (some (.str x tx))) (d8 : q8.data = .cell (some (.ref l)))
    (d1 : q1.data = .cell none) (d2 : q2.data = .cell none) (d3 : q3.data = .cell none)
    (i0 : IntsAre r0 (up a)) (i1 : IntsAre r1 (up b)) (i2 : IntsAre r2 (up c)) (iN : IntsAre rn (up z)) (G : Good x y a b c z sz) (d4 : q4.data = .cell (some (.ref DM)))
    (j0 : IntsAre m0 (crI x (up a))) (j1 : IntsAre m1 (crI x (up b))) (j2 : IntsAre m2 (crI x (up c))) (j3 : IntsAre m3 (crI x (up z)))
    (ret : ∀ h' tk', Sub s.heap h' → Q (.ret (.bool true)) { s with heap := h', toks := tk' }) :
    wpAny (model PySem.Challenge.rw_bg0019_01.row.prog w) ((AA 400).deeper (lawEnv L)) (execs (lawRest 6) (lawEnv L)) Q (fun _ _ => False) { s with heap := h, toks := tk } := by
  w_top off
  revert K; k_fill; intro K
  walk_at "my open"
  k_unmd
  try k_fold
  have la := G.la
  have lb := G.lb
  have lc := G.lc
  have lz := G.lz
  have e0 := crI_length x (up a)
  have e1 := crI_length x (up b)
  have e2 := crI_length x (up c)
  have e3 := crI_length x (up z)
  refine wpAny_execs_cons ?_
  k_steps
  · refine Halt.mk ?_
    exact law_7 (s := s) K T hl hi hn hx hy hs (by with_reducible assumption) (news_sub (by with_reducible assumption) (by lcg_sub)) d5 d6 d7 d8 d1 d2 d3 i0 i1 i2 iN G d4 j0 j1 j2 j3 ret
  · rename (¬ _ = _) => hne
    exact absurd (G.all.trans (by decide)) hne
set_option maxHeartbeats 8000000 in
theorem law_5 {w : World} {loose : List Str} {mean : ExcName → Option Value} {mg mb : Str → Option Value} {s : Shared} {L l : Addr} {h : Heap} {tk sz : Nat} {vs : List Value} {ns : List Int} {x y : Str} {tx ty tz : Tok} {q1 q2 q3 q4 q5 q6 q7 q8 : Obj} {Q : Flow → Shared → Prop} {DR R0 R1 R2 DN : Addr} {r0 r1 r2 rn : List Value} {nR n0 n1 n2 nN : Nat} {a b c z : List Nat}
    (K : (hd.heap_39 w.params).In s.heap) (T : Top hd.view_39 loose mean mg mb s.heap) (hl : s.heap.IsList l vs.toArray) (hi : IntsAre vs ns) (hn : ns.length ≤ 63) (hx : x.length ≤ 10) (hy : y.length ≤ 10) (hs : sz ≤ 10)
    (F : Fr s.heap L h (fun z => if z = Str.ofString "noughts" then some (.ref DN) else if z = Str.ofString "rows" then some (.ref DR) else none))
    (N : News s.heap L h [(R2, W.listOf r2.toArray n2), (DN, W.listOf rn.toArray nN), (DR, W.listOf #[.ref R0, .ref R1, .ref R2] nR), (R1, W.listOf r1.toArray n1), (R0, W.listOf r0.toArray n0), (L + 1 + 1 + 1 + 1 + 1 + 1 + 1 + 1, q1), (L + 1 + 1 + 1 + 1 + 1 + 1 + 1, q2), (L + 1 + 1 + 1 + 1 + 1 + 1, q3), (L + 1 + 1 + 1 + 1 + 1, q4), (L + 1 + 1 + 1 + 1, q5), (L + 1 + 1 + 1, q6), (L + 1 + 1, q7), (L + 1, q8)])
    (d5 : q5.data = .cell (some (.int (sz : Int) tz))) (d6 : q6.data = .cell (some (.str y ty))) (d7 : q7.data = .cell (some (.str x tx))) (d8 : q8.data = .cell (some (.ref l)))
    (d1 : q1.data = .cell none) (d2 : q2.data = .cell none) (d3 : q3.data = .cell none) (d4 : q4.data = .cell none)
    (i0 : IntsAre r0 (up a)) (i1 : IntsAre r1 (up b)) (i2 : IntsAre r2 (up c)) (iN : IntsAre rn (up z)) (G : Good x y a b c z sz)
    (ret : ∀ h' tk', Sub s.heap h' → Q (.ret (.bool true)) { s with heap := h', toks := tk' }) :
    wpAny (model PySem.Challenge.rw_bg0019_01.row.prog w) ((AA 400).deeper (lawEnv L)) (execs (lawRest 5) (lawEnv L)) Q (fun _ _ => False) { s with heap := h, toks := tk } := by
  w_top off
  revert K; k_fill; intro K
  walk_at "my open"
  k_unmd
  try k_fold
  have la := G.la
  have lb := G.lb
  have lc := G.lc
  have lz := G.lz
  refine wpAny_execs_cons ?_
  k_steps
  refine Halt.mk ?_
  refine LCg.ListComp_U F (by with_unfolding_all rfl) (by decide) rfl (by decide) rfl ?_
  k_steps
  refine Halt.mk ?_
  k_dflt (refine LCg.CompSrc.ledger (by rfl) (by k_asm) (by k_asm) (by k_mem) (by first | size_fits | exact Nat.le_of_ble_eq_true rfl) ?_; intro g'; lcg_lit)
  refine LCg.CompRest.succ ?_
  intro v I oI C oC D m' h' tk' E' hv hC hx' F' N' off ne
  lcg_open hv
  k_unmd
  k_fold
  k_steps
  refine Halt.mk ?_
  rename (LCg.Off1 _ _) => oa
  rename (IntsAre _ (crI _ (up a))) => j0
  refine comp_end1 (by with_reducible assumption) (by with_reducible assumption) oa off (.inr ⟨_, by k_mem, rfl, _, rfl⟩) ?_
  clear oa off hC hx' ne
  refine LCg.CompRest.succ ?_
  intro v I oI C oC D m' h' tk' E' hv hC hx' F' N' off ne
  lcg_open hv
  k_unmd
  k_fold
  k_steps
  refine Halt.mk ?_
  rename (LCg.Off1 _ _) => oa
  rename (IntsAre _ (crI _ (up b))) => j1
  refine comp_end1 (by with_reducible assumption) (by with_reducible assumption) oa off (.inr ⟨_, by k_mem, rfl, _, rfl⟩) ?_
  clear oa off hC hx' ne
  refine LCg.CompRest.succ ?_
  intro v I oI C oC D m' h' tk' E' hv hC hx' F' N' off ne
  lcg_open hv
  k_unmd
  k_fold
  k_steps
  refine Halt.mk ?_
  rename (LCg.Off1 _ _) => oa
  rename (IntsAre _ (crI _ (up c))) => j2
  refine comp_end1 (by with_reducible assumption) (by with_reducible assumption) oa off (.inr ⟨_, by k_mem, rfl, _, rfl⟩) ?_
  clear oa off hC hx' ne
  refine LCg.CompRest.succ ?_
  intro v I oI C oC D m' h' tk' E' hv hC hx' F' N' off ne
  lcg_open hv
  k_unmd
  k_fold
  k_steps
  refine Halt.mk ?_
  rename (LCg.Off1 _ _) => oa
  rename (IntsAre _ (crI _ (up z))) => j3
  refine comp_end1 (by with_reducible assumption) (by with_reducible assumption) oa off (.inr ⟨_, by k_mem, rfl, _, rfl⟩) ?_
  clear oa off hC hx' ne
  refine LCg.CompRest.zero ?_
  intro DM hM tkM FM NM oM
  dsimp only
  k_steps
  refine Halt.mk ?_
  rename (Obj.data _ = Data.cell (some (Value.ref _))) => dM
  exact law_6 (s := s) K T hl hi hn hx hy hs (by with_reducible assumption) (news_sub (by with_reducible assumption) (by lcg_sub)) d5 d6 d7 d8 d1 d2 d3 i0 i1 i2 iN G dM j0 j1 j2 j3 ret
set_option maxHeartbeats 8000000 in
theorem law_3 {w : World} {loose : List Str} {mean : ExcName → Option Value} {mg mb : Str → Option Value} {s : Shared} {L l : Addr} {h : Heap} {tk sz : Nat} {vs : List Value} {ns : List Int} {x y : Str} {tx ty tz : Tok} {q1 q2 q3 q4 q5 q6 q7 q8 : Obj} {Q : Flow → Shared → Prop} {DR R0 R1 : Addr} {r0 r1 : List Value} {nR n0 n1 : Nat} {a b c z : List Nat}
    (K : (hd.heap_39 w.params).In s.heap) (T : Top hd.view_39 loose mean mg mb s.heap) (hl : s.heap.IsList l vs.toArray) (hi : IntsAre vs ns) (hn : ns.length ≤ 63) (hx : x.length ≤ 10) (hy : y.length ≤ 10) (hs : sz ≤ 10)
    (F : Fr s.heap L h (fun z => if z = Str.ofString "rows" then some (.ref DR) else none))
    (N : News s.heap L h [(DR, W.listOf #[.ref R0, .ref R1] nR), (R1, W.listOf r1.toArray n1), (R0, W.listOf r0.toArray n0), (L + 1 + 1 + 1 + 1 + 1 + 1 + 1 + 1, q1), (L + 1 + 1 + 1 + 1 + 1 + 1 + 1, q2), (L + 1 + 1 + 1 + 1 + 1 + 1, q3), (L + 1 + 1 + 1 + 1 + 1, q4), (L + 1 + 1 + 1 + 1, q5), (L + 1 + 1 + 1, q6), (L + 1 + 1, q7), (L + 1, q8)])
    (d5 : q5.data = .cell (some (.int (sz : Int) tz))) (d6 : q6.data = .cell (some (.str y ty))) (d7 : q7.data = .cell (some (.str x tx))) (d8 : q8.data = .cell (some (.ref l)))
    (d1 : q1.data = .cell none) (d2 : q2.data = .cell none) (d3 : q3.data = .cell none) (d4 : q4.data = .cell none)
    (i0 : IntsAre r0 (up a)) (i1 : IntsAre r1 (up b)) (G : Good x y a b c z sz) (nd : (@Ne Nat DR R1) ∧ (@Ne Nat DR R0))
    (ret : ∀ h' tk', Sub s.heap h' → Q (.ret (.bool true)) { s with heap := h', toks := tk' }) :
    wpAny (model PySem.Challenge.rw_bg0019_01.row.prog w) ((AA 400).deeper (lawEnv L)) (execs (lawRest 3) (lawEnv L)) Q (fun _ _ => False) { s with heap := h, toks := tk } := by
  w_top off
  revert K; k_fill; intro K
  walk_at "my open"
  k_unmd
  try k_fold
  have la := G.la
  have lb := G.lb
  k_steps
  rename (LCg.Off1 _ _) => oo
  simp only [LCg.Off1, and_true] at oo
  k_steps
  refine Halt.mk ?_
  rename (Fr _ _ _ _) => F5
  rename (News _ _ _ _) => N5
  rename (IntsAre _ (sumI _ _)) => i2
  rename (IntsAre (List.flatten _) _) => iZ
  rw [flat_zero, G.nought] at iZ
  rw [G.sum] at i2
  exact law_5 (s := s) K T hl hi hn hx hy hs F5 (news_sub N5 (by lcg_sub)) d5 d6 d7 d8 d1 d2 d3 d4 i0 i1 i2 iZ G ret
end Mine

namespace Mine
open PySem PySem.W PyProof.Rows PySem.Calls
theorem and_xor_add : ∀ (n x y : Nat), x < n → (x ^^^ y) + 2 * (x &&& y) = x + y := by
  intro n
  induction n with
  | zero => intro x y h; exact absurd h (Nat.not_lt_zero _)
  | succ n ih =>
    intro x y h
    by_cases hx : x = 0
    · subst hx; simp
    have e1 : (x ^^^ y) / 2 = x / 2 ^^^ y / 2 := Nat.xor_div_two_pow (n := 1)
    have e2 : (x &&& y) / 2 = x / 2 &&& y / 2 := Nat.and_div_two_pow (n := 1)
    have e3 : (x ^^^ y) % 2 = x % 2 ^^^ y % 2 := Nat.xor_mod_two_pow (n := 1)
    have e4 : (x &&& y) % 2 = x % 2 &&& y % 2 := Nat.and_mod_two_pow (n := 1)
    have r := ih (x / 2) (y / 2) (by omega)
    have d : (x % 2 ^^^ y % 2) + 2 * (x % 2 &&& y % 2) = x % 2 + y % 2 := by
      rcases Nat.mod_two_eq_zero_or_one x with a | a <;> rcases Nat.mod_two_eq_zero_or_one y with b | b <;> rw [a, b] <;> decide
    omega
theorem bitAnd_nat (x y : Nat) : Builtin.bitAnd (x : Int) (y : Int) = ((x &&& y : Nat) : Int) := bitAnd_pp (Int.natCast_nonneg x) (Int.natCast_nonneg y)
theorem bitXor_nat (x y : Nat) : Builtin.bitXor (x : Int) (y : Int) = ((x ^^^ y : Nat) : Int) := by
  rw [bitXor_and, bitAnd_nat]
  have := and_xor_add (x + 1) x y (Nat.lt_succ_self x)
  omega
def gn : List Nat := [996825010, 642813549, 513874426, 1027748829, 705979059]
def pick (t i : Nat) : Nat := if (t / 2 ^ i) % 2 = 1 then gn.getD i 0 else 0
def gx (t : Nat) : Nat := pick t 0 ^^^ pick t 1 ^^^ pick t 2 ^^^ pick t 3 ^^^ pick t 4
def nstep (c v : Nat) : Nat := (c % 2 ^ 25 * 2 ^ 5 ^^^ v) ^^^ gx (c / 2 ^ 25)
theorem istep_nat (t c i : Nat) (hi : i < 5) : istep (t : Int) (c : Int) (i : Int) = ((c ^^^ pick t i : Nat) : Int) := by
  unfold istep pick
  have e : (t : Int).fdiv (2 ^ ((i : Int)).toNat) = ((t / 2 ^ i : Nat) : Int) := by
    rw [Int.toNat_natCast, Int.fdiv_eq_ediv_of_nonneg _ (by exact Int.pow_nonneg (by decide))]
    norm_cast
  have g : gen.getD ((i : Int)).toNat 0 = ((gn.getD i 0 : Nat) : Int) := by
    rw [Int.toNat_natCast]
    match i, hi with
    | 0, _ => rfl
    | 1, _ => rfl
    | 2, _ => rfl
    | 3, _ => rfl
    | 4, _ => rfl
  have m : Builtin.bitAnd ((t / 2 ^ i : Nat) : Int) 1 = (((t / 2 ^ i) % 2 : Nat) : Int) := by
    have := kbt_mask ((t / 2 ^ i : Nat) : Int) 1
    have e : (2 : Int) ^ 1 - 1 = 1 := by decide
    rw [e] at this
    rw [this]
    norm_cast
  rw [e, m, g]
  by_cases h : (t / 2 ^ i) % 2 = 1
  · rw [if_pos h, if_pos (by rw [h]; decide), bitXor_nat]
  · have h0 : (t / 2 ^ i) % 2 = 0 := by omega
    rw [if_neg h, if_neg (by rw [h0]; decide)]
    exact bitXor_nat c 0
theorem pstep_nat (c v : Nat) : pstep (c : Int) (v : Int) = ((nstep c v : Nat) : Int) := by
  unfold pstep
  have hr : rangeKs 0 5 = [((0 : Nat) : Int), ((1 : Nat) : Int), ((2 : Nat) : Int), ((3 : Nat) : Int), ((4 : Nat) : Int)] := by decide
  have e : (c : Int).fdiv (2 ^ Int.toNat 25) = ((c / 2 ^ 25 : Nat) : Int) := by
    rw [Int.fdiv_eq_ediv_of_nonneg _ (by decide)]
    norm_cast
  have m : Builtin.bitAnd (c : Int) 33554431 = ((c % 2 ^ 25 : Nat) : Int) := by
    have := kbt_mask (c : Int) 25
    have e : (2 : Int) ^ 25 - 1 = 33554431 := by decide
    rw [e] at this
    rw [this]
    norm_cast
  have s : ((c % 2 ^ 25 : Nat) : Int) * 2 ^ Int.toNat 5 = ((c % 2 ^ 25 * 2 ^ 5 : Nat) : Int) := by
    have e5 : Int.toNat 5 = 5 := rfl
    rw [e5]
    norm_cast
  rw [e, m, s, bitXor_nat, hr]
  simp only [List.foldl_cons, List.foldl_nil]
  rw [istep_nat _ _ 0 (by decide), istep_nat _ _ 1 (by decide), istep_nat _ _ 2 (by decide), istep_nat _ _ 3 (by decide), istep_nat _ _ 4 (by decide)]
  unfold nstep gx
  simp only [Nat.xor_assoc]
def np (c : Nat) (l : List Nat) : Nat := l.foldl nstep c
theorem foldl_nat : ∀ (l : List Nat) (c : Nat), (up l).foldl pstep (c : Int) = ((np c l : Nat) : Int)
  | [], _ => rfl
  | v :: l, c => by
    show (up l).foldl pstep (pstep (c : Int) (v : Int)) = _
    rw [pstep_nat, foldl_nat l]
    rfl
theorem pm_nat (l : List Nat) : pm (up l) = ((np 1 l : Nat) : Int) := foldl_nat l 1
theorem np_append (c : Nat) (l m : List Nat) : np c (l ++ m) = np (np c l) m := List.foldl_append
/-- the step is even over xor -/
theorem pick_xor (t s i : Nat) : pick (t ^^^ s) i = pick t i ^^^ pick s i := by
  unfold pick
  have e : (t ^^^ s) / 2 ^ i % 2 = (t / 2 ^ i % 2) ^^^ (s / 2 ^ i % 2) := by
    rw [Nat.xor_div_two_pow]
    exact Nat.xor_mod_two_pow (n := 1)
  rw [e]
  rcases Nat.mod_two_eq_zero_or_one (t / 2 ^ i) with a | a <;> rcases Nat.mod_two_eq_zero_or_one (s / 2 ^ i) with b | b <;> rw [a, b] <;> simp
theorem gx_xor (t s : Nat) : gx (t ^^^ s) = gx t ^^^ gx s := by
  unfold gx
  simp only [pick_xor]
  ac_rfl
theorem mul32_xor (a b : Nat) : (a ^^^ b) * 2 ^ 5 = a * 2 ^ 5 ^^^ b * 2 ^ 5 := by
  rw [← Nat.shiftLeft_eq, ← Nat.shiftLeft_eq, ← Nat.shiftLeft_eq, Nat.shiftLeft_xor_distrib]
theorem nstep_xor (c d v u : Nat) : nstep (c ^^^ d) (v ^^^ u) = nstep c v ^^^ nstep d u := by
  unfold nstep
  rw [Nat.xor_mod_two_pow, mul32_xor, Nat.xor_div_two_pow, gx_xor]
  ac_rfl
abbrev xl (l m : List Nat) : List Nat := List.zipWith (· ^^^ ·) l m
theorem np_xor : ∀ (l m : List Nat) (c d : Nat), l.length = m.length → np (c ^^^ d) (xl l m) = np c l ^^^ np d m
  | [], [], _, _, _ => rfl
  | v :: l, u :: m, c, d, h => by
    show np (nstep (c ^^^ d) (v ^^^ u)) (xl l m) = _
    rw [nstep_xor, np_xor l m _ _ (Nat.succ.inj h)]
    rfl
theorem gx_zero : gx 0 = 0 := by decide
theorem gx_lt (t : Nat) : gx t < 2 ^ 30 := by
  have p : ∀ i, i < 5 → pick t i < 2 ^ 30 := by
    intro i hi
    unfold pick
    split
    · match i, hi with
      | 0, _ => decide
      | 1, _ => decide
      | 2, _ => decide
      | 3, _ => decide
      | 4, _ => decide
    · decide
  unfold gx
  exact Nat.xor_lt_two_pow (Nat.xor_lt_two_pow (Nat.xor_lt_two_pow (Nat.xor_lt_two_pow (p 0 (by decide)) (p 1 (by decide))) (p 2 (by decide))) (p 3 (by decide))) (p 4 (by decide))
theorem nstep_lt {c v : Nat} (hv : v < 2 ^ 30) : nstep c v < 2 ^ 30 := by
  unfold nstep
  refine Nat.xor_lt_two_pow (Nat.xor_lt_two_pow ?_ hv) (gx_lt _)
  have := Nat.mod_lt c (y := 2 ^ 25) (by decide)
  omega
theorem np_lt : ∀ (l : List Nat) (c : Nat), c < 2 ^ 30 → (∀ v ∈ l, v < 2 ^ 30) → np c l < 2 ^ 30
  | [], _, hc, _ => hc
  | v :: l, c, _, h => np_lt l (nstep c v) (nstep_lt (h v List.mem_cons_self)) fun u hu => h u (List.mem_cons_of_mem _ hu)
theorem xor_low (a v : Nat) (hv : v < 2 ^ 5) : a * 2 ^ 5 ^^^ v = a * 2 ^ 5 + v := by
  have e1 : (a * 2 ^ 5 ^^^ v) / 2 ^ 5 = a := by
    rw [Nat.xor_div_two_pow, Nat.mul_div_cancel _ (by decide), Nat.div_eq_of_lt hv, Nat.xor_zero]
  have e2 : (a * 2 ^ 5 ^^^ v) % 2 ^ 5 = v := by
    rw [Nat.xor_mod_two_pow, Nat.mul_mod_left, Nat.mod_eq_of_lt hv, Nat.zero_xor]
  have := Nat.div_add_mod (a * 2 ^ 5 ^^^ v) (2 ^ 5)
  rw [e1, e2] at this
  omega
theorem nstep_small {c v : Nat} (hc : c < 2 ^ 25) (hv : v < 2 ^ 5) : nstep c v = c * 2 ^ 5 + v := by
  unfold nstep
  rw [Nat.div_eq_of_lt hc, gx_zero, Nat.xor_zero, Nat.mod_eq_of_lt hc, xor_low _ _ hv]
theorem gx_low : ∀ t : Fin 32, gx t.val % 2 ^ 5 = 0 → t.val = 0 := by decide
/-- the step loses nothing -/
theorem nstep_zero {c : Nat} (hc : c < 2 ^ 30) (h : nstep c 0 = 0) : c = 0 := by
  unfold nstep at h
  rw [Nat.xor_zero] at h
  have hm : (c % 2 ^ 25 * 2 ^ 5 ^^^ gx (c / 2 ^ 25)) % 2 ^ 5 = 0 := by rw [h]
  rw [Nat.xor_mod_two_pow, Nat.mul_mod_left, Nat.zero_xor] at hm
  have ht : c / 2 ^ 25 = 0 := gx_low ⟨c / 2 ^ 25, by omega⟩ hm
  rw [ht, gx_zero, Nat.xor_zero] at h
  omega
theorem np_zeros (n : Nat) : np 0 (List.replicate n 0) = 0 := by
  induction n with
  | zero => rfl
  | succ n ih =>
    rw [List.replicate_succ]
    show np (nstep 0 0) _ = 0
    rw [show nstep 0 0 = 0 by decide]
    exact ih
theorem np_keeps (n : Nat) : ∀ c, c < 2 ^ 30 → c ≠ 0 → np c (List.replicate n 0) ≠ 0 := by
  induction n with
  | zero => intro c _ h; exact h
  | succ n ih =>
    intro c hc h
    rw [List.replicate_succ]
    show np (nstep c 0) _ ≠ 0
    exact ih _ (nstep_lt (by decide)) fun e => h (nstep_zero hc e)
end Mine

namespace Mine
open PySem PySem.W PyProof.Rows PySem.Calls
def z6 : List Nat := List.replicate 6 0
def digits6 (p : Nat) : List Nat := (List.range 6).map fun i => p / 2 ^ (5 * (5 - i)) % 2 ^ 5
def hrpN (x : Str) : List Nat := x.cps.toList.map (fun c : Nat => c / 2 ^ 5) ++ [0] ++ x.cps.toList.map (fun c : Nat => c % 2 ^ 5)
def crN (h d : List Nat) : List Nat := digits6 (np 1 (h ++ d ++ z6) ^^^ 1)
theorem mask31 (n : Nat) : Builtin.bitAnd (n : Int) 31 = ((n % 2 ^ 5 : Nat) : Int) := by
  have := kbt_mask (n : Int) 5
  have e : (2 : Int) ^ 5 - 1 = 31 := by decide
  rw [e] at this
  rw [this]
  norm_cast
theorem fdiv_nat (n k : Nat) : (n : Int).fdiv (2 ^ k) = ((n / 2 ^ k : Nat) : Int) := by
  rw [Int.fdiv_eq_ediv_of_nonneg _ (Int.pow_nonneg (by decide))]
  norm_cast
theorem hrp_nat (x : Str) : hrpI x = up (hrpN x) := by
  unfold hrpI hrpN
  rw [up_append, up_append]
  unfold up
  rw [List.map_map, List.map_map]
  have e1 : (fun c : Nat => (c : Int).fdiv (2 ^ Int.toNat 5)) = ((fun n : Nat => (n : Int)) ∘ fun c : Nat => c / 2 ^ 5) := funext fun c => fdiv_nat c 5
  have e2 : (fun c : Nat => Builtin.bitAnd (c : Int) 31) = ((fun n : Nat => (n : Int)) ∘ fun c : Nat => c % 2 ^ 5) := funext fun c => mask31 c
  rw [e1, e2]
  rfl
theorem cr_nat (x : Str) (d : List Nat) : crI x (up d) = up (crN (hrpN x) d) := by
  unfold crI crN digits6
  rw [hrp_nat]
  have e : up (hrpN x) ++ up d ++ [0, 0, 0, 0, 0, 0] = up (hrpN x ++ d ++ z6) := by
    rw [up_append, up_append]
    rfl
  rw [e, pm_nat]
  have e1 : Builtin.bitXor ((np 1 (hrpN x ++ d ++ z6) : Nat) : Int) 1 = ((np 1 (hrpN x ++ d ++ z6) ^^^ 1 : Nat) : Int) := bitXor_nat _ 1
  rw [e1]
  generalize np 1 (hrpN x ++ d ++ z6) ^^^ 1 = q
  unfold up
  rw [List.map_map]
  refine List.map_congr_left fun i hi => ?_
  have hi' : i < 6 := List.mem_range.mp hi
  have et : (5 * (5 - (i : Int))).toNat = 5 * (5 - i) := by omega
  rw [et, fdiv_nat, mask31]
  rfl
theorem digits_length (p : Nat) : (digits6 p).length = 6 := by unfold digits6; rw [List.length_map, List.length_range]
theorem np_digits {q : Nat} (hq : q < 2 ^ 30) : np 0 (digits6 q) = q := by
  show nstep (nstep (nstep (nstep (nstep (nstep 0 (q / 2 ^ 25 % 2 ^ 5)) (q / 2 ^ 20 % 2 ^ 5)) (q / 2 ^ 15 % 2 ^ 5)) (q / 2 ^ 10 % 2 ^ 5)) (q / 2 ^ 5 % 2 ^ 5)) (q / 2 ^ 0 % 2 ^ 5) = q
  have t0 := nstep_small (c := 0) (v := q / 2 ^ 25 % 2 ^ 5) (by omega) (Nat.mod_lt _ (by decide))
  rw [t0]
  have t1 := nstep_small (c := (0) * 2 ^ 5 + q / 2 ^ 25 % 2 ^ 5) (v := q / 2 ^ 20 % 2 ^ 5) (by omega) (Nat.mod_lt _ (by decide))
  rw [t1]
  have t2 := nstep_small (c := ((0) * 2 ^ 5 + q / 2 ^ 25 % 2 ^ 5) * 2 ^ 5 + q / 2 ^ 20 % 2 ^ 5) (v := q / 2 ^ 15 % 2 ^ 5) (by omega) (Nat.mod_lt _ (by decide))
  rw [t2]
  have t3 := nstep_small (c := (((0) * 2 ^ 5 + q / 2 ^ 25 % 2 ^ 5) * 2 ^ 5 + q / 2 ^ 20 % 2 ^ 5) * 2 ^ 5 + q / 2 ^ 15 % 2 ^ 5) (v := q / 2 ^ 10 % 2 ^ 5) (by omega) (Nat.mod_lt _ (by decide))
  rw [t3]
  have t4 := nstep_small (c := ((((0) * 2 ^ 5 + q / 2 ^ 25 % 2 ^ 5) * 2 ^ 5 + q / 2 ^ 20 % 2 ^ 5) * 2 ^ 5 + q / 2 ^ 15 % 2 ^ 5) * 2 ^ 5 + q / 2 ^ 10 % 2 ^ 5) (v := q / 2 ^ 5 % 2 ^ 5) (by omega) (Nat.mod_lt _ (by decide))
  rw [t4]
  have t5 := nstep_small (c := (((((0) * 2 ^ 5 + q / 2 ^ 25 % 2 ^ 5) * 2 ^ 5 + q / 2 ^ 20 % 2 ^ 5) * 2 ^ 5 + q / 2 ^ 15 % 2 ^ 5) * 2 ^ 5 + q / 2 ^ 10 % 2 ^ 5) * 2 ^ 5 + q / 2 ^ 5 % 2 ^ 5) (v := q / 2 ^ 0 % 2 ^ 5) (by omega) (Nat.mod_lt _ (by decide))
  rw [t5]
  omega
theorem xl_map {α : Type} (f g : α → Nat) : ∀ l : List α, xl (l.map f) (l.map g) = l.map fun i => f i ^^^ g i
  | [] => rfl
  | a :: l => by
    show (f a ^^^ g a) :: xl (l.map f) (l.map g) = _
    rw [xl_map f g l]
    rfl
theorem digits_xor (p q : Nat) : xl (digits6 p) (digits6 q) = digits6 (p ^^^ q) := by
  unfold digits6
  rw [xl_map]
  refine List.map_congr_left fun i _ => ?_
  show (p / 2 ^ (5 * (5 - i)) % 2 ^ 5 ^^^ q / 2 ^ (5 * (5 - i)) % 2 ^ 5) = _
  rw [Nat.xor_div_two_pow, Nat.xor_mod_two_pow]
theorem xl_zero : ∀ l : List Nat, xl l (List.replicate l.length 0) = l
  | [] => rfl
  | a :: l => by
    show (a ^^^ 0) :: xl l (List.replicate l.length 0) = _
    rw [xl_zero l, Nat.xor_zero]
theorem zero_xl : ∀ l : List Nat, xl (List.replicate l.length 0) l = l
  | [] => rfl
  | a :: l => by
    show (0 ^^^ a) :: xl (List.replicate l.length 0) l = _
    rw [zero_xl l, Nat.zero_xor]
theorem xl_length {l m : List Nat} {n : Nat} (hl : l.length = n) (hm : m.length = n) : (xl l m).length = n := by
  rw [List.length_zipWith, hl, hm, Nat.min_self]
theorem xl_append {a b c d : List Nat} (h : a.length = b.length) : xl (a ++ c) (b ++ d) = xl a b ++ xl c d := List.zipWith_append h
theorem as_range {l : List Nat} {m : Nat} (h : l.length = m) : l = (List.range m).map fun k => l.getD k 0 := by
  subst h
  exact ((map_range_getD l fun v => v).trans (List.map_id' l)).symm
theorem up_getD (l : List Nat) (k : Nat) : (up l).getD k 0 = ((l.getD k 0 : Nat) : Int) := by
  unfold up
  rw [List.getD_eq_getElem?_getD, List.getD_eq_getElem?_getD, List.getElem?_map]
  cases l[k]? <;> rfl
theorem sum2 {a b : List Nat} {m : Nat} (ha : a.length = m) (hb : b.length = m) : sumI [up a, up b] m = up (xl a b) := by
  conv => rhs; rw [as_range ha, as_range hb, xl_map]
  unfold sumI up
  rw [List.map_map]
  refine List.map_congr_left fun k _ => ?_
  show Builtin.bitXor (Builtin.bitXor 0 ((up a).getD k 0)) ((up b).getD k 0) = _
  rw [up_getD, up_getD]
  have e := bitXor_nat 0 (a.getD k 0)
  rw [Nat.zero_xor] at e
  have e' : Builtin.bitXor 0 ((a.getD k 0 : Nat) : Int) = _ := e
  rw [e', bitXor_nat]
  rfl
theorem sum3 {a b c : List Nat} {m : Nat} (ha : a.length = m) (hb : b.length = m) (hc : c.length = m) : sumI [up a, up b, up c] m = up (xl (xl a b) c) := by
  have hab := xl_length ha hb
  conv => rhs; rw [as_range hc, as_range hab, xl_map, as_range ha, as_range hb, xl_map]
  unfold sumI up
  rw [List.map_map]
  refine List.map_congr_left fun k hk => ?_
  have hk' : k < m := List.mem_range.mp hk
  show Builtin.bitXor (Builtin.bitXor (Builtin.bitXor 0 ((up a).getD k 0)) ((up b).getD k 0)) ((up c).getD k 0) = ((((List.range m).map fun i => a.getD i 0 ^^^ b.getD i 0).getD k 0 ^^^ c.getD k 0 : Nat) : Int)
  rw [up_getD, up_getD, up_getD]
  have e := bitXor_nat 0 (a.getD k 0)
  rw [Nat.zero_xor] at e
  have e' : Builtin.bitXor 0 ((a.getD k 0 : Nat) : Int) = _ := e
  rw [e', bitXor_nat, bitXor_nat]
  congr 2
  rw [List.getD_eq_getElem?_getD (l := (List.range m).map _), List.getElem?_map, List.getElem?_range hk']
  rfl
theorem sum4 {a b c d : List Nat} {m : Nat} (ha : a.length = m) (hb : b.length = m) (hc : c.length = m) (hd : d.length = m) : sumI [up a, up b, up c, up d] m = up (xl (xl (xl a b) c) d) := by
  have h3 := sum3 ha hb hc
  have habc := xl_length (xl_length ha hb) hc
  rw [← sum2 habc hd, ← h3]
  unfold sumI
  refine List.map_congr_left fun k hk => ?_
  have hk' : k < m := List.mem_range.mp hk
  show Builtin.bitXor (Builtin.bitXor (Builtin.bitXor (Builtin.bitXor 0 ((up a).getD k 0)) ((up b).getD k 0)) ((up c).getD k 0)) ((up d).getD k 0) = Builtin.bitXor (Builtin.bitXor 0 (((List.range m).map fun k => ([up a, up b, up c].map fun r => r.getD k 0).foldl Builtin.bitXor 0).getD k 0)) ((up d).getD k 0)
  congr 1
  rw [List.getD_eq_getElem?_getD (l := (List.range m).map _), List.getElem?_map, List.getElem?_range hk']
  show Builtin.bitXor (Builtin.bitXor (Builtin.bitXor 0 ((up a).getD k 0)) ((up b).getD k 0)) ((up c).getD k 0) = Builtin.bitXor 0 (Builtin.bitXor (Builtin.bitXor (Builtin.bitXor 0 ((up a).getD k 0)) ((up b).getD k 0)) ((up c).getD k 0))
  rw [up_getD, up_getD, up_getD]
  have z : ∀ n : Nat, Builtin.bitXor 0 (n : Int) = (n : Int) := fun n => by
    have e := bitXor_nat 0 n
    rw [Nat.zero_xor] at e
    exact e
  rw [z, bitXor_nat, bitXor_nat, z]
/-- a made word is valid -/
theorem word_valid (h d : List Nat) : np 1 (h ++ (d ++ crN h d)) = 1 := by
  rw [← List.append_assoc, np_append]
  unfold crN
  rw [np_append 1 (h ++ d) z6]
  generalize np 1 (h ++ d) = S
  have hb : np S z6 < 2 ^ 30 := np_lt [0, 0, 0, 0, 0] (nstep S 0) (nstep_lt (by decide)) (by decide)
  have e := np_xor z6 (digits6 (np S z6 ^^^ 1)) S 0 (by rw [digits_length]; rfl)
  have e2 : xl z6 (digits6 (np S z6 ^^^ 1)) = digits6 (np S z6 ^^^ 1) := by
    have := zero_xl (digits6 (np S z6 ^^^ 1))
    rw [digits_length] at this
    exact this
  rw [Nat.xor_zero, e2, np_digits (Nat.xor_lt_two_pow hb (by decide)), ← Nat.xor_assoc, Nat.xor_self, Nat.zero_xor] at e
  exact e
theorem cr_diff (h a z : List Nat) (hl : a.length = z.length) : xl (crN h a) (crN h z) = digits6 (np 0 (xl (a ++ z6) (z ++ z6))) := by
  unfold crN
  rw [digits_xor]
  congr 1
  rw [List.append_assoc, List.append_assoc, np_append 1 h, np_append 1 h]
  have e := np_xor (a ++ z6) (z ++ z6) (np 1 h) (np 1 h) (by rw [List.length_append, List.length_append, hl])
  rw [Nat.xor_self] at e
  rw [e]
  have : ∀ p q : Nat, (p ^^^ 1) ^^^ (q ^^^ 1) = p ^^^ q := fun p q => by
    have : (p ^^^ 1) ^^^ (q ^^^ 1) = (p ^^^ q) ^^^ (1 ^^^ 1) := by ac_rfl
    rw [this, Nat.xor_self, Nat.xor_zero]
  exact this _ _
def eL (n p t : Nat) : List Nat := (List.range n).map fun k => if k = p then t else 0
theorem eL_np (p t : Nat) (h1 : 1 ≤ t) (h2 : t < 2 ^ 5) : ∀ n, (n ≤ p → np 0 (eL n p t) = 0) ∧ (p < n → np 0 (eL n p t) ≠ 0 ∧ np 0 (eL n p t) < 2 ^ 30) := by
  intro n
  induction n with
  | zero => exact ⟨fun _ => rfl, fun h => absurd h (Nat.not_lt_zero _)⟩
  | succ n ih =>
    have e : np 0 (eL (n + 1) p t) = nstep (np 0 (eL n p t)) (if n = p then t else 0) := by
      unfold eL
      rw [List.range_succ, List.map_append, np_append]
      rfl
    refine ⟨fun h => ?_, fun h => ?_⟩
    · rw [e, if_neg (by omega), ih.1 (by omega)]
      decide
    · rw [e]
      by_cases hp : n = p
      · rw [if_pos hp, ih.1 (by omega), nstep_small (by decide) h2]
        omega
      · rw [if_neg hp]
        have := ih.2 (by omega)
        exact ⟨fun z => this.1 (nstep_zero this.2 z), nstep_lt (by decide)⟩
end Mine

namespace Mine
open PySem PySem.W PyProof.Rows PySem.Calls
theorem up_zeros (n : Nat) : List.replicate n (0 : Int) = up (List.replicate n 0) := by
  unfold up
  rw [List.map_replicate]
  rfl
theorem word_up (x : Str) (d : List Nat) : up d ++ crI x (up d) = up (d ++ crN (hrpN x) d) := by rw [cr_nat, up_append]
theorem pm_word (x : Str) (d : List Nat) : pm (hrpI x ++ up d) = ((np 1 (hrpN x ++ d) : Nat) : Int) := by rw [hrp_nat, ← up_append, pm_nat]
theorem crN_length (h d : List Nat) : (crN h d).length = 6 := digits_length _
theorem z6_zeros (n : Nat) : List.replicate n 0 ++ z6 = List.replicate (n + 6) 0 := by
  unfold z6
  rw [List.replicate_append_replicate]
theorem is_one {n : Nat} (h : n = 1) : (((n : Nat) : Int) == 1) = true := by subst h; rfl
theorem fa_of (x y : Str) (d z : List Nat) (hl : d.length = z.length) : sumI [crI x (up d), crI x (up z)] 6 = sumI [crI y (up d), crI y (up z)] 6 := by
  rw [cr_nat, cr_nat, cr_nat, cr_nat, sum2 (crN_length _ _) (crN_length _ _), sum2 (crN_length _ _) (crN_length _ _), cr_diff _ _ _ hl, cr_diff _ _ _ hl]
theorem all_of (x : Str) (a b : List Nat) (n : Nat) (ha : a.length = n) (hb : b.length = n) :
    sumI [crI x (up a), crI x (up b), crI x (up (xl a b)), crI x (up (List.replicate n 0))] 6 = [0, 0, 0, 0, 0, 0] := by
  rw [cr_nat, cr_nat, cr_nat, cr_nat, sum4 (crN_length _ _) (crN_length _ _) (crN_length _ _) (crN_length _ _)]
  have hc := xl_length ha hb
  have hz : (List.replicate n 0).length = n := List.length_replicate ..
  have e1 := cr_diff (hrpN x) a b (ha.trans hb.symm)
  have e2 := cr_diff (hrpN x) (xl a b) (List.replicate n 0) (hc.trans hz.symm)
  rw [e1]
  have e3 : xl (xl a b ++ z6) (List.replicate n 0 ++ z6) = xl a b ++ z6 := by
    have := xl_zero (xl a b ++ z6)
    rw [List.length_append, hc, show z6.length = 6 from rfl] at this
    rw [z6_zeros]
    exact this
  have e4 : xl (a ++ z6) (b ++ z6) = xl a b ++ z6 := by
    rw [xl_append (ha.trans hb.symm)]
    congr 1
  rw [e3] at e2
  rw [e4]
  generalize np 0 (xl a b ++ z6) = q at e2
  have assoc : ∀ (u v w : List Nat), u.length = v.length → v.length = w.length → xl (xl u v) w = xl u (xl v w) := by
    intro u
    induction u with
    | nil => intro v w h1 _; cases v with
      | nil => rfl
      | cons _ _ => cases h1
    | cons p u ih => intro v w h1 h2; cases v with
      | nil => cases h1
      | cons r v => cases w with
        | nil => cases h2
        | cons t w =>
          show (p ^^^ r ^^^ t) :: xl (xl u v) w = (p ^^^ (r ^^^ t)) :: xl u (xl v w)
          rw [ih v w (Nat.succ.inj h1) (Nat.succ.inj h2), Nat.xor_assoc]
  rw [assoc _ _ _ (by rw [digits_length, crN_length]) (by rw [crN_length, crN_length]), e2, digits_xor, Nat.xor_self]
  decide
theorem valid_of (x : Str) (d : List Nat) : (pm (hrpI x ++ (up d ++ crI x (up d))) == 1) = true := by
  rw [word_up, pm_word]
  exact is_one (word_valid _ _)
theorem three (h p q r : List Nat) (n : Nat) (hp : p.length = n) (hq : q.length = n) (hr : r.length = n) (ep : np 1 (h ++ p) = 1) (eq : np 1 (h ++ q) = 1) (er : np 1 (h ++ r) = 1) :
    np 1 (h ++ xl (xl p q) r) = 1 := by
  rw [np_append] at ep eq er ⊢
  generalize np 1 h = S at *
  have e1 := np_xor p q S S (hp.trans hq.symm)
  have e2 := np_xor (xl p q) r (S ^^^ S) S ((xl_length hp hq).trans hr.symm)
  rw [e1, ep, eq, er, Nat.xor_self, Nat.xor_self, Nat.zero_xor, Nat.zero_xor] at e2
  exact e2
theorem good_of (x y : Str) (a b : List Nat) (n : Nat) (ha : a.length = n) (hb : b.length = n) : Good x y a b (xl a b) (List.replicate n 0) n := by
  have hc := xl_length ha hb
  have hz : (List.replicate n 0).length = n := List.length_replicate ..
  have wl : ∀ d : List Nat, d.length = n → (d ++ crN (hrpN x) d).length = n + 6 := fun d hd => by rw [List.length_append, hd, crN_length]
  refine ⟨(up_length a).trans ha, (up_length b).trans hb, (up_length _).trans hc, (up_length _).trans hz, sum2 ha hb, up_zeros n, fa_of x y _ _ (ha.trans hz.symm), fa_of x y _ _ (hb.trans hz.symm), fa_of x y _ _ (hc.trans hz.symm), fa_of x y _ _ rfl, all_of x a b n ha hb,
    valid_of x a, valid_of x b, valid_of x _, valid_of x _, ?_, ?_, ?_⟩
  · rw [word_up, word_up, word_up, sum3 (wl a ha) (wl b hb) (wl _ hz), pm_word]
    exact is_one (three _ _ _ _ _ (wl a ha) (wl b hb) (wl _ hz) (word_valid _ _) (word_valid _ _) (word_valid _ _))
  · rw [word_up, word_up, word_up, sum3 (wl a ha) (wl b hb) (wl _ hc), pm_word]
    exact is_one (three _ _ _ _ _ (wl a ha) (wl b hb) (wl _ hc) (word_valid _ _) (word_valid _ _) (word_valid _ _))
  · intro p t hp0 hp1 ht0 ht1
    have e : ((List.range (n + 6)).map fun k : Nat => if (k : Int) = p then t else 0) = up (eL (n + 6) p.toNat t.toNat) := by
      unfold eL up
      rw [List.map_map]
      refine List.map_congr_left fun k _ => ?_
      show _ = (((if k = p.toNat then t.toNat else 0 : Nat)) : Int)
      by_cases hk : (k : Int) = p
      · rw [if_pos hk, if_pos (by omega)]
        omega
      · rw [if_neg hk, if_neg (by omega)]
        rfl
    have el : (eL (n + 6) p.toNat t.toNat).length = n + 6 := by unfold eL; rw [List.length_map, List.length_range]
    rw [e, word_up, word_up, word_up, sum4 (wl a ha) (wl b hb) (wl _ hc) el, pm_word, np_append]
    have v := three (hrpN x) _ _ _ _ (wl a ha) (wl b hb) (wl _ hc) (word_valid _ _) (word_valid _ _) (word_valid _ _)
    rw [np_append] at v
    have q := (eL_np p.toNat t.toNat (by omega) (by omega) (n + 6)).2 (by omega)
    have s := np_xor (xl (xl (a ++ crN (hrpN x) a) (b ++ crN (hrpN x) b)) (xl a b ++ crN (hrpN x) (xl a b))) (eL (n + 6) p.toNat t.toNat) (np 1 (hrpN x)) 0
      ((xl_length (xl_length (wl a ha) (wl b hb)) (wl _ hc)).trans el.symm)
    rw [Nat.xor_zero, v] at s
    rw [s]
    generalize np 0 (eL (n + 6) p.toNat t.toNat) = r at q
    rw [beq_eq_false_iff_ne]
    intro h
    have h' : 1 ^^^ r = 1 := by exact_mod_cast h
    refine q.1 ?_
    have : 1 ^^^ (1 ^^^ r) = 1 ^^^ 1 := congrArg (1 ^^^ ·) h'
    rw [← Nat.xor_assoc, Nat.xor_self, Nat.zero_xor] at this
    exact this
/-- the two read rows, as the walk leaves them -/
def rowN (ns : List Int) (side sz : Nat) : List Nat := (List.range sz).map fun k : Nat => ((ns.getD (4 + 10 * (side : Int) + (k : Int)).toNat (7 * (k : Int) + 3 * (side : Int) + 1)).fmod 32).toNat
theorem rowN_length (ns : List Int) (side sz : Nat) : (rowN ns side sz).length = sz := by unfold rowN; rw [List.length_map, List.length_range]
theorem rowN_up (ns : List Int) (side sz : Nat) : (List.range sz).map (fun k : Nat => (ns.getD (4 + 10 * (side : Int) + (k : Int)).toNat (7 * (k : Int) + 3 * (side : Int) + 1)).fmod 32) = up (rowN ns side sz) := by
  unfold rowN up
  rw [List.map_map]
  refine List.map_congr_left fun k _ => ?_
  exact (Int.toNat_of_nonneg (Int.fmod_nonneg_of_pos _ (by decide))).symm
end Mine

namespace Mine
open PySem PySem.W PyProof.Rows PySem.Calls
set_option maxRecDepth 100000
theorem cells8 {cm : Str → Option Value} {n1 n2 n3 n4 n5 n6 n7 n8 : Str} {c1 c2 c3 c4 c5 c6 c7 c8 : Addr} {cells : Led} (x : CellsAre cm [(n1, c1), (n2, c2), (n3, c3), (n4, c4), (n5, c5), (n6, c6), (n7, c7), (n8, c8)] cells) :
    ∃ o1 o2 o3 o4 o5 o6 o7 o8, cells = [(c1, o1), (c2, o2), (c3, o3), (c4, o4), (c5, o5), (c6, o6), (c7, o7), (c8, o8)] ∧ o1.data = .cell (cm n1) ∧ o2.data = .cell (cm n2) ∧ o3.data = .cell (cm n3) ∧ o4.data = .cell (cm n4) ∧ o5.data = .cell (cm n5) ∧ o6.data = .cell (cm n6) ∧ o7.data = .cell (cm n7) ∧ o8.data = .cell (cm n8) := by
  cases x with | cons h1 x => cases x with | cons h2 x => cases x with | cons h3 x => cases x with | cons h4 x => cases x with | cons h5 x => cases x with | cons h6 x => cases x with | cons h7 x => cases x with | cons h8 x =>
    cases x
    exact ⟨_, _, _, _, _, _, _, _, rfl, h1, h2, h3, h4, h5, h6, h7, h8⟩
theorem perm5 {α : Type} {p a b c d e : α} {l : List α} (h : p ∈ a :: b :: c :: d :: e :: l) : p ∈ e :: a :: b :: c :: d :: l := by
  simp only [List.mem_cons] at h ⊢
  rcases h with h | h | h | h | h | h
  · exact .inr (.inl h)
  · exact .inr (.inr (.inl h))
  · exact .inr (.inr (.inr (.inl h)))
  · exact .inr (.inr (.inr (.inr (.inl h))))
  · exact .inl h
  · exact .inr (.inr (.inr (.inr (.inr h))))
def rowI (ns : List Int) (side : Int) (sz : Nat) : List Int := (List.range sz).map fun k : Nat => (ns.getD (4 + 10 * side + (k : Int)).toNat (7 * (k : Int) + 3 * side + 1)).fmod 32
local macro_rules | `(tactic| walk_at "eval ListComp") => `(tactic| (k_here; refine Halt.out ?_))
local macro_rules | `(tactic| walk_at "exec Assign cons ListComp") => `(tactic| (k_here; refine Halt.out ?_))
local macro_rules | `(tactic| walk_at "CompSrc") => `(tactic| (k_here; refine Halt.out ?_))
local macro_rules | `(tactic| walk_at "call ref") => `(tactic| (k_here; k_dflt (refine' use_name (c_name _ _ _ _) rfl (Nat.le_of_ble_eq_true rfl) (Nat.le_of_ble_eq_true rfl) ?F ?N ?K ?T ⟨?l, ?i, ?z⟩ ?_; (case F => k_asm); (case N => k_asm); (case K => k_asm); (case T => k_asm); (case l => is_list); (case i => l_ints); (case z => l_fit)); intro x' t' h' tk' F' N' hx'; (try k_unmd); (try k_fold)))
local macro_rules | `(tactic| walk_at "call ref") => `(tactic| (k_here; k_dflt (refine' use_int (c_at _ _ _ _ _ _ _ _) rfl (Nat.le_of_ble_eq_true rfl) (Nat.le_of_ble_eq_true rfl) ?F ?N ?K ?T ⟨?l, ?i, ?z, ?z1, ?z2⟩ ?_; (case F => k_asm); (case N => k_asm); (case K => k_asm); (case T => k_asm); (case l => is_list); (case i => l_ints); (case z => l_fit); (case z1 => omega); (case z2 => omega)); intro t' h' tk' F' N'; (try k_unmd); (try k_fold)))
local macro_rules | `(tactic| walk_at "call ref") => `(tactic| (k_here; k_dflt (refine' use_ints (c_create _ _ _ _ _ _) rfl (Nat.le_of_ble_eq_true rfl) (Nat.le_of_ble_eq_true rfl) ?F ?N ?K ?T ⟨?x, ?l, ?i, ?z⟩ ?_; (case F => k_asm); (case N => k_asm); (case K => k_asm); (case T => k_asm); (case x => omega); (case l => is_list); (case i => l_ints); (case z => l_fit)); intro a' us' k' h' tk' F' N' o1' hI'; (try simp only [LCg.Off1, and_true] at o1'); (try k_unmd); (try k_fold)))
set_option maxHeartbeats 8000000 in
theorem c_law (w : World) (l : Addr) (vs : List Value) (ns : List Int) : Tell w 400 62 [.ref l] (fun h => h.IsList l vs.toArray ∧ IntsAre vs ns ∧ ns.length ≤ 63) (fun r _ _ => r = .bool true) := by
  w_top off
  intro loose mean mg mb A s Q E hh hdp hu K T hpre ret
  obtain ⟨hl, hi, hn⟩ := hpre
  refine lift_A hh hdp hu ?_
  clear hdp hu hh
  revert K; k_fill; intro K
  k_dflt (refine enter1 (binds := [(Str.ofString "script", .ref l)]) K T (by k_is) (by k_is) (by decide) (BindsTo.of_eq rfl) rfl (by decide +kernel) ?_ rfl rfl rfl)
  intro L' h0 tk0 cells kS F0 N0 Y0
  obtain ⟨o1, o2, o3, o4, o5, o6, o7, o8, hE', d1, d2, d3, d4, d5, d6, d7, d8⟩ := cells8 Y0
  subst hE'
  clear Y0
  replace d5 : o5.data = .cell none := d5
  replace d6 : o6.data = .cell none := d6
  replace d7 : o7.data = .cell none := d7
  replace d1 : o1.data = .cell none := d1
  replace d2 : o2.data = .cell none := d2
  replace d3 : o3.data = .cell none := d3
  replace d4 : o4.data = .cell none := d4
  replace d8 : o8.data = .cell (some (.ref l)) := d8
  replace F0 : Fr s.heap L' h0 (fun _ => none) := F0
  k_unmd
  k_fold
  have hq : (Str.ofString "q").length = 1 := by decide +kernel
  k_steps
  refine Halt.mk ?_
  rename_i x tx hA tkA hx qA eA D1 ws hB hI1 hC1 hL1 l1 y0 ty hC tkC hy0 qB eB t3 k3 hle D2 hD l2 hE hF oN dN hG oO dO tkO t4 hH tk4 hJ oS F1 N1 dS
  have hy : (y0 ++ Str.ofString "q").length ≤ 10 := by have := hle.2; omega
  generalize y0 ++ Str.ofString "q" = y at dO hy
  obtain ⟨sz, hsz, hs10⟩ : ∃ n : Nat, (ns.getD (Int.toNat 3) 4).fmod 11 = (n : Int) ∧ n ≤ 10 := by
    have e1 := fmod_lo (ns.getD (Int.toNat 3) 4) (n := 11) (by decide)
    have e2 := fmod_hi (ns.getD (Int.toNat 3) 4) (n := 11) (by decide)
    exact ⟨((ns.getD (Int.toNat 3) 4).fmod 11).toNat, by omega, by omega⟩
  rw [hsz] at dS
  have N2 : News s.heap L' hJ [(L' + 1 + 1 + 1 + 1 + 1 + 1 + 1 + 1, o1), (L' + 1 + 1 + 1 + 1 + 1 + 1 + 1, o2), (L' + 1 + 1 + 1 + 1 + 1 + 1, o3), (L' + 1 + 1 + 1 + 1 + 1, o4), (L' + 1 + 1 + 1 + 1, oS), (L' + 1 + 1 + 1, oO), (L' + 1 + 1, oN), (L' + 1, o8)] := fun p hp => N1 p (List.mem_cons_of_mem _ (List.mem_cons_of_mem _ hp))
  have F2 := F1
  replace hx : x.length ≤ 10 := Nat.le_trans hx (by decide)
  clear N1 F1 hle hy0 l1 l2 hL1 hC1 hI1 hq hsz d5 d6 d7 kS
  try clear qB eB qA eA
  try clear tkC hC ty hB ws tkA hA
  refine Assign_rows F2 rfl (by with_unfolding_all rfl) (by with_unfolding_all rfl) rfl (by decide) (fun _ _ => rfl) (fun _ => rfl) (fun _ => rfl) rfl rfl ?_
  k_steps
  rename_i hR FR NR kR
  refine ⟨_, _, _, _, _, _, 2, _, rfl, rfl, FR, NR, hR, by decide, by decide, by decide, ?_⟩
  rintro s₂ ⟨g, rfl⟩
  intro t I oI C oC c oc D h tk E' hoc F N off offc ne
  replace hoc : oc.data = .cell (some (.int 0 t)) := hoc
  k_unmd
  k_fold
  k_steps
  refine Halt.mk ?_
  refine LCg.ListComp_U F (by with_unfolding_all rfl) (by decide) rfl (by decide) rfl ?_
  k_steps
  refine Halt.mk ?_
  rename_i hRr FRr NRr kRr
  refine LCg.CompSrc.range (n := sz) rfl FRr NRr hRr (small_one (by omega) (by omega) (by omega) (by omega)) (by rw [rangeSize_nat]; omega) (Nat.le_trans hs10 (by decide)) (fun g2 => ?_)
  refine comp_ints (n := sz) (fun k : Nat => (ns.getD (4 + 10 * 0 + (k : Int)).toNat (7 * (k : Int) + 3 * 0 + 1)).fmod 32) trivial ?_ ?_
  · intro i v I oI C oC D m₂ ys h tk E' hi' hv hC hx F N off ne
    obtain ⟨u, rfl⟩ := hv
    rw [Int.zero_add] at hx
    k_unmd
    k_fold
    k_steps
    all_goals assumption
  clear FRr NRr hRr kRr
  intro r0 hr0 R0 h2 tk2 F3 N3 o3
  dsimp only
  k_unfold
  refine ⟨h2, tk2, (R0, LCg.lst r0) :: _, rfl, F3, fun p hp => N3 p (perm5 hp), ⟨⟨Ne.symm o3.1, Ne.symm o3.2.1, Ne.symm o3.2.2.2.1⟩, off⟩, ⟨Ne.symm o3.2.2.1, offc⟩, ?_⟩
  try clear F N
  try clear F3 N3
  try clear offc
  intro t I oI C oC c oc D h tk E' hoc F N off offc ne
  replace hoc : oc.data = .cell (some (.int 1 t)) := hoc
  k_unmd
  k_fold
  k_steps
  refine Halt.mk ?_
  refine LCg.ListComp_U F (by with_unfolding_all rfl) (by decide) rfl (by decide) rfl ?_
  k_steps
  refine Halt.mk ?_
  rename_i hRr FRr NRr kRr
  refine LCg.CompSrc.range (n := sz) rfl FRr NRr hRr (small_one (by omega) (by omega) (by omega) (by omega)) (by rw [rangeSize_nat]; omega) (Nat.le_trans hs10 (by decide)) (fun g2 => ?_)
  refine comp_ints (n := sz) (fun k : Nat => (ns.getD (4 + 10 * 1 + (k : Int)).toNat (7 * (k : Int) + 3 * 1 + 1)).fmod 32) trivial ?_ ?_
  · intro i v I oI C oC D m₂ ys h tk E' hi' hv hC hx F N off ne
    obtain ⟨u, rfl⟩ := hv
    rw [Int.zero_add] at hx
    k_unmd
    k_fold
    k_steps
    all_goals assumption
  clear FRr NRr hRr kRr
  intro r1 hr1 R1 h2 tk2 F3 N3 o3
  dsimp only
  k_unfold
  refine ⟨h2, tk2, (R1, LCg.lst r1) :: _, rfl, F3, fun p hp => N3 p (perm5 hp), ⟨⟨Ne.symm o3.1, Ne.symm o3.2.1, Ne.symm o3.2.2.2.1⟩, off⟩, ⟨Ne.symm o3.2.2.1, offc⟩, ?_⟩
  try clear F N
  try clear F3 N3
  try clear offc
  intro DR hD tkD FD ND oD
  have i0 : IntsAre r0 (up (rowN ns 0 sz)) := Eq.mp (congrArg (IntsAre r0) (rowN_up ns 0 sz)) hr0
  have i1 : IntsAre r1 (up (rowN ns 1 sz)) := Eq.mp (congrArg (IntsAre r1) (rowN_up ns 1 sz)) hr1
  exact law_3 (s := s) K T hl hi hn hx hy hs10 FD (news_sub ND (by lcg_sub)) dS dO dN d8 d1 d2 d3 d4 i0 i1 (good_of x y _ _ sz (rowN_length ns 0 sz) (rowN_length ns 1 sz)) ⟨Ne.symm oD.1, Ne.symm oD.2.1⟩ (fun h' tk' k => ret _ _ _ k rfl)
end Mine

namespace Mine
open PySem PySem.W PyProof.Rows PySem.Calls
set_option maxRecDepth 100000
theorem law_at (w : World) (hx : PySem.Challenge.rw_bg0019_01.prog = PySem.Challenge.rw_bg0019_01.prog) : nsIn (Mine.hd.heap_39 w.params) mainGlobals (Str.ofString "law") = some (some (.ref 62)) := by
  revert hx
  k_fill
  intro _
  k_dflt k_is
set_option maxHeartbeats 8000000 in
theorem tt : PySem.Challenge.rw_bg0019_01.Holds := Mine.hd (by
  w_strict (
    k_fill
    intro w s₀ s₁ mg mb G Y fa o pm cd doc dV kV ho hd hcd hD hmg hg args vals as hpre hlay hrd hwl hlo
    have KX := kIn_of Y
    refine Ground.open G ?_
    intro T B D TE TW
    wrow_args hpre hlay hrd hwl hlo
    have e1 := mg_of KX (topRead_of T).g (law_at w rfl)
    have e2 : some (Value.ref fa) = some (Value.ref 62) := hmg.symm.trans e1
    cases e2
    rename_i hL hra hw hr0 hI hr2 hc hc2
    refine c_law w _ _ _ _ _ _ _ callerA s₁ _ _ rfl (by decide) (by decide) KX T ⟨hL, hI, by omega⟩ (fun r h' tk' k e => ?_)
    subst e
    refine GoodW.toG ⟨.inl ⟨_, .bool true, [], rfl, ?_, .bool true, ?_, unshared_nil⟩, k, rfl, hg⟩
    · intro cls; rfl
    · exact postW_of rfl rfl (by decide +kernel)))
end Mine

theorem PySem.Challenge.cw_bg0019_01_holds : PySem.Challenge.rw_bg0019_01.Holds :=
  Mine.tt
