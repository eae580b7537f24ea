import PyProof.Rows.All
import Wide.All
import OpenK.AllK
import Wide.FinOn
import PySem.Challenge.RW_mq0309_01
open PySem PySem.W PySem.Calls PyProof.Rows
set_option Elab.async false
set_option linter.all false
set_option compiler.extract_closed false
set_option maxRecDepth 100000
set_option maxHeartbeats 8000000
namespace Mine
open_top hd for PySem.Challenge.rw_mq0309_01

noncomputable abbrev No : Value → Shared → Prop := fun _ _ => False

structure Base (w : World) (h : Heap) : Prop where
  X : (hd.heap_39 w.params).In h
  T : ∃ p loose mg mb, TopRead p loose mg mb h
  M : ∃ p loose mean mg mb, Top p loose mean mg mb h
theorem Base.keeps {w : World} {h h' : Heap} (B : Base w h) (k : ∀ b o, h.get? b = some o → h'.get? b = some o) : Base w h' :=
  ⟨B.X.keeps k, let ⟨p, l, mg, mb, T⟩ := B.T; ⟨p, l, mg, mb, T.keeps k⟩, let ⟨p, l, mn, mg, mb, T⟩ := B.M; ⟨p, l, mn, mg, mb, T.keeps k⟩⟩
theorem Base.lim {w : World} {h : Heap} (B : Base w h) : h.NoLimit := let ⟨_, _, _, _, T⟩ := B.T; T.nolimit

noncomputable def Keeps (foot : List Addr) (h h' : Heap) : Prop := ∀ b o, h.get? b = some o → b ∉ foot → h'.get? b = some o
theorem Keeps.refl {foot : List Addr} {h : Heap} : Keeps foot h h := fun _ _ e _ => e
theorem Keeps.trans {foot : List Addr} {h h' h'' : Heap} (a : Keeps foot h h') (b : Keeps foot h' h'') : Keeps foot h h'' := fun x o e n => b x o (a x o e n) n
theorem Keeps.mono {foot foot' : List Addr} {h h' : Heap} (a : Keeps foot h h') (hs : ∀ x ∈ foot, x ∈ foot') : Keeps foot' h h' := fun x o e n => a x o e fun q => n (hs x q)

noncomputable def Ok (w : World) (foot : List Addr) (h : Heap) : Prop := ∃ g, Base w g ∧ (∀ b o, g.get? b = some o → h.get? b = some o) ∧ ∀ a ∈ foot, g.get? a = none

structure Room (A : Around) (k : Nat) : Prop where
  depth : A.depth + k ≤ 600
  units : A.units + 50 * k ≤ 5000
  hand : A.handled = none
theorem Room.less {A : Around} {k j : Nat} (r : Room A k) (h : j ≤ k) : Room A j := ⟨by have := r.depth; lia, by have := r.units; lia, r.hand⟩
theorem Room.deeper {A : Around} {k : Nat} {env : Env} (r : Room A (k + 1)) : Room (A.deeper env) k :=
  ⟨by have := r.depth; show A.depth + 1 + k ≤ 600; lia, by have := r.units; show A.units + 3 + 50 * k ≤ 5000; lia, r.hand⟩
theorem Room.in1 {A : Around} {k : Nat} (r : Room A (k + 1)) : Room A.in1 k := ⟨by have := r.depth; show A.depth + k ≤ 600; lia, by have := r.units; show A.units + 1 + 50 * k ≤ 5000; lia, r.hand⟩
theorem Room.lim {A : Around} {k : Nat} (r : Room A k) : A.depth < recursionLimit := by have := r.depth; show A.depth < 1000; lia
theorem Room.line {A : Around} {k : Nat} (r : Room A k) : A.units < cLine := by have := r.units; show A.units < 9900; lia

section
variable {prog : Program} {w : World} {A : Around} {s : Shared} {R : Result → Shared → Prop} {name qual : Str} {params : Arguments} {body : List Stmt} {scope : Scope}
  {dV kV doc pm cdv ct oc : Value} {an od : Option Addr} {osl : Array (Option Value)} {f : Addr} {args : Args} {binds : List (Str × Value)} {foot : List (Addr × Obj)}

theorem enter (O : Ok w (foot.map (·.1)) s.heap) (hfoot : ∀ p ∈ foot, s.heap.get? p.1 = some p.2)
    (ho : (hd.heap_39 w.params).lookup f = some ⟨oc, od, .func (fnOf name qual params body scope dV kV doc pm an cdv ct), osl⟩) (hcd : codeIn (hd.heap_39 w.params) cdv qual = true)
    {k : Nat} (hroom : Room A k) (hbind : BindsTo s (fnOf name qual params body scope dV kV doc pm an cdv ct) args binds) (hloc : ∀ y ∈ binds, scope.names.lookup y.1 = some .local)
    (h : ∀ g L h₁, Base w g → (∀ b o, s.heap.get? b = some o → b ∉ foot.map (·.1) → g.get? b = some o) → Fr g L h₁ (fun y => binds.reverse.lookup y) → News g L h₁ foot →
      wpAny (model prog w) (A.deeper (envOf qual scope L f cdv)) (execs body (envOf qual scope L f cdv))
        (fun fl s' => R (.ok (.ret (match fl with | .ret v => v | _ => .none))) s') No { s with heap := h₁, toks := s.toks + binds.length })
    (hco : scope.isCoroutine = false := by rfl) (hgen : scope.isGenerator = false := by rfl) (hk : scope.kind = .function := by rfl)
    (hcell : ∀ x ∈ scope.names, x.2 ≠ .cell := by decide) : codeAny (model prog w) A (.call (.ref f) args) R s := by
  obtain ⟨g₀, B, st, fr⟩ := O
  have Bs := B.keeps st
  have stg : ∀ b o, g₀.get? b = some o → (hideAll s.heap (foot.map (·.1))).get? b = some o := fun b o e => hideAll_get _ (st b o e) fun q => by rw [fr b q] at e; cases e
  refine codeAny_call_def (fd := fnOf name qual params body scope dV kV doc pm an cdv ct) (body := body) (binds := binds) hroom.lim (Bs.X _ _ ho) rfl Bs.lim (codeRec_of Bs.X hcd) rfl hbind hcell hloc (fun h₁ hns hk₁ => ?_) hco hgen hk
  refine wpAny_mono (h (hideAll s.heap (foot.map (·.1))) s.heap.objs.size h₁ (B.keeps stg) (fun b o e n => hideAll_get _ e n) ⟨hns, fun b o e => hk₁ b o (of_hideAll _ e), Nat.le_of_eq (hideAll_size _ _)⟩
    fun p hp => ⟨hk₁ _ _ (hfoot p hp), Nat.ne_of_lt (Heap.lt_size (hfoot p hp)), hideAll_none _ (List.mem_map_of_mem hp)⟩) (fun _ _ x => x) fun _ _ x => x.elim
end

section
variable {w : World} {g h h' : Heap} {L : Addr} {m : Str → Option Value} {news : List (Addr × Obj)}
theorem ok_of (B : Base w g) (F : Fr g L h m) (N : News g L h news) {foot : List Addr} (hf : ∀ a ∈ foot, a ∈ news.map (·.1)) : Ok w foot h :=
  ⟨g, B, F.keep, fun a ha => by obtain ⟨p, hp, rfl⟩ := List.mem_map.mp (hf a ha); exact (N p hp).2.2⟩
theorem fr_after (F : Fr g L h m) (N : News g L h news) {foot : List Addr} (hf : ∀ a ∈ foot, a ∈ news.map (·.1)) (k : Keeps foot h h') : Fr g L h' m := by
  obtain ⟨oL, es, ep, hL, r⟩ := F.ns
  refine ⟨⟨oL, es, ep, k _ _ hL fun q => ?_, r⟩, fun b o e => k _ _ (F.keep b o e) fun q => ?_, F.above⟩
  · obtain ⟨p, hp, e⟩ := List.mem_map.mp (hf _ q); exact (N p hp).2.1 e
  · obtain ⟨p, hp, e'⟩ := List.mem_map.mp (hf _ q); have := (N p hp).2.2; rw [e', e] at this; cases this
theorem news_after (F : Fr g L h m) (N : News g L h news) {foot : List Addr} (k : Keeps foot h h') {news' : List (Addr × Obj)}
    (hn : ∀ p ∈ news', (p ∈ news ∧ p.1 ∉ foot) ∨ (h'.get? p.1 = some p.2 ∧ (p.1 ∈ news.map (·.1) ∨ h.get? p.1 = none))) : News g L h' news' := by
  intro p hp
  rcases hn p hp with ⟨a, b⟩ | ⟨a, b | b⟩
  · exact ⟨k _ _ (N p a).1 b, (N p a).2⟩
  · obtain ⟨q, hq, e⟩ := List.mem_map.mp b; exact ⟨a, e ▸ (N q hq).2.1, e ▸ (N q hq).2.2⟩
  · refine ⟨a, fun e => ?_, ?_⟩
    · obtain ⟨oL, _, _, hL, _⟩ := F.ns; rw [e, hL] at b; cases b
    · cases q : g.get? p.1 with
      | none => rfl
      | some o => rw [F.keep _ _ q] at b; cases b
end

noncomputable def reL (l : List (Addr × Obj)) (is : List Nat) : List (Addr × Obj) := is.filterMap fun i => l[i]?
theorem reL_mem {l : List (Addr × Obj)} {is : List Nat} {p : Addr × Obj} (h : p ∈ reL l is) : p ∈ l := by
  obtain ⟨i, _, e⟩ := List.mem_filterMap.mp h
  exact List.mem_of_getElem? e
section
variable {g h : Heap} {L : Addr} {l a b : List (Addr × Obj)} {p : Addr × Obj}
theorem nwRe (N : News g L h l) (is : List Nat) (k : Nat) : News g L h (reL l is ++ l.drop k) := fun p hp => N p (by
  rcases List.mem_append.mp hp with hp | hp
  · exact reL_mem hp
  · exact List.mem_of_mem_drop hp)
theorem nwRot (N : News g L h (a ++ b)) : News g L h (b ++ a) := fun p hp => N p (by
  rcases List.mem_append.mp hp with hp | hp
  · exact List.mem_append_right _ hp
  · exact List.mem_append_left _ hp)
theorem nwMid (N : News g L h (p :: (a ++ b))) : News g L h (p :: b) := fun q hq => N q (by
  rcases List.mem_cons.mp hq with rfl | hq
  · exact .head _
  · exact .tail _ (List.mem_append_right _ hq))
end
theorem nwIn {g h : Heap} {L : Addr} {p q1 q2 : Addr × Obj} {a b : List (Addr × Obj)} (N : News g L h (p :: (a ++ q1 :: q2 :: b))) : News g L h (q1 :: p :: q2 :: (a ++ b)) := fun r hr => N r (by
  simp only [List.mem_cons, List.mem_append] at hr ⊢; rcases hr with h | h | h | h | h <;> simp [h])


noncomputable def mput (m : Str → Option Value) (x : Str) (v : Value) : Str → Option Value := fun y => if y = x then some v else m y
theorem mput_same {m : Str → Option Value} {x : Str} {v : Value} : mput m x v x = some v := if_pos rfl
theorem mput_ne {m : Str → Option Value} {x y : Str} {v : Value} {r : Option Value} (hn : y ≠ x) (h : m y = r) : mput m x v y = r := (if_neg hn).trans h

section
variable {M : Model} {A : Around} {E : Value → Shared → Prop} {s : Shared} {name : Str} {scope : Scope} {L a : Addr} {cd : Value} {h₀ : Heap} {m : Str → Option Value} {news : List (Addr × Obj)} {cl : List (Str × Addr)}
theorem stM {x : Str} {v : Value} {Q : Unit → Shared → Prop} (F : Fr h₀ L s.heap m) (N : News h₀ L s.heap news)
    (h : ∀ h' tk, Fr h₀ L h' (mput m x v) → News h₀ L h' news → Q () { s with heap := h', toks := tk })
    (hk : scope.kind = .function := by rfl) (hl : (envX name scope L a cd cl).kindOf x = some .local := by rfl) :
    wpAny M A (storeName (envX name scope L a cd cl) x v) Q E s := storeX_L F N (fun h' F' N' => h h' _ F' N') hk hl
theorem ldM {x : Str} {pos : Pos} {v : Value} {Q : Value → Shared → Prop} (F : Fr h₀ L s.heap m) (hv : m x = some v) (h : Q v s)
    (hk : scope.kind = .function := by rfl) (hl : (envX name scope L a cd cl).kindOf x = some .local := by rfl)
    (hd : (x == ("__debug__" : Str)) = false := by decide) :
    wpAny M A (eval (.Name x pos) (envX name scope L a cd cl)) Q E s := nameX_L F hv h hk hl hd
end

section
variable {prog : Program} {w : World} {A : Around} {E : Value → Shared → Prop} {s : Shared} {h₀ : Heap} {L H : Addr} {m : Str → Option Value} {rest : List (Addr × Obj)} {vs : List Value} {n : Nat}
theorem list_here {h : Heap} (N : News h₀ L h ((H, listOf vs.toArray n) :: rest)) : h.IsList H vs.toArray := PySem.IsL.isList (n := n) (N _ (.head _)).1

theorem set_head {k : Int} {t : Tok} {v : Value} {Q : Unit → Shared → Prop} (F : Fr h₀ L s.heap m) (N : News h₀ L s.heap ((H, listOf vs.toArray n) :: rest)) (ha : ∀ p ∈ rest, p.1 ≠ H)
    (h0 : 0 ≤ k) (hj : k < vs.length) (hf : vs.length < 2 ^ 40)
    (h : ∀ h', Fr h₀ L h' m → News h₀ L h' ((H, listOf (vs.set k.toNat v).toArray n) :: rest) → Q () { s with heap := h' }) : wpAny (model prog w) A (setItem (.ref H) (.int k t) v) Q E s := by
  have z := N (H, listOf vs.toArray n) (.head _)
  refine ki_setAt z.1 h0 (by lia) (by simpa using hj) (h _ (F.change (Heap.SameBut.update ..) z.2.1 z.2.2) ?_)
  refine ki_turn (pre := []) (fun its => its.setIfInBounds k.toNat v) N (fun _ q => nomatch q) ha ?_ ?_
  · apply Array.toList_inj.mp; simp
  · simp
end

theorem no_rest {H : Addr} : ∀ p ∈ ([] : List (Addr × Obj)), p.1 ≠ H := fun _ x => nomatch x
theorem ex_cut {M : Model} {A : Around} {env : Env} {st : Stmt} {Q : Flow → Shared → Prop} {s : Shared} (Mid : Shared → Prop) (h1 : wpAny M A (exec st env) (fun f s' => f = .next ∧ Mid s') No s)
    (h2 : ∀ s', Mid s' → Q .next s') : wpAny M A (exec st env) Q No s := wpAny_mono h1 (fun f s' x => by obtain ⟨rfl, x⟩ := x; exact h2 s' x) fun _ _ x => x
theorem seq_cut {M : Model} {A : Around} {env : Env} {st : Stmt} {rest : List Stmt} {Q : Flow → Shared → Prop} {s : Shared} (Mid : Shared → Prop) (h1 : wpAny M A (exec st env) (fun f s' => f = .next ∧ Mid s') No s)
    (h2 : ∀ s', Mid s' → wpAny M A (execs rest env) Q No s') : wpAny M A (execs (st :: rest) env) Q No s :=
  wpAny_execs_cons (wpAny_mono h1 (fun f s' x => by obtain ⟨rfl, x⟩ := x; exact h2 s' x) fun _ _ x => x)


section
variable {prog : Program} {w : World} {A : Around} {E : Value → Shared → Prop} {s : Shared} {h₀ : Heap} {L a : Addr} {m : Str → Option Value} {cn : Str} {cs : Scope} {ccd : Value} {cl : List (Str × Addr)}
  {x : Str} {pos : Pos} {v : Value} {Q : Value → Shared → Prop}
theorem nmK (F : Fr h₀ L s.heap m) (B : Base w h₀) (e : nsIn (hd.heap_39 w.params) mainGlobals x = some (some v)) (h : Q v s)
    (hk : cs.kind = .function := by rfl) (hx : (envX cn cs L a ccd cl).kindOf x = some .globalImplicit := by rfl) (hd : (x == ("__debug__" : Str)) = false := by decide) :
    wpAny (model prog w) A (eval (.Name x pos) (envX cn cs L a ccd cl)) Q E s := let ⟨_, _, _, _, T⟩ := B.T; nameX_K F B.X T e h hk hx hd
theorem nmB (F : Fr h₀ L s.heap m) (B : Base w h₀) (e : nsIn (hd.heap_39 w.params) mainGlobals x = some none) (hv : bootBuiltins x = some v) (hn : x ≠ "__name__") (h : Q v s)
    (hk : cs.kind = .function := by rfl) (hx : (envX cn cs L a ccd cl).kindOf x = some .globalImplicit := by rfl) (hd : (x == ("__debug__" : Str)) = false := by decide) :
    wpAny (model prog w) A (eval (.Name x pos) (envX cn cs L a ccd cl)) Q E s := let ⟨_, _, _, _, T⟩ := B.T; nameX_B F B.X T e hv hn h hk hx hd
theorem in_of (F : Fr h₀ L s.heap m) (B : Base w h₀) : (hd.heap_39 w.params).In s.heap := B.X.keeps F.keep
end

theorem wp_opq {M : Model} {A : Around} {E : Value → Shared → Prop} {s : Shared} {α : Type} {t : Sem α} {P : α → Shared → Prop} (h : ∀ Q : α → Shared → Prop, (∀ v s', P v s' → Q v s') → wpAny M A t Q E s) : wpAny M A t P E s := h P fun _ _ x => x

theorem omC {a b : Nat} (h : a < b) : (a : Int) < (b : Int) := by lia
theorem om63 {n : Nat} (h : n < 2 ^ 40) : (n : Int) < 2 ^ 63 := by lia
theorem om63b {n : Nat} (h : n < 2 ^ 30) : (n : Int) < 2 ^ 63 := by lia
theorem om40 {n : Nat} (h : n < 2 ^ 30) : n < 2 ^ 40 := by lia

section
variable {i j k n a b p l r f N y v : Nat}
theorem ar1 (h : i < n) : (i - 1) / 2 < n := Nat.lt_of_le_of_lt (Nat.le_trans (Nat.div_le_self _ _) (Nat.sub_le _ _)) h
theorem ar2 (h : a < i) : (i - 1) / 2 < i := Nat.lt_of_le_of_lt (Nat.div_le_self _ _) (Nat.sub_one_lt_of_lt h)
theorem ar2z (h : ¬ i = 0) : (i - 1) / 2 < i := ar2 (Nat.pos_of_ne_zero h)
theorem ar2n (h : a < i) : ¬ i = (i - 1) / 2 := Nat.ne_of_gt (ar2 h)
theorem ar2m (h : a < i) : ¬ (i - 1) / 2 = i := Nat.ne_of_lt (ar2 h)
theorem ar2o (h : 1 ≤ i) : ¬ (i - 1) / 2 = i := ar2m h
theorem ar2p (h : a < p) (e : (i - 1) / 2 = (p - 1) / 2) : ¬ (i - 1) / 2 = p := e ▸ ar2m h
theorem ar3 (h : i < n) : n - (i + 1) < n - i := Nat.sub_lt_sub_left h (Nat.lt_succ_self _)
theorem ar3s (h : i < n) : n + 1 - (i + 1) < n + 1 - i := ar3 (Nat.lt_succ_of_lt h)
theorem ar4 (h : y < N) : N - 1 - y < N := Nat.lt_of_le_of_lt (Nat.sub_le _ _) (Nat.sub_one_lt_of_lt h)
theorem ar4z (h : 1 ≤ N) : N - 1 - y < N := Nat.lt_of_le_of_lt (Nat.sub_le _ _) (Nat.sub_one_lt_of_lt h)
theorem ar5 (h : b < N) : N - 1 - (N - 1 - b) = b := Nat.sub_sub_self (Nat.le_sub_one_of_lt h)
theorem ar6 (h : i < j) (h2 : j < a) : a - 1 - j < a - 1 - i := Nat.sub_lt_sub_left (Nat.lt_of_lt_of_le h (Nat.le_sub_one_of_lt h2)) h
theorem ar7 (h : n - i = k + 1) : n - (i + 1) = k := by rw [Nat.sub_add_eq, h, Nat.add_sub_cancel]
theorem ar8 (h : n - i = k + 1) : i < n := Nat.lt_of_sub_ne_zero (h ▸ Nat.succ_ne_zero k)
theorem ar8l (h : min a b - i = k + 1) : i < a := Nat.lt_of_lt_of_le (ar8 h) (Nat.min_le_left _ _)
theorem ar8r (h : min a b - i = k + 1) : i < b := Nat.lt_of_lt_of_le (ar8 h) (Nat.min_le_right _ _)
theorem ar10 (h : k ≤ n) (h0 : ¬ k = 0) : k - 1 < n := Nat.lt_of_lt_of_le (Nat.sub_one_lt h0) h
theorem ar10p (h : k ≤ n) (h0 : 0 < k) : k - 1 < n := Nat.lt_of_lt_of_le (Nat.sub_one_lt_of_lt h0) h
theorem ar11 (h : k ≤ n) : k - 1 ≤ n := Nat.le_trans (Nat.sub_le _ _) h
theorem ar12 (h : 0 < n) : n - 1 < n := Nat.sub_one_lt_of_lt h
theorem ar12o (h : 1 ≤ n) : n - 1 < n := Nat.sub_one_lt_of_lt h
theorem ar13 : N / 2 + (N - N / 2) = N := Nat.add_sub_cancel' (Nat.div_le_self _ _)
theorem ar15 (h : ¬ j = 0) : j = j - 1 + 1 := (Nat.succ_pred h).symm
theorem ar16 (h : i < n / 2) : n / 2 - i = n / 2 - 1 - i + 1 := by rw [Nat.sub_right_comm, Nat.sub_add_cancel (Nat.sub_pos_of_lt h)]
theorem ar18 (h : r - l ≤ f + 1) : r - ((l + r) / 2 + 1) ≤ f := Nat.sub_le_of_le_add (by have := Nat.le_add_of_sub_le h; lia)
theorem ar19 (h : r - l ≤ f + 1) (h0 : ¬ l ≥ r) : (l + r) / 2 - l ≤ f := Nat.sub_le_of_le_add (by have := Nat.le_add_of_sub_le h; lia)
theorem ar20 (h : k < n) (h1 : r ≤ k) (h2 : ¬ l ≥ r) : (l + r) / 2 < n := Nat.div_lt_of_lt_mul (by lia)
theorem ar21 (h : l ≤ k) : k - (k - l) = l := Nat.sub_sub_self h
theorem ar22 (h : a + 1 ≤ n) : a + 1 + (n - (a + 1)) ≤ n := Nat.le_of_eq (Nat.add_sub_cancel' h)
theorem ar22' (h : 1 ≤ n) : 1 + (n - 1) ≤ n := Nat.le_of_eq (Nat.add_sub_cancel' h)
theorem ar23 (h : a + 1 ≤ n) (h2 : k ≤ a + 1 + (n - (a + 1))) : k ≤ n := Nat.le_trans h2 (ar22 h)
theorem ar24 (h : 1 ≤ i) (e : i < n) (_ : (i - 1) / 2 = (p - 1) / 2) (h1 : a < p) (h2 : p < n) : (p - 1) / 2 < n := ar1 h2
theorem ar25 (h : n < 100) : n - i < 2 ^ 20 := Nat.lt_of_le_of_lt (Nat.sub_le _ _) (Nat.lt_trans h (by decide))
theorem ar26 (h : n < 2 ^ 20) : n - 1 < 2 ^ 40 := Nat.lt_of_le_of_lt (Nat.sub_le _ _) (Nat.lt_trans h (by decide))
theorem ar27 {u w : Nat → Int} (h : ¬ (u b < w a ∨ u b = w a ∧ b < a)) (hn : a ≠ b) : w a < u b ∨ w a = u b ∧ a < b := by lia
theorem ar28 (h : a ≤ n) (h2 : b ≤ n) (h3 : a ≠ b) : ¬ n - a = n - b := fun e => h3 (by rw [← Nat.sub_sub_self h, e, Nat.sub_sub_self h2])
theorem ar29 (h : i ≤ n) : ((n : Int) - (i : Int)).toNat = n - i := by rw [← Int.ofNat_sub h]; rfl
theorem ar30 (h : 0 < i) : (i : Int) - 1 = ((i - 1 : Nat) : Int) := (Int.ofNat_sub h).symm
theorem ar30z (h : ¬ i = 0) : ((i : Int) - 1).toNat = i - 1 := by rw [ar30 (Nat.pos_of_ne_zero h)]; rfl
theorem ar31 (h : a < i) : ((i : Int) - 1) / 2 = (((i - 1) / 2 : Nat) : Int) := by rw [ar30 (Nat.lt_of_le_of_lt (Nat.zero_le _) h)]; rfl
theorem ar32 (h : i < n) (h2 : n < 2 ^ 40) : (((i - 1) / 2 : Nat) : Int) < 2 ^ 63 := om63 (Nat.lt_trans (ar1 h) h2)
theorem ar33 : n - n / 2 ≤ n := Nat.sub_le _ _
theorem ar34 (h : 4 ≤ n) : n - n / 2 < n := Nat.sub_lt (Nat.lt_of_lt_of_le (by decide) h) (Nat.div_pos (Nat.le_trans (by decide) h) (by decide))
theorem ar35 : (n : Int) - ((n / 2 : Nat) : Int) = ((n - n / 2 : Nat) : Int) := (Int.ofNat_sub (Nat.div_le_self _ _)).symm
end

noncomputable def LtOk (prog : Program) (w : World) (lt : Value → Value → Bool) (dom : Value → Prop) (g : Heap) : Prop :=
  ∀ (A : Around) (s : Shared) (Q : Value → Shared → Prop) (a b : Value), Room A 1 → dom a → dom b → (∀ x o, g.get? x = some o → s.heap.get? x = some o) →
    (∀ tk, Q (.bool (lt a b)) { s with toks := tk }) → wpAny (model prog w) A (compareOp .Lt a b) Q No s
theorem LtOk.keeps {prog : Program} {w : World} {lt : Value → Value → Bool} {dom : Value → Prop} {g g' : Heap} (h : LtOk prog w lt dom g) (k : ∀ x o, g.get? x = some o → g'.get? x = some o) : LtOk prog w lt dom g' :=
  fun A s Q a b r da db kk q => h A s Q a b r da db (fun x o e => kk x o (k x o e)) q

noncomputable def sdL (lt : Value → Value → Bool) (nw : Value) (start : Nat) (vs : List Value) (p : Nat) : List Value :=
  if start < p then
    if lt nw (vs.getD ((p - 1) / 2) .none) then sdL lt nw start (vs.set p (vs.getD ((p - 1) / 2) .none)) ((p - 1) / 2) else vs.set p nw
  else vs.set p nw
termination_by p
decreasing_by with_reducible exact ar2 (by assumption)

noncomputable def kid (lt : Value → Value → Bool) (vs : List Value) (p : Nat) : Nat :=
  if 2 * p + 2 < vs.length ∧ lt (vs.getD (2 * p + 1) .none) (vs.getD (2 * p + 2) .none) = false then 2 * p + 2 else 2 * p + 1
theorem kid_gt {lt : Value → Value → Bool} {vs : List Value} {p : Nat} : p < kid lt vs p := by unfold kid; split <;> lia
theorem kid_lt {lt : Value → Value → Bool} {vs : List Value} {p : Nat} (h : 2 * p + 1 < vs.length) : kid lt vs p < vs.length := by unfold kid; split <;> lia
noncomputable def suL (lt : Value → Value → Bool) (nw : Value) (start : Nat) (vs : List Value) (p : Nat) : List Value :=
  if 2 * p + 1 < vs.length then suL lt nw start (vs.set p (vs.getD (kid lt vs p) .none)) (kid lt vs p) else sdL lt nw start (vs.set p nw) p
termination_by vs.length - p
decreasing_by
  have := @kid_gt lt vs p
  simp only [List.length_set]; lia

inductive SdMid (st : Heap → Tok → Shared) (g : Heap) (L H : Addr) (n : Nat) (lt : Value → Value → Bool) (start : Nat) (vs : List Value) (p : Nat) (s' : Shared) : Prop
  | mk (h : Heap) (tk : Nat) (m' : Str → Option Value) (vs' : List Value) (q : Nat) (tq : Tok) : s' = st h tk → Fr g L h m' → News g L h [(H, listOf vs'.toArray n)] → m' "heap" = some (.ref H) → m' "pos" = some (.int (q : Nat) tq) →
    m' "newitem" = some (vs.getD p .none) → q < vs'.length → vs'.length = vs.length → vs'.set q (vs.getD p .none) = sdL lt (vs.getD p .none) start vs p → SdMid st g L H n lt start vs p s'
inductive SdInv (H : Addr) (n : Nat) (lt : Value → Value → Bool) (dom : Value → Prop) (start : Nat) (vs : List Value) (p : Nat) (t1 : Tok) (k : Nat) (m' : Str → Option Value) (nx : List (Addr × Obj)) : Prop
  | mk (vs' : List Value) (q : Nat) (tq : Tok) : k = q → nx = [(H, listOf vs'.toArray n)] → m' "heap" = some (.ref H) → m' "startpos" = some (.int start t1) → m' "pos" = some (.int (q : Nat) tq) → m' "newitem" = some (vs.getD p .none) →
      q < vs'.length → vs'.length = vs.length → (∀ v ∈ vs', dom v) → sdL lt (vs.getD p .none) start vs' q = sdL lt (vs.getD p .none) start vs p → SdInv H n lt dom start vs p t1 k m' nx
inductive SuMid (st : Heap → Tok → Shared) (g : Heap) (L H : Addr) (n : Nat) (lt : Value → Value → Bool) (dom : Value → Prop) (vs : List Value) (p : Nat) (s' : Shared) : Prop
  | mk (h : Heap) (tk : Nat) (m' : Str → Option Value) (vs' : List Value) (q : Nat) (tq ts : Tok) : s' = st h tk → Fr g L h m' → News g L h [(H, listOf vs'.toArray n)] → m' "heap" = some (.ref H) → m' "pos" = some (.int (q : Nat) tq) →
    m' "startpos" = some (.int p ts) → m' "newitem" = some (vs.getD p .none) → q < vs'.length → vs'.length = vs.length → (∀ v ∈ vs', dom v) → sdL lt (vs.getD p .none) p (vs'.set q (vs.getD p .none)) q = suL lt (vs.getD p .none) p vs p → SuMid st g L H n lt dom vs p s'
inductive SuInv (H : Addr) (n : Nat) (lt : Value → Value → Bool) (dom : Value → Prop) (vs : List Value) (p : Nat) (k : Nat) (m' : Str → Option Value) (nx : List (Addr × Obj)) : Prop
  | mk (vs' : List Value) (q : Nat) (tq tc te ts : Tok) : k = vs.length - q → nx = [(H, listOf vs'.toArray n)] → m' "heap" = some (.ref H) → m' "startpos" = some (.int p ts) → m' "pos" = some (.int (q : Nat) tq) → m' "newitem" = some (vs.getD p .none) →
      m' "endpos" = some (.int vs.length te) → m' "childpos" = some (.int (2 * (q : Int) + 1) tc) →
      q < vs'.length → vs'.length = vs.length → (∀ v ∈ vs', dom v) → suL lt (vs.getD p .none) p vs' q = suL lt (vs.getD p .none) p vs p → SuInv H n lt dom vs p k m' nx
inductive SuKid (st : Heap → Tok → Shared) (g : Heap) (L H : Addr) (n : Nat) (lt : Value → Value → Bool) (vs vs' : List Value) (p q : Nat) (tq te ts : Tok) (s' : Shared) : Prop
  | mk (h : Heap) (tk : Nat) (m'' : Str → Option Value) (tk' : Tok) : s' = st h tk → Fr g L h m'' → News g L h [(H, listOf vs'.toArray n)] →
        m'' "heap" = some (.ref H) → m'' "startpos" = some (.int p ts) → m'' "pos" = some (.int (q : Nat) tq) → m'' "newitem" = some (vs.getD p .none) → m'' "endpos" = some (.int vs.length te) →
        m'' "childpos" = some (.int (kid lt vs' q : Nat) tk') → SuKid st g L H n lt vs vs' p q tq te ts s'
theorem getD_some {vs : List Value} {i : Nat} (h : i < vs.length) : vs[i]? = some (vs.getD i .none) := by rw [List.getD_eq_getElem?_getD, List.getElem?_eq_getElem h]; rfl
theorem getD_mem {vs : List Value} {i : Nat} (h : i < vs.length) : vs.getD i .none ∈ vs := List.mem_of_getElem? (getD_some h)
theorem all_set {dom : Value → Prop} {vs : List Value} {i : Nat} {v : Value} (h : ∀ x ∈ vs, dom x) (hv : dom v) : ∀ x ∈ vs.set i v, dom x := by
  intro x hx
  rcases List.mem_or_eq_of_mem_set hx with hx | rfl
  · exact h _ hx
  · exact hv

theorem siftdown_call {prog : Program} {w : World} {A : Around} {s : Shared} {R : Result → Shared → Prop} {H : Addr} {vs : List Value} {n start p : Nat} {t1 t2 : Tok} {lt : Value → Value → Bool} {dom : Value → Prop} {gE : Heap}
    (O : Ok w [H] s.heap) (hH : s.heap.get? H = some (listOf vs.toArray n)) (rm : Room A 4) (hlt : LtOk prog w lt dom gE) (hE : ∀ x o, gE.get? x = some o → s.heap.get? x = some o) (hEH : gE.get? H = none)
    (hd : ∀ v ∈ vs, dom v) (hp : p < vs.length) (hf : vs.length < 2 ^ 40)
    (post : ∀ h' tk, Keeps [H] s.heap h' → h'.get? H = some (listOf (sdL lt (vs.getD p .none) start vs p).toArray n) → R (.ok (.ret .none)) { s with heap := h', toks := tk }) :
    codeAny (model prog w) A (.call (.ref 56) ⟨[.ref H, .int start t1, .int p t2], []⟩) R s := by
  refine enter (foot := [(H, listOf vs.toArray n)]) (binds := [("heap", .ref H), ("startpos", .int start t1), ("pos", .int p t2)]) O (by simpa using hH) (by k_is) (by k_is) rm (BindsTo.of_eq rfl) (locs rfl) ?_
  intro g L h₁ B hg F N
  have m1 : (fun y => List.lookup y ([("heap", Value.ref H), ("startpos", .int start t1), ("pos", .int p t2)] : List (Str × Value)).reverse) "heap" = some (.ref H) := rfl
  have m2 : (fun y => List.lookup y ([("heap", Value.ref H), ("startpos", .int start t1), ("pos", .int p t2)] : List (Str × Value)).reverse) "startpos" = some (.int start t1) := rfl
  have m3 : (fun y => List.lookup y ([("heap", Value.ref H), ("startpos", .int start t1), ("pos", .int p t2)] : List (Str × Value)).reverse) "pos" = some (.int p t2) := rfl
  generalize (fun y => List.lookup y ([("heap", Value.ref H), ("startpos", .int start t1), ("pos", .int p t2)] : List (Str × Value)).reverse) = m at F m1 m2 m3
  have hgE : ∀ x o, gE.get? x = some o → g.get? x = some o := fun x o e => hg x o (hE x o e) (by
    simp only [List.map_cons, List.map_nil, List.mem_singleton]; rintro rfl; rw [hEH] at e; cases e)
  with_reducible refine wpAny_execs_cons ?_
  refine wpAny_Assign_Name ?_
  with_reducible refine Subscript_ ?_
  (refine' ldM ?kF ?kv ?_; (case kF => assumption); (case kv => assumption))
  (refine' ldM ?kF ?kv ?_; (case kF => assumption); (case kv => assumption))
  try dsimp only
  refine item_listL (x := vs.getD p .none) (list_here N) (by with_reducible exact Int.natCast_nonneg _) (by lia) (by rw [Int.toNat_natCast]; exact getD_some hp) ?_
  (refine' stM ?kF ?kN ?_; (case kF => assumption); (case kN => assumption); intro _ _ _ _)
  with_reducible refine wpAny_execs_cons ?_
  rename_i h0 tk0 F0 N0
  try dsimp only
  refine ex_cut (SdMid (fun h tk => { s with heap := h, toks := tk }) g L H n lt start vs p) ?_ ?_
  · refine While_inv2 (SdInv H n lt dom start vs p t1) (n₀ := p) F0 N0
      ⟨vs, p, t2, rfl, rfl, mput_ne (by decide) m1, mput_ne (by decide) m2, mput_ne (by decide) m3, mput_same, hp, rfl, hd, rfl⟩ ?_ PassesOwn.never
    rintro q m' nx h tk F1 N1 ⟨vs', _, tq, rfl, rfl, a1, a2, a3, a4, hq, hl, hd', hr⟩
    refine wpAny_isTrue_Compare1 ?_
    (refine' ldM ?kF ?kv ?_; (case kF => assumption); (case kv => assumption))
    (refine' ldM ?kF ?kv ?_; (case kF => assumption); (case kv => assumption))
    with_reducible refine PyProof.Rows.gt_int ?_
    with_reducible refine wpAny_truthy_bool ?_
    try dsimp only
    by_cases hc : start < q
    · rw [if_pos (by simpa using hc)]
      have e1 : ((q : Int) - 1).fdiv (2 ^ (1 : Int).toNat) = (((q - 1) / 2 : Nat) : Int) := by
        show ((q : Int) - 1).fdiv 2 = _
        rw [Int.fdiv_eq_ediv_of_nonneg _ (by lia)]; with_reducible exact ar31 (by assumption)
      with_reducible refine wpAny_execs_cons ?_
      refine wpAny_Assign_Name ?_
      with_reducible refine wpAny_BinOp ?_
      with_reducible refine wpAny_BinOp ?_
      (refine' ldM ?kF ?kv ?_; (case kF => assumption); (case kv => assumption))
      with_reducible refine wpAny_Constant_int ?_
      with_reducible refine PyProof.Rows.sub_int ?_
      with_reducible refine wpAny_Constant_int ?_
      try dsimp only
      refine rshift_int (n := 1) (by decide) ?_
      rw [e1]
      (refine' stM ?kF ?kN ?_; (case kF => assumption); (case kN => assumption); intro _ _ _ _)
      with_reducible refine wpAny_execs_cons ?_
      refine wpAny_Assign_Name ?_
      with_reducible refine Subscript_ ?_
      (refine' ldM ?kF ?kv ?_; (case kF => assumption); (case kv => assumption))
      (refine' ldM ?kF ?kv ?_; (case kF => assumption); (case kv => exact mput_same))
      try dsimp only
      refine item_listL (x := vs'.getD ((q - 1) / 2) .none) (list_here (by assumption)) (by with_reducible exact Int.natCast_nonneg _) (by lia) (by rw [Int.toNat_natCast]; exact getD_some (by with_reducible exact ar1 (by assumption))) ?_
      (refine' stM ?kF ?kN ?_; (case kF => assumption); (case kN => assumption); intro _ _ _ _)
      with_reducible refine wpAny_execs_cons ?_
      rename_i h2 tk2 F2 N2
      refine wpAny_If ?_
      refine wpAny_isTrue_Compare1 ?_
      (refine' ldM ?kF ?kv ?_; (case kF => assumption); (case kv => assumption))
      (refine' ldM ?kF ?kv ?_; (case kF => assumption); (case kv => exact mput_same))
      try dsimp only
      refine hlt _ _ _ _ _ (Room.deeper (k := 1) (rm.less (by lia))) (hd _ (getD_mem hp)) (hd' _ (getD_mem (by with_reducible exact ar1 (by assumption)))) (fun x o e => F2.keep x o (hgE x o e)) ?_
      intro tk3
      with_reducible refine wpAny_truthy_bool ?_
      try dsimp only
      by_cases hb : lt (vs.getD p .none) (vs'.getD ((q - 1) / 2) .none) = true
      · rw [if_pos hb]
        with_reducible refine wpAny_execs_cons ?_
        refine wpAny_Assign_Subscript ?_
        (refine' ldM ?kF ?kv ?_; (case kF => assumption); (case kv => exact mput_same))
        (refine' ldM ?kF ?kv ?_; (case kF => assumption); (case kv => assumption))
        (refine' ldM ?kF ?kv ?_; (case kF => assumption); (case kv => assumption))
        try dsimp only
        refine set_head (by assumption) (by assumption) no_rest (by with_reducible exact Int.natCast_nonneg _) (by with_reducible exact omC (by assumption)) (by lia) ?_
        intro h4 F4 N4
        with_reducible refine wpAny_execs_cons ?_
        refine wpAny_Assign_Name ?_
        (refine' ldM ?kF ?kv ?_; (case kF => assumption); (case kv => exact mput_ne (by decide) mput_same))
        (refine' stM ?kF ?kN ?_; (case kF => assumption); (case kN => assumption); intro _ _ _ _)
        with_reducible refine wpAny_execs_cons ?_
        with_reducible refine wpAny_Continue ?_
        rename_i h5 tk5 F5 N5
        refine ⟨_, _, _, _, (q - 1) / 2, rfl, F5, N5, by with_reducible exact ar2 (by assumption), vs'.set q (vs'.getD ((q - 1) / 2) .none), _, _, rfl, rfl, by assumption, by assumption, by exact mput_same, by assumption, ?_, ?_, ?_, ?_⟩
        · rw [List.length_set]; with_reducible exact ar1 (by assumption)
        · rw [List.length_set]; assumption
        · exact all_set hd' (hd' _ (getD_mem (by with_reducible exact ar1 (by assumption))))
        · rw [← hr]; conv => rhs; rw [sdL, if_pos hc, if_pos hb]
      · rw [if_neg hb]
        with_reducible refine wpAny_execs_nil ?_
        with_reducible refine wpAny_execs_cons ?_
        with_reducible refine wpAny_Break ?_
        refine ⟨rfl, h2, tk3, _, vs', q, tq, rfl, F2, N2, by assumption, by assumption, by assumption, hq, hl, ?_⟩
        rw [← hr, sdL, if_pos hc, if_neg hb]
    · rw [if_neg (by simpa using hc)]
      refine ⟨rfl, h, tk, m', vs', q, tq, rfl, F1, N1, a1, a3, a4, hq, hl, ?_⟩
      rw [← hr, sdL, if_neg hc]
  · rintro _ ⟨h, tk, m', vs', q, tq, rfl, F1, N1, a1, a3, a4, hq, hl, hr⟩
    with_reducible refine wpAny_execs_cons ?_
    refine wpAny_Assign_Subscript ?_
    (refine' ldM ?kF ?kv ?_; (case kF => assumption); (case kv => assumption))
    (refine' ldM ?kF ?kv ?_; (case kF => assumption); (case kv => assumption))
    (refine' ldM ?kF ?kv ?_; (case kF => assumption); (case kv => assumption))
    try dsimp only
    refine set_head F1 N1 no_rest (by with_reducible exact Int.natCast_nonneg _) (by with_reducible exact omC (by assumption)) (by lia) ?_
    intro h' F' N'
    with_reducible refine wpAny_execs_nil ?_
    try dsimp only
    refine post h' _ (fun b o e nb => F'.keep b o (hg b o e (by simpa using nb))) ?_
    rw [← hr]
    exact (N' _ (.head _)).1

theorem siftdown_max_call {prog : Program} {w : World} {A : Around} {s : Shared} {R : Result → Shared → Prop} {H : Addr} {vs : List Value} {n start p : Nat} {t1 t2 : Tok} {lt : Value → Value → Bool} {dom : Value → Prop} {gE : Heap}
    (O : Ok w [H] s.heap) (hH : s.heap.get? H = some (listOf vs.toArray n)) (rm : Room A 4) (hlt : LtOk prog w (fun a b => lt b a) dom gE) (hE : ∀ x o, gE.get? x = some o → s.heap.get? x = some o) (hEH : gE.get? H = none)
    (hd : ∀ v ∈ vs, dom v) (hp : p < vs.length) (hf : vs.length < 2 ^ 40)
    (post : ∀ h' tk, Keeps [H] s.heap h' → h'.get? H = some (listOf (sdL lt (vs.getD p .none) start vs p).toArray n) → R (.ok (.ret .none)) { s with heap := h', toks := tk }) :
    codeAny (model prog w) A (.call (.ref 70) ⟨[.ref H, .int start t1, .int p t2], []⟩) R s := by
  refine enter (foot := [(H, listOf vs.toArray n)]) (binds := [("heap", .ref H), ("startpos", .int start t1), ("pos", .int p t2)]) O (by simpa using hH) (by k_is) (by k_is) rm (BindsTo.of_eq rfl) (locs rfl) ?_
  intro g L h₁ B hg F N
  have m1 : (fun y => List.lookup y ([("heap", Value.ref H), ("startpos", .int start t1), ("pos", .int p t2)] : List (Str × Value)).reverse) "heap" = some (.ref H) := rfl
  have m2 : (fun y => List.lookup y ([("heap", Value.ref H), ("startpos", .int start t1), ("pos", .int p t2)] : List (Str × Value)).reverse) "startpos" = some (.int start t1) := rfl
  have m3 : (fun y => List.lookup y ([("heap", Value.ref H), ("startpos", .int start t1), ("pos", .int p t2)] : List (Str × Value)).reverse) "pos" = some (.int p t2) := rfl
  generalize (fun y => List.lookup y ([("heap", Value.ref H), ("startpos", .int start t1), ("pos", .int p t2)] : List (Str × Value)).reverse) = m at F m1 m2 m3
  have hgE : ∀ x o, gE.get? x = some o → g.get? x = some o := fun x o e => hg x o (hE x o e) (by
    simp only [List.map_cons, List.map_nil, List.mem_singleton]; rintro rfl; rw [hEH] at e; cases e)
  with_reducible refine wpAny_execs_cons ?_
  refine wpAny_Assign_Name ?_
  with_reducible refine Subscript_ ?_
  (refine' ldM ?kF ?kv ?_; (case kF => assumption); (case kv => assumption))
  (refine' ldM ?kF ?kv ?_; (case kF => assumption); (case kv => assumption))
  try dsimp only
  refine item_listL (x := vs.getD p .none) (list_here N) (by with_reducible exact Int.natCast_nonneg _) (by lia) (by rw [Int.toNat_natCast]; exact getD_some hp) ?_
  (refine' stM ?kF ?kN ?_; (case kF => assumption); (case kN => assumption); intro _ _ _ _)
  with_reducible refine wpAny_execs_cons ?_
  rename_i h0 tk0 F0 N0
  try dsimp only
  refine ex_cut (SdMid (fun h tk => { s with heap := h, toks := tk }) g L H n lt start vs p) ?_ ?_
  · refine While_inv2 (SdInv H n lt dom start vs p t1) (n₀ := p) F0 N0
      ⟨vs, p, t2, rfl, rfl, mput_ne (by decide) m1, mput_ne (by decide) m2, mput_ne (by decide) m3, mput_same, hp, rfl, hd, rfl⟩ ?_ PassesOwn.never
    rintro q m' nx h tk F1 N1 ⟨vs', _, tq, rfl, rfl, a1, a2, a3, a4, hq, hl, hd', hr⟩
    refine wpAny_isTrue_Compare1 ?_
    (refine' ldM ?kF ?kv ?_; (case kF => assumption); (case kv => assumption))
    (refine' ldM ?kF ?kv ?_; (case kF => assumption); (case kv => assumption))
    with_reducible refine PyProof.Rows.gt_int ?_
    with_reducible refine wpAny_truthy_bool ?_
    try dsimp only
    by_cases hc : start < q
    · rw [if_pos (by simpa using hc)]
      have e1 : ((q : Int) - 1).fdiv (2 ^ (1 : Int).toNat) = (((q - 1) / 2 : Nat) : Int) := by
        show ((q : Int) - 1).fdiv 2 = _
        rw [Int.fdiv_eq_ediv_of_nonneg _ (by lia)]; with_reducible exact ar31 (by assumption)
      with_reducible refine wpAny_execs_cons ?_
      refine wpAny_Assign_Name ?_
      with_reducible refine wpAny_BinOp ?_
      with_reducible refine wpAny_BinOp ?_
      (refine' ldM ?kF ?kv ?_; (case kF => assumption); (case kv => assumption))
      with_reducible refine wpAny_Constant_int ?_
      with_reducible refine PyProof.Rows.sub_int ?_
      with_reducible refine wpAny_Constant_int ?_
      try dsimp only
      refine rshift_int (n := 1) (by decide) ?_
      rw [e1]
      (refine' stM ?kF ?kN ?_; (case kF => assumption); (case kN => assumption); intro _ _ _ _)
      with_reducible refine wpAny_execs_cons ?_
      refine wpAny_Assign_Name ?_
      with_reducible refine Subscript_ ?_
      (refine' ldM ?kF ?kv ?_; (case kF => assumption); (case kv => assumption))
      (refine' ldM ?kF ?kv ?_; (case kF => assumption); (case kv => exact mput_same))
      try dsimp only
      refine item_listL (x := vs'.getD ((q - 1) / 2) .none) (list_here (by assumption)) (by with_reducible exact Int.natCast_nonneg _) (by lia) (by rw [Int.toNat_natCast]; exact getD_some (by with_reducible exact ar1 (by assumption))) ?_
      (refine' stM ?kF ?kN ?_; (case kF => assumption); (case kN => assumption); intro _ _ _ _)
      with_reducible refine wpAny_execs_cons ?_
      rename_i h2 tk2 F2 N2
      refine wpAny_If ?_
      refine wpAny_isTrue_Compare1 ?_
      (refine' ldM ?kF ?kv ?_; (case kF => assumption); (case kv => exact mput_same))
      (refine' ldM ?kF ?kv ?_; (case kF => assumption); (case kv => assumption))
      try dsimp only
      refine hlt _ _ _ _ _ (Room.deeper (k := 1) (rm.less (by lia))) (hd' _ (getD_mem (by with_reducible exact ar1 (by assumption)))) (hd _ (getD_mem hp)) (fun x o e => F2.keep x o (hgE x o e)) ?_
      intro tk3
      with_reducible refine wpAny_truthy_bool ?_
      try dsimp only
      by_cases hb : lt (vs.getD p .none) (vs'.getD ((q - 1) / 2) .none) = true
      · rw [if_pos hb]
        with_reducible refine wpAny_execs_cons ?_
        refine wpAny_Assign_Subscript ?_
        (refine' ldM ?kF ?kv ?_; (case kF => assumption); (case kv => exact mput_same))
        (refine' ldM ?kF ?kv ?_; (case kF => assumption); (case kv => assumption))
        (refine' ldM ?kF ?kv ?_; (case kF => assumption); (case kv => assumption))
        try dsimp only
        refine set_head (by assumption) (by assumption) no_rest (by with_reducible exact Int.natCast_nonneg _) (by with_reducible exact omC (by assumption)) (by lia) ?_
        intro h4 F4 N4
        with_reducible refine wpAny_execs_cons ?_
        refine wpAny_Assign_Name ?_
        (refine' ldM ?kF ?kv ?_; (case kF => assumption); (case kv => exact mput_ne (by decide) mput_same))
        (refine' stM ?kF ?kN ?_; (case kF => assumption); (case kN => assumption); intro _ _ _ _)
        with_reducible refine wpAny_execs_cons ?_
        with_reducible refine wpAny_Continue ?_
        rename_i h5 tk5 F5 N5
        refine ⟨_, _, _, _, (q - 1) / 2, rfl, F5, N5, by with_reducible exact ar2 (by assumption), vs'.set q (vs'.getD ((q - 1) / 2) .none), _, _, rfl, rfl, by assumption, by assumption, by exact mput_same, by assumption, ?_, ?_, ?_, ?_⟩
        · rw [List.length_set]; with_reducible exact ar1 (by assumption)
        · rw [List.length_set]; assumption
        · exact all_set hd' (hd' _ (getD_mem (by with_reducible exact ar1 (by assumption))))
        · rw [← hr]; conv => rhs; rw [sdL, if_pos hc, if_pos hb]
      · rw [if_neg hb]
        with_reducible refine wpAny_execs_nil ?_
        with_reducible refine wpAny_execs_cons ?_
        with_reducible refine wpAny_Break ?_
        refine ⟨rfl, h2, tk3, _, vs', q, tq, rfl, F2, N2, by assumption, by assumption, by assumption, hq, hl, ?_⟩
        rw [← hr, sdL, if_pos hc, if_neg hb]
    · rw [if_neg (by simpa using hc)]
      refine ⟨rfl, h, tk, m', vs', q, tq, rfl, F1, N1, a1, a3, a4, hq, hl, ?_⟩
      rw [← hr, sdL, if_neg hc]
  · rintro _ ⟨h, tk, m', vs', q, tq, rfl, F1, N1, a1, a3, a4, hq, hl, hr⟩
    with_reducible refine wpAny_execs_cons ?_
    refine wpAny_Assign_Subscript ?_
    (refine' ldM ?kF ?kv ?_; (case kF => assumption); (case kv => assumption))
    (refine' ldM ?kF ?kv ?_; (case kF => assumption); (case kv => assumption))
    (refine' ldM ?kF ?kv ?_; (case kF => assumption); (case kv => assumption))
    try dsimp only
    refine set_head F1 N1 no_rest (by with_reducible exact Int.natCast_nonneg _) (by with_reducible exact omC (by assumption)) (by lia) ?_
    intro h' F' N'
    with_reducible refine wpAny_execs_nil ?_
    try dsimp only
    refine post h' _ (fun b o e nb => F'.keep b o (hg b o e (by simpa using nb))) ?_
    rw [← hr]
    exact (N' _ (.head _)).1

theorem siftup_call {prog : Program} {w : World} {A : Around} {s : Shared} {R : Result → Shared → Prop} {H : Addr} {vs : List Value} {n p : Nat} {t2 : Tok} {lt : Value → Value → Bool} {dom : Value → Prop} {gE : Heap}
    (O : Ok w [H] s.heap) (hH : s.heap.get? H = some (listOf vs.toArray n)) (rm : Room A 6) (hlt : LtOk prog w lt dom gE) (hE : ∀ x o, gE.get? x = some o → s.heap.get? x = some o) (hEH : gE.get? H = none)
    (hd : ∀ v ∈ vs, dom v) (hp : p < vs.length) (hf : vs.length < 2 ^ 30)
    (post : ∀ h' tk, Keeps [H] s.heap h' → h'.get? H = some (listOf (suL lt (vs.getD p .none) p vs p).toArray n) → R (.ok (.ret .none)) { s with heap := h', toks := tk }) :
    codeAny (model prog w) A (.call (.ref 63) ⟨[.ref H, .int p t2], []⟩) R s := by
  refine enter (foot := [(H, listOf vs.toArray n)]) (binds := [("heap", .ref H), ("pos", .int p t2)]) O (by simpa using hH) (by k_is) (by k_is) rm (BindsTo.of_eq rfl) (locs rfl) ?_
  intro g L h₁ B hg F N
  have m1 : (fun y => List.lookup y ([("heap", Value.ref H), ("pos", .int p t2)] : List (Str × Value)).reverse) "heap" = some (.ref H) := rfl
  have m3 : (fun y => List.lookup y ([("heap", Value.ref H), ("pos", .int p t2)] : List (Str × Value)).reverse) "pos" = some (.int p t2) := rfl
  generalize (fun y => List.lookup y ([("heap", Value.ref H), ("pos", .int p t2)] : List (Str × Value)).reverse) = m at F m1 m3
  have hgE : ∀ x o, gE.get? x = some o → g.get? x = some o := fun x o e => hg x o (hE x o e) (by
    simp only [List.map_cons, List.map_nil, List.mem_singleton]; rintro rfl; rw [hEH] at e; cases e)
  have hgH : gE.get? H = none := hEH
  with_reducible refine wpAny_execs_cons ?_
  refine wpAny_Assign_Name ?_
  refine Call_ ?_
  (refine' nmB ?kF ?kB ?ke ?kv ?kn ?_; (case kF => assumption); (case kB => assumption); (case ke => k_is); (case kv => boot_by_name); (case kn => decide))
  refine PyProof.Rows.callWith_builtin1 ?_
  refine args_cons ?_
  (refine' ldM ?kF ?kv ?_; (case kF => assumption); (case kv => assumption))
  refine args_nil ?_
  try dsimp only
  refine len_list (list_here N) (by rw [List.size_toArray]; with_reducible exact om63b (by assumption)) ?_
  rw [List.size_toArray]
  (refine' stM ?kF ?kN ?_; (case kF => assumption); (case kN => assumption); intro _ _ _ _)
  with_reducible refine wpAny_execs_cons ?_
  refine wpAny_Assign_Name ?_
  (refine' ldM ?kF ?kv ?_; (case kF => assumption); (case kv => assumption))
  (refine' stM ?kF ?kN ?_; (case kF => assumption); (case kN => assumption); intro _ _ _ _)
  with_reducible refine wpAny_execs_cons ?_
  refine wpAny_Assign_Name ?_
  with_reducible refine Subscript_ ?_
  (refine' ldM ?kF ?kv ?_; (case kF => assumption); (case kv => assumption))
  (refine' ldM ?kF ?kv ?_; (case kF => assumption); (case kv => assumption))
  try dsimp only
  refine item_listL (x := vs.getD p .none) (list_here (by assumption)) (by with_reducible exact Int.natCast_nonneg _) (by lia) (by rw [Int.toNat_natCast]; exact getD_some hp) ?_
  (refine' stM ?kF ?kN ?_; (case kF => assumption); (case kN => assumption); intro _ _ _ _)
  with_reducible refine wpAny_execs_cons ?_
  refine wpAny_Assign_Name ?_
  with_reducible refine wpAny_BinOp ?_
  with_reducible refine wpAny_BinOp ?_
  with_reducible refine wpAny_Constant_int ?_
  (refine' ldM ?kF ?kv ?_; (case kF => assumption); (case kv => assumption))
  try dsimp only
  refine mul_int ?_
  with_reducible refine wpAny_Constant_int ?_
  with_reducible refine PyProof.Rows.add_int ?_
  (refine' stM ?kF ?kN ?_; (case kF => assumption); (case kN => assumption); intro _ _ _ _)
  with_reducible refine wpAny_execs_cons ?_
  rename_i h0 tk0 F0 N0
  try dsimp only
  refine ex_cut (SuMid (fun h tk => { s with heap := h, toks := tk }) g L H n lt dom vs p) ?_ ?_
  · refine While_inv2 (SuInv H n lt dom vs p) (n₀ := vs.length - p) F0 N0
      ⟨vs, p, _, _, _, _, rfl, rfl, by assumption, by exact mput_ne (by decide) (mput_ne (by decide) mput_same), by assumption, by exact mput_ne (by decide) mput_same, by exact mput_ne (by decide) (mput_ne (by decide) (mput_ne (by decide) mput_same)), by exact mput_same, hp, rfl, hd, rfl⟩ ?_ PassesOwn.never
    rintro k m' nx h tk F1 N1 ⟨vs', q, tq, tc, te, ts, rfl, rfl, a1, a2, a3, a4, a5, a6, hq, hl, hd', hr⟩
    refine wpAny_isTrue_Compare1 ?_
    (refine' ldM ?kF ?kv ?_; (case kF => assumption); (case kv => assumption))
    (refine' ldM ?kF ?kv ?_; (case kF => assumption); (case kv => assumption))
    with_reducible refine PyProof.Rows.lt_int ?_
    with_reducible refine wpAny_truthy_bool ?_
    try dsimp only
    by_cases hc : 2 * q + 1 < vs.length
    · rw [if_pos (by rw [decide_eq_true_eq]; lia)]
      with_reducible refine wpAny_execs_cons ?_
      refine wpAny_Assign_Name ?_
      with_reducible refine wpAny_BinOp ?_
      (refine' ldM ?kF ?kv ?_; (case kF => assumption); (case kv => assumption))
      with_reducible refine wpAny_Constant_int ?_
      with_reducible refine PyProof.Rows.add_int ?_
      (refine' stM ?kF ?kN ?_; (case kF => assumption); (case kN => assumption); intro _ _ _ _)
      with_reducible refine wpAny_execs_cons ?_
      rename_i h2 tk2 F2 N2
      try dsimp only
      refine ex_cut (SuKid (fun h tk => { s with heap := h, toks := tk }) g L H n lt vs vs' p q tq te ts) ?_ ?_
      · refine wpAny_If ?_
        with_reducible refine isTrue_and ?_
        refine wpAny_isTrue_Compare1 ?_
        (refine' ldM ?kF ?kv ?_; (case kF => assumption); (case kv => exact mput_same))
        (refine' ldM ?kF ?kv ?_; (case kF => assumption); (case kv => assumption))
        with_reducible refine PyProof.Rows.lt_int ?_
        with_reducible refine wpAny_truthy_bool ?_
        try dsimp only
        by_cases hr2 : 2 * q + 2 < vs.length
        · rw [if_pos (by rw [decide_eq_true_eq]; lia)]
          with_reducible refine isTrue_and ?_
          with_reducible refine isTrue_not ?_
          refine wpAny_isTrue_Compare1 ?_
          with_reducible refine Subscript_ ?_
          (refine' ldM ?kF ?kv ?_; (case kF => assumption); (case kv => assumption))
          (refine' ldM ?kF ?kv ?_; (case kF => assumption); (case kv => assumption))
          try dsimp only
          refine item_listL (x := vs'.getD (2 * q + 1) .none) (list_here (by assumption)) (by lia) (by lia) (by rw [show (2 * (q : Int) + 1).toNat = 2 * q + 1 by lia]; exact getD_some (by lia)) ?_
          with_reducible refine Subscript_ ?_
          (refine' ldM ?kF ?kv ?_; (case kF => assumption); (case kv => assumption))
          (refine' ldM ?kF ?kv ?_; (case kF => assumption); (case kv => exact mput_same))
          try dsimp only
          refine item_listL (x := vs'.getD (2 * q + 2) .none) (list_here (by assumption)) (by lia) (by lia) (by rw [show (2 * (q : Int) + 1 + 1).toNat = 2 * q + 2 by lia]; exact getD_some (by lia)) ?_
          refine hlt _ _ _ _ _ (Room.deeper (k := 1) (rm.less (by lia))) (hd' _ (getD_mem (by lia))) (hd' _ (getD_mem (by lia))) (fun x o e => F2.keep x o (hgE x o e)) ?_
          intro tk3
          with_reducible refine wpAny_truthy_bool ?_
          try dsimp only
          by_cases hb : lt (vs'.getD (2 * q + 1) .none) (vs'.getD (2 * q + 2) .none) = true
          · rw [hb]
            rw [if_neg (by decide)]
            try dsimp only
            rw [if_neg (by decide)]
            with_reducible refine wpAny_execs_nil ?_
            refine ⟨rfl, h2, _, _, tc, rfl, F2, N2, by assumption, by assumption, by assumption, by assumption, by assumption, ?_⟩
            rw [show ((kid lt vs' q : Nat) : Int) = 2 * (q : Int) + 1 by unfold kid; rw [if_neg (by rw [hb]; simp)]; lia]
            assumption
          · have hb' : lt (vs'.getD (2 * q + 1) .none) (vs'.getD (2 * q + 2) .none) = false := by simpa using hb
            rw [hb']
            rw [if_pos (by decide)]
            with_reducible refine isTrue_and_nil ?_
            rw [if_pos (by decide)]
            with_reducible refine wpAny_execs_cons ?_
            refine wpAny_Assign_Name ?_
            (refine' ldM ?kF ?kv ?_; (case kF => assumption); (case kv => exact mput_same))
            (refine' stM ?kF ?kN ?_; (case kF => assumption); (case kN => assumption); intro _ _ _ _)
            with_reducible refine wpAny_execs_nil ?_
            rename_i h3 tk3 F3 N3
            have ek : ((kid lt vs' q : Nat) : Int) = 2 * (q : Int) + 1 + 1 := by unfold kid; rw [if_pos ⟨by lia, hb'⟩]; lia
            exact ⟨rfl, h3, _, _, _, rfl, F3, N3, by assumption, by assumption, by assumption, by assumption, by assumption, by rw [ek]; exact mput_same⟩
        · rw [if_neg (by rw [decide_eq_true_eq]; lia)]
          try dsimp only
          rw [if_neg (by decide)]
          with_reducible refine wpAny_execs_nil ?_
          refine ⟨rfl, h2, _, _, tc, rfl, F2, N2, by assumption, by assumption, by assumption, by assumption, by assumption, ?_⟩
          rw [show ((kid lt vs' q : Nat) : Int) = 2 * (q : Int) + 1 by unfold kid; rw [if_neg (by lia)]; lia]
          assumption
      · rintro _ ⟨h3, tk3, m'', tk', rfl, F3, N3, b1, b2, b3, b4, b5, b6⟩
        have hk := kid_lt (lt := lt) (vs := vs') (p := q) (by lia)
        have hk2 := kid_gt (lt := lt) (vs := vs') (p := q)
        with_reducible refine wpAny_execs_cons ?_
        refine wpAny_Assign_Subscript ?_
        with_reducible refine Subscript_ ?_
        (refine' ldM ?kF ?kv ?_; (case kF => assumption); (case kv => assumption))
        (refine' ldM ?kF ?kv ?_; (case kF => assumption); (case kv => assumption))
        try dsimp only
        refine item_listL (x := vs'.getD (kid lt vs' q) .none) (list_here (by assumption)) (by with_reducible exact Int.natCast_nonneg _) (by lia) (by rw [Int.toNat_natCast]; exact getD_some hk) ?_
        (refine' ldM ?kF ?kv ?_; (case kF => assumption); (case kv => assumption))
        (refine' ldM ?kF ?kv ?_; (case kF => assumption); (case kv => assumption))
        try dsimp only
        refine set_head (by assumption) (by assumption) no_rest (by with_reducible exact Int.natCast_nonneg _) (by with_reducible exact omC (by assumption)) (by lia) ?_
        intro h4 F4 N4
        with_reducible refine wpAny_execs_cons ?_
        refine wpAny_Assign_Name ?_
        (refine' ldM ?kF ?kv ?_; (case kF => assumption); (case kv => assumption))
        (refine' stM ?kF ?kN ?_; (case kF => assumption); (case kN => assumption); intro _ _ _ _)
        with_reducible refine wpAny_execs_cons ?_
        refine wpAny_Assign_Name ?_
        with_reducible refine wpAny_BinOp ?_
        with_reducible refine wpAny_BinOp ?_
        with_reducible refine wpAny_Constant_int ?_
        (refine' ldM ?kF ?kv ?_; (case kF => assumption); (case kv => exact mput_same))
        try dsimp only
        refine mul_int ?_
        with_reducible refine wpAny_Constant_int ?_
        with_reducible refine PyProof.Rows.add_int ?_
        (refine' stM ?kF ?kN ?_; (case kF => assumption); (case kN => assumption); intro _ _ _ _)
        with_reducible refine wpAny_execs_nil ?_
        rename_i h5 tk5 F5 N5
        refine ⟨_, _, _, _, vs.length - kid lt vs' q, rfl, F5, N5, by lia, vs'.set q (vs'.getD (kid lt vs' q) .none), kid lt vs' q, _, _, _, _, rfl, rfl, by assumption, by assumption, by exact mput_ne (by decide) mput_same, by assumption, by assumption, by exact mput_same, ?_, ?_, ?_, ?_⟩
        · rw [List.length_set]; assumption
        · rw [List.length_set]; assumption
        · exact all_set hd' (hd' _ (getD_mem hk))
        · rw [← hr]; conv => rhs; rw [suL, if_pos (by lia)]
    · rw [if_neg (by rw [decide_eq_true_eq]; lia)]
      refine ⟨rfl, h, tk, m', vs', q, tq, ts, rfl, F1, N1, a1, a3, a2, a4, hq, hl, hd', ?_⟩
      rw [← hr, suL, if_neg (by lia)]
  · rintro _ ⟨h, tk, m', vs', q, tq, ts, rfl, F1, N1, a1, a3, a2, a4, hq, hl, hd', hr⟩
    with_reducible refine wpAny_execs_cons ?_
    refine wpAny_Assign_Subscript ?_
    (refine' ldM ?kF ?kv ?_; (case kF => assumption); (case kv => assumption))
    (refine' ldM ?kF ?kv ?_; (case kF => assumption); (case kv => assumption))
    (refine' ldM ?kF ?kv ?_; (case kF => assumption); (case kv => assumption))
    try dsimp only
    refine set_head F1 N1 no_rest (by with_reducible exact Int.natCast_nonneg _) (by with_reducible exact omC (by assumption)) (by lia) ?_
    intro h2 F2 N2
    with_reducible refine wpAny_execs_cons ?_
    refine wpAny_Expr ?_
    refine Call_ ?_
    (refine' nmK ?kF ?kB ?ke ?_; (case kF => assumption); (case kB => assumption); (case ke => k_is))
    (refine' callWith_K (Base.X (by assumption)) ?ke ?_; (case ke => k_is))
    refine args_cons ?_
    (refine' ldM ?kF ?kv ?_; (case kF => assumption); (case kv => assumption))
    refine args_cons ?_
    (refine' ldM ?kF ?kv ?_; (case kF => assumption); (case kv => assumption))
    refine args_cons ?_
    (refine' ldM ?kF ?kv ?_; (case kF => assumption); (case kv => assumption))
    refine args_nil ?_
    (refine ⟨in_of (by assumption) (by assumption), ?_⟩; try dsimp only [List.nil_append, List.cons_append])
    try dsimp only
    refine wpAny_call (siftdown_call (vs := vs'.set q (vs.getD p .none)) (start := p) (p := q) (ok_of B F2 N2 (by simp)) (N2 _ (.head _)).1 (Room.deeper (k := 4) (rm.less (by lia))) hlt (fun x o e => F2.keep x o (hgE x o e)) hEH
      (all_set hd' (hd _ (getD_mem hp))) (by rw [List.length_set]; exact hq) (by rw [List.length_set]; lia) ?_)
    intro h3 tk3 k3 hn
    with_reducible refine wpAny_execs_nil ?_
    try dsimp only
    have F3 := fr_after F2 N2 (by simp) k3
    refine post h3 _ (fun b o e nb => F3.keep b o (hg b o e (by simpa using nb))) ?_
    rw [hn, ← hr, List.getD_eq_getElem?_getD, List.getElem?_set_self hq]; rfl

theorem siftup_max_call {prog : Program} {w : World} {A : Around} {s : Shared} {R : Result → Shared → Prop} {H : Addr} {vs : List Value} {n p : Nat} {t2 : Tok} {lt : Value → Value → Bool} {dom : Value → Prop} {gE : Heap}
    (O : Ok w [H] s.heap) (hH : s.heap.get? H = some (listOf vs.toArray n)) (rm : Room A 6) (hlt : LtOk prog w (fun a b => lt b a) dom gE) (hE : ∀ x o, gE.get? x = some o → s.heap.get? x = some o) (hEH : gE.get? H = none)
    (hd : ∀ v ∈ vs, dom v) (hp : p < vs.length) (hf : vs.length < 2 ^ 30)
    (post : ∀ h' tk, Keeps [H] s.heap h' → h'.get? H = some (listOf (suL lt (vs.getD p .none) p vs p).toArray n) → R (.ok (.ret .none)) { s with heap := h', toks := tk }) :
    codeAny (model prog w) A (.call (.ref 77) ⟨[.ref H, .int p t2], []⟩) R s := by
  refine enter (foot := [(H, listOf vs.toArray n)]) (binds := [("heap", .ref H), ("pos", .int p t2)]) O (by simpa using hH) (by k_is) (by k_is) rm (BindsTo.of_eq rfl) (locs rfl) ?_
  intro g L h₁ B hg F N
  have m1 : (fun y => List.lookup y ([("heap", Value.ref H), ("pos", .int p t2)] : List (Str × Value)).reverse) "heap" = some (.ref H) := rfl
  have m3 : (fun y => List.lookup y ([("heap", Value.ref H), ("pos", .int p t2)] : List (Str × Value)).reverse) "pos" = some (.int p t2) := rfl
  generalize (fun y => List.lookup y ([("heap", Value.ref H), ("pos", .int p t2)] : List (Str × Value)).reverse) = m at F m1 m3
  have hgE : ∀ x o, gE.get? x = some o → g.get? x = some o := fun x o e => hg x o (hE x o e) (by
    simp only [List.map_cons, List.map_nil, List.mem_singleton]; rintro rfl; rw [hEH] at e; cases e)
  have hgH : gE.get? H = none := hEH
  with_reducible refine wpAny_execs_cons ?_
  refine wpAny_Assign_Name ?_
  refine Call_ ?_
  (refine' nmB ?kF ?kB ?ke ?kv ?kn ?_; (case kF => assumption); (case kB => assumption); (case ke => k_is); (case kv => boot_by_name); (case kn => decide))
  refine PyProof.Rows.callWith_builtin1 ?_
  refine args_cons ?_
  (refine' ldM ?kF ?kv ?_; (case kF => assumption); (case kv => assumption))
  refine args_nil ?_
  try dsimp only
  refine len_list (list_here N) (by rw [List.size_toArray]; with_reducible exact om63b (by assumption)) ?_
  rw [List.size_toArray]
  (refine' stM ?kF ?kN ?_; (case kF => assumption); (case kN => assumption); intro _ _ _ _)
  with_reducible refine wpAny_execs_cons ?_
  refine wpAny_Assign_Name ?_
  (refine' ldM ?kF ?kv ?_; (case kF => assumption); (case kv => assumption))
  (refine' stM ?kF ?kN ?_; (case kF => assumption); (case kN => assumption); intro _ _ _ _)
  with_reducible refine wpAny_execs_cons ?_
  refine wpAny_Assign_Name ?_
  with_reducible refine Subscript_ ?_
  (refine' ldM ?kF ?kv ?_; (case kF => assumption); (case kv => assumption))
  (refine' ldM ?kF ?kv ?_; (case kF => assumption); (case kv => assumption))
  try dsimp only
  refine item_listL (x := vs.getD p .none) (list_here (by assumption)) (by with_reducible exact Int.natCast_nonneg _) (by lia) (by rw [Int.toNat_natCast]; exact getD_some hp) ?_
  (refine' stM ?kF ?kN ?_; (case kF => assumption); (case kN => assumption); intro _ _ _ _)
  with_reducible refine wpAny_execs_cons ?_
  refine wpAny_Assign_Name ?_
  with_reducible refine wpAny_BinOp ?_
  with_reducible refine wpAny_BinOp ?_
  with_reducible refine wpAny_Constant_int ?_
  (refine' ldM ?kF ?kv ?_; (case kF => assumption); (case kv => assumption))
  try dsimp only
  refine mul_int ?_
  with_reducible refine wpAny_Constant_int ?_
  with_reducible refine PyProof.Rows.add_int ?_
  (refine' stM ?kF ?kN ?_; (case kF => assumption); (case kN => assumption); intro _ _ _ _)
  with_reducible refine wpAny_execs_cons ?_
  rename_i h0 tk0 F0 N0
  try dsimp only
  refine ex_cut (SuMid (fun h tk => { s with heap := h, toks := tk }) g L H n lt dom vs p) ?_ ?_
  · refine While_inv2 (SuInv H n lt dom vs p) (n₀ := vs.length - p) F0 N0
      ⟨vs, p, _, _, _, _, rfl, rfl, by assumption, by exact mput_ne (by decide) (mput_ne (by decide) mput_same), by assumption, by exact mput_ne (by decide) mput_same, by exact mput_ne (by decide) (mput_ne (by decide) (mput_ne (by decide) mput_same)), by exact mput_same, hp, rfl, hd, rfl⟩ ?_ PassesOwn.never
    rintro k m' nx h tk F1 N1 ⟨vs', q, tq, tc, te, ts, rfl, rfl, a1, a2, a3, a4, a5, a6, hq, hl, hd', hr⟩
    refine wpAny_isTrue_Compare1 ?_
    (refine' ldM ?kF ?kv ?_; (case kF => assumption); (case kv => assumption))
    (refine' ldM ?kF ?kv ?_; (case kF => assumption); (case kv => assumption))
    with_reducible refine PyProof.Rows.lt_int ?_
    with_reducible refine wpAny_truthy_bool ?_
    try dsimp only
    by_cases hc : 2 * q + 1 < vs.length
    · rw [if_pos (by rw [decide_eq_true_eq]; lia)]
      with_reducible refine wpAny_execs_cons ?_
      refine wpAny_Assign_Name ?_
      with_reducible refine wpAny_BinOp ?_
      (refine' ldM ?kF ?kv ?_; (case kF => assumption); (case kv => assumption))
      with_reducible refine wpAny_Constant_int ?_
      with_reducible refine PyProof.Rows.add_int ?_
      (refine' stM ?kF ?kN ?_; (case kF => assumption); (case kN => assumption); intro _ _ _ _)
      with_reducible refine wpAny_execs_cons ?_
      rename_i h2 tk2 F2 N2
      try dsimp only
      refine ex_cut (SuKid (fun h tk => { s with heap := h, toks := tk }) g L H n lt vs vs' p q tq te ts) ?_ ?_
      · refine wpAny_If ?_
        with_reducible refine isTrue_and ?_
        refine wpAny_isTrue_Compare1 ?_
        (refine' ldM ?kF ?kv ?_; (case kF => assumption); (case kv => exact mput_same))
        (refine' ldM ?kF ?kv ?_; (case kF => assumption); (case kv => assumption))
        with_reducible refine PyProof.Rows.lt_int ?_
        with_reducible refine wpAny_truthy_bool ?_
        try dsimp only
        by_cases hr2 : 2 * q + 2 < vs.length
        · rw [if_pos (by rw [decide_eq_true_eq]; lia)]
          with_reducible refine isTrue_and ?_
          with_reducible refine isTrue_not ?_
          refine wpAny_isTrue_Compare1 ?_
          with_reducible refine Subscript_ ?_
          (refine' ldM ?kF ?kv ?_; (case kF => assumption); (case kv => assumption))
          (refine' ldM ?kF ?kv ?_; (case kF => assumption); (case kv => exact mput_same))
          try dsimp only
          refine item_listL (x := vs'.getD (2 * q + 2) .none) (list_here (by assumption)) (by lia) (by lia) (by rw [show (2 * (q : Int) + 1 + 1).toNat = 2 * q + 2 by lia]; exact getD_some (by lia)) ?_
          with_reducible refine Subscript_ ?_
          (refine' ldM ?kF ?kv ?_; (case kF => assumption); (case kv => assumption))
          (refine' ldM ?kF ?kv ?_; (case kF => assumption); (case kv => assumption))
          try dsimp only
          refine item_listL (x := vs'.getD (2 * q + 1) .none) (list_here (by assumption)) (by lia) (by lia) (by rw [show (2 * (q : Int) + 1).toNat = 2 * q + 1 by lia]; exact getD_some (by lia)) ?_
          refine hlt _ _ _ _ _ (Room.deeper (k := 1) (rm.less (by lia))) (hd' _ (getD_mem (by lia))) (hd' _ (getD_mem (by lia))) (fun x o e => F2.keep x o (hgE x o e)) ?_
          intro tk3
          with_reducible refine wpAny_truthy_bool ?_
          try dsimp only
          by_cases hb : lt (vs'.getD (2 * q + 1) .none) (vs'.getD (2 * q + 2) .none) = true
          · rw [hb]
            rw [if_neg (by decide)]
            try dsimp only
            rw [if_neg (by decide)]
            with_reducible refine wpAny_execs_nil ?_
            refine ⟨rfl, h2, _, _, tc, rfl, F2, N2, by assumption, by assumption, by assumption, by assumption, by assumption, ?_⟩
            rw [show ((kid lt vs' q : Nat) : Int) = 2 * (q : Int) + 1 by unfold kid; rw [if_neg (by rw [hb]; simp)]; lia]
            assumption
          · have hb' : lt (vs'.getD (2 * q + 1) .none) (vs'.getD (2 * q + 2) .none) = false := by simpa using hb
            rw [hb']
            rw [if_pos (by decide)]
            with_reducible refine isTrue_and_nil ?_
            rw [if_pos (by decide)]
            with_reducible refine wpAny_execs_cons ?_
            refine wpAny_Assign_Name ?_
            (refine' ldM ?kF ?kv ?_; (case kF => assumption); (case kv => exact mput_same))
            (refine' stM ?kF ?kN ?_; (case kF => assumption); (case kN => assumption); intro _ _ _ _)
            with_reducible refine wpAny_execs_nil ?_
            rename_i h3 tk3 F3 N3
            have ek : ((kid lt vs' q : Nat) : Int) = 2 * (q : Int) + 1 + 1 := by unfold kid; rw [if_pos ⟨by lia, hb'⟩]; lia
            exact ⟨rfl, h3, _, _, _, rfl, F3, N3, by assumption, by assumption, by assumption, by assumption, by assumption, by rw [ek]; exact mput_same⟩
        · rw [if_neg (by rw [decide_eq_true_eq]; lia)]
          try dsimp only
          rw [if_neg (by decide)]
          with_reducible refine wpAny_execs_nil ?_
          refine ⟨rfl, h2, _, _, tc, rfl, F2, N2, by assumption, by assumption, by assumption, by assumption, by assumption, ?_⟩
          rw [show ((kid lt vs' q : Nat) : Int) = 2 * (q : Int) + 1 by unfold kid; rw [if_neg (by lia)]; lia]
          assumption
      · rintro _ ⟨h3, tk3, m'', tk', rfl, F3, N3, b1, b2, b3, b4, b5, b6⟩
        have hk := kid_lt (lt := lt) (vs := vs') (p := q) (by lia)
        have hk2 := kid_gt (lt := lt) (vs := vs') (p := q)
        with_reducible refine wpAny_execs_cons ?_
        refine wpAny_Assign_Subscript ?_
        with_reducible refine Subscript_ ?_
        (refine' ldM ?kF ?kv ?_; (case kF => assumption); (case kv => assumption))
        (refine' ldM ?kF ?kv ?_; (case kF => assumption); (case kv => assumption))
        try dsimp only
        refine item_listL (x := vs'.getD (kid lt vs' q) .none) (list_here (by assumption)) (by with_reducible exact Int.natCast_nonneg _) (by lia) (by rw [Int.toNat_natCast]; exact getD_some hk) ?_
        (refine' ldM ?kF ?kv ?_; (case kF => assumption); (case kv => assumption))
        (refine' ldM ?kF ?kv ?_; (case kF => assumption); (case kv => assumption))
        try dsimp only
        refine set_head (by assumption) (by assumption) no_rest (by with_reducible exact Int.natCast_nonneg _) (by with_reducible exact omC (by assumption)) (by lia) ?_
        intro h4 F4 N4
        with_reducible refine wpAny_execs_cons ?_
        refine wpAny_Assign_Name ?_
        (refine' ldM ?kF ?kv ?_; (case kF => assumption); (case kv => assumption))
        (refine' stM ?kF ?kN ?_; (case kF => assumption); (case kN => assumption); intro _ _ _ _)
        with_reducible refine wpAny_execs_cons ?_
        refine wpAny_Assign_Name ?_
        with_reducible refine wpAny_BinOp ?_
        with_reducible refine wpAny_BinOp ?_
        with_reducible refine wpAny_Constant_int ?_
        (refine' ldM ?kF ?kv ?_; (case kF => assumption); (case kv => exact mput_same))
        try dsimp only
        refine mul_int ?_
        with_reducible refine wpAny_Constant_int ?_
        with_reducible refine PyProof.Rows.add_int ?_
        (refine' stM ?kF ?kN ?_; (case kF => assumption); (case kN => assumption); intro _ _ _ _)
        with_reducible refine wpAny_execs_nil ?_
        rename_i h5 tk5 F5 N5
        refine ⟨_, _, _, _, vs.length - kid lt vs' q, rfl, F5, N5, by lia, vs'.set q (vs'.getD (kid lt vs' q) .none), kid lt vs' q, _, _, _, _, rfl, rfl, by assumption, by assumption, by exact mput_ne (by decide) mput_same, by assumption, by assumption, by exact mput_same, ?_, ?_, ?_, ?_⟩
        · rw [List.length_set]; assumption
        · rw [List.length_set]; assumption
        · exact all_set hd' (hd' _ (getD_mem hk))
        · rw [← hr]; conv => rhs; rw [suL, if_pos (by lia)]
    · rw [if_neg (by rw [decide_eq_true_eq]; lia)]
      refine ⟨rfl, h, tk, m', vs', q, tq, ts, rfl, F1, N1, a1, a3, a2, a4, hq, hl, hd', ?_⟩
      rw [← hr, suL, if_neg (by lia)]
  · rintro _ ⟨h, tk, m', vs', q, tq, ts, rfl, F1, N1, a1, a3, a2, a4, hq, hl, hd', hr⟩
    with_reducible refine wpAny_execs_cons ?_
    refine wpAny_Assign_Subscript ?_
    (refine' ldM ?kF ?kv ?_; (case kF => assumption); (case kv => assumption))
    (refine' ldM ?kF ?kv ?_; (case kF => assumption); (case kv => assumption))
    (refine' ldM ?kF ?kv ?_; (case kF => assumption); (case kv => assumption))
    try dsimp only
    refine set_head F1 N1 no_rest (by with_reducible exact Int.natCast_nonneg _) (by with_reducible exact omC (by assumption)) (by lia) ?_
    intro h2 F2 N2
    with_reducible refine wpAny_execs_cons ?_
    refine wpAny_Expr ?_
    refine Call_ ?_
    (refine' nmK ?kF ?kB ?ke ?_; (case kF => assumption); (case kB => assumption); (case ke => k_is))
    (refine' callWith_K (Base.X (by assumption)) ?ke ?_; (case ke => k_is))
    refine args_cons ?_
    (refine' ldM ?kF ?kv ?_; (case kF => assumption); (case kv => assumption))
    refine args_cons ?_
    (refine' ldM ?kF ?kv ?_; (case kF => assumption); (case kv => assumption))
    refine args_cons ?_
    (refine' ldM ?kF ?kv ?_; (case kF => assumption); (case kv => assumption))
    refine args_nil ?_
    (refine ⟨in_of (by assumption) (by assumption), ?_⟩; try dsimp only [List.nil_append, List.cons_append])
    try dsimp only
    refine wpAny_call (siftdown_max_call (vs := vs'.set q (vs.getD p .none)) (start := p) (p := q) (ok_of B F2 N2 (by simp)) (N2 _ (.head _)).1 (Room.deeper (k := 4) (rm.less (by lia))) hlt (fun x o e => F2.keep x o (hgE x o e)) hEH
      (all_set hd' (hd _ (getD_mem hp))) (by rw [List.length_set]; exact hq) (by rw [List.length_set]; lia) ?_)
    intro h3 tk3 k3 hn
    with_reducible refine wpAny_execs_nil ?_
    try dsimp only
    have F3 := fr_after F2 N2 (by simp) k3
    refine post h3 _ (fun b o e nb => F3.keep b o (hg b o e (by simpa using nb))) ?_
    rw [hn, ← hr, List.getD_eq_getElem?_getD, List.getElem?_set_self hq]; rfl


theorem keeps_same {a : Addr} {h h' : Heap} (x : Heap.SameBut a h h') : Keeps [a] h h' := fun b o e n => (x.2 b (by simpa using n)).trans e
theorem keeps_ext {a : Addr} {h h' : Heap} (x : Heap.ExtBut a h h') : Keeps [a] h h' := fun b o e n => x b o (by simpa using n) e

section
variable {g h h' : Heap} {L I : Addr} {m : Str → Option Value} {o o' : Obj} {nx : List (Addr × Obj)}
theorem after1 (F : Fr g L h m) (N : News g L h ((I, o) :: nx)) (hI : ∀ p ∈ nx, p.1 ≠ I) (k : Keeps [I] h h') (hn : h'.get? I = some o') : Fr g L h' m ∧ News g L h' ((I, o') :: nx) := by
  refine ⟨fr_after F N (by simp) k, news_after F N k fun p hp => ?_⟩
  rcases List.mem_cons.mp hp with rfl | hp
  · exact .inr ⟨hn, .inl (by simp)⟩
  · exact .inl ⟨.tail _ hp, by simpa using hI p hp⟩
theorem gone1 (F : Fr g L h m) (N : News g L h ((I, o) :: nx)) (hI : ∀ p ∈ nx, p.1 ≠ I) (k : Keeps [I] h h') : Fr g L h' m ∧ News g L h' nx := by
  refine ⟨fr_after F N (by simp) k, news_after F N k fun p hp => ?_⟩
  exact .inl ⟨.tail _ hp, by simpa using hI p hp⟩
theorem fresh_ne (N : News g L h nx) : ∀ p ∈ nx, p.1 ≠ h.objs.size := fun p hp => Nat.ne_of_lt (Heap.lt_size (N p hp).1)
end

noncomputable abbrev riObj (x left step : Int) : Obj := { cls := .type "range_iterator", data := .fields #[rawInt x, rawInt left, rawInt step] }
noncomputable abbrev rgObj (a b c : Int) (t u v : Tok) : Obj := { cls := .type "range", data := .fields #[.int a t, .int b u, .int c v] }

theorem asInt_int (i : Int) (t : Tok) : asInt? (.int i t) = pure (some i) := rfl
theorem sub_ri_reversed : isSubtype (.type "range_iterator") (.type "reversed") = pure false := by rw [isSubtype_type]; kernel_rfl

section
variable {prog : Program} {w : World} {A : Around} {E : Value → Shared → Prop} {s : Shared}
theorem call_range_reversed {r : Addr} {n : Nat} {t u v : Tok} {Q : Value → Shared → Prop} (hr : s.heap.get? r = some (rgObj 0 n 1 t u v)) (hn : n < 2 ^ 40)
    (h : Q (.ref s.heap.objs.size) { s with heap := s.heap.push (riObj ((n : Int) - 1) n (-1)) }) : wpAny (model prog w) A (call (.builtin "range.__reversed__") [.ref r]) Q E s := by
  have hT : s.TypeIs (.ref r) "range" := ⟨_, hr, rfl⟩
  refine wpAny_call_entry F.slot_range_reversed hT F.entry_range_reversed ?_ (F.args_range_reversed_1 _)
  unfold Builtin.«range.__reversed__»
  refine wpAny_bind (wpAny_of_eq (a := Value.ref r) rfl ?_)
  show wpAny _ _ (Builtin.Range.rangeFields (.ref r) >>= _) _ _ s
  unfold Builtin.Range.rangeFields
  refine wpAny_bind (wpAny_bind (wpAny_field hr rfl (x := .int 0 t) rfl ?_))
  refine wpAny_bind (wpAny_of_eq (asInt_int _ _) ?_)
  refine wpAny_bind (wpAny_field hr rfl (x := .int n u) rfl ?_)
  refine wpAny_bind (wpAny_of_eq (asInt_int _ _) ?_)
  refine wpAny_bind (wpAny_field hr rfl (x := .int 1 v) rfl ?_)
  simp only [asInt_int, pure_bind]
  refine wpAny_pure ?_
  have e1 : Builtin.Range.rangeSize 0 n 1 = n := by rw [rangeSize_one]; split <;> lia
  dsimp only
  rw [e1]
  have e2 : (Builtin.Range.rangeFitsLong 0 && Builtin.Range.rangeFitsLong n && Builtin.Range.rangeFitsLong 1 && Builtin.Range.rangeFitsLong (-1) && Builtin.Range.rangeFitsLong (0 - 1) && Builtin.Range.rangeFitsLong n) = true := by
    simp only [Builtin.Range.rangeFitsLong, Bool.and_eq_true, decide_eq_true_eq]; lia
  rw [e2]
  simp only [Bool.not_true, Bool.false_eq_true, if_false, if_true]
  refine wpAny_bind (wpAny_newObj_type ?_ (by size_fits))
  rw [show (0 : Int) + ((n : Int) - 1) * 1 = (n : Int) - 1 by lia]
  exact wpAny_pure ⟨_, rfl, h⟩

theorem code_reversed_range {r : Addr} {n : Nat} {t u v : Tok} {Q₁ : Value → Shared → Prop} (hr : s.heap.get? r = some (rgObj 0 n 1 t u v)) (hn : n < 2 ^ 40)
    (h : Q₁ (.ref s.heap.objs.size) { s with heap := s.heap.push (riObj ((n : Int) - 1) n (-1)) }) :
    codeAny (model prog w) A (.call (.builtin "reversed.__new__") ⟨[.type "reversed", .ref r], []⟩) (wants Q₁ E) s := by
  have hT : s.TypeIs (.ref r) "range" := ⟨_, hr, rfl⟩
  refine codeAny_of_tree ?_
  show wpAny _ A.in1 (do checkBuiltinCall "reversed.__new__" ⟨[.type "reversed", .ref r], []⟩; again (.builtin "reversed.__new__" ⟨[.type "reversed", .ref r], []⟩)) _ _ s
  refine wpAny_bind (wpAny_of_eq (F.newCall_reversed_1 _) (wpAny_pure ⟨plainId_quiet F.plain_reversed_new _, codeAny_builtin F.entry_reversed_new ?_⟩))
  rw [Around.under_plainId F.plain_reversed_new _]
  unfold Builtin.«reversed.__new__»
  refine wpAny_bind (wpAny_of_eq (newClass_reversed _) ?_)
  try dsimp only
  refine wpAny_bind (wpAny_of_eq (a := ()) (by first | rfl | kernel_rfl) ?_)
  refine wpAny_bind (wpAny_of_eq (a := ()) (by first | rfl | kernel_rfl) ?_)
  try dsimp only
  refine wpAny_bind (wpAny_specialOf hT F.slot_range_reversed.lookup ?_)
  try dsimp only
  refine wpAny_bind (wpAny_of_eq (F.slot_range_reversed.bind _) ?_)
  try dsimp only
  first
  | rw [if_neg (show ¬ ((Value.builtin "range.__reversed__" == Value.none) = true) from Bool.false_ne_true)]
  | (show wpAny _ _ (if (Value.builtin "range.__reversed__" == Value.none) = true then _ else _) _ _ _; rw [if_neg (show ¬ ((Value.builtin "range.__reversed__" == Value.none) = true) from Bool.false_ne_true)])
  refine wpAny_bind (wpAny_rule ?_)
  refine wpAny_bind (m := runValue (.call (.builtin "range.__reversed__") ⟨[.ref r], []⟩)) (show wpAny _ _ (call (.builtin "range.__reversed__") [.ref r]) _ _ _ from call_range_reversed hr hn ?_)
  first
  | exact wpAny_pure h
  | exact wpAny_bind (wpAny_pure (wpAny_pure h))

theorem call_reversed_range {r : Addr} {n : Nat} {t u v : Tok} {Q : Value → Shared → Prop} (hr : s.heap.get? r = some (rgObj 0 n 1 t u v)) (hn : n < 2 ^ 40)
    (h : Q (.ref s.heap.objs.size) { s with heap := s.heap.push (riObj ((n : Int) - 1) n (-1)) }) : wpAny (model prog w) A (call (.type "reversed") [.ref r]) Q E s := by
  refine callType_other (U := "range_iterator") (Q₁ := fun obj s₁ => obj = .ref s.heap.objs.size ∧ s₁ = { s with heap := s.heap.push (riObj ((n : Int) - 1) n (-1)) }) (by decide +kernel) F.create_reversed ⟨_, _, F.mro_reversed⟩ F.made_reversed sub_ri_reversed (F.typeCall_reversed_1 _) (code_reversed_range hr hn ⟨rfl, rfl⟩) ?_
  rintro obj s₁ ⟨rfl, rfl⟩
  exact ⟨⟨_, Heap.get?_push_size _ rfl, rfl⟩, h⟩

theorem pyIter_ri {it : Addr} {x left step : Int} {Q : Value → Shared → Prop} (hit : s.heap.get? it = some (riObj x left step)) (h : Q (.ref it) s) : wpAny (model prog w) A (pyIter (.ref it)) Q E s := by
  have hT : s.TypeIs (.ref it) "range_iterator" := ⟨_, hit, rfl⟩
  refine wpAny_pyIter_slot hT F.slot_range_iterator_iter (wpAny_call_entry F.slot_range_iterator_iter hT F.entry_range_iterator_iter ?_ (F.args_range_iterator_iter_1 _))
  show wpAny _ _ (ret (.ref it)) _ _ s
  exact wpAny_pure ⟨_, rfl, "range_iterator", _, hT, F.slot_range_iterator_next.lookup, h⟩
end

section
variable {prog : Program} {w : World} {A : Around} {s : Shared} {g : Heap} {L I a₀ : Addr} {cn : Str} {cs : Scope} {ccd : Value} {cl : List (Str × Addr)} {m₀ : Str → Option Value} {nx₀ : List (Addr × Obj)}
inductive RiEnd (s : Shared) (g : Heap) (L I : Addr) (o : Obj) (J : (Str → Option Value) → List (Addr × Obj) → Prop) (s' : Shared) : Prop
  | mk (h' : Heap) (tk' : Tok) (m' : Str → Option Value) (nx' : List (Addr × Obj)) : s' = { s with heap := h', toks := tk' } → Fr g L h' m' → News g L h' ((I, o) :: nx') → (∀ p ∈ nx', p.1 ≠ I) → J m' nx' → RiEnd s g L I o J s'
inductive RiInv (st : Heap → Tok → Shared) (g : Heap) (L I : Addr) (a c : Int) (n : Nat) (J : Nat → (Str → Option Value) → List (Addr × Obj) → Prop) (k : Nat) (s' : Shared) : Prop
  | mk (h : Heap) (tk : Tok) (m : Str → Option Value) (nx : List (Addr × Obj)) (i : Nat) : s' = st h tk → Fr g L h m → News g L h ((I, riObj (a + (i : Nat) * c) ((n : Int) - (i : Nat)) c) :: nx) → (∀ p ∈ nx, p.1 ≠ I) → J i m nx → i ≤ n → k = n - i → RiInv st g L I a c n J k s'
theorem for_ri {x : Str} {px : Pos} {body : List Stmt} {a c : Int} {n : Nat} {Q : Flow → Shared → Prop} (J : Nat → (Str → Option Value) → List (Addr × Obj) → Prop)
    (hh : A.handled = none) (F : Fr g L s.heap m₀) (N : News g L s.heap ((I, riObj a n c) :: nx₀)) (hI : ∀ p ∈ nx₀, p.1 ≠ I) (h0 : J 0 m₀ nx₀)
    (turn : ∀ i m nx h tk t, i < n → J i m nx → Fr g L h (mput m x (.int (a + i * c) t)) → News g L h ((I, riObj (a + (i + 1 : Nat) * c) ((n : Int) - (i + 1 : Nat)) c) :: nx) → (∀ p ∈ nx, p.1 ≠ I) →
      wpAny (model prog w) A (execs body (envX cn cs L a₀ ccd cl)) (fun f s' => (f = .next ∨ f = .cont) ∧ RiEnd s g L I (riObj (a + (i + 1 : Nat) * c) ((n : Int) - (i + 1 : Nat)) c) (J (i + 1)) s') No { s with heap := h, toks := tk })
    (done : ∀ m nx h tk, J n m nx → Fr g L h m → News g L h nx → Q .next { s with heap := h, toks := tk })
    (hk : cs.kind = .function := by rfl) (hl : (envX cn cs L a₀ ccd cl).kindOf x = some .local := by rfl) :
    codeAny (model prog w) A (.forLoop (.Name x px) (.ref I) body [] (envX cn cs L a₀ ccd cl)) (fun r s' => match r with | .ok f => Q f s' | .error e => cameBackBy (model prog w) A (envX cn cs L a₀ ccd cl) No e s') s := by
  refine codeAny_forLoop (RiInv (fun h tk => { s with heap := h, toks := tk }) g L I a c n J) ?_ (n)
    ⟨s.heap, s.toks, m₀, nx₀, 0, rfl, F, by simpa using N, hI, h0, Nat.zero_le _, rfl⟩
  rintro k s' ⟨h, tk, m, nx, i, rfl, F1, N1, hI1, hJ, hi, rfl⟩
  have hit := (N1 _ (.head _)).1
  by_cases hlt : i < n
  · refine wpAny_pyNext_range_item hit (by lia) fun h2 hit2 hs2 => ?_
    obtain ⟨F2, N2⟩ := after1 F1 N1 hI1 (keeps_same hs2) hit2
    have e1 : a + (i : Int) * c + c = a + ((i + 1 : Nat) : Int) * c := by push_cast; rw [Int.add_mul, Int.one_mul, Int.add_assoc]
    have e2 : (n : Int) - (i : Int) - 1 = (n : Int) - ((i + 1 : Nat) : Int) := by push_cast; lia
    rw [e1, e2] at N2
    refine wpAny_assign_Name (stM F2 N2 (fun h3 tk3 F3 N3 => ?_) hk hl)
    refine wpAny_mono (turn i m nx h3 tk3 _ hlt hJ F3 N3 hI1) (fun f s4 x => ?_) fun _ _ x => x.elim
    obtain ⟨hf, h', tk', m', nx', rfl, F', N', hI', hJ'⟩ := x
    have fin : ∃ k', k' < n - i ∧ RiInv (fun h tk => { s with heap := h, toks := tk }) g L I a c n J k' { s with heap := h', toks := tk' } :=
      ⟨n - (i + 1), by lia, h', tk', m', nx', i + 1, rfl, F', N', hI', hJ', hlt, rfl⟩
    rcases hf with rfl | rfl <;> exact fin
  · have hin : i = n := by lia
    subst hin
    refine wpAny_pyNext_range_end hh hit (by lia) fun h2 he => wpAny_execs_nil ?_
    obtain ⟨F2, N2⟩ := gone1 F1 N1 hI1 (keeps_ext he)
    exact done m nx h2 tk hJ F2 N2
end

section
variable {prog : Program} {w : World} {A : Around} {E : Value → Shared → Prop} {s : Shared}
theorem fdiv2 {n : Nat} {t u : Tok} {Q : Value → Shared → Prop} (h : ∀ tk tk', Q (.int ((n / 2 : Nat) : Int) tk) { s with toks := tk' }) : wpAny (model prog w) A (binaryOp .FloorDiv (.int n t) (.int 2 u)) Q E s := by
  refine floordiv_int (by decide) ?_ (Or.inl (PyProof.noPylong_small (by decide)))
  rw [show (n : Int).fdiv 2 = ((n / 2 : Nat) : Int) by rw [Int.fdiv_eq_ediv_of_nonneg _ (by lia)]; lia]
  exact h _ _
theorem getMethod_lst {name : Str} {id : String} {pl : Sem Bool} {l : Addr} {vs : List Value} {n : Nat} {Q : Value × List Value → Shared → Prop} (slot : Slot "list" name id)
    (hty : typeOf (.builtin id) = pure (.type "method_descriptor")) (hl : s.heap.get? l = some (listOf vs.toArray n)) (h : Q (.builtin id, [.ref l]) s) :
    wpAny (model prog w) A (getMethod (.ref l) name pl) Q E s := getMethod_list_of slot hty (PySem.IsL.isList (n := n) hl) ⟨_, hl, rfl⟩ h
theorem truthy_lst {l : Addr} {vs : List Value} {n : Nat} {Q : Bool → Shared → Prop} (hl : s.heap.get? l = some (listOf vs.toArray n)) (hf : vs.length < 2 ^ 40)
    (h : ∀ tk, Q (decide (vs ≠ [])) { s with toks := tk }) : wpAny (model prog w) A (truthy (.ref l)) Q E s := by
  refine wpAny_truthy_list (PySem.IsL.isList (n := n) hl) (by rw [List.size_toArray]; lia) ?_
  have : (!vs.toArray.isEmpty) = decide (vs ≠ []) := by cases vs <;> simp
  rw [this]; exact h _
variable {g : Heap} {L H : Addr} {m : Str → Option Value} {rest : List (Addr × Obj)} {vs : List Value} {n : Nat}
theorem pop_head {Q : Value → Shared → Prop} (F : Fr g L s.heap m) (N : News g L s.heap ((H, listOf vs.toArray n) :: rest)) (ha : ∀ p ∈ rest, p.1 ≠ H) (hne : vs ≠ []) (hf : vs.length < 2 ^ 20)
    (h : ∀ h', Fr g L h' m → News g L h' ((H, listOf vs.dropLast.toArray (n + 1)) :: rest) → Q (vs.getD (vs.length - 1) .none) { s with heap := h' }) : wpAny (model prog w) A (call (.builtin "list.pop") [.ref H]) Q E s := by
  have e : vs = vs.dropLast ++ [vs.getD (vs.length - 1) .none] := by
    have h1 := List.dropLast_concat_getLast hne
    rw [List.getLast_eq_getElem] at h1
    rw [List.getD_eq_getElem?_getD, List.getElem?_eq_getElem (by have := List.length_pos_iff.mpr hne; lia)]
    exact h1.symm
  refine kl_pop F N (p := vs.dropLast) (y := vs.getD (vs.length - 1) .none) ?_ (Upd.head ha) ?_ h
  · have := kpa_last (vs.getD (vs.length - 1) .none) vs.dropLast
    rw [← e] at this
    simpa using this
  · simp only [sizeLine]; lia
end

section
variable {prog : Program} {w : World} {A : Around} {E : Value → Shared → Prop} {s : Shared} {g : Heap} {L : Addr} {m : Str → Option Value} {nx : List (Addr × Obj)}
theorem range1_led {n : Int} {t : Tok} {Q : Value → Shared → Prop} (F : Fr g L s.heap m) (N : News g L s.heap nx)
    (h : ∀ r h' tk t u v, Fr g L h' m → News g L h' ((r, rgObj 0 n 1 t u v) :: nx) → (∀ p ∈ nx, p.1 ≠ r) → Q (.ref r) { s with heap := h', toks := tk }) : wpAny (model prog w) A (call (.type "range") [.int n t]) Q E s :=
  call_range_1 (h _ _ _ _ _ _ (F.push _) (News.push F N _) (fresh_ne N))
theorem range2_led {a b : Int} {t u : Tok} {Q : Value → Shared → Prop} (F : Fr g L s.heap m) (N : News g L s.heap nx)
    (h : ∀ r h' tk t u v, Fr g L h' m → News g L h' ((r, rgObj a b 1 t u v) :: nx) → (∀ p ∈ nx, p.1 ≠ r) → Q (.ref r) { s with heap := h', toks := tk }) : wpAny (model prog w) A (call (.type "range") [.int a t, .int b u]) Q E s :=
  call_range_2 (h _ _ _ _ _ _ (F.push _) (News.push F N _) (fresh_ne N))
theorem rangeDown_led {a b : Int} {t u v : Tok} {Q : Value → Shared → Prop} (F : Fr g L s.heap m) (N : News g L s.heap nx)
    (h : ∀ r h' tk t u v, Fr g L h' m → News g L h' ((r, rgObj a b (-1) t u v) :: nx) → (∀ p ∈ nx, p.1 ≠ r) → Q (.ref r) { s with heap := h', toks := tk }) : wpAny (model prog w) A (call (.type "range") [.int a t, .int b u, .int (-1) v]) Q E s :=
  call_range_3 (by decide) (h _ _ _ _ _ _ (F.push _) (News.push F N _) (fresh_ne N)) (Or.inl (PyProof.noPylong_small (by decide)))
theorem reversed_led {n : Nat} {r : Addr} {t u v : Tok} {Q : Value → Shared → Prop} (F : Fr g L s.heap m) (N : News g L s.heap ((r, rgObj 0 n 1 t u v) :: nx)) (hn : n < 2 ^ 40)
    (h : ∀ I h', Fr g L h' m → News g L h' ((I, riObj ((n : Int) - 1) n (-1)) :: nx) → (∀ p ∈ nx, p.1 ≠ I) → Q (.ref I) { s with heap := h' }) : wpAny (model prog w) A (call (.type "reversed") [.ref r]) Q E s := by
  have N' : News g L s.heap nx := fun p hp => N p (.tail _ hp)
  exact call_reversed_range (N _ (.head _)).1 hn (h _ _ (F.push _) (News.push F N' _) (fresh_ne N'))
theorem iter_ri {it : Addr} {x left step : Int} {Q : Value → Shared → Prop} (N : News g L s.heap ((it, riObj x left step) :: nx)) (h : Q (.ref it) s) : wpAny (model prog w) A (pyIter (.ref it)) Q E s :=
  pyIter_ri (N _ (.head _)).1 h
end

noncomputable def hfL (lt : Value → Value → Bool) : Nat → List Value → List Value
  | 0, vs => vs
  | k + 1, vs => hfL lt k (suL lt (vs.getD k .none) k vs k)
theorem sdL_length {lt : Value → Value → Bool} {nw : Value} {start : Nat} (vs : List Value) (p : Nat) : (sdL lt nw start vs p).length = vs.length := by
  fun_induction sdL lt nw start vs p <;> simp_all
theorem suL_length {lt : Value → Value → Bool} {nw : Value} {start : Nat} (vs : List Value) (p : Nat) : (suL lt nw start vs p).length = vs.length := by
  fun_induction suL lt nw start vs p <;> simp_all [sdL_length]
theorem sdL_all {lt : Value → Value → Bool} {nw : Value} {start : Nat} {dom : Value → Prop} (vs : List Value) (p : Nat) (hp : p < vs.length) (h : ∀ x ∈ vs, dom x) (hn : dom nw) : ∀ x ∈ sdL lt nw start vs p, dom x := by
  fun_induction sdL lt nw start vs p with
  | case1 vs p h1 h2 ih => exact ih (by simp only [List.length_set]; with_reducible exact ar1 (by assumption)) (all_set h (h _ (getD_mem (by with_reducible exact ar1 (by assumption)))))
  | case2 vs p h1 h2 => exact all_set h hn
  | case3 vs p h1 => exact all_set h hn
theorem suL_all {lt : Value → Value → Bool} {nw : Value} {start : Nat} {dom : Value → Prop} (vs : List Value) (p : Nat) (hp : p < vs.length) (h : ∀ x ∈ vs, dom x) (hn : dom nw) : ∀ x ∈ suL lt nw start vs p, dom x := by
  fun_induction suL lt nw start vs p with
  | case1 vs p h1 ih => exact ih (by simp only [List.length_set]; exact kid_lt h1) (all_set h (h _ (getD_mem (kid_lt h1))))
  | case2 vs p h1 => exact sdL_all _ _ (by simpa using hp) (all_set h hn) hn

theorem heapify_call {prog : Program} {w : World} {A : Around} {s : Shared} {R : Result → Shared → Prop} {H : Addr} {vs : List Value} {n : Nat} {lt : Value → Value → Bool} {dom : Value → Prop} {gE : Heap}
    (O : Ok w [H] s.heap) (hH : s.heap.get? H = some (listOf vs.toArray n)) (rm : Room A 8) (hlt : LtOk prog w lt dom gE) (hE : ∀ x o, gE.get? x = some o → s.heap.get? x = some o) (hEH : gE.get? H = none)
    (hd : ∀ v ∈ vs, dom v) (hf : vs.length < 2 ^ 20)
    (post : ∀ h' tk, Keeps [H] s.heap h' → h'.get? H = some (listOf (hfL lt (vs.length / 2) vs).toArray n) → R (.ok (.ret .none)) { s with heap := h', toks := tk }) :
    codeAny (model prog w) A (.call (.ref 35) ⟨[.ref H], []⟩) R s := by
  refine enter (foot := [(H, listOf vs.toArray n)]) (binds := [("x", .ref H)]) O (by simpa using hH) (by k_is) (by k_is) rm (BindsTo.of_eq rfl) (locs rfl) ?_
  intro g L h₁ B hg F N
  have m1 : (fun y => List.lookup y ([("x", Value.ref H)] : List (Str × Value)).reverse) "x" = some (.ref H) := rfl
  generalize (fun y => List.lookup y ([("x", Value.ref H)] : List (Str × Value)).reverse) = m at F m1
  have hgE : ∀ x o, gE.get? x = some o → g.get? x = some o := fun x o e => hg x o (hE x o e) (by
    simp only [List.map_cons, List.map_nil, List.mem_singleton]; rintro rfl; rw [hEH] at e; cases e)
  with_reducible refine wpAny_execs_cons ?_
  refine wpAny_Assign_Name ?_
  refine Call_ ?_
  (refine' nmB ?kF ?kB ?ke ?kv ?kn ?_; (case kF => assumption); (case kB => assumption); (case ke => k_is); (case kv => boot_by_name); (case kn => decide))
  refine PyProof.Rows.callWith_builtin1 ?_
  refine args_cons ?_
  (refine' ldM ?kF ?kv ?_; (case kF => assumption); (case kv => assumption))
  refine args_nil ?_
  try dsimp only
  refine len_list (list_here N) (by rw [List.size_toArray]; lia) ?_
  rw [List.size_toArray]
  (refine' stM ?kF ?kN ?_; (case kF => assumption); (case kN => assumption); intro _ _ _ _)
  with_reducible refine wpAny_execs_cons ?_
  refine wpAny_For ?_
  refine Call_ ?_
  (refine' nmB ?kF ?kB ?ke ?kv ?kn ?_; (case kF => assumption); (case kB => assumption); (case ke => k_is); (case kv => boot_by_name); (case kn => decide))
  refine Pv.callWith_type1 ?_
  refine args_cons ?_
  refine Call_ ?_
  (refine' nmB ?kF ?kB ?ke ?kv ?kn ?_; (case kF => assumption); (case kB => assumption); (case ke => k_is); (case kv => boot_by_name); (case kn => decide))
  refine Pv.callWith_type1 ?_
  refine args_cons ?_
  with_reducible refine wpAny_BinOp ?_
  (refine' ldM ?kF ?kv ?_; (case kF => assumption); (case kv => exact mput_same))
  with_reducible refine wpAny_Constant_int ?_
  try dsimp only
  rename_i h0 tk0 F0 N0
  refine fdiv2 fun tk1 tk2 => ?_
  refine args_nil ?_
  try dsimp only
  refine range1_led F0 N0 fun r h2 tk3 t3 u3 v3 F2 N2 hr2 => ?_
  refine args_nil ?_
  try dsimp only
  have hn2 : vs.length / 2 < 2 ^ 40 := by lia
  refine reversed_led F2 N2 hn2 fun I h3 F3 N3 hI => ?_
  try dsimp only
  refine iter_ri N3 ?_
  try dsimp only
  refine for_ri (fun i m' nx => m' "x" = some (.ref H) ∧ ∃ vs' : List Value, nx = [(H, listOf vs'.toArray n)] ∧ vs'.length = vs.length ∧ (∀ v ∈ vs', dom v) ∧ hfL lt (vs.length / 2 - i) vs' = hfL lt (vs.length / 2) vs)
    rm.hand F3 N3 hI ⟨by assumption, vs, rfl, rfl, hd, rfl⟩ ?_ ?_
  · rintro i m' _ h4 tk4 t4 hi ⟨a1, vs', rfl, hl, hd', hr⟩ F4 N4 hI4
    have e1 : ((vs.length / 2 : Nat) : Int) - 1 + (i : Int) * (-1) = ((vs.length / 2 - 1 - i : Nat) : Int) := by lia
    rw [e1] at F4
    with_reducible refine wpAny_execs_cons ?_
    refine wpAny_Expr ?_
    refine Call_ ?_
    (refine' nmK ?kF ?kB ?ke ?_; (case kF => assumption); (case kB => assumption); (case ke => k_is))
    (refine' callWith_K (Base.X (by assumption)) ?ke ?_; (case ke => k_is))
    refine args_cons ?_
    (refine' ldM ?kF ?kv ?_; (case kF => assumption); (case kv => assumption))
    refine args_cons ?_
    (refine' ldM ?kF ?kv ?_; (case kF => assumption); (case kv => exact mput_same))
    refine args_nil ?_
    (refine ⟨in_of (by assumption) (by assumption), ?_⟩; try dsimp only [List.nil_append, List.cons_append])
    try dsimp only
    have hHn := (N4 (H, listOf vs'.toArray n) (by simp)).1
    have hIH : H ≠ I := hI4 (H, listOf vs'.toArray n) (by simp)
    refine wpAny_call (siftup_call (vs := vs') (p := vs.length / 2 - 1 - i) (ok_of B F4 N4 (by simp)) hHn (Room.deeper (k := 6) (rm.less (by lia))) hlt (fun x o e => F4.keep x o (hgE x o e)) hEH hd' (by lia) (by lia) ?_)
    intro h5 tk5 k5 hn
    have F5 := fr_after F4 N4 (by simp) k5
    have N5 : News g L h5 ((I, riObj (((vs.length / 2 : Nat) : Int) - 1 + (i + 1 : Nat) * (-1)) (((vs.length / 2 : Nat) : Int) - (i + 1 : Nat)) (-1)) :: [(H, listOf (suL lt (vs'.getD (vs.length / 2 - 1 - i) .none) (vs.length / 2 - 1 - i) vs' (vs.length / 2 - 1 - i)).toArray n)]) := by
      refine news_after F4 N4 k5 fun p hp => ?_
      rcases List.mem_cons.mp hp with rfl | hp
      · exact .inl ⟨.head _, by simpa using Ne.symm hIH⟩
      · obtain rfl := List.mem_singleton.mp hp
        exact .inr ⟨hn, .inl (by simp)⟩
    with_reducible refine wpAny_execs_nil ?_
    try dsimp only
    refine ⟨.inl rfl, h5, tk5, _, _, rfl, F5, N5, by simpa using hIH, by assumption, _, rfl, by rw [suL_length]; exact hl, suL_all _ _ (by lia) hd' (hd' _ (getD_mem (by lia))), ?_⟩
    rw [← hr, show vs.length / 2 - i = (vs.length / 2 - 1 - i) + 1 by with_reducible exact ar16 (by assumption), hfL, show vs.length / 2 - (i + 1) = vs.length / 2 - 1 - i by lia]
  · rintro m' _ h4 tk4 ⟨a1, vs', rfl, hl, hd', hr⟩ F4 N4
    with_reducible refine wpAny_execs_nil ?_
    try dsimp only
    refine post h4 _ (fun b o e nb => F4.keep b o (hg b o e (by simpa using nb))) ?_
    rw [Nat.sub_self, hfL] at hr
    rw [← hr]
    exact (N4 _ (.head _)).1

theorem heapify_max_call {prog : Program} {w : World} {A : Around} {s : Shared} {R : Result → Shared → Prop} {H : Addr} {vs : List Value} {n : Nat} {lt : Value → Value → Bool} {dom : Value → Prop} {gE : Heap}
    (O : Ok w [H] s.heap) (hH : s.heap.get? H = some (listOf vs.toArray n)) (rm : Room A 8) (hlt : LtOk prog w (fun a b => lt b a) dom gE) (hE : ∀ x o, gE.get? x = some o → s.heap.get? x = some o) (hEH : gE.get? H = none)
    (hd : ∀ v ∈ vs, dom v) (hf : vs.length < 2 ^ 20)
    (post : ∀ h' tk, Keeps [H] s.heap h' → h'.get? H = some (listOf (hfL lt (vs.length / 2) vs).toArray n) → R (.ok (.ret .none)) { s with heap := h', toks := tk }) :
    codeAny (model prog w) A (.call (.ref 49) ⟨[.ref H], []⟩) R s := by
  refine enter (foot := [(H, listOf vs.toArray n)]) (binds := [("x", .ref H)]) O (by simpa using hH) (by k_is) (by k_is) rm (BindsTo.of_eq rfl) (locs rfl) ?_
  intro g L h₁ B hg F N
  have m1 : (fun y => List.lookup y ([("x", Value.ref H)] : List (Str × Value)).reverse) "x" = some (.ref H) := rfl
  generalize (fun y => List.lookup y ([("x", Value.ref H)] : List (Str × Value)).reverse) = m at F m1
  have hgE : ∀ x o, gE.get? x = some o → g.get? x = some o := fun x o e => hg x o (hE x o e) (by
    simp only [List.map_cons, List.map_nil, List.mem_singleton]; rintro rfl; rw [hEH] at e; cases e)
  with_reducible refine wpAny_execs_cons ?_
  refine wpAny_Assign_Name ?_
  refine Call_ ?_
  (refine' nmB ?kF ?kB ?ke ?kv ?kn ?_; (case kF => assumption); (case kB => assumption); (case ke => k_is); (case kv => boot_by_name); (case kn => decide))
  refine PyProof.Rows.callWith_builtin1 ?_
  refine args_cons ?_
  (refine' ldM ?kF ?kv ?_; (case kF => assumption); (case kv => assumption))
  refine args_nil ?_
  try dsimp only
  refine len_list (list_here N) (by rw [List.size_toArray]; lia) ?_
  rw [List.size_toArray]
  (refine' stM ?kF ?kN ?_; (case kF => assumption); (case kN => assumption); intro _ _ _ _)
  with_reducible refine wpAny_execs_cons ?_
  refine wpAny_For ?_
  refine Call_ ?_
  (refine' nmB ?kF ?kB ?ke ?kv ?kn ?_; (case kF => assumption); (case kB => assumption); (case ke => k_is); (case kv => boot_by_name); (case kn => decide))
  refine Pv.callWith_type1 ?_
  refine args_cons ?_
  refine Call_ ?_
  (refine' nmB ?kF ?kB ?ke ?kv ?kn ?_; (case kF => assumption); (case kB => assumption); (case ke => k_is); (case kv => boot_by_name); (case kn => decide))
  refine Pv.callWith_type1 ?_
  refine args_cons ?_
  with_reducible refine wpAny_BinOp ?_
  (refine' ldM ?kF ?kv ?_; (case kF => assumption); (case kv => exact mput_same))
  with_reducible refine wpAny_Constant_int ?_
  try dsimp only
  rename_i h0 tk0 F0 N0
  refine fdiv2 fun tk1 tk2 => ?_
  refine args_nil ?_
  try dsimp only
  refine range1_led F0 N0 fun r h2 tk3 t3 u3 v3 F2 N2 hr2 => ?_
  refine args_nil ?_
  try dsimp only
  have hn2 : vs.length / 2 < 2 ^ 40 := by lia
  refine reversed_led F2 N2 hn2 fun I h3 F3 N3 hI => ?_
  try dsimp only
  refine iter_ri N3 ?_
  try dsimp only
  refine for_ri (fun i m' nx => m' "x" = some (.ref H) ∧ ∃ vs' : List Value, nx = [(H, listOf vs'.toArray n)] ∧ vs'.length = vs.length ∧ (∀ v ∈ vs', dom v) ∧ hfL lt (vs.length / 2 - i) vs' = hfL lt (vs.length / 2) vs)
    rm.hand F3 N3 hI ⟨by assumption, vs, rfl, rfl, hd, rfl⟩ ?_ ?_
  · rintro i m' _ h4 tk4 t4 hi ⟨a1, vs', rfl, hl, hd', hr⟩ F4 N4 hI4
    have e1 : ((vs.length / 2 : Nat) : Int) - 1 + (i : Int) * (-1) = ((vs.length / 2 - 1 - i : Nat) : Int) := by lia
    rw [e1] at F4
    with_reducible refine wpAny_execs_cons ?_
    refine wpAny_Expr ?_
    refine Call_ ?_
    (refine' nmK ?kF ?kB ?ke ?_; (case kF => assumption); (case kB => assumption); (case ke => k_is))
    (refine' callWith_K (Base.X (by assumption)) ?ke ?_; (case ke => k_is))
    refine args_cons ?_
    (refine' ldM ?kF ?kv ?_; (case kF => assumption); (case kv => assumption))
    refine args_cons ?_
    (refine' ldM ?kF ?kv ?_; (case kF => assumption); (case kv => exact mput_same))
    refine args_nil ?_
    (refine ⟨in_of (by assumption) (by assumption), ?_⟩; try dsimp only [List.nil_append, List.cons_append])
    try dsimp only
    have hHn := (N4 (H, listOf vs'.toArray n) (by simp)).1
    have hIH : H ≠ I := hI4 (H, listOf vs'.toArray n) (by simp)
    refine wpAny_call (siftup_max_call (vs := vs') (p := vs.length / 2 - 1 - i) (ok_of B F4 N4 (by simp)) hHn (Room.deeper (k := 6) (rm.less (by lia))) hlt (fun x o e => F4.keep x o (hgE x o e)) hEH hd' (by lia) (by lia) ?_)
    intro h5 tk5 k5 hn
    have F5 := fr_after F4 N4 (by simp) k5
    have N5 : News g L h5 ((I, riObj (((vs.length / 2 : Nat) : Int) - 1 + (i + 1 : Nat) * (-1)) (((vs.length / 2 : Nat) : Int) - (i + 1 : Nat)) (-1)) :: [(H, listOf (suL lt (vs'.getD (vs.length / 2 - 1 - i) .none) (vs.length / 2 - 1 - i) vs' (vs.length / 2 - 1 - i)).toArray n)]) := by
      refine news_after F4 N4 k5 fun p hp => ?_
      rcases List.mem_cons.mp hp with rfl | hp
      · exact .inl ⟨.head _, by simpa using Ne.symm hIH⟩
      · obtain rfl := List.mem_singleton.mp hp
        exact .inr ⟨hn, .inl (by simp)⟩
    with_reducible refine wpAny_execs_nil ?_
    try dsimp only
    refine ⟨.inl rfl, h5, tk5, _, _, rfl, F5, N5, by simpa using hIH, by assumption, _, rfl, by rw [suL_length]; exact hl, suL_all _ _ (by lia) hd' (hd' _ (getD_mem (by lia))), ?_⟩
    rw [← hr, show vs.length / 2 - i = (vs.length / 2 - 1 - i) + 1 by with_reducible exact ar16 (by assumption), hfL, show vs.length / 2 - (i + 1) = vs.length / 2 - 1 - i by lia]
  · rintro m' _ h4 tk4 ⟨a1, vs', rfl, hl, hd', hr⟩ F4 N4
    with_reducible refine wpAny_execs_nil ?_
    try dsimp only
    refine post h4 _ (fun b o e nb => F4.keep b o (hg b o e (by simpa using nb))) ?_
    rw [Nat.sub_self, hfL] at hr
    rw [← hr]
    exact (N4 _ (.head _)).1

noncomputable def popV (vs : List Value) : Value := if vs.dropLast = [] then vs.getD (vs.length - 1) .none else vs.dropLast.getD 0 .none
noncomputable def popL (lt : Value → Value → Bool) (vs : List Value) : List Value :=
  if vs.dropLast = [] then [] else suL lt (vs.getD (vs.length - 1) .none) 0 (vs.dropLast.set 0 (vs.getD (vs.length - 1) .none)) 0
theorem heappop_call {prog : Program} {w : World} {A : Around} {s : Shared} {R : Result → Shared → Prop} {H : Addr} {vs : List Value} {n : Nat} {lt : Value → Value → Bool} {dom : Value → Prop} {gE : Heap}
    (O : Ok w [H] s.heap) (hH : s.heap.get? H = some (listOf vs.toArray n)) (rm : Room A 8) (hlt : LtOk prog w lt dom gE) (hE : ∀ x o, gE.get? x = some o → s.heap.get? x = some o) (hEH : gE.get? H = none)
    (hd : ∀ v ∈ vs, dom v) (hf : vs.length < 2 ^ 20) (hne : vs ≠ [])
    (post : ∀ h' tk n', Keeps [H] s.heap h' → h'.get? H = some (listOf (popL lt vs).toArray n') → R (.ok (.ret (popV vs))) { s with heap := h', toks := tk }) :
    codeAny (model prog w) A (.call (.ref 21) ⟨[.ref H], []⟩) R s := by
  refine enter (foot := [(H, listOf vs.toArray n)]) (binds := [("heap", .ref H)]) O (by simpa using hH) (by k_is) (by k_is) rm (BindsTo.of_eq rfl) (locs rfl) ?_
  intro g L h₁ B hg F N
  have m1 : (fun y => List.lookup y ([("heap", Value.ref H)] : List (Str × Value)).reverse) "heap" = some (.ref H) := rfl
  generalize (fun y => List.lookup y ([("heap", Value.ref H)] : List (Str × Value)).reverse) = m at F m1
  have hgE : ∀ x o, gE.get? x = some o → g.get? x = some o := fun x o e => hg x o (hE x o e) (by
    simp only [List.map_cons, List.map_nil, List.mem_singleton]; rintro rfl; rw [hEH] at e; cases e)
  have hpos := List.length_pos_iff.mpr hne
  with_reducible refine wpAny_execs_cons ?_
  refine wpAny_Assign_Name ?_
  refine MethodCall_ ?_
  (refine' ldM ?kF ?kv ?_; (case kF => assumption); (case kv => assumption))
  try dsimp only
  refine getMethod_lst PySem.F.slot_list_pop PySem.F.type_list_pop (N _ (.head _)).1 ?_
  refine callWith_method0 ?_
  try dsimp only
  refine pop_head F N no_rest hne hf fun h2 F2 N2 => ?_
  (refine' stM ?kF ?kN ?_; (case kF => assumption); (case kN => assumption); intro _ _ _ _)
  with_reducible refine wpAny_execs_cons ?_
  rename_i h3 tk3 F3 N3
  try dsimp only
  refine wpAny_If ?_
  refine isTrue_plain ?_
  (refine' ldM ?kF ?kv ?_; (case kF => assumption); (case kv => assumption))
  try dsimp only
  have hfd : vs.dropLast.length < 2 ^ 40 := by rw [List.length_dropLast]; with_reducible exact ar26 (by assumption)
  refine truthy_lst (N3 _ (.head _)).1 hfd fun tk4 => ?_
  try dsimp only
  by_cases hc : vs.dropLast = []
  · rw [if_neg (by simp [hc])]
    with_reducible refine wpAny_execs_nil ?_
    with_reducible refine wpAny_execs_cons ?_
    with_reducible refine wpAny_Return_some ?_
    (refine' ldM ?kF ?kv ?_; (case kF => assumption); (case kv => exact mput_same))
    try dsimp only
    have := post h3 tk4 (n + 1) (fun b o e nb => F3.keep b o (hg b o e (by simpa using nb))) (by rw [popL, if_pos hc, ← hc]; exact (N3 _ (.head _)).1)
    rw [popV, if_pos hc] at this
    exact this
  · rw [if_pos (by simp [hc])]
    have hdl : 0 < vs.dropLast.length := List.length_pos_iff.mpr hc
    have hdl2 := List.length_dropLast (xs := vs)
    have hd2 : ∀ v ∈ vs.dropLast.set 0 (vs.getD (vs.length - 1) .none), dom v := all_set (fun x hx => hd x (List.dropLast_subset vs hx)) (hd _ (getD_mem (by with_reducible exact ar12 (by assumption))))
    with_reducible refine wpAny_execs_cons ?_
    refine wpAny_Assign_Name ?_
    with_reducible refine Subscript_ ?_
    (refine' ldM ?kF ?kv ?_; (case kF => assumption); (case kv => assumption))
    with_reducible refine wpAny_Constant_int ?_
    try dsimp only
    refine item_listL (x := vs.dropLast.getD 0 .none) (list_here N3) (by lia) (by lia) (getD_some hdl) ?_
    (refine' stM ?kF ?kN ?_; (case kF => assumption); (case kN => assumption); intro _ _ _ _)
    with_reducible refine wpAny_execs_cons ?_
    refine wpAny_Assign_Subscript ?_
    (refine' ldM ?kF ?kv ?_; (case kF => assumption); (case kv => exact mput_ne (by decide) mput_same))
    (refine' ldM ?kF ?kv ?_; (case kF => assumption); (case kv => assumption))
    with_reducible refine wpAny_Constant_int ?_
    try dsimp only
    refine set_head (by assumption) (by assumption) no_rest (by lia) (by lia) (by assumption) ?_
    intro h5 F5 N5
    with_reducible refine wpAny_execs_cons ?_
    refine wpAny_Expr ?_
    refine Call_ ?_
    (refine' nmK ?kF ?kB ?ke ?_; (case kF => assumption); (case kB => assumption); (case ke => k_is))
    (refine' callWith_K (Base.X (by assumption)) ?ke ?_; (case ke => k_is))
    refine args_cons ?_
    (refine' ldM ?kF ?kv ?_; (case kF => assumption); (case kv => assumption))
    refine args_cons ?_
    with_reducible refine wpAny_Constant_int ?_
    refine args_nil ?_
    (refine ⟨in_of (by assumption) (by assumption), ?_⟩; try dsimp only [List.nil_append, List.cons_append])
    try dsimp only
    refine wpAny_call (siftup_call (vs := vs.dropLast.set 0 (vs.getD (vs.length - 1) .none)) (p := 0) (ok_of B F5 N5 (by simp)) (N5 _ (.head _)).1 (Room.deeper (k := 6) (rm.less (by lia))) hlt (fun x o e => F5.keep x o (hgE x o e)) hEH hd2
      (by rw [List.length_set]; exact hdl) (by rw [List.length_set]; lia) ?_)
    intro h6 tk6 k6 hn
    have F6 := fr_after F5 N5 (by simp) k6
    with_reducible refine wpAny_execs_cons ?_
    with_reducible refine wpAny_Return_some ?_
    (refine' ldM ?kF ?kv ?_; (case kF => assumption); (case kv => exact mput_same))
    try dsimp only
    have := post h6 tk6 (n + 1) (fun b o e nb => F6.keep b o (hg b o e (by simpa using nb))) (by
      rw [popL, if_neg hc, hn]
      rw [List.getD_eq_getElem?_getD (l := vs.dropLast.set 0 _), List.getElem?_set_self hdl]; rfl)
    rw [popV, if_neg hc] at this
    exact this

theorem heapreplace_call {prog : Program} {w : World} {A : Around} {s : Shared} {R : Result → Shared → Prop} {H : Addr} {vs : List Value} {n : Nat} {x : Value} {lt : Value → Value → Bool} {dom : Value → Prop} {gE : Heap}
    (O : Ok w [H] s.heap) (hH : s.heap.get? H = some (listOf vs.toArray n)) (rm : Room A 8) (hlt : LtOk prog w lt dom gE) (hE : ∀ x o, gE.get? x = some o → s.heap.get? x = some o) (hEH : gE.get? H = none)
    (hd : ∀ v ∈ vs, dom v) (hx : dom x) (hf : vs.length < 2 ^ 20) (hne : 0 < vs.length)
    (post : ∀ h' tk, Keeps [H] s.heap h' → h'.get? H = some (listOf (suL lt x 0 (vs.set 0 x) 0).toArray n) → R (.ok (.ret (vs.getD 0 .none))) { s with heap := h', toks := tk }) :
    codeAny (model prog w) A (.call (.ref 28) ⟨[.ref H, x], []⟩) R s := by
  refine enter (foot := [(H, listOf vs.toArray n)]) (binds := [("heap", .ref H), ("item", x)]) O (by simpa using hH) (by k_is) (by k_is) rm (BindsTo.of_eq rfl) (locs rfl) ?_
  intro g L h₁ B hg F N
  have m1 : (fun y => List.lookup y ([("heap", Value.ref H), ("item", x)] : List (Str × Value)).reverse) "heap" = some (.ref H) := rfl
  have m2 : (fun y => List.lookup y ([("heap", Value.ref H), ("item", x)] : List (Str × Value)).reverse) "item" = some x := rfl
  generalize (fun y => List.lookup y ([("heap", Value.ref H), ("item", x)] : List (Str × Value)).reverse) = m at F m1 m2
  have hgE : ∀ x o, gE.get? x = some o → g.get? x = some o := fun x o e => hg x o (hE x o e) (by
    simp only [List.map_cons, List.map_nil, List.mem_singleton]; rintro rfl; rw [hEH] at e; cases e)
  with_reducible refine wpAny_execs_cons ?_
  refine wpAny_Assign_Name ?_
  with_reducible refine Subscript_ ?_
  (refine' ldM ?kF ?kv ?_; (case kF => assumption); (case kv => assumption))
  with_reducible refine wpAny_Constant_int ?_
  try dsimp only
  refine item_listL (x := vs.getD 0 .none) (list_here N) (by lia) (by lia) (getD_some hne) ?_
  (refine' stM ?kF ?kN ?_; (case kF => assumption); (case kN => assumption); intro _ _ _ _)
  with_reducible refine wpAny_execs_cons ?_
  refine wpAny_Assign_Subscript ?_
  (refine' ldM ?kF ?kv ?_; (case kF => assumption); (case kv => assumption))
  (refine' ldM ?kF ?kv ?_; (case kF => assumption); (case kv => assumption))
  with_reducible refine wpAny_Constant_int ?_
  try dsimp only
  refine set_head (by assumption) (by assumption) no_rest (by lia) (by lia) (by lia) ?_
  intro h5 F5 N5
  with_reducible refine wpAny_execs_cons ?_
  refine wpAny_Expr ?_
  refine Call_ ?_
  (refine' nmK ?kF ?kB ?ke ?_; (case kF => assumption); (case kB => assumption); (case ke => k_is))
  (refine' callWith_K (Base.X (by assumption)) ?ke ?_; (case ke => k_is))
  refine args_cons ?_
  (refine' ldM ?kF ?kv ?_; (case kF => assumption); (case kv => assumption))
  refine args_cons ?_
  with_reducible refine wpAny_Constant_int ?_
  refine args_nil ?_
  (refine ⟨in_of (by assumption) (by assumption), ?_⟩; try dsimp only [List.nil_append, List.cons_append])
  try dsimp only
  refine wpAny_call (siftup_call (vs := vs.set 0 x) (p := 0) (ok_of B F5 N5 (by simp)) (N5 _ (.head _)).1 (Room.deeper (k := 6) (rm.less (by lia))) hlt (fun x o e => F5.keep x o (hgE x o e)) hEH (all_set hd hx)
    (by rw [List.length_set]; exact hne) (by rw [List.length_set]; lia) ?_)
  intro h6 tk6 k6 hn
  have F6 := fr_after F5 N5 (by simp) k6
  with_reducible refine wpAny_execs_cons ?_
  with_reducible refine wpAny_Return_some ?_
  (refine' ldM ?kF ?kv ?_; (case kF => assumption); (case kv => exact mput_same))
  try dsimp only
  refine post h6 tk6 (fun b o e nb => F6.keep b o (hg b o e (by simpa using nb))) ?_
  rw [hn, List.getD_eq_getElem?_getD, List.getElem?_set_self hne]; rfl

theorem heapreplace_max_call {prog : Program} {w : World} {A : Around} {s : Shared} {R : Result → Shared → Prop} {H : Addr} {vs : List Value} {n : Nat} {x : Value} {lt : Value → Value → Bool} {dom : Value → Prop} {gE : Heap}
    (O : Ok w [H] s.heap) (hH : s.heap.get? H = some (listOf vs.toArray n)) (rm : Room A 8) (hlt : LtOk prog w (fun a b => lt b a) dom gE) (hE : ∀ x o, gE.get? x = some o → s.heap.get? x = some o) (hEH : gE.get? H = none)
    (hd : ∀ v ∈ vs, dom v) (hx : dom x) (hf : vs.length < 2 ^ 20) (hne : 0 < vs.length)
    (post : ∀ h' tk, Keeps [H] s.heap h' → h'.get? H = some (listOf (suL lt x 0 (vs.set 0 x) 0).toArray n) → R (.ok (.ret (vs.getD 0 .none))) { s with heap := h', toks := tk }) :
    codeAny (model prog w) A (.call (.ref 42) ⟨[.ref H, x], []⟩) R s := by
  refine enter (foot := [(H, listOf vs.toArray n)]) (binds := [("heap", .ref H), ("item", x)]) O (by simpa using hH) (by k_is) (by k_is) rm (BindsTo.of_eq rfl) (locs rfl) ?_
  intro g L h₁ B hg F N
  have m1 : (fun y => List.lookup y ([("heap", Value.ref H), ("item", x)] : List (Str × Value)).reverse) "heap" = some (.ref H) := rfl
  have m2 : (fun y => List.lookup y ([("heap", Value.ref H), ("item", x)] : List (Str × Value)).reverse) "item" = some x := rfl
  generalize (fun y => List.lookup y ([("heap", Value.ref H), ("item", x)] : List (Str × Value)).reverse) = m at F m1 m2
  have hgE : ∀ x o, gE.get? x = some o → g.get? x = some o := fun x o e => hg x o (hE x o e) (by
    simp only [List.map_cons, List.map_nil, List.mem_singleton]; rintro rfl; rw [hEH] at e; cases e)
  with_reducible refine wpAny_execs_cons ?_
  refine wpAny_Assign_Name ?_
  with_reducible refine Subscript_ ?_
  (refine' ldM ?kF ?kv ?_; (case kF => assumption); (case kv => assumption))
  with_reducible refine wpAny_Constant_int ?_
  try dsimp only
  refine item_listL (x := vs.getD 0 .none) (list_here N) (by lia) (by lia) (getD_some hne) ?_
  (refine' stM ?kF ?kN ?_; (case kF => assumption); (case kN => assumption); intro _ _ _ _)
  with_reducible refine wpAny_execs_cons ?_
  refine wpAny_Assign_Subscript ?_
  (refine' ldM ?kF ?kv ?_; (case kF => assumption); (case kv => assumption))
  (refine' ldM ?kF ?kv ?_; (case kF => assumption); (case kv => assumption))
  with_reducible refine wpAny_Constant_int ?_
  try dsimp only
  refine set_head (by assumption) (by assumption) no_rest (by lia) (by lia) (by lia) ?_
  intro h5 F5 N5
  with_reducible refine wpAny_execs_cons ?_
  refine wpAny_Expr ?_
  refine Call_ ?_
  (refine' nmK ?kF ?kB ?ke ?_; (case kF => assumption); (case kB => assumption); (case ke => k_is))
  (refine' callWith_K (Base.X (by assumption)) ?ke ?_; (case ke => k_is))
  refine args_cons ?_
  (refine' ldM ?kF ?kv ?_; (case kF => assumption); (case kv => assumption))
  refine args_cons ?_
  with_reducible refine wpAny_Constant_int ?_
  refine args_nil ?_
  (refine ⟨in_of (by assumption) (by assumption), ?_⟩; try dsimp only [List.nil_append, List.cons_append])
  try dsimp only
  refine wpAny_call (siftup_max_call (vs := vs.set 0 x) (p := 0) (ok_of B F5 N5 (by simp)) (N5 _ (.head _)).1 (Room.deeper (k := 6) (rm.less (by lia))) hlt (fun x o e => F5.keep x o (hgE x o e)) hEH (all_set hd hx)
    (by rw [List.length_set]; exact hne) (by rw [List.length_set]; lia) ?_)
  intro h6 tk6 k6 hn
  have F6 := fr_after F5 N5 (by simp) k6
  with_reducible refine wpAny_execs_cons ?_
  with_reducible refine wpAny_Return_some ?_
  (refine' ldM ?kF ?kv ?_; (case kF => assumption); (case kv => exact mput_same))
  try dsimp only
  refine post h6 tk6 (fun b o e nb => F6.keep b o (hg b o e (by simpa using nb))) ?_
  rw [hn, List.getD_eq_getElem?_getD, List.getElem?_set_self hne]; rfl


open PySem.SeqAt in
noncomputable def LtAt (A : Around) (s : Shared) (y x : Value) (b : Bool) : Prop :=
  ∀ (prog : Program) (w : World) (E : Value → Shared → Prop) (Q : Value → Shared → Prop), Q (.bool b) s → wpAny (model prog w) A (richCompare .Lt y x) Q E s
theorem LtAt.int {A : Around} {s : Shared} (a b : Int) (t u : Tok) : LtAt A s (.int a t) (.int b u) (decide (a < b)) := fun _ _ _ _ h => PyProof.Rows.lt_int h

noncomputable def lexR (e b : Nat → Bool) (fin : Bool) : Nat → Nat → Bool
  | _, 0 => fin
  | i, k + 1 => if e i then lexR e b fin (i + 1) k else b i

open PySem.SeqAt PySem.AutoSeq1 PySem.MeetsSeq PySem.MeetsSeq2 PySem.MeetsSeq3 PySem.SeqRoads2 in
theorem lt_loopAt (l b : Addr) (items items2 : Array Value) (n n2 : Nat) (dd dd2 : Option Addr) (sl sl2 : Array (Option Value)) (e c : Nat → Bool) (k : Nat) :
    ∀ i : Nat, min items.size items2.size - i = k → Meets (Builtin.«list.__eq__.loop» ⟨[.ref l, .ref b, rawInt i, rawInt 0], []⟩)
      (fun A R s => s.heap.get? l = some { cls := .type "list", dict := dd, data := .seq items n, slots := sl } ∧ s.heap.get? b = some { cls := .type "list", dict := dd2, data := .seq items2 n2, slots := sl2 } ∧
        (∀ j (h1 : j < items.size) (h2 : j < items2.size), EqAt A.in1 s items[j] items2[j] (e j) ∧ LtAt A.in1 s items[j] items2[j] (c j)) ∧
        R (.ok (.ret (.bool (lexR e c (decide (items.size < items2.size)) i k)))) s) := by
  induction k with
  | zero =>
    intro i hk prog w A R s h
    obtain ⟨hp, g, d, tk, os⟩ := s; obtain ⟨hl, hb, he, h⟩ := h
    wp_walk using wpAny_loadPart' hl, wpAny_loadPart' hb
    have hor : items[((i : Nat) : Int).toNat]? = none ∨ items2[((i : Nat) : Int).toNat]? = none := by simp; lia
    have fin : R (.ok (.ret (.bool (decide (items.size < items2.size))))) ⟨hp, g, d, tk, os⟩ := h
    rcases hor with h1 | h1
    · rw [h1]
      wp_walk using wpAny_loadPart' hl, wpAny_loadPart' hb
      exact fin
    · rw [h1]
      cases items[((i : Nat) : Int).toNat]? <;> (wp_walk using wpAny_loadPart' hl, wpAny_loadPart' hb; exact fin)
  | succ k ih =>
    intro i hk prog w A R s h
    obtain ⟨hp, g, d, tk, os⟩ := s; obtain ⟨hl, hb, he, h⟩ := h
    wp_walk using wpAny_loadPart' hl, wpAny_loadPart' hb
    have hlt : i < items.size := by with_reducible exact ar8l (by assumption)
    have hlt2 : i < items2.size := by with_reducible exact ar8r (by assumption)
    have hi1 : items[((i : Nat) : Int).toNat]? = some items[i] := by simp [hlt]
    have hi2 : items2[((i : Nat) : Int).toNat]? = some items2[i] := by simp [hlt2]
    have hc : ((i : Int) + 1) = ((i + 1 : Nat) : Int) := by push_cast; rfl
    rw [lexR] at h
    rw [hi1, hi2]
    refine wpAny_bind ((he i hlt hlt2).1 prog w _ _ ?_)
    cases hb' : e i with
    | true =>
      rw [hb', if_pos rfl] at h
      wp_walk
      rw [hc]
      exact ⟨plainId_quiet plain_eq_loop _, codeAny_builtin entry_eq_loop (by
        rw [Around.under_plainId plain_eq_loop _]
        exact ih (i + 1) (by with_reducible exact ar7 (by assumption)) prog w A R _ ⟨hl, hb, he, h⟩)⟩
    | false =>
      rw [hb', if_neg (by decide)] at h
      wp_walk using wpAny_loadPart' hl, wpAny_loadPart' hb
      rw [hi1, hi2]
      refine wpAny_bind ((he i hlt hlt2).2 prog w _ _ ?_)
      wp_walk
      exact h

open PySem.SeqAt PySem.AutoSeq1 PySem.MeetsSeq PySem.MeetsSeq2 PySem.MeetsSeq3 PySem.SeqRoads2 in
theorem list_ltAt (l b : Addr) (items items2 : Array Value) (n n2 : Nat) (dd dd2 : Option Addr) (sl sl2 : Array (Option Value)) (e c : Nat → Bool) :
    Meets (Builtin.«list.__lt__» ⟨[.ref l, .ref b], []⟩)
      (fun A R s => s.heap.get? l = some { cls := .type "list", dict := dd, data := .seq items n, slots := sl } ∧ s.heap.get? b = some { cls := .type "list", dict := dd2, data := .seq items2 n2, slots := sl2 } ∧
        (∀ j (h1 : j < items.size) (h2 : j < items2.size), EqAt A.in1 s items[j] items2[j] (e j) ∧ LtAt A.in1 s items[j] items2[j] (c j)) ∧
        R (.ok (.ret (.bool (lexR e c (decide (items.size < items2.size)) 0 (min items.size items2.size))))) s) := by
  intro prog w A R s h
  obtain ⟨hp, g, d, tk, os⟩ := s; obtain ⟨hl, hb, he, h⟩ := h
  have f3 := AutoSeq1.sub_list_list
  wp_walk using wpAny_loadPart' hl, wpAny_loadPart' hb
  exact ⟨plainId_quiet plain_eq_loop _, codeAny_builtin entry_eq_loop (by
    rw [Around.under_plainId plain_eq_loop _]
    exact lt_loopAt l b items items2 n n2 dd dd2 sl sl2 e c _ 0 rfl prog w A R _ ⟨hl, hb, he, h⟩)⟩

open PySem.SeqAt in
theorem LtAt.lists {A : Around} {s : Shared} {l b : Addr} {items items2 : Array Value} {e c : Nat → Bool} (hl : s.heap.IsList l items) (hb : s.heap.IsList b items2) (hu : A.units < cLine)
    (he : ∀ j (h1 : j < items.size) (h2 : j < items2.size), EqAt A.in1 s items[j] items2[j] (e j) ∧ LtAt A.in1 s items[j] items2[j] (c j)) :
    LtAt A s (.ref l) (.ref b) (lexR e c (decide (items.size < items2.size)) 0 (min items.size items2.size)) := fun prog w E Q h => by
  obtain ⟨⟨cls, dd, data, sl⟩, ho, hc, n, hd⟩ := id hl
  obtain ⟨⟨cls2, dd2, data2, sl2⟩, ho2, hc2, n2, hd2⟩ := id hb
  simp only at hc hd hc2 hd2
  subst hc hd hc2 hd2
  exact richCompare_meets_room (op := .Lt) ⟨_, ho, rfl⟩ ⟨_, ho2, rfl⟩ F.slot_list_lt F.entry_list_lt (F.args_list_lt_2 _ _) (list_ltAt l b items items2 n n2 dd dd2 sl sl2 e c)
    ⟨ho, ho2, he, show Value.bool _ ≠ Value.notImplemented ∧ Q (.bool _) s from ⟨(fun x => nomatch x), h⟩⟩ hu

open PySem.SeqAt PySem.AutoSeq1 PySem.MeetsSeq PySem.MeetsSeq2 PySem.MeetsSeq3 PySem.SeqRoads2 in
theorem tuple_ltAt (l b : Addr) (items items2 : Array Value) (n n2 : Nat) (dd dd2 : Option Addr) (sl sl2 : Array (Option Value)) (e c : Nat → Bool) :
    Meets (Builtin.«tuple.__lt__» ⟨[.ref l, .ref b], []⟩)
      (fun A R s => s.heap.get? l = some { cls := .type "tuple", dict := dd, data := .seq items n, slots := sl } ∧ s.heap.get? b = some { cls := .type "tuple", dict := dd2, data := .seq items2 n2, slots := sl2 } ∧
        (∀ j (h1 : j < items.size) (h2 : j < items2.size), EqAt A.in1 s items[j] items2[j] (e j) ∧ LtAt A.in1 s items[j] items2[j] (c j)) ∧
        R (.ok (.ret (.bool (lexR e c (decide (items.size < items2.size)) 0 (min items.size items2.size))))) s) :=
  .of_wp fun prog w A R s h => by
    obtain ⟨hp, g, d, tk, os⟩ := s; obtain ⟨hl, hb, he, h⟩ := h
    have f2 := AutoSeq1.sub_tuple_tuple
    have hZ : (items.toList.zip items2.toList).length = min items.size items2.size := by simp
    wp_walk using wpAny_loadPart' hl, wpAny_loadPart' hb, wpAny_forIn_list _ (fun rest b s' => b.1 = none ∧ s' = ⟨hp, g, d, tk, os⟩ ∧ ∃ i, i ≤ min items.size items2.size ∧ rest = (items.toList.zip items2.toList).drop i ∧
      R (.ok (.ret (.bool (lexR e c (decide (items.size < items2.size)) i (min items.size items2.size - i))))) ⟨hp, g, d, tk, os⟩) _
    case turn =>
      rintro ⟨y, x⟩ rest b s' ⟨hb', rfl, i, hi, hz, hR⟩
      have hlt : i < (items.toList.zip items2.toList).length := by
        rcases Nat.lt_or_ge i (items.toList.zip items2.toList).length with h' | h'
        · exact h'
        · rw [List.drop_of_length_le h'] at hz; cases hz
      have hm : i < min items.size items2.size := hZ ▸ hlt
      have h1 : i < items.size := Nat.lt_of_lt_of_le hm (Nat.min_le_left _ _)
      have h2 : i < items2.size := Nat.lt_of_lt_of_le hm (Nat.min_le_right _ _)
      rw [List.drop_eq_getElem_cons hlt] at hz
      injection hz with hyx hrest
      have hy : y = items[i] := by have := congrArg Prod.fst hyx; simpa using this
      have hx : x = items2[i] := by have := congrArg Prod.snd hyx; simpa using this
      subst hy hx
      rw [show min items.size items2.size - i = (min items.size items2.size - (i + 1)) + 1 by lia, lexR] at hR
      refine wpAny_bind ((he i h1 h2).1 prog w _ _ ?_)
      cases hy : e i with
      | true =>
        rw [hy, if_pos rfl] at hR
        wp_walk
        exact ⟨rfl, rfl, i + 1, by assumption, hrest, hR⟩
      | false =>
        rw [hy, if_neg (by decide)] at hR
        try dsimp only
        refine wpAny_bind (wpAny_rule ?_)
        refine wpAny_bind ((he i h1 h2).2 prog w _ _ ?_)
        wp_walk
        exact ⟨_, rfl, hR⟩
    case fin =>
      rintro ⟨b1, b2⟩ s' ⟨hb', rfl, i, hi, hz, hR⟩
      simp only at hb'
      subst hb'
      have hge : min items.size items2.size ≤ i := by
        rcases Nat.lt_or_ge i (items.toList.zip items2.toList).length with h' | h'
        · rw [List.drop_eq_getElem_cons h'] at hz; cases hz
        · exact hZ ▸ h'
      rw [show min items.size items2.size - i = 0 by lia, lexR] at hR
      wp_walk
      exact ⟨_, rfl, by simpa [Builtin.Tuple.tupleCompareSizes] using hR⟩
    case h =>
      exact ⟨rfl, rfl, 0, Nat.zero_le _, rfl, by simpa using h⟩

open PySem.SeqAt in
theorem LtAt.tuples {A : Around} {s : Shared} {l b : Addr} {items items2 : Array Value} {e c : Nat → Bool} (hl : s.heap.IsTuple l items) (hb : s.heap.IsTuple b items2) (hu : A.units < cLine)
    (he : ∀ j (h1 : j < items.size) (h2 : j < items2.size), EqAt A.in1 s items[j] items2[j] (e j) ∧ LtAt A.in1 s items[j] items2[j] (c j)) :
    LtAt A s (.ref l) (.ref b) (lexR e c (decide (items.size < items2.size)) 0 (min items.size items2.size)) := fun prog w E Q h => by
  obtain ⟨⟨cls, dd, data, sl⟩, ho, hc, n, hd⟩ := id hl
  obtain ⟨⟨cls2, dd2, data2, sl2⟩, ho2, hc2, n2, hd2⟩ := id hb
  simp only at hc hd hc2 hd2
  subst hc hd hc2 hd2
  exact richCompare_meets_room (op := .Lt) ⟨_, ho, rfl⟩ ⟨_, ho2, rfl⟩ F.slot_tuple_lt F.entry_tuple_lt (F.args_tuple_lt_2 _ _) (tuple_ltAt l b items items2 n n2 dd dd2 sl sl2 e c)
    ⟨ho, ho2, he, show Value.bool _ ≠ Value.notImplemented ∧ Q (.bool _) s from ⟨(fun x => nomatch x), h⟩⟩ hu

noncomputable def ltI : List Int → List Int → Bool
  | [], [] => false
  | [], _ :: _ => true
  | _ :: _, [] => false
  | a :: as, b :: bs => if a == b then ltI as bs else decide (a < b)

theorem lexR_shift (e c : Nat → Bool) (fin : Bool) : ∀ k i, lexR e c fin (i + 1) k = lexR (fun j => e (j + 1)) (fun j => c (j + 1)) fin i k
  | 0, _ => rfl
  | k + 1, i => by simp only [lexR]; rw [lexR_shift e c fin k (i + 1)]
theorem lexR_ints : ∀ (ns ms : List Int), lexR (fun j => ns.getD j 0 == ms.getD j 0) (fun j => decide (ns.getD j 0 < ms.getD j 0)) (decide (ns.length < ms.length)) 0 (min ns.length ms.length) = ltI ns ms
  | [], [] => rfl
  | [], _ :: _ => by simp [lexR, ltI]
  | _ :: _, [] => by simp [lexR, ltI]
  | a :: as, b :: bs => by
    have ih := lexR_ints as bs
    have : min (a :: as).length (b :: bs).length = min as.length bs.length + 1 := by simp only [List.length_cons]; lia
    rw [this, lexR, lexR_shift, ltI]
    simp only [List.getD_cons_zero, List.getD_cons_succ, List.length_cons, Nat.add_lt_add_iff_right]
    rw [ih]

theorem ints_at {vs : List Value} {ns : List Int} (h : IntsAre vs ns) : ∀ j (h1 : j < vs.length), ∃ t, vs[j] = .int (ns.getD j 0) t := by
  induction h with
  | nil => intro j h1; exact absurd h1 (Nat.not_lt_zero _)
  | cons n t h ih =>
    intro j h1
    cases j with
    | zero => exact ⟨t, rfl⟩
    | succ j => exact ih j (by simpa using h1)

open PySem.SeqAt in
theorem LtAt.listInts {A : Around} {s : Shared} {l b : Addr} {vs ws : List Value} {ns ms : List Int} (hl : s.heap.IsList l vs.toArray) (hb : s.heap.IsList b ws.toArray) (hi : IntsAre vs ns) (hj : IntsAre ws ms) (hu : A.units < cLine) :
    LtAt A s (.ref l) (.ref b) (ltI ns ms) := by
  have := LtAt.lists (e := fun j => ns.getD j 0 == ms.getD j 0) (c := fun j => decide (ns.getD j 0 < ms.getD j 0)) hl hb hu (fun j h1 h2 => by
    obtain ⟨t, e1⟩ := ints_at hi j (by simpa using h1)
    obtain ⟨u, e2⟩ := ints_at hj j (by simpa using h2)
    have a1 : vs.toArray[j] = .int (ns.getD j 0) t := by simpa using e1
    have a2 : ws.toArray[j] = .int (ms.getD j 0) u := by simpa using e2
    rw [a1, a2]
    exact ⟨(MeetsSeq.EqGives.int _ _ _ _).at _ _, LtAt.int _ _ _ _⟩)
  rwa [List.size_toArray, List.size_toArray, hi.length, hj.length, lexR_ints] at this
open PySem.SeqAt in
theorem LtAt.tupleInts {A : Around} {s : Shared} {l b : Addr} {vs ws : List Value} {ns ms : List Int} (hl : s.heap.IsTuple l vs.toArray) (hb : s.heap.IsTuple b ws.toArray) (hi : IntsAre vs ns) (hj : IntsAre ws ms) (hu : A.units < cLine) :
    LtAt A s (.ref l) (.ref b) (ltI ns ms) := by
  have := LtAt.tuples (e := fun j => ns.getD j 0 == ms.getD j 0) (c := fun j => decide (ns.getD j 0 < ms.getD j 0)) hl hb hu (fun j h1 h2 => by
    obtain ⟨t, e1⟩ := ints_at hi j (by simpa using h1)
    obtain ⟨u, e2⟩ := ints_at hj j (by simpa using h2)
    have a1 : vs.toArray[j] = .int (ns.getD j 0) t := by simpa using e1
    have a2 : ws.toArray[j] = .int (ms.getD j 0) u := by simpa using e2
    rw [a1, a2]
    exact ⟨(MeetsSeq.EqGives.int _ _ _ _).at _ _, LtAt.int _ _ _ _⟩)
  rwa [List.size_toArray, List.size_toArray, hi.length, hj.length, lexR_ints] at this

theorem range_all_eq : ∀ (ns ms : List Int), ns.length = ms.length → (List.range ns.length).all (fun j => ns.getD j 0 == ms.getD j 0) = decide (ns = ms)
  | [], [], _ => rfl
  | a :: as, b :: bs, h => by
    have ih := range_all_eq as bs (by simpa using h)
    rw [List.length_cons, List.range_succ_eq_map, List.all_cons, List.all_map]
    have : ((fun j => (a :: as).getD j 0 == (b :: bs).getD j 0) ∘ Nat.succ) = fun j => as.getD j 0 == bs.getD j 0 := by funext j; simp
    rw [this, ih]
    simp only [List.getD_cons_zero, List.cons.injEq, Bool.decide_and]
    rfl

open PySem.SeqAt in
theorem eqAt_listInts {A : Around} {s : Shared} {l b : Addr} {vs ws : List Value} {ns ms : List Int} (hl : s.heap.IsList l vs.toArray) (hb : s.heap.IsList b ws.toArray) (hi : IntsAre vs ns) (hj : IntsAre ws ms) (hu : A.units < cLine) :
    EqAt A s (.ref l) (.ref b) (decide (ns = ms)) := by
  by_cases hlb : l = b
  · subst hlb
    have e : vs = ws := by
      obtain ⟨o, ho, _, n, hd⟩ := hl
      obtain ⟨o', ho', _, n', hd'⟩ := hb
      rw [ho] at ho'; cases ho'
      rw [hd] at hd'
      injection hd' with h1 _
      have := congrArg Array.toList h1
      simpa using this
    subst e
    have e2 : ns = ms := by
      clear hl hb
      induction hi generalizing ms with
      | nil => cases hj; rfl
      | cons n t h ih => cases hj with | cons _ _ h' => rw [ih h']
    subst e2
    rw [decide_eq_true rfl]
    exact EqAt.same _
  · refine EqAt.of_refs hlb ?_
    by_cases hlen : ns.length = ms.length
    · have := RcAt.lists (e := fun j => ns.getD j 0 == ms.getD j 0) hl hb (by rw [List.size_toArray, List.size_toArray, hi.length, hj.length, hlen]) hu (fun j h1 h2 => by
        obtain ⟨t, e1⟩ := ints_at hi j (by simpa using h1)
        obtain ⟨u, e2⟩ := ints_at hj j (by simpa using h2)
        have a1 : vs.toArray[j] = .int (ns.getD j 0) t := by simpa using e1
        have a2 : ws.toArray[j] = .int (ms.getD j 0) u := by simpa using e2
        rw [a1, a2]
        exact (MeetsSeq.EqGives.int _ _ _ _).at _ _)
      rwa [List.size_toArray, hi.length, range_all_eq ns ms hlen] at this
    · have := RcAt.lists_lengths hl hb (by rw [List.size_toArray, List.size_toArray, hi.length, hj.length]; simpa using hlen) hu
      rwa [show decide (ns = ms) = false from decide_eq_false fun e => hlen (by rw [e])]

noncomputable def intsOf (vs : List Value) : List Int := vs.map fun v => match v with | .int i _ => i | _ => 0
theorem intsOf_are {vs : List Value} {ns : List Int} (h : IntsAre vs ns) : intsOf vs = ns := by
  induction h with
  | nil => rfl
  | cons n t h ih => show n :: intsOf _ = _; rw [ih]
noncomputable def itemsAt (g : Heap) (v : Value) : List Value := match v with
  | .ref a => (match g.get? a with
    | some ⟨_, _, .seq items _, _⟩ => items.toList
    | _ => [])
  | _ => []
theorem itemsAt_tup {g : Heap} {a : Addr} {vs : List Value} (h : g.IsTuple a vs.toArray) : itemsAt g (.ref a) = vs := by
  obtain ⟨⟨c, d, dt, sl⟩, ho, _, n, hd⟩ := h
  simp only at hd; subst hd
  simp [itemsAt, ho]
theorem itemsAt_list {g : Heap} {a : Addr} {vs : List Value} (h : g.IsList a vs.toArray) : itemsAt g (.ref a) = vs := by
  obtain ⟨⟨c, d, dt, sl⟩, ho, _, n, hd⟩ := h
  simp only at hd; subst hd
  simp [itemsAt, ho]

noncomputable def dom3 (g : Heap) (v : Value) : Prop := ∃ a vs ns, v = .ref a ∧ g.IsTuple a vs.toArray ∧ IntsAre vs ns
noncomputable def row3 (g : Heap) (v : Value) : List Int := intsOf (itemsAt g v)
noncomputable def lt3 (g : Heap) (u v : Value) : Bool := ltI (row3 g u) (row3 g v)
theorem isTuple_keeps {g h : Heap} {a : Addr} {items : Array Value} (x : g.IsTuple a items) (k : ∀ b o, g.get? b = some o → h.get? b = some o) : h.IsTuple a items := let ⟨o, ho, r⟩ := x; ⟨o, k _ _ ho, r⟩
theorem isList_keeps {g h : Heap} {a : Addr} {items : Array Value} (x : g.IsList a items) (k : ∀ b o, g.get? b = some o → h.get? b = some o) : h.IsList a items := let ⟨o, ho, r⟩ := x; ⟨o, k _ _ ho, r⟩
theorem ltOk3 {prog : Program} {w : World} {g : Heap} : LtOk prog w (lt3 g) (dom3 g) g := by
  rintro A s Q _ _ rm ⟨a, vs, ns, rfl, ha, hi⟩ ⟨b, ws, ms, rfl, hb, hj⟩ hk hq
  have := LtAt.tupleInts (isTuple_keeps ha hk) (isTuple_keeps hb hk) hi hj rm.line
  refine this prog w No Q ?_
  have e : lt3 g (.ref a) (.ref b) = ltI ns ms := by rw [lt3, row3, row3, itemsAt_tup ha, itemsAt_tup hb, intsOf_are hi, intsOf_are hj]
  rw [← e]; exact hq s.toks

noncomputable def dom2 (g : Heap) (v : Value) : Prop := ∃ a l vs ns i t, v = .ref a ∧ g.IsTuple a #[.ref l, .int i t] ∧ g.IsList l vs.toArray ∧ IntsAre vs ns
noncomputable def row2 (g : Heap) (v : Value) : List Int × Int := (intsOf (itemsAt g ((itemsAt g v).getD 0 .none)), (intsOf (itemsAt g v)).getD 1 0)
noncomputable def ltP (x y : List Int × Int) : Bool := if x.1 = y.1 then decide (x.2 < y.2) else ltI x.1 y.1
noncomputable def lt2 (g : Heap) (u v : Value) : Bool := ltP (row2 g u) (row2 g v)
theorem row2_is {g : Heap} {a l : Addr} {vs : List Value} {ns : List Int} {i : Int} {t : Tok} (h : g.IsTuple a #[.ref l, .int i t]) (hl : g.IsList l vs.toArray) (hi : IntsAre vs ns) : row2 g (.ref a) = (ns, i) := by
  rw [row2, itemsAt_tup (vs := [.ref l, .int i t]) h]
  show (intsOf (itemsAt g (.ref l)), i) = _
  rw [itemsAt_list hl, intsOf_are hi]
open PySem.SeqAt in
theorem ltOk2 {prog : Program} {w : World} {g : Heap} : LtOk prog w (lt2 g) (dom2 g) g := by
  rintro A s Q _ _ rm ⟨a, l, vs, ns, i, t, rfl, ha, hl, hi⟩ ⟨b, l', ws, ms, j, u, rfl, hb, hl', hj⟩ hk hq
  have hu : A.in1.units < cLine := by have := rm.units; show A.units + 1 < 9900; lia
  have := LtAt.tuples (A := A) (s := s) (e := fun k => if k = 0 then decide (ns = ms) else i == j) (c := fun k => if k = 0 then ltI ns ms else decide (i < j)) (isTuple_keeps ha hk) (isTuple_keeps hb hk) rm.line (fun k h1 h2 => by
    match k, h1 with
    | 0, _ => exact ⟨eqAt_listInts (isList_keeps hl hk) (isList_keeps hl' hk) hi hj hu, LtAt.listInts (isList_keeps hl hk) (isList_keeps hl' hk) hi hj hu⟩
    | 1, _ => exact ⟨(MeetsSeq.EqGives.int _ _ _ _).at _ _, LtAt.int _ _ _ _⟩)
  refine this prog w No Q ?_
  have e : lt2 g (.ref a) (.ref b) = lexR (fun k => if k = 0 then decide (ns = ms) else i == j) (fun k => if k = 0 then ltI ns ms else decide (i < j)) (decide ((#[Value.ref l, .int i t] : Array Value).size < (#[Value.ref l', .int j u] : Array Value).size)) 0 (min (#[Value.ref l, .int i t] : Array Value).size (#[Value.ref l', .int j u] : Array Value).size) := by
    rw [lt2, row2_is ha hl hi, row2_is hb hl' hj]
    show ltP (ns, i) (ms, j) = lexR _ _ false 0 2
    simp only [ltP, lexR]
    by_cases h1 : ns = ms
    · simp only [h1, if_true, decide_true]
      by_cases h2 : i = j
      · simp [h2]
      · simp [h2]
    · simp [h1]
  rw [← e]; exact hq s.toks

set_option linter.unusedVariables false
noncomputable def Good {α : Type} (c : Nat → Nat → Bool) (n : Nat) : KasT α → (α → Prop) → Prop
  | .ret a, P => P a
  | .ask i j k, P => i < n ∧ j < n ∧ Good c n (k (c i j)) P
theorem Good.mono {α : Type} {c : Nat → Nat → Bool} {n : Nat} {P P' : α → Prop} (hp : ∀ a, P a → P' a) : ∀ {t : KasT α}, Good c n t P → Good c n t P'
  | .ret a, h => hp a h
  | .ask i j k, h => ⟨h.1, h.2.1, Good.mono hp h.2.2⟩
theorem Good.bind {α β : Type} {c : Nat → Nat → Bool} {n : Nat} {f : α → KasT β} {P : β → Prop} : ∀ {t : KasT α}, Good c n t (fun a => Good c n (f a) P) → Good c n (t.bind f) P
  | .ret a, h => h
  | .ask i j k, h => ⟨h.1, h.2.1, Good.bind h.2.2⟩

structure Ord (c : Nat → Nat → Bool) (n : Nat) : Prop where
  tr : ∀ i j k, i < n → j < n → k < n → c i j = true → c j k = true → c i k = true
  an : ∀ i j, i < n → j < n → i ≠ j → c i j = !(c j i)

structure Row (n : Nat) (p : Array Nat) : Prop where
  size : p.size = n
  lt : ∀ i, i < n → p.getD i 0 < n
  inj : ∀ i j, i < n → j < n → p.getD i 0 = p.getD j 0 → i = j
  perm : p.toList.Perm (List.range n)

noncomputable def Up (c : Nat → Nat → Bool) (p : Array Nat) (m : Nat) : Prop := ∀ i j, i < j → j < m → c (p.getD i 0) (p.getD j 0) = true
noncomputable def Down (c : Nat → Nat → Bool) (p : Array Nat) (m : Nat) : Prop := ∀ i j, i < j → j < m → c (p.getD j 0) (p.getD i 0) = true

theorem Row.of_perm {n : Nat} {p : Array Nat} (h : p.toList.Perm (List.range n)) : Row n p := by
  have hs : p.size = n := by rw [← Array.length_toList, h.length_eq, List.length_range]
  have hg : ∀ i, (hi : i < n) → p.getD i 0 = p.toList[i]'(by rw [Array.length_toList]; lia) := fun i hi => by
    have : i < p.size := by lia
    simp [Array.getD, this]
  refine ⟨hs, fun i hi => ?_, fun i j hi hj e => ?_, h⟩
  · rw [hg i hi]
    exact List.mem_range.mp (h.mem_iff.mp (List.getElem_mem _))
  · rw [hg i hi, hg j hj] at e
    have nd := List.pairwise_iff_getElem.mp (h.nodup_iff.mpr List.nodup_range)
    rcases Nat.lt_trichotomy i j with h1 | h1 | h1
    · exact absurd e (nd i j _ _ h1)
    · exact h1
    · exact absurd e.symm (nd j i _ _ h1)
theorem Row.of_array {n : Nat} {p q : Array Nat} (h : Row n p) (e : q.Perm p) : Row n q := Row.of_perm ((Array.perm_iff_toList_perm.mp e).trans h.perm)
theorem Row.start (n : Nat) : Row n (List.toArray (List.range n)) := Row.of_perm (List.Perm.refl _)

theorem getD_of {p q : Array Nat} {i j : Nat} (h : p[i]? = q[j]?) : p.getD i 0 = q.getD j 0 := by
  simp only [Array.getD_eq_getD_getElem?, h]

section
variable {c : Nat → Nat → Bool} {n : Nat}
theorem not_lt_of (O : Ord c n) {i j : Nat} (hi : i < n) (hj : j < n) (hn : i ≠ j) (h : ¬ c i j = true) : c j i = true := by
  have := O.an i j hi hj hn
  cases h1 : c j i with
  | true => rfl
  | false => rw [h1] at this; exact absurd this h

theorem good_asc (O : Ord c n) {p : Array Nat} (R : Row n p) : ∀ (f a : Nat), 1 ≤ a → a + f ≤ n → Up c p a →
    Good c n (kas_asc p f a) (fun m => a ≤ m ∧ m ≤ a + f ∧ Up c p m ∧ (m = a + f ∨ c (p.getD m 0) (p.getD (m - 1) 0) = true))
  | 0, a, h1, h2, hu => ⟨Nat.le_refl _, Nat.le_refl _, hu, .inl rfl⟩
  | f + 1, a, h1, h2, hu => by
    refine ⟨R.lt a (by lia), R.lt (a - 1) (by lia), ?_⟩
    dsimp only
    by_cases hc : c (p.getD a 0) (p.getD (a - 1) 0) = true
    · rw [if_pos hc]
      exact ⟨Nat.le_refl _, by lia, hu, .inr hc⟩
    · rw [if_neg hc]
      have hlt : c (p.getD (a - 1) 0) (p.getD a 0) = true := not_lt_of O (R.lt a (by lia)) (R.lt (a - 1) (by lia)) (fun e => by have := R.inj a (a - 1) (by lia) (by lia) e; lia) hc
      refine Good.mono (fun m hm => ⟨by lia, by lia, hm.2.2.1, hm.2.2.2.imp (fun e => by lia) id⟩) (good_asc O R f (a + 1) (by lia) (by lia) fun i j hij hj => ?_)
      by_cases hja : j = a
      · subst hja
        by_cases hi : i = j - 1
        · subst hi; exact hlt
        · exact O.tr _ _ _ (R.lt i (by lia)) (R.lt (j - 1) (by lia)) (R.lt j (by lia)) (hu i (j - 1) (by lia) (by with_reducible exact ar12o (by assumption))) hlt
      · exact hu i j hij (by lia)

theorem good_desc (O : Ord c n) {p : Array Nat} (R : Row n p) : ∀ (f a : Nat), 1 ≤ a → a + f ≤ n → Down c p a →
    Good c n (kas_desc f p a 0) (fun r => r.1 = p ∧ r.2.2 = 0 ∧ a ≤ r.2.1 ∧ r.2.1 ≤ a + f ∧ Down c p r.2.1)
  | 0, a, h1, h2, hu => ⟨rfl, rfl, Nat.le_refl _, Nat.le_refl _, hu⟩
  | f + 1, a, h1, h2, hu => by
    refine ⟨R.lt a (by lia), R.lt (a - 1) (by lia), ?_⟩
    dsimp only
    by_cases hc : c (p.getD a 0) (p.getD (a - 1) 0) = true
    · rw [if_pos hc, if_neg (by lia)]
      refine Good.mono (fun m hm => ⟨hm.1, hm.2.1, by lia, by lia, hm.2.2.2.2⟩) (good_desc O R f (a + 1) (by lia) (by lia) fun i j hij hj => ?_)
      by_cases hja : j = a
      · subst hja
        by_cases hi : i = j - 1
        · subst hi; exact hc
        · exact O.tr _ _ _ (R.lt j (by lia)) (R.lt (j - 1) (by lia)) (R.lt i (by lia)) hc (hu i (j - 1) (by lia) (by with_reducible exact ar12o (by assumption)))
      · exact hu i j hij (by lia)
    · rw [if_neg hc]
      have hlt : c (p.getD (a - 1) 0) (p.getD a 0) = true := not_lt_of O (R.lt a (by lia)) (R.lt (a - 1) (by lia)) (fun e => by have := R.inj a (a - 1) (by lia) (by lia) e; lia) hc
      refine ⟨R.lt (a - 1) (by lia), R.lt a (by lia), ?_⟩
      dsimp only
      rw [if_pos hlt]
      exact ⟨rfl, rfl, Nat.le_refl _, (show a ≤ a + (f + 1) by lia), hu⟩

theorem good_tail3 (O : Ord c n) {p : Array Nat} (R : Row n p) {a : Nat} (h1 : 1 ≤ a) (h2 : a ≤ n) (hu : Down c p a) :
    Good c n (kas_tail3 a n p) (fun r => 1 ≤ r.1 ∧ r.1 ≤ n ∧ Row n r.2 ∧ Up c r.2 r.1) := by
  have R' : Row n (kas_rev p 0 a) := R.of_array (mirror_perm _ _ _ _)
  have hg : ∀ k, k < a → (kas_rev p 0 a).getD k 0 = p.getD (a - 1 - k) 0 := fun k hk => by
    refine getD_of ?_
    have := getElem?_mirror_all (xs := p) (i := 0) (j := a) (by rw [R.size]; exact h2) k
    rw [if_pos ⟨Nat.zero_le _, hk⟩] at this
    rw [show 0 + a - 1 - k = a - 1 - k by lia] at this
    exact this
  unfold kas_tail3
  refine Good.bind (Good.mono (fun m hm => ?_) (good_asc O R' (n - a) a h1 (by lia) fun i j hij hj => ?_))
  · exact ⟨by lia, by lia, R', hm.2.2.1⟩
  · rw [hg i (by lia), hg j hj]
    exact hu _ _ (by with_reducible exact ar6 (by assumption) (by assumption)) (by with_reducible exact ar4z (by assumption))

theorem good_descPart (O : Ord c n) {p : Array Nat} (R : Row n p) {a : Nat} (h2 : a + 1 ≤ n) (hu : Down c p (a + 1)) :
    Good c n (kas_descPart a n p) (fun r => 1 ≤ r.1 ∧ r.1 ≤ n ∧ Row n r.2 ∧ Up c r.2 r.1) := by
  unfold kas_descPart
  refine Good.bind (Good.mono (fun r hr => ?_) (good_desc O R (n - (a + 1)) (a + 1) (by lia) (by with_reducible exact ar22 (by assumption)) hu))
  obtain ⟨q, m, z⟩ := r
  obtain ⟨rfl, rfl, h3, h4, h5⟩ := hr
  dsimp only at h3 h4 h5 ⊢
  rw [if_neg (by lia)]
  exact good_tail3 O R (by lia) (by with_reducible exact ar23 (by assumption) (by assumption)) h5

theorem good_count (O : Ord c n) {p : Array Nat} (R : Row n p) (h1 : 1 ≤ n) :
    Good c n (kas_count n p) (fun r => 1 ≤ r.1 ∧ r.1 ≤ n ∧ Row n r.2 ∧ Up c r.2 r.1) := by
  unfold kas_count
  refine Good.bind (Good.mono (fun m hm => ?_) (good_asc O R (n - 1) 1 (by lia) (by with_reducible exact ar22 (by assumption)) fun i j hij hj => by lia))
  obtain ⟨m1, m2, m3, m4⟩ := hm
  by_cases he : m = n
  · rw [if_pos (by simpa using he)]
    exact ⟨m1, by with_reducible exact ar23 (by assumption) (by assumption), R, m3⟩
  · rw [if_neg (by simpa using he)]
    have hlt := m4.resolve_left (by lia)
    by_cases hg : m > 1
    · rw [if_pos hg]
      refine ⟨R.lt 0 (by assumption), R.lt (m - 1) (by lia), ?_⟩
      dsimp only
      rw [if_pos (m3 0 (m - 1) (by lia) (by with_reducible exact ar12o (by assumption)))]
      exact ⟨m1, by with_reducible exact ar23 (by assumption) (by assumption), R, m3⟩
    · rw [if_neg hg]
      have : m = 1 := by lia
      subst this
      refine good_descPart O R (by lia) fun i j hij hj => ?_
      have hi : i = 0 := by lia
      have hj' : j = 1 := by lia
      subst hi; subst hj'
      exact hlt

theorem good_place (O : Ord c n) {p : Array Nat} (R : Row n p) {k : Nat} (hk : k < n) (hu : Up c p k) : ∀ (f l r : Nat), l ≤ r → r ≤ k → r - l ≤ f → (∀ i, i < l → c (p.getD i 0) (p.getD k 0) = true) → (∀ i, r ≤ i → i < k → c (p.getD k 0) (p.getD i 0) = true) →
    Good c n (kas_place p k f l r) (fun m => m ≤ k ∧ (∀ i, i < m → c (p.getD i 0) (p.getD k 0) = true) ∧ ∀ i, m ≤ i → i < k → c (p.getD k 0) (p.getD i 0) = true)
  | 0, l, r, h1, h2, h3, hlo, hhi => by
    have : l = r := by lia
    subst this
    exact ⟨h2, hlo, hhi⟩
  | f + 1, l, r, h1, h2, h3, hlo, hhi => by
    unfold kas_place
    by_cases hge : l ≥ r
    · rw [if_pos hge]
      have : l = r := by lia
      subst this
      exact ⟨h2, hlo, hhi⟩
    · rw [if_neg hge]
      refine ⟨R.lt k hk, R.lt _ (by with_reducible exact ar20 (by assumption) (by assumption) (by assumption)), ?_⟩
      dsimp only
      by_cases hc : c (p.getD k 0) (p.getD ((l + r) / 2) 0) = true
      · rw [if_pos hc]
        refine good_place O R hk hu f _ _ (by lia) (by lia) (by with_reducible exact ar19 (by assumption) (by assumption)) hlo fun i h4 h5 => ?_
        by_cases hi : i = (l + r) / 2
        · subst hi; exact hc
        · exact O.tr _ _ _ (R.lt k hk) (R.lt ((l + r) / 2) (by with_reducible exact ar20 (by assumption) (by assumption) (by assumption))) (R.lt i (by lia)) hc (hu _ _ (by lia) h5)
      · rw [if_neg hc]
        have hlt : c (p.getD ((l + r) / 2) 0) (p.getD k 0) = true := not_lt_of O (R.lt k hk) (R.lt ((l + r) / 2) (by with_reducible exact ar20 (by assumption) (by assumption) (by assumption))) (fun e => by have := R.inj _ _ hk (by with_reducible exact ar20 (by assumption) (by assumption) (by assumption)) e; lia) hc
        refine good_place O R hk hu f _ _ (by lia) (by assumption) (by with_reducible exact ar18 (by assumption)) (fun i h4 => ?_) hhi
        by_cases hi : i = (l + r) / 2
        · subst hi; exact hlt
        · exact O.tr _ _ _ (R.lt i (by lia)) (R.lt ((l + r) / 2) (by with_reducible exact ar20 (by assumption) (by assumption) (by assumption))) (R.lt k hk) (hu _ _ (by lia) (by lia)) hlt

theorem good_bin (O : Ord c n) : ∀ (f : Nat) (p : Array Nat) (k : Nat), Row n p → k + f = n → Up c p k → Good c n (kas_bin f p k) (fun q => Row n q ∧ Up c q n)
  | 0, p, k, R, h1, hu => ⟨R, by rw [← h1]; exact hu⟩
  | f + 1, p, k, R, h1, hu => by
    unfold kas_bin
    refine Good.bind (Good.mono (fun l hl => ?_) (good_place O R (by lia) hu k 0 k (by lia) (by lia) (by with_reducible exact Nat.sub_le _ _) (fun i hi => by lia) fun i h2 h3 => by lia))
    obtain ⟨l1, l2, l3⟩ := hl
    refine good_bin O f _ _ (R.of_array (bubble_perm _ _ _)) (by lia) ?_
    have hg : ∀ t, (bubble p k (k - l)).getD t 0 = if t = l then p.getD k 0 else if l < t ∧ t ≤ k then p.getD (t - 1) 0 else p.getD t 0 := fun t => by
      have e := getElem?_bubble (xs := p) (src := k) (by rw [R.size]; lia) (k - l) (by with_reducible exact Nat.sub_le _ _) t
      rw [show k - (k - l) = l by with_reducible exact ar21 (by assumption)] at e
      by_cases h5 : t = l
      · rw [if_pos h5] at e ⊢; exact getD_of e
      · rw [if_neg h5] at e ⊢
        by_cases h6 : l < t ∧ t ≤ k
        · rw [if_pos h6] at e ⊢; exact getD_of e
        · rw [if_neg h6] at e ⊢; exact getD_of e
    intro i j hij hj
    rw [hg i, hg j]
    repeat' split
    all_goals first
      | (exfalso; lia)
      | exact l2 _ (by lia)
      | exact l3 _ (by lia) (by lia)
      | exact hu _ _ (by lia) (by lia)

theorem good_sort (O : Ord c n) (h1 : 1 ≤ n) : Good c n (kas_sort n) (fun q => Row n q ∧ Up c q n) := by
  unfold kas_sort
  refine Good.bind (Good.mono (fun r hr => ?_) (good_count O (Row.start n) h1))
  obtain ⟨r1, r2, r3, r4⟩ := hr
  by_cases hlt : r.1 < n
  · rw [if_pos hlt]
    have e : max r.1 1 = r.1 := by lia
    rw [e]
    exact good_bin O _ _ _ r3 (by lia) r4
  · rw [if_neg hlt]
    have : r.1 = n := by lia
    rw [this] at r4
    exact ⟨r3, r4⟩
end

theorem good_wp {α : Type} {c : Nat → Nat → Bool} {n : Nat} {cmp : Nat → Nat → (Bool → Shared → Prop) → Shared → Prop} {s : Shared} (hc : ∀ i j (C : Bool → Shared → Prop), i < n → j < n → C (c i j) s → cmp i j C s) {Q : α → Shared → Prop} : ∀ {t : KasT α}, Good c n t (fun a => Q a s) → t.kasWp cmp Q s
  | .ret a, h => h
  | .ask i j k, h => hc i j _ h.1 h.2.1 (good_wp hc h.2.2)

theorem katlex_ints {prog : Program} {w : World} {A : Around} {s : Shared} {Q : Bool → Shared → Prop} : ∀ {vs ws : List Value} {ns ms : List Int}, IntsAre vs ns → IntsAre ws ms → ns.length = ms.length → ∀ i, Q (ltI ns ms) s →
    KatLex prog w A true false Q (vs.zip ws) i s
  | _, _, _, _, .nil, .nil, _, i, h => h
  | _, _, _, _, .nil, .cons .., hl, i, h => by simp at hl
  | _, _, _, _, .cons .., .nil, hl, i, h => by simp at hl
  | _, _, _, _, .cons a t ha, .cons b u hb, hl, i, h => by
    refine kat_cons (wpAny_eqBool_int ?_)
    rw [ltI] at h
    cases hab : a == b with
    | true =>
      rw [hab, if_pos rfl] at h
      exact kat_yes (katlex_ints ha hb (by simpa using hl) (i + 1) h)
    | false =>
      rw [hab, if_neg (by decide)] at h
      refine kat_no ?_
      cases hi : (true && i == 0) with
      | true => exact oneLt_int h
      | false => exact kat_one _ _ (PyProof.Rows.lt_int h)

theorem ask3 {prog : Program} {w : World} {A : Around} {s : Shared} {vs : List Value} {gE : Heap} {k : Nat} (hE : ∀ x o, gE.get? x = some o → s.heap.get? x = some o) (hd : ∀ v ∈ vs, dom3 gE v ∧ (row3 gE v).length = k) {i j : Nat} (hi : i < vs.length) (hj : j < vs.length)
    {C : Bool → Shared → Prop} (h : C (lt3 gE (vs.getD i .none) (vs.getD j .none)) s) : kas_ask prog w A (tuples' true) vs i j C s := by
  obtain ⟨⟨a, us, ns, ea, ha, hi'⟩, la⟩ := hd _ (getD_mem hi)
  obtain ⟨⟨b, ws, ms, eb, hb, hj'⟩, lb⟩ := hd _ (getD_mem hj)
  unfold kas_ask
  rw [ea, eb] at h ⊢
  rw [ea, row3, itemsAt_tup ha, intsOf_are hi'] at la
  rw [eb, row3, itemsAt_tup hb, intsOf_are hj'] at lb
  obtain ⟨oa, hoa, _, na, hda⟩ := isTuple_keeps ha hE
  obtain ⟨ob, hob, _, nb, hdb⟩ := isTuple_keeps hb hE
  refine kat_lt hoa hda hob hdb ?_
  rw [List.size_toArray, List.size_toArray, hi'.length, hj'.length, la, lb]
  rw [show decide (k < k) = false by simp]
  refine katlex_ints hi' hj' (by rw [la, lb]) 0 ?_
  rw [lt3, row3, row3, itemsAt_tup ha, itemsAt_tup hb, intsOf_are hi', intsOf_are hj'] at h
  exact h

theorem ltI_irrefl : ∀ ns, ltI ns ns = false
  | [] => rfl
  | a :: as => by rw [ltI, beq_self_eq_true, if_pos rfl]; exact ltI_irrefl as
theorem ltI_trans : ∀ {ns ms ks : List Int}, ltI ns ms = true → ltI ms ks = true → ltI ns ks = true
  | [], [], _, h, _ => by simp [ltI] at h
  | [], _ :: _, [], _, h => by simp [ltI] at h
  | [], _ :: _, _ :: _, _, _ => rfl
  | _ :: _, [], _, h, _ => by simp [ltI] at h
  | _ :: _, _ :: _, [], _, h => by simp [ltI] at h
  | a :: as, b :: bs, c :: cs, h1, h2 => by
    rw [ltI] at h1 h2 ⊢
    by_cases e1 : a = b
    · subst e1
      rw [beq_self_eq_true, if_pos rfl] at h1
      by_cases e2 : a = c
      · subst e2
        rw [beq_self_eq_true, if_pos rfl] at h2 ⊢
        exact ltI_trans h1 h2
      · rw [if_neg (by simpa using e2)] at h2 ⊢; exact h2
    · rw [if_neg (by simpa using e1)] at h1
      by_cases e2 : b = c
      · subst e2
        rw [if_neg (by simpa using e1)]; exact h1
      · rw [if_neg (by simpa using e2)] at h2
        simp only [decide_eq_true_eq] at h1 h2
        rw [if_neg (by simp; lia)]
        simp; lia
theorem ltI_total : ∀ {ns ms : List Int}, ns ≠ ms → ltI ns ms = !(ltI ms ns)
  | [], [], h => absurd rfl h
  | [], _ :: _, _ => rfl
  | _ :: _, [], _ => rfl
  | a :: as, b :: bs, h => by
    rw [ltI, ltI]
    by_cases e : a = b
    · subst e
      rw [beq_self_eq_true, if_pos rfl, if_pos rfl]
      exact ltI_total (fun x => h (by rw [x]))
    · rw [if_neg (by simpa using e), if_neg (by simpa using Ne.symm e)]
      by_cases h1 : a < b
      · have h2 : ¬ b < a := by lia
        simp [h1, h2]
      · have h2 : b < a := by lia
        simp [h1, h2]

theorem ord_of {vs : List Value} {gE : Heap} (hn : (vs.map (row3 gE)).Nodup) : Ord (fun i j => lt3 gE (vs.getD i .none) (vs.getD j .none)) vs.length := by
  refine ⟨fun i j k _ _ _ h1 h2 => ltI_trans h1 h2, fun i j hi hj hij => ltI_total fun e => hij ?_⟩
  have nd := List.pairwise_iff_getElem.mp hn
  have e1 : ∀ k, (hk : k < vs.length) → (vs.map (row3 gE))[k]'(by simpa using hk) = row3 gE (vs.getD k .none) := fun k hk => by simp [hk]
  rcases Nat.lt_trichotomy i j with h1 | h1 | h1
  · exact absurd (by rw [e1 i hi, e1 j hj]; exact e) (nd i j (by simpa using hi) (by simpa using hj) h1)
  · exact h1
  · exact absurd (by rw [e1 i hi, e1 j hj]; exact e.symm) (nd j i (by simpa using hj) (by simpa using hi) h1)

theorem perm_of_row {vs : List Value} {p : Array Nat} (R : Row vs.length p) : (p.toList.map fun i => vs.getD i .none).Perm vs := by
  have h1 := R.perm.map (fun i => vs.getD i Value.none)
  have h2 : (List.range vs.length).map (fun i => vs.getD i Value.none) = vs := by
    apply List.ext_getElem
    · simp
    · intro i h3 h4; simp [h4]
  rw [h2] at h1; exact h1
theorem up_pairwise {vs : List Value} {gE : Heap} {p : Array Nat} (R : Row vs.length p) (U : Up (fun i j => lt3 gE (vs.getD i .none) (vs.getD j .none)) p vs.length) :
    (p.toList.map fun i => vs.getD i .none).Pairwise (fun x y => lt3 gE x y = true) := by
  rw [List.pairwise_iff_getElem]
  intro i j hi hj hij
  have hs := R.size
  simp only [List.length_map, Array.length_toList] at hi hj
  have := U i j hij (by lia)
  simp only [List.getElem_map, Array.getElem_toList]
  have e1 : p.getD i 0 = p[i] := by simp [Array.getD, hi]
  have e2 : p.getD j 0 = p[j] := by simp [Array.getD, hj]
  rw [← e1, ← e2]; exact this

theorem tups_of {gE h : Heap} (hE : ∀ x o, gE.get? x = some o → h.get? x = some o) : ∀ {vs : List Value}, (∀ v ∈ vs, dom3 gE v ∧ (row3 gE v).length = 3) → ∃ fs, KatTups h vs fs ∧ fs.length = vs.length ∧ ∀ f ∈ fs, ∃ i t, f = .int i t
  | [], _ => ⟨[], trivial, rfl, fun _ h => nomatch h⟩
  | v :: vs, hd => by
    obtain ⟨fs, h1, h2, h3⟩ := tups_of (vs := vs) hE fun x hx => hd x (.tail _ hx)
    obtain ⟨⟨a, us, ns, ea, ha, hi'⟩, la⟩ := hd v (.head _)
    subst ea
    rw [row3, itemsAt_tup ha, intsOf_are hi'] at la
    obtain ⟨o, ho, hc, n, hdt⟩ := isTuple_keeps ha hE
    cases hi' with
    | nil => simp at la
    | cons k t hr =>
      refine ⟨.int k t :: fs, KatTups.cons ho hc hdt (by simp) h1, by simp [h2], fun f hf => ?_⟩
      rcases List.mem_cons.mp hf with rfl | hf
      · exact ⟨_, _, rfl⟩
      · exact h3 f hf

theorem plain_as_rev (a : Addr) : Builtin.«list.sort» ⟨[.ref a], []⟩ = Builtin.«list.sort» ⟨[.ref a], [(Str.ofString "reverse", .bool false)]⟩ := by
  first
  | rfl
  | (rw [list_sort_plain, list_sort_rev]; simp only [Bool.false_eq_true, if_false]; rfl)

theorem zip_self : ∀ vs : List Value, vs.zip vs = vs.map fun v => (v, v)
  | [] => rfl
  | v :: vs => by show (v, v) :: vs.zip vs = _; rw [zip_self vs]; rfl
theorem zip_self_rev (vs : List Value) : (vs.zip vs).reverse = vs.reverse.zip vs.reverse := by rw [zip_self, zip_self, List.map_reverse]
noncomputable def outOf (b : Bool) (l : List Value) : List Value := if b then l.reverse else l

theorem sort3_tree {prog : Program} {w : World} {A : Around} {E : Value → Shared → Prop} {s : Shared} {a : Addr} {vs : List Value} {n : Nat} {b : Bool} {gE : Heap} {P : Fin → Shared → Prop} (ho : s.heap.get? a = some (listOf vs.toArray n)) (h2 : 2 ≤ vs.length) (h64 : vs.length < 64)
    (hE : ∀ x o, gE.get? x = some o → s.heap.get? x = some o) (hEa : gE.get? a = none) (hd : ∀ v ∈ vs, dom3 gE v ∧ (row3 gE v).length = 3) (hn : (vs.map (row3 gE)).Nodup)
    (h : ∀ h' n' out, Keeps [a] s.heap h' → h'.get? a = some (listOf (outOf b out).toArray n') → out.Perm vs → out.Pairwise (fun x y => lt3 gE x y = true) → P (.done (.ret .none)) { s with heap := h' }) :
    wpAny (model prog w) A (Builtin.«list.sort» ⟨[.ref a], [(Str.ofString "reverse", .bool b)]⟩) P E s := by
  rw [list_sort_rev]
  have hsz : vs.toArray.size = vs.length := by simp
  refine wpAny_bind (listItems_at ho rfl ?_)
  refine wpAny_bind (listUpdate_at ho rfl ?_ (by rw [hsz, sizeLine_eq]; lia) (Nat.zero_le _))
  obtain ⟨e1, ho1⟩ : ∃ e1, (s.heap.update a (Obj.mapSeq fun _ => (#[] : Array Value))).get? a = some (seqObj "list" #[] e1) := ⟨_, get?_update_seq ho fun _ => #[]⟩
  refine wpAny_bind (seqEpoch_at ho1 rfl ?_)
  refine wpAny_bind (wpAny_newTuple ?_ (by show vs.length ≤ _; rw [sizeLine_eq]; lia))
  refine wpAny_bind (wpAny_newList ?_ (Nat.zero_le _))
  refine wpAny_holding ?_
  show wpAny (model prog w) A _ P E { s with heap := ((s.heap.update a (Obj.mapSeq fun _ => (#[] : Array Value))).push (seqObj "tuple" vs.toArray 0)).push (seqObj "list" #[] 0) }
  have ho2 : (((s.heap.update a (Obj.mapSeq fun _ => (#[] : Array Value))).push (seqObj "tuple" vs.toArray 0)).push (seqObj "list" #[] 0)).get? a = some (seqObj "list" #[] e1) :=
    Heap.get?_push_of_some _ (Heap.get?_push_of_some _ ho1)
  have k1 : Keeps [a] s.heap (((s.heap.update a (Obj.mapSeq fun _ => (#[] : Array Value))).push (seqObj "tuple" vs.toArray 0)).push (seqObj "list" #[] 0)) := fun x o e hx =>
    Heap.get?_push_of_some _ (Heap.get?_push_of_some _ ((Heap.get?_update_ne _ _ _ _ (by simpa using hx)).trans e))
  generalize ((s.heap.update a (Obj.mapSeq fun _ => (#[] : Array Value))).push (seqObj "tuple" vs.toArray 0)).push (seqObj "list" #[] 0) = h1 at ho2 k1
  have hE1 : ∀ x o, gE.get? x = some o → h1.get? x = some o := fun x o e => k1 x o (hE x o e) (by simp only [List.mem_singleton]; rintro rfl; rw [hEa] at e; cases e)
  dsimp only
  have step : ∀ t : Sem Fin, wpAny (model prog w) A t P E { s with heap := h1 } → wpAny (model prog w) A (if b = true then (do let _ ← rule "list.sort.reverse"; t) else t) P E { s with heap := h1 } := by
    intro t ht
    split
    · exact wpAny_bind (wpAny_rule ht)
    · exact ht
  refine step _ ?_
  have hlt2 : ¬ vs.toArray.size < 2 := by lia
  rw [if_neg hlt2, if_neg hlt2]
  obtain ⟨fs, t1, t2, t3⟩ := tups_of hE1 hd
  refine wpAny_bind (kat_kind (T := .type "int") (s := { s with heap := h1 }) t1 (by lia) (fun f hf => by obtain ⟨i, t, rfl⟩ := t3 f hf; exact Looks.of_pure rfl) (by decide) ?_)
  have hkk : (Value.type "int" != Value.type "tuple") = true := by decide
  rw [hkk]
  have hdr : ∀ v ∈ outOf b vs, dom3 gE v ∧ (row3 gE v).length = 3 := fun v hv => hd v (by unfold outOf at hv; split at hv; exact List.mem_reverse.mp hv; exact hv)
  have hlen : (outOf b vs).length = vs.length := by unfold outOf; split <;> simp
  have hnr : ((outOf b vs).map (row3 gE)).Nodup := by
    unfold outOf; split
    · rw [List.map_reverse]; exact (List.reverse_perm _).nodup_iff.mpr hn
    · exact hn
  have hpr : (outOf b vs).Perm vs := by
    unfold outOf; split
    · exact List.reverse_perm _
    · exact List.Perm.refl _
  have harr : (if b = true then (vs.toArray.zip vs.toArray).reverse else vs.toArray.zip vs.toArray) = (outOf b vs).toArray.zip (outOf b vs).toArray := by
    unfold outOf; cases b
    · rfl
    · simp only [if_true]
      apply Array.toList_inj.mp
      simp only [Array.toList_reverse, Array.toList_zip]
      exact zip_self_rev vs
  rw [harr]
  refine wpAny_bind (wpAny_mono (kat_run (Q := fun st' s' => s' = { s with heap := h1 } ∧ ∃ p : Array Nat, arrOf st' = p.map (kas_item ((outOf b vs).toArray.zip (outOf b vs).toArray)) ∧ failedOf st' = none ∧ Row (outOf b vs).length p ∧
      Up (fun i j => lt3 gE ((outOf b vs).getD i .none) ((outOf b vs).getD j .none)) p (outOf b vs).length)
    (G := fun p s' => s' = { s with heap := h1 } ∧ Row (outOf b vs).length p ∧ Up (fun i j => lt3 gE ((outOf b vs).getD i .none) ((outOf b vs).getD j .none)) p (outOf b vs).length)
    rfl (by lia) (by lia) (fun p' st' s' a1 a2 a3 a4 => ⟨a4.1, p', a2, a3, a4.2.1, a4.2.2⟩)
    (good_wp (c := fun i j => lt3 gE ((outOf b vs).getD i .none) ((outOf b vs).getD j .none)) (n := (outOf b vs).length) (fun i j C hi hj hC => ask3 (k := 3) hE1 hdr hi hj hC)
      (Good.mono (fun q hq => ⟨rfl, hq⟩) (good_sort (ord_of hnr) (by lia))))) ?_ fun _ _ e => e)
  rintro ⟨⟨⟩, st'⟩ s' ⟨rfl, p, har, hf, R, U⟩
  dsimp only
  have hout := kat_snds (vs := outOf b vs) (ks := outOf b vs) rfl har
  rw [hout]
  refine wpAny_bind (seqEpoch_at ho2 rfl ?_)
  have hpl : (p.toList.map fun i => (outOf b vs).getD i Value.none).length = vs.length := by rw [List.length_map, Array.length_toList, R.size, hlen]
  have hou : (if b = true then (List.toArray (p.toList.map fun i => (outOf b vs).getD i Value.none)).reverse else List.toArray (p.toList.map fun i => (outOf b vs).getD i Value.none)) = (outOf b (p.toList.map fun i => (outOf b vs).getD i Value.none)).toArray := by
    cases b <;> simp [outOf]
  rw [hou]
  refine wpAny_bind (listUpdate_at ho2 rfl ?_ (Nat.zero_le _) (by
    show (outOf b _).toArray.size ≤ _
    rw [List.size_toArray, sizeLine_eq]
    have : (outOf b (p.toList.map fun i => (outOf b vs).getD i Value.none)).length = vs.length := by rw [← hpl]; unfold outOf; split <;> simp
    lia))
  rw [hf]
  simp only [bne_self_eq_false, Bool.false_eq_true, if_false]
  refine wpAny_pure (h _ _ _ (fun x o e hx => (Heap.get?_update_ne _ _ _ _ (by simpa using hx)).trans (k1 x o e hx)) (get?_update_seq ho2 _) ((perm_of_row R).trans hpr) (up_pairwise R U))

section
variable {prog : Program} {w : World} {A : Around} {E : Value → Shared → Prop} {s : Shared}
theorem nextOf_ri_item {it : Addr} {x left step : Int} {Q : Value → Shared → Prop} (hit : s.heap.get? it = some (riObj x left step)) (hleft : 0 < left)
    (hQ : ∀ h', h'.get? it = some (riObj (x + step) (left - 1) step) → Heap.SameBut it s.heap h' → Q (.int x s.toks) { s with heap := h', toks := s.toks + 1 }) :
    wpAny (model prog w) A (Builtin.SmallTypes.nextOf (.ref it)) Q E s := by
  have hT : s.TypeIs (.ref it) "range_iterator" := ⟨_, hit, rfl⟩
  unfold Builtin.SmallTypes.nextOf
  refine wpAny_bind (wpAny_callSpecial?_slot (name := Str.ofString "__next__") hT F.slot_range_iterator_next
    (call_meets F.slot_range_iterator_next hT F.entry_range_iterator_next (F.args_range_iterator_next_1 _) (AutoRange.range_iterator___next___range_iterator_1 it x left step (by lia)) ⟨hit, ?_⟩))
  exact wpAny_pure (hQ _ (Heap.get?_update_self _ (Heap.get?_update_self _ hit rfl) rfl) ((Heap.SameBut.update ..).trans (Heap.SameBut.update ..)))

theorem nextOf_ri_end {it : Addr} {x left step : Int} {Q : Value → Shared → Prop} (hh : A.handled = none) (hit : s.heap.get? it = some (riObj x left step)) (hleft : left ≤ 0)
    (hE : ∀ h' e, Heap.ExtBut it s.heap h' → (∃ o, h'.get? e = some o ∧ o.cls = .type "StopIteration") → E (.ref e) { s with heap := h' }) : wpAny (model prog w) A (Builtin.SmallTypes.nextOf (.ref it)) Q E s := by
  have hT : s.TypeIs (.ref it) "range_iterator" := ⟨_, hit, rfl⟩
  unfold Builtin.SmallTypes.nextOf
  refine wpAny_bind (wpAny_callSpecial?_slot (name := Str.ofString "__next__") hT F.slot_range_iterator_next
    (wpAny_call_entry F.slot_range_iterator_next hT F.entry_range_iterator_next ?_ (F.args_range_iterator_next_1 _)))
  show wpAny _ _ (field (.ref it) 0 >>= _) _ _ s
  refine wpAny_bind (wpAny_field hit rfl (x := rawInt x) rfl ?_)
  show wpAny _ _ (field (.ref it) 1 >>= _) _ _ s
  refine wpAny_bind (wpAny_field hit rfl (x := rawInt left) rfl ?_)
  show wpAny _ _ (field (.ref it) 2 >>= _) _ _ s
  refine wpAny_bind (wpAny_field hit rfl (x := rawInt step) rfl ?_)
  show wpAny _ _ (if left ≤ 0 then _ else _) _ _ s
  rw [if_pos hleft]
  refine wpAny_bind (wpAny_rule ?_)
  refine wpAny_bind ?_
  show wpAny _ _ (newExc (.type "StopIteration") [] >>= _) _ _ _
  refine wpAny_bind ?_
  simp only [newExc, newTuple]
  refine wpAny_bind (wpAny_newObj_type ?_ (by size_fits))
  refine wpAny_bind (m := firstArgMember _ _) (wpAny_of_eq (a := Value.none) (by first | rfl | (simp only [firstArgMember]; rfl)) ?_)
  refine wpAny_newObj_type ?_ (by size_fits)
  simp only [raiseNew]
  refine wpAny_bind (wpAny_handled ?_)
  first | rw [show A.in1.handled = none from hh] | rw [hh]
  refine wpAny_bind (wpAny_pure (wpAny_throw ?_))
  exact hE _ _ (((Heap.ExtBut.refl it s.heap).push _).push _) ⟨_, Heap.get?_push_size _ rfl, rfl⟩
end

noncomputable abbrev zpObj (TI TO : Addr) (f0 : Value) : Obj := { cls := .type "zip", data := .fields #[f0, .bool false, .bool false, .ref TI, .ref TO] }
noncomputable abbrev prObj (a b : Value) : Obj := { cls := .type "tuple", data := .seq #[a, b] }

structure ZipSt (h : Heap) (z TI TO i1 i2 : Addr) (f0 : Value) (x1 l1 s1 x2 l2 s2 : Int) : Prop where
  hz : h.get? z = some (zpObj TI TO f0)
  hTI : h.get? TI = some (prObj (.ref i1) (.ref i2))
  hTO : ∃ a b, h.get? TO = some (prObj a b)
  hi1 : h.get? i1 = some (riObj x1 l1 s1)
  hi2 : h.get? i2 = some (riObj x2 l2 s2)
  nd : [z, TI, TO, i1, i2].Nodup

section
variable {prog : Program} {w : World} {A : Around} {E : Value → Shared → Prop} {s : Shared} {z TI TO i1 i2 : Addr} {x1 l1 s1 x2 l2 s2 : Int}
theorem zip_next_fin {Q : Value → Shared → Prop} (Z : ZipSt s.heap z TI TO i1 i2 .none x1 l1 s1 x2 l2 s2) (h1 : 0 < l1) (h2 : 0 < l2)
    (hQ : ∀ h' (T : Addr) tk t1 t2, Keeps [z, TO, i1, i2] s.heap h' → ZipSt h' z TI TO i1 i2 (rawInt T) (x1 + s1) (l1 - 1) s1 (x2 + s2) (l2 - 1) s2 → h'.get? T = some (prObj (.int x1 t1) (.int x2 t2)) → s.heap.get? T = none →
      Q (.ref T) { s with heap := h', toks := tk }) :
    wpAny (model prog w) A (Builtin.«zip.__next__» ⟨[.ref z], []⟩) (fun fin s' => ∃ v, fin = .done (.ret v) ∧ Q v s') E s := by
  obtain ⟨hz, hTI, ⟨a, b, hTO⟩, hi1, hi2, nd⟩ := Z
  have nd' := nd
  simp only [List.nodup_cons, List.mem_cons, List.not_mem_nil, or_false, not_or] at nd
  obtain ⟨⟨zTI, zTO, zi1, zi2⟩, ⟨TITO, TIi1, TIi2⟩, ⟨TOi1, TOi2⟩, i12, _⟩ := nd
  show wpAny _ _ (field (.ref z) 2 >>= _) _ _ _
  refine wpAny_bind (wpAny_field hz rfl (x := .bool false) rfl ?_)
  show wpAny _ _ (field (.ref z) 3 >>= _) _ _ _
  refine wpAny_bind (wpAny_field hz rfl (x := .ref TI) rfl ?_)
  refine wpAny_bind (wpAny_seqItems hTI rfl ?_)
  show wpAny _ _ (Builtin.SmallTypes.ownedTupleIsFree (.ref z) >>= _) _ _ _
  refine wpAny_bind ?_
  unfold Builtin.SmallTypes.ownedTupleIsFree
  refine wpAny_bind (wpAny_field hz rfl (x := .none) rfl (wpAny_pure ?_))
  simp only [if_true]
  refine wpAny_bind (wpAny_rule ?_)
  refine wpAny_bind (wpAny_field hz rfl (x := .ref TO) rfl ?_)
  refine wpAny_bind (wpAny_setField_rec hz (by simp) fun ha hza ksa => ?_)
  replace hza : ha.get? z = some (zpObj TI TO .ellipsis) := hza
  refine wpAny_bind ?_
  simp only [List.zipIdx_cons, List.zipIdx_nil, List.forIn_cons, List.forIn_nil]
  refine wpAny_bind (wpAny_bind (wpAny_onRaise ?_))
  show wpAny _ _ (Builtin.SmallTypes.nextOf (.ref i1) >>= _) _ _ _
  have ga : ∀ c o, c ≠ z → s.heap.get? c = some o → ha.get? c = some o := fun c o n e => ksa.extBut c o n e
  refine wpAny_bind (nextOf_ri_item (ga _ _ (Ne.symm zi1) hi1) h1 fun hb hib ksb => wpAny_pure ?_)
  have gb : ∀ c o, c ≠ i1 → ha.get? c = some o → hb.get? c = some o := fun c o n e => ksb.extBut c o n e
  have hTOb : IsPair hb TO a b := gb _ _ TOi1 (ga _ _ (Ne.symm zTO) hTO)
  refine wpAny_bind (wpAny_seqItems hTOb rfl ?_)
  refine wpAny_bind (wpAny_updateSeq_pair hTOb fun hc hTOc ksc => ?_)
  replace hTOc : IsPair hc TO (.int x1 s.toks) b := hTOc
  have gc : ∀ c o, c ≠ TO → hb.get? c = some o → hc.get? c = some o := fun c o n e => ksc.extBut c o n e
  refine wpAny_bind (wpAny_letGo (wpAny_pure ?_))
  refine wpAny_bind (wpAny_bind (wpAny_onRaise ?_))
  show wpAny _ _ (Builtin.SmallTypes.nextOf (.ref i2) >>= _) _ _ _
  refine wpAny_bind (nextOf_ri_item (gc _ _ (Ne.symm TOi2) (gb _ _ (Ne.symm i12) (ga _ _ (Ne.symm zi2) hi2))) h2 fun hd hid ksd => wpAny_pure ?_)
  have gd : ∀ c o, c ≠ i2 → hc.get? c = some o → hd.get? c = some o := fun c o n e => ksd.extBut c o n e
  have hTOd : IsPair hd TO (.int x1 s.toks) b := gd _ _ TOi2 hTOc
  refine wpAny_bind (wpAny_seqItems hTOd rfl ?_)
  refine wpAny_bind (wpAny_updateSeq_pair hTOd fun he hTOe kse => ?_)
  replace hTOe : IsPair he TO (.int x1 s.toks) (.int x2 (s.toks + 1)) := hTOe
  have ge : ∀ c o, c ≠ TO → hd.get? c = some o → he.get? c = some o := fun c o n e => kse.extBut c o n e
  refine wpAny_bind (wpAny_letGo (wpAny_pure (wpAny_pure ?_)))
  refine wpAny_bind (wpAny_seqItems hTOe rfl ?_)
  refine wpAny_bind (wpAny_newTuple ?_)
  have hsz : he.objs.size = s.heap.objs.size := by rw [kse.1, ksd.1, ksc.1, ksb.1, ksa.1]
  have hze : he.get? z = some (zpObj TI TO .ellipsis) := ge _ _ zTO (gd _ _ zi2 (gc _ _ zTO (gb _ _ zi1 hza)))
  have hzlt : z < he.objs.size := Heap.lt_size hze
  show wpAny _ _ (Builtin.SmallTypes.ownedTupleHandOut (.ref z) (.ref he.objs.size) >>= _) _ _ _
  refine wpAny_bind ?_
  unfold Builtin.SmallTypes.ownedTupleHandOut
  have hzf : (he.push (prObj (.int x1 s.toks) (.int x2 (s.toks + 1)))).get? z = some (zpObj TI TO .ellipsis) := Heap.get?_push_of_some _ hze
  refine wpAny_bind (wpAny_setField_rec hzf (by simp) fun hg hzg ksg => ?_)
  replace hzg : hg.get? z = some (zpObj TI TO (rawInt he.objs.size)) := hzg
  refine wpAny_setField_rec hzg (by simp) fun hk hzk ksk => ?_
  replace hzk : hk.get? z = some (zpObj TI TO (rawInt he.objs.size)) := hzk
  have up : ∀ c o, c ≠ z → he.get? c = some o → hk.get? c = some o := fun c o c1 e => ksk.extBut _ _ c1 (ksg.extBut _ _ c1 (Heap.get?_push_of_some _ e))
  refine wpAny_pure ⟨_, rfl, ?_⟩
  refine hQ hk he.objs.size _ _ _ (fun c o e hc => ?_) ⟨hzk, up _ _ (Ne.symm zTI) (ge _ _ TITO (gd _ _ TIi2 (gc _ _ TITO (gb _ _ TIi1 (ga _ _ (Ne.symm zTI) hTI))))), ⟨_, _, up _ _ (Ne.symm zTO) hTOe⟩,
    up _ _ (Ne.symm zi1) (ge _ _ (Ne.symm TOi1) (gd _ _ i12 (gc _ _ (Ne.symm TOi1) hib))), up _ _ (Ne.symm zi2) (ge _ _ (Ne.symm TOi2) hid), nd'⟩
    (ksk.extBut _ _ (Nat.ne_of_gt hzlt) (ksg.extBut _ _ (Nat.ne_of_gt hzlt) (Heap.get?_push_size _ rfl))) (by rw [hsz]; exact Heap.get?_none_of_le (Nat.le_refl _))
  simp only [List.mem_cons, List.not_mem_nil, or_false, not_or] at hc
  obtain ⟨c1, c2, c3, c4⟩ := hc
  exact up c o c1 (ge _ _ c2 (gd _ _ c4 (gc _ _ c2 (gb _ _ c3 (ga _ _ c1 e)))))

theorem zip_next_item {Q : Option Value → Shared → Prop} (Z : ZipSt s.heap z TI TO i1 i2 .none x1 l1 s1 x2 l2 s2) (h1 : 0 < l1) (h2 : 0 < l2)
    (hQ : ∀ h' (T : Addr) tk t1 t2, Keeps [z, TO, i1, i2] s.heap h' → ZipSt h' z TI TO i1 i2 (rawInt T) (x1 + s1) (l1 - 1) s1 (x2 + s2) (l2 - 1) s2 → h'.get? T = some (prObj (.int x1 t1) (.int x2 t2)) → s.heap.get? T = none →
      Q (some (.ref T)) { s with heap := h', toks := tk }) : wpAny (model prog w) A (pyNext (.ref z)) Q E s := by
  have hT : s.TypeIs (.ref z) "zip" := ⟨_, Z.hz, rfl⟩
  unfold pyNext
  exact wpAny_bind (wpAny_attempt (wpAny_callSpecial?_slot (name := Str.ofString "__next__") hT F.slot_zip_next
    (wpAny_call_entry F.slot_zip_next hT F.entry_zip_next (zip_next_fin Z h1 h2 fun h' T tk t1 t2 a1 a2 a3 a4 => wpAny_pure (hQ h' T tk t1 t2 a1 a2 a3 a4)) (F.args_zip_next_1 _))))

theorem zip_next_end {Q : Option Value → Shared → Prop} (hh : A.handled = none) (Z : ZipSt s.heap z TI TO i1 i2 .none x1 l1 s1 x2 l2 s2) (h1 : l1 ≤ 0)
    (hQ : ∀ h', Keeps [z, i1] s.heap h' → Q none { s with heap := h' }) : wpAny (model prog w) A (pyNext (.ref z)) Q E s := by
  have hT : s.TypeIs (.ref z) "zip" := ⟨_, Z.hz, rfl⟩
  obtain ⟨hz, hTI, ⟨a, b, hTO⟩, hi1, hi2, nd⟩ := Z
  simp only [List.nodup_cons, List.mem_cons, List.not_mem_nil, or_false, not_or] at nd
  obtain ⟨⟨zTI, zTO, zi1, zi2⟩, _⟩ := nd
  unfold pyNext
  refine wpAny_bind (wpAny_attempt (wpAny_callSpecial?_slot (name := Str.ofString "__next__") hT F.slot_zip_next
    (wpAny_call_entry F.slot_zip_next hT F.entry_zip_next ?_ (F.args_zip_next_1 _))))
  show wpAny _ _ (field (.ref z) 2 >>= _) _ _ _
  refine wpAny_bind (wpAny_field hz rfl (x := .bool false) rfl ?_)
  show wpAny _ _ (field (.ref z) 3 >>= _) _ _ _
  refine wpAny_bind (wpAny_field hz rfl (x := .ref TI) rfl ?_)
  refine wpAny_bind (wpAny_seqItems hTI rfl ?_)
  show wpAny _ _ (Builtin.SmallTypes.ownedTupleIsFree (.ref z) >>= _) _ _ _
  refine wpAny_bind ?_
  unfold Builtin.SmallTypes.ownedTupleIsFree
  refine wpAny_bind (wpAny_field hz rfl (x := .none) rfl (wpAny_pure ?_))
  simp only [if_true]
  refine wpAny_bind (wpAny_rule ?_)
  refine wpAny_bind (wpAny_field hz rfl (x := .ref TO) rfl ?_)
  refine wpAny_bind (wpAny_setField_rec hz (by simp) fun ha hza ksa => ?_)
  replace hza : ha.get? z = some (zpObj TI TO .ellipsis) := hza
  refine wpAny_bind ?_
  simp only [List.zipIdx_cons, List.zipIdx_nil, List.forIn_cons, List.forIn_nil]
  refine wpAny_bind (wpAny_bind (wpAny_onRaise ?_))
  show wpAny _ _ (Builtin.SmallTypes.nextOf (.ref i1) >>= _) _ _ _
  refine wpAny_bind (nextOf_ri_end hh (ksa.extBut _ _ (Ne.symm zi1) hi1) h1 fun hb e ksb he => ?_)
  obtain ⟨oe, hoe, hce⟩ := he
  have hzb : hb.get? z = some (zpObj TI TO .ellipsis) := ksb _ _ zi1 hza
  have hez : e ≠ z := fun x => by subst x; rw [hzb] at hoe; cases hoe; simp at hce
  refine wpAny_setField_rec hzb (by simp) fun hc _ ksc => ?_
  refine wpAny_bind (wpAny_isInstance (T := "StopIteration") (b := true) ⟨oe, ksc.extBut _ _ hez hoe, hce⟩ isSubtype_stop ?_)
  refine wpAny_pure (hQ _ fun c o e' hc' => ?_)
  simp only [List.mem_cons, List.not_mem_nil, or_false, not_or] at hc'
  exact ksc.extBut _ _ hc'.1 (ksb _ _ hc'.2 (ksa.extBut _ _ hc'.1 e'))

theorem zip_go {elts : List Expr} {x1' : Nat} {pos : Pos} {T : Addr} {Q : Unit → Shared → Prop} (Z : ZipSt s.heap z TI TO i1 i2 (rawInt T) x1 l1 s1 x2 l2 s2)
    (hQ : ∀ h', ZipSt h' z TI TO i1 i2 .none x1 l1 s1 x2 l2 s2 → Keeps [z] s.heap h' → Q () { s with heap := h' }) : wpAny (model prog w) A (letOwnedTupleGo (.Tuple elts x1' pos) (.ref z) (.ref T)) Q E s := by
  obtain ⟨hz, hTI, ⟨a, b, hTO⟩, hi1, hi2, nd⟩ := Z
  have nd' := nd
  simp only [List.nodup_cons, List.mem_cons, List.not_mem_nil, or_false, not_or] at nd
  obtain ⟨⟨zTI, zTO, zi1, zi2⟩, _⟩ := nd
  refine wpAny_letOwnedTupleGo_zip hz fun h' hz' hs' => hQ h' ⟨hz', hs'.extBut _ _ (Ne.symm zTI) hTI, ⟨a, b, hs'.extBut _ _ (Ne.symm zTO) hTO⟩, hs'.extBut _ _ (Ne.symm zi1) hi1, hs'.extBut _ _ (Ne.symm zi2) hi2, nd'⟩ (keeps_same hs')
end

noncomputable abbrev zh1 (h : Heap) (a b c : Int) : Heap := h.push (riObj a (Builtin.Range.rangeSize a b c) c)
noncomputable abbrev zh2 (h : Heap) (a b c : Int) (it : Addr) : Heap := (zh1 h a b c).push (prObj (.ref h.objs.size) (.ref it))
noncomputable abbrev zh3 (h : Heap) (a b c : Int) (it : Addr) : Heap := (zh2 h a b c it).push (prObj .none .none)

theorem meets_zip_ri (r it : Addr) (a b c : Int) (t u v : Tok) (x left step : Int) (hs : Builtin.Range.small a b c = true) :
    Meets (Builtin.«zip.__new__» ⟨[.type "zip", .ref r, .ref it], []⟩) (fun _ R s => s.heap.get? r = some (rgObj a b c t u v) ∧ s.heap.get? it = some (riObj x left step) ∧
      R (.ok (.ret (.ref (zh3 s.heap a b c it).objs.size))) { s with heap := (zh3 s.heap a b c it).push (zpObj (zh1 s.heap a b c).objs.size (zh2 s.heap a b c it).objs.size .none) }) :=
  .of_wp fun prog w A R s h => by
    obtain ⟨hp, g, d, tk, os⟩ := s; obtain ⟨hr, hit, h⟩ := h
    have hsub := sub_zip
    have hR : IsRange (Shared.heap ⟨hp, g, d, tk, os⟩) r a b c t u v := hr
    have hI : (Shared.heap ⟨hp.push (riObj a (Builtin.Range.rangeSize a b c) c), g, d, tk, os⟩).get? it = some (riObj x left step) := Heap.get?_push_of_some _ hit
    wp_walk using wpAny_pyIter_range hR hs, pyIter_ri hI
    exact ⟨_, rfl, h⟩

theorem call_zip_ri {prog : Program} {w : World} {A : Around} {E : Value → Shared → Prop} {s : Shared} {r it : Addr} {a b c : Int} {t u v : Tok} {x left step : Int} {Q : Value → Shared → Prop} (hr : s.heap.get? r = some (rgObj a b c t u v)) (hit : s.heap.get? it = some (riObj x left step)) (hs : Builtin.Range.small a b c = true)
    (h : ∀ h' z TI TO i1, Keeps [] s.heap h' → ZipSt h' z TI TO i1 it .none a (Builtin.Range.rangeSize a b c) c x left step → s.heap.get? z = none → s.heap.get? TI = none → s.heap.get? TO = none → s.heap.get? i1 = none → Q (.ref z) { s with heap := h' }) :
    wpAny (model prog w) A (call (.type "zip") [.ref r, .ref it]) Q E s := by
  refine callType_new F.called_zip (by decide) (F.typeCall_zip_2 _ _) (F.newCall_zip_2 _ _) (fun obj => F.args_object_init_3 obj _ _) F.entry_zip_new
    (meets_zip_ri r it a b c t u v x left step hs) ⟨hr, hit, ⟨_, Heap.get?_push_size _ rfl, rfl⟩, ?_⟩
  simp only [zh3, zh2]
  generalize hh1 : zh1 s.heap a b c = h1
  generalize hh2 : h1.push (prObj (.ref s.heap.objs.size) (.ref it)) = h2
  generalize hh3 : h2.push (prObj .none .none) = h3
  have z1 : h1.objs.size = s.heap.objs.size + 1 := by rw [← hh1, Heap.size_push]
  have z2 : h2.objs.size = s.heap.objs.size + 2 := by rw [← hh2, Heap.size_push, z1]
  have z3 : h3.objs.size = s.heap.objs.size + 3 := by rw [← hh3, Heap.size_push, z2]
  have up1 : ∀ c o, s.heap.get? c = some o → h1.get? c = some o := fun c o e => by rw [← hh1]; exact Heap.get?_push_of_some _ e
  have up2 : ∀ c o, h1.get? c = some o → h2.get? c = some o := fun c o e => by rw [← hh2]; exact Heap.get?_push_of_some _ e
  have up3 : ∀ c o, h2.get? c = some o → h3.get? c = some o := fun c o e => by rw [← hh3]; exact Heap.get?_push_of_some _ e
  have up4 : ∀ c o, h3.get? c = some o → (h3.push (zpObj h1.objs.size h2.objs.size .none)).get? c = some o := fun c o e => Heap.get?_push_of_some _ e
  have g1 : h1.get? s.heap.objs.size = some (riObj a (Builtin.Range.rangeSize a b c) c) := by rw [← hh1]; exact Heap.get?_push_size _ rfl
  have g2 : h2.get? h1.objs.size = some (prObj (.ref s.heap.objs.size) (.ref it)) := by rw [← hh2]; exact Heap.get?_push_size _ rfl
  have g3 : h3.get? h2.objs.size = some (prObj .none .none) := by rw [← hh3]; exact Heap.get?_push_size _ rfl
  have hlt : @LT.lt Nat _ it s.heap.objs.size := Heap.lt_size hit
  refine h _ h3.objs.size h1.objs.size h2.objs.size s.heap.objs.size (fun c o e _ => up4 _ _ (up3 _ _ (up2 _ _ (up1 _ _ e)))) ⟨Heap.get?_push_size _ rfl, up4 _ _ (up3 _ _ g2), ⟨_, _, up4 _ _ g3⟩, up4 _ _ (up3 _ _ (up2 _ _ g1)), up4 _ _ (up3 _ _ (up2 _ _ (up1 _ _ hit))), ?_⟩
    (Heap.get?_none_of_le (by lia)) (Heap.get?_none_of_le (by lia)) (Heap.get?_none_of_le (by lia)) (Heap.get?_none_of_le (by lia))
  simp only [List.nodup_cons, List.mem_cons, List.not_mem_nil, or_false, not_or]
  rw [z1, z2, z3]
  refine ⟨⟨?_, ?_, ?_, ?_⟩, ⟨?_, ?_, ?_⟩, ⟨?_, ?_⟩, ?_, not_false, List.nodup_nil⟩ <;> first | (refine Nat.ne_of_gt ?_ <;> lia) | (refine Nat.ne_of_lt ?_ <;> lia)

theorem evalPart_n {M : Model} {A : Around} {E : Value → Shared → Prop} {s : Shared} {env : Env} {Q : Value → Shared → Prop} (h : Q .none s) : wpAny M A (evalPart none env) Q E s := wpAny_pure h
theorem evalPart_s {M : Model} {A : Around} {E : Value → Shared → Prop} {s : Shared} {env : Env} {e : Expr} {Q : Value → Shared → Prop} (h : wpAny M A (eval e env) Q E s) : wpAny M A (evalPart (some e) env) Q E s := h
theorem if_tt {p q : Prop} (h : p) : if true = true then p else q := h
theorem if_ff {p q : Prop} (h : q) : if false = true then p else q := h
section
variable {M : Model} {A : Around} {E : Value → Shared → Prop} {s : Shared} {g : Heap} {C c : Addr} {m : Str → Option Value} {news : List (Addr × Obj)} {scope : Scope} {cl : List (Str × Addr)} {env : Env} {x : Str} {pos : Pos} {v : Value} {o : Obj}
theorem ldQ {Q : Value → Shared → Prop} (F : Fr g C s.heap m) (hv : m x = some v) (h : Q v s) (hk : (compEnvC scope cl C env).scope.kind = .function := by rfl) (hl : (compEnvC scope cl C env).kindOf x = some .local := by rfl)
    (hd : (x == ("__debug__" : Str)) = false := by decide) : wpAny M A (eval (.Name x pos) (compEnvC scope cl C env)) Q E s := ldVarK F.ns hv h hk hl hd
theorem stQ {Q : Unit → Shared → Prop} (F : Fr g C s.heap m) (N : News g C s.heap news) (h : ∀ h' tk, Fr g C h' (mput m x v) → News g C h' news → Q () { s with heap := h', toks := tk })
    (hk : scope.kind = .function := by rfl) (hx : scope.names.lookup x = some .local := by rfl) : wpAny M A (storeName (compEnvC scope cl C env) x v) Q E s :=
  wpAny_storeName_local (lookup_relabel_local hx) F.ns (fun h' hn hs => h h' _ (F.set hn hs) (N.set hs)) (by simp [compEnvC, relabel, hk])
theorem ldQF {Q : Value → Shared → Prop} (F : Fr g C s.heap m) (hc : cl.lookup x = some c) (hg : g.get? c = some o) (hd : o.data = .cell (some v)) (h : Q v s)
    (hk : (compEnvC scope cl C env).scope.kind = .function := by rfl) (hl : (compEnvC scope cl C env).kindOf x = some .free := by rfl) (hb : (x == ("__debug__" : Str)) = false := by decide)
    (hn : (x == ("__classdict__" : Str)) = false := by decide) : wpAny M A (eval (.Name x pos) (compEnvC scope cl C env)) Q E s := ldFreeK hc ⟨o, F.keep _ _ hg, hd⟩ h hk hl hb hn
theorem ldQC {Q : Value → Shared → Prop} (F : Fr g C s.heap m) (hc : cl.lookup x = some c) (hg : g.get? c = some o) (hd : o.data = .cell (some v)) (h : Q v s)
    (hk : (compEnvC scope cl C env).scope.kind = .function := by rfl) (hl : (compEnvC scope cl C env).kindOf x = some .cell := by rfl) (hb : (x == ("__debug__" : Str)) = false := by decide) :
    wpAny M A (eval (.Name x pos) (compEnvC scope cl C env)) Q E s := ldCellK hc ⟨o, F.keep _ _ hg, hd⟩ h hk hl hb
end
section
variable {prog : Program} {w : World} {A : Around} {E : Value → Shared → Prop} {s : Shared} {g : Heap} {C : Addr} {m : Str → Option Value} {scope : Scope} {cl : List (Str × Addr)} {env : Env} {x : Str} {pos : Pos} {v : Value} {Q : Value → Shared → Prop}
theorem nmKQ (F : Fr g C s.heap m) (B : Base w g) (e : nsIn (hd.heap_39 w.params) mainGlobals x = some (some v)) (h : Q v s) (hg : env.globals = mainGlobals := by rfl)
    (hk : (compEnvC scope cl C env).scope.kind = .function := by rfl) (hx : (compEnvC scope cl C env).kindOf x = some .globalImplicit := by rfl) (hd : (x == ("__debug__" : Str)) = false := by decide) :
    wpAny (model prog w) A (eval (.Name x pos) (compEnvC scope cl C env)) Q E s :=
  let ⟨_, _, mg, _, T⟩ := B.T
  Name_function_global hk hx (loadGlobal_global (env := compEnvC scope cl C env) (show s.heap.Ns env.globals mg from hg ▸ T.g.keeps F.keep) (mg_of B.X T.g e) h) hd
theorem nmBQ (F : Fr g C s.heap m) (B : Base w g) (e : nsIn (hd.heap_39 w.params) mainGlobals x = some none) (hv : bootBuiltins x = some v) (hn : x ≠ "__name__") (h : Q v s) (hg : env.globals = mainGlobals := by rfl) (hb : env.builtins = builtinsNs := by rfl)
    (hk : (compEnvC scope cl C env).scope.kind = .function := by rfl) (hx : (compEnvC scope cl C env).kindOf x = some .globalImplicit := by rfl) (hd : (x == ("__debug__" : Str)) = false := by decide) :
    wpAny (model prog w) A (eval (.Name x pos) (compEnvC scope cl C env)) Q E s :=
  let ⟨_, _, mg, mb, T⟩ := B.T
  Name_function_global hk hx (loadGlobal_builtin (env := compEnvC scope cl C env) (show s.heap.Ns env.globals mg from hg ▸ T.g.keeps F.keep) (mg_none_of B.X T.g e) (show s.heap.Ns env.builtins mb from hb ▸ T.b.keeps F.keep) ((T.builtins x hn).trans hv) h) hd
end

section
variable {prog : Program} {w : World} {A : Around} {s : Shared} {R : Result → Shared → Prop} {name qual : Str} {params : Arguments} {body : List Stmt} {scope : Scope}
  {dV kV doc pm cdv ct oc : Value} {an od : Option Addr} {osl : Array (Option Value)} {f : Addr} {args : Args} {binds : List (Str × Value)} {foot : List (Addr × Obj)}
theorem enterC (O : Ok w (foot.map (·.1)) s.heap) (hfoot : ∀ p ∈ foot, s.heap.get? p.1 = some p.2)
    (ho : (hd.heap_39 w.params).lookup f = some ⟨oc, od, .func (fnOf name qual params body scope dV kV doc pm an cdv ct), osl⟩) (hcd : codeIn (hd.heap_39 w.params) cdv qual = true)
    {k : Nat} (hroom : Room A k) (hbind : BindsTo s (fnOf name qual params body scope dV kV doc pm an cdv ct) args binds)
    (hkind : (binds.all fun y => scope.names.lookup y.1 == some .local || scope.names.lookup y.1 == some .cell) = true) (hnd : ((cellsFrom 0 scope.names []).map (·.1)).Nodup)
    (h : ∀ g L h₁ tk cells, Base w g → (∀ b o, s.heap.get? b = some o → b ∉ foot.map (·.1) → g.get? b = some o) → Fr g L h₁ (bindL (envOfC qual scope L f cdv).kindOf binds fun _ => none) → News g L h₁ (cells ++ foot) →
      CellsAre (bindC (envOfC qual scope L f cdv).kindOf binds fun _ => none) (cellsFrom (L + 1) scope.names []) cells → (∀ p ∈ cells, s.heap.get? p.1 = none) →
      wpAny (model prog w) (A.deeper (envOfC qual scope L f cdv)) (execs body (envOfC qual scope L f cdv))
        (fun fl s' => R (.ok (.ret (match fl with | .ret v => v | _ => .none))) s') No { s with heap := h₁, toks := tk })
    (hco : scope.isCoroutine = false := by rfl) (hgen : scope.isGenerator = false := by rfl) (hk : scope.kind = .function := by rfl) : codeAny (model prog w) A (.call (.ref f) args) R s := by
  obtain ⟨g₀, B, st, fr⟩ := O
  have Bs := B.keeps st
  have stg : ∀ b o, g₀.get? b = some o → (hideAll s.heap (foot.map (·.1))).get? b = some o := fun b o e => hideAll_get _ (st b o e) fun q => by rw [fr b q] at e; cases e
  refine codeAny_call_function (fd := fnOf name qual params body scope dV kV doc pm an cdv ct) hroom.lim (Bs.X _ _ ho) rfl hco hgen rfl (codeRec_of Bs.X hcd) (hbind _ _ _ _ ?_)
  refine wpAny_newFunctionEnv_cells hk (kindsX hkind _) fun env' he s' x => ?_
  subst he
  refine ⟨Bs.lim.keeps x.toInCall.keep, codeAny_func ?_⟩
  obtain ⟨h₁, tk, rfl, _⟩ := x.done
  have hk₁ := x.toInCall.keep
  obtain ⟨cells, NC, Y⟩ := Cl.news (h₀ := s.heap) (Nat.le_refl _) fun n c hm => ⟨x.cell n c (lookup_of_mem_nodup (cellsFrom_names scope.names 0 (s.heap.objs.size + 1) [] [] rfl ▸ hnd) hm), x.above n c hm⟩
  refine wpAny_mono (h (hideAll s.heap (foot.map (·.1))) s.heap.objs.size h₁ tk cells (B.keeps stg) (fun b o e n => hideAll_get _ e n) ⟨x.toInCall.ns, fun b o e => hk₁ b o (of_hideAll _ e), Nat.le_of_eq (hideAll_size _ _)⟩ (fun p hp => ?_) Y (fun p hp => (NC p hp).2.2)) (fun fl s' hl => hl) fun _ _ y => y.elim
  rcases List.mem_append.mp hp with hp | hp
  · refine ⟨(NC p hp).1, (NC p hp).2.1, ?_⟩
    cases q : (hideAll s.heap (foot.map (·.1))).get? p.1 with
    | none => rfl
    | some o => have := of_hideAll _ q; rw [(NC p hp).2.2] at this; cases this
  · exact ⟨hk₁ _ _ (hfoot p hp), Nat.ne_of_lt (Heap.lt_size (hfoot p hp)), hideAll_none _ (List.mem_map_of_mem hp)⟩
end

section
variable {M : Model} {A : Around} {E : Value → Shared → Prop} {s : Shared} {g : Heap} {L a c : Addr} {m : Str → Option Value} {cn : Str} {cs : Scope} {ccd : Value} {cl : List (Str × Addr)} {x : Str} {v : Value} {rest : List (Addr × Obj)} {o : Obj} {v₀ : Option Value}
theorem stC {Q : Unit → Shared → Prop} (F : Fr g L s.heap m) (N : News g L s.heap ((c, o) :: rest)) (hne : ∀ p ∈ rest, p.1 ≠ c) (hc : cl.lookup x = some c) (hd : o.data = .cell v₀)
    (h : ∀ h' o', Fr g L h' m → News g L h' ((c, o') :: rest) → o'.data = .cell (some v) → Q () { s with heap := h' })
    (hk : cs.kind = .function := by rfl) (hx : (envX cn cs L a ccd cl).kindOf x = some .cell := by rfl) : wpAny M A (storeName (envX cn cs L a ccd cl) x v) Q E s := by
  have hmem := N (c, o) (.head _)
  refine wpAny_storeName_cell hk hx hc ⟨o, hmem.1, hd⟩ fun h' hv hs => ?_
  obtain ⟨o', ho', hd'⟩ := hv
  obtain ⟨F', N'⟩ := after1 F N hne (keeps_same hs) ho'
  exact h h' o' F' N' hd'
end

noncomputable abbrev lst (ys : List Value) : Obj := listOf ys.toArray ys.length
theorem lst_snoc (ys : List Value) (y : Value) : ({ cls := .type "list", data := .seq (ys.toArray.push y) (ys.length + 1) } : Obj) = lst (ys ++ [y]) := LCg.lst_snoc ys y

inductive TurnEnd (s : Shared) (g : Heap) (C D : Addr) (ys : List Value) (J : (Str → Option Value) → List (Addr × Obj) → Prop) (s' : Shared) : Prop
  | mk (h' : Heap) (tk' : Tok) (m' : Str → Option Value) (nx' : List (Addr × Obj)) : s' = { s with heap := h', toks := tk' } → Fr g C h' m' → News g C h' ((D, lst ys) :: nx') → (∀ p ∈ nx', p.1 ≠ D) → J m' nx' → TurnEnd s g C D ys J s'
noncomputable abbrev testsOf (ifs : List Expr) (env : Env) : Sem Bool := forIn ifs true fun c r => if r = true then do let ok ← isTrue c env (eval c env); pure (ForInStep.yield ok) else pure (ForInStep.yield r)

inductive CompInv (st : Heap → Tok → Shared) (g : Heap) (C D : Addr) (n : Nat) (J : Nat → List Value → (Str → Option Value) → List (Addr × Obj) → Prop) (k : Nat) (s' : Shared) : Prop
  | mk (h' : Heap) (tk : Tok) (i : Nat) (ys : List Value) (m' : Str → Option Value) (nx : List (Addr × Obj)) : s' = st h' tk → i ≤ n → k = n + 1 - i → ys.length ≤ i → Fr g C h' m' → News g C h' ((D, lst ys) :: nx) → (∀ p ∈ nx, p.1 ≠ D) → J i ys m' nx → CompInv st g C D n J k s'
section
variable {prog : Program} {w : World} {A : Around} {env : Env}
theorem codeAny_compLoop_any {elt target iter : Expr} {ifs : List Expr} {scope : Scope} {pos : Pos} {it acc : Value} {env : Env} {s : Shared} {R : Result → Shared → Prop} (I : Nat → Shared → Prop)
    (turn : ∀ n s, I n s → wpAny (model prog w) A (pyNext it) (fun r s₁ => match r with
      | none => R (.ok .next) s₁
      | some v => wpAny (model prog w) A (letOwnedTupleGo target it v) (fun _ s₁' => wpAny (model prog w) A (assign target env v) (fun _ s₂ =>
          wpAny (model prog w) A (testsOf ifs env) (fun ok s₃ =>
            if ok = true then wpAny (model prog w) A (eval elt env) (fun x s₄ =>
              wpAny (model prog w) A (call (.builtin "list.append") [acc, x]) (fun _ s₅ => ∃ m, m < n ∧ I m s₅) No s₄) No s₃
            else ∃ m, m < n ∧ I m s₃) No s₂) No s₁') No s₁) No s)
    (n : Nat) (h : I n s) : codeAny (model prog w) A (.compLoop (.ListComp elt [⟨target, iter, ifs, 0⟩] scope pos) 0 it acc env) R s := by
  refine codeAny_loop rfl I (fun n s hI => ?_) n h
  show wpAny _ A ((compTurn (.ListComp elt [⟨target, iter, ifs, 0⟩] scope pos) 0 it acc env).onRaise (fun x => do noteFrame x env; theTreesLotGoes x)) _ _ s
  refine wpAny_noted ?_
  rw [compTurn_list]
  refine wpAny_bind (wpAny_standAt (wpAny_bind (wpAny_mono (turn n s hI) (fun r s₁ h₁ => ?_) fun _ _ h' => h'.elim)))
  cases r with
  | none => exact wpAny_pure h₁
  | some v =>
    refine wpAny_bind (wpAny_mono h₁ (fun _ s₁' h₁' => ?_) fun _ _ h' => h'.elim)
    refine wpAny_bind (wpAny_mono h₁' (fun _ s₂ h₂ => wpAny_bind (wpAny_mono h₂ (fun ok s₃ h₃ => ?_) fun _ _ h' => h'.elim)) fun _ _ h' => h'.elim)
    cases ok with
    | false => exact wpAny_pure ⟨rfl, h₃⟩
    | true =>
      exact wpAny_bind (wpAny_bind (wpAny_mono h₃ (fun x s₄ h₄ => wpAny_bind (wpAny_mono h₄ (fun _ s₅ h₅ => wpAny_pure (wpAny_pure ⟨rfl, h₅⟩)) fun _ _ h' => h'.elim)) fun _ _ h' => h'.elim))

theorem comp_rule {elt target iter : Expr} {ifs : List Expr} {scope : Scope} {cl : List (Str × Addr)} {pos : Pos} {use : Option (Value → Sem Unit)} {s : Shared} {I : Addr} {n : Nat} {foot : List (Addr × Obj)} {Q : Value → Shared → Prop}
    (J : Nat → List Value → (Str → Option Value) → List (Addr × Obj) → Prop) (J' : List Value → List (Addr × Obj) → Prop)
    (hcell : ∀ y ∈ scope.names, y.2 ≠ .cell) (hkind : scope.kind = .function) (hn : n < 2 ^ 20)
    (hfoot : ∀ p ∈ foot, s.heap.get? p.1 = some p.2)
    (hself : ∀ (s' : Shared) (Q' : Value → Shared → Prop), (∀ b o, s.heap.get? b = some o → s'.heap.get? b = some o) → Q' (.ref I) s' → wpAny (model prog w) A (pyIter (.ref I)) Q' No s')
    (h0 : J 0 [] (fun _ => none) foot)
    (turn : ∀ g C D i ys m nx h tk, (∀ b o, s.heap.get? b = some o → b ∉ foot.map (·.1) → g.get? b = some o) → i < n → J i ys m nx → Fr g C h m → News g C h ((D, lst ys) :: nx) → (∀ p ∈ nx, p.1 ≠ D) →
      wpAny (model prog w) A (pyNext (.ref I)) (fun r s₁ => ∃ v, r = some v ∧ wpAny (model prog w) A (letOwnedTupleGo target (.ref I) v) (fun _ s₂ => wpAny (model prog w) A (assign target (compEnvC scope cl C env) v) (fun _ s₃ =>
        wpAny (model prog w) A (testsOf ifs (compEnvC scope cl C env)) (fun ok s₄ => if ok = true then wpAny (model prog w) A (eval elt (compEnvC scope cl C env)) (fun y => TurnEnd s g C D ys (J (i + 1) (ys ++ [y]))) No s₄
          else TurnEnd s g C D ys (J (i + 1) ys) s₄) No s₃) No s₂) No s₁) No { s with heap := h, toks := tk })
    (last : ∀ g C D ys m nx h tk, (∀ b o, s.heap.get? b = some o → b ∉ foot.map (·.1) → g.get? b = some o) → J n ys m nx → Fr g C h m → News g C h ((D, lst ys) :: nx) → (∀ p ∈ nx, p.1 ≠ D) →
      wpAny (model prog w) A (pyNext (.ref I)) (fun r s₁ => r = none ∧ TurnEnd s g C D ys (fun _ => J' ys) s₁) No { s with heap := h, toks := tk })
    (post : ∀ C D h tk m ys nx, Keeps (foot.map (·.1)) s.heap h → s.heap.get? C = none → s.heap.get? D = none → C ≠ D → h.Ns C m → h.get? D = some (lst ys) → (∀ p ∈ nx, h.get? p.1 = some p.2 ∧ p.1 ≠ C ∧ p.1 ≠ D ∧ (s.heap.get? p.1 = none ∨ p.1 ∈ foot.map (·.1))) → J' ys nx →
      compPost (model prog w) A No use Q (.ref D) C (.ok .next) { s with heap := h, toks := tk }) :
    wpAny (model prog w) A (newList []) (fun acc s₃ => wpAny (model prog w) A (newFunctionEnv scope env.globals cl [] env.qual none .none (some env)) (fun cenv s₄ =>
      codeAny (model prog w) A (.compStart (.ListComp elt [⟨target, iter, ifs, 0⟩] scope pos) 0 (.ref I) acc { cenv with scope := relabel scope env }) (compPost (model prog w) A No use Q acc cenv.locals) s₄) No s₃) No s := by
  refine wpAny_newObj_type (wpAny_newFunctionEnv hcell (by intro y hy; simp at hy) (fun h₁ hns₁ hsb₁ => ?_) hkind)
  dsimp only at hns₁ hsb₁ ⊢
  generalize hH2 : s.heap.push { cls := .type "list", dict := none, data := .seq ([] : List Value).toArray } = H2 at hns₁ hsb₁ ⊢
  have hC : H2.objs.size = s.heap.objs.size + 1 := by rw [← hH2, Heap.size_push]
  have hDC : s.heap.objs.size ≠ H2.objs.size := by rw [hC]; exact Nat.ne_of_lt (Nat.lt_succ_self _)
  have below : ∀ b, b < s.heap.objs.size → b ≠ H2.objs.size ∧ b ≠ s.heap.objs.size := fun b hb => ⟨by rw [hC]; exact Nat.ne_of_lt (Nat.lt_succ_of_lt hb), Nat.ne_of_lt hb⟩
  have old : ∀ b o, s.heap.get? b = some o → h₁.get? b = some o := fun b o e => hsb₁.extBut b o (below b (Heap.lt_size e)).1 (Heap.get?_push_of_some _ (hH2 ▸ Heap.get?_push_of_some _ e))
  have hacc : h₁.get? s.heap.objs.size = some (lst []) := hsb₁.extBut _ _ hDC (Heap.get?_push_of_some _ (hH2 ▸ Heap.get?_push_size _ rfl))
  have fresh : ∀ a, s.heap.objs.size ≤ a → s.heap.get? a = none := fun a ha => Heap.get?_none_of_le ha
  have freshg : ∀ a, s.heap.objs.size ≤ a → (hideAll s.heap (foot.map (·.1))).get? a = none := fun a ha => by
    cases e : (hideAll s.heap (foot.map (·.1))).get? a with
    | none => rfl
    | some o' => have := of_hideAll _ e; rw [fresh a ha] at this; cases this
  have hCle : s.heap.objs.size ≤ H2.objs.size := by rw [hC]; exact Nat.le_succ _
  have F₁ : Fr (hideAll s.heap (foot.map (·.1))) H2.objs.size h₁ (fun _ => none) := ⟨by simpa using hns₁, fun b o e => old b o (of_hideAll _ e), by rw [hideAll_size]; exact hCle⟩
  have N₁ : News (hideAll s.heap (foot.map (·.1))) H2.objs.size h₁ ((s.heap.objs.size, lst []) :: foot) := fun p hp => by
    rcases List.mem_cons.mp hp with rfl | hp
    · exact ⟨hacc, hDC, freshg _ (Nat.le_refl _)⟩
    · exact ⟨old _ _ (hfoot p hp), (below _ (Heap.lt_size (hfoot p hp))).1, hideAll_none _ (List.mem_map_of_mem hp)⟩
  have offD : ∀ p ∈ foot, p.1 ≠ s.heap.objs.size := fun p hp => (below _ (Heap.lt_size (hfoot p hp))).2
  have loop : ∀ s₃ : Shared, s₃ = { s with heap := h₁, toks := s.toks + ([] : List (Str × Value)).length } →
      codeAny (model prog w) A (.compLoop (.ListComp elt [⟨target, iter, ifs, 0⟩] scope pos) 0 (.ref I) (.ref s.heap.objs.size) (compEnvC scope cl H2.objs.size env))
        (compPost (model prog w) A No use Q (.ref s.heap.objs.size) H2.objs.size) s₃ := by
    rintro s₃ rfl
    refine codeAny_compLoop_any
      (CompInv (fun h tk => { s with heap := h, toks := tk }) (hideAll s.heap (foot.map (·.1))) H2.objs.size s.heap.objs.size n J) ?_ (n + 1)
      ⟨h₁, _, 0, [], _, foot, rfl, Nat.zero_le _, rfl, Nat.le_refl _, F₁, N₁, offD, h0⟩
    rintro k s' ⟨h', tk, i, ys, m', nx, rfl, hi, rfl, hyl, F', N', off', hJ⟩
    by_cases hlt : i < n
    · refine wpAny_mono (turn _ _ _ i ys m' nx h' tk (fun b o e hb => hideAll_get _ e hb) hlt hJ F' N' off') (fun r s₁ h₁ => ?_) fun _ _ e => e.elim
      obtain ⟨v, rfl, h₁⟩ := h₁
      refine wpAny_mono h₁ (fun _ s₂ h₂ => wpAny_mono h₂ (fun _ s₃ h₃ => wpAny_mono h₃ (fun ok s₄ h₄ => ?_) fun _ _ e => e.elim) fun _ _ e => e.elim) fun _ _ e => e.elim
      cases ok with
      | false =>
        obtain ⟨h₅, tk₅, m₅, nx₅, rfl, F₅, N₅, off₅, J₅⟩ := h₄
        exact ⟨n + 1 - (i + 1), by with_reducible exact ar3s (by assumption), h₅, tk₅, i + 1, ys, m₅, nx₅, rfl, hlt, rfl, by lia, F₅, N₅, off₅, J₅⟩
      | true =>
        simp only [if_true] at h₄ ⊢
        refine wpAny_mono h₄ (fun y s₅ h₅ => ?_) fun _ _ e => e.elim
        obtain ⟨h₅, tk₅, m₅, nx₅, rfl, F₅, N₅, off₅, J₅⟩ := h₅
        refine append_at (hsz := by show ys.toArray.size ≤ sizeLine; rw [List.size_toArray]; simp only [sizeLine]; lia) (N₅ _ (.head _)).1 fun h₆ hs₆ hD₆ => ?_
        obtain ⟨F₆, N₆⟩ := after1 F₅ N₅ off₅ (keeps_same hs₆) (hD₆.trans (congrArg some (lst_snoc ys y)))
        exact ⟨n + 1 - (i + 1), by with_reducible exact ar3s (by assumption), h₆, tk₅, i + 1, ys ++ [y], m₅, nx₅, rfl, hlt, rfl, by rw [List.length_append, List.length_singleton]; lia, F₆, N₆, off₅, J₅⟩
    · obtain rfl : i = n := Nat.le_antisymm hi (Nat.not_lt.mp hlt)
      refine wpAny_mono (last _ _ _ ys m' nx h' tk (fun b o e hb => hideAll_get _ e hb) hJ F' N' off') (fun r s₁ h₁ => ?_) fun _ _ e => e.elim
      obtain ⟨rfl, h₂, tk₂, m₂, nx₂, rfl, F₂, N₂, off₂, J₂⟩ := h₁
      refine post _ _ h₂ tk₂ m₂ ys nx₂ (fun b o e hb => F₂.keep b o (hideAll_get _ e hb)) (fresh _ hCle) (fresh _ (Nat.le_refl _)) (Ne.symm hDC) F₂.ns (N₂ _ (.head _)).1 (fun p hp => ?_) J₂
      refine ⟨(N₂ p (.tail _ hp)).1, (N₂ p (.tail _ hp)).2.1, off₂ p hp, ?_⟩
      by_cases hm : p.1 ∈ foot.map (·.1)
      · exact .inr hm
      · refine .inl ?_
        cases q : s.heap.get? p.1 with
        | none => rfl
        | some o => have := (N₂ p (.tail _ hp)).2.2; rw [hideAll_get _ q hm] at this; cases this
  exact codeAny_compStart_list (loop _ rfl) (wpAny_mono (hself _ (fun it' s' => it' = .ref I ∧ s' = { s with heap := h₁, toks := s.toks + ([] : List (Str × Value)).length }) (fun b o e => old b o e) ⟨rfl, rfl⟩)
    (fun it' s' x => by obtain ⟨rfl, rfl⟩ := x; exact loop _ rfl) fun _ _ e => e.elim)
end

noncomputable abbrev CompBlock (prog : Program) (w : World) (A : Around) (env : Env) (scope : Scope) (cl : List (Str × Addr)) (e : Expr) (use : Option (Value → Sem Unit)) (Q : Value → Shared → Prop) (it : Value) (s : Shared) : Prop :=
  wpAny (model prog w) A (newList []) (fun acc s₃ => wpAny (model prog w) A (newFunctionEnv scope env.globals cl [] env.qual none .none (some env)) (fun cenv s₄ =>
      codeAny (model prog w) A (.compStart e 0 it acc { cenv with scope := relabel scope env }) (compPost (model prog w) A No use Q acc cenv.locals) s₄) No s₃) No s
section
variable {prog : Program} {w : World} {A : Around} {env : Env} {s : Shared} {elt target iter : Expr} {ifs : List Expr} {scope : Scope} {cl : List (Str × Addr)} {pos : Pos}
theorem ListComp_b {Q : Value → Shared → Prop} (hclos : closureFor scope env = pure cl) (hkind : scope.kind = .function) (hnames : ∀ y ∈ scope.names, y.2 = .local → scope.names.lookup y.1 = some .local)
    (h : wpAny (model prog w) A (eval iter env) (fun xv s₁ => wpAny (model prog w) A (pyIter xv) (CompBlock prog w A env scope cl (.ListComp elt [⟨target, iter, ifs, 0⟩] scope pos) none Q) No s₁) No s)
    (hs : ∀ x, foldedSetIterable iter env x = pure x := by intro _; rfl) : wpAny (model prog w) A (eval (.ListComp elt [⟨target, iter, ifs, 0⟩] scope pos) env) Q No s := by
  rw [eval_ListComp]
  exact wpAny_comprehension_free (use := none) rfl hs hclos hkind hnames h
theorem AssignComp_b {y : Str} {py spos : Pos} {Q : Flow → Shared → Prop} (hsw : swapsWith (.ListComp elt [⟨target, iter, ifs, 0⟩] scope pos) (some (.Name y py)) spos.line env = pure true) (hclos : closureFor scope env = pure cl) (hkind : scope.kind = .function) (hnames : ∀ y ∈ scope.names, y.2 = .local → scope.names.lookup y.1 = some .local)
    (h : wpAny (model prog w) A (eval iter env) (fun xv s₁ => wpAny (model prog w) A (pyIter xv) (CompBlock prog w A env scope cl (.ListComp elt [⟨target, iter, ifs, 0⟩] scope pos) (some (assign (.Name y py) env)) (fun _ s' => Q .next s')) No s₁) No s)
    (hs : ∀ x, foldedSetIterable iter env x = pure x := by intro _; rfl) : wpAny (model prog w) A (exec (.Assign [.Name y py] (.ListComp elt [⟨target, iter, ifs, 0⟩] scope pos) spos) env) Q No s := by
  rw [exec_Assign_Name_used _ _ _ _ hsw]
  refine wpAny_bind (wpAny_standAt (wpAny_bind ?_))
  show wpAny _ A (do let _ ← comprehension (.ListComp elt [⟨target, iter, ifs, 0⟩] scope pos) scope env _ (newList []) false (eval iter env) (some (assign (.Name y py) env))) _ _ s
  exact wpAny_bind (wpAny_mono (wpAny_comprehension_free (use := some (assign (.Name y py) env)) (Q := fun _ s' => Q .next s') rfl hs hclos hkind hnames h) (fun _ s' hq => wpAny_pure (wpAny_pure hq)) fun _ _ e => e)
end

noncomputable def CompDone (g : Heap) (L : Addr) (m : Str → Option Value) (nx₀ : List (Addr × Obj)) (J : List Value → List (Addr × Obj) → Prop) (use : Option (Value → Sem Unit)) (prog : Program) (w : World) (A : Around) (s : Shared) (Q : Value → Shared → Prop) : Prop :=
  ∀ C D h tk oC mC ys nx, Fr g L h m → News g L h ((C, oC) :: (D, lst ys) :: (nx ++ nx₀)) → LCg.NsObj oC mC → (∀ p ∈ (D, lst ys) :: (nx ++ nx₀), p.1 ≠ C) → (∀ p ∈ nx ++ nx₀, p.1 ≠ D) → (∀ p ∈ nx, ∀ q ∈ nx₀, p.1 ≠ q.1) → J ys nx →
    compPost (model prog w) A No use Q (.ref D) C (.ok .next) { s with heap := h, toks := tk }

section
variable {prog : Program} {w : World} {A : Around} {env : Env} {s : Shared} {g : Heap} {L : Addr} {m : Str → Option Value} {nx₀ : List (Addr × Obj)} {J : List Value → List (Addr × Obj) → Prop}
theorem done_value {Q : Value → Shared → Prop} (h : ∀ D h tk ys nx, Fr g L h m → News g L h ((D, lst ys) :: (nx ++ nx₀)) → (∀ p ∈ nx ++ nx₀, p.1 ≠ D) → (∀ p ∈ nx, ∀ q ∈ nx₀, p.1 ≠ q.1) → J ys nx → Q (.ref D) { s with heap := h, toks := tk }) :
    CompDone g L m nx₀ J none prog w A s Q := by
  intro C D h' tk oC mC ys nx F N hC offC offD ap hJ
  refine ⟨mC, hC.ns (N _ (.head _)).1, fun h'' hs => ?_⟩
  obtain ⟨F', N'⟩ := gone1 F N offC (keeps_same hs)
  exact h D h'' tk ys nx F' N' offD ap hJ
theorem done_local {cn : Str} {cs : Scope} {a : Addr} {ccd : Value} {cc : List (Str × Addr)} {y : Str} {py : Pos} {Q : Shared → Prop}
    (h : ∀ D h tk ys nx, Fr g L h (mput m y (.ref D)) → News g L h ((D, lst ys) :: (nx ++ nx₀)) → (∀ p ∈ nx ++ nx₀, p.1 ≠ D) → (∀ p ∈ nx, ∀ q ∈ nx₀, p.1 ≠ q.1) → J ys nx → Q { s with heap := h, toks := tk })
    (hk : cs.kind = .function := by rfl) (hl : (envX cn cs L a ccd cc).kindOf y = some .local := by rfl) :
    CompDone g L m nx₀ J (some (assign (.Name y py) (envX cn cs L a ccd cc))) prog w A s (fun _ => Q) := by
  intro C D h' tk oC mC ys nx F N hC offC offD ap hJ
  show wpAny _ A (assign (.Name y py) (envX cn cs L a ccd cc) (.ref D)) _ _ _
  refine wpAny_assign_Name (stM F N (fun h2 tk2 F2 N2 => ?_) hk hl)
  refine ⟨mC, hC.ns (N2 _ (.head _)).1, fun h'' hs => ?_⟩
  obtain ⟨F', N'⟩ := gone1 F2 N2 offC (keeps_same hs)
  exact h D h'' _ ys nx F' N' offD ap hJ
theorem done_cell {cn : Str} {cs : Scope} {a : Addr} {ccd : Value} {cc : List (Str × Addr)} {y : Str} {py : Pos} {Q : Shared → Prop} {c : Addr} {o : Obj} {v₀ : Option Value}
    (hcc : cc.lookup y = some c) (hd : o.data = .cell v₀) (hne : ∀ p ∈ nx₀, p.1 ≠ c)
    (h : ∀ D h tk ys nx o', Fr g L h m → News g L h ((c, o') :: (D, lst ys) :: (nx ++ nx₀)) → o'.data = .cell (some (.ref D)) → (∀ p ∈ (D, lst ys) :: (nx ++ nx₀), p.1 ≠ c) → (∀ p ∈ nx ++ nx₀, p.1 ≠ D) → (∀ p ∈ nx, ∀ q ∈ nx₀, p.1 ≠ q.1) → J ys nx → Q { s with heap := h, toks := tk })
    (hk : cs.kind = .function := by rfl) (hl : (envX cn cs L a ccd cc).kindOf y = some .cell := by rfl) :
    CompDone g L m ((c, o) :: nx₀) J (some (assign (.Name y py) (envX cn cs L a ccd cc))) prog w A s (fun _ => Q) := by
  intro C D h' tk oC mC ys nx F N hC offC offD ap hJ
  have hDc : D ≠ c := fun e => (offD (c, o) (List.mem_append_right _ (.head _))) e.symm
  have offc : ∀ p ∈ (D, lst ys) :: (nx ++ nx₀), p.1 ≠ c := fun p hp => by
    rcases List.mem_cons.mp hp with rfl | hp
    · exact hDc
    · rcases List.mem_append.mp hp with hp | hp
      · exact ap p hp (c, o) (.head _)
      · exact hne p hp
  have hCc : C ≠ c := fun e => offC (c, o) (.tail _ (List.mem_append_right _ (.head _))) e.symm
  have N1 : News g L h' ((c, o) :: (C, oC) :: (D, lst ys) :: (nx ++ nx₀)) := fun p hp => by
    rcases List.mem_cons.mp hp with rfl | hp
    · exact N _ (.tail _ (.tail _ (List.mem_append_right _ (.head _))))
    rcases List.mem_cons.mp hp with rfl | hp
    · exact N _ (.head _)
    rcases List.mem_cons.mp hp with rfl | hp
    · exact N _ (.tail _ (.head _))
    rcases List.mem_append.mp hp with hp | hp
    · exact N _ (.tail _ (.tail _ (List.mem_append_left _ hp)))
    · exact N _ (.tail _ (.tail _ (List.mem_append_right _ (.tail _ hp))))
  show wpAny _ A (assign (.Name y py) (envX cn cs L a ccd cc) (.ref D)) _ _ _
  refine wpAny_assign_Name (stC F N1 (fun p hp => ?_) hcc hd (fun h2 o2 F2 N2 hd2 => ?_) hk hl)
  · rcases List.mem_cons.mp hp with rfl | hp
    · exact hCc
    · exact offc p hp
  refine ⟨mC, hC.ns (N2 _ (.tail _ (.head _))).1, fun h'' hs => ?_⟩
  have N3 : News g L h2 ((C, oC) :: (c, o2) :: (D, lst ys) :: (nx ++ nx₀)) := fun p hp => by
    rcases List.mem_cons.mp hp with rfl | hp
    · exact N2 _ (.tail _ (.head _))
    rcases List.mem_cons.mp hp with rfl | hp
    · exact N2 _ (.head _)
    · exact N2 _ (.tail _ (.tail _ hp))
  obtain ⟨F', N'⟩ := gone1 F2 N3 (fun p hp => by
    rcases List.mem_cons.mp hp with rfl | hp
    · exact Ne.symm hCc
    · refine offC p ?_
      rcases List.mem_cons.mp hp with rfl | hp
      · exact .head _
      rcases List.mem_append.mp hp with hp | hp
      · exact .tail _ (List.mem_append_left _ hp)
      · exact .tail _ (List.mem_append_right _ (.tail _ hp))) (keeps_same hs)
  exact h D h'' _ ys nx o2 F' N' hd2 offc (fun p hp => offD p (by
      rcases List.mem_append.mp hp with hp | hp
      · exact List.mem_append_left _ hp
      · exact List.mem_append_right _ (.tail _ hp))) (fun p hp q hq => ap p hp q (.tail _ hq)) hJ
end

section
variable {prog : Program} {w : World} {A : Around} {env : Env} {s : Shared} {g₀ : Heap} {L : Addr} {m₀ : Str → Option Value} {nx₀ : List (Addr × Obj)} {elt iter : Expr} {ifs : List Expr} {scope : Scope} {cl : List (Str × Addr)} {pos : Pos}
inductive CompEnd (st : Heap → Tok → Shared) (g : Heap) (C D I : Addr) (oI : Obj) (ys : List Value) (J : List (Addr × Obj) → Prop) (s' : Shared) : Prop
  | mk (h' : Heap) (tk' : Tok) (m' : Str → Option Value) (nx' : List (Addr × Obj)) : s' = st h' tk' → Fr g C h' m' → News g C h' ((D, lst ys) :: (I, oI) :: nx') → (∀ p ∈ nx', p.1 ≠ I ∧ p.1 ≠ D) → J nx' → CompEnd st g C D I oI ys J s'
theorem comp_walk {x : Str} {px : Pos} {use : Option (Value → Sem Unit)} {I : Addr} {oI : Obj} {fp : List Addr} {n : Nat} {P : Nat → Value → Prop} {St : Nat → Heap → Prop} {Q : Value → Shared → Prop}
    (J : Nat → List Value → List (Addr × Obj) → Prop) (W : Walks prog w A I fp [I] n P St) (hIo : ∀ i h, St i h → ∃ o, h.get? I = some o)
    (F : Fr g₀ L s.heap m₀) (N : News g₀ L s.heap ((I, oI) :: nx₀)) (hI : ∀ p ∈ nx₀, p.1 ≠ I) (hst : St 0 s.heap) (hfp : ∀ b ∈ fp, ∃ o, s.heap.get? b = some o) (hn : n < 2 ^ 20)
    (h0 : J 0 [] [])
    (turn : ∀ g C D oI' i ys m nx h tk v, (∀ b o, g₀.get? b = some o → g.get? b = some o) → (∀ p ∈ nx₀, g.get? p.1 = some p.2) → i < n → P i v → J i ys nx → Fr g C h (mput m x v) → News g C h ((D, lst ys) :: (I, oI') :: nx) → (∀ p ∈ nx, p.1 ≠ I ∧ p.1 ≠ D) → I ≠ D →
      wpAny (model prog w) A (testsOf ifs (compEnvC scope cl C env)) (fun ok s₄ => if ok = true then wpAny (model prog w) A (eval elt (compEnvC scope cl C env)) (fun y s' => CompEnd (fun h tk => { s with heap := h, toks := tk }) g C D I oI' ys (J (i + 1) (ys ++ [y])) s') No s₄
        else CompEnd (fun h tk => { s with heap := h, toks := tk }) g C D I oI' ys (J (i + 1) ys) s₄) No { s with heap := h, toks := tk })
    (done : CompDone g₀ L m₀ nx₀ (J n) use prog w A s Q)
    (hcell : ∀ y ∈ scope.names, y.2 ≠ .cell := by decide) (hkind : scope.kind = .function := by rfl) (hx : scope.names.lookup x = some .local := by rfl) :
    CompBlock prog w A env scope cl (.ListComp elt [⟨.Name x px, iter, ifs, 0⟩] scope pos) use Q (.ref I) s := by
  have hIn := N (I, oI) (.head _)
  refine comp_rule (foot := [(I, oI)]) (fun i ys m nx => ∃ oI' nx', nx = (I, oI') :: nx' ∧ (∀ p ∈ nx', p.1 ≠ I) ∧ J i ys nx' ∧ ∀ h, h.get? I = some oI' → (∀ b o, s.heap.get? b = some o → b ≠ I → h.get? b = some o) → St i h)
    (fun ys nx => (∀ p ∈ nx, p.1 ≠ I) ∧ J n ys nx) hcell hkind hn (by simpa using hIn.1) (fun s' Q' hk hQ => W.self 0 s' Q' _ (W.frame _ _ _ hst fun b hb o e => hk b o e) hQ)
    ⟨oI, [], rfl, (by simp), h0, fun h e hk => W.frame _ _ _ hst fun b hb o eb => by
      by_cases hbI : b = I
      · subst hbI; rw [hIn.1] at eb; cases eb; exact e
      · exact hk b o eb hbI⟩ ?_ ?_ ?_
  · rintro g C D i ys m nx h tk hg hi ⟨oI', nx', rfl, hnI, hJ, hSt⟩ F1 N1 off1
    have hgs : ∀ b o, s.heap.get? b = some o → b ≠ I → g.get? b = some o := fun b o e hb => hg b o e (by simpa using hb)
    have st1 : St i h := hSt h (N1 _ (.tail _ (.head _))).1 fun b o e hb => F1.keep b o (hgs b o e hb)
    refine W.item i _ _ _ hi st1 fun v h2 tk2 hP st2 hk2 => ⟨v, rfl, ?_⟩
    refine wpAny_pure (a := ()) ?_
    obtain ⟨oI2, hoI2⟩ := hIo _ _ st2
    have K2 : Keeps [I] h h2 := fun b o e hb => hk2 b o hb e
    have hID : I ≠ D := off1 (I, oI') (.head _)
    have N1' : News g C h ((I, oI') :: (D, lst ys) :: nx') := fun p hp => by
      rcases List.mem_cons.mp hp with rfl | hp
      · exact N1 _ (.tail _ (.head _))
      rcases List.mem_cons.mp hp with rfl | hp
      · exact N1 _ (.head _)
      · exact N1 _ (.tail _ (.tail _ hp))
    obtain ⟨F2, N2⟩ := after1 F1 N1' (fun p hp => by
      rcases List.mem_cons.mp hp with rfl | hp
      · exact Ne.symm hID
      · exact hnI p hp) K2 hoI2
    have N2' : News g C h2 ((D, lst ys) :: (I, oI2) :: nx') := fun p hp => by
      rcases List.mem_cons.mp hp with rfl | hp
      · exact N2 _ (.tail _ (.head _))
      rcases List.mem_cons.mp hp with rfl | hp
      · exact N2 _ (.head _)
      · exact N2 _ (.tail _ (.tail _ hp))
    refine wpAny_assign_Name (stQ F2 N2' (fun h3 tk3 F3 N3 => ?_) hkind hx)
    have nextSt : ∀ h, h.get? I = some oI2 → (∀ b o, s.heap.get? b = some o → b ≠ I → h.get? b = some o) → St (i + 1) h := fun h' e hk => W.frame _ _ _ st2 fun b hb o eb => by
      by_cases hbI : b = I
      · subst hbI; rw [hoI2] at eb; cases eb; exact e
      · obtain ⟨o', ho'⟩ := hfp b hb
        have : h2.get? b = some o' := F2.keep _ _ (hgs b o' ho' hbI)
        rw [this] at eb; cases eb
        exact hk b _ ho' hbI
    refine wpAny_mono (turn g C D oI2 i ys m nx' h3 tk3 v (fun b o e => hgs b o (F.keep b o e) fun q => by have := hIn.2.2; rw [← q, e] at this; cases this) (fun p hp => hgs _ _ (N p (.tail _ hp)).1 (hI p hp)) hi hP hJ F3 N3
      (fun p hp => ⟨hnI p hp, off1 p (.tail _ hp)⟩) hID) (fun ok s4 h4 => ?_) fun _ _ e => e
    cases ok with
    | true =>
      simp only [if_true] at h4 ⊢
      refine wpAny_mono h4 (fun y s5 h5 => ?_) fun _ _ e => e
      obtain ⟨h', tk', m', nx'', rfl, F', N', off', J'⟩ := h5
      exact ⟨h', tk', m', _, rfl, F', N', fun p hp => by
        rcases List.mem_cons.mp hp with rfl | hp
        · exact hID
        · exact (off' p hp).2, _, _, rfl, fun p hp => (off' p hp).1, J', nextSt⟩
    | false =>
      obtain ⟨h', tk', m', nx'', rfl, F', N', off', J'⟩ := h4
      exact ⟨h', tk', m', _, rfl, F', N', fun p hp => by
        rcases List.mem_cons.mp hp with rfl | hp
        · exact hID
        · exact (off' p hp).2, _, _, rfl, fun p hp => (off' p hp).1, J', nextSt⟩
  · rintro g C D ys m nx h tk hg ⟨oI', nx', rfl, hnI, hJ, hSt⟩ F1 N1 off1
    refine W.done _ _ _ (hSt h (N1 _ (.tail _ (.head _))).1 fun b o e hb => F1.keep b o (hg b o e (by simpa using hb))) fun h2 tk2 hk2 => ⟨rfl, ?_⟩
    have N1' : News g C h ((I, oI') :: (D, lst ys) :: nx') := fun p hp => by
      rcases List.mem_cons.mp hp with rfl | hp
      · exact N1 _ (.tail _ (.head _))
      rcases List.mem_cons.mp hp with rfl | hp
      · exact N1 _ (.head _)
      · exact N1 _ (.tail _ (.tail _ hp))
    obtain ⟨F2, N2⟩ := gone1 F1 N1' (fun p hp => by
      rcases List.mem_cons.mp hp with rfl | hp
      · exact Ne.symm (off1 (I, oI') (.head _))
      · exact hnI p hp) (fun b o e hb => hk2 b o hb e)
    exact ⟨h2, tk2, m, nx', rfl, F2, N2, fun p hp => off1 p (.tail _ hp), hnI, hJ⟩
  · intro C D h tk mC ys nx hK hC hD hCD hns hDl hnx hJ
    obtain ⟨oC, hoC, hNs⟩ := LCg.ns_obj hns
    replace hK : Keeps [I] s.heap h := by simpa using hK
    have hnx' : ∀ p ∈ nx, s.heap.get? p.1 = none := fun p hp => ((hnx p hp).2.2.2).resolve_right (by simpa using hJ.1 p hp)
    refine done C D h tk oC mC ys nx (fr_after F N (by simp) hK) (news_after F N hK fun p hp => ?_) hNs (fun p hp => ?_) (fun p hp => ?_) (fun p hp q hq e => ?_) hJ.2
    · rcases List.mem_cons.mp hp with rfl | hp
      · exact .inr ⟨hoC, .inr hC⟩
      rcases List.mem_cons.mp hp with rfl | hp
      · exact .inr ⟨hDl, .inr hD⟩
      rcases List.mem_append.mp hp with hp | hp
      · exact .inr ⟨(hnx p hp).1, .inr (hnx' p hp)⟩
      · exact .inl ⟨.tail _ hp, by simpa using hI p hp⟩
    · rcases List.mem_cons.mp hp with rfl | hp
      · exact Ne.symm hCD
      rcases List.mem_append.mp hp with hp | hp
      · exact (hnx p hp).2.1
      · intro e; have := (N p (.tail _ hp)).1; rw [e, hC] at this; cases this
    · rcases List.mem_append.mp hp with hp | hp
      · exact (hnx p hp).2.2.1
      · intro e; have := (N p (.tail _ hp)).1; rw [e, hD] at this; cases this
    · have := (N q (.tail _ hq)).1; rw [← e, hnx' p hp] at this; cases this
end

theorem bit31 (c : Nat) : Builtin.bitAnd (c : Int) 31 = ((c % 32 : Nat) : Int) := by
  rw [bitAnd_pp (by with_reducible exact Int.natCast_nonneg _) (by decide)]
  have : (c : Int).toNat &&& (31 : Int).toNat = c % 32 := by
    show c &&& 31 = c % 32
    exact Nat.and_two_pow_sub_one_eq_mod c 5
  rw [this]
theorem chr_nat {prog : Program} {w : World} {A : Around} {E : Value → Shared → Prop} {s : Shared} {c : Nat} {t : Tok} {Q : Value → Shared → Prop} (hc : c < 1000) (h : Q (.str ⟨#[c]⟩ s.toks) { s with toks := s.toks + 1 }) :
    wpAny (model prog w) A (call (.builtin "chr") [.int (c : Int) t]) Q E s := by
  refine PySem.P.chr_of_int (by rw [Bool.or_eq_false_iff]; exact ⟨decide_eq_false (by lia), decide_eq_false (by lia)⟩) ?_
  exact h

theorem chr_is {prog : Program} {w : World} {A : Around} {E : Value → Shared → Prop} {s : Shared} {i : Int} {c : Nat} {t : Tok} {Q : Value → Shared → Prop} (hi : i = (c : Int)) (hc : c < 1000) (h : Q (.str ⟨#[c]⟩ s.toks) { s with toks := s.toks + 1 }) :
    wpAny (model prog w) A (call (.builtin "chr") [.int i t]) Q E s := by subst hi; exact chr_nat hc h

theorem ctoi_call {prog : Program} {w : World} {A : Around} {s : Shared} {R : Result → Shared → Prop} {c : Nat} {t : Tok}
    (O : Ok w [] s.heap) (rm : Room A 2) (post : ∀ h' tk t', Keeps [] s.heap h' → R (.ok (.ret (.int c t'))) { s with heap := h', toks := tk }) :
    codeAny (model prog w) A (.call (.ref 96) ⟨[.str ⟨#[c]⟩ t], []⟩) R s := by
  refine enter (foot := []) (binds := [("c", .str ⟨#[c]⟩ t)]) O (by simp) (by k_is) (by k_is) rm (BindsTo.of_eq rfl) (locs rfl) ?_
  intro g L h₁ B hg F N
  have m1 : (fun y => List.lookup y ([("c", Value.str ⟨#[c]⟩ t)] : List (Str × Value)).reverse) "c" = some (.str ⟨#[c]⟩ t) := rfl
  generalize (fun y => List.lookup y ([("c", Value.str ⟨#[c]⟩ t)] : List (Str × Value)).reverse) = m at F m1
  with_reducible refine wpAny_execs_cons ?_
  refine wpAny_If ?_
  refine isTrue_plain ?_
  refine Call_ ?_
  (refine' nmB ?kF ?kB ?ke ?kv ?kn ?_; (case kF => assumption); (case kB => assumption); (case ke => k_is); (case kv => boot_by_name); (case kn => decide))
  refine PyProof.Rows.callWith_builtin1 ?_
  refine args_cons ?_
  (refine' ldM ?kF ?kv ?_; (case kF => assumption); (case kv => assumption))
  refine args_cons ?_
  (refine' nmB ?kF ?kB ?ke ?kv ?kn ?_; (case kF => assumption); (case kB => assumption); (case ke => k_is); (case kv => boot_by_name); (case kn => decide))
  refine args_nil ?_
  with_reducible refine IsiPair.str_str ?_
  with_reducible refine wpAny_truthy_bool ?_
  with_reducible refine if_tt ?_
  with_reducible refine wpAny_execs_cons ?_
  with_reducible refine wpAny_Return_some ?_
  refine Call_ ?_
  (refine' nmB ?kF ?kB ?ke ?kv ?kn ?_; (case kF => assumption); (case kB => assumption); (case ke => k_is); (case kv => boot_by_name); (case kn => decide))
  refine PyProof.Rows.callWith_builtin1 ?_
  refine args_cons ?_
  (refine' ldM ?kF ?kv ?_; (case kF => assumption); (case kv => assumption))
  refine args_nil ?_
  with_reducible refine PySem.P.ord_of_char ?_
  exact post _ _ _ fun b o e nb => F.keep b o (hg b o e (by simp))

theorem ctrl_call {prog : Program} {w : World} {A : Around} {s : Shared} {R : Result → Shared → Prop} {c : Nat} {t : Tok}
    (O : Ok w [] s.heap) (rm : Room A 4) (post : ∀ h' tk t', Keeps [] s.heap h' → R (.ok (.ret (.str ⟨#[c % 32]⟩ t'))) { s with heap := h', toks := tk }) :
    codeAny (model prog w) A (.call (.ref 103) ⟨[.str ⟨#[c]⟩ t], []⟩) R s := by
  refine enter (foot := []) (binds := [("c", .str ⟨#[c]⟩ t)]) O (by simp) (by k_is) (by k_is) rm (BindsTo.of_eq rfl) (locs rfl) ?_
  intro g L h₁ B hg F N
  have m1 : (fun y => List.lookup y ([("c", Value.str ⟨#[c]⟩ t)] : List (Str × Value)).reverse) "c" = some (.str ⟨#[c]⟩ t) := rfl
  generalize (fun y => List.lookup y ([("c", Value.str ⟨#[c]⟩ t)] : List (Str × Value)).reverse) = m at F m1
  with_reducible refine wpAny_execs_cons ?_
  refine wpAny_If ?_
  refine isTrue_plain ?_
  refine Call_ ?_
  (refine' nmB ?kF ?kB ?ke ?kv ?kn ?_; (case kF => assumption); (case kB => assumption); (case ke => k_is); (case kv => boot_by_name); (case kn => decide))
  refine PyProof.Rows.callWith_builtin1 ?_
  refine args_cons ?_
  (refine' ldM ?kF ?kv ?_; (case kF => assumption); (case kv => assumption))
  refine args_cons ?_
  (refine' nmB ?kF ?kB ?ke ?kv ?kn ?_; (case kF => assumption); (case kB => assumption); (case ke => k_is); (case kv => boot_by_name); (case kn => decide))
  refine args_nil ?_
  with_reducible refine IsiPair.str_str ?_
  with_reducible refine wpAny_truthy_bool ?_
  with_reducible refine if_tt ?_
  with_reducible refine wpAny_execs_cons ?_
  with_reducible refine wpAny_Return_some ?_
  refine Call_ ?_
  (refine' nmB ?kF ?kB ?ke ?kv ?kn ?_; (case kF => assumption); (case kB => assumption); (case ke => k_is); (case kv => boot_by_name); (case kn => decide))
  refine PyProof.Rows.callWith_builtin1 ?_
  refine args_cons ?_
  with_reducible refine wpAny_BinOp ?_
  refine Call_ ?_
  (refine' nmK ?kF ?kB ?ke ?_; (case kF => assumption); (case kB => assumption); (case ke => k_is))
  (refine' callWith_K (Base.X (by assumption)) ?ke ?_; (case ke => k_is))
  refine args_cons ?_
  (refine' ldM ?kF ?kv ?_; (case kF => assumption); (case kv => assumption))
  refine args_nil ?_
  (refine ⟨in_of (by assumption) (by assumption), ?_⟩; try dsimp only [List.nil_append, List.cons_append])
  try dsimp only
  refine wpAny_call (ctoi_call (ok_of (foot := []) B F N (fun _ q => nomatch q)) (Room.deeper (k := 2) (rm.less (by lia))) ?_)
  intro h2 tk2 t2 k2
  have F2 := fr_after (foot := []) F N (fun _ q => nomatch q) k2
  have N2 : News g L h2 [] := fun _ x => nomatch x
  with_reducible refine wpAny_Constant_int ?_
  with_reducible refine PyProof.Rows.and_int ?_
  refine args_nil ?_
  rw [bit31]
  refine chr_nat (by lia) ?_
  skip
  exact post _ _ _ fun b o e nb => F2.keep b o (hg b o e (by simp))

noncomputable def half (v : Int) : Int := v.fdiv 2
noncomputable def sgn (v : Int) : Nat := if v.fmod 2 = 1 then ((half v).fmod 512).toNat else ((half v).fmod 3 + ((half v).fdiv 3).fmod 8 * 32).toNat
theorem fmod_bounds (a : Int) {b : Int} (hb : 0 < b) : 0 ≤ a.fmod b ∧ a.fmod b < b := ⟨Int.fmod_nonneg_of_pos a hb, Int.fmod_lt_of_pos a hb⟩
theorem sgn_lt (v : Int) : sgn v < 512 := by
  have h1 := fmod_bounds (half v) (b := 512) (by decide)
  have h2 := fmod_bounds (half v) (b := 3) (by decide)
  have h3 := fmod_bounds ((half v).fdiv 3) (b := 8) (by decide)
  unfold sgn; split <;> lia

theorem sign_call {prog : Program} {w : World} {A : Around} {s : Shared} {R : Result → Shared → Prop} {v : Int} {t : Tok}
    (O : Ok w [] s.heap) (rm : Room A 4) (post : ∀ h' tk t', Keeps [] s.heap h' → R (.ok (.ret (.str ⟨#[sgn v]⟩ t'))) { s with heap := h', toks := tk }) :
    codeAny (model prog w) A (.call (.ref 110) ⟨[.int v t], []⟩) R s := by
  refine enter (foot := []) (binds := [("number", .int v t)]) O (by simp) (by k_is) (by k_is) rm (BindsTo.of_eq rfl) (locs rfl) ?_
  intro g L h₁ B hg F N
  have m1 : (fun y => List.lookup y ([("number", Value.int v t)] : List (Str × Value)).reverse) "number" = some (.int v t) := rfl
  generalize (fun y => List.lookup y ([("number", Value.int v t)] : List (Str × Value)).reverse) = m at F m1
  have h1 := fmod_bounds (half v) (b := 512) (by decide)
  have h2 := fmod_bounds (half v) (b := 3) (by decide)
  have h3 := fmod_bounds ((half v).fdiv 3) (b := 8) (by decide)
  with_reducible refine wpAny_execs_cons ?_
  refine wpAny_Assign_Name ?_
  with_reducible refine wpAny_BinOp ?_
  (refine' ldM ?kF ?kv ?_; (case kF => assumption); (case kv => assumption))
  with_reducible refine wpAny_Constant_int ?_
  refine floordiv_int (by decide) ?_ (Or.inl (PyProof.noPylong_small (by decide)))
  rw [show v.fdiv 2 = half v from rfl]
  (refine' stM ?kF ?kN ?_; (case kF => assumption); (case kN => assumption); intro _ _ _ _)
  with_reducible refine wpAny_execs_cons ?_
  with_reducible refine wpAny_Return_some ?_
  refine Call_ ?_
  (refine' nmB ?kF ?kB ?ke ?kv ?kn ?_; (case kF => assumption); (case kB => assumption); (case ke => k_is); (case kv => boot_by_name); (case kn => decide))
  refine PyProof.Rows.callWith_builtin1 ?_
  refine args_cons ?_
  with_reducible refine wpAny_IfExp ?_
  refine wpAny_isTrue_Compare1 ?_
  with_reducible refine wpAny_BinOp ?_
  (refine' ldM ?kF ?kv ?_; (case kF => assumption); (case kv => assumption))
  with_reducible refine wpAny_Constant_int ?_
  with_reducible refine PyProof.Rows.mod_int' (by decide) ?_
  with_reducible refine wpAny_Constant_int ?_
  with_reducible refine PyProof.Rows.eq_int ?_
  with_reducible refine wpAny_truthy_bool ?_
  by_cases hc : v.fmod 2 = 1
  · rw [show (v.fmod 2 == 1) = true by simpa using hc]
    with_reducible refine if_tt ?_
    with_reducible refine wpAny_BinOp ?_
    (refine' ldM ?kF ?kv ?_; (case kF => assumption); (case kv => exact mput_same))
    with_reducible refine wpAny_Constant_int ?_
    with_reducible refine PyProof.Rows.mod_int' (by decide) ?_
    refine args_nil ?_
    refine chr_is (c := sgn v) (by unfold sgn; rw [if_pos hc]; lia) (by have := sgn_lt v; lia) ?_
    skip
    exact post _ _ _ fun b o e nb => Fr.keep (by assumption) b o (hg b o e (by simp))
  · rw [show (v.fmod 2 == 1) = false by simpa using hc]
    with_reducible refine if_ff ?_
    with_reducible refine wpAny_BinOp ?_
    with_reducible refine wpAny_BinOp ?_
    (refine' ldM ?kF ?kv ?_; (case kF => assumption); (case kv => exact mput_same))
    with_reducible refine wpAny_Constant_int ?_
    with_reducible refine PyProof.Rows.mod_int' (by decide) ?_
    with_reducible refine wpAny_BinOp ?_
    with_reducible refine wpAny_BinOp ?_
    with_reducible refine wpAny_BinOp ?_
    (refine' ldM ?kF ?kv ?_; (case kF => assumption); (case kv => exact mput_same))
    with_reducible refine wpAny_Constant_int ?_
    refine floordiv_int (by decide) ?_ (Or.inl (PyProof.noPylong_small (by decide)))
    with_reducible refine wpAny_Constant_int ?_
    with_reducible refine PyProof.Rows.mod_int' (by decide) ?_
    with_reducible refine wpAny_Constant_int ?_
    refine mul_int ?_ ?_
    · with_reducible refine PyProof.Rows.add_int ?_
      refine args_nil ?_
      refine chr_is (c := sgn v) (by unfold sgn; rw [if_neg hc]; lia) (by have := sgn_lt v; lia) ?_
      skip
      exact post _ _ _ fun b o e nb => Fr.keep (by assumption) b o (hg b o e (by simp))
    · exact IntMulOk.of_right (by decide) 

theorem low_call {prog : Program} {w : World} {A : Around} {s : Shared} {R : Result → Shared → Prop} {c : Nat} {t : Tok}
    (O : Ok w [] s.heap) (rm : Room A 6) (post : ∀ h' tk t', Keeps [] s.heap h' → R (.ok (.ret (.int ((c % 32 + 1 : Nat) : Int) t'))) { s with heap := h', toks := tk }) :
    codeAny (model prog w) A (.call (.ref 117) ⟨[.str ⟨#[c]⟩ t], []⟩) R s := by
  refine enter (foot := []) (binds := [("sign", .str ⟨#[c]⟩ t)]) O (by simp) (by k_is) (by k_is) rm (BindsTo.of_eq rfl) (locs rfl) ?_
  intro g L h₁ B hg F N
  have m1 : (fun y => List.lookup y ([("sign", Value.str ⟨#[c]⟩ t)] : List (Str × Value)).reverse) "sign" = some (.str ⟨#[c]⟩ t) := rfl
  generalize (fun y => List.lookup y ([("sign", Value.str ⟨#[c]⟩ t)] : List (Str × Value)).reverse) = m at F m1
  with_reducible refine wpAny_execs_cons ?_
  with_reducible refine wpAny_Return_some ?_
  with_reducible refine wpAny_IfExp ?_
  refine wpAny_isTrue_Compare1 ?_
  (refine' ldM ?kF ?kv ?_; (case kF => assumption); (case kv => assumption))
  refine Calls.Constant_str ?_
  with_reducible refine PyProof.Rows.ne_str ?_
  with_reducible refine wpAny_truthy_bool ?_
  rw [show ((⟨#[c]⟩ : Str) != Str.ofString "") = true by rfl]
  with_reducible refine if_tt ?_
  with_reducible refine wpAny_BinOp ?_
  refine Call_ ?_
  (refine' nmB ?kF ?kB ?ke ?kv ?kn ?_; (case kF => assumption); (case kB => assumption); (case ke => k_is); (case kv => boot_by_name); (case kn => decide))
  refine PyProof.Rows.callWith_builtin1 ?_
  refine args_cons ?_
  refine Call_ ?_
  (refine' nmK ?kF ?kB ?ke ?_; (case kF => assumption); (case kB => assumption); (case ke => k_is))
  (refine' callWith_K (Base.X (by assumption)) ?ke ?_; (case ke => k_is))
  refine args_cons ?_
  (refine' ldM ?kF ?kv ?_; (case kF => assumption); (case kv => assumption))
  refine args_nil ?_
  (refine ⟨in_of (by assumption) (by assumption), ?_⟩; try dsimp only [List.nil_append, List.cons_append])
  try dsimp only
  refine wpAny_call (ctrl_call (ok_of (foot := []) B F N (fun _ q => nomatch q)) (Room.deeper (k := 4) (rm.less (by lia))) ?_)
  intro h2 tk2 t2 k2
  have F2 := fr_after (foot := []) F N (fun _ q => nomatch q) k2
  have N2 : News g L h2 [] := fun _ x => nomatch x
  refine args_nil ?_
  with_reducible refine PySem.P.ord_of_char ?_
  with_reducible refine wpAny_Constant_int ?_
  with_reducible refine PyProof.Rows.add_int ?_
  exact post _ _ _ fun b o e nb => F2.keep b o (hg b o e (by simp))

theorem low_call_nil {prog : Program} {w : World} {A : Around} {s : Shared} {R : Result → Shared → Prop} {t : Tok}
    (O : Ok w [] s.heap) (rm : Room A 6) (post : ∀ h' tk t', Keeps [] s.heap h' → R (.ok (.ret (.int 0 t'))) { s with heap := h', toks := tk }) :
    codeAny (model prog w) A (.call (.ref 117) ⟨[.str "" t], []⟩) R s := by
  refine enter (foot := []) (binds := [("sign", .str "" t)]) O (by simp) (by k_is) (by k_is) rm (BindsTo.of_eq rfl) (locs rfl) ?_
  intro g L h₁ B hg F N
  have m1 : (fun y => List.lookup y ([("sign", Value.str "" t)] : List (Str × Value)).reverse) "sign" = some (.str "" t) := rfl
  generalize (fun y => List.lookup y ([("sign", Value.str "" t)] : List (Str × Value)).reverse) = m at F m1
  with_reducible refine wpAny_execs_cons ?_
  with_reducible refine wpAny_Return_some ?_
  with_reducible refine wpAny_IfExp ?_
  refine wpAny_isTrue_Compare1 ?_
  (refine' ldM ?kF ?kv ?_; (case kF => assumption); (case kv => assumption))
  refine Calls.Constant_str ?_
  with_reducible refine PyProof.Rows.ne_str ?_
  with_reducible refine wpAny_truthy_bool ?_
  rw [show ((Str.ofString "") != Str.ofString "") = false by rfl]
  with_reducible refine if_ff ?_
  with_reducible refine wpAny_Constant_int ?_
  exact post _ _ _ fun b o e nb => F.keep b o (hg b o e (by simp))

structure Wk (lt : Value → Value → Bool) : Prop where
  asym : ∀ {a b}, lt a b = true → lt b a = false
  trans : ∀ {a b c}, lt b a = false → lt c b = false → lt c a = false
theorem Wk.refl {lt : Value → Value → Bool} (W : Wk lt) (a : Value) : lt a a = false := by
  cases h : lt a a with
  | false => rfl
  | true => have := W.asym h; rw [h] at this; cases this
theorem Wk.flip {lt : Value → Value → Bool} (W : Wk lt) : Wk fun a b => lt b a := ⟨fun h => W.asym h, fun h1 h2 => W.trans h2 h1⟩

theorem getD_set {vs : List Value} {p i : Nat} {v d : Value} : (vs.set p v).getD i d = if i = p ∧ p < vs.length then v else vs.getD i d := by
  rw [List.getD_eq_getElem?_getD, List.getElem?_set, List.getD_eq_getElem?_getD]
  by_cases h : p = i
  · subst h
    by_cases h2 : p < vs.length
    · simp [h2]
    · simp [h2]
  · have h' : ¬ (i = p) := fun e => h e.symm
    simp [h, h']
theorem getD_set_self {vs : List Value} {p : Nat} {v d : Value} (h : p < vs.length) : (vs.set p v).getD p d = v := by rw [getD_set, if_pos ⟨rfl, h⟩]
theorem getD_set_ne {vs : List Value} {p i : Nat} {v d : Value} (h : i ≠ p) : (vs.set p v).getD i d = vs.getD i d := by rw [getD_set, if_neg fun x => h x.1]

theorem set_swap {vs : List Value} {p q : Nat} {x : Value} (hpq : p ≠ q) (hp : p < vs.length) (hq : q < vs.length) : ((vs.set p (vs.getD q .none)).set q x).Perm (vs.set p x) := by
  have h1 : p < (vs.set p x).toArray.size := by simpa using hp
  have h2 : q < (vs.set p x).toArray.size := by simpa using hq
  have := Array.swap_perm (xs := (vs.set p x).toArray) h1 h2
  have e : ((vs.set p x).toArray.swap p q h1 h2).toList = (vs.set p (vs.getD q .none)).set q x := by
    apply List.ext_getElem?
    intro i
    rw [Array.getElem?_toList, Array.getElem?_swap]
    rw [List.getElem?_set, List.getElem?_set]
    simp only [List.length_set, List.getElem?_toArray, List.getElem?_set]
    have e1 : (vs.set p x).toArray[p] = x := by simp
    have e2 : (vs.set p x).toArray[q] = vs[q] := by simp [hpq]
    rw [e1, e2]
    have e3 : vs.getD q .none = vs[q] := by rw [List.getD_eq_getElem?_getD, List.getElem?_eq_getElem hq]; rfl
    rw [e3]
    by_cases a : q = i
    · simp [a]; subst a; simp [hq]
    · by_cases b : p = i
      · subst b; simp [a, hp]
      · simp [a, b]
  rw [← e]
  exact this.toList

theorem sdL_perm {lt : Value → Value → Bool} {nw : Value} {start : Nat} (vs : List Value) (p : Nat) (hp : p < vs.length) : (sdL lt nw start vs p).Perm (vs.set p nw) := by
  fun_induction sdL lt nw start vs p with
  | case1 vs p h1 h2 ih => exact (ih (by simp only [List.length_set]; with_reducible exact ar1 (by assumption))).trans (set_swap (by with_reducible exact ar2n (by assumption)) hp (by with_reducible exact ar1 (by assumption)))
  | case2 vs p h1 h2 => exact List.Perm.refl _
  | case3 vs p h1 => exact List.Perm.refl _
theorem suL_perm {lt : Value → Value → Bool} {nw : Value} {start : Nat} (vs : List Value) (p : Nat) (hp : p < vs.length) : (suL lt nw start vs p).Perm (vs.set p nw) := by
  fun_induction suL lt nw start vs p with
  | case1 vs p h1 ih => exact (ih (by simp only [List.length_set]; exact kid_lt h1)).trans (set_swap (Nat.ne_of_lt kid_gt) hp (kid_lt h1))
  | case2 vs p h1 =>
    refine (sdL_perm _ _ (by simpa using hp)).trans ?_
    rw [List.set_set]

inductive Desc (s : Nat) : Nat → Prop
  | refl : Desc s s
  | step {p c : Nat} : Desc s p → (c - 1) / 2 = p → 1 ≤ c → Desc s c
theorem Desc.le {s p : Nat} (h : Desc s p) : s ≤ p := by
  induction h with
  | refl => exact Nat.le_refl _
  | step h e h1 ih => lia
theorem Desc.up {s p : Nat} (h : Desc s p) (hlt : s < p) : Desc s ((p - 1) / 2) := by
  cases h with
  | refl => lia
  | step h e h1 => rw [e]; exact h

noncomputable def HeapFrom (lt : Value → Value → Bool) (k : Nat) (vs : List Value) : Prop := ∀ i, 1 ≤ i → i < vs.length → k ≤ (i - 1) / 2 → lt (vs.getD i .none) (vs.getD ((i - 1) / 2) .none) = false
structure Hole (lt : Value → Value → Bool) (start : Nat) (vs : List Value) (p : Nat) : Prop where
  ord : ∀ i, 1 ≤ i → i < vs.length → start ≤ (i - 1) / 2 → i ≠ p → (i - 1) / 2 ≠ p → lt (vs.getD i .none) (vs.getD ((i - 1) / 2) .none) = false
  gp : start < p → ∀ i, 1 ≤ i → i < vs.length → (i - 1) / 2 = p → lt (vs.getD i .none) (vs.getD ((p - 1) / 2) .none) = false

theorem sdL_heap {lt : Value → Value → Bool} (W : Wk lt) {nw : Value} {start : Nat} (vs : List Value) (p : Nat) (hp : p < vs.length) (hD : Desc start p) (H : Hole lt start vs p)
    (hk : ∀ i, 1 ≤ i → i < vs.length → (i - 1) / 2 = p → lt (vs.getD i .none) nw = false) : HeapFrom lt start (sdL lt nw start vs p) := by
  have fin : ∀ (vs : List Value) (p : Nat), p < vs.length → Desc start p → Hole lt start vs p → (∀ i, 1 ≤ i → i < vs.length → (i - 1) / 2 = p → lt (vs.getD i .none) nw = false) →
      (start < p → lt nw (vs.getD ((p - 1) / 2) .none) = false) → HeapFrom lt start (vs.set p nw) := by
    intro vs p hp hD H hk hs i h1 h2 h3
    rw [List.length_set] at h2
    by_cases e1 : i = p
    · subst e1
      rw [getD_set_self hp, getD_set_ne (by with_reducible exact ar2o (by assumption))]
      exact hs (by lia)
    · by_cases e2 : (i - 1) / 2 = p
      · rw [getD_set_ne e1, e2, getD_set_self hp]
        exact hk i h1 h2 e2
      · rw [getD_set_ne e1, getD_set_ne e2]
        exact H.ord i h1 h2 h3 e1 e2
  fun_induction sdL lt nw start vs p with
  | case1 vs p h1 h2 ih =>
    have hq := hD.up h1
    refine ih (by simp only [List.length_set]; with_reducible exact ar1 (by assumption)) hq ⟨fun i a b c d e => ?_, fun hlt i a b c => ?_⟩ fun i a b c => ?_
    · rw [List.length_set] at b
      by_cases e2 : (i - 1) / 2 = p
      · rw [e2, getD_set_self hp, getD_set_ne (by lia)]
        exact H.gp h1 i a b e2
      · have e1 : i ≠ p := fun q => e (by rw [q])
        rw [getD_set_ne e1, getD_set_ne e2]
        exact H.ord i a b c e1 e2
    · rw [List.length_set] at b
      have hqq := hq.up hlt
      have l1 := hqq.le
      have base : lt (vs.getD ((p - 1) / 2) .none) (vs.getD (((p - 1) / 2 - 1) / 2) .none) = false := H.ord _ (by lia) (by with_reducible exact ar1 (by assumption)) l1 (by with_reducible exact ar2m (by assumption)) (by lia)
      rw [getD_set_ne (i := ((p - 1) / 2 - 1) / 2) (by lia)]
      by_cases e1 : i = p
      · subst e1; rw [getD_set_self hp]; exact base
      · rw [getD_set_ne e1]
        have := H.ord i a b (by lia) e1 (by with_reducible exact ar2p (by assumption) (by assumption))
        rw [c] at this
        exact W.trans base this
    · rw [List.length_set] at b
      by_cases e1 : i = p
      · subst e1; rw [getD_set_self hp]; exact W.asym h2
      · rw [getD_set_ne e1]
        have := H.ord i a b (by have := hq.le; lia) e1 (by with_reducible exact ar2p (by assumption) (by assumption))
        rw [c] at this
        exact W.trans (W.asym h2) this
  | case2 vs p h1 h2 => exact fin vs p hp hD H hk fun _ => by simpa using h2
  | case3 vs p h1 => exact fin vs p hp hD H hk fun x => absurd x h1

theorem suL_heap {lt : Value → Value → Bool} (W : Wk lt) {nw : Value} {start : Nat} (vs : List Value) (p : Nat) (hp : p < vs.length) (hD : Desc start p) (H : Hole lt start vs p) : HeapFrom lt start (suL lt nw start vs p) := by
  fun_induction suL lt nw start vs p with
  | case1 vs p h1 ih =>
    have hc := @kid_lt lt vs p h1
    have hpc : (kid lt vs p - 1) / 2 = p := by unfold kid; split <;> lia
    have hgt := @kid_gt lt vs p
    have low : ∀ i, 1 ≤ i → i < vs.length → (i - 1) / 2 = p → lt (vs.getD i .none) (vs.getD (kid lt vs p) .none) = false := by
      intro i a b c
      by_cases e : i = kid lt vs p
      · rw [e]; exact W.refl _
      · by_cases h2 : 2 * p + 2 < vs.length ∧ lt (vs.getD (2 * p + 1) .none) (vs.getD (2 * p + 2) .none) = false
        · have ek : kid lt vs p = 2 * p + 2 := if_pos h2
          rw [ek] at e ⊢
          have : i = 2 * p + 1 := by lia
          rw [this]; exact h2.2
        · have ek : kid lt vs p = 2 * p + 1 := if_neg h2
          rw [ek] at e ⊢
          have : i = 2 * p + 2 := by lia
          subst this
          have : lt (vs.getD (2 * p + 1) .none) (vs.getD (2 * p + 2) .none) = true := by
            cases q : lt (vs.getD (2 * p + 1) .none) (vs.getD (2 * p + 2) .none) with
            | true => rfl
            | false => exact absurd ⟨b, q⟩ h2
          exact W.asym this
    refine ih (by simp only [List.length_set]; exact hc) (hD.step hpc (by lia)) ⟨fun i a b c d e => ?_, fun hlt i a b c => ?_⟩
    · rw [List.length_set] at b
      by_cases e1 : i = p
      · subst e1
        rw [getD_set_self hp, getD_set_ne (by with_reducible exact ar2o (by assumption))]
        exact H.gp (by lia) _ (by lia) hc hpc
      · by_cases e2 : (i - 1) / 2 = p
        · rw [e2, getD_set_self hp, getD_set_ne e1]
          exact low i a b e2
        · rw [getD_set_ne e1, getD_set_ne e2]
          exact H.ord i a b c e1 e2
    · rw [List.length_set] at b
      rw [hpc, getD_set_self hp, getD_set_ne (by lia)]
      have := H.ord i a b (by have := hD.le; lia) (by lia) (by lia)
      rw [c] at this
      exact this
  | case2 vs p h1 =>
    refine sdL_heap W _ p (by simpa using hp) hD ⟨fun i a b c d e => ?_, fun hlt i a b c => ?_⟩ fun i a b c => ?_
    · rw [List.length_set] at b
      rw [getD_set_ne d, getD_set_ne e]; exact H.ord i a b c d e
    · rw [List.length_set] at b; lia
    · rw [List.length_set] at b; lia

theorem hfL_heap {lt : Value → Value → Bool} (W : Wk lt) : ∀ (k : Nat) (vs : List Value), k ≤ vs.length → HeapFrom lt k vs → HeapFrom lt 0 (hfL lt k vs) ∧ (hfL lt k vs).Perm vs
  | 0, vs, _, h => ⟨h, List.Perm.refl _⟩
  | k + 1, vs, hk, h => by
    have := suL_heap W (nw := vs.getD k .none) vs k (by assumption) .refl ⟨fun i a b c d e => h i a b (by lia), fun x => absurd x (Nat.lt_irrefl _)⟩
    obtain ⟨h1, h2⟩ := hfL_heap W k _ (by rw [suL_length]; lia) this
    refine ⟨h1, h2.trans ((suL_perm vs k (by assumption)).trans ?_)⟩
    have e : vs.set k (vs.getD k .none) = vs := by
      rw [List.getD_eq_getElem?_getD, List.getElem?_eq_getElem (by assumption)]
      simp
    rw [e]
theorem heapify_law {lt : Value → Value → Bool} (W : Wk lt) (vs : List Value) : HeapFrom lt 0 (hfL lt (vs.length / 2) vs) ∧ (hfL lt (vs.length / 2) vs).Perm vs :=
  hfL_heap W _ vs (by lia) fun i a b c => by lia

theorem heap_root {lt : Value → Value → Bool} (W : Wk lt) {vs : List Value} (h : HeapFrom lt 0 vs) : ∀ i, i < vs.length → lt (vs.getD i .none) (vs.getD 0 .none) = false := by
  intro i
  induction i using Nat.strongRecOn with
  | _ i ih =>
    intro hi
    by_cases h0 : i = 0
    · subst h0; exact W.refl _
    · exact W.trans (ih ((i - 1) / 2) (by with_reducible exact ar2z (by assumption)) (by with_reducible exact ar1 (by assumption))) (h i (by lia) hi (by lia))
theorem heap_min {lt : Value → Value → Bool} (W : Wk lt) {vs : List Value} (h : HeapFrom lt 0 vs) : ∀ v ∈ vs, lt v (vs.getD 0 .none) = false := by
  intro v hv
  obtain ⟨i, hi, rfl⟩ := List.mem_iff_getElem.mp hv
  have := heap_root W h i hi
  rwa [List.getD_eq_getElem?_getD, List.getElem?_eq_getElem hi] at this

theorem replace_law {lt : Value → Value → Bool} (W : Wk lt) {vs : List Value} {x : Value} (hne : 0 < vs.length) (h : HeapFrom lt 0 vs) :
    HeapFrom lt 0 (suL lt x 0 (vs.set 0 x) 0) ∧ (suL lt x 0 (vs.set 0 x) 0).Perm (vs.set 0 x) := by
  refine ⟨suL_heap W _ 0 (by simpa using hne) .refl ⟨fun i a b c d e => ?_, fun q => absurd q (Nat.lt_irrefl _)⟩, ?_⟩
  · rw [List.length_set] at b
    rw [getD_set_ne d, getD_set_ne e]; exact h i a b c
  · have := suL_perm (lt := lt) (nw := x) (start := 0) (vs.set 0 x) 0 (by simpa using hne)
    rwa [List.set_set] at this

theorem pop_law {lt : Value → Value → Bool} (W : Wk lt) {vs : List Value} (hne : vs ≠ []) (h : HeapFrom lt 0 vs) :
    HeapFrom lt 0 (popL lt vs) ∧ vs.Perm (popV vs :: popL lt vs) ∧ ∀ v ∈ vs, lt v (popV vs) = false := by
  obtain ⟨init, last, rfl⟩ : ∃ init last, vs = init ++ [last] := ⟨vs.dropLast, vs.getLast hne, (List.dropLast_concat_getLast hne).symm⟩
  have eL : (init ++ [last]).getD ((init ++ [last]).length - 1) .none = last := by
    rw [List.getD_eq_getElem?_getD]; simp
  unfold popV popL
  rw [List.dropLast_concat, eL]
  cases init with
  | nil =>
    simp only [if_true, List.nil_append, List.mem_singleton]
    exact ⟨fun i a b => by simp at b, List.Perm.refl _, fun v hv => by subst hv; exact W.refl _⟩
  | cons v0 mid =>
    simp only [reduceCtorEq, if_false]
    have e0 : (v0 :: mid).getD 0 Value.none = v0 := rfl
    have e1 : (v0 :: mid ++ [last]).getD 0 Value.none = v0 := rfl
    have es : (v0 :: mid).set 0 last = last :: mid := rfl
    rw [e0, es]
    refine ⟨suL_heap W _ 0 (by simp) .refl ⟨fun i a b c d e => ?_, fun q => absurd q (Nat.lt_irrefl _)⟩, ?_, fun v hv => by have := heap_min W h v hv; rwa [e1] at this⟩
    · have hb : i < (v0 :: mid).length := by simpa using b
      have g : ∀ j, j ≠ 0 → j < (v0 :: mid).length → (last :: mid).getD j .none = (v0 :: mid ++ [last]).getD j .none := fun j hj hlt => by
        obtain ⟨k, rfl⟩ : ∃ k, j = k + 1 := ⟨j - 1, by with_reducible exact ar15 (by assumption)⟩
        rw [List.getD_cons_succ]
        show _ = (v0 :: (mid ++ [last])).getD (k + 1) _
        rw [List.getD_cons_succ, List.getD_eq_getElem?_getD, List.getD_eq_getElem?_getD, List.getElem?_append_left (by simpa using hlt)]
      rw [g i (by assumption) hb, g _ e (by with_reducible exact ar1 (by assumption))]
      exact h i a (by simp only [List.length_append, List.length_singleton]; lia) c
    · have := suL_perm (lt := lt) (nw := last) (start := 0) (last :: mid) 0 (by simp)
      have e2 : (last :: mid).set 0 last = last :: mid := rfl
      rw [e2] at this
      refine List.Perm.trans ?_ (List.Perm.cons v0 this.symm)
      show (v0 :: (mid ++ [last])).Perm _
      exact List.Perm.cons v0 (List.perm_append_comm.trans (by simp))

noncomputable abbrev tupOf (vs : List Value) : Obj := { cls := .type "tuple", data := .seq vs.toArray }
theorem fr_any {g h : Heap} {L : Addr} {m₀ : Str → Option Value} (F : Fr g L h m₀) : ∃ m, Fr g L h m ∧ m = m₀ := ⟨_, F, rfl⟩
theorem isList_of {h : Heap} {a : Addr} {vs : List Value} {n : Nat} (e : h.get? a = some (listOf vs.toArray n)) : h.IsList a vs.toArray := PySem.IsL.isList (n := n) e
theorem isTup_of {h : Heap} {a : Addr} {vs : List Value} (e : h.get? a = some (tupOf vs)) : h.IsTuple a vs.toArray := ⟨_, e, rfl, _, rfl⟩

theorem heap_of {h : Heap} {rows : List (Addr × Obj)} (hr : ∀ p ∈ rows, h.get? p.1 = some p.2) : ∃ gE : Heap, (∀ p ∈ rows, gE.get? p.1 = some p.2) ∧ ∀ b o, gE.get? b = some o → (b, o) ∈ rows := by
  refine ⟨hideAll h ((List.range h.objs.size).filter fun a => !(rows.map (·.1)).contains a), fun p hp => hideAll_get _ (hr p hp) fun q => ?_, fun b o e => ?_⟩
  · have := (List.mem_filter.mp q).2
    simp only [Bool.not_eq_true', List.contains_eq_mem, decide_eq_false_iff_not] at this
    exact this (List.mem_map_of_mem hp)
  · have e' := of_hideAll _ e
    by_cases hm : b ∈ rows.map (·.1)
    · obtain ⟨p, hp, rfl⟩ := List.mem_map.mp hm
      rw [hr p hp] at e'; cases e'; exact hp
    · have : b ∈ (List.range h.objs.size).filter fun a => !(rows.map (·.1)).contains a := List.mem_filter.mpr ⟨List.mem_range.mpr (Heap.lt_size e'), by simpa [List.contains_eq_mem] using hm⟩
      rw [hideAll_none _ this] at e; cases e

section
variable {M : Model} {prog : Program} {w : World} {A : Around} {E : Value → Shared → Prop} {s : Shared} {g : Heap} {L : Addr} {m : Str → Option Value} {nx : List (Addr × Obj)} {Q : Value → Shared → Prop}
theorem newList_led {vs : List Value} (F : Fr g L s.heap m) (N : News g L s.heap nx) (hsz : vs.length ≤ 2 ^ 20)
    (h : ∀ D h', Fr g L h' m → News g L h' ((D, listOf vs.toArray 0) :: nx) → (∀ p ∈ nx, p.1 ≠ D) → Q (.ref D) { s with heap := h' }) : wpAny M A (newList vs) Q E s :=
  newList_N F N (fun h' F' N' => h _ h' F' N' (fresh_ne N)) (by simp only [sizeLine]; lia)
theorem newTuple_led {vs : List Value} (F : Fr g L s.heap m) (N : News g L s.heap nx) (hsz : vs.length ≤ 2 ^ 20)
    (h : ∀ D h', Fr g L h' m → News g L h' ((D, tupOf vs) :: nx) → (∀ p ∈ nx, p.1 ≠ D) → Q (.ref D) { s with heap := h' }) : wpAny M A (newTuple vs) Q E s :=
  newTuple_N F N (fun h' F' N' => h _ h' F' N' (fresh_ne N)) (by simp only [sizeLine]; lia)
theorem add_led {l b : Addr} {vs ws : List Value} (F : Fr g L s.heap m) (N : News g L s.heap nx) (hl : s.heap.IsList l vs.toArray) (hb : s.heap.IsList b ws.toArray) (hsz : vs.length + ws.length ≤ 2 ^ 20)
    (h : ∀ D h', Fr g L h' m → News g L h' ((D, listOf (vs ++ ws).toArray 0) :: nx) → (∀ p ∈ nx, p.1 ≠ D) → Q (.ref D) { s with heap := h' }) : wpAny (model prog w) A (binaryOp .Add (.ref l) (.ref b)) Q E s :=
  add_lists F N hl hb (fun h' F' N' => h _ h' F' N' (fresh_ne N)) (by simp only [sizeLine]; lia)
theorem slice_led {value slice : Expr} {l : Addr} {vs : List Value} {vl vu : Value} {lo hi : Option Int} (F : Fr g L s.heap m) (N : News g L s.heap nx) (hl : s.heap.IsList l vs.toArray) (pl : IsPart vl lo) (pu : IsPart vu hi) (hsz : vs.length ≤ 2 ^ 20)
    (h : ∀ D h', Fr g L h' m → News g L h' ((D, listOf (slicePick vs.toArray lo hi none).toList.toArray 0) :: nx) → (∀ p ∈ nx, p.1 ≠ D) → Q (.ref D) { s with heap := h' })
    (hs : subscripted slice false (.ref l) (.ref s.heap.objs.size) = operate [.ref s.heap.objs.size, .ref l] (getItem (.ref l) (.ref s.heap.objs.size)) := by with_unfolding_all rfl) (ht : ∀ r, letTemporaryGo value (.ref l) r = pure () := by intro _; with_unfolding_all rfl) :
    wpAny (model prog w) A (subscriptTail value slice (.ref l) (.ref s.heap.objs.size)) Q E { s with heap := s.heap.push { cls := .type "slice", data := .fields #[vl, vu, .none] } } :=
  kmk_slice F N hl pl pu (fun D h' F' N' l1 => h D h' F' N' fun p hp => Nat.ne_of_lt (l1 p hp)) hs ht (by rw [List.size_toArray]; simp only [sizeLine]; lia)
theorem list_text {cs : List Nat} {t : Tok} (hh : A.handled = none) (F : Fr g L s.heap m) (N : News g L s.heap nx) (hsz : cs.length ≤ 2 ^ 20)
    (h : ∀ D h' tk ys c, Fr g L h' m → News g L h' ((D, listOf ys.toArray c) :: nx) → (∀ p ∈ nx, p.1 ≠ D) → StrsAre ys (cs.map fun c => ⟨#[c]⟩) → Q (.ref D) { s with heap := h', toks := tk }) : wpAny (model prog w) A (call (.type "list") [.str ⟨cs.toArray⟩ t]) Q E s := by
  refine call_list_str hh _ t (fun h' tk acc c hk hS hacc => ?_) (by show cs.toArray.size ≤ _; rw [List.size_toArray]; simp only [sizeLine]; lia)
  have hnone : g.get? s.heap.objs.size = none := next_is_new F
  refine h _ h' tk acc.toList c (F.keeps hk) (fun p hp => ?_) (fresh_ne N) ?_
  · rcases List.mem_cons.mp hp with rfl | hp
    · exact ⟨by simpa using hS, Nat.ne_of_gt F.ns.lt, hnone⟩
    · exact ⟨hk _ _ (N p hp).1, (N p hp).2⟩
  · obtain ⟨h1, h2⟩ := hacc
    have gen : ∀ (l : List Value) (cs : List Nat), l.length = cs.length → (∀ (j : Nat) (v : Value), l[j]? = some v → ∃ c u, cs[j]? = some c ∧ v = Value.str ⟨#[c]⟩ u) → StrsAre l (cs.map fun c => ⟨#[c]⟩) := by
      intro l
      induction l with
      | nil => intro cs hl _; cases cs with
        | nil => exact .nil
        | cons _ _ => simp at hl
      | cons v l ih => intro cs hl hj; cases cs with
        | nil => simp at hl
        | cons c cs =>
          obtain ⟨c', u, e1, rfl⟩ := hj 0 v rfl
          simp at e1; subst e1
          exact .cons _ _ (ih cs (by simpa using hl) fun j v hv => by simpa using hj (j + 1) v (by simpa using hv))
    refine gen _ cs (by simpa using h1) fun j v hv => ?_
    obtain ⟨c, u, e1, e2⟩ := h2 j v (by simpa using hv)
    exact ⟨c, u, by simpa using e1, e2⟩
end

section
variable {prog : Program} {w : World} {A : Around} {env : Env} {s : Shared} {g₀ : Heap} {L : Addr} {m₀ : Str → Option Value} {nx₀ : List (Addr × Obj)} {elt iter : Expr} {ifs : List Expr} {scope : Scope} {cl : List (Str × Addr)} {pos : Pos} {x : Str} {px : Pos} {use : Option (Value → Sem Unit)} {Q : Value → Shared → Prop}
noncomputable abbrev TurnOk (prog : Program) (w : World) (A : Around) (env : Env) (s : Shared) (g₀ : Heap) (nx₀ : List (Addr × Obj)) (elt : Expr) (ifs : List Expr) (scope : Scope) (cl : List (Str × Addr)) (x : Str) (n : Nat) (P : Nat → Value → Prop) (J : Nat → List Value → List (Addr × Obj) → Prop) : Prop :=
  ∀ g C D I oI' i ys m nx h tk v, (∀ b o, g₀.get? b = some o → g.get? b = some o) → (∀ p ∈ nx₀, g.get? p.1 = some p.2) → i < n → P i v → J i ys nx → Fr g C h (mput m x v) → News g C h ((D, lst ys) :: (I, oI') :: nx) → (∀ p ∈ nx, p.1 ≠ I ∧ p.1 ≠ D) → I ≠ D →
      wpAny (model prog w) A (testsOf ifs (compEnvC scope cl C env)) (fun ok s₄ => if ok = true then wpAny (model prog w) A (eval elt (compEnvC scope cl C env)) (fun y s' => CompEnd (fun h tk => { s with heap := h, toks := tk }) g C D I oI' ys (J (i + 1) (ys ++ [y])) s') No s₄
        else CompEnd (fun h tk => { s with heap := h, toks := tk }) g C D I oI' ys (J (i + 1) ys) s₄) No { s with heap := h, toks := tk }
theorem tests_none {s : Shared} {env : Env} {Q : Bool → Shared → Prop} {E : Value → Shared → Prop} (h : Q true s) : wpAny (model prog w) A (testsOf [] env) Q E s := wpAny_tests_nil h

theorem comp_over_list {ax : Addr} {vs : List Value} (J : Nat → List Value → List (Addr × Obj) → Prop) (hh : A.handled = none) (F : Fr g₀ L s.heap m₀) (N : News g₀ L s.heap nx₀) (hl : s.heap.IsList ax vs.toArray) (hn : vs.length < 2 ^ 20) (h0 : J 0 [] [])
    (turn : TurnOk prog w A env s g₀ nx₀ elt ifs scope cl x vs.length (fun i v => vs[i]? = some v) J) (done : CompDone g₀ L m₀ nx₀ (J vs.length) use prog w A s Q)
    (hcell : ∀ y ∈ scope.names, y.2 ≠ .cell := by decide) (hkind : scope.kind = .function := by rfl) (hx : scope.names.lookup x = some .local := by rfl) :
    wpAny (model prog w) A (pyIter (.ref ax)) (CompBlock prog w A env scope cl (.ListComp elt [⟨.Name x px, iter, ifs, 0⟩] scope pos) use Q) No s := by
  have hlt : ax < s.heap.objs.size := by obtain ⟨_, e, _⟩ := hl; exact Heap.lt_size e
  refine wpAny_pyIter_list hl ?_
  have W := Walks.list (prog := prog) (w := w) hh s.heap.objs.size ax (Nat.ne_of_lt hlt) vs.toArray
  rw [List.size_toArray] at W
  refine comp_walk J W (fun i h st => by obtain ⟨o, e, _⟩ := st.1; exact ⟨o, e⟩) (F.push _) (News.push F N _) (fresh_ne N) ⟨⟨_, Heap.get?_push_size _ rfl, rfl, rfl⟩, hl.push _⟩ (fun b hb => ?_) hn h0
    (fun g C D oI' i ys m nx h tk v a1 a2 a3 a4 => turn g C D _ oI' i ys m nx h tk v a1 a2 a3 (by simpa using a4)) done hcell hkind hx
  rcases List.mem_cons.mp hb with rfl | hb
  · exact ⟨_, Heap.get?_push_size _ rfl⟩
  · rw [List.mem_singleton.mp hb]; obtain ⟨o, e, _⟩ := hl; exact ⟨o, Heap.get?_push_of_some _ e⟩

theorem comp_over_range {r : Addr} {a : Int} {n : Nat} {t u v : Tok} (J : Nat → List Value → List (Addr × Obj) → Prop) (hh : A.handled = none) (F : Fr g₀ L s.heap m₀) (N : News g₀ L s.heap nx₀) (hr : s.heap.get? r = some (rgObj a (a + n) 1 t u v)) (hn : n < 2 ^ 20) (ha : -2 ^ 20 < a) (ha' : a < 2 ^ 20) (h0 : J 0 [] [])
    (turn : TurnOk prog w A env s g₀ nx₀ elt ifs scope cl x n (fun i v => ∃ t, v = Value.int (a + i) t) J) (done : CompDone g₀ L m₀ nx₀ (J n) use prog w A s Q)
    (hcell : ∀ y ∈ scope.names, y.2 ≠ .cell := by decide) (hkind : scope.kind = .function := by rfl) (hx : scope.names.lookup x = some .local := by rfl) :
    wpAny (model prog w) A (pyIter (.ref r)) (CompBlock prog w A env scope cl (.ListComp elt [⟨.Name x px, iter, ifs, 0⟩] scope pos) use Q) No s := by
  have e1 : Builtin.Range.rangeSize a (a + n) 1 = n := by rw [rangeSize_one]; split <;> lia
  refine wpAny_pyIter_range hr (small_one (by lia) (by lia) (by lia) (by lia)) ?_
  rw [e1]
  refine comp_walk J (Walks.range (prog := prog) (w := w) hh s.heap.objs.size a 1 n) (fun i h st => ⟨_, st⟩) (F.push _) (News.push F N _) (fresh_ne N) ?_ (fun b hb => ?_) hn h0
    (fun g C D oI' i ys m nx h tk v a1 a2 a3 a4 => turn g C D _ oI' i ys m nx h tk v a1 a2 a3 (by simpa using a4)) done hcell hkind hx
  · show (s.heap.push _).get? _ = _
    rw [Heap.get?_push_size _ rfl]; simp
  · rw [List.mem_singleton.mp hb]; exact ⟨_, Heap.get?_push_size _ rfl⟩

theorem comp_over_str {cs : List Nat} {t : Tok} (J : Nat → List Value → List (Addr × Obj) → Prop) (hh : A.handled = none) (F : Fr g₀ L s.heap m₀) (N : News g₀ L s.heap nx₀) (hn : cs.length < 2 ^ 20) (h0 : J 0 [] [])
    (turn : TurnOk prog w A env s g₀ nx₀ elt ifs scope cl x cs.length (fun i v => ∃ t, v = Value.str ⟨#[cs.getD i 0]⟩ t) J) (done : CompDone g₀ L m₀ nx₀ (J cs.length) use prog w A s Q)
    (hcell : ∀ y ∈ scope.names, y.2 ≠ .cell := by decide) (hkind : scope.kind = .function := by rfl) (hx : scope.names.lookup x = some .local := by rfl) :
    wpAny (model prog w) A (pyIter (.str ⟨cs.toArray⟩ t)) (CompBlock prog w A env scope cl (.ListComp elt [⟨.Name x px, iter, ifs, 0⟩] scope pos) use Q) No s := by
  refine wpAny_pyIter_strU ?_
  have key : ∀ St : Nat → Heap → Prop, Walks prog w A s.heap.objs.size [s.heap.objs.size] [s.heap.objs.size] cs.length (SignAt ⟨cs.toArray⟩) St → (∀ i h, St i h → ∃ o, h.get? s.heap.objs.size = some o) → St 0 (s.heap.push { cls := .type (strIterType ⟨cs.toArray⟩), data := .fields #[.str ⟨cs.toArray⟩ t, .int 0 0] }) →
      CompBlock prog w A env scope cl (.ListComp elt [⟨.Name x px, iter, ifs, 0⟩] scope pos) use Q (.ref s.heap.objs.size) { s with heap := s.heap.push { cls := .type (strIterType ⟨cs.toArray⟩), data := .fields #[.str ⟨cs.toArray⟩ t, .int 0 0] } } := by
    intro St W hIo hst
    refine comp_walk J W hIo (F.push _) (News.push F N _) (fresh_ne N) hst (fun b hb => ?_) hn h0
      (fun g C D oI' i ys m nx h tk v a1 a2 a3 a4 => turn g C D _ oI' i ys m nx h tk v a1 a2 a3 (by
        obtain ⟨c, u, e1, rfl⟩ := a4
        refine ⟨u, ?_⟩
        have : cs[i]? = some c := by simpa using e1
        rw [List.getD_eq_getElem?_getD, this]; rfl)) done hcell hkind hx
    rw [List.mem_singleton.mp hb]; exact ⟨_, Heap.get?_push_size _ rfl⟩
  by_cases ha : (⟨cs.toArray⟩ : Str).cps.all (· < 128) = true
  · have W := Walks.strAscii (prog := prog) (w := w) hh s.heap.objs.size ⟨cs.toArray⟩ t
    have e : (⟨cs.toArray⟩ : Str).cps.size = cs.length := by simp
    rw [e] at W
    refine key _ W (fun i h st => let ⟨o, e, _⟩ := st; ⟨o, e⟩) ?_
    refine ⟨_, Heap.get?_push_size _ rfl, ?_, rfl⟩
    simp only [strIterType, ha, if_true]
  · have W := Walks.strWide (prog := prog) (w := w) hh s.heap.objs.size ⟨cs.toArray⟩ t
    have e : (⟨cs.toArray⟩ : Str).cps.size = cs.length := by simp
    rw [e] at W
    refine key _ W (fun i h st => let ⟨o, e, _⟩ := st; ⟨o, e⟩) ?_
    refine ⟨_, Heap.get?_push_size _ rfl, ?_, rfl⟩
    simp only [strIterType, ha]
    rfl
end

noncomputable abbrev sgs (cs : List Nat) : List Str := cs.map fun c => ⟨#[c]⟩
noncomputable def lowsOf (cs : List Nat) : List Int := (cs.map fun c => ((c % 32 + 1 : Nat) : Int)) ++ [0]
theorem lowsOf_length (cs : List Nat) : (lowsOf cs).length = cs.length + 1 := by simp [lowsOf]
theorem ints_snoc {vs : List Value} {ns : List Int} (h : IntsAre vs ns) (i : Int) (t : Tok) : IntsAre (vs ++ [.int i t]) (ns ++ [i]) := h.append (.cons i t .nil)
theorem strs_snoc {vs : List Value} {ns : List Str} (h : StrsAre vs ns) (i : Str) (t : Tok) : StrsAre (vs ++ [.str i t]) (ns ++ [i]) := h.append' (.cons i t .nil)
theorem take_snoc {α : Type} {l : List α} {i : Nat} {x : α} (h : l[i]? = some x) : l.take (i + 1) = l.take i ++ [x] := by
  rw [List.take_add_one, h]; rfl

theorem lows_at {cs : List Nat} {i : Nat} (h : i < cs.length) : (lowsOf cs)[i]? = some ((cs.getD i 0 % 32 + 1 : Nat) : Int) := by
  rw [lowsOf, List.getElem?_append_left (by simpa using h), List.getElem?_map, List.getD_eq_getElem?_getD, List.getElem?_eq_getElem h]; rfl
theorem lows_last (cs : List Nat) : (lowsOf cs)[cs.length]? = some 0 := by
  rw [lowsOf, List.getElem?_append_right (by simp)]; simp
theorem sgs_at {cs : List Nat} {i : Nat} {y : Str} (h : i < cs.length) (e : (sgs cs ++ [Str.ofString ""])[i]? = some y) : y = ⟨#[cs.getD i 0]⟩ := by
  rw [List.getElem?_append_left (by simpa using h), List.getElem?_map, List.getElem?_eq_getElem h] at e
  rw [List.getD_eq_getElem?_getD, List.getElem?_eq_getElem h]; simpa using e.symm
theorem sgs_last {cs : List Nat} {y : Str} (e : (sgs cs ++ [Str.ofString ""])[cs.length]? = some y) : y = Str.ofString "" := by
  rw [List.getElem?_append_right (by simp)] at e; simpa using e.symm

inductive RowIn (nx : List (Addr × Obj)) (lows : List Int) (k : Nat) (y : Value) : Prop
  | mk (T l : Addr) (ws : List Value) (t : Tok) (n : Nat) : y = .ref T → (T, tupOf [.ref l, .int k t]) ∈ nx → (l, listOf (List.toArray ws) n) ∈ nx → IntsAre ws (lows.drop k ++ lows.take k) → RowIn nx lows k y
theorem RowIn.mono {nx nx' : List (Addr × Obj)} {lows : List Int} {k : Nat} {y : Value} (h : RowIn nx lows k y) (hs : ∀ p ∈ nx, p ∈ nx') : RowIn nx' lows k y :=
  let ⟨T, l, ws, t, n, h1, h2, h3, h4⟩ := h; ⟨T, l, ws, t, n, h1, hs _ h2, hs _ h3, h4⟩

section
variable {prog : Program} {w : World} {A : Around} {E : Value → Shared → Prop} {s : Shared}
theorem item_ends {value slice : Expr} {l : Addr} {vs : List Value} {k : Int} {u : Tok} {x : Value} {Q : Value → Shared → Prop} (hl : s.heap.IsList l vs.toArray) (hn : vs.length < 2 ^ 40) (h1 : -(vs.length : Int) ≤ k) (h2 : k < vs.length)
    (hx : vs[(if k < 0 then k + vs.length else k).toNat]? = some x) (h : Q x s)
    (hs : subscripted slice false (.ref l) (.int k u) = operate [.ref l, .int k u] (getItem (.ref l) (.int k u)) := by with_unfolding_all rfl) (hg : ∀ r, letTemporaryGo value (.ref l) r = pure () := by intro _; with_unfolding_all rfl) :
    wpAny (model prog w) A (subscriptTail value slice (.ref l) (.int k u)) Q E s := by
  by_cases hk : k < 0
  · rw [if_pos hk] at hx
    exact subscriptTail_builtin hl.typeIs slot_list_getitem.lookup (wpAny_getItem_list_neg hl hk (by rw [List.size_toArray]; exact h1) (by lia) (by rw [List.size_toArray]; simpa using hx) h) hs hg
  · rw [if_neg hk] at hx
    exact item_listL hl (by lia) (by lia) hx h hs hg
theorem ne_empty {a b : Addr} {vs : List Value} {Q : Value → Shared → Prop} (hl : s.heap.IsList a vs.toArray) (hb : s.heap.IsList b ([] : List Value).toArray) (hu : A.units < cLine) (h : Q (.bool (decide (vs ≠ []))) s) :
    wpAny (model prog w) A (compareOp .NotEq (.ref a) (.ref b)) Q E s := by
  cases vs with
  | nil =>
    exact PySem.SeqAt.RcNeAt.lists (e := fun _ => true) hl hb rfl hu (fun j h1 _ => absurd h1 (Nat.not_lt_zero _)) prog w E Q h
  | cons v r => exact PySem.SeqAt.RcNeAt.lists_lengths hl hb (by simp) hu prog w E Q h
end

noncomputable def rot (lows : List Int) (k : Nat) : List Int := lows.drop k ++ lows.take k
theorem row_facts {gE : Heap} {nx : List (Addr × Obj)} {lows : List Int} {k : Nat} {y : Value} (hE : ∀ p ∈ nx, gE.get? p.1 = some p.2) (h : RowIn nx lows k y) :
    dom2 gE y ∧ row2 gE y = (rot lows k, (k : Int)) ∧ ∃ T l t, y = .ref T ∧ gE.get? T = some (tupOf [.ref l, .int k t]) := by
  obtain ⟨T, l, ws, t, n, rfl, h2, h3, h4⟩ := h
  have e2 := hE _ h2
  have e3 := hE _ h3
  exact ⟨⟨T, l, ws, _, k, t, rfl, isTup_of e2, isList_of e3, h4⟩, row2_is (isTup_of e2) (isList_of e3) h4, T, l, t, rfl, e2⟩
noncomputable def ahead (cs : List Nat) (k : Nat) : Str := (sgs cs ++ [Str.ofString ""]).getD (if k = 0 then cs.length else k - 1) (Str.ofString "")
theorem wk_of {α : Type} {f : Value → α} {l : α → α → Bool} (irr : ∀ a, l a a = false) (tr : ∀ {a b c}, l a b = true → l b c = true → l a c = true) (tot : ∀ {a b}, a ≠ b → l a b = !(l b a)) : Wk fun u v => l (f u) (f v) := by
  have no : ∀ {a b}, l a b = true → l b a = false := fun {a b} h => by
    cases q : l b a with
    | false => rfl
    | true => have := tr h q; rw [irr] at this; cases this
  refine ⟨fun h => no h, fun {u v x} h1 h2 => ?_⟩
  by_cases e1 : f u = f v
  · rw [e1]; exact h2
  · by_cases e2 : f v = f x
    · rw [← e2]; exact h1
    · have a1 : l (f u) (f v) = true := by rw [tot e1, h1]; rfl
      have a2 : l (f v) (f x) = true := by rw [tot e2, h2]; rfl
      exact no (tr a1 a2)
theorem ltP_irr (a : List Int × Int) : ltP a a = false := by simp [ltP]
theorem ltP_tr {a b c : List Int × Int} (h1 : ltP a b = true) (h2 : ltP b c = true) : ltP a c = true := by
  unfold ltP at *
  by_cases e1 : a.1 = b.1
  · rw [if_pos e1] at h1
    by_cases e2 : b.1 = c.1
    · rw [if_pos e2] at h2; rw [if_pos (e1.trans e2)]
      simp only [decide_eq_true_eq] at *; lia
    · rw [if_neg e2] at h2; rw [if_neg (fun q => e2 (e1.symm.trans q)), e1]; exact h2
  · rw [if_neg e1] at h1
    by_cases e2 : b.1 = c.1
    · rw [if_neg (fun q => e1 (q.trans e2.symm)), ← e2]; exact h1
    · rw [if_neg e2] at h2
      have := ltI_trans h1 h2
      rw [if_neg (fun q => by rw [q, ltI_irrefl] at this; cases this)]; exact this
theorem ltP_tot {a b : List Int × Int} (h : a ≠ b) : ltP a b = !(ltP b a) := by
  unfold ltP
  by_cases e : a.1 = b.1
  · rw [if_pos e, if_pos e.symm]
    have : a.2 ≠ b.2 := fun q => h (Prod.ext e q)
    by_cases q : a.2 < b.2
    · rw [decide_eq_true q, decide_eq_false (by lia)]; rfl
    · rw [decide_eq_false q, decide_eq_true (by lia)]; rfl
  · rw [if_neg e, if_neg (fun q => e q.symm)]; exact ltI_total e
theorem wk2 (g : Heap) : Wk (lt2 g) := wk_of (f := row2 g) ltP_irr ltP_tr ltP_tot
theorem wk3 (g : Heap) : Wk (lt3 g) := wk_of (f := row3 g) ltI_irrefl ltI_trans ltI_total

inductive ColMid (st : Heap → Tok → Shared) (g gE : Heap) (L K : Addr) (cs : List Nat) (ys9 : List Value) (s' : Shared) : Prop
  | mk (h : Heap) (tk : Nat) (m' : Str → Option Value) (outs col : List Value) (n' : Nat) :
    s' = st h tk →
    Fr g L h m' →
    News g L h [(K, listOf col.toArray n')] →
    m' "column" = some (.ref K) →
    outs.Perm ys9 →
    outs.Pairwise (fun a b => lt2 gE b a = false) →
    StrsAre col (outs.map fun v => ahead cs (row2 gE v).2.toNat) → ColMid st g gE L K cs ys9 s'
inductive ColInv (gE : Heap) (H K D3 : Addr) (cs : List Nat) (ys9 : List Value) (fx : List (Addr × Obj)) (k : Nat) (m' : Str → Option Value) (nx : List (Addr × Obj)) : Prop
  | mk (vs' outs col : List Value) (n' n'' : Nat) :
    k = vs'.length →
    nx = (H, listOf vs'.toArray n') :: (K, listOf col.toArray n'') :: fx →
    m' "heap" = some (.ref H) →
    m' "column" = some (.ref K) →
    m' "signs" = some (.ref D3) →
    HeapFrom (lt2 gE) 0 vs' →
    (outs ++ vs').Perm ys9 →
    outs.Pairwise (fun a b => lt2 gE b a = false) →
    (∀ a ∈ outs, ∀ b ∈ vs', lt2 gE b a = false) →
    StrsAre col (outs.map fun v => ahead cs (row2 gE v).2.toNat) → ColInv gE H K D3 cs ys9 fx k m' nx
theorem column_call {prog : Program} {w : World} {A : Around} {s : Shared} {R : Result → Shared → Prop} {cs : List Nat} {t : Tok}
    (O : Ok w [] s.heap) (rm : Room A 20) (hlen : cs.length < 100)
    (post : ∀ h' tk H n (vs : List Value) (ord : List Nat), Keeps [] s.heap h' → h'.get? H = some (listOf vs.toArray n) → s.heap.get? H = none → ord.Perm (List.range (cs.length + 1)) →
      ord.Pairwise (fun a b => ltP (rot (lowsOf cs) b, (b : Int)) (rot (lowsOf cs) a, (a : Int)) = false) → StrsAre vs (ord.map (ahead cs)) → R (.ok (.ret (.ref H))) { s with heap := h', toks := tk }) :
    codeAny (model prog w) A (.call (.ref 122) ⟨[.str ⟨cs.toArray⟩ t], []⟩) R s := by
  refine enterC (foot := []) (binds := [("text", .str ⟨cs.toArray⟩ t)]) O (by simp) (by k_is) (by k_is) rm (BindsTo.of_eq rfl) rfl (by decide) ?_
  intro g L h₁ tk₁ cells B hg F N hcells hfresh
  obtain ⟨oc, rfl, hoc⟩ := CellsAre.one hcells
  clear hcells
  replace hoc : oc.data = .cell none := hoc
  obtain ⟨m, Fm, em⟩ := fr_any F
  have m1 : m "text" = some (.str ⟨cs.toArray⟩ t) := by rw [em]; rfl
  clear em F
  replace N : News g L h₁ [(L + 1, oc)] := N
  with_reducible refine wpAny_execs_cons ?_
  refine wpAny_Assign_Name ?_
  with_reducible refine wpAny_BinOp ?_
  refine Call_ ?_
  (refine' nmB ?kF ?kB ?ke ?kv ?kn ?_; (case kF => assumption); (case kB => assumption); (case ke => k_is); (case kv => boot_by_name); (case kn => decide))
  refine Pv.callWith_type1 ?_
  refine args_cons ?_
  (refine' ldM ?kF ?kv ?_; (case kF => assumption); (case kv => assumption))
  refine args_nil ?_
  refine list_text rm.hand Fm N (by lia) ?_
  intro D1 h2 tk2 ys c F2 N2 ne1 hys
  with_reducible refine List_ ?_
  refine args_cons ?_
  refine Calls.Constant_str ?_
  refine args_nil ?_
  refine newList_led F2 N2 (by simp) ?_
  intro D2 h3 F3 N3 ne2
  skip
  refine add_led F3 N3 (isList_of (N3 _ (.tail _ (.head _))).1) (isList_of (N3 _ (.head _)).1) (by simp [hys.length]; lia) ?_
  intro D3 h4 F4 N4 ne3
  (refine' stM ?kF ?kN ?_; (case kF => assumption); (case kN => assumption); intro _ _ _ _)
  with_reducible refine wpAny_execs_cons ?_
  refine wpAny_Assign_Name ?_
  rename_i h5 tk5 F5 N5
  generalize hvs : ys ++ [Value.str (Str.ofString "") _] = vs at N5
  have hvss : StrsAre vs (sgs cs ++ [Str.ofString ""]) := by rw [← hvs]; exact strs_snoc hys _ _
  clear hvs
  have N6 : News g L h5 [(L + 1, oc), (D3, listOf vs.toArray 0)] := fun p hp => N5 p (by
    simp only [List.mem_cons, List.not_mem_nil, or_false] at hp ⊢
    rcases hp with rfl | rfl <;> simp)
  have hvl : vs.length = cs.length + 1 := by rw [hvss.length]; simp
  (refine' ListComp_b ?cl ?kk ?nn ?_; (case cl => with_unfolding_all rfl); (case kk => rfl); (case nn => decide))
  (refine' ldM ?kF ?kv ?_; (case kF => assumption); (case kv => exact mput_same))
  refine comp_over_list (fun i ys _ => IntsAre ys ((lowsOf cs).take i)) rm.hand F5 N6 (isList_of (N6 _ (.tail _ (.head _))).1) (by lia) .nil ?_ ?_
  · intro g' C D I oI i ys' m' nx h' tk' v hg1 hg2 hi hv hJ F' N' off hID
    have B' := B.keeps hg1
    obtain ⟨y, ty, rfl, hy⟩ := StrsAre.item hvss i v hv
    refine tests_none (if_tt (wp_opq fun Q hQ => ?_))
    by_cases hc : i < cs.length
    · obtain rfl := sgs_at hc hy
      refine Call_ ?_
      (refine' nmKQ ?kF ?kB ?ke ?_; (case kF => assumption); (case kB => assumption); (case ke => k_is))
      (refine' callWith_K (Base.X (by assumption)) ?ke ?_; (case ke => k_is))
      refine args_cons ?_
      (refine' ldQ ?kF ?kv ?_; (case kF => assumption); (case kv => exact mput_same))
      refine args_nil ?_
      (refine ⟨in_of (by assumption) (by assumption), ?_⟩; try dsimp only [List.nil_append, List.cons_append])
      refine wpAny_call (low_call (ok_of (foot := []) B' F' N' (fun _ q => nomatch q)) (Room.deeper (k := 6) (rm.less (by lia))) ?_)
      intro h'' tk'' t'' k''
      refine hQ _ _ ⟨h'', tk'', _, nx, rfl, fr_after (foot := []) F' N' (fun _ q => nomatch q) k'', news_after F' N' k'' (fun p hp => .inl ⟨hp, List.not_mem_nil⟩), off, ?_⟩
      show IntsAre _ (List.take (i + 1) _)
      rw [take_snoc (lows_at hc)]; exact ints_snoc hJ _ _
    · have hic : i = cs.length := by lia
      subst hic
      obtain rfl := sgs_last hy
      refine Call_ ?_
      (refine' nmKQ ?kF ?kB ?ke ?_; (case kF => assumption); (case kB => assumption); (case ke => k_is))
      (refine' callWith_K (Base.X (by assumption)) ?ke ?_; (case ke => k_is))
      refine args_cons ?_
      (refine' ldQ ?kF ?kv ?_; (case kF => assumption); (case kv => exact mput_same))
      refine args_nil ?_
      (refine ⟨in_of (by assumption) (by assumption), ?_⟩; try dsimp only [List.nil_append, List.cons_append])
      refine wpAny_call (low_call_nil (ok_of (foot := []) B' F' N' (fun _ q => nomatch q)) (Room.deeper (k := 6) (rm.less (by lia))) ?_)
      intro h'' tk'' t'' k''
      refine hQ _ _ ⟨h'', tk'', _, nx, rfl, fr_after (foot := []) F' N' (fun _ q => nomatch q) k'', news_after F' N' k'' (fun p hp => .inl ⟨hp, List.not_mem_nil⟩), off, ?_⟩
      show IntsAre _ (List.take (cs.length + 1) _)
      rw [take_snoc (lows_last cs)]; exact ints_snoc hJ _ _
  refine done_value ?_
  intro D4 h6 tk6 ys6 nx6 F6 N7 offD ap hJ6
  rw [List.take_of_length_le (by rw [lowsOf_length]; lia)] at hJ6
  have hcD3 : D3 ≠ L + 1 := fun e => ne3 (L + 1, oc) (.tail _ (.tail _ (.head _))) e.symm
  have hcD4 : D4 ≠ L + 1 := fun e => offD (L + 1, oc) (by simp) e.symm
  have N8 : News g L h6 [(L + 1, oc), (D4, lst ys6), (D3, listOf vs.toArray 0)] := fun p hp => N7 p (by
    simp only [List.mem_cons, List.not_mem_nil, or_false] at hp ⊢
    rcases hp with rfl | rfl | rfl <;> simp)
  refine stC F6 N8 (fun p hp => by
    simp only [List.mem_cons, List.not_mem_nil, or_false] at hp
    rcases hp with rfl | rfl
    · exact hcD4
    · exact hcD3) rfl hoc ?_
  intro h7 oc' F7 N9 hoc'
  clear N8 N7 N6 N5 N4 N3 N2 N F6 F5 F4 F3 F2 Fm
  with_reducible refine wpAny_execs_cons ?_
  (refine' AssignComp_b ?sw ?cl ?kk ?nn ?_; (case sw => with_unfolding_all rfl); (case cl => with_unfolding_all rfl); (case kk => rfl); (case nn => decide))
  refine Call_ ?_
  (refine' nmB ?kF ?kB ?ke ?kv ?kn ?_; (case kF => assumption); (case kB => assumption); (case ke => k_is); (case kv => boot_by_name); (case kn => decide))
  refine Pv.callWith_type1 ?_
  refine args_cons ?_
  refine Call_ ?_
  (refine' nmB ?kF ?kB ?ke ?kv ?kn ?_; (case kF => assumption); (case kB => assumption); (case ke => k_is); (case kv => boot_by_name); (case kn => decide))
  refine PyProof.Rows.callWith_builtin1 ?_
  refine args_cons ?_
  (refine' ldM ?kF ?kv ?_; (case kF => assumption); (case kv => exact mput_same))
  refine args_nil ?_
  refine len_list (isList_of (N9 _ (.tail _ (.tail _ (.head _)))).1) (by rw [List.size_toArray]; lia) ?_
  refine args_nil ?_
  rw [List.size_toArray, hvl]
  refine range1_led F7 N9 ?_
  intro r h8 tk8 t8 u8 v8 F8 N10 ner
  have hr : h8.get? r = some (rgObj 0 (0 + ((cs.length + 1 : Nat) : Int)) 1 t8 u8 v8) := by rw [Int.zero_add]; exact (N10 _ (.head _)).1
  refine comp_over_range (a := 0) (n := cs.length + 1) (fun i ys nx => ys.length = i ∧ ∀ k, k < i → ∃ y, ys[k]? = some y ∧ RowIn nx (lowsOf cs) k y) rm.hand F8 N10 hr (by lia) (by decide) (by decide) ⟨rfl, nofun⟩ ?_ ?_
  · intro g' C D I oI i ys' m' nx h' tk' v hg1 hg2 hi hv hJ F' N' off hID
    have B' := B.keeps hg1
    obtain ⟨tv, rfl⟩ := hv
    rw [Int.zero_add] at F'
    have hgc : g'.get? (L + 1) = some oc' := hg2 (L + 1, oc') (.tail _ (.head _))
    have hgl : g'.get? D4 = some (lst ys6) := hg2 (D4, _) (.tail _ (.tail _ (.head _)))
    have hy6 : ys6.length = cs.length + 1 := by rw [hJ6.length, lowsOf_length]
    refine tests_none (if_tt (wp_opq fun Q hQ => ?_))
    with_reducible refine Tuple_ ?_
    refine args_cons ?_
    with_reducible refine wpAny_BinOp ?_
    with_reducible refine Subscript_ ?_
    (refine' ldQC ?kF ?kc ?kg ?kd ?_; (case kF => assumption); (case kc => rfl); (case kg => assumption); (case kd => assumption))
    with_reducible refine wpAny_Slice ?_
    with_reducible refine evalPart_s ?_
    (refine' ldQ ?kF ?kv ?_; (case kF => assumption); (case kv => exact mput_same))
    with_reducible refine evalPart_n ?_
    with_reducible refine evalPart_n ?_
    refine slice_led F' N' (isList_of (F'.keep _ _ hgl)) (.int _ _) .none (by lia) ?_
    intro D5 h9 F9 N11 ne5
    with_reducible refine Subscript_ ?_
    (refine' ldQC ?kF ?kc ?kg ?kd ?_; (case kF => assumption); (case kc => rfl); (case kg => assumption); (case kd => assumption))
    with_reducible refine wpAny_Slice ?_
    with_reducible refine evalPart_n ?_
    with_reducible refine evalPart_s ?_
    (refine' ldQ ?kF ?kv ?_; (case kF => assumption); (case kv => exact mput_same))
    with_reducible refine evalPart_n ?_
    refine slice_led F9 N11 (isList_of (F9.keep _ _ hgl)) .none (.int _ _) (by lia) ?_
    intro D6 h10 F10 N12 ne6
    skip
    have i1 := kmk_from hJ6 (x := (i : Int)) (by with_reducible exact Int.natCast_nonneg _)
    have i2 := kmk_upto hJ6 (y := (i : Int)) (by with_reducible exact Int.natCast_nonneg _)
    refine add_led F10 N12 (isList_of (N12 _ (.tail _ (.head _))).1) (isList_of (N12 _ (.head _)).1) (by rw [i1.length, i2.length, List.length_drop, List.length_take, lowsOf_length]; lia) ?_
    intro D7 h11 F11 N13 ne7
    refine args_cons ?_
    (refine' ldQ ?kF ?kv ?_; (case kF => assumption); (case kv => exact mput_same))
    refine args_nil ?_
    refine newTuple_led F11 N13 (by simp) ?_
    intro D8 h12 F12 N14 ne8
    refine hQ _ _ ⟨h12, _, _, (D8, tupOf [.ref D7, .int (i : Int) tv]) :: (D7, listOf ((slicePick ys6.toArray (some (i : Int)) none none).toList ++ (slicePick ys6.toArray none (some (i : Int)) none).toList).toArray 0) :: nx, rfl, F12, nwRe N14 [4, 5, 0, 1] 6, fun p hp => ?_, ?_, fun k hk => ?_⟩
    · rcases List.mem_cons.mp hp with rfl | hp
      · exact ⟨fun e => ne8 (I, oI) (.tail _ (.tail _ (.tail _ (.tail _ (.head _))))) e.symm, fun e => ne8 (D, lst ys') (.tail _ (.tail _ (.tail _ (.head _)))) e.symm⟩
      · rcases List.mem_cons.mp hp with rfl | hp
        · exact ⟨fun e => ne7 (I, oI) (.tail _ (.tail _ (.tail _ (.head _)))) e.symm, fun e => ne7 (D, lst ys') (.tail _ (.tail _ (.head _))) e.symm⟩
        · exact off p hp
    · simp [hJ.1]
    · by_cases hki : k < i
      · obtain ⟨y, e1, e2⟩ := hJ.2 k hki
        exact ⟨y, by rw [List.getElem?_append_left (by rw [hJ.1]; exact hki)]; exact e1, e2.mono fun p hp => .tail _ (.tail _ hp)⟩
      · have : k = i := by lia
        subst this
        refine ⟨_, by rw [List.getElem?_append_right (by rw [hJ.1]; exact Nat.le_refl _), hJ.1, Nat.sub_self]; rfl, D8, D7, _, tv, _, rfl, .head _, .tail _ (.head _), ?_⟩
        have := i1.append i2
        simpa using this
  refine done_local ?_
  intro H h9 tk9 ys9 nx9 F9 N11 offH ap9 hJ9
  clear N10 N9 F8 F7
  with_reducible refine wpAny_execs_cons ?_
  refine wpAny_Expr ?_
  refine Call_ ?_
  (refine' nmK ?kF ?kB ?ke ?_; (case kF => assumption); (case kB => assumption); (case ke => k_is))
  (refine' callWith_K (Base.X (by assumption)) ?ke ?_; (case ke => k_is))
  refine args_cons ?_
  (refine' ldM ?kF ?kv ?_; (case kF => assumption); (case kv => exact mput_same))
  refine args_nil ?_
  (refine ⟨in_of (by assumption) (by assumption), ?_⟩; try dsimp only [List.nil_append, List.cons_append])
  generalize hfx : nx9 ++ [(r, rgObj 0 ((cs.length + 1 : Nat) : Int) 1 t8 u8 v8), (L + 1, oc'), (D4, lst ys6), (D3, listOf vs.toArray 0)] = fx at N11 offH
  have hD3 : (D3, listOf vs.toArray 0) ∈ fx := by rw [← hfx]; simp
  have hrows : ∀ k, k < cs.length + 1 → ∃ y, ys9[k]? = some y ∧ RowIn fx (lowsOf cs) k y := fun k hk => by
    obtain ⟨y, e1, e2⟩ := hJ9.2 k hk
    exact ⟨y, e1, e2.mono fun p hp => by rw [← hfx]; exact List.mem_append_left _ hp⟩
  have hl9 := hJ9.1
  clear hJ9 ap9 hfx
  obtain ⟨gE, hE1, hE2⟩ := heap_of (h := h9) (rows := fx) fun p hp => (N11 p (.tail _ hp)).1
  have hEH : gE.get? H = none := by
    cases q : gE.get? H with
    | none => rfl
    | some o => exact absurd rfl (offH (H, o) (hE2 _ _ q))
  have inFx : ∀ {h : Heap} {o : Obj}, News g L h ((H, o) :: fx) → ∀ b o, gE.get? b = some o → h.get? b = some o := fun N b o e => (N (b, o) (.tail _ (hE2 b o e))).1
  have hdom : ∀ v ∈ ys9, ∃ k, k < cs.length + 1 ∧ RowIn fx (lowsOf cs) k v := fun v hv => by
    obtain ⟨k, hk, rfl⟩ := List.mem_iff_getElem.mp hv
    obtain ⟨y, e1, e2⟩ := hrows k (by lia)
    rw [List.getElem?_eq_getElem hk] at e1; cases e1
    exact ⟨k, by lia, e2⟩
  have hdom2 : ∀ v ∈ ys9, dom2 gE v := fun v hv => by obtain ⟨k, _, h⟩ := hdom v hv; exact (row_facts hE1 h).1
  try dsimp only
  refine wpAny_call (heapify_call (vs := ys9) (lt := lt2 gE) (gE := gE) (ok_of B F9 N11 (by simp)) (N11 _ (.head _)).1 (Room.deeper (k := 8) (rm.less (by lia))) ltOk2 (inFx N11) hEH hdom2 (by lia) ?_)
  intro h10 tk10 k10 hH10
  obtain ⟨F10, N12⟩ := after1 F9 N11 offH k10 hH10
  obtain ⟨hp1, hp2⟩ := heapify_law (wk2 gE) ys9
  generalize hfL (lt2 gE) (ys9.length / 2) ys9 = hv at N12 hp1 hp2
  with_reducible refine wpAny_execs_cons ?_
  refine wpAny_Assign_Name ?_
  with_reducible refine List_ ?_
  refine args_nil ?_
  refine newList_led F10 N12 (by simp) ?_
  intro K h11 F11 N13 ne13
  (refine' stM ?kF ?kN ?_; (case kF => assumption); (case kN => assumption); intro _ _ _ _)
  with_reducible refine wpAny_execs_cons ?_
  rename_i h12 tk12 F12 N14
  have neK : ∀ {o : Obj}, ∀ p ∈ (H, o) :: fx, p.1 ≠ K := fun {o} p hp => by
    rcases List.mem_cons.mp hp with rfl | hp
    · exact ne13 (H, listOf hv.toArray ys9.length) (.head _)
    · exact ne13 p (.tail _ hp)
  try dsimp only
  refine ex_cut (ColMid (fun h tk => { s with heap := h, toks := tk }) g gE L K cs ys9) ?_ ?_
  · refine While_inv2 (ColInv gE H K D3 cs ys9 fx) (n₀ := hv.length) F12 (news := (H, listOf hv.toArray ys9.length) :: (K, listOf #[] 0) :: fx) (nwRe N14 [1, 0] 2)
        ⟨hv, [], [], _, _, rfl, rfl, by exact mput_ne (by decide) mput_same, by exact mput_same, by exact mput_ne (by decide) (mput_ne (by decide) mput_same), hp1, hp2, List.Pairwise.nil, fun a ha => (List.not_mem_nil ha).elim, StrsAre.nil⟩ ?_ PassesOwn.never
    rintro k m' nx h tk F1 N1 ⟨vs', outs, col, n', n'', rfl, rfl, a1, a2, a3, hh1, hh2, hh3, hh4, hh5⟩
    refine wpAny_isTrue_Compare1 ?_
    (refine' ldM ?kF ?kv ?_; (case kF => assumption); (case kv => assumption))
    with_reducible refine List_ ?_
    refine args_nil ?_
    refine newList_led F1 N1 (by simp) ?_
    intro Z h13 F13 N15 neZ
    skip
    refine ne_empty (isList_of (N15 _ (.tail _ (.head _))).1) (isList_of (N15 _ (.head _)).1) (Room.line (Room.deeper (k := 8) (rm.less (by lia)))) ?_
    with_reducible refine wpAny_truthy_bool ?_
    by_cases hc : vs' = []
    · rw [if_neg (by simpa using hc)]
      subst hc
      rw [List.append_nil] at hh2
      exact ⟨rfl, h13, _, m', outs, col, n'', rfl, F13, fun p hp => N15 p (by rw [List.mem_singleton.mp hp]; simp), a2, hh2, hh3, hh5⟩
    · rw [if_pos (by simpa using hc)]
      have N16 : News g L h13 ((H, listOf vs'.toArray n') :: (K, listOf col.toArray n'') :: fx) := fun p hp => N15 p (.tail _ hp)
      with_reducible refine wpAny_execs_cons ?_
      refine wpAny_Expr ?_
      refine MethodCall_ ?_
      (refine' ldM ?kF ?kv ?_; (case kF => assumption); (case kv => assumption))
      refine getMethod_lst slot_list_append (by kernel_rfl) (N16 _ (.tail _ (.head _))).1 ?_
      try dsimp only
      refine callWith_method1 ?_
      refine args_cons ?_
      with_reducible refine Subscript_ ?_
      (refine' ldM ?kF ?kv ?_; (case kF => assumption); (case kv => assumption))
      with_reducible refine wpAny_BinOp ?_
      with_reducible refine Subscript_ ?_
      refine Call_ ?_
      (refine' nmK ?kF ?kB ?ke ?_; (case kF => assumption); (case kB => assumption); (case ke => k_is))
      (refine' callWith_K (Base.X (by assumption)) ?ke ?_; (case ke => k_is))
      refine args_cons ?_
      (refine' ldM ?kF ?kv ?_; (case kF => assumption); (case kv => assumption))
      refine args_nil ?_
      (refine ⟨in_of (by assumption) (by assumption), ?_⟩; try dsimp only [List.nil_append, List.cons_append])
      try dsimp only
      have hsub : ∀ v ∈ vs', v ∈ ys9 := fun v hv => hh2.mem_iff.mp (List.mem_append_right _ hv)
      have hlen' : vs'.length ≤ ys9.length := by have := hh2.length_eq; rw [List.length_append] at this; lia
      refine wpAny_call (heappop_call (vs := vs') (lt := lt2 gE) (gE := gE) (ok_of B F13 N16 (by simp)) (N16 _ (.head _)).1 (Room.deeper (k := 8) (rm.less (by lia))) ltOk2 (fun b o e => (N16 (b, o) (.tail _ (.tail _ (hE2 b o e)))).1) hEH (fun v hv => hdom2 v (hsub v hv)) (by lia) hc ?_)
      intro h14 tk14 n14 k14 hH14
      obtain ⟨F14, N17⟩ := after1 F13 N16 (fun p hp => by
        rcases List.mem_cons.mp hp with rfl | hp
        · exact fun e => neK (o := lst []) (H, lst []) (.head _) e.symm
        · exact offH p hp) k14 hH14
      obtain ⟨q1, q2, q3⟩ := pop_law (wk2 gE) hc hh1
      have hpv : popV vs' ∈ vs' := q2.mem_iff.mpr (.head _)
      obtain ⟨kk, hkk, hrow⟩ := hdom _ (hsub _ hpv)
      obtain ⟨d1, d2, T, l, tt, d3, d4⟩ := row_facts hE1 hrow
      generalize hpe : popV vs' = pv at hpv hrow d1 d2 d3 q2 q3 ⊢
      subst d3
      have hT14 : h14.get? T = some (tupOf [.ref l, .int kk tt]) := (N17 _ (.tail _ (.tail _ (hE2 _ _ d4)))).1
      have hS14 : h14.IsList D3 vs.toArray := isList_of (N17 _ (.tail _ (.tail _ hD3))).1
      with_reducible refine wpAny_Constant_int ?_
      refine item_tupleT (l := [.ref l, .int kk tt]) (j := 1) (isTup_of hT14) (by decide) (by decide) rfl rfl ?_
      with_reducible refine wpAny_Constant_int ?_
      with_reducible refine PyProof.Rows.sub_int ?_
      obtain ⟨tx, hx⟩ : ∃ tx, vs[(if (kk : Int) - 1 < 0 then (kk : Int) - 1 + vs.length else (kk : Int) - 1).toNat]? = some (.str (ahead cs kk) tx) := by
        have e : (if (kk : Int) - 1 < 0 then (kk : Int) - 1 + vs.length else (kk : Int) - 1).toNat = if kk = 0 then cs.length else kk - 1 := by
          by_cases h0 : kk = 0
          · rw [if_pos (by lia), if_pos h0]; lia
          · rw [if_neg (by lia), if_neg h0]; with_reducible exact ar30z (by assumption)
        rw [e]
        refine hvss.get _ _ ?_
        unfold ahead
        rw [List.getD_eq_getElem?_getD, List.getElem?_eq_getElem (by simp only [List.length_append, List.length_map, List.length_singleton]; split <;> lia)]; rfl
      refine item_ends hS14 (by lia) (by lia) (by lia) hx ?_
      refine args_nil ?_
      have N18 : News g L h14 ((K, listOf col.toArray n'') :: (H, listOf (popL (lt2 gE) vs').toArray n14) :: fx) := nwRe N17 [1, 0] 2
      refine append_at (N18 _ (.head _)).1 (fun h15 hs15 hK15 => ?_) (by rw [List.size_toArray, hh5.length, List.length_map]; have := hh2.length_eq; rw [List.length_append] at this; simp only [sizeLine]; lia)
      obtain ⟨F15, N19⟩ := after1 F14 N18 neK (keeps_same hs15) hK15
      rw [List.push_toArray] at N19
      with_reducible refine wpAny_execs_nil ?_
      have q4 := q2.length_eq
      rw [List.length_cons] at q4
      refine ⟨h15, _, m', (H, listOf (popL (lt2 gE) vs').toArray n14) :: (K, listOf (col ++ [Value.str (ahead cs kk) tx]).toArray (n'' + 1)) :: fx, (popL (lt2 gE) vs').length, rfl, F15, nwRe N19 [1, 0] 2, by lia, popL (lt2 gE) vs', outs ++ [.ref T], col ++ [.str (ahead cs kk) tx], n14, n'' + 1, rfl, rfl, a1, a2, a3, q1, ?_, ?_, ?_, ?_⟩
      · rw [List.append_assoc]
        exact (List.Perm.append_left outs q2.symm).trans hh2
      · rw [List.pairwise_append]
        exact ⟨hh3, List.pairwise_singleton _ _, fun a ha b hb => by rw [List.mem_singleton.mp hb]; exact hh4 a ha _ hpv⟩
      · intro a ha b hb
        have hb' : b ∈ vs' := q2.mem_iff.mpr (.tail _ hb)
        rcases List.mem_append.mp ha with ha | ha
        · exact hh4 a ha b hb'
        · rw [List.mem_singleton.mp ha]; exact q3 b hb'
      · rw [List.map_append, List.map_cons, List.map_nil, d2]
        exact strs_snoc hh5 _ _
  · rintro _ ⟨h, tk, m', outs, col, n', rfl, F16, N20, a1, b1, b2, b3⟩
    with_reducible refine wpAny_execs_cons ?_
    with_reducible refine wpAny_Return_some ?_
    (refine' ldM ?kF ?kv ?_; (case kF => assumption); (case kv => assumption))
    have hrow : ∀ v ∈ outs, row2 gE v = (rot (lowsOf cs) (row2 gE v).2.toNat, ((row2 gE v).2.toNat : Int)) := fun v hv => by
      obtain ⟨k, _, h⟩ := hdom v (b1.mem_iff.mp hv)
      rw [(row_facts hE1 h).2.1]; simp
    refine post h tk K n' col (outs.map fun v => (row2 gE v).2.toNat) (fun b o e nb => F16.keep b o (hg b o e (by simp))) (N20 _ (.head _)).1 ?_ ?_ ?_ ?_
    · cases q : s.heap.get? K with
      | none => rfl
      | some o => have := (N20 _ (.head _)).2.2; rw [hg _ _ q (by simp)] at this; cases this
    · refine (b1.map _).trans (List.Perm.of_eq ?_)
      apply List.ext_getElem?
      intro i
      rw [List.getElem?_map]
      by_cases hi : i < cs.length + 1
      · obtain ⟨y, e1, e2⟩ := hrows i hi
        rw [e1, List.getElem?_range hi]
        simp [(row_facts hE1 e2).2.1]
      · rw [List.getElem?_eq_none (by lia), List.getElem?_eq_none (by simpa using hi)]; rfl
    · rw [List.pairwise_map]
      refine List.Pairwise.imp_of_mem (fun {a b} ha hb h => ?_) b2
      rw [lt2, hrow a ha, hrow b hb] at h
      simpa using h
    · rw [List.map_map]; exact b3

theorem ri_no_len : typeLookup (.type "range_iterator") (Str.ofString "__len__") = pure none := by rw [typeLookup_type, builtinLookup_eq_fast]; kernel_rfl
section
variable {prog : Program} {w : World} {A : Around} {E : Value → Shared → Prop} {s : Shared}
theorem len_ri_raises {it : Addr} {x left step : Int} {Q : Value → Shared → Prop} (hh : A.handled = none) (hit : s.heap.get? it = some (riObj x left step))
    (h : ∀ h' tk e, Heap.NewExc s.heap h' e "TypeError" → E (.ref e) { s with heap := h', toks := tk }) : wpAny (model prog w) A (call (.builtin "len") [.ref it]) Q E s := by
  have hT : s.TypeIs (.ref it) "range_iterator" := ⟨_, hit, rfl⟩
  refine call_function_entry kind_len plain_len entry_len (args_len1 _) ?_
  unfold Builtin.«len»
  refine wpAny_bind (wpAny_of_eq (a := Value.ref it) (by first | rfl | kernel_rfl!) ?_)
  refine wpAny_bind (wpAny_callSpecial?_none (name := Str.ofString "__len__") hT ri_no_len ?_)
  refine wpAny_bind (wpAny_rule ?_)
  refine wpAny_bind (wpAny_typeNameOf' hT (by decide) ?_)
  refine' wpAny_raiseTypeError ?hh ?hk ?hm
  case hh => exact hh
  case hk => intro h' tk e x; exact h h' tk e x
  case hm => decide +kernel
theorem iter_ri_call {it : Addr} {x left step : Int} {Q : Value → Shared → Prop} (hit : s.heap.get? it = some (riObj x left step)) (h : Q (.ref it) s) : wpAny (model prog w) A (call (.builtin "iter") [.ref it]) Q E s := by
  refine call_function_entry (by decide +kernel) (by decide +kernel) kdk_entry_iter (kdk_args_iter _) ?_
  unfold Builtin.«iter»
  refine wpAny_bind (m := someArgs "iter" 1 2 _) (wpAny_of_eq (a := [Value.ref it]) (by first | rfl | kernel_rfl!) ?_)
  show wpAny _ _ (pyIter (.ref it) >>= _) _ _ _
  exact wpAny_bind (pyIter_ri hit (wpAny_pure ⟨_, rfl, h⟩))
end

inductive FrsAt : List Env → List (Addr × Obj) → Prop
  | nil : FrsAt [] []
  | cons {env : Env} {a : Addr} {o : Obj} {es : List Env} {ps : List (Addr × Obj)} : env.scope.kind ≠ .module → env.frame = some a → (∀ vs, o.data ≠ .fields vs) → FrsAt es ps → FrsAt (env :: es) ((a, o) :: ps)
inductive SameFrs : List (Addr × Obj) → List (Addr × Obj) → Prop
  | nil : SameFrs [] []
  | cons {a : Addr} {o o' : Obj} {ps qs : List (Addr × Obj)} : o'.data = o.data → SameFrs ps qs → SameFrs ((a, o) :: ps) ((a, o') :: qs)
theorem SameFrs.refl : ∀ ps, SameFrs ps ps
  | [] => .nil
  | (_, _) :: ps => .cons rfl (SameFrs.refl ps)
theorem SameFrs.trans {ps qs rs : List (Addr × Obj)} (x : SameFrs ps qs) (y : SameFrs qs rs) : SameFrs ps rs := by
  induction x generalizing rs with
  | nil => cases y; exact .nil
  | cons h x ih => cases y with | cons h' y => exact .cons (h'.trans h) (ih y)
theorem SameFrs.addrs {ps qs : List (Addr × Obj)} (x : SameFrs ps qs) : qs.map (·.1) = ps.map (·.1) := by
  induction x with
  | nil => rfl
  | cons h x ih => simp [ih]
theorem FrsAt.same {es : List Env} {ps qs : List (Addr × Obj)} (x : FrsAt es ps) (y : SameFrs ps qs) : FrsAt es qs := by
  induction x generalizing qs with
  | nil => cases y; exact .nil
  | cons h1 h2 h3 x ih => cases y with | cons h y => exact .cons h1 h2 (fun vs => h ▸ h3 vs) (ih y)
theorem FrsAt.fun {es : List Env} {ps : List (Addr × Obj)} {h base : Heap} (x : FrsAt es ps) (hh : ∀ p ∈ ps, h.get? p.1 = some p.2) (hb : ∀ p ∈ ps, base.get? p.1 = none) : h.FunFrames base es := by
  induction x with
  | nil => trivial
  | cons h1 h2 h3 x ih => exact ⟨h1, ⟨_, _, h2, hb _ (.head _), hh _ (.head _), h3⟩, ih (fun p hp => hh p (.tail _ hp)) fun p hp => hb p (.tail _ hp)⟩
theorem FrsAt.data {es : List Env} {ps : List (Addr × Obj)} (x : FrsAt es ps) : ∀ p ∈ ps, ∀ vs, p.2.data ≠ .fields vs := by
  induction x with
  | nil => intro p hp; cases hp
  | cons h1 h2 h3 x ih => intro p hp; rcases List.mem_cons.mp hp with rfl | hp; exact h3; exact ih p hp
theorem same_of {h h' : Heap} : ∀ {ps : List (Addr × Obj)}, (∀ p ∈ ps, h.get? p.1 = some p.2) → (∀ b o, h.get? b = some o → b ∈ ps.map (·.1) → ∃ o', h'.get? b = some o' ∧ o'.data = o.data) → ∃ qs, SameFrs ps qs ∧ ∀ p ∈ qs, h'.get? p.1 = some p.2
  | [], _, _ => ⟨[], .nil, fun _ x => nomatch x⟩
  | (a, o) :: ps, h1, h2 => by
    obtain ⟨qs, x, y⟩ := same_of (ps := ps) (fun p hp => h1 p (.tail _ hp)) fun b o e hb => h2 b o e (.tail _ hb)
    obtain ⟨o', e1, e2⟩ := h2 a o (h1 _ (.head _)) (.head _)
    exact ⟨(a, o') :: qs, .cons e2 x, fun p hp => by rcases List.mem_cons.mp hp with rfl | hp; exact e1; exact y p hp⟩

section
variable {prog : Program} {w : World} {A : Around} {s : Shared} {g : Heap} {L a : Addr} {m : Str → Option Value} {cn : Str} {cs : Scope} {ccd : Value} {cl : List (Str × Addr)} {nx frs : List (Addr × Obj)} {outer : List Env}
theorem try_len {orelse : List Stmt} {p1 p2 p3 p4 p5 p6 p7 p8 p9 p10 p11 : Pos} {k : Nat} {it : Addr} {x left step : Int} {Q : Flow → Shared → Prop} (B : Base w g) (rm : Room A 2)
    (F : Fr g L s.heap m) (N : News g L s.heap (frs ++ nx)) (hfr : A.frames = some (envX cn cs L a ccd cl :: outer)) (hf : FrsAt outer frs) (hap : ∀ p ∈ frs, ∀ q ∈ nx, p.1 ≠ q.1) (hit : (it, riObj x left step) ∈ nx) (hm : m "iterable" = some (.ref it))
    (h : ∀ h' tk frs', SameFrs frs frs' → Fr g L h' m → News g L h' (frs' ++ nx) → Q .next { s with heap := h', toks := tk })
    (hk : cs.kind = .function := by rfl) (hl : (envX cn cs L a ccd cl).kindOf "iterable" = some .local := by rfl) (hx1 : (envX cn cs L a ccd cl).kindOf "TypeError" = some .globalImplicit := by rfl) (hx2 : (envX cn cs L a ccd cl).kindOf "AttributeError" = some .globalImplicit := by rfl) (hx3 : (envX cn cs L a ccd cl).kindOf "len" = some .globalImplicit := by rfl) :
    wpAny (model prog w) A (exec (.Try [.Assign [.Name "size" p1] (.Call (.Name "len" p2) [.Name "iterable" p3] [] p4) p5] [.ExceptHandler (some (.Tuple [.Name "TypeError" p6, .Name "AttributeError" p7] k p8)) none [.Pass p9] p10] orelse [] p11) (envX cn cs L a ccd cl)) Q No s := by
  refine wpAny_Try_except ?_
  have N' : News g L s.heap nx := fun p hp => N p (List.mem_append_right _ hp)
  refine wpAny_execs_cons (wpAny_Assign_Name (Call_ ?_))
  refine nmB F B (by k_is) (by boot_by_name) (by decide) ?_ hk hx3
  refine PyProof.Rows.callWith_builtin1 ?_
  refine args_cons (ldM F hm ?_ hk hl)
  refine args_nil ?_
  refine len_ri_raises rm.hand (N' _ hit).1 ?_
  intro h1 tk1 e hex
  obtain ⟨oe, t0, he1, hc1, hd1⟩ := hex.there
  have F1 : Fr g L h1 m := F.keeps hex.keeps
  have N1 : News g L h1 (frs ++ nx) := fun p hp => ⟨hex.keeps _ _ (N p hp).1, (N p hp).2⟩
  obtain ⟨oL, hoL, hnL⟩ := LCg.ns_obj F.ns
  have hLd : ∀ vs, oL.data ≠ .fields vs := fun vs q => by obtain ⟨es, ep, hd, _⟩ := hnL; rw [hd] at q; cases q
  have hf' : FrsAt (envX cn cs L a ccd cl :: outer) ((L, oL) :: frs) := .cons (by rw [show (envX cn cs L a ccd cl).scope.kind = cs.kind from rfl, hk]; decide) rfl hLd hf
  have allAt : ∀ p ∈ (L, oL) :: frs, s.heap.get? p.1 = some p.2 := fun p hp => by
    rcases List.mem_cons.mp hp with rfl | hp
    · exact hoL
    · exact (N p (List.mem_append_left _ hp)).1
  generalize hfl : ((L, oL) :: frs).map (·.1) = fl
  have hb : ∀ p ∈ (L, oL) :: frs, (hideAll s.heap fl).get? p.1 = none := fun p hp => hideAll_none _ (by rw [← hfl]; exact List.mem_map_of_mem hp)
  have hFF : h1.FunFrames (hideAll s.heap fl) (envX cn cs L a ccd cl :: outer) := hf'.fun (fun p hp => hex.keeps _ _ (allAt p hp)) hb
  have hst : (hideAll s.heap fl).StaysIn h1 := fun b o e => hex.keeps _ _ (of_hideAll _ e)
  have hen : (hideAll s.heap fl).get? e = none := by
    cases q : (hideAll s.heap fl).get? e with
    | none => rfl
    | some o => have := of_hideAll _ q; rw [hex.new] at this; cases this
  unfold noteFrame
  simp only [show (envX cn cs L a ccd cl).frame = some L from rfl]
  refine wpAny_bind (wpAny_field he1 hd1 (x := .none) rfl ?_)
  rw [if_neg (by decide)]
  refine wpAny_entryW hfr hFF rfl he1 hst hen hd1 (by simp) (a0 := t0) rfl ?_
  rintro h2 ⟨st2, ff2, tr2, sl2⟩
  refine wpAny_setFlight_noneW st2 ff2 tr2 ?_
  intro h3 st3 ff3 tr3 sl3
  have land : ∀ h : Heap, (hideAll s.heap fl).StaysIn h → (∀ b o, s.heap.get? b = some o → b ∈ fl → ∃ o', h.get? b = some o' ∧ o'.data = o.data) → ∃ frs', SameFrs frs frs' ∧ Fr g L h m ∧ News g L h (frs' ++ nx) := by
    intro h st dt
    have nofl : ∀ {b o}, g.get? b = some o → b ∉ fl := fun {b o} e q => by
      rw [← hfl] at q
      obtain ⟨p, hp, rfl⟩ := List.mem_map.mp q
      rcases List.mem_cons.mp hp with rfl | hp
      · rw [Heap.get?_none_of_le F.above] at e; cases e
      · rw [(N p (List.mem_append_left _ hp)).2.2] at e; cases e
    obtain ⟨frs', x, y⟩ := same_of (h := s.heap) (h' := h) (ps := frs) (fun p hp => allAt p (.tail _ hp)) fun b o e hb => dt b o e (by rw [← hfl]; exact .tail _ hb)
    refine ⟨frs', x, ⟨?_, fun b o e => st b o (hideAll_get _ (F.keep b o e) (nofl e)), F.above⟩, fun p hp => ?_⟩
    · obtain ⟨o', e1, e2⟩ := dt L oL hoL (by rw [← hfl]; exact .head _)
      obtain ⟨es, ep, hd, r⟩ := hnL
      exact ⟨o', es, ep, e1, e2.trans hd, r⟩
    · rcases List.mem_append.mp hp with hp | hp
      · have : p.1 ∈ frs.map (·.1) := by rw [← x.addrs]; exact List.mem_map_of_mem hp
        obtain ⟨q, hq, e⟩ := List.mem_map.mp this
        exact ⟨y p hp, e ▸ (N q (List.mem_append_left _ hq)).2.1, e ▸ (N q (List.mem_append_left _ hq)).2.2⟩
      · refine ⟨st _ _ (hideAll_get _ (N' p hp).1 fun q => ?_), (N' p hp).2⟩
        rw [← hfl] at q
        obtain ⟨r, hr, e⟩ := List.mem_map.mp q
        rcases List.mem_cons.mp hr with rfl | hr
        · exact (N' p hp).2.1 e.symm
        · exact hap r hr p hp e
  have dat3 : ∀ b o, s.heap.get? b = some o → b ∈ fl → ∃ o', h3.get? b = some o' ∧ o'.data = o.data := fun b o e hb => by
    have hnf : ∀ vs, o.data ≠ .fields vs := by
      rw [← hfl] at hb
      obtain ⟨p, hp, rfl⟩ := List.mem_map.mp hb
      have := allAt p hp; rw [e] at this; cases this
      exact hf'.data p hp
    obtain ⟨sl, e2⟩ := sl2 b o (hex.keeps _ _ e) hnf
    exact ⟨_, sl3 b _ e2 hnf, rfl⟩
  obtain ⟨frs3, x3, F3, N3⟩ := land h3 st3 dat3
  refine wpAny_handleBy_tup2 (T1 := "TypeError") (T2 := "AttributeError") (X := "TypeError") (b1 := true) (b2 := false) (by rw [isSubtype_type]; kernel_rfl) (by rw [isSubtype_type]; kernel_rfl) (by rw [isSubtype_type]; kernel_rfl) (by rw [isSubtype_type]; kernel_rfl) (by rw [isSubtype_type]; kernel_rfl) (by rw [isSubtype_type]; kernel_rfl) ?_
  refine Tuple_ (args_cons ?_)
  refine nmB F3 B (by k_is) (by boot_by_name) (by decide) ?_ hk hx1
  refine args_cons ?_
  refine nmB F3 B (by k_is) (by boot_by_name) (by decide) ?_ hk hx2
  refine args_nil ?_
  refine wpAny_newTuple ?_
  refine ⟨_, rfl, ⟨_, Heap.get?_push_size _ rfl, rfl, _, rfl⟩, ?_, ?_⟩
  · obtain ⟨oe', _, _, _, _, a1, ⟨a2, _⟩, _⟩ := tr3
    exact ⟨oe', Heap.get?_push_of_some _ a1, a2.trans hc1⟩
  simp only [Bool.or_false, if_true]
  have up4 : ∀ b o, h3.get? b = some o → (h3.push { cls := .type "tuple", data := .seq #[.type "TypeError", .type "AttributeError"] }).get? b = some o := fun b o e => Heap.get?_push_of_some _ e
  have st4 : (hideAll s.heap fl).StaysIn (h3.push { cls := .type "tuple", data := .seq #[.type "TypeError", .type "AttributeError"] }) := fun b o e => up4 _ _ (st3 b o e)
  have ff4 := ff3.of_keeps (h' := h3.push { cls := .type "tuple", data := .seq #[.type "TypeError", .type "AttributeError"] }) fun b o e _ => ⟨o, up4 _ _ e, rfl⟩
  have tr4 : (h3.push { cls := .type "tuple", data := .seq #[.type "TypeError", .type "AttributeError"] }).TracedW (hideAll s.heap fl) e oe.cls t0 := by
    obtain ⟨oe', vs, T, oT, ts, a1, a2, a3, a4, a5, a6, a7, a8, a9⟩ := tr3
    exact ⟨oe', vs, T, oT, ts, up4 _ _ a1, a2, a3, a4, a5, a6, up4 _ _ a7, a8, a9⟩
  refine wpAny_setFlight_noneW st4 ff4 tr4.at ?_
  intro h5 st5 ff5 tr5 sl5
  obtain ⟨frs5, x5, F5, N5⟩ := land h5 st5 fun b o e hb => by
    obtain ⟨o', e1, e2⟩ := dat3 b o e hb
    have hnf : ∀ vs, o'.data ≠ .fields vs := by
      rw [e2]
      rw [← hfl] at hb
      obtain ⟨p, hp, rfl⟩ := List.mem_map.mp hb
      have := allAt p hp; rw [e] at this; cases this
      exact hf'.data p hp
    exact ⟨o', sl5 b o' (up4 _ _ e1) hnf, e2⟩
  refine wpAny_execs_cons (wpAny_Pass ?_)
  refine wpAny_execs_nil ?_
  exact h h5 _ frs5 x5 F5 N5
end

section
variable {M : Model} {A : Around} {E : Value → Shared → Prop} {s : Shared} {env : Env} {pos : Pos} {first : List Value} {Q : Value → Shared → Prop}
theorem callWith_fun {f : Addr} {oc : Value} {od : Option Addr} {fd : FuncData} {osl : Array (Option Value)} {e : Expr} {rest : List Expr}
    (h : wpAny M A (spliced (backTo pos (starEach (e :: rest) env))) (fun vs s₁ => s₁.heap.get? f = some ⟨oc, od, .func fd, osl⟩ ∧ wpAny M A (call (.ref f) (first ++ vs)) Q E s₁) E s)
    (he : starEach (e :: rest) env = (false, eval e env) :: starEach rest env := by rfl) (hplain : (backTo pos (starEach rest env)).any (·.1) = false := by rfl) :
    wpAny M A (callWith pos (.ref f) first (backTo pos (starEach (e :: rest) env)) []) Q E s := by
  rw [he] at h ⊢
  exact callWith_of (P := fun h => h.get? f = some ⟨oc, od, .func fd, osl⟩) (by show ((false || (backTo pos (starEach rest env)).any (·.1)) || false) = false; rw [hplain]; rfl)
    (fun h e => ⟨.frame, .inl rfl, (Looks.ld (part := none) e).andThen .now⟩) (evalArgs_plain h)
end

structure KeyOk (prog : Program) (w : World) (κ : Int → Int) (dom : Int → Prop) (gK : Heap) (fk : Addr) : Prop where
  obj : ∃ oc od fd osl, gK.get? fk = some ⟨oc, od, .func fd, osl⟩
  run : ∀ (A : Around) (s : Shared) (Q : Value → Shared → Prop) (e : Int) (t : Tok), Room A 8 → dom e → (∀ b o, gK.get? b = some o → s.heap.get? b = some o) →
    (∀ h' tk t', Keeps [] s.heap h' → Q (.int (κ e) t') { s with heap := h', toks := tk }) → wpAny (model prog w) A (call (.ref fk) [.int e t]) Q No s

inductive Row3 (nx : List (Addr × Obj)) (κ : Int → Int) (x step : Int) (j : Nat) (o : Int) (v : Value) : Prop
  | mk (T : Addr) (t1 t2 t3 : Tok) : v = .ref T → (T, tupOf [.int (κ (x + j * step)) t1, .int o t2, .int (x + j * step) t3]) ∈ nx → Row3 nx κ x step j o v
theorem Row3.mono {nx nx' : List (Addr × Obj)} {κ : Int → Int} {x step : Int} {j : Nat} {o : Int} {v : Value} (h : Row3 nx κ x step j o v) (hs : ∀ p ∈ nx, p ∈ nx') : Row3 nx' κ x step j o v :=
  let ⟨T, t1, t2, t3, h1, h2⟩ := h; ⟨T, t1, t2, t3, h1, hs _ h2⟩

structure Rows3 (nx : List (Addr × Obj)) (κ : Int → Int) (x step c1 : Int) (i : Nat) (ys : List Value) : Prop where
  len : ys.length = i
  row : ∀ k, k < i → ∃ y, ys[k]? = some y ∧ Row3 nx κ x step k (k * c1) y
inductive ZipJ (z TI TO i1 it : Addr) (n N : Nat) (x step c1 : Int) (κ : Int → Int) (i : Nat) (ys : List Value) (nx : List (Addr × Obj)) : Prop
  | mk (oTO' : Obj) (rows : List (Addr × Obj)) : (∃ a b, oTO' = prObj a b) → nx = (z, zpObj TI TO .none) :: (TI, prObj (.ref i1) (.ref it)) :: (TO, oTO') :: (i1, riObj (0 + i * c1) ((n : Int) - i) c1) :: (it, riObj (x + i * step) ((N : Int) - i) step) :: rows →
      (∀ p ∈ rows, p.1 ∉ [z, TI, TO, i1, it]) → Rows3 rows κ x step c1 i ys → ZipJ z TI TO i1 it n N x step c1 κ i ys nx

section
variable {z TI TO i1 it D : Addr} {o0 o1 o2 o3 o4 o5 : Obj} {r : List (Addr × Obj)}
theorem zmap : ∀ x ∈ [z, TO, i1, it], x ∈ ((D, o0) :: (z, o1) :: (TI, o2) :: (TO, o3) :: (i1, o4) :: (it, o5) :: r).map (·.1) := by simp
theorem zmap2 : ∀ x ∈ [z, i1], x ∈ ((D, o0) :: (z, o1) :: (TI, o2) :: (TO, o3) :: (i1, o4) :: (it, o5) :: r).map (·.1) := by simp
theorem zmap5 : ∀ x ∈ [z, TI, TO, i1, it], x ∈ ((z, o1) :: (TI, o2) :: (TO, o3) :: (i1, o4) :: (it, o5) :: r).map (·.1) := by simp
theorem zat : z ∈ ((D, o0) :: (z, o1) :: (TI, o2) :: (TO, o3) :: (i1, o4) :: (it, o5) :: r).map (·.1) ∧ TI ∈ ((D, o0) :: (z, o1) :: (TI, o2) :: (TO, o3) :: (i1, o4) :: (it, o5) :: r).map (·.1) ∧
    TO ∈ ((D, o0) :: (z, o1) :: (TI, o2) :: (TO, o3) :: (i1, o4) :: (it, o5) :: r).map (·.1) ∧ i1 ∈ ((D, o0) :: (z, o1) :: (TI, o2) :: (TO, o3) :: (i1, o4) :: (it, o5) :: r).map (·.1) ∧ it ∈ ((D, o0) :: (z, o1) :: (TI, o2) :: (TO, o3) :: (i1, o4) :: (it, o5) :: r).map (·.1) := by simp
theorem zat5 : it ∈ ((z, o1) :: (TI, o2) :: (TO, o3) :: (i1, o4) :: (it, o5) :: r).map (·.1) := by simp
theorem zsub {α : Type} {a b c d e f p : α} {r : List α} (hp : p ∈ a :: f :: r) : p ∈ a :: b :: c :: d :: e :: f :: r := by
  rcases List.mem_cons.mp hp with rfl | hp
  · exact .head _
  · exact .tail _ (.tail _ (.tail _ (.tail _ (.tail _ hp))))
end
theorem zip_block {prog : Program} {w : World} {A : Around} {env : Env} {scope : Scope} {cl : List (Str × Addr)} {pos : Pos} {use : Option (Value → Sem Unit)} {s : Shared} {z TI TO i1 it fk c L : Addr} {oc oTO : Obj} {n N : Nat} {x step c1 : Int} {κ : Int → Int} {gK g₀ : Heap}
    {Q : Value → Shared → Prop} {m₀ : Str → Option Value} {nx₀ : List (Addr × Obj)} {iter : Expr} {p1 p2 p3 p4 p5 p6 q1 q2 q3 : Pos} {k1 k2 : Nat}
    (Z : ZipSt s.heap z TI TO i1 it .none 0 n c1 x N step) (F : Fr g₀ L s.heap m₀) (N₀ : News g₀ L s.heap ((z, zpObj TI TO .none) :: (TI, prObj (.ref i1) (.ref it)) :: (TO, oTO) :: (i1, riObj 0 n c1) :: (it, riObj x N step) :: nx₀))
    (off₀ : ∀ p ∈ nx₀, p.1 ∉ [z, TI, TO, i1, it]) (hc : (c, oc) ∈ nx₀) (hoc : oc.data = .cell (some (.ref fk))) (hK : KeyOk prog w κ (fun e => ∃ i : Nat, i < N ∧ e = x + i * step) gK fk) (hgK : ∀ b o, gK.get? b = some o → g₀.get? b = some o)
    (hnN : n ≤ N) (hN : N < 60) (rm : Room A 8)
    (done : CompDone g₀ L m₀ ((it, riObj (x + n * step) ((N : Int) - n) step) :: nx₀) (fun ys nx => Rows3 nx κ x step c1 n ys) use prog w A s Q)
    (hcl : cl.lookup (Str.ofString "key") = some c := by rfl) (hcell : ∀ y ∈ scope.names, y.2 ≠ .cell := by decide) (hkind : scope.kind = .function := by rfl) (hxi : scope.names.lookup (Str.ofString "i") = some .local := by rfl) (hxe : scope.names.lookup (Str.ofString "elem") = some .local := by rfl)
    (hxk : ∀ C, (compEnvC scope cl C env).kindOf "key" = some .cell := by intro _; rfl) :
    CompBlock prog w A env scope cl (.ListComp (.Tuple [.Call (.Name "key" p1) [.Name "elem" p2] [] p3, .Name "i" p4, .Name "elem" p5] k1 p6) [⟨.Tuple [.Name "i" q1, .Name "elem" q2] k2 q3, iter, [], 0⟩] scope pos) use Q (.ref z) s := by
  have nd := Z.nd
  have nd' := nd
  simp only [List.nodup_cons, List.mem_cons, List.not_mem_nil, or_false, not_or] at nd'
  obtain ⟨⟨zTI, zTO, zi1, zi2⟩, ⟨TITO, TIi1, TIi2⟩, ⟨TOi1, TOi2⟩, i12, _⟩ := nd'
  have hoTO : ∃ a b, oTO = prObj a b := by
    obtain ⟨a, b, e⟩ := Z.hTO
    have := (N₀ _ (.tail _ (.tail _ (.head _)))).1
    rw [e] at this; cases this; exact ⟨a, b, rfl⟩
  refine comp_rule (n := n) (foot := [(z, zpObj TI TO .none), (TI, prObj (.ref i1) (.ref it)), (TO, oTO), (i1, riObj 0 n c1), (it, riObj x N step)])
    (fun i ys m nx => ZipJ z TI TO i1 it n N x step c1 κ i ys nx)
    (fun ys nx => ∃ rows, nx = (it, riObj (x + n * step) ((N : Int) - n) step) :: rows ∧ (∀ p ∈ rows, p.1 ∉ [z, TI, TO, i1, it]) ∧ Rows3 rows κ x step c1 n ys)
    hcell hkind (by lia) (fun p hp => (N₀ p (List.mem_append_left nx₀ hp)).1)
    (fun s' Q' hk hQ => wpAny_pyIter_zip (hk _ _ Z.hz) hQ) ⟨oTO, [], hoTO, by simp, by simp, rfl, fun _ hk => absurd hk (Nat.not_lt_zero _)⟩ ?_ ?_ ?_
  · rintro g C D i ys m nx h tk hg hi ⟨oTO', rows, ⟨a, b, rfl⟩, rfl, hrn, hR⟩ F1 N1 off1
    have Z1 : ZipSt h z TI TO i1 it .none (0 + i * c1) ((n : Int) - i) c1 (x + i * step) ((N : Int) - i) step :=
      ⟨(N1 _ (.tail _ (.head _))).1, (N1 _ (.tail _ (.tail _ (.head _)))).1, ⟨a, b, (N1 _ (.tail _ (.tail _ (.tail _ (.head _))))).1⟩, (N1 _ (.tail _ (.tail _ (.tail _ (.tail _ (.head _)))))).1, (N1 _ (.tail _ (.tail _ (.tail _ (.tail _ (.tail _ (.head _))))))).1, nd⟩
    refine zip_next_item Z1 (by lia) (by lia) ?_
    intro h2 T tk2 t1 t2 K2 Z2 hT hTn
    refine ⟨_, rfl, ?_⟩
    refine zip_go Z2 ?_
    intro h3 Z3 K3
    have inF : ∀ {p : Addr × Obj}, p ∈ rows → p.1 ∉ [z, TO, i1, it] := fun {p} hp q => hrn p hp (by
      simp only [List.mem_cons, List.not_mem_nil, or_false] at q ⊢; rcases q with h | h | h | h <;> simp [h])
    have hTz : T ≠ z := fun e => by rw [e, Z1.hz] at hTn; cases hTn
    have hDn : D ∉ [z, TO, i1, it] := fun q => by
      simp only [List.mem_cons, List.not_mem_nil, or_false] at q
      rcases q with h | h | h | h
      · exact off1 (z, _) (.head _) h.symm
      · exact off1 (TO, _) (.tail _ (.tail _ (.head _))) h.symm
      · exact off1 (i1, _) (.tail _ (.tail _ (.tail _ (.head _)))) h.symm
      · exact off1 (it, _) (.tail _ (.tail _ (.tail _ (.tail _ (.head _))))) h.symm
    have K13 : Keeps [z, TO, i1, it] h h3 := fun b o e nb => K3 b o (K2 b o e nb) (fun q => nb (by rw [List.mem_singleton.mp q]; simp))
    have F3 : Fr g C h3 m := fr_after F1 N1 zmap K13
    obtain ⟨a', b', hTO3⟩ := Z3.hTO
    have e1 : (0 : Int) + (i : Int) * c1 + c1 = 0 + ((i + 1 : Nat) : Int) * c1 := by push_cast; rw [Int.add_mul, Int.one_mul, Int.add_assoc]
    have e2 : (n : Int) - (i : Int) - 1 = (n : Int) - ((i + 1 : Nat) : Int) := by push_cast; lia
    have e3 : x + (i : Int) * step + step = x + ((i + 1 : Nat) : Int) * step := by push_cast; rw [Int.add_mul, Int.one_mul, Int.add_assoc]
    have e4 : (N : Int) - (i : Int) - 1 = (N : Int) - ((i + 1 : Nat) : Int) := by push_cast; lia
    rw [e1, e2, e3, e4] at Z3
    have N3 : News g C h3 ((D, lst ys) :: (z, zpObj TI TO .none) :: (TI, prObj (.ref i1) (.ref it)) :: (TO, prObj a' b') :: (i1, riObj (0 + (i + 1 : Nat) * c1) ((n : Int) - (i + 1 : Nat)) c1) :: (it, riObj (x + (i + 1 : Nat) * step) ((N : Int) - (i + 1 : Nat)) step) :: rows) :=
      news_after F1 N1 K13 fun p hp => by
        simp only [List.mem_cons] at hp
        rcases hp with rfl | rfl | rfl | rfl | rfl | rfl | hp
        · exact .inl ⟨.head _, hDn⟩
        · exact .inr ⟨Z3.hz, .inl zat.1⟩
        · exact .inr ⟨Z3.hTI, .inl zat.2.1⟩
        · exact .inr ⟨hTO3, .inl zat.2.2.1⟩
        · exact .inr ⟨Z3.hi1, .inl zat.2.2.2.1⟩
        · exact .inr ⟨Z3.hi2, .inl zat.2.2.2.2⟩
        · exact .inl ⟨.tail _ (.tail _ (.tail _ (.tail _ (.tail _ (.tail _ hp))))), inF hp⟩
    have hT3 : h3.get? T = some (prObj (.int (0 + i * c1) t1) (.int (x + i * step) t2)) := K3 _ _ hT (by simpa using hTz)
    refine assign_Tuple_tuple rm.hand (items := #[.int (0 + i * c1) t1, .int (x + i * step) t2]) ⟨_, hT3, rfl, _, rfl⟩ rfl rfl fun h4 he4 => ?_
    have up4 : ∀ b o, h3.get? b = some o → h4.get? b = some o := fun b o e => he4 b o (Nat.ne_of_lt (Heap.lt_size e)) e
    have F4 : Fr g C h4 m := F3.keeps up4
    have N4 := fun p hp => (⟨up4 _ _ (N3 p hp).1, (N3 p hp).2⟩ : _ ∧ _)
    refine assignInOrder_cons (wpAny_assign_Name (stQ F4 N4 (fun h5 tk5 F5 N5 => ?_) hkind hxi))
    refine assignInOrder_cons (wpAny_assign_Name (stQ F5 N5 (fun h6 tk6 F6 N6 => ?_) hkind hxe))
    refine assignInOrder_nil ?_
    refine tests_none (if_tt ?_)
    have hk' : (compEnvC scope cl C env).scope.kind = .function := hkind
    have hxi' : (compEnvC scope cl C env).kindOf (Str.ofString "i") = some .local := lookup_relabel_local hxi
    have hxe' : (compEnvC scope cl C env).kindOf (Str.ofString "elem") = some .local := lookup_relabel_local hxe
    have hsc : s.heap.get? c = some oc := (N₀ (c, oc) (.tail _ (.tail _ (.tail _ (.tail _ (.tail _ hc)))))).1
    have hgc : g.get? c = some oc := hg c oc hsc (by simpa using off₀ _ hc)
    have hgg : ∀ b o, gK.get? b = some o → g.get? b = some o := fun b o e => hg b o (F.keep _ _ (hgK b o e)) fun q => by
      obtain ⟨p, hp, rfl⟩ := List.mem_map.mp q
      have hp' : p ∈ (z, zpObj TI TO .none) :: (TI, prObj (.ref i1) (.ref it)) :: (TO, oTO) :: (i1, riObj 0 n c1) :: (it, riObj x N step) :: nx₀ := List.mem_append_left nx₀ hp
      have := (N₀ p hp').2.2; rw [hgK _ _ e] at this; cases this
    obtain ⟨fc, fd, ff, fs, hfk⟩ := hK.obj
    refine Tuple_ (args_cons (Call_ (ldQC F6 hcl hgc hoc ?_ hk' (hxk C))))
    refine callWith_fun (oc := fc) (od := fd) (fd := ff) (osl := fs) (args_cons (ldQ F6 mput_same ?_ hk' hxe'))
    refine args_nil ⟨F6.keep _ _ (hgg _ _ hfk), ?_⟩
    refine hK.run _ _ _ _ _ rm ⟨i, by lia, rfl⟩ (fun b o e => F6.keep _ _ (hgg _ _ e)) ?_
    intro h7 tk7 t7 K7
    have F7 := fr_after (foot := []) F6 N6 (fun _ q => nomatch q) K7
    have N7 := news_after F6 N6 K7 fun p hp => .inl ⟨hp, List.not_mem_nil⟩
    refine args_cons (ldQ F7 (mput_ne (by decide) mput_same) ?_ hk' hxi')
    refine args_cons (ldQ F7 mput_same ?_ hk' hxe')
    refine args_nil ?_
    refine newTuple_led F7 N7 (by simp) ?_
    intro U h8 F8 N8 neU
    refine ⟨h8, _, _, (z, zpObj TI TO .none) :: (TI, prObj (.ref i1) (.ref it)) :: (TO, prObj a' b') :: (i1, riObj (0 + (i + 1 : Nat) * c1) ((n : Int) - (i + 1 : Nat)) c1) :: (it, riObj (x + (i + 1 : Nat) * step) ((N : Int) - (i + 1 : Nat)) step) :: (U, tupOf [.int (κ (x + i * step)) t7, .int (0 + i * c1) t1, .int (x + i * step) t2]) :: rows, rfl, F8, nwRe N8 [1, 2, 3, 4, 5, 6, 0] 7, ?_, _, _, ⟨a', b', rfl⟩, rfl, ?_, ?_⟩
    · intro p hp
      simp only [List.mem_cons] at hp
      rcases hp with rfl | rfl | rfl | rfl | rfl | rfl | hp
      · exact off1 (z, zpObj TI TO .none) (.head _)
      · exact off1 (TI, prObj (.ref i1) (.ref it)) (.tail _ (.head _))
      · exact off1 (TO, prObj a b) (.tail _ (.tail _ (.head _)))
      · exact off1 (i1, riObj (0 + i * c1) ((n : Int) - i) c1) (.tail _ (.tail _ (.tail _ (.head _))))
      · exact off1 (it, riObj (x + i * step) ((N : Int) - i) step) (.tail _ (.tail _ (.tail _ (.tail _ (.head _)))))
      · exact fun e => neU (D, lst ys) (.head _) e.symm
      · exact off1 p (.tail _ (.tail _ (.tail _ (.tail _ (.tail _ hp)))))
    · intro p hp
      rcases List.mem_cons.mp hp with rfl | hp
      · intro q
        simp only [List.mem_cons, List.not_mem_nil, or_false] at q
        rcases q with h | h | h | h | h
        · exact neU (z, zpObj TI TO .none) (.tail _ (.head _)) h.symm
        · exact neU (TI, prObj (.ref i1) (.ref it)) (.tail _ (.tail _ (.head _))) h.symm
        · exact neU (TO, prObj a' b') (.tail _ (.tail _ (.tail _ (.head _)))) h.symm
        · exact neU (i1, riObj (0 + (i + 1 : Nat) * c1) ((n : Int) - (i + 1 : Nat)) c1) (.tail _ (.tail _ (.tail _ (.tail _ (.head _))))) h.symm
        · exact neU (it, riObj (x + (i + 1 : Nat) * step) ((N : Int) - (i + 1 : Nat)) step) (.tail _ (.tail _ (.tail _ (.tail _ (.tail _ (.head _)))))) h.symm
      · exact hrn p hp
    · refine ⟨by simp [hR.1], fun k hk => ?_⟩
      by_cases hki : k < i
      · obtain ⟨y, e1, e2⟩ := hR.2 k hki
        exact ⟨y, by rw [List.getElem?_append_left (by rw [hR.1]; exact hki)]; exact e1, e2.mono fun p hp => .tail _ hp⟩
      · have : k = i := by lia
        subst this
        refine ⟨_, by rw [List.getElem?_append_right (by rw [hR.1]; exact Nat.le_refl _), hR.1, Nat.sub_self]; rfl, U, t7, t1, t2, rfl, ?_⟩
        rw [Int.zero_add]; exact .head _
  · rintro g C D ys m nx h tk hg ⟨oTO', rows, ⟨a, b, rfl⟩, rfl, hrn, hR⟩ F1 N1 off1
    have Z1 : ZipSt h z TI TO i1 it .none (0 + n * c1) ((n : Int) - n) c1 (x + n * step) ((N : Int) - n) step :=
      ⟨(N1 _ (.tail _ (.head _))).1, (N1 _ (.tail _ (.tail _ (.head _)))).1, ⟨a, b, (N1 _ (.tail _ (.tail _ (.tail _ (.head _))))).1⟩, (N1 _ (.tail _ (.tail _ (.tail _ (.tail _ (.head _)))))).1, (N1 _ (.tail _ (.tail _ (.tail _ (.tail _ (.tail _ (.head _))))))).1, nd⟩
    refine zip_next_end rm.hand Z1 (by lia) ?_
    intro h2 K2
    refine ⟨rfl, h2, _, m, (it, riObj (x + n * step) ((N : Int) - n) step) :: rows, rfl, fr_after F1 N1 zmap2 K2, news_after F1 N1 K2 fun p hp => .inl ⟨?_, ?_⟩, ?_, rows, rfl, hrn, hR⟩
    · exact zsub hp
    · intro q
      simp only [List.mem_cons, List.not_mem_nil, or_false] at hp q
      rcases hp with rfl | rfl | hp
      · rcases q with h | h
        · exact off1 (z, _) (.head _) h.symm
        · exact off1 (i1, _) (.tail _ (.tail _ (.tail _ (.head _)))) h.symm
      · rcases q with h | h
        · exact zi2 h.symm
        · exact i12 h.symm
      · exact hrn p hp (by rcases q with h | h <;> simp [h])
    · intro p hp
      rcases List.mem_cons.mp hp with rfl | hp
      · exact off1 (it, _) (.tail _ (.tail _ (.tail _ (.tail _ (.head _)))))
      · exact off1 p (.tail _ (.tail _ (.tail _ (.tail _ (.tail _ hp)))))
  · rintro C D h tk mC ys nx hKp hC hD hCD hns hDl hnx ⟨rows, rfl, hrn, hR⟩
    obtain ⟨oC, hoC, hNs⟩ := LCg.ns_obj hns
    have hKp' : Keeps [z, TI, TO, i1, it] s.heap h := by simpa using hKp
    have hrn' : ∀ p ∈ rows, s.heap.get? p.1 = none := fun p hp => ((hnx p (.tail _ hp)).2.2.2).resolve_right (by simpa using hrn p hp)
    have there : ∀ p ∈ (it, riObj (x + n * step) ((N : Int) - n) step) :: nx₀, ∃ o, s.heap.get? p.1 = some o := fun p hp => by
      rcases List.mem_cons.mp hp with rfl | hp
      · exact ⟨_, Z.hi2⟩
      · exact ⟨_, (N₀ p (.tail _ (.tail _ (.tail _ (.tail _ (.tail _ hp)))))).1⟩
    refine done C D h tk oC mC ys rows (fr_after F N₀ zmap5 hKp') (news_after F N₀ hKp' fun p hp => ?_) hNs (fun p hp => ?_) (fun p hp => ?_) (fun p hp q hq e => ?_) hR
    · rcases List.mem_cons.mp hp with rfl | hp
      · exact .inr ⟨hoC, .inr hC⟩
      rcases List.mem_cons.mp hp with rfl | hp
      · exact .inr ⟨hDl, .inr hD⟩
      rcases List.mem_append.mp hp with hp | hp
      · exact .inr ⟨(hnx p (.tail _ hp)).1, .inr (hrn' p hp)⟩
      rcases List.mem_cons.mp hp with rfl | hp
      · exact .inr ⟨(hnx _ (.head _)).1, .inl zat5⟩
      · exact .inl ⟨.tail _ (.tail _ (.tail _ (.tail _ (.tail _ hp)))), off₀ p hp⟩
    · rcases List.mem_cons.mp hp with rfl | hp
      · exact Ne.symm hCD
      rcases List.mem_append.mp hp with hp | hp
      · exact (hnx p (.tail _ hp)).2.1
      · intro e; obtain ⟨o, ho⟩ := there p hp; rw [e, hC] at ho; cases ho
    · rcases List.mem_append.mp hp with hp | hp
      · exact (hnx p (.tail _ hp)).2.2.1
      · intro e; obtain ⟨o, ho⟩ := there p hp; rw [e, hD] at ho; cases ho
    · obtain ⟨o, ho⟩ := there q hq; rw [← e, hrn' p hp] at ho; cases ho


noncomputable def better (k : Nat → Int) (a b : Nat) : Prop := k a < k b ∨ (k a = k b ∧ a < b)
theorem better.trans {k : Nat → Int} {a b c : Nat} (h1 : better k a b) (h2 : better k b c) : better k a c := by unfold better at *; lia

structure Sel (k od : Nat → Int) (f : Value → Nat) (vs : List Value) (p : Nat) (ord : Int) : Prop where
  nd : (vs.map f).Nodup
  lt : ∀ v ∈ vs, f v < p
  out : ∀ v ∈ vs, ∀ b, b < p → (∀ u ∈ vs, f u ≠ b) → better k (f v) b
  mono : ∀ u ∈ vs, ∀ v ∈ vs, f u < f v → od (f u) < od (f v)
  ord : ∀ v ∈ vs, od (f v) < ord

theorem Sel.inj {k od : Nat → Int} {f : Value → Nat} {vs : List Value} {p : Nat} {ord : Int} (S : Sel k od f vs p ord) {u v : Value} (hu : u ∈ vs) (hv : v ∈ vs) (h : f u = f v) : u = v := by
  have nd := S.nd
  clear S
  induction vs with
  | nil => cases hu
  | cons a r ih =>
    simp only [List.map_cons, List.nodup_cons] at nd
    rcases List.mem_cons.mp hu with e1 | hu'
    · rcases List.mem_cons.mp hv with e2 | hv'
      · rw [e1, e2]
      · exact absurd (List.mem_map.mpr ⟨v, hv', by rw [← h, e1]⟩) nd.1
    · rcases List.mem_cons.mp hv with e2 | hv'
      · exact absurd (List.mem_map.mpr ⟨u, hu', by rw [h, e2]⟩) nd.1
      · exact ih hu' hv' nd.2

theorem Sel.perm {k od : Nat → Int} {f : Value → Nat} {vs ws : List Value} {p : Nat} {ord : Int} (S : Sel k od f vs p ord) (h : ws.Perm vs) : Sel k od f ws p ord :=
  ⟨(h.map f).nodup_iff.mpr S.nd, fun v hv => S.lt v (h.mem_iff.mp hv), fun v hv b hb hn => S.out v (h.mem_iff.mp hv) b hb fun u hu => hn u (h.mem_iff.mpr hu), fun u hu v hv => S.mono u (h.mem_iff.mp hu) v (h.mem_iff.mp hv), fun v hv => S.ord v (h.mem_iff.mp hv)⟩

theorem Sel.worst {k od : Nat → Int} {f : Value → Nat} {vs : List Value} {p : Nat} {ord : Int} (S : Sel k od f vs p ord) {r v : Value} (hr : r ∈ vs) (hv : v ∈ vs) (h : k (f v) < k (f r) ∨ (k (f v) = k (f r) ∧ od (f v) ≤ od (f r))) (hne : v ≠ r) : better k (f v) (f r) := by
  rcases h with h | ⟨h1, h2⟩
  · exact .inl h
  · refine .inr ⟨h1, ?_⟩
    rcases Nat.lt_trichotomy (f v) (f r) with a | a | a
    · exact a
    · exact absurd (S.inj hv hr a) hne
    · have := S.mono r hr v hv a; lia

theorem Sel.keep {k od : Nat → Int} {f : Value → Nat} {vs : List Value} {p : Nat} {ord : Int} (S : Sel k od f vs p ord) {r : Value} (hw : ∀ v ∈ vs, k (f v) ≤ k (f r)) (hp : k (f r) ≤ k p) : Sel k od f vs (p + 1) ord := by
  refine ⟨S.nd, fun v hv => Nat.lt_succ_of_lt (S.lt v hv), fun v hv b hb hn => ?_, S.mono, S.ord⟩
  by_cases hbp : b < p
  · exact S.out v hv b hbp hn
  · have : b = p := by lia
    subst this
    have h1 := hw v hv; have h2 := S.lt v hv
    unfold better; lia

theorem Sel.swap {k od : Nat → Int} {f : Value → Nat} {vs : List Value} {p : Nat} {ord ord' : Int} {r u : Value} {rest : List Value} (S : Sel k od f vs p ord) (hvs : vs = r :: rest) (hw : ∀ v ∈ vs, k (f v) < k (f r) ∨ (k (f v) = k (f r) ∧ od (f v) ≤ od (f r))) (hp : k p < k (f r)) (hu : ∀ v ∈ vs, v ≠ u) (ho : ord < ord') :
    Sel k (fun a => if a = p then ord else od a) (fun v => if v = u then p else f v) (u :: rest) (p + 1) ord' := by
  have hr : r ∈ vs := by rw [hvs]; exact .head _
  have hrest : ∀ v ∈ rest, v ∈ vs := fun v hv => by rw [hvs]; exact .tail _ hv
  have fe : ∀ v ∈ rest, (if v = u then p else f v) = f v := fun v hv => if_neg (hu v (hrest v hv))
  have oe : ∀ v ∈ rest, (if f v = p then ord else od (f v)) = od (f v) := fun v hv => if_neg (Nat.ne_of_lt (S.lt v (hrest v hv)))
  have nd := S.nd
  rw [hvs, List.map_cons, List.nodup_cons] at nd
  have rne : ∀ v ∈ rest, v ≠ r := fun v hv e => nd.1 (List.mem_map.mpr ⟨v, hv, by rw [e]⟩)
  have bw : ∀ v ∈ rest, better k (f v) (f r) := fun v hv => S.worst hr (hrest v hv) (hw v (hrest v hv)) (rne v hv)
  refine ⟨?_, fun v hv => ?_, fun v hv b hb hn => ?_, fun a ha b hb hab => ?_, fun v hv => ?_⟩
  · rw [List.map_cons, if_pos rfl, List.map_congr_left fe, List.nodup_cons]
    refine ⟨fun q => ?_, nd.2⟩
    obtain ⟨v, hv, e⟩ := List.mem_map.mp q
    have := S.lt v (hrest v hv); lia
  · rcases List.mem_cons.mp hv with rfl | hv
    · simp
    · rw [fe v hv]; exact Nat.lt_succ_of_lt (S.lt v (hrest v hv))
  · have hbp : b ≠ p := fun e => hn u (.head _) (by simp [e])
    have hb' : b < p := by lia
    have ub : better k p (f r) := .inl hp
    have best : ∀ w, better k w (f r) → (∀ v ∈ rest, v ∈ rest) → (b = f r ∨ better k (f r) b) → better k w b := fun w h1 _ h2 => by
      rcases h2 with rfl | h2
      · exact h1
      · exact h1.trans h2
    have cb : b = f r ∨ better k (f r) b := by
      by_cases e : b = f r
      · exact .inl e
      · refine .inr (S.out r hr b hb' fun v hv => ?_)
        rw [hvs] at hv
        rcases List.mem_cons.mp hv with rfl | hv
        · exact fun q => e q.symm
        · have := hn v (.tail _ hv); rwa [fe v hv] at this
    rcases List.mem_cons.mp hv with rfl | hv
    · rw [if_pos rfl]; exact best p ub (fun _ h => h) cb
    · rw [fe v hv]; exact best _ (bw v hv) (fun _ h => h) cb
  · rcases List.mem_cons.mp ha with e1 | ha' <;> rcases List.mem_cons.mp hb with e2 | hb'
    · rw [e1, e2] at hab; lia
    · rw [e1] at hab; simp only [if_true, fe b hb'] at hab; have := S.lt b (hrest b hb'); lia
    · rw [e2]; simp only [fe a ha', if_true, oe a ha']; exact S.ord a (hrest a ha')
    · simp only [fe a ha', fe b hb', oe a ha', oe b hb'] at hab ⊢; exact S.mono a (hrest a ha') b (hrest b hb') hab
  · rcases List.mem_cons.mp hv with e | hv'
    · rw [e]; simp only [if_true]; exact ho
    · simp only [fe v hv', oe v hv']; have := S.ord v (hrest v hv'); lia

theorem ltI3 (a b c a' b' c' : Int) : ltI [a, b, c] [a', b', c'] = decide (a < a' ∨ (a = a' ∧ (b < b' ∨ (b = b' ∧ c < c')))) := by
  simp only [ltI, beq_iff_eq]
  by_cases h1 : a = a'
  · subst h1
    by_cases h2 : b = b'
    · subst h2
      by_cases h3 : c = c'
      · subst h3; simp
      · simp [h3]
    · simp [h2]
  · simp [h1]

theorem elems_block {prog : Program} {w : World} {A : Around} {env : Env} {scope : Scope} {cl : List (Str × Addr)} {pos : Pos} {use : Option (Value → Sem Unit)} {s : Shared} {ax L : Addr} {vs es : List Value} {g₀ : Heap}
    {Q : Value → Shared → Prop} {m₀ : Str → Option Value} {nx₀ : List (Addr × Obj)} {iter : Expr} {p1 q1 q2 q3 q4 : Pos} {k2 : Nat} (hh : A.handled = none)
    (F : Fr g₀ L s.heap m₀) (N : News g₀ L s.heap nx₀) (hl : s.heap.IsList ax vs.toArray) (hn : vs.length < 2 ^ 20) (hes : es.length = vs.length)
    (hrow : ∀ (k : Nat) (v e : Value), vs[k]? = some v → es[k]? = some e → ∃ T a b, v = .ref T ∧ s.heap.get? T = some (tupOf [a, b, e]))
    (done : CompDone g₀ L m₀ nx₀ (fun ys nx => ys = es ∧ nx = []) use prog w A s Q)
    (hcell : ∀ y ∈ scope.names, y.2 ≠ .cell := by decide) (hkind : scope.kind = .function := by rfl) (hx1 : scope.names.lookup (Str.ofString "k") = some .local := by rfl) (hx2 : scope.names.lookup (Str.ofString "order") = some .local := by rfl) (hx3 : scope.names.lookup (Str.ofString "elem") = some .local := by rfl) :
    wpAny (model prog w) A (pyIter (.ref ax)) (CompBlock prog w A env scope cl (.ListComp (.Name "elem" p1) [⟨.Tuple [.Name "k" q1, .Name "order" q2, .Name "elem" q3] k2 q4, iter, [], 0⟩] scope pos) use Q) No s := by
  have hlt : ax < s.heap.objs.size := by obtain ⟨_, e, _⟩ := hl; exact Heap.lt_size e
  refine wpAny_pyIter_list hl ?_
  generalize hI : s.heap.objs.size = I at *
  generalize hoI : ({ cls := .type "list_iterator", data := .fields #[.ref ax, .int 0 0] } : Obj) = oI
  have hoI' : oI.cls = .type "list_iterator" ∧ oI.data = .fields #[.ref ax, .int (0 : Nat) 0] := by subst hoI; exact ⟨rfl, rfl⟩
  have hpI : (s.heap.push oI).get? I = some oI := by subst hoI; rw [← hI]; exact Heap.get?_push_size _ rfl
  have up : ∀ b o, s.heap.get? b = some o → (s.heap.push oI).get? b = some o := fun b o e => Heap.get?_push_of_some _ e
  have ltI' : ∀ {b o}, s.heap.get? b = some o → b ≠ I := fun {b o} e => by rw [← hI]; exact Nat.ne_of_lt (Heap.lt_size e)
  have hfree : g₀.get? I = none := by rw [← hI]; exact next_is_new F
  have hLI : L ≠ I := by rw [← hI]; exact Nat.ne_of_lt F.ns.lt
  have F1 : Fr g₀ L (s.heap.push oI) m₀ := F.keeps up
  have N1 : News g₀ L (s.heap.push oI) ((I, oI) :: nx₀) := fun p hp => by
    rcases List.mem_cons.mp hp with rfl | hp
    · exact ⟨hpI, Ne.symm hLI, hfree⟩
    · exact ⟨up _ _ (N p hp).1, (N p hp).2⟩
  have offI : ∀ p ∈ nx₀, p.1 ≠ I := fun p hp => ltI' (N p hp).1
  have hlist : ∀ {h : Heap}, (∀ b o, s.heap.get? b = some o → h.get? b = some o) → h.IsList ax vs.toArray := fun k => by obtain ⟨o, e, r⟩ := hl; exact ⟨o, k _ _ e, r⟩
  refine comp_rule (n := vs.length) (foot := [(I, oI)])
    (fun i ys m nx => ∃ o, nx = [(I, o)] ∧ (o.cls = .type "list_iterator" ∧ o.data = .fields #[.ref ax, .int (i : Nat) 0]) ∧ ys = es.take i) (fun ys nx => ys = es ∧ nx = []) hcell hkind hn (by simpa using hpI)
    (fun s' Q' hk hQ => wpAny_pyIter_listiter (i := 0) (l := ax) ⟨oI, hk _ _ hpI, hoI'⟩ hQ) ⟨oI, rfl, hoI', by simp⟩ ?_ ?_ ?_
  · rintro g C D i ys m nx h tk hg hi ⟨o, rfl, ho, rfl⟩ F2 N2 off2
    have hgs : ∀ b o, s.heap.get? b = some o → g.get? b = some o := fun b o e => hg b o (up _ _ e) (by simpa using ltI' e)
    have hIo := (N2 _ (.tail _ (.head _))).1
    have hv : vs[i]? = some vs[i] := List.getElem?_eq_getElem hi
    have he : es[i]? = some (es[i]'(by lia)) := List.getElem?_eq_getElem (by lia)
    obtain ⟨T, a, b, eT, hT⟩ := hrow i _ _ hv he
    refine wpAny_pyNext_list_item (i := i) (x := .ref T) ⟨o, hIo, ho⟩ (hlist fun b o e => F2.keep _ _ (hgs b o e)) (by simpa [← eT] using hv) fun h3 hit3 hs3 => ⟨_, rfl, ?_⟩
    obtain ⟨o3, ho3, hc3⟩ := hit3
    have hID : I ≠ D := off2 (I, o) (.head _)
    have N2' : News g C h [(I, o), (D, lst (es.take i))] := fun p hp => N2 p (by
      simp only [List.mem_cons, List.not_mem_nil, or_false] at hp ⊢; rcases hp with h | h <;> simp [h])
    obtain ⟨F3, N3⟩ := after1 F2 N2' (fun p hp => by rw [List.mem_singleton.mp hp]; exact Ne.symm hID) (keeps_same hs3) ho3
    refine wpAny_letOwnedTupleGo_listiter (i := i + 1) (l := ax) ⟨o3, ho3, hc3⟩ ?_
    refine assign_Tuple_tuple hh (items := #[a, b, es[i]'(by lia)]) ⟨_, F3.keep _ _ (hgs _ _ hT), rfl, _, rfl⟩ rfl rfl fun h4 he4 => ?_
    have up4 : ∀ b o, h3.get? b = some o → h4.get? b = some o := fun b o e => he4 b o (Nat.ne_of_lt (Heap.lt_size e)) e
    have F4 : Fr g C h4 m := F3.keeps up4
    have N4 := fun p hp => (⟨up4 _ _ (N3 p hp).1, (N3 p hp).2⟩ : _ ∧ _)
    refine assignInOrder_cons (wpAny_assign_Name (stQ F4 N4 (fun h5 tk5 F5 N5 => ?_) hkind hx1))
    refine assignInOrder_cons (wpAny_assign_Name (stQ F5 N5 (fun h6 tk6 F6 N6 => ?_) hkind hx2))
    refine assignInOrder_cons (wpAny_assign_Name (stQ F6 N6 (fun h7 tk7 F7 N7 => ?_) hkind hx3))
    refine assignInOrder_nil ?_
    refine tests_none (if_tt ?_)
    refine ldQ F7 mput_same ?_ hkind (lookup_relabel_local hx3)
    refine ⟨h7, _, _, [(I, o3)], rfl, F7, fun p hp => N7 p (by
      simp only [List.mem_cons, List.not_mem_nil, or_false] at hp ⊢; rcases hp with h | h <;> simp [h]), fun p hp => by rw [List.mem_singleton.mp hp]; exact hID, o3, rfl, hc3, ?_⟩
    rw [take_snoc he]
  · rintro g C D ys m nx h tk hg ⟨o, rfl, ho, rfl⟩ F2 N2 off2
    have hgs : ∀ b o, s.heap.get? b = some o → g.get? b = some o := fun b o e => hg b o (up _ _ e) (by simpa using ltI' e)
    have hIo := (N2 _ (.tail _ (.head _))).1
    refine wpAny_pyNext_list_end (i := vs.length) hh ⟨o, hIo, ho⟩ (hlist fun b o e => F2.keep _ _ (hgs b o e)) (by simp) fun h3 hs3 => ⟨rfl, ?_⟩
    have hID : I ≠ D := off2 (I, o) (.head _)
    have N2' : News g C h [(I, o), (D, lst (es.take vs.length))] := fun p hp => N2 p (by
      simp only [List.mem_cons, List.not_mem_nil, or_false] at hp ⊢; rcases hp with h | h <;> simp [h])
    obtain ⟨F3, N3⟩ := gone1 F2 N2' (fun p hp => by rw [List.mem_singleton.mp hp]; exact Ne.symm hID) (keeps_ext hs3)
    exact ⟨h3, _, m, [], rfl, F3, N3, (fun p hp => nomatch hp), List.take_of_length_le (by lia), rfl⟩
  · rintro C D h tk mC ys nx hKp hC hD hCD hns hDl hnx ⟨rfl, rfl⟩
    obtain ⟨oC, hoC, hNs⟩ := LCg.ns_obj hns
    have hKp' : Keeps [I] (s.heap.push oI) h := by simpa using hKp
    refine done C D h tk oC mC ys [] (fr_after F1 N1 (by simp) hKp') (news_after F1 N1 hKp' fun p hp => ?_) hNs (fun p hp => ?_) (fun p hp => ?_) (fun p hp => nomatch hp) ⟨rfl, rfl⟩
    · rcases List.mem_cons.mp hp with rfl | hp
      · exact .inr ⟨hoC, .inr hC⟩
      rcases List.mem_cons.mp hp with rfl | hp
      · exact .inr ⟨hDl, .inr hD⟩
      · exact .inl ⟨.tail _ hp, by simpa using offI p hp⟩
    · rcases List.mem_cons.mp hp with rfl | hp
      · exact Ne.symm hCD
      · intro e; have := up _ _ (N p hp).1; rw [e, hC] at this; cases this
    · intro e; have := up _ _ (N p hp).1; rw [e, hD] at this; cases this

theorem row3_facts {gE : Heap} {nx : List (Addr × Obj)} {κ : Int → Int} {x step : Int} {j : Nat} {o : Int} {v : Value} (hE : ∀ p ∈ nx, gE.get? p.1 = some p.2) (h : Row3 nx κ x step j o v) :
    dom3 gE v ∧ row3 gE v = [κ (x + j * step), o, x + j * step] := by
  obtain ⟨T, t1, t2, t3, rfl, hm⟩ := h
  have e := hE _ hm
  have hi : IntsAre [.int (κ (x + j * step)) t1, .int o t2, .int (x + j * step) t3] [κ (x + j * step), o, x + j * step] := .cons _ _ (.cons _ _ (.cons _ _ .nil))
  refine ⟨⟨T, _, _, rfl, isTup_of e, hi⟩, ?_⟩
  rw [row3, itemsAt_tup (isTup_of e), intsOf_are hi]
theorem heapFrom_congr {lt lt' : Value → Value → Bool} {vs : List Value} (h : ∀ u ∈ vs, ∀ v ∈ vs, lt u v = lt' u v) (H : HeapFrom lt 0 vs) : HeapFrom lt' 0 vs := fun i a b c => by
  rw [← h _ (getD_mem b) _ (getD_mem (by with_reducible exact ar1 (by assumption)))]; exact H i a b c
theorem sel_init {k : Nat → Int} {f : Value → Nat} {vs : List Value} {n : Nat} (h : vs.map f = List.range n) : Sel k (fun j => (j : Int)) f vs n n := by
  have hm : ∀ b, b < n → ∃ u ∈ vs, f u = b := fun b hb => by
    have : b ∈ vs.map f := by rw [h]; exact List.mem_range.mpr hb
    obtain ⟨u, hu, e⟩ := List.mem_map.mp this; exact ⟨u, hu, e⟩
  have hl : ∀ v ∈ vs, f v < n := fun v hv => by
    have : f v ∈ vs.map f := List.mem_map_of_mem hv
    rw [h] at this; exact List.mem_range.mp this
  refine ⟨by rw [h]; exact List.nodup_range, hl, fun v hv b hb hn => ?_, fun u hu v hv h => by with_reducible exact omC (by assumption), fun v hv => by have := hl v hv; with_reducible exact omC (by assumption)⟩
  obtain ⟨u, hu, e⟩ := hm b hb
  exact absurd e (hn u hu)

section
variable {prog : Program} {w : World} {A : Around} {s : Shared} {a : Addr} {vs : List Value} {n : Nat} {gE : Heap} {Q : Value → Shared → Prop}
theorem call_sort (ho : s.heap.get? a = some (listOf vs.toArray n)) (h2 : 2 ≤ vs.length) (h64 : vs.length < 64)
    (hE : ∀ x o, gE.get? x = some o → s.heap.get? x = some o) (hEa : gE.get? a = none) (hd : ∀ v ∈ vs, dom3 gE v ∧ (row3 gE v).length = 3) (hn : (vs.map (row3 gE)).Nodup)
    (h : ∀ h' n' (out : List Value), Keeps [a] s.heap h' → h'.get? a = some (listOf out.toArray n') → out.Perm vs → out.Pairwise (fun x y => lt3 gE x y = true) → Q .none { s with heap := h' }) :
    wpAny (model prog w) A (call (.builtin "list.sort") [.ref a]) Q No s := by
  refine wpAny_call_entry PySem.F.slot_list_sort ⟨_, ho, rfl⟩ PySem.F.entry_list_sort ?_ (PySem.F.args_list_sort_1 _)
  rw [plain_as_rev]
  exact sort3_tree ho h2 h64 hE hEa hd hn fun h' n' out k1 k2 k3 k4 => ⟨_, rfl, h h' n' out k1 k2 k3 k4⟩
theorem call_sort_rev (ho : s.heap.get? a = some (listOf vs.toArray n)) (h2 : 2 ≤ vs.length) (h64 : vs.length < 64)
    (hE : ∀ x o, gE.get? x = some o → s.heap.get? x = some o) (hEa : gE.get? a = none) (hd : ∀ v ∈ vs, dom3 gE v ∧ (row3 gE v).length = 3) (hn : (vs.map (row3 gE)).Nodup)
    (h : ∀ h' n' (out : List Value), Keeps [a] s.heap h' → h'.get? a = some (listOf out.toArray n') → out.Perm vs → out.Pairwise (fun x y => lt3 gE y x = true) → Q .none { s with heap := h' }) :
    wpAny (model prog w) A (call (.builtin "list.sort") [.ref a] [(Str.ofString "reverse", .bool true)]) Q No s := by
  refine wpAny_call_entry_kw PySem.F.slot_list_sort ⟨_, ho, rfl⟩ PySem.F.entry_list_sort ?_ (args_list_sort_rev _ _)
  exact sort3_tree ho h2 h64 hE hEa hd hn fun h' n' out k1 k2 k3 k4 => ⟨_, rfl, h h' n' out.reverse k1 (by simpa [outOf] using k2) ((List.reverse_perm out).trans k3) (List.pairwise_reverse.mpr k4)⟩
end

theorem thirds {rows : List (Addr × Obj)} {κ : Int → Int} {x step : Int} {f : Value → Nat} {od : Nat → Int} : ∀ out : List Value, (∀ v ∈ out, Row3 rows κ x step (f v) (od (f v)) v) →
    ∃ es : List Value, es.length = out.length ∧ IntsAre es (out.map fun v => x + f v * step) ∧ ∀ (k : Nat) (v e : Value), out[k]? = some v → es[k]? = some e → ∃ T a b, v = .ref T ∧ (T, tupOf [a, b, e]) ∈ rows
  | [], _ => ⟨[], rfl, .nil, fun k v e h => by simp at h⟩
  | v :: r, h => by
    obtain ⟨es, h1, h2, h3⟩ := thirds r fun u hu => h u (.tail _ hu)
    obtain ⟨T, t1, t2, t3, e, hm⟩ := h v (.head _)
    refine ⟨.int (x + f v * step) t3 :: es, by simp [h1], .cons _ _ h2, fun k u e' hk he => ?_⟩
    cases k with
    | zero => simp at hk he; subst hk he; exact ⟨T, _, _, e, hm⟩
    | succ k => exact h3 k u e' (by simpa using hk) (by simpa using he)
theorem Sel.odlt {k od : Nat → Int} {f : Value → Nat} {vs : List Value} {p : Nat} {ord : Int} (S : Sel k od f vs p ord) {u v : Value} (hu : u ∈ vs) (hv : v ∈ vs) (h : od (f u) < od (f v)) : f u < f v := by
  rcases Nat.lt_trichotomy (f u) (f v) with a | a | a
  · exact a
  · rw [a] at h; lia
  · have := S.mono v hv u hu a; lia
theorem Sel.odeq {k od : Nat → Int} {f : Value → Nat} {vs : List Value} {p : Nat} {ord : Int} (S : Sel k od f vs p ord) {u v : Value} (hu : u ∈ vs) (hv : v ∈ vs) (h : od (f u) = od (f v)) : f u = f v := by
  rcases Nat.lt_trichotomy (f u) (f v) with a | a | a
  · have := S.mono u hu v hv a; lia
  · exact a
  · have := S.mono v hv u hu a; lia

theorem ok_in {w : World} {foot : List Addr} {h : Heap} (O : Ok w foot h) : (hd.heap_39 w.params).In h := let ⟨_, B, k, _⟩ := O; B.X.keeps k

inductive NsJ (D it L : Addr) (oc : Obj) (frs2 : List (Addr × Obj)) (κ : Int → Int) (x step : Int) (n : Nat) (i : Nat) (m' : Str → Option Value) (nx : List (Addr × Obj)) : Prop
  | mk (rows' : List (Addr × Obj)) (vs' : List Value) (nn : Nat) (f : Value → Nat) (od : Nat → Int) (ord top : Int) (to tt : Tok) (gE' : Heap) :
    nx = (D, listOf vs'.toArray nn) :: (L + 1, oc) :: (rows' ++ frs2) →
    m' "result" = some (.ref D) →
    m' "order" = some (.int ord to) →
    m' "top" = some (.int top tt) →
    m' "_heapreplace" = some (.ref 42) →
    vs'.length = n →
    (∀ v ∈ vs', Row3 rows' κ x step (f v) (od (f v)) v) →
    Sel (fun j => κ (x + j * step)) od f vs' (n + i) ord →
    (∃ v0 vr, vs' = v0 :: vr ∧ top = κ (x + f v0 * step)) →
    (∀ p ∈ rows', gE'.get? p.1 = some p.2) →
    (∀ b o, gE'.get? b = some o → (b, o) ∈ rows') →
    HeapFrom (fun a b => lt3 gE' b a) 0 vs' →
    (∀ p ∈ rows', p.1 ≠ D ∧ p.1 ≠ it) → NsJ D it L oc frs2 κ x step n i m' nx
theorem ns_call {prog : Program} {w : World} {A : Around} {s : Shared} {R : Result → Shared → Prop} {n N : Nat} {x step : Int} {tn : Tok} {it fk : Addr} {κ : Int → Int} {gK : Heap} {frs : List (Addr × Obj)} {outer : List Env}
    (O : Ok w ((frs ++ [(it, riObj x N step)]).map (·.1)) s.heap) (hfoot : ∀ p ∈ frs ++ [(it, riObj x N step)], s.heap.get? p.1 = some p.2) (hfr : A.frames = some outer) (hf : FrsAt outer frs) (hap : ∀ p ∈ frs, p.1 ≠ it)
    (hK : KeyOk prog w κ (fun e => ∃ i : Nat, i < N ∧ e = x + i * step) gK fk) (hKs : ∀ b o, gK.get? b = some o → s.heap.get? b = some o) (hKf : ∀ p ∈ frs ++ [(it, riObj x N step)], gK.get? p.1 = none)
    (hn : 2 ≤ n) (hnN : n < N) (hN : N < 60) (rm : Room A 12)
    (post : ∀ h' tk H c (vs : List Value) (sel : List Nat) frs', SameFrs frs frs' → Keeps ((frs ++ [(it, riObj x N step)]).map (·.1)) s.heap h' → (∀ p ∈ frs', h'.get? p.1 = some p.2) → h'.get? H = some (listOf vs.toArray c) → (s.heap.get? H = none ∨ H = it) → (∀ p ∈ frs', p.1 ≠ H) →
      IntsAre vs (sel.map fun (i : Nat) => x + i * step) → sel.length = n → sel.Pairwise (better fun j => κ (x + j * step)) → (∀ j ∈ sel, j < N) → (∀ j ∈ sel, ∀ b, b < N → b ∉ sel → better (fun j => κ (x + j * step)) j b) → R (.ok (.ret (.ref H))) { s with heap := h', toks := tk }) :
    codeAny (model prog w) A (.call (.ref 83) ⟨[.int n tn, .ref it], [("key", .ref fk)]⟩) R s := by
  refine enterC (foot := frs ++ [(it, riObj x N step)]) (binds := [("n", .int n tn), ("iterable", .ref it), ("key", .ref fk)]) O hfoot (by k_is) (by k_is) rm (binds_K (ok_in O) rfl (by k_is) rfl rfl rfl) rfl (by decide) ?_
  intro g L h₁ tk₁ cells B hg F N₀ hcells hfresh
  obtain ⟨oc, rfl, hoc⟩ := CellsAre.one hcells
  clear hcells
  replace hoc : oc.data = .cell (some (.ref fk)) := hoc
  obtain ⟨m, Fm, em⟩ := fr_any F
  have m1 : m "n" = some (.int n tn) := by rw [em]; rfl
  have m2 : m "iterable" = some (.ref it) := by rw [em]; rfl
  clear em F
  with_reducible refine wpAny_execs_cons ?_
  have hcf : ∀ p ∈ frs, p.1 ≠ L + 1 := fun p hp e => by
    have h1 := hfoot p (List.mem_append_left _ hp)
    rw [e, hfresh (L + 1, oc) (by simp)] at h1; cases h1
  have hci : it ≠ L + 1 := fun e => by
    have h1 := hfoot (it, riObj x N step) (List.mem_append_right _ (by simp))
    rw [show (it, riObj x N step).1 = L + 1 from e, hfresh (L + 1, oc) (by simp)] at h1; cases h1
  have N1 : News g L h₁ (frs ++ [(L + 1, oc), (it, riObj x N step)]) := fun p hp => N₀ p (by
    simp only [List.mem_append, List.mem_cons, List.not_mem_nil, or_false] at hp ⊢
    rcases hp with h | h | h <;> simp [h])
  have hgK : ∀ b o, gK.get? b = some o → g.get? b = some o := fun b o e => hg b o (hKs b o e) fun q => by
    obtain ⟨p, hp, rfl⟩ := List.mem_map.mp q
    rw [hKf p hp] at e; cases e
  clear N₀
  refine wpAny_If ?_
  refine wpAny_isTrue_Compare1 ?_
  (refine' ldM ?kF ?kv ?_; (case kF => assumption); (case kv => assumption))
  with_reducible refine wpAny_Constant_int ?_
  with_reducible refine PyProof.Rows.eq_int ?_
  with_reducible refine wpAny_truthy_bool ?_
  rw [if_neg (by simp only [beq_iff_eq]; lia)]
  with_reducible refine wpAny_execs_nil ?_
  with_reducible refine wpAny_execs_cons ?_
  refine try_len B (Room.deeper (k := 2) (rm.less (by lia))) Fm N1 (Around.frames_deeper hfr) hf (fun p hp q hq => by
    simp only [List.mem_cons, List.not_mem_nil, or_false] at hq
    rcases hq with rfl | rfl
    · exact hcf p hp
    · exact hap p hp) (.tail _ (.head _)) m2 ?_
  intro h2 tk2 frs2 sf2 F2 N2
  have hcf2 : ∀ p ∈ frs2, p.1 ≠ L + 1 ∧ p.1 ≠ it := fun p hp => by
    have : p.1 ∈ frs.map (·.1) := by rw [← sf2.addrs]; exact List.mem_map_of_mem hp
    obtain ⟨q, hq, e⟩ := List.mem_map.mp this
    exact e ▸ ⟨hcf q hq, hap q hq⟩
  have N3 : News g L h2 ((L + 1, oc) :: (it, riObj x N step) :: frs2) := nwRot N2
  clear N1 Fm N2
  with_reducible refine wpAny_execs_cons ?_
  refine wpAny_If ?_
  refine wpAny_isTrue_Compare1 ?_
  (refine' nameX_C ?kN ?kc ?km ?kd ?_; (case kN => assumption); (case kc => rfl); (case km => first | exact .head _ | exact .tail _ (.head _) | exact .tail _ (.tail _ (.head _)) | simp); (case kd => assumption))
  refine wpAny_Constant_none ?_
  with_reducible refine is_ref_none ?_
  with_reducible refine wpAny_truthy_bool ?_
  with_reducible refine if_ff ?_
  with_reducible refine wpAny_execs_nil ?_
  with_reducible refine wpAny_execs_cons ?_
  refine wpAny_Assign_Name ?_
  refine Call_ ?_
  (refine' nmB ?kF ?kB ?ke ?kv ?kn ?_; (case kF => assumption); (case kB => assumption); (case ke => k_is); (case kv => boot_by_name); (case kn => decide))
  refine PyProof.Rows.callWith_builtin1 ?_
  refine args_cons ?_
  (refine' ldM ?kF ?kv ?_; (case kF => assumption); (case kv => assumption))
  refine args_nil ?_
  refine iter_ri_call (N3 _ (.tail _ (.head _))).1 ?_
  (refine' stM ?kF ?kN ?_; (case kF => assumption); (case kN => assumption); intro _ _ _ _)
  with_reducible refine wpAny_execs_cons ?_
  rename_i h3 tk3 F3 N4
  (refine' AssignComp_b ?sw ?cl ?kk ?nn ?_; (case sw => with_unfolding_all rfl); (case cl => with_unfolding_all rfl); (case kk => rfl); (case nn => decide))
  refine Call_ ?_
  (refine' nmB ?kF ?kB ?ke ?kv ?kn ?_; (case kF => assumption); (case kB => assumption); (case ke => k_is); (case kv => boot_by_name); (case kn => decide))
  refine Pv.callWith_type1 ?_
  refine args_cons ?_
  refine Call_ ?_
  (refine' nmB ?kF ?kB ?ke ?kv ?kn ?_; (case kF => assumption); (case kB => assumption); (case ke => k_is); (case kv => boot_by_name); (case kn => decide))
  refine Pv.callWith_type1 ?_
  refine args_cons ?_
  (refine' ldM ?kF ?kv ?_; (case kF => assumption); (case kv => assumption))
  refine args_nil ?_
  refine range1_led F3 N4 ?_
  intro r h4 tk4 t4 u4 v4 F4 N5 ner
  refine args_cons ?_
  (refine' ldM ?kF ?kv ?_; (case kF => assumption); (case kv => exact mput_same))
  refine args_nil ?_
  have hrs : Builtin.Range.rangeSize 0 (n : Int) 1 = n := by rw [rangeSize_one]; split <;> lia
  refine call_zip_ri (N5 _ (.head _)).1 (N5 _ (.tail _ (.tail _ (.head _)))).1 (small_one (by lia) (by lia) (by lia) (by lia)) ?_
  intro h5 z TI TO i1 K5 Z5 zn TIn TOn i1n
  rw [hrs] at Z5
  refine wpAny_pyIter_zip Z5.hz ?_
  have F5 := fr_after (foot := []) F4 N5 (fun _ q => nomatch q) K5
  obtain ⟨a0, b0, hTO⟩ := Z5.hTO
  have N6 : News g L h5 ((z, zpObj TI TO .none) :: (TI, prObj (.ref i1) (.ref it)) :: (TO, prObj a0 b0) :: (i1, riObj 0 n 1) :: (it, riObj x N step) :: (L + 1, oc) :: frs2) := news_after F4 N5 K5 fun p hp => by
    simp only [List.mem_cons] at hp
    rcases hp with rfl | rfl | rfl | rfl | rfl | rfl | hp
    · exact .inr ⟨Z5.hz, .inr zn⟩
    · exact .inr ⟨Z5.hTI, .inr TIn⟩
    · exact .inr ⟨hTO, .inr TOn⟩
    · exact .inr ⟨Z5.hi1, .inr i1n⟩
    · exact .inl ⟨by exact .tail _ (.tail _ (.head _)), List.not_mem_nil⟩
    · exact .inl ⟨by exact .tail _ (.head _), List.not_mem_nil⟩
    · exact .inl ⟨.tail _ (.tail _ (.tail _ hp)), List.not_mem_nil⟩
  have new5 : ∀ p ∈ (L + 1, oc) :: frs2, p.1 ∉ [z, TI, TO, i1, it] := fun p hp q => by
    have h0 : h4.get? p.1 = some p.2 := (N5 p (by
      rcases List.mem_cons.mp hp with rfl | hp
      · exact .tail _ (.head _)
      · exact .tail _ (.tail _ (.tail _ hp)))).1
    simp only [List.mem_cons, List.not_mem_nil, or_false] at q
    rcases q with h | h | h | h | h
    · rw [h, zn] at h0; cases h0
    · rw [h, TIn] at h0; cases h0
    · rw [h, TOn] at h0; cases h0
    · rw [h, i1n] at h0; cases h0
    · rcases List.mem_cons.mp hp with rfl | hp
      · exact hci h.symm
      · exact (hcf2 p hp).2 h
  refine zip_block Z5 F5 N6 new5 (.head _) hoc hK hgK (by with_reducible exact Nat.le_of_lt (by assumption)) hN (Room.deeper (k := 8) (rm.less (by lia))) ?_
  refine done_local ?_
  intro D h6 tk6 ys rows F6 N7 offD ap7 hR
  clear N6 N5 N4 N3 F5 F4 F3 F2
  have N8 : News g L h6 ((it, riObj (x + n * step) ((N : Int) - n) step) :: (D, lst ys) :: (L + 1, oc) :: (rows ++ frs2)) := nwIn N7
  have itD : it ≠ D := offD (it, riObj (x + n * step) ((N : Int) - n) step) (List.mem_append_right _ (.head _))
  have cD : L + 1 ≠ D := offD (L + 1, oc) (List.mem_append_right _ (.tail _ (.head _)))
  have frD : ∀ p ∈ frs2, p.1 ≠ D := fun p hp => offD p (List.mem_append_right _ (.tail _ (.tail _ hp)))
  have rowD : ∀ p ∈ rows, p.1 ≠ D ∧ p.1 ≠ it ∧ p.1 ≠ L + 1 ∧ ∀ q ∈ frs2, p.1 ≠ q.1 := fun p hp => ⟨offD p (List.mem_append_left _ hp), ap7 p hp (it, riObj (x + n * step) ((N : Int) - n) step) (.head _), ap7 p hp (L + 1, oc) (.tail _ (.head _)), fun q hq => ap7 p hp q (.tail _ (.tail _ hq))⟩
  have hysl := hR.1
  with_reducible refine wpAny_execs_cons ?_
  refine wpAny_If ?_
  with_reducible refine isTrue_not ?_
  refine isTrue_plain ?_
  (refine' ldM ?kF ?kv ?_; (case kF => assumption); (case kv => exact mput_same))
  refine truthy_lst (N8 _ (.tail _ (.head _))).1 (by lia) ?_
  intro tk7
  rw [show decide (ys ≠ []) = true from decide_eq_true (fun e => by rw [e] at hysl; simp at hysl; lia)]
  skip
  rw [if_neg (by decide)]
  with_reducible refine wpAny_execs_nil ?_
  with_reducible refine wpAny_execs_cons ?_
  refine wpAny_Expr_any ?_
  refine Call_ ?_
  (refine' nmK ?kF ?kB ?ke ?_; (case kF => assumption); (case kB => assumption); (case ke => k_is))
  (refine' callWith_K (Base.X (by assumption)) ?ke ?_; (case ke => k_is))
  refine args_cons ?_
  (refine' ldM ?kF ?kv ?_; (case kF => assumption); (case kv => exact mput_same))
  refine args_nil ?_
  (refine ⟨in_of (by assumption) (by assumption), ?_⟩; try dsimp only [List.nil_append, List.cons_append])
  obtain ⟨gE, hE1, hE2⟩ := heap_of (h := h6) (rows := rows) fun p hp => (N8 p (.tail _ (.tail _ (.tail _ (List.mem_append_left _ hp))))).1
  have hED : gE.get? D = none := by
    cases q : gE.get? D with
    | none => rfl
    | some o => exact absurd rfl (rowD (D, o) (hE2 _ _ q)).1
  have hrow : ∀ v ∈ ys, ∃ k, k < n ∧ ys[k]? = some v ∧ Row3 rows κ x step k (k * 1) v := fun v hv => by
    obtain ⟨k, hk, rfl⟩ := List.mem_iff_getElem.mp hv
    obtain ⟨y, e1, e2⟩ := hR.2 k (by lia)
    rw [List.getElem?_eq_getElem hk] at e1; cases e1
    exact ⟨k, by lia, List.getElem?_eq_getElem hk, e2⟩
  have hdom : ∀ v ∈ ys, dom3 gE v := fun v hv => by obtain ⟨k, _, _, h⟩ := hrow v hv; exact (row3_facts hE1 h).1
  have N9 : News g L h6 ((D, lst ys) :: (it, riObj (x + n * step) ((N : Int) - n) step) :: (L + 1, oc) :: (rows ++ frs2)) := nwRe N8 [1, 0] 2
  have offD9 : ∀ p ∈ (it, riObj (x + n * step) ((N : Int) - n) step) :: (L + 1, oc) :: (rows ++ frs2), p.1 ≠ D := fun p hp => by
    simp only [List.mem_cons, List.mem_append] at hp
    rcases hp with rfl | rfl | h | h
    · exact itD
    · exact cD
    · exact (rowD p h).1
    · exact frD p h
  refine wpAny_call (heapify_max_call (vs := ys) (lt := fun a b => lt3 gE b a) (gE := gE) (ok_of B F6 N9 (by simp)) (N9 _ (.head _)).1 (Room.deeper (k := 8) (rm.less (by lia))) ltOk3 (fun b o e => (N9 (b, o) (by simp [hE2 b o e])).1) hED hdom (by lia) ?_)
  intro h7 tk8 K7 hD7
  obtain ⟨F7, N10⟩ := after1 F6 N9 offD9 K7 hD7
  obtain ⟨hp1, hp2⟩ := heapify_law (wk3 gE).flip ys
  generalize hfL (fun a b => lt3 gE b a) (ys.length / 2) ys = vs at N10 hp1 hp2
  have hvl : vs.length = n := by rw [hp2.length_eq, hysl]
  have hrv : ∀ v ∈ vs, Row3 rows κ x step ((row3 gE v).getD 1 0).toNat ((((row3 gE v).getD 1 0).toNat : Nat) : Int) v := fun v hv => by
    obtain ⟨k, _, _, h⟩ := hrow v (hp2.mem_iff.mp hv)
    rw [(row3_facts hE1 h).2]
    simpa using h
  have hsel : Sel (fun j => κ (x + j * step)) (fun j => (j : Int)) (fun v => ((row3 gE v).getD 1 0).toNat) vs n n := by
    refine (sel_init (vs := ys) ?_).perm hp2
    apply List.ext_getElem?
    intro i
    rw [List.getElem?_map]
    by_cases hi : i < n
    · obtain ⟨y, e1, e2⟩ := hR.2 i hi
      rw [e1, List.getElem?_range hi]
      simp [(row3_facts hE1 e2).2]
    · rw [List.getElem?_eq_none (by lia), List.getElem?_eq_none (by simpa using hi)]; rfl
  obtain ⟨v0, vr, hv0⟩ : ∃ v0 vr, vs = v0 :: vr := by
    cases vs with
    | nil => simp at hvl; lia
    | cons a b => exact ⟨a, b, rfl⟩
  obtain ⟨T0, ta, tb, tc, hT0, hT0m⟩ := hrv v0 (by rw [hv0]; exact .head _)
  with_reducible refine wpAny_execs_cons ?_
  refine wpAny_Assign_Name ?_
  with_reducible refine Subscript_ ?_
  with_reducible refine Subscript_ ?_
  (refine' ldM ?kF ?kv ?_; (case kF => assumption); (case kv => exact mput_same))
  with_reducible refine wpAny_Constant_int ?_
  refine item_listL (x := v0) (isList_of (N10 _ (.head _)).1) (by decide) (by decide) (by rw [hv0]; rfl) ?_
  subst hT0
  with_reducible refine wpAny_Constant_int ?_
  refine item_tupleT (j := 0) (isTup_of (N10 _ (.tail _ (.tail _ (.tail _ (List.mem_append_left _ hT0m))))).1) (by decide) (by decide) rfl rfl ?_
  (refine' stM ?kF ?kN ?_; (case kF => assumption); (case kN => assumption); intro _ _ _ _)
  with_reducible refine wpAny_execs_cons ?_
  refine wpAny_Assign_Name ?_
  (refine' ldM ?kF ?kv ?_; (case kF => assumption); (case kv => assumption))
  (refine' stM ?kF ?kN ?_; (case kF => assumption); (case kN => assumption); intro _ _ _ _)
  with_reducible refine wpAny_execs_cons ?_
  refine wpAny_Assign_Name ?_
  (refine' nmK ?kF ?kB ?ke ?_; (case kF => assumption); (case kB => assumption); (case ke => k_is))
  (refine' stM ?kF ?kN ?_; (case kF => assumption); (case kN => assumption); intro _ _ _ _)
  with_reducible refine wpAny_execs_cons ?_
  refine wpAny_For ?_
  (refine' ldM ?kF ?kv ?_; (case kF => assumption); (case kv => exact mput_ne (by decide) (mput_ne (by decide) (mput_ne (by decide) (mput_ne (by decide) mput_same)))))
  rename_i _ _ F8 N11
  have eN : ((N : Int) - n) = ((N - n : Nat) : Int) := by lia
  have N12 : News g L _ ((it, riObj (x + n * step) ((N : Int) - n) step) :: (D, listOf vs.toArray ys.length) :: (L + 1, oc) :: (rows ++ frs2)) := nwRe N11 [1, 0] 2
  rw [eN] at N12
  refine iter_ri (N12 : News g L _ _) ?_
  have offit : ∀ {o : Obj} {rows' : List (Addr × Obj)}, (∀ p ∈ rows', p.1 ≠ it) → ∀ p ∈ (D, o) :: (L + 1, oc) :: (rows' ++ frs2), p.1 ≠ it := fun {o rows'} hr' p hp => by
    simp only [List.mem_cons, List.mem_append] at hp
    rcases hp with rfl | rfl | h | h
    · exact Ne.symm itD
    · exact Ne.symm hci
    · exact hr' p h
    · exact (hcf2 p h).2
  refine for_ri (n := N - n) (fun i m' nx => NsJ D it L oc frs2 κ x step n i m' nx)
    rm.hand F8 N12 (offit fun p hp => (rowD p hp).2.1)
    ⟨rows, vs, _, _, _, _, _, _, _, gE, rfl, by exact mput_ne (by decide) (mput_ne (by decide) (mput_ne (by decide) mput_same)), by exact mput_ne (by decide) mput_same, by exact mput_ne (by decide) (mput_ne (by decide) mput_same), by exact mput_same, hvl, hrv, hsel, ⟨_, vr, hv0, rfl⟩, hE1, hE2, hp1, fun p hp => ⟨(rowD p hp).1, (rowD p hp).2.1⟩⟩ ?_ ?_
  · rintro i m' nx h tk t hi ⟨rows', vs', nn, f, od, ord, top, to, tt, gE', rfl, a1, a2, a3, a4, b1, b2, b3, ⟨w0, wr, b4, b5⟩, b6, b7, b8, b9⟩ F9 N13 off13
    have ee : x + (n : Int) * step + (i : Int) * step = x + ((n + i : Nat) : Int) * step := by rw [Int.natCast_add, Int.add_mul]; lia
    rw [ee] at F9
    refine wp_opq fun Q hQ => ?_
    with_reducible refine wpAny_execs_cons ?_
    refine wpAny_Assign_Name ?_
    refine Call_ ?_
    (refine' nameX_C ?kN ?kc ?km ?kd ?_; (case kN => assumption); (case kc => rfl); (case km => first | exact .head _ | exact .tail _ (.head _) | exact .tail _ (.tail _ (.head _)) | simp); (case kd => assumption))
    obtain ⟨fc, fd, ff, fs, hfk⟩ := hK.obj
    refine callWith_fun (oc := fc) (od := fd) (fd := ff) (osl := fs) ?_
    refine args_cons ?_
    (refine' ldM ?kF ?kv ?_; (case kF => assumption); (case kv => exact mput_same))
    refine args_nil ?_
    refine ⟨F9.keep _ _ (hgK _ _ hfk), ?_⟩
    refine hK.run _ _ _ _ _ (Room.deeper (k := 8) (rm.less (by lia))) ⟨n + i, by lia, rfl⟩ (fun b o e => F9.keep _ _ (hgK _ _ e)) ?_
    intro h10 tk10 t10 K10
    have F10 := fr_after (foot := []) F9 N13 (fun _ q => nomatch q) K10
    have N14 := news_after F9 N13 K10 fun p hp => .inl ⟨hp, List.not_mem_nil⟩
    clear F9 N13
    (refine' stM ?kF ?kN ?_; (case kF => assumption); (case kN => assumption); intro _ _ _ _)
    with_reducible refine wpAny_execs_cons ?_
    refine wpAny_If ?_
    refine wpAny_isTrue_Compare1 ?_
    (refine' ldM ?kF ?kv ?_; (case kF => assumption); (case kv => exact mput_same))
    (refine' ldM ?kF ?kv ?_; (case kF => assumption); (case kv => assumption))
    with_reducible refine PyProof.Rows.lt_int ?_
    with_reducible refine wpAny_truthy_bool ?_
    rename_i h11 tk11 F11 N15
    have hw0 : w0 ∈ vs' := by rw [b4]; exact .head _
    have hroot : ∀ v ∈ vs', κ (x + f v * step) < κ (x + f w0 * step) ∨ (κ (x + f v * step) = κ (x + f w0 * step) ∧ od (f v) ≤ od (f w0)) := fun v hv => by
      have h1 := heap_min (wk3 gE').flip b8 v hv
      rw [b4] at h1
      have h2 : lt3 gE' w0 v = false := h1
      rw [lt3, (row3_facts b6 (b2 v hv)).2, (row3_facts b6 (b2 w0 hw0)).2, ltI3] at h2
      simp only [decide_eq_false_iff_not] at h2
      lia
    by_cases hc : κ (x + ((n + i : Nat) : Int) * step) < top
    · rw [if_pos (by simpa using hc)]
      with_reducible refine wpAny_execs_cons ?_
      refine wpAny_Expr_any ?_
      refine Call_ ?_
      (refine' ldM ?kF ?kv ?_; (case kF => assumption); (case kv => assumption))
      (refine' callWith_K (Base.X (by assumption)) ?ke ?_; (case ke => k_is))
      refine args_cons ?_
      (refine' ldM ?kF ?kv ?_; (case kF => assumption); (case kv => assumption))
      refine args_cons ?_
      with_reducible refine Tuple_ ?_
      refine args_cons ?_
      (refine' ldM ?kF ?kv ?_; (case kF => assumption); (case kv => exact mput_same))
      refine args_cons ?_
      (refine' ldM ?kF ?kv ?_; (case kF => assumption); (case kv => assumption))
      refine args_cons ?_
      (refine' ldM ?kF ?kv ?_; (case kF => assumption); (case kv => exact mput_ne (by decide) mput_same))
      refine args_nil ?_
      refine newTuple_led F11 N15 (by simp) ?_
      intro U h12 F12 N16 neU
      refine args_nil ?_
      (refine ⟨in_of (by assumption) (by assumption), ?_⟩; try dsimp only [List.nil_append, List.cons_append])
      obtain ⟨gE2, c1, c2⟩ := heap_of (h := h12) (rows := (U, tupOf [.int (κ (x + ((n + i : Nat) : Int) * step)) t10, .int ord to, .int (x + ((n + i : Nat) : Int) * step) t]) :: rows') fun p hp => (N16 p (by
        simp only [List.mem_cons, List.mem_append] at hp ⊢; rcases hp with h | h <;> simp [h])).1
      have hUD : U ≠ D := fun e => neU (D, listOf vs'.toArray nn) (.tail _ (.head _)) e.symm
      have hUi : U ≠ it := fun e => neU (it, riObj (x + n * step + (i + 1 : Nat) * step) (((N - n : Nat) : Int) - (i + 1 : Nat)) step) (.head _) e.symm
      have hE2D : gE2.get? D = none := by
        cases q : gE2.get? D with
        | none => rfl
        | some o =>
          rcases List.mem_cons.mp (c2 _ _ q) with h | h
          · injection h with h _; exact absurd h.symm hUD
          · exact absurd rfl (b9 _ h).1
      have rowsame : ∀ v ∈ vs', dom3 gE2 v ∧ row3 gE2 v = row3 gE' v := fun v hv => by
        have q := row3_facts c1 ((b2 v hv).mono fun p hp => .tail _ hp)
        exact ⟨q.1, q.2.trans (row3_facts b6 (b2 v hv)).2.symm⟩
      have hH2 : HeapFrom (fun a b => lt3 gE2 b a) 0 vs' := heapFrom_congr (fun u hu v hv => by simp only [lt3, (rowsame u hu).2, (rowsame v hv).2]) b8
      have newRow : Row3 ((U, tupOf [.int (κ (x + ((n + i : Nat) : Int) * step)) t10, .int ord to, .int (x + ((n + i : Nat) : Int) * step) t]) :: rows') κ x step (n + i) ord (.ref U) := ⟨U, t10, to, t, rfl, .head _⟩
      have N17 : News g L h12 ((D, listOf vs'.toArray nn) :: (it, riObj (x + n * step + (i + 1 : Nat) * step) (((N - n : Nat) : Int) - (i + 1 : Nat)) step) :: (L + 1, oc) :: (((U, tupOf [.int (κ (x + ((n + i : Nat) : Int) * step)) t10, .int ord to, .int (x + ((n + i : Nat) : Int) * step) t]) :: rows') ++ frs2)) := nwRe N16 [2, 1, 3, 0] 4
      have hrows2 : ∀ p ∈ (U, tupOf [.int (κ (x + ((n + i : Nat) : Int) * step)) t10, .int ord to, .int (x + ((n + i : Nat) : Int) * step) t]) :: rows', p.1 ≠ D ∧ p.1 ≠ it := fun p hp => by
        rcases List.mem_cons.mp hp with rfl | hp
        · exact ⟨hUD, hUi⟩
        · exact b9 p hp
      refine wpAny_call (heapreplace_max_call (vs := vs') (x := .ref U) (lt := fun a b => lt3 gE2 b a) (gE := gE2) (ok_of B F12 N17 (by simp)) (N17 _ (.head _)).1 (Room.deeper (k := 8) (rm.less (by lia))) ltOk3 (fun b o e => (N17 (b, o) (by have := c2 b o e; simp only [List.mem_cons, List.mem_append] at this ⊢; rcases this with h | h <;> simp [h])).1) hE2D
        (fun v hv => (rowsame v hv).1) (row3_facts c1 newRow).1 (by lia) (by lia) ?_)
      intro h13 tk13 K13 hD13
      obtain ⟨F13, N18⟩ := after1 F12 N17 (fun p hp => by
        simp only [List.mem_cons, List.mem_append] at hp
        rcases hp with rfl | rfl | (rfl | h) | h
        · exact itD
        · exact cD
        · exact hUD
        · exact (b9 p h).1
        · exact frD p h) K13 hD13
      obtain ⟨r1, r2⟩ := replace_law (wk3 gE2).flip (x := .ref U) (by lia) hH2
      have hset : vs'.set 0 (.ref U) = .ref U :: wr := by rw [b4]; rfl
      generalize hsu : suL (fun a b => lt3 gE2 b a) (.ref U) 0 (vs'.set 0 (.ref U)) 0 = us at N18 r1 r2
      rw [hset] at r2
      have hUv : ∀ v ∈ vs', v ≠ .ref U := fun v hv e => by
        obtain ⟨T, _, _, _, rfl, hm⟩ := b2 v hv
        injection e with e
        exact neU (T, _) (by simp only [List.mem_cons, List.mem_append]; exact .inr (.inr (.inr (.inl hm)))) e
      have S2 := (b3.swap b4 hroot (by rw [← b5]; exact hc) hUv (Int.lt_succ ord)).perm r2
      have hul : us.length = n := by rw [r2.length_eq, ← b1, b4]; rfl
      have hRu : ∀ v ∈ us, Row3 ((U, tupOf [.int (κ (x + ((n + i : Nat) : Int) * step)) t10, .int ord to, .int (x + ((n + i : Nat) : Int) * step) t]) :: rows') κ x step (if v = .ref U then n + i else f v) (if (if v = .ref U then n + i else f v) = n + i then ord else od (if v = .ref U then n + i else f v)) v := fun v hv => by
        rcases List.mem_cons.mp (r2.mem_iff.mp hv) with e | hv'
        · rw [if_pos e, if_pos rfl, e]; exact newRow
        · have hvv : v ∈ vs' := by rw [b4]; exact .tail _ hv'
          rw [if_neg (hUv v hvv), if_neg (Nat.ne_of_lt (b3.lt v hvv))]
          exact (b2 v hvv).mono fun p hp => .tail _ hp
      obtain ⟨u0, ur, hu0⟩ : ∃ u0 ur, us = u0 :: ur := by
        cases us with
        | nil => simp at hul; lia
        | cons a b => exact ⟨a, b, rfl⟩
      obtain ⟨T1, s1, s2, s3, hT1, hT1m⟩ := hRu u0 (by rw [hu0]; exact .head _)
      with_reducible refine wpAny_execs_cons ?_
      refine Assign_Tuple ?_
      with_reducible refine Subscript_ ?_
      (refine' ldM ?kF ?kv ?_; (case kF => assumption); (case kv => assumption))
      with_reducible refine wpAny_Constant_int ?_
      refine item_listL (x := u0) (isList_of (N18 _ (.head _)).1) (by decide) (by decide) (by rw [hu0]; rfl) ?_
      rw [hT1]
      refine assign_Tuple_tuple rm.hand ⟨_, (N18 _ (.tail _ (.tail _ (.tail _ (List.mem_append_left _ hT1m))))).1, rfl, _, rfl⟩ rfl rfl fun h14 he14 => ?_
      have up14 : ∀ b o, h13.get? b = some o → h14.get? b = some o := fun b o e => he14 b o (Nat.ne_of_lt (Heap.lt_size e)) e
      have F14 := F13.keeps up14
      have N19 : News g L h14 _ := fun p hp => ⟨up14 _ _ (N18 p hp).1, (N18 p hp).2⟩
      refine assignInOrder_cons (wpAny_assign_Name (stM F14 N19 fun h15 tk15 F15 N20 => ?_))
      refine assignInOrder_cons (wpAny_assign_Name (stM F15 N20 fun h16 tk16 F16 N21 => ?_))
      refine assignInOrder_cons (wpAny_assign_Name (stM F16 N21 fun h17 tk17 F17 N22 => ?_))
      refine assignInOrder_nil ?_
      clear F14 N19 F15 N20 F16 N21 F13 N18 F12 N16 N17 F11 N15
      with_reducible refine wpAny_execs_cons ?_
      with_reducible refine wpAny_AugAssign_Name ?_
      refine wpAny_loadName_local rfl rfl F17.ns (by assumption) ?_
      with_reducible refine wpAny_Constant_int ?_
      with_reducible refine PyProof.Rows.iadd_int ?_
      (refine' stM ?kF ?kN ?_; (case kF => assumption); (case kN => assumption); intro _ _ _ _)
      with_reducible refine wpAny_execs_nil ?_
      with_reducible refine wpAny_execs_nil ?_
      rename_i h18 tk18 F18 N23
      refine hQ _ _ ⟨.inl rfl, h18, _, _, (D, listOf us.toArray nn) :: (L + 1, oc) :: (((U, tupOf [.int (κ (x + ((n + i : Nat) : Int) * step)) t10, .int ord to, .int (x + ((n + i : Nat) : Int) * step) t]) :: rows') ++ frs2), rfl, F18, nwRe N23 [1, 0] 2, offit fun p hp => (hrows2 p hp).2, _, us, nn, _, _, ord + 1, _, _, _, gE2, rfl, by assumption, by exact mput_same, by exact mput_ne (by decide) (mput_ne (by decide) (mput_ne (by decide) mput_same)), by assumption, hul, hRu, S2, ⟨u0, ur, hu0, rfl⟩, c1, c2, r1, hrows2⟩
    · rw [if_neg (by simpa using hc)]
      with_reducible refine wpAny_execs_nil ?_
      with_reducible refine wpAny_execs_nil ?_
      refine hQ _ _ ⟨.inl rfl, h11, _, _, (D, listOf vs'.toArray nn) :: (L + 1, oc) :: (rows' ++ frs2), rfl, F11, N15, off13, rows', vs', nn, f, od, ord, top, to, tt, gE', rfl, by assumption, by assumption, by assumption, by assumption, b1, b2, ?_, ⟨w0, wr, b4, b5⟩, b6, b7, b8, b9⟩
      refine b3.keep (r := w0) (fun v hv => by have := hroot v hv; lia) ?_
      lia
  · rintro m' nx h tk ⟨rows', vs', nn, f, od, ord, top, to, tt, gE', rfl, a1, a2, a3, a4, b1, b2, b3, _, b6, b7, b8, b9⟩ F9 N13
    rw [show n + (N - n) = N by lia] at b3
    have hE2D : gE'.get? D = none := by
      cases q : gE'.get? D with
      | none => rfl
      | some o => exact absurd rfl (b9 _ (b7 _ _ q)).1
    have hpf : vs'.Pairwise (fun a b => f a ≠ f b) := List.pairwise_map.mp b3.nd
    with_reducible refine wpAny_execs_cons ?_
    refine wpAny_Expr_any ?_
    refine MethodCall_ ?_
    (refine' ldM ?kF ?kv ?_; (case kF => assumption); (case kv => assumption))
    refine getMethod_lst PySem.F.slot_list_sort PySem.F.type_list_sort (N13 _ (.head _)).1 ?_
    try dsimp only
    refine callWith_method0 ?_
    refine call_sort (gE := gE') (N13 _ (.head _)).1 (by lia) (by lia) (fun b o e => (N13 (b, o) (.tail _ (.tail _ (List.mem_append_left _ (b7 b o e))))).1) hE2D (fun v hv => ⟨(row3_facts b6 (b2 v hv)).1, by rw [(row3_facts b6 (b2 v hv)).2]; rfl⟩) ?_ ?_
    · rw [List.Nodup, List.pairwise_map]
      refine List.Pairwise.imp_of_mem (fun {u v} hu hv huv e => huv ?_) hpf
      rw [(row3_facts b6 (b2 u hu)).2, (row3_facts b6 (b2 v hv)).2] at e
      simp only [List.cons.injEq, and_true] at e
      exact b3.odeq hu hv (by lia)
    intro h10 n10 out K10 hD10 hpo hpw
    obtain ⟨F10, N14⟩ := after1 F9 N13 (fun p hp => by
      simp only [List.mem_cons, List.mem_append] at hp
      rcases hp with rfl | h | h
      · exact cD
      · exact (b9 p h).1
      · exact frD p h) K10 hD10
    clear F9 N13
    have b3' := b3.perm hpo
    have b2' : ∀ v ∈ out, Row3 rows' κ x step (f v) (od (f v)) v := fun v hv => b2 v (hpo.mem_iff.mp hv)
    have hol : out.length = n := by rw [hpo.length_eq, b1]
    obtain ⟨es, hes1, hes2, hes3⟩ := thirds out b2'
    with_reducible refine wpAny_execs_cons ?_
    with_reducible refine wpAny_Return_some ?_
    (refine' ListComp_b ?cl ?kk ?nn ?_; (case cl => with_unfolding_all rfl); (case kk => rfl); (case nn => decide))
    (refine' ldM ?kF ?kv ?_; (case kF => assumption); (case kv => assumption))
    refine elems_block rm.hand F10 N14 (isList_of (N14 _ (.head _)).1) (by lia) hes1 (fun k v e hk he => by
      obtain ⟨T, a, b, e1, e2⟩ := hes3 k v e hk he
      exact ⟨T, a, b, e1, (N14 (T, tupOf [a, b, e]) (.tail _ (.tail _ (List.mem_append_left _ e2)))).1⟩) ?_
    refine done_value ?_
    rintro H h11 tk11 ys11 nx11 F11 N15 offH ap11 ⟨rfl, rfl⟩
    skip
    have hfrH : ∀ p ∈ frs2, p.1 ≠ H := fun p hp => offH p (by simp [hp])
    refine post h11 _ H _ ys11 (out.map f) frs2 sf2 (fun b o e nb => F11.keep b o (hg b o e nb)) (fun p hp => (N15 p (by simp [hp])).1) (N15 _ (.head _)).1 ?_ hfrH ?_ (by simp [hol]) ?_ ?_ ?_
    · cases q : s.heap.get? H with
      | none => exact .inl rfl
      | some o =>
        by_cases hm : H ∈ (frs ++ [(it, riObj x N step)]).map (·.1)
        · rw [List.map_append, List.mem_append] at hm
          rcases hm with hm | hm
          · rw [← sf2.addrs] at hm
            obtain ⟨p, hp, e⟩ := List.mem_map.mp hm
            exact absurd e (hfrH p hp)
          · exact .inr (by simpa using hm)
        · have := (N15 _ (.head _)).2.2; rw [hg _ _ q hm] at this; cases this
    · rw [List.map_map]; exact hes2
    · rw [List.pairwise_map]
      refine List.Pairwise.imp_of_mem (fun {u v} hu hv huv => ?_) hpw
      rw [lt3, (row3_facts b6 (b2' u hu)).2, (row3_facts b6 (b2' v hv)).2, ltI3] at huv
      simp only [decide_eq_true_eq] at huv
      rcases huv with h | ⟨h1, h | ⟨h2, h3⟩⟩
      · exact .inl h
      · exact .inr ⟨h1, b3'.odlt hu hv h⟩
      · rw [b3'.odeq hu hv h2] at h3; lia
    · intro j hj
      obtain ⟨v, hv, rfl⟩ := List.mem_map.mp hj
      exact b3'.lt v hv
    · intro j hj b hb hnb
      obtain ⟨v, hv, rfl⟩ := List.mem_map.mp hj
      exact b3'.out v hv b hb fun u hu e => hnb (List.mem_map.mpr ⟨u, hu, e⟩)

theorem rangeDown_size (n : Nat) : Builtin.Range.rangeSize 0 (-(n : Int)) (-1) = n := by rw [rangeSize_downNat]; lia
theorem small_down {n : Nat} (h : n < 60) : Builtin.Range.small 0 (-(n : Int)) (-1) = true := by
  unfold Builtin.Range.small
  rw [rangeDown_size]
  simp only [Builtin.Range.rangeFitsLong, Bool.and_eq_true, Bool.or_eq_true, decide_eq_true_eq, beq_iff_eq, show ¬ ((-1 : Int) > 0) by decide, if_false]
  lia
theorem callWith_bkw {M : Model} {A : Around} {E : Value → Shared → Prop} {s : Shared} {env : Env} {pos : Pos} {id : String} {first : List Value} {Q : Value → Shared → Prop} {kws : List Keyword}
    (h : wpAny M A (evalAll ((backToKw pos (keywordEach kws env)).map (·.2))) (fun ks s₂ => wpAny M A (call (.builtin id) (first ++ []) (((backToKw pos (keywordEach kws env)).filterMap (·.1)).zip ks)) Q E s₂) E s)
    (hall : (backToKw pos (keywordEach kws env)).all (·.1.isSome) = true := by rfl)
    (hplain : ((backTo pos (starEach [] env)).any (·.1) || (backToKw pos (keywordEach kws env)).any (·.1.isNone)) = false := by rfl) :
    wpAny M A (callWith pos (.builtin id) first (backTo pos (starEach [] env)) (backToKw pos (keywordEach kws env))) Q E s :=
  callWith_of (P := fun _ => True) hplain (fun _ _ => ⟨.machine, .inr (.inl rfl), .now⟩) (evalArgs_kw2_nil hall (wpAny_mono h (fun _ _ x => ⟨trivial, x⟩) fun _ _ x => x))

inductive NlJ (D it L : Addr) (oc : Obj) (frs2 : List (Addr × Obj)) (κ : Int → Int) (x step : Int) (n : Nat) (i : Nat) (m' : Str → Option Value) (nx : List (Addr × Obj)) : Prop
  | mk (rows' : List (Addr × Obj)) (vs' : List Value) (nn : Nat) (f : Value → Nat) (od : Nat → Int) (ord top : Int) (to tt : Tok) (gE' : Heap) :
    nx = (D, listOf vs'.toArray nn) :: (L + 1, oc) :: (rows' ++ frs2) →
    m' "result" = some (.ref D) →
    m' "order" = some (.int (-ord) to) →
    m' "top" = some (.int top tt) →
    m' "_heapreplace" = some (.ref 28) →
    vs'.length = n →
    (∀ v ∈ vs', Row3 rows' κ x step (f v) (-od (f v)) v) →
    Sel (fun j => -κ (x + j * step)) od f vs' (n + i) ord →
    (∃ v0 vr, vs' = v0 :: vr ∧ top = κ (x + f v0 * step)) →
    (∀ p ∈ rows', gE'.get? p.1 = some p.2) →
    (∀ b o, gE'.get? b = some o → (b, o) ∈ rows') →
    HeapFrom (lt3 gE') 0 vs' →
    (∀ p ∈ rows', p.1 ≠ D ∧ p.1 ≠ it) → NlJ D it L oc frs2 κ x step n i m' nx
theorem nl_call {prog : Program} {w : World} {A : Around} {s : Shared} {R : Result → Shared → Prop} {n N : Nat} {x step : Int} {tn : Tok} {it fk : Addr} {κ : Int → Int} {gK : Heap} {frs : List (Addr × Obj)} {outer : List Env}
    (O : Ok w ((frs ++ [(it, riObj x N step)]).map (·.1)) s.heap) (hfoot : ∀ p ∈ frs ++ [(it, riObj x N step)], s.heap.get? p.1 = some p.2) (hfr : A.frames = some outer) (hf : FrsAt outer frs) (hap : ∀ p ∈ frs, p.1 ≠ it)
    (hK : KeyOk prog w κ (fun e => ∃ i : Nat, i < N ∧ e = x + i * step) gK fk) (hKs : ∀ b o, gK.get? b = some o → s.heap.get? b = some o) (hKf : ∀ p ∈ frs ++ [(it, riObj x N step)], gK.get? p.1 = none)
    (hn : 2 ≤ n) (hnN : n < N) (hN : N < 60) (rm : Room A 12)
    (post : ∀ h' tk H c (vs : List Value) (sel : List Nat) frs', SameFrs frs frs' → Keeps ((frs ++ [(it, riObj x N step)]).map (·.1)) s.heap h' → (∀ p ∈ frs', h'.get? p.1 = some p.2) → h'.get? H = some (listOf vs.toArray c) → (s.heap.get? H = none ∨ H = it) → (∀ p ∈ frs', p.1 ≠ H) →
      IntsAre vs (sel.map fun (i : Nat) => x + i * step) → sel.length = n → sel.Pairwise (better fun j => -κ (x + j * step)) → (∀ j ∈ sel, j < N) → (∀ j ∈ sel, ∀ b, b < N → b ∉ sel → better (fun j => -κ (x + j * step)) j b) → R (.ok (.ret (.ref H))) { s with heap := h', toks := tk }) :
    codeAny (model prog w) A (.call (.ref 89) ⟨[.int n tn, .ref it], [("key", .ref fk)]⟩) R s := by
  refine enterC (foot := frs ++ [(it, riObj x N step)]) (binds := [("n", .int n tn), ("iterable", .ref it), ("key", .ref fk)]) O hfoot (by k_is) (by k_is) rm (binds_K (ok_in O) rfl (by k_is) rfl rfl rfl) rfl (by decide) ?_
  intro g L h₁ tk₁ cells B hg F N₀ hcells hfresh
  obtain ⟨oc, rfl, hoc⟩ := CellsAre.one hcells
  clear hcells
  replace hoc : oc.data = .cell (some (.ref fk)) := hoc
  obtain ⟨m, Fm, em⟩ := fr_any F
  have m1 : m "n" = some (.int n tn) := by rw [em]; rfl
  have m2 : m "iterable" = some (.ref it) := by rw [em]; rfl
  clear em F
  with_reducible refine wpAny_execs_cons ?_
  have hcf : ∀ p ∈ frs, p.1 ≠ L + 1 := fun p hp e => by
    have h1 := hfoot p (List.mem_append_left _ hp)
    rw [e, hfresh (L + 1, oc) (by simp)] at h1; cases h1
  have hci : it ≠ L + 1 := fun e => by
    have h1 := hfoot (it, riObj x N step) (List.mem_append_right _ (by simp))
    rw [show (it, riObj x N step).1 = L + 1 from e, hfresh (L + 1, oc) (by simp)] at h1; cases h1
  have N1 : News g L h₁ (frs ++ [(L + 1, oc), (it, riObj x N step)]) := fun p hp => N₀ p (by
    simp only [List.mem_append, List.mem_cons, List.not_mem_nil, or_false] at hp ⊢
    rcases hp with h | h | h <;> simp [h])
  have hgK : ∀ b o, gK.get? b = some o → g.get? b = some o := fun b o e => hg b o (hKs b o e) fun q => by
    obtain ⟨p, hp, rfl⟩ := List.mem_map.mp q
    rw [hKf p hp] at e; cases e
  clear N₀
  refine wpAny_If ?_
  refine wpAny_isTrue_Compare1 ?_
  (refine' ldM ?kF ?kv ?_; (case kF => assumption); (case kv => assumption))
  with_reducible refine wpAny_Constant_int ?_
  with_reducible refine PyProof.Rows.eq_int ?_
  with_reducible refine wpAny_truthy_bool ?_
  rw [if_neg (by simp only [beq_iff_eq]; lia)]
  with_reducible refine wpAny_execs_nil ?_
  with_reducible refine wpAny_execs_cons ?_
  refine try_len B (Room.deeper (k := 2) (rm.less (by lia))) Fm N1 (Around.frames_deeper hfr) hf (fun p hp q hq => by
    simp only [List.mem_cons, List.not_mem_nil, or_false] at hq
    rcases hq with rfl | rfl
    · exact hcf p hp
    · exact hap p hp) (.tail _ (.head _)) m2 ?_
  intro h2 tk2 frs2 sf2 F2 N2
  have hcf2 : ∀ p ∈ frs2, p.1 ≠ L + 1 ∧ p.1 ≠ it := fun p hp => by
    have : p.1 ∈ frs.map (·.1) := by rw [← sf2.addrs]; exact List.mem_map_of_mem hp
    obtain ⟨q, hq, e⟩ := List.mem_map.mp this
    exact e ▸ ⟨hcf q hq, hap q hq⟩
  have N3 : News g L h2 ((L + 1, oc) :: (it, riObj x N step) :: frs2) := nwRot N2
  clear N1 Fm N2
  with_reducible refine wpAny_execs_cons ?_
  refine wpAny_If ?_
  refine wpAny_isTrue_Compare1 ?_
  (refine' nameX_C ?kN ?kc ?km ?kd ?_; (case kN => assumption); (case kc => rfl); (case km => first | exact .head _ | exact .tail _ (.head _) | exact .tail _ (.tail _ (.head _)) | simp); (case kd => assumption))
  refine wpAny_Constant_none ?_
  with_reducible refine is_ref_none ?_
  with_reducible refine wpAny_truthy_bool ?_
  with_reducible refine if_ff ?_
  with_reducible refine wpAny_execs_nil ?_
  with_reducible refine wpAny_execs_cons ?_
  refine wpAny_Assign_Name ?_
  refine Call_ ?_
  (refine' nmB ?kF ?kB ?ke ?kv ?kn ?_; (case kF => assumption); (case kB => assumption); (case ke => k_is); (case kv => boot_by_name); (case kn => decide))
  refine PyProof.Rows.callWith_builtin1 ?_
  refine args_cons ?_
  (refine' ldM ?kF ?kv ?_; (case kF => assumption); (case kv => assumption))
  refine args_nil ?_
  refine iter_ri_call (N3 _ (.tail _ (.head _))).1 ?_
  (refine' stM ?kF ?kN ?_; (case kF => assumption); (case kN => assumption); intro _ _ _ _)
  with_reducible refine wpAny_execs_cons ?_
  rename_i h3 tk3 F3 N4
  (refine' AssignComp_b ?sw ?cl ?kk ?nn ?_; (case sw => with_unfolding_all rfl); (case cl => with_unfolding_all rfl); (case kk => rfl); (case nn => decide))
  refine Call_ ?_
  (refine' nmB ?kF ?kB ?ke ?kv ?kn ?_; (case kF => assumption); (case kB => assumption); (case ke => k_is); (case kv => boot_by_name); (case kn => decide))
  refine Pv.callWith_type1 ?_
  refine args_cons ?_
  refine Call_ ?_
  (refine' nmB ?kF ?kB ?ke ?kv ?kn ?_; (case kF => assumption); (case kB => assumption); (case ke => k_is); (case kv => boot_by_name); (case kn => decide))
  refine Pv.callWith_type1 ?_
  refine args_cons ?_
  with_reducible refine wpAny_Constant_int ?_
  refine args_cons ?_
  with_reducible refine wpAny_UnaryOp ?_
  (refine' ldM ?kF ?kv ?_; (case kF => assumption); (case kv => assumption))
  with_reducible refine PyProof.Rows.neg_int ?_
  refine args_cons ?_
  with_reducible refine wpAny_UnaryOp ?_
  with_reducible refine wpAny_Constant_int ?_
  with_reducible refine PyProof.Rows.neg_int ?_
  refine args_nil ?_
  refine rangeDown_led F3 N4 ?_
  intro r h4 tk4 t4 u4 v4 F4 N5 ner
  refine args_cons ?_
  (refine' ldM ?kF ?kv ?_; (case kF => assumption); (case kv => exact mput_same))
  refine args_nil ?_
  have hrs : Builtin.Range.rangeSize 0 (-(n : Int)) (-1) = n := rangeDown_size n
  refine call_zip_ri (N5 _ (.head _)).1 (N5 _ (.tail _ (.tail _ (.head _)))).1 (small_down (by lia)) ?_
  intro h5 z TI TO i1 K5 Z5 zn TIn TOn i1n
  rw [hrs] at Z5
  refine wpAny_pyIter_zip Z5.hz ?_
  have F5 := fr_after (foot := []) F4 N5 (fun _ q => nomatch q) K5
  obtain ⟨a0, b0, hTO⟩ := Z5.hTO
  have N6 : News g L h5 ((z, zpObj TI TO .none) :: (TI, prObj (.ref i1) (.ref it)) :: (TO, prObj a0 b0) :: (i1, riObj 0 n (-1)) :: (it, riObj x N step) :: (L + 1, oc) :: frs2) := news_after F4 N5 K5 fun p hp => by
    simp only [List.mem_cons] at hp
    rcases hp with rfl | rfl | rfl | rfl | rfl | rfl | hp
    · exact .inr ⟨Z5.hz, .inr zn⟩
    · exact .inr ⟨Z5.hTI, .inr TIn⟩
    · exact .inr ⟨hTO, .inr TOn⟩
    · exact .inr ⟨Z5.hi1, .inr i1n⟩
    · exact .inl ⟨by exact .tail _ (.tail _ (.head _)), List.not_mem_nil⟩
    · exact .inl ⟨by exact .tail _ (.head _), List.not_mem_nil⟩
    · exact .inl ⟨.tail _ (.tail _ (.tail _ hp)), List.not_mem_nil⟩
  have new5 : ∀ p ∈ (L + 1, oc) :: frs2, p.1 ∉ [z, TI, TO, i1, it] := fun p hp q => by
    have h0 : h4.get? p.1 = some p.2 := (N5 p (by
      rcases List.mem_cons.mp hp with rfl | hp
      · exact .tail _ (.head _)
      · exact .tail _ (.tail _ (.tail _ hp)))).1
    simp only [List.mem_cons, List.not_mem_nil, or_false] at q
    rcases q with h | h | h | h | h
    · rw [h, zn] at h0; cases h0
    · rw [h, TIn] at h0; cases h0
    · rw [h, TOn] at h0; cases h0
    · rw [h, i1n] at h0; cases h0
    · rcases List.mem_cons.mp hp with rfl | hp
      · exact hci h.symm
      · exact (hcf2 p hp).2 h
  refine zip_block Z5 F5 N6 new5 (.head _) hoc hK hgK (by with_reducible exact Nat.le_of_lt (by assumption)) hN (Room.deeper (k := 8) (rm.less (by lia))) ?_
  refine done_local ?_
  intro D h6 tk6 ys rows F6 N7 offD ap7 hR
  clear N6 N5 N4 N3 F5 F4 F3 F2
  have N8 : News g L h6 ((it, riObj (x + n * step) ((N : Int) - n) step) :: (D, lst ys) :: (L + 1, oc) :: (rows ++ frs2)) := nwIn N7
  have itD : it ≠ D := offD (it, riObj (x + n * step) ((N : Int) - n) step) (List.mem_append_right _ (.head _))
  have cD : L + 1 ≠ D := offD (L + 1, oc) (List.mem_append_right _ (.tail _ (.head _)))
  have frD : ∀ p ∈ frs2, p.1 ≠ D := fun p hp => offD p (List.mem_append_right _ (.tail _ (.tail _ hp)))
  have rowD : ∀ p ∈ rows, p.1 ≠ D ∧ p.1 ≠ it ∧ p.1 ≠ L + 1 ∧ ∀ q ∈ frs2, p.1 ≠ q.1 := fun p hp => ⟨offD p (List.mem_append_left _ hp), ap7 p hp (it, riObj (x + n * step) ((N : Int) - n) step) (.head _), ap7 p hp (L + 1, oc) (.tail _ (.head _)), fun q hq => ap7 p hp q (.tail _ (.tail _ hq))⟩
  have hysl := hR.1
  with_reducible refine wpAny_execs_cons ?_
  refine wpAny_If ?_
  with_reducible refine isTrue_not ?_
  refine isTrue_plain ?_
  (refine' ldM ?kF ?kv ?_; (case kF => assumption); (case kv => exact mput_same))
  refine truthy_lst (N8 _ (.tail _ (.head _))).1 (by lia) ?_
  intro tk7
  rw [show decide (ys ≠ []) = true from decide_eq_true (fun e => by rw [e] at hysl; simp at hysl; lia)]
  skip
  rw [if_neg (by decide)]
  with_reducible refine wpAny_execs_nil ?_
  with_reducible refine wpAny_execs_cons ?_
  refine wpAny_Expr_any ?_
  refine Call_ ?_
  (refine' nmK ?kF ?kB ?ke ?_; (case kF => assumption); (case kB => assumption); (case ke => k_is))
  (refine' callWith_K (Base.X (by assumption)) ?ke ?_; (case ke => k_is))
  refine args_cons ?_
  (refine' ldM ?kF ?kv ?_; (case kF => assumption); (case kv => exact mput_same))
  refine args_nil ?_
  (refine ⟨in_of (by assumption) (by assumption), ?_⟩; try dsimp only [List.nil_append, List.cons_append])
  obtain ⟨gE, hE1, hE2⟩ := heap_of (h := h6) (rows := rows) fun p hp => (N8 p (.tail _ (.tail _ (.tail _ (List.mem_append_left _ hp))))).1
  have hED : gE.get? D = none := by
    cases q : gE.get? D with
    | none => rfl
    | some o => exact absurd rfl (rowD (D, o) (hE2 _ _ q)).1
  have hrow : ∀ v ∈ ys, ∃ k, k < n ∧ ys[k]? = some v ∧ Row3 rows κ x step k (k * (-1)) v := fun v hv => by
    obtain ⟨k, hk, rfl⟩ := List.mem_iff_getElem.mp hv
    obtain ⟨y, e1, e2⟩ := hR.2 k (by lia)
    rw [List.getElem?_eq_getElem hk] at e1; cases e1
    exact ⟨k, by lia, List.getElem?_eq_getElem hk, e2⟩
  have hdom : ∀ v ∈ ys, dom3 gE v := fun v hv => by obtain ⟨k, _, _, h⟩ := hrow v hv; exact (row3_facts hE1 h).1
  have N9 : News g L h6 ((D, lst ys) :: (it, riObj (x + n * step) ((N : Int) - n) step) :: (L + 1, oc) :: (rows ++ frs2)) := nwRe N8 [1, 0] 2
  have offD9 : ∀ p ∈ (it, riObj (x + n * step) ((N : Int) - n) step) :: (L + 1, oc) :: (rows ++ frs2), p.1 ≠ D := fun p hp => by
    simp only [List.mem_cons, List.mem_append] at hp
    rcases hp with rfl | rfl | h | h
    · exact itD
    · exact cD
    · exact (rowD p h).1
    · exact frD p h
  refine wpAny_call (heapify_call (vs := ys) (lt := lt3 gE) (gE := gE) (ok_of B F6 N9 (by simp)) (N9 _ (.head _)).1 (Room.deeper (k := 8) (rm.less (by lia))) ltOk3 (fun b o e => (N9 (b, o) (by simp [hE2 b o e])).1) hED hdom (by lia) ?_)
  intro h7 tk8 K7 hD7
  obtain ⟨F7, N10⟩ := after1 F6 N9 offD9 K7 hD7
  obtain ⟨hp1, hp2⟩ := heapify_law (wk3 gE) ys
  generalize hfL (lt3 gE) (ys.length / 2) ys = vs at N10 hp1 hp2
  have hvl : vs.length = n := by rw [hp2.length_eq, hysl]
  have hrv : ∀ v ∈ vs, Row3 rows κ x step (-(row3 gE v).getD 1 0).toNat (-(((-(row3 gE v).getD 1 0).toNat : Nat) : Int)) v := fun v hv => by
    obtain ⟨k, _, _, h⟩ := hrow v (hp2.mem_iff.mp hv)
    rw [(row3_facts hE1 h).2]
    simpa using h
  have hsel : Sel (fun j => -κ (x + j * step)) (fun j => (j : Int)) (fun v => (-(row3 gE v).getD 1 0).toNat) vs n n := by
    refine (sel_init (vs := ys) ?_).perm hp2
    apply List.ext_getElem?
    intro i
    rw [List.getElem?_map]
    by_cases hi : i < n
    · obtain ⟨y, e1, e2⟩ := hR.2 i hi
      rw [e1, List.getElem?_range hi]
      simp [(row3_facts hE1 e2).2]
    · rw [List.getElem?_eq_none (by lia), List.getElem?_eq_none (by simpa using hi)]; rfl
  obtain ⟨v0, vr, hv0⟩ : ∃ v0 vr, vs = v0 :: vr := by
    cases vs with
    | nil => simp at hvl; lia
    | cons a b => exact ⟨a, b, rfl⟩
  obtain ⟨T0, ta, tb, tc, hT0, hT0m⟩ := hrv v0 (by rw [hv0]; exact .head _)
  with_reducible refine wpAny_execs_cons ?_
  refine wpAny_Assign_Name ?_
  with_reducible refine Subscript_ ?_
  with_reducible refine Subscript_ ?_
  (refine' ldM ?kF ?kv ?_; (case kF => assumption); (case kv => exact mput_same))
  with_reducible refine wpAny_Constant_int ?_
  refine item_listL (x := v0) (isList_of (N10 _ (.head _)).1) (by decide) (by decide) (by rw [hv0]; rfl) ?_
  subst hT0
  with_reducible refine wpAny_Constant_int ?_
  refine item_tupleT (j := 0) (isTup_of (N10 _ (.tail _ (.tail _ (.tail _ (List.mem_append_left _ hT0m))))).1) (by decide) (by decide) rfl rfl ?_
  (refine' stM ?kF ?kN ?_; (case kF => assumption); (case kN => assumption); intro _ _ _ _)
  with_reducible refine wpAny_execs_cons ?_
  refine wpAny_Assign_Name ?_
  with_reducible refine wpAny_UnaryOp ?_
  (refine' ldM ?kF ?kv ?_; (case kF => assumption); (case kv => assumption))
  with_reducible refine PyProof.Rows.neg_int ?_
  (refine' stM ?kF ?kN ?_; (case kF => assumption); (case kN => assumption); intro _ _ _ _)
  with_reducible refine wpAny_execs_cons ?_
  refine wpAny_Assign_Name ?_
  (refine' nmK ?kF ?kB ?ke ?_; (case kF => assumption); (case kB => assumption); (case ke => k_is))
  (refine' stM ?kF ?kN ?_; (case kF => assumption); (case kN => assumption); intro _ _ _ _)
  with_reducible refine wpAny_execs_cons ?_
  refine wpAny_For ?_
  (refine' ldM ?kF ?kv ?_; (case kF => assumption); (case kv => exact mput_ne (by decide) (mput_ne (by decide) (mput_ne (by decide) (mput_ne (by decide) mput_same)))))
  rename_i _ _ F8 N11
  have eN : ((N : Int) - n) = ((N - n : Nat) : Int) := by lia
  have N12 : News g L _ ((it, riObj (x + n * step) ((N : Int) - n) step) :: (D, listOf vs.toArray ys.length) :: (L + 1, oc) :: (rows ++ frs2)) := nwRe N11 [1, 0] 2
  rw [eN] at N12
  refine iter_ri (N12 : News g L _ _) ?_
  have offit : ∀ {o : Obj} {rows' : List (Addr × Obj)}, (∀ p ∈ rows', p.1 ≠ it) → ∀ p ∈ (D, o) :: (L + 1, oc) :: (rows' ++ frs2), p.1 ≠ it := fun {o rows'} hr' p hp => by
    simp only [List.mem_cons, List.mem_append] at hp
    rcases hp with rfl | rfl | h | h
    · exact Ne.symm itD
    · exact Ne.symm hci
    · exact hr' p h
    · exact (hcf2 p h).2
  refine for_ri (n := N - n) (fun i m' nx => NlJ D it L oc frs2 κ x step n i m' nx)
    rm.hand F8 N12 (offit fun p hp => (rowD p hp).2.1)
    ⟨rows, vs, _, _, _, _, _, _, _, gE, rfl, by exact mput_ne (by decide) (mput_ne (by decide) (mput_ne (by decide) mput_same)), by exact mput_ne (by decide) mput_same, by exact mput_ne (by decide) (mput_ne (by decide) mput_same), by exact mput_same, hvl, hrv, hsel, ⟨_, vr, hv0, rfl⟩, hE1, hE2, hp1, fun p hp => ⟨(rowD p hp).1, (rowD p hp).2.1⟩⟩ ?_ ?_
  · rintro i m' nx h tk t hi ⟨rows', vs', nn, f, od, ord, top, to, tt, gE', rfl, a1, a2, a3, a4, b1, b2, b3, ⟨w0, wr, b4, b5⟩, b6, b7, b8, b9⟩ F9 N13 off13
    have ee : x + (n : Int) * step + (i : Int) * step = x + ((n + i : Nat) : Int) * step := by rw [Int.natCast_add, Int.add_mul]; lia
    rw [ee] at F9
    refine wp_opq fun Q hQ => ?_
    with_reducible refine wpAny_execs_cons ?_
    refine wpAny_Assign_Name ?_
    refine Call_ ?_
    (refine' nameX_C ?kN ?kc ?km ?kd ?_; (case kN => assumption); (case kc => rfl); (case km => first | exact .head _ | exact .tail _ (.head _) | exact .tail _ (.tail _ (.head _)) | simp); (case kd => assumption))
    obtain ⟨fc, fd, ff, fs, hfk⟩ := hK.obj
    refine callWith_fun (oc := fc) (od := fd) (fd := ff) (osl := fs) ?_
    refine args_cons ?_
    (refine' ldM ?kF ?kv ?_; (case kF => assumption); (case kv => exact mput_same))
    refine args_nil ?_
    refine ⟨F9.keep _ _ (hgK _ _ hfk), ?_⟩
    refine hK.run _ _ _ _ _ (Room.deeper (k := 8) (rm.less (by lia))) ⟨n + i, by lia, rfl⟩ (fun b o e => F9.keep _ _ (hgK _ _ e)) ?_
    intro h10 tk10 t10 K10
    have F10 := fr_after (foot := []) F9 N13 (fun _ q => nomatch q) K10
    have N14 := news_after F9 N13 K10 fun p hp => .inl ⟨hp, List.not_mem_nil⟩
    clear F9 N13
    (refine' stM ?kF ?kN ?_; (case kF => assumption); (case kN => assumption); intro _ _ _ _)
    with_reducible refine wpAny_execs_cons ?_
    refine wpAny_If ?_
    refine wpAny_isTrue_Compare1 ?_
    (refine' ldM ?kF ?kv ?_; (case kF => assumption); (case kv => assumption))
    (refine' ldM ?kF ?kv ?_; (case kF => assumption); (case kv => exact mput_same))
    with_reducible refine PyProof.Rows.lt_int ?_
    with_reducible refine wpAny_truthy_bool ?_
    rename_i h11 tk11 F11 N15
    have hw0 : w0 ∈ vs' := by rw [b4]; exact .head _
    have hroot : ∀ v ∈ vs', -κ (x + f v * step) < -κ (x + f w0 * step) ∨ (-κ (x + f v * step) = -κ (x + f w0 * step) ∧ od (f v) ≤ od (f w0)) := fun v hv => by
      have h1 := heap_min (wk3 gE') b8 v hv
      rw [b4] at h1
      have h2 : lt3 gE' v w0 = false := h1
      rw [lt3, (row3_facts b6 (b2 v hv)).2, (row3_facts b6 (b2 w0 hw0)).2, ltI3] at h2
      simp only [decide_eq_false_iff_not] at h2
      lia
    by_cases hc : top < κ (x + ((n + i : Nat) : Int) * step)
    · rw [if_pos (by simpa using hc)]
      with_reducible refine wpAny_execs_cons ?_
      refine wpAny_Expr_any ?_
      refine Call_ ?_
      (refine' ldM ?kF ?kv ?_; (case kF => assumption); (case kv => assumption))
      (refine' callWith_K (Base.X (by assumption)) ?ke ?_; (case ke => k_is))
      refine args_cons ?_
      (refine' ldM ?kF ?kv ?_; (case kF => assumption); (case kv => assumption))
      refine args_cons ?_
      with_reducible refine Tuple_ ?_
      refine args_cons ?_
      (refine' ldM ?kF ?kv ?_; (case kF => assumption); (case kv => exact mput_same))
      refine args_cons ?_
      (refine' ldM ?kF ?kv ?_; (case kF => assumption); (case kv => assumption))
      refine args_cons ?_
      (refine' ldM ?kF ?kv ?_; (case kF => assumption); (case kv => exact mput_ne (by decide) mput_same))
      refine args_nil ?_
      refine newTuple_led F11 N15 (by simp) ?_
      intro U h12 F12 N16 neU
      refine args_nil ?_
      (refine ⟨in_of (by assumption) (by assumption), ?_⟩; try dsimp only [List.nil_append, List.cons_append])
      obtain ⟨gE2, c1, c2⟩ := heap_of (h := h12) (rows := (U, tupOf [.int (κ (x + ((n + i : Nat) : Int) * step)) t10, .int (-ord) to, .int (x + ((n + i : Nat) : Int) * step) t]) :: rows') fun p hp => (N16 p (by
        simp only [List.mem_cons, List.mem_append] at hp ⊢; rcases hp with h | h <;> simp [h])).1
      have hUD : U ≠ D := fun e => neU (D, listOf vs'.toArray nn) (.tail _ (.head _)) e.symm
      have hUi : U ≠ it := fun e => neU (it, riObj (x + n * step + (i + 1 : Nat) * step) (((N - n : Nat) : Int) - (i + 1 : Nat)) step) (.head _) e.symm
      have hE2D : gE2.get? D = none := by
        cases q : gE2.get? D with
        | none => rfl
        | some o =>
          rcases List.mem_cons.mp (c2 _ _ q) with h | h
          · injection h with h _; exact absurd h.symm hUD
          · exact absurd rfl (b9 _ h).1
      have rowsame : ∀ v ∈ vs', dom3 gE2 v ∧ row3 gE2 v = row3 gE' v := fun v hv => by
        have q := row3_facts c1 ((b2 v hv).mono fun p hp => .tail _ hp)
        exact ⟨q.1, q.2.trans (row3_facts b6 (b2 v hv)).2.symm⟩
      have hH2 : HeapFrom (lt3 gE2) 0 vs' := heapFrom_congr (fun u hu v hv => by simp only [lt3, (rowsame u hu).2, (rowsame v hv).2]) b8
      have newRow : Row3 ((U, tupOf [.int (κ (x + ((n + i : Nat) : Int) * step)) t10, .int (-ord) to, .int (x + ((n + i : Nat) : Int) * step) t]) :: rows') κ x step (n + i) (-ord) (.ref U) := ⟨U, t10, to, t, rfl, .head _⟩
      have N17 : News g L h12 ((D, listOf vs'.toArray nn) :: (it, riObj (x + n * step + (i + 1 : Nat) * step) (((N - n : Nat) : Int) - (i + 1 : Nat)) step) :: (L + 1, oc) :: (((U, tupOf [.int (κ (x + ((n + i : Nat) : Int) * step)) t10, .int (-ord) to, .int (x + ((n + i : Nat) : Int) * step) t]) :: rows') ++ frs2)) := nwRe N16 [2, 1, 3, 0] 4
      have hrows2 : ∀ p ∈ (U, tupOf [.int (κ (x + ((n + i : Nat) : Int) * step)) t10, .int (-ord) to, .int (x + ((n + i : Nat) : Int) * step) t]) :: rows', p.1 ≠ D ∧ p.1 ≠ it := fun p hp => by
        rcases List.mem_cons.mp hp with rfl | hp
        · exact ⟨hUD, hUi⟩
        · exact b9 p hp
      refine wpAny_call (heapreplace_call (vs := vs') (x := .ref U) (lt := lt3 gE2) (gE := gE2) (ok_of B F12 N17 (by simp)) (N17 _ (.head _)).1 (Room.deeper (k := 8) (rm.less (by lia))) ltOk3 (fun b o e => (N17 (b, o) (by have := c2 b o e; simp only [List.mem_cons, List.mem_append] at this ⊢; rcases this with h | h <;> simp [h])).1) hE2D
        (fun v hv => (rowsame v hv).1) (row3_facts c1 newRow).1 (by lia) (by lia) ?_)
      intro h13 tk13 K13 hD13
      obtain ⟨F13, N18⟩ := after1 F12 N17 (fun p hp => by
        simp only [List.mem_cons, List.mem_append] at hp
        rcases hp with rfl | rfl | (rfl | h) | h
        · exact itD
        · exact cD
        · exact hUD
        · exact (b9 p h).1
        · exact frD p h) K13 hD13
      obtain ⟨r1, r2⟩ := replace_law (wk3 gE2) (x := .ref U) (by lia) hH2
      have hset : vs'.set 0 (.ref U) = .ref U :: wr := by rw [b4]; rfl
      generalize hsu : suL (lt3 gE2) (.ref U) 0 (vs'.set 0 (.ref U)) 0 = us at N18 r1 r2
      rw [hset] at r2
      have hUv : ∀ v ∈ vs', v ≠ .ref U := fun v hv e => by
        obtain ⟨T, _, _, _, rfl, hm⟩ := b2 v hv
        injection e with e
        exact neU (T, _) (by simp only [List.mem_cons, List.mem_append]; exact .inr (.inr (.inr (.inl hm)))) e
      have S2 := (b3.swap b4 hroot (by rw [← b5]; exact Int.neg_lt_neg hc) hUv (Int.lt_succ ord)).perm r2
      have hul : us.length = n := by rw [r2.length_eq, ← b1, b4]; rfl
      have hRu : ∀ v ∈ us, Row3 ((U, tupOf [.int (κ (x + ((n + i : Nat) : Int) * step)) t10, .int (-ord) to, .int (x + ((n + i : Nat) : Int) * step) t]) :: rows') κ x step (if v = .ref U then n + i else f v) (-(if (if v = .ref U then n + i else f v) = n + i then ord else od (if v = .ref U then n + i else f v))) v := fun v hv => by
        rcases List.mem_cons.mp (r2.mem_iff.mp hv) with e | hv'
        · rw [if_pos e, if_pos rfl, e]; exact newRow
        · have hvv : v ∈ vs' := by rw [b4]; exact .tail _ hv'
          rw [if_neg (hUv v hvv), if_neg (Nat.ne_of_lt (b3.lt v hvv))]
          exact (b2 v hvv).mono fun p hp => .tail _ hp
      obtain ⟨u0, ur, hu0⟩ : ∃ u0 ur, us = u0 :: ur := by
        cases us with
        | nil => simp at hul; lia
        | cons a b => exact ⟨a, b, rfl⟩
      obtain ⟨T1, s1, s2, s3, hT1, hT1m⟩ := hRu u0 (by rw [hu0]; exact .head _)
      with_reducible refine wpAny_execs_cons ?_
      refine Assign_Tuple ?_
      with_reducible refine Subscript_ ?_
      (refine' ldM ?kF ?kv ?_; (case kF => assumption); (case kv => assumption))
      with_reducible refine wpAny_Constant_int ?_
      refine item_listL (x := u0) (isList_of (N18 _ (.head _)).1) (by decide) (by decide) (by rw [hu0]; rfl) ?_
      rw [hT1]
      refine assign_Tuple_tuple rm.hand ⟨_, (N18 _ (.tail _ (.tail _ (.tail _ (List.mem_append_left _ hT1m))))).1, rfl, _, rfl⟩ rfl rfl fun h14 he14 => ?_
      have up14 : ∀ b o, h13.get? b = some o → h14.get? b = some o := fun b o e => he14 b o (Nat.ne_of_lt (Heap.lt_size e)) e
      have F14 := F13.keeps up14
      have N19 : News g L h14 _ := fun p hp => ⟨up14 _ _ (N18 p hp).1, (N18 p hp).2⟩
      refine assignInOrder_cons (wpAny_assign_Name (stM F14 N19 fun h15 tk15 F15 N20 => ?_))
      refine assignInOrder_cons (wpAny_assign_Name (stM F15 N20 fun h16 tk16 F16 N21 => ?_))
      refine assignInOrder_cons (wpAny_assign_Name (stM F16 N21 fun h17 tk17 F17 N22 => ?_))
      refine assignInOrder_nil ?_
      clear F14 N19 F15 N20 F16 N21 F13 N18 F12 N16 N17 F11 N15
      with_reducible refine wpAny_execs_cons ?_
      with_reducible refine wpAny_AugAssign_Name ?_
      refine wpAny_loadName_local rfl rfl F17.ns (by assumption) ?_
      with_reducible refine wpAny_Constant_int ?_
      with_reducible refine PyProof.Rows.isub_int ?_
      (refine' stM ?kF ?kN ?_; (case kF => assumption); (case kN => assumption); intro _ _ _ _)
      with_reducible refine wpAny_execs_nil ?_
      with_reducible refine wpAny_execs_nil ?_
      rename_i h18 tk18 F18 N23
      refine hQ _ _ ⟨.inl rfl, h18, _, _, (D, listOf us.toArray nn) :: (L + 1, oc) :: (((U, tupOf [.int (κ (x + ((n + i : Nat) : Int) * step)) t10, .int (-ord) to, .int (x + ((n + i : Nat) : Int) * step) t]) :: rows') ++ frs2), rfl, F18, nwRe N23 [1, 0] 2, offit fun p hp => (hrows2 p hp).2, _, us, nn, _, _, ord + 1, _, _, _, gE2, rfl, by assumption, by rw [show -(ord + 1) = -ord - 1 by lia]; exact mput_same, by exact mput_ne (by decide) (mput_ne (by decide) (mput_ne (by decide) mput_same)), by assumption, hul, hRu, S2, ⟨u0, ur, hu0, rfl⟩, c1, c2, r1, hrows2⟩
    · rw [if_neg (by simpa using hc)]
      with_reducible refine wpAny_execs_nil ?_
      with_reducible refine wpAny_execs_nil ?_
      refine hQ _ _ ⟨.inl rfl, h11, _, _, (D, listOf vs'.toArray nn) :: (L + 1, oc) :: (rows' ++ frs2), rfl, F11, N15, off13, rows', vs', nn, f, od, ord, top, to, tt, gE', rfl, by assumption, by assumption, by assumption, by assumption, b1, b2, ?_, ⟨w0, wr, b4, b5⟩, b6, b7, b8, b9⟩
      refine b3.keep (r := w0) (fun v hv => by have := hroot v hv; lia) ?_
      lia
  · rintro m' nx h tk ⟨rows', vs', nn, f, od, ord, top, to, tt, gE', rfl, a1, a2, a3, a4, b1, b2, b3, _, b6, b7, b8, b9⟩ F9 N13
    rw [show n + (N - n) = N by lia] at b3
    have hE2D : gE'.get? D = none := by
      cases q : gE'.get? D with
      | none => rfl
      | some o => exact absurd rfl (b9 _ (b7 _ _ q)).1
    have hpf : vs'.Pairwise (fun a b => f a ≠ f b) := List.pairwise_map.mp b3.nd
    with_reducible refine wpAny_execs_cons ?_
    refine wpAny_Expr_any ?_
    refine methodCall_KW ?_
    (refine' ldM ?kF ?kv ?_; (case kF => assumption); (case kv => assumption))
    refine getMethod_lst PySem.F.slot_list_sort PySem.F.type_list_sort (N13 _ (.head _)).1 ?_
    try dsimp only
    refine callWith_bkw (kwAll_cons ?_)
    refine wpAny_Constant_bool ?_
    refine kwAll_nil ?_
    try dsimp only
    refine call_sort_rev (gE := gE') (N13 _ (.head _)).1 (by lia) (by lia) (fun b o e => (N13 (b, o) (.tail _ (.tail _ (List.mem_append_left _ (b7 b o e))))).1) hE2D (fun v hv => ⟨(row3_facts b6 (b2 v hv)).1, by rw [(row3_facts b6 (b2 v hv)).2]; rfl⟩) ?_ ?_
    · rw [List.Nodup, List.pairwise_map]
      refine List.Pairwise.imp_of_mem (fun {u v} hu hv huv e => huv ?_) hpf
      rw [(row3_facts b6 (b2 u hu)).2, (row3_facts b6 (b2 v hv)).2] at e
      simp only [List.cons.injEq, and_true] at e
      exact b3.odeq hu hv (by lia)
    intro h10 n10 out K10 hD10 hpo hpw
    obtain ⟨F10, N14⟩ := after1 F9 N13 (fun p hp => by
      simp only [List.mem_cons, List.mem_append] at hp
      rcases hp with rfl | h | h
      · exact cD
      · exact (b9 p h).1
      · exact frD p h) K10 hD10
    clear F9 N13
    have b3' := b3.perm hpo
    have b2' : ∀ v ∈ out, Row3 rows' κ x step (f v) (-od (f v)) v := fun v hv => b2 v (hpo.mem_iff.mp hv)
    have hol : out.length = n := by rw [hpo.length_eq, b1]
    obtain ⟨es, hes1, hes2, hes3⟩ := thirds (od := fun j => -od j) out b2'
    with_reducible refine wpAny_execs_cons ?_
    with_reducible refine wpAny_Return_some ?_
    (refine' ListComp_b ?cl ?kk ?nn ?_; (case cl => with_unfolding_all rfl); (case kk => rfl); (case nn => decide))
    (refine' ldM ?kF ?kv ?_; (case kF => assumption); (case kv => assumption))
    refine elems_block rm.hand F10 N14 (isList_of (N14 _ (.head _)).1) (by lia) hes1 (fun k v e hk he => by
      obtain ⟨T, a, b, e1, e2⟩ := hes3 k v e hk he
      exact ⟨T, a, b, e1, (N14 (T, tupOf [a, b, e]) (.tail _ (.tail _ (List.mem_append_left _ e2)))).1⟩) ?_
    refine done_value ?_
    rintro H h11 tk11 ys11 nx11 F11 N15 offH ap11 ⟨rfl, rfl⟩
    skip
    have hfrH : ∀ p ∈ frs2, p.1 ≠ H := fun p hp => offH p (by simp [hp])
    refine post h11 _ H _ ys11 (out.map f) frs2 sf2 (fun b o e nb => F11.keep b o (hg b o e nb)) (fun p hp => (N15 p (by simp [hp])).1) (N15 _ (.head _)).1 ?_ hfrH ?_ (by simp [hol]) ?_ ?_ ?_
    · cases q : s.heap.get? H with
      | none => exact .inl rfl
      | some o =>
        by_cases hm : H ∈ (frs ++ [(it, riObj x N step)]).map (·.1)
        · rw [List.map_append, List.mem_append] at hm
          rcases hm with hm | hm
          · rw [← sf2.addrs] at hm
            obtain ⟨p, hp, e⟩ := List.mem_map.mp hm
            exact absurd e (hfrH p hp)
          · exact .inr (by simpa using hm)
        · have := (N15 _ (.head _)).2.2; rw [hg _ _ q hm] at this; cases this
    · rw [List.map_map]; exact hes2
    · rw [List.pairwise_map]
      refine List.Pairwise.imp_of_mem (fun {u v} hu hv huv => ?_) hpw
      rw [lt3, (row3_facts b6 (b2' v hv)).2, (row3_facts b6 (b2' u hu)).2, ltI3] at huv
      simp only [decide_eq_true_eq] at huv
      rcases huv with h | ⟨h1, h | ⟨h2, h3⟩⟩
      · exact .inl (Int.neg_lt_neg h)
      · exact .inr ⟨by show -κ _ = -κ _; rw [h1], b3'.odlt hu hv (by lia)⟩
      · rw [b3'.odeq hu hv (by lia)] at h3; lia
    · intro j hj
      obtain ⟨v, hv, rfl⟩ := List.mem_map.mp hj
      exact b3'.lt v hv
    · intro j hj b hb hnb
      obtain ⟨v, hv, rfl⟩ := List.mem_map.mp hj
      exact b3'.out v hv b hb fun u hu e => hnb (List.mem_map.mpr ⟨u, hu, e⟩)

noncomputable abbrev enObj (it : Addr) (i : Int) (old : Value) : Obj := { cls := .type "enumerate", data := .fields #[.none, .bool false, .ref it, rawInt i, .none, old] }
theorem news_perm {g h : Heap} {L : Addr} {a b : List (Addr × Obj)} (N : News g L h a) (hs : ∀ p ∈ b, p ∈ a) : News g L h b := fun p hp => N p (hs p hp)

inductive EnInv (st : Heap → Tok → Shared) (g : Heap) (L e it c l : Addr) (items : List Value) (J : Nat → (Str → Option Value) → List (Addr × Obj) → Prop) (k : Nat) (s' : Shared) : Prop
  | mk (h : Heap) (tk : Tok) (m : Str → Option Value) (nx : List (Addr × Obj)) (i : Nat) (old : Value) (oc : Obj) (v : Option Value) (oi : Obj) : s' = st h tk → Fr g L h m → News g L h ((e, enObj it (i : Nat) old) :: (it, oi) :: (c, oc) :: nx) →
      (oi.cls = .type "list_iterator" ∧ oi.data = .fields #[.ref l, .int (i : Nat) 0]) → oc.data = .cell v → (∀ p ∈ nx, p.1 ≠ e ∧ p.1 ≠ it ∧ p.1 ≠ c) → J i m nx → i ≤ items.length → k = items.length - i → EnInv st g L e it c l items J k s'
inductive EnEnd (s : Shared) (g : Heap) (L e it c : Addr) (eo oi oc : Obj) (J : (Str → Option Value) → List (Addr × Obj) → Prop) (s' : Shared) : Prop
  | mk (h' : Heap) (tk' : Tok) (m' : Str → Option Value) (nx' : List (Addr × Obj)) : s' = { s with heap := h', toks := tk' } → Fr g L h' m' → News g L h' ((e, eo) :: (it, oi) :: (c, oc) :: nx') → (∀ p ∈ nx', p.1 ≠ e ∧ p.1 ≠ it ∧ p.1 ≠ c) → J m' nx' → EnEnd s g L e it c eo oi oc J s'
section
variable {prog : Program} {w : World} {A : Around} {s : Shared} {g : Heap} {L e it l c a₀ : Addr} {cn : Str} {cs : Scope} {ccd : Value} {cl : List (Str × Addr)} {m₀ : Str → Option Value} {nx₀ : List (Addr × Obj)} {oc₀ oi₀ : Obj}
theorem for_enum {xi xv : Str} {pi pv pt : Pos} {k1 : Nat} {body : List Stmt} {items : List Value} {nl : Nat} {v₀ : Option Value} {Q : Flow → Shared → Prop} (J : Nat → (Str → Option Value) → List (Addr × Obj) → Prop)
    (hh : A.handled = none) (F : Fr g L s.heap m₀) (N : News g L s.heap ((e, enObj it 0 .none) :: (it, oi₀) :: (c, oc₀) :: nx₀)) (hoi₀ : oi₀.cls = .type "list_iterator" ∧ oi₀.data = .fields #[.ref l, .int (0 : Nat) 0])
    (hoc : oc₀.data = .cell v₀) (hcl : cl.lookup xv = some c) (hei : e ≠ it) (hec : e ≠ c) (hic : it ≠ c) (off₀ : ∀ p ∈ nx₀, p.1 ≠ e ∧ p.1 ≠ it ∧ p.1 ≠ c) (hl : ∀ i m nx, J i m nx → (l, listOf items.toArray nl) ∈ nx) (h0 : J 0 m₀ nx₀)
    (turn : ∀ i m nx h tk t oc eo oi, i < items.length → J i m nx → Fr g L h (mput m xi (.int i t)) → News g L h ((e, eo) :: (it, oi) :: (c, oc) :: nx) → oc.data = .cell (some (items.getD i .none)) → (∀ p ∈ nx, p.1 ≠ e ∧ p.1 ≠ it ∧ p.1 ≠ c) →
      wpAny (model prog w) A (execs body (envX cn cs L a₀ ccd cl)) (fun f s' => f = .next ∧ EnEnd s g L e it c eo oi oc (J (i + 1)) s') No { s with heap := h, toks := tk })
    (done : ∀ m nx h tk, J items.length m nx → Fr g L h m → News g L h nx → Q .next { s with heap := h, toks := tk })
    (hk : cs.kind = .function := by rfl) (hxi : (envX cn cs L a₀ ccd cl).kindOf xi = some .local := by rfl) (hxv : (envX cn cs L a₀ ccd cl).kindOf xv = some .cell := by rfl) :
    codeAny (model prog w) A (.forLoop (.Tuple [.Name xi pi, .Name xv pv] k1 pt) (.ref e) body [] (envX cn cs L a₀ ccd cl)) (fun r s' => match r with | .ok f => Q f s' | .error e => cameBackBy (model prog w) A (envX cn cs L a₀ ccd cl) No e s') s := by
  refine codeAny_forLoop_any (EnInv (fun h tk => { s with heap := h, toks := tk }) g L e it c l items J) ?_ items.length
    ⟨s.heap, s.toks, m₀, nx₀, 0, .none, oc₀, v₀, _, rfl, F, N, hoi₀, hoc, off₀, h0, Nat.zero_le _, rfl⟩
  rintro k s' ⟨h, tk, m, nx, i, old, oc, v, oi, rfl, F1, N1, hoi, hoc1, off1, hJ, hi, rfl⟩
  have he1 : IsEnum h e it i old := (N1 _ (.head _)).1
  have hit1 : h.IsListIter it l i := ⟨oi, (N1 _ (.tail _ (.head _))).1, hoi⟩
  have hl1 : h.IsList l items.toArray := isList_of (N1 _ (.tail _ (.tail _ (.tail _ (hl _ _ _ hJ))))).1
  by_cases hlt : i < items.length
  · have hx : items.toArray[i]? = some (items.getD i .none) := by simpa using getD_some hlt
    refine wpAny_pyNext_enum_item he1 hit1 hl1 hx hei fun h2 heo hit2 ht2 hz2 hk2 => ?_
    have K2 : Keeps [e, it] h h2 := fun b o eb hb => hk2 b o (fun q => hb (by simp [q])) (fun q => hb (by simp [q])) eb
    obtain ⟨oi2, hoi2, hoi2'⟩ := hit2
    refine wpAny_letOwnedTupleGo_enum heo fun h3 he3 hs3 => ?_
    have K3 : Keeps [e, it] h h3 := fun b o eb hb => keeps_same hs3 b o (K2 b o eb hb) (fun q => hb (by rw [List.mem_singleton.mp q]; simp))
    have F3 : Fr g L h3 m := fr_after F1 N1 (by simp) K3
    have N3 : News g L h3 ((e, enObj it ((i : Int) + 1) (items.getD i .none)) :: (it, oi2) :: (c, oc) :: nx) := news_after F1 N1 K3 fun p hp => by
      simp only [List.mem_cons] at hp
      rcases hp with rfl | rfl | rfl | hp
      · exact .inr ⟨he3, .inl (by simp)⟩
      · exact .inr ⟨keeps_same hs3 _ _ hoi2 (by simpa using Ne.symm hei), .inl (by simp)⟩
      · exact .inl ⟨by simp, by simp [Ne.symm hec, Ne.symm hic]⟩
      · exact .inl ⟨by simp [hp], by have := off1 p hp; simp [this.1, this.2.1]⟩
    have hT3 : h3.get? h.objs.size = some { cls := .type "tuple", data := .seq #[.int i tk, items.getD i .none] } := keeps_same hs3 _ _ ht2 (by simpa using Nat.ne_of_gt (Heap.lt_size he1))
    refine assign_Tuple_tuple hh (items := #[.int i tk, items.getD i .none]) ⟨_, hT3, rfl, _, rfl⟩ rfl rfl fun h4 he4 => ?_
    have up4 : ∀ b o, h3.get? b = some o → h4.get? b = some o := fun b o e => he4 b o (Nat.ne_of_lt (Heap.lt_size e)) e
    have F4 : Fr g L h4 m := F3.keeps up4
    have N4 : News g L h4 _ := fun p hp => ⟨up4 _ _ (N3 p hp).1, (N3 p hp).2⟩
    refine assignInOrder_cons (wpAny_assign_Name (stM F4 N4 (fun h5 tk5 F5 N5 => ?_) hk hxi))
    have N5' : News g L h5 ((c, oc) :: (e, enObj it ((i : Int) + 1) (items.getD i .none)) :: (it, oi2) :: nx) := news_perm N5 fun p hp => by
      simp only [List.mem_cons] at hp ⊢; rcases hp with h | h | h | h <;> simp [h]
    refine assignInOrder_cons (wpAny_assign_Name (stC F5 N5' (fun p hp => ?_) hcl hoc1 (fun h6 oc6 F6 N6 hoc6 => ?_) hk hxv))
    · simp only [List.mem_cons] at hp
      rcases hp with rfl | rfl | hp
      · exact hec
      · exact hic
      · exact (off1 p hp).2.2
    refine assignInOrder_nil ?_
    have N6' : News g L h6 ((e, enObj it ((i : Int) + 1) (items.getD i .none)) :: (it, oi2) :: (c, oc6) :: nx) := news_perm N6 fun p hp => by
      simp only [List.mem_cons] at hp ⊢; rcases hp with h | h | h | h <;> simp [h]
    refine wpAny_mono (turn i m nx h6 _ _ oc6 _ oi2 hlt hJ F6 N6' hoc6 off1) (fun f s7 x => ?_) fun _ _ x => x.elim
    obtain ⟨rfl, h7, tk7, m7, nx7, rfl, F7, N7, off7, J7⟩ := x
    exact ⟨items.length - (i + 1), by with_reducible exact ar3 (by assumption), h7, tk7, m7, nx7, i + 1, _, oc6, _, oi2, rfl, F7, N7, hoi2', hoc6, off7, J7, hlt, rfl⟩
  · have hin : i = items.length := by lia
    subst hin
    refine wpAny_pyNext_enum_end hh he1 hit1 hl1 (by simp) fun h2 he2 => wpAny_execs_nil ?_
    have K2 : Keeps [it] h h2 := keeps_ext he2
    exact done m nx h2 tk hJ (fr_after F1 N1 (by simp) K2) (news_after F1 N1 K2 fun p hp => .inl ⟨by simp [hp], by simpa using (off1 p hp).2.1⟩)
end

theorem tests_one {prog : Program} {w : World} {A : Around} {s : Shared} {env : Env} {ct : Expr} {Q : Bool → Shared → Prop} {E : Value → Shared → Prop} (h : wpAny (model prog w) A (isTrue ct env (eval ct env)) Q E s) : wpAny (model prog w) A (testsOf [ct] env) Q E s := by
  show wpAny _ A (forIn [ct] true _) Q E s
  rw [List.forIn_cons]
  refine wpAny_bind (wpAny_bind (wpAny_mono h (fun b s' x => wpAny_pure ?_) fun _ _ x => x))
  dsimp only
  rw [List.forIn_nil]
  exact wpAny_pure x

noncomputable def remsOf (cs : List Nat) : List Int := cs.map fun c => ((c % 32 : Nat) : Int)
theorem slice_from {cs : List Nat} {i : Nat} (h : i ≤ cs.length) : Txt.slice ⟨cs.toArray⟩ (some (i : Int)) none = ⟨(cs.drop i).toArray⟩ := by
  have hl : ((⟨cs.toArray⟩ : Str).length : Int) = cs.length := by simp [Str.length]
  rw [slice_from_eq (b := (cs.length : Int)) (by with_reducible exact Int.natCast_nonneg _) (by rw [hl]; lia) hl.symm]
  have e : ((cs.length : Int) - (i : Int)).toNat = cs.length - i := by with_reducible exact ar29 (by assumption)
  rw [e, Int.toNat_natCast, List.take_of_length_le (by simp)]

inductive EndIn (nx : List (Addr × Obj)) (cs : List Nat) (k : Nat) (y : Value) : Prop
  | mk (l : Addr) (ws : List Value) (n : Nat) : y = .ref l → (l, listOf (List.toArray ws) n) ∈ nx → IntsAre ws (remsOf (cs.drop k)) → EndIn nx cs k y
theorem EndIn.mono {nx nx' : List (Addr × Obj)} {cs : List Nat} {k : Nat} {y : Value} (h : EndIn nx cs k y) (hs : ∀ p ∈ nx, p ∈ nx') : EndIn nx' cs k y :=
  let ⟨l, ws, n, h1, h2, h3⟩ := h; ⟨l, ws, n, h1, hs _ h2, h3⟩

noncomputable def rankOf (cs : List Nat) (st : Nat) : Nat := ((List.range (cs.length + 1)).filter fun k => ltI (remsOf (cs.drop k)) (remsOf (cs.drop st))).length
noncomputable def dueUpto (cs : List Nat) : Nat → List Str
  | 0 => List.replicate (cs.length + 1) (Str.ofString "")
  | i + 1 => if 0 < i then (dueUpto cs i).set (rankOf cs i) ⟨#[cs.getD (i - 1) 0]⟩ else dueUpto cs i
theorem dueUpto_length (cs : List Nat) : ∀ i, (dueUpto cs i).length = cs.length + 1
  | 0 => by simp [dueUpto]
  | i + 1 => by rw [dueUpto]; split <;> simp [dueUpto_length cs i]
theorem rankOf_lt {cs : List Nat} {st : Nat} (h : st ≤ cs.length) : rankOf cs st < cs.length + 1 := by
  have := List.length_filter_lt_length_iff_exists (p := fun k => ltI (remsOf (cs.drop k)) (remsOf (cs.drop st))) (l := List.range (cs.length + 1)) |>.mpr ⟨st, List.mem_range.mpr (by lia), by rw [ltI_irrefl]; simp⟩
  rwa [List.length_range] at this

section
variable {prog : Program} {w : World} {A : Around} {E : Value → Shared → Prop} {s : Shared}
theorem item_text {value slice : Expr} {cs : List Nat} {t u : Tok} {i : Int} {k : Nat} {Q : Value → Shared → Prop} (he : i = k) (hk : k < cs.length) (hlen : cs.length < 100)
    (h : Q (.str ⟨#[cs.getD k 0]⟩ s.toks) { s with toks := s.toks + 1 })
    (hs : subscripted slice false (.str ⟨cs.toArray⟩ t) (.int i u) = operate [.str ⟨cs.toArray⟩ t, .int i u] (getItem (.str ⟨cs.toArray⟩ t) (.int i u)) := by with_unfolding_all rfl)
    (ht : ∀ r, letTemporaryGo value (.str ⟨cs.toArray⟩ t) r = pure () := by intro _; with_unfolding_all rfl) :
    wpAny (model prog w) A (subscriptTail value slice (.str ⟨cs.toArray⟩ t) (.int i u)) Q E s := by
  have hsl : ((⟨cs.toArray⟩ : Str).length : Int) = cs.length := by simp [Str.length]
  have hit : Txt.item ⟨cs.toArray⟩ i = ⟨#[cs.getD k 0]⟩ := by
    have := eq_of_beq (PyProof.Rows.item_closes (x := ⟨cs.toArray⟩) (i := i) ⟨by lia, by rw [hsl]; lia⟩)
    rw [this, he]; simp
  exact PyProof.Rows.item_str (i := i) (fitsSsize_of (N := 1000) (by lia) (by lia) (by decide)) (by rw [hsl]; lia) (by rw [hsl]; lia) (fun _ => hit ▸ h) hs ht
end
inductive EndAt (g : Heap) (cs : List Nat) (k : Nat) (y : Value) : Prop
  | mk (l : Addr) (ws : List Value) (n : Nat) : y = .ref l → g.get? l = some (listOf (List.toArray ws) n) → IntsAre ws (remsOf (cs.drop k)) → EndAt g cs k y
theorem endAt {g : Heap} {cs : List Nat} {k : Nat} {v : Value} {ys : List Value} {nx : List (Addr × Obj)} {p1 p2 p3 p4 p5 p6 : Addr × Obj} {n : Nat} (hends : ∀ k, k < n → ∃ y, ys[k]? = some y ∧ EndIn nx cs k y) (hg : ∀ p ∈ p1 :: p2 :: p3 :: p4 :: p5 :: p6 :: nx, g.get? p.1 = some p.2)
    (hk : k < n) (hv : ys[k]? = some v) : EndAt g cs k v := by
  obtain ⟨y, e1, l, ws, n, rfl, h2, h3⟩ := hends k hk
  rw [hv] at e1; cases e1
  exact ⟨l, ws, n, rfl, hg (l, _) (.tail _ (.tail _ (.tail _ (.tail _ (.tail _ (.tail _ h2)))))), h3⟩
theorem lt_ends {prog : Program} {w : World} {A : Around} {E : Value → Shared → Prop} {s : Shared} {g : Heap} {cs : List Nat} {i j : Nat} {u v : Value} {Q : Value → Shared → Prop} (hk : ∀ b o, g.get? b = some o → s.heap.get? b = some o) (h1 : EndAt g cs i u) (h2 : EndAt g cs j v) (hu : A.units < cLine)
    (h : Q (.bool (ltI (remsOf (cs.drop i)) (remsOf (cs.drop j)))) s) : wpAny (model prog w) A (compareOp .Lt u v) Q E s := by
  obtain ⟨l, ws, n, rfl, e1, i1⟩ := h1
  obtain ⟨l', ws', n', rfl, e2, i2⟩ := h2
  exact LtAt.listInts (isList_of (hk _ _ e1)) (isList_of (hk _ _ e2)) i1 i2 hu prog w _ _ h
theorem if_bool {b : Bool} {p q : Prop} (h1 : b = true → p) (h2 : b = false → q) : if b = true then p else q := by cases b with
  | true => exact h1 rfl
  | false => exact h2 rfl
theorem cnt_t {f : Nat → Bool} {j : Nat} {zs : List Value} {v : Value} (hb : f j = true) (h : zs.length = ((List.range j).filter f).length) : (zs ++ [v]).length = ((List.range (j + 1)).filter f).length := by
  rw [List.range_succ, List.filter_append, List.length_append, List.length_append, h, List.filter_cons_of_pos hb]; rfl
theorem cnt_f {f : Nat → Bool} {j : Nat} {zs : List Value} (hb : f j = false) (h : zs.length = ((List.range j).filter f).length) : zs.length = ((List.range (j + 1)).filter f).length := by
  rw [List.range_succ, List.filter_append, List.length_append, h, List.filter_cons_of_neg (by simp [hb])]; rfl
theorem due_ledger {g h : Heap} {L : Addr} {pD p1 p2 p3 p4 : Addr × Obj} {nx5 rest : List (Addr × Obj)} (N : News g L h (pD :: (nx5 ++ p1 :: p2 :: p3 :: p4 :: rest))) : News g L h (p4 :: p1 :: p2 :: p3 :: rest) := news_perm N fun p hp => by
  simp only [List.mem_cons, List.mem_append] at hp ⊢; rcases hp with h | h | h | h | h <;> simp [h]
theorem due_ledger' {g h : Heap} {L : Addr} {p1 p2 p3 p4 : Addr × Obj} {rest : List (Addr × Obj)} (N : News g L h (p4 :: p1 :: p2 :: p3 :: rest)) : News g L h (p1 :: p2 :: p3 :: p4 :: rest) := news_perm N fun p hp => by
  simp only [List.mem_cons] at hp ⊢; rcases hp with h | h | h | h | h <;> simp [h]
theorem strs_set {vs : List Value} {ss : List Str} (h : StrsAre vs ss) : ∀ (k : Nat) (x : Str) (t : Tok), StrsAre (vs.set k (.str x t)) (ss.set k x) := by
  induction h with
  | nil => intro k x t; exact .nil
  | cons a b r ih => intro k x t; cases k with
    | zero => exact .cons _ _ r
    | succ k => exact .cons _ _ (ih k x t)
theorem due_step {cs : List Nat} {dv zs : List Value} {i : Nat} {t : Tok} (hdv : StrsAre dv (dueUpto cs i)) (h0 : 0 < i) (hz : zs.length = rankOf cs i) :
    StrsAre (dv.set (zs.toArray.size : Int).toNat (.str ⟨#[cs.getD (i - 1) 0]⟩ t)) (dueUpto cs (i + 1)) := by
  rw [List.size_toArray, Int.toNat_natCast, hz, dueUpto, if_pos h0]
  exact strs_set hdv _ _ _
theorem off_set {K a b c : Addr} {o o' : Obj} {rest : List (Addr × Obj)} (h : ∀ p ∈ (K, o) :: rest, p.1 ≠ a ∧ p.1 ≠ b ∧ p.1 ≠ c) : ∀ p ∈ (K, o') :: rest, p.1 ≠ a ∧ p.1 ≠ b ∧ p.1 ≠ c := fun p hp => by
  rcases List.mem_cons.mp hp with rfl | hp
  · exact h (K, o) (.head _)
  · exact h p (.tail _ hp)
theorem if_yes {P p q : Prop} [Decidable P] (h : P) (x : p) : if decide P = true then p else q := by rw [if_pos (decide_eq_true h)]; exact x
theorem if_no {P p q : Prop} [Decidable P] (h : ¬P) (x : q) : if decide P = true then p else q := by rw [if_neg (by simpa using h)]; exact x
theorem none_of {h g : Heap} {a : Addr} (hg : ∀ b o, h.get? b = some o → b ∉ List.map (fun x => x.fst) ([] : List (Addr × Obj)) → g.get? b = some o) (e : g.get? a = none) : h.get? a = none := by
  cases q : h.get? a with
  | none => rfl
  | some o => rw [hg a o q (by simp)] at e; cases e
theorem due_call {prog : Program} {w : World} {A : Around} {s : Shared} {R : Result → Shared → Prop} {cs : List Nat} {t : Tok}
    (O : Ok w [] s.heap) (rm : Room A 12) (hlen : cs.length < 100)
    (post : ∀ h' tk H n (vs : List Value), Keeps [] s.heap h' → h'.get? H = some (listOf vs.toArray n) → s.heap.get? H = none → StrsAre vs (dueUpto cs (cs.length + 1)) → R (.ok (.ret (.ref H))) { s with heap := h', toks := tk }) :
    codeAny (model prog w) A (.call (.ref 132) ⟨[.str ⟨cs.toArray⟩ t], []⟩) R s := by
  refine enterC (foot := []) (binds := [("text", .str ⟨cs.toArray⟩ t)]) O (by simp) (by k_is) (by k_is) rm (BindsTo.of_eq rfl) rfl (by decide) ?_
  intro g L h₁ tk₁ cells B hg F N hcells hfresh
  obtain ⟨oe, ot, rfl, hoe, hot⟩ := CellsAre.two hcells
  clear hcells
  replace hoe : oe.data = .cell none := hoe
  replace hot : ot.data = .cell (some (.str ⟨cs.toArray⟩ t)) := hot
  replace N : News g L h₁ [(L + 2, oe), (L + 1, ot)] := N
  obtain ⟨m, Fm, em⟩ := fr_any F
  clear F
  have hsl : ((⟨cs.toArray⟩ : Str).length : Int) = cs.length := by simp [Str.length]
  with_reducible refine wpAny_execs_cons ?_
  (refine' AssignComp_b ?sw ?cl ?kk ?nn ?_; (case sw => with_unfolding_all rfl); (case cl => with_unfolding_all rfl); (case kk => rfl); (case nn => decide))
  refine Call_ ?_
  (refine' nmB ?kF ?kB ?ke ?kv ?kn ?_; (case kF => assumption); (case kB => assumption); (case ke => k_is); (case kv => boot_by_name); (case kn => decide))
  refine Pv.callWith_type1 ?_
  refine args_cons ?_
  with_reducible refine wpAny_BinOp ?_
  refine Call_ ?_
  (refine' nmB ?kF ?kB ?ke ?kv ?kn ?_; (case kF => assumption); (case kB => assumption); (case ke => k_is); (case kv => boot_by_name); (case kn => decide))
  refine PyProof.Rows.callWith_builtin1 ?_
  refine args_cons ?_
  (refine' nameX_C ?kN ?kc ?km ?kd ?_; (case kN => assumption); (case kc => rfl); (case km => first | exact .head _ | exact .tail _ (.head _) | exact .tail _ (.tail _ (.head _)) | simp); (case kd => assumption))
  refine args_nil ?_
  refine PySem.P.len_str (by rw [hsl]; lia) ?_
  with_reducible refine wpAny_Constant_int ?_
  with_reducible refine PyProof.Rows.add_int ?_
  refine args_nil ?_
  rw [hsl]
  refine range1_led Fm N ?_
  intro r h2 tk2 t2 u2 v2 F2 N2 ner
  have hr : h2.get? r = some (rgObj 0 (0 + ((cs.length + 1 : Nat) : Int)) 1 t2 u2 v2) := by rw [Int.zero_add]; exact (N2 _ (.head _)).1
  refine comp_over_range (a := 0) (n := cs.length + 1) (fun i ys nx => ys.length = i ∧ ∀ k, k < i → ∃ y, ys[k]? = some y ∧ EndIn nx cs k y) rm.hand F2 N2 hr (by lia) (by decide) (by decide) ⟨rfl, nofun⟩ ?_ ?_
  · intro g' C D I oI i ys' m' nx h' tk' v hg1 hg2 hi hv hJ F' N' off hID
    have B' := B.keeps hg1
    obtain ⟨tv, rfl⟩ := hv
    rw [Int.zero_add] at F'
    have hgc : g'.get? (L + 1) = some ot := hg2 (L + 1, ot) (.tail _ (.tail _ (.head _)))
    refine tests_none (if_tt (wp_opq fun Q hQ => ?_))
    (refine' ListComp_b ?cl ?kk ?nn ?_; (case cl => with_unfolding_all rfl); (case kk => rfl); (case nn => decide))
    with_reducible refine Subscript_ ?_
    (refine' ldQC ?kF ?kc ?kg ?kd ?_; (case kF => assumption); (case kc => rfl); (case kg => assumption); (case kd => assumption))
    with_reducible refine wpAny_Slice ?_
    with_reducible refine evalPart_s ?_
    (refine' ldQ ?kF ?kv ?_; (case kF => assumption); (case kv => exact mput_same))
    with_reducible refine evalPart_n ?_
    with_reducible refine evalPart_n ?_
    refine slice_strN_sn_len F' N' (fun h3 t3 k3 F3 N3 _ => ?_)
    rw [slice_from (by lia)]
    refine comp_over_str (fun j ys _ => IntsAre ys ((remsOf (cs.drop i)).take j)) rm.hand F3 N3 (by rw [List.length_drop]; with_reducible exact ar25 (by assumption)) .nil ?_ ?_
    · intro g2 C2 D2 I2 oI2 j zs m2 nx2 h4 tk4 v2 hg3 hg4 hj hv2 hJ2 F4 N4 off4 hID4
      have B2 := B'.keeps hg3
      obtain ⟨t4, rfl⟩ := hv2
      refine tests_none (if_tt (wp_opq fun Q2 hQ2 => ?_))
      with_reducible refine wpAny_BinOp ?_
      refine Call_ ?_
      (refine' nmBQ ?kF ?kB ?ke ?kv ?kn ?_; (case kF => assumption); (case kB => assumption); (case ke => k_is); (case kv => boot_by_name); (case kn => decide))
      refine PyProof.Rows.callWith_builtin1 ?_
      refine args_cons ?_
      (refine' ldQ ?kF ?kv ?_; (case kF => assumption); (case kv => exact mput_same))
      refine args_nil ?_
      with_reducible refine PySem.P.ord_of_char ?_
      with_reducible refine wpAny_Constant_int ?_
      with_reducible refine PyProof.Rows.mod_int' (by decide) ?_
      refine hQ2 _ _ ⟨h4, _, _, nx2, rfl, F4, N4, off4, ?_⟩
      have e : (remsOf (cs.drop i))[j]? = some (((((cs.drop i).getD j 0 : Nat) : Int)).fmod 32) := by
        rw [Int.fmod_eq_emod_of_nonneg _ (by decide), remsOf, List.getElem?_map, List.getD_eq_getElem?_getD, List.getElem?_eq_getElem hj]; rfl
      show IntsAre _ (List.take (j + 1) _)
      rw [take_snoc e]
      exact ints_snoc hJ2 _ _
    refine done_value ?_
    intro D2 h5 tk5 zs nx5 F5 N5 offD2 ap5 hJ5
    rw [List.take_of_length_le (by simp [remsOf])] at hJ5
    refine hQ _ _ ⟨h5, _, _, (D2, lst zs) :: nx, rfl, F5, nwRe (nwMid N5) [1, 2, 0] 3, fun p hp => ?_, ?_, fun k hk => ?_⟩
    · rcases List.mem_cons.mp hp with rfl | hp
      · exact ⟨fun e => offD2 (I, oI) (by simp) e.symm, fun e => offD2 (D, lst ys') (by simp) e.symm⟩
      · exact off p hp
    · simp [hJ.1]
    · by_cases hki : k < i
      · obtain ⟨y, e1, e2⟩ := hJ.2 k hki
        exact ⟨y, by rw [List.getElem?_append_left (by rw [hJ.1]; exact hki)]; exact e1, e2.mono fun p hp => .tail _ hp⟩
      · have : k = i := by lia
        subst this
        exact ⟨_, by rw [List.getElem?_append_right (by rw [hJ.1]; exact Nat.le_refl _), hJ.1, Nat.sub_self]; rfl, D2, zs, _, rfl, .head _, hJ5⟩
  refine done_local ?_
  intro H h3 tk3 ys nx F3 N3 offH ap3 hJ
  clear N2 F2
  generalize hfx : nx ++ [(r, rgObj 0 (↑cs.length + 1) 1 t2 u2 v2), (L + 2, oe), (L + 1, ot)] = fx0 at N3 offH
  obtain ⟨hyl, hends⟩ := hJ
  have hrdH : ∀ p ∈ nx, p.1 ≠ H := fun p hp => offH p (by rw [← hfx]; simp [hp])
  have hcH : L + 2 ≠ H := offH (L + 2, oe) (by rw [← hfx]; simp)
  have htH : L + 1 ≠ H := offH (L + 1, ot) (by rw [← hfx]; simp)
  have hnc : ∀ p ∈ nx, p.1 ≠ L + 2 ∧ p.1 ≠ L + 1 := fun p hp => ⟨ap3 p hp (L + 2, oe) (.tail _ (.head _)), ap3 p hp (L + 1, ot) (.tail _ (.tail _ (.head _)))⟩
  have N4 : News g L h3 ((L + 2, oe) :: (L + 1, ot) :: (H, lst ys) :: nx) := news_perm N3 fun p hp => by
    rw [← hfx]; simp only [List.mem_cons, List.mem_append] at hp ⊢; rcases hp with h | h | h | h <;> simp [h]
  clear hfx N3 offH ap3
  with_reducible refine wpAny_execs_cons ?_
  refine wpAny_Assign_Name ?_
  with_reducible refine wpAny_BinOp ?_
  with_reducible refine List_ ?_
  refine args_cons ?_
  refine Calls.Constant_str ?_
  refine args_nil ?_
  refine newList_led F3 N4 (by simp) ?_
  intro E1 h4 F4 N5 ne5
  refine Call_ ?_
  (refine' nmB ?kF ?kB ?ke ?kv ?kn ?_; (case kF => assumption); (case kB => assumption); (case ke => k_is); (case kv => boot_by_name); (case kn => decide))
  refine PyProof.Rows.callWith_builtin1 ?_
  refine args_cons ?_
  (refine' ldM ?kF ?kv ?_; (case kF => assumption); (case kv => exact mput_same))
  refine args_nil ?_
  refine len_list (isList_of (N5 _ (.tail _ (.tail _ (.tail _ (.head _))))).1) (by rw [List.size_toArray]; lia) ?_
  skip
  refine KMa.mul F4 N5 (isList_of (N5 _ (.head _)).1) (by rw [List.size_toArray]; lia) (by rw [List.size_toArray]; lia) (by simp; lia) rfl ?_
  intro K h5 F5 N6 lt6
  (refine' stM ?kF ?kN ?_; (case kF => assumption); (case kN => assumption); intro _ _ _ _)
  with_reducible refine wpAny_execs_cons ?_
  refine wpAny_For ?_
  refine Call_ ?_
  (refine' nmB ?kF ?kB ?ke ?kv ?kn ?_; (case kF => assumption); (case kB => assumption); (case ke => k_is); (case kv => boot_by_name); (case kn => decide))
  refine Pv.callWith_type1 ?_
  refine args_cons ?_
  (refine' ldM ?kF ?kv ?_; (case kF => assumption); (case kv => exact mput_ne (by decide) mput_same))
  refine args_nil ?_
  rename_i h6 tk6 F6 N7
  generalize hdz : (List.replicate _ _).flatten = dz at N7
  have hdzs : StrsAre dz (List.replicate (cs.length + 1) (Str.ofString "")) := by
    rw [← hdz, List.size_toArray, hyl, Int.toNat_natCast]
    clear hdz N7 F6 N6 F5
    generalize cs.length + 1 = q
    induction q with
    | zero => exact .nil
    | succ q ih => rw [List.replicate_succ, List.replicate_succ, List.flatten_cons]; exact .cons _ _ ih
  clear hdz
  refine call_enumerate_list (isList_of (N7 _ (.tail _ (.tail _ (.tail _ (.tail _ (.head _)))))).1) ?_
  intro h7 he7 hit7 hz7 hk7
  refine wpAny_pyIter_enum he7 ?_
  obtain ⟨oit, hoit, hoi⟩ := hit7
  have F7 : Fr g L h7 _ := F6.keeps hk7
  have lt6' : ∀ p ∈ (K, listOf dz.toArray 0) :: (L + 2, oe) :: (L + 1, ot) :: (H, lst ys) :: nx, p.1 < h6.objs.size := fun p hp => Heap.lt_size (N7 p (by
    simp only [List.mem_cons] at hp ⊢; rcases hp with h | h | h | h | h <;> simp [h])).1
  have hfr6 : g.get? h6.objs.size = none := next_is_new F6
  have hfr7 : g.get? (h6.objs.size + 1) = none := by
    cases q : g.get? (h6.objs.size + 1) with
    | none => rfl
    | some o => exact absurd (Heap.lt_size (F6.keep _ _ q)) (Nat.not_lt.mpr (Nat.le_succ _))
  have hLlt : L < h6.objs.size := F6.ns.lt
  have N8 : News g L h7 ((h6.objs.size + 1, enObj h6.objs.size 0 .none) :: (h6.objs.size, oit) :: (L + 2, oe) :: (K, listOf dz.toArray 0) :: (L + 1, ot) :: (H, lst ys) :: nx) := fun p hp => by
    simp only [List.mem_cons] at hp
    rcases hp with rfl | rfl | h
    · exact ⟨he7, Nat.ne_of_gt (Nat.lt_succ_of_lt hLlt), hfr7⟩
    · exact ⟨hoit, Nat.ne_of_gt hLlt, hfr6⟩
    · have := N7 p (by simp only [List.mem_cons]; rcases h with h | h | h | h | h <;> simp [h])
      exact ⟨hk7 _ _ this.1, this.2⟩
  clear N7 N6 N5 N4 F6 F5 F4 F3
  have hoffK : ∀ eo oi oc, ∀ p ∈ (h6.objs.size + 1, eo) :: (h6.objs.size, oi) :: (L + 2, oc) :: (L + 1, ot) :: (H, lst ys) :: nx, p.1 ≠ K := fun eo oi oc p hp => by
    have hKl : K < h6.objs.size := lt6' (K, listOf dz.toArray 0) (.head _)
    have lt6 := lt6
    simp only [List.mem_cons] at hp
    rcases hp with rfl | rfl | rfl | rfl | rfl | hp
    · exact Nat.ne_of_gt (Nat.lt_succ_of_lt hKl)
    · exact Nat.ne_of_gt hKl
    · exact Nat.ne_of_lt (lt6 (L + 2, oe) (.tail _ (.head _)))
    · exact Nat.ne_of_lt (lt6 _ (by simp))
    · exact Nat.ne_of_lt (lt6 (H, lst ys) (.tail _ (.tail _ (.tail _ (.head _)))))
    · exact Nat.ne_of_lt (lt6 p (by simp [hp]))
  have hKl : K < h6.objs.size := lt6' (K, listOf dz.toArray 0) (.head _)
  refine for_enum (e := h6.objs.size + 1) (it := h6.objs.size) (l := H) (c := L + 2) (items := ys) (nl := ys.length)
    (fun i m' nx' => ∃ dv nd, nx' = (K, listOf (List.toArray dv) nd) :: (L + 1, ot) :: (H, lst ys) :: nx ∧ m' "due" = some (.ref K) ∧ m' "ends" = some (.ref H) ∧ StrsAre dv (dueUpto cs i))
    rm.hand F7 N8 hoi hoe rfl (Nat.succ_ne_self _) ?_ ?_ ?_ (fun i m' nx' hJ => ?_) ⟨dz, 0, rfl, ?_, ?_, hdzs⟩ ?_ ?_
  · exact Nat.ne_of_gt (Nat.lt_succ_of_lt (lt6' (L + 2, oe) (.tail _ (.head _))))
  · exact Nat.ne_of_gt (lt6' (L + 2, oe) (.tail _ (.head _)))
  · intro p hp
    have hlt : p.1 < h6.objs.size := lt6' p (by simp only [List.mem_cons] at hp ⊢; rcases hp with h | h | h | h <;> simp [h])
    refine ⟨Nat.ne_of_lt (Nat.lt_succ_of_lt hlt), Nat.ne_of_lt hlt, ?_⟩
    simp only [List.mem_cons] at hp
    rcases hp with rfl | rfl | rfl | hp
    · exact Nat.ne_of_gt (lt6 (L + 2, oe) (.tail _ (.head _)))
    · exact Nat.ne_of_lt (Nat.lt_succ_self _)
    · exact Ne.symm hcH
    · exact (hnc p hp).1
  · obtain ⟨dv, nd, rfl, _⟩ := hJ
    simp
  · exact mput_same
  · exact mput_ne (by decide) mput_same
  · rintro i m' nx' h8 tk8 t8 oc eo oi hi ⟨dv, nd, rfl, md, me, hdv⟩ F8 N9 hoc off8
    refine wp_opq fun Q hQ => ?_
    with_reducible refine wpAny_execs_cons ?_
    refine wpAny_If ?_
    refine wpAny_isTrue_Compare1 ?_
    (refine' ldM ?kF ?kv ?_; (case kF => assumption); (case kv => exact mput_same))
    with_reducible refine wpAny_Constant_int ?_
    with_reducible refine PyProof.Rows.gt_int ?_
    with_reducible refine wpAny_truthy_bool ?_
    have hin : i ≤ cs.length := by lia
    have hgy : ∃ y, ys[i]? = some y ∧ EndIn nx cs i y := hends i (by lia)
    obtain ⟨yi, hyi, li, wi, ni, rfl, hli, hwi⟩ := hgy
    have hoc' : oc.data = .cell (some (.ref li)) := by rw [hoc, List.getD_eq_getElem?_getD, hyi]; rfl
    by_cases h0 : 0 < i
    · refine if_yes (by lia : (0 : Int) < (i : Int)) ?_
      with_reducible refine wpAny_execs_cons ?_
      refine wpAny_Assign_Subscript ?_
      with_reducible refine Subscript_ ?_
      refine nameX_C N9 rfl (.tail _ (.tail _ (.tail _ (.tail _ (.head _))))) hot ?_
      with_reducible refine wpAny_BinOp ?_
      (refine' ldM ?kF ?kv ?_; (case kF => assumption); (case kv => exact mput_same))
      with_reducible refine wpAny_Constant_int ?_
      with_reducible refine PyProof.Rows.sub_int ?_
      refine item_text (k := i - 1) (by with_reducible exact ar30 (by assumption)) (by with_reducible exact ar10p (by assumption) (by assumption)) hlen ?_
      (refine' ldM ?kF ?kv ?_; (case kF => assumption); (case kv => assumption))
      refine Call_ ?_
      (refine' nmB ?kF ?kB ?ke ?kv ?kn ?_; (case kF => assumption); (case kB => assumption); (case ke => k_is); (case kv => boot_by_name); (case kn => decide))
      refine PyProof.Rows.callWith_builtin1 ?_
      refine args_cons ?_
      (refine' ListComp_b ?cl ?kk ?nn ?_; (case cl => with_unfolding_all rfl); (case kk => rfl); (case nn => decide))
      (refine' ldM ?kF ?kv ?_; (case kF => assumption); (case kv => assumption))
      have hHl : h8.IsList H ys.toArray := isList_of (N9 _ (.tail _ (.tail _ (.tail _ (.tail _ (.tail _ (.head _))))))).1
      have hyb : ys.length < 2 ^ 20 := by lia
      refine comp_over_list (vs := ys) (fun j zs _ => zs.length = ((List.range j).filter fun k => ltI (remsOf (cs.drop k)) (remsOf (cs.drop i))).length) rm.hand F8 N9 hHl hyb rfl ?_ ?_
      · intro g' C D I oI j zs m2 nx2 h9 tk9 v hg1 hg2 hj hv hJ F' N' off hID
        have hgc : g'.get? (L + 2) = some oc := hg2 (L + 2, oc) (.tail _ (.tail _ (.head _)))
        have hj' : j < cs.length + 1 := hyl ▸ hj
        have hend : EndAt g' cs j v := endAt hends hg2 hj' hv
        have hend' : EndAt g' cs i (.ref li) := endAt hends hg2 (Nat.lt_succ_of_le hin) hyi
        refine tests_one ?_
        refine wpAny_isTrue_Compare1 ?_
        (refine' ldQ ?kF ?kv ?_; (case kF => assumption); (case kv => exact mput_same))
        (refine' ldQC ?kF ?kc ?kg ?kd ?_; (case kF => assumption); (case kc => rfl); (case kg => assumption); (case kd => assumption))
        refine lt_ends (F'.keep) hend hend' (Room.line (k := 11) rm.deeper) ?_
        refine wpAny_truthy_bool (if_bool (fun hb => ?_) fun hb => ?_)
        · (refine' ldQ ?kF ?kv ?_; (case kF => assumption); (case kv => exact mput_same))
          exact ⟨h9, _, _, nx2, rfl, F', N', off, cnt_t hb hJ⟩
        · exact ⟨h9, _, _, nx2, rfl, F', N', off, cnt_f hb hJ⟩
      refine done_value ?_
      intro D2 h9 tk9 zs nx5 F9 N10 offD2 ap5 hJ5
      have hzl : zs.length = rankOf cs i := by rw [hJ5, rankOf, hyl]
      have hrk : rankOf cs i < cs.length + 1 := rankOf_lt hin
      have hdl : dv.length = cs.length + 1 := by rw [hdv.length, dueUpto_length]
      clear hJ5
      refine args_nil ?_
      refine len_list (isList_of (N10 _ (.head _)).1) (by rw [List.size_toArray]; lia) ?_
      have N11 : News g L h9 ((K, listOf dv.toArray nd) :: (h6.objs.size + 1, eo) :: (h6.objs.size, oi) :: (L + 2, oc) :: (L + 1, ot) :: (H, lst ys) :: nx) := due_ledger N10
      refine set_head F9 N11 (hoffK eo oi oc) (by with_reducible exact Int.natCast_nonneg _) (by rw [List.size_toArray]; lia) (by lia) ?_
      intro h10 F10 N12
      with_reducible refine wpAny_execs_nil ?_
      with_reducible refine wpAny_execs_nil ?_
      refine hQ _ _ ⟨rfl, h10, _, _, _, rfl, F10, due_ledger' N12, fun p hp => ?_, _, nd, rfl, mput_ne (by decide) md, mput_ne (by decide) me, ?_⟩
      · exact off_set off8 p hp
      · exact due_step hdv h0 hzl
    · have : i = 0 := by lia
      subst this
      refine if_no (by decide) ?_
      with_reducible refine wpAny_execs_nil ?_
      with_reducible refine wpAny_execs_nil ?_
      exact hQ _ _ ⟨rfl, h8, _, _, _, rfl, F8, N9, off8, dv, nd, rfl, mput_ne (by decide) md, mput_ne (by decide) me, hdv⟩
  · rintro m' nx' h8 tk8 ⟨dv, nd, rfl, md, me, hdv⟩ F8 N9
    dsimp only
    with_reducible refine wpAny_execs_cons ?_
    with_reducible refine wpAny_Return_some ?_
    (refine' ldM ?kF ?kv ?_; (case kF => assumption); (case kv => assumption))
    refine post h8 _ K nd dv ?_ (N9 (K, _) (.head _)).1 ?_ (hyl ▸ hdv)
    · exact fun b o e _ => F8.keep b o (hg b o e (by simp))
    · exact none_of hg (N9 (K, listOf dv.toArray nd) (.head _)).2.2

theorem ltI_pad : ∀ (a b x y : List Int), a.length ≠ b.length → (∀ i ∈ a, 0 ≤ i) → (∀ i ∈ b, 0 ≤ i) → ltI (a.map (· + 1) ++ 0 :: x) (b.map (· + 1) ++ 0 :: y) = ltI a b
  | [], [], _, _, h, _, _ => absurd rfl h
  | [], c :: b, x, y, _, _, hb => by
    have := hb c (.head _)
    show ltI (0 :: x) ((c + 1) :: _) = ltI [] (c :: b)
    rw [ltI, ltI, if_neg (by simp only [beq_iff_eq]; lia), decide_eq_true (by lia)]
  | c :: a, [], x, y, _, ha, _ => by
    have := ha c (.head _)
    show (if (c + 1 == (0 : Int)) = true then _ else decide (c + 1 < 0)) = false
    rw [if_neg (by simp only [beq_iff_eq]; lia), decide_eq_false (by lia)]
  | c :: a, d :: b, x, y, h, ha, hb => by
    show ltI ((c + 1) :: (a.map (· + 1) ++ 0 :: x)) ((d + 1) :: (b.map (· + 1) ++ 0 :: y)) = ltI (c :: a) (d :: b)
    rw [ltI, ltI, ltI_pad a b x y (by simpa using h) (fun i hi => ha i (.tail _ hi)) (fun i hi => hb i (.tail _ hi))]
    by_cases e : c = d
    · subst e; simp
    · rw [if_neg (by simp only [beq_iff_eq]; lia), if_neg (by simp only [beq_iff_eq]; assumption)]
      by_cases q : c < d
      · rw [decide_eq_true (by lia), decide_eq_true q]
      · rw [decide_eq_false (by lia), decide_eq_false q]

theorem rems_nonneg (cs : List Nat) : ∀ i ∈ remsOf cs, 0 ≤ i := fun i hi => by
  obtain ⟨c, _, rfl⟩ := List.mem_map.mp hi; with_reducible exact Int.natCast_nonneg _
theorem rot_eq {cs : List Nat} {k : Nat} (h : k ≤ cs.length) : rot (lowsOf cs) k = (remsOf (cs.drop k)).map (· + 1) ++ 0 :: (lowsOf cs).take k := by
  have e : (lowsOf cs).drop k = (remsOf (cs.drop k)).map (· + 1) ++ [0] := by
    rw [lowsOf, List.drop_append_of_le_length (by simpa using h), remsOf, List.map_map, ← List.map_drop]
    congr 1
  rw [rot, e, List.append_assoc]; rfl

noncomputable def lts (cs : List Nat) (a b : Nat) : Bool := ltI (remsOf (cs.drop a)) (remsOf (cs.drop b))
theorem lts_irr (cs : List Nat) (a : Nat) : lts cs a a = false := ltI_irrefl _
theorem rems_ne {cs : List Nat} {a b : Nat} (ha : a ≤ cs.length) (hb : b ≤ cs.length) (h : a ≠ b) : (remsOf (cs.drop a)).length ≠ (remsOf (cs.drop b)).length := by
  simp only [remsOf, List.length_map, List.length_drop]; with_reducible exact ar28 (by assumption) (by assumption) (by assumption)
theorem lts_tot {cs : List Nat} {a b : Nat} (ha : a ≤ cs.length) (hb : b ≤ cs.length) (h : a ≠ b) : lts cs a b = !(lts cs b a) :=
  ltI_total fun e => rems_ne ha hb h (by rw [e])
theorem ltP_rot {cs : List Nat} {a b : Nat} (ha : a ≤ cs.length) (hb : b ≤ cs.length) (h : a ≠ b) : ltP (rot (lowsOf cs) a, (a : Int)) (rot (lowsOf cs) b, (b : Int)) = lts cs a b := by
  have e1 := ltI_pad _ _ ((lowsOf cs).take a) ((lowsOf cs).take b) (rems_ne ha hb h) (rems_nonneg _) (rems_nonneg _)
  have e2 := ltI_pad _ _ ((lowsOf cs).take b) ((lowsOf cs).take a) (rems_ne hb ha (Ne.symm h)) (rems_nonneg _) (rems_nonneg _)
  rw [← rot_eq ha, ← rot_eq hb] at e1 e2
  rw [ltP]
  dsimp only
  rw [if_neg fun e => ?_, e1]; · rfl
  rw [e, ltI_irrefl] at e1 e2
  have := lts_tot ha hb h
  rw [lts, lts, ← e1, ← e2] at this
  cases this

noncomputable def lowAt (cs : List Nat) (k : Nat) : Nat := if k < cs.length then cs.getD k 0 % 32 + 1 else 0
noncomputable def prv (cs : List Nat) (k : Nat) : Nat := if k = 0 then cs.length else k - 1
theorem rems_cons {cs : List Nat} {a : Nat} (h : a < cs.length) : remsOf (cs.drop a) = ((cs.getD a 0 % 32 : Nat) : Int) :: remsOf (cs.drop (a + 1)) := by
  rw [List.drop_eq_getElem_cons h, List.getD_eq_getElem?_getD, List.getElem?_eq_getElem h]; rfl
theorem lts_step {cs : List Nat} {a b : Nat} (ha : a ≤ cs.length) (hb : b ≤ cs.length) (hne : a ≠ b) :
    (lts cs (prv cs a) (prv cs b) = true) ↔ (lowAt cs (prv cs a) < lowAt cs (prv cs b) ∨ (lowAt cs (prv cs a) = lowAt cs (prv cs b) ∧ lts cs a b = true)) := by
  unfold prv
  by_cases h1 : a = 0
  · have hb0 : b ≠ 0 := fun e => hne (h1.trans e.symm)
    rw [if_pos h1, if_neg hb0]
    have e : lts cs cs.length (b - 1) = true := by rw [lts, List.drop_length, rems_cons (by with_reducible exact ar10 (by assumption) (by assumption))]; rfl
    rw [e]
    simp only [lowAt, if_neg (Nat.lt_irrefl _), if_pos (show b - 1 < cs.length by with_reducible exact ar10 (by assumption) (by assumption))]
    simp
  · rw [if_neg h1]
    by_cases h2 : b = 0
    · rw [if_pos h2]
      have e : lts cs (a - 1) cs.length = false := by rw [lts, List.drop_length, rems_cons (by with_reducible exact ar10 (by assumption) (by assumption))]; rfl
      rw [e]
      simp only [lowAt, if_neg (Nat.lt_irrefl _), if_pos (show a - 1 < cs.length by with_reducible exact ar10 (by assumption) (by assumption))]
      simp
    · rw [if_neg h2]
      rw [lts, rems_cons (show a - 1 < cs.length by with_reducible exact ar10 (by assumption) (by assumption)), rems_cons (show b - 1 < cs.length by with_reducible exact ar10 (by assumption) (by assumption)), Nat.sub_add_cancel (by lia), Nat.sub_add_cancel (by lia), ltI]
      simp only [lowAt, if_pos (show a - 1 < cs.length by with_reducible exact ar10 (by assumption) (by assumption)), if_pos (show b - 1 < cs.length by with_reducible exact ar10 (by assumption) (by assumption))]
      generalize cs.getD (a - 1) 0 % 32 = u
      generalize cs.getD (b - 1) 0 % 32 = v
      show _ ↔ _ ∨ _ ∧ lts cs a b = true
      by_cases e : u = v
      · subst e; simp [lts]
      · rw [if_neg (by simp only [beq_iff_eq]; lia)]
        simp only [decide_eq_true_eq]
        lia

theorem countP_split {f : Nat → Bool} {l : List Nat} {i p : Nat} (h : l[i]? = some p) (h1 : ∀ j q, j < i → l[j]? = some q → f q = true) (h0 : f p = false) (h2 : ∀ j q, i < j → l[j]? = some q → f q = false) : l.countP f = i := by
  induction l generalizing i with
  | nil => simp at h
  | cons a l ih =>
    cases i with
    | zero =>
      simp at h; subst h
      rw [List.countP_cons_of_neg (by simp [h0])]
      refine List.countP_eq_zero.mpr fun q hq => ?_
      obtain ⟨j, hj, rfl⟩ := List.mem_iff_getElem.mp hq
      simp [h2 (j + 1) l[j] (by lia) (by simp [List.getElem?_eq_getElem hj])]
    | succ i =>
      rw [List.countP_cons_of_pos (h1 0 a (by lia) rfl), ih (by simpa using h) (fun j q hj hq => h1 (j + 1) q (by lia) (by simpa using hq)) (fun j q hj hq => h2 (j + 1) q (by lia) (by simpa using hq))]

theorem pw_get {α : Type} {R : α → α → Prop} {l : List α} (h : l.Pairwise R) {i j : Nat} {a b : α} (hij : i < j) (ha : l[i]? = some a) (hb : l[j]? = some b) : R a b := by
  obtain ⟨h1, e1⟩ := List.getElem?_eq_some_iff.mp ha
  obtain ⟨h2, e2⟩ := List.getElem?_eq_some_iff.mp hb
  have := List.pairwise_iff_getElem.mp h i j h1 h2 hij
  rwa [e1, e2] at this

theorem count_range {N p : Nat} : (List.range N).count p = if p < N then 1 else 0 := by
  rw [List.nodup_range.count]; simp

theorem count_part {r : Nat → Nat → Bool} {N : Nat} {s : List Nat} (hir : ∀ a, r a a = false) (has : ∀ a b, r a b = true → r b a = false) (hs : s.Pairwise fun a b => r a b = true) (hN : ∀ j ∈ s, j < N)
    (ho : ∀ j ∈ s, ∀ b, b < N → b ∉ s → r b j = false) {i p : Nat} (h : s[i]? = some p) : (List.range N).countP (r · p) = i := by
  have hp : p ∈ s := List.mem_of_getElem? h
  have nd : s.Nodup := hs.imp fun {a b} q e => by subst e; rw [hir] at q; cases q
  have e1 : (List.range N).countP (r · p) = ((List.range N).filter (s.contains ·)).countP (r · p) := by
    rw [List.countP_filter]
    refine List.countP_congr fun b hb => ?_
    simp only [Bool.and_eq_true, List.contains_eq_mem, decide_eq_true_eq]
    refine ⟨fun q => ⟨q, Classical.byContradiction fun hm => ?_⟩, fun q => q.1⟩
    rw [ho p hp b (List.mem_range.mp hb) hm] at q; cases q
  have e2 : s.Perm ((List.range N).filter (s.contains ·)) := by
    refine List.perm_iff_count.mpr fun a => ?_
    have nd2 : ((List.range N).filter (s.contains ·)).Nodup := List.nodup_range.filter _
    rw [nd.count, nd2.count]
    by_cases ha : a ∈ s
    · rw [if_pos ha, if_pos (List.mem_filter.mpr ⟨List.mem_range.mpr (hN a ha), by simpa using ha⟩)]
    · rw [if_neg ha, if_neg fun q => ha (by simpa using (List.mem_filter.mp q).2)]
  rw [e1, ← e2.countP_eq]
  exact countP_split h (fun j q hj hq => pw_get hs hj hq h) (hir p) fun j q hj hq => has _ _ (pw_get hs hj h hq)

theorem count_both {r : Nat → Nat → Bool} (p : Nat) (hir : r p p = false) : ∀ (l : List Nat), (∀ a ∈ l, a ≠ p → r a p = !(r p a)) → l.countP (r · p) + l.countP (r p) + l.count p = l.length
  | [], _ => rfl
  | a :: l, h => by
    have ih := count_both p hir l fun b hb => h b (.tail _ hb)
    by_cases e : a = p
    · subst e
      rw [List.countP_cons_of_neg (by simp [hir]), List.countP_cons_of_neg (by simp [hir]), List.count_cons_self, List.length_cons]; lia
    · have := h a (.head _) e
      rw [List.count_cons_of_ne e, List.length_cons]
      cases q : r p a with
      | true =>
        rw [q] at this
        rw [List.countP_cons_of_neg (by simp [this]), List.countP_cons_of_pos q]; lia
      | false =>
        rw [q] at this
        rw [List.countP_cons_of_pos (by simpa using this), List.countP_cons_of_neg (by simp [q])]; lia

theorem count_lt {f g : Nat → Bool} {p : Nat} (hfg : ∀ a, f a = true → g a = true) (hp : f p = false) (gp : g p = true) : ∀ (l : List Nat), l.countP f + l.count p ≤ l.countP g
  | [] => Nat.le_refl _
  | a :: l => by
    have ih := count_lt hfg hp gp l
    by_cases e : a = p
    · subst e
      rw [List.countP_cons_of_neg (by simp [hp]), List.countP_cons_of_pos gp, List.count_cons_self]; lia
    · rw [List.count_cons_of_ne e]
      cases q : f a with
      | true => rw [List.countP_cons_of_pos q, List.countP_cons_of_pos (hfg a q)]; lia
      | false =>
        rw [List.countP_cons_of_neg (by simp [q])]
        have : l.countP g ≤ (a :: l).countP g := by rw [List.countP_cons]; lia
        lia

noncomputable def btr (k : Nat → Int) (a b : Nat) : Bool := decide (k a < k b ∨ (k a = k b ∧ a < b))
theorem btr_iff {k : Nat → Int} {a b : Nat} : btr k a b = true ↔ better k a b := by unfold btr better; simp
theorem btr_irr {k : Nat → Int} (a : Nat) : btr k a a = false := by unfold btr; simp
theorem btr_tot {k : Nat → Int} {a b : Nat} (h : a ≠ b) : btr k a b = !(btr k b a) := by
  unfold btr
  by_cases q : k a < k b ∨ (k a = k b ∧ a < b)
  · rw [decide_eq_true q, decide_eq_false (by lia)]; rfl
  · rw [decide_eq_false q, decide_eq_true (by lia)]; rfl
theorem btr_no {k : Nat → Int} {a b : Nat} (h : btr k a b = true) : btr k b a = false := by
  unfold btr at *; simp only [decide_eq_true_eq, decide_eq_false_iff_not] at *; lia
theorem btr_inj {k : Nat → Int} {N p q : Nat} (hp : p < N) (hq : q < N) (h : (List.range N).countP (btr k · p) = (List.range N).countP (btr k · q)) : p = q := by
  refine Classical.byContradiction fun hne => ?_
  have one : ∀ p q : Nat, p < N → btr k p q = true → (List.range N).countP (btr k · p) < (List.range N).countP (btr k · q) := fun p q hp h => by
    have := count_lt (f := (btr k · p)) (g := (btr k · q)) (p := p) (fun a ha => btr_iff.mpr ((btr_iff.mp ha).trans (btr_iff.mp h))) (btr_irr p) h (List.range N)
    rw [count_range, if_pos hp] at this; assumption
  cases e : btr k p q with
  | true => have := one p q hp e; lia
  | false =>
    have e' : btr k q p = true := by rw [btr_tot (Ne.symm hne), e]; rfl
    have := one q p hq e'; lia

noncomputable def ordOf (N : Nat) (s1 s2 : List Nat) : List Nat := s1 ++ (s2.map fun j => N - 1 - j).reverse
structure Halves (k : Nat → Int) (N : Nat) (s1 s2 : List Nat) : Prop where
  len1 : s1.length = N / 2
  pw1 : s1.Pairwise (better k)
  lt1 : ∀ j ∈ s1, j < N
  out1 : ∀ j ∈ s1, ∀ b, b < N → b ∉ s1 → better k j b
  len2 : s2.length = N - N / 2
  pw2 : s2.Pairwise (better fun j => -k (N - 1 - j))
  lt2 : ∀ j ∈ s2, j < N
  out2 : ∀ j ∈ s2, ∀ b, b < N → b ∉ s2 → better (fun j => -k (N - 1 - j)) j b

theorem Halves.length {k : Nat → Int} {N : Nat} {s1 s2 : List Nat} (H : Halves k N s1 s2) : (ordOf N s1 s2).length = N := by
  rw [ordOf, List.length_append, List.length_reverse, List.length_map, H.len1, H.len2]; with_reducible exact ar13
theorem Halves.lt {k : Nat → Int} {N : Nat} {s1 s2 : List Nat} (H : Halves k N s1 s2) : ∀ p ∈ ordOf N s1 s2, p < N := fun p hp => by
  rcases List.mem_append.mp hp with h | h
  · exact H.lt1 p h
  · rw [List.mem_reverse, List.mem_map] at h
    obtain ⟨j, hj, rfl⟩ := h
    have := H.lt2 j hj; with_reducible exact ar4 (by assumption)
theorem Halves.count {k : Nat → Int} {N : Nat} {s1 s2 : List Nat} (H : Halves k N s1 s2) {i p : Nat} (h : (ordOf N s1 s2)[i]? = some p) : (List.range N).countP (btr k · p) = i := by
  have hil : i < N := by
    have := (List.getElem?_eq_some_iff.mp h).1; rwa [H.length] at this
  by_cases hi : i < s1.length
  · rw [ordOf, List.getElem?_append_left hi] at h
    exact count_part (r := btr k) btr_irr (fun _ _ => btr_no) (H.pw1.imp fun q => btr_iff.mpr q) H.lt1 (fun j hj b hb hn => btr_no (btr_iff.mpr (H.out1 j hj b hb hn))) h
  · have hpN := H.lt p (List.mem_of_getElem? h)
    rw [ordOf, List.getElem?_append_right (by lia)] at h
    have hl1 := H.len1
    have hl2 := H.len2
    rw [List.getElem?_reverse (by rw [List.length_map]; lia), List.length_map, List.getElem?_map] at h
    generalize hj : s2.length - 1 - (i - s1.length) = j at h
    have hjl : j < s2.length := by lia
    rw [List.getElem?_eq_getElem hjl] at h
    simp only [Option.map_some, Option.some.injEq] at h
    have hjm := H.lt2 s2[j] (List.getElem_mem hjl)
    -- seen from the other end
    have flip : ∀ a b, a < N → b < N → better (fun j => -k (N - 1 - j)) a b → btr k (N - 1 - b) (N - 1 - a) = true := fun a b ha hb q => by
      refine btr_iff.mpr ?_
      unfold better at *
      dsimp only at q
      lia
    have e := count_part (r := fun a b => btr k b a) (N := N) (s := s2.map fun j => N - 1 - j) (i := j) (p := p) btr_irr (fun _ _ => btr_no) ?_ ?_ ?_ ?_
    · have := count_both (r := btr k) p (btr_irr p) (List.range N) fun a _ ha => btr_tot ha
      rw [count_range, if_pos hpN, List.length_range] at this
      have e' : (List.range N).countP (btr k p) = j := e
      lia
    · rw [List.pairwise_map]
      exact H.pw2.imp_of_mem fun {a b} ha hb q => flip a b (H.lt2 a ha) (H.lt2 b hb) q
    · intro x hx
      obtain ⟨y, hy, rfl⟩ := List.mem_map.mp hx
      have := H.lt2 y hy; with_reducible exact ar4 (by assumption)
    · intro x hx b hb hn
      obtain ⟨y, hy, rfl⟩ := List.mem_map.mp hx
      have hyN := H.lt2 y hy
      have q := H.out2 y hy (N - 1 - b) (by with_reducible exact ar4 (by assumption)) fun hm => hn (List.mem_map.mpr ⟨_, hm, by with_reducible exact ar5 (by assumption)⟩)
      have := flip y (N - 1 - b) hyN (by with_reducible exact ar4 (by assumption)) q
      rw [show N - 1 - (N - 1 - b) = b by with_reducible exact ar5 (by assumption)] at this
      exact btr_no this
    · rw [List.getElem?_map, List.getElem?_eq_getElem hjl]; simp [h]

structure Rows (cs ord : List Nat) : Prop where
  perm : ord.Perm (List.range (cs.length + 1))
  pw : ord.Pairwise fun a b => lts cs a b = true
theorem rows_of {cs ord : List Nat} (hp : ord.Perm (List.range (cs.length + 1))) (hs : ord.Pairwise fun a b => ltP (rot (lowsOf cs) b, (b : Int)) (rot (lowsOf cs) a, (a : Int)) = false) : Rows cs ord := by
  refine ⟨hp, ?_⟩
  have nd : ord.Nodup := hp.nodup_iff.mpr List.nodup_range
  refine List.Pairwise.imp_of_mem (fun {a b} ha hb q => ?_) (List.Pairwise.and nd hs)
  have la := List.mem_range.mp (hp.mem_iff.mp ha)
  have lb := List.mem_range.mp (hp.mem_iff.mp hb)
  rw [ltP_rot (by lia) (by lia) (Ne.symm q.1)] at q
  rw [lts_tot (by lia) (by lia) q.1, q.2]; rfl
section
variable {cs ord : List Nat}
theorem Rows.length (R : Rows cs ord) : ord.length = cs.length + 1 := by rw [R.perm.length_eq, List.length_range]
theorem Rows.le (R : Rows cs ord) {k : Nat} (h : k ∈ ord) : k ≤ cs.length := by have := List.mem_range.mp (R.perm.mem_iff.mp h); lia
theorem Rows.mem (R : Rows cs ord) {k : Nat} (h : k ≤ cs.length) : k ∈ ord := R.perm.mem_iff.mpr (List.mem_range.mpr (by lia))
theorem Rows.at (R : Rows cs ord) {i : Nat} (h : i < cs.length + 1) : ∃ k, ord[i]? = some k ∧ k ≤ cs.length :=
  ⟨ord[i]'(by rw [R.length]; exact h), List.getElem?_eq_getElem _, R.le (List.getElem_mem _)⟩
theorem rank_countP (k : Nat) : rankOf cs k = (List.range (cs.length + 1)).countP (lts cs · k) := by rw [rankOf, List.countP_eq_length_filter]; rfl
theorem lts_no {a b : Nat} (ha : a ≤ cs.length) (hb : b ≤ cs.length) (h : lts cs a b = true) : lts cs b a = false := by
  by_cases e : a = b
  · subst e; rw [lts_irr] at h; cases h
  · rw [lts_tot hb ha (Ne.symm e), h]; rfl
theorem Rows.rank (R : Rows cs ord) {i k : Nat} (h : ord[i]? = some k) : rankOf cs k = i := by
  rw [rank_countP, ← R.perm.countP_eq]
  have le := fun {j q} (hq : ord[j]? = some q) => R.le (List.mem_of_getElem? hq)
  exact countP_split h (fun j q hj hq => pw_get R.pw hj hq h) (lts_irr cs k) fun j q hj hq => lts_no (le h) (le hq) (pw_get R.pw hj h hq)
theorem Rows.inj (R : Rows cs ord) {a b : Nat} (ha : a ≤ cs.length) (hb : b ≤ cs.length) (h : rankOf cs a = rankOf cs b) : a = b := by
  obtain ⟨i, hi, rfl⟩ := List.mem_iff_getElem.mp (R.mem ha)
  obtain ⟨j, hj, rfl⟩ := List.mem_iff_getElem.mp (R.mem hb)
  rw [R.rank (List.getElem?_eq_getElem hi), R.rank (List.getElem?_eq_getElem hj)] at h
  subst h; rfl
theorem Rows.of_rank (R : Rows cs ord) {k : Nat} (h : k ≤ cs.length) : ord[rankOf cs k]? = some k := by
  obtain ⟨i, hi, rfl⟩ := List.mem_iff_getElem.mp (R.mem h)
  rw [R.rank (List.getElem?_eq_getElem hi)]
  exact List.getElem?_eq_getElem hi
theorem ahead_zero : ahead cs 0 = Str.ofString "" := by
  rw [ahead, if_pos rfl, List.getD_eq_getElem?_getD, List.getElem?_append_right (by simp)]; simp
theorem ahead_succ {k : Nat} (h : k < cs.length) : ahead cs (k + 1) = ⟨#[cs.getD k 0]⟩ := by
  rw [ahead, if_neg (by lia), Nat.add_sub_cancel, List.getD_eq_getElem?_getD, List.getElem?_append_left (by simpa using h), List.getElem?_map, List.getD_eq_getElem?_getD, List.getElem?_eq_getElem h]; rfl

theorem Rows.due (R : Rows cs ord) : dueUpto cs (cs.length + 1) = ord.map (ahead cs) := by
  have key : ∀ m, m ≤ cs.length + 1 → ∀ k, k ≤ cs.length → (dueUpto cs m)[rankOf cs k]? = some (if k < m then ahead cs k else Str.ofString "") := by
    intro m
    induction m with
    | zero =>
      intro _ k hk
      have : rankOf cs k < cs.length + 1 := by
        have := (List.getElem?_eq_some_iff.mp (R.of_rank hk)).1; rwa [R.length] at this
      rw [dueUpto, List.getElem?_replicate, if_pos this]; rfl
    | succ m ih =>
      intro hm k hk
      have ih := ih (by lia)
      rw [dueUpto]
      by_cases h0 : 0 < m
      · rw [if_pos h0]
        by_cases e : k = m
        · subst e
          have : rankOf cs k < (dueUpto cs k).length := by
            have := (List.getElem?_eq_some_iff.mp (R.of_rank hk)).1; rwa [R.length, ← dueUpto_length cs k] at this
          rw [List.getElem?_set_self this, if_pos (Nat.lt_succ_self _)]
          have := ahead_succ (cs := cs) (k := k - 1) (by with_reducible exact ar10p (by assumption) (by assumption))
          rw [Nat.sub_add_cancel h0] at this
          rw [this]
        · rw [List.getElem?_set_ne (fun q => e (R.inj hk (by lia) q.symm)), ih k hk]
          by_cases q : k < m
          · rw [if_pos q, if_pos (by lia)]
          · rw [if_neg q, if_neg (by lia)]
      · rw [if_neg h0, ih k hk]
        have : m = 0 := by lia
        subst this
        by_cases e : k = 0
        · subst e; rw [if_neg (by assumption), if_pos (by lia), ahead_zero]
        · rw [if_neg (by lia), if_neg (by lia)]
  apply List.ext_getElem?
  intro i
  by_cases hi : i < cs.length + 1
  · obtain ⟨k, hk, hkl⟩ := R.at hi
    have := key (cs.length + 1) (Nat.le_refl _) k hkl
    rw [R.rank hk, if_pos (by lia)] at this
    rw [this, List.getElem?_map, hk]; rfl
  · rw [List.getElem?_eq_none (by rw [dueUpto_length]; lia), List.getElem?_eq_none (by rw [List.length_map, R.length]; lia)]

noncomputable def lowS (s : Str) : Int := match s.cps.toList with | [] => 0 | c :: _ => ((c % 32 + 1 : Nat) : Int)
noncomputable def keyN (col : List Str) (j : Nat) : Int := lowS (col.getD j (Str.ofString ""))
theorem lowS_ahead {k : Nat} (h : k ≤ cs.length) : lowS (ahead cs k) = lowAt cs (prv cs k) := by
  cases k with
  | zero => rw [ahead_zero, prv, if_pos rfl, lowAt, if_neg (Nat.lt_irrefl _)]; rfl
  | succ k => rw [ahead_succ (by assumption), prv, if_neg (by lia), Nat.add_sub_cancel, lowAt, if_pos (by assumption)]; rfl
theorem prv_perm : ((List.range (cs.length + 1)).map (prv cs)).Perm (List.range (cs.length + 1)) := by
  rw [List.range_succ_eq_map, List.map_cons, List.map_map]
  have e : List.map (prv cs ∘ Nat.succ) (List.range cs.length) = List.range cs.length := by
    conv => rhs; rw [← List.map_id (List.range cs.length)]
    refine List.map_congr_left fun k _ => ?_
    show (if k + 1 = 0 then cs.length else k + 1 - 1) = k
    rw [if_neg (by lia)]; rfl
  rw [e, show prv cs 0 = cs.length from if_pos rfl, ← List.range_succ_eq_map, List.range_succ]
  exact List.perm_append_comm (l₁ := [cs.length])

variable {s1 s2 : List Nat}
theorem Rows.next (R : Rows cs ord) (H : Halves (keyN (ord.map (ahead cs))) (cs.length + 1) s1 s2) {k : Nat} (hk : k ≤ cs.length) :
    (ordOf (cs.length + 1) s1 s2)[rankOf cs (prv cs k)]? = some (rankOf cs k) := by
  have hpk : prv cs k ≤ cs.length := by unfold prv; split <;> lia
  have lt : ∀ {k}, k ≤ cs.length → rankOf cs k < cs.length + 1 := fun {k} hk => by
    have := (List.getElem?_eq_some_iff.mp (R.of_rank hk)).1; rwa [R.length] at this
  have hi := lt hpk
  obtain ⟨p, hp⟩ : ∃ p, (ordOf (cs.length + 1) s1 s2)[rankOf cs (prv cs k)]? = some p := ⟨_, List.getElem?_eq_getElem (by rw [H.length]; exact hi)⟩
  rw [hp]
  refine congrArg some (btr_inj (N := cs.length + 1) (k := keyN (ord.map (ahead cs))) (H.lt p (List.mem_of_getElem? hp)) (lt hk) ?_)
  rw [H.count hp, rank_countP, ← (prv_perm (cs := cs)).countP_eq, List.countP_map]
  have e : List.range (cs.length + 1) = ord.map (rankOf cs) := by
    apply List.ext_getElem?
    intro i
    by_cases hi : i < cs.length + 1
    · obtain ⟨q, hq, _⟩ := R.at hi
      rw [List.getElem?_range hi, List.getElem?_map, hq, Option.map_some, R.rank hq]
    · rw [List.getElem?_eq_none (by simpa using hi), List.getElem?_eq_none (by rw [List.length_map, R.length]; lia)]
  conv => rhs; rw [e, List.countP_map]
  rw [← R.perm.countP_eq]
  refine List.countP_congr fun q hq => ?_
  have hql := R.le hq
  have keyAt : ∀ {q}, q ≤ cs.length → keyN (ord.map (ahead cs)) (rankOf cs q) = lowAt cs (prv cs q) := fun {q} hq => by
    rw [keyN, List.getD_eq_getElem?_getD, List.getElem?_map, R.of_rank hq, Option.map_some, Option.getD_some, lowS_ahead hq]
  show lts cs (prv cs q) (prv cs k) = true ↔ btr (keyN (ord.map (ahead cs))) (rankOf cs q) (rankOf cs k) = true
  by_cases e : q = k
  · subst e; rw [lts_irr, btr_irr]
  · rw [lts_step hql hk e, btr_iff, better, keyAt hql, keyAt hk]
    have : lts cs q k = true ↔ rankOf cs q < rankOf cs k := by
      have h1 := R.of_rank hql
      have h2 := R.of_rank hk
      refine ⟨fun h => Classical.byContradiction fun hn => ?_, fun h => pw_get R.pw h h1 h2⟩
      rcases Nat.lt_or_ge (rankOf cs k) (rankOf cs q) with h3 | h3
      · have := pw_get R.pw h3 h2 h1
        rw [lts_no hk hql this] at h; cases h
      · exact e (R.inj hql hk (by lia))
    rw [this]
    lia

noncomputable def placeAt (order : List Nat) (p : Nat) : Nat → Nat
  | 0 => p
  | t + 1 => order.getD (placeAt order p t) 0
noncomputable def textAt (order : List Nat) (col : List Str) (p : Nat) : Nat → Str
  | 0 => Str.ofString ""
  | t + 1 => textAt order col p t ++ col.getD (placeAt order p (t + 1)) (Str.ofString "")
theorem Rows.mark (R : Rows cs ord) : (ord.map (ahead cs)).idxOf (Str.ofString "") = rankOf cs 0 := by
  have h0 := R.of_rank (k := 0) (Nat.zero_le _)
  have hne : ∀ k, k ∈ ord → ahead cs k = Str.ofString "" → k = 0 := fun k hk e => by
    cases k with
    | zero => rfl
    | succ k =>
      rw [ahead_succ (by have := R.le hk; assumption)] at e
      have := congrArg (fun s : Str => s.cps.size) e
      cases this
  have nd : ord.Nodup := R.perm.nodup_iff.mpr List.nodup_range
  have gen : ∀ (l : List Nat) (i : Nat), (∀ k, k ∈ l → ahead cs k = Str.ofString "" → k = 0) → l.Nodup → l[i]? = some 0 → (l.map (ahead cs)).idxOf (Str.ofString "") = i := by
    intro l
    induction l with
    | nil => intro i _ _ h; simp at h
    | cons a l ih =>
      intro i hl nd h
      rw [List.map_cons, List.idxOf_cons]
      cases i with
      | zero =>
        simp at h; subst h
        rw [ahead_zero, beq_self_eq_true]; rfl
      | succ i =>
        have hm : (0 : Nat) ∈ l := List.mem_of_getElem? (by simpa using h)
        have ha : ahead cs a ≠ Str.ofString "" := fun e => by
          have := hl a (.head _) e
          subst this
          exact (List.nodup_cons.mp nd).1 hm
        rw [show (ahead cs a == Str.ofString "") = false from beq_eq_false_iff_ne.mpr ha, ih i (fun k hk => hl k (.tail _ hk)) (List.nodup_cons.mp nd).2 (by simpa using h)]; rfl
  exact gen ord _ hne nd h0
theorem Rows.place (R : Rows cs ord) (H : Halves (keyN (ord.map (ahead cs))) (cs.length + 1) s1 s2) : ∀ t, t ≤ cs.length → placeAt (ordOf (cs.length + 1) s1 s2) ((ord.map (ahead cs)).idxOf (Str.ofString "")) t = rankOf cs t
  | 0, _ => R.mark
  | t + 1, h => by
    have := R.next H (k := t + 1) h
    rw [show prv cs (t + 1) = t by rw [prv, if_neg (by lia)]; rfl] at this
    rw [placeAt, R.place H t (by lia), List.getD_eq_getElem?_getD, this]; rfl
theorem str_snoc (a : List Nat) (c : Nat) : (⟨a.toArray⟩ : Str) ++ ⟨#[c]⟩ = ⟨(a ++ [c]).toArray⟩ := by
  show (⟨a.toArray ++ #[c]⟩ : Str) = _
  simp
theorem Rows.back (R : Rows cs ord) (H : Halves (keyN (ord.map (ahead cs))) (cs.length + 1) s1 s2) :
    textAt (ordOf (cs.length + 1) s1 s2) (ord.map (ahead cs)) ((ord.map (ahead cs)).idxOf (Str.ofString "")) cs.length = ⟨cs.toArray⟩ := by
  have key : ∀ t, t ≤ cs.length → textAt (ordOf (cs.length + 1) s1 s2) (ord.map (ahead cs)) ((ord.map (ahead cs)).idxOf (Str.ofString "")) t = ⟨(cs.take t).toArray⟩ := by
    intro t
    induction t with
    | zero => intro _; rfl
    | succ t ih =>
      intro h
      rw [textAt, ih (by lia), R.place H (t + 1) h, List.getD_eq_getElem?_getD, List.getElem?_map, R.of_rank h, Option.map_some, Option.getD_some, ahead_succ (by assumption), str_snoc,
        List.take_add_one, List.getD_eq_getElem?_getD, List.getElem?_eq_getElem (by assumption)]
      rfl
  rw [key cs.length (Nat.le_refl _), List.take_length]
end

noncomputable abbrev lamScope : Scope := { kind := .function, names := [("spot", .local), ("column", .free), ("_law_low", .globalImplicit)], isGenerator := false, isCoroutine := false, more := [] }
noncomputable abbrev lamParams (pp : Pos) : Arguments := { posonlyargs := [], args := [{ arg := "spot", annotation := none, pos := pp }], vararg := none, kwonlyargs := [], kw_defaults := [], kwarg := none, defaults := [] }
noncomputable abbrev lamBody (p1 p2 p3 p4 p5 p6 : Pos) : Expr := .Call (.Name "_law_low" p1) [.Subscript (.Name "column" p2) (.UnaryOp .USub (.Name "spot" p3) p4) p5] [] p6
noncomputable abbrev lamQual : Str := "_law_back.<locals>.<lambda>"

section
variable {prog : Program} {w : World} {A : Around} {s : Shared} {R : Result → Shared → Prop} {p1 p2 p3 p4 p5 p6 pp : Pos} {pm ctv : Value} {c' fk : Addr} {cl : List (Str × Addr)} {qual : Str} {i : Int} {t : Tok}
theorem enterL (lim : s.heap.NoLimit) (ho : s.heap.get? fk = some (kla_obj "<lambda>" qual (lamParams pp) (lamBody p1 p2 p3 p4 p5 p6) lamScope cl pm c' ctv)) (hcd : s.heap.CodeRec (.ref c') qual) (hroom : A.depth < recursionLimit)
    (h : ∀ h₁ L, Fr s.heap L h₁ (fun y => List.lookup y ([("spot", Value.int i t)] : List (Str × Value)).reverse) →
      wpAny (model prog w) (A.deeper (envX qual lamScope L fk (.ref c') cl)) (eval (lamBody p1 p2 p3 p4 p5 p6) (envX qual lamScope L fk (.ref c') cl)) (fun v s' => R (.ok (.ret v)) s') No { s with heap := h₁, toks := s.toks + 1 }) :
    codeAny (model prog w) A (.call (.ref fk) ⟨[.int i t], []⟩) R s := by
  refine kla_callFunE hroom ho rfl rfl rfl rfl hcd ?_
  rw [show bindArgs (kla_fn "<lambda>" qual (lamParams pp) (lamBody p1 p2 p3 p4 p5 p6) lamScope cl pm (.ref c') ctv) ⟨[.int i t], []⟩ = (pure [(("spot" : Str), Value.int i t)] : Sem (List (Str × Value))) from rfl]
  refine wpAny_pure (wpAny_newFunctionEnv (show ∀ x ∈ lamScope.names, x.2 ≠ .cell by decide) (locs rfl) (fun h₁ hns hsb => ⟨lim.fresh _ hsb, ?_⟩) rfl)
  have hk₁ : ∀ b o, s.heap.get? b = some o → h₁.get? b = some o := fun b o e => hsb.extBut b o (Nat.ne_of_lt (Heap.lt_size e)) (Heap.get?_push_of_some _ e)
  exact kla_codeExpr (wpAny_mono (h h₁ s.heap.objs.size ⟨hns, hk₁, Nat.le_refl _⟩) (fun _ _ x => x) fun _ _ y => y.elim)
end
section
variable {M : Model} {A : Around} {E : Value → Shared → Prop} {s : Shared} {L a c : Addr} {cn : Str} {cs : Scope} {ccd : Value} {cl : List (Str × Addr)} {x : Str} {pos : Pos} {v : Value} {Q : Value → Shared → Prop} {oc : Obj}
theorem nmF (hN : s.heap.get? c = some oc) (hd : oc.data = .cell (some v)) (hc : cl.lookup x = some c) (h : Q v s)
    (hk : cs.kind = .function := by rfl) (hx : (envX cn cs L a ccd cl).kindOf x = some .free := by rfl) (hb : (x == ("__debug__" : Str)) = false := by decide) (hn : (x == ("__classdict__" : Str)) = false := by decide) :
    wpAny M A (eval (.Name x pos) (envX cn cs L a ccd cl)) Q E s := wpAny_Name (wpAny_loadName_free hk hx hc ⟨oc, hN, hd⟩ h hn) hb
end

theorem key_ok {prog : Program} {w : World} {gB gK : Heap} {p1 p2 p3 p4 p5 p6 pp : Pos} {pm ctv : Value} {c' fk c K : Addr} {qual : Str} {oc : Obj} {dv : List Value} {nn : Nat} {col : List Str}
    (B : Base w gB) (hB : ∀ b o, gB.get? b = some o → gK.get? b = some o) (hf : gK.get? fk = some (kla_obj "<lambda>" qual (lamParams pp) (lamBody p1 p2 p3 p4 p5 p6) lamScope [("column", c)] pm c' ctv)) (hcd : gK.CodeRec (.ref c') qual)
    (hc : gK.get? c = some oc) (hoc : oc.data = .cell (some (.ref K))) (hK : gK.get? K = some (listOf dv.toArray nn)) (hs : StrsAre dv col) (hcol : ∀ x ∈ col, x = Str.ofString "" ∨ ∃ c, x = ⟨#[c]⟩) (hN : col.length < 60)
    {dom : Int → Prop} (hdom : ∀ e, dom e → -(col.length : Int) < e ∧ e ≤ 0) : KeyOk prog w (fun e => keyN col (-e).toNat) dom gK fk := by
  refine ⟨⟨_, _, _, _, hf⟩, fun A s Q e t rm hd hk h => ?_⟩
  obtain ⟨hd1, hd2⟩ := hdom e hd
  have Bs : Base w s.heap := B.keeps fun b o e => hk _ _ (hB _ _ e)
  have hcd' : s.heap.CodeRec (.ref c') qual := by
    obtain ⟨c₂, oc', vs, tq, e2, hoc, hd, hv⟩ := hcd
    exact ⟨c₂, oc', vs, tq, e2, hk _ _ hoc, hd, hv⟩
  refine wpAny_call (enterL Bs.lim (hk _ _ hf) hcd' rm.lim ?_)
  intro h₁ L F
  have m1 : (fun y => List.lookup y ([("spot", Value.int e t)] : List (Str × Value)).reverse) "spot" = some (.int e t) := rfl
  generalize (fun y => List.lookup y ([("spot", Value.int e t)] : List (Str × Value)).reverse) = m at F m1
  have N : News s.heap L h₁ [] := fun _ x => nomatch x
  have hj : (-e).toNat < col.length := by lia
  obtain ⟨x, hx⟩ : ∃ x, col[(-e).toNat]? = some x := ⟨_, List.getElem?_eq_getElem hj⟩
  obtain ⟨tx, hdx⟩ := hs.get _ _ hx
  have hkey : keyN col (-e).toNat = lowS x := by rw [keyN, List.getD_eq_getElem?_getD, hx]; rfl
  refine Call_ ?_
  (refine' nmK ?kF ?kB ?ke ?_; (case kF => assumption); (case kB => assumption); (case ke => k_is))
  (refine' callWith_K (Base.X (by assumption)) ?ke ?_; (case ke => k_is))
  refine args_cons ?_
  with_reducible refine Subscript_ ?_
  refine nmF (F.keep _ _ (hk _ _ hc)) hoc rfl ?_
  with_reducible refine wpAny_UnaryOp ?_
  (refine' ldM ?kF ?kv ?_; (case kF => assumption); (case kv => assumption))
  with_reducible refine PyProof.Rows.neg_int ?_
  refine item_listL (isList_of (F.keep _ _ (hk _ _ hK))) (by lia) (by lia) hdx ?_
  have O : Ok w [] h₁ := ⟨_, Bs, F.keep, fun _ q => nomatch q⟩
  rcases hcol x (List.mem_of_getElem? hx) with rfl | ⟨c, rfl⟩
  · refine args_nil ?_
    (refine ⟨in_of (by assumption) (by assumption), ?_⟩; try dsimp only [List.nil_append, List.cons_append])
    refine wpAny_call (low_call_nil O (Room.deeper (k := 6) (rm.less (by lia))) ?_)
    intro h2 tk2 t2 k2
    have := h h2 tk2 t2 fun b o e nb => k2 b o (F.keep b o e) nb
    rw [hkey] at this
    exact this
  · refine args_nil ?_
    (refine ⟨in_of (by assumption) (by assumption), ?_⟩; try dsimp only [List.nil_append, List.cons_append])
    refine wpAny_call (low_call O (Room.deeper (k := 6) (rm.less (by lia))) ?_)
    intro h2 tk2 t2 k2
    have := h h2 tk2 t2 fun b o e nb => k2 b o (F.keep b o e) nb
    rw [hkey] at this
    exact this

theorem idx_ne {k : Str} : ∀ {ys : List Str} {j : Nat}, j < ys.idxOf k → (h : j < ys.length) → (ys[j] == k) = false
  | y :: r, j, h, h2 => by
    by_cases e : (y == k) = true
    · rw [List.idxOf_cons, e] at h; exact absurd h (Nat.not_lt_zero _)
    · have e : (y == k) = false := by simpa using e
      rw [List.idxOf_cons, e] at h
      cases j with
      | zero => exact e
      | succ j => exact idx_ne (ys := r) (j := j) (by simpa using h) (by simpa using h2)
section
variable {prog : Program} {w : World} {A : Around} {E : Value → Shared → Prop} {s : Shared}
theorem iter_range_call {r : Addr} {a b c k : Int} {t u v : Tok} {Q : Value → Shared → Prop} (hr : s.heap.get? r = some (rgObj a b c t u v)) (hs : Builtin.Range.small a b c = true) (hk : Builtin.Range.rangeSize a b c = k)
    (h : Q (.ref s.heap.objs.size) { s with heap := s.heap.push (riObj a k c) }) : wpAny (model prog w) A (call (.builtin "iter") [.ref r]) Q E s := by
  subst hk
  refine call_function_entry (by decide +kernel) (by decide +kernel) kdk_entry_iter (kdk_args_iter _) ?_
  unfold Builtin.«iter»
  refine wpAny_bind (m := someArgs "iter" 1 2 _) (wpAny_of_eq (a := [Value.ref r]) (by first | rfl | kernel_rfl!) ?_)
  show wpAny _ _ (pyIter (.ref r) >>= _) _ _ _
  exact wpAny_bind (wpAny_pyIter_range hr hs (wpAny_pure ⟨_, rfl, h⟩))

theorem index_list_strs {l : Addr} {vs : List Value} {ys : List Str} {k : Str} {t : Tok} {Q : Value → Shared → Prop} (hl : s.heap.IsList l vs.toArray) (hi : StrsAre vs ys) (hlen : ys.length < 2 ^ 20) (hk : k ∈ ys)
    (h : Q (.int (ys.idxOf k : Nat) s.toks) { s with toks := s.toks + 1 }) : wpAny (model prog w) A (call (.builtin "list.index") [.ref l, .str k t]) Q E s := by
  obtain ⟨⟨cls, dd, data, sl⟩, ho, hc, n, hd⟩ := id hl
  simp only at hc hd
  subst hc hd
  have hlen' := hi.length
  have hj : ys.idxOf k < ys.length := List.idxOf_lt_length_iff.mpr hk
  have at' : ∀ j (hj : j < vs.toArray.size), ∃ y, ys[j]? = some y ∧ isStrOf k vs.toArray[j] = (y == k) := fun j hj => by
    have hj' : j < vs.length := by simpa using hj
    obtain ⟨y, hy⟩ : ∃ y, ys[j]? = some y := ⟨_, List.getElem?_eq_getElem (by lia)⟩
    obtain ⟨u, hu⟩ := hi.get _ _ hy
    rw [List.getElem?_eq_getElem hj'] at hu
    injection hu with hu
    refine ⟨y, hy, ?_⟩
    show isStrOf k vs[j] = _
    rw [hu]; rfl
  refine call_meets PySem.F.slot_list_index ⟨_, ho, rfl⟩ PySem.F.entry_list_index (PySem.F.args_list_index_2 _ _)
    (PySem.SeqAt.list_indexAt l vs.toArray n dd sl (.str k t) (isStrOf k) (ys.idxOf k) (by simpa [hlen'] using hj) (by lia) ?_ ?_) ⟨ho, fun y hy => (eq_isStrOf k t hi y (by simpa using hy)).at _ _, h⟩
  · obtain ⟨y, hy, e⟩ := at' (ys.idxOf k) (by simpa [hlen'] using hj)
    rw [e]
    have : ys[ys.idxOf k] = k := by simp
    rw [List.getElem?_eq_getElem hj, this] at hy
    injection hy with hy; rw [hy]; exact beq_self_eq_true _
  · intro j hjs hlt
    obtain ⟨y, hy, e⟩ := at' j hjs
    rw [e]
    obtain ⟨h1, rfl⟩ := List.getElem?_eq_some_iff.mp hy
    exact idx_ne hlt h1
end

section
variable {w : World} {g h h' : Heap} {L : Addr} {m : Str → Option Value} {news : List (Addr × Obj)}
theorem frame_new (F : Fr g L h m) : g.get? L = none := Heap.get?_none_of_le F.above
theorem ok_frame (B : Base w g) (F : Fr g L h m) (N : News g L h news) {foot : List Addr} (hf : ∀ a ∈ foot, a = L ∨ a ∈ news.map (·.1)) : Ok w foot h :=
  ⟨g, B, F.keep, fun a ha => by
    rcases hf a ha with rfl | ha
    · exact frame_new F
    · obtain ⟨p, hp, rfl⟩ := List.mem_map.mp ha; exact (N p hp).2.2⟩
theorem fr_afterL (F : Fr g L h m) (N : News g L h news) {foot : List Addr} (hf : ∀ a ∈ foot, a = L ∨ a ∈ news.map (·.1)) (k : Keeps foot h h') {o o' : Obj} (hL : h.get? L = some o) (hL' : h'.get? L = some o') (hd : o'.data = o.data) : Fr g L h' m := by
  obtain ⟨oL, es, ep, e1, e2, r⟩ := F.ns
  rw [hL] at e1; cases e1
  refine ⟨⟨o', es, ep, hL', hd.trans e2, r⟩, fun b ob e => k _ _ (F.keep b ob e) fun q => ?_, F.above⟩
  rcases hf _ q with rfl | q
  · rw [frame_new F] at e; cases e
  · obtain ⟨p, hp, e'⟩ := List.mem_map.mp q; have := (N p hp).2.2; rw [e', e] at this; cases this
end

section
variable {M : Model} {A : Around} {E : Value → Shared → Prop} {s : Shared} {w : World} {g : Heap} {L a c : Addr} {m : Str → Option Value} {cn : Str} {cs : Scope} {cl : List (Str × Addr)} {rest : List (Addr × Obj)} {ps : Array Value} {p1 p2 p3 p4 p5 p6 pp pos : Pos}
theorem mk_lambda {Q : Value → Shared → Prop} (F : Fr g L s.heap m) (B : Base w g) (N : News g L s.heap ((124, tabObj ps) :: rest)) (off : ∀ p ∈ rest, p.1 ≠ 124) (ht : TriplesOk ps.toList) (hnf : codeAmong pos ps.toList = none) (hcl : closureFor lamScope (envX cn cs L a (.ref 126) cl) = pure [(("column" : Str), c)])
    (h : ∀ f c' oc pm ctv h' tk, Fr g L h' m → News g L h' ((f, kla_obj "<lambda>" ((cn ++ ".<locals>.") ++ "<lambda>") (lamParams pp) (lamBody p1 p2 p3 p4 p5 p6) lamScope [("column", c)] pm c' ctv) :: (c', oc) :: (124, tabObj (ps ++ #[rawInt pos.line, rawInt pos.col, .ref c'])) :: rest) →
      h'.CodeRec (.ref c') ((cn ++ ".<locals>.") ++ "<lambda>") → 124 < c' → (∀ p ∈ rest, p.1 < c') → c' < f → Q (.ref f) { s with heap := h', toks := tk }) :
    wpAny M A (eval (.Lambda (lamParams pp) (lamBody p1 p2 p3 p4 p5 p6) lamScope pos) (envX cn cs L a (.ref 126) cl)) Q E s := by
  refine kla_eval rfl ?_
  obtain ⟨p, loose, mean, mg, mb, T⟩ := B.M
  refine kla_nest F N T (codeHd_of_K (c := 126) (P := 124) B.X (by kernel_rfl)) rfl (.head off) ht hnf hcl ?_
  intro f c' oc vs t ctv h' tk F' N' d1 d2 l1 l2
  refine h f c' oc _ ctv h' tk F' N' ⟨c', oc, vs, t, rfl, (N' (c', oc) (.tail _ (.head _))).1, d1, d2⟩ (l1 _ (.head _)) (fun p hp => l1 p (.tail _ hp)) l2
end

noncomputable abbrev tabP : Addr × Obj := (124, tabObj #[])
theorem Call_kw {M : Model} {A : Around} {E : Value → Shared → Prop} {s : Shared} {env : Env} {func : Expr} {args : List Expr} {kws : List Keyword} {pos : Pos} {Q : Value → Shared → Prop}
    (h : wpAny M A (eval func env) (fun f s₁ => wpAny M A (callWith pos f [] (backTo pos (starEach args env)) (backToKw pos (keywordEach kws env))) Q E s₁) E s)
    (he : eval (.Call func args kws pos) env = (do callWith pos (← eval func env) [] (backTo pos (starEach args env)) (backToKw pos (keywordEach kws env))) := by rfl) :
    wpAny M A (eval (.Call func args kws pos) env) Q E s := by
  rw [he]; exact wpAny_bind h

theorem frs_up {g h : Heap} {L : Addr} {m : Str → Option Value} {outer : List Env} {frs : List (Addr × Obj)} (F : Fr g L h m) (hf : FrsAt outer frs) :
    ∃ oL, h.get? L = some oL ∧ ∀ env : Env, env.scope.kind ≠ .module → env.frame = some L → FrsAt (env :: outer) ((L, oL) :: frs) := by
  obtain ⟨oL, hoL, hnL⟩ := LCg.ns_obj F.ns
  exact ⟨oL, hoL, fun env hk he => .cons hk he (fun vs q => by obtain ⟨es, ep, hd, _⟩ := hnL; rw [hd] at q; cases q) hf⟩

theorem key_here {prog : Program} {w : World} {g h : Heap} {L f c c' K : Addr} {m : Str → Option Value} {p1 p2 p3 p4 p5 p6 pp : Pos} {pm ctv : Value} {qual : Str} {oc oc1 : Obj} {dv : List Value} {nn : Nat} {col : List Str} {rest hidden : List (Addr × Obj)} {dom : Int → Prop}
    (B : Base w g) (F : Fr g L h m) (N : News g L h ((f, kla_obj "<lambda>" qual (lamParams pp) (lamBody p1 p2 p3 p4 p5 p6) lamScope [("column", c)] pm c' ctv) :: (c', oc1) :: rest)) (hcr : h.CodeRec (.ref c') qual) (hc : (c, oc) ∈ rest) (hoc : oc.data = .cell (some (.ref K)))
    (hK : g.get? K = some (listOf dv.toArray nn)) (hs : StrsAre dv col) (hcol : ∀ x ∈ col, x = Str.ofString "" ∨ ∃ c, x = ⟨#[c]⟩) (hN : col.length < 60) (hh : ∀ p ∈ hidden, p.1 = L ∨ (p.1 ∈ rest.map (·.1) ∧ p.1 ≠ c)) (hlt : ∀ p ∈ rest, p.1 < c') (hcf : c' < f)
    (hdom : ∀ e, dom e → -(col.length : Int) < e ∧ e ≤ 0) : ∃ gK, KeyOk prog w (fun e => keyN col (-e).toNat) dom gK f ∧ (∀ b o, gK.get? b = some o → h.get? b = some o) ∧ ∀ p ∈ hidden, gK.get? p.1 = none := by
  have inRest : ∀ a, a ∈ rest.map (·.1) → a < c' ∧ g.get? a = none := fun a ha => by
    obtain ⟨p, hp, rfl⟩ := List.mem_map.mp ha
    exact ⟨hlt p hp, (N p (.tail _ (.tail _ hp))).2.2⟩
  have no : ∀ a, a ≠ L → (a ∈ rest.map (·.1) → a = c) → a ∉ hidden.map (·.1) := fun a h1 h2 q => by
    obtain ⟨p, hp, rfl⟩ := List.mem_map.mp q
    rcases hh p hp with e | ⟨e1, e2⟩
    · exact h1 e
    · exact e2 (h2 e1)
  have gIn : ∀ b o, g.get? b = some o → (hideAll h (hidden.map (·.1))).get? b = some o := fun b o e => hideAll_get _ (F.keep b o e) (no b (fun q => by rw [q, frame_new F] at e; cases e) fun q => by rw [(inRest b q).2] at e; cases e)
  refine ⟨hideAll h (hidden.map (·.1)), key_ok B gIn (hideAll_get _ (N _ (.head _)).1 (no f (N _ (.head _)).2.1 fun q => absurd (inRest f q).1 (Nat.not_lt.mpr (Nat.le_of_lt hcf)))) ?_ (hideAll_get _ (N (c, oc) (.tail _ (.tail _ hc))).1 (no c (N (c, oc) (.tail _ (.tail _ hc))).2.1 fun _ => rfl)) hoc (gIn _ _ hK) hs hcol hN hdom,
    fun b o e => of_hideAll _ e, fun p hp => hideAll_none _ (List.mem_map_of_mem hp)⟩
  obtain ⟨c₂, oc', vs, tq, e2, ho, hd, hv⟩ := hcr
  cases e2
  exact ⟨_, oc', vs, tq, rfl, hideAll_get _ ho (no c' (N (c', oc1) (.tail _ (.head _))).2.1 fun q => absurd (inRest c' q).1 (Nat.lt_irrefl _)), hd, hv⟩
theorem in_rest {hidden rest : List (Addr × Obj)} {L c : Addr} {a1 a2 : Addr × Obj} (hh : ∀ p ∈ hidden, p.1 = L ∨ (p.1 ∈ rest.map (·.1) ∧ p.1 ≠ c)) : ∀ a ∈ hidden.map (·.1), a = L ∨ a ∈ (a1 :: a2 :: rest).map (·.1) := fun a ha => by
  obtain ⟨p, hp, rfl⟩ := List.mem_map.mp ha
  rcases hh p hp with h | ⟨h, _⟩
  · exact .inl h
  · exact .inr (.tail _ (.tail _ h))

theorem few_turn {vs : List Value} {s1 : List Nat} {i : Nat} {v : Value} (h : IntsAre vs (s1.map fun (j : Nat) => (0 : Int) + (j : Int) * -1)) (hv : vs[i]? = some v) :
    ∃ z t, v = .int z t ∧ ∀ ys u, IntsAre ys ((s1.map fun (j : Nat) => (j : Int)).take i) → IntsAre (ys ++ [.int (-z) u]) ((s1.map fun (j : Nat) => (j : Int)).take (i + 1)) := by
  obtain ⟨z, t, rfl, hz⟩ := h.at i v hv
  refine ⟨z, t, rfl, fun ys u hJ => ?_⟩
  rw [List.getElem?_map] at hz
  obtain ⟨j, hj, rfl⟩ := Option.map_eq_some_iff.mp hz
  rw [take_snoc (x := ((j : Nat) : Int)) (by rw [List.getElem?_map, hj]; rfl), show -(0 + (j : Int) * -1) = (j : Int) by lia]
  exact ints_snoc hJ _ _
theorem others_turn {vs : List Value} {s2 : List Nat} {i N : Nat} (h : IntsAre vs (s2.map fun (j : Nat) => (1 - (N : Int)) + (j : Int) * 1)) (hlt : ∀ j ∈ s2, j < N) (hi : i < s2.length) :
    ∃ z t, -(vs.length : Int) ≤ -(1 + (i : Int)) ∧ -(1 + (i : Int)) < vs.length ∧ vs[(if -(1 + (i : Int)) < 0 then -(1 + (i : Int)) + vs.length else -(1 + (i : Int))).toNat]? = some (.int z t) ∧
      ∀ ys u, IntsAre ys (((s2.map fun j => N - 1 - j).reverse.map fun (j : Nat) => (j : Int)).take i) → IntsAre (ys ++ [.int (-z) u]) (((s2.map fun j => N - 1 - j).reverse.map fun (j : Nat) => (j : Int)).take (i + 1)) := by
  have hvl : vs.length = s2.length := by rw [h.length, List.length_map]
  obtain ⟨z, hz⟩ : ∃ z, s2[s2.length - 1 - i]? = some z := ⟨_, List.getElem?_eq_getElem (by with_reducible exact ar4 (by assumption))⟩
  obtain ⟨tz, hvz⟩ := h.get (s2.length - 1 - i) ((1 - (N : Int)) + (z : Int) * 1) (by rw [List.getElem?_map, hz]; rfl)
  refine ⟨(1 - (N : Int)) + (z : Int) * 1, tz, by lia, by lia, ?_, fun ys u hJ => ?_⟩
  · rw [if_pos (by lia), show (-(1 + (i : Int)) + (vs.length : Int)).toNat = s2.length - 1 - i by lia]
    exact hvz
  · have hzl := hlt z (List.mem_of_getElem? hz)
    rw [take_snoc (x := ((N - 1 - z : Nat) : Int)) (by
      rw [List.getElem?_map, List.getElem?_reverse (by rw [List.length_map]; exact hi), List.length_map, List.getElem?_map, hz]; rfl), show -((1 - (N : Int)) + (z : Int) * 1) = ((N - 1 - z : Nat) : Int) by lia]
    exact ints_snoc hJ _ _
theorem others_turn' {P : Prop} {vs : List Value} {s2 : List Nat} {i N : Nat} (h : IntsAre vs (s2.map fun (j : Nat) => (1 - (N : Int)) + (j : Int) * 1)) (hlt : ∀ j ∈ s2, j < N) (hi : i < s2.length)
    (k : ∀ z t, -(vs.length : Int) ≤ -(1 + (i : Int)) → -(1 + (i : Int)) < vs.length → vs[(if -(1 + (i : Int)) < 0 then -(1 + (i : Int)) + vs.length else -(1 + (i : Int))).toNat]? = some (.int z t) →
      (∀ ys u, IntsAre ys (((s2.map fun j => N - 1 - j).reverse.map fun (j : Nat) => (j : Int)).take i) → IntsAre (ys ++ [.int (-z) u]) (((s2.map fun j => N - 1 - j).reverse.map fun (j : Nat) => (j : Int)).take (i + 1))) → P) : P :=
  let ⟨z, t, h1, h2, h3, h4⟩ := others_turn h hlt hi
  k z t h1 h2 h3 h4
theorem way_turn {order : List Nat} {col : List Str} {ov dv : List Value} {p0 N i : Nat} (ho : IntsAre ov (order.map fun (j : Nat) => (j : Int))) (hlen : order.length = N) (hlt : ∀ p ∈ order, p < N) (hs : StrsAre dv col) (hc : col.length = N) (hp : placeAt order p0 i < N) :
    placeAt order p0 (i + 1) < N ∧ (∃ t, ov[((placeAt order p0 i : Nat) : Int).toNat]? = some (.int (placeAt order p0 (i + 1) : Nat) t)) ∧ ∃ x t, dv[((placeAt order p0 (i + 1) : Nat) : Int).toNat]? = some (.str x t) ∧ x ∈ col ∧ textAt order col p0 (i + 1) = textAt order col p0 i ++ x := by
  have e : order[placeAt order p0 i]? = some (placeAt order p0 (i + 1)) := by
    rw [placeAt, List.getD_eq_getElem?_getD, List.getElem?_eq_getElem (by lia)]; rfl
  have h1 : placeAt order p0 (i + 1) < N := hlt _ (List.mem_of_getElem? e)
  have e2 : col[placeAt order p0 (i + 1)]? = some (col.getD (placeAt order p0 (i + 1)) (Str.ofString "")) := by
    rw [List.getD_eq_getElem?_getD, List.getElem?_eq_getElem (by lia)]; rfl
  refine ⟨h1, ?_, ?_⟩
  · rw [Int.toNat_natCast]
    exact ho.get _ _ (by rw [List.getElem?_map, e]; rfl)
  · obtain ⟨t, ht⟩ := hs.get _ _ e2
    exact ⟨_, t, by rw [Int.toNat_natCast]; exact ht, List.mem_of_getElem? e2, rfl⟩
theorem textAt_length {order : List Nat} {col : List Str} {p0 : Nat} (hcol : ∀ x ∈ col, x = Str.ofString "" ∨ ∃ c, x = ⟨#[c]⟩) : ∀ i, (textAt order col p0 i).length ≤ i
  | 0 => Nat.le_refl _
  | i + 1 => by
    have ih := textAt_length hcol (order := order) (p0 := p0) i
    have h1 : (col.getD (placeAt order p0 (i + 1)) (Str.ofString "")).length ≤ 1 := by
      rw [List.getD_eq_getElem?_getD]
      cases q : col[placeAt order p0 (i + 1)]? with
      | none => exact Nat.zero_le _
      | some x =>
        rcases hcol x (List.mem_of_getElem? q) with rfl | ⟨c, rfl⟩
        · exact Nat.zero_le _
        · exact Nat.le_refl _
    have e : (textAt order col p0 (i + 1)).length = (textAt order col p0 i).length + (col.getD (placeAt order p0 (i + 1)) (Str.ofString "")).length := by
      show (_ ++ _ : Array Nat).size = _
      rw [Array.size_append]; rfl
    lia

section
variable {prog : Program} {w : World} {A : Around} {E : Value → Shared → Prop} {s : Shared} {g : Heap} {L : Addr} {m : Str → Option Value} {nx : List (Addr × Obj)}
theorem pyIter_range_led {r : Addr} {a b c k : Int} {t u v : Tok} {Q : Value → Shared → Prop} (F : Fr g L s.heap m) (N : News g L s.heap ((r, rgObj a b c t u v) :: nx)) (hs : Builtin.Range.small a b c = true) (hk : Builtin.Range.rangeSize a b c = k)
    (h : ∀ I h', Fr g L h' m → News g L h' ((I, riObj a k c) :: nx) → (∀ p ∈ nx, p.1 ≠ I) → Q (.ref I) { s with heap := h' }) : wpAny (model prog w) A (pyIter (.ref r)) Q E s := by
  subst hk
  have N' : News g L s.heap nx := fun p hp => N p (.tail _ hp)
  exact wpAny_pyIter_range (N _ (.head _)).1 hs (h _ _ (F.push _) (News.push F N' _) (fresh_ne N'))
end

theorem hid_cases {L it : Addr} {oL ri : Obj} {frs : List (Addr × Obj)} {P : Addr × Obj → Prop} (h1 : P (L, oL)) (h2 : ∀ p ∈ frs, P p) (h3 : P (it, ri)) : ∀ p ∈ ((L, oL) :: frs) ++ [(it, ri)], P p := fun p hp => by
  simp only [List.cons_append, List.mem_cons, List.mem_append, List.not_mem_nil, or_false] at hp
  rcases hp with rfl | hp | rfl
  · exact h1
  · exact h2 p hp
  · exact h3
theorem not_hid {L it a : Addr} {oL ri : Obj} {frs : List (Addr × Obj)} (e1 : a ≠ L) (e2 : a ≠ it) (e3 : ∀ p ∈ frs, p.1 ≠ a) : a ∉ (((L, oL) :: frs) ++ [(it, ri)]).map (·.1) := fun q => by
  obtain ⟨p, hp, rfl⟩ := List.mem_map.mp q
  exact hid_cases (P := fun r => r.1 ≠ p.1) (Ne.symm e1) e3 (Ne.symm e2) p hp rfl
section
variable {α : Type} {a b c d e f g p : α} {r : List α}
theorem t4 (h : p ∈ r) : p ∈ a :: b :: c :: d :: r := .tail _ (.tail _ (.tail _ (.tail _ h)))
theorem t5 (h : p ∈ r) : p ∈ a :: b :: c :: d :: e :: r := .tail _ (t4 h)
theorem t6 (h : p ∈ r) : p ∈ a :: b :: c :: d :: e :: f :: r := .tail _ (t5 h)
theorem t7 (h : p ∈ r) : p ∈ a :: b :: c :: d :: e :: f :: g :: r := .tail _ (t6 h)
end

theorem back_call {prog : Program} {w : World} {A : Around} {s : Shared} {R : Result → Shared → Prop} {K : Addr} {nn : Nat} {dv : List Value} {col : List Str} {frs : List (Addr × Obj)} {outer : List Env}
    (O : Ok w ((frs ++ [tabP]).map (·.1)) s.heap) (hfoot : ∀ p ∈ frs ++ [tabP], s.heap.get? p.1 = some p.2) (hfr : A.frames = some outer) (hf : FrsAt outer frs) (hap : ∀ p ∈ frs, p.1 ≠ 124)
    (hK : s.heap.get? K = some (listOf dv.toArray nn)) (hKf : K ∉ (frs ++ [tabP]).map (·.1)) (hs : StrsAre dv col) (hcol : ∀ x ∈ col, x = Str.ofString "" ∨ ∃ c, x = ⟨#[c]⟩) (h4 : 4 ≤ col.length) (hN : col.length < 60) (hmk : Str.ofString "" ∈ col) (rm : Room A 14)
    (post : ∀ h' tk t frs' ps s1 s2, SameFrs frs frs' → Keeps ((frs ++ [tabP]).map (·.1)) s.heap h' → (∀ p ∈ frs', h'.get? p.1 = some p.2) → h'.get? 124 = some (tabObj ps) → Halves (keyN col) col.length s1 s2 →
      R (.ok (.ret (.str (textAt (ordOf col.length s1 s2) col (col.idxOf (Str.ofString "")) (col.length - 1)) t))) { s with heap := h', toks := tk }) :
    codeAny (model prog w) A (.call (.ref 127) ⟨[.ref K], []⟩) R s := by
  refine enterC (foot := frs ++ [tabP]) (binds := [("column", .ref K)]) O hfoot (by k_is) (by k_is) rm (BindsTo.of_eq rfl) rfl (by decide) ?_
  intro g L h₁ tk₁ cells B hg F N₀ hcells hfresh
  obtain ⟨oo, oc, rfl, hoo, hoc⟩ := CellsAre.two hcells
  clear hcells
  replace hoo : oo.data = .cell none := hoo
  replace hoc : oc.data = .cell (some (.ref K)) := hoc
  obtain ⟨m, Fm, em⟩ := fr_any F
  clear em F
  have hgK : g.get? K = some (listOf dv.toArray nn) := hg K _ hK hKf
  have N1 : News g L h₁ ((L + 2, oo) :: (L + 1, oc) :: tabP :: frs) := fun p hp => N₀ p (by
    show p ∈ [(L + 2, oo), (L + 1, oc)] ++ (frs ++ [tabP])
    simp only [List.mem_append, List.mem_cons, List.not_mem_nil, or_false] at hp ⊢
    rcases hp with h | h | h | h <;> simp [h])
  have hcl1 : s.heap.get? (L + 1) = none := hfresh (L + 1, oc) (.tail _ (.head _))
  have hcl2 : s.heap.get? (L + 2) = none := hfresh (L + 2, oo) (.head _)
  have old : ∀ p ∈ tabP :: frs, s.heap.get? p.1 = some p.2 := fun p hp => hfoot p (by
    simp only [List.mem_append, List.mem_cons, List.not_mem_nil, or_false] at hp ⊢
    rcases hp with h | h <;> simp [h])
  have olds : ∀ p ∈ tabP :: frs, p.1 ≠ L + 1 ∧ p.1 ≠ L + 2 := fun p hp => by
    have h1 := old p hp
    exact ⟨fun e => (by rw [e, hcl1] at h1; cases h1), fun e => (by rw [e, hcl2] at h1; cases h1)⟩
  clear N₀ hfresh hcl1 hcl2
  have hdl : dv.length = col.length := hs.length
  with_reducible refine wpAny_execs_cons ?_
  refine wpAny_Assign_Name ?_
  refine Call_ ?_
  (refine' nmB ?kF ?kB ?ke ?kv ?kn ?_; (case kF => assumption); (case kB => assumption); (case ke => k_is); (case kv => boot_by_name); (case kn => decide))
  refine PyProof.Rows.callWith_builtin1 ?_
  refine args_cons ?_
  (refine' nameX_C ?kN ?kc ?km ?kd ?_; (case kN => assumption); (case kc => rfl); (case km => first | exact .head _ | exact .tail _ (.head _) | exact .tail _ (.tail _ (.head _)) | simp); (case kd => assumption))
  refine args_nil ?_
  refine len_list (isList_of (Fm.keep _ _ hgK)) (by rw [List.size_toArray]; lia) ?_
  rw [List.size_toArray, hdl]
  (refine' stM ?kF ?kN ?_; (case kF => assumption); (case kN => assumption); intro _ _ _ _)
  with_reducible refine wpAny_execs_cons ?_
  refine wpAny_Assign_Name ?_
  refine Call_kw ?_
  (refine' nmK ?kF ?kB ?ke ?_; (case kF => assumption); (case kB => assumption); (case ke => k_is))
  rename_i h2 tk2 F2 N2
  refine callWith_KW (K := hd.heap_39 w.params) (h₀ := g) B.X (by k_is) rfl ?_
  refine args_cons ?_
  with_reducible refine wpAny_BinOp ?_
  (refine' ldM ?kF ?kv ?_; (case kF => assumption); (case kv => exact mput_same))
  with_reducible refine wpAny_Constant_int ?_
  with_reducible refine fdiv2 fun tkd tkd' => ?_
  refine args_cons ?_
  refine Call_ ?_
  (refine' nmB ?kF ?kB ?ke ?kv ?kn ?_; (case kF => assumption); (case kB => assumption); (case ke => k_is); (case kv => boot_by_name); (case kn => decide))
  refine PyProof.Rows.callWith_builtin1 ?_
  refine args_cons ?_
  refine Call_ ?_
  (refine' nmB ?kF ?kB ?ke ?kv ?kn ?_; (case kF => assumption); (case kB => assumption); (case ke => k_is); (case kv => boot_by_name); (case kn => decide))
  refine Pv.callWith_type1 ?_
  refine args_cons ?_
  with_reducible refine wpAny_Constant_int ?_
  refine args_cons ?_
  with_reducible refine wpAny_UnaryOp ?_
  (refine' ldM ?kF ?kv ?_; (case kF => assumption); (case kv => exact mput_same))
  with_reducible refine PyProof.Rows.neg_int ?_
  refine args_cons ?_
  with_reducible refine wpAny_UnaryOp ?_
  with_reducible refine wpAny_Constant_int ?_
  with_reducible refine PyProof.Rows.neg_int ?_
  refine args_nil ?_
  refine rangeDown_led F2 N2 ?_
  intro r h3 tk3 t3 u3 v3 F3 N3 ner
  have hrs : Builtin.Range.rangeSize 0 (-(col.length : Int)) (-1) = col.length := rangeDown_size _
  refine args_nil ?_
  refine iter_range_call (N3 _ (.head _)).1 (small_down hN) hrs ?_
  refine args_nil ?_
  try dsimp only
  have hit3 : ∀ p ∈ (r, rgObj 0 (-(col.length : Int)) (-1) t3 u3 v3) :: (L + 2, oo) :: (L + 1, oc) :: tabP :: frs, p.1 ≠ h3.objs.size := fresh_ne N3
  have F4 := F3.push (riObj 0 col.length (-1))
  have N4 := News.push F3 N3 (riObj 0 col.length (-1))
  generalize h3.objs.size = it at hit3 N4 ⊢
  have N5 : News g L _ (tabP :: (it, riObj 0 col.length (-1)) :: (L + 2, oo) :: (L + 1, oc) :: frs) := nwRe N4 [4, 0, 2, 3] 5
  have off5 : ∀ p ∈ (it, riObj 0 col.length (-1)) :: (L + 2, oo) :: (L + 1, oc) :: frs, p.1 ≠ 124 := fun p hp => by
    simp only [List.mem_cons] at hp
    rcases hp with rfl | rfl | rfl | hp
    · exact Ne.symm (hit3 tabP (.tail _ (.tail _ (.tail _ (.head _)))))
    · exact Ne.symm (olds tabP (.head _)).2
    · exact Ne.symm (olds tabP (.head _)).1
    · exact hap p hp
  refine kwAll_cons (mk_lambda F4 B N5 off5 trivial rfl rfl ?_)
  intro f1 c1 oc1 pm1 ct1 h5 tk5 F5 N6 cr1 l1 l2 l3
  refine kwAll_nil ?_
  refine ⟨in_of F5 B, ?_⟩
  obtain ⟨oL, hoL, hfL⟩ := frs_up F5 hf
  have hitf : ∀ p ∈ frs, p.1 ≠ it := fun p hp => hit3 p (by simp [hp])
  have hapL : ∀ p ∈ (L, oL) :: frs, p.1 ≠ it := fun p hp => by
    rcases List.mem_cons.mp hp with rfl | hp
    · exact Ne.symm (N5 (it, riObj 0 col.length (-1)) (.tail _ (.head _))).2.1
    · exact hitf p hp
  have hhid : ∀ p ∈ ((L, oL) :: frs) ++ [(it, riObj 0 col.length (-1))], p.1 = L ∨ (p.1 ∈ ((124, tabObj (#[] ++ #[rawInt 196, rawInt 62, .ref c1])) :: (it, riObj 0 col.length (-1)) :: (L + 2, oo) :: (L + 1, oc) :: frs).map (·.1) ∧ p.1 ≠ L + 1) := hid_cases (.inl rfl) (fun p hp => .inr ⟨List.mem_map_of_mem (t4 hp), (olds p (.tail _ hp)).1⟩) (.inr ⟨.tail _ (.head _), Ne.symm (hit3 (L + 1, oc) (.tail _ (.tail _ (.head _))))⟩)
  obtain ⟨gK, hKey, hKs, hKh⟩ := key_here (prog := prog) (dom := fun e => ∃ i : Nat, i < col.length ∧ e = 0 + i * (-1)) (hidden := ((L, oL) :: frs) ++ [(it, riObj 0 col.length (-1))]) B F5 N6 cr1 (.tail _ (.tail _ (.tail _ (.head _)))) hoc hgK hs hcol hN hhid
    (fun p hp => by rcases List.mem_cons.mp hp with rfl | hp; exact l1; exact l2 p hp) l3 (fun e ⟨i, h1, h2⟩ => by lia)
  refine wpAny_call (ns_call (frs := (L, oL) :: frs) (x := 0) (step := -1) (ok_frame B F5 N6 (in_rest hhid)) (hid_cases hoL (fun p hp => (N6 p (t6 hp)).1) (N6 (it, riObj 0 col.length (-1)) (.tail _ (.tail _ (.tail _ (.head _))))).1) (Around.frames_deeper hfr) (hfL _ (by intro q; cases q) rfl) hapL hKey hKs hKh (by lia) (by lia) hN (Room.deeper (k := 12) (rm.less (by lia))) ?_)
  intro h6 tk6 H1 cc1 vs1 s1 frs1 sf1 K1 fr1 hH1 newH1 offH1 ints1 len1 pw1 lt1 out1
  obtain ⟨oL', frs2, rfl, hdL, sf2⟩ : ∃ oL' frs2, frs1 = (L, oL') :: frs2 ∧ oL'.data = oL.data ∧ SameFrs frs frs2 := by
    cases sf1 with | cons hd sf => exact ⟨_, _, rfl, hd, sf⟩
  have F6 := fr_afterL F5 N6 (in_rest hhid) K1 hoL (fr1 _ (.head _)) hdL
  have hfrs2 : ∀ p ∈ frs2, ∃ q ∈ frs, q.1 = p.1 := fun p hp => by
    have : p.1 ∈ frs.map (·.1) := by rw [← sf2.addrs]; exact List.mem_map_of_mem hp
    obtain ⟨q, hq, e⟩ := List.mem_map.mp this
    exact ⟨q, hq, e⟩
  have hnhid : ∀ a, a ≠ L → a ≠ it → (∀ p ∈ frs, p.1 ≠ a) → a ∉ (((L, oL) :: frs) ++ [(it, riObj 0 col.length (-1))]).map (·.1) := fun _ => not_hid
  have N7 : News g L h6 ((124, tabObj (#[] ++ #[rawInt 196, rawInt 62, .ref c1])) :: (L + 2, oo) :: (L + 1, oc) :: (H1, listOf vs1.toArray cc1) :: frs2) := news_after F5 N6 K1 fun p hp => by
    simp only [List.mem_cons] at hp
    rcases hp with rfl | rfl | rfl | rfl | hp
    · exact .inl ⟨by exact .tail _ (.tail _ (.head _)), hnhid 124 (N5 tabP (.head _)).2.1 (hit3 tabP (.tail _ (.tail _ (.tail _ (.head _))))) hap⟩
    · exact .inl ⟨by exact .tail _ (.tail _ (.tail _ (.tail _ (.head _)))), hnhid _ (N5 (L + 2, oo) (.tail _ (.tail _ (.head _)))).2.1 (hit3 (L + 2, oo) (.tail _ (.head _))) fun p hp => (olds p (.tail _ hp)).2⟩
    · exact .inl ⟨by exact .tail _ (.tail _ (.tail _ (.tail _ (.tail _ (.head _))))), hnhid _ (N5 (L + 1, oc) (.tail _ (.tail _ (.tail _ (.head _))))).2.1 (hit3 (L + 1, oc) (.tail _ (.tail _ (.head _)))) fun p hp => (olds p (.tail _ hp)).1⟩
    · exact .inr ⟨hH1, newH1.elim (fun e => .inr e) fun e => .inl (by rw [e]; simp)⟩
    · obtain ⟨q, hq, e⟩ := hfrs2 p hp
      exact .inr ⟨fr1 p (.tail _ hp), .inl (by rw [← e]; exact List.mem_map_of_mem (by simp [hq]))⟩
  have hH1n : ∀ p ∈ (124, tabObj (#[] ++ #[rawInt 196, rawInt 62, .ref c1])) :: (L + 2, oo) :: (L + 1, oc) :: frs2, p.1 ≠ H1 := fun p hp => by
    have e : p ∉ frs2 → h5.get? p.1 = some p.2 ∧ p.1 ≠ it := fun hn => by
      simp only [List.mem_cons] at hp
      rcases hp with rfl | rfl | rfl | hp
      · exact ⟨(N6 _ (.tail _ (.tail _ (.head _)))).1, hit3 tabP (.tail _ (.tail _ (.tail _ (.head _))))⟩
      · exact ⟨(N6 _ (.tail _ (.tail _ (.tail _ (.tail _ (.head _)))))).1, hit3 (L + 2, oo) (.tail _ (.head _))⟩
      · exact ⟨(N6 _ (.tail _ (.tail _ (.tail _ (.tail _ (.tail _ (.head _))))))).1, hit3 (L + 1, oc) (.tail _ (.tail _ (.head _)))⟩
      · exact absurd hp hn
    by_cases hp2 : p ∈ frs2
    · exact offH1 p (.tail _ hp2)
    · intro q
      obtain ⟨e1, e2⟩ := e hp2
      rcases newH1 with e3 | e3
      · rw [← q] at e3; rw [e1] at e3; cases e3
      · exact e2 (q.trans e3)
  have olds2 : ∀ p ∈ frs2, p.1 ≠ L + 1 ∧ p.1 ≠ L + 2 ∧ p.1 ≠ 124 := fun p hp => by
    obtain ⟨q, hq, e⟩ := hfrs2 p hp
    exact e ▸ ⟨(olds q (.tail _ hq)).1, (olds q (.tail _ hq)).2, hap q hq⟩
  clear N1 N2 N3 N4 N5 N6 F2 F3 F4 F5 Fm
  try dsimp only
  (refine' stM ?kF ?kN ?_; (case kF => assumption); (case kN => assumption); intro _ _ _ _)
  with_reducible refine wpAny_execs_cons ?_
  refine wpAny_Assign_Name ?_
  rename_i h7 tk7 F7 N8
  clear N7 F6 hKh hKs hKey fr1 K1 hhid hnhid
  refine Call_kw ?_
  (refine' nmK ?kF ?kB ?ke ?_; (case kF => assumption); (case kB => assumption); (case ke => k_is))
  refine callWith_KW (K := hd.heap_39 w.params) (h₀ := g) B.X (by k_is) rfl ?_
  refine args_cons ?_
  with_reducible refine wpAny_BinOp ?_
  (refine' ldM ?kF ?kv ?_; (case kF => assumption); (case kv => exact mput_ne (by decide) mput_same))
  with_reducible refine wpAny_BinOp ?_
  (refine' ldM ?kF ?kv ?_; (case kF => assumption); (case kv => exact mput_ne (by decide) mput_same))
  with_reducible refine wpAny_Constant_int ?_
  with_reducible refine fdiv2 fun tke tke' => ?_
  with_reducible refine PyProof.Rows.sub_int ?_
  refine args_cons ?_
  refine Call_ ?_
  (refine' nmB ?kF ?kB ?ke ?kv ?kn ?_; (case kF => assumption); (case kB => assumption); (case ke => k_is); (case kv => boot_by_name); (case kn => decide))
  refine PyProof.Rows.callWith_builtin1 ?_
  refine args_cons ?_
  refine Call_ ?_
  (refine' nmB ?kF ?kB ?ke ?kv ?kn ?_; (case kF => assumption); (case kB => assumption); (case ke => k_is); (case kv => boot_by_name); (case kn => decide))
  refine Pv.callWith_type1 ?_
  refine args_cons ?_
  with_reducible refine wpAny_BinOp ?_
  with_reducible refine wpAny_Constant_int ?_
  (refine' ldM ?kF ?kv ?_; (case kF => assumption); (case kv => exact mput_ne (by decide) mput_same))
  with_reducible refine PyProof.Rows.sub_int ?_
  refine args_cons ?_
  with_reducible refine wpAny_Constant_int ?_
  refine args_nil ?_
  rw [show (col.length : Int) - ((col.length / 2 : Nat) : Int) = ((col.length - col.length / 2 : Nat) : Int) by with_reducible exact ar35]
  refine range2_led F7 N8 ?_
  intro r2 h8 tk8 t8 u8 v8 F8 N9 ner2
  have hsm2 : Builtin.Range.small (1 - (col.length : Int)) 1 1 = true := small_one (by lia) (by lia) (by lia) (by lia)
  have hrs2 : Builtin.Range.rangeSize (1 - (col.length : Int)) 1 1 = col.length := by rw [rangeSize_one]; split <;> lia
  refine args_nil ?_
  refine iter_range_call (N9 _ (.head _)).1 hsm2 hrs2 ?_
  refine args_nil ?_
  try dsimp only
  have hit8 := fresh_ne N9
  have F9 := F8.push (riObj (1 - (col.length : Int)) col.length 1)
  have N10 := News.push F8 N9 (riObj (1 - (col.length : Int)) col.length 1)
  generalize h8.objs.size = it2 at hit8 N10 ⊢
  have N11 : News g L _ ((124, tabObj (#[] ++ #[rawInt 196, rawInt 62, .ref c1])) :: (it2, riObj (1 - (col.length : Int)) col.length 1) :: (L + 2, oo) :: (L + 1, oc) :: (H1, listOf vs1.toArray cc1) :: frs2) := nwRe N10 [2, 0, 3, 4, 5] 6
  have off11 : ∀ p ∈ (it2, riObj (1 - (col.length : Int)) col.length 1) :: (L + 2, oo) :: (L + 1, oc) :: (H1, listOf vs1.toArray cc1) :: frs2, p.1 ≠ 124 := fun p hp => by
    simp only [List.mem_cons] at hp
    rcases hp with rfl | rfl | rfl | rfl | hp
    · exact Ne.symm (hit8 (124, tabObj (#[] ++ #[rawInt 196, rawInt 62, .ref c1])) (.tail _ (.head _)))
    · exact Ne.symm (olds tabP (.head _)).2
    · exact Ne.symm (olds tabP (.head _)).1
    · exact Ne.symm (hH1n _ (.head _))
    · exact (olds2 p hp).2.2
  refine kwAll_cons (mk_lambda F9 B N11 off11 trivial rfl rfl ?_)
  intro f2 c2 oc2 pm2 ct2 h9 tk9 F10 N12 cr2 l4 l5 l6
  refine kwAll_nil ?_
  refine ⟨in_of F10 B, ?_⟩
  obtain ⟨oM, hoM, hfM⟩ := frs_up F10 (hf.same sf2)
  have hH1it : H1 ≠ it2 := hit8 (H1, listOf vs1.toArray cc1) (.tail _ (.tail _ (.tail _ (.tail _ (.head _)))))
  have hitf2 : ∀ p ∈ frs2, p.1 ≠ it2 := fun p hp => hit8 p (by simp [hp])
  have hapM : ∀ p ∈ (L, oM) :: frs2, p.1 ≠ it2 := fun p hp => by
    rcases List.mem_cons.mp hp with rfl | hp
    · exact Ne.symm (N11 (it2, riObj (1 - (col.length : Int)) col.length 1) (.tail _ (.head _))).2.1
    · exact hitf2 p hp
  have hhid : ∀ p ∈ ((L, oM) :: frs2) ++ [(it2, riObj (1 - (col.length : Int)) col.length 1)], p.1 = L ∨ (p.1 ∈ ((124, tabObj ((#[] ++ #[rawInt 196, rawInt 62, .ref c1]) ++ #[rawInt 197, rawInt 70, .ref c2])) :: (it2, riObj (1 - (col.length : Int)) col.length 1) :: (L + 2, oo) :: (L + 1, oc) :: (H1, listOf vs1.toArray cc1) :: frs2).map (·.1) ∧ p.1 ≠ L + 1) := hid_cases (.inl rfl) (fun p hp => .inr ⟨List.mem_map_of_mem (t5 hp), (olds2 p hp).1⟩) (.inr ⟨.tail _ (.head _), Ne.symm (hit8 (L + 1, oc) (.tail _ (.tail _ (.tail _ (.head _)))))⟩)
  obtain ⟨gK2, hKey, hKs, hKh⟩ := key_here (prog := prog) (dom := fun e => ∃ i : Nat, i < col.length ∧ e = (1 - (col.length : Int)) + i * 1) (hidden := ((L, oM) :: frs2) ++ [(it2, riObj (1 - (col.length : Int)) col.length 1)]) B F10 N12 cr2 (.tail _ (.tail _ (.tail _ (.head _)))) hoc hgK hs hcol hN hhid
    (fun p hp => by rcases List.mem_cons.mp hp with rfl | hp; exact l4; exact l5 p hp) l6 (fun e ⟨i, h1, h2⟩ => by lia)
  refine wpAny_call (nl_call (frs := (L, oM) :: frs2) (x := 1 - (col.length : Int)) (step := 1) (ok_frame B F10 N12 (in_rest hhid)) (hid_cases hoM (fun p hp => (N12 p (t7 hp)).1) (N12 (it2, riObj (1 - (col.length : Int)) col.length 1) (.tail _ (.tail _ (.tail _ (.head _))))).1) (Around.frames_deeper hfr) (hfM _ (by intro q; cases q) rfl) hapM hKey hKs hKh (by lia) (by with_reducible exact ar34 (by assumption)) hN (Room.deeper (k := 12) (rm.less (by lia))) ?_)
  intro h10 tk10 H2 cc2 vs2 s2 frs4 sf3 K2 fr2 hH2 newH2 offH2 ints2 len2 pw2 lt2 out2
  obtain ⟨oM', frs3, rfl, hdM, sf4⟩ : ∃ oM' frs3, frs4 = (L, oM') :: frs3 ∧ oM'.data = oM.data ∧ SameFrs frs2 frs3 := by
    cases sf3 with | cons hd sf => exact ⟨_, _, rfl, hd, sf⟩
  have F11 := fr_afterL F10 N12 (in_rest hhid) K2 hoM (fr2 _ (.head _)) hdM
  have hfrs3 : ∀ p ∈ frs3, ∃ q ∈ frs2, q.1 = p.1 := fun p hp => by
    have : p.1 ∈ frs2.map (·.1) := by rw [← sf4.addrs]; exact List.mem_map_of_mem hp
    obtain ⟨q, hq, e⟩ := List.mem_map.mp this
    exact ⟨q, hq, e⟩
  have hnhid : ∀ a, a ≠ L → a ≠ it2 → (∀ p ∈ frs2, p.1 ≠ a) → a ∉ (((L, oM) :: frs2) ++ [(it2, riObj (1 - (col.length : Int)) col.length 1)]).map (·.1) := fun _ => not_hid
  have N13 : News g L h10 ((L + 2, oo) :: (124, tabObj ((#[] ++ #[rawInt 196, rawInt 62, .ref c1]) ++ #[rawInt 197, rawInt 70, .ref c2])) :: (L + 1, oc) :: (H1, listOf vs1.toArray cc1) :: (H2, listOf vs2.toArray cc2) :: frs3) := news_after F10 N12 K2 fun p hp => by
    simp only [List.mem_cons] at hp
    rcases hp with rfl | rfl | rfl | rfl | rfl | hp
    · exact .inl ⟨by exact .tail _ (.tail _ (.tail _ (.tail _ (.head _)))), hnhid _ (N11 (L + 2, oo) (.tail _ (.tail _ (.head _)))).2.1 (hit8 (L + 2, oo) (.tail _ (.tail _ (.head _)))) fun p hp => (olds2 p hp).2.1⟩
    · exact .inl ⟨by exact .tail _ (.tail _ (.head _)), hnhid 124 (N11 _ (.head _)).2.1 (Ne.symm (off11 (it2, _) (.head _))) fun p hp => (olds2 p hp).2.2⟩
    · exact .inl ⟨by exact .tail _ (.tail _ (.tail _ (.tail _ (.tail _ (.head _))))), hnhid _ (N11 (L + 1, oc) (.tail _ (.tail _ (.tail _ (.head _))))).2.1 (hit8 (L + 1, oc) (.tail _ (.tail _ (.tail _ (.head _))))) fun p hp => (olds2 p hp).1⟩
    · exact .inl ⟨by exact .tail _ (.tail _ (.tail _ (.tail _ (.tail _ (.tail _ (.head _)))))), hnhid _ (N11 (H1, _) (.tail _ (.tail _ (.tail _ (.tail _ (.head _)))))).2.1 hH1it fun p hp => hH1n p (by simp [hp])⟩
    · exact .inr ⟨hH2, newH2.elim (fun e => .inr e) fun e => .inl (by rw [e]; simp)⟩
    · obtain ⟨q, hq, e⟩ := hfrs3 p hp
      exact .inr ⟨fr2 p (.tail _ hp), .inl (by rw [← e]; exact List.mem_map_of_mem (by simp [hq]))⟩
  have hoff : ∀ p ∈ (124, tabObj ((#[] ++ #[rawInt 196, rawInt 62, .ref c1]) ++ #[rawInt 197, rawInt 70, .ref c2])) :: (L + 1, oc) :: (H1, listOf vs1.toArray cc1) :: (H2, listOf vs2.toArray cc2) :: frs3, p.1 ≠ L + 2 := fun p hp => by
    simp only [List.mem_cons] at hp
    rcases hp with rfl | rfl | rfl | rfl | hp
    · exact (olds tabP (.head _)).2
    · exact fun e => absurd e (Nat.ne_of_lt (Nat.lt_succ_self _))
    · exact Ne.symm (hH1n (L + 2, oo) (.tail _ (.head _)))
    · intro q
      have e1 := (N12 (L + 2, oo) (.tail _ (.tail _ (.tail _ (.tail _ (.head _)))))).1
      rcases newH2 with e | e
      · have e : h9.get? H2 = none := e
        rw [show H2 = L + 2 from q] at e
        rw [e] at e1; cases e1
      · exact hit8 (L + 2, oo) (.tail _ (.tail _ (.head _))) (q.symm.trans e)
    · obtain ⟨q, hq, e⟩ := hfrs3 p hp
      exact e ▸ (olds2 q hq).2.1
  have old3 : ∀ p ∈ frs3, h10.get? p.1 = some p.2 := fun p hp => fr2 p (.tail _ hp)
  have sf := sf2.trans sf4
  clear N8 N9 N10 N11 N12 F7 F8 F9 F10 hKh hKs hKey fr2 K2 hhid hnhid
  refine stC F11 N13 hoff rfl hoo ?_
  intro h11 oo' F12 N14 hoo'
  clear F11 N13 hoo
  have ek1 : (fun j : Nat => keyN col (-(0 + (j : Int) * -1)).toNat) = keyN col := funext fun j => congrArg (keyN col) (by lia)
  have ek2 : (fun j : Nat => -keyN col (-(1 - (col.length : Int) + (j : Int) * 1)).toNat) = fun j => -keyN col (col.length - 1 - j) := funext fun j => congrArg (fun x => -keyN col x) (by lia)
  have H : Halves (keyN col) col.length s1 s2 := ⟨len1, ek1 ▸ pw1, lt1, fun j hj b hb hn => ek1 ▸ out1 j hj b hb hn, len2, ek2 ▸ pw2, lt2, fun j hj b hb hn => ek2 ▸ out2 j hj b hb hn⟩
  clear pw1 out1 pw2 out2 ek1 ek2
  have hv1 : vs1.length = s1.length := by rw [ints1.length, List.length_map]
  have hv2 : vs2.length = s2.length := by rw [ints2.length, List.length_map]
  with_reducible refine wpAny_execs_cons ?_
  refine wpAny_Assign_Name ?_
  with_reducible refine wpAny_BinOp ?_
  (refine' ListComp_b ?cl ?kk ?nn ?_; (case cl => with_unfolding_all rfl); (case kk => rfl); (case nn => decide))
  (refine' ldM ?kF ?kv ?_; (case kF => assumption); (case kv => exact mput_same))
  refine comp_over_list (vs := vs1) (fun i ys _ => IntsAre ys ((s1.map fun (j : Nat) => (j : Int)).take i)) rm.hand F12 N14 (isList_of (N14 _ (.tail _ (.tail _ (.tail _ (.head _))))).1) (by lia) .nil ?_ ?_
  · intro g' C D I oI i ys m' nx h' tk' v hg1 hg2 hi hv hJ F' N' off hID
    obtain ⟨z, tz, rfl, hst⟩ := few_turn ints1 hv
    refine tests_none (if_tt (wp_opq fun Q hQ => ?_))
    with_reducible refine wpAny_UnaryOp ?_
    (refine' ldQ ?kF ?kv ?_; (case kF => assumption); (case kv => exact mput_same))
    with_reducible refine PyProof.Rows.neg_int ?_
    exact hQ _ _ ⟨h', _, _, nx, rfl, F', N', off, hst _ _ hJ⟩
  refine done_value ?_
  intro O1 h12 tk12 ys1 nx1 F13 N15 offO1 ap1 hJ1
  rw [List.take_of_length_le (by rw [List.length_map]; lia)] at hJ1
  have N16 : News g L h12 ((O1, lst ys1) :: (L + 2, oo') :: (124, tabObj ((#[] ++ #[rawInt 196, rawInt 62, .ref c1]) ++ #[rawInt 197, rawInt 70, .ref c2])) :: (L + 1, oc) :: (H2, listOf vs2.toArray cc2) :: frs3) := nwRe (nwMid N15) [0, 1, 2, 3, 5] 6
  clear N15 N14 F12 offO1 ap1
  skip
  (refine' ListComp_b ?cl ?kk ?nn ?_; (case cl => with_unfolding_all rfl); (case kk => rfl); (case nn => decide))
  refine Call_ ?_
  (refine' nmB ?kF ?kB ?ke ?kv ?kn ?_; (case kF => assumption); (case kB => assumption); (case ke => k_is); (case kv => boot_by_name); (case kn => decide))
  refine Pv.callWith_type1 ?_
  refine args_cons ?_
  with_reducible refine wpAny_Constant_int ?_
  refine args_cons ?_
  with_reducible refine wpAny_BinOp ?_
  refine Call_ ?_
  (refine' nmB ?kF ?kB ?ke ?kv ?kn ?_; (case kF => assumption); (case kB => assumption); (case ke => k_is); (case kv => boot_by_name); (case kn => decide))
  refine PyProof.Rows.callWith_builtin1 ?_
  refine args_cons ?_
  (refine' nameX_C ?kN ?kc ?km ?kd ?_; (case kN => assumption); (case kc => rfl); (case km => first | exact .head _ | exact .tail _ (.head _) | exact .tail _ (.tail _ (.head _)) | simp); (case kd => assumption))
  refine args_nil ?_
  refine len_list (isList_of (N16 _ (.tail _ (.tail _ (.tail _ (.tail _ (.head _)))))).1) (by rw [List.size_toArray]; lia) ?_
  rw [List.size_toArray, hv2]
  with_reducible refine wpAny_Constant_int ?_
  with_reducible refine PyProof.Rows.add_int ?_
  refine args_nil ?_
  refine range2_led F13 N16 ?_
  intro r3 h13 tk13 t13 u13 v13 F14 N17 ner3
  rw [show (s2.length : Int) + 1 = 1 + ((s2.length : Nat) : Int) by lia] at N17
  have hv2s : vs2.length < 2 ^ 40 := by lia
  have hmH2 : (H2, listOf vs2.toArray cc2) ∈ (r3, rgObj 1 (1 + (s2.length : Int)) 1 t13 u13 v13) :: (O1, lst ys1) :: (L + 2, oo') :: (124, tabObj ((#[] ++ #[rawInt 196, rawInt 62, .ref c1]) ++ #[rawInt 197, rawInt 70, .ref c2])) :: (L + 1, oc) :: (H2, listOf vs2.toArray cc2) :: frs3 := by simp
  have hmoo : (L + 2, oo') ∈ (r3, rgObj 1 (1 + (s2.length : Int)) 1 t13 u13 v13) :: (O1, lst ys1) :: (L + 2, oo') :: (124, tabObj ((#[] ++ #[rawInt 196, rawInt 62, .ref c1]) ++ #[rawInt 197, rawInt 70, .ref c2])) :: (L + 1, oc) :: (H2, listOf vs2.toArray cc2) :: frs3 := by simp
  refine comp_over_range (a := 1) (n := s2.length) (fun i ys _ => IntsAre ys (((s2.map fun j => col.length - 1 - j).reverse.map fun (j : Nat) => (j : Int)).take i)) rm.hand F14 N17 (N17 _ (.head _)).1 (by lia) (by decide) (by decide) .nil ?_ ?_
  · intro g' C D I oI i ys m' nx h' tk' v hg1 hg2 hi hv hJ F' N' off hID
    obtain ⟨tv, rfl⟩ := hv
    have hgc : g'.get? (L + 2) = some oo' := hg2 (L + 2, oo') hmoo
    refine others_turn' ints2 lt2 hi fun z tz hz1 hz2 hz3 hst => ?_
    refine tests_none (if_tt (wp_opq fun Q hQ => ?_))
    with_reducible refine wpAny_UnaryOp ?_
    with_reducible refine Subscript_ ?_
    (refine' ldQC ?kF ?kc ?kg ?kd ?_; (case kF => assumption); (case kc => rfl); (case kg => assumption); (case kd => assumption))
    with_reducible refine wpAny_UnaryOp ?_
    (refine' ldQ ?kF ?kv ?_; (case kF => assumption); (case kv => exact mput_same))
    with_reducible refine PyProof.Rows.neg_int ?_
    refine item_ends (isList_of (F'.keep _ _ (hg2 (H2, listOf vs2.toArray cc2) hmH2))) hv2s hz1 hz2 hz3 ?_
    with_reducible refine PyProof.Rows.neg_int ?_
    exact hQ _ _ ⟨h', _, _, nx, rfl, F', N', off, hst _ _ hJ⟩
  refine done_value ?_
  intro O2 h14 tk14 ys2 nx2 F15 N18 offO2 ap2 hJ2
  rw [List.take_of_length_le (by simp)] at hJ2
  have N19 : News g L h14 ((O2, lst ys2) :: (O1, lst ys1) :: (L + 1, oc) :: (124, tabObj ((#[] ++ #[rawInt 196, rawInt 62, .ref c1]) ++ #[rawInt 197, rawInt 70, .ref c2])) :: frs3) := nwRe (nwMid N18) [0, 2, 5, 4] 7
  clear N18 N17 N16 F14 F13 offO2 ap2
  have hord : IntsAre (ys1 ++ ys2) ((ordOf col.length s1 s2).map fun (j : Nat) => (j : Int)) := by
    rw [ordOf, List.map_append]; exact hJ1.append hJ2
  have hol := H.length
  have hyl : ys1.length + ys2.length = col.length := by rw [← List.length_append, hord.length, List.length_map, hol]
  skip
  refine add_led F15 N19 (isList_of (N19 _ (.tail _ (.head _))).1) (isList_of (N19 _ (.head _)).1) (by lia) ?_
  intro O3 h15 F16 N20' offO3
  have N20 : News g L h15 ((L + 1, oc) :: (O3, listOf (ys1 ++ ys2).toArray 0) :: (124, tabObj ((#[] ++ #[rawInt 196, rawInt 62, .ref c1]) ++ #[rawInt 197, rawInt 70, .ref c2])) :: frs3) := nwRe N20' [3, 0, 4] 5
  clear N20' N19 F15 offO3
  (refine' stM ?kF ?kN ?_; (case kF => assumption); (case kN => assumption); intro _ _ _ _)
  with_reducible refine wpAny_execs_cons ?_
  refine wpAny_Assign_Name ?_
  refine Calls.Constant_str ?_
  (refine' stM ?kF ?kN ?_; (case kF => assumption); (case kN => assumption); intro _ _ _ _)
  with_reducible refine wpAny_execs_cons ?_
  refine wpAny_Assign_Name ?_
  refine MethodCall_ ?_
  (refine' nameX_C ?kN ?kc ?km ?kd ?_; (case kN => assumption); (case kc => rfl); (case km => first | exact .head _ | exact .tail _ (.head _) | exact .tail _ (.tail _ (.head _)) | simp); (case kd => assumption))
  refine getMethod_lst PySem.F.slot_list_index PySem.F.type_list_index (Fr.keep (by assumption) _ _ hgK) ?_
  try dsimp only
  refine callWith_method1 ?_
  refine args_cons ?_
  refine Calls.Constant_str ?_
  refine args_nil ?_
  refine index_list_strs (isList_of (Fr.keep (by assumption) _ _ hgK)) hs (by lia) hmk ?_
  (refine' stM ?kF ?kN ?_; (case kF => assumption); (case kN => assumption); intro _ _ _ _)
  with_reducible refine wpAny_execs_cons ?_
  refine wpAny_For ?_
  refine Call_ ?_
  (refine' nmB ?kF ?kB ?ke ?kv ?kn ?_; (case kF => assumption); (case kB => assumption); (case ke => k_is); (case kv => boot_by_name); (case kn => decide))
  refine Pv.callWith_type1 ?_
  refine args_cons ?_
  with_reducible refine wpAny_BinOp ?_
  (refine' ldM ?kF ?kv ?_; (case kF => assumption); (case kv => exact mput_ne (by decide) (mput_ne (by decide) (mput_ne (by decide) (mput_ne (by decide) mput_same)))))
  with_reducible refine wpAny_Constant_int ?_
  with_reducible refine PyProof.Rows.sub_int ?_
  refine args_nil ?_
  rename_i h16 tk16 F17 N21
  refine range1_led F17 N21 ?_
  intro r4 h17 tk17 t17 u17 v17 F18 N22 ner4
  have hsm4 : Builtin.Range.small 0 ((col.length : Int) - 1) 1 = true := small_one (by lia) (by lia) (by lia) (by lia)
  have hrs4 : Builtin.Range.rangeSize 0 ((col.length : Int) - 1) 1 = ((col.length - 1 : Nat) : Int) := by rw [rangeSize_one]; split <;> lia
  refine pyIter_range_led F18 N22 hsm4 hrs4 ?_
  intro I4 h18 F19 N23 ne4
  have hp0 : col.idxOf (Str.ofString "") < col.length := List.idxOf_lt_length_iff.mpr hmk
  refine for_ri (a := 0) (c := 1) (n := col.length - 1) (fun i m' nx => nx = (L + 1, oc) :: (O3, listOf (ys1 ++ ys2).toArray 0) :: (124, tabObj ((#[] ++ #[rawInt 196, rawInt 62, .ref c1]) ++ #[rawInt 197, rawInt 70, .ref c2])) :: frs3 ∧
      placeAt (ordOf col.length s1 s2) (col.idxOf (Str.ofString "")) i < col.length ∧ m' "order" = some (.ref O3) ∧ ∃ tp tt, m' "place" = some (.int (placeAt (ordOf col.length s1 s2) (col.idxOf (Str.ofString "")) i : Nat) tp) ∧
        m' "text" = some (.str (textAt (ordOf col.length s1 s2) col (col.idxOf (Str.ofString "")) i) tt)) rm.hand F19 N23 ne4 ⟨rfl, hp0, by exact mput_ne (by decide) (mput_ne (by decide) mput_same), _, _, by exact mput_same, by exact mput_ne (by decide) mput_same⟩ ?_ ?_
  · rintro i m' nx h tk t hi ⟨rfl, hlt, a3, tp, tt, a1, a2⟩ F N off
    refine wp_opq fun Q hQ => ?_
    obtain ⟨w1, ⟨t1, w2⟩, x, t2, w3, wx, w4⟩ := way_turn hord hol H.lt hs rfl hlt
    have b1 : ∀ n : Nat, (0 : Int) ≤ (n : Int) := fun n => Int.natCast_nonneg n
    have b2 : ∀ n : Nat, n < col.length → (n : Int) < 2 ^ 63 := fun n hn => by lia
    have hl1 := textAt_length hcol (order := ordOf col.length s1 s2) (p0 := col.idxOf (Str.ofString "")) (i + 1)
    have hl2 : (textAt (ordOf col.length s1 s2) col (col.idxOf (Str.ofString "")) i).length + x.length ≤ sizeLine := by
      rw [w4] at hl1
      have e : (textAt (ordOf col.length s1 s2) col (col.idxOf (Str.ofString "")) i ++ x).length = (textAt (ordOf col.length s1 s2) col (col.idxOf (Str.ofString "")) i).length + x.length := by
        show (_ ++ _ : Array Nat).size = _
        rw [Array.size_append]; rfl
      simp only [sizeLine]; lia
    with_reducible refine wpAny_execs_cons ?_
    refine wpAny_Assign_Name ?_
    with_reducible refine Subscript_ ?_
    (refine' ldM ?kF ?kv ?_; (case kF => assumption); (case kv => assumption))
    (refine' ldM ?kF ?kv ?_; (case kF => assumption); (case kv => assumption))
    refine item_listL (isList_of (N (O3, listOf (ys1 ++ ys2).toArray 0) (.tail _ (.tail _ (.head _)))).1) (b1 _) (b2 _ hlt) w2 ?_
    (refine' stM ?kF ?kN ?_; (case kF => assumption); (case kN => assumption); intro _ _ _ _)
    with_reducible refine wpAny_execs_cons ?_
    with_reducible refine wpAny_AugAssign_Name ?_
    rename_i h20 tk20 F20 N24
    refine wpAny_loadName_local rfl rfl F20.ns (by assumption) ?_
    with_reducible refine Subscript_ ?_
    (refine' nameX_C ?kN ?kc ?km ?kd ?_; (case kN => assumption); (case kc => rfl); (case km => first | exact .head _ | exact .tail _ (.head _) | exact .tail _ (.tail _ (.head _)) | simp); (case kd => assumption))
    (refine' ldM ?kF ?kv ?_; (case kF => assumption); (case kv => exact mput_same))
    refine item_listL (isList_of (F20.keep _ _ hgK)) (b1 _) (b2 _ w1) w3 ?_
    skip
    with_reducible refine iadd_str (fun t3 tk3 => ?_) hl2
    (refine' stM ?kF ?kN ?_; (case kF => assumption); (case kN => assumption); intro _ _ _ _)
    with_reducible refine wpAny_execs_nil ?_
    rename_i h21 tk21 F21 N25
    refine hQ _ _ ⟨.inl rfl, h21, _, _, _, rfl, F21, N25, off, rfl, w1, by assumption, _, _, by exact mput_ne (by decide) mput_same, by rw [w4]; exact mput_same⟩
  · rintro m' nx h tk ⟨rfl, hlt, a3, tp, tt, a1, a2⟩ F N
    with_reducible refine wpAny_execs_cons ?_
    with_reducible refine wpAny_Return_some ?_
    (refine' ldM ?kF ?kv ?_; (case kF => assumption); (case kv => assumption))
    exact post h tk _ frs3 _ s1 s2 sf (fun b o e nb => F.keep b o (hg b o e nb)) (fun p hp => (N p (by simp [hp])).1) (N (124, _) (.tail _ (.tail _ (.head _)))).1 H

theorem str_app (a b : Str) : a ++ b = ⟨a.cps ++ b.cps⟩ := rfl
theorem join_signs : ∀ cs : List Nat, Txt.join (Str.ofString "") (sgs cs) = ⟨cs.toArray⟩ := fun cs => by
  show Builtin.Str.glued (Str.ofString "") _ = _
  rw [StrLaws.glued_eq_join]
  induction cs with
  | nil => rfl
  | cons c cs ih =>
    cases cs with
    | nil => rfl
    | cons d cs =>
      show (⟨#[c]⟩ : Str) ++ Str.ofString "" ++ Str.join (Str.ofString "") (sgs (d :: cs)) = _
      rw [ih, str_app, str_app]
      show (⟨(#[c] ++ #[]) ++ (d :: cs).toArray⟩ : Str) = _
      simp
section
variable {prog : Program} {w : World} {A : Around} {E : Value → Shared → Prop} {s : Shared} {a b : Addr} {vs ws : List Value} {ys : List Str} {Q : Value → Shared → Prop}
theorem strs_eqAt (hi : StrsAre vs ys) (hj : StrsAre ws ys) : ∀ j (h1 : j < vs.toArray.size) (h2 : j < ws.toArray.size), PySem.SeqAt.EqAt A.in1 s vs.toArray[j] ws.toArray[j] true := fun j h1 h2 => by
  have h1' : j < vs.length := by simpa using h1
  have h2' : j < ws.length := by simpa using h2
  obtain ⟨y, hy⟩ : ∃ y, ys[j]? = some y := ⟨_, List.getElem?_eq_getElem (by rw [← hi.length]; exact h1')⟩
  obtain ⟨t, e1⟩ := hi.get _ _ hy
  obtain ⟨u, e2⟩ := hj.get _ _ hy
  rw [List.getElem?_eq_getElem h1'] at e1
  rw [List.getElem?_eq_getElem h2'] at e2
  injection e1 with e1; injection e2 with e2
  have := PySem.SeqAt.EqAt.str_str (A := A.in1) (s := s) y t y u
  rw [beq_self_eq_true] at this
  show PySem.SeqAt.EqAt A.in1 s vs[j] ws[j] true
  rw [e1, e2]; exact this
theorem eq_strs_led (ha : s.heap.IsList a vs.toArray) (hb : s.heap.IsList b ws.toArray) (hi : StrsAre vs ys) (hj : StrsAre ws ys) (hu : A.units < cLine) (h : Q (.bool true) s) : wpAny (model prog w) A (compareOp .Eq (.ref a) (.ref b)) Q E s := by
  refine PySem.SeqAt.eq_listAt (e := fun _ => true) ha hb (by simp [hi.length, hj.length]) hu (strs_eqAt hi hj) ?_
  rw [show (List.range vs.toArray.size).all (fun _ => true) = true by simp]; exact h
theorem ne_strs_led (ha : s.heap.IsList a vs.toArray) (hb : s.heap.IsList b ws.toArray) (hi : StrsAre vs ys) (hj : StrsAre ws ys) (hu : A.units < cLine) (h : Q (.bool false) s) : wpAny (model prog w) A (compareOp .NotEq (.ref a) (.ref b)) Q E s := by
  have := PySem.SeqAt.RcNeAt.lists (e := fun _ => true) ha hb (by simp [hi.length, hj.length]) hu (strs_eqAt hi hj) prog w E Q
  rw [show (!(List.range vs.toArray.size).all (fun _ => true)) = false by simp] at this
  exact this h
end

theorem signs_sum : ∀ cs : List Nat, ((sgs cs).map (·.length)).sum = cs.length
  | [] => rfl
  | c :: cs => by
    show 1 + ((sgs cs).map (·.length)).sum = cs.length + 1
    rw [signs_sum cs]; lia
theorem join_led {prog : Program} {w : World} {A : Around} {E : Value → Shared → Prop} {s : Shared} {D : Addr} {vs : List Value} {cs : List Nat} {t : Tok} {Q : Value → Shared → Prop} (hl : s.heap.IsList D vs.toArray) (hi : StrsAre vs (sgs cs)) (hlen : cs.length < 1000)
    (h : ∀ t' k, Q (.str ⟨cs.toArray⟩ t') { s with toks := k }) : wpAny (model prog w) A (call (.builtin "str.join") [.str (Str.ofString "") t, .ref D]) Q E s :=
  join_list hl hi (by
    rw [signs_sum]
    show cs.length + (sgs cs).length * 0 ≤ _
    lia) fun t' k => by rw [join_signs]; exact h t' k
theorem Rows.back' {cs ord s1 s2 : List Nat} {col : List Str} (R : Rows cs ord) (hc : col = ord.map (ahead cs)) (H : Halves (keyN col) col.length s1 s2) : textAt (ordOf col.length s1 s2) col (col.idxOf (Str.ofString "")) (col.length - 1) = ⟨cs.toArray⟩ := by
  have hl : col.length = cs.length + 1 := by rw [hc, List.length_map, R.length]
  rw [hl] at H ⊢
  subst hc
  exact R.back H
theorem Rows.signs {cs ord : List Nat} (R : Rows cs ord) : ∀ x ∈ ord.map (ahead cs), x = Str.ofString "" ∨ ∃ c, x = ⟨#[c]⟩ := fun x hx => by
  obtain ⟨k, hk, rfl⟩ := List.mem_map.mp hx
  cases k with
  | zero => exact .inl ahead_zero
  | succ k => exact .inr ⟨_, ahead_succ (by have := R.le hk; assumption)⟩
theorem Rows.hasMark {cs ord : List Nat} (R : Rows cs ord) : Str.ofString "" ∈ ord.map (ahead cs) := List.mem_map.mpr ⟨0, R.mem (Nat.zero_le _), ahead_zero⟩
theorem sgs_take {cs : List Nat} {i : Nat} (h : i < cs.length) : (sgs cs).take (i + 1) = (sgs cs).take i ++ [⟨#[cs.getD i 0]⟩] :=
  take_snoc (by rw [List.getElem?_map, List.getD_eq_getElem?_getD, List.getElem?_eq_getElem h]; rfl)
theorem getD_map {f : Nat → Nat} {cs : List Nat} {i : Nat} (h : i < cs.length) : (cs.map f).getD i 0 = f (cs.getD i 0) := by
  rw [List.getD_eq_getElem?_getD, List.getElem?_map, List.getD_eq_getElem?_getD, List.getElem?_eq_getElem h]; rfl
theorem getD_sgn {xs : List Int} {i : Nat} {z : Int} (h : xs[i]? = some z) : (xs.map sgn).getD i 0 = sgn z := by
  rw [List.getD_eq_getElem?_getD, List.getElem?_map, h]; rfl

theorem isList_of' {g h : Heap} {a : Addr} {its : Array Value} (k : ∀ b o, g.get? b = some o → h.get? b = some o) (x : g.IsList a its) : h.IsList a its := let ⟨o, e, r⟩ := x; ⟨o, k _ _ e, r⟩
theorem law_call {prog : Program} {w : World} {A : Around} {s : Shared} {R : Result → Shared → Prop} {a : Addr} {vs : List Value} {ns : List Int}
    (O : Ok w [124] s.heap) (hT : s.heap.get? 124 = some (tabObj #[])) (hfr : A.frames = some []) (hl : s.heap.IsList a vs.toArray) (hi : IntsAre vs ns) (hlen : ns.length ≤ 63) (rm : Room A 24)
    (post : ∀ h' tk ps, Keeps [124] s.heap h' → h'.get? 124 = some (tabObj ps) → R (.ok (.ret (.bool true))) { s with heap := h', toks := tk }) :
    codeAny (model prog w) A (.call (.ref 137) ⟨[.ref a], []⟩) R s := by
  refine enter (foot := [tabP]) (binds := [("script", .ref a)]) O (fun p hp => by rw [List.mem_singleton.mp hp]; exact hT) (by k_is) (by k_is) rm (BindsTo.of_eq rfl) (locs rfl) ?_
  intro g L h₁ B hg F N
  have m1 : (fun y => List.lookup y ([("script", Value.ref a)] : List (Str × Value)).reverse) "script" = some (.ref a) := rfl
  generalize (fun y => List.lookup y ([("script", Value.ref a)] : List (Str × Value)).reverse) = m at F m1
  have hga : g.IsList a vs.toArray := by
    obtain ⟨o, e, hc, r⟩ := hl
    refine ⟨o, hg a o e fun q => ?_, hc, r⟩
    rw [List.mem_singleton.mp q] at e
    rw [show s.heap.get? tabP.1 = _ from hT] at e
    cases e; cases hc
  with_reducible refine wpAny_execs_cons ?_
  refine wpAny_Assign_Name ?_
  refine MethodCall_ ?_
  refine Calls.Constant_str ?_
  with_reducible refine GM.join ?_
  try dsimp only
  refine callWith_method1 ?_
  refine args_cons ?_
  (refine' ListComp_b ?cl ?kk ?nn ?_; (case cl => with_unfolding_all rfl); (case kk => rfl); (case nn => decide))
  with_reducible refine wpAny_BinOp ?_
  with_reducible refine Subscript_ ?_
  (refine' ldM ?kF ?kv ?_; (case kF => assumption); (case kv => assumption))
  with_reducible refine wpAny_Slice ?_
  with_reducible refine evalPart_n ?_
  with_reducible refine evalPart_s ?_
  with_reducible refine wpAny_Constant_int ?_
  with_reducible refine evalPart_n ?_
  refine slice_led F N (isList_of' (F.keep) hga) .none (.int _ _) (by rw [hi.length]; lia) ?_
  intro D1 h2 F2 N2 ne2
  have i1 := kmk_upto hi (y := 8) (by decide)
  generalize (slicePick vs.toArray none (some 8) none).toList = us at i1 N2
  with_reducible refine List_ ?_
  refine args_cons ?_
  with_reducible refine wpAny_Constant_int ?_
  refine args_cons ?_
  with_reducible refine wpAny_Constant_int ?_
  refine args_cons ?_
  with_reducible refine wpAny_Constant_int ?_
  refine args_nil ?_
  refine newList_led F2 N2 (by simp) ?_
  intro D2 h3 F3 N3 ne3
  skip
  refine add_led F3 N3 (isList_of (N3 _ (.tail _ (.head _))).1) (isList_of (N3 _ (.head _)).1) (by rw [i1.length, List.length_take]; simp; lia) ?_
  intro D3 h4 F4 N4 ne4
  generalize hws : us ++ [Value.int 22 _, .int 14 _, .int 20 _] = ws at N4
  have i3 : IntsAre ws (ns.take 8 ++ [22, 14, 20]) := by rw [← hws]; exact i1.append (.cons _ _ (.cons _ _ (.cons _ _ .nil)))
  clear hws N3 N2 F3 F2 ne3 ne2
  have hxl : (ns.take 8 ++ [22, 14, 20]).length ≤ 11 ∧ 3 ≤ (ns.take 8 ++ [22, 14, 20]).length := by
    rw [List.length_append, List.length_take]; simp; lia
  generalize (ns.take 8 ++ [22, 14, 20] : List Int) = xs at i3 hxl
  have hwl : ws.length = xs.length := i3.length
  obtain ⟨cs, hcs⟩ : ∃ cs, cs = xs.map sgn := ⟨_, rfl⟩
  have hcl : cs.length = xs.length := by rw [hcs, List.length_map]
  skip
  refine comp_over_list (vs := ws) (fun i ys _ => StrsAre ys ((sgs cs).take i)) rm.hand F4 N4 (isList_of (N4 _ (.head _)).1) (by lia) .nil ?_ ?_
  · intro g' C D I oI i ys m' nx h' tk' v hg1 hg2 hi hv hJ F' N' off hID
    have B' := B.keeps hg1
    obtain ⟨z, tz, rfl, hz⟩ := i3.at i v hv
    have hst : (sgs cs).take (i + 1) = (sgs cs).take i ++ [⟨#[sgn z]⟩] := by rw [sgs_take (by lia), hcs, getD_sgn hz]
    refine tests_none (if_tt (wp_opq fun Q hQ => ?_))
    refine Call_ ?_
    (refine' nmKQ ?kF ?kB ?ke ?_; (case kF => assumption); (case kB => assumption); (case ke => k_is))
    (refine' callWith_K (Base.X (by assumption)) ?ke ?_; (case ke => k_is))
    refine args_cons ?_
    (refine' ldQ ?kF ?kv ?_; (case kF => assumption); (case kv => exact mput_same))
    refine args_nil ?_
    (refine ⟨in_of (by assumption) (by assumption), ?_⟩; try dsimp only [List.nil_append, List.cons_append])
    refine wpAny_call (sign_call (ok_of (foot := []) B' F' N' (fun _ q => nomatch q)) (Room.deeper (k := 4) (rm.less (by lia))) ?_)
    intro h'' tk'' t'' k''
    refine hQ _ _ ⟨h'', tk'', _, nx, rfl, fr_after (foot := []) F' N' (fun _ q => nomatch q) k'', news_after F' N' k'' (fun p hp => .inl ⟨hp, List.not_mem_nil⟩), off, ?_⟩
    show StrsAre _ (List.take (i + 1) _)
    rw [hst]
    exact strs_snoc hJ _ _
  refine done_value ?_
  intro D4 h5 tk5 ys5 nx5 F5 N5 offD4 ap5 hJ5
  rw [List.take_of_length_le (by rw [List.length_map]; lia)] at hJ5
  refine args_nil ?_
  refine join_led (isList_of (N5 _ (.head _)).1) hJ5 (by lia) fun t6 tk6 => ?_
  have N6 : News g L h5 [tabP] := fun p hp => N5 p (by
    rw [List.mem_singleton.mp hp]; simp)
  clear N5 N4 F4
  (refine' stM ?kF ?kN ?_; (case kF => assumption); (case kN => assumption); intro _ _ _ _)
  with_reducible refine wpAny_execs_cons ?_
  refine wpAny_If ?_
  refine wpAny_isTrue_Compare1 ?_
  (refine' ListComp_b ?cl ?kk ?nn ?_; (case cl => with_unfolding_all rfl); (case kk => rfl); (case nn => decide))
  (refine' ldM ?kF ?kv ?_; (case kF => assumption); (case kv => exact mput_same))
  rename_i h6 tk7 F6 N7
  refine comp_over_str (fun i ys _ => StrsAre ys ((sgs (cs.map (· % 32))).take i)) rm.hand F6 N7 (by lia) .nil ?_ ?_
  · intro g' C D I oI i ys m' nx h' tk' v hg1 hg2 hi hv hJ F' N' off hID
    have B' := B.keeps hg1
    obtain ⟨tv, rfl⟩ := hv
    have hst : (sgs (cs.map (· % 32))).take (i + 1) = (sgs (cs.map (· % 32))).take i ++ [⟨#[cs.getD i 0 % 32]⟩] := by rw [sgs_take (by rw [List.length_map]; exact hi), getD_map hi]
    refine tests_none (if_tt (wp_opq fun Q hQ => ?_))
    refine Call_ ?_
    (refine' nmKQ ?kF ?kB ?ke ?_; (case kF => assumption); (case kB => assumption); (case ke => k_is))
    (refine' callWith_K (Base.X (by assumption)) ?ke ?_; (case ke => k_is))
    refine args_cons ?_
    (refine' ldQ ?kF ?kv ?_; (case kF => assumption); (case kv => exact mput_same))
    refine args_nil ?_
    (refine ⟨in_of (by assumption) (by assumption), ?_⟩; try dsimp only [List.nil_append, List.cons_append])
    refine wpAny_call (ctrl_call (ok_of (foot := []) B' F' N' (fun _ q => nomatch q)) (Room.deeper (k := 4) (rm.less (by lia))) ?_)
    intro h'' tk'' t'' k''
    refine hQ _ _ ⟨h'', tk'', _, nx, rfl, fr_after (foot := []) F' N' (fun _ q => nomatch q) k'', news_after F' N' k'' (fun p hp => .inl ⟨hp, List.not_mem_nil⟩), off, ?_⟩
    show StrsAre _ (List.take (i + 1) _)
    rw [hst]
    exact strs_snoc hJ _ _
  refine done_value ?_
  intro D5 h7 tk8 ys7 nx7 F7 N8 offD5 ap7 hJ7
  rw [List.take_of_length_le (by simp)] at hJ7
  skip
  (refine' ListComp_b ?cl ?kk ?nn ?_; (case cl => with_unfolding_all rfl); (case kk => rfl); (case nn => decide))
  (refine' ldM ?kF ?kv ?_; (case kF => assumption); (case kv => exact mput_same))
  refine comp_over_str (fun i ys _ => StrsAre ys ((sgs (cs.map (· % 32))).take i)) rm.hand F7 N8 (by lia) .nil ?_ ?_
  · intro g' C D I oI i ys m' nx h' tk' v hg1 hg2 hi hv hJ F' N' off hID
    have B' := B.keeps hg1
    obtain ⟨tv, rfl⟩ := hv
    have hst : (sgs (cs.map (· % 32))).take (i + 1) = (sgs (cs.map (· % 32))).take i ++ [⟨#[cs.getD i 0 % 32]⟩] := by rw [sgs_take (by rw [List.length_map]; exact hi), getD_map hi]
    have hmod : ((cs.getD i 0 : Nat) : Int).fmod 32 = ((cs.getD i 0 % 32 : Nat) : Int) := by rw [Int.fmod_eq_emod_of_nonneg _ (by decide)]; rfl
    have hlt : cs.getD i 0 % 32 < 1000 := by lia
    refine tests_none (if_tt (wp_opq fun Q hQ => ?_))
    refine Call_ ?_
    (refine' nmBQ ?kF ?kB ?ke ?kv ?kn ?_; (case kF => assumption); (case kB => assumption); (case ke => k_is); (case kv => boot_by_name); (case kn => decide))
    refine PyProof.Rows.callWith_builtin1 ?_
    refine args_cons ?_
    with_reducible refine wpAny_BinOp ?_
    refine Call_ ?_
    (refine' nmBQ ?kF ?kB ?ke ?kv ?kn ?_; (case kF => assumption); (case kB => assumption); (case ke => k_is); (case kv => boot_by_name); (case kn => decide))
    refine PyProof.Rows.callWith_builtin1 ?_
    refine args_cons ?_
    (refine' ldQ ?kF ?kv ?_; (case kF => assumption); (case kv => exact mput_same))
    refine args_nil ?_
    with_reducible refine PySem.P.ord_of_char ?_
    with_reducible refine wpAny_Constant_int ?_
    with_reducible refine PyProof.Rows.mod_int' (by decide) ?_
    refine args_nil ?_
    with_reducible refine chr_is (i := _) ?_ hlt ?_
    · exact hmod
    refine hQ _ _ ⟨h', _, _, nx, rfl, F', N', off, ?_⟩
    refine (congrArg (StrsAre _) hst).mpr ?_
    exact hJ.append' (.cons _ _ .nil)
  refine done_value ?_
  intro D6 h8 tk9 ys8 nx8 F8 N9 offD6 ap8 hJ8
  rw [List.take_of_length_le (by simp)] at hJ8
  skip
  have e5 : h8.IsList D5 ys7.toArray := isList_of (N9 (D5, lst ys7) (by simp)).1
  have e6 : h8.IsList D6 ys8.toArray := isList_of (N9 (D6, lst ys8) (.head _)).1
  have hu : ∀ env, (A.deeper env).units < cLine := fun env => Room.line (k := 23) (Room.deeper (rm.less (by lia)))
  with_reducible refine ne_strs_led e5 e6 hJ7 hJ8 (hu _) ?_
  have N10 : News g L h8 [tabP] := fun p hp => N9 p (by rw [List.mem_singleton.mp hp]; simp)
  clear N9 N8 N7 N6 F7 e5 e6 hJ7 hJ8 offD6 ap8 offD5 ap7
  with_reducible refine wpAny_truthy_bool ?_
  with_reducible refine if_ff ?_
  with_reducible refine wpAny_execs_nil ?_
  with_reducible refine wpAny_execs_cons ?_
  refine wpAny_Assign_Name ?_
  refine Call_ ?_
  (refine' nmK ?kF ?kB ?ke ?_; (case kF => assumption); (case kB => assumption); (case ke => k_is))
  (refine' callWith_K (Base.X (by assumption)) ?ke ?_; (case ke => k_is))
  refine args_cons ?_
  (refine' ldM ?kF ?kv ?_; (case kF => assumption); (case kv => exact mput_same))
  refine args_nil ?_
  (refine ⟨in_of (by assumption) (by assumption), ?_⟩; try dsimp only [List.nil_append, List.cons_append])
  refine wpAny_call (column_call (ok_of (foot := []) B F8 N10 (fun _ q => nomatch q)) (Room.deeper (k := 20) (rm.less (by lia))) (by lia) ?_)
  intro h9 tk10 H n vs9 ord K9 hH hHn hperm hpw hstrs
  have R9 := rows_of hperm hpw
  have F9 := fr_after (foot := []) F8 N10 (fun _ q => nomatch q) K9
  have N11 : News g L h9 [(H, listOf vs9.toArray n), tabP] := news_after F8 N10 K9 fun p hp => by
    simp only [List.mem_cons, List.not_mem_nil, or_false] at hp
    rcases hp with rfl | rfl
    · exact .inr ⟨hH, .inr hHn⟩
    · exact .inl ⟨by simp, by simp⟩
  clear N10 F8
  (refine' stM ?kF ?kN ?_; (case kF => assumption); (case kN => assumption); intro _ _ _ _)
  with_reducible refine wpAny_execs_cons ?_
  with_reducible refine wpAny_Return_some ?_
  refine BoolOp_and ?_
  refine wpAny_Compare1 ?_
  (refine' ldM ?kF ?kv ?_; (case kF => assumption); (case kv => exact mput_same))
  refine Call_ ?_
  (refine' nmK ?kF ?kB ?ke ?_; (case kF => assumption); (case kB => assumption); (case ke => k_is))
  (refine' callWith_K (Base.X (by assumption)) ?ke ?_; (case ke => k_is))
  refine args_cons ?_
  (refine' ldM ?kF ?kv ?_; (case kF => assumption); (case kv => exact mput_ne (by decide) mput_same))
  refine args_nil ?_
  (refine ⟨in_of (by assumption) (by assumption), ?_⟩; try dsimp only [List.nil_append, List.cons_append])
  rename_i h10 tk11 F10 N12
  refine wpAny_call (due_call (ok_of (foot := []) B F10 N12 (fun _ q => nomatch q)) (Room.deeper (k := 12) (rm.less (by lia))) (by lia) ?_)
  intro h11 tk12 H2 n2 vs11 K11 hH2 hH2n hdue
  have F11 := fr_after (foot := []) F10 N12 (fun _ q => nomatch q) K11
  have N13 : News g L h11 [(H2, listOf vs11.toArray n2), (H, listOf vs9.toArray n), tabP] := news_after F10 N12 K11 fun p hp => by
    simp only [List.mem_cons, List.not_mem_nil, or_false] at hp
    rcases hp with rfl | rfl | rfl
    · exact .inr ⟨hH2, .inr hH2n⟩
    · exact .inl ⟨by simp, by simp⟩
    · exact .inl ⟨by simp, by simp⟩
  clear N12 F10
  rw [R9.due] at hdue
  skip
  have e7 : h11.IsList H vs9.toArray := isList_of (N13 (H, listOf vs9.toArray n) (.tail _ (.head _))).1
  have e8 : h11.IsList H2 vs11.toArray := isList_of (N13 (H2, listOf vs11.toArray n2) (.head _)).1
  with_reducible refine eq_strs_led e7 e8 hstrs hdue (hu _) ?_
  with_reducible refine wpAny_truthy_bool ?_
  with_reducible refine if_tt ?_
  refine BoolOp_one ?_
  refine wpAny_Compare1 ?_
  refine Call_ ?_
  (refine' nmK ?kF ?kB ?ke ?_; (case kF => assumption); (case kB => assumption); (case ke => k_is))
  (refine' callWith_K (Base.X (by assumption)) ?ke ?_; (case ke => k_is))
  refine args_cons ?_
  (refine' ldM ?kF ?kv ?_; (case kF => assumption); (case kv => exact mput_same))
  refine args_nil ?_
  (refine ⟨in_of (by assumption) (by assumption), ?_⟩; try dsimp only [List.nil_append, List.cons_append])
  obtain ⟨oL, hoL, hfL⟩ := frs_up F11 .nil
  have hL124 : L ≠ 124 := Ne.symm (N13 tabP (.tail _ (.tail _ (.head _)))).2.1
  have hHL : H ≠ L := (N13 (H, listOf vs9.toArray n) (.tail _ (.head _))).2.1
  have hH124 : H ≠ 124 := fun e => by
    have h1 := (N13 (H, listOf vs9.toArray n) (.tail _ (.head _))).1
    have h2 := (N13 tabP (.tail _ (.tail _ (.head _)))).1
    rw [show (H, listOf vs9.toArray n).1 = 124 from e] at h1
    rw [show tabP.1 = 124 from rfl, h1] at h2
    cases h2
  have hol : (ord.map (ahead cs)).length = cs.length + 1 := by rw [List.length_map, R9.length]
  have hback := fun s1 s2 => R9.back' (s1 := s1) (s2 := s2) rfl
  have hin : ∀ a ∈ ([(L, oL)] ++ [tabP]).map (·.1), a = L ∨ a ∈ [(H2, listOf vs11.toArray n2), (H, listOf vs9.toArray n), tabP].map (·.1) := fun a ha => by
    simp only [List.cons_append, List.nil_append, List.map_cons, List.map_nil, List.mem_cons, List.not_mem_nil, or_false] at ha ⊢
    rcases ha with h | h <;> simp [h]
  refine wpAny_call (back_call (frs := [(L, oL)]) (K := H) (col := ord.map (ahead cs)) (ok_frame B F11 N13 hin) (fun p hp => ?_) (Around.frames_deeper hfr) (hfL _ (by intro q; cases q) rfl) (fun p hp => ?_) (N13 (H, listOf vs9.toArray n) (.tail _ (.head _))).1 (fun q => ?_) hstrs R9.signs (by lia) (by lia) R9.hasMark (Room.deeper (k := 14) (rm.less (by lia))) ?_)
  · simp only [List.cons_append, List.nil_append, List.mem_cons, List.not_mem_nil, or_false] at hp
    rcases hp with rfl | rfl
    · exact hoL
    · exact (N13 tabP (.tail _ (.tail _ (.head _)))).1
  · rw [List.mem_singleton.mp hp]; exact hL124
  · simp only [List.cons_append, List.nil_append, List.map_cons, List.map_nil, List.mem_cons, List.not_mem_nil, or_false] at q
    rcases q with h | h
    · exact hHL h
    · exact hH124 h
  intro h12 tk13 t12 frs' ps s1 s2 sf K12 hfr' h124 HH
  rw [hback s1 s2 HH]
  obtain ⟨oL', rfl, hdL⟩ : ∃ oL', frs' = [(L, oL')] ∧ oL'.data = oL.data := by
    cases sf with | cons hd sf => cases sf; exact ⟨_, rfl, hd⟩
  have F12 := fr_afterL F11 N13 hin K12 hoL (hfr' _ (.head _)) hdL
  have N14 : News g L h12 [(124, tabObj ps)] := news_after F11 N13 K12 fun p hp => by
    rw [List.mem_singleton.mp hp]
    exact .inr ⟨h124, .inl (by simp)⟩
  clear N13 F11 K12
  (refine' ldM ?kF ?kv ?_; (case kF => assumption); (case kv => exact mput_ne (by decide) mput_same))
  have hbe : ((⟨cs.toArray⟩ : Str) == ⟨cs.toArray⟩) = true := beq_self_eq_true _
  with_reducible refine PyProof.Rows.eq_str ?_
  rw [hbe]
  exact post h12 _ ps (fun b o e nb => F12.keep b o (hg b o e nb)) h124

end Mine
set_option maxRecDepth 100000 in
set_option maxHeartbeats 8000000 in
theorem PySem.Challenge.cw_mq0309_01_holds : PySem.Challenge.rw_mq0309_01.Holds := by
  refine Mine.hd ?_
  k_fill
  intro w s₀ s₁ mg mb G Y fa o pm cd doc dV kV ho hdd hcd hD hmg hg args vals as hpre hlay hrd hwl hlo
  have KX := km_in_of Y
  km_tabs Y
  have X := (Ground.X G).1
  have V := (Ground.X G).2
  refine Ground.open G ?_
  intro T B D TE TW
  try (refine guard_noD D (by decide +kernel) ?_; clear D)
  km_lay T hmg ho hdd cd
  wrow_args hpre hlay hrd hwl hlo
  rename_i ns _ _ _ _ _ _ a vs _ hL _ _ _ hI _ hlen _
  refine enter_call ?_
  w_top on
  kn_posts
  have hfa : fa = 137 := by
    have e1 : mg (Str.ofString "law") = some (.ref 137) := mg_of KX T.g (by k_is)
    have e2 : mg (Str.ofString "law") = some (.ref fa) := hmg
    rw [e1] at e2
    injection e2 with e2
    injection e2 with e2
    exact e2.symm
  subst hfa
  have T' := ghost_top hT9 T
  have O : Mine.Ok w [124] s₁.heap := ⟨ghostOf s₁.heap [(126, 124)], ⟨ghost_K hT9 KX (by kernel_rfl), ⟨_, _, _, _, topRead_of T'⟩, ⟨_, _, _, _, _, T'⟩⟩, fun b o e => of_hideAll _ e, fun a ha => hideAll_none _ ha⟩
  refine Mine.law_call O (hT9 _ (.head _)).2 rfl hL hI (by lia) ⟨by decide, by decide, rfl⟩ ?_
  intro h' tk ps K h124
  refine ⟨⟨.inl ⟨.bool true, .bool true, [], rfl, raisesW_false ?_, ReadsW.bool _, ?_, fun _ => ⟨List.nodup_nil, fun _ q => nomatch q⟩⟩, fun b o e => K b o (of_hideAll _ e) fun q => ?_, rfl, hg⟩, ⟨ps, h124⟩, trivial⟩
  · wrow_none_raised
  · wrow_post
  · rw [List.mem_singleton.mp q, show (ghostOf s₁.heap [(126, 124)]).get? 124 = none from hideAll_none _ (.head _)] at e
    cases e
