import PyProof.Rows.All
import Wide.All
import OpenK.AllK
import Wide.FinOn
import KE.BitLaws
import KE.IntBitsLaws
import PyProof.DictStraight
import PySem.Challenge.RW_wv0074_01
set_option Elab.async false
set_option compiler.extract_closed false
local macro_rules | `(tactic| omega) => `(tactic| lia)

section
open PySem PySem.W PyProof.Rows
namespace Mine
set_option maxRecDepth 100000
set_option maxHeartbeats 8000000
open_top hd for PySem.Challenge.rw_wv0074_01
end Mine
end

section
open PySem PySem.W PyProof.Rows PySem.Calls PySem.Spec
namespace Mine
set_option maxRecDepth 100000
set_option maxHeartbeats 8000000

/-- all that stood still stands, but for the addresses ds -/
def Ext (ds : List Addr) (h h' : Heap) : Prop := ∀ b o, b ∉ ds → h.get? b = some o → h'.get? b = some o

section
variable {h₀ h h' : Heap} {L : Addr} {m : Str → Option Value} {news ds : List (Addr × Obj)}
theorem Ext.refl (as : List Addr) (h : Heap) : Ext as h h := fun _ _ _ e => e
theorem Ext.trans {as : List Addr} {h h' h'' : Heap} (x : Ext as h h') (y : Ext as h' h'') : Ext as h h'' := fun b o n e => y b o n (x b o n e)
theorem Ext.more {as bs : List Addr} {h h' : Heap} (x : Ext as h h') (s : ∀ a ∈ as, a ∈ bs) : Ext bs h h' := fun b o n e => x b o (fun q => n (s b q)) e
/-- the caller's frame behind a call that turned only what its ledger holds -/
theorem ext_fr {as : List Addr} (e : Ext as h h') (F : Fr h₀ L h m) (hn : ∀ a ∈ as, h₀.get? a = none) (hL : L ∉ as) : Fr h₀ L h' m :=
  ⟨F.ns.at' fun o q => e L o hL q, fun b o q => e b o (fun k => by rw [hn b k] at q; cases q) (F.keep b o q), F.above⟩
theorem ext_news {as : List Addr} (e : Ext as h h') (N : News h₀ L h news) (off : ∀ p ∈ news, p.1 ∉ as) : News h₀ L h' news :=
  fun p hp => ⟨e _ _ (off p hp) (N p hp).1, (N p hp).2⟩
theorem ext_fr0 (e : Ext [] h h') (F : Fr h₀ L h m) : Fr h₀ L h' m := ext_fr e F (fun _ k => nomatch k) (fun k => nomatch k)
theorem ext_news0 (e : Ext [] h h') (N : News h₀ L h news) : News h₀ L h' news := ext_news e N fun _ _ k => nomatch k
/-- an object that the call has made joins the ledger -/
theorem news_new {D : Addr} {o : Obj} (F : Fr h₀ L h m) (N' : News h₀ L h' news) (hD : h'.get? D = some o) (hn : h.get? D = none) : News h₀ L h' ((D, o) :: news) := fun p hp => by
  rcases List.mem_cons.mp hp with rfl | hp
  · refine ⟨hD, ?_, ?_⟩
    · rintro rfl
      obtain ⟨oL, _, _, hL, _⟩ := F.ns
      rw [hn] at hL; cases hL
    · cases q : h₀.get? D with
      | none => rfl
      | some o' => have := F.keep _ _ q; rw [hn] at this; cases this
  · exact N' p hp
theorem news_off (N : News h₀ L h news) {D : Addr} (hn : h.get? D = none) : ∀ p ∈ news, p.1 ≠ D := fun p hp q => by
  have := (N p hp).1; rw [q, hn] at this; cases this
/-- an object of the ledger that the call has turned -/
theorem news_turn {D : Addr} {o o' : Obj} (N : News h₀ L h ((D, o) :: news)) (N' : News h₀ L h' news) (hD : h'.get? D = some o') : News h₀ L h' ((D, o') :: news) := fun p hp => by
  rcases List.mem_cons.mp hp with rfl | hp
  · exact ⟨hD, (N _ (.head _)).2⟩
  · exact N' p hp
theorem news_tail {q : Addr × Obj} (N : News h₀ L h (q :: news)) : News h₀ L h news := fun p hp => N p (.tail _ hp)
end

section
variable {prog : Program} {w : World} {K : Frag} {p : Program} {loose : List Str} {mean : ExcName → Option Value} {mg mb : Str → Option Value} {A A₀ : Around} {env : Env} {outer : List Env} {base h₀ : Heap} {L : Addr} {m : Str → Option Value} {s : Shared}
  {R : Result → Shared → Prop} {name qual : Str} {params : Arguments} {body : List Stmt} {scope : Scope} {cl : List (Str × Addr)} {dV kV doc pm cdv ct : Value} {an : Option Addr} {fo : Obj} {f : Addr} {args : Args} {binds : List (Str × Value)} {ds : List (Addr × Obj)}

/-- into a def: all that stood, but for what may be turned (ds), is the ground of its frame -/
theorem enter_but (B : Below A₀ base outer h₀) (F : Fr h₀ L s.heap m) (X : K.In h₀) (N : News h₀ L s.heap ds) (T : Top p loose mean mg mb h₀) (hA : A.frames = some (env :: outer)) (hf : env.frame = some L) (hke : env.scope.kind = .function)
    (ho : s.heap.get? f = some fo) (hd : fo.data = .func (fnX name qual params body scope cl dV kV doc pm an cdv ct)) (hcd : s.heap.CodeRec cdv qual) (hroom : A.depth < recursionLimit)
    (hbind : BindsTo s (fnX name qual params body scope cl dV kV doc pm an cdv ct) args binds) (hloc : ∀ y ∈ binds, scope.names.lookup y.1 = some .local)
    (h : ∀ g L' h₁ tk, let mz : Str → Option Value := fun y => binds.reverse.lookup y
      Ext (ds.map (·.1)) s.heap g → (∀ a ∈ ds.map (·.1), g.get? a = none) → Fr g L' h₁ mz → News g L' h₁ ds → (∀ q ∈ ds, q.1 < L') → Below A base (env :: outer) g → K.In g → Top p loose mean mg mb g → h₀.StaysIn g →
      let envz := envX qual scope L' f cdv cl
      let Az := A.deeper envz
      let Qz : Flow → Shared → Prop := fun fl s' => R (.ok (.ret (match fl with | .ret v => v | _ => .none))) s'
      let Ez : Value → Shared → Prop := fun e s' => wpAny (model prog w) Az (leaving envz e) (fun _ s'' => R (.error e) s'') (fun e' s'' => R (.error e') s'') s'
      wpAny (model prog w) Az (execs body envz) Qz Ez { s with heap := h₁, toks := tk })
    (hcell : ∀ x ∈ scope.names, x.2 ≠ .cell) (hco : scope.isCoroutine = false) (hgen : scope.isGenerator = false) (hk : scope.kind = .function) :
    codeAny (model prog w) A (.call (.ref f) args) R s := by
  obtain ⟨_, BG, st, _⟩ := groundX (R := R) B F N hA hf hke
  refine codeAny_call_def (fd := fnX name qual params body scope cl dV kV doc pm an cdv ct) (body := body) (binds := binds) hroom ho hd (T.nolimit.keeps F.keep) hcd rfl hbind hcell hloc (fun h₁ hns hk₁ => ?_) hco hgen hk
  exact h _ s.heap.objs.size h₁ _ (fun b o n e => hideAll_get _ e n) (fun a ha => hideAll_none _ ha) ⟨hns, fun b o e => hk₁ b o (of_hideAll _ e), Nat.le_of_eq (hideAll_size _ _)⟩
    (fun q hq => ⟨hk₁ _ _ (N q hq).1, Nat.ne_of_lt (Heap.lt_size (N q hq).1), hideAll_none _ (List.mem_map_of_mem hq)⟩) (fun q hq => Heap.lt_size (N q hq).1) BG (X.keeps st) (T.keeps st) st
end

section
variable {prog : Program} {w : World} {K : Frag} {p : Program} {loose : List Str} {mean : ExcName → Option Value} {mg mb : Str → Option Value} {A A₀ : Around} {env : Env} {outer : List Env} {base h₀ : Heap} {L : Addr} {m : Str → Option Value} {s : Shared}
  {R : Result → Shared → Prop} {name qual : Str} {params : Arguments} {body : List Stmt} {scope : Scope} {dV kV doc pm cdv ct : Value} {an : Option Addr} {fo : Obj} {f : Addr} {args : Args} {binds : List (Str × Value)} {ds : List (Addr × Obj)}

/-- the same for a def whose names a def within, or a comprehension, asks for -/
theorem enter_butC (B : Below A₀ base outer h₀) (F : Fr h₀ L s.heap m) (X : K.In h₀) (N : News h₀ L s.heap ds) (T : Top p loose mean mg mb h₀) (hA : A.frames = some (env :: outer)) (hf : env.frame = some L) (hke : env.scope.kind = .function)
    (ho : s.heap.get? f = some fo) (hd : fo.data = .func (fnX name qual params body scope [] dV kV doc pm an cdv ct)) (hcd : s.heap.CodeRec cdv qual) (hroom : A.depth < recursionLimit)
    (hbind : BindsTo s (fnX name qual params body scope [] dV kV doc pm an cdv ct) args binds) (hkind : (binds.all fun y => scope.names.lookup y.1 == some .local || scope.names.lookup y.1 == some .cell) = true)
    (hnd : ((cellsFrom 0 scope.names []).map (·.1)).Nodup)
    (h : ∀ g L' h₁ tk cells, let mz : Str → Option Value := bindL (envOfC qual scope L' f cdv).kindOf binds fun _ => none
      Ext (ds.map (·.1)) s.heap g → (∀ a ∈ ds.map (·.1), g.get? a = none) → Fr g L' h₁ mz → News g L' h₁ (cells ++ ds) →
      CellsAre (bindC (envOfC qual scope L' f cdv).kindOf binds fun _ => none) (cellsFrom (L' + 1) scope.names []) cells → (∀ q ∈ ds, q.1 < L') → Below A base (env :: outer) g → K.In g → Top p loose mean mg mb g → h₀.StaysIn g →
      let envz := envOfC qual scope L' f cdv
      let Az := A.deeper envz
      let Qz : Flow → Shared → Prop := fun fl s' => R (.ok (.ret (match fl with | .ret v => v | _ => .none))) s'
      let Ez : Value → Shared → Prop := fun e s' => wpAny (model prog w) Az (leaving envz e) (fun _ s'' => R (.error e) s'') (fun e' s'' => R (.error e') s'') s'
      wpAny (model prog w) Az (execs body envz) Qz Ez { s with heap := h₁, toks := tk })
    (hco : scope.isCoroutine = false) (hgen : scope.isGenerator = false) (hk : scope.kind = .function) :
    codeAny (model prog w) A (.call (.ref f) args) R s := by
  obtain ⟨_, BG, st, _⟩ := groundX (R := R) B F N hA hf hke
  refine codeAny_call_function hroom ho hd hco hgen rfl hcd (hbind _ _ _ _ ?_)
  refine wpAny_newFunctionEnv_cells hk (kindsX hkind _) fun env' he s' x => ?_
  subst he
  refine ⟨(T.nolimit.keeps F.keep).keeps x.toInCall.keep, codeAny_func ?_⟩
  obtain ⟨h₁, tk, rfl, _⟩ := x.done
  have up := x.toInCall.keep
  obtain ⟨cells, NC, Y⟩ := Cl.news (h₀ := s.heap) (Nat.le_refl _) fun n c hm => ⟨x.cell n c (lookup_of_mem_nodup (cellsFrom_names scope.names 0 (s.heap.objs.size + 1) [] [] rfl ▸ hnd) hm), x.above n c hm⟩
  refine h _ s.heap.objs.size h₁ tk cells (fun b o n e => hideAll_get _ e n) (fun a ha => hideAll_none _ ha) ⟨x.toInCall.ns, fun b o e => up b o (of_hideAll _ e), Nat.le_of_eq (hideAll_size _ _)⟩ (fun q hq => ?_) Y (fun q hq => Heap.lt_size (N q hq).1) BG (X.keeps st) (T.keeps st) st
  rcases List.mem_append.mp hq with hq | hq
  · refine ⟨(NC q hq).1, (NC q hq).2.1, ?_⟩
    cases z : (hideAll s.heap (ds.map (·.1))).get? q.1 with
    | none => rfl
    | some o => have := of_hideAll _ z; rw [(NC q hq).2.2] at this; cases this
  · exact ⟨up _ _ (N q hq).1, Nat.ne_of_lt (Heap.lt_size (N q hq).1), hideAll_none _ (List.mem_map_of_mem hq)⟩
end

section
variable {g h h' : Heap} {L D : Addr} {m : Str → Option Value} {news : List (Addr × Obj)} {o : Obj} {as : List Addr}
theorem ext_ret (e : Ext as h g) (F : Fr g L h' m) : Ext as h h' := fun b o n q => F.keep b o (e b o n q)
theorem new_none (e : Ext as h g) (N : News g L h' news) (hm : (D, o) ∈ news) (hD : D ∉ as) : h.get? D = none := by
  cases q : h.get? D with
  | none => rfl
  | some o' => have := (N _ hm).2.2; rw [e _ _ hD q] at this; cases this
theorem new_some (N : News g L h' news) (hm : (D, o) ∈ news) : h'.get? D = some o := (N _ hm).1
end
theorem news_after {h₀ h h' : Heap} {L D : Addr} {o o' : Obj} {news news' : List (Addr × Obj)} (N : News h₀ L h news) (e : Ext [D] h h') (hD : h'.get? D = some o') (U : Upd D o o' news news') : News h₀ L h' news' := by
  obtain ⟨pre, post, rfl, rfl, a, b⟩ := U.split
  have hm := N (D, o) (List.mem_append_right _ (.head _))
  intro p hp
  rcases List.mem_append.mp hp with hp | hp
  · exact ⟨e _ _ (by simpa using a p hp) (N p (List.mem_append_left _ hp)).1, (N p (List.mem_append_left _ hp)).2⟩
  · rcases List.mem_cons.mp hp with rfl | hp
    · exact ⟨hD, hm.2⟩
    · have z := N p (List.mem_append_right _ (.tail _ hp))
      exact ⟨e _ _ (by simpa using b p hp) z.1, z.2⟩
theorem news_sub {h₀ h : Heap} {L : Addr} {news ds : List (Addr × Obj)} (N : News h₀ L h news) (hs : ∀ p ∈ ds, p ∈ news) : News h₀ L h ds := fun p hp => N p (hs p hp)
theorem news_one {h₀ h : Heap} {L D : Addr} {o : Obj} {news : List (Addr × Obj)} (N : News h₀ L h news) (hm : (D, o) ∈ news) : News h₀ L h [(D, o)] := fun p hp => by
  rw [List.mem_singleton] at hp; subst hp; exact N _ hm
def AllNe (d : Nat) : List (Addr × Obj) → Prop
  | [] => True
  | p :: r => @Ne Nat p.1 d ∧ AllNe d r
theorem allNe_of {d : Addr} : ∀ {l : List (Addr × Obj)}, (∀ p ∈ l, p.1 ≠ d) → AllNe d l
  | [], _ => trivial
  | _ :: _, h => ⟨h _ (.head _), allNe_of fun q hq => h q (.tail _ hq)⟩
/-- the walk stops here; the hand goes on -/
def Halt (P : Prop) : Prop := P
theorem Halt.on {P : Prop} (h : P) : Halt P := h
theorem Halt.out {P : Prop} (h : Halt P) : P := h

section
variable {prog : Program} {w : World} {A : Around} {E : Value → Shared → Prop} {s : Shared} {l : Addr} {vs : List Value} {ns : List Int} {Q : Value → Shared → Prop}
theorem len_ints (hl : s.heap.IsList l vs.toArray) (hI : IntsAre vs ns) (hf : ns.length ≤ 1000000) (h : ∀ t tk, Q (.int ns.length t) { s with toks := tk }) : wpAny (model prog w) A (call (.builtin "len") [.ref l]) Q E s := by
  have e : vs.toArray.size = ns.length := by simp [hI.length]
  refine Calls.call_len_list hl (by rw [e]; omega) ?_
  rw [e]; exact h _ _
end
abbrev tupO (vs : List Value) : Obj := { cls := .type "tuple", data := .seq vs.toArray }

end Mine
end

section
namespace Mine
/-- the k lowest figures of x to the base 2 ^ n, the lowest first -/
def dig (n k : Nat) (x : Int) : List Int := (List.range k).map fun i => x / 2 ^ (n * i) % 2 ^ n

theorem two_pos (n : Nat) : (0 : Int) < 2 ^ n := Int.pow_pos (by decide)
theorem dig_length (n k : Nat) (x : Int) : (dig n k x).length = k := by simp [dig]
theorem dig_one {n : Nat} {x : Int} (h0 : 0 ≤ x) (h1 : x < 2 ^ n) : dig n 1 x = [x] := by
  simp [dig, List.range_succ, Int.emod_eq_of_lt h0 h1]
theorem dig_append (n j k : Nat) (x : Int) : dig n (j + k) x = dig n j (x % 2 ^ (n * j)) ++ dig n k (x / 2 ^ (n * j)) := by
  unfold dig
  rw [List.range_add, List.map_append, List.map_map]
  congr 1
  · refine List.map_congr_left fun i hi => ?_
    have hi := List.mem_range.mp hi
    obtain ⟨r, rfl⟩ : ∃ r, j = i + 1 + r := ⟨j - (i + 1), by omega⟩
    -- x mod 2^(n(i+1+r)) has the figure i of x
    have e : (2 : Int) ^ (n * (i + 1 + r)) = 2 ^ (n * i) * (2 ^ n * 2 ^ (n * r)) := by
      rw [← Int.pow_add, ← Int.pow_add]; congr 1; simp [Nat.mul_add, Nat.add_assoc]
    have hp := two_pos (n * i)
    have hq := two_pos n
    have h2 : x % 2 ^ (n * (i + 1 + r)) = x - 2 ^ (n * i) * (2 ^ n * 2 ^ (n * r)) * (x / 2 ^ (n * (i + 1 + r))) := by rw [← e]; exact Int.emod_def _ _
    rw [h2]
    generalize x / 2 ^ (n * (i + 1 + r)) = q
    have h3 : x - 2 ^ (n * i) * (2 ^ n * 2 ^ (n * r)) * q = x + 2 ^ (n * i) * (2 ^ n * (-(2 ^ (n * r) * q))) := by
      rw [Int.mul_neg, Int.mul_neg, Int.sub_eq_add_neg]; simp [Int.mul_assoc]
    rw [h3, Int.add_mul_ediv_left _ _ (Int.ne_of_gt hp), Int.add_mul_emod_self_left]
  · refine List.map_congr_left fun i _ => ?_
    show x / 2 ^ (n * (j + i)) % 2 ^ n = x / 2 ^ (n * j) / 2 ^ (n * i) % 2 ^ n
    rw [Int.ediv_ediv_of_nonneg (Int.le_of_lt (two_pos _)), ← Int.pow_add, ← Nat.mul_add]

theorem fdiv_pos {x y : Int} (h : 0 < y) : Int.fdiv x y = x / y := Int.fdiv_eq_ediv_of_nonneg _ (Int.le_of_lt h)
theorem fmod_pos {x y : Int} (h : 0 < y) : Int.fmod x y = x % y := Int.fmod_eq_emod_of_nonneg _ (Int.le_of_lt h)

theorem nat_and_hi (x s : Nat) : x &&& (x / 2 ^ s * 2 ^ s) = x / 2 ^ s * 2 ^ s := by
  apply Nat.eq_of_testBit_eq
  intro i
  rw [Nat.testBit_and, ← Nat.shiftLeft_eq, ← Nat.shiftRight_eq_div_pow, Nat.testBit_shiftLeft, Nat.testBit_shiftRight]
  by_cases h : s ≤ i
  · have : s + (i - s) = i := by omega
    simp [h, this]
  · simp [h]
/-- x ^ (x >> s << s) is what lies below -/
theorem xor_low {x : Int} (s : Nat) (h : 0 ≤ x) : PySem.Builtin.bitXor x (x / 2 ^ s * 2 ^ s) = x % 2 ^ s := by
  obtain ⟨a, rfl⟩ := Int.eq_ofNat_of_zero_le h
  have e : ((a : Int) / 2 ^ s * 2 ^ s) = ((a / 2 ^ s * 2 ^ s : Nat) : Int) := by simp [Int.natCast_mul, Int.natCast_ediv, Int.natCast_pow]
  rw [e, PyProof.Rows.bitXor_and]
  have h1 : PySem.Builtin.bitAnd (a : Int) ((a / 2 ^ s * 2 ^ s : Nat) : Int) = ((a / 2 ^ s * 2 ^ s : Nat) : Int) := by
    unfold PySem.Builtin.bitAnd
    simp only [Int.natCast_nonneg, decide_true, Int.toNat_natCast]
    rw [nat_and_hi]
  rw [h1]
  have h2 : (a : Int) % 2 ^ s = ((a % 2 ^ s : Nat) : Int) := by simp
  rw [h2]
  have := Nat.div_add_mod a (2 ^ s)
  rw [Nat.mul_comm] at this
  omega

/-- the number of figures, the lowest first -/
def val (n : Nat) : List Int → Int
  | [] => 0
  | d :: r => d + 2 ^ n * val n r
theorem val_append (n : Nat) (a b : List Int) : val n (a ++ b) = val n a + 2 ^ (n * a.length) * val n b := by
  induction a with
  | nil => simp [val]
  | cons d r ih =>
    simp only [List.cons_append, val, ih, List.length_cons, Nat.mul_add, Nat.mul_one, Int.pow_add, Int.mul_add]
    rw [Int.mul_assoc, Int.mul_left_comm]; omega
theorem val_nonneg {n : Nat} {a : List Int} (h : ∀ d ∈ a, 0 ≤ d) : 0 ≤ val n a := by
  induction a with
  | nil => simp [val]
  | cons d r ih =>
    have h1 := h d (by simp)
    have h2 := Int.mul_nonneg (Int.le_of_lt (two_pos n)) (ih fun e he => h e (by simp [he]))
    simp only [val]; omega
theorem val_lt {n : Nat} {a : List Int} (h : ∀ d ∈ a, 0 ≤ d ∧ d < 2 ^ n) : val n a < 2 ^ (n * a.length) := by
  induction a with
  | nil => simp [val]
  | cons d r ih =>
    have h1 := h d (by simp)
    have h2 := ih fun e he => h e (by simp [he])
    simp only [val, List.length_cons, Nat.mul_add, Nat.mul_one, Int.pow_add]
    have h3 : 2 ^ n * (val n r + 1) ≤ (2 : Int) ^ n * 2 ^ (n * r.length) := Int.mul_le_mul_of_nonneg_left (by omega) (Int.le_of_lt (two_pos n))
    rw [Int.mul_add, Int.mul_one] at h3
    rw [Int.mul_comm (2 ^ (n * r.length))]
    omega
theorem val_dig (n : Nat) : ∀ (k : Nat) (x : Int), 0 ≤ x → x < 2 ^ (n * k) → val n (dig n k x) = x := by
  intro k
  induction k with
  | zero => intro x h0 h1; simp only [Nat.mul_zero, Int.pow_zero] at h1; simp only [dig, List.range_zero, List.map_nil, val]; omega
  | succ k ih =>
    intro x h0 h1
    have e := dig_append n 1 k x
    rw [Nat.add_comm 1 k] at e
    have hp := two_pos n
    rw [e, val_append, dig_length, Nat.mul_one, dig_one (Int.emod_nonneg _ (Int.ne_of_gt hp)) (Int.emod_lt_of_pos _ hp)]
    have h2 : x / 2 ^ n < 2 ^ (n * k) := Int.ediv_lt_of_lt_mul hp (by rw [← Int.pow_add, ← Nat.mul_succ]; exact h1)
    rw [ih _ (Int.ediv_nonneg h0 (Int.le_of_lt hp)) h2]
    simp only [val]
    have := Int.emod_add_mul_ediv x (2 ^ n)
    omega
theorem dig_mem {n k : Nat} {x d : Int} (h : d ∈ dig n k x) : 0 ≤ d ∧ d < 2 ^ n := by
  obtain ⟨i, _, rfl⟩ := List.mem_map.mp h
  exact ⟨Int.emod_nonneg _ (Int.ne_of_gt (two_pos n)), Int.emod_lt_of_pos _ (two_pos n)⟩
/-- the part of a row -/
def seg (l : List Int) (i k : Nat) : List Int := (l.drop i).take k
theorem seg_length {l : List Int} {i k : Nat} (h : i + k ≤ l.length) : (seg l i k).length = k := by simp [seg]; omega
theorem seg_split (l : List Int) (i j k : Nat) : seg l i (j + k) = seg l i j ++ seg l (i + j) k := by
  unfold seg; rw [List.take_add, List.drop_drop]
theorem seg_mem {l : List Int} {i k : Nat} {d : Int} (h : d ∈ seg l i k) : d ∈ l := List.mem_of_mem_drop (List.mem_of_mem_take h)
theorem seg_single {l : List Int} {i : Nat} (h : i < l.length) : seg l i 1 = [l.getD i 0] := by
  unfold seg
  rw [List.drop_eq_getElem_cons h, List.take_succ_cons, List.take_zero, List.getD_eq_getElem?_getD, List.getElem?_eq_getElem h]; rfl
theorem seg_all (l : List Int) : seg l 0 l.length = l := by simp [seg]

theorem dig_get {n k : Nat} {x : Int} {i : Nat} (h : i < k) : (dig n k x)[i]? = some (x / 2 ^ (n * i) % 2 ^ n) := by
  unfold dig; rw [List.getElem?_map, List.getElem?_range h]; rfl
/-- a turn of the long division -/
theorem dmp_turn {n i : Nat} {x y r : Int} {nq : List Int} (h0 : 0 ≤ r) (h1 : r < y) (hv : val n nq.reverse * y + r = x / 2 ^ (n * (i + 1))) :
    let t := r * 2 ^ n + x / 2 ^ (n * i) % 2 ^ n
    0 ≤ t ∧ t < y * 2 ^ n ∧ 0 ≤ t / y ∧ t / y < 2 ^ n ∧ 0 ≤ t % y ∧ t % y < y ∧ val n (nq ++ [t / y]).reverse * y + t % y = x / 2 ^ (n * i) := by
  intro t
  have hp := two_pos n
  have hy : 0 < y := by omega
  have d0 := Int.emod_nonneg (x / 2 ^ (n * i)) (Int.ne_of_gt hp)
  have d1 := Int.emod_lt_of_pos (x / 2 ^ (n * i)) hp
  have t0 : 0 ≤ t := by have := Int.mul_nonneg h0 (Int.le_of_lt hp); omega
  have t1 : t < y * 2 ^ n := by
    have : (r + 1) * 2 ^ n ≤ y * 2 ^ n := Int.mul_le_mul_of_nonneg_right (by omega) (Int.le_of_lt hp)
    rw [Int.add_mul, Int.one_mul] at this; omega
  refine ⟨t0, t1, Int.ediv_nonneg t0 (Int.le_of_lt hy), Int.ediv_lt_of_lt_mul hy (by rw [Int.mul_comm]; exact t1), Int.emod_nonneg _ (Int.ne_of_gt hy), Int.emod_lt_of_pos _ hy, ?_⟩
  rw [List.reverse_append, List.reverse_singleton, List.singleton_append]
  simp only [val]
  have e1 : x / 2 ^ (n * i) = 2 ^ n * (x / 2 ^ (n * (i + 1))) + x / 2 ^ (n * i) % 2 ^ n := by
    have e2 : x / 2 ^ (n * (i + 1)) = x / 2 ^ (n * i) / 2 ^ n := by
      rw [Int.ediv_ediv_of_nonneg (Int.le_of_lt (two_pos _)), ← Int.pow_add, ← Nat.mul_succ]
    rw [e2]; exact (Int.mul_ediv_add_emod _ _).symm
  have e3 : t / y * y + t % y = t := Int.ediv_mul_add_emod t y
  rw [Int.add_mul, Int.mul_assoc]
  have e4 : (2 : Int) ^ n * (val n nq.reverse * y) = 2 ^ n * (x / 2 ^ (n * (i + 1))) - 2 ^ n * r := by rw [← hv, Int.mul_add]; omega
  have e5 : t = r * 2 ^ n + x / 2 ^ (n * i) % 2 ^ n := rfl
  rw [Int.mul_comm r] at e5
  omega
theorem bits_mono {r y : Int} (h0 : 0 ≤ r) (h1 : r < y) : PySem.Builtin.Int.intBits r ≤ PySem.Builtin.Int.intBits y :=
  PySem.intBits_le_of_natAbs (by omega) (Nat.le_refl _)
theorem figs_le {b n : Nat} (hn : 2 ≤ n) (hb : b ≤ 400) : (b + n - 1) / n ≤ 200 := by
  rw [Nat.div_le_iff_le_mul_add_pred (by omega)]
  have : 200 * 2 ≤ n * 200 := by rw [Nat.mul_comm n]; exact Nat.mul_le_mul_left _ hn
  omega
/-- floor division of what lies below nought -/
theorem not_divmod {x y : Int} (hy : 0 < y) : PySem.Builtin.bitNot (PySem.Builtin.bitNot x / y) = x / y ∧ y + PySem.Builtin.bitNot (PySem.Builtin.bitNot x % y) = x % y := by
  have e : ∀ z : Int, PySem.Builtin.bitNot z = -z - 1 := fun z => by first | rfl | (unfold PySem.Builtin.bitNot; omega)
  simp only [e]
  have h1 := Int.ediv_mul_add_emod (-x - 1) y
  have h2 := Int.emod_nonneg (-x - 1) (Int.ne_of_gt hy)
  have h3 := Int.emod_lt_of_pos (-x - 1) hy
  generalize (-x - 1) / y = q at *
  generalize (-x - 1) % y = r at *
  have h4 : x = (y - r - 1) + y * (-q - 1) := by
    rw [Int.mul_sub, Int.mul_neg, Int.mul_comm y]; omega
  constructor
  · rw [h4, Int.add_mul_ediv_left _ _ (Int.ne_of_gt hy), Int.ediv_eq_zero_of_lt (by omega) (by omega)]; omega
  · rw [h4, Int.add_mul_emod_self_left, Int.emod_eq_of_lt (by omega) (by omega)]; omega
theorem pow_ne {b : Int} (h : 2 ≤ b) (j : Nat) : b ^ j ≠ 0 := Int.ne_of_gt (Int.pow_pos (by omega))
theorem pow_lt_bits {b : Int} (h0 : 0 ≤ b) (h1 : b ≤ 64) (j : Nat) : b ^ j ≤ 2 ^ (6 * j) := by
  induction j with
  | zero => simp
  | succ j ih =>
    rw [Int.pow_succ, Nat.mul_succ, Int.pow_add]
    exact Int.mul_le_mul ih h1 h0 (Int.le_of_lt (two_pos _))
theorem seg_one (ns : List Int) (j : Nat) (x : Int) (h : j < ns.length) : ns.set j x = ns.take j ++ [x] ++ ns.drop (j + 1) := by
  rw [List.set_eq_take_append_cons_drop, if_pos h]; simp
theorem seg_two (ns a b : List Int) (i j k : Nat) (h1 : a.length = j) (h2 : b.length = k) (h : i + j + k ≤ ns.length) :
    ((ns.take i ++ a ++ ns.drop (i + j)).take (i + j) ++ b ++ (ns.take i ++ a ++ ns.drop (i + j)).drop (i + j + k)) = ns.take i ++ (a ++ b) ++ ns.drop (i + j + k) := by
  have e : (ns.take i ++ a).length = i + j := by rw [List.length_append, List.length_take, h1]; omega
  have e1 : (ns.take i ++ a ++ ns.drop (i + j)).take (i + j) = ns.take i ++ a := by rw [← e, List.take_left]
  have e2 : (ns.take i ++ a ++ ns.drop (i + j)).drop (i + j + k) = ns.drop (i + j + k) := by
    rw [← e, List.drop_append, List.drop_eq_nil_of_le (by omega), List.nil_append]
    rw [List.drop_drop]; congr 1; omega
  rw [e1, e2]; simp
theorem seg_len (ns a : List Int) (i k : Nat) (h1 : a.length = k) (h : i + k ≤ ns.length) : (ns.take i ++ a ++ ns.drop (i + k)).length = ns.length := by
  simp [h1]; omega
theorem lt_bits (x : Int) (h0 : 0 ≤ x) : x < 2 ^ PySem.Builtin.Int.intBits x := by
  have h := PySem.intBits_le_iff.mp (Nat.le_refl (PySem.Builtin.Int.intBits x))
  have : ((x.natAbs : Nat) : Int) < ((2 ^ PySem.Builtin.Int.intBits x : Nat) : Int) := by exact_mod_cast h
  rw [Int.natAbs_of_nonneg h0] at this; simpa using this
theorem pow_mono2 {a b : Nat} (h : a ≤ b) : (2 : Int) ^ a ≤ 2 ^ b := by
  have : ((2 ^ a : Nat) : Int) ≤ ((2 ^ b : Nat) : Int) := by exact_mod_cast Nat.pow_le_pow_right (by decide) h
  simpa using this
theorem lt_figs {x : Int} {n : Nat} (hn : 0 < n) (h0 : 0 ≤ x) : x < 2 ^ (n * ((PySem.Builtin.Int.intBits x + n - 1) / n)) := by
  refine Int.lt_of_lt_of_le (lt_bits x h0) (pow_mono2 ?_)
  have h1 := Nat.div_add_mod (PySem.Builtin.Int.intBits x + n - 1) n
  have h2 := Nat.mod_lt (PySem.Builtin.Int.intBits x + n - 1) hn
  omega
theorem bits_lt {x : Int} {m : Nat} (h0 : 0 ≤ x) (h : x < 2 ^ m) : PySem.Builtin.Int.intBits x ≤ m := by
  refine PySem.intBits_le_iff.mpr ?_
  have : ((x.natAbs : Nat) : Int) < ((2 ^ m : Nat) : Int) := by rw [Int.natAbs_of_nonneg h0]; simpa using h
  exact_mod_cast this
theorem pow_bits {b : Int} (h0 : 2 ≤ b) (h1 : b ≤ 60) {j k : Nat} (hj : j ≤ k) : PySem.Builtin.Int.intBits (b ^ j) ≤ 6 * k + 1 := by
  refine bits_lt (Int.le_of_lt (Int.pow_pos (by omega))) (Int.lt_of_le_of_lt (pow_lt_bits (by omega) (by omega) j) ?_)
  have := pow_mono2 (show 6 * j ≤ 6 * k by omega)
  have h2 : (2 : Int) ^ (6 * k + 1) = 2 ^ (6 * k) * 2 := Int.pow_succ _ _
  have := two_pos (6 * k)
  omega
theorem log2_of_bits {y : Int} {m : Nat} (h : PySem.Builtin.Int.intBits y ≤ m) (hm : 0 < m) : y.natAbs.log2 < m := by
  unfold PySem.Builtin.Int.intBits at h
  by_cases hy : (y == 0) = true
  · have : y = 0 := by simpa using hy
    subst this; exact hm
  · rw [if_neg hy] at h; omega
/-- halving a stretch -/
inductive InB (k len dp un : Nat) (lo hi : Int) : Prop
  | mk (ne : lo + 1 ≠ hi) (mid : (lo + hi) / 2 = lo + ((k / 2 : Nat) : Int)) (l1 : k / 2 ≤ 1000) (l2 : k - k / 2 ≤ 1000) (s1 : k / 2 < k) (s2 : k - k / 2 < k) (p1 : 0 < k / 2) (p2 : 0 < k - k / 2) (sum : k / 2 + (k - k / 2) = k)
    (le1 : lo + ((k / 2 : Nat) : Int) ≤ len) (ge0 : 0 ≤ lo + ((k / 2 : Nat) : Int)) (hi2 : hi = lo + ((k / 2 : Nat) : Int) + ((k - k / 2 : Nat) : Int)) (t1 : (lo + ((k / 2 : Nat) : Int)).toNat = lo.toNat + k / 2) (t2 : hi.toNat = lo.toNat + k / 2 + (k - k / 2))
    (n1 : lo.toNat + k / 2 ≤ len) (n2 : lo.toNat + k / 2 + (k - k / 2) ≤ len) (d1 : dp + 1 + k / 2 < PySem.recursionLimit) (d2 : dp + 1 + (k - k / 2) < PySem.recursionLimit) (u1 : un + 3 + 8 * (k / 2) < PySem.cLine) (u2 : un + 3 + 8 * (k - k / 2) < PySem.cLine)
theorem room_half {a q r R c : Nat} (h : a + c * (q + r) < R) (hr : 0 < r) (hc : 1 ≤ c) : a + 1 + c * q < R := by
  have : c * 1 ≤ c * r := Nat.mul_le_mul_left c hr
  rw [Nat.mul_add] at h
  omega
theorem inB {k len dp un : Nat} {lo hi : Int} (hd : dp + k < PySem.recursionLimit) (hu : un + 8 * k < PySem.cLine) (hk0 : 0 < k) (h1 : ¬ k = 1) (hlo : 0 ≤ lo) (hhi : hi = lo + (k : Int)) (hlen : hi ≤ len) (hsz : len < 1000) : InB k len dp un lo hi := by
  have a1 : 0 < k / 2 := by omega
  have a2 : k / 2 < k := by omega
  generalize hq : k / 2 = q at *
  obtain ⟨r, rfl⟩ : ∃ r, k = q + r := ⟨k - q, (Nat.add_sub_of_le (Nat.le_of_lt a2)).symm⟩
  have a3 : 0 < r := Nat.pos_of_ne_zero fun h => by subst h; exact Nat.lt_irrefl _ a2
  have e : q + r - q = r := Nat.add_sub_cancel_left ..
  obtain ⟨l, rfl⟩ := Int.eq_ofNat_of_zero_le hlo
  subst hhi
  have hn : l + (q + r) ≤ len := Int.ofNat_le.mp hlen
  have hq1 : q ≤ 1000 := by omega
  have hr1 : r ≤ 1000 := by omega
  have hn1 : l + q ≤ len := Nat.le_trans (Nat.add_le_add_left (Nat.le_add_right q r) l) hn
  have hd1 : dp + 1 + q < PySem.recursionLimit := by simpa using room_half (c := 1) (by simpa using hd) a3 (Nat.le_refl 1)
  have hd2 : dp + 1 + r < PySem.recursionLimit := by simpa using room_half (c := 1) (r := q) (by simpa [Nat.add_comm r q] using hd) a1 (Nat.le_refl 1)
  have hu1 : un + 3 + 8 * q < PySem.cLine := by omega
  have hu2 : un + 3 + 8 * r < PySem.cLine := by omega
  refine .mk ?_ ?_ ?_ ?_ ?_ ?_ ?_ ?_ ?_ ?_ ?_ ?_ ?_ ?_ ?_ ?_ ?_ ?_ ?_ ?_
  all_goals (try rw [hq])
  all_goals (try rw [e])
  · omega
  · omega
  · exact hq1
  · exact hr1
  · exact a2
  · exact Nat.lt_add_of_pos_left a1
  · exact a1
  · exact a3
  · exact Int.ofNat_le.mpr hn1
  · exact Int.natCast_nonneg (l + q)
  · exact (Int.add_assoc l q r).symm
  · rfl
  · exact (Nat.add_assoc l q r).symm
  · exact hn1
  · exact Nat.le_trans (Nat.le_of_eq (Nat.add_assoc l q r)) hn
  · exact hd1
  · exact hd2
  · exact hu1
  · exact hu2
theorem add_sub_left (a b : Int) : a + b - a = b := by omega
end Mine
end

section
open PySem PySem.W PyProof.Rows PySem.Calls PySem.Spec
namespace Mine
set_option maxRecDepth 100000
set_option maxHeartbeats 8000000
theorem fillK : (fun P => hd.heap_39 P) = hd.heap_39 ∧ PySem.Challenge.rw_wv0074_01 = PySem.Challenge.rw_wv0074_01 := by
  k_fill
  w_top off
  exact ⟨rfl, rfl⟩
set_option pp.deepTerms false
set_option pp.deepTerms.threshold 4
section
variable {prog : Program} {w : World} {p : Program} {loose : List Str} {mean : ExcName → Option Value} {mg mb : Str → Option Value} {dp un : Nat} {gd : Option (List Code)} {cn : Str} {cs : Scope} {a : Addr} {ccd : Value} {cl : List (Str × Addr)} {outer : List Env} {A₀ : Around} {base h₀ : Heap} {L : Addr} {m : Str → Option Value} {s : Shared}
    {Q E : Value → Shared → Prop}

local macro_rules | `(tactic| walk_at "call builtin:divmod") => `(tactic| (k_here; refine Halt.out ?_))

theorem ct_div2 {x y n : Int} {tx ty tn : Tok} 
    (B : Below A₀ base outer h₀) (F : Fr h₀ L s.heap m) (X : (hd.heap_39 w.params).In h₀) (T : Top p loose mean mg mb h₀) (hk : cs.kind = .function) (hd : dp + 1 < recursionLimit)
    (hn : (Builtin.Int.intBits x : Int) - n ≤ 4000) (hy : y ≠ 0) (hl : y.natAbs.log2 < 9000)
    (ret : ∀ t1 t2 D h' tk, Ext [] s.heap h' → s.heap.get? D = none → h'.get? D = some (tupO [.int (x.fdiv y) t1, .int (x.fmod y) t2]) → Q (.ref D) { s with heap := h', toks := tk }) :
    wpAny (model prog w) (ktrTop dp un gd cn cs L a ccd cl outer) (call (.ref 29) [.int x tx, .int y ty, .int n tn]) Q E s := by
  have hp : Builtin.divisionGoesByPylong x y = false := PyProof.noPylong_of_log2 hl
  (refine wpAny_call ?_; k_dflt (refine' enter_but (ds := []) ?k1 ?k2 ?k3 News.nil ?k5 ?kA ?kF ?kK ?k6 ?kd ?k7 ?k8 ?k9 ?kB ?_ ?c5 ?c2 ?c3 ?c4; (case kA => exact rfl); (case kF => exact rfl); (case kK => assumption); (case k1 => k_asm); (case k2 => k_asm); (case k3 => k_asm); (case k5 => k_asm); (case k6 => exact Fr.keep (by k_asm) _ _ ((by assumption : Frag.In _ _) _ _ (by k_is))); (case kd => exact rfl); (case k7 => exact Heap.CodeRec.keeps (codeRec_of (by assumption) (by k_is)) (Fr.keep (by k_asm))); (case k8 => ktr_room); (case k9 => first | exact BindsTo.of_eq rfl | exact binds_K (by k_in) rfl (by k_is) rfl rfl rfl | fail "ext_enter: no rule for these arguments"); (case c5 => decide); (case kB => exact locs rfl); (case c2 => exact rfl); (case c3 => exact rfl); (case c4 => exact rfl); k_whole; intro g' L' h' tk0 mz EG NG F' N' l1 B' X' T' ST' envz Az Qz Ez; clear NG l1 ST'; (try dsimp only [List.map_nil, List.map_cons] at EG); (try dsimp only)))
  k_steps
  refine Halt.on ?_
  refine divmod_N (by assumption) (by assumption) (by assumption) ?_ (Or.inl (by assumption))
  intro hz Fz Nz
  k_steps
  refine ret ?t1 ?t2 _ _ _ ?a ?b ?c
  case c => exact new_some (by k_asm) (by k_mem)
  case a => exact ext_ret (by assumption) (by k_asm)
  case b => exact new_none (by assumption) (by k_asm) (by k_mem) (by intro q; cases q)
end
end Mine
end

section
open PySem PySem.W PyProof.Rows PySem.Calls PySem.Spec
namespace Mine
set_option maxRecDepth 100000
set_option maxHeartbeats 8000000
section
variable {prog : Program} {w : World} {A : Around} {E : Value → Shared → Prop} {s : Shared} {env : Env} {Q : Flow → Shared → Prop}

/-- a for loop by what holds of the state at each turn's start; n: the turns that are left -/
theorem for_inv {target : PySem.Expr} {it : Value} {body : List Stmt} (I : Nat → Shared → Prop) (hE : PassesOwn (model prog w) A env E)
    (turn : ∀ n s, I n s → wpAny (model prog w) A (pyNext it) (fun r s₁ => match r with
      | none => Q .next s₁
      | some v => wpAny (model prog w) A (assign target env v) (fun _ s₂ => wpAny (model prog w) A (execs body env) (fun f s₃ => match f with
          | .next | .cont => Halt (∃ m, m < n ∧ I m s₃)
          | .brk => Q .next s₃
          | .ret v => Q (.ret v) s₃) E s₂) E s₁) E s)
    (n : Nat) (h : I n s) (ht : ∀ v, letOwnedTupleGo target it v = pure () := by intro _; rfl) :
    codeAny (model prog w) A (.forLoop target it body [] env) (fun r s' => match r with | .ok f => Q f s' | .error e => cameBackBy (model prog w) A env E e s') s := by
  refine codeAny_forLoop I (fun n s hI => ?_) n h ht
  refine wpAny_mono (wpAny_passesOwn hE (turn n s hI)) (fun r s₁ h₁ => ?_) fun _ _ x => x
  cases r with
  | none => exact wpAny_execs_nil h₁
  | some v =>
    refine wpAny_mono (wpAny_passesOwn hE h₁) (fun _ s₂ h₂ => ?_) fun _ _ x => x
    refine wpAny_mono (wpAny_passesOwn hE h₂) (fun f s₃ h₃ => ?_) fun _ _ x => x
    cases f <;> exact h₃
end

theorem fr_eq {g h : Heap} {L : Addr} {m m' : Str → Option Value} (F : Fr g L h m) (e : ∀ y, m y = m' y) : Fr g L h m' := (funext e : m = m') ▸ F

section
variable {g h : Heap} {L : Addr} {m m₂ : Str → Option Value} {a b c d e : Str}
/-- the names that a loop stores, ahead of those that stand -/
theorem fr_canon1 (F : Fr g L h m) (k : ∀ y, y ≠ a → m y = m₂ y) : Fr g L h (fun y => if y = a then m a else m₂ y) := fr_eq F fun y => by
  by_cases h1 : y = a
  · subst h1; simp
  · rw [if_neg h1]; exact k y h1
theorem fr_canon2 (F : Fr g L h m) (k : ∀ y, y ≠ a → y ≠ b → m y = m₂ y) : Fr g L h (fun y => if y = a then m a else if y = b then m b else m₂ y) := fr_eq F fun y => by
  by_cases h1 : y = a
  · subst h1; simp
  rw [if_neg h1]
  by_cases h2 : y = b
  · subst h2; simp
  rw [if_neg h2]; exact k y h1 h2
theorem fr_canon3 (F : Fr g L h m) (k : ∀ y, y ≠ a → y ≠ b → y ≠ c → m y = m₂ y) : Fr g L h (fun y => if y = a then m a else if y = b then m b else if y = c then m c else m₂ y) := fr_eq F fun y => by
  by_cases h1 : y = a
  · subst h1; simp
  rw [if_neg h1]
  by_cases h2 : y = b
  · subst h2; simp
  rw [if_neg h2]
  by_cases h3 : y = c
  · subst h3; simp
  rw [if_neg h3]; exact k y h1 h2 h3
theorem fr_canon4 (F : Fr g L h m) (k : ∀ y, y ≠ a → y ≠ b → y ≠ c → y ≠ d → m y = m₂ y) : Fr g L h (fun y => if y = a then m a else if y = b then m b else if y = c then m c else if y = d then m d else m₂ y) := fr_eq F fun y => by
  by_cases h1 : y = a
  · subst h1; simp
  rw [if_neg h1]
  by_cases h2 : y = b
  · subst h2; simp
  rw [if_neg h2]
  by_cases h3 : y = c
  · subst h3; simp
  rw [if_neg h3]
  by_cases h4 : y = d
  · subst h4; simp
  rw [if_neg h4]; exact k y h1 h2 h3 h4
end
/-- a frame's map by a name of its own -/
theorem with_map {g h : Heap} {L : Addr} {m : Str → Option Value} (F : Fr g L h m) {P : Prop} (k : ∀ m₂, m₂ = m → P) : P := k m rfl
theorem let_map {P : Prop} {g h : Heap} {L : Addr} {m : Str → Option Value} (F : Fr g L h m) (k : let mz := m; Fr g L h mz → P) : P := k F
theorem let_led {P : Prop} {g h : Heap} {L : Addr} {l : List (Addr × Obj)} (N : News g L h l) (k : let lz := l; News g L h lz → P) : P := k N
/-- the iterator's own part of a ledger -/
def IterIs (cls : String) (l : Addr) (i : Int) (o : Obj) : Prop := o.cls = .type cls ∧ o.data = .fields #[.ref l, rawInt i]
section
variable {prog : Program} {w : World} {A : Around} {E : Value → Shared → Prop} {s : Shared} {h₀ : Heap} {L I l : Addr} {m : Str → Option Value} {oI : Obj} {rest news : List (Addr × Obj)} {items : Array Value}

theorem news_head {h' : Heap} {o' : Obj} (N : News h₀ L s.heap ((I, oI) :: rest)) (off : ∀ p ∈ rest, p.1 ≠ I) (e : Heap.SameBut I s.heap h') (ho : h'.get? I = some o') : News h₀ L h' ((I, o') :: rest) := News.setHead N off e ho

theorem pyIter_list_N {Q : Value → Shared → Prop} (F : Fr h₀ L s.heap m) (N : News h₀ L s.heap news) (hl : s.heap.IsList l items)
    (h : ∀ I h' oI, IterIs "list_iterator" l 0 oI → Fr h₀ L h' m → News h₀ L h' ((I, oI) :: news) → (∀ p ∈ news, p.1 < I) → (l < I) → Q (.ref I) { s with heap := h' }) : wpAny (model prog w) A (pyIter (.ref l)) Q E s := by
  obtain ⟨ol, hol, _⟩ := id hl
  exact wpAny_pyIter_list hl (h _ _ { cls := .type "list_iterator", data := .fields #[.ref l, .int 0 0] } ⟨rfl, rfl⟩ (F.push _) (N.push F _) (fun p hp => Heap.lt_size (N p hp).1) (Heap.lt_size hol))

theorem next_list {i : Nat} {v : Value} {Q : Option Value → Shared → Prop} (F : Fr h₀ L s.heap m) (N : News h₀ L s.heap ((I, oI) :: rest)) (off : ∀ p ∈ rest, p.1 ≠ I) (c : IterIs "list_iterator" l i oI)
    (hl : s.heap.IsList l items) (hx : items[i]? = some v)
    (h : ∀ h' oI', IterIs "list_iterator" l ((i + 1 : Nat) : Int) oI' → Fr h₀ L h' m → News h₀ L h' ((I, oI') :: rest) → Heap.SameBut I s.heap h' → Q (some v) { s with heap := h' }) : wpAny (model prog w) A (pyNext (.ref I)) Q E s := by
  have z := N _ (.head _)
  refine wpAny_pyNext_list_item (i := i) ⟨oI, z.1, c.1, c.2⟩ hl hx fun h' hit hs => ?_
  obtain ⟨o', ho', c1, c2⟩ := hit
  exact h h' o' ⟨c1, c2⟩ (F.change hs z.2.1 z.2.2) (news_head N off hs ho') hs

theorem next_list_end {i : Nat} {Q : Option Value → Shared → Prop} (hh : A.handled = none) (F : Fr h₀ L s.heap m) (N : News h₀ L s.heap ((I, oI) :: rest)) (off : ∀ p ∈ rest, p.1 ≠ I) (c : IterIs "list_iterator" l i oI)
    (hl : s.heap.IsList l items) (hx : items[i]? = none)
    (h : ∀ h', Fr h₀ L h' m → News h₀ L h' rest → (∀ b o, b ≠ I → s.heap.get? b = some o → h'.get? b = some o) → Q none { s with heap := h' }) : wpAny (model prog w) A (pyNext (.ref I)) Q E s := by
  have z := N _ (.head _)
  refine wpAny_pyNext_list_end hh (i := i) ⟨oI, z.1, c.1, c.2⟩ hl hx fun h' hs => ?_
  have e : Ext [I] s.heap h' := fun b o n q => hs b o (by simpa using n) q
  exact h h' (ext_fr e F (by simpa using z.2.2) (by simpa using Ne.symm z.2.1)) (ext_news e (news_tail N) fun p hp => by simpa using off p hp) fun b o n q => hs b o n q

theorem next_rev {i : Nat} {v : Value} {Q : Option Value → Shared → Prop} (F : Fr h₀ L s.heap m) (N : News h₀ L s.heap ((I, oI) :: rest)) (off : ∀ p ∈ rest, p.1 ≠ I) (c : IterIs "list_reverseiterator" l i oI)
    (hl : s.heap.IsList l items) (hx : items[i]? = some v)
    (h : ∀ h' oI', IterIs "list_reverseiterator" l ((i : Int) - 1) oI' → Fr h₀ L h' m → News h₀ L h' ((I, oI') :: rest) → Q (some v) { s with heap := h' }) : wpAny (model prog w) A (pyNext (.ref I)) Q E s := by
  have z := N _ (.head _)
  refine wpAny_pyNext_rev_item (i := i) ⟨oI, z.1, c.1, c.2⟩ hl hx fun h' hit hs => ?_
  obtain ⟨o', ho', c1, c2⟩ := hit
  exact h h' o' ⟨c1, c2⟩ (F.change hs z.2.1 z.2.2) (news_head N off hs ho')

theorem next_rev_end {Q : Option Value → Shared → Prop} (hh : A.handled = none) (F : Fr h₀ L s.heap m) (N : News h₀ L s.heap ((I, oI) :: rest)) (off : ∀ p ∈ rest, p.1 ≠ I) (c : IterIs "list_reverseiterator" l (-1) oI)
    (h : ∀ h', Fr h₀ L h' m → News h₀ L h' rest → Q none { s with heap := h' }) : wpAny (model prog w) A (pyNext (.ref I)) Q E s := by
  have z := N _ (.head _)
  refine wpAny_pyNext_rev_end hh ⟨oI, z.1, c.1, c.2⟩ fun h' hs => ?_
  have e : Ext [I] s.heap h' := fun b o n q => hs b o (by simpa using n) q
  exact h h' (ext_fr e F (by simpa using z.2.2) (by simpa using Ne.symm z.2.1)) (ext_news e (news_tail N) fun p hp => by simpa using off p hp)
end
end Mine
end

section
open PySem PySem.W PyProof.Rows PySem.Calls PySem.Spec
namespace Mine
set_option maxRecDepth 100000
set_option maxHeartbeats 8000000
theorem fillK2 : (fun P => hd.heap_39 P) = hd.heap_39 ∧ PySem.Challenge.rw_wv0074_01 = PySem.Challenge.rw_wv0074_01 := by
  k_fill
  w_top off
  exact ⟨rfl, rfl⟩
set_option pp.deepTerms true
set_option pp.deepTerms.threshold 4

def CellAt (h : Heap) (c : Addr) (v : Value) : Prop := ∃ o, h.get? c = some o ∧ o.data = .cell (some v)
theorem CellAt.ext {h h' : Heap} {c : Addr} {v : Value} {as : List Addr} (x : CellAt h c v) (e : Ext as h h') (n : c ∉ as) : CellAt h' c v := let ⟨o, a, b⟩ := x; ⟨o, e _ _ n a, b⟩
theorem CellAt.keeps {h h' : Heap} {c : Addr} {v : Value} (x : CellAt h c v) (e : ∀ b o, h.get? b = some o → h'.get? b = some o) : CellAt h' c v := let ⟨o, a, b⟩ := x; ⟨o, e _ _ a, b⟩
theorem CellAt.ne {h : Heap} {c D : Addr} {v : Value} {o : Obj} {xs : Array Value} {n : Nat} (x : CellAt h c v) (e : h.get? D = some o) (d : o.data = .seq xs n) : c ≠ D := by
  rintro rfl
  obtain ⟨o', a, b⟩ := x
  rw [e] at a; cases a; rw [d] at b; cases b

section
variable {M : Model} {A : Around} {E : Value → Shared → Prop} {s : Shared} {h₀ : Heap} {L a : Addr} {m : Str → Option Value} {cn : Str} {cs : Scope} {ccd : Value} {cl : List (Str × Addr)} {x : Str} {pos : Pos} {v : Value} {Q : Value → Shared → Prop} {c : Addr}
theorem nameX_FB (F : Fr h₀ L s.heap m) (hc : cl.lookup x = some c) (hv : CellAt h₀ c v) (h : Q v s)
    (hk : cs.kind = .function := by rfl) (hx : (envX cn cs L a ccd cl).kindOf x = some .free := by rfl) (hb : (x == ("__debug__" : Str)) = false := by decide) (hn : (x == ("__classdict__" : Str)) = false := by decide) :
    wpAny M A (eval (.Name x pos) (envX cn cs L a ccd cl)) Q E s := by
  obtain ⟨o, e, d⟩ := hv
  exact wpAny_Name (wpAny_loadName_free hk hx hc ⟨o, F.keep _ _ e, d⟩ h hn) hb
end
local macro_rules | `(tactic| walk_at "eval Name") => `(tactic| (k_here; k_dflt (refine' nameX_FB ?F ?c ?v ?_ ?a ?b; (case a => rfl); (case b => rfl); (case F => k_asm); (case c => rfl); (case v => assumption); k_whole)))

theorem fnAt_keeps {q : Addr} {h h' : Heap} (x : FnAt q h) (e : ∀ b o, h.get? b = some o → h'.get? b = some o) : FnAt q h' := let ⟨a, b, c, d, r⟩ := x; ⟨a, b, c, d, e _ _ r⟩
section
variable {M : Model} {A : Around} {E : Value → Shared → Prop} {s : Shared} {env : Env} {pos : Pos} {first : List Value} {Q : Value → Shared → Prop} {q : Addr}
/-- a def of the ground is called -/
theorem callWith_FB {h₀ : Heap} {e : PySem.Expr} {rest : List PySem.Expr} (_X : FnAt q h₀) (_k : ∀ b o, h₀.get? b = some o → s.heap.get? b = some o) (h : wpAny M A (spliced (backTo pos (starEach (e :: rest) env))) (fun vs s₁ => (∀ b o, h₀.get? b = some o → s₁.heap.get? b = some o) ∧ wpAny M A (call (.ref q) (first ++ vs)) Q E s₁) E s)
    (he : starEach (e :: rest) env = (false, eval e env) :: starEach rest env := by rfl) (hplain : (backTo pos (starEach rest env)).any (·.1) = false := by rfl) :
    wpAny M A (callWith pos (.ref q) first (backTo pos (starEach (e :: rest) env)) []) Q E s := by
  rw [he] at h ⊢
  exact callWith_of (P := fun h => ∀ b o, h₀.get? b = some o → h.get? b = some o) (by show ((false || (backTo pos (starEach rest env)).any (·.1)) || false) = false; rw [hplain]; rfl) (fun h P => keeps_F h (fnAt_keeps _X P)) (evalArgs_plain h)
end
local macro_rules | `(tactic| walk_at "callWith ref") => `(tactic| (k_here; k_dflt (refine' callWith_FB ?x ?k ?_; (case x => assumption); (case k => exact Fr.keep (by k_asm)); k_whole)))
local macro_rules | `(tactic| walk_at "And") => `(tactic| ((with_reducible show (∀ b o, Heap.get? _ b = some o → Heap.get? _ b = some o) ∧ _); refine ⟨Fr.keep (by k_asm), ?_⟩; try dsimp only [List.nil_append, List.cons_append]))

local macro_rules | `(tactic| walk_at "binaryOp LShift int int") => `(tactic| (refine lshift_int (by assumption) (by assumption) ?_))
local macro_rules | `(tactic| walk_at "binaryOp RShift int int") => `(tactic| (refine rshift_int (by first | assumption | decide) ?_))
def bodyOf : Stmt → List Stmt
  | .FunctionDef _ _ b _ _ _ _ _ _ _ => b
  | _ => []
def paramsOf : Stmt → Arguments
  | .FunctionDef _ a _ _ _ _ _ _ _ _ => a
  | _ => default
def scopeOf : Stmt → Scope
  | .FunctionDef _ _ _ _ _ _ s _ _ _ => s
  | _ => default
def posOf : Stmt → Pos
  | .FunctionDef _ _ _ _ _ _ _ _ _ p => p
  | _ => default
/-- the def «inner» of _int2digits, of _digits2int -/
def in1 : Stmt := (bodyOf (PySem.Challenge.pw_wv0074_01.main.body.getD 5 (.Pass default))).getD 1 (.Pass default)
def in2 : Stmt := (bodyOf (PySem.Challenge.pw_wv0074_01.main.body.getD 6 (.Pass default))).getD 0 (.Pass default)
abbrev fn1 (cn ci ca : Addr) (doc pm : Value) (c' : Addr) (ctv : Value) : Obj :=
  fnMade (Str.ofString "inner") (Str.ofString "_int2digits.<locals>.inner") (paramsOf in1) (bodyOf in1) (scopeOf in1) [(Str.ofString "n", cn), (Str.ofString "inner", ci), (Str.ofString "a_digits", ca)] doc pm c' ctv

section
variable {prog : Program} {w : World} {p : Program} {loose : List Str} {mean : ExcName → Option Value} {mg mb : Str → Option Value} 

theorem ct_in1 {n : Nat} {tn : Tok} {f D ci cn ca c' : Addr} {doc pm ctv : Value} {ep : Nat} (hn0 : 0 < n) (hn1 : n ≤ 200) : ∀ (k : Nat) {dp un : Nat} {gd : Option (List Code)} {nm : Str} {cs : Scope} {a : Addr} {ccd : Value} {cl : List (Str × Addr)} {outer : List Env} {A₀ : Around} {base h₀ : Heap} {L : Addr} {m : Str → Option Value} {s : Shared}
    {Q E : Value → Shared → Prop} {x lo hi : Int} {tx t1 t2 : Tok} {vs : List Value} {ns : List Int}
    (B : Below A₀ base outer h₀) (F : Fr h₀ L s.heap m) (X : (hd.heap_39 w.params).In h₀) (T : Top p loose mean mg mb h₀) (hk : cs.kind = .function) (hd : dp + k < recursionLimit) (hu : un + 8 * k < cLine)
    (N : News h₀ L s.heap [(D, listOf vs.toArray ep)]) (hI : IntsAre vs ns) (hsz : ns.length < 1000)
    (hf : s.heap.get? f = some (fn1 cn ci ca doc pm c' ctv)) (hc' : s.heap.CodeRec (.ref c') (Str.ofString "_int2digits.<locals>.inner"))
    (hn : CellAt s.heap cn (.int n tn)) (hci : CellAt s.heap ci (.ref f)) (hca : CellAt s.heap ca (.ref D))
    (hk0 : 0 < k) (hlo : 0 ≤ lo) (hhi : hi = lo + (k : Int)) (hlen : hi ≤ ns.length) (hx0 : 0 ≤ x) (hx1 : x < 2 ^ (n * k))
    (ret : ∀ vs' h' tk, Ext [D] s.heap h' → h'.get? D = some (listOf vs'.toArray ep) → IntsAre vs' (ns.take lo.toNat ++ dig n k x ++ ns.drop hi.toNat) → Q .none { s with heap := h', toks := tk }),
    wpAny (model prog w) (ktrTop dp un gd nm cs L a ccd cl outer) (call (.ref f) [.int x tx, .int lo t1, .int hi t2]) Q E s := by
  intro k
  induction k using Nat.strongRecOn with
  | ind k IH =>
    intro dp un gd nm cs a ccd cl outer A₀ base h₀ L m s Q E x lo hi tx t1 t2 vs ns B F X T hk hd hu N hI hsz hf hc' hn hci hca hk0 hlo hhi hlen hx0 hx1 ret
    have hD := (N _ (.head _)).1
    have hcn := hn.ne hD rfl
    have hcin := hci.ne hD rfl
    have hcan := hca.ne hD rfl
    have hfD : f ≠ D := by rintro rfl; rw [hf] at hD; exact absurd (congrArg Obj.cls (Option.some.inj hD)) (by intro q; simp at q)
    refine wpAny_call ?_
    k_dflt (refine' enter_but (ds := [(D, _)]) B F X N T ?kA ?kF ?kK hf rfl hc' ?k8 ?k9 ?kB ?_ ?c5 ?c2 ?c3 ?c4)
    case kA => exact rfl
    case kF => exact rfl
    case kK => exact hk
    case k8 => ktr_room
    case k9 => exact BindsTo.of_eq rfl
    case kB => exact locs rfl
    case c5 => decide
    case c2 => rfl
    case c3 => rfl
    case c4 => rfl
    intro g' L' h' tk0 mz EG NG F' N' l1 B' X' T' ST' envz Az Qz Ez
    clear ST'
    have hn' := hn.ext EG (by simpa using hcn)
    have hci' := hci.ext EG (by simpa using hcin)
    have hca' := hca.ext EG (by simpa using hcan)
    have hf' : g'.get? f = some (fn1 cn ci ca doc pm c' ctv) := EG _ _ (by simpa using hfD) hf
    have hfn : FnAt f g' := ⟨_, _, _, _, hf'⟩
    have hcr' : g'.CodeRec (.ref c') (Str.ofString "_int2digits.<locals>.inner") := by
      obtain ⟨c, o, ws, t, q1, q2, q3, q4⟩ := hc'
      cases q1
      refine ⟨_, o, ws, t, rfl, EG _ _ ?_ q2, q3, q4⟩
      simp only [List.map_cons, List.map_nil, List.mem_singleton]
      rintro rfl
      rw [hD] at q2; cases q2; cases q3
    have hDg : g'.get? D = none := NG D (by simp)
    have hLD : L' ∉ [D] := by have := l1 _ (List.Mem.head _); simp only [List.mem_singleton]; dsimp only at this; intro q; subst q; exact absurd this (Nat.lt_irrefl _)
    have hlen' := hI.length
    conv in (bodyOf in1) => whnf
    by_cases h1 : k = 1
    · subst h1
      have e1 : lo + 1 = hi := by omega
      k_steps
      · refine ret _ _ _ (ext_ret EG (by k_asm)) (new_some (by k_asm) (.head _)) ?_
        have e2 : hi.toNat = lo.toNat + 1 := by omega
        rw [dig_one hx0 (by simpa using hx1), e2, ← seg_one _ _ _ (by omega)]
        assumption
      all_goals exact absurd e1 (by assumption)
    · obtain ⟨zne, zmid, zl1, zl2, zs1, zs2, zp1, zp2, zsum, zle1, zge0, zhi2, zt1, zt2, zn1, zn2, zd1, zd2, zu1, zu2⟩ := inB hd hu hk0 h1 hlo hhi hlen hsz
      have e1 := zne
      have eM : (lo + hi).fdiv (2 ^ Int.toNat 1) = lo + ((k / 2 : Nat) : Int) := by
        rw [show (2 : Int) ^ Int.toNat 1 = 2 from rfl, fdiv_pos (by decide)]; exact zmid
      have eS : ((lo + hi).fdiv (2 ^ Int.toNat 1) - lo) * (n : Int) = ((n * (k / 2) : Nat) : Int) := by
        rw [eM, Int.natCast_mul, Int.mul_comm, add_sub_left]
      have hs0 : 0 ≤ ((lo + hi).fdiv (2 ^ Int.toNat 1) - lo) * (n : Int) := by rw [eS]; exact Int.natCast_nonneg _
      have eT : (((lo + hi).fdiv (2 ^ Int.toNat 1) - lo) * (n : Int)).toNat = n * (k / 2) := by rw [eS]; exact Int.toNat_natCast _
      have eU : x.fdiv (2 ^ (((lo + hi).fdiv (2 ^ Int.toNat 1) - lo) * (n : Int)).toNat) = x / 2 ^ (n * (k / 2)) := by rw [eT, fdiv_pos (two_pos _)]
      have hsz2 : n * (k / 2) ≤ 200 * 1000 := Nat.mul_le_mul hn1 zl1
      have hkk : n * (k / 2) + n * (k - k / 2) = n * k := by rw [← Nat.mul_add, zsum]
      have hU1 : x / 2 ^ (n * (k / 2)) < 2 ^ (n * (k - k / 2)) := by
        refine Int.ediv_lt_of_lt_mul (two_pos _) ?_
        rw [← Int.pow_add, Nat.add_comm, hkk]; exact hx1
      have hU0 : 0 ≤ x / 2 ^ (n * (k / 2)) := Int.ediv_nonneg hx0 (Int.le_of_lt (two_pos _))
      have hsb : (Builtin.Int.intBits (x.fdiv (2 ^ (((lo + hi).fdiv (2 ^ Int.toNat 1) - lo) * (n : Int)).toNat)) : Int) + ((lo + hi).fdiv (2 ^ Int.toNat 1) - lo) * (n : Int) ≤ 2 ^ 27 := by
        rw [eU, eS]
        have b1 := bits_lt hU0 hU1
        have b2 : n * (k - k / 2) ≤ 200 * 1000 := Nat.mul_le_mul hn1 zl2
        omega
      k_steps
      rename Fr _ _ _ _ => F1
      rename News _ _ _ _ => N1
      rw [eU, eM]
      have exl : Builtin.bitXor x (x / 2 ^ (n * (k / 2)) * 2 ^ (((lo + hi).fdiv (2 ^ Int.toNat 1) - lo) * (n : Int)).toNat) = x % 2 ^ (n * (k / 2)) := by rw [eT]; exact xor_low _ hx0
      rw [← eM, exl, eM]
      k_dflt (refine' IH (k / 2) zs1 B' F1 X' T' ?_ ?_ ?_ N1 hI hsz (F1.keep _ _ hf') (hcr'.keeps F1.keep) (hn'.keeps F1.keep) (hci'.keeps F1.keep) (hca'.keeps F1.keep) zp1 hlo rfl zle1 (Int.emod_nonneg _ (Int.ne_of_gt (two_pos _))) (Int.emod_lt_of_pos _ (two_pos _)) ?_)
      · rfl
      · exact zd1
      · exact zu1
      intro vs1 h1 tk1 e1' hD1 hI1
      have F2 := ext_fr e1' F1 (by simpa using hDg) hLD
      have N2 := news_turn N1 (news := []) News.nil hD1
      have hlen1 := hI1.length
      have hl1 : (ns.take lo.toNat ++ dig n (k / 2) (x % 2 ^ (n * (k / 2))) ++ ns.drop (lo + ((k / 2 : Nat) : Int)).toNat).length = ns.length := by
        rw [zt1]
        exact seg_len _ _ _ _ (dig_length _ _ _) zn1
      clear N1
      dsimp only
      k_steps
      rw [eU, eM]
      k_dflt (refine' IH (k - k / 2) zs2 B' F2 X' T' ?_ ?_ ?_ N2 hI1 (by rw [hl1]; exact hsz) (F2.keep _ _ hf') (hcr'.keeps F2.keep) (hn'.keeps F2.keep) (hci'.keeps F2.keep) (hca'.keeps F2.keep) zp2 zge0 zhi2 (by rw [hl1]; exact hlen) hU0 hU1 ?_)
      · rfl
      · exact zd2
      · exact zu2
      intro vs2 h2 tk2 e2' hD2 hI2
      have F4 := ext_fr e2' F2 (by simpa using hDg) hLD
      have N4 := news_turn N2 (news := []) News.nil hD2
      dsimp only
      k_steps
      refine ret vs2 h2 tk2 (ext_ret EG F4) hD2 ?_
      have a1 := zt1
      have a2 := zt2
      have a3 : dig n k x = dig n (k / 2) (x % 2 ^ (n * (k / 2))) ++ dig n (k - k / 2) (x / 2 ^ (n * (k / 2))) := by
        rw [← dig_append, zsum]
      rw [a1, a2, seg_two _ _ _ _ _ _ (dig_length _ _ _) (dig_length _ _ _) zn2, ← a3] at hI2
      rw [a2]; exact hI2
end
set_option maxRecDepth 100000
set_option maxHeartbeats 8000000
set_option linter.unusedVariables false
theorem fillK3 : (fun P => hd.heap_39 P) = hd.heap_39 ∧ PySem.Challenge.rw_wv0074_01 = PySem.Challenge.rw_wv0074_01 := by
  k_fill
  w_top off
  exact ⟨rfl, rfl⟩
abbrev fn2 (cn ci ca : Addr) (doc pm : Value) (c' : Addr) (ctv : Value) : Obj :=
  fnMade (Str.ofString "inner") (Str.ofString "_digits2int.<locals>.inner") (paramsOf in2) (bodyOf in2) (scopeOf in2) [(Str.ofString "n", cn), (Str.ofString "inner", ci), (Str.ofString "digits", ca)] doc pm c' ctv

section
variable {prog : Program} {w : World} {p : Program} {loose : List Str} {mean : ExcName → Option Value} {mg mb : Str → Option Value} 

theorem ct_in2 {n : Nat} {tn : Tok} {f D ci cn ca c' : Addr} {doc pm ctv : Value} {vs : List Value} {ns : List Int} (hn1 : n ≤ 200) (hI : IntsAre vs ns) (hsz : ns.length < 1000) (hdg : ∀ d ∈ ns, 0 ≤ d ∧ d < 2 ^ n) : ∀ (k : Nat) {dp un : Nat} {gd : Option (List Code)} {nm : Str} {cs : Scope} {a : Addr} {ccd : Value} {cl : List (Str × Addr)} {outer : List Env} {A₀ : Around} {base h₀ : Heap} {L : Addr} {m : Str → Option Value} {s : Shared}
    {Q E : Value → Shared → Prop} {lo hi : Int} {t1 t2 : Tok}
    (B : Below A₀ base outer h₀) (F : Fr h₀ L s.heap m) (X : (hd.heap_39 w.params).In h₀) (T : Top p loose mean mg mb h₀) (hk : cs.kind = .function) (hd : dp + k < recursionLimit) (hu : un + 8 * k < cLine)
    (hD : s.heap.IsList D vs.toArray) 
    (hf : s.heap.get? f = some (fn2 cn ci ca doc pm c' ctv)) (hc' : s.heap.CodeRec (.ref c') (Str.ofString "_digits2int.<locals>.inner"))
    (hn : CellAt s.heap cn (.int n tn)) (hci : CellAt s.heap ci (.ref f)) (hca : CellAt s.heap ca (.ref D))
    (hk0 : 0 < k) (hlo : 0 ≤ lo) (hhi : hi = lo + (k : Int)) (hlen : hi ≤ ns.length)
    (ret : ∀ t h' tk, Ext [] s.heap h' → Q (.int (val n (seg ns lo.toNat k)) t) { s with heap := h', toks := tk }),
    wpAny (model prog w) (ktrTop dp un gd nm cs L a ccd cl outer) (call (.ref f) [.int lo t1, .int hi t2]) Q E s := by
  intro k
  induction k using Nat.strongRecOn with
  | ind k IH =>
    intro dp un gd nm cs a ccd cl outer A₀ base h₀ L m s Q E lo hi t1 t2 B F X T hk hd hu hD hf hc' hn hci hca hk0 hlo hhi hlen ret
    refine wpAny_call ?_
    k_dflt (refine' enter_but (ds := []) B F X News.nil T ?kA ?kF ?kK hf rfl hc' ?k8 ?k9 ?kB ?_ ?c5 ?c2 ?c3 ?c4)
    case kA => exact rfl
    case kF => exact rfl
    case kK => exact hk
    case k8 => ktr_room
    case k9 => exact BindsTo.of_eq rfl
    case kB => exact locs rfl
    case c5 => decide
    case c2 => rfl
    case c3 => rfl
    case c4 => rfl
    intro g' L' h' tk0 mz EG NG F' N' l1 B' X' T' ST' envz Az Qz Ez
    clear ST'
    clear NG l1
    simp only [List.map_nil] at EG
    have n0 : ∀ b : Addr, b ∉ ([] : List Addr) := fun _ q => nomatch q
    have hn' := hn.ext EG (n0 _)
    have hci' := hci.ext EG (n0 _)
    have hca' := hca.ext EG (n0 _)
    have hf' : g'.get? f = some (fn2 cn ci ca doc pm c' ctv) := EG _ _ (n0 _) hf
    have hfn : FnAt f g' := ⟨_, _, _, _, hf'⟩
    have hcr' : g'.CodeRec (.ref c') (Str.ofString "_digits2int.<locals>.inner") := hc'.keeps fun b o e => EG b o (n0 _) e
    have hD' : g'.IsList D vs.toArray := hD.at fun o e => EG _ _ (n0 _) e
    have hlen' := hI.length
    conv in (bodyOf in2) => whnf
    by_cases h1 : k = 1
    · subst h1
      have e1 : lo + 1 = hi := by omega
      k_steps
      · have e2 : seg ns lo.toNat 1 = [ns.getD lo.toNat 0] := seg_single (by omega)
        have q := ret (by assumption) h' tk (ext_ret EG F')
        rw [e2] at q
        simpa [val] using q
      all_goals exact absurd e1 (by assumption)
    · obtain ⟨zne, zmid, zl1, zl2, zs1, zs2, zp1, zp2, zsum, zle1, zge0, zhi2, zt1, zt2, zn1, zn2, zd1, zd2, zu1, zu2⟩ := inB hd hu hk0 h1 hlo hhi hlen hsz
      have e1 := zne
      have eM : (lo + hi).fdiv (2 ^ Int.toNat 1) = lo + ((k / 2 : Nat) : Int) := by
        rw [show (2 : Int) ^ Int.toNat 1 = 2 from rfl, fdiv_pos (by decide)]; exact zmid
      have eS : ((lo + hi).fdiv (2 ^ Int.toNat 1) - lo) * (n : Int) = ((n * (k / 2) : Nat) : Int) := by
        rw [eM, Int.natCast_mul, Int.mul_comm, add_sub_left]
      have hs0 : 0 ≤ ((lo + hi).fdiv (2 ^ Int.toNat 1) - lo) * (n : Int) := by rw [eS]; exact Int.natCast_nonneg _
      have eT : (((lo + hi).fdiv (2 ^ Int.toNat 1) - lo) * (n : Int)).toNat = n * (k / 2) := by rw [eS]; exact Int.toNat_natCast _
      have hsz2 : n * (k / 2) ≤ 200 * 1000 := Nat.mul_le_mul hn1 zl1
      have hseg : ∀ i j, ∀ d ∈ seg ns i j, 0 ≤ d ∧ d < 2 ^ n := fun i j d q => hdg d (seg_mem q)
      have hsb : (Builtin.Int.intBits (val n (seg ns (lo + ((k / 2 : Nat) : Int)).toNat (k - k / 2))) : Int) + ((lo + hi).fdiv (2 ^ Int.toNat 1) - lo) * (n : Int) ≤ 2 ^ 27 := by
        rw [eS]
        have b0 := val_lt (hseg (lo + ((k / 2 : Nat) : Int)).toNat (k - k / 2))
        rw [seg_length (by rw [zt1]; exact zn2)] at b0
        have b1 := bits_lt (val_nonneg fun d q => (hseg _ _ d q).1) b0
        have b2 : n * (k - k / 2) ≤ 200 * 1000 := Nat.mul_le_mul hn1 zl2
        omega
      k_steps
      rename Fr _ _ _ _ => F1
      rename News _ _ _ _ => N1
      rw [eM]
      k_dflt (refine' IH (k - k / 2) zs2 B' F1 X' T' ?_ ?_ ?_ (hD'.at fun o e => F1.keep _ _ e) (F1.keep _ _ hf') (hcr'.keeps F1.keep) (hn'.keeps F1.keep) (hci'.keeps F1.keep) (hca'.keeps F1.keep) zp2 zge0 zhi2 hlen ?_)
      · rfl
      · exact zd2
      · exact zu2
      intro t3 h3 tk3 e3
      have F2 := ext_fr0 e3 F1
      have N2 := ext_news0 e3 N1
      clear F1 N1
      dsimp only
      k_steps
      rw [eM]
      k_dflt (refine' IH (k / 2) zs1 B' F2 X' T' ?_ ?_ ?_ (hD'.at fun o e => F2.keep _ _ e) (F2.keep _ _ hf') (hcr'.keeps F2.keep) (hn'.keeps F2.keep) (hci'.keeps F2.keep) (hca'.keeps F2.keep) zp1 hlo rfl zle1 ?_)
      · rfl
      · exact zd1
      · exact zu1
      intro t4 h4 tk4 e4
      have F3 := ext_fr0 e4 F2
      have N3 := ext_news0 e4 N2
      clear F2 N2
      dsimp only
      k_steps
      have eV : val n (seg ns (lo + ((k / 2 : Nat) : Int)).toNat (k - k / 2)) * 2 ^ ((lo + ((k / 2 : Nat) : Int) - lo) * (n : Int)).toNat + val n (seg ns lo.toNat (k / 2)) = val n (seg ns lo.toNat k) := by
        rw [← eM, eT, eM, zt1]
        have q := seg_split ns lo.toNat (k / 2) (k - k / 2)
        rw [zsum] at q
        rw [q, val_append, seg_length zn1, Int.mul_comm, Int.add_comm]
      rw [eV]
      exact ret _ _ _ (ext_ret EG F3)
end
end Mine
end

section
open PySem PySem.W PyProof.Rows PySem.Calls PySem.Spec
namespace Mine
set_option pp.deepTerms false
set_option pp.deepTerms.threshold 4
set_option maxRecDepth 100000
set_option maxHeartbeats 8000000
set_option linter.unusedVariables false
theorem fillK4 : (fun P => hd.heap_39 P) = hd.heap_39 ∧ PySem.Challenge.rw_wv0074_01 = PySem.Challenge.rw_wv0074_01 := by
  k_fill
  w_top off
  exact ⟨rfl, rfl⟩

/-- a def within is to be stepped by hand -/
structure NestMark : Prop where
  mk ::
section
variable {M : Model} {A : Around} {E : Value → Shared → Prop} {s : Shared} {h₀ : Heap} {L a : Addr} {m mg mb : Str → Option Value} {cn : Str} {cs : Scope} {ccd : Value} {cl clos : List (Str × Addr)} {news : List (Addr × Obj)} {p : Program} {loose : List Str} {mean : ExcName → Option Value}
  {name qual : Str} {params : Arguments} {body : List Stmt} {scope : Scope} {c P : Addr} {ps : Array Value} {pos : Pos} {firstLine : Nat}
/-- a def within a def, its code standing already; the table of codes is of the ground -/
theorem nest_base {Q : Value → Shared → Prop} {c' : Addr} (F : Fr h₀ L s.heap m) (N : News h₀ L s.heap news) (T : Top p loose mean mg mb h₀) (C : CodeHd h₀ c P) (hcd : ccd = .ref c) (hP : h₀.get? P = some (tabObj ps)) (ht : TriplesOk ps.toList)
    (hf : codeAmong pos ps.toList = some (.ref c')) (hcl : closureFor scope (envX cn cs L a ccd cl) = pure clos)
    (h : ∀ f ctv doc h' tk, Fr h₀ L h' m → News h₀ L h' ((f, fnMade name qual params body scope clos doc ((mg "__name__").getD .none) c' ctv) :: news) → (∀ q ∈ news, q.1 < f) → Q (.ref f) { s with heap := h', toks := tk }) :
    wpAny M A (makeFunction name qual params (.stmts body) scope (envX cn cs L a ccd cl) [] [] [] pos firstLine) Q E s := by
  have hP' := F.keep _ _ hP
  obtain ⟨bm, ob, b1, b2, b3, b4, b5, b6⟩ := T.bmain
  have n1 : bm ≠ P := by
    rintro rfl
    rw [hP] at b3; cases b3; cases b4
  have n2 : bm ≠ mainGlobals := by
    rintro rfl
    obtain ⟨o, es, ep, e, d, _⟩ := T.g
    rw [b3] at e; cases e; rw [d] at b6; cases b6
  refine makeFunction_hit (mg := mg) hcl rfl (T.g.keeps F.keep) hcd (C.keeps F.keep) hP' ht hf ⟨bm, ob, b1, b2, n2, n1, F.keep _ _ b3, b4, b5, b6⟩ fun ctv doc h' tk up big => ?_
  have F₁ : Fr h₀ L h' m := F.keeps up
  have N₁ : News h₀ L h' news := fun q hq => ⟨up _ _ (N q hq).1, (N q hq).2⟩
  exact h h'.objs.size ctv doc _ tk (F₁.push _) (N₁.push F₁ _) fun q hq => Heap.lt_size (N₁ q hq).1
end
/-- both tables stand full -/
structure Full (h : Heap) (c1 c2 : Addr) : Prop where
  tab1 : h.get? 38 = some (tabObj #[rawInt (posOf in1).line, rawInt (posOf in1).col, .ref c1])
  tab2 : h.get? 45 = some (tabObj #[rawInt (posOf in2).line, rawInt (posOf in2).col, .ref c2])
  code1 : h.CodeRec (.ref c1) (Str.ofString "_int2digits.<locals>.inner")
  code2 : h.CodeRec (.ref c2) (Str.ofString "_digits2int.<locals>.inner")
theorem Full.ext {h h' : Heap} {c1 c2 : Addr} (x : Full h c1 c2) (e : Ext [] h h') : Full h' c1 c2 :=
  ⟨e _ _ (fun q => nomatch q) x.tab1, e _ _ (fun q => nomatch q) x.tab2, x.code1.keeps fun b o q => e b o (fun q => nomatch q) q, x.code2.keeps fun b o q => e b o (fun q => nomatch q) q⟩
section
variable {prog : Program} {w : World} {A : Around} {E : Value → Shared → Prop} {s : Shared} {h₀ : Heap} {L : Addr} {m : Str → Option Value} {news : List (Addr × Obj)} {l : Addr} {y x : Int} {u t : Tok} {Q : Value → Shared → Prop}
theorem ints_rep (y : Int) (t : Tok) : ∀ k : Nat, IntsAre (List.replicate k (.int y t)) (List.replicate k y)
  | 0 => .nil
  | k + 1 => .cons y t (ints_rep y t k)
theorem flat_rep {α : Type} (v : α) : ∀ k : Nat, (List.replicate k [v]).flatten = List.replicate k v
  | 0 => rfl
  | k + 1 => by rw [List.replicate_succ, List.flatten_cons, flat_rep v k]; rfl
/-- [y] * x -/
theorem mul_one_item (F : Fr h₀ L s.heap m) (N : News h₀ L s.heap news) (hl : s.heap.IsList l [Value.int y t].toArray) (hlo : 0 ≤ x) (hhi : x ≤ 256)
    (h : ∀ D h', Fr h₀ L h' m → News h₀ L h' ((D, listOf (List.replicate x.toNat (Value.int y t)).toArray 0) :: news) → (∀ p ∈ news, p.1 < D) → IntsAre (List.replicate x.toNat (.int y t)) (List.replicate x.toNat y) → Q (.ref D) { s with heap := h' }) :
    wpAny (model prog w) A (binaryOp .Mult (.ref l) (.int x u)) Q E s :=
  KMa.mul F N hl (by omega) (by omega) (by simp; omega) (flat_rep _ _) fun D h' F' N' l1 => h D h' F' N' l1 (ints_rep _ _ _)
end
local macro_rules | `(tactic| walk_at "binaryOp Mult ref int") => `(tactic| (k_here; refine Halt.out ?_))
local macro_rules | `(tactic| walk_at "call builtin:len") => `(tactic| (k_here; refine Halt.out ?_))
local macro_rules | `(tactic| walk_at "exec FunctionDef") => `(tactic| (k_here; rename NestMark => hz; refine Halt.out ?_))
local macro_rules | `(tactic| walk_at "call ref") => `(tactic| (k_here; refine Halt.out ?_))

section
variable {prog : Program} {w : World} {p : Program} {loose : List Str} {mean : ExcName → Option Value} {mg mb : Str → Option Value} 
 {dp un : Nat} {gd : Option (List Code)} {nm : Str} {cs : Scope} {a : Addr} {ccd : Value} {cl : List (Str × Addr)} {outer : List Env} {A₀ : Around} {base h₀ : Heap} {L : Addr} {m : Str → Option Value} {s : Shared}
    {Q E : Value → Shared → Prop}

theorem i2d_facts {n : Nat} {x : Int} (hn0 : 2 ≤ n) (hx1 : Builtin.Int.intBits x ≤ 400) : (((Builtin.Int.intBits x : Int) + n - 1).fdiv n) = (((Builtin.Int.intBits x + n - 1) / n : Nat) : Int) ∧ (Builtin.Int.intBits x + n - 1) / n ≤ 200 ∧
    0 ≤ (((Builtin.Int.intBits x : Int) + n - 1).fdiv n) ∧ (((Builtin.Int.intBits x : Int) + n - 1).fdiv n) ≤ 256 := by
  have hK : (((Builtin.Int.intBits x : Int) + n - 1).fdiv n) = (((Builtin.Int.intBits x + n - 1) / n : Nat) : Int) := by
    rw [fdiv_pos (by omega), Int.natCast_ediv]; congr 1; omega
  have hK2 : (Builtin.Int.intBits x + n - 1) / n ≤ 200 := by
    rw [Nat.div_le_iff_le_mul_add_pred (by omega)]
    have : 200 * 2 ≤ n * 200 := by rw [Nat.mul_comm n]; exact Nat.mul_le_mul_left _ hn0
    omega
  have hK0 : 0 ≤ (((Builtin.Int.intBits x : Int) + n - 1).fdiv n) := by rw [hK]; exact Int.natCast_nonneg _
  have hK1 : (((Builtin.Int.intBits x : Int) + n - 1).fdiv n) ≤ 256 := by rw [hK]; omega
  exact ⟨hK, hK2, hK0, hK1⟩
theorem i2d_pos {n : Nat} {x : Int} (hn0 : 2 ≤ n) (hx0 : 0 ≤ x) (hx : ¬ x = 0) : 0 < (Builtin.Int.intBits x + n - 1) / n := by
  refine Nat.div_pos ?_ (by omega)
  have : ¬ Builtin.Int.intBits x ≤ 0 := by
    rw [PySem.intBits_le_iff]; omega
  omega
theorem ct_i2d1 {n : Nat} {x : Int} {tx tn : Tok}
    (B : Below A₀ base outer h₀) (F : Fr h₀ L s.heap m) (X : (hd.heap_39 w.params).In h₀) (T : Top p loose mean mg mb h₀) (hk : cs.kind = .function) (hd : dp + 300 < recursionLimit) (hu : un + 3000 < cLine)
    (C : CodeHd h₀ 42 38) (N : News h₀ L s.heap [(38, tabObj #[])])
    (hn0 : 2 ≤ n) (hn1 : n ≤ 200) (hx0 : 0 ≤ x) (hx1 : Builtin.Int.intBits x ≤ 400)
    (ret : ∀ D vs ep c1 oc ws t h' tk, Ext [38] s.heap h' → h'.get? 38 = some (tabObj #[rawInt (posOf in1).line, rawInt (posOf in1).col, .ref c1]) → s.heap.get? c1 = none → h'.get? c1 = some oc → oc.data = .fields ws → ws[1]? = some (.str (Str.ofString "_int2digits.<locals>.inner") t) →
      s.heap.get? D = none → h'.get? D = some (listOf vs.toArray ep) → IntsAre vs (dig n ((Builtin.Int.intBits x + n - 1) / n) x) → D < c1 → Q (.ref D) { s with heap := h', toks := tk }) :
    wpAny (model prog w) (ktrTop dp un gd nm cs L a ccd cl outer) (call (.ref 43) [.int x tx, .int n tn]) Q E s := by
  obtain ⟨hK, hK2, hK0, hK1⟩ := i2d_facts hn0 hx1
  refine wpAny_call ?_
  k_dflt (refine' enter_butC (ds := [(38, _)]) B F X N T ?kA ?kF ?kK ?kfo ?kd ?kc ?k8 ?k9 ?kB ?kN ?_ ?c2 ?c3 ?c4)
  case kA => exact rfl
  case kF => exact rfl
  case kK => exact hk
  case kfo => exact F.keep _ _ (X _ _ (by k_is))
  case kd => exact rfl
  case kc => exact (codeRec_of X (by k_is)).keeps F.keep
  case k8 => show dp < recursionLimit; omega
  case k9 => exact BindsTo.of_eq rfl
  case kB => exact rfl
  case kN => decide +kernel
  case c2 => rfl
  case c3 => rfl
  case c4 => rfl
  intro g' L' h' tk' cells' mz EG NG F' N' Y' l1 B' X' T' ST' envz Az Qz Ez
  have C' := C.keeps ST'
  have l38 := ltN (a := 38) (l1 _ (.head _))
  clear ST' l1
  k_cells Y'
  simp only [List.cons_append, List.nil_append] at N'
  try dsimp only
  k_steps
  refine Halt.on ?_
  (refine' mul_one_item ?F ?N ?l ?lo ?hi ?_; (case F => k_asm); (case N => k_asm); (case l => is_list); (case lo => assumption); (case hi => assumption))
  intro Dz hz Fz Nz lz iz
  (try k_lt lz)
  (try k_sweep)
  k_steps
  · refine Halt.on ?_
    (refine' len_ints ?l ?i ?f ?_; (case l => is_list); (case i => with_reducible assumption); (case f => first | omega | (simp only [List.length_replicate]; omega)))
    intro _ _
    k_steps
    refine Halt.out ?_
    have hk0 : 0 < (Builtin.Int.intBits x + n - 1) / n := i2d_pos hn0 hx0 (by assumption)
    have e1 : ((List.replicate (((Builtin.Int.intBits x : Int) + n - 1).fdiv n).toNat (0 : Int)).length : Int) = (((Builtin.Int.intBits x + n - 1) / n : Nat) : Int) := by simp; omega
    have hb : x < 2 ^ (n * ((Builtin.Int.intBits x + n - 1) / n)) := lt_figs (by omega) hx0
    k_dflt (refine' ct_in1 (by omega) hn1 ((Builtin.Int.intBits x + n - 1) / n) B' ?F X' T' ?hk ?hd ?hu ?N ?hI ?hsz ?hf ?hc ?hn ?hci ?hca hk0 (Int.le_refl 0) (by omega) ?hlen hx0 hb ?_)
    case F => k_asm
    case hk => rfl
    case hd => show dp + 1 + _ < recursionLimit; omega
    case hu => show un + 3 + _ < cLine; omega
    case hf => exact new_some (by k_asm) (by k_mem)
    case hca => exact ⟨_, new_some (by k_asm) (by k_mem), by k_asm⟩
    case hci => exact ⟨_, new_some (by k_asm) (by k_mem), by k_asm⟩
    case hn => exact ⟨_, new_some (by k_asm) (by k_mem), by k_asm⟩
    case N => exact news_one (by k_asm) (by k_mem)
    case hI => with_reducible assumption
    case hsz => simp only [List.length_replicate]; omega
    case hlen => omega
    case hc => exact codeRec_news (by k_asm) (by k_mem) (by assumption) (by assumption)
    intro vs1 h1 tk1 e1' hD1 hI1
    rename Fr _ _ _ _ => Fc
    rename News _ _ _ _ => Nc
    have zD := Nc (_, listOf _ 0) (List.Mem.tail _ (List.Mem.tail _ (List.Mem.head _)))
    have F1 := ext_fr e1' Fc (by simpa using zD.2.2) (by simpa using Ne.symm zD.2.1)
    have N1 := news_after Nc e1' hD1 (by k_upd)
    clear Fc Nc
    dsimp only
    k_steps
    refine ret _ vs1 0 _ _ _ _ _ _ (ext_ret EG F1) (new_some N1 (by k_mem)) (new_none EG N1 (List.Mem.tail _ (List.Mem.head _)) ?_) (new_some N1 (List.Mem.tail _ (List.Mem.head _))) (by assumption) (by assumption) (new_none EG N1 (by k_mem) ?_) (new_some N1 (by k_mem)) ?_ (by refine ltN ?_; omega)
    · simp only [List.map_cons, List.map_nil, List.mem_singleton]; refine neN ?_; omega
    · simp only [List.map_cons, List.map_nil, List.mem_singleton]; refine neN ?_; omega
    · have e2 : (Int.toNat 0) = 0 := rfl
      rw [e2, List.take_zero, List.nil_append, List.drop_eq_nil_of_le (by simp; omega), List.append_nil] at hI1
      exact hI1
  · have hx : x = 0 := by assumption
    subst hx
    have e0 : (Builtin.Int.intBits 0 + n - 1) / n = 0 := by rw [show Builtin.Int.intBits 0 = 0 from rfl, Nat.zero_add]; exact Nat.div_eq_of_lt (by omega)
    rename Fr _ _ _ _ => Fc
    rename News _ _ _ _ => Nc
    refine ret _ _ 0 _ _ _ _ _ _ (ext_ret EG Fc) (new_some Nc (by k_mem)) (new_none EG Nc (List.Mem.tail _ (List.Mem.head _)) ?_) (new_some Nc (List.Mem.tail _ (List.Mem.head _))) (by assumption) (by assumption) (new_none EG Nc (by k_mem) ?_) (new_some Nc (by k_mem)) ?_ (by refine ltN ?_; omega)
    · simp only [List.map_cons, List.map_nil, List.mem_singleton]; refine neN ?_; omega
    · simp only [List.map_cons, List.map_nil, List.mem_singleton]; refine neN ?_; omega
    · have i9 := ints_rep 0 tk' 0
      rw [hK, e0] at *
      simpa [dig] using i9

theorem ct_i2d2 {n : Nat} {x : Int} {tx tn : Tok} {c1 c2 : Addr}
    (B : Below A₀ base outer h₀) (F : Fr h₀ L s.heap m) (X : (hd.heap_39 w.params).In h₀) (T : Top p loose mean mg mb h₀) (hk : cs.kind = .function) (hd : dp + 300 < recursionLimit) (hu : un + 3000 < cLine)
    (C : CodeHd h₀ 42 38) (fu : Full s.heap c1 c2)
    (hn0 : 2 ≤ n) (hn1 : n ≤ 200) (hx0 : 0 ≤ x) (hx1 : Builtin.Int.intBits x ≤ 400)
    (ret : ∀ D vs ep h' tk, Ext [] s.heap h' → s.heap.get? D = none → h'.get? D = some (listOf vs.toArray ep) → IntsAre vs (dig n ((Builtin.Int.intBits x + n - 1) / n) x) → Q (.ref D) { s with heap := h', toks := tk }) :
    wpAny (model prog w) (ktrTop dp un gd nm cs L a ccd cl outer) (call (.ref 43) [.int x tx, .int n tn]) Q E s := by
  obtain ⟨hK, hK2, hK0, hK1⟩ := i2d_facts hn0 hx1
  refine wpAny_call ?_
  k_dflt (refine' enter_butC (ds := []) B F X News.nil T ?kA ?kF ?kK ?kfo ?kd ?kc ?k8 ?k9 ?kB ?kN ?_ ?c2 ?c3 ?c4)
  case kA => exact rfl
  case kF => exact rfl
  case kK => exact hk
  case kfo => exact F.keep _ _ (X _ _ (by k_is))
  case kd => exact rfl
  case kc => exact (codeRec_of X (by k_is)).keeps F.keep
  case k8 => show dp < recursionLimit; omega
  case k9 => exact BindsTo.of_eq rfl
  case kB => exact rfl
  case kN => decide +kernel
  case c2 => rfl
  case c3 => rfl
  case c4 => rfl
  intro g' L' h' tk' cells' mz EG NG F' N' Y' l1 B' X' T' ST' envz Az Qz Ez
  have C' := C.keeps ST'
  have fu' := fu.ext EG
  have hcr := fu'.code1
  have htab := fu'.tab1
  clear ST' l1
  k_cells Y'
  simp only [List.cons_append, List.nil_append, List.append_nil] at N'
  try dsimp only
  k_steps
  refine Halt.on ?_
  (refine' mul_one_item ?F ?N ?l ?lo ?hi ?_; (case F => k_asm); (case N => k_asm); (case l => is_list); (case lo => assumption); (case hi => assumption))
  intro Dz hz Fz Nz lz iz
  (try k_lt lz)
  (try k_sweep)
  have hNM : NestMark := ⟨⟩
  k_steps
  refine Halt.on ?_
  rename NestMark => hNM9
  clear hNM9
  k_dflt (refine' nestDef_K ?d0 ?k0 ?a0 ?_; (case d0 => exact rfl); (case k0 => exact rfl); (case a0 => exact rfl))
  k_dflt (refine' nest_base ?F ?N ?T ?C ?cd ?P ?t ?n ?cl ?_; (case F => k_asm); (case N => k_asm); (case T => k_asm); (case cd => exact rfl); (case C => kn_code); (case P => assumption); (case t => kn_triples); (case n => kn_hit); (case cl => exact rfl); k_whole)
  intro fz ctz dcz hzz tkz Fzz Nzz lzz
  (try dsimp only at Nzz)
  (try k_lt lzz)
  k_steps
  · refine Halt.on ?_
    (refine' len_ints ?l ?i ?f ?_; (case l => is_list); (case i => with_reducible assumption); (case f => first | omega | (simp only [List.length_replicate]; omega)))
    intro _ _
    k_steps
    refine Halt.out ?_
    have hk0 : 0 < (Builtin.Int.intBits x + n - 1) / n := i2d_pos hn0 hx0 (by assumption)
    have e1 : ((List.replicate (((Builtin.Int.intBits x : Int) + n - 1).fdiv n).toNat (0 : Int)).length : Int) = (((Builtin.Int.intBits x + n - 1) / n : Nat) : Int) := by simp; omega
    have hb : x < 2 ^ (n * ((Builtin.Int.intBits x + n - 1) / n)) := lt_figs (by omega) hx0
    k_dflt (refine' ct_in1 (by omega) hn1 ((Builtin.Int.intBits x + n - 1) / n) B' ?F X' T' ?hk ?hd ?hu ?N ?hI ?hsz ?hf ?hc ?hn ?hci ?hca hk0 (Int.le_refl 0) (by omega) ?hlen hx0 hb ?_)
    case F => k_asm
    case hk => rfl
    case hd => show dp + 1 + _ < recursionLimit; omega
    case hu => show un + 3 + _ < cLine; omega
    case hf => exact new_some (by k_asm) (by k_mem)
    case hca => exact ⟨_, new_some (by k_asm) (by k_mem), by k_asm⟩
    case hci => exact ⟨_, new_some (by k_asm) (by k_mem), by k_asm⟩
    case hn => exact ⟨_, new_some (by k_asm) (by k_mem), by k_asm⟩
    case N => exact news_one (by k_asm) (by k_mem)
    case hI => with_reducible assumption
    case hsz => simp only [List.length_replicate]; omega
    case hlen => omega
    case hc => exact hcr.keeps (Fr.keep (by k_asm))
    intro vs1 h1 tk1 e1' hD1 hI1
    rename Fr _ _ _ _ => Fc
    rename News _ _ _ _ => Nc
    have zD := Nc (_, listOf _ 0) (List.Mem.tail _ (List.Mem.head _))
    have F1 := ext_fr e1' Fc (by simpa using zD.2.2) (by simpa using Ne.symm zD.2.1)
    have N1 := news_after Nc e1' hD1 (by k_upd)
    clear Fc Nc
    dsimp only
    k_steps
    refine ret _ vs1 0 _ _ (ext_ret EG F1) (new_none EG N1 (by k_mem) (fun q => nomatch q)) (new_some N1 (by k_mem)) ?_
    · have e2 : (Int.toNat 0) = 0 := rfl
      rw [e2, List.take_zero, List.nil_append, List.drop_eq_nil_of_le (by simp; omega), List.append_nil] at hI1
      exact hI1
  · have hx : x = 0 := by assumption
    subst hx
    have e0 : (Builtin.Int.intBits 0 + n - 1) / n = 0 := by rw [show Builtin.Int.intBits 0 = 0 from rfl, Nat.zero_add]; exact Nat.div_eq_of_lt (by omega)
    rename Fr _ _ _ _ => Fc
    rename News _ _ _ _ => Nc
    refine ret _ _ 0 _ _ (ext_ret EG Fc) (new_none EG Nc (by k_mem) (fun q => nomatch q)) (new_some Nc (by k_mem)) ?_
    · have i9 := ints_rep 0 tk' 0
      rw [hK, e0] at *
      simpa [dig] using i9
end
set_option maxRecDepth 100000
set_option maxHeartbeats 8000000
set_option linter.unusedVariables false
set_option pp.deepTerms false
set_option pp.deepTerms.threshold 4
theorem fillK5 : (fun P => hd.heap_39 P) = hd.heap_39 ∧ PySem.Challenge.rw_wv0074_01 = PySem.Challenge.rw_wv0074_01 := by
  k_fill
  w_top off
  exact ⟨rfl, rfl⟩

section
variable {prog : Program} {w : World} {p : Program} {loose : List Str} {mean : ExcName → Option Value} {mg mb : Str → Option Value} 
 {dp un : Nat} {gd : Option (List Code)} {nm : Str} {cs : Scope} {a : Addr} {ccd : Value} {cl : List (Str × Addr)} {outer : List Env} {A₀ : Around} {base h₀ : Heap} {L : Addr} {m : Str → Option Value} {s : Shared}
    {Q E : Value → Shared → Prop}

theorem ct_d2i1 {n : Nat} {Dl : Addr} {vs : List Value} {ns : List Int} {tn : Tok}
    (B : Below A₀ base outer h₀) (F : Fr h₀ L s.heap m) (X : (hd.heap_39 w.params).In h₀) (T : Top p loose mean mg mb h₀) (hk : cs.kind = .function) (hd : dp + 300 < recursionLimit) (hu : un + 3000 < cLine)
    (C : CodeHd h₀ 49 45) (N : News h₀ L s.heap [(45, tabObj #[])])
    (hn1 : n ≤ 200) (hD : s.heap.IsList Dl vs.toArray) (hI : IntsAre vs ns) (hsz : ns.length ≤ 200) (hdg : ∀ d ∈ ns, 0 ≤ d ∧ d < 2 ^ n)
    (ret : ∀ tv c2 oc ws t h' tk, Ext [45] s.heap h' → h'.get? 45 = some (tabObj #[rawInt (posOf in2).line, rawInt (posOf in2).col, .ref c2]) → s.heap.get? c2 = none → h'.get? c2 = some oc → oc.data = .fields ws → ws[1]? = some (.str (Str.ofString "_digits2int.<locals>.inner") t) →
      Q (.int (val n ns) tv) { s with heap := h', toks := tk }) :
    wpAny (model prog w) (ktrTop dp un gd nm cs L a ccd cl outer) (call (.ref 50) [.ref Dl, .int n tn]) Q E s := by
  have hDne : Dl ≠ 45 := by
    rintro rfl
    obtain ⟨o, q1, q2, _⟩ := hD
    rw [(N _ (.head _)).1] at q1; cases q1; cases q2
  refine wpAny_call ?_
  k_dflt (refine' enter_butC (ds := [(45, _)]) B F X N T ?kA ?kF ?kK ?kfo ?kd ?kc ?k8 ?k9 ?kB ?kN ?_ ?c2 ?c3 ?c4)
  case kA => exact rfl
  case kF => exact rfl
  case kK => exact hk
  case kfo => exact F.keep _ _ (X _ _ (by k_is))
  case kd => exact rfl
  case kc => exact (codeRec_of X (by k_is)).keeps F.keep
  case k8 => show dp < recursionLimit; omega
  case k9 => exact BindsTo.of_eq rfl
  case kB => exact rfl
  case kN => decide +kernel
  case c2 => rfl
  case c3 => rfl
  case c4 => rfl
  intro g' L' h' tk' cells' mz EG NG F' N' Y' l1 B' X' T' ST' envz Az Qz Ez
  have C' := C.keeps ST'
  have l38 := ltN (a := 45) (l1 _ (.head _))
  have hD' : g'.IsList Dl vs.toArray := hD.at fun o e => EG _ _ (by simpa using hDne) e
  clear ST' l1
  k_cells Y'
  simp only [List.cons_append, List.nil_append] at N'
  try dsimp only
  k_steps
  · refine Halt.on ?_
    (refine' len_ints ?l ?i ?f ?_; (case l => is_list); (case i => with_reducible assumption); (case f => first | omega | (simp only [List.length_replicate]; omega)))
    intro _ _
    k_steps
    refine Halt.out ?_
    rename Fr _ _ _ _ => Fc
    rename News _ _ _ _ => Nc
    k_dflt (refine' ct_in2 hn1 hI (by omega) hdg ns.length B' Fc X' T' ?hk ?hd ?hu (hD'.at fun o e => Fc.keep _ _ e) ?hf ?hc ?hn ?hci ?hca (by assumption) (Int.le_refl 0) (by omega) (Int.le_refl _) ?_)
    case hk => rfl
    case hd => show dp + 1 + _ < recursionLimit; omega
    case hu => show un + 3 + _ < cLine; omega
    case hf => exact new_some Nc (by k_mem)
    case hca => exact ⟨_, new_some Nc (by k_mem), by k_asm⟩
    case hci => exact ⟨_, new_some Nc (by k_mem), by k_asm⟩
    case hn => exact ⟨_, new_some Nc (by k_mem), by k_asm⟩
    case hc => exact codeRec_news (by k_asm) (by k_mem) (by assumption) (by assumption)
    intro t1 h1 tk1 e1'
    have F1 := ext_fr0 e1' Fc
    have N1 := ext_news0 e1' Nc
    rw [show Int.toNat 0 = 0 from rfl, seg_all]
    exact ret _ _ _ _ _ _ _ (ext_ret EG F1) (new_some N1 (by k_mem)) (new_none EG N1 (List.Mem.tail _ (List.Mem.head _)) (by simp only [List.map_cons, List.map_nil, List.mem_singleton]; refine neN ?_; omega)) (new_some N1 (List.Mem.tail _ (List.Mem.head _))) (by assumption) (by assumption)
  · have h0 : ns = [] := List.eq_nil_of_length_eq_zero (by omega)
    rename Fr _ _ _ _ => F1
    rename News _ _ _ _ => N1
    subst h0
    exact ret _ _ _ _ _ _ _ (ext_ret EG F1) (new_some N1 (by k_mem)) (new_none EG N1 (List.Mem.tail _ (List.Mem.head _)) (by simp only [List.map_cons, List.map_nil, List.mem_singleton]; refine neN ?_; omega)) (new_some N1 (List.Mem.tail _ (List.Mem.head _))) (by assumption) (by assumption)

theorem ct_d2i2 {n : Nat} {Dl : Addr} {vs : List Value} {ns : List Int} {tn : Tok} {c1 c2 : Addr}
    (B : Below A₀ base outer h₀) (F : Fr h₀ L s.heap m) (X : (hd.heap_39 w.params).In h₀) (T : Top p loose mean mg mb h₀) (hk : cs.kind = .function) (hd : dp + 300 < recursionLimit) (hu : un + 3000 < cLine)
    (C : CodeHd h₀ 49 45) (fu : Full s.heap c1 c2)
    (hn1 : n ≤ 200) (hD : s.heap.IsList Dl vs.toArray) (hI : IntsAre vs ns) (hsz : ns.length ≤ 200) (hdg : ∀ d ∈ ns, 0 ≤ d ∧ d < 2 ^ n)
    (ret : ∀ tv h' tk, Ext [] s.heap h' → Q (.int (val n ns) tv) { s with heap := h', toks := tk }) :
    wpAny (model prog w) (ktrTop dp un gd nm cs L a ccd cl outer) (call (.ref 50) [.ref Dl, .int n tn]) Q E s := by
  refine wpAny_call ?_
  k_dflt (refine' enter_butC (ds := []) B F X News.nil T ?kA ?kF ?kK ?kfo ?kd ?kc ?k8 ?k9 ?kB ?kN ?_ ?c2 ?c3 ?c4)
  case kA => exact rfl
  case kF => exact rfl
  case kK => exact hk
  case kfo => exact F.keep _ _ (X _ _ (by k_is))
  case kd => exact rfl
  case kc => exact (codeRec_of X (by k_is)).keeps F.keep
  case k8 => show dp < recursionLimit; omega
  case k9 => exact BindsTo.of_eq rfl
  case kB => exact rfl
  case kN => decide +kernel
  case c2 => rfl
  case c3 => rfl
  case c4 => rfl
  intro g' L' h' tk' cells' mz EG NG F' N' Y' l1 B' X' T' ST' envz Az Qz Ez
  have C' := C.keeps ST'
  have fu' := fu.ext EG
  have hcr := fu'.code2
  have htab := fu'.tab2
  have hD' : g'.IsList Dl vs.toArray := hD.at fun o e => EG _ _ (fun q => nomatch q) e
  clear ST' l1
  k_cells Y'
  simp only [List.append_nil] at N'
  try dsimp only
  have hNM : NestMark := ⟨⟩
  k_steps
  refine Halt.on ?_
  rename NestMark => hNM9
  clear hNM9
  k_dflt (refine' nestDef_K ?d0 ?k0 ?a0 ?_; (case d0 => exact rfl); (case k0 => exact rfl); (case a0 => exact rfl))
  k_dflt (refine' nest_base ?F ?N ?T ?C ?cd ?P ?t ?n ?cl ?_; (case F => k_asm); (case N => k_asm); (case T => k_asm); (case cd => exact rfl); (case C => kn_code); (case P => assumption); (case t => kn_triples); (case n => kn_hit); (case cl => exact rfl); k_whole)
  intro fz ctz dcz hzz tkz Fzz Nzz lzz
  (try dsimp only at Nzz)
  (try k_lt lzz)
  k_steps
  · refine Halt.on ?_
    (refine' len_ints ?l ?i ?f ?_; (case l => is_list); (case i => with_reducible assumption); (case f => first | omega | (simp only [List.length_replicate]; omega)))
    intro _ _
    k_steps
    refine Halt.out ?_
    rename Fr _ _ _ _ => Fc
    rename News _ _ _ _ => Nc
    k_dflt (refine' ct_in2 hn1 hI (by omega) hdg ns.length B' Fc X' T' ?hk ?hd ?hu (hD'.at fun o e => Fc.keep _ _ e) ?hf ?hc ?hn ?hci ?hca (by assumption) (Int.le_refl 0) (by omega) (Int.le_refl _) ?_)
    case hk => rfl
    case hd => show dp + 1 + _ < recursionLimit; omega
    case hu => show un + 3 + _ < cLine; omega
    case hf => exact new_some Nc (by k_mem)
    case hca => exact ⟨_, new_some Nc (by k_mem), by k_asm⟩
    case hci => exact ⟨_, new_some Nc (by k_mem), by k_asm⟩
    case hn => exact ⟨_, new_some Nc (by k_mem), by k_asm⟩
    case hc => exact hcr.keeps (Fr.keep (by k_asm))
    intro t1 h1 tk1 e1'
    have F1 := ext_fr0 e1' Fc
    have N1 := ext_news0 e1' Nc
    rw [show Int.toNat 0 = 0 from rfl, seg_all]
    exact ret _ _ _ (ext_ret EG F1)
  · have h0 : ns = [] := List.eq_nil_of_length_eq_zero (by omega)
    rename Fr _ _ _ _ => F1
    rename News _ _ _ _ => N1
    subst h0
    exact ret _ _ _ (ext_ret EG F1)
end
end Mine
end

section
open Lean in
local macro_rules | `(tactic| walk_at $k:str) => do
  let k := k.getString
  if k == "execs cons" || ((k.startsWith "eval " || k.startsWith "isTrue ") && !k.startsWith "eval Name" && !k.startsWith "eval Constant" && !k.startsWith "isTrue Name") then `(tactic| (k_here; k_fold)) else Macro.throwUnsupported

section
open PySem PySem.W PyProof.Rows PySem.Calls PySem.Spec
namespace Mine
set_option maxRecDepth 100000
set_option maxHeartbeats 8000000
set_option linter.unusedVariables false
set_option pp.deepTerms false
set_option pp.deepTerms.threshold 4
theorem fillK6 : (fun P => hd.heap_39 P) = hd.heap_39 ∧ PySem.Challenge.rw_wv0074_01 = PySem.Challenge.rw_wv0074_01 := by
  k_fill
  w_top off
  exact ⟨rfl, rfl⟩
local macro_rules | `(tactic| walk_at "call ref") => `(tactic| (k_here; refine Halt.out ?_))
local macro_rules | `(tactic| walk_at "exec For Name Call cons nil") => `(tactic| (k_here; refine Halt.out ?_))
local macro_rules | `(tactic| walk_at "binaryOp LShift int int") => `(tactic| (refine lshift_int (by assumption) (by assumption) ?_))
local macro_rules | `(tactic| walk_at "call builtin:list.reverse") => `(tactic| (k_here; refine Halt.out ?_))
abbrev q1n : Str := Str.ofString "_int2digits.<locals>.inner"
abbrev q2n : Str := Str.ofString "_digits2int.<locals>.inner"

/-- long division, figure by figure -/
inductive DmpInv (g : Heap) (L : Addr) (k n : Nat) (x y : Int) (I Dq Da : Addr) (va : List Value) (epa : Nat) (rest : List (Addr × Obj)) (m₂ : Str → Option Value) (s0 : Shared) (rem : Nat) (st : Shared) : Prop
  | mk (oI : Obj) (h : Heap) (tk : Nat) (r : Int) (tr : Tok) (vq : List Value) (nq : List Int) (epq : Nat) (ua uq : Option Value) (_ : st = { s0 with heap := h, toks := tk }) (_ : rem ≤ k) (_ : IterIs "list_reverseiterator" Da ((rem : Int) - 1) oI) (_ : Fr g L h (fun z => if z = Str.ofString "r" then some (.int r tr) else if z = Str.ofString "q_digit" then uq else if z = Str.ofString "a_digit" then ua else m₂ z)) (_ : News g L h ((I, oI) :: (Dq, listOf vq.toArray epq) :: (Da, listOf va.toArray epa) :: rest)) (_ : IntsAre vq nq) (_ : nq.length = k - rem) (_ : (∀ d ∈ nq, 0 ≤ d ∧ d < 2 ^ n)) (_ : val n nq.reverse * y + r = x / 2 ^ (n * rem)) (_ : 0 ≤ r) (_ : r < y)
section
variable {prog : Program} {w : World} {p : Program} {loose : List Str} {mean : ExcName → Option Value} {mg mb : Str → Option Value} 
 {dp un : Nat} {gd : Option (List Code)} {nm : Str} {cs : Scope} {a : Addr} {ccd : Value} {cl : List (Str × Addr)} {outer : List Env} {A₀ : Around} {base h₀ : Heap} {L : Addr} {m : Str → Option Value} {s : Shared}
    {Q E : Value → Shared → Prop}


theorem ct_dmp2 {x y : Int} {tx ty : Tok} {c1 c2 : Addr}
    (B : Below A₀ base outer h₀) (F : Fr h₀ L s.heap m) (X : (hd.heap_39 w.params).In h₀) (T : Top p loose mean mg mb h₀) (hk : cs.kind = .function) (hd : dp + 310 < recursionLimit) (hu : un + 3010 < cLine)
    (C2 : CodeHd h₀ 49 45) (C1 : CodeHd h₀ 42 38) (fu : Full s.heap c1 c2)
    (hx0 : 0 ≤ x) (hx1 : Builtin.Int.intBits x ≤ 400) (hy0 : 2 ≤ y) (hy1 : Builtin.Int.intBits y ≤ 200)
    (ret : ∀ D t1 t2 h' tk, Ext [] s.heap h' → s.heap.get? D = none → h'.get? D = some (tupO [.int (x / y) t1, .int (x % y) t2]) → Q (.ref D) { s with heap := h', toks := tk }) :
    wpAny (model prog w) (ktrTop dp un gd nm cs L a ccd cl outer) (call (.ref 57) [.int x tx, .int y ty]) Q E s := by
  refine wpAny_call ?_
  k_dflt (refine' enter_but (ds := []) B F X News.nil T ?kA ?kF ?kK ?kfo ?kd ?kc ?k8 ?k9 ?kB ?_ ?c5 ?c2 ?c3 ?c4)
  case kA => exact rfl
  case kF => exact rfl
  case kK => exact hk
  case kfo => exact F.keep _ _ (X _ _ (by k_is))
  case kd => exact rfl
  case kc => exact (codeRec_of X (by k_is)).keeps F.keep
  case k8 => show dp < recursionLimit; omega
  case k9 => exact BindsTo.of_eq rfl
  case kB => exact locs rfl
  case c5 => decide
  case c2 => rfl
  case c3 => rfl
  case c4 => rfl
  intro g' L' h' tk0 mz EG NG F' N' l1 B' X' T' ST' envz Az Qz Ez
  have C2' := C2.keeps ST'
  have C1' := C1.keeps ST'
  have fu' := fu.ext EG
  clear ST' l1
  try dsimp only
  obtain ⟨n, hn⟩ : ∃ n, n = Builtin.Int.intBits y := ⟨_, rfl⟩
  have hn0 : 2 ≤ n := by
    have : ¬ Builtin.Int.intBits y ≤ 1 := by rw [PySem.intBits_le_iff]; omega
    omega
  have hn1 : n ≤ 200 := by omega
  k_steps
  refine Halt.on ?_
  rename Fr _ _ _ _ => Fc
  rename News _ _ _ _ => Nc
  rw [← hn] at Fc ⊢
  k_dflt (refine' ct_i2d2 B' Fc X' T' ?hk ?hd ?hu C1' (fu'.ext fun b o _ e => Fc.keep b o e) hn0 hn1 hx0 hx1 ?_)
  case hk => rfl
  case hd => show dp + 1 + 300 < recursionLimit; omega
  case hu => show un + 3 + 3000 < cLine; omega
  intro Da va epa h1 tk1 e1 nDa hDa hIa
  have F1 := ext_fr0 e1 Fc
  have N1 := news_new Fc (ext_news0 e1 Nc) hDa nDa
  clear Fc Nc
  obtain ⟨k, hk9⟩ : ∃ k, k = (Builtin.Int.intBits x + n - 1) / n := ⟨_, rfl⟩
  rw [← hk9] at hIa
  have hk2 : k ≤ 200 := by
    rw [hk9]; exact figs_le hn0 hx1
  k_steps
  refine Halt.on ?_
  refine' wpAny_For ?_ ?hs
  case hs => intro _; rfl
  k_steps
  rename Fr _ _ _ _ => F2
  rename News _ _ _ _ => N2
  refine wpAny_pyIter_revIter (i := ((va.length : Int) - 1)) ⟨_, new_some N2 (.head _), rfl, rfl⟩ ?_
  have hlen : va.length = k := hIa.length.trans (dig_length _ _ _)
  rename_i Dq _ _ _ I _ lD
  have N2' : News g' L' _ [(I, revObj Da ((va.length : Int) - 1)), (Dq, listOf [].toArray 0), (Da, listOf va.toArray epa)] := N2
  refine let_map F2 ?_; clear F2; intro m₂ F2
  refine' for_inv (DmpInv g' L' k n x y I Dq Da va epa [] m₂ s) ?hE ?turn k ?h0
  case hE => exact PassesOwn.leaving
  case h0 =>
    refine ⟨_, _, _, 0, _, [], [], _, _, _, rfl, Nat.le_refl _, ⟨rfl, ?_⟩, fr_canon3 (a := Str.ofString "r") (b := Str.ofString "q_digit") (c := Str.ofString "a_digit") F2 (fun _ _ _ _ => rfl), N2', .nil, by simp, (fun _ q => nomatch q), ?_, Int.le_refl 0, by omega⟩
    · rw [hlen]; rfl
    · rw [Int.ediv_eq_zero_of_lt hx0 (by rw [hk9]; exact lt_figs (by omega) hx0)]; simp [val]
  case turn =>
    intro rem st hIv0
    try k_fold
    obtain ⟨oI, h, tk, r, tr, vq, nq, epq, ua, uq, rfl, hrk, hit, F3, N3, hIq, hlq, hdq, hval, hr0, hr1⟩ := hIv0
    refine let_map F3 ?_; clear F3; intro m₃ F3
    clear F2 N2 N2'
    cases rem with
    | zero =>
      refine next_rev_end rfl F3 N3 (by k_all) hit fun h5 F5 N5 => ?_
      have hz9 : vq.toArray.toList.length ≤ sizeLine := by rw [sizeLine_eq]; have := hIq.length; simp; omega
      have hIr := hIq.reverse
      try dsimp only
      k_steps
      refine Halt.on ?_
      (k_dflt (refine' kl_reverse ?F ?N ?e ?U ?z ?_; (case F => k_asm); (case N => k_asm); (case e => exact rfl); (case U => k_upd); (case z => assumption)))
      intro hz Fz Nz
      (try dsimp only at Nz)
      k_steps
      refine Halt.on ?_
      rename Fr _ _ _ _ => F6
      rename News _ _ _ _ => N6
      k_dflt (refine' ct_d2i2 B' F6 X' T' ?hk ?hd ?hu C2' (fu'.ext fun b o _ e => F6.keep b o e) hn1 ⟨_, new_some N6 (by k_mem), rfl, _, rfl⟩ hIr (by simp; omega) (fun d q => hdq d (List.mem_reverse.mp q)) ?_)
      case hk => rfl
      case hd => show dp + 1 + 300 < recursionLimit; omega
      case hu => show un + 3 + 3000 < cLine; omega
      intro tv h7 tk7 e7
      have F7 := ext_fr0 e7 F6
      have N7 := ext_news0 e7 N6
      clear F6 N6 F5 N5
      have hfin : val n nq.reverse = x / y ∧ r = x % y := by
        rw [Nat.mul_zero, Int.pow_zero, Int.ediv_one] at hval
        have hy9 : 0 < y := by omega
        constructor
        · rw [← hval, Int.add_comm, Int.add_mul_ediv_right _ _ (by omega), Int.ediv_eq_zero_of_lt hr0 hr1, Int.zero_add]
        · rw [← hval, Int.add_comm, Int.add_mul_emod_self_right, Int.emod_eq_of_lt hr0 hr1]
      try dsimp only
      k_steps
      rename Fr _ _ _ _ => F8
      rename News _ _ _ _ => N8
      rw [hfin.1, hfin.2] at N8
      exact ret _ _ _ _ _ (ext_ret EG F8) (new_none EG N8 (by k_mem) (fun q => nomatch q)) (new_some N8 (by k_mem))
    | succ i =>
      obtain ⟨td, htd⟩ := hIa.get i _ (dig_get (by omega))
      refine next_rev (i := i) (items := va.toArray) (v := .int (x / 2 ^ (n * i) % 2 ^ n) td) F3 N3 (by k_all) (by simpa using hit) ⟨_, new_some N3 (by k_mem), rfl, _, rfl⟩ (by simpa using htd) fun h5 oI5 hit5 F5 N5 => ?_
      clear F3 N3
      try dsimp only
      obtain ⟨t0, t1, q0, q1, r0, r1, hv1⟩ := dmp_turn (n := n) (i := i) (x := x) hr0 hr1 hval
      refine wpAny_assign_Name ?_
      have hrb : Builtin.Int.intBits r ≤ 200 := Nat.le_trans (bits_mono hr0 hr1) hy1
      have hsh0 : (0 : Int) ≤ (n : Int) := Int.natCast_nonneg _
      have hsh1 : (Builtin.Int.intBits r : Int) + (n : Int) ≤ 2 ^ 27 := by omega
      k_steps
      refine Halt.on ?_
      rename Fr _ _ _ _ => F6
      rename News _ _ _ _ => N6
      rw [Int.toNat_natCast]
      have htb : Builtin.Int.intBits (r * 2 ^ n + x / 2 ^ (n * i) % 2 ^ n) ≤ 400 := by
        refine bits_lt t0 (Int.lt_of_lt_of_le t1 ?_)
        have y1 := lt_bits y (by omega)
        have y2 : y * 2 ^ n ≤ 2 ^ n * 2 ^ n := Int.mul_le_mul_of_nonneg_right (by rw [hn]; omega) (Int.le_of_lt (two_pos n))
        rw [← Int.pow_add] at y2
        exact Int.le_trans y2 (pow_mono2 (by omega))
      k_dflt (refine' ct_div2 B' F6 X' T' ?hk ?hd ?hn ?hy ?hl ?_)
      case hk => rfl
      case hd => show dp + 1 + 1 < recursionLimit; omega
      case hn => omega
      case hy => omega
      case hl =>
        have y1 : ¬ y.natAbs = 0 := by omega
        have y2 : Builtin.Int.intBits y = y.natAbs.log2 + 1 := by
          unfold Builtin.Int.intBits
          rw [if_neg (by simp; omega)]
        omega
      intro t1' t2' D h7 tk7 e7 nD hD7
      have F7 := ext_fr0 e7 F6
      have N7 := news_new F6 (ext_news0 e7 N6) hD7 nD
      have lD7 := news_off N6 nD
      (replace lD7 := Mine.allNe_of lD7; simp only [Mine.AllNe, and_true] at lD7)
      clear F6 N6
      rw [fdiv_pos (by omega), fmod_pos (by omega)] at N7
      try dsimp only
      k_steps
      rename Fr _ _ _ _ => F8
      rename News _ _ _ _ => N8
      have N9 := news_tail N8
      try simp only [List.push_toArray] at N9
      refine Halt.on ⟨i, Nat.lt_succ_self _, oI5, _, _, _, _, _, nq ++ [(r * 2 ^ n + x / 2 ^ (n * i) % 2 ^ n) / y], _, _, _, rfl, by omega, by simpa using hit5, fr_canon3 (a := Str.ofString "r") (b := Str.ofString "q_digit") (c := Str.ofString "a_digit") F8 ?_, N9, hIq.append (.cons _ t1' .nil), by simp; omega, ?_, hv1, r0, r1⟩
      · intro z n1 n2 n3
        simp [m₃, n1, n2, n3]
      · intro d q
        rcases List.mem_append.mp q with q | q
        · exact hdq d q
        · rw [List.mem_singleton] at q; subst q; exact ⟨q0, q1⟩
theorem ct_dmp1 {x y : Int} {tx ty : Tok}
    (B : Below A₀ base outer h₀) (F : Fr h₀ L s.heap m) (X : (hd.heap_39 w.params).In h₀) (T : Top p loose mean mg mb h₀) (hk : cs.kind = .function) (hd : dp + 310 < recursionLimit) (hu : un + 3010 < cLine)
    (C2 : CodeHd h₀ 49 45) (C1 : CodeHd h₀ 42 38) (N : News h₀ L s.heap [(45, tabObj #[]), (38, tabObj #[])])
    (hx0 : 0 ≤ x) (hx1 : Builtin.Int.intBits x ≤ 400) (hy0 : 2 ≤ y) (hy1 : Builtin.Int.intBits y ≤ 200)
    (ret : ∀ D t1 t2 c1 oc1 ws1 u1 c2 oc2 ws2 u2 h' tk, Ext [45, 38] s.heap h' → h'.get? 45 = some (tabObj #[rawInt (posOf in2).line, rawInt (posOf in2).col, .ref c2]) → h'.get? 38 = some (tabObj #[rawInt (posOf in1).line, rawInt (posOf in1).col, .ref c1]) →
      s.heap.get? c1 = none → h'.get? c1 = some oc1 → oc1.data = .fields ws1 → ws1[1]? = some (.str q1n u1) → s.heap.get? c2 = none → h'.get? c2 = some oc2 → oc2.data = .fields ws2 → ws2[1]? = some (.str q2n u2) →
      s.heap.get? D = none → h'.get? D = some (tupO [.int (x / y) t1, .int (x % y) t2]) → @Ne Nat c1 c2 → Q (.ref D) { s with heap := h', toks := tk }) :
    wpAny (model prog w) (ktrTop dp un gd nm cs L a ccd cl outer) (call (.ref 57) [.int x tx, .int y ty]) Q E s := by
  refine wpAny_call ?_
  k_dflt (refine' enter_but (ds := [(45, _), (38, _)]) B F X N T ?kA ?kF ?kK ?kfo ?kd ?kc ?k8 ?k9 ?kB ?_ ?c5 ?c2 ?c3 ?c4)
  case kA => exact rfl
  case kF => exact rfl
  case kK => exact hk
  case kfo => exact F.keep _ _ (X _ _ (by k_is))
  case kd => exact rfl
  case kc => exact (codeRec_of X (by k_is)).keeps F.keep
  case k8 => show dp < recursionLimit; omega
  case k9 => exact BindsTo.of_eq rfl
  case kB => exact locs rfl
  case c5 => decide
  case c2 => rfl
  case c3 => rfl
  case c4 => rfl
  intro g' L' h' tk0 mz EG NG F' N' l1 B' X' T' ST' envz Az Qz Ez
  have C2' := C2.keeps ST'
  have C1' := C1.keeps ST'
  have l45 := ltN (a := 45) (l1 _ (.head _))
  have l38 := ltN (a := 38) (l1 _ (.tail _ (.head _)))
  have g45 := NG 45 (by simp)
  have g38 := NG 38 (by simp)
  clear ST' l1
  try dsimp only
  obtain ⟨n, hn⟩ : ∃ n, n = Builtin.Int.intBits y := ⟨_, rfl⟩
  have hn0 : 2 ≤ n := by
    have : ¬ Builtin.Int.intBits y ≤ 1 := by rw [PySem.intBits_le_iff]; omega
    omega
  have hn1 : n ≤ 200 := by omega
  k_steps
  refine Halt.on ?_
  rename Fr _ _ _ _ => Fc
  rename News _ _ _ _ => Nc
  rw [← hn] at Fc ⊢
  k_dflt (refine' ct_i2d1 B' Fc X' T' ?hk ?hd ?hu C1' (news_one Nc (.tail _ (.head _))) hn0 hn1 hx0 hx1 ?_)
  case hk => rfl
  case hd => show dp + 1 + 300 < recursionLimit; omega
  case hu => show un + 3 + 3000 < cLine; omega
  intro Da va epa c1 oc1 ws1 u1 h1 tk1 e1 h38 nc1 hc1 dc1 vc1 nDa hDa hIa lDc
  have F1 := ext_fr e1 Fc (by simpa using g38) (by simp only [List.mem_singleton]; refine neN ?_; omega)
  have N1 := news_after Nc e1 h38 (by k_upd)
  have N1 := news_new Fc N1 hc1 nc1
  have N1 := news_new Fc N1 hDa nDa
  have lx := news_off Nc nc1
  (replace lx := Mine.allNe_of lx; simp only [Mine.AllNe, and_true] at lx)
  have ly := news_off Nc nDa
  (replace ly := Mine.allNe_of ly; simp only [Mine.AllNe, and_true] at ly)
  have lDc := ltN lDc
  clear Fc Nc
  obtain ⟨k, hk9⟩ : ∃ k, k = (Builtin.Int.intBits x + n - 1) / n := ⟨_, rfl⟩
  rw [← hk9] at hIa
  have hk2 : k ≤ 200 := by
    rw [hk9]; exact figs_le hn0 hx1
  k_steps
  refine Halt.on ?_
  refine' wpAny_For ?_ ?hs
  case hs => intro _; rfl
  k_steps
  rename Fr _ _ _ _ => F2
  rename News _ _ _ _ => N2
  refine wpAny_pyIter_revIter (i := ((va.length : Int) - 1)) ⟨_, new_some N2 (.head _), rfl, rfl⟩ ?_
  have hlen : va.length = k := hIa.length.trans (dig_length _ _ _)
  rename_i Dq _ lDq _ I _ lD
  have N2' : News g' L' _ [(I, revObj Da ((va.length : Int) - 1)), (Dq, listOf [].toArray 0), (Da, listOf va.toArray epa), (c1, oc1), (45, tabObj #[]), (38, tabObj #[rawInt (posOf in1).line, rawInt (posOf in1).col, .ref c1])] := N2
  refine let_map F2 ?_; clear F2; intro m₂ F2
  refine' for_inv (DmpInv g' L' k n x y I Dq Da va epa [(c1, oc1), (45, tabObj #[]), (38, tabObj #[rawInt (posOf in1).line, rawInt (posOf in1).col, .ref c1])] m₂ s) ?hE ?turn k ?h0
  case hE => exact PassesOwn.leaving
  case h0 =>
    refine ⟨_, _, _, 0, _, [], [], _, _, _, rfl, Nat.le_refl _, ⟨rfl, ?_⟩, fr_canon3 (a := Str.ofString "r") (b := Str.ofString "q_digit") (c := Str.ofString "a_digit") F2 (fun _ _ _ _ => rfl), N2', .nil, by simp, (fun _ q => nomatch q), ?_, Int.le_refl 0, by omega⟩
    · rw [hlen]; rfl
    · rw [Int.ediv_eq_zero_of_lt hx0 (by rw [hk9]; exact lt_figs (by omega) hx0)]; simp [val]
  case turn =>
    intro rem st hIv0
    try k_fold
    obtain ⟨oI, h, tk, r, tr, vq, nq, epq, ua, uq, rfl, hrk, hit, F3, N3, hIq, hlq, hdq, hval, hr0, hr1⟩ := hIv0
    refine let_map F3 ?_; clear F3; intro m₃ F3
    clear F2 N2 N2'
    cases rem with
    | zero =>
      refine next_rev_end rfl F3 N3 (by k_all) hit fun h5 F5 N5 => ?_
      have hz9 : vq.toArray.toList.length ≤ sizeLine := by rw [sizeLine_eq]; have := hIq.length; simp; omega
      have hIr := hIq.reverse
      try dsimp only
      k_steps
      refine Halt.on ?_
      (k_dflt (refine' kl_reverse ?F ?N ?e ?U ?z ?_; (case F => k_asm); (case N => k_asm); (case e => exact rfl); (case U => k_upd); (case z => assumption)))
      intro hz Fz Nz
      (try dsimp only at Nz)
      k_steps
      refine Halt.on ?_
      rename Fr _ _ _ _ => F6
      rename News _ _ _ _ => N6
      k_dflt (refine' ct_d2i1 B' F6 X' T' ?hk ?hd ?hu C2' (news_one N6 (by k_mem)) hn1 ⟨_, new_some N6 (by k_mem), rfl, _, rfl⟩ hIr (by simp; omega) (fun d q => hdq d (List.mem_reverse.mp q)) ?_)
      case hk => rfl
      case hd => show dp + 1 + 300 < recursionLimit; omega
      case hu => show un + 3 + 3000 < cLine; omega
      intro tv c2 oc2 ws2 u2 h7 tk7 e7 h45 nc2 hc2 dc2 vc2
      have F7 := ext_fr e7 F6 (by simpa using g45) (by simp only [List.mem_singleton]; refine neN ?_; omega)
      have N7 := news_after N6 e7 h45 (by k_upd)
      have N7 := news_new F6 N7 hc2 nc2
      have lz := news_off N6 nc2
      (replace lz := Mine.allNe_of lz; simp only [Mine.AllNe, and_true] at lz)
      clear F6 N6 F5 N5
      have hfin : val n nq.reverse = x / y ∧ r = x % y := by
        rw [Nat.mul_zero, Int.pow_zero, Int.ediv_one] at hval
        have hy9 : 0 < y := by omega
        constructor
        · rw [← hval, Int.add_comm, Int.add_mul_ediv_right _ _ (by omega), Int.ediv_eq_zero_of_lt hr0 hr1, Int.zero_add]
        · rw [← hval, Int.add_comm, Int.add_mul_emod_self_right, Int.emod_eq_of_lt hr0 hr1]
      try dsimp only
      k_steps
      rename Fr _ _ _ _ => F8
      rename News _ _ _ _ => N8
      rw [hfin.1, hfin.2] at N8
      have no : ∀ b : Addr, @Ne Nat b 45 → @Ne Nat b 38 → b ∉ List.map (fun q : Addr × Obj => q.1) [(45, tabObj #[]), (38, tabObj #[])] := fun b q1 q2 q => by
        simp only [List.map_cons, List.map_nil, List.mem_cons, List.not_mem_nil, or_false] at q
        rcases q with q | q
        · exact q1 q
        · exact q2 q
      refine ret _ _ _ c1 oc1 ws1 u1 c2 oc2 ws2 u2 _ _ (ext_ret EG F8) (new_some N8 (by k_mem)) (new_some N8 (by k_mem)) (new_none EG N8 (o := oc1) (by k_mem) (no _ ?_ ?_)) (new_some N8 (by k_mem)) dc1 vc1
        (new_none EG N8 (o := oc2) (by k_mem) (no _ ?_ ?_)) (new_some N8 (by k_mem)) dc2 vc2 (new_none EG N8 (.head _) (no _ ?_ ?_)) (new_some N8 (.head _)) ?_
      all_goals (refine neN ?_; omega)
    | succ i =>
      obtain ⟨td, htd⟩ := hIa.get i _ (dig_get (by omega))
      refine next_rev (i := i) (items := va.toArray) (v := .int (x / 2 ^ (n * i) % 2 ^ n) td) F3 N3 (by k_all) (by simpa using hit) ⟨_, new_some N3 (by k_mem), rfl, _, rfl⟩ (by simpa using htd) fun h5 oI5 hit5 F5 N5 => ?_
      clear F3 N3
      try dsimp only
      obtain ⟨t0, t1, q0, q1, r0, r1, hv1⟩ := dmp_turn (n := n) (i := i) (x := x) hr0 hr1 hval
      refine wpAny_assign_Name ?_
      have hrb : Builtin.Int.intBits r ≤ 200 := Nat.le_trans (bits_mono hr0 hr1) hy1
      have hsh0 : (0 : Int) ≤ (n : Int) := Int.natCast_nonneg _
      have hsh1 : (Builtin.Int.intBits r : Int) + (n : Int) ≤ 2 ^ 27 := by omega
      k_steps
      refine Halt.on ?_
      rename Fr _ _ _ _ => F6
      rename News _ _ _ _ => N6
      rw [Int.toNat_natCast]
      have htb : Builtin.Int.intBits (r * 2 ^ n + x / 2 ^ (n * i) % 2 ^ n) ≤ 400 := by
        refine bits_lt t0 (Int.lt_of_lt_of_le t1 ?_)
        have y1 := lt_bits y (by omega)
        have y2 : y * 2 ^ n ≤ 2 ^ n * 2 ^ n := Int.mul_le_mul_of_nonneg_right (by rw [hn]; omega) (Int.le_of_lt (two_pos n))
        rw [← Int.pow_add] at y2
        exact Int.le_trans y2 (pow_mono2 (by omega))
      k_dflt (refine' ct_div2 B' F6 X' T' ?hk ?hd ?hn ?hy ?hl ?_)
      case hk => rfl
      case hd => show dp + 1 + 1 < recursionLimit; omega
      case hn => omega
      case hy => omega
      case hl =>
        have y1 : ¬ y.natAbs = 0 := by omega
        have y2 : Builtin.Int.intBits y = y.natAbs.log2 + 1 := by
          unfold Builtin.Int.intBits
          rw [if_neg (by simp; omega)]
        omega
      intro t1' t2' D h7 tk7 e7 nD hD7
      have F7 := ext_fr0 e7 F6
      have N7 := news_new F6 (ext_news0 e7 N6) hD7 nD
      have lD7 := news_off N6 nD
      (replace lD7 := Mine.allNe_of lD7; simp only [Mine.AllNe, and_true] at lD7)
      clear F6 N6
      rw [fdiv_pos (by omega), fmod_pos (by omega)] at N7
      try dsimp only
      k_steps
      rename Fr _ _ _ _ => F8
      rename News _ _ _ _ => N8
      have N9 := news_tail N8
      try simp only [List.push_toArray] at N9
      refine Halt.on ⟨i, Nat.lt_succ_self _, oI5, _, _, _, _, _, nq ++ [(r * 2 ^ n + x / 2 ^ (n * i) % 2 ^ n) / y], _, _, _, rfl, by omega, by simpa using hit5, fr_canon3 (a := Str.ofString "r") (b := Str.ofString "q_digit") (c := Str.ofString "a_digit") F8 ?_, N9, hIq.append (.cons _ t1' .nil), by simp; omega, ?_, hv1, r0, r1⟩
      · intro z n1 n2 n3
        simp [m₃, n1, n2, n3]
      · intro d q
        rcases List.mem_append.mp q with q | q
        · exact hdq d q
        · rw [List.mem_singleton] at q; subst q; exact ⟨q0, q1⟩
end
end Mine
end

section
open PySem PySem.W PyProof.Rows PySem.Calls PySem.Spec
namespace Mine
set_option maxRecDepth 100000
set_option maxHeartbeats 8000000
set_option linter.unusedVariables false
set_option pp.deepTerms false
set_option pp.deepTerms.threshold 4
theorem fillK7 : (fun P => hd.heap_39 P) = hd.heap_39 ∧ PySem.Challenge.rw_wv0074_01 = PySem.Challenge.rw_wv0074_01 := by
  k_fill
  w_top off
  exact ⟨rfl, rfl⟩
local macro_rules | `(tactic| walk_at "call ref") => `(tactic| (k_here; refine Halt.out ?_))

section
variable {prog : Program} {w : World} {p : Program} {loose : List Str} {mean : ExcName → Option Value} {mg mb : Str → Option Value} 
 {dp un : Nat} {gd : Option (List Code)} {nm : Str} {cs : Scope} {a : Addr} {ccd : Value} {cl : List (Str × Addr)} {outer : List Env} {A₀ : Around} {base h₀ : Heap} {L : Addr} {m : Str → Option Value} {s : Shared}
    {Q E : Value → Shared → Prop}

theorem ct_idm2p {x y : Int} {tx ty : Tok} {c1 c2 : Addr}
    (B : Below A₀ base outer h₀) (F : Fr h₀ L s.heap m) (X : (hd.heap_39 w.params).In h₀) (T : Top p loose mean mg mb h₀) (hk : cs.kind = .function) (hd : dp + 320 < recursionLimit) (hu : un + 3020 < cLine)
    (C2 : CodeHd h₀ 49 45) (C1 : CodeHd h₀ 42 38) (fu : Full s.heap c1 c2)
    (hx0 : 0 ≤ x) (hx1 : x < 2 ^ 400) (hy0 : 2 ≤ y) (hy1 : Builtin.Int.intBits y ≤ 200)
    (ret : ∀ D t1 t2 h' tk, Ext [] s.heap h' → s.heap.get? D = none → h'.get? D = some (tupO [.int (x / y) t1, .int (x % y) t2]) → Q (.ref D) { s with heap := h', toks := tk }) :
    wpAny (model prog w) (ktrTop dp un gd nm cs L a ccd cl outer) (call (.ref 64) [.int x tx, .int y ty]) Q E s := by
  refine wpAny_call ?_
  k_dflt (refine' enter_but (ds := []) B F X News.nil T ?kA ?kF ?kK ?kfo ?kd ?kc ?k8 ?k9 ?kB ?_ ?c5 ?c2 ?c3 ?c4)
  case kA => exact rfl
  case kF => exact rfl
  case kK => exact hk
  case kfo => exact F.keep _ _ (X _ _ (by k_is))
  case kd => exact rfl
  case kc => exact (codeRec_of X (by k_is)).keeps F.keep
  case k8 => show dp < recursionLimit; omega
  case k9 => exact BindsTo.of_eq rfl
  case kB => exact locs rfl
  case c5 => decide
  case c2 => rfl
  case c3 => rfl
  case c4 => rfl
  intro g' L' h' tk0 mz EG NG F' N' l1 B' X' T' ST' envz Az Qz Ez
  have C2' := C2.keeps ST'
  have C1' := C1.keeps ST'
  have fu' := fu.ext EG
  clear ST' l1
  try dsimp only
  k_steps
  refine Halt.on ?_
  rename Fr _ _ _ _ => Fc
  rename News _ _ _ _ => Nc
  k_dflt (refine' ct_dmp2 B' Fc X' T' ?hk ?hd ?hu C2' C1' (fu'.ext fun b o _ e => Fc.keep b o e) hx0 (bits_lt hx0 hx1) hy0 hy1 ?_)
  case hk => rfl
  case hd => show dp + 1 + 310 < recursionLimit; omega
  case hu => show un + 3 + 3010 < cLine; omega
  intro D t1 t2 h1 tk1 e1 nD hD
  have F1 := ext_fr0 e1 Fc
  have N1 := news_new Fc (ext_news0 e1 Nc) hD nD
  exact ret _ _ _ _ _ (ext_ret EG F1) (new_none EG N1 (by k_mem) (fun q => nomatch q)) (new_some N1 (by k_mem))

theorem ct_idm1p {x y : Int} {tx ty : Tok}
    (B : Below A₀ base outer h₀) (F : Fr h₀ L s.heap m) (X : (hd.heap_39 w.params).In h₀) (T : Top p loose mean mg mb h₀) (hk : cs.kind = .function) (hd : dp + 320 < recursionLimit) (hu : un + 3020 < cLine)
    (C2 : CodeHd h₀ 49 45) (C1 : CodeHd h₀ 42 38) (N : News h₀ L s.heap [(45, tabObj #[]), (38, tabObj #[])])
    (hx0 : 0 ≤ x) (hx1 : x < 2 ^ 400) (hy0 : 2 ≤ y) (hy1 : Builtin.Int.intBits y ≤ 200)
    (ret : ∀ D t1 t2 c1 oc1 ws1 u1 c2 oc2 ws2 u2 h' tk, Ext [45, 38] s.heap h' → h'.get? 45 = some (tabObj #[rawInt (posOf in2).line, rawInt (posOf in2).col, .ref c2]) → h'.get? 38 = some (tabObj #[rawInt (posOf in1).line, rawInt (posOf in1).col, .ref c1]) →
      s.heap.get? c1 = none → h'.get? c1 = some oc1 → oc1.data = .fields ws1 → ws1[1]? = some (.str q1n u1) → s.heap.get? c2 = none → h'.get? c2 = some oc2 → oc2.data = .fields ws2 → ws2[1]? = some (.str q2n u2) →
      s.heap.get? D = none → h'.get? D = some (tupO [.int (x / y) t1, .int (x % y) t2]) → @Ne Nat c1 c2 → Q (.ref D) { s with heap := h', toks := tk }) :
    wpAny (model prog w) (ktrTop dp un gd nm cs L a ccd cl outer) (call (.ref 64) [.int x tx, .int y ty]) Q E s := by
  refine wpAny_call ?_
  k_dflt (refine' enter_but (ds := [(45, _), (38, _)]) B F X N T ?kA ?kF ?kK ?kfo ?kd ?kc ?k8 ?k9 ?kB ?_ ?c5 ?c2 ?c3 ?c4)
  case kA => exact rfl
  case kF => exact rfl
  case kK => exact hk
  case kfo => exact F.keep _ _ (X _ _ (by k_is))
  case kd => exact rfl
  case kc => exact (codeRec_of X (by k_is)).keeps F.keep
  case k8 => show dp < recursionLimit; omega
  case k9 => exact BindsTo.of_eq rfl
  case kB => exact locs rfl
  case c5 => decide
  case c2 => rfl
  case c3 => rfl
  case c4 => rfl
  intro g' L' h' tk0 mz EG NG F' N' l1 B' X' T' ST' envz Az Qz Ez
  have C2' := C2.keeps ST'
  have C1' := C1.keeps ST'
  have l45 := ltN (a := 45) (l1 _ (.head _))
  have l38 := ltN (a := 38) (l1 _ (.tail _ (.head _)))
  have g45 := NG 45 (by simp)
  have g38 := NG 38 (by simp)
  have no : ∀ b : Addr, @Ne Nat b 45 → @Ne Nat b 38 → b ∉ List.map (fun q : Addr × Obj => q.1) [(45, tabObj #[]), (38, tabObj #[])] := fun b q1 q2 q => by
    simp only [List.map_cons, List.map_nil, List.mem_cons, List.not_mem_nil, or_false] at q
    rcases q with q | q
    · exact q1 q
    · exact q2 q
  clear ST' l1
  try dsimp only
  k_steps
  refine Halt.on ?_
  rename Fr _ _ _ _ => Fc
  rename News _ _ _ _ => Nc
  k_dflt (refine' ct_dmp1 B' Fc X' T' ?hk ?hd ?hu C2' C1' Nc hx0 (bits_lt hx0 hx1) hy0 hy1 ?_)
  case hk => rfl
  case hd => show dp + 1 + 310 < recursionLimit; omega
  case hu => show un + 3 + 3010 < cLine; omega
  intro D t1 t2 c1 oc1 ws1 u1 c2 oc2 ws2 u2 h1 tk1 e1 h45 h38 nc1 hc1 dc1 vc1 nc2 hc2 dc2 vc2 nD hD n12
  have l1 := news_off Nc nc1
  have l2 := news_off Nc nc2
  have l3 := news_off Nc nD
  (replace l1 := Mine.allNe_of l1; simp only [Mine.AllNe, and_true] at l1)
  (replace l2 := Mine.allNe_of l2; simp only [Mine.AllNe, and_true] at l2)
  (replace l3 := Mine.allNe_of l3; simp only [Mine.AllNe, and_true] at l3)
  have F1 := ext_fr e1 Fc (by simpa using ⟨g45, g38⟩) (by simp only [List.mem_cons, List.not_mem_nil, or_false, not_or]; exact ⟨neN (by omega), neN (by omega)⟩)
  have N1 := news_new Fc (news_new Fc (news_new Fc News.nil hc2 nc2) hc1 nc1) hD nD
  exact ret _ _ _ c1 oc1 ws1 u1 c2 oc2 ws2 u2 _ _ (ext_ret EG F1) h45 h38 (new_none EG N1 (o := oc1) (by k_mem) (no _ (neN (by omega)) (neN (by omega)))) hc1 dc1 vc1 (new_none EG N1 (o := oc2) (by k_mem) (no _ (neN (by omega)) (neN (by omega)))) hc2 dc2 vc2
    (new_none EG N1 (.head _) (no _ (neN (by omega)) (neN (by omega)))) hD n12

theorem ct_idm2n {x y : Int} {tx ty : Tok} {c1 c2 : Addr}
    (B : Below A₀ base outer h₀) (F : Fr h₀ L s.heap m) (X : (hd.heap_39 w.params).In h₀) (T : Top p loose mean mg mb h₀) (hk : cs.kind = .function) (hd : dp + 330 < recursionLimit) (hu : un + 3030 < cLine)
    (C2 : CodeHd h₀ 49 45) (C1 : CodeHd h₀ 42 38) (fu : Full s.heap c1 c2)
    (hx0 : x < 0) (hx1 : -(2 ^ 400) ≤ x) (hy0 : 2 ≤ y) (hy1 : Builtin.Int.intBits y ≤ 200)
    (ret : ∀ D t1 t2 h' tk, Ext [] s.heap h' → s.heap.get? D = none → h'.get? D = some (tupO [.int (x / y) t1, .int (x % y) t2]) → Q (.ref D) { s with heap := h', toks := tk }) :
    wpAny (model prog w) (ktrTop dp un gd nm cs L a ccd cl outer) (call (.ref 64) [.int x tx, .int y ty]) Q E s := by
  refine wpAny_call ?_
  k_dflt (refine' enter_but (ds := []) B F X News.nil T ?kA ?kF ?kK ?kfo ?kd ?kc ?k8 ?k9 ?kB ?_ ?c5 ?c2 ?c3 ?c4)
  case kA => exact rfl
  case kF => exact rfl
  case kK => exact hk
  case kfo => exact F.keep _ _ (X _ _ (by k_is))
  case kd => exact rfl
  case kc => exact (codeRec_of X (by k_is)).keeps F.keep
  case k8 => show dp < recursionLimit; omega
  case k9 => exact BindsTo.of_eq rfl
  case kB => exact locs rfl
  case c5 => decide
  case c2 => rfl
  case c3 => rfl
  case c4 => rfl
  intro g' L' h' tk0 mz EG NG F' N' l1 B' X' T' ST' envz Az Qz Ez
  have C2' := C2.keeps ST'
  have C1' := C1.keeps ST'
  have fu' := fu.ext EG
  clear ST' l1
  try dsimp only
  k_steps
  refine Halt.on ?_
  rename Fr _ _ _ _ => Fc
  rename News _ _ _ _ => Nc
  have eb : Builtin.bitNot x = -x - 1 := by first | rfl | (unfold Builtin.bitNot; omega)
  k_dflt (refine' ct_idm2p B' Fc X' T' ?hk ?hd ?hu C2' C1' (fu'.ext fun b o _ e => Fc.keep b o e) (by omega) (by omega) hy0 hy1 ?_)
  case hk => rfl
  case hd => show dp + 1 + 320 < recursionLimit; omega
  case hu => show un + 3 + 3020 < cLine; omega
  intro D t1 t2 h1 tk1 e1 nD hD
  have F1 := ext_fr0 e1 Fc
  have N1 := news_new Fc (ext_news0 e1 Nc) hD nD
  clear Fc Nc
  dsimp only
  k_steps
  rename Fr _ _ _ _ => F8
  rename News _ _ _ _ => N8
  obtain ⟨z1, z2⟩ := not_divmod (x := x) (y := y) (by omega)
  rw [z1, z2] at N8
  exact ret _ _ _ _ _ (ext_ret EG F8) (new_none EG N8 (.head _) (fun q => nomatch q)) (new_some N8 (.head _))

theorem ct_idm1n {x y : Int} {tx ty : Tok}
    (B : Below A₀ base outer h₀) (F : Fr h₀ L s.heap m) (X : (hd.heap_39 w.params).In h₀) (T : Top p loose mean mg mb h₀) (hk : cs.kind = .function) (hd : dp + 330 < recursionLimit) (hu : un + 3030 < cLine)
    (C2 : CodeHd h₀ 49 45) (C1 : CodeHd h₀ 42 38) (N : News h₀ L s.heap [(45, tabObj #[]), (38, tabObj #[])])
    (hx0 : x < 0) (hx1 : -(2 ^ 400) ≤ x) (hy0 : 2 ≤ y) (hy1 : Builtin.Int.intBits y ≤ 200)
    (ret : ∀ D t1 t2 c1 oc1 ws1 u1 c2 oc2 ws2 u2 h' tk, Ext [45, 38] s.heap h' → h'.get? 45 = some (tabObj #[rawInt (posOf in2).line, rawInt (posOf in2).col, .ref c2]) → h'.get? 38 = some (tabObj #[rawInt (posOf in1).line, rawInt (posOf in1).col, .ref c1]) →
      s.heap.get? c1 = none → h'.get? c1 = some oc1 → oc1.data = .fields ws1 → ws1[1]? = some (.str q1n u1) → s.heap.get? c2 = none → h'.get? c2 = some oc2 → oc2.data = .fields ws2 → ws2[1]? = some (.str q2n u2) →
      s.heap.get? D = none → h'.get? D = some (tupO [.int (x / y) t1, .int (x % y) t2]) → @Ne Nat c1 c2 → Q (.ref D) { s with heap := h', toks := tk }) :
    wpAny (model prog w) (ktrTop dp un gd nm cs L a ccd cl outer) (call (.ref 64) [.int x tx, .int y ty]) Q E s := by
  refine wpAny_call ?_
  k_dflt (refine' enter_but (ds := [(45, _), (38, _)]) B F X N T ?kA ?kF ?kK ?kfo ?kd ?kc ?k8 ?k9 ?kB ?_ ?c5 ?c2 ?c3 ?c4)
  case kA => exact rfl
  case kF => exact rfl
  case kK => exact hk
  case kfo => exact F.keep _ _ (X _ _ (by k_is))
  case kd => exact rfl
  case kc => exact (codeRec_of X (by k_is)).keeps F.keep
  case k8 => show dp < recursionLimit; omega
  case k9 => exact BindsTo.of_eq rfl
  case kB => exact locs rfl
  case c5 => decide
  case c2 => rfl
  case c3 => rfl
  case c4 => rfl
  intro g' L' h' tk0 mz EG NG F' N' l1 B' X' T' ST' envz Az Qz Ez
  have C2' := C2.keeps ST'
  have C1' := C1.keeps ST'
  have l45 := ltN (a := 45) (l1 _ (.head _))
  have l38 := ltN (a := 38) (l1 _ (.tail _ (.head _)))
  have g45 := NG 45 (by simp)
  have g38 := NG 38 (by simp)
  have no : ∀ b : Addr, @Ne Nat b 45 → @Ne Nat b 38 → b ∉ List.map (fun q : Addr × Obj => q.1) [(45, tabObj #[]), (38, tabObj #[])] := fun b q1 q2 q => by
    simp only [List.map_cons, List.map_nil, List.mem_cons, List.not_mem_nil, or_false] at q
    rcases q with q | q
    · exact q1 q
    · exact q2 q
  clear ST' l1
  try dsimp only
  k_steps
  refine Halt.on ?_
  rename Fr _ _ _ _ => Fc
  rename News _ _ _ _ => Nc
  have eb : Builtin.bitNot x = -x - 1 := by first | rfl | (unfold Builtin.bitNot; omega)
  k_dflt (refine' ct_idm1p B' Fc X' T' ?hk ?hd ?hu C2' C1' Nc (by omega) (by omega) hy0 hy1 ?_)
  case hk => rfl
  case hd => show dp + 1 + 320 < recursionLimit; omega
  case hu => show un + 3 + 3020 < cLine; omega
  intro D t1 t2 c1 oc1 ws1 u1 c2 oc2 ws2 u2 h1 tk1 e1 h45 h38 nc1 hc1 dc1 vc1 nc2 hc2 dc2 vc2 nD hD n12
  have l1 := news_off Nc nc1
  have l2 := news_off Nc nc2
  have l3 := news_off Nc nD
  (replace l1 := Mine.allNe_of l1; simp only [Mine.AllNe, and_true] at l1)
  (replace l2 := Mine.allNe_of l2; simp only [Mine.AllNe, and_true] at l2)
  (replace l3 := Mine.allNe_of l3; simp only [Mine.AllNe, and_true] at l3)
  have F1 := ext_fr e1 Fc (by simpa using ⟨g45, g38⟩) (by simp only [List.mem_cons, List.not_mem_nil, or_false, not_or]; exact ⟨neN (by omega), neN (by omega)⟩)
  have z45 := Nc _ (.head _)
  have z38 := Nc _ (.tail _ (.head _))
  have N0 : News g' L' h1 [(45, _), (38, _)] := fun q hq => by
    rcases List.mem_cons.mp hq with rfl | hq
    · exact ⟨h45, z45.2⟩
    · rw [List.mem_singleton] at hq; subst hq; exact ⟨h38, z38.2⟩
  have N1 := news_new Fc (news_new Fc (news_new Fc N0 hc2 nc2) hc1 nc1) hD nD
  clear Fc Nc N0
  dsimp only
  k_steps
  rename Fr _ _ _ _ => F8
  rename News _ _ _ _ => N8
  obtain ⟨z1, z2⟩ := not_divmod (x := x) (y := y) (by omega)
  rw [z1, z2] at N8
  refine ret _ _ _ c1 oc1 ws1 u1 c2 oc2 ws2 u2 _ _ (ext_ret EG F8) (new_some N8 (by k_mem)) (new_some N8 (by k_mem)) (new_none EG N8 (o := oc1) (by k_mem) (no _ ?_ ?_)) (new_some N8 (by k_mem)) dc1 vc1 (new_none EG N8 (o := oc2) (by k_mem) (no _ ?_ ?_)) (new_some N8 (by k_mem)) dc2 vc2
    (new_none EG N8 (.head _) (no _ ?_ ?_)) (new_some N8 (.head _)) n12
  all_goals (refine neN ?_; omega)

end
end Mine
end

section
open PySem PySem.W PyProof.Rows PySem.Calls PySem.Spec
namespace Mine
set_option maxRecDepth 100000
set_option maxHeartbeats 8000000
set_option linter.unusedVariables false
set_option pp.deepTerms false
set_option pp.deepTerms.threshold 4
theorem fillK8 : (fun P => hd.heap_39 P) = hd.heap_39 ∧ PySem.Challenge.rw_wv0074_01 = PySem.Challenge.rw_wv0074_01 := by
  k_fill
  w_top off
  exact ⟨rfl, rfl⟩
local macro_rules | `(tactic| walk_at "call ref") => `(tactic| (k_here; refine Halt.out ?_))
local macro_rules | `(tactic| walk_at "binaryOp Add ref ref") => `(tactic| (k_here; refine Halt.out ?_))

/-- no road of the long division through the library -/
def NoPy (b n : Int) : Prop := ∀ k : Int, k < n → ∀ z, Builtin.divisionGoesByPylong z (b ^ k.toNat) = false
theorem NoPy.out {b n k z : Int} (h : NoPy b n) (hk : k < n) : Builtin.divisionGoesByPylong z (b ^ k.toNat) = false := h k hk z
theorem noPy_of {b n : Int} (h0 : 2 ≤ b) (h1 : b ≤ 60) (hn : n ≤ 60) : NoPy b n := fun k hk z =>
  PyProof.noPylong_of_log2 (Nat.lt_of_lt_of_le (log2_of_bits (pow_bits h0 h1 (k := 60) (by omega)) (by decide)) (by decide))
local macro_rules | `(tactic| walk_at "binaryOp FloorDiv int int") => `(tactic| (k_here; refine floordiv_int (pow_ne (by assumption) _) ?_ (Or.inl (NoPy.out (by assumption) (by assumption)))))
local macro_rules | `(tactic| walk_at "binaryOp Mod int int") => `(tactic| (k_here; refine mod_int' (by first | assumption | omega) ?_))
section
variable {prog : Program} {w : World} {K : Type} [DecidableEq K] {knd : KeyKind prog w K} {A : Around} {E : Value → Shared → Prop} {s : Shared} {h₀ : Heap} {L d : Addr} {m : Str → Option Value} {kvs : List (K × Value)} {k : K} {key v : Value}
/-- an item of a dict of the ground -/
theorem item_base {value slice : PySem.Expr} {Q : Value → Shared → Prop} (F : Fr h₀ L s.heap m) (hD : h₀.DictOf knd d kvs) (hkey : knd.is k key = true) (hl : valueAt kvs k = some v) (h : Q v { s with toks := s.toks + 1 })
    (hs : subscripted slice false (.ref d) key = operate [.ref d, key] (getItem (.ref d) key)) (hg : ∀ r, letTemporaryGo value (.ref d) r = pure ()) :
    wpAny (model prog w) A (subscriptTail value slice (.ref d) key) Q E s :=
  have hD' := hD.keep F.keep
  subscriptTail_builtin hD'.typeIs slot_dict_getitem.lookup (wpAny_getItem_of hkey hD'.mapOf hl h) hs hg
end
local macro_rules | `(tactic| walk_at "subscriptTail") => `(tactic| (k_here; refine Halt.out ?_))
/-- the figures of x to the base b, the lowest first -/
def figs (b : Int) (k : Nat) (x : Int) : List Int := (List.range k).map fun i => x / b ^ i % b
theorem figs_length (b : Int) (k : Nat) (x : Int) : (figs b k x).length = k := by simp [figs]
theorem isList_of {h : Heap} {D : Addr} {vs : Array Value} {ep : Nat} (e : h.get? D = some (listOf vs ep)) : h.IsList D vs := ⟨_, e, rfl, _, rfl⟩
theorem figs_append {b : Int} (hb : 0 < b) (j k : Nat) (x : Int) : figs b (j + k) x = figs b j (x % b ^ j) ++ figs b k (x / b ^ j) := by
  unfold figs
  rw [List.range_add, List.map_append, List.map_map]
  congr 1
  · refine List.map_congr_left fun i hi => ?_
    have hi := List.mem_range.mp hi
    obtain ⟨r, rfl⟩ : ∃ r, j = i + 1 + r := ⟨j - (i + 1), by omega⟩
    have e : b ^ (i + 1 + r) = b ^ i * (b * b ^ r) := by
      rw [Int.pow_add, Int.pow_succ, Int.mul_assoc]
    have hp : 0 < b ^ i := Int.pow_pos hb
    have h2 : x % b ^ (i + 1 + r) = x - b ^ i * (b * b ^ r) * (x / b ^ (i + 1 + r)) := by rw [← e]; exact Int.emod_def _ _
    rw [h2]
    generalize x / b ^ (i + 1 + r) = q
    have h3 : x - b ^ i * (b * b ^ r) * q = x + b ^ i * (b * (-(b ^ r * q))) := by
      rw [Int.mul_neg, Int.mul_neg, Int.sub_eq_add_neg]; simp [Int.mul_assoc]
    rw [h3, Int.add_mul_ediv_left _ _ (Int.ne_of_gt hp), Int.add_mul_emod_self_left]
  · refine List.map_congr_left fun i _ => ?_
    show x / b ^ (j + i) % b = x / b ^ j / b ^ i % b
    rw [Int.ediv_ediv_of_nonneg (Int.le_of_lt (Int.pow_pos hb)), ← Int.pow_add]
theorem up_ge {x B : Int} (h : 2 ≤ B) (h0 : -(2 ^ 400) ≤ x) : -(2 ^ 400) ≤ x / B := by
  have hN := two_pos 400
  rw [Int.le_ediv_iff_mul_le (by omega)]
  generalize (2 : Int) ^ 400 = N at *
  have : N * 1 ≤ N * B := Int.mul_le_mul_of_nonneg_left (by omega) (by omega)
  rw [Int.neg_mul]; omega
theorem up_lt {x B : Int} (h : 2 ≤ B) (h0 : x < 2 ^ 400) : x / B < 2 ^ 400 := by
  have hN := two_pos 400
  generalize (2 : Int) ^ 400 = N at *
  refine Int.ediv_lt_of_lt_mul (by omega) ?_
  have : N * 1 ≤ N * B := Int.mul_le_mul_of_nonneg_left (by omega) (by omega)
  omega
/-- the widths that the parting comes to have their halves in H -/
inductive Cov (limit : Int) (H : Int → Prop) : Int → Prop
  | leaf {v : Int} : v ≤ limit → Cov limit H v
  | node {v : Int} : limit < v → H (v / 2) → Cov limit H (v / 2) → Cov limit H (v - v / 2) → Cov limit H v

/-- what halving a width leaves -/
inductive PartB (b v : Int) : Prop
  | mk (hy2 : 2 ≤ b ^ (v / 2).toNat) (hy3 : Builtin.Int.intBits (b ^ (v / 2).toNat) ≤ 200) (hy4 : b ^ (v / 2).toNat < 2 ^ 400) (hyn : b ^ (v / 2).toNat ≠ 0) (hyp : 0 < b ^ (v / 2).toNat) (hb9 : 0 < b) (s1 : (v / 2).toNat + 1 ≤ v.toNat) (s2 : (v - v / 2).toNat + 1 ≤ v.toNat)
    (hvB : v.toNat = (v / 2).toNat + (v - v / 2).toNat) (hsB : (v / 2).toNat + (v - v / 2).toNat ≤ sizeLine) (hA1 : 1 ≤ v / 2) (hA2 : v / 2 ≤ 60) (hB1 : 1 ≤ v - v / 2) (hB2 : v - v / 2 ≤ 60)
theorem partB {b lim v : Int} (hb0 : 2 ≤ b) (hb1 : b ≤ 60) (hl0 : 1 ≤ lim) (hv : lim < v) (hw1 : v ≤ 60) : PartB b v := by
  obtain ⟨w, rfl⟩ := Int.eq_ofNat_of_zero_le (by omega : 0 ≤ v)
  have h2 : 2 ≤ w := by omega
  have h6 : w ≤ 60 := by omega
  have e1 : ((w : Int) / 2).toNat = w / 2 := rfl
  have e2 : ((w : Int) - (w : Int) / 2).toNat = w - w / 2 := by omega
  have e3 : w / 2 + (w - w / 2) = w := Nat.add_sub_of_le (Nat.div_le_self ..)
  have hj : w / 2 ≤ 30 := by omega
  have hp : 0 < b ^ (w / 2) := Int.pow_pos (Int.lt_of_lt_of_le (by decide) hb0)
  have hy2 : 2 ≤ b ^ (w / 2) := by
    obtain ⟨j, hj⟩ : ∃ j, w / 2 = j + 1 := ⟨w / 2 - 1, by omega⟩
    rw [hj, Int.pow_succ]
    have : 0 < b ^ j := Int.pow_pos (by omega)
    have h2 : 1 * 2 ≤ b ^ j * b := Int.mul_le_mul (by omega) hb0 (by omega) (by omega)
    exact h2
  have hy3 : Builtin.Int.intBits (b ^ (w / 2)) ≤ 200 := Nat.le_trans (pow_bits hb0 hb1 hj) (by decide)
  have a1 : 1 ≤ w / 2 := by omega
  have a2 : 1 ≤ w - w / 2 := by omega
  refine .mk hy2 hy3 (Int.lt_of_lt_of_le (lt_bits _ (Int.le_of_lt hp)) (pow_mono2 (Nat.le_trans hy3 (by decide)))) (Int.ne_of_gt hp) hp (Int.lt_of_lt_of_le (by decide) hb0) ?_ ?_ ?_ ?_ (Int.ofNat_le.mpr a1) (Int.ofNat_le.mpr (Nat.le_trans hj (by decide))) ?_ ?_
  · show w / 2 + 1 ≤ w; omega
  · rw [e2]; show w - w / 2 + 1 ≤ w; omega
  · rw [e2]; exact e3.symm
  · rw [e2, e1, e3]; exact Nat.le_trans h6 (Nat.le_of_ble_eq_true (by with_unfolding_all rfl))
  · omega
  · omega
theorem room1 {d c c' q w : Nat} (h : q + 1 ≤ w) (hc : c ≤ c') : d + 1 + c + q ≤ d + c' + w := by omega
theorem room8 {d c c' q w : Nat} (h : q + 1 ≤ w) (hc : c ≤ c') : d + 3 + c + 8 * q ≤ d + c' + 8 * w := by omega

section
variable {prog : Program} {w : World} {p : Program} {loose : List Str} {mean : ExcName → Option Value} {mg mb : Str → Option Value} 

theorem ct_idm2 {dp un : Nat} {gd : Option (List Code)} {nm : Str} {cs : Scope} {a : Addr} {ccd : Value} {cl : List (Str × Addr)} {outer : List Env} {A₀ : Around} {base h₀ : Heap} {L : Addr} {m : Str → Option Value} {s : Shared}
    {Q E : Value → Shared → Prop} {x y : Int} {tx ty : Tok} {c1 c2 : Addr}
    (B : Below A₀ base outer h₀) (F : Fr h₀ L s.heap m) (X : (hd.heap_39 w.params).In h₀) (T : Top p loose mean mg mb h₀) (hk : cs.kind = .function) (hd : dp + 330 < recursionLimit) (hu : un + 3030 < cLine)
    (C2 : CodeHd h₀ 49 45) (C1 : CodeHd h₀ 42 38) (fu : Full s.heap c1 c2)
    (hx0 : -(2 ^ 400) ≤ x) (hx1 : x < 2 ^ 400) (hy0 : 2 ≤ y) (hy1 : Builtin.Int.intBits y ≤ 200)
    (ret : ∀ D t1 t2 h' tk, Ext [] s.heap h' → s.heap.get? D = none → h'.get? D = some (tupO [.int (x / y) t1, .int (x % y) t2]) → Q (.ref D) { s with heap := h', toks := tk }) :
    wpAny (model prog w) (ktrTop dp un gd nm cs L a ccd cl outer) (call (.ref 64) [.int x tx, .int y ty]) Q E s := by
  by_cases h0 : 0 ≤ x
  · exact ct_idm2p B F X T hk (by omega) (by omega) C2 C1 fu h0 hx1 hy0 hy1 ret
  · exact ct_idm2n B F X T hk hd hu C2 C1 fu (by omega) hx0 hy0 hy1 ret

theorem ct_part2 {b lim : Int} {tb tl : Tok} {P : Addr} {kvs : List (Int × Value)} {H : Int → Prop} {c1 c2 : Addr} (hb0 : 2 ≤ b) (hb1 : b ≤ 60) (hl0 : 1 ≤ lim) (hH : ∀ k, H k → 1 ≤ k → ∃ t, valueAt kvs k = some (.int (b ^ k.toNat) t)) {wd : Int} (cov : Cov lim H wd) :
    ∀ {dp un : Nat} {gd : Option (List Code)} {nm : Str} {cs : Scope} {a : Addr} {ccd : Value} {cl : List (Str × Addr)} {outer : List Env} {A₀ : Around} {base h₀ : Heap} {L : Addr} {m : Str → Option Value} {s : Shared}
    {Q E : Value → Shared → Prop} {x : Int} {tx tw : Tok}
    (B : Below A₀ base outer h₀) (F : Fr h₀ L s.heap m) (X : (hd.heap_39 w.params).In h₀) (T : Top p loose mean mg mb h₀) (hk : cs.kind = .function) (hd : dp + 340 + wd.toNat < recursionLimit) (hu : un + 3040 + 8 * wd.toNat < cLine)
    (C2 : CodeHd h₀ 49 45) (C1 : CodeHd h₀ 42 38) (fu : Full s.heap c1 c2) (hP : s.heap.DictOf (intKind prog w) P kvs)
    (hx0 : -(2 ^ 400) ≤ x) (hx1 : x < 2 ^ 400) (hw0 : 1 ≤ wd) (hw1 : wd ≤ 60)
    (ret : ∀ D vs ep h' tk, Ext [] s.heap h' → s.heap.get? D = none → h'.get? D = some (listOf vs.toArray ep) → IntsAre vs (figs b wd.toNat x) → Q (.ref D) { s with heap := h', toks := tk }),
    wpAny (model prog w) (ktrTop dp un gd nm cs L a ccd cl outer) (call (.ref 81) [.int x tx, .int wd tw, .int b tb, .int lim tl, .ref P]) Q E s := by
  induction cov with
  | @leaf v hle =>
    intro dp un gd nm cs a ccd cl outer A₀ base h₀ L m s Q E x tx tw B F X T hk hd hu C2 C1 fu hP hx0 hx1 hw0 hw1 ret
    refine wpAny_call ?_
    k_dflt (refine' enter_butC (ds := []) B F X News.nil T ?kA ?kF ?kK ?kfo ?kd ?kc ?k8 ?k9 ?kB ?kN ?_ ?c2 ?c3 ?c4)
    case kA => exact rfl
    case kF => exact rfl
    case kK => exact hk
    case kfo => exact F.keep _ _ (X _ _ (by k_is))
    case kd => exact rfl
    case kc => exact (codeRec_of X (by k_is)).keeps F.keep
    case k8 => show dp < recursionLimit; omega
    case k9 => exact BindsTo.of_eq rfl
    case kB => exact rfl
    case kN => decide +kernel
    case c2 => rfl
    case c3 => rfl
    case c4 => rfl
    intro g' L' h' tk' cells' mz EG NG F' N' Y' l1 B' X' T' ST' envz Az Qz Ez
    have C2' := C2.keeps ST'
    have C1' := C1.keeps ST'
    have fu' := fu.ext EG
    have np : NoPy b (0 + ((v - 0).toNat : Int)) := noPy_of hb0 hb1 (by omega)
    clear ST' l1
    k_cells Y'
    simp only [List.append_nil] at N'
    try dsimp only
    k_steps
    rename Fr _ _ _ _ => F9
    rename News _ _ _ _ => N9
    refine ret _ _ _ _ _ (ext_ret EG F9) (new_none EG N9 (.head _) (fun q => nomatch q)) (new_some N9 (.head _)) ?_
    have e : (rangeKs 0 (v - 0).toNat).map (fun k' => (x.fdiv (b ^ k'.toNat)).fmod b) = figs b v.toNat x := by
      unfold rangeKs figs
      rw [List.map_map, Int.sub_zero]
      refine List.map_congr_left fun i _ => ?_
      show (x.fdiv (b ^ (0 + (i : Int)).toNat)).fmod b = _
      rw [Int.zero_add, Int.toNat_natCast, fdiv_pos (Int.pow_pos (by omega)), fmod_pos (by omega)]
    rw [← e]; assumption
  | @node v hlt hv cov1 cov2 IH1 IH2 =>
    intro dp un gd nm cs a ccd cl outer A₀ base h₀ L m s Q E x tx tw B F X T hk hd hu C2 C1 fu hP hx0 hx1 hw0 hw1 ret
    refine wpAny_call ?_
    k_dflt (refine' enter_butC (ds := []) B F X News.nil T ?kA ?kF ?kK ?kfo ?kd ?kc ?k8 ?k9 ?kB ?kN ?_ ?c2 ?c3 ?c4)
    case kA => exact rfl
    case kF => exact rfl
    case kK => exact hk
    case kfo => exact F.keep _ _ (X _ _ (by k_is))
    case kd => exact rfl
    case kc => exact (codeRec_of X (by k_is)).keeps F.keep
    case k8 => show dp < recursionLimit; omega
    case k9 => exact BindsTo.of_eq rfl
    case kB => exact rfl
    case kN => decide +kernel
    case c2 => rfl
    case c3 => rfl
    case c4 => rfl
    intro g' L' h' tk' cells' mz EG NG F' N' Y' l1 B' X' T' ST' envz Az Qz Ez
    have C2' := C2.keeps ST'
    have C1' := C1.keeps ST'
    have fu' := fu.ext EG
    have hP' : g'.DictOf (intKind prog w) P kvs := hP.keep fun b o e => EG b o (fun q => nomatch q) e
    clear ST' l1
    k_cells Y'
    simp only [List.append_nil] at N'
    try dsimp only
    have eH : v.fdiv (2 ^ Int.toNat 1) = v / 2 := by rw [show (2 : Int) ^ Int.toNat 1 = 2 from rfl, fdiv_pos (by decide)]
    obtain ⟨th, hth⟩ := hH _ hv (by omega)
    have hth' : valueAt kvs (v.fdiv (2 ^ Int.toNat 1)) = some (.int (b ^ (v / 2).toNat) th) := by rw [eH]; exact hth
    k_steps
    refine Halt.on ?_
    (k_dflt (refine' item_base (knd := intKind _ _) ?F ?D (intKind_is _ _ _ _) ?l ?_ ?s ?g; (case F => k_asm); (case D => assumption); (case l => assumption); (case s => with_unfolding_all rfl); (case g => (intro _; with_unfolding_all rfl))))
    k_steps
    refine Halt.on ?_
    rename Fr _ _ _ _ => Fc
    rename News _ _ _ _ => Nc
    obtain ⟨hy2, hy3, hy4, hyn, hyp, hb9, s1, s2, hvB, hsB, hA1, hA2, hB1, hB2⟩ := partB hb0 hb1 hl0 (by assumption) hw1
    k_dflt (refine' ct_idm2 B' Fc X' T' ?hk ?hd ?hu C2' C1' (fu'.ext fun b o _ e => Fc.keep b o e) hx0 hx1 hy2 hy3 ?_)
    case hk => rfl
    case hd => show dp + 1 + 330 < recursionLimit; omega
    case hu => show un + 3 + 3030 < cLine; omega
    intro D t1 t2 h1 tk1 e1 nD hD
    have F1 := ext_fr0 e1 Fc
    have N1 := news_new Fc (ext_news0 e1 Nc) hD nD
    have lD := news_off Nc nD
    (replace lD := Mine.allNe_of lD; simp only [Mine.AllNe, and_true] at lD)
    clear Fc Nc
    dsimp only
    k_steps
    refine Halt.on ?_
    rename Fr _ _ _ _ => Fc
    rename News _ _ _ _ => Nc
    rw [eH]
    k_dflt (refine' IH1 B' Fc X' T' ?hk ?hd ?hu C2' C1' (fu'.ext fun b o _ e => Fc.keep b o e) (hP'.keep Fc.keep) ?h0 ?h1 hA1 hA2 ?_)
    case hk => rfl
    case hd => exact Nat.lt_of_le_of_lt (room1 s1 (Nat.le_refl _)) hd
    case hu => exact Nat.lt_of_le_of_lt (room8 s1 (Nat.le_refl _)) hu
    case h0 => exact Int.le_trans (Int.neg_nonpos_of_nonneg (Int.le_of_lt (two_pos 400))) (Int.emod_nonneg x hyn)
    case h1 => exact Int.lt_trans (Int.emod_lt_of_pos x hyp) hy4
    intro D1 vs1 ep1 h2 tk2 e2 nD1 hD1 hI1
    have F2 := ext_fr0 e2 Fc
    have N2 := news_new Fc (ext_news0 e2 Nc) hD1 nD1
    have lD1 := news_off Nc nD1
    (replace lD1 := Mine.allNe_of lD1; simp only [Mine.AllNe, and_true] at lD1)
    clear Fc Nc
    dsimp only
    k_steps
    refine Halt.on ?_
    rename Fr _ _ _ _ => Fc
    rename News _ _ _ _ => Nc
    rw [eH]
    k_dflt (refine' IH2 B' Fc X' T' ?hk ?hd ?hu C2' C1' (fu'.ext fun b o _ e => Fc.keep b o e) (hP'.keep Fc.keep) ?h0 ?h1 hB1 hB2 ?_)
    case hk => rfl
    case hd => exact Nat.lt_of_le_of_lt (room1 s2 (Nat.le_refl _)) hd
    case hu => exact Nat.lt_of_le_of_lt (room8 s2 (Nat.le_refl _)) hu
    case h0 => exact up_ge hy2 hx0
    case h1 => exact up_lt hy2 hx1
    intro D2 vs2 ep2 h3 tk3 e3 nD2 hD2 hI2
    have F3 := ext_fr0 e3 Fc
    have N3 := news_new Fc (ext_news0 e3 Nc) hD2 nD2
    have lD2 := news_off Nc nD2
    (replace lD2 := Mine.allNe_of lD2; simp only [Mine.AllNe, and_true] at lD2)
    clear Fc Nc
    dsimp only
    k_steps
    refine Halt.on ?_
    rename Fr _ _ _ _ => Fc
    rename News _ _ _ _ => Nc
    refine add_lists_ints (vs := vs1) (ws := vs2) Fc Nc (isList_of (Nc.get (by k_mem))) (isList_of (Nc.get (by k_mem))) hI1 hI2 ?_ ?hsz
    case hsz => rw [figs_length, figs_length]; exact hsB
    intro h4 F4 N4 hI4
    refine ret _ _ _ _ _ (ext_ret EG F4) (new_none EG N4 (.head _) (fun q => nomatch q)) (new_some N4 (.head _)) ?_
    rw [hvB, figs_append hb9]
    exact hI4
end
set_option maxRecDepth 100000
set_option maxHeartbeats 8000000
set_option linter.unusedVariables false
set_option pp.deepTerms false
set_option pp.deepTerms.threshold 4
theorem fillK9 : (fun P => hd.heap_39 P) = hd.heap_39 ∧ PySem.Challenge.rw_wv0074_01 = PySem.Challenge.rw_wv0074_01 := by
  k_fill
  w_top off
  exact ⟨rfl, rfl⟩

section
variable {prog : Program} {w : World} {K : Type} [DecidableEq K] {knd : KeyKind prog w K} {h₀ h h' : Heap} {L d : Addr} {kvs : List (K × Value)} {news : List (Addr × Obj)}
theorem dict_ext (hP : h.DictOf knd d kvs) (e : ∀ o, h.get? d = some o → h'.get? d = some o) : h'.DictOf knd d kvs := by
  obtain ⟨o, ho, hd⟩ := Heap.dictOf_iff.mp hP
  exact Heap.dictOf_iff.mpr ⟨o, e o ho, hd⟩
theorem Full.ofN {c1 c2 : Addr} {oc1 oc2 : Obj} {ws1 ws2 : Array Value} {u1 u2 : Tok} (N : News h₀ L h news) (m1 : (45, tabObj #[rawInt (posOf in2).line, rawInt (posOf in2).col, .ref c2]) ∈ news) (m2 : (38, tabObj #[rawInt (posOf in1).line, rawInt (posOf in1).col, .ref c1]) ∈ news)
    (m3 : (c1, oc1) ∈ news) (m4 : (c2, oc2) ∈ news) (d1 : oc1.data = .fields ws1) (v1 : ws1[1]? = some (.str q1n u1)) (d2 : oc2.data = .fields ws2) (v2 : ws2[1]? = some (.str q2n u2)) : Full h c1 c2 :=
  ⟨(N _ m2).1, (N _ m1).1, ⟨_, _, _, _, rfl, (N _ m3).1, d1, v1⟩, ⟨_, _, _, _, rfl, (N _ m4).1, d2, v2⟩⟩
theorem news_two {o1 o2 n1 n2 : Obj} {pre : List (Addr × Obj)} (N : News h₀ L h (pre ++ [(45, o1), (38, o2)])) (e : Ext [45, 38] h h') (h1 : h'.get? 45 = some n1) (h2 : h'.get? 38 = some n2) (off : ∀ p ∈ pre, @Ne Nat p.1 45 ∧ @Ne Nat p.1 38) : News h₀ L h' (pre ++ [(45, n1), (38, n2)]) := by
  intro p hp
  rcases List.mem_append.mp hp with hp | hp
  · have z := N p (List.mem_append_left _ hp)
    obtain ⟨q1, q2⟩ := off p hp
    exact ⟨e _ _ (by simp only [List.mem_cons, List.not_mem_nil, or_false, not_or]; exact ⟨q1, q2⟩) z.1, z.2⟩
  · simp only [List.mem_cons, List.not_mem_nil, or_false] at hp
    rcases hp with rfl | rfl
    · exact ⟨h1, (N (45, o1) (by simp)).2⟩
    · exact ⟨h2, (N (38, o2) (by simp)).2⟩
end
section
variable {prog : Program} {w : World} {p : Program} {loose : List Str} {mean : ExcName → Option Value} {mg mb : Str → Option Value} 
theorem ct_idm1 {dp un : Nat} {gd : Option (List Code)} {nm : Str} {cs : Scope} {a : Addr} {ccd : Value} {cl : List (Str × Addr)} {outer : List Env} {A₀ : Around} {base h₀ : Heap} {L : Addr} {m : Str → Option Value} {s : Shared}
    {Q E : Value → Shared → Prop} {x y : Int} {tx ty : Tok}
    (B : Below A₀ base outer h₀) (F : Fr h₀ L s.heap m) (X : (hd.heap_39 w.params).In h₀) (T : Top p loose mean mg mb h₀) (hk : cs.kind = .function) (hd : dp + 330 < recursionLimit) (hu : un + 3030 < cLine)
    (C2 : CodeHd h₀ 49 45) (C1 : CodeHd h₀ 42 38) (N : News h₀ L s.heap [(45, tabObj #[]), (38, tabObj #[])])
    (hx0 : -(2 ^ 400) ≤ x) (hx1 : x < 2 ^ 400) (hy0 : 2 ≤ y) (hy1 : Builtin.Int.intBits y ≤ 200)
    (ret : ∀ D t1 t2 c1 oc1 ws1 u1 c2 oc2 ws2 u2 h' tk, Ext [45, 38] s.heap h' → h'.get? 45 = some (tabObj #[rawInt (posOf in2).line, rawInt (posOf in2).col, .ref c2]) → h'.get? 38 = some (tabObj #[rawInt (posOf in1).line, rawInt (posOf in1).col, .ref c1]) →
      s.heap.get? c1 = none → h'.get? c1 = some oc1 → oc1.data = .fields ws1 → ws1[1]? = some (.str q1n u1) → s.heap.get? c2 = none → h'.get? c2 = some oc2 → oc2.data = .fields ws2 → ws2[1]? = some (.str q2n u2) →
      s.heap.get? D = none → h'.get? D = some (tupO [.int (x / y) t1, .int (x % y) t2]) → @Ne Nat c1 c2 → Q (.ref D) { s with heap := h', toks := tk }) :
    wpAny (model prog w) (ktrTop dp un gd nm cs L a ccd cl outer) (call (.ref 64) [.int x tx, .int y ty]) Q E s := by
  by_cases h0 : 0 ≤ x
  · exact ct_idm1p B F X T hk (by omega) (by omega) C2 C1 N h0 hx1 hy0 hy1 ret
  · exact ct_idm1n B F X T hk hd hu C2 C1 N (by omega) hx0 hy0 hy1 ret
theorem ct_part1 {b lim : Int} {tb tl : Tok} {P : Addr} {kvs : List (Int × Value)} {H : Int → Prop} (hb0 : 2 ≤ b) (hb1 : b ≤ 60) (hl0 : 1 ≤ lim) (hH : ∀ k, H k → 1 ≤ k → ∃ t, valueAt kvs k = some (.int (b ^ k.toNat) t)) {v : Int} (cov : Cov lim H v)
    {dp un : Nat} {gd : Option (List Code)} {nm : Str} {cs : Scope} {a : Addr} {ccd : Value} {cl : List (Str × Addr)} {outer : List Env} {A₀ : Around} {base h₀ : Heap} {L : Addr} {m : Str → Option Value} {s : Shared}
    {Q E : Value → Shared → Prop} {x : Int} {tx tw : Tok}
    (B : Below A₀ base outer h₀) (F : Fr h₀ L s.heap m) (X : (hd.heap_39 w.params).In h₀) (T : Top p loose mean mg mb h₀) (hk : cs.kind = .function) (hd : dp + 350 + v.toNat < recursionLimit) (hu : un + 3050 + 8 * v.toNat < cLine)
    (C2 : CodeHd h₀ 49 45) (C1 : CodeHd h₀ 42 38) (N : News h₀ L s.heap [(45, tabObj #[]), (38, tabObj #[])]) (hP : s.heap.DictOf (intKind prog w) P kvs) (hP1 : @Ne Nat P 45) (hP2 : @Ne Nat P 38)
    (hx0 : -(2 ^ 400) ≤ x) (hx1 : x < 2 ^ 400) (hw0 : 1 ≤ v) (hw1 : v ≤ 60)
    (ret : ∀ D vs ep p45 p38 h' tk, Ext [45, 38] s.heap h' → h'.get? 45 = some (tabObj p45) → h'.get? 38 = some (tabObj p38) → s.heap.get? D = none → h'.get? D = some (listOf vs.toArray ep) → IntsAre vs (figs b v.toNat x) → Q (.ref D) { s with heap := h', toks := tk }) :
    wpAny (model prog w) (ktrTop dp un gd nm cs L a ccd cl outer) (call (.ref 81) [.int x tx, .int v tw, .int b tb, .int lim tl, .ref P]) Q E s := by
  cases cov with
  | leaf hle =>
    refine wpAny_call ?_
    k_dflt (refine' enter_butC (ds := [(45, _), (38, _)]) B F X N T ?kA ?kF ?kK ?kfo ?kd ?kc ?k8 ?k9 ?kB ?kN ?_ ?c2 ?c3 ?c4)
    case kA => exact rfl
    case kF => exact rfl
    case kK => exact hk
    case kfo => exact F.keep _ _ (X _ _ (by k_is))
    case kd => exact rfl
    case kc => exact (codeRec_of X (by k_is)).keeps F.keep
    case k8 => show dp < recursionLimit; omega
    case k9 => exact BindsTo.of_eq rfl
    case kB => exact rfl
    case kN => decide +kernel
    case c2 => rfl
    case c3 => rfl
    case c4 => rfl
    intro g' L' h' tk' cells' mz EG NG F' N' Y' l1 B' X' T' ST' envz Az Qz Ez
    have C2' := C2.keeps ST'
    have C1' := C1.keeps ST'
    have l45 := ltN (a := 45) (l1 _ (.head _))
    have l38 := ltN (a := 38) (l1 _ (.tail _ (.head _)))
    have g45 := NG 45 (by simp)
    have g38 := NG 38 (by simp)
    have no : ∀ b : Addr, @Ne Nat b 45 → @Ne Nat b 38 → b ∉ List.map (fun q : Addr × Obj => q.1) [(45, tabObj #[]), (38, tabObj #[])] := fun b q1 q2 q => by
      simp only [List.map_cons, List.map_nil, List.mem_cons, List.not_mem_nil, or_false] at q
      rcases q with q | q
      · exact q1 q
      · exact q2 q
    have np : NoPy b (0 + ((v - 0).toNat : Int)) := noPy_of hb0 hb1 (by omega)
    clear ST' l1
    k_cells Y'
    try simp only [List.append_nil, List.cons_append, List.nil_append] at N'
    try dsimp only
    k_steps
    rename Fr _ _ _ _ => F9
    rename News _ _ _ _ => N9
    refine ret _ _ _ _ _ _ _ (ext_ret EG F9) (new_some N9 (by k_mem)) (new_some N9 (by k_mem)) (new_none EG N9 (.head _) (no _ ?_ ?_)) (new_some N9 (.head _)) ?hh
    rotate_left 2
    have e : (rangeKs 0 (v - 0).toNat).map (fun k' => (x.fdiv (b ^ k'.toNat)).fmod b) = figs b v.toNat x := by
      unfold rangeKs figs
      rw [List.map_map, Int.sub_zero]
      refine List.map_congr_left fun i _ => ?_
      show (x.fdiv (b ^ (0 + (i : Int)).toNat)).fmod b = _
      rw [Int.zero_add, Int.toNat_natCast, fdiv_pos (Int.pow_pos (by omega)), fmod_pos (by omega)]
    rw [← e]; assumption
    all_goals (refine neN ?_; omega)
  | node hlt hv cov1 cov2 =>
    refine wpAny_call ?_
    k_dflt (refine' enter_butC (ds := [(45, _), (38, _)]) B F X N T ?kA ?kF ?kK ?kfo ?kd ?kc ?k8 ?k9 ?kB ?kN ?_ ?c2 ?c3 ?c4)
    case kA => exact rfl
    case kF => exact rfl
    case kK => exact hk
    case kfo => exact F.keep _ _ (X _ _ (by k_is))
    case kd => exact rfl
    case kc => exact (codeRec_of X (by k_is)).keeps F.keep
    case k8 => show dp < recursionLimit; omega
    case k9 => exact BindsTo.of_eq rfl
    case kB => exact rfl
    case kN => decide +kernel
    case c2 => rfl
    case c3 => rfl
    case c4 => rfl
    intro g' L' h' tk' cells' mz EG NG F' N' Y' l1 B' X' T' ST' envz Az Qz Ez
    have C2' := C2.keeps ST'
    have C1' := C1.keeps ST'
    have l45 := ltN (a := 45) (l1 _ (.head _))
    have l38 := ltN (a := 38) (l1 _ (.tail _ (.head _)))
    have g45 := NG 45 (by simp)
    have g38 := NG 38 (by simp)
    have no : ∀ b : Addr, @Ne Nat b 45 → @Ne Nat b 38 → b ∉ List.map (fun q : Addr × Obj => q.1) [(45, tabObj #[]), (38, tabObj #[])] := fun b q1 q2 q => by
      simp only [List.map_cons, List.map_nil, List.mem_cons, List.not_mem_nil, or_false] at q
      rcases q with q | q
      · exact q1 q
      · exact q2 q
    have hP' : g'.DictOf (intKind prog w) P kvs := dict_ext hP (EG _ · (no _ hP1 hP2))
    clear ST' l1
    k_cells Y'
    try simp only [List.append_nil, List.cons_append, List.nil_append] at N'
    try dsimp only
    have eH : v.fdiv (2 ^ Int.toNat 1) = v / 2 := by rw [show (2 : Int) ^ Int.toNat 1 = 2 from rfl, fdiv_pos (by decide)]
    obtain ⟨th, hth⟩ := hH _ hv (by omega)
    have hth' : valueAt kvs (v.fdiv (2 ^ Int.toNat 1)) = some (.int (b ^ (v / 2).toNat) th) := by rw [eH]; exact hth
    k_steps
    refine Halt.on ?_
    (k_dflt (refine' item_base (knd := intKind _ _) ?F ?D (intKind_is _ _ _ _) ?l ?_ ?s ?g; (case F => k_asm); (case D => assumption); (case l => assumption); (case s => with_unfolding_all rfl); (case g => (intro _; with_unfolding_all rfl))))
    k_steps
    refine Halt.on ?_
    rename Fr _ _ _ _ => Fc
    rename News _ _ _ _ => Nc
    obtain ⟨hy2, hy3, hy4, hyn, hyp, hb9, s1, s2, hvB, hsB, hA1, hA2, hB1, hB2⟩ := partB hb0 hb1 hl0 (by assumption) hw1
    have hdA : dp + 1 + 340 + (v / 2).toNat < recursionLimit := Nat.lt_of_le_of_lt (room1 s1 (by decide)) hd
    have hdB : dp + 1 + 340 + (v - v / 2).toNat < recursionLimit := Nat.lt_of_le_of_lt (room1 s2 (by decide)) hd
    have huA : un + 3 + 3040 + 8 * (v / 2).toNat < cLine := Nat.lt_of_le_of_lt (room8 s1 (by decide)) hu
    have huB : un + 3 + 3040 + 8 * (v - v / 2).toNat < cLine := Nat.lt_of_le_of_lt (room8 s2 (by decide)) hu
    have Nk : News g' L' _ ([_, _] ++ [(45, tabObj #[]), (38, tabObj #[])]) := Nc
    k_dflt (refine' ct_idm1 B' Fc X' T' ?hk ?hd ?hu C2' C1' (news_sub Nk fun q hq => List.mem_append_right _ hq) hx0 hx1 hy2 hy3 ?_)
    case hk => rfl
    case hd => show dp + 1 + 330 < recursionLimit; omega
    case hu => show un + 3 + 3030 < cLine; omega
    intro D t1 t2 c1 oc1 ws1 u1 c2 oc2 ws2 u2 h1 tk1 e1 h45 h38 nc1 hc1 dc1 vc1 nc2 hc2 dc2 vc2 nD hD n12
    have l1 := news_off Nc nc1
    have l2 := news_off Nc nc2
    have l3 := news_off Nc nD
    (replace l1 := Mine.allNe_of l1; simp only [Mine.AllNe, and_true] at l1)
    (replace l2 := Mine.allNe_of l2; simp only [Mine.AllNe, and_true] at l2)
    (replace l3 := Mine.allNe_of l3; simp only [Mine.AllNe, and_true] at l3)
    have F1 := ext_fr e1 Fc (by simpa using ⟨g45, g38⟩) (by simp only [List.mem_cons, List.not_mem_nil, or_false, not_or]; exact ⟨neN (by omega), neN (by omega)⟩)
    have N0 := news_two Nk e1 h45 h38 (by
      intro q hq
      simp only [List.mem_cons, List.not_mem_nil, or_false] at hq
      rcases hq with rfl | rfl
      all_goals (constructor <;> (dsimp only; omega)))
    have N1 := news_new Fc (news_new Fc (news_new Fc N0 hc2 nc2) hc1 nc1) hD nD
    simp only [List.cons_append, List.nil_append] at N1
    clear Fc Nc N0 Nk
    dsimp only
    k_steps
    refine Halt.on ?_
    rename Fr _ _ _ _ => Fc
    rename News _ _ _ _ => Nc
    rw [eH]
    have fu1 := Full.ofN (c1 := c1) (c2 := c2) Nc (by simp only [List.mem_cons, eq_self, true_or, or_true]) (by simp only [List.mem_cons, eq_self, true_or, or_true]) (by simp only [List.mem_cons, eq_self, true_or, or_true]) (by simp only [List.mem_cons, eq_self, true_or, or_true]) dc1 vc1 dc2 vc2
    k_dflt (refine' ct_part2 hb0 hb1 hl0 hH cov1 B' Fc X' T' ?hk ?hd ?hu C2' C1' fu1 (hP'.keep Fc.keep) ?h0 ?h1 hA1 hA2 ?_)
    case hk => rfl
    case hd => exact hdA
    case hu => exact huA
    case h0 => exact Int.le_trans (Int.neg_nonpos_of_nonneg (Int.le_of_lt (two_pos 400))) (Int.emod_nonneg x hyn)
    case h1 => exact Int.lt_trans (Int.emod_lt_of_pos x hyp) hy4
    intro D1 vs1 ep1 h2 tk2 e2 nD1 hD1 hI1
    have F2 := ext_fr0 e2 Fc
    have N2 := news_new Fc (ext_news0 e2 Nc) hD1 nD1
    have lD1 := news_off Nc nD1
    have fu2 := fu1.ext e2
    (replace lD1 := Mine.allNe_of lD1; simp only [Mine.AllNe, and_true] at lD1)
    clear Fc Nc fu1
    dsimp only
    k_steps
    refine Halt.on ?_
    rename Fr _ _ _ _ => Fc
    rename News _ _ _ _ => Nc
    rw [eH]
    have fu3 := Full.ofN (c1 := c1) (c2 := c2) Nc (by simp only [List.mem_cons, eq_self, true_or, or_true]) (by simp only [List.mem_cons, eq_self, true_or, or_true]) (by simp only [List.mem_cons, eq_self, true_or, or_true]) (by simp only [List.mem_cons, eq_self, true_or, or_true]) dc1 vc1 dc2 vc2
    k_dflt (refine' ct_part2 (c1 := c1) (c2 := c2) hb0 hb1 hl0 hH cov2 B' Fc X' T' ?hk ?hd ?hu C2' C1' ?fu (hP'.keep Fc.keep) ?h0 ?h1 ?w0 ?w1 ?_)
    case fu => exact fu3
    case w0 => exact hB1
    case w1 => exact hB2
    case hk => rfl
    case hd => exact hdB
    case hu => exact huB
    case h0 => exact up_ge hy2 hx0
    case h1 => exact up_lt hy2 hx1
    intro D2 vs2 ep2 h3 tk3 e3 nD2 hD2 hI2
    have F3 := ext_fr0 e3 Fc
    have N3 := news_new Fc (ext_news0 e3 Nc) hD2 nD2
    have lD2 := news_off Nc nD2
    (replace lD2 := Mine.allNe_of lD2; simp only [Mine.AllNe, and_true] at lD2)
    clear Fc Nc
    dsimp only
    k_steps
    rename Fr _ _ _ _ => Fc
    rename News _ _ _ _ => Nc
    have q45 := Heap.lt_size (Nc (45, tabObj #[rawInt (posOf in2).line, rawInt (posOf in2).col, .ref c2]) (by simp only [List.mem_cons, eq_self, true_or, or_true])).1
    have q38 := Heap.lt_size (Nc (38, tabObj #[rawInt (posOf in1).line, rawInt (posOf in1).col, .ref c1]) (by simp only [List.mem_cons, eq_self, true_or, or_true])).1
    refine add_lists_ints (vs := vs1) (ws := vs2) Fc Nc (isList_of (ep := ep1) (Nc.get (by simp only [List.mem_cons, eq_self, true_or, or_true]))) (isList_of (ep := ep2) (Nc.get (by simp only [List.mem_cons, eq_self, true_or, or_true]))) hI1 hI2 ?_ ?hsz
    case hsz => rw [figs_length, figs_length]; exact hsB
    intro h4 F4 N4 hI4
    refine ret _ _ _ #[rawInt (posOf in2).line, rawInt (posOf in2).col, .ref c2] #[rawInt (posOf in1).line, rawInt (posOf in1).col, .ref c1] _ _ (ext_ret EG F4) (new_some N4 (by simp only [List.mem_cons, eq_self, true_or, or_true])) (new_some N4 (by simp only [List.mem_cons, eq_self, true_or, or_true])) (new_none EG N4 (.head _) (no _ ?_ ?_)) (new_some N4 (.head _)) ?_
    rotate_left 2
    · rw [hvB, figs_append hb9]
      exact hI4
    · exact neN (Nat.ne_of_gt q45)
    · exact neN (Nat.ne_of_gt q38)
end
end Mine
end

section
open PySem
namespace Mine
/-- the places rise -/
def Rise (xs : Array Nat) : Prop := xs.toList.Pairwise (· < ·)
theorem Rise.lt {xs : Array Nat} (h : Rise xs) {i j : Nat} (hi : i < j) (hj : j < xs.size) : xs.getD i 0 < xs.getD j 0 := by
  have h1 := List.pairwise_iff_getElem.mp h i j (by simpa using Nat.lt_trans hi hj) (by simpa using hj) hi
  simp only [Array.getElem_toList] at h1
  simp only [Array.getD, hj, Nat.lt_trans hi hj, dite_true]
  exact h1
theorem getD_of {xs : Array Nat} {i d e : Nat} (h : i < xs.size) : xs.getD i d = xs.getD i e := by simp [Array.getD, h]
theorem below_go {xs : Array Nat} {j : Nat} (h : Rise xs) : ∀ (fuel lo hi : Nat), hi - lo ≤ fuel → lo ≤ hi → hi ≤ xs.size → (∀ i, i < lo → xs.getD i 0 < j) → (∀ i, hi ≤ i → i < xs.size → j ≤ xs.getD i 0) →
    let p := SetTable.below.go xs j fuel lo hi
    p ≤ xs.size ∧ (∀ i, i < p → xs.getD i 0 < j) ∧ (∀ i, p ≤ i → i < xs.size → j ≤ xs.getD i 0) := by
  intro fuel
  induction fuel with
  | zero =>
    intro lo hi hf hl hh a b
    have : lo = hi := by omega
    subst this
    exact ⟨hh, a, b⟩
  | succ fuel ih =>
    intro lo hi hf hl hh a b
    unfold SetTable.below.go
    by_cases hlt : lo < hi
    · rw [if_pos hlt]
      dsimp only
      have m1 : (lo + hi) / 2 < hi := by omega
      have m2 : lo ≤ (lo + hi) / 2 := by omega
      by_cases hx : xs.getD ((lo + hi) / 2) j < j
      · rw [if_pos hx]
        refine ih _ _ (by omega) (by omega) hh (fun i hi' => ?_) b
        rw [getD_of (e := 0) (by omega)] at hx
        rcases Nat.lt_or_eq_of_le (Nat.le_of_lt_succ hi') with q | q
        · exact Nat.lt_trans (h.lt q (by omega)) hx
        · rw [q]; exact hx
      · rw [if_neg hx]
        refine ih _ _ (by omega) (by omega) (by omega) a (fun i q hi' => ?_)
        rw [getD_of (e := 0) (by omega)] at hx
        rcases Nat.lt_or_eq_of_le q with q | q
        · have := h.lt q hi'; omega
        · rw [← q]; omega
    · rw [if_neg hlt]
      have : lo = hi := by omega
      subst this
      exact ⟨hh, a, b⟩
theorem below_spec {xs : Array Nat} (h : Rise xs) (j : Nat) :
    SetTable.below xs j ≤ xs.size ∧ (∀ i, i < SetTable.below xs j → xs.getD i 0 < j) ∧ (∀ i, SetTable.below xs j ≤ i → i < xs.size → j ≤ xs.getD i 0) :=
  below_go h xs.size 0 xs.size (by omega) (by omega) (Nat.le_refl _) (fun i h => by omega) (fun i h1 h2 => by omega)
theorem insertAt_toList {α : Type} (xs : Array α) (p : Nat) (x : α) : (SetTable.insertAt xs p x).toList = xs.toList.take p ++ x :: xs.toList.drop p := by
  unfold SetTable.insertAt
  rw [Array.toList_append, Array.toList_push, Array.toList_extract, Array.toList_extract]
  simp [List.extract_eq_take_drop]
  exact List.take_of_length_le (by simp)
theorem eraseAt_toList {α : Type} (xs : Array α) (p : Nat) : (SetTable.eraseAt xs p).toList = xs.toList.take p ++ xs.toList.drop (p + 1) := by
  unfold SetTable.eraseAt
  rw [Array.toList_append, Array.toList_extract, Array.toList_extract]
  simp [List.extract_eq_take_drop]
  exact List.take_of_length_le (by simp)
theorem getD_list (xs : Array Nat) (i : Nat) : xs.getD i 0 = xs.toList.getD i 0 := by
  simp [Array.getD_eq_getD_getElem?, List.getD_eq_getElem?_getD]
theorem Rise.insert {xs : Array Nat} (h : Rise xs) {j : Nat} (hj : xs[SetTable.below xs j]? ≠ some j) : Rise (SetTable.insertAt xs (SetTable.below xs j) j) := by
  obtain ⟨h1, h2, h3⟩ := below_spec h j
  generalize SetTable.below xs j = p at *
  unfold Rise
  rw [insertAt_toList]
  refine List.pairwise_append.mpr ⟨List.Pairwise.sublist (List.take_sublist _ _) h, List.pairwise_cons.mpr ⟨fun y hy => ?_, List.Pairwise.sublist (List.drop_sublist _ _) h⟩, fun x hx y hy => ?_⟩
  · obtain ⟨i, hi⟩ := List.mem_iff_getElem?.mp hy
    rw [List.getElem?_drop] at hi
    have hl : p + i < xs.size := by have := (List.getElem?_eq_some_iff.mp hi).1; simpa using this
    have h4 := h3 (p + i) (by omega) hl
    rw [getD_list, List.getD_eq_getElem?_getD, hi] at h4
    simp only [Option.getD_some] at h4
    rcases Nat.lt_or_eq_of_le h4 with q | q
    · exact q
    · exfalso
      subst q
      rcases Nat.eq_zero_or_pos i with rfl | hi0
      · rw [Nat.add_zero] at hi
        rw [Array.getElem?_toList] at hi
        exact hj hi
      · have h5 := h.lt (i := p) (j := p + i) (by omega) hl
        have h6 := h3 p (Nat.le_refl _) (by omega)
        have h7 : xs.getD (p + i) 0 = j := by rw [getD_list, List.getD_eq_getElem?_getD, hi]; rfl
        omega
  · obtain ⟨i, hi⟩ := List.mem_iff_getElem?.mp hx
    have hi2 : i < p := by
      have := (List.getElem?_eq_some_iff.mp hi).1
      rw [List.length_take] at this; omega
    rw [List.getElem?_take_of_lt hi2] at hi
    have h4 := h2 i hi2
    rw [getD_list, List.getD_eq_getElem?_getD, hi] at h4
    simp only [Option.getD_some] at h4
    rcases List.mem_cons.mp hy with rfl | hy
    · exact h4
    · obtain ⟨k, hk⟩ := List.mem_iff_getElem?.mp hy
      rw [List.getElem?_drop] at hk
      have hl : p + k < xs.size := by have := (List.getElem?_eq_some_iff.mp hk).1; simpa using this
      have h5 := h3 (p + k) (by omega) hl
      rw [getD_list, List.getD_eq_getElem?_getD, hk] at h5
      simp only [Option.getD_some] at h5
      omega
theorem Rise.erase {xs : Array Nat} (h : Rise xs) (p : Nat) : Rise (SetTable.eraseAt xs p) := by
  unfold Rise
  rw [eraseAt_toList]
  refine List.Pairwise.sublist ?_ h
  conv => rhs; rw [← List.take_append_drop p xs.toList]
  refine List.Sublist.append (List.Sublist.refl _) ?_
  rw [← List.drop_drop]
  exact List.drop_sublist _ _
theorem Rise.range (n : Nat) : Rise (Array.range n) := by
  unfold Rise; rw [Array.toList_range]; exact List.pairwise_lt_range
/-- a slot that is not taken -/
def NotLive (t : SetTable) (j : Nat) : Prop := t.place[SetTable.below t.place j]? ≠ some j
theorem notLive_of {t : SetTable} {j : Nat} (h : ∀ i, t.slot j ≠ .live i) : NotLive t j := fun q => h (SetTable.below t.place j) (by
  unfold SetTable.slot; dsimp only; rw [q]; simp)
theorem advance_dummy (t : SetTable) (p : SetTable.Probe) : (t.advance p).dummy = p.dummy := by
  unfold SetTable.advance; split <;> rfl
theorem probe_go {t : SetTable} {g : Nat → Int} {h : Int} : ∀ (fuel : Nat) (p : SetTable.Probe) (j : Nat) (d : Option Nat), (∀ e, p.dummy = some e → NotLive t e) →
    SetTable.probe.go t g h fuel p = some (.empty j d) → NotLive t j ∧ ∀ e, d = some e → NotLive t e := by
  intro fuel
  induction fuel with
  | zero => intro p j d _ h; unfold SetTable.probe.go at h; cases h
  | succ fuel ih =>
    intro p j d hp hq
    unfold SetTable.probe.go at hq
    split at hq
    · rename_i hs
      injection hq with hq; injection hq with e1 e2
      subst e1; subst e2
      exact ⟨notLive_of (fun i q => by rw [hs] at q; cases q), hp⟩
    · rename_i hs
      refine ih _ _ _ (fun e he => ?_) hq
      rw [advance_dummy] at he
      injection he with he
      subst he
      exact notLive_of fun i q => by rw [hs] at q; cases q
    · split at hq
      · cases hq
      · exact ih _ _ _ (fun e he => hp e (by rw [advance_dummy] at he; exact he)) hq
theorem freeSlot_notLive {t : SetTable} {h : Int} {s : Nat} {d : Bool} (e : t.freeSlot h = some (s, d)) : NotLive t s := by
  unfold SetTable.freeSlot at e
  split at e
  · rename_i j dm hq
    injection e with e
    injection e with e1 e2
    obtain ⟨a, b⟩ := probe_go (t := t) _ _ _ _ (fun e he => by cases he) hq
    cases dm with
    | none => rw [← e1]; exact a
    | some k => rw [← e1]; exact b k rfl
  · cases e
theorem put_rise {t : SetTable} (h : Rise t.place) {j : Nat} (hj : NotLive t j) : Rise (t.put j).1.place := h.insert hj
theorem standIn_rise (t : SetTable) (n : Nat) : Rise (t.standIn n).place := Rise.range n
theorem orStandIn_rise {t : SetTable} (h : Rise t.place) (n : Nat) : Rise (t.orStandIn n).place := by
  unfold SetTable.orStandIn; split
  · exact h
  · exact standIn_rise t n
theorem orStandIn_led (t : SetTable) (n : Nat) : (t.orStandIn n).led = t.led := by
  unfold SetTable.orStandIn; split <;> rfl
theorem layNew_rise {t : SetTable} (h : Rise t.place) (es : Array (Int × Value)) (k : Int) (x : Value) : Rise (layNew t es k x).2.1.place := by
  unfold layNew
  split
  · rename_i s d hq
    exact orStandIn_rise (put_rise h (freeSlot_notLive hq)) _
  · exact standIn_rise _ _
theorem layNew_led (t : SetTable) (es : Array (Int × Value)) (k : Int) (x : Value) : (layNew t es k x).2.1.led = t.led := by
  unfold layNew
  split
  · exact orStandIn_led _ _
  · rfl
theorem filterMap_rise {f : Nat → Option Nat} : ∀ (l : List Nat), l.Pairwise (· < ·) → (((l.filterMap fun j => (f j).map (j, ·)).map (·.1)) : List Nat).Pairwise (· < ·) := by
  intro l hl
  refine List.Pairwise.map _ (R := fun a b : Nat × Nat => a.1 < b.1) (fun a b h => h) ?_
  refine List.Pairwise.filterMap _ (R := fun a b : Nat => a < b) ?_ hl
  intro a a' h b hb b' hb'
  cases hf : f a with
  | none => rw [hf] at hb; cases hb
  | some x =>
    rw [hf] at hb
    cases hf' : f a' with
    | none => rw [hf'] at hb'; cases hb'
    | some x' =>
      rw [hf'] at hb'
      cases hb; cases hb'
      exact h
theorem relaid_rise {t t' : SetTable} {hs : Array Int} {n : Nat} {o : Array Nat} (e : t.relaid hs n = some (t', o)) : Rise t'.place ∧ t'.led = t.led := by
  unfold SetTable.relaid SetTable.laid at e
  simp only [bind, Option.bind] at e
  split at e
  · cases e
  · injection e with e
    injection e with e1 e2
    subst e1
    refine ⟨?_, rfl⟩
    unfold Rise
    dsimp only
    exact filterMap_rise _ List.pairwise_lt_range
theorem relayAll_rise {t : SetTable} (es : Array (Int × Value)) (n : Nat) : Rise (relayAll t es n).2.1.place ∧ (relayAll t es n).2.1.led = t.led := by
  unfold relayAll
  split
  · rename_i t' o hq
    dsimp only
    split
    · exact relaid_rise hq
    · exact ⟨standIn_rise _ _, rfl⟩
  · exact ⟨standIn_rise _ _, rfl⟩
theorem popped_facts {t : SetTable} {n i : Nat} (h : Rise t.place) (hf : t.fits n = true) (hi : i < n) : Rise (t.popped i).place ∧ (t.popped i).fits (n - 1) = true ∧ (t.popped i).led = t.led := by
  simp only [SetTable.fits, Bool.and_eq_true, beq_iff_eq, decide_eq_true_eq] at hf
  obtain ⟨e1, e2⟩ := hf
  have hj : t.place[i]? = some t.place[i] := Array.getElem?_eq_getElem (by omega)
  unfold SetTable.popped SetTable.drop
  rw [hj]
  dsimp only
  refine ⟨h.erase i, ?_, rfl⟩
  have s1 : (SetTable.eraseAt t.place i).size = n - 1 := by
    rw [← Array.length_toList, eraseAt_toList, List.length_append, List.length_take, List.length_drop, Array.length_toList]; omega
  have s2 : (SetTable.insertAt t.dummies (SetTable.below t.dummies t.place[i]) t.place[i]).size = t.dummies.size + 1 := by
    rw [← Array.length_toList, insertAt_toList, List.length_append, List.length_take, List.length_cons, List.length_drop, Array.length_toList]; omega
  simp only [SetTable.fits, SetTable.fill, Bool.and_eq_true, beq_iff_eq, decide_eq_true_eq, s1, s2]
  unfold SetTable.fill at e2
  exact ⟨trivial, by omega⟩
end Mine
end

section
open PySem PySem.W PyProof.Rows PySem.Calls PySem.Spec
namespace Mine
set_option maxRecDepth 100000
set_option maxHeartbeats 8000000
set_option linter.unusedVariables false

theorem wpAny_choose {M : Model} {A : Around} {E : Value → Shared → Prop} {s : Shared} {src : Source} {n : Nat} {Q : Nat → Shared → Prop} (hn : n ≠ 0) (h : ∀ i < n, Q i { s with drawn := s.drawn.bump src }) : wpAny M A (choose src n) Q E s := fun Γ p hΓ => by
  show Sem.wp M Γ (.choose src n .pure) _ _ p s
  rw [Sem.wp_choose]
  exact ⟨hn, h _ (Nat.mod_lt _ (Nat.pos_of_ne_zero hn))⟩
/-- do the sets keep the order of their table, or a drawn one? -/
def byText (w : World) : Bool := w.params.followText "set-order"
def isI (e : Int × Value) : Prop := ∃ k t, e.2 = .int k t ∧ e.1 = hashInt k
def valOf (e : Int × Value) : Int := match e.2 with | .int k _ => k | _ => 0
/-- a set of ints; ns: what it holds, in some order -/
def SO (w : World) (o : Obj) (ns : List Int) : Prop :=
  o.ExactSet ∧ ∃ es ep t, o.data = .set es ep t ∧ (∀ e ∈ es.toList, isI e) ∧ (es.toList.map valOf).Perm ns ∧ t.fits es.size = true ∧ Rise t.place ∧ (byText w = true ∨ t.led = true)
theorem SO.perm {w : World} {o : Obj} {ns ms : List Int} (h : SO w o ns) (p : ns.Perm ms) : SO w o ms := by
  obtain ⟨a, es, ep, t, b, c, d, r⟩ := h
  exact ⟨a, es, ep, t, b, c, d.trans p, r⟩
theorem elems_of {prog : Program} {w : World} {es : List (Int × Value)} (h : ∀ e ∈ es, isI e) : ElemsOf (intKind prog w) es := fun e he => by
  obtain ⟨k, t, h1, h2⟩ := h e he
  rw [h1]; exact ⟨⟨k, intKind_is _ _ _ _, h2⟩, rfl⟩
theorem is_val {prog : Program} {w : World} {e : Int × Value} (h : isI e) (k : Int) : (intKind prog w).is k e.2 = true ↔ valOf e = k := by
  obtain ⟨j, t, h1, h2⟩ := h
  unfold valOf
  rw [h1]
  simp [intKind, Value.isInt]
theorem SO.kit {prog : Program} {w : World} {o : Obj} {ns : List Int} (h : SO w o ns) : o.SetObjOf (intKind prog w) (fun k => decide (k ∈ ns)) ns.length := by
  obtain ⟨a, es, ep, t, b, c, d, f, _⟩ := h
  refine ⟨a, es, ep, t, b, elems_of c, fun k => ?_, ?_, f⟩
  · rw [decide_eq_true_eq, ← d.mem_iff, List.mem_map]
    exact ⟨fun ⟨e, he, q⟩ => ⟨e, he, (is_val (c e he) k).mpr q⟩, fun ⟨e, he, q⟩ => ⟨e, he, (is_val (c e he) k).mp q⟩⟩
  · have := d.length_eq; rw [List.length_map, Array.length_toList] at this; exact this
theorem ent_size {ns : List Int} {es : Array (Int × Value)} (h : (es.toList.map valOf).Perm ns) : es.size = ns.length := by
  have := h.length_eq; rw [List.length_map, Array.length_toList] at this; exact this
theorem SO.fresh {w : World} : SO w { cls := .type "set", dict := none, data := .set #[] 0 (.fresh 0 0 (!byText w)) } [] :=
  ⟨⟨rfl, rfl, rfl⟩, #[], 0, _, rfl, fun e he => by simp at he, .nil, rfl, List.Pairwise.nil, by cases byText w <;> simp [SetTable.fresh]⟩

section
variable {prog : Program} {w : World} {A : Around} {E : Value → Shared → Prop} {s : Shared} {a : Addr} {o : Obj} {ns : List Int}

theorem store_set {es es' : Array (Int × Value)} {ep : Nat} {t t' : SetTable} {ms : List Int} {Q : Unit → Shared → Prop} (ho : s.heap.get? a = some o) (hex : o.ExactSet) (hd : o.data = .set es ep t)
    (hi : ∀ e ∈ es'.toList, isI e) (hp : (es'.toList.map valOf).Perm ms) (hb : ms.length < scanBound) (hf : t'.fits es'.size = true) (hr : Rise t'.place) (hl : byText w = true ∨ t'.led = true)
    (h : ∀ h' o', Heap.SameBut a s.heap h' → h'.get? a = some o' → o'.ExactSet → (∃ ep', o'.data = .set es' ep' t') → SO w o' ms → Q () { s with heap := h' }) : wpAny (model prog w) A (storeSet a es' t') Q E s := by
  have hz : es'.size < scanBound := by rw [ent_size hp]; exact hb
  refine wpAny_storeSet_of ho hd ?_ (fits_of_scanBound hz)
  have hg := Heap.get?_update_self (Obj.putSet es' t') ho (by rw [putSet_of es' t' hd]; rfl)
  rw [putSet_of es' t' hd] at hg
  exact h _ _ (Heap.SameBut.update s.heap a _) hg hex ⟨_, rfl⟩ ⟨hex, es', ep + 1, t', rfl, hi, hp, hf, hr, hl⟩

theorem pop_SO {Q : Option Value → Shared → Prop} (ho : s.heap.get? a = some o) (hs : SO w o ns) (hb : ns.length < scanBound) (hne : ns ≠ [])
    (h : ∀ h' o' dr x t ms, Heap.SameBut a s.heap h' → h'.get? a = some o' → SO w o' ms → ns.Perm (x :: ms) → Q (some (.int x t)) { s with heap := h', drawn := dr }) : wpAny (model prog w) A (setPop a) Q E s := by
  obtain ⟨hex, es, ep, t, hd, hi, hp, hf, hr, hl⟩ := hs
  have hsz := ent_size hp
  have hpos : 0 < es.size := by rw [hsz]; exact List.length_pos_iff.mpr hne
  have hf' := hf
  simp only [SetTable.fits, Bool.and_eq_true, beq_iff_eq, decide_eq_true_eq] at hf'
  unfold setPop
  refine wpAny_bind (wpAny_setState_of ho hd hf ?_)
  dsimp only
  have hpp : ∃ f, t.popPlace = some f ∧ f < es.size := by
    unfold SetTable.popPlace
    have : t.place.isEmpty = false := by rw [Array.isEmpty_eq_false_iff]; intro q; rw [q] at hf'; simp at hf'; omega
    rw [this]
    simp only [Bool.false_eq_true, if_false]
    exact ⟨_, rfl, by split <;> omega⟩
  obtain ⟨f, e1, e2⟩ := hpp
  rw [e1]
  dsimp only
  have fin : ∀ (i : Nat) (dr : Drawn), i < es.size → wpAny (model prog w) A (match es[i]? with
      | some (_, x) => do storeSet a (SetTable.eraseAt es i) (t.popped i); return some x
      | _ => unsupported "internal:set.pop") Q E { s with drawn := dr } := by
    intro i dr hlt
    have hx : es[i]? = some (es[i].1, es[i].2) := Array.getElem?_eq_getElem hlt
    rw [hx]
    dsimp only
    obtain ⟨p1, p2, p3⟩ := popped_facts hr hf hlt
    have hl' : i < es.toList.length := by simpa using hlt
    have hperm : (es.toList).Perm (es[i] :: (SetTable.eraseAt es i).toList) := by
      rw [eraseAt_toList]
      have := List.take_append_drop i es.toList
      rw [List.drop_eq_getElem_cons hl'] at this
      rw [Array.getElem_toList] at this
      conv => lhs; rw [← this]
      exact List.perm_middle
    obtain ⟨k, tk, h1, h2⟩ := hi es[i] (by simp)
    have hn : ns.Perm (k :: (SetTable.eraseAt es i).toList.map valOf) := by
      refine hp.symm.trans ?_
      have := hperm.map valOf
      rw [List.map_cons] at this
      have e : valOf es[i] = k := by unfold valOf; rw [h1]
      rw [e] at this; exact this
    have hz : (SetTable.eraseAt es i).size = es.size - 1 := by
      have := hperm.length_eq; rw [List.length_cons, Array.length_toList, Array.length_toList] at this; omega
    refine wpAny_bind (store_set (s := { s with drawn := dr }) (w := w) ho hex hd (fun e he => hi e (hperm.mem_iff.mpr (List.mem_cons_of_mem _ he))) (List.Perm.refl _) ?_ (by rw [hz]; exact p2) p1 (hl.imp id fun q => p3.trans q) ?_)
    · have := hn.length_eq; rw [List.length_cons] at this; omega
    · intro h' o' hsb ho' _ _ hso
      rw [h1]
      exact wpAny_pure (h h' o' dr k tk _ hsb ho' hso hn)
  unfold setsByText
  refine wpAny_bind ?_
  refine wpAny_bind (wpAny_bind (wpAny_askSetting (wpAny_pure ?_)))
  refine wpAny_pure ?_
  refine wpAny_ite_split (fun _ => ?_) (fun hc => ?_)
  · exact wpAny_bind (wpAny_choose (by omega) fun i hi => fin i _ hi)
  · have ht : byText w = false := by
      rw [Bool.or_eq_true, not_or] at hc
      exact Bool.eq_false_iff.mpr hc.1
    have hled : t.led = true := hl.resolve_left (by rw [ht]; exact Bool.false_ne_true)
    refine wpAny_bind (show wpAny (model prog w) A (if (!t.led && decide (es.size > 1)) = true then unsupported "set:maker-not-led" else pure PUnit.unit) _ E _ from ?_)
    rw [hled, if_neg (by simp)]
    exact wpAny_pure (wpAny_bind (wpAny_pure (fin f s.drawn e2)))

theorem add_hashed_SO {k : Int} {tk : Tok} {Q : Bool → Shared → Prop} (ho : s.heap.get? a = some o) (hs : SO w o ns) (hb : ns.length + 1 < scanBound)
    (h : ∀ h' o', Heap.SameBut a s.heap h' → h'.get? a = some o' → SO w o' (if k ∈ ns then ns else k :: ns) → Q (!decide (k ∈ ns)) { s with heap := h' }) : wpAny (model prog w) A (setAddHashed a (.int k tk) (hashInt k)) Q E s := by
  have hs0 := hs
  obtain ⟨hex, es, ep, t, hd, hi, hp, hf, hr, hl⟩ := hs
  have hsz := ent_size hp
  have hkey := intKind_is prog w k tk
  have hel : ElemsOf (intKind prog w) es.toList := elems_of hi
  unfold setAddHashed setAddHashedIn
  refine wpAny_holding (wpAny_bind (wpAny_setState_of ho hd hf ?_))
  dsimp only
  rw [byScan_of (x := .int k tk) rfl (by omega) hel]
  simp only [↓reduceIte]
  unfold setAddByScan
  refine wpAny_bind ?_
  refine wpAny_bind (wpAny_rule ?_)
  refine wpAny_bind (wpAny_setScan_of (knd := intKind prog w) hkey ho hd hf hel ?_)
  cases hq : List.findIdx? (fun e => (intKind prog w).is k e.2) es.toList with
  | some j =>
    dsimp only
    obtain ⟨hj, hpj, _⟩ := List.findIdx?_eq_some_iff_getElem.mp hq
    have hk : k ∈ ns := hp.mem_iff.mp (List.mem_map.mpr ⟨_, List.getElem_mem hj, (is_val (hi _ (List.getElem_mem hj)) k).mp hpj⟩)
    refine wpAny_pure (wpAny_pure ?_)
    have z := h s.heap o (Heap.SameBut.refl a s.heap) ho (by rw [if_pos hk]; exact hs0)
    rw [decide_eq_true hk] at z
    exact z
  | none =>
    dsimp only
    have hk : k ∉ ns := fun q => by
      obtain ⟨e, he, hv⟩ := List.mem_map.mp (hp.mem_iff.mpr q)
      have := List.findIdx?_eq_none_iff.mp hq e he
      rw [(is_val (hi e he) k).mpr hv] at this
      cases this
    have hperm := layNew_perm t es (hashInt k) (.int k tk)
    have hfits := layNew_fits t es (hashInt k) (.int k tk)
    have hrise := layNew_rise hr es (hashInt k) (.int k tk)
    have hled := layNew_led t es (hashInt k) (.int k tk)
    generalize layNew t es (hashInt k) (.int k tk) = Z at hperm hfits hrise hled ⊢
    obtain ⟨es1, t1, wasDummy, gave⟩ := Z
    dsimp only at hperm hfits hrise hled ⊢
    rw [Array.toList_push] at hperm
    have hi1 : ∀ e ∈ es1.toList, isI e := fun e he => by
      rcases List.mem_append.mp (hperm.mem_iff.mp he) with q | q
      · exact hi e q
      · rw [List.mem_singleton] at q; subst q; exact ⟨k, tk, rfl, rfl⟩
    have hp1 : (es1.toList.map valOf).Perm (k :: ns) := by
      refine (hperm.map valOf).trans ?_
      rw [List.map_append]
      exact (List.perm_append_comm).trans (List.Perm.cons k hp)
    have hl1 : byText w = true ∨ t1.led = true := hl.imp id fun q => hled.trans q
    have hsz1 := ent_size hp1
    rw [List.length_cons] at hsz1
    have gw : ∀ (b : Bool) {s₁ : Shared} {Q' : Unit → Shared → Prop}, Q' () s₁ → wpAny (model prog w) A (match b with | true => rule "set.scan.the-table-gave-way" | false => pure ()) Q' E s₁ :=
      fun b s₁ Q' hq => by cases b <;> first | exact wpAny_pure hq | exact wpAny_rule hq
    have fin : ∀ h' o', Heap.SameBut a s.heap h' → h'.get? a = some o' → SO w o' (k :: ns) → Q true { s with heap := h' } := fun h' o' b c d => by
      have z := h h' o' b c (by rw [if_neg hk]; exact d)
      rw [decide_eq_false hk] at z
      exact z
    have tail : ∀ t2 : SetTable, t2.fits es1.size = true → Rise t2.place → (byText w = true ∨ t2.led = true) → wpAny (model prog w) A (do
        storeSet a es1 t2
        if (!wasDummy && t2.tooFull) = true then do
            (match (relayAll t2 es1 (SetTable.grown es1.size)).2.2 with | true => rule "set.scan.the-table-gave-way" | false => pure ())
            storeSet a (relayAll t2 es1 (SetTable.grown es1.size)).1 (relayAll t2 es1 (SetTable.grown es1.size)).2.1
            pure (some true)
          else pure (some true)) (fun r s₁ => r = some true ∧ Q true s₁) E s := by
      intro t2 f2 r2 l2
      refine wpAny_bind (store_set (w := w) ho hex hd hi1 hp1 (by rw [List.length_cons]; exact hb) f2 r2 l2 fun h' o' hsb ho' hx' hd' hso => ?_)
      obtain ⟨ep', hd'⟩ := hd'
      refine wpAny_ite_split (fun _ => ?_) (fun _ => wpAny_pure ⟨rfl, fin h' o' hsb ho' hso⟩)
      have q1 := relayAll_perm t2 es1 (SetTable.grown es1.size)
      have q2 := relayAll_fits t2 es1 (SetTable.grown es1.size)
      have q3 := relayAll_rise (t := t2) es1 (SetTable.grown es1.size)
      generalize relayAll t2 es1 (SetTable.grown es1.size) = Y at q1 q2 q3 ⊢
      obtain ⟨es2, t3, gave2⟩ := Y
      dsimp only at q1 q2 q3 ⊢
      refine wpAny_bind (gw _ ?_)
      refine wpAny_bind (store_set (s := { s with heap := h' }) (w := w) ho' hx' hd' (fun e he => hi1 e (q1.mem_iff.mp he)) ((q1.map valOf).trans hp1) (by rw [List.length_cons]; exact hb) q2 q3.1 (l2.imp id fun q => q3.2.trans q) fun h'' o'' hsb' ho'' _ _ hso' => ?_)
      exact wpAny_pure ⟨rfl, fin h'' o'' (hsb.trans hsb') ho'' hso'⟩
    refine wpAny_bind (gw _ ?_)
    have q0 : ∀ s' : Shared, Q true s' → wpAny (model prog w) A (pure true) Q E s' := fun s' q => wpAny_pure q
    refine wpAny_ite_split (fun _ => ?_) (fun _ => ?_)
    · refine wpAny_bind ?_
      rw [hashByValue_scannable 8 rfl]
      refine wpAny_pure ?_
      refine wpAny_mono (tail _ hfits hrise hl1) (fun r s₁ hr₁ => ?_) fun _ _ x => x
      obtain ⟨rfl, hr₁⟩ := hr₁
      exact wpAny_pure hr₁
    · refine wpAny_bind (wpAny_pure ?_)
      simp only [↓reduceIte]
      refine wpAny_mono (tail _ hfits hrise hl1) (fun r s₁ hr₁ => ?_) fun _ _ x => x
      obtain ⟨rfl, hr₁⟩ := hr₁
      exact wpAny_pure hr₁
end
end Mine
end

section
open PySem PySem.W PyProof.Rows PySem.Calls PySem.Spec
namespace Mine
set_option maxRecDepth 100000
set_option maxHeartbeats 8000000
set_option linter.unusedVariables false
theorem noBool_set : typeLookup (.type "set") "__bool__" = pure none := by rw [typeLookup_type, builtinLookup_eq_fast]; kernel_rfl
section
variable {prog : Program} {w : World} {A : Around} {E : Value → Shared → Prop} {s : Shared} {a : Addr} {o : Obj} {ns : List Int}

theorem SO.typeIs (ho : s.heap.get? a = some o) (hs : SO w o ns) : s.TypeIs (.ref a) "set" := ⟨o, ho, hs.1.1⟩

theorem call_add_SO {k : Int} {tk : Tok} {Q : Value → Shared → Prop} (ho : s.heap.get? a = some o) (hs : SO w o ns) (hb : ns.length + 1 < scanBound)
    (h : ∀ h' o', Heap.SameBut a s.heap h' → h'.get? a = some o' → SO w o' (if k ∈ ns then ns else k :: ns) → Q .none { s with heap := h', toks := s.toks + 1 }) : wpAny (model prog w) A (call (.builtin "set.add") [.ref a, .int k tk]) Q E s := by
  refine wpAny_call_entry F.slot_set_add (hs.typeIs ho) F.entry_set_add ?_ (F.args_set_add_2 _ _)
  unfold Builtin.«set.add» Builtin.Frozenset.oneOther
  simp only [List.isEmpty_nil, bind_assoc]
  unfold Builtin.Frozenset.addrOf setAdd
  refine wpAny_bind (wpAny_pure ?_)
  try dsimp only
  refine wpAny_bind (wpAny_pure ?_)
  try dsimp only
  refine wpAny_bind ?_
  refine wpAny_holding ?_
  refine wpAny_bind ((intKind prog w).pyHash (intKind_is prog w k tk) ?_)
  refine add_hashed_SO (s := { s with toks := s.toks + 1 }) ho hs hb fun h' o' hsb ho' hs' => ?_
  exact wpAny_pure ⟨_, rfl, h h' o' hsb ho' hs'⟩

theorem setAdd_SO {k : Int} {tk : Tok} {Q : Bool → Shared → Prop} (ho : s.heap.get? a = some o) (hs : SO w o ns) (hb : ns.length + 1 < scanBound)
    (h : ∀ h' o', Heap.SameBut a s.heap h' → h'.get? a = some o' → SO w o' (if k ∈ ns then ns else k :: ns) → Q (!decide (k ∈ ns)) { s with heap := h', toks := s.toks + 1 }) : wpAny (model prog w) A (setAdd a (.int k tk)) Q E s := by
  unfold setAdd
  refine wpAny_holding (wpAny_bind ((intKind prog w).pyHash (intKind_is prog w k tk) ?_))
  exact add_hashed_SO (s := { s with toks := s.toks + 1 }) ho hs hb fun h' o' hsb ho' hs' => h h' o' hsb ho' hs'

theorem call_pop_SO {Q : Value → Shared → Prop} (ho : s.heap.get? a = some o) (hs : SO w o ns) (hb : ns.length < scanBound) (hne : ns ≠ [])
    (h : ∀ h' o' dr x t ms, Heap.SameBut a s.heap h' → h'.get? a = some o' → SO w o' ms → ns.Perm (x :: ms) → Q (.int x t) { s with heap := h', drawn := dr }) : wpAny (model prog w) A (call (.builtin "set.pop") [.ref a]) Q E s := by
  refine wpAny_call_entry F.slot_set_pop (hs.typeIs ho) F.entry_set_pop ?_ (F.args_set_pop_1 _)
  unfold Builtin.«set.pop» Builtin.Frozenset.noArgs
  simp only [List.isEmpty_nil, bind_assoc]
  unfold Builtin.Frozenset.addrOf
  refine wpAny_bind (wpAny_pure ?_)
  try dsimp only
  refine wpAny_bind (pop_SO ho hs hb hne fun h' o' dr x t ms hsb ho' hs' hp => ?_)
  exact wpAny_pure ⟨_, rfl, h h' o' dr x t ms hsb ho' hs' hp⟩

theorem truthy_SO {Q : Bool → Shared → Prop} (ho : s.heap.get? a = some o) (hs : SO w o ns) (hb : ns.length < scanBound)
    (h : Q (!ns.isEmpty) { s with toks := s.toks + 1 + 1 }) : wpAny (model prog w) A (truthy (.ref a)) Q E s := by
  have hT := hs.typeIs ho
  obtain ⟨hex, es, ep, t, hd, hi, hp, hf, hr, hl⟩ := hs
  have hsz := ent_size hp
  have hbb : es.size < 4096 := by rw [hsz]; exact hb
  have hfit : (es.size : Int) < 2 ^ 63 := by omega
  have hne : ((es.size : Int) != 0) = !ns.isEmpty := by rw [hsz]; cases ns <;> simp <;> omega
  have key : wpAny (model prog w) A (runValue (.builtin "len" ⟨[.ref a], []⟩)) (fun r s' => r = .int es.size (s.toks + 1) ∧ Q (!ns.isEmpty) s') E s := by
    refine wpAny_runValue (codeAny_builtin entry_len ?_)
    rw [Around.under_plainId plain_len _]
    exact wpAny_mono (wpAny_len_body_set (Q := fun r s' => r = .int es.size (s.toks + 1) ∧ Q (!ns.isEmpty) s') ho hex hd hf hfit ⟨rfl, h⟩)
      (fun fin s' h' => by obtain ⟨r, rfl, hq⟩ := h'; exact hq) fun _ _ e => e
  unfold truthy
  first
    | refine wpAny_bind (wpAny_callSpecial?_none (name := Str.ofString "__bool__") hT noBool_set ?_)
    | refine wpAny_bind (wpAny_pure (wpAny_bind (wpAny_callSpecial?_none (name := Str.ofString "__bool__") hT noBool_set ?_)))
  first
    | refine wpAny_bind (wpAny_specialOf (name := Str.ofString "__len__") hT F.slot_set_len.lookup ?_)
    | refine wpAny_bind (wpAny_pure (wpAny_bind (wpAny_specialOf (name := Str.ofString "__len__") hT F.slot_set_len.lookup ?_)))
  first
    | exact wpAny_bind (wpAny_mono key (fun r s' h' => by obtain ⟨rfl, hq⟩ := h'; exact wpAny_pure (hne ▸ hq)) fun _ _ e => e)
    | exact wpAny_bind (wpAny_pure (wpAny_bind (wpAny_mono key (fun r s' h' => by obtain ⟨rfl, hq⟩ := h'; exact wpAny_pure (hne ▸ hq)) fun _ _ e => e)))

/-- a set that is made knows whether its order is the table's -/
theorem newSet_SO {Q : Value → Shared → Prop} (h : Q (.ref s.heap.objs.size) { s with heap := s.heap.push { cls := .type "set", dict := none, data := .set #[] 0 (.fresh 0 0 (!byText w)) } }) :
    wpAny (model prog w) A (newSet (.type "set")) Q E s := by
  unfold newSet setsByText
  refine wpAny_bind (wpAny_bind (wpAny_askSetting (wpAny_pure ?_)))
  dsimp only
  simp only [newObj]
  exact wpAny_bind (wpAny_alloc (wpAny_pure h))
theorem code_new_SO {Q₁ : Value → Shared → Prop}
    (h : Q₁ (.ref s.heap.objs.size) { s with heap := s.heap.push { cls := .type "set", dict := none, data := .set #[] 0 (.fresh 0 0 (!byText w)) } }) :
    codeAny (model prog w) A (.call (.builtin "set.__new__") ⟨[.type "set"], []⟩) (wants Q₁ E) s := by
  refine codeAny_of_tree ?_
  show wpAny _ A.in1 (do checkBuiltinCall "set.__new__" ⟨[.type "set"], []⟩; again (.builtin "set.__new__" ⟨[.type "set"], []⟩)) _ _ s
  refine wpAny_bind (wpAny_of_eq F.newCall_set_0 (wpAny_pure ⟨plainId_quiet F.plain_set_new _, codeAny_builtin F.entry_set_new ?_⟩))
  rw [Around.under_plainId F.plain_set_new _]
  unfold Builtin.«set.__new__» Builtin.Frozenset.newClass
  have hsub := sub_set_self
  obtain ⟨hp, g, d, tk, os⟩ := s
  dsimp only
  wp_walk
  refine wpAny_askSetting (wpAny_pure ?_)
  dsimp only
  simp only [newObj]
  refine wpAny_bind (wpAny_alloc (wpAny_pure ?_))
  exact wpAny_pure h
theorem call_new_SO {Q : Value → Shared → Prop}
    (h : Q (.ref s.heap.objs.size) { s with heap := s.heap.push { cls := .type "set", dict := none, data := .set #[] 0 (.fresh 0 0 (!byText w)) } }) :
    wpAny (model prog w) A (call (.type "set") []) Q E s := by
  obtain ⟨c, tl, hmro⟩ := F.called_set.mro
  have hmade := F.called_set.made
  have hsub := F.called_set.sub
  refine wpAny_call (codeAny_of_tree ?_)
  show wpAny _ _ (callAny (.type "set") _) _ _ _
  refine wpAny_pure ⟨Code.quiet_builtin _ (by decide +kernel), codeAny_builtin F.entry_type_call ?_⟩
  rw [Around.under_plain (weight_type_call_type "set" [] []) rfl]
  have h1 := F.called_set.notType
  have h2 := F.called_set.canCreate
  have hct := F.typeCall_set_0
  repeat (any_goals (first | assumption | wp_step))
  refine codeAny_mono (code_new_SO (E := E) (Q₁ := fun obj s₁ => obj = .ref s.heap.objs.size ∧ s₁ = { s with heap := s.heap.push { cls := .type "set", dict := none, data := .set #[] 0 (.fresh 0 0 (!byText w)) } }) ⟨rfl, rfl⟩) fun r s₁ hr => ?_
  cases r with
  | error e => exact hr
  | ok fl =>
    cases fl with
    | ret obj =>
      obtain ⟨rfl, rfl⟩ := hr
      have hS : (s.heap.push { cls := .type "set", dict := none, data := .set #[] 0 (.fresh 0 0 (!byText w)) }).get? s.heap.objs.size = some { cls := .type "set", dict := none, data := .set #[] 0 (.fresh 0 0 (!byText w)) } := Heap.get?_push_size _ rfl
      have hT : Shared.TypeIs { s with heap := s.heap.push { cls := .type "set", dict := none, data := .set #[] 0 (.fresh 0 0 (!byText w)) } } (.ref s.heap.objs.size) "set" := ⟨_, hS, rfl⟩
      have hli := F.called_set.init.lookup
      have hbi := F.called_set.init.bind (.ref s.heap.objs.size)
      repeat (any_goals (first | assumption | wp_step))
      refine codeAny_mono (codeAny_call_builtin (R := wants (fun r s₂ => r = .none ∧ Q (.ref s.heap.objs.size) s₂) E) F.called_set.init.plain F.entry_set_init (check_set_init hT ?_)) fun r₂ s₂ hr₂ => ?_
      · unfold Builtin.«set.__init__» noKeywords
        wp_walk
        exact ⟨rfl, h⟩
      · cases r₂ with
        | error e => exact hr₂
        | ok fl₂ =>
          cases fl₂ with
          | ret r =>
            obtain ⟨rfl, hq⟩ := hr₂
            repeat (any_goals (first | assumption | wp_step))
          | _ => exact hr₂.elim
    | _ => exact hr.elim
end
end Mine
end

section
open PySem PySem.W PyProof.Rows PySem.Calls PySem.Spec
namespace Mine
set_option maxRecDepth 100000
set_option maxHeartbeats 8000000
set_option linter.unusedVariables false
abbrev freshSet (w : World) : Obj := { cls := .type "set", dict := none, data := .set #[] 0 (.fresh 0 0 (!byText w)) }
section
variable {prog : Program} {w : World} {A : Around} {E : Value → Shared → Prop} {s : Shared} {h₀ : Heap} {L sa : Addr} {m : Str → Option Value} {news : List (Addr × Obj)} {g : Obj → List (Addr × Obj)} {so : Obj} {ns : List Int} {k : Int} {tk : Tok}
theorem kso_new {Q : Value → Shared → Prop} (F : Fr h₀ L s.heap m) (N : News h₀ L s.heap news)
    (h : ∀ D h' so, SO w so [] → Fr h₀ L h' m → News h₀ L h' ((D, so) :: news) → (∀ p ∈ news, p.1 < D) → Q (.ref D) { s with heap := h' }) :
    wpAny (model prog w) A (call (.type "set") []) Q E s :=
  call_new_SO (h _ _ _ SO.fresh (F.push _) (News.push F N _ rfl) (fun p hp => Heap.lt_size (N p hp).1))
theorem kso_method {nm : Str} {id : String} {pl : Sem Bool} {Q : Value × List Value → Shared → Prop} (slot : Slot "set" nm id) (hty : typeOf (.builtin id) = pure (.type "method_descriptor")) (N : News h₀ L s.heap news) (hm : (sa, so) ∈ news) (hso : SO w so ns)
    (h : Q (.builtin id, [.ref sa]) s) : wpAny (model prog w) A (getMethod (.ref sa) nm pl) Q E s :=
  getMethod_builtin (hso.typeIs (N _ hm).1) F.plainAttrs_set slot hty (fun b e => by cases e; exact ⟨_, (N _ hm).1, hso.1.2.1⟩) h
theorem kso_add {Q : Value → Shared → Prop} (F : Fr h₀ L s.heap m) (N : News h₀ L s.heap news) (U : UpdF sa so news g) (hso : SO w so ns) (hb : ns.length + 1 < scanBound)
    (h : ∀ h' so', Fr h₀ L h' m → News h₀ L h' (g so') → SO w so' (if k ∈ ns then ns else k :: ns) → Q .none { s with heap := h', toks := s.toks + 1 }) :
    wpAny (model prog w) A (call (.builtin "set.add") [.ref sa, .int k tk]) Q E s := by
  obtain ⟨pre, post, rfl, hg, a, b⟩ := U.split
  have hm := N (sa, so) (List.mem_append_right _ (.head _))
  exact call_add_SO hm.1 hso hb fun h' so' hsb ho' x => h h' so' (F.change hsb hm.2.1 hm.2.2) (hg so' ▸ N.setIn a b hsb ho') x
theorem kso_setAdd {Q : Bool → Shared → Prop} (F : Fr h₀ L s.heap m) (N : News h₀ L s.heap news) (U : UpdF sa so news g) (hso : SO w so ns) (hb : ns.length + 1 < scanBound)
    (h : ∀ h' so', Fr h₀ L h' m → News h₀ L h' (g so') → SO w so' (if k ∈ ns then ns else k :: ns) → Q (!decide (k ∈ ns)) { s with heap := h', toks := s.toks + 1 }) :
    wpAny (model prog w) A (setAdd sa (.int k tk)) Q E s := by
  obtain ⟨pre, post, rfl, hg, a, b⟩ := U.split
  have hm := N (sa, so) (List.mem_append_right _ (.head _))
  exact setAdd_SO hm.1 hso hb fun h' so' hsb ho' x => h h' so' (F.change hsb hm.2.1 hm.2.2) (hg so' ▸ N.setIn a b hsb ho') x
theorem kso_pop {Q : Value → Shared → Prop} (F : Fr h₀ L s.heap m) (N : News h₀ L s.heap news) (U : UpdF sa so news g) (hso : SO w so ns) (hb : ns.length < scanBound) (hne : ns ≠ [])
    (h : ∀ h' so' dr x t ms, Fr h₀ L h' m → News h₀ L h' (g so') → SO w so' ms → ns.Perm (x :: ms) → Q (.int x t) { s with heap := h', drawn := dr }) :
    wpAny (model prog w) A (call (.builtin "set.pop") [.ref sa]) Q E s := by
  obtain ⟨pre, post, rfl, hg, a, b⟩ := U.split
  have hm := N (sa, so) (List.mem_append_right _ (.head _))
  exact call_pop_SO hm.1 hso hb hne fun h' so' dr x t ms hsb ho' y z => h h' so' dr x t ms (F.change hsb hm.2.1 hm.2.2) (hg so' ▸ N.setIn a b hsb ho') y z
theorem kso_in {Q : Value → Shared → Prop} (N : News h₀ L s.heap news) (U : UpdF sa so news g) (hso : SO w so ns) (hb : ns.length < scanBound) (h : Q (.bool (decide (k ∈ ns))) { s with toks := s.toks + 1 }) :
    wpAny (model prog w) A (compareOp .In (.int k tk) (.ref sa)) Q E s := kse_in (knd := intKind prog w) N U hso.kit hb (intKind_is _ _ _ _) rfl h
theorem kso_truthy {Q : Bool → Shared → Prop} (N : News h₀ L s.heap news) (hm : (sa, so) ∈ news) (hso : SO w so ns) (hb : ns.length < scanBound) (h : Q (!ns.isEmpty) { s with toks := s.toks + 1 + 1 }) :
    wpAny (model prog w) A (truthy (.ref sa)) Q E s := truthy_SO (N _ hm).1 hso hb h
theorem ksod_core {b : Bool} {elts : List (Bool × Sem Value)} {ts : List (Sem Value)} {Q : Value → Shared → Prop} (hs : elts.findIdx? (·.1) = none) (hlen : elts.length ≤ 30) (hm : elts.map (·.2) = ts)
    (h : wpAny (model prog w) A (evalAll ts) (fun vs s' => KdsFill (model prog w) A E false s.heap.objs.size Q vs s') E { s with heap := s.heap.push (freshSet w) }) :
    wpAny (model prog w) A (setDisplay .oneByOne b elts) Q E s := by
  have hn : (if elts.length > 30 then 0 else (elts.findIdx? (·.1)).getD elts.length) = elts.length := by rw [if_neg (by omega), hs]; rfl
  unfold setDisplay
  try dsimp only
  have hr1 : (DisplayRoad.oneByOne == DisplayRoad.constants) = false := rfl
  have hr2 : (DisplayRoad.oneByOne == DisplayRoad.unsure) = false := rfl
  rw [hr1, hr2, if_neg Bool.false_ne_true]
  refine wpAny_bind (newSet_SO ?_)
  dsimp only
  rw [hn, List.take_length, List.drop_length, hm]
  refine wpAny_bind (wpAny_holding ?_)
  refine wpAny_bind (wpAny_mono h (fun vs s' h' => ?_) fun _ _ x => x)
  refine wpAny_bind (wpAny_holding ?_)
  refine wpAny_bind (wpAny_mono (kds_for (fun x P s hx => ?_) vs s' h') (fun _ s1 h1 => ?_) fun _ _ x => x)
  · refine wpAny_bind (wpAny_mono hx (fun _ s2 h2 => ?_) fun _ _ x => x)
    first | exact wpAny_pure ⟨rfl, h2⟩ | exact wpAny_bind (wpAny_pure (wpAny_pure ⟨rfl, h2⟩))
  · have h2 : Q (.ref s.heap.objs.size) s1 := by simpa [KdsFill] using h1
    rw [if_neg Bool.false_ne_true]
    refine wpAny_pure ?_
    rw [List.forIn_nil]
    exact wpAny_pure (wpAny_pure h2)
theorem kso_eval {K : Frag} {e : PySem.Expr} {pos : Pos} {env : Env} {Q : Value → Shared → Prop} (F : Fr h₀ L s.heap m) (N : News h₀ L s.heap news) (X : K.In h₀) (hc : kdsCode K env.code = true) (hp : kdsPlain e = true)
    (h : ∀ D h' so, SO w so [] → Fr h₀ L h' m → News h₀ L h' ((D, so) :: news) → (∀ p ∈ news, p.1 < D) →
      wpAny (model prog w) A (eval e env) (fun v s' => wpAny (model prog w) A (setAdd D v) (fun _ s'' => Q (.ref D) s'') E s') E { s with heap := h' }) :
    wpAny (model prog w) A (eval (.Set [e] 0 pos) env) Q E s := by
  rw [arm_eval_Set]
  refine wpAny_bind (wpAny_standAt ?_)
  refine wpAny_bind (kds_main (X.keeps F.keep) hc fun b => ?_)
  rw [kds_star [e] (by simp [hp]), List.map_map]
  have hr : displayRoad 0 [e] = .oneByOne := rfl
  rw [hr]
  refine ksod_core (ts := (evalEach [e] env).map fun t => do let v ← t; standAt pos; pure v) ?_ ?_ ?_ ?_
  · refine List.findIdx?_eq_none_iff.mpr fun x hx => ?_
    obtain ⟨t, _, rfl⟩ := List.mem_map.mp hx
    rfl
  · rw [List.length_map, kds_len]; exact Nat.le_of_ble_eq_true rfl
  · rw [List.map_map]; try rfl
  · refine kds_all pos [e] _ _ ?_
    show wpAny _ _ _ _ _ _
    refine wpAny_mono (h _ _ _ SO.fresh (F.push (freshSet w)) (News.push F N _ rfl) (fun p hp => Heap.lt_size (N p hp).1)) (fun v s' h' => ?_) fun _ _ x => x
    show wpAny _ _ _ _ _ _
    refine wpAny_mono h' (fun _ s'' h'' => ?_) fun _ _ x => x
    exact kds_fill_nil rfl h''
end
end Mine
end

section
open PySem PySem.W PyProof.Rows PySem.Calls PySem.Spec
namespace Mine
set_option maxRecDepth 100000
set_option maxHeartbeats 8000000
set_option linter.unusedVariables false
theorem slot_setit_next : Slot "set_iterator" "__next__" "set_iterator.__next__" :=
  .of (owner := "set_iterator") (n := "__next__") (by rw [typeLookup_type, builtinLookup_eq_fast]; kernel_rfl) (by decide +kernel) (by decide +kernel) (by decide +kernel)
    (by first | exact .inl (by decide +kernel) | exact .inr (by decide +kernel)) (by rw [isSubtype_type]; kernel_rfl)
theorem slot_setit_iter : Slot "set_iterator" "__iter__" "set_iterator.__iter__" :=
  .of (owner := "set_iterator") (n := "__iter__") (by rw [typeLookup_type, builtinLookup_eq_fast]; kernel_rfl) (by decide +kernel) (by decide +kernel) (by decide +kernel)
    (by first | exact .inl (by decide +kernel) | exact .inr (by decide +kernel)) (by rw [isSubtype_type]; kernel_rfl)
theorem entry_setit_next : entryFor table "set_iterator.__next__" = some Builtin.«set_iterator.__next__» := entryFor_of_tree (by kernel_rfl)
theorem entry_setit_iter : entryFor table "set_iterator.__iter__" = some Builtin.«dict_keyiterator.__iter__» :=
  entryFor_alias (id' := "dict_keyiterator.__iter__") (by kernel_rfl) rfl (by decide +kernel) (by kernel_rfl)
theorem args_setit_next (a : Value) : argsOk "set_iterator.__next__" ⟨[a], []⟩ := by unfold argsOk; kernel_rfl
theorem args_setit_iter (a : Value) : argsOk "set_iterator.__iter__" ⟨[a], []⟩ := by unfold argsOk; kernel_rfl
theorem entry_set_iter : entryFor table "set.__iter__" = some Builtin.«frozenset.__iter__» :=
  entryFor_alias (id' := "frozenset.__iter__") (by kernel_rfl) rfl (by decide +kernel) (by kernel_rfl)

theorem getElem_erase_perm {α : Type} : ∀ {l : List α} {i : Nat} (h : i < l.length), (l[i] :: l.eraseIdx i).Perm l
  | x :: l, 0, _ => List.Perm.refl _
  | x :: l, i + 1, h => by
    have h' : i < l.length := by simpa using h
    show (l[i] :: x :: l.eraseIdx i).Perm (x :: l)
    exact (List.Perm.swap _ _ _).trans (List.Perm.cons x (getElem_erase_perm h'))
theorem pick_go {α : Type} (next : Nat → Nat) : ∀ (fuel k : Nat) (left : List α) (out : Array α), left.length = fuel → (pickOrder.go next fuel k left out).toList.Perm (out.toList ++ left) := by
  intro fuel
  induction fuel with
  | zero =>
    intro k left out h
    have : left = [] := List.length_eq_zero_iff.mp h
    subst this
    unfold pickOrder.go; simp
  | succ fuel ih =>
    intro k left out h
    unfold pickOrder.go
    have hlt : next k % left.length < left.length := Nat.mod_lt _ (by omega)
    rw [List.getElem?_eq_getElem hlt]
    dsimp only
    refine (ih _ _ _ (by rw [List.length_eraseIdx_of_lt hlt]; omega)).trans ?_
    rw [Array.toList_push, List.append_assoc]
    refine List.Perm.append_left _ ?_
    exact getElem_erase_perm hlt
theorem pick_perm {α : Type} (next : Nat → Nat) (xs : Array α) : (pickOrder next xs).toList.Perm xs.toList := by
  have := pick_go next xs.size 0 xs.toList #[] (by simp)
  simpa [pickOrder] using this

section
variable {prog : Program} {w : World} {A : Around} {E : Value → Shared → Prop} {s : Shared} {a : Addr} {o : Obj} {es : Array (Int × Value)} {ep : Nat} {t : SetTable}

theorem drawOrder_perm {α : Type} {M : Model} : ∀ (n : Nat) (xs : List α) (s : Shared) (Q : List α → Shared → Prop), xs.length = n → (∀ ys dr, ys.Perm xs → Q ys { s with drawn := dr }) → wpAny M A (drawOrder n xs) Q E s := by
  intro n
  induction n with
  | zero =>
    intro xs s Q h hq
    have : xs = [] := List.length_eq_zero_iff.mp h
    subst this
    unfold drawOrder
    exact wpAny_pure (hq [] s.drawn .nil)
  | succ n ih =>
    intro xs s Q h hq
    cases xs with
    | nil => simp at h
    | cons x xs =>
      unfold drawOrder
      refine wpAny_bind (wpAny_choose (by simp) fun i hi => ?_)
      rw [List.getElem?_eq_getElem hi]
      dsimp only
      refine wpAny_bind (ih _ _ _ (by rw [List.length_eraseIdx_of_lt hi]; omega) fun ys dr hp => wpAny_pure (hq _ dr ?_))
      exact (List.Perm.cons _ hp).trans (getElem_erase_perm hi)

theorem walk_text {Q : Array (Int × Value) → Shared → Prop} (ho : s.heap.get? a = some o) (hd : o.data = .set es ep t) (hf : t.fits es.size = true) (hb : byText w = true)
    (h : Q (pickOrder (w.params.setOrder a ep) es) s) : wpAny (model prog w) A (setWalk a) Q E s := by
  unfold setWalk setsByText
  refine wpAny_bind (wpAny_setState_of ho hd hf ?_)
  dsimp only
  refine wpAny_bind (wpAny_bind (wpAny_askSetting (wpAny_pure ?_)))
  refine wpAny_ite_split (fun _ => ?_) (fun hc => absurd hb hc)
  exact wpAny_bind (wpAny_askSetting (wpAny_pure h))

theorem setNext_text {sl g : Nat} {Q : Option (Value × Nat) → Shared → Prop} (ho : s.heap.get? a = some o) (hd : o.data = .set es ep t) (hf : t.fits es.size = true) (hb : byText w = true)
    (h : Q (((pickOrder (w.params.setOrder a ep) es)[g]?).map fun e => (e.2, sl)) s) : wpAny (model prog w) A (setNext a sl g ep) Q E s := by
  unfold setNext setsByText
  refine wpAny_bind (wpAny_setState_of ho hd hf ?_)
  dsimp only
  refine wpAny_bind (wpAny_bind (wpAny_askSetting (wpAny_pure ?_)))
  refine wpAny_ite_split (fun _ => ?_) (fun hc => absurd hb hc)
  refine wpAny_ite_split (fun hc => absurd hc (by simp)) (fun _ => ?_)
  exact wpAny_bind (walk_text ho hd hf hb (wpAny_pure h))

theorem setNext_slots {sl g : Nat} {Q : Option (Value × Nat) → Shared → Prop} (ho : s.heap.get? a = some o) (hd : o.data = .set es ep t) (hf : t.fits es.size = true) (hb : byText w = false) (hp : (!t.plain && decide (es.size > 1)) = false) (hl : t.led = true)
    (h : Q (match es[SetTable.below t.place sl]?, t.place[SetTable.below t.place sl]? with | some (_, x), some j => some (x, j + 1) | _, _ => none) s) : wpAny (model prog w) A (setNext a sl g ep) Q E s := by
  unfold setNext setsByText
  refine wpAny_bind (wpAny_setState_of ho hd hf ?_)
  dsimp only
  refine wpAny_bind (wpAny_bind (wpAny_askSetting (wpAny_pure ?_)))
  refine wpAny_ite_split (fun hc => by rw [show byText w = true from hc] at hb; cases hb) (fun _ => ?_)
  show wpAny _ _ (if (!t.plain && decide (es.size > 1)) = true then _ else _) _ _ _
  rw [hp, if_neg Bool.false_ne_true]
  refine wpAny_bind (show wpAny (model prog w) A (if (!t.led && !es.isEmpty) = true then unsupported "set:maker-not-led" else pure PUnit.unit) _ E _ from ?_)
  rw [hl, if_neg (by simp)]
  exact wpAny_pure (wpAny_pure h)

theorem setNextDrawn_at {pl : Nat} {x : Int × Value} {Q : Value → Shared → Prop} (ho : s.heap.get? a = some o) (hd : o.data = .set es ep t) (hf : t.fits es.size = true) (hx : es[pl]? = some x) (h : Q x.2 s) :
    wpAny (model prog w) A (setNextDrawn a pl ep) Q E s := by
  unfold setNextDrawn
  refine wpAny_bind (wpAny_setState_of ho hd hf ?_)
  dsimp only
  refine wpAny_ite_split (fun hc => absurd hc (by simp)) (fun _ => ?_)
  rw [hx]
  exact wpAny_pure h
/-- the iterator at its place -/
def SetIt (h : Heap) (I a : Addr) (n ep : Nat) (first : Value) (i : Nat) : Prop := ∃ oI, h.get? I = some oI ∧ oI.cls = .type "set_iterator" ∧ oI.data = .fields #[first, rawInt i, .ref a, rawInt n, rawInt ep]
theorem SetIt.typeIs {I : Addr} {n : Nat} {first : Value} {i : Nat} (x : SetIt s.heap I a n ep first i) : s.TypeIs (.ref I) "set_iterator" := let ⟨o, h1, h2, _⟩ := x; ⟨o, h1, h2⟩

theorem setit_set {h : Heap} {I a : Addr} {n : Nat} {first f' : Value} {i : Nat} (x : SetIt h I a n ep first i) :
    SetIt ((h.update I (Obj.mapFields (·.setIfInBounds 0 f'))).update I (Obj.mapFields (·.setIfInBounds 1 (rawInt ((i : Int) + 1))))) I a n ep f' (i + 1) := by
  obtain ⟨oI, h1, h2, h3⟩ := x
  have g1 := Heap.get?_update_self (Obj.mapFields (·.setIfInBounds 0 f')) h1 (Obj.isFreed_of_fields (Obj.data_mapFields h3 _))
  have d1 := Obj.data_mapFields h3 (·.setIfInBounds 0 f')
  have g2 := Heap.get?_update_self (Obj.mapFields (·.setIfInBounds 1 (rawInt ((i : Int) + 1)))) g1 (Obj.isFreed_of_fields (Obj.data_mapFields d1 _))
  refine ⟨_, g2, (Obj.cls_mapFields ..).trans ((Obj.cls_mapFields ..).trans h2), ?_⟩
  rw [Obj.data_mapFields d1]
  simp [rawInt]
theorem setit_set1 {h : Heap} {I a : Addr} {n : Nat} {first : Value} {i : Nat} (x : SetIt h I a n ep first i) :
    SetIt (h.update I (Obj.mapFields (·.setIfInBounds 1 (rawInt ((i : Int) + 1))))) I a n ep first (i + 1) := by
  obtain ⟨oI, h1, h2, h3⟩ := x
  have g2 := Heap.get?_update_self (Obj.mapFields (·.setIfInBounds 1 (rawInt ((i : Int) + 1)))) h1 (Obj.isFreed_of_fields (Obj.data_mapFields h3 _))
  refine ⟨_, g2, (Obj.cls_mapFields ..).trans h2, ?_⟩
  rw [Obj.data_mapFields h3]
  simp [rawInt]

theorem setit_item {I : Addr} {z i nx : Nat} {x : Value} {Q : Option Value → Shared → Prop} (hit : SetIt s.heap I a es.size ep (rawInt z) i) (ho : s.heap.get? a = some o) (hd : o.data = .set es ep t) (hf : t.fits es.size = true)
    (hn : ∀ (A : Around) (E : Value → Shared → Prop) (Q : Option (Value × Nat) → Shared → Prop), Q (some (x, nx)) s → wpAny (model prog w) A (setNext a z i ep) Q E s)
    (h : ∀ h', Heap.SameBut I s.heap h' → SetIt h' I a es.size ep (rawInt nx) (i + 1) → Q (some x) { s with heap := h' }) : wpAny (model prog w) A (pyNext (.ref I)) Q E s := by
  have hit0 := hit
  obtain ⟨oI, h1, h2, h3⟩ := hit
  unfold pyNext
  refine wpAny_bind (wpAny_attempt (wpAny_callSpecial?_slot (name := Str.ofString "__next__") hit0.typeIs slot_setit_next
    (wpAny_call_entry slot_setit_next hit0.typeIs entry_setit_next ?_ (args_setit_next _))))
  unfold Builtin.«set_iterator.__next__» slotArgs
  dsimp only [List.isEmpty_nil, Bool.not_true, Bool.false_eq_true, ↓reduceIte, List.length_nil, bne_self_eq_false]
  refine wpAny_bind (wpAny_pure ?_)
  refine wpAny_bind (wpAny_fieldsOf h1 h3 ?_)
  dsimp only [rawInt]
  refine wpAny_bind (wpAny_setEntries_of ho hd hf ?_)
  refine wpAny_ite_split (fun hc => absurd hc (by simp)) (fun _ => ?_)
  simp only [Int.toNat_natCast]
  refine wpAny_bind (hn _ _ _ ?_)
  dsimp only
  refine wpAny_bind (wpAny_setField h1 h3 (by simp) ?_)
  have g1 := Heap.get?_update_self (Obj.mapFields (·.setIfInBounds 0 (Value.int (nx : Int) 0))) h1 (Obj.isFreed_of_fields (Obj.data_mapFields h3 _))
  refine wpAny_bind (wpAny_setField g1 (Obj.data_mapFields h3 _) (by simp) ?_)
  refine wpAny_pure ⟨_, rfl, wpAny_pure (h _ ((Heap.SameBut.update ..).trans (Heap.SameBut.update ..)) (setit_set hit0))⟩

theorem setit_done {I : Addr} {z i : Nat} {Q : Option Value → Shared → Prop} (hh : A.handled = none) (hit : SetIt s.heap I a es.size ep (rawInt z) i) (ho : s.heap.get? a = some o) (hd : o.data = .set es ep t) (hf : t.fits es.size = true)
    (hn : ∀ (A : Around) (E : Value → Shared → Prop) (Q : Option (Value × Nat) → Shared → Prop), Q none s → wpAny (model prog w) A (setNext a z i ep) Q E s)
    (h : ∀ h', Heap.ExtBut I s.heap h' → Q none { s with heap := h' }) : wpAny (model prog w) A (pyNext (.ref I)) Q E s := by
  have hit0 := hit
  obtain ⟨oI, h1, h2, h3⟩ := hit
  unfold pyNext
  refine wpAny_bind (wpAny_attempt (wpAny_callSpecial?_slot (name := Str.ofString "__next__") hit0.typeIs slot_setit_next
    (wpAny_call_entry slot_setit_next hit0.typeIs entry_setit_next ?_ (args_setit_next _))))
  unfold Builtin.«set_iterator.__next__» slotArgs
  dsimp only [List.isEmpty_nil, Bool.not_true, Bool.false_eq_true, ↓reduceIte, List.length_nil, bne_self_eq_false]
  refine wpAny_bind (wpAny_pure ?_)
  refine wpAny_bind (wpAny_fieldsOf h1 h3 ?_)
  dsimp only [rawInt]
  refine wpAny_bind (wpAny_setEntries_of ho hd hf ?_)
  refine wpAny_ite_split (fun hc => absurd hc (by simp)) (fun _ => ?_)
  simp only [Int.toNat_natCast]
  refine wpAny_bind (hn _ _ _ ?_)
  dsimp only
  refine wpAny_bind (wpAny_setField h1 h3 (by simp) ?_)
  refine wpAny_bind ?_
  simp only [newExc, newTuple]
  refine wpAny_bind (wpAny_newObj_type ?_ (by size_fits))
  refine wpAny_bind (m := firstArgMember _ _) (wpAny_of_eq (a := Value.none) (by first | rfl | (simp only [firstArgMember]; rfl)) ?_)
  refine wpAny_newObj_type ?_ (by size_fits)
  simp only [raiseNew]
  refine wpAny_bind (wpAny_handled ?_)
  rw [show A.in1.handled = none from hh]
  refine wpAny_bind (wpAny_pure (wpAny_throw ?_))
  refine wpAny_bind (wpAny_isInstance (T := "StopIteration") (b := true) ⟨_, Heap.get?_push_size _ rfl, rfl⟩ isSubtype_stop ?_)
  exact wpAny_pure (h _ (((Heap.SameBut.update ..).extBut.push _).push _))

theorem setitD_item {I T : Addr} {i pl tk : Nat} {pls : Array Value} {c : Nat} {oT : Obj} {x : Int × Value} {Q : Option Value → Shared → Prop} (hit : SetIt s.heap I a es.size ep (.ref T) i) (ho : s.heap.get? a = some o) (hd : o.data = .set es ep t) (hf : t.fits es.size = true)
    (hT : s.heap.get? T = some oT) (hdT : oT.data = .seq pls c) (hp : pls[i]? = some (.int pl tk)) (hx : es[pl]? = some x)
    (h : ∀ h', Heap.SameBut I s.heap h' → SetIt h' I a es.size ep (.ref T) (i + 1) → Q (some x.2) { s with heap := h' }) : wpAny (model prog w) A (pyNext (.ref I)) Q E s := by
  have hit0 := hit
  obtain ⟨oI, h1, h2, h3⟩ := hit
  unfold pyNext
  refine wpAny_bind (wpAny_attempt (wpAny_callSpecial?_slot (name := Str.ofString "__next__") hit0.typeIs slot_setit_next
    (wpAny_call_entry slot_setit_next hit0.typeIs entry_setit_next ?_ (args_setit_next _))))
  unfold Builtin.«set_iterator.__next__» slotArgs
  dsimp only [List.isEmpty_nil, Bool.not_true, Bool.false_eq_true, ↓reduceIte, List.length_nil, bne_self_eq_false]
  refine wpAny_bind (wpAny_pure ?_)
  refine wpAny_bind (wpAny_fieldsOf h1 h3 ?_)
  dsimp only [rawInt]
  refine wpAny_bind (wpAny_setEntries_of ho hd hf ?_)
  refine wpAny_ite_split (fun hc => absurd hc (by simp)) (fun _ => ?_)
  refine wpAny_bind (wpAny_seqItems hT hdT ?_)
  simp only [Int.toNat_natCast, hp]
  refine wpAny_bind (setNextDrawn_at ho hd hf hx ?_)
  refine wpAny_bind (wpAny_setField h1 h3 (by simp) ?_)
  refine wpAny_pure ⟨_, rfl, wpAny_pure (h _ (Heap.SameBut.update ..) (setit_set1 hit0))⟩

theorem setitD_done {I T : Addr} {i : Nat} {pls : Array Value} {c : Nat} {oT : Obj} {Q : Option Value → Shared → Prop} (hh : A.handled = none) (hit : SetIt s.heap I a es.size ep (.ref T) i) (ho : s.heap.get? a = some o) (hd : o.data = .set es ep t) (hf : t.fits es.size = true)
    (hT : s.heap.get? T = some oT) (hdT : oT.data = .seq pls c) (hp : pls[i]? = none)
    (h : ∀ h', Heap.ExtBut I s.heap h' → Q none { s with heap := h' }) : wpAny (model prog w) A (pyNext (.ref I)) Q E s := by
  have hit0 := hit
  obtain ⟨oI, h1, h2, h3⟩ := hit
  unfold pyNext
  refine wpAny_bind (wpAny_attempt (wpAny_callSpecial?_slot (name := Str.ofString "__next__") hit0.typeIs slot_setit_next
    (wpAny_call_entry slot_setit_next hit0.typeIs entry_setit_next ?_ (args_setit_next _))))
  unfold Builtin.«set_iterator.__next__» slotArgs
  dsimp only [List.isEmpty_nil, Bool.not_true, Bool.false_eq_true, ↓reduceIte, List.length_nil, bne_self_eq_false]
  refine wpAny_bind (wpAny_pure ?_)
  refine wpAny_bind (wpAny_fieldsOf h1 h3 ?_)
  dsimp only [rawInt]
  refine wpAny_bind (wpAny_setEntries_of ho hd hf ?_)
  refine wpAny_ite_split (fun hc => absurd hc (by simp)) (fun _ => ?_)
  refine wpAny_bind (wpAny_seqItems hT hdT ?_)
  simp only [Int.toNat_natCast, hp]
  refine wpAny_bind (wpAny_setField h1 h3 (by simp) ?_)
  have g1 := Heap.get?_update_self (Obj.mapFields (·.setIfInBounds 0 (Value.int 0 0))) h1 (Obj.isFreed_of_fields (Obj.data_mapFields h3 _))
  refine wpAny_bind (wpAny_setField g1 (Obj.data_mapFields h3 _) (by simp) ?_)
  refine wpAny_bind ?_
  simp only [newExc, newTuple]
  refine wpAny_bind (wpAny_newObj_type ?_ (by size_fits))
  refine wpAny_bind (m := firstArgMember _ _) (wpAny_of_eq (a := Value.none) (by first | rfl | (simp only [firstArgMember]; rfl)) ?_)
  refine wpAny_newObj_type ?_ (by size_fits)
  simp only [raiseNew]
  refine wpAny_bind (wpAny_handled ?_)
  rw [show A.in1.handled = none from hh]
  refine wpAny_bind (wpAny_pure (wpAny_throw ?_))
  refine wpAny_bind (wpAny_isInstance (T := "StopIteration") (b := true) ⟨_, Heap.get?_push_size _ rfl, rfl⟩ isSubtype_stop ?_)
  exact wpAny_pure (h _ ((((Heap.SameBut.update ..).trans (Heap.SameBut.update ..)).extBut.push _).push _))
end
end Mine
end

section
open PySem PySem.W PyProof.Rows PySem.Calls PySem.Spec
namespace Mine
set_option maxRecDepth 100000
set_option maxHeartbeats 8000000
set_option linter.unusedVariables false
theorem ints_vals : ∀ {l : List (Int × Value)}, (∀ e ∈ l, isI e) → IntsAre (l.map (·.2)) (l.map valOf)
  | [], _ => .nil
  | e :: l, h => by
    obtain ⟨k, t, h1, h2⟩ := h e (.head _)
    have e1 : valOf e = k := by unfold valOf; rw [h1]
    rw [List.map_cons, List.map_cons, e1, h1]
    exact .cons k t (ints_vals fun x hx => h x (.tail _ hx))
/-- where the walk by slots stands -/
def slotAt (t : SetTable) : Nat → Nat
  | 0 => 0
  | i + 1 => t.place.getD i 0 + 1
theorem below_slot {t : SetTable} (h : Rise t.place) {i : Nat} (hi : i ≤ t.place.size) : SetTable.below t.place (slotAt t i) = i := by
  obtain ⟨h1, h2, h3⟩ := below_spec h (slotAt t i)
  generalize SetTable.below t.place (slotAt t i) = p at *
  cases i with
  | zero =>
    rcases Nat.eq_zero_or_pos p with q | q
    · exact q
    · have := h2 0 q; simp [slotAt] at this
  | succ j =>
    simp only [slotAt] at *
    have q1 : j < p := by
      rcases Nat.lt_or_ge j p with q | q
      · exact q
      · have := h3 j q (by omega); omega
    rcases Nat.lt_or_ge (j + 1) p with q | q
    · have r1 := h2 (j + 1) q
      have r2 := h.lt (i := j) (j := j + 1) (by omega) (by omega)
      omega
    · omega
section
variable {prog : Program} {w : World} {A : Around} {E : Value → Shared → Prop} {s : Shared} {a : Addr} {o : Obj} {es : Array (Int × Value)} {ep : Nat} {t : SetTable} {ns : List Int}
theorem iter_self {I : Addr} {n : Nat} {first : Value} {i : Nat} {Q : Value → Shared → Prop} (hit : SetIt s.heap I a n ep first i) (h : Q (.ref I) s) : wpAny (model prog w) A (pyIter (.ref I)) Q E s := by
  refine wpAny_pyIter_slot hit.typeIs slot_setit_iter (wpAny_call_entry slot_setit_iter hit.typeIs entry_setit_iter ?_ (args_setit_iter _))
  exact wpAny_bind (wpAny_pure (wpAny_pure ⟨_, rfl, "set_iterator", _, hit.typeIs, slot_setit_next.lookup, h⟩))
theorem walks_int {I : Addr} (hh : A.handled = none) (hIa : I ≠ a) (hd : o.data = .set es ep t) (hf : t.fits es.size = true) (z : Nat → Nat) (xs : List Value) (hxs : xs.length = es.size)
    (hnext : ∀ (i : Nat) (x : Value) (s : Shared) (A : Around) (E : Value → Shared → Prop) (Q : Option (Value × Nat) → Shared → Prop), s.heap.get? a = some o → xs[i]? = some x → Q (some (x, z (i + 1))) s → wpAny (model prog w) A (setNext a (z i) i ep) Q E s)
    (hend : ∀ (s : Shared) (A : Around) (E : Value → Shared → Prop) (Q : Option (Value × Nat) → Shared → Prop), s.heap.get? a = some o → Q none s → wpAny (model prog w) A (setNext a (z es.size) es.size ep) Q E s) :
    Walks prog w A I [I, a] [I] es.size (fun i v => xs[i]? = some v) (fun i h => SetIt h I a es.size ep (rawInt (z i)) i ∧ h.get? a = some o) where
  sub := fun b hb => by simp at hb; simp [hb]
  frame := fun i h h' st hk => ⟨let ⟨oI, x1, x2⟩ := st.1; ⟨oI, hk I (by simp) _ x1, x2⟩, hk a (by simp) _ st.2⟩
  item := fun i s Q E hi st hQ => by
    have hx : xs[i]? = some xs[i] := List.getElem?_eq_getElem (by omega)
    refine setit_item st.1 st.2 hd hf (fun A E Q h => hnext i _ s A E Q st.2 hx h) fun h' hs' hit' => ?_
    exact hQ _ h' s.toks hx ⟨hit', hs'.extBut a _ (Ne.symm hIa) st.2⟩ fun b o hb e => hs'.extBut b o (fun h => hb (by simp [h])) e
  done := fun s Q E st hQ => setit_done hh st.1 st.2 hd hf (fun A E Q h => hend s A E Q st.2 h) fun h' he' => hQ h' s.toks fun b o hb e => he' b o (fun h => hb (by simp [h])) e
  self := fun _ _ _ _ st hQ => iter_self st.1 hQ
theorem walks_drawn {I T : Addr} {oT : Obj} {c : Nat} (hh : A.handled = none) (hIa : I ≠ a) (hIT : I ≠ T) (hd : o.data = .set es ep t) (hf : t.fits es.size = true) (ys : List Nat) (hys : ys.length = es.size) (hlt : ∀ y ∈ ys, y < es.size)
    (hdT : oT.data = .seq (ys.map fun (i : Nat) => rawInt i).toArray c) :
    Walks prog w A I [I, a, T] [I] es.size (fun i v => (ys.map fun y => (es.getD y (0, .none)).2)[i]? = some v) (fun i h => SetIt h I a es.size ep (.ref T) i ∧ h.get? a = some o ∧ h.get? T = some oT) where
  sub := fun b hb => by simp at hb; simp [hb]
  frame := fun i h h' st hk => ⟨let ⟨oI, x1, x2⟩ := st.1; ⟨oI, hk I (by simp) _ x1, x2⟩, hk a (by simp) _ st.2.1, hk T (by simp) _ st.2.2⟩
  item := fun i s Q E hi st hQ => by
    have hy : ys[i]? = some ys[i] := List.getElem?_eq_getElem (by omega)
    have hy2 := hlt ys[i] (List.getElem_mem _)
    have hx : es[ys[i]]? = some es[ys[i]] := Array.getElem?_eq_getElem hy2
    refine setitD_item (pl := ys[i]) (tk := 0) st.1 st.2.1 hd hf st.2.2 hdT (by simp [hy, rawInt]) hx fun h' hs' hit' => ?_
    refine hQ _ h' s.toks ?_ ⟨hit', hs'.extBut a _ (Ne.symm hIa) st.2.1, hs'.extBut T _ (Ne.symm hIT) st.2.2⟩ fun b o hb e => hs'.extBut b o (fun h => hb (by simp [h])) e
    rw [List.getElem?_map, hy]
    simp [Array.getD, hy2]
  done := fun s Q E st hQ => setitD_done hh st.1 st.2.1 hd hf st.2.2 hdT (by simp; omega) fun h' he' => hQ h' s.toks fun b o hb e => he' b o (fun h => hb (by simp [h])) e
  self := fun _ _ _ _ st hQ => iter_self st.1 hQ
end
end Mine
end

section
open PySem PySem.W PyProof.Rows PySem.Calls PySem.Spec
namespace Mine
set_option maxRecDepth 100000
set_option maxHeartbeats 8000000
set_option linter.unusedVariables false
/-- an iterator that walks over the ints of a set -/
def WalksSet (prog : Program) (w : World) (a I : Addr) (lo : Nat) (n : Nat) (vs : List Value) (h : Heap) : Prop :=
  ∃ fp St, (∀ A : Around, A.handled = none → Walks prog w A I fp [I] n (fun i v => vs[i]? = some v) St) ∧ St 0 h ∧ (∀ b ∈ fp, @Eq Nat b a ∨ lo ≤ b)
section
variable {prog : Program} {w : World} {A : Around} {E : Value → Shared → Prop} {s : Shared} {a : Addr} {o : Obj} {ns : List Int}
theorem iter_SO {Q : Value → Shared → Prop} (ho : s.heap.get? a = some o) (hs : SO w o ns) (hbd : ns.length < scanBound)
    (h : ∀ I h' dr vs ns', WalksSet prog w a I s.heap.objs.size ns.length vs h' → IntsAre vs ns' → ns'.Perm ns → (∀ b o, s.heap.get? b = some o → h'.get? b = some o) → s.heap.objs.size ≤ I → Q (.ref I) { s with heap := h', drawn := dr }) :
    wpAny (model prog w) A (pyIter (.ref a)) Q E s := by
  have hT := hs.typeIs ho
  obtain ⟨hex, es, ep, t, hd, hi, hp, hf, hr, hl⟩ := hs
  have hsz := ent_size hp
  have hal : a < s.heap.objs.size := Heap.lt_size ho
  have hf' := hf
  simp only [SetTable.fits, Bool.and_eq_true, beq_iff_eq, decide_eq_true_eq] at hf'
  refine wpAny_pyIter_slot hT F.slot_set_iter (wpAny_call_entry F.slot_set_iter hT entry_set_iter ?_ (F.args_set_iter_1 _))
  unfold Builtin.«frozenset.__iter__» Builtin.Frozenset.slot0 slotArgs
  simp only [List.isEmpty_nil, Bool.not_true, Bool.false_eq_true, ↓reduceIte, bind_assoc, List.length_nil, bne_self_eq_false]
  unfold Builtin.Frozenset.addrOf Builtin.Frozenset.sizeOf
  refine wpAny_bind (wpAny_pure ?_)
  try dsimp only
  refine wpAny_bind (wpAny_pure ?_)
  refine wpAny_bind (wpAny_bind (wpAny_setEntries_of ho hd hf (wpAny_pure ?_)))
  unfold setDrawn
  refine wpAny_bind (wpAny_bind (wpAny_setState_of ho hd hf ?_))
  dsimp only
  unfold setsByText
  refine wpAny_bind (wpAny_bind (wpAny_askSetting (wpAny_pure ?_)))
  refine wpAny_pure ?_
  show wpAny _ _ (if (!(byText w) && (!t.plain && decide (es.size > 1))) = true then _ else _) _ _ _
  have made : ∀ (h1 : Heap) (n ep : Nat) (first : Value), SetIt (h1.push { cls := .type "set_iterator", data := .fields #[first, rawInt 0, .ref a, rawInt n, rawInt ep] }) h1.objs.size a n ep first 0 := fun h1 n ep first => ⟨_, Heap.get?_push_size _ rfl, rfl, rfl⟩
  cases hb : byText w with
  | true =>
    refine wpAny_bind (wpAny_pure ?_)
    refine wpAny_bind (wpAny_setEpoch_of ho hd hf ?_)
    refine wpAny_bind ?_
    unfold newFields
    refine wpAny_newObj_type (wpAny_pure ⟨_, rfl, "set_iterator", _, ⟨_, Heap.get?_push_size _ rfl, rfl⟩, slot_setit_next.lookup, ?_⟩)
    have hpk := pick_perm (w.params.setOrder a ep) es
    refine h s.heap.objs.size _ s.drawn ((pickOrder (w.params.setOrder a ep) es).toList.map (·.2)) _ ?_ (ints_vals fun e he => hi e (hpk.mem_iff.mp he)) ((hpk.map valOf).trans hp) (fun b o e => Heap.get?_push_of_some _ e) (Nat.le_refl _)
    have hlen : (pickOrder (w.params.setOrder a ep) es).size = es.size := by have := hpk.length_eq; simpa using this
    refine ⟨[s.heap.objs.size, a], fun i h => SetIt h s.heap.objs.size a es.size ep (rawInt ((0 : Nat) : Int)) i ∧ h.get? a = some o, fun A' hh => ?_, ⟨made s.heap es.size ep (rawInt ((0 : Nat) : Int)), Heap.get?_push_of_some _ ho⟩, fun b hb => ?_⟩
    · rw [← hsz]
      refine walks_int hh (Nat.ne_of_gt hal) hd hf (fun _ => 0) _ (by simpa using hlen) (fun i x s₁ A₁ E₁ Q₁ ho₁ hx hq => ?_) (fun s₁ A₁ E₁ Q₁ ho₁ hq => ?_)
      · refine setNext_text ho₁ hd hf hb ?_
        rw [List.getElem?_map] at hx
        rw [← Array.getElem?_toList]
        cases hc : (pickOrder (w.params.setOrder a ep) es).toList[i]? with
        | none => rw [hc] at hx; cases hx
        | some e => rw [hc] at hx; cases hx; exact hq
      · refine setNext_text ho₁ hd hf hb ?_
        rw [Array.getElem?_eq_none (by omega)]
        exact hq
    · simp only [List.mem_cons, List.not_mem_nil, or_false] at hb
      rcases hb with rfl | rfl
      · exact .inr (Nat.le_refl _)
      · exact .inl rfl
  | false =>
    have hled : t.led = true := hl.resolve_left (by rw [hb]; exact Bool.false_ne_true)
    cases hdr : (!t.plain && decide (es.size > 1)) with
    | false =>
      refine wpAny_bind (wpAny_pure ?_)
      refine wpAny_bind (wpAny_setEpoch_of ho hd hf ?_)
      refine wpAny_bind ?_
      unfold newFields
      refine wpAny_newObj_type (wpAny_pure ⟨_, rfl, "set_iterator", _, ⟨_, Heap.get?_push_size _ rfl, rfl⟩, slot_setit_next.lookup, ?_⟩)
      refine h s.heap.objs.size _ s.drawn (es.toList.map (·.2)) _ ?_ (ints_vals hi) hp (fun b o e => Heap.get?_push_of_some _ e) (Nat.le_refl _)
      refine ⟨[s.heap.objs.size, a], fun i h => SetIt h s.heap.objs.size a es.size ep (rawInt ((slotAt t i : Nat) : Int)) i ∧ h.get? a = some o, fun A' hh => ?_, ⟨made s.heap es.size ep (rawInt ((slotAt t 0 : Nat) : Int)), Heap.get?_push_of_some _ ho⟩, fun b hb => ?_⟩
      · rw [← hsz]
        refine walks_int hh (Nat.ne_of_gt hal) hd hf (slotAt t) _ (by simp) (fun i x s₁ A₁ E₁ Q₁ ho₁ hx hq => ?_) (fun s₁ A₁ E₁ Q₁ ho₁ hq => ?_)
        · have hlt : i < es.size := by
            have := (List.getElem?_eq_some_iff.mp hx).1; simpa using this
          refine setNext_slots ho₁ hd hf hb hdr hled ?_
          rw [below_slot hr (by omega)]
          rw [Array.getElem?_eq_getElem hlt, Array.getElem?_eq_getElem (by omega)]
          have e1 : x = es[i].2 := by
            rw [List.getElem?_map, List.getElem?_eq_getElem (by simpa using hlt)] at hx
            simp at hx; exact hx.symm
          have e2 : slotAt t (i + 1) = t.place[i]'(by omega) + 1 := by
            simp only [slotAt, Array.getD, show i < t.place.size by omega, dite_true]; rfl
          rw [e1, e2] at hq
          exact hq
        · refine setNext_slots ho₁ hd hf hb hdr hled ?_
          rw [below_slot hr (by omega)]
          rw [Array.getElem?_eq_none (Nat.le_refl _)]
          exact hq
      · simp only [List.mem_cons, List.not_mem_nil, or_false] at hb
        rcases hb with rfl | rfl
        · exact .inr (Nat.le_refl _)
        · exact .inl rfl
    | true =>
      rw [if_pos (show (!false && true) = true from rfl)]
      refine wpAny_bind ?_
      refine drawOrder_perm es.size (List.range es.size) _ _ (by simp) fun ys dr hys => ?_
      have hylen : ys.length = es.size := by simpa using hys.length_eq
      have hylt : ∀ y ∈ ys, y < es.size := fun y hy => by simpa using hys.mem_iff.mp hy
      refine wpAny_bind (wpAny_newTuple ?_ (by rw [List.length_map, hylen]; exact fits_of_scanBound (by omega)))
      have ho1 := Heap.get?_push_of_some (seqObj "tuple" (ys.map fun (i : Nat) => rawInt i).toArray 0) ho
      refine wpAny_bind (wpAny_setEpoch_of ho1 hd hf ?_)
      refine wpAny_bind ?_
      unfold newFields
      refine wpAny_newObj_type (wpAny_pure ⟨_, rfl, "set_iterator", _, ⟨_, Heap.get?_push_size _ rfl, rfl⟩, slot_setit_next.lookup, ?_⟩)
      have hsz1 : (s.heap.push (seqObj "tuple" (ys.map fun (i : Nat) => rawInt i).toArray 0)).objs.size = s.heap.objs.size + 1 := size_push' _ _
      have hT0 : (s.heap.push (seqObj "tuple" (ys.map fun (i : Nat) => rawInt i).toArray 0)).get? s.heap.objs.size = some (seqObj "tuple" (ys.map fun (i : Nat) => rawInt i).toArray 0) := Heap.get?_push_size _ rfl
      have hmap : (ys.map fun y => es.getD y (0, .none)).Perm es.toList := by
        refine (hys.map fun y => es.getD y (0, .none)).trans (List.Perm.of_eq ?_)
        refine List.ext_getElem (by simp) fun i h1 h2 => ?_
        have : i < es.size := by simpa using h1
        simp [Array.getD, this]
      show Q (.ref (s.heap.push (seqObj "tuple" (ys.map fun (i : Nat) => rawInt i).toArray 0)).objs.size) _
      rw [hsz1]
      refine h (s.heap.objs.size + 1) _ dr (ys.map fun y => (es.getD y (0, .none)).2) ((ys.map fun y => es.getD y (0, .none)).map valOf) ?_ ?_ ((hmap.map valOf).trans hp) (fun b o e => Heap.get?_push_of_some _ (Heap.get?_push_of_some _ e)) (Nat.le_succ _)
      · refine ⟨[s.heap.objs.size + 1, a, s.heap.objs.size], fun i h => SetIt h (s.heap.objs.size + 1) a es.size ep (.ref s.heap.objs.size) i ∧ h.get? a = some o ∧ h.get? s.heap.objs.size = some (seqObj "tuple" (ys.map fun (i : Nat) => rawInt i).toArray 0), fun A' hh => ?_, ⟨?_, Heap.get?_push_of_some _ ho1, Heap.get?_push_of_some _ hT0⟩, fun b hb => ?_⟩
        · rw [← hsz]
          exact walks_drawn hh (Nat.ne_of_gt (Nat.lt_succ_of_lt hal)) (Nat.succ_ne_self _) hd hf ys hylen hylt rfl
        · have z := made (s.heap.push (seqObj "tuple" (ys.map fun (i : Nat) => rawInt i).toArray 0)) es.size ep (.ref s.heap.objs.size)
          rw [hsz1] at z
          exact z
        · simp only [List.mem_cons, List.not_mem_nil, or_false] at hb
          rcases hb with rfl | rfl | rfl
          · exact .inr (Nat.le_succ _)
          · exact .inl rfl
          · exact .inr (Nat.le_refl _)
      · have z := ints_vals (l := ys.map fun y => es.getD y (0, .none)) fun e he => hi e (hmap.mem_iff.mp he)
        rw [List.map_map] at z
        exact z
end
end Mine
end

section
open PySem PySem.W PyProof.Rows PySem.Calls PySem.Spec
namespace Mine
set_option maxRecDepth 100000
set_option maxHeartbeats 8000000
set_option linter.unusedVariables false
section
variable {prog : Program} {w : World} {A : Around} {E : Value → Shared → Prop} {s : Shared} {a : Addr} {o : Obj} {ns : List Int}
theorem hint_set {r : Addr} {Q : Bool → Shared → Prop} (hT : s.TypeIs (.ref r) "set") (h : Q false s) : wpAny (model prog w) A (Builtin.List.listLengthHint (.ref r)) Q E s := by
  unfold Builtin.List.listLengthHint
  refine wpAny_bind (wpAny_specialOf hT PySem.F.slot_set_len.lookup ?_)
  generalize hid : ("set.__len__" : String) = id0
  wp_delta
  rw [show splitId id0 = some ("set", "__len__") from by subst hid; decide +kernel]
  subst hid
  refine wpAny_bind (wpAny_isInstance (T := "set") (b := true) hT (by rw [isSubtype_type]; kernel_rfl) ?_)
  refine wpAny_ite_split (fun hab => absurd hab (by decide)) (fun _ => ?_)
  refine wpAny_ite_split (fun _ => ?_) (fun hab => absurd (by decide +kernel) hab)
  refine wpAny_bind (wpAny_typeOf hT ?_)
  exact wpAny_pure h

theorem extend_SO {R : Result → Shared → Prop} (hh : A.handled = none) (ho : s.heap.get? a = some o) (hs : SO w o ns) (hbd : ns.length < scanBound) (S : Addr) (hSa : S ≠ a) (res : Value) (c₀ : Nat) (hS : s.heap.get? S = some { cls := .type "list", data := .seq #[] c₀ })
    (hR : ∀ h' tk dr vs ns' c', (∀ b o, b ≠ S → s.heap.get? b = some o → h'.get? b = some o) → h'.get? S = some { cls := .type "list", data := .seq vs.toArray c' } → IntsAre vs ns' → ns'.Perm ns → R (.ok (.ret res)) { s with heap := h', toks := tk, drawn := dr }) :
    wpAny (model prog w) A.in1 (Builtin.List.listExtendWith (.ref S) (.ref a) res)
      (fun fin s' => match fin with | .done f => R (.ok f) s' | .again c' => c'.quiet = true ∧ codeAny (model prog w) A c' R s') (fun e s' => R (.error e) s') s := by
  have hT := hs.typeIs ho
  unfold Builtin.List.listExtendWith
  refine wpAny_bind (wpAny_typeOf (T := "set") hT ?_)
  have h1 : Builtin.List.listSameRef (.ref S) (.ref a) = false := by simp [Builtin.List.listSameRef, hSa]
  have h2 : (Value.type "set" == Value.type "list") = false := by decide
  have h3 : (Value.type "set" == Value.type "tuple") = false := by decide
  simp only [h1, h2, h3, Bool.or_false, Bool.false_eq_true, if_false]
  refine wpAny_bind (iter_SO ho hs hbd fun I h' dr vs ns' W hI hp keep hIlo => ?_)
  have hSlt : S < s.heap.objs.size := Heap.lt_size hS
  have hSI : S ≠ I := Nat.ne_of_lt (Nat.lt_of_lt_of_le hSlt hIlo)
  obtain ⟨fp, St, W, st, hfp⟩ := W
  have hSf : S ∉ fp := fun q => by
    rcases hfp S q with q | q
    · exact hSa q
    · exact absurd hSlt (Nat.not_lt.mpr q)
  have hT' : Shared.TypeIs { s with heap := h', drawn := dr } (.ref a) "set" := ⟨o, keep _ _ ho, hs.1.1⟩
  refine wpAny_bind (wpAny_holding (hint_set hT' ?_))
  refine wpAny_ite_split (fun _ => ?_) (fun hc => absurd (by decide) hc)
  refine wpAny_bind (wpAny_rule ?_)
  refine wpAny_bind ?_
  show wpAny _ _ (updateSeq S (·.push .none) >>= fun _ => updateSeq S (·.pop)) _ _ _
  have hS1 := keep _ _ hS
  refine wpAny_bind (wpAny_updateSeq hS1 rfl ?_)
  have hS2 := Heap.get?_update_self (Obj.mapSeq (·.push Value.none)) hS1 rfl
  refine wpAny_updateSeq (hz := by seq_fits) hS2 rfl ?_
  have hS3 := Heap.get?_update_self (Obj.mapSeq (·.pop)) hS2 rfl
  have W1 := W A.in1 hh
  refine wpAny_pure ⟨plainId_quiet PySem.F.plain_extend_loop _, ?_⟩
  have hn : ns.length ≤ sizeLine := fits_of_scanBound hbd
  have stay : ∀ b o, b ≠ S → h'.get? b = some o → ((h'.update S (Obj.mapSeq (·.push Value.none))).update S (Obj.mapSeq (·.pop))).get? b = some o := fun b o hb e =>
    (Heap.get?_update_other _ _ (Ne.symm hb)).trans ((Heap.get?_update_other _ _ (Ne.symm hb)).trans e)
  refine codeAny_extend_loopS W1.toS hn S hSf res ns.length 0 _ #[] _ rfl (Nat.zero_le _) ?_ hS3 (ItemsOf.nil _) fun s' acc' c' hm hS' hacc => ?_
  · exact W1.frame 0 _ _ st fun b hb o e => stay b o (fun q => hSf (q ▸ hb)) e
  · rw [Moved.eq_with hm]
    have ev : acc' = vs.toArray := by
      have hl : vs.length = ns.length := by rw [hI.length, hp.length_eq]
      refine Array.ext (by rw [hacc.1]; simp [hl]) fun i h1 h2 => ?_
      have q := hacc.2 i acc'[i] (Array.getElem?_eq_getElem h1)
      have q2 : vs[i]? = some (vs.toArray[i]) := by
        have : i < vs.length := by simpa using h2
        rw [List.getElem?_eq_getElem this]; simp
      dsimp only at q
      rw [q2] at q; exact (Option.some.inj q).symm
    rw [ev] at hS'
    refine hR s'.heap s'.toks dr vs ns' c' (fun b o hb e => hm.heap b o (fun hmem => ?_) (stay b o hb (keep b o e))) hS' hI hp
    rcases List.mem_cons.mp hmem with e' | hmem
    · exact hb e'
    · exact absurd (Heap.lt_size e) (by rw [List.mem_singleton.mp hmem]; exact Nat.not_lt.mpr hIlo)

theorem collect_SO {Q : List Value → Shared → Prop} (hh : A.handled = none) (ho : s.heap.get? a = some o) (hs : SO w o ns) (hbd : ns.length < scanBound)
    (h : ∀ h' tk dr vs ns', (∀ b o, s.heap.get? b = some o → h'.get? b = some o) → IntsAre vs ns' → ns'.Perm ns → Q vs { s with heap := h', toks := tk, drawn := dr }) :
    wpAny (model prog w) A (collect (.ref a)) Q E s := by
  unfold collect
  have hal : a < s.heap.objs.size := Heap.lt_size ho
  refine wpAny_bind (wpAny_runValue (codeAny_builtin entry_proto_collect' ?_))
  show wpAny _ _ (do again (.builtin "list.__iadd__" ⟨[← newList [], .ref a], []⟩)) _ _ s
  refine wpAny_bind (wpAny_newList (wpAny_pure ⟨Code.quiet_builtin _ (by decide +kernel), codeAny_builtin entry_list_iadd' ?_⟩))
  have ho1 := Heap.get?_push_of_some { cls := .type "list", data := .seq #[] 0 } ho
  have hS := Heap.get?_push_size s.heap (o := { cls := .type "list", data := .seq #[] 0 }) rfl
  show wpAny _ _ (Builtin.List.listExtendWith (.ref s.heap.objs.size) (.ref a) (.ref s.heap.objs.size)) _ _ { s with heap := s.heap.push { cls := .type "list", data := .seq #[] 0 } }
  rw [Around.under_plainId (show plainId "list.__iadd__" = true by decide +kernel) _]
  refine extend_SO (R := fun r s' => match r with
      | .ok (.ret v) => wpAny (model prog w) A (match v with
            | .ref a => do
              let o ← load a
              match o.data with
                | .seq xs _ => pure xs.toList
                | _ => unsupported "internal:collect"
            | _ => unsupported "internal:collect") Q E s'
      | .ok _ => False
      | .error e => E e s') (s := { s with heap := s.heap.push { cls := .type "list", data := .seq #[] 0 } }) hh ho1 hs hbd s.heap.objs.size (Nat.ne_of_gt hal) _ 0 hS ?_
  intro h' tk dr vs ns' c' keep hS' hI hp
  show wpAny (model prog w) A (load s.heap.objs.size >>= _) Q E _
  refine wpAny_bind (wpAny_load hS' ?_)
  dsimp only
  exact wpAny_pure (h h' tk dr vs ns' (fun b o e => keep b o (Nat.ne_of_lt (Heap.lt_size e)) (Heap.get?_push_of_some _ e)) hI hp)
theorem sorted_SO {Q : Value → Shared → Prop} (hh : A.handled = none) (ho : s.heap.get? a = some o) (hs : SO w o ns) (hbd : ns.length < 64)
    (h : ∀ D h' tk dr vs ns' c, (∀ b o, s.heap.get? b = some o → h'.get? b = some o) → s.heap.get? D = none → h'.get? D = some (listOf vs.toArray c) → IntsAre vs ns' → ns'.Perm ns → ns'.Pairwise (· ≤ ·) → Q (.ref D) { s with heap := h', toks := tk, drawn := dr }) :
    wpAny (model prog w) A (call (.builtin "sorted") [.ref a]) Q E s := by
  refine Calls.call_function_entry kind_sorted plain_sorted entry_sorted (args_sorted1 _) ?_
  unfold Builtin.«sorted»
  refine wpAny_bind (m := checkCount "sorted" 1 1 _) (wpAny_pure ?_)
  have hb2 : ns.length < scanBound := Nat.lt_trans hbd (by unfold scanBound; decide)
  refine wpAny_bind (collect_SO hh ho hs hb2 fun h' tk dr vs ns' keep hI hp => ?_)
  have hl : vs.length = ns.length := by rw [hI.length, hp.length_eq]
  refine wpAny_bind (wpAny_newList ?_ (by rw [hl]; exact fits_of_scanBound hb2))
  have hoL : (h'.push (seqObj "list" vs.toArray 0)).get? h'.objs.size = some (seqObj "list" vs.toArray 0) := Heap.get?_push_size _ rfl
  show wpAny _ _ _ _ _ { s with heap := h'.push (seqObj "list" vs.toArray 0), toks := tk, drawn := dr }
  refine wpAny_bind (wpAny_holding (wpAny_call_entry slot_list_sort ⟨_, hoL, rfl⟩ entry_list_sort (list_sort_tree hoL hI (by omega) fun out ns2 a1 a2 a3 => ⟨_, rfl, ?_⟩) (args_list_sort _)))
  refine wpAny_pure ⟨_, rfl, ?_⟩
  obtain ⟨e, he⟩ : ∃ e, (sortedHeap (h'.push (seqObj "list" vs.toArray 0)) h'.objs.size vs out).get? h'.objs.size = some (seqObj "list" out e) := sortedHeap_at hoL
  have hn : s.heap.get? h'.objs.size = none := by
    cases q : s.heap.get? h'.objs.size with
    | none => rfl
    | some o' => exact absurd (Heap.lt_size (keep _ _ q)) (Nat.lt_irrefl _)
  refine h h'.objs.size _ tk dr out.toList ns2 e (fun b o q => ?_) hn (by simpa using he) a1 (a2.trans hp) a3
  have q1 := keep _ _ q
  have q2 := Heap.lt_size q1
  rw [sortedHeap_old (Nat.ne_of_lt q2) (by rw [size_push']; exact Nat.lt_succ_of_lt q2)]
  exact Heap.get?_push_of_some _ q1
end
end Mine
end

section
namespace Mine
/-- the widths that the halving comes to -/
inductive Rch (x lim : Int) : Int → Prop
  | top : lim < x → Rch x lim x
  | half {v : Int} : Rch x lim v → lim < v / 2 → Rch x lim (v / 2)
  | more {v : Int} : Rch x lim v → v % 2 = 1 → lim < v / 2 + 1 → Rch x lim (v / 2 + 1)
theorem Rch.lo {x lim v : Int} (h : Rch x lim v) : lim < v := by cases h <;> assumption
theorem Rch.hi {x lim v : Int} (h : Rch x lim v) (hl : 1 ≤ lim) : v ≤ x := by
  induction h with
  | top => exact Int.le_refl _
  | half r _ ih => have := r.lo; omega
  | more r _ h2 ih => have := r.lo; omega
structure PwF (x lim : Int) (W S D : List Int) : Prop where
  s_r : ∀ v ∈ S, Rch x lim v
  w_r : ∀ v ∈ W, lim < v → Rch x lim v
  top : lim < x → x ∈ S ∨ x ∈ W
  half : ∀ v ∈ S, lim < v / 2 → v / 2 ∈ S ∨ v / 2 ∈ W
  more : ∀ v ∈ S, v % 2 = 1 → lim < v / 2 + 1 → v / 2 + 1 ∈ S ∨ v / 2 + 1 ∈ W
  d : ∀ k, k ∈ D ↔ ∃ v ∈ S, v / 2 = k
  ndS : S.Nodup
  ndD : D.Nodup
theorem PwF.start (x lim : Int) : PwF x lim [x] [] [] :=
  ⟨by simp, fun v hv h => by rw [List.mem_singleton] at hv; subst hv; exact .top h, fun _ => .inr (by simp), by simp, by simp, by simp, List.nodup_nil, List.nodup_nil⟩
theorem PwF.skip {x lim v : Int} {W W' S D : List Int} (h : PwF x lim W S D) (hp : W.Perm (v :: W')) (hv : v ∈ S ∨ v ≤ lim) : PwF x lim W' S D := by
  have tr : ∀ k, lim < k → k ∈ S ∨ k ∈ W → k ∈ S ∨ k ∈ W' := fun k hk q => by
    rcases q with q | q
    · exact .inl q
    · rcases List.mem_cons.mp (hp.mem_iff.mp q) with rfl | q
      · rcases hv with hv | hv
        · exact .inl hv
        · omega
      · exact .inr q
  exact ⟨h.s_r, fun k hk => h.w_r k (hp.mem_iff.mpr (List.mem_cons_of_mem _ hk)), fun q => tr _ q (h.top q), fun k hk q => tr _ q (h.half k hk q), fun k hk a q => tr _ q (h.more k hk a q), h.d, h.ndS, h.ndD⟩
theorem PwF.add {x lim v : Int} {W W' W2 S D D2 : List Int} (h : PwF x lim W S D) (hp : W.Perm (v :: W')) (hv : v ∉ S) (hl : lim < v)
    (hW : ∀ k, k ∈ W2 ↔ k ∈ W' ∨ k = v / 2 ∨ (v % 2 = 1 ∧ k = v / 2 + 1)) (hD : ∀ k, k ∈ D2 ↔ k = v / 2 ∨ k ∈ D) (ndD : D2.Nodup) : PwF x lim W2 (v :: S) D2 := by
  have rv : Rch x lim v := h.w_r v (hp.mem_iff.mpr (.head _)) hl
  have tr : ∀ k, k ∈ S ∨ k ∈ W → k ∈ v :: S ∨ k ∈ W2 := fun k q => by
    rcases q with q | q
    · exact .inl (.tail _ q)
    · rcases List.mem_cons.mp (hp.mem_iff.mp q) with rfl | q
      · exact .inl (.head _)
      · exact .inr ((hW k).mpr (.inl q))
  refine ⟨fun k hk => ?_, fun k hk q => ?_, fun q => tr _ (h.top q), fun k hk q => ?_, fun k hk a q => ?_, fun k => ?_, List.nodup_cons.mpr ⟨hv, h.ndS⟩, ndD⟩
  · rcases List.mem_cons.mp hk with rfl | hk
    · exact rv
    · exact h.s_r k hk
  · rcases (hW k).mp hk with hk | rfl | ⟨a, rfl⟩
    · exact h.w_r k (hp.mem_iff.mpr (List.mem_cons_of_mem _ hk)) q
    · exact .half rv q
    · exact .more rv a q
  · rcases List.mem_cons.mp hk with rfl | hk
    · exact .inr ((hW _).mpr (.inr (.inl rfl)))
    · exact tr _ (h.half k hk q)
  · rcases List.mem_cons.mp hk with rfl | hk
    · exact .inr ((hW _).mpr (.inr (.inr ⟨a, rfl⟩)))
    · exact tr _ (h.more k hk a q)
  · rw [hD, h.d]
    constructor
    · rintro (rfl | ⟨u, hu, rfl⟩)
      · exact ⟨v, .head _, rfl⟩
      · exact ⟨u, .tail _ hu, rfl⟩
    · rintro ⟨u, hu, rfl⟩
      rcases List.mem_cons.mp hu with rfl | hu
      · exact .inl rfl
      · exact .inr ⟨u, hu, rfl⟩
theorem PwF.done {x lim : Int} {S D : List Int} (h : PwF x lim [] S D) (k : Int) : k ∈ D ↔ ∃ v, Rch x lim v ∧ v / 2 = k := by
  have all : ∀ v, Rch x lim v → v ∈ S := fun v r => by
    induction r with
    | top q => exact (h.top q).resolve_right (by simp)
    | half r q ih => exact (h.half _ ih q).resolve_right (by simp)
    | more r a q ih => exact (h.more _ ih a q).resolve_right (by simp)
  rw [h.d]
  exact ⟨fun ⟨v, hv, e⟩ => ⟨v, h.s_r v hv, e⟩, fun ⟨v, hv, e⟩ => ⟨v, all v hv, e⟩⟩
theorem nodup_bound : ∀ (n : Nat) (l : List Int), l.Nodup → (∀ v ∈ l, 1 ≤ v ∧ v ≤ (n : Int)) → l.length ≤ n := by
  intro n
  induction n with
  | zero =>
    intro l _ h
    cases l with
    | nil => exact Nat.le_refl _
    | cons a l => have := h a (.head _); omega
  | succ n ih =>
    intro l nd h
    have h1 := ih (l.filter fun v => decide (v ≠ (n : Int) + 1)) (nd.filter _) (fun v hv => by
      rw [List.mem_filter] at hv
      have := h v hv.1
      have h2 : v ≠ (n : Int) + 1 := by simpa using hv.2
      omega)
    by_cases hm : (n : Int) + 1 ∈ l
    · have hp := List.perm_cons_erase hm
      have nd2 := hp.nodup_iff.mp nd
      rw [List.nodup_cons] at nd2
      have hl := hp.length_eq
      rw [List.length_cons] at hl
      have h3 : (l.filter fun v => decide (v ≠ (n : Int) + 1)).length = (l.erase ((n : Int) + 1)).length := by
        rw [(hp.filter _).length_eq, List.filter_cons_of_neg (by simp)]
        congr 1
        rw [List.filter_eq_self]
        intro a ha
        have : a ≠ (n : Int) + 1 := fun q => nd2.1 (q ▸ ha)
        simpa using this
      omega
    · have h3 : (l.filter fun v => decide (v ≠ (n : Int) + 1)) = l := by
        rw [List.filter_eq_self]
        intro a ha
        have : a ≠ (n : Int) + 1 := fun q => hm (q ▸ ha)
        simpa using this
      rw [h3] at h1
      omega
theorem ins_mem {k : Int} {l : List Int} (j : Int) : j ∈ (if k ∈ l then l else k :: l) ↔ j = k ∨ j ∈ l := by
  split
  · rename_i h
    exact ⟨.inr, fun q => q.elim (fun e => e ▸ h) id⟩
  · exact List.mem_cons
theorem ins_nodup {k : Int} {l : List Int} (h : l.Nodup) : (if k ∈ l then l else k :: l).Nodup := by
  split
  · exact h
  · rename_i q; exact List.nodup_cons.mpr ⟨q, h⟩
theorem ins_len {k : Int} {l : List Int} : (if k ∈ l then l else k :: l).length ≤ l.length + 1 := by
  split
  · omega
  · simp
end Mine
end

section
open PySem
namespace Mine
/-- what a dict of powers holds, in its order -/
def PowKv (b : Int) (ks : List Int) (kvs : List (Int × Value)) : Prop := kvs.map (·.1) = ks ∧ ∀ p ∈ kvs, ∃ t, p.2 = .int (b ^ p.1.toNat) t
theorem PowKv.nil (b : Int) : PowKv b [] [] := ⟨rfl, by simp⟩
theorem PowKv.get {b k : Int} {ks : List Int} {kvs : List (Int × Value)} (h : PowKv b ks kvs) (hk : k ∈ ks) : ∃ t, valueAt kvs k = some (.int (b ^ k.toNat) t) := by
  obtain ⟨e, a⟩ := h
  subst e
  obtain ⟨p, hp, rfl⟩ := List.mem_map.mp hk
  unfold valueAt
  cases hf : kvs.find? fun kv => kv.1 = p.1 with
  | none =>
    have := List.find?_eq_none.mp hf p hp
    simp at this
  | some q =>
    have h1 := List.mem_of_find?_eq_some hf
    have h2 := List.find?_some hf
    obtain ⟨t, ht⟩ := a q h1
    have h3 : q.1 = p.1 := by simpa using h2
    exact ⟨t, by simp [ht, h3]⟩
theorem PowKv.none {b k : Int} {ks : List Int} {kvs : List (Int × Value)} (h : PowKv b ks kvs) (hk : k ∉ ks) : valueAt kvs k = none := by
  obtain ⟨e, a⟩ := h
  subst e
  unfold valueAt
  rw [List.find?_eq_none.mpr]
  · rfl
  · intro p hp q
    have q : p.1 = k := by simpa using q
    exact hk (List.mem_map.mpr ⟨p, hp, q⟩)
theorem PowKv.store {b k : Int} {t : Tok} {ks : List Int} {kvs : List (Int × Value)} (h : PowKv b ks kvs) (hk : k ∉ ks) : PowKv b (ks ++ [k]) (stored kvs k (.int (b ^ k.toNat) t)) := by
  obtain ⟨e, a⟩ := h
  subst e
  have hn : (kvs.any fun kv => decide (kv.1 = k)) = false := by
    rw [List.any_eq_false]
    intro p hp q
    have q : p.1 = k := by simpa using q
    exact hk (List.mem_map.mpr ⟨p, hp, q⟩)
  unfold stored
  rw [hn, if_neg Bool.false_ne_true]
  refine ⟨by simp, fun p hp => ?_⟩
  rcases List.mem_append.mp hp with hp | hp
  · exact a p hp
  · rw [List.mem_singleton] at hp; subst hp; exact ⟨t, rfl⟩
/-- does each power have one that it is made from? -/
def okH : List Int → List Int → Bool
  | _, [] => true
  | d, k :: r => (decide (k - 1 ∈ d) || decide (k / 2 ∈ d)) && okH (d ++ [k]) r
theorem pow_next {b k : Int} (hk : 1 ≤ k) : b ^ (k - 1).toNat * b = b ^ k.toNat := by
  rw [← Int.pow_succ]; congr 1; omega
theorem pow_even {b k : Int} (hk : 1 ≤ k) (h : k - k / 2 = k / 2) : b ^ (k / 2).toNat * b ^ (k / 2).toNat = b ^ k.toNat := by
  rw [← Int.pow_add]; congr 1; omega
theorem pow_odd {b k : Int} (hk : 1 ≤ k) (h : ¬ k - k / 2 = k / 2) : b ^ (k / 2).toNat * b ^ (k / 2).toNat * b = b ^ k.toNat := by
  rw [← Int.pow_add, ← Int.pow_succ]; congr 1; omega
theorem strict_of {l : List Int} (h : l.Pairwise (· ≤ ·)) (nd : l.Nodup) : l.Pairwise (· < ·) :=
  (h.and nd).imp fun {a b} h => by have := h.1; have h2 : a ≠ b := h.2; omega
theorem pow_bits' {b : Int} (h0 : -60 ≤ b) (h1 : b ≤ 60) {j : Nat} (hj : j ≤ 60) : PySem.Builtin.Int.intBits (b ^ j) ≤ 400 := by
  rw [PySem.intBits_le_iff]
  rw [Int.natAbs_pow]
  have h2 : b.natAbs ^ j ≤ 2 ^ (6 * j) := by
    rw [Nat.pow_mul]
    exact Nat.pow_le_pow_left (by omega) j
  have h3 : (2 : Nat) ^ (6 * j) < 2 ^ 400 := Nat.pow_lt_pow_right (by decide) (by omega)
  exact Nat.lt_of_le_of_lt h2 h3
end Mine
end

section
open PySem PySem.W PyProof.Rows PySem.Calls PySem.Spec
namespace Mine
set_option maxRecDepth 100000
set_option maxHeartbeats 8000000
set_option linter.unusedVariables false
set_option pp.deepTerms false
set_option pp.deepTerms.threshold 4
theorem fillKq1 : (fun P => hd.heap_39 P) = hd.heap_39 ∧ PySem.Challenge.rw_wv0074_01 = PySem.Challenge.rw_wv0074_01 := by
  k_fill
  w_top off
  exact ⟨rfl, rfl⟩
section
variable {prog : Program} {w : World} {p : Program} {loose : List Str} {mean : ExcName → Option Value} {mg mb : Str → Option Value} 
 {dp un : Nat} {gd : Option (List Code)} {nm : Str} {cs : Scope} {a : Addr} {ccd : Value} {cl : List (Str × Addr)} {outer : List Env} {A₀ : Around} {base h₀ : Heap} {L : Addr} {m : Str → Option Value} {s : Shared}
    {Q E : Value → Shared → Prop}
local macro_rules | `(tactic| walk_at "call type:set nil nil") => `(tactic| (k_here; refine Halt.out ?_))
local macro_rules | `(tactic| walk_at "eval Set") => `(tactic| (k_here; refine Halt.out ?_))
local macro_rules | `(tactic| walk_at "setAdd int") => `(tactic| (k_here; refine Halt.out ?_))
theorem kso_truthy_nil {A : Around} {sa : Addr} {so : Obj} {news : List (Addr × Obj)} {Q : Bool → Shared → Prop} (N : News h₀ L s.heap news) (hm : (sa, so) ∈ news) (hso : SO w so []) (h : Q false { s with toks := s.toks + 1 + 1 }) :
    wpAny (model prog w) A (truthy (.ref sa)) Q E s := kso_truthy N hm hso (by unfold scanBound; decide) h
theorem kso_truthy_cons {A : Around} {sa : Addr} {so : Obj} {news : List (Addr × Obj)} {Q : Bool → Shared → Prop} {k : Int} {l : List Int} (N : News h₀ L s.heap news) (hm : (sa, so) ∈ news) (hso : SO w so (k :: l)) (hb : (k :: l).length < scanBound) (h : Q true { s with toks := s.toks + 1 + 1 }) :
    wpAny (model prog w) A (truthy (.ref sa)) Q E s := kso_truthy N hm hso hb h
local macro_rules | `(tactic| walk_at "truthy ref") => `(tactic| (k_here; k_dflt (first | (refine' kso_truthy_nil ?N ?m ?d ?_; (case N => k_asm); (case m => k_mem); (case d => assumption)) | (refine' kso_truthy_cons ?N ?m ?d ?z ?_; (case N => k_asm); (case m => k_mem); (case d => assumption); (case z => assumption)))))
local macro_rules | `(tactic| walk_at "getMethod ref") => `(tactic| (k_here; (with_reducible show wpAny _ _ (getMethod (Value.ref _) (Str.ofString "pop") _) _ _ _); k_dflt (refine' kso_method PySem.F.slot_set_pop PySem.F.type_set_pop ?N ?m ?d ?_; (case N => k_asm); (case m => k_mem); (case d => k_asm))))
local macro_rules | `(tactic| walk_at "getMethod ref") => `(tactic| (k_here; (with_reducible show wpAny _ _ (getMethod (Value.ref _) (Str.ofString "add") _) _ _ _); k_dflt (refine' kso_method PySem.F.slot_set_add PySem.F.type_set_add ?N ?m ?d ?_; (case N => k_asm); (case m => k_mem); (case d => k_asm))))
local macro_rules | `(tactic| walk_at "call builtin:set.pop") => `(tactic| (k_here; refine Halt.out ?_))
local macro_rules | `(tactic| walk_at "call builtin:set.add") => `(tactic| (k_here; k_dflt (refine' kso_add ?F ?N ?U ?d ?z ?_; (case F => k_asm); (case N => k_asm); (case U => k_updF); (case d => k_asm); (case z => (first | assumption | apply_assumption))); intro h' o' F' N' hs'; (try dsimp only at N')))
local macro_rules | `(tactic| walk_at "compareOp In int ref") => `(tactic| (k_here; k_dflt (refine' kso_in ?N ?U ?d ?z ?_; (case N => k_asm); (case U => k_updF); (case d => k_asm); (case z => (first | assumption | (unfold scanBound; omega))))))
theorem kli_iter {A : Around} {l : Addr} {items : Array Value} {news : List (Addr × Obj)} {Q : Value → Shared → Prop} (F : Fr h₀ L s.heap m) (N : News h₀ L s.heap news) (hl : s.heap.IsList l items)
    (h : ∀ I h' oI, IterIs "list_iterator" l 0 oI → Fr h₀ L h' m → News h₀ L h' ((I, oI) :: news) → (∀ p ∈ news, p.1 < I) → (l < I) → Q (.ref I) { s with heap := h' }) :
    wpAny (model prog w) A (call (.builtin "iter") [.ref l]) Q E s := by
  refine call_function_entry (by decide +kernel) (by decide +kernel) kdk_entry_iter (kdk_args_iter _) ?_
  unfold Builtin.«iter»
  refine wpAny_bind (m := someArgs "iter" 1 2 _) (wpAny_of_eq (a := [Value.ref l]) (by first | rfl | kernel_rfl!) ?_)
  show wpAny _ _ (pyIter (.ref l) >>= _) _ _ _
  refine wpAny_bind (pyIter_list_N F N hl fun I h' oI a b c d e => ?_)
  exact wpAny_pure ⟨_, rfl, h I h' oI a b c d e⟩
theorem kli_next {A : Around} {l it : Addr} {items : Array Value} {i : Nat} {v : Value} {io : Obj} {news : List (Addr × Obj)} {g : Obj → List (Addr × Obj)} {Q : Value → Shared → Prop} (F : Fr h₀ L s.heap m) (N : News h₀ L s.heap news) (U : UpdF it io news g) (hi : IterIs "list_iterator" l i io) (hl : s.heap.IsList l items) (hx : items[i]? = some v)
    (h : ∀ h' o', Fr h₀ L h' m → News h₀ L h' (g o') → IterIs "list_iterator" l ((i + 1 : Nat) : Int) o' → Q v { s with heap := h' }) :
    wpAny (model prog w) A (call (.builtin "next") [.ref it]) Q E s := by
  obtain ⟨pre, post, hl', hg, a, b⟩ := U.split
  have hmem : (it, io) ∈ news := by rw [hl']; exact List.mem_append_right _ (.head _)
  have hm := N (it, io) hmem
  have hit : s.heap.IsListIter it l i := ⟨io, hm.1, hi.1, hi.2⟩
  refine call_function_entry (by decide +kernel) (by decide +kernel) kdk_entry_next (kdk_args_next _) ?_
  unfold Builtin.«next»
  refine wpAny_bind (m := someArgs "next" 1 2 _) (wpAny_of_eq (a := [Value.ref it]) (by first | rfl | kernel_rfl!) ?_)
  try dsimp only
  refine wpAny_bind (wpAny_specialOf (name := Str.ofString "__next__") hit.typeIs slot_listiter_next.lookup ?_)
  refine wpAny_ite_split (fun hab => absurd hab (by decide)) (fun _ => ?_)
  obtain ⟨o, ho, hc, hd⟩ := id hit
  obtain ⟨ol, hol, _, nl, hdl⟩ := hl
  refine wpAny_bind (wpAny_callSpecial?_slot (name := Str.ofString "__next__") hit.typeIs slot_listiter_next
    (wpAny_call_entry slot_listiter_next hit.typeIs entry_listiter_next ?_ (args_listiter_next _)))
  show wpAny _ _ (field (.ref it) 0 >>= _) _ _ s
  refine wpAny_bind (wpAny_field ho hd (x := .ref l) rfl ?_)
  show wpAny _ _ (if (Value.ref l == Value.none) = true then _ else _) _ _ s
  rw [if_neg (show ¬ ((Value.ref l == Value.none) = true) from Bool.false_ne_true)]
  show wpAny _ _ (field (.ref it) 1 >>= _) _ _ s
  refine wpAny_bind (wpAny_field ho hd (x := .int i 0) rfl ?_)
  show wpAny _ _ (seqItems? (.ref l) >>= _) _ _ s
  refine wpAny_bind (wpAny_seqItems hol hdl ?_)
  simp only [Int.toNat_natCast, hx]
  refine wpAny_bind (wpAny_setField ho hd (by simp) (wpAny_pure ⟨v, rfl, ?_⟩))
  have hs : Heap.SameBut it s.heap (s.heap.update it (Obj.mapFields (·.setIfInBounds 1 (rawInt ((i : Int) + 1))))) := Heap.SameBut.update ..
  have ho' := Heap.get?_update_self (Obj.mapFields (·.setIfInBounds 1 (rawInt ((i : Int) + 1)))) ho (Obj.isFreed_of_fields (Obj.data_mapFields hd _))
  have hc' := (Obj.cls_mapFields o (·.setIfInBounds 1 (rawInt ((i : Int) + 1)))).trans hc
  have hd' : (Obj.mapFields (·.setIfInBounds 1 (rawInt ((i : Int) + 1))) o).data = .fields #[.ref l, rawInt ((i + 1 : Nat) : Int)] := by
    rw [Obj.data_mapFields hd]; simp [rawInt]
  have z := (show News h₀ L s.heap (pre ++ (it, io) :: post) from hl' ▸ N).setIn a b hs ho'
  rw [← hg] at z
  exact wpAny_pure ⟨_, rfl, h _ _ (F.change hs hm.2.1 hm.2.2) z ⟨hc', hd'⟩⟩
theorem kli_next0 {A : Around} {l it : Addr} {vs : List Value} {v : Value} {io : Obj} {news : List (Addr × Obj)} {g : Obj → List (Addr × Obj)} {Q : Value → Shared → Prop} (F : Fr h₀ L s.heap m) (N : News h₀ L s.heap news) (U : UpdF it io news g) (hi : IterIs "list_iterator" l 0 io) (hl : s.heap.IsList l (v :: vs).toArray)
    (h : ∀ h' o', Fr h₀ L h' m → News h₀ L h' (g o') → IterIs "list_iterator" l 1 o' → Q v { s with heap := h' }) :
    wpAny (model prog w) A (call (.builtin "next") [.ref it]) Q E s := kli_next (i := 0) F N U hi hl rfl h
local macro_rules | `(tactic| walk_at "call builtin:iter") => `(tactic| (k_here; refine Halt.out ?_))
local macro_rules | `(tactic| walk_at "call builtin:next") => `(tactic| (k_here; refine Halt.out ?_))
local macro_rules | `(tactic| walk_at "call builtin:sorted") => `(tactic| (k_here; refine Halt.out ?_))
local macro_rules | `(tactic| walk_at "exec For Name Name cons nil") => `(tactic| (k_here; refine Halt.out ?_))
theorem kd_in {A : Around} {d : Addr} {o : Obj} {kvs : List (Int × Value)} {k : Int} {tk : Tok} {news : List (Addr × Obj)} {Q : Value → Shared → Prop} {bb : Bool} (hb : (valueAt kvs k).isSome = bb) (N : News h₀ L s.heap news) (hp : (d, o) ∈ news) (hd : o.IsDictOf (intKind prog w) kvs) (lo : (d == sysModules) = false) (h : Q (.bool bb) { s with toks := s.toks + 1 }) :
    wpAny (model prog w) A (compareOp .In (.int k tk) (.ref d)) Q E s := kda_in N hp hd lo (intKind_is _ _ _ _) bb hb h
theorem kd_item {A : Around} {d : Addr} {o : Obj} {kvs : List (Int × Value)} {k : Int} {v : Value} {tk : Tok} {news : List (Addr × Obj)} {value slice : PySem.Expr} {Q : Value → Shared → Prop} (hl : valueAt kvs k = some v) (N : News h₀ L s.heap news) (hp : (d, o) ∈ news) (hd : o.IsDictOf (intKind prog w) kvs) (h : Q v { s with toks := s.toks + 1 })
    (hs : subscripted slice false (.ref d) (.int k tk) = operate [.ref d, .int k tk] (getItem (.ref d) (.int k tk)) := by with_unfolding_all rfl) (hg : ∀ r, letTemporaryGo value (.ref d) r = pure () := by intro _; with_unfolding_all rfl) :
    wpAny (model prog w) A (subscriptTail value slice (.ref d) (.int k tk)) Q E s := kda_item N hp hd (intKind_is _ _ _ _) hl h hs hg
local macro_rules | `(tactic| walk_at "compareOp In int ref") => `(tactic| (k_here; kda_here; k_dflt (refine' kd_in ?b ?N ?p ?d ?lo ?_; (case b => assumption); (case N => k_asm); (case p => k_mem); (case d => k_asm); (case lo => assumption))))
local macro_rules | `(tactic| walk_at "subscriptTail") => `(tactic| (k_here; kda_here; k_dflt (refine' kd_item ?l ?N ?p ?d ?_ ?s ?g; (case l => assumption); (case N => k_asm); (case p => k_mem); (case d => k_asm); (case s => with_unfolding_all rfl); (case g => (intro _; with_unfolding_all rfl)))))
local macro_rules | `(tactic| walk_at "setItem ref int") => `(tactic| (k_here; kda_here; k_dflt (refine' kda_set (knd := PySem.intKind _ _) ?F ?N ?U ?d (intKind_is _ _ _ _) ?z ?_; (case F => k_asm); (case N => k_asm); (case U => k_updF); (case d => k_asm); (case z => first | assumption | (rw [sizeLine_eq]; exact Nat.le_of_ble_eq_true (by with_unfolding_all rfl)))); intro h' o' F' N' hd'; (try dsimp only at N')))
theorem raisedS_less {base G : Heap} {l : List Env} {e t : Addr} {cls : Value} {vs : List Value} {news : List (Addr × Obj)} {h : Heap} (R : RaisedS base G l e cls t vs news h) : RaisedS base G l e cls t vs [] h := by
  obtain ⟨⟨B, hB, x, hl, hfl, hn⟩, ht⟩ := R
  exact ⟨⟨B, hB, x, fun q hq => (nomatch hq), hfl, hn⟩, ht⟩
theorem assert_made {M : Model} {A : Around} {E : Value → Shared → Prop} {s : Shared} {env : Env} {test : PySem.Expr} {pos : Pos} {Q : Flow → Shared → Prop} (hh : A.handled = none)
    (h : wpAny M A (isTrue test env (eval test env)) (fun b s₁ => if b then Q .next s₁ else Halt (∀ h' e, Heap.MadeExcOf s₁.heap h' e (.type "AssertionError") [] → E (.ref e) { s₁ with heap := h' })) E s) :
    wpAny M A (exec (.Assert test none pos) env) Q E s :=
  wpAny_Assert hh (wpAny_mono h (fun b s₁ h₁ => by
    cases b with
    | true => exact h₁
    | false => exact fun h' e hm => h₁ h' e hm.of) fun _ _ x => x)
local macro_rules | `(tactic| walk_at "exec Assert") => `(tactic| (k_here; refine assert_made rfl ?_))
local macro_rules | `(tactic| walk_at "binaryOp Mult int int") => `(tactic| (k_here; refine mul_int ?_ (by assumption)))
local macro_rules | `(tactic| walk_at "exec While") => `(tactic| (k_here; refine Halt.out ?_))
theorem while_inv {prog : Program} {w : World} {A : Around} {E : Value → Shared → Prop} {s : Shared} {env : Env} {Q : Flow → Shared → Prop} {test : PySem.Expr} {body : List Stmt} (I : Nat → Shared → Prop) (hE : PassesOwn (model prog w) A env E)
    (turn : ∀ n s, I n s → wpAny (model prog w) A (isTrue test env (eval test env)) (fun b s₂ => if b then wpAny (model prog w) A (execs body env) (fun f s₃ => match f with
          | .next | .cont => Halt (∃ m, m < n ∧ I m s₃)
          | .brk => Q .next s₃
          | .ret v => Q (.ret v) s₃) E s₂ else Q .next s₂) E s)
    (n : Nat) (h : I n s) :
    codeAny (model prog w) A (.whileLoop test body [] env) (fun r s' => match r with | .ok f => Q f s' | .error e => cameBackBy (model prog w) A env E e s') s := by
  refine codeAny_whileLoop I (fun n s hI => ?_) n h
  refine wpAny_mono (wpAny_passesOwn hE (turn n s hI)) (fun b s₂ h₂ => ?_) fun _ _ x => x
  cases b with
  | false => exact wpAny_execs_nil h₂
  | true =>
    refine wpAny_mono (wpAny_passesOwn hE h₂) (fun f s₃ h₃ => ?_) fun _ _ x => x
    cases f <;> exact h₃
theorem pow_dec {n s W m w : Nat} (hn : n = 3 * (60 - s) + W) (hln : m + 1 = W) (hl : s + 1 ≤ 60) (hw : w ≤ m + 2) : 3 * (60 - (s + 1)) + w < n := by omega
theorem pow_dec2 {n s W m w : Nat} (hn : n = 3 * (60 - s) + W) (hn1 : n ≤ 181) (hln : m + 1 = W) (hl : s + 1 ≤ 60) (hw : w ≤ m + 2) : 3 * (60 - (s + 1)) + w ≤ 181 := Nat.le_trans (Nat.le_of_lt (pow_dec hn hln hl hw)) hn1
theorem ins_len2 {k j : Int} {l : List Int} : (if j ∈ (if k ∈ l then l else k :: l) then (if k ∈ l then l else k :: l) else j :: (if k ∈ l then l else k :: l)).length ≤ l.length + 2 := Nat.le_trans ins_len (Nat.succ_le_succ ins_len)
/-- where the halving of the widths stands -/
inductive PowInv (w : World) (g : Heap) (L x lim : Int) (aS aD aW : Addr) (m₀ : Str → Option Value) (s₀ : Shared) (L' : Addr) (n : Nat) (s : Shared) : Prop
  | mk (h tk dr oS oD oW S D W xv tv lv : _) (_ : s = { s₀ with heap := h, toks := tk, drawn := dr }) (_ : n = 3 * (60 - S.length) + W.length) (_ : n ≤ 181) (_ : S.length ≤ 60) (_ : Fr g L' h (fun y => if y = Str.ofString "w" then some (.int xv tv) else if y = Str.ofString "lo" then lv else m₀ y)) (_ : News g L' h [(aW, oW), (aD, oD), (aS, oS)]) (_ : SO w oS S) (_ : SO w oD D) (_ : SO w oW W) (_ : PwF x lim W S D)
/-- the names of what stands ahead in a ledger -/
theorem with_led {g h : Heap} {L I DL d : Addr} {oI oL od : Obj} {rest : List (Addr × Obj)} (N : News g L h ((I, oI) :: (DL, oL) :: (d, od) :: rest)) {P : Prop}
    (k : ∀ I' oI' d' od', I' = I → oI' = oI → d' = d → od' = od → P) : P := k I oI d od rfl rfl rfl rfl
theorem with_three {g h : Heap} {L a b c : Addr} {oa ob oc : Obj} {r : List (Addr × Obj)} (N : News g L h ((c, oc) :: (b, ob) :: (a, oa) :: r)) {P : Prop} (k : ∀ a' b' c', a' = a → b' = b → c' = c → P) : P := k _ _ _ rfl rfl rfl
/-- where the making of the powers stands -/
inductive DInv (prog : Program) (w : World) (g : Heap) (L : Addr) (b f : Int) (ns1 : List Int) (I DL d : Addr) (oL : Obj) (rest : List (Addr × Obj)) (m₀ : Str → Option Value) (s₀ : Shared) (n : Nat) (s : Shared) : Prop
  | mk (h tk oI od dn rem kvs v1 v2 v3 v4 : _) (_ : s = { s₀ with heap := h, toks := tk }) (_ : n = rem.length) (_ : f :: ns1 = dn ++ rem) (_ : 1 ≤ dn.length) (_ : IterIs "list_iterator" DL (dn.length : Nat) oI) (_ : Fr g L h (fun y => if y = Str.ofString "this" then v1 else if y = Str.ofString "lo" then v2 else if y = Str.ofString "hi" then v3 else if y = Str.ofString "sq" then v4 else m₀ y)) (_ : News g L h ((I, oI) :: (DL, oL) :: (d, od) :: rest)) (_ : od.IsDictOf (intKind prog w) kvs) (_ : PowKv b dn kvs) (_ : okH dn rem = okH [f] ns1)
theorem ct_pow {x b lim : Int} {tx tb tl : Tok}
    (B : Below A₀ base outer h₀) (F : Fr h₀ L s.heap m) (X : (hd.heap_39 w.params).In h₀) (T : Top p loose mean mg mb h₀) (hk : cs.kind = .function) (hd : dp + 10 < recursionLimit) (hu : un + 20 < cLine)
    (hx0 : 0 ≤ x) (hx1 : x ≤ 60) (hl0 : 1 ≤ lim) (hb0 : -60 ≤ b) (hb1 : b ≤ 60)
    (ret : ∀ hs kvs D od h' tk dr, hs.Pairwise (· < ·) → (∀ k, k ∈ hs ↔ ∃ v, Rch x lim v ∧ v / 2 = k) → (∀ f r, hs = f :: r → okH [f] r = true) → Ext [] s.heap h' → s.heap.get? D = none → h'.get? D = some od → od.IsDictOf (intKind prog w) kvs → PowKv b hs kvs → (D == sysModules) = false → Q (.ref D) { s with heap := h', toks := tk, drawn := dr })
    (raise : ∀ f r e t g h' tk dr, (f :: r).Pairwise (· < ·) → (∀ k, k ∈ f :: r ↔ ∃ v, Rch x lim v ∧ v / 2 = k) → okH [f] r = false → Ext [] s.heap g → g.UpToSlots h' → RaisedS base g (envX nm cs L a ccd cl :: outer) e (.type "AssertionError") t [] [] h' → E (.ref e) { s with heap := h', toks := tk, drawn := dr }) :
    wpAny (model prog w) (ktrTop dp un gd nm cs L a ccd cl outer) (call (.ref 22) [.int x tx, .int b tb, .int lim tl]) Q E s := by
  refine wpAny_call ?_
  k_dflt (refine' enter_but (ds := []) B F X News.nil T ?kA ?kF ?kK ?kfo ?kd ?kc ?k8 ?k9 ?kB ?_ ?c5 ?c2 ?c3 ?c4)
  case kA => exact rfl
  case kF => exact rfl
  case kK => exact hk
  case kfo => exact F.keep _ _ (X _ _ (by k_is))
  case kd => exact rfl
  case kc => exact (codeRec_of X (by k_is)).keeps F.keep
  case k8 => show dp < recursionLimit; omega
  case k9 => first | exact BindsTo.of_eq rfl | exact binds_K (X.keeps F.keep) rfl (by k_is) rfl rfl rfl
  case kB => exact locs rfl
  case c5 => decide
  case c2 => rfl
  case c3 => rfl
  case c4 => rfl
  intro g' L' h' tk0 mz EG NG F' N' l1 B' X' T' ST' envz Az Qz Ez
  clear ST' l1
  try dsimp only
  k_steps
  refine Halt.on ?_
  k_dflt (refine' kso_new ?F ?N ?_; (case F => k_asm); (case N => k_asm))
  intro d1 hz1 so1 hs1 Fz1 Nz1 lz1
  (try k_lt lz1)
  k_steps
  refine Halt.on ?_
  k_dflt (refine' kso_new ?F ?N ?_; (case F => k_asm); (case N => k_asm))
  intro d2 hz2 so2 hs2 Fz2 Nz2 lz2
  (try k_lt lz2)
  k_steps
  refine Halt.on ?_
  k_dflt (refine' kso_eval ?F ?N ?X ?c ?p ?_; (case F => k_asm); (case N => k_asm); (case X => k_asm); (case c => first | k_is | kernel_rfl!); (case p => rfl))
  intro d3 hz3 so3 hs3 Fz3 Nz3 lz3
  (try k_lt lz3)
  k_steps
  refine Halt.on ?_
  k_dflt (refine' kso_setAdd ?F ?N ?U ?d ?z ?_; (case F => k_asm); (case N => k_asm); (case U => k_updF); (case d => k_asm); (case z => decide))
  intro hz4 o4 Fz4 Nz4 hs4
  (try dsimp only at Nz4)
  k_steps
  refine Halt.on ?_
  refine' wpAny_While ?_
  rename Fr _ _ _ _ => F2
  rename News _ _ _ _ => N2
  refine with_three N2 fun aS aD aW e1 e2 e3 => ?_
  subst e1 e2 e3
  refine let_map F2 ?_; clear F2; intro m₂ F2
  refine' while_inv (PowInv w g' x x lim aS aD aW m₂ s L') ?hE ?turn (3 * 60 + 1) ?h0
  case hE => exact PassesOwn.leaving
  case h0 =>
    refine ⟨_, _, _, _, _, _, [], [], [x], _, _, _, rfl, rfl, Nat.le_refl _, Nat.zero_le _, fr_canon2 (a := Str.ofString "w") (b := Str.ofString "lo") F2 (fun _ _ _ => rfl), N2, ?hs1, ?hs2, ?hs3, PwF.start x lim⟩
    case hs1 => assumption
    case hs2 => assumption
    case hs3 => simpa using ‹SO w _ (if x ∈ [] then [] else [x])›
  case turn =>
    intro n st hIv0
    try k_fold
    obtain ⟨h, tk, dr, oS, oD, oW, S, D, W, xv, tv, lv, rfl, hn, hn1, hS6, F3, N3, hSS, hSD, hSW, hP⟩ := hIv0
    refine let_map F3 ?_; clear F3; intro m₃ F3
    clear F2 N2
    try dsimp only
    have hbW : W.length < scanBound := by unfold scanBound; omega
    have hbS : S.length < scanBound := by unfold scanBound; omega
    have hbS1 : S.length + 1 < scanBound := by unfold scanBound; omega
    have hSlen : ∀ S' : List Int, S'.Nodup → (∀ v ∈ S', Rch x lim v) → S'.length ≤ 60 := fun S' nd hr => nodup_bound 60 S' nd fun v hv => by
      have := (hr v hv).lo; have := (hr v hv).hi hl0; omega
    have hDlen : D.length ≤ 60 := nodup_bound 60 D hP.ndD fun k hk => by
      obtain ⟨v, hv, e⟩ := (hP.d k).mp hk
      have := (hP.s_r v hv).lo; have := (hP.s_r v hv).hi hl0; omega
    have hbD : D.length < scanBound := by unfold scanBound; omega
    have hbD1 : D.length + 1 < scanBound := by unfold scanBound; omega
    cases W with
    | nil =>
      cases D with
      | nil =>
        k_steps
        show Q _ _
        rename Fr _ _ _ _ => F9
        rename News _ _ _ _ => N9
        refine ret [] [] _ _ _ _ _ .nil hP.done (fun f r q => by cases q) (ext_ret EG F9) (new_none EG N9 (.head _) (fun q => nomatch q)) (new_some N9 (.head _)) (by assumption) (PowKv.nil b) (by assumption)
      | cons d0 D0 =>
        k_steps
        refine Halt.on ?_
        rename Fr _ _ _ _ => F4
        rename News _ _ _ _ => N4
        refine sorted_SO rfl (N4 (_, oD) (by k_mem)).1 hSD (by omega) ?_
        intro DL h5 tk5 dr5 vs ns' c5 keep5 nD hDL hI hp hsrt
        have F5 := F4.keeps keep5
        have N5 := news_new F4 (fun q hq => ⟨keep5 _ _ (N4 q hq).1, (N4 q hq).2⟩) hDL nD
        have lDL := news_off N4 nD
        (replace lDL := Mine.allNe_of lDL; simp only [Mine.AllNe, and_true] at lDL)
        clear F4 N4
        have hl5 := hp.length_eq
        cases hI with
        | nil => simp at hl5
        | @cons f tf vs1 ns1 hI1 =>
          have hall : ∀ k ∈ f :: ns1, 1 ≤ k ∧ k ≤ 60 := fun k hk => by
            obtain ⟨v, hv, e⟩ := (hP.done k).mp (hp.mem_iff.mp hk)
            have := hv.lo; have := hv.hi hl0; omega
          have hf0 := (hall f (.head _)).1
          have hf1 := (hall f (.head _)).2
          try dsimp only
          k_steps
          refine Halt.on ?_
          k_dflt (refine' kli_iter ?F ?N ?l ?_; (case F => k_asm); (case N => k_asm); (case l => is_list))
          intro Dz5 hz5 oz5 hiz5 Fz5 Nz5 lz5 lz6
          (try k_lt lz5)
          k_steps
          refine Halt.on ?_
          k_dflt (refine' kli_next0 ?F ?N ?U ?i ?l ?_; (case F => k_asm); (case N => k_asm); (case U => k_updF); (case i => assumption); (case l => is_list))
          intro hz6 oz6 Fz6 Nz6 hiz6
          (try dsimp only at Nz6)
          k_steps
          refine Halt.on ?_
          refine' wpAny_For ?_ ?hs
          case hs => intro _; rfl
          k_steps
          rename Fr _ _ _ _ => F6
          rename News _ _ _ _ => N6
          refine with_led N6 fun I oI d od e1 e2 e3 e4 => ?_
          subst e1 e2 e3 e4
          have hit : IterIs "list_iterator" DL 1 oI := by assumption
          refine wpAny_pyIter_listiter (l := DL) (i := 1) ⟨oI, (N6 _ (.head _)).1, hit.1, hit.2⟩ ?_
          refine let_map F6 ?_; clear F6; intro m₂ F6
          obtain ⟨kv0, hod, hkv0⟩ : ∃ kv0, od.IsDictOf (intKind prog w) kv0 ∧ PowKv b [f] kv0 := ⟨_, ‹Obj.IsDictOf (intKind prog w) od _›, (PowKv.nil b).store (k := f) (by simp)⟩
          refine' for_inv (DInv prog w g' L' b f ns1 I DL d (PySem.W.listOf (Value.int f tf :: vs1).toArray c5) [(aW, oW), (aD, oD), (aS, oS)] m₂ { s with drawn := dr5 }) ?hE ?turn ns1.length ?h0
          case hE => exact PassesOwn.leaving
          case h0 =>
            refine ⟨_, _, _, _, [f], ns1, _, _, _, _, _, rfl, rfl, rfl, Nat.le_refl _, hit, fr_canon4 (a := Str.ofString "this") (b := Str.ofString "lo") (c := Str.ofString "hi") (d := Str.ofString "sq") F6 (fun _ _ _ _ _ => rfl), N6, hod, hkv0, rfl⟩
          case turn =>
            intro n st hIv0
            try k_fold
            obtain ⟨h, tk, oI2, od2, dn, rem, kvs, v1, v2, v3, v4, rfl, hn, hsp, hdn, hit2, F7, N7, hod2, hkv, hok⟩ := hIv0
            refine let_map F7 ?_; clear F7; intro m₃ F7
            clear F6 N6 hit hod hkv0
            have hIv : IntsAre (Value.int f tf :: vs1) (f :: ns1) := .cons f tf hI1
            have lod : (d == sysModules) = false := by assumption
            cases rem with
            | nil =>
              refine next_list_end rfl F7 N7 (by k_all) hit2 ⟨_, (N7 (DL, _) (by k_mem)).1, rfl, _, rfl⟩ ?_ fun h5 F5 N5 keep5 => ?_
              · rw [List.append_nil] at hsp
                refine Array.getElem?_eq_none ?_
                have := hIv.length
                rw [hsp] at this
                simpa using Nat.le_of_eq this
              · k_steps
                show Q _ _
                rename Fr _ _ _ _ => F9
                rename News _ _ _ _ => N9
                rw [List.append_nil] at hsp
                subst hsp
                refine ret (f :: ns1) kvs d od2 _ _ _ (strict_of hsrt (hp.nodup_iff.mpr hP.ndD)) (fun q => (hp.mem_iff (a := q)).trans (hP.done q)) (fun f' r' q => by cases q; exact hok.symm) (ext_ret EG F9) (new_none EG N9 (o := od2) (by k_mem) (fun q => nomatch q)) (new_some N9 (by k_mem)) hod2 hkv lod
            | cons k rem =>
              obtain ⟨tk5, htk5⟩ := hIv.get dn.length k (by rw [hsp]; simp)
              refine next_list (i := dn.length) (items := (Value.int f tf :: vs1).toArray) (v := .int k tk5) F7 N7 (by k_all) hit2 ⟨_, (N7 (DL, _) (by k_mem)).1, rfl, _, rfl⟩ (by simpa using htk5) fun h5 oI5 hit5 F5 N5 _ => ?_
              clear F7 N7
              try dsimp only
              refine wpAny_assign_Name ?_
              have hk1 := hall k (by rw [hsp]; simp)
              have hkl : kvs.length ≤ sizeLine := by
                have e1 := congrArg List.length hkv.1
                have e2 := congrArg List.length hsp
                simp only [List.length_map, List.length_append, List.length_cons] at e1 e2 hl5 hDlen
                rw [sizeLine_eq]; omega
              have hnd : (f :: ns1).Nodup := hp.nodup_iff.mpr hP.ndD
              have hkn : k ∉ dn := fun q => by
                rw [hsp] at hnd
                exact (List.nodup_append.mp hnd).2.2 k q k (.head _) rfl
              by_cases c1 : k - 1 ∈ dn
              · obtain ⟨t1, g1⟩ := hkv.get c1
                have i1 : (valueAt kvs (k - 1)).isSome = true := by rw [g1]; rfl
                k_steps
                rename Fr _ _ _ _ => F8
                rename News _ _ _ _ => N8
                have hod3 := ‹Obj.IsDictOf (intKind prog w) _ (stored kvs k (.int (b ^ (k - 1).toNat * b) _))›
                rw [pow_next hk1.1] at hod3
                refine Halt.on ⟨rem.length, by rw [hn]; exact Nat.lt_succ_self _, _, _, _, _, dn ++ [k], rem, _, _, _, _, _, rfl, rfl, by rw [hsp]; simp, by simp, by simpa using hit5, fr_canon4 (a := Str.ofString "this") (b := Str.ofString "lo") (c := Str.ofString "hi") (d := Str.ofString "sq") F8 ?_, N8, hod3, hkv.store hkn, ?_⟩
                · intro z n1 n2 n3 n4
                  simp [m₃, n1, n2, n3, n4]
                · rw [← hok]; simp [okH, c1]
              · have i1 : (valueAt kvs (k - 1)).isSome = false := by rw [hkv.none c1]; rfl
                have eK : k.fdiv (2 ^ Int.toNat 1) = k / 2 := by rw [show (2 : Int) ^ Int.toNat 1 = 2 from rfl, fdiv_pos (by decide)]
                by_cases c2 : k / 2 ∈ dn
                · obtain ⟨t2, g2⟩ := hkv.get c2
                  rw [← eK] at g2
                  have i2 : (valueAt kvs (k.fdiv (2 ^ Int.toNat 1))).isSome = true := by rw [g2]; rfl
                  have hm2 : IntMulOk (b ^ (k.fdiv (2 ^ Int.toNat 1)).toNat) (b ^ (k.fdiv (2 ^ Int.toNat 1)).toNat) := by
                    have := pow_bits' hb0 hb1 (j := (k.fdiv (2 ^ Int.toNat 1)).toNat) (by rw [eK]; omega)
                    exact IntMulOk.of_bits (Nat.le_trans this (by decide)) (Nat.le_trans this (by decide))
                  k_steps
                  · rename Fr _ _ _ _ => F8
                    rename News _ _ _ _ => N8
                    have hodd : ¬ k - k / 2 = k / 2 := by omega
                    have hod3 := ‹Obj.IsDictOf (intKind prog w) _ (stored kvs k (.int (b ^ (k.fdiv (2 ^ Int.toNat 1)).toNat * b ^ (k.fdiv (2 ^ Int.toNat 1)).toNat * b) _))›
                    rw [eK, pow_odd hk1.1 hodd] at hod3
                    refine Halt.on ⟨rem.length, by rw [hn]; exact Nat.lt_succ_self _, _, _, _, _, dn ++ [k], rem, _, _, _, _, _, rfl, rfl, by rw [hsp]; simp, by simp, by simpa using hit5, fr_canon4 (a := Str.ofString "this") (b := Str.ofString "lo") (c := Str.ofString "hi") (d := Str.ofString "sq") F8 ?_, N8, hod3, hkv.store hkn, ?_⟩
                    · intro z n1 n2 n3 n4
                      simp [m₃, n1, n2, n3, n4]
                    · rw [← hok]; simp [okH, c1, c2]
                  · rename Fr _ _ _ _ => F8
                    rename News _ _ _ _ => N8
                    have hev : k - k / 2 = k / 2 := by omega
                    have hod3 := ‹Obj.IsDictOf (intKind prog w) _ (stored kvs k (.int (b ^ (k.fdiv (2 ^ Int.toNat 1)).toNat * b ^ (k.fdiv (2 ^ Int.toNat 1)).toNat) _))›
                    rw [eK, pow_even hk1.1 hev] at hod3
                    refine Halt.on ⟨rem.length, by rw [hn]; exact Nat.lt_succ_self _, _, _, _, _, dn ++ [k], rem, _, _, _, _, _, rfl, rfl, by rw [hsp]; simp, by simp, by simpa using hit5, fr_canon4 (a := Str.ofString "this") (b := Str.ofString "lo") (c := Str.ofString "hi") (d := Str.ofString "sq") F8 ?_, N8, hod3, hkv.store hkn, ?_⟩
                    · intro z n1 n2 n3 n4
                      simp [m₃, n1, n2, n3, n4]
                    · rw [← hok]; simp [okH, c1, c2]
                · have i2 : (valueAt kvs (k.fdiv (2 ^ Int.toNat 1))).isSome = false := by rw [eK, hkv.none c2]; rfl
                  k_steps
                  refine Halt.on ?_
                  intro h8 e8 hx8
                  rename Fr _ _ _ _ => F8
                  rename News _ _ _ _ => N8
                  k_dflt (refine' leave_raiseS B' hx8 F8 N8 ?_ rfl)
                  intro h9 t9 R9 RK9 U9
                  refine raise f ns1 _ t9 g' _ _ _ (strict_of hsrt (hp.nodup_iff.mpr hP.ndD)) (fun q => (hp.mem_iff (a := q)).trans (hP.done q)) ?_ EG U9 (raisedS_less R9)
                  rw [← hok]; simp [okH, c1, c2]
    | cons w0 W0 =>
      k_steps
      refine Halt.on ?_
      rename Fr _ _ _ _ => F4
      rename News _ _ _ _ => N4
      k_dflt (refine' kso_pop F4 N4 ?U hSW hbW (List.cons_ne_nil _ _) ?_; (case U => k_updF))
      intro h5 oW5 dr5 v tv5 ms F5 N5 hs5 hp5
      clear hSW F4 N4
      have hln := hp5.length_eq
      rw [List.length_cons (a := v)] at hln
      have hms1 : ms.length + 1 < scanBound := by unfold scanBound; omega
      have hms2 : ∀ k : Int, (if k ∈ ms then ms else k :: ms).length + 1 < scanBound := fun k => by have := ins_len (k := k) (l := ms); unfold scanBound; omega
      have hvl : v % 2 = 1 ∨ v % 2 = 0 := by omega
      try dsimp only at N5
      try dsimp only
      have eH : v.fdiv (2 ^ Int.toNat 1) = v / 2 := by rw [show (2 : Int) ^ Int.toNat 1 = 2 from rfl, fdiv_pos (by decide)]
      k_steps
      · rename Fr _ _ _ _ => F6
        rename News _ _ _ _ => N6
        refine Halt.on ⟨3 * (60 - S.length) + ms.length, by omega, _, _, _, _, _, _, S, D, ms, _, _, _, rfl, rfl, by omega, hS6, fr_canon2 (a := Str.ofString "w") (b := Str.ofString "lo") F6 ?_, N6, hSS, hSD, hs5, hP.skip hp5 (.inl (by assumption))⟩
        intro z n1 n2
        simp [m₃, n1, n2]
      · rename Fr _ _ _ _ => F6
        rename News _ _ _ _ => N6
        refine Halt.on ⟨3 * (60 - S.length) + ms.length, by omega, _, _, _, _, _, _, S, D, ms, _, _, _, rfl, rfl, by omega, hS6, fr_canon2 (a := Str.ofString "w") (b := Str.ofString "lo") F6 ?_, N6, hSS, hSD, hs5, hP.skip hp5 (.inr (by assumption))⟩
        intro z n1 n2
        simp [m₃, n1, n2]
      · rename Fr _ _ _ _ => F6
        rename News _ _ _ _ => N6
        have hvS : ¬ v ∈ S := by assumption
        have hvl : ¬ v ≤ lim := by assumption
        have hbit : Builtin.bitAnd v 1 ≠ 0 := by assumption
        rw [PyProof.Rows.bitAnd_m1] at hbit
        have hodd : v % 2 = 1 := by omega
        have hP2 := hP.add (W2 := if v.fdiv (2 ^ Int.toNat 1) + 1 ∈ (if v.fdiv (2 ^ Int.toNat 1) ∈ ms then ms else v.fdiv (2 ^ Int.toNat 1) :: ms) then (if v.fdiv (2 ^ Int.toNat 1) ∈ ms then ms else v.fdiv (2 ^ Int.toNat 1) :: ms) else (v.fdiv (2 ^ Int.toNat 1) + 1) :: (if v.fdiv (2 ^ Int.toNat 1) ∈ ms then ms else v.fdiv (2 ^ Int.toNat 1) :: ms))
          (D2 := if v.fdiv (2 ^ Int.toNat 1) ∈ D then D else v.fdiv (2 ^ Int.toNat 1) :: D) hp5 hvS (by omega) (fun k => by
            rw [ins_mem, ins_mem, eH]
            constructor
            · rintro (q | q | q)
              · exact .inr (.inr ⟨hodd, q⟩)
              · exact .inr (.inl q)
              · exact .inl q
            · rintro (q | q | ⟨_, q⟩)
              · exact .inr (.inr q)
              · exact .inr (.inl q)
              · exact .inl q) (fun k => by rw [ins_mem, eH]) (ins_nodup hP.ndD)
        have hl2 := hSlen _ hP2.ndS hP2.s_r
        rw [List.length_cons] at hl2
        have hw2 := ins_len (k := v.fdiv (2 ^ Int.toNat 1)) (l := ms)
        have hw3 := ins_len (k := v.fdiv (2 ^ Int.toNat 1) + 1) (l := if v.fdiv (2 ^ Int.toNat 1) ∈ ms then ms else v.fdiv (2 ^ Int.toNat 1) :: ms)
        have hs2 := ‹SO w _ (if v ∈ S then S else v :: S)›
        rw [if_neg hvS] at hs2
        refine Halt.on ⟨_, ?_, _, _, _, _, _, _, v :: S, _, _, _, _, _, rfl, rfl, ?_, by rw [List.length_cons]; exact hl2, fr_canon2 (a := Str.ofString "w") (b := Str.ofString "lo") F6 ?_, N6, hs2, by assumption, by assumption, hP2⟩
        · rw [List.length_cons]; exact pow_dec hn hln.symm hl2 ins_len2
        · rw [List.length_cons]; exact pow_dec2 hn hn1 hln.symm hl2 ins_len2
        · intro z n1 n2
          simp [m₃, n1, n2]
      · rename Fr _ _ _ _ => F6
        rename News _ _ _ _ => N6
        have hvS : ¬ v ∈ S := by assumption
        have hvl : ¬ v ≤ lim := by assumption
        have hbit : Builtin.bitAnd v 1 = 0 := by assumption
        rw [PyProof.Rows.bitAnd_m1] at hbit
        have hP2 := hP.add (W2 := if v.fdiv (2 ^ Int.toNat 1) ∈ ms then ms else v.fdiv (2 ^ Int.toNat 1) :: ms)
          (D2 := if v.fdiv (2 ^ Int.toNat 1) ∈ D then D else v.fdiv (2 ^ Int.toNat 1) :: D) hp5 hvS (by omega) (fun k => by
            rw [ins_mem, eH]
            constructor
            · rintro (q | q)
              · exact .inr (.inl q)
              · exact .inl q
            · rintro (q | q | ⟨q0, q⟩)
              · exact .inr q
              · exact .inl q
              · omega) (fun k => by rw [ins_mem, eH]) (ins_nodup hP.ndD)
        have hl2 := hSlen _ hP2.ndS hP2.s_r
        rw [List.length_cons] at hl2
        have hw2 := ins_len (k := v.fdiv (2 ^ Int.toNat 1)) (l := ms)
        have hs2 := ‹SO w _ (if v ∈ S then S else v :: S)›
        rw [if_neg hvS] at hs2
        refine Halt.on ⟨_, ?_, _, _, _, _, _, _, v :: S, _, _, _, _, _, rfl, rfl, ?_, by rw [List.length_cons]; exact hl2, fr_canon2 (a := Str.ofString "w") (b := Str.ofString "lo") F6 ?_, N6, hs2, by assumption, by assumption, hP2⟩
        · rw [List.length_cons]; exact pow_dec hn hln.symm hl2 (Nat.le_succ_of_le ins_len)
        · rw [List.length_cons]; exact pow_dec2 hn hn1 hln.symm hl2 (Nat.le_succ_of_le ins_len)
        · intro z n1 n2
          simp [m₃, n1, n2]
end
end Mine
end

section
namespace Mine
/-- a width's half joins the halves -/
def hStep (lim : Int) (hs : List Int) (one : Int) : List Int := if lim < one ∧ one / 2 ∉ hs then hs ++ [one / 2] else hs
def ceilD (x : Int) (j : Nat) : Int := -(-x / 2 ^ j)
/-- the halves after j turns -/
def hTo (x lim : Int) : Nat → List Int
  | 0 => []
  | j + 1 => hStep lim (hStep lim (hTo x lim j) (x / 2 ^ j)) (ceilD x j)
theorem hStep_mem {lim one k : Int} {hs : List Int} : k ∈ hStep lim hs one ↔ k ∈ hs ∨ (lim < one ∧ one / 2 = k) := by
  unfold hStep
  split
  · rename_i h
    rw [List.mem_append, List.mem_singleton]
    constructor
    · rintro (q | q)
      · exact .inl q
      · exact .inr ⟨h.1, q.symm⟩
    · rintro (q | ⟨_, q⟩)
      · exact .inl q
      · exact .inr q.symm
  · rename_i h
    constructor
    · exact .inl
    · rintro (q | ⟨q1, q2⟩)
      · exact q
      · by_cases hm : one / 2 ∈ hs
        · exact q2 ▸ hm
        · exact absurd ⟨q1, hm⟩ h
theorem hStep_nodup {lim one : Int} {hs : List Int} (h : hs.Nodup) : (hStep lim hs one).Nodup := by
  unfold hStep
  split
  · rename_i q
    refine List.nodup_append.mpr ⟨h, by simp, fun a ha b hb e => ?_⟩
    rw [List.mem_singleton] at hb
    subst hb; subst e
    exact q.2 ha
  · exact h
theorem hStep_len {lim one : Int} {hs : List Int} : (hStep lim hs one).length ≤ hs.length + 1 := by
  unfold hStep; split <;> simp
theorem hTo_nodup (x lim : Int) : ∀ j, (hTo x lim j).Nodup
  | 0 => List.nodup_nil
  | j + 1 => hStep_nodup (hStep_nodup (hTo_nodup x lim j))
theorem hTo_len (x lim : Int) : ∀ j, (hTo x lim j).length ≤ 2 * j
  | 0 => Nat.le_refl _
  | j + 1 => by
    have := hTo_len x lim j
    have h1 := hStep_len (lim := lim) (one := x / 2 ^ j) (hs := hTo x lim j)
    have h2 := hStep_len (lim := lim) (one := ceilD x j) (hs := hStep lim (hTo x lim j) (x / 2 ^ j))
    show (hStep lim (hStep lim (hTo x lim j) (x / 2 ^ j)) (ceilD x j)).length ≤ _
    omega
theorem hTo_mem {x lim k : Int} : ∀ j, k ∈ hTo x lim j ↔ ∃ i < j, (lim < x / 2 ^ i ∧ x / 2 ^ i / 2 = k) ∨ (lim < ceilD x i ∧ ceilD x i / 2 = k)
  | 0 => by simp [hTo]
  | j + 1 => by
    show k ∈ hStep lim (hStep lim (hTo x lim j) (x / 2 ^ j)) (ceilD x j) ↔ _
    rw [hStep_mem, hStep_mem, hTo_mem j]
    constructor
    · rintro ((⟨i, hi, q⟩ | q) | q)
      · exact ⟨i, Nat.lt_succ_of_lt hi, q⟩
      · exact ⟨j, Nat.lt_succ_self _, .inl q⟩
      · exact ⟨j, Nat.lt_succ_self _, .inr q⟩
    · rintro ⟨i, hi, q⟩
      rcases Nat.lt_or_eq_of_le (Nat.le_of_lt_succ hi) with hi | rfl
      · exact .inl (.inl ⟨i, hi, q⟩)
      · rcases q with q | q
        · exact .inl (.inr q)
        · exact .inr q
end Mine
end

section
open PySem PySem.W PyProof.Rows PySem.Calls PySem.Spec
namespace Mine
set_option maxRecDepth 100000
set_option maxHeartbeats 8000000
set_option linter.unusedVariables false
set_option pp.deepTerms false
set_option pp.deepTerms.threshold 4
theorem fillKq2 : (fun P => hd.heap_39 P) = hd.heap_39 ∧ PySem.Challenge.rw_wv0074_01 = PySem.Challenge.rw_wv0074_01 := by
  k_fill
  w_top off
  exact ⟨rfl, rfl⟩
section
variable {prog : Program} {w : World} {p : Program} {loose : List Str} {mean : ExcName → Option Value} {mg mb : Str → Option Value} 
 {dp un : Nat} {gd : Option (List Code)} {nm : Str} {cs : Scope} {a : Addr} {ccd : Value} {cl : List (Str × Addr)} {outer : List Env} {A₀ : Around} {base h₀ : Heap} {L : Addr} {m : Str → Option Value} {s : Shared}
    {Q E : Value → Shared → Prop}
theorem app_ints {A : Around} {D : Addr} {news news' : List (Addr × Obj)} {vs : List Value} {hs : List Int} {n : Nat} {k : Int} {t : Tok} {Q : Value → Shared → Prop} (F : Fr h₀ L s.heap m) (N : News h₀ L s.heap news) (U : Upd D (PySem.W.listOf vs.toArray n) (PySem.W.listOf (vs ++ [Value.int k t]).toArray (n + 1)) news news')
    (hI : IntsAre vs hs) (hl : hs.length ≤ 100) (h : ∀ h', Fr h₀ L h' m → News h₀ L h' news' → IntsAre (vs ++ [Value.int k t]) (hs ++ [k]) → Q .none { s with heap := h' }) :
    wpAny (model prog w) A (call (.builtin "list.append") [.ref D, .int k t]) Q E s := by
  have e : vs.toArray.push (Value.int k t) = (vs ++ [Value.int k t]).toArray := by simp
  refine append_K (its := vs.toArray) (x := Value.int k t) F N (by rw [e]; exact U) (fun h' F' N' => h h' F' N' (hI.append (.cons k t .nil))) ?_
  have := hI.length
  rw [sizeLine_eq]; simp; omega
theorem any_mem {l : List Int} {v : Int} : (l.any fun y => y == v) = decide (v ∈ l) := by
  rw [Bool.eq_iff_iff]; simp
theorem isL_of {h : Heap} {l : Addr} {vs : List Value} {ep : Nat} {news : List (Addr × Obj)} (N : News h₀ L h news) (hm : (l, PySem.W.listOf vs.toArray ep) ∈ news) : h.IsList l vs.toArray := ⟨_, (N _ hm).1, rfl, _, rfl⟩
local macro_rules | `(tactic| walk_at "compareOp NotIn int ref") => `(tactic| (k_here; k_dflt (refine' notin_list_ints (isL_of ?N ?m) ?i ?_; (case N => k_asm); (case m => k_mem); (case i => assumption))))
local macro_rules | `(tactic| walk_at "call builtin:list.append") => `(tactic| (k_here; k_dflt (refine' app_ints ?F ?N ?U ?I ?l ?_; (case F => k_asm); (case N => k_asm); (case U => k_upd); (case I => assumption); (case l => first | omega | (simp only [List.length_append, List.length_cons, List.length_nil]; omega))); intro h' F' N' hI'; (try dsimp only at N')))
local macro_rules | `(tactic| walk_at "exec For Name Call cons nil") => `(tactic| (k_here; refine Halt.out ?_))
def rIt (x left : Int) : Obj := { cls := .type "range_iterator", data := .fields #[rawInt x, rawInt left, rawInt 1] }
theorem with_l {g h : Heap} {L I d : Addr} {oI od : Obj} {rest : List (Addr × Obj)} (N : News g L h ((I, oI) :: (d, od) :: rest)) {P : Prop} (k : ∀ I' d', I' = I → d' = d → P) : P := k I d rfl rfl
/-- where the gathering of the halves stands -/
inductive HInv (g : Heap) (L : Addr) (x lim : Int) (bl : Nat) (I l : Addr) (rest : List (Addr × Obj)) (m₀ : Str → Option Value) (s₀ : Shared) (n : Nat) (s : Shared) : Prop
  | mk (h tk vs ep j v1 v2 : _) (_ : s = { s₀ with heap := h, toks := tk }) (_ : j + n = bl) (_ : Fr g L h (fun y => if y = Str.ofString "k" then v1 else if y = Str.ofString "one" then v2 else m₀ y)) (_ : News g L h ((I, rIt j (bl - j : Int)) :: (l, PySem.W.listOf vs.toArray ep) :: rest)) (_ : IntsAre vs (hTo x lim j))
theorem ct_halves {x lim : Int} {tx tl : Tok}
    (B : Below A₀ base outer h₀) (F : Fr h₀ L s.heap m) (X : (hd.heap_39 w.params).In h₀) (T : Top p loose mean mg mb h₀) (hk : cs.kind = .function) (hd : dp + 10 < recursionLimit) (hu : un + 20 < cLine)
    (hx0 : 2 ≤ x) (hx1 : x ≤ 60) (hl0 : 1 ≤ lim)
    (ret : ∀ D vs hs c h' tk, Ext [] s.heap h' → s.heap.get? D = none → h'.get? D = some (PySem.W.listOf vs.toArray c) → IntsAre vs hs → hs.Perm (hTo x lim (Builtin.Int.intBits x)) → hs.Pairwise (· ≤ ·) → Q (.ref D) { s with heap := h', toks := tk }) :
    wpAny (model prog w) (ktrTop dp un gd nm cs L a ccd cl outer) (call (.ref 71) [.int x tx, .int lim tl]) Q E s := by
  refine wpAny_call ?_
  k_dflt (refine' enter_but (ds := []) B F X News.nil T ?kA ?kF ?kK ?kfo ?kd ?kc ?k8 ?k9 ?kB ?_ ?c5 ?c2 ?c3 ?c4)
  case kA => exact rfl
  case kF => exact rfl
  case kK => exact hk
  case kfo => exact F.keep _ _ (X _ _ (by k_is))
  case kd => exact rfl
  case kc => exact (codeRec_of X (by k_is)).keeps F.keep
  case k8 => show dp < recursionLimit; omega
  case k9 => exact BindsTo.of_eq rfl
  case kB => exact locs rfl
  case c5 => decide
  case c2 => rfl
  case c3 => rfl
  case c4 => rfl
  intro g' L' h' tk0 mz EG NG F' N' l1 B' X' T' ST' envz Az Qz Ez
  clear ST' l1
  try dsimp only
  k_steps
  refine Halt.on ?_
  refine' wpAny_For ?_ ?hs
  case hs => intro _; rfl
  k_steps
  rename IsRange _ _ _ _ _ _ _ _ => hR
  rename Fr _ _ _ _ => F2
  rename News _ _ _ _ => N2
  have hbl : Builtin.Int.intBits x ≤ 6 := bits_lt (by omega) (by omega)
  refine wpAny_pyIter_range hR (small_one (by decide) (by decide) (by omega) (by omega)) ?_
  have F3 := F2.push { cls := .type "range_iterator", data := .fields #[rawInt 0, rawInt (Builtin.Range.rangeSize 0 (Builtin.Int.intBits x) 1), rawInt 1] }
  have N3 := News.push F2 N2 { cls := .type "range_iterator", data := .fields #[rawInt 0, rawInt (Builtin.Range.rangeSize 0 (Builtin.Int.intBits x) 1), rawInt 1] } rfl
  refine with_l N3 fun I l e1 e2 => ?_
  rw [← e1]
  subst e2
  have hlI : @LT.lt Nat _ l I := by rw [e1]; exact Heap.lt_size (N2 _ (.head _)).1
  refine let_map F3 ?_; clear F3; intro m₂ F3
  refine' for_inv (HInv g' L' x lim (Builtin.Int.intBits x) I l [] m₂ s) ?hE ?turn (Builtin.Int.intBits x) ?h0
  case hE => exact PassesOwn.leaving
  case h0 =>
    rw [rangeSize_one] at N3
    have : (if (0 : Int) < (Builtin.Int.intBits x : Int) then (Builtin.Int.intBits x : Int) - 0 else 0) = (Builtin.Int.intBits x : Int) - ((0 : Nat) : Int) := by split <;> omega
    rw [this, ← e1] at N3
    rw [rangeSize_one, this] at F3
    rw [rangeSize_one, this]
    exact ⟨_, _, [], 0, 0, _, _, rfl, by omega, fr_canon2 (a := Str.ofString "k") (b := Str.ofString "one") F3 (fun _ _ _ => rfl), N3, .nil⟩
  case turn =>
    intro n st hIv0
    try k_fold
    obtain ⟨h, tk, vs, ep, j, v1, v2, rfl, hj, F4, N4, hI⟩ := hIv0
    refine let_map F4 ?_; clear F4; intro m₃ F4
    clear F3 N3 F2 N2
    have hlen : (hTo x lim j).length ≤ 12 := by have := hTo_len x lim j; omega
    have hvl : vs.length ≤ 12 := by rw [hI.length]; exact hlen
    have hvl2 : vs.length ≤ sizeLine := by rw [sizeLine_eq]; omega
    have hvl3 : vs.toArray.size ≤ sizeLine := by simpa using hvl2
    cases n with
    | zero =>
      have hz : (hTo x lim j).length < 64 := by omega
      have hjb : j = Builtin.Int.intBits x := by omega
      refine wpAny_pyNext_range_end rfl (N4 _ (.head _)).1 (by omega) fun h5 he5 => ?_
      have z4 := N4 _ (.head _)
      have e5 : Ext [I] h h5 := fun b o n q => he5 b o (by simpa using n) q
      have F5 := ext_fr e5 F4 (by simpa using z4.2.2) (by simpa using Ne.symm z4.2.1)
      have N5 := ext_news e5 (news_tail N4) (fun q hq => by rw [List.mem_singleton] at hq; subst hq; simpa using neN (by omega))
      clear F4 N4
      try dsimp only
      k_steps
      rename Fr _ _ _ _ => F9
      rename News _ _ _ _ => N9
      have hfin := ‹List.Perm _ (hTo x lim j)›
      rw [hjb] at hfin
      refine ret _ _ _ _ _ _ (ext_ret EG F9) (new_none EG N9 (.head _) (fun q => nomatch q)) (new_some N9 (.head _)) (by assumption) hfin (by assumption)
    | succ n =>
      refine wpAny_pyNext_range_item (it := I) (x := (j : Int)) (left := ((Builtin.Int.intBits x : Nat) : Int) - (j : Int)) (step := 1) (N4 _ (.head _)).1 (by omega) fun h5 hit5 hs5 => ?_
      have z4 := N4 _ (.head _)
      have F5 := F4.change hs5 z4.2.1 z4.2.2
      have N5 := News.setHead N4 (by k_all) hs5 hit5
      have e5 : (((Builtin.Int.intBits x : Nat) : Int) - (j : Int)) - 1 = ((Builtin.Int.intBits x : Nat) : Int) - ((j + 1 : Nat) : Int) := by omega
      have e6 : (j : Int) + 1 = ((j + 1 : Nat) : Int) := by omega
      rw [e5, e6] at N5
      have k1 : x.fdiv (2 ^ Int.toNat (j : Int)) = x / 2 ^ j := by rw [Int.toNat_natCast, fdiv_pos (two_pos j)]
      have k2 : -(-x).fdiv (2 ^ Int.toNat (j : Int)) = ceilD x j := by unfold ceilD; rw [Int.toNat_natCast, fdiv_pos (two_pos j)]
      have k3 : ∀ y : Int, y.fdiv (2 ^ Int.toNat 1) = y / 2 := fun y => by rw [show (2 : Int) ^ Int.toNat 1 = 2 from rfl, fdiv_pos (by decide)]
      clear F4 N4
      try dsimp only
      refine wpAny_assign_Name ?_
      k_steps
      all_goals (rename Fr _ _ _ _ => F8; rename News _ _ _ _ => N8)
      all_goals (simp only [k1, k2, k3, any_mem, decide_eq_true_eq, decide_eq_false_iff_not] at *)
      all_goals refine Halt.on ⟨n, Nat.lt_succ_self _, _, _, _, _, j + 1, _, _, rfl, by omega, fr_canon2 (a := Str.ofString "k") (b := Str.ofString "one") F8 ?_, news_tail N8, ?_⟩
      all_goals first
        | (intro z n1 n2; simp [m₃, n1, n2]; done)
        | (show IntsAre _ (hStep lim (hStep lim (hTo x lim j) (x / 2 ^ j)) (ceilD x j))
           simp only [hStep]
           simp (config := { zetaDelta := false }) only [*, true_and, not_true_eq_false, and_false, false_and, if_true, if_false, not_false_eq_true, ite_true, ite_false, and_self]
           done)
        | skip
end
end Mine
end

section
namespace Mine
theorem fl_succ (x : Int) (i : Nat) : x / 2 ^ (i + 1) = x / 2 ^ i / 2 := by
  rw [Int.ediv_ediv_of_nonneg (Int.le_of_lt (two_pos _)), ← Int.pow_succ]
theorem cl_succ (x : Int) (i : Nat) : ceilD x (i + 1) = -((-ceilD x i) / 2) := by
  unfold ceilD
  rw [Int.neg_neg, fl_succ]
theorem fl_cl (x : Int) (i : Nat) : x / 2 ^ i ≤ ceilD x i ∧ ceilD x i ≤ x / 2 ^ i + 1 := by
  induction i with
  | zero => simp [ceilD]; omega
  | succ i ih =>
    rw [cl_succ, fl_succ]
    generalize ceilD x i = c at *
    generalize x / 2 ^ i = f at *
    omega
theorem fl_nonneg {x : Int} (h : 0 ≤ x) (i : Nat) : 0 ≤ x / 2 ^ i := Int.ediv_nonneg h (Int.le_of_lt (two_pos _))
theorem Rch.form {x lim v : Int} (h : Rch x lim v) : ∃ i : Nat, v = x / 2 ^ i ∨ v = ceilD x i := by
  induction h with
  | top _ => exact ⟨0, .inl (by simp)⟩
  | @half v r q ih =>
    obtain ⟨i, ih⟩ := ih
    have h1 := fl_cl x i
    have h2 := cl_succ x i
    have h3 := fl_succ x i
    refine ⟨i + 1, ?_⟩
    rw [h2, h3]
    generalize ceilD x i = c at *
    generalize x / 2 ^ i = f at *
    rcases ih with rfl | rfl <;> omega
  | @more v r a q ih =>
    obtain ⟨i, ih⟩ := ih
    have h1 := fl_cl x i
    have h2 := cl_succ x i
    have h3 := fl_succ x i
    refine ⟨i + 1, ?_⟩
    rw [h2, h3]
    generalize ceilD x i = c at *
    generalize x / 2 ^ i = f at *
    rcases ih with rfl | rfl <;> omega
theorem rch_of {x lim : Int} (hx : 0 ≤ x) (hl : 1 ≤ lim) : ∀ i : Nat, (lim < x / 2 ^ i → Rch x lim (x / 2 ^ i)) ∧ (lim < ceilD x i → Rch x lim (ceilD x i)) := by
  intro i
  induction i with
  | zero =>
    have e1 : x / 2 ^ 0 = x := by simp
    have e2 : ceilD x 0 = x := by simp [ceilD]
    rw [e1, e2]
    exact ⟨.top, .top⟩
  | succ i ih =>
    have h0 := fl_nonneg hx i
    have h1 := fl_cl x i
    rw [cl_succ, fl_succ]
    generalize ceilD x i = c at *
    generalize x / 2 ^ i = f at *
    refine ⟨fun q => .half (ih.1 (by omega)) q, fun q => ?_⟩
    have hc := ih.2 (by omega)
    rcases Int.emod_two_eq c with e | e
    · have : -(-c / 2) = c / 2 := by omega
      rw [this] at q ⊢
      exact .half hc q
    · have : -(-c / 2) = c / 2 + 1 := by omega
      rw [this] at q ⊢
      exact .more hc e q
theorem halves_agree {x lim k : Int} (hx : 0 ≤ x) (hl : 1 ≤ lim) {n : Nat} (hn : x < 2 ^ n) : k ∈ hTo x lim n ↔ ∃ v, Rch x lim v ∧ v / 2 = k := by
  rw [hTo_mem]
  constructor
  · rintro ⟨i, hi, ⟨q1, q2⟩ | ⟨q1, q2⟩⟩
    · exact ⟨_, (rch_of hx hl i).1 q1, q2⟩
    · exact ⟨_, (rch_of hx hl i).2 q1, q2⟩
  · rintro ⟨v, r, rfl⟩
    obtain ⟨i, h⟩ := r.form
    have hlo := r.lo
    have hi : i < n := by
      rcases Nat.lt_or_ge i n with q | q
      · exact q
      · exfalso
        have h2 : x < 2 ^ i := Int.lt_of_lt_of_le hn (pow_mono2 q)
        have h3 : x / 2 ^ i = 0 := Int.ediv_eq_zero_of_lt hx h2
        have h4 := fl_cl x i
        rcases h with rfl | rfl <;> omega
    rcases h with rfl | rfl
    · exact ⟨i, hi, .inl ⟨hlo, rfl⟩⟩
    · exact ⟨i, hi, .inr ⟨hlo, rfl⟩⟩
theorem sorted_eq : ∀ {l l' : List Int}, l.Pairwise (· < ·) → l'.Pairwise (· < ·) → (∀ k, k ∈ l ↔ k ∈ l') → l = l'
  | [], [], _, _, _ => rfl
  | [], b :: l', _, _, h => by have := (h b).mpr (.head _); cases this
  | a :: l, [], _, _, h => by have := (h a).mp (.head _); cases this
  | a :: l, b :: l', p, p', h => by
    rw [List.pairwise_cons] at p p'
    have e : a = b := by
      rcases List.mem_cons.mp ((h a).mp (.head _)) with q | q
      · exact q
      · rcases List.mem_cons.mp ((h b).mpr (.head _)) with r | r
        · exact r.symm
        · have := p.1 b r; have := p'.1 a q; omega
    subst e
    congr 1
    refine sorted_eq p.2 p'.2 fun k => ?_
    constructor
    · intro q
      rcases List.mem_cons.mp ((h k).mp (.tail _ q)) with rfl | r
      · have := p.1 _ q; omega
      · exact r
    · intro q
      rcases List.mem_cons.mp ((h k).mpr (.tail _ q)) with rfl | r
      · have := p'.1 _ q; omega
      · exact r
end Mine
end

section
namespace Mine
def ins (k : Int) : List Int → List Int
  | [] => [k]
  | a :: l => if k ≤ a then k :: a :: l else a :: ins k l
def isort : List Int → List Int
  | [] => []
  | a :: l => ins a (isort l)
/-- the halves, rising -/
def hsC (x lim : Int) : List Int := isort (hTo x lim 6)
def risesB : List Int → Bool
  | [] => true
  | [_] => true
  | a :: b :: l => decide (a < b) && risesB (b :: l)
def okL : List Int → Bool
  | [] => true
  | f :: r => okH [f] r
def btw (x lim : Int) : Bool := [1, 2, 3].any fun k : Nat => decide (lim * 2 ^ k < x) && decide (x < (lim + 1) * 2 ^ k)
def badL (x lim : Int) : Bool := decide (lim % 2 = 1) && decide (4 < lim) && btw x lim
def checkC (x lim : Int) : Bool := risesB (hsC x lim) && (hTo x lim 6).all (fun k => (hsC x lim).contains k) && (hsC x lim).all (fun k => (hTo x lim 6).contains k) && (okL (hsC x lim) == !badL x lim)
theorem check_all : ((List.range 51).all fun i => (List.range 13).all fun j => checkC ((i : Int) + 2) ((j : Int) + 1)) = true := by decide +kernel
theorem risesB_pw : ∀ {l : List Int}, risesB l = true → l.Pairwise (· < ·)
  | [], _ => .nil
  | [a], _ => List.pairwise_singleton _ _
  | a :: b :: l, h => by
    simp only [risesB, Bool.and_eq_true, decide_eq_true_eq] at h
    have ih := risesB_pw h.2
    refine List.pairwise_cons.mpr ⟨fun c hc => ?_, ih⟩
    rcases List.mem_cons.mp hc with rfl | hc
    · exact h.1
    · have := (List.pairwise_cons.mp ih).1 c hc; omega
theorem hsC_spec {x lim : Int} (h0 : 2 ≤ x) (h1 : x ≤ 52) (h2 : 1 ≤ lim) (h3 : lim ≤ 13) :
    (hsC x lim).Pairwise (· < ·) ∧ (∀ k, k ∈ hsC x lim ↔ ∃ v, Rch x lim v ∧ v / 2 = k) ∧ okL (hsC x lim) = !badL x lim := by
  have h := check_all
  rw [List.all_eq_true] at h
  have h := h (x - 2).toNat (List.mem_range.mpr (by omega))
  rw [List.all_eq_true] at h
  have h := h (lim - 1).toNat (List.mem_range.mpr (by omega))
  have e1 : (((x - 2).toNat : Nat) : Int) + 2 = x := by omega
  have e2 : (((lim - 1).toNat : Nat) : Int) + 1 = lim := by omega
  rw [e1, e2] at h
  simp only [checkC, Bool.and_eq_true, List.all_eq_true, List.contains_iff_mem, beq_iff_eq] at h
  obtain ⟨⟨⟨a, b⟩, c⟩, d⟩ := h
  refine ⟨risesB_pw a, fun k => ?_, d⟩
  rw [← halves_agree (n := 6) (by omega) h2 (by omega)]
  exact ⟨c k, b k⟩
/-- the rising list of the halves -/
theorem hsC_eq {x lim : Int} (h0 : 2 ≤ x) (h1 : x ≤ 52) (h2 : 1 ≤ lim) (h3 : lim ≤ 13) {hs : List Int} (p : hs.Pairwise (· < ·)) (q : ∀ k, k ∈ hs ↔ ∃ v, Rch x lim v ∧ v / 2 = k) : hs = hsC x lim := by
  obtain ⟨a, b, _⟩ := hsC_spec h0 h1 h2 h3
  exact sorted_eq p a fun k => (q k).trans (b k).symm
end Mine
end

section
open PySem PySem.W PyProof.Rows PySem.Calls PySem.Spec
namespace Mine
set_option maxRecDepth 100000
set_option maxHeartbeats 8000000
set_option linter.unusedVariables false
/-- pairs of ints that a comprehension has made, and where they lie -/
inductive TupsAre (g : Int → Int) : List Value → List Int → List (Addr × Obj) → Prop
  | nil : TupsAre g [] [] []
  | snoc {ys : List Value} {ks : List Int} {tl : List (Addr × Obj)} {T : Addr} {k : Int} {t1 t2 : Tok} : TupsAre g ys ks tl → TupsAre g (ys ++ [.ref T]) (ks ++ [k]) ((T, tupO [.int k t1, .int (g k) t2]) :: tl)
section
variable {prog : Program} {w : World} {A : Around} {h₀ : Heap} {L : Addr} {m : Str → Option Value} {env : Env} {elt : PySem.Expr} {x : Str} {scope : Scope} {cl : List (Str × Addr)} {s : Shared} {S : List (Addr × Obj) → Prop} {P : Nat → Value → Prop} {Fin : List Value → List (Addr × Obj) → Prop} {news : List (Addr × Obj)}
theorem tup_rest {n : Nat} {ks : List Int} (g : Int → Int) (hks : ks.length = n) (hP : ∀ i v, i < n → P i v → ∃ k t, ks[i]? = some k ∧ v = .int k t)
    (turn : ∀ k t I oI C oC D m₂ ys dn tl h tk (E' : Value → Shared → Prop), k ∈ ks → TupsAre g ys dn tl → LCg.NsObj oC m₂ → m₂ x = some (.int k t) → Fr h₀ L h m → News h₀ L h ((I, oI) :: (C, oC) :: (D, LCg.lst ys) :: (tl ++ news)) → LCg.Off3 I C D (tl ++ news) → ((@Ne Nat I C) ∧ (@Ne Nat I D) ∧ (@Ne Nat C D)) →
      wpAny (model prog w) A (eval elt (compEnvC scope cl C env)) (LCg.CompEnd h₀ L m { s with heap := h, toks := tk } I oI C oC D (LCg.lst ys) S (fun y news' => ∃ T t1 t2, y = .ref T ∧ news' = (T, tupO [.int k t1, .int (g k) t2]) :: (tl ++ news))) E' { s with heap := h, toks := tk })
    (fin : ∀ ys tl, TupsAre g ys ks tl → Fin ys (tl ++ news)) : LCg.CompRest prog w A h₀ L m env elt x scope cl s S P Fin n 0 [] news := by
  have key : ∀ (j i : Nat) (ys : List Value) (tl : List (Addr × Obj)), i + j = n → TupsAre g ys (ks.take i) tl → LCg.CompRest prog w A h₀ L m env elt x scope cl s S P Fin j i ys (tl ++ news) := by
    intro j
    induction j with
    | zero =>
      intro i ys tl hi hy
      have e : i = ks.length := by omega
      subst e
      rw [List.take_length] at hy
      exact LCg.CompRest.zero (fin ys tl hy)
    | succ j ih =>
      intro i ys tl hi hy
      refine LCg.CompRest.succ ?_
      intro v I oI C oC D m₂ h tk E' hv hC hx F N off ne
      obtain ⟨k, t, hk, hv'⟩ := hP i v (by omega) hv
      rw [hv'] at hx
      refine wpAny_mono (turn k t I oI C oC D m₂ ys _ tl h tk E' (List.mem_of_getElem? hk) hy hC hx F N off ne) (fun y s₂ hq => ?_) fun _ _ e => e
      obtain ⟨h', tk', nw, e, F', N', off', hS, T, t1, t2, rfl, hn⟩ := hq
      rw [hn] at N' off' hS
      refine ⟨h', tk', _, e, F', N', off', hS, ?_⟩
      have z := ih (i + 1) (ys ++ [.ref T]) ((T, tupO [.int k t1, .int (g k) t2]) :: tl) (by omega) (by rw [List.take_add_one, hk]; exact .snoc hy)
      exact z
  exact key n 0 [] [] (by omega) .nil
end
end Mine
end

section
open PySem PySem.W PyProof.Rows PySem.Calls PySem.Spec PyProof.V
namespace Mine
set_option maxRecDepth 100000
set_option maxHeartbeats 8000000
set_option linter.unusedVariables false
/-- a power and its exponent, as a datum -/
def pairD (b k : Int) : Dat := .tuple [.int k, .int (b ^ k.toNat)]
theorem TupsAre.dat {b : Int} {ys : List Value} {ks : List Int} {tl : List (Addr × Obj)} (h : TupsAre (fun k => b ^ k.toNat) ys ks tl) : DatAll tl ys (ks.map (pairD b)) := by
  induction h with
  | nil => exact .nil
  | snoc h ih =>
    rw [List.map_append]
    exact DatAll.append (ih.mono fun p hp => .tail _ hp) (.one (.tuple (.head _) (.cons (.int _ _) (.cons (.int _ _) .nil))))
theorem mk_dat {prog : Program} {w : World} {b : Int} {h : Heap} : ∀ (as : List Addr) (kvs : List (Int × Value)), as.length = kvs.length →
    (∀ (j : Nat) (a : Addr), as[j]? = some a → ∃ key k x, kvs[j]? = some (k, x) ∧ (intKind prog w).is k key = true ∧ h.get? a = some { cls := .type "tuple", data := .seq #[key, x] }) →
    (∀ p ∈ kvs, ∃ t, p.2 = .int (b ^ p.1.toNat) t) → ∃ tl, DatAll tl (as.map Value.ref) ((kvs.map (·.1)).map (pairD b)) ∧ ∀ q ∈ tl, h.get? q.1 = some q.2 ∧ q.1 ∈ as
  | [], [], _, _, _ => ⟨[], .nil, fun _ hq => nomatch hq⟩
  | [], _ :: _, e, _, _ => nomatch e
  | _ :: _, [], e, _, _ => nomatch e
  | a :: as, (k, x) :: kvs, e, hp, hv => by
    obtain ⟨tl, D, hq⟩ := mk_dat (h := h) as kvs (by simpa using e) (fun j a' ha => hp (j + 1) a' (by simpa using ha)) fun p hp => hv p (.tail _ hp)
    obtain ⟨key, k', x', e1, e2, e3⟩ := hp 0 a rfl
    obtain ⟨rfl, rfl⟩ : k = k' ∧ x = x' := by simpa using e1
    obtain ⟨t, rfl⟩ := Value.isInt_shape e2
    obtain ⟨t2, e4⟩ := hv (k, x) (.head _)
    dsimp only at e4
    subst e4
    refine ⟨(a, tupO [.int k t, .int (b ^ k.toNat) t2]) :: tl, .cons (.tuple (.head _) (.cons (.int _ _) (.cons (.int _ _) .nil))) (D.mono fun p hp => .tail _ hp), fun q hm => ?_⟩
    rcases List.mem_cons.mp hm with rfl | hm
    · exact ⟨e3, .head _⟩
    · exact ⟨(hq q hm).1, .tail _ (hq q hm).2⟩
section
variable {prog : Program} {w : World} {A : Around} {E : Value → Shared → Prop} {s : Shared} {h₀ : Heap} {L v d : Addr} {m : Str → Option Value} {news : List (Addr × Obj)} {od : Obj} {kvs : List (Int × Value)} {ks : List Int} {b : Int} {Q : Value → Shared → Prop}
theorem items_list (hh : A.handled = none) (F : Fr h₀ L s.heap m) (N : News h₀ L s.heap news) (hvw : (v, { cls := .type "dict_items", data := .fields #[.ref d] }) ∈ news) (hmd : (d, od) ∈ news) (hod : od.IsDictOf (intKind prog w) kvs) (hkv : PowKv b ks kvs) (hn : kvs.length ≤ sizeLine)
    (h : ∀ B vs tl c h' tk, (∀ q ∈ news, q.1 < B) → (∀ q ∈ tl, B < q.1) → DatAll tl vs (ks.map (pairD b)) → Fr h₀ L h' m → News h₀ L h' ((B, PySem.W.listOf vs.toArray c) :: (tl ++ news)) → Q (.ref B) { s with heap := h', toks := tk }) :
    wpAny (model prog w) A (call (.type "list") [.ref v]) Q E s := by
  obtain ⟨ep, hat⟩ := KdkAt.of hod
  refine kdx_call (knd := intKind prog w) (kvs := kvs) (ep := ep) hh ⟨_, (N _ hvw).1, rfl, rfl⟩ (hat.dictAt (N _ hmd).1) hn fun h' tk acc c as hk hS hl hG hacc => ?_
  have ea : acc = (as.map Value.ref).toArray := by rw [← hacc, Array.toArray_toList]
  obtain ⟨tl, D, hq⟩ := mk_dat (b := b) as kvs hl hG.pairs hkv.2
  rw [hkv.1] at D
  refine h _ _ tl c h' tk (fun q hm => Heap.lt_size (N q hm).1) (fun q hm => hG.above _ (hq q hm).2) D (F.keeps hk) fun q hm => ?_
  rcases List.mem_cons.mp hm with rfl | hm
  · exact ⟨by rw [← ea]; exact hS, kdx_fresh F (Nat.le_refl _)⟩
  · rcases List.mem_append.mp hm with hm | hm
    · exact ⟨(hq q hm).1, kdx_fresh F (Nat.le_of_lt (hG.above _ (hq q hm).2))⟩
    · exact ⟨hk _ _ (N q hm).1, (N q hm).2⟩
theorem type_dict (N : News h₀ L s.heap news) (hmd : (d, od) ∈ news) (hod : od.IsDictOf (intKind prog w) kvs) (h : Q (.type "dict") s) : wpAny (model prog w) A (call (.type "type") [.ref d]) Q E s := by
  obtain ⟨es, ep, hx, _⟩ := hod
  exact kto_cont ⟨od, (N _ hmd).1, hx.1⟩ (by decide +kernel) h
theorem dict_copy (F : Fr h₀ L s.heap m) (N : News h₀ L s.heap news) (hmd : (d, od) ∈ news) (lo : (d == sysModules) = false) (hod : od.IsDictOf (intKind prog w) kvs) (hn : kvs.length ≤ sizeLine)
    (h : ∀ D o h', (∀ q ∈ news, q.1 < D) → o.IsDictOf (intKind prog w) kvs → Fr h₀ L h' m → News h₀ L h' ((D, o) :: news) → Q (.ref D) { s with heap := h' }) : wpAny (model prog w) A (call (.type "dict") [.ref d]) Q E s := by
  refine kt_call_dict lo (kda_dict N hmd hod) hn fun h' hm hs => ?_
  obtain ⟨o', ho', hd'⟩ := Heap.dictOf_iff.mp hm
  have N1 := News.push F N { cls := .type "dict", data := .dict #[] }
  exact h _ o' h' (fun q hq => Heap.lt_size (N q hq).1) hd' ((F.push _).change hs (N1 _ (.head _)).2.1 (N1.fresh (.head _))) (N1.setHead N.apart hs ho')
theorem powKv_len (hkv : PowKv b ks kvs) : kvs.length = ks.length := by rw [← hkv.1, List.length_map]
end
theorem pairD_ok {b : Int} {ks : List Int} : ∀ d ∈ ks.map (pairD b), kqdOk 8 d = true := by
  intro d hd
  obtain ⟨k, _, rfl⟩ := List.mem_map.mp hd
  rfl
end Mine
end

section
open PySem PySem.W PyProof.Rows PySem.Calls PySem.Spec PyProof.V
namespace Mine
set_option maxRecDepth 100000
set_option maxHeartbeats 8000000
set_option linter.unusedVariables false
section
variable {elt t0 t1 i0 i1 c : PySem.Expr} {scope : Scope} {pos : Pos} {it acc : Value} {env : Env}
/-- a comprehension of two clauses, the inner one with a test -/
abbrev lc2 (elt t0 i0 t1 i1 c : PySem.Expr) (scope : Scope) (pos : Pos) : PySem.Expr := .ListComp elt [⟨t0, i0, [], 0⟩, ⟨t1, i1, [c], 0⟩] scope pos
theorem turn2_outer : compTurn (lc2 elt t0 i0 t1 i1 c scope pos) 0 it acc env = (standAt i0.pos >>= fun _ => pyNext it >>= fun r => match r with
      | none => pure (.done .next)
      | some v => letOwnedTupleGo t0 it v >>= fun _ => assign t0 env v >>= fun _ => eval i1 env >>= fun x => standAt i1.pos >>= fun _ => foldedSetIterable i1 env x >>= fun x =>
          holding [x] (pyIter x) >>= fun y => runOwn (.compStart (lc2 elt t0 i0 t1 i1 c scope pos) 1 y acc env) env >>= fun _ => again (.compLoop (lc2 elt t0 i0 t1 i1 c scope pos) 0 it acc env)) := by rfl
theorem turn2_inner : compTurn (lc2 elt t0 i0 t1 i1 c scope pos) 1 it acc env = (do
      standAt i1.pos
      match ← pyNext it with
      | none => pure (.done .next)
      | some v =>
        letOwnedTupleGo t1 it v
        assign t1 env v
        let mut ok := true
        for c in [c] do
          if ok then ok ← isTrue c env (eval c env)
        if ok then
          (do let _ ← call (.builtin "list.append") [acc, ← eval elt env])
        again (.compLoop (lc2 elt t0 i0 t1 i1 c scope pos) 1 it acc env)) := by rfl
end
section
variable {prog : Program} {w : World} {A : Around} {R : Result → Shared → Prop} {s : Shared}
variable {elt t0 t1 i0 i1 c : PySem.Expr} {scope : Scope} {pos : Pos} {it acc : Value} {env : Env}
theorem loop2_outer (I : Nat → Shared → Prop)
    (turn : ∀ n s, I n s → wpAny (model prog w) A (pyNext it) (fun r s₁ => match r with
      | none => R (.ok .next) s₁
      | some v => wpAny (model prog w) A (assign t0 env v) (fun _ s₂ => wpAny (model prog w) A (eval i1 env) (fun x s₃ => wpAny (model prog w) A (pyIter x) (fun y s₄ =>
          codeAny (model prog w) (A.mark none) (.compStart (lc2 elt t0 i0 t1 i1 c scope pos) 1 y acc env) (fun r s' => match r with | .ok _ => ∃ m, m < n ∧ I m s' | .error e => cameBackBy (model prog w) A env (notedBy (model prog w) A env fun e s' => R (.error e) s') e s') s₄)
            (notedBy (model prog w) A env fun e s' => R (.error e) s') s₃) (notedBy (model prog w) A env fun e s' => R (.error e) s') s₂) (notedBy (model prog w) A env fun e s' => R (.error e) s') s₁) (notedBy (model prog w) A env fun e s' => R (.error e) s') s)
    (n : Nat) (h : I n s) (ht : ∀ v, letOwnedTupleGo t0 it v = pure () := by intro _; rfl) (hf : ∀ x, foldedSetIterable i1 env x = pure x := by intro _; rfl) :
    codeAny (model prog w) A (.compLoop (lc2 elt t0 i0 t1 i1 c scope pos) 0 it acc env) R s := by
  refine codeAny_loop rfl I (fun n s hI => ?_) n h
  show wpAny _ A ((compTurn (lc2 elt t0 i0 t1 i1 c scope pos) 0 it acc env).onRaise (fun x => do noteFrame x env; theTreesLotGoes x)) _ _ s
  refine wpAny_noted ?_
  rw [turn2_outer]
  refine wpAny_bind (wpAny_standAt (wpAny_bind (wpAny_mono (turn n s hI) (fun r s₁ h₁ => ?_) fun _ _ h' => h')))
  cases r with
  | none => exact wpAny_pure h₁
  | some v =>
    refine wpAny_bind (wpAny_of_eq (ht v) ?_)
    refine wpAny_bind (wpAny_mono h₁ (fun _ s₂ h₂ => wpAny_bind (wpAny_mono h₂ (fun x s₃ h₃ => wpAny_bind (wpAny_standAt (wpAny_bind (wpAny_of_eq (hf x) (wpAny_bind (wpAny_holding (wpAny_mono h₃ (fun y s₄ h₄ => ?_) fun _ _ h' => h'))))))) fun _ _ h' => h')) fun _ _ h' => h')
    refine wpAny_bind (wpAny_runOwn (codeAny_mono h₄ fun r s' hr => ?_))
    cases r with
    | ok f => exact wpAny_pure ⟨rfl, hr⟩
    | error e => exact hr
theorem loop2_inner (I : Nat → Shared → Prop)
    (turn : ∀ n s, I n s → wpAny (model prog w) A (pyNext it) (fun r s₁ => match r with
      | none => R (.ok .next) s₁
      | some v => wpAny (model prog w) A (assign t1 env v) (fun _ s₂ => wpAny (model prog w) A (isTrue c env (eval c env)) (fun ok s₃ => ok = false ∧ ∃ m, m < n ∧ I m s₃)
          (notedBy (model prog w) A env fun e s' => R (.error e) s') s₂) (notedBy (model prog w) A env fun e s' => R (.error e) s') s₁) (notedBy (model prog w) A env fun e s' => R (.error e) s') s)
    (n : Nat) (h : I n s) (ht : ∀ v, letOwnedTupleGo t1 it v = pure () := by intro _; rfl) :
    codeAny (model prog w) A (.compLoop (lc2 elt t0 i0 t1 i1 c scope pos) 1 it acc env) R s := by
  refine codeAny_loop rfl I (fun n s hI => ?_) n h
  show wpAny _ A ((compTurn (lc2 elt t0 i0 t1 i1 c scope pos) 1 it acc env).onRaise (fun x => do noteFrame x env; theTreesLotGoes x)) _ _ s
  refine wpAny_noted ?_
  rw [turn2_inner]
  refine wpAny_bind (wpAny_standAt (wpAny_bind (wpAny_mono (turn n s hI) (fun r s₁ h₁ => ?_) fun _ _ h' => h')))
  cases r with
  | none => exact wpAny_pure h₁
  | some v =>
    refine wpAny_bind (wpAny_of_eq (ht v) ?_)
    refine wpAny_bind (wpAny_mono h₁ (fun _ s₂ h₂ => wpAny_bind (wpAny_tests_one (wpAny_mono h₂ (fun ok s₃ h₃ => ?_) fun _ _ h' => h'))) fun _ _ h' => h')
    obtain ⟨rfl, h₃⟩ := h₃
    exact wpAny_pure ⟨rfl, h₃⟩
theorem start2_inner (h0 : codeAny (model prog w) A (.compLoop (lc2 elt t0 i0 t1 i1 c scope pos) 1 it acc env) R s)
    (h : wpAny (model prog w) A (pyIter it) (fun it' s' => codeAny (model prog w) A (.compLoop (lc2 elt t0 i0 t1 i1 c scope pos) 1 it' acc env) R s') (notedBy (model prog w) A env fun x s' => R (.error x) s') s) :
    codeAny (model prog w) A (.compStart (lc2 elt t0 i0 t1 i1 c scope pos) 1 it acc env) R s := by
  refine codeAny_of_tree ?_
  show wpAny _ _ ((compStart (lc2 elt t0 i0 t1 i1 c scope pos) 1 it acc env).onRaise (fun x => do noteFrame x env; standAt theWindowsPlace)) _ _ s
  refine wpAny_notedAt ?_
  unfold compStart
  show wpAny _ _ (ask >>= _) _ _ s
  refine wpAny_bind (wpAny_askSetting (wpAny_ite ?_))
  split
  · first
      | exact wpAny_bind (wpAny_pure (wpAny_pure (And.intro rfl h0)))
      | exact wpAny_pure (And.intro rfl h0)
  · first
      | exact wpAny_bind (wpAny_rule (wpAny_bind (wpAny_standAt (wpAny_bind (wpAny_mono h (fun it' s' h' => wpAny_pure (And.intro rfl h')) fun _ _ x => x)))))
      | (refine wpAny_bind (wpAny_rule ?_); show wpAny _ _ (standAt i1.pos >>= _) _ _ s; exact wpAny_bind (wpAny_standAt (wpAny_bind (wpAny_mono h (fun it' s' h' => wpAny_pure (And.intro rfl h')) fun _ _ x => x))))
end
end Mine
end

section
open PySem PySem.W PyProof.Rows PySem.Calls PySem.Spec PyProof.V
namespace Mine
set_option maxRecDepth 100000
set_option maxHeartbeats 8000000
set_option linter.unusedVariables false
section
variable {prog : Program} {w : World} {A : Around} {E : Value → Shared → Prop} {s : Shared} {h₀ : Heap} {L : Addr} {m : Str → Option Value} {env : Env}
/-- what a comprehension of two clauses over the items of a dict of powers needs of its source -/
inductive ThSrc (prog : Program) (w : World) (A : Around) (h₀ : Heap) (L : Addr) (m : Str → Option Value) (env : Env) (c : PySem.Expr) (b : Str) (scope : Scope) (Q : Value → Shared → Prop) (xv : Value) (s₁ : Shared) : Prop
  | mk (vw d : Addr) (od : Obj) (kvs : List (Int × Value)) (ks : List Int) (b' : Int) (news : List (Addr × Obj)) (_ : xv = .ref vw) (_ : A.handled = none) (_ : Fr h₀ L s₁.heap m) (_ : News h₀ L s₁.heap news) (_ : (vw, ({ cls := .type "dict_items", data := .fields #[.ref d] } : Obj)) ∈ news) (_ : (d, od) ∈ news) (_ : od.IsDictOf (intKind prog w) kvs) (_ : PowKv b' ks kvs) (_ : kvs.length ≤ sizeLine) (_ : (∀ C oC m₂ h tk k t (E' : Value → Shared → Prop), C ≠ L → h₀.get? C = none → (∀ x o, s₁.heap.get? x = some o → h.get? x = some o) → h.get? C = some oC → LCg.NsObj oC m₂ → m₂ b = some (.int k t) →
      wpAny (model prog w) A (isTrue c (compEnvC scope [] C env) (eval c (compEnvC scope [] C env))) (fun ok s₃ => ok = false ∧ ∃ tk', s₃ = { s₁ with heap := h, toks := tk' }) E' { s₁ with heap := h, toks := tk })) (_ : (∀ D h' tk, (∀ q ∈ news, q.1 < D) → Fr h₀ L h' m → News h₀ L h' ((D, LCg.lst []) :: news) → Q (.ref D) { s₁ with heap := h', toks := tk }))
theorem things_comp {elt iter c : PySem.Expr} {a b : Str} {pa pb pa2 : Pos} {scope : Scope} {pos : Pos} {Q : Value → Shared → Prop} (F₀ : Fr h₀ L s.heap m)
    (hclos : closureFor scope env = pure []) (hcell : ∀ y ∈ scope.names, y.2 ≠ .cell) (hkind : scope.kind = .function)
    (hnames : ∀ y ∈ scope.names, y.2 = .local → scope.names.lookup y.1 = some .local) (hxa : scope.names.lookup a = some .local) (hxb : scope.names.lookup b = some .local) (hda : (a == ("__debug__" : Str)) = false) 
    (h : wpAny (model prog w) A (eval iter env) (ThSrc prog w A h₀ L m env c b scope Q) E s)
    (hs : ∀ x, foldedSetIterable iter env x = pure x := by intro _; rfl) :
    wpAny (model prog w) A (eval (lc2 elt (.Name a pa) iter (.Name b pb) (.Name a pa2) c scope pos) env) Q E s := by
  rw [eval_ListComp]
  refine wpAny_comprehension_free (use := none) (cl := []) rfl hs hclos hkind hnames (wpAny_mono h (fun xv s₁ h₁ => ?_) fun _ _ e => e)
  obtain ⟨vw, d, od, kvs, ks, b', news, rfl, hh, F, N, hvw, hmd, hod, hkv, hsz, test, fin⟩ := h₁
  obtain ⟨ep, hat⟩ := KdkAt.of hod
  have hdat := hat.dictAt (N _ hmd).1
  refine wpAny_pyIter_items ⟨_, (N _ hvw).1, rfl, rfl⟩ hdat ?_
  generalize hI : s₁.heap.objs.size = I
  have hIl : ∀ b o, s₁.heap.get? b = some o → b < I := fun b o e => hI ▸ Heap.lt_size e
  generalize hH1 : s₁.heap.push { cls := .type "dict_itemiterator", data := .fields #[.none, .bool false, .ref d, .int 0 0, .int kvs.length 0, .int ep 0, .none, .none] } = H1
  have hit1 : IsItemIter H1 I d 0 kvs.length ep .none .none := by rw [← hH1, ← hI]; exact Heap.get?_push_size _ rfl
  have up1 : ∀ b o, s₁.heap.get? b = some o → H1.get? b = some o := fun b o e => by rw [← hH1]; exact Heap.get?_push_of_some _ e
  have z1 : H1.objs.size = I + 1 := by rw [← hH1, Heap.size_push, hI]
  refine wpAny_newObj_type (wpAny_newFunctionEnv hcell (by intro y hy; simp at hy) (fun h₁ hns₁ hsb₁ => ?_) hkind)
  dsimp only at hns₁ hsb₁ ⊢
  generalize hH2 : H1.push { cls := .type "list", dict := none, data := .seq ([] : List Value).toArray } = H2 at hns₁ hsb₁ ⊢
  have z2 : H2.objs.size = I + 1 + 1 := by rw [← hH2, Heap.size_push, z1]
  have hD2 : H2.get? H1.objs.size = some (LCg.lst []) := by rw [← hH2]; exact Heap.get?_push_size _ rfl
  have up2 : ∀ b o, H1.get? b = some o → H2.get? b = some o := fun b o e => by rw [← hH2]; exact Heap.get?_push_of_some _ e
  rw [z1] at hD2 ⊢
  rw [z2] at hns₁ hsb₁ ⊢
  have neC : ∀ b, b < I + 1 + 1 → b ≠ I + 1 + 1 := fun b hb => Nat.ne_of_lt hb
  have up3 : ∀ b o, s₁.heap.get? b = some o → h₁.get? b = some o := fun b o e => hsb₁.extBut b o (neC b (Nat.lt_succ_of_lt (Nat.lt_succ_of_lt (hIl b o e)))) (Heap.get?_push_of_some _ (up2 b o (up1 b o e)))
  have hit3 : IsItemIter h₁ I d 0 kvs.length ep .none .none := hsb₁.extBut I _ (neC I (Nat.lt_succ_of_lt (Nat.lt_succ_self _))) (Heap.get?_push_of_some _ (up2 I _ hit1))
  have hD3 : h₁.get? (I + 1) = some (LCg.lst []) := hsb₁.extBut _ _ (neC _ (Nat.lt_succ_self _)) (Heap.get?_push_of_some _ hD2)
  have hCL : I + 1 + 1 ≠ L := fun e => by have := F.ns.lt; rw [hI] at this; rw [← e] at this; exact absurd this (Nat.not_lt.mpr (Nat.le_of_lt (Nat.lt_succ_of_lt (Nat.lt_succ_self _))))
  have fr0 : ∀ x, I ≤ x → x ≠ L ∧ h₀.get? x = none := fun x hx => kdx_fresh F (hI ▸ hx)
  have hCI : I ≠ I + 1 + 1 := neC I (Nat.lt_succ_of_lt (Nat.lt_succ_self _))
  have hCD : I + 1 ≠ I + 1 + 1 := neC _ (Nat.lt_succ_self _)
  have hDI : I + 1 ≠ I := Nat.ne_of_gt (Nat.lt_succ_self _)
  have loop : ∀ s₃ : Shared, s₃ = { s₁ with heap := h₁, toks := s₁.toks + ([] : List (Str × Value)).length } →
      codeAny (model prog w) A (.compLoop (lc2 elt (.Name a pa) iter (.Name b pb) (.Name a pa2) c scope pos) 0 (.ref I) (.ref (I + 1)) (compEnvC scope [] (I + 1 + 1) env)) (compPost (model prog w) A E none Q (.ref (I + 1)) (I + 1 + 1)) s₃ := by
    rintro s₃ rfl
    refine loop2_outer (fun k s' => ∃ h' tk i m', s' = { s₁ with heap := h', toks := tk } ∧ i ≤ kvs.length ∧ k = kvs.length + 1 - i ∧ KdxSt h' I d (I + 1 + 1) i kvs.length ep ∧ h'.get? (I + 1) = some (LCg.lst []) ∧ h'.Ns (I + 1 + 1) m' ∧
      ∀ b o, s₁.heap.get? b = some o → h'.get? b = some o) ?_ (kvs.length + 1) ⟨h₁, _, 0, _, rfl, Nat.zero_le _, rfl, .inl ⟨rfl, _, _, hit3⟩, hD3, hns₁, up3⟩
    intro k s' hIv0
    try k_fold
    obtain ⟨h', tk, i, m', rfl, hi, rfl, hst, hD', hns', keep⟩ := hIv0
    have hdat' : h'.DictAt (intKind prog w) d kvs ep := hdat.at' fun o e => keep d o e
    try k_fold
    by_cases hlt : i < kvs.length
    · try k_fold
      obtain ⟨⟨kk, x⟩, hx⟩ : ∃ p, kvs[i]? = some p := ⟨kvs[i], List.getElem?_eq_getElem hlt⟩
      refine kdx_item (s := { s₁ with heap := h', toks := tk }) hst hns'.lt hdat' hx fun key h₂ hkey hst₂ hT hz hkp => ?_
      try k_fold
      obtain ⟨t, rfl⟩ := Value.isInt_shape hkey
      try k_fold
      obtain ⟨t2, hx2⟩ := hkv.2 (kk, x) (List.mem_of_getElem? hx)
      dsimp only at hx2 hT hz hkp ⊢
      try k_fold
      subst hx2
      generalize hTn : h'.objs.size = T at hT hz hkp ⊢
      have hTC : T ≠ I + 1 + 1 := fun e => by have := hns'.lt; rw [hTn, e] at this; exact Nat.lt_irrefl _ this
      have hns₂ : h₂.Ns (I + 1 + 1) m' := hns'.at' fun o e => hkp _ o (Ne.symm hCI) e
      refine wpAny_assign_Name (wpAny_storeName_local (lookup_relabel_local hxa) hns₂ (fun h₃ hn₃ hs₃ => ?_) (by simp [compEnvC, relabel, hkind]))
      refine ldVarK hn₃ (if_pos rfl) ?_ (by simp [compEnvC, relabel, hkind]) (lookup_relabel_local hxa) hda
      have hT3 : h₃.get? T = some { cls := .type "tuple", data := .seq #[.int kk t, .int (b' ^ kk.toNat) t2] } := hs₃.extBut T _ hTC hT
      refine wpAny_pyIter_tuple (t := T) (items := #[.int kk t, .int (b' ^ kk.toNat) t2]) ⟨_, hT3, rfl, _, rfl⟩ ?_
      try k_unfold
      try dsimp only
      generalize hJn : h₃.objs.size = J
      have hJlt : ∀ b o, h₃.get? b = some o → b < J := fun b o e => hJn ▸ Heap.lt_size e
      have hJC : J ≠ I + 1 + 1 := Nat.ne_of_gt (hJn ▸ hn₃.lt)
      have hJT : T ≠ J := Nat.ne_of_lt (hJlt T _ hT3)
      generalize hH4 : h₃.push { cls := .type "tuple_iterator", data := .fields #[.ref T, .int 0 0] } = H4
      have hJ4 : H4.IsTupleIter J T 0 := by rw [← hH4, ← hJn]; exact ⟨_, Heap.get?_push_size _ rfl, rfl, rfl⟩
      have up4 : ∀ b o, h₃.get? b = some o → H4.get? b = some o := fun b o e => by rw [← hH4]; exact Heap.get?_push_of_some _ e
      have inner : ∀ s₅ : Shared, s₅ = { s₁ with heap := H4, toks := tk + 1 } → codeAny (model prog w) A (.compLoop (lc2 elt (.Name a pa) iter (.Name b pb) (.Name a pa2) c scope pos) 1 (.ref J) (.ref (I + 1)) (compEnvC scope [] (I + 1 + 1) env))
          (fun r s' => match r with | .ok _ => ∃ m, m < kvs.length + 1 - i ∧ (∃ h' tk i m', s' = { s₁ with heap := h', toks := tk } ∧ i ≤ kvs.length ∧ m = kvs.length + 1 - i ∧ KdxSt h' I d (I + 1 + 1) i kvs.length ep ∧ h'.get? (I + 1) = some (LCg.lst []) ∧ h'.Ns (I + 1 + 1) m' ∧
            ∀ b o, s₁.heap.get? b = some o → h'.get? b = some o) | .error e => cameBackBy (model prog w) A (compEnvC scope [] (I + 1 + 1) env) (notedBy (model prog w) A (compEnvC scope [] (I + 1 + 1) env) fun e s' => compPost (model prog w) A E none Q (.ref (I + 1)) (I + 1 + 1) (.error e) s') e s') s₅ := by
        rintro s₅ rfl
        refine loop2_inner (fun k s' => ∃ h' tk j m', s' = { s₁ with heap := h', toks := tk } ∧ j ≤ 2 ∧ k = 3 - j ∧ h'.IsTupleIter J T j ∧ h'.Ns (I + 1 + 1) m' ∧ ∀ b o, b ≠ J → b ≠ I + 1 + 1 → H4.get? b = some o → h'.get? b = some o) ?_ 3
          ⟨H4, _, 0, _, rfl, Nat.zero_le _, rfl, hJ4, hn₃.keeps up4, fun _ _ _ _ e => e⟩
        intro k5 s₆ hIv0
        try k_fold
        obtain ⟨h₆, tk6, j, m6, rfl, hj, rfl, hit6, hns6, keep6⟩ := hIv0
        have hT6 : h₆.IsTuple T #[.int kk t, .int (b' ^ kk.toNat) t2] := ⟨_, keep6 T _ hJT hTC (up4 T _ hT3), rfl, _, rfl⟩
        have old6 : ∀ b o, s₁.heap.get? b = some o → h₆.get? b = some o := fun b o e => by
          have h1 := hIl b o e
          have h2 : h₃.get? b = some o := hs₃.extBut b o (neC b (Nat.lt_succ_of_lt (Nat.lt_succ_of_lt h1))) (hkp b o (Nat.ne_of_lt h1) (keep b o e))
          exact keep6 b o (Nat.ne_of_lt (hJlt b o h2)) (neC b (Nat.lt_succ_of_lt (Nat.lt_succ_of_lt h1))) (up4 b o h2)
        try k_fold
        by_cases hj2 : j = 2
        · try k_fold
          subst hj2
          refine wpAny_pyNext_tuple_end hh hit6 hT6 rfl fun h₇ he₇ => ?_
          try k_unfold
          try dsimp only
          refine ⟨kvs.length + 1 - (i + 1), by omega, h₇, tk6, i + 1, m6, rfl, hlt, rfl, hst₂.keep (fun b o hb e => ?_) hCI, ?_, hns6.extBut he₇ (Ne.symm hJC), fun b o e => ?_⟩
          · have h2 : h₃.get? b = some o := hs₃.extBut b o hb e
            exact he₇ b o (Nat.ne_of_lt (hJlt b o h2)) (keep6 b o (Nat.ne_of_lt (hJlt b o h2)) hb (up4 b o h2))
          · have h2 : h₃.get? (I + 1) = some (LCg.lst []) := hs₃.extBut _ _ hCD (hkp _ _ hDI hD')
            exact he₇ _ _ (Nat.ne_of_lt (hJlt _ _ h2)) (keep6 _ _ (Nat.ne_of_lt (hJlt _ _ h2)) hCD (up4 _ _ h2))
          · have h1 := hIl b o e
            have h2 : h₃.get? b = some o := hs₃.extBut b o (neC b (Nat.lt_succ_of_lt (Nat.lt_succ_of_lt h1))) (hkp b o (Nat.ne_of_lt h1) (keep b o e))
            exact he₇ b o (Nat.ne_of_lt (hJlt b o h2)) (old6 b o e)
        · try k_fold
          obtain ⟨q, tq, hq⟩ : ∃ q tq, (#[.int kk t, .int (b' ^ kk.toNat) t2] : Array Value)[j]? = some (.int q tq) := by
            have : j = 0 ∨ j = 1 := by omega
            rcases this with rfl | rfl
            · exact ⟨_, _, rfl⟩
            · exact ⟨_, _, rfl⟩
          refine wpAny_pyNext_tuple_item hit6 hT6 hq fun h₇ hit₇ hs₇ => ?_
          refine wpAny_assign_Name (wpAny_storeName_local (lookup_relabel_local hxb) (hns6.sameBut hs₇ (Ne.symm hJC)) (fun h₈ hn₈ hs₈ => ?_) (by simp [compEnvC, relabel, hkind]))
          try k_fold
          obtain ⟨oC, heC, hoC⟩ := LCg.ns_obj hn₈
          have old8 : ∀ b o, s₁.heap.get? b = some o → h₈.get? b = some o := fun b o e => by
            have h1 := hIl b o e
            have h2 : h₃.get? b = some o := hs₃.extBut b o (neC b (Nat.lt_succ_of_lt (Nat.lt_succ_of_lt h1))) (hkp b o (Nat.ne_of_lt h1) (keep b o e))
            exact hs₈.extBut b o (neC b (Nat.lt_succ_of_lt (Nat.lt_succ_of_lt h1))) (hs₇.extBut b o (Nat.ne_of_lt (hJlt b o h2)) (old6 b o e))
          refine wpAny_mono (test (I + 1 + 1) oC _ h₈ _ q tq _ hCL (fr0 _ (Nat.le_of_lt (Nat.lt_succ_of_lt (Nat.lt_succ_self _)))).2 old8 heC hoC (by simp)) (fun ok s₉ h₉ => ?_) fun _ _ e => e
          try k_fold
          obtain ⟨rfl, tk9, rfl⟩ := h₉
          refine ⟨rfl, 3 - (j + 1), by omega, h₈, tk9, j + 1, _, rfl, by omega, rfl, hit₇.extBut hs₈.extBut hJC, hn₈, fun b o h1 h2 e => hs₈.extBut b o h2 (hs₇.extBut b o h1 (keep6 b o h1 h2 e))⟩
      show codeAny (model prog w) A _ _ _
      refine start2_inner (inner _ rfl) ?_
      exact wpAny_pyIter_tupleiter hJ4 (inner _ rfl)
    · have hin : i = kvs.length := Nat.le_antisymm hi (Nat.not_lt.mp hlt)
      try k_fold
      subst hin
      refine kdx_done (s := { s₁ with heap := h', toks := tk }) hh hst hdat' (List.getElem?_eq_none (Nat.le_refl _)) fun h₅ he₅ => ?_
      dsimp only at he₅ ⊢
      refine ⟨m', hns'.extBut he₅ (Ne.symm hCI), fun h₆ hs₆ => ?_⟩
      have old : ∀ b o, s₁.heap.get? b = some o → h₆.get? b = some o := fun b o e => by
        have h1 := hIl b o e
        exact hs₆.extBut b o (neC b (Nat.lt_succ_of_lt (Nat.lt_succ_of_lt h1))) (he₅ b o (Nat.ne_of_lt h1) (keep b o e))
      refine fin (I + 1) h₆ tk (fun q hq => Nat.lt_succ_of_lt (hIl _ _ (N q hq).1)) (F.keeps old) fun q hq => ?_
      rcases List.mem_cons.mp hq with rfl | hq
      · exact ⟨hs₆.extBut _ _ hCD (he₅ _ _ hDI hD'), fr0 _ (Nat.le_of_lt (Nat.lt_succ_self _))⟩
      · exact ⟨old _ _ (N q hq).1, (N q hq).2⟩
  exact codeAny_compStart_list (loop _ rfl) (kcp_self hit3 (loop _ rfl))
end
end Mine
end

section
open PySem PySem.W PyProof.Rows PySem.Calls PySem.Spec
namespace Mine
set_option maxRecDepth 100000
set_option maxHeartbeats 8000000
set_option linter.unusedVariables false
set_option pp.deepTerms false
set_option pp.deepTerms.threshold 4
theorem fillKq3 : (fun P => hd.heap_39 P) = hd.heap_39 ∧ PySem.Challenge.rw_wv0074_01 = PySem.Challenge.rw_wv0074_01 := by
  k_fill
  w_top off
  exact ⟨rfl, rfl⟩
section
variable {prog : Program} {w : World} {p : Program} {loose : List Str} {mean : ExcName → Option Value} {mg mb : Str → Option Value} 
 {dp un : Nat} {gd : Option (List Code)} {nm : Str} {cs : Scope} {a : Addr} {ccd : Value} {cl : List (Str × Addr)} {outer : List Env} {A₀ : Around} {base h₀ : Heap} {L : Addr} {m : Str → Option Value} {s : Shared}
    {Q E : Value → Shared → Prop}
local macro_rules | `(tactic| walk_at "call ref") => `(tactic| (k_here; refine Halt.out ?_))
local macro_rules | `(tactic| walk_at "exec Assign cons ListComp") => `(tactic| (k_here; refine Halt.out ?_))
local macro_rules | `(tactic| walk_at "exec For Name Call cons nil") => `(tactic| (k_here; refine Halt.out ?_))
theorem with_hd {g h : Heap} {L I : Addr} {oI : Obj} {rest : List (Addr × Obj)} (N : News g L h ((I, oI) :: rest)) {P : Prop} (k : ∀ I', I' = I → P) : P := k I rfl
local macro_rules | `(tactic| walk_at "call type:type") => `(tactic| (k_here; k_dflt (refine' type_dict ?N ?m ?d ?_; (case N => k_asm); (case m => k_mem); (case d => assumption))))
local macro_rules | `(tactic| walk_at "call type:list") => `(tactic| (k_here; refine Halt.out ?_))
local macro_rules | `(tactic| walk_at "compareOp NotEq ref ref") => `(tactic| (k_here; refine Halt.out ?_))
local macro_rules | `(tactic| walk_at "eval ListComp") => `(tactic| (k_here; refine Halt.out ?_))
local macro_rules | `(tactic| walk_at "call type:dict") => `(tactic| (k_here; refine Halt.out ?_))
local macro_rules | `(tactic| walk_at "setItem ref int") => `(tactic| (k_here; refine Halt.out ?_))
local macro_rules | `(tactic| k_all) => `(tactic| first | assumption | fail "none at hand")
/-- where the telling of the powers stands -/
inductive TInv (prog : Program) (w : World) (g : Heap) (L : Addr) (b : Int) (hs : List Int) (I Dd c : Addr) (oB : Obj) (ys : List Value) (tl : List (Addr × Obj)) (m₀ : Str → Option Value) (s₀ : Shared) (n : Nat) (s : Shared) : Prop
  | mk (h tk dr j v1 v2 v3 : _) (_ : s = { s₀ with heap := h, toks := tk, drawn := dr }) (_ : j + n = 2) (_ : Fr g L h (fun y => if y = Str.ofString "turn" then v1 else if y = Str.ofString "powers" then v2 else if y = Str.ofString "kept" then v3 else m₀ y)) (_ : News g L h ((I, rIt j (2 - j : Int)) :: (Dd, LCg.lst ys) :: (c, oB) :: tl)) (_ : (j = 0 ∨ ∃ K oK kvs, v3 = some (.ref K) ∧ @Ne Nat K I ∧ News g L h [(K, oK)] ∧ oK.IsDictOf (intKind prog w) kvs ∧ PowKv b hs kvs))
theorem news_rot {g h : Heap} {L : Addr} {a b c x y : Addr × Obj} {tl : List (Addr × Obj)} (N : News g L h (a :: b :: c :: (tl ++ [x, y]))) : News g L h (a :: b :: c :: x :: y :: tl) := fun p hp => N p (by
  simp only [List.mem_cons, List.mem_append, List.not_mem_nil, or_false] at hp ⊢
  rcases hp with hp | hp | hp | hp | hp | hp <;> simp only [hp, true_or, or_true])
theorem news_rot1 {g h : Heap} {L : Addr} {a x y : Addr × Obj} {tl : List (Addr × Obj)} (N : News g L h (a :: (tl ++ [x, y]))) : News g L h (a :: y :: tl) := fun p hp => N p (by
  simp only [List.mem_cons, List.mem_append, List.not_mem_nil, or_false] at hp ⊢
  rcases hp with hp | hp | hp <;> simp only [hp, true_or, or_true])
theorem mem_unrot {d a b c x y : Addr × Obj} {tl : List (Addr × Obj)} : ∀ p ∈ a :: b :: c :: d :: (tl ++ [x, y]), p ∈ d :: a :: b :: c :: x :: y :: tl := fun p hp => by
  simp only [List.mem_cons, List.mem_append, List.not_mem_nil, or_false] at hp ⊢
  rcases hp with hp | hp | hp | hp | hp | hp | hp <;> simp only [hp, true_or, or_true]
theorem ct_told {x b lim : Int} {tx tb tl : Tok}
    (B : Below A₀ base outer h₀) (F : Fr h₀ L s.heap m) (X : (hd.heap_39 w.params).In h₀) (T : Top p loose mean mg mb h₀) (hk : cs.kind = .function) (hd : dp + 30 < recursionLimit) (hu : un + 200 < cLine)
    (hx0 : 2 ≤ x) (hx1 : x ≤ 52) (hl0 : 1 ≤ lim) (hl1 : lim ≤ 13) (hb0 : -60 ≤ b) (hb1 : b ≤ 60) (hok : okL (hsC x lim) = true)
    (ret : ∀ kvs D od h' tk dr, Ext [] s.heap h' → s.heap.get? D = none → h'.get? D = some od → od.IsDictOf (intKind prog w) kvs → PowKv b (hsC x lim) kvs → Q (.ref D) { s with heap := h', toks := tk, drawn := dr }) :
    wpAny (model prog w) (ktrTop dp un gd nm cs L a ccd cl outer) (call (.ref 76) [.int x tx, .int lim tl, .int b tb]) Q E s := by
  refine wpAny_call ?_
  k_dflt (refine' enter_butC (ds := []) B F X News.nil T ?kA ?kF ?kK ?kfo ?kd ?kc ?k8 ?k9 ?kB ?kN ?_ ?c2 ?c3 ?c4)
  case kA => exact rfl
  case kF => exact rfl
  case kK => exact hk
  case kfo => exact F.keep _ _ (X _ _ (by k_is))
  case kd => exact rfl
  case kc => exact (codeRec_of X (by k_is)).keeps F.keep
  case k8 => show dp < recursionLimit; omega
  case k9 => exact BindsTo.of_eq rfl
  case kB => exact rfl
  case kN => decide +kernel
  case c2 => rfl
  case c3 => rfl
  case c4 => rfl
  intro g' L' h' tk' cells' mz EG NG F' N' Y' l1 B' X' T' ST' envz Az Qz Ez
  clear ST' l1
  k_cells Y'
  rename Obj => oB
  simp only [List.append_nil] at N'
  try dsimp only
  k_steps
  refine Halt.on ?_
  rename Fr _ _ _ _ => Fc
  rename News _ _ _ _ => Nc
  refine LCg.Assign_ListComp_U (F₀ := Fc) (by rfl) (by with_unfolding_all rfl) (by with_unfolding_all rfl) (by decide) (by rfl) (by decide) (by rfl) (by rfl) (by rfl) ?_
  k_steps
  refine Halt.on ?_
  rename Fr _ _ _ _ => F1
  rename News _ _ _ _ => N1
  k_dflt (refine' ct_halves B' F1 X' T' ?hk ?hd ?hu hx0 ?hx hl0 ?_)
  case hk => rfl
  case hd => show dp + 1 + 10 < recursionLimit; omega
  case hu => show un + 3 + 20 < cLine; omega
  case hx => omega
  intro Dh vh hs ch h2 tk2 e2 nDh hDh hIh hph hsh
  have F2 := ext_fr0 e2 F1
  have N2 := news_new F1 (ext_news0 e2 N1) hDh nDh
  have lDh := news_off N1 nDh
  have hx64 : x < 2 ^ Builtin.Int.intBits x := lt_bits x (by clear lDh; omega)
  have hx00 : (0 : Int) ≤ x := by clear lDh; omega
  have h5 : Builtin.Int.intBits x ≤ 6 := bits_lt hx00 (by clear lDh; omega)
  (replace lDh := Mine.allNe_of lDh; simp only [Mine.AllNe, and_true] at lDh)
  have ehs : hs = hsC x lim := by
    refine hsC_eq hx0 hx1 hl0 hl1 (strict_of hsh (hph.nodup_iff.mpr (hTo_nodup _ _ _))) fun k => ?_
    rw [hph.mem_iff]
    exact halves_agree hx00 hl0 hx64
  subst ehs
  have hall : ∀ k ∈ hsC x lim, 1 ≤ k ∧ k ≤ 60 := fun k hk => by
    obtain ⟨v, hv, e⟩ := ((hsC_spec hx0 hx1 hl0 hl1).2.1 k).mp hk
    have := hv.lo; have := hv.hi hl0; clear lDh; omega
  clear F1 N1
  refine LCg.CompSrc.ledger (by rfl) F2 N2 (.head _) ?hsz ?_
  case hsz =>
    have := hIh.length
    have h3 := hph.length_eq
    have h4 := hTo_len x lim (Builtin.Int.intBits x)
    rw [sizeLine_eq]; simp; clear lDh; omega
  intro g5
  refine tup_rest (ks := hsC x lim) (fun k => b ^ k.toNat) (by rw [List.size_toArray]; exact hIh.length.symm) (fun i v _ hv => by
    obtain ⟨k, t, e, hk⟩ := IntsAre.at hIh i v (by simpa using hv)
    exact ⟨k, t, hk, e⟩) ?turn ?fin
  case turn =>
    intro k t I oI C oC D m₂ ys dn tl h tk E' hk hty hC hx9 F3 N3 off3 ne3
    obtain ⟨hk0, hk1⟩ := hall k hk
    have N4 := news_rot N3
    clear N3 ne3 hall lDh N2 F2
    have hKd : KdMark := kdMark
    have hpw := pow_bits' hb0 hb1 (j := k.toNat) (by omega)
    k_steps
    rename Fr _ _ _ _ => F9
    rename News _ _ _ _ => N9
    rename_i l9
    refine LCg.CompEnd.intro F9 N9 _ mem_unrot ⟨⟨neN ?_, neN ?_, neN ?_⟩, off3⟩ (.inr ⟨_, .tail _ (List.mem_append_right _ (.head _)), rfl, _, rfl⟩) ⟨_, _, _, rfl, rfl⟩
    all_goals (clear off3; omega)
  case fin =>
    intro ys tl hty
    unfold LCg.FinA
    intro Dd h3 tk3 F3 N3 o3
    have N4 := news_rot1 N3
    clear N3 N2 F2 hall
    have hKd : KdMark := kdMark
    k_steps
    refine Halt.on ?_
    refine' wpAny_For ?_ ?hs
    case hs => intro _; rfl
    k_steps
    refine Halt.on ?_
    rename IsRange _ _ _ _ _ _ _ _ => hR
    rename Fr _ _ _ _ => F4
    rename News _ _ _ _ => N4
    refine wpAny_pyIter_range hR (by decide) ?_
    have F5 := F4.push { cls := .type "range_iterator", data := .fields #[rawInt 0, rawInt (Builtin.Range.rangeSize 0 2 1), rawInt 1] }
    have N5 := News.push F4 N4 { cls := .type "range_iterator", data := .fields #[rawInt 0, rawInt (Builtin.Range.rangeSize 0 2 1), rawInt 1] } rfl
    have l5 : ∀ p ∈ (Dd, LCg.lst ys) :: (L' + 1, oB) :: tl, p.1 < _ := fun p hp => Heap.lt_size (N4 p hp).1
    clear F4 N4 hR
    refine let_map F5 ?_; clear F5; intro m₂ F5
    refine with_hd N5 fun I e1 => ?_
    rw [← e1] at N5 l5 ⊢
    k_lt l5
    refine' for_inv (TInv prog w g' L' b (hsC x lim) I Dd (L' + 1) oB ys tl m₂ s) ?hE ?turn 2 ?h0
    case hE => exact PassesOwn.leaving
    case h0 =>
      exact ⟨_, _, _, 0, _, _, _, rfl, rfl, fr_canon3 (a := Str.ofString "turn") (b := Str.ofString "powers") (c := Str.ofString "kept") F5 (fun _ _ _ _ => rfl), N5, .inl rfl⟩
    case turn =>
      intro n st hIv0
      try k_fold
      obtain ⟨h, tk, dr, j, v1, v2, v3, rfl, hj, F6, N6, hK⟩ := hIv0
      refine let_map F6 ?_; clear F6; intro m₃ F6
      clear F5 N5
      try dsimp only
      have z6 := N6 _ (.head _)
      cases n with
      | zero =>
        have hj2 : j = 2 := hj
        subst hj2
        refine wpAny_pyNext_range_end rfl z6.1 (by decide) fun h7 he7 => ?_
        have e7 : Ext [I] h h7 := fun b o n q => he7 b o (by simpa using n) q
        have F7 := ext_fr e7 F6 (by simpa using z6.2.2) (by simpa using Ne.symm z6.2.1)
        rcases hK with hK | ⟨K, oK, kvs, rfl, hKI, NK, hKd, hKv⟩
        · exact absurd hK (by decide)
        have NK7 := ext_news e7 NK (fun q hq => by rw [List.mem_singleton] at hq; subst hq; simpa using hKI)
        clear F6 N6 NK z6
        try dsimp only
        k_steps
        show Q _ _
        rename Fr _ _ _ _ => F9
        rename News _ _ _ _ => N9
        exact ret kvs K oK _ _ _ (ext_ret EG F9) (new_none EG N9 (.head _) (fun q => nomatch q)) (new_some N9 (.head _)) hKd hKv
      | succ n =>
        refine wpAny_pyNext_range_item (it := I) (x := (j : Int)) (left := 2 - (j : Int)) (step := 1) z6.1 (by omega) fun h7 hit7 hs7 => ?_
        have F7 := F6.change hs7 z6.2.1 z6.2.2
        have N7 := News.setHead N6 (by k_all) hs7 hit7
        have e5 : (2 - (j : Int)) - 1 = 2 - ((j + 1 : Nat) : Int) := by omega
        have e6 : (j : Int) + 1 = ((j + 1 : Nat) : Int) := by omega
        rw [e5, e6] at N7
        clear F6 N6 hK z6
        try dsimp only
        refine wpAny_assign_Name ?_
        k_steps
        refine Halt.on ?_
        rename Fr _ _ _ _ => F8
        rename News _ _ _ _ => N8
        k_dflt (refine' ct_pow B' F8 X' T' ?hk ?hd ?hu hx00 (by omega) hl0 hb0 hb1 ?_ ?rz)
        case hk => rfl
        case hd => show dp + 1 + 10 < recursionLimit; omega
        case hu => show un + 3 + 20 < cLine; omega
        case rz =>
          intro f r e t g h9 tk9 dr9 hs9 hm9 ho9
          have e9 := hsC_eq hx0 hx1 hl0 hl1 hs9 hm9
          rw [← e9] at hok
          exact absurd hok (by show ¬ okH [f] r = true; rw [ho9]; decide)
        intro hs kvs D od h9 tk9 dr9 hs9 hm9 _ x9 nD hD hod hkv lo9
        have e9 := hsC_eq hx0 hx1 hl0 hl1 hs9 hm9
        subst e9
        have F9 := ext_fr0 x9 F8
        have N9 := news_new F8 (ext_news0 x9 N8) hD nD
        have l9 := news_off N8 nD
        simp only [List.forall_mem_cons] at l9
        clear F8 N8 hs9 hm9
        try dsimp only
        have hn9 : kvs.length ≤ sizeLine := by
          rw [powKv_len hkv]
          have := hIh.length
          have h3 := hph.length_eq
          have h4 := hTo_len x lim (Builtin.Int.intBits x)
          rw [sizeLine_eq]; clear l9 l5 lDh; omega
        k_steps
        refine Halt.on ?_
        rename Fr _ _ _ _ => F10
        rename News _ _ _ _ => N10
        refine items_list rfl F10 N10 (.head _) (.tail _ (.head _)) hod hkv hn9 ?_
        intro B2 vs2 tl2 c2 h10 tk10 lB lT D2 F11 N11
        clear F10 N10
        try dsimp only
        k_steps
        refine Halt.on ?_
        rename Fr _ _ _ _ => F10
        rename News _ _ _ _ => N10
        refine kqd_ne N10 (.head _) rfl rfl D2 (fun p hp => .tail _ (List.mem_append_left _ hp)) (.tail _ (List.mem_append_right _ (.tail _ (.tail _ (.tail _ (.head _)))))) rfl rfl hty.dat (fun p hp => .tail _ (List.mem_append_right _ (.tail _ (.tail _ (.tail _ (.tail _ (.tail _ hp))))))) pairD_ok pairD_ok (by show un + 3 + 64 < cLine; omega) ?_
        have N11 := news_sub N10 (ds := (D, od) :: (I, rIt ((j + 1 : Nat) : Int) (2 - ((j + 1 : Nat) : Int))) :: (Dd, LCg.lst ys) :: (L' + 1, oB) :: tl) (fun p hp => .tail _ (List.mem_append_right _ (.tail _ hp)))
        clear N10 D2 lB lT
        simp only [eq_self, decide_true, Bool.not_true]
        k_steps
        refine Halt.on ?_
        refine things_comp (F₀ := F10) (by rfl) (by decide) (by rfl) (by decide) (by rfl) (by rfl) (by decide) ?_
        k_steps
        rename Fr _ _ _ _ => F12
        rename News _ _ _ _ => N12
        refine ⟨_, D, od, kvs, _, _, _, rfl, rfl, F12, N12, .head _, .tail _ (.head _), hod, hkv, hn9, ?test, ?fin⟩
        case test =>
          intro C oC m₂ h13 tk13 k t E' hCL hC0 keep13 heC hoC hm2
          have F13 := F12.keeps keep13
          have N13 : News g' L' h13 [(C, oC)] := fun q hq => by rw [List.mem_singleton] at hq; subst hq; exact ⟨heC, hCL, hC0⟩
          clear F12 N12 l5 l9 F10 N11
          k_steps
        case fin =>
          intro Dl h13 tk13 lD F13 N13
          clear F12 N12 F10 N11
          k_steps
          refine Halt.on ?_
          rename Fr _ _ _ _ => F14
          rename News _ _ _ _ => N14
          refine kqd_ne (ds := []) (es := []) (xs := []) (ys := []) N14 (.tail _ (.head _)) rfl rfl (DatAll.nil (news := [])) (fun p hp => nomatch hp) (.head _) rfl rfl (DatAll.nil (news := [])) (fun p hp => nomatch hp) (fun _ h => nomatch h) (fun _ h => nomatch h) (by show un + 3 + 64 < cLine; omega) ?_
          have N15 := news_sub N14 (ds := (D, od) :: (I, rIt ((j + 1 : Nat) : Int) (2 - ((j + 1 : Nat) : Int))) :: (Dd, LCg.lst ys) :: (L' + 1, oB) :: tl) (fun p hp => .tail _ (.tail _ (.tail _ hp)))
          clear N14 lD
          simp only [eq_self, decide_true, Bool.not_true]
          k_steps
          refine Halt.on ?_
          rename Fr _ _ _ _ => F16
          rename News _ _ _ _ => N16
          refine dict_copy F16 N16 (.head _) lo9 hod hn9 ?_
          intro Dk ok h17 lk hok9 F17 N17
          clear F16 N16
          k_lt lk
          obtain ⟨l91, l92, l93, l94⟩ := l9
          try dsimp only
          k_steps
          refine Halt.on ?_
          k_dflt (refine' kda_set (knd := PySem.intKind _ _) ?F ?N ?U ?d (intKind_is _ _ _ _) ?z ?_; (case F => k_asm); (case N => k_asm); (case U => k_updF); (case d => assumption); (case z => assumption))
          intro hz oz Fz Nz hdz
          (try dsimp only at Nz)
          k_steps
          rename Fr _ _ _ _ => F18
          rename News _ _ _ _ => N18
          refine Halt.on ⟨n, Nat.lt_succ_self _, _, _, _, j + 1, _, _, _, rfl, by omega, fr_canon3 (a := Str.ofString "turn") (b := Str.ofString "powers") (c := Str.ofString "kept") F18 (fun z n1 n2 n3 => by simp [m₃, n1, n2, n3]), news_tail (news_tail N18), .inr ⟨Dk, ok, kvs, if_pos rfl, neN (by omega), news_one N18 (.head _), hok9, hkv⟩⟩
end
end Mine
end

end

section
open PySem PySem.W PyProof.Rows PySem.Calls PySem.Spec PyProof.V
namespace Mine
set_option maxRecDepth 100000
set_option maxHeartbeats 8000000
set_option linter.unusedVariables false
/-- the tests of a comprehension's clause -/
abbrev testsOf (ifs : List PySem.Expr) (env : Env) : Sem Bool := forIn ifs true fun c r => if r = true then do let ok ← isTrue c env (eval c env); pure (ForInStep.yield ok) else pure (ForInStep.yield r)
section
variable {prog : Program} {w : World} {A : Around} {R : Result → Shared → Prop} {s : Shared}
/-- the loop of a comprehension of one clause, whatever its target -/
theorem loopG {elt target iter : PySem.Expr} {ifs : List PySem.Expr} {scope : Scope} {pos : Pos} {it acc : Value} {env : Env} (I : Nat → Shared → Prop)
    (turn : ∀ n s, I n s → wpAny (model prog w) A (pyNext it) (fun r s₁ => match r with
      | none => R (.ok .next) s₁
      | some v => wpAny (model prog w) A (letOwnedTupleGo target it v) (fun _ s₀ => wpAny (model prog w) A (assign target env v) (fun _ s₂ =>
          wpAny (model prog w) A (testsOf ifs env) (fun ok s₃ => if ok = true then wpAny (model prog w) A (eval elt env) (fun x s₄ =>
            wpAny (model prog w) A (call (.builtin "list.append") [acc, x]) (fun _ s₅ => ∃ m, m < n ∧ I m s₅) (notedBy (model prog w) A env fun e s' => R (.error e) s') s₄) (notedBy (model prog w) A env fun e s' => R (.error e) s') s₃
            else ∃ m, m < n ∧ I m s₃) (notedBy (model prog w) A env fun e s' => R (.error e) s') s₂)
          (notedBy (model prog w) A env fun e s' => R (.error e) s') s₀) (notedBy (model prog w) A env fun e s' => R (.error e) s') s₁) (notedBy (model prog w) A env fun e s' => R (.error e) s') s)
    (n : Nat) (h : I n s) : codeAny (model prog w) A (.compLoop (.ListComp elt [⟨target, iter, ifs, 0⟩] scope pos) 0 it acc env) R s := by
  refine codeAny_loop rfl I (fun n s hI => ?_) n h
  show wpAny _ A ((compTurn (.ListComp elt [⟨target, iter, ifs, 0⟩] scope pos) 0 it acc env).onRaise (fun x => do noteFrame x env; theTreesLotGoes x)) _ _ s
  refine wpAny_noted ?_
  rw [compTurn_list]
  refine wpAny_bind (wpAny_standAt (wpAny_bind (wpAny_mono (turn n s hI) (fun r s₁ h₁ => ?_) fun _ _ h' => h')))
  cases r with
  | none => exact wpAny_pure h₁
  | some v =>
    refine wpAny_bind (wpAny_mono h₁ (fun _ s₀ h₀' => ?_) fun _ _ h' => h')
    refine wpAny_bind (wpAny_mono h₀' (fun _ s₂ h₂ => ?_) fun _ _ h' => h')
    refine wpAny_bind (wpAny_mono h₂ (fun okb s₃ h₃ => ?_) fun _ _ h' => h')
    cases okb with
    | false => exact wpAny_pure ⟨rfl, h₃⟩
    | true => exact wpAny_bind (wpAny_bind (wpAny_mono h₃ (fun x s₄ h₄ => wpAny_bind (wpAny_mono h₄ (fun _ s₅ h₅ => wpAny_pure (wpAny_pure ⟨rfl, h₅⟩)) fun _ _ h' => h')) fun _ _ h' => h'))
end
/-- what a comprehension over an enumerated list of ints gathers -/
def enF (T : Nat → Int → Bool) (g : Nat → Int → Int) : Nat → List Int → List Int
  | _, [] => []
  | i, k :: r => if T i k = true then g i k :: enF T g (i + 1) r else enF T g (i + 1) r
theorem enF_snoc {T : Nat → Int → Bool} {g : Nat → Int → Int} {k : Int} : ∀ {l : List Int} {i : Nat}, enF T g i (l ++ [k]) = enF T g i l ++ (if T (i + l.length) k = true then [g (i + l.length) k] else [])
  | [], i => by simp [enF]
  | a :: l, i => by
    have ih := @enF_snoc T g k l (i + 1)
    have e : i + 1 + l.length = i + (a :: l).length := by simp; omega
    rw [e] at ih
    show (if T i a = true then g i a :: enF T g (i + 1) (l ++ [k]) else enF T g (i + 1) (l ++ [k])) = (if T i a = true then g i a :: enF T g (i + 1) l else enF T g (i + 1) l) ++ _
    rw [ih]
    split <;> simp
theorem enF_len {T : Nat → Int → Bool} {g : Nat → Int → Int} : ∀ {l : List Int} {i : Nat}, (enF T g i l).length ≤ l.length
  | [], _ => Nat.le_refl _
  | a :: l, i => by
    have := @enF_len T g l (i + 1)
    unfold enF
    split <;> simp <;> omega
section
variable {prog : Program} {w : World} {A : Around} {E : Value → Shared → Prop} {s : Shared} {h₀ : Heap} {L : Addr} {m : Str → Option Value} {env : Env}
inductive EnSrc (prog : Program) (w : World) (A : Around) (h₀ : Heap) (L : Addr) (m : Str → Option Value) (env : Env) (ifs : List PySem.Expr) (elt : PySem.Expr) (a b : Str) (scope : Scope) (cl : List (Str × Addr)) (Q : Value → Shared → Prop) (xv : Value) (s₁ : Shared) : Prop
  | mk (hb : Heap) (e it l : Addr) (items : List Value) (ns : List Int) (old : Value) (T : Nat → Int → Bool) (g : Nat → Int → Int) (news : List (Addr × Obj)) (_ : xv = .ref e) (_ : A.handled = none) (_ : (∀ b o, hb.get? b = some o → s₁.heap.get? b = some o)) (_ : hb.get? e = none) (_ : hb.get? it = none) (_ : e ≠ it) (_ : Fr h₀ L hb m) (_ : News h₀ L hb news) (_ : IsEnum s₁.heap e it 0 old) (_ : s₁.heap.IsListIter it l 0) (_ : hb.IsList l items.toArray) (_ : IntsAre items ns) (_ : ns.length ≤ 1000000) (_ : (∀ C oC m₂ h tk i k t1 t2 (E' : Value → Shared → Prop), C ≠ L → h₀.get? C = none → (∀ b o, hb.get? b = some o → h.get? b = some o) → h.get? C = some oC → LCg.NsObj oC m₂ → m₂ a = some (.int (i : Nat) t1) → m₂ b = some (.int k t2) → ns[i]? = some k →
   wpAny (model prog w) A (testsOf ifs (compEnvC scope cl C env)) (fun ok s₃ => ok = T i k ∧ ∃ tk', s₃ = { s₁ with heap := h, toks := tk' }) E' { s₁ with heap := h, toks := tk })) (_ : (∀ C oC m₂ h tk i k t1 t2 (E' : Value → Shared → Prop), C ≠ L → h₀.get? C = none → (∀ b o, hb.get? b = some o → h.get? b = some o) → h.get? C = some oC → LCg.NsObj oC m₂ → m₂ a = some (.int (i : Nat) t1) → m₂ b = some (.int k t2) → ns[i]? = some k → T i k = true →
   wpAny (model prog w) A (eval elt (compEnvC scope cl C env)) (fun y s₃ => (∃ t, y = .int (g i k) t) ∧ ∃ tk', s₃ = { s₁ with heap := h, toks := tk' }) E' { s₁ with heap := h, toks := tk })) (_ : (∀ D ys h' tk, (∀ q ∈ news, q.1 < D) → IntsAre ys (enF T g 0 ns) → (∀ b o, hb.get? b = some o → h'.get? b = some o) → News h₀ L h' ((D, LCg.lst ys) :: news) → Q (.ref D) { s₁ with heap := h', toks := tk }))
theorem enum_comp {elt iter : PySem.Expr} {ifs : List PySem.Expr} {a b : Str} {pa pb tp : Pos} {kk : Nat} {scope : Scope} {cl : List (Str × Addr)} {pos : Pos} {Q : Value → Shared → Prop} (F₀ : Fr h₀ L s.heap m)
    (hclos : closureFor scope env = pure cl) (hcell : ∀ y ∈ scope.names, y.2 ≠ .cell) (hkind : scope.kind = .function)
    (hnames : ∀ y ∈ scope.names, y.2 = .local → scope.names.lookup y.1 = some .local) (hxa : scope.names.lookup a = some .local) (hxb : scope.names.lookup b = some .local) (hab : ¬ a = b)
    (h : wpAny (model prog w) A (eval iter env) (EnSrc prog w A h₀ L m env ifs elt a b scope cl Q) E s)
    (hs : ∀ x, foldedSetIterable iter env x = pure x := by intro _; rfl) :
    wpAny (model prog w) A (eval (.ListComp elt [⟨.Tuple [.Name a pa, .Name b pb] kk tp, iter, ifs, 0⟩] scope pos) env) Q E s := by
  rw [eval_ListComp]
  refine wpAny_comprehension_free (use := none) (cl := cl) rfl hs hclos hkind hnames (wpAny_mono h (fun xv s₁ h₁ => ?_) fun _ _ e => e)
  obtain ⟨hb, e, it, l, items, ns, old, T, g, news, rfl, hh, keep, he0, hit0, hei, F, N, he, hit, hl, hI, hlen, test, elm, fin⟩ := h₁
  have F1 := F.keeps keep
  refine wpAny_pyIter_enum he ?_
  generalize hz : s₁.heap.objs.size = D
  have hDl : ∀ b o, s₁.heap.get? b = some o → b < D := fun b o e => hz ▸ Heap.lt_size e
  refine wpAny_newObj_type (wpAny_newFunctionEnv hcell (by intro y hy; simp at hy) (fun h₁ hns₁ hsb₁ => ?_) hkind)
  dsimp only at hns₁ hsb₁ ⊢
  generalize hH2 : s₁.heap.push { cls := .type "list", dict := none, data := .seq ([] : List Value).toArray } = H2 at hns₁ hsb₁ ⊢
  have z2 : H2.objs.size = D + 1 := by rw [← hH2, Heap.size_push, hz]
  have hD2 : H2.get? D = some (LCg.lst []) := by rw [← hH2, ← hz]; exact Heap.get?_push_size _ rfl
  have up2 : ∀ b o, s₁.heap.get? b = some o → H2.get? b = some o := fun b o e => by rw [← hH2]; exact Heap.get?_push_of_some _ e
  rw [hz]
  rw [z2] at hns₁ hsb₁ ⊢
  have neC : ∀ b o, s₁.heap.get? b = some o → b ≠ D + 1 := fun b o e => Nat.ne_of_lt (Nat.lt_succ_of_lt (hDl b o e))
  have neD : ∀ b o, s₁.heap.get? b = some o → b ≠ D := fun b o e => Nat.ne_of_lt (hDl b o e)
  have hCD : D ≠ D + 1 := Nat.ne_of_lt (Nat.lt_succ_self _)
  have up3 : ∀ b o, s₁.heap.get? b = some o → h₁.get? b = some o := fun b o e => hsb₁.extBut b o (neC b o e) (Heap.get?_push_of_some _ (up2 b o e))
  have hD3 : h₁.get? D = some (LCg.lst []) := hsb₁.extBut _ _ hCD (Heap.get?_push_of_some _ hD2)
  have fr0 : ∀ x, D ≤ x → x ≠ L ∧ h₀.get? x = none := fun x hx => kdx_fresh F1 (hz ▸ hx)
  have hCe : e ≠ D + 1 := neC _ _ he
  have hDe : e ≠ D := neD _ _ he
  obtain ⟨oit, eit, _⟩ := id hit
  have hCit : it ≠ D + 1 := neC _ _ eit
  have hDit : it ≠ D := neD _ _ eit
  have hne : ∀ b o, hb.get? b = some o → b ≠ e ∧ b ≠ it ∧ b ≠ D ∧ b ≠ D + 1 := fun b o q => ⟨(fun x => by rw [x, he0] at q; cases q), (fun x => by rw [x, hit0] at q; cases q), neD b o (keep b o q), neC b o (keep b o q)⟩
  have hil : items.length = ns.length := hI.length
  have he3 : IsEnum h₁ e it 0 old := up3 _ _ he
  have loop : ∀ s₃ : Shared, s₃ = { s₁ with heap := h₁, toks := s₁.toks + ([] : List (Str × Value)).length } →
      codeAny (model prog w) A (.compLoop (.ListComp elt [⟨.Tuple [.Name a pa, .Name b pb] kk tp, iter, ifs, 0⟩] scope pos) 0 (.ref e) (.ref D) (compEnvC scope cl (D + 1) env)) (compPost (model prog w) A E none Q (.ref D) (D + 1)) s₃ := by
    rintro s₃ rfl
    refine loopG (fun k s' => ∃ h' tk i m' ys old', s' = { s₁ with heap := h', toks := tk } ∧ i ≤ ns.length ∧ k = ns.length + 1 - i ∧ IsEnum h' e it ((i : Nat) : Int) old' ∧ h'.IsListIter it l i ∧ h'.get? D = some (LCg.lst ys) ∧ IntsAre ys (enF T g 0 (ns.take i)) ∧ h'.Ns (D + 1) m' ∧
      ∀ b o, hb.get? b = some o → h'.get? b = some o) ?_ (ns.length + 1) ⟨h₁, _, 0, _, [], old, rfl, Nat.zero_le _, rfl, he3, hit.at fun o q => up3 _ o q, hD3, by rw [List.take_zero]; exact .nil, hns₁, fun b o q => up3 b o (keep b o q)⟩
    intro k s' hIv0
    try k_fold
    obtain ⟨h', tk, i, m', ys, old', rfl, hi, rfl, he', hit', hD', hI', hns', keep'⟩ := hIv0
    have hl' : h'.IsList l items.toArray := hl.at fun o q => keep' _ o q
    try k_fold
    by_cases hlt : i < ns.length
    · try k_fold
      obtain ⟨x, hx⟩ : ∃ x, ns[i]? = some x := ⟨ns[i], List.getElem?_eq_getElem hlt⟩
      try k_fold
      obtain ⟨t2, hv⟩ := hI.get i x hx
      refine wpAny_pyNext_enum_item (s := { s₁ with heap := h', toks := tk }) he' hit' hl' (x := .int x t2) (by simpa using hv) hei fun h₂ he₂ hit₂ hT hzz hkp => ?_
      dsimp only at he₂ hT hzz hkp ⊢
      generalize hTn : h'.objs.size = Ta at he₂ hT hzz hkp ⊢
      have hTlt : ∀ b o, h'.get? b = some o → b ≠ Ta := fun b o q => Nat.ne_of_lt (hTn ▸ Heap.lt_size q)
      have hTe : Ta ≠ e := Ne.symm (hTlt _ _ he')
      refine wpAny_letOwnedTupleGo_enum (s := { s₁ with heap := h₂, toks := tk + 1 }) he₂ fun h₃ he₃ hs₃ => ?_
      dsimp only at hs₃ ⊢
      have hT3 : h₃.IsTuple Ta #[.int (i : Nat) tk, .int x t2] := ⟨_, hs₃.extBut _ _ hTe hT, rfl, _, rfl⟩
      have hns3 : h₃.Ns (D + 1) m' := hns'.at' fun o q => hs₃.extBut _ _ (Ne.symm hCe) (hkp _ _ (Ne.symm hCe) (Ne.symm hCit) q)
      refine kcp_assign (env := compEnvC scope cl (D + 1) env) hh hT3 (lookup_relabel_local hxa) (lookup_relabel_local hxb) (by simp [compEnvC, relabel, hkind]) hns3 fun h₄ tk₄ hn₄ hs₄ => ?_
      have keep4 : ∀ b o, hb.get? b = some o → h₄.get? b = some o := fun b o q => by
        have z := hne b o q
        exact hs₄ b o z.2.2.2 (hs₃.extBut b o z.1 (hkp b o z.1 z.2.1 (keep' b o q)))
      have he4 : IsEnum h₄ e it (((i + 1 : Nat)) : Int) (.int x t2) := hs₄ _ _ hCe he₃
      have hit4 : h₄.IsListIter it l (i + 1) := hit₂.at fun o q => hs₄ _ _ hCit (hs₃.extBut _ _ (Ne.symm hei) q)
      have hD4 : h₄.get? D = some (LCg.lst ys) := hs₄ _ _ hCD (hs₃.extBut _ _ (Ne.symm hDe) (hkp _ _ (Ne.symm hDe) (Ne.symm hDit) hD'))
      try k_fold
      obtain ⟨oC, heC, hoC⟩ := LCg.ns_obj hn₄
      have hf := fr0 (D + 1) (Nat.le_of_lt (Nat.lt_succ_self _))
      have hma : (fun z => if z = b then some (Value.int x t2) else if z = a then some (.int (i : Nat) tk) else m' z) a = some (.int (i : Nat) tk) := by simp [hab]
      have hmb : (fun z => if z = b then some (Value.int x t2) else if z = a then some (.int (i : Nat) tk) else m' z) b = some (.int x t2) := by simp
      have htake : enF T g 0 (ns.take (i + 1)) = enF T g 0 (ns.take i) ++ (if T i x = true then [g i x] else []) := by
        rw [List.take_add_one, hx]
        show enF T g 0 (ns.take i ++ [x]) = _
        rw [enF_snoc, List.length_take, Nat.min_eq_left (Nat.le_of_lt hlt), Nat.zero_add]
      refine wpAny_mono (test (D + 1) oC _ h₄ _ i x _ _ _ hf.1 hf.2 keep4 heC hoC hma hmb hx) (fun ok s₅ h₅ => ?_) fun _ _ q => q
      try k_fold
      obtain ⟨rfl, tk5, rfl⟩ := h₅
      cases hTi : T i x with
      | false =>
        rw [hTi, if_neg Bool.false_ne_true, List.append_nil] at htake
        rw [if_neg Bool.false_ne_true]
        exact ⟨ns.length + 1 - (i + 1), by omega, h₄, tk5, i + 1, _, ys, _, rfl, hlt, rfl, he4, hit4, hD4, by rw [htake]; exact hI', hn₄, keep4⟩
      | true =>
        rw [hTi, if_pos rfl] at htake
        rw [if_pos rfl]
        refine wpAny_mono (elm (D + 1) oC _ h₄ _ i x _ _ _ hf.1 hf.2 keep4 heC hoC hma hmb hx hTi) (fun y s₆ h₆ => ?_) fun _ _ q => q
        try k_fold
        obtain ⟨⟨t6, rfl⟩, tk6, rfl⟩ := h₆
        have hyl : ys.length ≤ 1000000 := by
          have e1 := hI'.length
          have e2 := @enF_len T g (ns.take i) 0
          have e3 := List.length_take_le i ns
          omega
        refine append_at (hsz := by show ys.toArray.size ≤ sizeLine; rw [List.size_toArray, sizeLine_eq]; omega) hD4 fun h₇ hs₇ hD₇ => ?_
        refine ⟨ns.length + 1 - (i + 1), by omega, h₇, tk6, i + 1, _, ys ++ [.int (g i x) t6], _, rfl, hlt, rfl, hs₇.extBut _ _ hDe he4, hit4.at fun o q => hs₇.extBut _ _ hDit q, hD₇.trans (congrArg some (LCg.lst_snoc ys _)), by rw [htake]; exact hI'.append (.cons _ _ .nil), hn₄.sameBut hs₇ (Ne.symm hCD), fun b o q => hs₇.extBut b o (hne b o q).2.2.1 (keep4 b o q)⟩
    · have hin : i = ns.length := Nat.le_antisymm hi (Nat.not_lt.mp hlt)
      try k_fold
      subst hin
      refine wpAny_pyNext_enum_end (s := { s₁ with heap := h', toks := tk }) hh he' hit' hl' (Array.getElem?_eq_none (by rw [List.size_toArray, hil]; exact Nat.le_refl _)) fun h₅ he₅ => ?_
      dsimp only at he₅ ⊢
      refine ⟨m', hns'.extBut he₅ (Ne.symm hCit), fun h₆ hs₆ => ?_⟩
      have keep6 : ∀ b o, hb.get? b = some o → h₆.get? b = some o := fun b o q => hs₆.extBut b o (hne b o q).2.2.2 (he₅ b o (hne b o q).2.1 (keep' b o q))
      refine fin D ys h₆ tk (fun q hq => hDl _ _ (keep _ _ (N q hq).1)) (by rw [List.take_length] at hI'; exact hI') keep6 fun q hq => ?_
      rcases List.mem_cons.mp hq with rfl | hq
      · exact ⟨hs₆.extBut _ _ hCD (he₅ _ _ (Ne.symm hDit) hD'), fr0 _ (Nat.le_refl _)⟩
      · exact ⟨keep6 _ _ (N q hq).1, (N q hq).2⟩
  exact codeAny_compStart_list (loop _ rfl) (wpAny_pyIter_enum he3 (loop _ rfl))
end
end Mine
end

section
open PySem PySem.W PyProof.Rows PySem.Calls PySem.Spec PyProof.V
namespace Mine
set_option maxRecDepth 100000
set_option maxHeartbeats 8000000
set_option linter.unusedVariables false
section
variable {M : Model} {A : Around} {E : Value → Shared → Prop} {s : Shared} {env : Env}
theorem News.cons_of {g h : Heap} {L a : Addr} {o : Obj} {news : List (Addr × Obj)} (e : h.get? a = some o) (h1 : a ≠ L) (h2 : g.get? a = none) (N : News g L h news) : News g L h ((a, o) :: news) := fun q hq => by
  rcases List.mem_cons.mp hq with rfl | hq
  · exact ⟨e, h1, h2⟩
  · exact N q hq
/-- the frame of a comprehension whose own name an inner one asks for -/
theorem newEnv_cell {scope : Scope} {globals : Addr} {cl : List (Str × Addr)} {qual x : Str} {Q : Env → Shared → Prop}
    (hc : ∀ n, cellsFrom n scope.names cl = (x, n) :: cl) (hp : ∀ h, pushCells h scope.names = h.push { cls := .type "cell", data := .cell none })
    (hQ : Q (newEnv scope s.heap.objs.size globals ((x, s.heap.objs.size + 1) :: cl) qual none .none (some env) builtinsNs) { s with heap := (s.heap.push { cls := .type "dict", data := .dict #[] }).push { cls := .type "cell", data := .cell none } }) :
    wpAny M A (newFunctionEnv scope globals cl [] qual none .none (some env)) Q E s := by
  simp only [newFunctionEnv, Option.isSome_some, if_true]
  refine wpAny_bind (wpAny_alloc ?_)
  refine wpAny_bind (wpAny_layCells _ (fun name kind cells => by cases hkc : kind == NameKind.cell <;> simp [hkc]) _ _ _ _ ?_)
  rw [show ({ s with heap := s.heap.push { cls := .type "dict", data := .dict #[] } } : Shared).heap.objs.size = s.heap.objs.size + 1 from Heap.size_push ..]
  rw [hc, hp]
  exact wpAny_bind (wpAny_pure (wpAny_pure hQ))
end
section
variable {prog : Program} {w : World} {A : Around} {E : Value → Shared → Prop} {s : Shared} {h₀ : Heap} {L : Addr} {m : Str → Option Value} {env : Env}
inductive CeSrc (prog : Program) (w : World) (A : Around) (h₀ : Heap) (L : Addr) (m : Str → Option Value) (env : Env) (elt : PySem.Expr) (x : Str) (scope : Scope) (cl : List (Str × Addr)) (Q : Value → Shared → Prop) (xv : Value) (s₁ : Shared) : Prop
  | mk (r : Addr) (n : Nat) (t u v : Tok) (Ok : Nat → Int → Prop) (news : List (Addr × Obj)) (_ : xv = .ref r) (_ : A.handled = none) (_ : IsRange s₁.heap r 0 (n : Int) 1 t u v) (_ : Builtin.Range.small 0 (n : Int) 1 = true) (_ : Builtin.Range.rangeSize 0 (n : Int) 1 = (n : Int)) (_ : n ≤ 1000) (_ : Fr h₀ L s₁.heap m) (_ : News h₀ L s₁.heap news) (_ : (∀ C Kc I D oK oI oC oD h tk i t (E' : Value → Shared → Prop), i < n → (∀ q ∈ news, q.1 < I) → (∀ q ∈ news, q.1 < D) → (∀ q ∈ news, q.1 < C) → (∀ q ∈ news, q.1 < Kc) → Fr h₀ L h m → News h₀ L h ((Kc, oK) :: (C, oC) :: (D, oD) :: (I, oI) :: news) → oK.data = .cell (some (.int (i : Nat) t)) →
      wpAny (model prog w) A (eval elt (compEnvC scope ((x, Kc) :: cl) C env)) (fun y s₃ => ∃ c t' h' tk', y = .int c t' ∧ Ok i c ∧ s₃ = { s₁ with heap := h', toks := tk' } ∧ Fr h₀ L h' m ∧ News h₀ L h' ((Kc, oK) :: (C, oC) :: (D, oD) :: (I, oI) :: news)) E' { s₁ with heap := h, toks := tk })) (_ : (∀ D ys cs h' tk, (∀ q ∈ news, q.1 < D) → IntsAre ys cs → cs.length = n → (∀ i c, cs[i]? = some c → Ok i c) → Fr h₀ L h' m → News h₀ L h' ((D, LCg.lst ys) :: news) → Q (.ref D) { s₁ with heap := h', toks := tk }))
theorem cell_comp {elt iter : PySem.Expr} {x : Str} {px : Pos} {scope : Scope} {cl : List (Str × Addr)} {pos : Pos} {Q : Value → Shared → Prop} (F₀ : Fr h₀ L s.heap m)
    (hclos : closureFor scope env = pure cl) (hc : ∀ n, cellsFrom n scope.names cl = (x, n) :: cl) (hp : ∀ h, pushCells h scope.names = h.push { cls := .type "cell", data := .cell none }) (hkind : scope.kind = .function)
    (hnames : ∀ y ∈ scope.names, y.2 = .local → scope.names.lookup y.1 = some .local) (hx : (relabel scope env).names.lookup x = some .cell)
    (h : wpAny (model prog w) A (eval iter env) (CeSrc prog w A h₀ L m env elt x scope cl Q) E s)
    (hs : ∀ x, foldedSetIterable iter env x = pure x := by intro _; rfl) :
    wpAny (model prog w) A (eval (.ListComp elt [⟨.Name x px, iter, [], 0⟩] scope pos) env) Q E s := by
  rw [eval_ListComp]
  refine wpAny_comprehension_free (use := none) (cl := cl) rfl hs hclos hkind hnames (wpAny_mono h (fun xv s₁ h₁ => ?_) fun _ _ e => e)
  obtain ⟨r, n, t, u, v, Ok, news, rfl, hh, hR, hsm, hrs, hn, F, N, elm, fin⟩ := h₁
  refine wpAny_pyIter_range hR hsm ?_
  rw [hrs]
  generalize hz : s₁.heap.objs.size = I
  have hIl : ∀ b o, s₁.heap.get? b = some o → b < I := fun b o e => hz ▸ Heap.lt_size e
  generalize hH1 : s₁.heap.push { cls := .type "range_iterator", data := .fields #[rawInt 0, rawInt (n : Int), rawInt 1] } = H1
  have z1 : H1.objs.size = I + 1 := by rw [← hH1, Heap.size_push, hz]
  have up1 : ∀ b o, s₁.heap.get? b = some o → H1.get? b = some o := fun b o e => by rw [← hH1]; exact Heap.get?_push_of_some _ e
  have hit1 : IsRangeIter H1 I 0 (n : Int) 1 := by rw [← hH1, ← hz]; exact Heap.get?_push_size _ rfl
  refine wpAny_newObj_type (newEnv_cell hc hp ?_)
  dsimp only
  generalize hH2 : H1.push { cls := .type "list", dict := none, data := .seq ([] : List Value).toArray } = H2
  have z2 : H2.objs.size = I + 1 + 1 := by rw [← hH2, Heap.size_push, z1]
  have up2 : ∀ b o, H1.get? b = some o → H2.get? b = some o := fun b o e => by rw [← hH2]; exact Heap.get?_push_of_some _ e
  have hD2 : H2.get? (I + 1) = some (LCg.lst []) := by rw [← hH2, ← z1]; exact Heap.get?_push_size _ rfl
  rw [z1, z2]
  generalize hH3 : H2.push { cls := .type "dict", data := .dict #[] } = H3
  have z3 : H3.objs.size = I + 1 + 1 + 1 := by rw [← hH3, Heap.size_push, z2]
  have up3 : ∀ b o, H2.get? b = some o → H3.get? b = some o := fun b o e => by rw [← hH3]; exact Heap.get?_push_of_some _ e
  have hC3 : H3.Ns (I + 1 + 1) (fun _ => none) := by rw [← hH3, ← z2]; exact Heap.Ns.new ..
  generalize hH4 : H3.push { cls := .type "cell", data := .cell none } = H4
  have up4 : ∀ b o, H3.get? b = some o → H4.get? b = some o := fun b o e => by rw [← hH4]; exact Heap.get?_push_of_some _ e
  have hK4 : H4.IsCell (I + 1 + 1 + 1) none := by rw [← hH4, ← z3]; exact ⟨_, Heap.get?_push_size _ rfl, rfl⟩
  have l01 : I < I + 1 := Nat.lt_succ_self _
  have l12 : I + 1 < I + 1 + 1 := Nat.lt_succ_self _
  have l23 : I + 1 + 1 < I + 1 + 1 + 1 := Nat.lt_succ_self _
  have l02 : I < I + 1 + 1 := Nat.lt_trans l01 l12
  have l13 : I + 1 < I + 1 + 1 + 1 := Nat.lt_trans l12 l23
  have l03 : I < I + 1 + 1 + 1 := Nat.lt_trans l01 l13
  have fr0 : ∀ y, I ≤ y → y ≠ L ∧ h₀.get? y = none := fun y hy => kdx_fresh F (hz ▸ hy)
  have old4 : ∀ b o, s₁.heap.get? b = some o → H4.get? b = some o := fun b o e => up4 b o (up3 b o (up2 b o (up1 b o e)))
  have W := LCg.range_walks (prog := prog) (w := w) (A := A) (I := I) hh 0 n
  have hit4 : IsRangeIter H4 I (0 + ((0 : Nat) : Int) * 1) ((n : Int) - ((0 : Nat) : Int)) 1 := by
    have e : IsRangeIter H4 I 0 (n : Int) 1 := up4 _ _ (up3 _ _ (up2 _ _ hit1))
    simpa using e
  have loop : ∀ s₃ : Shared, s₃ = { s₁ with heap := H4 } →
      codeAny (model prog w) A (.compLoop (.ListComp elt [⟨.Name x px, iter, [], 0⟩] scope pos) 0 (.ref I) (.ref (I + 1)) (compEnvC scope ((x, I + 1 + 1 + 1) :: cl) (I + 1 + 1) env)) (compPost (model prog w) A E none Q (.ref (I + 1)) (I + 1 + 1)) s₃ := by
    rintro s₃ rfl
    refine codeAny_compLoop_tests (fun k s' => ∃ h' tk i ys cs v', s' = { s₁ with heap := h', toks := tk } ∧ i ≤ n ∧ k = n + 1 - i ∧ IsRangeIter h' I (0 + (i : Nat) * 1) ((n : Int) - (i : Nat)) 1 ∧ h'.get? (I + 1) = some (LCg.lst ys) ∧ IntsAre ys cs ∧ cs.length = i ∧ (∀ j c, cs[j]? = some c → Ok j c) ∧
      h'.Ns (I + 1 + 1) (fun _ => none) ∧ h'.IsCell (I + 1 + 1 + 1) v' ∧ Fr h₀ L h' m ∧ News h₀ L h' news) ?_ (n + 1) ⟨H4, s₁.toks, 0, [], [], none, rfl, Nat.zero_le _, rfl, hit4, up4 _ _ (up3 _ _ hD2), .nil, rfl, fun j c q => by simp at q, hC3.keeps up4, hK4, F.keeps old4, N.grown old4⟩
    intro k s' hIv0
    try k_fold
    obtain ⟨h', tk, i, ys, cs, v', rfl, hi, rfl, hit', hD', hI', hlen, hok, hns', hK', F', N'⟩ := hIv0
    try k_fold
    by_cases hlt : i < n
    · refine W.item i { s₁ with heap := h', toks := tk } _ _ hlt hit' fun vv h₂ tk₂ hP hst₂ hk₂ => ?_
      try k_fold
      obtain ⟨t5, rfl⟩ := hP
      have eI : (0 : Int) + (i : Nat) = ((i : Nat) : Int) := by omega
      rw [eI]
      have up : ∀ b o, b ≠ I → h'.get? b = some o → h₂.get? b = some o := fun b o hb e => hk₂ b o (by simpa using hb) e
      have hK2 : h₂.IsCell (I + 1 + 1 + 1) v' := by obtain ⟨o, e, q⟩ := hK'; exact ⟨o, up _ _ (Nat.ne_of_gt l03) e, q⟩
      refine wpAny_assign_Name (wpAny_storeName_cell (env := compEnvC scope ((x, I + 1 + 1 + 1) :: cl) (I + 1 + 1) env) (by simp [compEnvC, relabel, hkind]) hx (c := I + 1 + 1 + 1) (by simp [compEnvC]) hK2 fun h₃ hK3 hs₃ => ?_)
      refine wpAny_tests_nil ?_
      rw [if_pos rfl]
      try k_fold
      obtain ⟨oK, heK, hoK⟩ := hK3
      have nl : ∀ q ∈ news, q.1 < I := fun q hq => hIl _ _ (N q hq).1
      have fI := fr0 I (Nat.le_refl _)
      have fD := fr0 (I + 1) (Nat.le_of_lt l01)
      have fC := fr0 (I + 1 + 1) (Nat.le_of_lt l02)
      have fK := fr0 (I + 1 + 1 + 1) (Nat.le_of_lt l03)
      have F2 : Fr h₀ L h₂ m := ⟨F'.ns.at' fun o e => up _ o (Ne.symm fI.1) e, fun b o e => up b o (fun q => by rw [q, fI.2] at e; cases e) (F'.keep b o e), F'.above⟩
      have F3 : Fr h₀ L h₃ m := F2.change hs₃ fK.1 fK.2
      have N3 : News h₀ L h₃ news := fun q hq => ⟨hs₃.extBut _ _ (Nat.ne_of_lt (Nat.lt_trans (nl q hq) l03)) (up _ _ (Nat.ne_of_lt (nl q hq)) (N' q hq).1), (N q hq).2⟩
      have hD3 : h₃.get? (I + 1) = some (LCg.lst ys) := hs₃.extBut _ _ (Nat.ne_of_lt l13) (up _ _ (Nat.ne_of_gt l01) hD')
      have hit3 : IsRangeIter h₃ I (0 + ((i + 1 : Nat) : Int) * 1) ((n : Int) - ((i + 1 : Nat) : Int)) 1 := hs₃.extBut _ _ (Nat.ne_of_lt l03) hst₂
      have hns3 : h₃.Ns (I + 1 + 1) (fun _ => none) := hns'.at' fun o e => hs₃.extBut _ _ (Nat.ne_of_lt l23) (up _ _ (Nat.ne_of_gt l02) e)
      try k_fold
      obtain ⟨oC, heC, hoC⟩ := LCg.ns_obj hns3
      have N3' : News h₀ L h₃ ((I + 1 + 1 + 1, oK) :: (I + 1 + 1, oC) :: (I + 1, LCg.lst ys) :: (I, _) :: news) := News.cons_of heK fK.1 fK.2 (News.cons_of heC fC.1 fC.2 (News.cons_of hD3 fD.1 fD.2 (News.cons_of hit3 fI.1 fI.2 N3)))
      refine wpAny_mono (elm (I + 1 + 1) (I + 1 + 1 + 1) I (I + 1) oK _ oC _ h₃ _ i t5 _ hlt nl (fun q hq => Nat.lt_trans (nl q hq) l01) (fun q hq => Nat.lt_trans (nl q hq) l02) (fun q hq => Nat.lt_trans (nl q hq) l03) F3 N3' hoK) (fun y s₄ h₄ => ?_) fun _ _ e => e
      try k_fold
      obtain ⟨c, t6, h₄, tk4, rfl, hOk, rfl, F4, N4⟩ := h₄
      have hyl : ys.length ≤ 1000 := by have := hI'.length; omega
      have zK := (N4 _ (.head _)).1
      have zC := (N4 _ (.tail _ (.head _))).1
      have zD := (N4 _ (.tail _ (.tail _ (.head _)))).1
      have zI := (N4 _ (.tail _ (.tail _ (.tail _ (.head _))))).1
      refine append_at (hsz := by show ys.toArray.size ≤ sizeLine; rw [List.size_toArray, sizeLine_eq]; omega) zD fun h₅ hs₅ hD₅ => ?_
      refine ⟨n + 1 - (i + 1), by omega, h₅, tk4, i + 1, ys ++ [.int c t6], cs ++ [c], some (.int (i : Nat) t5), rfl, hlt, rfl, hs₅.extBut _ _ (Nat.ne_of_lt l01) zI, hD₅.trans (congrArg some (LCg.lst_snoc ys _)), hI'.append (.cons _ _ .nil), by rw [List.length_append, hlen]; rfl, fun j c' q => ?_, (hoC.ns zC).sameBut hs₅ (Nat.ne_of_gt l12), ⟨oK, hs₅.extBut _ _ (Nat.ne_of_gt l13) zK, hoK⟩,
        F4.change hs₅ fD.1 fD.2, fun q hq => ⟨hs₅.extBut _ _ (Nat.ne_of_lt (Nat.lt_trans (nl q hq) l01)) (N4 q (.tail _ (.tail _ (.tail _ (.tail _ hq))))).1, (N q hq).2⟩⟩
      rcases Nat.lt_trichotomy j cs.length with h1 | h1 | h1
      · rw [List.getElem?_append_left h1] at q
        exact hok j c' q
      · try k_fold
        subst h1
        have e : c = c' := by simpa using q
        rw [← e, hlen]; exact hOk
      · rw [List.getElem?_eq_none (by rw [List.length_append, List.length_singleton]; omega)] at q; cases q
    · have hin : i = n := Nat.le_antisymm hi (Nat.not_lt.mp hlt)
      try k_fold
      subst hin
      refine W.done { s₁ with heap := h', toks := tk } _ _ hit' fun h₅ tk5 hk₅ => ?_
      have up : ∀ b o, b ≠ I → h'.get? b = some o → h₅.get? b = some o := fun b o hb e => hk₅ b o (by simpa using hb) e
      refine ⟨fun _ => none, hns'.at' fun o e => up _ _ (Nat.ne_of_gt l02) e, fun h₆ hs₆ => ?_⟩
      have nl : ∀ q ∈ news, q.1 < I := fun q hq => hIl _ _ (N q hq).1
      have fI := fr0 I (Nat.le_refl _)
      have fC := fr0 (I + 1 + 1) (Nat.le_of_lt l02)
      have F5 : Fr h₀ L h₅ m := ⟨F'.ns.at' fun o e => up _ o (Ne.symm fI.1) e, fun b o e => up b o (fun q => by rw [q, fI.2] at e; cases e) (F'.keep b o e), F'.above⟩
      refine fin (I + 1) ys cs h₆ tk5 (fun q hq => Nat.lt_trans (nl q hq) l01) hI' hlen hok (F5.change hs₆ fC.1 fC.2) fun q hq => ?_
      rcases List.mem_cons.mp hq with rfl | hq
      · exact ⟨hs₆.extBut _ _ (Nat.ne_of_lt l12) (up _ _ (Nat.ne_of_gt l01) hD'), fr0 _ (Nat.le_of_lt l01)⟩
      · exact ⟨hs₆.extBut _ _ (Nat.ne_of_lt (Nat.lt_trans (nl q hq) l02)) (up _ _ (Nat.ne_of_lt (nl q hq)) (N' q hq).1), (N q hq).2⟩
  exact codeAny_compStart_list (loop _ rfl) (W.self 0 { s₁ with heap := H4 } _ _ hit4 (loop _ rfl))
end
end Mine
end

section
open PySem PySem.W PyProof.Rows PySem.Calls PySem.Spec PyProof.V
namespace Mine
theorem enF_sum {T : Nat → Int → Bool} : ∀ {l : List Int} {i : Nat}, 0 ≤ (enF T (fun _ x => x.fmod 1000000) i l).sum ∧ (enF T (fun _ x => x.fmod 1000000) i l).sum ≤ 999999 * (l.length : Int)
  | [], _ => ⟨Int.le_refl _, Int.le_refl _⟩
  | a :: l, i => by
    have ih := @enF_sum T l (i + 1)
    have e : a.fmod 1000000 = a % 1000000 := Int.fmod_eq_emod_of_nonneg _ (by decide)
    unfold enF
    split
    · rw [List.sum_cons, List.length_cons, e]
      omega
    · rw [List.length_cons]
      omega
theorem menu3 {i : Nat} (h : i < 3) : 0 ≤ ([18, 4, 50] : List Int).getD (Int.toNat (i : Int)) 0 ∧ ([18, 4, 50] : List Int).getD (Int.toNat (i : Int)) 0 ≤ 50 := by
  have : i = 0 ∨ i = 1 ∨ i = 2 := by omega
  rcases this with rfl | rfl | rfl <;> decide
theorem cell_bound {T : Nat → Int → Bool} {l : List Int} {i : Nat} (h : i < 3) : 0 ≤ ([18, 4, 50] : List Int).getD (Int.toNat (i : Int)) 0 + (enF T (fun _ x => x.fmod 1000000) 0 (l.take 60)).sum ∧ ([18, 4, 50] : List Int).getD (Int.toNat (i : Int)) 0 + (enF T (fun _ x => x.fmod 1000000) 0 (l.take 60)).sum ≤ 60000050 := by
  have h1 := menu3 h
  have h2 := @enF_sum T (l.take 60) 0
  have h3 : (l.take 60).length ≤ 60 := by rw [List.length_take]; omega
  omega
end Mine
end

section
open PySem PySem.W PyProof.Rows PySem.Calls PySem.Spec PyProof.V
namespace Mine
set_option maxRecDepth 100000
set_option maxHeartbeats 8000000
set_option linter.unusedVariables false
/-- what a comprehension over a range gathers -/
def rgF (T : Int → Bool) (g : Int → Int) (a : Int) (n : Nat) : List Int := ((List.range n).filter fun i => T (a + (i : Nat))).map fun i => g (a + (i : Nat))
theorem rgF_succ {T : Int → Bool} {g : Int → Int} {a : Int} {n : Nat} : rgF T g a (n + 1) = rgF T g a n ++ (if T (a + (n : Nat)) = true then [g (a + (n : Nat))] else []) := by
  unfold rgF
  rw [List.range_succ, List.filter_append, List.map_append]
  congr 1
  cases h : T (a + (n : Nat)) <;> simp [h]
theorem rgF_len {T : Int → Bool} {g : Int → Int} {a : Int} {n : Nat} : (rgF T g a n).length ≤ n := by
  unfold rgF
  rw [List.length_map]
  exact Nat.le_trans (List.length_filter_le _ _) (by simp)
section
variable {prog : Program} {w : World} {A : Around} {E : Value → Shared → Prop} {s : Shared} {h₀ : Heap} {L : Addr} {m : Str → Option Value} {env : Env}
inductive RgSrc (prog : Program) (w : World) (A : Around) (h₀ : Heap) (L : Addr) (m : Str → Option Value) (env : Env) (ifs : List PySem.Expr) (elt : PySem.Expr) (x : Str) (scope : Scope) (cl : List (Str × Addr)) (Fin : Shared → List (Addr × Obj) → List Int → Prop) (xv : Value) (s₁ : Shared) : Prop
  | mk (r : Addr) (a b : Int) (n : Nat) (t u v : Tok) (T : Int → Bool) (g : Int → Int) (news : List (Addr × Obj)) (_ : xv = .ref r) (_ : A.handled = none) (_ : IsRange s₁.heap r a b 1 t u v) (_ : Builtin.Range.small a b 1 = true) (_ : Builtin.Range.rangeSize a b 1 = (n : Int)) (_ : n ≤ 1000000) (_ : Fr h₀ L s₁.heap m) (_ : News h₀ L s₁.heap news) (_ : (∀ C oC m₂ h tk k t1 (E' : Value → Shared → Prop), C ≠ L → h₀.get? C = none → Fr h₀ L h m → News h₀ L h ((C, oC) :: news) → LCg.NsObj oC m₂ → m₂ x = some (.int k t1) → a ≤ k → k < a + (n : Int) →
      wpAny (model prog w) A (testsOf ifs (compEnvC scope cl C env)) (fun ok s₃ => ok = T k ∧ ∃ tk', s₃ = { s₁ with heap := h, toks := tk' }) E' { s₁ with heap := h, toks := tk })) (_ : (∀ C oC m₂ h tk k t1 (E' : Value → Shared → Prop), C ≠ L → h₀.get? C = none → Fr h₀ L h m → News h₀ L h ((C, oC) :: news) → LCg.NsObj oC m₂ → m₂ x = some (.int k t1) → a ≤ k → k < a + (n : Int) → T k = true →
      wpAny (model prog w) A (eval elt (compEnvC scope cl C env)) (fun y s₃ => (∃ t, y = .int (g k) t) ∧ ∃ tk', s₃ = { s₁ with heap := h, toks := tk' }) E' { s₁ with heap := h, toks := tk })) (_ : Fin s₁ news (rgF T g a n))
/-- behind the comprehension, as a value; stored under a name -/
def FinV (h₀ : Heap) (L : Addr) (m : Str → Option Value) (Q : Value → Shared → Prop) (s₁ : Shared) (news : List (Addr × Obj)) (ks : List Int) : Prop :=
  ∀ D ys h' tk, (∀ q ∈ news, q.1 < D) → IntsAre ys ks → Fr h₀ L h' m → News h₀ L h' ((D, LCg.lst ys) :: news) → Q (.ref D) { s₁ with heap := h', toks := tk }
def FinS (h₀ : Heap) (L : Addr) (m : Str → Option Value) (y : Str) (Q : Flow → Shared → Prop) (s₁ : Shared) (news : List (Addr × Obj)) (ks : List Int) : Prop :=
  ∀ D ys h' tk, (∀ q ∈ news, q.1 < D) → IntsAre ys ks → Fr h₀ L h' (fun z => if z = y then some (.ref D) else m z) → News h₀ L h' ((D, LCg.lst ys) :: news) → Q .next { s₁ with heap := h', toks := tk }
theorem range_block {elt iter : PySem.Expr} {ifs : List PySem.Expr} {x : Str} {px : Pos} {scope : Scope} {cl : List (Str × Addr)} {pos : Pos} {RR : Value → Addr → Result → Shared → Prop} {xv : Value} {s₁ : Shared} {Fin : Shared → List (Addr × Obj) → List Int → Prop}
    (hcell : ∀ y ∈ scope.names, y.2 ≠ .cell) (hkind : scope.kind = .function) (hxa : scope.names.lookup x = some .local)
    (h₁ : RgSrc prog w A h₀ L m env ifs elt x scope cl Fin xv s₁)
    (hRR : ∀ news ks D C h' tk m' ys, Fin s₁ news ks → (∀ q ∈ news, q.1 < D) → IntsAre ys ks → Fr h₀ L h' m → News h₀ L h' ((D, LCg.lst ys) :: news) → h'.Ns C m' → C ≠ L → h₀.get? C = none → (∀ q ∈ (D, LCg.lst ys) :: news, q.1 ≠ C) → RR (.ref D) C (.ok .next) { s₁ with heap := h', toks := tk }) :
    wpAny (model prog w) A (pyIter xv) (fun it s₂ => wpAny (model prog w) A (newList []) (fun acc s₃ => wpAny (model prog w) A (newFunctionEnv scope env.globals cl [] env.qual none .none (some env)) (fun cenv s₄ =>
      codeAny (model prog w) A (.compStart (.ListComp elt [⟨.Name x px, iter, ifs, 0⟩] scope pos) 0 it acc { cenv with scope := relabel scope env }) (RR acc cenv.locals) s₄) E s₃) E s₂) E s₁ := by
  obtain ⟨r, a, b, n, t, u, v, T, g, news, rfl, hh, hR, hsm, hrs, hn, F, N, test, elm, fin⟩ := h₁
  refine wpAny_pyIter_range hR hsm ?_
  rw [hrs]
  generalize hz : s₁.heap.objs.size = I
  have hIl : ∀ b o, s₁.heap.get? b = some o → b < I := fun b o e => hz ▸ Heap.lt_size e
  generalize hH1 : s₁.heap.push { cls := .type "range_iterator", data := .fields #[rawInt a, rawInt (n : Int), rawInt 1] } = H1
  have z1 : H1.objs.size = I + 1 := by rw [← hH1, Heap.size_push, hz]
  have up1 : ∀ b o, s₁.heap.get? b = some o → H1.get? b = some o := fun b o e => by rw [← hH1]; exact Heap.get?_push_of_some _ e
  have hit1 : IsRangeIter H1 I a (n : Int) 1 := by rw [← hH1, ← hz]; exact Heap.get?_push_size _ rfl
  refine wpAny_newObj_type (wpAny_newFunctionEnv hcell (by intro y hy; simp at hy) (fun h₁ hns₁ hsb₁ => ?_) hkind)
  dsimp only at hns₁ hsb₁ ⊢
  generalize hH2 : H1.push { cls := .type "list", dict := none, data := .seq ([] : List Value).toArray } = H2 at hns₁ hsb₁ ⊢
  have z2 : H2.objs.size = I + 1 + 1 := by rw [← hH2, Heap.size_push, z1]
  have up2 : ∀ b o, H1.get? b = some o → H2.get? b = some o := fun b o e => by rw [← hH2]; exact Heap.get?_push_of_some _ e
  have hD2 : H2.get? (I + 1) = some (LCg.lst []) := by rw [← hH2, ← z1]; exact Heap.get?_push_size _ rfl
  rw [z1]
  rw [z2] at hns₁ hsb₁ ⊢
  have l01 : I < I + 1 := Nat.lt_succ_self _
  have l12 : I + 1 < I + 1 + 1 := Nat.lt_succ_self _
  have l02 : I < I + 1 + 1 := Nat.lt_trans l01 l12
  have fr0 : ∀ y, I ≤ y → y ≠ L ∧ h₀.get? y = none := fun y hy => kdx_fresh F (hz ▸ hy)
  have fI := fr0 I (Nat.le_refl _)
  have fD := fr0 (I + 1) (Nat.le_of_lt l01)
  have fC := fr0 (I + 1 + 1) (Nat.le_of_lt l02)
  have nl : ∀ q ∈ news, q.1 < I := fun q hq => hIl _ _ (N q hq).1
  have old3 : ∀ b o, s₁.heap.get? b = some o → h₁.get? b = some o := fun b o e => hsb₁.extBut b o (Nat.ne_of_lt (Nat.lt_trans (hIl b o e) l02)) (Heap.get?_push_of_some _ (up2 b o (up1 b o e)))
  have W := LCg.range_walks (prog := prog) (w := w) (A := A) (I := I) hh a n
  have hit3 : IsRangeIter h₁ I (a + ((0 : Nat) : Int) * 1) ((n : Int) - ((0 : Nat) : Int)) 1 := by
    have e : IsRangeIter h₁ I a (n : Int) 1 := hsb₁.extBut _ _ (Nat.ne_of_lt l02) (Heap.get?_push_of_some _ (up2 _ _ hit1))
    simpa using e
  have hD3 : h₁.get? (I + 1) = some (LCg.lst []) := hsb₁.extBut _ _ (Nat.ne_of_lt l12) (Heap.get?_push_of_some _ hD2)
  have loop : ∀ s₃ : Shared, s₃ = { s₁ with heap := h₁, toks := s₁.toks + ([] : List (Str × Value)).length } →
      codeAny (model prog w) A (.compLoop (.ListComp elt [⟨.Name x px, iter, ifs, 0⟩] scope pos) 0 (.ref I) (.ref (I + 1)) (compEnvC scope cl (I + 1 + 1) env)) (RR (.ref (I + 1)) (I + 1 + 1)) s₃ := by
    rintro s₃ rfl
    refine codeAny_compLoop_tests (fun k s' => ∃ h' tk i ys m', s' = { s₁ with heap := h', toks := tk } ∧ i ≤ n ∧ k = n + 1 - i ∧ IsRangeIter h' I (a + (i : Nat) * 1) ((n : Int) - (i : Nat)) 1 ∧ h'.get? (I + 1) = some (LCg.lst ys) ∧ IntsAre ys (rgF T g a i) ∧
      h'.Ns (I + 1 + 1) m' ∧ Fr h₀ L h' m ∧ News h₀ L h' news) ?_ (n + 1) ⟨h₁, _, 0, [], _, rfl, Nat.zero_le _, rfl, hit3, hD3, .nil, hns₁, F.keeps old3, N.grown old3⟩
    intro k s' hIv0
    try k_fold
    obtain ⟨h', tk, i, ys, m', rfl, hi, rfl, hit', hD', hI', hns', F', N'⟩ := hIv0
    try k_fold
    by_cases hlt : i < n
    · refine W.item i { s₁ with heap := h', toks := tk } _ _ hlt hit' fun vv h₂ tk₂ hP hst₂ hk₂ => ?_
      try k_fold
      obtain ⟨t5, rfl⟩ := hP
      have up : ∀ b o, b ≠ I → h'.get? b = some o → h₂.get? b = some o := fun b o hb e => hk₂ b o (by simpa using hb) e
      have hns2 : h₂.Ns (I + 1 + 1) m' := hns'.at' fun o e => up _ o (Ne.symm (Nat.ne_of_lt l02)) e
      refine wpAny_assign_Name (wpAny_storeName_local (env := compEnvC scope cl (I + 1 + 1) env) (lookup_relabel_local hxa) hns2 (fun h₃ hn₃ hs₃ => ?_) (by simp [compEnvC, relabel, hkind]))
      have hD3 : h₃.get? (I + 1) = some (LCg.lst ys) := hs₃.extBut _ _ (Nat.ne_of_lt l12) (up _ _ (Nat.ne_of_gt l01) hD')
      have hit3 : IsRangeIter h₃ I (a + ((i + 1 : Nat) : Int) * 1) ((n : Int) - ((i + 1 : Nat) : Int)) 1 := hs₃.extBut _ _ (Nat.ne_of_lt l02) hst₂
      have F2 : Fr h₀ L h₂ m := ⟨F'.ns.at' fun o e => up _ o (Ne.symm fI.1) e, fun b o e => up b o (fun q => by rw [q, fI.2] at e; cases e) (F'.keep b o e), F'.above⟩
      have F3 : Fr h₀ L h₃ m := F2.change hs₃ fC.1 fC.2
      have N3 : News h₀ L h₃ news := fun q hq => ⟨hs₃.extBut _ _ (Nat.ne_of_lt (Nat.lt_trans (nl q hq) l02)) (up _ _ (Nat.ne_of_lt (nl q hq)) (N' q hq).1), (N q hq).2⟩
      try k_fold
      obtain ⟨oC, heC, hoC⟩ := LCg.ns_obj hn₃
      have N3' := News.cons_of heC fC.1 fC.2 N3
      have hmx : (fun z => if z = x then some (Value.int (a + (i : Nat)) t5) else m' z) x = some (.int (a + (i : Nat)) t5) := by simp
      refine wpAny_mono (test (I + 1 + 1) oC _ h₃ _ (a + (i : Nat)) t5 _ fC.1 fC.2 F3 N3' hoC hmx (by omega) (by omega)) (fun ok s₅ h₅ => ?_) fun _ _ q => q
      try k_fold
      obtain ⟨rfl, tk5, rfl⟩ := h₅
      cases hTi : T (a + (i : Nat)) with
      | false =>
        rw [if_neg Bool.false_ne_true]
        exact ⟨n + 1 - (i + 1), by omega, h₃, tk5, i + 1, ys, _, rfl, hlt, rfl, hit3, hD3, by rw [rgF_succ, hTi, if_neg Bool.false_ne_true, List.append_nil]; exact hI', hn₃, F3, N3⟩
      | true =>
        rw [if_pos rfl]
        refine wpAny_mono (elm (I + 1 + 1) oC _ h₃ _ (a + (i : Nat)) t5 _ fC.1 fC.2 F3 N3' hoC hmx (by omega) (by omega) hTi) (fun y s₆ h₆ => ?_) fun _ _ q => q
        try k_fold
        obtain ⟨⟨t6, rfl⟩, tk6, rfl⟩ := h₆
        have hyl : ys.length ≤ 1000000 := by
          have e1 := hI'.length
          have e2 := @rgF_len T g a i
          omega
        refine append_at (hsz := by show ys.toArray.size ≤ sizeLine; rw [List.size_toArray, sizeLine_eq]; omega) hD3 fun h₇ hs₇ hD₇ => ?_
        exact ⟨n + 1 - (i + 1), by omega, h₇, tk6, i + 1, ys ++ [.int (g (a + (i : Nat))) t6], _, rfl, hlt, rfl, hs₇.extBut _ _ (Nat.ne_of_lt l01) hit3, hD₇.trans (congrArg some (LCg.lst_snoc ys _)), by rw [rgF_succ, hTi, if_pos rfl]; exact hI'.append (.cons _ _ .nil), hn₃.sameBut hs₇ (Nat.ne_of_gt l12),
          F3.change hs₇ fD.1 fD.2, fun q hq => ⟨hs₇.extBut _ _ (Nat.ne_of_lt (Nat.lt_trans (nl q hq) l01)) (N3 q hq).1, (N q hq).2⟩⟩
    · have hin : i = n := Nat.le_antisymm hi (Nat.not_lt.mp hlt)
      try k_fold
      subst hin
      refine W.done { s₁ with heap := h', toks := tk } _ _ hit' fun h₅ tk5 hk₅ => ?_
      have up : ∀ b o, b ≠ I → h'.get? b = some o → h₅.get? b = some o := fun b o hb e => hk₅ b o (by simpa using hb) e
      have F5 : Fr h₀ L h₅ m := ⟨F'.ns.at' fun o e => up _ o (Ne.symm fI.1) e, fun b o e => up b o (fun q => by rw [q, fI.2] at e; cases e) (F'.keep b o e), F'.above⟩
      refine hRR news _ (I + 1) (I + 1 + 1) h₅ tk5 m' ys fin (fun q hq => Nat.lt_trans (nl q hq) l01) hI' F5 (fun q hq => ?_) (hns'.at' fun o e => up _ _ (Ne.symm (Nat.ne_of_lt l02)) e) fC.1 fC.2 (fun q hq => ?_)
      · rcases List.mem_cons.mp hq with rfl | hq
        · exact ⟨up _ _ (Nat.ne_of_gt l01) hD', fD⟩
        · exact ⟨up _ _ (Nat.ne_of_lt (nl q hq)) (N' q hq).1, (N q hq).2⟩
      · rcases List.mem_cons.mp hq with rfl | hq
        · exact Nat.ne_of_lt l12
        · exact Nat.ne_of_lt (Nat.lt_trans (nl q hq) l02)
  exact codeAny_compStart_list (loop _ rfl) (W.self 0 { s₁ with heap := h₁, toks := s₁.toks + ([] : List (Str × Value)).length } _ _ hit3 (loop _ rfl))
theorem range_comp {elt iter : PySem.Expr} {ifs : List PySem.Expr} {x : Str} {px : Pos} {scope : Scope} {cl : List (Str × Addr)} {pos : Pos} {Q : Value → Shared → Prop} (F₀ : Fr h₀ L s.heap m)
    (hclos : closureFor scope env = pure cl) (hcell : ∀ y ∈ scope.names, y.2 ≠ .cell) (hkind : scope.kind = .function)
    (hnames : ∀ y ∈ scope.names, y.2 = .local → scope.names.lookup y.1 = some .local) (hxa : scope.names.lookup x = some .local)
    (h : wpAny (model prog w) A (eval iter env) (RgSrc prog w A h₀ L m env ifs elt x scope cl (FinV h₀ L m Q)) E s)
    (hs : ∀ x, foldedSetIterable iter env x = pure x := by intro _; rfl) :
    wpAny (model prog w) A (eval (.ListComp elt [⟨.Name x px, iter, ifs, 0⟩] scope pos) env) Q E s := by
  rw [eval_ListComp]
  refine wpAny_comprehension_free (use := none) (cl := cl) rfl hs hclos hkind hnames (wpAny_mono h (fun xv s₁ h₁ => ?_) fun _ _ e => e)
  refine range_block hcell hkind hxa h₁ fun news ks D C h' tk m' ys fin lD hI F' N' hn hCL hC0 off => ⟨m', hn, fun h'' hs => fin D ys h'' tk lD hI (F'.change hs hCL hC0) fun q hq => ⟨hs.extBut _ _ (off q hq) (N' q hq).1, (N' q hq).2⟩⟩
/-- the same, stored under a name of the frame -/
theorem range_assign {elt iter : PySem.Expr} {ifs : List PySem.Expr} {x y : Str} {px py : Pos} {scope : Scope} {cl : List (Str × Addr)} {pos spos : Pos} {Q : Flow → Shared → Prop} (F₀ : Fr h₀ L s.heap m)
    (hsw : swapsWith (.ListComp elt [⟨.Name x px, iter, ifs, 0⟩] scope pos) (some (.Name y py)) spos.line env = pure true)
    (hclos : closureFor scope env = pure cl) (hcell : ∀ y ∈ scope.names, y.2 ≠ .cell) (hkind : scope.kind = .function)
    (hnames : ∀ y ∈ scope.names, y.2 = .local → scope.names.lookup y.1 = some .local) (hxa : scope.names.lookup x = some .local)
    (h : wpAny (model prog w) A (eval iter env) (RgSrc prog w A h₀ L m env ifs elt x scope cl (FinS h₀ L m y Q)) E s)
    (hLe : env.locals = L) (hy : env.kindOf y = some .local) (hp : (env.scope.kind == .class || (env.scope.kind == .module && env.locals != env.globals)) = false)
    (hs : ∀ x, foldedSetIterable iter env x = pure x := by intro _; rfl) :
    wpAny (model prog w) A (exec (.Assign [.Name y py] (.ListComp elt [⟨.Name x px, iter, ifs, 0⟩] scope pos) spos) env) Q E s := by
  try k_fold
  subst hLe
  rw [exec_Assign_Name_used _ _ _ _ hsw]
  refine wpAny_bind (wpAny_standAt (wpAny_bind ?_))
  show wpAny _ A (do let _ ← comprehension (.ListComp elt [⟨.Name x px, iter, ifs, 0⟩] scope pos) scope env _ (newList []) false (eval iter env) (some (assign (.Name y py) env))) _ _ s
  refine wpAny_bind (wpAny_mono (wpAny_comprehension_free (use := some (assign (.Name y py) env)) (Q := fun _ s' => Q .next s') rfl hs hclos hkind hnames
    (wpAny_mono h (fun xv s₁ h₁ => ?_) fun _ _ e => e)) (fun _ s' hq => wpAny_pure (wpAny_pure hq)) fun _ _ e => e)
  refine range_block hcell hkind hxa h₁ fun news ks D C h' tk m' ys fin lD hI F' N' hn hCL hC0 off => ?_
  show wpAny _ A (assign (.Name y py) env (.ref D)) _ _ _
  refine wpAny_assign_Name (wpAny_storeName_local hy F'.ns (fun h₂ hn₂ hs₂ => ?_) hp)
  have hL₀ : h₀.get? env.locals = none := Heap.get?_none_of_le F'.above
  have F₂ : Fr h₀ env.locals h₂ (fun z => if z = y then some (.ref D) else m z) := ⟨hn₂, fun b o e => hs₂.extBut b o (fun q => by rw [q, hL₀] at e; cases e) (F'.keep b o e), F'.above⟩
  refine ⟨m', hn.sameBut hs₂ hCL, fun h'' hs'' => fin D ys h'' _ lD hI (F₂.change hs'' hCL hC0) fun q hq => ⟨hs''.extBut _ _ (off q hq) (hs₂.extBut _ _ (N' q hq).2.1 (N' q hq).1), (N' q hq).2⟩⟩
end
end Mine
end

section
open PySem PySem.W PyProof.Rows PySem.Calls PySem.Spec PyProof.V
namespace Mine
set_option maxRecDepth 100000
set_option maxHeartbeats 8000000
set_option linter.unusedVariables false
section
variable {prog : Program} {w : World} {A₀ : Around} {E : Value → Shared → Prop} {s' : Shared} {h₀ h g : Heap} {L a e t : Addr} {m : Str → Option Value} {name : Str} {scope : Scope} {cd : Value} {cl : List (Str × Addr)}
  {n : Str} {b₀ : Stmt} {suite : List Stmt} {pos np : Pos} {rest : List ExceptHandler} {Q : Flow → Shared → Prop} {news : List (Addr × Obj)}
  {p : Program} {loose : List Str} {mean : ExcName → Option Value} {mg mb : Str → Option Value} {x : Str} {X T' : String}
/-- what a callee has raised is caught by a frame that has cells -/
theorem caught_X (K : Below A₀ h₀ [] h₀) (F : Fr h₀ L h m) (N : News h₀ L h news) (xt : Ext [] h g) (hsm : g.UpToSlots s'.heap) (R : RaisedS h₀ g [envX name scope L a cd cl] e (.type X) t [] [] s'.heap)
    (T : Top p loose mean mg mb h₀) (hmg : mg x = none) (hv : bootBuiltins x = some (.type T')) (hn : x ≠ "__name__")
    (hexc : isSubtype (.type T') (.type "BaseException") = pure true) (hnt : isSubtype (.type ((Manifest.find? T').elim "type" fun y => y.metatype)) (.type "tuple") = pure false) (hsub : isSubtype (.type X) (.type T') = pure true)
    (k : ∀ h' tk, Fr h₀ L h' (fun y => if y = n then some (.ref e) else m y) → News h₀ L h' news → h'.ExcAt e X (.ref t) → h'.TupAt t [] →
      wpAny (model prog w) ((A₀.deeper (envX name scope L a cd cl)).mark (some (.ref e))) (execs (b₀ :: suite) (envX name scope L a cd cl))
        (fun f s₄ => wpAny (model prog w) (A₀.deeper (envX name scope L a cd cl)) (do bindName (envX name scope L a cd cl) n .none; unbindBehindTheSuite (envX name scope L a cd cl) n pos) (fun _ s₅ => Q f s₅) E s₄)
        (AsSuiteRaised (model prog w) ((A₀.deeper (envX name scope L a cd cl)).mark (some (.ref e))) (envX name scope L a cd cl) n pos (notedBy (model prog w) ((A₀.deeper (envX name scope L a cd cl)).mark (some (.ref e))) (envX name scope L a cd cl) (cameBackBy (model prog w) (A₀.deeper (envX name scope L a cd cl)) (envX name scope L a cd cl) E)))
        { s' with heap := h', toks := tk })
    (hk : scope.kind = .function) (hlo : (envX name scope L a cd cl).kindOf n = some .local) (hx : (envX name scope L a cd cl).kindOf x = some .globalImplicit) (hd : (x == ("__debug__" : Str)) = false) :
    wpAny (model prog w) (A₀.deeper (envX name scope L a cd cl)) (noteFrame (.ref e) (envX name scope L a cd cl))
      (fun _ s₂ => wpAny (model prog w) (A₀.deeper (envX name scope L a cd cl)) (setFlight (.ref e) none) (fun _ s₃ =>
        wpAny (model prog w) (A₀.deeper (envX name scope L a cd cl)) (handleBy (.ref e) (envX name scope L a cd cl) (.ExceptHandler (some (.Name x np)) (some n) (b₀ :: suite) pos :: rest)) Q E s₃) E s₂) E s' := by
  obtain ⟨⟨B, hB, hBG, hl, hfl, hnew⟩, htup⟩ := R
  have hL : B.get? L = none := by
    obtain ⟨_, ⟨L', _, hf, hn', _⟩, _⟩ := hfl.2.2.1
    obtain rfl : L = L' := Option.some.inj hf
    exact hn'
  have NB : ∀ q ∈ news, B.get? q.1 = some q.2 := fun q hq => hBG _ _ (xt _ _ (fun z => nomatch z) (N q hq).1) (fun hm => by
    have : q.1 = L := by simpa [envX] using hm
    exact (N q hq).2.1 this)
  have Fg : Fr h₀ L g m := ext_fr0 xt F
  refine wpAny_looks_onW (Around.frames_deeper K.stack) rfl hfl fun h₄ hheld₄ hsm₄ => ?_
  refine wpAny_landsW hheld₄ fun h₅ hheld hsm₅' => ?_
  have hsm₅ := hsm₄.trans hsm₅'
  have hheld' := flyingW_base hB hheld
  have F₅ := Fg.of_stays hheld'.1 (hsm.trans hsm₅)
  obtain ⟨ob, hob, hobc⟩ := hheld'.there
  refine wpAny_handleBy_builtin_as (X := X) (T := T') (b := true) hexc hnt hsub (Calls.Name_function_global hk hx (Calls.loadGlobal_builtin (env := envX name scope L a cd cl) (T.g.keeps F₅.keep) hmg (T.b.keeps F₅.keep) ((T.builtins x hn).trans hv) ⟨rfl, ⟨ob, hob, hobc⟩, ?_⟩) hd)
  refine lands_againW hheld fun h₆ hfl₆ hsm₆ => ?_
  have F₆ := Fg.of_stays (flyingW_base hB hfl₆).1 ((hsm.trans hsm₅).trans hsm₆)
  have N₆ : News h₀ L h₆ news := fun q hq => ⟨hfl₆.1 _ _ (NB q hq), (N q hq).2⟩
  obtain ⟨oe, ws, hoe, hoec, hoed, hoe0⟩ := hfl₆.first
  obtain ⟨ot, nt, hot, hotc, hotd⟩ := (htup.of_slots hsm₅).of_slots hsm₆
  obtain ⟨oL, es, ep, hoL, hdL, _⟩ := F₆.ns
  have heL : e ≠ L := by
    rintro rfl
    rw [hoe] at hoL
    cases hoL
    rw [hoed] at hdL
    cases hdL
  have htL : t ≠ L := by
    rintro rfl
    rw [hot] at hoL
    cases hoL
    rw [hotd] at hdL
    cases hdL
  refine wpAny_storeName_local (env := envX name scope L a cd cl) hlo F₆.ns (fun h₇ hn₇ hs₇ => ?_) (by simp [envX, hk])
  exact k h₇ _ (F₆.set hn₇ hs₇) (N₆.set hs₇) ⟨oe, ws, hs₇.extBut _ _ heL hoe, hoec, hoed, hoe0⟩ ⟨ot, nt, hs₇.extBut _ _ htL hot, hotc, hotd⟩
theorem name_goesX {M : Model} {A : Around} {s : Shared} {Q : Unit → Shared → Prop} (F : Fr h₀ L s.heap m) (N : News h₀ L s.heap news)
    (h : ∀ h' v, Fr h₀ L h' (fun x => if x = n then v else m x) → News h₀ L h' news → Q () { s with heap := h', toks := s.toks + 1 })
    (hk : scope.kind = .function) (hl : (envX name scope L a cd cl).kindOf n = some .local) :
    wpAny M A (do bindName (envX name scope L a cd cl) n .none; unbindBehindTheSuite (envX name scope L a cd cl) n pos) Q E s :=
  wpAny_nameGoes_keeps hl F.ns (by simp [envX, hk]) fun h' v hn hs => h h' v (F.set hn hs) (N.set hs)
end
end Mine
end

section
open PySem PySem.W PyProof.Rows PySem.Calls PySem.Spec PyProof.V
namespace Mine
theorem cov_of {x lim : Int} (h0 : 2 ≤ x) (h1 : x ≤ 52) (h2 : 1 ≤ lim) (h3 : lim ≤ 13) : Cov lim (fun k => k ∈ hsC x lim) x := by
  obtain ⟨_, sp, _⟩ := hsC_spec h0 h1 h2 h3
  have key : ∀ (n : Nat) (v : Int), v.toNat ≤ n → (v ≤ lim ∨ Rch x lim v) → Cov lim (fun k => k ∈ hsC x lim) v := by
    intro n
    induction n with
    | zero => intro v hv _; exact .leaf (by omega)
    | succ n ih =>
      intro v hv hr
      by_cases hl : v ≤ lim
      · exact .leaf hl
      · have r : Rch x lim v := hr.resolve_left hl
        refine .node (by omega) ((sp _).mpr ⟨v, r, rfl⟩) (ih _ (by omega) ?_) (ih _ (by omega) ?_)
        · by_cases q : v / 2 ≤ lim
          · exact .inl q
          · exact .inr (.half r (by omega))
        · by_cases q : v - v / 2 ≤ lim
          · exact .inl q
          · refine .inr ?_
            rcases Int.emod_two_eq v with e | e
            · have e2 : v - v / 2 = v / 2 := by omega
              rw [e2] at q ⊢
              exact .half r (by omega)
            · have e2 : v - v / 2 = v / 2 + 1 := by omega
              rw [e2] at q ⊢
              exact .more r e (by omega)
  exact key x.toNat x (Nat.le_refl _) (by
    by_cases q : x ≤ lim
    · exact .inl q
    · exact .inr (.top (by omega)))
theorem figs_succ {b : Int} (hb : 0 < b) (n : Nat) (x : Int) : figs b (n + 1) x = (x % b) :: figs b n (x / b) := by
  unfold figs
  rw [List.range_succ_eq_map, List.map_cons, List.map_map]
  congr 1
  · simp
  · refine List.map_congr_left fun i _ => ?_
    show x / b ^ (i + 1) % b = x / b / b ^ i % b
    rw [Int.ediv_ediv_of_nonneg (Int.le_of_lt hb), Int.pow_succ, Int.mul_comm]
/-- the number that a row of figures makes -/
def numB (b : Int) (i : Nat) (l : List Int) : Int := (enF (fun _ _ => true) (fun i k => k * b ^ (((i : Nat) : Int)).toNat) i l).sum
theorem numB_cons {b k : Int} {i : Nat} {l : List Int} : numB b i (k :: l) = k * b ^ i + numB b (i + 1) l := by
  unfold numB
  rw [enF, if_pos rfl, List.sum_cons, Int.toNat_natCast]
theorem numB_up {b : Int} : ∀ {l : List Int} {i : Nat}, numB b (i + 1) l = b * numB b i l
  | [], i => by simp [numB, enF]
  | k :: l, i => by
    rw [numB_cons, numB_cons, @numB_up b l (i + 1), Int.mul_add, Int.pow_succ]
    congr 1
    rw [← Int.mul_assoc, Int.mul_comm b, Int.mul_assoc]
theorem numB_zero {b k : Int} {l : List Int} : numB b 0 (k :: l) = k + b * numB b 0 l := by
  rw [numB_cons, numB_up, Int.pow_zero, Int.mul_one]
theorem figs_numB {b : Int} (hb : 2 ≤ b) : ∀ {l : List Int}, (∀ d ∈ l, 0 ≤ d ∧ d < b) → figs b l.length (numB b 0 l) = l ∧ figs b l.length (-1 - numB b 0 l) = l.map (fun d => b - 1 - d)
  | [], _ => ⟨rfl, rfl⟩
  | k :: l, h => by
    obtain ⟨i1, i2⟩ := @figs_numB b hb l fun d hd => h d (.tail _ hd)
    have hk := h k (.head _)
    rw [List.length_cons, figs_succ (by omega), figs_succ (by omega), numB_zero]
    have hbn : b ≠ 0 := by omega
    constructor
    · rw [Int.add_mul_emod_self_left, Int.emod_eq_of_lt hk.1 hk.2, Int.add_mul_ediv_left _ _ hbn, Int.ediv_eq_zero_of_lt hk.1 hk.2, Int.zero_add, i1]
    · have e : -1 - (k + b * numB b 0 l) = (b - 1 - k) + b * (-1 - numB b 0 l) := by
        rw [Int.mul_sub, Int.mul_neg, Int.mul_one]; omega
      have h0 : 0 ≤ b - 1 - k := by omega
      have h1 : b - 1 - k < b := by omega
      rw [e, Int.add_mul_emod_self_left, Int.emod_eq_of_lt h0 h1, Int.add_mul_ediv_left _ _ hbn, Int.ediv_eq_zero_of_lt h0 h1, Int.zero_add, i2, List.map_cons]
theorem numB_bound {b : Int} (hb : 2 ≤ b) : ∀ {l : List Int}, (∀ d ∈ l, 0 ≤ d ∧ d < b) → 0 ≤ numB b 0 l ∧ numB b 0 l < b ^ l.length
  | [], _ => by simp [numB, enF]
  | k :: l, h => by
    obtain ⟨i1, i2⟩ := @numB_bound b hb l fun d hd => h d (.tail _ hd)
    have hk := h k (.head _)
    rw [List.length_cons, numB_zero, Int.pow_succ]
    have h1 : 0 ≤ b * numB b 0 l := Int.mul_nonneg (by omega) i1
    have h2 : b * (numB b 0 l + 1) ≤ b * b ^ l.length := Int.mul_le_mul_of_nonneg_left (by omega) (by omega)
    rw [Int.mul_add, Int.mul_one] at h2
    rw [Int.mul_comm (b ^ l.length)]
    omega
theorem rgF_true {g : Int → Int} {a : Int} {n : Nat} : rgF (fun _ => true) g a n = (List.range n).map fun i => g (a + (i : Nat)) := by
  unfold rgF
  congr 1
  exact List.filter_eq_self.mpr fun _ _ => rfl
end Mine
end

section
open PySem PySem.W PyProof.Rows PySem.Calls PySem.Spec
namespace Mine
set_option maxRecDepth 100000
set_option maxHeartbeats 8000000
set_option linter.unusedVariables false
set_option pp.deepTerms false
set_option pp.deepTerms.threshold 4
local macro_rules | `(tactic| walk_at "execs cons") => `(tactic| (k_here; k_fold))
theorem let_law {M : Model} {A : Around} {env : Env} {body : List Stmt} {Q : Flow → Shared → Prop} {E : Value → Shared → Prop} {s : Shared} (h : let envz := env; let Az := A.deeper envz; wpAny M Az (execs body envz) Q E s) : wpAny M (A.deeper env) (execs body env) Q E s := h
local macro_rules | `(tactic| walk_at "eval ListComp") => `(tactic| (k_here; (with_reducible show wpAny _ _ (eval (Expr.ListComp _ [⟨Expr.Tuple _ _ _, _, _, _⟩] _ _) _) _ _ _); refine Halt.out ?_))
local macro_rules | `(tactic| walk_at "eval ListComp") => `(tactic| (k_here; (with_reducible show wpAny _ _ (eval (Expr.ListComp _ [⟨Expr.Name (Str.ofString "k") _, _, _, _⟩] _ _) _) _ _ _); refine Halt.out ?_))
local macro_rules | `(tactic| walk_at "binaryOp Mult int int") => `(tactic| (k_here; refine mul_int ?_ (by with_reducible assumption)))
local macro_rules | `(tactic| walk_at "exec Assign cons ListComp") => `(tactic| (k_here; (with_reducible show wpAny _ _ (exec (Stmt.Assign [Expr.Name (Str.ofString "between") _] _ _) _) _ _ _); refine Halt.out ?_))
local macro_rules | `(tactic| walk_at "exec Assign cons ListComp") => `(tactic| (k_here; (with_reducible show wpAny _ _ (exec (Stmt.Assign [Expr.Name (Str.ofString "row") _] _ _) _) _ _ _); refine Halt.out ?_))
local macro_rules | `(tactic| walk_at "exec If") => `(tactic| (k_here; (with_reducible show wpAny _ _ (exec (Stmt.If (Expr.BoolOp BoolOp.And [_, _, _] _) _ _ _) _) _ _ _); refine Halt.out ?_))
local macro_rules | `(tactic| walk_at "call type:str") => `(tactic| (k_here; refine Halt.out ?_))
local macro_rules | `(tactic| walk_at "pyIter ref") => `(tactic| (k_here; refine Halt.out ?_))
local macro_rules | `(tactic| walk_at "call ref") => `(tactic| (k_here; refine Halt.out ?_))
local macro_rules | `(tactic| walk_at "exec For Name Call cons nil") => `(tactic| (k_here; refine Halt.out ?_))
local macro_rules | `(tactic| walk_at "call type:enumerate") => `(tactic| (k_here; refine Halt.out ?_))
theorem three_ints {ys : List Value} {cs : List Int} (h : IntsAre ys cs) (hl : cs.length = 3) : ∃ c0 c1 c2 t0 t1 t2, cs = [c0, c1, c2] ∧ ys = [.int c0 t0, .int c1 t1, .int c2 t2] := by
  cases h with
  | nil => simp at hl
  | cons a ta h => cases h with
    | nil => simp at hl
    | cons b tb h => cases h with
      | nil => simp at hl
      | cons c tc h => cases h with
        | nil => exact ⟨a, b, c, ta, tb, tc, rfl, rfl⟩
        | cons d td h => simp at hl
theorem with_law {g h : Heap} {L I T D l aL aW aB aC aS : Addr} {oI oT oD ol oL oW oB oC oS : Obj} {tabs : List (Addr × Obj)}
    (N : News g L h ((I, oI) :: (T, oT) :: (D, oD) :: (l, ol) :: (aL, oL) :: (aW, oW) :: (aB, oB) :: (aC, oC) :: (aS, oS) :: tabs)) {P : Prop}
    (k : ∀ I' D' oD' aL' oL' aW' oW' aB' oB' aC' oC', I' = I → D' = D → oD' = oD → aL' = aL → oL' = oL → aW' = aW → oW' = oW → aB' = aB → oB' = oB → aC' = aC → oC' = oC → P) : P :=
  k _ _ _ _ _ _ _ _ _ _ _ rfl rfl rfl rfl rfl rfl rfl rfl rfl rfl rfl
theorem fr_canon5 {g h : Heap} {L : Addr} {m m₂ : Str → Option Value} {a b c d e : Str} (F : Fr g L h m) (k : ∀ y, y ≠ a → y ≠ b → y ≠ c → y ≠ d → y ≠ e → m y = m₂ y) : Fr g L h (fun y => if y = a then m a else if y = b then m b else if y = c then m c else if y = d then m d else if y = e then m e else m₂ y) := fr_eq F fun y => by
  by_cases h1 : y = a
  · subst h1; simp
  rw [if_neg h1]
  by_cases h2 : y = b
  · subst h2; simp
  rw [if_neg h2]
  by_cases h3 : y = c
  · subst h3; simp
  rw [if_neg h3]
  by_cases h4 : y = d
  · subst h4; simp
  rw [if_neg h4]
  by_cases h5 : y = e
  · subst h5; simp
  rw [if_neg h5]; exact k y h1 h2 h3 h4 h5
theorem law_sub {g h : Heap} {L : Addr} {a t d l b c e f s : Addr × Obj} {r : List (Addr × Obj)} (N : News g L h (a :: t :: d :: l :: b :: c :: e :: f :: s :: r)) : News g L h (a :: d :: b :: c :: e :: f :: r) := fun p hp => N p (by
  simp only [List.mem_cons] at hp ⊢
  rcases hp with hp | hp | hp | hp | hp | hp | hp <;> simp only [hp, true_or, or_true])
theorem base_bound {c0 c1 c2 : Int} : -40 ≤ (([c0, c1, c2] : List Int).getD (Int.toNat 2) 0).fmod 100 - 40 ∧ (([c0, c1, c2] : List Int).getD (Int.toNat 2) 0).fmod 100 - 40 ≤ 59 := by
  show -40 ≤ c2.fmod 100 - 40 ∧ c2.fmod 100 - 40 ≤ 59
  rw [Int.fmod_eq_emod_of_nonneg c2 (by decide)]
  omega
theorem off_seven {I a b c d e f g : Nat} {oa ob oc od oe of og : Obj} (ha : a ≠ I) (hb : b ≠ I) (hc : c ≠ I) (hd : d ≠ I) (he : e ≠ I) (hf : f ≠ I) (hg : g ≠ I) : ∀ p ∈ [((a, oa) : Addr × Obj), (b, ob), (c, oc), (d, od), (e, oe), (f, of), (g, og)], p.1 ≠ I := by
  intro p hp
  simp only [List.mem_cons, List.not_mem_nil, or_false] at hp
  rcases hp with rfl | rfl | rfl | rfl | rfl | rfl | rfl <;> assumption
theorem led_third {g h : Heap} {L a b : Addr} {o ob : Obj} {p q : Addr × Obj} {r : List (Addr × Obj)} (N : News g L h (p :: q :: (a, o) :: (b, ob) :: r)) : ∃ o' a' ob', o' = o ∧ a' = a ∧ ob' = ob ∧ News g L h (p :: q :: (a', o') :: (b, ob') :: r) := ⟨o, a, ob, rfl, rfl, rfl, N⟩
theorem rgF_btw {x lim : Int} : rgF (fun k => decide (lim * 2 ^ k.toNat < x) && decide (x < (lim + 1) * 2 ^ k.toNat)) (fun k => k) 1 3 = [] ↔ btw x lim = false := by
  have e : List.range 3 = [0, 1, 2] := rfl
  unfold rgF btw
  rw [e, List.map_eq_nil_iff, List.filter_eq_nil_iff]
  simp only [List.mem_cons, List.not_mem_nil, or_false, forall_eq_or_imp, forall_eq, List.any_cons, List.any_nil, Bool.or_false]
  show (¬ (decide (lim * 2 ^ 1 < x) && decide (x < (lim + 1) * 2 ^ 1)) = true ∧ ¬ (decide (lim * 2 ^ 2 < x) && decide (x < (lim + 1) * 2 ^ 2)) = true ∧ ¬ (decide (lim * 2 ^ 3 < x) && decide (x < (lim + 1) * 2 ^ 3)) = true) ↔ _
  generalize (decide (lim * 2 ^ 1 < x) && decide (x < (lim + 1) * 2 ^ 1)) = b1
  generalize (decide (lim * 2 ^ 2 < x) && decide (x < (lim + 1) * 2 ^ 2)) = b2
  generalize (decide (lim * 2 ^ 3 < x) && decide (x < (lim + 1) * 2 ^ 3)) = b3
  cases b1 <;> cases b2 <;> cases b3 <;> simp
theorem ok_of_bad {x lim : Int} (h0 : 2 ≤ x) (h1 : x ≤ 52) (h2 : 1 ≤ lim) (h3 : lim ≤ 13) (h : badL x lim = false) : okL (hsC x lim) = true := by
  rw [(hsC_spec h0 h1 h2 h3).2.2, h]; rfl
theorem bad1 {x lim : Int} (h : decide (rgF (fun k => decide (lim * 2 ^ k.toNat < x) && decide (x < (lim + 1) * 2 ^ k.toNat)) (fun k => k) 1 3 = []) = true) : badL x lim = false := by
  have := rgF_btw.mp (of_decide_eq_true h)
  unfold badL
  rw [this, Bool.and_false]
theorem bad2 {x lim : Int} (h1 : lim.fmod 2 = 1) (h2 : 4 < lim) (h : decide (rgF (fun k => decide (lim * 2 ^ k.toNat < x) && decide (x < (lim + 1) * 2 ^ k.toNat)) (fun k => k) 1 3 = []) = false) : badL x lim = true := by
  have h3 : btw x lim = true := by
    cases hb : btw x lim with
    | true => rfl
    | false => exact absurd (rgF_btw.mpr hb) (of_decide_eq_false h)
  rw [Int.fmod_eq_emod_of_nonneg _ (by decide)] at h1
  unfold badL
  rw [h3, decide_eq_true h1, decide_eq_true h2]; rfl
theorem bad3 {x lim : Int} (h : ¬ 4 < lim) : badL x lim = false := by
  unfold badL
  rw [decide_eq_false h, Bool.and_false, Bool.false_and]
theorem bad4 {x lim : Int} (h : lim.fmod 2 ≠ 1) : badL x lim = false := by
  rw [Int.fmod_eq_emod_of_nonneg _ (by decide)] at h
  unfold badL
  rw [decide_eq_false h, Bool.false_and, Bool.false_and]
theorem bad5 {x lim : Int} (h : badL x lim = true) : badL x (lim + 1) = false := by
  unfold badL at h ⊢
  rw [Bool.and_eq_true, Bool.and_eq_true] at h
  have h1 := of_decide_eq_true h.1.1
  rw [decide_eq_false (by omega : ¬ (lim + 1) % 2 = 1), Bool.false_and, Bool.false_and]
theorem row_digits {bs c0 c1 : Int} {n : Nat} {row : List Int} (hb : 2 ≤ bs) (h : row = rgF (fun _ => true) (fun k => (c0 * (k + 3) + c1 * k * k).fmod bs) 0 n) : ∀ d ∈ row, 0 ≤ d ∧ d < bs := by
  intro d hd
  rw [h, rgF_true] at hd
  obtain ⟨i, _, rfl⟩ := List.mem_map.mp hd
  rw [fmod_pos (by omega)]
  exact ⟨Int.emod_nonneg _ (by omega), Int.emod_lt_of_pos _ (by omega)⟩
theorem num_bd {b : Int} {l : List Int} (hb : 2 ≤ b) (hb1 : b ≤ 60) (h : ∀ d ∈ l, 0 ≤ d ∧ d < b) (hl : l.length ≤ 60) :
    0 ≤ (enF (fun _ _ => true) (fun i k => k * b ^ (((i : Nat) : Int)).toNat) 0 l).sum ∧ (enF (fun _ _ => true) (fun i k => k * b ^ (((i : Nat) : Int)).toNat) 0 l).sum < 2 ^ 400 := by
  have hh := numB_bound hb h
  refine ⟨hh.1, Int.lt_of_lt_of_le hh.2 (Int.le_trans (pow_lt_bits (by omega) (by omega) l.length) (pow_mono2 (by omega)))⟩
theorem neg_bd {N P : Int} (h0 : 0 ≤ N) (h1 : N < P) : -P ≤ -1 - N ∧ -1 - N < P := by omega
theorem pos_bd {N P : Int} (h0 : 0 ≤ N) (h1 : N < P) : -P ≤ N ∧ N < P := by omega
theorem with_second {g h : Heap} {L R : Addr} {oR : Obj} {p : Addr × Obj} {r : List (Addr × Obj)} (N : News g L h (p :: (R, oR) :: r)) {P : Prop} (k : ∀ R', R' = R → P) : P := k R rfl
theorem tab_none {g h : Heap} {L : Addr} {a b : Obj} (N : News g L h [(45, a), (38, b)]) : ∀ x ∈ ([45, 38] : List Addr), g.get? x = none := by
  intro x hx
  simp only [List.mem_cons, List.not_mem_nil, or_false] at hx
  rcases hx with rfl | rfl
  · exact (N _ (.head _)).2.2
  · exact (N _ (.tail _ (.head _))).2.2
theorem tab_off {g h : Heap} {L : Addr} {a b : Obj} (N : News g L h [(45, a), (38, b)]) : L ∉ ([45, 38] : List Addr) := by
  intro hx
  simp only [List.mem_cons, List.not_mem_nil, or_false] at hx
  rcases hx with rfl | rfl
  · exact (N _ (.head _)).2.1 rfl
  · exact (N _ (.tail _ (.head _))).2.1 rfl
theorem news_part {g h h' : Heap} {L D3 : Addr} {o3 q45 q38 p45 p38 : Obj} {R I D a b c d : Addr × Obj} {l : List (Addr × Obj)} {m : Str → Option Value} (N : News g L h l) (mR : R ∈ l) (mI : I ∈ l) (mD : D ∈ l) (ma : a ∈ l) (mb : b ∈ l) (mc : c ∈ l) (md : d ∈ l)
    (NT : News g L h [(45, q45), (38, q38)]) (x : Ext [45, 38] h h') (h45 : h'.get? 45 = some p45) (h38 : h'.get? 38 = some p38) (hD : h'.get? D3 = some o3) (nD : h.get? D3 = none)
    (nR : R.1 ≠ 45 ∧ R.1 ≠ 38) (nI : I.1 ≠ 45 ∧ I.1 ≠ 38) (nDD : D.1 ≠ 45 ∧ D.1 ≠ 38) (na : a.1 ≠ 45 ∧ a.1 ≠ 38) (nb : b.1 ≠ 45 ∧ b.1 ≠ 38) (nc : c.1 ≠ 45 ∧ c.1 ≠ 38) (nd : d.1 ≠ 45 ∧ d.1 ≠ 38) (F : Fr g L h m) :
    News g L h' [(D3, o3), R, I, D, a, b, c, d, (45, p45), (38, p38)] := by
  have up : ∀ p ∈ l, p.1 ≠ 45 ∧ p.1 ≠ 38 → h'.get? p.1 = some p.2 ∧ p.1 ≠ L ∧ g.get? p.1 = none := fun p hp hn => ⟨x _ _ (by simp [hn.1, hn.2]) (N p hp).1, (N p hp).2⟩
  have z : News g L h' [R, I, D, a, b, c, d, (45, p45), (38, p38)] := by
    intro p hp
    simp only [List.mem_cons, List.not_mem_nil, or_false] at hp
    rcases hp with rfl | rfl | rfl | rfl | rfl | rfl | rfl | rfl | rfl
    · exact up _ mR nR
    · exact up _ mI nI
    · exact up _ mD nDD
    · exact up _ ma na
    · exact up _ mb nb
    · exact up _ mc nc
    · exact up _ md nd
    · exact ⟨h45, (NT _ (.head _)).2⟩
    · exact ⟨h38, (NT _ (.tail _ (.head _))).2⟩
  exact news_new F z hD nD
/-- where the law stands behind the refusal -/
inductive LMid (g : Heap) (L : Addr) (x : Int) (p q : Addr × Obj) (aL : Addr) (r : List (Addr × Obj)) (m₀ : Str → Option Value) (s₀ : Shared) (f : Flow) (s : Shared) : Prop
  | mk (_ : f = .next) (h tk dr lim tl oL v1 v2 : _) (_ : s = { s₀ with heap := h, toks := tk, drawn := dr }) (_ : oL.data = .cell (some (.int lim tl))) (_ : 1 ≤ lim) (_ : lim ≤ 13) (_ : okL (hsC x lim) = true) (_ : Fr g L h (fun y => if y = Str.ofString "between" then v1 else if y = Str.ofString "refusal" then v2 else m₀ y)) (_ : News g L h (p :: q :: (aL, oL) :: r))
theorem lim_bound {c0 c1 c2 : Int} : 1 ≤ 1 + (([c0, c1, c2] : List Int).getD (Int.toNat 1) 0).fmod 12 ∧ 1 + (([c0, c1, c2] : List Int).getD (Int.toNat 1) 0).fmod 12 ≤ 12 := by
  show 1 ≤ 1 + c1.fmod 12 ∧ 1 + c1.fmod 12 ≤ 12
  rw [Int.fmod_eq_emod_of_nonneg c1 (by decide)]
  omega
/-- where the law stands ahead of a width -/
inductive LInv (g : Heap) (L : Addr) (ls : Int) (I D aL aW aB aC : Addr) (oD oB oC : Obj) (m₀ : Str → Option Value) (s₀ : Shared) (n : Nat) (s : Shared) : Prop
  | mk (h tk dr j v1 v2 v3 v4 v5 oL oW vL vW p45 p38 : _) (_ : s = { s₀ with heap := h, toks := tk, drawn := dr }) (_ : j + n = 3) (_ : (n = 0 ∨ (p45 = #[] ∧ p38 = #[]))) (_ : oL.data = .cell vL) (_ : oW.data = .cell vW) (_ : Fr g L h (fun y => if y = Str.ofString "between" then v1 else if y = Str.ofString "refusal" then v2 else if y = Str.ofString "powers" then v3 else if y = Str.ofString "row" then v4 else if y = Str.ofString "number" then v5 else m₀ y)) (_ : News g L h [(I, rIt (ls + j) (3 - j : Int)), (D, oD), (aL, oL), (aW, oW), (aB, oB), (aC, oC), (45, tabObj p45), (38, tabObj p38)])
theorem law_holds : PySem.Challenge.rw_wv0074_01.Holds := hd (by
  k_go0
  refine let_law ?_
  intro envz Az
  k_fold
  k_steps
  refine Halt.on ?_
  rename Fr _ _ _ _ => F1
  rename News _ _ _ _ => N1
  refine cell_comp (F₀ := F1) (by with_unfolding_all rfl) (fun n => by rfl) (fun h => by rfl) (by rfl) (by decide) (by rfl) ?_
  k_steps
  rename Fr _ _ _ _ => F2
  rename News _ _ _ _ => N2
  rename IsRange _ _ _ _ _ _ _ _ => hR
  refine ⟨_, 3, _, _, _, fun _ c => 0 ≤ c ∧ c ≤ 60000050, _, rfl, rfl, hR, by decide, by decide, by decide, F2, N2, ?elm, ?fin⟩
  case elm =>
    intro C Kc I D oK oI oC oD h tk i t E' hi lI lD lC lK F3 N3 hoK
    clear F2 N2 hR
    k_lt lI
    k_lt lD
    k_lt lC
    k_lt lK
    have hi0 : (0 : Int) ≤ (i : Int) := by omega
    have hi1 : (i : Int) < 3 := by omega
    k_steps
    refine Halt.on ?_
    rename Fr _ _ _ _ => F4
    rename News _ _ _ _ => N4
    refine enum_comp (F₀ := F4) (by with_unfolding_all rfl) (by decide) (by rfl) (by decide) (by rfl) (by rfl) (by decide) ?_
    k_steps
    refine Halt.on ?_
    rename Fr _ _ _ _ => F5
    rename News _ _ _ _ => N5
    refine call_enumerate_list (isL_of N5 (.head _)) ?_
    intro h7 he7 hit7 hz7 keep7
    dsimp only at he7 hit7 hz7 keep7
    refine ⟨_, _, _, _, _, _, .none, fun j _ => (((j : Nat) : Int).fmod 3 == (i : Int)), fun _ x => x.fmod 1000000, _, rfl, rfl, keep7, Heap.get?_none_of_le (Nat.le_succ _), Heap.get?_none_of_le (Nat.le_refl _), Nat.ne_of_gt (Nat.lt_succ_self _), F5, N5, he7, hit7, isL_of N5 (.head _), ‹IntsAre _ (List.take 60 _)›, ?hlA, ?testA, ?elmA, ?finA⟩
    case hlA => rw [List.length_take]; omega
    case testA =>
      intro C2 oC2 m₂ h8 tk8 j x t1 t2 E' hC2L hC20 keep8 heC2 hoC2 hma hmb hjx
      have F8 := F5.keeps keep8
      have N8 := News.cons_of heC2 hC2L hC20 (N5.grown keep8)
      clear F5 N5
      refine wpAny_tests_one ?_
      k_steps
    case elmA =>
      intro C2 oC2 m₂ h8 tk8 j x t1 t2 E' hC2L hC20 keep8 heC2 hoC2 hma hmb hjx hT
      have F8 := F5.keeps keep8
      have N8 := News.cons_of heC2 hC2L hC20 (N5.grown keep8)
      clear F5 N5
      k_steps
    case finA =>
      intro D2 ys2 h9 tk9 lD2 hI2 keep9 N9
      have F9 := F5.keeps keep9
      have hb := fun l => @cell_bound (fun j _ => (((j : Nat) : Int).fmod 3 == (i : Int))) l i hi
      clear F5 N5
      k_steps
      · exact (hb _).1
      · exact (hb _).2
      · assumption
      · rename News _ _ _ _ => N10
        exact news_sub N10 fun p hp => .tail _ (.tail _ hp)
  case fin =>
    intro D ys cs h tk lD hI hlen hok F3 N3
    clear F2 N2 hR
    k_lt lD
    obtain ⟨c0, c1, c2, t0, t1, t2, rfl, rfl⟩ := three_ints hI hlen
    have b0 := hok 0 c0 rfl
    have b1 := hok 1 c1 rfl
    have b2 := hok 2 c2 rfl
    clear hI hlen hok
    try dsimp only
    k_steps
    refine Halt.on ?_
    refine' wpAny_For ?_ ?hs
    case hs => intro _; rfl
    k_steps
    refine Halt.on ?_
    rename IsRange _ _ _ _ _ _ _ _ => hR
    rename Fr _ _ _ _ => F4
    rename News _ _ _ _ => N4
    have g0 : ([c0, c1, c2] : List Int).getD (Int.toNat 0) 0 = c0 := rfl
    have hls0 : 2 ≤ 2 + c0.fmod 48 ∧ 2 + c0.fmod 48 ≤ 49 := by
      have e : c0.fmod 48 = c0 % 48 := Int.fmod_eq_emod_of_nonneg _ (by decide)
      rw [e]; omega
    rw [g0] at hR F4
    refine wpAny_pyIter_range hR (small_one (by omega) (by omega) (by omega) (by omega)) ?_
    have F5 := F4.push { cls := .type "range_iterator", data := .fields #[rawInt (2 + c0.fmod 48), rawInt (Builtin.Range.rangeSize (2 + c0.fmod 48) (2 + c0.fmod 48 + 3) 1), rawInt 1] }
    have N5 := News.push F4 N4 { cls := .type "range_iterator", data := .fields #[rawInt (2 + c0.fmod 48), rawInt (Builtin.Range.rangeSize (2 + c0.fmod 48) (2 + c0.fmod 48 + 3) 1), rawInt 1] } rfl
    have lI := fun (q : Addr × Obj) hq => Heap.lt_size (N4 q hq).1
    have erz : Builtin.Range.rangeSize (2 + c0.fmod 48) (2 + c0.fmod 48 + 3) 1 = 3 := by rw [rangeSize_one]; split <;> omega
    rw [erz] at F5 N5 ⊢
    generalize hls : 2 + c0.fmod 48 = ls at F5 N5 hls0 ⊢
    clear erz F4 N4 hR g0
    refine let_map F5 ?_; clear F5; intro m₂ F5
    refine with_law N5 fun I D' oD aL oL aW oW aB oB aC oC e1 e2 e3 e4 e5 e6 e7 e8 e9 e10 e11 => ?_
    rw [← e1] at N5 lI ⊢
    subst e2 e5 e7 e9 e11
    k_lt lI
    clear e1
    rename Shared => s1
    refine' for_inv (LInv (ghostOf s1.heap [(49, 45), (42, 38)]) s1.heap.objs.size ls I D' aL aW aB aC oD oB oC m₂ s1) ?hE ?turn 3 ?h0
    case hE => exact PassesOwn.leaving
    case h0 =>
      subst e3 e4 e6 e8 e10
      exact ⟨_, _, _, 0, _, _, _, _, _, oL, oW, _, _, _, _, rfl, rfl, .inr ⟨rfl, rfl⟩, by assumption, by assumption, fr_canon5 (a := Str.ofString "between") (b := Str.ofString "refusal") (c := Str.ofString "powers") (d := Str.ofString "row") (e := Str.ofString "number") F5 (fun _ _ _ _ _ _ => rfl), by simpa [rIt] using law_sub N5⟩
    case turn =>
      intro n st hIv0
      try k_fold
      obtain ⟨h, tk, dr, j, v1, v2, v3, v4, v5, oL, oW, vL, vW, p45, p38, rfl, hj, hp, hoL, hoW, F6, N6⟩ := hIv0
      refine let_map F6 ?_; clear F6; intro m₃ F6
      subst e3 e4 e6 e8 e10
      clear F5 N5
      obtain ⟨bs, tb, hbs, hbs0⟩ : ∃ bs tb, oB.data = Data.cell (some (.int bs tb)) ∧ -40 ≤ bs ∧ bs ≤ 59 := ⟨_, _, by assumption, base_bound⟩
      try dsimp only
      have z6 := N6 _ (.head _)
      cases n with
      | zero =>
        refine wpAny_pyNext_range_end rfl z6.1 (by omega) fun h7 he7 => ?_
        have e7 : Ext [I] h h7 := fun b o n q => he7 b o (by simpa using n) q
        have F7 := ext_fr e7 F6 (by simpa using z6.2.2) (by simpa using Ne.symm z6.2.1)
        have N7 := ext_news e7 (news_sub N6 (ds := [(45, tabObj p45), (38, tabObj p38)]) (fun p hp => by simp only [List.mem_cons, List.not_mem_nil, or_false] at hp ⊢; rcases hp with hp | hp <;> simp only [hp, true_or, or_true])) (fun q hq => by
          simp only [List.mem_cons, List.not_mem_nil, or_false] at hq ⊢
          rcases hq with rfl | rfl
          · exact neN (by omega)
          · exact neN (by omega))
        clear F6 N6 z6
        try dsimp only
        k_steps
      | succ n =>
        rcases hp with hp | ⟨rfl, rfl⟩
        · exact absurd hp (Nat.succ_ne_zero _)
        refine wpAny_pyNext_range_item (it := I) (x := ls + (j : Int)) (left := 3 - (j : Int)) (step := 1) z6.1 (by omega) fun h7 hit7 hs7 => ?_
        have F7 := F6.change hs7 z6.2.1 z6.2.2
        have off6 : ∀ p ∈ [(D', LCg.lst [Value.int c0 t0, Value.int c1 t1, Value.int c2 t2]), (s1.heap.objs.size + 1 + 1 + 1 + 1 + 1, oL), (s1.heap.objs.size + 1 + 1 + 1 + 1, oW), (s1.heap.objs.size + 1 + 1 + 1, oB), (s1.heap.objs.size + 1 + 1, oC), (45, tabObj #[]), (38, tabObj #[])], p.1 ≠ I :=
          off_seven (by omega) (by omega) (by omega) (by omega) (by omega) (by omega) (by omega)
        have N7 := News.setHead N6 off6 hs7 hit7
        clear off6
        have e5 : (3 - (j : Int)) - 1 = 3 - ((j + 1 : Nat) : Int) := by omega
        have e6 : ls + (j : Int) + 1 = ls + ((j + 1 : Nat) : Int) := by omega
        rw [e5, e6] at N7
        obtain ⟨x, hx⟩ : ∃ x, x = ls + (j : Int) := ⟨_, rfl⟩
        rw [← hx]
        have hx0 : 2 ≤ x ∧ x ≤ 51 := by omega
        clear F6 N6 z6
        try dsimp only
        refine wpAny_assign_Name ?_
        k_steps
        refine Halt.on ?_
        rename Fr _ _ _ _ => F8
        rename News _ _ _ _ => N8
        refine range_assign (F₀ := F8) (by with_unfolding_all rfl) (by with_unfolding_all rfl) (by decide) (by rfl) (by decide) (by rfl) ?_ (by rfl) (by rfl) (by rfl)
        refine let_map F8 ?_; clear F8; intro m8 F8
        try k_fold
        obtain ⟨oLm, aLm, oWm, eLm, eaLm, eWm, N9⟩ := led_third N8
        obtain ⟨lim, tli, hlim, hl01⟩ : ∃ lim t, oLm.data = Data.cell (some (.int lim t)) ∧ 1 ≤ lim ∧ lim ≤ 12 := ⟨_, _, by subst eLm; assumption, lim_bound⟩
        have b2 : x ≤ 52 := Int.le_trans hx0.2 (by decide)
        have b4 : lim ≤ 13 := Int.le_trans hl01.2 (by decide)
        obtain ⟨tw, hWm⟩ : ∃ t, oWm.data = Data.cell (some (.int x t)) := ⟨_, by subst eWm; assumption⟩
        clear N8 eLm eWm
        subst eaLm
        k_steps
        rename IsRange _ _ _ _ _ _ _ _ => hR
        rename Fr _ _ _ _ => F8
        rename News _ _ _ _ => N8
        refine ⟨_, 1, 4, 3, _, _, _, fun k => decide (lim * 2 ^ k.toNat < x) && decide (x < (lim + 1) * 2 ^ k.toNat), fun k => k, _, rfl, rfl, hR, by decide, by decide, by decide, F8, N8, ?tst, ?elm, ?fin⟩
        case tst =>
          intro C oC m₃ h8 tk8 k t1 E' hCL hC0 F9 N9 hoC hmk hk0 hk1
          clear F8 N8 hR
          refine wpAny_tests_one ?_
          by_cases hc : lim * 2 ^ k.toNat < x
          · k_steps
            show _ = (decide (lim * 2 ^ k.toNat < x) && decide (x < (lim + 1) * 2 ^ k.toNat))
            rw [decide_eq_true hc, Bool.true_and]
          · k_steps
            show _ = (decide (lim * 2 ^ k.toNat < x) && decide (x < (lim + 1) * 2 ^ k.toNat))
            rw [decide_eq_false hc, Bool.false_and]
        case elm =>
          intro C oC m₃ h8 tk8 k t1 E' hCL hC0 F9 N9 hoC hmk hk0 hk1 hT
          clear F8 N8 hR
          k_steps
        case fin =>
          intro Db yb h8 tk8 lDb hIb F9 N9
          clear F8 N8 hR
          k_lt lDb
          try dsimp only
          k_steps
          refine Halt.on ?_
          refine wpAny_mono (Q := LMid (ghostOf s1.heap [(49, 45), (42, 38)]) s1.heap.objs.size x (I, rIt (ls + ((j + 1 : Nat) : Int)) (3 - ((j + 1 : Nat) : Int))) (D', LCg.lst [Value.int c0 t0, Value.int c1 t1, Value.int c2 t2]) (s1.heap.objs.size + 1 + 1 + 1 + 1 + 1)
            [(s1.heap.objs.size + 1 + 1 + 1 + 1, oWm), (s1.heap.objs.size + 1 + 1 + 1, oB), (s1.heap.objs.size + 1 + 1, oC), (45, tabObj #[]), (38, tabObj #[])] m8 s1) ?body ?rest (fun _ _ e => e)
          case body =>
            refine wpAny_If ?_
            k_steps
            · have hb : badL x lim = false := bad1 (by with_reducible assumption)
              rename Fr _ _ _ _ => F10
              rename News _ _ _ _ => N10
              exact ⟨rfl, _, _, _, lim, tli, oLm, _, _, rfl, hlim, hl01.1, b4, ok_of_bad hx0.1 b2 hl01.1 b4 hb, fr_canon2 (a := Str.ofString "between") (b := Str.ofString "refusal") F10 (fun z n1 n2 => by simp [m8, n1, n2]), news_tail (news_tail N10)⟩
            · have hb : badL x lim = true := bad2 (by with_reducible assumption) (by with_reducible assumption) (by with_reducible assumption)
              have hokf : okL (hsC x lim) = false := by
                have := (hsC_spec (x := x) (lim := lim) hx0.1 b2 hl01.1 b4).2.2
                rw [hb] at this
                exact this
              refine wpAny_Try_except ?_
              k_steps
              refine Halt.on ?_
              rename Fr _ _ _ _ => F11
              rename News _ _ _ _ => N11
              k_dflt (refine' ct_pow ?kB F11 ?kX ?kT ?hk ?hd ?hu (by omega) (by omega) (by omega) (by omega) (by omega) ?_ ?rz)
              case kB => k_asm
              case kX => k_asm
              case kT => k_asm
              case hk => rfl
              case hd => decide
              case hu => decide
              case rz =>
                intro f r e t g h9 tk9 dr9 hs9 hm9 ho9 x9 U9 R9
                rename Top _ _ _ _ _ _ => T9
                k_dflt (refine' caught_X (by k_asm) F11 N11 x9 U9 R9 T9 (T9.free _ (by decide +kernel) (by decide +kernel) (by decide +kernel) (by decide +kernel) (by decide +kernel)) PyProof.Rows.Boot.«AssertionError» (by decide +kernel) PySem.F.isExc_AssertionError PySem.F.notTuple_AssertionError (by rw [isSubtype_type]; kernel_rfl) ?_ rfl rfl rfl (by decide))
                intro h10 tk10 F12 N12 hex hta
                clear F11 N11
                try dsimp only
                k_steps
                refine Halt.on ?_
                refine PySem.P.str_of_exc_none PySem.F.excStr_AssertionError (by show callerA.units + 3 + 2 < cLine; decide) hex hta ?_
                k_steps
                rename Fr _ _ _ _ => F13
                rename News _ _ _ _ => N13
                refine name_goesX F13 N13 ?_ rfl rfl
                intro h14 v14 F14 N14
                clear F13 N13
                try dsimp only
                k_steps
                rename Fr _ _ _ _ => F15
                rename News _ _ _ _ => N15
                exact ⟨rfl, _, _, _, lim + 1, _, _, _, _, rfl, by assumption, by omega, by omega, ok_of_bad hx0.1 b2 (by omega) (by omega) (bad5 hb), fr_canon2 (a := Str.ofString "between") (b := Str.ofString "refusal") F15 (fun z n1 n2 => by simp [m8, n1, n2]), news_tail (news_tail N15)⟩
              intro hs kvs D od h9 tk9 dr9 hs9 hm9 hok9 _ _ _ _ _ _
              exfalso
              have e9 := hsC_eq hx0.1 b2 hl01.1 b4 hs9 hm9
              rw [← e9] at hokf
              cases hs with
              | nil => cases hokf
              | cons f r =>
                have := hok9 f r rfl
                have hq : okH [f] r = false := hokf
                rw [hq] at this
                cases this
            · have hb : badL x lim = false := bad3 (by with_reducible assumption)
              rename Fr _ _ _ _ => F10
              rename News _ _ _ _ => N10
              exact ⟨rfl, _, _, _, lim, tli, oLm, _, _, rfl, hlim, hl01.1, b4, ok_of_bad hx0.1 b2 hl01.1 b4 hb, fr_canon2 (a := Str.ofString "between") (b := Str.ofString "refusal") F10 (fun z n1 n2 => by simp [m8, n1, n2]), news_tail N10⟩
            · have hb : badL x lim = false := bad4 (by with_reducible assumption)
              rename Fr _ _ _ _ => F10
              rename News _ _ _ _ => N10
              exact ⟨rfl, _, _, _, lim, tli, oLm, _, _, rfl, hlim, hl01.1, b4, ok_of_bad hx0.1 b2 hl01.1 b4 hb, fr_canon2 (a := Str.ofString "between") (b := Str.ofString "refusal") F10 (fun z n1 n2 => by simp [m8, n1, n2]), news_tail N10⟩
          case rest =>
            intro f st hIv0
            try k_fold
            obtain ⟨rfl, h10, tk10, dr10, lm, tlm, oLn, w1, w2, rfl, hlm, hlm0, hlm1, hokm, F10, N10⟩ := hIv0
            refine let_map F10 ?_; clear F10; intro m₄ F10
            clear F9 N9 hlim
            try dsimp only
            k_steps
            refine Halt.on ?_
            rename Fr _ _ _ _ => F11
            rename News _ _ _ _ => N11
            k_dflt (refine' ct_told ?kB F11 ?kX ?kT ?hk ?hd ?hu hx0.1 (by omega) hlm0 hlm1 (by omega) (by omega) hokm ?_)
            case kB => k_asm
            case kX => k_asm
            case kT => k_asm
            case hk => rfl
            case hd => decide
            case hu => decide
            intro kvs Dk od h12 tk12 dr12 x12 nD hD hod hkv
            have F12 := ext_fr0 x12 F11
            have N12 := news_new F11 (ext_news0 x12 N11) hD nD
            have n45 : @Ne Nat Dk 45 := Ne.symm (news_off N11 nD (45, tabObj #[]) (by simp only [List.mem_cons, true_or, or_true]))
            have n38 : @Ne Nat Dk 38 := Ne.symm (news_off N11 nD (38, tabObj #[]) (by simp only [List.mem_cons, true_or, or_true]))
            clear F11 N11
            try dsimp only
            k_steps
            · refine Halt.on ?_
              rename Fr _ _ _ _ => F13
              rename News _ _ _ _ => N13
              have hb2 : 2 ≤ bs := by omega
              have hx2 : x = ls + 2 := by omega
              refine range_assign (F₀ := F13) (by with_unfolding_all rfl) (by with_unfolding_all rfl) (by decide) (by rfl) (by decide) (by rfl) ?_ (by rfl) (by rfl) (by rfl)
              k_steps
              rename IsRange _ _ _ _ _ _ _ _ => hR
              rename Fr _ _ _ _ => F14
              rename News _ _ _ _ => N14
              refine ⟨_, 0, x, x.toNat, _, _, _, fun _ => true, fun k => (c0 * (k + 3) + c1 * k * k).fmod bs, _, rfl, rfl, hR, small_one (by omega) (by omega) (by omega) (by omega), by rw [rangeSize_one]; split <;> omega, by omega, F14, N14, ?tst2, ?elm2, ?fin2⟩
              case tst2 =>
                intro C oC m₃ h8 tk8 k t1 E' hCL hC0 F15 N15 hoC hmk hk0 hk1
                exact wpAny_tests_nil ⟨rfl, _, rfl⟩
              case elm2 =>
                intro C oC m₃ h8 tk8 k t1 E' hCL hC0 F15 N15 hoC hmk hk0 hk1 hT
                clear F14 N14 hR
                have hk2 : k ≤ 52 := by omega
                k_steps
              case fin2 =>
                intro Dr yr h13 tk13 lDr hIr F15 N15
                clear F14 N14 hR
                k_lt lDr
                obtain ⟨row, hrow⟩ : ∃ r, r = rgF (fun _ => true) (fun k => (c0 * (k + 3) + c1 * k * k).fmod bs) 0 x.toNat := ⟨_, rfl⟩
                rw [← hrow] at hIr
                have hrl : row.length = x.toNat := by rw [hrow, rgF_true, List.length_map, List.length_range]
                have hdig : ∀ d ∈ row, 0 ≤ d ∧ d < bs := row_digits hb2 hrow
                try dsimp only
                k_steps
                refine Halt.on ?_
                rename Fr _ _ _ _ => F16
                rename News _ _ _ _ => N16
                refine enum_comp (F₀ := F16) (by with_unfolding_all rfl) (by decide) (by rfl) (by decide) (by rfl) (by rfl) (by decide) ?_
                k_steps
                refine Halt.on ?_
                rename Fr _ _ _ _ => F17
                rename News _ _ _ _ => N17
                refine call_enumerate_list (isL_of N17 (.head _)) ?_
                intro h18 he18 hit18 hz18 keep18
                dsimp only at he18 hit18 hz18 keep18
                refine ⟨_, _, _, _, _, _, .none, fun _ _ => true, fun i k => k * bs ^ (((i : Nat) : Int)).toNat, _, rfl, rfl, keep18, Heap.get?_none_of_le (Nat.le_succ _), Heap.get?_none_of_le (Nat.le_refl _), Nat.ne_of_gt (Nat.lt_succ_self _), F17, N17, he18, hit18, isL_of N17 (.head _), hIr, by rw [hrl]; omega, ?tst3, ?elm3, ?fin3⟩
                case tst3 =>
                  intro C2 oC2 m₂ h8 tk8 i k t1 t2 E' hC2L hC20 keep8 heC2 hoC2 hma hmb hik
                  exact wpAny_tests_nil ⟨rfl, _, rfl⟩
                case elm3 =>
                  intro C2 oC2 m₂ h8 tk8 i k t1 t2 E' hC2L hC20 keep8 heC2 hoC2 hma hmb hik hT
                  have F18 := F17.keeps keep8
                  have N18 := News.cons_of heC2 hC2L hC20 (N17.grown keep8)
                  clear F17 N17
                  have hkd := hdig k (List.mem_of_getElem? hik)
                  have hil : i < row.length := (List.getElem?_eq_some_iff.mp hik).1
                  have hpw := pow_bits' (b := bs) (by omega) (by omega) (j := (((i : Nat) : Int)).toNat) (by omega)
                  have hmo : IntMulOk k (bs ^ (((i : Nat) : Int)).toNat) := IntMulOk.of_bits (Nat.le_trans (bits_lt (m := 6) hkd.1 (by omega)) (by decide)) (Nat.le_trans hpw (by decide))
                  have hi0 : (0 : Int) ≤ (i : Int) := by omega
                  have hi1 : (i : Int) ≤ 52 := by omega
                  k_steps
                case fin3 =>
                  intro D2 ys2 h19 tk19 lD2 hI2 keep19 N19
                  have F19 := F17.keeps keep19
                  clear F17 N17
                  k_lt lD2
                  have hfig := figs_numB hb2 hdig
                  rw [hrl] at hfig
                  unfold numB at hfig
                  have hnb := num_bd hb2 (by omega) hdig (by omega : row.length ≤ 60)
                  have hx60 : x.toNat ≤ 60 := by omega
                  have q0 : @Ne Nat I 45 ∧ @Ne Nat I 38 := ⟨by omega, by omega⟩
                  have q1 : @Ne Nat D' 45 ∧ @Ne Nat D' 38 := ⟨by omega, by omega⟩
                  have q2 : @Ne Nat (s1.heap.objs.size + 1 + 1 + 1 + 1 + 1) 45 ∧ @Ne Nat (s1.heap.objs.size + 1 + 1 + 1 + 1 + 1) 38 := ⟨by omega, by omega⟩
                  have q3 : @Ne Nat (s1.heap.objs.size + 1 + 1 + 1 + 1) 45 ∧ @Ne Nat (s1.heap.objs.size + 1 + 1 + 1 + 1) 38 := ⟨by omega, by omega⟩
                  have q4 : @Ne Nat (s1.heap.objs.size + 1 + 1 + 1) 45 ∧ @Ne Nat (s1.heap.objs.size + 1 + 1 + 1) 38 := ⟨by omega, by omega⟩
                  have q5 : @Ne Nat (s1.heap.objs.size + 1 + 1) 45 ∧ @Ne Nat (s1.heap.objs.size + 1 + 1) 38 := ⟨by omega, by omega⟩
                  k_steps
                  · refine Halt.on ?_
                    rename Fr _ _ _ _ => F20
                    rename News _ _ _ _ => N20
                    refine with_second N20 fun R1 eR => ?_
                    subst eR
                    have NT := news_sub N20 (ds := [(45, tabObj #[]), (38, tabObj #[])]) (fun p hp => by simp only [List.mem_cons, List.not_mem_nil, or_false] at hp ⊢; rcases hp with hp | hp <;> simp only [hp, true_or, or_true])
                    have hbd := neg_bd hnb.1 hnb.2
                    k_dflt (refine' ct_part1 (H := fun k => k ∈ hsC x lm) hb2 (by omega) hlm0 (fun k hk _ => hkv.get hk) (cov_of hx0.1 b2 hlm0 hlm1) ?kB F20 ?kX ?kT ?hk ?hd ?hu ?kC2 ?kC1 NT (kda_dict N20 ?mDk hod) n45 n38 hbd.1 hbd.2 (by omega) (by omega) ?_)
                    case kB => k_asm
                    case kX => k_asm
                    case kT => k_asm
                    case hk => rfl
                    case hd => exact Nat.lt_of_le_of_lt (Nat.add_le_add_left hx60 _) (by decide)
                    case hu => exact Nat.lt_of_le_of_lt (Nat.add_le_add_left (Nat.mul_le_mul_left 8 hx60) _) (by decide)
                    case kC2 => k_asm
                    case kC1 => k_asm
                    case mDk => k_mem
                    intro D3 vs3 ep3 p45 p38 h21 tk21 x21 hp45 hp38 nD3 hD3 hI3
                    rw [hfig.2] at hI3
                    have F21 := ext_fr x21 F20 (tab_none NT) (tab_off NT)
                    have N21 := news_part (R := (R1, _)) (I := (I, rIt (ls + ((j + 1 : Nat) : Int)) (3 - ((j + 1 : Nat) : Int)))) (D := (D', LCg.lst [Value.int c0 t0, Value.int c1 t1, Value.int c2 t2])) (a := (s1.heap.objs.size + 1 + 1 + 1 + 1 + 1, oLn)) (b := (s1.heap.objs.size + 1 + 1 + 1 + 1, oWm)) (c := (s1.heap.objs.size + 1 + 1 + 1, oB)) (d := (s1.heap.objs.size + 1 + 1, oC)) N20 (.tail _ (.head _)) (by k_mem) (by k_mem) (by k_mem) (by k_mem) (by k_mem) (by k_mem) NT x21 hp45 hp38 hD3 nD3
                      ⟨neN (by dsimp only; omega), neN (by dsimp only; omega)⟩ q0 q1 q2 q3 q4 q5 F20
                    clear F20 N20 NT
                    try dsimp only
                    k_steps
                    rename Fr _ _ _ _ => F22
                    rename News _ _ _ _ => N22
                    exact Halt.on ⟨n, Nat.lt_succ_self _, _, _, _, j + 1, _, _, _, _, _, oLn, oWm, _, _, p45, p38, rfl, by omega, .inl (by omega), hlm, hWm, fr_canon5 (a := Str.ofString "between") (b := Str.ofString "refusal") (c := Str.ofString "powers") (d := Str.ofString "row") (e := Str.ofString "number") F22 (fun z n1 n2 n3 n4 n5 => by simp [m₃, m₄, m8, n1, n2, n3, n4, n5]), news_tail (news_tail N22)⟩
                  · refine Halt.on ?_
                    rename Fr _ _ _ _ => F20
                    rename News _ _ _ _ => N20
                    refine with_second N20 fun R1 eR => ?_
                    subst eR
                    have NT := news_sub N20 (ds := [(45, tabObj #[]), (38, tabObj #[])]) (fun p hp => by simp only [List.mem_cons, List.not_mem_nil, or_false] at hp ⊢; rcases hp with hp | hp <;> simp only [hp, true_or, or_true])
                    have hbd := pos_bd hnb.1 hnb.2
                    k_dflt (refine' ct_part1 (H := fun k => k ∈ hsC x lm) hb2 (by omega) hlm0 (fun k hk _ => hkv.get hk) (cov_of hx0.1 b2 hlm0 hlm1) ?kB F20 ?kX ?kT ?hk ?hd ?hu ?kC2 ?kC1 NT (kda_dict N20 ?mDk hod) n45 n38 hbd.1 hbd.2 (by omega) (by omega) ?_)
                    case kB => k_asm
                    case kX => k_asm
                    case kT => k_asm
                    case hk => rfl
                    case hd => exact Nat.lt_of_le_of_lt (Nat.add_le_add_left hx60 _) (by decide)
                    case hu => exact Nat.lt_of_le_of_lt (Nat.add_le_add_left (Nat.mul_le_mul_left 8 hx60) _) (by decide)
                    case kC2 => k_asm
                    case kC1 => k_asm
                    case mDk => k_mem
                    intro D3 vs3 ep3 p45 p38 h21 tk21 x21 hp45 hp38 nD3 hD3 hI3
                    rw [hfig.1] at hI3
                    have F21 := ext_fr x21 F20 (tab_none NT) (tab_off NT)
                    have N21 := news_part (R := (R1, _)) (I := (I, rIt (ls + ((j + 1 : Nat) : Int)) (3 - ((j + 1 : Nat) : Int)))) (D := (D', LCg.lst [Value.int c0 t0, Value.int c1 t1, Value.int c2 t2])) (a := (s1.heap.objs.size + 1 + 1 + 1 + 1 + 1, oLn)) (b := (s1.heap.objs.size + 1 + 1 + 1 + 1, oWm)) (c := (s1.heap.objs.size + 1 + 1 + 1, oB)) (d := (s1.heap.objs.size + 1 + 1, oC)) N20 (.tail _ (.head _)) (by k_mem) (by k_mem) (by k_mem) (by k_mem) (by k_mem) (by k_mem) NT x21 hp45 hp38 hD3 nD3
                      ⟨neN (by dsimp only; omega), neN (by dsimp only; omega)⟩ q0 q1 q2 q3 q4 q5 F20
                    clear F20 N20 NT
                    try dsimp only
                    k_steps
                    rename Fr _ _ _ _ => F22
                    rename News _ _ _ _ => N22
                    exact Halt.on ⟨n, Nat.lt_succ_self _, _, _, _, j + 1, _, _, _, _, _, oLn, oWm, _, _, p45, p38, rfl, by omega, .inl (by omega), hlm, hWm, fr_canon5 (a := Str.ofString "between") (b := Str.ofString "refusal") (c := Str.ofString "powers") (d := Str.ofString "row") (e := Str.ofString "number") F22 (fun z n1 n2 n3 n4 n5 => by simp [m₃, m₄, m8, n1, n2, n3, n4, n5]), news_tail (news_tail N22)⟩
            all_goals (
              rename Fr _ _ _ _ => F13
              rename News _ _ _ _ => N13
              exact Halt.on ⟨n, Nat.lt_succ_self _, _, _, _, j + 1, _, _, _, _, _, oLn, oWm, _, _, _, _, rfl, by omega, .inr ⟨rfl, rfl⟩, hlm, hWm, fr_canon5 (a := Str.ofString "between") (b := Str.ofString "refusal") (c := Str.ofString "powers") (d := Str.ofString "row") (e := Str.ofString "number") F13 (fun z n1 n2 n3 n4 n5 => by simp [m₃, m₄, m8, n1, n2, n3, n4, n5]), news_tail N13⟩))
end Mine
end

theorem PySem.Challenge.cw_wv0074_01_holds : PySem.Challenge.rw_wv0074_01.Holds := by
  exact Mine.law_holds
