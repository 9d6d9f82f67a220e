import PyProof.Rows.All
import Wide.All
import OpenK.AllK
import Wide.FinOn
import PySem.Challenge.RW_mr0008_02
set_option Elab.async false
set_option maxRecDepth 100000
set_option maxHeartbeats 8000000
set_option compiler.extract_closed false

section
open PySem PySem.W PyProof.Rows
namespace Mine
open_top hd for PySem.Challenge.rw_mr0008_02
end Mine
end

section
open PySem PySem.W PyProof.Rows PySem.Calls PySem.Spec
namespace Mine

theorem code_def0 {prog : Program} {w : World} {A A₀ : Around} {s : Shared} {K : Frag} {L : Addr} {h₀ base : Heap} {m mg mb : Str → Option Value} {p : Program} {loose : List Str} {mean : ExcName → Option Value}
    {env : Env} {outer : List Env} {R : Result → Shared → Prop} {name qual : Str} {params : Arguments} {body : List Stmt} {scope : Scope} {dV kV doc pm cdv ct oc : Value} {an od : Option Addr} {osl : Array (Option Value)} {f : Addr} {args : Args} {binds : List (Str × Value)}
    (B : Below A₀ base outer h₀) (F : Fr h₀ L s.heap m) (X₀ : K.In h₀) (T : Top p loose mean mg mb h₀) (hA : A.frames = some (env :: outer)) (hf : env.frame = some L) (hke : env.scope.kind = .function)
    (ho : K.lookup f = some ⟨oc, od, .func (fnOf name qual params body scope dV kV doc pm an cdv ct), osl⟩) (hcd : codeIn K cdv qual = true) (hroom : A.depth < recursionLimit)
    (hbind : BindsTo s (fnOf name qual params body scope dV kV doc pm an cdv ct) args binds) (hloc : ∀ y ∈ binds, scope.names.lookup y.1 = some .local)
    (h : ∀ L' h₁, Fr s.heap L' h₁ (fun y => binds.reverse.lookup y) → News s.heap L' h₁ [] → Below A base (env :: outer) s.heap → K.In s.heap → Top p loose mean mg mb s.heap →
      wpAny (model prog w) (A.deeper (envOf qual scope L' f cdv)) (execs body (envOf qual scope L' f cdv))
        (fun fl s' => LeaveK h₀ L m s.heap R (match fl with | .ret v => v | _ => .none) s')
        (fun e s' => wpAny (model prog w) (A.deeper (envOf qual scope L' f cdv)) (leaving (envOf qual scope L' f cdv) e) (fun _ s'' => R (.error e) s'') (fun e' s'' => R (.error e') s'') s')
        { s with heap := h₁, toks := s.toks + binds.length })
    (hco : scope.isCoroutine = false) (hgen : scope.isGenerator = false) (hk : scope.kind = .function)
    (hcell : ∀ x ∈ scope.names, x.2 ≠ .cell) : codeAny (model prog w) A (.call (.ref f) args) R s := by
  obtain ⟨FG, BG, st, lv⟩ := groundX (R := R) B F (News.nil (h₀ := h₀) (h := s.heap) (L := L)) hA hf hke
  have XS : K.In s.heap := X₀.keeps F.keep
  refine codeAny_call_def (fd := fnX name qual params body scope [] dV kV doc pm an cdv ct) (body := body) (binds := binds) hroom (XS _ _ ho) rfl (T.nolimit.keeps F.keep) (codeRec_of XS hcd) rfl hbind hcell hloc (fun h₁ hns hk₁ => ?_) hco hgen hk
  exact wpAny_mono (h s.heap.objs.size h₁ ⟨hns, fun b o e => hk₁ b o e, Nat.le_refl _⟩ News.nil BG XS (T.keeps F.keep)) (fun fl s' hl => lv _ _ hl) fun _ _ y => y

theorem wpAny_depth_le {α : Type} {M : Model} {A : Around} {E : Value → Shared → Prop} {s : Shared} {t : Sem α} {Q : α → Shared → Prop} {d u : Nat} (h : wpAny M { A with depth := d, units := u } t Q E s) (hd : A.depth ≤ d) (hu : A.units ≤ u) : wpAny M A t Q E s :=
  fun Γ p hΓ => h Γ p ⟨hΓ.1, Nat.le_trans hΓ.2.1 hd, hΓ.2.2.1, hΓ.2.2.2.1, Nat.le_trans hΓ.2.2.2.2 hu⟩

noncomputable abbrev prg : Program := PySem.Challenge.rw_mr0008_02.row.prog
noncomputable abbrev lse : List Str := looseW hd.view_39 [Str.ofString "a2b_base64", Str.ofString "b2a_base64"]

/-- what a def of the text does when called: from a frame of any kind, at the depth dp -/
def Con (w : World) (dp un : Nat) (f : Addr) (args : Args) (Pre : Heap → Prop) (P : Heap → Value → Prop) : Prop :=
  ∀ (mean : ExcName → Option Value) (mg mb : Str → Option Value) (gd : Option (List Code)) (env : Env) (outer : List Env) (A₀ : Around) (base h₀ : Heap) (L : Addr) (m : Str → Option Value) (s : Shared) (R : Result → Shared → Prop),
    Below A₀ base outer h₀ → Fr h₀ L s.heap m → (hd.heap_39 w.params).In h₀ → Top hd.view_39 lse mean mg mb h₀ → env.frame = some L → env.scope.kind = .function → Pre s.heap →
    (∀ r h' tk', Fr h₀ L h' m → (∀ b o, s.heap.get? b = some o → h'.get? b = some o) → P h' r → R (.ok (.ret r)) { s with heap := h', toks := tk' }) →
    codeAny (model prg w) { handled := none, depth := dp, frames := some (env :: outer), guards := gd, units := un } (.call (.ref f) args) R s

theorem con_back {R : Result → Shared → Prop} {h₀ : Heap} {L : Addr} {m : Str → Option Value} {s : Shared} {P : Heap → Value → Prop} {r : Value} {h' : Heap} {tk' : Nat}
    (hret : ∀ r h' tk', Fr h₀ L h' m → (∀ b o, s.heap.get? b = some o → h'.get? b = some o) → P h' r → R (.ok (.ret r)) { s with heap := h', toks := tk' })
    {L' : Addr} {m' : Str → Option Value} (F' : Fr s.heap L' h' m') (F : Fr h₀ L h' m) (hp : P h' r) : R (.ok (.ret r)) { s with heap := h', toks := tk' } := hret r h' tk' F F'.keep hp

end Mine
end

section
open PySem PySem.W PyProof.Rows PySem.Calls PySem.Spec
namespace Mine
theorem code_defC0 {prog : Program} {w : World} {A A₀ : Around} {s : Shared} {K : Frag} {L : Addr} {h₀ base : Heap} {m mg mb : Str → Option Value} {p : Program} {loose : List Str} {mean : ExcName → Option Value}
    {env : Env} {outer : List Env} {R : Result → Shared → Prop} {name qual : Str} {params : Arguments} {body : List Stmt} {scope : Scope} {dV kV doc pm cdv ct oc : Value} {an od : Option Addr} {osl : Array (Option Value)} {f : Addr} {args : Args} {binds : List (Str × Value)}
    (B : Below A₀ base outer h₀) (F : Fr h₀ L s.heap m) (X₀ : K.In h₀) (T : Top p loose mean mg mb h₀) (hA : A.frames = some (env :: outer)) (hf : env.frame = some L) (hke : env.scope.kind = .function)
    (ho : K.lookup f = some ⟨oc, od, .func (fnOf name qual params body scope dV kV doc pm an cdv ct), osl⟩) (hcd : codeIn K cdv qual = true) (hroom : A.depth < recursionLimit)
    (hbind : BindsTo s (fnOf name qual params body scope dV kV doc pm an cdv ct) args binds) (hkind : (binds.all fun y => scope.names.lookup y.1 == some .local || scope.names.lookup y.1 == some .cell) = true)
    (hnd : ((cellsFrom 0 scope.names []).map (·.1)).Nodup)
    (h : ∀ L' h₁ tk cells, Fr s.heap L' h₁ (bindL (envOfC qual scope L' f cdv).kindOf binds fun _ => none) → News s.heap L' h₁ cells →
      CellsAre (bindC (envOfC qual scope L' f cdv).kindOf binds fun _ => none) (cellsFrom (L' + 1) scope.names []) cells → Below A base (env :: outer) s.heap → K.In s.heap → Top p loose mean mg mb s.heap →
      wpAny (model prog w) (A.deeper (envOfC qual scope L' f cdv)) (execs body (envOfC qual scope L' f cdv))
        (fun fl s' => LeaveK h₀ L m s.heap R (match fl with | .ret v => v | _ => .none) s')
        (fun e s' => wpAny (model prog w) (A.deeper (envOfC qual scope L' f cdv)) (leaving (envOfC qual scope L' f cdv) e) (fun _ s'' => R (.error e) s'') (fun e' s'' => R (.error e') s'') s')
        { s with heap := h₁, toks := tk })
    (hco : scope.isCoroutine = false) (hgen : scope.isGenerator = false) (hk : scope.kind = .function) : codeAny (model prog w) A (.call (.ref f) args) R s := by
  obtain ⟨FG, BG, st, lv⟩ := groundX (R := R) B F (News.nil (h₀ := h₀) (h := s.heap) (L := L)) hA hf hke
  have XS : K.In s.heap := X₀.keeps F.keep
  refine codeAny_call_function (fd := fnX name qual params body scope [] dV kV doc pm an cdv ct) (body := body) hroom (XS _ _ ho) rfl hco hgen rfl (codeRec_of XS hcd) (hbind _ _ _ _ ?_)
  refine wpAny_newFunctionEnv_cells hk (kindsX hkind _) fun env' he s' x => ?_
  subst he
  refine ⟨(T.nolimit.keeps F.keep).keeps x.toInCall.keep, codeAny_func ?_⟩
  obtain ⟨h₁, tk, rfl, _⟩ := x.done
  obtain ⟨cells, NC, Y⟩ := Cl.news (h₀ := s.heap) (Nat.le_refl _) fun n c hm => ⟨x.cell n c (lookup_of_mem_nodup (cellsFrom_names scope.names 0 (s.heap.objs.size + 1) [] [] rfl ▸ hnd) hm), x.above n c hm⟩
  exact wpAny_mono (h s.heap.objs.size h₁ tk cells ⟨x.toInCall.ns, x.toInCall.keep, Nat.le_refl _⟩ NC Y BG XS (T.keeps F.keep)) (fun fl s' hl => lv _ _ hl) fun _ _ y => y
end Mine
end

section
open PySem PySem.W PyProof.Rows PySem.Calls PySem.Spec
namespace Mine
/-- the signs of base 64 -/
noncomputable def tb : List Int := [65, 66, 67, 68, 69, 70, 71, 72, 73, 74, 75, 76, 77, 78, 79, 80, 81, 82, 83, 84, 85, 86, 87, 88, 89, 90, 97, 98, 99, 100, 101, 102, 103, 104, 105, 106, 107, 108, 109, 110, 111, 112, 113, 114, 115, 116, 117, 118, 119, 120, 121, 122, 48, 49, 50, 51, 52, 53, 54, 55, 56, 57, 43, 47]
noncomputable def sg (i : Int) : Int := tb.getD i.toNat 0
noncomputable def enc : List Int → List Int
  | [] => []
  | [a] => [sg (a / 4), sg (a % 4 * 16), 61, 61]
  | [a, b] => [sg (a / 4), sg (a % 4 * 16 + b / 16), sg (b % 16 * 4), 61]
  | a :: b :: c :: r => sg (a / 4) :: sg (a % 4 * 16 + b / 16) :: sg (b % 16 * 4 + c / 64) :: sg (c % 64) :: enc r
theorem enc_append : ∀ (q r : List Int), q.length % 3 = 0 → enc (q ++ r) = enc q ++ enc r
  | [], _, _ => rfl
  | [_], _, h => by simp at h
  | [_, _], _, h => by simp at h
  | a :: b :: c :: q, r, h => by
    have ih := enc_append q r (by simp only [List.length_cons] at h; omega)
    show enc (a :: b :: c :: (q ++ r)) = _
    simp only [enc, List.cons_append, ih]
theorem enc_len : ∀ q : List Int, (enc q).length = 4 * ((q.length + 2) / 3)
  | [] => by simp [enc]
  | [_] => by simp [enc]
  | [_, _] => by simp [enc]
  | a :: b :: c :: q => by
    have ih := enc_len q
    simp only [enc, List.length_cons, ih]
    omega
theorem and_shift (x n : Int) : ∀ k : Nat, 0 ≤ n → n < 2 ^ k → Builtin.bitAnd (x * 2 ^ k) n = 0 := by
  intro k
  induction k generalizing n with
  | zero =>
    intro h0 h1
    have : n = 0 := by simp at h1; omega
    subst this
    rw [bitAnd_comm]
    simp [Builtin.bitAnd]
    cases x <;> simp
  | succ k ih =>
    intro h0 h1
    rw [kbt_halves]
    have e : x * 2 ^ (k + 1) = 2 * (x * 2 ^ k) := by rw [Int.pow_succ]; rw [← Int.mul_assoc, Int.mul_comm]
    have e1 : x * 2 ^ (k + 1) / 2 = x * 2 ^ k := by rw [e]; omega
    have e2 : ¬ (x * 2 ^ (k + 1) % 2 = 1 ∧ n % 2 = 1) := by rw [e]; omega
    rw [e1, if_neg e2, ih (n / 2) (by omega) (by rw [Int.pow_succ] at h1; omega)]
    rfl
theorem or_shift (x n : Int) (k : Nat) (h0 : 0 ≤ n) (h1 : n < 2 ^ k) : Builtin.bitOr (x * 2 ^ k) n = x * 2 ^ k + n := by
  rw [bitOr_and, and_shift x n k h0 h1]; omega
theorem sg_of {i j : Int} (h : i = j) : sg i = sg j := by rw [h]
/-- what holds between the turns of the loop of b2a_base64 -/
def B2a (pre : List Int) (lb lc : Int) (out : List Int) : Prop :=
  0 ≤ lc ∧ lc ≤ 65535 ∧ out.length ≤ 2 * pre.length ∧ ∃ q, q.length % 3 = 0 ∧
    ((lb = 0 ∧ pre = q ∧ out = enc q) ∨
     (∃ a, lb = 2 ∧ pre = q ++ [a] ∧ lc % 4 = a % 4 ∧ out = enc q ++ [sg (a / 4)]) ∨
     (∃ a b, lb = 4 ∧ pre = q ++ [a, b] ∧ lc % 16 = b % 16 ∧ out = enc q ++ [sg (a / 4), sg (a % 4 * 16 + b / 16)]))
theorem B2a.start : B2a [] 0 0 [] := ⟨by omega, by omega, by simp, [], rfl, .inl ⟨rfl, rfl, rfl⟩⟩
theorem B2a.ways {pre : List Int} {lb lc : Int} {out : List Int} (h : B2a pre lb lc out) : lb = 0 ∨ lb = 2 ∨ lb = 4 := by
  obtain ⟨_, _, _, q, _, h | ⟨_, h, _⟩ | ⟨_, _, h, _⟩⟩ := h
  · exact .inl h.1
  · exact .inr (.inl h)
  · exact .inr (.inr h)
/-- the new left part of the turn -/
noncomputable def lcn (lc n : Int) : Int := Builtin.bitAnd (Builtin.bitOr (lc * 2 ^ Int.toNat 8) n) 65535
theorem lcn_eq {lc n : Int} (h0 : 0 ≤ n) (h1 : n < 256) : lcn lc n = (lc * 256 + n) % 65536 := by
  unfold lcn
  rw [bitAnd_m16]
  have e : (2 : Int) ^ Int.toNat 8 = 256 := by decide
  have := or_shift lc n (Int.toNat 8) h0 (by rw [e]; exact h1)
  rw [this, e]
theorem lcn_in (x : Int) : 0 ≤ x % 65536 ∧ x % 65536 ≤ 65535 := by omega
theorem len_b {o p : Nat} (h : o ≤ 2 * p) : o + 1 ≤ 2 * (p + 1) := by omega
theorem B2a.turn0 {pre : List Int} {lc n : Int} {out : List Int} (h : B2a pre 0 lc out) (h0 : 0 ≤ n) (h1 : n < 256) {i : Int} (hi : i = lcn lc n / 4 % 64) : B2a (pre ++ [n]) 2 (lcn lc n) (out ++ [sg i]) := by
  obtain ⟨l0, l1, hz, q, hq, ⟨_, hp, ho⟩ | ⟨_, e, _⟩ | ⟨_, _, e, _⟩⟩ := h
  · rw [lcn_eq h0 h1] at hi ⊢
    subst hp ho
    refine ⟨(lcn_in _).1, (lcn_in _).2, by rw [List.length_append, List.length_append]; exact len_b hz, _, hq, .inr (.inl ⟨n, rfl, rfl, by omega, ?_⟩)⟩
    rw [sg_of (show i = n / 4 by omega)]
  · exact absurd e (by decide)
  · exact absurd e (by decide)
theorem B2a.turn2 {pre : List Int} {lc n : Int} {out : List Int} (h : B2a pre 2 lc out) (h0 : 0 ≤ n) (h1 : n < 256) {i : Int} (hi : i = lcn lc n / 16 % 64) : B2a (pre ++ [n]) 4 (lcn lc n) (out ++ [sg i]) := by
  obtain ⟨l0, l1, hz, q, hq, ⟨e, _⟩ | ⟨a, _, hp, hl, ho⟩ | ⟨_, _, e, _⟩⟩ := h
  · exact absurd e (by decide)
  · rw [lcn_eq h0 h1] at hi ⊢
    subst hp ho
    refine ⟨(lcn_in _).1, (lcn_in _).2, by rw [List.length_append, List.length_append (as := _ ++ _)]; exact len_b hz, _, hq, .inr (.inr ⟨a, n, rfl, by simp, by omega, ?_⟩)⟩
    rw [sg_of (show i = a % 4 * 16 + n / 16 by omega)]
    simp
  · exact absurd e (by decide)
theorem B2a.turn4 {pre : List Int} {lc n : Int} {out : List Int} (h : B2a pre 4 lc out) (h0 : 0 ≤ n) (h1 : n < 256) {i j : Int} (hi : i = lcn lc n / 64 % 64) (hj : j = lcn lc n % 64) : B2a (pre ++ [n]) 0 (lcn lc n) (out ++ [sg i] ++ [sg j]) := by
  obtain ⟨l0, l1, hz, q, hq, ⟨e, _⟩ | ⟨_, e, _⟩ | ⟨a, b, _, hp, hl, ho⟩⟩ := h
  · exact absurd e (by decide)
  · exact absurd e (by decide)
  · rw [lcn_eq h0 h1] at hi hj ⊢
    subst hp ho
    refine ⟨(lcn_in _).1, (lcn_in _).2, by simp only [List.length_append, List.length_cons, List.length_nil] at hz ⊢; omega, q ++ [a, b, n], by rw [List.length_append]; exact (Nat.add_mod_right ..).trans hq, .inl ⟨rfl, by simp, ?_⟩⟩
    rw [sg_of (show i = b % 16 * 4 + n / 64 by omega), sg_of (show j = n % 64 by omega), enc_append _ _ hq]
    simp [enc]
/-- the loop's end -/
theorem B2a.end0 {xs : List Int} {lc : Int} {out : List Int} (h : B2a xs 0 lc out) : out = enc xs := by
  obtain ⟨_, _, _, q, _, ⟨_, hp, ho⟩ | ⟨_, e, _⟩ | ⟨_, _, e, _⟩⟩ := h
  · rw [ho, hp]
  · exact absurd e (by decide)
  · exact absurd e (by decide)
theorem B2a.end2 {xs : List Int} {lc : Int} {out : List Int} (h : B2a xs 2 lc out) {i : Int} (hi : i = lc % 4 * 16) : out ++ [sg i] ++ [61] ++ [61] = enc xs := by
  obtain ⟨_, _, _, q, hq, ⟨e, _⟩ | ⟨a, _, hp, hl, ho⟩ | ⟨_, _, e, _⟩⟩ := h
  · exact absurd e (by decide)
  · rw [hp, enc_append _ _ hq, ho, sg_of (show i = a % 4 * 16 by omega)]
    simp [enc]
  · exact absurd e (by decide)
theorem B2a.end4 {xs : List Int} {lc : Int} {out : List Int} (h : B2a xs 4 lc out) {i : Int} (hi : i = lc % 16 * 4) : out ++ [sg i] ++ [61] = enc xs := by
  obtain ⟨_, _, _, q, hq, ⟨e, _⟩ | ⟨_, e, _⟩ | ⟨a, b, _, hp, hl, ho⟩⟩ := h
  · exact absurd e (by decide)
  · exact absurd e (by decide)
  · rw [hp, enc_append _ _ hq, ho, sg_of (show i = b % 16 * 4 by omega)]
    simp [enc]
theorem sg_in (i : Int) : 0 ≤ sg i ∧ sg i < 256 := by
  unfold sg
  have h : ∀ x ∈ tb, 0 ≤ x ∧ x < 256 := by decide
  rw [List.getD_eq_getElem?_getD]
  cases e : tb[i.toNat]? with
  | none => decide
  | some v => exact h v (List.mem_of_getElem? e)
theorem in_nil : KBa.In [] := fun _ h => nomatch h
theorem in_app {a b : List Int} (ha : KBa.In a) (hb : KBa.In b) : KBa.In (a ++ b) := fun n hn => (List.mem_append.mp hn).elim (ha n) (hb n)
theorem in_cons {x : Int} {b : List Int} (hx : 0 ≤ x ∧ x < 256) (hb : KBa.In b) : KBa.In (x :: b) := fun n hn => by
  rcases List.mem_cons.mp hn with rfl | hn
  · exact hx
  · exact hb n hn
theorem in_sg (i : Int) : KBa.In [sg i] := in_cons (sg_in i) in_nil
theorem enc_in : ∀ q : List Int, KBa.In (enc q)
  | [] => by simp only [enc]; exact in_nil
  | [_] => by simp only [enc]; exact in_cons (sg_in _) (in_cons (sg_in _) (in_cons (by decide) (in_cons (by decide) in_nil)))
  | [_, _] => by simp only [enc]; exact in_cons (sg_in _) (in_cons (sg_in _) (in_cons (sg_in _) (in_cons (by decide) in_nil)))
  | a :: b :: c :: q => by simp only [enc]; exact in_cons (sg_in _) (in_cons (sg_in _) (in_cons (sg_in _) (in_cons (sg_in _) (enc_in q))))
theorem B2a.isIn {pre : List Int} {lb lc : Int} {out : List Int} (h : B2a pre lb lc out) : KBa.In out := by
  obtain ⟨_, _, _, q, _, ⟨_, _, h⟩ | ⟨_, _, _, _, h⟩ | ⟨_, _, _, _, _, h⟩⟩ := h
  · rw [h]; exact enc_in q
  · rw [h]; exact in_app (enc_in q) (in_sg _)
  · rw [h]; exact in_app (enc_in q) (in_cons (sg_in _) (in_sg _))
theorem and3 (x : Int) : 0 ≤ Builtin.bitAnd x 3 ∧ Builtin.bitAnd x 3 ≤ 3 := by rw [bitAnd_m2]; omega
theorem and15 (x : Int) : 0 ≤ Builtin.bitAnd x 15 ∧ Builtin.bitAnd x 15 ≤ 15 := by rw [bitAnd_m4]; omega
theorem cut_eq (x : Int) {k : Nat} {d : Int} (h : (2 : Int) ^ k = d) (hd : 0 < d) : Builtin.bitAnd (x.fdiv (2 ^ k)) 63 = x / d % 64 := by
  rw [bitAnd_m6, h, Int.fdiv_eq_ediv_of_nonneg _ (by omega)]
end Mine
end

section
open PySem PySem.W PyProof.Rows PySem.Calls PySem.Spec
namespace Mine
noncomputable def b64v (c : Int) : Int := if 65 ≤ c ∧ c ≤ 90 then c - 65 else if 97 ≤ c ∧ c ≤ 122 then c - 71 else if 48 ≤ c ∧ c ≤ 57 then c + 4 else if c = 43 then 62 else if c = 47 then 63 else 64
/-- figures to the base 64 -/
def Fig (f : List Int) : Prop := ∀ x ∈ f, 0 ≤ x ∧ x < 64
theorem fig_all : ∀ n : Fin 64, b64v (sg (n.val : Int)) = n.val ∧ sg (n.val : Int) ≠ 61 := by decide
theorem b64v_sg {x : Int} (h0 : 0 ≤ x) (h1 : x < 64) : b64v (sg x) = x := by
  have := (fig_all ⟨x.toNat, by omega⟩).1
  rwa [show ((⟨x.toNat, by omega⟩ : Fin 64).val : Int) = x from by simp; omega] at this
theorem sg_ne {x : Int} (h0 : 0 ≤ x) (h1 : x < 64) : sg x ≠ 61 := by
  have := (fig_all ⟨x.toNat, by omega⟩).2
  rwa [show ((⟨x.toNat, by omega⟩ : Fin 64).val : Int) = x from by simp; omega] at this
noncomputable def dec : List Int → List Int
  | [] => []
  | [_] => []
  | [a, b] => [a * 4 + b / 16]
  | [a, b, c] => [a * 4 + b / 16, b % 16 * 16 + c / 4]
  | a :: b :: c :: d :: r => (a * 4 + b / 16) :: (b % 16 * 16 + c / 4) :: (c % 4 * 64 + d) :: dec r
theorem dec_append : ∀ (q r : List Int), q.length % 4 = 0 → dec (q ++ r) = dec q ++ dec r
  | [], _, _ => by simp [dec]
  | [_], _, h => by simp at h
  | [_, _], _, h => by simp at h
  | [_, _, _], _, h => by simp at h
  | a :: b :: c :: d :: q, r, h => by
    have ih := dec_append q r (by simp only [List.length_cons] at h; omega)
    show dec (a :: b :: c :: d :: (q ++ r)) = _
    simp only [dec, List.cons_append, ih]
theorem fig_app {a b : List Int} : Fig (a ++ b) ↔ Fig a ∧ Fig b := by
  constructor
  · exact fun h => ⟨fun x hx => h x (List.mem_append.mpr (.inl hx)), fun x hx => h x (List.mem_append.mpr (.inr hx))⟩
  · exact fun h x hx => (List.mem_append.mp hx).elim (h.1 x) (h.2 x)
theorem fig_cons {a : Int} {b : List Int} : Fig (a :: b) ↔ (0 ≤ a ∧ a < 64) ∧ Fig b := by
  constructor
  · exact fun h => ⟨h a (List.mem_cons_self ..), fun x hx => h x (List.mem_cons_of_mem _ hx)⟩
  · rintro ⟨h, g⟩ x hx
    rcases List.mem_cons.mp hx with rfl | hx
    · exact h
    · exact g x hx
theorem di1 {a b : Int} (h0 : 0 ≤ a ∧ a < 64) (h : 0 ≤ b ∧ b < 64) : 0 ≤ a * 4 + b / 16 ∧ a * 4 + b / 16 < 256 := by omega
theorem di2 {b c : Int} (h : 0 ≤ c ∧ c < 64) : 0 ≤ b % 16 * 16 + c / 4 ∧ b % 16 * 16 + c / 4 < 256 := by omega
theorem di3 {c d : Int} (h : 0 ≤ d ∧ d < 64) : 0 ≤ c % 4 * 64 + d ∧ c % 4 * 64 + d < 256 := by omega
theorem dec_in : ∀ q : List Int, Fig q → KBa.In (dec q)
  | [], _ => in_nil
  | [_], _ => in_nil
  | [a, b], h => in_cons (di1 (h a (.head _)) (h b (.tail _ (.head _)))) in_nil
  | [a, b, c], h => in_cons (di1 (h a (.head _)) (h b (.tail _ (.head _)))) (in_cons (di2 (h c (.tail _ (.tail _ (.head _))))) in_nil)
  | a :: b :: c :: d :: q, h => in_cons (di1 (h a (.head _)) (h b (.tail _ (.head _)))) (in_cons (di2 (h c (.tail _ (.tail _ (.head _))))) (in_cons (di3 (h d (.tail _ (.tail _ (.tail _ (.head _)))))) (dec_in q fun x hx => h x (.tail _ (.tail _ (.tail _ (.tail _ hx)))))))
/-- how far the four are filled -/
def Quad (f : List Int) (qp lc : Int) (out : List Int) : Prop :=
  ∃ q, q.length % 4 = 0 ∧
    ((qp = 0 ∧ f = q ∧ out = dec q) ∨
     (∃ a, qp = 1 ∧ f = q ++ [a] ∧ lc = a ∧ out = dec q) ∨
     (∃ a b, qp = 2 ∧ f = q ++ [a, b] ∧ lc = b % 16 ∧ out = dec q ++ [a * 4 + b / 16]) ∨
     (∃ a b c, qp = 3 ∧ f = q ++ [a, b, c] ∧ lc = c % 4 ∧ out = dec q ++ [a * 4 + b / 16, b % 16 * 16 + c / 4]))
theorem Quad.ways {f out : List Int} {qp lc : Int} (h : Quad f qp lc out) : qp = 0 ∨ qp = 1 ∨ qp = 2 ∨ qp = 3 := by
  obtain ⟨q, _, h | ⟨_, h, _⟩ | ⟨_, _, h, _⟩ | ⟨_, _, _, h, _⟩⟩ := h
  · exact .inl h.1
  · exact .inr (.inl h)
  · exact .inr (.inr (.inl h))
  · exact .inr (.inr (.inr h))
theorem Quad.len {f out : List Int} {qp lc : Int} (h : Quad f qp lc out) : qp = ((f.length % 4 : Nat) : Int) := by
  obtain ⟨q, hq, ⟨h, hf, _⟩ | ⟨_, h, hf, _⟩ | ⟨_, _, h, hf, _⟩ | ⟨_, _, _, h, hf, _⟩⟩ := h
  · rw [h, hf, hq]; rfl
  all_goals (rw [h, hf, List.length_append, Nat.add_mod, hq]; rfl)
theorem Quad.done {f out : List Int} {qp lc : Int} (h : Quad f qp lc out) (h1 : qp ≠ 1) : out = dec f := by
  obtain ⟨q, hq, ⟨h, hf, ho⟩ | ⟨_, h, hf, _, ho⟩ | ⟨_, _, h, hf, _, ho⟩ | ⟨_, _, _, h, hf, _, ho⟩⟩ := h
  · subst hf; exact ho
  · exact absurd h h1
  · subst hf; rw [dec_append _ _ hq, ho]; simp [dec]
  · subst hf; rw [dec_append _ _ hq, ho]; simp [dec]
theorem Quad.lc {f out : List Int} {qp lc : Int} (h : Quad f qp lc out) (hf : Fig f) (h0 : qp ≠ 0) : 0 ≤ lc ∧ lc < 64 := by
  obtain ⟨q, hq, ⟨h, _⟩ | ⟨a, h, e, hl, ho⟩ | ⟨a, b, h, e, hl, ho⟩ | ⟨a, b, c, h, e, hl, ho⟩⟩ := h
  · exact absurd h h0
  · subst e; have := (fig_cons.mp (fig_app.mp hf).2).1; omega
  · omega
  · omega
theorem or_eq {x n d : Int} {k : Nat} (h : (2 : Int) ^ k = d) (h0 : 0 ≤ n) (h1 : n < d) : Builtin.bitOr (x * 2 ^ k) n = x * d + n := by
  rw [or_shift x n k h0 (by rw [h]; exact h1), h]
theorem div_eq (x : Int) {k : Nat} {d : Int} (h : (2 : Int) ^ k = d) (hd : 0 < d) : x.fdiv (2 ^ k) = x / d := by
  rw [h, Int.fdiv_eq_ediv_of_nonneg _ (by omega)]
theorem Quad.t0 {f out : List Int} {lc x : Int} (h : Quad f 0 lc out) : Quad (f ++ [x]) 1 x out := by
  obtain ⟨q, hq, ⟨_, hf, ho⟩ | ⟨_, e, _⟩ | ⟨_, _, e, _⟩ | ⟨_, _, _, e, _⟩⟩ := h
  · subst hf; exact ⟨_, hq, .inr (.inl ⟨x, rfl, rfl, rfl, ho⟩)⟩
  all_goals exact absurd e (by decide)
theorem Quad.t1 {f out : List Int} {lc x v lc' : Int} (h : Quad f 1 lc out) (h0 : 0 ≤ x) (h1 : x < 64) (hv : v = Builtin.bitOr (lc * 2 ^ Int.toNat 2) (x.fdiv (2 ^ Int.toNat 4))) (hl : lc' = Builtin.bitAnd x 15) : Quad (f ++ [x]) 2 lc' (out ++ [v]) := by
  obtain ⟨q, hq, ⟨e, hf, ho⟩ | ⟨a, _, hf, hl', ho⟩ | ⟨_, _, e, _⟩ | ⟨_, _, _, e, _⟩⟩ := h
  · exact absurd e (by decide)
  · subst hf hl' ho
    rw [div_eq x (show (2 : Int) ^ Int.toNat 4 = 16 from rfl) (by decide), or_eq (show (2 : Int) ^ Int.toNat 2 = 4 from rfl) (by omega) (by omega)] at hv
    exact ⟨q, hq, .inr (.inr (.inl ⟨lc, x, rfl, by simp, by rw [hl, bitAnd_m4], by rw [hv]⟩))⟩
  all_goals exact absurd e (by decide)
theorem Quad.t2 {f out : List Int} {lc x v lc' : Int} (h : Quad f 2 lc out) (h0 : 0 ≤ x) (h1 : x < 64) (hv : v = Builtin.bitOr (lc * 2 ^ Int.toNat 4) (x.fdiv (2 ^ Int.toNat 2))) (hl : lc' = Builtin.bitAnd x 3) : Quad (f ++ [x]) 3 lc' (out ++ [v]) := by
  obtain ⟨q, hq, ⟨e, hf, ho⟩ | ⟨_, e, _⟩ | ⟨a, b, _, hf, hl', ho⟩ | ⟨_, _, _, e, _⟩⟩ := h
  · exact absurd e (by decide)
  · exact absurd e (by decide)
  · subst hf hl' ho
    rw [div_eq x (show (2 : Int) ^ Int.toNat 2 = 4 from rfl) (by decide), or_eq (show (2 : Int) ^ Int.toNat 4 = 16 from rfl) (by omega) (by omega)] at hv
    exact ⟨q, hq, .inr (.inr (.inr ⟨a, b, x, rfl, by simp, by rw [hl, bitAnd_m2], by rw [hv]; simp⟩))⟩
  · exact absurd e (by decide)
theorem Quad.t3 {f out : List Int} {lc x v : Int} (h : Quad f 3 lc out) (h0 : 0 ≤ x) (h1 : x < 64) (hv : v = Builtin.bitOr (lc * 2 ^ Int.toNat 6) x) : Quad (f ++ [x]) 0 0 (out ++ [v]) := by
  obtain ⟨q, hq, ⟨e, hf, ho⟩ | ⟨_, e, _⟩ | ⟨_, _, e, _⟩ | ⟨a, b, c, _, hf, hl', ho⟩⟩ := h
  · exact absurd e (by decide)
  · exact absurd e (by decide)
  · exact absurd e (by decide)
  · subst hf hl' ho
    rw [or_eq (show (2 : Int) ^ Int.toNat 6 = 64 from rfl) (by omega) (by omega)] at hv
    refine ⟨q ++ [a, b, c, x], by simp only [List.length_append, List.length_cons, List.length_nil]; omega, .inl ⟨rfl, by simp, ?_⟩⟩
    rw [dec_append _ _ hq, hv]
    simp [dec]
/-- what holds between the turns of the loop of a2b_base64 -/
def A2b (figs : List Int) (pre : List Int) (qp lc pads : Int) (out : List Int) : Prop :=
  ∃ (f g : List Int) (j : Nat), figs = f ++ g ∧ (j = 0 ∨ g = []) ∧ pre = f.map sg ++ List.replicate j 61 ∧ pads = (j : Int) ∧ out.length ≤ pre.length ∧ Quad f qp lc out
theorem A2b.start (figs : List Int) : A2b figs [] 0 0 0 [] := ⟨[], figs, 0, rfl, .inl rfl, rfl, rfl, by simp, [], rfl, .inl ⟨rfl, rfl, rfl⟩⟩
theorem A2b.next {figs pre post : List Int} {n qp lc pads : Int} {out : List Int} {k : Nat} (h : A2b figs pre qp lc pads out) (hf : Fig figs) (e : figs.map sg ++ List.replicate k 61 = pre ++ n :: post) :
    (∃ x f g, n = sg x ∧ 0 ≤ x ∧ x < 64 ∧ pads = 0 ∧ figs = f ++ x :: g ∧ pre = f.map sg ∧ Fig f ∧ out.length ≤ pre.length ∧ Quad f qp lc out) ∨
    (∃ j : Nat, n = 61 ∧ pads = (j : Int) ∧ j + 1 ≤ k ∧ pre = figs.map sg ++ List.replicate j 61 ∧ out.length ≤ pre.length ∧ Quad figs qp lc out) := by
  obtain ⟨f, g, j, hfg, hj, hp, hpa, hz, hq⟩ := h
  cases g with
  | cons x g =>
    have hj0 : j = 0 := hj.resolve_right (by simp)
    subst hj0
    left
    simp only [List.replicate_zero, List.append_nil] at hp
    subst hfg hp
    simp only [List.map_append, List.map_cons, List.append_assoc, List.cons_append] at e
    have e2 := List.append_cancel_left e
    have hn : n = sg x := (List.cons.inj e2).1.symm
    have hx := (fig_cons.mp (fig_app.mp hf).2).1
    exact ⟨x, f, g, hn, hx.1, hx.2, hpa, rfl, rfl, (fig_app.mp hf).1, hz, hq⟩
  | nil =>
    right
    simp only [List.append_nil] at hfg
    subst hfg hp
    rw [List.append_assoc] at e
    have e2 := List.append_cancel_left e
    have hl := congrArg List.length e2
    simp only [List.length_replicate, List.length_append, List.length_cons] at hl
    have hn : n ∈ List.replicate k (61 : Int) := by rw [e2]; simp
    exact ⟨j, List.eq_of_mem_replicate hn, hpa, by omega, rfl, hz, hq⟩
theorem A2b.data {figs f g pre : List Int} {x qp lc : Int} {out : List Int} (hfg : figs = f ++ x :: g) (hp : pre = f.map sg) (hz : out.length ≤ pre.length + 1) (hq : Quad (f ++ [x]) qp lc out) : A2b figs (pre ++ [sg x]) qp lc 0 out :=
  ⟨f ++ [x], g, 0, by simp [hfg], .inl rfl, by simp [hp], rfl, by simpa using hz, hq⟩
theorem A2b.pad {figs pre : List Int} {j : Nat} {qp lc pads : Int} {out : List Int} (hp : pre = figs.map sg ++ List.replicate j 61) (hpa : pads = (j : Int) + 1) (hz : out.length ≤ pre.length + 1) (hq : Quad figs qp lc out) : A2b figs (pre ++ [61]) qp lc pads out :=
  ⟨figs, [], j + 1, by simp, .inr rfl, by rw [hp, List.replicate_succ']; simp, by omega, by simpa using hz, hq⟩
theorem A2b.fin {figs : List Int} {k : Nat} {qp lc pads : Int} {out : List Int} (h : A2b figs (figs.map sg ++ List.replicate k 61) qp lc pads out) (hk : figs.length % 4 ≠ 1) :
    pads = (k : Int) ∧ qp = ((figs.length % 4 : Nat) : Int) ∧ out = dec figs := by
  obtain ⟨f, g, j, hfg, hj, hp, hpa, hz, hq⟩ := h
  have hl := congrArg List.length hp
  simp only [List.length_append, List.length_map, List.length_replicate] at hl
  have hl2 := congrArg List.length hfg
  simp only [List.length_append] at hl2
  have hg : g = [] := by
    rcases hj with rfl | hj
    · exact List.eq_nil_of_length_eq_zero (by omega)
    · exact hj
  subst hg
  simp only [List.append_nil] at hfg
  subst hfg
  simp only [List.length_nil] at hl2
  have hqp := hq.len
  exact ⟨by omega, hqp, hq.done (by omega)⟩
end Mine
end

section
open PySem PySem.W PyProof.Rows PySem.Calls PySem.Spec
namespace Mine
theorem clip_nat (n k : Nat) : clipAt n (k : Int) = min k n := by unfold clipAt; omega
theorem take_min {α : Type} {ys : List α} {k n : Nat} (h : ys.length = n) : ys.take (min k n) = ys.take k := by
  rw [← h, Nat.min_comm, ← List.take_take]; exact List.take_of_length_le (by rw [List.length_take]; exact Nat.min_le_right _ _)
theorem cut3 {xs : List Int} {i : Nat} (h : i < (xs.length + 2) / 3) {d : Nat} (e : 3 * i = d) : List.take (clipAt xs.length (0 + (i : Int) * 3 + 3) - clipAt xs.length (0 + (i : Int) * 3)) (List.drop (clipAt xs.length (0 + (i : Int) * 3)) xs) = (xs.drop d).take 3 := by
  subst e
  rw [show 0 + (i : Int) * 3 + 3 = ((3 * i + 3 : Nat) : Int) from by omega, show 0 + (i : Int) * 3 = ((3 * i : Nat) : Int) from by omega, clip_nat, clip_nat, Nat.min_eq_left (a := 3 * i) (by omega), ← Nat.sub_min_sub_right, Nat.add_sub_cancel_left]
  exact take_min List.length_drop
theorem shape3 {xs : List Int} {i : Nat} (h : i < (xs.length + 2) / 3) : (∃ a b c r, xs.drop (3 * i) = a :: b :: c :: r) ∨ (∃ a b, xs.drop (3 * i) = [a, b]) ∨ ∃ a, xs.drop (3 * i) = [a] := by
  have hl : (xs.drop (3 * i)).length = xs.length - 3 * i := List.length_drop ..
  match e : xs.drop (3 * i) with
  | [] => rw [e] at hl; simp at hl; omega
  | [a] => exact .inr (.inr ⟨a, rfl⟩)
  | [a, b] => exact .inr (.inl ⟨a, b, rfl⟩)
  | a :: b :: c :: r => exact .inl ⟨a, b, c, r, rfl⟩
end Mine
end

section
open PySem PySem.W PyProof.Rows PySem.Calls PySem.Spec
namespace Mine
/-- the figures of a row of octets -/
noncomputable def figs : List Int → List Int
  | [] => []
  | [a] => [a / 4, a % 4 * 16]
  | [a, b] => [a / 4, a % 4 * 16 + b / 16, b % 16 * 4]
  | a :: b :: c :: r => a / 4 :: (a % 4 * 16 + b / 16) :: (b % 16 * 4 + c / 64) :: c % 64 :: figs r
theorem figs_append : ∀ (q r : List Int), q.length % 3 = 0 → figs (q ++ r) = figs q ++ figs r
  | [], _, _ => by simp [figs]
  | [_], _, h => by simp at h
  | [_, _], _, h => by simp at h
  | a :: b :: c :: q, r, h => by
    have ih := figs_append q r (by simp only [List.length_cons] at h; omega)
    show figs (a :: b :: c :: (q ++ r)) = _
    simp only [figs, List.cons_append, ih]
theorem figs_len : ∀ q : List Int, (figs q).length ≤ 2 * q.length
  | [] => by simp [figs]
  | [_] => by simp [figs]
  | [_, _] => by simp [figs]
  | a :: b :: c :: q => by
    have ih := figs_len q
    simp only [figs, List.length_cons]
    omega
noncomputable def padN (n : Nat) : Nat := (3 - n % 3) % 3
theorem padN_add (n : Nat) : padN (n + 3) = padN n := by unfold padN; rw [Nat.add_mod_right]
theorem enc_figs : ∀ q : List Int, enc q = (figs q).map sg ++ List.replicate (padN q.length) 61
  | [] => by simp [enc, figs, padN]
  | [_] => by simp [enc, figs, padN]
  | [_, _] => by simp [enc, figs, padN]
  | a :: b :: c :: q => by
    have ih := enc_figs q
    have e : padN (a :: b :: c :: q).length = padN q.length := padN_add q.length
    rw [e]
    simp only [enc, figs, List.map_cons, List.cons_append, ih]
/-- what holds after i turns of the loop of _law_figures -/
def FigInv (xs : List Int) (i : Nat) (out : List Int) : Prop := out = figs (xs.take (3 * i))
theorem FigInv.len {xs out : List Int} {i : Nat} (h : FigInv xs i out) (hz : xs.length ≤ 1000) : out.length ≤ 2000 := by
  rw [h]
  have := figs_len (xs.take (3 * i))
  have h2 : (xs.take (3 * i)).length ≤ xs.length := by rw [List.length_take]; omega
  omega
theorem FigInv.more {xs out pc : List Int} {i : Nat} (h : FigInv xs i out) (hi : i < (xs.length + 2) / 3) (hd : (xs.drop (3 * i)).take 3 = pc) {add : List Int} (ha : add = figs pc) : FigInv xs (i + 1) (out ++ add) := by
  unfold FigInv at *
  have e : xs.take (3 * (i + 1)) = xs.take (3 * i) ++ pc := by
    rw [← hd, show 3 * (i + 1) = 3 * i + 3 from by omega, List.take_add]
  rw [e, figs_append _ _ (by rw [List.length_take]; omega), h, ha]
theorem FigInv.fin {xs out : List Int} (h : FigInv xs ((xs.length + 2) / 3) out) : out = figs xs := by
  rw [h, List.take_of_length_le (by omega)]
theorem fd (x : Int) {d : Int} (h : 0 < d) : x.fdiv d = x / d := Int.fdiv_eq_ediv_of_nonneg _ (by omega)
theorem fm (x : Int) {d : Int} (h : 0 < d) : x.fmod d = x % d := Int.fmod_eq_emod_of_nonneg _ (by omega)
theorem fig3 {x0 x1 x2 nb : Int} (h0 : 0 ≤ x0 ∧ x0 < 256) (h1 : 0 ≤ x1 ∧ x1 < 256) (h2 : 0 ≤ x2 ∧ x2 < 256) (hn : x0 * 256 ^ (2 - 0) + (x1 * 256 ^ (2 - (0 + 1)) + (x2 * 256 ^ (2 - (0 + 1 + 1)) + 0)) = nb) :
    [(nb.fdiv (64 ^ (3 - 0))).fmod 64, (nb.fdiv (64 ^ (3 - 1))).fmod 64, (nb.fdiv (64 ^ (3 - 2))).fmod 64, (nb.fdiv (64 ^ (3 - 3))).fmod 64] = figs [x0, x1, x2] ∧ 0 ≤ nb ∧ nb < 16777216 := by
  rw [fm _ (by decide), fm _ (by decide), fm _ (by decide), fm _ (by decide), fd _ (by decide), fd _ (by decide), fd _ (by decide), fd _ (by decide)]
  rw [show (256 : Int) ^ (2 - 0) = 65536 from rfl, show (256 : Int) ^ (2 - (0 + 1)) = 256 from rfl, show (256 : Int) ^ (2 - (0 + 1 + 1)) = 1 from rfl] at hn
  rw [show (64 : Int) ^ (3 - 0) = 262144 from rfl, show (64 : Int) ^ (3 - 1) = 4096 from rfl, show (64 : Int) ^ (3 - 2) = 64 from rfl, show (64 : Int) ^ (3 - 3) = 1 from rfl]
  simp only [figs, List.cons.injEq, and_true]
  refine ⟨⟨?_, ?_, ?_, ?_⟩, ?_, ?_⟩ <;> omega
theorem fig2 {x0 x1 nb : Int} (h0 : 0 ≤ x0 ∧ x0 < 256) (h1 : 0 ≤ x1 ∧ x1 < 256) (hn : x0 * 256 ^ (2 - 0) + (x1 * 256 ^ (2 - (0 + 1)) + 0) = nb) :
    [(nb.fdiv (64 ^ (3 - 0))).fmod 64, (nb.fdiv (64 ^ (3 - 1))).fmod 64, (nb.fdiv (64 ^ (3 - 2))).fmod 64] = figs [x0, x1] ∧ 0 ≤ nb ∧ nb < 16777216 := by
  obtain ⟨h, hb⟩ := fig3 (x2 := 0) h0 h1 (by decide) (nb := nb) (by rw [Int.zero_mul]; exact hn)
  refine ⟨?_, hb⟩
  simp only [figs, List.cons.injEq, and_true] at h ⊢
  exact ⟨h.1, h.2.1, h.2.2.1.trans (Int.add_zero _)⟩
theorem fig1 {x0 nb : Int} (h0 : 0 ≤ x0 ∧ x0 < 256) (hn : x0 * 256 ^ (2 - 0) + 0 = nb) :
    [(nb.fdiv (64 ^ (3 - 0))).fmod 64, (nb.fdiv (64 ^ (3 - 1))).fmod 64] = figs [x0] ∧ 0 ≤ nb ∧ nb < 16777216 := by
  obtain ⟨h, hb⟩ := fig2 (x1 := 0) h0 (by decide) (nb := nb) (by rw [Int.zero_mul]; exact hn)
  refine ⟨?_, hb⟩
  simp only [figs, List.cons.injEq, and_true] at h ⊢
  exact ⟨h.1, h.2.1.trans (Int.add_zero _)⟩
end Mine
end

section
open PySem PySem.W PyProof.Rows PySem.Calls PySem.Spec
namespace Mine
theorem shape4 {xs : List Int} {i : Nat} (h : i < (xs.length + 3) / 4) (h1 : xs.length % 4 ≠ 1) : (∃ a b c d r, xs.drop (4 * i) = a :: b :: c :: d :: r) ∨ (∃ a b c, xs.drop (4 * i) = [a, b, c]) ∨ ∃ a b, xs.drop (4 * i) = [a, b] := by
  have hl : (xs.drop (4 * i)).length = xs.length - 4 * i := List.length_drop ..
  match e : xs.drop (4 * i) with
  | [] => rw [e] at hl; simp at hl; omega
  | [a] => rw [e] at hl; simp at hl; omega
  | [a, b] => exact .inr (.inr ⟨a, b, rfl⟩)
  | [a, b, c] => exact .inr (.inl ⟨a, b, c, rfl⟩)
  | a :: b :: c :: d :: r => exact .inl ⟨a, b, c, d, r, rfl⟩
def OctInv (xs : List Int) (i : Nat) (out : List Int) : Prop := out = dec (xs.take (4 * i))
theorem dec_len : ∀ q : List Int, (dec q).length ≤ q.length
  | [] => by simp [dec]
  | [_] => by simp [dec]
  | [_, _] => by simp [dec]
  | [_, _, _] => by simp [dec]
  | a :: b :: c :: d :: q => by
    have ih := dec_len q
    simp only [dec, List.length_cons]
    omega
theorem OctInv.len {xs out : List Int} {i : Nat} (h : OctInv xs i out) (hz : xs.length ≤ 1000) : out.length ≤ 1000 := by
  rw [h]
  have := dec_len (xs.take (4 * i))
  have h2 : (xs.take (4 * i)).length ≤ xs.length := by rw [List.length_take]; omega
  omega
theorem OctInv.more {xs out pc : List Int} {i : Nat} (h : OctInv xs i out) (hi : i < (xs.length + 3) / 4) (hd : (xs.drop (4 * i)).take 4 = pc) {add : List Int} (ha : add = dec pc) : OctInv xs (i + 1) (out ++ add) := by
  unfold OctInv at *
  have e : xs.take (4 * (i + 1)) = xs.take (4 * i) ++ pc := by
    rw [← hd, show 4 * (i + 1) = 4 * i + 4 from by omega, List.take_add]
  rw [e, dec_append _ _ (by rw [List.length_take]; omega), h, ha]
theorem OctInv.fin {xs out : List Int} (h : OctInv xs ((xs.length + 3) / 4) out) : out = dec xs := by
  rw [h, List.take_of_length_le (by omega)]
end Mine
namespace Mine
theorem cut4' {xs : List Int} {i : Nat} (h : i < (xs.length + 3) / 4) : List.take (min (0 + (i : Int) * 4 + 4).toNat xs.length - (0 + (i : Int) * 4).toNat) (List.drop (0 + (i : Int) * 4).toNat xs) = (xs.drop (4 * i)).take 4 := by
  rw [show (0 + (i : Int) * 4 + 4).toNat = 4 * i + 4 from by omega, show (0 + (i : Int) * 4).toNat = 4 * i from by omega, ← Nat.sub_min_sub_right, Nat.add_sub_cancel_left]
  exact take_min List.length_drop
theorem ints4 {ws : List Value} {a b c d : Int} (h : IntsAre ws [a, b, c, d]) : ∃ t0 t1 t2 t3, ws = [.int a t0, .int b t1, .int c t2, .int d t3] := by
  cases h with | cons _ t0 h => cases h with | cons _ t1 h => cases h with | cons _ t2 h => cases h with | cons _ t3 h => cases h; exact ⟨t0, t1, t2, t3, rfl⟩
theorem ints3 {ws : List Value} {a b c : Int} (h : IntsAre ws [a, b, c]) : ∃ t0 t1 t2, ws = [.int a t0, .int b t1, .int c t2] := by
  cases h with | cons _ t0 h => cases h with | cons _ t1 h => cases h with | cons _ t2 h => cases h; exact ⟨t0, t1, t2, rfl⟩
theorem ints2 {ws : List Value} {a b : Int} (h : IntsAre ws [a, b]) : ∃ t0 t1, ws = [.int a t0, .int b t1] := by
  cases h with | cons _ t0 h => cases h with | cons _ t1 h => cases h; exact ⟨t0, t1, rfl⟩
theorem oct4 {x0 x1 x2 x3 nb : Int} (h0 : 0 ≤ x0 ∧ x0 < 64) (h1 : 0 ≤ x1 ∧ x1 < 64) (h2 : 0 ≤ x2 ∧ x2 < 64) (h3 : 0 ≤ x3 ∧ x3 < 64) (hn : x0 * 64 ^ (3 - 0) + (x1 * 64 ^ (3 - (0 + 1)) + (x2 * 64 ^ (3 - (0 + 1 + 1)) + (x3 * 64 ^ (3 - (0 + 1 + 1 + 1)) + 0))) = nb) :
    [nb.fdiv 65536, (nb.fdiv 256).fmod 256, nb.fmod 256] = dec [x0, x1, x2, x3] ∧ 0 ≤ nb ∧ nb < 16777216 := by
  rw [fm _ (by decide), fm _ (by decide), fd _ (by decide), fd _ (by decide)]
  rw [show (64 : Int) ^ (3 - 0) = 262144 from rfl, show (64 : Int) ^ (3 - (0 + 1)) = 4096 from rfl, show (64 : Int) ^ (3 - (0 + 1 + 1)) = 64 from rfl, show (64 : Int) ^ (3 - (0 + 1 + 1 + 1)) = 1 from rfl] at hn
  simp only [dec, List.cons.injEq, and_true]
  refine ⟨⟨?_, ?_, ?_⟩, ?_, ?_⟩ <;> omega
theorem oct3 {x0 x1 x2 nb : Int} (h0 : 0 ≤ x0 ∧ x0 < 64) (h1 : 0 ≤ x1 ∧ x1 < 64) (h2 : 0 ≤ x2 ∧ x2 < 64) (hn : x0 * 64 ^ (3 - 0) + (x1 * 64 ^ (3 - (0 + 1)) + (x2 * 64 ^ (3 - (0 + 1 + 1)) + 0)) = nb) :
    [nb.fdiv 65536, (nb.fdiv 256).fmod 256] = dec [x0, x1, x2] ∧ 0 ≤ nb ∧ nb < 16777216 := by
  obtain ⟨h, hb⟩ := oct4 (x3 := 0) h0 h1 h2 (by decide) (nb := nb) (by rw [Int.zero_mul]; exact hn)
  refine ⟨?_, hb⟩
  simp only [dec, List.cons.injEq, and_true] at h ⊢
  exact ⟨h.1, h.2.1⟩
theorem oct2 {x0 x1 nb : Int} (h0 : 0 ≤ x0 ∧ x0 < 64) (h1 : 0 ≤ x1 ∧ x1 < 64) (hn : x0 * 64 ^ (3 - 0) + (x1 * 64 ^ (3 - (0 + 1)) + 0) = nb) :
    [nb.fdiv 65536] = dec [x0, x1] ∧ 0 ≤ nb ∧ nb < 16777216 := by
  obtain ⟨h, hb⟩ := oct3 (x2 := 0) h0 h1 (by decide) (nb := nb) (by rw [Int.zero_mul]; exact hn)
  refine ⟨?_, hb⟩
  simp only [dec, List.cons.injEq, and_true] at h ⊢
  exact h.1
end Mine
end

section
open PySem PySem.W PyProof.Rows PySem.Calls PySem.Spec
namespace Mine
noncomputable def sgS (k : Int) : Str := ⟨#[(sg k).toNat]⟩
noncomputable def abc : Str := Str.ofString "ABCDEFGHIJKLMNOPQRSTUVWXYZabcdefghijklmnopqrstuvwxyz0123456789+/"
theorem abc_all : ∀ n : Fin 64, (seqIndex? (n.val : Int) abc.length).bind (abc.cps[·]?) = some (sg (n.val : Int)).toNat := by decide +kernel
theorem abc_at {k : Int} (h0 : 0 ≤ k) (h1 : k < 64) : (seqIndex? k abc.length).bind (abc.cps[·]?) = some (sg k).toNat := by
  have := abc_all ⟨k.toNat, by omega⟩
  rwa [show ((⟨k.toNat, by omega⟩ : Fin 64).val : Int) = k from by simp; omega] at this
theorem strs_of : ∀ (xs : List Int) (ys : List Value), ys.length = xs.length → (∀ i y, ys[i]? = some y → ∃ t, y = Value.str (sgS (xs.getD i 0)) t) → StrsAre ys (xs.map sgS)
  | [], [], _, _ => .nil
  | [], _ :: _, h, _ => by simp at h
  | _ :: _, [], h, _ => by simp at h
  | x :: xs, y :: ys, h, g => by
    obtain ⟨t, e⟩ := g 0 y rfl
    subst e
    exact .cons _ _ (strs_of xs ys (by simpa using h) fun i z hz => by simpa using g (i + 1) z (by simpa using hz))
theorem fold_signs : ∀ (xs : List Int) (acc : Array Nat), (xs.map sgS).foldl (fun acc p => acc ++ (Str.ofString "").cps ++ p.cps) acc = acc ++ (xs.map fun k => (sg k).toNat).toArray
  | [], acc => by simp
  | x :: xs, acc => by
    have e : (Str.ofString "").cps = #[] := by decide +kernel
    rw [List.map_cons, List.foldl_cons, fold_signs xs, e]
    apply Array.ext'
    simp [sgS]
theorem join_signs (xs : List Int) : Txt.join (Str.ofString "") (xs.map sgS) = ⟨(xs.map fun k => (sg k).toNat).toArray⟩ := by
  unfold Txt.join Builtin.Str.glued
  cases xs with
  | nil => rfl
  | cons x xs =>
    simp only [List.map_cons, List.drop_succ_cons, List.drop_zero, List.headD_cons]
    rw [fold_signs]
    simp [sgS]
theorem mul_eq {n : Int} (h0 : 0 ≤ n) (h1 : n < 4) : Txt.mul (Str.ofString "=") n = ⟨(List.replicate n.toNat 61).toArray⟩ := by
  have hw : n = 0 ∨ n = 1 ∨ n = 2 ∨ n = 3 := by omega
  rcases hw with rfl | rfl | rfl | rfl <;> decide +kernel
end Mine
namespace Mine
noncomputable def pad4 (n : Nat) : Nat := (4 - n % 4) % 4
theorem pad_eq (n : Nat) : 0 ≤ (-(n : Int)).fmod 4 ∧ (-(n : Int)).fmod 4 < 4 ∧ ((-(n : Int)).fmod 4).toNat = pad4 n := by
  rw [fm _ (by decide)]
  unfold pad4
  omega
noncomputable def signsOf (xs : List Int) : Str := ⟨(xs.map fun k => (sg k).toNat).toArray⟩
theorem signs_len (xs : List Int) : (signsOf xs).length = xs.length := by simp [signsOf, Str.length]
theorem sgN_lt (k : Int) : (sg k).toNat < 128 := by
  have h : ∀ x ∈ tb, x.toNat < 128 := by decide
  unfold sg
  rw [List.getD_eq_getElem?_getD]
  cases e : tb[k.toNat]? with
  | none => decide
  | some v => exact h v (List.mem_of_getElem? e)
theorem told_cps (xs : List Int) : (signsOf xs ++ Txt.mul (Str.ofString "=") ((-(xs.length : Int)).fmod 4)).cps = ((xs.map fun k => (sg k).toNat) ++ List.replicate (pad4 xs.length) 61).toArray := by
  obtain ⟨h0, h1, h2⟩ := pad_eq xs.length
  rw [mul_eq h0 h1, h2, Str.cps_append]
  simp [signsOf]
theorem told_ascii (xs : List Int) : ∀ c ∈ (signsOf xs ++ Txt.mul (Str.ofString "=") ((-(xs.length : Int)).fmod 4)).cps, c < 128 := by
  rw [told_cps]
  intro c hc
  simp only [List.mem_toArray, List.mem_append, List.mem_map] at hc
  rcases hc with ⟨k, _, rfl⟩ | hc
  · exact sgN_lt k
  · rw [List.eq_of_mem_replicate hc]; decide
theorem told_size (xs : List Int) (hz : xs.length ≤ 1000) : (signsOf xs ++ Txt.mul (Str.ofString "=") ((-(xs.length : Int)).fmod 4)).cps.size ≤ 5000 := by
  rw [told_cps]
  have : pad4 xs.length ≤ 4 := by unfold pad4; omega
  simp; omega
theorem told_ints (xs : List Int) : KBw.bInts ((signsOf xs ++ Txt.mul (Str.ofString "=") ((-(xs.length : Int)).fmod 4)).cps.map (·.toUInt8)) = xs.map sg ++ List.replicate (pad4 xs.length) 61 := by
  rw [told_cps]
  simp only [KBw.bInts, List.map_toArray, List.map_append, List.map_map, List.map_replicate]
  congr 1
  apply List.map_congr_left
  intro k _
  have h1 := sg_in k
  have h2 := sgN_lt k
  simp only [Function.comp]
  have h3 : ((sg k).toNat.toUInt8).toNat = (sg k).toNat := by
    show (UInt8.ofNat (sg k).toNat).toNat = _
    rw [UInt8.toNat_ofNat']; omega
  rw [h3]; omega
end Mine
namespace Mine
theorem sum_ones : ∀ xs : List Int, (xs.map fun _ => 1).sum = xs.length
  | [] => rfl
  | _ :: xs => by rw [List.map_cons, List.sum_cons, sum_ones xs, List.length_cons]; omega
end Mine
end

section
open PySem PySem.W PyProof.Rows PySem.Calls PySem.Spec
namespace Mine
theorem ways_k {n k : Nat} {qp : Int} (hk : (n % 4 = 0 ∧ k = 0) ∨ (n % 4 = 2 ∧ k = 2) ∨ (n % 4 = 3 ∧ k = 1)) (h : qp = ((n % 4 : Nat) : Int)) : qp = 0 ∧ k = 0 ∨ qp = 2 ∧ k = 2 ∨ qp = 3 ∧ k = 1 := by
  rcases hk with ⟨e, hk⟩ | ⟨e, hk⟩ | ⟨e, hk⟩ <;> rw [e] at h
  · exact .inl ⟨h, hk⟩
  · exact .inr (.inl ⟨h, hk⟩)
  · exact .inr (.inr ⟨h, hk⟩)
theorem len_next {ix x : Int} {l : List Int} (h : ix = (l.length : Int)) : ix + 1 = ((l ++ [x]).length : Int) := by rw [h, List.length_append]; rfl
theorem len_le {x : Int} {l p : List Int} (h : l.length ≤ p.length) : (l ++ [x]).length ≤ p.length + 1 := by rw [List.length_append]; exact Nat.add_le_add_right h 1
theorem lt2_ways {i : Nat} (h : i < 2) : i = 0 ∨ i = 1 := match i, h with
  | 0, _ => .inl rfl
  | 1, _ => .inr rfl
theorem lt3_ways {i : Nat} (h : i < 3) : i = 0 ∨ i = 1 ∨ i = 2 := match i, h with
  | 0, _ => .inl rfl
  | 1, _ => .inr (.inl rfl)
  | 2, _ => .inr (.inr rfl)
theorem lt4_ways {i : Nat} (h : i < 4) : i = 0 ∨ i = 1 ∨ i = 2 ∨ i = 3 := match i, h with
  | 0, _ => .inl rfl
  | 1, _ => .inr (.inl rfl)
  | 2, _ => .inr (.inr (.inl rfl))
  | 3, _ => .inr (.inr (.inr rfl))
theorem len2 {α : Type} : ∀ {l : List α}, l.length = 2 → ∃ a b, l = [a, b]
  | [a, b], _ => ⟨a, b, rfl⟩
theorem len3 {α : Type} : ∀ {l : List α}, l.length = 3 → ∃ a b c, l = [a, b, c]
  | [a, b, c], _ => ⟨a, b, c, rfl⟩
theorem len4 {α : Type} : ∀ {l : List α}, l.length = 4 → ∃ a b c d, l = [a, b, c, d]
  | [a, b, c, d], _ => ⟨a, b, c, d, rfl⟩
theorem pad4_add (n : Nat) : pad4 (n + 4) = pad4 n := by unfold pad4; rw [Nat.add_mod_right]
theorem figs_mod : ∀ q : List Int, ((figs q).length % 4 = 0 ∧ pad4 (figs q).length = 0) ∨ ((figs q).length % 4 = 2 ∧ pad4 (figs q).length = 2) ∨ ((figs q).length % 4 = 3 ∧ pad4 (figs q).length = 1)
  | [] => .inl ⟨rfl, rfl⟩
  | [_] => .inr (.inl ⟨rfl, rfl⟩)
  | [_, _] => .inr (.inr ⟨rfl, rfl⟩)
  | a :: b :: c :: q => by
    have ih := figs_mod q
    have e : (figs (a :: b :: c :: q)).length = (figs q).length + 4 := rfl
    rw [e, pad4_add, Nat.add_mod_right]; exact ih
theorem pad_figs : ∀ q : List Int, padN q.length = pad4 (figs q).length
  | [] => rfl
  | [_] => rfl
  | [_, _] => rfl
  | a :: b :: c :: q => by
    have ih := pad_figs q
    have e : (figs (a :: b :: c :: q)).length = (figs q).length + 4 := rfl
    rw [e, pad4_add, List.length_cons, List.length_cons, List.length_cons, padN_add]; exact ih
theorem in1 {a : Int} (h : 0 ≤ a ∧ a < 256) : 0 ≤ a / 4 ∧ a / 4 < 64 := by omega
theorem in2 {a b : Int} (h : 0 ≤ b ∧ b < 256) : 0 ≤ a % 4 * 16 + b / 16 ∧ a % 4 * 16 + b / 16 < 64 := by omega
theorem in3 {b c : Int} (h : 0 ≤ c ∧ c < 256) : 0 ≤ b % 16 * 4 + c / 64 ∧ b % 16 * 4 + c / 64 < 64 := by omega
theorem in4 (c : Int) : 0 ≤ c % 64 ∧ c % 64 < 64 := by omega
theorem in5 (a : Int) : 0 ≤ a % 4 * 16 ∧ a % 4 * 16 < 64 := by omega
theorem in6 (b : Int) : 0 ≤ b % 16 * 4 ∧ b % 16 * 4 < 64 := by omega
theorem fig_cons' {x : Int} {f : List Int} (h : 0 ≤ x ∧ x < 64) (hf : Fig f) : Fig (x :: f) := fig_cons.mpr ⟨h, hf⟩
theorem fig_nil : Fig [] := fun _ hx => nomatch hx
theorem figs_fig : ∀ q : List Int, KBa.In q → Fig (figs q)
  | [], _ => fig_nil
  | [a], h => fig_cons' (in1 (h a (.head _))) (fig_cons' (in5 a) fig_nil)
  | [a, b], h => fig_cons' (in1 (h a (.head _))) (fig_cons' (in2 (h b (.tail _ (.head _)))) (fig_cons' (in6 b) fig_nil))
  | a :: b :: c :: q, h => fig_cons' (in1 (h a (.head _))) (fig_cons' (in2 (h b (.tail _ (.head _)))) (fig_cons' (in3 (h c (.tail _ (.tail _ (.head _))))) (fig_cons' (in4 c) (figs_fig q fun x hx => h x (.tail _ (.tail _ (.tail _ hx)))))))
theorem df1 {a b : Int} (h : 0 ≤ b ∧ b < 256) : a / 4 * 4 + (a % 4 * 16 + b / 16) / 16 = a := by omega
theorem df2 {a b c : Int} (h : 0 ≤ b ∧ b < 256) (h2 : 0 ≤ c ∧ c < 256) : (a % 4 * 16 + b / 16) % 16 * 16 + (b % 16 * 4 + c / 64) / 4 = b := by omega
theorem df3 {b c : Int} (h2 : 0 ≤ c ∧ c < 256) : (b % 16 * 4 + c / 64) % 4 * 64 + c % 64 = c := by omega
theorem df4 (a : Int) : a / 4 * 4 + a % 4 * 16 / 16 = a := by omega
theorem df5 {a b : Int} (h : 0 ≤ b ∧ b < 256) : (a % 4 * 16 + b / 16) % 16 * 16 + b % 16 * 4 / 4 = b := by omega
theorem dec_figs : ∀ q : List Int, KBa.In q → dec (figs q) = q
  | [], _ => rfl
  | [a], _ => by simp only [figs, dec]; rw [df4]
  | [a, b], h => by
    have h1 := h b (.tail _ (.head _))
    simp only [figs, dec]
    rw [df1 h1, df5 h1]
  | a :: b :: c :: q, h => by
    have h1 := h b (.tail _ (.head _))
    have h2 := h c (.tail _ (.tail _ (.head _)))
    have ih := dec_figs q fun x hx => h x (.tail _ (.tail _ (.tail _ hx)))
    simp only [figs, dec, ih]
    rw [df1 h1, df2 h1 h2, df3 h2]
theorem enc_told (q : List Int) : enc q = (figs q).map sg ++ List.replicate (pad4 (figs q).length) 61 := by rw [enc_figs, pad_figs]
theorem bints_inj {a b : Array UInt8} (h : KBw.bInts a = KBw.bInts b) : a = b := by
  apply Array.ext'
  unfold KBw.bInts at h
  have inj : ∀ l l' : List UInt8, l.map (fun c => (c.toNat : Int)) = l'.map (fun c => (c.toNat : Int)) → l = l' := by
    intro l
    induction l with
    | nil => intro l' h; cases l' with | nil => rfl | cons => simp at h
    | cons x l ih =>
      intro l' h
      cases l' with
      | nil => simp at h
      | cons y l' =>
        simp only [List.map_cons, List.cons.injEq] at h
        have hx : x = y := by apply UInt8.toNat_inj.mp; omega
        rw [hx, ih l' h.2]
  exact inj _ _ h
/-- a row of figures whose end tells nothing more -/
def Ends (f : List Int) : Prop := f.length % 4 = 0 ∨ (f.length % 4 = 3 ∧ f.getLast?.getD 0 % 4 = 0) ∨ (f.length % 4 = 2 ∧ f.getLast?.getD 0 % 16 = 0)
theorem fe1 {a b : Int} (h : 0 ≤ b ∧ b < 64) : (a * 4 + b / 16) / 4 = a := by omega
theorem fe2 {a b c : Int} (h : 0 ≤ b ∧ b < 64) (h2 : 0 ≤ c ∧ c < 64) : (a * 4 + b / 16) % 4 * 16 + (b % 16 * 16 + c / 4) / 16 = b := by omega
theorem fe3 {b c d : Int} (h : 0 ≤ c ∧ c < 64) (h2 : 0 ≤ d ∧ d < 64) : (b % 16 * 16 + c / 4) % 16 * 4 + (c % 4 * 64 + d) / 64 = c := by omega
theorem fe4 {c d : Int} (h : 0 ≤ d ∧ d < 64) : (c % 4 * 64 + d) % 64 = d := by omega
theorem fe5 {a b : Int} (h : 0 ≤ b ∧ b < 64) (hb : b % 16 = 0) : (a * 4 + b / 16) % 4 * 16 = b := by omega
theorem fe6 {b c : Int} (h : 0 ≤ c ∧ c < 64) (hc : c % 4 = 0) : (b % 16 * 16 + c / 4) % 16 * 4 = c := by omega
theorem figs_dec : ∀ f : List Int, Fig f → Ends f → figs (dec f) = f
  | [], _, _ => by simp [figs, dec]
  | [a], _, h => by simp [Ends] at h
  | [a, b], hf, h => by
    have hb : b % 16 = 0 := by simpa [Ends] using h
    simp only [figs, dec]
    rw [fe1 (hf b (.tail _ (.head _))), fe5 (hf b (.tail _ (.head _))) hb]
  | [a, b, c], hf, h => by
    have hb : c % 4 = 0 := by simpa [Ends] using h
    have hB := hf b (.tail _ (.head _))
    have hC := hf c (.tail _ (.tail _ (.head _)))
    simp only [figs, dec]
    rw [fe1 hB, fe2 hB hC, fe6 hC hb]
  | a :: b :: c :: d :: q, hf, h => by
    have hq : Ends q := by
      cases q with
      | nil => simp [Ends]
      | cons x q =>
        simp only [Ends, List.length_cons, List.getLast?_cons_cons] at h ⊢
        rw [show q.length + 1 + 1 + 1 + 1 + 1 = q.length + 1 + 4 from rfl, Nat.add_mod_right] at h
        exact h
    have ih := figs_dec q (fun x hx => hf x (.tail _ (.tail _ (.tail _ (.tail _ hx))))) hq
    have hB := hf b (.tail _ (.head _))
    have hC := hf c (.tail _ (.tail _ (.head _)))
    have hD := hf d (.tail _ (.tail _ (.tail _ (.head _))))
    simp only [figs, dec, ih]
    rw [fe1 hB, fe2 hB hC, fe3 hC hD, fe4 hD]
end Mine
end

section
open PySem PySem.W PyProof.Rows PySem.Calls PySem.Spec
namespace Mine
noncomputable def b64 : Array UInt8 := #[65, 66, 67, 68, 69, 70, 71, 72, 73, 74, 75, 76, 77, 78, 79, 80, 81, 82, 83, 84, 85, 86, 87, 88, 89, 90, 97, 98, 99, 100, 101, 102, 103, 104, 105, 106, 107, 108, 109, 110, 111, 112, 113, 114, 115, 116, 117, 118, 119, 120, 121, 122, 48, 49, 50, 51, 52, 53, 54, 55, 56, 57, 43, 47]
theorem b64_ints : KBw.bInts b64 = tb := by decide +kernel
theorem b64_item {prog : Program} {w : World} {A : Around} {E : Value → Shared → Prop} {s : Shared} {value slice : PySem.Expr} {t ui : Tok} {i : Int} {Q : Value → Shared → Prop} (h0 : 0 ≤ i ∧ i < 64) (h : ∀ t' k, Q (.int (sg i) t') { s with toks := k })
    (hs : subscripted slice false (.bytes b64 t) (.int i ui) = operate [.bytes b64 t, .int i ui] (getItem (.bytes b64 t) (.int i ui)) := by with_unfolding_all rfl)
    (ht : ∀ r, letTemporaryGo value (.bytes b64 t) r = pure () := by intro _; with_unfolding_all rfl) : wpAny (model prog w) A (subscriptTail value slice (.bytes b64 t) (.int i ui)) Q E s :=
  KBw.item_K (ks := tb) b64_ints (by decide) h0.1 h0.2 (fun t' k _ _ => h t' k) hs ht
theorem and63 (x : Int) : 0 ≤ Builtin.bitAnd x 63 ∧ Builtin.bitAnd x 63 < 64 := by rw [bitAnd_m6]; omega
theorem sh16 (x : Int) : 0 ≤ Builtin.bitAnd x 3 * 2 ^ Int.toNat 4 ∧ Builtin.bitAnd x 3 * 2 ^ Int.toNat 4 < 64 := by rw [bitAnd_m2, show (2 : Int) ^ Int.toNat 4 = 16 from rfl]; omega
theorem sh4 (x : Int) : 0 ≤ Builtin.bitAnd x 15 * 2 ^ Int.toNat 2 ∧ Builtin.bitAnd x 15 * 2 ^ Int.toNat 2 < 64 := by rw [bitAnd_m4, show (2 : Int) ^ Int.toNat 2 = 4 from rfl]; omega
theorem ch1 {a b : Nat} {P : Prop} (h : a < b ∧ P) : a ≠ b := Nat.ne_of_lt h.1
theorem ce1 {a b : Nat} (h : a < b) : a ≠ b := Nat.ne_of_lt h
theorem ch2 {a b : Nat} {Q1 : Prop} {P : Prop} (h : Q1 ∧ a < b ∧ P) : a ≠ b := Nat.ne_of_lt h.2.1
theorem ce2 {a b : Nat} {Q1 : Prop} (h : Q1 ∧ a < b) : a ≠ b := Nat.ne_of_lt h.2
theorem ch3 {a b : Nat} {Q1 Q2 : Prop} {P : Prop} (h : Q1 ∧ Q2 ∧ a < b ∧ P) : a ≠ b := Nat.ne_of_lt h.2.2.1
theorem ce3 {a b : Nat} {Q1 Q2 : Prop} (h : Q1 ∧ Q2 ∧ a < b) : a ≠ b := Nat.ne_of_lt h.2.2
theorem ch4 {a b : Nat} {Q1 Q2 Q3 : Prop} {P : Prop} (h : Q1 ∧ Q2 ∧ Q3 ∧ a < b ∧ P) : a ≠ b := Nat.ne_of_lt h.2.2.2.1
theorem ce4 {a b : Nat} {Q1 Q2 Q3 : Prop} (h : Q1 ∧ Q2 ∧ Q3 ∧ a < b) : a ≠ b := Nat.ne_of_lt h.2.2.2
theorem ch5 {a b : Nat} {Q1 Q2 Q3 Q4 : Prop} {P : Prop} (h : Q1 ∧ Q2 ∧ Q3 ∧ Q4 ∧ a < b ∧ P) : a ≠ b := Nat.ne_of_lt h.2.2.2.2.1
theorem ce5 {a b : Nat} {Q1 Q2 Q3 Q4 : Prop} (h : Q1 ∧ Q2 ∧ Q3 ∧ Q4 ∧ a < b) : a ≠ b := Nat.ne_of_lt h.2.2.2.2
theorem ch6 {a b : Nat} {Q1 Q2 Q3 Q4 Q5 : Prop} {P : Prop} (h : Q1 ∧ Q2 ∧ Q3 ∧ Q4 ∧ Q5 ∧ a < b ∧ P) : a ≠ b := Nat.ne_of_lt h.2.2.2.2.2.1
theorem ce6 {a b : Nat} {Q1 Q2 Q3 Q4 Q5 : Prop} (h : Q1 ∧ Q2 ∧ Q3 ∧ Q4 ∧ Q5 ∧ a < b) : a ≠ b := Nat.ne_of_lt h.2.2.2.2.2
theorem ch7 {a b : Nat} {Q1 Q2 Q3 Q4 Q5 Q6 : Prop} {P : Prop} (h : Q1 ∧ Q2 ∧ Q3 ∧ Q4 ∧ Q5 ∧ Q6 ∧ a < b ∧ P) : a ≠ b := Nat.ne_of_lt h.2.2.2.2.2.2.1
theorem ce7 {a b : Nat} {Q1 Q2 Q3 Q4 Q5 Q6 : Prop} (h : Q1 ∧ Q2 ∧ Q3 ∧ Q4 ∧ Q5 ∧ Q6 ∧ a < b) : a ≠ b := Nat.ne_of_lt h.2.2.2.2.2.2
theorem ch8 {a b : Nat} {Q1 Q2 Q3 Q4 Q5 Q6 Q7 : Prop} {P : Prop} (h : Q1 ∧ Q2 ∧ Q3 ∧ Q4 ∧ Q5 ∧ Q6 ∧ Q7 ∧ a < b ∧ P) : a ≠ b := Nat.ne_of_lt h.2.2.2.2.2.2.2.1
theorem ce8 {a b : Nat} {Q1 Q2 Q3 Q4 Q5 Q6 Q7 : Prop} (h : Q1 ∧ Q2 ∧ Q3 ∧ Q4 ∧ Q5 ∧ Q6 ∧ Q7 ∧ a < b) : a ≠ b := Nat.ne_of_lt h.2.2.2.2.2.2.2
theorem ch9 {a b : Nat} {Q1 Q2 Q3 Q4 Q5 Q6 Q7 Q8 : Prop} {P : Prop} (h : Q1 ∧ Q2 ∧ Q3 ∧ Q4 ∧ Q5 ∧ Q6 ∧ Q7 ∧ Q8 ∧ a < b ∧ P) : a ≠ b := Nat.ne_of_lt h.2.2.2.2.2.2.2.2.1
theorem ce9 {a b : Nat} {Q1 Q2 Q3 Q4 Q5 Q6 Q7 Q8 : Prop} (h : Q1 ∧ Q2 ∧ Q3 ∧ Q4 ∧ Q5 ∧ Q6 ∧ Q7 ∧ Q8 ∧ a < b) : a ≠ b := Nat.ne_of_lt h.2.2.2.2.2.2.2.2
theorem ch10 {a b : Nat} {Q1 Q2 Q3 Q4 Q5 Q6 Q7 Q8 Q9 : Prop} {P : Prop} (h : Q1 ∧ Q2 ∧ Q3 ∧ Q4 ∧ Q5 ∧ Q6 ∧ Q7 ∧ Q8 ∧ Q9 ∧ a < b ∧ P) : a ≠ b := Nat.ne_of_lt h.2.2.2.2.2.2.2.2.2.1
theorem ce10 {a b : Nat} {Q1 Q2 Q3 Q4 Q5 Q6 Q7 Q8 Q9 : Prop} (h : Q1 ∧ Q2 ∧ Q3 ∧ Q4 ∧ Q5 ∧ Q6 ∧ Q7 ∧ Q8 ∧ Q9 ∧ a < b) : a ≠ b := Nat.ne_of_lt h.2.2.2.2.2.2.2.2.2
theorem ch11 {a b : Nat} {Q1 Q2 Q3 Q4 Q5 Q6 Q7 Q8 Q9 Q10 : Prop} {P : Prop} (h : Q1 ∧ Q2 ∧ Q3 ∧ Q4 ∧ Q5 ∧ Q6 ∧ Q7 ∧ Q8 ∧ Q9 ∧ Q10 ∧ a < b ∧ P) : a ≠ b := Nat.ne_of_lt h.2.2.2.2.2.2.2.2.2.2.1
theorem ce11 {a b : Nat} {Q1 Q2 Q3 Q4 Q5 Q6 Q7 Q8 Q9 Q10 : Prop} (h : Q1 ∧ Q2 ∧ Q3 ∧ Q4 ∧ Q5 ∧ Q6 ∧ Q7 ∧ Q8 ∧ Q9 ∧ Q10 ∧ a < b) : a ≠ b := Nat.ne_of_lt h.2.2.2.2.2.2.2.2.2.2
theorem ch12 {a b : Nat} {Q1 Q2 Q3 Q4 Q5 Q6 Q7 Q8 Q9 Q10 Q11 : Prop} {P : Prop} (h : Q1 ∧ Q2 ∧ Q3 ∧ Q4 ∧ Q5 ∧ Q6 ∧ Q7 ∧ Q8 ∧ Q9 ∧ Q10 ∧ Q11 ∧ a < b ∧ P) : a ≠ b := Nat.ne_of_lt h.2.2.2.2.2.2.2.2.2.2.2.1
theorem ce12 {a b : Nat} {Q1 Q2 Q3 Q4 Q5 Q6 Q7 Q8 Q9 Q10 Q11 : Prop} (h : Q1 ∧ Q2 ∧ Q3 ∧ Q4 ∧ Q5 ∧ Q6 ∧ Q7 ∧ Q8 ∧ Q9 ∧ Q10 ∧ Q11 ∧ a < b) : a ≠ b := Nat.ne_of_lt h.2.2.2.2.2.2.2.2.2.2.2
theorem ch13 {a b : Nat} {Q1 Q2 Q3 Q4 Q5 Q6 Q7 Q8 Q9 Q10 Q11 Q12 : Prop} {P : Prop} (h : Q1 ∧ Q2 ∧ Q3 ∧ Q4 ∧ Q5 ∧ Q6 ∧ Q7 ∧ Q8 ∧ Q9 ∧ Q10 ∧ Q11 ∧ Q12 ∧ a < b ∧ P) : a ≠ b := Nat.ne_of_lt h.2.2.2.2.2.2.2.2.2.2.2.2.1
theorem ce13 {a b : Nat} {Q1 Q2 Q3 Q4 Q5 Q6 Q7 Q8 Q9 Q10 Q11 Q12 : Prop} (h : Q1 ∧ Q2 ∧ Q3 ∧ Q4 ∧ Q5 ∧ Q6 ∧ Q7 ∧ Q8 ∧ Q9 ∧ Q10 ∧ Q11 ∧ Q12 ∧ a < b) : a ≠ b := Nat.ne_of_lt h.2.2.2.2.2.2.2.2.2.2.2.2
theorem ch14 {a b : Nat} {Q1 Q2 Q3 Q4 Q5 Q6 Q7 Q8 Q9 Q10 Q11 Q12 Q13 : Prop} {P : Prop} (h : Q1 ∧ Q2 ∧ Q3 ∧ Q4 ∧ Q5 ∧ Q6 ∧ Q7 ∧ Q8 ∧ Q9 ∧ Q10 ∧ Q11 ∧ Q12 ∧ Q13 ∧ a < b ∧ P) : a ≠ b := Nat.ne_of_lt h.2.2.2.2.2.2.2.2.2.2.2.2.2.1
theorem ce14 {a b : Nat} {Q1 Q2 Q3 Q4 Q5 Q6 Q7 Q8 Q9 Q10 Q11 Q12 Q13 : Prop} (h : Q1 ∧ Q2 ∧ Q3 ∧ Q4 ∧ Q5 ∧ Q6 ∧ Q7 ∧ Q8 ∧ Q9 ∧ Q10 ∧ Q11 ∧ Q12 ∧ Q13 ∧ a < b) : a ≠ b := Nat.ne_of_lt h.2.2.2.2.2.2.2.2.2.2.2.2.2
theorem ch15 {a b : Nat} {Q1 Q2 Q3 Q4 Q5 Q6 Q7 Q8 Q9 Q10 Q11 Q12 Q13 Q14 : Prop} {P : Prop} (h : Q1 ∧ Q2 ∧ Q3 ∧ Q4 ∧ Q5 ∧ Q6 ∧ Q7 ∧ Q8 ∧ Q9 ∧ Q10 ∧ Q11 ∧ Q12 ∧ Q13 ∧ Q14 ∧ a < b ∧ P) : a ≠ b := Nat.ne_of_lt h.2.2.2.2.2.2.2.2.2.2.2.2.2.2.1
theorem ce15 {a b : Nat} {Q1 Q2 Q3 Q4 Q5 Q6 Q7 Q8 Q9 Q10 Q11 Q12 Q13 Q14 : Prop} (h : Q1 ∧ Q2 ∧ Q3 ∧ Q4 ∧ Q5 ∧ Q6 ∧ Q7 ∧ Q8 ∧ Q9 ∧ Q10 ∧ Q11 ∧ Q12 ∧ Q13 ∧ Q14 ∧ a < b) : a ≠ b := Nat.ne_of_lt h.2.2.2.2.2.2.2.2.2.2.2.2.2.2
theorem ch16 {a b : Nat} {Q1 Q2 Q3 Q4 Q5 Q6 Q7 Q8 Q9 Q10 Q11 Q12 Q13 Q14 Q15 : Prop} {P : Prop} (h : Q1 ∧ Q2 ∧ Q3 ∧ Q4 ∧ Q5 ∧ Q6 ∧ Q7 ∧ Q8 ∧ Q9 ∧ Q10 ∧ Q11 ∧ Q12 ∧ Q13 ∧ Q14 ∧ Q15 ∧ a < b ∧ P) : a ≠ b := Nat.ne_of_lt h.2.2.2.2.2.2.2.2.2.2.2.2.2.2.2.1
theorem ce16 {a b : Nat} {Q1 Q2 Q3 Q4 Q5 Q6 Q7 Q8 Q9 Q10 Q11 Q12 Q13 Q14 Q15 : Prop} (h : Q1 ∧ Q2 ∧ Q3 ∧ Q4 ∧ Q5 ∧ Q6 ∧ Q7 ∧ Q8 ∧ Q9 ∧ Q10 ∧ Q11 ∧ Q12 ∧ Q13 ∧ Q14 ∧ Q15 ∧ a < b) : a ≠ b := Nat.ne_of_lt h.2.2.2.2.2.2.2.2.2.2.2.2.2.2.2
end Mine
end

section
open PySem PySem.W PyProof.Rows PySem.Calls PySem.Spec
namespace Mine
theorem codeAny_le {M : Model} {A : Around} {c : Code} {R : Result → Shared → Prop} {s : Shared} {d u : Nat} (h : codeAny M { A with depth := d, units := u } c R s) (hd : A.depth ≤ d) (hu : A.units ≤ u) : codeAny M A c R s :=
  fun Γ p hc hΓ => h Γ p hc ⟨hΓ.1, Nat.le_trans hΓ.2.1 hd, hΓ.2.2.1, hΓ.2.2.2.1, Nat.le_trans hΓ.2.2.2.2 hu⟩
theorem con_use {w : World} {dp un : Nat} {f : Addr} {pos : List Value} {Pre : Heap → Prop} {P : Heap → Value → Prop} (C : Con w dp un f ⟨pos, []⟩ Pre P)
    {mean : ExcName → Option Value} {mg mb : Str → Option Value} {env : Env} {outer : List Env} {A A₀ : Around} {base h₀ : Heap} {L : Addr} {m : Str → Option Value} {news : List (Addr × Obj)} {s : Shared} {Q E : Value → Shared → Prop}
    (B : Below A₀ base outer h₀) (F : Fr h₀ L s.heap m) (X : (hd.heap_39 w.params).In h₀) (N : News h₀ L s.heap news) (T : Top hd.view_39 lse mean mg mb h₀)
    (hA : A.frames = some (env :: outer)) (hh : A.handled = none) (hf : env.frame = some L) (hk : env.scope.kind = .function) (hd : A.depth ≤ dp) (hu : A.units ≤ un) (hp : Pre s.heap)
    (h : ∀ r h' tk', Fr h₀ L h' m → News h₀ L h' news → (∀ b o, s.heap.get? b = some o → h'.get? b = some o) → P h' r → Q r { s with heap := h', toks := tk' }) :
    wpAny (model prg w) A (call (.ref f) pos []) Q E s := by
  obtain ⟨hd0, d, fr, gs, u⟩ := A
  have e1 : hd0 = none := hh
  have e2 : fr = some (env :: outer) := hA
  subst e1 e2
  refine wpAny_call (codeAny_le (d := dp) (u := un) ?_ hd hu)
  exact C mean mg mb gs env outer A₀ base h₀ L m s _ B F X T hf hk hp fun r h' tk' F' st hP => h r h' tk' F' (fun p hp => ⟨st _ _ (N p hp).1, (N p hp).2⟩) st hP
theorem Con.mono {w : World} {dp un : Nat} {f : Addr} {args : Args} {Pre Pre' : Heap → Prop} {P P' : Heap → Value → Prop} (C : Con w dp un f args Pre P) (hpre : ∀ h, Pre' h → Pre h) (h : ∀ h r, P h r → P' h r) : Con w dp un f args Pre' P' :=
  fun mean mg mb gd env outer A₀ base h₀ L m s R B F X T hf hk hp hret => C mean mg mb gd env outer A₀ base h₀ L m s R B F X T hf hk (hpre _ hp) fun r h' tk' F' st hP => hret r h' tk' F' st (h _ _ hP)
end Mine
end

section
open PySem PySem.W PyProof.Rows PySem.Calls PySem.Spec PyProof.V
namespace Mine
section
variable {prog : Program} {w : World} {A : Around} {E : Value → Shared → Prop} {s : Shared} {env : Env} {h₀ : Heap} {x : Str} {body : List Stmt} {Q : Flow → Shared → Prop}
/-- a for over a range with any step, by what holds after i turns -/
theorem range_loop {σ : Type} {r : Addr} {a₀ b₀ d : Int} {t₀ u₀ v₀ : Tok} {n : Nat} {m₀ : Str → Option Value} (Led : σ → List (Addr × Obj)) (ps : σ → List (Str × Value)) (Facts : σ → Prop) (stored : List Str) (P : Nat → σ → Prop) (c₀ : σ)
    (hh : A.handled = none) (hr : IsRange s.heap r a₀ b₀ d t₀ u₀ v₀) (hsmall : Builtin.Range.small a₀ b₀ d = true) (hn : Builtin.Range.rangeSize a₀ b₀ d = (n : Int)) (F : Fr h₀ env.locals s.heap m₀) (N : News h₀ env.locals s.heap (Led c₀)) (hf : Facts c₀) (hk : ∀ p ∈ ps c₀, m₀ p.1 = some p.2) (hp : P 0 c₀)
    (turn : ∀ (c : σ) (i : Nat) t (u : Str → Option Value) h tk own, i < n → OwnOff own ((Led c₀).map (·.1)) → Facts c → P i c →
      Fr h₀ env.locals h (fun y => if y = x then some (.int (a₀ + (i : Int) * d) t) else kstB (fun z => if stored.contains z then u z else m₀ z) (ps c) y) → News h₀ env.locals h (Led c ++ own) →
      wpAny (model prog w) A (execs body env) (InvPostN h₀ env.locals (KstS Led ps Facts x stored m₀ (fun _ => P (i + 1)) []) own ((Led c₀).map (·.1)) { s with heap := h, toks := tk } Q) E { s with heap := h, toks := tk })
    (done : ∀ (c : σ) (u : Str → Option Value) h tk, Facts c → P n c → Fr h₀ env.locals h (fun y => if y = x then u y else kstB (fun z => if stored.contains z then u z else m₀ z) (ps c) y) → News h₀ env.locals h (Led c) → Q .next { s with heap := h, toks := tk }) :
    wpAny (model prog w) A (pyIter (.ref r)) (fun it s₂ => LoopAtV prog w A h₀ env x body Q E it s₂) E s := by
  refine wpAny_pyIter_range hr hsmall ?_
  have W : Walks prog w A s.heap.objs.size [s.heap.objs.size] [s.heap.objs.size] n (fun i v => i < n ∧ ∃ t, v = .int (a₀ + i * d) t)
      (fun i h => IsRangeIter h s.heap.objs.size (a₀ + (i : Nat) * d) ((n : Int) - (i : Nat)) d) := (Walks.range hh _ a₀ d n).bound
  refine loop_invN (fun i m nx => KstS Led ps Facts x stored m₀ (fun _ => P i) [] m nx) W ?_ ?_ ?_ ?_ (by show IsRangeIter _ _ _ _ _; rw [hn]; simpa using Heap.get?_push_size _ rfl) (F.push _) (fun p hp => ⟨Heap.get?_push_of_some _ (N p hp).1, (N p hp).2⟩) ⟨c₀, rfl, hf, hk, fun _ _ _ _ => rfl, hp⟩ ?_ ?_
  · intro hm
    exact absurd F.ns.lt ((List.mem_singleton.mp hm) ▸ Nat.lt_irrefl _)
  · intro b hb
    rw [List.mem_singleton.mp hb]
    exact next_is_new F
  · intro p hp hI
    exact absurd (Heap.lt_size (N p hp).1) ((List.mem_singleton.mp hI) ▸ Nat.lt_irrefl _)
  · intro p hp hI
    exact absurd (Heap.lt_size (N p hp).1) ((List.mem_singleton.mp hI) ▸ Nat.lt_irrefl _)
  · rintro i v m₁ nx h tk own hi ⟨_, t, rfl⟩ _ hoff ⟨c, rfl, hf', h1, h2, hp'⟩ F₁ N₁
    exact turn c i t m₁ h tk own hi hoff hf' hp' (kst_fr h1 h2 F₁) N₁
  · rintro m₁ nx h tk ⟨c, rfl, hf', h1, h2, hp'⟩ F₁ N₁
    exact done c m₁ h tk hf' hp' (kst_frOut h1 h2 F₁) N₁
end
theorem range3 (n : Nat) : Builtin.Range.rangeSize 0 (n : Int) 3 = (((n + 2) / 3 : Nat) : Int) := by
  unfold Builtin.Range.rangeSize
  simp
  omega
theorem range4 (n : Nat) : Builtin.Range.rangeSize 0 (n : Int) 4 = (((n + 3) / 4 : Nat) : Int) := by
  unfold Builtin.Range.rangeSize
  simp
  omega
theorem fits_of {i : Int} (h0 : 0 ≤ i) (h1 : i ≤ 5000) : Builtin.Range.rangeFitsLong i = true := by
  unfold Builtin.Range.rangeFitsLong
  rw [Bool.and_eq_true]
  exact ⟨decide_eq_true (by omega), decide_eq_true (by omega)⟩
theorem small_of {n k : Nat} {d : Int} (h : n ≤ 1000) (hd0 : 0 < d) (hd : d ≤ 4) (e : Builtin.Range.rangeSize 0 (n : Int) d = (k : Int)) (hk : k ≤ 1000) : Builtin.Range.small 0 (n : Int) d = true := by
  unfold Builtin.Range.small
  rw [e, fits_of (Int.le_refl 0) (by omega), fits_of (i := (n : Int)) (by omega) (by omega), fits_of (i := d) (by omega) (by omega), fits_of (i := (k : Int)) (by omega) (by omega), if_pos hd0, fits_of (i := (n : Int) + (d - 1)) (by omega) (by omega)]
  simp
theorem small3 {n : Nat} (h : n ≤ 1000) : Builtin.Range.small 0 (n : Int) 3 = true := small_of h (by decide) (by decide) (range3 n) (by omega)
theorem small4 {n : Nat} (h : n ≤ 1000) : Builtin.Range.small 0 (n : Int) 4 = true := small_of h (by decide) (by decide) (range4 n) (by omega)
end Mine
end

section
open PySem PySem.W PyProof.Rows PySem.Calls PySem.Spec PyProof.V
namespace Mine
section
variable {prog : Program} {w : World} {A : Around} {E : Value → Shared → Prop} {s : Shared} {b : Array UInt8} {t : Tok}
theorem nextOf_item {it : Addr} {i : Nat} {c : UInt8} {Q : Value → Shared → Prop} (hit : KBw.IsBytesIter s.heap it b t i) (hx : b[i]? = some c)
    (hQ : ∀ h', KBw.IsBytesIter h' it b t (i + 1) → Heap.SameBut it s.heap h' → Q (.int (c.toNat : Int) s.toks) { s with heap := h', toks := s.toks + 1 }) : wpAny (model prog w) A (Builtin.SmallTypes.nextOf (.ref it)) Q E s := by
  obtain ⟨o, ho, hc, hd⟩ := id hit
  unfold Builtin.SmallTypes.nextOf
  refine wpAny_bind (wpAny_callSpecial?_slot (name := PySem.Str.ofString "__next__") (KBw.iter_typeIs hit) KBw.slot_next
    (wpAny_call_entry KBw.slot_next (KBw.iter_typeIs hit) KBw.entry_next ?_ (KBw.args_next _)))
  show wpAny _ _ (field (.ref it) 0 >>= _) _ _ s
  refine wpAny_bind (wpAny_field ho hd (x := .bytes b t) rfl ?_)
  show wpAny _ _ (if (Value.bytes b t == Value.none) = true then _ else _) _ _ s
  rw [if_neg (show ¬ ((Value.bytes b t == Value.none) = true) from Bool.false_ne_true)]
  show wpAny _ _ (field (.ref it) 1 >>= _) _ _ s
  refine wpAny_bind (wpAny_field ho hd (x := .int i 0) rfl ?_)
  refine wpAny_bind (wpAny_of_eq (a := b) rfl ?_)
  simp only [Int.toNat_natCast, hx]
  refine wpAny_bind (wpAny_setField ho hd (by simp) (wpAny_bind (wpAny_mkInt (wpAny_pure ⟨_, rfl, wpAny_pure (hQ _ ?_ (Heap.SameBut.update ..))⟩))))
  exact ⟨_, Heap.get?_update_self _ ho (Obj.isFreed_of_fields (Obj.data_mapFields hd _)), (Obj.cls_mapFields ..).trans hc, by
    rw [Obj.data_mapFields hd]; simp [rawInt]⟩
theorem nextOf_end {it : Addr} {i : Nat} {Q : Value → Shared → Prop} (hh : A.handled = none) (hit : KBw.IsBytesIter s.heap it b t i) (hx : b[i]? = none)
    (hE : ∀ h' e, Heap.ExtBut it s.heap h' → (∃ o, h'.get? e = some o ∧ o.cls = .type "StopIteration") → E (.ref e) { s with heap := h' }) : wpAny (model prog w) A (Builtin.SmallTypes.nextOf (.ref it)) Q E s := by
  obtain ⟨o, ho, hc, hd⟩ := id hit
  unfold Builtin.SmallTypes.nextOf
  refine wpAny_bind (wpAny_callSpecial?_slot (name := PySem.Str.ofString "__next__") (KBw.iter_typeIs hit) KBw.slot_next
    (wpAny_call_entry KBw.slot_next (KBw.iter_typeIs hit) KBw.entry_next ?_ (KBw.args_next _)))
  show wpAny _ _ (field (.ref it) 0 >>= _) _ _ s
  refine wpAny_bind (wpAny_field ho hd (x := .bytes b t) rfl ?_)
  show wpAny _ _ (if (Value.bytes b t == Value.none) = true then _ else _) _ _ s
  rw [if_neg (show ¬ ((Value.bytes b t == Value.none) = true) from Bool.false_ne_true)]
  show wpAny _ _ (field (.ref it) 1 >>= _) _ _ s
  refine wpAny_bind (wpAny_field ho hd (x := .int i 0) rfl ?_)
  refine wpAny_bind (wpAny_of_eq (a := b) rfl ?_)
  simp only [Int.toNat_natCast, hx]
  refine wpAny_bind (wpAny_rule (wpAny_bind (wpAny_setField ho hd (by simp) ?_)))
  show wpAny _ _ (newExc (.type "StopIteration") [] >>= _) _ _ _
  refine wpAny_bind ?_
  simp only [newExc, newTuple]
  refine wpAny_bind (wpAny_newObj_type ?_ (by size_fits))
  refine wpAny_bind (m := firstArgMember _ _) (wpAny_of_eq (a := Value.none) (by first | rfl | (simp only [firstArgMember]; rfl)) ?_)
  refine wpAny_newObj_type ?_ (by size_fits)
  simp only [raiseNew]
  refine wpAny_bind (wpAny_handled ?_)
  rw [show A.in1.handled = none from hh]
  refine wpAny_bind (wpAny_pure (wpAny_throw ?_))
  exact hE _ _ (((Heap.SameBut.update ..).extBut.push _).push _) ⟨_, Heap.get?_push_size _ rfl, rfl⟩
end
theorem draws_bytes {prog : Program} {w : World} {A : Around} (hh : A.handled = none) (it : Addr) {b : Array UInt8} {ks : List Int} (hk : KBw.bInts b = ks) (t : Tok) :
    Draws prog w A it [it] ks.length (fun i v => ∃ k u, ks[i]? = some k ∧ v = .int k u) (fun i h => KBw.IsBytesIter h it b t i) where
  live := fun _ _ st => let ⟨o, ho, _⟩ := st; ⟨o, ho⟩
  frame := fun _ _ _ st hk => let ⟨o, ho, r⟩ := st; ⟨o, hk it (by simp) o ho, r⟩
  item := fun i s Q E hi st hQ => by
    subst hk
    rw [KBw.ints_length] at hi
    refine nextOf_item st (c := b[i]) (by simp [hi]) fun h' hit' hs' => ?_
    exact hQ _ h' (s.toks + 1) ⟨_, _, KBw.ints_get (by simp [hi]), rfl⟩ hit' hs'
  done := fun s Q E st hE => by
    subst hk
    rw [KBw.ints_length] at st
    exact nextOf_end hh st (by simp) hE
theorem draws_list {prog : Program} {w : World} {A : Around} (hh : A.handled = none) (it l : Addr) (hne : l ≠ it) {vs : List Value} {ks : List Int} (hi : IntsAre vs ks) :
    Draws prog w A it [it, l] ks.length (fun i v => ∃ k u, ks[i]? = some k ∧ v = .int k u) (fun i h => h.IsListIter it l i ∧ h.IsList l vs.toArray) := by
  have D := Draws.list (prog := prog) (w := w) hh it l hne vs.toArray
  have hl : vs.toArray.size = ks.length := by simp [hi.length]
  rw [hl] at D
  refine ⟨D.live, D.frame, fun i s Q E hlt st hQ => D.item i s Q E hlt st fun x h' tk hx st' sb => hQ x h' tk ?_ st' sb, D.done⟩
  obtain ⟨u, hu⟩ := hi.get i ks[i] (by simp [hlt])
  refine ⟨ks[i], u, by simp [hlt], ?_⟩
  have hx' : vs[i]? = some x := by simpa using hx
  rw [hu] at hx'
  exact (Option.some.inj hx').symm
theorem meets_enumB (x : Array UInt8) (t : Tok) :
    Meets (Builtin.«enumerate.__new__» ⟨[.type "enumerate", .bytes x t], []⟩) (fun _ R s =>
      R (.ok (.ret (.ref (s.heap.push { cls := .type "bytes_iterator", data := .fields #[.bytes x t, .int 0 0] }).objs.size)))
        { s with heap := (s.heap.push { cls := .type "bytes_iterator", data := .fields #[.bytes x t, .int 0 0] }).push { cls := .type "enumerate", data := .fields #[.none, .bool false, .ref s.heap.objs.size, rawInt 0, .none, .none] } }) :=
  .of_wp fun prog w A R s h => by
    obtain ⟨hp, g, d, tk, os⟩ := s
    have hsub := sub_enumerate
    wp_walk
    refine wpAny_stack_any fun st => wpAny_pure ?_
    split
    · rename_i c _ _ _ _ _
      cases (c == Value.type "enumerate")
      · wp_walk using KBw.pyIter_bytes
        exact ⟨_, rfl, h⟩
      · wp_walk using KBw.pyIter_bytes
        exact ⟨_, rfl, h⟩
    · wp_walk using KBw.pyIter_bytes
      exact ⟨_, rfl, h⟩
end Mine
end

section
open PySem PySem.W PyProof.Rows PySem.Calls PySem.Spec PyProof.V
namespace Mine
section
variable {prog : Program} {w : World} {A : Around} {E : Value → Shared → Prop} {s : Shared} {h₀ : Heap} {L : Addr} {m : Str → Option Value} {env : Env} {news : List (Addr × Obj)}
theorem call_enumB {x : Array UInt8} {t : Tok} {Q : Value → Shared → Prop}
    (h : ∀ h', IsEnum h' (s.heap.objs.size + 1) s.heap.objs.size 0 .none → KBw.IsBytesIter h' s.heap.objs.size x t 0 → h'.objs.size = s.heap.objs.size + 2 →
      (∀ b o, s.heap.get? b = some o → h'.get? b = some o) → Q (.ref (s.heap.objs.size + 1)) { s with heap := h' }) :
    wpAny (model prog w) A (call (.type "enumerate") [.bytes x t]) Q E s := by
  refine callType_new F.called_enumerate (by decide) (F.typeCall_enumerate_1 _) (F.newCall_enumerate_1 _) (fun obj => F.args_object_init_2 obj _) F.entry_enumerate_new
    (meets_enumB x t) ?_
  have hz : (s.heap.push { cls := .type "bytes_iterator", data := .fields #[.bytes x t, .int 0 0] }).objs.size = s.heap.objs.size + 1 := Heap.size_push ..
  show _ ∧ _
  rw [hz]
  have he : IsEnum ((s.heap.push { cls := .type "bytes_iterator", data := .fields #[.bytes x t, .int 0 0] }).push
      { cls := .type "enumerate", data := .fields #[.none, .bool false, .ref s.heap.objs.size, rawInt 0, .none, .none] }) (s.heap.objs.size + 1) s.heap.objs.size 0 .none := by
    have := Heap.get?_push_size (s.heap.push { cls := .type "bytes_iterator", data := .fields #[.bytes x t, .int 0 0] })
      (o := { cls := .type "enumerate", data := .fields #[.none, .bool false, .ref s.heap.objs.size, rawInt 0, .none, .none] }) rfl
    rw [hz] at this; exact this
  exact ⟨⟨_, he, rfl⟩, h _ he ⟨_, Heap.get?_push_of_some _ (Heap.get?_push_size _ rfl), rfl, rfl⟩ (by rw [Heap.size_push, hz]) fun b o y => Heap.get?_push_of_some _ (Heap.get?_push_of_some _ y)⟩

/-- an enumerate object over n ints stands at xv, ready to be walked -/
def EnumAt (prog : Program) (w : World) (A : Around) (h₀ : Heap) (L : Addr) (m : Str → Option Value) (news : List (Addr × Obj)) (ks : List Int) (s : Shared) (xv : Value) (s₁ : Shared) : Prop :=
  ∃ (e it : Addr) (fp : List Addr) (St : Nat → Heap → Prop) (hp : Heap) (tk : Nat), xv = .ref e ∧ s₁ = { s with heap := hp, toks := tk } ∧
    Draws prog w A.in1 it fp ks.length (fun i v => ∃ k u, ks[i]? = some k ∧ v = .int k u) St ∧ e ≠ it ∧ e ∉ fp ∧ it ∈ fp ∧ (∀ c ∈ fp, c < hp.objs.size) ∧ IsEnum hp e it 0 .none ∧ St 0 hp ∧
    Fr h₀ L hp m ∧ News h₀ L hp news ∧ h₀.get? e = none ∧ h₀.get? it = none ∧ L ≠ e ∧ L ≠ it ∧ ∀ p ∈ news, p.1 ≠ e ∧ p.1 ≠ it

theorem enum_comp {elt iter : PySem.Expr} {a b : Str} {pa pb tp : Pos} {kk : Nat} {scope : Scope} {cl : List (Str × Addr)} {pos : Pos} {Q : Value → Shared → Prop} {ks : List Int} {g : Nat → Int → Int}
    (hh : A.handled = none) (hclos : closureFor scope env = pure cl) (hcell : ∀ y ∈ scope.names, y.2 ≠ .cell) (hkind : scope.kind = .function)
    (hnames : ∀ y ∈ scope.names, y.2 = .local → scope.names.lookup y.1 = some .local) (hxa : scope.names.lookup a = some .local) (hxb : scope.names.lookup b = some .local) (hab : a ≠ b) (hz : ks.length ≤ 1000)
    (h : wpAny (model prog w) A (eval iter env) (EnumAt prog w A h₀ L m news ks s) E s)
    (helt : ∀ (i : Nat) (k : Int) (u v : Tok) (C : Addr) (m₂ : Str → Option Value) (s' : Shared) (E' : Value → Shared → Prop), ks[i]? = some k → s'.heap.Ns C m₂ → m₂ a = some (.int i u) → m₂ b = some (.int k v) →
      wpAny (model prog w) A (eval elt (compEnvC scope cl C env)) (fun y s'' => ∃ t tk, y = .int (g i k) t ∧ s'' = { s' with toks := tk }) E' s')
    (hQ : ∀ D ys h' tk, Fr h₀ L h' m → News h₀ L h' ((D, LCg.lst ys) :: news) → (∀ p ∈ news, p.1 < D) → IntsAre ys (ks.zipIdx.map fun p => g p.2 p.1) → Q (.ref D) { s with heap := h', toks := tk })
    (hs : ∀ x, foldedSetIterable iter env x = pure x := by intro _; rfl) :
    wpAny (model prog w) A (eval (.ListComp elt [⟨.Tuple [.Name a pa, .Name b pb] kk tp, iter, [], 0⟩] scope pos) env) Q E s := by
  rw [eval_ListComp]
  refine wpAny_comprehension_free (use := none) rfl hs hclos hkind hnames (wpAny_mono h (fun xv s₁ h₁ => ?_) fun _ _ e => e)
  obtain ⟨e, it, fp, St, hp, tk₁, rfl, rfl, D, hei, hef, hif, hlt, hE, hst, F, N, he0, hi0, hLe, hLi, hoff⟩ := h₁
  have W := WalksT.enumerateD D e hei hef hif
  refine W.self 0 _ _ _ ⟨⟨_, hE⟩, hst⟩ ?_
  refine wpAny_newObj_type (wpAny_newFunctionEnv hcell (by intro y hy; simp at hy) (fun h₁ hns₁ hsb₁ => ?_) hkind)
  dsimp only at hns₁ hsb₁ ⊢
  generalize hH2 : hp.push { cls := .type "list", dict := none, data := .seq ([] : List Value).toArray } = H2 at hns₁ hsb₁ ⊢
  have hC : H2.objs.size = hp.objs.size + 1 := by rw [← hH2, Heap.size_push]
  have hDC : hp.objs.size ≠ H2.objs.size := by rw [hC]; exact Nat.ne_of_lt (Nat.lt_succ_self _)
  have below : ∀ c, c < hp.objs.size → c ≠ H2.objs.size ∧ c ≠ hp.objs.size := fun c hb => ⟨by rw [hC]; exact Nat.ne_of_lt (Nat.lt_succ_of_lt hb), Nat.ne_of_lt hb⟩
  have old : ∀ c o, hp.get? c = some o → h₁.get? c = some o := fun c o e => hsb₁.extBut c o (below c (Heap.lt_size e)).1 (Heap.get?_push_of_some _ (hH2 ▸ Heap.get?_push_of_some _ e))
  have hacc : h₁.get? hp.objs.size = some (LCg.lst []) := hsb₁.extBut _ _ hDC (Heap.get?_push_of_some _ (hH2 ▸ Heap.get?_push_size _ rfl))
  have helt' : e < hp.objs.size := Heap.lt_size hE
  have hitlt : it < hp.objs.size := hlt it hif
  have fresh : ∀ c, hp.objs.size ≤ c → h₀.get? c = none := fun c hc => by
    cases q : h₀.get? c with
    | none => rfl
    | some o => exact absurd (Heap.lt_size (F.keep c o q)) (Nat.not_lt.mpr hc)
  have hLlt : L < hp.objs.size := F.ns.lt
  have loop : codeAny (model prog w) A (.compLoop (.ListComp elt [⟨.Tuple [.Name a pa, .Name b pb] kk tp, iter, [], 0⟩] scope pos) 0 (.ref e) (.ref hp.objs.size) (compEnvC scope cl H2.objs.size env))
      (compPost (model prog w) A E none Q (.ref hp.objs.size) H2.objs.size) { s with heap := h₁, toks := tk₁ + ([] : List (Str × Value)).length } := by
    refine LCp.codeAny_compLoop_pair
      (fun k s' => ∃ h' tk i ys m', s' = { s with heap := h', toks := tk } ∧ i ≤ ks.length ∧ k = ks.length + 1 - i ∧ ys.length = i ∧ ((∃ old, IsEnum h' e it (i : Nat) old) ∧ St i h') ∧ h'.Ns H2.objs.size m' ∧
        h'.get? hp.objs.size = some (LCg.lst ys) ∧ IntsAre ys ((ks.zipIdx.map fun p => g p.2 p.1).take i) ∧
        (∀ c o, c ≠ e → c ≠ it → hp.get? c = some o → h'.get? c = some o)) ?_ (ks.length + 1)
      ⟨h₁, _, 0, [], _, rfl, Nat.zero_le _, rfl, rfl, ⟨⟨_, old _ _ hE⟩, D.frame _ _ _ hst fun c _ o q => old c o q⟩, hns₁, hacc, .nil, fun c o _ _ q => old c o q⟩
    rintro k s' ⟨h', tk, i, ys, m', rfl, hi, rfl, hyl, hSt, hn', hD', hI, hkeep⟩
    by_cases hil : i < ks.length
    · refine W.item i _ _ _ hil hSt fun T vals h₂ tk₂ hPt hT hTup hMid hk₂ => ?_
      refine W.go _ _ _ i T _ _ _ hMid fun h₃ hSt₃ hk₃ => ?_
      obtain ⟨u, x, ⟨kx, v, hkx, rfl⟩, rfl⟩ := hPt
      have hTw := W.apart i T _ hMid
      have hT3 : h₃.IsTuple T #[.int i u, .int kx v] := by
        obtain ⟨o, ho, r⟩ := hTup
        exact ⟨o, hk₃ T o hTw ho, r⟩
      have up : ∀ c o, c ∉ [e, it] → h'.get? c = some o → h₃.get? c = some o := fun c o hc q => hk₃ c o hc (hk₂ c o hc q)
      have nC : H2.objs.size ∉ [e, it] := by
        intro q
        rcases List.mem_cons.mp q with q | q
        · exact (below e helt').1 q.symm
        · exact (below it hitlt).1 (List.mem_singleton.mp q).symm
      have nD : hp.objs.size ∉ [e, it] := by
        intro q
        rcases List.mem_cons.mp q with q | q
        · exact (below e helt').2 q.symm
        · exact (below it hitlt).2 (List.mem_singleton.mp q).symm
      refine kcp_assign (env := compEnvC scope cl H2.objs.size env) hh hT3 (lookup_relabel_local hxa) (lookup_relabel_local hxb) (by simp [compEnvC, relabel, hkind]) (hn'.at' fun o q => up _ o nC q) fun h₄ tk₄ hn₄ hs₄ => ?_
      refine wpAny_mono (helt i kx u v H2.objs.size _ _ _ hkx hn₄ (by simp [hab]) (by simp)) (fun y s₅ h₅ => ?_) fun _ _ q => q
      obtain ⟨ty, tk₅, rfl, rfl⟩ := h₅
      have hD₄ : h₄.get? hp.objs.size = some (LCg.lst ys) := hs₄ _ _ hDC (up _ _ nD hD')
      refine append_at (hsz := by show ys.toArray.size ≤ sizeLine; rw [List.size_toArray, sizeLine_eq]; omega) hD₄ fun h₅ hs₅ hD₅ => ?_
      refine ⟨ks.length + 1 - (i + 1), by omega, h₅, tk₅, i + 1, ys ++ [.int (g i kx) ty], _, rfl, hil, rfl, by simp [hyl], ?_, hn₄.sameBut hs₅ (Ne.symm hDC), hD₅.trans (congrArg some (LCg.lst_snoc ys _)), ?_, ?_⟩
      · refine W.frame _ _ _ hSt₃ fun c hc o q => ?_
        have hcl : c < hp.objs.size := by
          rcases List.mem_cons.mp hc with rfl | hc
          · exact helt'
          · exact hlt c hc
        exact hs₅.extBut c o (below c hcl).2 (hs₄ c o (below c hcl).1 q)
      · have hg : (ks.zipIdx.map fun p => g p.2 p.1)[i]? = some (g i kx) := by simp [List.getElem?_zipIdx, hkx]
        rw [List.take_add_one, hg]
        exact IntsAre.append hI (.cons _ _ .nil)
      · intro c o hce hci q
        have hcl := Heap.lt_size q
        exact hs₅.extBut c o (below c hcl).2 (hs₄ c o (below c hcl).1 (up c o (by simp [hce, hci]) (hkeep c o hce hci q)))
    · obtain rfl : i = ks.length := Nat.le_antisymm hi (Nat.not_lt.mp hil)
      refine W.done _ _ _ hSt fun h₂ tk₂ hk₂ => ?_
      have nC : H2.objs.size ∉ [e, it] := by
        intro q
        rcases List.mem_cons.mp q with q | q
        · exact (below e helt').1 q.symm
        · exact (below it hitlt).1 (List.mem_singleton.mp q).symm
      have nD : hp.objs.size ∉ [e, it] := by
        intro q
        rcases List.mem_cons.mp q with q | q
        · exact (below e helt').2 q.symm
        · exact (below it hitlt).2 (List.mem_singleton.mp q).symm
      refine ⟨m', hn'.at' fun o q => hk₂ _ o nC q, fun h₃ hs₃ => ?_⟩
      have kp : ∀ c o, c ≠ e → c ≠ it → hp.get? c = some o → h₃.get? c = some o := fun c o hce hci q =>
        hs₃.extBut c o (below c (Heap.lt_size q)).1 (hk₂ c o (by simp [hce, hci]) (hkeep c o hce hci q))
      have hD₃ : h₃.get? hp.objs.size = some (LCg.lst ys) := hs₃.extBut _ _ hDC (hk₂ _ _ nD hD')
      refine hQ hp.objs.size ys h₃ tk₂ ⟨F.ns.at' fun o q => kp L o hLe hLi q, fun c o q => kp c o (fun z => by rw [z, he0] at q; cases q) (fun z => by rw [z, hi0] at q; cases q) (F.keep c o q), F.above⟩ (fun p hp' => ?_) (fun p hp' => Heap.lt_size (N p hp').1) ?_
      · rcases List.mem_cons.mp hp' with rfl | hp'
        · exact ⟨hD₃, Nat.ne_of_gt hLlt, fresh _ (Nat.le_refl _)⟩
        · exact ⟨kp _ _ (hoff p hp').1 (hoff p hp').2 (N p hp').1, (N p hp').2⟩
      · rw [List.take_of_length_le (by simp)] at hI
        exact hI
  exact codeAny_compStart_list loop (W.self 0 _ _ _ ⟨⟨_, old _ _ hE⟩, D.frame _ _ _ hst fun c _ o q => old c o q⟩ loop)
end
end Mine
end

section
open PySem PySem.W PyProof.Rows PySem.Calls PySem.Spec PyProof.V
namespace Mine
section
variable {prog : Program} {w : World} {A : Around} {E : Value → Shared → Prop} {s s₀ : Shared} {h₀ : Heap} {L : Addr} {m : Str → Option Value} {env : Env} {news : List (Addr × Obj)} {ks : List Int}
theorem enumAt_bytes {b : Array UInt8} {t : Tok} (hh : A.handled = none) (F : Fr h₀ L s.heap m) (N : News h₀ L s.heap news) (hk : KBw.bInts b = ks) (hs : ∃ hp tk, s = { s₀ with heap := hp, toks := tk }) :
    wpAny (model prog w) A (call (.type "enumerate") [.bytes b t]) (EnumAt prog w A h₀ L m news ks s₀) E s := by
  obtain ⟨hp, tk, rfl⟩ := hs
  refine call_enumB fun h' he hit hsz hkp => ?_
  have fresh : ∀ c, hp.objs.size ≤ c → h₀.get? c = none := fun c hc => by
    cases q : h₀.get? c with
    | none => rfl
    | some o => exact absurd (Heap.lt_size (F.keep c o q)) (Nat.not_lt.mpr hc)
  have lt : ∀ p ∈ news, p.1 < hp.objs.size := fun p hp' => Heap.lt_size (N p hp').1
  have hL : L < hp.objs.size := F.ns.lt
  refine ⟨hp.objs.size + 1, hp.objs.size, [hp.objs.size], fun i h => KBw.IsBytesIter h hp.objs.size b t i, h', tk, rfl, rfl, draws_bytes (A := A.in1) hh _ hk t, Nat.succ_ne_self _, by simp, by simp, fun c hc => ?_, he, hit, F.keeps hkp, fun p hp' => ⟨hkp _ _ (N p hp').1, (N p hp').2⟩, fresh _ (Nat.le_succ _), fresh _ (Nat.le_refl _), ?_, ?_, fun p hp' => ⟨?_, ?_⟩⟩
  · rw [List.mem_singleton.mp hc]
    have hsz' : h'.objs.size = hp.objs.size + 2 := hsz
    rw [hsz']; exact Nat.lt_add_of_pos_right (by decide)
  · exact Nat.ne_of_lt (Nat.lt_succ_of_lt hL)
  · exact Nat.ne_of_lt hL
  · exact Nat.ne_of_lt (Nat.lt_succ_of_lt (lt p hp'))
  · exact Nat.ne_of_lt (lt p hp')
theorem enumAt_list {l : Addr} {vs : List Value} (hh : A.handled = none) (F : Fr h₀ L s.heap m) (N : News h₀ L s.heap news) (hl : s.heap.IsList l vs.toArray) (hI : IntsAre vs ks) (hs : ∃ hp tk, s = { s₀ with heap := hp, toks := tk }) :
    wpAny (model prog w) A (call (.type "enumerate") [.ref l]) (EnumAt prog w A h₀ L m news ks s₀) E s := by
  obtain ⟨hp, tk, rfl⟩ := hs
  have hl' : hp.IsList l vs.toArray := hl
  have hlt : l < hp.objs.size := by obtain ⟨_, e, _⟩ := hl'; exact Heap.lt_size e
  refine call_enumerate_list hl fun h' he hit hsz hkp => ?_
  have fresh : ∀ c, hp.objs.size ≤ c → h₀.get? c = none := fun c hc => by
    cases q : h₀.get? c with
    | none => rfl
    | some o => exact absurd (Heap.lt_size (F.keep c o q)) (Nat.not_lt.mpr hc)
  have lt : ∀ p ∈ news, p.1 < hp.objs.size := fun p hp' => Heap.lt_size (N p hp').1
  have hL : L < hp.objs.size := F.ns.lt
  refine ⟨hp.objs.size + 1, hp.objs.size, [hp.objs.size, l], fun i h => h.IsListIter hp.objs.size l i ∧ h.IsList l vs.toArray, h', tk, rfl, rfl, draws_list (A := A.in1) hh _ l (Nat.ne_of_lt hlt) hI, Nat.succ_ne_self _, ?_, by simp, fun c hc => ?_, he, ⟨hit, hl'.at fun o q => hkp _ _ q⟩, F.keeps hkp, fun p hp' => ⟨hkp _ _ (N p hp').1, (N p hp').2⟩, fresh _ (Nat.le_succ _), fresh _ (Nat.le_refl _), ?_, ?_, fun p hp' => ⟨?_, ?_⟩⟩
  · intro q
    rcases List.mem_cons.mp q with q | q
    · exact Nat.succ_ne_self _ q
    · exact Nat.ne_of_gt (Nat.lt_succ_of_lt hlt) (List.mem_singleton.mp q)
  · have hsz' : h'.objs.size = hp.objs.size + 2 := hsz
    rw [hsz']
    rcases List.mem_cons.mp hc with rfl | hc
    · exact Nat.lt_add_of_pos_right (by decide)
    · rw [List.mem_singleton.mp hc]; exact Nat.lt_add_right 2 hlt
  · exact Nat.ne_of_lt (Nat.lt_succ_of_lt hL)
  · exact Nat.ne_of_lt hL
  · exact Nat.ne_of_lt (Nat.lt_succ_of_lt (lt p hp'))
  · exact Nat.ne_of_lt (lt p hp')
theorem enum_compF {elt iter : PySem.Expr} {a b : Str} {pa pb tp : Pos} {kk : Nat} {scope : Scope} {cl : List (Str × Addr)} {pos : Pos} {Q : Value → Shared → Prop} (ks : List Int) (g : Nat → Int → Int)
    (_F : Fr h₀ L s.heap m) (_N : News h₀ L s.heap news) (hh : A.handled = none) (hclos : closureFor scope env = pure cl) (hcell : ∀ y ∈ scope.names, y.2 ≠ .cell) (hkind : scope.kind = .function)
    (hnames : ∀ y ∈ scope.names, y.2 = .local → scope.names.lookup y.1 = some .local) (hxa : scope.names.lookup a = some .local) (hxb : scope.names.lookup b = some .local) (hab : a ≠ b) (hz : ks.length ≤ 1000)
    (h : wpAny (model prog w) A (eval iter env) (EnumAt prog w A h₀ L m news ks s) E s)
    (helt : ∀ (i : Nat) (k : Int) (u v : Tok) (C : Addr) (m₂ : Str → Option Value) (s' : Shared) (E' : Value → Shared → Prop), ks[i]? = some k → s'.heap.Ns C m₂ → m₂ a = some (.int i u) → m₂ b = some (.int k v) →
      wpAny (model prog w) A (eval elt (compEnvC scope cl C env)) (fun y s'' => ∃ t tk, y = .int (g i k) t ∧ s'' = { s' with toks := tk }) E' s')
    (hQ : ∀ D ys h' tk, Fr h₀ L h' m → News h₀ L h' ((D, LCg.lst ys) :: news) → (∀ p ∈ news, p.1 < D) → IntsAre ys (ks.zipIdx.map fun p => g p.2 p.1) → Q (.ref D) { s with heap := h', toks := tk })
    (hs : ∀ x, foldedSetIterable iter env x = pure x := by intro _; rfl) :
    wpAny (model prog w) A (eval (.ListComp elt [⟨.Tuple [.Name a pa, .Name b pb] kk tp, iter, [], 0⟩] scope pos) env) Q E s :=
  enum_comp hh hclos hcell hkind hnames hxa hxb hab hz h helt hQ hs
end
end Mine
end

section
open PySem PySem.W PyProof.Rows PySem.Calls PySem.Spec PyProof.V
namespace Mine
section
variable {prog : Program} {w : World} {A : Around} {E : Value → Shared → Prop} {s s₀ : Shared} {h₀ : Heap} {L : Addr} {m : Str → Option Value} {env : Env} {news : List (Addr × Obj)}
/-- an iterator over n items stands at it, ready to be walked -/
def IterAt (prog : Program) (w : World) (A : Around) (h₀ : Heap) (L : Addr) (m : Str → Option Value) (news : List (Addr × Obj)) (n : Nat) (P : Nat → Value → Prop) (s : Shared) (it : Value) (s₁ : Shared) : Prop :=
  ∃ (I : Addr) (fp : List Addr) (St : Nat → Heap → Prop) (hp : Heap) (tk : Nat), it = .ref I ∧ s₁ = { s with heap := hp, toks := tk } ∧ Walks prog w A I fp [I] n P St ∧ I < hp.objs.size ∧ (∀ c ∈ fp, c < hp.objs.size) ∧ St 0 hp ∧
    Fr h₀ L hp m ∧ News h₀ L hp news ∧ h₀.get? I = none ∧ L ≠ I ∧ ∀ p ∈ news, p.1 ≠ I
theorem name_comp {elt iter : PySem.Expr} {x : Str} {px : Pos} {scope : Scope} {cl : List (Str × Addr)} {pos : Pos} {Q : Value → Shared → Prop} (n : Nat) (P : Nat → Value → Prop) (G : Nat → Value → Prop)
    (_F : Fr h₀ L s.heap m) (_N : News h₀ L s.heap news) (hclos : closureFor scope env = pure cl) (hcell : ∀ y ∈ scope.names, y.2 ≠ .cell) (hkind : scope.kind = .function)
    (hnames : ∀ y ∈ scope.names, y.2 = .local → scope.names.lookup y.1 = some .local) (hx : scope.names.lookup x = some .local) (hz : n ≤ 2000)
    (h : wpAny (model prog w) A (eval iter env) (fun xv s₁ => wpAny (model prog w) A (pyIter xv) (IterAt prog w A h₀ L m news n P s) E s₁) E s)
    (helt : ∀ (i : Nat) (v : Value) (C : Addr) (m₂ : Str → Option Value) (s' : Shared) (E' : Value → Shared → Prop), i < n → P i v → s'.heap.Ns C m₂ → m₂ x = some v → (∀ p ∈ news, s'.heap.get? p.1 = some p.2) → (∀ c o, h₀.get? c = some o → s'.heap.get? c = some o) →
      wpAny (model prog w) A (eval elt (compEnvC scope cl C env)) (fun y s'' => G i y ∧ ∃ hp tk, s'' = { s' with heap := hp, toks := tk } ∧ ∀ c o, s'.heap.get? c = some o → hp.get? c = some o) E' s')
    (hQ : ∀ D ys h' tk, Fr h₀ L h' m → News h₀ L h' ((D, LCg.lst ys) :: news) → (∀ p ∈ news, p.1 < D) → ys.length = n → (∀ i y, ys[i]? = some y → G i y) → Q (.ref D) { s with heap := h', toks := tk })
    (hs : ∀ x, foldedSetIterable iter env x = pure x := by intro _; rfl) :
    wpAny (model prog w) A (eval (.ListComp elt [⟨.Name x px, iter, [], 0⟩] scope pos) env) Q E s := by
  rw [eval_ListComp]
  refine wpAny_comprehension_free (use := none) rfl hs hclos hkind hnames (wpAny_mono h (fun xv s₁ h₁ => wpAny_mono h₁ (fun it s₂ h₂ => ?_) fun _ _ e => e) fun _ _ e => e)
  obtain ⟨I, fp, St, hp, tk₁, rfl, rfl, W, hIlt, hlt, hst, F, N, hI0, hLI, hoff⟩ := h₂
  refine wpAny_newObj_type (wpAny_newFunctionEnv hcell (by intro y hy; simp at hy) (fun h₁ hns₁ hsb₁ => ?_) hkind)
  dsimp only at hns₁ hsb₁ ⊢
  generalize hH2 : hp.push { cls := .type "list", dict := none, data := .seq ([] : List Value).toArray } = H2 at hns₁ hsb₁ ⊢
  have hC : H2.objs.size = hp.objs.size + 1 := by rw [← hH2, Heap.size_push]
  have hDC : hp.objs.size ≠ H2.objs.size := by rw [hC]; exact Nat.ne_of_lt (Nat.lt_succ_self _)
  have below : ∀ c, c < hp.objs.size → c ≠ H2.objs.size ∧ c ≠ hp.objs.size := fun c hb => ⟨by rw [hC]; exact Nat.ne_of_lt (Nat.lt_succ_of_lt hb), Nat.ne_of_lt hb⟩
  have old : ∀ c o, hp.get? c = some o → h₁.get? c = some o := fun c o e => hsb₁.extBut c o (below c (Heap.lt_size e)).1 (Heap.get?_push_of_some _ (hH2 ▸ Heap.get?_push_of_some _ e))
  have hacc : h₁.get? hp.objs.size = some (LCg.lst []) := hsb₁.extBut _ _ hDC (Heap.get?_push_of_some _ (hH2 ▸ Heap.get?_push_size _ rfl))
  have fresh : ∀ c, hp.objs.size ≤ c → h₀.get? c = none := fun c hc => by
    cases q : h₀.get? c with
    | none => rfl
    | some o => exact absurd (Heap.lt_size (F.keep c o q)) (Nat.not_lt.mpr hc)
  have hLlt : L < hp.objs.size := F.ns.lt
  have nI : ∀ c, c ≠ I → c ∉ [I] := fun c hc => by simpa using hc
  have loop : codeAny (model prog w) A (.compLoop (.ListComp elt [⟨.Name x px, iter, [], 0⟩] scope pos) 0 (.ref I) (.ref hp.objs.size) (compEnvC scope cl H2.objs.size env))
      (compPost (model prog w) A E none Q (.ref hp.objs.size) H2.objs.size) { s with heap := h₁, toks := tk₁ + ([] : List (Str × Value)).length } := by
    refine kcp_loop
      (fun k s' => ∃ h' tk i ys m', s' = { s with heap := h', toks := tk } ∧ i ≤ n ∧ k = n + 1 - i ∧ ys.length = i ∧ St i h' ∧ h'.Ns H2.objs.size m' ∧
        h'.get? hp.objs.size = some (LCg.lst ys) ∧ (∀ j y, ys[j]? = some y → G j y) ∧
        (∀ c o, c ≠ I → hp.get? c = some o → h'.get? c = some o)) ?_ (n + 1)
      ⟨h₁, _, 0, [], _, rfl, Nat.zero_le _, rfl, rfl, W.frame _ _ _ hst fun c _ o q => old c o q, hns₁, hacc, fun j y hy => by simp at hy, fun c o _ q => old c o q⟩
    rintro k s' ⟨h', tk, i, ys, m', rfl, hi, rfl, hyl, hSt, hn', hD', hG, hkeep⟩
    by_cases hil : i < n
    · refine W.item i _ _ _ hil hSt fun v h₂ tk₂ hPv hSt₂ hk₂ => ?_
      refine wpAny_pure ?_
      have up : ∀ c o, c ≠ I → h'.get? c = some o → h₂.get? c = some o := fun c o hc q => hk₂ c o (nI c hc) q
      refine wpAny_assign_Name (wpAny_storeName_local (lookup_relabel_local hx) (hn'.at' fun o q => up _ o (Ne.symm (below I hIlt).1) q) (fun h₃ hn₃ hs₃ => ?_) (by simp [compEnvC, relabel, hkind]))
      have up3 : ∀ c o, c ≠ I → c ≠ H2.objs.size → h'.get? c = some o → h₃.get? c = some o := fun c o h1 h2 q => hs₃.extBut c o h2 (up c o h1 q)
      refine wpAny_mono (helt i v H2.objs.size _ _ _ hil hPv hn₃ (by simp) (fun p hp' => up3 _ _ (hoff p hp') (below _ (Heap.lt_size (N p hp').1)).1 (hkeep _ _ (hoff p hp') (N p hp').1))
        (fun c o q => up3 c o (fun z => by rw [z, hI0] at q; cases q) (below c (Heap.lt_size (F.keep c o q))).1 (hkeep c o (fun z => by rw [z, hI0] at q; cases q) (F.keep c o q)))) (fun y s₅ h₅ => ?_) fun _ _ q => q
      obtain ⟨hGy, h₄, tk₄, rfl, hk₄⟩ := h₅
      have hD₄ : h₄.get? hp.objs.size = some (LCg.lst ys) := hk₄ _ _ (up3 _ _ (Ne.symm (below I hIlt).2) hDC hD')
      refine append_at (hsz := by show ys.toArray.size ≤ sizeLine; rw [List.size_toArray, sizeLine_eq]; omega) hD₄ fun h₅ hs₅ hD₅ => ?_
      refine ⟨n + 1 - (i + 1), by omega, h₅, tk₄, i + 1, ys ++ [y], _, rfl, hil, rfl, by simp [hyl], ?_, (hn₃.at' fun o q => hk₄ _ o q).sameBut hs₅ (Ne.symm hDC), hD₅.trans (congrArg some (LCg.lst_snoc ys _)), ?_, ?_⟩
      · refine W.frame _ _ _ hSt₂ fun c hc o q => ?_
        have hcl := hlt c hc
        exact hs₅.extBut c o (below c hcl).2 (hk₄ _ _ (hs₃.extBut c o (below c hcl).1 q))
      · intro j z hz'
        by_cases hj : j < ys.length
        · rw [List.getElem?_append_left hj] at hz'
          exact hG j z hz'
        · rw [List.getElem?_append_right (by omega)] at hz'
          have hj' : j = i := by
            have := (List.getElem?_eq_some_iff.mp hz').1
            simp at this; omega
          subst hj'
          rw [hyl, Nat.sub_self] at hz'
          simp at hz'
          subst hz'
          exact hGy
      · intro c o hcI q
        have hcl := Heap.lt_size q
        exact hs₅.extBut c o (below c hcl).2 (hk₄ _ _ (up3 c o hcI (below c hcl).1 (hkeep c o hcI q)))
    · obtain rfl : i = n := Nat.le_antisymm hi (Nat.not_lt.mp hil)
      refine W.done _ _ _ hSt fun h₂ tk₂ hk₂ => ?_
      refine ⟨m', hn'.at' fun o q => hk₂ _ o (nI _ (Ne.symm (below I hIlt).1)) q, fun h₃ hs₃ => ?_⟩
      have kp : ∀ c o, c ≠ I → hp.get? c = some o → h₃.get? c = some o := fun c o hcI q =>
        hs₃.extBut c o (below c (Heap.lt_size q)).1 (hk₂ c o (nI c hcI) (hkeep c o hcI q))
      have hD₃ : h₃.get? hp.objs.size = some (LCg.lst ys) := hs₃.extBut _ _ hDC (hk₂ _ _ (nI _ (Ne.symm (below I hIlt).2)) hD')
      refine hQ hp.objs.size ys h₃ tk₂ ⟨F.ns.at' fun o q => kp L o hLI q, fun c o q => kp c o (fun z => by rw [z, hI0] at q; cases q) (F.keep c o q), F.above⟩ (fun p hp' => ?_) (fun p hp' => Heap.lt_size (N p hp').1) hyl hG
      rcases List.mem_cons.mp hp' with rfl | hp'
      · exact ⟨hD₃, Nat.ne_of_gt hLlt, fresh _ (Nat.le_refl _)⟩
      · exact ⟨kp _ _ (hoff p hp') (N p hp').1, (N p hp').2⟩
  exact codeAny_compStart_list loop (W.self 0 _ _ _ (W.frame _ _ _ hst fun c _ o q => old c o q) loop)
theorem iterAt_range {r : Addr} {a b : Int} {t u v : Tok} {n : Nat} (hh : A.handled = none) (F : Fr h₀ L s.heap m) (N : News h₀ L s.heap news) (hr : IsRange s.heap r a b 1 t u v) (hsmall : Builtin.Range.small a b 1 = true) (hn : Builtin.Range.rangeSize a b 1 = (n : Int)) (hs : ∃ hp tk, s = { s₀ with heap := hp, toks := tk }) :
    wpAny (model prog w) A (pyIter (.ref r)) (IterAt prog w A h₀ L m news n (fun i v => ∃ t, v = .int (a + (i : Int)) t) s₀) E s := by
  obtain ⟨hp, tk, rfl⟩ := hs
  refine wpAny_pyIter_range hr hsmall ?_
  have W := Walks.range (prog := prog) (w := w) hh hp.objs.size a 1 n
  have fresh : ∀ c, hp.objs.size ≤ c → h₀.get? c = none := fun c hc => by
    cases q : h₀.get? c with
    | none => rfl
    | some o => exact absurd (Heap.lt_size (F.keep c o q)) (Nat.not_lt.mpr hc)
  simp only [Int.mul_one] at W
  refine ⟨hp.objs.size, [hp.objs.size], _, _, tk, rfl, rfl, W, ?_, fun c hc => ?_, ?_, F.push _, fun p hp' => ⟨Heap.get?_push_of_some _ (N p hp').1, (N p hp').2⟩, fresh _ (Nat.le_refl _), Nat.ne_of_lt F.ns.lt, fun p hp' => Nat.ne_of_lt (Heap.lt_size (N p hp').1)⟩
  · rw [Heap.size_push]; exact Nat.lt_succ_self _
  · rw [List.mem_singleton.mp hc, Heap.size_push]; exact Nat.lt_succ_self _
  · show IsRangeIter _ _ _ _ _
    rw [hn]; simpa using Heap.get?_push_size _ rfl
theorem iterAt_list {l : Addr} {vs : List Value} (hh : A.handled = none) (F : Fr h₀ L s.heap m) (N : News h₀ L s.heap news) (hl : s.heap.IsList l vs.toArray) (hs : ∃ hp tk, s = { s₀ with heap := hp, toks := tk }) :
    wpAny (model prog w) A (pyIter (.ref l)) (IterAt prog w A h₀ L m news vs.length (fun i v => vs[i]? = some v) s₀) E s := by
  obtain ⟨hp, tk, rfl⟩ := hs
  have hl' : hp.IsList l vs.toArray := hl
  have hlt : l < hp.objs.size := by obtain ⟨_, e, _⟩ := hl'; exact Heap.lt_size e
  refine wpAny_pyIter_list hl ?_
  have W := Walks.list (prog := prog) (w := w) hh hp.objs.size l (Nat.ne_of_lt hlt) vs.toArray
  have fresh : ∀ c, hp.objs.size ≤ c → h₀.get? c = none := fun c hc => by
    cases q : h₀.get? c with
    | none => rfl
    | some o => exact absurd (Heap.lt_size (F.keep c o q)) (Nat.not_lt.mpr hc)
  simp only [List.size_toArray, List.getElem?_toArray] at W
  refine ⟨hp.objs.size, [hp.objs.size, l], _, _, tk, rfl, rfl, W, ?_, fun c hc => ?_, ⟨⟨_, Heap.get?_push_size _ rfl, rfl, rfl⟩, hl'.push _⟩, F.push _, fun p hp' => ⟨Heap.get?_push_of_some _ (N p hp').1, (N p hp').2⟩, fresh _ (Nat.le_refl _), Nat.ne_of_lt F.ns.lt, fun p hp' => Nat.ne_of_lt (Heap.lt_size (N p hp').1)⟩
  · rw [Heap.size_push]; exact Nat.lt_succ_self _
  · rw [Heap.size_push]
    rcases List.mem_cons.mp hc with rfl | hc
    · exact Nat.lt_succ_self _
    · rw [List.mem_singleton.mp hc]; exact Nat.lt_succ_of_lt hlt
end
end Mine
end

section
open PySem PySem.W PyProof.Rows PySem.Calls PySem.Spec PyProof.V
namespace Mine
section
variable {prog : Program} {w : World} {A : Around} {E : Value → Shared → Prop} {s : Shared} {h₀ : Heap} {L : Addr} {m : Str → Option Value} {news news' : List (Addr × Obj)}
theorem look_list : typeLookup (.type "list") (dunderI "add") = pure (some (.builtin "list.__iadd__")) := by rw [typeLookup_type, builtinLookup_eq_fast]; kernel_rfl
theorem fi_list : fillsInplaceSlot (.type "list") "add" (Operator.Add == .Add) = pure false := by
  unfold fillsInplaceSlot
  show (typeLookup (.type "list") (dunderI "add") >>= fun fi => pure (fi.isSome && !isSeqSlot fi)) = pure false
  rw [look_list]; kernel_rfl
theorem sq_list : seqSlot? (.type "list") (dunderI "add") = pure (some (.builtin "list.__iadd__")) := by
  unfold seqSlot?
  rw [look_list]; kernel_rfl
theorem inplace_list {a b : Value} {Q : Value → Shared → Prop} {M : Model} (ha : s.TypeIs a "list") (hb : s.TypeIs b "list")
    (hc : wpAny M A (call (.builtin "list.__iadd__") [a, b]) Q E s) : wpAny M A (inplaceOp .Add a b) Q E s := by
  unfold inplaceOp
  refine wpAny_holding ?_
  refine wpAny_bind (wpAny_typeOf ha (wpAny_bind (wpAny_of_eq fi_list ?_)))
  show wpAny M A (if false = true then _ else _) Q E s
  rw [if_neg Bool.false_ne_true]
  refine wpAny_bind (wpAny_binaryOp1_none (nm := "add") ha hb (by first | exact noFill_list_add | exact PySem.noFill_list_add | kernel_rfl) ?_)
  refine wpAny_bind (wpAny_of_eq sq_list ?_)
  exact wpAny_bind (wpAny_rule hc)
theorem iadd_K {l D : Addr} {its its2 : Array Value} {n n2 : Nat} {Q : Value → Shared → Prop} (F : Fr h₀ L s.heap m) (N : News h₀ L s.heap news) (hb : (D, listOf its2 n2) ∈ news) (hne : 0 < its2.size) (hz : its.size + its2.size ≤ 5000)
    (U : Upd l (listOf its n) (listOf (its ++ its2) (n + 1)) news news') (h : ∀ h', Fr h₀ L h' m → News h₀ L h' news' → Q (.ref l) { s with heap := h' }) : wpAny (model prog w) A (inplaceOp .Add (.ref l) (.ref D)) Q E s := by
  have zb := (N _ hb).1
  obtain ⟨pre, post, rfl, rfl, a, c⟩ := U.split
  have z := N (l, listOf its n) (List.mem_append.mpr (.inr (.head _)))
  have e : Obj.mapSeq (fun x => x ++ its2) (listOf its n) = listOf (its ++ its2) (n + 1) := by
    show (⟨_, _, .seq (its ++ its2) (if (its ++ its2).size == its.size then n else n + 1), _⟩ : Obj) = _
    rw [if_neg (by intro h9; have h8 := beq_iff_eq.mp h9; rw [Array.size_append] at h8; omega)]
  obtain ⟨F', N'⟩ := news_upd F N a c e rfl
  refine inplace_list ⟨_, z.1, rfl⟩ ⟨_, zb, rfl⟩ (call_meets PySem.F.slot_list_iadd ⟨_, z.1, rfl⟩ PySem.F.entry_list_iadd (PySem.F.args_list_iadd_2 _ _)
    (PySem.AutoSeq1.list___iadd___list_list_0 l its n D its2 n2 ?_ (by rw [sizeLine_eq]; omega) (by rw [sizeLine_eq]; omega)) ⟨z.1, zb, h _ F' N'⟩)
  have : Builtin.List.listTooLong (its.size + its2.size) = false := by
    unfold Builtin.List.listTooLong
    rw [sizeLine_eq]; exact decide_eq_false (by omega)
  rw [this]; simp
end
end Mine
end

section
open PySem PySem.W PyProof.Rows PySem.Calls PySem.Spec
namespace Mine
/-- a def of the text that hands back a new list of ints -/
def ConL (w : World) (dp un : Nat) (f : Addr) (args : Args) (Pre : Heap → Prop) (zs : List Int) : Prop :=
  ∀ (mean : ExcName → Option Value) (mg mb : Str → Option Value) (gd : Option (List Code)) (env : Env) (outer : List Env) (A₀ : Around) (base h₀ : Heap) (L : Addr) (m : Str → Option Value) (s : Shared) (R : Result → Shared → Prop),
    Below A₀ base outer h₀ → Fr h₀ L s.heap m → (hd.heap_39 w.params).In h₀ → Top hd.view_39 lse mean mg mb h₀ → env.frame = some L → env.scope.kind = .function → Pre s.heap →
    (∀ l vs nn h' tk', Fr h₀ L h' m → (∀ b o, s.heap.get? b = some o → h'.get? b = some o) → s.heap.objs.size ≤ l → h'.get? l = some (listOf vs.toArray nn) → IntsAre vs zs → R (.ok (.ret (.ref l))) { s with heap := h', toks := tk' }) →
    codeAny (model prg w) { handled := none, depth := dp, frames := some (env :: outer), guards := gd, units := un } (.call (.ref f) args) R s
theorem conL_use {w : World} {dp un : Nat} {f : Addr} {pos : List Value} {Pre : Heap → Prop} {zs : List Int} (C : ConL w dp un f ⟨pos, []⟩ Pre zs)
    {mean : ExcName → Option Value} {mg mb : Str → Option Value} {env : Env} {outer : List Env} {A A₀ : Around} {base h₀ : Heap} {L : Addr} {m : Str → Option Value} {news : List (Addr × Obj)} {s : Shared} {Q E : Value → Shared → Prop}
    (B : Below A₀ base outer h₀) (F : Fr h₀ L s.heap m) (X : (hd.heap_39 w.params).In h₀) (N : News h₀ L s.heap news) (T : Top hd.view_39 lse mean mg mb h₀)
    (hA : A.frames = some (env :: outer)) (hh : A.handled = none) (hf : env.frame = some L) (hk : env.scope.kind = .function) (hd : A.depth ≤ dp) (hu : A.units ≤ un) (hp : Pre s.heap)
    (h : ∀ l vs nn h' tk', Fr h₀ L h' m → News h₀ L h' ((l, listOf vs.toArray nn) :: news) → (∀ p ∈ news, p.1 < l) → IntsAre vs zs → Q (.ref l) { s with heap := h', toks := tk' }) :
    wpAny (model prg w) A (call (.ref f) pos []) Q E s := by
  obtain ⟨hd0, d, fr, gs, u⟩ := A
  have e1 : hd0 = none := hh
  have e2 : fr = some (env :: outer) := hA
  subst e1 e2
  refine wpAny_call (codeAny_le (d := dp) (u := un) ?_ hd hu)
  refine C mean mg mb gs env outer A₀ base h₀ L m s _ B F X T hf hk hp fun l vs nn h' tk' F' st hl ho hI => h l vs nn h' tk' F' (fun p hp => ?_) (fun p hp => Nat.lt_of_lt_of_le (Heap.lt_size (N p hp).1) hl) hI
  rcases List.mem_cons.mp hp with rfl | hp
  · refine ⟨ho, Nat.ne_of_gt (Nat.lt_of_lt_of_le F.ns.lt hl), ?_⟩
    cases q : h₀.get? l with
    | none => rfl
    | some o => exact absurd (Heap.lt_size (F.keep _ _ q)) (Nat.not_lt.mpr hl)
  · exact ⟨st _ _ (N p hp).1, (N p hp).2⟩
end Mine
end

section
open PySem PySem.W PyProof.Rows PySem.Calls PySem.Spec
open PySem.Builtin PySem.Builtin._codecs
namespace Mine
theorem fold_bytes (x : Array Nat) : ∀ (acc : Array UInt8), x.foldl (fun acc y => acc ++ (asciiCodec.bytesOf y).toArray) acc = acc ++ x.map (·.toUInt8) := by
  intro acc
  obtain ⟨l⟩ := x
  simp only [List.foldl_toArray', List.map_toArray, asciiCodec]
  induction l generalizing acc with
  | nil => simp
  | cons a r ih => simp only [List.foldl_cons, List.map_cons]; rw [ih]; apply Array.ext'; simp
theorem for_two {α σ : Type} {init mid : σ} {f : α → σ → Sem (ForInStep σ)} : ∀ (l : List α), l ≠ [] → (∀ a, f a init = pure (.yield mid)) → (∀ a, f a mid = pure (.done mid)) → forIn l init f = pure mid
  | [], h, _, _ => absurd rfl h
  | [a], _, h1, _ => by rw [List.forIn_cons, h1]; rfl
  | a :: b :: r, _, h1, h2 => by rw [List.forIn_cons, h1]; show forIn (b :: r) mid f = _; rw [List.forIn_cons, h2]; rfl
theorem narrow_ascii {M : Model} {A : Around} {E : Value → Shared → Prop} {s : Shared} {id : String} {self : Value} {x : Str} {Q : Array UInt8 → Shared → Prop} (hx : ∀ c ∈ x.cps, c < 128) (hz : x.cps.size ≤ 5000)
    (h : Q (x.cps.map (·.toUInt8)) s) : wpAny M A (encodeNarrow id asciiCodec none self x) Q E s := by
  unfold encodeNarrow
  dsimp only
  rw [Std.Legacy.Range.forIn_eq_forIn_range']
  have hbad : ∀ c ∈ x.cps, asciiCodec.bad c = false := fun c hc => decide_eq_false (by have := hx c hc; omega)
  have hfi : Array.findIdx? asciiCodec.bad x.cps = none := by
    rw [Array.findIdx?_eq_none_iff]; exact hbad
  have hex : x.cps.extract 0 = x.cps := by simp
  have hlen : [:x.length].size = x.cps.size := by simp [Std.Legacy.Range.size, Str.length]
  by_cases h0 : x.cps.size = 0
  · have e0 : x.cps = #[] := Array.eq_empty_of_size_eq_zero h0
    refine wpAny_bind (wpAny_of_eq (a := (0, #[], ({} : Faults))) ?_ ?_)
    · rw [hlen, h0]; rfl
    · rw [e0] at h; exact wpAny_pure (by simpa using h)
  · refine wpAny_bind (wpAny_of_eq (a := (x.cps.size, x.cps.map (·.toUInt8), ({} : Faults))) ?_ (wpAny_pure h))
    refine for_two _ ?_ ?_ ?_
    · intro q; have q2 := congrArg List.length q; rw [List.length_range', hlen] at q2; exact h0 q2
    · intro a
      dsimp only
      have hs : x.cps[0]? = some x.cps[0] := by simp [Nat.pos_of_ne_zero h0]
      rw [if_neg (by simp), hs]
      dsimp only
      rw [hbad _ (Array.getElem_mem _)]
      simp only [Bool.not_false, if_true, hex, hfi, Option.getD_none, Nat.zero_add]
      rw [fold_bytes]
      simp
    · intro a
      dsimp only
      rw [if_neg (by rw [sizeLine_eq]; simp; omega), show x.cps[x.cps.size]? = none from by simp]
/-- x.encode('ascii') of a text of plain signs -/
theorem encode_ascii {prog : Program} {w : World} {A : Around} {E : Value → Shared → Prop} {s : Shared} {x : Str} {t u : Tok} {Q : Value → Shared → Prop} (hx : ∀ c ∈ x.cps, c < 128) (hz : x.cps.size ≤ 5000)
    (h : ∀ t' k, Q (.bytes (x.cps.map (·.toUInt8)) t') { s with toks := k }) : wpAny (model prog w) A (call (.builtin "str.encode") [.str x t, .str (Str.ofString "ascii") u]) Q E s := by
  refine wpAny_call_entry PySem.F.slot_str_encode rfl PySem.F.entry_str_encode ?_ (PySem.F.args_str_encode_2 _ _)
  have e : Builtin.«str.encode» ⟨[.str x t, .str (Str.ofString "ascii") u], []⟩ = (do
      let encoding := (← Builtin.Str.codecArg "str.encode" "encode" "'encoding'" (some (.str (Str.ofString "ascii") u))).getD "utf-8"
      let errors ← Builtin.Str.codecArg "str.encode" "encode" "'errors'" none
      ret (← encodeRoad "str.encode" (.str x t) x encoding errors)) := rfl
  rw [e]
  have hc : Builtin.Str.codecArg "str.encode" "encode" "'encoding'" (some (.str (Str.ofString "ascii") u)) = pure (some (Str.ofString "ascii")) := by
    unfold Builtin.Str.codecArg
    have h1 : (Str.ofString "ascii").cps.any (· ≥ 128) = false := by decide +kernel
    have h2 : (Str.ofString "ascii").cps.contains 0 = false := by decide +kernel
    show (if (Str.ofString "ascii").cps.any (· ≥ 128) = true then _ else _) = _
    rw [h1]
    show (if (Str.ofString "ascii").cps.contains 0 = true then _ else _) = _
    rw [h2]
    rfl
  rw [hc]
  show wpAny _ _ (do ret (← encodeRoad "str.encode" (.str x t) x (Str.ofString "ascii") none)) _ _ _
  refine wpAny_bind ?_
  have e2 : encodeRoad "str.encode" (.str x t) x (Str.ofString "ascii") none = (do mkBytes (← encodeNarrow "str.encode" asciiCodec none (.str x t) x)) := by
    first | rfl | (unfold encodeRoad; rfl)
  rw [e2]
  refine wpAny_bind (narrow_ascii hx hz ?_)
  refine wpAny_mkBytes ?_ (by rw [sizeLine_eq]; simp; omega)
  exact wpAny_pure ⟨_, rfl, h _ _⟩
theorem encode_method {pl : Sem Bool} {x : PySem.Str} {t : Tok} {A : Around} {E : Value → Shared → Prop} {s : Shared} {Q : Value × List Value → Shared → Prop} {M : Model} (h : Q (.builtin "str.encode", [.str x t]) s) : wpAny M A (getMethod (.str x t) "encode" pl) Q E s := by
  with_reducible exact GM.of (.str x t) (typeIs_str _ _ _) PySem.F.slot_str_encode PySem.F.type_str_encode GM.noRef h
end Mine
end

section
open PySem PySem.W PyProof.Rows PySem.Calls PySem.Spec
namespace Mine
local macro_rules | `(tactic| walk_at "call type:type") => `(tactic| ((with_reducible show wpAny _ _ (call _ [Value.bytes _ _]) _ _ _); refine PySem.call_type_of (Tx := "bytes") rfl (by decide +kernel) ?_))
local macro_rules | `(tactic| walk_at "subscriptTail") => `(tactic| ((with_reducible show wpAny _ _ (subscriptTail _ _ (Value.bytes _ _) (Value.int _ _)) _ _ _); (refine b64_item (by first | exact and63 _ | exact sh16 _ | exact sh4 _) ?_ ?_ ?_); rotate_left; (with_unfolding_all rfl); (intro _; with_unfolding_all rfl); intro _ _))
local macro_rules | `(tactic| walk_at "ite") => `(tactic| ((with_reducible show ite (decide (0 < _ + List.length [_]) = true) _ _); (with_reducible refine ite_pos (by (simp only [List.length_append, List.length_cons, List.length_nil, decide_eq_true_eq]; omega)) ?_)))
local macro_rules | `(tactic| walk_at "mine ne") => `(tactic| first | exact ch1 (by assumption) | exact ch2 (by assumption) | exact ch3 (by assumption) | exact ch4 (by assumption) | exact ch5 (by assumption) | exact ch6 (by assumption) | exact ch7 (by assumption) | exact ch8 (by assumption) | exact ch9 (by assumption) | exact ch10 (by assumption) | exact ch11 (by assumption) | exact ch12 (by assumption) | exact ce1 (by assumption) | exact ce2 (by assumption) | exact ce3 (by assumption) | exact ce4 (by assumption) | exact ce5 (by assumption) | exact ce6 (by assumption) | exact ce7 (by assumption) | exact ce8 (by assumption) | exact ce9 (by assumption) | exact ce10 (by assumption) | exact ce11 (by assumption) | exact ce12 (by assumption))
local macro_rules | `(tactic| k_ne) => `(tactic| (refine neN ?_; (try dsimp only); first | walk_at "mine ne" | (refine Ne.symm ?_; walk_at "mine ne") | omega))

section
theorem bv1 {c : Int} (h1 : 65 ≤ c) (h2 : c ≤ 90) : c - 65 = b64v c := by unfold b64v; rw [if_pos ⟨h1, h2⟩]
theorem bv2 {c : Int} (h1 : 97 ≤ c) (h2 : c ≤ 122) : c - 71 = b64v c := by unfold b64v; rw [if_neg (by omega), if_pos ⟨h1, h2⟩]
theorem bv3 {c : Int} (h1 : 48 ≤ c) (h2 : c ≤ 57) : c + 4 = b64v c := by unfold b64v; rw [if_neg (by omega), if_neg (by omega), if_pos ⟨h1, h2⟩]
theorem bv4 {c : Int} (h : c = 43) : 62 = b64v c := by subst h; rfl
theorem bv5 {c : Int} (h : c = 47) : 63 = b64v c := by subst h; rfl
theorem bvn {P Q : Prop} (h : ¬ P ∨ ¬ Q) : ¬ (P ∧ Q) := fun k => h.elim (fun f => f k.1) (fun f => f k.2)
theorem bv6 {c : Int} (h1 : ¬ 65 ≤ c ∨ ¬ c ≤ 90) (h2 : ¬ 97 ≤ c ∨ ¬ c ≤ 122) (h3 : ¬ 48 ≤ c ∨ ¬ c ≤ 57) (h4 : ¬ c = 43) (h5 : ¬ c = 47) : 64 = b64v c := by
  unfold b64v; rw [if_neg (bvn h1), if_neg (bvn h2), if_neg (bvn h3), if_neg h4, if_neg h5]
theorem val_con (w : World) (c : Int) (t : Tok) : Con w 600 4000 62 ⟨[.int c t], []⟩ (fun _ => True) (fun _ r => ∃ t', r = .int (b64v c) t') := by
  w_on
  unfold Con prg
  k_fill
  intro mean mg mb gd env outer A₀ base h₀ L m s R B F X T hef hek hpre hret
  k_dflt ((( refine' code_def0 (by assumption) (by assumption) (by assumption) (by assumption) ?kA (by assumption) (by assumption) ?k6 ?k7 ?k8 ?k9 ?kB ?_ ?c2 ?c3 ?c4 ?c5; (case kA => exact rfl); (case k6 => k_is); (case k7 => k_is); (case k8 => exact Nat.le_of_ble_eq_true rfl); (case k9 => first | exact BindsTo.of_eq rfl | (refine' kp_binds ?kx ?ke; (case kx => k_in); (case ke => exact fun _ => rfl)) | exact binds_K (by k_in) rfl (by k_is) rfl rfl rfl | fail "k_enter: no rule for these arguments"); (case c5 => decide); (case kB => exact locs rfl); (case c2 => exact rfl); (case c3 => exact rfl); (case c4 => exact rfl); intro L' h' F' N' B' X' T'; (try dsimp only))))
  k_fold
  (repeat' ((fail_if_success (with_reducible show wpAny _ _ (exec (Stmt.For _ _ _ _ _) _) _ _ _)); first | (k_unfold; (try dsimp only)) | walk1 | (dsimp only; walk1) | (dsimp only [List.cons_append, List.nil_append]; walk1)))
  all_goals (refine hret _ _ _ (by assumption) (Fr.keep (by assumption)) ⟨_, congrArg (fun x => Value.int x _) ?_⟩; first | exact bv1 (by assumption) (by assumption) | exact bv2 (by assumption) (by assumption) | exact bv3 (by assumption) (by assumption) | exact bv4 (by assumption) | exact bv5 (by assumption) | exact bv6 (by (first | exact .inl (by assumption) | exact .inr (by assumption) | omega)) (by (first | exact .inl (by assumption) | exact .inr (by assumption) | omega)) (by (first | exact .inl (by assumption) | exact .inr (by assumption) | omega)) (by assumption) (by assumption))
theorem val_sg (w : World) {x : Int} (t : Tok) (h0 : 0 ≤ x) (h1 : x < 64) : Con w 600 4000 62 ⟨[.int (sg x) t], []⟩ (fun _ => True) (fun _ r => ∃ t', r = .int x t') :=
  (val_con w (sg x) t).mono (fun _ h => h) fun _ r ⟨t', e⟩ => ⟨t', by rw [e, b64v_sg h0 h1]⟩
end

section
theorem b2a_con (w : World) (b : Array UInt8) (t : Tok) (xs : List Int) (hb : KBw.bInts b = xs) (hz : xs.length ≤ 1000) :
    Con w 500 3000 78 ⟨[.bytes b t], []⟩ (fun _ => True) (fun _ r => ∃ b' t', r = .bytes b' t' ∧ KBw.bInts b' = enc xs ++ [10]) := by
  w_on
  unfold Con prg
  k_fill
  intro mean mg mb gd env outer A₀ base h₀ L m s R B F X T hef hek hpre hret
  k_dflt ((( refine' code_def0 (by assumption) (by assumption) (by assumption) (by assumption) ?kA (by assumption) (by assumption) ?k6 ?k7 ?k8 ?k9 ?kB ?_ ?c2 ?c3 ?c4 ?c5; (case kA => exact rfl); (case k6 => k_is); (case k7 => k_is); (case k8 => exact Nat.le_of_ble_eq_true rfl); (case k9 => first | exact BindsTo.of_eq rfl | (refine' kp_binds ?kx ?ke; (case kx => k_in); (case ke => exact fun _ => rfl)) | exact binds_K (by k_in) rfl (by k_is) rfl rfl rfl | fail "k_enter: no rule for these arguments"); (case c5 => decide); (case kB => exact locs rfl); (case c2 => exact rfl); (case c3 => exact rfl); (case c4 => exact rfl); intro L' h' F' N' B' X' T'; (try dsimp only))))
  k_fold
  (repeat' ((fail_if_success (with_reducible show wpAny _ _ (exec (Stmt.For _ _ _ _ _) _) _ _ _)); (fail_if_success (with_reducible show wpAny _ _ (exec (Stmt.While _ _ _ _) _) _ _ _)); first | (k_unfold; (try dsimp only)) | walk1 | (dsimp only; walk1) | (dsimp only [List.cons_append, List.nil_append]; walk1)))
  (((with_reducible show wpAny _ _ (exec (Stmt.For _ _ _ _ _) _) _ _ _); (rename Fr _ _ _ _ => lF'); (with_unfolding_all refine' For_invVF lF' ?k1 ?k2 ?_; (case k1 => exact rfl); (case k2 => exact rfl); k_whole)))
  walk1
  ((rename Fr _ _ _ _ => lF'); (rename News _ _ _ _ => lN'))
  with_unfolding_all refine' KStb.kst_bytes (σ := Int × Nat × Int × Nat × List Value × List Int × Nat) (fun c => [(_, listOf c.2.2.2.2.1.toArray c.2.2.2.2.2.2)]) (fun c => [(Str.ofString "leftbits", .int c.1 c.2.1), (Str.ofString "leftchar", .int c.2.2.1 c.2.2.2.1)]) (fun c => IntsAre c.2.2.2.2.1 c.2.2.2.2.2.1) [] (fun pre c => B2a pre c.1 c.2.2.1 c.2.2.2.2.2.1) (0, _, 0, _, [], [], _) hb rfl rfl lF' ?kn ?kf ?kk B2a.start ?_ ?_
  case kn => exact lN'
  case kk => kst_all
  case kf => exact .nil
  · clear lF' lN'
    intro ⟨lb, t1, lc, t2, vs, out, nn⟩ pre post n t u h tk own hks hlen hn0 hn1 hoff hI hP F N
    dsimp only [kstB] at F N hI hP hoff
    simp only [List.nil_append, List.cons_append, List.append_nil] at N
    simp only [List.map_cons, List.map_nil] at hoff
    have kMark := kstMark
    (try k_fold)
    obtain ⟨hl0, hl1, hzo, -⟩ := id hP
    have hvl := hI.length
    rcases hP.ways with rfl | rfl | rfl
    · k_with_none
      k_with "state" => exact B2a.turn0 (by assumption) (by assumption) (by assumption) (cut_eq _ (by decide) (by decide))
      (repeat' ((fail_if_success (with_reducible show wpAny _ _ (exec (Stmt.For _ _ _ _ _) _) _ _ _)); first | (k_unfold; (try dsimp only)) | walk1 | (dsimp only; walk1) | (dsimp only [List.cons_append, List.nil_append]; walk1)))
    · k_with_none
      k_with "state" => exact B2a.turn2 (by assumption) (by assumption) (by assumption) (cut_eq _ (by decide) (by decide))
      (repeat' ((fail_if_success (with_reducible show wpAny _ _ (exec (Stmt.For _ _ _ _ _) _) _ _ _)); first | (k_unfold; (try dsimp only)) | walk1 | (dsimp only; walk1) | (dsimp only [List.cons_append, List.nil_append]; walk1)))
    · k_with_none
      k_with "state" => exact B2a.turn4 (by assumption) (by assumption) (by assumption) (cut_eq _ (by decide) (by decide)) ((cut_eq (d := 1) _ (by decide) (by decide)).trans (by rw [Int.ediv_one]; rfl))
      (repeat' ((fail_if_success (with_reducible show wpAny _ _ (exec (Stmt.For _ _ _ _ _) _) _ _ _)); first | (k_unfold; (try dsimp only)) | walk1 | (dsimp only; walk1) | (dsimp only [List.cons_append, List.nil_append]; walk1)))
  · clear lF' lN'
    intro ⟨lb, t1, lc, t2, vs, out, nn⟩ u h tk hlen hI hP F9 N9
    dsimp only [kstB] at F9 N9 hI hP
    obtain ⟨hl0, hl1, hzo, -⟩ := id hP
    have hvl := hI.length
    have hin := hP.isIn
    have h3 := and3 lc
    have h15 := and15 lc
    have kMark := kstMark
    have i61 : KBa.In [61] := in_cons (by decide) in_nil
    have i10 : KBa.In [10] := in_cons (by decide) in_nil
    dsimp only
    (try k_fold)
    rcases hP.ways with rfl | rfl | rfl
    · have hfin := in_app hin i10
      have hend := congrArg (· ++ [10]) hP.end0
      (repeat' ((fail_if_success (with_reducible show wpAny _ _ (exec (Stmt.For _ _ _ _ _) _) _ _ _)); first | (k_unfold; (try dsimp only)) | walk1 | (dsimp only; walk1) | (dsimp only [List.cons_append, List.nil_append]; walk1)))
      (rename News _ _ _ _ => nE'); simp only [List.push_toArray] at nE'
      refine KBa.make_K (by k_asm) nE' rfl (News.isList nE' (by k_mem)) (by k_intsEnd) hfin (by simp only [List.length_append, List.length_cons, List.length_nil]; omega) ?_
      intro h9 t9 k9 F9 N9 _
      (repeat' ((fail_if_success (with_reducible show wpAny _ _ (exec (Stmt.For _ _ _ _ _) _) _ _ _)); first | (k_unfold; (try dsimp only)) | walk1 | (dsimp only; walk1) | (dsimp only [List.cons_append, List.nil_append]; walk1)))
      exact hret _ _ _ (by assumption) (Fr.keep (by assumption)) ⟨_, _, rfl, (KBa.ints_make hfin).trans hend⟩
    · have hfin := in_app (in_app (in_app (in_app hin (in_sg (Builtin.bitAnd lc 3 * 2 ^ Int.toNat 4))) i61) i61) i10
      have hend := congrArg (· ++ [10]) (hP.end2 (i := Builtin.bitAnd lc 3 * 2 ^ Int.toNat 4) (by rw [bitAnd_m2]; rfl))
      (repeat' ((fail_if_success (with_reducible show wpAny _ _ (exec (Stmt.For _ _ _ _ _) _) _ _ _)); first | (k_unfold; (try dsimp only)) | walk1 | (dsimp only; walk1) | (dsimp only [List.cons_append, List.nil_append]; walk1)))
      (rename News _ _ _ _ => nE'); simp only [List.push_toArray] at nE'
      refine KBa.make_K (by k_asm) nE' rfl (News.isList nE' (by k_mem)) (by k_intsEnd) hfin (by simp only [List.length_append, List.length_cons, List.length_nil]; omega) ?_
      intro h9 t9 k9 F9 N9 _
      (repeat' ((fail_if_success (with_reducible show wpAny _ _ (exec (Stmt.For _ _ _ _ _) _) _ _ _)); first | (k_unfold; (try dsimp only)) | walk1 | (dsimp only; walk1) | (dsimp only [List.cons_append, List.nil_append]; walk1)))
      exact hret _ _ _ (by assumption) (Fr.keep (by assumption)) ⟨_, _, rfl, (KBa.ints_make hfin).trans hend⟩
    · have hfin := in_app (in_app (in_app hin (in_sg (Builtin.bitAnd lc 15 * 2 ^ Int.toNat 2))) i61) i10
      have hend := congrArg (· ++ [10]) (hP.end4 (i := Builtin.bitAnd lc 15 * 2 ^ Int.toNat 2) (by rw [bitAnd_m4]; rfl))
      (repeat' ((fail_if_success (with_reducible show wpAny _ _ (exec (Stmt.For _ _ _ _ _) _) _ _ _)); first | (k_unfold; (try dsimp only)) | walk1 | (dsimp only; walk1) | (dsimp only [List.cons_append, List.nil_append]; walk1)))
      (rename News _ _ _ _ => nE'); simp only [List.push_toArray] at nE'
      refine KBa.make_K (by k_asm) nE' rfl (News.isList nE' (by k_mem)) (by k_intsEnd) hfin (by simp only [List.length_append, List.length_cons, List.length_nil]; omega) ?_
      intro h9 t9 k9 F9 N9 _
      (repeat' ((fail_if_success (with_reducible show wpAny _ _ (exec (Stmt.For _ _ _ _ _) _) _ _ _)); first | (k_unfold; (try dsimp only)) | walk1 | (dsimp only; walk1) | (dsimp only [List.cons_append, List.nil_append]; walk1)))
      exact hret _ _ _ (by assumption) (Fr.keep (by assumption)) ⟨_, _, rfl, (KBa.ints_make hfin).trans hend⟩
end

section
theorem a2b_con (w : World) (b : Array UInt8) (t : Tok) (figs : List Int) (k : Nat) (hb : KBw.bInts b = figs.map sg ++ List.replicate k 61) (hf : Fig figs) (hz : figs.length ≤ 1000)
    (hk : (figs.length % 4 = 0 ∧ k = 0) ∨ (figs.length % 4 = 2 ∧ k = 2) ∨ (figs.length % 4 = 3 ∧ k = 1)) :
    Con w 500 3000 70 ⟨[.bytes b t], []⟩ (fun _ => True) (fun _ r => ∃ b' t', r = .bytes b' t' ∧ KBw.bInts b' = dec figs) := by
  w_on
  unfold Con prg
  k_fill
  intro mean mg mb gd env outer A₀ base h₀ L m s R B F X T hef hek hpre hret
  k_dflt ((( refine' code_def0 (by assumption) (by assumption) (by assumption) (by assumption) ?kA (by assumption) (by assumption) ?k6 ?k7 ?k8 ?k9 ?kB ?_ ?c2 ?c3 ?c4 ?c5; (case kA => exact rfl); (case k6 => k_is); (case k7 => k_is); (case k8 => exact Nat.le_of_ble_eq_true rfl); (case k9 => first | exact BindsTo.of_eq rfl | (refine' kp_binds ?kx ?ke; (case kx => k_in); (case ke => exact fun _ => rfl)) | exact binds_K (by k_in) rfl (by k_is) rfl rfl rfl | fail "k_enter: no rule for these arguments"); (case c5 => decide); (case kB => exact locs rfl); (case c2 => exact rfl); (case c3 => exact rfl); (case c4 => exact rfl); intro L' h' F' N' B' X' T'; (try dsimp only))))
  k_fold
  (repeat' ((fail_if_success (with_reducible show wpAny _ _ (exec (Stmt.For _ _ _ _ _) _) _ _ _)); (fail_if_success (with_reducible show wpAny _ _ (exec (Stmt.While _ _ _ _) _) _ _ _)); first | (with_reducible ((with_reducible show wpAny _ _ (call (Value.ref 62) _) _ _ _); k_dflt (refine' con_use (val_sg _ _ ?kx ?ky) ?k1 ?k2 ?k3 ?k4 ?k5 ?k6 ?k7 ?k8 ?k9 ?k10 ?k11 trivial ?_; (case kx => assumption); (case ky => assumption); (( (case k6 => exact rfl); (case k7 => exact rfl); (case k8 => first | exact rfl | assumption); (case k2 => k_asm); (case k4 => k_asm); (case k1 => k_asm); (case k3 => k_asm); (case k5 => k_asm); (case k9 => first | exact rfl | assumption); (case k10 => exact Nat.le_of_ble_eq_true rfl); (case k11 => exact Nat.le_of_ble_eq_true rfl)))); intro r9 h9 tk9 F9 N9 _ e9; obtain ⟨t9, e9⟩ := e9; subst e9; (try k_sweep))) | (k_unfold; (try dsimp only)) | walk1 | (dsimp only; walk1) | (dsimp only [List.cons_append, List.nil_append]; walk1)))
  (((with_reducible show wpAny _ _ (exec (Stmt.For _ _ _ _ _) _) _ _ _); (rename Fr _ _ _ _ => lF'); (with_unfolding_all refine' For_invVF lF' ?k1 ?k2 ?_; (case k1 => exact rfl); (case k2 => exact rfl); k_whole)))
  walk1
  ((rename Fr _ _ _ _ => lF'); (rename News _ _ _ _ => lN'))
  have hlen : (figs.map sg ++ List.replicate k 61).length ≤ 1002 := by simp only [List.length_append, List.length_map, List.length_replicate]; omega
  with_unfolding_all refine' KStb.kst_bytes (σ := Int × Nat × Int × Nat × Int × Nat × Int × Nat × List Value × List Int × Nat) (fun c => [(_, listOf c.2.2.2.2.2.2.2.2.1.toArray c.2.2.2.2.2.2.2.2.2.2)]) (fun c => [(Str.ofString "quad_pos", .int c.1 c.2.1), (Str.ofString "leftchar", .int c.2.2.1 c.2.2.2.1), (Str.ofString "pads", .int c.2.2.2.2.1 c.2.2.2.2.2.1), (Str.ofString "i", .int c.2.2.2.2.2.2.1 c.2.2.2.2.2.2.2.1)]) (fun c => IntsAre c.2.2.2.2.2.2.2.2.1 c.2.2.2.2.2.2.2.2.2.1) [] (fun pre c => A2b figs pre c.1 c.2.2.1 c.2.2.2.2.1 c.2.2.2.2.2.2.2.2.2.1 ∧ c.2.2.2.2.2.2.1 = (pre.length : Int)) (0, _, 0, _, 0, _, 0, _, [], [], _) hb rfl rfl lF' ?kn ?kf ?kk ⟨A2b.start figs, rfl⟩ ?_ ?_
  case kn => exact lN'
  case kk => kst_all
  case kf => exact .nil
  · clear lF' lN'
    intro ⟨qp, t1, lc, t2, pads, t3, ix, t4, vs, out, nn⟩ pre post n t u h tk own hks hlt hn0 hn1 hoff hI hP F N
    dsimp only [kstB] at F N hI hP hoff
    simp only [List.nil_append, List.cons_append, List.append_nil] at N
    simp only [List.map_cons, List.map_nil] at hoff
    have kMark := kstMark
    (try k_fold)
    obtain ⟨hP, hix⟩ := hP
    have hvl := hI.length
    rcases hP.next hf hks with ⟨x, f, g, rfl, hx0, hx1, rfl, hfg, hpre, hff, hzo, hq⟩ | ⟨j, rfl, hpa, hjk, hpre, hzo, hq⟩
    · have hne := sg_ne hx0 hx1
      rcases hq.ways with rfl | rfl | rfl | rfl
      · k_with_none
        k_with "state" => exact ⟨A2b.data hfg hpre (by omega) hq.t0, len_next (by assumption)⟩
        (repeat' ((fail_if_success (with_reducible show wpAny _ _ (exec (Stmt.For _ _ _ _ _) _) _ _ _)); first | (with_reducible ((with_reducible show wpAny _ _ (call (Value.ref 62) _) _ _ _); k_dflt (refine' con_use (val_sg _ _ ?kx ?ky) ?k1 ?k2 ?k3 ?k4 ?k5 ?k6 ?k7 ?k8 ?k9 ?k10 ?k11 trivial ?_; (case kx => assumption); (case ky => assumption); (( (case k6 => exact rfl); (case k7 => exact rfl); (case k8 => first | exact rfl | assumption); (case k2 => k_asm); (case k4 => k_asm); (case k1 => k_asm); (case k3 => k_asm); (case k5 => k_asm); (case k9 => first | exact rfl | assumption); (case k10 => exact Nat.le_of_ble_eq_true rfl); (case k11 => exact Nat.le_of_ble_eq_true rfl)))); intro r9 h9 tk9 F9 N9 _ e9; obtain ⟨t9, e9⟩ := e9; subst e9; (try k_sweep))) | (k_unfold; (try dsimp only)) | walk1 | (dsimp only; walk1) | (dsimp only [List.cons_append, List.nil_append]; walk1)))
      · have hlc := hq.lc hff (by decide)
        k_with_none
        k_with "state" => exact ⟨A2b.data hfg hpre (len_le (by assumption)) (hq.t1 hx0 hx1 rfl rfl), len_next (by assumption)⟩
        (repeat' ((fail_if_success (with_reducible show wpAny _ _ (exec (Stmt.For _ _ _ _ _) _) _ _ _)); first | (with_reducible ((with_reducible show wpAny _ _ (call (Value.ref 62) _) _ _ _); k_dflt (refine' con_use (val_sg _ _ ?kx ?ky) ?k1 ?k2 ?k3 ?k4 ?k5 ?k6 ?k7 ?k8 ?k9 ?k10 ?k11 trivial ?_; (case kx => assumption); (case ky => assumption); (( (case k6 => exact rfl); (case k7 => exact rfl); (case k8 => first | exact rfl | assumption); (case k2 => k_asm); (case k4 => k_asm); (case k1 => k_asm); (case k3 => k_asm); (case k5 => k_asm); (case k9 => first | exact rfl | assumption); (case k10 => exact Nat.le_of_ble_eq_true rfl); (case k11 => exact Nat.le_of_ble_eq_true rfl)))); intro r9 h9 tk9 F9 N9 _ e9; obtain ⟨t9, e9⟩ := e9; subst e9; (try k_sweep))) | (k_unfold; (try dsimp only)) | walk1 | (dsimp only; walk1) | (dsimp only [List.cons_append, List.nil_append]; walk1)))
      · have hlc := hq.lc hff (by decide)
        k_with_none
        k_with "state" => exact ⟨A2b.data hfg hpre (len_le (by assumption)) (hq.t2 hx0 hx1 rfl rfl), len_next (by assumption)⟩
        (repeat' ((fail_if_success (with_reducible show wpAny _ _ (exec (Stmt.For _ _ _ _ _) _) _ _ _)); first | (with_reducible ((with_reducible show wpAny _ _ (call (Value.ref 62) _) _ _ _); k_dflt (refine' con_use (val_sg _ _ ?kx ?ky) ?k1 ?k2 ?k3 ?k4 ?k5 ?k6 ?k7 ?k8 ?k9 ?k10 ?k11 trivial ?_; (case kx => assumption); (case ky => assumption); (( (case k6 => exact rfl); (case k7 => exact rfl); (case k8 => first | exact rfl | assumption); (case k2 => k_asm); (case k4 => k_asm); (case k1 => k_asm); (case k3 => k_asm); (case k5 => k_asm); (case k9 => first | exact rfl | assumption); (case k10 => exact Nat.le_of_ble_eq_true rfl); (case k11 => exact Nat.le_of_ble_eq_true rfl)))); intro r9 h9 tk9 F9 N9 _ e9; obtain ⟨t9, e9⟩ := e9; subst e9; (try k_sweep))) | (k_unfold; (try dsimp only)) | walk1 | (dsimp only; walk1) | (dsimp only [List.cons_append, List.nil_append]; walk1)))
      · have hlc := hq.lc hff (by decide)
        k_with_none
        k_with "state" => exact ⟨A2b.data hfg hpre (len_le (by assumption)) (hq.t3 hx0 hx1 rfl), len_next (by assumption)⟩
        (repeat' ((fail_if_success (with_reducible show wpAny _ _ (exec (Stmt.For _ _ _ _ _) _) _ _ _)); first | (with_reducible ((with_reducible show wpAny _ _ (call (Value.ref 62) _) _ _ _); k_dflt (refine' con_use (val_sg _ _ ?kx ?ky) ?k1 ?k2 ?k3 ?k4 ?k5 ?k6 ?k7 ?k8 ?k9 ?k10 ?k11 trivial ?_; (case kx => assumption); (case ky => assumption); (( (case k6 => exact rfl); (case k7 => exact rfl); (case k8 => first | exact rfl | assumption); (case k2 => k_asm); (case k4 => k_asm); (case k1 => k_asm); (case k3 => k_asm); (case k5 => k_asm); (case k9 => first | exact rfl | assumption); (case k10 => exact Nat.le_of_ble_eq_true rfl); (case k11 => exact Nat.le_of_ble_eq_true rfl)))); intro r9 h9 tk9 F9 N9 _ e9; obtain ⟨t9, e9⟩ := e9; subst e9; (try k_sweep))) | (k_unfold; (try dsimp only)) | walk1 | (dsimp only; walk1) | (dsimp only [List.cons_append, List.nil_append]; walk1)))
    · have hqp := hq.len
      have hw : qp = 2 ∧ pads ≤ 1 ∨ qp = 3 ∧ pads ≤ 0 := (ways_k hk hqp).elim (fun h => absurd h.2 (by omega)) fun h => h.elim (fun h => .inl ⟨h.1, by omega⟩) (fun h => .inr ⟨h.1, by omega⟩)
      have hp0 : 0 ≤ pads := by omega
      rcases hw with ⟨rfl, hw⟩ | ⟨rfl, hw⟩
      · k_with_none
        k_with "state" => exact ⟨A2b.pad hpre (by omega) (by omega) hq, len_next (by assumption)⟩
        (repeat' ((fail_if_success (with_reducible show wpAny _ _ (exec (Stmt.For _ _ _ _ _) _) _ _ _)); first | (with_reducible ((with_reducible show wpAny _ _ (call (Value.ref 62) _) _ _ _); k_dflt (refine' con_use (val_sg _ _ ?kx ?ky) ?k1 ?k2 ?k3 ?k4 ?k5 ?k6 ?k7 ?k8 ?k9 ?k10 ?k11 trivial ?_; (case kx => assumption); (case ky => assumption); (( (case k6 => exact rfl); (case k7 => exact rfl); (case k8 => first | exact rfl | assumption); (case k2 => k_asm); (case k4 => k_asm); (case k1 => k_asm); (case k3 => k_asm); (case k5 => k_asm); (case k9 => first | exact rfl | assumption); (case k10 => exact Nat.le_of_ble_eq_true rfl); (case k11 => exact Nat.le_of_ble_eq_true rfl)))); intro r9 h9 tk9 F9 N9 _ e9; obtain ⟨t9, e9⟩ := e9; subst e9; (try k_sweep))) | (k_unfold; (try dsimp only)) | walk1 | (dsimp only; walk1) | (dsimp only [List.cons_append, List.nil_append]; walk1)))
      · k_with_none
        k_with "state" => exact ⟨A2b.pad hpre (by omega) (by omega) hq, len_next (by assumption)⟩
        (repeat' ((fail_if_success (with_reducible show wpAny _ _ (exec (Stmt.For _ _ _ _ _) _) _ _ _)); first | (with_reducible ((with_reducible show wpAny _ _ (call (Value.ref 62) _) _ _ _); k_dflt (refine' con_use (val_sg _ _ ?kx ?ky) ?k1 ?k2 ?k3 ?k4 ?k5 ?k6 ?k7 ?k8 ?k9 ?k10 ?k11 trivial ?_; (case kx => assumption); (case ky => assumption); (( (case k6 => exact rfl); (case k7 => exact rfl); (case k8 => first | exact rfl | assumption); (case k2 => k_asm); (case k4 => k_asm); (case k1 => k_asm); (case k3 => k_asm); (case k5 => k_asm); (case k9 => first | exact rfl | assumption); (case k10 => exact Nat.le_of_ble_eq_true rfl); (case k11 => exact Nat.le_of_ble_eq_true rfl)))); intro r9 h9 tk9 F9 N9 _ e9; obtain ⟨t9, e9⟩ := e9; subst e9; (try k_sweep))) | (k_unfold; (try dsimp only)) | walk1 | (dsimp only; walk1) | (dsimp only [List.cons_append, List.nil_append]; walk1)))
  · clear lF' lN'
    intro ⟨qp, t1, lc, t2, pads, t3, ix, t4, vs, out, nn⟩ u h tk hlen9 hI hP F9 N9
    dsimp only [kstB] at F9 N9 hI hP
    obtain ⟨rfl, hqp, rfl⟩ := hP.1.fin (by omega)
    have hfin := dec_in figs hf
    have hvl := hI.length
    have kMark := kstMark
    dsimp only
    (try k_fold)
    have hw := ways_k hk hqp
    have hz2 : (dec figs).length ≤ 2000 := by obtain ⟨_, _, _, _, _, _, _, hz2, _⟩ := hP.1; omega
    rcases hw with ⟨rfl, rfl⟩ | ⟨rfl, rfl⟩ | ⟨rfl, rfl⟩
    all_goals (
      (repeat' ((fail_if_success (with_reducible show wpAny _ _ (exec (Stmt.For _ _ _ _ _) _) _ _ _)); first | (with_reducible ((with_reducible show wpAny _ _ (call (Value.ref 62) _) _ _ _); k_dflt (refine' con_use (val_sg _ _ ?kx ?ky) ?k1 ?k2 ?k3 ?k4 ?k5 ?k6 ?k7 ?k8 ?k9 ?k10 ?k11 trivial ?_; (case kx => assumption); (case ky => assumption); (( (case k6 => exact rfl); (case k7 => exact rfl); (case k8 => first | exact rfl | assumption); (case k2 => k_asm); (case k4 => k_asm); (case k1 => k_asm); (case k3 => k_asm); (case k5 => k_asm); (case k9 => first | exact rfl | assumption); (case k10 => exact Nat.le_of_ble_eq_true rfl); (case k11 => exact Nat.le_of_ble_eq_true rfl)))); intro r9 h9 tk9 F9 N9 _ e9; obtain ⟨t9, e9⟩ := e9; subst e9; (try k_sweep))) | (k_unfold; (try dsimp only)) | walk1 | (dsimp only; walk1) | (dsimp only [List.cons_append, List.nil_append]; walk1)))
      exact hret _ _ _ (by assumption) (Fr.keep (by assumption)) ⟨_, _, rfl, KBa.ints_make hfin⟩)
end

section
def Enc (xs ys os : List Int) : Prop := os ++ enc ys = enc xs ∧ ys.length ≤ 1000
theorem b2a_con' (w : World) (b : Array UInt8) (t : Tok) (xs : List Int) (hb : KBw.bInts b = xs) (hz : xs.length ≤ 1000) :
    Con w 500 3000 78 ⟨[.bytes b t], []⟩ (fun _ => True) (fun _ r => ∃ b' t' es, r = .bytes b' t' ∧ KBw.bInts b' = es ++ [10] ∧ es = enc xs ∧ es.length ≤ 1500) :=
  (b2a_con w b t xs hb hz).mono (fun _ h => h) fun _ r ⟨b', t', e, h⟩ => ⟨b', t', _, e, h, rfl, by rw [enc_len]; omega⟩
theorem clip48 {n : Nat} (h : 48 < n) : clipAt n 48 = 48 := (clip_nat n 48).trans (Nat.min_eq_left (Nat.le_of_lt h))
theorem cut_drop {ys : List Int} (h : 48 < ys.length) : List.take (ys.length - clipAt ys.length 48) (List.drop (clipAt ys.length 48) ys) = ys.drop 48 := by
  rw [clip48 h, List.take_of_length_le (by rw [List.length_drop]; omega)]
theorem cut_last (es : List Int) (x : Int) : List.take (clipAt (es ++ [x]).length (-1)) (es ++ [x]) = es := by
  have : clipAt (es ++ [x]).length (-1) = es.length := by unfold clipAt; simp only [List.length_append, List.length_cons, List.length_nil]; omega
  rw [this]; simp
theorem Enc.more {xs ys os : List Int} (h : Enc xs ys os) (hl : 48 < ys.length) : Enc xs (ys.drop 48) (os ++ enc (ys.take 48)) := by
  refine ⟨?_, by rw [List.length_drop]; have := h.2; omega⟩
  rw [← h.1, List.append_assoc, ← enc_append _ _ (by rw [List.length_take]; omega), List.take_append_drop]
theorem Enc.last {xs ys os : List Int} (h : Enc xs ys os) : Enc xs [] (os ++ enc ys) := ⟨by simp [enc, h.1], by simp⟩
theorem enc_con (w : World) (self : Addr) (b : Array UInt8) (t : Tok) (xs : List Int) (hb : KBw.bInts b = xs) (hz : xs.length ≤ 1000) :
    Con w 400 2000 106 ⟨[.ref self, .bytes b t], []⟩ (fun _ => True) (fun _ r => ∃ b' t', r = .bytes b' t' ∧ KBw.bInts b' = enc xs) := by
  w_on
  unfold Con prg
  k_fill
  intro mean mg mb gd env outer A₀ base h₀ L m s R B F X T hef hek hpre hret
  k_dflt ((( refine' code_def0 (by assumption) (by assumption) (by assumption) (by assumption) ?kA (by assumption) (by assumption) ?k6 ?k7 ?k8 ?k9 ?kB ?_ ?c2 ?c3 ?c4 ?c5; (case kA => exact rfl); (case k6 => k_is); (case k7 => k_is); (case k8 => exact Nat.le_of_ble_eq_true rfl); (case k9 => first | exact BindsTo.of_eq rfl | (refine' kp_binds ?kx ?ke; (case kx => k_in); (case ke => exact fun _ => rfl)) | exact binds_K (by k_in) rfl (by k_is) rfl rfl rfl | fail "k_enter: no rule for these arguments"); (case c5 => decide); (case kB => exact locs rfl); (case c2 => exact rfl); (case c3 => exact rfl); (case c4 => exact rfl); intro L' h' F' N' B' X' T'; (try dsimp only))))
  k_fold
  (repeat' ((fail_if_success (with_reducible show wpAny _ _ (exec (Stmt.For _ _ _ _ _) _) _ _ _)); (fail_if_success (with_reducible show wpAny _ _ (exec (Stmt.While _ _ _ _) _) _ _ _)); first | (with_reducible ((with_reducible show wpAny _ _ (call (Value.ref 78) _) _ _ _); k_dflt (refine' con_use (b2a_con' _ _ _ _ ?kx ?ky) ?k1 ?k2 ?k3 ?k4 ?k5 ?k6 ?k7 ?k8 ?k9 ?k10 ?k11 trivial ?_; (case kx => assumption); (case ky => (first | omega | (simp only [List.length_take, List.length_drop]; omega))); (( (case k6 => exact rfl); (case k7 => exact rfl); (case k8 => first | exact rfl | assumption); (case k2 => k_asm); (case k4 => k_asm); (case k1 => k_asm); (case k3 => k_asm); (case k5 => k_asm); (case k9 => first | exact rfl | assumption); (case k10 => exact Nat.le_of_ble_eq_true rfl); (case k11 => exact Nat.le_of_ble_eq_true rfl)))); intro r9 h9 tk9 F9 N9 _ e9; obtain ⟨b9, t9, es9, e9, i9, ee9, el9⟩ := e9; subst e9; (try k_sweep))) | (k_unfold; (try dsimp only)) | walk1 | (dsimp only; walk1) | (dsimp only [List.cons_append, List.nil_append]; walk1)))
  ((rename Fr _ _ _ _ => lF'); (rename News _ _ _ _ => lN'))
  with_unfolding_all refine' ksw_while (σ := Array UInt8 × Nat × Array UInt8 × Nat × List Int × List Int) (fun _ => []) (fun c => [(Str.ofString "inp", .bytes c.1 c.2.1), (Str.ofString "oup", .bytes c.2.2.1 c.2.2.2.1)]) (fun c => KBw.bInts c.1 = c.2.2.2.2.1 ∧ KBw.bInts c.2.2.1 = c.2.2.2.2.2) [Str.ofString "t", Str.ofString "e"] (fun c => Enc xs c.2.2.2.2.1 c.2.2.2.2.2) (fun c => c.2.2.2.2.1.length) (b, _, #[], _, xs, []) lF' ?kn ?kf ?kk ?kp ?_
  case kn => exact lN'
  case kk => kst_all
  case kf => exact ⟨hb, rfl⟩
  case kp => exact ⟨rfl, hz⟩
  clear lF' lN'
  intro ⟨inp, t1, oup, t2, ys, os⟩ u h tk hI hP F9 N9
  dsimp only [kstB] at F9 N9 hI hP
  obtain ⟨hi1, hi2⟩ := hI
  obtain ⟨hE, hyl⟩ := id hP
  have hosl : os.length ≤ 1500 := by have h1 := congrArg List.length hE; rw [List.length_append, enc_len, enc_len] at h1; omega
  have kMark := kstMark
  (try k_fold)
  k_with_none
  (repeat' ((fail_if_success (with_reducible show wpAny _ _ (exec (Stmt.For _ _ _ _ _) _) _ _ _)); (fail_if_success (with_reducible show KswEnd _ _ _ _ _ _ _ _ _ _ _ _)); first | (with_reducible ((with_reducible show wpAny _ _ (call (Value.ref 78) _) _ _ _); k_dflt (refine' con_use (b2a_con' _ _ _ _ ?kx ?ky) ?k1 ?k2 ?k3 ?k4 ?k5 ?k6 ?k7 ?k8 ?k9 ?k10 ?k11 trivial ?_; (case kx => assumption); (case ky => (first | omega | (simp only [List.length_take, List.length_drop]; omega))); (( (case k6 => exact rfl); (case k7 => exact rfl); (case k8 => first | exact rfl | assumption); (case k2 => k_asm); (case k4 => k_asm); (case k1 => k_asm); (case k3 => k_asm); (case k5 => k_asm); (case k9 => first | exact rfl | assumption); (case k10 => exact Nat.le_of_ble_eq_true rfl); (case k11 => exact Nat.le_of_ble_eq_true rfl)))); intro r9 h9 tk9 F9 N9 _ e9; obtain ⟨b9, t9, es9, e9, i9, ee9, el9⟩ := e9; subst e9; (try k_sweep))) | (k_unfold; (try dsimp only)) | walk1 | (dsimp only; walk1) | (dsimp only [List.cons_append, List.nil_append]; walk1)))
  · have hl : 48 < ys.length := by omega
    refine' ksw_end (_, _, _, _, ys.drop 48, os ++ enc (ys.take 48)) ?k1 ?k2 (fun _ h => nomatch h) ?k3 ?k4 ?k5 (hP.more hl) ?k6
    case k1 => assumption
    case k2 => assumption
    case k4 => kst_all
    case k5 => ksw_same
    case k6 => (dsimp only; rw [List.length_drop]; omega)
    case k3 =>
      dsimp only
      refine ⟨Eq.trans (by assumption) (cut_drop hl), KBw.ints_app hi2 (Eq.trans (by assumption) ((cut_last _ _).trans (Eq.trans (by assumption) (by rw [clip48 hl]))))⟩
  · refine' ksw_end (_, _, _, _, [], os ++ enc ys) ?k1 ?k2 (fun _ h => nomatch h) ?k3 ?k4 ?k5 hP.last ?k6
    case k1 => assumption
    case k2 => assumption
    case k4 => kst_all
    case k5 => ksw_same
    case k6 => (dsimp only; simp only [List.length_nil]; omega)
    case k3 =>
      dsimp only
      refine ⟨rfl, KBw.ints_app hi2 (Eq.trans (by assumption) ((cut_last _ _).trans (by assumption)))⟩
  · have hy : ys = [] := List.eq_nil_of_length_eq_zero (by omega)
    subst hy
    exact hret _ _ _ (by assumption) (Fr.keep (by assumption)) ⟨_, _, rfl, hi2.trans (by simpa [enc] using hE)⟩
end

section
theorem dec_con (w : World) (self : Addr) (b : Array UInt8) (t : Tok) (figs : List Int) (k : Nat) (hb : KBw.bInts b = figs.map sg ++ List.replicate k 61) (hf : Fig figs) (hz : figs.length ≤ 1000)
    (hk : (figs.length % 4 = 0 ∧ k = 0) ∨ (figs.length % 4 = 2 ∧ k = 2) ∨ (figs.length % 4 = 3 ∧ k = 1)) :
    Con w 400 2000 113 ⟨[.ref self, .bytes b t], []⟩ (fun _ => True) (fun _ r => ∃ b' t', r = .bytes b' t' ∧ KBw.bInts b' = dec figs) := by
  w_on
  unfold Con prg
  k_fill
  intro mean mg mb gd env outer A₀ base h₀ L m s R B F X T hef hek hpre hret
  k_dflt ((( refine' code_def0 (by assumption) (by assumption) (by assumption) (by assumption) ?kA (by assumption) (by assumption) ?k6 ?k7 ?k8 ?k9 ?kB ?_ ?c2 ?c3 ?c4 ?c5; (case kA => exact rfl); (case k6 => k_is); (case k7 => k_is); (case k8 => exact Nat.le_of_ble_eq_true rfl); (case k9 => first | exact BindsTo.of_eq rfl | (refine' kp_binds ?kx ?ke; (case kx => k_in); (case ke => exact fun _ => rfl)) | exact binds_K (by k_in) rfl (by k_is) rfl rfl rfl | fail "k_enter: no rule for these arguments"); (case c5 => decide); (case kB => exact locs rfl); (case c2 => exact rfl); (case c3 => exact rfl); (case c4 => exact rfl); intro L' h' F' N' B' X' T'; (try dsimp only))))
  k_fold
  have hlen : (figs.map sg ++ List.replicate k 61).length ≤ 1002 := by simp only [List.length_append, List.length_map, List.length_replicate]; omega
  obtain ⟨zs, hzs⟩ : ∃ zs, zs = figs.map sg ++ List.replicate k 61 := ⟨_, rfl⟩
  have hb2 : KBw.bInts b = zs := by rw [hzs]; exact hb
  have hl2 : zs.length ≤ 1002 := by rw [hzs]; exact hlen
  have hl3 : zs.length = 0 → figs = [] := by rw [hzs]; intro h0; simp only [List.length_append, List.length_map] at h0; exact List.eq_nil_of_length_eq_zero (by omega)
  clear hlen hzs
  have kMark := kstMark
  (repeat' ((fail_if_success (with_reducible show wpAny _ _ (exec (Stmt.For _ _ _ _ _) _) _ _ _)); first | (with_reducible ((with_reducible show wpAny _ _ (call (Value.ref 70) _) _ _ _); k_dflt (refine' con_use (a2b_con _ _ _ _ _ ?kx ?ky ?kz ?kw) ?k1 ?k2 ?k3 ?k4 ?k5 ?k6 ?k7 ?k8 ?k9 ?k10 ?k11 trivial ?_; (case kx => assumption); (case ky => assumption); (case kz => assumption); (case kw => assumption); (( (case k6 => exact rfl); (case k7 => exact rfl); (case k8 => first | exact rfl | assumption); (case k2 => k_asm); (case k4 => k_asm); (case k1 => k_asm); (case k3 => k_asm); (case k5 => k_asm); (case k9 => first | exact rfl | assumption); (case k10 => exact Nat.le_of_ble_eq_true rfl); (case k11 => exact Nat.le_of_ble_eq_true rfl)))); intro r9 h9 tk9 F9 N9 _ e9; obtain ⟨b9, t9, e9, i9⟩ := e9; subst e9; (try k_sweep))) | (k_unfold; (try dsimp only)) | walk1 | (dsimp only; walk1) | (dsimp only [List.cons_append, List.nil_append]; walk1)))
  · exact hret _ _ _ (by assumption) (Fr.keep (by assumption)) ⟨_, _, rfl, by assumption⟩
  · have := hl3 (by omega)
    subst this
    exact hret _ _ _ (by assumption) (Fr.keep (by assumption)) ⟨_, _, rfl, by simp [dec, KBw.bInts]⟩
end

section
theorem fig_con (w : World) (b : Array UInt8) (t : Tok) (xs : List Int) (hb : KBw.bInts b = xs) (hz : xs.length ≤ 1000) :
    ConL w 400 2000 125 ⟨[.bytes b t], []⟩ (fun _ => True) (figs xs) := by
  w_on
  unfold ConL prg
  k_fill
  intro mean mg mb gd env outer A₀ base h₀ L m s R B F X T hef hek hpre hret
  k_dflt ((( refine' code_defC0 (by assumption) (by assumption) (by assumption) (by assumption) ?kA (by assumption) (by assumption) ?k6 ?k7 ?k8 ?k9 ?kB ?kD ?_ ?c2 ?c3 ?c4; (case kA => exact rfl); (case k6 => k_is); (case k7 => k_is); (case k8 => exact Nat.le_of_ble_eq_true rfl); (case k9 => exact BindsTo.of_eq rfl); (case kB => exact rfl); (case kD => decide +kernel); (case c2 => exact rfl); (case c3 => exact rfl); (case c4 => exact rfl); intro L' h' tk' cells' F' N' Y' B' X' T'; k_cells Y'; (try dsimp only))))
  show wpAny _ _ _ _ _ _
  k_fold
  have kMark := kstMark
  (repeat' ((fail_if_success (with_reducible show wpAny _ _ (exec (Stmt.For _ _ _ _ _) _) _ _ _)); (fail_if_success (with_reducible show wpAny _ _ (exec (Stmt.While _ _ _ _) _) _ _ _)); first | (k_unfold; (try dsimp only)) | walk1 | (dsimp only; walk1) | (dsimp only [List.cons_append, List.nil_append]; walk1)))
  (((with_reducible show wpAny _ _ (exec (Stmt.For _ _ _ _ _) _) _ _ _); (rename Fr _ _ _ _ => lF'); (with_unfolding_all refine' For_invVF lF' ?k1 ?k2 ?_; (case k1 => exact rfl); (case k2 => exact rfl); k_whole)))
  repeat' ((fail_if_success (with_reducible show wpAny _ _ (pyIter _) _ _ _)); first | (k_unfold; (try dsimp only)) | walk1 | (dsimp only; walk1) | (dsimp only [List.cons_append, List.nil_append]; walk1))
  ((rename Fr _ _ _ _ => lF'); (rename News _ _ _ _ => lN'); (rename IsRange _ _ _ _ _ _ _ _ => rgX))
  with_unfolding_all refine' range_loop (σ := List Value × List Int × Nat × Obj × Option Value) (fun c => [(_, listOf c.1.toArray c.2.2.1), (_, c.2.2.2.1)]) (fun c => []) (fun c => IntsAre c.1 c.2.1 ∧ c.2.2.2.1.data = .cell c.2.2.2.2) [Str.ofString "piece"] (fun i c => FigInv xs i c.2.1) ([], [], _, _, _) rfl rgX (small3 hz) (range3 _) lF' ?kn ?kf ?kk ?kp ?_ ?_
  case kn => exact lN'
  case kk => kst_all
  case kf => exact ⟨.nil, by assumption⟩
  case kp => simp [FigInv, figs]
  · clear lF' lN' rgX
    intro ⟨vs, out, nn, oc, vc⟩ i t u h tk own hi hoff hI hP F9 N9
    dsimp only [kstB] at F9 N9 hI hP hoff
    simp only [List.nil_append, List.cons_append, List.append_nil] at N9
    simp only [List.map_cons, List.map_nil] at hoff
    obtain ⟨hI, hC⟩ := hI
    have hol := hP.len hz
    have hvl := hI.length
    (try k_fold)
    rcases shape3 hi with ⟨x0, x1, x2, rr, hd⟩ | ⟨x0, x1, hd⟩ | ⟨x0, hd⟩
    · repeat' ((fail_if_success (with_reducible show wpAny _ _ (subscriptTail _ _ _ _) _ _ _)); first | (k_unfold; (try dsimp only)) | walk1 | (dsimp only; walk1) | (dsimp only [List.cons_append, List.nil_append]; walk1))
      walk1
      rename KBw.bInts (KBy.picked _ _ _) = _ => hpk
      rw [cut3 hi rfl] at hpk
      have hpc : (xs.drop (3 * i)).take 3 = [x0, x1, x2] := by rw [hd]; rfl
      rw [hpc] at hpk
      have hb0 : 0 ≤ x0 ∧ x0 < 256 := KBw.ints_in (b := KBy.picked b (some (0 + (i : Int) * 3)) (some (0 + (i : Int) * 3 + 3))) (by rw [hpk]; simp)
      have hb1 : 0 ≤ x1 ∧ x1 < 256 := KBw.ints_in (b := KBy.picked b (some (0 + (i : Int) * 3)) (some (0 + (i : Int) * 3 + 3))) (by rw [hpk]; simp)
      have hb2 : 0 ≤ x2 ∧ x2 < 256 := KBw.ints_in (b := KBy.picked b (some (0 + (i : Int) * 3)) (some (0 + (i : Int) * 3 + 3))) (by rw [hpk]; simp)
      generalize KBy.picked b (some (0 + (i : Int) * 3)) (some (0 + (i : Int) * 3 + 3)) = pb at *
      repeat' ((fail_if_success (with_reducible show wpAny _ _ (eval (Expr.ListComp _ _ _ _) _) _ _ _)); first | (k_unfold; (try dsimp only)) | walk1 | (dsimp only; walk1) | (dsimp only [List.cons_append, List.nil_append]; walk1))
      with_unfolding_all refine' enum_compF [x0, x1, x2] (fun i k => k * 256 ^ (2 - i)) ?e0 ?eN rfl ?e1 ?e2 ?e3 ?e4 ?e5 ?e6 ?e7 ?e8 ?e9 ?e10 ?e11
      case e0 => k_asm
      case eN => k_asm
      case e1 => with_unfolding_all rfl
      case e2 => decide
      case e3 => rfl
      case e4 => decide
      case e5 => rfl
      case e6 => rfl
      case e7 => decide
      case e8 => simp
      case e9 =>
        repeat' ((fail_if_success (with_reducible show wpAny _ _ (call (Value.type "enumerate") _) _ _ _)); first | (k_unfold; (try dsimp only)) | walk1 | (dsimp only; walk1) | (dsimp only [List.cons_append, List.nil_append]; walk1))
        refine enumAt_bytes rfl (by assumption) (by assumption) hpk ⟨_, _, rfl⟩
      case e10 =>
        intro i k u v C m₂ s' E' hk hn ha hb
        have hw : (i = 0 ∧ k = x0) ∨ (i = 1 ∧ k = x1) ∨ (i = 2 ∧ k = x2) := by
          rcases i with _ | _ | _ | i <;> simp at hk <;> simp [hk]
        refine wpAny_BinOp (wpAny_Name (wpAny_loadName_local rfl rfl hn hb ?_) (by decide))
        refine wpAny_BinOp ?_
        walk1
        refine wpAny_BinOp ?_
        walk1
        refine wpAny_Name (wpAny_loadName_local rfl rfl hn ha ?_) (by decide)
        rcases hw with ⟨rfl, rfl⟩ | ⟨rfl, rfl⟩ | ⟨rfl, rfl⟩
        all_goals (
          walk1
          walk1
          walk1
          exact ⟨_, _, rfl, rfl⟩)
      case e11 =>
        intro D ys h' tk F9 N9 hlt9 hI9
        simp only [List.zipIdx_cons, List.zipIdx_nil, List.map_cons, List.map_nil] at hI9
        k_lt hlt9
        repeat' ((fail_if_success (with_reducible show wpAny _ _ (exec (Stmt.AugAssign _ _ _ _) _) _ _ _)); first | (k_unfold; (try dsimp only)) | walk1 | (dsimp only; walk1) | (dsimp only [List.cons_append, List.nil_append]; walk1))
        walk1
        repeat' ((fail_if_success (with_reducible show wpAny _ _ (eval (Expr.ListComp _ _ _ _) _) _ _ _)); first | (k_unfold; (try dsimp only)) | walk1 | (dsimp only; walk1) | (dsimp only [List.cons_append, List.nil_append]; walk1))
        rename _ = Data.cell (some (Value.int _ _)) => hcl
        generalize hnb : x0 * 256 ^ (2 - 0) + _ = nb at hcl
        obtain ⟨hfg, hnb0, hnb1⟩ := fig3 hb0 hb1 hb2 hnb
        with_unfolding_all refine' name_comp 4 (fun i v => ∃ t, v = .int (0 + (i : Int)) t) (fun i y => ∃ t, y = .int ((nb.fdiv (64 ^ (3 - i))).fmod 64) t) ?f0 ?fN ?f1 ?f2 ?f3 ?f4 ?f5 ?f6 ?f7 ?f8 ?f9
        case f0 => k_asm
        case fN => k_asm
        case f1 => with_unfolding_all rfl
        case f2 => decide
        case f3 => rfl
        case f4 => decide
        case f5 => rfl
        case f6 => decide
        case f7 =>
          repeat' ((fail_if_success (with_reducible show wpAny _ _ (pyIter _) _ _ _)); first | (k_unfold; (try dsimp only)) | walk1 | (dsimp only; walk1) | (dsimp only [List.cons_append, List.nil_append]; walk1))
          (rename IsRange _ _ _ _ _ _ _ _ => rgX)
          refine iterAt_range rfl (by assumption) (by assumption) rgX (small_one (by decide) (by decide) (by simp only [List.length_cons, List.length_nil]; omega) (by simp only [List.length_cons, List.length_nil]; omega)) ((rangeSize_nat _ _).trans rfl) ⟨_, _, rfl⟩
        case f8 =>
          rintro i v C m₂ s' E' hi ⟨t, rfl⟩ hn hx hnw _
          have hcell := hnw (_, _) (List.mem_cons_of_mem _ (List.mem_cons_of_mem _ (List.mem_cons_self ..)))
          refine wpAny_BinOp (wpAny_BinOp (wpAny_Name (wpAny_loadName_cell rfl rfl rfl ⟨_, hcell, hcl⟩ ?_) (by decide)))
          refine wpAny_BinOp ?_
          walk1
          refine wpAny_BinOp ?_
          walk1
          refine wpAny_Name (wpAny_loadName_local rfl rfl hn hx ?_) (by decide)
          have hw := lt4_ways (i := i) (by assumption)
          rcases hw with rfl | rfl | rfl | rfl
          all_goals (
            walk1
            walk1
            walk1
            walk1
            walk1
            exact ⟨⟨_, rfl⟩, _, _, rfl, fun _ _ q => q⟩)
        case f9 =>
          intro D2 zs h2 tk2 F2 N2 hlt2 hzl hzG
          k_lt hlt2
          obtain ⟨z0, z1, z2, z3, rfl⟩ := len4 (l := zs) hzl
          obtain ⟨u0, rfl⟩ := hzG 0 _ rfl
          obtain ⟨u1, rfl⟩ := hzG 1 _ rfl
          obtain ⟨u2, rfl⟩ := hzG 2 _ rfl
          obtain ⟨u3, rfl⟩ := hzG 3 _ rfl
          refine' iadd_K F2 N2 (List.mem_cons_self ..) ?hpos ?hzz ?hU ?_
          case hU => k_upd
          case hpos => simp
          case hzz => (simp only [List.size_toArray, List.length_cons, List.length_nil]; omega)
          intro h3 F3 N3
          repeat' ((fail_if_success (with_reducible show InvEndN _ _ _ _ _ _ _)); first | (k_unfold; (try dsimp only)) | walk1 | (dsimp only; walk1) | (dsimp only [List.cons_append, List.nil_append]; walk1))
          (rename News _ _ _ _ => nE')
          simp only [List.append_toArray] at nE'
          exact kst_end (vs ++ [.int ((nb.fdiv (64 ^ (3 - 0))).fmod 64) u0, .int ((nb.fdiv (64 ^ (3 - 1))).fmod 64) u1, .int ((nb.fdiv (64 ^ (3 - 2))).fmod 64) u2, .int ((nb.fdiv (64 ^ (3 - 3))).fmod 64) u3], out ++ [(nb.fdiv (64 ^ (3 - 0))).fmod 64, (nb.fdiv (64 ^ (3 - 1))).fmod 64, (nb.fdiv (64 ^ (3 - 2))).fmod 64, (nb.fdiv (64 ^ (3 - 3))).fmod 64], nn + 1, _, _) (by assumption) nE' (by exact List.forall_mem_cons.mpr ⟨.tail _ (.tail _ (.head _)), List.forall_mem_cons.mpr ⟨.tail _ (.tail _ (.tail _ (.head _))), List.forall_mem_nil _⟩⟩) (by intro p hp; kst_mem) (by rfl) ⟨IntsAre.append hI (.cons _ _ (.cons _ _ (.cons _ _ (.cons _ _ (.nil))))), hcl⟩ (by kst_all) (by (intro z h1 h2 h3; simp only [List.contains_cons, List.contains_nil, Bool.or_false, beq_eq_false_iff_ne, ne_eq] at h3; by_cases hf9 : z = Str.ofString "figures" <;> simp [h1, h3, hf9])) (hP.more hi hpc hfg)
    · repeat' ((fail_if_success (with_reducible show wpAny _ _ (subscriptTail _ _ _ _) _ _ _)); first | (k_unfold; (try dsimp only)) | walk1 | (dsimp only; walk1) | (dsimp only [List.cons_append, List.nil_append]; walk1))
      walk1
      rename KBw.bInts (KBy.picked _ _ _) = _ => hpk
      rw [cut3 hi rfl] at hpk
      have hpc : (xs.drop (3 * i)).take 3 = [x0, x1] := by rw [hd]; rfl
      rw [hpc] at hpk
      have hb0 : 0 ≤ x0 ∧ x0 < 256 := KBw.ints_in (b := KBy.picked b (some (0 + (i : Int) * 3)) (some (0 + (i : Int) * 3 + 3))) (by rw [hpk]; simp)
      have hb1 : 0 ≤ x1 ∧ x1 < 256 := KBw.ints_in (b := KBy.picked b (some (0 + (i : Int) * 3)) (some (0 + (i : Int) * 3 + 3))) (by rw [hpk]; simp)
      generalize KBy.picked b (some (0 + (i : Int) * 3)) (some (0 + (i : Int) * 3 + 3)) = pb at *
      repeat' ((fail_if_success (with_reducible show wpAny _ _ (eval (Expr.ListComp _ _ _ _) _) _ _ _)); first | (k_unfold; (try dsimp only)) | walk1 | (dsimp only; walk1) | (dsimp only [List.cons_append, List.nil_append]; walk1))
      with_unfolding_all refine' enum_compF [x0, x1] (fun i k => k * 256 ^ (2 - i)) ?e0 ?eN rfl ?e1 ?e2 ?e3 ?e4 ?e5 ?e6 ?e7 ?e8 ?e9 ?e10 ?e11
      case e0 => k_asm
      case eN => k_asm
      case e1 => with_unfolding_all rfl
      case e2 => decide
      case e3 => rfl
      case e4 => decide
      case e5 => rfl
      case e6 => rfl
      case e7 => decide
      case e8 => simp
      case e9 =>
        repeat' ((fail_if_success (with_reducible show wpAny _ _ (call (Value.type "enumerate") _) _ _ _)); first | (k_unfold; (try dsimp only)) | walk1 | (dsimp only; walk1) | (dsimp only [List.cons_append, List.nil_append]; walk1))
        refine enumAt_bytes rfl (by assumption) (by assumption) hpk ⟨_, _, rfl⟩
      case e10 =>
        intro i k u v C m₂ s' E' hk hn ha hb
        have hw : (i = 0 ∧ k = x0) ∨ (i = 1 ∧ k = x1) := by
          rcases i with _ | _ | i <;> simp at hk <;> simp [hk]
        refine wpAny_BinOp (wpAny_Name (wpAny_loadName_local rfl rfl hn hb ?_) (by decide))
        refine wpAny_BinOp ?_
        walk1
        refine wpAny_BinOp ?_
        walk1
        refine wpAny_Name (wpAny_loadName_local rfl rfl hn ha ?_) (by decide)
        rcases hw with ⟨rfl, rfl⟩ | ⟨rfl, rfl⟩
        all_goals (
          walk1
          walk1
          walk1
          exact ⟨_, _, rfl, rfl⟩)
      case e11 =>
        intro D ys h' tk F9 N9 hlt9 hI9
        simp only [List.zipIdx_cons, List.zipIdx_nil, List.map_cons, List.map_nil] at hI9
        k_lt hlt9
        repeat' ((fail_if_success (with_reducible show wpAny _ _ (exec (Stmt.AugAssign _ _ _ _) _) _ _ _)); first | (k_unfold; (try dsimp only)) | walk1 | (dsimp only; walk1) | (dsimp only [List.cons_append, List.nil_append]; walk1))
        walk1
        repeat' ((fail_if_success (with_reducible show wpAny _ _ (eval (Expr.ListComp _ _ _ _) _) _ _ _)); first | (k_unfold; (try dsimp only)) | walk1 | (dsimp only; walk1) | (dsimp only [List.cons_append, List.nil_append]; walk1))
        rename _ = Data.cell (some (Value.int _ _)) => hcl
        generalize hnb : x0 * 256 ^ (2 - 0) + _ = nb at hcl
        obtain ⟨hfg, hnb0, hnb1⟩ := fig2 hb0 hb1 hnb
        with_unfolding_all refine' name_comp 3 (fun i v => ∃ t, v = .int (0 + (i : Int)) t) (fun i y => ∃ t, y = .int ((nb.fdiv (64 ^ (3 - i))).fmod 64) t) ?f0 ?fN ?f1 ?f2 ?f3 ?f4 ?f5 ?f6 ?f7 ?f8 ?f9
        case f0 => k_asm
        case fN => k_asm
        case f1 => with_unfolding_all rfl
        case f2 => decide
        case f3 => rfl
        case f4 => decide
        case f5 => rfl
        case f6 => decide
        case f7 =>
          repeat' ((fail_if_success (with_reducible show wpAny _ _ (pyIter _) _ _ _)); first | (k_unfold; (try dsimp only)) | walk1 | (dsimp only; walk1) | (dsimp only [List.cons_append, List.nil_append]; walk1))
          (rename IsRange _ _ _ _ _ _ _ _ => rgX)
          refine iterAt_range rfl (by assumption) (by assumption) rgX (small_one (by decide) (by decide) (by simp only [List.length_cons, List.length_nil]; omega) (by simp only [List.length_cons, List.length_nil]; omega)) ((rangeSize_nat _ _).trans rfl) ⟨_, _, rfl⟩
        case f8 =>
          rintro i v C m₂ s' E' hi ⟨t, rfl⟩ hn hx hnw _
          have hcell := hnw (_, _) (List.mem_cons_of_mem _ (List.mem_cons_of_mem _ (List.mem_cons_self ..)))
          refine wpAny_BinOp (wpAny_BinOp (wpAny_Name (wpAny_loadName_cell rfl rfl rfl ⟨_, hcell, hcl⟩ ?_) (by decide)))
          refine wpAny_BinOp ?_
          walk1
          refine wpAny_BinOp ?_
          walk1
          refine wpAny_Name (wpAny_loadName_local rfl rfl hn hx ?_) (by decide)
          have hw := lt3_ways (i := i) (by assumption)
          rcases hw with rfl | rfl | rfl
          all_goals (
            walk1
            walk1
            walk1
            walk1
            walk1
            exact ⟨⟨_, rfl⟩, _, _, rfl, fun _ _ q => q⟩)
        case f9 =>
          intro D2 zs h2 tk2 F2 N2 hlt2 hzl hzG
          k_lt hlt2
          obtain ⟨z0, z1, z2, rfl⟩ := len3 (l := zs) hzl
          obtain ⟨u0, rfl⟩ := hzG 0 _ rfl
          obtain ⟨u1, rfl⟩ := hzG 1 _ rfl
          obtain ⟨u2, rfl⟩ := hzG 2 _ rfl
          refine' iadd_K F2 N2 (List.mem_cons_self ..) ?hpos ?hzz ?hU ?_
          case hU => k_upd
          case hpos => simp
          case hzz => (simp only [List.size_toArray, List.length_cons, List.length_nil]; omega)
          intro h3 F3 N3
          repeat' ((fail_if_success (with_reducible show InvEndN _ _ _ _ _ _ _)); first | (k_unfold; (try dsimp only)) | walk1 | (dsimp only; walk1) | (dsimp only [List.cons_append, List.nil_append]; walk1))
          (rename News _ _ _ _ => nE')
          simp only [List.append_toArray] at nE'
          exact kst_end (vs ++ [.int ((nb.fdiv (64 ^ (3 - 0))).fmod 64) u0, .int ((nb.fdiv (64 ^ (3 - 1))).fmod 64) u1, .int ((nb.fdiv (64 ^ (3 - 2))).fmod 64) u2], out ++ [(nb.fdiv (64 ^ (3 - 0))).fmod 64, (nb.fdiv (64 ^ (3 - 1))).fmod 64, (nb.fdiv (64 ^ (3 - 2))).fmod 64], nn + 1, _, _) (by assumption) nE' (by exact List.forall_mem_cons.mpr ⟨.tail _ (.tail _ (.head _)), List.forall_mem_cons.mpr ⟨.tail _ (.tail _ (.tail _ (.head _))), List.forall_mem_nil _⟩⟩) (by intro p hp; kst_mem) (by rfl) ⟨IntsAre.append hI (.cons _ _ (.cons _ _ (.cons _ _ (.nil)))), hcl⟩ (by kst_all) (by (intro z h1 h2 h3; simp only [List.contains_cons, List.contains_nil, Bool.or_false, beq_eq_false_iff_ne, ne_eq] at h3; by_cases hf9 : z = Str.ofString "figures" <;> simp [h1, h3, hf9])) (hP.more hi hpc hfg)
    · repeat' ((fail_if_success (with_reducible show wpAny _ _ (subscriptTail _ _ _ _) _ _ _)); first | (k_unfold; (try dsimp only)) | walk1 | (dsimp only; walk1) | (dsimp only [List.cons_append, List.nil_append]; walk1))
      walk1
      rename KBw.bInts (KBy.picked _ _ _) = _ => hpk
      rw [cut3 hi rfl] at hpk
      have hpc : (xs.drop (3 * i)).take 3 = [x0] := by rw [hd]; rfl
      rw [hpc] at hpk
      have hb0 : 0 ≤ x0 ∧ x0 < 256 := KBw.ints_in (b := KBy.picked b (some (0 + (i : Int) * 3)) (some (0 + (i : Int) * 3 + 3))) (by rw [hpk]; simp)
      generalize KBy.picked b (some (0 + (i : Int) * 3)) (some (0 + (i : Int) * 3 + 3)) = pb at *
      repeat' ((fail_if_success (with_reducible show wpAny _ _ (eval (Expr.ListComp _ _ _ _) _) _ _ _)); first | (k_unfold; (try dsimp only)) | walk1 | (dsimp only; walk1) | (dsimp only [List.cons_append, List.nil_append]; walk1))
      with_unfolding_all refine' enum_compF [x0] (fun i k => k * 256 ^ (2 - i)) ?e0 ?eN rfl ?e1 ?e2 ?e3 ?e4 ?e5 ?e6 ?e7 ?e8 ?e9 ?e10 ?e11
      case e0 => k_asm
      case eN => k_asm
      case e1 => with_unfolding_all rfl
      case e2 => decide
      case e3 => rfl
      case e4 => decide
      case e5 => rfl
      case e6 => rfl
      case e7 => decide
      case e8 => simp
      case e9 =>
        repeat' ((fail_if_success (with_reducible show wpAny _ _ (call (Value.type "enumerate") _) _ _ _)); first | (k_unfold; (try dsimp only)) | walk1 | (dsimp only; walk1) | (dsimp only [List.cons_append, List.nil_append]; walk1))
        refine enumAt_bytes rfl (by assumption) (by assumption) hpk ⟨_, _, rfl⟩
      case e10 =>
        intro i k u v C m₂ s' E' hk hn ha hb
        have hw : (i = 0 ∧ k = x0) := by
          rcases i with _ | i <;> simp at hk <;> simp [hk]
        refine wpAny_BinOp (wpAny_Name (wpAny_loadName_local rfl rfl hn hb ?_) (by decide))
        refine wpAny_BinOp ?_
        walk1
        refine wpAny_BinOp ?_
        walk1
        refine wpAny_Name (wpAny_loadName_local rfl rfl hn ha ?_) (by decide)
        rcases hw with ⟨rfl, rfl⟩
        all_goals (
          walk1
          walk1
          walk1
          exact ⟨_, _, rfl, rfl⟩)
      case e11 =>
        intro D ys h' tk F9 N9 hlt9 hI9
        simp only [List.zipIdx_cons, List.zipIdx_nil, List.map_cons, List.map_nil] at hI9
        k_lt hlt9
        repeat' ((fail_if_success (with_reducible show wpAny _ _ (exec (Stmt.AugAssign _ _ _ _) _) _ _ _)); first | (k_unfold; (try dsimp only)) | walk1 | (dsimp only; walk1) | (dsimp only [List.cons_append, List.nil_append]; walk1))
        walk1
        repeat' ((fail_if_success (with_reducible show wpAny _ _ (eval (Expr.ListComp _ _ _ _) _) _ _ _)); first | (k_unfold; (try dsimp only)) | walk1 | (dsimp only; walk1) | (dsimp only [List.cons_append, List.nil_append]; walk1))
        rename _ = Data.cell (some (Value.int _ _)) => hcl
        generalize hnb : x0 * 256 ^ (2 - 0) + _ = nb at hcl
        obtain ⟨hfg, hnb0, hnb1⟩ := fig1 hb0 hnb
        with_unfolding_all refine' name_comp 2 (fun i v => ∃ t, v = .int (0 + (i : Int)) t) (fun i y => ∃ t, y = .int ((nb.fdiv (64 ^ (3 - i))).fmod 64) t) ?f0 ?fN ?f1 ?f2 ?f3 ?f4 ?f5 ?f6 ?f7 ?f8 ?f9
        case f0 => k_asm
        case fN => k_asm
        case f1 => with_unfolding_all rfl
        case f2 => decide
        case f3 => rfl
        case f4 => decide
        case f5 => rfl
        case f6 => decide
        case f7 =>
          repeat' ((fail_if_success (with_reducible show wpAny _ _ (pyIter _) _ _ _)); first | (k_unfold; (try dsimp only)) | walk1 | (dsimp only; walk1) | (dsimp only [List.cons_append, List.nil_append]; walk1))
          (rename IsRange _ _ _ _ _ _ _ _ => rgX)
          refine iterAt_range rfl (by assumption) (by assumption) rgX (small_one (by decide) (by decide) (by simp only [List.length_cons, List.length_nil]; omega) (by simp only [List.length_cons, List.length_nil]; omega)) ((rangeSize_nat _ _).trans rfl) ⟨_, _, rfl⟩
        case f8 =>
          rintro i v C m₂ s' E' hi ⟨t, rfl⟩ hn hx hnw _
          have hcell := hnw (_, _) (List.mem_cons_of_mem _ (List.mem_cons_of_mem _ (List.mem_cons_self ..)))
          refine wpAny_BinOp (wpAny_BinOp (wpAny_Name (wpAny_loadName_cell rfl rfl rfl ⟨_, hcell, hcl⟩ ?_) (by decide)))
          refine wpAny_BinOp ?_
          walk1
          refine wpAny_BinOp ?_
          walk1
          refine wpAny_Name (wpAny_loadName_local rfl rfl hn hx ?_) (by decide)
          have hw := lt2_ways (i := i) (by assumption)
          rcases hw with rfl | rfl
          all_goals (
            walk1
            walk1
            walk1
            walk1
            walk1
            exact ⟨⟨_, rfl⟩, _, _, rfl, fun _ _ q => q⟩)
        case f9 =>
          intro D2 zs h2 tk2 F2 N2 hlt2 hzl hzG
          k_lt hlt2
          obtain ⟨z0, z1, rfl⟩ := len2 (l := zs) hzl
          obtain ⟨u0, rfl⟩ := hzG 0 _ rfl
          obtain ⟨u1, rfl⟩ := hzG 1 _ rfl
          refine' iadd_K F2 N2 (List.mem_cons_self ..) ?hpos ?hzz ?hU ?_
          case hU => k_upd
          case hpos => simp
          case hzz => (simp only [List.size_toArray, List.length_cons, List.length_nil]; omega)
          intro h3 F3 N3
          repeat' ((fail_if_success (with_reducible show InvEndN _ _ _ _ _ _ _)); first | (k_unfold; (try dsimp only)) | walk1 | (dsimp only; walk1) | (dsimp only [List.cons_append, List.nil_append]; walk1))
          (rename News _ _ _ _ => nE')
          simp only [List.append_toArray] at nE'
          exact kst_end (vs ++ [.int ((nb.fdiv (64 ^ (3 - 0))).fmod 64) u0, .int ((nb.fdiv (64 ^ (3 - 1))).fmod 64) u1], out ++ [(nb.fdiv (64 ^ (3 - 0))).fmod 64, (nb.fdiv (64 ^ (3 - 1))).fmod 64], nn + 1, _, _) (by assumption) nE' (by exact List.forall_mem_cons.mpr ⟨.tail _ (.tail _ (.head _)), List.forall_mem_cons.mpr ⟨.tail _ (.tail _ (.tail _ (.head _))), List.forall_mem_nil _⟩⟩) (by intro p hp; kst_mem) (by rfl) ⟨IntsAre.append hI (.cons _ _ (.cons _ _ (.nil))), hcl⟩ (by kst_all) (by (intro z h1 h2 h3; simp only [List.contains_cons, List.contains_nil, Bool.or_false, beq_eq_false_iff_ne, ne_eq] at h3; by_cases hf9 : z = Str.ofString "figures" <;> simp [h1, h3, hf9])) (hP.more hi hpc hfg)
  · clear lF' lN' rgX
    intro ⟨vs, out, nn, oc, vc⟩ u h tk hI hP F9 N9
    dsimp only [kstB] at F9 N9 hI hP
    obtain ⟨hI, hC⟩ := hI
    obtain rfl := hP.fin
    dsimp only
    (try k_fold)
    (repeat' ((fail_if_success (with_reducible show wpAny _ _ (exec (Stmt.For _ _ _ _ _) _) _ _ _)); first | (k_unfold; (try dsimp only)) | walk1 | (dsimp only; walk1) | (dsimp only [List.cons_append, List.nil_append]; walk1)))
    exact hret _ _ _ _ _ (by assumption) (Fr.keep F9) (Nat.le_trans F9.above (Nat.le_of_lt (Nat.lt_of_succ_lt (by assumption)))) (N9 _ (List.mem_cons_self ..)).1 hI
end

section
theorem oct_con (w : World) (l : Addr) (vs0 : List Value) (xs : List Int) (hI0 : IntsAre vs0 xs) (hf : Fig xs) (hz : xs.length ≤ 1000) (hm : xs.length % 4 ≠ 1) :
    Con w 400 2000 130 ⟨[.ref l], []⟩ (fun h => h.IsList l vs0.toArray) (fun _ r => ∃ b' t', r = .bytes b' t' ∧ KBw.bInts b' = dec xs) := by
  w_on
  unfold Con prg
  k_fill
  intro mean mg mb gd env outer A₀ base h₀ L m s R B F X T hef hek hpre hret
  have hvl0 := hI0.length
  k_dflt ((( refine' code_def0 (by assumption) (by assumption) (by assumption) (by assumption) ?kA (by assumption) (by assumption) ?k6 ?k7 ?k8 ?k9 ?kB ?_ ?c2 ?c3 ?c4 ?c5; (case kA => exact rfl); (case k6 => k_is); (case k7 => k_is); (case k8 => exact Nat.le_of_ble_eq_true rfl); (case k9 => first | exact BindsTo.of_eq rfl | (refine' kp_binds ?kx ?ke; (case kx => k_in); (case ke => exact fun _ => rfl)) | exact binds_K (by k_in) rfl (by k_is) rfl rfl rfl | fail "k_enter: no rule for these arguments"); (case c5 => decide); (case kB => exact locs rfl); (case c2 => exact rfl); (case c3 => exact rfl); (case c4 => exact rfl); intro L' h' F' N' B' X' T'; (try dsimp only))))
  k_fold
  have kMark := kstMark
  (repeat' ((fail_if_success (with_reducible show wpAny _ _ (exec (Stmt.For _ _ _ _ _) _) _ _ _)); (fail_if_success (with_reducible show wpAny _ _ (exec (Stmt.While _ _ _ _) _) _ _ _)); first | (k_unfold; (try dsimp only)) | walk1 | (dsimp only; walk1) | (dsimp only [List.cons_append, List.nil_append]; walk1)))
  (((with_reducible show wpAny _ _ (exec (Stmt.For _ _ _ _ _) _) _ _ _); (rename Fr _ _ _ _ => lF'); (with_unfolding_all refine' For_invVF lF' ?k1 ?k2 ?_; (case k1 => exact rfl); (case k2 => exact rfl); k_whole)))
  repeat' ((fail_if_success (with_reducible show wpAny _ _ (pyIter _) _ _ _)); first | (k_unfold; (try dsimp only)) | walk1 | (dsimp only; walk1) | (dsimp only [List.cons_append, List.nil_append]; walk1))
  ((rename Fr _ _ _ _ => lF'); (rename News _ _ _ _ => lN'); (rename IsRange _ _ _ _ _ _ _ _ => rgX))
  with_unfolding_all refine' range_loop (σ := List Value × List Int × Nat) (fun c => [(_, listOf c.1.toArray c.2.2)]) (fun c => []) (fun c => IntsAre c.1 c.2.1) [Str.ofString "piece", Str.ofString "number"] (fun i c => OctInv xs i c.2.1) ([], [], _) rfl rgX (small4 hz) (range4 _) lF' ?kn ?kf ?kk ?kp ?_ ?_
  case kn => exact lN'
  case kk => kst_all
  case kf => exact .nil
  case kp => simp [OctInv, dec]
  · clear lF' lN' rgX
    intro ⟨vs, out, nn⟩ i t u h tk own hi hoff hI hP F9 N9
    dsimp only [kstB] at F9 N9 hI hP hoff
    simp only [List.nil_append, List.cons_append, List.append_nil] at N9
    simp only [List.map_cons, List.map_nil] at hoff
    have hol := hP.len hz
    have hvl := hI.length
    (try k_fold)
    rcases shape4 hi hm with ⟨x0, x1, x2, x3, rr, hd⟩ | ⟨x0, x1, x2, hd⟩ | ⟨x0, x1, hd⟩
    · repeat' ((fail_if_success (with_reducible show wpAny _ _ (subscriptTail _ _ _ _) _ _ _)); first | (k_unfold; (try dsimp only)) | walk1 | (dsimp only; walk1) | (dsimp only [List.cons_append, List.nil_append]; walk1))
      walk1
      rename IntsAre _ (List.take _ _) => hpk
      have hpc : (xs.drop (4 * i)).take 4 = [x0, x1, x2, x3] := by rw [hd]; rfl
      rw [cut4' hi, hpc] at hpk
      have hmem : ∀ x ∈ [x0, x1, x2, x3], 0 ≤ x ∧ x < 64 := fun x hx => hf x (List.mem_of_mem_drop (List.mem_of_mem_take (by rw [hpc]; exact hx)))
      have hb0 : 0 ≤ x0 ∧ x0 < 64 := hmem _ (by simp)
      have hb1 : 0 ≤ x1 ∧ x1 < 64 := hmem _ (by simp)
      have hb2 : 0 ≤ x2 ∧ x2 < 64 := hmem _ (by simp)
      have hb3 : 0 ≤ x3 ∧ x3 < 64 := hmem _ (by simp)
      obtain ⟨w0, w1, w2, w3, hws⟩ := ints4 hpk
      subst hws
      clear hmem
      (rename List.length (List.take _ _) = _ => hj1); clear hj1
      (rename List.length (List.take _ _) ≤ _ => hj2); clear hj2
      show wpAny _ _ _ _ _ _
      repeat' ((fail_if_success (with_reducible show wpAny _ _ (eval (Expr.ListComp _ _ _ _) _) _ _ _)); first | (k_unfold; (try dsimp only)) | walk1 | (dsimp only; walk1) | (dsimp only [List.cons_append, List.nil_append]; walk1))
      with_unfolding_all refine' enum_compF [x0, x1, x2, x3] (fun i k => k * 64 ^ (3 - i)) ?e0 ?eN rfl ?e1 ?e2 ?e3 ?e4 ?e5 ?e6 ?e7 ?e8 ?e9 ?e10 ?e11
      case e0 => k_asm
      case eN => k_asm
      case e1 => with_unfolding_all rfl
      case e2 => decide
      case e3 => rfl
      case e4 => decide
      case e5 => rfl
      case e6 => rfl
      case e7 => decide
      case e8 => simp
      case e9 =>
        repeat' ((fail_if_success (with_reducible show wpAny _ _ (call (Value.type "enumerate") _) _ _ _)); first | (k_unfold; (try dsimp only)) | walk1 | (dsimp only; walk1) | (dsimp only [List.cons_append, List.nil_append]; walk1))
        refine enumAt_list rfl (by assumption) (by assumption) (News.isList (by assumption) (by k_mem)) hpk ⟨_, _, rfl⟩
      case e10 =>
        intro i k u v C m₂ s' E' hk hn ha hb
        have hw : (i = 0 ∧ k = x0) ∨ (i = 1 ∧ k = x1) ∨ (i = 2 ∧ k = x2) ∨ (i = 3 ∧ k = x3) := by
          rcases i with _ | _ | _ | _ | i <;> simp at hk <;> simp [hk]
        refine wpAny_BinOp (wpAny_Name (wpAny_loadName_local rfl rfl hn hb ?_) (by decide))
        refine wpAny_BinOp ?_
        walk1
        refine wpAny_BinOp ?_
        walk1
        refine wpAny_Name (wpAny_loadName_local rfl rfl hn ha ?_) (by decide)
        rcases hw with ⟨rfl, rfl⟩ | ⟨rfl, rfl⟩ | ⟨rfl, rfl⟩ | ⟨rfl, rfl⟩
        all_goals (
          walk1
          walk1
          walk1
          exact ⟨_, _, rfl, rfl⟩)
      case e11 =>
        intro D ys h' tk F9 N9 hlt9 hI9
        simp only [List.zipIdx_cons, List.zipIdx_nil, List.map_cons, List.map_nil] at hI9
        k_lt hlt9
        repeat' ((fail_if_success (with_reducible show wpAny _ _ (storeName _ _ _) _ _ _)); first | (k_unfold; (try dsimp only)) | walk1 | (dsimp only; walk1) | (dsimp only [List.cons_append, List.nil_append]; walk1))
        generalize hnb : x0 * 64 ^ (3 - 0) + _ = nb
        obtain ⟨hfg, hnb0, hnb1⟩ := oct4 hb0 hb1 hb2 hb3 hnb
        repeat' ((fail_if_success (with_reducible show wpAny _ _ (inplaceOp _ _ _) _ _ _)); first | (k_unfold; (try dsimp only)) | walk1 | (dsimp only; walk1) | (dsimp only [List.cons_append, List.nil_append]; walk1))
        refine' iadd_K ?q1 ?q2 (List.mem_cons_self ..) ?hpos ?hzz ?hU ?_
        case q1 => k_asm
        case q2 => k_asm
        case hU => k_upd
        case hpos => simp
        case hzz => (simp only [List.size_toArray, List.length_cons, List.length_nil]; omega)
        intro h3 F3 N3
        repeat' ((fail_if_success (with_reducible show InvEndN _ _ _ _ _ _ _)); first | (k_unfold; (try dsimp only)) | walk1 | (dsimp only; walk1) | (dsimp only [List.cons_append, List.nil_append]; walk1))
        (rename News _ _ _ _ => nE')
        simp only [List.append_toArray] at nE'
        exact kst_end (vs ++ [.int (nb.fdiv 65536) _, .int ((nb.fdiv 256).fmod 256) _, .int (nb.fmod 256) _], out ++ [nb.fdiv 65536, (nb.fdiv 256).fmod 256, nb.fmod 256], nn + 1) (by assumption) nE' (by exact List.forall_mem_cons.mpr ⟨.tail _ (.tail _ (.tail _ (.tail _ (.head _)))), List.forall_mem_nil _⟩) (by intro p hp; kst_mem) (by rfl) (IntsAre.append hI (.cons _ _ (.cons _ _ (.cons _ _ (.nil))))) (by kst_all) (by (intro z h1 h2 h3; simp only [List.contains_cons, List.contains_nil, Bool.or_false, Bool.or_eq_false_iff, beq_eq_false_iff_ne, ne_eq] at h3; by_cases hf9 : z = Str.ofString "octets" <;> simp [h1, h3, hf9])) (hP.more hi hpc hfg)
    · repeat' ((fail_if_success (with_reducible show wpAny _ _ (subscriptTail _ _ _ _) _ _ _)); first | (k_unfold; (try dsimp only)) | walk1 | (dsimp only; walk1) | (dsimp only [List.cons_append, List.nil_append]; walk1))
      walk1
      rename IntsAre _ (List.take _ _) => hpk
      have hpc : (xs.drop (4 * i)).take 4 = [x0, x1, x2] := by rw [hd]; rfl
      rw [cut4' hi, hpc] at hpk
      have hmem : ∀ x ∈ [x0, x1, x2], 0 ≤ x ∧ x < 64 := fun x hx => hf x (List.mem_of_mem_drop (List.mem_of_mem_take (by rw [hpc]; exact hx)))
      have hb0 : 0 ≤ x0 ∧ x0 < 64 := hmem _ (by simp)
      have hb1 : 0 ≤ x1 ∧ x1 < 64 := hmem _ (by simp)
      have hb2 : 0 ≤ x2 ∧ x2 < 64 := hmem _ (by simp)
      obtain ⟨w0, w1, w2, hws⟩ := ints3 hpk
      subst hws
      clear hmem
      (rename List.length (List.take _ _) = _ => hj1); clear hj1
      (rename List.length (List.take _ _) ≤ _ => hj2); clear hj2
      show wpAny _ _ _ _ _ _
      repeat' ((fail_if_success (with_reducible show wpAny _ _ (eval (Expr.ListComp _ _ _ _) _) _ _ _)); first | (k_unfold; (try dsimp only)) | walk1 | (dsimp only; walk1) | (dsimp only [List.cons_append, List.nil_append]; walk1))
      with_unfolding_all refine' enum_compF [x0, x1, x2] (fun i k => k * 64 ^ (3 - i)) ?e0 ?eN rfl ?e1 ?e2 ?e3 ?e4 ?e5 ?e6 ?e7 ?e8 ?e9 ?e10 ?e11
      case e0 => k_asm
      case eN => k_asm
      case e1 => with_unfolding_all rfl
      case e2 => decide
      case e3 => rfl
      case e4 => decide
      case e5 => rfl
      case e6 => rfl
      case e7 => decide
      case e8 => simp
      case e9 =>
        repeat' ((fail_if_success (with_reducible show wpAny _ _ (call (Value.type "enumerate") _) _ _ _)); first | (k_unfold; (try dsimp only)) | walk1 | (dsimp only; walk1) | (dsimp only [List.cons_append, List.nil_append]; walk1))
        refine enumAt_list rfl (by assumption) (by assumption) (News.isList (by assumption) (by k_mem)) hpk ⟨_, _, rfl⟩
      case e10 =>
        intro i k u v C m₂ s' E' hk hn ha hb
        have hw : (i = 0 ∧ k = x0) ∨ (i = 1 ∧ k = x1) ∨ (i = 2 ∧ k = x2) := by
          rcases i with _ | _ | _ | i <;> simp at hk <;> simp [hk]
        refine wpAny_BinOp (wpAny_Name (wpAny_loadName_local rfl rfl hn hb ?_) (by decide))
        refine wpAny_BinOp ?_
        walk1
        refine wpAny_BinOp ?_
        walk1
        refine wpAny_Name (wpAny_loadName_local rfl rfl hn ha ?_) (by decide)
        rcases hw with ⟨rfl, rfl⟩ | ⟨rfl, rfl⟩ | ⟨rfl, rfl⟩
        all_goals (
          walk1
          walk1
          walk1
          exact ⟨_, _, rfl, rfl⟩)
      case e11 =>
        intro D ys h' tk F9 N9 hlt9 hI9
        simp only [List.zipIdx_cons, List.zipIdx_nil, List.map_cons, List.map_nil] at hI9
        k_lt hlt9
        repeat' ((fail_if_success (with_reducible show wpAny _ _ (storeName _ _ _) _ _ _)); first | (k_unfold; (try dsimp only)) | walk1 | (dsimp only; walk1) | (dsimp only [List.cons_append, List.nil_append]; walk1))
        generalize hnb : x0 * 64 ^ (3 - 0) + _ = nb
        obtain ⟨hfg, hnb0, hnb1⟩ := oct3 hb0 hb1 hb2 hnb
        repeat' ((fail_if_success (with_reducible show wpAny _ _ (inplaceOp _ _ _) _ _ _)); first | (k_unfold; (try dsimp only)) | walk1 | (dsimp only; walk1) | (dsimp only [List.cons_append, List.nil_append]; walk1))
        refine' iadd_K ?q1 ?q2 (List.mem_cons_self ..) ?hpos ?hzz ?hU ?_
        case q1 => k_asm
        case q2 => k_asm
        case hU => k_upd
        case hpos => simp
        case hzz => (simp only [List.size_toArray, List.length_cons, List.length_nil]; omega)
        intro h3 F3 N3
        repeat' ((fail_if_success (with_reducible show InvEndN _ _ _ _ _ _ _)); first | (k_unfold; (try dsimp only)) | walk1 | (dsimp only; walk1) | (dsimp only [List.cons_append, List.nil_append]; walk1))
        (rename News _ _ _ _ => nE')
        simp only [List.append_toArray] at nE'
        exact kst_end (vs ++ [.int (nb.fdiv 65536) _, .int ((nb.fdiv 256).fmod 256) _], out ++ [nb.fdiv 65536, (nb.fdiv 256).fmod 256], nn + 1) (by assumption) nE' (by exact List.forall_mem_cons.mpr ⟨.tail _ (.tail _ (.tail _ (.tail _ (.head _)))), List.forall_mem_nil _⟩) (by intro p hp; kst_mem) (by rfl) (IntsAre.append hI (.cons _ _ (.cons _ _ (.nil)))) (by kst_all) (by (intro z h1 h2 h3; simp only [List.contains_cons, List.contains_nil, Bool.or_false, Bool.or_eq_false_iff, beq_eq_false_iff_ne, ne_eq] at h3; by_cases hf9 : z = Str.ofString "octets" <;> simp [h1, h3, hf9])) (hP.more hi hpc hfg)
    · repeat' ((fail_if_success (with_reducible show wpAny _ _ (subscriptTail _ _ _ _) _ _ _)); first | (k_unfold; (try dsimp only)) | walk1 | (dsimp only; walk1) | (dsimp only [List.cons_append, List.nil_append]; walk1))
      walk1
      rename IntsAre _ (List.take _ _) => hpk
      have hpc : (xs.drop (4 * i)).take 4 = [x0, x1] := by rw [hd]; rfl
      rw [cut4' hi, hpc] at hpk
      have hmem : ∀ x ∈ [x0, x1], 0 ≤ x ∧ x < 64 := fun x hx => hf x (List.mem_of_mem_drop (List.mem_of_mem_take (by rw [hpc]; exact hx)))
      have hb0 : 0 ≤ x0 ∧ x0 < 64 := hmem _ (by simp)
      have hb1 : 0 ≤ x1 ∧ x1 < 64 := hmem _ (by simp)
      obtain ⟨w0, w1, hws⟩ := ints2 hpk
      subst hws
      clear hmem
      (rename List.length (List.take _ _) = _ => hj1); clear hj1
      (rename List.length (List.take _ _) ≤ _ => hj2); clear hj2
      show wpAny _ _ _ _ _ _
      repeat' ((fail_if_success (with_reducible show wpAny _ _ (eval (Expr.ListComp _ _ _ _) _) _ _ _)); first | (k_unfold; (try dsimp only)) | walk1 | (dsimp only; walk1) | (dsimp only [List.cons_append, List.nil_append]; walk1))
      with_unfolding_all refine' enum_compF [x0, x1] (fun i k => k * 64 ^ (3 - i)) ?e0 ?eN rfl ?e1 ?e2 ?e3 ?e4 ?e5 ?e6 ?e7 ?e8 ?e9 ?e10 ?e11
      case e0 => k_asm
      case eN => k_asm
      case e1 => with_unfolding_all rfl
      case e2 => decide
      case e3 => rfl
      case e4 => decide
      case e5 => rfl
      case e6 => rfl
      case e7 => decide
      case e8 => simp
      case e9 =>
        repeat' ((fail_if_success (with_reducible show wpAny _ _ (call (Value.type "enumerate") _) _ _ _)); first | (k_unfold; (try dsimp only)) | walk1 | (dsimp only; walk1) | (dsimp only [List.cons_append, List.nil_append]; walk1))
        refine enumAt_list rfl (by assumption) (by assumption) (News.isList (by assumption) (by k_mem)) hpk ⟨_, _, rfl⟩
      case e10 =>
        intro i k u v C m₂ s' E' hk hn ha hb
        have hw : (i = 0 ∧ k = x0) ∨ (i = 1 ∧ k = x1) := by
          rcases i with _ | _ | i <;> simp at hk <;> simp [hk]
        refine wpAny_BinOp (wpAny_Name (wpAny_loadName_local rfl rfl hn hb ?_) (by decide))
        refine wpAny_BinOp ?_
        walk1
        refine wpAny_BinOp ?_
        walk1
        refine wpAny_Name (wpAny_loadName_local rfl rfl hn ha ?_) (by decide)
        rcases hw with ⟨rfl, rfl⟩ | ⟨rfl, rfl⟩
        all_goals (
          walk1
          walk1
          walk1
          exact ⟨_, _, rfl, rfl⟩)
      case e11 =>
        intro D ys h' tk F9 N9 hlt9 hI9
        simp only [List.zipIdx_cons, List.zipIdx_nil, List.map_cons, List.map_nil] at hI9
        k_lt hlt9
        repeat' ((fail_if_success (with_reducible show wpAny _ _ (storeName _ _ _) _ _ _)); first | (k_unfold; (try dsimp only)) | walk1 | (dsimp only; walk1) | (dsimp only [List.cons_append, List.nil_append]; walk1))
        generalize hnb : x0 * 64 ^ (3 - 0) + _ = nb
        obtain ⟨hfg, hnb0, hnb1⟩ := oct2 hb0 hb1 hnb
        repeat' ((fail_if_success (with_reducible show wpAny _ _ (inplaceOp _ _ _) _ _ _)); first | (k_unfold; (try dsimp only)) | walk1 | (dsimp only; walk1) | (dsimp only [List.cons_append, List.nil_append]; walk1))
        refine' iadd_K ?q1 ?q2 (List.mem_cons_self ..) ?hpos ?hzz ?hU ?_
        case q1 => k_asm
        case q2 => k_asm
        case hU => k_upd
        case hpos => simp
        case hzz => (simp only [List.size_toArray, List.length_cons, List.length_nil]; omega)
        intro h3 F3 N3
        repeat' ((fail_if_success (with_reducible show InvEndN _ _ _ _ _ _ _)); first | (k_unfold; (try dsimp only)) | walk1 | (dsimp only; walk1) | (dsimp only [List.cons_append, List.nil_append]; walk1))
        (rename News _ _ _ _ => nE')
        simp only [List.append_toArray] at nE'
        exact kst_end (vs ++ [.int (nb.fdiv 65536) _], out ++ [nb.fdiv 65536], nn + 1) (by assumption) nE' (by exact List.forall_mem_cons.mpr ⟨.tail _ (.tail _ (.tail _ (.tail _ (.head _)))), List.forall_mem_nil _⟩) (by intro p hp; kst_mem) (by rfl) (IntsAre.append hI (.cons _ _ (.nil))) (by kst_all) (by (intro z h1 h2 h3; simp only [List.contains_cons, List.contains_nil, Bool.or_false, Bool.or_eq_false_iff, beq_eq_false_iff_ne, ne_eq] at h3; by_cases hf9 : z = Str.ofString "octets" <;> simp [h1, h3, hf9])) (hP.more hi hpc hfg)
  · clear lF' lN' rgX
    intro ⟨vs, out, nn⟩ u h tk hI hP F9 N9
    dsimp only [kstB] at F9 N9 hI hP
    have hol := hP.len hz
    obtain rfl := hP.fin
    have hvl := hI.length
    have hfin := dec_in xs hf
    dsimp only
    (try k_fold)
    (repeat' ((fail_if_success (with_reducible show wpAny _ _ (exec (Stmt.For _ _ _ _ _) _) _ _ _)); first | (k_unfold; (try dsimp only)) | walk1 | (dsimp only; walk1) | (dsimp only [List.cons_append, List.nil_append]; walk1)))
    exact hret _ _ _ (by assumption) (Fr.keep (by assumption)) ⟨_, _, rfl, KBa.ints_make hfin⟩
end

section
local macro_rules | `(tactic| walk_at "getMethod str") => `(tactic| with_reducible refine encode_method ?_)
theorem sig_con (w : World) (l : Addr) (vs0 : List Value) (xs : List Int) (hI0 : IntsAre vs0 xs) (hf : Fig xs) (hz : xs.length ≤ 1000) :
    Con w 400 2000 135 ⟨[.ref l], []⟩ (fun h => h.IsList l vs0.toArray) (fun _ r => ∃ b' t', r = .bytes b' t' ∧ KBw.bInts b' = xs.map sg ++ List.replicate (pad4 xs.length) 61) := by
  w_on
  unfold Con prg
  k_fill
  intro mean mg mb gd env outer A₀ base h₀ L m s R B F X T hef hek hpre hret
  have hvl0 := hI0.length
  k_dflt ((( refine' code_defC0 (by assumption) (by assumption) (by assumption) (by assumption) ?kA (by assumption) (by assumption) ?k6 ?k7 ?k8 ?k9 ?kB ?kD ?_ ?c2 ?c3 ?c4; (case kA => exact rfl); (case k6 => k_is); (case k7 => k_is); (case k8 => exact Nat.le_of_ble_eq_true rfl); (case k9 => exact BindsTo.of_eq rfl); (case kB => exact rfl); (case kD => decide +kernel); (case c2 => exact rfl); (case c3 => exact rfl); (case c4 => exact rfl); intro L' h' tk' cells' F' N' Y' B' X' T'; k_cells Y'; (try dsimp only))))
  show wpAny _ _ _ _ _ _
  k_fold
  have kMark := kstMark
  repeat' ((fail_if_success (with_reducible show wpAny _ _ (eval (Expr.ListComp _ _ _ _) _) _ _ _)); first | (k_unfold; (try dsimp only)) | walk1 | (dsimp only; walk1) | (dsimp only [List.cons_append, List.nil_append]; walk1))
  rename _ = Data.cell (some (Value.str _ _)) => hcl
  with_unfolding_all refine' name_comp vs0.length (fun i v => vs0[i]? = some v) (fun i y => ∃ t, y = .str (sgS (xs.getD i 0)) t) ?f0 ?fN ?f1 ?f2 ?f3 ?f4 ?f5 ?f6 ?f7 ?f8 ?f9
  case f0 => k_asm
  case fN => k_asm
  case f1 => with_unfolding_all rfl
  case f2 => decide
  case f3 => rfl
  case f4 => decide
  case f5 => rfl
  case f6 => omega
  case f7 =>
    repeat' ((fail_if_success (with_reducible show wpAny _ _ (pyIter _) _ _ _)); first | (k_unfold; (try dsimp only)) | walk1 | (dsimp only; walk1) | (dsimp only [List.cons_append, List.nil_append]; walk1))
    exact iterAt_list rfl (by assumption) (by assumption) (stays_list (Fr.keep (by assumption)) hpre) ⟨_, _, rfl⟩
  case f8 =>
    intro i v C m₂ s' E' hi hv hn hx hnw _
    have hcell := hnw (_, _) (List.mem_cons_self ..)
    have hil : i < xs.length := by omega
    obtain ⟨tv, hv'⟩ := hI0.get i xs[i] (by simp [hil])
    rw [hv] at hv'
    cases hv'
    have hfi := hf xs[i] (List.getElem_mem _)
    refine Subscript_ (wpAny_Name (wpAny_loadName_cell rfl rfl rfl ⟨_, hcell, hcl⟩ ?_) (by decide))
    refine wpAny_Name (wpAny_loadName_local rfl rfl hn hx ?_) (by decide)
    refine subscriptTail_builtin (typeIs_str _ _ _) PySem.F.slot_str_getitem.lookup (P.getItem_str ?_ (abc_at hfi.1 hfi.2) ?_)
    · have h1 : ¬ (xs[i] < -(2 ^ 63 : Int)) := by omega
      have h2 : ¬ (xs[i] ≥ (2 ^ 63 : Int)) := by omega
      rw [decide_eq_false h1, decide_eq_false h2]; rfl
    · have e9 : sgS (xs.getD i 0) = ⟨#[(sg xs[i]).toNat]⟩ := by rw [List.getD_eq_getElem?_getD, List.getElem?_eq_getElem hil]; rfl
      rw [e9]
      exact ⟨⟨_, rfl⟩, _, _, rfl, fun _ _ q => q⟩
  case f9 =>
    intro D ys h2 tk2 F2 N2 hlt2 hyl hyG
    have hst := strs_of xs ys (by omega) hyG
    k_lt hlt2
    repeat' ((fail_if_success (with_reducible show wpAny _ _ (call (Value.builtin "str.join") _) _ _ _)); first | (k_unfold; (try dsimp only)) | walk1 | (dsimp only; walk1) | (dsimp only [List.cons_append, List.nil_append]; walk1))
    dsimp only [List.cons_append, List.nil_append]
    refine join_listC (ys := xs.map sgS) (News.isList N2 (List.mem_cons_self ..)) (by simpa using hst) (by decide) ?_ ?_
    · have e9 : (xs.map sgS).map (·.length) = xs.map fun _ => 1 := by rw [List.map_map]; apply List.map_congr_left; intro k _; rfl
      rw [e9, List.length_map]
      have e8 := sum_ones xs
      omega
    intro t9 k9
    rw [join_signs]
    have hsl := signs_len xs
    show wpAny _ _ (storeName _ _ (Value.str (signsOf xs) t9)) _ _ _
    repeat' ((fail_if_success (with_reducible show wpAny _ _ (call (Value.builtin "str.encode") _) _ _ _)); first | (k_unfold; (try dsimp only)) | walk1 | (dsimp only; walk1) | (dsimp only [List.cons_append, List.nil_append]; walk1))
    dsimp only [List.cons_append, List.nil_append]
    refine encode_ascii (told_ascii xs) (told_size xs hz) ?_
    intro t8 k8
    (repeat' ((fail_if_success (with_reducible show wpAny _ _ (exec (Stmt.For _ _ _ _ _) _) _ _ _)); first | (k_unfold; (try dsimp only)) | walk1 | (dsimp only; walk1) | (dsimp only [List.cons_append, List.nil_append]; walk1)))
    exact hret _ _ _ (by assumption) (Fr.keep (by assumption)) ⟨_, _, rfl, told_ints xs⟩
end

section

theorem told_enc {o : Array UInt8} {xs : List Int} (h : KBw.bInts o = List.map sg (figs xs) ++ List.replicate (pad4 (figs xs).length) 61) : KBw.bInts o = enc xs := h.trans (enc_told xs).symm
theorem told_enc2 {o : Array UInt8} {F : List Int} (h : KBw.bInts o = List.map sg F ++ List.replicate (pad4 F.length) 61) (hF : Fig F) (hE : Ends F) : KBw.bInts o = enc (dec F) :=
  h.trans (by rw [enc_told, figs_dec F hF hE])
theorem oct_dec {o : Array UInt8} {xs : List Int} (h : KBw.bInts o = xs) (hin : KBa.In xs) : KBw.bInts o = dec (figs xs) := h.trans (dec_figs xs hin).symm
theorem enc_conT (w : World) (self : Addr) (b : Array UInt8) (t : Tok) (xs : List Int) (o : Array UInt8) (hb : KBw.bInts b = xs) (hz : xs.length ≤ 1000) (ho : KBw.bInts o = enc xs) :
    Con w 400 2000 106 ⟨[.ref self, .bytes b t], []⟩ (fun _ => True) (fun _ r => ∃ t', r = .bytes o t') :=
  (enc_con w self b t xs hb hz).mono (fun _ h => h) fun _ r ⟨b', t', e, h⟩ => ⟨t', by rw [e, bints_inj (h.trans ho.symm)]⟩
theorem dec_conT (w : World) (self : Addr) (b : Array UInt8) (t : Tok) (figs : List Int) (k : Nat) (o : Array UInt8) (hb : KBw.bInts b = figs.map sg ++ List.replicate k 61) (hf : Fig figs) (hz : figs.length ≤ 1000)
    (hk : (figs.length % 4 = 0 ∧ k = 0) ∨ (figs.length % 4 = 2 ∧ k = 2) ∨ (figs.length % 4 = 3 ∧ k = 1)) (ho : KBw.bInts o = dec figs) :
    Con w 400 2000 113 ⟨[.ref self, .bytes b t], []⟩ (fun _ => True) (fun _ r => ∃ t', r = .bytes o t') :=
  (dec_con w self b t figs k hb hf hz hk).mono (fun _ h => h) fun _ r ⟨b', t', e, h⟩ => ⟨t', by rw [e, bints_inj (h.trans ho.symm)]⟩

theorem ends_of {A E : List Int} (hl : A.length % 4 = 0) (hE : E = [] ∨ (∃ a b c, E = [a, b, c] ∧ c % 4 = 0) ∨ (∃ a b, E = [a, b] ∧ b % 16 = 0)) : Ends (A ++ E) := by
  rcases hE with rfl | ⟨a, b, c, rfl, h⟩ | ⟨a, b, rfl, h⟩
  · exact Or.inl (by simpa using hl)
  · refine Or.inr (Or.inl ⟨?_, ?_⟩)
    · simp only [List.length_append, List.length_cons, List.length_nil]; omega
    · simp [List.getLast?_append]; omega
  · refine Or.inr (Or.inr ⟨?_, ?_⟩)
    · simp only [List.length_append, List.length_cons, List.length_nil]; omega
    · simp [List.getLast?_append]; omega
theorem pad4_mul (m k : Nat) : pad4 (4 * m + k) = pad4 k := by unfold pad4; rw [Nat.mul_add_mod]
theorem turn_len {n k : Nat} (h : n % 4 = 0) (hk : k = 0 ∨ k = 3 ∨ k = 2) : (n + k) % 4 ≠ 1 ∧ (((n + k) % 4 = 0 ∧ pad4 (n + k) = 0) ∨ ((n + k) % 4 = 2 ∧ pad4 (n + k) = 2) ∨ ((n + k) % 4 = 3 ∧ pad4 (n + k) = 1)) := by
  obtain ⟨m, rfl⟩ := Nat.dvd_of_mod_eq_zero h
  rw [pad4_mul, Nat.mul_add_mod]
  rcases hk with rfl | rfl | rfl <;> decide
theorem turn_of {A E : List Int} (hf : Fig A) (hl : A.length % 4 = 0) (hz : A.length ≤ 900) (hEf : Fig E) (hE : E = [] ∨ (∃ a b c, E = [a, b, c] ∧ c % 4 = 0) ∨ (∃ a b, E = [a, b] ∧ b % 16 = 0)) :
    Fig (A ++ E) ∧ Ends (A ++ E) ∧ (A ++ E).length ≤ 1000 ∧ (A ++ E).length % 4 ≠ 1 ∧
      (((A ++ E).length % 4 = 0 ∧ pad4 (A ++ E).length = 0) ∨ ((A ++ E).length % 4 = 2 ∧ pad4 (A ++ E).length = 2) ∨ ((A ++ E).length % 4 = 3 ∧ pad4 (A ++ E).length = 1)) := by
  have hk : E.length = 0 ∨ E.length = 3 ∨ E.length = 2 := by
    rcases hE with rfl | ⟨a, b, c, rfl, _⟩ | ⟨a, b, rfl, _⟩
    · exact .inl rfl
    · exact .inr (.inl rfl)
    · exact .inr (.inr rfl)
  refine ⟨fig_app.mpr ⟨hf, hEf⟩, ends_of hl hE, ?_⟩
  rw [List.length_append]
  exact ⟨by omega, turn_len hl hk⟩
theorem news_take {h₀ h : Heap} {L : Addr} {news : List (Addr × Obj)} (k : Nat) (N : News h₀ L h news) : News h₀ L h (news.take k) := fun p hp => N p (List.mem_of_mem_take hp)
theorem news_cut {h₀ h : Heap} {L : Addr} {a b c x y z : Addr × Obj} {r : List (Addr × Obj)} (N : News h₀ L h (a :: b :: c :: x :: y :: z :: r)) : News h₀ L h (a :: b :: c :: r) := fun p hp => N p (by
  simp only [List.mem_cons] at hp ⊢
  rcases hp with h | h | h | h
  · exact .inl h
  · exact .inr (.inl h)
  · exact .inr (.inr (.inl h))
  · exact .inr (.inr (.inr (.inr (.inr (.inr h))))))
theorem fig_take {A : List Int} (h : Fig A) (n : Nat) : Fig (A.take n) := fun x hx => h x (List.mem_of_mem_take hx)
theorem dec_len' {F : List Int} (h : F.length ≤ 1000) : (dec F).length ≤ 1000 := by have := dec_len F; omega
theorem end3 {a b c : Int} (ha : 0 ≤ a ∧ a < 64) (hb : 0 ≤ b ∧ b < 64) (hc : 0 ≤ c ∧ c < 64) : Fig [a, b, Int.fdiv c 4 * 4] ∧ Int.fdiv c 4 * 4 % 4 = 0 := by
  rw [Int.fdiv_eq_ediv_of_nonneg _ (by decide)]
  exact ⟨fig_cons.mpr ⟨ha, fig_cons.mpr ⟨hb, fig_cons.mpr ⟨by omega, fig_nil⟩⟩⟩, by omega⟩
theorem end2 {a b : Int} (ha : 0 ≤ a ∧ a < 64) (hb : 0 ≤ b ∧ b < 64) : Fig [a, Int.fdiv b 16 * 16] ∧ Int.fdiv b 16 * 16 % 16 = 0 := by
  rw [Int.fdiv_eq_ediv_of_nonneg _ (by decide)]
  exact ⟨fig_cons.mpr ⟨ha, fig_cons.mpr ⟨by omega, fig_nil⟩⟩, by omega⟩
theorem fig_getD {A : List Int} (h : Fig A) (n : Nat) : 0 ≤ A.getD n 0 ∧ A.getD n 0 < 64 := by
  rw [List.getD_eq_getElem?_getD]
  cases e : A[n]? with
  | none => exact ⟨by decide, by decide⟩
  | some x => exact h x (List.mem_of_getElem? e)
theorem bne_l (l : List UInt8) : ¬ ((l != l) = true) := by simp
local macro_rules | `(tactic| walk_at "mine none") => `(tactic| fail "a line that tells this part from the last")
local macro_rules | `(tactic| walk_at "ite") => `(tactic| (with_reducible refine ite_neg (bne_l _) ?_))
theorem post_true (xs : List Int) : PySem.Challenge.rw_mr0008_02.row.claim.post [ofPy (PyData.list (List.map PyData.int xs))] (WData.bool true) [ofPy (PyData.list (List.map PyData.int xs))] = true := by
  w_on
  wrow_post
theorem fm64 (x : Int) : 0 ≤ Int.fmod x 64 ∧ Int.fmod x 64 < 64 := ⟨Int.fmod_nonneg_of_pos _ (by decide), Int.fmod_lt_of_pos _ (by decide)⟩
theorem size_of {q s : Int} (hs : 4 * q = s) (h0 : 0 ≤ q) (h1 : q < 21) : 0 ≤ s ∧ s ≤ 80 ∧ s.toNat % 4 = 0 := by
  obtain ⟨n, rfl⟩ := Int.eq_ofNat_of_zero_le h0
  have e : s = ((4 * n : Nat) : Int) := hs.symm
  subst e
  refine ⟨Int.natCast_nonneg _, by omega, ?_⟩
  rw [Int.toNat_natCast]
  exact Nat.mul_mod_right 4 n
theorem s3_of {s : Int} (h : 0 ≤ s) : (s + 3 - 0).toNat = s.toNat + 3 := by omega
theorem take_len {s : Int} {row : List Int} (hl : row.length = s.toNat + 3) : (List.take s.toNat row).length = s.toNat := by rw [List.length_take, hl]; exact Nat.min_eq_left (Nat.le_add_right _ 3)
theorem take_mod {s : Int} {row : List Int} (_ : 0 ≤ s) (h4 : s.toNat % 4 = 0) (hl : row.length = s.toNat + 3) : (List.take s.toNat row).length % 4 = 0 := by rw [take_len hl]; exact h4
theorem take_le {s : Int} {row : List Int} (_ : 0 ≤ s) (h1 : s ≤ 80) (hl : row.length = s.toNat + 3) : (List.take s.toNat row).length ≤ 900 := by rw [take_len hl]; omega
theorem law_holds : PySem.Challenge.rw_mr0008_02.Holds := hd (by
  w_on
  k_go0
  (all_goals try k_fold)
  repeat' ((fail_if_success (with_reducible show wpAny _ _ (call (Value.ref 125) _) _ _ _)); first | (k_unfold; (try dsimp only)) | walk1 | (dsimp only; walk1) | (dsimp only [List.cons_append, List.nil_append]; walk1))
  rename KBa.In _ => hin
  generalize hxs : List.map _ (rangeKs 0 _) = xs at *
  have hb : KBw.bInts (byteArr xs) = xs := KBa.ints_make hin
  have hz : xs.length ≤ 111 := by rw [← hxs, List.length_map, rangeKs_length]; omega
  have hff := figs_fig xs hin
  have hfl := figs_len xs
  clear hxs
  with_reducible ((with_reducible show wpAny _ _ (call (Value.ref 125) _) _ _ _); k_dflt (refine' conL_use (fig_con _ _ _ _ ?kx ?ky) ?k1 ?k2 ?k3 ?k4 ?k5 ?k6 ?k7 ?k8 ?k9 ?k10 ?k11 trivial ?_; (case kx => assumption); (case ky => (first | assumption | omega)); (( (case k6 => exact rfl); (case k7 => exact rfl); (case k8 => first | exact rfl | assumption); (case k2 => k_asm); (case k4 => k_asm); (case k1 => k_asm); (case k3 => k_asm); (case k5 => k_asm); (case k9 => first | exact rfl | assumption); (case k10 => exact Nat.le_of_ble_eq_true rfl); (case k11 => exact Nat.le_of_ble_eq_true rfl)))); intro l9 vs9 nn9 h9 tk9 F9 N9 hlt9 hI9; (try k_lt hlt9); (try k_sweep))
  repeat' ((fail_if_success (with_reducible show wpAny _ _ (call (Value.ref 135) _) _ _ _)); first | (k_unfold; (try dsimp only)) | walk1 | (dsimp only; walk1) | (dsimp only [List.cons_append, List.nil_append]; walk1))
  with_reducible ((with_reducible show wpAny _ _ (call (Value.ref 135) _) _ _ _); k_dflt (refine' con_use (sig_con _ _ _ _ ?kI ?kF ?kz) ?k1 ?k2 ?k3 ?k4 ?k5 ?k6 ?k7 ?k8 ?k9 ?k10 ?k11 ?kp ?_; (( (case k6 => exact rfl); (case k7 => exact rfl); (case k8 => first | exact rfl | assumption); (case k2 => k_asm); (case k4 => k_asm); (case k1 => k_asm); (case k3 => k_asm); (case k5 => k_asm); (case k9 => first | exact rfl | assumption); (case k10 => exact Nat.le_of_ble_eq_true rfl); (case k11 => exact Nat.le_of_ble_eq_true rfl))); (case kp => first | exact News.isList (by assumption) (by k_mem)); (case kI => assumption); (case kF => assumption); (case kz => (first | assumption | omega))); intro r9 h9 tk9 F9 N9 _ e9; obtain ⟨b9, t9, e9, i9⟩ := e9; subst e9; (try k_sweep))
  repeat' ((fail_if_success (with_reducible show wpAny _ _ (call (Value.ref 106) _) _ _ _)); first | (k_unfold; (try dsimp only)) | walk1 | (dsimp only; walk1) | (dsimp only [List.cons_append, List.nil_append]; walk1))
  with_reducible ((with_reducible show wpAny _ _ (call (Value.ref 106) _) _ _ _); k_dflt (refine' con_use (enc_conT _ _ _ _ _ _ ?kx ?ky ?ko) ?k1 ?k2 ?k3 ?k4 ?k5 ?k6 ?k7 ?k8 ?k9 ?k10 ?k11 trivial ?_; (case kx => assumption); (case ky => (first | assumption | omega)); (case ko => first | exact told_enc (by assumption) | exact told_enc2 (by assumption) (by assumption) (by assumption)); (( (case k6 => exact rfl); (case k7 => exact rfl); (case k8 => first | exact rfl | assumption); (case k2 => k_asm); (case k4 => k_asm); (case k1 => k_asm); (case k3 => k_asm); (case k5 => k_asm); (case k9 => first | exact rfl | assumption); (case k10 => exact Nat.le_of_ble_eq_true rfl); (case k11 => exact Nat.le_of_ble_eq_true rfl)))); intro r9 h9 tk9 F9 N9 _ e9; obtain ⟨t9, e9⟩ := e9; subst e9; (try k_sweep))
  repeat' ((fail_if_success (with_reducible show wpAny _ _ (call (Value.ref 113) _) _ _ _)); first | (k_unfold; (try dsimp only)) | walk1 | (dsimp only; walk1) | (dsimp only [List.cons_append, List.nil_append]; walk1))
  with_reducible ((with_reducible show wpAny _ _ (call (Value.ref 113) _) _ _ _); k_dflt (refine' con_use (dec_conT _ _ _ _ _ _ _ ?kx ?kf ?ky ?kk ?ko) ?k1 ?k2 ?k3 ?k4 ?k5 ?k6 ?k7 ?k8 ?k9 ?k10 ?k11 trivial ?_; (case kx => assumption); (case kf => assumption); (case ky => (first | assumption | omega)); (case kk => first | exact figs_mod _ | assumption); (case ko => first | assumption | exact oct_dec (by assumption) (by assumption)); (( (case k6 => exact rfl); (case k7 => exact rfl); (case k8 => first | exact rfl | assumption); (case k2 => k_asm); (case k4 => k_asm); (case k1 => k_asm); (case k3 => k_asm); (case k5 => k_asm); (case k9 => first | exact rfl | assumption); (case k10 => exact Nat.le_of_ble_eq_true rfl); (case k11 => exact Nat.le_of_ble_eq_true rfl)))); intro r9 h9 tk9 F9 N9 _ e9; obtain ⟨t9, e9⟩ := e9; subst e9; (try k_sweep))
  repeat' ((fail_if_success (with_reducible show wpAny _ _ (eval (PySem.Expr.List _ _) _) _ _ _)); first | (k_unfold; (try dsimp only)) | walk1 | (dsimp only; walk1) | (dsimp only [List.cons_append, List.nil_append]; walk1))
  generalize hq : Int.fmod (17 + _) 21 = q at *
  rename 0 ≤ q => hq0
  rename q < 21 => hq1
  generalize hs : 4 * q = s at *
  generalize hrow : List.map _ (rangeKs 0 (Int.toNat (s + 3 - 0))) = row at *
  obtain ⟨hs0, hs1, hs4⟩ := size_of hs hq0 hq1
  have hrl : row.length = s.toNat + 3 := by rw [← hrow, List.length_map, rangeKs_length]; exact s3_of hs0
  have hrf : Fig row := by
    rw [← hrow]
    intro x hx
    rw [List.mem_map] at hx
    obtain ⟨k, _, rfl⟩ := hx
    exact fm64 _
  clear hrow hs hq hq0 hq1
  repeat' ((fail_if_success (with_reducible show wpAny _ _ (exec (Stmt.For _ _ _ _ _) _) _ _ _)); first | (k_unfold; (try dsimp only)) | walk1 | (dsimp only; walk1) | (dsimp only [List.cons_append, List.nil_append]; walk1))
  rename News _ _ _ _ => nL
  replace nL := news_take 8 nL
  dsimp only [List.take] at nL
  generalize ha : List.getD row (Int.toNat s) 0 = a at *
  generalize hbb : List.getD row (Int.toNat (s + 1)) 0 = b at *
  generalize hc : List.getD row (Int.toNat (s + 2)) 0 = c at *
  have ha' : 0 ≤ a ∧ a < 64 := by rw [← ha]; exact fig_getD hrf _
  have hb' : 0 ≤ b ∧ b < 64 := by rw [← hbb]; exact fig_getD hrf _
  have hc' : 0 ≤ c ∧ c < 64 := by rw [← hc]; exact fig_getD hrf _
  clear ha hbb hc
  have hTf := fig_take hrf (Int.toNat s)
  have hTl := take_mod hs0 hs4 hrl
  have hTz := take_le hs0 hs1 hrl
  repeat' ((fail_if_success (with_reducible show wpAny _ _ (call (Value.ref 135) _) _ _ _)); first | (k_unfold; (try dsimp only)) | walk1 | (dsimp only; walk1) | (dsimp only [List.cons_append, List.nil_append]; walk1))
  rename IntsAre _ (List.take _ row ++ _) => hIF1
  obtain ⟨hFf1, hFe1, hFz1, hFm1, hFk1⟩ := turn_of (A := List.take (Int.toNat s) row) (E := []) hTf hTl hTz fig_nil (Or.inl rfl)
  generalize hFF : List.take (Int.toNat s) row ++ [] = F1 at hIF1 hFf1 hFe1 hFz1 hFm1 hFk1
  clear hFF
  have hFy1 := dec_len' hFz1
  with_reducible ((with_reducible show wpAny _ _ (call (Value.ref 135) _) _ _ _); k_dflt (refine' con_use (sig_con _ _ _ _ ?kI ?kF ?kz) ?k1 ?k2 ?k3 ?k4 ?k5 ?k6 ?k7 ?k8 ?k9 ?k10 ?k11 ?kp ?_; (( (case k6 => exact rfl); (case k7 => exact rfl); (case k8 => first | exact rfl | assumption); (case k2 => k_asm); (case k4 => k_asm); (case k1 => k_asm); (case k3 => k_asm); (case k5 => k_asm); (case k9 => first | exact rfl | assumption); (case k10 => exact Nat.le_of_ble_eq_true rfl); (case k11 => exact Nat.le_of_ble_eq_true rfl))); (case kp => first | exact News.isList (by assumption) (by k_mem)); (case kI => assumption); (case kF => assumption); (case kz => (first | assumption | omega))); intro r9 h9 tk9 F9 N9 _ e9; obtain ⟨b9, t9, e9, i9⟩ := e9; subst e9; (try k_sweep))
  repeat' ((fail_if_success (with_reducible show wpAny _ _ (call (Value.ref 130) _) _ _ _)); first | (k_unfold; (try dsimp only)) | walk1 | (dsimp only; walk1) | (dsimp only [List.cons_append, List.nil_append]; walk1))
  with_reducible ((with_reducible show wpAny _ _ (call (Value.ref 130) _) _ _ _); k_dflt (refine' con_use (oct_con _ _ _ _ ?kI ?kF ?kz ?km) ?k1 ?k2 ?k3 ?k4 ?k5 ?k6 ?k7 ?k8 ?k9 ?k10 ?k11 ?kp ?_; (( (case k6 => exact rfl); (case k7 => exact rfl); (case k8 => first | exact rfl | assumption); (case k2 => k_asm); (case k4 => k_asm); (case k1 => k_asm); (case k3 => k_asm); (case k5 => k_asm); (case k9 => first | exact rfl | assumption); (case k10 => exact Nat.le_of_ble_eq_true rfl); (case k11 => exact Nat.le_of_ble_eq_true rfl))); (case kp => first | exact News.isList (by assumption) (by k_mem)); (case kI => assumption); (case kF => assumption); (case kz => (first | assumption | omega)); (case km => (first | assumption | omega))); intro r9 h9 tk9 F9 N9 _ e9; obtain ⟨b9, t9, e9, i9⟩ := e9; subst e9; (try k_sweep))
  repeat' ((fail_if_success (with_reducible show wpAny _ _ (call (Value.ref 113) _) _ _ _)); first | (k_unfold; (try dsimp only)) | walk1 | (dsimp only; walk1) | (dsimp only [List.cons_append, List.nil_append]; walk1))
  with_reducible ((with_reducible show wpAny _ _ (call (Value.ref 113) _) _ _ _); k_dflt (refine' con_use (dec_conT _ _ _ _ _ _ _ ?kx ?kf ?ky ?kk ?ko) ?k1 ?k2 ?k3 ?k4 ?k5 ?k6 ?k7 ?k8 ?k9 ?k10 ?k11 trivial ?_; (case kx => assumption); (case kf => assumption); (case ky => (first | assumption | omega)); (case kk => first | exact figs_mod _ | assumption); (case ko => first | assumption | exact oct_dec (by assumption) (by assumption)); (( (case k6 => exact rfl); (case k7 => exact rfl); (case k8 => first | exact rfl | assumption); (case k2 => k_asm); (case k4 => k_asm); (case k1 => k_asm); (case k3 => k_asm); (case k5 => k_asm); (case k9 => first | exact rfl | assumption); (case k10 => exact Nat.le_of_ble_eq_true rfl); (case k11 => exact Nat.le_of_ble_eq_true rfl)))); intro r9 h9 tk9 F9 N9 _ e9; obtain ⟨t9, e9⟩ := e9; subst e9; (try k_sweep))
  repeat' ((fail_if_success (with_reducible show wpAny _ _ (call (Value.ref 106) _) _ _ _)); first | (k_unfold; (try dsimp only)) | walk1 | (dsimp only; walk1) | (dsimp only [List.cons_append, List.nil_append]; walk1))
  with_reducible ((with_reducible show wpAny _ _ (call (Value.ref 106) _) _ _ _); k_dflt (refine' con_use (enc_conT _ _ _ _ _ _ ?kx ?ky ?ko) ?k1 ?k2 ?k3 ?k4 ?k5 ?k6 ?k7 ?k8 ?k9 ?k10 ?k11 trivial ?_; (case kx => assumption); (case ky => (first | assumption | omega)); (case ko => first | exact told_enc (by assumption) | exact told_enc2 (by assumption) (by assumption) (by assumption)); (( (case k6 => exact rfl); (case k7 => exact rfl); (case k8 => first | exact rfl | assumption); (case k2 => k_asm); (case k4 => k_asm); (case k1 => k_asm); (case k3 => k_asm); (case k5 => k_asm); (case k9 => first | exact rfl | assumption); (case k10 => exact Nat.le_of_ble_eq_true rfl); (case k11 => exact Nat.le_of_ble_eq_true rfl)))); intro r9 h9 tk9 F9 N9 _ e9; obtain ⟨t9, e9⟩ := e9; subst e9; (try k_sweep))
  clear hFf1 hFe1 hFz1 hFm1 hFk1 hFy1 hIF1
  repeat' ((fail_if_success (with_reducible show wpAny _ _ (call (Value.ref 135) _) _ _ _)); first | (k_unfold; (try dsimp only)) | walk1 | (dsimp only; walk1) | (dsimp only [List.cons_append, List.nil_append]; walk1))
  rename News _ _ _ _ => nL
  replace nL := news_cut nL
  rename IntsAre _ (List.take _ row ++ _) => hIF2
  obtain ⟨hFf2, hFe2, hFz2, hFm2, hFk2⟩ := turn_of (A := List.take (Int.toNat s) row) (E := [a, b, Int.fdiv c 4 * 4]) hTf hTl hTz (end3 ha' hb' hc').1 (Or.inr (Or.inl ⟨_, _, _, rfl, (end3 ha' hb' hc').2⟩))
  generalize hFF : List.take (Int.toNat s) row ++ [a, b, Int.fdiv c 4 * 4] = F2 at hIF2 hFf2 hFe2 hFz2 hFm2 hFk2
  clear hFF
  have hFy2 := dec_len' hFz2
  with_reducible ((with_reducible show wpAny _ _ (call (Value.ref 135) _) _ _ _); k_dflt (refine' con_use (sig_con _ _ _ _ ?kI ?kF ?kz) ?k1 ?k2 ?k3 ?k4 ?k5 ?k6 ?k7 ?k8 ?k9 ?k10 ?k11 ?kp ?_; (( (case k6 => exact rfl); (case k7 => exact rfl); (case k8 => first | exact rfl | assumption); (case k2 => k_asm); (case k4 => k_asm); (case k1 => k_asm); (case k3 => k_asm); (case k5 => k_asm); (case k9 => first | exact rfl | assumption); (case k10 => exact Nat.le_of_ble_eq_true rfl); (case k11 => exact Nat.le_of_ble_eq_true rfl))); (case kp => first | exact News.isList (by assumption) (by k_mem)); (case kI => assumption); (case kF => assumption); (case kz => (first | assumption | omega))); intro r9 h9 tk9 F9 N9 _ e9; obtain ⟨b9, t9, e9, i9⟩ := e9; subst e9; (try k_sweep))
  repeat' ((fail_if_success (with_reducible show wpAny _ _ (call (Value.ref 130) _) _ _ _)); first | (k_unfold; (try dsimp only)) | walk1 | (dsimp only; walk1) | (dsimp only [List.cons_append, List.nil_append]; walk1))
  with_reducible ((with_reducible show wpAny _ _ (call (Value.ref 130) _) _ _ _); k_dflt (refine' con_use (oct_con _ _ _ _ ?kI ?kF ?kz ?km) ?k1 ?k2 ?k3 ?k4 ?k5 ?k6 ?k7 ?k8 ?k9 ?k10 ?k11 ?kp ?_; (( (case k6 => exact rfl); (case k7 => exact rfl); (case k8 => first | exact rfl | assumption); (case k2 => k_asm); (case k4 => k_asm); (case k1 => k_asm); (case k3 => k_asm); (case k5 => k_asm); (case k9 => first | exact rfl | assumption); (case k10 => exact Nat.le_of_ble_eq_true rfl); (case k11 => exact Nat.le_of_ble_eq_true rfl))); (case kp => first | exact News.isList (by assumption) (by k_mem)); (case kI => assumption); (case kF => assumption); (case kz => (first | assumption | omega)); (case km => (first | assumption | omega))); intro r9 h9 tk9 F9 N9 _ e9; obtain ⟨b9, t9, e9, i9⟩ := e9; subst e9; (try k_sweep))
  repeat' ((fail_if_success (with_reducible show wpAny _ _ (call (Value.ref 113) _) _ _ _)); first | (k_unfold; (try dsimp only)) | walk1 | (dsimp only; walk1) | (dsimp only [List.cons_append, List.nil_append]; walk1))
  with_reducible ((with_reducible show wpAny _ _ (call (Value.ref 113) _) _ _ _); k_dflt (refine' con_use (dec_conT _ _ _ _ _ _ _ ?kx ?kf ?ky ?kk ?ko) ?k1 ?k2 ?k3 ?k4 ?k5 ?k6 ?k7 ?k8 ?k9 ?k10 ?k11 trivial ?_; (case kx => assumption); (case kf => assumption); (case ky => (first | assumption | omega)); (case kk => first | exact figs_mod _ | assumption); (case ko => first | assumption | exact oct_dec (by assumption) (by assumption)); (( (case k6 => exact rfl); (case k7 => exact rfl); (case k8 => first | exact rfl | assumption); (case k2 => k_asm); (case k4 => k_asm); (case k1 => k_asm); (case k3 => k_asm); (case k5 => k_asm); (case k9 => first | exact rfl | assumption); (case k10 => exact Nat.le_of_ble_eq_true rfl); (case k11 => exact Nat.le_of_ble_eq_true rfl)))); intro r9 h9 tk9 F9 N9 _ e9; obtain ⟨t9, e9⟩ := e9; subst e9; (try k_sweep))
  repeat' ((fail_if_success (with_reducible show wpAny _ _ (call (Value.ref 106) _) _ _ _)); first | (k_unfold; (try dsimp only)) | walk1 | (dsimp only; walk1) | (dsimp only [List.cons_append, List.nil_append]; walk1))
  with_reducible ((with_reducible show wpAny _ _ (call (Value.ref 106) _) _ _ _); k_dflt (refine' con_use (enc_conT _ _ _ _ _ _ ?kx ?ky ?ko) ?k1 ?k2 ?k3 ?k4 ?k5 ?k6 ?k7 ?k8 ?k9 ?k10 ?k11 trivial ?_; (case kx => assumption); (case ky => (first | assumption | omega)); (case ko => first | exact told_enc (by assumption) | exact told_enc2 (by assumption) (by assumption) (by assumption)); (( (case k6 => exact rfl); (case k7 => exact rfl); (case k8 => first | exact rfl | assumption); (case k2 => k_asm); (case k4 => k_asm); (case k1 => k_asm); (case k3 => k_asm); (case k5 => k_asm); (case k9 => first | exact rfl | assumption); (case k10 => exact Nat.le_of_ble_eq_true rfl); (case k11 => exact Nat.le_of_ble_eq_true rfl)))); intro r9 h9 tk9 F9 N9 _ e9; obtain ⟨t9, e9⟩ := e9; subst e9; (try k_sweep))
  clear hFf2 hFe2 hFz2 hFm2 hFk2 hFy2 hIF2
  repeat' ((fail_if_success (with_reducible show wpAny _ _ (call (Value.ref 135) _) _ _ _)); first | (k_unfold; (try dsimp only)) | walk1 | (dsimp only; walk1) | (dsimp only [List.cons_append, List.nil_append]; walk1))
  rename News _ _ _ _ => nL
  replace nL := news_cut nL
  rename IntsAre _ (List.take _ row ++ _) => hIF3
  obtain ⟨hFf3, hFe3, hFz3, hFm3, hFk3⟩ := turn_of (A := List.take (Int.toNat s) row) (E := [a, Int.fdiv b 16 * 16]) hTf hTl hTz (end2 ha' hb').1 (Or.inr (Or.inr ⟨_, _, rfl, (end2 ha' hb').2⟩))
  generalize hFF : List.take (Int.toNat s) row ++ [a, Int.fdiv b 16 * 16] = F3 at hIF3 hFf3 hFe3 hFz3 hFm3 hFk3
  clear hFF
  have hFy3 := dec_len' hFz3
  with_reducible ((with_reducible show wpAny _ _ (call (Value.ref 135) _) _ _ _); k_dflt (refine' con_use (sig_con _ _ _ _ ?kI ?kF ?kz) ?k1 ?k2 ?k3 ?k4 ?k5 ?k6 ?k7 ?k8 ?k9 ?k10 ?k11 ?kp ?_; (( (case k6 => exact rfl); (case k7 => exact rfl); (case k8 => first | exact rfl | assumption); (case k2 => k_asm); (case k4 => k_asm); (case k1 => k_asm); (case k3 => k_asm); (case k5 => k_asm); (case k9 => first | exact rfl | assumption); (case k10 => exact Nat.le_of_ble_eq_true rfl); (case k11 => exact Nat.le_of_ble_eq_true rfl))); (case kp => first | exact News.isList (by assumption) (by k_mem)); (case kI => assumption); (case kF => assumption); (case kz => (first | assumption | omega))); intro r9 h9 tk9 F9 N9 _ e9; obtain ⟨b9, t9, e9, i9⟩ := e9; subst e9; (try k_sweep))
  repeat' ((fail_if_success (with_reducible show wpAny _ _ (call (Value.ref 130) _) _ _ _)); first | (k_unfold; (try dsimp only)) | walk1 | (dsimp only; walk1) | (dsimp only [List.cons_append, List.nil_append]; walk1))
  with_reducible ((with_reducible show wpAny _ _ (call (Value.ref 130) _) _ _ _); k_dflt (refine' con_use (oct_con _ _ _ _ ?kI ?kF ?kz ?km) ?k1 ?k2 ?k3 ?k4 ?k5 ?k6 ?k7 ?k8 ?k9 ?k10 ?k11 ?kp ?_; (( (case k6 => exact rfl); (case k7 => exact rfl); (case k8 => first | exact rfl | assumption); (case k2 => k_asm); (case k4 => k_asm); (case k1 => k_asm); (case k3 => k_asm); (case k5 => k_asm); (case k9 => first | exact rfl | assumption); (case k10 => exact Nat.le_of_ble_eq_true rfl); (case k11 => exact Nat.le_of_ble_eq_true rfl))); (case kp => first | exact News.isList (by assumption) (by k_mem)); (case kI => assumption); (case kF => assumption); (case kz => (first | assumption | omega)); (case km => (first | assumption | omega))); intro r9 h9 tk9 F9 N9 _ e9; obtain ⟨b9, t9, e9, i9⟩ := e9; subst e9; (try k_sweep))
  repeat' ((fail_if_success (with_reducible show wpAny _ _ (call (Value.ref 113) _) _ _ _)); first | (k_unfold; (try dsimp only)) | walk1 | (dsimp only; walk1) | (dsimp only [List.cons_append, List.nil_append]; walk1))
  with_reducible ((with_reducible show wpAny _ _ (call (Value.ref 113) _) _ _ _); k_dflt (refine' con_use (dec_conT _ _ _ _ _ _ _ ?kx ?kf ?ky ?kk ?ko) ?k1 ?k2 ?k3 ?k4 ?k5 ?k6 ?k7 ?k8 ?k9 ?k10 ?k11 trivial ?_; (case kx => assumption); (case kf => assumption); (case ky => (first | assumption | omega)); (case kk => first | exact figs_mod _ | assumption); (case ko => first | assumption | exact oct_dec (by assumption) (by assumption)); (( (case k6 => exact rfl); (case k7 => exact rfl); (case k8 => first | exact rfl | assumption); (case k2 => k_asm); (case k4 => k_asm); (case k1 => k_asm); (case k3 => k_asm); (case k5 => k_asm); (case k9 => first | exact rfl | assumption); (case k10 => exact Nat.le_of_ble_eq_true rfl); (case k11 => exact Nat.le_of_ble_eq_true rfl)))); intro r9 h9 tk9 F9 N9 _ e9; obtain ⟨t9, e9⟩ := e9; subst e9; (try k_sweep))
  repeat' ((fail_if_success (with_reducible show wpAny _ _ (call (Value.ref 106) _) _ _ _)); first | (k_unfold; (try dsimp only)) | walk1 | (dsimp only; walk1) | (dsimp only [List.cons_append, List.nil_append]; walk1))
  with_reducible ((with_reducible show wpAny _ _ (call (Value.ref 106) _) _ _ _); k_dflt (refine' con_use (enc_conT _ _ _ _ _ _ ?kx ?ky ?ko) ?k1 ?k2 ?k3 ?k4 ?k5 ?k6 ?k7 ?k8 ?k9 ?k10 ?k11 trivial ?_; (case kx => assumption); (case ky => (first | assumption | omega)); (case ko => first | exact told_enc (by assumption) | exact told_enc2 (by assumption) (by assumption) (by assumption)); (( (case k6 => exact rfl); (case k7 => exact rfl); (case k8 => first | exact rfl | assumption); (case k2 => k_asm); (case k4 => k_asm); (case k1 => k_asm); (case k3 => k_asm); (case k5 => k_asm); (case k9 => first | exact rfl | assumption); (case k10 => exact Nat.le_of_ble_eq_true rfl); (case k11 => exact Nat.le_of_ble_eq_true rfl)))); intro r9 h9 tk9 F9 N9 _ e9; obtain ⟨t9, e9⟩ := e9; subst e9; (try k_sweep))
  clear hFf3 hFe3 hFz3 hFm3 hFk3 hFy3 hIF3
  repeat' ((fail_if_success (with_reducible show wpAny _ _ (call (Value.ref 135) _) _ _ _)); first | (k_unfold; (try dsimp only)) | walk1 | (dsimp only; walk1) | (dsimp only [List.cons_append, List.nil_append]; walk1))
  k_end
  w_end
  show GoodW _ _ _ _ _ (.ok (.ret (.bool _))) _
  refine goodW_bool (by assumption) (by assumption) (raisesW_false ?_) (post_true _)
  wrow_none_raised)
end
end Mine
end

theorem PySem.Challenge.cw_mr0008_02_holds : PySem.Challenge.rw_mr0008_02.Holds :=
  Mine.law_holds
