import PyProof.Rows.All
import Wide.All
import OpenK.AllK
import Wide.FinOn
import PySem.Challenge.RW_fe0332_01
open PySem PySem.W PyProof.Rows PySem.Calls
set_option Elab.async false
set_option maxRecDepth 100000
set_option maxHeartbeats 8000000
set_option rowWalk.seconds 0
namespace Mine
open_top hd for PySem.Challenge.rw_fe0332_01
set_option maxHeartbeats 4000000

section
noncomputable abbrev pr := PySem.Challenge.rw_fe0332_01.row.prog
noncomputable abbrev vw := hd.view_39
noncomputable abbrev lo := looseW hd.view_39 [Str.ofString "Baudrate"]
theorem weaken {α : Type} {M : Model} {A B : Around} {t : Sem α} {Q : α → Shared → Prop} {E : Value → Shared → Prop} {s : Shared} (h : wpAny M B t Q E s)
    (h1 : A.handled = B.handled) (h2 : A.depth ≤ B.depth) (h3 : ∀ l, B.frames = some l → A.frames = some l) (h4 : ∀ g, B.guards = some g → A.guards = some g) (h5 : A.units ≤ B.units) : wpAny M A t Q E s := by
  intro Γ p hΓ
  refine h Γ p ⟨hΓ.1.trans h1, Nat.le_trans hΓ.2.1 h2, fun l hl => hΓ.2.2.1 l (h3 l hl), fun g hg => hΓ.2.2.2.1 g (h4 g hg), Nat.le_trans hΓ.2.2.2.2 h5⟩
def Lt (news add : List (Addr × Obj)) : Prop := ∀ q ∈ news, ∀ p ∈ add, q.1 ≠ p.1
def KC (dP uN : Nat) (w : World) (f : Addr) (vs : List Value) (news : List (Addr × Obj)) (Post : Value → List (Addr × Obj) → Prop) : Prop :=
  ∀ (mean : ExcName → Option Value) (mg mb : Str → Option Value) (gd : Option (List Code)) (cn : Str) (cs : Scope) (a : Addr) (ccd : Value) (cl : List (Str × Addr)) (outer : List Env) (A₀ : Around) (base h₀ : Heap) (L : Addr) (m : Str → Option Value) (s : Shared) (Q E : Value → Shared → Prop),
    Below A₀ base outer h₀ → Fr h₀ L s.heap m → (hd.heap_39 w.params).In h₀ → News h₀ L s.heap news → Top vw lo mean mg mb h₀ → cs.kind = .function →
    (∀ v add h' tk', Fr h₀ L h' m → News h₀ L h' (add ++ news) → Lt news add → Post v add → Q v { s with heap := h', toks := tk' }) →
    wpAny (model pr w) (ktrTop dP uN gd cn cs L a ccd cl outer) (call (.ref f) vs) Q E s
theorem KC.use {dP uN : Nat} {w : World} {f : Addr} {vs : List Value} {news : List (Addr × Obj)} {Post : Value → List (Addr × Obj) → Prop} (C : KC dP uN w f vs news Post)
    {mean : ExcName → Option Value} {mg mb : Str → Option Value} {gd : Option (List Code)} {dp un : Nat} {cn : Str} {cs : Scope} {a : Addr} {ccd : Value} {cl : List (Str × Addr)} {outer : List Env} {A₀ : Around} {base h₀ : Heap} {L : Addr} {m : Str → Option Value} {s : Shared} {Q E : Value → Shared → Prop}
    (B : Below A₀ base outer h₀) (F : Fr h₀ L s.heap m) (X : (hd.heap_39 w.params).In h₀) (N : News h₀ L s.heap news) (T : Top vw lo mean mg mb h₀) (hk : cs.kind = .function) (hd : dp ≤ dP) (hu : un ≤ uN)
    (ret : ∀ v add h' tk', Fr h₀ L h' m → News h₀ L h' (add ++ news) → Lt news add → Post v add → Q v { s with heap := h', toks := tk' }) :
    wpAny (model pr w) (ktrTop dp un gd cn cs L a ccd cl outer) (call (.ref f) vs) Q E s :=
  weaken (C mean mg mb gd cn cs a ccd cl outer A₀ base h₀ L m s Q E B F X N T hk ret) rfl hd (fun _ h => h) (fun _ h => h) hu
def KT (dP uN : Nat) (w : World) (f : Addr) (vs : List Value) (news : List (Addr × Obj)) (Post : Value → List (Addr × Obj) → Prop) : Prop :=
  ∀ (mean : ExcName → Option Value) (mg mb : Str → Option Value) (gd : Option (List Code)) (cn : Str) (cs : Scope) (a : Addr) (ccd : Value) (A₀ : Around) (h₀ : Heap) (L : Addr) (m : Str → Option Value) (s : Shared) (Q E : Value → Shared → Prop),
    Below A₀ h₀ [] h₀ → Fr h₀ L s.heap m → (hd.heap_39 w.params).In h₀ → News h₀ L s.heap news → Top vw lo mean mg mb h₀ → cs.kind = .function →
    (∀ v add h' tk', Fr h₀ L h' m → News h₀ L h' (add ++ news) → Lt news add → Post v add → Q v { s with heap := h', toks := tk' }) →
    wpAny (model pr w) { handled := none, depth := dP, frames := some [envOf cn cs L a ccd], guards := gd, units := uN } (call (.ref f) vs) Q E s
theorem KT.use {dP uN : Nat} {w : World} {f : Addr} {vs : List Value} {news : List (Addr × Obj)} {Post : Value → List (Addr × Obj) → Prop} (C : KT dP uN w f vs news Post)
    {mean : ExcName → Option Value} {mg mb : Str → Option Value} {gd : Option (List Code)} {dp un : Nat} {cn : Str} {cs : Scope} {a : Addr} {ccd : Value} {A₀ : Around} {h₀ : Heap} {L : Addr} {m : Str → Option Value} {s : Shared} {Q E : Value → Shared → Prop}
    (B : Below A₀ h₀ [] h₀) (F : Fr h₀ L s.heap m) (X : (hd.heap_39 w.params).In h₀) (N : News h₀ L s.heap news) (T : Top vw lo mean mg mb h₀) (hk : cs.kind = .function) (hd : dp ≤ dP) (hu : un ≤ uN)
    (ret : ∀ v add h' tk', Fr h₀ L h' m → News h₀ L h' (add ++ news) → Lt news add → Post v add → Q v { s with heap := h', toks := tk' }) :
    wpAny (model pr w) { handled := none, depth := dp, frames := some [envOf cn cs L a ccd], guards := gd, units := un } (call (.ref f) vs) Q E s :=
  weaken (C mean mg mb gd cn cs a ccd A₀ h₀ L m s Q E B F X N T hk ret) rfl hd (fun _ h => h) (fun _ h => h) hu
theorem KC.sub {dP uN : Nat} {w : World} {f : Addr} {vs : List Value} {news news' : List (Addr × Obj)} {Post : Value → List (Addr × Obj) → Prop} (C : KC dP uN w f vs news' Post) (h1 : ∀ p ∈ news', p ∈ news) (h2 : ∀ p ∈ news, p ∈ news') : KC dP uN w f vs news Post := by
  intro mean mg mb gd cn cs a ccd cl outer A₀ base h₀ L m s Q E B F X N T hcs ret
  refine C mean mg mb gd cn cs a ccd cl outer A₀ base h₀ L m s Q E B F X (fun p hp => N p (h1 p hp)) T hcs fun v add h' tk' F' N' L' P' => ret v add h' tk' F' (fun p hp => N' p ?_) (fun q hq => L' q (h2 q hq)) P'
  rcases List.mem_append.mp hp with hp | hp
  · exact List.mem_append.mpr (.inl hp)
  · exact List.mem_append.mpr (.inr (h2 p hp))
theorem KC.sub1 {dP uN : Nat} {w : World} {f : Addr} {vs : List Value} {news : List (Addr × Obj)} {e : Addr × Obj} {Post : Value → List (Addr × Obj) → Prop} (C : KC dP uN w f vs (e :: news) Post) (h1 : e ∈ news) : KC dP uN w f vs news Post :=
  C.sub (fun p hp => (List.mem_cons.mp hp).elim (fun q => q ▸ h1) id) fun p hp => .tail _ hp
theorem KC.sub2 {dP uN : Nat} {w : World} {f : Addr} {vs : List Value} {news : List (Addr × Obj)} {e e' : Addr × Obj} {Post : Value → List (Addr × Obj) → Prop} (C : KC dP uN w f vs (e :: e' :: news) Post) (h1 : e ∈ news) (h2 : e' ∈ news) : KC dP uN w f vs news Post :=
  KC.sub1 (KC.sub1 C (.tail _ h1)) h2
theorem KT.sub {dP uN : Nat} {w : World} {f : Addr} {vs : List Value} {news news' : List (Addr × Obj)} {Post : Value → List (Addr × Obj) → Prop} (C : KT dP uN w f vs news' Post) (h1 : ∀ p ∈ news', p ∈ news) (h2 : ∀ p ∈ news, p ∈ news') : KT dP uN w f vs news Post := by
  intro mean mg mb gd cn cs a ccd A₀ h₀ L m s Q E B F X N T hcs ret
  refine C mean mg mb gd cn cs a ccd A₀ h₀ L m s Q E B F X (fun p hp => N p (h1 p hp)) T hcs fun v add h' tk' F' N' L' P' => ret v add h' tk' F' (fun p hp => N' p ?_) (fun q hq => L' q (h2 q hq)) P'
  rcases List.mem_append.mp hp with hp | hp
  · exact List.mem_append.mpr (.inl hp)
  · exact List.mem_append.mpr (.inr (h2 p hp))
theorem KT.sub1 {dP uN : Nat} {w : World} {f : Addr} {vs : List Value} {news : List (Addr × Obj)} {e : Addr × Obj} {Post : Value → List (Addr × Obj) → Prop} (C : KT dP uN w f vs (e :: news) Post) (h1 : e ∈ news) : KT dP uN w f vs news Post :=
  C.sub (fun p hp => (List.mem_cons.mp hp).elim (fun q => q ▸ h1) id) fun p hp => .tail _ hp
theorem KT.sub2 {dP uN : Nat} {w : World} {f : Addr} {vs : List Value} {news : List (Addr × Obj)} {e e' : Addr × Obj} {Post : Value → List (Addr × Obj) → Prop} (C : KT dP uN w f vs (e :: e' :: news) Post) (h1 : e ∈ news) (h2 : e' ∈ news) : KT dP uN w f vs news Post :=
  KT.sub1 (KT.sub1 C (.tail _ h1)) h2
end
section
/-! pure words -/
def spdL : List Int := [9600, 19200, 38400, 57600, 115200, 125000, 250000, 500000, 1000000]
def namL : List Int := [1, 2, 3, 4, 5, 16, 17, 18, 19]
def nidx (n : Int) : Nat := if n = 1 then 0 else if n = 2 then 1 else if n = 3 then 2 else if n = 4 then 3 else if n = 5 then 4 else if n = 16 then 5 else if n = 17 then 6 else if n = 18 then 7 else 8
def sidx (n : Int) : Nat := if n = 9600 then 0 else if n = 19200 then 1 else if n = 38400 then 2 else if n = 57600 then 3 else if n = 115200 then 4 else if n = 125000 then 5 else if n = 250000 then 6 else if n = 500000 then 7 else 8
theorem nidx_lt (n : Int) : nidx n < 9 := by unfold nidx; (repeat' split) <;> omega
theorem sidx_lt (n : Int) : sidx n < 9 := by unfold sidx; (repeat' split) <;> omega
/-- the speed of a state -/
def spd (k n : Int) : Int := if k = 2 then (if n ∈ namL then spdL.getD (nidx n) 0 else -1) else n
theorem mem_nam {n : Int} : n ∈ namL ↔ n = 1 ∨ n = 2 ∨ n = 3 ∨ n = 4 ∨ n = 5 ∨ n = 16 ∨ n = 17 ∨ n = 18 ∨ n = 19 := by simp [namL]
theorem mem_spd {n : Int} : n ∈ spdL ↔ n = 9600 ∨ n = 19200 ∨ n = 38400 ∨ n = 57600 ∨ n = 115200 ∨ n = 125000 ∨ n = 250000 ∨ n = 500000 ∨ n = 1000000 := by simp [spdL]
theorem any_nam {n : Int} : ([1, 2, 3, 4, 5, 16, 17, 18, 19].any fun x => x == n) = decide (n ∈ namL) := by
  rw [Bool.eq_iff_iff, List.any_eq_true, decide_eq_true_iff]
  exact ⟨fun ⟨x, hx, e⟩ => (eq_of_beq e) ▸ hx, fun h => ⟨n, h, beq_self_eq_true n⟩⟩
theorem any_spd {n : Int} : ([9600, 19200, 38400, 57600, 115200, 125000, 250000, 500000, 1000000].any fun x => x == n) = decide (n ∈ spdL) := by
  rw [Bool.eq_iff_iff, List.any_eq_true, decide_eq_true_iff]
  exact ⟨fun ⟨x, hx, e⟩ => (eq_of_beq e) ▸ hx, fun h => ⟨n, h, beq_self_eq_true n⟩⟩
theorem kf_nam {n : Int} {t1 t2 t3 t4 t5 t6 t7 t8 t9 : Tok} (h : n ∈ namL) : kf_at n [.int 1 t1, .int 2 t2, .int 3 t3, .int 4 t4, .int 5 t5, .int 16 t6, .int 17 t7, .int 18 t8, .int 19 t9] = some (nidx n) := by
  rcases mem_nam.mp h with rfl | rfl | rfl | rfl | rfl | rfl | rfl | rfl | rfl <;> rfl
theorem kf_spd {n : Int} {t1 t2 t3 t4 t5 t6 t7 t8 t9 : Tok} (h : n ∈ spdL) : kf_at n [.int 9600 t1, .int 19200 t2, .int 38400 t3, .int 57600 t4, .int 115200 t5, .int 125000 t6, .int 250000 t7, .int 500000 t8, .int 1000000 t9] = some (sidx n) := by
  rcases mem_spd.mp h with rfl | rfl | rfl | rfl | rfl | rfl | rfl | rfl | rfl <;> rfl
abbrev dE (w : World) (k n : Int) (t1 t2 t3 t4 : Tok) : Obj := dictOf [⟨PyData.keyHash w.params "baudtype", .str "baudtype" t1, .int k t2⟩, ⟨PyData.keyHash w.params "baudrate", .str "baudrate" t3, .int n t4⟩] 2
def nthV : List Value → Nat → Option Value
  | [], _ => none
  | v :: _, 0 => some v
  | _ :: r, n + 1 => nthV r n
theorem nthV_eq : ∀ (l : List Value) (n : Nat), nthV l n = l[n]?
  | [], _ => rfl
  | _ :: _, 0 => rfl
  | _ :: r, n + 1 => by rw [nthV, nthV_eq r n]; rfl
/-! lines -/
section
variable {prog : Program} {w : World} {A : Around} {E : Value → Shared → Prop} {s : Shared} {h₀ : Heap} {L D : Addr} {m : Str → Option Value} {news : List (Addr × Obj)} {its : Array Value} {c : Nat}
theorem item_here {value slice : PySem.Expr} {k : Int} {u : Tok} {v : Value} {Q : Value → Shared → Prop} (N : News h₀ L s.heap news) (hm : (D, listOf its c) ∈ news) (h0 : 0 ≤ k) (hhi : k < 2 ^ 63) (hx : nthV its.toList k.toNat = some v) (h : Q v s)
    (hs : subscripted slice false (.ref D) (.int k u) = operate [.ref D, .int k u] (getItem (.ref D) (.int k u)) := by with_unfolding_all rfl) :
    wpAny (model prog w) A (subscriptTail value slice (.ref D) (.int k u)) Q E s := by
  have hl : s.heap.IsList D its := ⟨_, (N _ hm).1, rfl, c, rfl⟩
  exact tail_any hl.typeIs slot_list_getitem.lookup (wpAny_getItem_list hl h0 hhi (by rw [nthV_eq] at hx; rw [← hx]; simp) h) hs
theorem index_nam {n : Int} {t t1 t2 t3 t4 t5 t6 t7 t8 t9 : Tok} {Q : Value → Shared → Prop} (N : News h₀ L s.heap news) (hm : (D, listOf #[.int 1 t1, .int 2 t2, .int 3 t3, .int 4 t4, .int 5 t5, .int 16 t6, .int 17 t7, .int 18 t8, .int 19 t9] c) ∈ news) (hn : n ∈ namL)
    (h : (0:Int) ≤ (nidx n : Int) → (nidx n : Int) < 9 → Q (.int (nidx n : Int) s.toks) { s with toks := s.toks + 1 }) : wpAny (model prog w) A (call (.builtin "list.index") [.ref D, .int n t]) Q E s :=
  kf_index N hm rfl (kf_nam hn) rfl (show (9:Nat) ≤ sizeLine by rw [sizeLine_eq]; decide) (h (by omega) (by have := nidx_lt n; omega))
theorem index_spd {n : Int} {t t1 t2 t3 t4 t5 t6 t7 t8 t9 : Tok} {Q : Value → Shared → Prop} (N : News h₀ L s.heap news) (hm : (D, listOf #[.int 9600 t1, .int 19200 t2, .int 38400 t3, .int 57600 t4, .int 115200 t5, .int 125000 t6, .int 250000 t7, .int 500000 t8, .int 1000000 t9] c) ∈ news) (hn : n ∈ spdL)
    (h : (0:Int) ≤ (sidx n : Int) → (sidx n : Int) < 9 → Q (.int (sidx n : Int) s.toks) { s with toks := s.toks + 1 }) : wpAny (model prog w) A (call (.builtin "list.index") [.ref D, .int n t]) Q E s :=
  kf_index N hm rfl (kf_spd hn) rfl (show (9:Nat) ≤ sizeLine by rw [sizeLine_eq]; decide) (h (by omega) (by have := sidx_lt n; omega))
end
theorem in_nam {n : Int} (h : ([1, 2, 3, 4, 5, 16, 17, 18, 19].any fun x => x == n) = true) : n ∈ namL := by rw [any_nam] at h; exact of_decide_eq_true h
theorem notin_nam {n : Int} (h : ([1, 2, 3, 4, 5, 16, 17, 18, 19].any fun x => x == n) = false) : n ∉ namL := by rw [any_nam] at h; exact of_decide_eq_false h
theorem in_spd {n : Int} (h : ([9600, 19200, 38400, 57600, 115200, 125000, 250000, 500000, 1000000].any fun x => x == n) = true) : n ∈ spdL := by rw [any_spd] at h; exact of_decide_eq_true h
theorem notin_spd {n : Int} (h : ([9600, 19200, 38400, 57600, 115200, 125000, 250000, 500000, 1000000].any fun x => x == n) = false) : n ∉ spdL := by rw [any_spd] at h; exact of_decide_eq_false h
def autoK (n : Int) : Int := if n ∈ spdL then 0 else if n < 256 then 2 else 1
def kk (n k : Int) : Int := if k = 3 then autoK n else k
def Valid (k n : Int) : Prop := (k = 0 ∧ n ∈ spdL) ∨ (k = 1 ∧ 0 ≤ n ∧ n < 16777216) ∨ (k = 2 ∧ 0 ≤ n ∧ n < 256)
def Ok (n k : Int) : Prop := 0 ≤ n ∧ Valid (kk n k) n
def PState (n k : Int) (tn : Tok) (v : Value) (add : List (Addr × Obj)) : Prop := ∃ l, v = .ref l ∧ ((¬ Ok n k ∧ add = [(l, listOf #[] 0)]) ∨ (Ok n k ∧ ∃ t, add = [(l, listOf #[.int (kk n k) t, .int n tn] 0)]))
section
variable {n k : Int}
theorem p24 : (2:Int) ^ Int.toNat 24 = 16777216 := by decide
theorem kk_ne (h : k ≠ 3) : kk n k = k := by rw [kk, if_neg h]
theorem kk_3 (h : k = 3) : kk n k = autoK n := by rw [kk, if_pos h]
theorem st_n1 (h : n < 0) : ¬ Ok n k := fun o => by have := o.1; omega
theorem st_n2 (h3 : k = 3) (hM : ([9600, 19200, 38400, 57600, 115200, 125000, 250000, 500000, 1000000].any fun x => x == n) = false) (h : ¬ n < 256) (h2 : ¬ n < 2 ^ Int.toNat 24) : ¬ Ok n k := fun o => by
  rw [p24] at h2
  have := o.2; rw [kk_3 h3, autoK, if_neg (notin_spd hM), if_neg h] at this
  rcases this with ⟨a, _⟩ | ⟨_, _, a⟩ | ⟨a, _⟩ <;> omega
theorem st_n3 (h3 : k ≠ 3) (h0 : k = 0) (hM : ([9600, 19200, 38400, 57600, 115200, 125000, 250000, 500000, 1000000].any fun x => x == n) = false) : ¬ Ok n k := fun o => by
  have := o.2; rw [kk_ne h3] at this
  rcases this with ⟨_, a⟩ | ⟨a, _⟩ | ⟨a, _⟩
  · exact notin_spd hM a
  · omega
  · omega
theorem st_n4 (h3 : k ≠ 3) (h0 : k = 1) (h2 : ¬ n < 2 ^ Int.toNat 24) : ¬ Ok n k := fun o => by
  rw [p24] at h2
  have := o.2; rw [kk_ne h3] at this
  rcases this with ⟨a, _⟩ | ⟨_, _, a⟩ | ⟨a, _⟩ <;> omega
theorem st_n5 (h3 : k ≠ 3) (h0 : k = 2) (h2 : ¬ n < 256) : ¬ Ok n k := fun o => by
  have := o.2; rw [kk_ne h3] at this
  rcases this with ⟨a, _⟩ | ⟨a, _⟩ | ⟨a, _, _⟩ <;> omega
theorem st_n6 (h3 : k ≠ 3) (h0 : k ≠ 0) (h1 : k ≠ 1) (h2 : k ≠ 2) : ¬ Ok n k := fun o => by
  have := o.2; rw [kk_ne h3] at this
  rcases this with ⟨a, _⟩ | ⟨a, _⟩ | ⟨a, _, _⟩ <;> omega
theorem st_y1 (h : ¬ n < 0) (h3 : k = 3) (hM : ([9600, 19200, 38400, 57600, 115200, 125000, 250000, 500000, 1000000].any fun x => x == n) = true) : kk n k = 0 ∧ Ok n k := by
  have e : kk n k = 0 := by rw [kk_3 h3, autoK, if_pos (in_spd hM)]
  exact ⟨e, by omega, .inl ⟨e, in_spd hM⟩⟩
theorem st_y2 (h : ¬ n < 0) (h3 : k = 3) (hM : ([9600, 19200, 38400, 57600, 115200, 125000, 250000, 500000, 1000000].any fun x => x == n) = false) (h2 : n < 256) : kk n k = 2 ∧ Ok n k := by
  have e : kk n k = 2 := by rw [kk_3 h3, autoK, if_neg (notin_spd hM), if_pos h2]
  exact ⟨e, by omega, .inr (.inr ⟨e, by omega, by omega⟩)⟩
theorem st_y3 (h : ¬ n < 0) (h3 : k = 3) (hM : ([9600, 19200, 38400, 57600, 115200, 125000, 250000, 500000, 1000000].any fun x => x == n) = false) (h2 : ¬ n < 256) (h4 : n < 2 ^ Int.toNat 24) : kk n k = 1 ∧ Ok n k := by
  rw [p24] at h4
  have e : kk n k = 1 := by rw [kk_3 h3, autoK, if_neg (notin_spd hM), if_neg h2]
  exact ⟨e, by omega, .inr (.inl ⟨e, by omega, by omega⟩)⟩
theorem st_y4 (h : ¬ n < 0) (h3 : k ≠ 3) (h0 : k = 0) (hM : ([9600, 19200, 38400, 57600, 115200, 125000, 250000, 500000, 1000000].any fun x => x == n) = true) : kk n k = k ∧ Ok n k :=
  ⟨kk_ne h3, by omega, .inl ⟨(kk_ne h3).trans h0, in_spd hM⟩⟩
theorem st_y5 (h : ¬ n < 0) (h3 : k ≠ 3) (h0 : k = 1) (h4 : n < 2 ^ Int.toNat 24) : kk n k = k ∧ Ok n k := by
  rw [p24] at h4
  exact ⟨kk_ne h3, by omega, .inr (.inl ⟨(kk_ne h3).trans h0, by omega, by omega⟩)⟩
theorem st_y6 (h : ¬ n < 0) (h3 : k ≠ 3) (h0 : k = 2) (h4 : n < 256) : kk n k = k ∧ Ok n k :=
  ⟨kk_ne h3, by omega, .inr (.inr ⟨(kk_ne h3).trans h0, by omega, by omega⟩)⟩
end
theorem st_no {n k : Int} {tn : Tok} {l : Addr} (h : ¬ Ok n k) : PState n k tn (.ref l) [(l, listOf #[] 0)] := ⟨l, rfl, .inl ⟨h, rfl⟩⟩
theorem st_yes {n k k' : Int} {tn t : Tok} {l : Addr} (e : kk n k = k' ∧ Ok n k) : PState n k tn (.ref l) [(l, listOf #[.int k' t, .int n tn] 0)] := ⟨l, rfl, .inr ⟨e.2, t, by rw [e.1]⟩⟩
/-! pack -/
theorem entry_pack : entryFor table "_struct.pack" = some Builtin.«_struct.pack» := entryFor_of_tree (by kernel_rfl)
theorem kind_pack : builtinKind "_struct.pack" = none := by kernel_rfl
theorem plain_pack : plainId "_struct.pack" = true := by decide +kernel
theorem args_pack2 (a b : Value) : argsOk "_struct.pack" ⟨[a, b], []⟩ := by unfold argsOk; kernel_rfl
theorem args_pack4 (a b c d : Value) : argsOk "_struct.pack" ⟨[a, b, c, d], []⟩ := by unfold argsOk; kernel_rfl
def oct (n : Int) : UInt8 := ((n % 2 ^ (8 * 1)).toNat / 256 ^ 0 % 256).toUInt8
theorem oct_val {n : Int} (h0 : 0 ≤ n) (h1 : n < 256) : ((oct n).toNat : Int) = n := by
  unfold oct
  have e : (2:Int) ^ (8 * 1) = 256 := by decide
  rw [e, Nat.pow_zero, Nat.div_one, Int.emod_eq_of_lt h0 h1]
  have h2 : n.toNat < 256 := by omega
  rw [Nat.mod_eq_of_lt h2]
  show ((n.toNat % 2 ^ 8 : Nat) : Int) = n
  omega
theorem pack1 {prog : Program} {w : World} {A : Around} {E : Value → Shared → Prop} {s : Shared} {Q : Value → Shared → Prop} {n : Int} {t1 t2 : Tok} (h0 : ¬ n < 0) (h1 : ¬ n > 255)
  (h : Q (.bytes #[oct n] s.toks) { s with toks := s.toks + 1 }) : wpAny (model prog w) A (call (.builtin "_struct.pack") [.str "B" t1, .int n t2]) Q E s := by
  refine call_function_entry kind_pack plain_pack entry_pack (args_pack2 _ _) ?_
  obtain ⟨hp, g, d, tk, os⟩ := s
  wp_walk
  refine wpAny_ite_false (by decide +kernel) ?_
  refine wpAny_pure ?_
  rw [show Builtin.Struct.parse (Array.map (fun x => x.toUInt8) (Str.cps "B")) = pure ⟨false, true, [⟨'B', 1, 0, 1⟩], 1, 1⟩ from by kernel_rfl]
  refine wpAny_pure ?_
  unfold Builtin.Struct.packed Builtin.Struct.packEach
  simp only [Std.Legacy.Range.forIn_eq_forIn_range', Std.Legacy.Range.size, List.forIn_cons, List.forIn_nil, Nat.sub_zero, Nat.div_one, List.range', Nat.add_one_sub_one]
  wp_walk
  exact ⟨_, rfl, h⟩
theorem pack3 {prog : Program} {w : World} {A : Around} {E : Value → Shared → Prop} {s : Shared} {Q : Value → Shared → Prop} {a b c : Int} {t1 t2 t3 t4 : Tok} (h0 : ¬ a < 0) (h1 : ¬ a > 255) (h2 : ¬ b < 0) (h3 : ¬ b > 255) (h4 : ¬ c < 0) (h5 : ¬ c > 255)
  (h : Q (.bytes #[oct a, oct b, oct c] s.toks) { s with toks := s.toks + 1 }) : wpAny (model prog w) A (call (.builtin "_struct.pack") [.str "BBB" t1, .int a t2, .int b t3, .int c t4]) Q E s := by
  refine call_function_entry kind_pack plain_pack entry_pack (args_pack4 _ _ _ _) ?_
  obtain ⟨hp, g, d, tk, os⟩ := s
  wp_walk
  refine wpAny_ite_false (by decide +kernel) ?_
  refine wpAny_pure ?_
  rw [show Builtin.Struct.parse (Array.map (fun x => x.toUInt8) (Str.cps "BBB")) = pure ⟨false, true, [⟨'B', 1, 0, 1⟩, ⟨'B', 1, 1, 1⟩, ⟨'B', 1, 2, 1⟩], 3, 3⟩ from by kernel_rfl]
  refine wpAny_pure ?_
  unfold Builtin.Struct.packed Builtin.Struct.packEach
  simp only [Std.Legacy.Range.forIn_eq_forIn_range', Std.Legacy.Range.size, List.forIn_cons, List.forIn_nil, Nat.sub_zero, Nat.div_one, List.range', Nat.add_one_sub_one]
  wp_walk
  exact ⟨_, rfl, h⟩
theorem pack3m {prog : Program} {w : World} {A : Around} {E : Value → Shared → Prop} {s : Shared} {Q : Value → Shared → Prop} {a b c : Int} {t1 t2 t3 t4 : Tok}
  (h : Q (.bytes #[oct (a % 256), oct (b % 256), oct (c % 256)] s.toks) { s with toks := s.toks + 1 }) : wpAny (model prog w) A (call (.builtin "_struct.pack") [.str "BBB" t1, .int (Builtin.bitAnd a 255) t2, .int (Builtin.bitAnd b 255) t3, .int (Builtin.bitAnd c 255) t4]) Q E s := by
  rw [bitAnd_m8, bitAnd_m8, bitAnd_m8]
  exact pack3 (by omega) (by omega) (by omega) (by omega) (by omega) (by omega) h
theorem three_octs {n : Int} (h0 : 0 ≤ n) (h1 : n < 16777216) : (#[oct (n.fdiv (2 ^ Int.toNat 16) % 256), oct (n.fdiv (2 ^ Int.toNat 8) % 256), oct (n.fdiv (2 ^ Int.toNat 0) % 256)] : Array UInt8) = #[oct (n / 65536), oct (n / 256 % 256), oct (n % 256)] := by
  have e1 : (2:Int) ^ Int.toNat 16 = 65536 := by decide
  have e2 : (2:Int) ^ Int.toNat 8 = 256 := by decide
  have e3 : (2:Int) ^ Int.toNat 0 = 1 := by decide
  rw [e1, e2, e3, Int.fdiv_eq_ediv_of_nonneg _ (by decide), Int.fdiv_eq_ediv_of_nonneg _ (by decide), Int.fdiv_eq_ediv_of_nonneg _ (by decide), Int.ediv_one]
  rw [show n / 65536 % 256 = n / 65536 by omega]
theorem post_bytes {a b : Array UInt8} {t : Tok} (e : a = b) : ∃ t', Value.bytes a t = Value.bytes b t' ∧ ([] : List (Addr × Obj)) = [] := ⟨t, by rw [e], rfl⟩
theorem post_int {a b : Int} {t : Tok} (e : a = b) : ∃ t', Value.int a t = Value.int b t' ∧ ([] : List (Addr × Obj)) = [] := ⟨t, by rw [e], rfl⟩
/-! ends -/
theorem lt_nil {news : List (Addr × Obj)} : Lt news [] := fun _ _ _ h => nomatch h
theorem allLt_mem {d : Addr} : ∀ {l : List (Addr × Obj)}, AllLt d l → ∀ p ∈ l, p.1 < d
  | [], _, _, h => nomatch h
  | _ :: _, h, p, hp => by
    rcases List.mem_cons.mp hp with rfl | hp
    · exact h.1
    · exact allLt_mem h.2 p hp
theorem lt_one {news : List (Addr × Obj)} {a : Addr} {o : Obj} (h : ∀ p ∈ news, p.1 < a) : Lt news [(a, o)] := fun q hq p hp => by
  rw [List.mem_singleton.mp hp]; exact Nat.ne_of_lt (h q hq)
theorem lt_cons {news add : List (Addr × Obj)} {a : Addr} {o : Obj} (h : ∀ p ∈ news, p.1 < a) (h' : Lt news add) : Lt news ((a, o) :: add) := fun q hq p hp => by
  rcases List.mem_cons.mp hp with rfl | hp
  · exact Nat.ne_of_lt (h q hq)
  · exact h' q hq p hp
theorem lt_consN {news add : List (Addr × Obj)} {a : Addr} {o : Obj} (h : ∀ p ∈ news, p.1 ≠ a) (h' : Lt news add) : Lt news ((a, o) :: add) := fun q hq p hp => by
  rcases List.mem_cons.mp hp with rfl | hp
  · exact h q hq
  · exact h' q hq p hp
theorem lt_sub {news news' add : List (Addr × Obj)} (h : Lt news' add) (hs : ∀ p ∈ news, p ∈ news') : Lt news add := fun q hq => h q (hs q hq)
theorem kc_done {h₀ h' : Heap} {L : Addr} {m : Str → Option Value} {news full : List (Addr × Obj)} {Post : Value → List (Addr × Obj) → Prop} {s : Shared} {Q : Value → Shared → Prop} {v : Value} {tk' : Nat}
    (ret : ∀ v add h' tk', Fr h₀ L h' m → News h₀ L h' (add ++ news) → Lt news add → Post v add → Q v { s with heap := h', toks := tk' })
    (add : List (Addr × Obj)) (post : Post v add) (F : Fr h₀ L h' m) (N : News h₀ L h' full) (sub : ∀ p ∈ add ++ news, p ∈ full) (lt : Lt news add) : Q v { s with heap := h', toks := tk' } :=
  ret v add h' tk' F (fun p hp => N p (sub p hp)) lt post
end
section
theorem nsMap_except {x : Str} {m m₀ : Str → Option Value} (h : ∀ z, z ≠ x → m z = m₀ z) (v : Value) : (fun y => if y = x then some v else m y) = fun y => if y = x then some v else m₀ y := by
  funext y
  by_cases e : y = x
  · simp [e]
  · simp only [if_neg e]; exact h y e
theorem dict_loop {prog : Program} {w : World} {A : Around} {E : Value → Shared → Prop} {s : Shared} {env : Env} {h₀ : Heap} {x : Str} {body : List Stmt} {Q : Flow → Shared → Prop}
    {d : Addr} {D : List (Int × PyData)} {m₀ : Str → Option Value} {news : List (Addr × Obj)} (P : Nat → Prop)
    (hh : A.handled = none) (hK : KTD.Keyed h₀ d D) (F : Fr h₀ env.locals s.heap m₀) (N : News h₀ env.locals s.heap news) (hj : P 0)
    (turn : ∀ i k t h tk own, (D[i]?).map (·.1) = some k → P i → Fr h₀ env.locals h (fun y => if y = x then some (.int k t) else m₀ y) → News h₀ env.locals h (own ++ news) →
      wpAny (model prog w) A (execs body env) (InvPost h₀ env.locals (fun m' => P (i + 1) ∧ ∀ z, z ≠ x → m' z = m₀ z) (own ++ news) { s with heap := h, toks := tk } Q) E { s with heap := h, toks := tk })
    (done : ∀ (u : Str → Option Value) h tk, P D.length → Fr h₀ env.locals h (fun y => if y = x then u y else m₀ y) → News h₀ env.locals h news → Q .next { s with heap := h, toks := tk }) :
    wpAny (model prog w) A (pyIter (.ref d)) (fun it s₂ => LoopAtV prog w A h₀ env x body Q E it s₂) E s := by
  obtain ⟨lo, kvs, hdo, hf⟩ := hK prog w
  obtain ⟨ep, hat₀⟩ := hdo.dictAt
  have hat : s.heap.DictAt (intKind prog w) d kvs ep := hat₀.at' fun o e => F.keep d o e
  have hlt : d < h₀.objs.size := hat₀.lt_size
  have hne : d ≠ s.heap.objs.size := Nat.ne_of_lt hat.lt_size
  refine wpAny_pyIter_dict lo hat ?_
  have W := Walks.dictKeys (prog := prog) (w := w) (knd := intKind prog w) hh s.heap.objs.size d hne kvs ep
  have hlen : kvs.length = D.length := by have := hf.length; simpa using this.symm
  refine ⟨_, _, _, kvs.length, _, _, m₀, news, (fun i m nx => nx = news ∧ P i ∧ ∀ z, z ≠ x → m z = m₀ z), rfl, W, ?_, ?_, ?_, ⟨⟨_, Heap.get?_push_size _ rfl, rfl, rfl⟩, hat.push _⟩, F.push _, (fun p hp => ⟨Heap.get?_push_of_some _ (N p hp).1, (N p hp).2⟩), ⟨rfl, hj, fun _ _ => rfl⟩, ?_, ?_⟩
  · intro hm
    rcases List.mem_cons.mp hm with e | hm
    · exact absurd F.ns.lt (e ▸ Nat.lt_irrefl _)
    · exact absurd (Nat.lt_of_lt_of_le hlt F.above) ((List.mem_singleton.mp hm) ▸ Nat.lt_irrefl _)
  · intro b hb
    rw [List.mem_singleton.mp hb]
    exact next_is_new F
  · intro p hp hI
    exact absurd (Heap.lt_size (N p hp).1) ((List.mem_singleton.mp hI) ▸ Nat.lt_irrefl _)
  · rintro i v m₁ news₁ s₁ own ⟨hh', tk', rfl⟩ hin ⟨k, y, hx, hk⟩ ⟨rfl, hP, hm⟩ hoff _ _ _ _ F₁ N₁
    obtain ⟨dv, hD, _⟩ := hf.at hx
    obtain ⟨t, rfl⟩ := Value.isInt_shape hk
    have hD' : (D[i]?).map (·.1) = some k := by
      rw [List.getElem?_map] at hD
      cases e : D[i]? with
      | none => rw [e] at hD; cases hD
      | some q => rw [e] at hD; cases hD; rfl
    rw [nsMap_except hm] at F₁
    refine wpAny_mono (turn i k t hh' tk' own hD' hP F₁ N₁) (fun f s₂ p => ?_) fun _ _ e => e
    have fin : InvEnd h₀ env.locals (fun m' => P (i + 1) ∧ ∀ z, z ≠ x → m' z = m₀ z) (own ++ news₁) { s with heap := hh', toks := tk' } s₂ → LoopStepU h₀ env.locals [s.heap.objs.size] own (fun m nx => nx = news₁ ∧ P (i + 1) ∧ ∀ z, z ≠ x → m z = m₀ z) { s with heap := hh', toks := tk' } .next s₂ := by
      rintro ⟨h', tk, m', news', e, F', N', hn, hm⟩
      exact ⟨rfl, h', tk, m', news₁, e, F', fun p hp => N' p (hn p hp), hoff, rfl, hm⟩
    cases f with
    | ret v => exact .ret p
    | brk => exact .brk p
    | next => exact .next (fin p)
    | cont => exact .cont (fin p)
  · rintro h' tk m' news' F' N' _ ⟨rfl, hP, hm⟩
    refine done m' h' tk (hlen ▸ hP) ?_ N'
    have e : (fun z => if z = x then m' z else m₀ z) = m' := by
      funext z
      by_cases h1 : z = x
      · simp [h1]
      · simp only [if_neg h1]; exact (hm z h1).symm
    rw [e]; exact F'
end
section
theorem off_C1 : True := by
  w_top off
  trivial
local macro_rules | `(tactic| walk_at "InitBack") => `(tactic| (dsimp only [InitBack]))
local macro_rules | `(tactic| walk_at "subscriptTail Name Constant ref int") => `(tactic| (k_here; (with_reducible show wpAny _ _ (subscriptTail _ _ (Value.ref _) (Value.int _ _)) _ _ _); k_dflt (refine' item_here ?k1 ?k2 ?k3 ?k4 ?k5 ?_ ?k6; (case k1 => k_asm); (case k2 => k_mem); (case k3 => decide); (case k4 => decide); (case k5 => rfl); (case k6 => with_unfolding_all rfl); k_whole)))
local macro_rules | `(tactic| walk_at "call builtin:list.index") => `(tactic| (k_here; (with_reducible show wpAny _ _ (call (Value.builtin _) [Value.ref _, Value.int _ _]) _ _ _); k_dflt (first
  | (refine' index_nam ?N ?m ?hn ?_; (case N => k_asm); (case m => k_mem); (case hn => exact in_nam (by assumption)))
  | (refine' index_spd ?N ?m ?hn ?_; (case N => k_asm); (case m => k_mem); (case hn => exact in_spd (by assumption)))); intro i0' i9'))
local macro_rules | `(tactic| walk_at "k_newlt") => `(tactic| first | assumption | exact allLt_mem (by assumption) | exact allLt_mem (And.right (by with_reducible assumption)) | exact allLt_mem (And.right (And.right (by with_reducible assumption))) | exact allLt_mem (And.right (And.right (And.right (by with_reducible assumption)))))
local macro_rules | `(tactic| walk_at "call builtin:_struct.pack") => `(tactic| (k_here; k_dflt (first
  | (refine' pack1 ?a ?b ?_; (case a => first | decide | omega); (case b => first | decide | omega))
  | (refine' pack3 ?a ?b ?c ?d ?e ?f ?_; (case a => first | omega | l_fact); (case b => first | omega | l_fact); (case c => first | omega | l_fact); (case d => first | omega | l_fact); (case e => first | omega | l_fact); (case f => first | omega | l_fact)))))
theorem speed_K (w : World) (n k : Int) (tn tk : Tok) (l : Addr) (news) : KC 400 4000 w 149 [.ref l] ((l, listOf #[.int k tk, .int n tn] 0) :: news) (fun v add => ∃ t, v = .int (spd k n) t ∧ add = []) := by
  unfold KC
  intro mean mg mb gd cn cs a ccd cl outer A₀ base h₀ L m s Q E B F X N T hcs ret
  refine wpAny_call ?_
  k_dflt cell_enter
  k_steps
  · refine kc_done ret [] ⟨tn, by rw [spd, if_neg (by assumption)], rfl⟩ (by assumption) (by assumption) ?_ lt_nil; kqd_sub
  · refine kc_done ret [] ⟨_, by rw [spd, if_pos (by assumption), if_pos (in_nam (by assumption))]; rfl, rfl⟩ (by assumption) (by assumption) ?_ lt_nil; kqd_sub
  · refine kc_done ret [] ⟨_, by rw [spd, if_pos (by assumption), if_neg (notin_nam (by assumption))], rfl⟩ (by assumption) (by assumption) ?_ lt_nil; kqd_sub
theorem off_C2 : True := by
  w_top off
  trivial
theorem state_K (w : World) (n k : Int) (tn tk : Tok) (news) : KC 400 4000 w 142 [.int n tn, .int k tk] news (PState n k tn) := by
  unfold KC
  intro mean mg mb gd cn cs a ccd cl outer A₀ base h₀ L m s Q E B F X N T hcs ret
  refine wpAny_call ?_
  k_dflt cell_enter
  k_steps
  all_goals (first
    | (exfalso; omega)
    | (refine' kc_done ret _ (st_no ?no) ?F ?N ?sub ?lt; (case F => assumption); (case N => assumption); (case no => first | exact st_n1 (by assumption) | exact st_n2 (by assumption) (by assumption) (by assumption) (by assumption) | exact st_n3 (by assumption) (by assumption) (by assumption) | exact st_n4 (by assumption) (by assumption) (by assumption) | exact st_n5 (by assumption) (by assumption) (by assumption) | exact st_n6 (by assumption) (by assumption) (by assumption) (by assumption)); (case sub => kqd_sub); (case lt => exact lt_one (by walk_at "k_newlt")))
    | (refine' kc_done ret _ (st_yes ?no) ?F ?N ?sub ?lt; (case F => assumption); (case N => assumption); (case no => first | exact st_y1 (by assumption) (by assumption) (by assumption) | exact st_y2 (by assumption) (by assumption) (by assumption) (by assumption) | exact st_y3 (by assumption) (by assumption) (by assumption) (by assumption) (by assumption) | exact st_y4 (by assumption) (by assumption) (by assumption) (by assumption) | exact st_y5 (by assumption) (by assumption) (by assumption) (by assumption) | exact st_y6 (by assumption) (by assumption) (by assumption) (by assumption)); (case sub => kqd_sub); (case lt => exact lt_one (by walk_at "k_newlt")))
    | skip)
end
section
local macro_rules | `(tactic| walk_at "none") => `(tactic| (fail "none"))
theorem off_C3 : True := by
  w_top off
  trivial
local macro_rules | `(tactic| walk_at "InitBack") => `(tactic| (dsimp only [InitBack]))
local macro_rules | `(tactic| walk_at "subscriptTail Name Constant ref int") => `(tactic| (k_here; (with_reducible show wpAny _ _ (subscriptTail _ _ (Value.ref _) (Value.int _ _)) _ _ _); k_dflt (refine' item_here ?k1 ?k2 ?k3 ?k4 ?k5 ?_ ?k6; (case k1 => k_asm); (case k2 => k_mem); (case k3 => decide); (case k4 => decide); (case k5 => rfl); (case k6 => with_unfolding_all rfl); k_whole)))
local macro_rules | `(tactic| walk_at "call builtin:list.index") => `(tactic| (k_here; (with_reducible show wpAny _ _ (call (Value.builtin _) [Value.ref _, Value.int _ _]) _ _ _); k_dflt (first
  | (refine' index_nam ?N ?m ?hn ?_; (case N => k_asm); (case m => k_mem); (case hn => exact in_nam (by assumption)))
  | (refine' index_spd ?N ?m ?hn ?_; (case N => k_asm); (case m => k_mem); (case hn => exact in_spd (by assumption)))); intro i0' i9'))
local macro_rules | `(tactic| walk_at "k_newlt") => `(tactic| first | assumption | exact allLt_mem (by assumption) | exact allLt_mem (And.right (by with_reducible assumption)) | exact allLt_mem (And.right (And.right (by with_reducible assumption))) | exact allLt_mem (And.right (And.right (And.right (by with_reducible assumption)))))
local macro_rules | `(tactic| walk_at "call builtin:_struct.pack") => `(tactic| (k_here; k_dflt (first
  | (refine' pack1 ?a ?b ?_; (case a => first | decide | omega); (case b => first | decide | omega))
  | refine' pack3m ?_
  | (refine' pack3 ?a ?b ?c ?d ?e ?f ?_; (case a => first | omega | l_fact); (case b => first | omega | l_fact); (case c => first | omega | l_fact); (case d => first | omega | l_fact); (case e => first | omega | l_fact); (case f => first | omega | l_fact)))))
theorem gb0 (w : World) (n : Int) (t1 t2 t3 t4 : Tok) (x dx : Addr) (news) (hn : n ∈ spdL) : KC 400 4000 w 93 [.ref x] ((x, instObj 103 dx) :: (dx, dE w 0 n t1 t2 t3 t4) :: news) (fun v add => ∃ t, v = .bytes #[oct (namL.getD (sidx n) 0)] t ∧ add = []) := by
  unfold KC
  intro mean mg mb gd cn cs a ccd cl outer A₀ base h₀ L m s Q E B F X N T hcs ret
  have hS := mem_spd.mp hn
  refine wpAny_call ?_
  k_dflt cell_enter
  k_steps
  all_goals (refine kc_done ret [] (post_bytes ?_) (by assumption) (by assumption) ?_ lt_nil <;> first | kqd_sub | skip)
  · subst_vars; rfl
  · subst_vars; rfl
  · subst_vars; rfl
  · subst_vars; rfl
  · subst_vars; rfl
  · subst_vars; rfl
  · subst_vars; rfl
  · subst_vars; rfl
  · have : n = 1000000 := by omega
    subst this; rfl
theorem gb1 (w : World) (n : Int) (t1 t2 t3 t4 : Tok) (x dx : Addr) (news) (h0 : 0 ≤ n) (h1 : n < 16777216) : KC 400 4000 w 93 [.ref x] ((x, instObj 103 dx) :: (dx, dE w 1 n t1 t2 t3 t4) :: news) (fun v add => ∃ t, v = .bytes #[oct (n / 65536), oct (n / 256 % 256), oct (n % 256)] t ∧ add = []) := by
  unfold KC
  intro mean mg mb gd cn cs a ccd cl outer A₀ base h₀ L m s Q E B F X N T hcs ret
  refine wpAny_call ?_
  k_dflt cell_enter
  k_steps
  refine kc_done ret [] (post_bytes ?_) (by assumption) (by assumption) ?_ lt_nil <;> first | kqd_sub | skip
  exact three_octs h0 h1
theorem gb2 (w : World) (n : Int) (t1 t2 t3 t4 : Tok) (x dx : Addr) (news) (h0 : 0 ≤ n) (h1 : n < 256) : KC 400 4000 w 93 [.ref x] ((x, instObj 103 dx) :: (dx, dE w 2 n t1 t2 t3 t4) :: news) (fun v add => ∃ t, v = .bytes #[oct n] t ∧ add = []) := by
  unfold KC
  intro mean mg mb gd cn cs a ccd cl outer A₀ base h₀ L m s Q E B F X N T hcs ret
  refine wpAny_call ?_
  k_dflt cell_enter
  k_steps
  refine kc_done ret [] (post_bytes rfl) (by assumption) (by assumption) ?_ lt_nil <;> first | kqd_sub | skip
end
section
local macro_rules | `(tactic| walk_at "none") => `(tactic| (fail "none"))
theorem off_C4 : True := by
  w_top off
  trivial
local macro_rules | `(tactic| walk_at "InitBack") => `(tactic| (dsimp only [InitBack]))
local macro_rules | `(tactic| walk_at "subscriptTail Name Constant ref int") => `(tactic| (k_here; (with_reducible show wpAny _ _ (subscriptTail _ _ (Value.ref _) (Value.int _ _)) _ _ _); k_dflt (refine' item_here ?k1 ?k2 ?k3 ?k4 ?k5 ?_ ?k6; (case k1 => k_asm); (case k2 => k_mem); (case k3 => decide); (case k4 => decide); (case k5 => rfl); (case k6 => with_unfolding_all rfl); k_whole)))
local macro_rules | `(tactic| walk_at "call builtin:list.index") => `(tactic| (k_here; (with_reducible show wpAny _ _ (call (Value.builtin _) [Value.ref _, Value.int _ _]) _ _ _); k_dflt (first
  | (refine' index_nam ?N ?m ?hn ?_; (case N => k_asm); (case m => k_mem); (case hn => exact in_nam (by assumption)))
  | (refine' index_spd ?N ?m ?hn ?_; (case N => k_asm); (case m => k_mem); (case hn => exact in_spd (by assumption)))); intro i0' i9'))
local macro_rules | `(tactic| walk_at "k_newlt") => `(tactic| first | assumption | exact allLt_mem (by assumption) | exact allLt_mem (And.right (by with_reducible assumption)) | exact allLt_mem (And.right (And.right (by with_reducible assumption))) | exact allLt_mem (And.right (And.right (And.right (by with_reducible assumption)))))
local macro_rules | `(tactic| walk_at "call builtin:_struct.pack") => `(tactic| (k_here; k_dflt (first
  | (refine' pack1 ?a ?b ?_; (case a => first | decide | omega); (case b => first | decide | omega))
  | refine' pack3m ?_
  | (refine' pack3 ?a ?b ?c ?d ?e ?f ?_; (case a => first | omega | l_fact); (case b => first | omega | l_fact); (case c => first | omega | l_fact); (case d => first | omega | l_fact); (case e => first | omega | l_fact); (case f => first | omega | l_fact)))))
local macro_rules | `(tactic| walk_at "pyIter ref") => `(tactic| ((with_reducible show wpAny _ _ (pyIter (Value.ref 50)) _ _ _); k_here; (rename Fr _ _ _ _ => lF'); (rename News _ _ _ _ => lN'); k_dflt (refine' dict_loop (D := mapD) (P := fun i => i ≤ nidx _) ?hh (map_keyed ?X) lF' lN' (Nat.zero_le _) ?_ ?_; (case hh => exact rfl); (case X => k_asm); clear lF' lN')))
def mapD : List (Int × PyData) := [(9600, .int 1), (19200, .int 2), (38400, .int 3), (57600, .int 4), (115200, .int 5), (125000, .int 16), (250000, .int 17), (500000, .int 18), (1000000, .int 19)]
theorem mapD_at {i : Nat} {k : Int} (h : (mapD[i]?).map (·.1) = some k) : (i = 0 ∧ k = 9600) ∨ (i = 1 ∧ k = 19200) ∨ (i = 2 ∧ k = 38400) ∨ (i = 3 ∧ k = 57600) ∨ (i = 4 ∧ k = 115200) ∨ (i = 5 ∧ k = 125000) ∨ (i = 6 ∧ k = 250000) ∨ (i = 7 ∧ k = 500000) ∨ (i = 8 ∧ k = 1000000) := by
  rcases i with _ | _ | _ | _ | _ | _ | _ | _ | _ | i <;> simp [mapD] at h <;> omega
theorem map_keyed {w : World} {h : Heap} (X : (hd.heap_39 w.params).In h) : KTD.Keyed h 50 mapD := kt_keyed_in X (by kernel_rfl)
theorem ef1 (w : World) (n k : Int) (t1 t2 t3 t4 : Tok) (x dx : Addr) (news) (hk : k ≠ 2) : KC 400 4000 w 86 [.ref x] ((x, instObj 103 dx) :: (dx, dE w k n t1 t2 t3 t4) :: news) (fun v add => ∃ t, v = .int (spd k n) t ∧ add = []) := by
  unfold KC
  intro mean mg mb gd cn cs a ccd cl outer A₀ base h₀ L m s Q E B F X N T hcs ret
  refine wpAny_call ?_
  k_dflt cell_enter
  k_steps
  · exact absurd (by assumption) hk
  · refine kc_done ret [] (post_int (by rw [spd, if_neg hk])) (by assumption) (by assumption) ?_ lt_nil <;> first | kqd_sub | skip
theorem ef2 (w : World) (n : Int) (t1 t2 t3 t4 : Tok) (x dx : Addr) (news) (hn : n ∈ namL) : KC 400 4000 w 86 [.ref x] ((x, instObj 103 dx) :: (dx, dE w 2 n t1 t2 t3 t4) :: news) (fun v add => ∃ t, v = .int (spd 2 n) t ∧ add = []) := by
  unfold KC
  intro mean mg mb gd cn cs a ccd cl outer A₀ base h₀ L m s Q E B F X N T hcs ret
  refine wpAny_call ?_
  k_dflt cell_enter
  k_steps
  (rename Fr _ _ _ _ => lF'); (rename News _ _ _ _ => lN')
  with_unfolding_all refine' dict_loop (D := mapD) (P := fun i => i ≤ nidx n) ?hh (map_keyed ?X) lF' lN' (Nat.zero_le _) ?_ ?_
  case hh => exact rfl
  case X => k_asm
  clear lF' lN'
  · intro i k t h tk own hD hP F1 N1
    rcases mapD_at hD with ⟨rfl, rfl⟩ | ⟨rfl, rfl⟩ | ⟨rfl, rfl⟩ | ⟨rfl, rfl⟩ | ⟨rfl, rfl⟩ | ⟨rfl, rfl⟩ | ⟨rfl, rfl⟩ | ⟨rfl, rfl⟩ | ⟨rfl, rfl⟩
    all_goals (k_steps; (all_goals (first
      | (refine kc_done ret [] (post_int ?_) (by assumption) (by assumption) ?_ lt_nil <;> first | kqd_sub | (subst_vars; rfl))
      | (refine InvEnd.intro (by assumption) (by assumption) (fun _ h => h) ⟨?_, fun z hz => if_neg hz⟩; (rcases mem_nam.mp hn with rfl | rfl | rfl | rfl | rfl | rfl | rfl | rfl | rfl <;> first | decide | omega | exact absurd hP (by decide))))))
  · intro u h tk hP
    exact absurd hP (Nat.not_le_of_lt (nidx_lt n))
end
section
theorem map_item {prog : Program} {w : World} {A : Around} {E : Value → Shared → Prop} {s : Shared} {h₀ : Heap} {value slice : PySem.Expr} {k n : Int} {tk : Tok} {i : Nat} {Q : Value → Shared → Prop}
    (K : KTD.Keyed h₀ 50 mapD) (hk : ∀ b o, h₀.get? b = some o → s.heap.get? b = some o) (hD : (mapD[i]?).map (·.1) = some k) (hn : n ∉ namL) (h : ∀ v u, v ≠ n → Q (.int v u) { s with toks := s.toks + 1 })
    (hs : subscripted slice false (.ref 50) (.int k tk) = operate [.ref 50, .int k tk] (getItem (.ref 50) (.int k tk)) := by with_unfolding_all rfl) (hg : ∀ r, letTemporaryGo value (.ref 50) r = pure () := by intro _; with_unfolding_all rfl) :
    wpAny (model prog w) A (subscriptTail value slice (.ref 50) (.int k tk)) Q E s := by
  have ne : ∀ v ∈ namL, v ≠ n := fun v hv e => hn (e ▸ hv)
  have all : KTD.inKeys k mapD = true ∧ KTD.EachL h₀ k (fun v => Q v { s with toks := s.toks + 1 }) (KTD.asDat mapD) := by
    rcases mapD_at hD with ⟨_, rfl⟩ | ⟨_, rfl⟩ | ⟨_, rfl⟩ | ⟨_, rfl⟩ | ⟨_, rfl⟩ | ⟨_, rfl⟩ | ⟨_, rfl⟩ | ⟨_, rfl⟩ | ⟨_, rfl⟩
    · exact ⟨by decide +kernel, fun t => h 1 t (ne _ (by decide))⟩
    · exact ⟨by decide +kernel, fun t => h 2 t (ne _ (by decide))⟩
    · exact ⟨by decide +kernel, fun t => h 3 t (ne _ (by decide))⟩
    · exact ⟨by decide +kernel, fun t => h 4 t (ne _ (by decide))⟩
    · exact ⟨by decide +kernel, fun t => h 5 t (ne _ (by decide))⟩
    · exact ⟨by decide +kernel, fun t => h 16 t (ne _ (by decide))⟩
    · exact ⟨by decide +kernel, fun t => h 17 t (ne _ (by decide))⟩
    · exact ⟨by decide +kernel, fun t => h 18 t (ne _ (by decide))⟩
    · exact ⟨by decide +kernel, fun _ t => h 19 t (ne _ (by decide))⟩
  exact KTD.item_keyed K hk all.1 all.2 hs hg
theorem eq_no {prog : Program} {w : World} {A : Around} {E : Value → Shared → Prop} {s : Shared} {a b : Int} {t u : Tok} {Q : Value → Shared → Prop} (hk : a ≠ b) (h : Q (.bool false) s) : wpAny (model prog w) A (compareOp .Eq (.int a t) (.int b u)) Q E s :=
  wpAny_eq_int (by rw [beq_false_of_ne hk]; exact h)
end
section
theorem txt_fits {n : Int} {wd : String} (h0 : -2 ≤ n) (h1 : n < 1000000000) (hw : wd.length ≤ 100) : (Str.empty ++ Str.ofString (toString n) ++ Str.ofString "Bauds, " ++ Str.ofString wd ++ Str.ofString " format.").length ≤ sizeLine := by
  simp only [Str.length_append, PySem.ofString_length]
  have h2 : (toString n).length ≤ 10 + 1 := int_text_length_le10 (by decide) (by omega)
  have h3 : Str.empty.length = 0 := by decide
  have h4 : ("Bauds, ":String).length = 7 := by decide
  have h5 : (" format.":String).length = 8 := by decide
  rw [sizeLine_eq, h3, h4, h5]
  omega
def txt (n : Int) (wd : String) : Str := Str.empty ++ Str.ofString (toString n) ++ Str.ofString "Bauds, " ++ Str.ofString wd ++ Str.ofString " format."
theorem post_str {a b : Str} {t : Tok} (e : a = b) : ∃ t', Value.str a t = Value.str b t' ∧ ([] : List (Addr × Obj)) = [] := ⟨t, by rw [e], rfl⟩
theorem spd_hi {k n : Int} (h : n < 16777216) : spd k n < 1000000000 := by
  unfold spd
  split
  · split
    · rename_i hn
      rcases mem_nam.mp hn with rfl | rfl | rfl | rfl | rfl | rfl | rfl | rfl | rfl <;> decide
    · omega
  · omega
theorem spd_lo {k n : Int} (h : 0 ≤ n) : -2 ≤ spd k n := by
  unfold spd
  split
  · split
    · rename_i hn
      rcases mem_nam.mp hn with rfl | rfl | rfl | rfl | rfl | rfl | rfl | rfl | rfl <;> decide
    · omega
  · omega
theorem spd_pos {n : Int} (h : n ∈ namL) : 0 ≤ spd 2 n := by
  rcases mem_nam.mp h with rfl | rfl | rfl | rfl | rfl | rfl | rfl | rfl | rfl <;> decide
theorem spd_ne {k n : Int} (h : k ≠ 2) : spd k n = n := by rw [spd, if_neg h]
theorem spd_un {n : Int} (h : n ∉ namL) : spd 2 n = -1 := by rw [spd, if_pos rfl, if_neg h]
def dueTxt (n : Int) (wd : String) : Str := Str.ofString (toString n) ++ Str.ofString "Bauds, " ++ Str.ofString wd ++ Str.ofString " format."
theorem txt_due (n : Int) (wd : String) : txt n wd = dueTxt n wd := by unfold txt dueTxt; rw [Str.empty_append]
def D0 (n : Int) : List Dat := [.int 0, .int n, .list [.int (namL.getD (sidx n) 0)], .list [.str (Str.ofString "speed"), .int (spd 0 n)], .list [.str (Str.ofString "text"), .str (dueTxt (spd 0 n) "Fixed")]]
def D1 (n : Int) : List Dat := [.int 1, .int n, .list [.int (n.fdiv 65536), .int ((n.fdiv 256).fmod 256), .int (n.fmod 256)], .list [.str (Str.ofString "speed"), .int (spd 1 n)], .list [.str (Str.ofString "text"), .str (dueTxt (spd 1 n) "Specific")]]
def D2 (n : Int) : List Dat := [.int 2, .int n, .list [.int n], .list [.str (Str.ofString "speed"), .int (spd 2 n)], .list [.str (Str.ofString "text"), .str (dueTxt (spd 2 n) "Defined by identifier")]]
def D3 (n : Int) : List Dat := [.int 2, .int n, .list [.int n], .list [.str (Str.ofString "not known")], .list [.str (Str.ofString "not known")]]
def Dd (k n : Int) : List Dat := if k = 0 then D0 n else if k = 1 then D1 n else if n ∈ namL then D2 n else D3 n
def PD (ds : List Dat) (v : Value) (add : List (Addr × Obj)) : Prop := ∃ l v1 v2 v3 v4 v5 tl, v = .ref l ∧ add = (l, listOf #[v1, v2, v3, v4, v5] 0) :: tl ∧ DatAll tl [v1, v2, v3, v4, v5] ds
theorem pd_mk {l : Addr} {v1 v2 v3 v4 v5 : Value} {tl : List (Addr × Obj)} {ds ds' : List Dat} (h : DatAll tl [v1, v2, v3, v4, v5] ds') (e : ds' = ds) : PD ds (.ref l) ((l, listOf #[v1, v2, v3, v4, v5] 0) :: tl) := ⟨l, v1, v2, v3, v4, v5, tl, rfl, rfl, e ▸ h⟩
theorem same_sub {l : List (Addr × Obj)} : ∀ p ∈ l, p ∈ l := fun _ h => h
theorem spd0_pos {n : Int} (h : n ∈ spdL) : 0 ≤ spd 0 n := by
  rcases mem_spd.mp h with rfl | rfl | rfl | rfl | rfl | rfl | rfl | rfl | rfl <;> decide
theorem spd0_hi {n : Int} (h : n ∈ spdL) : spd 0 n < 1000000000 := by
  rcases mem_spd.mp h with rfl | rfl | rfl | rfl | rfl | rfl | rfl | rfl | rfl <;> decide
theorem allLt_memC {d l : Addr} {o : Obj} {news : List (Addr × Obj)} (h : l < d ∧ AllLt d news) : ∀ p ∈ (l, o) :: news, p.1 < d := allLt_mem (l := (l, o) :: news) h
theorem allLt_memD {d l l2 : Addr} {o o2 : Obj} {news : List (Addr × Obj)} (h : l < d ∧ l2 < d ∧ AllLt d news) : ∀ p ∈ (l, o) :: (l2, o2) :: news, p.1 < d := allLt_mem (l := (l, o) :: (l2, o2) :: news) h
end
section
local macro_rules | `(tactic| walk_at "none") => `(tactic| (fail "none"))
theorem off_C5 : True := by
  w_top off
  trivial
local macro_rules | `(tactic| walk_at "InitBack") => `(tactic| (dsimp only [InitBack]))
local macro_rules | `(tactic| walk_at "subscriptTail Name Constant ref int") => `(tactic| (k_here; (with_reducible show wpAny _ _ (subscriptTail _ _ (Value.ref _) (Value.int _ _)) _ _ _); k_dflt (refine' item_here ?k1 ?k2 ?k3 ?k4 ?k5 ?_ ?k6; (case k1 => k_asm); (case k2 => k_mem); (case k3 => decide); (case k4 => decide); (case k5 => rfl); (case k6 => with_unfolding_all rfl); k_whole)))
local macro_rules | `(tactic| walk_at "call builtin:list.index") => `(tactic| (k_here; (with_reducible show wpAny _ _ (call (Value.builtin _) [Value.ref _, Value.int _ _]) _ _ _); k_dflt (first
  | (refine' index_nam ?N ?m ?hn ?_; (case N => k_asm); (case m => k_mem); (case hn => exact in_nam (by assumption)))
  | (refine' index_spd ?N ?m ?hn ?_; (case N => k_asm); (case m => k_mem); (case hn => exact in_spd (by assumption)))); intro i0' i9'))
local macro_rules | `(tactic| walk_at "k_newlt") => `(tactic| first | assumption | exact allLt_mem (by assumption) | exact allLt_mem (And.right (by with_reducible assumption)) | exact allLt_mem (And.right (And.right (by with_reducible assumption))) | exact allLt_mem (And.right (And.right (And.right (by with_reducible assumption)))))
local macro_rules | `(tactic| walk_at "call builtin:_struct.pack") => `(tactic| (k_here; k_dflt (first
  | (refine' pack1 ?a ?b ?_; (case a => first | decide | omega); (case b => first | decide | omega))
  | refine' pack3m ?_
  | (refine' pack3 ?a ?b ?c ?d ?e ?f ?_; (case a => first | omega | l_fact); (case b => first | omega | l_fact); (case c => first | omega | l_fact); (case d => first | omega | l_fact); (case e => first | omega | l_fact); (case f => first | omega | l_fact)))))
local macro_rules | `(tactic| walk_at "call ref") => `(tactic| (k_here; (with_reducible show wpAny _ _ (call (Value.ref 86) _) _ _ _); k_dflt (first
  | (refine' KC.use (KC.sub2 (ef2 _ _ _ _ _ _ _ _ _ ?hk) ?m1 ?m2) ?B ?F ?X ?N ?T ?hc ?hd ?hu ?_; (case N => k_asm); (case B => k_asm); (case F => k_asm); (case X => k_asm); (case T => k_asm); (case hc => first | exact rfl | assumption); (case hd => exact Nat.le_of_ble_eq_true rfl); (case hu => exact Nat.le_of_ble_eq_true rfl); (case m1 => k_mem); (case m2 => k_mem); (case hk => assumption))
  | (refine' KC.use (KC.sub2 (ef1 _ _ _ _ _ _ _ _ _ _ ?hk) ?m1 ?m2) ?B ?F ?X ?N ?T ?hc ?hd ?hu ?_; (case N => k_asm); (case B => k_asm); (case F => k_asm); (case X => k_asm); (case T => k_asm); (case hc => first | exact rfl | assumption); (case hd => exact Nat.le_of_ble_eq_true rfl); (case hu => exact Nat.le_of_ble_eq_true rfl); (case m1 => k_mem); (case m2 => k_mem); (case hk => first | assumption | decide))); (intro v9 a9 h9 k9 F9 N9 L9 P9); (obtain ⟨t9, hv9, ha9⟩ := P9); subst hv9; subst ha9; (simp only [List.nil_append] at N9); clear L9; (try unfold PySem.W.StrBack); (try dsimp only); (try k_fold)))
local macro_rules | `(tactic| walk_at "joinParts") => `(tactic| (k_here; (first | (with_reducible show wpAny _ _ (joinParts _ []) _ _ _) | (with_reducible show wpAny _ _ (joinParts _ (evalEach [] _)) _ _ _)); k_dflt (refine joinParts_nil ?_ ?hz; (case hz => exact txt_fits (by first | assumption | omega) (by first | assumption | omega) (by decide)))))
theorem st0 (w : World) (n : Int) (t1 t2 t3 t4 : Tok) (x dx : Addr) (news) (h0 : 0 ≤ n) (h1 : n < 16777216) : KC 350 3000 w 100 [.ref x] ((x, instObj 103 dx) :: (dx, dE w 0 n t1 t2 t3 t4) :: news) (fun v add => ∃ t, v = .str (txt (spd 0 n) "Fixed") t ∧ add = []) := by
  unfold KC
  intro mean mg mb gd cn cs a ccd cl outer A₀ base h₀ L m s Q E B F X N T hcs ret
  have b0 : -2 ≤ spd 0 n := spd_lo h0
  have b1 : spd 0 n < 1000000000 := spd_hi h1
  refine wpAny_call ?_
  k_dflt cell_enter
  k_steps
  refine kc_done ret [] (post_str (by rw [spd_ne (by decide)]; rfl)) (by assumption) (by assumption) ?_ lt_nil <;> first | kqd_sub | skip
theorem st1 (w : World) (n : Int) (t1 t2 t3 t4 : Tok) (x dx : Addr) (news) (h0 : 0 ≤ n) (h1 : n < 16777216) : KC 350 3000 w 100 [.ref x] ((x, instObj 103 dx) :: (dx, dE w 1 n t1 t2 t3 t4) :: news) (fun v add => ∃ t, v = .str (txt (spd 1 n) "Specific") t ∧ add = []) := by
  unfold KC
  intro mean mg mb gd cn cs a ccd cl outer A₀ base h₀ L m s Q E B F X N T hcs ret
  have b0 : -2 ≤ spd 1 n := spd_lo h0
  have b1 : spd 1 n < 1000000000 := spd_hi h1
  refine wpAny_call ?_
  k_dflt cell_enter
  k_steps
  refine kc_done ret [] (post_str (by rw [spd_ne (by decide)]; rfl)) (by assumption) (by assumption) ?_ lt_nil <;> first | kqd_sub | skip
theorem st2 (w : World) (n : Int) (t1 t2 t3 t4 : Tok) (x dx : Addr) (news) (h0 : 0 ≤ n) (h1 : n < 16777216) (hk : n ∈ namL) : KC 350 3000 w 100 [.ref x] ((x, instObj 103 dx) :: (dx, dE w 2 n t1 t2 t3 t4) :: news) (fun v add => ∃ t, v = .str (txt (spd 2 n) "Defined by identifier") t ∧ add = []) := by
  unfold KC
  intro mean mg mb gd cn cs a ccd cl outer A₀ base h₀ L m s Q E B F X N T hcs ret
  have b0 : -2 ≤ spd 2 n := spd_lo h0
  have b1 : spd 2 n < 1000000000 := spd_hi h1
  refine wpAny_call ?_
  k_dflt cell_enter
  k_steps
  refine kc_done ret [] (post_str rfl) (by assumption) (by assumption) ?_ lt_nil <;> first | kqd_sub | skip
end
section
local macro_rules | `(tactic| walk_at "none") => `(tactic| (fail "none"))
theorem off_C6 : True := by
  w_top off
  trivial
local macro_rules | `(tactic| walk_at "InitBack") => `(tactic| (dsimp only [InitBack]))
local macro_rules | `(tactic| walk_at "subscriptTail Name Constant ref int") => `(tactic| (k_here; (with_reducible show wpAny _ _ (subscriptTail _ _ (Value.ref _) (Value.int _ _)) _ _ _); k_dflt (refine' item_here ?k1 ?k2 ?k3 ?k4 ?k5 ?_ ?k6; (case k1 => k_asm); (case k2 => k_mem); (case k3 => decide); (case k4 => decide); (case k5 => rfl); (case k6 => with_unfolding_all rfl); k_whole)))
local macro_rules | `(tactic| walk_at "call builtin:list.index") => `(tactic| (k_here; (with_reducible show wpAny _ _ (call (Value.builtin _) [Value.ref _, Value.int _ _]) _ _ _); k_dflt (first
  | (refine' index_nam ?N ?m ?hn ?_; (case N => k_asm); (case m => k_mem); (case hn => first | assumption | exact in_nam (by assumption)))
  | (refine' index_spd ?N ?m ?hn ?_; (case N => k_asm); (case m => k_mem); (case hn => first | assumption | exact in_spd (by assumption)))); intro i0' i9'))
local macro_rules | `(tactic| walk_at "k_newlt") => `(tactic| (first | with_reducible assumption | exact allLt_mem (by with_reducible assumption) | exact allLt_mem (And.right (by with_reducible assumption)) | exact allLt_mem (And.right (And.right (by with_reducible assumption))) | exact allLt_mem (And.right (And.right (And.right (by with_reducible assumption)))) | exact allLt_mem (And.right (And.right (And.right (And.right (by with_reducible assumption))))) | exact allLt_mem (And.right (And.right (And.right (And.right (And.right (by with_reducible assumption)))))) | exact allLt_mem (And.right (And.right (And.right (And.right (And.right (And.right (by with_reducible assumption))))))) | exact allLt_mem (And.right (And.right (And.right (And.right (And.right (And.right (And.right (by with_reducible assumption)))))))) | exact allLt_mem (And.right (And.right (And.right (And.right (And.right (And.right (And.right (And.right (by with_reducible assumption))))))))) | exact allLt_memC (by with_reducible assumption) | exact allLt_memC (And.right (by with_reducible assumption)) | exact allLt_memC (And.right (And.right (by with_reducible assumption))) | exact allLt_memC (And.right (And.right (And.right (by with_reducible assumption)))) | exact allLt_memC (And.right (And.right (And.right (And.right (by with_reducible assumption))))) | exact allLt_memC (And.right (And.right (And.right (And.right (And.right (by with_reducible assumption)))))) | exact allLt_memC (And.right (And.right (And.right (And.right (And.right (And.right (by with_reducible assumption))))))) | exact allLt_memC (And.right (And.right (And.right (And.right (And.right (And.right (And.right (by with_reducible assumption)))))))) | exact allLt_memC (And.right (And.right (And.right (And.right (And.right (And.right (And.right (And.right (by with_reducible assumption))))))))) | exact allLt_memD (by with_reducible assumption) | exact allLt_memD (And.right (by with_reducible assumption)) | exact allLt_memD (And.right (And.right (by with_reducible assumption))) | exact allLt_memD (And.right (And.right (And.right (by with_reducible assumption)))) | exact allLt_memD (And.right (And.right (And.right (And.right (by with_reducible assumption))))) | exact allLt_memD (And.right (And.right (And.right (And.right (And.right (by with_reducible assumption)))))) | exact allLt_memD (And.right (And.right (And.right (And.right (And.right (And.right (by with_reducible assumption))))))) | exact allLt_memD (And.right (And.right (And.right (And.right (And.right (And.right (And.right (by with_reducible assumption)))))))) | exact allLt_memD (And.right (And.right (And.right (And.right (And.right (And.right (And.right (And.right (by with_reducible assumption)))))))))))
local macro_rules | `(tactic| walk_at "call builtin:_struct.pack") => `(tactic| (k_here; k_dflt (first
  | (refine' pack1 ?a ?b ?_; (case a => first | decide | omega); (case b => first | decide | omega))
  | refine' pack3m ?_
  | (refine' pack3 ?a ?b ?c ?d ?e ?f ?_; (case a => first | omega | l_fact); (case b => first | omega | l_fact); (case c => first | omega | l_fact); (case d => first | omega | l_fact); (case e => first | omega | l_fact); (case f => first | omega | l_fact)))))
local macro_rules | `(tactic| walk_at "call ref") => `(tactic| (k_here; (with_reducible show wpAny _ _ (call (Value.ref 86) _) _ _ _); k_dflt (first
  | (refine' KC.use (KC.sub2 (ef2 _ _ _ _ _ _ _ _ _ ?hk) ?m1 ?m2) ?B ?F ?X ?N ?T ?hc ?hd ?hu ?_; (case N => k_asm); (case B => k_asm); (case F => k_asm); (case X => k_asm); (case T => k_asm); (case hc => first | exact rfl | assumption); (case hd => exact Nat.le_of_ble_eq_true rfl); (case hu => exact Nat.le_of_ble_eq_true rfl); (case m1 => k_mem); (case m2 => k_mem); (case hk => assumption))
  | (refine' KC.use (KC.sub2 (ef1 _ _ _ _ _ _ _ _ _ _ ?hk) ?m1 ?m2) ?B ?F ?X ?N ?T ?hc ?hd ?hu ?_; (case N => k_asm); (case B => k_asm); (case F => k_asm); (case X => k_asm); (case T => k_asm); (case hc => first | exact rfl | assumption); (case hd => exact Nat.le_of_ble_eq_true rfl); (case hu => exact Nat.le_of_ble_eq_true rfl); (case m1 => k_mem); (case m2 => k_mem); (case hk => first | assumption | decide))); (intro v9 a9 h9 k9 F9 N9 L9 P9); (obtain ⟨t9, hv9, ha9⟩ := P9); subst hv9; subst ha9; (simp only [List.nil_append] at N9); clear L9; (try unfold PySem.W.StrBack); (try dsimp only); (try k_fold)))
local macro_rules | `(tactic| walk_at "joinParts") => `(tactic| (k_here; (first | (with_reducible show wpAny _ _ (joinParts _ []) _ _ _) | (with_reducible show wpAny _ _ (joinParts _ (evalEach [] _)) _ _ _)); k_dflt (refine joinParts_nil ?_ ?hz; (case hz => exact txt_fits (by first | assumption | omega) (by first | assumption | omega) (by decide)))))
local macro_rules | `(tactic| walk_at "call ref") => `(tactic| (k_here; (with_reducible show wpAny _ _ (call (Value.ref 149) _) _ _ _); k_dflt (first
  | (refine' KC.use (KC.sub1 (speed_K _ _ _ _ _ _ _) ?m1) ?B ?F ?X ?N ?T ?hc ?hd ?hu ?_; (case N => k_asm); (case B => k_asm); (case F => k_asm); (case X => k_asm); (case T => k_asm); (case hc => first | exact rfl | assumption); (case hd => exact Nat.le_of_ble_eq_true rfl); (case hu => exact Nat.le_of_ble_eq_true rfl); (case m1 => k_mem); skip)); (intro v9 a9 h9 k9 F9 N9 L9 P9); (obtain ⟨t9, hv9, ha9⟩ := P9); subst hv9; subst ha9; (simp only [List.nil_append] at N9); clear L9; (try unfold PySem.W.StrBack); (try dsimp only); (try k_fold)))
theorem due1 (w : World) (n : Int) (tk tn : Tok) (l : Addr) (news) (h0 : 0 ≤ n) (h1 : n < 16777216) : KC 350 3000 w 156 [.ref l] ((l, listOf #[.int 1 tk, .int n tn] 0) :: news) (PD (D1 n)) := by
  unfold KC
  intro mean mg mb gd cn cs a ccd cl outer A₀ base h₀ L m s Q E B F X N T hcs ret
  have b0 : 0 ≤ spd 1 n := by rw [spd_ne (by decide)]; exact h0
  have b1 : spd 1 n < 1000000000 := spd_hi h1
  refine wpAny_call ?_
  k_dflt cell_enter
  k_steps
  all_goals (first
    | (exfalso; omega)
    | (refine' kc_done ret [_, _, _, _, _] (pd_mk ?h ?e) ?F ?N same_sub ?lt; (case F => assumption); (case N => assumption); (case h => kqd_all); (case e => rfl); (case lt => (refine lt_cons (by walk_at "k_newlt") ?_); (refine lt_cons (by walk_at "k_newlt") ?_); (refine lt_cons (by walk_at "k_newlt") ?_); (refine lt_cons (by walk_at "k_newlt") ?_); (refine lt_cons (by walk_at "k_newlt") ?_); exact lt_nil)))
theorem due2 (w : World) (n : Int) (tk tn : Tok) (l : Addr) (news) (h0 : 0 ≤ n) (h1 : n < 256) (hk : n ∈ namL) : KC 350 3000 w 156 [.ref l] ((l, listOf #[.int 2 tk, .int n tn] 0) :: news) (PD (D2 n)) := by
  unfold KC
  intro mean mg mb gd cn cs a ccd cl outer A₀ base h₀ L m s Q E B F X N T hcs ret
  have b0 : 0 ≤ spd 2 n := spd_pos hk
  have b1 : spd 2 n < 1000000000 := spd_hi (by omega)
  refine wpAny_call ?_
  k_dflt cell_enter
  k_steps
  all_goals (first
    | (exfalso; omega)
    | (refine' kc_done ret [_, _, _, _, _] (pd_mk ?h ?e) ?F ?N same_sub ?lt; (case F => assumption); (case N => assumption); (case h => kqd_all); (case e => rfl); (case lt => (refine lt_cons (by walk_at "k_newlt") ?_); (refine lt_cons (by walk_at "k_newlt") ?_); (refine lt_cons (by walk_at "k_newlt") ?_); (refine lt_cons (by walk_at "k_newlt") ?_); (refine lt_cons (by walk_at "k_newlt") ?_); exact lt_nil)))
theorem due0 (w : World) (n : Int) (tk tn : Tok) (l : Addr) (news) (hk : n ∈ spdL) : KC 350 3000 w 156 [.ref l] ((l, listOf #[.int 0 tk, .int n tn] 0) :: news) (PD (D0 n)) := by
  unfold KC
  intro mean mg mb gd cn cs a ccd cl outer A₀ base h₀ L m s Q E B F X N T hcs ret
  have b0 : 0 ≤ spd 0 n := spd0_pos hk
  have b1 : spd 0 n < 1000000000 := spd0_hi hk
  refine wpAny_call ?_
  k_dflt cell_enter
  k_steps
  all_goals (first
    | (exfalso; omega)
    | (refine' kc_done ret [_, _, _, _, _, _, _] (pd_mk ?h ?e) ?F ?N same_sub ?lt; (case F => assumption); (case N => assumption); (case h => kqd_all); (case e => rfl); (case lt => (refine lt_cons (by walk_at "k_newlt") ?_); (refine lt_cons (by walk_at "k_newlt") ?_); (refine lt_cons (by walk_at "k_newlt") ?_); (refine lt_cons (by walk_at "k_newlt") ?_); (refine lt_cons (by walk_at "k_newlt") ?_); (refine lt_cons (by walk_at "k_newlt") ?_); (refine lt_cons (by walk_at "k_newlt") ?_); exact lt_nil)))
theorem due3 (w : World) (n : Int) (tk tn : Tok) (l : Addr) (news) (h0 : 0 ≤ n) (h1 : n < 256) (hk : n ∉ namL) : KC 350 3000 w 156 [.ref l] ((l, listOf #[.int 2 tk, .int n tn] 0) :: news) (PD (D3 n)) := by
  unfold KC
  intro mean mg mb gd cn cs a ccd cl outer A₀ base h₀ L m s Q E B F X N T hcs ret
  have b0 : spd 2 n = -1 := spd_un hk
  refine wpAny_call ?_
  k_dflt cell_enter
  k_steps
  all_goals (first
    | (exfalso; omega)
    | (refine' kc_done ret [_, _, _, _] (pd_mk ?h ?e) ?F ?N same_sub ?lt; (case F => assumption); (case N => assumption); (case h => kqd_all); (case e => rfl); (case lt => (refine lt_cons (by walk_at "k_newlt") ?_); (refine lt_cons (by walk_at "k_newlt") ?_); (refine lt_cons (by walk_at "k_newlt") ?_); (refine lt_cons (by walk_at "k_newlt") ?_); exact lt_nil)))
end
section
def OctIn (o : Obj) (ds : List Dat) : Prop := ∃ ys n, o = listOf (List.toArray ys) n ∧ DatAll [] ys ds
theorem OctIn.dat {o : Obj} {ds : List Dat} (h : OctIn o ds) {D : Addr} {L : List (Addr × Obj)} (hm : (D, o) ∈ L) : DatIn L (.ref D) (.list ds) := by
  obtain ⟨ys, n, rfl, hd⟩ := h
  exact .list hm (DatAll.mono (fun _ h => by cases h) hd)
theorem paired_eq {vs ys : List Value} (h : Paired (fun v y => v = y) vs ys) : vs = ys := by
  induction h with
  | nil => rfl
  | cons e _ ih => rw [e, ih]
theorem datAll_bytes : ∀ (l : List UInt8) (vs : List Value), vs.length = l.length → (∀ (j : Nat) (v : Value), (vs[j]? : Option Value) = some v → ∃ (c : UInt8) (u : Tok), (l[j]? : Option UInt8) = some c ∧ v = Value.int (c.toNat : Int) u) → DatAll [] vs (l.map fun c => Dat.int (c.toNat : Int))
  | [], [], _, _ => .nil
  | [], _ :: _, h, _ => by cases h
  | _ :: _, [], h, _ => by cases h
  | c :: l, v :: vs, h, hp => by
    refine .cons ?_ (datAll_bytes l vs (by simpa using h) fun j v' hv => hp (j + 1) v' (by simpa using hv))
    obtain ⟨c', u, e, rfl⟩ := hp 0 v rfl
    cases e
    exact .int _ _
theorem src_bytes {prog : Program} {w : World} {A : Around} {E : Value → Shared → Prop} {s : Shared} {h₀ : Heap} {L : Addr} {m : Str → Option Value} {news : List (Addr × Obj)} {env : Env} {scope : Scope} {x : Str} {px : Pos} {Q : Value → Shared → Prop} {b : Array UInt8} {t : Tok}
    (hh : A.handled = none) (F : Fr h₀ L s.heap m) (N : News h₀ L s.heap news) (hb : b.size ≤ 64) (hk : scope.kind = .function) (hx : ∀ C, (compEnv scope C env).kindOf x = some .local) (hd : (x == ("__debug__" : Str)) = false)
    (hQ : ∀ D o h' tk, Fr h₀ L h' m → News h₀ L h' ((D, o) :: news) → (∀ p ∈ news, p.1 ≠ D) → OctIn o (b.toList.map fun c => Dat.int (c.toNat : Int)) → Q (.ref D) { s with heap := h', toks := tk }) :
    wpAny (model prog w) A (pyIter (.bytes b t)) (CompPost prog w A env scope x [] (.Name x px) Q) E s := by
  refine KBw.pyIter_bytes ?_
  have up : ∀ (h' : Heap), (∀ b' o', b' ∉ [s.heap.objs.size] → (s.heap.push { cls := .type "bytes_iterator", data := .fields #[.bytes b t, .int 0 0] }).get? b' = some o' → h'.get? b' = some o') → ∀ b' o', s.heap.get? b' = some o' → h'.get? b' = some o' :=
    fun h' hk b' o' e => hk b' o' (not_iter_of_old e) (Heap.get?_push_of_some _ e)
  refine ⟨fun _ => true, fun v y => v = y, s.heap.objs.size, [s.heap.objs.size], [s.heap.objs.size], b.size, _, _, rfl, KBw.walks hh _ b t, (by rw [sizeLine_eq]; omega), ⟨_, Heap.get?_push_size _ rfl, rfl, rfl⟩, ?_, ⟨?_, ?_⟩, ?_⟩
  · intro b' hb'
    rw [List.mem_singleton.mp hb']
    show _ < (s.heap.push _).objs.size
    rw [Heap.size_push]
    exact Nat.lt_succ_self _
  · intro C i v s₃ m₃ E' _ _ _ _ _
    exact wpAny_pure ⟨rfl, s₃.heap, s₃.toks, rfl, fun _ _ e => e⟩
  · intro C i v s₃ m₃ E' _ _ hn hm _ _
    exact wpAny_Name (wpAny_loadName_local hk (hx C) hn hm ⟨rfl, s₃.heap, s₃.toks, rfl, fun _ _ e => e⟩) hd
  · intro D h' tk ys vs' hnew hlD hplD hlen hP hF hk'
    have e1 : vs' = ys.toList := by
      have : (vs'.filter fun _ => true) = vs' := List.filter_eq_self.mpr fun _ _ => rfl
      rw [this] at hF
      exact paired_eq hF
    obtain ⟨n, hD⟩ := hplD
    have F' := F.keeps (up h' hk')
    have N' := N.grown (up h' hk')
    have hs0 : s.heap.get? D = none := by
      cases e : s.heap.get? D with
      | none => rfl
      | some o => rw [Heap.get?_push_of_some _ e] at hnew; cases hnew
    have h0 : h₀.get? D = none := by
      cases e : h₀.get? D with
      | none => rfl
      | some o => rw [F.keep D o e] at hs0; cases hs0
    refine hQ D _ h' tk F' (N'.more F' hD (fun es n' q => by cases q) h0) (fun p hp e => by rw [← e, (N p hp).1] at hs0; cases hs0) ⟨ys.toList, n, by simp, ?_⟩
    rw [← e1]
    refine datAll_bytes _ _ (by simpa using hlen) fun j v hv => ?_
    obtain ⟨c, u, hc, e⟩ := hP j v hv
    exact ⟨c, u, by simpa using hc, e⟩
theorem octs1 {n : Int} (h0 : 0 ≤ n) (h1 : n < 16777216) : ((#[oct (n / 65536), oct (n / 256 % 256), oct (n % 256)] : Array UInt8).toList.map fun c => Dat.int (c.toNat : Int)) = [.int (n.fdiv 65536), .int ((n.fdiv 256).fmod 256), .int (n.fmod 256)] := by
  show [Dat.int ((oct (n / 65536)).toNat : Int), Dat.int ((oct (n / 256 % 256)).toNat : Int), Dat.int ((oct (n % 256)).toNat : Int)] = _
  rw [oct_val (by omega) (by omega), oct_val (by omega) (by omega), oct_val (by omega) (by omega), Int.fdiv_eq_ediv_of_nonneg _ (by decide), Int.fdiv_eq_ediv_of_nonneg _ (by decide), Int.fmod_eq_emod_of_nonneg _ (by decide), Int.fmod_eq_emod_of_nonneg _ (by decide)]
theorem octs2 {n : Int} (h0 : 0 ≤ n) (h1 : n < 256) : ((#[oct n] : Array UInt8).toList.map fun c => Dat.int (c.toNat : Int)) = [.int n] := by
  show [Dat.int ((oct n).toNat : Int)] = _
  rw [oct_val h0 h1]
theorem octs0 {n : Int} (h : n ∈ spdL) : ((#[oct (namL.getD (sidx n) 0)] : Array UInt8).toList.map fun c => Dat.int (c.toNat : Int)) = [.int (namL.getD (sidx n) 0)] := by
  refine octs2 ?_ ?_ <;> (rcases mem_spd.mp h with rfl | rfl | rfl | rfl | rfl | rfl | rfl | rfl | rfl <;> decide)
end
section
theorem off_C7 : True := by
  w_top off
  trivial
local macro_rules | `(tactic| walk_at "InitBack") => `(tactic| (dsimp only [InitBack]))
local macro_rules | `(tactic| walk_at "subscriptTail Name Constant ref int") => `(tactic| (k_here; (with_reducible show wpAny _ _ (subscriptTail _ _ (Value.ref _) (Value.int _ _)) _ _ _); k_dflt (refine' item_here ?k1 ?k2 ?k3 ?k4 ?k5 ?_ ?k6; (case k1 => k_asm); (case k2 => k_mem); (case k3 => decide); (case k4 => decide); (case k5 => rfl); (case k6 => with_unfolding_all rfl); k_whole)))
local macro_rules | `(tactic| walk_at "call builtin:list.index") => `(tactic| (k_here; (with_reducible show wpAny _ _ (call (Value.builtin _) [Value.ref _, Value.int _ _]) _ _ _); k_dflt (first
  | (refine' index_nam ?N ?m ?hn ?_; (case N => k_asm); (case m => k_mem); (case hn => first | assumption | exact in_nam (by assumption)))
  | (refine' index_spd ?N ?m ?hn ?_; (case N => k_asm); (case m => k_mem); (case hn => first | assumption | exact in_spd (by assumption)))); intro i0' i9'))
local macro_rules | `(tactic| walk_at "k_newlt") => `(tactic| (first | with_reducible assumption | exact allLt_mem (by with_reducible assumption) | exact allLt_mem (And.right (by with_reducible assumption)) | exact allLt_mem (And.right (And.right (by with_reducible assumption))) | exact allLt_mem (And.right (And.right (And.right (by with_reducible assumption)))) | exact allLt_mem (And.right (And.right (And.right (And.right (by with_reducible assumption))))) | exact allLt_mem (And.right (And.right (And.right (And.right (And.right (by with_reducible assumption)))))) | exact allLt_mem (And.right (And.right (And.right (And.right (And.right (And.right (by with_reducible assumption))))))) | exact allLt_mem (And.right (And.right (And.right (And.right (And.right (And.right (And.right (by with_reducible assumption)))))))) | exact allLt_mem (And.right (And.right (And.right (And.right (And.right (And.right (And.right (And.right (by with_reducible assumption))))))))) | exact allLt_memC (by with_reducible assumption) | exact allLt_memC (And.right (by with_reducible assumption)) | exact allLt_memC (And.right (And.right (by with_reducible assumption))) | exact allLt_memC (And.right (And.right (And.right (by with_reducible assumption)))) | exact allLt_memC (And.right (And.right (And.right (And.right (by with_reducible assumption))))) | exact allLt_memC (And.right (And.right (And.right (And.right (And.right (by with_reducible assumption)))))) | exact allLt_memC (And.right (And.right (And.right (And.right (And.right (And.right (by with_reducible assumption))))))) | exact allLt_memC (And.right (And.right (And.right (And.right (And.right (And.right (And.right (by with_reducible assumption)))))))) | exact allLt_memC (And.right (And.right (And.right (And.right (And.right (And.right (And.right (And.right (by with_reducible assumption))))))))) | exact allLt_memD (by with_reducible assumption) | exact allLt_memD (And.right (by with_reducible assumption)) | exact allLt_memD (And.right (And.right (by with_reducible assumption))) | exact allLt_memD (And.right (And.right (And.right (by with_reducible assumption)))) | exact allLt_memD (And.right (And.right (And.right (And.right (by with_reducible assumption))))) | exact allLt_memD (And.right (And.right (And.right (And.right (And.right (by with_reducible assumption)))))) | exact allLt_memD (And.right (And.right (And.right (And.right (And.right (And.right (by with_reducible assumption))))))) | exact allLt_memD (And.right (And.right (And.right (And.right (And.right (And.right (And.right (by with_reducible assumption)))))))) | exact allLt_memD (And.right (And.right (And.right (And.right (And.right (And.right (And.right (And.right (by with_reducible assumption)))))))))))
local macro_rules | `(tactic| walk_at "call builtin:_struct.pack") => `(tactic| (k_here; k_dflt (first
  | (refine' pack1 ?a ?b ?_; (case a => first | decide | omega); (case b => first | decide | omega))
  | refine' pack3m ?_
  | (refine' pack3 ?a ?b ?c ?d ?e ?f ?_; (case a => first | omega | l_fact); (case b => first | omega | l_fact); (case c => first | omega | l_fact); (case d => first | omega | l_fact); (case e => first | omega | l_fact); (case f => first | omega | l_fact)))))
local macro_rules | `(tactic| walk_at "call ref") => `(tactic| (k_here; (with_reducible show wpAny _ _ (call (Value.ref 86) _) _ _ _); k_dflt (first
  | (refine' KC.use (KC.sub2 (ef2 _ _ _ _ _ _ _ _ _ ?hk) ?m1 ?m2) ?B ?F ?X ?N ?T ?hc ?hd ?hu ?_; (case N => k_asm); (case B => k_asm); (case F => k_asm); (case X => k_asm); (case T => k_asm); (case hc => first | exact rfl | assumption); (case hd => exact Nat.le_of_ble_eq_true rfl); (case hu => exact Nat.le_of_ble_eq_true rfl); (case m1 => k_mem); (case m2 => k_mem); (case hk => assumption))
  | (refine' KC.use (KC.sub2 (ef1 _ _ _ _ _ _ _ _ _ _ ?hk) ?m1 ?m2) ?B ?F ?X ?N ?T ?hc ?hd ?hu ?_; (case N => k_asm); (case B => k_asm); (case F => k_asm); (case X => k_asm); (case T => k_asm); (case hc => first | exact rfl | assumption); (case hd => exact Nat.le_of_ble_eq_true rfl); (case hu => exact Nat.le_of_ble_eq_true rfl); (case m1 => k_mem); (case m2 => k_mem); (case hk => first | assumption | decide))); (intro v9 a9 h9 k9 F9 N9 L9 P9); (obtain ⟨t9, hv9, ha9⟩ := P9); subst hv9; subst ha9; (simp only [List.nil_append] at N9); clear L9; (try unfold PySem.W.StrBack); (try dsimp only); (try k_fold)))
local macro_rules | `(tactic| walk_at "joinParts") => `(tactic| (k_here; (first | (with_reducible show wpAny _ _ (joinParts _ []) _ _ _) | (with_reducible show wpAny _ _ (joinParts _ (evalEach [] _)) _ _ _)); k_dflt (refine joinParts_nil ?_ ?hz; (case hz => exact txt_fits (by first | assumption | omega) (by first | assumption | omega) (by decide)))))
local macro_rules | `(tactic| walk_at "call ref") => `(tactic| (k_here; (with_reducible show wpAny _ _ (call (Value.ref 149) _) _ _ _); k_dflt (first
  | (refine' KC.use (KC.sub1 (speed_K _ _ _ _ _ _ _) ?m1) ?B ?F ?X ?N ?T ?hc ?hd ?hu ?_; (case N => k_asm); (case B => k_asm); (case F => k_asm); (case X => k_asm); (case T => k_asm); (case hc => first | exact rfl | assumption); (case hd => exact Nat.le_of_ble_eq_true rfl); (case hu => exact Nat.le_of_ble_eq_true rfl); (case m1 => k_mem); skip)); (intro v9 a9 h9 k9 F9 N9 L9 P9); (obtain ⟨t9, hv9, ha9⟩ := P9); subst hv9; subst ha9; (simp only [List.nil_append] at N9); clear L9; (try unfold PySem.W.StrBack); (try dsimp only); (try k_fold)))
local macro_rules | `(tactic| walk_at "call ref") => `(tactic| (k_here; (with_reducible show wpAny _ _ (call (Value.ref 93) _) _ _ _); k_dflt (first
  | (refine' KC.use (KC.sub2 (gb0 _ _ _ _ _ _ _ _ _ ?hk) ?m1 ?m2) ?B ?F ?X ?N ?T ?hc ?hd ?hu ?_; (case N => k_asm); (case B => k_asm); (case F => k_asm); (case X => k_asm); (case T => k_asm); (case hc => first | exact rfl | assumption); (case hd => exact Nat.le_of_ble_eq_true rfl); (case hu => exact Nat.le_of_ble_eq_true rfl); (case m1 => k_mem); (case m2 => k_mem); (case hk => assumption))
  | (refine' KC.use (KC.sub2 (gb1 _ _ _ _ _ _ _ _ _ ?hk ?hl) ?m1 ?m2) ?B ?F ?X ?N ?T ?hc ?hd ?hu ?_; (case N => k_asm); (case B => k_asm); (case F => k_asm); (case X => k_asm); (case T => k_asm); (case hc => first | exact rfl | assumption); (case hd => exact Nat.le_of_ble_eq_true rfl); (case hu => exact Nat.le_of_ble_eq_true rfl); (case m1 => k_mem); (case m2 => k_mem); (case hk => assumption); (case hl => assumption))
  | (refine' KC.use (KC.sub2 (gb2 _ _ _ _ _ _ _ _ _ ?hk ?hl) ?m1 ?m2) ?B ?F ?X ?N ?T ?hc ?hd ?hu ?_; (case N => k_asm); (case B => k_asm); (case F => k_asm); (case X => k_asm); (case T => k_asm); (case hc => first | exact rfl | assumption); (case hd => exact Nat.le_of_ble_eq_true rfl); (case hu => exact Nat.le_of_ble_eq_true rfl); (case m1 => k_mem); (case m2 => k_mem); (case hk => assumption); (case hl => assumption))); (intro v9 a9 h9 k9 F9 N9 L9 P9); (obtain ⟨t9, hv9, ha9⟩ := P9); subst hv9; subst ha9; (simp only [List.nil_append] at N9); clear L9; (try unfold PySem.W.StrBack); (try dsimp only); (try k_fold)))
local macro_rules | `(tactic| walk_at "call ref") => `(tactic| (k_here; (with_reducible show wpAny _ _ (call (Value.ref 100) _) _ _ _); k_dflt (first
  | (refine' KC.use (KC.sub2 (st0 _ _ _ _ _ _ _ _ _ ?hk ?hl) ?m1 ?m2) ?B ?F ?X ?N ?T ?hc ?hd ?hu ?_; (case N => k_asm); (case B => k_asm); (case F => k_asm); (case X => k_asm); (case T => k_asm); (case hc => first | exact rfl | assumption); (case hd => exact Nat.le_of_ble_eq_true rfl); (case hu => exact Nat.le_of_ble_eq_true rfl); (case m1 => k_mem); (case m2 => k_mem); (case hk => first | assumption | omega); (case hl => first | assumption | omega))
  | (refine' KC.use (KC.sub2 (st1 _ _ _ _ _ _ _ _ _ ?hk ?hl) ?m1 ?m2) ?B ?F ?X ?N ?T ?hc ?hd ?hu ?_; (case N => k_asm); (case B => k_asm); (case F => k_asm); (case X => k_asm); (case T => k_asm); (case hc => first | exact rfl | assumption); (case hd => exact Nat.le_of_ble_eq_true rfl); (case hu => exact Nat.le_of_ble_eq_true rfl); (case m1 => k_mem); (case m2 => k_mem); (case hk => first | assumption | omega); (case hl => first | assumption | omega))
  | (refine' KC.use (KC.sub2 (st2 _ _ _ _ _ _ _ _ _ ?hk ?hl ?hm) ?m1 ?m2) ?B ?F ?X ?N ?T ?hc ?hd ?hu ?_; (case N => k_asm); (case B => k_asm); (case F => k_asm); (case X => k_asm); (case T => k_asm); (case hc => first | exact rfl | assumption); (case hd => exact Nat.le_of_ble_eq_true rfl); (case hu => exact Nat.le_of_ble_eq_true rfl); (case m1 => k_mem); (case m2 => k_mem); (case hm => assumption); (case hk => first | assumption | omega); (case hl => first | assumption | omega))); (intro v9 a9 h9 k9 F9 N9 L9 P9); (obtain ⟨t9, hv9, ha9⟩ := P9); subst hv9; subst ha9; (simp only [List.nil_append] at N9); clear L9; (try unfold PySem.W.StrBack); (try dsimp only); (try k_fold)))
local macro_rules | `(tactic| walk_at "enter_T") => `(tactic| k_dflt (refine' code_defS0 ?k1 ?k2 ?k3 ?k4 ?k5 ?kA ?k6 ?k7 ?k8 ?k9 ?kB ?_ ?cK ?c2 ?c3 ?c4 ?c5; (case kA => exact rfl); (case k2 => k_asm); (case k1 => k_asm); (case k3 => k_asm); (case k4 => k_asm); (case k5 => k_asm); (case k6 => k_is); (case k7 => k_is); (case k8 => k_room); (case k9 => first | exact binds_K (by k_in) rfl (by k_is) rfl rfl rfl | exact BindsTo.of_eq rfl | fail "kts_go: no rule for these arguments"); (case kB => exact locs rfl); (case cK => assumption); (case c2 => exact rfl); (case c3 => exact rfl); (case c4 => exact rfl); (case c5 => decide); k_whole; intro g' L' h' FG' F' N' B' X' T' D'; (try dsimp only); (try k_lift B'); (try k_fold)))
local macro_rules | `(tactic| walk_at "pyIter bytes") => `(tactic| (k_here; (with_unfolding_all refine' src_bytes ?hh ?F ?N ?hb ?hk ?hx ?hd ?_; (case hh => exact rfl); (case F => k_asm); (case N => k_asm); (case hb => exact Nat.le_of_ble_eq_true rfl); (case hk => exact rfl); (case hx => exact fun _ => rfl); (case hd => decide)); intro D9 o9 h9 k9 F9 N9 ne9 O9; (try dsimp only); (try k_fold)))
local macro_rules | `(tactic| kqd_in) => `(tactic| ((with_reducible show DatIn _ (Value.ref _) _); exact OctIn.dat (by assumption) (by k_mem)))
local macro_rules | `(tactic| walk_at "exec Return some") => `(tactic| (exfalso; omega))
local macro_rules | `(tactic| walk_at "pyIter ref") => `(tactic| ((with_reducible show wpAny _ _ (pyIter (Value.ref 50)) _ _ _); k_here; (with_unfolding_all refine' dict_loop (D := mapD) (P := fun _ => True) ?hh (map_keyed ?X) ?F ?N trivial ?t ?d; (case hh => exact rfl); (case F => k_asm); (case N => k_asm); (case X => k_asm)); (case t => (intro i9 k9 t9 h9 tk9 own9 hD9 hP9 F9 N9; (rcases mapD_at hD9 with ⟨hi9, hk9⟩ | ⟨hi9, hk9⟩ | ⟨hi9, hk9⟩ | ⟨hi9, hk9⟩ | ⟨hi9, hk9⟩ | ⟨hi9, hk9⟩ | ⟨hi9, hk9⟩ | ⟨hi9, hk9⟩ | ⟨hi9, hk9⟩) <;> (subst hi9; subst hk9; k_steps; (all_goals (exact InvEnd.intro (by assumption) (by assumption) (fun _ h => h) ⟨trivial, fun z hz => if_neg hz⟩))))); (intro u9 h9 tk9 hP9 F9 N9; (try dsimp only); (try k_fold))))
theorem told1 (w : World) (n : Int) (t1 t2 t3 t4 : Tok) (x dx : Addr) (news) (h0 : 0 ≤ n) (h1 : n < 16777216) : KT 320 2000 w 175 [.ref x] ((x, instObj 103 dx) :: (dx, dE w 1 n t1 t2 t3 t4) :: news) (PD (D1 n)) := by
  unfold KT
  intro mean mg mb gd cn cs a ccd A₀ h₀ L m s Q E B F X N T hcs ret
  refine wpAny_call ?_
  walk_at "enter_T"
  k_steps
  all_goals (refine' kc_done ret [_, _, _, _] (pd_mk ?h ?e) ?F ?N same_sub ?lt; (case F => assumption); (case N => assumption); (case h => kqd_all); (case e => (unfold D1; rw [octs1 h0 h1, txt_due])); (case lt => exact lt_cons (by walk_at "k_newlt") (lt_cons (by walk_at "k_newlt") (lt_cons (by walk_at "k_newlt") (lt_consN (by assumption) lt_nil)))))
theorem told0 (w : World) (n : Int) (t1 t2 t3 t4 : Tok) (x dx : Addr) (news) (hk : n ∈ spdL) : KT 320 2000 w 175 [.ref x] ((x, instObj 103 dx) :: (dx, dE w 0 n t1 t2 t3 t4) :: news) (PD (D0 n)) := by
  unfold KT
  intro mean mg mb gd cn cs a ccd A₀ h₀ L m s Q E B F X N T hcs ret
  have hS := mem_spd.mp hk
  refine wpAny_call ?_
  walk_at "enter_T"
  k_steps
  all_goals (refine' kc_done ret [_, _, _, _] (pd_mk ?h ?e) ?F ?N same_sub ?lt; (case F => assumption); (case N => assumption); (case h => kqd_all); (case e => (unfold D0; rw [octs0 hk, txt_due])); (case lt => exact lt_cons (by walk_at "k_newlt") (lt_cons (by walk_at "k_newlt") (lt_cons (by walk_at "k_newlt") (lt_consN (by assumption) lt_nil)))))
theorem told2 (w : World) (n : Int) (t1 t2 t3 t4 : Tok) (x dx : Addr) (news) (h0 : 0 ≤ n) (h1 : n < 256) (hk : n ∈ namL) : KT 320 2000 w 175 [.ref x] ((x, instObj 103 dx) :: (dx, dE w 2 n t1 t2 t3 t4) :: news) (PD (D2 n)) := by
  unfold KT
  intro mean mg mb gd cn cs a ccd A₀ h₀ L m s Q E B F X N T hcs ret
  refine wpAny_call ?_
  walk_at "enter_T"
  k_steps
  all_goals (refine' kc_done ret [_, _, _, _] (pd_mk ?h ?e) ?F ?N same_sub ?lt; (case F => assumption); (case N => assumption); (case h => kqd_all); (case e => (unfold D2; rw [octs2 h0 h1, txt_due])); (case lt => exact lt_cons (by walk_at "k_newlt") (lt_cons (by walk_at "k_newlt") (lt_cons (by walk_at "k_newlt") (lt_consN (by assumption) lt_nil)))))
end
section
theorem off_C8 : True := by
  w_top off
  trivial
local macro_rules | `(tactic| walk_at "InitBack") => `(tactic| (dsimp only [InitBack]))
local macro_rules | `(tactic| walk_at "subscriptTail Name Constant ref int") => `(tactic| (k_here; (with_reducible show wpAny _ _ (subscriptTail _ _ (Value.ref _) (Value.int _ _)) _ _ _); k_dflt (refine' item_here ?k1 ?k2 ?k3 ?k4 ?k5 ?_ ?k6; (case k1 => k_asm); (case k2 => k_mem); (case k3 => decide); (case k4 => decide); (case k5 => rfl); (case k6 => with_unfolding_all rfl); k_whole)))
local macro_rules | `(tactic| walk_at "call builtin:list.index") => `(tactic| (k_here; (with_reducible show wpAny _ _ (call (Value.builtin _) [Value.ref _, Value.int _ _]) _ _ _); k_dflt (first
  | (refine' index_nam ?N ?m ?hn ?_; (case N => k_asm); (case m => k_mem); (case hn => first | assumption | exact in_nam (by assumption)))
  | (refine' index_spd ?N ?m ?hn ?_; (case N => k_asm); (case m => k_mem); (case hn => first | assumption | exact in_spd (by assumption)))); intro i0' i9'))
local macro_rules | `(tactic| walk_at "k_newlt") => `(tactic| (first | with_reducible assumption | exact allLt_mem (by with_reducible assumption) | exact allLt_mem (And.right (by with_reducible assumption)) | exact allLt_mem (And.right (And.right (by with_reducible assumption))) | exact allLt_mem (And.right (And.right (And.right (by with_reducible assumption)))) | exact allLt_mem (And.right (And.right (And.right (And.right (by with_reducible assumption))))) | exact allLt_mem (And.right (And.right (And.right (And.right (And.right (by with_reducible assumption)))))) | exact allLt_mem (And.right (And.right (And.right (And.right (And.right (And.right (by with_reducible assumption))))))) | exact allLt_mem (And.right (And.right (And.right (And.right (And.right (And.right (And.right (by with_reducible assumption)))))))) | exact allLt_mem (And.right (And.right (And.right (And.right (And.right (And.right (And.right (And.right (by with_reducible assumption))))))))) | exact allLt_memC (by with_reducible assumption) | exact allLt_memC (And.right (by with_reducible assumption)) | exact allLt_memC (And.right (And.right (by with_reducible assumption))) | exact allLt_memC (And.right (And.right (And.right (by with_reducible assumption)))) | exact allLt_memC (And.right (And.right (And.right (And.right (by with_reducible assumption))))) | exact allLt_memC (And.right (And.right (And.right (And.right (And.right (by with_reducible assumption)))))) | exact allLt_memC (And.right (And.right (And.right (And.right (And.right (And.right (by with_reducible assumption))))))) | exact allLt_memC (And.right (And.right (And.right (And.right (And.right (And.right (And.right (by with_reducible assumption)))))))) | exact allLt_memC (And.right (And.right (And.right (And.right (And.right (And.right (And.right (And.right (by with_reducible assumption))))))))) | exact allLt_memD (by with_reducible assumption) | exact allLt_memD (And.right (by with_reducible assumption)) | exact allLt_memD (And.right (And.right (by with_reducible assumption))) | exact allLt_memD (And.right (And.right (And.right (by with_reducible assumption)))) | exact allLt_memD (And.right (And.right (And.right (And.right (by with_reducible assumption))))) | exact allLt_memD (And.right (And.right (And.right (And.right (And.right (by with_reducible assumption)))))) | exact allLt_memD (And.right (And.right (And.right (And.right (And.right (And.right (by with_reducible assumption))))))) | exact allLt_memD (And.right (And.right (And.right (And.right (And.right (And.right (And.right (by with_reducible assumption)))))))) | exact allLt_memD (And.right (And.right (And.right (And.right (And.right (And.right (And.right (And.right (by with_reducible assumption)))))))))))
local macro_rules | `(tactic| walk_at "call builtin:_struct.pack") => `(tactic| (k_here; k_dflt (first
  | (refine' pack1 ?a ?b ?_; (case a => first | decide | omega); (case b => first | decide | omega))
  | refine' pack3m ?_
  | (refine' pack3 ?a ?b ?c ?d ?e ?f ?_; (case a => first | omega | l_fact); (case b => first | omega | l_fact); (case c => first | omega | l_fact); (case d => first | omega | l_fact); (case e => first | omega | l_fact); (case f => first | omega | l_fact)))))
local macro_rules | `(tactic| walk_at "call ref") => `(tactic| (k_here; (with_reducible show wpAny _ _ (call (Value.ref 86) _) _ _ _); k_dflt (first
  | (refine' KC.use (KC.sub2 (ef2 _ _ _ _ _ _ _ _ _ ?hk) ?m1 ?m2) ?B ?F ?X ?N ?T ?hc ?hd ?hu ?_; (case N => k_asm); (case B => k_asm); (case F => k_asm); (case X => k_asm); (case T => k_asm); (case hc => first | exact rfl | assumption); (case hd => exact Nat.le_of_ble_eq_true rfl); (case hu => exact Nat.le_of_ble_eq_true rfl); (case m1 => k_mem); (case m2 => k_mem); (case hk => assumption))
  | (refine' KC.use (KC.sub2 (ef1 _ _ _ _ _ _ _ _ _ _ ?hk) ?m1 ?m2) ?B ?F ?X ?N ?T ?hc ?hd ?hu ?_; (case N => k_asm); (case B => k_asm); (case F => k_asm); (case X => k_asm); (case T => k_asm); (case hc => first | exact rfl | assumption); (case hd => exact Nat.le_of_ble_eq_true rfl); (case hu => exact Nat.le_of_ble_eq_true rfl); (case m1 => k_mem); (case m2 => k_mem); (case hk => first | assumption | decide))); (intro v9 a9 h9 k9 F9 N9 L9 P9); (obtain ⟨t9, hv9, ha9⟩ := P9); subst hv9; subst ha9; (simp only [List.nil_append] at N9); clear L9; (try unfold PySem.W.StrBack); (try dsimp only); (try k_fold)))
local macro_rules | `(tactic| walk_at "joinParts") => `(tactic| (k_here; (first | (with_reducible show wpAny _ _ (joinParts _ []) _ _ _) | (with_reducible show wpAny _ _ (joinParts _ (evalEach [] _)) _ _ _)); k_dflt (refine joinParts_nil ?_ ?hz; (case hz => exact txt_fits (by first | assumption | omega) (by first | assumption | omega) (by decide)))))
local macro_rules | `(tactic| walk_at "call ref") => `(tactic| (k_here; (with_reducible show wpAny _ _ (call (Value.ref 149) _) _ _ _); k_dflt (first
  | (refine' KC.use (KC.sub1 (speed_K _ _ _ _ _ _ _) ?m1) ?B ?F ?X ?N ?T ?hc ?hd ?hu ?_; (case N => k_asm); (case B => k_asm); (case F => k_asm); (case X => k_asm); (case T => k_asm); (case hc => first | exact rfl | assumption); (case hd => exact Nat.le_of_ble_eq_true rfl); (case hu => exact Nat.le_of_ble_eq_true rfl); (case m1 => k_mem); skip)); (intro v9 a9 h9 k9 F9 N9 L9 P9); (obtain ⟨t9, hv9, ha9⟩ := P9); subst hv9; subst ha9; (simp only [List.nil_append] at N9); clear L9; (try unfold PySem.W.StrBack); (try dsimp only); (try k_fold)))
local macro_rules | `(tactic| walk_at "call ref") => `(tactic| (k_here; (with_reducible show wpAny _ _ (call (Value.ref 93) _) _ _ _); k_dflt (first
  | (refine' KC.use (KC.sub2 (gb0 _ _ _ _ _ _ _ _ _ ?hk) ?m1 ?m2) ?B ?F ?X ?N ?T ?hc ?hd ?hu ?_; (case N => k_asm); (case B => k_asm); (case F => k_asm); (case X => k_asm); (case T => k_asm); (case hc => first | exact rfl | assumption); (case hd => exact Nat.le_of_ble_eq_true rfl); (case hu => exact Nat.le_of_ble_eq_true rfl); (case m1 => k_mem); (case m2 => k_mem); (case hk => assumption))
  | (refine' KC.use (KC.sub2 (gb1 _ _ _ _ _ _ _ _ _ ?hk ?hl) ?m1 ?m2) ?B ?F ?X ?N ?T ?hc ?hd ?hu ?_; (case N => k_asm); (case B => k_asm); (case F => k_asm); (case X => k_asm); (case T => k_asm); (case hc => first | exact rfl | assumption); (case hd => exact Nat.le_of_ble_eq_true rfl); (case hu => exact Nat.le_of_ble_eq_true rfl); (case m1 => k_mem); (case m2 => k_mem); (case hk => assumption); (case hl => assumption))
  | (refine' KC.use (KC.sub2 (gb2 _ _ _ _ _ _ _ _ _ ?hk ?hl) ?m1 ?m2) ?B ?F ?X ?N ?T ?hc ?hd ?hu ?_; (case N => k_asm); (case B => k_asm); (case F => k_asm); (case X => k_asm); (case T => k_asm); (case hc => first | exact rfl | assumption); (case hd => exact Nat.le_of_ble_eq_true rfl); (case hu => exact Nat.le_of_ble_eq_true rfl); (case m1 => k_mem); (case m2 => k_mem); (case hk => assumption); (case hl => assumption))); (intro v9 a9 h9 k9 F9 N9 L9 P9); (obtain ⟨t9, hv9, ha9⟩ := P9); subst hv9; subst ha9; (simp only [List.nil_append] at N9); clear L9; (try unfold PySem.W.StrBack); (try dsimp only); (try k_fold)))
local macro_rules | `(tactic| walk_at "call ref") => `(tactic| (k_here; (with_reducible show wpAny _ _ (call (Value.ref 100) _) _ _ _); k_dflt (first
  | (refine' KC.use (KC.sub2 (st0 _ _ _ _ _ _ _ _ _ ?hk ?hl) ?m1 ?m2) ?B ?F ?X ?N ?T ?hc ?hd ?hu ?_; (case N => k_asm); (case B => k_asm); (case F => k_asm); (case X => k_asm); (case T => k_asm); (case hc => first | exact rfl | assumption); (case hd => exact Nat.le_of_ble_eq_true rfl); (case hu => exact Nat.le_of_ble_eq_true rfl); (case m1 => k_mem); (case m2 => k_mem); (case hk => first | assumption | omega); (case hl => first | assumption | omega))
  | (refine' KC.use (KC.sub2 (st1 _ _ _ _ _ _ _ _ _ ?hk ?hl) ?m1 ?m2) ?B ?F ?X ?N ?T ?hc ?hd ?hu ?_; (case N => k_asm); (case B => k_asm); (case F => k_asm); (case X => k_asm); (case T => k_asm); (case hc => first | exact rfl | assumption); (case hd => exact Nat.le_of_ble_eq_true rfl); (case hu => exact Nat.le_of_ble_eq_true rfl); (case m1 => k_mem); (case m2 => k_mem); (case hk => first | assumption | omega); (case hl => first | assumption | omega))
  | (refine' KC.use (KC.sub2 (st2 _ _ _ _ _ _ _ _ _ ?hk ?hl ?hm) ?m1 ?m2) ?B ?F ?X ?N ?T ?hc ?hd ?hu ?_; (case N => k_asm); (case B => k_asm); (case F => k_asm); (case X => k_asm); (case T => k_asm); (case hc => first | exact rfl | assumption); (case hd => exact Nat.le_of_ble_eq_true rfl); (case hu => exact Nat.le_of_ble_eq_true rfl); (case m1 => k_mem); (case m2 => k_mem); (case hm => assumption); (case hk => first | assumption | omega); (case hl => first | assumption | omega))); (intro v9 a9 h9 k9 F9 N9 L9 P9); (obtain ⟨t9, hv9, ha9⟩ := P9); subst hv9; subst ha9; (simp only [List.nil_append] at N9); clear L9; (try unfold PySem.W.StrBack); (try dsimp only); (try k_fold)))
local macro_rules | `(tactic| walk_at "enter_T") => `(tactic| k_dflt (refine' code_defS0 ?k1 ?k2 ?k3 ?k4 ?k5 ?kA ?k6 ?k7 ?k8 ?k9 ?kB ?_ ?cK ?c2 ?c3 ?c4 ?c5; (case kA => exact rfl); (case k2 => k_asm); (case k1 => k_asm); (case k3 => k_asm); (case k4 => k_asm); (case k5 => k_asm); (case k6 => k_is); (case k7 => k_is); (case k8 => k_room); (case k9 => first | exact binds_K (by k_in) rfl (by k_is) rfl rfl rfl | exact BindsTo.of_eq rfl | fail "kts_go: no rule for these arguments"); (case kB => exact locs rfl); (case cK => assumption); (case c2 => exact rfl); (case c3 => exact rfl); (case c4 => exact rfl); (case c5 => decide); k_whole; intro g' L' h' FG' F' N' B' X' T' D'; (try dsimp only); (try k_lift B'); (try k_fold)))
local macro_rules | `(tactic| walk_at "pyIter bytes") => `(tactic| (k_here; (with_unfolding_all refine' src_bytes ?hh ?F ?N ?hb ?hk ?hx ?hd ?_; (case hh => exact rfl); (case F => k_asm); (case N => k_asm); (case hb => exact Nat.le_of_ble_eq_true rfl); (case hk => exact rfl); (case hx => exact fun _ => rfl); (case hd => decide)); intro D9 o9 h9 k9 F9 N9 ne9 O9; (try dsimp only); (try k_fold)))
local macro_rules | `(tactic| kqd_in) => `(tactic| ((with_reducible show DatIn _ (Value.ref _) _); exact OctIn.dat (by assumption) (by k_mem)))
local macro_rules | `(tactic| walk_at "exec Return some") => `(tactic| (exfalso; omega))
local macro_rules | `(tactic| walk_at "map_loop") => `(tactic| ((with_unfolding_all refine' dict_loop (D := mapD) (P := fun _ => True) ?hh (map_keyed ?X) ?F ?N trivial ?t ?d; (case hh => exact rfl); (case F => k_asm); (case N => k_asm); (case X => k_asm)); (case t => (intro i9 k9 t9 h9 tk9 own9 hD9 hP9 F9 N9; (k_steps; (all_goals (exact InvEnd.intro (by assumption) (by assumption) (fun _ h => h) ⟨trivial, fun z hz => if_neg hz⟩))))); (intro u9 h9 tk9 hP9 F9 N9; (try dsimp only); (try k_fold))))
local macro_rules | `(tactic| walk_at "subscriptTail") => `(tactic| (k_here; (with_reducible show wpAny _ _ (subscriptTail _ _ (Value.ref 50) (Value.int _ _)) _ _ _); k_dflt (refine' map_item (map_keyed ?X) ?hk ?hD ?hn ?_; (case X => k_asm); (case hk => kt_keeps); (case hD => assumption); (case hn => assumption)); intro v9' u9' nv9'))
local macro_rules | `(tactic| walk_at "compareOp Eq int int") => `(tactic| (k_here; k_dflt (refine' eq_no ?hk ?_; (case hk => with_reducible assumption))))
local macro_rules | `(tactic| walk_at "call ref") => `(tactic| (k_here; (with_reducible show wpAny _ _ (call (Value.ref 170) _) _ _ _); k_dflt (refine wpAny_call ?_; kts_go)))
theorem told3 (w : World) (n : Int) (t1 t2 t3 t4 : Tok) (x dx : Addr) (news) (h0 : 0 ≤ n) (h1 : n < 256) (hk : n ∉ namL) : KT 320 2000 w 175 [.ref x] ((x, instObj 103 dx) :: (dx, dE w 2 n t1 t2 t3 t4) :: news) (PD (D3 n)) := by
  unfold KT
  intro mean mg mb gd cn cs a ccd A₀ h₀ L m s Q E B F X N T hcs ret
  refine wpAny_call ?_
  walk_at "enter_T"
  k_steps
  walk_at "map_loop"
  k_steps
  walk_at "map_loop"
  k_steps
  all_goals (refine' kc_done ret [_, _, _, _] (pd_mk ?h ?e) ?F ?N same_sub ?lt; (case F => assumption); (case N => assumption); (case h => kqd_all); (case e => (unfold D3; rw [octs2 h0 h1])); (case lt => exact lt_cons (by walk_at "k_newlt") (lt_cons (by walk_at "k_newlt") (lt_cons (by walk_at "k_newlt") (lt_consN (by assumption) lt_nil)))))
end
section
def PMade (w : World) (n k : Int) (v : Value) (add : List (Addr × Obj)) : Prop := ∃ l, v = .ref l ∧ ((¬ Ok n k ∧ add = [(l, listOf #[] 0)]) ∨ (Ok n k ∧ ∃ x dx t1 t2 t3 t4, add = [(l, listOf #[.ref x] 0), (x, instObj 103 dx), (dx, dE w (kk n k) n t1 t2 t3 t4)]))
theorem pm_no {w : World} {n k : Int} {l : Addr} (h : ¬ Ok n k) : PMade w n k (.ref l) [(l, listOf #[] 0)] := ⟨l, rfl, .inl ⟨h, rfl⟩⟩
theorem pm_yes {w : World} {n k k' : Int} {l x dx : Addr} {t1 t2 t3 t4 : Tok} (h : kk n k = k' ∧ Ok n k) : PMade w n k (.ref l) [(l, listOf #[.ref x] 0), (x, instObj 103 dx), (dx, dE w k' n t1 t2 t3 t4)] := ⟨l, rfl, .inr ⟨h.2, x, dx, t1, t2, t3, t4, by rw [h.1]⟩⟩
section
variable {n k : Int}
theorem map_in (h : (decide (n = 9600) || (decide (n = 19200) || (decide (n = 38400) || (decide (n = 57600) || (decide (n = 115200) || (decide (n = 125000) || (decide (n = 250000) || (decide (n = 500000) || (decide (n = 1000000) || false))))))))) = true) : n ∈ spdL := by
  simp only [Bool.or_eq_true, decide_eq_true_eq, Bool.false_eq_true, or_false] at h
  exact mem_spd.mpr h
theorem map_out (h : (decide (n = 9600) || (decide (n = 19200) || (decide (n = 38400) || (decide (n = 57600) || (decide (n = 115200) || (decide (n = 125000) || (decide (n = 250000) || (decide (n = 500000) || (decide (n = 1000000) || false))))))))) = false) : n ∉ spdL := fun hn => by
  have := mem_spd.mp hn
  simp only [Bool.or_eq_false_iff, decide_eq_false_iff_not] at h
  omega
theorem m3_1 (h : ¬ n < 0) (hM : n ∈ spdL) : kk n 3 = 0 ∧ Ok n 3 := by
  have e : kk n 3 = 0 := by rw [kk_3 rfl, autoK, if_pos hM]
  exact ⟨e, by omega, .inl ⟨e, hM⟩⟩
theorem m3_2 (h : ¬ n < 0) (hM : n ∉ spdL) (h2 : n ≤ 255) : kk n 3 = 2 ∧ Ok n 3 := by
  have e : kk n 3 = 2 := by rw [kk_3 rfl, autoK, if_neg hM, if_pos (by omega)]
  exact ⟨e, by omega, .inr (.inr ⟨e, by omega, by omega⟩)⟩
theorem m3_3 (h : ¬ n < 0) (hM : n ∉ spdL) (h2 : ¬ n ≤ 255) (h3 : ¬ 16777215 < n) : kk n 3 = 1 ∧ Ok n 3 := by
  have e : kk n 3 = 1 := by rw [kk_3 rfl, autoK, if_neg hM, if_neg (by omega)]
  exact ⟨e, by omega, .inr (.inl ⟨e, by omega, by omega⟩)⟩
theorem m3_n (hM : n ∉ spdL) (h2 : ¬ n ≤ 255) (h3 : 16777215 < n) : ¬ Ok n 3 := fun o => by
  have := o.2; rw [kk_3 rfl, autoK, if_neg hM, if_neg (by omega)] at this
  rcases this with ⟨a, _⟩ | ⟨_, _, a⟩ | ⟨a, _⟩ <;> omega
theorem m0_y (h : ¬ n < 0) (hM : n ∈ spdL) : kk n 0 = 0 ∧ Ok n 0 := ⟨kk_ne (by decide), by omega, .inl ⟨kk_ne (by decide), hM⟩⟩
theorem m0_n (hM : n ∉ spdL) : ¬ Ok n 0 := fun o => by
  have := o.2; rw [kk_ne (by decide)] at this
  rcases this with ⟨_, a⟩ | ⟨a, _⟩ | ⟨a, _⟩
  · exact hM a
  · omega
  · omega
theorem m1_y (h : ¬ n < 0) (h3 : ¬ 16777215 < n) : kk n 1 = 1 ∧ Ok n 1 := ⟨kk_ne (by decide), by omega, .inr (.inl ⟨kk_ne (by decide), by omega, by omega⟩)⟩
theorem m1_n (h3 : 16777215 < n) : ¬ Ok n 1 := fun o => by
  have := o.2; rw [kk_ne (by decide)] at this
  rcases this with ⟨a, _⟩ | ⟨_, _, a⟩ | ⟨a, _⟩ <;> omega
theorem m2_y (h : ¬ n < 0) (h3 : ¬ 255 < n) : kk n 2 = 2 ∧ Ok n 2 := ⟨kk_ne (by decide), by omega, .inr (.inr ⟨kk_ne (by decide), by omega, by omega⟩)⟩
theorem m2_n (h3 : 255 < n) : ¬ Ok n 2 := fun o => by
  have := o.2; rw [kk_ne (by decide)] at this
  rcases this with ⟨a, _⟩ | ⟨a, _, _⟩ | ⟨a, _, _⟩ <;> omega
theorem mx_n (h0 : k ≠ 0) (h1 : k ≠ 1) (h2 : k ≠ 2) (h3 : k ≠ 3) : ¬ Ok n k := fun o => by
  have := o.2; rw [kk_ne h3] at this
  rcases this with ⟨a, _⟩ | ⟨a, _, _⟩ | ⟨a, _, _⟩ <;> omega
end
theorem lt_two {d x : Addr} {news : List (Addr × Obj)} (h2 : d < x) (h : ∀ p ∈ news, p.1 < d) : ∀ p ∈ news, p.1 < x := fun p hp => Nat.lt_trans (h p hp) h2
theorem no01 {k : Int} (h : ([0, 1].any fun x => x == k) = true) (h0 : k ≠ 0) (h1 : k ≠ 1) : False := by
  simp only [List.any_cons, List.any_nil, Bool.or_false, Bool.or_eq_true, beq_iff_eq] at h
  omega
theorem yes01 {k : Int} (h : ([0, 1].any fun x => x == k) = false) (h0 : k = 0 ∨ k = 1) : False := by
  simp only [List.any_cons, List.any_nil, Bool.or_false, Bool.or_eq_false_iff, beq_eq_false_iff_ne] at h
  omega
theorem spd_lt {k n : Int} (h : k = 2 → n ∈ namL) (hn : n < 16777216) : spd k n < 16777216 := by
  unfold spd
  split
  · rename_i hk
    rw [if_pos (h hk)]
    rcases mem_nam.mp (h hk) with rfl | rfl | rfl | rfl | rfl | rfl | rfl | rfl | rfl <;> decide
  · exact hn
theorem spd_ge {k n : Int} (h : k = 2 → n ∈ namL) (hn : 0 ≤ n) : 0 ≤ spd k n := by
  unfold spd
  split
  · rename_i hk
    rw [if_pos (h hk)]
    rcases mem_nam.mp (h hk) with rfl | rfl | rfl | rfl | rfl | rfl | rfl | rfl | rfl <;> decide
  · exact hn
theorem ef_K (w : World) (k n : Int) (t1 t2 t3 t4 : Tok) (x dx : Addr) (news) (h : k = 2 → n ∈ namL) : KC 400 4000 w 86 [.ref x] ((x, instObj 103 dx) :: (dx, dE w k n t1 t2 t3 t4) :: news) (fun v add => ∃ t, v = .int (spd k n) t ∧ add = []) := by
  by_cases hk : k = 2
  · subst hk; exact ef2 w n t1 t2 t3 t4 x dx news (h rfl)
  · exact ef1 w n k t1 t2 t3 t4 x dx news hk
def PStr (x : Str) (v : Value) (add : List (Addr × Obj)) : Prop := ∃ l t, v = .ref l ∧ add = [(l, listOf #[.str x t] 0)]
def PNew (w : World) (k n : Int) (v : Value) (add : List (Addr × Obj)) : Prop := ∃ l t x dx t1 t2 t3 t4, v = .ref l ∧ add = [(l, listOf #[.str (Str.ofString "made") t, .ref x] 0), (x, instObj 103 dx), (dx, dE w k n t1 t2 t3 t4)]
theorem ps_mk {l : Addr} {x : Str} {t : Tok} : PStr x (.ref l) [(l, listOf #[.str x t] 0)] := ⟨l, t, rfl, rfl⟩
theorem pn_mk {w : World} {k n : Int} {l x dx : Addr} {t t1 t2 t3 t4 : Tok} : PNew w k n (.ref l) [(l, listOf #[.str (Str.ofString "made") t, .ref x] 0), (x, instObj 103 dx), (dx, dE w k n t1 t2 t3 t4)] := ⟨l, t, x, dx, t1, t2, t3, t4, rfl, rfl⟩
def PT0 (w : World) (sp : Int) (v : Value) (add : List (Addr × Obj)) : Prop := (sp ∈ spdL ∧ PNew w 0 sp v add) ∨ (sp ∉ spdL ∧ PStr (Str.ofString "refused") v add)
end
section
theorem off_C9A : True := by
  w_top off
  trivial
local macro_rules | `(tactic| walk_at "InitBack") => `(tactic| (dsimp only [InitBack]))
local macro_rules | `(tactic| walk_at "subscriptTail Name Constant ref int") => `(tactic| (k_here; (with_reducible show wpAny _ _ (subscriptTail _ _ (Value.ref _) (Value.int _ _)) _ _ _); k_dflt (refine' item_here ?k1 ?k2 ?k3 ?k4 ?k5 ?_ ?k6; (case k1 => k_asm); (case k2 => k_mem); (case k3 => decide); (case k4 => decide); (case k5 => rfl); (case k6 => with_unfolding_all rfl); k_whole)))
local macro_rules | `(tactic| walk_at "call builtin:list.index") => `(tactic| (k_here; (with_reducible show wpAny _ _ (call (Value.builtin _) [Value.ref _, Value.int _ _]) _ _ _); k_dflt (first
  | (refine' index_nam ?N ?m ?hn ?_; (case N => k_asm); (case m => k_mem); (case hn => first | assumption | exact in_nam (by assumption)))
  | (refine' index_spd ?N ?m ?hn ?_; (case N => k_asm); (case m => k_mem); (case hn => first | assumption | exact in_spd (by assumption)))); intro i0' i9'))
local macro_rules | `(tactic| walk_at "k_newlt") => `(tactic| (first | with_reducible assumption | exact allLt_mem (by with_reducible assumption) | exact allLt_mem (And.right (by with_reducible assumption)) | exact allLt_mem (And.right (And.right (by with_reducible assumption))) | exact allLt_mem (And.right (And.right (And.right (by with_reducible assumption)))) | exact allLt_mem (And.right (And.right (And.right (And.right (by with_reducible assumption))))) | exact allLt_mem (And.right (And.right (And.right (And.right (And.right (by with_reducible assumption)))))) | exact allLt_mem (And.right (And.right (And.right (And.right (And.right (And.right (by with_reducible assumption))))))) | exact allLt_mem (And.right (And.right (And.right (And.right (And.right (And.right (And.right (by with_reducible assumption)))))))) | exact allLt_mem (And.right (And.right (And.right (And.right (And.right (And.right (And.right (And.right (by with_reducible assumption))))))))) | exact allLt_memC (by with_reducible assumption) | exact allLt_memC (And.right (by with_reducible assumption)) | exact allLt_memC (And.right (And.right (by with_reducible assumption))) | exact allLt_memC (And.right (And.right (And.right (by with_reducible assumption)))) | exact allLt_memC (And.right (And.right (And.right (And.right (by with_reducible assumption))))) | exact allLt_memC (And.right (And.right (And.right (And.right (And.right (by with_reducible assumption)))))) | exact allLt_memC (And.right (And.right (And.right (And.right (And.right (And.right (by with_reducible assumption))))))) | exact allLt_memC (And.right (And.right (And.right (And.right (And.right (And.right (And.right (by with_reducible assumption)))))))) | exact allLt_memC (And.right (And.right (And.right (And.right (And.right (And.right (And.right (And.right (by with_reducible assumption))))))))) | exact allLt_memD (by with_reducible assumption) | exact allLt_memD (And.right (by with_reducible assumption)) | exact allLt_memD (And.right (And.right (by with_reducible assumption))) | exact allLt_memD (And.right (And.right (And.right (by with_reducible assumption)))) | exact allLt_memD (And.right (And.right (And.right (And.right (by with_reducible assumption))))) | exact allLt_memD (And.right (And.right (And.right (And.right (And.right (by with_reducible assumption)))))) | exact allLt_memD (And.right (And.right (And.right (And.right (And.right (And.right (by with_reducible assumption))))))) | exact allLt_memD (And.right (And.right (And.right (And.right (And.right (And.right (And.right (by with_reducible assumption)))))))) | exact allLt_memD (And.right (And.right (And.right (And.right (And.right (And.right (And.right (And.right (by with_reducible assumption)))))))))))
local macro_rules | `(tactic| walk_at "call builtin:_struct.pack") => `(tactic| (k_here; k_dflt (first
  | (refine' pack1 ?a ?b ?_; (case a => first | decide | omega); (case b => first | decide | omega))
  | refine' pack3m ?_
  | (refine' pack3 ?a ?b ?c ?d ?e ?f ?_; (case a => first | omega | l_fact); (case b => first | omega | l_fact); (case c => first | omega | l_fact); (case d => first | omega | l_fact); (case e => first | omega | l_fact); (case f => first | omega | l_fact)))))
local macro_rules | `(tactic| walk_at "call ref") => `(tactic| (k_here; (with_reducible show wpAny _ _ (call (Value.ref 86) _) _ _ _); k_dflt (first
  | (refine' KC.use (KC.sub2 (ef2 _ _ _ _ _ _ _ _ _ ?hk) ?m1 ?m2) ?B ?F ?X ?N ?T ?hc ?hd ?hu ?_; (case N => k_asm); (case B => k_asm); (case F => k_asm); (case X => k_asm); (case T => k_asm); (case hc => first | exact rfl | assumption); (case hd => exact Nat.le_of_ble_eq_true rfl); (case hu => exact Nat.le_of_ble_eq_true rfl); (case m1 => k_mem); (case m2 => k_mem); (case hk => assumption))
  | (refine' KC.use (KC.sub2 (ef1 _ _ _ _ _ _ _ _ _ _ ?hk) ?m1 ?m2) ?B ?F ?X ?N ?T ?hc ?hd ?hu ?_; (case N => k_asm); (case B => k_asm); (case F => k_asm); (case X => k_asm); (case T => k_asm); (case hc => first | exact rfl | assumption); (case hd => exact Nat.le_of_ble_eq_true rfl); (case hu => exact Nat.le_of_ble_eq_true rfl); (case m1 => k_mem); (case m2 => k_mem); (case hk => first | assumption | decide))); (intro v9 a9 h9 k9 F9 N9 L9 P9); (obtain ⟨t9, hv9, ha9⟩ := P9); subst hv9; subst ha9; (simp only [List.nil_append] at N9); clear L9; (try unfold PySem.W.StrBack); (try dsimp only); (try k_fold)))
local macro_rules | `(tactic| walk_at "joinParts") => `(tactic| (k_here; (first | (with_reducible show wpAny _ _ (joinParts _ []) _ _ _) | (with_reducible show wpAny _ _ (joinParts _ (evalEach [] _)) _ _ _)); k_dflt (refine joinParts_nil ?_ ?hz; (case hz => exact txt_fits (by first | assumption | omega) (by first | assumption | omega) (by decide)))))
local macro_rules | `(tactic| walk_at "call ref") => `(tactic| (k_here; (with_reducible show wpAny _ _ (call (Value.ref 149) _) _ _ _); k_dflt (first
  | (refine' KC.use (KC.sub1 (speed_K _ _ _ _ _ _ _) ?m1) ?B ?F ?X ?N ?T ?hc ?hd ?hu ?_; (case N => k_asm); (case B => k_asm); (case F => k_asm); (case X => k_asm); (case T => k_asm); (case hc => first | exact rfl | assumption); (case hd => exact Nat.le_of_ble_eq_true rfl); (case hu => exact Nat.le_of_ble_eq_true rfl); (case m1 => k_mem); skip)); (intro v9 a9 h9 k9 F9 N9 L9 P9); (obtain ⟨t9, hv9, ha9⟩ := P9); subst hv9; subst ha9; (simp only [List.nil_append] at N9); clear L9; (try unfold PySem.W.StrBack); (try dsimp only); (try k_fold)))
local macro_rules | `(tactic| walk_at "call ref") => `(tactic| (k_here; (with_reducible show wpAny _ _ (call (Value.ref 93) _) _ _ _); k_dflt (first
  | (refine' KC.use (KC.sub2 (gb0 _ _ _ _ _ _ _ _ _ ?hk) ?m1 ?m2) ?B ?F ?X ?N ?T ?hc ?hd ?hu ?_; (case N => k_asm); (case B => k_asm); (case F => k_asm); (case X => k_asm); (case T => k_asm); (case hc => first | exact rfl | assumption); (case hd => exact Nat.le_of_ble_eq_true rfl); (case hu => exact Nat.le_of_ble_eq_true rfl); (case m1 => k_mem); (case m2 => k_mem); (case hk => assumption))
  | (refine' KC.use (KC.sub2 (gb1 _ _ _ _ _ _ _ _ _ ?hk ?hl) ?m1 ?m2) ?B ?F ?X ?N ?T ?hc ?hd ?hu ?_; (case N => k_asm); (case B => k_asm); (case F => k_asm); (case X => k_asm); (case T => k_asm); (case hc => first | exact rfl | assumption); (case hd => exact Nat.le_of_ble_eq_true rfl); (case hu => exact Nat.le_of_ble_eq_true rfl); (case m1 => k_mem); (case m2 => k_mem); (case hk => assumption); (case hl => assumption))
  | (refine' KC.use (KC.sub2 (gb2 _ _ _ _ _ _ _ _ _ ?hk ?hl) ?m1 ?m2) ?B ?F ?X ?N ?T ?hc ?hd ?hu ?_; (case N => k_asm); (case B => k_asm); (case F => k_asm); (case X => k_asm); (case T => k_asm); (case hc => first | exact rfl | assumption); (case hd => exact Nat.le_of_ble_eq_true rfl); (case hu => exact Nat.le_of_ble_eq_true rfl); (case m1 => k_mem); (case m2 => k_mem); (case hk => assumption); (case hl => assumption))); (intro v9 a9 h9 k9 F9 N9 L9 P9); (obtain ⟨t9, hv9, ha9⟩ := P9); subst hv9; subst ha9; (simp only [List.nil_append] at N9); clear L9; (try unfold PySem.W.StrBack); (try dsimp only); (try k_fold)))
local macro_rules | `(tactic| walk_at "call ref") => `(tactic| (k_here; (with_reducible show wpAny _ _ (call (Value.ref 100) _) _ _ _); k_dflt (first
  | (refine' KC.use (KC.sub2 (st0 _ _ _ _ _ _ _ _ _ ?hk ?hl) ?m1 ?m2) ?B ?F ?X ?N ?T ?hc ?hd ?hu ?_; (case N => k_asm); (case B => k_asm); (case F => k_asm); (case X => k_asm); (case T => k_asm); (case hc => first | exact rfl | assumption); (case hd => exact Nat.le_of_ble_eq_true rfl); (case hu => exact Nat.le_of_ble_eq_true rfl); (case m1 => k_mem); (case m2 => k_mem); (case hk => first | assumption | omega); (case hl => first | assumption | omega))
  | (refine' KC.use (KC.sub2 (st1 _ _ _ _ _ _ _ _ _ ?hk ?hl) ?m1 ?m2) ?B ?F ?X ?N ?T ?hc ?hd ?hu ?_; (case N => k_asm); (case B => k_asm); (case F => k_asm); (case X => k_asm); (case T => k_asm); (case hc => first | exact rfl | assumption); (case hd => exact Nat.le_of_ble_eq_true rfl); (case hu => exact Nat.le_of_ble_eq_true rfl); (case m1 => k_mem); (case m2 => k_mem); (case hk => first | assumption | omega); (case hl => first | assumption | omega))
  | (refine' KC.use (KC.sub2 (st2 _ _ _ _ _ _ _ _ _ ?hk ?hl ?hm) ?m1 ?m2) ?B ?F ?X ?N ?T ?hc ?hd ?hu ?_; (case N => k_asm); (case B => k_asm); (case F => k_asm); (case X => k_asm); (case T => k_asm); (case hc => first | exact rfl | assumption); (case hd => exact Nat.le_of_ble_eq_true rfl); (case hu => exact Nat.le_of_ble_eq_true rfl); (case m1 => k_mem); (case m2 => k_mem); (case hm => assumption); (case hk => first | assumption | omega); (case hl => first | assumption | omega))); (intro v9 a9 h9 k9 F9 N9 L9 P9); (obtain ⟨t9, hv9, ha9⟩ := P9); subst hv9; subst ha9; (simp only [List.nil_append] at N9); clear L9; (try unfold PySem.W.StrBack); (try dsimp only); (try k_fold)))
local macro_rules | `(tactic| walk_at "enter_T") => `(tactic| k_dflt (refine' code_defS0 ?k1 ?k2 ?k3 ?k4 ?k5 ?kA ?k6 ?k7 ?k8 ?k9 ?kB ?_ ?cK ?c2 ?c3 ?c4 ?c5; (case kA => exact rfl); (case k2 => k_asm); (case k1 => k_asm); (case k3 => k_asm); (case k4 => k_asm); (case k5 => k_asm); (case k6 => k_is); (case k7 => k_is); (case k8 => k_room); (case k9 => first | exact binds_K (by k_in) rfl (by k_is) rfl rfl rfl | exact BindsTo.of_eq rfl | fail "kts_go: no rule for these arguments"); (case kB => exact locs rfl); (case cK => assumption); (case c2 => exact rfl); (case c3 => exact rfl); (case c4 => exact rfl); (case c5 => decide); k_whole; intro g' L' h' FG' F' N' B' X' T' D'; (try dsimp only); (try k_lift B'); (try k_fold)))
local macro_rules | `(tactic| walk_at "pyIter bytes") => `(tactic| (k_here; (with_unfolding_all refine' src_bytes ?hh ?F ?N ?hb ?hk ?hx ?hd ?_; (case hh => exact rfl); (case F => k_asm); (case N => k_asm); (case hb => exact Nat.le_of_ble_eq_true rfl); (case hk => exact rfl); (case hx => exact fun _ => rfl); (case hd => decide)); intro D9 o9 h9 k9 F9 N9 ne9 O9; (try dsimp only); (try k_fold)))
local macro_rules | `(tactic| kqd_in) => `(tactic| exact OctIn.dat (by assumption) (by k_mem))
theorem madeA (w : World) (n : Int) (tn tk : Tok) (news) : KT 320 2000 w 182 [.int n tn, .int (3) tk, .bool true] news (PMade w n (3)) := by
  unfold KT
  intro mean mg mb gd cn cs a ccd A₀ h₀ L m s Q E B F X N T hcs ret
  refine wpAny_call ?_
  walk_at "enter_T"
  k_steps
  all_goals (first
    | (refine' kc_done ret [_] (pm_no ?no) ?zF ?zN ?sub ?lt; (case zF => assumption); (case zN => assumption); (case no => first | exact st_n1 (by assumption) | exact m0_n (map_out (by assumption)) | exact m1_n (by assumption) | exact m2_n (by assumption) | exact m3_n (map_out (by assumption)) (by assumption) (by assumption) | exact mx_n (by decide) (by decide) (by decide) (by decide)); (case sub => kqd_sub); (case lt => exact lt_one (by walk_at "k_newlt")))
    | (refine' kc_done ret [_, _, _] (pm_yes ?no) ?zF ?zN same_sub ?lt; (case zF => assumption); (case zN => assumption); (case no => first | exact m0_y (by assumption) (map_in (by assumption)) | exact m1_y (by assumption) (by assumption) | exact m2_y (by assumption) (by assumption) | exact m3_1 (by assumption) (map_in (by assumption)) | exact m3_2 (by assumption) (map_out (by assumption)) (by assumption) | exact m3_3 (by assumption) (map_out (by assumption)) (by assumption) (by assumption)); (case lt => exact lt_cons (by walk_at "k_newlt") (lt_cons (lt_two (by assumption) (by assumption)) (lt_cons (by assumption) lt_nil)))))
theorem madeB (w : World) (n : Int) (tn tk : Tok) (news) : KT 320 2000 w 182 [.int n tn, .int (3) tk, .bool false] news (PMade w n (3)) := by
  unfold KT
  intro mean mg mb gd cn cs a ccd A₀ h₀ L m s Q E B F X N T hcs ret
  refine wpAny_call ?_
  walk_at "enter_T"
  k_steps
  all_goals (first
    | (refine' kc_done ret [_] (pm_no ?no) ?zF ?zN ?sub ?lt; (case zF => assumption); (case zN => assumption); (case no => first | exact st_n1 (by assumption) | exact m0_n (map_out (by assumption)) | exact m1_n (by assumption) | exact m2_n (by assumption) | exact m3_n (map_out (by assumption)) (by assumption) (by assumption) | exact mx_n (by decide) (by decide) (by decide) (by decide)); (case sub => kqd_sub); (case lt => exact lt_one (by walk_at "k_newlt")))
    | (refine' kc_done ret [_, _, _] (pm_yes ?no) ?zF ?zN same_sub ?lt; (case zF => assumption); (case zN => assumption); (case no => first | exact m0_y (by assumption) (map_in (by assumption)) | exact m1_y (by assumption) (by assumption) | exact m2_y (by assumption) (by assumption) | exact m3_1 (by assumption) (map_in (by assumption)) | exact m3_2 (by assumption) (map_out (by assumption)) (by assumption) | exact m3_3 (by assumption) (map_out (by assumption)) (by assumption) (by assumption)); (case lt => exact lt_cons (by walk_at "k_newlt") (lt_cons (lt_two (by assumption) (by assumption)) (lt_cons (by assumption) lt_nil)))))
theorem off_C9B : True := by
  w_top off
  trivial
theorem madeC (w : World) (n : Int) (tn tk : Tok) (b : Bool) (news) : KT 320 2000 w 182 [.int n tn, .int (0) tk, .bool b] news (PMade w n (0)) := by
  unfold KT
  intro mean mg mb gd cn cs a ccd A₀ h₀ L m s Q E B F X N T hcs ret
  refine wpAny_call ?_
  walk_at "enter_T"
  k_steps
  all_goals (first
    | (refine' kc_done ret [_] (pm_no ?no) ?zF ?zN ?sub ?lt; (case zF => assumption); (case zN => assumption); (case no => first | exact st_n1 (by assumption) | exact m0_n (map_out (by assumption)) | exact m1_n (by assumption) | exact m2_n (by assumption) | exact m3_n (map_out (by assumption)) (by assumption) (by assumption) | exact mx_n (by decide) (by decide) (by decide) (by decide)); (case sub => kqd_sub); (case lt => exact lt_one (by walk_at "k_newlt")))
    | (refine' kc_done ret [_, _, _] (pm_yes ?no) ?zF ?zN same_sub ?lt; (case zF => assumption); (case zN => assumption); (case no => first | exact m0_y (by assumption) (map_in (by assumption)) | exact m1_y (by assumption) (by assumption) | exact m2_y (by assumption) (by assumption) | exact m3_1 (by assumption) (map_in (by assumption)) | exact m3_2 (by assumption) (map_out (by assumption)) (by assumption) | exact m3_3 (by assumption) (map_out (by assumption)) (by assumption) (by assumption)); (case lt => exact lt_cons (by walk_at "k_newlt") (lt_cons (lt_two (by assumption) (by assumption)) (lt_cons (by assumption) lt_nil)))))
theorem madeD (w : World) (n : Int) (tn tk : Tok) (b : Bool) (news) : KT 320 2000 w 182 [.int n tn, .int (1) tk, .bool b] news (PMade w n (1)) := by
  unfold KT
  intro mean mg mb gd cn cs a ccd A₀ h₀ L m s Q E B F X N T hcs ret
  refine wpAny_call ?_
  walk_at "enter_T"
  k_steps
  all_goals (first
    | (refine' kc_done ret [_] (pm_no ?no) ?zF ?zN ?sub ?lt; (case zF => assumption); (case zN => assumption); (case no => first | exact st_n1 (by assumption) | exact m0_n (map_out (by assumption)) | exact m1_n (by assumption) | exact m2_n (by assumption) | exact m3_n (map_out (by assumption)) (by assumption) (by assumption) | exact mx_n (by decide) (by decide) (by decide) (by decide)); (case sub => kqd_sub); (case lt => exact lt_one (by walk_at "k_newlt")))
    | (refine' kc_done ret [_, _, _] (pm_yes ?no) ?zF ?zN same_sub ?lt; (case zF => assumption); (case zN => assumption); (case no => first | exact m0_y (by assumption) (map_in (by assumption)) | exact m1_y (by assumption) (by assumption) | exact m2_y (by assumption) (by assumption) | exact m3_1 (by assumption) (map_in (by assumption)) | exact m3_2 (by assumption) (map_out (by assumption)) (by assumption) | exact m3_3 (by assumption) (map_out (by assumption)) (by assumption) (by assumption)); (case lt => exact lt_cons (by walk_at "k_newlt") (lt_cons (lt_two (by assumption) (by assumption)) (lt_cons (by assumption) lt_nil)))))
theorem madeE (w : World) (n : Int) (tn tk : Tok) (b : Bool) (news) : KT 320 2000 w 182 [.int n tn, .int (2) tk, .bool b] news (PMade w n (2)) := by
  unfold KT
  intro mean mg mb gd cn cs a ccd A₀ h₀ L m s Q E B F X N T hcs ret
  refine wpAny_call ?_
  walk_at "enter_T"
  k_steps
  all_goals (first
    | (refine' kc_done ret [_] (pm_no ?no) ?zF ?zN ?sub ?lt; (case zF => assumption); (case zN => assumption); (case no => first | exact st_n1 (by assumption) | exact m0_n (map_out (by assumption)) | exact m1_n (by assumption) | exact m2_n (by assumption) | exact m3_n (map_out (by assumption)) (by assumption) (by assumption) | exact mx_n (by decide) (by decide) (by decide) (by decide)); (case sub => kqd_sub); (case lt => exact lt_one (by walk_at "k_newlt")))
    | (refine' kc_done ret [_, _, _] (pm_yes ?no) ?zF ?zN same_sub ?lt; (case zF => assumption); (case zN => assumption); (case no => first | exact m0_y (by assumption) (map_in (by assumption)) | exact m1_y (by assumption) (by assumption) | exact m2_y (by assumption) (by assumption) | exact m3_1 (by assumption) (map_in (by assumption)) | exact m3_2 (by assumption) (map_out (by assumption)) (by assumption) | exact m3_3 (by assumption) (map_out (by assumption)) (by assumption) (by assumption)); (case lt => exact lt_cons (by walk_at "k_newlt") (lt_cons (lt_two (by assumption) (by assumption)) (lt_cons (by assumption) lt_nil)))))
theorem off_C9C : True := by
  w_top off
  trivial
theorem madeF (w : World) (n : Int) (tn tk : Tok) (b : Bool) (news) : KT 320 2000 w 182 [.int n tn, .int (-1) tk, .bool b] news (PMade w n (-1)) := by
  unfold KT
  intro mean mg mb gd cn cs a ccd A₀ h₀ L m s Q E B F X N T hcs ret
  refine wpAny_call ?_
  walk_at "enter_T"
  k_steps
  all_goals (first
    | (refine' kc_done ret [_] (pm_no ?no) ?zF ?zN ?sub ?lt; (case zF => assumption); (case zN => assumption); (case no => first | exact st_n1 (by assumption) | exact m0_n (map_out (by assumption)) | exact m1_n (by assumption) | exact m2_n (by assumption) | exact m3_n (map_out (by assumption)) (by assumption) (by assumption) | exact mx_n (by decide) (by decide) (by decide) (by decide)); (case sub => kqd_sub); (case lt => exact lt_one (by walk_at "k_newlt")))
    | (refine' kc_done ret [_, _, _] (pm_yes ?no) ?zF ?zN same_sub ?lt; (case zF => assumption); (case zN => assumption); (case no => first | exact m0_y (by assumption) (map_in (by assumption)) | exact m1_y (by assumption) (by assumption) | exact m2_y (by assumption) (by assumption) | exact m3_1 (by assumption) (map_in (by assumption)) | exact m3_2 (by assumption) (map_out (by assumption)) (by assumption) | exact m3_3 (by assumption) (map_out (by assumption)) (by assumption) (by assumption)); (case lt => exact lt_cons (by walk_at "k_newlt") (lt_cons (lt_two (by assumption) (by assumption)) (lt_cons (by assumption) lt_nil)))))
theorem madeG (w : World) (n : Int) (tn tk : Tok) (b : Bool) (news) : KT 320 2000 w 182 [.int n tn, .int (4) tk, .bool b] news (PMade w n (4)) := by
  unfold KT
  intro mean mg mb gd cn cs a ccd A₀ h₀ L m s Q E B F X N T hcs ret
  refine wpAny_call ?_
  walk_at "enter_T"
  k_steps
  all_goals (first
    | (refine' kc_done ret [_] (pm_no ?no) ?zF ?zN ?sub ?lt; (case zF => assumption); (case zN => assumption); (case no => first | exact st_n1 (by assumption) | exact m0_n (map_out (by assumption)) | exact m1_n (by assumption) | exact m2_n (by assumption) | exact m3_n (map_out (by assumption)) (by assumption) (by assumption) | exact mx_n (by decide) (by decide) (by decide) (by decide)); (case sub => kqd_sub); (case lt => exact lt_one (by walk_at "k_newlt")))
    | (refine' kc_done ret [_, _, _] (pm_yes ?no) ?zF ?zN same_sub ?lt; (case zF => assumption); (case zN => assumption); (case no => first | exact m0_y (by assumption) (map_in (by assumption)) | exact m1_y (by assumption) (by assumption) | exact m2_y (by assumption) (by assumption) | exact m3_1 (by assumption) (map_in (by assumption)) | exact m3_2 (by assumption) (map_out (by assumption)) (by assumption) | exact m3_3 (by assumption) (map_out (by assumption)) (by assumption) (by assumption)); (case lt => exact lt_cons (by walk_at "k_newlt") (lt_cons (lt_two (by assumption) (by assumption)) (lt_cons (by assumption) lt_nil)))))
theorem off_CA : True := by
  w_top off
  trivial
theorem worth_K (w : World) (n : Int) (tn : Tok) (news) : KC 400 4000 w 135 [.int n tn] news (fun v add => ∃ a t, v = .int a t ∧ add = []) := by
  unfold KC
  intro mean mg mb gd cn cs a ccd cl outer A₀ base h₀ L m s Q E B F X N T hcs ret
  refine wpAny_call ?_
  k_dflt cell_enter
  k_steps
  all_goals (refine' kc_done ret [] ⟨_, _, rfl, rfl⟩ ?zF ?zN ?sub lt_nil; (case zF => assumption); (case zN => assumption); (case sub => kqd_sub))
end
section
theorem off_CB1 : True := by
  w_top off
  trivial
local macro_rules | `(tactic| walk_at "InitBack") => `(tactic| (dsimp only [InitBack]))
local macro_rules | `(tactic| walk_at "subscriptTail Name Constant ref int") => `(tactic| (k_here; (with_reducible show wpAny _ _ (subscriptTail _ _ (Value.ref _) (Value.int _ _)) _ _ _); k_dflt (refine' item_here ?k1 ?k2 ?k3 ?k4 ?k5 ?_ ?k6; (case k1 => k_asm); (case k2 => k_mem); (case k3 => decide); (case k4 => decide); (case k5 => rfl); (case k6 => with_unfolding_all rfl); k_whole)))
local macro_rules | `(tactic| walk_at "call builtin:list.index") => `(tactic| (k_here; (with_reducible show wpAny _ _ (call (Value.builtin _) [Value.ref _, Value.int _ _]) _ _ _); k_dflt (first
  | (refine' index_nam ?N ?m ?hn ?_; (case N => k_asm); (case m => k_mem); (case hn => first | assumption | exact in_nam (by assumption)))
  | (refine' index_spd ?N ?m ?hn ?_; (case N => k_asm); (case m => k_mem); (case hn => first | assumption | exact in_spd (by assumption)))); intro i0' i9'))
local macro_rules | `(tactic| walk_at "k_newlt") => `(tactic| (first | with_reducible assumption | exact allLt_mem (by with_reducible assumption) | exact allLt_mem (And.right (by with_reducible assumption)) | exact allLt_mem (And.right (And.right (by with_reducible assumption))) | exact allLt_mem (And.right (And.right (And.right (by with_reducible assumption)))) | exact allLt_mem (And.right (And.right (And.right (And.right (by with_reducible assumption))))) | exact allLt_mem (And.right (And.right (And.right (And.right (And.right (by with_reducible assumption)))))) | exact allLt_mem (And.right (And.right (And.right (And.right (And.right (And.right (by with_reducible assumption))))))) | exact allLt_mem (And.right (And.right (And.right (And.right (And.right (And.right (And.right (by with_reducible assumption)))))))) | exact allLt_mem (And.right (And.right (And.right (And.right (And.right (And.right (And.right (And.right (by with_reducible assumption))))))))) | exact allLt_memC (by with_reducible assumption) | exact allLt_memC (And.right (by with_reducible assumption)) | exact allLt_memC (And.right (And.right (by with_reducible assumption))) | exact allLt_memC (And.right (And.right (And.right (by with_reducible assumption)))) | exact allLt_memC (And.right (And.right (And.right (And.right (by with_reducible assumption))))) | exact allLt_memC (And.right (And.right (And.right (And.right (And.right (by with_reducible assumption)))))) | exact allLt_memC (And.right (And.right (And.right (And.right (And.right (And.right (by with_reducible assumption))))))) | exact allLt_memC (And.right (And.right (And.right (And.right (And.right (And.right (And.right (by with_reducible assumption)))))))) | exact allLt_memC (And.right (And.right (And.right (And.right (And.right (And.right (And.right (And.right (by with_reducible assumption))))))))) | exact allLt_memD (by with_reducible assumption) | exact allLt_memD (And.right (by with_reducible assumption)) | exact allLt_memD (And.right (And.right (by with_reducible assumption))) | exact allLt_memD (And.right (And.right (And.right (by with_reducible assumption)))) | exact allLt_memD (And.right (And.right (And.right (And.right (by with_reducible assumption))))) | exact allLt_memD (And.right (And.right (And.right (And.right (And.right (by with_reducible assumption)))))) | exact allLt_memD (And.right (And.right (And.right (And.right (And.right (And.right (by with_reducible assumption))))))) | exact allLt_memD (And.right (And.right (And.right (And.right (And.right (And.right (And.right (by with_reducible assumption)))))))) | exact allLt_memD (And.right (And.right (And.right (And.right (And.right (And.right (And.right (And.right (by with_reducible assumption)))))))))))
local macro_rules | `(tactic| walk_at "call builtin:_struct.pack") => `(tactic| (k_here; k_dflt (first
  | (refine' pack1 ?a ?b ?_; (case a => first | decide | omega); (case b => first | decide | omega))
  | refine' pack3m ?_
  | (refine' pack3 ?a ?b ?c ?d ?e ?f ?_; (case a => first | omega | l_fact); (case b => first | omega | l_fact); (case c => first | omega | l_fact); (case d => first | omega | l_fact); (case e => first | omega | l_fact); (case f => first | omega | l_fact)))))
local macro_rules | `(tactic| walk_at "call ref") => `(tactic| (k_here; (with_reducible show wpAny _ _ (call (Value.ref 86) _) _ _ _); k_dflt (first
  | (refine' KC.use (KC.sub2 (ef_K _ _ _ _ _ _ _ _ _ _ ?hk) ?m1 ?m2) ?B ?F ?X ?N ?T ?hc ?hd ?hu ?_; (case N => k_asm); (case B => k_asm); (case F => k_asm); (case X => k_asm); (case T => k_asm); (case hc => first | exact rfl | assumption); (case hd => exact Nat.le_of_ble_eq_true rfl); (case hu => exact Nat.le_of_ble_eq_true rfl); (case m1 => k_mem); (case m2 => k_mem); (case hk => assumption))); (intro v9 a9 h9 k9 F9 N9 L9 P9); (obtain ⟨t9, hv9, ha9⟩ := P9); subst hv9; subst ha9; (simp only [List.nil_append] at N9); clear L9; (try dsimp only); (try k_fold)))
local macro_rules | `(tactic| walk_at "joinParts") => `(tactic| (k_here; (first | (with_reducible show wpAny _ _ (joinParts _ []) _ _ _) | (with_reducible show wpAny _ _ (joinParts _ (evalEach [] _)) _ _ _)); k_dflt (refine joinParts_nil ?_ ?hz; (case hz => exact txt_fits (by first | assumption | omega) (by first | assumption | omega) (by decide)))))
local macro_rules | `(tactic| walk_at "call ref") => `(tactic| (k_here; (with_reducible show wpAny _ _ (call (Value.ref 149) _) _ _ _); k_dflt (first
  | (refine' KC.use (KC.sub1 (speed_K _ _ _ _ _ _ _) ?m1) ?B ?F ?X ?N ?T ?hc ?hd ?hu ?_; (case N => k_asm); (case B => k_asm); (case F => k_asm); (case X => k_asm); (case T => k_asm); (case hc => first | exact rfl | assumption); (case hd => exact Nat.le_of_ble_eq_true rfl); (case hu => exact Nat.le_of_ble_eq_true rfl); (case m1 => k_mem); skip)); (intro v9 a9 h9 k9 F9 N9 L9 P9); (obtain ⟨t9, hv9, ha9⟩ := P9); subst hv9; subst ha9; (simp only [List.nil_append] at N9); clear L9; (try unfold PySem.W.StrBack); (try dsimp only); (try k_fold)))
local macro_rules | `(tactic| walk_at "call ref") => `(tactic| (k_here; (with_reducible show wpAny _ _ (call (Value.ref 93) _) _ _ _); k_dflt (first
  | (refine' KC.use (KC.sub2 (gb0 _ _ _ _ _ _ _ _ _ ?hk) ?m1 ?m2) ?B ?F ?X ?N ?T ?hc ?hd ?hu ?_; (case N => k_asm); (case B => k_asm); (case F => k_asm); (case X => k_asm); (case T => k_asm); (case hc => first | exact rfl | assumption); (case hd => exact Nat.le_of_ble_eq_true rfl); (case hu => exact Nat.le_of_ble_eq_true rfl); (case m1 => k_mem); (case m2 => k_mem); (case hk => assumption))
  | (refine' KC.use (KC.sub2 (gb1 _ _ _ _ _ _ _ _ _ ?hk ?hl) ?m1 ?m2) ?B ?F ?X ?N ?T ?hc ?hd ?hu ?_; (case N => k_asm); (case B => k_asm); (case F => k_asm); (case X => k_asm); (case T => k_asm); (case hc => first | exact rfl | assumption); (case hd => exact Nat.le_of_ble_eq_true rfl); (case hu => exact Nat.le_of_ble_eq_true rfl); (case m1 => k_mem); (case m2 => k_mem); (case hk => assumption); (case hl => assumption))
  | (refine' KC.use (KC.sub2 (gb2 _ _ _ _ _ _ _ _ _ ?hk ?hl) ?m1 ?m2) ?B ?F ?X ?N ?T ?hc ?hd ?hu ?_; (case N => k_asm); (case B => k_asm); (case F => k_asm); (case X => k_asm); (case T => k_asm); (case hc => first | exact rfl | assumption); (case hd => exact Nat.le_of_ble_eq_true rfl); (case hu => exact Nat.le_of_ble_eq_true rfl); (case m1 => k_mem); (case m2 => k_mem); (case hk => assumption); (case hl => assumption))); (intro v9 a9 h9 k9 F9 N9 L9 P9); (obtain ⟨t9, hv9, ha9⟩ := P9); subst hv9; subst ha9; (simp only [List.nil_append] at N9); clear L9; (try unfold PySem.W.StrBack); (try dsimp only); (try k_fold)))
local macro_rules | `(tactic| walk_at "call ref") => `(tactic| (k_here; (with_reducible show wpAny _ _ (call (Value.ref 100) _) _ _ _); k_dflt (first
  | (refine' KC.use (KC.sub2 (st0 _ _ _ _ _ _ _ _ _ ?hk ?hl) ?m1 ?m2) ?B ?F ?X ?N ?T ?hc ?hd ?hu ?_; (case N => k_asm); (case B => k_asm); (case F => k_asm); (case X => k_asm); (case T => k_asm); (case hc => first | exact rfl | assumption); (case hd => exact Nat.le_of_ble_eq_true rfl); (case hu => exact Nat.le_of_ble_eq_true rfl); (case m1 => k_mem); (case m2 => k_mem); (case hk => first | assumption | omega); (case hl => first | assumption | omega))
  | (refine' KC.use (KC.sub2 (st1 _ _ _ _ _ _ _ _ _ ?hk ?hl) ?m1 ?m2) ?B ?F ?X ?N ?T ?hc ?hd ?hu ?_; (case N => k_asm); (case B => k_asm); (case F => k_asm); (case X => k_asm); (case T => k_asm); (case hc => first | exact rfl | assumption); (case hd => exact Nat.le_of_ble_eq_true rfl); (case hu => exact Nat.le_of_ble_eq_true rfl); (case m1 => k_mem); (case m2 => k_mem); (case hk => first | assumption | omega); (case hl => first | assumption | omega))
  | (refine' KC.use (KC.sub2 (st2 _ _ _ _ _ _ _ _ _ ?hk ?hl ?hm) ?m1 ?m2) ?B ?F ?X ?N ?T ?hc ?hd ?hu ?_; (case N => k_asm); (case B => k_asm); (case F => k_asm); (case X => k_asm); (case T => k_asm); (case hc => first | exact rfl | assumption); (case hd => exact Nat.le_of_ble_eq_true rfl); (case hu => exact Nat.le_of_ble_eq_true rfl); (case m1 => k_mem); (case m2 => k_mem); (case hm => assumption); (case hk => first | assumption | omega); (case hl => first | assumption | omega))); (intro v9 a9 h9 k9 F9 N9 L9 P9); (obtain ⟨t9, hv9, ha9⟩ := P9); subst hv9; subst ha9; (simp only [List.nil_append] at N9); clear L9; (try unfold PySem.W.StrBack); (try dsimp only); (try k_fold)))
local macro_rules | `(tactic| walk_at "enter_T") => `(tactic| k_dflt (refine' code_defS0 ?k1 ?k2 ?k3 ?k4 ?k5 ?kA ?k6 ?k7 ?k8 ?k9 ?kB ?_ ?cK ?c2 ?c3 ?c4 ?c5; (case kA => exact rfl); (case k2 => k_asm); (case k1 => k_asm); (case k3 => k_asm); (case k4 => k_asm); (case k5 => k_asm); (case k6 => k_is); (case k7 => k_is); (case k8 => k_room); (case k9 => first | exact binds_K (by k_in) rfl (by k_is) rfl rfl rfl | exact BindsTo.of_eq rfl | fail "kts_go: no rule for these arguments"); (case kB => exact locs rfl); (case cK => assumption); (case c2 => exact rfl); (case c3 => exact rfl); (case c4 => exact rfl); (case c5 => decide); k_whole; intro g' L' h' FG' F' N' B' X' T' D'; (try dsimp only); (try k_lift B'); (try k_fold)))
local macro_rules | `(tactic| walk_at "pyIter bytes") => `(tactic| (k_here; (with_unfolding_all refine' src_bytes ?hh ?F ?N ?hb ?hk ?hx ?hd ?_; (case hh => exact rfl); (case F => k_asm); (case N => k_asm); (case hb => exact Nat.le_of_ble_eq_true rfl); (case hk => exact rfl); (case hx => exact fun _ => rfl); (case hd => decide)); intro D9 o9 h9 k9 F9 N9 ne9 O9; (try dsimp only); (try k_fold)))
local macro_rules | `(tactic| kqd_in) => `(tactic| exact OctIn.dat (by assumption) (by k_mem))
local macro_rules | `(tactic| walk_at "exec Return some") => `(tactic| (exact (no01 (by assumption) (by assumption) (by assumption)).elim))
local macro_rules | `(tactic| walk_at "exec Raise some none") => `(tactic| first | (exact (yes01 (by assumption) (by assumption)).elim) | (exfalso; omega))
local macro_rules | `(tactic| walk_at "map_loop") => `(tactic| ((with_unfolding_all refine' dict_loop (D := mapD) (P := fun _ => True) ?hh (map_keyed ?X) ?F ?N trivial ?t ?d; (case hh => exact rfl); (case F => k_asm); (case N => k_asm); (case X => k_asm)); (case t => (intro i9 k9 t9 h9 tk9 own9 hD9 hP9 F9 N9; (rcases mapD_at hD9 with ⟨hi9, hk9⟩ | ⟨hi9, hk9⟩ | ⟨hi9, hk9⟩ | ⟨hi9, hk9⟩ | ⟨hi9, hk9⟩ | ⟨hi9, hk9⟩ | ⟨hi9, hk9⟩ | ⟨hi9, hk9⟩ | ⟨hi9, hk9⟩) <;> (subst hi9; subst hk9; k_steps; (all_goals (exact InvEnd.intro (by assumption) (by assumption) (fun _ h => h) ⟨trivial, fun z hz => if_neg hz⟩))))); (intro u9 h9 tk9 hP9 F9 N9; (try dsimp only); (try k_fold))))
theorem turnedR (w : World) (n : Int) (tk t1 t2 t3 t4 : Tok) (x dx : Addr) (news) (k k0 : Int) (hk0 : k ≠ 0) (hk1 : k ≠ 1) : KT 320 2000 w 189 [.ref x, .int k tk] ((x, instObj 103 dx) :: (dx, dE w k0 n t1 t2 t3 t4) :: news) (PStr (Str.ofString "refused")) := by
  unfold KT
  intro mean mg mb gd cn cs a ccd A₀ h₀ L m s Q E B F X N T hcs ret
  refine wpAny_call ?_
  walk_at "enter_T"
  k_steps
  all_goals (refine' kc_done ret [_] ps_mk ?zF ?zN ?sub ?lt; (case zF => assumption); (case zN => assumption); (case sub => kqd_sub); (case lt => exact lt_one (by walk_at "k_newlt")))
theorem turned0 (w : World) (n : Int) (tk t1 t2 t3 t4 : Tok) (x dx : Addr) (news) (k0 : Int) (h0 : 0 ≤ n) (h1 : n < 16777216) (hk : k0 = 2 → n ∈ namL) : KT 320 2000 w 189 [.ref x, .int 0 tk] ((x, instObj 103 dx) :: (dx, dE w k0 n t1 t2 t3 t4) :: news) (PT0 w (spd k0 n)) := by
  unfold KT
  intro mean mg mb gd cn cs a ccd A₀ h₀ L m s Q E B F X N T hcs ret
  have b0 : 0 ≤ spd k0 n := spd_ge hk h0
  have b1 : spd k0 n < 16777216 := spd_lt hk h1
  refine wpAny_call ?_
  walk_at "enter_T"
  k_steps
  all_goals (first
    | (refine' kc_done ret [_] (Or.inr ⟨map_out (by assumption), ps_mk⟩) ?zF ?zN ?sub ?lt; (case zF => assumption); (case zN => assumption); (case sub => kqd_sub); (case lt => exact lt_one (by walk_at "k_newlt")))
    | (refine' kc_done ret [_, _, _] (Or.inl ⟨map_in (by assumption), pn_mk⟩) ?zF ?zN ?sub ?lt; (case zF => assumption); (case zN => assumption); (case sub => kqd_sub); (case lt => exact lt_cons (by walk_at "k_newlt") (lt_cons (lt_two (by assumption) (by walk_at "k_newlt")) (lt_cons (by walk_at "k_newlt") lt_nil)))))
theorem off_CB2 : True := by
  w_top off
  trivial
theorem turned1 (w : World) (n : Int) (tk t1 t2 t3 t4 : Tok) (x dx : Addr) (news) (k0 : Int) (h0 : 0 ≤ n) (h1 : n < 16777216) (hk : k0 = 2 → n ∈ namL) : KT 320 2000 w 189 [.ref x, .int 1 tk] ((x, instObj 103 dx) :: (dx, dE w k0 n t1 t2 t3 t4) :: news) (PNew w 1 (spd k0 n)) := by
  unfold KT
  intro mean mg mb gd cn cs a ccd A₀ h₀ L m s Q E B F X N T hcs ret
  have b0 : 0 ≤ spd k0 n := spd_ge hk h0
  have b1 : spd k0 n < 16777216 := spd_lt hk h1
  refine wpAny_call ?_
  walk_at "enter_T"
  k_steps
  all_goals (refine' kc_done ret [_, _, _] pn_mk ?zF ?zN ?sub ?lt; (case zF => assumption); (case zN => assumption); (case sub => kqd_sub); (case lt => exact lt_cons (by walk_at "k_newlt") (lt_cons (lt_two (by assumption) (by walk_at "k_newlt")) (lt_cons (by walk_at "k_newlt") lt_nil))))
end
section
local macro_rules | `(tactic| walk_at "none") => `(tactic| (fail "none"))
theorem off_CB3 : True := by
  w_top off
  trivial
local macro_rules | `(tactic| walk_at "InitBack") => `(tactic| (dsimp only [InitBack]))
local macro_rules | `(tactic| walk_at "subscriptTail Name Constant ref int") => `(tactic| (k_here; (with_reducible show wpAny _ _ (subscriptTail _ _ (Value.ref _) (Value.int _ _)) _ _ _); k_dflt (refine' item_here ?k1 ?k2 ?k3 ?k4 ?k5 ?_ ?k6; (case k1 => k_asm); (case k2 => k_mem); (case k3 => decide); (case k4 => decide); (case k5 => rfl); (case k6 => with_unfolding_all rfl); k_whole)))
local macro_rules | `(tactic| walk_at "call builtin:list.index") => `(tactic| (k_here; (with_reducible show wpAny _ _ (call (Value.builtin _) [Value.ref _, Value.int _ _]) _ _ _); k_dflt (first
  | (refine' index_nam ?N ?m ?hn ?_; (case N => k_asm); (case m => k_mem); (case hn => first | assumption | exact in_nam (by assumption)))
  | (refine' index_spd ?N ?m ?hn ?_; (case N => k_asm); (case m => k_mem); (case hn => first | assumption | exact in_spd (by assumption)))); intro i0' i9'))
local macro_rules | `(tactic| walk_at "k_newlt") => `(tactic| (first | with_reducible assumption | exact allLt_mem (by with_reducible assumption) | exact allLt_mem (And.right (by with_reducible assumption)) | exact allLt_mem (And.right (And.right (by with_reducible assumption))) | exact allLt_mem (And.right (And.right (And.right (by with_reducible assumption)))) | exact allLt_mem (And.right (And.right (And.right (And.right (by with_reducible assumption))))) | exact allLt_mem (And.right (And.right (And.right (And.right (And.right (by with_reducible assumption)))))) | exact allLt_mem (And.right (And.right (And.right (And.right (And.right (And.right (by with_reducible assumption))))))) | exact allLt_mem (And.right (And.right (And.right (And.right (And.right (And.right (And.right (by with_reducible assumption)))))))) | exact allLt_mem (And.right (And.right (And.right (And.right (And.right (And.right (And.right (And.right (by with_reducible assumption))))))))) | exact allLt_memC (by with_reducible assumption) | exact allLt_memC (And.right (by with_reducible assumption)) | exact allLt_memC (And.right (And.right (by with_reducible assumption))) | exact allLt_memC (And.right (And.right (And.right (by with_reducible assumption)))) | exact allLt_memC (And.right (And.right (And.right (And.right (by with_reducible assumption))))) | exact allLt_memC (And.right (And.right (And.right (And.right (And.right (by with_reducible assumption)))))) | exact allLt_memC (And.right (And.right (And.right (And.right (And.right (And.right (by with_reducible assumption))))))) | exact allLt_memC (And.right (And.right (And.right (And.right (And.right (And.right (And.right (by with_reducible assumption)))))))) | exact allLt_memC (And.right (And.right (And.right (And.right (And.right (And.right (And.right (And.right (by with_reducible assumption))))))))) | exact allLt_memD (by with_reducible assumption) | exact allLt_memD (And.right (by with_reducible assumption)) | exact allLt_memD (And.right (And.right (by with_reducible assumption))) | exact allLt_memD (And.right (And.right (And.right (by with_reducible assumption)))) | exact allLt_memD (And.right (And.right (And.right (And.right (by with_reducible assumption))))) | exact allLt_memD (And.right (And.right (And.right (And.right (And.right (by with_reducible assumption)))))) | exact allLt_memD (And.right (And.right (And.right (And.right (And.right (And.right (by with_reducible assumption))))))) | exact allLt_memD (And.right (And.right (And.right (And.right (And.right (And.right (And.right (by with_reducible assumption)))))))) | exact allLt_memD (And.right (And.right (And.right (And.right (And.right (And.right (And.right (And.right (by with_reducible assumption)))))))))))
local macro_rules | `(tactic| walk_at "call builtin:_struct.pack") => `(tactic| (k_here; k_dflt (first
  | (refine' pack1 ?a ?b ?_; (case a => first | decide | omega); (case b => first | decide | omega))
  | refine' pack3m ?_
  | (refine' pack3 ?a ?b ?c ?d ?e ?f ?_; (case a => first | omega | l_fact); (case b => first | omega | l_fact); (case c => first | omega | l_fact); (case d => first | omega | l_fact); (case e => first | omega | l_fact); (case f => first | omega | l_fact)))))
local macro_rules | `(tactic| walk_at "call ref") => `(tactic| (k_here; (with_reducible show wpAny _ _ (call (Value.ref 86) _) _ _ _); k_dflt (first
  | (refine' KC.use (KC.sub2 (ef_K _ _ _ _ _ _ _ _ _ _ ?hk) ?m1 ?m2) ?B ?F ?X ?N ?T ?hc ?hd ?hu ?_; (case N => k_asm); (case B => k_asm); (case F => k_asm); (case X => k_asm); (case T => k_asm); (case hc => first | exact rfl | assumption); (case hd => exact Nat.le_of_ble_eq_true rfl); (case hu => exact Nat.le_of_ble_eq_true rfl); (case m1 => k_mem); (case m2 => k_mem); (case hk => assumption))); (intro v9 a9 h9 k9 F9 N9 L9 P9); (obtain ⟨t9, hv9, ha9⟩ := P9); subst hv9; subst ha9; (simp only [List.nil_append] at N9); clear L9; (try dsimp only); (try k_fold)))
local macro_rules | `(tactic| walk_at "joinParts") => `(tactic| (k_here; (first | (with_reducible show wpAny _ _ (joinParts _ []) _ _ _) | (with_reducible show wpAny _ _ (joinParts _ (evalEach [] _)) _ _ _)); k_dflt (refine joinParts_nil ?_ ?hz; (case hz => exact txt_fits (by first | assumption | omega) (by first | assumption | omega) (by decide)))))
local macro_rules | `(tactic| walk_at "call ref") => `(tactic| (k_here; (with_reducible show wpAny _ _ (call (Value.ref 149) _) _ _ _); k_dflt (first
  | (refine' KC.use (KC.sub1 (speed_K _ _ _ _ _ _ _) ?m1) ?B ?F ?X ?N ?T ?hc ?hd ?hu ?_; (case N => k_asm); (case B => k_asm); (case F => k_asm); (case X => k_asm); (case T => k_asm); (case hc => first | exact rfl | assumption); (case hd => exact Nat.le_of_ble_eq_true rfl); (case hu => exact Nat.le_of_ble_eq_true rfl); (case m1 => k_mem); skip)); (intro v9 a9 h9 k9 F9 N9 L9 P9); (obtain ⟨t9, hv9, ha9⟩ := P9); subst hv9; subst ha9; (simp only [List.nil_append] at N9); clear L9; (try unfold PySem.W.StrBack); (try dsimp only); (try k_fold)))
local macro_rules | `(tactic| walk_at "call ref") => `(tactic| (k_here; (with_reducible show wpAny _ _ (call (Value.ref 93) _) _ _ _); k_dflt (first
  | (refine' KC.use (KC.sub2 (gb0 _ _ _ _ _ _ _ _ _ ?hk) ?m1 ?m2) ?B ?F ?X ?N ?T ?hc ?hd ?hu ?_; (case N => k_asm); (case B => k_asm); (case F => k_asm); (case X => k_asm); (case T => k_asm); (case hc => first | exact rfl | assumption); (case hd => exact Nat.le_of_ble_eq_true rfl); (case hu => exact Nat.le_of_ble_eq_true rfl); (case m1 => k_mem); (case m2 => k_mem); (case hk => assumption))
  | (refine' KC.use (KC.sub2 (gb1 _ _ _ _ _ _ _ _ _ ?hk ?hl) ?m1 ?m2) ?B ?F ?X ?N ?T ?hc ?hd ?hu ?_; (case N => k_asm); (case B => k_asm); (case F => k_asm); (case X => k_asm); (case T => k_asm); (case hc => first | exact rfl | assumption); (case hd => exact Nat.le_of_ble_eq_true rfl); (case hu => exact Nat.le_of_ble_eq_true rfl); (case m1 => k_mem); (case m2 => k_mem); (case hk => assumption); (case hl => assumption))
  | (refine' KC.use (KC.sub2 (gb2 _ _ _ _ _ _ _ _ _ ?hk ?hl) ?m1 ?m2) ?B ?F ?X ?N ?T ?hc ?hd ?hu ?_; (case N => k_asm); (case B => k_asm); (case F => k_asm); (case X => k_asm); (case T => k_asm); (case hc => first | exact rfl | assumption); (case hd => exact Nat.le_of_ble_eq_true rfl); (case hu => exact Nat.le_of_ble_eq_true rfl); (case m1 => k_mem); (case m2 => k_mem); (case hk => assumption); (case hl => assumption))); (intro v9 a9 h9 k9 F9 N9 L9 P9); (obtain ⟨t9, hv9, ha9⟩ := P9); subst hv9; subst ha9; (simp only [List.nil_append] at N9); clear L9; (try unfold PySem.W.StrBack); (try dsimp only); (try k_fold)))
local macro_rules | `(tactic| walk_at "call ref") => `(tactic| (k_here; (with_reducible show wpAny _ _ (call (Value.ref 100) _) _ _ _); k_dflt (first
  | (refine' KC.use (KC.sub2 (st0 _ _ _ _ _ _ _ _ _ ?hk ?hl) ?m1 ?m2) ?B ?F ?X ?N ?T ?hc ?hd ?hu ?_; (case N => k_asm); (case B => k_asm); (case F => k_asm); (case X => k_asm); (case T => k_asm); (case hc => first | exact rfl | assumption); (case hd => exact Nat.le_of_ble_eq_true rfl); (case hu => exact Nat.le_of_ble_eq_true rfl); (case m1 => k_mem); (case m2 => k_mem); (case hk => first | assumption | omega); (case hl => first | assumption | omega))
  | (refine' KC.use (KC.sub2 (st1 _ _ _ _ _ _ _ _ _ ?hk ?hl) ?m1 ?m2) ?B ?F ?X ?N ?T ?hc ?hd ?hu ?_; (case N => k_asm); (case B => k_asm); (case F => k_asm); (case X => k_asm); (case T => k_asm); (case hc => first | exact rfl | assumption); (case hd => exact Nat.le_of_ble_eq_true rfl); (case hu => exact Nat.le_of_ble_eq_true rfl); (case m1 => k_mem); (case m2 => k_mem); (case hk => first | assumption | omega); (case hl => first | assumption | omega))
  | (refine' KC.use (KC.sub2 (st2 _ _ _ _ _ _ _ _ _ ?hk ?hl ?hm) ?m1 ?m2) ?B ?F ?X ?N ?T ?hc ?hd ?hu ?_; (case N => k_asm); (case B => k_asm); (case F => k_asm); (case X => k_asm); (case T => k_asm); (case hc => first | exact rfl | assumption); (case hd => exact Nat.le_of_ble_eq_true rfl); (case hu => exact Nat.le_of_ble_eq_true rfl); (case m1 => k_mem); (case m2 => k_mem); (case hm => assumption); (case hk => first | assumption | omega); (case hl => first | assumption | omega))); (intro v9 a9 h9 k9 F9 N9 L9 P9); (obtain ⟨t9, hv9, ha9⟩ := P9); subst hv9; subst ha9; (simp only [List.nil_append] at N9); clear L9; (try unfold PySem.W.StrBack); (try dsimp only); (try k_fold)))
local macro_rules | `(tactic| walk_at "enter_T") => `(tactic| k_dflt (refine' code_defS0 ?k1 ?k2 ?k3 ?k4 ?k5 ?kA ?k6 ?k7 ?k8 ?k9 ?kB ?_ ?cK ?c2 ?c3 ?c4 ?c5; (case kA => exact rfl); (case k2 => k_asm); (case k1 => k_asm); (case k3 => k_asm); (case k4 => k_asm); (case k5 => k_asm); (case k6 => k_is); (case k7 => k_is); (case k8 => k_room); (case k9 => first | exact binds_K (by k_in) rfl (by k_is) rfl rfl rfl | exact BindsTo.of_eq rfl | fail "kts_go: no rule for these arguments"); (case kB => exact locs rfl); (case cK => assumption); (case c2 => exact rfl); (case c3 => exact rfl); (case c4 => exact rfl); (case c5 => decide); k_whole; intro g' L' h' FG' F' N' B' X' T' D'; (try dsimp only); (try k_lift B'); (try k_fold)))
local macro_rules | `(tactic| walk_at "pyIter bytes") => `(tactic| (k_here; (with_unfolding_all refine' src_bytes ?hh ?F ?N ?hb ?hk ?hx ?hd ?_; (case hh => exact rfl); (case F => k_asm); (case N => k_asm); (case hb => exact Nat.le_of_ble_eq_true rfl); (case hk => exact rfl); (case hx => exact fun _ => rfl); (case hd => decide)); intro D9 o9 h9 k9 F9 N9 ne9 O9; (try dsimp only); (try k_fold)))
local macro_rules | `(tactic| kqd_in) => `(tactic| exact OctIn.dat (by assumption) (by k_mem))
local macro_rules | `(tactic| walk_at "exec Return some") => `(tactic| (exfalso; omega))
local macro_rules | `(tactic| walk_at "exec Raise some none") => `(tactic| first | (exact (yes01 (by assumption) (by assumption)).elim) | (exfalso; omega))
local macro_rules | `(tactic| walk_at "map_loop") => `(tactic| ((with_unfolding_all refine' dict_loop (D := mapD) (P := fun _ => True) ?hh (map_keyed ?X) ?F ?N trivial ?t ?d; (case hh => exact rfl); (case F => k_asm); (case N => k_asm); (case X => k_asm)); (case t => (intro i9 k9 t9 h9 tk9 own9 hD9 hP9 F9 N9; (k_steps; (all_goals (exact InvEnd.intro (by assumption) (by assumption) (fun _ h => h) ⟨trivial, fun z hz => if_neg hz⟩))))); (intro u9 h9 tk9 hP9 F9 N9; (try dsimp only); (try k_fold))))
local macro_rules | `(tactic| walk_at "subscriptTail") => `(tactic| (k_here; (with_reducible show wpAny _ _ (subscriptTail _ _ (Value.ref 50) (Value.int _ _)) _ _ _); k_dflt (refine' map_item (map_keyed ?X) ?hk ?hD ?hn ?_; (case X => k_asm); (case hk => kt_keeps); (case hD => assumption); (case hn => assumption)); intro v9' u9' nv9'))
local macro_rules | `(tactic| walk_at "compareOp Eq int int") => `(tactic| (k_here; k_dflt (refine' eq_no ?hk ?_; (case hk => with_reducible assumption))))
theorem turnedN (w : World) (n : Int) (tk t1 t2 t3 t4 : Tok) (x dx : Addr) (news) (k : Int) (h0 : 0 ≤ n) (h1 : n < 256) (hk : n ∉ namL) (hk01 : k = 0 ∨ k = 1) : KT 320 2000 w 189 [.ref x, .int k tk] ((x, instObj 103 dx) :: (dx, dE w 2 n t1 t2 t3 t4) :: news) (PStr (Str.ofString "not known")) := by
  unfold KT
  intro mean mg mb gd cn cs a ccd A₀ h₀ L m s Q E B F X N T hcs ret
  refine wpAny_call ?_
  walk_at "enter_T"
  k_steps
  walk_at "map_loop"
  k_steps
  all_goals (refine' kc_done ret [_] ps_mk ?zF ?zN ?sub ?lt; (case zF => assumption); (case zN => assumption); (case sub => kqd_sub); (case lt => exact lt_one (by walk_at "k_newlt")))
end
section
theorem KC.imp {dP uN : Nat} {w : World} {f : Addr} {vs : List Value} {news : List (Addr × Obj)} {Post Post' : Value → List (Addr × Obj) → Prop} (C : KC dP uN w f vs news Post) (h : ∀ v a, Post v a → Post' v a) : KC dP uN w f vs news Post' := by
  intro mean mg mb gd cn cs a ccd cl outer A₀ base h₀ L m s Q E B F X N T hcs ret
  exact C mean mg mb gd cn cs a ccd cl outer A₀ base h₀ L m s Q E B F X N T hcs fun v add h' tk' F' N' L' P' => ret v add h' tk' F' N' L' (h _ _ P')
theorem KT.imp {dP uN : Nat} {w : World} {f : Addr} {vs : List Value} {news : List (Addr × Obj)} {Post Post' : Value → List (Addr × Obj) → Prop} (C : KT dP uN w f vs news Post) (h : ∀ v a, Post v a → Post' v a) : KT dP uN w f vs news Post' := by
  intro mean mg mb gd cn cs a ccd A₀ h₀ L m s Q E B F X N T hcs ret
  exact C mean mg mb gd cn cs a ccd A₀ h₀ L m s Q E B F X N T hcs fun v add h' tk' F' N' L' P' => ret v add h' tk' F' N' L' (h _ _ P')
theorem Dd0 {n : Int} : Dd 0 n = D0 n := by rw [Dd, if_pos rfl]
theorem Dd1 {n : Int} : Dd 1 n = D1 n := by rw [Dd, if_neg (by decide), if_pos rfl]
theorem Dd2 {n : Int} (h : n ∈ namL) : Dd 2 n = D2 n := by rw [Dd, if_neg (by decide), if_neg (by decide), if_pos h]
theorem Dd3 {n : Int} (h : n ∉ namL) : Dd 2 n = D3 n := by rw [Dd, if_neg (by decide), if_neg (by decide), if_neg h]
theorem told_K (w : World) (k n : Int) (t1 t2 t3 t4 : Tok) (x dx : Addr) (news) (h : Valid k n) : KT 320 2000 w 175 [.ref x] ((x, instObj 103 dx) :: (dx, dE w k n t1 t2 t3 t4) :: news) (PD (Dd k n)) := by
  rcases h with ⟨rfl, h⟩ | ⟨rfl, h0, h1⟩ | ⟨rfl, h0, h1⟩
  · rw [Dd0]; exact told0 w n t1 t2 t3 t4 x dx news h
  · rw [Dd1]; exact told1 w n t1 t2 t3 t4 x dx news h0 h1
  · by_cases hn : n ∈ namL
    · rw [Dd2 hn]; exact told2 w n t1 t2 t3 t4 x dx news h0 h1 hn
    · rw [Dd3 hn]; exact told3 w n t1 t2 t3 t4 x dx news h0 h1 hn
theorem due_K (w : World) (k n : Int) (tk tn : Tok) (l : Addr) (news) (h : Valid k n) : KC 350 3000 w 156 [.ref l] ((l, listOf #[.int k tk, .int n tn] 0) :: news) (PD (Dd k n)) := by
  rcases h with ⟨rfl, h⟩ | ⟨rfl, h0, h1⟩ | ⟨rfl, h0, h1⟩
  · rw [Dd0]; exact due0 w n tk tn l news h
  · rw [Dd1]; exact due1 w n tk tn l news h0 h1
  · by_cases hn : n ∈ namL
    · rw [Dd2 hn]; exact due2 w n tk tn l news h0 h1 hn
    · rw [Dd3 hn]; exact due3 w n tk tn l news h0 h1 hn
theorem made_K (w : World) (n k : Int) (tn tk : Tok) (b : Bool) (news) (h0 : -1 ≤ k) (h1 : k ≤ 4) : KT 320 2000 w 182 [.int n tn, .int k tk, .bool b] news (PMade w n k) := by
  have : k = -1 ∨ k = 0 ∨ k = 1 ∨ k = 2 ∨ k = 3 ∨ k = 4 := by omega
  rcases this with rfl | rfl | rfl | rfl | rfl | rfl
  · exact madeF w n tn tk b news
  · exact madeC w n tn tk b news
  · exact madeD w n tn tk b news
  · exact madeE w n tn tk b news
  · cases b
    · exact madeB w n tn tk news
    · exact madeA w n tn tk news
  · exact madeG w n tn tk b news
theorem made_yes (w : World) (n k : Int) (tn tk : Tok) (b : Bool) (news) (h0 : -1 ≤ k) (h1 : k ≤ 4) (h : Ok n k) : KT 320 2000 w 182 [.int n tn, .int k tk, .bool b] news (fun v add => ∃ l x dx t1 t2 t3 t4, v = .ref l ∧ add = [(l, listOf #[.ref x] 0), (x, instObj 103 dx), (dx, dE w (kk n k) n t1 t2 t3 t4)]) :=
  (made_K w n k tn tk b news h0 h1).imp fun v a ⟨l, hv, hc⟩ => by
    rcases hc with ⟨hno, _⟩ | ⟨_, x, dx, t1, t2, t3, t4, ha⟩
    · exact absurd h hno
    · exact ⟨l, x, dx, t1, t2, t3, t4, hv, ha⟩
theorem made_no (w : World) (n k : Int) (tn tk : Tok) (b : Bool) (news) (h0 : -1 ≤ k) (h1 : k ≤ 4) (h : ¬ Ok n k) : KT 320 2000 w 182 [.int n tn, .int k tk, .bool b] news (fun v add => ∃ l, v = .ref l ∧ add = [(l, listOf #[] 0)]) :=
  (made_K w n k tn tk b news h0 h1).imp fun v a ⟨l, hv, hc⟩ => by
    rcases hc with ⟨_, ha⟩ | ⟨hy, _⟩
    · exact ⟨l, hv, ha⟩
    · exact absurd hy h
theorem state_yes (w : World) (n k : Int) (tn tk : Tok) (news) (h : Ok n k) : KC 400 4000 w 142 [.int n tn, .int k tk] news (fun v add => ∃ l t, v = .ref l ∧ add = [(l, listOf #[.int (kk n k) t, .int n tn] 0)]) :=
  (state_K w n k tn tk news).imp fun v a ⟨l, hv, hc⟩ => by
    rcases hc with ⟨hno, _⟩ | ⟨_, t, ha⟩
    · exact absurd h hno
    · exact ⟨l, t, hv, ha⟩
theorem state_no (w : World) (n k : Int) (tn tk : Tok) (news) (h : ¬ Ok n k) : KC 400 4000 w 142 [.int n tn, .int k tk] news (fun v add => ∃ l, v = .ref l ∧ add = [(l, listOf #[] 0)]) :=
  (state_K w n k tn tk news).imp fun v a ⟨l, hv, hc⟩ => by
    rcases hc with ⟨_, ha⟩ | ⟨hy, _⟩
    · exact ⟨l, hv, ha⟩
    · exact absurd hy h
theorem strOk_app {a b : Str} (h : PyData.strOk a = true) (h' : PyData.strOk b = true) : PyData.strOk (a ++ b) = true := by
  unfold PyData.strOk at *
  rw [PySem.Str.cps_append, Array.all_append, h, h']; rfl
theorem strOk_int {n : Int} (h : 0 ≤ n) : PyData.strOk (Str.ofString (toString n)) = true := by
  obtain ⟨m, rfl⟩ := Int.eq_ofNat_of_zero_le h
  unfold PyData.strOk
  rw [Array.all_toList.symm, PySem.W.KIN.signs_num, List.all_eq_true]
  intro x hx
  obtain ⟨c, _, rfl⟩ := List.mem_map.mp hx
  exact decide_eq_true (by rcases c.valid with h | h <;> (simp only [Char.toNat, UInt32.lt_iff_toNat_lt] at *) <;> first | omega | (have := h.2; omega))
theorem txt_ok {n : Int} {wd : String} (h : 0 ≤ n) (hw : PyData.strOk (Str.ofString wd) = true) : PyData.strOk (dueTxt n wd) = true :=
  strOk_app (strOk_app (strOk_app (strOk_int h) (by kernel_rfl)) hw) (by kernel_rfl)
theorem Dd_ok {k n : Int} (h : Valid k n) : ∀ d ∈ Dd k n, kqdOk 7 d = true := by
  have fx : PyData.strOk (Str.ofString "Fixed") = true := by kernel_rfl
  have sp : PyData.strOk (Str.ofString "Specific") = true := by kernel_rfl
  have df : PyData.strOk (Str.ofString "Defined by identifier") = true := by kernel_rfl
  have e1 : PyData.strOk (Str.ofString "speed") = true := by kernel_rfl
  have e2 : PyData.strOk (Str.ofString "text") = true := by kernel_rfl
  have e3 : PyData.strOk (Str.ofString "not known") = true := by kernel_rfl
  rcases h with ⟨rfl, h⟩ | ⟨rfl, h0, h1⟩ | ⟨rfl, h0, h1⟩
  · rw [Dd0]
    have := txt_ok (spd0_pos h) fx
    simp only [D0, List.forall_mem_cons, kqdOk, List.all_cons, List.all_nil, e1, e2, this, Bool.and_true]
    exact ⟨trivial, trivial, trivial, trivial, trivial, List.forall_mem_nil _⟩
  · rw [Dd1]
    have := txt_ok (n := spd 1 n) (by rw [spd_ne (by decide)]; exact h0) sp
    simp only [D1, List.forall_mem_cons, kqdOk, List.all_cons, List.all_nil, e1, e2, this, Bool.and_true]
    exact ⟨trivial, trivial, trivial, trivial, trivial, List.forall_mem_nil _⟩
  · by_cases hn : n ∈ namL
    · rw [Dd2 hn]
      have := txt_ok (spd_pos hn) df
      simp only [D2, List.forall_mem_cons, kqdOk, List.all_cons, List.all_nil, e1, e2, this, Bool.and_true]
      exact ⟨trivial, trivial, trivial, trivial, trivial, List.forall_mem_nil _⟩
    · rw [Dd3 hn]
      simp only [D3, List.forall_mem_cons, kqdOk, List.all_cons, List.all_nil, e3, Bool.and_true]
      exact ⟨trivial, trivial, trivial, trivial, trivial, List.forall_mem_nil _⟩
end
section
theorem fm6 (a : Int) : -1 ≤ a.fmod 6 - 1 ∧ a.fmod 6 - 1 ≤ 4 := by
  rw [Int.fmod_eq_emod_of_nonneg a (by decide)]; omega
def Fresh (d : Addr) (news : List (Addr × Obj)) : Prop := ∀ p ∈ news, p.1 ≠ d
def AllNe (d : Nat) : List (Addr × Obj) → Prop
  | [] => True
  | p :: r => @Ne Nat p.1 d ∧ AllNe d r
theorem Fresh.all {d : Addr} : ∀ {l : List (Addr × Obj)}, Fresh d l → AllNe d l
  | [], _ => trivial
  | p :: _, h => ⟨h p (.head _), Fresh.all fun q hq => h q (.tail _ hq)⟩
theorem fresh_lt {d : Addr} {l : List (Addr × Obj)} (h : ∀ p ∈ l, p.1 < d) : Fresh d l := fun p hp => Nat.ne_of_lt (h p hp)
theorem lt_all {news tl : List (Addr × Obj)} {T : Addr} {o : Obj} (L : Lt news tl) (h : (T, o) ∈ news) : ∀ p ∈ tl, p.1 ≠ T := fun p hp e => L _ h p hp e.symm
theorem fresh_ne {d T : Addr} {o : Obj} {news : List (Addr × Obj)} (f : Fresh d news) (h : (T, o) ∈ news) : d ≠ T := fun e => f _ h e.symm
theorem Lt.head {news add : List (Addr × Obj)} {d : Addr} {o : Obj} (h : Lt news ((d, o) :: add)) : Fresh d news := fun p hp => h p hp _ (.head _)
theorem Lt.tail {news add : List (Addr × Obj)} {e : Addr × Obj} (h : Lt news (e :: add)) : Lt news add := fun p hp q hq => h p hp q (.tail _ hq)
section
variable {dP uN : Nat} {w : World} {f : Addr} {vs : List Value} {news : List (Addr × Obj)} {ds : List Dat}
  {mean : ExcName → Option Value} {mg mb : Str → Option Value} {gd : Option (List Code)} {dp un : Nat} {cn : Str} {cs : Scope} {a : Addr} {ccd : Value} {A₀ : Around} {h₀ : Heap} {L : Addr} {m : Str → Option Value} {s : Shared} {Q E : Value → Shared → Prop}
/-- data: the list first, its parts at the ledger's end -/
theorem KT.useD (C : KT dP uN w f vs news (PD ds)) (B : Below A₀ h₀ [] h₀) (F : Fr h₀ L s.heap m) (X : (hd.heap_39 w.params).In h₀) (N : News h₀ L s.heap news) (T : Top vw lo mean mg mb h₀) (hk : cs.kind = .function) (hd : dp ≤ dP) (hu : un ≤ uN)
    (ret : ∀ l v1 v2 v3 v4 v5 tl h' tk', Fr h₀ L h' m → News h₀ L h' ((l, listOf #[v1, v2, v3, v4, v5] 0) :: (news ++ tl)) → Fresh l news → Lt news tl → DatAll tl [v1, v2, v3, v4, v5] ds → Q (.ref l) { s with heap := h', toks := tk' }) :
    wpAny (model pr w) { handled := none, depth := dp, frames := some [envOf cn cs L a ccd], guards := gd, units := un } (call (.ref f) vs) Q E s :=
  C.use B F X N T hk hd hu fun v add h' tk' F' N' L' ⟨l, v1, v2, v3, v4, v5, tl, hv, ha, hd⟩ => by
    subst hv; subst ha
    refine ret l v1 v2 v3 v4 v5 tl h' tk' F' (fun p hp => N' p ?_) L'.head L'.tail hd
    rcases List.mem_cons.mp hp with rfl | hp
    · exact List.mem_append.mpr (.inl (.head _))
    · rcases List.mem_append.mp hp with hp | hp
      · exact List.mem_append.mpr (.inr hp)
      · exact List.mem_append.mpr (.inl (.tail _ hp))
theorem KC.top {Post : Value → List (Addr × Obj) → Prop} (C : KC dP uN w f vs news Post) : KT dP uN w f vs news Post := by
  intro mean mg mb gd cn cs a ccd A₀ h₀ L m s Q E B F X N T hcs ret
  exact C mean mg mb gd cn cs a ccd [] [] A₀ h₀ h₀ L m s Q E B F X N T hcs ret
/-- one new list -/
theorem KT.use1 {o : Tok → Obj} (C : KT dP uN w f vs news (fun v add => ∃ l t, v = .ref l ∧ add = [(l, o t)])) (B : Below A₀ h₀ [] h₀) (F : Fr h₀ L s.heap m) (X : (hd.heap_39 w.params).In h₀) (N : News h₀ L s.heap news) (T : Top vw lo mean mg mb h₀) (hk : cs.kind = .function) (hd : dp ≤ dP) (hu : un ≤ uN)
    (ret : ∀ l t h' tk', Fr h₀ L h' m → News h₀ L h' ((l, o t) :: news) → Fresh l news → Q (.ref l) { s with heap := h', toks := tk' }) :
    wpAny (model pr w) { handled := none, depth := dp, frames := some [envOf cn cs L a ccd], guards := gd, units := un } (call (.ref f) vs) Q E s :=
  C.use B F X N T hk hd hu fun v add h' tk' F' N' L' ⟨l, t, hv, ha⟩ => by
    subst hv; subst ha
    exact ret l t h' tk' F' N' L'.head
/-- a whole number -/
theorem KT.useI {i : Int} (C : KT dP uN w f vs news (fun v add => ∃ t, v = .int i t ∧ add = [])) (B : Below A₀ h₀ [] h₀) (F : Fr h₀ L s.heap m) (X : (hd.heap_39 w.params).In h₀) (N : News h₀ L s.heap news) (T : Top vw lo mean mg mb h₀) (hk : cs.kind = .function) (hd : dp ≤ dP) (hu : un ≤ uN)
    (ret : ∀ t h' tk', Fr h₀ L h' m → News h₀ L h' news → Q (.int i t) { s with heap := h', toks := tk' }) :
    wpAny (model pr w) { handled := none, depth := dp, frames := some [envOf cn cs L a ccd], guards := gd, units := un } (call (.ref f) vs) Q E s :=
  C.use B F X N T hk hd hu fun v add h' tk' F' N' L' ⟨t, hv, ha⟩ => by
    subst hv; subst ha
    exact ret t h' tk' F' N'
/-- a new one: its list, itself, its dict -/
theorem KT.useN {k n : Int} (C : KT dP uN w f vs news (PNew w k n)) (B : Below A₀ h₀ [] h₀) (F : Fr h₀ L s.heap m) (X : (hd.heap_39 w.params).In h₀) (N : News h₀ L s.heap news) (T : Top vw lo mean mg mb h₀) (hk : cs.kind = .function) (hd : dp ≤ dP) (hu : un ≤ uN)
    (ret : ∀ l t x dx t1 t2 t3 t4 h' tk', Fr h₀ L h' m → News h₀ L h' ((l, listOf #[.str (Str.ofString "made") t, .ref x] 0) :: (x, instObj 103 dx) :: (dx, dE w k n t1 t2 t3 t4) :: news) → Fresh l news → Fresh x news → Fresh dx news → Q (.ref l) { s with heap := h', toks := tk' }) :
    wpAny (model pr w) { handled := none, depth := dp, frames := some [envOf cn cs L a ccd], guards := gd, units := un } (call (.ref f) vs) Q E s :=
  C.use B F X N T hk hd hu fun v add h' tk' F' N' L' ⟨l, t, x, dx, t1, t2, t3, t4, hv, ha⟩ => by
    subst hv; subst ha
    exact ret l t x dx t1 t2 t3 t4 h' tk' F' N' L'.head L'.tail.head L'.tail.tail.head
end
/-! the turns -/
theorem un_ge {k n : Int} (h : 0 ≤ spd k n) : k = 2 → n ∈ namL := fun hk => by
  by_cases hn : n ∈ namL
  · exact hn
  · subst hk; rw [spd_un hn] at h; omega
theorem valid_rng {k n : Int} (h : Valid k n) : 0 ≤ n ∧ n < 16777216 := by
  rcases h with ⟨_, h⟩ | ⟨_, h0, h1⟩ | ⟨_, h0, h1⟩
  · rcases mem_spd.mp h with rfl | rfl | rfl | rfl | rfl | rfl | rfl | rfl | rfl <;> decide
  · exact ⟨h0, h1⟩
  · exact ⟨h0, by omega⟩
theorem un_lt {k n : Int} (h : Valid k n) (hn : spd k n < 0) : k = 2 ∧ n ∉ namL ∧ 0 ≤ n ∧ n < 256 := by
  have r := valid_rng h
  by_cases hk : k = 2
  · subst hk
    refine ⟨rfl, fun hm => ?_, ?_⟩
    · have := spd_pos hm; omega
    · rcases h with ⟨a, _⟩ | ⟨a, _⟩ | ⟨_, h0, h1⟩
      · omega
      · omega
      · exact ⟨h0, h1⟩
  · rw [spd_ne hk] at hn; omega
theorem spd_top {k n : Int} (h : Valid k n) : spd k n < 16777216 := by
  have r := valid_rng h
  by_cases hk : k = 2
  · subst hk
    by_cases hm : n ∈ namL
    · rcases mem_nam.mp hm with rfl | rfl | rfl | rfl | rfl | rfl | rfl | rfl | rfl <;> decide
    · rw [spd_un hm]; omega
  · rw [spd_ne hk]; omega
theorem turn_cases {k n kd : Int} (h : Valid k n) :
    (kd ≠ 0 ∧ kd ≠ 1) ∨ ((kd = 0 ∨ kd = 1) ∧ spd k n < 0 ∧ ¬ Ok (spd k n) kd) ∨ ((kd = 0 ∨ kd = 1) ∧ 0 ≤ spd k n ∧ ¬ Ok (spd k n) kd) ∨ ((kd = 0 ∨ kd = 1) ∧ 0 ≤ spd k n ∧ Ok (spd k n) kd) := by
  by_cases h1 : kd = 0 ∨ kd = 1
  · by_cases h2 : spd k n < 0
    · exact .inr (.inl ⟨h1, h2, fun o => by have := o.1; omega⟩)
    · by_cases h3 : Ok (spd k n) kd
      · exact .inr (.inr (.inr ⟨h1, by omega, h3⟩))
      · exact .inr (.inr (.inl ⟨h1, by omega, h3⟩))
  · exact .inl (by omega)
theorem ok_valid {k n kd : Int} (h1 : kd = 0 ∨ kd = 1) (h : Ok (spd k n) kd) : kk (spd k n) kd = kd ∧ Valid kd (spd k n) := by
  have e : kk (spd k n) kd = kd := kk_ne (by omega)
  exact ⟨e, e ▸ h.2⟩
theorem no_one {k n kd : Int} (hv : Valid k n) (h1 : kd = 0 ∨ kd = 1) (h : ¬ Ok (spd k n) kd) (h0 : 0 ≤ spd k n) : kd = 0 ∧ spd k n ∉ spdL := by
  rcases h1 with rfl | rfl
  · exact ⟨rfl, fun hm => h ⟨h0, .inl ⟨kk_ne (by decide), hm⟩⟩⟩
  · exact absurd ⟨h0, .inr (.inl ⟨kk_ne (by decide), h0, spd_top hv⟩)⟩ h
section
variable (w : World) (k n kd : Int) (tk t1 t2 t3 t4 : Tok) (x dx : Addr) (news : List (Addr × Obj))
theorem turnR (h : kd ≠ 0 ∧ kd ≠ 1) : KT 320 2000 w 189 [.ref x, .int kd tk] ((x, instObj 103 dx) :: (dx, dE w k n t1 t2 t3 t4) :: news) (PStr (Str.ofString "refused")) :=
  turnedR w n tk t1 t2 t3 t4 x dx news kd k h.1 h.2
theorem turnU (hv : Valid k n) (h1 : kd = 0 ∨ kd = 1) (hn : spd k n < 0) : KT 320 2000 w 189 [.ref x, .int kd tk] ((x, instObj 103 dx) :: (dx, dE w k n t1 t2 t3 t4) :: news) (PStr (Str.ofString "not known")) := by
  obtain ⟨rfl, hm, h0, h2⟩ := un_lt hv hn
  exact turnedN w n tk t1 t2 t3 t4 x dx news kd h0 h2 hm h1
theorem turnD (hv : Valid k n) (h1 : kd = 0 ∨ kd = 1) (h0 : 0 ≤ spd k n) (h : ¬ Ok (spd k n) kd) : KT 320 2000 w 189 [.ref x, .int kd tk] ((x, instObj 103 dx) :: (dx, dE w k n t1 t2 t3 t4) :: news) (PStr (Str.ofString "refused")) := by
  obtain ⟨rfl, hm⟩ := no_one hv h1 h h0
  have r := valid_rng hv
  exact (turned0 w n tk t1 t2 t3 t4 x dx news k r.1 r.2 (un_ge h0)).imp fun v a hp => hp.elim (fun q => absurd q.1 hm) (·.2)
theorem turnC (hv : Valid k n) (h1 : kd = 0 ∨ kd = 1) (h0 : 0 ≤ spd k n) (h : Ok (spd k n) kd) : KT 320 2000 w 189 [.ref x, .int kd tk] ((x, instObj 103 dx) :: (dx, dE w k n t1 t2 t3 t4) :: news) (PNew w kd (spd k n)) := by
  have r := valid_rng hv
  rcases h1 with rfl | rfl
  · have hm : spd k n ∈ spdL := by
      rcases (ok_valid (.inl rfl) h).2 with ⟨_, a⟩ | ⟨a, _⟩ | ⟨a, _⟩
      · exact a
      · omega
      · omega
    exact (turned0 w n tk t1 t2 t3 t4 x dx news k r.1 r.2 (un_ge h0)).imp fun v a hp => hp.elim (·.2) fun q => absurd hm q.1
  · exact turned1 w n tk t1 t2 t3 t4 x dx news k r.1 r.2 (un_ge h0)
end
/-- what the loop carries -/
structure St where
  vs : List Value
  ws : List Value
  ds : List Dat
  n1 : Nat
  n2 : Nat
  a : Addr
  dx : Addr
  l : Addr
  t1 : Tok
  t2 : Tok
  t3 : Tok
  t4 : Tok
  tk : Tok
  tn : Tok
  k : Int
  n : Int
def StF (w : World) (L : List (Addr × Obj)) (c : St) : Prop := DatAll L c.vs c.ds ∧ DatAll L c.ws c.ds ∧ (c.a, instObj 103 c.dx) ∈ L ∧ (c.dx, dE w c.k c.n c.t1 c.t2 c.t3 c.t4) ∈ L ∧ (c.l, listOf #[.int c.k c.tk, .int c.n c.tn] 0) ∈ L
def StP (pre : List Int) (c : St) : Prop := Valid c.k c.n ∧ (∀ d ∈ c.ds, kqdOk 8 d = true) ∧ c.ds.length ≤ 2 + 2 * pre.length
theorem off2 {d S T D : Addr} {o so : Obj} {tl : List (Addr × Obj)} (h : (d, o) ∈ [(S, so)] ++ tl) (ht : OwnOff tl [T, D, S]) (h1 : S ≠ T) (h2 : S ≠ D) : @Ne Nat d T ∧ @Ne Nat d D := by
  rcases List.mem_append.mp h with h | h
  · have e : d = S := congrArg Prod.fst (List.mem_singleton.mp h)
    subst e; exact ⟨h1, h2⟩
  · exact ⟨ht _ h T (.head _), ht _ h D (.tail _ (.head _))⟩
theorem ok_list {n : Nat} {ds : List Dat} (h : ∀ d ∈ ds, kqdOk n d = true) : kqdOk (n + 1) (.list ds) = true := by
  rw [kqdOk, List.all_eq_true]; exact h
end
section
section
variable {M : Model} {A : Around} {E : Value → Shared → Prop} {s : Shared} {env : Env} {Q : Flow → Shared → Prop}
theorem execs_app (ys : List Stmt) (env : Env) : ∀ xs : List Stmt, execs (xs ++ ys) env = (do match ← execs xs env with | .next => execs ys env | f => pure f)
  | [] => rfl
  | x :: xs => by
    rw [List.cons_append, execs_cons, execs_cons, bind_assoc]
    congr 1
    funext f
    cases f with
    | next => exact execs_app ys env xs
    | ret v => rfl
    | brk => rfl
    | cont => rfl
theorem execs_cut (k : Nat) (R : Shared → Prop) {sts : List Stmt} (h1 : wpAny M A (execs (sts.take k) env) (fun f s' => f = .next ∧ R s') E s) (h2 : ∀ s', R s' → wpAny M A (execs (sts.drop k) env) Q E s') : wpAny M A (execs sts env) Q E s := by
  have e := execs_app (sts.drop k) env (sts.take k)
  rw [List.take_append_drop] at e
  rw [e]
  refine wpAny_bind (wpAny_mono h1 (fun f s' p => ?_) fun _ _ x => x)
  obtain ⟨rfl, hR⟩ := p
  exact h2 s' hR
theorem Fr.pull {h₀ h : Heap} {L : Addr} {m : Str → Option Value} (x : Str) (v : Value) (F : Fr h₀ L h m) (e : m x = some v) : Fr h₀ L h (fun y => if y = x then some v else m y) := by
  have : (fun y => if y = x then some v else m y) = m := by
    funext y
    by_cases hy : y = x
    · rw [if_pos hy, hy, e]
    · rw [if_neg hy]
  rw [this]; exact F
end
section
variable {prog : Program} {w : World} {A : Around} {E : Value → Shared → Prop} {s : Shared} {h₀ : Heap} {L a b : Addr} {news : List (Addr × Obj)} {x y : Int} {t u : Tok} {Q : Value → Shared → Prop}
theorem ints2 : IntsAre [.int x t, .int y u] [x, y] := by l_intsC
theorem ints0 : IntsAre [] [] := by l_intsC
theorem eq2 (N : News h₀ L s.heap news) (ma : (a, listOf #[.int x t, .int y u] 0) ∈ news) (mb : (b, listOf #[] 0) ∈ news) (hu : A.units + 64 < cLine) (h : Q (.bool false) s) : wpAny (model prog w) A (compareOp .Eq (.ref a) (.ref b)) Q E s :=
  eq_intsK (vs := [.int x t, .int y u]) (us := []) (News.isList N ma) ints2 (News.isList N mb) ints0 hu h
theorem eq0 (N : News h₀ L s.heap news) (ma : (a, listOf #[] 0) ∈ news) (mb : (b, listOf #[] 0) ∈ news) (hu : A.units + 64 < cLine) (h : Q (.bool true) s) : wpAny (model prog w) A (compareOp .Eq (.ref a) (.ref b)) Q E s :=
  eq_intsK (vs := []) (us := []) (News.isList N ma) ints0 (News.isList N mb) ints0 hu h
theorem ne2 (N : News h₀ L s.heap news) (ma : (a, listOf #[.int x t, .int y u] 0) ∈ news) (mb : (b, listOf #[] 0) ∈ news) (hu : A.units + 64 < cLine) (h : Q (.bool true) s) : wpAny (model prog w) A (compareOp .NotEq (.ref a) (.ref b)) Q E s :=
  ne_intsK (vs := [.int x t, .int y u]) (us := []) (News.isList N ma) ints2 (News.isList N mb) ints0 hu h
theorem ne0 (N : News h₀ L s.heap news) (ma : (a, listOf #[] 0) ∈ news) (mb : (b, listOf #[] 0) ∈ news) (hu : A.units + 64 < cLine) (h : Q (.bool false) s) : wpAny (model prog w) A (compareOp .NotEq (.ref a) (.ref b)) Q E s :=
  ne_intsK (vs := []) (us := []) (News.isList N ma) ints0 (News.isList N mb) ints0 hu h
end
/-- what stands before the loop -/
def RA (w : World) (h₀ : Heap) (L : Addr) (ns : List Int) (s s' : Shared) : Prop :=
  ∃ (c : St) (T D NB : Addr) (us : List Value) (tl : List (Addr × Obj)) (m : Str → Option Value) (h : Heap) (tk : Nat), s' = { s with heap := h, toks := tk } ∧
    Fr h₀ L h (fun y => if y = Str.ofString "told" then some (.ref T) else if y = Str.ofString "due" then some (.ref D) else if y = Str.ofString "numbers" then some (.ref NB) else if y = Str.ofString "one" then some (.ref c.a) else if y = Str.ofString "state" then some (.ref c.l) else m y) ∧
    News h₀ L h ((T, listOf c.vs.toArray c.n1) :: (D, listOf c.ws.toArray c.n2) :: (NB, listOf us.toArray 0) :: tl) ∧ IntsAre us ns ∧ @LT.lt Nat _ T D ∧ @LT.lt Nat _ NB T ∧ OwnOff tl [T, D] ∧ StF w tl c ∧ StP [] c
theorem ra_mk {w : World} {h₀ h : Heap} {L T D NB lt ld a dx l : Addr} {ns : List Int} {s : Shared} {tk tT tD : Tok} {b k n : Int} {v1 v2 v3 v4 v5 u1 u2 u3 u4 u5 : Value} {tlt tld full : List (Addr × Obj)} {us : List Value} {n1 n2 : Nat} {t1 t2 t3 t4 kt nt : Tok} {m : Str → Option Value}
    (F : Fr h₀ L h m) (N : News h₀ L h full)
    (e1 : m (Str.ofString "told") = some (.ref T)) (e2 : m (Str.ofString "due") = some (.ref D)) (e3 : m (Str.ofString "numbers") = some (.ref NB)) (e4 : m (Str.ofString "one") = some (.ref a)) (e5 : m (Str.ofString "state") = some (.ref l))
    (mT : (T, listOf #[.int b tT, .ref lt] n1) ∈ full) (mD : (D, listOf #[.int b tD, .ref ld] n2) ∈ full) (mN : (NB, listOf us.toArray 0) ∈ full) (hI : IntsAre us ns)
    (ma : (a, instObj 103 dx) ∈ full) (mx : (dx, dE w k n t1 t2 t3 t4) ∈ full) (ml : (l, listOf #[.int k kt, .int n nt] 0) ∈ full)
    (mlt : (lt, listOf #[v1, v2, v3, v4, v5] 0) ∈ full) (mld : (ld, listOf #[u1, u2, u3, u4, u5] 0) ∈ full) (Dt : DatAll tlt [v1, v2, v3, v4, v5] (Dd k n)) (Du : DatAll tld [u1, u2, u3, u4, u5] (Dd k n)) (st : ∀ p ∈ tlt, p ∈ full) (sd : ∀ p ∈ tld, p ∈ full)
    (hv : Valid k n) (hTD : @LT.lt Nat _ T D) (hNT : @LT.lt Nat _ NB T)
    (oT : ∀ p ∈ (lt, listOf #[v1, v2, v3, v4, v5] 0) :: (ld, listOf #[u1, u2, u3, u4, u5] 0) :: (a, instObj 103 dx) :: (dx, dE w k n t1 t2 t3 t4) :: (l, listOf #[.int k kt, .int n nt] 0) :: (tlt ++ tld), p.1 ≠ T)
    (oD : ∀ p ∈ (lt, listOf #[v1, v2, v3, v4, v5] 0) :: (ld, listOf #[u1, u2, u3, u4, u5] 0) :: (a, instObj 103 dx) :: (dx, dE w k n t1 t2 t3 t4) :: (l, listOf #[.int k kt, .int n nt] 0) :: (tlt ++ tld), p.1 ≠ D) :
    RA w h₀ L ns s { s with heap := h, toks := tk } := by
  refine ⟨⟨[.int b tT, .ref lt], [.int b tD, .ref ld], [.int b, .list (Dd k n)], n1, n2, a, dx, l, t1, t2, t3, t4, kt, nt, k, n⟩, T, D, NB, us, (lt, listOf #[v1, v2, v3, v4, v5] 0) :: (ld, listOf #[u1, u2, u3, u4, u5] 0) :: (a, instObj 103 dx) :: (dx, dE w k n t1 t2 t3 t4) :: (l, listOf #[.int k kt, .int n nt] 0) :: (tlt ++ tld), m, h, tk, rfl, ?_, ?_, hI, hTD, hNT, ?_, ⟨?_, ?_, ?_, ?_, ?_⟩, hv, ?_, ?_⟩
  · refine Fr.pull _ _ (Fr.pull _ _ (Fr.pull _ _ (Fr.pull _ _ (Fr.pull _ _ F e5) ?_) ?_) ?_) ?_
    · exact e4
    · exact e3
    · exact e2
    · exact e1
  · intro p hp
    refine N p ?_
    rcases List.mem_cons.mp hp with rfl | hp
    · exact mT
    rcases List.mem_cons.mp hp with rfl | hp
    · exact mD
    rcases List.mem_cons.mp hp with rfl | hp
    · exact mN
    rcases List.mem_cons.mp hp with rfl | hp
    · exact mlt
    rcases List.mem_cons.mp hp with rfl | hp
    · exact mld
    rcases List.mem_cons.mp hp with rfl | hp
    · exact ma
    rcases List.mem_cons.mp hp with rfl | hp
    · exact mx
    rcases List.mem_cons.mp hp with rfl | hp
    · exact ml
    rcases List.mem_append.mp hp with hp | hp
    · exact st p hp
    · exact sd p hp
  · intro p hp b hb
    rcases List.mem_cons.mp hb with rfl | hb
    · exact oT p hp
    · rw [List.mem_singleton.mp hb]; exact oD p hp
  · exact .cons (.int _ _) (.cons (.list (.head _) (Dt.mono fun p hp => .tail _ (.tail _ (.tail _ (.tail _ (.tail _ (List.mem_append.mpr (.inl hp)))))))) .nil)
  · exact .cons (.int _ _) (.cons (.list (.tail _ (.head _)) (Du.mono fun p hp => .tail _ (.tail _ (.tail _ (.tail _ (.tail _ (List.mem_append.mpr (.inr hp)))))))) .nil)
  · exact .tail _ (.tail _ (.head _))
  · exact .tail _ (.tail _ (.tail _ (.head _)))
  · exact .tail _ (.tail _ (.tail _ (.tail _ (.head _))))
  · exact List.forall_mem_cons.mpr ⟨rfl, List.forall_mem_cons.mpr ⟨ok_list (Dd_ok hv), List.forall_mem_nil _⟩⟩
  · exact Nat.le_refl _
theorem cutA {w : World} {A : Around} {E : Value → Shared → Prop} {s : Shared} {env : Env} {Q : Flow → Shared → Prop} {h₀ : Heap} {L : Addr} {m : Str → Option Value} {vs : List Value} {scr : List Int} {sts : List Stmt} (F : Fr h₀ L s.heap m) (hi : IntsAre vs scr)
    (h1 : wpAny (model pr w) A (execs (sts.take 10) env) (fun f s' => f = .next ∧ RA w h₀ L ((scr ++ [82, 4, 2, 1, 2, 0]).take 10) s s') E s)
    (h2 : ∀ s', RA w h₀ L ((scr ++ [82, 4, 2, 1, 2, 0]).take 10) s s' → wpAny (model pr w) A (execs (sts.drop 10) env) Q E s') : wpAny (model pr w) A (execs sts env) Q E s :=
  execs_cut 10 _ h1 h2
end
section
theorem StF.mono {w : World} {l l' : List (Addr × Obj)} {c : St} (hs : ∀ p ∈ l, p ∈ l') (h : StF w l c) : StF w l' c :=
  ⟨h.1.mono hs, h.2.1.mono hs, hs _ h.2.2.1, hs _ h.2.2.2.1, hs _ h.2.2.2.2⟩
def sNames : List Str := [Str.ofString "kind", Str.ofString "speed", Str.ofString "after", Str.ofString "turned"]
/-- what a turn leaves -/
def RT (w : World) (h₀ : Heap) (L T D : Addr) (tb tz : List (Addr × Obj)) (num : Nat) (x : Str) (m₀ : Str → Option Value) (s s' : Shared) : Prop :=
  ∃ (c : St) (add full : List (Addr × Obj)) (m' : Str → Option Value) (h : Heap) (tk : Nat), s' = { s with heap := h, toks := tk } ∧ Fr h₀ L h m' ∧ News h₀ L h full ∧
    (T, listOf c.vs.toArray c.n1) ∈ full ∧ (D, listOf c.ws.toArray c.n2) ∈ full ∧ (∀ p ∈ add, p ∈ full) ∧ (∀ p ∈ tz, p ∈ full) ∧ (∀ p ∈ add, p.1 ≠ T ∧ p.1 ≠ D) ∧ Lt tz add ∧
    StF w (add ++ tb) c ∧ Valid c.k c.n ∧ (∀ d ∈ c.ds, kqdOk 8 d = true) ∧ c.ds.length ≤ num + 2 ∧
    m' (Str.ofString "one") = some (.ref c.a) ∧ m' (Str.ofString "state") = some (.ref c.l) ∧
    (∀ z, z ≠ x → z ≠ Str.ofString "one" → z ≠ Str.ofString "state" → sNames.contains z = false → m' z = m₀ z)
section
variable {prog : Program} {w : World} {A : Around} {E : Value → Shared → Prop} {s : Shared} {env : Env} {h₀ : Heap} {x : Str} {body : List Stmt} {Q : Flow → Shared → Prop}
theorem loop_K {S T D : Addr} {vs9 : List Value} {ns : List Int} {m₀ : Str → Option Value} {news tl0 : List (Addr × Obj)} {c₀ : St}
    (hh : A.handled = none) (hi : IntsAre vs9 ns) (hlen : ns.length ≤ 8) (F : Fr h₀ env.locals s.heap m₀) (N : News h₀ env.locals s.heap news)
    (mT : (T, listOf c₀.vs.toArray c₀.n1) ∈ news) (mD : (D, listOf c₀.ws.toArray c₀.n2) ∈ news) (mS : (S, listOf vs9.toArray 0) ∈ news) (m0 : ∀ p ∈ tl0, p ∈ news)
    (hST : S ≠ T) (hSD : S ≠ D) (o0 : OwnOff tl0 [T, D]) (hf : StF w tl0 c₀) (hp : StP [] c₀) (ho : m₀ (Str.ofString "one") = some (.ref c₀.a)) (hs : m₀ (Str.ofString "state") = some (.ref c₀.l))
    (turn : ∀ (c : St) (tb tz : List (Addr × Obj)) (num : Int) (t : Tok) (u : Str → Option Value) (h : Heap) (tk : Nat), (∀ p ∈ tb, p ∈ tz) → OwnOff tz [T, D] → StF w tb c → Valid c.k c.n → (∀ d ∈ c.ds, kqdOk 8 d = true) → c.ds.length ≤ 16 →
      Fr h₀ env.locals h (fun y => if y = x then some (.int num t) else if y = Str.ofString "one" then some (.ref c.a) else if y = Str.ofString "state" then some (.ref c.l) else if sNames.contains y then u y else m₀ y) →
      News h₀ env.locals h ((c.a, instObj 103 c.dx) :: (c.dx, dE w c.k c.n c.t1 c.t2 c.t3 c.t4) :: (c.l, listOf #[.int c.k c.tk, .int c.n c.tn] 0) :: (T, listOf c.vs.toArray c.n1) :: (D, listOf c.ws.toArray c.n2) :: tz) →
      wpAny (model prog w) A (execs body env) (fun f s' => f = .next ∧ RT w h₀ env.locals T D tb tz c.ds.length x m₀ { s with heap := h, toks := tk } s') E { s with heap := h, toks := tk })
    (done : ∀ (c : St) (tz : List (Addr × Obj)) (u : Str → Option Value) (h : Heap) (tk : Nat), DatAll tz c.vs c.ds → DatAll tz c.ws c.ds → (∀ d ∈ c.ds, kqdOk 8 d = true) →
      Fr h₀ env.locals h (fun y => if y = x then u y else if y = Str.ofString "one" then some (.ref c.a) else if y = Str.ofString "state" then some (.ref c.l) else if sNames.contains y then u y else m₀ y) →
      News h₀ env.locals h ((T, listOf c.vs.toArray c.n1) :: (D, listOf c.ws.toArray c.n2) :: tz) → Q .next { s with heap := h, toks := tk }) :
    wpAny (model prog w) A (pyIter (.ref S)) (fun it s₂ => LoopAtV prog w A h₀ env x body Q E it s₂) E s := by
  refine kd_listI (σ := St) (fun c => [(T, listOf c.vs.toArray c.n1), (D, listOf c.ws.toArray c.n2)]) ((S, listOf vs9.toArray 0) :: tl0) (fun c => [(Str.ofString "one", .ref c.a), (Str.ofString "state", .ref c.l)]) (StF w) sNames StP (T :: D :: S :: tl0.map (·.1)) c₀
    hh (.head _) hi F N ?_ (fun _ => rfl) (hf.mono fun p hp => List.mem_append.mpr (.inl (.tail _ hp))) ?_ hp ?_ ?_
  · intro p hp
    rcases List.mem_append.mp hp with hp | hp
    · rcases List.mem_cons.mp hp with rfl | hp
      · exact mT
      · rw [List.mem_singleton.mp hp]; exact mD
    · rw [List.append_nil] at hp
      rcases List.mem_cons.mp hp with rfl | hp
      · exact mS
      · exact m0 p hp
  · exact List.forall_mem_cons.mpr ⟨ho, List.forall_mem_cons.mpr ⟨hs, List.forall_mem_nil _⟩⟩
  · intro c tl pre post num t u h tk own e _ sep _ hf' hp' F' N'
    obtain ⟨hV, hok, hln⟩ := hp'
    have hpl : pre.length < 8 := by
      have := congrArg List.length e
      simp only [List.length_append, List.length_cons] at this
      omega
    have hsub : ∀ p ∈ ((S, listOf vs9.toArray 0) :: tl0) ++ tl, p ∈ (((S, listOf vs9.toArray 0) :: tl0) ++ tl) ++ own := fun p hp => List.mem_append.mpr (.inl hp)
    have hoff : OwnOff ((((S, listOf vs9.toArray 0) :: tl0) ++ tl) ++ own) [T, D] := by
      intro p hp b hb
      have hb' : b ∈ T :: D :: S :: tl0.map (·.1) := by
        rcases List.mem_cons.mp hb with rfl | hb
        · exact .head _
        · rw [List.mem_singleton.mp hb]; exact .tail _ (.head _)
      rcases List.mem_append.mp hp with hp | hp
      · rcases List.mem_append.mp hp with hp | hp
        · rcases List.mem_cons.mp hp with rfl | hp
          · rcases List.mem_cons.mp hb with rfl | hb
            · exact hST
            · rw [List.mem_singleton.mp hb]; exact hSD
          · exact o0 p hp b hb
        · exact sep.three p hp b hb'
      · exact sep.one p hp b hb'
    have N2 : News h₀ env.locals h ((c.a, instObj 103 c.dx) :: (c.dx, dE w c.k c.n c.t1 c.t2 c.t3 c.t4) :: (c.l, listOf #[.int c.k c.tk, .int c.n c.tn] 0) :: (T, listOf c.vs.toArray c.n1) :: (D, listOf c.ws.toArray c.n2) :: ((((S, listOf vs9.toArray 0) :: tl0) ++ tl) ++ own)) := by
      intro p hp
      have up : ∀ p ∈ ((S, listOf vs9.toArray 0) :: tl0) ++ tl, p ∈ [(T, listOf c.vs.toArray c.n1), (D, listOf c.ws.toArray c.n2)] ++ (((S, listOf vs9.toArray 0) :: tl0) ++ (tl ++ own)) := fun p hp => by
        rw [← List.append_assoc ((S, listOf vs9.toArray 0) :: tl0)]
        exact List.mem_append.mpr (.inr (List.mem_append.mpr (.inl hp)))
      refine N' p ?_
      rcases List.mem_cons.mp hp with rfl | hp
      · exact up _ hf'.2.2.1
      rcases List.mem_cons.mp hp with rfl | hp
      · exact up _ hf'.2.2.2.1
      rcases List.mem_cons.mp hp with rfl | hp
      · exact up _ hf'.2.2.2.2
      rcases List.mem_cons.mp hp with rfl | hp
      · exact .head _
      rcases List.mem_cons.mp hp with rfl | hp
      · exact .tail _ (.head _)
      · rw [List.append_assoc] at hp
        exact .tail _ (.tail _ hp)
    refine wpAny_mono (turn c _ _ num t u h tk hsub hoff hf' hV hok (by omega) F' N2) (fun f s' q => ?_) fun _ _ x => x
    obtain ⟨rfl, c', add, full, m', h', tk', rfl, F3, N3, k1, k2, k3, k4, k5, k6, k7, k8, k9, k10, k11, k12, k13⟩ := q
    refine kd_end (s₁ := { s with heap := h, toks := tk }) c' add sep F3 N3 ?_ ?_ rfl ?_ ?_ ?_ ?_ ?_ ?_
    · intro p hp
      rcases List.mem_append.mp hp with hp | hp
      · rcases List.mem_cons.mp hp with rfl | hp
        · exact k1
        · rw [List.mem_singleton.mp hp]; exact k2
      · rcases List.mem_append.mp hp with hp | hp
        · exact k4 p (List.mem_append.mpr (.inl (List.mem_append.mpr (.inl hp))))
        · rcases List.mem_append.mp hp with hp | hp
          · exact k3 p hp
          · exact k4 p (List.mem_append.mpr (.inl (List.mem_append.mpr (.inr hp))))
    · exact fun p hp => k4 p (List.mem_append.mpr (.inr hp))
    · intro q hq b hb
      rcases List.mem_cons.mp hb with rfl | hb
      · exact fun e => (k5 q hq).1 e.symm
      rcases List.mem_cons.mp hb with rfl | hb
      · exact fun e => (k5 q hq).2 e.symm
      rcases List.mem_cons.mp hb with rfl | hb
      · exact k6 (b, listOf vs9.toArray 0) (List.mem_append.mpr (.inl (List.mem_append.mpr (.inl (.head _))))) q hq
      · obtain ⟨p, hp, rfl⟩ := List.mem_map.mp hb
        exact k6 p (List.mem_append.mpr (.inl (List.mem_append.mpr (.inl (.tail _ hp))))) q hq
    · exact fun q hq p hp => k6 p (List.mem_append.mpr (.inr hp)) q hq
    · exact List.forall_mem_cons.mpr ⟨k11, List.forall_mem_cons.mpr ⟨k12, List.forall_mem_nil _⟩⟩
    · exact fun z h1 h2 h3 => k13 z h1 (h2 _ (.head _)) (h2 _ (.tail _ (.head _))) h3
    · refine k7.mono fun p hp => ?_
      rcases List.mem_append.mp hp with hp | hp
      · exact List.mem_append.mpr (.inr (List.mem_append.mpr (.inl hp)))
      · rcases List.mem_append.mp hp with hp | hp
        · exact List.mem_append.mpr (.inl hp)
        · exact List.mem_append.mpr (.inr (List.mem_append.mpr (.inr hp)))
    · refine ⟨k8, k9, ?_⟩
      rw [List.length_append, List.length_singleton]
      omega
  · intro c tl u h tk _ hf' hp' F' N'
    exact done c _ u h tk hf'.1 hf'.2.1 hp'.2.1 F' N'
end
end
section
theorem len8 (l : List Int) : (List.drop 2 (List.take 10 l)).length ≤ 8 := by
  rw [List.length_drop, List.length_take]; omega
section
variable {prog : Program} {w : World} {A : Around} {E : Value → Shared → Prop} {s : Shared} {h₀ : Heap} {L d : Addr} {news : List (Addr × Obj)} {kd a b : Int} {t u v : Tok} {Q : Value → Shared → Prop}
theorem in01y (N : News h₀ L s.heap news) (m : (d, listOf #[.int 0 t, .int 1 u] 0) ∈ news) (hk : kd = 0 ∨ kd = 1) (h : Q (.bool true) s) : wpAny (model prog w) A (compareOp .In (.int kd v) (.ref d)) Q E s := by
  refine in_list_ints (vs := [.int 0 t, .int 1 u]) (News.isList N m) ints2 ?_
  have e : ([0, 1].any (· == kd)) = true := by rcases hk with rfl | rfl <;> rfl
  rw [e]; exact h
theorem in01n (N : News h₀ L s.heap news) (m : (d, listOf #[.int 0 t, .int 1 u] 0) ∈ news) (hk : kd ≠ 0 ∧ kd ≠ 1) (h : Q (.bool false) s) : wpAny (model prog w) A (compareOp .In (.int kd v) (.ref d)) Q E s := by
  refine in_list_ints (vs := [.int 0 t, .int 1 u]) (News.isList N m) ints2 ?_
  have e : ([0, 1].any (· == kd)) = false := by
    have h1 : ((0 : Int) == kd) = false := beq_false_of_ne fun e => hk.1 e.symm
    have h2 : ((1 : Int) == kd) = false := beq_false_of_ne fun e => hk.2 e.symm
    simp only [List.any_cons, List.any_nil, h1, h2, Bool.or_false]
  rw [e]; exact h
theorem lt_y (hk : a < b) (h : Q (.bool true) s) : wpAny (model prog w) A (compareOp .Lt (.int a t) (.int b u)) Q E s :=
  wpAny_lt_int (by rw [decide_eq_true hk]; exact h)
theorem lt_n (hk : b ≤ a) (h : Q (.bool false) s) : wpAny (model prog w) A (compareOp .Lt (.int a t) (.int b u)) Q E s :=
  wpAny_lt_int (by rw [decide_eq_false (Int.not_lt.mpr hk)]; exact h)
end
theorem fresh_sub {d : Addr} {l news : List (Addr × Obj)} (f : Fresh d news) (s : ∀ p ∈ l, p ∈ news) : Fresh d l := fun p hp => f p (s p hp)
/-- a new entry, apart from what stood -/
def Nw (T D : Addr) (tz full : List (Addr × Obj)) (e : Addr × Obj) : Prop := e ∈ full ∧ e.1 ≠ T ∧ e.1 ≠ D ∧ Fresh e.1 tz
def NwL (T D : Addr) (tz full l : List (Addr × Obj)) : Prop := ∀ p ∈ l, Nw T D tz full p
section
variable {T D d : Addr} {tz full l l' : List (Addr × Obj)} {o : Obj} {e : Addr × Obj}
theorem nw_mk (h : (d, o) ∈ full) (h1 : d ≠ T) (h2 : d ≠ D) (h3 : Fresh d tz) : Nw T D tz full (d, o) := ⟨h, h1, h2, h3⟩
theorem nwl_mk (h : ∀ p ∈ l, p ∈ full) (h1 : ∀ p ∈ l, p.1 ≠ T) (h2 : ∀ p ∈ l, p.1 ≠ D) (h3 : Lt tz l) : NwL T D tz full l := fun p hp => ⟨h p hp, h1 p hp, h2 p hp, fun q hq => h3 q hq p hp⟩
theorem nwl_cons (h : Nw T D tz full e) (h' : NwL T D tz full l) : NwL T D tz full (e :: l) := fun p hp => by
  rcases List.mem_cons.mp hp with rfl | hp
  · exact h
  · exact h' p hp
theorem nwl_app (h : NwL T D tz full l) (h' : NwL T D tz full l') : NwL T D tz full (l ++ l') := fun p hp => by
  rcases List.mem_append.mp hp with hp | hp
  · exact h p hp
  · exact h' p hp
end
section
variable {w : World} {h₀ h : Heap} {L T D d1 d2 d3 d4 x' dx' l' : Addr} {tb tz full tl1 tl2 tl3 tl4 : List (Addr × Obj)} {c : St} {x y : Str} {m₀ m' : Str → Option Value} {s s0 : Shared} {tk : Nat} {s1 s2 t1 t2 t3 t4 kt nt : Tok} {v1 v2 v3 v4 v5 u1 u2 u3 u4 u5 y1 y2 y3 y4 y5 z1 z2 z3 z4 z5 : Value} {n1 n2 : Nat} {kd sp : Int}
theorem rt_no (F : Fr h₀ L h m') (N : News h₀ L h full) (htb : StF w tb c) (hV : Valid c.k c.n) (hok : ∀ d ∈ c.ds, kqdOk 8 d = true)
    (e1 : m' (Str.ofString "one") = some (.ref c.a)) (e2 : m' (Str.ofString "state") = some (.ref c.l)) (same : ∀ z, z ≠ x → z ≠ Str.ofString "one" → z ≠ Str.ofString "state" → sNames.contains z = false → m' z = m₀ z)
    (mT : (T, listOf (c.vs.toArray.push (.ref d1)) n1) ∈ full) (mD : (D, listOf (c.ws.toArray.push (.ref d2)) n2) ∈ full) (mz : ∀ p ∈ tz, p ∈ full)
    (k1 : Nw T D tz full (d1, listOf #[.str y s1, v1, v2, v3, v4, v5] 0)) (k2 : Nw T D tz full (d2, listOf #[.str y s2, u1, u2, u3, u4, u5] 0))
    (D1 : DatAll tl1 [v1, v2, v3, v4, v5] (Dd c.k c.n)) (D2 : DatAll tl2 [u1, u2, u3, u4, u5] (Dd c.k c.n)) (q1 : NwL T D tz full tl1) (q2 : NwL T D tz full tl2) (hy : PyData.strOk y = true) :
    RT w h₀ L T D tb tz c.ds.length x m₀ s { s with heap := h, toks := tk } := by
  have a1 : NwL T D tz full ((d1, listOf #[.str y s1, v1, v2, v3, v4, v5] 0) :: (d2, listOf #[.str y s2, u1, u2, u3, u4, u5] 0) :: (tl1 ++ tl2)) := nwl_cons k1 (nwl_cons k2 (nwl_app q1 q2))
  refine ⟨{ c with vs := c.vs ++ [.ref d1], ws := c.ws ++ [.ref d2], ds := c.ds ++ [.list (.str y :: Dd c.k c.n)], n1 := n1, n2 := n2 }, _, full, m', h, tk, rfl, F, N, ?_, ?_, fun p hp => (a1 p hp).1, mz, fun p hp => ⟨(a1 p hp).2.1, (a1 p hp).2.2.1⟩, fun q hq p hp => (a1 p hp).2.2.2 q hq, ⟨?_, ?_, ?_, ?_, ?_⟩, hV, ?_, ?_, e1, e2, same⟩
  · rw [← List.push_toArray]; exact mT
  · rw [← List.push_toArray]; exact mD
  · refine (htb.1.mono fun p hp => List.mem_append.mpr (.inr hp)).append (.cons (.list (List.mem_append.mpr (.inl (.head _))) (.cons (.str _ _) (D1.mono fun p hp => List.mem_append.mpr (.inl (.tail _ (.tail _ (List.mem_append.mpr (.inl hp)))))))) .nil)
  · refine (htb.2.1.mono fun p hp => List.mem_append.mpr (.inr hp)).append (.cons (.list (List.mem_append.mpr (.inl (.tail _ (.head _)))) (.cons (.str _ _) (D2.mono fun p hp => List.mem_append.mpr (.inl (.tail _ (.tail _ (List.mem_append.mpr (.inr hp)))))))) .nil)
  · exact List.mem_append.mpr (.inr htb.2.2.1)
  · exact List.mem_append.mpr (.inr htb.2.2.2.1)
  · exact List.mem_append.mpr (.inr htb.2.2.2.2)
  · exact List.forall_mem_append.mpr ⟨hok, List.forall_mem_cons.mpr ⟨ok_list (List.forall_mem_cons.mpr ⟨hy, Dd_ok hV⟩), List.forall_mem_nil _⟩⟩
  · simp only [List.length_append, List.length_singleton]; omega
theorem rt_yes (F : Fr h₀ L h m') (N : News h₀ L h full) (htb : StF w tb c) (hV : Valid c.k c.n) (hW : Valid kd sp) (hok : ∀ d ∈ c.ds, kqdOk 8 d = true)
    (e1 : m' (Str.ofString "one") = some (.ref x')) (e2 : m' (Str.ofString "state") = some (.ref l')) (same : ∀ z, z ≠ x → z ≠ Str.ofString "one" → z ≠ Str.ofString "state" → sNames.contains z = false → m' z = m₀ z)
    (mT : (T, listOf ((c.vs.toArray.push (.ref d1)).push (.ref d3)) n1) ∈ full) (mD : (D, listOf ((c.ws.toArray.push (.ref d2)).push (.ref d4)) n2) ∈ full) (mz : ∀ p ∈ tz, p ∈ full)
    (k1 : Nw T D tz full (d1, listOf #[.str y s1, v1, v2, v3, v4, v5] 0)) (k2 : Nw T D tz full (d2, listOf #[.str y s2, u1, u2, u3, u4, u5] 0))
    (k3 : Nw T D tz full (d3, listOf #[y1, y2, y3, y4, y5] 0)) (k4 : Nw T D tz full (d4, listOf #[z1, z2, z3, z4, z5] 0))
    (k5 : Nw T D tz full (x', instObj 103 dx')) (k6 : Nw T D tz full (dx', dE w kd sp t1 t2 t3 t4)) (k7 : Nw T D tz full (l', listOf #[.int kd kt, .int sp nt] 0))
    (D1 : DatAll tl1 [v1, v2, v3, v4, v5] (Dd c.k c.n)) (D2 : DatAll tl2 [u1, u2, u3, u4, u5] (Dd c.k c.n)) (D3 : DatAll tl3 [y1, y2, y3, y4, y5] (Dd kd sp)) (D4 : DatAll tl4 [z1, z2, z3, z4, z5] (Dd kd sp))
    (q1 : NwL T D tz full tl1) (q2 : NwL T D tz full tl2) (q3 : NwL T D tz full tl3) (q4 : NwL T D tz full tl4) (hy : PyData.strOk y = true) :
    RT w h₀ L T D tb tz c.ds.length x m₀ s { s with heap := h, toks := tk } := by
  have a1 := nwl_cons k1 (nwl_cons k2 (nwl_cons k3 (nwl_cons k4 (nwl_cons k5 (nwl_cons k6 (nwl_cons k7 (nwl_app q1 (nwl_app q2 (nwl_app q3 q4)))))))))
  have b1 : ∀ p ∈ tl1, p ∈ tl1 ++ (tl2 ++ (tl3 ++ tl4)) := fun p hp => List.mem_append.mpr (.inl hp)
  have b2 : ∀ p ∈ tl2, p ∈ tl1 ++ (tl2 ++ (tl3 ++ tl4)) := fun p hp => List.mem_append.mpr (.inr (List.mem_append.mpr (.inl hp)))
  have b3 : ∀ p ∈ tl3, p ∈ tl1 ++ (tl2 ++ (tl3 ++ tl4)) := fun p hp => List.mem_append.mpr (.inr (List.mem_append.mpr (.inr (List.mem_append.mpr (.inl hp)))))
  have b4 : ∀ p ∈ tl4, p ∈ tl1 ++ (tl2 ++ (tl3 ++ tl4)) := fun p hp => List.mem_append.mpr (.inr (List.mem_append.mpr (.inr (List.mem_append.mpr (.inr hp)))))
  refine ⟨⟨c.vs ++ [.ref d1, .ref d3], c.ws ++ [.ref d2, .ref d4], c.ds ++ [.list (.str y :: Dd c.k c.n), .list (Dd kd sp)], n1, n2, x', dx', l', t1, t2, t3, t4, kt, nt, kd, sp⟩, _, full, m', h, tk, rfl, F, N, ?_, ?_, fun p hp => (a1 p hp).1, mz, fun p hp => ⟨(a1 p hp).2.1, (a1 p hp).2.2.1⟩, fun q hq p hp => (a1 p hp).2.2.2 q hq, ⟨?_, ?_, ?_, ?_, ?_⟩, hW, ?_, ?_, e1, e2, same⟩
  · have e : ((c.vs ++ [Value.ref d1, Value.ref d3]).toArray : Array Value) = (c.vs.toArray.push (Value.ref d1)).push (Value.ref d3) := by simp
    rw [e]; exact mT
  · have e : ((c.ws ++ [Value.ref d2, Value.ref d4]).toArray : Array Value) = (c.ws.toArray.push (Value.ref d2)).push (Value.ref d4) := by simp
    rw [e]; exact mD
  · refine (htb.1.mono fun p hp => List.mem_append.mpr (.inr hp)).append (.cons (.list (List.mem_append.mpr (.inl (.head _))) (.cons (.str _ _) (D1.mono fun p hp => List.mem_append.mpr (.inl ?_)))) (.cons (.list (List.mem_append.mpr (.inl (.tail _ (.tail _ (.head _))))) (D3.mono fun p hp => List.mem_append.mpr (.inl ?_))) .nil))
    · exact .tail _ (.tail _ (.tail _ (.tail _ (.tail _ (.tail _ (.tail _ (b1 p hp)))))))
    · exact .tail _ (.tail _ (.tail _ (.tail _ (.tail _ (.tail _ (.tail _ (b3 p hp)))))))
  · refine (htb.2.1.mono fun p hp => List.mem_append.mpr (.inr hp)).append (.cons (.list (List.mem_append.mpr (.inl (.tail _ (.head _)))) (.cons (.str _ _) (D2.mono fun p hp => List.mem_append.mpr (.inl ?_)))) (.cons (.list (List.mem_append.mpr (.inl (.tail _ (.tail _ (.tail _ (.head _)))))) (D4.mono fun p hp => List.mem_append.mpr (.inl ?_))) .nil))
    · exact .tail _ (.tail _ (.tail _ (.tail _ (.tail _ (.tail _ (.tail _ (b2 p hp)))))))
    · exact .tail _ (.tail _ (.tail _ (.tail _ (.tail _ (.tail _ (.tail _ (b4 p hp)))))))
  · exact List.mem_append.mpr (.inl (.tail _ (.tail _ (.tail _ (.tail _ (.head _))))))
  · exact List.mem_append.mpr (.inl (.tail _ (.tail _ (.tail _ (.tail _ (.tail _ (.head _)))))))
  · exact List.mem_append.mpr (.inl (.tail _ (.tail _ (.tail _ (.tail _ (.tail _ (.tail _ (.head _))))))))
  · exact List.forall_mem_append.mpr ⟨hok, List.forall_mem_cons.mpr ⟨ok_list (List.forall_mem_cons.mpr ⟨hy, Dd_ok hV⟩), List.forall_mem_cons.mpr ⟨ok_list (Dd_ok hW), List.forall_mem_nil _⟩⟩⟩
  · simp only [List.length_append, List.length_cons, List.length_nil]; omega
end
section
variable {dP uN : Nat} {w : World} {f : Addr} {vs : List Value} {news : List (Addr × Obj)}
  {mean : ExcName → Option Value} {mg mb : Str → Option Value} {gd : Option (List Code)} {dp un : Nat} {cn : Str} {cs : Scope} {a : Addr} {ccd : Value} {A₀ : Around} {h₀ : Heap} {L : Addr} {m : Str → Option Value} {s : Shared} {Q E : Value → Shared → Prop}
theorem KT.use0 {o : Obj} (C : KT dP uN w f vs news (fun v add => ∃ l, v = .ref l ∧ add = [(l, o)])) (B : Below A₀ h₀ [] h₀) (F : Fr h₀ L s.heap m) (X : (hd.heap_39 w.params).In h₀) (N : News h₀ L s.heap news) (T : Top vw lo mean mg mb h₀) (hk : cs.kind = .function) (hd : dp ≤ dP) (hu : un ≤ uN)
    (ret : ∀ l h' tk', Fr h₀ L h' m → News h₀ L h' ((l, o) :: news) → Fresh l news → Q (.ref l) { s with heap := h', toks := tk' }) :
    wpAny (model pr w) { handled := none, depth := dp, frames := some [envOf cn cs L a ccd], guards := gd, units := un } (call (.ref f) vs) Q E s :=
  C.use B F X N T hk hd hu fun v add h' tk' F' N' L' ⟨l, hv, ha⟩ => by
    subst hv; subst ha
    exact ret l h' tk' F' N' L'.head
theorem aft_yes {k n kd : Int} {tn tk : Tok} (h1 : kd = 0 ∨ kd = 1) (h : Ok (spd k n) kd) : KC 400 4000 w 142 [.int (spd k n) tn, .int kd tk] news (fun v add => ∃ l t, v = .ref l ∧ add = [(l, listOf #[.int kd t, .int (spd k n) tn] 0)]) := by
  have := state_yes w (spd k n) kd tn tk news h
  rw [(ok_valid h1 h).1] at this
  exact this
end
theorem told_due {prog : Program} {w : World} {A : Around} {E : Value → Shared → Prop} {s : Shared} {h₀ : Heap} {L T D : Addr} {tz : List (Addr × Obj)} {vs ws : List Value} {ds : List Dat} {n1 n2 : Nat} {Q : Value → Shared → Prop}
    (N : News h₀ L s.heap ((T, listOf vs.toArray n1) :: (D, listOf ws.toArray n2) :: tz)) (d1 : DatAll tz vs ds) (d2 : DatAll tz ws ds) (hk : ∀ d ∈ ds, kqdOk 8 d = true) (hu : A.units + 64 < cLine) (h : Q (.bool true) s) : wpAny (model prog w) A (compareOp .Eq (.ref T) (.ref D)) Q E s :=
  kqd_eq N (.head _) rfl rfl d1 (fun _ hp => .tail _ (.tail _ hp)) (.tail _ (.head _)) rfl rfl d2 (fun _ hp => .tail _ (.tail _ hp)) hk hk hu (by rw [@decide_eq_true _ (_) rfl]; exact h)
end
section
theorem off_law : True := by
  w_top off
  trivial
def Hold (p : Prop) : Prop := p
theorem hold_mk {p : Prop} (h : Hold p) : p := h
local macro_rules | `(tactic| walk_at "call ref") => `(tactic| (k_here; (with_reducible show wpAny _ _ (call (Value.ref 135) _) _ _ _); k_dflt (first
  | (refine' KC.use (worth_K _ _ _ _) ?B ?F ?X ?N ?T ?hc ?hd ?hu ?_; (case N => k_asm); (case B => k_asm); (case F => k_asm); (case X => k_asm); (case T => k_asm); (case hc => first | exact rfl | assumption); (case hd => first | exact Nat.le_of_ble_eq_true rfl | with_unfolding_all exact Nat.le_of_ble_eq_true rfl); (case hu => first | exact Nat.le_of_ble_eq_true rfl | with_unfolding_all exact Nat.le_of_ble_eq_true rfl))); (intro v9 a9 h9 k9 F9 N9 L9 P9); (obtain ⟨w9, t9, hv9, ha9⟩ := P9); subst hv9; subst ha9; (simp only [List.nil_append] at N9); clear L9; (try dsimp only); (try k_fold)))
local macro_rules | `(tactic| walk_at "call ref") => `(tactic| (k_here; (with_reducible show wpAny _ _ (call (Value.ref 142) _) _ _ _); k_dflt (first
  | (refine' KC.use (state_K _ _ _ _ _ _) ?B ?F ?X ?N ?T ?hc ?hd ?hu ?_; (case N => k_asm); (case B => k_asm); (case F => k_asm); (case X => k_asm); (case T => k_asm); (case hc => first | exact rfl | assumption); (case hd => first | exact Nat.le_of_ble_eq_true rfl | with_unfolding_all exact Nat.le_of_ble_eq_true rfl); (case hu => first | exact Nat.le_of_ble_eq_true rfl | with_unfolding_all exact Nat.le_of_ble_eq_true rfl))); (intro v9 a9 h9 k9 F9 N9 L9 P9); (k_dflt (obtain ⟨l9, hv9, P9⟩ := P9; subst hv9; rcases P9 with (⟨hno9, ha9⟩ | ⟨hok9, t9, ha9⟩))) <;> (subst ha9; clear L9; (simp only [List.cons_append, List.nil_append] at N9); (try dsimp only); (try k_fold))))
local macro_rules | `(tactic| walk_at "call ref") => `(tactic| (k_here; (with_reducible show wpAny _ _ (call (Value.ref 182) _) _ _ _); k_dflt (first
  | (refine' KT.use (made_yes _ _ _ _ _ _ _ ?h0 ?h1 ?hk) ?B ?F ?X ?N ?T ?hc ?hd ?hu ?_; (case N => k_asm); (case B => k_asm); (case F => k_asm); (case X => k_asm); (case T => k_asm); (case hc => first | exact rfl | assumption); (case hd => first | exact Nat.le_of_ble_eq_true rfl | with_unfolding_all exact Nat.le_of_ble_eq_true rfl); (case hu => first | exact Nat.le_of_ble_eq_true rfl | with_unfolding_all exact Nat.le_of_ble_eq_true rfl); (case hk => assumption); (case h0 => exact (fm6 _).1); (case h1 => exact (fm6 _).2))); (intro v9 a9 h9 k9 F9 N9 L9 P9); (obtain ⟨l9, x9, dx9, t91, t92, t93, t94, hv9, ha9⟩ := P9; subst hv9; subst ha9; clear L9; (simp only [List.cons_append, List.nil_append] at N9); (try dsimp only); (try k_fold))))
local macro_rules | `(tactic| walk_at "call ref") => `(tactic| (k_here; (with_reducible show wpAny _ _ (call (Value.ref 182) _) _ _ _); k_dflt (first
  | (refine' KT.use (made_no _ _ _ _ _ _ _ ?h0 ?h1 ?hk) ?B ?F ?X ?N ?T ?hc ?hd ?hu ?_; (case N => k_asm); (case B => k_asm); (case F => k_asm); (case X => k_asm); (case T => k_asm); (case hc => first | exact rfl | assumption); (case hd => first | exact Nat.le_of_ble_eq_true rfl | with_unfolding_all exact Nat.le_of_ble_eq_true rfl); (case hu => first | exact Nat.le_of_ble_eq_true rfl | with_unfolding_all exact Nat.le_of_ble_eq_true rfl); (case hk => assumption); (case h0 => exact (fm6 _).1); (case h1 => exact (fm6 _).2))); (intro v9 a9 h9 k9 F9 N9 L9 P9); (obtain ⟨l9, hv9, ha9⟩ := P9; subst hv9; subst ha9; clear L9; (simp only [List.cons_append, List.nil_append] at N9); (try dsimp only); (try k_fold))))
local macro_rules | `(tactic| walk_at "call ref") => `(tactic| (k_here; (with_reducible show wpAny _ _ (call (Value.ref 175) _) _ _ _); k_dflt (first
  | (refine' KT.useD (KT.sub2 (told_K _ _ _ _ _ _ _ _ _ _ ?hv) ?m1 ?m2) ?B ?F ?X ?N ?T ?hc ?hd ?hu ?_; (case N => k_asm); (case B => k_asm); (case F => k_asm); (case X => k_asm); (case T => k_asm); (case hc => first | exact rfl | assumption); (case hd => first | exact Nat.le_of_ble_eq_true rfl | with_unfolding_all exact Nat.le_of_ble_eq_true rfl); (case hu => first | exact Nat.le_of_ble_eq_true rfl | with_unfolding_all exact Nat.le_of_ble_eq_true rfl); (case m1 => k_mem); (case m2 => k_mem); (case hv => first | assumption | exact And.right (by assumption) | (right; right; exact ⟨rfl, by decide, by decide⟩)))); (intro l9 v91 v92 v93 v94 v95 tl9 h9 k9 F9 N9 f9 L9 D9); (simp only [List.cons_append, List.nil_append, List.append_assoc] at N9); (try dsimp only); (try k_fold)))
local macro_rules | `(tactic| walk_at "call ref") => `(tactic| (k_here; (with_reducible show wpAny _ _ (call (Value.ref 156) _) _ _ _); k_dflt (first
  | (refine' KT.useD (KC.top (KC.sub1 (due_K _ _ _ _ _ _ _ ?hv) ?m1)) ?B ?F ?X ?N ?T ?hc ?hd ?hu ?_; (case N => k_asm); (case B => k_asm); (case F => k_asm); (case X => k_asm); (case T => k_asm); (case hc => first | exact rfl | assumption); (case hd => first | exact Nat.le_of_ble_eq_true rfl | with_unfolding_all exact Nat.le_of_ble_eq_true rfl); (case hu => first | exact Nat.le_of_ble_eq_true rfl | with_unfolding_all exact Nat.le_of_ble_eq_true rfl); (case m1 => k_mem); (case hv => first | assumption | exact And.right (by assumption) | (right; right; exact ⟨rfl, by decide, by decide⟩)))); (intro l9 v91 v92 v93 v94 v95 tl9 h9 k9 F9 N9 f9 L9 D9); (simp only [List.cons_append, List.nil_append, List.append_assoc] at N9); (try dsimp only); (try k_fold)))
local macro_rules | `(tactic| walk_at "call builtin:list.append") => `(tactic| (k_here; (with_reducible show wpAny _ _ (call (Value.builtin _) [Value.ref _, _]) _ _ _); k_dflt (refine' append_K ?k1 ?k2 ?k3 ?_ ?z; (case k1 => k_asm); (case k2 => k_asm); (case k3 => k_upd); (case z => first | (simp only [List.size_toArray, Array.size_push, List.length_append, List.length_cons, List.length_nil]; rw [sizeLine_eq]; omega) | size_fits); k_whole); intro h' F' N'; (try k_sweep)))
local macro_rules | `(tactic| k_ne) => `(tactic| ((try dsimp only); (refine' fresh_ne ?f ?m; (case f => with_reducible assumption); (case m => k_mem))))
local macro_rules | `(tactic| k_all) => `(tactic| (refine' lt_all ?L ?m; (case L => with_reducible assumption); (case m => k_mem)))
local macro_rules | `(tactic| k_all) => `(tactic| (refine List.forall_mem_append.mpr ⟨?_, ?_⟩ <;> k_all))
local macro_rules | `(tactic| walk_at "compareOp Eq ref ref") => `(tactic| (k_here; (with_reducible show wpAny _ _ (compareOp CmpOp.Eq (Value.ref _) (Value.ref _)) _ _ _); k_dflt (first | (refine' eq2 ?N ?a ?b ?u ?_; (case N => k_asm); (case a => k_mem); (case b => k_mem); (case u => units_room)) | (refine' eq0 ?N ?a ?b ?u ?_; (case N => k_asm); (case a => k_mem); (case b => k_mem); (case u => units_room)))))
local macro_rules | `(tactic| walk_at "compareOp NotEq ref ref") => `(tactic| (k_here; (with_reducible show wpAny _ _ (compareOp CmpOp.NotEq (Value.ref _) (Value.ref _)) _ _ _); k_dflt (first | (refine' ne2 ?N ?a ?b ?u ?_; (case N => k_asm); (case a => k_mem); (case b => k_mem); (case u => units_room)) | (refine' ne0 ?N ?a ?b ?u ?_; (case N => k_asm); (case a => k_mem); (case b => k_mem); (case u => units_room)))))
local macro_rules | `(tactic| walk_at "subscriptTail") => `(tactic| (k_here; (with_reducible show wpAny _ _ (subscriptTail (PySem.Expr.BinOp _ _ _ _) (PySem.Expr.Slice _ _ _ _) _ _) _ _ _); k_dflt (refine kba_turn (value' := PySem.Expr.Name (PySem.Str.ofString "_") ⟨0, 0, 0, 0⟩) (fun _ => rfl) ?_)))
local macro_rules | `(tactic| walk_at "call ref") => `(tactic| (k_here; (with_reducible show wpAny _ _ (call (Value.ref 149) _) _ _ _); k_dflt (first
  | (refine' KT.useI (KC.top (KC.sub1 (speed_K _ _ _ _ _ _ _) ?m1)) ?B ?F ?X ?N ?T ?hc ?hd ?hu ?_; (case N => k_asm); (case B => k_asm); (case F => k_asm); (case X => k_asm); (case T => k_asm); (case hc => first | exact rfl | assumption); (case hd => first | exact Nat.le_of_ble_eq_true rfl | with_unfolding_all exact Nat.le_of_ble_eq_true rfl); (case hu => first | exact Nat.le_of_ble_eq_true rfl | with_unfolding_all exact Nat.le_of_ble_eq_true rfl); (case m1 => k_mem))); (intro t9 h9 k9 F9 N9); (try dsimp only); (try k_fold)))
local macro_rules | `(tactic| walk_at "call ref") => `(tactic| (k_here; (with_reducible show wpAny _ _ (call (Value.ref 142) _) _ _ _); k_dflt (first
  | (refine' KT.use0 (KC.top (state_no _ _ _ _ _ _ ?hk)) ?B ?F ?X ?N ?T ?hc ?hd ?hu ?_; (case N => k_asm); (case B => k_asm); (case F => k_asm); (case X => k_asm); (case T => k_asm); (case hc => first | exact rfl | assumption); (case hd => first | exact Nat.le_of_ble_eq_true rfl | with_unfolding_all exact Nat.le_of_ble_eq_true rfl); (case hu => first | exact Nat.le_of_ble_eq_true rfl | with_unfolding_all exact Nat.le_of_ble_eq_true rfl); (case hk => assumption))); (intro l9 h9 k9 F9 N9 f9); (try dsimp only); (try k_fold)))
local macro_rules | `(tactic| walk_at "call ref") => `(tactic| (k_here; (with_reducible show wpAny _ _ (call (Value.ref 142) _) _ _ _); k_dflt (first
  | (refine' KT.use1 (KC.top (aft_yes ?h1 ?hk)) ?B ?F ?X ?N ?T ?hc ?hd ?hu ?_; (case N => k_asm); (case B => k_asm); (case F => k_asm); (case X => k_asm); (case T => k_asm); (case hc => first | exact rfl | assumption); (case hd => first | exact Nat.le_of_ble_eq_true rfl | with_unfolding_all exact Nat.le_of_ble_eq_true rfl); (case hu => first | exact Nat.le_of_ble_eq_true rfl | with_unfolding_all exact Nat.le_of_ble_eq_true rfl); (case h1 => assumption); (case hk => assumption))); (intro l9 t9 h9 k9 F9 N9 f9); (try dsimp only); (try k_fold)))
local macro_rules | `(tactic| walk_at "call ref") => `(tactic| (k_here; (with_reducible show wpAny _ _ (call (Value.ref 189) _) _ _ _); k_dflt (first
  | (refine' KT.use1 (KT.sub2 (turnR _ _ _ _ _ _ _ _ _ _ _ _ ?hk) ?m1 ?m2) ?B ?F ?X ?N ?T ?hc ?hd ?hu ?_; (case N => k_asm); (case B => k_asm); (case F => k_asm); (case X => k_asm); (case T => k_asm); (case hc => first | exact rfl | assumption); (case hd => first | exact Nat.le_of_ble_eq_true rfl | with_unfolding_all exact Nat.le_of_ble_eq_true rfl); (case hu => first | exact Nat.le_of_ble_eq_true rfl | with_unfolding_all exact Nat.le_of_ble_eq_true rfl); (case m1 => k_mem); (case m2 => k_mem); (case hk => assumption))); (intro l9 t9 h9 k9 F9 N9 f9); (try dsimp only); (try k_fold)))
local macro_rules | `(tactic| walk_at "call ref") => `(tactic| (k_here; (with_reducible show wpAny _ _ (call (Value.ref 189) _) _ _ _); k_dflt (first
  | (refine' KT.use1 (KT.sub2 (turnU _ _ _ _ _ _ _ _ _ _ _ _ ?hv ?h1 ?hk) ?m1 ?m2) ?B ?F ?X ?N ?T ?hc ?hd ?hu ?_; (case N => k_asm); (case B => k_asm); (case F => k_asm); (case X => k_asm); (case T => k_asm); (case hc => first | exact rfl | assumption); (case hd => first | exact Nat.le_of_ble_eq_true rfl | with_unfolding_all exact Nat.le_of_ble_eq_true rfl); (case hu => first | exact Nat.le_of_ble_eq_true rfl | with_unfolding_all exact Nat.le_of_ble_eq_true rfl); (case m1 => k_mem); (case m2 => k_mem); (case h1 => assumption); (case hk => assumption); (case hv => assumption))); (intro l9 t9 h9 k9 F9 N9 f9); (try dsimp only); (try k_fold)))
local macro_rules | `(tactic| walk_at "call ref") => `(tactic| (k_here; (with_reducible show wpAny _ _ (call (Value.ref 189) _) _ _ _); k_dflt (first
  | (refine' KT.use1 (KT.sub2 (turnD _ _ _ _ _ _ _ _ _ _ _ _ ?hv ?h1 ?h0 ?hk) ?m1 ?m2) ?B ?F ?X ?N ?T ?hc ?hd ?hu ?_; (case N => k_asm); (case B => k_asm); (case F => k_asm); (case X => k_asm); (case T => k_asm); (case hc => first | exact rfl | assumption); (case hd => first | exact Nat.le_of_ble_eq_true rfl | with_unfolding_all exact Nat.le_of_ble_eq_true rfl); (case hu => first | exact Nat.le_of_ble_eq_true rfl | with_unfolding_all exact Nat.le_of_ble_eq_true rfl); (case m1 => k_mem); (case m2 => k_mem); (case h1 => assumption); (case h0 => assumption); (case hk => assumption); (case hv => assumption))); (intro l9 t9 h9 k9 F9 N9 f9); (try dsimp only); (try k_fold)))
local macro_rules | `(tactic| walk_at "call ref") => `(tactic| (k_here; (with_reducible show wpAny _ _ (call (Value.ref 189) _) _ _ _); k_dflt (first
  | (refine' KT.useN (KT.sub2 (turnC _ _ _ _ _ _ _ _ _ _ _ _ ?hv ?h1 ?h0 ?hk) ?m1 ?m2) ?B ?F ?X ?N ?T ?hc ?hd ?hu ?_; (case N => k_asm); (case B => k_asm); (case F => k_asm); (case X => k_asm); (case T => k_asm); (case hc => first | exact rfl | assumption); (case hd => first | exact Nat.le_of_ble_eq_true rfl | with_unfolding_all exact Nat.le_of_ble_eq_true rfl); (case hu => first | exact Nat.le_of_ble_eq_true rfl | with_unfolding_all exact Nat.le_of_ble_eq_true rfl); (case m1 => k_mem); (case m2 => k_mem); (case h1 => assumption); (case h0 => assumption); (case hk => assumption); (case hv => assumption))); (intro l9 t9 x9 dx9 t91 t92 t93 t94 h9 k9 F9 N9 f91 f92 f93); (try dsimp only); (try k_fold)))
local macro_rules | `(tactic| walk_at "binaryOp Add ref ref") => `(tactic| (k_here; (with_reducible show wpAny _ _ (binaryOp _ (Value.ref _) (Value.ref _)) _ _ _); k_dflt (refine' kmk_add_lit ?F ?N ?a ?b ?e ?_ ?z; (case F => k_asm); (case N => k_asm); (case a => exact News.isList (by k_asm) (by k_mem)); (case b => exact News.isList (by k_asm) (by k_mem)); (case e => exact rfl); (case z => kl_room)); intro D' h' F' N' l1; (have f1 := fresh_lt l1); (try k_lt l1); (try k_sweep)))
local macro_rules | `(tactic| k_ne) => `(tactic| ((try dsimp only); with_reducible assumption))
local macro_rules | `(tactic| walk_at "exec For Name Subscript cons nil") => `(tactic| (k_here; (rename Fr _ _ _ _ => lF'); (with_unfolding_all refine' For_invVF lF' ?k1 ?k2 ?_; (case k1 => exact rfl); (case k2 => exact rfl); k_whole)))
local macro_rules | `(tactic| walk_at "pyIter ref") => `(tactic| (refine hold_mk ?_))
local macro_rules | `(tactic| walk_at "compareOp In int ref") => `(tactic| (k_here; (with_reducible show wpAny _ _ (compareOp CmpOp.In (Value.int _ _) (Value.ref _)) _ _ _); k_dflt (first | (refine' in01y ?N ?m ?h ?_; (case N => k_asm); (case m => k_mem); (case h => with_reducible assumption)) | (refine' in01n ?N ?m ?h ?_; (case N => k_asm); (case m => k_mem); (case h => with_reducible assumption)))))
local macro_rules | `(tactic| walk_at "compareOp Lt int int") => `(tactic| (k_here; k_dflt (first | (refine' lt_y ?h ?_; (case h => with_reducible assumption)) | (refine' lt_n ?h ?_; (case h => with_reducible assumption)))))
local macro_rules | `(tactic| walk_at "compareOp Eq ref ref") => `(tactic| (k_here; (with_reducible show wpAny _ _ (compareOp CmpOp.Eq (Value.ref _) (Value.ref _)) _ _ _); k_dflt (refine' told_due ?N ?d1 ?d2 ?k ?u ?_; (case N => with_reducible assumption); (case d1 => with_reducible assumption); (case d2 => with_reducible assumption); (case k => with_reducible assumption); (case u => units_room))))
local macro_rules | `(tactic| walk_at "newList") => `(tactic| (k_here; k_dflt (refine' newList_K ?k1 ?k2 ?_ ?z; (case k1 => k_asm); (case k2 => k_asm); (case z => first | kl_room | size_fits); k_whole); intro l' h' F' N' l1; (try k_lt l1); (try k_sweep)))
theorem law_holds : PySem.Challenge.rw_fe0332_01.Holds := by
  exact Mine.hd (by
    k_go0
    all_goals try k_fold
    refine cutA (by assumption) (by assumption) ?_ ?_
    · simp only [List.take_succ_cons, List.take_zero]
      k_steps
      all_goals ((refine' ra_mk ?F ?N ?e1 ?e2 ?e3 ?e4 ?e5 ?mT ?mD ?mN ?hI ?ma ?mx ?ml ?mlt ?mld ?Dt ?Du ?st ?sd ?hv ?hTD ?hNT ?oT ?oD); (case F => assumption); (case N => assumption); (case e1 => exact rfl); (case e2 => exact rfl); (case e3 => exact rfl); (case e4 => exact rfl); (case e5 => exact rfl); (case mT => k_dflt k_mem); (case mD => k_dflt k_mem); (case mN => k_mem); (case hI => assumption); (case ma => k_mem); (case mx => k_mem); (case ml => k_mem); (case mlt => k_mem); (case mld => k_mem); (case Dt => assumption); (case Du => assumption); (case st => (intro p9 h9; kst_mem)); (case sd => (intro p9 h9; kst_mem)); (case hv => first | assumption | exact And.right (by assumption) | (right; right; exact ⟨rfl, by decide, by decide⟩)); (case hTD => (refine ltN ?_; omega)); (case hNT => (refine ltN ?_; omega)); (case oT => ((repeat' (first | refine List.forall_mem_cons.mpr ⟨?_, ?_⟩ | refine List.forall_mem_append.mpr ⟨?_, ?_⟩)) <;> first | k_ne | (refine' lt_all ?L ?m; (case L => with_reducible assumption); (case m => k_mem)))); (case oD => ((repeat' (first | refine List.forall_mem_cons.mpr ⟨?_, ?_⟩ | refine List.forall_mem_append.mpr ⟨?_, ?_⟩)) <;> first | k_ne | (refine' lt_all ?L ?m; (case L => with_reducible assumption); (case m => k_mem)))))
    · rintro s' ⟨⟨vs, ws, ds, n1, n2, a, dx, l, t1, t2, t3, t4, tk, tn, k, n⟩, T, D, NB, us, tl, m, h, tk9, rfl, F, N, hi, hTD, hNT, oT, hf, hp⟩
      dsimp only at F N
      simp only [List.drop_succ_cons, List.drop_zero]
      k_sweep
      k_steps
      unfold Hold
      rename_i S sv h' F' N' hI' hC' hL' l1
      refine loop_K (T := T) (D := D) (tl0 := tl) (c₀ := ⟨vs, ws, ds, n1, n2, a, dx, l, t1, t2, t3, t4, tk, tn, k, n⟩) rfl hI' (len8 _) F' N' (.tail _ (.head _)) (.tail _ (.tail _ (.head _))) (.head _) (fun p hp => .tail _ (.tail _ (.tail _ (.tail _ hp)))) ?_ ?_ oT hf hp rfl rfl ?_ ?_
      · exact (Nat.ne_of_lt l1.1).symm
      · exact (Nat.ne_of_lt l1.2.1).symm
      · clear F' N' hI' hC' hL' l1 hi hf hp oT
        rintro ⟨vs0, ws0, ds0, c1, c2, a0, x0, l0, b1, b2, b3, b4, bk, bn, k0, n0⟩ tb tz num nt u h tk8 hsub hoff htb hV hok hlen F N
        dsimp only at hV hok hlen F N
        have hv1 : vs0.length ≤ 16 := by rw [htb.1.length]; exact hlen
        have hv2 : ws0.length ≤ 16 := by rw [htb.2.1.length]; exact hlen
        have naT : a0 ≠ T := hoff _ (hsub _ htb.2.2.1) T (.head _)
        have naD : a0 ≠ D := hoff _ (hsub _ htb.2.2.1) D (.tail _ (.head _))
        have ndT : x0 ≠ T := hoff _ (hsub _ htb.2.2.2.1) T (.head _)
        have ndD : x0 ≠ D := hoff _ (hsub _ htb.2.2.2.1) D (.tail _ (.head _))
        have nlT : l0 ≠ T := hoff _ (hsub _ htb.2.2.2.2) T (.head _)
        have nlD : l0 ≠ D := hoff _ (hsub _ htb.2.2.2.2) D (.tail _ (.head _))
        rcases turn_cases (kd := num.fmod 6 - 1) hV with hq | ⟨hq1, hq2, hq3⟩ | ⟨hq1, hq2, hq3⟩ | ⟨hq1, hq2, hq3⟩
        · k_steps
          (refine' rt_no (c := ⟨vs0, ws0, ds0, c1, c2, a0, x0, l0, b1, b2, b3, b4, bk, bn, k0, n0⟩) ?F ?N ?htb ?hV ?hok ?e1 ?e2 ?same ?mT ?mD ?mz ?k1 ?k2 ?D1 ?D2 ?q1 ?q2 ?hy; (case F => assumption); (case N => assumption); (case htb => assumption); (case hV => assumption); (case hok => assumption); (case e1 => exact rfl); (case e2 => exact rfl); (case same => (intro z h1 h2 h3 h4; have h5 := h4; simp only [sNames, List.contains_cons, List.contains_nil, Bool.or_false, Bool.or_eq_false_iff, beq_eq_false_iff_ne, ne_eq] at h4; simp only [h1, h2, h3, h4, h5, if_false, Bool.false_eq_true])); (case mT => k_dflt k_mem); (case mD => k_dflt k_mem); (case mz => (intro p9 h9; kst_mem)); (case k1 => (refine' nw_mk ?za ?zb ?zc ?zd; (case za => k_mem); (case zb => k_ne); (case zc => k_ne); (case zd => (refine' fresh_sub ?f ?s; (case f => with_reducible assumption); (case s => (intro p9 h9; kst_mem)))))); (case k2 => (refine' nw_mk ?za ?zb ?zc ?zd; (case za => k_mem); (case zb => k_ne); (case zc => k_ne); (case zd => (refine' fresh_sub ?f ?s; (case f => with_reducible assumption); (case s => (intro p9 h9; kst_mem)))))); (case D1 => assumption); (case D2 => assumption); (case q1 => (refine' nwl_mk ?za ?zb ?zc ?zd; (case za => (intro p9 h9; kst_mem)); (case zb => (refine' lt_all ?L ?m; (case L => with_reducible assumption); (case m => k_mem))); (case zc => (refine' lt_all ?L ?m; (case L => with_reducible assumption); (case m => k_mem))); (case zd => (refine' lt_sub ?L ?s; (case L => with_reducible assumption); (case s => (intro p9 h9; kst_mem)))))); (case q2 => (refine' nwl_mk ?za ?zb ?zc ?zd; (case za => (intro p9 h9; kst_mem)); (case zb => (refine' lt_all ?L ?m; (case L => with_reducible assumption); (case m => k_mem))); (case zc => (refine' lt_all ?L ?m; (case L => with_reducible assumption); (case m => k_mem))); (case zd => (refine' lt_sub ?L ?s; (case L => with_reducible assumption); (case s => (intro p9 h9; kst_mem)))))); (case hy => kernel_rfl))
        · k_steps
          (refine' rt_no (c := ⟨vs0, ws0, ds0, c1, c2, a0, x0, l0, b1, b2, b3, b4, bk, bn, k0, n0⟩) ?F ?N ?htb ?hV ?hok ?e1 ?e2 ?same ?mT ?mD ?mz ?k1 ?k2 ?D1 ?D2 ?q1 ?q2 ?hy; (case F => assumption); (case N => assumption); (case htb => assumption); (case hV => assumption); (case hok => assumption); (case e1 => exact rfl); (case e2 => exact rfl); (case same => (intro z h1 h2 h3 h4; have h5 := h4; simp only [sNames, List.contains_cons, List.contains_nil, Bool.or_false, Bool.or_eq_false_iff, beq_eq_false_iff_ne, ne_eq] at h4; simp only [h1, h2, h3, h4, h5, if_false, Bool.false_eq_true])); (case mT => k_dflt k_mem); (case mD => k_dflt k_mem); (case mz => (intro p9 h9; kst_mem)); (case k1 => (refine' nw_mk ?za ?zb ?zc ?zd; (case za => k_mem); (case zb => k_ne); (case zc => k_ne); (case zd => (refine' fresh_sub ?f ?s; (case f => with_reducible assumption); (case s => (intro p9 h9; kst_mem)))))); (case k2 => (refine' nw_mk ?za ?zb ?zc ?zd; (case za => k_mem); (case zb => k_ne); (case zc => k_ne); (case zd => (refine' fresh_sub ?f ?s; (case f => with_reducible assumption); (case s => (intro p9 h9; kst_mem)))))); (case D1 => assumption); (case D2 => assumption); (case q1 => (refine' nwl_mk ?za ?zb ?zc ?zd; (case za => (intro p9 h9; kst_mem)); (case zb => (refine' lt_all ?L ?m; (case L => with_reducible assumption); (case m => k_mem))); (case zc => (refine' lt_all ?L ?m; (case L => with_reducible assumption); (case m => k_mem))); (case zd => (refine' lt_sub ?L ?s; (case L => with_reducible assumption); (case s => (intro p9 h9; kst_mem)))))); (case q2 => (refine' nwl_mk ?za ?zb ?zc ?zd; (case za => (intro p9 h9; kst_mem)); (case zb => (refine' lt_all ?L ?m; (case L => with_reducible assumption); (case m => k_mem))); (case zc => (refine' lt_all ?L ?m; (case L => with_reducible assumption); (case m => k_mem))); (case zd => (refine' lt_sub ?L ?s; (case L => with_reducible assumption); (case s => (intro p9 h9; kst_mem)))))); (case hy => kernel_rfl))
        · k_steps
          (refine' rt_no (c := ⟨vs0, ws0, ds0, c1, c2, a0, x0, l0, b1, b2, b3, b4, bk, bn, k0, n0⟩) ?F ?N ?htb ?hV ?hok ?e1 ?e2 ?same ?mT ?mD ?mz ?k1 ?k2 ?D1 ?D2 ?q1 ?q2 ?hy; (case F => assumption); (case N => assumption); (case htb => assumption); (case hV => assumption); (case hok => assumption); (case e1 => exact rfl); (case e2 => exact rfl); (case same => (intro z h1 h2 h3 h4; have h5 := h4; simp only [sNames, List.contains_cons, List.contains_nil, Bool.or_false, Bool.or_eq_false_iff, beq_eq_false_iff_ne, ne_eq] at h4; simp only [h1, h2, h3, h4, h5, if_false, Bool.false_eq_true])); (case mT => k_dflt k_mem); (case mD => k_dflt k_mem); (case mz => (intro p9 h9; kst_mem)); (case k1 => (refine' nw_mk ?za ?zb ?zc ?zd; (case za => k_mem); (case zb => k_ne); (case zc => k_ne); (case zd => (refine' fresh_sub ?f ?s; (case f => with_reducible assumption); (case s => (intro p9 h9; kst_mem)))))); (case k2 => (refine' nw_mk ?za ?zb ?zc ?zd; (case za => k_mem); (case zb => k_ne); (case zc => k_ne); (case zd => (refine' fresh_sub ?f ?s; (case f => with_reducible assumption); (case s => (intro p9 h9; kst_mem)))))); (case D1 => assumption); (case D2 => assumption); (case q1 => (refine' nwl_mk ?za ?zb ?zc ?zd; (case za => (intro p9 h9; kst_mem)); (case zb => (refine' lt_all ?L ?m; (case L => with_reducible assumption); (case m => k_mem))); (case zc => (refine' lt_all ?L ?m; (case L => with_reducible assumption); (case m => k_mem))); (case zd => (refine' lt_sub ?L ?s; (case L => with_reducible assumption); (case s => (intro p9 h9; kst_mem)))))); (case q2 => (refine' nwl_mk ?za ?zb ?zc ?zd; (case za => (intro p9 h9; kst_mem)); (case zb => (refine' lt_all ?L ?m; (case L => with_reducible assumption); (case m => k_mem))); (case zc => (refine' lt_all ?L ?m; (case L => with_reducible assumption); (case m => k_mem))); (case zd => (refine' lt_sub ?L ?s; (case L => with_reducible assumption); (case s => (intro p9 h9; kst_mem)))))); (case hy => kernel_rfl))
        · have hW := (ok_valid hq1 hq3).2
          k_steps
          (refine' rt_yes (c := ⟨vs0, ws0, ds0, c1, c2, a0, x0, l0, b1, b2, b3, b4, bk, bn, k0, n0⟩) ?F ?N ?htb ?hV ?hW ?hok ?e1 ?e2 ?same ?mT ?mD ?mz ?k1 ?k2 ?k3 ?k4 ?k5 ?k6 ?k7 ?D1 ?D2 ?D3 ?D4 ?q1 ?q2 ?q3 ?q4 ?hy; (case F => assumption); (case N => assumption); (case htb => assumption); (case hV => assumption); (case hW => assumption); (case hok => assumption); (case e1 => exact rfl); (case e2 => exact rfl); (case same => (intro z h1 h2 h3 h4; have h5 := h4; simp only [sNames, List.contains_cons, List.contains_nil, Bool.or_false, Bool.or_eq_false_iff, beq_eq_false_iff_ne, ne_eq] at h4; simp only [h1, h2, h3, h4, h5, if_false, Bool.false_eq_true])); (case mT => k_dflt k_mem); (case mD => k_dflt k_mem); (case mz => (intro p9 h9; kst_mem)); (case k1 => (refine' nw_mk ?za ?zb ?zc ?zd; (case za => k_mem); (case zb => k_ne); (case zc => k_ne); (case zd => (refine' fresh_sub ?f ?s; (case f => with_reducible assumption); (case s => (intro p9 h9; kst_mem)))))); (case k2 => (refine' nw_mk ?za ?zb ?zc ?zd; (case za => k_mem); (case zb => k_ne); (case zc => k_ne); (case zd => (refine' fresh_sub ?f ?s; (case f => with_reducible assumption); (case s => (intro p9 h9; kst_mem)))))); (case k3 => (refine' nw_mk ?za ?zb ?zc ?zd; (case za => k_mem); (case zb => k_ne); (case zc => k_ne); (case zd => (refine' fresh_sub ?f ?s; (case f => with_reducible assumption); (case s => (intro p9 h9; kst_mem)))))); (case k4 => (refine' nw_mk ?za ?zb ?zc ?zd; (case za => k_mem); (case zb => k_ne); (case zc => k_ne); (case zd => (refine' fresh_sub ?f ?s; (case f => with_reducible assumption); (case s => (intro p9 h9; kst_mem)))))); (case k5 => (refine' nw_mk ?za ?zb ?zc ?zd; (case za => k_mem); (case zb => k_ne); (case zc => k_ne); (case zd => (refine' fresh_sub ?f ?s; (case f => with_reducible assumption); (case s => (intro p9 h9; kst_mem)))))); (case k6 => (refine' nw_mk ?za ?zb ?zc ?zd; (case za => k_mem); (case zb => k_ne); (case zc => k_ne); (case zd => (refine' fresh_sub ?f ?s; (case f => with_reducible assumption); (case s => (intro p9 h9; kst_mem)))))); (case k7 => (refine' nw_mk ?za ?zb ?zc ?zd; (case za => k_mem); (case zb => k_ne); (case zc => k_ne); (case zd => (refine' fresh_sub ?f ?s; (case f => with_reducible assumption); (case s => (intro p9 h9; kst_mem)))))); (case D1 => assumption); (case D2 => assumption); (case D3 => assumption); (case D4 => assumption); (case q1 => (refine' nwl_mk ?za ?zb ?zc ?zd; (case za => (intro p9 h9; kst_mem)); (case zb => (refine' lt_all ?L ?m; (case L => with_reducible assumption); (case m => k_mem))); (case zc => (refine' lt_all ?L ?m; (case L => with_reducible assumption); (case m => k_mem))); (case zd => (refine' lt_sub ?L ?s; (case L => with_reducible assumption); (case s => (intro p9 h9; kst_mem)))))); (case q2 => (refine' nwl_mk ?za ?zb ?zc ?zd; (case za => (intro p9 h9; kst_mem)); (case zb => (refine' lt_all ?L ?m; (case L => with_reducible assumption); (case m => k_mem))); (case zc => (refine' lt_all ?L ?m; (case L => with_reducible assumption); (case m => k_mem))); (case zd => (refine' lt_sub ?L ?s; (case L => with_reducible assumption); (case s => (intro p9 h9; kst_mem)))))); (case q3 => (refine' nwl_mk ?za ?zb ?zc ?zd; (case za => (intro p9 h9; kst_mem)); (case zb => (refine' lt_all ?L ?m; (case L => with_reducible assumption); (case m => k_mem))); (case zc => (refine' lt_all ?L ?m; (case L => with_reducible assumption); (case m => k_mem))); (case zd => (refine' lt_sub ?L ?s; (case L => with_reducible assumption); (case s => (intro p9 h9; kst_mem)))))); (case q4 => (refine' nwl_mk ?za ?zb ?zc ?zd; (case za => (intro p9 h9; kst_mem)); (case zb => (refine' lt_all ?L ?m; (case L => with_reducible assumption); (case m => k_mem))); (case zc => (refine' lt_all ?L ?m; (case L => with_reducible assumption); (case m => k_mem))); (case zd => (refine' lt_sub ?L ?s; (case L => with_reducible assumption); (case s => (intro p9 h9; kst_mem)))))); (case hy => kernel_rfl))
      · clear F' N' hI' hC' hL' l1 hi hf hp oT
        rintro ⟨vs0, ws0, ds0, c1, c2, a0, x0, l0, b1, b2, b3, b4, bk, bn, k0, n0⟩ tz u h tk8 hd1 hd2 hok F N
        dsimp only at hd1 hd2 hok F N
        dsimp only
        k_steps)
end
end Mine
theorem PySem.Challenge.cw_fe0332_01_holds : PySem.Challenge.rw_fe0332_01.Holds :=
  Mine.law_holds
