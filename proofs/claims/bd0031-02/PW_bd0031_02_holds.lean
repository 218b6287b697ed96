import PyProof.Rows.All
import Wide.All
import OpenK.AllK
import Wide.FinOn
import PySem.Challenge.RW_bd0031_02
section
set_option linter.unusedVariables false
set_option Elab.async false
namespace Mine
noncomputable def place {α : Type} (lt : α → Bool) : List α → Nat
  | [] => 0
  | x :: r => match place lt r with
    | 0 => if lt x then 0 else 1
    | n + 1 => n + 2
theorem place_le {α : Type} (lt : α → Bool) : ∀ l, place lt l ≤ l.length
  | [] => Nat.le_refl _
  | x :: r => by
    have := place_le lt r
    unfold place
    split <;> rename_i h <;> rw [h] at this <;> simp only [List.length_cons]
    · split <;> omega
    · omega
theorem place_snoc {α : Type} (lt : α → Bool) (y : α) : ∀ l, place lt (l ++ [y]) = if lt y then place lt l else l.length + 1
  | [] => by simp [place]
  | x :: r => by
    rw [List.cons_append]
    unfold place
    rw [place_snoc lt y r]
    cases lt y with
    | true => simp
    | false => simp
noncomputable def klt (a b : Int × Int) : Bool := decide (a.1 < b.1 ∨ (a.1 = b.1 ∧ a.2 < b.2))
noncomputable def put (p : Nat) {α : Type} (x : α) (l : List α) : List α := l.take p ++ x :: l.drop p
noncomputable def ins (e : Int × Int) (q : List (Int × Int)) : List (Int × Int) := put (place (klt e) q) e q
structure Nd where
  wt : Int
  kids : List Int
  par : Option Int
  q : List (Int × Int)
  act : Bool
  lw : Int
  df : Int
noncomputable abbrev Mo := Int → Option Nd
noncomputable def Mo.put (M : Mo) (i : Int) (n : Nd) : Mo := fun j => if j = i then some n else M j
theorem Mo.put_self (M : Mo) (i : Int) (n : Nd) : M.put i n i = some n := if_pos rfl
theorem Mo.put_ne {M : Mo} {i j : Int} {n : Nd} (h : j ≠ i) : M.put i n j = M j := if_neg h
theorem Mo.put_put (M : Mo) (i : Int) (n m : Nd) : (M.put i n).put i m = M.put i m := by
  funext j; simp only [Mo.put]; split <;> rfl
noncomputable def fstep (i : Int) (M : Mo) (e : Int × Int) : Mo :=
  match M i, M e.2 with
  | some d, some n => (M.put e.2 { n with df := (256 + n.df) % n.wt }).put i { d with lw := e.1, q := ins (e.1 + (256 + n.df) / n.wt, e.2) d.q }
  | _, _ => M
noncomputable def fin (i : Int) (pp : List (Int × Int)) (M : Mo) : Mo := pp.foldl (fstep i) M
noncomputable def goL (f : Mo → Int → Option Int × Mo) (i : Int) : List (Int × Int) → Mo → List (Int × Int) → Option Int × Mo × List (Int × Int)
  | [], M, pp => (none, M, pp)
  | e :: r, M, pp =>
    match M i, M e.2 with
    | some d, some n =>
      let M1 := M.put i { d with q := r }
      if n.act then (some e.2, M1, pp ++ [e])
      else match f M1 e.2 with
        | (some x, M2) => (some x, M2, pp ++ [e])
        | (none, M2) => goL f i r M2 (pp ++ [e])
    | _, _ => (none, M, pp)
noncomputable def sched : Nat → Mo → Int → Option Int × Mo
  | 0, M, _ => (none, M)
  | n + 1, M, i =>
    let z := goL (sched n) i (((M i).map (·.q)).getD []) M []
    (z.1, fin i z.2.2 z.2.1)
structure OkM (rk : Int → Nat) (M : Mo) : Prop where
  ok : ∀ i n, M i = some n → 1 ≤ n.wt ∧ n.wt ≤ 256 ∧ 0 ≤ n.df ∧ n.df < 256 ∧ n.q.length ≤ 1000 ∧ ∀ e ∈ n.q, (∃ m, M e.2 = some m) ∧ rk e.2 < rk i
structure Like (M M' : Mo) : Prop where
  fw : ∀ i n, M i = some n → ∃ n', M' i = some n' ∧ n'.wt = n.wt ∧ n'.kids = n.kids ∧ n'.par = n.par ∧ n'.act = n.act
  bw : ∀ i n, M' i = some n → ∃ n', M i = some n'
theorem Like.refl (M : Mo) : Like M M := ⟨fun i n h => ⟨n, h, rfl, rfl, rfl, rfl⟩, fun i n h => ⟨n, h⟩⟩
theorem Like.trans {M M' M'' : Mo} (a : Like M M') (b : Like M' M'') : Like M M'' :=
  ⟨fun i n h => by
    obtain ⟨n1, h1, a1, a2, a3, a4⟩ := a.fw i n h
    obtain ⟨n2, h2, b1, b2, b3, b4⟩ := b.fw i n1 h1
    exact ⟨n2, h2, b1.trans a1, b2.trans a2, b3.trans a3, b4.trans a4⟩, fun i n h => by
    obtain ⟨n1, h1⟩ := b.bw i n h
    exact a.bw i n1 h1⟩
theorem Like.put {M : Mo} {i : Int} {n n' : Nd} (h : M i = some n) (w : n'.wt = n.wt) (k : n'.kids = n.kids) (p : n'.par = n.par) (a : n'.act = n.act) : Like M (M.put i n') :=
  ⟨fun j m hj => by
    by_cases q : j = i
    · subst q; rw [h] at hj; cases hj; exact ⟨n', Mo.put_self .., w, k, p, a⟩
    · exact ⟨m, (Mo.put_ne q).trans hj, rfl, rfl, rfl, rfl⟩, fun j m hj => by
    by_cases q : j = i
    · subst q; exact ⟨n, h⟩
    · rw [Mo.put_ne q] at hj; exact ⟨m, hj⟩⟩
end Mine
end
section
set_option linter.unusedVariables false
set_option Elab.async false
namespace Mine
section
variable {rk : Int → Nat} {M M' : Mo} {i : Int} {d n : Nd} {e : Int × Int} {r pp : List (Int × Int)}
theorem put_length {α : Type} (p : Nat) (x : α) (l : List α) : (put p x l).length = l.length + 1 := by
  unfold put
  simp only [List.length_append, List.length_take, List.length_cons, List.length_drop]; omega
theorem mem_put {α : Type} {p : Nat} {x y : α} {l : List α} : y ∈ put p x l ↔ y = x ∨ y ∈ l := by
  unfold put
  have : y ∈ l ↔ y ∈ l.take p ∨ y ∈ l.drop p := by
    conv => lhs; rw [← List.take_append_drop p l]
    exact List.mem_append
  simp only [List.mem_append, List.mem_cons, this]
  constructor
  · rintro (h | rfl | h)
    · exact .inr (.inl h)
    · exact .inl rfl
    · exact .inr (.inr h)
  · rintro (rfl | h | h)
    · exact .inr (.inl rfl)
    · exact .inl h
    · exact .inr (.inr h)
theorem ins_length (e : Int × Int) (q : List (Int × Int)) : (ins e q).length = q.length + 1 := put_length ..
theorem mem_ins {e x : Int × Int} {q : List (Int × Int)} : x ∈ ins e q ↔ x = e ∨ x ∈ q := mem_put
theorem OkM.put (o : OkM rk M) (h : 1 ≤ n.wt ∧ n.wt ≤ 256 ∧ 0 ≤ n.df ∧ n.df < 256 ∧ n.q.length ≤ 1000 ∧ ∀ e ∈ n.q, (∃ m, M e.2 = some m) ∧ rk e.2 < rk i) : OkM rk (M.put i n) := by
  have ex : ∀ j, (∃ m, M j = some m) → ∃ m, M.put i n j = some m := fun j ⟨m, hm⟩ => by
    by_cases q : j = i
    · subst q; exact ⟨n, Mo.put_self ..⟩
    · exact ⟨m, (Mo.put_ne q).trans hm⟩
  refine ⟨fun j m hj => ?_⟩
  by_cases q : j = i
  · subst q; rw [Mo.put_self] at hj; cases hj
    obtain ⟨a, b, c, d, e, f⟩ := h
    exact ⟨a, b, c, d, e, fun x hx => ⟨ex _ (f x hx).1, (f x hx).2⟩⟩
  · rw [Mo.put_ne q] at hj
    obtain ⟨a, b, c, d, e, f⟩ := o.ok j m hj
    exact ⟨a, b, c, d, e, fun x hx => ⟨ex _ (f x hx).1, (f x hx).2⟩⟩
theorem OkM.pop (o : OkM rk M) (h : M i = some d) (hq : d.q = e :: r) : OkM rk (M.put i { d with q := r }) := by
  obtain ⟨a, b, c, dd, l, f⟩ := o.ok i d h
  rw [hq] at l f
  refine o.put ⟨a, b, c, dd, ?_, fun x hx => f x (.tail _ hx)⟩
  simp only [List.length_cons] at l ⊢; omega
structure Res (rk : Int → Nat) (i : Int) (M M' : Mo) : Prop where
  ok : OkM rk M'
  like : Like M M'
  far : ∀ j, rk i < rk j → M' j = M j
theorem Res.refl (o : OkM rk M) : Res rk i M M := ⟨o, Like.refl M, fun _ _ => rfl⟩
theorem Res.trans {M M' M'' : Mo} (a : Res rk i M M') (b : Res rk i M' M'') : Res rk i M M'' := ⟨b.ok, a.like.trans b.like, fun j h => (b.far j h).trans (a.far j h)⟩
theorem Res.up {i' : Int} (a : Res rk i' M M') (h : rk i' ≤ rk i) : Res rk i M M' := ⟨a.ok, a.like, fun j q => a.far j (by omega)⟩
theorem Res.pop (o : OkM rk M) (h : M i = some d) (hq : d.q = e :: r) : Res rk i M (M.put i { d with q := r }) :=
  ⟨o.pop h hq, Like.put h rfl rfl rfl rfl, fun j q => Mo.put_ne fun z => by rw [z] at q; omega⟩
theorem fstep_eq (hi : M i = some d) (he : M e.2 = some n) :
    fstep i M e = (M.put e.2 { n with df := (256 + n.df) % n.wt }).put i { d with lw := e.1, q := ins (e.1 + (256 + n.df) / n.wt, e.2) d.q } := by
  unfold fstep; rw [hi, he]
theorem Res.fstep (o : OkM rk M) (hi : M i = some d) (he : M e.2 = some n) (hr : rk e.2 < rk i) (hz : d.q.length + 1 ≤ 1000) : Res rk i M (fstep i M e) := by
  rw [fstep_eq hi he]
  have hne : i ≠ e.2 := fun z => by rw [← z] at hr; omega
  obtain ⟨a, b, c, dd, l, f⟩ := o.ok _ n he
  have o1 : OkM rk (M.put e.2 { n with df := (256 + n.df) % n.wt }) := o.put ⟨a, b, Int.emod_nonneg _ (by omega), Int.lt_of_lt_of_le (Int.emod_lt_of_pos _ (by omega)) b, l, f⟩
  have hi1 : (M.put e.2 { n with df := (256 + n.df) % n.wt }) i = some d := (Mo.put_ne hne).trans hi
  obtain ⟨a2, b2, c2, dd2, l2, f2⟩ := o1.ok i d hi1
  refine ⟨o1.put ⟨a2, b2, c2, dd2, by rw [ins_length]; omega, fun x hx => ?_⟩, (Like.put he (by rfl) (by rfl) (by rfl) (by rfl)).trans (Like.put hi1 (by rfl) (by rfl) (by rfl) (by rfl)), fun j q => ?_⟩
  · rcases mem_ins.mp hx with rfl | hx
    · exact ⟨⟨_, Mo.put_self ..⟩, hr⟩
    · exact f2 x hx
  · rw [Mo.put_ne (fun z => by rw [z] at q; omega), Mo.put_ne (fun z => by rw [z] at q; omega)]
theorem fstep_self (hi : M i = some d) (he : M e.2 = some n) : ∃ d', fstep i M e i = some d' ∧ d'.q.length = d.q.length + 1 := by
  rw [fstep_eq hi he]; exact ⟨_, Mo.put_self .., ins_length ..⟩
theorem Res.fin : ∀ (pp : List (Int × Int)) {M : Mo} {d : Nd} (o : OkM rk M) (hi : M i = some d) (hp : ∀ e ∈ pp, (∃ m, M e.2 = some m) ∧ rk e.2 < rk i) (hz : d.q.length + pp.length ≤ 1000), Res rk i M (fin i pp M)
  | [], M, d, o, hi, hp, hz => Res.refl o
  | e :: pp, M, d, o, hi, hp, hz => by
    obtain ⟨⟨n, hn⟩, hr⟩ := hp e (.head _)
    simp only [List.length_cons] at hz
    have R := Res.fstep o hi hn hr (by omega)
    obtain ⟨d', hd', hl⟩ := fstep_self hi hn
    exact R.trans (Res.fin pp R.ok hd' (fun x hx => ⟨(hp x (.tail _ hx)).1.elim fun m hm => (R.like.fw _ m hm).elim fun m' h => ⟨m', h.1⟩, (hp x (.tail _ hx)).2⟩) (by omega))
theorem goL_nil {f : Mo → Int → Option Int × Mo} : goL f i [] M pp = (none, M, pp) := rfl
theorem goL_act {f : Mo → Int → Option Int × Mo} (hi : M i = some d) (he : M e.2 = some n) (ha : n.act = true) : goL f i (e :: r) M pp = (some e.2, M.put i { d with q := r }, pp ++ [e]) := by
  simp only [goL, hi, he, ha, if_true]
theorem goL_some {f : Mo → Int → Option Int × Mo} {x : Int} (hi : M i = some d) (he : M e.2 = some n) (ha : n.act = false) (hf : f (M.put i { d with q := r }) e.2 = (some x, M')) : goL f i (e :: r) M pp = (some x, M', pp ++ [e]) := by
  simp only [goL, hi, he, ha, hf]; rfl
theorem goL_none {f : Mo → Int → Option Int × Mo} (hi : M i = some d) (he : M e.2 = some n) (ha : n.act = false) (hf : f (M.put i { d with q := r }) e.2 = (none, M')) : goL f i (e :: r) M pp = goL f i r M' (pp ++ [e]) := by
  simp only [goL, hi, he, ha, hf]; rfl
theorem sched_eq (f : Nat) (hi : M i = some d) {x : Option Int} {pp' : List (Int × Int)} (h : goL (sched f) i d.q M [] = (x, M', pp')) : sched (f + 1) M i = (x, fin i pp' M') := by
  simp only [sched, hi, Option.map_some, Option.getD_some, h]
theorem Res.goL {f : Mo → Int → Option Int × Mo} (hf : ∀ M ch, OkM rk M → (∃ m, M ch = some m) → rk ch < rk i → Res rk ch M (f M ch).2) :
    ∀ (r : List (Int × Int)) {M : Mo} {d : Nd} {pp : List (Int × Int)} (o : OkM rk M) (hi : M i = some d) (hq : d.q = r), Res rk i M (goL f i r M pp).2.1 ∧
      (∃ d', (goL f i r M pp).2.1 i = some d' ∧ d'.q.length + (goL f i r M pp).2.2.length = r.length + pp.length) ∧ ∀ e ∈ (goL f i r M pp).2.2, e ∈ pp ∨ e ∈ r
  | [], M, d, pp, o, hi, hq => ⟨Res.refl o, ⟨d, hi, by show d.q.length + pp.length = _; rw [hq]⟩, fun e he => .inl he⟩
  | e :: r, M, d, pp, o, hi, hq => by
    obtain ⟨a, b, c, dd, l, fo⟩ := o.ok i d hi
    obtain ⟨⟨n, hn⟩, hr⟩ := fo e (by rw [hq]; exact .head _)
    have R := Res.pop o hi hq
    have hne : e.2 ≠ i := fun z => by rw [z] at hr; omega
    have h1 : (M.put i { d with q := r }) i = some { d with q := r } := Mo.put_self ..
    cases ha : n.act with
    | true =>
      rw [goL_act hi hn ha]
      exact ⟨R, ⟨_, h1, by simp; omega⟩, fun x hx => by
        rcases List.mem_append.mp hx with hx | hx
        · exact .inl hx
        · cases List.mem_singleton.mp hx; exact .inr (.head _)⟩
    | false =>
      have F := hf (M.put i { d with q := r }) e.2 R.ok ⟨n, (Mo.put_ne hne).trans hn⟩ hr
      cases q : f (M.put i { d with q := r }) e.2 with
      | mk x M2 =>
        rw [q] at F
        have h2 : M2 i = some { d with q := r } := (F.far i hr).trans h1
        have RF := R.trans (F.up (Nat.le_of_lt hr))
        cases x with
        | some x =>
          rw [goL_some hi hn ha q]
          exact ⟨RF, ⟨_, h2, by simp; omega⟩, fun x hx => by
            rcases List.mem_append.mp hx with hx | hx
            · exact .inl hx
            · cases List.mem_singleton.mp hx; exact .inr (.head _)⟩
        | none =>
          rw [goL_none hi hn ha q]
          obtain ⟨I, ⟨d', hd', hl⟩, hm⟩ := Res.goL hf r (pp := pp ++ [e]) F.ok h2 rfl
          refine ⟨RF.trans I, ⟨d', hd', by rw [hl]; simp; omega⟩, fun x hx => ?_⟩
          rcases hm x hx with hx | hx
          · rcases List.mem_append.mp hx with hx | hx
            · exact .inl hx
            · cases List.mem_singleton.mp hx; exact .inr (.head _)
          · exact .inr (.tail _ hx)
theorem Res.sched : ∀ (n : Nat) {M : Mo} {i : Int} (o : OkM rk M) (hi : ∃ m, M i = some m) (hr : rk i < n), Res rk i M (sched n M i).2
  | 0, _, _, _, _, hr => by omega
  | n + 1, M, i, o, ⟨d, hi⟩, hr => by
    obtain ⟨R, ⟨d', hd', hl⟩, hm⟩ := Res.goL (f := Mine.sched n) (fun M ch o h hc => Res.sched n o h (by omega)) d.q (pp := []) o hi rfl
    rw [sched_eq n hi rfl]
    obtain ⟨a, b, c, dd, l, fo⟩ := o.ok i d hi
    refine R.trans (Res.fin _ R.ok hd' (fun e he => ?_) (by rw [hl]; simpa using l))
    rcases hm e he with h | h
    · cases h
    · exact ⟨(fo e h).1.elim fun m hm => (R.like.fw _ m hm).elim fun m' h => ⟨m', h.1⟩, (fo e h).2⟩
end
end Mine
end
section
set_option linter.unusedVariables false
set_option Elab.async false
namespace Mine
noncomputable def newNd (w : Int) : Nd := ⟨w, [], none, [], true, 0, 0⟩
noncomputable def adopt (M : Mo) (i j : Int) : Mo :=
  match M i, M j with
  | some d, some n => (M.put j { n with par := some i }).put i { d with kids := d.kids ++ [j], q := ins (d.lw, j) d.q }
  | _, _ => M
noncomputable def actv (M : Mo) (i : Int) (b : Bool) : Mo :=
  match M i with
  | some n => M.put i { n with act := b }
  | none => M
structure Clo (M : Mo) : Prop where
  kids : ∀ i n, M i = some n → ∀ k ∈ n.kids, ∃ m, M k = some m
  par : ∀ i n p, M i = some n → n.par = some p → ∃ m, M p = some m
section
variable {rk : Int → Nat} {M : Mo} {i j : Int} {d n : Nd}
theorem adopt_eq (hi : M i = some d) (hj : M j = some n) : adopt M i j = (M.put j { n with par := some i }).put i { d with kids := d.kids ++ [j], q := ins (d.lw, j) d.q } := by
  unfold adopt; rw [hi, hj]
theorem actv_eq (hi : M i = some n) {b : Bool} : actv M i b = M.put i { n with act := b } := by unfold actv; rw [hi]
theorem put_ex {k : Int} {m : Nd} (h : ∃ n, M k = some n) : ∃ n, M.put i m k = some n := by
  by_cases q : k = i
  · subst q; exact ⟨m, Mo.put_self ..⟩
  · obtain ⟨n, hn⟩ := h; exact ⟨n, (Mo.put_ne q).trans hn⟩
end
end Mine
end
section
open PySem PySem.W PyProof.Rows
set_option Elab.async false
namespace Mine
noncomputable def er : Value → Value
  | .int i _ => .int i 0
  | .str s _ => .str s 0
  | .float b _ => .float b 0
  | .bytes b _ => .bytes b 0
  | v => v
theorem er_int {v : Value} {i : Int} (h : er v = .int i 0) : ∃ t, v = .int i t := by
  cases v <;> simp [er] at h <;> (subst h; exact ⟨_, rfl⟩)
theorem er_ref {v : Value} {a : Addr} (h : er v = .ref a) : v = .ref a := by
  cases v <;> simp [er] at h <;> (subst h; rfl)
theorem er_bool {v : Value} {b : Bool} (h : er v = .bool b) : v = .bool b := by
  cases v <;> simp [er] at h <;> (subst h; rfl)
theorem er_none {v : Value} (h : er v = .none) : v = .none := by
  cases v <;> simp [er] at h <;> rfl
inductive AO where
  | list (xs : List Value)
  | tup (xs : List Value)
  | ns (l : List (Str × Value))
  | cell (v : Option Value)
  | inst (C : Addr) (fs : List (Str × Value))
  | imap (kvs : List (Int × Value))
  | exc (cls : Value) (tb ctx : Option Nat)
  | iter (l : Nat) (i : Nat)
  | titer (l : Nat) (i : Nat)
  | tb
  | raw (o : Obj)
noncomputable abbrev AH := Nat → Option AO
noncomputable def upd (H : AH) (a : Nat) (o : AO) : AH := fun b => if b = a then some o else H b
theorem upd_self (H : AH) (a : Nat) (o : AO) : upd H a o a = some o := if_pos rfl
theorem upd_ne {H : AH} {a b : Nat} {o : AO} (h : b ≠ a) : upd H a o b = H b := if_neg h
theorem upd_upd (H : AH) (a : Nat) (o o' : AO) : upd (upd H a o) a o' = upd H a o' := by
  funext b; simp only [upd]; split <;> rfl
theorem upd_comm {H : AH} {a b : Nat} {o o' : AO} (h : a ≠ b) : upd (upd H a o) b o' = upd (upd H b o') a o := by
  funext c; simp only [upd]; split <;> split <;> simp_all
noncomputable def IP : List DictEntry → List (Int × Value) → Prop
  | [], [] => True
  | e :: es, p :: ps => (∃ t, e.key = .int p.1 t) ∧ e.hash = hashInt p.1 ∧ e.val = p.2 ∧ IP es ps
  | _, _ => False
noncomputable def KeysAre (es : List DictEntry) (kvs : List (Int × Value)) : Prop :=
  ∃ vs, IP es vs ∧ (vs.map (·.1)).Nodup ∧ (vs.map fun p => (p.1, er p.2)) = kvs
noncomputable def gv (x : Str) (es : List DictEntry) : Option Value := (es.find? (·.key.isStr x)).map (·.val)
noncomputable def Real (h : Heap) (a : Nat) : AO → Prop
  | .list xs => ∃ vs n, h.get? a = some { cls := .type "list", data := .seq vs n } ∧ vs.toList.map er = xs
  | .tup xs => ∃ vs n, h.get? a = some { cls := .type "tuple", data := .seq vs n } ∧ vs.toList.map er = xs
  | .ns l => ∃ m, h.Ns a m ∧ ∀ x v, l.lookup x = some v → (m x).map er = some v
  | .cell v => ∃ o v', h.get? a = some o ∧ o.data = .cell v' ∧ v'.map er = v
  | .inst C fs => 1 ≤ a ∧ h.get? a = some (instObj C (a - 1)) ∧ ∃ es n, h.get? (a - 1) = some (dictOf es n) ∧ es.length ≤ fs.length ∧
      (∀ e ∈ es, e.refKey = false) ∧ ∀ x, (gv x es).map er = fs.lookup x
  | .imap kvs => ∃ es n, h.get? a = some (dictOf es n) ∧ KeysAre es kvs
  | .exc cls tb ctx => ∃ o vs, h.get? a = some o ∧ o.cls = cls ∧ o.data = .fields vs ∧ vs[1]? = some (tb.elim .none .ref) ∧ vs[2]? = some (ctx.elim .none .ref)
  | .iter l i => h.IsListIter a l i
  | .titer l i => ∃ o, h.get? a = some o ∧ o.cls = .type "tuple_iterator" ∧ o.data = .fields #[.ref l, .int i 0]
  | .tb => ∃ o ts, h.get? a = some o ∧ o.data = .fields ts ∧ 3 < ts.size
  | .raw o => h.get? a = some o
noncomputable def AO.isInst : AO → Bool
  | .inst .. => true
  | _ => false
noncomputable def AO.isNs : AO → Bool
  | .ns _ => true
  | _ => false
noncomputable def AO.isBig : AO → Bool
  | .ns _ => true
  | .imap _ => true
  | _ => false
noncomputable def AO.at (o : AO) (a b : Nat) : Prop := b = a ∨ (o.isInst = true ∧ b = a - 1)
theorem Real.keep {h h' : Heap} {a : Nat} {o : AO} (r : Real h a o) (k : ∀ b, o.at a b → ∀ x, h.get? b = some x → h'.get? b = some x) : Real h' a o := by
  cases o with
  | list xs => obtain ⟨vs, n, e, r⟩ := r; exact ⟨vs, n, k a (.inl rfl) _ e, r⟩
  | tup xs => obtain ⟨vs, n, e, r⟩ := r; exact ⟨vs, n, k a (.inl rfl) _ e, r⟩
  | ns l => obtain ⟨m, ⟨o, es, ep, ho, r1⟩, r⟩ := r; exact ⟨m, ⟨o, es, ep, k a (.inl rfl) _ ho, r1⟩, r⟩
  | cell v => obtain ⟨o, v', e, r⟩ := r; exact ⟨o, v', k a (.inl rfl) _ e, r⟩
  | inst C fs => obtain ⟨h1, e1, es, n, e2, r⟩ := r; exact ⟨h1, k a (.inl rfl) _ e1, es, n, k _ (.inr ⟨rfl, rfl⟩) _ e2, r⟩
  | imap kvs => obtain ⟨es, n, e, r⟩ := r; exact ⟨es, n, k a (.inl rfl) _ e, r⟩
  | iter l i => obtain ⟨o, e, r⟩ := r; exact ⟨o, k a (.inl rfl) _ e, r⟩
  | titer l i => obtain ⟨o, e, r⟩ := r; exact ⟨o, k a (.inl rfl) _ e, r⟩
  | exc cls tb ctx => obtain ⟨o, vs, e, r⟩ := r; exact ⟨o, vs, k a (.inl rfl) _ e, r⟩
  | tb => obtain ⟨o, ts, e, r⟩ := r; exact ⟨o, ts, k a (.inl rfl) _ e, r⟩
  | raw o => exact k a (.inl rfl) _ r
theorem Real.lt {h : Heap} {a : Nat} {o : AO} (r : Real h a o) : a < h.objs.size := by
  cases o with
  | list xs => obtain ⟨vs, n, e, r⟩ := r; exact Heap.lt_size e
  | tup xs => obtain ⟨vs, n, e, r⟩ := r; exact Heap.lt_size e
  | ns l => obtain ⟨m, r, _⟩ := r; exact r.lt
  | cell v => obtain ⟨o, v', e, r⟩ := r; exact Heap.lt_size e
  | inst C fs => obtain ⟨h1, e1, r⟩ := r; exact Heap.lt_size e1
  | imap kvs => obtain ⟨es, n, e, r⟩ := r; exact Heap.lt_size e
  | iter l i => obtain ⟨o, e, r⟩ := r; exact Heap.lt_size e
  | titer l i => obtain ⟨o, e, r⟩ := r; exact Heap.lt_size e
  | exc cls tb ctx => obtain ⟨o, vs, e, r⟩ := r; exact Heap.lt_size e
  | tb => obtain ⟨o, ts, e, r⟩ := r; exact Heap.lt_size e
  | raw o => exact Heap.lt_size r
structure Cx (prog : Program) (w : World) (K : Frag) where
  p : Program
  loose : List Str
  mg : Str → Option Value
  mb : Str → Option Value
  base : Heap
  gens : Array GenState
  drawn : Drawn
  os : OsState
  inK : K.In base
  top : TopRead p loose mg mb base
structure St {prog : Program} {w : World} {K : Frag} (c : Cx prog w K) (envs : List Env) (H : AH) (s : Shared) : Prop where
  base : c.base.StaysIn s.heap
  real : ∀ (a : Nat) o, H a = some o → Real s.heap a o
  low : ∀ (a : Nat) o, H a = some o → c.base.get? a = none ∧ (o.isInst = true → c.base.get? (a - 1) = none) ∧ (o.isBig = true → c.base.objs.size ≤ a)
  excl : ∀ (a : Nat) o, H a = some o → o.isInst = true → H (a - 1) = none
  envs : ∀ env ∈ envs, env.scope.kind ≠ .module ∧ ∃ L l, env.frame = some L ∧ H L = some (.ns l)
  gens : s.gens = c.gens
  drawn : s.drawn = c.drawn
  os : s.os = c.os
  size : c.base.objs.size ≤ s.heap.objs.size
section
variable {prog : Program} {w : World} {K : Frag} {c : Cx prog w K} {envs : List Env} {H : AH} {s : Shared}
theorem St.inK (S : St c envs H s) : K.In s.heap := c.inK.keeps S.base
theorem St.top (S : St c envs H s) : TopRead c.p c.loose c.mg c.mb s.heap := c.top.keeps S.base
theorem St.tok (S : St c envs H s) (t : Nat) : St c envs H { s with toks := t } :=
  ⟨S.base, S.real, S.low, S.excl, S.envs, S.gens, S.drawn, S.os, S.size⟩
theorem St.fresh (S : St c envs H s) {a : Nat} (h : s.heap.objs.size ≤ a) : H a = none := by
  cases e : H a with
  | none => rfl
  | some o => exact absurd (S.real a o e).lt (Nat.not_lt.mpr h)
theorem St.weak {H' : AH} {envs' : List Env} (S : St c envs H s) (h : ∀ (a : Nat) o, H' a = some o → H a = some o) (he : ∀ env ∈ envs', env ∈ envs ∧ ∀ L l, env.frame = some L → H L = some (.ns l) → H' L = some (.ns l)) : St c envs' H' s := by
  refine ⟨S.base, fun a o e => S.real a o (h a o e), fun a o e => S.low a o (h a o e), fun a o e i => ?_, fun env m => ?_, S.gens, S.drawn, S.os, S.size⟩
  · cases q : H' (a - 1) with
    | none => rfl
    | some o' => have := S.excl a o (h a o e) i; rw [h _ _ q] at this; cases this
  · obtain ⟨k, L, l, f, e⟩ := S.envs env (he env m).1
    exact ⟨k, L, l, f, (he env m).2 L l f e⟩
theorem St.set {h' : Heap} {a : Nat} {o o' : AO} {t : Nat} (S : St c envs H s) (e : H a = some o) (hs : Heap.SameBut a s.heap h') (r : Real h' a o')
    (hi : o'.isInst = o.isInst) (hn : o'.isNs = o.isNs) (hb' : o'.isBig = o.isBig := by rfl) : St c envs (upd H a o') { s with heap := h', toks := t } := by
  have lo := S.low a o e
  refine ⟨fun b x q => ?_, fun b x q => ?_, fun b x q => ?_, fun b x q i => ?_, fun env m => ?_, S.gens, S.drawn, S.os, hs.1 ▸ S.size⟩
  · have hb : b ≠ a := fun z => by rw [z, lo.1] at q; cases q
    exact (hs.2 b hb).trans (S.base b x q)
  · by_cases hb : b = a
    · subst hb; rw [upd_self] at q; cases q; exact r
    · rw [upd_ne hb] at q
      refine (S.real b x q).keep fun d hd y hy => ?_
      refine (hs.2 d ?_).trans hy
      rcases hd with rfl | ⟨i, rfl⟩
      · exact hb
      · intro z
        have := S.excl b x q i
        rw [z, e] at this; cases this
  · by_cases hb : b = a
    · subst hb; rw [upd_self] at q; cases q; exact ⟨lo.1, fun i => lo.2.1 (hi ▸ i), fun i => lo.2.2 (hb' ▸ i)⟩
    · rw [upd_ne hb] at q; exact S.low b x q
  · by_cases hb : b = a
    · subst hb; rw [upd_self] at q; cases q
      have z := S.excl b o e (hi ▸ i)
      by_cases hz : b - 1 = b
      · rw [hz] at z; rw [e] at z; cases z
      · rw [upd_ne hz]; exact z
    · rw [upd_ne hb] at q
      have z := S.excl b x q i
      by_cases hz : b - 1 = a
      · rw [hz, e] at z; cases z
      · rw [upd_ne hz]; exact z
  · obtain ⟨k, L, l, f, q⟩ := S.envs env m
    by_cases hL : L = a
    · subst hL
      rw [e] at q; cases q
      cases o' <;> first | exact ⟨k, L, _, f, upd_self ..⟩ | cases hn
    · exact ⟨k, L, l, f, (upd_ne hL).trans q⟩
theorem St.setDict {h' : Heap} {a : Nat} {C : Addr} {fs fs' : List (Str × Value)} {t : Nat} (S : St c envs H s) (e : H a = some (.inst C fs)) (hs : Heap.SameBut (a - 1) s.heap h') (r : Real h' a (.inst C fs')) :
    St c envs (upd H a (.inst C fs')) { s with heap := h', toks := t } := by
  have lo := S.low a _ e
  have ex := S.excl a _ e rfl
  refine ⟨fun b x q => ?_, fun b x q => ?_, fun b x q => ?_, fun b x q i => ?_, fun env m => ?_, S.gens, S.drawn, S.os, hs.1 ▸ S.size⟩
  · have hb : b ≠ a - 1 := fun z => by rw [z, lo.2.1 rfl] at q; cases q
    exact (hs.2 b hb).trans (S.base b x q)
  · by_cases hb : b = a
    · subst hb; rw [upd_self] at q; cases q; exact r
    · rw [upd_ne hb] at q
      refine (S.real b x q).keep fun d hd y hy => ?_
      refine (hs.2 d ?_).trans hy
      rcases hd with rfl | ⟨i, rfl⟩
      · intro z; rw [z, ex] at q; cases q
      · intro z
        have h1 := (S.real b x q)
        have h2 := (S.real a _ e)
        have b1 : 1 ≤ b := by cases x <;> first | exact h1.1 | cases i
        have a1 : 1 ≤ a := h2.1
        exact hb (by have z' : b - 1 = a - 1 := z; omega)
  · by_cases hb : b = a
    · subst hb; rw [upd_self] at q; cases q; exact ⟨lo.1, fun i => lo.2.1 rfl, fun i => by cases i⟩
    · rw [upd_ne hb] at q; exact S.low b x q
  · have key : ∀ d, H d = none → d ≠ a → upd H a (.inst C fs') d = none := fun d z hd => (upd_ne hd).trans z
    by_cases hb : b = a
    · subst hb
      exact key _ ex fun z => by rw [z, e] at ex; cases ex
    · rw [upd_ne hb] at q
      have z := S.excl b x q i
      exact key _ z fun y => by rw [y, e] at z; cases z
  · obtain ⟨k, L, l, f, q⟩ := S.envs env m
    have hL : L ≠ a := fun z => by rw [z, e] at q; cases q
    exact ⟨k, L, l, f, (upd_ne hL).trans q⟩
theorem Real.there {h : Heap} {a : Nat} {o : AO} (r : Real h a o) : h.get? a ≠ none := by
  intro z
  cases o with
  | list xs => obtain ⟨vs, n, e, r⟩ := r; rw [z] at e; cases e
  | tup xs => obtain ⟨vs, n, e, r⟩ := r; rw [z] at e; cases e
  | ns l => obtain ⟨m, ⟨_, _, _, e, _⟩, _⟩ := r; rw [z] at e; cases e
  | cell v => obtain ⟨o, v', e, r⟩ := r; rw [z] at e; cases e
  | inst C fs => obtain ⟨h1, e, r⟩ := r; rw [z] at e; cases e
  | imap kvs => obtain ⟨es, n, e, r⟩ := r; rw [z] at e; cases e
  | iter l i => obtain ⟨o, e, r⟩ := r; rw [z] at e; cases e
  | titer l i => obtain ⟨o, e, r⟩ := r; rw [z] at e; cases e
  | exc cls tb ctx => obtain ⟨o, vs, e, r⟩ := r; rw [z] at e; cases e
  | tb => obtain ⟨o, ts, e, r⟩ := r; rw [z] at e; cases e
  | raw o => have r' : h.get? a = some o := r; rw [z] at r'; cases r'
theorem St.freshG (S : St c envs H s) {a : Nat} (h : s.heap.get? a = none) : H a = none := by
  cases e : H a with
  | none => rfl
  | some o => exact absurd h (S.real a o e).there
theorem St.newG {h' : Heap} {a : Nat} {o : AO} {t : Nat} (S : St c envs H s) (hk : ∀ b x, s.heap.get? b = some x → h'.get? b = some x) (ha : s.heap.get? a = none) (hi : o.isInst = true → s.heap.get? (a - 1) = none) (hns : o.isBig = true → s.heap.objs.size ≤ a)
    (r : Real h' a o) (hz : c.base.objs.size ≤ h'.objs.size) :
    St c envs (upd H a o) { s with heap := h', toks := t } := by
  have nb : ∀ d : Nat, s.heap.get? d = none → c.base.get? d = none := fun d hd => by
    cases z : c.base.get? d with
    | none => rfl
    | some y => have := S.base d y z; rw [hd] at this; cases this
  refine ⟨fun b x q => hk _ _ (S.base b x q), fun b x q => ?_, fun b x q => ?_, fun b x q i => ?_, fun env m => ?_, S.gens, S.drawn, S.os, hz⟩
  · by_cases hb : b = a
    · subst hb; rw [upd_self] at q; cases q; exact r
    · rw [upd_ne hb] at q; exact (S.real b x q).keep fun d _ y hy => hk d y hy
  · by_cases hb' : b = a
    · subst hb'; rw [upd_self] at q; cases q
      exact ⟨nb b ha, fun i => nb _ (hi i), fun i => Nat.le_trans S.size (hns i)⟩
    · rw [upd_ne hb'] at q; exact S.low b x q
  · by_cases hb' : b = a
    · subst hb'; rw [upd_self] at q; cases q
      have z := S.freshG (hi i)
      have h1 : 1 ≤ b := by cases o <;> first | exact r.1 | cases i
      rw [upd_ne (by omega)]; exact z
    · rw [upd_ne hb'] at q
      have z := S.excl b x q i
      have hb2 : b - 1 ≠ a := fun y => by
        have r := S.real b x q
        cases x with
        | inst C fs => obtain ⟨_, _, es, n, hx, _⟩ := r; rw [y, ha] at hx; cases hx
        | _ => cases i
      rw [upd_ne hb2]; exact z
  · obtain ⟨k, L, l, f, q⟩ := S.envs env m
    have hL : L ≠ a := fun z => (S.real L _ q).there (z ▸ ha)
    exact ⟨k, L, l, f, (upd_ne hL).trans q⟩
theorem get_big {h : Heap} {a : Nat} (ha : h.objs.size ≤ a) : h.get? a = none := by
  cases e : h.get? a with
  | none => rfl
  | some o => have : a < h.objs.size := Heap.lt_size e; omega
theorem St.new {h' : Heap} {a : Nat} {o : AO} {t : Nat} (S : St c envs H s) (hk : ∀ b x, s.heap.get? b = some x → h'.get? b = some x) (ha : s.heap.objs.size ≤ a) (hi : o.isInst = true → s.heap.objs.size ≤ a - 1) (r : Real h' a o) (hz : s.heap.objs.size ≤ h'.objs.size) :
    St c envs (upd H a o) { s with heap := h', toks := t } :=
  S.newG hk (get_big ha) (fun i => get_big (hi i)) (fun _ => ha) r (Nat.le_trans S.size hz)
end
end Mine
end
section
open PySem PySem.W PyProof.Rows PySem.Calls
set_option linter.unusedVariables false
set_option Elab.async false
namespace Mine
section
variable {prog : Program} {w : World} {K : Frag} {c : Cx prog w K} {envs : List Env} {H : AH} {A : Around} {E : Value → Shared → Prop} {s : Shared}
theorem hideQ {α : Type} {M : Model} {t : Sem α} {Q : α → Shared → Prop} (h : ∀ QQ : α → Shared → Prop, (∀ v s, Q v s → QQ v s) → wpAny M A t QQ E s) : wpAny M A t Q E s := h Q fun _ _ x => x
theorem hideE {α : Type} {M : Model} {t : Sem α} {Q : α → Shared → Prop} (h : ∀ EE : Value → Shared → Prop, (∀ v s, E v s → EE v s) → wpAny M A t Q EE s) : wpAny M A t Q E s := h E fun _ _ x => x
theorem unhide {α : Type} {Q QQ : α → Shared → Prop} {v : α} (h : ∀ v s, Q v s → QQ v s) (k : Q v s) : QQ v s := h v s k
theorem execs_cons_h {M : Model} {st : Stmt} {rest : List Stmt} {env : Env} {Q : Flow → Shared → Prop} (h : ∀ QQ : Flow → Shared → Prop, (∀ f s', (match f with | .next => wpAny M A (execs rest env) Q E s' | f => Q f s') → QQ f s') → wpAny M A (exec st env) QQ E s) : wpAny M A (execs (st :: rest) env) Q E s :=
  wpAny_execs_cons (h _ fun _ _ x => x)
theorem of_int {i : Int} {P : Value → Prop} (h : ∀ t, P (.int i t)) : ∀ v, er v = .int i 0 → P v := fun v e => by obtain ⟨t, rfl⟩ := er_int e; exact h t
theorem of_ref {a : Addr} {P : Value → Prop} (h : P (.ref a)) : ∀ v, er v = .ref a → P v := fun v e => by rw [er_ref e]; exact h
theorem of_int2 {i : Int} {T : Shared → Prop} {P : Value → Shared → Prop} (h : ∀ t s', T s' → P (.int i t) s') : ∀ v s', er v = .int i 0 → T s' → P v s' := fun v s' e => by obtain ⟨t, rfl⟩ := er_int e; exact h t s'
theorem of_ref2 {a : Addr} {T : Shared → Prop} {P : Value → Shared → Prop} (h : ∀ s', T s' → P (.ref a) s') : ∀ v s', er v = .ref a → T s' → P v s' := fun v s' e => by rw [er_ref e]; exact h s'
theorem of_bool2 {b : Bool} {T : Shared → Prop} {P : Value → Shared → Prop} (h : ∀ s', T s' → P (.bool b) s') : ∀ v s', er v = .bool b → T s' → P v s' := fun v s' e => by rw [er_bool e]; exact h s'
theorem St.get (S : St c envs H s) {a : Nat} {o : AO} (e : H a = some o) : Real s.heap a o := S.real a o e
theorem St.listSet (S : St c envs H s) {q : Nat} {xs xs' : List Value} {vs : Array Value} {n : Nat} {t : Nat} (e : H q = some (.list xs)) (hv : s.heap.get? q = some (listOf vs n)) (f : Array Value → Array Value) (hf : (f vs).toList.map er = xs') :
    St c envs (upd H q (.list xs')) { s with heap := s.heap.update q (Obj.mapSeq f), toks := t } :=
  S.set e (Heap.SameBut.update ..) ⟨_, _, PySem.IsL.update hv f, hf⟩ rfl rfl
theorem list_insert (S : St c envs H s) {q : Nat} {xs : List Value} {i : Int} {u : Tok} {y : Value} {Q : Value → Shared → Prop} (e : H q = some (.list xs)) (h0 : 0 ≤ i) (h1 : i ≤ xs.length) (hz : xs.length ≤ 100000)
    (h : ∀ s', St c envs (upd H q (.list (xs.take i.toNat ++ er y :: xs.drop i.toNat))) s' → Q .none s') : wpAny (model prog w) A (call (.builtin "list.insert") [.ref q, .int i u, y]) Q E s := by
  obtain ⟨vs, n, hv, rfl⟩ := S.get e
  have hl : vs.toList.length = vs.size := by simp
  rw [List.length_map] at h1 hz
  have hf : Builtin.List.listFitsIndex i = true := fitsIndex_of h0 (by omega)
  refine call_meets PySem.F.slot_list_insert ⟨_, hv, rfl⟩ PySem.F.entry_list_insert (PySem.F.args_list_insert_3 _ _ _) (PySem.AutoSeq1.list_insert_list_int_val_1 q _ n i u y (by simp [hf]) (by rw [sizeLine_eq]; omega)) ⟨hv, h _ (S.listSet e hv _ ?_)⟩
  have hk : (if i < 0 then (i + (vs.size : Int)).toNat else min i.toNat vs.size) = i.toNat := by rw [if_neg (by omega)]; omega
  show List.map er ((vs.extract 0 (if i < 0 then (i + (vs.size : Int)).toNat else min i.toNat vs.size)).push y ++ vs.extract (if i < 0 then (i + (vs.size : Int)).toNat else min i.toNat vs.size)).toList = _
  rw [hk]
  have he : (vs.extract 0 i.toNat).push y ++ vs.extract i.toNat = (vs.toList.take i.toNat ++ y :: vs.toList.drop i.toNat).toArray := by
    have := kl_ins_eq vs.toList i.toNat y
    simpa using this
  rw [he]
  simp [List.map_take, List.map_drop]
theorem list_append (S : St c envs H s) {q : Nat} {xs : List Value} {y : Value} {Q : Value → Shared → Prop} (e : H q = some (.list xs)) (hz : xs.length ≤ 100000)
    (h : ∀ s', St c envs (upd H q (.list (xs ++ [er y]))) s' → Q .none s') : wpAny (model prog w) A (call (.builtin "list.append") [.ref q, y]) Q E s := by
  obtain ⟨vs, n, hv, rfl⟩ := S.get e
  rw [List.length_map] at hz
  refine append_at hv (fun h' hs hg => h _ (S.set e hs ⟨_, _, hg, by simp⟩ rfl rfl)) (by
    rw [sizeLine_eq]
    have hl : vs.toList.length = vs.size := by simp
    omega)
theorem list_pop0 (S : St c envs H s) {q : Nat} {x : Value} {xs : List Value} {u : Tok} {Q : Value → Shared → Prop} (e : H q = some (.list (x :: xs))) (hz : xs.length ≤ 100000)
    (h : ∀ v s', er v = x → St c envs (upd H q (.list xs)) s' → Q v s') : wpAny (model prog w) A (call (.builtin "list.pop") [.ref q, .int 0 u]) Q E s := by
  obtain ⟨vs, n, hv, hm⟩ := S.get e
  obtain ⟨l, rfl⟩ : ∃ l : List Value, vs = l.toArray := ⟨vs.toList, by simp⟩
  simp only at hm
  cases l with
  | nil => simp at hm
  | cons y l =>
    simp only [List.map_cons, List.cons.injEq] at hm
    obtain ⟨rfl, rfl⟩ := hm
    rw [List.length_map] at hz
    refine call_meets PySem.F.slot_list_pop ⟨_, hv, rfl⟩ PySem.F.entry_list_pop (PySem.F.args_list_pop_2 _ _) (PySem.MeetsSeq.list_pop_at q _ n 0 u 0 y (by decide +kernel) (by simp [seqIndex?]) (by simp) (by rw [sizeLine_eq]; simp; omega)) ⟨hv, h _ _ rfl (S.listSet e hv _ ?_)⟩
    have := kl_erase [] l y
    simp only [List.nil_append, List.length_nil] at this
    rw [this]
theorem St.tup (S : St c envs H s) {q : Nat} {xs : List Value} (e : H q = some (.tup xs)) : ∃ vs : List Value, IsTup s.heap q vs.toArray ∧ vs.map er = xs := by
  obtain ⟨vs, n, hv, hm⟩ := S.get e
  exact ⟨vs.toList, ⟨_, hv, rfl, n, by simp⟩, hm⟩
theorem St.list (S : St c envs H s) {q : Nat} {xs : List Value} (e : H q = some (.list xs)) : ∃ vs : List Value, s.heap.IsList q vs.toArray ∧ vs.map er = xs := by
  obtain ⟨vs, n, hv, hm⟩ := S.get e
  exact ⟨vs.toList, ⟨_, hv, rfl, n, by simp⟩, hm⟩
theorem map_get {vs : List Value} {xs : List Value} {j : Nat} {x : Value} (h : vs.map er = xs) (hx : xs[j]? = some x) : ∃ y, vs[j]? = some y ∧ er y = x := by
  subst h
  rw [List.getElem?_map] at hx
  exact Option.map_eq_some_iff.mp hx
theorem tup_item (S : St c envs H s) {value slice : PySem.Expr} {q : Nat} {xs : List Value} {k : Int} {u : Tok} {x : Value} {Q : Value → Shared → Prop} (e : H q = some (.tup xs)) (h0 : 0 ≤ k) (hk : k < 2 ^ 62) (hx : xs[k.toNat]? = some x)
    (h : ∀ v, er v = x → Q v s) (hs : subscripted slice false (.ref q) (.int k u) = operate [.ref q, .int k u] (getItem (.ref q) (.int k u)) := by with_unfolding_all rfl) :
    wpAny (model prog w) A (subscriptTail value slice (.ref q) (.int k u)) Q E s := by
  obtain ⟨vs, ht, hm⟩ := S.tup e
  obtain ⟨y, hy, he⟩ := map_get hm hx
  have hl : k.toNat < vs.length := (List.getElem?_eq_some_iff.mp hy).1
  refine item_tupleT ht (by omega) (by omega) (j := k.toNat) ?_ hy (h y he) hs
  exact seqIndex_of h0 (by omega)
theorem list_item (S : St c envs H s) {value slice : PySem.Expr} {q : Nat} {xs : List Value} {k : Int} {u : Tok} {x : Value} {Q : Value → Shared → Prop} (e : H q = some (.list xs)) (h0 : 0 ≤ k) (hk : k < 2 ^ 62) (hx : xs[k.toNat]? = some x)
    (h : ∀ v, er v = x → Q v s) (hs : subscripted slice false (.ref q) (.int k u) = operate [.ref q, .int k u] (getItem (.ref q) (.int k u)) := by with_unfolding_all rfl) :
    wpAny (model prog w) A (subscriptTail value slice (.ref q) (.int k u)) Q E s := by
  obtain ⟨vs, ht, hm⟩ := S.list e
  obtain ⟨y, hy, he⟩ := map_get hm hx
  exact tail_any ht.typeIs slot_list_getitem.lookup (wpAny_getItem_list ht h0 (by omega) (by simpa using hy) (h y he)) hs
theorem len_list (S : St c envs H s) {q : Nat} {xs : List Value} {Q : Value → Shared → Prop} (e : H q = some (.list xs)) (hz : xs.length < 2 ^ 60) (h : ∀ t s', St c envs H s' → Q (.int xs.length t) s') :
    wpAny (model prog w) A (call (.builtin "len") [.ref q]) Q E s := by
  obtain ⟨vs, ht, hm⟩ := S.list e
  have hl : vs.length = xs.length := by rw [← hm, List.length_map]
  refine call_len_list ht (by simp; omega) ?_
  have := h (s.toks + 1) _ (S.tok (s.toks + 1 + 1))
  simpa [hl] using this
theorem nm (S : St c envs H s) {env : Env} {L : Nat} {l : List (Str × Value)} {x : Str} {v : Value} {Q : Value → Shared → Prop} (hH : H L = some (.ns l)) (hx : l.lookup x = some v) (h : ∀ v', er v' = v → Q v' s)
    (hL : env.locals = L := by rfl) (hk : env.scope.kind = .function := by rfl) (hl : env.kindOf x = some .local := by rfl) : wpAny (model prog w) A (loadName env x) Q E s := by
  subst hL
  obtain ⟨m, hn, hm⟩ := S.get hH
  have z := hm x v hx
  obtain ⟨y, hy, he⟩ := Option.map_eq_some_iff.mp z
  exact wpAny_loadName_local hk hl hn hy (h y he)
section
variable {env : Env} {L : Nat} {l : List (Str × Value)} {x : Str} {pos : Pos} {Q : Value → Shared → Prop}
theorem nm_ref {a : Nat} (S : St c envs H s) (hH : H L = some (.ns l)) (hx : l.lookup x = some (.ref a)) (h : Q (.ref a) s)
    (hL : env.locals = L := by rfl) (hk : env.scope.kind = .function := by rfl) (hl : env.kindOf x = some .local := by rfl) (hd : (x == ("__debug__" : Str)) = false := by decide) : wpAny (model prog w) A (eval (.Name x pos) env) Q E s :=
  wpAny_Name (nm S hH hx (fun v he => er_ref he ▸ h) hL hk hl) hd
theorem nm_int {i : Int} (S : St c envs H s) (hH : H L = some (.ns l)) (hx : l.lookup x = some (.int i 0)) (h : ∀ t, Q (.int i t) s)
    (hL : env.locals = L := by rfl) (hk : env.scope.kind = .function := by rfl) (hl : env.kindOf x = some .local := by rfl) (hd : (x == ("__debug__" : Str)) = false := by decide) : wpAny (model prog w) A (eval (.Name x pos) env) Q E s :=
  wpAny_Name (nm S hH hx (fun v he => by obtain ⟨t, rfl⟩ := er_int he; exact h t) hL hk hl) hd
theorem nm_bool {b : Bool} (S : St c envs H s) (hH : H L = some (.ns l)) (hx : l.lookup x = some (.bool b)) (h : Q (.bool b) s)
    (hL : env.locals = L := by rfl) (hk : env.scope.kind = .function := by rfl) (hl : env.kindOf x = some .local := by rfl) (hd : (x == ("__debug__" : Str)) = false := by decide) : wpAny (model prog w) A (eval (.Name x pos) env) Q E s :=
  wpAny_Name (nm S hH hx (fun v he => er_bool he ▸ h) hL hk hl) hd
theorem nm_none (S : St c envs H s) (hH : H L = some (.ns l)) (hx : l.lookup x = some .none) (h : Q .none s)
    (hL : env.locals = L := by rfl) (hk : env.scope.kind = .function := by rfl) (hl : env.kindOf x = some .local := by rfl) (hd : (x == ("__debug__" : Str)) = false := by decide) : wpAny (model prog w) A (eval (.Name x pos) env) Q E s :=
  wpAny_Name (nm S hH hx (fun v he => er_none he ▸ h) hL hk hl) hd
end
theorem stv (S : St c envs H s) {env : Env} {L : Nat} {l : List (Str × Value)} {x : Str} {v v' : Value} {Q : Unit → Shared → Prop} (hH : H L = some (.ns l)) (hv : er v = v')
    (h : ∀ s', St c envs (upd H L (.ns ((x, v') :: l))) s' → Q () s')
    (hL : env.locals = L) (hk : env.scope.kind = .function := by rfl) (hl : env.kindOf x = some .local := by rfl) : wpAny (model prog w) A (storeName env x v) Q E s := by
  subst hL hv
  obtain ⟨m, hn, hm⟩ := S.get hH
  refine wpAny_storeName_local hl hn (fun h' hn' hs => h _ (S.set hH hs ⟨_, hn', fun y u hy => ?_⟩ rfl rfl)) (by rw [hk]; rfl)
  rw [List.lookup_cons] at hy
  by_cases hyx : y = x
  · subst hyx
    rw [if_pos rfl]
    simp at hy
    simp [hy]
  · rw [if_neg hyx]
    have hb : (y == x) = false := by simpa using hyx
    simp only [hb] at hy
    exact hm y u hy
theorem nm_global {env : Env} {x : Str} {pos : Pos} {v : Value} {Q : Value → Shared → Prop} (S : St c envs H s) (e : nsIn K mainGlobals x = some (some v)) (h : Q v s)
    (hg : env.globals = mainGlobals := by rfl) (hk : env.scope.kind = .function := by rfl) (hx : env.kindOf x = some .globalImplicit := by rfl) (hd : (x == ("__debug__" : Str)) = false := by decide) : wpAny (model prog w) A (eval (.Name x pos) env) Q E s :=
  Name_function_global hk hx (loadGlobal_global (hg ▸ S.top.g) (mg_of S.inK S.top.g e) h) hd
theorem nm_builtin {env : Env} {x : Str} {pos : Pos} {v : Value} {Q : Value → Shared → Prop} (S : St c envs H s) (e : nsIn K mainGlobals x = some none) (hv : bootBuiltins x = some v) (hn : x ≠ "__name__") (h : Q v s)
    (hg : env.globals = mainGlobals := by rfl) (hb : env.builtins = builtinsNs := by rfl) (hk : env.scope.kind = .function := by rfl) (hx : env.kindOf x = some .globalImplicit := by rfl) (hd : (x == ("__debug__" : Str)) = false := by decide) : wpAny (model prog w) A (eval (.Name x pos) env) Q E s :=
  Name_function_global hk hx (loadGlobal_builtin (hg ▸ S.top.g) (mg_none_of S.inK S.top.g e) (hb ▸ S.top.b) ((S.top.builtins x hn).trans hv) h) hd
noncomputable def setk (x : Str) (v : Value) : List (Str × Value) → List (Str × Value)
  | [] => [(x, v)]
  | p :: r => if p.1 == x then (x, v) :: r else p :: setk x v r
theorem setk_lookup (x : Str) (v : Value) (y : Str) : ∀ l : List (Str × Value), (setk x v l).lookup y = if y = x then some v else l.lookup y
  | [] => by
    simp only [setk, List.lookup_cons]
    by_cases h : y = x
    · simp [h]
    · have : (y == x) = false := by simpa using h
      simp [h, this]
  | p :: r => by
    unfold setk
    by_cases hp : p.1 == x
    · rw [if_pos hp]
      obtain ⟨a, b⟩ := p
      have ha : a = x := by simpa using hp
      subst ha
      by_cases h : y = a
      · simp [h, List.lookup_cons]
      · have : (y == a) = false := by simpa using h
        simp [h, List.lookup_cons, this]
    · rw [if_neg hp]
      obtain ⟨a, b⟩ := p
      have ha : ¬ a = x := by simpa using hp
      rw [List.lookup_cons, List.lookup_cons, setk_lookup x v y r]
      by_cases h : y = a
      · have : (y == a) = true := by simpa using h
        have hx : ¬ y = x := fun z => ha (h ▸ z)
        simp [this, hx]
      · have : (y == a) = false := by simpa using h
        simp [this]
theorem setk_length (x : Str) (v : Value) : ∀ l : List (Str × Value), (setk x v l).length = if (l.lookup x).isSome then l.length else l.length + 1
  | [] => rfl
  | p :: r => by
    obtain ⟨a, b⟩ := p
    unfold setk
    rw [List.lookup_cons]
    by_cases h : a = x
    · subst h; simp
    · have h1 : (a == x) = false := by simpa using h
      have h2 : (x == a) = false := by simpa using fun z : x = a => h z.symm
      simp only [h1, h2, Bool.false_eq_true, if_false, List.length_cons]
      rw [setk_length x v r]
      split <;> rfl
theorem getL_gv (y : Str) {es : List DictEntry} (h : ∀ e ∈ es, e.refKey = false) : getL y es = some (gv y es) := by
  unfold getL gv
  cases es.find? (fun e => e.key.isStr y) with
  | some e => rfl
  | none =>
    have : es.any (·.refKey) = false := by
      rw [List.any_eq_false]; intro e he; simp [h e he]
    simp [this]
theorem gv_putL (name : Str) (hsh : Int) (tk : Tok) (v : Value) (y : Str) : ∀ (es : List DictEntry), gv y (putL name hsh (.str name tk) v es) = if y = name then some v else gv y es
  | [] => by
    by_cases h : y = name
    · subst h; simp [gv, putL, Value.isStr]
    · have h1 : (name == y) = false := by simpa using fun z : name = y => h z.symm
      simp [gv, putL, Value.isStr, h, h1]
  | e :: r => by
    have hinj : ∀ a b : Str, e.key.isStr a = true → e.key.isStr b = true → a = b := Value.isStr_inj e.key
    unfold putL
    by_cases hn : e.key.isStr name = true
    · rw [if_pos hn]
      by_cases h : y = name
      · subst h; simp [gv, hn]
      · have hy : e.key.isStr y = false := by
          cases q : e.key.isStr y with
          | false => rfl
          | true => exact absurd (hinj _ _ q hn) h
        simp [gv, List.find?_cons, hy, if_neg h]
    · rw [if_neg hn]
      have ih := gv_putL name hsh tk v y r
      by_cases hy : e.key.isStr y = true
      · have h : ¬ y = name := fun z => hn (z ▸ hy)
        simp [gv, hy, h]
      · have hy' : e.key.isStr y = false := by simpa using hy
        unfold gv at ih ⊢
        simp only [List.find?_cons, hy']
        exact ih
theorem putL_refKey (name : Str) (hsh : Int) (tk : Tok) (v : Value) : ∀ {es : List DictEntry}, (∀ e ∈ es, e.refKey = false) → ∀ e ∈ putL name hsh (.str name tk) v es, e.refKey = false
  | [], _, e, he => by
    have : e = ⟨hsh, .str name tk, v⟩ := by simpa [putL] using he
    subst this; rfl
  | e₀ :: r, h, e, he => by
    unfold putL at he
    split at he
    · rcases List.mem_cons.mp he with rfl | he
      · have := h e₀ (.head _); simpa [DictEntry.refKey] using this
      · exact h e (.tail _ he)
    · rcases List.mem_cons.mp he with rfl | he
      · exact h _ (.head _)
      · exact putL_refKey name hsh tk v (fun e he => h e (.tail _ he)) e he
theorem putL_length (name : Str) (hsh : Int) (key v : Value) : ∀ es : List DictEntry, (putL name hsh key v es).length = if es.any (·.key.isStr name) then es.length else es.length + 1
  | [] => rfl
  | e :: r => by
    unfold putL
    by_cases h : e.key.isStr name = true
    · simp [h]
    · have h' : e.key.isStr name = false := by simpa using h
      simp only [h', Bool.false_eq_true, if_false, List.length_cons, List.any_cons, Bool.false_or]
      rw [putL_length name hsh key v r]
      split <;> rfl
theorem any_gv {name : Str} {es : List DictEntry} : es.any (·.key.isStr name) = (gv name es).isSome := by
  unfold gv
  cases q : es.find? (fun e => e.key.isStr name) with
  | some e =>
    have := List.find?_some q
    rw [List.any_eq_true.mpr ⟨e, List.mem_of_find?_eq_some q, this⟩]; rfl
  | none =>
    have : es.any (·.key.isStr name) = false := by
      rw [List.any_eq_false]
      intro e he
      have := List.find?_eq_none.mp q e he
      simpa using this
    rw [this]; rfl
theorem St.inst (S : St c envs H s) {a : Nat} {C : Addr} {fs : List (Str × Value)} (e : H a = some (.inst C fs)) :
    ∃ es n, InstAt s.heap a (instObj C (a - 1)) C (some (dictOf es n)) ∧ s.heap.get? (a - 1) = some (dictOf es n) ∧ es.length ≤ fs.length ∧ (∀ e ∈ es, e.refKey = false) ∧ ∀ x, (gv x es).map er = fs.lookup x := by
  obtain ⟨h1, ha, es, n, hd, hz, hk, hm⟩ := S.get e
  exact ⟨es, n, ⟨ha, rfl, rfl, hd⟩, hd, hz, hk, hm⟩
theorem at_get {a : Nat} {C : Addr} {fs : List (Str × Value)} {name : Str} {v : Value} {attr : Option Value} {expr : Bool} {Q : Value → Shared → Prop} (S : St c envs H s) (e : H a = some (.inst C fs)) (hx : fs.lookup name = some v)
    (hg : plainGet K C name = true) (hh : hasDictIn K C = true) (ha : findIn K (.ref C) name = some attr) (hn : noGet K attr = true) (hv : handedIn v = true)
    (h : ∀ v' s', er v' = v → St c envs H s' → Q v' s') : wpAny (model prog w) A (getAttr (.ref a) name expr) Q E s := by
  obtain ⟨es, n, I, hd, hz, hk, hm⟩ := S.inst e
  have z := hm name
  rw [hx] at z
  obtain ⟨y, hy, he⟩ := Option.map_eq_some_iff.mp z
  refine get_value S.inK I (plainGet_of hg).1 (findObj_own hh ha hn (by rw [lookIn_dict, getL_gv _ hk, hy])) ?_ (h y _ he (S.tok _))
  subst he
  cases y <;> first | rfl | exact hv
theorem at_set {a : Nat} {C : Addr} {fs : List (Str × Value)} {name : Str} {v : Value} {Q : Unit → Shared → Prop} (S : St c envs H s) (e : H a = some (.inst C fs)) (hfz : fs.length ≤ 1000)
    (hs : findIn K (.ref C) "__setattr__" = some (some (.builtin "object.__setattr__"))) (hp : plainOver K C = true) (ht : takerIn K C name = some none) (hh : hasDictIn K C = true)
    (h : ∀ s', St c envs (upd H a (.inst C (setk name (er v) fs))) s' → Q () s') : wpAny (model prog w) A (setAttr (.ref a) name v) Q E s := by
  obtain ⟨es, n, I, hdd, hz, hk, hm⟩ := S.inst e
  refine set_plain S.inK I hs (osa_open (s := { s with toks := s.toks + 1 }) S.inK I hp ht fun b => ?_)
  obtain ⟨cd, hc, hd⟩ := any_some hh
  obtain ⟨hx, hcl, hno, -⟩ := I
  refine wpAny_bind (wpAny_pure (wpAny_bind (wpAny_bind (wpAny_loadPart hx (wpAny_bind ((looks_clsIn (M := model prog w) S.inK hc) _ _ _ _ (fun _ _ e => e) ?_))))))
  rw [hd]
  refine wpAny_pure (a := some (a - 1)) (wpAny_bind (wpAny_pure (wpAny_bind ?_)))
  unfold nsSet
  refine wpAny_bind (wpAny_bind (wpAny_askSetting (wpAny_pure (wpAny_bind (wpAny_mkText (wpAny_bind (wpAny_loadPart hdd ?_)))))))
  dsimp only
  have cnd' : (!es.toArray.any (·.key.isStr name) && es.toArray.any (·.refKey)) = false := by
    have : es.any (·.refKey) = false := by
      rw [List.any_eq_false]; intro e he; simp [hk e he]
    simp [this]
  rw [aRefKeyMayBeTheName_at, cnd']
  refine wpAny_updatePart hdd ?_
  have up := Heap.get?_update_self (Obj.putName name (PyData.keyHash w.params name) (.str name (s.toks + 1)) v) hdd (by rw [putName_dict]; rfl)
  rw [putName_dict] at up
  have hlen : (putL name (PyData.keyHash w.params name) (.str name (s.toks + 1)) v es).length ≤ (setk name (er v) fs).length := by
    rw [putL_length, setk_length, any_gv, ← hm name]
    cases gv name es <;> simp <;> omega
  have hlen2 : (setk name (er v) fs).length ≤ 1001 := by rw [setk_length]; split <;> omega
  refine wpAny_bind (wpAny_lookBehind up (pastItsLine_dict (by rw [List.size_toArray, sizeLine_eq]; omega)) ?_)
  have r := S.get e
  refine wpAny_pure (h _ (S.setDict e (Heap.SameBut.update ..) ⟨r.1, ?_, _, _, up, hlen, putL_refKey _ _ _ _ hk, fun x => ?_⟩))
  · rw [Heap.get?_update_other _ _ (by have := r.1; show a - 1 ≠ a; omega)]; exact hx
  · rw [gv_putL, setk_lookup]
    by_cases hxn : x = name
    · rw [if_pos hxn, if_pos hxn]; rfl
    · rw [if_neg hxn, if_neg hxn]; exact hm x
theorem meth {a : Nat} {C : Addr} {fs : List (Str × Value)} {name : Str} {f : Addr} {pl : Sem Bool} {Q : Value × List Value → Shared → Prop} (S : St c envs H s) (e : H a = some (.inst C fs)) (hx : fs.lookup name = none)
    (hg : plainGet K C name = true) (hf : findIn K (.ref C) name = some (some (.ref f))) (ht : isFn K (.ref f) = true) (h : Q (.ref f, [.ref a]) s) : wpAny (model prog w) A (getMethod (.ref a) name pl) Q E s := by
  obtain ⟨es, n, I, hd, hz, hk, hm⟩ := S.inst e
  have z := hm name
  rw [hx] at z
  have : gv name es = none := by simpa using z
  refine method_fn S.inK I (plainGet_of hg).1 (plainGet_of hg).2 hf (beq_iff_eq.mp ht) ?_ h
  show (lookIn name (dictOf es n)).map _ = _
  rw [lookIn_dict, getL_gv _ hk, this]; rfl
end
end Mine
end
section
open PySem PySem.W PyProof.Rows PySem.Calls
set_option linter.unusedVariables false
set_option Elab.async false
namespace Mine
theorem ne_fresh {H : AH} {a b : Nat} {o : AO} (h : H a = none) (k : H b = some o) : b ≠ a := fun z => by rw [z, h] at k; cases k
theorem upd_other {H : AH} {a b : Nat} {o : AO} {r : Option AO} (h : b ≠ a) (k : H b = r) : upd H a o b = r := (upd_ne h).trans k
structure Rm (A : Around) (d u : Nat) : Prop where
  depth : A.depth + d ≤ 900
  units : A.units + u ≤ 9000
theorem Rm.mono {A : Around} {d u d' u' : Nat} (R : Rm A d u) (hd : d' ≤ d) (hu : u' ≤ u) : Rm A d' u' := ⟨by have := R.depth; omega, by have := R.units; omega⟩
theorem Rm.deeper {A : Around} {d u : Nat} {env : Env} (R : Rm A (d + 1) (u + 3)) : Rm (A.deeper env) d u :=
  ⟨by have := R.depth; rw [depth_deeper]; omega, by have := R.units; rw [units_deeper]; omega⟩
theorem Rm.in1 {A : Around} {d u : Nat} (R : Rm A d (u + 1)) : Rm A.in1 d u := ⟨R.depth, by have := R.units; rw [units_in1]; omega⟩
theorem Rm.mark {A : Around} {d u : Nat} {h : Option Value} (R : Rm A d u) : Rm (A.mark h) d u := ⟨R.depth, R.units⟩
theorem Rm.room {A : Around} {d u : Nat} (R : Rm A d u) : A.depth < recursionLimit := by have := R.depth; unfold recursionLimit; omega
theorem Rm.line {A : Around} {d u : Nat} (R : Rm A d u) : A.units < cLine := by have := R.units; unfold cLine; omega
section
variable {prog : Program} {w : World} {K : Frag} {c : Cx prog w K} {envs : List Env} {H : AH} {A : Around} {E : Value → Shared → Prop} {s : Shared}
noncomputable abbrev backR (Q E : Value → Shared → Prop) : Result → Shared → Prop := fun r s' => match r with | .ok (.ret v) => Q v s' | .ok _ => False | .error e => E e s'
theorem lookup_er (x : Str) : ∀ l : List (Str × Value), (l.map fun p => (p.1, er p.2)).lookup x = (l.lookup x).map er
  | [] => rfl
  | p :: r => by
    rw [List.map_cons, List.lookup_cons, List.lookup_cons, lookup_er x r]
    cases x == p.1 <;> rfl
theorem code_fn {f : Addr} {oc ct : Value} {od an : Option Addr} {osl : Array (Option Value)} {name qual : Str} {params : Arguments} {body : List Stmt} {scope : Scope} {dV kV doc pm cdv : Value} {args : Args} {binds : List (Str × Value)} {l : List (Str × Value)} {R : Result → Shared → Prop} {d u : Nat}
    (S : St c envs H s) (Ro : Rm A d u) (ho : K.lookup f = some ⟨oc, od, .func (fnOf name qual params body scope dV kV doc pm an cdv ct), osl⟩) (hcd : codeIn K cdv qual = true)
    (hbind : BindsTo s (fnOf name qual params body scope dV kV doc pm an cdv ct) args binds) (hl : (binds.reverse.map fun p => (p.1, er p.2)) = l)
    (h : ∀ L s', H L = none → St c (callEnv (fnOf name qual params body scope dV kV doc pm an cdv ct) L f :: envs) (upd H L (.ns l)) s' →
      wpAny (model prog w) (A.deeper (callEnv (fnOf name qual params body scope dV kV doc pm an cdv ct) L f)) (execs body (callEnv (fnOf name qual params body scope dV kV doc pm an cdv ct) L f)) (fun fl s' => R (.ok (.ret (match fl with | .ret v => v | _ => .none))) s')
        (fun e s' => wpAny (model prog w) (A.deeper (callEnv (fnOf name qual params body scope dV kV doc pm an cdv ct) L f)) (leaving (callEnv (fnOf name qual params body scope dV kV doc pm an cdv ct) L f) e) (fun _ s'' => R (.error e) s'') (fun e' s'' => R (.error e') s'') s') s')
    (hloc : ∀ x ∈ binds, scope.names.lookup x.1 = some .local) (hcell : ∀ x ∈ scope.names, x.2 ≠ .cell)
    (hco : scope.isCoroutine = false) (hgen : scope.isGenerator = false) (hk : scope.kind = .function) : codeAny (model prog w) A (.call (.ref f) args) R s := by
  subst hl
  refine codeAny_call_def (fd := fnOf name qual params body scope dV kV doc pm an cdv ct) Ro.room (S.inK _ _ ho) rfl S.top.nolimit (codeRec_of S.inK hcd) rfl hbind hcell hloc (fun h₀ hn hkeep => ?_) hco hgen hk
  refine h _ _ (S.fresh (Nat.le_refl _)) ?_
  have S1 := S.new (a := s.heap.objs.size) (o := .ns (binds.reverse.map fun p => (p.1, er p.2))) (t := s.toks + binds.length) hkeep (Nat.le_refl _) (fun i => by cases i)
    ⟨_, hn, fun x v hx => by rw [lookup_er] at hx; exact hx⟩ (Nat.le_of_lt hn.lt)
  refine ⟨S1.base, S1.real, S1.low, S1.excl, fun env m => ?_, S1.gens, S1.drawn, S1.os, S1.size⟩
  rcases List.mem_cons.mp m with rfl | m
  · exact ⟨by show scope.kind ≠ .module; rw [hk]; decide, s.heap.objs.size, _, rfl, upd_self ..⟩
  · exact S1.envs env m
theorem St.fr (S : St c envs H s) {L : Nat} {l : List (Str × Value)} (e : H L = some (.ns l)) : ∃ m, Fr c.base L s.heap m :=
  let ⟨m, hn, _⟩ := S.get e; ⟨m, hn, S.base, (S.low L _ e).2.2 rfl⟩
theorem const_int {i : Int} {k pos env} {Q : Value → Shared → Prop} (S : St c envs H s) (h : ∀ t s', St c envs H s' → Q (.int i t) s') : wpAny (model prog w) A (eval (.Constant (.int i) k pos) env) Q E s := wpAny_Constant_int (h _ _ (S.tok _))
theorem const_str {x : Str} {k pos env} {Q : Value → Shared → Prop} (S : St c envs H s) (h : ∀ t s', St c envs H s' → Q (.str x t) s') : wpAny (model prog w) A (eval (.Constant (.str x) k pos) env) Q E s := wpAny_Constant_str (h _ _ (S.tok _))
section
variable {a b : Int} {t u : Tok} {Q : Value → Shared → Prop}
theorem s_add (S : St c envs H s) (h : ∀ t s', St c envs H s' → Q (.int (a + b) t) s') : wpAny (model prog w) A (binaryOp .Add (.int a t) (.int b u)) Q E s := PyProof.Rows.add_int (h _ _ (S.tok _))
theorem s_sub (S : St c envs H s) (h : ∀ t s', St c envs H s' → Q (.int (a - b) t) s') : wpAny (model prog w) A (binaryOp .Sub (.int a t) (.int b u)) Q E s := PyProof.Rows.sub_int (h _ _ (S.tok _))
theorem s_iadd (S : St c envs H s) (h : ∀ t s', St c envs H s' → Q (.int (a + b) t) s') : wpAny (model prog w) A (inplaceOp .Add (.int a t) (.int b u)) Q E s := PyProof.Rows.iadd_int (h _ _ (S.tok _))
theorem s_isub (S : St c envs H s) (h : ∀ t s', St c envs H s' → Q (.int (a - b) t) s') : wpAny (model prog w) A (inplaceOp .Sub (.int a t) (.int b u)) Q E s := PyProof.Rows.isub_int (h _ _ (S.tok _))
theorem s_neg (S : St c envs H s) (h : ∀ t s', St c envs H s' → Q (.int (-a) t) s') : wpAny (model prog w) A (unaryOp .USub (.int a t)) Q E s := PyProof.Rows.neg_int (h _ _ (S.tok _))
end
theorem isi_inst {x C f : Nat} {fs : List (Str × Value)} {Q : Value → Shared → Prop} (S : St c envs H s) (e : H x = some (.inst f fs)) (hi : isIn K (.ref f) C = true) (h : Q (.bool true) s) :
    wpAny (model prog w) A (call (.builtin "isinstance") [.ref x, .ref C]) Q E s := by
  obtain ⟨es, n, I, -⟩ := S.inst e
  exact isi_call S.inK (fun M => I.type) hi (by intro z; cases z) h
theorem cmp_inst {op : CmpOp} {x y C f L : Nat} {fs fs' : List (Str × Value)} {l : List (Str × Value)} {Q : Value → Shared → Prop} (S : St c envs H s) (Ro : Rm A 0 0) (hL : H L = some (.ns l)) (ex : H x = some (.inst C fs)) (ey : H y = some (.inst C fs'))
    (hn : notFirst K C (.ref C) = true) (hs : findIn K (.ref C) (cmpInfo op).2.1 = some (some (.ref f))) (hf : isFn K (.ref f) = true) (h : wpAny (model prog w) A (call (.ref f) [.ref x, .ref y]) (PySem.W.CmpBack Q) E s) :
    wpAny (model prog w) A (richCompare op (.ref x) (.ref y)) Q E s := by
  obtain ⟨m, F⟩ := S.fr hL
  obtain ⟨es, n, I, -⟩ := S.inst ex
  obtain ⟨es', n', I', -⟩ := S.inst ey
  exact cmp_K Ro.line F c.inK I (I'.type) hn hs hf h
theorem list_meth {q : Nat} {xs : List Value} {name : Str} {id : String} {pl : Sem Bool} {Q : Value × List Value → Shared → Prop} (S : St c envs H s) (e : H q = some (.list xs)) (slot : Slot "list" name id) (hty : typeOf (.builtin id) = pure (.type "method_descriptor"))
    (h : Q (.builtin id, [.ref q]) s) : wpAny (model prog w) A (getMethod (.ref q) name pl) Q E s := by
  obtain ⟨vs, n, hv, -⟩ := S.get e
  exact getMethod_builtin ⟨_, hv, rfl⟩ PySem.F.plainAttrs_list slot hty (fun a e => by cases e; exact ⟨_, hv, rfl⟩) h
end
noncomputable def AO.le (o o' : AO) : Prop := o = o' ∨ ∃ l l', o = .ns l ∧ o' = .ns l' ∧ ∀ x v, l.lookup x = some v → l'.lookup x = some v
theorem AO.le.rfl' (o : AO) : o.le o := .inl rfl
theorem AO.le.inst {o o' : AO} (h : o.le o') : o'.isInst = o.isInst := by
  rcases h with rfl | ⟨l, l', rfl, rfl, h⟩ <;> rfl
theorem AO.le.big {o o' : AO} (h : o.le o') : o'.isBig = o.isBig := by
  rcases h with rfl | ⟨l, l', rfl, rfl, h⟩ <;> rfl
theorem Real.le {h : Heap} {a : Nat} {o o' : AO} (k : o.le o') (r : Real h a o') : Real h a o := by
  rcases k with rfl | ⟨l, l', rfl, rfl, k⟩
  · exact r
  · obtain ⟨m, hn, hm⟩ := r; exact ⟨m, hn, fun x v q => hm x v (k x v q)⟩
noncomputable def Sub (H G : AH) : Prop := ∀ (a : Nat) o, H a = some o → ∃ o', G a = some o' ∧ o.le o'
theorem Sub.refl (H : AH) : Sub H H := fun _ o e => ⟨o, e, .inl rfl⟩
theorem Sub.fresh {H G : AH} {a : Nat} {x : AO} (h : Sub H G) (n : H a = none) : Sub H (upd G a x) := fun b o e => by
  rw [upd_ne (fun z => by rw [z, n] at e; cases e)]; exact h b o e
theorem Sub.upd2 {H G : AH} {a : Nat} {x y : AO} (h : Sub H G) (k : x.le y) : Sub (upd H a x) (upd G a y) := fun b o e => by
  by_cases hb : b = a
  · subst hb; rw [upd_self] at e; cases e; exact ⟨y, upd_self .., k⟩
  · rw [upd_ne hb] at e ⊢; exact h b o e
theorem lookup_mem {x : Str} {v : Value} : ∀ {l : List (Str × Value)}, l.lookup x = some v → (x, v) ∈ l
  | [], h => by cases h
  | (a, b) :: r, h => by
    rw [List.lookup_cons] at h
    by_cases q : x = a
    · subst q; simp at h; subst h; exact .head _
    · have : (x == a) = false := by simpa using q
      rw [this] at h; exact .tail _ (lookup_mem h)
theorem ns_le {l l' : List (Str × Value)} (h : ∀ p ∈ l, l'.lookup p.1 = some p.2) : (AO.ns l).le (.ns l') := .inr ⟨l, l', rfl, rfl, fun x v e => h (x, v) (lookup_mem e)⟩
noncomputable def Frs (envs : List Env) (H : AH) : Prop := ∀ env ∈ envs, env.scope.kind ≠ .module ∧ ∃ L l, env.frame = some L ∧ H L = some (.ns l)
theorem Frs.turn {envs : List Env} {H : AH} {a : Nat} {o x : AO} (f : Frs envs H) (e : H a = some o) (n : o.isNs = false) : Frs envs (Mine.upd H a x) := fun env m => by
  obtain ⟨k, L, l, h1, h2⟩ := f env m
  exact ⟨k, L, l, h1, upd_other (fun z => by rw [z, e] at h2; cases h2; cases n) h2⟩
theorem Frs.fresh {envs : List Env} {H : AH} {a : Nat} {x : AO} (f : Frs envs H) (e : H a = none) : Frs envs (Mine.upd H a x) := fun env m => by
  obtain ⟨k, L, l, h1, h2⟩ := f env m
  exact ⟨k, L, l, h1, upd_other (fun z => by rw [z, e] at h2; cases h2) h2⟩
section
variable {prog : Program} {w : World} {K : Frag} {c : Cx prog w K} {envs : List Env} {H : AH} {A : Around} {E : Value → Shared → Prop} {s : Shared}
theorem St.frs (S : St c envs H s) : Frs envs H := S.envs
theorem excl_sub {G : AH} (S : ∀ (a : Nat) o, G a = some o → o.isInst = true → G (a - 1) = none) (h : Sub H G) : ∀ (a : Nat) o, H a = some o → o.isInst = true → H (a - 1) = none := fun a o e i => by
  cases q : H (a - 1) with
  | none => rfl
  | some o' =>
    obtain ⟨o1, e1, l1⟩ := h a o e
    obtain ⟨o2, e2, l2⟩ := h _ _ q
    have z := S a o1 e1 (l1.inst.trans i)
    rw [e2] at z; cases z
theorem St.sub {G : AH} {envs' : List Env} (S : St c envs' G s) (h : Sub H G) (f : Frs envs H) : St c envs H s :=
  ⟨S.base, fun a o e => let ⟨o', e', l'⟩ := h a o e; (S.real a o' e').le l', fun a o e => let ⟨o', e', l'⟩ := h a o e; ⟨(S.low a o' e').1, fun i => (S.low a o' e').2.1 (l'.inst.trans i), fun i => (S.low a o' e').2.2 (l'.big.trans i)⟩, excl_sub S.excl h, f, S.gens, S.drawn, S.os, S.size⟩
theorem St.ret {env : Env} {G : AH} (S : St c (env :: envs) G s) (h : Sub H G) (f : Frs envs H) : St c envs H s := S.sub h f
theorem Frs.re {H : AH} {a : Nat} {l l' : List (Str × Value)} (f : Frs envs (upd H a (.ns l))) : Frs envs (upd H a (.ns l')) := by
  intro env m
  obtain ⟨k, L, l1, h1, h2⟩ := f env m
  by_cases q : L = a
  · subst q; exact ⟨k, L, l', h1, upd_self ..⟩
  · exact ⟨k, L, l1, h1, by rw [upd_ne q] at h2 ⊢; exact h2⟩
theorem Frs.ns {H : AH} {a : Nat} {l l' : List (Str × Value)} (f : Frs envs H) (e : H a = some (.ns l)) : Frs envs (upd H a (.ns l')) := fun env m => by
  obtain ⟨k, L, l1, h1, h2⟩ := f env m
  by_cases q : L = a
  · subst q; exact ⟨k, L, l', h1, upd_self ..⟩
  · exact ⟨k, L, l1, h1, (upd_ne q).trans h2⟩
noncomputable def Turn (n : Nat) (I : Nat → Shared → Prop) (s : Shared) : Prop := ∃ m, m < n ∧ I m s
theorem while_ {test : Expr} {body orelse : List Stmt} {pos : Pos} {env : Env} {Q : Flow → Shared → Prop} (I : Nat → Shared → Prop)
    (turn : ∀ n s, I n s →
      wpAny (model prog w) A (isTrue test env (eval test env)) (fun b s₂ =>
        if b then wpAny (model prog w) A (execs body env) (fun f s₃ => match f with
            | .next | .cont => Turn n I s₃
            | .brk => Q .next s₃
            | .ret v => Q (.ret v) s₃) (notedBy (model prog w) A env fun e s' => cameBackBy (model prog w) A env E e s') s₂
        else wpAny (model prog w) A (execs orelse env) (fun f s₃ => Q f s₃) (notedBy (model prog w) A env fun e s' => cameBackBy (model prog w) A env E e s') s₂)
        (notedBy (model prog w) A env fun e s' => cameBackBy (model prog w) A env E e s') s)
    (n : Nat) (h : I n s) : wpAny (model prog w) A (exec (.While test body orelse pos) env) Q E s :=
  wpAny_While (codeAny_whileLoop I turn n h)
theorem while_h {test : Expr} {body orelse : List Stmt} {pos : Pos} {env : Env} {Q : Flow → Shared → Prop} (I : Nat → Shared → Prop)
    (turn : ∀ n s, I n s → ∀ (QB QE : Flow → Shared → Prop) (EE : Value → Shared → Prop), (∀ f s₃, (match f with
            | .next | .cont => Turn n I s₃
            | .brk => Q .next s₃
            | .ret v => Q (.ret v) s₃) → QB f s₃) → (∀ f s₃, Q f s₃ → QE f s₃) → (∀ e s₃, notedBy (model prog w) A env (fun e s' => cameBackBy (model prog w) A env E e s') e s₃ → EE e s₃) →
      wpAny (model prog w) A (isTrue test env (eval test env)) (fun b s₂ => if b then wpAny (model prog w) A (execs body env) QB EE s₂ else wpAny (model prog w) A (execs orelse env) QE EE s₂) EE s)
    (n : Nat) (h : I n s) : wpAny (model prog w) A (exec (.While test body orelse pos) env) Q E s :=
  while_ I (fun n s hI => turn n s hI _ _ _ (fun _ _ x => x) (fun _ _ x => x) (fun _ _ x => x)) n h
end
end Mine
end
section
open PySem PySem.W PyProof.Rows PySem.Calls
set_option linter.unusedVariables false
set_option Elab.async false
namespace Mine
section
variable {prog : Program} {w : World} {K : Frag} {c : Cx prog w K} {envs outer : List Env} {env : Env} {H G : AH} {A : Around} {E : Value → Shared → Prop} {s : Shared} {e : Nat} {cls : Value}
theorem frames_fun (S : St c envs H s) {B : Heap} (hB : ∀ env ∈ envs, ∀ L, env.frame = some L → B.get? L = none) : s.heap.FunFrames B envs := by
  have go : ∀ l : List Env, (∀ env ∈ l, env ∈ envs) → s.heap.FunFrames B l := by
    intro l
    induction l with
    | nil => intro _; trivial
    | cons env r ih =>
      intro h
      obtain ⟨k, L, ll, hf, hl⟩ := S.envs env (h env (.head _))
      obtain ⟨m, ⟨o, es, ep, ho, hd, _⟩, _⟩ := S.get hl
      exact ⟨k, ⟨L, o, hf, hB env (h env (.head _)) L hf, ho, fun vs q => by rw [hd] at q; cases q⟩, ih fun x hx => h x (.tail _ hx)⟩
  exact go envs fun _ h => h
theorem Real.up {h h' : Heap} {a : Nat} {o : AO} {fr : List Nat} (r : Real h a o) (hs : Heap.SlotsOnly fr h h') (n : o.isNs = true ∨ ∀ b, o.at a b → b ∉ fr) : Real h' a o := by
  by_cases q : o.isNs = true
  · cases o with
    | ns l =>
      obtain ⟨m, ⟨o1, es, ep, ho1, hd1, r1⟩, hm⟩ := r
      obtain ⟨sl, z⟩ := hs.2.2 a o1 ho1
      exact ⟨m, ⟨_, es, ep, z, hd1, r1⟩, hm⟩
    | _ => cases q
  · rcases n with n | n
    · exact absurd n q
    · exact r.keep fun b hb x hx => (hs.2.1 b (n b hb)).trans hx
theorem St.slots {h' : Heap} (S : St c envs H s) (hs : Heap.SlotsOnly (envs.filterMap (·.frame)) s.heap h') : St c envs H { s with heap := h' } := by
  have fm : ∀ b : Nat, b ∈ envs.filterMap (·.frame) → ∃ l, H b = some (.ns l) := fun b hb => by
    obtain ⟨x, hx, hxf⟩ := List.mem_filterMap.mp hb
    obtain ⟨k, L', l, hf', hl⟩ := S.envs x hx
    rw [hf'] at hxf; cases hxf; exact ⟨l, hl⟩
  refine ⟨fun b x q => (hs.2.1 b fun m => ?_).trans (S.base b x q), fun a o q => (S.get q).up hs ?_, S.low, S.excl, S.envs, S.gens, S.drawn, S.os, hs.1 ▸ S.size⟩
  · obtain ⟨l, hl⟩ := fm b m
    have := (S.low b _ hl).1
    rw [q] at this; cases this
  · by_cases i : o.isNs = true
    · exact .inl i
    · refine .inr fun b hb m => ?_
      obtain ⟨l, hl⟩ := fm b m
      rcases hb with rfl | ⟨ii, rfl⟩
      · rw [q] at hl; cases hl; exact i rfl
      · have := S.excl a o q ii; rw [hl] at this; cases this
theorem Real.exc {h : Heap} {tb ctx : Option Nat} (r : Real h e (.exc cls tb ctx)) : ∃ o vs, h.get? e = some o ∧ o.cls = cls ∧ o.data = .fields vs ∧ vs[1]? = some (tb.elim .none .ref) ∧ vs[2]? = some (ctx.elim .none .ref) := r
theorem entry_ {head : Value} {hadNext : Bool} {tb ctx : Option Nat} {L : Nat} {Q : Unit → Shared → Prop} (S : St c (env :: outer) H s) (hfr : A.frames = some (env :: outer)) (hf : env.frame = some L) (he : H e = some (.exc cls tb ctx))
    (k : ∀ T s', H T = none → T ≠ e → St c (env :: outer) (upd (upd H T .tb) e (.exc cls (some T) ctx)) s' → Q () s') :
    wpAny (model prog w) A (do let a ← frameOf env; let pl ← entryPlaceOf L hadNext; let b ← EntryCells.newEntry head a .none (rawInt L) .none pl; setField (.ref e) 1 b) Q E s := by
  refine wpAny_bind (wpAny_frameOf_fun (base := hideAll s.heap ((env :: outer).filterMap (·.frame))) hfr (frames_fun S fun x hx L' hL' => hideAll_none _ (List.mem_filterMap.mpr ⟨x, hx, hL'⟩)) hf fun h₁ hs₁ => ?_)
  have S1 := S.slots hs₁
  refine wpAny_bind (wpAny_entryPlaceOf fun pl hpl => ?_)
  unfold EntryCells.newEntry newFields
  refine wpAny_bind (wpAny_newObj_type ?_ (hpl.sizeOk5 _ _ _ _ _))
  have S2 := S1.new (a := h₁.objs.size) (o := .tb) (t := s.toks) (h' := h₁.push { cls := .type "traceback", dict := none, data := .fields ([head, .ref L, .none, rawInt L, .none] ++ (if pl.isEmpty then List.replicate 6 Value.none else pl)).toArray })
    (fun b x q => Heap.get?_push_of_some _ q) (Nat.le_refl _) (by intro i; cases i) ⟨_, _, Heap.get?_push_size _ rfl, rfl, by simp⟩ (by rw [Heap.size_push]; exact Nat.le_succ _)
  have hT : H h₁.objs.size = none := S1.fresh (Nat.le_refl _)
  have hTe : h₁.objs.size ≠ e := fun z => by rw [z, he] at hT; cases hT
  have he2 : upd H h₁.objs.size .tb e = some (.exc cls tb ctx) := upd_other hTe.symm he
  obtain ⟨oe, vs, ho, hc, hd, h1, h2⟩ := S2.get he2
  have hsz : 1 < vs.size := (Array.getElem?_eq_some_iff.mp h1).1
  have hd' := Obj.data_mapFields hd (·.setIfInBounds 1 (Value.ref h₁.objs.size))
  refine wpAny_setField ho hd hsz (k h₁.objs.size _ hT hTe (S2.set (t := s.toks) he2 (Heap.SameBut.update ..) ⟨_, _, Heap.get?_update_self _ ho (Obj.isFreed_of_fields hd'), ?_, hd', by simp [hsz], ?_⟩ rfl rfl))
  · rw [Obj.cls_mapFields]; exact hc
  · rw [Array.getElem?_setIfInBounds_ne (by decide)]; exact h2
theorem setTb (S : St c envs H s) {T : Nat} (hT : H T = some .tb) {i : Nat} {x : Value} {Q : Unit → Shared → Prop} (hi : i ≤ 3) (k : ∀ s', St c envs H s' → Q () s') : wpAny (model prog w) A (setField (.ref T) i x) Q E s := by
  obtain ⟨o, ts, ho, hd, hz⟩ := S.get hT
  refine wpAny_setField ho hd (by omega) (k _ ?_)
  have hd' := Obj.data_mapFields hd (·.setIfInBounds i x)
  have S1 := S.set (o' := .tb) (t := s.toks) hT (Heap.SameBut.update s.heap T (Obj.mapFields (·.setIfInBounds i x)))
    ⟨_, _, Heap.get?_update_self _ ho (Obj.isFreed_of_fields hd'), hd', by simpa using hz⟩ rfl rfl
  refine S1.sub (fun b o q => ?_) S.frs
  by_cases hb : b = T
  · subst hb; rw [hT] at q; cases q; exact ⟨_, upd_self .., .inl rfl⟩
  · exact ⟨o, (upd_ne hb).trans q, .inl rfl⟩
variable {ctx : Option Nat}
noncomputable def FlyT (c : Cx prog w K) (envs : List Env) (H : AH) (e : Nat) (cls : Value) (ctx : Option Nat) (s : Shared) : Prop :=
  H e = none ∧ ∃ T : Nat, T ≠ e ∧ H T = none ∧ St c envs (upd (upd H T .tb) e (.exc cls (some T) ctx)) s
noncomputable def Fly (c : Cx prog w K) (envs : List Env) (H : AH) (e : Nat) (cls : Value) (ctx : Option Nat) (s : Shared) : Prop :=
  FlyT c envs H e cls ctx s ∨ (H e = none ∧ St c envs (upd H e (.exc cls none ctx)) s)
theorem FlyT.frs (F : FlyT c envs H e cls ctx s) : Frs envs H := fun env m => by
  obtain ⟨h1, T, h2, h3, S⟩ := F
  obtain ⟨k, L, l, a, b⟩ := S.envs env m
  refine ⟨k, L, l, a, ?_⟩
  by_cases q : L = e
  · subst q; rw [upd_self] at b; cases b
  · rw [upd_ne q] at b
    by_cases q : L = T
    · subst q; rw [upd_self] at b; cases b
    · rw [upd_ne q] at b; exact b
theorem FlyT.sub {envs' : List Env} (F : FlyT c envs' G e cls ctx s) (h : Sub H G) (f : Frs envs H) : FlyT c envs H e cls ctx s := by
  obtain ⟨h1, T, h2, h3, S⟩ := F
  have n : ∀ x : Nat, G x = none → H x = none := fun x z => by
    cases q : H x with
    | none => rfl
    | some o => obtain ⟨o', y, _⟩ := h x o q; rw [z] at y; cases y
  refine ⟨n e h1, T, h2, n T h3, S.sub (Sub.upd2 (Sub.upd2 h (.inl rfl)) (.inl rfl)) ?_⟩
  exact (f.fresh (n T h3)).fresh (upd_other (fun z => h2 z.symm) (n e h1))
theorem fly_note {L : Nat} {Q : Unit → Shared → Prop} (F : Fly c (env :: outer) H e cls ctx s) (hfr : A.frames = some (env :: outer)) (hf : env.frame = some L) (k : ∀ s', FlyT c (env :: outer) H e cls ctx s' → Q () s') :
    wpAny (model prog w) A (noteFrame (.ref e) env) Q E s := by
  unfold noteFrame
  simp only [hf]
  rcases F with ⟨he, T, hTe, hT, S⟩ | ⟨he, S⟩
  · have e1 : upd (upd H T .tb) e (.exc cls (some T) ctx) e = some (.exc cls (some T) ctx) := upd_self ..
    have eT : upd (upd H T .tb) e (.exc cls (some T) ctx) T = some .tb := upd_other hTe (upd_self ..)
    obtain ⟨oe, vs, ho, hc, hd, h1, -⟩ := (S.get e1).exc
    obtain ⟨oT, ts, hoT, hdT, hzT⟩ := S.get eT
    refine wpAny_bind (wpAny_field ho hd h1 ?_)
    rw [if_pos (show ((some T).elim Value.none Value.ref != Value.none) = true from by simp)]
    refine wpAny_bind (wpAny_field hoT hdT (Array.getElem?_eq_getElem hzT) ?_)
    by_cases hq : (ts[3] == rawInt L) = true
    · rw [if_pos hq]
      exact wpAny_pure (k _ ⟨he, T, hTe, hT, S⟩)
    · rw [if_neg hq]
      refine wpAny_bind (setTb S eT (Nat.le_refl 3) fun s1 S1 => ?_)
      refine entry_ S1 hfr hf e1 fun T' s2 hT' a1 S2 => k _ ?_
      have a2 : T' ≠ T := fun z => by rw [z, eT] at hT'; cases hT'
      have hHT' : H T' = none := by rw [upd_ne a1, upd_ne a2] at hT'; exact hT'
      refine ⟨he, T', a1, hHT', S2.sub ?_ ?_⟩
      · refine Sub.upd2 ?_ (.inl rfl)
        refine Sub.upd2 ?_ (.inl rfl)
        exact ((Sub.refl H).fresh hT).fresh he
      · have f0 : Frs (env :: outer) H := FlyT.frs ⟨he, T, hTe, hT, S⟩
        exact (f0.fresh hHT').fresh (upd_other a1.symm he)
  · have e1 : upd H e (.exc cls none ctx) e = some (.exc cls none ctx) := upd_self ..
    obtain ⟨oe, vs, ho, hc, hd, h1, -⟩ := (S.get e1).exc
    refine wpAny_bind (wpAny_field ho hd h1 ?_)
    rw [if_neg (show ¬ ((none : Option Nat).elim Value.none Value.ref != Value.none) = true from by simp)]
    refine entry_ S hfr hf e1 fun T' s2 hT' a1 S2 => k _ ?_
    have hHT' : H T' = none := by rw [upd_ne a1] at hT'; exact hT'
    have f0 : Frs (env :: outer) H := fun x m => by
      obtain ⟨kk, L', l, a, b⟩ := S.envs x m
      refine ⟨kk, L', l, a, ?_⟩
      by_cases q : L' = e
      · subst q; rw [upd_self] at b; cases b
      · rw [upd_ne q] at b; exact b
    refine ⟨he, T', a1, hHT', S2.sub ?_ ?_⟩
    · refine Sub.upd2 ?_ (.inl rfl)
      refine Sub.upd2 ?_ (.inl rfl)
      exact (Sub.refl H).fresh he
    · exact (f0.fresh hHT').fresh (upd_other a1.symm he)
theorem fly_flight {fr : Option Addr} {Q : Unit → Shared → Prop} (F : FlyT c envs H e cls ctx s) (k : ∀ s', FlyT c envs H e cls ctx s' → Q () s') : wpAny (model prog w) A (setFlight (.ref e) fr) Q E s := by
  obtain ⟨he, T, hTe, hT, S⟩ := F
  have e1 : upd (upd H T .tb) e (.exc cls (some T) ctx) e = some (.exc cls (some T) ctx) := upd_self ..
  have eT : upd (upd H T .tb) e (.exc cls (some T) ctx) T = some .tb := upd_other hTe (upd_self ..)
  obtain ⟨oe, vs, ho, hc, hd, h1, -⟩ := (S.get e1).exc
  unfold setFlight
  refine wpAny_bind (wpAny_field ho hd h1 ?_)
  rw [if_pos (show ((some T).elim Value.none Value.ref != Value.none) = true from by simp)]
  exact setTb S eT (Nat.le_refl 3) fun s' S' => k _ ⟨he, T, hTe, hT, S'⟩
theorem fly_leave {L : Nat} {Q : Unit → Shared → Prop} (F : Fly c (env :: outer) H e cls ctx s) (hfr : A.frames = some (env :: outer)) (hf : env.frame = some L) (k : ∀ s', FlyT c (env :: outer) H e cls ctx s' → Q () s') :
    wpAny (model prog w) A (leaving env (.ref e)) Q E s :=
  wpAny_bind (fly_note F hfr hf fun _ F' => fly_flight F' k)
theorem fly_field {Q : Value → Shared → Prop} (F : FlyT c envs H e cls ctx s) (k : ∀ T : Nat, Q (.ref T) s) : wpAny (model prog w) A (field (.ref e) 1) Q E s := by
  obtain ⟨he, T, hTe, hT, S⟩ := F
  obtain ⟨oe, vs, ho, hc, hd, h1, -⟩ := (S.get (upd_self ..)).exc
  exact wpAny_field ho hd h1 (k T)
theorem fly_came (F : FlyT c envs H e cls ctx s) (k : ∀ s', FlyT c envs H e cls ctx s' → E (.ref e) s') : cameBackBy (model prog w) A env E (.ref e) s := by
  unfold cameBackBy
  refine wpAny_bind (fly_field F fun T => ?_)
  rw [if_neg (by simp)]
  exact fly_flight F k
theorem fly_noted {L : Nat} (F : Fly c (env :: outer) H e cls ctx s) (hfr : A.frames = some (env :: outer)) (hf : env.frame = some L) (k : ∀ s', FlyT c (env :: outer) H e cls ctx s' → E (.ref e) s') : notedBy (model prog w) A env E (.ref e) s :=
  fly_note F hfr hf k
theorem fly_passOn {α : Type} {what : String} {Q : α → Shared → Prop} (F : FlyT c envs H e cls ctx s) (k : ∀ s', FlyT c envs H e cls ctx s' → E (.ref e) s') : wpAny (model prog w) A (PySem.passOn what (.ref e) env) Q E s := by
  unfold PySem.passOn
  refine wpAny_bind (fly_field F fun T => ?_)
  rw [if_neg (by simp)]
  refine wpAny_bind (fly_flight F fun s' F' => wpAny_throw (k s' F'))
theorem newExc_fly {h' : Heap} {t : Nat} {X : String} (S : St c (env :: outer) H s) (x : Heap.NewExc s.heap h' e X) : Fly c (env :: outer) H e (.type X) none { s with heap := h', toks := t } := by
  obtain ⟨ob, tt, ho, hc, hd⟩ := x.there
  obtain ⟨_, L, l, _, h2⟩ := S.envs env (.head _)
  obtain ⟨m, ⟨o1, es, ep, ho1, _⟩, _⟩ := S.get h2
  exact .inr ⟨S.freshG x.new, S.newG x.keeps x.new (by intro i; cases i) (by intro i; cases i) ⟨ob, _, ho, hc, hd, rfl, rfl⟩
    (Nat.le_of_lt (Nat.lt_of_le_of_lt ((S.low L _ h2).2.2 rfl) (Heap.lt_size (x.keeps _ _ ho1))))⟩
theorem list_pop0_empty {q : Nat} {u : Tok} {Q : Value → Shared → Prop} (S : St c (env :: outer) H s) (hh : A.handled = none) (e : H q = some (.list [])) (h : ∀ x s', Fly c (env :: outer) H x (.type "IndexError") none s' → E (.ref x) s') :
    wpAny (model prog w) A (call (.builtin "list.pop") [.ref q, .int 0 u]) Q E s := by
  obtain ⟨vs, n, hv, hm⟩ := S.get e
  have hz : vs.isEmpty = true := by
    have : vs.toList = [] := List.map_eq_nil_iff.mp hm
    simpa using this
  refine call_meets PySem.F.slot_list_pop ⟨_, hv, rfl⟩ PySem.F.entry_list_pop (PySem.F.args_list_pop_2 _ _) (PySem.AutoSeq1.list_pop_list_int_1 q _ n 0 u (by decide +kernel) hz) ⟨hv, hh, fun h' tk x hx => h _ _ (newExc_fly S hx)⟩
end
end Mine
end
section
open PySem PySem.W PyProof.Rows PySem.Calls
set_option linter.unusedVariables false
set_option Elab.async false
namespace Mine
section
variable {prog : Program} {w : World} {K : Frag} {c : Cx prog w K} {envs outer : List Env} {env : Env} {H G : AH} {A : Around} {E : Value → Shared → Prop} {s : Shared}
theorem unchain_entry : entryFor PySem.table "proto.unchain" = some PySem.Builtin.«proto.unchain» := entryFor_of_tree (by kernel_rfl)
noncomputable def Hd (A : Around) (H : AH) : Prop := A.handled = none ∨ ∃ h : Nat, ∃ cls tb ctx, A.handled = some (.ref h) ∧ H h = some (.exc cls tb ctx) ∧
  (ctx = none ∨ ∃ g : Nat, ∃ cls' tb', ctx = some g ∧ g ≠ h ∧ H g = some (.exc cls' tb' none))
theorem Hd.sub {H G : AH} (d : Hd A H) (h : Sub H G) : Hd A G := by
  have one : ∀ (x : Nat) a b d, H x = some (.exc a b d) → G x = some (.exc a b d) := fun x a b d q => by
    obtain ⟨o', e, l⟩ := h x _ q
    rcases l with rfl | ⟨l, l', z, _⟩
    · exact e
    · cases z
  rcases d with d | ⟨h, cls, tb, ctx, e, e1, r⟩
  · exact .inl d
  · refine .inr ⟨h, cls, tb, ctx, e, one _ _ _ _ e1, ?_⟩
    rcases r with r | ⟨g, c', t', a, b, d⟩
    · exact .inl r
    · exact .inr ⟨g, c', t', a, b, one _ _ _ _ d⟩
theorem Hd.fresh {H : AH} {a : Nat} {x : AO} (d : Hd A H) (e : H a = none) : Hd A (upd H a x) := d.sub ((Sub.refl H).fresh e)
theorem raise_ {α : Type} {x : Nat} {cls : Value} {Q : α → Shared → Prop} (d : Hd A H) (hx : H x = none) (S : St c envs (upd H x (.exc cls none none)) s)
    (k : ∀ ctx s', A.handled = ctx.map Value.ref → St c envs (upd H x (.exc cls none ctx)) s' → E (.ref x) s') : wpAny (model prog w) A (raiseNew (.ref x) : Sem α) Q E s := by
  unfold raiseNew
  refine wpAny_bind (wpAny_handled ?_)
  rcases d with d | ⟨h, c1, tb, ctx, e, e1, r⟩
  · rw [d]
    exact wpAny_bind (wpAny_pure (wpAny_throw (k none _ (by rw [d]; rfl) S)))
  · rw [e]
    have hne : h ≠ x := fun z => by rw [z, hx] at e1; cases e1
    have hb : ((Value.ref h) != (Value.ref x)) = true := by simpa using hne
    dsimp only
    rw [if_pos hb]
    have ex : upd H x (.exc cls none none) x = some (.exc cls none none) := upd_self ..
    obtain ⟨oh, vh, hoh, hch, hdh, h1h, h2h⟩ := S.get (upd_other hne e1 : upd H x (.exc cls none none) h = _)
    refine wpAny_bind (wpAny_holding (wpAny_runValue (codeAny_builtin unchain_entry ?_)))
    have fin : wpAny (model prog w) A (do updateField x 2 (.ref h); throw (.ref x) : Sem α) Q E s := by
      obtain ⟨o, vs, ho, hc, hd, h1, h2⟩ := S.get ex
      have hz : 2 < vs.size := (Array.getElem?_eq_some_iff.mp h2).1
      refine wpAny_bind ?_
      show wpAny _ _ (setField (.ref x) 2 (.ref h)) _ _ _
      have hd' := Obj.data_mapFields hd (·.setIfInBounds 2 (Value.ref h))
      refine wpAny_setField ho hd hz (wpAny_throw (k (some h) _ e ?_))
      have S' := S.set (o' := .exc cls none (some h)) (t := s.toks) ex (Heap.SameBut.update s.heap x (Obj.mapFields (·.setIfInBounds 2 (Value.ref h))))
        ⟨_, _, Heap.get?_update_self _ ho (Obj.isFreed_of_fields hd'), by rw [Obj.cls_mapFields]; exact hc, hd', by rw [Array.getElem?_setIfInBounds_ne (by decide)]; exact h1, by simp [hz]⟩ rfl rfl
      rw [upd_upd] at S'
      exact S'
    have fin' : ∀ u : Value, wpAny (model prog w) A (do updateField x 2 (.ref h); throw (.ref x) : Sem α) Q E s := fun _ => fin
    unfold PySem.Builtin.«proto.unchain»
    dsimp only
    refine wpAny_bind (wpAny_field hoh hdh h2h ?_)
    rcases r with rfl | ⟨g, c2, t2, rfl, hgh, e2⟩
    · rw [if_pos (show ((none : Option Nat).elim Value.none Value.ref == Value.none) = true from rfl)]
      exact wpAny_pure fin
    · have hgx : g ≠ x := fun z => by rw [z, hx] at e2; cases e2
      rw [if_neg (show ¬ ((some g).elim Value.none Value.ref == Value.none) = true from Bool.false_ne_true)]
      rw [if_neg (show ¬ ((some g).elim Value.none Value.ref == Value.ref x) = true from by simpa using hgx)]
      rw [if_neg (show ¬ ((some g).elim Value.none Value.ref == Value.ref h) = true from by simpa using hgh)]
      refine wpAny_bind (wpAny_pure (wpAny_pure ⟨by kernel_rfl, codeAny_builtin unchain_entry ?_⟩))
      obtain ⟨og, vg, hog, hcg, hdg, h1g, h2g⟩ := S.get (upd_other hgx e2 : upd H x (.exc cls none none) g = _)
      unfold PySem.Builtin.«proto.unchain»
      dsimp only
      refine wpAny_bind (wpAny_field hog hdg h2g ?_)
      rw [if_pos (show ((none : Option Nat).elim Value.none Value.ref == Value.none) = true from rfl)]
      exact wpAny_pure fin
end
end Mine
end
section
open PySem PySem.W PyProof.Rows PySem.Calls
set_option linter.unusedVariables false
set_option Elab.async false
namespace Mine
section
variable {prog : Program} {w : World} {K : Frag} {c : Cx prog w K} {envs outer : List Env} {env : Env} {H G : AH} {A : Around} {E : Value → Shared → Prop} {s : Shared}
theorem St.off {a : Nat} {o : AO} {h' : Heap} (S : St c envs (upd H a o) s) (n : H a = none) (hi : o.isInst = false) (hn : o.isNs = false) (hs : Heap.SameBut a s.heap h') : St c envs H { s with heap := h' } := by
  have ea : upd H a o a = some o := upd_self ..
  have neq : ∀ (b : Nat) x, H b = some x → b ≠ a := fun b x q z => by rw [z, n] at q; cases q
  have up : ∀ (b : Nat) x, H b = some x → upd H a o b = some x := fun b x q => upd_other (neq b x q) q
  refine ⟨fun b x q => (hs.2 b fun z => ?_).trans (S.base b x q), fun b x q => ?_, fun b x q => S.low b x (up b x q), fun b x q i => ?_, fun env m => ?_, S.gens, S.drawn, S.os, hs.1 ▸ S.size⟩
  · have := (S.low a _ ea).1; rw [z, this] at q; cases q
  · refine (S.real b x (up b x q)).keep fun d hd y hy => (hs.2 d ?_).trans hy
    rcases hd with rfl | ⟨i, rfl⟩
    · exact neq _ _ q
    · intro z; have := S.excl b x (up b x q) i; rw [z, ea] at this; cases this
  · have := S.excl b x (up b x q) i
    by_cases z : b - 1 = a
    · rw [z, ea] at this; cases this
    · rw [upd_ne z] at this; exact this
  · obtain ⟨k, L, l, f, q⟩ := S.envs env m
    refine ⟨k, L, l, f, ?_⟩
    by_cases z : L = a
    · rw [z, ea] at q; cases q; cases hn
    · rw [upd_ne z] at q; exact q
theorem stop_ {α : Type} {Q : α → Shared → Prop} (S : St c envs H s) (d : Hd A H) (k : ∀ x s', St c envs H s' → s'.TypeIs (.ref x) "StopIteration" → E (.ref x) s') :
    wpAny (model prog w) A (newExc (.type "StopIteration") [] >>= fun e => (raiseNew e : Sem α)) Q E s := by
  refine wpAny_bind ?_
  simp only [newExc, newTuple]
  refine wpAny_bind (wpAny_newObj_type ?_ (by size_fits))
  refine wpAny_bind (m := firstArgMember _ _) (wpAny_of_eq (a := Value.none) (by first | rfl | (simp only [firstArgMember]; rfl)) ?_)
  refine wpAny_newObj_type ?_ (by size_fits)
  have g1 : ∀ b x, s.heap.get? b = some x → (s.heap.push { cls := .type "tuple", data := .seq ([] : List Value).toArray }).get? b = some x := fun b x q => Heap.get?_push_of_some _ q
  generalize hh : s.heap.push { cls := .type "tuple", data := .seq ([] : List Value).toArray } = h1 at g1 ⊢
  have z1 : s.heap.objs.size ≤ h1.objs.size := by subst hh; rw [Heap.size_push]; exact Nat.le_succ _
  have hx : H h1.objs.size = none := S.fresh z1
  have S1 := S.new (a := h1.objs.size) (o := .exc (.type "StopIteration") none none) (t := s.toks)
    (h' := h1.push { cls := .type "StopIteration", data := .fields (#[.ref s.heap.objs.size, .none, .none, .none, .bool false, .none] ++ ownMembersOf (.type "StopIteration") []) })
    (fun b x q => Heap.get?_push_of_some _ (g1 b x q)) z1 (by intro i; cases i)
    ⟨_, _, Heap.get?_push_size _ rfl, rfl, rfl, rfl, rfl⟩ (by rw [Heap.size_push]; omega)
  refine raise_ d hx S1 fun ctx s' _ S' => ?_
  obtain ⟨o, vs, ho, hc, hd, _⟩ := S'.get (upd_self ..)
  exact k _ _ (S'.weak (fun b x q => upd_other (fun z => by rw [z, hx] at q; cases q) q) fun en m => ⟨m, fun L l hf q => by
    by_cases z : L = h1.objs.size
    · rw [z, upd_self] at q; cases q
    · rw [upd_ne z] at q; exact q⟩) ⟨o, ho, hc⟩
theorem iter_list {l : Nat} {xs : List Value} {Q : Value → Shared → Prop} (S : St c envs H s) (hl : H l = some (.list xs)) (k : ∀ it s', H it = none → St c envs (upd H it (.iter l 0)) s' → Q (.ref it) s') :
    wpAny (model prog w) A (pyIter (.ref l)) Q E s := by
  obtain ⟨vs, ht, hm⟩ := S.list hl
  refine wpAny_pyIter_list ht (k _ _ (S.fresh (Nat.le_refl _)) ?_)
  exact S.new (t := s.toks) (fun b x q => Heap.get?_push_of_some _ q) (Nat.le_refl _) (by intro i; cases i) ⟨_, Heap.get?_push_size _ rfl, rfl, rfl⟩ (by rw [Heap.size_push]; exact Nat.le_succ _)
theorem next_item {it l i : Nat} {xs : List Value} {x : Value} {Q : Option Value → Shared → Prop} (S : St c envs H s) (hit : H it = some (.iter l i)) (hl : H l = some (.list xs)) (hx : xs[i]? = some x)
    (k : ∀ v s', er v = x → St c envs (upd H it (.iter l (i + 1))) s' → Q (some v) s') : wpAny (model prog w) A (pyNext (.ref it)) Q E s := by
  obtain ⟨vs, ht, hm⟩ := S.list hl
  obtain ⟨y, hy, he⟩ := map_get hm hx
  exact wpAny_pyNext_list_item (S.get hit) ht (by simpa using hy) fun h' hi hs => k y _ he (S.set (t := s.toks) hit hs hi rfl rfl)
theorem next_end {it l i : Nat} {xs : List Value} {Q : Option Value → Shared → Prop} (S : St c envs (upd H it (.iter l i)) s) (hit : H it = none) (hl : H l = some (.list xs)) (hx : xs.length ≤ i) (d : Hd A H)
    (k : ∀ s', St c envs H s' → Q none s') : wpAny (model prog w) A (pyNext (.ref it)) Q E s := by
  obtain ⟨vs, ht, hm⟩ := S.list (upd_other (fun z => by rw [z, hit] at hl; cases hl) hl : upd H it (.iter l i) l = _)
  have hI : s.heap.IsListIter it l i := S.get (upd_self ..)
  obtain ⟨o, ho, hc, hd⟩ := id hI
  obtain ⟨ol, hol, _, nl, hdl⟩ := ht
  unfold pyNext
  refine wpAny_bind (wpAny_attempt (wpAny_callSpecial?_slot (name := Str.ofString "__next__") hI.typeIs slot_listiter_next
    (wpAny_call_entry slot_listiter_next hI.typeIs entry_listiter_next ?_ (args_listiter_next _))))
  show wpAny _ _ (field (.ref it) 0 >>= _) _ _ s
  refine wpAny_bind (wpAny_field ho hd (x := .ref l) rfl ?_)
  show wpAny _ _ (if (Value.ref l == Value.none) = true then _ else _) _ _ s
  rw [if_neg (show ¬ ((Value.ref l == Value.none) = true) from Bool.false_ne_true)]
  show wpAny _ _ (field (.ref it) 1 >>= _) _ _ s
  refine wpAny_bind (wpAny_field ho hd (x := .int i 0) rfl ?_)
  show wpAny _ _ (seqItems? (.ref l) >>= _) _ _ s
  refine wpAny_bind (wpAny_seqItems hol hdl ?_)
  have hn : vs.toArray[(i : Int).toNat]? = none := by
    rw [Int.toNat_natCast]
    have : vs.length = xs.length := by rw [← hm, List.length_map]
    simp; omega
  simp only [hn]
  refine wpAny_bind (wpAny_rule (wpAny_bind (wpAny_setField ho hd (by simp) ?_)))
  show wpAny _ _ (newExc (.type "StopIteration") [] >>= _) _ _ _
  have S1 := S.off hit rfl rfl (Heap.SameBut.update s.heap it (Obj.mapFields (·.setIfInBounds 0 Value.none)))
  refine stop_ S1 (A := A.in1) d fun x s' S' ti => ?_
  refine wpAny_bind (wpAny_isInstance (T := "StopIteration") (b := true) ti isSubtype_stop ?_)
  exact wpAny_pure (k _ S')
theorem unpackItems_ {t : Nat} {xs : List Value} {Q : List Value → Shared → Prop} (S : St c envs H s) (ht : H t = some (.tup xs)) (d : Hd A H)
    (k : ∀ vs s', vs.map er = xs → St c envs H s' → Q vs s') {n : Nat} (hn : n = xs.length) : wpAny (model prog w) A (unpackItems (.ref t) n none) Q E s := by
  obtain ⟨vs, hT, hm⟩ := S.tup ht
  obtain rfl : n = vs.toArray.size := by rw [hn, ← hm]; simp
  have hlt : t ≠ s.heap.objs.size := by obtain ⟨o, ho, _⟩ := hT; exact Nat.ne_of_lt (Heap.lt_size ho)
  have hfr : H s.heap.objs.size = none := S.fresh (Nat.le_refl _)
  unfold unpackItems
  refine wpAny_bind ?_
  unfold notIterableAtAll
  refine wpAny_bind (wpAny_specialOf hT.typeIs slot_tuple_iter.lookup ?_)
  refine wpAny_pure ?_
  simp only [Bool.false_eq_true, if_false]
  refine wpAny_bind (wpAny_holding (iter_tuple hT ?_))
  have S1 : St c envs (upd H s.heap.objs.size (.titer t 0)) { s with heap := s.heap.push { cls := .type "tuple_iterator", data := .fields #[.ref t, .int 0 0] } } := S.new (t := s.toks) (fun b x q => Heap.get?_push_of_some _ q) (Nat.le_refl _) (by intro i; cases i) ⟨_, Heap.get?_push_size _ rfl, rfl, rfl⟩ (by rw [Heap.size_push]; exact Nat.le_succ _)
  refine wpAny_bind (wpAny_holding (draw_tuple hlt vs.toArray.size 0 _ _ ⟨_, Heap.get?_push_size _ rfl, rfl, rfl⟩ (hT.push _) (by omega) fun h₁ hit₁ hs₁ => ?_))
  have hall : List.take vs.toArray.size (List.drop 0 vs.toArray.toList) = vs := by
    rw [List.drop_zero]; simp
  rw [hall, if_neg (by simp)]
  have ht₁ : IsTup h₁ t vs.toArray := (hT.push _).extBut hs₁.extBut hlt
  have S2 := S1.off (h' := h₁) hfr rfl rfl hs₁
  obtain ⟨o, ho, hc, hd⟩ := id hit₁
  obtain ⟨ol, hol, _, nl, hdl⟩ := ht₁
  refine wpAny_bind (wpAny_holding ?_)
  unfold pyNext
  refine wpAny_bind (wpAny_attempt (wpAny_callSpecial?_slot (name := Str.ofString "__next__") hit₁.typeIs slot_tupleiter_next
    (wpAny_call_entry slot_tupleiter_next hit₁.typeIs entry_tupleiter_next ?_ (args_tupleiter_next _))))
  show wpAny _ _ (field (.ref s.heap.objs.size) 0 >>= _) _ _ _
  refine wpAny_bind (wpAny_field ho hd (x := .ref t) rfl ?_)
  show wpAny _ _ (if (Value.ref t == Value.none) = true then _ else _) _ _ _
  rw [if_neg (show ¬ ((Value.ref t == Value.none) = true) from Bool.false_ne_true)]
  show wpAny _ _ (field (.ref s.heap.objs.size) 1 >>= _) _ _ _
  refine wpAny_bind (wpAny_field ho hd (x := .int (0 + vs.toArray.size : Nat) 0) rfl ?_)
  show wpAny _ _ (seqItems? (.ref t) >>= _) _ _ _
  refine wpAny_bind (wpAny_seqItems hol hdl ?_)
  have hn : vs.toArray[((0 + vs.toArray.size : Nat) : Int).toNat]? = none := by rw [Int.toNat_natCast]; simp
  simp only [hn]
  refine wpAny_bind (wpAny_rule (wpAny_bind (wpAny_setField ho hd (by simp) ?_)))
  show wpAny _ _ (newExc (.type "StopIteration") [] >>= _) _ _ _
  have S3 := S1.off (h' := h₁.update s.heap.objs.size (Obj.mapFields (·.setIfInBounds 0 Value.none))) hfr rfl rfl (hs₁.trans (Heap.SameBut.update ..))
  refine stop_ S3 (A := A.in1) d fun x s' S' ti => ?_
  refine wpAny_bind (wpAny_isInstance (T := "StopIteration") (b := true) ti isSubtype_stop ?_)
  refine wpAny_pure ?_
  simp only [Option.isSome_none, Bool.false_eq_true, if_false]
  exact wpAny_pure (k vs s' hm S')
theorem unpack_tup {elts : List Expr} {x1} {pos : Pos} {t : Nat} {xs : List Value} {Q : Unit → Shared → Prop} (S : St c envs H s) (ht : H t = some (.tup xs)) (d : Hd A H)
    (hn : (assignEach elts env).length = xs.length) (hstar : (assignEach elts env).findIdx? (·.1) = none)
    (k : ∀ vs s', vs.map er = xs → St c envs H s' → wpAny (model prog w) A (assignInOrder ((assignEach elts env).map (·.2)) vs) Q E s') :
    wpAny (model prog w) A (assign (.Tuple elts x1 pos) env (.ref t)) Q E s := by
  rw [assign_Tuple]
  unfold unpack
  rw [hstar]
  exact wpAny_bind (wpAny_standAt (wpAny_bind (wpAny_holding (unpackItems_ S ht d k hn))))
noncomputable def LoopAt (c : Cx prog w K) (envs : List Env) (I : Nat → AH → Prop) (it l i : Nat) (s : Shared) : Prop := ∃ G, I i G ∧ G it = none ∧ St c envs (upd G it (.iter l i)) s
theorem LoopAt.mk {I : Nat → AH → Prop} {it l i : Nat} (h : I i G) (n : G it = none) (S : St c envs (upd G it (.iter l i)) s) : LoopAt c envs I it l i s := ⟨G, h, n, S⟩
theorem own_go {target : Expr} {it l i : Nat} {v : Value} {Q : Unit → Shared → Prop} (hit : s.heap.IsListIter it l i) (hQ : Q () s) : wpAny (model prog w) A (letOwnedTupleGo target (.ref it) v) Q E s := by
  obtain ⟨o, ho, hc, hd⟩ := hit
  have go : ∀ a, wpAny (model prog w) A (do
      let o ← load it
      match o.cls, o.data with
      | .type n, .fields vs =>
        if ["enumerate", "zip", "dict_itemiterator", "dict_reverseitemiterator", "odict_iterator", "itertools.zip_longest", "itertools.pairwise"].contains n && vs[0]? == some (rawInt a) then
          rule "for.unpacks-the-owned-tuple"
          updateField it 0 .none
      | _, _ => pure ()) Q E s := fun a => by
    refine wpAny_bind (wpAny_load ho ?_)
    rw [hc, hd]
    exact wpAny_pure hQ
  cases target <;> first
    | exact wpAny_pure hQ
    | (cases v <;> first | exact go _ | exact wpAny_pure hQ)
theorem for_list {target : Expr} {body orelse : List Stmt} {l : Nat} {R : Result → Shared → Prop} (xs : List Value) (I : Nat → AH → Prop) (S : St c envs H s) (hI : I 0 H)
    (hl : ∀ i G, I i G → G l = some (.list xs)) (hd : ∀ i G, I i G → Hd A G)
    (turn : ∀ (it i : Nat) G s' v x, I i G → G it = none → G l = some (.list xs) → xs[i]? = some x → er v = x → St c envs (upd G it (.iter l (i + 1))) s' →
      wpAny (model prog w) A (assign target env v) (fun _ s₂ => wpAny (model prog w) A (execs body env) (fun f s₃ => match f with
          | .next | .cont => LoopAt c envs I it l (i + 1) s₃
          | .brk => R (.ok .next) s₃
          | .ret v => R (.ok (.ret v)) s₃) (notedBy (model prog w) A env fun e s' => R (.error e) s') s₂) (notedBy (model prog w) A env fun e s' => R (.error e) s') s')
    (fin : ∀ G s', I xs.length G → St c envs G s' → wpAny (model prog w) A (execs orelse env) (fun f s₃ => R (.ok f) s₃) (notedBy (model prog w) A env fun e s' => R (.error e) s') s') :
    wpAny (model prog w) A (pyIter (.ref l)) (fun it s₂ => codeAny (model prog w) A (.forLoop target it body orelse env) R s₂) E s := by
  refine iter_list S (hl 0 H hI) fun it s1 h0 S1 => ?_
  refine codeAny_forLoop_any (fun n s' => ∃ i, n = xs.length - i ∧ i ≤ xs.length ∧ LoopAt c envs I it l i s') ?_ xs.length ⟨0, rfl, Nat.zero_le _, H, hI, h0, S1⟩
  rintro n s' ⟨i, rfl, hi, G, hG, hn, S'⟩
  have hGl := hl i G hG
  by_cases hlt : i < xs.length
  · have hx : xs[i]? = some xs[i] := List.getElem?_eq_getElem hlt
    have hG2 : upd G it (.iter l i) l = some (.list xs) := upd_other (fun z => by rw [z, hn] at hGl; cases hGl) hGl
    refine next_item S' (upd_self ..) hG2 hx fun v s2 hv S2 => ?_
    rw [upd_upd] at S2
    refine own_go (S2.get (upd_self ..)) ?_
    refine wpAny_mono (turn it i G s2 v _ hG hn hGl hx hv S2) (fun _ s3 h3 => wpAny_mono h3 (fun f s4 h4 => ?_) fun _ _ x => x) fun _ _ x => x
    cases f with
    | next => exact ⟨_, by omega, i + 1, rfl, by omega, h4⟩
    | cont => exact ⟨_, by omega, i + 1, rfl, by omega, h4⟩
    | brk => exact h4
    | ret v => exact h4
  · have he : i = xs.length := by omega
    subst he
    exact next_end S' hn hGl (Nat.le_refl _) (hd _ _ hG) fun s2 S2 => fin G s2 hG S2
end
end Mine
end
section
open PySem PySem.W PyProof.Rows PySem.Calls
set_option linter.unusedVariables false
set_option Elab.async false
namespace Mine
section
variable {prog : Program} {w : World} {K : Frag} {c : Cx prog w K} {envs outer : List Env} {env : Env} {H G : AH} {A : Around} {E : Value → Shared → Prop} {s : Shared} {e L : Nat} {cls : Value} {ctx : Option Nat}
theorem FlyT.open (F : FlyT c envs H e cls ctx s) : ∃ T : Nat, H e = none ∧ H T = none ∧ T ≠ e ∧ St c envs (upd (upd H T .tb) e (.exc cls (some T) ctx)) s := by
  obtain ⟨a, T, b, d, S⟩ := F; exact ⟨T, a, d, b, S⟩
theorem FlyT.close {T : Nat} (S : St c envs (upd (upd H T .tb) e (.exc cls (some T) ctx)) s) (a : H e = none) (d : H T = none) (b : T ≠ e) : FlyT c envs H e cls ctx s := ⟨a, T, b, d, S⟩
theorem fin_raised {f₀ : Stmt} {fs : List Stmt} {Q : Flow → Shared → Prop} (F : Fly c (env :: outer) H e cls ctx s) (hfr : A.frames = some (env :: outer)) (hf : env.frame = some L)
    (k : ∀ T s', H e = none → H T = none → T ≠ e → St c (env :: outer) (upd (upd H T .tb) e (.exc cls (some T) ctx)) s' →
      wpAny (model prog w) (A.mark (some (.ref e))) (execs (f₀ :: fs) env)
        (fun g s₂ => match g with | .next => wpAny (model prog w) A (PySem.passOn "try.finally" (.ref e) env) Q E s₂ | g => wpAny (model prog w) A (setFlight (.ref e) none) (fun _ s₃ => Q g s₃) E s₂) (notedBy (model prog w) (A.mark (some (.ref e))) env (cameBackBy (model prog w) A env E)) s') :
    FinallyRaised prog w A E env (f₀ :: fs) Q (.ref e) s := by
  refine ⟨ref_ne_byPass e, fly_note F hfr hf fun s1 F1 => fly_flight F1 fun s2 F2 => ?_⟩
  obtain ⟨T, a, b, d, S⟩ := F2.open
  exact k T s2 a b d S
theorem caught_B {X T' : String} {x : Str} {np pos : Pos} {b₀ : Stmt} {suite : List Stmt} {rest : List ExceptHandler} {Q : Flow → Shared → Prop} (F : Fly c (env :: outer) H e (.type X) ctx s) (hfr : A.frames = some (env :: outer)) (hf : env.frame = some L)
    (hexc : isSubtype (.type T') (.type "BaseException") = pure true) (hnt : isSubtype (.type ((Manifest.find? T').elim "type" fun y => y.metatype)) (.type "tuple") = pure false) (hsub : isSubtype (.type X) (.type T') = pure true)
    (en : nsIn K mainGlobals x = some none) (hv : bootBuiltins x = some (.type T')) (hn : x ≠ "__name__")
    (k : ∀ T s', H e = none → H T = none → T ≠ e → St c (env :: outer) (upd (upd H T .tb) e (.exc (.type X) (some T) ctx)) s' →
      wpAny (model prog w) (A.mark (some (.ref e))) (execs (b₀ :: suite) env) Q (notedBy (model prog w) (A.mark (some (.ref e))) env (cameBackBy (model prog w) A env E)) s')
    (hg : env.globals = mainGlobals := by rfl) (hb : env.builtins = builtinsNs := by rfl) (hk : env.scope.kind = .function := by rfl) (hx : env.kindOf x = some .globalImplicit := by rfl) (hd : (x == ("__debug__" : Str)) = false := by decide) :
    wpAny (model prog w) A (noteFrame (.ref e) env) (fun _ s₂ => wpAny (model prog w) A (setFlight (.ref e) none) (fun _ s₃ =>
        wpAny (model prog w) A (handleBy (.ref e) env (.ExceptHandler (some (.Name x np)) none (b₀ :: suite) pos :: rest)) Q E s₃) E s₂) E s := by
  refine fly_note F hfr hf fun s1 F1 => fly_flight F1 fun s2 F2 => ?_
  obtain ⟨T, a, b, d, S⟩ := F2.open
  obtain ⟨o, vs, ho, hc, hdt, _⟩ := (S.get (upd_self ..)).exc
  refine wpAny_handleBy_builtin (X := X) (T := T') (b := true) hexc hnt hsub (nm_builtin S en hv hn ⟨rfl, ⟨o, ho, hc⟩, ?_⟩ hg hb hk hx hd)
  refine fly_flight (A := A.mark (some (.ref e))) F2 fun s3 F3 => ?_
  obtain ⟨T, a, b, d, S⟩ := F3.open
  exact k T s3 a b d S
theorem caught_R {C : Addr} {bmB : List Value} {newId : String} {x : Str} {np pos : Pos} {b₀ : Stmt} {suite : List Stmt} {rest : List ExceptHandler} {Q : Flow → Shared → Prop} (F : Fly c (env :: outer) H e (.ref C) ctx s) (hfr : A.frames = some (env :: outer)) (hf : env.frame = some L)
    (en : nsIn K mainGlobals x = some (some (.ref C))) (q : excIn K C bmB newId = true) (hbase : bmB.contains (.type "BaseException") = true)
    (k : ∀ T s', H e = none → H T = none → T ≠ e → St c (env :: outer) (upd (upd H T .tb) e (.exc (.ref C) (some T) ctx)) s' →
      wpAny (model prog w) (A.mark (some (.ref e))) (execs (b₀ :: suite) env) Q (notedBy (model prog w) (A.mark (some (.ref e))) env (cameBackBy (model prog w) A env E)) s')
    (hg : env.globals = mainGlobals := by rfl) (hk : env.scope.kind = .function := by rfl) (hx : env.kindOf x = some .globalImplicit := by rfl) (hd : (x == ("__debug__" : Str)) = false := by decide) :
    wpAny (model prog w) A (noteFrame (.ref e) env) (fun _ s₂ => wpAny (model prog w) A (setFlight (.ref e) none) (fun _ s₃ =>
        wpAny (model prog w) A (handleBy (.ref e) env (.ExceptHandler (some (.Name x np)) none (b₀ :: suite) pos :: rest)) Q E s₃) E s₂) E s := by
  refine fly_note F hfr hf fun s1 F1 => fly_flight F1 fun s2 F2 => ?_
  obtain ⟨T, a, b, d, S⟩ := F2.open
  obtain ⟨o, vs, ho, hc, hdt, _⟩ := (S.get (upd_self ..)).exc
  refine wpAny_handleBy_cons (codeAny_handlers_test (nm_global S en ?_ hg hk hx hd)) (by intro q; cases q)
  obtain ⟨bm, N, nm, qn, bs, hdct, sn, sub, ab, col, dd, k0, k1, k2, k3, k5, mN, hC, hN, hni, TL⟩ := (own_of_in S.inK S.top en q).obj
  obtain ⟨hp, g, dw, tk, os⟩ := s2
  refine wpAny_excMatches_sub_self hC ho hc (TL.hasType hbase) (codeAny_handlers_suite ?_)
  refine fly_flight (A := A.mark (some (.ref e))) F2 fun s3 F3 => ?_
  obtain ⟨T, a, b, d, S⟩ := F3.open
  exact k T s3 a b d S
section
variable {nm qn : Str} {C N : Addr} {bs bm bmB : List Value} {hdct : Bool} {sn : List Str} {sub : List Value} {ab : Bool} {col : Option Bool} {dd : Option Addr} {k0 k1 k2 k3 k5 : Option Value} {B newId initId : String}
theorem raiseStmt_H {x : Sem Value} {Q : Flow → Shared → Prop} (hbase : bm.contains (.type "BaseException") = true)
    (h : wpAny (model prog w) A x (fun v s₁ => ∃ e t, v = .ref e ∧ s₁.heap.get? C = some (excClassObj nm qn C N bs bm hdct sn sub ab col dd k0 k1 k2 k3 k5 newId) ∧
      s₁.heap.get? e = some { cls := .ref C, data := .fields #[.ref t, .none, .none, .none, .bool false, .none] } ∧ wpAny (model prog w) A (raiseNew (.ref e) : Sem Flow) Q E s₁) E s) :
    wpAny (model prog w) A (raiseStmt env (some x) none) Q E s := by
  have hcB : (Value.ref C :: bm).contains (.type "BaseException") = true := by rw [List.contains_cons, hbase, Bool.or_true]
  unfold raiseStmt
  refine wpAny_bind (wpAny_mono h (fun v s₁ h₁ => ?_) fun _ _ x => x)
  obtain ⟨e, t, rfl, hC, he, hE⟩ := h₁
  obtain ⟨hp, g, d, tk, os⟩ := s₁
  repeat (first | with_reducible refine wpAny_loadPart_at he ?_ | with_reducible refine wpAny_loadPart_at hC ?_ | (with_reducible refine wpAny_isSubtype_exc hC ?_; rw [hcB]) | wp_step)
  exact hE
end
theorem St.sizeKeep {h' : Heap} (S : St c (env :: outer) H s) (hk : ∀ b o, s.heap.get? b = some o → h'.get? b = some o) : c.base.objs.size ≤ h'.objs.size := by
  obtain ⟨_, L, l, _, h2⟩ := S.envs env (.head _)
  obtain ⟨m, ⟨o1, es, ep, ho1, _⟩, _⟩ := S.get h2
  exact Nat.le_of_lt (Nat.lt_of_le_of_lt ((S.low L _ h2).2.2 rfl) (Heap.lt_size (hk _ _ ho1)))
theorem Raise_ {C : Addr} {bmB : List Value} {B newId initId : String} {x : Str} {m : Str} {kk : _} {np cpos pos pm : Pos} {Q : Flow → Shared → Prop} (S : St c (env :: outer) H s) (d : Hd A H)
    (en : nsIn K mainGlobals x = some (some (.ref C))) (q : excIn K C bmB newId = true) (FB : ExcBaseFacts B newId initId bmB)
    (k : ∀ e ctx s', H e = none → A.handled = ctx.map Value.ref → St c (env :: outer) (upd H e (.exc (.ref C) none ctx)) s' → E (.ref e) s')
    (hg : env.globals = mainGlobals := by rfl) (hk : env.scope.kind = .function := by rfl) (hx : env.kindOf x = some .globalImplicit := by rfl) (hd : (x == ("__debug__" : Str)) = false := by decide) :
    wpAny (model prog w) A (exec (.Raise (some (.Call (.Name x np) [.Constant (.str m) kk pm] [] cpos)) none pos) env) Q E s := by
  obtain ⟨bm, N, nm, qn, bs, hdct, sn, sub, ab, col, dd, k0, k1, k2, k3, k5, mN, hC, hN, hni, TL⟩ := (own_of_in c.inK c.top en q).obj
  rw [arm_exec_Raise]
  refine wpAny_bind (wpAny_standAt (raiseStmt_H (C := C) (nm := nm) (qn := qn) (N := N) (bs := bs) (bm := bm) (hdct := hdct) (sn := sn) (sub := sub) (ab := ab) (col := col) (dd := dd) (k0 := k0) (k1 := k1) (k2 := k2) (k3 := k3) (k5 := k5) (newId := newId) (TL.hasType FB.hasBase) ?_))
  refine wpAny_bind (wpAny_mono (Q := fun v s₁ => ∃ e t, v = .ref e ∧ H e = none ∧ St c (env :: outer) (upd H e (.exc (.ref C) none none)) s₁ ∧ s₁.heap.get? e = some { cls := .ref C, data := .fields #[.ref t, .none, .none, .none, .bool false, .none] }) (E := E) (wpAny_Call_ofName (nm_global S en ?_ hg hk hx hd)) (fun v s₃ h₃ => wpAny_bind (wpAny_standAt (wpAny_pure ?_))) fun _ _ x => x)
  · unfold callWith
    refine wpAny_bind (wpAny_holding (wpAny_mono (Q := fun a s₂ => a.kw = [] ∧ a.pos.length ≤ sizeLine ∧ St c (env :: outer) H s₂) (E := E) ?_ (fun a s₂ h₂ => wpAny_bind (wpAny_standAt ?_)) fun _ _ x => x))
    · refine Calls.evalArgs_plain (spliced_more (const_str S fun t s' S' => spliced_none ?_))
      exact ⟨rfl, by show 1 ≤ sizeLine; rw [sizeLine_eq]; decide, S'⟩
    · obtain ⟨apos, akw⟩ := a
      obtain ⟨hkw, hlen, S2⟩ := h₂
      obtain rfl : akw = [] := hkw
      have hC2 := S2.base _ _ hC
      have hN2 := hN.keeps S2.base
      have TL2 := TL.keeps S2.base
      obtain ⟨hp, g, dw, tk, os⟩ := s₂
      simp only [show (backTo cpos (starEach [Expr.Constant (.str m) kk pm] env)).any (·.1) = false from rfl]
      refine wpAny_bind (wpAny_keeperOf_exc hC2 ?_)
      refine wpAny_bind (wpAny_call_exc_subT (hrest := hlen) FB TL2 hC2 hN2 hni fun h' e hm => wpAny_bind (wpAny_holding (wpAny_point (wpAny_pure ?_))))
      obtain ⟨t, ht, _, _⟩ := hm.there
      have he : H e = none := S2.freshG hm.new
      exact ⟨e, t, rfl, he, S2.newG (t := tk) hm.keeps hm.new (by intro i; cases i) (by intro i; cases i) ⟨_, _, ht, rfl, rfl, rfl, rfl⟩ (S2.sizeKeep hm.keeps), ht⟩
  · obtain ⟨e, t, rfl, he, S3, hg3⟩ := h₃
    exact ⟨e, t, rfl, S3.base _ _ hC, hg3, raise_ d he S3 fun ctx s' hc S' => k e ctx s' he hc S'⟩
end
end Mine
end
section
open PySem PySem.W PyProof.Rows PySem.Calls
set_option linter.unusedVariables false
set_option Elab.async false
namespace Mine
section
variable {prog : Program} {w : World} {K : Frag} {c : Cx prog w K} {envs outer : List Env} {env : Env} {H G : AH} {A : Around} {E : Value → Shared → Prop} {s : Shared}
section
variable {a b : Int} {t u : Tok} {Q : Value → Shared → Prop}
theorem s_fdiv (S : St c envs H s) (h0 : 0 < b) (h1 : b < 1073741824) (h : ∀ t s', St c envs H s' → Q (.int (a / b) t) s') : wpAny (model prog w) A (binaryOp .FloorDiv (.int a t) (.int b u)) Q E s := by
  refine floordiv_int (by omega) ?_ (Or.inl (PyProof.noPylong_small (by omega)))
  rw [Int.fdiv_eq_ediv_of_nonneg _ (by omega)]
  exact h _ _ (S.tok _)
theorem s_mod (S : St c envs H s) (h0 : 0 < b) (h : ∀ t s', St c envs H s' → Q (.int (a % b) t) s') : wpAny (model prog w) A (binaryOp .Mod (.int a t) (.int b u)) Q E s := by
  refine mod_int' (by omega) ?_
  rw [Int.fmod_eq_emod_of_nonneg _ (by omega)]
  exact h _ _ (S.tok _)
theorem bits64 {x : Int} (h : x.natAbs < 1073741824) : Builtin.Int.intBits x ≤ 64 := by
  unfold Builtin.Int.intBits
  split
  · decide
  · rename_i q
    have h0 : x.natAbs ≠ 0 := by simpa using q
    have h30 : x.natAbs.log2 < 30 := (Nat.log2_lt h0).mpr h
    omega
theorem s_mul (S : St c envs H s) (h0 : a.natAbs < 1073741824 ∨ b.natAbs < 1073741824) (h : ∀ t s', St c envs H s' → Q (.int (a * b) t) s') : wpAny (model prog w) A (binaryOp .Mult (.int a t) (.int b u)) Q E s :=
  mul_int (h _ _ (S.tok _)) (h0.elim (fun z => .of_left (bits64 z)) fun z => .of_right (bits64 z))
theorem s_pow (S : St c envs H s) (ha : a = 2) (h0 : 0 ≤ b) (h1 : b < 1000) (h : ∀ t s', St c envs H s' → Q (.int (a ^ b.toNat) t) s') : wpAny (model prog w) A (binaryOp .Pow (.int a t) (.int b u)) Q E s := by
  subst ha
  refine pow_int h0 ?_ (h _ _ (S.tok _))
  have : Builtin.Int.intBits 2 = 2 := by decide +kernel
  rw [this]; omega
end
noncomputable def NewL (P : Value → Shared → Prop) (vs : List Value) (s : Shared) : Prop := vs.length ≤ sizeLine ∧ P (.ref s.heap.objs.size) { s with heap := s.heap.push { cls := .type "list", data := .seq vs.toArray } }
noncomputable def NewT (P : Value → Shared → Prop) (vs : List Value) (s : Shared) : Prop := vs.length ≤ sizeLine ∧ P (.ref s.heap.objs.size) { s with heap := s.heap.push { cls := .type "tuple", data := .seq vs.toArray } }
theorem list_disp {elts : List Expr} {pos : Pos} {Q : Value → Shared → Prop} (h : wpAny (model prog w) A (spliced (backTo pos (starEach elts env))) (fun vs s₁ => NewL Q vs s₁) E s) : wpAny (model prog w) A (eval (.List elts pos) env) Q E s := wpAny_List_spliced h
theorem tup_disp {elts : List Expr} {x1} {pos : Pos} {Q : Value → Shared → Prop} (h : wpAny (model prog w) A (spliced (backTo pos (starEach elts env))) (fun vs s₁ => NewT Q vs s₁) E s) : wpAny (model prog w) A (eval (.Tuple elts x1 pos) env) Q E s := wpAny_Tuple_spliced h
theorem newL {vs : List Value} {P : Value → Shared → Prop} (S : St c envs H s) (hz : vs.length ≤ 1000) (k : ∀ (a : Nat) s', H a = none → St c envs (upd H a (.list (vs.map er))) s' → P (.ref a) s') : NewL P vs s :=
  ⟨by rw [sizeLine_eq]; omega, k _ _ (S.fresh (Nat.le_refl _)) (S.new (t := s.toks) (fun b x q => Heap.get?_push_of_some _ q) (Nat.le_refl _) (by intro i; cases i) ⟨_, _, Heap.get?_push_size _ rfl, by simp⟩ (by rw [Heap.size_push]; exact Nat.le_succ _))⟩
theorem newT {vs : List Value} {P : Value → Shared → Prop} (S : St c envs H s) (hz : vs.length ≤ 1000) (k : ∀ (a : Nat) s', H a = none → St c envs (upd H a (.tup (vs.map er))) s' → P (.ref a) s') : NewT P vs s :=
  ⟨by rw [sizeLine_eq]; omega, k _ _ (S.fresh (Nat.le_refl _)) (S.new (t := s.toks) (fun b x q => Heap.get?_push_of_some _ q) (Nat.le_refl _) (by intro i; cases i) ⟨_, _, Heap.get?_push_size _ rfl, by simp⟩ (by rw [Heap.size_push]; exact Nat.le_succ _))⟩
end
noncomputable def join (F G : AH) : AH := fun a => match F a with | some o => some o | none => G a
noncomputable def Dj (F G : AH) : Prop := ∀ (a : Nat) o, G a = some o → F a = none
section
variable {F G : AH} {a : Nat} {o o' : AO}
theorem join_l (h : F a = some o) : join F G a = some o := by unfold join; rw [h]
theorem join_n (h : F a = none) : join F G a = G a := by unfold join; rw [h]
theorem join_r (d : Dj F G) (h : G a = some o) : join F G a = some o := (join_n (d a o h)).trans h
theorem join_none (h : join F G a = none) : F a = none ∧ G a = none := by
  unfold join at h
  cases q : F a with
  | none => rw [q] at h; exact ⟨rfl, h⟩
  | some x => rw [q] at h; cases h
theorem upd_join : upd (join F G) a o = join (upd F a o) G := by
  funext b
  by_cases h : b = a
  · subst h; rw [upd_self, join_l (upd_self ..)]
  · rw [upd_ne h]; unfold join; rw [upd_ne h]
theorem upd_join_r (n : F a = none) : upd (join F G) a o = join F (upd G a o) := by
  funext b
  by_cases h : b = a
  · subst h; rw [upd_self, join_n n, upd_self]
  · rw [upd_ne h]; unfold join; rw [upd_ne h]
theorem Dj.l (d : Dj F G) (n : G a = none) : Dj (upd F a o) G := fun b x q => by
  rw [upd_ne (fun z => by rw [z, n] at q; cases q)]; exact d b x q
theorem Dj.r (d : Dj F G) (n : F a = none) : Dj F (upd G a o) := fun b x q => by
  by_cases h : b = a
  · subst h; exact n
  · rw [upd_ne h] at q; exact d b x q
theorem Dj.has (d : Dj F G) (h : F a = some o) : G a = none := by
  cases q : G a with
  | none => rfl
  | some x => have := d a x q; rw [h] at this; cases this
theorem Dj.sub {N : AH} (d : Dj F G) (h : Sub N F) : Dj N G := fun b x q => by
  cases z : N b with
  | none => rfl
  | some y => obtain ⟨o', e, _⟩ := h b y z; rw [d b x q] at e; cases e
theorem sub_join {N : AH} (d : Dj F G) (h : Sub N F) : Sub (join N G) (join F G) := fun b x q => by
  cases z : N b with
  | none => rw [join_n z] at q; exact ⟨x, join_r d q, .inl rfl⟩
  | some y => rw [join_l z] at q; cases q; obtain ⟨o', e, l⟩ := h b _ z; exact ⟨o', join_l e, l⟩
end
end Mine
end
section
open PySem PySem.W PyProof.Rows PySem.Calls
set_option linter.unusedVariables false
set_option Elab.async false
namespace Mine
structure Pl where
  D : Int → Nat
  CL : Int → Nat
  QL : Int → Nat
noncomputable def pv (P : Pl) : Option Int → Value
  | none => .none
  | some j => .ref (P.D j)
noncomputable abbrev flds (P : Pl) (i : Int) (n : Nd) : List (Str × Value) :=
  [("stream_id", .int i 0), ("_weight", .int n.wt 0), ("children", .ref (P.CL i)), ("parent", pv P n.par), ("child_queue", .ref (P.QL i)), ("active", .bool n.act), ("last_weight", .int n.lw 0), ("_deficit", .int n.df 0)]
noncomputable def Ents (P : Pl) (G : AH) : List Nat → List (Int × Int) → Prop
  | [], [] => True
  | t :: ts, e :: q => G t = some (.tup [.int e.1 0, .ref (P.D e.2)]) ∧ Ents P G ts q
  | _, _ => False
noncomputable def StreamAt (SC : Nat) (P : Pl) (H : AH) (i : Int) : Prop := ∃ fs, H (P.D i) = some (.inst SC fs) ∧ fs.lookup ("stream_id" : Str) = some (.int i 0)
section
variable {SC : Nat} {P : Pl} {G H : AH} {M : Mo}
theorem Ents.len : ∀ {ts : List Nat} {q : List (Int × Int)}, Ents P G ts q → ts.length = q.length
  | [], [], _ => rfl
  | t :: ts, e :: q, h => by simp only [List.length_cons, Ents.len h.2]
  | [], _ :: _, h => h.elim
  | _ :: _, [], h => h.elim
theorem Ents.mono (k : ∀ (a : Nat) xs, G a = some (.tup xs) → H a = some (.tup xs)) : ∀ {ts : List Nat} {q : List (Int × Int)}, Ents P G ts q → Ents P H ts q
  | [], [], _ => trivial
  | t :: ts, e :: q, h => ⟨k _ _ h.1, Ents.mono k h.2⟩
  | [], _ :: _, h => h.elim
  | _ :: _, [], h => h.elim
theorem Ents.append : ∀ {ts ts' : List Nat} {q q' : List (Int × Int)}, Ents P G ts q → Ents P G ts' q' → Ents P G (ts ++ ts') (q ++ q')
  | [], _, [], _, _, h => h
  | t :: ts, _, e :: q, _, h, h' => ⟨h.1, Ents.append h.2 h'⟩
  | [], _, _ :: _, _, h, _ => h.elim
  | _ :: _, _, [], _, h, _ => h.elim
theorem Ents.take : ∀ (p : Nat) {ts : List Nat} {q : List (Int × Int)}, Ents P G ts q → Ents P G (ts.take p) (q.take p)
  | 0, ts, q, _ => by simp [Ents]
  | p + 1, [], [], _ => by simp [Ents]
  | p + 1, t :: ts, e :: q, h => ⟨h.1, Ents.take p h.2⟩
  | p + 1, [], _ :: _, h => h.elim
  | p + 1, _ :: _, [], h => h.elim
theorem Ents.drop : ∀ (p : Nat) {ts : List Nat} {q : List (Int × Int)}, Ents P G ts q → Ents P G (ts.drop p) (q.drop p)
  | 0, ts, q, h => h
  | p + 1, [], [], _ => by simp [Ents]
  | p + 1, t :: ts, e :: q, h => Ents.drop p h.2
  | p + 1, [], _ :: _, h => h.elim
  | p + 1, _ :: _, [], h => h.elim
theorem Ents.put {ts : List Nat} {q : List (Int × Int)} {t : Nat} {e : Int × Int} {p : Nat} (h : Ents P G ts q) (ht : G t = some (.tup [.int e.1 0, .ref (P.D e.2)])) : Ents P G (put p t ts) (put p e q) :=
  (h.take p).append ⟨ht, h.drop p⟩
theorem Ents.get : ∀ {ts : List Nat} {q : List (Int × Int)}, Ents P G ts q → ∀ k (h : k < q.length), ∃ t, ts[k]? = some t ∧ G t = some (.tup [.int q[k].1 0, .ref (P.D q[k].2)])
  | t :: ts, e :: q, h, 0, _ => ⟨t, rfl, h.1⟩
  | t :: ts, e :: q, h, k + 1, hk => Ents.get h.2 k (by simpa using hk)
  | [], _ :: _, h, _, _ => h.elim
  | _, [], h, k, hk => by simp at hk
structure Tree (SC : Nat) (P : Pl) (M : Mo) (G : AH) : Prop where
  inst : ∀ i n, M i = some n → G (P.D i) = some (.inst SC (flds P i n))
  cl : ∀ i n, M i = some n → G (P.CL i) = some (.list (n.kids.map fun j => .ref (P.D j)))
  ql : ∀ i n, M i = some n → ∃ ts : List Nat, G (P.QL i) = some (.list (ts.map .ref)) ∧ Ents P G ts n.q
  cq : ∀ i j n m, M i = some n → M j = some m → P.CL i ≠ P.QL j
  qq : ∀ i j n m, M i = some n → M j = some m → P.QL i = P.QL j → i = j
  cc : ∀ i j n m, M i = some n → M j = some m → P.CL i = P.CL j → i = j
theorem Tree.dd (t : Tree SC P M G) {i j : Int} {n m : Nd} (hi : M i = some n) (hj : M j = some m) (h : P.D i = P.D j) : i = j := by
  have a := t.inst i n hi
  have b := t.inst j m hj
  rw [h, b] at a
  simp only [Option.some.injEq, AO.inst.injEq, true_and] at a
  have := congrArg (fun l => List.lookup ("stream_id" : Str) l) a
  simp [flds, List.lookup_cons] at this
  exact this.symm
theorem Tree.fresh (t : Tree SC P M G) {a : Nat} {o : AO} (h : G a = none) : Tree SC P M (upd G a o) :=
  ⟨fun i n hi => upd_other (ne_fresh h (t.inst i n hi)) (t.inst i n hi), fun i n hi => upd_other (ne_fresh h (t.cl i n hi)) (t.cl i n hi), fun i n hi => by
    obtain ⟨ts, h1, h2⟩ := t.ql i n hi
    exact ⟨ts, upd_other (ne_fresh h h1) h1, h2.mono fun b xs q => upd_other (ne_fresh h q) q⟩, t.cq, t.qq, t.cc⟩
theorem Tree.set (t : Tree SC P M G) {i : Int} {n n' : Nd} (hi : M i = some n) (hk : n'.kids = n.kids) (hq : n'.q = n.q) : Tree SC P (M.put i n') (upd G (P.D i) (.inst SC (flds P i n'))) := by
  have e := t.inst i n hi
  have ex : ∀ j m, M.put i n' j = some m → ∃ m0, M j = some m0 ∧ m0.kids = m.kids ∧ m0.q = m.q := fun j m h => by
    by_cases q : j = i
    · subst q; rw [Mo.put_self] at h; cases h; exact ⟨n, hi, hk.symm, hq.symm⟩
    · rw [Mo.put_ne q] at h; exact ⟨m, h, rfl, rfl⟩
  refine ⟨fun j m h => ?_, fun j m h => ?_, fun j m h => ?_, fun j l a b h1 h2 => ?_, fun j l a b h1 h2 => ?_, fun j l a b h1 h2 => ?_⟩
  · by_cases q : j = i
    · subst q; rw [Mo.put_self] at h; cases h; exact upd_self ..
    · rw [Mo.put_ne q] at h
      exact upd_other (fun z => q (t.dd h hi z)) (t.inst j m h)
  · obtain ⟨m0, h0, k0, _⟩ := ex j m h
    have := t.cl j m0 h0
    rw [← k0]
    exact upd_other (fun z => by rw [z, e] at this; cases this) this
  · obtain ⟨m0, h0, _, k0⟩ := ex j m h
    obtain ⟨ts, h1, h2⟩ := t.ql j m0 h0
    rw [← k0]
    exact ⟨ts, upd_other (fun z => by rw [z, e] at h1; cases h1) h1, h2.mono fun b xs q => upd_other (fun z => by rw [z, e] at q; cases q) q⟩
  · obtain ⟨_, h1, _⟩ := ex j a h1; obtain ⟨_, h2, _⟩ := ex l b h2; exact t.cq _ _ _ _ h1 h2
  · obtain ⟨_, h1, _⟩ := ex j a h1; obtain ⟨_, h2, _⟩ := ex l b h2; exact t.qq _ _ _ _ h1 h2
  · obtain ⟨_, h1, _⟩ := ex j a h1; obtain ⟨_, h2, _⟩ := ex l b h2; exact t.cc _ _ _ _ h1 h2
theorem Tree.setq (t : Tree SC P M G) {i : Int} {n : Nd} {ts : List Nat} {q : List (Int × Int)} (hi : M i = some n) (he : Ents P G ts q) : Tree SC P (M.put i { n with q := q }) (upd G (P.QL i) (.list (ts.map .ref))) := by
  obtain ⟨ts0, e, _⟩ := t.ql i n hi
  have ex : ∀ j m, M.put i { n with q := q } j = some m → ∃ m0, M j = some m0 ∧ m0.kids = m.kids ∧ flds P j m0 = flds P j m ∧ (j ≠ i → m0.q = m.q) := fun j m h => by
    by_cases q : j = i
    · subst q; rw [Mo.put_self] at h; cases h; exact ⟨n, hi, rfl, rfl, fun z => absurd rfl z⟩
    · rw [Mo.put_ne q] at h; exact ⟨m, h, rfl, rfl, fun _ => rfl⟩
  have tk : ∀ (b : Nat) xs, G b = some (.tup xs) → upd G (P.QL i) (.list (ts.map .ref)) b = some (.tup xs) := fun b xs z => upd_other (fun y => by rw [y, e] at z; cases z) z
  refine ⟨fun j m h => ?_, fun j m h => ?_, fun j m h => ?_, fun j l a b h1 h2 => ?_, fun j l a b h1 h2 => ?_, fun j l a b h1 h2 => ?_⟩
  · obtain ⟨m0, h0, k0, f0, _⟩ := ex j m h
    have := t.inst j m0 h0
    rw [f0] at this
    exact upd_other (fun z => by rw [z, e] at this; cases this) this
  · obtain ⟨m0, h0, k0, _⟩ := ex j m h
    have := t.cl j m0 h0
    rw [← k0]
    exact upd_other (t.cq j i _ _ h0 hi) this
  · obtain ⟨m0, h0, _, _, k0⟩ := ex j m h
    by_cases z : j = i
    · subst z; rw [Mo.put_self] at h; cases h
      exact ⟨ts, upd_self .., he.mono tk⟩
    · rw [← k0 z]
      obtain ⟨ts1, h1, h2⟩ := t.ql j m0 h0
      exact ⟨ts1, upd_other (fun y => z (t.qq _ _ _ _ h0 hi y)) h1, h2.mono tk⟩
  · obtain ⟨_, h1, _⟩ := ex j a h1; obtain ⟨_, h2, _⟩ := ex l b h2; exact t.cq _ _ _ _ h1 h2
  · obtain ⟨_, h1, _⟩ := ex j a h1; obtain ⟨_, h2, _⟩ := ex l b h2; exact t.qq _ _ _ _ h1 h2
  · obtain ⟨_, h1, _⟩ := ex j a h1; obtain ⟨_, h2, _⟩ := ex l b h2; exact t.cc _ _ _ _ h1 h2
noncomputable def Tups (G G' : AH) : Prop := ∀ (a : Nat) xs, G a = some (.tup xs) → G' a = some (.tup xs)
theorem Tups.refl (G : AH) : Tups G G := fun _ _ h => h
theorem Tups.trans {G G' G'' : AH} (a : Tups G G') (b : Tups G' G'') : Tups G G'' := fun x xs h => b x xs (a x xs h)
theorem Tups.upd {G G' : AH} {a : Nat} {o o' : AO} (t : Tups G G') (h : G' a = some o) (n : ∀ xs, o ≠ .tup xs) : Tups G (upd G' a o') := fun x xs q => by
  have := t x xs q
  exact upd_other (fun z => by rw [z, h] at this; cases this; exact n _ rfl) this
theorem Tups.fresh {G G' : AH} {a : Nat} {o' : AO} (t : Tups G G') (h : G' a = none) : Tups G (Mine.upd G' a o') := fun x xs q => by
  have := t x xs q
  exact upd_other (ne_fresh h this) this
end
end Mine
end
section
open PySem PySem.W PyProof.Rows PySem.Calls
set_option linter.unusedVariables false
set_option Elab.async false
namespace Mine
section
variable {prog : Program} {w : World} {K : Frag} {c : Cx prog w K} {envs outer : List Env} {env : Env} {H G : AH} {A : Around} {E : Value → Shared → Prop} {s : Shared}
theorem at_prop {a : Nat} {C : Addr} {fs : List (Str × Value)} {name : Str} {expr : Bool} {p fget : Addr} {rest : List Value} {Q : Value → Shared → Prop} (S : St c envs H s) (e : H a = some (.inst C fs))
    (hg : plainGet K C name = true) (hh : hasDictIn K C = true) (ha : findIn K (.ref C) name = some (some (.ref p))) (hn : specialIn K (.ref p) "__get__" = some (some (.builtin "property.__get__"))) (ht : takesIn K (.ref p) = some true) (hp : recIn K p "property" = some (.ref fget :: rest))
    (h : ∀ s', St c envs H s' → codeAny (model prog w) A.in1 (.call (.ref fget) ⟨[.ref a], []⟩) (fun r s' => match r with | .ok (.ret v) => wpAny (model prog w) A (handedOut v) Q E s' | .ok _ => False | .error e => wpAny (model prog w) A (noteIf true (.ref a) (.str name s.toks) e) (fun _ s'' => E e s'') E s') s') :
    wpAny (model prog w) A (getAttr (.ref a) name expr) Q E s := by
  obtain ⟨es, n, I, hd, hz, hk, hm⟩ := S.inst e
  have X := S.inK
  exact get_bind X I (plainGet_of hg).1 (findObj_data (by obtain ⟨cd, hc, _⟩ := any_some hh; rw [hc]; rfl) ha hn ht) (plainGet_of hg).2 (wpAny_call (prop_get (s := { s with toks := s.toks + 1 }) X hp (h _ (S.tok _))))
theorem at_pset {a : Nat} {C : Addr} {fs : List (Str × Value)} {name : Str} {v va : Value} {p fset : Addr} {rest : List Value} {Q : Unit → Shared → Prop} (S : St c envs H s) (e : H a = some (.inst C fs))
    (hs : findIn K (.ref C) "__setattr__" = some (some (.builtin "object.__setattr__"))) (hp : plainOver K C = true) (ht : takerIn K C name = some (some (.ref p))) (hT : typeIn K (.ref p) = some (.type "property")) (hr : recIn K p "property" = some (va :: .ref fset :: rest))
    (h : ∀ s', St c envs H s' → codeAny (model prog w) A.in1.in1 (.call (.ref fset) ⟨[.ref a, v], []⟩) (fun r s' => match r with | .ok (.ret _) => Q () s' | .ok _ => False | .error e => E e s') s') : wpAny (model prog w) A (setAttr (.ref a) name v) Q E s := by
  obtain ⟨es, n, I, hd, hz, hk, hm⟩ := S.inst e
  have X := S.inK
  exact set_plain X I hs (osa_descr (s := { s with toks := s.toks + 1 }) KF.slot_pset X I hp ht hT (prop_set (s := { s with toks := s.toks + 1 }) X hr (codeAny_mono (h _ (S.tok _)) fun r s' z => by rcases r with e | (v | _ | _ | _) <;> first | exact z | exact z.elim)))
end
end Mine
end
section
open PySem PySem.W PyProof.Rows PySem.Calls
set_option linter.unusedVariables false
set_option Elab.async false
namespace Mine
theorem none_up {H : AH} {a b : Nat} {o : AO} (h : upd H a o b = none) : H b = none := by
  by_cases z : b = a
  · subst z; rw [upd_self] at h; cases h
  · rw [upd_ne z] at h; exact h
theorem ne_kind {H : AH} {a b : Nat} {o o' : AO} (h : H a = some o) (k : H b = some o') (n : o ≠ o') : a ≠ b := fun z => by rw [z, k] at h; exact n (Option.some.inj h).symm
noncomputable def Cov (xs : List Nat) (N H : AH) : Prop := ∀ b, b ∉ xs → ∀ o, N b = some o → ∃ o', H b = some o' ∧ o.le o'
section
variable {N H : AH} {xs : List Nat} {a : Nat} {v v' : AO}
theorem Cov.sub (h : Cov [] N H) : Sub N H := fun b o q => h b List.not_mem_nil o q
theorem Cov.n (e : H a = some v') (l : v.le v') (h : Cov (a :: xs) N H) : Cov xs (upd N a v) H := fun b hb o q => by
  by_cases z : b = a
  · subst z; rw [upd_self] at q; cases q; exact ⟨v', e, l⟩
  · rw [upd_ne z] at q; exact h b (fun y => by rcases List.mem_cons.mp y with y | y; exact z y; exact hb y) o q
theorem Cov.refl : Cov xs N N := fun b _ o q => ⟨o, q, .inl rfl⟩
theorem Cov.hm (m : a ∈ xs) (h : Cov xs N H) : Cov xs N (upd H a v) := fun b hb o q => by
  obtain ⟨o', e, l⟩ := h b hb o q
  exact ⟨o', upd_other (fun z => hb (z ▸ m)) e, l⟩
theorem Cov.hn (n : N a = none) (h : Cov xs N H) : Cov xs N (upd H a v) := fun b hb o q => by
  obtain ⟨o', e, l⟩ := h b hb o q
  exact ⟨o', upd_other (fun z => by rw [z, n] at q; cases q) e, l⟩
theorem Cov.hs (n : N a = some v') (l : v'.le v) (h : Cov xs N H) : Cov xs N (upd H a v) := fun b hb o q => by
  by_cases z : b = a
  · subst z; rw [n] at q; cases q; exact ⟨v, upd_self .., l⟩
  · obtain ⟨o', e, l⟩ := h b hb o q
    exact ⟨o', upd_other z e, l⟩
end
section
variable {prog : Program} {w : World} {K : Frag} {c : Cx prog w K} {envs outer : List Env} {env : Env} {H G : AH} {A : Around} {E : Value → Shared → Prop} {s : Shared}
theorem with_fin {body orelse fb : List Stmt} {hs : List ExceptHandler} {pos : Pos} {Q : Flow → Shared → Prop} (Pre : Around → (Flow → Shared → Prop) → Shared → Prop)
    (fin : ∀ A' E' Q' s', Pre A' Q' s' → wpAny (model prog w) A' (execs fb env) Q' E' s')
    (main : (∀ A' E' Q' s', Pre A' Q' s' → wpAny (model prog w) A' (execs fb env) Q' E' s') → wpAny (model prog w) A (exec (.Try body hs orelse fb pos) env) Q E s) : wpAny (model prog w) A (exec (.Try body hs orelse fb pos) env) Q E s := main fin
theorem unpack2 {a b : Str} {pa pb pos : Pos} {x1} {t : Nat} {x y : Value} {Q : Unit → Shared → Prop} (S : St c envs H s) (ht : H t = some (.tup [x, y])) (d : Hd A H)
    (k : ∀ v1 v2 s', er v1 = x → er v2 = y → St c envs H s' → wpAny (model prog w) A (assign (.Name a pa) env v1) (fun _ s2 => wpAny (model prog w) A (assign (.Name b pb) env v2) Q E s2) E s') :
    wpAny (model prog w) A (assign (.Tuple [.Name a pa, .Name b pb] x1 pos) env (.ref t)) Q E s := by
  refine unpack_tup S ht d rfl rfl fun vs s' hm S' => ?_
  match vs, hm with
  | [v1, v2], hm =>
    simp only [List.map_cons, List.map_nil, List.cons.injEq, and_true] at hm
    show wpAny _ _ (do holding [v2] (assign (.Name a pa) env v1); holding [] (assign (.Name b pb) env v2); pure ()) Q E s'
    refine wpAny_bind (wpAny_holding (wpAny_mono (k v1 v2 s' hm.1 hm.2 S') (fun _ s2 h2 => wpAny_bind (wpAny_holding (wpAny_mono h2 (fun _ s3 h3 => wpAny_pure h3) fun _ _ x => x))) fun _ _ x => x))
end
end Mine
end
section
open PySem PySem.W PyProof.Rows PySem.Calls
set_option linter.unusedVariables false
set_option Elab.async false
namespace Mine
theorem loc_callEnv {fd : FuncData} {L f : Addr} : (callEnv fd L f).locals = L := rfl
theorem Frs.join {envs : List Env} {F G : AH} (f : Frs envs F) : Frs envs (Mine.join F G) := fun env m => by
  obtain ⟨k, L, l, h1, h2⟩ := f env m
  exact ⟨k, L, l, h1, join_l h2⟩
theorem Frs.cons {envs : List Env} {env : Env} {H : AH} {L : Nat} {l : List (Str × Value)} (f : Frs envs H) (e : H L = some (.ns l)) (hf : env.frame = some L) (k : env.scope.kind ≠ .module) : Frs (env :: envs) H := fun x m => by
  rcases List.mem_cons.mp m with rfl | m
  · exact ⟨k, L, l, hf, e⟩
  · exact f x m
theorem fn_re {F : AH} {a b : Nat} {x y x' y' : AO} (h : a ≠ b) : upd (upd (upd (upd F a x) b y) a x') b y' = upd (upd F a x') b y' := by
  funext c; simp only [upd]; split <;> (try rfl) <;> split <;> (try rfl) <;> simp_all
theorem idx_exc : isSubtype (.type "IndexError") (.type "BaseException") = pure true := by rw [isSubtype_type]; kernel_rfl
theorem idx_nt : isSubtype (.type ((Manifest.find? "IndexError").elim "type" fun y => y.metatype)) (.type "tuple") = pure false := by rw [isSubtype_type]; kernel_rfl
theorem idx_sub : isSubtype (.type "IndexError") (.type "IndexError") = pure true := by rw [isSubtype_type]; kernel_rfl
theorem none_ne {H : AH} {a b : Nat} {o : AO} (h : upd H a o b = none) : b ≠ a := fun z => by subst z; rw [upd_self] at h; cases h
theorem St.env {prog : Program} {w : World} {K : Frag} {c : Cx prog w K} {ev : List Env} {H : AH} {s : Shared} (S : St c ev H s) : ∃ e, e = ev ∧ St c e H s := ⟨_, rfl, S⟩
section
variable {SC : Nat} {P : Pl} {G H : AH} {M : Mo} {a : Nat} {o o' : AO}
theorem Ents.turn {ts : List Nat} {q : List (Int × Int)} (h : Ents P H ts q) (e : H a = some o) (n : ∀ xs, o ≠ .tup xs) : Ents P (upd H a o') ts q :=
  h.mono fun b xs z => upd_other (fun y => by rw [y, e] at z; cases z; exact n _ rfl) z
theorem Ents.fresh {ts : List Nat} {q : List (Int × Int)} (h : Ents P H ts q) (e : H a = none) : Ents P (upd H a o') ts q :=
  h.mono fun b xs z => upd_other (ne_fresh e z) z
theorem StreamAt.turn {i : Int} (h : StreamAt SC P H i) (e : H a = some o) (n : o.isInst = false) : StreamAt SC P (upd H a o') i :=
  let ⟨fs, h1, h2⟩ := h; ⟨fs, upd_other (fun y => by rw [y, e] at h1; cases h1; cases n) h1, h2⟩
theorem StreamAt.fresh {i : Int} (h : StreamAt SC P H i) (e : H a = none) : StreamAt SC P (upd H a o') i :=
  let ⟨fs, h1, h2⟩ := h; ⟨fs, upd_other (ne_fresh e h1) h1, h2⟩
theorem StreamAt.inst {i : Int} {fs fs' : List (Str × Value)} (h : StreamAt SC P H i) (e : H a = some (.inst SC fs)) (l : fs'.lookup ("stream_id" : Str) = fs.lookup ("stream_id" : Str)) : StreamAt SC P (upd H a (.inst SC fs')) i := by
  obtain ⟨f, h1, h2⟩ := h
  by_cases z : P.D i = a
  · rw [z] at h1; rw [h1] at e; cases e
    exact ⟨fs', by rw [z]; exact upd_self .., l.trans h2⟩
  · exact ⟨f, upd_other z h1, h2⟩
end
section
variable {rk : Int → Nat} {M : Mo} {i : Int} {d n : Nd} {pp : List (Int × Int)}
theorem fin_take {e : Int × Int} {j : Nat} (h : pp[j]? = some e) : fin i (pp.take (j + 1)) M = fstep i (fin i (pp.take j) M) e := by
  have hj : j < pp.length := (List.getElem?_eq_some_iff.mp h).1
  have he : pp[j] = e := (List.getElem?_eq_some_iff.mp h).2
  rw [List.take_succ_eq_append_getElem hj, he]
  unfold fin
  rw [List.foldl_append]; rfl
theorem fin_self : ∀ (pp : List (Int × Int)) {M : Mo} {d : Nd} (o : OkM rk M) (hi : M i = some d) (hp : ∀ e ∈ pp, (∃ m, M e.2 = some m) ∧ rk e.2 < rk i) (hz : d.q.length + pp.length ≤ 1000), ∃ d', fin i pp M i = some d' ∧ d'.q.length = d.q.length + pp.length
  | [], M, d, o, hi, hp, hz => ⟨d, hi, rfl⟩
  | e :: pp, M, d, o, hi, hp, hz => by
    obtain ⟨⟨n, hn⟩, hr⟩ := hp e (.head _)
    simp only [List.length_cons] at hz
    have R := Res.fstep o hi hn hr (by omega)
    obtain ⟨d', hd', hl⟩ := fstep_self hi hn
    obtain ⟨d2, h2, l2⟩ := fin_self pp R.ok hd' (fun x hx => ⟨(hp x (.tail _ hx)).1.elim fun m hm => (R.like.fw _ m hm).elim fun m' h => ⟨m', h.1⟩, (hp x (.tail _ hx)).2⟩) (by omega)
    exact ⟨d2, h2, by rw [l2, hl]; simp only [List.length_cons]; omega⟩
theorem Tree.fstep {SC : Nat} {P : Pl} {G : AH} {t' : Nat} {e : Int × Int} {ts : List Nat} (t : Tree SC P M G) (hi : M i = some d) (he : M e.2 = some n) (hne : e.2 ≠ i) (h' : G t' = none) (hts : G (P.QL i) = some (.list (ts.map .ref))) (hE : Ents P G ts d.q) :
    Tree SC P (fstep i M e) (upd (upd (upd (upd G (P.D i) (.inst SC (flds P i { d with lw := e.1 }))) (P.D e.2) (.inst SC (flds P e.2 { n with df := (256 + n.df) % n.wt }))) t' (.tup [.int (e.1 + (256 + n.df) / n.wt) 0, .ref (P.D e.2)]))
      (P.QL i) (.list ((put (place (klt (e.1 + (256 + n.df) / n.wt, e.2)) d.q) t' ts).map .ref))) := by
  rw [fstep_eq hi he]
  have t1 := t.set (n' := { d with lw := e.1 }) hi rfl rfl
  have he1 : (M.put i { d with lw := e.1 }) e.2 = some n := (Mo.put_ne hne).trans he
  have t2 := t1.set (n' := { n with df := (256 + n.df) % n.wt }) he1 rfl rfl
  have f1 : (upd (upd G (P.D i) (.inst SC (flds P i { d with lw := e.1 }))) (P.D e.2) (.inst SC (flds P e.2 { n with df := (256 + n.df) % n.wt }))) t' = none := by
    rw [upd_ne (fun z => by have := t.inst _ _ he; rw [← z, h'] at this; cases this), upd_ne (fun z => by have := t.inst _ _ hi; rw [← z, h'] at this; cases this)]; exact h'
  have t3 := t2.fresh (o := .tup [.int (e.1 + (256 + n.df) / n.wt) 0, .ref (P.D e.2)]) f1
  have hi3 : ((M.put i { d with lw := e.1 }).put e.2 { n with df := (256 + n.df) % n.wt }) i = some { d with lw := e.1 } := (Mo.put_ne hne.symm).trans (Mo.put_self ..)
  have hE2 : Ents P (upd (upd (upd G (P.D i) (.inst SC (flds P i { d with lw := e.1 }))) (P.D e.2) (.inst SC (flds P e.2 { n with df := (256 + n.df) % n.wt }))) t' (.tup [.int (e.1 + (256 + n.df) / n.wt) 0, .ref (P.D e.2)])) ts d.q := by
    refine Ents.fresh ?_ f1
    refine Ents.turn (Ents.turn hE (t.inst _ _ hi) (by intro xs z; cases z)) (t1.inst _ _ he1) (by intro xs z; cases z)
  have t4 := t3.setq hi3 (hE2.put (t := t') (e := (e.1 + (256 + n.df) / n.wt, e.2)) (p := place (klt (e.1 + (256 + n.df) / n.wt, e.2)) d.q) (upd_self ..))
  have hM : (((M.put i { d with lw := e.1 }).put e.2 { n with df := (256 + n.df) % n.wt }).put i { d with lw := e.1, q := put (place (klt (e.1 + (256 + n.df) / n.wt, e.2)) d.q) (e.1 + (256 + n.df) / n.wt, e.2) d.q }) =
      ((M.put e.2 { n with df := (256 + n.df) % n.wt }).put i { d with lw := e.1, q := ins (e.1 + (256 + n.df) / n.wt, e.2) d.q }) := by
    funext j
    simp only [Mo.put, ins]
    split
    · rfl
    · split <;> rfl
  rw [← hM]; exact t4
end
end Mine
end
section
open PySem PySem.W PyProof.Rows PySem.Calls
set_option linter.unusedVariables false
set_option Elab.async false
namespace Mine
noncomputable abbrev pfl (P : Pl) (dd : Nat) : List (Str × Value) := [("_root_stream", .ref (P.D 0)), ("_streams", .ref dd), ("_maximum_streams", .int 1000 0)]
structure PT (SC PC : Nat) (P : Pl) (M : Mo) (ks : List Int) (pt dd : Nat) (Gt : AH) : Prop where
  tree : Tree SC P M Gt
  pn : Gt pt = none
  dn : Gt dd = none
  ne : pt ≠ dd
  nd : ks.Nodup
  ks : ∀ i, i ∈ ks ↔ ∃ n, M i = some n
noncomputable def pdict (P : Pl) (ks : List Int) : List (Int × Value) := ks.map fun i => (i, .ref (P.D i))
noncomputable def PTree (SC PC : Nat) (M : Mo) (ks : List Int) (pt : Nat) (G : AH) : Prop :=
  ∃ P dd Gt, PT SC PC P M ks pt dd Gt ∧ G = upd (upd Gt pt (.inst PC (pfl P dd))) dd (.imap (pdict P ks))
theorem PTree.split {SC PC : Nat} {M : Mo} {ks : List Int} {pt : Nat} {F G : AH} (t : PTree SC PC M ks pt G) (dj : Dj F G) :
    ∃ P dd Gt, PT SC PC P M ks pt dd Gt ∧ F pt = none ∧ F dd = none ∧ Dj F Gt ∧ Dj (upd (upd F pt (.inst PC (pfl P dd))) dd (.imap (pdict P ks))) Gt ∧ join F G = join (upd (upd F pt (.inst PC (pfl P dd))) dd (.imap (pdict P ks))) Gt := by
  obtain ⟨P, dd, Gt, p, rfl⟩ := t
  have f2 : F dd = none := dj _ _ (upd_self ..)
  have f1 : F pt = none := dj _ _ (upd_other p.ne (upd_self ..))
  have d0 : Dj F Gt := fun a o q => dj a o (upd_other (fun z => by rw [z, p.dn] at q; cases q) (upd_other (fun z => by rw [z, p.pn] at q; cases q) q))
  refine ⟨P, dd, Gt, p, f1, f2, d0, (d0.l p.pn).l p.dn, ?_⟩
  rw [← upd_join_r f2, ← upd_join_r f1, upd_join, upd_join]
theorem PTree.back {SC PC : Nat} {P : Pl} {M M' : Mo} {ks : List Int} {pt dd : Nat} {F Gt Gt' : AH} (p : PT SC PC P M ks pt dd Gt) (f1 : F pt = none) (f2 : F dd = none) (d : Dj (upd (upd F pt (.inst PC (pfl P dd))) dd (.imap (pdict P ks))) Gt') (t : Tree SC P M' Gt') (l : Like M M') :
    PTree SC PC M' ks pt (upd (upd Gt' pt (.inst PC (pfl P dd))) dd (.imap (pdict P ks))) ∧ Dj F (upd (upd Gt' pt (.inst PC (pfl P dd))) dd (.imap (pdict P ks))) ∧
    join (upd (upd F pt (.inst PC (pfl P dd))) dd (.imap (pdict P ks))) Gt' = join F (upd (upd Gt' pt (.inst PC (pfl P dd))) dd (.imap (pdict P ks))) := by
  have pn : Gt' pt = none := d.has (upd_other p.ne (upd_self ..))
  have dn : Gt' dd = none := d.has (upd_self ..)
  refine ⟨⟨P, dd, Gt', ⟨t, pn, dn, p.ne, p.nd, fun i => (p.ks i).trans ⟨fun ⟨n, h⟩ => (l.fw i n h).elim fun n' h' => ⟨n', h'.1⟩, fun ⟨n, h⟩ => l.bw i n h⟩⟩, rfl⟩, ?_, ?_⟩
  · have d0 : Dj F Gt' := d.sub (((Sub.refl F).fresh f1).fresh f2)
    exact (d0.r f1).r f2
  · rw [← upd_join_r f2, ← upd_join_r f1, upd_join, upd_join]
end Mine
end
section
open PySem PySem.W PyProof.Rows PySem.Calls
set_option linter.unusedVariables false
set_option Elab.async false
namespace Mine
section
variable {prog : Program} {w : World} {K : Frag} {c : Cx prog w K} {envs outer : List Env} {env : Env} {H G : AH} {A : Around} {E : Value → Shared → Prop} {s : Shared}
theorem Rm.under {A : Around} {d u : Nat} {C : Addr} {vals : List Value} {kw : List (Str × Value)} (R : Rm A (d + 1) (u + 1)) : Rm (A.under (.builtin "type.__call__" ⟨.ref C :: vals, kw⟩)) d u :=
  ⟨by have := R.depth; rw [show (A.under (.builtin "type.__call__" ⟨.ref C :: vals, kw⟩)).depth = A.depth + 1 from rfl]; omega,
   by have := R.units; rw [show (A.under (.builtin "type.__call__" ⟨.ref C :: vals, kw⟩)).units = A.units + 1 from by show A.units + _ = _; congr 1]; omega⟩
theorem make_ {C fI : Addr} {rest : List Value} {kw : List (Str × Value)} {R : Result → Shared → Prop} (S : St c envs H s) (hm : makesIn K C = true) (hi : findIn K (.ref C) "__init__" = some (some (.ref fI))) (hf : isFn K (.ref fI) = true)
    (h : ∀ (x : Nat) s', H x = none → St c envs (upd H x (.inst C [])) s' → codeAny (model prog w) (A.under (.builtin "type.__call__" ⟨.ref C :: rest, kw⟩)) (.call (.ref fI) ⟨.ref x :: rest, kw⟩) (InitBack x R) s') :
    codeAny (model prog w) A (.call (.ref C) ⟨rest, kw⟩) R s := by
  have X := S.inK
  have hx : H (s.heap.objs.size + 1) = none := S.fresh (by omega)
  have k : ∀ b o, s.heap.get? b = some o → ((s.heap.push emptyDict).push (instObj C s.heap.objs.size)).get? b = some o := fun b o e => Heap.get?_push_of_some _ (Heap.get?_push_of_some _ e)
  have S1 := S.new (a := s.heap.objs.size + 1) (o := .inst C []) (t := s.toks) (h' := (s.heap.push emptyDict).push (instObj C s.heap.objs.size)) k (by omega) (fun _ => by omega)
    ⟨by omega, by
      have : ((s.heap.push emptyDict).push (instObj C s.heap.objs.size)).get? (s.heap.objs.size + 1) = some (instObj C s.heap.objs.size) := by heap_get
      exact this, [], 0, by
      have : ((s.heap.push emptyDict).push (instObj C s.heap.objs.size)).get? s.heap.objs.size = some emptyDict := by heap_get
      exact this, Nat.le_refl _, (fun e he => by cases he), fun x => rfl⟩ (by simp only [Heap.size_push]; omega)
  have h2 := h _ _ hx S1
  obtain ⟨hh, g, dw, tk, os⟩ := s
  exact make_core (makes_of X hm) (looks_findIn X hi) (fun self => bind_fn X self (beq_iff_eq.mp hf)) (.inl rfl) h2
end
end Mine
end
section
open PySem PySem.W PyProof.Rows PySem.Calls
set_option linter.unusedVariables false
set_option Elab.async false
namespace Mine
section
variable {SC : Nat} {P : Pl} {G H : AH} {M : Mo} {rk : Int → Nat}
noncomputable abbrev nfl (i w : Int) (cl ql : Nat) : List (Str × Value) := [("stream_id", .int i 0), ("_weight", .int w 0), ("children", .ref cl), ("parent", .none), ("child_queue", .ref ql), ("active", .bool true), ("last_weight", .int 0 0), ("_deficit", .int 0 0)]
noncomputable def Pl.at (P : Pl) (i : Int) (x cl ql : Nat) : Pl := ⟨fun j => if j = i then x else P.D j, fun j => if j = i then cl else P.CL j, fun j => if j = i then ql else P.QL j⟩
theorem Ents.pl {P P' : Pl} : ∀ {ts : List Nat} {q : List (Int × Int)}, (∀ e ∈ q, P'.D e.2 = P.D e.2) → Ents P G ts q → Ents P' G ts q
  | [], [], _, _ => trivial
  | t :: ts, e :: q, k, h => ⟨by rw [k e (.head _)]; exact h.1, Ents.pl (fun x hx => k x (.tail _ hx)) h.2⟩
  | [], _ :: _, _, h => h.elim
  | _ :: _, [], _, h => h.elim
theorem Tree.newNode (t : Tree SC P M G) (c : Clo M) (o : OkM rk M) {i w : Int} {x cl ql : Nat} (hi : M i = none) (hx : G x = none) (hc : G cl = none) (hq : G ql = none) (n1 : x ≠ cl) (n2 : x ≠ ql) (n3 : cl ≠ ql) :
    Tree SC (P.at i x cl ql) (M.put i (newNd w)) (upd (upd (upd G x (.inst SC (nfl i w cl ql))) cl (.list [])) ql (.list [])) := by
  have keep : ∀ (a : Nat) o, G a = some o → upd (upd (upd G x (.inst SC (nfl i w cl ql))) cl (.list [])) ql (.list []) a = some o := fun a o h =>
    upd_other (ne_fresh hq h) (upd_other (ne_fresh hc h) (upd_other (ne_fresh hx h) h))
  have old : ∀ j m, M.put i (newNd w) j = some m → j ≠ i → M j = some m := fun j m h q => by rw [Mo.put_ne q] at h; exact h
  have ne : ∀ j m, M j = some m → j ≠ i := fun j m h z => by rw [z, hi] at h; cases h
  have D1 : ∀ j, j ≠ i → (P.at i x cl ql).D j = P.D j := fun j h => if_neg h
  have C1 : ∀ j, j ≠ i → (P.at i x cl ql).CL j = P.CL j := fun j h => if_neg h
  have Q1 : ∀ j, j ≠ i → (P.at i x cl ql).QL j = P.QL j := fun j h => if_neg h
  have D0 : (P.at i x cl ql).D i = x := if_pos rfl
  have C0 : (P.at i x cl ql).CL i = cl := if_pos rfl
  have Q0 : (P.at i x cl ql).QL i = ql := if_pos rfl
  refine ⟨fun j m h => ?_, fun j m h => ?_, fun j m h => ?_, fun j l a b h1 h2 => ?_, fun j l a b h1 h2 z => ?_, fun j l a b h1 h2 z => ?_⟩
  · by_cases q : j = i
    · subst q; rw [Mo.put_self] at h; cases h
      rw [D0]
      show _ = some (AO.inst SC (flds (P.at j x cl ql) j (newNd w)))
      unfold flds
      rw [C0, Q0]
      exact upd_other n2 (upd_other n1 (upd_self ..))
    · have h0 := old j m h q
      rw [D1 j q]
      have e := keep _ _ (t.inst j m h0)
      unfold flds at e ⊢
      rw [C1 j q, Q1 j q]
      have : pv (P.at i x cl ql) m.par = pv P m.par := by
        cases hp : m.par with
        | none => rfl
        | some p => obtain ⟨y, hy⟩ := c.par j m p h0 hp; show Value.ref _ = Value.ref _; rw [D1 p (ne p y hy)]
      rw [this]; exact e
  · by_cases q : j = i
    · subst q; rw [Mo.put_self] at h; cases h
      rw [C0]; exact upd_other n3 (upd_self ..)
    · have h0 := old j m h q
      rw [C1 j q]
      have e := keep _ _ (t.cl j m h0)
      have : (m.kids.map fun k => Value.ref ((P.at i x cl ql).D k)) = m.kids.map fun k => .ref (P.D k) := List.map_congr_left fun k hk => by
        obtain ⟨y, hy⟩ := c.kids j m h0 k hk; rw [D1 k (ne k y hy)]
      rw [this]; exact e
  · by_cases q : j = i
    · subst q; rw [Mo.put_self] at h; cases h
      rw [Q0]; exact ⟨[], upd_self .., trivial⟩
    · have h0 := old j m h q
      rw [Q1 j q]
      obtain ⟨ts, e1, e2⟩ := t.ql j m h0
      refine ⟨ts, keep _ _ e1, (e2.mono fun a xs z => keep _ _ z).pl fun e he => D1 _ ?_⟩
      obtain ⟨⟨y, hy⟩, _⟩ := (o.ok j m h0).2.2.2.2.2 e he
      exact ne _ y hy
  · by_cases q : j = i
    · subst q; rw [C0]
      by_cases q2 : l = j
      · subst q2; rw [Q0]; exact n3
      · rw [Q1 l q2]; intro z; obtain ⟨ts, e1, _⟩ := t.ql l b (old l b h2 q2); rw [← z, hc] at e1; cases e1
    · rw [C1 j q]
      by_cases q2 : l = i
      · subst q2; rw [Q0]; intro z; have := t.cl j a (old j a h1 q); rw [z, hq] at this; cases this
      · rw [Q1 l q2]; exact t.cq j l a b (old j a h1 q) (old l b h2 q2)
  · by_cases q : j = i
    · by_cases q2 : l = i
      · rw [q, q2]
      · exfalso; rw [q, Q0, Q1 l q2] at z; obtain ⟨ts, e1, _⟩ := t.ql l b (old l b h2 q2); rw [← z, hq] at e1; cases e1
    · by_cases q2 : l = i
      · exfalso; rw [q2, Q0, Q1 j q] at z; obtain ⟨ts, e1, _⟩ := t.ql j a (old j a h1 q); rw [z, hq] at e1; cases e1
      · rw [Q1 j q, Q1 l q2] at z; exact t.qq j l a b (old j a h1 q) (old l b h2 q2) z
  · by_cases q : j = i
    · by_cases q2 : l = i
      · rw [q, q2]
      · exfalso; rw [q, C0, C1 l q2] at z; have := t.cl l b (old l b h2 q2); rw [← z, hc] at this; cases this
    · by_cases q2 : l = i
      · exfalso; rw [q2, C0, C1 j q] at z; have := t.cl j a (old j a h1 q); rw [z, hc] at this; cases this
      · rw [C1 j q, C1 l q2] at z; exact t.cc j l a b (old j a h1 q) (old l b h2 q2) z
end
end Mine
end
section
open PySem PySem.W PyProof.Rows PySem.Calls
set_option linter.unusedVariables false
set_option Elab.async false
namespace Mine
section
variable {SC : Nat} {P : Pl} {G H : AH} {M : Mo} {rk : Int → Nat}
theorem Tree.setkids (t : Tree SC P M G) {i : Int} {n : Nd} {ks : List Int} (hi : M i = some n) : Tree SC P (M.put i { n with kids := ks }) (upd G (P.CL i) (.list (ks.map fun j => .ref (P.D j)))) := by
  have e := t.cl i n hi
  have ex : ∀ j m, M.put i { n with kids := ks } j = some m → ∃ m0, M j = some m0 ∧ m0.q = m.q ∧ flds P j m0 = flds P j m ∧ (j ≠ i → m0.kids = m.kids) := fun j m h => by
    by_cases q : j = i
    · subst q; rw [Mo.put_self] at h; cases h; exact ⟨n, hi, rfl, rfl, fun z => absurd rfl z⟩
    · rw [Mo.put_ne q] at h; exact ⟨m, h, rfl, rfl, fun _ => rfl⟩
  have tk : ∀ (b : Nat) xs, G b = some (.tup xs) → upd G (P.CL i) (.list (ks.map fun j => .ref (P.D j))) b = some (.tup xs) := fun b xs z => upd_other (fun y => by rw [y, e] at z; cases z) z
  refine ⟨fun j m h => ?_, fun j m h => ?_, fun j m h => ?_, fun j l a b h1 h2 => ?_, fun j l a b h1 h2 => ?_, fun j l a b h1 h2 => ?_⟩
  · obtain ⟨m0, h0, k0, f0, _⟩ := ex j m h
    have := t.inst j m0 h0
    rw [f0] at this
    exact upd_other (fun z => by rw [z, e] at this; cases this) this
  · obtain ⟨m0, h0, _, _, k0⟩ := ex j m h
    by_cases z : j = i
    · subst z; rw [Mo.put_self] at h; cases h; exact upd_self ..
    · rw [← k0 z]
      have := t.cl j m0 h0
      exact upd_other (fun y => z (t.cc _ _ _ _ h0 hi y)) this
  · obtain ⟨m0, h0, k0, _⟩ := ex j m h
    obtain ⟨ts1, h1, h2⟩ := t.ql j m0 h0
    rw [← k0]
    exact ⟨ts1, upd_other (Ne.symm (t.cq i j _ _ hi h0)) h1, h2.mono tk⟩
  · obtain ⟨_, h1, _⟩ := ex j a h1; obtain ⟨_, h2, _⟩ := ex l b h2; exact t.cq _ _ _ _ h1 h2
  · obtain ⟨_, h1, _⟩ := ex j a h1; obtain ⟨_, h2, _⟩ := ex l b h2; exact t.qq _ _ _ _ h1 h2
  · obtain ⟨_, h1, _⟩ := ex j a h1; obtain ⟨_, h2, _⟩ := ex l b h2; exact t.cc _ _ _ _ h1 h2
theorem Tree.adopt (t : Tree SC P M G) {i j : Int} {d n : Nd} {t' : Nat} {ts : List Nat} (hi : M i = some d) (hj : M j = some n) (hne : j ≠ i) (h' : G t' = none) (hts : G (P.QL i) = some (.list (ts.map .ref))) (hE : Ents P G ts d.q) :
    Tree SC P (adopt M i j) (upd (upd (upd (upd G (P.D j) (.inst SC (flds P j { n with par := some i }))) (P.CL i) (.list ((d.kids ++ [j]).map fun j => .ref (P.D j)))) t' (.tup [.int d.lw 0, .ref (P.D j)]))
      (P.QL i) (.list ((put (place (klt (d.lw, j)) d.q) t' ts).map .ref))) := by
  rw [adopt_eq hi hj]
  have t1 := t.set (n' := { n with par := some i }) hj rfl rfl
  have hi1 : (M.put j { n with par := some i }) i = some d := (Mo.put_ne (Ne.symm hne)).trans hi
  have t2 := t1.setkids (ks := d.kids ++ [j]) hi1
  have f1 : (upd (upd G (P.D j) (.inst SC (flds P j { n with par := some i }))) (P.CL i) (.list ((d.kids ++ [j]).map fun j => .ref (P.D j)))) t' = none := by
    rw [upd_ne (fun z => by have := t.cl _ _ hi; rw [← z, h'] at this; cases this), upd_ne (fun z => by have := t.inst _ _ hj; rw [← z, h'] at this; cases this)]; exact h'
  have t3 := t2.fresh (o := .tup [.int d.lw 0, .ref (P.D j)]) f1
  have hi3 : ((M.put j { n with par := some i }).put i { d with kids := d.kids ++ [j] }) i = some { d with kids := d.kids ++ [j] } := Mo.put_self ..
  have hE2 : Ents P (upd (upd (upd G (P.D j) (.inst SC (flds P j { n with par := some i }))) (P.CL i) (.list ((d.kids ++ [j]).map fun j => .ref (P.D j)))) t' (.tup [.int d.lw 0, .ref (P.D j)])) ts d.q := by
    refine Ents.fresh ?_ f1
    refine Ents.turn (Ents.turn hE (t.inst _ _ hj) (by intro xs z; cases z)) (t1.cl _ _ hi1) (by intro xs z; cases z)
  have t4 := t3.setq hi3 (hE2.put (t := t') (e := (d.lw, j)) (p := place (klt (d.lw, j)) d.q) (upd_self ..))
  have hM : (((M.put j { n with par := some i }).put i { d with kids := d.kids ++ [j] }).put i { d with kids := d.kids ++ [j], q := put (place (klt (d.lw, j)) d.q) (d.lw, j) d.q }) =
      ((M.put j { n with par := some i }).put i { d with kids := d.kids ++ [j], q := ins (d.lw, j) d.q }) := by
    rw [Mo.put_put]; rfl
  rw [← hM]; exact t4
end
end Mine
end
section
open PySem PySem.W PyProof.Rows PySem.Calls
set_option linter.unusedVariables false
set_option Elab.async false
namespace Mine
theorem IP.pairs {prog : Program} {w : World} : ∀ {es : List DictEntry} {vs : List (Int × Value)}, IP es vs → Pairs (intKind prog w) es vs
  | [], [], _ => .nil
  | e :: es, p :: ps, ⟨⟨t, h1⟩, h2, h3, h4⟩ => .cons (by rw [h1]; show (p.1 == p.1) = true; simp) h3 (IP.pairs h4)
  | [], _ :: _, h => h.elim
  | _ :: _, [], h => h.elim
theorem IP.keys {prog : Program} {w : World} : ∀ {es : List DictEntry} {vs : List (Int × Value)}, IP es vs → ∀ e ∈ es, ∃ k, (intKind prog w).is k e.key = true ∧ e.hash = (intKind prog w).hash k
  | e :: es, p :: ps, ⟨⟨t, h1⟩, h2, h3, h4⟩, x, hx => by
    rcases List.mem_cons.mp hx with rfl | hx
    · exact ⟨p.1, by rw [h1]; show (p.1 == p.1) = true; simp, h2⟩
    · exact IP.keys h4 x hx
  | [], _, _, x, hx => by cases hx
  | _ :: _, [], h, _, _ => h.elim
theorem IP.of {prog : Program} {w : World} {es : List DictEntry} {vs : List (Int × Value)} (h : Pairs (intKind prog w) es vs) (k : ∀ e ∈ es, ∃ k, (intKind prog w).is k e.key = true ∧ e.hash = (intKind prog w).hash k) : IP es vs := by
  induction h with
  | nil => trivial
  | @cons e kv es kvs h1 h2 _ ih =>
    obtain ⟨t, h3⟩ := Value.isInt_shape h1
    obtain ⟨k', h4, h5⟩ := k e (.head _)
    have : k' = kv.1 := Value.isInt_inj _ _ _ h4 h1
    subst this
    exact ⟨⟨t, h3⟩, h5, h2, ih fun e he => k e (.tail _ he)⟩
theorem Real.dictOf (prog : Program) (w : World) {h : Heap} {a : Nat} {kvs : List (Int × Value)} (r : Real h a (.imap kvs)) : ∃ vs, h.DictOf (intKind prog w) a vs ∧ (vs.map fun p => (p.1, er p.2)) = kvs := by
  obtain ⟨es, n, e, vs, h1, h2, h3⟩ := r
  exact ⟨vs, ⟨_, es.toArray, n, e, ⟨rfl, rfl, rfl⟩, rfl, fun x hx => IP.keys h1 x (by simpa using hx), by simpa using IP.pairs h1, h2⟩, h3⟩
theorem Real.ofDict {prog : Program} {w : World} {h : Heap} {a : Nat} {vs : List (Int × Value)} (d : h.DictOf (intKind prog w) a vs) : Real h a (.imap (vs.map fun p => (p.1, er p.2))) := by
  obtain ⟨o, es, ep, ho, ⟨e1, e2, e3⟩, hd, hk, hp, hn⟩ := d
  refine ⟨es.toList, ep, ?_, vs, IP.of hp (fun e he => hk e (by simpa using he)), hn, rfl⟩
  rw [ho]
  obtain ⟨c, dd, dt, sl⟩ := o
  simp only at e1 e2 e3 hd
  subst e1 e2 e3 hd
  simp [dictOf]
noncomputable def kput (k : Int) (v : Value) (l : List (Int × Value)) : List (Int × Value) := if l.any (fun p => p.1 = k) then l.map (fun p => if p.1 = k then (p.1, v) else p) else l ++ [(k, v)]
theorem stored_er (vs : List (Int × Value)) (k : Int) (v : Value) : ((stored vs k v).map fun p => (p.1, er p.2)) = kput k (er v) (vs.map fun p => (p.1, er p.2)) := by
  have ha : ((vs.map fun p => (p.1, er p.2)).any fun p => p.1 = k) = vs.any fun kv => kv.1 = k := by rw [List.any_map]; rfl
  unfold stored kput
  rw [ha]
  split
  · rw [List.map_map, List.map_map]
    refine List.map_congr_left fun p _ => ?_
    simp only [Function.comp]
    split <;> rfl
  · simp
theorem valueAt_er (vs : List (Int × Value)) (k : Int) : (valueAt vs k).map er = (vs.map fun p => (p.1, er p.2)).lookup k := by
  induction vs with
  | nil => rfl
  | cons p r ih =>
    unfold valueAt at ih ⊢
    rw [List.map_cons, List.lookup_cons, List.find?_cons]
    by_cases h : p.1 = k
    · simp [h]
    · have : (k == p.1) = false := by simpa using fun z : k = p.1 => h z.symm
      simp only [h, decide_false, this]
      exact ih
section
variable {prog : Program} {w : World} {K : Frag} {c : Cx prog w K} {envs outer : List Env} {env : Env} {H G : AH} {A : Around} {E : Value → Shared → Prop} {s : Shared} {d : Nat} {k : Int} {t : Tok} {kvs : List (Int × Value)}
theorem not_sys (S : St c envs H s) (e : H d = some (.imap kvs)) : (d == sysModules) = false := by
  have h1 := (S.low d _ e).2.2 rfl
  have h2 := c.top.g.lt
  have h3 : sysModules < mainGlobals := by decide
  have h4 : d ≠ sysModules := by intro z; subst z; exact absurd (Nat.lt_trans h3 h2) (Nat.not_lt.mpr h1)
  simpa using h4
theorem int_is {prog : Program} {w : World} (k : Int) (t : Tok) : (intKind prog w).is k (.int k t) = true := by show (k == k) = true; simp
theorem d_in {Q : Value → Shared → Prop} (S : St c envs H s) (e : H d = some (.imap kvs)) (h : ∀ s', St c envs H s' → Q (.bool (kvs.lookup k).isSome) s') : wpAny (model prog w) A (compareOp .In (.int k t) (.ref d)) Q E s := by
  have ns := not_sys S e
  obtain ⟨vs, hD, rfl⟩ := (S.get e).dictOf prog w
  refine wpAny_in_of (int_is k t) ns hD.mapOf ?_
  have := h _ (S.tok (s.toks + 1))
  rw [← valueAt_er, Option.isSome_map] at this
  exact this
theorem d_get {v : Value} {Q : Value → Shared → Prop} (S : St c envs H s) (e : H d = some (.imap kvs)) (hv : kvs.lookup k = some v) (h : ∀ v' s', er v' = v → St c envs H s' → Q v' s') : wpAny (model prog w) A (getItem (.ref d) (.int k t)) Q E s := by
  obtain ⟨vs, hD, rfl⟩ := (S.get e).dictOf prog w
  rw [← valueAt_er] at hv
  obtain ⟨y, hy, he⟩ := Option.map_eq_some_iff.mp hv
  exact wpAny_getItem_of (int_is k t) hD.mapOf hy (h y _ he (S.tok _))
theorem d_item {value slice : PySem.Expr} {v : Value} {Q : Value → Shared → Prop} (S : St c envs H s) (e : H d = some (.imap kvs)) (hv : kvs.lookup k = some v) (h : ∀ v' s', er v' = v → St c envs H s' → Q v' s')
    (hs : subscripted slice false (.ref d) (.int k t) = operate [.ref d, .int k t] (getItem (.ref d) (.int k t)) := by with_unfolding_all rfl) : wpAny (model prog w) A (subscriptTail value slice (.ref d) (.int k t)) Q E s := by
  obtain ⟨vs, hD, _⟩ := (S.get e).dictOf prog w
  exact tail_any hD.typeIs slot_dict_getitem.lookup (d_get S e hv h) hs
theorem d_set {v : Value} {Q : Unit → Shared → Prop} (S : St c envs H s) (e : H d = some (.imap kvs)) (hz : kvs.length ≤ 1000) (h : ∀ s', St c envs (upd H d (.imap (kput k (er v) kvs))) s' → Q () s') : wpAny (model prog w) A (setItem (.ref d) (.int k t) v) Q E s := by
  obtain ⟨vs, hD, rfl⟩ := (S.get e).dictOf prog w
  refine wpAny_setItem_pairs (int_is k t) hD (fun h' hD' hs => h _ ?_) (by rw [sizeLine_eq]; rw [List.length_map] at hz; omega)
  rw [← stored_er]
  exact S.set e hs (Real.ofDict hD') rfl rfl
theorem d_len {Q : Value → Shared → Prop} (S : St c envs H s) (e : H d = some (.imap kvs)) (hz : kvs.length ≤ 1000) (h : ∀ t s', St c envs H s' → Q (.int kvs.length t) s') : wpAny (model prog w) A (call (.builtin "len") [.ref d]) Q E s := by
  have ns := not_sys S e
  obtain ⟨vs, hD, rfl⟩ := (S.get e).dictOf prog w
  rw [List.length_map] at hz
  refine call_len_dict ns hD (by omega) ?_
  have := h (s.toks + 1) _ (S.tok (s.toks + 1 + 1))
  rw [List.length_map] at this
  exact this
end
end Mine
namespace Mine
theorem pdict_get {P : Pl} {i : Int} : ∀ {ks : List Int}, i ∈ ks → (pdict P ks).lookup i = some (.ref (P.D i))
  | k :: r, h => by
    show List.lookup i ((k, Value.ref (P.D k)) :: pdict P r) = _
    rw [List.lookup_cons]
    by_cases q : i = k
    · subst q; simp
    · have : (i == k) = false := by simpa using q
      rw [this]
      rcases List.mem_cons.mp h with h | h
      · exact absurd h q
      · exact pdict_get h
end Mine
namespace Mine
theorem PTree.back2 {SC PC : Nat} {P : Pl} {M M' : Mo} {ks : List Int} {pt dd : Nat} {F Gt Gt' : AH} (p : PT SC PC P M ks pt dd Gt) (f1 : F pt = none) (f2 : F dd = none) (d : Dj (upd (upd F pt (.inst PC (pfl P dd))) dd (.imap (pdict P ks))) Gt') (t : Tree SC P M' Gt') (l : ∀ i, (∃ n, M i = some n) ↔ ∃ n, M' i = some n) :
    PTree SC PC M' ks pt (upd (upd Gt' pt (.inst PC (pfl P dd))) dd (.imap (pdict P ks))) ∧ Dj F (upd (upd Gt' pt (.inst PC (pfl P dd))) dd (.imap (pdict P ks))) ∧
    join (upd (upd F pt (.inst PC (pfl P dd))) dd (.imap (pdict P ks))) Gt' = join F (upd (upd Gt' pt (.inst PC (pfl P dd))) dd (.imap (pdict P ks))) := by
  have pn : Gt' pt = none := d.has (upd_other p.ne (upd_self ..))
  have dn : Gt' dd = none := d.has (upd_self ..)
  refine ⟨⟨P, dd, Gt', ⟨t, pn, dn, p.ne, p.nd, fun i => (p.ks i).trans (l i)⟩, rfl⟩, ?_, ?_⟩
  · have d0 : Dj F Gt' := d.sub (((Sub.refl F).fresh f1).fresh f2)
    exact (d0.r f1).r f2
  · rw [← upd_join_r f2, ← upd_join_r f1, upd_join, upd_join]
theorem put_ks {M : Mo} {i : Int} {n m : Nd} (h : M i = some n) : ∀ j, (∃ x, M j = some x) ↔ ∃ x, M.put i m j = some x := fun j => by
  by_cases q : j = i
  · subst q; exact ⟨fun _ => ⟨m, Mo.put_self ..⟩, fun _ => ⟨n, h⟩⟩
  · rw [Mo.put_ne q]
end Mine
end
section
open PySem PySem.W PyProof.Rows PySem.Calls
set_option linter.unusedVariables false
set_option Elab.async false
namespace Mine
theorem pdict_none {P : Pl} {i : Int} : ∀ {ks : List Int}, i ∉ ks → (pdict P ks).lookup i = none
  | [], _ => rfl
  | k :: r, h => by
    show List.lookup i ((k, Value.ref (P.D k)) :: pdict P r) = _
    have q : ¬ i = k := fun z => h (z ▸ .head _)
    have : (i == k) = false := by simpa using q
    rw [List.lookup_cons, this]
    exact pdict_none fun z => h (.tail _ z)
theorem pdict_any {P : Pl} {i : Int} {ks : List Int} (h : i ∉ ks) : ((pdict P ks).any fun p => p.1 = i) = false := by
  rw [List.any_eq_false]
  intro p hp
  obtain ⟨k, hk, rfl⟩ := List.mem_map.mp hp
  simpa using fun z : k = i => h (z ▸ hk)
theorem pdict_add {P P' : Pl} {i : Int} {ks : List Int} (h : i ∉ ks) (e : ∀ j ∈ ks, P'.D j = P.D j) : kput i (.ref (P'.D i)) (pdict P ks) = pdict P' (ks ++ [i]) := by
  unfold kput
  rw [pdict_any h]
  unfold pdict
  rw [List.map_append]
  simp only [Bool.false_eq_true, if_false, List.map_cons, List.map_nil]
  congr 1
  exact List.map_congr_left fun j hj => by rw [e j hj]
theorem pdict_len {P : Pl} {ks : List Int} : (pdict P ks).length = ks.length := List.length_map ..
theorem PTree.more {SC PC : Nat} {P P' : Pl} {M M' : Mo} {ks : List Int} {pt dd : Nat} {i : Int} {F Gt Gt' : AH} (p : PT SC PC P M ks pt dd Gt) (f1 : F pt = none) (f2 : F dd = none)
    (d : Dj (upd (upd F pt (.inst PC (pfl P dd))) dd (.imap (pdict P ks))) Gt') (t : Tree SC P' M' Gt') (hi : i ∉ ks) (e : ∀ j ∈ ks, P'.D j = P.D j) (h0 : 0 ∈ ks) (l : ∀ j, (∃ n, M' j = some n) ↔ (j = i ∨ ∃ n, M j = some n)) :
    PTree SC PC M' (ks ++ [i]) pt (upd (upd Gt' pt (.inst PC (pfl P' dd))) dd (.imap (pdict P' (ks ++ [i])))) ∧ Dj F (upd (upd Gt' pt (.inst PC (pfl P' dd))) dd (.imap (pdict P' (ks ++ [i])))) ∧
    upd (join (upd (upd F pt (.inst PC (pfl P dd))) dd (.imap (pdict P ks))) Gt') dd (.imap (kput i (.ref (P'.D i)) (pdict P ks))) = join F (upd (upd Gt' pt (.inst PC (pfl P' dd))) dd (.imap (pdict P' (ks ++ [i])))) := by
  have pn : Gt' pt = none := d.has (upd_other p.ne (upd_self ..))
  have dn : Gt' dd = none := d.has (upd_self ..)
  refine ⟨⟨P', dd, Gt', ⟨t, pn, dn, p.ne, ?_, fun j => ?_⟩, rfl⟩, ?_, ?_⟩
  · rw [List.nodup_append]
    exact ⟨p.nd, by simp, fun a ha b hb z => by cases List.mem_singleton.mp hb; exact hi (z ▸ ha)⟩
  · rw [List.mem_append, List.mem_singleton, l j, p.ks j]
    exact or_comm
  · have d0 : Dj F Gt' := d.sub (((Sub.refl F).fresh f1).fresh f2)
    exact (d0.r f1).r f2
  · rw [pdict_add hi e, upd_join, upd_upd, ← upd_join_r f2, ← upd_join_r f1, upd_join, upd_join]
    have : pfl P' dd = pfl P dd := by unfold pfl; rw [e 0 h0]
    rw [this]
theorem adopt_ks {M : Mo} {i dep w : Int} {d : Nd} (hn : M i = none) (hd : M dep = some d) : ∀ j, (∃ n, adopt (M.put i (newNd w)) dep i j = some n) ↔ (j = i ∨ ∃ n, M j = some n) := fun j => by
  have hne : dep ≠ i := fun z => by rw [z, hn] at hd; cases hd
  have h1 : (M.put i (newNd w)) dep = some d := (Mo.put_ne hne).trans hd
  rw [adopt_eq h1 (Mo.put_self ..)]
  by_cases q : j = dep
  · subst q; exact ⟨fun _ => .inr ⟨d, hd⟩, fun _ => ⟨_, Mo.put_self ..⟩⟩
  · rw [Mo.put_ne q]
    by_cases q2 : j = i
    · subst q2; exact ⟨fun _ => .inl rfl, fun _ => ⟨_, Mo.put_self ..⟩⟩
    · rw [Mo.put_ne q2, Mo.put_ne q2]
      exact ⟨.inr, fun h => h.resolve_left q2⟩
end Mine
end
section
open PySem PySem.W PyProof.Rows PySem.Calls
set_option linter.unusedVariables false
set_option Elab.async false
namespace Mine
section
variable {prog : Program} {w : World} {K : Frag} {c : Cx prog w K} {envs outer : List Env} {env : Env} {H G : AH} {A : Around} {E : Value → Shared → Prop} {s : Shared}
theorem nm_c {x : Str} {b : Nat} {v : Value} {Q : Value → Shared → Prop} (S : St c envs H s) (hc : env.cells.lookup x = some b) (hH : H b = some (.cell (some v))) (h : ∀ v', er v' = v → Q v' s)
    (hk : env.scope.kind = .function := by rfl) (hl : env.kindOf x = some .cell := by rfl) : wpAny (model prog w) A (loadName env x) Q E s := by
  obtain ⟨o, v', ho, hd, he⟩ := S.get hH
  cases v' with
  | none => cases he
  | some u => exact wpAny_loadName_cell hk hl hc ⟨o, ho, hd⟩ (h u (Option.some.inj he))
theorem nmc {x : Str} {pos : Pos} {b : Nat} {v : Value} {Q : Value → Shared → Prop} (S : St c envs H s) (hc : env.cells.lookup x = some b) (hH : H b = some (.cell (some v))) (h : ∀ v', er v' = v → Q v' s)
    (hk : env.scope.kind = .function := by rfl) (hl : env.kindOf x = some .cell := by rfl) (hd : (x == ("__debug__" : Str)) = false := by decide) : wpAny (model prog w) A (eval (.Name x pos) env) Q E s :=
  wpAny_Name (nm_c S hc hH h hk hl) hd
theorem stc {x : Str} {b : Nat} {v v' : Value} {u : Option Value} {Q : Unit → Shared → Prop} (S : St c envs H s) (hc : env.cells.lookup x = some b) (hH : H b = some (.cell u)) (hv : er v = v')
    (h : ∀ s', St c envs (upd H b (.cell (some v'))) s' → Q () s')
    (hk : env.scope.kind = .function := by rfl) (hl : env.kindOf x = some .cell := by rfl) : wpAny (model prog w) A (storeName env x v) Q E s := by
  subst hv
  obtain ⟨o, u', ho, hd, he⟩ := S.get hH
  exact wpAny_storeName_cell hk hl hc ⟨o, ho, hd⟩ fun h' hi hs => h _ (S.set hH hs (let ⟨o, ho, hd⟩ := hi; ⟨o, some v, ho, hd, rfl⟩) rfl rfl)
structure Row (prog : Program) (w : World) (P : AH → Prop) (xs : List Value) (ao : Nat → AO) : Prop where
  up : ∀ (G : AH) (it : Nat) o, G it = none → P G → P (upd G it o)
  next : ∀ {K : Frag} {c : Cx prog w K} {envs : List Env} {G : AH} {s : Shared} {A : Around} {E : Value → Shared → Prop} {Q : Option Value → Shared → Prop} {it i : Nat} {x : Value},
    St c envs (upd G it (ao i)) s → G it = none → P G → xs[i]? = some x → (∀ v s', er v = x → St c envs (upd G it (ao (i + 1))) s' → Q (some v) s') → wpAny (model prog w) A (pyNext (.ref it)) Q E s
  fin : ∀ {K : Frag} {c : Cx prog w K} {envs : List Env} {G : AH} {s : Shared} {A : Around} {E : Value → Shared → Prop} {Q : Option Value → Shared → Prop} {it i : Nat},
    St c envs (upd G it (ao i)) s → G it = none → P G → xs.length ≤ i → Hd A G → (∀ s', St c envs G s' → Q none s') → wpAny (model prog w) A (pyNext (.ref it)) Q E s
  self : ∀ {K : Frag} {c : Cx prog w K} {envs : List Env} {G : AH} {s : Shared} {A : Around} {E : Value → Shared → Prop} {Q : Value → Shared → Prop} {it i : Nat},
    St c envs (upd G it (ao i)) s → Q (.ref it) s → wpAny (model prog w) A (pyIter (.ref it)) Q E s
  own : ∀ {K : Frag} {c : Cx prog w K} {envs : List Env} {G : AH} {s : Shared} {A : Around} {E : Value → Shared → Prop} {Q : Unit → Shared → Prop} {it i : Nat} {target : Expr} {v : Value},
    St c envs (upd G it (ao i)) s → Q () s → wpAny (model prog w) A (letOwnedTupleGo target (.ref it) v) Q E s
theorem row_list (l : Nat) (xs : List Value) : Row prog w (fun G => G l = some (.list xs)) xs (fun i => .iter l i) where
  up := fun G it o n h => upd_other (ne_fresh n h) h
  next := fun S n h hx k => next_item S (upd_self ..) (upd_other (ne_fresh n h) h) hx fun v s' hv S' => k v s' hv (by rw [upd_upd] at S'; exact S')
  fin := fun S n h hx d k => next_end S n h hx d k
  self := fun S h => wpAny_pyIter_listiter (S.get (upd_self ..)) h
  own := fun S h => own_go (S.get (upd_self ..)) h
noncomputable abbrev rIt (x left step : Int) : Obj := { cls := .type "range_iterator", data := .fields #[rawInt x, rawInt left, rawInt step] }
noncomputable abbrev rOb (a b d : Int) (t u v : Tok) : Obj := { cls := .type "range", data := .fields #[.int a t, .int b u, .int d v] }
noncomputable def rRow (a d : Int) (n : Nat) : List Value := (List.range n).map fun k : Nat => .int (a + (k : Int) * d) 0
theorem rRow_len {a d : Int} {n : Nat} : (rRow a d n).length = n := by unfold rRow; rw [List.length_map, List.length_range]
theorem rRow_get {a d : Int} {n i : Nat} {x : Value} (h : (rRow a d n)[i]? = some x) : i < n ∧ x = .int (a + (i : Int) * d) 0 := by
  have hi := (List.getElem?_eq_some_iff.mp h).1
  rw [rRow_len] at hi
  refine ⟨hi, ?_⟩
  unfold rRow at h
  rw [List.getElem?_map, List.getElem?_range hi] at h
  exact (Option.some.inj h).symm
theorem own_raw {target : Expr} {it : Nat} {v : Value} {o : Obj} {n : String} {vs : Array Value} {Q : Unit → Shared → Prop} (ho : s.heap.get? it = some o) (hc : o.cls = .type n) (hd : o.data = .fields vs)
    (hn : ["enumerate", "zip", "dict_itemiterator", "dict_reverseitemiterator", "odict_iterator", "itertools.zip_longest", "itertools.pairwise"].contains n = false) (hQ : Q () s) : wpAny (model prog w) A (letOwnedTupleGo target (.ref it) v) Q E s := by
  have go : ∀ a, wpAny (model prog w) A (do
      let o ← load it
      match o.cls, o.data with
      | .type n, .fields vs =>
        if ["enumerate", "zip", "dict_itemiterator", "dict_reverseitemiterator", "odict_iterator", "itertools.zip_longest", "itertools.pairwise"].contains n && vs[0]? == some (rawInt a) then
          rule "for.unpacks-the-owned-tuple"
          updateField it 0 .none
      | _, _ => pure ()) Q E s := fun a => by
    refine wpAny_bind (wpAny_load ho ?_)
    rw [hc, hd]
    dsimp only
    rw [hn]
    exact wpAny_pure hQ
  cases target <;> first
    | exact wpAny_pure hQ
    | (cases v <;> first | exact go _ | exact wpAny_pure hQ)
theorem row_range (a d : Int) (n : Nat) : Row prog w (fun _ => True) (rRow a d n) (fun i => .raw (rIt (a + (i : Int) * d) ((n : Int) - i) d)) where
  up := fun _ _ _ _ _ => trivial
  next := fun {K c envs G s A E Q it i x} S m _ hx k => by
    obtain ⟨hi, rfl⟩ := rRow_get hx
    have hit : s.heap.get? it = some (rIt (a + (i : Int) * d) ((n : Int) - i) d) := S.get (upd_self ..)
    refine wpAny_pyNext_range_item hit (by omega) fun h' hi' hs => k _ _ rfl ?_
    have e1 : a + (i : Int) * d + d = a + ((i + 1 : Nat) : Int) * d := by rw [Int.natCast_add, Int.add_mul]; omega
    have e2 : (n : Int) - (i : Int) - 1 = (n : Int) - ((i + 1 : Nat) : Int) := by omega
    have S' := S.set (t := s.toks + 1) (o' := .raw (rIt (a + ((i + 1 : Nat) : Int) * d) ((n : Int) - ((i + 1 : Nat) : Int)) d)) (upd_self ..) hs (by
      show h'.get? it = _
      rw [← e1, ← e2]; exact hi') rfl rfl
    rw [upd_upd] at S'
    exact S'
  fin := fun {K c envs G s A E Q it i} S m _ hx hdd k => by
    rw [rRow_len] at hx
    have hit : s.heap.get? it = some (rIt (a + (i : Int) * d) ((n : Int) - i) d) := S.get (upd_self ..)
    have hT : s.TypeIs (.ref it) "range_iterator" := ⟨_, hit, rfl⟩
    unfold pyNext
    refine wpAny_bind (wpAny_attempt (wpAny_callSpecial?_slot (name := Str.ofString "__next__") hT F.slot_range_iterator_next
      (wpAny_call_entry F.slot_range_iterator_next hT F.entry_range_iterator_next ?_ (F.args_range_iterator_next_1 _))))
    show wpAny _ _ (field (.ref it) 0 >>= _) _ _ s
    refine wpAny_bind (wpAny_field hit rfl (x := rawInt (a + (i : Int) * d)) rfl ?_)
    show wpAny _ _ (field (.ref it) 1 >>= _) _ _ s
    refine wpAny_bind (wpAny_field hit rfl (x := rawInt ((n : Int) - i)) rfl ?_)
    show wpAny _ _ (field (.ref it) 2 >>= _) _ _ s
    refine wpAny_bind (wpAny_field hit rfl (x := rawInt d) rfl ?_)
    show wpAny _ _ (if (n : Int) - i ≤ 0 then _ else _) _ _ s
    rw [if_pos (by omega)]
    refine wpAny_bind (wpAny_rule ?_)
    refine wpAny_bind ?_
    show wpAny _ _ (newExc (.type "StopIteration") [] >>= _) _ _ _
    have S1 := S.off (h' := s.heap) m rfl rfl (Heap.SameBut.refl ..)
    refine stop_ S1 (A := A.in1) hdd fun x s' S' ti => ?_
    refine wpAny_bind (wpAny_isInstance (T := "StopIteration") (b := true) ti isSubtype_stop ?_)
    exact wpAny_pure (k _ S')
  self := fun {K c envs G s A E Q it i} S h => by
    have hit : s.heap.get? it = some (rIt (a + (i : Int) * d) ((n : Int) - i) d) := S.get (upd_self ..)
    have hT : s.TypeIs (.ref it) "range_iterator" := ⟨_, hit, rfl⟩
    refine wpAny_pyIter_slot hT F.slot_range_iterator_iter (wpAny_call_entry F.slot_range_iterator_iter hT F.entry_range_iterator_iter ?_ (F.args_range_iterator_iter_1 _))
    show wpAny _ _ (ret (.ref it)) _ _ s
    exact wpAny_pure ⟨_, rfl, "range_iterator", _, hT, F.slot_range_iterator_next.lookup, h⟩
  own := fun S h => own_raw (S.get (upd_self ..)) rfl rfl (by decide) h
end
end Mine
end
section
open PySem PySem.W PyProof.Rows PySem.Calls
set_option linter.unusedVariables false
set_option Elab.async false
namespace Mine
section
variable {prog : Program} {w : World} {K : Frag} {c : Cx prog w K} {envs outer : List Env} {env : Env} {H G : AH} {A : Around} {E : Value → Shared → Prop} {s : Shared}
theorem St.newRaw (S : St c envs H s) (o : Obj) (t : Nat) (hf : o.isFreed = false) (hz : True := trivial) : H s.heap.objs.size = none ∧ St c envs (upd H s.heap.objs.size (.raw o)) { s with heap := s.heap.push o, toks := t } :=
  ⟨S.fresh (Nat.le_refl _), S.new (fun b x q => Heap.get?_push_of_some _ q) (Nat.le_refl _) (by intro i; cases i) (Heap.get?_push_size _ hf) (by rw [Heap.size_push]; exact Nat.le_succ _)⟩
theorem mk_range1 {n : Int} {t : Tok} {Q : Value → Shared → Prop} (S : St c envs H s) (h : ∀ (r : Nat) t u v s', H r = none → St c envs (upd H r (.raw (rOb 0 n 1 t u v))) s' → Q (.ref r) s') :
    wpAny (model prog w) A (call (.type "range") [.int n t]) Q E s :=
  call_range_1 (let ⟨a, b⟩ := S.newRaw (rOb 0 n 1 s.toks t (s.toks + 1)) (s.toks + 1 + 1) rfl; h _ _ _ _ _ a b)
theorem mk_range2 {a b : Int} {t u : Tok} {Q : Value → Shared → Prop} (S : St c envs H s) (h : ∀ (r : Nat) t u v s', H r = none → St c envs (upd H r (.raw (rOb a b 1 t u v))) s' → Q (.ref r) s') :
    wpAny (model prog w) A (call (.type "range") [.int a t, .int b u]) Q E s :=
  call_range_2 (let ⟨x, y⟩ := S.newRaw (rOb a b 1 t u s.toks) (s.toks + 1) rfl; h _ _ _ _ _ x y)
theorem mk_range3 {a b d : Int} {t u v : Tok} {Q : Value → Shared → Prop} (S : St c envs H s) (hd : d ≠ 0) (hz : d.natAbs < 1073741824) (h : ∀ (r : Nat) t u v s', H r = none → St c envs (upd H r (.raw (rOb a b d t u v))) s' → Q (.ref r) s') :
    wpAny (model prog w) A (call (.type "range") [.int a t, .int b u, .int d v]) Q E s :=
  call_range_3 hd (let ⟨x, y⟩ := S.newRaw (rOb a b d t u v) s.toks rfl; h _ _ _ _ _ x y) (Or.inl (PyProof.noPylong_small hz))
theorem iter_range {r : Nat} {a b d : Int} {t u v : Tok} {Q : Value → Shared → Prop} (S : St c envs H s) (e : H r = some (.raw (rOb a b d t u v))) (n : Nat) (hn : Builtin.Range.rangeSize a b d = (n : Int)) (hs : Builtin.Range.small a b d = true)
    (k : ∀ (it : Nat) s', H it = none → St c envs (upd H it (.raw (rIt (a + ((0 : Nat) : Int) * d) ((n : Int) - (0 : Nat)) d))) s' → Q (.ref it) s') : wpAny (model prog w) A (pyIter (.ref r)) Q E s := by
  have hr : s.heap.get? r = some (rOb a b d t u v) := S.get e
  refine wpAny_pyIter_range hr hs ?_
  rw [hn]
  obtain ⟨x, y⟩ := S.newRaw (rIt a (n : Int) d) s.toks rfl
  have e1 : a + ((0 : Nat) : Int) * d = a := by simp
  have e2 : (n : Int) - ((0 : Nat) : Int) = n := by simp
  refine k _ _ x ?_
  rw [e1, e2]; exact y
noncomputable def RowAt (c : Cx prog w K) (envs : List Env) (I : Nat → AH → Prop) (ao : Nat → AO) (it i : Nat) (s : Shared) : Prop := ∃ G, I i G ∧ G it = none ∧ St c envs (upd G it (ao i)) s
theorem RowAt.mk {I : Nat → AH → Prop} {ao : Nat → AO} {it i : Nat} (h : I i G) (n : G it = none) (S : St c envs (upd G it (ao i)) s) : RowAt c envs I ao it i s := ⟨G, h, n, S⟩
theorem for_row {target : Expr} {body orelse : List Stmt} {it : Nat} {R : Result → Shared → Prop} {P : AH → Prop} {xs : List Value} {ao : Nat → AO} (row : Row prog w P xs ao) (I : Nat → AH → Prop) (S : St c envs (upd H it (ao 0)) s) (n : H it = none) (hI : I 0 H)
    (hP : ∀ i G, I i G → P G) (hd : ∀ i G, I i G → Hd A G)
    (turn : ∀ i G s' v x, I i G → G it = none → xs[i]? = some x → er v = x → St c envs (upd G it (ao (i + 1))) s' →
      wpAny (model prog w) A (assign target env v) (fun _ s₂ => wpAny (model prog w) A (execs body env) (fun f s₃ => match f with
          | .next | .cont => RowAt c envs I ao it (i + 1) s₃
          | .brk => R (.ok .next) s₃
          | .ret v => R (.ok (.ret v)) s₃) (notedBy (model prog w) A env fun e s' => R (.error e) s') s₂) (notedBy (model prog w) A env fun e s' => R (.error e) s') s')
    (fin : ∀ G s', I xs.length G → St c envs G s' → wpAny (model prog w) A (execs orelse env) (fun f s₃ => R (.ok f) s₃) (notedBy (model prog w) A env fun e s' => R (.error e) s') s') :
    codeAny (model prog w) A (.forLoop target (.ref it) body orelse env) R s := by
  refine codeAny_forLoop_any (fun n s' => ∃ i, n = xs.length - i ∧ i ≤ xs.length ∧ RowAt c envs I ao it i s') ?_ xs.length ⟨0, rfl, Nat.zero_le _, H, hI, n, S⟩
  rintro n s' ⟨i, rfl, hi, G, hG, hn, S'⟩
  by_cases hlt : i < xs.length
  · have hx : xs[i]? = some xs[i] := List.getElem?_eq_getElem hlt
    refine row.next S' hn (hP i G hG) hx fun v s2 hv S2 => ?_
    refine row.own S2 ?_
    refine wpAny_mono (turn i G s2 v _ hG hn hx hv S2) (fun _ s3 h3 => wpAny_mono h3 (fun f s4 h4 => ?_) fun _ _ x => x) fun _ _ x => x
    cases f with
    | next => exact ⟨_, by omega, i + 1, rfl, by omega, h4⟩
    | cont => exact ⟨_, by omega, i + 1, rfl, by omega, h4⟩
    | brk => exact h4
    | ret v => exact h4
  · have he : i = xs.length := by omega
    subst he
    exact row.fin S' hn (hP _ G hG) (Nat.le_refl _) (hd _ _ hG) fun s2 S2 => fin G s2 hG S2
theorem comp_env0 {scope : Scope} {g : Addr} {cl : List (Str × Addr)} {qual : Str} {Q : Env → Shared → Prop} (S : St c envs H s) (hcell : ∀ y ∈ scope.names, y.2 ≠ .cell) (hkind : scope.kind = .function)
    (k : ∀ (C : Nat) s', H C = none → St c envs (upd H C (.ns [])) s' → Q (newEnv scope C g cl qual none .none (some env) builtinsNs) s') :
    wpAny (model prog w) A (newFunctionEnv scope g cl [] qual none .none (some env)) Q E s := by
  refine wpAny_newFunctionEnv hcell (by intro y hy; simp at hy) (fun h₁ hns hsb => ?_) hkind
  have hz : s.heap.objs.size ≤ h₁.objs.size := by rw [hsb.1, Heap.size_push]; exact Nat.le_succ _
  refine k _ _ (S.fresh (Nat.le_refl _)) (S.new (fun b x q => ?_) (Nat.le_refl _) (by intro i; cases i) ⟨_, hns, fun x v q => by cases q⟩ hz)
  exact (hsb.2 b (Nat.ne_of_lt (Heap.lt_size q))).trans (Heap.get?_push_of_some _ q)
theorem comp_off {C : Nat} {l : List (Str × Value)} {h' : Heap} (S : St c envs (upd H C (.ns l)) s) (n : H C = none) (f : Frs envs H) (hs : Heap.SameBut C s.heap h') : St c envs H { s with heap := h' } := by
  have ea : upd H C (.ns l) C = some (.ns l) := upd_self ..
  have neq : ∀ (b : Nat) x, H b = some x → b ≠ C := fun b x q z => by rw [z, n] at q; cases q
  have up : ∀ (b : Nat) x, H b = some x → upd H C (.ns l) b = some x := fun b x q => upd_other (neq b x q) q
  refine ⟨fun b x q => (hs.2 b fun z => ?_).trans (S.base b x q), fun b x q => ?_, fun b x q => S.low b x (up b x q), fun b x q i => ?_, f, S.gens, S.drawn, S.os, hs.1 ▸ S.size⟩
  · have := (S.low C _ ea).1; rw [z, this] at q; cases q
  · refine (S.real b x (up b x q)).keep fun d hd y hy => (hs.2 d ?_).trans hy
    rcases hd with rfl | ⟨i, rfl⟩
    · exact neq _ _ q
    · intro z; have := S.excl b x (up b x q) i; rw [z, ea] at this; cases this
  · have := S.excl b x (up b x q) i
    by_cases z : b - 1 = C
    · rw [z, ea] at this; cases this
    · rw [upd_ne z] at this; exact this
end
end Mine
end
section
open PySem PySem.W PyProof.Rows PySem.Calls
set_option linter.unusedVariables false
set_option Elab.async false
namespace Mine
section
variable {prog : Program} {w : World} {K : Frag} {c : Cx prog w K} {envs outer : List Env} {env cenv : Env} {H G : AH} {A : Around} {E : Value → Shared → Prop} {s : Shared} {P : AH → Prop} {xs : List Value} {ao : Nat → AO} {it C D : Nat}
  {elt iter : Expr} {x : Str} {px : Pos} {ifs : List Expr} {scope : Scope} {pos : Pos} {cl : List (Str × Addr)} {l : List (Str × Value)}
noncomputable def CompAt (c : Cx prog w K) (envs : List Env) (I : Nat → AH → Prop) (ao : Nat → AO) (it C i : Nat) (s : Shared) : Prop := ∃ G l, I i G ∧ G it = none ∧ G C = none ∧ St c envs (upd (upd G it (ao i)) C (.ns l)) s
theorem CompAt.mk {I : Nat → AH → Prop} {i : Nat} (h : I i G) (n : G it = none) (nC : G C = none) (S : St c envs (upd (upd G it (ao i)) C (.ns l)) s) : CompAt c envs I ao it C i s := ⟨G, l, h, n, nC, S⟩
noncomputable abbrev testsOf (prog : Program) (w : World) (A : Around) (ifs : List Expr) (cenv : Env) (Q : Bool → Shared → Prop) (E : Value → Shared → Prop) (s : Shared) : Prop :=
  wpAny (model prog w) A (forIn ifs true fun c r => if r = true then do let ok ← isTrue c cenv (eval c cenv); pure (ForInStep.yield ok) else pure (ForInStep.yield r)) Q E s
theorem comp_loop {acc : Value} {R : Result → Shared → Prop} (row : Row prog w P xs ao) (hne : it ≠ C) (I : Nat → AH → Prop) (S : St c envs (upd (upd H it (ao 0)) C (.ns l)) s) (n : H it = none) (nC : H C = none) (hI : I 0 H) (hP : ∀ i G, I i G → P G) (hd : ∀ i G, I i G → Hd A G)
    (turn : ∀ (i : Nat) (G : AH) (s' : Shared) (v y : Value) (l : List (Str × Value)), I i G → G it = none → G C = none → xs[i]? = some y → er v = y → St c envs (upd (upd G it (ao (i + 1))) C (.ns l)) s' →
      wpAny (model prog w) A (assign (.Name x px) cenv v) (fun _ s₂ => testsOf prog w A ifs cenv (fun ok s₃ =>
            if ok = true then wpAny (model prog w) A (eval elt cenv) (fun y s₄ =>
              wpAny (model prog w) A (call (.builtin "list.append") [acc, y]) (fun _ s₅ => CompAt c envs I ao it C (i + 1) s₅) (notedBy (model prog w) A cenv fun e s' => R (.error e) s') s₄) (notedBy (model prog w) A cenv fun e s' => R (.error e) s') s₃
            else CompAt c envs I ao it C (i + 1) s₃) (notedBy (model prog w) A cenv fun e s' => R (.error e) s') s₂) (notedBy (model prog w) A cenv fun e s' => R (.error e) s') s')
    (fin : ∀ (G : AH) (s' : Shared) (l : List (Str × Value)), I xs.length G → G C = none → St c envs (upd G C (.ns l)) s' → R (.ok .next) s') :
    codeAny (model prog w) A (.compLoop (.ListComp elt [⟨.Name x px, iter, ifs, 0⟩] scope pos) 0 (.ref it) acc cenv) R s := by
  refine codeAny_compLoop_tests (fun n s' => ∃ i, n = xs.length + 1 - i ∧ i ≤ xs.length ∧ CompAt c envs I ao it C i s') ?_ (xs.length + 1) ⟨0, rfl, Nat.zero_le _, H, l, hI, n, nC, S⟩
  rintro n s' ⟨i, rfl, hi, G, l', hG, hn, hC, S'⟩
  rw [upd_comm hne] at S'
  have hP' : P (upd G C (.ns l')) := row.up G C _ hC (hP i G hG)
  have hn' : upd G C (.ns l') it = none := upd_other hne hn
  by_cases hlt : i < xs.length
  · have hx : xs[i]? = some xs[i] := List.getElem?_eq_getElem hlt
    refine row.next S' hn' hP' hx fun v s2 hv S2 => ?_
    rw [← upd_comm hne] at S2
    refine wpAny_mono (turn i G s2 v _ l' hG hn hC hx hv S2) (fun _ s3 h3 => wpAny_mono h3 (fun ok s4 h4 => ?_) fun _ _ x => x) fun _ _ x => x
    cases ok with
    | false =>
      simp only [Bool.false_eq_true, if_false] at h4 ⊢
      exact ⟨_, by omega, i + 1, rfl, by omega, h4⟩
    | true =>
      simp only [if_true] at h4 ⊢
      exact wpAny_mono h4 (fun y s5 h5 => wpAny_mono h5 (fun _ s6 h6 => ⟨_, by omega, i + 1, rfl, by omega, h6⟩) fun _ _ x => x) fun _ _ x => x
  · have he : i = xs.length := by omega
    subst he
    exact row.fin S' hn' hP' (Nat.le_refl _) ((hd _ _ hG).sub ((Sub.refl G).fresh hC)) fun s2 S2 => fin G s2 l' hG hC S2
noncomputable def CompIn (prog : Program) (w : World) (A : Around) (E : Value → Shared → Prop) (use : Option (Value → Sem Unit)) (Q : Value → Shared → Prop) (e : Expr) (scope : Scope) (cl : List (Str × Addr)) (env : Env) (itv : Value) (s₂ : Shared) : Prop :=
  wpAny (model prog w) A (newList []) (fun acc s₃ => wpAny (model prog w) A (newFunctionEnv scope env.globals cl [] env.qual none .none (some env)) (fun cenv s₄ =>
    codeAny (model prog w) A (.compStart e 0 itv acc { cenv with scope := relabel scope env }) (compPost (model prog w) A E use Q acc cenv.locals) s₄) E s₃) E s₂
theorem comp_eval {Q : Value → Shared → Prop} (hclos : closureFor scope env = pure cl) (hkind : scope.kind = .function) (hnames : ∀ y ∈ scope.names, y.2 = .local → scope.names.lookup y.1 = some .local)
    (h : wpAny (model prog w) A (eval iter env) (fun xv s₁ => wpAny (model prog w) A (pyIter xv) (fun itv s₂ => CompIn prog w A E none Q (.ListComp elt [⟨.Name x px, iter, ifs, 0⟩] scope pos) scope cl env itv s₂) E s₁) E s)
    (hs : ∀ x, foldedSetIterable iter env x = pure x := by intro _; rfl) :
    wpAny (model prog w) A (eval (.ListComp elt [⟨.Name x px, iter, ifs, 0⟩] scope pos) env) Q E s := by
  rw [eval_ListComp]
  exact wpAny_comprehension_free (use := none) rfl hs hclos hkind hnames h
theorem comp_assign {y : Str} {py spos : Pos} {Q : Flow → Shared → Prop} (hsw : swapsWith (.ListComp elt [⟨.Name x px, iter, ifs, 0⟩] scope pos) (some (.Name y py)) spos.line env = pure true)
    (hclos : closureFor scope env = pure cl) (hkind : scope.kind = .function) (hnames : ∀ y ∈ scope.names, y.2 = .local → scope.names.lookup y.1 = some .local)
    (h : wpAny (model prog w) A (eval iter env) (fun xv s₁ => wpAny (model prog w) A (pyIter xv) (fun itv s₂ => CompIn prog w A E (some (assign (.Name y py) env)) (fun _ s' => Q .next s') (.ListComp elt [⟨.Name x px, iter, ifs, 0⟩] scope pos) scope cl env itv s₂) E s₁) E s)
    (hs : ∀ x, foldedSetIterable iter env x = pure x := by intro _; rfl) :
    wpAny (model prog w) A (exec (.Assign [.Name y py] (.ListComp elt [⟨.Name x px, iter, ifs, 0⟩] scope pos) spos) env) Q E s := by
  rw [exec_Assign_Name_used _ _ _ _ hsw]
  refine wpAny_bind (wpAny_standAt (wpAny_bind ?_))
  show wpAny _ A (do let _ ← comprehension (.ListComp elt [⟨.Name x px, iter, ifs, 0⟩] scope pos) scope env _ (newList []) false (eval iter env) (some (assign (.Name y py) env))) _ _ s
  exact wpAny_bind (wpAny_mono (wpAny_comprehension_free (use := some (assign (.Name y py) env)) (Q := fun _ s' => Q .next s') rfl hs hclos hkind hnames h) (fun _ s' hq => wpAny_pure (wpAny_pure hq)) fun _ _ e => e)
theorem comp_none {Q : Value → Shared → Prop} {acc : Value} (S : St c envs (upd G C (.ns l)) s) (n : G C = none) (f : Frs envs G) (k : ∀ s', St c envs G s' → Q acc s') : compPost (model prog w) A E none Q acc C (.ok .next) s := by
  obtain ⟨m, hm, _⟩ := S.get (upd_self ..)
  exact ⟨m, hm, fun h' hs => k _ (comp_off S n f hs)⟩
theorem comp_use {Q : Value → Shared → Prop} {v v' : Value} {y : Str} {py : Pos} {L : Nat} {lL : List (Str × Value)} (S : St c envs (upd G C (.ns l)) s) (n : G C = none) (f : Frs envs G) (hL : G L = some (.ns lL)) (hv : er v = v') (k : ∀ s', St c envs (upd G L (.ns ((y, v') :: lL))) s' → Q .none s')
    (hloc : env.locals = L) (hk : env.scope.kind = .function := by rfl) (hl : env.kindOf y = some .local := by rfl) : compPost (model prog w) A E (some (assign (.Name y py) env)) Q v C (.ok .next) s := by
  have hLC : L ≠ C := ne_fresh n hL
  refine wpAny_assign_Name (stv S (upd_other hLC hL) hv (fun s' S' => ?_) hloc hk hl)
  rw [← upd_comm hLC] at S'
  obtain ⟨m, hm, _⟩ := S'.get (upd_self ..)
  exact ⟨m, hm, fun h' hs => k _ (comp_off S' (upd_other (Ne.symm hLC) n) (f.ns hL) hs)⟩
theorem comp_in {Q : Value → Shared → Prop} {use : Option (Value → Sem Unit)} (row : Row prog w P xs ao) (I : Nat → Nat → AH → Prop) (S : St c envs (upd H it (ao 0)) s) (n : H it = none) (hI : ∀ D, H D = none → I D 0 (upd H D (.list []))) (hP : ∀ D i G, I D i G → P G) (hd : ∀ D i G, I D i G → Hd A G)
    (hcell : ∀ y ∈ scope.names, y.2 ≠ .cell) (hkind : scope.kind = .function)
    (turn : ∀ (D C i : Nat) (G : AH) (s' : Shared) (v y : Value) (l : List (Str × Value)), D ≠ it → H D = none → I D i G → G it = none → G C = none → it ≠ C → D ≠ C → xs[i]? = some y → er v = y → St c envs (upd (upd G it (ao (i + 1))) C (.ns l)) s' → ∀ E',
      wpAny (model prog w) A (assign (.Name x px) (compEnvC scope cl C env) v) (fun _ s₂ => testsOf prog w A ifs (compEnvC scope cl C env) (fun ok s₃ =>
            if ok = true then wpAny (model prog w) A (eval elt (compEnvC scope cl C env)) (fun y s₄ =>
              wpAny (model prog w) A (call (.builtin "list.append") [.ref D, y]) (fun _ s₅ => CompAt c envs (I D) ao it C (i + 1) s₅) E' s₄) E' s₃
            else CompAt c envs (I D) ao it C (i + 1) s₃) E' s₂) E' s')
    (fin : ∀ (D C : Nat) (G : AH) (s' : Shared) (l : List (Str × Value)), H D = none → I D xs.length G → G C = none → St c envs (upd G C (.ns l)) s' → compPost (model prog w) A E use Q (.ref D) C (.ok .next) s') :
    CompIn prog w A E use Q (.ListComp elt [⟨.Name x px, iter, ifs, 0⟩] scope pos) scope cl env (.ref it) s := by
  unfold CompIn
  show wpAny _ A (newObj (.type "list") (.seq ([] : List Value).toArray)) _ _ _
  refine wpAny_newObj_type ?_ (by size_fits)
  have nD0 : upd H it (ao 0) s.heap.objs.size = none := S.fresh (Nat.le_refl _)
  have nD : H s.heap.objs.size = none := none_up nD0
  have hDi : s.heap.objs.size ≠ it := none_ne nD0
  have S1 : St c envs (upd (upd H it (ao 0)) s.heap.objs.size (.list [])) { s with heap := s.heap.push { cls := .type "list", dict := none, data := .seq ([] : List Value).toArray } } :=
    S.new (t := s.toks) (fun b x q => Heap.get?_push_of_some _ q) (Nat.le_refl _) (by intro i; cases i) ⟨_, _, Heap.get?_push_size _ rfl, rfl⟩ (by rw [Heap.size_push]; exact Nat.le_succ _)
  generalize s.heap.objs.size = D at nD nD0 hDi S1 ⊢
  rw [upd_comm (Ne.symm hDi)] at S1
  refine comp_env0 S1 hcell hkind fun C s2 nC S2 => ?_
  have nC1 := none_up nC
  have nC2 := none_ne nC
  have nC3 := none_ne nC1
  have lp : ∀ s2, St c envs (upd (upd (upd H D (.list [])) it (ao 0)) C (.ns [])) s2 → codeAny (model prog w) A (.compLoop (.ListComp elt [⟨.Name x px, iter, ifs, 0⟩] scope pos) 0 (.ref it) (.ref D) (compEnvC scope cl C env)) (compPost (model prog w) A E use Q (.ref D) C) s2 := fun s2 S2 =>
    comp_loop row (Ne.symm nC2) (I D) S2 (upd_other (Ne.symm hDi) n) nC1 (hI D nD) (hP D) (hd D) (fun i G s' v y l a b d e f g => turn D C i G s' v y l hDi nD a b d (Ne.symm nC2) (Ne.symm nC3) e f g _)
      (fun G s' l a b d => fin D C G s' l nD a b d)
  refine codeAny_compStart_list (lp _ S2) ?_
  have S3 := S2
  rw [upd_comm (Ne.symm nC2)] at S3
  exact row.self S3 (lp _ S2)
theorem comp_pure {Q : Value → Shared → Prop} {use : Option (Value → Sem Unit)} (row : Row prog w P xs ao) (f : Value → Option Value) (S : St c envs (upd H it (ao 0)) s) (n : H it = none) (hPH : P H) (hdH : Hd A H) (hz : xs.length ≤ 1000)
    (hcell : ∀ y ∈ scope.names, y.2 ≠ .cell) (hkind : scope.kind = .function) (hx : scope.names.lookup x = some .local)
    (tests : ∀ (C i : Nat) (v y : Value) (s' : Shared) (Hc : AH) (l : List (Str × Value)) (E' : Value → Shared → Prop), xs[i]? = some y → er v = y → (∀ (a : Nat) o, H a = some o → Hc a = some o) → Hc C = some (.ns ((x, y) :: l)) → St c envs Hc s' → testsOf prog w A ifs (compEnvC scope cl C env) (fun ok s₃ => ok = (f y).isSome ∧ St c envs Hc s₃) E' s')
    (helt : ∀ (C i : Nat) (v y z : Value) (s' : Shared) (Hc : AH) (l : List (Str × Value)) (E' : Value → Shared → Prop), xs[i]? = some y → er v = y → f y = some z → (∀ (a : Nat) o, H a = some o → Hc a = some o) → Hc C = some (.ns ((x, y) :: l)) → St c envs Hc s' → wpAny (model prog w) A (eval elt (compEnvC scope cl C env)) (fun u s₃ => er u = z ∧ St c envs Hc s₃) E' s')
    (fin : ∀ (D C : Nat) (s' : Shared) (l : List (Str × Value)), H D = none → upd H D (.list (xs.filterMap f)) C = none → St c envs (upd (upd H D (.list (xs.filterMap f))) C (.ns l)) s' → compPost (model prog w) A E use Q (.ref D) C (.ok .next) s') :
    CompIn prog w A E use Q (.ListComp elt [⟨.Name x px, iter, ifs, 0⟩] scope pos) scope cl env (.ref it) s := by
  refine comp_in row (fun D i G => H D = none ∧ G = upd H D (.list ((xs.take i).filterMap f))) S n (fun D nD => ⟨nD, by simp⟩) (fun D i G h => by rw [h.2]; exact row.up H D _ h.1 hPH) (fun D i G h => by rw [h.2]; exact hdH.fresh h.1) hcell hkind ?_ ?_
  · rintro D C i _ s' v y l hDi nD ⟨-, rfl⟩ hit hC hiC hDC hy hv S' E'
    have keep : ∀ (a : Nat) o, H a = some o → upd (upd (upd H D (.list ((xs.take i).filterMap f))) it (ao (i + 1))) C (.ns ((x, y) :: l)) a = some o := fun a o h =>
      upd_other (ne_fresh (none_up hC) h) (upd_other (ne_fresh n h) (upd_other (ne_fresh nD h) h))
    refine wpAny_assign_Name (stv S' (upd_self ..) hv (fun s2 S2 => ?_) rfl (by simp [compEnvC, relabel, hkind]) (lookup_relabel_local hx))
    rw [upd_upd] at S2
    have hlen : (xs.take (i + 1)).filterMap f = (xs.take i).filterMap f ++ (match f y with | some z => [z] | none => []) := by
      have hi := (List.getElem?_eq_some_iff.mp hy).1
      have he := (List.getElem?_eq_some_iff.mp hy).2
      rw [List.take_succ_eq_append_getElem hi, List.filterMap_append, he]
      congr 1
      cases hfy : f y <;> simp [hfy]
    refine wpAny_mono (tests C i v y s2 _ l E' hy hv keep (upd_self ..) S2) (fun ok s3 h3 => ?_) fun _ _ x => x
    obtain ⟨rfl, S3⟩ := h3
    cases hfy : f y with
    | none =>
      simp only [hfy, Option.isSome_none, Bool.false_eq_true, if_false]
      refine CompAt.mk (G := upd H D (.list ((xs.take i).filterMap f))) ⟨nD, ?_⟩ hit hC S3
      rw [hlen, hfy]; simp
    | some z =>
      simp only [hfy, Option.isSome_some, if_true]
      refine wpAny_mono (helt C i v y z s3 _ l E' hy hv hfy keep (upd_self ..) S3) (fun u s4 h4 => ?_) fun _ _ x => x
      obtain ⟨rfl, S4⟩ := h4
      refine list_append S4 (upd_other hDC (upd_other hDi (upd_self ..))) ?_ fun s5 S5 => ?_
      · refine Nat.le_trans (List.length_filterMap_le ..) (?_)
        rw [List.length_take]; omega
      · rw [← upd_comm hDC, ← upd_comm hDi, upd_upd] at S5
        refine CompAt.mk (l := (x, y) :: l) (G := upd H D (.list ((xs.take i).filterMap f ++ [er u]))) ⟨nD, ?_⟩ (upd_other (Ne.symm hDi) n) ?_ ?_
        · rw [hlen, hfy]
        · exact upd_other (Ne.symm hDC) (none_up hC)
        · exact S5
  · rintro D C _ s' l nD ⟨-, rfl⟩ hC S'
    rw [List.take_length] at hC S'
    exact fin D C s' l nD hC S'
end
end Mine
end
section
open PySem PySem.W PyProof.Rows PySem.Calls
set_option linter.unusedVariables false
set_option Elab.async false
namespace Mine
section
variable {prog : Program} {w : World} {K : Frag} {c : Cx prog w K} {envs outer : List Env} {env cenv : Env} {H G : AH} {A : Around} {E : Value → Shared → Prop} {s : Shared}
noncomputable def DictOne (c : Cx prog w K) (envs : List Env) (d : Nat) (Q : Value → Shared → Prop) (kv vv : Value) (s : Shared) : Prop :=
  ∃ i t H2, kv = .int i t ∧ H2 d = some (.imap []) ∧ St c envs H2 s ∧ ∀ s3, St c envs (upd H2 d (.imap [(i, er vv)])) s3 → Q (.ref d) s3
theorem dict_one {kx vx : Expr} {pos : Pos} {Q : Value → Shared → Prop} (S : St c envs H s)
    (h : ∀ (d : Nat) s0, H d = none → St c envs (upd H d (.imap [])) s0 → wpAny (model prog w) A (eval kx env) (fun kv s1 => wpAny (model prog w) A (eval vx env) (fun vv s2 => DictOne c envs d Q kv vv s2) E s1) E s0) :
    wpAny (model prog w) A (eval (.Dict [some kx] [vx] pos) env) Q E s := by
  refine wpAny_Dict_walk (knd := intKind prog w) rfl rfl (by simp) (by simp) (pairTrees_cons_walk ?_)
  have S1 : St c envs (upd H s.heap.objs.size (.imap [])) { s with heap := s.heap.push { cls := .type "dict", data := .dict #[] } } :=
    S.new (t := s.toks) (fun b x q => Heap.get?_push_of_some _ q) (Nat.le_refl _) (by intro i; cases i) ⟨[], 0, Heap.get?_push_size _ rfl, [], trivial, List.nodup_nil, rfl⟩ (by rw [Heap.size_push]; exact Nat.le_succ _)
  refine wpAny_mono (h _ _ (S.fresh (Nat.le_refl _)) S1) (fun kv s1 h1 => wpAny_mono h1 (fun vv s2 h2 => pairTrees_nil_walk ?_) fun _ _ x => x) fun _ _ x => x
  obtain ⟨i, t, H2, rfl, hd, S2, k⟩ := h2
  obtain ⟨vs, hD, hm⟩ := (S2.get hd).dictOf prog w
  obtain rfl : vs = [] := List.map_eq_nil_iff.mp hm
  refine ⟨[(i, vv)], ⟨int_is i t, rfl, trivial⟩, hD, fun h' hD' hs => k _ ?_⟩
  have r : Real h' s.heap.objs.size (.imap [(i, er vv)]) := Real.ofDict (prog := prog) (w := w) (vs := [(i, vv)]) hD'
  exact S2.set hd hs r rfl rfl
end
theorem join_nil {F : AH} : join F (fun _ => none) = F := by
  funext a; unfold join; cases F a <;> rfl
theorem Dj.nil {F : AH} : Dj F (fun _ => none) := fun a o h => by cases h
noncomputable def Mo.root : Mo := (Mo.put (fun _ => none) 0 { newNd 1 with act := false })
theorem PTree.root {SC PC : Nat} {x cl ql pt dd : Nat} (n1 : x ≠ cl) (n2 : x ≠ ql) (n3 : cl ≠ ql) (p1 : pt ≠ x) (p2 : pt ≠ cl) (p3 : pt ≠ ql) (d1 : dd ≠ x) (d2 : dd ≠ cl) (d3 : dd ≠ ql) (pd : pt ≠ dd) :
    PTree SC PC Mo.root [0] pt (upd (upd (upd (upd (upd (fun _ => none) x (.inst SC (setk "active" (.bool false) (nfl 0 1 cl ql)))) cl (.list [])) ql (.list [])) pt (.inst PC [("_root_stream", .ref x), ("_streams", .ref dd), ("_maximum_streams", .int 1000 0)])) dd (.imap [(0, .ref x)])) := by
  have t0 : Tree SC (⟨fun _ => 0, fun _ => 0, fun _ => 0⟩ : Pl) (fun _ => none : Mo) (fun _ => none) := by
    refine ⟨?_, ?_, ?_, ?_, ?_, ?_⟩ <;> intros <;> simp_all
  have ok0 : OkM (fun _ => 0) (fun _ => none : Mo) := ⟨fun i n h => by cases h⟩
  have c0 : Clo (fun _ => none : Mo) := ⟨fun i n h => (by cases h), fun i n p h => (by cases h)⟩
  have t1 := t0.newNode c0 ok0 (i := 0) (w := 1) (x := x) (cl := cl) (ql := ql) rfl rfl rfl rfl n1 n2 n3
  have t2 := t1.set (n' := { newNd 1 with act := false }) (Mo.put_self ..) rfl rfl
  rw [Mo.put_put] at t2
  have hG : upd (upd (upd (upd (fun _ => none) x (.inst SC (nfl 0 1 cl ql))) cl (.list [])) ql (.list [])) x (.inst SC (setk "active" (.bool false) (nfl 0 1 cl ql))) = upd (upd (upd (fun _ => none) x (.inst SC (setk "active" (.bool false) (nfl 0 1 cl ql)))) cl (.list [])) ql (.list []) := by
    rw [upd_comm (Ne.symm n2), upd_comm (Ne.symm n1), upd_upd]
  refine ⟨Pl.at ⟨fun _ => 0, fun _ => 0, fun _ => 0⟩ 0 x cl ql, dd, _, ⟨t2, ?_, ?_, pd, by simp, fun i => ?_⟩, ?_⟩
  · show upd _ x _ pt = none
    rw [upd_ne p1, upd_ne p3, upd_ne p2, upd_ne p1]
  · show upd _ x _ dd = none
    rw [upd_ne d1, upd_ne d3, upd_ne d2, upd_ne d1]
  · rw [List.mem_singleton]
    unfold Mo.root Mo.put
    constructor
    · rintro rfl; exact ⟨_, if_pos rfl⟩
    · rintro ⟨n, h⟩
      by_cases q : i = 0
      · exact q
      · rw [if_neg q] at h; cases h
  · rw [← hG]; rfl
end Mine
end
section
open PySem PySem.W PyProof.Rows PySem.Calls
set_option linter.unusedVariables false
set_option Elab.async false
set_option maxRecDepth 100000
namespace Mine
noncomputable def fnBody : Stmt → List Stmt
  | .FunctionDef _ _ b _ _ _ _ _ _ _ => b
  | _ => []
noncomputable def fnScope : Stmt → Scope
  | .FunctionDef _ _ _ _ _ _ sc _ _ _ => sc
  | _ => default
noncomputable def nthSt (p : Program) (n i : Nat) : Stmt := (fnBody (p.main.body.getD n default)).getD i default
noncomputable def envAt (p : Program) (n : Nat) (nm : Str) (L : Nat) (a : Nat) (cd : Value) (cs : List (Str × Addr)) : Env :=
  { scope := fnScope (p.main.body.getD n default), locals := L, globals := mainGlobals, cells := cs, qual := nm, func := some a, code := cd, frame := some L, builtins := builtinsNs }
theorem list_ne_lengths (l : Addr) (items : Array Value) (n : Nat) (b : Addr) (items2 : Array Value) (n2 : Nat) (hc0 : (items.size != items2.size) = true) :
    Meets (Builtin.«list.__ne__» ⟨[.ref l, .ref b], []⟩) (fun _ R s => s.heap.get? l = some { cls := .type "list", dict := none, data := .seq items n, slots := #[] } ∧ s.heap.get? b = some { cls := .type "list", dict := none, data := .seq items2 n2, slots := #[] } ∧ R (.ok (.ret (Value.bool (CmpOp.NotEq == CmpOp.NotEq)))) { s with heap := s.heap, toks := s.toks }) :=
  .of_wp fun prog w A R s h => by obtain ⟨hp, g, d, tk, os⟩ := s; obtain ⟨hl, hb, h⟩ := h; have f1 := AutoSeq1.idx_int; have f2 := AutoSeq1.sub_tuple_tuple; have f3 := AutoSeq1.sub_list_list; have f4 := AutoSeq1.sub_tuple_list; have f5 := AutoSeq1.sub_list_tuple; wp_walk using AutoSeq1.wpAny_loadPart' hl, AutoSeq1.wpAny_loadPart' hb; exact ⟨_, rfl, h⟩
theorem list_ne_nils (l : Addr) (n : Nat) (b : Addr) (n2 : Nat) :
    Meets (Builtin.«list.__ne__» ⟨[.ref l, .ref b], []⟩) (fun _ R s => s.heap.get? l = some { cls := .type "list", dict := none, data := .seq #[] n, slots := #[] } ∧ s.heap.get? b = some { cls := .type "list", dict := none, data := .seq #[] n2, slots := #[] } ∧ R (.ok (.ret (Value.bool false))) s) := by
  intro prog w A R s h
  obtain ⟨hp, g, d, tk, os⟩ := s; obtain ⟨hl, hb, h⟩ := h
  have f3 := AutoSeq1.sub_list_list
  wp_walk using AutoSeq1.wpAny_loadPart' hl, AutoSeq1.wpAny_loadPart' hb
  refine ⟨plainId_quiet MeetsSeq3.plain_eq_loop _, codeAny_builtin MeetsSeq3.entry_eq_loop ?_⟩
  rw [Around.under_plainId MeetsSeq3.plain_eq_loop _]
  wp_walk using AutoSeq1.wpAny_loadPart' hl, AutoSeq1.wpAny_loadPart' hb
  exact h
theorem slot_list_ne : Slot "list" (cmpInfo .NotEq).2.1 "list.__ne__" :=
  .of (owner := "list") (n := "__ne__") (by rw [typeLookup_type, builtinLookup_eq_fast]; kernel_rfl) (by decide +kernel) (by decide +kernel) (by decide +kernel)
    (by first | exact .inl (by decide +kernel) | exact .inr (by decide +kernel)) (by rw [isSubtype_type]; kernel_rfl)
theorem entry_list_ne : entryFor table "list.__ne__" = some Builtin.«list.__ne__» := entryFor_of_tree (by kernel_rfl)
theorem args_list_ne_2 (a b : Value) : argsOk "list.__ne__" ⟨[a, b], []⟩ := by
  unfold argsOk; rw [signature?_of (id := "list.__ne__") (n := ['_', '_', 'e', 'n', '_', '_']) (o := ['t', 's', 'i', 'l']) (by kernel_rfl) F.owner_list]; kernel_rfl
section
variable {prog : Program} {w : World} {K : Frag} {c : Cx prog w K} {envs outer : List Env} {env cenv : Env} {H G : AH} {A : Around} {E : Value → Shared → Prop} {s : Shared}
noncomputable def Scr (c : Cx prog w K) (sa : Nat) (ns : List Int) : Prop := ∃ vs : List Value, c.base.IsList sa vs.toArray ∧ IntsAre vs ns ∧ ns.length ≤ 63
theorem Scr.here {sa : Nat} {ns : List Int} (h : Scr c sa ns) (S : St c envs H s) : ∃ vs : List Value, s.heap.IsList sa vs.toArray ∧ IntsAre vs ns ∧ ns.length ≤ 63 := by
  obtain ⟨vs, ⟨o, ho, r⟩, h2, h3⟩ := h
  exact ⟨vs, ⟨o, S.base _ _ ho, r⟩, h2, h3⟩
theorem scr_len {sa : Nat} {ns : List Int} {Q : Value → Shared → Prop} (h : Scr c sa ns) (S : St c envs H s) (k : ∀ t s', St c envs H s' → Q (.int ns.length t) s') : wpAny (model prog w) A (call (.builtin "len") [.ref sa]) Q E s := by
  obtain ⟨vs, hl, hi, hz⟩ := h.here S
  have e := hi.length
  refine call_len_list hl (by simp; omega) ?_
  have := k (s.toks + 1) _ (S.tok (s.toks + 1 + 1))
  simpa [e] using this
theorem scr_item {value slice : PySem.Expr} {sa : Nat} {ns : List Int} {k i : Int} {u : Tok} {Q : Value → Shared → Prop} (h : Scr c sa ns) (S : St c envs H s) (h0 : 0 ≤ k) (hx : ns[k.toNat]? = some i) (q : ∀ t, Q (.int i t) s)
    (hs : subscripted slice false (.ref sa) (.int k u) = operate [.ref sa, .int k u] (getItem (.ref sa) (.int k u)) := by with_unfolding_all rfl) : wpAny (model prog w) A (subscriptTail value slice (.ref sa) (.int k u)) Q E s := by
  obtain ⟨vs, hl, hi, hz⟩ := h.here S
  obtain ⟨t, ht⟩ := hi.get _ _ hx
  have := (List.getElem?_eq_some_iff.mp hx).1
  exact tail_any hl.typeIs slot_list_getitem.lookup (wpAny_getItem_list hl h0 (by omega) (by simpa using ht) (q t)) hs
theorem eq_nil {a b : Nat} {xs : List Value} {Q : Value → Shared → Prop} (S : St c envs H s) (ea : H a = some (.list xs)) (eb : H b = some (.list [])) (hu : A.units < cLine) (k : Q (.bool xs.isEmpty) s) : wpAny (model prog w) A (compareOp .Eq (.ref a) (.ref b)) Q E s := by
  obtain ⟨va, ka, ha, rfl⟩ := S.get ea
  obtain ⟨vb, kb, hb, hm⟩ := S.get eb
  have hz : vb = #[] := by
    have : vb.toList = [] := List.map_eq_nil_iff.mp hm
    simpa using this
  subst hz
  by_cases h : va.size = 0
  · have he : va = #[] := Array.size_eq_zero_iff.mp h
    subst he
    exact P.eq_list (e := fun _ => true) ha hb rfl (fun j h1 _ => by simp at h1) hu (by simpa using k)
  · refine P.eq_list_lengths ha hb (by simpa using h) hu ?_
    have : (va.toList.map er).isEmpty = false := by
      cases q : va.toList with
      | nil => exact absurd (by have := congrArg List.length q; simpa using this) h
      | cons x r => rfl
    rw [this] at k; exact k
theorem ne_nil {a b : Nat} {xs : List Value} {Q : Value → Shared → Prop} (S : St c envs H s) (ea : H a = some (.list xs)) (eb : H b = some (.list [])) (hu : A.units < cLine) (k : Q (.bool (!xs.isEmpty)) s) : wpAny (model prog w) A (compareOp .NotEq (.ref a) (.ref b)) Q E s := by
  obtain ⟨va, ka, ha, rfl⟩ := S.get ea
  obtain ⟨vb, kb, hb, hm⟩ := S.get eb
  have hz : vb = #[] := by
    have : vb.toList = [] := List.map_eq_nil_iff.mp hm
    simpa using this
  subst hz
  by_cases h : va.size = 0
  · have he : va = #[] := Array.size_eq_zero_iff.mp h
    subst he
    exact richCompare_meets_room (op := .NotEq) ⟨_, ha, rfl⟩ ⟨_, hb, rfl⟩ slot_list_ne entry_list_ne (args_list_ne_2 _ _) (list_ne_nils a ka b kb)
      ⟨ha, hb, show Value.bool false ≠ Value.notImplemented ∧ Q (.bool false) s from ⟨(fun x => nomatch x), by simpa using k⟩⟩ hu
  · have : (va.toList.map er).isEmpty = false := by
      cases q : va.toList with
      | nil => exact absurd (by have := congrArg List.length q; simpa using this) h
      | cons x r => rfl
    rw [this] at k
    exact richCompare_meets_room (op := .NotEq) ⟨_, ha, rfl⟩ ⟨_, hb, rfl⟩ slot_list_ne entry_list_ne (args_list_ne_2 _ _) (list_ne_lengths a _ ka b _ kb (by simpa using h))
      ⟨ha, hb, show Value.bool true ≠ Value.notImplemented ∧ Q (.bool true) s from ⟨(fun x => nomatch x), k⟩⟩ hu
end
end Mine
end
section
open PySem PySem.W PyProof.Rows PySem.Calls
set_option linter.unusedVariables false
set_option Elab.async false
set_option maxRecDepth 100000
namespace Mine
theorem rRow_at {a : Int} {n i : Nat} {x : Value} (h : (rRow a 1 n)[i]? = some x) : ∃ j : Int, j = a + i ∧ a ≤ j ∧ j < a + n ∧ x = .int j 0 := by
  obtain ⟨hi, rfl⟩ := rRow_get h
  exact ⟨a + (i : Int) * 1, by omega, by omega, by omega, rfl⟩
theorem rRow_map {a : Int} {n : Nat} {f : Value → Option Value} {g : Nat → Value} (h : ∀ i : Nat, i < n → f (.int (a + (i : Int)) 0) = some (g i)) : (rRow a 1 n).filterMap f = (List.range n).map g := by
  unfold rRow
  rw [List.filterMap_map, ← List.filterMap_eq_map]
  have : ∀ i ∈ List.range n, (f ∘ fun k : Nat => Value.int (a + (k : Int) * 1) 0) i = (some ∘ g) i := fun i hi => by
    have e : a + (i : Int) * 1 = a + i := by omega
    show f (.int (a + (i : Int) * 1) 0) = some (g i)
    rw [e]; exact h i (List.mem_range.mp hi)
  exact filterMap_congr' this
where
  filterMap_congr' {α β : Type} {f g : α → Option β} : ∀ {l : List α}, (∀ i ∈ l, f i = g i) → l.filterMap f = l.filterMap g := fun {l} h => by
    induction l with
    | nil => rfl
    | cons x r ih =>
      rw [List.filterMap_cons, List.filterMap_cons, h x (.head _), ih fun i hi => h i (.tail _ hi)]
section
variable {prog : Program} {w : World} {K : Frag} {c : Cx prog w K} {envs outer : List Env} {env cenv : Env} {H G : AH} {A : Around} {E : Value → Shared → Prop} {s : Shared}
theorem iter_range1 {r : Nat} {a b : Int} {t u v : Tok} {Q : Value → Shared → Prop} (S : St c envs (upd H r (.raw (rOb a b 1 t u v))) s) (hr : H r = none) (n : Nat) (hn : b = a + n) (hb : -1000 ≤ a) (hb2 : b ≤ 100000)
    (k : ∀ (it : Nat) s', H it = none → St c envs (upd H it (.raw (rIt (a + ((0 : Nat) : Int) * 1) ((n : Int) - (0 : Nat)) 1))) s' → Q (.ref it) s') : wpAny (model prog w) A (pyIter (.ref r)) Q E s := by
  refine iter_range S (upd_self ..) n ?_ (small_one (by omega) (by omega) (by omega) (by omega)) fun it s' hit S' => k it s' (none_up hit) ?_
  · rw [rangeSize_one]; split <;> omega
  · refine S'.sub (Sub.upd2 ((Sub.refl H).fresh hr) (.inl rfl)) (Frs.fresh ?_ (none_up hit))
    intro env m
    obtain ⟨kk, L, l, h1, h2⟩ := S.frs env m
    refine ⟨kk, L, l, h1, ?_⟩
    by_cases q : L = r
    · subst q; rw [upd_self] at h2; cases h2
    · rw [upd_ne q] at h2; exact h2
theorem size_down {a : Nat} : Builtin.Range.rangeSize a 0 (-1) = (a : Int) := by
  unfold Builtin.Range.rangeSize
  rw [if_neg (by decide)]
  by_cases h : (a : Int) > 0
  · rw [if_pos h]; simp
  · rw [if_neg h]; omega
theorem small_down {a : Nat} (h : a ≤ 1000) : Builtin.Range.small a 0 (-1) = true := by
  unfold Builtin.Range.small
  rw [size_down]
  simp only [Builtin.Range.rangeFitsLong, Bool.and_eq_true, Bool.or_eq_true, decide_eq_true_eq, beq_iff_eq, show ¬ (-1 : Int) > 0 by decide, if_false]
  omega
theorem iter_rangeD {r : Nat} {n : Nat} {t u v : Tok} {Q : Value → Shared → Prop} (S : St c envs (upd H r (.raw (rOb n 0 (-1) t u v))) s) (hr : H r = none) (hn : n ≤ 1000)
    (k : ∀ (it : Nat) s', H it = none → St c envs (upd H it (.raw (rIt ((n : Int) + ((0 : Nat) : Int) * (-1)) ((n : Int) - (0 : Nat)) (-1)))) s' → Q (.ref it) s') : wpAny (model prog w) A (pyIter (.ref r)) Q E s := by
  refine iter_range S (upd_self ..) n size_down (small_down hn) fun it s' hit S' => k it s' (none_up hit) ?_
  refine S'.sub (Sub.upd2 ((Sub.refl H).fresh hr) (.inl rfl)) (Frs.fresh ?_ (none_up hit))
  intro env m
  obtain ⟨kk, L, l, h1, h2⟩ := S.frs env m
  refine ⟨kk, L, l, h1, ?_⟩
  by_cases q : L = r
  · subst q; rw [upd_self] at h2; cases h2
  · rw [upd_ne q] at h2; exact h2
end
end Mine
end
section
open PySem PySem.W PyProof.Rows PySem.Calls
set_option linter.unusedVariables false
set_option Elab.async false
set_option maxRecDepth 100000
namespace Mine
noncomputable def onInt (f : Int → Value) : Value → Option Value
  | .int i _ => some (f i)
  | _ => none
theorem rRow_onInt {a : Int} {n : Nat} {f : Int → Value} {g : Nat → Value} (h : ∀ i : Nat, i < n → f (a + (i : Int)) = g i) : (rRow a 1 n).filterMap (onInt f) = (List.range n).map g :=
  rRow_map fun i hi => by show some _ = _; rw [h i hi]
end Mine
end
section
open PySem PySem.W PyProof.Rows PySem.Calls
set_option linter.unusedVariables false
set_option Elab.async false
namespace Mine
section
variable {prog : Program} {w : World} {K : Frag} {c : Cx prog w K} {envs outer : List Env} {env cenv : Env} {H G : AH} {A : Around} {E : Value → Shared → Prop} {s : Shared} {P : AH → Prop} {xs : List Value} {ao : Nat → AO} {it C D : Nat}
  {elt iter : Expr} {x : Str} {px : Pos} {ifs : List Expr} {scope : Scope} {pos : Pos} {cl : List (Str × Addr)} {l : List (Str × Value)}
end
end Mine
end
section
open PySem PySem.W PyProof.Rows PySem.Calls
set_option linter.unusedVariables false
set_option Elab.async false
namespace Mine
noncomputable def Kp (L : Nat) (F F' : AH) : Prop := ∀ (a : Nat) o, a ≠ L → F a = some o → F' a = some o
theorem upd_id {H : AH} {a : Nat} {o : AO} (h : H a = some o) : upd H a o = H := by
  funext b
  by_cases q : b = a
  · subst q; rw [upd_self, h]
  · rw [upd_ne q]
theorem join_back {F' G2 : AH} {it L : Nat} {x o : AO} (fit : F' it = none) (nL : L ≠ it) (d : Dj (upd (upd F' it x) L o) G2) :
    join (upd (upd F' it x) L o) G2 = upd (join (upd F' L o) G2) it x ∧ join (upd F' L o) G2 it = none ∧ Dj (upd F' L o) G2 := by
  have hit : upd (upd F' it x) L o it = some x := upd_other (Ne.symm nL) (upd_self ..)
  have g : G2 it = none := d.has hit
  have f : upd F' L o it = none := upd_other (Ne.symm nL) fit
  refine ⟨by rw [upd_comm (Ne.symm nL), upd_join], by rw [join_n f]; exact g, fun b y q => ?_⟩
  have := d b y q
  by_cases h : b = L
  · subst h; rw [upd_self] at this; cases this
  · rw [upd_ne h] at this ⊢
    exact none_up this
end Mine
end
section
open PySem PySem.W PyProof.Rows PySem.Calls
set_option linter.unusedVariables false
set_option Elab.async false
namespace Mine
section
variable {cmp : Nat → Nat → (Bool → Shared → Prop) → Shared → Prop} {I : Shared → Prop} {key : Nat → Int} {N : Nat} {s : Shared} {p : Array Nat}
end
end Mine
end
section
open PySem PySem.W PyProof.Rows PySem.Calls
set_option linter.unusedVariables false
set_option Elab.async false
namespace Mine
section
variable {prog : Program} {w : World} {K : Frag} {c : Cx prog w K} {envs : List Env} {H : AH} {A : Around} {E : Value → Shared → Prop} {s : Shared} {L : Nat} {l : List (Str × Value)}
theorem St.grown {h' : Heap} {m : Str → Option Value} (S : St c envs H s) (hL : H L = some (.ns l)) (hm : ∀ x v, l.lookup x = some v → (m x).map er = some v) (hn : h'.Ns L m)
    (old : ∀ b x, b ≠ L → s.heap.get? b = some x → h'.get? b = some x) : St c envs H { s with heap := h' } := by
  refine ⟨fun b x q => old b x (fun z => ?_) (S.base b x q), fun a o e => ?_, S.low, S.excl, S.envs, S.gens, S.drawn, S.os, ?_⟩
  · have := (S.low L _ hL).1; rw [z, this] at q; cases q
  · by_cases q : a = L
    · subst q; rw [hL] at e; cases e; exact ⟨m, hn, hm⟩
    · refine (S.get e).keep fun b hb x hx => old b x (fun z => ?_) hx
      rcases hb with rfl | ⟨i, rfl⟩
      · exact q z
      · have := S.excl a o e i; rw [z, hL] at this; cases this
  · exact Nat.le_trans ((S.low L _ hL).2.2 rfl) (Nat.le_of_lt hn.lt)
theorem St.add {D : Nat} {o : AO} (S : St c envs H s) (n : H D = none) (b : c.base.get? D = none) (hi : o.isInst = false) (hb : o.isBig = false) (hx : ∀ a x, H a = some x → x.isInst = true → a - 1 ≠ D) (r : Real s.heap D o) : St c envs (upd H D o) s := by
  refine ⟨S.base, fun a x q => ?_, fun a x q => ?_, fun a x q i => ?_, ?_, S.gens, S.drawn, S.os, S.size⟩
  · by_cases z : a = D
    · subst z; rw [upd_self] at q; cases q; exact r
    · rw [upd_ne z] at q; exact S.get q
  · by_cases z : a = D
    · subst z; rw [upd_self] at q; cases q; exact ⟨b, fun i => (by rw [hi] at i; cases i), fun i => (by rw [hb] at i; cases i)⟩
    · rw [upd_ne z] at q; exact S.low a x q
  · by_cases z : a = D
    · subst z; rw [upd_self] at q; cases q; rw [hi] at i; cases i
    · rw [upd_ne z] at q
      exact upd_other (hx a x q i) (S.excl a x q i)
  · exact S.frs.fresh n
end
end Mine
end
section
open PySem PySem.W PyProof.Rows PySem.Calls
set_option linter.unusedVariables false
set_option Elab.async false
namespace Mine
theorem map_two {vs : List Value} {x y : Value} (h : vs.map er = [x, y]) : ∃ v1 v2, vs = [v1, v2] ∧ er v1 = x ∧ er v2 = y := by
  match vs with
  | [v1, v2] =>
    simp only [List.map_cons, List.map_nil, List.cons.injEq, and_true] at h
    exact ⟨v1, v2, rfl, h.1, h.2⟩
  | [] => cases h
  | [_] => simp at h
  | _ :: _ :: _ :: _ => simp at h
section
variable {prog : Program} {w : World} {K : Frag} {c : Cx prog w K} {envs : List Env} {H : AH} {A : Around} {E : Value → Shared → Prop} {s : Shared}
end
end Mine
namespace Mine
end Mine
end
section
open PySem PySem.W PyProof.Rows PySem.Calls
set_option linter.unusedVariables false
set_option Elab.async false
namespace Mine
theorem split_keep {Hc G : AH} (kg : ∀ (a : Nat) o, G a = some o → Hc a = some o) : ∃ F, Hc = join F G ∧ Dj F G ∧ ∀ a : Nat, G a = none → F a = Hc a := by
  refine ⟨fun a => match G a with | some _ => none | none => Hc a, ?_, ?_, ?_⟩
  · funext a
    unfold join
    cases q : G a with
    | none => simp only; cases Hc a <;> simp [q]
    | some o => simp only [q, kg a o q]
  · intro a o q
    simp only [q]
  · intro a q
    simp only [q]
end Mine
end
section
open PySem PySem.W PyProof.Rows PySem.Calls
set_option linter.unusedVariables false
set_option Elab.async false
namespace Mine
section
variable {prog : Program} {w : World} {K : Frag} {envs : List Env} {H : AH} {s : Shared}
theorem St.start {p : Program} {loose : List Str} {mean : ExcName → Option Value} {mg mb : Str → Option Value} {s₁ : Shared} {h₁ : Heap} {tk : Nat} {m : Str → Option Value} {L : Nat} {env : Env} (KX : K.In s₁.heap) (TT : Top p loose mean mg mb s₁.heap) (FF : Fr s₁.heap L h₁ m) (he : env.frame = some L) (hk : env.scope.kind ≠ .module) :
    St (⟨p, loose, mg, mb, s₁.heap, s₁.gens, s₁.drawn, s₁.os, KX, topRead_of TT⟩ : Cx prog w K) [env] (upd (fun _ => none) L (.ns [])) { s₁ with heap := h₁, toks := tk } := by
  have one : ∀ (a : Nat) o, upd (fun _ => none) L (.ns []) a = some o → a = L ∧ o = .ns [] := fun a o h => by
    by_cases q : a = L
    · subst q; rw [upd_self] at h; cases h; exact ⟨rfl, rfl⟩
    · rw [upd_ne q] at h; cases h
  refine ⟨FF.keep, fun a o h => ?_, fun a o h => ?_, fun a o h i => ?_, fun e m => ?_, rfl, rfl, rfl, Nat.le_trans FF.above (Nat.le_of_lt FF.ns.lt)⟩
  · obtain ⟨rfl, rfl⟩ := one a o h; exact ⟨m, FF.ns, fun x v q => by cases q⟩
  · obtain ⟨rfl, rfl⟩ := one a o h; exact ⟨get_big FF.above, (fun i => by cases i), fun _ => FF.above⟩
  · obtain ⟨rfl, rfl⟩ := one a o h; cases i
  · rw [List.mem_singleton.mp m]; exact ⟨hk, L, [], he, upd_self ..⟩
noncomputable def Plain (H : AH) : Prop := ∀ (a : Nat) x, H a = some x → x.isInst = false
theorem Plain.upd {a : Nat} {o : AO} (p : Plain H) (h : o.isInst = false) : Plain (Mine.upd H a o) := fun b x q => by
  by_cases z : b = a
  · subst z; rw [upd_self] at q; cases q; exact h
  · rw [upd_ne z] at q; exact p b x q
theorem St.cell {c : Cx prog w K} {D : Nat} {o : Obj} {v : Option Value} (S : St c envs H s) (pl : Plain H) (n : H D = none) (b : c.base.get? D = none) (ho : s.heap.get? D = some o) (hd : o.data = .cell v) : St c envs (upd H D (.cell (v.map er))) s ∧ Plain (upd H D (.cell (v.map er))) :=
  ⟨S.add n b rfl rfl (fun a x q i => by rw [pl a x q] at i; cases i) ⟨o, v, ho, hd, rfl⟩, pl.upd rfl⟩
end
end Mine
end
section
set_option linter.unusedVariables false
set_option Elab.async false
namespace Mine
structure RR where
  m : Nat
  nm : Nat → Int
  ch : Nat → List Nat
  pr : Nat → Nat
  pos : Nat → Nat
  W : Nat → Int
  act : Nat → Bool
  liv : Nat → Bool
  inj : ∀ i j, i ≤ m → j ≤ m → nm i = nm j → i = j
  chp : ∀ i, i ≤ m → ∀ (p c : Nat), (ch i)[p]? = some c → pr c = i ∧ pos c = p ∧ i < c ∧ c ≤ m
  prl : ∀ j, 1 ≤ j → j ≤ m → pr j < j ∧ (ch (pr j))[pos j]? = some j
  srt : ∀ i, i ≤ m → ∀ (p p' c c' : Nat), p < p' → (ch i)[p]? = some c → (ch i)[p']? = some c' → nm c < nm c'
  wlo : ∀ i, 1 ≤ W i
  whi : ∀ i, W i ≤ 256
  la : ∀ i, i ≤ m → act i = true → liv i = true
  ln : ∀ i, i ≤ m → act i = false → (liv i = true ↔ ∃ c ∈ ch i, liv c = true)
noncomputable def Df (w : Int) : Nat → Int
  | 0 => 0
  | a + 1 => (256 + Df w a) % w
noncomputable def Lv (w : Int) : Nat → Int
  | 0 => 0
  | a + 1 => Lv w a + (256 + Df w a) / w
theorem Df_bd {w : Int} (h1 : 1 ≤ w) (a : Nat) : 0 ≤ Df w a ∧ Df w a < max w 1 := by
  cases a with
  | zero => exact ⟨Int.le_refl _, by show (0 : Int) < _; omega⟩
  | succ a =>
    have h2 := Int.emod_nonneg (256 + Df w a) (show w ≠ 0 by omega)
    have := Int.emod_lt_of_pos (256 + Df w a) (show 0 < w by omega)
    exact ⟨h2, by show (256 + Df w a) % w < _; omega⟩
theorem Lv_lt {w : Int} (h1 : 1 ≤ w) (h2 : w ≤ 256) (a : Nat) : Lv w a < Lv w (a + 1) := by
  show Lv w a < Lv w a + (256 + Df w a) / w
  have hd := (Df_bd h1 a).1
  have : 1 ≤ (256 + Df w a) / w := (Int.le_ediv_iff_mul_le (by omega)).mpr (by omega)
  omega
theorem Lv_mono {w : Int} (h1 : 1 ≤ w) (h2 : w ≤ 256) {a b : Nat} (h : a < b) : Lv w a < Lv w b := by
  induction b with
  | zero => omega
  | succ b ih =>
    have := Lv_lt h1 h2 b
    by_cases q : a = b
    · subst q; exact this
    · exact Int.lt_trans (ih (by omega)) this
noncomputable def cnt (N x p : Nat) : Nat := (x + N - 1 - p) / N
theorem cnt_at {N y : Nat} (h : 0 < N) : cnt N y (y % N) = y / N := by
  unfold cnt
  have h1 := Nat.div_add_mod y N
  have h2 := Nat.mod_lt y h
  have e : y + N - 1 - y % N = N * (y / N) + (N - 1) := by omega
  rw [e, Nat.mul_add_div h, Nat.div_eq_of_lt (show N - 1 < N by omega)]; omega
theorem cnt_next {N y : Nat} (h : 0 < N) : cnt N (y + 1) (y % N) = y / N + 1 := by
  unfold cnt
  have h1 := Nat.div_add_mod y N
  have h2 := Nat.mod_lt y h
  have e : y + 1 + N - 1 - y % N = N * (y / N + 1) := by rw [Nat.mul_add]; omega
  rw [e, Nat.mul_div_cancel_left _ h]
theorem cnt_same {N y p : Nat} (hp : p < N) (n : p ≠ y % N) : cnt N (y + 1) p = cnt N y p := by
  unfold cnt
  have h : 0 < N := by omega
  obtain ⟨a, r, hr, e, e2⟩ : ∃ a r, r < N ∧ y = N * a + r ∧ y % N = r := ⟨y / N, y % N, Nat.mod_lt _ h, (Nat.div_add_mod y N).symm, rfl⟩
  rw [e2] at n
  subst e
  have key : ∀ a b : Nat, b < N → (N * a + b) / N = a := fun a b hb => by rw [Nat.mul_add_div h, Nat.div_eq_of_lt hb]; rfl
  rcases Nat.lt_or_gt_of_ne n with q | q
  · obtain ⟨d, rfl⟩ := Nat.exists_eq_add_of_lt q
    have e1 : N * a + (p + d + 1) + 1 + N - 1 - p = N * (a + 1) + (d + 1) := by rw [Nat.mul_add]; omega
    have e2 : N * a + (p + d + 1) + N - 1 - p = N * (a + 1) + d := by rw [Nat.mul_add]; omega
    rw [e1, e2, key _ _ (by omega), key _ _ (by omega)]
  · obtain ⟨d, rfl⟩ := Nat.exists_eq_add_of_lt q
    obtain ⟨f, rfl⟩ := Nat.exists_eq_add_of_lt hp
    have e1 : ∀ z, z + r + 1 + (r + d + 1 + f + 1) - 1 - (r + d + 1) = z + (r + f + 1) := fun z => by omega
    have e2 : ∀ z, z + r + (r + d + 1 + f + 1) - 1 - (r + d + 1) = z + (r + f) := fun z => by omega
    rw [e1, e2, key _ _ (by omega), key _ _ (by omega)]
section
variable (t : RR)
noncomputable def RR.at (i y : Nat) : Nat := (t.ch i).getD (y % (t.ch i).length) 0
noncomputable def RR.entry (i y : Nat) : Int × Int := (Lv (t.W i) (y / (t.ch i).length), t.nm (t.at i y))
noncomputable def RR.ent (i z k : Nat) : List (Int × Int) := (List.range k).map fun j => t.entry i (z + j)
noncomputable def RR.DF (x : Nat → Nat) (j : Nat) : Int := Df (t.W (t.pr j)) (cnt (t.ch (t.pr j)).length (x (t.pr j)) (t.pos j))
variable {t}
theorem RR.at_get {i y : Nat} (hN : 0 < (t.ch i).length) : (t.ch i)[y % (t.ch i).length]? = some (t.at i y) := by
  have := Nat.mod_lt y hN
  unfold RR.at
  rw [List.getD_eq_getElem?_getD, List.getElem?_eq_getElem this]; rfl
theorem RR.ent_succ {i z k : Nat} : t.ent i z (k + 1) = t.ent i z k ++ [t.entry i (z + k)] := by
  unfold RR.ent; rw [List.range_succ, List.map_append]; rfl
theorem RR.ent_cons {i z k : Nat} : t.ent i z (k + 1) = t.entry i z :: t.ent i (z + 1) k := by
  unfold RR.ent
  rw [List.range_succ_eq_map, List.map_cons, List.map_map]
  congr 1
  refine List.map_congr_left fun j _ => ?_
  show t.entry i (z + (j + 1)) = t.entry i (z + 1 + j)
  congr 1; omega
theorem RR.ent_mem {i z k : Nat} {e : Int × Int} : e ∈ t.ent i z k ↔ ∃ y, z ≤ y ∧ y < z + k ∧ e = t.entry i y := by
  unfold RR.ent
  rw [List.mem_map]
  constructor
  · rintro ⟨j, hj, rfl⟩; have := List.mem_range.mp hj; exact ⟨z + j, by omega, by omega, rfl⟩
  · rintro ⟨y, h1, h2, rfl⟩; exact ⟨y - z, List.mem_range.mpr (by omega), by congr 1; omega⟩
theorem place_end {α : Type} {lt : α → Bool} : ∀ {l : List α}, (∀ x ∈ l, lt x = false) → place lt l = l.length
  | [], _ => rfl
  | x :: r, h => by
    unfold place
    rw [place_end fun y hy => h y (.tail _ hy), h x (.head _)]
    cases r with
    | nil => simp
    | cons y r => simp
theorem put_end {α : Type} {x : α} {l : List α} : put l.length x l = l ++ [x] := by unfold put; simp
theorem RR.ins_end {i y Y : Nat} (hi : i ≤ t.m) (hN : 0 < (t.ch i).length) (k : Nat) (h1 : Y < y + (t.ch i).length) (h2 : y + k ≤ Y) : ins (t.entry i Y) (t.ent i y k) = t.ent i y k ++ [t.entry i Y] := by
  unfold ins
  rw [place_end, put_end]
  intro e he
  obtain ⟨u, u1, u2, rfl⟩ := RR.ent_mem.mp he
  unfold klt RR.entry
  rw [decide_eq_false_iff_not]
  have hdm := Nat.div_add_mod u (t.ch i).length
  have hdm2 := Nat.div_add_mod Y (t.ch i).length
  have hle : u / (t.ch i).length ≤ Y / (t.ch i).length := Nat.div_le_div_right (by omega)
  rintro (h | ⟨h, h'⟩)
  · simp only at h
    rcases Nat.lt_or_ge (u / (t.ch i).length) (Y / (t.ch i).length) with q | q
    · have := Lv_mono (t.wlo i) (t.whi i) q; omega
    · have e : u / (t.ch i).length = Y / (t.ch i).length := by omega
      rw [e] at h; omega
  · simp only at h h'
    have e : u / (t.ch i).length = Y / (t.ch i).length := by
      rcases Nat.lt_or_ge (u / (t.ch i).length) (Y / (t.ch i).length) with q | q
      · have := Lv_mono (t.wlo i) (t.whi i) q; omega
      · omega
    rw [e] at hdm
    have := t.srt i hi _ _ _ _ (show u % (t.ch i).length < Y % (t.ch i).length by omega) (RR.at_get hN) (RR.at_get hN)
    omega
end
end Mine
end
section
set_option linter.unusedVariables false
set_option Elab.async false
namespace Mine
section
variable {t : RR}
noncomputable def RR.Nds (t : RR) (M : Mo) (x : Nat → Nat) : Prop := ∀ j, j ≤ t.m → ∃ d, M (t.nm j) = some d ∧ d.act = t.act j ∧ (1 ≤ j → d.wt = t.W (t.pr j) ∧ d.df = t.DF x j)
noncomputable def RR.Qu (t : RR) (k : Nat) (M : Mo) (x : Nat → Nat) : Prop := ∀ j d, k ≤ j → j ≤ t.m → M (t.nm j) = some d → d.q = t.ent j (x j) (t.ch j).length
noncomputable def setN (x : Nat → Nat) (i v : Nat) : Nat → Nat := fun k => if k = i then v else x k
theorem setN_self {x : Nat → Nat} {i v : Nat} : setN x i v i = v := if_pos rfl
theorem setN_ne {x : Nat → Nat} {i v k : Nat} (h : k ≠ i) : setN x i v k = x k := if_neg h
theorem RR.at_mem {i y : Nat} (hi : i ≤ t.m) (hN : 0 < (t.ch i).length) : t.pr (t.at i y) = i ∧ t.pos (t.at i y) = y % (t.ch i).length ∧ i < t.at i y ∧ t.at i y ≤ t.m := t.chp i hi _ _ (RR.at_get hN)
theorem RR.nm_ne {i j : Nat} (hi : i ≤ t.m) (hj : j ≤ t.m) (h : i ≠ j) : t.nm i ≠ t.nm j := fun z => h (t.inj i j hi hj z)
theorem RR.Nds.congr {M : Mo} {x x' : Nat → Nat} (h : t.Nds M x) (e : ∀ k, x' k = x k) : t.Nds M x' := by
  have : x' = x := funext e
  rw [this]; exact h
theorem RR.fin_ok {i : Nat} (hi : i ≤ t.m) {z j : Nat} (hj : j ≤ (t.ch i).length) : ∀ (k a : Nat) {M : Mo} {x : Nat → Nat} {d : Nd}, a + k = j → x i = z + a → t.Nds M x → t.Qu (i + 1) M x → M (t.nm i) = some d → d.q = t.ent i (z + j) ((t.ch i).length - j + a) →
    ∃ M', fin (t.nm i) (t.ent i (z + a) k) M = M' ∧ t.Nds M' (setN x i (z + j)) ∧ t.Qu (i + 1) M' x ∧ (∃ d', M' (t.nm i) = some d' ∧ d'.q = t.ent i (z + j) (t.ch i).length) ∧ ∀ j', j' < i → M' (t.nm j') = M (t.nm j')
  | 0, a, M, x, d, ha, hx, hn, hq, hd, hdq => by
    refine ⟨M, rfl, hn.congr fun k => ?_, hq, ⟨d, hd, ?_⟩, fun _ _ => rfl⟩
    · by_cases q : k = i
      · subst q; rw [setN_self, hx]; congr 1; omega
      · exact setN_ne q
    · rw [hdq]; congr 1; omega
  | k + 1, a, M, x, d, ha, hx, hn, hq, hd, hdq => by
    have hN : 0 < (t.ch i).length := by omega
    obtain ⟨c1, c2, c3, c4⟩ := RR.at_mem (t := t) (y := z + a) hi hN
    obtain ⟨n, hnc, nact, nw⟩ := hn _ c4
    obtain ⟨nw, nd⟩ := nw (by omega)
    rw [c1] at nw
    have ndf : n.df = Df (t.W i) ((z + a) / (t.ch i).length) := by
      rw [nd]; unfold RR.DF; rw [c1, c2, hx, cnt_at hN]
    have hne : t.nm (t.at i (z + a)) ≠ t.nm i := RR.nm_ne c4 hi (by omega)
    have hdiv : (z + a + (t.ch i).length) / (t.ch i).length = (z + a) / (t.ch i).length + 1 := by rw [Nat.add_div_right _ hN]
    have hat : t.at i (z + a + (t.ch i).length) = t.at i (z + a) := by unfold RR.at; rw [Nat.add_mod_right]
    have hent : ((t.entry i (z + a)).1 + (256 + n.df) / n.wt, (t.entry i (z + a)).2) = t.entry i (z + a + (t.ch i).length) := by
      unfold RR.entry
      rw [hdiv, hat, ndf, nw]; rfl
    rw [RR.ent_cons]
    show ∃ M', fin (t.nm i) _ (fstep (t.nm i) M (t.entry i (z + a))) = M' ∧ _
    rw [fstep_eq (e := t.entry i (z + a)) hd hnc, hent, hdq, RR.ins_end hi hN _ (by omega) (by omega)]
    have e1 : z + j + ((t.ch i).length - j + a) = z + a + (t.ch i).length := by omega
    have e2 : t.ent i (z + j) ((t.ch i).length - j + a) ++ [t.entry i (z + a + (t.ch i).length)] = t.ent i (z + j) ((t.ch i).length - j + (a + 1)) := by
      rw [← e1, ← RR.ent_succ]; rfl
    rw [e2]
    obtain ⟨M1, hM1⟩ : ∃ M1, M1 = (M.put (t.entry i (z + a)).2 { n with df := (256 + n.df) % n.wt }).put (t.nm i) { d with lw := (t.entry i (z + a)).1, q := t.ent i (z + j) ((t.ch i).length - j + (a + 1)) } := ⟨_, rfl⟩
    rw [← hM1]
    have m1 : M1 (t.nm i) = some { d with lw := (t.entry i (z + a)).1, q := t.ent i (z + j) ((t.ch i).length - j + (a + 1)) } := by rw [hM1]; exact Mo.put_self ..
    have m2 : M1 (t.nm (t.at i (z + a))) = some { n with df := (256 + n.df) % n.wt } := by rw [hM1, Mo.put_ne hne]; exact Mo.put_self ..
    have m3 : ∀ j', j' ≤ t.m → j' ≠ i → j' ≠ t.at i (z + a) → M1 (t.nm j') = M (t.nm j') := fun j' h1 h2 h3 => by
      rw [hM1, Mo.put_ne (RR.nm_ne h1 hi h2)]; exact Mo.put_ne (RR.nm_ne h1 c4 h3)
    have hn1 : t.Nds M1 (setN x i (z + (a + 1))) := by
      intro j' hj'
      have dfo : ∀ j', 1 ≤ j' → j' ≤ t.m → j' ≠ t.at i (z + a) → t.DF (setN x i (z + (a + 1))) j' = t.DF x j' := fun j' g1 g2 g3 => by
        unfold RR.DF
        by_cases q : t.pr j' = i
        · have hp := (t.prl j' g1 g2).2
          rw [q] at hp ⊢
          rw [setN_self, hx]
          congr 1
          refine cnt_same (List.getElem?_eq_some_iff.mp hp).1 fun z' => g3 ?_
          have := RR.at_get (t := t) (i := i) (y := z + a) hN
          have z2 : t.pos j' = (z + a) % (t.ch i).length := z'
          rw [← z2, hp] at this
          exact Option.some.inj this
        · rw [setN_ne q]
      by_cases q1 : j' = i
      · subst q1
        obtain ⟨d0, hd0, a0, w0⟩ := hn j' hj'
        rw [hd] at hd0; cases hd0
        refine ⟨_, m1, a0, fun g => ⟨(w0 g).1, ?_⟩⟩
        rw [dfo j' g hj' (by omega)]
        exact (w0 g).2
      · by_cases q2 : j' = t.at i (z + a)
        · subst q2
          refine ⟨_, m2, nact, fun _ => ⟨by rw [c1]; exact nw, ?_⟩⟩
          show (256 + n.df) % n.wt = _
          unfold RR.DF
          rw [c1, c2, setN_self, ndf, nw, show z + (a + 1) = z + a + 1 by omega, cnt_next hN]; rfl
        · obtain ⟨d0, hd0, a0, w0⟩ := hn j' hj'
          refine ⟨d0, by rw [m3 j' hj' q1 q2]; exact hd0, a0, fun g => ⟨(w0 g).1, ?_⟩⟩
          rw [dfo j' g hj' q2]
          exact (w0 g).2
    have hq1 : t.Qu (i + 1) M1 (setN x i (z + (a + 1))) := by
      intro j' d0 g1 g2 hd0
      rw [setN_ne (by omega)]
      by_cases q2 : j' = t.at i (z + a)
      · subst q2
        rw [m2] at hd0; cases hd0
        exact hq _ n g1 g2 hnc
      · rw [m3 j' g2 (by omega) q2] at hd0
        exact hq j' d0 g1 g2 hd0
    obtain ⟨M', f1, f2, f3, f4, f5⟩ := RR.fin_ok hi hj k (a + 1) (by omega) setN_self hn1 hq1 m1 rfl
    refine ⟨M', f1, f2.congr fun kk => ?_, fun j' d0 g1 g2 hd0 => ?_, f4, fun j' hj' => ?_⟩
    · unfold setN; by_cases q : kk = i
      · rw [if_pos q, if_pos q]
      · rw [if_neg q, if_neg q, if_neg q]
    · have := f3 j' d0 g1 g2 hd0
      rwa [setN_ne (by omega)] at this
    · rw [f5 j' hj', m3 j' (by omega) (by omega) (by omega)]
end
end Mine
end
section
set_option linter.unusedVariables false
set_option Elab.async false
namespace Mine
noncomputable def RR.First (t : RR) (i z a : Nat) : Prop := a < (t.ch i).length ∧ t.liv (t.at i (z + a)) = true ∧ ∀ b, b < a → t.liv (t.at i (z + b)) = false
inductive RR.Path (t : RR) (x : Nat → Nat) : Nat → List Nat → Nat → Prop
  | hit {i a : Nat} : t.First i (x i) a → t.act (t.at i (x i + a)) = true → RR.Path t x i [i] (t.at i (x i + a))
  | go {i a : Nat} {p : List Nat} {y : Nat} : t.First i (x i) a → t.act (t.at i (x i + a)) = false → RR.Path t x (t.at i (x i + a)) p y → RR.Path t x i (i :: p) y
section
variable {t : RR}
theorem RR.First.at_le {i z a : Nat} (hi : i ≤ t.m) (h : t.First i z a) : i < t.at i (z + a) ∧ t.at i (z + a) ≤ t.m := by
  obtain ⟨_, _, c3, c4⟩ := RR.at_mem (t := t) (y := z + a) hi (Nat.lt_of_le_of_lt (Nat.zero_le _) h.1)
  exact ⟨c3, c4⟩
theorem RR.Path.congr {x x' : Nat → Nat} (e : ∀ k, k ≤ t.m → t.liv k = true → x' k = x k) {i : Nat} {p : List Nat} {y : Nat} (h : RR.Path t x i p y) : i ≤ t.m → t.liv i = true → RR.Path t x' i p y := by
  induction h with
  | @hit i a f ha =>
    intro hi hl
    have := e i hi hl
    have := RR.Path.hit (t := t) (x := x') (i := i) (a := a) (by rw [this]; exact f) (by rw [this]; exact ha)
    rwa [e i hi hl] at this
  | @go i a p y f ha _ ih =>
    intro hi hl
    have e0 := e i hi hl
    have h1 := ih (f.at_le hi).2 f.2.1
    refine RR.Path.go (a := a) (by rw [e0]; exact f) (by rw [e0]; exact ha) (by rw [e0]; exact h1)
theorem RR.Path.first {x : Nat → Nat} {i : Nat} {p : List Nat} {y : Nat} (h : RR.Path t x i p y) : i ∈ p := by
  cases h <;> exact .head _
noncomputable def RR.LivEq (t : RR) (x x2 : Nat → Nat) : Prop := ∀ k, k ≤ t.m → t.liv k = true → x2 k = x k
noncomputable def RR.Mult (t : RR) (x x2 : Nat → Nat) : Prop := ∀ k, ∃ s, x2 k = x k + s * (t.ch k).length
noncomputable def RR.OnPath (t : RR) (x : Nat → Nat) (p : List Nat) (x2 : Nat → Nat) : Prop := ∀ k, k ≤ t.m → t.liv k = true → (k ∈ p → ∃ a, t.First k (x k) a ∧ x2 k = x k + a + 1) ∧ (k ∉ p → x2 k = x k)
noncomputable def RR.Out (t : RR) (x : Nat → Nat) (i : Nat) (r : Option Int) (x2 : Nat → Nat) : Prop :=
  (t.liv i = true ∧ ∃ p y, RR.Path t x i p y ∧ r = some (t.nm y) ∧ t.OnPath x p x2) ∨ (t.liv i = false ∧ r = none ∧ t.LivEq x x2 ∧ t.Mult x x2)
theorem RR.Nds.putq {M : Mo} {x : Nat → Nat} (h : t.Nds M x) {i : Nat} (hi : i ≤ t.m) {d d' : Nd} (hd : M (t.nm i) = some d) (a : d'.act = d.act) (w : d'.wt = d.wt) (f : d'.df = d.df) : t.Nds (M.put (t.nm i) d') x := by
  intro j hj
  by_cases q : j = i
  · subst q
    obtain ⟨d0, h0, a0, w0⟩ := h j hj
    rw [hd] at h0; cases h0
    exact ⟨d', Mo.put_self .., a.trans a0, fun g => ⟨w.trans (w0 g).1, f.trans (w0 g).2⟩⟩
  · obtain ⟨d0, h0, r⟩ := h j hj
    exact ⟨d0, by rw [Mo.put_ne (RR.nm_ne hj hi q)]; exact h0, r⟩
theorem RR.goL_ok {n i z : Nat} (hi : i ≤ t.m) {x : Nat → Nat} {M0 : Mo}
    (IH : ∀ c M xa, i < c → c ≤ t.m → t.act c = false → t.Nds M xa → t.Qu c M xa → ∃ x2, t.Nds (sched n M (t.nm c)).2 x2 ∧ t.Qu c (sched n M (t.nm c)).2 x2 ∧ (∀ j, j < c → x2 j = xa j ∧ (sched n M (t.nm c)).2 (t.nm j) = M (t.nm j)) ∧ t.Out xa c (sched n M (t.nm c)).1 x2) :
    ∀ (k a : Nat) {M : Mo} {xa : Nat → Nat} {d : Nd}, a + k = (t.ch i).length → xa i = z → t.Nds M xa → t.Qu (i + 1) M xa → M (t.nm i) = some d → d.q = t.ent i (z + a) k → (∀ b, b < a → t.liv (t.at i (z + b)) = false) → t.LivEq x xa → t.Mult x xa → (∀ j, j < i → xa j = x j ∧ M (t.nm j) = M0 (t.nm j)) →
    ∃ r M' a' xb, goL (sched n) (t.nm i) (t.ent i (z + a) k) M (t.ent i z a) = (r, M', t.ent i z a') ∧ a' ≤ (t.ch i).length ∧ xb i = z ∧ t.Nds M' xb ∧ t.Qu (i + 1) M' xb ∧ (∃ d', M' (t.nm i) = some d' ∧ d'.q = t.ent i (z + a') ((t.ch i).length - a')) ∧ (∀ j, j < i → xb j = x j ∧ M' (t.nm j) = M0 (t.nm j)) ∧
      ((r = none ∧ a' = (t.ch i).length ∧ (∀ b, b < (t.ch i).length → t.liv (t.at i (z + b)) = false) ∧ t.LivEq x xb ∧ t.Mult x xb) ∨
       (∃ a, a' = a + 1 ∧ t.First i z a ∧ ((t.act (t.at i (z + a)) = true ∧ r = some (t.nm (t.at i (z + a))) ∧ t.LivEq x xb) ∨ (t.act (t.at i (z + a)) = false ∧ ∃ p y, RR.Path t x (t.at i (z + a)) p y ∧ r = some (t.nm y) ∧ t.OnPath x p xb))))
  | 0, a, M, xa, d, ha, hz, hn, hq, hd, hdq, hl, le, mu, far => by
    refine ⟨none, M, a, xa, rfl, by omega, hz, hn, hq, ⟨d, hd, ?_⟩, far, .inl ⟨rfl, by omega, fun b hb => hl b (by omega), le, mu⟩⟩
    rw [hdq]; congr 1; omega
  | k + 1, a, M, xa, d, ha, hz, hn, hq, hd, hdq, hl, le, mu, far => by
    have hN : 0 < (t.ch i).length := by omega
    obtain ⟨c1, c2, c3, c4⟩ := RR.at_mem (t := t) (y := z + a) hi hN
    obtain ⟨nn, hnc, nact, nw⟩ := hn _ c4
    have hd1 : M.put (t.nm i) { d with q := t.ent i (z + (a + 1)) k } (t.nm i) = some { d with q := t.ent i (z + (a + 1)) k } := Mo.put_self ..
    have hn1 : t.Nds (M.put (t.nm i) { d with q := t.ent i (z + (a + 1)) k }) xa := hn.putq hi hd rfl rfl rfl
    have hq1 : t.Qu (i + 1) (M.put (t.nm i) { d with q := t.ent i (z + (a + 1)) k }) xa := fun j d0 g1 g2 h0 => by
      rw [Mo.put_ne (RR.nm_ne g2 hi (by omega))] at h0
      exact hq j d0 g1 g2 h0
    have far1 : ∀ j, j < i → xa j = x j ∧ (M.put (t.nm i) { d with q := t.ent i (z + (a + 1)) k }) (t.nm j) = M0 (t.nm j) := fun j hj => by
      rw [Mo.put_ne (RR.nm_ne (by omega) hi (by omega))]; exact far j hj
    have hent : t.ent i (z + a) (k + 1) = t.entry i (z + a) :: t.ent i (z + (a + 1)) k := by rw [RR.ent_cons]; rfl
    have hpp : t.ent i z a ++ [t.entry i (z + a)] = t.ent i z (a + 1) := RR.ent_succ.symm
    have hkN : k = (t.ch i).length - (a + 1) := by omega
    rw [hent]
    cases hact : t.act (t.at i (z + a)) with
    | true =>
      rw [goL_act (e := t.entry i (z + a)) hd hnc (nact.trans hact), hpp]
      refine ⟨_, _, a + 1, xa, rfl, by omega, hz, hn1, hq1, ⟨_, hd1, by rw [← hkN]⟩, far1, .inr ⟨a, rfl, ⟨by omega, t.la _ c4 hact, hl⟩, .inl ⟨hact, rfl, le⟩⟩⟩
    | false =>
      obtain ⟨x2, s1, s2, s3, s4⟩ := IH _ (M.put (t.nm i) { d with q := t.ent i (z + (a + 1)) k }) xa c3 c4 hact hn1 (fun j d0 g1 g2 h0 => hq1 j d0 (by omega) g2 h0)
      cases hs : sched n (M.put (t.nm i) { d with q := t.ent i (z + (a + 1)) k }) (t.nm (t.at i (z + a))) with
      | mk r M2 =>
        rw [hs] at s1 s2 s3 s4
        dsimp only at s1 s2 s3 s4
        have q2 : t.Qu (i + 1) M2 x2 := fun j d0 g1 g2 h0 => by
          by_cases q : t.at i (z + a) ≤ j
          · exact s2 j d0 q g2 h0
          · obtain ⟨u1, u2⟩ := s3 j (by omega)
            rw [u1]
            rw [u2] at h0
            exact hq1 j d0 g1 g2 h0
        have far2 : ∀ j, j < i → x2 j = x j ∧ M2 (t.nm j) = M0 (t.nm j) := fun j hj => by
          obtain ⟨u1, u2⟩ := s3 j (by omega)
          obtain ⟨v1, v2⟩ := far1 j hj
          exact ⟨u1.trans v1, u2.trans v2⟩
        obtain ⟨u1, u2⟩ := s3 i c3
        rcases s4 with ⟨l1, p, y, hp, hr, on⟩ | ⟨l1, hr, le2, mu2⟩
        · subst hr
          rw [goL_some (e := t.entry i (z + a)) hd hnc (nact.trans hact) hs, hpp]
          refine ⟨_, _, a + 1, x2, rfl, by omega, u1.trans hz, s1, q2, ⟨_, u2.trans hd1, by rw [← hkN]⟩, far2, .inr ⟨a, rfl, ⟨by omega, l1, hl⟩, .inr ⟨hact, p, y, ?_, rfl, ?_⟩⟩⟩
          · exact hp.congr (fun k hk hk2 => (le k hk hk2).symm) c4 l1
          · intro k hk hk2
            have := on k hk hk2
            rw [le k hk hk2] at this
            exact this
        · subst hr
          rw [goL_none (e := t.entry i (z + a)) hd hnc (nact.trans hact) hs, hpp]
          refine RR.goL_ok hi IH k (a + 1) (by omega) (u1.trans hz) s1 q2 (u2.trans hd1) rfl (fun b hb => ?_) (fun k hk hk2 => (le2 k hk hk2).trans (le k hk hk2)) (fun k => ?_) far2
          · by_cases q : b = a
            · subst q; exact l1
            · exact hl b (by omega)
          · obtain ⟨s, e1⟩ := mu k
            obtain ⟨s', e2⟩ := mu2 k
            exact ⟨s + s', by rw [e2, e1, Nat.add_mul]; omega⟩
theorem RR.at_all {i z : Nat} (hN : 0 < (t.ch i).length) {c : Nat} (hc : c ∈ t.ch i) : ∃ b, b < (t.ch i).length ∧ t.at i (z + b) = c := by
  obtain ⟨p, hp, he⟩ := List.mem_iff_getElem.mp hc
  refine ⟨(p + (t.ch i).length - z % (t.ch i).length) % (t.ch i).length, Nat.mod_lt _ hN, ?_⟩
  have hz := Nat.mod_lt z hN
  have e : (z + (p + (t.ch i).length - z % (t.ch i).length) % (t.ch i).length) % (t.ch i).length = p := by
    rw [Nat.add_mod, Nat.mod_mod, ← Nat.add_mod]
    have h1 := Nat.div_add_mod z (t.ch i).length
    have e2 : z + (p + (t.ch i).length - z % (t.ch i).length) = p + (t.ch i).length * (z / (t.ch i).length + 1) := by rw [Nat.mul_add]; omega
    rw [e2, Nat.add_mul_mod_self_left, Nat.mod_eq_of_lt hp]
  unfold RR.at
  rw [e, List.getD_eq_getElem?_getD, List.getElem?_eq_getElem hp, he]; rfl
theorem RR.sched_ok : ∀ (n i : Nat) (M : Mo) (x : Nat → Nat), i ≤ t.m → t.m - i < n → t.act i = false → t.Nds M x → t.Qu i M x →
    ∃ x2, t.Nds (sched n M (t.nm i)).2 x2 ∧ t.Qu i (sched n M (t.nm i)).2 x2 ∧ (∀ j, j < i → x2 j = x j ∧ (sched n M (t.nm i)).2 (t.nm j) = M (t.nm j)) ∧ t.Out x i (sched n M (t.nm i)).1 x2
  | 0, i, M, x, hi, hr, _, _, _ => by omega
  | n + 1, i, M, x, hi, hr, ha, hn, hq => by
    obtain ⟨d, hd, da, dw⟩ := hn i hi
    have hdq := hq i d (Nat.le_refl _) hi hd
    obtain ⟨r, M1, a', xb, g1, g2, g3, g4, g5, ⟨d1, g6, g7⟩, g8, g9⟩ := RR.goL_ok (n := n) (z := x i) (M0 := M) hi (fun c M xa h1 h2 h3 h4 h5 => RR.sched_ok n c M xa h2 (by omega) h3 h4 h5) (t.ch i).length 0 (by omega) rfl hn (fun j d0 q1 q2 h0 => hq j d0 (by omega) q2 h0) hd hdq (fun b hb => by omega) (fun _ _ _ => rfl) (fun k => ⟨0, by omega⟩) (fun j hj => ⟨rfl, rfl⟩)
    have g0 : t.ent i (x i) 0 = [] := rfl
    rw [g0, Nat.add_zero, ← hdq] at g1
    rw [sched_eq n hd g1]
    obtain ⟨M', f1, f2, f3, ⟨d2, f4, f5⟩, f6⟩ := RR.fin_ok (z := x i) hi g2 a' 0 (M := M1) (x := xb) (by omega) (by rw [g3]; rfl) g4 g5 g6 g7
    rw [Nat.add_zero] at f1
    dsimp only
    rw [f1]
    refine ⟨setN xb i (x i + a'), f2, fun j d0 q1 q2 h0 => ?_, fun j hj => ?_, ?_⟩
    · by_cases q : j = i
      · subst q; rw [f4] at h0; cases h0; rw [setN_self]; exact f5
      · rw [setN_ne q]; exact f3 j d0 (by omega) q2 h0
    · rw [setN_ne (by omega), f6 j hj]; exact g8 j hj
    · rcases g9 with ⟨e1, e2, e3, e4, e5⟩ | ⟨a, e1, e2, e3⟩
      · have hli : t.liv i = false := by
          cases q : t.liv i with
          | false => rfl
          | true =>
            obtain ⟨c, hc, hl⟩ := (t.ln i hi ha).mp q
            have hN : 0 < (t.ch i).length := List.length_pos_of_mem hc
            obtain ⟨b, hb, hbc⟩ := RR.at_all (z := x i) hN hc
            have := e3 b hb
            rw [hbc, hl] at this; cases this
        refine .inr ⟨hli, e1, fun k hk hl => ?_, fun k => ?_⟩
        · by_cases q : k = i
          · subst q; rw [hli] at hl; cases hl
          · rw [setN_ne q]; exact e4 k hk hl
        · by_cases q : k = i
          · subst q; rw [setN_self, e2]; exact ⟨1, by omega⟩
          · rw [setN_ne q]; exact e5 k
      · have hli : t.liv i = true := (t.ln i hi ha).mpr ⟨_, List.mem_of_getElem? (RR.at_get (by omega : 0 < (t.ch i).length)), e2.2.1⟩
        rcases e3 with ⟨k1, k2, k3⟩ | ⟨k1, p, y, k2, k3, k4⟩
        · refine .inl ⟨hli, [i], _, .hit e2 k1, k2, fun k hk hl => ⟨fun m => ?_, fun m => ?_⟩⟩
          · rw [List.mem_singleton.mp m, setN_self]; exact ⟨a, e2, by omega⟩
          · have q : k ≠ i := fun z => m (z ▸ List.mem_singleton.mpr rfl)
            rw [setN_ne q]; exact k3 k hk hl
        · refine .inl ⟨hli, i :: p, y, .go e2 k1 k2, k3, fun k hk hl => ⟨fun m => ?_, fun m => ?_⟩⟩
          · by_cases q : k = i
            · subst q; rw [setN_self]; exact ⟨a, e2, by omega⟩
            · rw [setN_ne q]; exact (k4 k hk hl).1 ((List.mem_cons.mp m).resolve_left q)
          · have q : k ≠ i := fun z => m (z ▸ List.mem_cons_self ..)
            rw [setN_ne q]; exact (k4 k hk hl).2 fun z => m (List.mem_cons_of_mem _ z)
end
end Mine
end
section
set_option linter.unusedVariables false
set_option Elab.async false
namespace Mine
section
variable {t : RR}
noncomputable def RR.able (t : RR) (i : Nat) : List Nat := (t.ch i).filter t.liv
noncomputable def RR.lcf (t : RR) (i z : Nat) : Nat := (z / (t.ch i).length) * (t.able i).length + (((t.ch i).take (z % (t.ch i).length)).filter t.liv).length
noncomputable def RR.rank (t : RR) (v : Nat) : Nat := (((t.ch (t.pr v)).take (t.pos v)).filter t.liv).length
inductive RR.Srv (t : RR) : Nat → Nat → Nat → Prop
  | hit {i q c : Nat} : (t.able i)[q % (t.able i).length]? = some c → t.act c = true → RR.Srv t i q c
  | go {i q c y : Nat} : (t.able i)[q % (t.able i).length]? = some c → t.act c = false → RR.Srv t c (q / (t.able i).length) y → RR.Srv t i q y
theorem filter_take_get {α : Type} {p : α → Bool} : ∀ {l : List α} {b : Nat} {c : α}, l[b]? = some c → p c = true → (l.filter p)[((l.take b).filter p).length]? = some c
  | [], b, c, h, _ => by simp at h
  | x :: r, 0, c, h, hc => by
    cases h
    simp [hc]
  | x :: r, b + 1, c, h, hc => by
    rw [List.getElem?_cons_succ] at h
    have ih := filter_take_get h hc
    rw [List.take_succ_cons, List.filter_cons, List.filter_cons]
    cases q : p x with
    | true => simp only [if_true, List.length_cons, List.getElem?_cons_succ]; exact ih
    | false => simp only [Bool.false_eq_true, if_false]; exact ih
theorem filter_take_lt {α : Type} {p : α → Bool} {l : List α} {b : Nat} {c : α} (h : l[b]? = some c) (hc : p c = true) : ((l.take b).filter p).length < (l.filter p).length :=
  (List.getElem?_eq_some_iff.mp (filter_take_get h hc)).1
theorem take_filter_len {α : Type} {p : α → Bool} {l : List α} {b : Nat} {c : α} (h : l[b]? = some c) : ((l.take (b + 1)).filter p).length = ((l.take b).filter p).length + (if p c then 1 else 0) := by
  have hi := (List.getElem?_eq_some_iff.mp h).1
  have he := (List.getElem?_eq_some_iff.mp h).2
  rw [List.take_succ_eq_append_getElem hi, List.filter_append, List.length_append, he]
  congr 1
  cases q : p c <;> simp [q]
theorem RR.lcf_mult {i : Nat} (hN : 0 < (t.ch i).length) (K : Nat) : t.lcf i (K * (t.ch i).length) = K * (t.able i).length := by
  unfold RR.lcf
  rw [Nat.mul_div_cancel _ hN, Nat.mul_mod_left]; simp
theorem RR.lcf_succ {i z : Nat} (hN : 0 < (t.ch i).length) : t.lcf i (z + 1) = t.lcf i z + (if t.liv (t.at i z) then 1 else 0) := by
  have hg := RR.at_get (t := t) (i := i) (y := z) hN
  have hz := Nat.mod_lt z hN
  have hdm := Nat.div_add_mod z (t.ch i).length
  have hl := take_filter_len (p := t.liv) hg
  unfold RR.lcf
  by_cases q : z % (t.ch i).length + 1 = (t.ch i).length
  · have e : z + 1 = (z / (t.ch i).length + 1) * (t.ch i).length := by rw [Nat.add_mul, Nat.mul_comm]; omega
    rw [q, List.take_length] at hl
    rw [e, Nat.mul_div_cancel _ hN, Nat.mul_mod_left]
    simp only [List.take_zero, List.filter_nil, List.length_nil]
    have hab : (t.able i).length = (List.filter t.liv (t.ch i)).length := rfl
    rw [Nat.add_mul, hab, hl]; omega
  · have e1 : (z + 1) / (t.ch i).length = z / (t.ch i).length := by
      have e : z + 1 = (t.ch i).length * (z / (t.ch i).length) + (z % (t.ch i).length + 1) := by omega
      rw [e, Nat.mul_add_div hN, Nat.div_eq_of_lt (show z % (t.ch i).length + 1 < (t.ch i).length by omega)]; omega
    have e2 : (z + 1) % (t.ch i).length = z % (t.ch i).length + 1 := by
      have e : z + 1 = (z % (t.ch i).length + 1) + (t.ch i).length * (z / (t.ch i).length) := by omega
      rw [e, Nat.add_mul_mod_self_left]
      exact Nat.mod_eq_of_lt (by omega)
    rw [e1, e2, hl]; omega
theorem RR.able_at {i z : Nat} (hN : 0 < (t.ch i).length) (hl : t.liv (t.at i z) = true) : (t.able i)[t.lcf i z % (t.able i).length]? = some (t.at i z) := by
  have hg := RR.at_get (t := t) (i := i) (y := z) hN
  have h1 := filter_take_get (p := t.liv) hg hl
  have h2 : ((List.take (z % (t.ch i).length) (t.ch i)).filter t.liv).length < (t.able i).length := filter_take_lt hg hl
  unfold RR.lcf
  rw [Nat.add_comm, Nat.add_mul_mod_self_right, Nat.mod_eq_of_lt h2]
  exact h1
theorem RR.First.lcf {i z : Nat} : ∀ {a : Nat}, t.First i z a → t.lcf i (z + a) = t.lcf i z := by
  intro a h
  have hN : 0 < (t.ch i).length := Nat.lt_of_le_of_lt (Nat.zero_le _) h.1
  have go : ∀ b, b ≤ a → t.lcf i (z + b) = t.lcf i z := by
    intro b
    induction b with
    | zero => intro _; rfl
    | succ b ih =>
      intro hb
      have := RR.lcf_succ (t := t) (i := i) (z := z + b) hN
      rw [h.2.2 b (by omega)] at this
      rw [show z + (b + 1) = z + b + 1 by omega, this, ih (by omega)]; simp
  exact go a (Nat.le_refl _)
theorem RR.First.next {i z a : Nat} (h : t.First i z a) : t.lcf i (z + a + 1) = t.lcf i z + 1 := by
  have hN : 0 < (t.ch i).length := Nat.lt_of_le_of_lt (Nat.zero_le _) h.1
  rw [RR.lcf_succ hN, h.2.1, h.lcf]; simp
theorem RR.First.able {i z a : Nat} (h : t.First i z a) : (t.able i)[t.lcf i z % (t.able i).length]? = some (t.at i (z + a)) := by
  have hN : 0 < (t.ch i).length := Nat.lt_of_le_of_lt (Nat.zero_le _) h.1
  have := RR.able_at hN h.2.1
  rwa [h.lcf] at this
theorem RR.able_pw {i : Nat} (hi : i ≤ t.m) : (t.able i).Pairwise (fun a b => t.nm a < t.nm b) := by
  refine List.Pairwise.filter _ (List.pairwise_iff_getElem.mpr fun a b ha hb hab => ?_)
  exact t.srt i hi a b _ _ hab (List.getElem?_eq_getElem ha) (List.getElem?_eq_getElem hb)
theorem RR.able_inj {i a b c : Nat} (hi : i ≤ t.m) (h : (t.able i)[a]? = some c) (h' : (t.able i)[b]? = some c) : a = b := by
  have pw := List.pairwise_iff_getElem.mp (RR.able_pw hi)
  obtain ⟨l1, e1⟩ := List.getElem?_eq_some_iff.mp h
  obtain ⟨l2, e2⟩ := List.getElem?_eq_some_iff.mp h'
  rcases Nat.lt_trichotomy a b with q | q | q
  · have := pw a b l1 l2 q; rw [e1, e2] at this; omega
  · exact q
  · have := pw b a l2 l1 q; rw [e1, e2] at this; omega
theorem RR.rank_get {v : Nat} (h1 : 1 ≤ v) (h2 : v ≤ t.m) (hl : t.liv v = true) : (t.able (t.pr v))[t.rank v]? = some v := filter_take_get (t.prl v h1 h2).2 hl
theorem RR.able_mem {i c a : Nat} (hi : i ≤ t.m) (h : (t.able i)[a]? = some c) : t.pr c = i ∧ i < c ∧ c ≤ t.m ∧ t.liv c = true := by
  have hm := List.mem_of_getElem? h
  obtain ⟨h1, h2⟩ := List.mem_filter.mp hm
  obtain ⟨p, hp, he⟩ := List.mem_iff_getElem.mp h1
  obtain ⟨c1, c2, c3, c4⟩ := t.chp i hi p c (by rw [List.getElem?_eq_getElem hp, he])
  exact ⟨c1, c3, c4, h2⟩
structure RR.Cn (t : RR) (T : Nat) (x q : Nat → Nat) : Prop where
  root : q 0 = T
  down : ∀ v, 1 ≤ v → v ≤ t.m → t.liv v = true → t.act v = false → q v = cnt (t.able (t.pr v)).length (q (t.pr v)) (t.rank v)
  lc : ∀ v, v ≤ t.m → t.liv v = true → t.act v = false → ∃ K, t.lcf v (x v) = K * (t.able v).length + q v
theorem RR.Cn.asked {T a i : Nat} {x q : Nat → Nat} (C : t.Cn T x q) (hi : i ≤ t.m) (hl : t.liv i = true) (ha : t.act i = false) (f : t.First i (x i) a) : (t.able i)[q i % (t.able i).length]? = some (t.at i (x i + a)) := by
  obtain ⟨K, hK⟩ := C.lc i hi hl ha
  have := f.able
  rwa [hK, Nat.add_comm, Nat.add_mul_mod_self_right] at this
theorem RR.Cn.below {T i c : Nat} {x q : Nat → Nat} (C : t.Cn T x q) (hi : i ≤ t.m) (h : (t.able i)[q i % (t.able i).length]? = some c) (hac : t.act c = false) : t.rank c = q i % (t.able i).length ∧ q c = q i / (t.able i).length := by
  obtain ⟨c1, c2, c3, c4⟩ := RR.able_mem hi h
  have hr := RR.rank_get (t := t) (by omega) c3 c4
  rw [c1] at hr
  have e := RR.able_inj hi hr h
  refine ⟨e, ?_⟩
  rw [C.down c (by omega) c3 c4 hac, c1, e]
  refine cnt_at ?_
  exact Nat.lt_of_le_of_lt (Nat.zero_le _) (List.getElem?_eq_some_iff.mp h).1
theorem RR.Cn.srv {T i y : Nat} {p : List Nat} {x q : Nat → Nat} (C : t.Cn T x q) (h : RR.Path t x i p y) : i ≤ t.m → t.liv i = true → t.act i = false → RR.Srv t i (q i) y := by
  induction h with
  | @hit i a f ha => intro hi hl hn; exact .hit (C.asked hi hl hn f) ha
  | @go i a p y f ha _ ih =>
    intro hi hl hn
    have h1 := C.asked hi hl hn f
    have h2 := ih (f.at_le hi).2 f.2.1 ha
    rw [(C.below hi h1 ha).2] at h2
    exact .go h1 ha h2
theorem RR.Cn.path {T i y : Nat} {p : List Nat} {x q : Nat → Nat} (C : t.Cn T x q) (h : RR.Path t x i p y) : i ≤ t.m → t.liv i = true → t.act i = false →
    (∀ k ∈ p, i ≤ k ∧ k ≤ t.m) ∧ (∀ k ∈ p, k ≠ i → t.pr k ∈ p ∧ (t.able (t.pr k))[q (t.pr k) % (t.able (t.pr k)).length]? = some k) ∧ (∀ u ∈ p, ∀ c, (t.able u)[q u % (t.able u).length]? = some c → t.act c = false → c ∈ p) := by
  induction h with
  | @hit i a f ha =>
    intro hi hl hn
    refine ⟨fun k hk => by rw [List.mem_singleton.mp hk]; exact ⟨Nat.le_refl _, hi⟩, fun k hk n => absurd (List.mem_singleton.mp hk) n, fun u hu c hc hac => ?_⟩
    rw [List.mem_singleton.mp hu, C.asked hi hl hn f] at hc
    cases hc
    rw [ha] at hac; cases hac
  | @go i a p y f ha hp ih =>
    intro hi hl hn
    have h1 := C.asked hi hl hn f
    obtain ⟨c1, c2, c3, c4⟩ := RR.able_mem hi h1
    obtain ⟨i0, i1, i2⟩ := ih c3 c4 ha
    refine ⟨fun k hk => ?_, fun k hk n => ?_, fun u hu c hc hac => ?_⟩
    · rcases List.mem_cons.mp hk with rfl | hk
      · exact ⟨Nat.le_refl _, hi⟩
      · have := i0 k hk; exact ⟨by omega, this.2⟩
    · have hk := (List.mem_cons.mp hk).resolve_left n
      by_cases e : k = t.at i (x i + a)
      · subst e; rw [c1]; exact ⟨List.mem_cons_self .., h1⟩
      · obtain ⟨j1, j2⟩ := i1 k hk e
        exact ⟨List.mem_cons_of_mem _ j1, j2⟩
    · rcases List.mem_cons.mp hu with rfl | hu
      · rw [h1] at hc; cases hc
        exact List.mem_cons_of_mem _ hp.first
      · exact List.mem_cons_of_mem _ (i2 u hu c hc hac)
theorem RR.Cn.next {T y : Nat} {p : List Nat} {x x2 q : Nat → Nat} (C : t.Cn T x q) (h : RR.Path t x 0 p y) (hl : t.liv 0 = true) (hn : t.act 0 = false) (on : t.OnPath x p x2) : ∃ q2, t.Cn (T + 1) x2 q2 := by
  obtain ⟨i0, i1, i2⟩ := C.path h (Nat.zero_le _) hl hn
  refine ⟨fun k => if k ∈ p then q k + 1 else q k, ⟨?_, fun v h1 h2 h3 h4 => ?_, fun v h1 h2 h3 => ?_⟩⟩
  · show (if 0 ∈ p then q 0 + 1 else q 0) = _
    rw [if_pos h.first, C.root]
  · show (if v ∈ p then q v + 1 else q v) = cnt _ (if t.pr v ∈ p then q (t.pr v) + 1 else q (t.pr v)) _
    have hu := t.prl v h1 h2
    have hr := RR.rank_get h1 h2 h3
    have hrl := (List.getElem?_eq_some_iff.mp hr).1
    have hpos : 0 < (t.able (t.pr v)).length := by omega
    have hd := C.down v h1 h2 h3 h4
    by_cases m : t.pr v ∈ p
    · rw [if_pos m]
      by_cases e : t.rank v = q (t.pr v) % (t.able (t.pr v)).length
      · have hv : v ∈ p := i2 _ m v (by rw [← e]; exact hr) h4
        rw [if_pos hv, e, cnt_next hpos, hd, e, cnt_at hpos]
      · have hv : v ∉ p := fun z => by
          have := (i1 v z (by omega)).2
          exact e (RR.able_inj (by omega) hr this)
        rw [if_neg hv, cnt_same hrl e]; exact hd
    · have hv : v ∉ p := fun z => m (i1 v z (by omega)).1
      rw [if_neg m, if_neg hv]; exact hd
  · obtain ⟨K, hK⟩ := C.lc v h1 h2 h3
    refine ⟨K, ?_⟩
    show _ = _ + (if v ∈ p then q v + 1 else q v)
    by_cases m : v ∈ p
    · obtain ⟨a, f, e⟩ := (on v h1 h2).1 m
      rw [if_pos m, e, f.next, hK]; omega
    · rw [if_neg m, (on v h1 h2).2 m, hK]
theorem RR.Cn.start {x : Nat → Nat} (h : ∀ k, ∃ s, x k = s * (t.ch k).length) : t.Cn 0 x (fun _ => 0) := by
  refine ⟨rfl, fun v h1 h2 h3 h4 => ?_, fun v h1 h2 h3 => ?_⟩
  · have hrl := (List.getElem?_eq_some_iff.mp (RR.rank_get h1 h2 h3)).1
    show 0 = cnt _ 0 _
    unfold cnt
    rw [Nat.div_eq_of_lt (show 0 + (t.able (t.pr v)).length - 1 - t.rank v < (t.able (t.pr v)).length by omega)]
  · obtain ⟨s, hs⟩ := h v
    obtain ⟨c, hc, hl⟩ := (t.ln v h1 h3).mp h2
    exact ⟨s, by rw [hs, RR.lcf_mult (List.length_pos_of_mem hc)]; rfl⟩
noncomputable def RR.Inv (t : RR) (T : Nat) (M : Mo) : Prop := ∃ x, t.Nds M x ∧ t.Qu 0 M x ∧ ∃ q, t.Cn T x q
theorem RR.turn {n T : Nat} {M : Mo} (h : t.Inv T M) (hn : t.m < n) (ha : t.act 0 = false) (hl : t.liv 0 = true) : (∃ y, (sched n M (t.nm 0)).1 = some (t.nm y) ∧ RR.Srv t 0 T y) ∧ t.Inv (T + 1) (sched n M (t.nm 0)).2 := by
  obtain ⟨x, h1, h2, q, C⟩ := h
  obtain ⟨x2, g1, g2, -, g4⟩ := RR.sched_ok n 0 M x (Nat.zero_le _) (by omega) ha h1 h2
  rcases g4 with ⟨-, p, y, hp, hr, on⟩ | ⟨l, _⟩
  · have := C.srv hp (Nat.zero_le _) hl ha
    rw [C.root] at this
    exact ⟨⟨y, hr, this⟩, x2, g1, g2, C.next hp hl ha on⟩
  · rw [hl] at l; cases l
end
end Mine
end
section
set_option linter.unusedVariables false
set_option Elab.async false
namespace Mine
theorem Nd.act_eq {n : Nd} {b : Bool} (h : n.act = b) : { n with act := b } = n := by subst h; rfl
structure GG where
  m : Nat
  nm : Nat → Int
  ab : Nat → Nat
  wt : Nat → Int
  ac : Nat → Bool
  n0 : nm 0 = 0
  inj : ∀ i j, i ≤ m → j ≤ m → nm i = nm j → i = j
  abl : ∀ j, 1 ≤ j → ab j < j
  wl : ∀ j, 1 ≤ wt j
  wh : ∀ j, wt j ≤ 256
  ml : m ≤ 800
namespace GG
noncomputable def insS (nm : Nat → Int) (x : Nat) : List Nat → List Nat
  | [] => [x]
  | y :: r => if nm x < nm y then x :: y :: r else y :: insS nm x r
noncomputable def srt (nm : Nat → Int) : List Nat → List Nat
  | [] => []
  | x :: r => insS nm x (srt nm r)
section
variable {nm : Nat → Int}
theorem insS_perm {x : Nat} : ∀ {l : List Nat}, (insS nm x l).Perm (x :: l)
  | [] => List.Perm.refl _
  | y :: r => by
    unfold insS
    split
    · exact List.Perm.refl _
    · exact (insS_perm.cons y).trans (List.Perm.swap x y r)
theorem srt_perm : ∀ {l : List Nat}, (srt nm l).Perm l
  | [] => List.Perm.refl _
  | x :: r => insS_perm.trans (srt_perm.cons x)
theorem uniq : ∀ {l1 l2 : List Nat}, l1.Perm l2 → l1.Pairwise (fun a b => nm a < nm b) → l2.Pairwise (fun a b => nm a < nm b) → l1 = l2
  | [], l2, p, _, _ => (List.nil_perm.mp p).symm
  | x :: r1, [], p, _, _ => by have := p.length_eq; simp at this
  | x :: r1, y :: r2, p, h1, h2 => by
    have hx := List.pairwise_cons.mp h1
    have hy := List.pairwise_cons.mp h2
    have e : x = y := by
      by_cases q : x = y
      · exact q
      · have m1 : x ∈ y :: r2 := p.mem_iff.mp (.head _)
        have m2 : y ∈ x :: r1 := p.mem_iff.mpr (.head _)
        have m1' : x ∈ r2 := (List.mem_cons.mp m1).resolve_left q
        have m2' : y ∈ r1 := (List.mem_cons.mp m2).resolve_left fun z => q z.symm
        have a := hx.1 y m2'
        have b := hy.1 x m1'
        omega
    subst e
    rw [uniq (List.perm_cons _ |>.mp p) hx.2 hy.2]
theorem insS_sorted {x : Nat} : ∀ {l : List Nat}, l.Pairwise (fun a b => nm a < nm b) → (∀ y ∈ l, nm x ≠ nm y) → (insS nm x l).Pairwise (fun a b => nm a < nm b)
  | [], _, _ => List.pairwise_singleton _ _
  | y :: r, h, n => by
    have hy := List.pairwise_cons.mp h
    unfold insS
    split
    · rename_i q
      refine List.pairwise_cons.mpr ⟨fun z hz => ?_, h⟩
      rcases List.mem_cons.mp hz with rfl | hz
      · exact q
      · exact Int.lt_trans q (hy.1 z hz)
    · rename_i q
      have ny := n y (.head _)
      refine List.pairwise_cons.mpr ⟨fun z hz => ?_, insS_sorted hy.2 fun z hz => n z (.tail _ hz)⟩
      rcases List.mem_cons.mp (insS_perm.mem_iff.mp hz) with rfl | hz
      · omega
      · exact hy.1 z hz
theorem srt_sorted : ∀ {l : List Nat}, l.Pairwise (fun a b => nm a ≠ nm b) → (srt nm l).Pairwise (fun a b => nm a < nm b)
  | [], _ => List.Pairwise.nil
  | x :: r, h => by
    have hx := List.pairwise_cons.mp h
    exact insS_sorted (srt_sorted hx.2) fun y hy => hx.1 y (srt_perm.mem_iff.mp hy)
noncomputable abbrev zr (nm : Nat → Int) (c : Nat) : Int × Int := (0, nm c)
theorem place_zero {c : Nat} : ∀ {l : List Nat}, (∀ y ∈ l, nm c < nm y) → place (klt (zr nm c)) (l.map (zr nm)) = 0
  | [], _ => rfl
  | x :: r, h => by
    rw [List.map_cons]
    unfold place
    rw [place_zero fun y hy => h y (.tail _ hy)]
    have : klt (zr nm c) (zr nm x) = true := by unfold klt; rw [decide_eq_true_eq]; exact .inr ⟨rfl, h x (.head _)⟩
    simp only [this, if_true]
theorem ins_map {c : Nat} : ∀ {l : List Nat}, l.Pairwise (fun a b => nm a < nm b) → (∀ y ∈ l, nm c ≠ nm y) → ins (zr nm c) (l.map (zr nm)) = (insS nm c l).map (zr nm)
  | [], _, _ => rfl
  | x :: r, hs, hn => by
    have hx := List.pairwise_cons.mp hs
    by_cases q : nm c < nm x
    · have h0 : place (klt (zr nm c)) ((x :: r).map (zr nm)) = 0 := place_zero fun y hy => by
        rcases List.mem_cons.mp hy with rfl | hy
        · exact q
        · exact Int.lt_trans q (hx.1 y hy)
      unfold ins insS
      rw [h0, if_pos q]; rfl
    · have ih := ins_map hx.2 fun y hy => hn y (.tail _ hy)
      unfold ins at ih ⊢
      unfold insS
      rw [if_neg q, List.map_cons, List.map_cons, ← ih]
      have hk : klt (zr nm c) (zr nm x) = false := by
        unfold klt; rw [decide_eq_false_iff_not]
        rintro (h | ⟨_, h⟩)
        · exact absurd h (by simp)
        · exact q h
      have : place (klt (zr nm c)) (zr nm x :: r.map (zr nm)) = place (klt (zr nm c)) (r.map (zr nm)) + 1 := by
        conv => lhs; unfold place
        cases place (klt (zr nm c)) (r.map (zr nm)) with
        | zero => simp [hk]
        | succ n => rfl
      rw [this]; rfl
theorem srt_snoc {l : List Nat} {c : Nat} (h : (l ++ [c]).Pairwise (fun a b => nm a ≠ nm b)) : insS nm c (srt nm l) = srt nm (l ++ [c]) := by
  have h1 := (List.pairwise_append.mp h)
  refine uniq ?_ (insS_sorted (srt_sorted h1.1) fun y hy => (h1.2.2 y (srt_perm.mem_iff.mp hy) c (by simp)).symm) (srt_sorted h)
  refine insS_perm.trans ((srt_perm.cons c).trans ?_)
  exact (List.perm_append_comm (l₁ := [c]) (l₂ := l)).trans srt_perm.symm
end
section
variable (g : GG)
noncomputable def cl (i j : Nat) : List Nat := ((List.range i).map (· + 1)).filter fun k => decide (g.ab k = j)
variable {g}
theorem cl_succ {i j : Nat} : g.cl (i + 1) j = g.cl i j ++ (if g.ab (i + 1) = j then [i + 1] else []) := by
  unfold cl
  rw [List.range_succ, List.map_append, List.filter_append]
  congr 1
  by_cases q : g.ab (i + 1) = j <;> simp [q]
theorem cl_mem {i j k : Nat} : k ∈ g.cl i j ↔ 1 ≤ k ∧ k ≤ i ∧ g.ab k = j := by
  unfold cl
  rw [List.mem_filter, List.mem_map, decide_eq_true_eq]
  constructor
  · rintro ⟨⟨x, hx, rfl⟩, h⟩; have := List.mem_range.mp hx; exact ⟨by omega, by omega, h⟩
  · rintro ⟨h1, h2, h3⟩; exact ⟨⟨k - 1, List.mem_range.mpr (by omega), by omega⟩, h3⟩
theorem cl_nodup {i j : Nat} : (g.cl i j).Pairwise (· ≠ ·) := by
  unfold cl
  have h0 : (List.range i).Pairwise (· ≠ ·) := List.nodup_range
  exact List.Pairwise.filter _ (List.pairwise_map.mpr (h0.imp fun h => by omega))
theorem cl_len {i j : Nat} : (g.cl i j).length ≤ i := by
  unfold cl
  refine Nat.le_trans (List.length_filter_le ..) ?_
  rw [List.length_map, List.length_range]; exact Nat.le_refl _
theorem keys {i j : Nat} (h : i ≤ g.m) : (g.cl i j).Pairwise (fun a b => g.nm a ≠ g.nm b) :=
  List.Pairwise.imp_of_mem (fun {a b} ha hb n z => n (g.inj a b (Nat.le_trans (cl_mem.mp ha).2.1 h) (Nat.le_trans (cl_mem.mp hb).2.1 h) z)) cl_nodup
theorem cl_gt {i j k : Nat} (h : k ∈ g.cl i j) : j < k := by
  have := cl_mem.mp h
  rw [← this.2.2]; exact g.abl k this.1
variable (g)
noncomputable def ch (i j : Nat) : List Nat := srt g.nm (g.cl i j)
noncomputable def D (i j : Nat) : Nd := ⟨if j = 0 then 1 else g.wt j, (g.cl i j).map g.nm, if j = 0 then none else some (g.nm (g.ab j)), (g.ch i j).map (zr g.nm), if j = 0 then false else g.ac j, 0, 0⟩
noncomputable def X (M : Mo) (i : Nat) : Mo := adopt (M.put (g.nm (i + 1)) (newNd (g.wt (i + 1)))) (g.nm (g.ab (i + 1))) (g.nm (i + 1))
noncomputable def M : Nat → Mo
  | 0 => Mo.root
  | i + 1 => if g.ac (i + 1) then g.X (M i) i else actv (g.X (M i) i) (g.nm (i + 1)) false
variable {g}
theorem ch_mem {i j c : Nat} : c ∈ g.ch i j ↔ c ∈ g.cl i j := srt_perm.mem_iff
theorem ch_len {i j : Nat} : (g.ch i j).length ≤ i := by unfold ch; rw [srt_perm.length_eq]; exact cl_len
noncomputable def At (g : GG) (M : Mo) (i : Nat) (D : Nat → Nd) : Prop := (∀ j, j ≤ i → M (g.nm j) = some (D j)) ∧ ∀ x, (∀ j, j ≤ i → x ≠ g.nm j) → M x = none
noncomputable def D' (g : GG) (i j : Nat) : Nd := if j = i then { g.D i j with act := true } else g.D i j
theorem X_at {i : Nat} {M : Mo} (h : i + 1 ≤ g.m) (a : g.At M i (g.D i)) : g.At (g.X M i) (i + 1) (g.D' (i + 1)) := by
  obtain ⟨a1, a2⟩ := a
  have lt := g.abl (i + 1) (by omega)
  have ne : ∀ j, j ≤ i → g.nm j ≠ g.nm (i + 1) := fun j hj z => by have := g.inj _ _ (by omega) h z; omega
  have hi : (M.put (g.nm (i + 1)) (newNd (g.wt (i + 1)))) (g.nm (g.ab (i + 1))) = some (g.D i (g.ab (i + 1))) := by
    rw [Mo.put_ne (ne _ (by omega))]; exact a1 _ (by omega)
  have e : g.X M i = _ := adopt_eq hi (Mo.put_self ..)
  refine ⟨fun j hj => ?_, fun x hx => ?_⟩
  · rw [e]
    by_cases q : j = g.ab (i + 1)
    · subst q
      rw [Mo.put_self]
      have c1 : g.cl (i + 1) (g.ab (i + 1)) = g.cl i (g.ab (i + 1)) ++ [i + 1] := by rw [cl_succ, if_pos rfl]
      have kk : (g.cl i (g.ab (i + 1)) ++ [i + 1]).Pairwise (fun a b => g.nm a ≠ g.nm b) := by rw [← c1]; exact keys h
      have hq : ins (0, g.nm (i + 1)) ((g.ch i (g.ab (i + 1))).map (zr g.nm)) = (g.ch (i + 1) (g.ab (i + 1))).map (zr g.nm) := by
        unfold ch
        rw [c1, ← srt_snoc kk]
        have h1 := (List.pairwise_append.mp kk)
        exact ins_map (srt_sorted h1.1) fun y hy => (h1.2.2 y (srt_perm.mem_iff.mp hy) (i + 1) (by simp)).symm
      unfold D'
      rw [if_neg (by omega)]
      show some (Nd.mk _ _ _ _ _ _ _) = some (g.D (i + 1) (g.ab (i + 1)))
      unfold D
      rw [← hq, c1, List.map_append]; rfl
    · have n1 : g.nm j ≠ g.nm (g.ab (i + 1)) := fun z => q (g.inj _ _ (by omega) (by omega) z)
      rw [Mo.put_ne n1]
      have c1 : g.cl (i + 1) j = g.cl i j := by rw [cl_succ, if_neg (fun z => q z.symm), List.append_nil]
      by_cases q2 : j = i + 1
      · subst q2
        rw [Mo.put_self]
        have c2 : g.cl (i + 1) (i + 1) = [] := by
          rw [c1]
          exact List.eq_nil_iff_forall_not_mem.mpr fun k hk => by
            have := cl_mem.mp hk
            have := g.abl k this.1
            omega
        unfold D' D ch
        rw [if_pos rfl, c2, if_neg (by omega), if_neg (by omega)]; rfl
      · rw [Mo.put_ne (ne j (by omega)), Mo.put_ne (ne j (by omega)), a1 j (by omega)]
        unfold D'
        rw [if_neg q2]
        unfold D ch; rw [c1]
  · rw [e, Mo.put_ne (hx _ (by omega)), Mo.put_ne (hx _ (Nat.le_refl _)), Mo.put_ne (hx _ (Nat.le_refl _))]
    exact a2 x fun j hj => hx j (by omega)
theorem actv_at {M : Mo} {i j : Int} {b : Bool} {n : Nd} (h : M j = some n) : Mine.actv M i b j = some (if j = i then { n with act := b } else n) := by
  unfold Mine.actv
  cases q : M i with
  | none =>
    have : j ≠ i := fun z => by rw [z, q] at h; cases h
    rw [if_neg this]; exact h
  | some m =>
    by_cases e : j = i
    · subst e; rw [h] at q; cases q; rw [if_pos rfl]; exact Mo.put_self ..
    · rw [if_neg e]; exact (Mo.put_ne e).trans h
theorem actv_none {M : Mo} {i x : Int} {b : Bool} {n : Nd} (h : M i = some n) (hx : M x = none) : Mine.actv M i b x = none := by
  rw [actv_eq h, Mo.put_ne (fun z => by rw [z, h] at hx; cases hx)]; exact hx
theorem M_at : ∀ {i : Nat}, i ≤ g.m → g.At (g.M i) i (g.D i)
  | 0, _ => by
    refine ⟨fun j hj => ?_, fun x hx => ?_⟩
    · obtain rfl : j = 0 := by omega
      rw [g.n0]; rfl
    · exact if_neg (by have := hx 0 (Nat.le_refl _); rwa [g.n0] at this)
  | i + 1, h => by
    obtain ⟨b1, b2⟩ := X_at h (M_at (i := i) (by omega))
    unfold M
    by_cases q : g.ac (i + 1) = true
    · rw [if_pos q]
      refine ⟨fun j hj => ?_, b2⟩
      rw [b1 j hj]
      unfold D'
      split
      · rename_i z; subst z
        have hact : (g.D (i + 1) (i + 1)).act = true := by
          show (if i + 1 = 0 then false else g.ac (i + 1)) = true
          rw [if_neg (by omega), q]
        exact congrArg some (Nd.act_eq hact)
      · rfl
    · rw [if_neg q]
      have q' : g.ac (i + 1) = false := by simpa using q
      refine ⟨fun j hj => ?_, fun x hx => actv_none (b1 _ (Nat.le_refl _)) (b2 x hx)⟩
      rw [actv_at (b1 j hj)]
      unfold D'
      by_cases z : j = i + 1
      · subst z
        rw [if_pos rfl, if_pos rfl]
        have hact : (g.D (i + 1) (i + 1)).act = false := by
          show (if i + 1 = 0 then false else g.ac (i + 1)) = false
          rw [if_neg (by omega), q']
        exact congrArg some (Nd.act_eq hact)
      · rw [if_neg z, if_neg fun y => z (g.inj _ _ (by omega) (by omega) y)]
noncomputable def idx (g : GG) (x : Int) : Nat := ((List.range (g.m + 1)).find? fun j => decide (g.nm j = x)).getD 0
noncomputable def rk (g : GG) (x : Int) : Nat := g.m + 1 - g.idx x
theorem idx_eq {j : Nat} (h : j ≤ g.m) : g.idx (g.nm j) = j := by
  unfold idx
  cases q : (List.range (g.m + 1)).find? (fun k => decide (g.nm k = g.nm j)) with
  | none =>
    have := List.find?_eq_none.mp q j (List.mem_range.mpr (by omega))
    simp at this
  | some k =>
    have h1 := List.find?_some q
    have h2 := List.mem_range.mp (List.mem_of_find?_eq_some q)
    show k = j
    exact g.inj _ _ (by omega) h (by simpa using h1)
theorem rk_eq {j : Nat} (h : j ≤ g.m) : g.rk (g.nm j) = g.m + 1 - j := by unfold rk; rw [idx_eq h]
theorem rk_le {x : Int} : g.rk x ≤ g.m + 1 := by unfold rk; omega
theorem At.inv {M : Mo} {i : Nat} {D : Nat → Nd} (a : g.At M i D) {x : Int} {n : Nd} (hx : M x = some n) : ∃ j, j ≤ i ∧ x = g.nm j ∧ n = D j := by
  by_cases q : ∃ j, j ≤ i ∧ x = g.nm j
  · obtain ⟨j, hj, rfl⟩ := q
    rw [a.1 j hj] at hx
    exact ⟨j, hj, rfl, (Option.some.inj hx).symm⟩
  · rw [a.2 x fun j hj z => q ⟨j, hj, z⟩] at hx; cases hx
noncomputable def Sh (g : GG) (i : Nat) (D : Nat → Nd) : Prop := ∀ j, j ≤ i → (D j).wt = (g.D i j).wt ∧ (D j).kids = (g.D i j).kids ∧ (D j).par = (g.D i j).par ∧ (D j).q = (g.D i j).q ∧ (D j).df = 0
theorem At.ok {M : Mo} {i : Nat} {D : Nat → Nd} (a : g.At M i D) (h : i ≤ g.m) (sh : g.Sh i D) : OkM g.rk M := by
  have ml := g.ml
  refine ⟨fun x n hx => ?_⟩
  obtain ⟨j, hj, rfl, rfl⟩ := a.inv hx
  obtain ⟨s1, s2, s3, s4, s5⟩ := sh j hj
  rw [s1, s4, s5]
  have hl := @ch_len g i j
  refine ⟨?_, ?_, Int.le_refl _, (by decide : (0 : Int) < 256), ?_, fun e he => ?_⟩
  · show 1 ≤ (if j = 0 then 1 else g.wt j)
    split
    · exact Int.le_refl _
    · exact g.wl j
  · show (if j = 0 then 1 else g.wt j) ≤ 256
    split
    · decide
    · exact g.wh j
  · show ((g.ch i j).map (zr g.nm)).length ≤ 1000
    rw [List.length_map]; omega
  · obtain ⟨c, hc, rfl⟩ := List.mem_map.mp he
    have hm := ch_mem.mp hc
    have hc' := cl_mem.mp hm
    have lt := cl_gt hm
    refine ⟨⟨_, a.1 c hc'.2.1⟩, ?_⟩
    show g.rk (g.nm c) < g.rk (g.nm j)
    rw [rk_eq (by omega), rk_eq (by omega)]
    omega
theorem At.clo {M : Mo} {i : Nat} {D : Nat → Nd} (a : g.At M i D) (h : i ≤ g.m) (sh : g.Sh i D) : Clo M := by
  refine ⟨fun x n hx k hk => ?_, fun x n p hx hp => ?_⟩
  · obtain ⟨j, hj, rfl, rfl⟩ := a.inv hx
    rw [(sh j hj).2.1] at hk
    obtain ⟨c, hc, rfl⟩ := List.mem_map.mp hk
    exact ⟨_, a.1 c (cl_mem.mp hc).2.1⟩
  · obtain ⟨j, hj, rfl, rfl⟩ := a.inv hx
    rw [(sh j hj).2.2.1] at hp
    have hp' : (if j = 0 then none else some (g.nm (g.ab j))) = some p := hp
    by_cases q : j = 0
    · rw [if_pos q] at hp'; cases hp'
    · rw [if_neg q] at hp'
      cases hp'
      have lt := g.abl j (by omega)
      exact ⟨_, a.1 (g.ab j) (by omega)⟩
theorem Sh.refl {i : Nat} : g.Sh i (g.D i) := fun j hj => ⟨rfl, rfl, rfl, rfl, rfl⟩
theorem M_ok {i : Nat} (h : i ≤ g.m) : OkM g.rk (g.M i) := (M_at h).ok h Sh.refl
theorem M_good {i : Nat} (h : i < g.m) : OkM g.rk (g.M i) ∧ Clo (g.M i) ∧ g.M i (g.nm (i + 1)) = none ∧ (∃ d, g.M i (g.nm (g.ab (i + 1))) = some d ∧ d.q.length ≤ 900 ∧ d.kids.length ≤ 900) ∧ ∃ n, g.M i 0 = some n := by
  have a := M_at (g := g) (i := i) (by omega)
  have lt := g.abl (i + 1) (by omega)
  have ml := g.ml
  refine ⟨M_ok (by omega), a.clo (by omega) Sh.refl, a.2 _ fun j hj z => ?_, ⟨_, a.1 _ (by omega), ?_, ?_⟩, ⟨g.D i 0, ?_⟩⟩
  · have := g.inj _ _ (by omega) (by omega) z; omega
  · show ((g.ch i _).map (zr g.nm)).length ≤ 900
    rw [List.length_map]
    exact Nat.le_trans ch_len (by omega)
  · show ((g.cl i _).map g.nm).length ≤ 900
    rw [List.length_map]
    exact Nat.le_trans cl_len (by omega)
  · have := a.1 0 (Nat.zero_le _)
    rwa [g.n0] at this
theorem X_good {i : Nat} (h : i < g.m) : ∃ d, g.X (g.M i) i (g.nm (i + 1)) = some d := ⟨_, (X_at h (M_at (by omega))).1 _ (Nat.le_refl _)⟩
theorem nm_ne {j : Nat} (h1 : 1 ≤ j) (h : j ≤ g.m) : g.nm j ≠ 0 := fun z => by
  rw [← g.n0] at z
  have := g.inj _ _ h (Nat.zero_le _) z; omega
end
end GG
end Mine
end
section
open PySem PySem.W PyProof.Rows PySem.Calls
set_option linter.unusedVariables false
set_option Elab.async false
namespace Mine
noncomputable def intsV (l : List Int) : List Value := l.map fun i => .int i 0
theorem intsV_len {l : List Int} : (intsV l).length = l.length := by unfold intsV; simp
theorem intsV_get {l : List Int} {k : Nat} {i : Int} (h : l[k]? = some i) : (intsV l)[k]? = some (.int i 0) := by
  unfold intsV; rw [List.getElem?_map, h]; rfl
theorem intsAre_of : ∀ {vs : List Value} {l : List Int}, vs.map er = intsV l → IntsAre vs l
  | [], [], _ => .nil
  | [], _ :: _, h => by simp [intsV] at h
  | _ :: _, [], h => by simp [intsV] at h
  | v :: vs, i :: l, h => by
    simp only [intsV, List.map_cons, List.cons.injEq] at h
    obtain ⟨t, rfl⟩ := er_int h.1
    exact .cons i t (intsAre_of h.2)
theorem map_erase {α β : Type} (f : α → β) : ∀ (l : List α) (j : Nat), (l.eraseIdx j).map f = (l.map f).eraseIdx j
  | [], _ => rfl
  | x :: r, 0 => rfl
  | x :: r, j + 1 => by rw [List.eraseIdx_cons_succ, List.map_cons, List.map_cons, List.eraseIdx_cons_succ, map_erase f r j]
theorem eraseIdx_arr {l : List Value} {j : Nat} (h : j < l.length) : (l.toArray.eraseIdxIfInBounds j).toList = l.eraseIdx j := by
  unfold Array.eraseIdxIfInBounds
  have : j < l.toArray.size := by simpa using h
  rw [dif_pos this]
  simp
section
variable {prog : Program} {w : World} {K : Frag} {c : Cx prog w K} {envs outer : List Env} {env : Env} {H : AH} {A : Around} {E : Value → Shared → Prop} {s : Shared}
theorem St.more {h' : Heap} {L : Nat} {l : List (Str × Value)} (S : St c envs H s) (hL : H L = some (.ns l)) (old : ∀ b x, s.heap.get? b = some x → h'.get? b = some x) (tk : Nat) : St c envs H { s with heap := h', toks := tk } := by
  obtain ⟨m, hn, hm⟩ := S.get hL
  obtain ⟨o, es, ep, h1, h2⟩ := hn
  have hn' : h'.Ns L m := ⟨o, es, ep, old _ _ h1, h2⟩
  exact (S.grown hL hm hn' fun b x _ q => old b x q).tok tk
theorem St.ints {q : Nat} {l : List Int} (S : St c envs H s) (e : H q = some (.list (intsV l))) : ∃ vs : List Value, s.heap.IsList q vs.toArray ∧ IntsAre vs l := by
  obtain ⟨vs, h1, h2⟩ := S.list e
  exact ⟨vs, h1, intsAre_of h2⟩
theorem in_ints {q : Nat} {l : List Int} {k : Int} {t : Tok} {Q : Value → Shared → Prop} (S : St c envs H s) (e : H q = some (.list (intsV l))) (h : Q (.bool (l.any (· == k))) s) : wpAny (model prog w) A (compareOp .In (.int k t) (.ref q)) Q E s := by
  obtain ⟨vs, h1, h2⟩ := S.ints e
  exact in_list_ints h1 h2 h
theorem notin_ints {q : Nat} {l : List Int} {k : Int} {t : Tok} {Q : Value → Shared → Prop} (S : St c envs H s) (e : H q = some (.list (intsV l))) (h : Q (.bool (!(l.any (· == k)))) s) : wpAny (model prog w) A (compareOp .NotIn (.int k t) (.ref q)) Q E s := by
  obtain ⟨vs, h1, h2⟩ := S.ints e
  exact notin_list_ints h1 h2 h
theorem isInt_at : ∀ {vs : List Value} {l : List Int}, IntsAre vs l → ∀ (j : Nat) (h : j < vs.length) (k : Int), isInt k vs[j] = decide (l[j]? = some k)
  | _, _, .cons n t h, 0, _, k => by
    show (n == k) = decide (some n = some k)
    by_cases q : n = k
    · simp [q]
    · simp [q]
  | _, _, .cons n t h, j + 1, hj, k => isInt_at h j (Nat.lt_of_succ_lt_succ hj) k
theorem intsAre_len : ∀ {vs : List Value} {l : List Int}, IntsAre vs l → vs.length = l.length
  | _, _, .nil => rfl
  | _, _, .cons n t h => congrArg (· + 1) (intsAre_len h)
theorem index_ints {q : Nat} {l : List Int} {k : Int} {t : Tok} {j : Nat} {Q : Value → Shared → Prop} (S : St c envs H s) (e : H q = some (.list (intsV l))) (hz : l.length ≤ 1000) (hj : l[j]? = some k) (hno : ∀ i, i < j → l[i]? ≠ some k)
    (h : ∀ t s', St c envs H s' → Q (.int j t) s') : wpAny (model prog w) A (call (.builtin "list.index") [.ref q, .int k t]) Q E s := by
  obtain ⟨vs0, n, hv, hm⟩ := S.get e
  obtain ⟨vs, rfl⟩ : ∃ l : List Value, vs0 = l.toArray := ⟨vs0.toList, by simp⟩
  simp only at hm
  have hi := intsAre_of hm
  have hlen := intsAre_len hi
  have hjl := (List.getElem?_eq_some_iff.mp hj).1
  have hjv : j < vs.length := by omega
  refine call_meets PySem.F.slot_list_index ⟨_, hv, rfl⟩ PySem.F.entry_list_index (PySem.F.args_list_index_2 _ _) (PySem.SeqAt.list_indexAt q vs.toArray n none #[] (.int k t) (isInt k) j (by simpa using hjv) (by omega) ?_ ?_) ⟨hv, fun y hy => (eq_isInt k t hi y (by simpa using hy)).at _ _, h _ _ (S.tok _)⟩
  · have := isInt_at hi j hjv k
    rw [decide_eq_true hj] at this
    simpa using this
  · intro m hm2 hmj
    have hmv : m < vs.length := by simpa using hm2
    have := isInt_at hi m hmv k
    rw [decide_eq_false (hno m hmj)] at this
    simpa using this
theorem remove_ints {q : Nat} {l : List Int} {k : Int} {t : Tok} {j : Nat} {Q : Value → Shared → Prop} (S : St c envs H s) (e : H q = some (.list (intsV l))) (hz : l.length ≤ 1000) (hj : l[j]? = some k) (hno : ∀ i, i < j → l[i]? ≠ some k)
    (h : ∀ s', St c envs (upd H q (.list (intsV (l.eraseIdx j)))) s' → Q .none s') : wpAny (model prog w) A (call (.builtin "list.remove") [.ref q, .int k t]) Q E s := by
  obtain ⟨vs0, n, hv, hm⟩ := S.get e
  obtain ⟨vs, rfl⟩ : ∃ l : List Value, vs0 = l.toArray := ⟨vs0.toList, by simp⟩
  simp only at hm
  have hi := intsAre_of hm
  have hlen := intsAre_len hi
  have hjl := (List.getElem?_eq_some_iff.mp hj).1
  have hjv : j < vs.length := by omega
  refine call_meets PySem.F.slot_list_remove ⟨_, hv, rfl⟩ PySem.F.entry_list_remove (PySem.F.args_list_remove_2 _ _) (PySem.MeetsSeq.list_remove q vs.toArray n (.int k t) (isInt k) (fun y hy => eq_isInt k t hi y (by simpa using hy)) j (by simpa using hjv) ?_ ?_ (by rw [sizeLine_eq]; simp; omega)) ⟨hv, h _ (S.listSet e hv _ ?_)⟩
  · have := isInt_at hi j hjv k
    rw [decide_eq_true hj] at this
    simpa using this
  · intro m hm2 hmj
    have hmv : m < vs.length := by simpa using hm2
    have := isInt_at hi m hmv k
    rw [decide_eq_false (hno m hmj)] at this
    simpa using this
  · rw [eraseIdx_arr hjv]
    have hm' : vs.map er = intsV l := hm
    unfold intsV at hm' ⊢
    rw [map_erase, hm', map_erase]
theorem pop_last {q : Nat} {xs : List Value} {x : Value} {Q : Value → Shared → Prop} (S : St c envs H s) (e : H q = some (.list (xs ++ [x]))) (hz : xs.length ≤ 1000)
    (h : ∀ v s', er v = x → St c envs (upd H q (.list xs)) s' → Q v s') : wpAny (model prog w) A (call (.builtin "list.pop") [.ref q]) Q E s := by
  obtain ⟨vs0, n, hv, hm⟩ := S.get e
  obtain ⟨vs, rfl⟩ : ∃ l : List Value, vs0 = l.toArray := ⟨vs0.toList, by simp⟩
  simp only at hm
  have hm' : vs.map er = xs ++ [x] := hm
  have hlen : vs.length = xs.length + 1 := by rw [← List.length_map (f := er), hm']; simp
  have hx : (vs.map er)[xs.length]? = some x := by rw [hm']; simp
  rw [List.getElem?_map] at hx
  obtain ⟨v, hv2, he⟩ := Option.map_eq_some_iff.mp hx
  have e1 : vs.toArray.size - 1 = xs.length := by simp; omega
  refine call_meets PySem.F.slot_list_pop ⟨_, hv, rfl⟩ PySem.F.entry_list_pop (PySem.F.args_list_pop_1 _) (PySem.MeetsSeq.list_pop_last q vs.toArray n v (by rw [e1]; simpa using hv2) (by rw [sizeLine_eq]; simp; omega)) ⟨hv, h _ _ he (S.listSet e hv _ ?_)⟩
  rw [e1, eraseIdx_arr (by omega), map_erase, hm']
  rw [List.eraseIdx_append_of_length_le (Nat.le_refl _)]
  simp
theorem last_item {value slice : PySem.Expr} {q : Nat} {xs : List Value} {x : Value} {u : Tok} {Q : Value → Shared → Prop} (S : St c envs H s) (e : H q = some (.list (xs ++ [x]))) (hz : xs.length ≤ 1000)
    (h : ∀ v, er v = x → Q v s) (hs : subscripted slice false (.ref q) (.int (-1) u) = operate [.ref q, .int (-1) u] (getItem (.ref q) (.int (-1) u)) := by with_unfolding_all rfl) :
    wpAny (model prog w) A (subscriptTail value slice (.ref q) (.int (-1) u)) Q E s := by
  obtain ⟨vs, ht, hm⟩ := S.list e
  have hlen : vs.length = xs.length + 1 := by rw [← List.length_map (f := er), hm]; simp
  have hx : (vs.map er)[xs.length]? = some x := by rw [hm]; simp
  rw [List.getElem?_map] at hx
  obtain ⟨v, hv2, he⟩ := Option.map_eq_some_iff.mp hx
  have e1 : (-1 + (vs.toArray.size : Int)).toNat = xs.length := by simp; omega
  exact tail_any ht.typeIs slot_list_getitem.lookup (PySem.wpAny_getItem_list_neg ht (by decide) (by simp; omega) (by decide) (by rw [e1]; simpa using hv2) (h v he)) hs
theorem min_ints {q L : Nat} {l : List Int} {lL : List (Str × Value)} {Q : Value → Shared → Prop} (S : St c envs H s) (hh : A.handled = none) (hL : H L = some (.ns lL)) (e : H q = some (.list (intsV l))) (hne : 0 < l.length)
    (h : ∀ M t s', M ∈ l → (∀ a ∈ l, M ≤ a) → St c envs H s' → Q (.int M t) s') : wpAny (model prog w) A (call (.builtin "min") [.ref q]) Q E s := by
  obtain ⟨vs, hl, hi⟩ := S.ints e
  obtain ⟨xs, e⟩ := hi.allInts.items
  have hns : l = xs.toList.map (·.1) := by rw [← hi.numsOf, ← nums_intItems, ← e]
  have hsz : 0 < xs.size := by
    have h3 := hne; rw [hns, List.length_map, Array.length_toList] at h3; exact h3
  rw [e] at hl
  refine min_intList hh hl hsz fun v h' tk hv hk => ?_
  obtain ⟨t, rfl⟩ := intItems_at hv
  obtain ⟨h1, h2⟩ := argBest_lt (numAt xs) (xs.size - 1)
  refine h _ t _ ?_ (fun a ha => ?_) (S.more hL hk tk)
  · rw [hns, numAt_eq]; exact getD_mem (by rw [List.length_map, Array.length_toList]; omega)
  · rw [hns] at ha
    obtain ⟨j, hj, rfl⟩ := mem_getD ha
    rw [List.length_map, Array.length_toList] at hj
    rw [← numAt_eq]; exact h2 j (by omega)
end
end Mine
end
section
set_option linter.unusedVariables false
set_option Elab.async false
namespace Mine
noncomputable def ChS (g : GG) (a : Nat → Bool) (k : Nat) (M : Mo) : Prop := ∀ j, k ≤ j → j ≤ g.m → ∃ d, M (g.nm j) = some d ∧ (1 ≤ j → d.act = a j) ∧ ∃ lv, d.q = if j < g.m then [(lv, g.nm (j + 1))] else []
section
variable {g : GG} {a : Nat → Bool}
theorem chs_back {j : Nat} {M : Mo} {d : Nd} {lv : Int} (hj : j < g.m) (h : ChS g a (j + 1) M) (hd : M (g.nm j) = some d) (ha : 1 ≤ j → d.act = a j) (hq : d.q = []) :
    ChS g a j (fstep (g.nm j) M (lv, g.nm (j + 1))) ∧ ∀ j', j' < j → fstep (g.nm j) M (lv, g.nm (j + 1)) (g.nm j') = M (g.nm j') := by
  obtain ⟨n, hn, na, lv', nq⟩ := h (j + 1) (Nat.le_refl _) (by omega)
  have e := fstep_eq (e := (lv, g.nm (j + 1))) hd hn
  have ne : ∀ i i', i ≤ g.m → i' ≤ g.m → i ≠ i' → g.nm i ≠ g.nm i' := fun i i' h1 h2 h3 z => h3 (g.inj _ _ h1 h2 z)
  rw [e]
  refine ⟨fun i h1 h2 => ?_, fun j' h1 => ?_⟩
  · by_cases q1 : i = j
    · subst q1
      refine ⟨_, Mo.put_self .., ha, lv + (256 + n.df) / n.wt, ?_⟩
      show ins _ d.q = _
      rw [hq, if_pos hj]; rfl
    · by_cases q2 : i = j + 1
      · subst q2
        refine ⟨_, (Mo.put_ne (ne _ _ h2 (by omega) q1)).trans (Mo.put_self ..), na, lv', nq⟩
      · obtain ⟨d2, e1, e2, e3⟩ := h i (by omega) h2
        exact ⟨d2, (Mo.put_ne (ne _ _ h2 (by omega) q1)).trans ((Mo.put_ne (ne _ _ h2 (by omega) q2)).trans e1), e2, e3⟩
  · exact (Mo.put_ne (ne _ _ (by omega) (by omega) (by omega))).trans (Mo.put_ne (ne _ _ (by omega) (by omega) (by omega)))
noncomputable def Fst (g : GG) (a : Nat → Bool) (j : Nat) (r : Option Int) : Prop :=
  (∃ y, j < y ∧ y ≤ g.m ∧ a y = true ∧ (∀ i, j < i → i < y → a i = false) ∧ r = some (g.nm y)) ∨ ((∀ i, j < i → i ≤ g.m → a i = false) ∧ r = none)
theorem chain_turn : ∀ (n j : Nat) (M : Mo), g.m - j < n → j ≤ g.m → ChS g a j M →
    ChS g a j (sched n M (g.nm j)).2 ∧ (∀ j', j' < j → (sched n M (g.nm j)).2 (g.nm j') = M (g.nm j')) ∧ Fst g a j (sched n M (g.nm j)).1
  | 0, j, M, h, _, _ => by omega
  | n + 1, j, M, h, hj, C => by
    obtain ⟨d, hd, da, lv, dq⟩ := C j (Nat.le_refl _) hj
    by_cases q : j < g.m
    · rw [if_pos q] at dq
      obtain ⟨c, hc, ca, lv', cq⟩ := C (j + 1) (by omega) (by omega)
      have ca := ca (by omega)
      have ne : g.nm (j + 1) ≠ g.nm j := fun z => by have := g.inj _ _ (by omega) hj z; omega
      have m1 : (M.put (g.nm j) { d with q := [] }) (g.nm j) = some { d with q := [] } := Mo.put_self ..
      have C1 : ChS g a (j + 1) (M.put (g.nm j) { d with q := [] }) := fun i h1 h2 => by
        obtain ⟨d2, e1, e2⟩ := C i (by omega) h2
        exact ⟨d2, (Mo.put_ne (fun z => by have := g.inj _ _ h2 hj z; omega)).trans e1, e2⟩
      have low : ∀ j', j' < j → (M.put (g.nm j) { d with q := [] }) (g.nm j') = M (g.nm j') := fun j' h' => Mo.put_ne fun z => by have := g.inj _ _ (by omega) hj z; omega
      cases hca : c.act with
      | true =>
        have hg := goL_act (f := sched n) (M := M) (i := g.nm j) (e := (lv, g.nm (j + 1))) (r := []) (pp := []) hd hc hca
        have hg := (congrArg (fun q => goL (sched n) (g.nm j) q M []) dq).trans hg
        rw [sched_eq n hd hg]
        obtain ⟨b1, b2⟩ := chs_back (lv := lv) q C1 m1 da rfl
        refine ⟨b1, fun j' h' => (b2 j' h').trans (low j' h'), .inl ⟨j + 1, by omega, by omega, by rw [← ca, hca], fun i h1 h2 => by omega, rfl⟩⟩
      | false =>
        obtain ⟨i1, i2, i3⟩ := chain_turn n (j + 1) (M.put (g.nm j) { d with q := [] }) (by omega) (by omega) C1
        cases hs : sched n (M.put (g.nm j) { d with q := [] }) (g.nm (j + 1)) with
        | mk x M2 =>
          rw [hs] at i1 i2 i3
          have m2 : M2 (g.nm j) = some { d with q := [] } := (i2 j (by omega)).trans m1
          obtain ⟨b1, b2⟩ := chs_back (lv := lv) q i1 m2 da rfl
          have goes : sched (n + 1) M (g.nm j) = (x, fstep (g.nm j) M2 (lv, g.nm (j + 1))) := by
            cases x with
            | some x =>
              have hg := goL_some (f := sched n) (M := M) (i := g.nm j) (e := (lv, g.nm (j + 1))) (r := []) (pp := []) hd hc hca hs
              have hg := (congrArg (fun q => goL (sched n) (g.nm j) q M []) dq).trans hg
              rw [sched_eq n hd hg]; rfl
            | none =>
              have hg := goL_none (f := sched n) (M := M) (i := g.nm j) (e := (lv, g.nm (j + 1))) (r := []) (pp := []) hd hc hca hs
              have hg := (congrArg (fun q => goL (sched n) (g.nm j) q M []) dq).trans hg
              rw [sched_eq n hd (hg.trans goL_nil)]; rfl
          rw [goes]
          have aj : a (j + 1) = false := by rw [← ca, hca]
          refine ⟨b1, fun j' h' => (b2 j' h').trans ((i2 j' (by omega)).trans (low j' h')), ?_⟩
          rcases i3 with ⟨y, h1, h2, h3, h4, h5⟩ | ⟨h1, h2⟩
          · refine .inl ⟨y, by omega, h2, h3, fun i g1 g2 => ?_, h5⟩
            by_cases z : i = j + 1
            · subst z; exact aj
            · exact h4 i (by omega) g2
          · refine .inr ⟨fun i g1 g2 => ?_, h2⟩
            by_cases z : i = j + 1
            · subst z; exact aj
            · exact h1 i (by omega) g2
    · rw [if_neg q] at dq
      have hg : goL (sched n) (g.nm j) d.q M [] = (none, M, []) := by rw [dq]; rfl
      rw [sched_eq n hd hg]
      exact ⟨C, fun _ _ => rfl, .inr ⟨fun i h1 h2 => by omega, rfl⟩⟩
end
end Mine
end
section
open PySem PySem.W PyProof.Rows PySem.Calls
set_option linter.unusedVariables false
set_option Elab.async false
namespace Mine
noncomputable def num2 (ns : List Int) (k : Nat) : Int := ns.getD k (3 * k + 1)
noncomputable def nums2 (ns : List Int) : List Value := (List.range 12).map fun k => .int (num2 ns k) 0
theorem num2_get {ns : List Int} {j : Int} (h0 : 0 ≤ j) (h : j < ns.length) : ns[j.toNat]? = some (num2 ns j.toNat) := by
  have : j.toNat < ns.length := by omega
  unfold num2
  rw [List.getD_eq_getElem?_getD, List.getElem?_eq_getElem this]; rfl
theorem num2_big {ns : List Int} {j : Int} (h0 : 0 ≤ j) (h : ¬ j < ns.length) : num2 ns j.toNat = 3 * j + 1 := by
  have : ns.length ≤ j.toNat := by omega
  unfold num2
  rw [List.getD_eq_getElem?_getD, List.getElem?_eq_none this]
  show (3 * (j.toNat : Int) + 1) = _
  rw [Int.toNat_of_nonneg h0]
theorem nums2_get {ns : List Int} {k : Nat} (h : k < 12) : (nums2 ns)[k]? = some (.int (num2 ns k) 0) := by
  unfold nums2
  rw [List.getElem?_map, List.getElem?_range h]; rfl
noncomputable def many2 (ns : List Int) : Nat := (2 + (num2 ns 0 + 1) % 4).toNat
theorem many2_eq {ns : List Int} : ((many2 ns : Nat) : Int) = 2 + (num2 ns 0 + 1) % 4 := by unfold many2; omega
theorem many2_lo {ns : List Int} : 2 ≤ many2 ns := by have := @many2_eq ns; omega
theorem many2_hi {ns : List Int} : many2 ns ≤ 5 := by have := @many2_eq ns; omega
noncomputable def cNm (j : Nat) : Int := if j = 0 then 0 else if j % 2 = 1 then ((j + 1) / 2 : Nat) else (10 + j / 2 : Nat)
theorem cNm_odd {k : Nat} : cNm (2 * k + 1) = (k + 1 : Nat) := by
  unfold cNm; rw [if_neg (by omega), if_pos (by omega)]; congr 1; omega
theorem cNm_even {k : Nat} : cNm (2 * k + 2) = (10 + (k + 1) : Nat) := by
  unfold cNm; rw [if_neg (by omega), if_neg (by omega)]; congr 1; omega
theorem cNm_inj : ∀ i, i < 10 → ∀ j, j < 10 → cNm i = cNm j → i = j := by decide
noncomputable def gC (ns : List Int) : GG where
  m := 2 * many2 ns - 1
  nm := cNm
  ab := fun j => 2 * ((j - 1) / 2)
  wt := fun j => 1 + num2 ns ((j + 1) / 2) % 256
  ac := fun j => decide (j % 2 = 1)
  n0 := rfl
  inj := fun i j hi hj h => by
    have := @many2_hi ns
    exact cNm_inj i (by omega) j (by omega) h
  abl := fun j h => by show 2 * ((j - 1) / 2) < j; omega
  wl := fun j => by omega
  wh := fun j => by omega
  ml := by have := @many2_hi ns; omega
noncomputable def hNm (ns : List Int) (j : Nat) : Int := if j = 0 then 0 else 1 + (3 * ((j : Int) - 1) + num2 ns 6) % 7
theorem hNm_eq {ns : List Int} {k : Nat} : hNm ns (k + 1) = 1 + (3 * (k : Int) + num2 ns 6) % 7 := by
  unfold hNm; rw [if_neg (by omega)]; congr 3; omega
noncomputable def gH (ns : List Int) : GG where
  m := many2 ns
  nm := hNm ns
  ab := fun j => j - 1
  wt := fun j => 1 + num2 ns (6 + j) % 256
  ac := fun _ => false
  n0 := rfl
  inj := fun i j hi hj h => by
    have := @many2_hi ns
    unfold hNm at h
    split at h <;> split at h <;> omega
  abl := fun j h => by show j - 1 < j; omega
  wl := fun j => by omega
  wh := fun j => by omega
  ml := by have := @many2_hi ns; omega
noncomputable def names2 (ns : List Int) : List Value := (List.range (many2 ns)).map fun i => .int (hNm ns (i + 1)) 0
theorem names2_len {ns : List Int} : (names2 ns).length = many2 ns := by unfold names2; simp
theorem names2_get {ns : List Int} {k : Nat} (h : k < many2 ns) : (names2 ns)[k]? = some (.int (hNm ns (k + 1)) 0) := by
  unfold names2
  rw [List.getElem?_map, List.getElem?_range h]; rfl
noncomputable def dskG : Nat → Nat → Nat → Nat
  | 0, k, _ => k + 1
  | f + 1, k, q => if q % 2 = 0 then k + 1 else dskG f (k + 1) (q / 2)
noncomputable def dsk (n t : Nat) : Nat := dskG (n - 1) 0 t
theorem dskG_le : ∀ {f k q : Nat}, k + 1 ≤ dskG f k q ∧ dskG f k q ≤ k + f + 1
  | 0, k, q => ⟨Nat.le_refl _, by show k + 1 ≤ _; omega⟩
  | f + 1, k, q => by
    unfold dskG
    split
    · omega
    · have := @dskG_le f (k + 1) (q / 2); omega
theorem dsk_le {n t : Nat} (h : 1 ≤ n) : 1 ≤ dsk n t ∧ dsk n t ≤ n := by
  have := @dskG_le (n - 1) 0 t
  unfold dsk; omega
noncomputable def toggle (d : Int) (l : List Int) : List Int := if l.any (· == d) then l.eraseIdx (l.idxOf d) else l ++ [d]
noncomputable def awk (n : Nat) : Nat → List Int
  | 0 => []
  | t + 1 => toggle (dsk n t) (awk n t)
noncomputable def tops (P : List (List Int)) : List Int := P.map fun l => l.getLastD 0
noncomputable def toPeg (P : List (List Int)) (d : Int) : Nat := if d = 1 then ((tops P).idxOf d + 1) % 3 else 3 - (tops P).idxOf d - (tops P).idxOf 1
noncomputable def moved (P : List (List Int)) (d : Int) : List (List Int) :=
  let P1 := P.set ((tops P).idxOf d) (P.getD ((tops P).idxOf d) []).dropLast
  P1.set (toPeg P d) (P1.getD (toPeg P d) [] ++ [d])
noncomputable def pgs (n : Nat) : Nat → List (List Int)
  | 0 => [(List.range n).map (fun i : Nat => (n : Int) - i), [], []]
  | t + 1 => moved (pgs n t) (dsk n t)
noncomputable def hanOK (n t : Nat) : Bool :=
  let P := pgs n t
  let d : Int := dsk n t
  let h := (tops P).idxOf d
  let l := (tops P).idxOf 1
  P.length == 3 && decide (h < 3) && decide (l < 3) && (decide (d = 1) || decide (h ≠ l)) && decide ((P.getD h []).getLast? = some d) && decide (toPeg P d < 3) && decide (toPeg P d ≠ h) && !(decide (0 < (tops P).getD (toPeg P d) 0) && decide ((tops P).getD (toPeg P d) 0 < d)) && decide (awk n (t + 1) ≠ []) && decide ((P.getD 0 []).length ≤ 5 ∧ (P.getD 1 []).length ≤ 5 ∧ (P.getD 2 []).length ≤ 5) && decide ((awk n t).length ≤ 5) && decide (awk n t).Nodup && (awk n (t + 1)).all (fun x => decide (1 ≤ x) && decide (x ≤ n))
noncomputable def endOK (n : Nat) : Bool :=
  let P := pgs n (2 ^ n - 1)
  P.length == 3 && (P.getD 0 []).isEmpty && ((P.getD 1 []).isEmpty || (P.getD 2 []).isEmpty)
theorem han2 : ∀ t, t < 3 → hanOK 2 t = true := by decide +kernel
theorem han3 : ∀ t, t < 7 → hanOK 3 t = true := by decide +kernel
theorem han4 : ∀ t, t < 15 → hanOK 4 t = true := by decide +kernel
theorem han5 : ∀ t, t < 31 → hanOK 5 t = true := by decide +kernel
theorem han {n t : Nat} (h1 : 2 ≤ n) (h2 : n ≤ 5) (ht : t < 2 ^ n - 1) : hanOK n t = true := by
  rcases (by omega : n = 2 ∨ n = 3 ∨ n = 4 ∨ n = 5) with rfl | rfl | rfl | rfl
  · exact han2 t ht
  · exact han3 t ht
  · exact han4 t ht
  · exact han5 t ht
theorem hanEnd {n : Nat} (h1 : 2 ≤ n) (h2 : n ≤ 5) : endOK n = true := by
  rcases (by omega : n = 2 ∨ n = 3 ∨ n = 4 ∨ n = 5) with rfl | rfl | rfl | rfl <;> decide +kernel
end Mine
end
section
set_option linter.unusedVariables false
set_option Elab.async false
namespace Mine
section
variable {ns : List Int}
theorem gC_m : (gC ns).m = 2 * many2 ns - 1 := rfl
noncomputable def chC (i j : Nat) : List Nat := if j % 2 = 0 then (if j + 2 ≤ i then [j + 1, j + 2] else if j + 1 ≤ i then [j + 1] else []) else []
theorem clC : ∀ {i j : Nat}, (gC ns).cl i j = chC i j
  | 0, j => by
    unfold chC
    show [] = _
    split
    · rw [if_neg (by omega), if_neg (by omega)]
    · rfl
  | i + 1, j => by
    rw [GG.cl_succ, clC]
    show chC i j ++ (if 2 * ((i + 1 - 1) / 2) = j then [i + 1] else []) = chC (i + 1) j
    unfold chC
    by_cases e : j % 2 = 0
    · rw [if_pos e, if_pos e]
      by_cases a : j + 2 ≤ i
      · rw [if_pos a, if_neg (show ¬ 2 * ((i + 1 - 1) / 2) = j by omega), if_pos (show j + 2 ≤ i + 1 by omega)]; rfl
      · rw [if_neg a]
        by_cases b : j + 1 ≤ i
        · have : i = j + 1 := by omega
          subst this
          rw [if_pos b, if_pos (by omega), if_pos (by omega)]; rfl
        · rw [if_neg b]
          by_cases d : i = j
          · subst d
            rw [if_pos (by omega), if_neg (by omega), if_pos (by omega)]; rfl
          · rw [if_neg (by omega), if_neg (by omega), if_neg (by omega)]; rfl
    · rw [if_neg e, if_neg e, if_neg (by omega)]; rfl
theorem chC_eq {j : Nat} : (gC ns).ch (2 * many2 ns - 1) j = chC (2 * many2 ns - 1) j := by
  unfold GG.ch
  rw [clC]
  unfold chC
  split
  · split
    · show GG.srt cNm [j + 1, j + 2] = _
      obtain ⟨k, rfl⟩ : ∃ k, j = 2 * k := ⟨j / 2, by omega⟩
      have h2 := @many2_hi ns
      show (if cNm (2 * k + 1) < cNm (2 * k + 2) then [2 * k + 1, 2 * k + 2] else [2 * k + 2, 2 * k + 1]) = _
      rw [cNm_odd, cNm_even, if_pos (by omega)]
    · split <;> rfl
  · rfl
noncomputable def rrC (ns : List Int) : RR where
  m := 2 * many2 ns - 1
  nm := cNm
  ch := fun v => chC (2 * many2 ns - 1) v
  pr := fun j => 2 * ((j - 1) / 2)
  pos := fun j => if j % 2 = 1 then 0 else 1
  W := fun v => 1 + num2 ns (v / 2 + 1) % 256
  act := fun j => decide (j % 2 = 1)
  liv := fun _ => true
  inj := (gC ns).inj
  chp := fun i hi p c h => by
    unfold chC at h
    split at h
    · split at h
      · match p, h with
        | 0, h => cases h; refine ⟨by omega, by rw [if_pos (by omega)], by omega, by omega⟩
        | 1, h => cases h; refine ⟨by omega, by rw [if_neg (by omega)], by omega, by omega⟩
        | p + 2, h => simp at h
      · split at h
        · match p, h with
          | 0, h => cases h; refine ⟨by omega, by rw [if_pos (by omega)], by omega, by omega⟩
          | p + 1, h => simp at h
        · simp at h
    · simp at h
  prl := fun j h1 h2 => by
    refine ⟨by omega, ?_⟩
    unfold chC
    rw [if_pos (by omega)]
    by_cases e : j % 2 = 1
    · rw [if_pos e]
      split
      · show some (2 * ((j - 1) / 2) + 1) = some j
        congr 1; omega
      · rw [if_pos (by omega)]
        show some (2 * ((j - 1) / 2) + 1) = some j
        congr 1; omega
    · rw [if_neg e, if_pos (by omega)]
      show some (2 * ((j - 1) / 2) + 2) = some j
      congr 1; omega
  srt := fun i hi p p' c c' hp h1 h2 => by
    have hm := @many2_hi ns
    unfold chC at h1 h2
    split at h1
    · rename_i e
      rw [if_pos e] at h2
      split at h1
      · rename_i e2
        rw [if_pos e2] at h2
        obtain ⟨k, rfl⟩ : ∃ k, i = 2 * k := ⟨i / 2, by omega⟩
        match p, p', h1, h2, hp with
        | 0, 1, h1, h2, _ =>
          cases h1; cases h2
          rw [cNm_odd, cNm_even]; omega
        | 0, p' + 2, h1, h2, _ => simp at h2
        | 1, p' + 2, h1, h2, _ => simp at h2
        | p + 2, _, h1, h2, _ => simp at h1
      · rename_i e2
        rw [if_neg e2] at h2
        split at h2
        · match p', h2, hp with
          | p' + 1, h2, _ => simp at h2
        · simp at h2
    · simp at h1
  wlo := fun i => by show 1 ≤ 1 + num2 ns (i / 2 + 1) % 256; omega
  whi := fun i => by show 1 + num2 ns (i / 2 + 1) % 256 ≤ 256; omega
  la := fun _ _ _ => rfl
  ln := fun i hi ha => ⟨fun _ => by
    have ha' : ¬ i % 2 = 1 := of_decide_eq_false ha
    refine ⟨i + 1, ?_, rfl⟩
    unfold chC
    have hi' : i ≤ 2 * many2 ns - 1 := hi
    rw [if_pos (show i % 2 = 0 by omega)]
    split
    · exact .head _
    · have lo := @many2_lo ns
      rw [if_pos (show i + 1 ≤ 2 * many2 ns - 1 by omega)]; exact .head _, fun _ => rfl⟩
theorem cnt_zero' {N p : Nat} (h : p < N) : cnt N 0 p = 0 := by
  unfold cnt; rw [Nat.div_eq_of_lt]; omega
theorem ent_zero' {t : RR} {i : Nat} : t.ent i 0 (t.ch i).length = (t.ch i).map fun c => (0, t.nm c) := by
  unfold RR.ent
  refine List.ext_getElem? fun k => ?_
  rw [List.getElem?_map, List.getElem?_map]
  by_cases hk : k < (t.ch i).length
  · rw [List.getElem?_range hk, List.getElem?_eq_getElem hk]
    show some (t.entry i (0 + k)) = some (0, t.nm _)
    unfold RR.entry RR.at
    rw [Nat.zero_add, Nat.div_eq_of_lt hk, Nat.mod_eq_of_lt hk, List.getD_eq_getElem?_getD, List.getElem?_eq_getElem hk]; rfl
  · rw [List.getElem?_eq_none (by rw [List.length_range]; omega), List.getElem?_eq_none (by omega)]; rfl
theorem startC : (rrC ns).Inv 0 ((gC ns).M (2 * many2 ns - 1)) := by
  have a := (GG.M_at (g := gC ns) (i := 2 * many2 ns - 1) (Nat.le_refl _)).1
  refine ⟨fun _ => 0, fun j hj => ⟨_, a j hj, ?_, fun h1 => ⟨?_, ?_⟩⟩, fun j d _ hj hd => ?_, _, RR.Cn.start fun k => ⟨0, (Nat.zero_mul _).symm⟩⟩
  · show (if j = 0 then false else decide (j % 2 = 1)) = decide (j % 2 = 1)
    split
    · rename_i z; subst z; rfl
    · rfl
  · show (if j = 0 then 1 else 1 + num2 ns ((j + 1) / 2) % 256) = 1 + num2 ns (2 * ((j - 1) / 2) / 2 + 1) % 256
    rw [if_neg (by omega), show 2 * ((j - 1) / 2) / 2 + 1 = (j + 1) / 2 by omega]
  · show (0 : Int) = RR.DF (rrC ns) _ j
    unfold RR.DF
    have hp := ((rrC ns).prl j h1 hj).2
    rw [cnt_zero' (List.getElem?_eq_some_iff.mp hp).1]; rfl
  · have hd' : (gC ns).M (2 * many2 ns - 1) ((gC ns).nm j) = some d := hd
    rw [a j hj] at hd'
    cases hd'
    rw [ent_zero']
    show ((gC ns).ch (2 * many2 ns - 1) j).map _ = _
    rw [chC_eq]; rfl
noncomputable def CM (ns : List Int) : Nat → Mo
  | 0 => (gC ns).M (2 * many2 ns - 1)
  | t + 1 => (sched 11 (CM ns t) 0).2
theorem srv_dsk : ∀ (f k q : Nat) {y : Nat}, k + f + 1 = many2 ns → RR.Srv (rrC ns) (2 * k) q y → y = 2 * dskG f k q - 1
  | 0, k, q, y, hk, h => by
    have ab : (rrC ns).able (2 * k) = [2 * k + 1] := by
      unfold RR.able
      show (chC (2 * many2 ns - 1) (2 * k)).filter _ = _
      unfold chC
      rw [if_pos (by omega), if_neg (by omega), if_pos (by omega)]; rfl
    cases h with
    | hit h1 h2 =>
      rw [ab] at h1
      have : q % 1 = 0 := by omega
      rw [show ([2 * k + 1] : List Nat).length = 1 from rfl, this] at h1
      cases h1
      show _ = 2 * (k + 1) - 1; omega
    | go h1 h2 h3 =>
      rw [ab] at h1
      have : q % 1 = 0 := by omega
      rw [show ([2 * k + 1] : List Nat).length = 1 from rfl, this] at h1
      cases h1
      have h2' := of_decide_eq_false h2
      omega
  | f + 1, k, q, y, hk, h => by
    have ab : (rrC ns).able (2 * k) = [2 * k + 1, 2 * k + 2] := by
      unfold RR.able
      show (chC (2 * many2 ns - 1) (2 * k)).filter _ = _
      unfold chC
      rw [if_pos (by omega), if_pos (by omega)]; rfl
    have ln : ([2 * k + 1, 2 * k + 2] : List Nat).length = 2 := rfl
    unfold dskG
    cases h with
    | hit h1 h2 =>
      rw [ab, ln] at h1
      rcases Nat.mod_two_eq_zero_or_one q with e | e
      · rw [e] at h1; cases h1
        rw [if_pos e]; omega
      · rw [e] at h1; cases h1
        have h2' := of_decide_eq_true h2
        omega
    | go h1 h2 h3 =>
      rw [ab, ln] at h1
      rw [ab, ln] at h3
      rcases Nat.mod_two_eq_zero_or_one q with e | e
      · rw [e] at h1; cases h1
        have h2' := of_decide_eq_false h2
        omega
      · rw [e] at h1; cases h1
        rw [if_neg (by omega)]
        exact srv_dsk f (k + 1) (q / 2) (by omega) h3
theorem told_comb : ∀ t, (rrC ns).Inv t (CM ns t) ∧ (sched 11 (CM ns t) 0).1 = some (dsk (many2 ns) t : Int) := by
  have lo := @many2_lo ns
  have hi := @many2_hi ns
  have go : ∀ {T : Nat} {M : Mo}, (rrC ns).Inv T M → (sched 11 M 0).1 = some (dsk (many2 ns) T : Int) ∧ (rrC ns).Inv (T + 1) (sched 11 M 0).2 := by
    intro T M h
    have := RR.turn (n := 11) h (by show 2 * many2 ns - 1 < 11; omega) rfl rfl
    rw [show (rrC ns).nm 0 = 0 from rfl] at this
    obtain ⟨⟨y, h1, h2⟩, h3⟩ := this
    refine ⟨?_, h3⟩
    have e := srv_dsk (many2 ns - 1) 0 T (by omega) h2
    rw [h1]
    show some (cNm y) = some _
    have d1 := dsk_le (n := many2 ns) (t := T) (by omega)
    obtain ⟨k, hk⟩ : ∃ k, dsk (many2 ns) T = k + 1 := ⟨dsk (many2 ns) T - 1, by omega⟩
    have e2 : y = 2 * k + 1 := by
      rw [e]
      show 2 * dsk (many2 ns) T - 1 = _
      omega
    rw [e2, cNm_odd, hk]
  have inv : ∀ T, (rrC ns).Inv T (CM ns T) := by
    intro T
    induction T with
    | zero => exact startC
    | succ T ih => exact (go ih).2
  exact fun T => ⟨inv T, (go (inv T)).1⟩
theorem CM_good : ∀ (t : Nat), OkM (gC ns).rk (CM ns t) ∧ ∃ d, CM ns t 0 = some d ∧ d.act = false
  | 0 => ⟨GG.M_ok (Nat.le_refl _), by
    have a := (GG.M_at (g := gC ns) (i := 2 * many2 ns - 1) (Nat.le_refl _)).1 0 (Nat.zero_le _)
    exact ⟨_, a, rfl⟩⟩
  | t + 1 => by
    obtain ⟨a, d, hd, ha⟩ := CM_good t
    have R := Res.sched 11 a ⟨d, hd⟩ (by have := GG.rk_le (g := gC ns) (x := 0); have := @many2_hi ns; rw [gC_m] at *; omega)
    obtain ⟨d', h1, _, _, _, h2⟩ := R.like.fw 0 d hd
    exact ⟨R.ok, d', h1, by rw [h2, ha]⟩
noncomputable def HM (ns : List Int) : Nat → Mo
  | 0 => (sched 11 ((gH ns).M (many2 ns)) 0).2
  | t + 1 => (sched 11 (actv (HM ns t) (hNm ns (dsk (many2 ns) t)) (!((awk (many2 ns) t).any (· == (dsk (many2 ns) t : Int))))) 0).2
noncomputable def awA (ns : List Int) (t j : Nat) : Bool := decide ((j : Int) ∈ awk (many2 ns) t)
theorem clH : ∀ {i j : Nat}, (gH ns).cl i j = if j + 1 ≤ i then [j + 1] else []
  | 0, j => by rw [if_neg (by omega)]; rfl
  | i + 1, j => by
    rw [GG.cl_succ, clH]
    show _ ++ (if i + 1 - 1 = j then [i + 1] else []) = _
    by_cases e : i = j
    · subst e
      rw [if_neg (by omega), if_pos (by omega), if_pos (by omega)]; rfl
    · by_cases a : j + 1 ≤ i
      · rw [if_pos a, if_neg (by omega), if_pos (by omega)]; rfl
      · rw [if_neg a, if_neg (by omega), if_neg (by omega)]; rfl
theorem startH : ChS (gH ns) (fun _ => false) 0 ((gH ns).M (many2 ns)) := by
  intro j _ hj
  have a := (GG.M_at (g := gH ns) (i := many2 ns) (Nat.le_refl _)).1 j hj
  refine ⟨_, a, fun h1 => ?_, 0, ?_⟩
  · show (if j = 0 then false else false) = false
    split <;> rfl
  · show ((gH ns).ch (many2 ns) j).map _ = if j < many2 ns then _ else _
    unfold GG.ch
    rw [clH]
    by_cases q : j < many2 ns
    · rw [if_pos (show j + 1 ≤ many2 ns from q), if_pos q]; rfl
    · rw [if_neg (show ¬ j + 1 ≤ many2 ns from q), if_neg q]; rfl
theorem ChS.congr {g : GG} {a a' : Nat → Bool} {k : Nat} {M : Mo} (h : ChS g a k M) (e : ∀ j, 1 ≤ j → j ≤ g.m → a j = a' j) : ChS g a' k M := fun j h1 h2 => by
  obtain ⟨d, e1, e2, e3⟩ := h j h1 h2
  exact ⟨d, e1, fun z => (e2 z).trans (e j z h2), e3⟩
theorem ChS.act {g : GG} {a : Nat → Bool} {M : Mo} (h : ChS g a 0 M) {x : Nat} {b : Bool} (h1 : 1 ≤ x) (h2 : x ≤ g.m) : ChS g (fun j => if j = x then b else a j) 0 (actv M (g.nm x) b) := fun j g1 g2 => by
  obtain ⟨d, e1, e2, e3⟩ := h j g1 g2
  refine ⟨_, GG.actv_at e1, fun z => ?_, ?_⟩
  · show _ = (if j = x then b else a j)
    by_cases q : j = x
    · subst q; rw [if_pos rfl, if_pos rfl]
    · rw [if_neg q, if_neg fun y => q (g.inj _ _ g2 h2 y)]; exact e2 z
  · split <;> exact e3
theorem rkH : (gH ns).rk 0 < 11 := by have := GG.rk_le (g := gH ns) (x := 0); have := @many2_hi ns; rw [show (gH ns).m = many2 ns from rfl] at *; omega
theorem vainH : OkM (gH ns).rk ((gH ns).M (many2 ns)) ∧ (sched 11 ((gH ns).M (many2 ns)) 0).1 = none ∧ ∃ d, (gH ns).M (many2 ns) 0 = some d ∧ d.act = false := by
  have hi := @many2_hi ns
  refine ⟨GG.M_ok (Nat.le_refl _), ?_, ?_⟩
  · have := (chain_turn 11 0 _ (show many2 ns - 0 < 11 by omega) (Nat.zero_le _) (startH (ns := ns))).2.2
    rw [show (gH ns).nm 0 = 0 from rfl] at this
    rcases this with ⟨y, h1, h2, h3, _⟩ | ⟨_, h⟩
    · cases h3
    · exact h
  · have a := (GG.M_at (g := gH ns) (i := many2 ns) (Nat.le_refl _)).1 0 (Nat.zero_le _)
    exact ⟨_, a, rfl⟩
theorem mem_any {l : List Int} {d : Int} : l.any (· == d) = decide (d ∈ l) := by
  by_cases q : d ∈ l
  · rw [decide_eq_true q, List.any_eq_true]; exact ⟨d, q, by simp⟩
  · rw [decide_eq_false q, List.any_eq_false]
    intro x hx z
    exact q ((by simpa using z : x = d) ▸ hx)
theorem toggle_mem {d x : Int} {l : List Int} (nd : l.Nodup) : x ∈ toggle d l ↔ if x = d then d ∉ l else x ∈ l := by
  unfold toggle
  rw [mem_any]
  by_cases q : d ∈ l
  · rw [decide_eq_true q, if_pos rfl, ← List.erase_eq_eraseIdx_of_idxOf rfl, nd.mem_erase_iff]
    by_cases e : x = d
    · subst e; simp [q]
    · simp [e]
  · rw [decide_eq_false q, if_neg (by simp), List.mem_append, List.mem_singleton]
    by_cases e : x = d
    · subst e; simp [q]
    · simp [e]
end
end Mine
end
section
set_option linter.unusedVariables false
set_option Elab.async false
namespace Mine
structure Han (n t : Nat) : Prop where
  len : (pgs n t).length = 3
  home : (tops (pgs n t)).idxOf (dsk n t : Int) < 3
  least : (tops (pgs n t)).idxOf 1 < 3
  other : (dsk n t : Int) = 1 ∨ (tops (pgs n t)).idxOf (dsk n t : Int) ≠ (tops (pgs n t)).idxOf 1
  top : ((pgs n t).getD ((tops (pgs n t)).idxOf (dsk n t : Int)) []).getLast? = some (dsk n t : Int)
  to : toPeg (pgs n t) (dsk n t) < 3
  away : toPeg (pgs n t) (dsk n t) ≠ (tops (pgs n t)).idxOf (dsk n t : Int)
  fits : ¬ (0 < (tops (pgs n t)).getD (toPeg (pgs n t) (dsk n t)) 0 ∧ (tops (pgs n t)).getD (toPeg (pgs n t) (dsk n t)) 0 < (dsk n t : Int))
  some : awk n (t + 1) ≠ []
  l0 : ((pgs n t).getD 0 []).length ≤ 5
  l1 : ((pgs n t).getD 1 []).length ≤ 5
  l2 : ((pgs n t).getD 2 []).length ≤ 5
  la : (awk n t).length ≤ 5
  nd : (awk n t).Nodup
  rng : ∀ x ∈ awk n (t + 1), 1 ≤ x ∧ x ≤ n
theorem han_of {n t : Nat} (h1 : 2 ≤ n) (h2 : n ≤ 5) (ht : t < 2 ^ n - 1) : Han n t := by
  have h := han h1 h2 ht
  unfold hanOK at h
  simp only [Bool.and_eq_true, Bool.or_eq_true, Bool.not_eq_true', Bool.and_eq_false_iff, decide_eq_true_eq, decide_eq_false_iff_not, beq_iff_eq, List.all_eq_true] at h
  obtain ⟨⟨⟨⟨⟨⟨⟨⟨⟨⟨⟨⟨a1, a2⟩, a3⟩, a4⟩, a5⟩, a6⟩, a7⟩, a8⟩, a9⟩, a10⟩, a11⟩, a12⟩, a13⟩ := h
  exact ⟨a1, a2, a3, a4, a5, a6, a7, fun z => by rcases a8 with q | q; exact q z.1; exact q z.2, a9, a10.1, a10.2.1, a10.2.2, a11, a12, a13⟩
theorem hanEnd_of {n : Nat} (h1 : 2 ≤ n) (h2 : n ≤ 5) : ∃ p1 p2, pgs n (2 ^ n - 1) = [[], p1, p2] ∧ (p1 = [] ∨ p2 = []) := by
  have h := hanEnd h1 h2
  unfold endOK at h
  simp only [Bool.and_eq_true, Bool.or_eq_true, beq_iff_eq, List.isEmpty_iff] at h
  obtain ⟨⟨a1, a2⟩, a3⟩ := h
  match hp : pgs n (2 ^ n - 1), a1 with
  | [x, y, z], _ =>
    rw [hp] at a2 a3
    have : x = [] := a2
    subst this
    exact ⟨y, z, rfl, a3⟩
section
variable {ns : List Int}
theorem OkM.acts {rk : Int → Nat} {M : Mo} (o : OkM rk M) (i : Int) (b : Bool) : OkM rk (Mine.actv M i b) := by
  unfold Mine.actv
  cases q : M i with
  | none => exact o
  | some n => exact o.put (o.ok i n q)
noncomputable def HA (ns : List Int) (t : Nat) : Mo := actv (HM ns t) (hNm ns (dsk (many2 ns) t)) (!((awk (many2 ns) t).any (· == (dsk (many2 ns) t : Int))))
theorem HM_succ {t : Nat} : HM ns (t + 1) = (sched 11 (HA ns t) 0).2 := rfl
theorem HA_of {t : Nat} (ht : t < 2 ^ many2 ns - 1) (C : ChS (gH ns) (awA ns t) 0 (HM ns t)) : ChS (gH ns) (awA ns (t + 1)) 0 (HA ns t) := by
  have lo := @many2_lo ns
  have hi := @many2_hi ns
  have hf := han_of lo hi ht
  have d1 := dsk_le (n := many2 ns) (t := t) (by omega)
  refine (C.act (b := !((awk (many2 ns) t).any (· == (dsk (many2 ns) t : Int)))) d1.1 d1.2).congr fun j h1 h2 => ?_
  unfold awA
  rw [mem_any]
  have e := @toggle_mem (dsk (many2 ns) t) j (awk (many2 ns) t) hf.nd
  show _ = decide ((j : Int) ∈ toggle (dsk (many2 ns) t) (awk (many2 ns) t))
  by_cases q : j = dsk (many2 ns) t
  · subst q
    have e' : ((dsk (many2 ns) t : Nat) : Int) ∈ toggle (dsk (many2 ns) t) (awk (many2 ns) t) ↔ ¬ ((dsk (many2 ns) t : Nat) : Int) ∈ awk (many2 ns) t := e.trans (iff_of_eq (if_pos rfl))
    rw [if_pos rfl]
    by_cases z : ((dsk (many2 ns) t : Nat) : Int) ∈ awk (many2 ns) t
    · rw [decide_eq_true z, decide_eq_false fun y => e'.mp y z]; rfl
    · rw [decide_eq_false z, decide_eq_true (e'.mpr z)]; rfl
  · have e' : (j : Int) ∈ toggle (dsk (many2 ns) t) (awk (many2 ns) t) ↔ (j : Int) ∈ awk (many2 ns) t := e.trans (iff_of_eq (if_neg (fun z => q (by omega))))
    rw [if_neg q, decide_eq_decide.mpr e']
theorem HM_inv : ∀ t, t ≤ 2 ^ many2 ns - 1 → OkM (gH ns).rk (HM ns t) ∧ (∃ d, HM ns t 0 = some d ∧ d.act = false) ∧ ChS (gH ns) (awA ns t) 0 (HM ns t)
  | 0, _ => by
    have hi := @many2_hi ns
    obtain ⟨a, -, d, hd, ha⟩ := vainH (ns := ns)
    have R := Res.sched 11 a ⟨d, hd⟩ rkH
    obtain ⟨d', h1, _, _, _, h2⟩ := R.like.fw 0 d hd
    have c := (chain_turn 11 0 _ (show many2 ns - 0 < 11 by omega) (Nat.zero_le _) (startH (ns := ns))).1
    rw [show (gH ns).nm 0 = 0 from rfl] at c
    exact ⟨R.ok, ⟨d', h1, by rw [h2, ha]⟩, c.congr fun j _ _ => by unfold awA; exact (decide_eq_false (by intro z; cases z)).symm⟩
  | t + 1, h => by
    have hi := @many2_hi ns
    obtain ⟨a, ⟨d, hd, ha⟩, C⟩ := HM_inv t (by omega)
    have C1 := HA_of (by omega) C
    have ok1 : OkM (gH ns).rk (HA ns t) := a.acts _ _
    have hd1 : ∃ d, HA ns t 0 = some d ∧ d.act = false := by
      refine ⟨d, ?_, ha⟩
      have d1 := dsk_le (n := many2 ns) (t := t) (by have := @many2_lo ns; omega)
      have := GG.actv_at (i := hNm ns (dsk (many2 ns) t)) (b := !((awk (many2 ns) t).any (· == (dsk (many2 ns) t : Int)))) hd
      rw [if_neg] at this
      · exact this
      · intro z
        have := GG.nm_ne (g := gH ns) d1.1 d1.2
        exact this z.symm
    obtain ⟨d1, hd1, ha1⟩ := hd1
    have R := Res.sched 11 ok1 ⟨d1, hd1⟩ rkH
    obtain ⟨d', h1, _, _, _, h2⟩ := R.like.fw 0 d1 hd1
    have c := (chain_turn 11 0 _ (show many2 ns - 0 < 11 by omega) (Nat.zero_le _) C1).1
    rw [show (gH ns).nm 0 = 0 from rfl] at c
    exact ⟨R.ok, ⟨d', h1, by rw [h2, ha1]⟩, c⟩
theorem HA_good {t : Nat} (ht : t < 2 ^ many2 ns - 1) : OkM (gH ns).rk (HA ns t) ∧ (∃ d, HA ns t 0 = some d ∧ d.act = false) ∧ ∃ d, HM ns t (hNm ns (dsk (many2 ns) t)) = some d := by
  obtain ⟨a, ⟨d, hd, ha⟩, C⟩ := HM_inv (ns := ns) t (by omega)
  have d1 := dsk_le (n := many2 ns) (t := t) (by have := @many2_lo ns; omega)
  refine ⟨a.acts _ _, ⟨d, ?_, ha⟩, ?_⟩
  · have := GG.actv_at (i := hNm ns (dsk (many2 ns) t)) (b := !((awk (many2 ns) t).any (· == (dsk (many2 ns) t : Int)))) hd
    rw [if_neg] at this
    · exact this
    · intro z
      have := GG.nm_ne (g := gH ns) d1.1 d1.2
      exact this z.symm
  · obtain ⟨d2, e, -⟩ := C _ (Nat.zero_le _) d1.2
    exact ⟨d2, e⟩
theorem told_chain {t : Nat} (ht : t < 2 ^ many2 ns - 1) {m : Int} (h1 : m ∈ awk (many2 ns) (t + 1)) (h2 : ∀ a ∈ awk (many2 ns) (t + 1), m ≤ a) :
    ∃ y : Nat, m = y ∧ 1 ≤ y ∧ y ≤ many2 ns ∧ (sched 11 (HA ns t) 0).1 = some (hNm ns y) := by
  have hi := @many2_hi ns
  have hf := han_of (@many2_lo ns) hi ht
  have C1 := HA_of ht (HM_inv (ns := ns) t (by omega)).2.2
  have f := (chain_turn 11 0 _ (show many2 ns - 0 < 11 by omega) (Nat.zero_le _) C1).2.2
  rw [show (gH ns).nm 0 = 0 from rfl] at f
  obtain ⟨r1, r2⟩ := hf.rng m h1
  obtain ⟨k, rfl⟩ : ∃ k : Nat, m = k := ⟨m.toNat, by omega⟩
  rcases f with ⟨y, g1, g2, g3, g4, g5⟩ | ⟨g1, -⟩
  · have gy : (y : Int) ∈ awk (many2 ns) (t + 1) := of_decide_eq_true g3
    have := h2 y gy
    have ky : k = y := by
      by_cases q : k < y
      · have := of_decide_eq_false (g4 k (by omega) q)
        exact absurd h1 this
      · omega
    subst ky
    exact ⟨k, rfl, by omega, g2, g5⟩
  · have := of_decide_eq_false (g1 k (by omega) (by show k ≤ many2 ns; omega))
    exact absurd h1 this
end
end Mine
end
section
open PySem PySem.W PyProof.Rows PySem.Calls
set_option linter.unusedVariables false
set_option Elab.async false
namespace Mine
theorem join_assoc {F G H : AH} : join (join F G) H = join F (join G H) := by
  funext a; unfold join; cases F a <;> rfl
theorem join_swap {F G1 G2 : AH} (d1 : Dj F G1) (d2 : Dj (join F G1) G2) : join (join F G1) G2 = join (join F G2) G1 ∧ Dj F G2 ∧ Dj (join F G2) G1 := by
  refine ⟨?_, fun a o h => (join_none (d2 a o h)).1, fun a o h => ?_⟩
  · funext a
    unfold join
    cases hf : F a with
    | some o => rfl
    | none =>
      cases h1 : G1 a with
      | none => simp only; cases G2 a <;> rfl
      | some o =>
        cases h2 : G2 a with
        | none => rfl
        | some o2 => have := (join_none (d2 a o2 h2)).2; rw [h1] at this; cases this
  · have f := d1 a o h
    cases h2 : G2 a with
    | none => rw [join_n f]; exact h2
    | some o2 => have := (join_none (d2 a o2 h2)).2; rw [h] at this; cases this
theorem Dj.joinl {F G H : AH} (d1 : Dj F H) (d2 : Dj G H) : Dj (join F G) H := fun a o h => by rw [join_n (d1 a o h)]; exact d2 a o h
theorem Dj.joinr {F G H : AH} (d1 : Dj F G) (d2 : Dj F H) : Dj F (join G H) := fun a o h => by
  cases q : G a with
  | some x => exact d1 a x q
  | none => rw [join_n q] at h; exact d2 a o h
theorem Dj.of_l {F G H : AH} (d : Dj (join F G) H) : Dj F H := fun a o h => (join_none (d a o h)).1
theorem Dj.of_r {F G H : AH} (d : Dj (join F G) H) : Dj G H := fun a o h => (join_none (d a o h)).2
theorem Dj.to_l {F G H : AH} (d : Dj F (join G H)) : Dj F G := fun a o h => d a o (join_l h)
noncomputable def ksG (g : GG) (i : Nat) : List Int := (List.range (i + 1)).map g.nm
theorem ksG_len {g : GG} {i : Nat} : (ksG g i).length = i + 1 := by unfold ksG; simp
theorem ksG_succ {g : GG} {i : Nat} : ksG g i ++ [g.nm (i + 1)] = ksG g (i + 1) := by
  unfold ksG; rw [List.range_succ (n := i + 1), List.map_append]; rfl
theorem ksG_zero {g : GG} : ksG g 0 = [0] := by unfold ksG; show [g.nm 0] = _; rw [g.n0]
section
variable {prog : Program} {w : World} {K : Frag} {c : Cx prog w K} {envs outer : List Env} {env : Env} {F G H : AH} {A : Around} {E : Value → Shared → Prop} {s : Shared}
noncomputable def TurnAt (c : Cx prog w K) (envs : List Env) (L : Nat) (F : AH) (I : Nat → List (Str × Value) → AH → Prop) (i : Nat) (s : Shared) : Prop :=
  ∃ l G, I i l G ∧ Dj F G ∧ St c envs (join (upd F L (.ns l)) G) s
theorem for_tree {x : Str} {px : Pos} {body orelse : List Stmt} {it L : Nat} {l : List (Str × Value)} {R : Result → Shared → Prop} {P : AH → Prop} {xs : List Value} {ao : Nat → AO} (row : Row prog w P xs ao)
    (I : Nat → List (Str × Value) → AH → Prop) (S : St c envs (upd (join F G) it (ao 0)) s) (n : join F G it = none) (hL : F L = some (.ns l)) (fr : Frs envs F) (dj : Dj F G) (hI : I 0 l G)
    (hP : ∀ i l G, I i l G → Dj F G → P (join (upd F L (.ns l)) G)) (hh : A.handled = none)
    (turn : ∀ (i : Nat) (F2 : AH) (l : List (Str × Value)) (G' : AH) (s' : Shared) (y : Value), I i l G' → xs[i]? = some y → Kp L F F2 → F2 L = some (.ns ((x, y) :: l)) → Dj F2 G' → Frs envs F2 → St c envs (join F2 G') s' → ∀ (QB : Flow → Shared → Prop) (EB : Value → Shared → Prop), (∀ f s₃, (match f with
          | .next | .cont => TurnAt c envs L F2 I (i + 1) s₃
          | .brk => R (.ok .next) s₃
          | .ret v => R (.ok (.ret v)) s₃) → QB f s₃) →
      wpAny (model prog w) A (execs body env) QB EB s')
    (fin : ∀ l G s', I xs.length l G → Dj F G → St c envs (join (upd F L (.ns l)) G) s' → wpAny (model prog w) A (execs orelse env) (fun f s₃ => R (.ok f) s₃) (notedBy (model prog w) A env fun e s' => R (.error e) s') s')
    (hloc : env.locals = L := by rfl) (hk : env.scope.kind = .function := by rfl) (hl : env.kindOf x = some .local := by rfl) :
    codeAny (model prog w) A (.forLoop (.Name x px) (.ref it) body orelse env) R s := by
  obtain ⟨fi, gi⟩ := join_none n
  have nL : L ≠ it := ne_fresh fi hL
  have e0 : join F G = join (upd F L (.ns l)) G := by rw [upd_id hL]
  refine for_row row (fun i Hc => ∃ l G, I i l G ∧ Dj F G ∧ Hc = join (upd F L (.ns l)) G) S n ⟨l, G, hI, dj, e0⟩ ?_ (fun _ _ _ => .inl hh) ?_ ?_
  · rintro i _ ⟨l', G', h1, h2, rfl⟩; exact hP i l' G' h1 h2
  · rintro i _ s' v y ⟨l', G', h1, h2, rfl⟩ hit hy hv S'
    obtain ⟨fi', gi'⟩ := join_none hit
    refine wpAny_assign_Name (stv S' (upd_other nL (join_l (upd_self ..))) hv (fun s4 S4 => ?_) hloc hk hl)
    have e1 : upd (upd (join (upd F L (.ns l')) G') it (ao (i + 1))) L (.ns ((x, y) :: l')) = join (upd (upd F it (ao (i + 1))) L (.ns ((x, y) :: l'))) G' := by
      rw [upd_join, upd_join, upd_comm (a := L) (b := it) nL, upd_upd]
    rw [e1] at S4
    have d2 : Dj (upd (upd F it (ao (i + 1))) L (.ns ((x, y) :: l'))) G' := (h2.l gi').l (h2.has hL)
    refine wpAny_mono (turn i (upd (upd F it (ao (i + 1))) L (.ns ((x, y) :: l'))) l' G' s4 y h1 hy (fun a o n h => upd_other n (upd_other (ne_fresh fi h) h)) (upd_self ..) d2 ((fr.fresh fi).ns (upd_other nL hL)) S4 _ _ fun _ _ x => x) (fun f s5 h5 => ?_) fun _ _ x => x
    have back : TurnAt c envs L (upd (upd F it (ao (i + 1))) L (.ns ((x, y) :: l'))) I (i + 1) s5 → RowAt c envs (fun i Hc => ∃ l G, I i l G ∧ Dj F G ∧ Hc = join (upd F L (.ns l)) G) ao it (i + 1) s5 := by
      rintro ⟨l3, G3, j1, j2, S5⟩
      rw [upd_upd] at S5
      have d3 : Dj (upd (upd F it (ao (i + 1))) L (.ns l3)) G3 := by
        have := j2.l (o := .ns l3) (j2.has (upd_self ..))
        rwa [upd_upd] at this
      obtain ⟨b1, b2, b3⟩ := join_back fi nL d3
      rw [b1] at S5
      refine RowAt.mk ⟨l3, G3, j1, fun a o h => ?_, rfl⟩ b2 S5
      have := b3 a o h
      exact none_up this
    cases f with
    | next => exact back h5
    | cont => exact back h5
    | brk => exact h5
    | ret v => exact h5
  · rintro _ s' ⟨l', G', h1, h2, rfl⟩ S'
    exact fin l' G' s' h1 h2 S'
end
end Mine
end
section
open PySem PySem.W PyProof.Rows PySem.Calls
set_option linter.unusedVariables false
set_option Elab.async false
namespace Mine
theorem idx_at {k : Int} : ∀ {l : List Int}, k ∈ l → l[l.idxOf k]? = some k ∧ ∀ i, i < l.idxOf k → l[i]? ≠ some k
  | [], h => by cases h
  | x :: r, h => by
    by_cases q : x = k
    · subst q
      rw [List.idxOf_cons_self]
      exact ⟨rfl, fun i hi => by omega⟩
    · have hr : k ∈ r := by
        rcases List.mem_cons.mp h with z | z
        · exact absurd z.symm q
        · exact z
      have e : (x :: r).idxOf k = r.idxOf k + 1 := by
        rw [List.idxOf_cons, show (x == k) = false by simpa using q]; rfl
      rw [e]
      obtain ⟨a, b⟩ := idx_at hr
      refine ⟨a, fun i hi => ?_⟩
      cases i with
      | zero => intro z; exact q (Option.some.inj z)
      | succ i => exact b i (by omega)
noncomputable def forBody : Stmt → List Stmt
  | .For _ _ b _ _ => b
  | _ => []
theorem intsV_isEmpty {l : List Int} : (intsV l).isEmpty = l.isEmpty := by cases l <;> rfl
theorem intsV_app {l m : List Int} : intsV (l ++ m) = intsV l ++ intsV m := List.map_append
section
variable {prog : Program} {w : World} {K : Frag} {c : Cx prog w K} {envs outer : List Env} {env : Env} {H : AH} {A : Around} {E : Value → Shared → Prop} {s : Shared}
theorem idx_ints {q : Nat} {l : List Int} {k : Int} {t : Tok} {Q : Value → Shared → Prop} (S : St c envs H s) (e : H q = some (.list (intsV l))) (hz : l.length ≤ 1000) (hm : k ∈ l)
    (h : ∀ t s', St c envs H s' → Q (.int (l.idxOf k : Nat) t) s') : wpAny (model prog w) A (call (.builtin "list.index") [.ref q, .int k t]) Q E s :=
  index_ints S e hz (idx_at hm).1 (idx_at hm).2 h
theorem rem_ints {q : Nat} {l : List Int} {k : Int} {t : Tok} {Q : Value → Shared → Prop} (S : St c envs H s) (e : H q = some (.list (intsV l))) (hz : l.length ≤ 1000) (hm : k ∈ l)
    (h : ∀ s', St c envs (upd H q (.list (intsV (l.eraseIdx (l.idxOf k))))) s' → Q .none s') : wpAny (model prog w) A (call (.builtin "list.remove") [.ref q, .int k t]) Q E s :=
  remove_ints S e hz (idx_at hm).1 (idx_at hm).2 h
end
end Mine
end
section
open PySem PySem.W PyProof.Rows PySem.Calls
set_option linter.unusedVariables false
set_option Elab.async false
namespace Mine
theorem moved_at {P : List (List Int)} {d : Int} (hl : P.length = 3) (h1 : (tops P).idxOf d < 3) (h2 : toPeg P d < 3) (hne : toPeg P d ≠ (tops P).idxOf d) (k : Nat) :
    (moved P d).getD k [] = if k = toPeg P d then P.getD (toPeg P d) [] ++ [d] else if k = (tops P).idxOf d then (P.getD ((tops P).idxOf d) []).dropLast else P.getD k [] := by
  unfold moved
  generalize (tops P).idxOf d = h at *
  generalize toPeg P d = t at *
  simp only [List.getD_eq_getElem?_getD, List.getElem?_set]
  by_cases q : k = t
  · subst q
    rw [if_pos rfl, if_pos (by simp; omega), if_pos rfl, if_neg (Ne.symm hne)]
    simp
  · rw [if_neg (fun z => q z.symm), if_neg q]
    by_cases q2 : k = h
    · subst q2
      rw [if_pos rfl, if_pos (by omega), if_pos rfl]; rfl
    · rw [if_neg (fun z => q2 z.symm), if_neg q2]
theorem to_eq {P : List (List Int)} {d : Int} (h1 : (tops P).idxOf d < 3) (h2 : (tops P).idxOf 1 < 3) (o : d = 1 ∨ (tops P).idxOf d ≠ (tops P).idxOf 1) :
    (if d = 1 then (((tops P).idxOf d : Nat) + 1 : Int) % 3 else 3 - ((tops P).idxOf d : Nat) - ((tops P).idxOf 1 : Nat)) = ((toPeg P d : Nat) : Int) := by
  unfold toPeg
  by_cases q : d = 1
  · rw [if_pos q, if_pos q]; omega
  · rw [if_neg q, if_neg q]
    rcases o with z | z
    · exact absurd z q
    · omega
theorem last_split {X : List Int} {d : Int} (h : X.getLast? = some d) : X = X.dropLast ++ [d] := by
  rcases List.eq_nil_or_concat X with rfl | ⟨Y, y, rfl⟩
  · simp at h
  · simp at h ⊢; exact h
theorem tops_len {P : List (List Int)} : (tops P).length = P.length := by unfold tops; simp
theorem idx_mem {l : List Int} {d : Int} (h : l.idxOf d < l.length) : d ∈ l := List.idxOf_lt_length_iff.mp h
end Mine
end
section
open PySem PySem.W PyProof.Rows PySem.Calls
set_option linter.unusedVariables false
set_option linter.unusedSimpArgs false
set_option Elab.async false
set_option maxRecDepth 100000
set_option maxHeartbeats 8000000
set_option compiler.extract_closed false
namespace Mine
def nq : Str := Str.ofString "a"
theorem nq_rfl : nq = nq := rfl
end Mine
name_quick tw9821977120257159380 for Mine.nq by Mine.nq_rfl
name_quick tw1746347558433595337 for Mine.nq by Mine.nq_rfl
name_quick tw1372773348543759107 for Mine.nq by Mine.nq_rfl
name_quick tw9637616106297418166 for Mine.nq by Mine.nq_rfl
name_quick tw2550136888749451593 for Mine.nq by Mine.nq_rfl
name_quick tw6678554070491390161 for Mine.nq by Mine.nq_rfl
name_quick tw206288665681806374 for Mine.nq by Mine.nq_rfl
name_quick tw13264465166184179556 for Mine.nq by Mine.nq_rfl
name_quick tw1955476695372820318 for Mine.nq by Mine.nq_rfl
name_quick tw573794330333625106 for Mine.nq by Mine.nq_rfl
name_quick tw295158114584252112 for Mine.nq by Mine.nq_rfl
name_quick tw2225861669824453019 for Mine.nq by Mine.nq_rfl
name_quick tw2514947519815837508 for Mine.nq by Mine.nq_rfl
name_quick tw2146392958426930758 for Mine.nq by Mine.nq_rfl
name_quick tw1176984701034804349 for Mine.nq by Mine.nq_rfl
name_quick tw9089012559567570094 for Mine.nq by Mine.nq_rfl
name_quick tw11965798063410538427 for Mine.nq by Mine.nq_rfl
name_quick tw1241343275428458861 for Mine.nq by Mine.nq_rfl
name_quick tw8414707142223275713 for Mine.nq by Mine.nq_rfl
name_quick tw508937547452911378 for Mine.nq by Mine.nq_rfl
name_quick tw6543802491312495291 for Mine.nq by Mine.nq_rfl
name_quick tw281841072780438573 for Mine.nq by Mine.nq_rfl
name_quick tw10077512558897761711 for Mine.nq by Mine.nq_rfl
name_quick tw15048331744799092419 for Mine.nq by Mine.nq_rfl
name_quick tw8064525449969774617 for Mine.nq by Mine.nq_rfl
name_quick tw8567421774701459403 for Mine.nq by Mine.nq_rfl
name_quick tw5877089747905441157 for Mine.nq by Mine.nq_rfl
name_quick tw13166600596664719206 for Mine.nq by Mine.nq_rfl
name_quick tw3024592797514069591 for Mine.nq by Mine.nq_rfl
name_quick tw15253713106536929212 for Mine.nq by Mine.nq_rfl
name_quick tw3919314752684427065 for Mine.nq by Mine.nq_rfl
name_quick tw8975735408759014816 for Mine.nq by Mine.nq_rfl
name_quick tw13567635786341143122 for Mine.nq by Mine.nq_rfl
name_quick tw11703855869365521149 for Mine.nq by Mine.nq_rfl
name_quick tw17491496635513904520 for Mine.nq by Mine.nq_rfl
name_quick tw58413421185161098 for Mine.nq by Mine.nq_rfl
name_quick tw5778047346085363635 for Mine.nq by Mine.nq_rfl
name_quick tw8721119329980295110 for Mine.nq by Mine.nq_rfl
name_quick tw2593874375889684645 for Mine.nq by Mine.nq_rfl
name_quick tw16670923289451256722 for Mine.nq by Mine.nq_rfl
name_quick tw4751478162800029779 for Mine.nq by Mine.nq_rfl
name_quick tw10856712835392162425 for Mine.nq by Mine.nq_rfl
name_quick tw12897284800656268148 for Mine.nq by Mine.nq_rfl
name_quick tw5467519921422045739 for Mine.nq by Mine.nq_rfl
name_quick tw6714868971185114565 for Mine.nq by Mine.nq_rfl
name_quick tw9746625169508218059 for Mine.nq by Mine.nq_rfl
name_quick tw17285607756020876236 for Mine.nq by Mine.nq_rfl
name_quick tw9912425994934407819 for Mine.nq by Mine.nq_rfl
name_quick tw2205719720868618666 for Mine.nq by Mine.nq_rfl
name_quick tw7748554079653594635 for Mine.nq by Mine.nq_rfl
name_quick tw15242116879618706194 for Mine.nq by Mine.nq_rfl
name_quick tw14701977119377764433 for Mine.nq by Mine.nq_rfl
name_quick tw16729569036959976846 for Mine.nq by Mine.nq_rfl
name_quick tw10184588269537293620 for Mine.nq by Mine.nq_rfl
name_quick tw9612672015310551868 for Mine.nq by Mine.nq_rfl
name_quick tw13237844983548725456 for Mine.nq by Mine.nq_rfl
name_quick tw4302658531420945787 for Mine.nq by Mine.nq_rfl
name_quick tw2612783162996472123 for Mine.nq by Mine.nq_rfl
name_quick tw11123086593744197372 for Mine.nq by Mine.nq_rfl
name_quick tw16613875493547966852 for Mine.nq by Mine.nq_rfl
name_quick tw17097821163593179588 for Mine.nq by Mine.nq_rfl
name_quick tw1949356418937781551 for Mine.nq by Mine.nq_rfl
name_quick tw14021230997843198564 for Mine.nq by Mine.nq_rfl
name_quick tw1459208141647307474 for Mine.nq by Mine.nq_rfl
name_quick tw15624714606074315715 for Mine.nq by Mine.nq_rfl
name_quick tw5624669206558600111 for Mine.nq by Mine.nq_rfl
name_quick tw3051572427834468592 for Mine.nq by Mine.nq_rfl
name_quick tw14626363478959083958 for Mine.nq by Mine.nq_rfl
name_quick tw14605702834172648273 for Mine.nq by Mine.nq_rfl
name_quick tw16164918703547406004 for Mine.nq by Mine.nq_rfl
name_quick tw17196975520135435197 for Mine.nq by Mine.nq_rfl
name_quick tw3744716053712579968 for Mine.nq by Mine.nq_rfl
name_quick tw15852418618254888133 for Mine.nq by Mine.nq_rfl
name_quick tw5152765423282276616 for Mine.nq by Mine.nq_rfl
name_quick tw8127447518859850296 for Mine.nq by Mine.nq_rfl
name_quick tw2724676021440004308 for Mine.nq by Mine.nq_rfl
name_quick tw6460718184045443163 for Mine.nq by Mine.nq_rfl
name_quick tw16629612837617992614 for Mine.nq by Mine.nq_rfl
name_quick tw1513029788606724791 for Mine.nq by Mine.nq_rfl
name_quick tw2615795761831903464 for Mine.nq by Mine.nq_rfl
name_quick tw15339691569314305670 for Mine.nq by Mine.nq_rfl
name_quick tw4041821760720696341 for Mine.nq by Mine.nq_rfl
name_quick tw9103310933311007397 for Mine.nq by Mine.nq_rfl
name_quick tw7980677952047804146 for Mine.nq by Mine.nq_rfl
name_quick tw3220028150255651006 for Mine.nq by Mine.nq_rfl
name_quick tw6430084452224433118 for Mine.nq by Mine.nq_rfl
name_quick tw6813041062179833445 for Mine.nq by Mine.nq_rfl
name_quick tw15052430979892313760 for Mine.nq by Mine.nq_rfl
name_quick tw2786459242175096484 for Mine.nq by Mine.nq_rfl
name_quick tw5226419290755671927 for Mine.nq by Mine.nq_rfl
name_quick tw11942845085649238702 for Mine.nq by Mine.nq_rfl
name_quick tw14082039318012873693 for Mine.nq by Mine.nq_rfl
name_quick tw8238534867955997690 for Mine.nq by Mine.nq_rfl
name_quick tw5161053319311518864 for Mine.nq by Mine.nq_rfl
name_quick tw827106698547405791 for Mine.nq by Mine.nq_rfl
name_quick tw5465212274667124382 for Mine.nq by Mine.nq_rfl
name_quick tw13343461726426194607 for Mine.nq by Mine.nq_rfl
name_quick tw11599132250606127907 for Mine.nq by Mine.nq_rfl
name_quick tw13195720168200566630 for Mine.nq by Mine.nq_rfl
name_quick tw6839331591458617662 for Mine.nq by Mine.nq_rfl
name_quick tw6482019011972154943 for Mine.nq by Mine.nq_rfl
name_quick tw4556700289760006671 for Mine.nq by Mine.nq_rfl
name_quick tw6068272031012857275 for Mine.nq by Mine.nq_rfl
name_quick tw12204382177802003002 for Mine.nq by Mine.nq_rfl
name_quick tw6619490545015067207 for Mine.nq by Mine.nq_rfl
name_quick tw10153397990264109449 for Mine.nq by Mine.nq_rfl
name_quick tw9753741940635838506 for Mine.nq by Mine.nq_rfl
name_quick tw4791426268163011105 for Mine.nq by Mine.nq_rfl
name_quick tw547191734899326466 for Mine.nq by Mine.nq_rfl
name_quick tw9740324311538904819 for Mine.nq by Mine.nq_rfl
name_quick tw18180135454281095948 for Mine.nq by Mine.nq_rfl
name_quick tw15875934534511192880 for Mine.nq by Mine.nq_rfl
name_quick tw8926988891691027875 for Mine.nq by Mine.nq_rfl
name_quick tw11176835235461709816 for Mine.nq by Mine.nq_rfl
name_quick tw8701202920430019616 for Mine.nq by Mine.nq_rfl
name_quick tw7643232025118728705 for Mine.nq by Mine.nq_rfl
name_quick tw11128549585110499959 for Mine.nq by Mine.nq_rfl
name_quick tw2078191249513347474 for Mine.nq by Mine.nq_rfl
name_quick tw9368585349161967942 for Mine.nq by Mine.nq_rfl
name_quick tw8322859051176925097 for Mine.nq by Mine.nq_rfl
name_quick tw10951819575092376495 for Mine.nq by Mine.nq_rfl
name_quick tw5301076238638085756 for Mine.nq by Mine.nq_rfl
name_quick tw15149180882198471752 for Mine.nq by Mine.nq_rfl
name_quick tw13481763384651238587 for Mine.nq by Mine.nq_rfl
name_quick tw2514612800365338617 for Mine.nq by Mine.nq_rfl
name_quick tw15025590108382710512 for Mine.nq by Mine.nq_rfl
name_quick tw18022991426498854473 for Mine.nq by Mine.nq_rfl
name_quick tw12641364861235294461 for Mine.nq by Mine.nq_rfl
name_quick tw12400238717853346265 for Mine.nq by Mine.nq_rfl
name_quick tw3456571083492441453 for Mine.nq by Mine.nq_rfl
name_quick tw9486709356237091125 for Mine.nq by Mine.nq_rfl
name_quick tw860648672081048324 for Mine.nq by Mine.nq_rfl
name_quick tw17702719377474183314 for Mine.nq by Mine.nq_rfl
name_quick tw6152077179709123664 for Mine.nq by Mine.nq_rfl
name_quick tw7481932597757784137 for Mine.nq by Mine.nq_rfl
name_quick tw3994726098318772208 for Mine.nq by Mine.nq_rfl
name_quick tw5916453677353241594 for Mine.nq by Mine.nq_rfl
name_quick tw16121411588587052578 for Mine.nq by Mine.nq_rfl
name_quick tw15824688422252718220 for Mine.nq by Mine.nq_rfl
name_quick tw7178292369654101021 for Mine.nq by Mine.nq_rfl
name_quick tw13218159692622628462 for Mine.nq by Mine.nq_rfl
name_quick tw13328287217336646745 for Mine.nq by Mine.nq_rfl
name_quick tw13401450569268012522 for Mine.nq by Mine.nq_rfl
name_quick tw8249167001743385412 for Mine.nq by Mine.nq_rfl
name_quick tw5119820228738538837 for Mine.nq by Mine.nq_rfl
name_quick tw3317462989674347011 for Mine.nq by Mine.nq_rfl
name_quick tw8052699685389476681 for Mine.nq by Mine.nq_rfl
name_quick tw1662412061097358909 for Mine.nq by Mine.nq_rfl
name_quick tw11032288311024073452 for Mine.nq by Mine.nq_rfl
name_quick tw4019194518960018008 for Mine.nq by Mine.nq_rfl
name_quick tw7183787996843840669 for Mine.nq by Mine.nq_rfl
name_quick tw10932834426561998003 for Mine.nq by Mine.nq_rfl
name_quick tw12132438518962610784 for Mine.nq by Mine.nq_rfl
name_quick tw6309909221698769517 for Mine.nq by Mine.nq_rfl
name_quick tw1303969622770654653 for Mine.nq by Mine.nq_rfl
name_quick tw4421477190475177751 for Mine.nq by Mine.nq_rfl
name_quick tw9435042870772312822 for Mine.nq by Mine.nq_rfl
name_quick tw7423086322359588862 for Mine.nq by Mine.nq_rfl
name_quick tw11971560273547352008 for Mine.nq by Mine.nq_rfl
name_quick tw15343086084885260303 for Mine.nq by Mine.nq_rfl
name_quick tw12039147934589137871 for Mine.nq by Mine.nq_rfl
name_quick tw1681232566215850207 for Mine.nq by Mine.nq_rfl
name_quick tw8766472978148464848 for Mine.nq by Mine.nq_rfl
name_quick tw1799466108103082662 for Mine.nq by Mine.nq_rfl
name_quick tw7099541200963586819 for Mine.nq by Mine.nq_rfl
name_quick tw2264711001312105635 for Mine.nq by Mine.nq_rfl
name_quick tw2760285239938686285 for Mine.nq by Mine.nq_rfl
name_quick tw786218976670858567 for Mine.nq by Mine.nq_rfl
name_quick tw14692981897185910471 for Mine.nq by Mine.nq_rfl
name_quick tw12539731471513976603 for Mine.nq by Mine.nq_rfl
name_quick tw16880591034133319189 for Mine.nq by Mine.nq_rfl
name_quick tw5206711931955139529 for Mine.nq by Mine.nq_rfl
name_quick tw18044772033736509624 for Mine.nq by Mine.nq_rfl
name_quick tw10161030998265718105 for Mine.nq by Mine.nq_rfl
name_quick tw7264564868467954424 for Mine.nq by Mine.nq_rfl
name_quick tw12039640741984040343 for Mine.nq by Mine.nq_rfl
name_quick tw2172508916182142657 for Mine.nq by Mine.nq_rfl
name_quick tw13280191505927967116 for Mine.nq by Mine.nq_rfl
name_quick tw15943778425431997400 for Mine.nq by Mine.nq_rfl
name_quick tw4036027369504893846 for Mine.nq by Mine.nq_rfl
name_quick tw8800414941367319197 for Mine.nq by Mine.nq_rfl
name_quick tw11942918368763115337 for Mine.nq by Mine.nq_rfl
name_quick tw14759100921596082360 for Mine.nq by Mine.nq_rfl
name_quick tw9857220320739968221 for Mine.nq by Mine.nq_rfl
name_quick tw16262943470744321830 for Mine.nq by Mine.nq_rfl
name_quick tw1174688143480765567 for Mine.nq by Mine.nq_rfl
name_quick tw11900130046921669522 for Mine.nq by Mine.nq_rfl
name_quick tw1450986613127831428 for Mine.nq by Mine.nq_rfl
name_quick tw3989758106482875701 for Mine.nq by Mine.nq_rfl
name_quick tw7061051225368521305 for Mine.nq by Mine.nq_rfl
name_quick tw16658155956994961839 for Mine.nq by Mine.nq_rfl
name_quick tw10804207746132164421 for Mine.nq by Mine.nq_rfl
name_quick tw9135381548975687176 for Mine.nq by Mine.nq_rfl
name_quick tw4601979354473543915 for Mine.nq by Mine.nq_rfl
name_quick tw16658422150657513672 for Mine.nq by Mine.nq_rfl
name_quick tw10295692493634532523 for Mine.nq by Mine.nq_rfl
name_quick tw17419358671643532668 for Mine.nq by Mine.nq_rfl
name_quick tw15957902780227234806 for Mine.nq by Mine.nq_rfl
name_quick tw176609655623843514 for Mine.nq by Mine.nq_rfl
name_quick tw2068768393410330855 for Mine.nq by Mine.nq_rfl
name_quick tw17245969729357673488 for Mine.nq by Mine.nq_rfl
name_quick tw7754399652296992482 for Mine.nq by Mine.nq_rfl
name_quick tw5439406559029941658 for Mine.nq by Mine.nq_rfl
name_quick tw6512343940206248464 for Mine.nq by Mine.nq_rfl
name_quick tw12616149485744366804 for Mine.nq by Mine.nq_rfl
name_quick tw5042196134292462105 for Mine.nq by Mine.nq_rfl
name_quick tw1613782473541009371 for Mine.nq by Mine.nq_rfl
name_quick tw14266305231870008196 for Mine.nq by Mine.nq_rfl
name_quick tw17542491380657703146 for Mine.nq by Mine.nq_rfl
name_quick tw8115132593001063074 for Mine.nq by Mine.nq_rfl
name_quick tw5528021865569915719 for Mine.nq by Mine.nq_rfl
name_quick tw450649722010238627 for Mine.nq by Mine.nq_rfl
name_quick tw12040748966733980073 for Mine.nq by Mine.nq_rfl
name_quick tw16055750773512198348 for Mine.nq by Mine.nq_rfl
name_quick tw11469647399813913371 for Mine.nq by Mine.nq_rfl
name_quick tw7719227258301919856 for Mine.nq by Mine.nq_rfl
name_quick tw380116098626401653 for Mine.nq by Mine.nq_rfl
name_quick tw15718359560609617345 for Mine.nq by Mine.nq_rfl
name_quick tw17538839764788146552 for Mine.nq by Mine.nq_rfl
name_quick tw6255106906943118120 for Mine.nq by Mine.nq_rfl
name_quick tw7888859464835981055 for Mine.nq by Mine.nq_rfl
name_quick tw14427700606633109709 for Mine.nq by Mine.nq_rfl
name_quick tw17756179450831198793 for Mine.nq by Mine.nq_rfl
name_quick tw3346516477294861663 for Mine.nq by Mine.nq_rfl
name_quick tw3335650596809004647 for Mine.nq by Mine.nq_rfl
name_quick tw3876041706209863288 for Mine.nq by Mine.nq_rfl
name_quick tw10800381998247402418 for Mine.nq by Mine.nq_rfl
name_quick tw10899928444652561671 for Mine.nq by Mine.nq_rfl
name_quick tw9126881050622632314 for Mine.nq by Mine.nq_rfl
name_quick tw5034570654505515926 for Mine.nq by Mine.nq_rfl
name_quick tw8898408842067805994 for Mine.nq by Mine.nq_rfl
name_quick tw10970212529159555371 for Mine.nq by Mine.nq_rfl
name_quick tw11269898805732643086 for Mine.nq by Mine.nq_rfl
name_quick tw494713878115571085 for Mine.nq by Mine.nq_rfl
name_quick tw14015825241879950055 for Mine.nq by Mine.nq_rfl
name_quick tw8895288903186670712 for Mine.nq by Mine.nq_rfl
name_quick tw7466512435828418511 for Mine.nq by Mine.nq_rfl
name_quick tw13558723367298376964 for Mine.nq by Mine.nq_rfl
name_quick tw27914345072074935 for Mine.nq by Mine.nq_rfl
name_quick tw5544535192489738091 for Mine.nq by Mine.nq_rfl
name_quick tw17136648757045153592 for Mine.nq by Mine.nq_rfl
name_quick tw2728217946356634317 for Mine.nq by Mine.nq_rfl
name_quick tw14200731362085958547 for Mine.nq by Mine.nq_rfl
name_quick tw11389326089251139704 for Mine.nq by Mine.nq_rfl
name_quick tw7469220244138209139 for Mine.nq by Mine.nq_rfl
name_quick tw9466190724604962976 for Mine.nq by Mine.nq_rfl
name_quick tw14323191683527004385 for Mine.nq by Mine.nq_rfl
name_quick tw1469006186239232635 for Mine.nq by Mine.nq_rfl
name_quick tw14122118235476106720 for Mine.nq by Mine.nq_rfl
name_quick tw11756209923692085429 for Mine.nq by Mine.nq_rfl
name_quick tw2815856817661251079 for Mine.nq by Mine.nq_rfl
name_quick tw15558944290496000118 for Mine.nq by Mine.nq_rfl
name_quick tw2478812921140235972 for Mine.nq by Mine.nq_rfl
name_quick tw9601830559500562358 for Mine.nq by Mine.nq_rfl
name_quick tw10363098926003520993 for Mine.nq by Mine.nq_rfl
name_quick tw14222968703881079990 for Mine.nq by Mine.nq_rfl
name_quick tw6002448621044059110 for Mine.nq by Mine.nq_rfl
name_quick tw2408428389488378829 for Mine.nq by Mine.nq_rfl
name_quick tw9836191945928279202 for Mine.nq by Mine.nq_rfl
name_quick tw13116705672368042070 for Mine.nq by Mine.nq_rfl
name_quick tw11181602933962326385 for Mine.nq by Mine.nq_rfl
name_quick tw17470182516447604088 for Mine.nq by Mine.nq_rfl
name_quick tw8456008463702214827 for Mine.nq by Mine.nq_rfl
name_quick tw9294052569563132878 for Mine.nq by Mine.nq_rfl
name_quick tw16775486880773237633 for Mine.nq by Mine.nq_rfl
name_quick tw3363259976756999616 for Mine.nq by Mine.nq_rfl
name_quick tw1465700549354054143 for Mine.nq by Mine.nq_rfl
name_quick tw11658679034325858985 for Mine.nq by Mine.nq_rfl
name_quick tw10993635847552443774 for Mine.nq by Mine.nq_rfl
name_quick tw15501063356176803375 for Mine.nq by Mine.nq_rfl
name_quick tw10363632054614041535 for Mine.nq by Mine.nq_rfl
name_quick tw3410327690191594304 for Mine.nq by Mine.nq_rfl
name_quick tw10960819157759587270 for Mine.nq by Mine.nq_rfl
name_quick tw100317234535270090 for Mine.nq by Mine.nq_rfl
name_quick tw5570527783124031326 for Mine.nq by Mine.nq_rfl
name_quick tw15057979764553838229 for Mine.nq by Mine.nq_rfl
name_quick tw911514066367193542 for Mine.nq by Mine.nq_rfl
name_quick tw2460060685057441140 for Mine.nq by Mine.nq_rfl
name_quick tw9756189279628919893 for Mine.nq by Mine.nq_rfl
name_quick tw5619023038169207897 for Mine.nq by Mine.nq_rfl
name_quick tw8992944254649244289 for Mine.nq by Mine.nq_rfl
name_quick tw18115109253202687806 for Mine.nq by Mine.nq_rfl
name_quick tw5938930275181633926 for Mine.nq by Mine.nq_rfl
name_quick tw5421411531478906721 for Mine.nq by Mine.nq_rfl
name_quick tw653045798526291285 for Mine.nq by Mine.nq_rfl
name_quick tw5833487211902050900 for Mine.nq by Mine.nq_rfl
name_quick tw12542599427624453036 for Mine.nq by Mine.nq_rfl
name_quick tw12982523959702907818 for Mine.nq by Mine.nq_rfl
name_quick tw15110633834456799321 for Mine.nq by Mine.nq_rfl
name_quick tw6530814583390787407 for Mine.nq by Mine.nq_rfl
name_quick tw9086167103360699692 for Mine.nq by Mine.nq_rfl
name_quick tw4254473196351684166 for Mine.nq by Mine.nq_rfl
name_quick tw9697149922678371837 for Mine.nq by Mine.nq_rfl
name_quick tw18065358436285042598 for Mine.nq by Mine.nq_rfl
name_quick tw2150526042354789816 for Mine.nq by Mine.nq_rfl
name_quick tw7052860091543094126 for Mine.nq by Mine.nq_rfl
name_quick tw9584101625446177679 for Mine.nq by Mine.nq_rfl
name_quick tw13167953452625630233 for Mine.nq by Mine.nq_rfl
name_quick tw16701476733426327718 for Mine.nq by Mine.nq_rfl
name_quick tw8598770425756632571 for Mine.nq by Mine.nq_rfl
name_quick tw9037744934858087096 for Mine.nq by Mine.nq_rfl
name_quick tw16415526775699336647 for Mine.nq by Mine.nq_rfl
name_quick tw13024490644149834659 for Mine.nq by Mine.nq_rfl
name_quick tw2645253730830170669 for Mine.nq by Mine.nq_rfl
name_quick tw7702884723409958756 for Mine.nq by Mine.nq_rfl
name_quick tw674513321012243120 for Mine.nq by Mine.nq_rfl
name_quick tw2381779857757554982 for Mine.nq by Mine.nq_rfl
name_quick tw2974168805566760095 for Mine.nq by Mine.nq_rfl
name_quick tw8413033410311042802 for Mine.nq by Mine.nq_rfl
name_quick tw18232516205770288370 for Mine.nq by Mine.nq_rfl
name_quick tw10369993220563554966 for Mine.nq by Mine.nq_rfl
name_quick tw8079040768744151613 for Mine.nq by Mine.nq_rfl
name_quick tw7608248172247005484 for Mine.nq by Mine.nq_rfl
name_quick tw1500001586437499229 for Mine.nq by Mine.nq_rfl
name_quick tw5156215486018121394 for Mine.nq by Mine.nq_rfl
name_quick tw12246879708356120756 for Mine.nq by Mine.nq_rfl
name_quick tw6838764662415248091 for Mine.nq by Mine.nq_rfl
name_quick tw2552149334360943457 for Mine.nq by Mine.nq_rfl
name_quick tw7266321515953080419 for Mine.nq by Mine.nq_rfl
name_quick tw11903041915960050728 for Mine.nq by Mine.nq_rfl
name_quick tw368413529313430098 for Mine.nq by Mine.nq_rfl
name_quick tw6574282420361060447 for Mine.nq by Mine.nq_rfl
name_quick tw5117486665703424817 for Mine.nq by Mine.nq_rfl
name_quick tw5024659119744377144 for Mine.nq by Mine.nq_rfl
name_quick tw13953968432653430011 for Mine.nq by Mine.nq_rfl
name_quick tw4372461843655280518 for Mine.nq by Mine.nq_rfl
name_quick tw2273858819278549214 for Mine.nq by Mine.nq_rfl
name_quick tw9931992706918115027 for Mine.nq by Mine.nq_rfl
name_quick tw15309902003326921531 for Mine.nq by Mine.nq_rfl
name_quick tw10870844614742548876 for Mine.nq by Mine.nq_rfl
name_quick tw2880636966107452029 for Mine.nq by Mine.nq_rfl
name_quick tw12572467164891943314 for Mine.nq by Mine.nq_rfl
name_quick tw9850301400940741980 for Mine.nq by Mine.nq_rfl
name_quick tw7224399010624468978 for Mine.nq by Mine.nq_rfl
name_quick tw9271197160210241461 for Mine.nq by Mine.nq_rfl
name_quick tw3559286889762577286 for Mine.nq by Mine.nq_rfl
name_quick tw841194403230263022 for Mine.nq by Mine.nq_rfl
name_quick tw3946905001735722233 for Mine.nq by Mine.nq_rfl
name_quick tw2332693452846706326 for Mine.nq by Mine.nq_rfl
name_quick tw4393603934423812307 for Mine.nq by Mine.nq_rfl
name_quick tw6269966834518387820 for Mine.nq by Mine.nq_rfl
name_quick tw7099533968441916573 for Mine.nq by Mine.nq_rfl
name_quick tw13308427868814031534 for Mine.nq by Mine.nq_rfl
name_quick tw10648174273078443320 for Mine.nq by Mine.nq_rfl
name_quick tw376056386549438138 for Mine.nq by Mine.nq_rfl
name_quick tw15255086577722922688 for Mine.nq by Mine.nq_rfl
name_quick tw9710547745389366427 for Mine.nq by Mine.nq_rfl
name_quick tw16087480847854898326 for Mine.nq by Mine.nq_rfl
name_quick tw14779988860287478557 for Mine.nq by Mine.nq_rfl
name_quick tw17672885280981196277 for Mine.nq by Mine.nq_rfl
name_quick tw16569167677417678222 for Mine.nq by Mine.nq_rfl
name_quick tw8463493634643875071 for Mine.nq by Mine.nq_rfl
name_quick tw9904784518248871179 for Mine.nq by Mine.nq_rfl
name_quick tw8237628468659082764 for Mine.nq by Mine.nq_rfl
name_quick tw13345322153190985431 for Mine.nq by Mine.nq_rfl
name_quick tw17176256520905523406 for Mine.nq by Mine.nq_rfl
name_quick tw10158837362779655497 for Mine.nq by Mine.nq_rfl
name_quick tw16710414255800497874 for Mine.nq by Mine.nq_rfl
name_quick tw12310914268238720402 for Mine.nq by Mine.nq_rfl
name_quick tw9181683983548711307 for Mine.nq by Mine.nq_rfl
name_quick tw645280481220653323 for Mine.nq by Mine.nq_rfl
name_quick tw7937360525058898846 for Mine.nq by Mine.nq_rfl
name_quick tw2494582366520428600 for Mine.nq by Mine.nq_rfl
name_quick tw8179168226198291759 for Mine.nq by Mine.nq_rfl
name_quick tw10139841075400542888 for Mine.nq by Mine.nq_rfl
name_quick tw4663019059281673177 for Mine.nq by Mine.nq_rfl
name_quick tw4435446575649361319 for Mine.nq by Mine.nq_rfl
name_quick tw13063908843372219496 for Mine.nq by Mine.nq_rfl
name_quick tw5443997597417879742 for Mine.nq by Mine.nq_rfl
name_quick tw17620334132377794742 for Mine.nq by Mine.nq_rfl
name_quick tw7379500111108612711 for Mine.nq by Mine.nq_rfl
name_quick tw1841836333981035134 for Mine.nq by Mine.nq_rfl
name_quick tw18136030922241914178 for Mine.nq by Mine.nq_rfl
name_quick tw743720327355064036 for Mine.nq by Mine.nq_rfl
name_quick tw8361382661598280687 for Mine.nq by Mine.nq_rfl
name_quick tw6555836376182642527 for Mine.nq by Mine.nq_rfl
name_quick tw1535497942135152695 for Mine.nq by Mine.nq_rfl
name_quick tw12398223195291822079 for Mine.nq by Mine.nq_rfl
name_quick tw1947122803551259453 for Mine.nq by Mine.nq_rfl
name_quick tw5599835777031289924 for Mine.nq by Mine.nq_rfl
name_quick tw15430376819022150306 for Mine.nq by Mine.nq_rfl
name_quick tw2437803716964573062 for Mine.nq by Mine.nq_rfl
name_quick tw9298284251206045596 for Mine.nq by Mine.nq_rfl
name_quick tw3128610181653113651 for Mine.nq by Mine.nq_rfl
name_quick tw15191179921418398502 for Mine.nq by Mine.nq_rfl
name_quick tw193996619713079764 for Mine.nq by Mine.nq_rfl
name_quick tw6871070775303988041 for Mine.nq by Mine.nq_rfl
name_quick tw11570279465570858858 for Mine.nq by Mine.nq_rfl
name_quick tw11699524648409779975 for Mine.nq by Mine.nq_rfl
name_quick tw11917786201327553717 for Mine.nq by Mine.nq_rfl
name_quick tw6391029557713974115 for Mine.nq by Mine.nq_rfl
name_quick tw4831305437095251883 for Mine.nq by Mine.nq_rfl
name_quick tw11356772286708262303 for Mine.nq by Mine.nq_rfl
name_quick tw8392597382566269865 for Mine.nq by Mine.nq_rfl
name_quick tw7013153251980690481 for Mine.nq by Mine.nq_rfl
name_quick tw4596069886926316615 for Mine.nq by Mine.nq_rfl
name_quick tw14824234498139079507 for Mine.nq by Mine.nq_rfl
name_quick tw8012632809779845559 for Mine.nq by Mine.nq_rfl
name_quick tw12333229107473029286 for Mine.nq by Mine.nq_rfl
name_quick tw17692189638669753560 for Mine.nq by Mine.nq_rfl
name_quick tw274016917212898722 for Mine.nq by Mine.nq_rfl
name_quick tw12456627185932919654 for Mine.nq by Mine.nq_rfl
name_quick tw11268565894811700663 for Mine.nq by Mine.nq_rfl
name_quick tw11117089975213408038 for Mine.nq by Mine.nq_rfl
name_quick tw12897223096894402239 for Mine.nq by Mine.nq_rfl
name_quick tw7290644721084481783 for Mine.nq by Mine.nq_rfl
namespace MineTop
open_top hd for PySem.Challenge.rw_bd0031_02
end MineTop
namespace Mine
local macro_rules | `(tactic| walk_at "m_ne") => `(tactic| first
  | assumption
  | exact Ne.symm (by assumption)
  | exact ne_fresh (by assumption) (by assumption)
  | exact (ne_fresh (by assumption) (by assumption)).symm
  | exact ne_kind (by assumption) (by assumption) (by intro z; cases z)
  | exact ne_fresh (by assumption) (by walk_at "m_H")
  | exact (ne_fresh (by assumption) (by walk_at "m_H")).symm)
local macro_rules | `(tactic| walk_at "m_none") => `(tactic| first | assumption | (refine upd_other (by walk_at "m_ne") ?_; walk_at "m_none") | walk_at "m_none1")
local macro_rules | `(tactic| walk_at "m_none1") => `(tactic| (apply none_up; first | assumption | (apply none_up; first | assumption | (apply none_up; first | assumption | (apply none_up; first | assumption | (apply none_up; first | assumption | (apply none_up; first | assumption | (apply none_up; first | assumption | (apply none_up; assumption)))))))))
local macro_rules | `(tactic| walk_at "m_sub") => `(tactic| first | exact Sub.refl _ | (refine Cov.sub ?_; walk_at "m_cov"))
local macro_rules | `(tactic| walk_at "m_mem") => `(tactic| first | exact List.Mem.head _ | (refine List.Mem.tail _ ?_; walk_at "m_mem"))
local macro_rules | `(tactic| walk_at "m_cov") => `(tactic| first
  | exact Cov.refl
  | exact Cov.of (by assumption)
  | ((with_reducible refine' Cov.n ?a ?b ?_); (case a => walk_at "m_H"); (case b => walk_at "m_le"); walk_at "m_cov")
  | ((with_reducible refine' Cov.hm ?a ?_); (case a => walk_at "m_mem"); walk_at "m_cov")
  | ((with_reducible refine' Cov.hn ?a ?_); (case a => walk_at "m_none"); walk_at "m_cov")
  | ((with_reducible refine' Cov.hs ?a ?b ?_); (case a => walk_at "m_H"); (case b => walk_at "m_le"); walk_at "m_cov"))
local macro_rules | `(tactic| walk_at "m_H") => `(tactic| first | assumption | exact upd_self _ _ _ | (refine upd_other (by walk_at "m_ne") ?_; walk_at "m_H"))
local macro_rules | `(tactic| walk_at "m_lk") => `(tactic| first | assumption | rfl)
local macro_rules | `(tactic| walk_at "eval Name") => `(tactic| (rename St _ _ _ _ => mS; k_dflt first
  | (refine' nm_ref mS ?H ?x ?_ ?L; (case L => first | exact loc_callEnv | exact rfl); (case H => walk_at "m_H"); (case x => rfl))
  | (refine' nm_int mS ?H ?x ?_ ?L; (case L => first | exact loc_callEnv | exact rfl); (case H => walk_at "m_H"); (case x => rfl); intro tk)
  | (refine' nm_none mS ?H ?x ?_ ?L; (case L => first | exact loc_callEnv | exact rfl); (case H => walk_at "m_H"); (case x => rfl))
  | (refine' nm_bool mS ?H ?x ?_ ?L; (case L => first | exact loc_callEnv | exact rfl); (case H => walk_at "m_H"); (case x => rfl))
  | (refine' nm_any mS ?H ?x ?_ ?L; (case L => first | exact loc_callEnv | exact rfl); (case H => walk_at "m_H"); (case x => rfl); intro v hv)
  | (refine' nm_global mS ?e ?_; (case e => k_is))
  | (refine' nm_builtin mS ?e ?v ?n ?_; (case e => k_is); (case v => boot_by_name); (case n => decide))))
local macro_rules | `(tactic| walk_at "loadName") => `(tactic| (rename St _ _ _ _ => mS; k_dflt (refine' nm mS ?H ?x ?_ ?L; (case L => first | exact loc_callEnv | exact rfl); (case H => walk_at "m_H"); (case x => rfl); walk_at "m_er")))
local macro_rules | `(tactic| walk_at "eval Constant int") => `(tactic| (rename St _ _ _ _ => mS; refine const_int mS ?_; intro tk s' S'; clear mS))
local macro_rules | `(tactic| walk_at "binaryOp Add int int") => `(tactic| (rename St _ _ _ _ => mS; refine s_add mS ?_; intro tk s' S'; clear mS))
local macro_rules | `(tactic| walk_at "binaryOp Sub int int") => `(tactic| (rename St _ _ _ _ => mS; refine s_sub mS ?_; intro tk s' S'; clear mS))
local macro_rules | `(tactic| walk_at "inplaceOp Add int int") => `(tactic| (rename St _ _ _ _ => mS; refine s_iadd mS ?_; intro tk s' S'; clear mS))
local macro_rules | `(tactic| walk_at "inplaceOp Sub int int") => `(tactic| (rename St _ _ _ _ => mS; refine s_isub mS ?_; intro tk s' S'; clear mS))
local macro_rules | `(tactic| walk_at "unaryOp USub int") => `(tactic| (rename St _ _ _ _ => mS; refine s_neg mS ?_; intro tk s' S'; clear mS))
local macro_rules | `(tactic| walk_at "m_val") => `(tactic| first | rfl | assumption)
local macro_rules | `(tactic| walk_at "storeName") => `(tactic| (rename St _ _ _ _ => mS; k_dflt (refine' stv mS ?H ?v ?_ ?L; (case L => first | exact loc_callEnv | exact rfl); (case H => walk_at "m_H"); (case v => walk_at "m_val"); intro s' S'; clear mS; (try dsimp only [er] at S'))))
local macro_rules | `(tactic| walk_at "subscriptTail") => `(tactic| (rename St _ _ _ _ => mS; k_dflt first
  | (refine' tup_item mS ?e ?a ?b ?x ?_ ?hs; (case e => walk_at "m_H"); (case a => decide); (case b => decide); (case x => rfl); (case hs => with_unfolding_all rfl); walk_at "m_er")
  | (refine' list_item mS ?e ?a ?b ?x ?_ ?hs; (case e => walk_at "m_H"); (case a => first | decide | omega); (case b => first | decide | omega); (case x => walk_at "m_lk"); (case hs => with_unfolding_all rfl); walk_at "m_er")))
local macro_rules | `(tactic| walk_at "m_er") => `(tactic| first
  | (refine of_int ?_; intro tk)
  | refine of_ref ?_
  | refine of_none ?_
  | refine of_bool ?_
  | (intro v hv))
local macro_rules | `(tactic| walk_at "m_er2") => `(tactic| first
  | (refine of_int2 ?_; intro tk s' S')
  | (refine of_ref2 ?_; intro s' S')
  | (refine of_none2 ?_; intro s' S')
  | (refine of_bool2 ?_; intro s' S')
  | (intro v s' hv S'))
local macro_rules | `(tactic| walk_at "getAttr ref") => `(tactic| (rename St _ _ _ _ => mS; k_dflt (refine' at_get mS ?e ?x ?g ?h ?a ?n ?v ?_; (case e => walk_at "m_H"); (case x => walk_at "m_lk"); (case g => k_is); (case h => k_is); (case a => k_is); (case n => k_is); (case v => rfl); walk_at "m_er2"; clear mS)))
local macro_rules | `(tactic| walk_at "getMethod ref") => `(tactic| (rename St _ _ _ _ => mS; k_dflt (refine' meth mS ?e ?x ?g ?f ?t ?_; (case e => walk_at "m_H"); (case x => walk_at "m_lk"); (case g => k_is); (case f => k_is); (case t => k_is))))
local macro_rules | `(tactic| walk_at "setAttr ref") => `(tactic| (rename St _ _ _ _ => mS; k_dflt (refine' at_set mS ?e ?z ?s ?p ?t ?h ?_; (case e => walk_at "m_H"); (case z => walk_at "m_len"); (case s => k_is); (case p => k_is); (case t => k_is); (case h => k_is); intro s' S'; clear mS; (try dsimp only [er] at S'))))
local macro_rules | `(tactic| walk_at "m_len") => `(tactic| first | omega | decide | (simp only [List.length_cons, List.length_nil, List.length_append, setk_length]; first | done | omega | (repeat' split) <;> omega))
local macro_rules | `(tactic| walk_at "callWith ref") => `(tactic| (rename St _ _ _ _ => mS; k_dflt first
  | (refine' callWith_K mS.inK ?k2 ?_; (case k2 => k_is))
  | (refine' callWith_K0 mS.inK ?k2 ?_; (case k2 => k_is))
  | (refine' callWith_KW mS.inK ?k2 ?k3 ?_; (case k2 => k_is); (case k3 => exact rfl))
  | (refine' callWith_KW0 mS.inK ?k2 ?k3 ?_; (case k2 => k_is); (case k3 => exact rfl))))
local macro_rules | `(tactic| walk_at "And") => `(tactic| ((with_reducible show Frag.In _ _ ∧ _); rename St _ _ _ _ => mS; refine ⟨mS.inK, ?_⟩; (try dsimp only [List.nil_append, List.cons_append])))
local macro_rules | `(tactic| walk_at "call builtin:isinstance") => `(tactic| (rename St _ _ _ _ => mS; k_dflt (refine' isi_inst mS ?e ?i ?_; (case e => walk_at "m_H"); (case i => k_is))))
local macro_rules | `(tactic| walk_at "call builtin:len") => `(tactic| (rename St _ _ _ _ => mS; k_dflt (refine' len_list mS ?e ?z ?_; (case e => walk_at "m_H"); (case z => first | omega | (simp; omega)); intro tk s' S'; clear mS)))
local macro_rules | `(tactic| walk_at "m_in") => `(tactic| (
  case k1 => k_is
  case k2 => k_is
  case k3 => first | exact (BindsTo.of_eq rfl) | exact binds_K (St.inK (by assumption)) rfl (by k_is) rfl rfl rfl
  case k4 => rfl
  case k6 => exact locs rfl
  case k7 => decide
  case k8 => rfl
  case k9 => rfl
  case k10 => rfl))
local macro_rules | `(tactic| walk_at "m_all") => `(tactic| first | exact List.forall_mem_nil _ | (refine List.forall_mem_cons.mpr ⟨?_, ?_⟩; (first | rfl | (show some _ = some _; congr 2; omega)); walk_at "m_all"))
local macro_rules | `(tactic| walk_at "m_le") => `(tactic| first | exact AO.le.rfl' _ | (refine ns_le ?_; walk_at "m_all"))
local macro_rules | `(tactic| walk_at "m_frs") => `(tactic| first
  | assumption
  | exact St.frs (by assumption)
  | exact Frs.re (by assumption)
  | exact Frs.re (St.frs (by assumption))
  | (refine Frs.join ?_; walk_at "m_frs")
  | (refine Frs.ns ?_ (by walk_at "m_H"); walk_at "m_frs")
  | (refine Frs.turn ?_ (by walk_at "m_H") (by rfl); walk_at "m_frs")
  | (refine Frs.fresh ?_ (by walk_at "m_none"); walk_at "m_frs"))
local macro_rules | `(tactic| walk_at "m_R") => `(tactic| first
  | exact Rm.mono (by assumption) (by omega) (by omega)
  | (refine Rm.deeper ?_; walk_at "m_R")
  | (refine Rm.in1 ?_; walk_at "m_R")
  | (refine Rm.mark ?_; walk_at "m_R"))
local macro_rules | `(tactic| walk_at "m_ar") => `(tactic| first | rfl | omega | ((simp only [bne_iff_ne, ne_eq, beq_iff_eq, Bool.not_eq_true', decide_eq_decide, decide_eq_true_eq, decide_eq_false_iff_not, Bool.not_eq_true, bne_eq_false_iff_eq, beq_eq_false_iff_ne] at *); omega) | (simp_all; done) | (simp_all; omega))
local macro_rules | `(tactic| walk_at "m_go") => `(tactic| w_strict (repeat' (first | walk1 | (dsimp only; walk1) | ((with_reducible refine unhide (by assumption) ?_); (try dsimp only)))))
local macro_rules | `(tactic| walk_at "exec Assign") => `(tactic| (with_reducible refine plainObj_wpAny_Assign_Attribute ?_ ?_; rotate_left; with_unfolding_all rfl))
local macro_rules | `(tactic| walk_at "eval List") => `(tactic| (with_reducible refine list_disp ?_))
local macro_rules | `(tactic| walk_at "eval Tuple") => `(tactic| (with_reducible refine tup_disp ?_))
local macro_rules | `(tactic| walk_at "NewL") => `(tactic| (rename St _ _ _ _ => mS; (refine newL mS (by first | simp | decide) ?_); intro a s' ha S'; clear mS; (try dsimp only [List.map, er] at S')))
local macro_rules | `(tactic| walk_at "NewT") => `(tactic| (rename St _ _ _ _ => mS; (refine newT mS (by first | simp | decide) ?_); intro a s' ha S'; clear mS; (try dsimp only [List.map, er] at S')))
local macro_rules | `(tactic| walk_at "binaryOp FloorDiv int int") => `(tactic| (rename St _ _ _ _ => mS; refine s_fdiv mS (by omega) (by omega) ?_; intro tk s' S'; clear mS))
local macro_rules | `(tactic| walk_at "binaryOp Mod int int") => `(tactic| (rename St _ _ _ _ => mS; refine s_mod mS (by omega) ?_; intro tk s' S'; clear mS))
local macro_rules | `(tactic| walk_at "binaryOp Mult int int") => `(tactic| (rename St _ _ _ _ => mS; refine s_mul mS (by omega) ?_; intro tk s' S'; clear mS))
local macro_rules | `(tactic| walk_at "binaryOp Pow int int") => `(tactic| (rename St _ _ _ _ => mS; refine s_pow mS rfl (by omega) (by omega) ?_; intro tk s' S'; clear mS))
local macro_rules | `(tactic| walk_at "exec Raise") => `(tactic| (exfalso; first | contradiction | omega | (simp only [Int.emod_nonneg, decide_eq_true_eq, Bool.not_eq_true', decide_eq_false_iff_not] at *; omega)))
local macro_rules | `(tactic| walk_at "exec Assert") => `(tactic| (refine wpAny_Assert (by assumption) ?_))
local macro_rules | `(tactic| walk_at "m_st") => `(tactic| w_strict (repeat' (first
  | ((fail_if_success (with_reducible show wpAny _ _ (exec (Stmt.Try _ _ _ _ _) _) _ _ _)); (fail_if_success (with_reducible show wpAny _ _ (exec (Stmt.While _ _ _ _) _) _ _ _)); (fail_if_success (with_reducible show wpAny _ _ (exec (Stmt.For _ _ _ _ _) _) _ _ _)); (first | walk1 | (dsimp only; walk1))) | ((with_reducible refine unhide (by assumption) ?_); (try dsimp only)))))
local macro_rules | `(tactic| walk_at "m_ents") => `(tactic| first
  | assumption
  | (refine Ents.turn ?_ (by walk_at "m_H") (by intro xs z; cases z); walk_at "m_ents")
  | (refine Ents.fresh ?_ (by walk_at "m_none"); walk_at "m_ents"))
local macro_rules | `(tactic| walk_at "m_str") => `(tactic| first
  | assumption
  | (refine StreamAt.turn ?_ (by walk_at "m_H") (by rfl); walk_at "m_str")
  | (refine StreamAt.inst ?_ (by walk_at "m_H") (by rfl); walk_at "m_str")
  | (refine StreamAt.fresh ?_ (by walk_at "m_none"); walk_at "m_str"))
local macro_rules | `(tactic| walk_at "getMethod ref") => `(tactic| ((with_reducible show wpAny _ _ (getMethod (Value.ref _) (PySem.Str.ofString "append") _) _ _ _); rename St _ _ _ _ => mS; k_dflt (refine' list_meth mS ?e PySem.slot_list_append PySem.type_list_append ?_; (case e => walk_at "m_H"))))
local macro_rules | `(tactic| walk_at "call builtin:list.append") => `(tactic| (rename St _ _ _ _ => mS; k_dflt (refine' list_append mS ?e ?z ?_; (case e => walk_at "m_H"); (case z => walk_at "m_lz")); intro s' S'; clear mS; (try dsimp only [er] at S')))
local macro_rules | `(tactic| walk_at "m_lz") => `(tactic| first | omega | (simp only [List.length_map, List.length_append, List.length_cons, List.length_nil, List.length_replicate, List.length_range, List.length_set]; omega))
local macro_rules | `(tactic| walk_at "execs cons") => `(tactic| (refine execs_cons_h ?_; intro QS hQS))
theorem fill_frag : ∀ w : World, (MineTop.hd.heap_39 w.params) = (MineTop.hd.heap_39 w.params) ∧ PySem.Challenge.rw_bd0031_02 = PySem.Challenge.rw_bd0031_02 := by
  k_fill
  exact fun _ => ⟨rfl, rfl⟩
section
section
variable {w : World} {c : Cx PySem.Challenge.rw_bd0031_02.row.prog w (MineTop.hd.heap_39 w.params)} {envs : List Env} {H : AH} {A : Around} {E Q : Value → Shared → Prop} {s : Shared}
theorem lt_spec {x1 x2 : Nat} {i1 i2 : Int} {fs1 fs2 : List (Str × Value)}
    (S : St c envs H s) (R : Rm A 4 20) (hx1 : H x1 = some (.inst 253 fs1)) (hx2 : H x2 = some (.inst 253 fs2)) (hi1 : fs1.lookup ("stream_id" : Str) = some (Value.int i1 0)) (hi2 : fs2.lookup ("stream_id" : Str) = some (Value.int i2 0))
    (k : ∀ s', St c envs H s' → Q (.bool (decide (i1 < i2))) s') :
    wpAny (model PySem.Challenge.rw_bd0031_02.row.prog w) A (call (.ref 229) [.ref x1, .ref x2]) Q E s := by
  refine wpAny_call ?_
  k_dflt refine' code_fn (l := [("other", Value.ref x2), ("self", Value.ref x1)]) S R ?k1 ?k2 ?k3 ?k4 ?_ ?k6 ?k7 ?k8 ?k9 ?k10
  walk_at "m_in"
  intro L s1 hL S1
  have F0 := S.frs
  clear S
  refine hideQ ?_
  intro QF hQF
  refine hideE ?_
  intro EF hEF
  (try dsimp only)
  walk_at "m_go"
  all_goals ((try dsimp only); rename St _ _ _ _ => mS; exact k _ (mS.ret (by walk_at "m_sub") (by walk_at "m_frs")))
local macro_rules | `(tactic| walk_at "compareOp Lt ref") => `(tactic| (rename St _ _ _ _ => mS; refine cmp_ofLt ?_; k_dflt (refine' cmp_inst mS ?R ?L ?x ?y ?n ?s ?f ?_; (case R => walk_at "m_R"); (case L => walk_at "m_H"); (case x => walk_at "m_H"); (case y => walk_at "m_H"); (case n => k_is); (case s => k_is); (case f => k_is)); k_dflt (refine' lt_spec mS ?R ?x ?y ?a ?b ?_; (case R => walk_at "m_R"); (case x => walk_at "m_H"); (case y => walk_at "m_H"); (case a => walk_at "m_lk"); (case b => walk_at "m_lk")); intro s' S'; clear mS; (try dsimp only [PySem.W.CmpBack])))
theorem ahead_spec {t1 t2 x1 x2 : Nat} {l1 l2 i1 i2 : Int} {fs1 fs2 : List (Str × Value)}
    (S : St c envs H s) (R : Rm A 5 30) (h1 : H t1 = some (.tup [Value.int l1 0, Value.ref x1])) (h2 : H t2 = some (.tup [Value.int l2 0, Value.ref x2]))
    (hx1 : H x1 = some (.inst 253 fs1)) (hx2 : H x2 = some (.inst 253 fs2)) (hi1 : fs1.lookup ("stream_id" : Str) = some (Value.int i1 0)) (hi2 : fs2.lookup ("stream_id" : Str) = some (Value.int i2 0))
    (k : ∀ b s', St c envs H s' → b = decide (l1 < l2 ∨ (l1 = l2 ∧ i1 < i2)) → Q (.bool b) s') :
    wpAny (model PySem.Challenge.rw_bd0031_02.row.prog w) A (call (.ref 28) [.ref t1, .ref t2]) Q E s := by
  refine wpAny_call ?_
  k_dflt refine' code_fn (l := [("other", Value.ref t2), ("one", Value.ref t1)]) S R ?k1 ?k2 ?k3 ?k4 ?_ ?k6 ?k7 ?k8 ?k9 ?k10
  walk_at "m_in"
  intro L s1 hL S1
  have F0 := S.frs
  clear S
  refine hideQ ?_
  intro QF hQF
  refine hideE ?_
  intro EF hEF
  (try dsimp only)
  walk_at "m_go"
  all_goals ((try dsimp only); rename St _ _ _ _ => mS; exact k _ _ (mS.ret (by walk_at "m_sub") (by walk_at "m_frs")) (by walk_at "m_ar"))
end
end
section
section
variable {w : World} {c : Cx PySem.Challenge.rw_bd0031_02.row.prog w (MineTop.hd.heap_39 w.params)} {envs : List Env} {H : AH} {A : Around} {E Q : Value → Shared → Prop} {s : Shared}
local macro_rules | `(tactic| walk_at "getMethod ref") => `(tactic| ((with_reducible show wpAny _ _ (getMethod (Value.ref _) (PySem.Str.ofString "insert") _) _ _ _); rename St _ _ _ _ => mS; k_dflt (refine' list_meth mS ?e PySem.F.slot_list_insert PySem.F.type_list_insert ?_; (case e => walk_at "m_H"))))
local macro_rules | `(tactic| walk_at "call builtin:list.insert") => `(tactic| (rename St _ _ _ _ => mS; k_dflt (refine' list_insert mS ?e ?a ?b ?z ?_; (case e => walk_at "m_H"); (case a => omega); (case b => simp only [List.length_map]; omega); (case z => simp only [List.length_map]; omega)); intro s' S'; clear mS))
local macro_rules | `(tactic| walk_at "call ref") => `(tactic| (rename St _ _ _ _ => mS; k_dflt (refine' ahead_spec mS ?R ?h1 ?h2 ?x1 ?x2 ?i1 ?i2 ?_; (case R => walk_at "m_R"); (case h1 => walk_at "m_H"); (case h2 => walk_at "m_H"); (case x1 => walk_at "m_H"); (case x2 => walk_at "m_H"); (case i1 => walk_at "m_lk"); (case i2 => walk_at "m_lk")); intro b s' S' hb; clear mS; subst hb))
theorem heappush_spec {P : Pl} {q t : Nat} {ts : List Nat} {es : List (Int × Int)} {e : Int × Int} (S : St c envs H s) (R : Rm A 8 60) (hq : H q = some (.list (ts.map .ref))) (hz : es.length ≤ 5000) (he : Ents P H ts es)
    (hs : ∀ x ∈ es, StreamAt 253 P H x.2) (ht : H t = some (.tup [.int e.1 0, .ref (P.D e.2)])) (hse : StreamAt 253 P H e.2)
    (k : ∀ s', St c envs (upd H q (.list ((put (place (klt e) es) t ts).map .ref))) s' → Q .none s') :
    wpAny (model PySem.Challenge.rw_bd0031_02.row.prog w) A (call (.ref 35) [.ref q, .ref t]) Q E s := by
  have hl := he.len
  have hlm : (ts.map Value.ref).length = es.length := by rw [List.length_map, hl]
  refine wpAny_call ?_
  k_dflt refine' code_fn (l := [("item", Value.ref t), ("queue", Value.ref q)]) S R ?k1 ?k2 ?k3 ?k4 ?_ ?k6 ?k7 ?k8 ?k9 ?k10
  walk_at "m_in"
  intro L s1 hL S1
  have F0 := S.frs
  clear S
  refine hideQ ?_
  intro QF hQF
  refine hideE ?_
  intro EF hEF
  (try dsimp only)
  obtain ⟨e₀, S1⟩ : ∃ e₀, St c (e₀ :: envs) _ s1 := ⟨_, S1⟩
  have F1 := S1.frs
  walk_at "m_st"
  refine while_ (fun n s' => n ≤ es.length ∧ place (klt e) es = place (klt e) (es.take n) ∧
    St c (e₀ :: envs) (upd H L (.ns [("place", Value.int n 0), ("item", Value.ref t), ("queue", Value.ref q)])) s') ?_ (ts.map Value.ref).length ⟨by omega, by rw [hlm, List.take_length], ?_⟩
  case refine_2 =>
    rename St _ _ _ _ => mS
    exact mS.sub (by walk_at "m_sub") (by walk_at "m_frs")
  case refine_1 =>
    rintro n s' ⟨hn, hp, S'⟩
    obtain ⟨fs1, b1, c1⟩ := hse
    cases n with
    | zero =>
      have hpl : place (klt e) es = 0 := by rw [hp]; simp [place]
      rw [hpl] at k
      walk_at "m_go"
      all_goals ((try dsimp only); rename St _ _ _ _ => mS; exact k _ (mS.ret (by walk_at "m_sub") (by walk_at "m_frs")))
    | succ m =>
      have hm : m < es.length := by omega
      obtain ⟨fs2, b2, c2⟩ := hs es[m] (List.getElem_mem hm)
      obtain ⟨t2, g2, a2⟩ := he.get m hm
      have hget : (ts.map Value.ref)[(((m + 1 : Nat) : Int) - 1).toNat]? = some (.ref t2) := by
        rw [show (((m + 1 : Nat) : Int) - 1).toNat = m from by omega, List.getElem?_map, g2]; rfl
      have htk : es.take (m + 1) = es.take m ++ [es[m]] := List.take_succ_eq_append_getElem hm
      rw [htk, place_snoc] at hp
      generalize es[m] = e2 at hp a2 b2 c2
      walk_at "m_go"
      · rename St _ _ _ _ => mS
        have hk : klt e e2 = true := by unfold klt; exact decide_eq_true (by assumption)
        exact ⟨m, by omega, by omega, by rw [hp, if_pos hk], mS.sub (by walk_at "m_sub") (by walk_at "m_frs")⟩
      · have hk : ¬ klt e e2 = true := by unfold klt; simp only [decide_eq_true_eq]; assumption
        rw [hp, if_neg hk, List.length_take, Nat.min_eq_left (by omega)] at k
        try simp only [put, List.map_append, List.map_cons, List.map_take, List.map_drop] at k
        all_goals ((try dsimp only); rename St _ _ _ _ => mS; exact k _ (mS.ret (by walk_at "m_sub") (by walk_at "m_frs")))
      · omega
end
end
section
section
variable {w : World} {c : Cx PySem.Challenge.rw_bd0031_02.row.prog w (MineTop.hd.heap_39 w.params)} {envs : List Env} {H : AH} {A : Around} {E Q : Value → Shared → Prop} {s : Shared}
local macro_rules | `(tactic| walk_at "getMethod ref") => `(tactic| ((with_reducible show wpAny _ _ (getMethod (Value.ref _) (PySem.Str.ofString "pop") _) _ _ _); rename St _ _ _ _ => mS; k_dflt (refine' list_meth mS ?e PySem.F.slot_list_pop PySem.F.type_list_pop ?_; (case e => walk_at "m_H"))))
theorem heappop_spec {q : Nat} {x : Value} {xs : List Value} (S : St c envs H s) (R : Rm A 4 20) (hq : H q = some (.list (x :: xs))) (hz : xs.length ≤ 5000)
    (k : ∀ v s', er v = x → St c envs (upd H q (.list xs)) s' → Q v s') :
    wpAny (model PySem.Challenge.rw_bd0031_02.row.prog w) A (call (.ref 42) [.ref q]) Q E s := by
  refine wpAny_call ?_
  k_dflt refine' code_fn (l := [("queue", Value.ref q)]) S R ?k1 ?k2 ?k3 ?k4 ?_ ?k6 ?k7 ?k8 ?k9 ?k10
  walk_at "m_in"
  intro L s1 hL S1
  have F0 := S.frs
  clear S
  refine hideQ ?_
  intro QF hQF
  refine hideE ?_
  intro EF hEF
  (try dsimp only)
  walk_at "m_go"
  rename St _ _ _ _ => mS
  refine list_pop0 mS (x := x) (xs := xs) (by walk_at "m_H") (by omega) ?_
  intro v s' hv S'
  clear mS
  walk_at "m_go"
  exact k _ _ hv (S'.ret (by walk_at "m_sub") (by walk_at "m_frs"))
theorem heappop_empty {q : Nat} (S : St c envs H s) (R : Rm A 4 20) (hA : A.frames = some envs) (hh : A.handled = none) (hq : H q = some (.list []))
    (kE : ∀ e s', FlyT c envs H e (.type "IndexError") none s' → E (.ref e) s') :
    wpAny (model PySem.Challenge.rw_bd0031_02.row.prog w) A (call (.ref 42) [.ref q]) Q E s := by
  refine wpAny_call ?_
  k_dflt refine' code_fn (l := [("queue", Value.ref q)]) S R ?k1 ?k2 ?k3 ?k4 ?_ ?k6 ?k7 ?k8 ?k9 ?k10
  walk_at "m_in"
  intro L s1 hL S1
  have F0 := S.frs
  clear S
  refine hideQ ?_
  intro QF hQF
  refine hideE ?_
  intro EF hEF
  (try dsimp only)
  walk_at "m_go"
  rename St _ _ _ _ => mS
  refine list_pop0_empty mS ?_ (by walk_at "m_H") ?_
  · exact hh
  intro x s' F
  clear mS
  refine unhide hEF ?_
  refine fly_leave F (Around.frames_deeper hA) rfl fun s2 F2 => ?_
  exact kE _ _ (F2.sub (by walk_at "m_sub") F0)
end
end
section
section
variable {w : World} {c : Cx PySem.Challenge.rw_bd0031_02.row.prog w (MineTop.hd.heap_39 w.params)} {envs : List Env} {H : AH} {A : Around} {E Q : Value → Shared → Prop} {s : Shared}
theorem weight_get {a : Nat} {v : Int} {fs : List (Str × Value)} {R : Result → Shared → Prop} (S : St c envs H s) (Ro : Rm A 4 20) (ha : H a = some (.inst 253 fs)) (hw : fs.lookup ("_weight" : Str) = some (.int v 0))
    (k : ∀ tk s', St c envs H s' → R (.ok (.ret (.int v tk))) s') : codeAny (model PySem.Challenge.rw_bd0031_02.row.prog w) A (.call (.ref 162) ⟨[.ref a], []⟩) R s := by
  k_dflt refine' code_fn (l := [("self", Value.ref a)]) S Ro ?k1 ?k2 ?k3 ?k4 ?_ ?k6 ?k7 ?k8 ?k9 ?k10
  walk_at "m_in"
  intro L s1 hL S1
  have F0 := S.frs
  clear S
  refine hideQ ?_
  intro QF hQF
  refine hideE ?_
  intro EF hEF
  (try dsimp only)
  walk_at "m_go"
  all_goals ((try dsimp only); rename St _ _ _ _ => mS; exact k _ _ (mS.ret (by walk_at "m_sub") (by walk_at "m_frs")))
theorem weight_set {a : Nat} {v : Int} {tv : Tok} {fs : List (Str × Value)} {R : Result → Shared → Prop} (S : St c envs H s) (Ro : Rm A 4 20) (ha : H a = some (.inst 253 fs)) (hz : fs.length ≤ 1000) (h1 : 1 ≤ v) (h2 : v ≤ 256)
    (k : ∀ r s', St c envs (upd H a (.inst 253 (setk "_weight" (.int v 0) fs))) s' → R (.ok (.ret r)) s') : codeAny (model PySem.Challenge.rw_bd0031_02.row.prog w) A (.call (.ref 171) ⟨[.ref a, .int v tv], []⟩) R s := by
  k_dflt refine' code_fn (l := [("value", Value.int v 0), ("self", Value.ref a)]) S Ro ?k1 ?k2 ?k3 ?k4 ?_ ?k6 ?k7 ?k8 ?k9 ?k10
  walk_at "m_in"
  intro L s1 hL S1
  have F0 := S.frs
  clear S
  refine hideQ ?_
  intro QF hQF
  refine hideE ?_
  intro EF hEF
  (try dsimp only)
  walk_at "m_go"
  all_goals ((try dsimp only); rename St _ _ _ _ => mS; exact k _ _ (mS.ret (by walk_at "m_sub") (by walk_at "m_frs")))
end
end
section
section
variable {w : World} {c : Cx PySem.Challenge.rw_bd0031_02.row.prog w (MineTop.hd.heap_39 w.params)}
local macro_rules | `(tactic| walk_at "getAttr ref") => `(tactic| ((with_reducible show wpAny _ _ (getAttr (Value.ref _) (PySem.Str.ofString "weight") _) _ _ _); rename St _ _ _ _ => mS; k_dflt (refine' at_prop mS ?e ?g ?h ?a ?n ?t ?p ?_; (case e => walk_at "m_H"); (case g => k_is); (case h => k_is); (case a => k_is); (case n => k_is); (case t => k_is); (case p => k_is)); intro s1 S1; clear mS; k_dflt (refine' weight_get S1 ?R ?x ?l ?_; (case R => walk_at "m_R"); (case x => walk_at "m_H"); (case l => walk_at "m_lk")); intro tk s2 S2; clear S1; (try dsimp only); refine wpAny_pure ?_))
noncomputable def FinPre (P : Pl) (rk : Int → Nat) (i : Int) (e₀ : List Env) (L pl : Nat) (A' : Around) (Q' : Flow → Shared → Prop) (s' : Shared) : Prop :=
  ∃ (F' G' : AH) (M' : Mo) (pp : List (Int × Int)) (tsp : List Nat) (nx : Value) (d : Nd), Rm A' 14 120 ∧ Hd A' F' ∧ Frs e₀ F' ∧ Dj F' G' ∧ Tree 253 P M' G' ∧ OkM rk M' ∧ M' i = some d ∧ d.q.length + pp.length ≤ 1000 ∧ (∀ e ∈ pp, (∃ m, M' e.2 = some m) ∧ rk e.2 < rk i) ∧
    F' pl = some (.list (tsp.map .ref)) ∧ F' L = some (.ns [("next_stream", nx), ("popped_streams", .ref pl), ("self", .ref (P.D i))]) ∧ Ents P G' tsp pp ∧ St c e₀ (join F' G') s' ∧
    ∀ G'' s'', Dj F' G'' → Tree 253 P (fin i pp M') G'' → Tups G' G'' → St c e₀ (join F' G'') s'' → Q' .next s''
theorem sched_spec (P : Pl) (rk : Int → Nat) : ∀ (n : Nat) {M : Mo} {F G : AH} {i : Int} {nd : Nd} {A : Around} {E Q : Value → Shared → Prop} {s : Shared} {envs : List Env} (S : St c envs (join F G) s) (R : Rm A (20 * n + 20) (200 * n + 200)) (hA : A.frames = some envs) (hh : A.handled = none)
    (fF : Frs envs F) (dj : Dj F G) (t : Tree 253 P M G) (ok : OkM rk M) (hi : M i = some nd) (hr : rk i < n) (ha : nd.act = false)
    (k : ∀ v x M' G' s', er v = .int x 0 → sched n M i = (some x, M') → Dj F G' → Tree 253 P M' G' → Tups G G' → St c envs (join F G') s' → Q v s')
    (kE : ∀ e M' G' s', sched n M i = (none, M') → Dj F G' → Tree 253 P M' G' → Tups G G' → FlyT c envs (join F G') e (.type "IndexError") none s' → E (.ref e) s'),
    wpAny (model PySem.Challenge.rw_bd0031_02.row.prog w) A (call (.ref 201) [.ref (P.D i)]) Q E s
  | 0, M, F, G, i, nd, A, E, Q, s, envs, S, R, hA, hh, fF, dj, t, ok, hi, hr, ha, k, kE => by omega
  | n + 1, M, F, G, i, nd, A, E, Q, s, envs, S, R, hA, hh, fF, dj, t, ok, hi, hr, ha, k, kE => by
    obtain ⟨wt, kids, par, q, act, lw, df⟩ := nd
    simp only at ha
    subst ha
    have hself := join_r dj (t.inst i _ hi)
    refine wpAny_call ?_
    k_dflt refine' code_fn (l := [("self", Value.ref (P.D i))]) S R ?k1 ?k2 ?k3 ?k4 ?_ ?k6 ?k7 ?k8 ?k9 ?k10
    walk_at "m_in"
    intro L s1 hL S1
    have F0 := S.frs
    clear S
    refine hideQ ?_
    intro QF hQF
    refine hideE ?_
    intro EF hEF
    (try dsimp only)
    walk_at "m_st"
    rename St _ _ _ _ => mS
    rename (upd _ _ _ _ = none) => hp
    rename Nat => pl
    have hpL : pl ≠ L := none_ne hp
    have hp := none_up (none_up hp)
    have mS' := mS.env
    clear mS
    obtain ⟨ev, hev, mS⟩ := mS'
    refine with_fin (FinPre (c := c) P rk i ev L pl) ?_ ?_
    case refine_1 =>
      clear hp hpL mS k kE hself hi t dj hL F0 fF
      rintro A' E' Q' s' ⟨F', G', M', pp, tsp, nx, d, R', hd, fF, dj, t, ok', hi, hz, hpp, hpl, hL, hE, S', k⟩
      have hLj := join_l (G := G') hL
      walk_at "m_st"
      refine wpAny_For ?_
      walk1
      rename St _ _ _ _ => S'
      refine for_list (tsp.map .ref) (fun j Hc => ∃ G1, Hc = join F' G1 ∧ Dj F' G1 ∧ Tree 253 P (fin i (pp.take j) M') G1 ∧ Tups G' G1) S' ⟨G', rfl, dj, t, Tups.refl G'⟩ ?_ ?_ ?_ ?_
      · rintro j _ ⟨G1, rfl, d1, t1, u1⟩; exact join_l hpl
      · rintro j _ ⟨G1, rfl, d1, t1, u1⟩
        exact hd.sub (fun a o q => ⟨o, join_l q, .inl rfl⟩)
      · rintro it j _ s1 v x ⟨G1, rfl, dj1, t1, u1⟩ hit hpl1 hx hv S1
        rw [List.getElem?_map] at hx
        obtain ⟨tj, htj, rfl⟩ := Option.map_eq_some_iff.mp hx
        have hv := er_ref hv
        subst hv
        have hlt : j < pp.length := by
          have := (List.getElem?_eq_some_iff.mp htj).1
          rw [hE.len] at this; exact this
        obtain ⟨t0, ht0, hG⟩ := hE.get j hlt
        rw [htj] at ht0; cases ht0
        have hge : pp[j]? = some pp[j] := List.getElem?_eq_getElem hlt
        generalize pp[j] = e at hG hge
        have hpe := hpp e (List.mem_of_getElem? hge)
        have hGt := join_r dj1 (u1 _ _ hG)
        have hz1 : d.q.length + (pp.take j).length ≤ 1000 := by rw [List.length_take]; omega
        have hpp1 : ∀ e ∈ pp.take j, (∃ m, M' e.2 = some m) ∧ rk e.2 < rk i := fun x hx => hpp x (List.mem_of_mem_take hx)
        have RM := Res.fin (pp.take j) ok' hi hpp1 hz1
        obtain ⟨d1, hd1, hl1⟩ := fin_self (pp.take j) ok' hi hpp1 hz1
        obtain ⟨n1, hn1⟩ : ∃ n1, fin i (pp.take j) M' e.2 = some n1 := by
          obtain ⟨m, hm⟩ := hpe.1
          obtain ⟨m', hm', _⟩ := RM.like.fw _ m hm
          exact ⟨m', hm'⟩
        have hne : e.2 ≠ i := fun z => by have := hpe.2; rw [z] at this; omega
        have hnD : P.D e.2 ≠ P.D i := fun z => hne (t1.dd hn1 hd1 z)
        obtain ⟨ts1, hq1, he1⟩ := t1.ql i _ hd1
        have b1 := RM.ok.ok _ _ hn1
        have b2 := RM.ok.ok _ _ hd1
        have hself := join_r dj1 (t1.inst i _ hd1)
        have hch := join_r dj1 (t1.inst e.2 _ hn1)
        have hql := join_r dj1 hq1
        have hLj := join_l (G := G1) hL
        have he1' : Ents P (join F' G1) ts1 d1.q := he1.mono fun a xs q => join_r dj1 q
        have hs1 : ∀ x ∈ d1.q, StreamAt 253 P (join F' G1) x.2 := fun x hx => by
          obtain ⟨m, hm⟩ := (b2.2.2.2.2.2 x hx).1
          exact ⟨_, join_r dj1 (t1.inst _ _ hm), rfl⟩
        have nQp : P.QL i ≠ pl := fun z => by rw [z] at hq1; rw [dj1 _ _ hq1] at hpl; cases hpl
        have TS := fun t' h' => t1.fstep (t' := t') (ts := ts1) (e := e) hd1 hn1 hne h' hq1 he1
        rw [← fin_take hge] at TS
        have k1 : F' (P.D i) = none := dj1 _ _ (t1.inst i _ hd1)
        have k2 : F' (P.D e.2) = none := dj1 _ _ (t1.inst e.2 _ hn1)
        have k3 : F' (P.QL i) = none := dj1 _ _ hq1
        have hl2 : d1.q.length ≤ 1000 := b2.2.2.2.2.1
        have w1 := b1.1
        have w2 := b1.2.1
        have w3 := b1.2.2.1
        have w4 := b1.2.2.2.1
        have ne1 : L ≠ P.D i := ne_kind hLj hself (by intro z; cases z)
        have ne2 : L ≠ P.D e.2 := ne_kind hLj hch (by intro z; cases z)
        have ne3 : L ≠ P.QL i := ne_kind hLj hql (by intro z; cases z)
        have ne4 : P.D i ≠ P.QL i := ne_kind hself hql (by intro z; cases z)
        have ne5 : P.D e.2 ≠ P.QL i := ne_kind hch hql (by intro z; cases z)
        have ne6 : L ≠ it := ne_fresh hit hLj
        have ne7 : P.D i ≠ it := ne_fresh hit hself
        have ne8 : P.D e.2 ≠ it := ne_fresh hit hch
        have ne9 : P.QL i ≠ it := ne_fresh hit hql
        have ne10 : pl ≠ it := ne_fresh hit hpl1
        have ne11 : pl ≠ L := ne_kind hpl1 hLj (by intro z; cases z)
        have ne12 : pl ≠ P.D i := ne_kind hpl1 hself (by intro z; cases z)
        have ne13 : pl ≠ P.D e.2 := ne_kind hpl1 hch (by intro z; cases z)
        refine unpack2 S1 (upd_other (by walk_at "m_ne") hGt) ((hd.sub (fun a o q => ⟨o, join_l q, .inl rfl⟩)).fresh (by assumption)) ?_
        intro v1 v2 s2 h1 h2 S2
        clear S1
        obtain ⟨tk1, rfl⟩ := er_int h1
        have h2 := er_ref h2
        subst h2
        walk_at "m_st"
        rename St _ _ _ _ => mS
        have hse : StreamAt 253 P (join F' G1) e.2 := ⟨_, hch, rfl⟩
        rename (upd _ _ _ _ = none) => ht'
        rename Nat => t'
        refine heappush_spec (P := P) (ts := ts1) (es := d1.q) (e := (e.1 + (256 + n1.df) / n1.wt, e.2)) mS (by walk_at "m_R") (by walk_at "m_H") (by omega) (by walk_at "m_ents") ?_ (by walk_at "m_H") (by walk_at "m_str") ?_
        · intro x hx
          have := hs1 x hx
          walk_at "m_str"
        intro s3 S3
        have ht1 : join F' G1 t' = none := by walk_at "m_none1"
        obtain ⟨hf, hg⟩ := join_none ht1
        walk_at "m_st"
        rename St _ _ _ _ => S3
        have d4 := (((dj1.r (o := .inst 253 (flds P i { d1 with lw := e.1 })) k1).r (o := .inst 253 (flds P e.2 { n1 with df := (256 + n1.df) % n1.wt })) k2).r (o := .tup [.int (e.1 + (256 + n1.df) / n1.wt) 0, .ref (P.D e.2)]) hf).r (o := .list ((put (place (klt (e.1 + (256 + n1.df) / n1.wt, e.2)) d1.q) t' ts1).map .ref)) k3
        have i1 := t1.inst i _ hd1
        have i2 := t1.inst e.2 _ hn1
        have q1 : t' ≠ P.D i := (ne_fresh hg i1).symm
        have q2 : t' ≠ P.D e.2 := (ne_fresh hg i2).symm
        have q3 : P.QL i ≠ t' := ne_fresh hg hq1
        have q4 : it ≠ P.D i := Ne.symm ne7
        have q5 : t' ≠ it := none_ne (H := join F' G1) (o := .iter pl (j + 1)) (by walk_at "m_none1")
        refine LoopAt.mk ⟨_, rfl, d4, TS t' hg, (((u1.upd i1 (by intro xs z; cases z)).upd (upd_other hnD i2) (by intro xs z; cases z)).fresh (upd_other q2 (upd_other q1 hg))).upd (upd_other q3 (upd_other (Ne.symm ne5) (upd_other (Ne.symm ne4) hq1))) (by intro xs z; cases z)⟩ ?_ ?_
        · rw [← upd_join_r k3, ← upd_join_r hf, ← upd_join_r k2, ← upd_join_r k1]
          exact upd_other (Ne.symm ne9) (upd_other (Ne.symm q5) (upd_other (Ne.symm ne8) (upd_other q4 hit)))
        · rw [← upd_join_r k3, ← upd_join_r hf, ← upd_join_r k2, ← upd_join_r k1]
          exact S3.sub (by walk_at "m_sub") (by walk_at "m_frs")
      · rintro _ s1 ⟨G1, rfl, d1, t1, u1⟩ S1
        rw [List.length_map, hE.len, List.take_length] at t1
        walk_at "m_st"
        rename St _ _ _ _ => S1
        exact k _ _ d1 t1 u1 S1
    case refine_2 =>
      intro finl
      refine wpAny_Try_finally ?_
      obtain ⟨fp, gp⟩ := join_none hp
      obtain ⟨fl, gl⟩ := join_none hL
      have FF : ∀ X Y, Frs ev (upd (upd F pl (.list X)) L (.ns Y)) := fun X Y => by
        rw [hev]
        exact Frs.cons ((fF.fresh fp).fresh (upd_other (Ne.symm hpL) fl)) (upd_self ..) rfl (fun z => absurd z (show ScopeKind.function ≠ .module by decide))
      have S2 := mS.sub (envs' := ev) (H := upd (upd (join F G) pl (.list [])) L (.ns [("next_stream", .none), ("popped_streams", .ref pl), ("self", .ref (P.D i))])) (by walk_at "m_sub") (by rw [upd_join, upd_join]; exact (FF _ _).join)
      clear mS F0
      rw [upd_join, upd_join] at S2
      walk1
      refine while_h (fun m s' => ∃ (pp : List (Int × Int)) (Mc : Mo) (Gc : AH) (tsp : List Nat) (nx : Option Int) (dc : Nd), m = dc.q.length ∧ Mc i = some dc ∧
        ((nx = none ∧ goL (sched n) i q M [] = goL (sched n) i dc.q Mc pp) ∨ ∃ x, nx = some x ∧ goL (sched n) i q M [] = (some x, Mc, pp)) ∧
        Res rk i M Mc ∧ dc.q.length + pp.length = q.length ∧ (∀ e ∈ pp, e ∈ q) ∧ (∀ e ∈ dc.q, e ∈ q) ∧
        Dj (upd (upd F pl (.list (tsp.map .ref))) L (.ns [("next_stream", nx.elim .none (.int · 0)), ("popped_streams", .ref pl), ("self", .ref (P.D i))])) Gc ∧ Tree 253 P Mc Gc ∧ Tups G Gc ∧ Ents P Gc tsp pp ∧
        St c ev (join (upd (upd F pl (.list (tsp.map .ref))) L (.ns [("next_stream", nx.elim .none (.int · 0)), ("popped_streams", .ref pl), ("self", .ref (P.D i))])) Gc) s') ?_ q.length
        ⟨[], M, G, [], none, _, rfl, hi, .inl ⟨rfl, rfl⟩, Res.refl ok, by simp, (fun e he => by cases he), (fun e he => he), (dj.l gp).l gl, t, Tups.refl G, trivial, S2⟩
      rintro m s2 ⟨pp, Mc, Gc, tsp, nx, dc, rfl, hc, hrel, RM, hlen, hmem, hqm, djc, tc, uc, hE, S3⟩
      intro QB QE EE hQB hQE hEE
      obtain ⟨FN, hFN⟩ : ∃ FN, FN = upd (upd F pl (.list (tsp.map .ref))) L (.ns [("next_stream", nx.elim .none (.int · 0)), ("popped_streams", .ref pl), ("self", .ref (P.D i))]) := ⟨_, rfl⟩
      rw [← hFN] at djc S3
      have hpF : FN pl = some (.list (tsp.map .ref)) := by rw [hFN]; exact upd_other hpL (upd_self ..)
      have hLF : FN L = some (.ns [("next_stream", nx.elim .none (.int · 0)), ("popped_streams", .ref pl), ("self", .ref (P.D i))]) := by rw [hFN]; exact upd_self ..
      have fFN : Frs ev FN := by rw [hFN]; exact FF _ _
      have hpn := join_l (G := Gc) hpF
      have hLn := join_l (G := Gc) hLF
      have gpl : Gc pl = none := djc.has hpF
      have gL : Gc L = none := djc.has hLF
      have hself' := join_r djc (tc.inst i _ hc)
      obtain ⟨ts, hq1, hEq⟩ := tc.ql i _ hc
      have hql := join_r djc hq1
      have ne1 : L ≠ P.D i := ne_kind hLn hself' (by intro z; cases z)
      have ne2 : L ≠ P.QL i := ne_kind hLn hql (by intro z; cases z)
      have ne3 : P.D i ≠ P.QL i := ne_kind hself' hql (by intro z; cases z)
      have ne4 : pl ≠ P.D i := ne_kind hpn hself' (by intro z; cases z)
      have ne5 : pl ≠ P.QL i := fun z => by rw [z, hq1] at gpl; cases gpl
      have kQ : FN (P.QL i) = none := djc _ _ hq1
      have okc := RM.ok.ok i _ hc
      clear hself S2 hL hp
      have okq := ok.ok i _ hi
      have hppq : ∀ e ∈ pp, (∃ m, Mc e.2 = some m) ∧ rk e.2 < rk i := fun e he => by
        obtain ⟨⟨m, hm⟩, hr'⟩ := okq.2.2.2.2.2 e (hmem e he)
        obtain ⟨m', hm', _⟩ := RM.like.fw _ m hm
        exact ⟨⟨m', hm'⟩, hr'⟩
      have hq1000 : q.length ≤ 1000 := okq.2.2.2.2.1
      have htl := hE.len
      have hFFN : Sub F FN := by rw [hFN]; exact ((Sub.refl F).fresh fp).fresh fl
      cases nx with
      | some x =>
        simp only [Option.elim_some] at hLF hLn
        w_strict (repeat' (first | with_reducible refine finl _ _ _ _ ?_ | walk1 | (dsimp only; walk1) | ((with_reducible refine unhide (by assumption) ?_); (try dsimp only))))
        rename St _ _ _ _ => S4
        have hgo : goL (sched n) i q M [] = (some x, Mc, pp) := by
          rcases hrel with ⟨z, _⟩ | ⟨y, z, hy⟩
          · cases z
          · cases z; exact hy
        refine ⟨FN, Gc, Mc, pp, tsp, .int x 0, dc, by walk_at "m_R", .inl hh, fFN, djc, tc, RM.ok, hc, by have := okq.2.2.2.2.1; simp only at this; omega, hppq, hpF, hLF, hE, S4, fun G2 s6 d2 t2 u2 S6 => ?_⟩
        have hLn := join_l (G := G2) hLF
        walk_at "m_st"
        (try dsimp only)
        rename St _ _ _ _ => S6
        exact k _ x _ G2 _ rfl (sched_eq n hi hgo) (d2.sub hFFN) t2 (uc.trans u2) (S6.sub (sub_join d2 hFFN) fF.join)
      | none =>
        simp only [Option.elim_none] at hLF hLn
        walk_at "m_st"
        cases hcq : dc.q with
        | nil =>
          rw [hcq] at hEq
          cases ts with
          | cons _ _ => exact hEq.elim
          | nil =>
          rename St _ _ _ _ => S4
          refine heappop_empty S4 (by walk_at "m_R") (by rw [hev]; exact Around.frames_deeper hA) hh (by walk_at "m_H") ?_
          intro e s5 F5
          rw [hev] at F5
          refine unhide hEE ?_
          refine fly_noted (.inl F5) (Around.frames_deeper hA) rfl fun s6 F6 => ?_
          refine fly_came F6 fun s7 F7 => ?_
          refine fly_note (.inl F7) (Around.frames_deeper hA) rfl fun s8 F8 => ?_
          refine fin_raised (.inl F8) (Around.frames_deeper hA) rfl fun T s9 he hT hTe S9 => ?_
          refine finl _ _ _ _ ?_
          obtain ⟨fe, ge⟩ := join_none he
          obtain ⟨fT, gT⟩ := join_none hT
          rw [upd_join, upd_join, ← hev] at S9
          have hgo : goL (sched n) i q M [] = (none, Mc, pp) := by
            rcases hrel with ⟨_, z⟩ | ⟨y, z, hy⟩
            · rw [z, hcq]; rfl
            · cases z
          have fe2 : upd FN T .tb e = none := upd_other (Ne.symm hTe) fe
          have nL : L ≠ e := ne_fresh fe hLF
          have nL2 : L ≠ T := ne_fresh fT hLF
          have np : pl ≠ e := ne_fresh fe hpF
          have np2 : pl ≠ T := ne_fresh fT hpF
          refine ⟨_, Gc, Mc, pp, tsp, .none, dc, by walk_at "m_R", .inr ⟨e, _, _, _, rfl, upd_self .., .inl rfl⟩, (fFN.fresh fT).fresh fe2, (djc.l gT).l ge, tc, RM.ok, hc, by omega, hppq, upd_other np (upd_other np2 hpF), upd_other nL (upd_other nL2 hLF), hE, S9, fun G2 s6 d2 t2 u2 S6 => ?_⟩
          have d3 : Dj FN G2 := d2.sub (((Sub.refl FN).fresh fT).fresh fe)
          have g2e : G2 e = none := d2.has (upd_self ..)
          have g2T : G2 T = none := d2.has (upd_other hTe (upd_self ..))
          rw [← upd_join, ← upd_join] at S6
          have F6 : FlyT c ev (join FN G2) e _ none s6 := FlyT.close S6 ((join_n fe).trans g2e) ((join_n fT).trans g2T) hTe
          refine fly_passOn F6 fun s7 F7 => ?_
          rw [hev] at F7
          refine unhide hEF ?_
          refine fly_leave (.inl F7) (Around.frames_deeper hA) rfl fun s8 F8 => ?_
          exact kE e _ G2 _ (sched_eq n hi hgo) (d3.sub hFFN) t2 (uc.trans u2) (F8.sub (sub_join d3 hFFN) fF.join)
        | cons e r =>
          rw [hcq] at hEq
          cases ts with
          | nil => exact hEq.elim
          | cons t0 ts' =>
          rename St _ _ _ _ => S4
          refine heappop_spec S4 (by walk_at "m_R") (x := .ref t0) (xs := ts'.map .ref) (by walk_at "m_H") ?_ ?_
          · have := hEq.2.len
            rw [hcq] at okc
            simp only [List.length_cons] at okc
            rw [List.length_map, this]; omega
          intro v s5 hv S5
          have hv := er_ref hv
          subst hv
          clear S4
          have hT0 := join_r djc hEq.1
          obtain ⟨⟨n1, hn1⟩, hre⟩ := okc.2.2.2.2.2 e (by rw [hcq]; exact .head _)
          obtain ⟨wt1, kids1, par1, q1, act1, lw1, df1⟩ := n1
          have hch := join_r djc (tc.inst e.2 _ hn1)
          have ne6 : L ≠ t0 := ne_kind hLn hT0 (by intro z; cases z)
          have ne7 : pl ≠ t0 := ne_kind hpn hT0 (by intro z; cases z)
          have ne8 : P.QL i ≠ t0 := ne_kind hql hT0 (by intro z; cases z)
          have ne9 : L ≠ P.D e.2 := ne_kind hLn hch (by intro z; cases z)
          have ne10 : pl ≠ P.D e.2 := ne_kind hpn hch (by intro z; cases z)
          have ne11 : P.QL i ≠ P.D e.2 := ne_kind hql hch (by intro z; cases z)
          walk_at "m_st"
          rename St _ _ _ _ => S6
          refine unpack2 S6 (x := .int e.1 0) (y := .ref (P.D e.2)) (by walk_at "m_H") (.inl hh) ?_
          intro v1 v2 s7 h1 h2 S7
          clear S6
          obtain ⟨tk1, rfl⟩ := er_int h1
          have h2 := er_ref h2
          subst h2
          have hg : goL (sched n) i q M [] = goL (sched n) i (e :: r) Mc pp := by
            rcases hrel with ⟨_, z⟩ | ⟨y, z, hy⟩
            · rw [z, hcq]
            · cases z
          have hlen2 : r.length + (pp ++ [e]).length = q.length := by rw [hcq] at hlen; simp only [List.length_cons, List.length_append, List.length_nil] at hlen ⊢; omega
          have hmem2 : ∀ x ∈ pp ++ [e], x ∈ q := fun x hx => by
            rcases List.mem_append.mp hx with hx | hx
            · exact hmem x hx
            · cases List.mem_singleton.mp hx
              exact hqm e (by rw [hcq]; exact .head _)
          have RP := Res.pop RM.ok hc hcq
          have tp := tc.setq hc hEq.2
          have up := uc.upd (o' := .list (ts'.map .ref)) hq1 (by intro xs z; cases z)
          have ep : Ents P (upd Gc (P.QL i) (.list (ts'.map .ref))) (tsp ++ [t0]) (pp ++ [e]) := (hE.append (ts' := [t0]) (q' := [e]) ⟨hEq.1, trivial⟩).turn hq1 (by intro xs z; cases z)
          have gp2 : upd Gc (P.QL i) (.list (ts'.map .ref)) pl = none := upd_other ne5 gpl
          have gl2 : upd Gc (P.QL i) (.list (ts'.map .ref)) L = none := upd_other ne2 gL
          have e1 : ∀ X Y, upd (upd F pl X) L Y = upd (upd FN pl X) L Y := fun X Y => by rw [hFN, fn_re hpL]
          have dp : ∀ X Y, Dj (upd (upd F pl X) L Y) (upd Gc (P.QL i) (.list (ts'.map .ref))) := fun X Y => by rw [e1]; exact ((djc.r kQ).l gp2).l gl2
          cases act1 with
          | true =>
            walk_at "m_st"
            rename St _ _ _ _ => S8
            refine ⟨r.length, by first | simp | (rw [hcq]; exact Nat.lt_succ_self _), pp ++ [e], _, _, tsp ++ [t0], some e.2, { dc with q := r }, rfl, Mo.put_self .., .inr ⟨e.2, rfl, hg.trans (goL_act hc hn1 rfl)⟩, RM.trans RP, hlen2, hmem2, (fun x hx => hqm x (by rw [hcq]; exact .tail _ hx)), dp _ _, tp, up, ep, S8.sub ?_ (FF _ _).join⟩
            rw [e1, ← upd_join, ← upd_join, ← upd_join_r kQ]
            simp only [List.map_append, List.map_cons, List.map_nil]
            walk_at "m_sub"
          | false =>
            walk_at "m_st"
            refine wpAny_Try_except ?_
            walk_at "m_st"
            rename St _ _ _ _ => S8
            have S9 := S8.sub (H := join (upd (upd F pl (.list ((tsp ++ [t0]).map .ref))) L (.ns [("child", .ref (P.D e.2)), ("next_stream", .none), ("popped_streams", .ref pl), ("self", .ref (P.D i))])) (upd Gc (P.QL i) (.list (ts'.map .ref)))) (by
              rw [e1, ← upd_join, ← upd_join, ← upd_join_r kQ]
              simp only [List.map_append, List.map_cons, List.map_nil]
              walk_at "m_sub") (FF _ _).join
            clear S8
            have hne : e.2 ≠ i := fun z => by rw [z] at hre; omega
            have hn2 : (Mc.put i { dc with q := r }) e.2 = some _ := (Mo.put_ne hne).trans hn1
            have RS := Res.sched n RP.ok ⟨_, hn2⟩ (by omega)
            have hfar := RS.far i hre
            have hii := hfar.trans (Mo.put_self ..)
            refine sched_spec P rk n S9 (by walk_at "m_R") (by rw [hev]; exact Around.frames_deeper hA) hh (FF _ _) (dp _ _) tp RP.ok hn2 (by omega) rfl ?_ ?_
            · intro v x M2 G2 s10 hv hs d2 t2 u2 S10
              rw [hs] at RS hii
              obtain ⟨tk, rfl⟩ := er_int hv
              have hLj := join_l (G := G2) (upd_self (upd F pl (.list ((tsp ++ [t0]).map .ref))) L (.ns [("child", .ref (P.D e.2)), ("next_stream", .none), ("popped_streams", .ref pl), ("self", .ref (P.D i))]))
              clear S9
              walk_at "m_st"
              rename St _ _ _ _ => S12
              have d3 : ∀ Y, Dj (upd (upd F pl (.list ((tsp ++ [t0]).map .ref))) L (.ns Y)) G2 := fun Y => by
                have := d2.l (o := .ns Y) (d2.has (upd_self ..))
                rwa [upd_upd] at this
              refine ⟨r.length, by first | simp | (rw [hcq]; exact Nat.lt_succ_self _), pp ++ [e], M2, G2, tsp ++ [t0], some x, { dc with q := r }, rfl, hii, .inr ⟨x, rfl, hg.trans (goL_some hc hn1 rfl hs)⟩, RM.trans (RP.trans (RS.up (Nat.le_of_lt hre))), hlen2, hmem2, (fun x hx => hqm x (by rw [hcq]; exact .tail _ hx)), d3 _, t2, up.trans u2, ep.mono u2, S12.sub ?_ (FF _ _).join⟩
              rw [← upd_upd (upd F pl (.list ((tsp ++ [t0]).map .ref))) L (.ns [("child", .ref (P.D e.2)), ("next_stream", .none), ("popped_streams", .ref pl), ("self", .ref (P.D i))]), ← upd_join]
              walk_at "m_sub"
            · intro e2 M2 G2 s10 hs d2 t2 u2 F10
              rw [hs] at RS hii
              rw [hev] at F10
              refine caught_B (T' := "IndexError") (.inl F10) (Around.frames_deeper hA) rfl idx_exc idx_nt idx_sub (by k_is) (by boot_by_name) (by decide) fun T s11 he hT hTe S11 => ?_
              walk_at "m_st"
              have hLj := join_l (G := G2) (upd_self (upd F pl (.list ((tsp ++ [t0]).map .ref))) L (.ns [("child", .ref (P.D e.2)), ("next_stream", .none), ("popped_streams", .ref pl), ("self", .ref (P.D i))]))
              have nL1 : L ≠ e2 := ne_fresh he hLj
              have nL2 : L ≠ T := ne_fresh hT hLj
              have d3 : ∀ Y, Dj (upd (upd F pl (.list ((tsp ++ [t0]).map .ref))) L (.ns Y)) G2 := fun Y => by
                have := d2.l (o := .ns Y) (d2.has (upd_self ..))
                rwa [upd_upd] at this
              refine ⟨r.length, by first | simp | (rw [hcq]; exact Nat.lt_succ_self _), pp ++ [e], M2, G2, tsp ++ [t0], none, { dc with q := r }, rfl, hii, .inl ⟨rfl, hg.trans (goL_none hc hn1 rfl hs)⟩, RM.trans (RP.trans (RS.up (Nat.le_of_lt hre))), hlen2, hmem2, (fun x hx => hqm x (by rw [hcq]; exact .tail _ hx)), d3 _, t2, up.trans u2, ep.mono u2, S11.sub ?_ (FF _ _).join⟩
              rw [← upd_upd (upd F pl (.list ((tsp ++ [t0]).map .ref))) L (.ns [("child", .ref (P.D e.2)), ("next_stream", .none), ("popped_streams", .ref pl), ("self", .ref (P.D i))]), ← upd_join]
              walk_at "m_sub"
end
end
section
section
variable {w : World} {c : Cx PySem.Challenge.rw_bd0031_02.row.prog w (MineTop.hd.heap_39 w.params)} {envs : List Env} {H F G : AH} {A : Around} {E Q : Value → Shared → Prop} {s : Shared}
theorem dunder_next {rk : Int → Nat} {N : Nat} {M : Mo} {ks : List Int} {pt : Nat} {nd : Nd} (S : St c envs (join F G) s) (R : Rm A (20 * N + 30) (200 * N + 260)) (hA : A.frames = some envs) (hh : A.handled = none)
    (fF : Frs envs F) (dj : Dj F G) (t : PTree 253 347 M ks pt G) (ok : OkM rk M) (hi : M 0 = some nd) (hr : rk 0 < N) (ha : nd.act = false)
    (k : ∀ v x M' G' s', er v = .int x 0 → sched N M 0 = (some x, M') → Dj F G' → PTree 253 347 M' ks pt G' → St c envs (join F G') s' → Q v s')
    (kE : ∀ e h T M' G' s', sched N M 0 = (none, M') → Dj F G' → PTree 253 347 M' ks pt G' → join F G' h = none → FlyT c envs (upd (join F G') h (.exc (.type "IndexError") (some T) none)) e (.ref 65) (some h) s' → E (.ref e) s') :
    wpAny (model PySem.Challenge.rw_bd0031_02.row.prog w) A (call (.ref 337) [.ref pt]) Q E s := by
  obtain ⟨P, dd, Gt, p, f1, f2, d0, dj1, ej⟩ := t.split dj
  rw [ej] at S
  obtain ⟨FP, hFP⟩ : ∃ FP, FP = upd (upd F pt (.inst 347 (pfl P dd))) dd (.imap (pdict P ks)) := ⟨_, rfl⟩
  have fFP : Frs envs FP := by rw [hFP]; exact (fF.fresh f1).fresh (upd_other p.ne.symm f2)
  have hptF : FP pt = some (.inst 347 (pfl P dd)) := by rw [hFP]; exact upd_other p.ne (upd_self ..)
  rw [← hFP] at S dj1
  have hpt := join_l (G := Gt) hptF
  have hD0 := join_r dj1 (p.tree.inst 0 _ hi)
  refine wpAny_call ?_
  k_dflt refine' code_fn (l := [("self", Value.ref pt)]) S R ?k1 ?k2 ?k3 ?k4 ?_ ?k6 ?k7 ?k8 ?k9 ?k10
  walk_at "m_in"
  intro L s1 hL S1
  have F0 := S.frs
  clear S
  refine hideQ ?_
  intro QF hQF
  refine hideE ?_
  intro EF hEF
  (try dsimp only)
  walk_at "m_st"
  refine wpAny_Try_except ?_
  walk_at "m_st"
  obtain ⟨fl, gl⟩ := join_none hL
  rename St _ _ _ _ => S2
  rw [upd_join] at S2
  have fF2 : ∀ env : Env, env.frame = some L → env.scope.kind ≠ .module → Frs (env :: envs) (upd FP L (.ns [("self", .ref pt)])) := fun env h k => Frs.cons (fFP.fresh fl) (upd_self ..) h k
  have RS := Res.sched N ok ⟨_, hi⟩ hr
  have sF : Sub FP (upd FP L (.ns [("self", .ref pt)])) := (Sub.refl FP).fresh fl
  refine sched_spec P rk N S2 (by walk_at "m_R") (Around.frames_deeper hA) hh (fF2 _ rfl (fun z => absurd z (show ScopeKind.function ≠ .module by decide))) (dj1.l gl) p.tree ok hi hr ha ?_ ?_
  · intro v x M' G' s2 hv hs d2 t2 u2 S3
    rw [hs] at RS
    have d3 : Dj FP G' := d2.sub sF
    obtain ⟨b1, b2, b3⟩ := PTree.back p f1 f2 (hFP ▸ d3) t2 RS.like
    walk_at "m_st"
    (try dsimp only)
    rename St _ _ _ _ => S4
    have S5 := S4.sub (sub_join d2 sF) fFP.join
    rw [hFP, b3] at S5
    exact k v x M' _ _ hv hs b2 b1 S5
  · intro e M' G' s2 hs d2 t2 u2 F3
    rw [hs] at RS
    have d3 : Dj FP G' := d2.sub sF
    obtain ⟨b1, b2, b3⟩ := PTree.back p f1 f2 (hFP ▸ d3) t2 RS.like
    refine caught_B (.inl F3) (Around.frames_deeper hA) rfl idx_exc idx_nt idx_sub (by k_is) (by boot_by_name) (by decide) fun T s3 he hT hTe S4 => ?_
    refine wpAny_execs_cons ?_
    refine Raise_ S4 (.inr ⟨e, _, _, _, rfl, upd_self .., .inl rfl⟩) (by k_is) (by k_exc) PySem.F.excBase_Exception ?_
    intro x ctx s4 hx hctx S5
    obtain rfl : ctx = some e := by
      cases ctx with
      | none => cases hctx
      | some y => cases hctx; rfl
    refine fly_noted (.inr ⟨hx, S5⟩) (Around.frames_deeper hA) rfl fun s5 F5 => ?_
    refine fly_came F5 fun s6 F6 => ?_
    refine unhide hEF ?_
    refine fly_leave (.inl F6) (Around.frames_deeper hA) rfl fun s7 F7 => ?_
    have he2 : join FP G' e = none := by rw [← upd_join] at he; exact none_up he
    have hT2 : join FP G' T = none := by rw [← upd_join] at hT; exact none_up hT
    rw [hFP, b3] at he2
    have F8 := F7.sub (H := upd (join FP G') e (.exc (.type "IndexError") (some T) none)) (Sub.upd2 ((sub_join d2 sF).fresh hT2) (.inl rfl)) (fFP.join.fresh (by rw [hFP, b3]; exact he2))
    rw [hFP, b3] at F8
    exact kE x e T M' _ s7 hs b2 b1 he2 F8
theorem next_spec {rk : Int → Nat} {N : Nat} {M : Mo} {ks : List Int} {pt : Nat} {nd : Nd} (S : St c envs (join F G) s) (R : Rm A (20 * N + 40) (200 * N + 290)) (hA : A.frames = some envs) (hh : A.handled = none)
    (fF : Frs envs F) (dj : Dj F G) (t : PTree 253 347 M ks pt G) (ok : OkM rk M) (hi : M 0 = some nd) (hr : rk 0 < N) (ha : nd.act = false)
    (k : ∀ v x M' G' s', er v = .int x 0 → sched N M 0 = (some x, M') → Dj F G' → PTree 253 347 M' ks pt G' → St c envs (join F G') s' → Q v s')
    (kE : ∀ e h T M' G' s', sched N M 0 = (none, M') → Dj F G' → PTree 253 347 M' ks pt G' → join F G' h = none → FlyT c envs (upd (join F G') h (.exc (.type "IndexError") (some T) none)) e (.ref 65) (some h) s' → E (.ref e) s') :
    wpAny (model PySem.Challenge.rw_bd0031_02.row.prog w) A (call (.ref 344) [.ref pt]) Q E s := by
  obtain ⟨P, dd, Gt, p, f1, f2, d0, dj1, ej⟩ := t.split dj
  have hpt : join F G pt = some (.inst 347 (pfl P dd)) := by rw [ej]; exact join_l (upd_other p.ne (upd_self ..))
  refine wpAny_call ?_
  k_dflt refine' code_fn (l := [("self", Value.ref pt)]) S R ?k1 ?k2 ?k3 ?k4 ?_ ?k6 ?k7 ?k8 ?k9 ?k10
  walk_at "m_in"
  intro L s1 hL S1
  have F0 := S.frs
  clear S
  refine hideQ ?_
  intro QF hQF
  refine hideE ?_
  intro EF hEF
  (try dsimp only)
  walk_at "m_st"
  obtain ⟨fl, gl⟩ := join_none hL
  rename St _ _ _ _ => S2
  rw [upd_join] at S2
  have fF2 : ∀ env : Env, env.frame = some L → env.scope.kind ≠ .module → Frs (env :: envs) (upd F L (.ns [("self", .ref pt)])) := fun env h k => Frs.cons (fF.fresh fl) (upd_self ..) h k
  have sF : Sub F (upd F L (.ns [("self", .ref pt)])) := (Sub.refl F).fresh fl
  refine dunder_next S2 (by walk_at "m_R") (Around.frames_deeper hA) hh (fF2 _ rfl (fun z => absurd z (show ScopeKind.function ≠ .module by decide))) (dj.l gl) t ok hi hr ha ?_ ?_
  · intro v x M' G' s2 hv hs d2 t2 S3
    walk_at "m_st"
    (try dsimp only)
    rename St _ _ _ _ => S4
    exact k v x M' _ _ hv hs (d2.sub sF) t2 (S4.sub (sub_join d2 sF) fF.join)
  · intro e h T M' G' s2 hs d2 t2 hhn F3
    refine unhide hEF ?_
    refine fly_leave (.inl F3) (Around.frames_deeper hA) rfl fun s7 F7 => ?_
    have he2 : join F G' h = none := by rw [← upd_join] at hhn; exact none_up hhn
    exact kE e h T M' _ s7 hs (d2.sub sF) t2 he2 (F7.sub (Sub.upd2 (sub_join d2 sF) (.inl rfl)) (fF.join.fresh he2))
end
end
section
section
variable {w : World} {c : Cx PySem.Challenge.rw_bd0031_02.row.prog w (MineTop.hd.heap_39 w.params)} {envs : List Env} {H F G : AH} {A : Around} {E Q : Value → Shared → Prop} {s : Shared}
local macro_rules | `(tactic| walk_at "setAttr ref") => `(tactic| ((with_reducible show wpAny _ _ (setAttr (Value.ref _) (PySem.Str.ofString "weight") _) _ _ _); rename St _ _ _ _ => mS; k_dflt (refine' at_pset mS ?e ?g ?h ?a ?n ?t ?_; (case e => walk_at "m_H"); (case g => k_is); (case h => k_is); (case a => k_is); (case n => k_is); (case t => k_is)); intro s1 S1; clear mS; k_dflt (refine' weight_set S1 ?R ?x ?z ?l ?m ?_; (case R => walk_at "m_R"); (case x => walk_at "m_H"); (case z => walk_at "m_len"); (case l => omega); (case m => omega)); intro r s2 S2; clear S1; (try dsimp only)))
theorem stream_init {x : Nat} {i v : Int} {t1 t2 : Tok} {R : Result → Shared → Prop} (S : St c envs H s) (Ro : Rm A 8 60) (hx : H x = some (.inst 253 [])) (h1 : 1 ≤ v) (h2 : v ≤ 256)
    (k : ∀ (cl ql : Nat) s', H cl = none → H ql = none → cl ≠ ql → St c envs (upd (upd (upd H x (.inst 253 (nfl i v cl ql))) cl (.list [])) ql (.list [])) s' → R (.ok (.ret .none)) s') :
    codeAny (model PySem.Challenge.rw_bd0031_02.row.prog w) A (.call (.ref 155) ⟨[.ref x, .int i t1, .int v t2], []⟩) R s := by
  k_dflt refine' code_fn (l := [("weight", Value.int v 0), ("stream_id", Value.int i 0), ("self", Value.ref x)]) S Ro ?k1 ?k2 ?k3 ?k4 ?_ ?k6 ?k7 ?k8 ?k9 ?k10
  walk_at "m_in"
  intro L s1 hL S1
  have F0 := S.frs
  clear S
  refine hideQ ?_
  intro QF hQF
  refine hideE ?_
  intro EF hEF
  (try dsimp only)
  walk_at "m_go"
  rename St _ _ _ _ => mS
  rename (upd (upd (upd H _ _) _ _) _ _ _ = none) => hc
  have c0 := none_up (none_up (none_up hc))
  rename (upd (upd (upd (upd _ _ _) _ _) _ _) _ _ _ = none) => hq
  have q0 := none_up (none_up (none_up (none_up (none_up (none_up hq)))))
  have nqc := none_ne (none_up (none_up hq))
  have nq := none_ne hq
  have nc := none_ne hc
  have ncl := none_ne (none_up (none_up hc))
  have nql := none_ne (none_up (none_up (none_up (none_up (none_up hq)))))
  exact k _ _ _ c0 q0 (Ne.symm nqc) (mS.ret (by walk_at "m_sub") (by walk_at "m_frs"))
theorem stream_new {i v : Int} {t1 t2 : Tok} {R : Result → Shared → Prop} (S : St c envs H s) (Ro : Rm A 10 80) (h1 : 1 ≤ v) (h2 : v ≤ 256)
    (k : ∀ (x cl ql : Nat) s', H x = none → H cl = none → H ql = none → x ≠ cl → x ≠ ql → cl ≠ ql → St c envs (upd (upd (upd H x (.inst 253 (nfl i v cl ql))) cl (.list [])) ql (.list [])) s' → R (.ok (.ret (.ref x))) s') :
    codeAny (model PySem.Challenge.rw_bd0031_02.row.prog w) A (.call (.ref 253) ⟨[.int i t1, .int v t2], []⟩) R s := by
  k_dflt refine' make_ S ?a ?b ?c ?_
  case a => k_is
  case b => k_is
  case c => k_is
  intro x s1 hx S1
  refine stream_init S1 (Rm.under (by walk_at "m_R")) (upd_self ..) h1 h2 fun cl ql s2 hc hq n S2 => ?_
  rw [upd_upd] at S2
  exact ⟨rfl, k x cl ql s2 hx (none_up hc) (none_up hq) (Ne.symm (none_ne hc)) (Ne.symm (none_ne hq)) n S2⟩
theorem stream_init_kw {x : Nat} {i v : Int} {t1 t2 : Tok} {R : Result → Shared → Prop} (S : St c envs H s) (Ro : Rm A 8 60) (hx : H x = some (.inst 253 [])) (h1 : 1 ≤ v) (h2 : v ≤ 256)
    (k : ∀ (cl ql : Nat) s', H cl = none → H ql = none → cl ≠ ql → St c envs (upd (upd (upd H x (.inst 253 (nfl i v cl ql))) cl (.list [])) ql (.list [])) s' → R (.ok (.ret .none)) s') :
    codeAny (model PySem.Challenge.rw_bd0031_02.row.prog w) A (.call (.ref 155) ⟨[.ref x], [("stream_id", .int i t1), ("weight", .int v t2)]⟩) R s := by
  k_dflt refine' code_fn (l := [("weight", Value.int v 0), ("stream_id", Value.int i 0), ("self", Value.ref x)]) S Ro ?k1 ?k2 ?k3 ?k4 ?_ ?k6 ?k7 ?k8 ?k9 ?k10
  walk_at "m_in"
  intro L s1 hL S1
  have F0 := S.frs
  clear S
  refine hideQ ?_
  intro QF hQF
  refine hideE ?_
  intro EF hEF
  (try dsimp only)
  walk_at "m_go"
  rename St _ _ _ _ => mS
  rename (upd (upd (upd H _ _) _ _) _ _ _ = none) => hc
  have c0 := none_up (none_up (none_up hc))
  rename (upd (upd (upd (upd _ _ _) _ _) _ _) _ _ _ = none) => hq
  have q0 := none_up (none_up (none_up (none_up (none_up (none_up hq)))))
  have nqc := none_ne (none_up (none_up hq))
  have nq := none_ne hq
  have nc := none_ne hc
  have ncl := none_ne (none_up (none_up hc))
  have nql := none_ne (none_up (none_up (none_up (none_up (none_up hq)))))
  exact k _ _ _ c0 q0 (Ne.symm nqc) (mS.ret (by walk_at "m_sub") (by walk_at "m_frs"))
theorem stream_new_kw {i v : Int} {t1 t2 : Tok} {R : Result → Shared → Prop} (S : St c envs H s) (Ro : Rm A 10 80) (h1 : 1 ≤ v) (h2 : v ≤ 256)
    (k : ∀ (x cl ql : Nat) s', H x = none → H cl = none → H ql = none → x ≠ cl → x ≠ ql → cl ≠ ql → St c envs (upd (upd (upd H x (.inst 253 (nfl i v cl ql))) cl (.list [])) ql (.list [])) s' → R (.ok (.ret (.ref x))) s') :
    codeAny (model PySem.Challenge.rw_bd0031_02.row.prog w) A (.call (.ref 253) ⟨[], [("stream_id", .int i t1), ("weight", .int v t2)]⟩) R s := by
  k_dflt refine' make_ S ?a ?b ?c ?_
  case a => k_is
  case b => k_is
  case c => k_is
  intro x s1 hx S1
  refine stream_init_kw S1 (Rm.under (by walk_at "m_R")) (upd_self ..) h1 h2 fun cl ql s2 hc hq n S2 => ?_
  rw [upd_upd] at S2
  exact ⟨rfl, k x cl ql s2 hx (none_up hc) (none_up hq) (Ne.symm (none_ne hc)) (Ne.symm (none_ne hq)) n S2⟩
end
end
section
section
variable {w : World} {c : Cx PySem.Challenge.rw_bd0031_02.row.prog w (MineTop.hd.heap_39 w.params)} {envs : List Env} {H F G : AH} {A : Around} {E Q : Value → Shared → Prop} {s : Shared}
theorem add_child_spec {P : Pl} {M : Mo} {i j : Int} {d n : Nd} (S : St c envs (join F G) s) (R : Rm A 12 120) (fF : Frs envs F) (dj : Dj F G) (t : Tree 253 P M G) (hi : M i = some d) (hj : M j = some n) (hne : j ≠ i)
    (hz : d.q.length ≤ 900) (hk : d.kids.length ≤ 900) (hex : ∀ e ∈ d.q, ∃ m, M e.2 = some m)
    (k : ∀ G' s', Dj F G' → Tree 253 P (adopt M i j) G' → St c envs (join F G') s' → Q .none s') :
    wpAny (model PySem.Challenge.rw_bd0031_02.row.prog w) A (call (.ref 179) [.ref (P.D i), .ref (P.D j)]) Q E s := by
  have hself := join_r dj (t.inst i _ hi)
  have hch := join_r dj (t.inst j _ hj)
  have hcl := join_r dj (t.cl i _ hi)
  obtain ⟨ts, hq1, hE⟩ := t.ql i _ hi
  have hql := join_r dj hq1
  have hE' : Ents P (join F G) ts d.q := hE.mono fun a xs q => join_r dj q
  have hs1 : ∀ x ∈ d.q, StreamAt 253 P (join F G) x.2 := fun x hx => by
    obtain ⟨m, hm⟩ := hex x hx
    exact ⟨_, join_r dj (t.inst _ _ hm), rfl⟩
  have hse : StreamAt 253 P (join F G) j := ⟨_, hch, rfl⟩
  have hnD : P.D j ≠ P.D i := fun z => hne (t.dd hj hi z)
  have m1 : P.D i ≠ P.QL i := ne_kind hself hql (by intro z; cases z)
  have m2 : P.D j ≠ P.QL i := ne_kind hch hql (by intro z; cases z)
  have m3 : P.D i ≠ P.CL i := ne_kind hself hcl (by intro z; cases z)
  have m4 : P.D j ≠ P.CL i := ne_kind hch hcl (by intro z; cases z)
  have m5 : P.CL i ≠ P.QL i := t.cq i i _ _ hi hi
  have TA := fun t' h' => t.adopt (t' := t') (ts := ts) hi hj hne h' hq1 hE
  have k1 : F (P.D j) = none := dj _ _ (t.inst j _ hj)
  have k2 : F (P.CL i) = none := dj _ _ (t.cl i _ hi)
  have k3 : F (P.QL i) = none := dj _ _ hq1
  have hln : (d.kids.map fun j => Value.ref (P.D j)).length = d.kids.length := List.length_map ..
  refine wpAny_call ?_
  k_dflt refine' code_fn (l := [("child", Value.ref (P.D j)), ("self", Value.ref (P.D i))]) S R ?k1 ?k2 ?k3 ?k4 ?_ ?k6 ?k7 ?k8 ?k9 ?k10
  walk_at "m_in"
  intro L s1 hL S1
  have F0 := S.frs
  clear S
  refine hideQ ?_
  intro QF hQF
  refine hideE ?_
  intro EF hEF
  (try dsimp only)
  have n1 : P.D i ≠ L := ne_fresh hL hself
  have n2 : P.D j ≠ L := ne_fresh hL hch
  have n3 : P.CL i ≠ L := ne_fresh hL hcl
  have n4 : P.QL i ≠ L := ne_fresh hL hql
  walk_at "m_st"
  rename St _ _ _ _ => mS
  rename (upd _ _ _ _ = none) => ht'
  rename Nat => t'
  refine heappush_spec (P := P) (ts := ts) (es := d.q) (e := (d.lw, j)) mS (by walk_at "m_R") (by walk_at "m_H") (by omega) (by walk_at "m_ents") ?_ (by walk_at "m_H") (by walk_at "m_str") ?_
  · intro x hx
    have := hs1 x hx
    walk_at "m_str"
  intro s3 S3
  have ht1 : join F G t' = none := by walk_at "m_none1"
  obtain ⟨hf, hg⟩ := join_none ht1
  walk_at "m_st"
  rename St _ _ _ _ => S3
  (try dsimp only)
  have d4 := (((dj.r (o := .inst 253 (flds P j { n with par := some i })) k1).r (o := .list ((d.kids ++ [j]).map fun j => .ref (P.D j))) k2).r (o := .tup [.int d.lw 0, .ref (P.D j)]) hf).r (o := .list ((put (place (klt (d.lw, j)) d.q) t' ts).map .ref)) k3
  have q1 : t' ≠ L := none_ne (H := join F G) (o := .ns [("child", Value.ref (P.D j)), ("self", Value.ref (P.D i))]) (by walk_at "m_none1")
  have q2 : P.D j ≠ t' := ne_fresh ht1 hch
  have q3 : P.CL i ≠ t' := ne_fresh ht1 hcl
  have q4 : P.QL i ≠ t' := ne_fresh ht1 hql
  refine k _ _ d4 (TA t' hg) (S3.ret ?_ fF.join)
  rw [← upd_join_r k3, ← upd_join_r hf, ← upd_join_r k2, ← upd_join_r k1]
  simp only [List.map_append, List.map_cons, List.map_nil]
  walk_at "m_sub"
end
end
local macro_rules | `(tactic| walk_at "subscriptTail") => `(tactic| (rename St _ _ _ _ => mS; k_dflt (refine' d_item mS ?e ?v ?_ ?hs; (case e => walk_at "m_H"); (case v => walk_at "m_lk"); (case hs => with_unfolding_all rfl)); walk_at "m_er2"; clear mS))
local macro_rules | `(tactic| walk_at "compareOp In int ref") => `(tactic| (rename St _ _ _ _ => mS; k_dflt (refine' d_in mS ?e ?_; (case e => walk_at "m_H")); intro s' S'; clear mS))
local macro_rules | `(tactic| walk_at "setItem ref int") => `(tactic| (rename St _ _ _ _ => mS; k_dflt (refine' d_set mS ?e ?z ?_; (case e => walk_at "m_H"); (case z => walk_at "m_lz")); intro s' S'; clear mS; (try dsimp only [er] at S')))
local macro_rules | `(tactic| walk_at "call builtin:len") => `(tactic| (rename St _ _ _ _ => mS; k_dflt (refine' d_len mS ?e ?z ?_; (case e => walk_at "m_H"); (case z => first | omega | (simp only [List.length_append, List.length_cons, List.length_nil]; omega)); intro tk s' S'; clear mS)))
local macro_rules | `(tactic| walk_at "exec Raise") => `(tactic| (exfalso; first | contradiction | omega | (rename (_ = true) => hz; (simp only [*, Option.isSome_none, Option.isSome_some, Bool.false_eq_true] at hz); done) | (rename (_ = false) => hz; (simp only [*, Option.isSome_none, Option.isSome_some, Bool.true_eq_false] at hz); done) | (simp_all; done)))
section
section
variable {w : World} {c : Cx PySem.Challenge.rw_bd0031_02.row.prog w (MineTop.hd.heap_39 w.params)} {envs : List Env} {H F G : AH} {A : Around} {E Q : Value → Shared → Prop} {s : Shared}
theorem block_spec {M : Mo} {ks : List Int} {pt : Nat} {i : Int} {tk : Tok} {n : Nd} (S : St c envs (join F G) s) (R : Rm A 6 40) (fF : Frs envs F) (dj : Dj F G) (t : PTree 253 347 M ks pt G) (hi : M i = some n) (h0 : i ≠ 0)
    (k : ∀ G' s', Dj F G' → PTree 253 347 (actv M i false) ks pt G' → St c envs (join F G') s' → Q .none s') :
    wpAny (model PySem.Challenge.rw_bd0031_02.row.prog w) A (call (.ref 316) [.ref pt, .int i tk]) Q E s := by
  obtain ⟨P, dd, Gt, p, f1, f2, d0, dj1, ej⟩ := t.split dj
  rw [ej] at S
  have hpt := join_l (G := Gt) (upd_other p.ne (upd_self ..) : upd (upd F pt (.inst 347 (pfl P dd))) dd (.imap (pdict P ks)) pt = _)
  have hdd := join_l (G := Gt) (upd_self (upd F pt (.inst 347 (pfl P dd))) dd (.imap (pdict P ks)))
  have hDi := join_r dj1 (p.tree.inst i _ hi)
  have hlk : (pdict P ks).lookup i = some (.ref (P.D i)) := pdict_get ((p.ks i).mpr ⟨_, hi⟩)
  refine wpAny_call ?_
  k_dflt refine' code_fn (l := [("stream_id", Value.int i 0), ("self", Value.ref pt)]) S R ?k1 ?k2 ?k3 ?k4 ?_ ?k6 ?k7 ?k8 ?k9 ?k10
  walk_at "m_in"
  intro L s1 hL S1
  have F0 := S.frs
  clear S
  refine hideQ ?_
  intro QF hQF
  refine hideE ?_
  intro EF hEF
  (try dsimp only)
  walk_at "m_st"
  refine wpAny_Try_except ?_
  have n1 : L ≠ P.D i := Ne.symm (ne_fresh hL hDi)
  walk_at "m_st"
  rename St _ _ _ _ => S2
  have kD : upd (upd F pt (.inst 347 (pfl P dd))) dd (.imap (pdict P ks)) (P.D i) = none := dj1 _ _ (p.tree.inst i _ hi)
  have tn := p.tree.set (n' := { n with act := false }) hi rfl rfl
  have dn := dj1.r (o := .inst 253 (flds P i { n with act := false })) kD
  obtain ⟨b1, b2, b3⟩ := PTree.back2 p f1 f2 dn tn (put_ks hi)
  rw [actv_eq hi] at k
  refine k _ _ b2 b1 ?_
  rw [← b3, ← upd_join_r kD]
  refine S2.ret (by walk_at "m_sub") ?_
  rw [upd_join_r kD]
  exact ((fF.fresh f1).fresh (upd_other p.ne.symm f2)).join
theorem unblock_spec {M : Mo} {ks : List Int} {pt : Nat} {i : Int} {tk : Tok} {n : Nd} (S : St c envs (join F G) s) (R : Rm A 6 40) (fF : Frs envs F) (dj : Dj F G) (t : PTree 253 347 M ks pt G) (hi : M i = some n) (h0 : i ≠ 0)
    (k : ∀ G' s', Dj F G' → PTree 253 347 (actv M i true) ks pt G' → St c envs (join F G') s' → Q .none s') :
    wpAny (model PySem.Challenge.rw_bd0031_02.row.prog w) A (call (.ref 323) [.ref pt, .int i tk]) Q E s := by
  obtain ⟨P, dd, Gt, p, f1, f2, d0, dj1, ej⟩ := t.split dj
  rw [ej] at S
  have hpt := join_l (G := Gt) (upd_other p.ne (upd_self ..) : upd (upd F pt (.inst 347 (pfl P dd))) dd (.imap (pdict P ks)) pt = _)
  have hdd := join_l (G := Gt) (upd_self (upd F pt (.inst 347 (pfl P dd))) dd (.imap (pdict P ks)))
  have hDi := join_r dj1 (p.tree.inst i _ hi)
  have hlk : (pdict P ks).lookup i = some (.ref (P.D i)) := pdict_get ((p.ks i).mpr ⟨_, hi⟩)
  refine wpAny_call ?_
  k_dflt refine' code_fn (l := [("stream_id", Value.int i 0), ("self", Value.ref pt)]) S R ?k1 ?k2 ?k3 ?k4 ?_ ?k6 ?k7 ?k8 ?k9 ?k10
  walk_at "m_in"
  intro L s1 hL S1
  have F0 := S.frs
  clear S
  refine hideQ ?_
  intro QF hQF
  refine hideE ?_
  intro EF hEF
  (try dsimp only)
  walk_at "m_st"
  refine wpAny_Try_except ?_
  have n1 : L ≠ P.D i := Ne.symm (ne_fresh hL hDi)
  walk_at "m_st"
  rename St _ _ _ _ => S2
  have kD : upd (upd F pt (.inst 347 (pfl P dd))) dd (.imap (pdict P ks)) (P.D i) = none := dj1 _ _ (p.tree.inst i _ hi)
  have tn := p.tree.set (n' := { n with act := true }) hi rfl rfl
  have dn := dj1.r (o := .inst 253 (flds P i { n with act := true })) kD
  obtain ⟨b1, b2, b3⟩ := PTree.back2 p f1 f2 dn tn (put_ks hi)
  rw [actv_eq hi] at k
  refine k _ _ b2 b1 ?_
  rw [← b3, ← upd_join_r kD]
  refine S2.ret (by walk_at "m_sub") ?_
  rw [upd_join_r kD]
  exact ((fF.fresh f1).fresh (upd_other p.ne.symm f2)).join
end
end
section
section
variable {w : World} {c : Cx PySem.Challenge.rw_bd0031_02.row.prog w (MineTop.hd.heap_39 w.params)} {envs : List Env} {H F G : AH} {A : Around} {E Q : Value → Shared → Prop} {s : Shared}
theorem gip_spec {pt dd x : Nat} {i : Int} {tk : Tok} {kvs : List (Int × Value)} {fs : List (Str × Value)} (S : St c envs H s) (R : Rm A 6 40) (hpt : H pt = some (.inst 347 fs)) (hfs : fs.lookup ("_streams" : Str) = some (.ref dd)) (hdd : H dd = some (.imap kvs)) (hlk : kvs.lookup i = some (.ref x))
    (k : ∀ s', St c envs H s' → Q (.ref x) s') :
    wpAny (model PySem.Challenge.rw_bd0031_02.row.prog w) A (call (.ref 279) [.ref pt, .int i tk]) Q E s := by
  refine wpAny_call ?_
  k_dflt refine' code_fn (l := [("parent_stream_id", Value.int i 0), ("self", Value.ref pt)]) S R ?k1 ?k2 ?k3 ?k4 ?_ ?k6 ?k7 ?k8 ?k9 ?k10
  walk_at "m_in"
  intro L s1 hL S1
  have F0 := S.frs
  clear S
  refine hideQ ?_
  intro QF hQF
  refine hideE ?_
  intro EF hEF
  (try dsimp only)
  walk_at "m_st"
  refine wpAny_Try_except ?_
  walk_at "m_st"
  all_goals ((try dsimp only); rename St _ _ _ _ => mS; exact k _ (mS.ret (by walk_at "m_sub") (by walk_at "m_frs")))
end
end
section
section
variable {w : World} {c : Cx PySem.Challenge.rw_bd0031_02.row.prog w (MineTop.hd.heap_39 w.params)} {envs : List Env} {H F G : AH} {A : Around} {E Q : Value → Shared → Prop} {s : Shared}
theorem add_child_at {P : Pl} {M : Mo} {i j : Int} {d n : Nd} {a b : Nat} (ea : a = P.D i) (eb : b = P.D j) (S : St c envs (join F G) s) (R : Rm A 12 120) (fF : Frs envs F) (dj : Dj F G) (t : Tree 253 P M G) (hi : M i = some d) (hj : M j = some n) (hne : j ≠ i)
    (hz : d.q.length ≤ 900) (hk : d.kids.length ≤ 900) (hex : ∀ e ∈ d.q, ∃ m, M e.2 = some m)
    (k : ∀ G' s', Dj F G' → Tree 253 P (adopt M i j) G' → St c envs (join F G') s' → Q .none s') :
    wpAny (model PySem.Challenge.rw_bd0031_02.row.prog w) A (call (.ref 179) [.ref a, .ref b]) Q E s := by
  subst ea eb
  exact add_child_spec S R fF dj t hi hj hne hz hk hex k
theorem insert3_spec {rk : Int → Nat} {M : Mo} {ks : List Int} {pt : Nat} {i dep v : Int} {t1 t2 t3 : Tok} {d n0 : Nd} (S : St c envs (join F G) s) (R : Rm A 20 260) (fF : Frs envs F) (dj : Dj F G) (t : PTree 253 347 M ks pt G) (ok : OkM rk M) (clo : Clo M)
    (hn : M i = none) (hd : M dep = some d) (hr0 : M 0 = some n0) (h1 : 1 ≤ v) (h2 : v ≤ 256) (hks : ks.length ≤ 900) (hdq : d.q.length ≤ 900) (hdk : d.kids.length ≤ 900)
    (k : ∀ G' s', Dj F G' → PTree 253 347 (adopt (M.put i (newNd v)) dep i) (ks ++ [i]) pt G' → St c envs (join F G') s' → Q .none s') :
    wpAny (model PySem.Challenge.rw_bd0031_02.row.prog w) A (call (.ref 294) [.ref pt, .int i t1, .int dep t2, .int v t3]) Q E s := by
  obtain ⟨P, dd, Gt, p, f1, f2, d0, dj1, ej⟩ := t.split dj
  rw [ej] at S
  obtain ⟨FP, hFP⟩ : ∃ FP, FP = upd (upd F pt (.inst 347 (pfl P dd))) dd (.imap (pdict P ks)) := ⟨_, rfl⟩
  have fFP : Frs envs FP := by rw [hFP]; exact (fF.fresh f1).fresh (upd_other p.ne.symm f2)
  have hptF : FP pt = some (.inst 347 (pfl P dd)) := by rw [hFP]; exact upd_other p.ne (upd_self ..)
  have hddF : FP dd = some (.imap (pdict P ks)) := by rw [hFP]; exact upd_self ..
  rw [← hFP] at S dj1
  have hpt := join_l (G := Gt) hptF
  have hdd := join_l (G := Gt) hddF
  have hik : i ∉ ks := fun z => by obtain ⟨m, hm⟩ := (p.ks i).mp z; rw [hn] at hm; cases hm
  have hlk : (pdict P ks).lookup dep = some (.ref (P.D dep)) := pdict_get ((p.ks dep).mpr ⟨_, hd⟩)
  have hln : (pdict P ks).lookup i = none := pdict_none hik
  have hll : (pdict P ks).length = ks.length := pdict_len
  have hne : dep ≠ i := fun z => by rw [z, hn] at hd; cases hd
  refine wpAny_call ?_
  k_dflt refine' code_fn (l := [("exclusive", Value.bool false), ("weight", Value.int v 0), ("depends_on", Value.int dep 0), ("stream_id", Value.int i 0), ("self", Value.ref pt)]) S R ?k1 ?k2 ?k3 ?k4 ?_ ?k6 ?k7 ?k8 ?k9 ?k10
  walk_at "m_in"
  intro L s1 hL S1
  have F0 := S.frs
  clear S
  refine hideQ ?_
  intro QF hQF
  refine hideE ?_
  intro EF hEF
  (try dsimp only)
  have hdep := join_r dj1 (p.tree.inst dep _ hd)
  have n0 : P.D dep ≠ L := ne_fresh hL hdep
  have n1 : L ≠ pt := Ne.symm (ne_fresh hL hpt)
  have n2 : L ≠ dd := Ne.symm (ne_fresh hL hdd)
  have n3 : pt ≠ dd := p.ne
  walk_at "m_st"
  rename St _ _ _ _ => S2
  refine wpAny_call (stream_new S2 (by walk_at "m_R") h1 h2 ?_)
  intro x cl ql s3 hx hc hq m1 m2 m3 S3
  clear S2
  have hx0 : join FP Gt x = none := none_up hx
  have hc0 : join FP Gt cl = none := none_up hc
  have hq0 : join FP Gt ql = none := none_up hq
  have x1 := none_ne hx
  have x2 := none_ne hc
  have x3 := none_ne hq
  have w1 : P.D dep ≠ x := ne_fresh hx0 hdep
  have w2 : P.D dep ≠ cl := ne_fresh hc0 hdep
  have w3 : P.D dep ≠ ql := ne_fresh hq0 hdep
  have y1 : pt ≠ x := ne_fresh hx0 hpt
  have y2 : pt ≠ cl := ne_fresh hc0 hpt
  have y3 : pt ≠ ql := ne_fresh hq0 hpt
  have z1 : dd ≠ x := ne_fresh hx0 hdd
  have z2 : dd ≠ cl := ne_fresh hc0 hdd
  have z3 : dd ≠ ql := ne_fresh hq0 hdd
  (try dsimp only)
  walk_at "m_st"
  all_goals
    rename St _ _ _ _ => S4
    refine gip_spec S4 (by walk_at "m_R") (x := P.D dep) (by walk_at "m_H") rfl (by walk_at "m_H") (by first | exact hlk | (rw [show (0 : Int) = dep from Eq.symm (by assumption)]; exact hlk)) ?_
    intro s5 S5
    clear S4
    walk_at "m_st"
    rename St _ _ _ _ => S6
    obtain ⟨fx, gx⟩ := join_none hx0
    obtain ⟨fc, gc⟩ := join_none hc0
    obtain ⟨fq, gq⟩ := join_none hq0
    obtain ⟨fl, gl⟩ := join_none hL
    have tN := p.tree.newNode clo ok (w := v) hn gx gc gq m1 m2 m3
    have dN := ((dj1.r (o := .inst 253 (nfl i v cl ql)) fx).r (o := .list []) fc).r (o := .list []) fq
    have gl2 : upd (upd (upd Gt x (.inst 253 (nfl i v cl ql))) cl (.list [])) ql (.list []) L = none := upd_other (Ne.symm x3) (upd_other (Ne.symm x2) (upd_other (Ne.symm x1) gl))
    obtain ⟨ev, hev, S6⟩ := S6.env
    have fF1 : ∀ l, Frs ev (upd FP L (.ns l)) := fun l => by
      rw [hev]; exact Frs.cons (fFP.fresh fl) (upd_self ..) rfl (show ScopeKind.function ≠ .module by decide)
    have S7 := S6.sub (H := join (upd FP L (.ns [("parent", .ref (P.D dep)), ("stream", .ref x), ("stream_id", .int i 0), ("self", .ref pt)])) (upd (upd (upd Gt x (.inst 253 (nfl i v cl ql))) cl (.list [])) ql (.list []))) (by
      rw [← upd_join, ← upd_join_r fq, ← upd_join_r fc, ← upd_join_r fx]
      walk_at "m_sub") (fF1 _).join
    clear S6
    have eD : (P.at i x cl ql).D dep = P.D dep := if_neg hne
    have eX : (P.at i x cl ql).D i = x := if_pos rfl
    have hd2 : (M.put i (newNd v)) dep = some d := (Mo.put_ne hne).trans hd
    refine add_child_at (P := P.at i x cl ql) (i := dep) (j := i) eD.symm eX.symm S7 (by walk_at "m_R") (fF1 _) (dN.l gl2) tN hd2 (Mo.put_self ..) (Ne.symm hne) hdq hdk ?_ ?_
    · intro e he
      exact put_ex (((ok.ok dep d hd).2.2.2.2.2 e he).1)
    intro G2 s8 d2 t2 S8
    clear S7
    have hdd2 := join_l (G := G2) (upd_other (Ne.symm n2) hddF : upd FP L (.ns [("parent", .ref (P.D dep)), ("stream", .ref x), ("stream_id", .int i 0), ("self", .ref pt)]) dd = _)
    have hpt2 := join_l (G := G2) (upd_other (Ne.symm n1) hptF : upd FP L (.ns [("parent", .ref (P.D dep)), ("stream", .ref x), ("stream_id", .int i 0), ("self", .ref pt)]) pt = _)
    have hL2 := join_l (G := G2) (upd_self FP L (.ns [("parent", .ref (P.D dep)), ("stream", .ref x), ("stream_id", .int i 0), ("self", .ref pt)]))
    walk_at "m_st"
    (try dsimp only)
    rename St _ _ _ _ => S9
    have eD2 : ∀ j ∈ ks, (P.at i x cl ql).D j = P.D j := fun j hj => if_neg fun (z : j = i) => hik (z ▸ hj)
    have sF : Sub FP (upd FP L (.ns [("parent", .ref (P.D dep)), ("stream", .ref x), ("stream_id", .int i 0), ("self", .ref pt)])) := (Sub.refl FP).fresh fl
    have d3 : Dj FP G2 := d2.sub sF
    obtain ⟨b1, b2, b3⟩ := PTree.more p f1 f2 (hFP ▸ d3) t2 hik eD2 ((p.ks 0).mpr ⟨_, hr0⟩) (adopt_ks hn hd)
    refine k _ _ b2 b1 ?_
    rw [← b3, ← hFP, eX]
    exact S9.sub (Sub.upd2 (sub_join d2 sF) (.inl rfl)) (fFP.join.turn (join_l hddF) rfl)
end
end
section
section
variable {w : World} {c : Cx PySem.Challenge.rw_bd0031_02.row.prog w (MineTop.hd.heap_39 w.params)} {envs : List Env} {H F G : AH} {A : Around} {E Q : Value → Shared → Prop} {s : Shared}
local macro_rules | `(tactic| walk_at "eval Dict") => `(tactic| (rename St _ _ _ _ => mS; refine dict_one mS ?_; intro d s0 hd S'; clear mS))
theorem tree_init {pt : Nat} {R : Result → Shared → Prop} (S : St c envs (upd F pt (.inst 347 [])) s) (Ro : Rm A 20 160) (hpt : F pt = none) (fF : Frs envs F)
    (k : ∀ G' s', Dj F G' → PTree 253 347 Mo.root [0] pt G' → St c envs (join F G') s' → R (.ok (.ret .none)) s') :
    codeAny (model PySem.Challenge.rw_bd0031_02.row.prog w) A (.call (.ref 272) ⟨[.ref pt], []⟩) R s := by
  k_dflt refine' code_fn (l := [("maximum_streams", Value.int 1000 0), ("self", Value.ref pt)]) S Ro ?k1 ?k2 ?k3 ?k4 ?_ ?k6 ?k7 ?k8 ?k9 ?k10
  walk_at "m_in"
  intro L s1 hL S1
  have F0 := S.frs
  clear S
  refine hideQ ?_
  intro QF hQF
  refine hideE ?_
  intro EF hEF
  (try dsimp only)
  have hp0 := upd_self F pt (.inst 347 [])
  walk_at "m_st"
  rename St _ _ _ _ => S2
  refine wpAny_call ?_
  show codeAny _ _ (.call (.ref 253) ⟨[], [("stream_id", .int 0 _), ("weight", .int 1 _)]⟩) _ _
  refine stream_new_kw S2 (by walk_at "m_R") (by decide) (by decide) ?_
  intro x cl ql s3 hx hc hq m1 m2 m3 S3
  clear S2
  have x1 := none_ne hx
  have x2 := none_ne hc
  have x3 := none_ne hq
  have x4 := none_ne (none_up hx)
  have x5 := none_ne (none_up hc)
  have x6 := none_ne (none_up hq)
  have n1 : L ≠ pt := none_ne hL
  (try dsimp only)
  walk_at "m_st"
  rename St _ _ _ _ => S4
  rename (_ = none) => hd
  refine ⟨_, _, _, rfl, upd_self .., S4, ?_⟩
  intro s5 S5
  clear S4
  have d1 := none_ne hd
  have d2 := none_ne (none_up hd)
  have d3 := none_ne (none_up (none_up hd))
  have d4 := none_ne (none_up (none_up (none_up hd)))
  have d6 := none_ne (none_up (none_up (none_up (none_up (none_up hd)))))
  have fd := none_up (none_up (none_up (none_up (none_up (none_up (none_up hd))))))
  walk_at "m_st"
  (try dsimp only)
  rename St _ _ _ _ => S6
  have fx := none_up (none_up hx)
  have fc := none_up (none_up hc)
  have fq := none_up (none_up hq)
  refine k _ _ (((((Dj.nil.r fx).r fc).r fq).r hpt).r fd) (PTree.root m1 m2 m3 (Ne.symm x4) (Ne.symm x5) (Ne.symm x6) d1 d4 d3 (Ne.symm d2)) ?_
  rw [← upd_join_r fd, ← upd_join_r hpt, ← upd_join_r fq, ← upd_join_r fc, ← upd_join_r fx, join_nil]
  refine S6.ret ?_ ?_
  · walk_at "m_sub"
  · refine (((((fF.fresh fx).fresh ?_).fresh ?_).fresh ?_).fresh ?_)
    all_goals walk_at "m_none"
theorem tree_new {R : Result → Shared → Prop} (S : St c envs F s) (Ro : Rm A 22 180)
    (k : ∀ (pt : Nat) G' s', Dj F G' → PTree 253 347 Mo.root [0] pt G' → St c envs (join F G') s' → R (.ok (.ret (.ref pt))) s') :
    codeAny (model PySem.Challenge.rw_bd0031_02.row.prog w) A (.call (.ref 347) ⟨[], []⟩) R s := by
  k_dflt refine' make_ S ?a ?b ?c ?_
  case a => k_is
  case b => k_is
  case c => k_is
  intro x s1 hx S1
  exact tree_init S1 (Rm.under (by walk_at "m_R")) hx S.frs fun G' s2 dj t S2 => ⟨rfl, k x G' s2 dj t S2⟩
end
end
local macro_rules | `(tactic| walk_at "eval Name") => `(tactic| (rename St _ _ _ _ => mS; k_dflt first
  | (refine' nm_ref mS ?H ?x ?_ ?L; (case L => exact rfl); (case H => walk_at "m_H"); (case x => assumption))
  | (refine' nm_int mS ?H ?x ?_ ?L; (case L => exact rfl); (case H => walk_at "m_H"); (case x => assumption); intro tk)))
local macro_rules | `(tactic| walk_at "eval Name") => `(tactic| (rename St _ _ _ _ => mS; k_dflt first
  | (refine' nmc mS ?c ?H ?_; (case c => exact rfl); (case H => walk_at "m_H"); walk_at "m_er")
  | (refine' nmf mS ?c ?H ?_; (case c => exact rfl); (case H => walk_at "m_H"); walk_at "m_er")))
local macro_rules | `(tactic| walk_at "storeName") => `(tactic| (rename St _ _ _ _ => mS; k_dflt (refine' stc mS ?c ?H ?v ?_; (case c => exact rfl); (case H => walk_at "m_H"); (case v => walk_at "m_val"); intro s' S'; clear mS; (try dsimp only [er] at S'))))
local macro_rules | `(tactic| walk_at "call builtin:len") => `(tactic| (rename St _ _ _ _ => mS; refine scr_len (by assumption) mS ?_; intro tk s' S'; clear mS))
local macro_rules | `(tactic| walk_at "eval ListComp") => `(tactic| (k_dflt (refine' comp_eval ?c ?k ?n ?_; (case c => with_unfolding_all rfl); (case k => rfl); (case n => decide))))
local macro_rules | `(tactic| walk_at "call type:range") => `(tactic| (rename St _ _ _ _ => mS; first
  | (refine mk_range1 mS ?_; intro r t u v s' hr S'; clear mS)
  | (refine mk_range2 mS ?_; intro r t u v s' hr S'; clear mS)
  | (refine mk_range3 mS (by omega) (by omega) ?_; intro r t u v s' hr S'; clear mS)))
local macro_rules | `(tactic| walk_at "setItem ref int") => `(tactic| (rename St _ _ _ _ => mS; k_dflt (refine' list_store mS ?e ?a ?b ?z ?_; (case e => walk_at "m_H"); (case a => omega); (case b => walk_at "m_lz"); (case z => walk_at "m_lz")); intro s' S'; clear mS; (try dsimp only [er] at S')))
local macro_rules | `(tactic| walk_at "compareOp Eq ref ref") => `(tactic| (rename St _ _ _ _ => mS; k_dflt (refine' eq_nil mS ?a ?b ?u ?_; (case a => walk_at "m_H"); (case b => walk_at "m_H"); (case u => exact Rm.line (by assumption)))))
local macro_rules | `(tactic| walk_at "compareOp NotEq ref ref") => `(tactic| (rename St _ _ _ _ => mS; k_dflt (refine' ne_nil mS ?a ?b ?u ?_; (case a => walk_at "m_H"); (case b => walk_at "m_H"); (case u => exact Rm.line (by assumption)))))
local macro_rules | `(tactic| walk_at "loadName") => `(tactic| (rename St _ _ _ _ => mS; k_dflt (refine' nm mS ?H ?x ?_ ?L; (case L => exact rfl); (case H => walk_at "m_H"); (case x => assumption); walk_at "m_er")))
section
section
variable {w : World} {c : Cx PySem.Challenge.rw_bd0031_02.row.prog w (MineTop.hd.heap_39 w.params)} {envs : List Env} {F G : AH} {A : Around} {Q : Value → Shared → Prop} {E : Value → Shared → Prop} {s : Shared}
theorem gg_insert {g : GG} {i : Nat} {pt : Nat} {i' dep' v' : Int} {t1 t2 t3 : Tok} (S : St c envs (join F G) s) (R : Rm A 20 260) (fF : Frs envs F) (dj : Dj F G) (t : PTree 253 347 (g.M i) (ksG g i) pt G) (h : i < g.m)
    (ei : i' = g.nm (i + 1)) (ed : dep' = g.nm (g.ab (i + 1))) (ev : v' = g.wt (i + 1))
    (k : ∀ G' s', Dj F G' → PTree 253 347 (g.X (g.M i) i) (ksG g (i + 1)) pt G' → St c envs (join F G') s' → Q .none s') :
    wpAny (model PySem.Challenge.rw_bd0031_02.row.prog w) A (call (.ref 294) [.ref pt, .int i' t1, .int dep' t2, .int v' t3]) Q E s := by
  subst ei ed ev
  obtain ⟨mo, mc, mn, ⟨d, md, mdq, mdk⟩, n0, m0⟩ := GG.M_good h
  have hz := g.ml
  refine insert3_spec S R fF dj t mo mc mn md m0 (g.wl _) (g.wh _) (by rw [ksG_len]; omega) mdq mdk ?_
  intro G2 s6 dj3 t3 S6
  rw [ksG_succ] at t3
  exact k G2 s6 dj3 t3 S6
theorem gg_block {g : GG} {i : Nat} {pt : Nat} {i' : Int} {t1 : Tok} (S : St c envs (join F G) s) (R : Rm A 6 40) (fF : Frs envs F) (dj : Dj F G) (t : PTree 253 347 (g.X (g.M i) i) (ksG g (i + 1)) pt G) (h : i < g.m)
    (ei : i' = g.nm (i + 1)) (ha : g.ac (i + 1) = false)
    (k : ∀ G' s', Dj F G' → PTree 253 347 (g.M (i + 1)) (ksG g (i + 1)) pt G' → St c envs (join F G') s' → Q .none s') :
    wpAny (model PySem.Challenge.rw_bd0031_02.row.prog w) A (call (.ref 316) [.ref pt, .int i' t1]) Q E s := by
  subst ei
  obtain ⟨d, md⟩ := GG.X_good h
  refine block_spec S R fF dj t md (GG.nm_ne (by omega) (by omega)) ?_
  intro G2 s6 dj3 t3 S6
  have e : g.M (i + 1) = actv (g.X (g.M i) i) (g.nm (i + 1)) false := by
    show (if g.ac (i + 1) then _ else _) = _
    rw [ha]; rfl
  rw [← e] at t3
  exact k G2 s6 dj3 t3 S6
end
end
section
noncomputable def lawSt (i : Nat) : Stmt := nthSt PySem.Challenge.rw_bd0031_02.row.prog 17 i
noncomputable abbrev lawEnv (nm : Str) (L a : Nat) (cd : Value) (c1 c2 : Nat) : Env := envAt PySem.Challenge.rw_bd0031_02.row.prog 17 nm L a cd [("numbers", c2), ("script", c1)]
section
variable {w : World} {c : Cx PySem.Challenge.rw_bd0031_02.row.prog w (MineTop.hd.heap_39 w.params)} {envs : List Env} {H F G : AH} {A : Around} {Q : Flow → Shared → Prop} {E : Value → Shared → Prop} {s : Shared} {nm : Str} {L a c1 c2 sa : Nat} {cd : Value} {ns : List Int} {l : List (Str × Value)} {u : Option Value}
theorem st0 (S : St c envs H s) (sc : Scr c sa ns) (h1 : H c1 = some (.cell (some (.ref sa)))) (h2 : H c2 = some (.cell u)) (R : Rm A 40 400) (hh : A.handled = none)
    (k : ∀ (q : Nat) s', H q = none → St c envs (upd (upd H q (.list (nums2 ns))) c2 (.cell (some (.ref q)))) s' → Q .next s') :
    wpAny (model PySem.Challenge.rw_bd0031_02.row.prog w) A (exec (lawSt 0) (lawEnv nm L a cd c1 c2)) Q E s := by
  show wpAny _ _ (exec (Stmt.Assign _ _ _) _) _ _ _
  have fr := S.frs
  walk_at "m_st"
  rename St _ _ _ _ => S1
  rename (H _ = none) => hr
  refine iter_range1 S1 hr 12 rfl (by decide) (by decide) ?_
  intro it s2 hit S2
  clear S1
  refine comp_pure (row_range 0 1 12) (onInt fun k => .int (num2 ns k.toNat) 0) S2 hit trivial (.inl hh) (by rw [rRow_len]; decide) (by decide) rfl rfl ?_ ?_ ?_
  · intro C i v y s3 Hc l' E' hy hv keep hC S3
    obtain ⟨j, -, j0, j1, rfl⟩ := rRow_at hy
    exact wpAny_tests_nil ⟨rfl, S3⟩
  · intro C i v y z s3 Hc l' E' hy hv hz keep hC S3
    obtain ⟨j, -, j0, j1, rfl⟩ := rRow_at hy
    obtain rfl := Option.some.inj hz
    have k1 := keep c1 _ h1
    walk_at "m_st"
    · rename St _ _ _ _ => S4
      rename (j < _) => hj
      refine scr_item sc S4 j0 (num2_get j0 hj) (fun t => ?_) (by with_unfolding_all rfl)
      exact ⟨rfl, S4⟩
    · rename (¬ j < _) => hj
      rw [num2_big j0 hj]; rfl
    · assumption
  · intro D C s3 l' hD hC S3
    have e : (rRow 0 1 12).filterMap (onInt fun k => .int (num2 ns k.toNat) 0) = nums2 ns := by rfl
    rw [e] at hC S3
    refine comp_none S3 hC (fr.fresh hD) ?_
    intro s4 S4
    have hx : c2 ≠ D := ne_fresh hD h2
    walk_at "m_st"
    rename St _ _ _ _ => S5
    exact k _ _ hD S5
theorem st1 {q : Nat} (S : St c envs H s) (hL : H L = some (.ns l)) (h2 : H c2 = some (.cell (some (.ref q)))) (hq : H q = some (.list (nums2 ns))) (R : Rm A 40 400) (hh : A.handled = none)
    (k : ∀ s', St c envs (upd H L (.ns (("many", .int (many2 ns) 0) :: l))) s' → Q .next s') :
    wpAny (model PySem.Challenge.rw_bd0031_02.row.prog w) A (exec (lawSt 1) (lawEnv nm L a cd c1 c2)) Q E s := by
  show wpAny _ _ (exec (Stmt.Assign _ _ _) _) _ _ _
  have g : (nums2 ns)[(0 : Int).toNat]? = some (.int (num2 ns 0) 0) := nums2_get (by decide)
  walk_at "m_st"
  rename St _ _ _ _ => S5
  rw [← many2_eq] at S5
  exact k _ S5
theorem st2 (S : St c envs F s) (hL : F L = some (.ns l)) (R : Rm A 40 400) (hh : A.handled = none)
    (k : ∀ (pt : Nat) G s', Dj F G → PTree 253 347 Mo.root [0] pt G → St c envs (join (upd F L (.ns (("comb", .ref pt) :: ("above", .int 0 0) :: l))) G) s' → Q .next s') :
    wpAny (model PySem.Challenge.rw_bd0031_02.row.prog w) A (exec (lawSt 2) (lawEnv nm L a cd c1 c2)) Q E s := by
  show wpAny _ _ (exec (Stmt.Assign _ _ _) _) _ _ _
  have fr := S.frs
  walk_at "m_st"
  rename St _ _ _ _ => S1
  refine wpAny_call ?_
  refine tree_new S1 (by walk_at "m_R") ?_
  intro pt G s2 dj t S2
  have hL2 := join_l (G := G) hL
  (try dsimp only)
  walk_at "m_st"
  rename St _ _ _ _ => S3
  rename (_ = none) => ht
  clear S1
  refine unpackItems_ S3 (upd_self ..) (.inl hh) (fun vs s' hvs S4 => ?_) rfl
  clear S3
  obtain ⟨v1, v2, rfl, h1, h2⟩ := map_two hvs
  have h1 := er_ref h1
  subst h1
  obtain ⟨tk, rfl⟩ := er_int h2
  walk_at "m_st"
  rename St _ _ _ _ => S5
  have nL := ne_fresh ht hL2
  change St c envs (upd (upd _ L _) L _) _ at S5
  rw [upd_upd] at S5
  obtain ⟨fa, ga⟩ := join_none ht
  refine k _ _ _ dj t (S5.sub ?_ (fr.ns hL).join)
  rw [← upd_join]
  walk_at "m_sub"
theorem st4 (S : St c envs F s) (hL : F L = some (.ns l)) (R : Rm A 40 400) (hh : A.handled = none)
    (k : ∀ (pt : Nat) G s', Dj F G → PTree 253 347 Mo.root [0] pt G → St c envs (join (upd F L (.ns (("chain", .ref pt) :: l))) G) s' → Q .next s') :
    wpAny (model PySem.Challenge.rw_bd0031_02.row.prog w) A (exec (lawSt 4) (lawEnv nm L a cd c1 c2)) Q E s := by
  show wpAny _ _ (exec (Stmt.Assign _ _ _) _) _ _ _
  have fr := S.frs
  walk_at "m_st"
  rename St _ _ _ _ => S1
  refine wpAny_call ?_
  refine tree_new S1 (by walk_at "m_R") ?_
  intro pt G s2 dj t S2
  have hL2 := join_l (G := G) hL
  (try dsimp only)
  walk_at "m_st"
  rename St _ _ _ _ => S3
  rw [upd_join] at S3
  exact k _ _ _ dj t S3
theorem st5 {q : Nat} (S : St c envs H s) (hL : H L = some (.ns l)) (h2 : H c2 = some (.cell (some (.ref q)))) (hq : H q = some (.list (nums2 ns))) (hm : l.lookup ("many" : Str) = some (.int (many2 ns) 0)) (R : Rm A 40 400) (hh : A.handled = none)
    (k : ∀ (q : Nat) s', H q = none → St c envs (upd (upd H q (.list (names2 ns))) L (.ns (("names", .ref q) :: l))) s' → Q .next s') :
    wpAny (model PySem.Challenge.rw_bd0031_02.row.prog w) A (exec (lawSt 5) (lawEnv nm L a cd c1 c2)) Q E s := by
  show wpAny _ _ (exec (Stmt.Assign _ _ _) _) _ _ _
  have fr := S.frs
  have m1 := @many2_lo ns
  have m2 := @many2_hi ns
  k_dflt refine' comp_assign ?hsw ?c ?k ?n ?_
  case hsw => with_unfolding_all rfl
  case c => with_unfolding_all rfl
  case k => rfl
  case n => decide
  walk_at "m_st"
  rename St _ _ _ _ => S1
  rename (H _ = none) => hr
  refine iter_range1 S1 hr (many2 ns) (by omega) (by decide) (by omega) ?_
  intro it s2 hit S2
  clear S1
  refine comp_pure (row_range 0 1 (many2 ns)) (onInt fun i => .int (1 + (3 * i + num2 ns 6) % 7) 0) S2 hit trivial (.inl hh) (by rw [rRow_len]; omega) (by decide) rfl rfl ?_ ?_ ?_
  · intro C i v y s3 Hc l' E' hy hv keep hC S3
    obtain ⟨j, -, j0, j1, rfl⟩ := rRow_at hy
    exact wpAny_tests_nil ⟨rfl, S3⟩
  · intro C i v y z s3 Hc l' E' hy hv hz keep hC S3
    obtain ⟨j, -, j0, j1, rfl⟩ := rRow_at hy
    obtain rfl := Option.some.inj hz
    have k1 := keep c2 _ h2
    have k2 := keep q _ hq
    have g : (nums2 ns)[(6 : Int).toNat]? = some (.int (num2 ns 6) 0) := nums2_get (by decide)
    walk_at "m_st"
    all_goals first | assumption | rfl
  · intro D C s3 l' hD hC S3
    have e : (rRow 0 1 (many2 ns)).filterMap (onInt fun i => .int (1 + (3 * i + num2 ns 6) % 7) 0) = names2 ns :=
      rRow_onInt fun i hi => by
        rw [hNm_eq]; congr 3; omega
    rw [e] at hC S3
    refine comp_use S3 hC (fr.fresh hD) (upd_other (ne_fresh hD hL) hL) rfl (fun s4 S4 => ?_) rfl rfl rfl
    exact k _ _ hD S4
end
end
section
section
variable {w : World} {c : Cx PySem.Challenge.rw_bd0031_02.row.prog w (MineTop.hd.heap_39 w.params)} {envs : List Env} {H F G : AH} {A : Around} {Q : Flow → Shared → Prop} {E : Value → Shared → Prop} {s : Shared} {nm : Str} {L a c1 c2 sa : Nat} {cd : Value} {ns : List Int} {l : List (Str × Value)} {u : Option Value}
noncomputable def I3 (ns : List Int) (pt i : Nat) (l : List (Str × Value)) (G : AH) : Prop :=
  l.lookup ("many" : Str) = some (.int (many2 ns) 0) ∧ l.lookup ("comb" : Str) = some (.ref pt) ∧ (i < many2 ns → l.lookup ("above" : Str) = some (.int (cNm (2 * i)) 0)) ∧
    PTree 253 347 ((gC ns).M (min (2 * i) (2 * many2 ns - 1))) (ksG (gC ns) (min (2 * i) (2 * many2 ns - 1))) pt G
theorem st3 {q pt : Nat} (S : St c envs (join F G) s) (hL : F L = some (.ns l)) (fr : Frs envs F) (dj : Dj F G) (h2 : F c2 = some (.cell (some (.ref q)))) (hq : F q = some (.list (nums2 ns)))
    (hm : l.lookup ("many" : Str) = some (.int (many2 ns) 0)) (hc : l.lookup ("comb" : Str) = some (.ref pt)) (ha : l.lookup ("above" : Str) = some (.int 0 0)) (t : PTree 253 347 Mo.root [0] pt G) (R : Rm A 60 600) (hh : A.handled = none)
    (k : ∀ l' G' s', I3 ns pt (many2 ns) l' G' → Dj F G' → St c envs (join (upd F L (.ns l')) G') s' → Q .next s') :
    wpAny (model PySem.Challenge.rw_bd0031_02.row.prog w) A (exec (lawSt 3) (lawEnv nm L a cd c1 c2)) Q E s := by
  show wpAny _ _ (exec (Stmt.For _ _ _ _ _) _) _ _ _
  have m1 := @many2_lo ns
  have m2 := @many2_hi ns
  refine wpAny_For ?_
  have gL := join_l (G := G) hL
  walk_at "m_st"
  rename St _ _ _ _ => S1
  rename (join _ _ _ = none) => hr
  refine iter_range1 S1 hr (many2 ns) (by omega) (by decide) (by omega) ?_
  intro it s2 hit S2
  clear S1
  refine for_tree (row_range 1 1 (many2 ns)) (I3 ns pt) S2 hit hL fr dj ⟨hm, hc, fun _ => ha, ?_⟩ (fun _ _ _ _ _ => trivial) hh ?_ ?_
  · rw [show min (2 * 0) (2 * many2 ns - 1) = 0 by omega, ksG_zero]; exact t
  · intro i F2 l' G' s3 y ⟨q1, q2, q3, t'⟩ hx kp hL2 dj2 fr2 S3 QB EB hQB
    obtain ⟨j, hj, j0, j1, rfl⟩ := rRow_at hx
    have hi : i < many2 ns := by omega
    have hjn : j = ((i + 1 : Nat) : Int) := by omega
    rw [show min (2 * i) (2 * many2 ns - 1) = 2 * i by omega] at t'
    have q3 := q3 hi
    have g2 := join_l (G := G') (kp _ _ (ne_kind h2 hL (by intro z; cases z)) h2)
    have gq := join_l (G := G') (kp _ _ (ne_kind hq hL (by intro z; cases z)) hq)
    have gL := join_l (G := G') hL2
    have e1 : (nums2 ns)[j.toNat]? = some (.int (num2 ns (i + 1)) 0) := by rw [hjn]; exact nums2_get (by omega)
    obtain ⟨P, dd, Gt, p, f1, f2, -, -, ej⟩ := t'.split dj2
    have gpt : join F2 G' pt = some (.inst 347 (pfl P dd)) := by rw [ej]; exact join_l (upd_other p.ne (upd_self ..))
    have eA : cNm (2 * i) = (gC ns).nm ((gC ns).ab (2 * i + 1)) := by show _ = cNm (2 * ((2 * i + 1 - 1) / 2)); congr 2; omega
    have eB : cNm (2 * i) = (gC ns).nm ((gC ns).ab (2 * i + 1 + 1)) := by show _ = cNm (2 * ((2 * i + 1 + 1 - 1) / 2)); congr 2; omega
    have eW1 : 1 + num2 ns (i + 1) % 256 = (gC ns).wt (2 * i + 1) := by show _ = 1 + num2 ns ((2 * i + 1 + 1) / 2) % 256; congr 3; omega
    have eW2 : 1 + num2 ns (i + 1) % 256 = (gC ns).wt (2 * i + 1 + 1) := by show _ = 1 + num2 ns ((2 * i + 1 + 1 + 1) / 2) % 256; congr 3; omega
    have eN1 : j = (gC ns).nm (2 * i + 1) := by rw [hjn]; exact cNm_odd.symm
    have eN2 : 10 + j = (gC ns).nm (2 * i + 1 + 1) := by show _ = cNm (2 * i + 2); rw [cNm_even, hjn]; omega
    walk_at "m_st"
    rename St _ _ _ _ => S5
    change St c envs (upd _ L _) _ at S5
    rw [upd_join] at S5
    refine gg_insert S5 (by walk_at "m_R") (fr2.ns hL2) (dj2.l (dj2.has hL2)) t' (by rw [gC_m]; omega) eN1 eA eW1 ?_
    intro G3 s6 dj3 t3 S6
    have eM1 : (gC ns).X ((gC ns).M (2 * i)) (2 * i) = (gC ns).M (2 * i + 1) := by
      show _ = if (gC ns).ac (2 * i + 1) then _ else _
      rw [if_pos (show (gC ns).ac (2 * i + 1) = true from decide_eq_true (by omega))]
    rw [eM1] at t3
    have gL3 := join_l (G := G3) (upd_self F2 L (.ns (("weight", .int (1 + num2 ns (i + 1) % 256) 0) :: ("i", .int j 0) :: l')))
    obtain ⟨P3, dd3, Gt3, p3, f13, f23, -, -, ej3⟩ := t3.split dj3
    have gpt3 : join (upd F2 L (.ns (("weight", .int (1 + num2 ns (i + 1) % 256) 0) :: ("i", .int j 0) :: l'))) G3 pt = some (.inst 347 (pfl P3 dd3)) := by rw [ej3]; exact join_l (upd_other p3.ne (upd_self ..))
    walk_at "m_st"
    · rename St _ _ _ _ => S7
      rename (j < _) => hjm
      have hi2 : 2 * i + 1 < (gC ns).m := by rw [gC_m]; omega
      refine gg_insert S7 (by walk_at "m_R") (fr2.ns hL2) dj3 t3 hi2 eN2 eB eW2 ?_
      intro G4 s7 dj4 t4 S8
      obtain ⟨P4, dd4, Gt4, p4, f14, f24, -, -, ej4⟩ := t4.split dj4
      have gpt4 : join (upd F2 L (.ns (("weight", .int (1 + num2 ns (i + 1) % 256) 0) :: ("i", .int j 0) :: l'))) G4 pt = some (.inst 347 (pfl P4 dd4)) := by rw [ej4]; exact join_l (upd_other p4.ne (upd_self ..))
      have gL4 := join_l (G := G4) (upd_self F2 L (.ns (("weight", .int (1 + num2 ns (i + 1) % 256) 0) :: ("i", .int j 0) :: l')))
      clear gL3 gpt3
      walk_at "m_st"
      rename St _ _ _ _ => S9
      refine gg_block S9 (by walk_at "m_R") (fr2.ns hL2) dj4 t4 hi2 eN2 (decide_eq_false (by omega)) ?_
      intro G5 s8 dj5 t5 S10
      have gL5 := join_l (G := G5) (upd_self F2 L (.ns (("weight", .int (1 + num2 ns (i + 1) % 256) 0) :: ("i", .int j 0) :: l')))
      clear gL4 gpt4
      walk_at "m_st"
      rename St _ _ _ _ => S11
      change St c envs (upd _ L _) _ at S11
      rw [upd_join, upd_upd, eN2] at S11
      have dj6 : Dj F2 G5 := fun a o h => by
        have := dj5 a o h
        by_cases z : a = L
        · subst z; rw [upd_self] at this; cases this
        · rwa [upd_ne z] at this
      refine ⟨("above", .int ((gC ns).nm (2 * i + 1 + 1)) 0) :: ("weight", .int (1 + num2 ns (i + 1) % 256) 0) :: ("i", .int j 0) :: l', G5, ⟨q1, q2, fun _ => rfl, ?_⟩, dj6, S11⟩
      rw [show min (2 * (i + 1)) (2 * many2 ns - 1) = 2 * i + 1 + 1 by omega]
      exact t5
    · rename St _ _ _ _ => S7
      rename (¬ j < _) => hjm
      have dj6 : Dj F2 G3 := fun a o h => by
        have := dj3 a o h
        by_cases z : a = L
        · subst z; rw [upd_self] at this; cases this
        · rwa [upd_ne z] at this
      refine ⟨("weight", .int (1 + num2 ns (i + 1) % 256) 0) :: ("i", .int j 0) :: l', G3, ⟨q1, q2, fun h => absurd h (by omega), ?_⟩, dj6, S7⟩
      rw [show min (2 * (i + 1)) (2 * many2 ns - 1) = 2 * i + 1 by omega]
      exact t3
  · intro l' G' s3 h1 h2 S3
    rw [rRow_len] at h1
    walk_at "m_st"
    exact k _ _ _ h1 h2 S3
end
end
section
section
variable {w : World} {c : Cx PySem.Challenge.rw_bd0031_02.row.prog w (MineTop.hd.heap_39 w.params)} {envs : List Env} {H F G : AH} {A : Around} {Q : Flow → Shared → Prop} {E : Value → Shared → Prop} {s : Shared} {nm : Str} {L a c1 c2 sa : Nat} {cd : Value} {ns : List Int} {l : List (Str × Value)} {u : Option Value}
structure Lk2 (ns : List Int) (pc ph qn : Nat) (l : List (Str × Value)) : Prop where
  many : l.lookup ("many" : Str) = some (.int (many2 ns) 0)
  comb : l.lookup ("comb" : Str) = some (.ref pc)
  chain : l.lookup ("chain" : Str) = some (.ref ph)
  names : l.lookup ("names" : Str) = some (.ref qn)
noncomputable def I6 (ns : List Int) (pc ph qn i : Nat) (l : List (Str × Value)) (G : AH) : Prop :=
  Lk2 ns pc ph qn l ∧ PTree 253 347 ((gH ns).M i) (ksG (gH ns) i) ph G
theorem Dj.unL {F G : AH} {o : AO} (hL : ∃ x, F L = some x) (d : Dj (upd F L o) G) : Dj F G := fun a x h => by
  have := d a x h
  by_cases z : a = L
  · subst z; rw [upd_self] at this; cases this
  · rwa [upd_ne z] at this
theorem st6 {q qn pc ph : Nat} (S : St c envs (join F G) s) (hL : F L = some (.ns l)) (fr : Frs envs F) (dj : Dj F G) (h2 : F c2 = some (.cell (some (.ref q)))) (hq : F q = some (.list (nums2 ns))) (hn : F qn = some (.list (names2 ns)))
    (lk : Lk2 ns pc ph qn l) (t : PTree 253 347 Mo.root [0] ph G) (R : Rm A 60 600) (hh : A.handled = none)
    (k : ∀ l' G' s', I6 ns pc ph qn (many2 ns) l' G' → Dj F G' → St c envs (join (upd F L (.ns l')) G') s' → Q .next s') :
    wpAny (model PySem.Challenge.rw_bd0031_02.row.prog w) A (exec (lawSt 6) (lawEnv nm L a cd c1 c2)) Q E s := by
  show wpAny _ _ (exec (Stmt.For _ _ _ _ _) _) _ _ _
  have m1 := @many2_lo ns
  have m2 := @many2_hi ns
  refine wpAny_For ?_
  have gL := join_l (G := G) hL
  have lk1 := lk.many
  walk_at "m_st"
  rename St _ _ _ _ => S1
  rename (join _ _ _ = none) => hr
  refine iter_range1 S1 hr (many2 ns) (by omega) (by decide) (by omega) ?_
  intro it s2 hit S2
  clear S1
  refine for_tree (row_range 0 1 (many2 ns)) (I6 ns pc ph qn) S2 hit hL fr dj ⟨lk, ?_⟩ (fun _ _ _ _ _ => trivial) hh ?_ ?_
  · rw [ksG_zero]; exact t
  · intro i F2 l' G' s3 y ⟨q1, t'⟩ hx kp hL2 dj2 fr2 S3 QB EB hQB
    obtain ⟨j, hj, j0, j1, rfl⟩ := rRow_at hx
    have hi : i < many2 ns := by omega
    have hjn : j = (i : Int) := by omega
    have g2 := join_l (G := G') (kp _ _ (ne_kind h2 hL (by intro z; cases z)) h2)
    have gq := join_l (G := G') (kp _ _ (ne_kind hq hL (by intro z; cases z)) hq)
    have gn := join_l (G := G') (kp _ _ (ne_kind hn hL (by intro z; cases z)) hn)
    have gL := join_l (G := G') hL2
    have e1 : (nums2 ns)[(7 + j).toNat]? = some (.int (num2 ns (7 + i)) 0) := by rw [show (7 + j).toNat = 7 + i by omega]; exact nums2_get (by omega)
    have e2 : (names2 ns)[j.toNat]? = some (.int (hNm ns (i + 1)) 0) := by rw [show j.toNat = i by omega]; exact names2_get hi
    have e3 : (names2 ns)[(j - 1).toNat]? = some (.int (hNm ns (max i 1)) 0) := by
      rw [show max i 1 = (i - 1) + 1 by omega, show (j - 1).toNat = i - 1 by omega]
      exact names2_get (by omega)
    obtain ⟨P, dd, Gt, p, f1, f2, -, -, ej⟩ := t'.split dj2
    have gpt : join F2 G' ph = some (.inst 347 (pfl P dd)) := by rw [ej]; exact join_l (upd_other p.ne (upd_self ..))
    have lk1 := q1.chain
    have lk2 := q1.names
    have eW : 1 + num2 ns (7 + i) % 256 = (gH ns).wt (i + 1) := by show _ = 1 + num2 ns (6 + (i + 1)) % 256; congr 3; omega
    have eA : 0 < j → hNm ns (max i 1) = (gH ns).nm ((gH ns).ab (i + 1)) := fun h => by show _ = hNm ns (i + 1 - 1); congr 1; omega
    have eA0 : ¬ 0 < j → (0 : Int) = (gH ns).nm ((gH ns).ab (i + 1)) := fun h => by show _ = hNm ns (i + 1 - 1); rw [show i + 1 - 1 = 0 by omega]; rfl
    walk_at "m_st"
    all_goals
      rename St _ _ _ _ => S5
      refine gg_insert S5 (by walk_at "m_R") fr2 dj2 t' (show i < many2 ns from hi) rfl (by first | exact eA (by assumption) | exact eA0 (by assumption)) eW ?_
      intro G3 s6 dj3 t3 S6
      have gL3 := join_l (G := G3) hL2
      have gn3 := join_l (G := G3) (kp _ _ (ne_kind hn hL (by intro z; cases z)) hn)
      obtain ⟨P3, dd3, Gt3, p3, f13, f23, -, -, ej3⟩ := t3.split dj3
      have gpt3 : join F2 G3 ph = some (.inst 347 (pfl P3 dd3)) := by rw [ej3]; exact join_l (upd_other p3.ne (upd_self ..))
      walk_at "m_st"
      rename St _ _ _ _ => S7
      refine gg_block S7 (by walk_at "m_R") fr2 dj3 t3 (show i < many2 ns from hi) rfl rfl ?_
      intro G4 s7 dj4 t4 S8
      walk_at "m_st"
      refine ⟨("i", .int j 0) :: l', G4, ⟨⟨q1.many, q1.comb, q1.chain, q1.names⟩, t4⟩, dj4, ?_⟩
      rw [upd_id hL2]
      exact S8
  · intro l' G' s3 h1 h2 S3
    rw [rRow_len] at h1
    walk_at "m_st"
    exact k _ _ _ h1 h2 S3
end
end
section
section
variable {w : World} {c : Cx PySem.Challenge.rw_bd0031_02.row.prog w (MineTop.hd.heap_39 w.params)} {envs : List Env} {H F G : AH} {A : Around} {Q : Flow → Shared → Prop} {E : Value → Shared → Prop} {s : Shared} {nm : Str} {L a c1 c2 sa : Nat} {cd : Value} {ns : List Int} {l : List (Str × Value)} {u : Option Value}
theorem st7 {qn pc ph : Nat} (S : St c (lawEnv nm L a cd c1 c2 :: envs) (join F G) s) (hL : F L = some (.ns l)) (fr : Frs (lawEnv nm L a cd c1 c2 :: envs) F) (dj : Dj F G)
    (lk : Lk2 ns pc ph qn l) (t : PTree 253 347 ((gH ns).M (many2 ns)) (ksG (gH ns) (many2 ns)) ph G) (R : Rm A 300 4000) (hh : A.handled = none) (hA : A.frames = some (lawEnv nm L a cd c1 c2 :: envs))
    (k : ∀ G' s', PTree 253 347 (HM ns 0) (ksG (gH ns) (many2 ns)) ph G' → Dj F G' → St c (lawEnv nm L a cd c1 c2 :: envs) (join F G') s' → Q .next s') :
    wpAny (model PySem.Challenge.rw_bd0031_02.row.prog w) A (exec (lawSt 7) (lawEnv nm L a cd c1 c2)) Q E s := by
  show wpAny _ _ (exec (Stmt.Try _ _ _ _ _) _) _ _ _
  have gL := join_l (G := G) hL
  obtain ⟨P, dd, Gt, p, f1, f2, -, -, ej⟩ := t.split dj
  have gpt : join F G ph = some (.inst 347 (pfl P dd)) := by rw [ej]; exact join_l (upd_other p.ne (upd_self ..))
  have lk1 := lk.chain
  refine wpAny_Try_except ?_
  walk_at "m_st"
  rename St _ _ _ _ => S5
  obtain ⟨mo, mn, d, md, ma⟩ := @vainH ns
  refine next_spec S5 (by walk_at "m_R") hA hh fr dj t mo md rkH ma ?_ ?_
  · intro v x M' G2 s6 hv2 hs
    rw [hs] at mn; cases mn
  · intro e h T M' G2 s6 hs dj3 t3 hn F3
    refine caught_R (newId := "Exception.__new__") (.inl F3) hA rfl (by k_is) (by k_exc) PySem.F.excBase_Exception.hasBase fun T2 s7 he hT hTe S6 => ?_
    have S7 := S6.sub (H := join F G2) ((((Sub.refl _).fresh hn).fresh (none_up hT)).fresh (none_up he)) fr.join
    walk_at "m_st"
    have hM : HM ns 0 = M' := by show (sched 11 _ 0).2 = M'; rw [hs]
    exact k G2 _ (hM ▸ t3) dj3 S7
theorem st8 (S : St c envs H s) (hL : H L = some (.ns l)) (hm : l.lookup ("many" : Str) = some (.int (many2 ns) 0)) (R : Rm A 60 600) (hh : A.handled = none)
    (k : ∀ (p0 p1 p2 pq aq : Nat) s', H p0 = none → H p1 = none → H p2 = none → H pq = none → H aq = none → [p0, p1, p2, pq, aq].Nodup → St c envs (upd (upd (upd (upd (upd (upd H p0 (.list (intsV ((pgs (many2 ns) 0).getD 0 [])))) p1 (.list [])) p2 (.list [])) pq (.list [.ref p0, .ref p1, .ref p2])) aq (.list [])) L (.ns (("pegs", .ref pq) :: ("awake", .ref aq) :: l))) s' → Q .next s') :
    wpAny (model PySem.Challenge.rw_bd0031_02.row.prog w) A (exec (lawSt 8) (lawEnv nm L a cd c1 c2)) Q E s := by
  show wpAny _ _ (exec (Stmt.Assign _ _ _) _) _ _ _
  have fr := S.frs
  have m1 := @many2_lo ns
  have m2 := @many2_hi ns
  walk_at "m_st"
  rename St _ _ _ _ => S1
  rename (H _ = none) => hr
  refine iter_rangeD S1 hr (by omega) ?_
  intro it s2 hit S2
  clear S1
  refine comp_pure (row_range (many2 ns) (-1) (many2 ns)) (onInt fun i => .int i 0) S2 hit trivial (.inl hh) (by rw [rRow_len]; omega) (by decide) rfl rfl ?_ ?_ ?_
  · intro C i v y s3 Hc l' E' hy hv keep hC S3
    obtain ⟨hi, rfl⟩ := rRow_get hy
    exact wpAny_tests_nil ⟨rfl, S3⟩
  · intro C i v y z s3 Hc l' E' hy hv hz keep hC S3
    obtain ⟨hi, rfl⟩ := rRow_get hy
    obtain rfl := Option.some.inj hz
    walk_at "m_st"
    all_goals first | assumption | rfl
  · intro D C s3 l' hD hC S3
    have e : (rRow (many2 ns) (-1) (many2 ns)).filterMap (onInt fun i => .int i 0) = intsV ((pgs (many2 ns) 0).getD 0 []) := by
      show _ = intsV ((List.range (many2 ns)).map (fun i : Nat => (many2 ns : Int) - i))
      unfold rRow intsV
      rw [List.filterMap_map, List.map_map, show ((onInt fun i => Value.int i 0) ∘ fun k : Nat => Value.int ((many2 ns : Int) + (k : Int) * (-1)) 0) = some ∘ ((fun i => Value.int i 0) ∘ fun i : Nat => (many2 ns : Int) - i) from funext fun i => by
        show some (Value.int ((many2 ns : Int) + (i : Int) * (-1)) 0) = some (Value.int ((many2 ns : Int) - i) 0)
        congr 2; omega, List.filterMap_eq_map]
    rw [e] at hC S3
    refine comp_none S3 hC (fr.fresh hD) ?_
    intro s4 S4
    clear S3 S2
    walk_at "m_st"
    rename (upd H D _ _ = none) => a1
    rename (upd (upd H D _) _ _ _ = none) => a2
    rename (upd (upd (upd H D _) _ _) _ _ _ = none) => a3
    rename (upd (upd (upd (upd H D _) _ _) _ _) _ _ _ = none) => a4
    rename (upd (upd (upd (upd (upd H D _) _ _) _ _) _ _) _ _ _ = none) => a5
    rename St _ _ _ _ => S5
    refine unpackItems_ S5 (upd_self ..) (.inl hh) (fun vs s' hvs S6 => ?_) rfl
    clear S5
    obtain ⟨v1, v2, rfl, h1, h2⟩ := map_two hvs
    have h1 := er_ref h1
    have h2 := er_ref h2
    subst h1 h2
    have b1 := none_ne a1
    have b2 := none_ne a2
    have b3 := none_ne a3
    have b4 := none_ne a4
    have b5 := none_ne a5
    have d1 := none_up a1
    have d2 := none_up a2
    have d3 := none_up a3
    have d4 := none_up a4
    have d5 := none_up a5
    have c2 := none_ne d2
    have c3 := none_ne d3
    have c4 := none_ne d4
    have e2 := none_up d2
    have e3 := none_up d3
    have e4 := none_up d4
    have f3 := none_ne e3
    have f4 := none_ne e4
    have g3 := none_up e3
    have g4 := none_up e4
    have i4 := none_ne g4
    have j4 := none_up g4
    have L1 := ne_fresh hD hL
    have L2 := ne_fresh d1 hL
    have L3 := ne_fresh e2 hL
    have L4 := ne_fresh g3 hL
    have L5 := ne_fresh j4 hL
    have L6 := ne_fresh (none_up (none_up (none_up (none_up d5)))) hL
    walk_at "m_st"
    rename St _ _ _ _ => S7
    change St c envs (upd (upd _ L _) L _) _ at S7
    rw [upd_upd] at S7
    refine k _ _ _ _ _ _ hD d1 e2 g3 j4 ?_ (S7.sub ?_ ?_)
    · simp only [List.nodup_cons, List.mem_cons, List.not_mem_nil, or_false, not_or, List.nodup_nil, not_false_iff, and_true]
      exact ⟨⟨Ne.symm b1, Ne.symm c2, Ne.symm f3, Ne.symm i4⟩, ⟨Ne.symm b2, Ne.symm c3, Ne.symm f4⟩, ⟨Ne.symm b3, Ne.symm c4⟩, Ne.symm b4⟩
    · walk_at "m_sub"
    · have q1 := fr.fresh (x := .list (intsV ((pgs (many2 ns) 0).getD 0 []))) hD
      have q2 := q1.fresh (x := .list []) a1
      have q3 := q2.fresh (x := .list []) a2
      exact ((q3.fresh a3).fresh a4).ns (upd_other L5 (upd_other L4 (upd_other L3 (upd_other L2 (upd_other L1 hL)))))
end
end
local macro_rules | `(tactic| walk_at "getMethod ref") => `(tactic| ((with_reducible show wpAny _ _ (getMethod (Value.ref _) (PySem.Str.ofString "index") _) _ _ _); rename St _ _ _ _ => mS; k_dflt (refine' list_meth mS ?e PySem.F.slot_list_index PySem.F.type_list_index ?_; (case e => walk_at "m_H"))))
local macro_rules | `(tactic| walk_at "getMethod ref") => `(tactic| ((with_reducible show wpAny _ _ (getMethod (Value.ref _) (PySem.Str.ofString "remove") _) _ _ _); rename St _ _ _ _ => mS; k_dflt (refine' list_meth mS ?e PySem.F.slot_list_remove PySem.F.type_list_remove ?_; (case e => walk_at "m_H"))))
local macro_rules | `(tactic| walk_at "getMethod ref") => `(tactic| ((with_reducible show wpAny _ _ (getMethod (Value.ref _) (PySem.Str.ofString "pop") _) _ _ _); rename St _ _ _ _ => mS; k_dflt (refine' list_meth mS ?e PySem.F.slot_list_pop PySem.F.type_list_pop ?_; (case e => walk_at "m_H"))))
local macro_rules | `(tactic| walk_at "compareOp In int ref") => `(tactic| (rename St _ _ _ _ => mS; k_dflt (refine' in_ints mS ?e ?_; (case e => walk_at "m_H"))))
local macro_rules | `(tactic| walk_at "compareOp NotIn int ref") => `(tactic| (rename St _ _ _ _ => mS; k_dflt (refine' notin_ints mS ?e ?_; (case e => walk_at "m_H"))))
local macro_rules | `(tactic| walk_at "call builtin:list.index") => `(tactic| (rename St _ _ _ _ => mS; k_dflt (refine' idx_ints mS ?e ?z ?m ?_; (case e => walk_at "m_H"); (case z => omega); (case m => assumption)); intro tk s' S'; clear mS))
local macro_rules | `(tactic| walk_at "call builtin:list.remove") => `(tactic| (rename St _ _ _ _ => mS; k_dflt (refine' rem_ints mS ?e ?z ?m ?_; (case e => walk_at "m_H"); (case z => omega); (case m => assumption)); intro s' S'; clear mS))
section
noncomputable def bodySt (i : Nat) : Stmt := (forBody (lawSt 9)).getD i default
section
variable {w : World} {c : Cx PySem.Challenge.rw_bd0031_02.row.prog w (MineTop.hd.heap_39 w.params)} {envs : List Env} {H F G : AH} {A : Around} {Q : Flow → Shared → Prop} {E : Value → Shared → Prop} {s : Shared} {nm : Str} {L a c1 c2 sa : Nat} {cd : Value} {ns : List Int} {l : List (Str × Value)} {u : Option Value}
noncomputable def topAt (p : Nat → Nat) (P : List (List Int)) (v : Value) : Option Value :=
  match v with
  | .ref a => some (.int (if a = p 0 then (P.getD 0 []).getLastD 0 else if a = p 1 then (P.getD 1 []).getLastD 0 else (P.getD 2 []).getLastD 0) 0)
  | _ => none
theorem bd1 {p : Nat → Nat} {pq : Nat} {P : List (List Int)} (S : St c envs H s) (hL : H L = some (.ns l)) (hl : l.lookup ("pegs" : Str) = some (.ref pq)) (hpq : H pq = some (.list [.ref (p 0), .ref (p 1), .ref (p 2)])) (hP : P.length = 3)
    (hp : ∀ k, k < 3 → H (p k) = some (.list (intsV (P.getD k [])))) (hz : ∀ k, k < 3 → (P.getD k []).length ≤ 5) (inj : ∀ i j, i < 3 → j < 3 → p i = p j → i = j) (R : Rm A 60 600) (hh : A.handled = none)
    (k : ∀ (tq : Nat) s', H tq = none → St c envs (upd (upd H tq (.list (intsV (tops P)))) L (.ns (("tops", .ref tq) :: l))) s' → Q .next s') :
    wpAny (model PySem.Challenge.rw_bd0031_02.row.prog w) A (exec (bodySt 1) (lawEnv nm L a cd c1 c2)) Q E s := by
  show wpAny _ _ (exec (Stmt.Assign _ _ _) _) _ _ _
  have fr := S.frs
  k_dflt refine' comp_assign ?hsw ?c ?k ?n ?_
  case hsw => with_unfolding_all rfl
  case c => with_unfolding_all rfl
  case k => rfl
  case n => decide
  walk_at "m_st"
  rename St _ _ _ _ => S1
  refine iter_list S1 hpq ?_
  intro it s2 hit S2
  clear S1
  refine comp_pure (row_list pq [.ref (p 0), .ref (p 1), .ref (p 2)]) (topAt p P) S2 hit hpq (.inl hh) (by simp) (by decide) rfl rfl ?_ ?_ ?_
  · intro C i v y s3 Hc l' E' hy hv keep hC S3
    have : (topAt p P y).isSome = true := by
      rcases i with _ | _ | _ | i
      · cases hy; rfl
      · cases hy; rfl
      · cases hy; rfl
      · simp at hy
    rw [this]
    exact wpAny_tests_nil ⟨rfl, S3⟩
  · intro C i v y z s3 Hc l' E' hy hv hz2 keep hC S3
    obtain ⟨j, hj, rfl, rfl⟩ : ∃ j, j < 3 ∧ y = .ref (p j) ∧ z = .int ((P.getD j []).getLastD 0) 0 := by
      rcases i with _ | _ | _ | i
      · cases hy; cases hz2
        exact ⟨0, by omega, rfl, by rw [if_pos rfl]⟩
      · cases hy; cases hz2
        exact ⟨1, by omega, rfl, by rw [if_neg (fun z => absurd (inj 1 0 (by omega) (by omega) z) (by omega)), if_pos rfl]⟩
      · cases hy; cases hz2
        exact ⟨2, by omega, rfl, by rw [if_neg (fun z => absurd (inj 2 0 (by omega) (by omega) z) (by omega)), if_neg (fun z => absurd (inj 2 1 (by omega) (by omega) z) (by omega))]⟩
      · simp at hy
    have hpj := keep _ _ (hp j hj)
    have hzj := hz j hj
    generalize P.getD j [] = X at hpj hzj
    have fr3 := S3.frs
    rcases List.eq_nil_or_concat X with rfl | ⟨X', x, rfl⟩
    · walk_at "m_st"
      rename St _ _ _ _ => S5
      exact S5.sub ((Sub.refl _).fresh (by assumption)) fr3
    · rw [List.concat_eq_append] at *
      have hpj2 : Hc (p j) = some (.list (intsV X' ++ [.int x 0])) := by rw [hpj, intsV_app]; rfl
      have hne : (intsV X' ++ [Value.int x 0]).isEmpty = false := by simp
      have hlen : (intsV X').length ≤ 1000 := by rw [intsV_len]; simp at hzj; omega
      have hlast : (X' ++ [x]).getLastD 0 = x := by simp
      rw [hlast]
      clear hpj
      walk_at "m_st"
      · rename (_ = true) => hq; rw [hne] at hq; cases hq
      · rename (_ = true) => hq; rw [hne] at hq; cases hq
      · rename St _ _ _ _ => S5
        refine last_item S5 (xs := intsV X') (x := .int x 0) (by walk_at "m_H") hlen (fun v hv2 => ?_) (by with_unfolding_all rfl)
        exact ⟨hv2, S5.sub ((Sub.refl _).fresh (by assumption)) fr3⟩
  · intro D C s3 l' hD hC S3
    have e : [Value.ref (p 0), .ref (p 1), .ref (p 2)].filterMap (topAt p P) = intsV (tops P) := by
      obtain ⟨x, y, z, rfl⟩ : ∃ x y z, P = [x, y, z] := by
        match P, hP with
        | [x, y, z], _ => exact ⟨x, y, z, rfl⟩
      have n1 : ¬ p 1 = p 0 := fun z => absurd (inj 1 0 (by omega) (by omega) z) (by omega)
      have n2 : ¬ p 2 = p 0 := fun z => absurd (inj 2 0 (by omega) (by omega) z) (by omega)
      have n3 : ¬ p 2 = p 1 := fun z => absurd (inj 2 1 (by omega) (by omega) z) (by omega)
      simp [topAt, tops, intsV, n1, n2, n3]
    rw [e] at hC S3
    refine comp_use S3 hC (fr.fresh hD) (upd_other (ne_fresh hD hL) hL) rfl (fun s4 S4 => ?_) rfl rfl rfl
    exact k _ _ hD S4
theorem bd2 {tq : Nat} {d : Int} {T : List Int} (S : St c envs H s) (hL : H L = some (.ns l)) (hl : l.lookup ("tops" : Str) = some (.ref tq)) (hd : l.lookup ("disk" : Str) = some (.int d 0)) (htq : H tq = some (.list (intsV T))) (hm : d ∈ T) (R : Rm A 60 600) (hh : A.handled = none)
    (k : ∀ s', St c envs H s' → Q .next s') :
    wpAny (model PySem.Challenge.rw_bd0031_02.row.prog w) A (exec (bodySt 2) (lawEnv nm L a cd c1 c2)) Q E s := by
  show wpAny _ _ (exec (Stmt.If _ _ _ _) _) _ _ _
  have ha : T.any (· == d) = true := List.any_eq_true.mpr ⟨d, hm, by simp⟩
  walk_at "m_st"
  all_goals first | (rename St _ _ _ _ => S5; exact k _ S5) | (exfalso; simp_all; done)
theorem bd3 {tq : Nat} {d : Int} {T : List Int} (S : St c envs H s) (hL : H L = some (.ns l)) (hl : l.lookup ("tops" : Str) = some (.ref tq)) (hd : l.lookup ("disk" : Str) = some (.int d 0)) (htq : H tq = some (.list (intsV T))) (hm : d ∈ T) (hm1 : (1 : Int) ∈ T) (hz : T.length ≤ 1000) (R : Rm A 60 600) (hh : A.handled = none)
    (k : ∀ s', St c envs (upd H L (.ns (("home", .int (T.idxOf d : Nat) 0) :: ("least", .int (T.idxOf 1 : Nat) 0) :: l))) s' → Q .next s') :
    wpAny (model PySem.Challenge.rw_bd0031_02.row.prog w) A (exec (bodySt 3) (lawEnv nm L a cd c1 c2)) Q E s := by
  show wpAny _ _ (exec (Stmt.Assign _ _ _) _) _ _ _
  have fr := S.frs
  walk_at "m_st"
  rename St _ _ _ _ => S5
  rename (H _ = none) => ha
  have nL := ne_fresh ha hL
  refine unpackItems_ S5 (upd_self ..) (.inl hh) (fun vs s' hvs S6 => ?_) rfl
  clear S5
  obtain ⟨v1, v2, rfl, h1, h2⟩ := map_two hvs
  obtain ⟨tk1, rfl⟩ := er_int h1
  obtain ⟨tk2, rfl⟩ := er_int h2
  walk_at "m_st"
  rename St _ _ _ _ => S7
  change St c envs (upd (upd _ L _) L _) _ at S7
  rw [upd_upd] at S7
  exact k _ (S7.sub (by walk_at "m_sub") (fr.ns hL))
theorem bd4 {d h e : Int} (S : St c envs H s) (hL : H L = some (.ns l)) (hd : l.lookup ("disk" : Str) = some (.int d 0)) (hhm : l.lookup ("home" : Str) = some (.int h 0)) (hle : l.lookup ("least" : Str) = some (.int e 0)) (R : Rm A 60 600) (hh : A.handled = none)
    (k : ∀ s', St c envs (upd H L (.ns (("to", .int (if d = 1 then (h + 1) % 3 else 3 - h - e) 0) :: l))) s' → Q .next s') :
    wpAny (model PySem.Challenge.rw_bd0031_02.row.prog w) A (exec (bodySt 4) (lawEnv nm L a cd c1 c2)) Q E s := by
  show wpAny _ _ (exec (Stmt.Assign _ _ _) _) _ _ _
  walk_at "m_st"
  all_goals
    first | (rename (d = 1) => hq; rw [if_pos hq] at k) | (rename (¬ d = 1) => hq; rw [if_neg hq] at k)
    rename St _ _ _ _ => S5
    exact k _ S5
theorem bd5 {tq : Nat} {d x : Int} {to : Nat} {T : List Int} (S : St c envs H s) (hL : H L = some (.ns l)) (hd : l.lookup ("disk" : Str) = some (.int d 0)) (ht : l.lookup ("to" : Str) = some (.int (to : Int) 0)) (hl : l.lookup ("tops" : Str) = some (.ref tq)) (htq : H tq = some (.list (intsV T))) (hx : T[to]? = some x) (hn : ¬ (0 < x ∧ x < d)) (hz : T.length ≤ 1000) (R : Rm A 60 600) (hh : A.handled = none)
    (k : ∀ s', St c envs H s' → Q .next s') :
    wpAny (model PySem.Challenge.rw_bd0031_02.row.prog w) A (exec (bodySt 5) (lawEnv nm L a cd c1 c2)) Q E s := by
  show wpAny _ _ (exec (Stmt.If _ _ _ _) _) _ _ _
  have hx1 : (intsV T)[((to : Nat) : Int).toNat]? = some (.int x 0) := by rw [Int.toNat_natCast]; exact intsV_get hx
  have hlt : ((to : Nat) : Int) < ((intsV T).length : Int) := by
    have := (List.getElem?_eq_some_iff.mp hx).1
    rw [intsV_len]; omega
  have hz2 : (intsV T).length ≤ 1000 := by rw [intsV_len]; exact hz
  walk_at "m_st"
  all_goals first | (rename St _ _ _ _ => S5; exact k _ S5) | (exfalso; exact hn ⟨by assumption, by assumption⟩) | (exfalso; omega)
theorem bd6 {p : Nat → Nat} {pq h : Nat} {X : List Int} {x : Int} (S : St c envs H s) (hL : H L = some (.ns l)) (hl : l.lookup ("pegs" : Str) = some (.ref pq)) (hpq : H pq = some (.list [.ref (p 0), .ref (p 1), .ref (p 2)])) (hhm : l.lookup ("home" : Str) = some (.int (h : Int) 0)) (h3 : h < 3) (hp : H (p h) = some (.list (intsV (X ++ [x])))) (hz : X.length ≤ 1000) (R : Rm A 60 600) (hh : A.handled = none)
    (k : ∀ s', St c envs (upd H (p h) (.list (intsV X))) s' → Q .next s') :
    wpAny (model PySem.Challenge.rw_bd0031_02.row.prog w) A (exec (bodySt 6) (lawEnv nm L a cd c1 c2)) Q E s := by
  show wpAny _ _ (exec (Stmt.Expr _ _) _) _ _ _
  have hx1 : [Value.ref (p 0), .ref (p 1), .ref (p 2)][((h : Nat) : Int).toNat]? = some (.ref (p h)) := by
    rw [Int.toNat_natCast]
    rcases (by omega : h = 0 ∨ h = 1 ∨ h = 2) with rfl | rfl | rfl <;> rfl
  rw [intsV_app] at hp
  walk_at "m_st"
  rename St _ _ _ _ => S5
  refine pop_last S5 (xs := intsV X) (x := .int x 0) hp (by rw [intsV_len]; exact hz) fun v s' hv S6 => ?_
  obtain ⟨tk, rfl⟩ := er_int hv
  exact k _ S6
theorem bd7 {p : Nat → Nat} {pq h : Nat} {X : List Int} {x : Int} (S : St c envs H s) (hL : H L = some (.ns l)) (hl : l.lookup ("pegs" : Str) = some (.ref pq)) (hpq : H pq = some (.list [.ref (p 0), .ref (p 1), .ref (p 2)])) (hhm : l.lookup ("to" : Str) = some (.int (h : Int) 0)) (hd : l.lookup ("disk" : Str) = some (.int x 0)) (h3 : h < 3) (hp : H (p h) = some (.list (intsV X))) (hz : X.length ≤ 900) (R : Rm A 60 600) (hh : A.handled = none)
    (k : ∀ s', St c envs (upd H (p h) (.list (intsV (X ++ [x])))) s' → Q .next s') :
    wpAny (model PySem.Challenge.rw_bd0031_02.row.prog w) A (exec (bodySt 7) (lawEnv nm L a cd c1 c2)) Q E s := by
  show wpAny _ _ (exec (Stmt.Expr _ _) _) _ _ _
  have hx1 : [Value.ref (p 0), .ref (p 1), .ref (p 2)][((h : Nat) : Int).toNat]? = some (.ref (p h)) := by
    rw [Int.toNat_natCast]
    rcases (by omega : h = 0 ∨ h = 1 ∨ h = 2) with rfl | rfl | rfl <;> rfl
  have hz2 : (intsV X).length ≤ 900 := by rw [intsV_len]; exact hz
  rw [intsV_app] at k
  walk_at "m_st"
  rename St _ _ _ _ => S5
  exact k _ S5
end
end
section
section
variable {w : World} {c : Cx PySem.Challenge.rw_bd0031_02.row.prog w (MineTop.hd.heap_39 w.params)} {envs : List Env} {H F G : AH} {A : Around} {Q : Flow → Shared → Prop} {E : Value → Shared → Prop} {s : Shared} {nm : Str} {L a c1 c2 sa : Nat} {cd : Value} {ns : List Int} {l : List (Str × Value)} {u : Option Value}
theorem int_min : ∀ {l : List Int}, l ≠ [] → ∃ m ∈ l, ∀ a ∈ l, m ≤ a
  | [], h => absurd rfl h
  | [x], _ => ⟨x, .head _, fun a h => by cases List.mem_singleton.mp h; exact Int.le_refl _⟩
  | x :: y :: r, _ => by
    obtain ⟨m, h1, h2⟩ := int_min (l := y :: r) (by simp)
    by_cases q : x ≤ m
    · exact ⟨x, .head _, fun a h => by
        rcases List.mem_cons.mp h with rfl | h
        · exact Int.le_refl _
        · exact Int.le_trans q (h2 a h)⟩
    · exact ⟨m, .tail _ h1, fun a h => by
        rcases List.mem_cons.mp h with rfl | h
        · omega
        · exact h2 a h⟩
theorem rkC : (gC ns).rk 0 < 11 := by
  have := GG.rk_le (g := gC ns) (x := 0)
  have := @many2_hi ns
  rw [gC_m] at *
  omega
theorem bd0 {pc t : Nat} (S : St c (lawEnv nm L a cd c1 c2 :: envs) (join F G) s) (hL : F L = some (.ns l)) (fr : Frs (lawEnv nm L a cd c1 c2 :: envs) F) (dj : Dj F G)
    (lk : l.lookup ("comb" : Str) = some (.ref pc)) (tt : PTree 253 347 (CM ns t) (ksG (gC ns) (2 * many2 ns - 1)) pc G) (R : Rm A 300 4000) (hh : A.handled = none) (hA : A.frames = some (lawEnv nm L a cd c1 c2 :: envs))
    (k : ∀ G' s', Dj F G' → PTree 253 347 (CM ns (t + 1)) (ksG (gC ns) (2 * many2 ns - 1)) pc G' → St c (lawEnv nm L a cd c1 c2 :: envs) (join (upd F L (.ns (("disk", .int (dsk (many2 ns) t : Int) 0) :: l))) G') s' → Q .next s') :
    wpAny (model PySem.Challenge.rw_bd0031_02.row.prog w) A (exec (bodySt 0) (lawEnv nm L a cd c1 c2)) Q E s := by
  show wpAny _ _ (exec (Stmt.Assign _ _ _) _) _ _ _
  have gL := join_l (G := G) hL
  obtain ⟨P, dd, Gt, p, f1, f2, -, -, ej⟩ := tt.split dj
  have gpt : join F G pc = some (.inst 347 (pfl P dd)) := by rw [ej]; exact join_l (upd_other p.ne (upd_self ..))
  walk_at "m_st"
  rename St _ _ _ _ => S5
  obtain ⟨mo, d, md, ma⟩ := @CM_good ns t
  have told := (@told_comb ns t).2
  refine next_spec S5 (by walk_at "m_R") hA hh fr dj tt mo md rkC ma ?_ ?_
  · intro v x M' G2 s6 hv2 hs dj3 t3 S6
    rw [hs] at told
    cases told
    obtain ⟨tk, rfl⟩ := er_int hv2
    have gL2 := join_l (G := G2) hL
    have hM : CM ns (t + 1) = M' := by show (sched 11 _ 0).2 = M'; rw [hs]
    walk_at "m_st"
    rename St _ _ _ _ => S7
    change St c _ (upd _ L _) _ at S7
    rw [upd_join] at S7
    exact k G2 _ dj3 (hM ▸ t3) S7
  · intro e h T M' G2 s6 hs
    rw [hs] at told; cases told
theorem bd8 {ph qn aq t : Nat} (S : St c envs (join F G) s) (hL : F L = some (.ns l)) (fr : Frs envs F) (dj : Dj F G)
    (lk1 : l.lookup ("chain" : Str) = some (.ref ph)) (lk2 : l.lookup ("names" : Str) = some (.ref qn)) (lk3 : l.lookup ("awake" : Str) = some (.ref aq)) (lk4 : l.lookup ("disk" : Str) = some (.int (dsk (many2 ns) t : Int) 0))
    (hn : F qn = some (.list (names2 ns))) (hq : F aq = some (.list (intsV (awk (many2 ns) t)))) (ht : t < 2 ^ many2 ns - 1)
    (tt : PTree 253 347 (HM ns t) (ksG (gH ns) (many2 ns)) ph G) (R : Rm A 60 600) (hh : A.handled = none)
    (k : ∀ G' s', Dj F G' → PTree 253 347 (HA ns t) (ksG (gH ns) (many2 ns)) ph G' → St c envs (join (upd F aq (.list (intsV (awk (many2 ns) (t + 1))))) G') s' → Q .next s') :
    wpAny (model PySem.Challenge.rw_bd0031_02.row.prog w) A (exec (bodySt 8) (lawEnv nm L a cd c1 c2)) Q E s := by
  show wpAny _ _ (exec (Stmt.If _ _ _ _) _) _ _ _
  have hf := han_of (@many2_lo ns) (@many2_hi ns) ht
  have mhi := @many2_hi ns
  obtain ⟨d1, d2⟩ := dsk_le (n := many2 ns) (t := t) (by have := @many2_lo ns; omega)
  obtain ⟨-, -, d, md⟩ := HA_good (ns := ns) ht
  have hla := hf.la
  have gL := join_l (G := G) hL
  have gn := join_l (G := G) hn
  have gq := join_l (G := G) hq
  obtain ⟨P, dd, Gt, p, f1, f2, -, -, ej⟩ := tt.split dj
  have gpt : join F G ph = some (.inst 347 (pfl P dd)) := by rw [ej]; exact join_l (upd_other p.ne (upd_self ..))
  have e1 : (names2 ns)[((dsk (many2 ns) t : Int) - 1).toNat]? = some (.int (hNm ns (dsk (many2 ns) t)) 0) := by
    have := names2_get (ns := ns) (k := dsk (many2 ns) t - 1) (by omega)
    rw [show dsk (many2 ns) t - 1 + 1 = dsk (many2 ns) t by omega] at this
    rw [show ((dsk (many2 ns) t : Int) - 1).toNat = dsk (many2 ns) t - 1 by omega]; exact this
  have e2 : (intsV (awk (many2 ns) t)).length = (awk (many2 ns) t).length := intsV_len
  have d1' : (0 : Int) ≤ (dsk (many2 ns) t : Int) - 1 := by omega
  have d2' : (dsk (many2 ns) t : Int) - 1 < (names2 ns).length := by rw [names2_len]; omega
  have h0 : hNm ns (dsk (many2 ns) t) ≠ 0 := GG.nm_ne (g := gH ns) d1 d2
  have hHA : HA ns t = actv (HM ns t) (hNm ns (dsk (many2 ns) t)) (!((awk (many2 ns) t).any (· == (dsk (many2 ns) t : Int)))) := rfl
  have hW : awk (many2 ns) (t + 1) = if (awk (many2 ns) t).any (· == (dsk (many2 ns) t : Int)) then (awk (many2 ns) t).eraseIdx ((awk (many2 ns) t).idxOf (dsk (many2 ns) t : Int)) else awk (many2 ns) t ++ [(dsk (many2 ns) t : Int)] := rfl
  rw [hHA, hW] at k
  walk_at "m_st"
  · rename (_ = true) => hb
    rename St _ _ _ _ => S5
    rw [hb] at k
    have hm : (dsk (many2 ns) t : Int) ∈ awk (many2 ns) t := by
      obtain ⟨y, hy, e⟩ := List.any_eq_true.mp hb
      rw [← eq_of_beq e]; exact hy
    have hlz : (intsV (awk (many2 ns) t)).length ≤ 1000 := by rw [intsV_len]; omega
    refine block_spec S5 (by walk_at "m_R") fr dj tt md h0 ?_
    intro G2 s6 dj3 t3 S6
    have gL2 := join_l (G := G2) hL
    have gq2 := join_l (G := G2) hq
    have hlz2 : (awk (many2 ns) t).length ≤ 1000 := by omega
    walk_at "m_st"
    rename St _ _ _ _ => S7
    rw [upd_join] at S7
    exact k G2 _ dj3 t3 S7
  · rename (_ = false) => hb
    rename St _ _ _ _ => S5
    rw [hb] at k
    have hlz : (intsV (awk (many2 ns) t)).length ≤ 900 := by rw [intsV_len]; omega
    refine unblock_spec S5 (by walk_at "m_R") fr dj tt md h0 ?_
    intro G2 s6 dj3 t3 S6
    have gL2 := join_l (G := G2) hL
    have gq2 := join_l (G := G2) hq
    walk_at "m_st"
    rename St _ _ _ _ => S7
    rw [upd_join] at S7
    refine k G2 _ dj3 t3 ?_
    show St c envs (join (upd F aq (.list (intsV (awk (many2 ns) t ++ [(dsk (many2 ns) t : Int)])))) G2) _
    rw [intsV_app]
    exact S7
theorem bd9 {ph qn aq t : Nat} (S : St c (lawEnv nm L a cd c1 c2 :: envs) (join F G) s) (hL : F L = some (.ns l)) (fr : Frs (lawEnv nm L a cd c1 c2 :: envs) F) (dj : Dj F G)
    (lk1 : l.lookup ("chain" : Str) = some (.ref ph)) (lk2 : l.lookup ("names" : Str) = some (.ref qn)) (lk3 : l.lookup ("awake" : Str) = some (.ref aq))
    (hn : F qn = some (.list (names2 ns))) (hq : F aq = some (.list (intsV (awk (many2 ns) (t + 1))))) (ht : t < 2 ^ many2 ns - 1)
    (tt : PTree 253 347 (HA ns t) (ksG (gH ns) (many2 ns)) ph G) (R : Rm A 300 4000) (hh : A.handled = none) (hA : A.frames = some (lawEnv nm L a cd c1 c2 :: envs))
    (k : ∀ G' s', Dj F G' → PTree 253 347 (HM ns (t + 1)) (ksG (gH ns) (many2 ns)) ph G' → St c (lawEnv nm L a cd c1 c2 :: envs) (join F G') s' → Q .next s') :
    wpAny (model PySem.Challenge.rw_bd0031_02.row.prog w) A (exec (bodySt 9) (lawEnv nm L a cd c1 c2)) Q E s := by
  show wpAny _ _ (exec (Stmt.If _ _ _ _) _) _ _ _
  have hf := han_of (@many2_lo ns) (@many2_hi ns) ht
  obtain ⟨mo, ⟨d, md, ma⟩, -⟩ := HA_good (ns := ns) ht
  have gL := join_l (G := G) hL
  have gn := join_l (G := G) hn
  have gq := join_l (G := G) hq
  obtain ⟨P, dd, Gt, p, f1, f2, -, -, ej⟩ := tt.split dj
  have gpt : join F G ph = some (.inst 347 (pfl P dd)) := by rw [ej]; exact join_l (upd_other p.ne (upd_self ..))
  have hne : (intsV (awk (many2 ns) (t + 1))).isEmpty = false := by
    rw [intsV_isEmpty]
    cases q : awk (many2 ns) (t + 1) with
    | nil => exact absurd q hf.some
    | cons _ _ => rfl
  have gne : (awk (many2 ns) (t + 1)) ≠ [] := hf.some
  obtain ⟨m0, hm0, hmin⟩ : ∃ m ∈ awk (many2 ns) (t + 1), ∀ a ∈ awk (many2 ns) (t + 1), m ≤ a := int_min gne
  obtain ⟨y, hy, y1, y2, told⟩ := told_chain ht hm0 hmin
  walk_at "m_st"
  · rename (_ = true) => hq2; rw [hne] at hq2; cases hq2
  · rename St _ _ _ _ => S5
    rename (_ = none) => hr
    have S6 := S5.sub (H := join F G) ((Sub.refl _).fresh hr) fr.join
    refine next_spec S6 (by walk_at "m_R") hA hh fr dj tt mo md rkH ma ?_ ?_
    · intro v x M' G2 s6 hv2 hs dj3 t3 S7
      rw [hs] at told
      cases told
      obtain ⟨tk, rfl⟩ := er_int hv2
      have gL2 := join_l (G := G2) hL
      have gn2 := join_l (G := G2) hn
      have gq2 := join_l (G := G2) hq
      have hM : HM ns (t + 1) = M' := by rw [HM_succ, hs]
      have e1 : (names2 ns)[((y : Int) - 1).toNat]? = some (.int (hNm ns y) 0) := by
        have := names2_get (ns := ns) (k := y - 1) (by omega)
        rw [show y - 1 + 1 = y by omega] at this
        rw [show ((y : Int) - 1).toNat = y - 1 by omega]; exact this
      have mhi := @many2_hi ns
      have hlp : 0 < (awk (many2 ns) (t + 1)).length := List.length_pos_iff.mpr gne
      walk_at "m_st"
      rename St _ _ _ _ => S8
      refine min_ints S8 hh gL2 gq2 hlp fun M tk2 s7 hM1 hM2 S9 => ?_
      clear S8
      obtain rfl : M = (y : Int) := by
        have a1 := hM2 _ hm0
        have a2 := hmin _ hM1
        omega
      walk_at "m_st"
      all_goals first | (rename St _ _ _ _ => S10; exact k G2 _ dj3 (hM ▸ t3) S10) | (exfalso; exact absurd rfl (by assumption))
    · intro e h T M' G2 s6 hs
      rw [hs] at told; cases told
end
end
section
section
variable {w : World} {c : Cx PySem.Challenge.rw_bd0031_02.row.prog w (MineTop.hd.heap_39 w.params)} {envs : List Env} {H F G : AH} {A : Around} {Q : Flow → Shared → Prop} {E : Value → Shared → Prop} {s : Shared} {nm : Str} {L a c1 c2 sa : Nat} {cd : Value} {ns : List Int} {l : List (Str × Value)} {u : Option Value}
theorem body9 : forBody (lawSt 9) = [bodySt 0, bodySt 1, bodySt 2, bodySt 3, bodySt 4, bodySt 5, bodySt 6, bodySt 7, bodySt 8, bodySt 9] := rfl
structure Pegs (ns : List Int) (p : Nat → Nat) (aq t : Nat) (D : AH) : Prop where
  peg : ∀ k, k < 3 → D (p k) = some (.list (intsV ((pgs (many2 ns) t).getD k [])))
  awake : D aq = some (.list (intsV (awk (many2 ns) t)))
structure Lk9 (ns : List Int) (pc ph qn pq aq : Nat) (l : List (Str × Value)) : Prop where
  l2 : Lk2 ns pc ph qn l
  pegs : l.lookup ("pegs" : Str) = some (.ref pq)
  awake : l.lookup ("awake" : Str) = some (.ref aq)
noncomputable def I9 (ns : List Int) (p : Nat → Nat) (pc ph qn pq aq t : Nat) (l : List (Str × Value)) (Gd : AH) : Prop :=
  Lk9 ns pc ph qn pq aq l ∧ ∃ D Gc Gh, Gd = join (join D Gc) Gh ∧ Dj D Gc ∧ Dj (join D Gc) Gh ∧ Pegs ns p aq t D ∧
    PTree 253 347 (CM ns t) (ksG (gC ns) (2 * many2 ns - 1)) pc Gc ∧ PTree 253 347 (HM ns t) (ksG (gH ns) (many2 ns)) ph Gh
theorem st9 {p : Nat → Nat} {pc ph qn pq aq : Nat} (S : St c (lawEnv nm L a cd c1 c2 :: envs) (join F G) s) (hL : F L = some (.ns l)) (fr : Frs (lawEnv nm L a cd c1 c2 :: envs) F) (dj : Dj F G) (hI : I9 ns p pc ph qn pq aq 0 l G)
    (hn : F qn = some (.list (names2 ns))) (hpq : F pq = some (.list [.ref (p 0), .ref (p 1), .ref (p 2)])) (inj : ∀ i j, i < 3 → j < 3 → p i = p j → i = j) (hpa : ∀ k, k < 3 → p k ≠ aq)
    (R : Rm A 300 4000) (hh : A.handled = none) (hA : A.frames = some (lawEnv nm L a cd c1 c2 :: envs))
    (k : ∀ l' Gd s', I9 ns p pc ph qn pq aq (2 ^ many2 ns - 1) l' Gd → Dj F Gd → St c (lawEnv nm L a cd c1 c2 :: envs) (join (upd F L (.ns l')) Gd) s' → Q .next s') :
    wpAny (model PySem.Challenge.rw_bd0031_02.row.prog w) A (exec (lawSt 9) (lawEnv nm L a cd c1 c2)) Q E s := by
  show wpAny _ _ (exec (Stmt.For _ _ _ _ _) _) _ _ _
  have m1 := @many2_lo ns
  have m2 := @many2_hi ns
  have R2 : Rm A 60 600 := R.mono (by omega) (by omega)
  have hpw : (2 : Nat) ^ many2 ns ≤ 32 := Nat.pow_le_pow_right (n := 2) (by decide) m2
  have hpw1 : (1 : Nat) ≤ 2 ^ many2 ns := Nat.one_le_two_pow
  have hpe : (2 : Int) ^ ((many2 ns : Int)).toNat = ((2 ^ many2 ns : Nat) : Int) := by rw [Int.toNat_natCast]; simp
  refine wpAny_For ?_
  have gL := join_l (G := G) hL
  have lk1 := hI.1.l2.many
  walk_at "m_st"
  rename St _ _ _ _ => S1
  rename (join _ _ _ = none) => hr
  refine iter_range1 S1 hr (2 ^ many2 ns - 1) (by omega) (by decide) (by omega) ?_
  intro it s2 hit S2
  clear S1
  refine for_tree (row_range 0 1 (2 ^ many2 ns - 1)) (I9 ns p pc ph qn pq aq) S2 hit hL fr dj hI (fun _ _ _ _ _ => trivial) hh ?_ ?_
  · rintro t F2 l' _ s3 y ⟨q, D, Gc, Gh, rfl, d1, d2, DD, tc, th⟩ hx kp hL2 dj2 fr2 S3 QB EB hQB
    have ht : t < 2 ^ many2 ns - 1 := by
      have := (List.getElem?_eq_some_iff.mp hx).1
      rwa [rRow_len] at this
    clear hx
    have hf := han_of m1 m2 ht
    have dF2 : Dj F2 D := dj2.to_l.to_l
    have dFc : Dj F2 Gc := fun a o h => dj2.to_l a o (join_r d1 h)
    have dFh : Dj F2 Gh := fun a o h => dj2 a o (join_r d2 h)
    obtain ⟨FD, hFD⟩ : ∃ FD, FD = join F2 D := ⟨_, rfl⟩
    have a1 : Dj FD Gc := by rw [hFD]; exact dFc.joinl d1
    have a2 : Dj (join FD Gc) Gh := by rw [hFD, join_assoc]; exact dFh.joinl d2
    have e0 : join F2 (join (join D Gc) Gh) = join (join FD Gc) Gh := by rw [hFD, ← join_assoc, ← join_assoc]
    obtain ⟨e1, b1, b2⟩ := join_swap a1 a2
    rw [e0, e1] at S3
    have hLD : FD L = some (.ns (("t", y) :: l')) := by rw [hFD]; exact join_l hL2
    have frD : Frs (lawEnv nm L a cd c1 c2 :: envs) FD := by rw [hFD]; exact fr2.join
    show wpAny _ _ (execs (forBody (lawSt 9)) _) _ _ _
    rw [body9]
    refine execs_cons_h ?_
    intro QS1 hQS1
    refine bd0 S3 (join_l hLD) frD.join b2 q.l2.comb tc R hh hA ?_
    intro Gc2 s4 b3 tc2 S4
    refine unhide hQS1 ?_
    dsimp only
    obtain ⟨e2, b4, b5⟩ := join_swap b1 b3
    obtain ⟨Hb, hHb⟩ : ∃ Hb, Hb = join (join FD Gc2) Gh := ⟨_, rfl⟩
    rw [← upd_join, e2, ← hHb] at S4
    clear S3 e0 e1 a1 a2 b2
    have kb : ∀ (a : Nat) o, FD a = some o → Hb a = some o := fun a o h => by rw [hHb]; exact join_l (join_l h)
    have kF : ∀ (a : Nat) o, o.isNs = false → F a = some o → a ≠ L ∧ F2 a = some o := fun a o n h => by
      have : a ≠ L := fun z => by rw [z, hL] at h; cases h; cases n
      exact ⟨this, kp _ _ this h⟩
    have kD : ∀ (a : Nat) o, D a = some o → a ≠ L ∧ F2 a = none ∧ FD a = some o := fun a o h => by
      have f := dF2 _ _ h
      exact ⟨fun z => (by rw [z, hL2] at f; cases f), f, (by rw [hFD]; exact join_r dF2 h)⟩
    obtain ⟨pqL, pq2⟩ := kF _ _ rfl hpq
    obtain ⟨qnL, qn2⟩ := kF _ _ rfl hn
    have hHL : Hb L = some (.ns (("t", y) :: l')) := kb _ _ hLD
    have hHpq : Hb pq = some (.list [.ref (p 0), .ref (p 1), .ref (p 2)]) := kb _ _ (by rw [hFD]; exact join_l pq2)
    have hHp : ∀ j, j < 3 → Hb (p j) = some (.list (intsV ((pgs (many2 ns) t).getD j []))) := fun j hj => kb _ _ (kD _ _ (DD.peg j hj)).2.2
    have hz : ∀ j, j < 3 → ((pgs (many2 ns) t).getD j []).length ≤ 5 := fun j hj => by
      rcases (by omega : j = 0 ∨ j = 1 ∨ j = 2) with rfl | rfl | rfl
      · exact hf.l0
      · exact hf.l1
      · exact hf.l2
    refine execs_cons_h ?_
    intro QS2 hQS2
    refine bd1 (p := p) S4 (upd_self ..) q.pegs (upd_other pqL hHpq) hf.len (fun j hj => upd_other (kD _ _ (DD.peg j hj)).1 (hHp j hj)) hz inj R2 hh ?_
    intro tq s5 htq S5
    refine unhide hQS2 ?_
    dsimp only
    clear S4
    have tqL := none_ne htq
    have tqH := none_up htq
    have htl : (tops (pgs (many2 ns) t)).length = 3 := by rw [tops_len, hf.len]
    have hm1 : (dsk (many2 ns) t : Int) ∈ tops (pgs (many2 ns) t) := idx_mem (by rw [htl]; exact hf.home)
    have hm2 : (1 : Int) ∈ tops (pgs (many2 ns) t) := idx_mem (by rw [htl]; exact hf.least)
    refine execs_cons_h ?_
    intro QS3 hQS3
    refine bd2 S5 (upd_self ..) rfl rfl (upd_other tqL (upd_self ..)) hm1 R2 hh ?_
    intro s6 S6
    refine unhide hQS3 ?_
    dsimp only
    clear S5
    refine execs_cons_h ?_
    intro QS4 hQS4
    refine bd3 S6 (upd_self ..) rfl rfl (upd_other tqL (upd_self ..)) hm1 hm2 (by rw [htl]; decide) R2 hh ?_
    intro s7 S7
    refine unhide hQS4 ?_
    dsimp only
    clear S6
    rw [upd_upd] at S7
    refine execs_cons_h ?_
    intro QS5 hQS5
    refine bd4 S7 (upd_self ..) rfl rfl rfl R2 hh ?_
    intro s8 S8
    refine unhide hQS5 ?_
    dsimp only
    clear S7
    rw [upd_upd, to_eq hf.home hf.least hf.other] at S8
    refine execs_cons_h ?_
    intro QS6 hQS6
    refine bd5 (x := (tops (pgs (many2 ns) t)).getD (toPeg (pgs (many2 ns) t) (dsk (many2 ns) t)) 0) S8 (upd_self ..) rfl rfl rfl (upd_other tqL (upd_self ..)) ?_ hf.fits (by rw [htl]; decide) R2 hh ?_
    · rw [List.getD_eq_getElem?_getD]
      have : toPeg (pgs (many2 ns) t) (dsk (many2 ns) t) < (tops (pgs (many2 ns) t)).length := by rw [htl]; exact hf.to
      rw [List.getElem?_eq_getElem this]; rfl
    intro s9 S9
    refine unhide hQS6 ?_
    dsimp only
    clear S8
    obtain ⟨P, hP⟩ : ∃ P, P = pgs (many2 ns) t := ⟨_, rfl⟩
    obtain ⟨d, hd⟩ : ∃ d : Int, d = dsk (many2 ns) t := ⟨_, rfl⟩
    have hmv : ∀ j, (pgs (many2 ns) (t + 1)).getD j [] = if j = toPeg P d then P.getD (toPeg P d) [] ++ [d] else if j = (tops P).idxOf d then (P.getD ((tops P).idxOf d) []).dropLast else P.getD j [] := fun j => by
      rw [hP, hd]; exact moved_at hf.len hf.home hf.to hf.away j
    have hpeg := DD.peg
    have htop := hf.top
    have fh := hf.home
    have ft := hf.to
    have fa := hf.away
    have faw := hf.la
    rw [← hP] at S9 hHp hz hpeg
    rw [← hP, ← hd] at htop fh ft fa
    rw [← hd] at S9
    generalize hh2 : (tops P).idxOf d = h at *
    generalize ht2 : toPeg P d = o at *
    have x1 := (kD _ _ (hpeg h fh)).1
    have x2 := (kD _ _ (hpeg o ft)).1
    have x3 : p h ≠ tq := ne_fresh tqH (hHp h fh)
    have x4 : p o ≠ tq := ne_fresh tqH (hHp o ft)
    have x5 : p o ≠ p h := fun z => fa (inj _ _ ft fh z)
    have x6 := pqL
    have x7 : pq ≠ tq := ne_fresh tqH hHpq
    refine execs_cons_h ?_
    intro QS7 hQS7
    refine bd6 (p := p) (h := h) (X := (P.getD h []).dropLast) (x := d) S9 (upd_self ..) q.pegs (upd_other x6 (upd_other x7 (upd_other x6 hHpq))) rfl fh ?_ ?_ R2 hh ?_
    · have := hHp h fh
      rw [last_split htop] at this
      exact upd_other x1 (upd_other x3 (upd_other x1 this))
    · have := hz h fh
      rw [List.length_dropLast]; omega
    intro s10 S10
    refine unhide hQS7 ?_
    dsimp only
    clear S9
    have x8 : pq ≠ p h := ne_kind hHpq (hHp h fh) (by
      intro z
      have : [Value.ref (p 0), .ref (p 1), .ref (p 2)] = intsV (P.getD h []) := by injection z
      cases q : P.getD h [] with
      | nil => rw [q] at this; cases this
      | cons a b => rw [q] at this; injection this with e1 e2; cases e1)
    refine execs_cons_h ?_
    intro QS8 hQS8
    refine bd7 (p := p) (h := o) (X := P.getD o []) (x := d) S10 (upd_other (Ne.symm x1) (upd_self ..)) q.pegs (upd_other x8 (upd_other x6 (upd_other x7 (upd_other x6 hHpq)))) rfl rfl ft (upd_other x5 (upd_other x2 (upd_other x4 (upd_other x2 (hHp o ft))))) (by have := hz o ft; omega) R2 hh ?_
    intro s11 S11
    refine unhide hQS8 ?_
    dsimp only
    clear S10
    obtain ⟨l4, hl4⟩ : ∃ l4 : List (Str × Value), l4 = (("to" : Str), .int (o : Int) 0) :: ("home", .int (h : Int) 0) :: ("least", .int ((tops P).idxOf 1 : Nat) 0) :: ("tops", .ref tq) :: ("disk", .int d 0) :: ("t", y) :: l' := ⟨_, rfl⟩
    rw [← hl4] at S11
    have S12 := S11.sub (H := upd (upd (upd Hb L (.ns l4)) (p h) (.list (intsV (P.getD h []).dropLast))) (p o) (.list (intsV (P.getD o [] ++ [d])))) (by walk_at "m_sub") (by
      rw [hHb]
      exact ((frD.join.join.ns (join_l (join_l hLD))).turn (upd_other x1 (join_l (join_l (kD _ _ (hpeg h fh)).2.2))) rfl).turn (upd_other x5 (upd_other x2 (join_l (join_l (kD _ _ (hpeg o ft)).2.2)))) rfl)
    clear S11
    rw [hHb, upd_join, upd_join, upd_join, upd_join, upd_join, upd_join] at S12
    obtain ⟨y1, y2, y3⟩ := kD _ _ (hpeg h fh)
    obtain ⟨z1, z2, z3⟩ := kD _ _ (hpeg o ft)
    obtain ⟨w1, w2, w3⟩ := kD _ _ DD.awake
    have ah := hpa h fh
    have ao := hpa o ft
    have qh : qn ≠ p h := fun z => by rw [z, y2] at qn2; cases qn2
    have qo : qn ≠ p o := fun z => by rw [z, z2] at qn2; cases qn2
    have qa : qn ≠ aq := fun z => by rw [z, w2] at qn2; cases qn2
    obtain ⟨F8, hF8⟩ : ∃ F8, F8 = join (upd (upd (upd FD L (.ns l4)) (p h) (.list (intsV (P.getD h []).dropLast))) (p o) (.list (intsV (P.getD o [] ++ [d])))) Gc2 := ⟨_, rfl⟩
    rw [← hF8] at S12
    have L8 : F8 L = some (.ns l4) := by rw [hF8]; exact join_l (upd_other (Ne.symm x2) (upd_other (Ne.symm x1) (upd_self ..)))
    have qn8 : F8 qn = some (.list (names2 ns)) := by rw [hF8]; exact join_l (upd_other qo (upd_other qh (upd_other qnL (by rw [hFD]; exact join_l qn2))))
    have aq8 : F8 aq = some (.list (intsV (awk (many2 ns) t))) := by rw [hF8]; exact join_l (upd_other (Ne.symm ao) (upd_other (Ne.symm ah) (upd_other w1 w3)))
    have dj8 : Dj F8 Gh := by
      rw [hF8, ← upd_join, ← upd_join, ← upd_join]
      exact ((b5.l (b5.has (join_l hLD))).l (b5.has (join_l y3))).l (b5.has (join_l z3))
    have fr8 : Frs (lawEnv nm L a cd c1 c2 :: envs) F8 := by
      rw [hF8]
      exact (((frD.ns hLD).turn (upd_other y1 y3) rfl).turn (upd_other x5 (upd_other z1 z3)) rfl).join
    refine execs_cons_h ?_
    intro QS9 hQS9
    refine bd8 (F := F8) (G := Gh) S12 L8 fr8 dj8 (by rw [hl4]; exact q.l2.chain) (by rw [hl4]; exact q.l2.names) (by rw [hl4]; exact q.awake) (by rw [hl4, hd]; rfl) qn8 aq8 ht th R2 hh ?_
    intro Gh2 s13 dj9 th2 S13
    refine unhide hQS9 ?_
    dsimp only
    clear S12
    refine execs_cons_h ?_
    intro QS10 hQS10
    refine bd9 (F := upd F8 aq _) (G := Gh2) S13 (upd_other (Ne.symm w1) L8) (fr8.turn aq8 rfl) (dj9.l (dj9.has aq8)) (by rw [hl4]; exact q.l2.chain) (by rw [hl4]; exact q.l2.names) (by rw [hl4]; exact q.awake) (upd_other qa qn8) (upd_self ..) ht th2 R hh hA ?_
    intro Gh3 s14 dj10 th3 S14
    refine unhide hQS10 ?_
    dsimp only
    clear S13
    walk_at "m_st"
    have e5 : upd F8 aq (.list (intsV (awk (many2 ns) (t + 1)))) = join (upd F2 L (.ns l4)) (join (upd (upd (upd D (p h) (.list (intsV (P.getD h []).dropLast))) (p o) (.list (intsV (P.getD o [] ++ [d])))) aq (.list (intsV (awk (many2 ns) (t + 1))))) Gc2) := by
      rw [hF8, upd_join, hFD, upd_join (a := L), upd_join_r (upd_other y1 y2), upd_join_r (upd_other z1 z2), upd_join_r (upd_other w1 w2), join_assoc]
    rw [e5] at dj10 S14
    rw [join_assoc] at S14
    have dDc : Dj D Gc2 := by rw [hFD] at b4; exact b4.of_r
    have dFc2 : Dj F2 Gc2 := by rw [hFD] at b4; exact b4.of_l
    refine ⟨l4, _, ⟨⟨⟨?_, ?_, ?_, ?_⟩, ?_, ?_⟩, _, Gc2, Gh3, rfl, ((dDc.l (dDc.has (hpeg h fh))).l (dDc.has (hpeg o ft))).l (dDc.has DD.awake), dj10.of_r, ⟨fun j hj => ?_, upd_self ..⟩, tc2, th3⟩, ?_, S14⟩
    · rw [hl4]; exact q.l2.many
    · rw [hl4]; exact q.l2.comb
    · rw [hl4]; exact q.l2.chain
    · rw [hl4]; exact q.l2.names
    · rw [hl4]; exact q.pegs
    · rw [hl4]; exact q.awake
    · rw [hmv j]
      have ja := hpa j hj
      refine upd_other ja ?_
      by_cases jo : j = o
      · subst jo
        rw [if_pos rfl]; exact upd_self ..
      · rw [if_neg jo]
        have := upd_other (H := upd D (p h) (.list (intsV (P.getD h []).dropLast))) (o := .list (intsV (P.getD o [] ++ [d]))) (r := some (.list (intsV (if j = h then (P.getD h []).dropLast else P.getD j [])))) (show p j ≠ p o from fun z => jo (inj _ _ hj ft z))
        refine this ?_
        by_cases jh : j = h
        · subst jh
          rw [if_pos rfl]; exact upd_self ..
        · rw [if_neg jh]
          exact upd_other (fun z => jh (inj _ _ hj fh z)) (hpeg j hj)
    · exact Dj.joinr (Dj.joinr (((dF2.r y2).r z2).r w2) dFc2) (dj10.of_l.unL ⟨_, hL2⟩)
  · intro l' G' s3 h1 h2 S3
    rw [rRow_len] at h1
    walk_at "m_st"
    exact k _ _ _ h1 h2 S3
end
end
section
section
variable {w : World} {c : Cx PySem.Challenge.rw_bd0031_02.row.prog w (MineTop.hd.heap_39 w.params)} {envs : List Env} {H F G : AH} {A : Around} {Q : Flow → Shared → Prop} {E : Value → Shared → Prop} {s : Shared} {nm : Str} {L a c1 c2 sa : Nat} {cd : Value} {ns : List Int} {l : List (Str × Value)} {u : Option Value}
theorem st10 {p : Nat → Nat} {pq : Nat} {X Y : List Int} (S : St c envs H s) (hL : H L = some (.ns l)) (hl : l.lookup ("pegs" : Str) = some (.ref pq)) (hpq : H pq = some (.list [.ref (p 0), .ref (p 1), .ref (p 2)])) (h0 : H (p 0) = some (.list [])) (h1 : H (p 1) = some (.list (intsV X))) (h2 : H (p 2) = some (.list (intsV Y)))
    (o : X = [] ∨ Y = []) (R : Rm A 60 600) (hh : A.handled = none)
    (k : ∀ H' s', St c envs H' s' → Q (.ret (.bool true)) s') :
    wpAny (model PySem.Challenge.rw_bd0031_02.row.prog w) A (exec (lawSt 10) (lawEnv nm L a cd c1 c2)) Q E s := by
  show wpAny _ _ (exec (Stmt.Return _ _) _) _ _ _
  have x0 : [Value.ref (p 0), .ref (p 1), .ref (p 2)][(0 : Int).toNat]? = some (.ref (p 0)) := rfl
  have x1 : [Value.ref (p 0), .ref (p 1), .ref (p 2)][(1 : Int).toNat]? = some (.ref (p 1)) := rfl
  have x2 : [Value.ref (p 0), .ref (p 1), .ref (p 2)][(2 : Int).toNat]? = some (.ref (p 2)) := rfl
  walk_at "m_st"
  · rename (_ = true) => hq
    rename St _ _ _ _ => S5
    rw [hq]
    exact k _ _ S5
  · rename (_ = false) => hq
    rename St _ _ _ _ => S5
    have : (intsV Y).isEmpty = true := by
      rcases o with rfl | rfl
      · cases hq
      · rfl
    rw [this]
    exact k _ _ S5
theorem law_body : fnBody (PySem.Challenge.rw_bd0031_02.row.prog.main.body.getD 17 default) = [lawSt 0, lawSt 1, lawSt 2, lawSt 3, lawSt 4, lawSt 5, lawSt 6, lawSt 7, lawSt 8, lawSt 9, lawSt 10] := rfl
theorem law_walk (S : St c (lawEnv nm L a cd c1 c2 :: envs) H s) (sc : Scr c sa ns) (hL : H L = some (.ns [])) (h1 : H c1 = some (.cell (some (.ref sa)))) (h2 : H c2 = some (.cell none)) (n12 : c1 ≠ c2)
    (R : Rm A 300 4000) (hh : A.handled = none) (hA : A.frames = some (lawEnv nm L a cd c1 c2 :: envs))
    (k : ∀ Hc s', St c (lawEnv nm L a cd c1 c2 :: envs) Hc s' → Q (.ret (.bool true)) s') :
    wpAny (model PySem.Challenge.rw_bd0031_02.row.prog w) A (execs (fnBody (PySem.Challenge.rw_bd0031_02.row.prog.main.body.getD 17 default)) (lawEnv nm L a cd c1 c2)) Q E s := by
  rw [law_body]
  have R1 : Rm A 40 400 := R.mono (by omega) (by omega)
  have R2 : Rm A 60 600 := R.mono (by omega) (by omega)
  have m1 := @many2_lo ns
  have m2 := @many2_hi ns
  refine execs_cons_h ?_
  intro QS1 hQS1
  refine st0 S sc h1 h2 R1 hh ?_
  intro q s1 hq S1
  refine unhide hQS1 ?_
  dsimp only
  have q2 := ne_fresh hq h2
  have qL := ne_fresh hq hL
  have L2 := ne_kind hL h2 (by intro z; cases z)
  refine execs_cons_h ?_
  intro QS2 hQS2
  refine st1 S1 (upd_other L2 (upd_other qL hL)) (upd_self ..) (upd_other (Ne.symm q2) (upd_self ..)) R1 hh ?_
  intro s2 S2
  refine unhide hQS2 ?_
  dsimp only
  clear S S1
  obtain ⟨F1, hF1⟩ : ∃ F1, F1 = upd (upd (upd H q (.list (nums2 ns))) c2 (.cell (some (.ref q)))) L (.ns [("many", .int (many2 ns) 0)]) := ⟨_, rfl⟩
  rw [← hF1] at S2
  have f1L : F1 L = some (.ns [("many", .int (many2 ns) 0)]) := by rw [hF1]; exact upd_self ..
  have f12 : F1 c2 = some (.cell (some (.ref q))) := by rw [hF1]; exact upd_other (Ne.symm L2) (upd_self ..)
  have f1q : F1 q = some (.list (nums2 ns)) := by rw [hF1]; exact upd_other (Ne.symm qL) (upd_other (Ne.symm q2) (upd_self ..))
  refine execs_cons_h ?_
  intro QS3 hQS3
  refine st2 S2 f1L R1 hh ?_
  intro pc Gc s3 dj1 tc S3
  refine unhide hQS3 ?_
  dsimp only
  have fr1 := S2.frs
  clear S2
  refine execs_cons_h ?_
  intro QS4 hQS4
  have L2' := Ne.symm L2
  have Lq' := Ne.symm qL
  refine st3 S3 (upd_self ..) (fr1.ns f1L) (dj1.l (dj1.has f1L)) (upd_other L2' f12) (upd_other Lq' f1q) rfl rfl rfl tc R2 hh ?_
  intro l3 Gc3 s4 I dj3 S4
  refine unhide hQS4 ?_
  dsimp only
  clear S3
  obtain ⟨i1, i2, -, tc3⟩ := I
  rw [show min (2 * many2 ns) (2 * many2 ns - 1) = 2 * many2 ns - 1 by omega] at tc3
  rw [upd_upd] at S4
  have dj3' : Dj F1 Gc3 := dj3.unL ⟨_, f1L⟩
  refine execs_cons_h ?_
  intro QS5 hQS5
  refine st4 S4 (join_l (upd_self ..)) R1 hh ?_
  intro ph Gh s5 dj4 th S5
  refine unhide hQS5 ?_
  dsimp only
  clear S4
  rw [upd_join, upd_upd] at S5
  have dj4' : Dj (join F1 Gc3) Gh := by
    rw [← upd_join] at dj4; exact dj4.unL ⟨_, join_l f1L⟩
  refine execs_cons_h ?_
  intro QS6 hQS6
  refine st5 (q := q) S5 (join_l (join_l (upd_self ..))) (join_l (join_l (upd_other L2' f12))) (join_l (join_l (upd_other Lq' f1q))) i1 R1 hh ?_
  intro qn s6 hqn S6
  refine unhide hQS6 ?_
  dsimp only
  clear S5
  rw [upd_join, upd_join, upd_join, upd_join] at S6
  obtain ⟨hqn1, gh1⟩ := join_none hqn
  obtain ⟨fqn, gc1⟩ := join_none hqn1
  have qnL := none_ne fqn
  have fqn1 := none_up fqn
  obtain ⟨F2, hF2⟩ : ∃ F2, F2 = upd F1 qn (.list (names2 ns)) := ⟨_, rfl⟩
  obtain ⟨l5, hl5⟩ : ∃ l5 : List (Str × Value), l5 = (("names" : Str), .ref qn) :: ("chain", .ref ph) :: l3 := ⟨_, rfl⟩
  have e6 : upd (upd (upd F1 L (.ns ((("chain" : Str), .ref ph) :: l3))) qn (.list (names2 ns))) L (.ns l5) = upd F2 L (.ns l5) := by
    rw [upd_comm (Ne.symm qnL), upd_upd, hF2]
  rw [← hl5, e6] at S6
  have q2n := ne_fresh fqn1 f12
  have qqn := ne_fresh fqn1 f1q
  have f2L : F2 L = some (.ns [("many", .int (many2 ns) 0)]) := by rw [hF2]; exact upd_other (Ne.symm qnL) f1L
  have f22 : F2 c2 = some (.cell (some (.ref q))) := by rw [hF2]; exact upd_other q2n f12
  have f2q : F2 q = some (.list (nums2 ns)) := by rw [hF2]; exact upd_other qqn f1q
  have f2n : F2 qn = some (.list (names2 ns)) := by rw [hF2]; exact upd_self ..
  have fr2 : Frs (lawEnv nm L a cd c1 c2 :: envs) F2 := by rw [hF2]; exact fr1.fresh fqn1
  have dc2 : Dj F2 Gc3 := by rw [hF2]; exact dj3'.l gc1
  have dh2 : Dj (join F2 Gc3) Gh := by rw [hF2, ← upd_join]; exact dj4'.l gh1
  have lk : Lk2 ns pc ph qn l5 := by rw [hl5]; exact ⟨i1, i2, rfl, rfl⟩
  have qnL' := qnL
  have fL5 : upd F2 L (.ns l5) L = some (.ns l5) := upd_self ..
  have dc5 : Dj (upd F2 L (.ns l5)) Gc3 := dc2.l (dc2.has f2L)
  have dh5 : Dj (join (upd F2 L (.ns l5)) Gc3) Gh := by rw [← upd_join]; exact dh2.l (dh2.has (join_l f2L))
  have fr5 : Frs (lawEnv nm L a cd c1 c2 :: envs) (upd F2 L (.ns l5)) := fr2.ns f2L
  refine execs_cons_h ?_
  intro QS7 hQS7
  refine st6 S6 (join_l fL5) fr5.join dh5 (join_l (upd_other L2' f22)) (join_l (upd_other Lq' f2q)) (join_l (upd_other qnL' f2n)) lk th R2 hh ?_
  intro l6 Gh6 s7 I6' dj6 S7
  refine unhide hQS7 ?_
  dsimp only
  clear S6
  rw [upd_join, upd_upd] at S7
  have dh6 : Dj (join F2 Gc3) Gh6 := by
    rw [← upd_join] at dj6; exact dj6.unL ⟨_, join_l f2L⟩
  have dh7 : Dj (join (upd F2 L (.ns l6)) Gc3) Gh6 := by rw [← upd_join]; exact dh6.l (dh6.has (join_l f2L))
  have fr6 : Frs (lawEnv nm L a cd c1 c2 :: envs) (upd F2 L (.ns l6)) := fr2.ns f2L
  refine execs_cons_h ?_
  intro QS8 hQS8
  refine st7 S7 (join_l (upd_self ..)) fr6.join dh7 I6'.1 I6'.2 R hh hA ?_
  intro Gh7 s8 th7 dj7 S8
  refine unhide hQS8 ?_
  dsimp only
  clear S7
  refine execs_cons_h ?_
  intro QS9 hQS9
  refine st8 S8 (join_l (join_l (upd_self ..))) I6'.1.many R2 hh ?_
  intro p0 p1 p2 pq aq s9 n0 n1 n2 n3 n4 nd S9
  refine unhide hQS9 ?_
  dsimp only
  clear S8
  obtain ⟨u0, hg0⟩ := join_none n0
  obtain ⟨u1, hg1⟩ := join_none n1
  obtain ⟨u2, hg2⟩ := join_none n2
  obtain ⟨u3, hg3⟩ := join_none n3
  obtain ⟨u4, hg4⟩ := join_none n4
  obtain ⟨v0, cg0⟩ := join_none u0
  obtain ⟨v1, cg1⟩ := join_none u1
  obtain ⟨v2, cg2⟩ := join_none u2
  obtain ⟨v3, cg3⟩ := join_none u3
  obtain ⟨v4, cg4⟩ := join_none u4
  have L0 := none_ne v0
  have Ln1 := none_ne v1
  have Ln2 := none_ne v2
  have Ln3 := none_ne v3
  have Ln4 := none_ne v4
  simp only [List.nodup_cons, List.mem_cons, List.not_mem_nil, or_false, not_or, List.nodup_nil, not_false_iff, and_true] at nd
  obtain ⟨⟨a01, a02, a03, a04⟩, ⟨a12, a13, a14⟩, ⟨a23, a24⟩, a34⟩ := nd
  rw [upd_join, upd_join, upd_join, upd_join, upd_join, upd_join, upd_join, upd_join, upd_join, upd_join, upd_join, upd_join] at S9
  obtain ⟨l9, hl9⟩ : ∃ l9 : List (Str × Value), l9 = (("pegs" : Str), .ref pq) :: ("awake", .ref aq) :: l6 := ⟨_, rfl⟩
  rw [← hl9] at S9
  have dc7 : Dj (upd F2 L (.ns l6)) Gc3 := dc2.l (dc2.has f2L)
  obtain ⟨X, hX⟩ : ∃ X, X = intsV ((pgs (many2 ns) 0).getD 0 []) := ⟨_, rfl⟩
  rw [← hX] at S9
  obtain ⟨F3, hF3⟩ : ∃ F3, F3 = upd (upd (upd (upd (upd (upd (upd F2 L (.ns l6)) p0 (.list X)) p1 (.list [])) p2 (.list [])) pq (.list [.ref p0, .ref p1, .ref p2])) aq (.list [])) L (.ns l9) := ⟨_, rfl⟩
  rw [← hF3] at S9
  have dc8 : Dj F3 Gc3 := by rw [hF3]; exact (((((dc7.l cg0).l cg1).l cg2).l cg3).l cg4).l (dc2.has f2L)
  have dh8 : Dj (join F3 Gc3) Gh7 := by
    rw [hF3, ← upd_join, ← upd_join, ← upd_join, ← upd_join, ← upd_join, ← upd_join]
    exact (((((dj7.l hg0).l hg1).l hg2).l hg3).l hg4).l (dj7.has (join_l (upd_self ..)))
  obtain ⟨D, hD⟩ : ∃ D : AH, D = upd (upd (upd (upd (fun _ => none) p0 (.list X)) p1 (.list [])) p2 (.list [])) aq (.list []) := ⟨_, rfl⟩
  have D0 : D p0 = some (.list X) := by rw [hD]; exact upd_other a04 (upd_other a02 (upd_other a01 (upd_self ..)))
  have D1 : D p1 = some (.list []) := by rw [hD]; exact upd_other a14 (upd_other a12 (upd_self ..))
  have D2 : D p2 = some (.list []) := by rw [hD]; exact upd_other a24 (upd_self ..)
  have D4 : D aq = some (.list []) := by rw [hD]; exact upd_self ..
  have Dn : ∀ x, x ≠ p0 → x ≠ p1 → x ≠ p2 → x ≠ aq → D x = none := fun x e0 e1 e2 e4 => by rw [hD]; exact upd_other e4 (upd_other e2 (upd_other e1 (upd_other e0 rfl)))
  have Ds : ∀ x o, D x = some o → x = p0 ∨ x = p1 ∨ x = p2 ∨ x = aq := fun x o h => by
    by_cases e0 : x = p0
    · exact .inl e0
    · by_cases e1 : x = p1
      · exact .inr (.inl e1)
      · by_cases e2 : x = p2
        · exact .inr (.inr (.inl e2))
        · by_cases e4 : x = aq
          · exact .inr (.inr (.inr e4))
          · rw [Dn x e0 e1 e2 e4] at h; cases h
  have F30 : F3 p0 = some (.list X) := by rw [hF3]; exact upd_other L0 (upd_other a04 (upd_other a03 (upd_other a02 (upd_other a01 (upd_self ..)))))
  have F31 : F3 p1 = some (.list []) := by rw [hF3]; exact upd_other Ln1 (upd_other a14 (upd_other a13 (upd_other a12 (upd_self ..))))
  have F32 : F3 p2 = some (.list []) := by rw [hF3]; exact upd_other Ln2 (upd_other a24 (upd_other a23 (upd_self ..)))
  have F34 : F3 aq = some (.list []) := by rw [hF3]; exact upd_other Ln4 (upd_self ..)
  obtain ⟨F4, e4, dF4, k4⟩ := split_keep (Hc := F3) (G := D) fun x o h => by
    rcases Ds x o h with rfl | rfl | rfl | rfl
    · rw [D0] at h; cases h; exact F30
    · rw [D1] at h; cases h; exact F31
    · rw [D2] at h; cases h; exact F32
    · rw [D4] at h; cases h; exact F34
  have F4L : F4 L = some (.ns l9) := by rw [k4 _ (Dn _ (Ne.symm L0) (Ne.symm Ln1) (Ne.symm Ln2) (Ne.symm Ln4)), hF3]; exact upd_self ..
  have F4q : F4 pq = some (.list [.ref p0, .ref p1, .ref p2]) := by rw [k4 _ (Dn _ (Ne.symm a03) (Ne.symm a13) (Ne.symm a23) a34), hF3]; exact upd_other Ln3 (upd_other a34 (upd_self ..))
  have n2n : upd F2 L (.ns l6) qn = some (.list (names2 ns)) := upd_other qnL' f2n
  have b0 := ne_fresh v0 n2n
  have b1 := ne_fresh v1 n2n
  have b2 := ne_fresh v2 n2n
  have b3 := ne_fresh v3 n2n
  have b4 := ne_fresh v4 n2n
  have F4n : F4 qn = some (.list (names2 ns)) := by rw [k4 _ (Dn _ b0 b1 b2 b4), hF3]; exact upd_other qnL' (upd_other b4 (upd_other b3 (upd_other b2 (upd_other b1 (upd_other b0 n2n)))))
  have fr4 : Frs (lawEnv nm L a cd c1 c2 :: envs) F4 := fun env m => by
    obtain ⟨kk, L', l', g1, g2⟩ := S9.frs env m
    have : ∃ l'', F3 L' = some (.ns l'') := by
      rcases (fr6 env m) with ⟨_, L2, l2, g3, g4⟩
      rw [g1] at g3; cases g3
      by_cases z : L' = L
      · subst z; exact ⟨l9, by rw [hF3]; exact upd_self ..⟩
      · refine ⟨l2, ?_⟩
        rw [hF3]
        exact upd_other z (upd_other (ne_fresh v4 g4) (upd_other (ne_fresh v3 g4) (upd_other (ne_fresh v2 g4) (upd_other (ne_fresh v1 g4) (upd_other (ne_fresh v0 g4) g4)))))
    obtain ⟨l'', h''⟩ := this
    refine ⟨kk, L', l'', g1, ?_⟩
    rw [k4 _ ?_]; exact h''
    cases q : D L' with
    | none => rfl
    | some o =>
      exfalso
      rcases Ds _ _ q with rfl | rfl | rfl | rfl
      · rw [F30] at h''; cases h''
      · rw [F31] at h''; cases h''
      · rw [F32] at h''; cases h''
      · rw [F34] at h''; cases h''
  rw [e4] at S9 dc8 dh8
  have gF : Dj F4 (join (join D Gc3) Gh7) := Dj.joinr (Dj.joinr dF4 dc8.of_l) dh8.of_l.of_l
  have gD : Dj (join D Gc3) Gh7 := by rw [join_assoc] at dh8; exact dh8.of_r
  rw [join_assoc, join_assoc] at S9
  rw [← join_assoc (F := D)] at S9
  refine execs_cons_h ?_
  intro QS10 hQS10
  refine st9 (p := fun k => if k = 0 then p0 else if k = 1 then p1 else p2) (pq := pq) (aq := aq) S9 F4L fr4 gF ⟨⟨?_, ?_, ?_⟩, D, Gc3, Gh7, rfl, dc8.of_r, gD, ⟨?_, D4⟩, tc3, th7⟩ F4n F4q ?_ ?_ R hh hA ?_
  · rw [hl9]; exact ⟨I6'.1.many, I6'.1.comb, I6'.1.chain, I6'.1.names⟩
  · rw [hl9]; rfl
  · rw [hl9]; rfl
  · intro j hj
    rcases (by omega : j = 0 ∨ j = 1 ∨ j = 2) with rfl | rfl | rfl
    · rw [← hX]; exact D0
    · exact D1
    · exact D2
  · intro i j hi hj e
    rcases (by omega : i = 0 ∨ i = 1 ∨ i = 2) with rfl | rfl | rfl <;> rcases (by omega : j = 0 ∨ j = 1 ∨ j = 2) with rfl | rfl | rfl
    · rfl
    · exact absurd e a01
    · exact absurd e a02
    · exact absurd e.symm a01
    · rfl
    · exact absurd e a12
    · exact absurd e.symm a02
    · exact absurd e.symm a12
    · rfl
  · intro j hj
    rcases (by omega : j = 0 ∨ j = 1 ∨ j = 2) with rfl | rfl | rfl
    · exact a04
    · exact a14
    · exact a24
  intro l10 Gd s10 I dj10 S10
  refine unhide hQS10 ?_
  dsimp only
  obtain ⟨q9, D', Gc', Gh', rfl, d1', d2', DD, -, -⟩ := I
  obtain ⟨X1, X2, hpg, ho⟩ := hanEnd_of m1 m2
  have pg := DD.peg
  rw [hpg] at pg
  have dj11 : Dj (upd F4 L (.ns l10)) (join (join D' Gc') Gh') := dj10.l (dj10.has F4L)
  have gp : ∀ (x : Nat) o, D' x = some o → join (upd F4 L (.ns l10)) (join (join D' Gc') Gh') x = some o := fun x o h => join_r dj11 (join_l (join_l h))
  refine execs_cons_h ?_
  intro QS11 hQS11
  refine st10 (p := fun k => if k = 0 then p0 else if k = 1 then p1 else p2) S10 (join_l (upd_self ..)) q9.pegs (join_l (upd_other Ln3 F4q)) (gp _ _ (pg 0 (by omega))) (gp _ _ (pg 1 (by omega))) (gp _ _ (pg 2 (by omega))) ho R2 hh ?_
  intro H' s' S'
  refine unhide hQS11 ?_
  exact k _ _ S'
end
end
end Mine
end
section
open PySem PySem.W PyProof.Rows PySem.Calls
set_option linter.unusedVariables false
set_option linter.unusedSimpArgs false
set_option Elab.async false
set_option maxRecDepth 100000
set_option maxHeartbeats 8000000
set_option compiler.extract_closed false
namespace Mine
theorem law_start {w : World} {p : Program} {loose : List Str} {mean : ExcName → Option Value} {mg mb : Str → Option Value} {s₁ : Shared} {h₁ : Heap} {tk : Nat} {m : Str → Option Value} {L a c1 c2 sa : Nat} {nm : Str} {cd : Value} {vs : List Value} {ns : List Int} {o1 o2 : Obj} {Q : Flow → Shared → Prop} {E : Value → Shared → Prop}
    (KX : Frag.In (MineTop.hd.heap_39 w.params) s₁.heap) (TT : Top p loose mean mg mb s₁.heap) (LL : s₁.heap.IsList sa vs.toArray) (II : IntsAre vs ns) (h63 : ¬ (63 : Int) < ns.length) (FF : Fr s₁.heap L h₁ m) (NN : News s₁.heap L h₁ [(c2, o2), (c1, o1)])
    (d1 : o1.data = .cell (some (.ref sa))) (d2 : o2.data = .cell none)
    (n12 : c1 < c2)
    (k : ∀ s', (∀ b o, s₁.heap.get? b = some o → s'.heap.get? b = some o) → s'.os = s₁.os → s'.gens = s₁.gens → Q (.ret (.bool true)) s') :
    wpAny (model PySem.Challenge.rw_bd0031_02.row.prog w) (callerA.deeper (lawEnv nm L a cd c1 c2)) (execs (fnBody (PySem.Challenge.rw_bd0031_02.row.prog.main.body.getD 17 default)) (lawEnv nm L a cd c1 c2)) Q E { s₁ with heap := h₁, toks := tk } := by
  have g : ∀ x y, (x, y) ∈ [(c2, o2), (c1, o1)] → h₁.get? x = some y ∧ x ≠ L ∧ s₁.heap.get? x = none := fun x y h => NN (x, y) h
  have g1 := g c1 o1 (by simp)
  have g2 := g c2 o2 (by simp)
  have S0 := St.start (prog := PySem.Challenge.rw_bd0031_02.row.prog) (w := w) (tk := tk) (env := lawEnv nm L a cd c1 c2) KX TT FF rfl (show ScopeKind.function ≠ .module by decide)
  have p0 : Plain (upd (fun _ => none) L (.ns [])) := Plain.upd (fun a x h => by cases h) rfl
  have x1 : upd (fun _ => none) L (.ns []) c1 = none := upd_other g1.2.1 rfl
  obtain ⟨S1, p1⟩ := S0.cell p0 x1 g1.2.2 g1.1 d1
  obtain ⟨S2, p2⟩ := S1.cell p1 (D := c2) (upd_other (by omega) (upd_other g2.2.1 rfl)) g2.2.2 g2.1 d2
  have q1 := Ne.symm g1.2.1
  have q2 := Ne.symm g2.2.1
  refine law_walk S2 ⟨vs, LL, II, by omega⟩ ?_ ?_ (upd_self ..) (by omega) ⟨?_, ?_⟩ rfl (Around.frames_deeper rfl) ?_
  · exact upd_other q2 (upd_other q1 (upd_self ..))
  · exact upd_other (by omega) (upd_self ..)
  · rw [depth_deeper]; show 1 + claimMargin + 1 + 300 ≤ 900; decide
  · rw [units_deeper]; show 4 + 3 + 4000 ≤ 9000; decide
  · intro Hc s' S'
    exact k s' S'.base S'.os S'.gens
end Mine
theorem PySem.Challenge.cw_bd0031_02_holds : PySem.Challenge.rw_bd0031_02.Holds :=
  MineTop.hd (by
  w_on
  w_strict (
    k_go0
    rename Fr _ _ _ _ => FF
    rename News _ _ _ _ => NN
    rename Top _ _ _ _ _ _ => TT
    rename IntsAre _ _ => II
    rename Heap.IsList _ _ _ => LL
    rename CellsAre _ _ _ => CC
    rename Frag.In _ _ => KX
    clear CC
    refine Mine.law_start KX TT LL II (by assumption) FF NN (by assumption) (by assumption) (by omega) ?_
    intro s' e1 e2 e3
    rename (_ = #[]) => hg
    exact ⟨.inl ⟨.bool true, .bool true, [], rfl, fun _ => rfl, .bool true, by first | (with_unfolding_all rfl) | kernel_rfl, fun _ => ⟨List.nodup_nil, fun a h => by cases h⟩⟩, e1, e2, e3.trans hg⟩))
end
