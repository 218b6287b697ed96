import PyProof.Rows.All
import Wide.All
import OpenK.AllK
import Wide.FinOn
import PySem.Challenge.RW_bd0031_05
section
set_option linter.unusedVariables false
set_option Elab.async false
namespace Mine
noncomputable def place {α : Type} (lt : α → Bool) : List α → Nat
  | [] => 0
  | x :: r => match place lt r with
    | 0 => if lt x then 0 else 1
    | n + 1 => n + 2
theorem place_le {α : Type} (lt : α → Bool) : ∀ l, place lt l ≤ l.length
  | [] => Nat.le_refl _
  | x :: r => by
    have := place_le lt r
    unfold place
    split <;> rename_i h <;> rw [h] at this <;> simp only [List.length_cons]
    · split <;> omega
    · omega
theorem place_snoc {α : Type} (lt : α → Bool) (y : α) : ∀ l, place lt (l ++ [y]) = if lt y then place lt l else l.length + 1
  | [] => by simp [place]
  | x :: r => by
    rw [List.cons_append]
    unfold place
    rw [place_snoc lt y r]
    cases lt y with
    | true => simp
    | false => simp
noncomputable def klt (a b : Int × Int) : Bool := decide (a.1 < b.1 ∨ (a.1 = b.1 ∧ a.2 < b.2))
noncomputable def put (p : Nat) {α : Type} (x : α) (l : List α) : List α := l.take p ++ x :: l.drop p
noncomputable def ins (e : Int × Int) (q : List (Int × Int)) : List (Int × Int) := put (place (klt e) q) e q
structure Nd where
  wt : Int
  kids : List Int
  par : Option Int
  q : List (Int × Int)
  act : Bool
  lw : Int
  df : Int
noncomputable abbrev Mo := Int → Option Nd
noncomputable def Mo.put (M : Mo) (i : Int) (n : Nd) : Mo := fun j => if j = i then some n else M j
theorem Mo.put_self (M : Mo) (i : Int) (n : Nd) : M.put i n i = some n := if_pos rfl
theorem Mo.put_ne {M : Mo} {i j : Int} {n : Nd} (h : j ≠ i) : M.put i n j = M j := if_neg h
theorem Mo.put_put (M : Mo) (i : Int) (n m : Nd) : (M.put i n).put i m = M.put i m := by
  funext j; simp only [Mo.put]; split <;> rfl
noncomputable def fstep (i : Int) (M : Mo) (e : Int × Int) : Mo :=
  match M i, M e.2 with
  | some d, some n => (M.put e.2 { n with df := (256 + n.df) % n.wt }).put i { d with lw := e.1, q := ins (e.1 + (256 + n.df) / n.wt, e.2) d.q }
  | _, _ => M
noncomputable def fin (i : Int) (pp : List (Int × Int)) (M : Mo) : Mo := pp.foldl (fstep i) M
noncomputable def goL (f : Mo → Int → Option Int × Mo) (i : Int) : List (Int × Int) → Mo → List (Int × Int) → Option Int × Mo × List (Int × Int)
  | [], M, pp => (none, M, pp)
  | e :: r, M, pp =>
    match M i, M e.2 with
    | some d, some n =>
      let M1 := M.put i { d with q := r }
      if n.act then (some e.2, M1, pp ++ [e])
      else match f M1 e.2 with
        | (some x, M2) => (some x, M2, pp ++ [e])
        | (none, M2) => goL f i r M2 (pp ++ [e])
    | _, _ => (none, M, pp)
noncomputable def sched : Nat → Mo → Int → Option Int × Mo
  | 0, M, _ => (none, M)
  | n + 1, M, i =>
    let z := goL (sched n) i (((M i).map (·.q)).getD []) M []
    (z.1, fin i z.2.2 z.2.1)
structure OkM (rk : Int → Nat) (M : Mo) : Prop where
  ok : ∀ i n, M i = some n → 1 ≤ n.wt ∧ n.wt ≤ 256 ∧ 0 ≤ n.df ∧ n.df < 256 ∧ n.q.length ≤ 1000 ∧ ∀ e ∈ n.q, (∃ m, M e.2 = some m) ∧ rk e.2 < rk i
structure Like (M M' : Mo) : Prop where
  fw : ∀ i n, M i = some n → ∃ n', M' i = some n' ∧ n'.wt = n.wt ∧ n'.kids = n.kids ∧ n'.par = n.par ∧ n'.act = n.act
  bw : ∀ i n, M' i = some n → ∃ n', M i = some n'
theorem Like.refl (M : Mo) : Like M M := ⟨fun i n h => ⟨n, h, rfl, rfl, rfl, rfl⟩, fun i n h => ⟨n, h⟩⟩
theorem Like.trans {M M' M'' : Mo} (a : Like M M') (b : Like M' M'') : Like M M'' :=
  ⟨fun i n h => by
    obtain ⟨n1, h1, a1, a2, a3, a4⟩ := a.fw i n h
    obtain ⟨n2, h2, b1, b2, b3, b4⟩ := b.fw i n1 h1
    exact ⟨n2, h2, b1.trans a1, b2.trans a2, b3.trans a3, b4.trans a4⟩, fun i n h => by
    obtain ⟨n1, h1⟩ := b.bw i n h
    exact a.bw i n1 h1⟩
theorem Like.put {M : Mo} {i : Int} {n n' : Nd} (h : M i = some n) (w : n'.wt = n.wt) (k : n'.kids = n.kids) (p : n'.par = n.par) (a : n'.act = n.act) : Like M (M.put i n') :=
  ⟨fun j m hj => by
    by_cases q : j = i
    · subst q; rw [h] at hj; cases hj; exact ⟨n', Mo.put_self .., w, k, p, a⟩
    · exact ⟨m, (Mo.put_ne q).trans hj, rfl, rfl, rfl, rfl⟩, fun j m hj => by
    by_cases q : j = i
    · subst q; exact ⟨n, h⟩
    · rw [Mo.put_ne q] at hj; exact ⟨m, hj⟩⟩
end Mine
end
section
set_option linter.unusedVariables false
set_option Elab.async false
namespace Mine
section
variable {rk : Int → Nat} {M M' : Mo} {i : Int} {d n : Nd} {e : Int × Int} {r pp : List (Int × Int)}
theorem put_length {α : Type} (p : Nat) (x : α) (l : List α) : (put p x l).length = l.length + 1 := by
  unfold put
  simp only [List.length_append, List.length_take, List.length_cons, List.length_drop]; omega
theorem mem_put {α : Type} {p : Nat} {x y : α} {l : List α} : y ∈ put p x l ↔ y = x ∨ y ∈ l := by
  unfold put
  have : y ∈ l ↔ y ∈ l.take p ∨ y ∈ l.drop p := by
    conv => lhs; rw [← List.take_append_drop p l]
    exact List.mem_append
  simp only [List.mem_append, List.mem_cons, this]
  constructor
  · rintro (h | rfl | h)
    · exact .inr (.inl h)
    · exact .inl rfl
    · exact .inr (.inr h)
  · rintro (rfl | h | h)
    · exact .inr (.inl rfl)
    · exact .inl h
    · exact .inr (.inr h)
theorem ins_length (e : Int × Int) (q : List (Int × Int)) : (ins e q).length = q.length + 1 := put_length ..
theorem mem_ins {e x : Int × Int} {q : List (Int × Int)} : x ∈ ins e q ↔ x = e ∨ x ∈ q := mem_put
theorem OkM.put (o : OkM rk M) (h : 1 ≤ n.wt ∧ n.wt ≤ 256 ∧ 0 ≤ n.df ∧ n.df < 256 ∧ n.q.length ≤ 1000 ∧ ∀ e ∈ n.q, (∃ m, M e.2 = some m) ∧ rk e.2 < rk i) : OkM rk (M.put i n) := by
  have ex : ∀ j, (∃ m, M j = some m) → ∃ m, M.put i n j = some m := fun j ⟨m, hm⟩ => by
    by_cases q : j = i
    · subst q; exact ⟨n, Mo.put_self ..⟩
    · exact ⟨m, (Mo.put_ne q).trans hm⟩
  refine ⟨fun j m hj => ?_⟩
  by_cases q : j = i
  · subst q; rw [Mo.put_self] at hj; cases hj
    obtain ⟨a, b, c, d, e, f⟩ := h
    exact ⟨a, b, c, d, e, fun x hx => ⟨ex _ (f x hx).1, (f x hx).2⟩⟩
  · rw [Mo.put_ne q] at hj
    obtain ⟨a, b, c, d, e, f⟩ := o.ok j m hj
    exact ⟨a, b, c, d, e, fun x hx => ⟨ex _ (f x hx).1, (f x hx).2⟩⟩
theorem OkM.pop (o : OkM rk M) (h : M i = some d) (hq : d.q = e :: r) : OkM rk (M.put i { d with q := r }) := by
  obtain ⟨a, b, c, dd, l, f⟩ := o.ok i d h
  rw [hq] at l f
  refine o.put ⟨a, b, c, dd, ?_, fun x hx => f x (.tail _ hx)⟩
  simp only [List.length_cons] at l ⊢; omega
structure Res (rk : Int → Nat) (i : Int) (M M' : Mo) : Prop where
  ok : OkM rk M'
  like : Like M M'
  far : ∀ j, rk i < rk j → M' j = M j
theorem Res.refl (o : OkM rk M) : Res rk i M M := ⟨o, Like.refl M, fun _ _ => rfl⟩
theorem Res.trans {M M' M'' : Mo} (a : Res rk i M M') (b : Res rk i M' M'') : Res rk i M M'' := ⟨b.ok, a.like.trans b.like, fun j h => (b.far j h).trans (a.far j h)⟩
theorem Res.up {i' : Int} (a : Res rk i' M M') (h : rk i' ≤ rk i) : Res rk i M M' := ⟨a.ok, a.like, fun j q => a.far j (by omega)⟩
theorem Res.pop (o : OkM rk M) (h : M i = some d) (hq : d.q = e :: r) : Res rk i M (M.put i { d with q := r }) :=
  ⟨o.pop h hq, Like.put h rfl rfl rfl rfl, fun j q => Mo.put_ne fun z => by rw [z] at q; omega⟩
theorem fstep_eq (hi : M i = some d) (he : M e.2 = some n) :
    fstep i M e = (M.put e.2 { n with df := (256 + n.df) % n.wt }).put i { d with lw := e.1, q := ins (e.1 + (256 + n.df) / n.wt, e.2) d.q } := by
  unfold fstep; rw [hi, he]
theorem Res.fstep (o : OkM rk M) (hi : M i = some d) (he : M e.2 = some n) (hr : rk e.2 < rk i) (hz : d.q.length + 1 ≤ 1000) : Res rk i M (fstep i M e) := by
  rw [fstep_eq hi he]
  have hne : i ≠ e.2 := fun z => by rw [← z] at hr; omega
  obtain ⟨a, b, c, dd, l, f⟩ := o.ok _ n he
  have o1 : OkM rk (M.put e.2 { n with df := (256 + n.df) % n.wt }) := o.put ⟨a, b, Int.emod_nonneg _ (by omega), Int.lt_of_lt_of_le (Int.emod_lt_of_pos _ (by omega)) b, l, f⟩
  have hi1 : (M.put e.2 { n with df := (256 + n.df) % n.wt }) i = some d := (Mo.put_ne hne).trans hi
  obtain ⟨a2, b2, c2, dd2, l2, f2⟩ := o1.ok i d hi1
  refine ⟨o1.put ⟨a2, b2, c2, dd2, by rw [ins_length]; omega, fun x hx => ?_⟩, (Like.put he (by rfl) (by rfl) (by rfl) (by rfl)).trans (Like.put hi1 (by rfl) (by rfl) (by rfl) (by rfl)), fun j q => ?_⟩
  · rcases mem_ins.mp hx with rfl | hx
    · exact ⟨⟨_, Mo.put_self ..⟩, hr⟩
    · exact f2 x hx
  · rw [Mo.put_ne (fun z => by rw [z] at q; omega), Mo.put_ne (fun z => by rw [z] at q; omega)]
theorem fstep_self (hi : M i = some d) (he : M e.2 = some n) : ∃ d', fstep i M e i = some d' ∧ d'.q.length = d.q.length + 1 := by
  rw [fstep_eq hi he]; exact ⟨_, Mo.put_self .., ins_length ..⟩
theorem Res.fin : ∀ (pp : List (Int × Int)) {M : Mo} {d : Nd} (o : OkM rk M) (hi : M i = some d) (hp : ∀ e ∈ pp, (∃ m, M e.2 = some m) ∧ rk e.2 < rk i) (hz : d.q.length + pp.length ≤ 1000), Res rk i M (fin i pp M)
  | [], M, d, o, hi, hp, hz => Res.refl o
  | e :: pp, M, d, o, hi, hp, hz => by
    obtain ⟨⟨n, hn⟩, hr⟩ := hp e (.head _)
    simp only [List.length_cons] at hz
    have R := Res.fstep o hi hn hr (by omega)
    obtain ⟨d', hd', hl⟩ := fstep_self hi hn
    exact R.trans (Res.fin pp R.ok hd' (fun x hx => ⟨(hp x (.tail _ hx)).1.elim fun m hm => (R.like.fw _ m hm).elim fun m' h => ⟨m', h.1⟩, (hp x (.tail _ hx)).2⟩) (by omega))
theorem goL_act {f : Mo → Int → Option Int × Mo} (hi : M i = some d) (he : M e.2 = some n) (ha : n.act = true) : goL f i (e :: r) M pp = (some e.2, M.put i { d with q := r }, pp ++ [e]) := by
  simp only [goL, hi, he, ha, if_true]
theorem goL_some {f : Mo → Int → Option Int × Mo} {x : Int} (hi : M i = some d) (he : M e.2 = some n) (ha : n.act = false) (hf : f (M.put i { d with q := r }) e.2 = (some x, M')) : goL f i (e :: r) M pp = (some x, M', pp ++ [e]) := by
  simp only [goL, hi, he, ha, hf]; rfl
theorem goL_none {f : Mo → Int → Option Int × Mo} (hi : M i = some d) (he : M e.2 = some n) (ha : n.act = false) (hf : f (M.put i { d with q := r }) e.2 = (none, M')) : goL f i (e :: r) M pp = goL f i r M' (pp ++ [e]) := by
  simp only [goL, hi, he, ha, hf]; rfl
theorem sched_eq (f : Nat) (hi : M i = some d) {x : Option Int} {pp' : List (Int × Int)} (h : goL (sched f) i d.q M [] = (x, M', pp')) : sched (f + 1) M i = (x, fin i pp' M') := by
  simp only [sched, hi, Option.map_some, Option.getD_some, h]
theorem Res.goL {f : Mo → Int → Option Int × Mo} (hf : ∀ M ch, OkM rk M → (∃ m, M ch = some m) → rk ch < rk i → Res rk ch M (f M ch).2) :
    ∀ (r : List (Int × Int)) {M : Mo} {d : Nd} {pp : List (Int × Int)} (o : OkM rk M) (hi : M i = some d) (hq : d.q = r), Res rk i M (goL f i r M pp).2.1 ∧
      (∃ d', (goL f i r M pp).2.1 i = some d' ∧ d'.q.length + (goL f i r M pp).2.2.length = r.length + pp.length) ∧ ∀ e ∈ (goL f i r M pp).2.2, e ∈ pp ∨ e ∈ r
  | [], M, d, pp, o, hi, hq => ⟨Res.refl o, ⟨d, hi, by show d.q.length + pp.length = _; rw [hq]⟩, fun e he => .inl he⟩
  | e :: r, M, d, pp, o, hi, hq => by
    obtain ⟨a, b, c, dd, l, fo⟩ := o.ok i d hi
    obtain ⟨⟨n, hn⟩, hr⟩ := fo e (by rw [hq]; exact .head _)
    have R := Res.pop o hi hq
    have hne : e.2 ≠ i := fun z => by rw [z] at hr; omega
    have h1 : (M.put i { d with q := r }) i = some { d with q := r } := Mo.put_self ..
    cases ha : n.act with
    | true =>
      rw [goL_act hi hn ha]
      exact ⟨R, ⟨_, h1, by simp; omega⟩, fun x hx => by
        rcases List.mem_append.mp hx with hx | hx
        · exact .inl hx
        · cases List.mem_singleton.mp hx; exact .inr (.head _)⟩
    | false =>
      have F := hf (M.put i { d with q := r }) e.2 R.ok ⟨n, (Mo.put_ne hne).trans hn⟩ hr
      cases q : f (M.put i { d with q := r }) e.2 with
      | mk x M2 =>
        rw [q] at F
        have h2 : M2 i = some { d with q := r } := (F.far i hr).trans h1
        have RF := R.trans (F.up (Nat.le_of_lt hr))
        cases x with
        | some x =>
          rw [goL_some hi hn ha q]
          exact ⟨RF, ⟨_, h2, by simp; omega⟩, fun x hx => by
            rcases List.mem_append.mp hx with hx | hx
            · exact .inl hx
            · cases List.mem_singleton.mp hx; exact .inr (.head _)⟩
        | none =>
          rw [goL_none hi hn ha q]
          obtain ⟨I, ⟨d', hd', hl⟩, hm⟩ := Res.goL hf r (pp := pp ++ [e]) F.ok h2 rfl
          refine ⟨RF.trans I, ⟨d', hd', by rw [hl]; simp; omega⟩, fun x hx => ?_⟩
          rcases hm x hx with hx | hx
          · rcases List.mem_append.mp hx with hx | hx
            · exact .inl hx
            · cases List.mem_singleton.mp hx; exact .inr (.head _)
          · exact .inr (.tail _ hx)
theorem Res.sched : ∀ (n : Nat) {M : Mo} {i : Int} (o : OkM rk M) (hi : ∃ m, M i = some m) (hr : rk i < n), Res rk i M (sched n M i).2
  | 0, _, _, _, _, hr => by omega
  | n + 1, M, i, o, ⟨d, hi⟩, hr => by
    obtain ⟨R, ⟨d', hd', hl⟩, hm⟩ := Res.goL (f := Mine.sched n) (fun M ch o h hc => Res.sched n o h (by omega)) d.q (pp := []) o hi rfl
    rw [sched_eq n hi rfl]
    obtain ⟨a, b, c, dd, l, fo⟩ := o.ok i d hi
    refine R.trans (Res.fin _ R.ok hd' (fun e he => ?_) (by rw [hl]; simpa using l))
    rcases hm e he with h | h
    · cases h
    · exact ⟨(fo e h).1.elim fun m hm => (R.like.fw _ m hm).elim fun m' h => ⟨m', h.1⟩, (fo e h).2⟩
end
end Mine
end
section
set_option linter.unusedVariables false
set_option Elab.async false
namespace Mine
noncomputable def newNd (w : Int) : Nd := ⟨w, [], none, [], true, 0, 0⟩
noncomputable def adopt (M : Mo) (i j : Int) : Mo :=
  match M i, M j with
  | some d, some n => (M.put j { n with par := some i }).put i { d with kids := d.kids ++ [j], q := ins (d.lw, j) d.q }
  | _, _ => M
noncomputable def actv (M : Mo) (i : Int) (b : Bool) : Mo :=
  match M i with
  | some n => M.put i { n with act := b }
  | none => M
structure Clo (M : Mo) : Prop where
  kids : ∀ i n, M i = some n → ∀ k ∈ n.kids, ∃ m, M k = some m
  par : ∀ i n p, M i = some n → n.par = some p → ∃ m, M p = some m
section
variable {rk : Int → Nat} {M : Mo} {i j : Int} {d n : Nd}
theorem adopt_eq (hi : M i = some d) (hj : M j = some n) : adopt M i j = (M.put j { n with par := some i }).put i { d with kids := d.kids ++ [j], q := ins (d.lw, j) d.q } := by
  unfold adopt; rw [hi, hj]
theorem actv_eq (hi : M i = some n) {b : Bool} : actv M i b = M.put i { n with act := b } := by unfold actv; rw [hi]
theorem put_ex {k : Int} {m : Nd} (h : ∃ n, M k = some n) : ∃ n, M.put i m k = some n := by
  by_cases q : k = i
  · subst q; exact ⟨m, Mo.put_self ..⟩
  · obtain ⟨n, hn⟩ := h; exact ⟨n, (Mo.put_ne q).trans hn⟩
end
end Mine
end
section
open PySem PySem.W PyProof.Rows
set_option Elab.async false
namespace Mine
noncomputable def er : Value → Value
  | .int i _ => .int i 0
  | .str s _ => .str s 0
  | .float b _ => .float b 0
  | .bytes b _ => .bytes b 0
  | v => v
theorem er_int {v : Value} {i : Int} (h : er v = .int i 0) : ∃ t, v = .int i t := by
  cases v <;> simp [er] at h <;> (subst h; exact ⟨_, rfl⟩)
theorem er_ref {v : Value} {a : Addr} (h : er v = .ref a) : v = .ref a := by
  cases v <;> simp [er] at h <;> (subst h; rfl)
theorem er_bool {v : Value} {b : Bool} (h : er v = .bool b) : v = .bool b := by
  cases v <;> simp [er] at h <;> (subst h; rfl)
theorem er_none {v : Value} (h : er v = .none) : v = .none := by
  cases v <;> simp [er] at h <;> rfl
inductive AO where
  | list (xs : List Value)
  | tup (xs : List Value)
  | ns (l : List (Str × Value))
  | cell (v : Option Value)
  | inst (C : Addr) (fs : List (Str × Value))
  | imap (kvs : List (Int × Value))
  | exc (cls : Value) (tb ctx : Option Nat)
  | iter (l : Nat) (i : Nat)
  | titer (l : Nat) (i : Nat)
  | tb
  | raw (o : Obj)
noncomputable abbrev AH := Nat → Option AO
noncomputable def upd (H : AH) (a : Nat) (o : AO) : AH := fun b => if b = a then some o else H b
theorem upd_self (H : AH) (a : Nat) (o : AO) : upd H a o a = some o := if_pos rfl
theorem upd_ne {H : AH} {a b : Nat} {o : AO} (h : b ≠ a) : upd H a o b = H b := if_neg h
theorem upd_upd (H : AH) (a : Nat) (o o' : AO) : upd (upd H a o) a o' = upd H a o' := by
  funext b; simp only [upd]; split <;> rfl
theorem upd_comm {H : AH} {a b : Nat} {o o' : AO} (h : a ≠ b) : upd (upd H a o) b o' = upd (upd H b o') a o := by
  funext c; simp only [upd]; split <;> split <;> simp_all
noncomputable def IP : List DictEntry → List (Int × Value) → Prop
  | [], [] => True
  | e :: es, p :: ps => (∃ t, e.key = .int p.1 t) ∧ e.hash = hashInt p.1 ∧ e.val = p.2 ∧ IP es ps
  | _, _ => False
noncomputable def KeysAre (es : List DictEntry) (kvs : List (Int × Value)) : Prop :=
  ∃ vs, IP es vs ∧ (vs.map (·.1)).Nodup ∧ (vs.map fun p => (p.1, er p.2)) = kvs
noncomputable def gv (x : Str) (es : List DictEntry) : Option Value := (es.find? (·.key.isStr x)).map (·.val)
noncomputable def Real (h : Heap) (a : Nat) : AO → Prop
  | .list xs => ∃ vs n, h.get? a = some { cls := .type "list", data := .seq vs n } ∧ vs.toList.map er = xs
  | .tup xs => ∃ vs n, h.get? a = some { cls := .type "tuple", data := .seq vs n } ∧ vs.toList.map er = xs
  | .ns l => ∃ m, h.Ns a m ∧ ∀ x v, l.lookup x = some v → (m x).map er = some v
  | .cell v => ∃ o v', h.get? a = some o ∧ o.data = .cell v' ∧ v'.map er = v
  | .inst C fs => 1 ≤ a ∧ h.get? a = some (instObj C (a - 1)) ∧ ∃ es n, h.get? (a - 1) = some (dictOf es n) ∧ es.length ≤ fs.length ∧
      (∀ e ∈ es, e.refKey = false) ∧ ∀ x, (gv x es).map er = fs.lookup x
  | .imap kvs => ∃ es n, h.get? a = some (dictOf es n) ∧ KeysAre es kvs
  | .exc cls tb ctx => ∃ o vs, h.get? a = some o ∧ o.cls = cls ∧ o.data = .fields vs ∧ vs[1]? = some (tb.elim .none .ref) ∧ vs[2]? = some (ctx.elim .none .ref)
  | .iter l i => h.IsListIter a l i
  | .titer l i => ∃ o, h.get? a = some o ∧ o.cls = .type "tuple_iterator" ∧ o.data = .fields #[.ref l, .int i 0]
  | .tb => ∃ o ts, h.get? a = some o ∧ o.data = .fields ts ∧ 3 < ts.size
  | .raw o => h.get? a = some o
noncomputable def AO.isInst : AO → Bool
  | .inst .. => true
  | _ => false
noncomputable def AO.isNs : AO → Bool
  | .ns _ => true
  | _ => false
noncomputable def AO.isBig : AO → Bool
  | .ns _ => true
  | .imap _ => true
  | _ => false
noncomputable def AO.at (o : AO) (a b : Nat) : Prop := b = a ∨ (o.isInst = true ∧ b = a - 1)
theorem Real.keep {h h' : Heap} {a : Nat} {o : AO} (r : Real h a o) (k : ∀ b, o.at a b → ∀ x, h.get? b = some x → h'.get? b = some x) : Real h' a o := by
  cases o with
  | list xs => obtain ⟨vs, n, e, r⟩ := r; exact ⟨vs, n, k a (.inl rfl) _ e, r⟩
  | tup xs => obtain ⟨vs, n, e, r⟩ := r; exact ⟨vs, n, k a (.inl rfl) _ e, r⟩
  | ns l => obtain ⟨m, ⟨o, es, ep, ho, r1⟩, r⟩ := r; exact ⟨m, ⟨o, es, ep, k a (.inl rfl) _ ho, r1⟩, r⟩
  | cell v => obtain ⟨o, v', e, r⟩ := r; exact ⟨o, v', k a (.inl rfl) _ e, r⟩
  | inst C fs => obtain ⟨h1, e1, es, n, e2, r⟩ := r; exact ⟨h1, k a (.inl rfl) _ e1, es, n, k _ (.inr ⟨rfl, rfl⟩) _ e2, r⟩
  | imap kvs => obtain ⟨es, n, e, r⟩ := r; exact ⟨es, n, k a (.inl rfl) _ e, r⟩
  | iter l i => obtain ⟨o, e, r⟩ := r; exact ⟨o, k a (.inl rfl) _ e, r⟩
  | titer l i => obtain ⟨o, e, r⟩ := r; exact ⟨o, k a (.inl rfl) _ e, r⟩
  | exc cls tb ctx => obtain ⟨o, vs, e, r⟩ := r; exact ⟨o, vs, k a (.inl rfl) _ e, r⟩
  | tb => obtain ⟨o, ts, e, r⟩ := r; exact ⟨o, ts, k a (.inl rfl) _ e, r⟩
  | raw o => exact k a (.inl rfl) _ r
theorem Real.lt {h : Heap} {a : Nat} {o : AO} (r : Real h a o) : a < h.objs.size := by
  cases o with
  | list xs => obtain ⟨vs, n, e, r⟩ := r; exact Heap.lt_size e
  | tup xs => obtain ⟨vs, n, e, r⟩ := r; exact Heap.lt_size e
  | ns l => obtain ⟨m, r, _⟩ := r; exact r.lt
  | cell v => obtain ⟨o, v', e, r⟩ := r; exact Heap.lt_size e
  | inst C fs => obtain ⟨h1, e1, r⟩ := r; exact Heap.lt_size e1
  | imap kvs => obtain ⟨es, n, e, r⟩ := r; exact Heap.lt_size e
  | iter l i => obtain ⟨o, e, r⟩ := r; exact Heap.lt_size e
  | titer l i => obtain ⟨o, e, r⟩ := r; exact Heap.lt_size e
  | exc cls tb ctx => obtain ⟨o, vs, e, r⟩ := r; exact Heap.lt_size e
  | tb => obtain ⟨o, ts, e, r⟩ := r; exact Heap.lt_size e
  | raw o => exact Heap.lt_size r
structure Cx (prog : Program) (w : World) (K : Frag) where
  p : Program
  loose : List Str
  mg : Str → Option Value
  mb : Str → Option Value
  base : Heap
  gens : Array GenState
  drawn : Drawn
  os : OsState
  inK : K.In base
  top : TopRead p loose mg mb base
structure St {prog : Program} {w : World} {K : Frag} (c : Cx prog w K) (envs : List Env) (H : AH) (s : Shared) : Prop where
  base : c.base.StaysIn s.heap
  real : ∀ (a : Nat) o, H a = some o → Real s.heap a o
  low : ∀ (a : Nat) o, H a = some o → c.base.get? a = none ∧ (o.isInst = true → c.base.get? (a - 1) = none) ∧ (o.isBig = true → c.base.objs.size ≤ a)
  excl : ∀ (a : Nat) o, H a = some o → o.isInst = true → H (a - 1) = none
  envs : ∀ env ∈ envs, env.scope.kind ≠ .module ∧ ∃ L l, env.frame = some L ∧ H L = some (.ns l)
  gens : s.gens = c.gens
  drawn : s.drawn = c.drawn
  os : s.os = c.os
  size : c.base.objs.size ≤ s.heap.objs.size
section
variable {prog : Program} {w : World} {K : Frag} {c : Cx prog w K} {envs : List Env} {H : AH} {s : Shared}
theorem St.inK (S : St c envs H s) : K.In s.heap := c.inK.keeps S.base
theorem St.top (S : St c envs H s) : TopRead c.p c.loose c.mg c.mb s.heap := c.top.keeps S.base
theorem St.tok (S : St c envs H s) (t : Nat) : St c envs H { s with toks := t } :=
  ⟨S.base, S.real, S.low, S.excl, S.envs, S.gens, S.drawn, S.os, S.size⟩
theorem St.fresh (S : St c envs H s) {a : Nat} (h : s.heap.objs.size ≤ a) : H a = none := by
  cases e : H a with
  | none => rfl
  | some o => exact absurd (S.real a o e).lt (Nat.not_lt.mpr h)
theorem St.weak {H' : AH} {envs' : List Env} (S : St c envs H s) (h : ∀ (a : Nat) o, H' a = some o → H a = some o) (he : ∀ env ∈ envs', env ∈ envs ∧ ∀ L l, env.frame = some L → H L = some (.ns l) → H' L = some (.ns l)) : St c envs' H' s := by
  refine ⟨S.base, fun a o e => S.real a o (h a o e), fun a o e => S.low a o (h a o e), fun a o e i => ?_, fun env m => ?_, S.gens, S.drawn, S.os, S.size⟩
  · cases q : H' (a - 1) with
    | none => rfl
    | some o' => have := S.excl a o (h a o e) i; rw [h _ _ q] at this; cases this
  · obtain ⟨k, L, l, f, e⟩ := S.envs env (he env m).1
    exact ⟨k, L, l, f, (he env m).2 L l f e⟩
theorem St.set {h' : Heap} {a : Nat} {o o' : AO} {t : Nat} (S : St c envs H s) (e : H a = some o) (hs : Heap.SameBut a s.heap h') (r : Real h' a o')
    (hi : o'.isInst = o.isInst) (hn : o'.isNs = o.isNs) (hb' : o'.isBig = o.isBig := by rfl) : St c envs (upd H a o') { s with heap := h', toks := t } := by
  have lo := S.low a o e
  refine ⟨fun b x q => ?_, fun b x q => ?_, fun b x q => ?_, fun b x q i => ?_, fun env m => ?_, S.gens, S.drawn, S.os, hs.1 ▸ S.size⟩
  · have hb : b ≠ a := fun z => by rw [z, lo.1] at q; cases q
    exact (hs.2 b hb).trans (S.base b x q)
  · by_cases hb : b = a
    · subst hb; rw [upd_self] at q; cases q; exact r
    · rw [upd_ne hb] at q
      refine (S.real b x q).keep fun d hd y hy => ?_
      refine (hs.2 d ?_).trans hy
      rcases hd with rfl | ⟨i, rfl⟩
      · exact hb
      · intro z
        have := S.excl b x q i
        rw [z, e] at this; cases this
  · by_cases hb : b = a
    · subst hb; rw [upd_self] at q; cases q; exact ⟨lo.1, fun i => lo.2.1 (hi ▸ i), fun i => lo.2.2 (hb' ▸ i)⟩
    · rw [upd_ne hb] at q; exact S.low b x q
  · by_cases hb : b = a
    · subst hb; rw [upd_self] at q; cases q
      have z := S.excl b o e (hi ▸ i)
      by_cases hz : b - 1 = b
      · rw [hz] at z; rw [e] at z; cases z
      · rw [upd_ne hz]; exact z
    · rw [upd_ne hb] at q
      have z := S.excl b x q i
      by_cases hz : b - 1 = a
      · rw [hz, e] at z; cases z
      · rw [upd_ne hz]; exact z
  · obtain ⟨k, L, l, f, q⟩ := S.envs env m
    by_cases hL : L = a
    · subst hL
      rw [e] at q; cases q
      cases o' <;> first | exact ⟨k, L, _, f, upd_self ..⟩ | cases hn
    · exact ⟨k, L, l, f, (upd_ne hL).trans q⟩
theorem St.setDict {h' : Heap} {a : Nat} {C : Addr} {fs fs' : List (Str × Value)} {t : Nat} (S : St c envs H s) (e : H a = some (.inst C fs)) (hs : Heap.SameBut (a - 1) s.heap h') (r : Real h' a (.inst C fs')) :
    St c envs (upd H a (.inst C fs')) { s with heap := h', toks := t } := by
  have lo := S.low a _ e
  have ex := S.excl a _ e rfl
  refine ⟨fun b x q => ?_, fun b x q => ?_, fun b x q => ?_, fun b x q i => ?_, fun env m => ?_, S.gens, S.drawn, S.os, hs.1 ▸ S.size⟩
  · have hb : b ≠ a - 1 := fun z => by rw [z, lo.2.1 rfl] at q; cases q
    exact (hs.2 b hb).trans (S.base b x q)
  · by_cases hb : b = a
    · subst hb; rw [upd_self] at q; cases q; exact r
    · rw [upd_ne hb] at q
      refine (S.real b x q).keep fun d hd y hy => ?_
      refine (hs.2 d ?_).trans hy
      rcases hd with rfl | ⟨i, rfl⟩
      · intro z; rw [z, ex] at q; cases q
      · intro z
        have h1 := (S.real b x q)
        have h2 := (S.real a _ e)
        have b1 : 1 ≤ b := by cases x <;> first | exact h1.1 | cases i
        have a1 : 1 ≤ a := h2.1
        exact hb (by have z' : b - 1 = a - 1 := z; omega)
  · by_cases hb : b = a
    · subst hb; rw [upd_self] at q; cases q; exact ⟨lo.1, fun i => lo.2.1 rfl, fun i => by cases i⟩
    · rw [upd_ne hb] at q; exact S.low b x q
  · have key : ∀ d, H d = none → d ≠ a → upd H a (.inst C fs') d = none := fun d z hd => (upd_ne hd).trans z
    by_cases hb : b = a
    · subst hb
      exact key _ ex fun z => by rw [z, e] at ex; cases ex
    · rw [upd_ne hb] at q
      have z := S.excl b x q i
      exact key _ z fun y => by rw [y, e] at z; cases z
  · obtain ⟨k, L, l, f, q⟩ := S.envs env m
    have hL : L ≠ a := fun z => by rw [z, e] at q; cases q
    exact ⟨k, L, l, f, (upd_ne hL).trans q⟩
theorem Real.there {h : Heap} {a : Nat} {o : AO} (r : Real h a o) : h.get? a ≠ none := by
  intro z
  cases o with
  | list xs => obtain ⟨vs, n, e, r⟩ := r; rw [z] at e; cases e
  | tup xs => obtain ⟨vs, n, e, r⟩ := r; rw [z] at e; cases e
  | ns l => obtain ⟨m, ⟨_, _, _, e, _⟩, _⟩ := r; rw [z] at e; cases e
  | cell v => obtain ⟨o, v', e, r⟩ := r; rw [z] at e; cases e
  | inst C fs => obtain ⟨h1, e, r⟩ := r; rw [z] at e; cases e
  | imap kvs => obtain ⟨es, n, e, r⟩ := r; rw [z] at e; cases e
  | iter l i => obtain ⟨o, e, r⟩ := r; rw [z] at e; cases e
  | titer l i => obtain ⟨o, e, r⟩ := r; rw [z] at e; cases e
  | exc cls tb ctx => obtain ⟨o, vs, e, r⟩ := r; rw [z] at e; cases e
  | tb => obtain ⟨o, ts, e, r⟩ := r; rw [z] at e; cases e
  | raw o => have r' : h.get? a = some o := r; rw [z] at r'; cases r'
theorem St.freshG (S : St c envs H s) {a : Nat} (h : s.heap.get? a = none) : H a = none := by
  cases e : H a with
  | none => rfl
  | some o => exact absurd h (S.real a o e).there
theorem St.newG {h' : Heap} {a : Nat} {o : AO} {t : Nat} (S : St c envs H s) (hk : ∀ b x, s.heap.get? b = some x → h'.get? b = some x) (ha : s.heap.get? a = none) (hi : o.isInst = true → s.heap.get? (a - 1) = none) (hns : o.isBig = true → s.heap.objs.size ≤ a)
    (r : Real h' a o) (hz : c.base.objs.size ≤ h'.objs.size) :
    St c envs (upd H a o) { s with heap := h', toks := t } := by
  have nb : ∀ d : Nat, s.heap.get? d = none → c.base.get? d = none := fun d hd => by
    cases z : c.base.get? d with
    | none => rfl
    | some y => have := S.base d y z; rw [hd] at this; cases this
  refine ⟨fun b x q => hk _ _ (S.base b x q), fun b x q => ?_, fun b x q => ?_, fun b x q i => ?_, fun env m => ?_, S.gens, S.drawn, S.os, hz⟩
  · by_cases hb : b = a
    · subst hb; rw [upd_self] at q; cases q; exact r
    · rw [upd_ne hb] at q; exact (S.real b x q).keep fun d _ y hy => hk d y hy
  · by_cases hb' : b = a
    · subst hb'; rw [upd_self] at q; cases q
      exact ⟨nb b ha, fun i => nb _ (hi i), fun i => Nat.le_trans S.size (hns i)⟩
    · rw [upd_ne hb'] at q; exact S.low b x q
  · by_cases hb' : b = a
    · subst hb'; rw [upd_self] at q; cases q
      have z := S.freshG (hi i)
      have h1 : 1 ≤ b := by cases o <;> first | exact r.1 | cases i
      rw [upd_ne (by omega)]; exact z
    · rw [upd_ne hb'] at q
      have z := S.excl b x q i
      have hb2 : b - 1 ≠ a := fun y => by
        have r := S.real b x q
        cases x with
        | inst C fs => obtain ⟨_, _, es, n, hx, _⟩ := r; rw [y, ha] at hx; cases hx
        | _ => cases i
      rw [upd_ne hb2]; exact z
  · obtain ⟨k, L, l, f, q⟩ := S.envs env m
    have hL : L ≠ a := fun z => (S.real L _ q).there (z ▸ ha)
    exact ⟨k, L, l, f, (upd_ne hL).trans q⟩
theorem get_big {h : Heap} {a : Nat} (ha : h.objs.size ≤ a) : h.get? a = none := by
  cases e : h.get? a with
  | none => rfl
  | some o => have : a < h.objs.size := Heap.lt_size e; omega
theorem St.new {h' : Heap} {a : Nat} {o : AO} {t : Nat} (S : St c envs H s) (hk : ∀ b x, s.heap.get? b = some x → h'.get? b = some x) (ha : s.heap.objs.size ≤ a) (hi : o.isInst = true → s.heap.objs.size ≤ a - 1) (r : Real h' a o) (hz : s.heap.objs.size ≤ h'.objs.size) :
    St c envs (upd H a o) { s with heap := h', toks := t } :=
  S.newG hk (get_big ha) (fun i => get_big (hi i)) (fun _ => ha) r (Nat.le_trans S.size hz)
end
end Mine
end
section
open PySem PySem.W PyProof.Rows PySem.Calls
set_option linter.unusedVariables false
set_option Elab.async false
namespace Mine
section
variable {prog : Program} {w : World} {K : Frag} {c : Cx prog w K} {envs : List Env} {H : AH} {A : Around} {E : Value → Shared → Prop} {s : Shared}
theorem hideQ {α : Type} {M : Model} {t : Sem α} {Q : α → Shared → Prop} (h : ∀ QQ : α → Shared → Prop, (∀ v s, Q v s → QQ v s) → wpAny M A t QQ E s) : wpAny M A t Q E s := h Q fun _ _ x => x
theorem hideE {α : Type} {M : Model} {t : Sem α} {Q : α → Shared → Prop} (h : ∀ EE : Value → Shared → Prop, (∀ v s, E v s → EE v s) → wpAny M A t Q EE s) : wpAny M A t Q E s := h E fun _ _ x => x
theorem unhide {α : Type} {Q QQ : α → Shared → Prop} {v : α} (h : ∀ v s, Q v s → QQ v s) (k : Q v s) : QQ v s := h v s k
theorem execs_cons_h {M : Model} {st : Stmt} {rest : List Stmt} {env : Env} {Q : Flow → Shared → Prop} (h : ∀ QQ : Flow → Shared → Prop, (∀ f s', (match f with | .next => wpAny M A (execs rest env) Q E s' | f => Q f s') → QQ f s') → wpAny M A (exec st env) QQ E s) : wpAny M A (execs (st :: rest) env) Q E s :=
  wpAny_execs_cons (h _ fun _ _ x => x)
theorem of_int {i : Int} {P : Value → Prop} (h : ∀ t, P (.int i t)) : ∀ v, er v = .int i 0 → P v := fun v e => by obtain ⟨t, rfl⟩ := er_int e; exact h t
theorem of_ref {a : Addr} {P : Value → Prop} (h : P (.ref a)) : ∀ v, er v = .ref a → P v := fun v e => by rw [er_ref e]; exact h
theorem of_int2 {i : Int} {T : Shared → Prop} {P : Value → Shared → Prop} (h : ∀ t s', T s' → P (.int i t) s') : ∀ v s', er v = .int i 0 → T s' → P v s' := fun v s' e => by obtain ⟨t, rfl⟩ := er_int e; exact h t s'
theorem of_ref2 {a : Addr} {T : Shared → Prop} {P : Value → Shared → Prop} (h : ∀ s', T s' → P (.ref a) s') : ∀ v s', er v = .ref a → T s' → P v s' := fun v s' e => by rw [er_ref e]; exact h s'
theorem of_bool2 {b : Bool} {T : Shared → Prop} {P : Value → Shared → Prop} (h : ∀ s', T s' → P (.bool b) s') : ∀ v s', er v = .bool b → T s' → P v s' := fun v s' e => by rw [er_bool e]; exact h s'
theorem St.get (S : St c envs H s) {a : Nat} {o : AO} (e : H a = some o) : Real s.heap a o := S.real a o e
theorem St.listSet (S : St c envs H s) {q : Nat} {xs xs' : List Value} {vs : Array Value} {n : Nat} {t : Nat} (e : H q = some (.list xs)) (hv : s.heap.get? q = some (listOf vs n)) (f : Array Value → Array Value) (hf : (f vs).toList.map er = xs') :
    St c envs (upd H q (.list xs')) { s with heap := s.heap.update q (Obj.mapSeq f), toks := t } :=
  S.set e (Heap.SameBut.update ..) ⟨_, _, PySem.IsL.update hv f, hf⟩ rfl rfl
theorem list_insert (S : St c envs H s) {q : Nat} {xs : List Value} {i : Int} {u : Tok} {y : Value} {Q : Value → Shared → Prop} (e : H q = some (.list xs)) (h0 : 0 ≤ i) (h1 : i ≤ xs.length) (hz : xs.length ≤ 100000)
    (h : ∀ s', St c envs (upd H q (.list (xs.take i.toNat ++ er y :: xs.drop i.toNat))) s' → Q .none s') : wpAny (model prog w) A (call (.builtin "list.insert") [.ref q, .int i u, y]) Q E s := by
  obtain ⟨vs, n, hv, rfl⟩ := S.get e
  have hl : vs.toList.length = vs.size := by simp
  rw [List.length_map] at h1 hz
  have hf : Builtin.List.listFitsIndex i = true := fitsIndex_of h0 (by omega)
  refine call_meets PySem.F.slot_list_insert ⟨_, hv, rfl⟩ PySem.F.entry_list_insert (PySem.F.args_list_insert_3 _ _ _) (PySem.AutoSeq1.list_insert_list_int_val_1 q _ n i u y (by simp [hf]) (by rw [sizeLine_eq]; omega)) ⟨hv, h _ (S.listSet e hv _ ?_)⟩
  have hk : (if i < 0 then (i + (vs.size : Int)).toNat else min i.toNat vs.size) = i.toNat := by rw [if_neg (by omega)]; omega
  show List.map er ((vs.extract 0 (if i < 0 then (i + (vs.size : Int)).toNat else min i.toNat vs.size)).push y ++ vs.extract (if i < 0 then (i + (vs.size : Int)).toNat else min i.toNat vs.size)).toList = _
  rw [hk]
  have he : (vs.extract 0 i.toNat).push y ++ vs.extract i.toNat = (vs.toList.take i.toNat ++ y :: vs.toList.drop i.toNat).toArray := by
    have := kl_ins_eq vs.toList i.toNat y
    simpa using this
  rw [he]
  simp [List.map_take, List.map_drop]
theorem list_append (S : St c envs H s) {q : Nat} {xs : List Value} {y : Value} {Q : Value → Shared → Prop} (e : H q = some (.list xs)) (hz : xs.length ≤ 100000)
    (h : ∀ s', St c envs (upd H q (.list (xs ++ [er y]))) s' → Q .none s') : wpAny (model prog w) A (call (.builtin "list.append") [.ref q, y]) Q E s := by
  obtain ⟨vs, n, hv, rfl⟩ := S.get e
  rw [List.length_map] at hz
  refine append_at hv (fun h' hs hg => h _ (S.set e hs ⟨_, _, hg, by simp⟩ rfl rfl)) (by
    rw [sizeLine_eq]
    have hl : vs.toList.length = vs.size := by simp
    omega)
theorem list_pop0 (S : St c envs H s) {q : Nat} {x : Value} {xs : List Value} {u : Tok} {Q : Value → Shared → Prop} (e : H q = some (.list (x :: xs))) (hz : xs.length ≤ 100000)
    (h : ∀ v s', er v = x → St c envs (upd H q (.list xs)) s' → Q v s') : wpAny (model prog w) A (call (.builtin "list.pop") [.ref q, .int 0 u]) Q E s := by
  obtain ⟨vs, n, hv, hm⟩ := S.get e
  obtain ⟨l, rfl⟩ : ∃ l : List Value, vs = l.toArray := ⟨vs.toList, by simp⟩
  simp only at hm
  cases l with
  | nil => simp at hm
  | cons y l =>
    simp only [List.map_cons, List.cons.injEq] at hm
    obtain ⟨rfl, rfl⟩ := hm
    rw [List.length_map] at hz
    refine call_meets PySem.F.slot_list_pop ⟨_, hv, rfl⟩ PySem.F.entry_list_pop (PySem.F.args_list_pop_2 _ _) (PySem.MeetsSeq.list_pop_at q _ n 0 u 0 y (by decide +kernel) (by simp [seqIndex?]) (by simp) (by rw [sizeLine_eq]; simp; omega)) ⟨hv, h _ _ rfl (S.listSet e hv _ ?_)⟩
    have := kl_erase [] l y
    simp only [List.nil_append, List.length_nil] at this
    rw [this]
theorem St.tup (S : St c envs H s) {q : Nat} {xs : List Value} (e : H q = some (.tup xs)) : ∃ vs : List Value, IsTup s.heap q vs.toArray ∧ vs.map er = xs := by
  obtain ⟨vs, n, hv, hm⟩ := S.get e
  exact ⟨vs.toList, ⟨_, hv, rfl, n, by simp⟩, hm⟩
theorem St.list (S : St c envs H s) {q : Nat} {xs : List Value} (e : H q = some (.list xs)) : ∃ vs : List Value, s.heap.IsList q vs.toArray ∧ vs.map er = xs := by
  obtain ⟨vs, n, hv, hm⟩ := S.get e
  exact ⟨vs.toList, ⟨_, hv, rfl, n, by simp⟩, hm⟩
theorem map_get {vs : List Value} {xs : List Value} {j : Nat} {x : Value} (h : vs.map er = xs) (hx : xs[j]? = some x) : ∃ y, vs[j]? = some y ∧ er y = x := by
  subst h
  rw [List.getElem?_map] at hx
  exact Option.map_eq_some_iff.mp hx
theorem tup_item (S : St c envs H s) {value slice : PySem.Expr} {q : Nat} {xs : List Value} {k : Int} {u : Tok} {x : Value} {Q : Value → Shared → Prop} (e : H q = some (.tup xs)) (h0 : 0 ≤ k) (hk : k < 2 ^ 62) (hx : xs[k.toNat]? = some x)
    (h : ∀ v, er v = x → Q v s) (hs : subscripted slice false (.ref q) (.int k u) = operate [.ref q, .int k u] (getItem (.ref q) (.int k u)) := by with_unfolding_all rfl) :
    wpAny (model prog w) A (subscriptTail value slice (.ref q) (.int k u)) Q E s := by
  obtain ⟨vs, ht, hm⟩ := S.tup e
  obtain ⟨y, hy, he⟩ := map_get hm hx
  have hl : k.toNat < vs.length := (List.getElem?_eq_some_iff.mp hy).1
  refine item_tupleT ht (by omega) (by omega) (j := k.toNat) ?_ hy (h y he) hs
  exact seqIndex_of h0 (by omega)
theorem list_item (S : St c envs H s) {value slice : PySem.Expr} {q : Nat} {xs : List Value} {k : Int} {u : Tok} {x : Value} {Q : Value → Shared → Prop} (e : H q = some (.list xs)) (h0 : 0 ≤ k) (hk : k < 2 ^ 62) (hx : xs[k.toNat]? = some x)
    (h : ∀ v, er v = x → Q v s) (hs : subscripted slice false (.ref q) (.int k u) = operate [.ref q, .int k u] (getItem (.ref q) (.int k u)) := by with_unfolding_all rfl) :
    wpAny (model prog w) A (subscriptTail value slice (.ref q) (.int k u)) Q E s := by
  obtain ⟨vs, ht, hm⟩ := S.list e
  obtain ⟨y, hy, he⟩ := map_get hm hx
  exact tail_any ht.typeIs slot_list_getitem.lookup (wpAny_getItem_list ht h0 (by omega) (by simpa using hy) (h y he)) hs
theorem len_list (S : St c envs H s) {q : Nat} {xs : List Value} {Q : Value → Shared → Prop} (e : H q = some (.list xs)) (hz : xs.length < 2 ^ 60) (h : ∀ t s', St c envs H s' → Q (.int xs.length t) s') :
    wpAny (model prog w) A (call (.builtin "len") [.ref q]) Q E s := by
  obtain ⟨vs, ht, hm⟩ := S.list e
  have hl : vs.length = xs.length := by rw [← hm, List.length_map]
  refine call_len_list ht (by simp; omega) ?_
  have := h (s.toks + 1) _ (S.tok (s.toks + 1 + 1))
  simpa [hl] using this
theorem nm (S : St c envs H s) {env : Env} {L : Nat} {l : List (Str × Value)} {x : Str} {v : Value} {Q : Value → Shared → Prop} (hH : H L = some (.ns l)) (hx : l.lookup x = some v) (h : ∀ v', er v' = v → Q v' s)
    (hL : env.locals = L := by rfl) (hk : env.scope.kind = .function := by rfl) (hl : env.kindOf x = some .local := by rfl) : wpAny (model prog w) A (loadName env x) Q E s := by
  subst hL
  obtain ⟨m, hn, hm⟩ := S.get hH
  have z := hm x v hx
  obtain ⟨y, hy, he⟩ := Option.map_eq_some_iff.mp z
  exact wpAny_loadName_local hk hl hn hy (h y he)
section
variable {env : Env} {L : Nat} {l : List (Str × Value)} {x : Str} {pos : Pos} {Q : Value → Shared → Prop}
theorem nm_ref {a : Nat} (S : St c envs H s) (hH : H L = some (.ns l)) (hx : l.lookup x = some (.ref a)) (h : Q (.ref a) s)
    (hL : env.locals = L := by rfl) (hk : env.scope.kind = .function := by rfl) (hl : env.kindOf x = some .local := by rfl) (hd : (x == ("__debug__" : Str)) = false := by decide) : wpAny (model prog w) A (eval (.Name x pos) env) Q E s :=
  wpAny_Name (nm S hH hx (fun v he => er_ref he ▸ h) hL hk hl) hd
theorem nm_int {i : Int} (S : St c envs H s) (hH : H L = some (.ns l)) (hx : l.lookup x = some (.int i 0)) (h : ∀ t, Q (.int i t) s)
    (hL : env.locals = L := by rfl) (hk : env.scope.kind = .function := by rfl) (hl : env.kindOf x = some .local := by rfl) (hd : (x == ("__debug__" : Str)) = false := by decide) : wpAny (model prog w) A (eval (.Name x pos) env) Q E s :=
  wpAny_Name (nm S hH hx (fun v he => by obtain ⟨t, rfl⟩ := er_int he; exact h t) hL hk hl) hd
theorem nm_bool {b : Bool} (S : St c envs H s) (hH : H L = some (.ns l)) (hx : l.lookup x = some (.bool b)) (h : Q (.bool b) s)
    (hL : env.locals = L := by rfl) (hk : env.scope.kind = .function := by rfl) (hl : env.kindOf x = some .local := by rfl) (hd : (x == ("__debug__" : Str)) = false := by decide) : wpAny (model prog w) A (eval (.Name x pos) env) Q E s :=
  wpAny_Name (nm S hH hx (fun v he => er_bool he ▸ h) hL hk hl) hd
theorem nm_none (S : St c envs H s) (hH : H L = some (.ns l)) (hx : l.lookup x = some .none) (h : Q .none s)
    (hL : env.locals = L := by rfl) (hk : env.scope.kind = .function := by rfl) (hl : env.kindOf x = some .local := by rfl) (hd : (x == ("__debug__" : Str)) = false := by decide) : wpAny (model prog w) A (eval (.Name x pos) env) Q E s :=
  wpAny_Name (nm S hH hx (fun v he => er_none he ▸ h) hL hk hl) hd
end
theorem stv (S : St c envs H s) {env : Env} {L : Nat} {l : List (Str × Value)} {x : Str} {v v' : Value} {Q : Unit → Shared → Prop} (hH : H L = some (.ns l)) (hv : er v = v')
    (h : ∀ s', St c envs (upd H L (.ns ((x, v') :: l))) s' → Q () s')
    (hL : env.locals = L) (hk : env.scope.kind = .function := by rfl) (hl : env.kindOf x = some .local := by rfl) : wpAny (model prog w) A (storeName env x v) Q E s := by
  subst hL hv
  obtain ⟨m, hn, hm⟩ := S.get hH
  refine wpAny_storeName_local hl hn (fun h' hn' hs => h _ (S.set hH hs ⟨_, hn', fun y u hy => ?_⟩ rfl rfl)) (by rw [hk]; rfl)
  rw [List.lookup_cons] at hy
  by_cases hyx : y = x
  · subst hyx
    rw [if_pos rfl]
    simp at hy
    simp [hy]
  · rw [if_neg hyx]
    have hb : (y == x) = false := by simpa using hyx
    simp only [hb] at hy
    exact hm y u hy
theorem nm_global {env : Env} {x : Str} {pos : Pos} {v : Value} {Q : Value → Shared → Prop} (S : St c envs H s) (e : nsIn K mainGlobals x = some (some v)) (h : Q v s)
    (hg : env.globals = mainGlobals := by rfl) (hk : env.scope.kind = .function := by rfl) (hx : env.kindOf x = some .globalImplicit := by rfl) (hd : (x == ("__debug__" : Str)) = false := by decide) : wpAny (model prog w) A (eval (.Name x pos) env) Q E s :=
  Name_function_global hk hx (loadGlobal_global (hg ▸ S.top.g) (mg_of S.inK S.top.g e) h) hd
theorem nm_builtin {env : Env} {x : Str} {pos : Pos} {v : Value} {Q : Value → Shared → Prop} (S : St c envs H s) (e : nsIn K mainGlobals x = some none) (hv : bootBuiltins x = some v) (hn : x ≠ "__name__") (h : Q v s)
    (hg : env.globals = mainGlobals := by rfl) (hb : env.builtins = builtinsNs := by rfl) (hk : env.scope.kind = .function := by rfl) (hx : env.kindOf x = some .globalImplicit := by rfl) (hd : (x == ("__debug__" : Str)) = false := by decide) : wpAny (model prog w) A (eval (.Name x pos) env) Q E s :=
  Name_function_global hk hx (loadGlobal_builtin (hg ▸ S.top.g) (mg_none_of S.inK S.top.g e) (hb ▸ S.top.b) ((S.top.builtins x hn).trans hv) h) hd
noncomputable def setk (x : Str) (v : Value) : List (Str × Value) → List (Str × Value)
  | [] => [(x, v)]
  | p :: r => if p.1 == x then (x, v) :: r else p :: setk x v r
theorem setk_lookup (x : Str) (v : Value) (y : Str) : ∀ l : List (Str × Value), (setk x v l).lookup y = if y = x then some v else l.lookup y
  | [] => by
    simp only [setk, List.lookup_cons]
    by_cases h : y = x
    · simp [h]
    · have : (y == x) = false := by simpa using h
      simp [h, this]
  | p :: r => by
    unfold setk
    by_cases hp : p.1 == x
    · rw [if_pos hp]
      obtain ⟨a, b⟩ := p
      have ha : a = x := by simpa using hp
      subst ha
      by_cases h : y = a
      · simp [h, List.lookup_cons]
      · have : (y == a) = false := by simpa using h
        simp [h, List.lookup_cons, this]
    · rw [if_neg hp]
      obtain ⟨a, b⟩ := p
      have ha : ¬ a = x := by simpa using hp
      rw [List.lookup_cons, List.lookup_cons, setk_lookup x v y r]
      by_cases h : y = a
      · have : (y == a) = true := by simpa using h
        have hx : ¬ y = x := fun z => ha (h ▸ z)
        simp [this, hx]
      · have : (y == a) = false := by simpa using h
        simp [this]
theorem setk_le {x : Str} {v : Value} {n : Nat} : ∀ {l : List (Str × Value)}, l.length ≤ n → (setk x v l).length ≤ n + 1
  | [], _ => Nat.succ_le_succ (Nat.zero_le _)
  | p :: r, h => by
    unfold setk
    split
    · exact Nat.le_succ_of_le h
    · cases n with
      | zero => cases h
      | succ n => exact Nat.succ_le_succ (setk_le (Nat.le_of_succ_le_succ h))
theorem setk_length (x : Str) (v : Value) : ∀ l : List (Str × Value), (setk x v l).length = if (l.lookup x).isSome then l.length else l.length + 1
  | [] => rfl
  | p :: r => by
    obtain ⟨a, b⟩ := p
    unfold setk
    rw [List.lookup_cons]
    by_cases h : a = x
    · subst h; simp
    · have h1 : (a == x) = false := by simpa using h
      have h2 : (x == a) = false := by simpa using fun z : x = a => h z.symm
      simp only [h1, h2, Bool.false_eq_true, if_false, List.length_cons]
      rw [setk_length x v r]
      split <;> rfl
theorem getL_gv (y : Str) {es : List DictEntry} (h : ∀ e ∈ es, e.refKey = false) : getL y es = some (gv y es) := by
  unfold getL gv
  cases es.find? (fun e => e.key.isStr y) with
  | some e => rfl
  | none =>
    have : es.any (·.refKey) = false := by
      rw [List.any_eq_false]; intro e he; simp [h e he]
    simp [this]
theorem gv_putL (name : Str) (hsh : Int) (tk : Tok) (v : Value) (y : Str) : ∀ (es : List DictEntry), gv y (putL name hsh (.str name tk) v es) = if y = name then some v else gv y es
  | [] => by
    by_cases h : y = name
    · subst h; simp [gv, putL, Value.isStr]
    · have h1 : (name == y) = false := by simpa using fun z : name = y => h z.symm
      simp [gv, putL, Value.isStr, h, h1]
  | e :: r => by
    have hinj : ∀ a b : Str, e.key.isStr a = true → e.key.isStr b = true → a = b := Value.isStr_inj e.key
    unfold putL
    by_cases hn : e.key.isStr name = true
    · rw [if_pos hn]
      by_cases h : y = name
      · subst h; simp [gv, hn]
      · have hy : e.key.isStr y = false := by
          cases q : e.key.isStr y with
          | false => rfl
          | true => exact absurd (hinj _ _ q hn) h
        simp [gv, List.find?_cons, hy, if_neg h]
    · rw [if_neg hn]
      have ih := gv_putL name hsh tk v y r
      by_cases hy : e.key.isStr y = true
      · have h : ¬ y = name := fun z => hn (z ▸ hy)
        simp [gv, hy, h]
      · have hy' : e.key.isStr y = false := by simpa using hy
        unfold gv at ih ⊢
        simp only [List.find?_cons, hy']
        exact ih
theorem putL_refKey (name : Str) (hsh : Int) (tk : Tok) (v : Value) : ∀ {es : List DictEntry}, (∀ e ∈ es, e.refKey = false) → ∀ e ∈ putL name hsh (.str name tk) v es, e.refKey = false
  | [], _, e, he => by
    have : e = ⟨hsh, .str name tk, v⟩ := by simpa [putL] using he
    subst this; rfl
  | e₀ :: r, h, e, he => by
    unfold putL at he
    split at he
    · rcases List.mem_cons.mp he with rfl | he
      · have := h e₀ (.head _); simpa [DictEntry.refKey] using this
      · exact h e (.tail _ he)
    · rcases List.mem_cons.mp he with rfl | he
      · exact h _ (.head _)
      · exact putL_refKey name hsh tk v (fun e he => h e (.tail _ he)) e he
theorem putL_length (name : Str) (hsh : Int) (key v : Value) : ∀ es : List DictEntry, (putL name hsh key v es).length = if es.any (·.key.isStr name) then es.length else es.length + 1
  | [] => rfl
  | e :: r => by
    unfold putL
    by_cases h : e.key.isStr name = true
    · simp [h]
    · have h' : e.key.isStr name = false := by simpa using h
      simp only [h', Bool.false_eq_true, if_false, List.length_cons, List.any_cons, Bool.false_or]
      rw [putL_length name hsh key v r]
      split <;> rfl
theorem any_gv {name : Str} {es : List DictEntry} : es.any (·.key.isStr name) = (gv name es).isSome := by
  unfold gv
  cases q : es.find? (fun e => e.key.isStr name) with
  | some e =>
    have := List.find?_some q
    rw [List.any_eq_true.mpr ⟨e, List.mem_of_find?_eq_some q, this⟩]; rfl
  | none =>
    have : es.any (·.key.isStr name) = false := by
      rw [List.any_eq_false]
      intro e he
      have := List.find?_eq_none.mp q e he
      simpa using this
    rw [this]; rfl
theorem St.inst (S : St c envs H s) {a : Nat} {C : Addr} {fs : List (Str × Value)} (e : H a = some (.inst C fs)) :
    ∃ es n, InstAt s.heap a (instObj C (a - 1)) C (some (dictOf es n)) ∧ s.heap.get? (a - 1) = some (dictOf es n) ∧ es.length ≤ fs.length ∧ (∀ e ∈ es, e.refKey = false) ∧ ∀ x, (gv x es).map er = fs.lookup x := by
  obtain ⟨h1, ha, es, n, hd, hz, hk, hm⟩ := S.get e
  exact ⟨es, n, ⟨ha, rfl, rfl, hd⟩, hd, hz, hk, hm⟩
theorem at_get {a : Nat} {C : Addr} {fs : List (Str × Value)} {name : Str} {v : Value} {attr : Option Value} {expr : Bool} {Q : Value → Shared → Prop} (S : St c envs H s) (e : H a = some (.inst C fs)) (hx : fs.lookup name = some v)
    (hg : plainGet K C name = true) (hh : hasDictIn K C = true) (ha : findIn K (.ref C) name = some attr) (hn : noGet K attr = true) (hv : handedIn v = true)
    (h : ∀ v' s', er v' = v → St c envs H s' → Q v' s') : wpAny (model prog w) A (getAttr (.ref a) name expr) Q E s := by
  obtain ⟨es, n, I, hd, hz, hk, hm⟩ := S.inst e
  have z := hm name
  rw [hx] at z
  obtain ⟨y, hy, he⟩ := Option.map_eq_some_iff.mp z
  refine get_value S.inK I (plainGet_of hg).1 (findObj_own hh ha hn (by rw [lookIn_dict, getL_gv _ hk, hy])) ?_ (h y _ he (S.tok _))
  subst he
  cases y <;> first | rfl | exact hv
theorem at_set {a : Nat} {C : Addr} {fs : List (Str × Value)} {name : Str} {v : Value} {Q : Unit → Shared → Prop} (S : St c envs H s) (e : H a = some (.inst C fs)) (hfz : fs.length ≤ 1000)
    (hs : findIn K (.ref C) "__setattr__" = some (some (.builtin "object.__setattr__"))) (hp : plainOver K C = true) (ht : takerIn K C name = some none) (hh : hasDictIn K C = true)
    (h : ∀ s', St c envs (upd H a (.inst C (setk name (er v) fs))) s' → Q () s') : wpAny (model prog w) A (setAttr (.ref a) name v) Q E s := by
  obtain ⟨es, n, I, hdd, hz, hk, hm⟩ := S.inst e
  refine set_plain S.inK I hs (osa_open (s := { s with toks := s.toks + 1 }) S.inK I hp ht fun b => ?_)
  obtain ⟨cd, hc, hd⟩ := any_some hh
  obtain ⟨hx, hcl, hno, -⟩ := I
  refine wpAny_bind (wpAny_pure (wpAny_bind (wpAny_bind (wpAny_loadPart hx (wpAny_bind ((looks_clsIn (M := model prog w) S.inK hc) _ _ _ _ (fun _ _ e => e) ?_))))))
  rw [hd]
  refine wpAny_pure (a := some (a - 1)) (wpAny_bind (wpAny_pure (wpAny_bind ?_)))
  unfold nsSet
  refine wpAny_bind (wpAny_bind (wpAny_askSetting (wpAny_pure (wpAny_bind (wpAny_mkText (wpAny_bind (wpAny_loadPart hdd ?_)))))))
  dsimp only
  have cnd' : (!es.toArray.any (·.key.isStr name) && es.toArray.any (·.refKey)) = false := by
    have : es.any (·.refKey) = false := by
      rw [List.any_eq_false]; intro e he; simp [hk e he]
    simp [this]
  rw [aRefKeyMayBeTheName_at, cnd']
  refine wpAny_updatePart hdd ?_
  have up := Heap.get?_update_self (Obj.putName name (PyData.keyHash w.params name) (.str name (s.toks + 1)) v) hdd (by rw [putName_dict]; rfl)
  rw [putName_dict] at up
  have hlen : (putL name (PyData.keyHash w.params name) (.str name (s.toks + 1)) v es).length ≤ (setk name (er v) fs).length := by
    rw [putL_length, setk_length, any_gv, ← hm name]
    cases gv name es <;> simp <;> omega
  have hlen2 : (setk name (er v) fs).length ≤ 1001 := by rw [setk_length]; split <;> omega
  refine wpAny_bind (wpAny_lookBehind up (pastItsLine_dict (by rw [List.size_toArray, sizeLine_eq]; omega)) ?_)
  have r := S.get e
  refine wpAny_pure (h _ (S.setDict e (Heap.SameBut.update ..) ⟨r.1, ?_, _, _, up, hlen, putL_refKey _ _ _ _ hk, fun x => ?_⟩))
  · rw [Heap.get?_update_other _ _ (by have := r.1; show a - 1 ≠ a; omega)]; exact hx
  · rw [gv_putL, setk_lookup]
    by_cases hxn : x = name
    · rw [if_pos hxn, if_pos hxn]; rfl
    · rw [if_neg hxn, if_neg hxn]; exact hm x
theorem meth {a : Nat} {C : Addr} {fs : List (Str × Value)} {name : Str} {f : Addr} {pl : Sem Bool} {Q : Value × List Value → Shared → Prop} (S : St c envs H s) (e : H a = some (.inst C fs)) (hx : fs.lookup name = none)
    (hg : plainGet K C name = true) (hf : findIn K (.ref C) name = some (some (.ref f))) (ht : isFn K (.ref f) = true) (h : Q (.ref f, [.ref a]) s) : wpAny (model prog w) A (getMethod (.ref a) name pl) Q E s := by
  obtain ⟨es, n, I, hd, hz, hk, hm⟩ := S.inst e
  have z := hm name
  rw [hx] at z
  have : gv name es = none := by simpa using z
  refine method_fn S.inK I (plainGet_of hg).1 (plainGet_of hg).2 hf (beq_iff_eq.mp ht) ?_ h
  show (lookIn name (dictOf es n)).map _ = _
  rw [lookIn_dict, getL_gv _ hk, this]; rfl
end
end Mine
end
section
open PySem PySem.W PyProof.Rows PySem.Calls
set_option linter.unusedVariables false
set_option Elab.async false
namespace Mine
theorem ne_fresh {H : AH} {a b : Nat} {o : AO} (h : H a = none) (k : H b = some o) : b ≠ a := fun z => by rw [z, h] at k; cases k
theorem upd_other {H : AH} {a b : Nat} {o : AO} {r : Option AO} (h : b ≠ a) (k : H b = r) : upd H a o b = r := (upd_ne h).trans k
structure Rm (A : Around) (d u : Nat) : Prop where
  depth : A.depth + d ≤ 900
  units : A.units + u ≤ 9000
theorem Rm.mono {A : Around} {d u d' u' : Nat} (R : Rm A d u) (hd : d' ≤ d) (hu : u' ≤ u) : Rm A d' u' := ⟨by have := R.depth; omega, by have := R.units; omega⟩
theorem Rm.deeper {A : Around} {d u : Nat} {env : Env} (R : Rm A (d + 1) (u + 3)) : Rm (A.deeper env) d u :=
  ⟨by have := R.depth; rw [depth_deeper]; omega, by have := R.units; rw [units_deeper]; omega⟩
theorem Rm.in1 {A : Around} {d u : Nat} (R : Rm A d (u + 1)) : Rm A.in1 d u := ⟨R.depth, by have := R.units; rw [units_in1]; omega⟩
theorem Rm.mark {A : Around} {d u : Nat} {h : Option Value} (R : Rm A d u) : Rm (A.mark h) d u := ⟨R.depth, R.units⟩
theorem Rm.room {A : Around} {d u : Nat} (R : Rm A d u) : A.depth < recursionLimit := by have := R.depth; unfold recursionLimit; omega
theorem Rm.line {A : Around} {d u : Nat} (R : Rm A d u) : A.units < cLine := by have := R.units; unfold cLine; omega
section
variable {prog : Program} {w : World} {K : Frag} {c : Cx prog w K} {envs : List Env} {H : AH} {A : Around} {E : Value → Shared → Prop} {s : Shared}
noncomputable abbrev backR (Q E : Value → Shared → Prop) : Result → Shared → Prop := fun r s' => match r with | .ok (.ret v) => Q v s' | .ok _ => False | .error e => E e s'
theorem lookup_er (x : Str) : ∀ l : List (Str × Value), (l.map fun p => (p.1, er p.2)).lookup x = (l.lookup x).map er
  | [] => rfl
  | p :: r => by
    rw [List.map_cons, List.lookup_cons, List.lookup_cons, lookup_er x r]
    cases x == p.1 <;> rfl
theorem code_fn {f : Addr} {oc ct : Value} {od an : Option Addr} {osl : Array (Option Value)} {name qual : Str} {params : Arguments} {body : List Stmt} {scope : Scope} {dV kV doc pm cdv : Value} {args : Args} {binds : List (Str × Value)} {l : List (Str × Value)} {R : Result → Shared → Prop} {d u : Nat}
    (S : St c envs H s) (Ro : Rm A d u) (ho : K.lookup f = some ⟨oc, od, .func (fnOf name qual params body scope dV kV doc pm an cdv ct), osl⟩) (hcd : codeIn K cdv qual = true)
    (hbind : BindsTo s (fnOf name qual params body scope dV kV doc pm an cdv ct) args binds) (hl : (binds.reverse.map fun p => (p.1, er p.2)) = l)
    (h : ∀ L s', H L = none → St c (callEnv (fnOf name qual params body scope dV kV doc pm an cdv ct) L f :: envs) (upd H L (.ns l)) s' →
      wpAny (model prog w) (A.deeper (callEnv (fnOf name qual params body scope dV kV doc pm an cdv ct) L f)) (execs body (callEnv (fnOf name qual params body scope dV kV doc pm an cdv ct) L f)) (fun fl s' => R (.ok (.ret (match fl with | .ret v => v | _ => .none))) s')
        (fun e s' => wpAny (model prog w) (A.deeper (callEnv (fnOf name qual params body scope dV kV doc pm an cdv ct) L f)) (leaving (callEnv (fnOf name qual params body scope dV kV doc pm an cdv ct) L f) e) (fun _ s'' => R (.error e) s'') (fun e' s'' => R (.error e') s'') s') s')
    (hloc : ∀ x ∈ binds, scope.names.lookup x.1 = some .local) (hcell : ∀ x ∈ scope.names, x.2 ≠ .cell)
    (hco : scope.isCoroutine = false) (hgen : scope.isGenerator = false) (hk : scope.kind = .function) : codeAny (model prog w) A (.call (.ref f) args) R s := by
  subst hl
  refine codeAny_call_def (fd := fnOf name qual params body scope dV kV doc pm an cdv ct) Ro.room (S.inK _ _ ho) rfl S.top.nolimit (codeRec_of S.inK hcd) rfl hbind hcell hloc (fun h₀ hn hkeep => ?_) hco hgen hk
  refine h _ _ (S.fresh (Nat.le_refl _)) ?_
  have S1 := S.new (a := s.heap.objs.size) (o := .ns (binds.reverse.map fun p => (p.1, er p.2))) (t := s.toks + binds.length) hkeep (Nat.le_refl _) (fun i => by cases i)
    ⟨_, hn, fun x v hx => by rw [lookup_er] at hx; exact hx⟩ (Nat.le_of_lt hn.lt)
  refine ⟨S1.base, S1.real, S1.low, S1.excl, fun env m => ?_, S1.gens, S1.drawn, S1.os, S1.size⟩
  rcases List.mem_cons.mp m with rfl | m
  · exact ⟨by show scope.kind ≠ .module; rw [hk]; decide, s.heap.objs.size, _, rfl, upd_self ..⟩
  · exact S1.envs env m
theorem St.fr (S : St c envs H s) {L : Nat} {l : List (Str × Value)} (e : H L = some (.ns l)) : ∃ m, Fr c.base L s.heap m :=
  let ⟨m, hn, _⟩ := S.get e; ⟨m, hn, S.base, (S.low L _ e).2.2 rfl⟩
theorem const_int {i : Int} {k pos env} {Q : Value → Shared → Prop} (S : St c envs H s) (h : ∀ t s', St c envs H s' → Q (.int i t) s') : wpAny (model prog w) A (eval (.Constant (.int i) k pos) env) Q E s := wpAny_Constant_int (h _ _ (S.tok _))
theorem const_str {x : Str} {k pos env} {Q : Value → Shared → Prop} (S : St c envs H s) (h : ∀ t s', St c envs H s' → Q (.str x t) s') : wpAny (model prog w) A (eval (.Constant (.str x) k pos) env) Q E s := wpAny_Constant_str (h _ _ (S.tok _))
section
variable {a b : Int} {t u : Tok} {Q : Value → Shared → Prop}
theorem s_add (S : St c envs H s) (h : ∀ t s', St c envs H s' → Q (.int (a + b) t) s') : wpAny (model prog w) A (binaryOp .Add (.int a t) (.int b u)) Q E s := PyProof.Rows.add_int (h _ _ (S.tok _))
theorem s_sub (S : St c envs H s) (h : ∀ t s', St c envs H s' → Q (.int (a - b) t) s') : wpAny (model prog w) A (binaryOp .Sub (.int a t) (.int b u)) Q E s := PyProof.Rows.sub_int (h _ _ (S.tok _))
theorem s_iadd (S : St c envs H s) (h : ∀ t s', St c envs H s' → Q (.int (a + b) t) s') : wpAny (model prog w) A (inplaceOp .Add (.int a t) (.int b u)) Q E s := PyProof.Rows.iadd_int (h _ _ (S.tok _))
theorem s_isub (S : St c envs H s) (h : ∀ t s', St c envs H s' → Q (.int (a - b) t) s') : wpAny (model prog w) A (inplaceOp .Sub (.int a t) (.int b u)) Q E s := PyProof.Rows.isub_int (h _ _ (S.tok _))
theorem s_neg (S : St c envs H s) (h : ∀ t s', St c envs H s' → Q (.int (-a) t) s') : wpAny (model prog w) A (unaryOp .USub (.int a t)) Q E s := PyProof.Rows.neg_int (h _ _ (S.tok _))
end
theorem isi_inst {x C f : Nat} {fs : List (Str × Value)} {Q : Value → Shared → Prop} (S : St c envs H s) (e : H x = some (.inst f fs)) (hi : isIn K (.ref f) C = true) (h : Q (.bool true) s) :
    wpAny (model prog w) A (call (.builtin "isinstance") [.ref x, .ref C]) Q E s := by
  obtain ⟨es, n, I, -⟩ := S.inst e
  exact isi_call S.inK (fun M => I.type) hi (by intro z; cases z) h
theorem cmp_inst {op : CmpOp} {x y C f L : Nat} {fs fs' : List (Str × Value)} {l : List (Str × Value)} {Q : Value → Shared → Prop} (S : St c envs H s) (Ro : Rm A 0 0) (hL : H L = some (.ns l)) (ex : H x = some (.inst C fs)) (ey : H y = some (.inst C fs'))
    (hn : notFirst K C (.ref C) = true) (hs : findIn K (.ref C) (cmpInfo op).2.1 = some (some (.ref f))) (hf : isFn K (.ref f) = true) (h : wpAny (model prog w) A (call (.ref f) [.ref x, .ref y]) (PySem.W.CmpBack Q) E s) :
    wpAny (model prog w) A (richCompare op (.ref x) (.ref y)) Q E s := by
  obtain ⟨m, F⟩ := S.fr hL
  obtain ⟨es, n, I, -⟩ := S.inst ex
  obtain ⟨es', n', I', -⟩ := S.inst ey
  exact cmp_K Ro.line F c.inK I (I'.type) hn hs hf h
theorem list_meth {q : Nat} {xs : List Value} {name : Str} {id : String} {pl : Sem Bool} {Q : Value × List Value → Shared → Prop} (S : St c envs H s) (e : H q = some (.list xs)) (slot : Slot "list" name id) (hty : typeOf (.builtin id) = pure (.type "method_descriptor"))
    (h : Q (.builtin id, [.ref q]) s) : wpAny (model prog w) A (getMethod (.ref q) name pl) Q E s := by
  obtain ⟨vs, n, hv, -⟩ := S.get e
  exact getMethod_builtin ⟨_, hv, rfl⟩ PySem.F.plainAttrs_list slot hty (fun a e => by cases e; exact ⟨_, hv, rfl⟩) h
end
noncomputable def AO.le (o o' : AO) : Prop := o = o' ∨ ∃ l l', o = .ns l ∧ o' = .ns l' ∧ ∀ x v, l.lookup x = some v → l'.lookup x = some v
theorem AO.le.rfl' (o : AO) : o.le o := .inl rfl
theorem AO.le.inst {o o' : AO} (h : o.le o') : o'.isInst = o.isInst := by
  rcases h with rfl | ⟨l, l', rfl, rfl, h⟩ <;> rfl
theorem AO.le.big {o o' : AO} (h : o.le o') : o'.isBig = o.isBig := by
  rcases h with rfl | ⟨l, l', rfl, rfl, h⟩ <;> rfl
theorem Real.le {h : Heap} {a : Nat} {o o' : AO} (k : o.le o') (r : Real h a o') : Real h a o := by
  rcases k with rfl | ⟨l, l', rfl, rfl, k⟩
  · exact r
  · obtain ⟨m, hn, hm⟩ := r; exact ⟨m, hn, fun x v q => hm x v (k x v q)⟩
noncomputable def Sub (H G : AH) : Prop := ∀ (a : Nat) o, H a = some o → ∃ o', G a = some o' ∧ o.le o'
theorem Sub.refl (H : AH) : Sub H H := fun _ o e => ⟨o, e, .inl rfl⟩
theorem Sub.fresh {H G : AH} {a : Nat} {x : AO} (h : Sub H G) (n : H a = none) : Sub H (upd G a x) := fun b o e => by
  rw [upd_ne (fun z => by rw [z, n] at e; cases e)]; exact h b o e
theorem Sub.upd2 {H G : AH} {a : Nat} {x y : AO} (h : Sub H G) (k : x.le y) : Sub (upd H a x) (upd G a y) := fun b o e => by
  by_cases hb : b = a
  · subst hb; rw [upd_self] at e; cases e; exact ⟨y, upd_self .., k⟩
  · rw [upd_ne hb] at e ⊢; exact h b o e
theorem lookup_mem {x : Str} {v : Value} : ∀ {l : List (Str × Value)}, l.lookup x = some v → (x, v) ∈ l
  | [], h => by cases h
  | (a, b) :: r, h => by
    rw [List.lookup_cons] at h
    by_cases q : x = a
    · subst q; simp at h; subst h; exact .head _
    · have : (x == a) = false := by simpa using q
      rw [this] at h; exact .tail _ (lookup_mem h)
theorem ns_le {l l' : List (Str × Value)} (h : ∀ p ∈ l, l'.lookup p.1 = some p.2) : (AO.ns l).le (.ns l') := .inr ⟨l, l', rfl, rfl, fun x v e => h (x, v) (lookup_mem e)⟩
noncomputable def Frs (envs : List Env) (H : AH) : Prop := ∀ env ∈ envs, env.scope.kind ≠ .module ∧ ∃ L l, env.frame = some L ∧ H L = some (.ns l)
theorem Frs.turn {envs : List Env} {H : AH} {a : Nat} {o x : AO} (f : Frs envs H) (e : H a = some o) (n : o.isNs = false) : Frs envs (Mine.upd H a x) := fun env m => by
  obtain ⟨k, L, l, h1, h2⟩ := f env m
  exact ⟨k, L, l, h1, upd_other (fun z => by rw [z, e] at h2; cases h2; cases n) h2⟩
theorem Frs.fresh {envs : List Env} {H : AH} {a : Nat} {x : AO} (f : Frs envs H) (e : H a = none) : Frs envs (Mine.upd H a x) := fun env m => by
  obtain ⟨k, L, l, h1, h2⟩ := f env m
  exact ⟨k, L, l, h1, upd_other (fun z => by rw [z, e] at h2; cases h2) h2⟩
section
variable {prog : Program} {w : World} {K : Frag} {c : Cx prog w K} {envs : List Env} {H : AH} {A : Around} {E : Value → Shared → Prop} {s : Shared}
theorem St.frs (S : St c envs H s) : Frs envs H := S.envs
theorem excl_sub {G : AH} (S : ∀ (a : Nat) o, G a = some o → o.isInst = true → G (a - 1) = none) (h : Sub H G) : ∀ (a : Nat) o, H a = some o → o.isInst = true → H (a - 1) = none := fun a o e i => by
  cases q : H (a - 1) with
  | none => rfl
  | some o' =>
    obtain ⟨o1, e1, l1⟩ := h a o e
    obtain ⟨o2, e2, l2⟩ := h _ _ q
    have z := S a o1 e1 (l1.inst.trans i)
    rw [e2] at z; cases z
theorem St.sub {G : AH} {envs' : List Env} (S : St c envs' G s) (h : Sub H G) (f : Frs envs H) : St c envs H s :=
  ⟨S.base, fun a o e => let ⟨o', e', l'⟩ := h a o e; (S.real a o' e').le l', fun a o e => let ⟨o', e', l'⟩ := h a o e; ⟨(S.low a o' e').1, fun i => (S.low a o' e').2.1 (l'.inst.trans i), fun i => (S.low a o' e').2.2 (l'.big.trans i)⟩, excl_sub S.excl h, f, S.gens, S.drawn, S.os, S.size⟩
theorem St.ret {env : Env} {G : AH} (S : St c (env :: envs) G s) (h : Sub H G) (f : Frs envs H) : St c envs H s := S.sub h f
theorem Frs.re {H : AH} {a : Nat} {l l' : List (Str × Value)} (f : Frs envs (upd H a (.ns l))) : Frs envs (upd H a (.ns l')) := by
  intro env m
  obtain ⟨k, L, l1, h1, h2⟩ := f env m
  by_cases q : L = a
  · subst q; exact ⟨k, L, l', h1, upd_self ..⟩
  · exact ⟨k, L, l1, h1, by rw [upd_ne q] at h2 ⊢; exact h2⟩
theorem Frs.ns {H : AH} {a : Nat} {l l' : List (Str × Value)} (f : Frs envs H) (e : H a = some (.ns l)) : Frs envs (upd H a (.ns l')) := fun env m => by
  obtain ⟨k, L, l1, h1, h2⟩ := f env m
  by_cases q : L = a
  · subst q; exact ⟨k, L, l', h1, upd_self ..⟩
  · exact ⟨k, L, l1, h1, (upd_ne q).trans h2⟩
noncomputable def Turn (n : Nat) (I : Nat → Shared → Prop) (s : Shared) : Prop := ∃ m, m < n ∧ I m s
theorem while_ {test : Expr} {body orelse : List Stmt} {pos : Pos} {env : Env} {Q : Flow → Shared → Prop} (I : Nat → Shared → Prop)
    (turn : ∀ n s, I n s →
      wpAny (model prog w) A (isTrue test env (eval test env)) (fun b s₂ =>
        if b then wpAny (model prog w) A (execs body env) (fun f s₃ => match f with
            | .next | .cont => Turn n I s₃
            | .brk => Q .next s₃
            | .ret v => Q (.ret v) s₃) (notedBy (model prog w) A env fun e s' => cameBackBy (model prog w) A env E e s') s₂
        else wpAny (model prog w) A (execs orelse env) (fun f s₃ => Q f s₃) (notedBy (model prog w) A env fun e s' => cameBackBy (model prog w) A env E e s') s₂)
        (notedBy (model prog w) A env fun e s' => cameBackBy (model prog w) A env E e s') s)
    (n : Nat) (h : I n s) : wpAny (model prog w) A (exec (.While test body orelse pos) env) Q E s :=
  wpAny_While (codeAny_whileLoop I turn n h)
theorem while_h {test : Expr} {body orelse : List Stmt} {pos : Pos} {env : Env} {Q : Flow → Shared → Prop} (I : Nat → Shared → Prop)
    (turn : ∀ n s, I n s → ∀ (QB QE : Flow → Shared → Prop) (EE : Value → Shared → Prop), (∀ f s₃, (match f with
            | .next | .cont => Turn n I s₃
            | .brk => Q .next s₃
            | .ret v => Q (.ret v) s₃) → QB f s₃) → (∀ f s₃, Q f s₃ → QE f s₃) → (∀ e s₃, notedBy (model prog w) A env (fun e s' => cameBackBy (model prog w) A env E e s') e s₃ → EE e s₃) →
      wpAny (model prog w) A (isTrue test env (eval test env)) (fun b s₂ => if b then wpAny (model prog w) A (execs body env) QB EE s₂ else wpAny (model prog w) A (execs orelse env) QE EE s₂) EE s)
    (n : Nat) (h : I n s) : wpAny (model prog w) A (exec (.While test body orelse pos) env) Q E s :=
  while_ I (fun n s hI => turn n s hI _ _ _ (fun _ _ x => x) (fun _ _ x => x) (fun _ _ x => x)) n h
end
end Mine
end
section
open PySem PySem.W PyProof.Rows PySem.Calls
set_option linter.unusedVariables false
set_option Elab.async false
namespace Mine
section
variable {prog : Program} {w : World} {K : Frag} {c : Cx prog w K} {envs outer : List Env} {env : Env} {H G : AH} {A : Around} {E : Value → Shared → Prop} {s : Shared} {e : Nat} {cls : Value}
theorem frames_fun (S : St c envs H s) {B : Heap} (hB : ∀ env ∈ envs, ∀ L, env.frame = some L → B.get? L = none) : s.heap.FunFrames B envs := by
  have go : ∀ l : List Env, (∀ env ∈ l, env ∈ envs) → s.heap.FunFrames B l := by
    intro l
    induction l with
    | nil => intro _; trivial
    | cons env r ih =>
      intro h
      obtain ⟨k, L, ll, hf, hl⟩ := S.envs env (h env (.head _))
      obtain ⟨m, ⟨o, es, ep, ho, hd, _⟩, _⟩ := S.get hl
      exact ⟨k, ⟨L, o, hf, hB env (h env (.head _)) L hf, ho, fun vs q => by rw [hd] at q; cases q⟩, ih fun x hx => h x (.tail _ hx)⟩
  exact go envs fun _ h => h
theorem Real.up {h h' : Heap} {a : Nat} {o : AO} {fr : List Nat} (r : Real h a o) (hs : Heap.SlotsOnly fr h h') (n : o.isNs = true ∨ ∀ b, o.at a b → b ∉ fr) : Real h' a o := by
  by_cases q : o.isNs = true
  · cases o with
    | ns l =>
      obtain ⟨m, ⟨o1, es, ep, ho1, hd1, r1⟩, hm⟩ := r
      obtain ⟨sl, z⟩ := hs.2.2 a o1 ho1
      exact ⟨m, ⟨_, es, ep, z, hd1, r1⟩, hm⟩
    | _ => cases q
  · rcases n with n | n
    · exact absurd n q
    · exact r.keep fun b hb x hx => (hs.2.1 b (n b hb)).trans hx
theorem St.slots {h' : Heap} (S : St c envs H s) (hs : Heap.SlotsOnly (envs.filterMap (·.frame)) s.heap h') : St c envs H { s with heap := h' } := by
  have fm : ∀ b : Nat, b ∈ envs.filterMap (·.frame) → ∃ l, H b = some (.ns l) := fun b hb => by
    obtain ⟨x, hx, hxf⟩ := List.mem_filterMap.mp hb
    obtain ⟨k, L', l, hf', hl⟩ := S.envs x hx
    rw [hf'] at hxf; cases hxf; exact ⟨l, hl⟩
  refine ⟨fun b x q => (hs.2.1 b fun m => ?_).trans (S.base b x q), fun a o q => (S.get q).up hs ?_, S.low, S.excl, S.envs, S.gens, S.drawn, S.os, hs.1 ▸ S.size⟩
  · obtain ⟨l, hl⟩ := fm b m
    have := (S.low b _ hl).1
    rw [q] at this; cases this
  · by_cases i : o.isNs = true
    · exact .inl i
    · refine .inr fun b hb m => ?_
      obtain ⟨l, hl⟩ := fm b m
      rcases hb with rfl | ⟨ii, rfl⟩
      · rw [q] at hl; cases hl; exact i rfl
      · have := S.excl a o q ii; rw [hl] at this; cases this
theorem Real.exc {h : Heap} {tb ctx : Option Nat} (r : Real h e (.exc cls tb ctx)) : ∃ o vs, h.get? e = some o ∧ o.cls = cls ∧ o.data = .fields vs ∧ vs[1]? = some (tb.elim .none .ref) ∧ vs[2]? = some (ctx.elim .none .ref) := r
theorem entry_ {head : Value} {hadNext : Bool} {tb ctx : Option Nat} {L : Nat} {Q : Unit → Shared → Prop} (S : St c (env :: outer) H s) (hfr : A.frames = some (env :: outer)) (hf : env.frame = some L) (he : H e = some (.exc cls tb ctx))
    (k : ∀ T s', H T = none → T ≠ e → St c (env :: outer) (upd (upd H T .tb) e (.exc cls (some T) ctx)) s' → Q () s') :
    wpAny (model prog w) A (do let a ← frameOf env; let pl ← entryPlaceOf L hadNext; let b ← EntryCells.newEntry head a .none (rawInt L) .none pl; setField (.ref e) 1 b) Q E s := by
  refine wpAny_bind (wpAny_frameOf_fun (base := hideAll s.heap ((env :: outer).filterMap (·.frame))) hfr (frames_fun S fun x hx L' hL' => hideAll_none _ (List.mem_filterMap.mpr ⟨x, hx, hL'⟩)) hf fun h₁ hs₁ => ?_)
  have S1 := S.slots hs₁
  refine wpAny_bind (wpAny_entryPlaceOf fun pl hpl => ?_)
  unfold EntryCells.newEntry newFields
  refine wpAny_bind (wpAny_newObj_type ?_ (hpl.sizeOk5 _ _ _ _ _))
  have S2 := S1.new (a := h₁.objs.size) (o := .tb) (t := s.toks) (h' := h₁.push { cls := .type "traceback", dict := none, data := .fields ([head, .ref L, .none, rawInt L, .none] ++ (if pl.isEmpty then List.replicate 6 Value.none else pl)).toArray })
    (fun b x q => Heap.get?_push_of_some _ q) (Nat.le_refl _) (by intro i; cases i) ⟨_, _, Heap.get?_push_size _ rfl, rfl, by simp⟩ (by rw [Heap.size_push]; exact Nat.le_succ _)
  have hT : H h₁.objs.size = none := S1.fresh (Nat.le_refl _)
  have hTe : h₁.objs.size ≠ e := fun z => by rw [z, he] at hT; cases hT
  have he2 : upd H h₁.objs.size .tb e = some (.exc cls tb ctx) := upd_other hTe.symm he
  obtain ⟨oe, vs, ho, hc, hd, h1, h2⟩ := S2.get he2
  have hsz : 1 < vs.size := (Array.getElem?_eq_some_iff.mp h1).1
  have hd' := Obj.data_mapFields hd (·.setIfInBounds 1 (Value.ref h₁.objs.size))
  refine wpAny_setField ho hd hsz (k h₁.objs.size _ hT hTe (S2.set (t := s.toks) he2 (Heap.SameBut.update ..) ⟨_, _, Heap.get?_update_self _ ho (Obj.isFreed_of_fields hd'), ?_, hd', by simp [hsz], ?_⟩ rfl rfl))
  · rw [Obj.cls_mapFields]; exact hc
  · rw [Array.getElem?_setIfInBounds_ne (by decide)]; exact h2
theorem setTb (S : St c envs H s) {T : Nat} (hT : H T = some .tb) {i : Nat} {x : Value} {Q : Unit → Shared → Prop} (hi : i ≤ 3) (k : ∀ s', St c envs H s' → Q () s') : wpAny (model prog w) A (setField (.ref T) i x) Q E s := by
  obtain ⟨o, ts, ho, hd, hz⟩ := S.get hT
  refine wpAny_setField ho hd (by omega) (k _ ?_)
  have hd' := Obj.data_mapFields hd (·.setIfInBounds i x)
  have S1 := S.set (o' := .tb) (t := s.toks) hT (Heap.SameBut.update s.heap T (Obj.mapFields (·.setIfInBounds i x)))
    ⟨_, _, Heap.get?_update_self _ ho (Obj.isFreed_of_fields hd'), hd', by simpa using hz⟩ rfl rfl
  refine S1.sub (fun b o q => ?_) S.frs
  by_cases hb : b = T
  · subst hb; rw [hT] at q; cases q; exact ⟨_, upd_self .., .inl rfl⟩
  · exact ⟨o, (upd_ne hb).trans q, .inl rfl⟩
variable {ctx : Option Nat}
noncomputable def FlyT (c : Cx prog w K) (envs : List Env) (H : AH) (e : Nat) (cls : Value) (ctx : Option Nat) (s : Shared) : Prop :=
  H e = none ∧ ∃ T : Nat, T ≠ e ∧ H T = none ∧ St c envs (upd (upd H T .tb) e (.exc cls (some T) ctx)) s
noncomputable def Fly (c : Cx prog w K) (envs : List Env) (H : AH) (e : Nat) (cls : Value) (ctx : Option Nat) (s : Shared) : Prop :=
  FlyT c envs H e cls ctx s ∨ (H e = none ∧ St c envs (upd H e (.exc cls none ctx)) s)
theorem FlyT.frs (F : FlyT c envs H e cls ctx s) : Frs envs H := fun env m => by
  obtain ⟨h1, T, h2, h3, S⟩ := F
  obtain ⟨k, L, l, a, b⟩ := S.envs env m
  refine ⟨k, L, l, a, ?_⟩
  by_cases q : L = e
  · subst q; rw [upd_self] at b; cases b
  · rw [upd_ne q] at b
    by_cases q : L = T
    · subst q; rw [upd_self] at b; cases b
    · rw [upd_ne q] at b; exact b
theorem FlyT.sub {envs' : List Env} (F : FlyT c envs' G e cls ctx s) (h : Sub H G) (f : Frs envs H) : FlyT c envs H e cls ctx s := by
  obtain ⟨h1, T, h2, h3, S⟩ := F
  have n : ∀ x : Nat, G x = none → H x = none := fun x z => by
    cases q : H x with
    | none => rfl
    | some o => obtain ⟨o', y, _⟩ := h x o q; rw [z] at y; cases y
  refine ⟨n e h1, T, h2, n T h3, S.sub (Sub.upd2 (Sub.upd2 h (.inl rfl)) (.inl rfl)) ?_⟩
  exact (f.fresh (n T h3)).fresh (upd_other (fun z => h2 z.symm) (n e h1))
theorem fly_note {L : Nat} {Q : Unit → Shared → Prop} (F : Fly c (env :: outer) H e cls ctx s) (hfr : A.frames = some (env :: outer)) (hf : env.frame = some L) (k : ∀ s', FlyT c (env :: outer) H e cls ctx s' → Q () s') :
    wpAny (model prog w) A (noteFrame (.ref e) env) Q E s := by
  unfold noteFrame
  simp only [hf]
  rcases F with ⟨he, T, hTe, hT, S⟩ | ⟨he, S⟩
  · have e1 : upd (upd H T .tb) e (.exc cls (some T) ctx) e = some (.exc cls (some T) ctx) := upd_self ..
    have eT : upd (upd H T .tb) e (.exc cls (some T) ctx) T = some .tb := upd_other hTe (upd_self ..)
    obtain ⟨oe, vs, ho, hc, hd, h1, -⟩ := (S.get e1).exc
    obtain ⟨oT, ts, hoT, hdT, hzT⟩ := S.get eT
    refine wpAny_bind (wpAny_field ho hd h1 ?_)
    rw [if_pos (show ((some T).elim Value.none Value.ref != Value.none) = true from by simp)]
    refine wpAny_bind (wpAny_field hoT hdT (Array.getElem?_eq_getElem hzT) ?_)
    by_cases hq : (ts[3] == rawInt L) = true
    · rw [if_pos hq]
      exact wpAny_pure (k _ ⟨he, T, hTe, hT, S⟩)
    · rw [if_neg hq]
      refine wpAny_bind (setTb S eT (Nat.le_refl 3) fun s1 S1 => ?_)
      refine entry_ S1 hfr hf e1 fun T' s2 hT' a1 S2 => k _ ?_
      have a2 : T' ≠ T := fun z => by rw [z, eT] at hT'; cases hT'
      have hHT' : H T' = none := by rw [upd_ne a1, upd_ne a2] at hT'; exact hT'
      refine ⟨he, T', a1, hHT', S2.sub ?_ ?_⟩
      · refine Sub.upd2 ?_ (.inl rfl)
        refine Sub.upd2 ?_ (.inl rfl)
        exact ((Sub.refl H).fresh hT).fresh he
      · have f0 : Frs (env :: outer) H := FlyT.frs ⟨he, T, hTe, hT, S⟩
        exact (f0.fresh hHT').fresh (upd_other a1.symm he)
  · have e1 : upd H e (.exc cls none ctx) e = some (.exc cls none ctx) := upd_self ..
    obtain ⟨oe, vs, ho, hc, hd, h1, -⟩ := (S.get e1).exc
    refine wpAny_bind (wpAny_field ho hd h1 ?_)
    rw [if_neg (show ¬ ((none : Option Nat).elim Value.none Value.ref != Value.none) = true from by simp)]
    refine entry_ S hfr hf e1 fun T' s2 hT' a1 S2 => k _ ?_
    have hHT' : H T' = none := by rw [upd_ne a1] at hT'; exact hT'
    have f0 : Frs (env :: outer) H := fun x m => by
      obtain ⟨kk, L', l, a, b⟩ := S.envs x m
      refine ⟨kk, L', l, a, ?_⟩
      by_cases q : L' = e
      · subst q; rw [upd_self] at b; cases b
      · rw [upd_ne q] at b; exact b
    refine ⟨he, T', a1, hHT', S2.sub ?_ ?_⟩
    · refine Sub.upd2 ?_ (.inl rfl)
      refine Sub.upd2 ?_ (.inl rfl)
      exact (Sub.refl H).fresh he
    · exact (f0.fresh hHT').fresh (upd_other a1.symm he)
theorem fly_flight {fr : Option Addr} {Q : Unit → Shared → Prop} (F : FlyT c envs H e cls ctx s) (k : ∀ s', FlyT c envs H e cls ctx s' → Q () s') : wpAny (model prog w) A (setFlight (.ref e) fr) Q E s := by
  obtain ⟨he, T, hTe, hT, S⟩ := F
  have e1 : upd (upd H T .tb) e (.exc cls (some T) ctx) e = some (.exc cls (some T) ctx) := upd_self ..
  have eT : upd (upd H T .tb) e (.exc cls (some T) ctx) T = some .tb := upd_other hTe (upd_self ..)
  obtain ⟨oe, vs, ho, hc, hd, h1, -⟩ := (S.get e1).exc
  unfold setFlight
  refine wpAny_bind (wpAny_field ho hd h1 ?_)
  rw [if_pos (show ((some T).elim Value.none Value.ref != Value.none) = true from by simp)]
  exact setTb S eT (Nat.le_refl 3) fun s' S' => k _ ⟨he, T, hTe, hT, S'⟩
theorem fly_leave {L : Nat} {Q : Unit → Shared → Prop} (F : Fly c (env :: outer) H e cls ctx s) (hfr : A.frames = some (env :: outer)) (hf : env.frame = some L) (k : ∀ s', FlyT c (env :: outer) H e cls ctx s' → Q () s') :
    wpAny (model prog w) A (leaving env (.ref e)) Q E s :=
  wpAny_bind (fly_note F hfr hf fun _ F' => fly_flight F' k)
theorem fly_field {Q : Value → Shared → Prop} (F : FlyT c envs H e cls ctx s) (k : ∀ T : Nat, Q (.ref T) s) : wpAny (model prog w) A (field (.ref e) 1) Q E s := by
  obtain ⟨he, T, hTe, hT, S⟩ := F
  obtain ⟨oe, vs, ho, hc, hd, h1, -⟩ := (S.get (upd_self ..)).exc
  exact wpAny_field ho hd h1 (k T)
theorem fly_came (F : FlyT c envs H e cls ctx s) (k : ∀ s', FlyT c envs H e cls ctx s' → E (.ref e) s') : cameBackBy (model prog w) A env E (.ref e) s := by
  unfold cameBackBy
  refine wpAny_bind (fly_field F fun T => ?_)
  rw [if_neg (by simp)]
  exact fly_flight F k
theorem fly_noted {L : Nat} (F : Fly c (env :: outer) H e cls ctx s) (hfr : A.frames = some (env :: outer)) (hf : env.frame = some L) (k : ∀ s', FlyT c (env :: outer) H e cls ctx s' → E (.ref e) s') : notedBy (model prog w) A env E (.ref e) s :=
  fly_note F hfr hf k
theorem fly_passOn {α : Type} {what : String} {Q : α → Shared → Prop} (F : FlyT c envs H e cls ctx s) (k : ∀ s', FlyT c envs H e cls ctx s' → E (.ref e) s') : wpAny (model prog w) A (PySem.passOn what (.ref e) env) Q E s := by
  unfold PySem.passOn
  refine wpAny_bind (fly_field F fun T => ?_)
  rw [if_neg (by simp)]
  refine wpAny_bind (fly_flight F fun s' F' => wpAny_throw (k s' F'))
theorem newExc_fly {h' : Heap} {t : Nat} {X : String} (S : St c (env :: outer) H s) (x : Heap.NewExc s.heap h' e X) : Fly c (env :: outer) H e (.type X) none { s with heap := h', toks := t } := by
  obtain ⟨ob, tt, ho, hc, hd⟩ := x.there
  obtain ⟨_, L, l, _, h2⟩ := S.envs env (.head _)
  obtain ⟨m, ⟨o1, es, ep, ho1, _⟩, _⟩ := S.get h2
  exact .inr ⟨S.freshG x.new, S.newG x.keeps x.new (by intro i; cases i) (by intro i; cases i) ⟨ob, _, ho, hc, hd, rfl, rfl⟩
    (Nat.le_of_lt (Nat.lt_of_le_of_lt ((S.low L _ h2).2.2 rfl) (Heap.lt_size (x.keeps _ _ ho1))))⟩
theorem list_pop0_empty {q : Nat} {u : Tok} {Q : Value → Shared → Prop} (S : St c (env :: outer) H s) (hh : A.handled = none) (e : H q = some (.list [])) (h : ∀ x s', Fly c (env :: outer) H x (.type "IndexError") none s' → E (.ref x) s') :
    wpAny (model prog w) A (call (.builtin "list.pop") [.ref q, .int 0 u]) Q E s := by
  obtain ⟨vs, n, hv, hm⟩ := S.get e
  have hz : vs.isEmpty = true := by
    have : vs.toList = [] := List.map_eq_nil_iff.mp hm
    simpa using this
  refine call_meets PySem.F.slot_list_pop ⟨_, hv, rfl⟩ PySem.F.entry_list_pop (PySem.F.args_list_pop_2 _ _) (PySem.AutoSeq1.list_pop_list_int_1 q _ n 0 u (by decide +kernel) hz) ⟨hv, hh, fun h' tk x hx => h _ _ (newExc_fly S hx)⟩
end
end Mine
end
section
open PySem PySem.W PyProof.Rows PySem.Calls
set_option linter.unusedVariables false
set_option Elab.async false
namespace Mine
section
variable {prog : Program} {w : World} {K : Frag} {c : Cx prog w K} {envs outer : List Env} {env : Env} {H G : AH} {A : Around} {E : Value → Shared → Prop} {s : Shared}
theorem unchain_entry : entryFor PySem.table "proto.unchain" = some PySem.Builtin.«proto.unchain» := entryFor_of_tree (by kernel_rfl)
noncomputable def Hd (A : Around) (H : AH) : Prop := A.handled = none ∨ ∃ h : Nat, ∃ cls tb ctx, A.handled = some (.ref h) ∧ H h = some (.exc cls tb ctx) ∧
  (ctx = none ∨ ∃ g : Nat, ∃ cls' tb', ctx = some g ∧ g ≠ h ∧ H g = some (.exc cls' tb' none))
theorem Hd.sub {H G : AH} (d : Hd A H) (h : Sub H G) : Hd A G := by
  have one : ∀ (x : Nat) a b d, H x = some (.exc a b d) → G x = some (.exc a b d) := fun x a b d q => by
    obtain ⟨o', e, l⟩ := h x _ q
    rcases l with rfl | ⟨l, l', z, _⟩
    · exact e
    · cases z
  rcases d with d | ⟨h, cls, tb, ctx, e, e1, r⟩
  · exact .inl d
  · refine .inr ⟨h, cls, tb, ctx, e, one _ _ _ _ e1, ?_⟩
    rcases r with r | ⟨g, c', t', a, b, d⟩
    · exact .inl r
    · exact .inr ⟨g, c', t', a, b, one _ _ _ _ d⟩
theorem Hd.fresh {H : AH} {a : Nat} {x : AO} (d : Hd A H) (e : H a = none) : Hd A (upd H a x) := d.sub ((Sub.refl H).fresh e)
theorem raise_ {α : Type} {x : Nat} {cls : Value} {Q : α → Shared → Prop} (d : Hd A H) (hx : H x = none) (S : St c envs (upd H x (.exc cls none none)) s)
    (k : ∀ ctx s', A.handled = ctx.map Value.ref → St c envs (upd H x (.exc cls none ctx)) s' → E (.ref x) s') : wpAny (model prog w) A (raiseNew (.ref x) : Sem α) Q E s := by
  unfold raiseNew
  refine wpAny_bind (wpAny_handled ?_)
  rcases d with d | ⟨h, c1, tb, ctx, e, e1, r⟩
  · rw [d]
    exact wpAny_bind (wpAny_pure (wpAny_throw (k none _ (by rw [d]; rfl) S)))
  · rw [e]
    have hne : h ≠ x := fun z => by rw [z, hx] at e1; cases e1
    have hb : ((Value.ref h) != (Value.ref x)) = true := by simpa using hne
    dsimp only
    rw [if_pos hb]
    have ex : upd H x (.exc cls none none) x = some (.exc cls none none) := upd_self ..
    obtain ⟨oh, vh, hoh, hch, hdh, h1h, h2h⟩ := S.get (upd_other hne e1 : upd H x (.exc cls none none) h = _)
    refine wpAny_bind (wpAny_holding (wpAny_runValue (codeAny_builtin unchain_entry ?_)))
    have fin : wpAny (model prog w) A (do updateField x 2 (.ref h); throw (.ref x) : Sem α) Q E s := by
      obtain ⟨o, vs, ho, hc, hd, h1, h2⟩ := S.get ex
      have hz : 2 < vs.size := (Array.getElem?_eq_some_iff.mp h2).1
      refine wpAny_bind ?_
      show wpAny _ _ (setField (.ref x) 2 (.ref h)) _ _ _
      have hd' := Obj.data_mapFields hd (·.setIfInBounds 2 (Value.ref h))
      refine wpAny_setField ho hd hz (wpAny_throw (k (some h) _ e ?_))
      have S' := S.set (o' := .exc cls none (some h)) (t := s.toks) ex (Heap.SameBut.update s.heap x (Obj.mapFields (·.setIfInBounds 2 (Value.ref h))))
        ⟨_, _, Heap.get?_update_self _ ho (Obj.isFreed_of_fields hd'), by rw [Obj.cls_mapFields]; exact hc, hd', by rw [Array.getElem?_setIfInBounds_ne (by decide)]; exact h1, by simp [hz]⟩ rfl rfl
      rw [upd_upd] at S'
      exact S'
    have fin' : ∀ u : Value, wpAny (model prog w) A (do updateField x 2 (.ref h); throw (.ref x) : Sem α) Q E s := fun _ => fin
    unfold PySem.Builtin.«proto.unchain»
    dsimp only
    refine wpAny_bind (wpAny_field hoh hdh h2h ?_)
    rcases r with rfl | ⟨g, c2, t2, rfl, hgh, e2⟩
    · rw [if_pos (show ((none : Option Nat).elim Value.none Value.ref == Value.none) = true from rfl)]
      exact wpAny_pure fin
    · have hgx : g ≠ x := fun z => by rw [z, hx] at e2; cases e2
      rw [if_neg (show ¬ ((some g).elim Value.none Value.ref == Value.none) = true from Bool.false_ne_true)]
      rw [if_neg (show ¬ ((some g).elim Value.none Value.ref == Value.ref x) = true from by simpa using hgx)]
      rw [if_neg (show ¬ ((some g).elim Value.none Value.ref == Value.ref h) = true from by simpa using hgh)]
      refine wpAny_bind (wpAny_pure (wpAny_pure ⟨by kernel_rfl, codeAny_builtin unchain_entry ?_⟩))
      obtain ⟨og, vg, hog, hcg, hdg, h1g, h2g⟩ := S.get (upd_other hgx e2 : upd H x (.exc cls none none) g = _)
      unfold PySem.Builtin.«proto.unchain»
      dsimp only
      refine wpAny_bind (wpAny_field hog hdg h2g ?_)
      rw [if_pos (show ((none : Option Nat).elim Value.none Value.ref == Value.none) = true from rfl)]
      exact wpAny_pure fin
end
end Mine
end
section
open PySem PySem.W PyProof.Rows PySem.Calls
set_option linter.unusedVariables false
set_option Elab.async false
namespace Mine
section
variable {prog : Program} {w : World} {K : Frag} {c : Cx prog w K} {envs outer : List Env} {env : Env} {H G : AH} {A : Around} {E : Value → Shared → Prop} {s : Shared}
theorem St.off {a : Nat} {o : AO} {h' : Heap} (S : St c envs (upd H a o) s) (n : H a = none) (hi : o.isInst = false) (hn : o.isNs = false) (hs : Heap.SameBut a s.heap h') : St c envs H { s with heap := h' } := by
  have ea : upd H a o a = some o := upd_self ..
  have neq : ∀ (b : Nat) x, H b = some x → b ≠ a := fun b x q z => by rw [z, n] at q; cases q
  have up : ∀ (b : Nat) x, H b = some x → upd H a o b = some x := fun b x q => upd_other (neq b x q) q
  refine ⟨fun b x q => (hs.2 b fun z => ?_).trans (S.base b x q), fun b x q => ?_, fun b x q => S.low b x (up b x q), fun b x q i => ?_, fun env m => ?_, S.gens, S.drawn, S.os, hs.1 ▸ S.size⟩
  · have := (S.low a _ ea).1; rw [z, this] at q; cases q
  · refine (S.real b x (up b x q)).keep fun d hd y hy => (hs.2 d ?_).trans hy
    rcases hd with rfl | ⟨i, rfl⟩
    · exact neq _ _ q
    · intro z; have := S.excl b x (up b x q) i; rw [z, ea] at this; cases this
  · have := S.excl b x (up b x q) i
    by_cases z : b - 1 = a
    · rw [z, ea] at this; cases this
    · rw [upd_ne z] at this; exact this
  · obtain ⟨k, L, l, f, q⟩ := S.envs env m
    refine ⟨k, L, l, f, ?_⟩
    by_cases z : L = a
    · rw [z, ea] at q; cases q; cases hn
    · rw [upd_ne z] at q; exact q
theorem stop_ {α : Type} {Q : α → Shared → Prop} (S : St c envs H s) (d : Hd A H) (k : ∀ x s', St c envs H s' → s'.TypeIs (.ref x) "StopIteration" → E (.ref x) s') :
    wpAny (model prog w) A (newExc (.type "StopIteration") [] >>= fun e => (raiseNew e : Sem α)) Q E s := by
  refine wpAny_bind ?_
  simp only [newExc, newTuple]
  refine wpAny_bind (wpAny_newObj_type ?_ (by size_fits))
  refine wpAny_bind (m := firstArgMember _ _) (wpAny_of_eq (a := Value.none) (by first | rfl | (simp only [firstArgMember]; rfl)) ?_)
  refine wpAny_newObj_type ?_ (by size_fits)
  have g1 : ∀ b x, s.heap.get? b = some x → (s.heap.push { cls := .type "tuple", data := .seq ([] : List Value).toArray }).get? b = some x := fun b x q => Heap.get?_push_of_some _ q
  generalize hh : s.heap.push { cls := .type "tuple", data := .seq ([] : List Value).toArray } = h1 at g1 ⊢
  have z1 : s.heap.objs.size ≤ h1.objs.size := by subst hh; rw [Heap.size_push]; exact Nat.le_succ _
  have hx : H h1.objs.size = none := S.fresh z1
  have S1 := S.new (a := h1.objs.size) (o := .exc (.type "StopIteration") none none) (t := s.toks)
    (h' := h1.push { cls := .type "StopIteration", data := .fields (#[.ref s.heap.objs.size, .none, .none, .none, .bool false, .none] ++ ownMembersOf (.type "StopIteration") []) })
    (fun b x q => Heap.get?_push_of_some _ (g1 b x q)) z1 (by intro i; cases i)
    ⟨_, _, Heap.get?_push_size _ rfl, rfl, rfl, rfl, rfl⟩ (by rw [Heap.size_push]; omega)
  refine raise_ d hx S1 fun ctx s' _ S' => ?_
  obtain ⟨o, vs, ho, hc, hd, _⟩ := S'.get (upd_self ..)
  exact k _ _ (S'.weak (fun b x q => upd_other (fun z => by rw [z, hx] at q; cases q) q) fun en m => ⟨m, fun L l hf q => by
    by_cases z : L = h1.objs.size
    · rw [z, upd_self] at q; cases q
    · rw [upd_ne z] at q; exact q⟩) ⟨o, ho, hc⟩
theorem iter_list {l : Nat} {xs : List Value} {Q : Value → Shared → Prop} (S : St c envs H s) (hl : H l = some (.list xs)) (k : ∀ it s', H it = none → St c envs (upd H it (.iter l 0)) s' → Q (.ref it) s') :
    wpAny (model prog w) A (pyIter (.ref l)) Q E s := by
  obtain ⟨vs, ht, hm⟩ := S.list hl
  refine wpAny_pyIter_list ht (k _ _ (S.fresh (Nat.le_refl _)) ?_)
  exact S.new (t := s.toks) (fun b x q => Heap.get?_push_of_some _ q) (Nat.le_refl _) (by intro i; cases i) ⟨_, Heap.get?_push_size _ rfl, rfl, rfl⟩ (by rw [Heap.size_push]; exact Nat.le_succ _)
theorem next_item {it l i : Nat} {xs : List Value} {x : Value} {Q : Option Value → Shared → Prop} (S : St c envs H s) (hit : H it = some (.iter l i)) (hl : H l = some (.list xs)) (hx : xs[i]? = some x)
    (k : ∀ v s', er v = x → St c envs (upd H it (.iter l (i + 1))) s' → Q (some v) s') : wpAny (model prog w) A (pyNext (.ref it)) Q E s := by
  obtain ⟨vs, ht, hm⟩ := S.list hl
  obtain ⟨y, hy, he⟩ := map_get hm hx
  exact wpAny_pyNext_list_item (S.get hit) ht (by simpa using hy) fun h' hi hs => k y _ he (S.set (t := s.toks) hit hs hi rfl rfl)
theorem next_end {it l i : Nat} {xs : List Value} {Q : Option Value → Shared → Prop} (S : St c envs (upd H it (.iter l i)) s) (hit : H it = none) (hl : H l = some (.list xs)) (hx : xs.length ≤ i) (d : Hd A H)
    (k : ∀ s', St c envs H s' → Q none s') : wpAny (model prog w) A (pyNext (.ref it)) Q E s := by
  obtain ⟨vs, ht, hm⟩ := S.list (upd_other (fun z => by rw [z, hit] at hl; cases hl) hl : upd H it (.iter l i) l = _)
  have hI : s.heap.IsListIter it l i := S.get (upd_self ..)
  obtain ⟨o, ho, hc, hd⟩ := id hI
  obtain ⟨ol, hol, _, nl, hdl⟩ := ht
  unfold pyNext
  refine wpAny_bind (wpAny_attempt (wpAny_callSpecial?_slot (name := Str.ofString "__next__") hI.typeIs slot_listiter_next
    (wpAny_call_entry slot_listiter_next hI.typeIs entry_listiter_next ?_ (args_listiter_next _))))
  show wpAny _ _ (field (.ref it) 0 >>= _) _ _ s
  refine wpAny_bind (wpAny_field ho hd (x := .ref l) rfl ?_)
  show wpAny _ _ (if (Value.ref l == Value.none) = true then _ else _) _ _ s
  rw [if_neg (show ¬ ((Value.ref l == Value.none) = true) from Bool.false_ne_true)]
  show wpAny _ _ (field (.ref it) 1 >>= _) _ _ s
  refine wpAny_bind (wpAny_field ho hd (x := .int i 0) rfl ?_)
  show wpAny _ _ (seqItems? (.ref l) >>= _) _ _ s
  refine wpAny_bind (wpAny_seqItems hol hdl ?_)
  have hn : vs.toArray[(i : Int).toNat]? = none := by
    rw [Int.toNat_natCast]
    have : vs.length = xs.length := by rw [← hm, List.length_map]
    simp; omega
  simp only [hn]
  refine wpAny_bind (wpAny_rule (wpAny_bind (wpAny_setField ho hd (by simp) ?_)))
  show wpAny _ _ (newExc (.type "StopIteration") [] >>= _) _ _ _
  have S1 := S.off hit rfl rfl (Heap.SameBut.update s.heap it (Obj.mapFields (·.setIfInBounds 0 Value.none)))
  refine stop_ S1 (A := A.in1) d fun x s' S' ti => ?_
  refine wpAny_bind (wpAny_isInstance (T := "StopIteration") (b := true) ti isSubtype_stop ?_)
  exact wpAny_pure (k _ S')
theorem unpackItems_ {t : Nat} {xs : List Value} {Q : List Value → Shared → Prop} (S : St c envs H s) (ht : H t = some (.tup xs)) (d : Hd A H)
    (k : ∀ vs s', vs.map er = xs → St c envs H s' → Q vs s') {n : Nat} (hn : n = xs.length) : wpAny (model prog w) A (unpackItems (.ref t) n none) Q E s := by
  obtain ⟨vs, hT, hm⟩ := S.tup ht
  obtain rfl : n = vs.toArray.size := by rw [hn, ← hm]; simp
  have hlt : t ≠ s.heap.objs.size := by obtain ⟨o, ho, _⟩ := hT; exact Nat.ne_of_lt (Heap.lt_size ho)
  have hfr : H s.heap.objs.size = none := S.fresh (Nat.le_refl _)
  unfold unpackItems
  refine wpAny_bind ?_
  unfold notIterableAtAll
  refine wpAny_bind (wpAny_specialOf hT.typeIs slot_tuple_iter.lookup ?_)
  refine wpAny_pure ?_
  simp only [Bool.false_eq_true, if_false]
  refine wpAny_bind (wpAny_holding (iter_tuple hT ?_))
  have S1 : St c envs (upd H s.heap.objs.size (.titer t 0)) { s with heap := s.heap.push { cls := .type "tuple_iterator", data := .fields #[.ref t, .int 0 0] } } := S.new (t := s.toks) (fun b x q => Heap.get?_push_of_some _ q) (Nat.le_refl _) (by intro i; cases i) ⟨_, Heap.get?_push_size _ rfl, rfl, rfl⟩ (by rw [Heap.size_push]; exact Nat.le_succ _)
  refine wpAny_bind (wpAny_holding (draw_tuple hlt vs.toArray.size 0 _ _ ⟨_, Heap.get?_push_size _ rfl, rfl, rfl⟩ (hT.push _) (by omega) fun h₁ hit₁ hs₁ => ?_))
  have hall : List.take vs.toArray.size (List.drop 0 vs.toArray.toList) = vs := by
    rw [List.drop_zero]; simp
  rw [hall, if_neg (by simp)]
  have ht₁ : IsTup h₁ t vs.toArray := (hT.push _).extBut hs₁.extBut hlt
  have S2 := S1.off (h' := h₁) hfr rfl rfl hs₁
  obtain ⟨o, ho, hc, hd⟩ := id hit₁
  obtain ⟨ol, hol, _, nl, hdl⟩ := ht₁
  refine wpAny_bind (wpAny_holding ?_)
  unfold pyNext
  refine wpAny_bind (wpAny_attempt (wpAny_callSpecial?_slot (name := Str.ofString "__next__") hit₁.typeIs slot_tupleiter_next
    (wpAny_call_entry slot_tupleiter_next hit₁.typeIs entry_tupleiter_next ?_ (args_tupleiter_next _))))
  show wpAny _ _ (field (.ref s.heap.objs.size) 0 >>= _) _ _ _
  refine wpAny_bind (wpAny_field ho hd (x := .ref t) rfl ?_)
  show wpAny _ _ (if (Value.ref t == Value.none) = true then _ else _) _ _ _
  rw [if_neg (show ¬ ((Value.ref t == Value.none) = true) from Bool.false_ne_true)]
  show wpAny _ _ (field (.ref s.heap.objs.size) 1 >>= _) _ _ _
  refine wpAny_bind (wpAny_field ho hd (x := .int (0 + vs.toArray.size : Nat) 0) rfl ?_)
  show wpAny _ _ (seqItems? (.ref t) >>= _) _ _ _
  refine wpAny_bind (wpAny_seqItems hol hdl ?_)
  have hn : vs.toArray[((0 + vs.toArray.size : Nat) : Int).toNat]? = none := by rw [Int.toNat_natCast]; simp
  simp only [hn]
  refine wpAny_bind (wpAny_rule (wpAny_bind (wpAny_setField ho hd (by simp) ?_)))
  show wpAny _ _ (newExc (.type "StopIteration") [] >>= _) _ _ _
  have S3 := S1.off (h' := h₁.update s.heap.objs.size (Obj.mapFields (·.setIfInBounds 0 Value.none))) hfr rfl rfl (hs₁.trans (Heap.SameBut.update ..))
  refine stop_ S3 (A := A.in1) d fun x s' S' ti => ?_
  refine wpAny_bind (wpAny_isInstance (T := "StopIteration") (b := true) ti isSubtype_stop ?_)
  refine wpAny_pure ?_
  simp only [Option.isSome_none, Bool.false_eq_true, if_false]
  exact wpAny_pure (k vs s' hm S')
theorem unpack_tup {elts : List Expr} {x1} {pos : Pos} {t : Nat} {xs : List Value} {Q : Unit → Shared → Prop} (S : St c envs H s) (ht : H t = some (.tup xs)) (d : Hd A H)
    (hn : (assignEach elts env).length = xs.length) (hstar : (assignEach elts env).findIdx? (·.1) = none)
    (k : ∀ vs s', vs.map er = xs → St c envs H s' → wpAny (model prog w) A (assignInOrder ((assignEach elts env).map (·.2)) vs) Q E s') :
    wpAny (model prog w) A (assign (.Tuple elts x1 pos) env (.ref t)) Q E s := by
  rw [assign_Tuple]
  unfold unpack
  rw [hstar]
  exact wpAny_bind (wpAny_standAt (wpAny_bind (wpAny_holding (unpackItems_ S ht d k hn))))
noncomputable def LoopAt (c : Cx prog w K) (envs : List Env) (I : Nat → AH → Prop) (it l i : Nat) (s : Shared) : Prop := ∃ G, I i G ∧ G it = none ∧ St c envs (upd G it (.iter l i)) s
theorem LoopAt.mk {I : Nat → AH → Prop} {it l i : Nat} (h : I i G) (n : G it = none) (S : St c envs (upd G it (.iter l i)) s) : LoopAt c envs I it l i s := ⟨G, h, n, S⟩
theorem own_go {target : Expr} {it l i : Nat} {v : Value} {Q : Unit → Shared → Prop} (hit : s.heap.IsListIter it l i) (hQ : Q () s) : wpAny (model prog w) A (letOwnedTupleGo target (.ref it) v) Q E s := by
  obtain ⟨o, ho, hc, hd⟩ := hit
  have go : ∀ a, wpAny (model prog w) A (do
      let o ← load it
      match o.cls, o.data with
      | .type n, .fields vs =>
        if ["enumerate", "zip", "dict_itemiterator", "dict_reverseitemiterator", "odict_iterator", "itertools.zip_longest", "itertools.pairwise"].contains n && vs[0]? == some (rawInt a) then
          rule "for.unpacks-the-owned-tuple"
          updateField it 0 .none
      | _, _ => pure ()) Q E s := fun a => by
    refine wpAny_bind (wpAny_load ho ?_)
    rw [hc, hd]
    exact wpAny_pure hQ
  cases target <;> first
    | exact wpAny_pure hQ
    | (cases v <;> first | exact go _ | exact wpAny_pure hQ)
theorem for_list {target : Expr} {body orelse : List Stmt} {l : Nat} {R : Result → Shared → Prop} (xs : List Value) (I : Nat → AH → Prop) (S : St c envs H s) (hI : I 0 H)
    (hl : ∀ i G, I i G → G l = some (.list xs)) (hd : ∀ i G, I i G → Hd A G)
    (turn : ∀ (it i : Nat) G s' v x, I i G → G it = none → G l = some (.list xs) → xs[i]? = some x → er v = x → St c envs (upd G it (.iter l (i + 1))) s' →
      wpAny (model prog w) A (assign target env v) (fun _ s₂ => wpAny (model prog w) A (execs body env) (fun f s₃ => match f with
          | .next | .cont => LoopAt c envs I it l (i + 1) s₃
          | .brk => R (.ok .next) s₃
          | .ret v => R (.ok (.ret v)) s₃) (notedBy (model prog w) A env fun e s' => R (.error e) s') s₂) (notedBy (model prog w) A env fun e s' => R (.error e) s') s')
    (fin : ∀ G s', I xs.length G → St c envs G s' → wpAny (model prog w) A (execs orelse env) (fun f s₃ => R (.ok f) s₃) (notedBy (model prog w) A env fun e s' => R (.error e) s') s') :
    wpAny (model prog w) A (pyIter (.ref l)) (fun it s₂ => codeAny (model prog w) A (.forLoop target it body orelse env) R s₂) E s := by
  refine iter_list S (hl 0 H hI) fun it s1 h0 S1 => ?_
  refine codeAny_forLoop_any (fun n s' => ∃ i, n = xs.length - i ∧ i ≤ xs.length ∧ LoopAt c envs I it l i s') ?_ xs.length ⟨0, rfl, Nat.zero_le _, H, hI, h0, S1⟩
  rintro n s' ⟨i, rfl, hi, G, hG, hn, S'⟩
  have hGl := hl i G hG
  by_cases hlt : i < xs.length
  · have hx : xs[i]? = some xs[i] := List.getElem?_eq_getElem hlt
    have hG2 : upd G it (.iter l i) l = some (.list xs) := upd_other (fun z => by rw [z, hn] at hGl; cases hGl) hGl
    refine next_item S' (upd_self ..) hG2 hx fun v s2 hv S2 => ?_
    rw [upd_upd] at S2
    refine own_go (S2.get (upd_self ..)) ?_
    refine wpAny_mono (turn it i G s2 v _ hG hn hGl hx hv S2) (fun _ s3 h3 => wpAny_mono h3 (fun f s4 h4 => ?_) fun _ _ x => x) fun _ _ x => x
    cases f with
    | next => exact ⟨_, by omega, i + 1, rfl, by omega, h4⟩
    | cont => exact ⟨_, by omega, i + 1, rfl, by omega, h4⟩
    | brk => exact h4
    | ret v => exact h4
  · have he : i = xs.length := by omega
    subst he
    exact next_end S' hn hGl (Nat.le_refl _) (hd _ _ hG) fun s2 S2 => fin G s2 hG S2
end
end Mine
end
section
open PySem PySem.W PyProof.Rows PySem.Calls
set_option linter.unusedVariables false
set_option Elab.async false
namespace Mine
section
variable {prog : Program} {w : World} {K : Frag} {c : Cx prog w K} {envs outer : List Env} {env : Env} {H G : AH} {A : Around} {E : Value → Shared → Prop} {s : Shared} {e L : Nat} {cls : Value} {ctx : Option Nat}
theorem FlyT.open (F : FlyT c envs H e cls ctx s) : ∃ T : Nat, H e = none ∧ H T = none ∧ T ≠ e ∧ St c envs (upd (upd H T .tb) e (.exc cls (some T) ctx)) s := by
  obtain ⟨a, T, b, d, S⟩ := F; exact ⟨T, a, d, b, S⟩
theorem FlyT.close {T : Nat} (S : St c envs (upd (upd H T .tb) e (.exc cls (some T) ctx)) s) (a : H e = none) (d : H T = none) (b : T ≠ e) : FlyT c envs H e cls ctx s := ⟨a, T, b, d, S⟩
theorem fin_raised {f₀ : Stmt} {fs : List Stmt} {Q : Flow → Shared → Prop} (F : Fly c (env :: outer) H e cls ctx s) (hfr : A.frames = some (env :: outer)) (hf : env.frame = some L)
    (k : ∀ T s', H e = none → H T = none → T ≠ e → St c (env :: outer) (upd (upd H T .tb) e (.exc cls (some T) ctx)) s' →
      wpAny (model prog w) (A.mark (some (.ref e))) (execs (f₀ :: fs) env)
        (fun g s₂ => match g with | .next => wpAny (model prog w) A (PySem.passOn "try.finally" (.ref e) env) Q E s₂ | g => wpAny (model prog w) A (setFlight (.ref e) none) (fun _ s₃ => Q g s₃) E s₂) (notedBy (model prog w) (A.mark (some (.ref e))) env (cameBackBy (model prog w) A env E)) s') :
    FinallyRaised prog w A E env (f₀ :: fs) Q (.ref e) s := by
  refine ⟨ref_ne_byPass e, fly_note F hfr hf fun s1 F1 => fly_flight F1 fun s2 F2 => ?_⟩
  obtain ⟨T, a, b, d, S⟩ := F2.open
  exact k T s2 a b d S
theorem caught_B {X T' : String} {x : Str} {np pos : Pos} {b₀ : Stmt} {suite : List Stmt} {rest : List ExceptHandler} {Q : Flow → Shared → Prop} (F : Fly c (env :: outer) H e (.type X) ctx s) (hfr : A.frames = some (env :: outer)) (hf : env.frame = some L)
    (hexc : isSubtype (.type T') (.type "BaseException") = pure true) (hnt : isSubtype (.type ((Manifest.find? T').elim "type" fun y => y.metatype)) (.type "tuple") = pure false) (hsub : isSubtype (.type X) (.type T') = pure true)
    (en : nsIn K mainGlobals x = some none) (hv : bootBuiltins x = some (.type T')) (hn : x ≠ "__name__")
    (k : ∀ T s', H e = none → H T = none → T ≠ e → St c (env :: outer) (upd (upd H T .tb) e (.exc (.type X) (some T) ctx)) s' →
      wpAny (model prog w) (A.mark (some (.ref e))) (execs (b₀ :: suite) env) Q (notedBy (model prog w) (A.mark (some (.ref e))) env (cameBackBy (model prog w) A env E)) s')
    (hg : env.globals = mainGlobals := by rfl) (hb : env.builtins = builtinsNs := by rfl) (hk : env.scope.kind = .function := by rfl) (hx : env.kindOf x = some .globalImplicit := by rfl) (hd : (x == ("__debug__" : Str)) = false := by decide) :
    wpAny (model prog w) A (noteFrame (.ref e) env) (fun _ s₂ => wpAny (model prog w) A (setFlight (.ref e) none) (fun _ s₃ =>
        wpAny (model prog w) A (handleBy (.ref e) env (.ExceptHandler (some (.Name x np)) none (b₀ :: suite) pos :: rest)) Q E s₃) E s₂) E s := by
  refine fly_note F hfr hf fun s1 F1 => fly_flight F1 fun s2 F2 => ?_
  obtain ⟨T, a, b, d, S⟩ := F2.open
  obtain ⟨o, vs, ho, hc, hdt, _⟩ := (S.get (upd_self ..)).exc
  refine wpAny_handleBy_builtin (X := X) (T := T') (b := true) hexc hnt hsub (nm_builtin S en hv hn ⟨rfl, ⟨o, ho, hc⟩, ?_⟩ hg hb hk hx hd)
  refine fly_flight (A := A.mark (some (.ref e))) F2 fun s3 F3 => ?_
  obtain ⟨T, a, b, d, S⟩ := F3.open
  exact k T s3 a b d S
section
variable {nm qn : Str} {C N : Addr} {bs bm bmB : List Value} {hdct : Bool} {sn : List Str} {sub : List Value} {ab : Bool} {col : Option Bool} {dd : Option Addr} {k0 k1 k2 k3 k5 : Option Value} {B newId initId : String}
theorem raiseStmt_H {x : Sem Value} {Q : Flow → Shared → Prop} (hbase : bm.contains (.type "BaseException") = true)
    (h : wpAny (model prog w) A x (fun v s₁ => ∃ e t, v = .ref e ∧ s₁.heap.get? C = some (excClassObj nm qn C N bs bm hdct sn sub ab col dd k0 k1 k2 k3 k5 newId) ∧
      s₁.heap.get? e = some { cls := .ref C, data := .fields #[.ref t, .none, .none, .none, .bool false, .none] } ∧ wpAny (model prog w) A (raiseNew (.ref e) : Sem Flow) Q E s₁) E s) :
    wpAny (model prog w) A (raiseStmt env (some x) none) Q E s := by
  have hcB : (Value.ref C :: bm).contains (.type "BaseException") = true := by rw [List.contains_cons, hbase, Bool.or_true]
  unfold raiseStmt
  refine wpAny_bind (wpAny_mono h (fun v s₁ h₁ => ?_) fun _ _ x => x)
  obtain ⟨e, t, rfl, hC, he, hE⟩ := h₁
  obtain ⟨hp, g, d, tk, os⟩ := s₁
  repeat (first | with_reducible refine wpAny_loadPart_at he ?_ | with_reducible refine wpAny_loadPart_at hC ?_ | (with_reducible refine wpAny_isSubtype_exc hC ?_; rw [hcB]) | wp_step)
  exact hE
end
theorem St.sizeKeep {h' : Heap} (S : St c (env :: outer) H s) (hk : ∀ b o, s.heap.get? b = some o → h'.get? b = some o) : c.base.objs.size ≤ h'.objs.size := by
  obtain ⟨_, L, l, _, h2⟩ := S.envs env (.head _)
  obtain ⟨m, ⟨o1, es, ep, ho1, _⟩, _⟩ := S.get h2
  exact Nat.le_of_lt (Nat.lt_of_le_of_lt ((S.low L _ h2).2.2 rfl) (Heap.lt_size (hk _ _ ho1)))
theorem Raise_ {C : Addr} {bmB : List Value} {B newId initId : String} {x : Str} {m : Str} {kk : _} {np cpos pos pm : Pos} {Q : Flow → Shared → Prop} (S : St c (env :: outer) H s) (d : Hd A H)
    (en : nsIn K mainGlobals x = some (some (.ref C))) (q : excIn K C bmB newId = true) (FB : ExcBaseFacts B newId initId bmB)
    (k : ∀ e ctx s', H e = none → A.handled = ctx.map Value.ref → St c (env :: outer) (upd H e (.exc (.ref C) none ctx)) s' → E (.ref e) s')
    (hg : env.globals = mainGlobals := by rfl) (hk : env.scope.kind = .function := by rfl) (hx : env.kindOf x = some .globalImplicit := by rfl) (hd : (x == ("__debug__" : Str)) = false := by decide) :
    wpAny (model prog w) A (exec (.Raise (some (.Call (.Name x np) [.Constant (.str m) kk pm] [] cpos)) none pos) env) Q E s := by
  obtain ⟨bm, N, nm, qn, bs, hdct, sn, sub, ab, col, dd, k0, k1, k2, k3, k5, mN, hC, hN, hni, TL⟩ := (own_of_in c.inK c.top en q).obj
  rw [arm_exec_Raise]
  refine wpAny_bind (wpAny_standAt (raiseStmt_H (C := C) (nm := nm) (qn := qn) (N := N) (bs := bs) (bm := bm) (hdct := hdct) (sn := sn) (sub := sub) (ab := ab) (col := col) (dd := dd) (k0 := k0) (k1 := k1) (k2 := k2) (k3 := k3) (k5 := k5) (newId := newId) (TL.hasType FB.hasBase) ?_))
  refine wpAny_bind (wpAny_mono (Q := fun v s₁ => ∃ e t, v = .ref e ∧ H e = none ∧ St c (env :: outer) (upd H e (.exc (.ref C) none none)) s₁ ∧ s₁.heap.get? e = some { cls := .ref C, data := .fields #[.ref t, .none, .none, .none, .bool false, .none] }) (E := E) (wpAny_Call_ofName (nm_global S en ?_ hg hk hx hd)) (fun v s₃ h₃ => wpAny_bind (wpAny_standAt (wpAny_pure ?_))) fun _ _ x => x)
  · unfold callWith
    refine wpAny_bind (wpAny_holding (wpAny_mono (Q := fun a s₂ => a.kw = [] ∧ a.pos.length ≤ sizeLine ∧ St c (env :: outer) H s₂) (E := E) ?_ (fun a s₂ h₂ => wpAny_bind (wpAny_standAt ?_)) fun _ _ x => x))
    · refine Calls.evalArgs_plain (spliced_more (const_str S fun t s' S' => spliced_none ?_))
      exact ⟨rfl, by show 1 ≤ sizeLine; rw [sizeLine_eq]; decide, S'⟩
    · obtain ⟨apos, akw⟩ := a
      obtain ⟨hkw, hlen, S2⟩ := h₂
      obtain rfl : akw = [] := hkw
      have hC2 := S2.base _ _ hC
      have hN2 := hN.keeps S2.base
      have TL2 := TL.keeps S2.base
      obtain ⟨hp, g, dw, tk, os⟩ := s₂
      simp only [show (backTo cpos (starEach [Expr.Constant (.str m) kk pm] env)).any (·.1) = false from rfl]
      refine wpAny_bind (wpAny_keeperOf_exc hC2 ?_)
      refine wpAny_bind (wpAny_call_exc_subT (hrest := hlen) FB TL2 hC2 hN2 hni fun h' e hm => wpAny_bind (wpAny_holding (wpAny_point (wpAny_pure ?_))))
      obtain ⟨t, ht, _, _⟩ := hm.there
      have he : H e = none := S2.freshG hm.new
      exact ⟨e, t, rfl, he, S2.newG (t := tk) hm.keeps hm.new (by intro i; cases i) (by intro i; cases i) ⟨_, _, ht, rfl, rfl, rfl, rfl⟩ (S2.sizeKeep hm.keeps), ht⟩
  · obtain ⟨e, t, rfl, he, S3, hg3⟩ := h₃
    exact ⟨e, t, rfl, S3.base _ _ hC, hg3, raise_ d he S3 fun ctx s' hc S' => k e ctx s' he hc S'⟩
end
end Mine
end
section
open PySem PySem.W PyProof.Rows PySem.Calls
set_option linter.unusedVariables false
set_option Elab.async false
namespace Mine
section
variable {prog : Program} {w : World} {K : Frag} {c : Cx prog w K} {envs outer : List Env} {env : Env} {H G : AH} {A : Around} {E : Value → Shared → Prop} {s : Shared}
section
variable {a b : Int} {t u : Tok} {Q : Value → Shared → Prop}
theorem s_fdiv (S : St c envs H s) (h0 : 0 < b) (h1 : b < 1073741824) (h : ∀ t s', St c envs H s' → Q (.int (a / b) t) s') : wpAny (model prog w) A (binaryOp .FloorDiv (.int a t) (.int b u)) Q E s := by
  refine floordiv_int (by omega) ?_ (Or.inl (PyProof.noPylong_small (by omega)))
  rw [Int.fdiv_eq_ediv_of_nonneg _ (by omega)]
  exact h _ _ (S.tok _)
theorem s_mod (S : St c envs H s) (h0 : 0 < b) (h : ∀ t s', St c envs H s' → Q (.int (a % b) t) s') : wpAny (model prog w) A (binaryOp .Mod (.int a t) (.int b u)) Q E s := by
  refine mod_int' (by omega) ?_
  rw [Int.fmod_eq_emod_of_nonneg _ (by omega)]
  exact h _ _ (S.tok _)
theorem bits64 {x : Int} (h : x.natAbs < 1073741824) : Builtin.Int.intBits x ≤ 64 := by
  unfold Builtin.Int.intBits
  split
  · decide
  · rename_i q
    have h0 : x.natAbs ≠ 0 := by simpa using q
    have h30 : x.natAbs.log2 < 30 := (Nat.log2_lt h0).mpr h
    omega
theorem s_mul (S : St c envs H s) (h0 : a.natAbs < 1073741824 ∨ b.natAbs < 1073741824) (h : ∀ t s', St c envs H s' → Q (.int (a * b) t) s') : wpAny (model prog w) A (binaryOp .Mult (.int a t) (.int b u)) Q E s :=
  mul_int (h _ _ (S.tok _)) (h0.elim (fun z => .of_left (bits64 z)) fun z => .of_right (bits64 z))
theorem s_pow (S : St c envs H s) (ha : a = 2) (h0 : 0 ≤ b) (h1 : b < 1000) (h : ∀ t s', St c envs H s' → Q (.int (a ^ b.toNat) t) s') : wpAny (model prog w) A (binaryOp .Pow (.int a t) (.int b u)) Q E s := by
  subst ha
  refine pow_int h0 ?_ (h _ _ (S.tok _))
  have : Builtin.Int.intBits 2 = 2 := by decide +kernel
  rw [this]; omega
end
noncomputable def NewL (P : Value → Shared → Prop) (vs : List Value) (s : Shared) : Prop := vs.length ≤ sizeLine ∧ P (.ref s.heap.objs.size) { s with heap := s.heap.push { cls := .type "list", data := .seq vs.toArray } }
noncomputable def NewT (P : Value → Shared → Prop) (vs : List Value) (s : Shared) : Prop := vs.length ≤ sizeLine ∧ P (.ref s.heap.objs.size) { s with heap := s.heap.push { cls := .type "tuple", data := .seq vs.toArray } }
theorem list_disp {elts : List Expr} {pos : Pos} {Q : Value → Shared → Prop} (h : wpAny (model prog w) A (spliced (backTo pos (starEach elts env))) (fun vs s₁ => NewL Q vs s₁) E s) : wpAny (model prog w) A (eval (.List elts pos) env) Q E s := wpAny_List_spliced h
theorem tup_disp {elts : List Expr} {x1} {pos : Pos} {Q : Value → Shared → Prop} (h : wpAny (model prog w) A (spliced (backTo pos (starEach elts env))) (fun vs s₁ => NewT Q vs s₁) E s) : wpAny (model prog w) A (eval (.Tuple elts x1 pos) env) Q E s := wpAny_Tuple_spliced h
theorem newL {vs : List Value} {P : Value → Shared → Prop} (S : St c envs H s) (hz : vs.length ≤ 1000) (k : ∀ (a : Nat) s', H a = none → St c envs (upd H a (.list (vs.map er))) s' → P (.ref a) s') : NewL P vs s :=
  ⟨by rw [sizeLine_eq]; omega, k _ _ (S.fresh (Nat.le_refl _)) (S.new (t := s.toks) (fun b x q => Heap.get?_push_of_some _ q) (Nat.le_refl _) (by intro i; cases i) ⟨_, _, Heap.get?_push_size _ rfl, by simp⟩ (by rw [Heap.size_push]; exact Nat.le_succ _))⟩
theorem newT {vs : List Value} {P : Value → Shared → Prop} (S : St c envs H s) (hz : vs.length ≤ 1000) (k : ∀ (a : Nat) s', H a = none → St c envs (upd H a (.tup (vs.map er))) s' → P (.ref a) s') : NewT P vs s :=
  ⟨by rw [sizeLine_eq]; omega, k _ _ (S.fresh (Nat.le_refl _)) (S.new (t := s.toks) (fun b x q => Heap.get?_push_of_some _ q) (Nat.le_refl _) (by intro i; cases i) ⟨_, _, Heap.get?_push_size _ rfl, by simp⟩ (by rw [Heap.size_push]; exact Nat.le_succ _))⟩
end
noncomputable def join (F G : AH) : AH := fun a => match F a with | some o => some o | none => G a
noncomputable def Dj (F G : AH) : Prop := ∀ (a : Nat) o, G a = some o → F a = none
section
variable {F G : AH} {a : Nat} {o o' : AO}
theorem join_l (h : F a = some o) : join F G a = some o := by unfold join; rw [h]
theorem join_n (h : F a = none) : join F G a = G a := by unfold join; rw [h]
theorem join_r (d : Dj F G) (h : G a = some o) : join F G a = some o := (join_n (d a o h)).trans h
theorem join_none (h : join F G a = none) : F a = none ∧ G a = none := by
  unfold join at h
  cases q : F a with
  | none => rw [q] at h; exact ⟨rfl, h⟩
  | some x => rw [q] at h; cases h
theorem upd_join : upd (join F G) a o = join (upd F a o) G := by
  funext b
  by_cases h : b = a
  · subst h; rw [upd_self, join_l (upd_self ..)]
  · rw [upd_ne h]; unfold join; rw [upd_ne h]
theorem upd_join_r (n : F a = none) : upd (join F G) a o = join F (upd G a o) := by
  funext b
  by_cases h : b = a
  · subst h; rw [upd_self, join_n n, upd_self]
  · rw [upd_ne h]; unfold join; rw [upd_ne h]
theorem Dj.l (d : Dj F G) (n : G a = none) : Dj (upd F a o) G := fun b x q => by
  rw [upd_ne (fun z => by rw [z, n] at q; cases q)]; exact d b x q
theorem Dj.r (d : Dj F G) (n : F a = none) : Dj F (upd G a o) := fun b x q => by
  by_cases h : b = a
  · subst h; exact n
  · rw [upd_ne h] at q; exact d b x q
theorem Dj.has (d : Dj F G) (h : F a = some o) : G a = none := by
  cases q : G a with
  | none => rfl
  | some x => have := d a x q; rw [h] at this; cases this
theorem Dj.sub {N : AH} (d : Dj F G) (h : Sub N F) : Dj N G := fun b x q => by
  cases z : N b with
  | none => rfl
  | some y => obtain ⟨o', e, _⟩ := h b y z; rw [d b x q] at e; cases e
theorem sub_join {N : AH} (d : Dj F G) (h : Sub N F) : Sub (join N G) (join F G) := fun b x q => by
  cases z : N b with
  | none => rw [join_n z] at q; exact ⟨x, join_r d q, .inl rfl⟩
  | some y => rw [join_l z] at q; cases q; obtain ⟨o', e, l⟩ := h b _ z; exact ⟨o', join_l e, l⟩
end
end Mine
end
section
open PySem PySem.W PyProof.Rows PySem.Calls
set_option linter.unusedVariables false
set_option Elab.async false
namespace Mine
structure Pl where
  D : Int → Nat
  CL : Int → Nat
  QL : Int → Nat
noncomputable def pv (P : Pl) : Option Int → Value
  | none => .none
  | some j => .ref (P.D j)
noncomputable abbrev flds (P : Pl) (i : Int) (n : Nd) : List (Str × Value) :=
  [("stream_id", .int i 0), ("_weight", .int n.wt 0), ("children", .ref (P.CL i)), ("parent", pv P n.par), ("child_queue", .ref (P.QL i)), ("active", .bool n.act), ("last_weight", .int n.lw 0), ("_deficit", .int n.df 0)]
noncomputable def Ents (P : Pl) (G : AH) : List Nat → List (Int × Int) → Prop
  | [], [] => True
  | t :: ts, e :: q => G t = some (.tup [.int e.1 0, .ref (P.D e.2)]) ∧ Ents P G ts q
  | _, _ => False
noncomputable def StreamAt (SC : Nat) (P : Pl) (H : AH) (i : Int) : Prop := ∃ fs, H (P.D i) = some (.inst SC fs) ∧ fs.lookup ("stream_id" : Str) = some (.int i 0)
section
variable {SC : Nat} {P : Pl} {G H : AH} {M : Mo}
theorem Ents.len : ∀ {ts : List Nat} {q : List (Int × Int)}, Ents P G ts q → ts.length = q.length
  | [], [], _ => rfl
  | t :: ts, e :: q, h => by simp only [List.length_cons, Ents.len h.2]
  | [], _ :: _, h => h.elim
  | _ :: _, [], h => h.elim
theorem Ents.mono (k : ∀ (a : Nat) xs, G a = some (.tup xs) → H a = some (.tup xs)) : ∀ {ts : List Nat} {q : List (Int × Int)}, Ents P G ts q → Ents P H ts q
  | [], [], _ => trivial
  | t :: ts, e :: q, h => ⟨k _ _ h.1, Ents.mono k h.2⟩
  | [], _ :: _, h => h.elim
  | _ :: _, [], h => h.elim
theorem Ents.append : ∀ {ts ts' : List Nat} {q q' : List (Int × Int)}, Ents P G ts q → Ents P G ts' q' → Ents P G (ts ++ ts') (q ++ q')
  | [], _, [], _, _, h => h
  | t :: ts, _, e :: q, _, h, h' => ⟨h.1, Ents.append h.2 h'⟩
  | [], _, _ :: _, _, h, _ => h.elim
  | _ :: _, _, [], _, h, _ => h.elim
theorem Ents.take : ∀ (p : Nat) {ts : List Nat} {q : List (Int × Int)}, Ents P G ts q → Ents P G (ts.take p) (q.take p)
  | 0, ts, q, _ => by simp [Ents]
  | p + 1, [], [], _ => by simp [Ents]
  | p + 1, t :: ts, e :: q, h => ⟨h.1, Ents.take p h.2⟩
  | p + 1, [], _ :: _, h => h.elim
  | p + 1, _ :: _, [], h => h.elim
theorem Ents.drop : ∀ (p : Nat) {ts : List Nat} {q : List (Int × Int)}, Ents P G ts q → Ents P G (ts.drop p) (q.drop p)
  | 0, ts, q, h => h
  | p + 1, [], [], _ => by simp [Ents]
  | p + 1, t :: ts, e :: q, h => Ents.drop p h.2
  | p + 1, [], _ :: _, h => h.elim
  | p + 1, _ :: _, [], h => h.elim
theorem Ents.put {ts : List Nat} {q : List (Int × Int)} {t : Nat} {e : Int × Int} {p : Nat} (h : Ents P G ts q) (ht : G t = some (.tup [.int e.1 0, .ref (P.D e.2)])) : Ents P G (put p t ts) (put p e q) :=
  (h.take p).append ⟨ht, h.drop p⟩
theorem Ents.get : ∀ {ts : List Nat} {q : List (Int × Int)}, Ents P G ts q → ∀ k (h : k < q.length), ∃ t, ts[k]? = some t ∧ G t = some (.tup [.int q[k].1 0, .ref (P.D q[k].2)])
  | t :: ts, e :: q, h, 0, _ => ⟨t, rfl, h.1⟩
  | t :: ts, e :: q, h, k + 1, hk => Ents.get h.2 k (by simpa using hk)
  | [], _ :: _, h, _, _ => h.elim
  | _, [], h, k, hk => by simp at hk
structure Tree (SC : Nat) (P : Pl) (M : Mo) (G : AH) : Prop where
  inst : ∀ i n, M i = some n → G (P.D i) = some (.inst SC (flds P i n))
  cl : ∀ i n, M i = some n → G (P.CL i) = some (.list (n.kids.map fun j => .ref (P.D j)))
  ql : ∀ i n, M i = some n → ∃ ts : List Nat, G (P.QL i) = some (.list (ts.map .ref)) ∧ Ents P G ts n.q
  cq : ∀ i j n m, M i = some n → M j = some m → P.CL i ≠ P.QL j
  qq : ∀ i j n m, M i = some n → M j = some m → P.QL i = P.QL j → i = j
  cc : ∀ i j n m, M i = some n → M j = some m → P.CL i = P.CL j → i = j
theorem Tree.dd (t : Tree SC P M G) {i j : Int} {n m : Nd} (hi : M i = some n) (hj : M j = some m) (h : P.D i = P.D j) : i = j := by
  have a := t.inst i n hi
  have b := t.inst j m hj
  rw [h, b] at a
  simp only [Option.some.injEq, AO.inst.injEq, true_and] at a
  have := congrArg (fun l => List.lookup ("stream_id" : Str) l) a
  simp [flds, List.lookup_cons] at this
  exact this.symm
theorem Tree.fresh (t : Tree SC P M G) {a : Nat} {o : AO} (h : G a = none) : Tree SC P M (upd G a o) :=
  ⟨fun i n hi => upd_other (ne_fresh h (t.inst i n hi)) (t.inst i n hi), fun i n hi => upd_other (ne_fresh h (t.cl i n hi)) (t.cl i n hi), fun i n hi => by
    obtain ⟨ts, h1, h2⟩ := t.ql i n hi
    exact ⟨ts, upd_other (ne_fresh h h1) h1, h2.mono fun b xs q => upd_other (ne_fresh h q) q⟩, t.cq, t.qq, t.cc⟩
theorem Tree.set (t : Tree SC P M G) {i : Int} {n n' : Nd} (hi : M i = some n) (hk : n'.kids = n.kids) (hq : n'.q = n.q) : Tree SC P (M.put i n') (upd G (P.D i) (.inst SC (flds P i n'))) := by
  have e := t.inst i n hi
  have ex : ∀ j m, M.put i n' j = some m → ∃ m0, M j = some m0 ∧ m0.kids = m.kids ∧ m0.q = m.q := fun j m h => by
    by_cases q : j = i
    · subst q; rw [Mo.put_self] at h; cases h; exact ⟨n, hi, hk.symm, hq.symm⟩
    · rw [Mo.put_ne q] at h; exact ⟨m, h, rfl, rfl⟩
  refine ⟨fun j m h => ?_, fun j m h => ?_, fun j m h => ?_, fun j l a b h1 h2 => ?_, fun j l a b h1 h2 => ?_, fun j l a b h1 h2 => ?_⟩
  · by_cases q : j = i
    · subst q; rw [Mo.put_self] at h; cases h; exact upd_self ..
    · rw [Mo.put_ne q] at h
      exact upd_other (fun z => q (t.dd h hi z)) (t.inst j m h)
  · obtain ⟨m0, h0, k0, _⟩ := ex j m h
    have := t.cl j m0 h0
    rw [← k0]
    exact upd_other (fun z => by rw [z, e] at this; cases this) this
  · obtain ⟨m0, h0, _, k0⟩ := ex j m h
    obtain ⟨ts, h1, h2⟩ := t.ql j m0 h0
    rw [← k0]
    exact ⟨ts, upd_other (fun z => by rw [z, e] at h1; cases h1) h1, h2.mono fun b xs q => upd_other (fun z => by rw [z, e] at q; cases q) q⟩
  · obtain ⟨_, h1, _⟩ := ex j a h1; obtain ⟨_, h2, _⟩ := ex l b h2; exact t.cq _ _ _ _ h1 h2
  · obtain ⟨_, h1, _⟩ := ex j a h1; obtain ⟨_, h2, _⟩ := ex l b h2; exact t.qq _ _ _ _ h1 h2
  · obtain ⟨_, h1, _⟩ := ex j a h1; obtain ⟨_, h2, _⟩ := ex l b h2; exact t.cc _ _ _ _ h1 h2
theorem Tree.setq (t : Tree SC P M G) {i : Int} {n : Nd} {ts : List Nat} {q : List (Int × Int)} (hi : M i = some n) (he : Ents P G ts q) : Tree SC P (M.put i { n with q := q }) (upd G (P.QL i) (.list (ts.map .ref))) := by
  obtain ⟨ts0, e, _⟩ := t.ql i n hi
  have ex : ∀ j m, M.put i { n with q := q } j = some m → ∃ m0, M j = some m0 ∧ m0.kids = m.kids ∧ flds P j m0 = flds P j m ∧ (j ≠ i → m0.q = m.q) := fun j m h => by
    by_cases q : j = i
    · subst q; rw [Mo.put_self] at h; cases h; exact ⟨n, hi, rfl, rfl, fun z => absurd rfl z⟩
    · rw [Mo.put_ne q] at h; exact ⟨m, h, rfl, rfl, fun _ => rfl⟩
  have tk : ∀ (b : Nat) xs, G b = some (.tup xs) → upd G (P.QL i) (.list (ts.map .ref)) b = some (.tup xs) := fun b xs z => upd_other (fun y => by rw [y, e] at z; cases z) z
  refine ⟨fun j m h => ?_, fun j m h => ?_, fun j m h => ?_, fun j l a b h1 h2 => ?_, fun j l a b h1 h2 => ?_, fun j l a b h1 h2 => ?_⟩
  · obtain ⟨m0, h0, k0, f0, _⟩ := ex j m h
    have := t.inst j m0 h0
    rw [f0] at this
    exact upd_other (fun z => by rw [z, e] at this; cases this) this
  · obtain ⟨m0, h0, k0, _⟩ := ex j m h
    have := t.cl j m0 h0
    rw [← k0]
    exact upd_other (t.cq j i _ _ h0 hi) this
  · obtain ⟨m0, h0, _, _, k0⟩ := ex j m h
    by_cases z : j = i
    · subst z; rw [Mo.put_self] at h; cases h
      exact ⟨ts, upd_self .., he.mono tk⟩
    · rw [← k0 z]
      obtain ⟨ts1, h1, h2⟩ := t.ql j m0 h0
      exact ⟨ts1, upd_other (fun y => z (t.qq _ _ _ _ h0 hi y)) h1, h2.mono tk⟩
  · obtain ⟨_, h1, _⟩ := ex j a h1; obtain ⟨_, h2, _⟩ := ex l b h2; exact t.cq _ _ _ _ h1 h2
  · obtain ⟨_, h1, _⟩ := ex j a h1; obtain ⟨_, h2, _⟩ := ex l b h2; exact t.qq _ _ _ _ h1 h2
  · obtain ⟨_, h1, _⟩ := ex j a h1; obtain ⟨_, h2, _⟩ := ex l b h2; exact t.cc _ _ _ _ h1 h2
noncomputable def Tups (G G' : AH) : Prop := ∀ (a : Nat) xs, G a = some (.tup xs) → G' a = some (.tup xs)
theorem Tups.refl (G : AH) : Tups G G := fun _ _ h => h
theorem Tups.trans {G G' G'' : AH} (a : Tups G G') (b : Tups G' G'') : Tups G G'' := fun x xs h => b x xs (a x xs h)
theorem Tups.upd {G G' : AH} {a : Nat} {o o' : AO} (t : Tups G G') (h : G' a = some o) (n : ∀ xs, o ≠ .tup xs) : Tups G (upd G' a o') := fun x xs q => by
  have := t x xs q
  exact upd_other (fun z => by rw [z, h] at this; cases this; exact n _ rfl) this
theorem Tups.fresh {G G' : AH} {a : Nat} {o' : AO} (t : Tups G G') (h : G' a = none) : Tups G (Mine.upd G' a o') := fun x xs q => by
  have := t x xs q
  exact upd_other (ne_fresh h this) this
end
end Mine
end
section
open PySem PySem.W PyProof.Rows PySem.Calls
set_option linter.unusedVariables false
set_option Elab.async false
namespace Mine
section
variable {prog : Program} {w : World} {K : Frag} {c : Cx prog w K} {envs outer : List Env} {env : Env} {H G : AH} {A : Around} {E : Value → Shared → Prop} {s : Shared}
theorem at_prop {a : Nat} {C : Addr} {fs : List (Str × Value)} {name : Str} {expr : Bool} {p fget : Addr} {rest : List Value} {Q : Value → Shared → Prop} (S : St c envs H s) (e : H a = some (.inst C fs))
    (hg : plainGet K C name = true) (hh : hasDictIn K C = true) (ha : findIn K (.ref C) name = some (some (.ref p))) (hn : specialIn K (.ref p) "__get__" = some (some (.builtin "property.__get__"))) (ht : takesIn K (.ref p) = some true) (hp : recIn K p "property" = some (.ref fget :: rest))
    (h : ∀ s', St c envs H s' → codeAny (model prog w) A.in1 (.call (.ref fget) ⟨[.ref a], []⟩) (fun r s' => match r with | .ok (.ret v) => wpAny (model prog w) A (handedOut v) Q E s' | .ok _ => False | .error e => wpAny (model prog w) A (noteIf true (.ref a) (.str name s.toks) e) (fun _ s'' => E e s'') E s') s') :
    wpAny (model prog w) A (getAttr (.ref a) name expr) Q E s := by
  obtain ⟨es, n, I, hd, hz, hk, hm⟩ := S.inst e
  have X := S.inK
  exact get_bind X I (plainGet_of hg).1 (findObj_data (by obtain ⟨cd, hc, _⟩ := any_some hh; rw [hc]; rfl) ha hn ht) (plainGet_of hg).2 (wpAny_call (prop_get (s := { s with toks := s.toks + 1 }) X hp (h _ (S.tok _))))
theorem at_pset {a : Nat} {C : Addr} {fs : List (Str × Value)} {name : Str} {v va : Value} {p fset : Addr} {rest : List Value} {Q : Unit → Shared → Prop} (S : St c envs H s) (e : H a = some (.inst C fs))
    (hs : findIn K (.ref C) "__setattr__" = some (some (.builtin "object.__setattr__"))) (hp : plainOver K C = true) (ht : takerIn K C name = some (some (.ref p))) (hT : typeIn K (.ref p) = some (.type "property")) (hr : recIn K p "property" = some (va :: .ref fset :: rest))
    (h : ∀ s', St c envs H s' → codeAny (model prog w) A.in1.in1 (.call (.ref fset) ⟨[.ref a, v], []⟩) (fun r s' => match r with | .ok (.ret _) => Q () s' | .ok _ => False | .error e => E e s') s') : wpAny (model prog w) A (setAttr (.ref a) name v) Q E s := by
  obtain ⟨es, n, I, hd, hz, hk, hm⟩ := S.inst e
  have X := S.inK
  exact set_plain X I hs (osa_descr (s := { s with toks := s.toks + 1 }) KF.slot_pset X I hp ht hT (prop_set (s := { s with toks := s.toks + 1 }) X hr (codeAny_mono (h _ (S.tok _)) fun r s' z => by rcases r with e | (v | _ | _ | _) <;> first | exact z | exact z.elim)))
end
end Mine
end
section
open PySem PySem.W PyProof.Rows PySem.Calls
set_option linter.unusedVariables false
set_option Elab.async false
namespace Mine
theorem none_up {H : AH} {a b : Nat} {o : AO} (h : upd H a o b = none) : H b = none := by
  by_cases z : b = a
  · subst z; rw [upd_self] at h; cases h
  · rw [upd_ne z] at h; exact h
theorem ne_kind {H : AH} {a b : Nat} {o o' : AO} (h : H a = some o) (k : H b = some o') (n : o ≠ o') : a ≠ b := fun z => by rw [z, k] at h; exact n (Option.some.inj h).symm
noncomputable def Cov (xs : List Nat) (N H : AH) : Prop := ∀ b, b ∉ xs → ∀ o, N b = some o → ∃ o', H b = some o' ∧ o.le o'
section
variable {N H : AH} {xs : List Nat} {a : Nat} {v v' : AO}
theorem Cov.sub (h : Cov [] N H) : Sub N H := fun b o q => h b List.not_mem_nil o q
theorem Cov.n (e : H a = some v') (l : v.le v') (h : Cov (a :: xs) N H) : Cov xs (upd N a v) H := fun b hb o q => by
  by_cases z : b = a
  · subst z; rw [upd_self] at q; cases q; exact ⟨v', e, l⟩
  · rw [upd_ne z] at q; exact h b (fun y => by rcases List.mem_cons.mp y with y | y; exact z y; exact hb y) o q
theorem Cov.refl : Cov xs N N := fun b _ o q => ⟨o, q, .inl rfl⟩
theorem Cov.hm (m : a ∈ xs) (h : Cov xs N H) : Cov xs N (upd H a v) := fun b hb o q => by
  obtain ⟨o', e, l⟩ := h b hb o q
  exact ⟨o', upd_other (fun z => hb (z ▸ m)) e, l⟩
theorem Cov.hn (n : N a = none) (h : Cov xs N H) : Cov xs N (upd H a v) := fun b hb o q => by
  obtain ⟨o', e, l⟩ := h b hb o q
  exact ⟨o', upd_other (fun z => by rw [z, n] at q; cases q) e, l⟩
theorem Cov.hs (n : N a = some v') (l : v'.le v) (h : Cov xs N H) : Cov xs N (upd H a v) := fun b hb o q => by
  by_cases z : b = a
  · subst z; rw [n] at q; cases q; exact ⟨v, upd_self .., l⟩
  · obtain ⟨o', e, l⟩ := h b hb o q
    exact ⟨o', upd_other z e, l⟩
end
section
variable {prog : Program} {w : World} {K : Frag} {c : Cx prog w K} {envs outer : List Env} {env : Env} {H G : AH} {A : Around} {E : Value → Shared → Prop} {s : Shared}
theorem with_fin {body orelse fb : List Stmt} {hs : List ExceptHandler} {pos : Pos} {Q : Flow → Shared → Prop} (Pre : Around → (Flow → Shared → Prop) → Shared → Prop)
    (fin : ∀ A' E' Q' s', Pre A' Q' s' → wpAny (model prog w) A' (execs fb env) Q' E' s')
    (main : (∀ A' E' Q' s', Pre A' Q' s' → wpAny (model prog w) A' (execs fb env) Q' E' s') → wpAny (model prog w) A (exec (.Try body hs orelse fb pos) env) Q E s) : wpAny (model prog w) A (exec (.Try body hs orelse fb pos) env) Q E s := main fin
theorem unpack2 {a b : Str} {pa pb pos : Pos} {x1} {t : Nat} {x y : Value} {Q : Unit → Shared → Prop} (S : St c envs H s) (ht : H t = some (.tup [x, y])) (d : Hd A H)
    (k : ∀ v1 v2 s', er v1 = x → er v2 = y → St c envs H s' → wpAny (model prog w) A (assign (.Name a pa) env v1) (fun _ s2 => wpAny (model prog w) A (assign (.Name b pb) env v2) Q E s2) E s') :
    wpAny (model prog w) A (assign (.Tuple [.Name a pa, .Name b pb] x1 pos) env (.ref t)) Q E s := by
  refine unpack_tup S ht d rfl rfl fun vs s' hm S' => ?_
  obtain ⟨v1, r1, rfl, h1, hm⟩ := List.map_eq_cons_iff.mp hm
  obtain ⟨v2, r2, rfl, h2, hm⟩ := List.map_eq_cons_iff.mp hm
  cases List.map_eq_nil_iff.mp hm
  · show wpAny _ _ (do holding [v2] (assign (.Name a pa) env v1); holding [] (assign (.Name b pb) env v2); pure ()) Q E s'
    refine wpAny_bind (wpAny_holding (wpAny_mono (k v1 v2 s' h1 h2 S') (fun _ s2 h2 => wpAny_bind (wpAny_holding (wpAny_mono h2 (fun _ s3 h3 => wpAny_pure h3) fun _ _ x => x))) fun _ _ x => x))
theorem for_list_h {target : Expr} {body orelse : List Stmt} {l : Nat} {R : Result → Shared → Prop} (xs : List Value) (I : Nat → AH → Prop) (S : St c envs H s) (hI : I 0 H)
    (hl : ∀ i G, I i G → G l = some (.list xs)) (hd : ∀ i G, I i G → Hd A G)
    (turn : ∀ (it i : Nat) G s' v x, I i G → G it = none → G l = some (.list xs) → xs[i]? = some x → er v = x → St c envs (upd G it (.iter l (i + 1))) s' → ∀ (QB : Flow → Shared → Prop) (EB : Value → Shared → Prop), (∀ s₃, LoopAt c envs I it l (i + 1) s₃ → QB .next s₃) →
      wpAny (model prog w) A (assign target env v) (fun _ s₂ => wpAny (model prog w) A (execs body env) QB EB s₂) EB s')
    (fin : ∀ G s', I xs.length G → St c envs G s' → ∀ (QB : Flow → Shared → Prop) (EB : Value → Shared → Prop), (∀ f s₃, R (.ok f) s₃ → QB f s₃) → wpAny (model prog w) A (execs orelse env) QB EB s') :
    wpAny (model prog w) A (pyIter (.ref l)) (fun it s₂ => codeAny (model prog w) A (.forLoop target it body orelse env) R s₂) E s :=
  for_list xs I S hI hl hd (fun it i G s' v x a b d e f g => turn it i G s' v x a b d e f g _ _ fun _ z => z) (fun G s' a b => fin G s' a b _ _ fun _ _ z => z)
end
end Mine
end
section
open PySem PySem.W PyProof.Rows PySem.Calls
set_option linter.unusedVariables false
set_option Elab.async false
namespace Mine
theorem loc_callEnv {fd : FuncData} {L f : Addr} : (callEnv fd L f).locals = L := rfl
theorem Frs.join {envs : List Env} {F G : AH} (f : Frs envs F) : Frs envs (Mine.join F G) := fun env m => by
  obtain ⟨k, L, l, h1, h2⟩ := f env m
  exact ⟨k, L, l, h1, join_l h2⟩
theorem Frs.cons {envs : List Env} {env : Env} {H : AH} {L : Nat} {l : List (Str × Value)} (f : Frs envs H) (e : H L = some (.ns l)) (hf : env.frame = some L) (k : env.scope.kind ≠ .module) : Frs (env :: envs) H := fun x m => by
  rcases List.mem_cons.mp m with rfl | m
  · exact ⟨k, L, l, hf, e⟩
  · exact f x m
theorem fn_re {F : AH} {a b : Nat} {x y x' y' : AO} (h : a ≠ b) : upd (upd (upd (upd F a x) b y) a x') b y' = upd (upd F a x') b y' := by
  funext c; simp only [upd]; split <;> (try rfl) <;> split <;> (try rfl) <;> simp_all
theorem idx_exc : isSubtype (.type "IndexError") (.type "BaseException") = pure true := by rw [isSubtype_type]; kernel_rfl
theorem idx_nt : isSubtype (.type ((Manifest.find? "IndexError").elim "type" fun y => y.metatype)) (.type "tuple") = pure false := by rw [isSubtype_type]; kernel_rfl
theorem idx_sub : isSubtype (.type "IndexError") (.type "IndexError") = pure true := by rw [isSubtype_type]; kernel_rfl
theorem none_ne {H : AH} {a b : Nat} {o : AO} (h : upd H a o b = none) : b ≠ a := fun z => by subst z; rw [upd_self] at h; cases h
theorem St.env {prog : Program} {w : World} {K : Frag} {c : Cx prog w K} {ev : List Env} {H : AH} {s : Shared} (S : St c ev H s) : ∃ e, e = ev ∧ St c e H s := ⟨_, rfl, S⟩
section
variable {SC : Nat} {P : Pl} {G H : AH} {M : Mo} {a : Nat} {o o' : AO}
theorem Ents.turn {ts : List Nat} {q : List (Int × Int)} (h : Ents P H ts q) (e : H a = some o) (n : ∀ xs, o ≠ .tup xs) : Ents P (upd H a o') ts q :=
  h.mono fun b xs z => upd_other (fun y => by rw [y, e] at z; cases z; exact n _ rfl) z
theorem Ents.fresh {ts : List Nat} {q : List (Int × Int)} (h : Ents P H ts q) (e : H a = none) : Ents P (upd H a o') ts q :=
  h.mono fun b xs z => upd_other (ne_fresh e z) z
theorem StreamAt.turn {i : Int} (h : StreamAt SC P H i) (e : H a = some o) (n : o.isInst = false) : StreamAt SC P (upd H a o') i :=
  let ⟨fs, h1, h2⟩ := h; ⟨fs, upd_other (fun y => by rw [y, e] at h1; cases h1; cases n) h1, h2⟩
theorem StreamAt.fresh {i : Int} (h : StreamAt SC P H i) (e : H a = none) : StreamAt SC P (upd H a o') i :=
  let ⟨fs, h1, h2⟩ := h; ⟨fs, upd_other (ne_fresh e h1) h1, h2⟩
theorem StreamAt.inst {i : Int} {fs fs' : List (Str × Value)} (h : StreamAt SC P H i) (e : H a = some (.inst SC fs)) (l : fs'.lookup ("stream_id" : Str) = fs.lookup ("stream_id" : Str)) : StreamAt SC P (upd H a (.inst SC fs')) i := by
  obtain ⟨f, h1, h2⟩ := h
  by_cases z : P.D i = a
  · rw [z] at h1; rw [h1] at e; cases e
    exact ⟨fs', by rw [z]; exact upd_self .., l.trans h2⟩
  · exact ⟨f, upd_other z h1, h2⟩
end
section
variable {rk : Int → Nat} {M : Mo} {i : Int} {d n : Nd} {pp : List (Int × Int)}
theorem fin_take {e : Int × Int} {j : Nat} (h : pp[j]? = some e) : fin i (pp.take (j + 1)) M = fstep i (fin i (pp.take j) M) e := by
  have hj : j < pp.length := (List.getElem?_eq_some_iff.mp h).1
  have he : pp[j] = e := (List.getElem?_eq_some_iff.mp h).2
  rw [List.take_succ_eq_append_getElem hj, he]
  unfold fin
  rw [List.foldl_append]; rfl
theorem fin_self : ∀ (pp : List (Int × Int)) {M : Mo} {d : Nd} (o : OkM rk M) (hi : M i = some d) (hp : ∀ e ∈ pp, (∃ m, M e.2 = some m) ∧ rk e.2 < rk i) (hz : d.q.length + pp.length ≤ 1000), ∃ d', fin i pp M i = some d' ∧ d'.q.length = d.q.length + pp.length
  | [], M, d, o, hi, hp, hz => ⟨d, hi, rfl⟩
  | e :: pp, M, d, o, hi, hp, hz => by
    obtain ⟨⟨n, hn⟩, hr⟩ := hp e (.head _)
    simp only [List.length_cons] at hz
    have R := Res.fstep o hi hn hr (by omega)
    obtain ⟨d', hd', hl⟩ := fstep_self hi hn
    obtain ⟨d2, h2, l2⟩ := fin_self pp R.ok hd' (fun x hx => ⟨(hp x (.tail _ hx)).1.elim fun m hm => (R.like.fw _ m hm).elim fun m' h => ⟨m', h.1⟩, (hp x (.tail _ hx)).2⟩) (by omega)
    exact ⟨d2, h2, by rw [l2, hl]; simp only [List.length_cons]; omega⟩
theorem Tree.fstep {SC : Nat} {P : Pl} {G : AH} {t' : Nat} {e : Int × Int} {ts : List Nat} (t : Tree SC P M G) (hi : M i = some d) (he : M e.2 = some n) (hne : e.2 ≠ i) (h' : G t' = none) (hts : G (P.QL i) = some (.list (ts.map .ref))) (hE : Ents P G ts d.q) :
    Tree SC P (fstep i M e) (upd (upd (upd (upd G (P.D i) (.inst SC (flds P i { d with lw := e.1 }))) (P.D e.2) (.inst SC (flds P e.2 { n with df := (256 + n.df) % n.wt }))) t' (.tup [.int (e.1 + (256 + n.df) / n.wt) 0, .ref (P.D e.2)]))
      (P.QL i) (.list ((put (place (klt (e.1 + (256 + n.df) / n.wt, e.2)) d.q) t' ts).map .ref))) := by
  rw [fstep_eq hi he]
  have t1 := t.set (n' := { d with lw := e.1 }) hi rfl rfl
  have he1 : (M.put i { d with lw := e.1 }) e.2 = some n := (Mo.put_ne hne).trans he
  have t2 := t1.set (n' := { n with df := (256 + n.df) % n.wt }) he1 rfl rfl
  have f1 : (upd (upd G (P.D i) (.inst SC (flds P i { d with lw := e.1 }))) (P.D e.2) (.inst SC (flds P e.2 { n with df := (256 + n.df) % n.wt }))) t' = none := by
    rw [upd_ne (fun z => by have := t.inst _ _ he; rw [← z, h'] at this; cases this), upd_ne (fun z => by have := t.inst _ _ hi; rw [← z, h'] at this; cases this)]; exact h'
  have t3 := t2.fresh (o := .tup [.int (e.1 + (256 + n.df) / n.wt) 0, .ref (P.D e.2)]) f1
  have hi3 : ((M.put i { d with lw := e.1 }).put e.2 { n with df := (256 + n.df) % n.wt }) i = some { d with lw := e.1 } := (Mo.put_ne hne.symm).trans (Mo.put_self ..)
  have hE2 : Ents P (upd (upd (upd G (P.D i) (.inst SC (flds P i { d with lw := e.1 }))) (P.D e.2) (.inst SC (flds P e.2 { n with df := (256 + n.df) % n.wt }))) t' (.tup [.int (e.1 + (256 + n.df) / n.wt) 0, .ref (P.D e.2)])) ts d.q := by
    refine Ents.fresh ?_ f1
    refine Ents.turn (Ents.turn hE (t.inst _ _ hi) (by intro xs z; cases z)) (t1.inst _ _ he1) (by intro xs z; cases z)
  have t4 := t3.setq hi3 (hE2.put (t := t') (e := (e.1 + (256 + n.df) / n.wt, e.2)) (p := place (klt (e.1 + (256 + n.df) / n.wt, e.2)) d.q) (upd_self ..))
  have hM : (((M.put i { d with lw := e.1 }).put e.2 { n with df := (256 + n.df) % n.wt }).put i { d with lw := e.1, q := put (place (klt (e.1 + (256 + n.df) / n.wt, e.2)) d.q) (e.1 + (256 + n.df) / n.wt, e.2) d.q }) =
      ((M.put e.2 { n with df := (256 + n.df) % n.wt }).put i { d with lw := e.1, q := ins (e.1 + (256 + n.df) / n.wt, e.2) d.q }) := by
    funext j
    simp only [Mo.put, ins]
    split
    · rfl
    · split <;> rfl
  rw [← hM]; exact t4
end
end Mine
end
section
open PySem PySem.W PyProof.Rows PySem.Calls
set_option linter.unusedVariables false
set_option Elab.async false
namespace Mine
noncomputable abbrev pfl (P : Pl) (dd : Nat) : List (Str × Value) := [("_root_stream", .ref (P.D 0)), ("_streams", .ref dd), ("_maximum_streams", .int 1000 0)]
structure PT (SC PC : Nat) (P : Pl) (M : Mo) (ks : List Int) (pt dd : Nat) (Gt : AH) : Prop where
  tree : Tree SC P M Gt
  pn : Gt pt = none
  dn : Gt dd = none
  ne : pt ≠ dd
  nd : ks.Nodup
  ks : ∀ i, i ∈ ks ↔ ∃ n, M i = some n
noncomputable def pdict (P : Pl) (ks : List Int) : List (Int × Value) := ks.map fun i => (i, .ref (P.D i))
noncomputable def PTree (SC PC : Nat) (M : Mo) (ks : List Int) (pt : Nat) (G : AH) : Prop :=
  ∃ P dd Gt, PT SC PC P M ks pt dd Gt ∧ G = upd (upd Gt pt (.inst PC (pfl P dd))) dd (.imap (pdict P ks))
theorem PTree.split {SC PC : Nat} {M : Mo} {ks : List Int} {pt : Nat} {F G : AH} (t : PTree SC PC M ks pt G) (dj : Dj F G) :
    ∃ P dd Gt, PT SC PC P M ks pt dd Gt ∧ F pt = none ∧ F dd = none ∧ Dj F Gt ∧ Dj (upd (upd F pt (.inst PC (pfl P dd))) dd (.imap (pdict P ks))) Gt ∧ join F G = join (upd (upd F pt (.inst PC (pfl P dd))) dd (.imap (pdict P ks))) Gt := by
  obtain ⟨P, dd, Gt, p, rfl⟩ := t
  have f2 : F dd = none := dj _ _ (upd_self ..)
  have f1 : F pt = none := dj _ _ (upd_other p.ne (upd_self ..))
  have d0 : Dj F Gt := fun a o q => dj a o (upd_other (fun z => by rw [z, p.dn] at q; cases q) (upd_other (fun z => by rw [z, p.pn] at q; cases q) q))
  refine ⟨P, dd, Gt, p, f1, f2, d0, (d0.l p.pn).l p.dn, ?_⟩
  rw [← upd_join_r f2, ← upd_join_r f1, upd_join, upd_join]
theorem PTree.back {SC PC : Nat} {P : Pl} {M M' : Mo} {ks : List Int} {pt dd : Nat} {F Gt Gt' : AH} (p : PT SC PC P M ks pt dd Gt) (f1 : F pt = none) (f2 : F dd = none) (d : Dj (upd (upd F pt (.inst PC (pfl P dd))) dd (.imap (pdict P ks))) Gt') (t : Tree SC P M' Gt') (l : Like M M') :
    PTree SC PC M' ks pt (upd (upd Gt' pt (.inst PC (pfl P dd))) dd (.imap (pdict P ks))) ∧ Dj F (upd (upd Gt' pt (.inst PC (pfl P dd))) dd (.imap (pdict P ks))) ∧
    join (upd (upd F pt (.inst PC (pfl P dd))) dd (.imap (pdict P ks))) Gt' = join F (upd (upd Gt' pt (.inst PC (pfl P dd))) dd (.imap (pdict P ks))) := by
  have pn : Gt' pt = none := d.has (upd_other p.ne (upd_self ..))
  have dn : Gt' dd = none := d.has (upd_self ..)
  refine ⟨⟨P, dd, Gt', ⟨t, pn, dn, p.ne, p.nd, fun i => (p.ks i).trans ⟨fun ⟨n, h⟩ => (l.fw i n h).elim fun n' h' => ⟨n', h'.1⟩, fun ⟨n, h⟩ => l.bw i n h⟩⟩, rfl⟩, ?_, ?_⟩
  · have d0 : Dj F Gt' := d.sub (((Sub.refl F).fresh f1).fresh f2)
    exact (d0.r f1).r f2
  · rw [← upd_join_r f2, ← upd_join_r f1, upd_join, upd_join]
end Mine
end
section
open PySem PySem.W PyProof.Rows PySem.Calls
set_option linter.unusedVariables false
set_option Elab.async false
namespace Mine
section
variable {prog : Program} {w : World} {K : Frag} {c : Cx prog w K} {envs outer : List Env} {env : Env} {H G : AH} {A : Around} {E : Value → Shared → Prop} {s : Shared}
theorem Rm.under {A : Around} {d u : Nat} {C : Addr} {vals : List Value} {kw : List (Str × Value)} (R : Rm A (d + 1) (u + 1)) : Rm (A.under (.builtin "type.__call__" ⟨.ref C :: vals, kw⟩)) d u :=
  ⟨by have := R.depth; rw [show (A.under (.builtin "type.__call__" ⟨.ref C :: vals, kw⟩)).depth = A.depth + 1 from rfl]; omega,
   by have := R.units; rw [show (A.under (.builtin "type.__call__" ⟨.ref C :: vals, kw⟩)).units = A.units + 1 from by show A.units + _ = _; congr 1]; omega⟩
theorem make_ {C fI : Addr} {rest : List Value} {kw : List (Str × Value)} {R : Result → Shared → Prop} (S : St c envs H s) (hm : makesIn K C = true) (hi : findIn K (.ref C) "__init__" = some (some (.ref fI))) (hf : isFn K (.ref fI) = true)
    (h : ∀ (x : Nat) s', H x = none → St c envs (upd H x (.inst C [])) s' → codeAny (model prog w) (A.under (.builtin "type.__call__" ⟨.ref C :: rest, kw⟩)) (.call (.ref fI) ⟨.ref x :: rest, kw⟩) (InitBack x R) s') :
    codeAny (model prog w) A (.call (.ref C) ⟨rest, kw⟩) R s := by
  have X := S.inK
  have hx : H (s.heap.objs.size + 1) = none := S.fresh (by omega)
  have k : ∀ b o, s.heap.get? b = some o → ((s.heap.push emptyDict).push (instObj C s.heap.objs.size)).get? b = some o := fun b o e => Heap.get?_push_of_some _ (Heap.get?_push_of_some _ e)
  have S1 := S.new (a := s.heap.objs.size + 1) (o := .inst C []) (t := s.toks) (h' := (s.heap.push emptyDict).push (instObj C s.heap.objs.size)) k (by omega) (fun _ => by omega)
    ⟨by omega, by
      have : ((s.heap.push emptyDict).push (instObj C s.heap.objs.size)).get? (s.heap.objs.size + 1) = some (instObj C s.heap.objs.size) := by heap_get
      exact this, [], 0, by
      have : ((s.heap.push emptyDict).push (instObj C s.heap.objs.size)).get? s.heap.objs.size = some emptyDict := by heap_get
      exact this, Nat.le_refl _, (fun e he => by cases he), fun x => rfl⟩ (by simp only [Heap.size_push]; omega)
  have h2 := h _ _ hx S1
  obtain ⟨hh, g, dw, tk, os⟩ := s
  exact make_core (makes_of X hm) (looks_findIn X hi) (fun self => bind_fn X self (beq_iff_eq.mp hf)) (.inl rfl) h2
end
end Mine
end
section
open PySem PySem.W PyProof.Rows PySem.Calls
set_option linter.unusedVariables false
set_option Elab.async false
namespace Mine
section
variable {SC : Nat} {P : Pl} {G H : AH} {M : Mo} {rk : Int → Nat}
noncomputable abbrev nfl (i w : Int) (cl ql : Nat) : List (Str × Value) := [("stream_id", .int i 0), ("_weight", .int w 0), ("children", .ref cl), ("parent", .none), ("child_queue", .ref ql), ("active", .bool true), ("last_weight", .int 0 0), ("_deficit", .int 0 0)]
noncomputable def Pl.at (P : Pl) (i : Int) (x cl ql : Nat) : Pl := ⟨fun j => if j = i then x else P.D j, fun j => if j = i then cl else P.CL j, fun j => if j = i then ql else P.QL j⟩
theorem Ents.pl {P P' : Pl} : ∀ {ts : List Nat} {q : List (Int × Int)}, (∀ e ∈ q, P'.D e.2 = P.D e.2) → Ents P G ts q → Ents P' G ts q
  | [], [], _, _ => trivial
  | t :: ts, e :: q, k, h => ⟨by rw [k e (.head _)]; exact h.1, Ents.pl (fun x hx => k x (.tail _ hx)) h.2⟩
  | [], _ :: _, _, h => h.elim
  | _ :: _, [], _, h => h.elim
theorem Tree.newNode (t : Tree SC P M G) (c : Clo M) (o : OkM rk M) {i w : Int} {x cl ql : Nat} (hi : M i = none) (hx : G x = none) (hc : G cl = none) (hq : G ql = none) (n1 : x ≠ cl) (n2 : x ≠ ql) (n3 : cl ≠ ql) :
    Tree SC (P.at i x cl ql) (M.put i (newNd w)) (upd (upd (upd G x (.inst SC (nfl i w cl ql))) cl (.list [])) ql (.list [])) := by
  have keep : ∀ (a : Nat) o, G a = some o → upd (upd (upd G x (.inst SC (nfl i w cl ql))) cl (.list [])) ql (.list []) a = some o := fun a o h =>
    upd_other (ne_fresh hq h) (upd_other (ne_fresh hc h) (upd_other (ne_fresh hx h) h))
  have old : ∀ j m, M.put i (newNd w) j = some m → j ≠ i → M j = some m := fun j m h q => by rw [Mo.put_ne q] at h; exact h
  have ne : ∀ j m, M j = some m → j ≠ i := fun j m h z => by rw [z, hi] at h; cases h
  have D1 : ∀ j, j ≠ i → (P.at i x cl ql).D j = P.D j := fun j h => if_neg h
  have C1 : ∀ j, j ≠ i → (P.at i x cl ql).CL j = P.CL j := fun j h => if_neg h
  have Q1 : ∀ j, j ≠ i → (P.at i x cl ql).QL j = P.QL j := fun j h => if_neg h
  have D0 : (P.at i x cl ql).D i = x := if_pos rfl
  have C0 : (P.at i x cl ql).CL i = cl := if_pos rfl
  have Q0 : (P.at i x cl ql).QL i = ql := if_pos rfl
  refine ⟨fun j m h => ?_, fun j m h => ?_, fun j m h => ?_, fun j l a b h1 h2 => ?_, fun j l a b h1 h2 z => ?_, fun j l a b h1 h2 z => ?_⟩
  · by_cases q : j = i
    · subst q; rw [Mo.put_self] at h; cases h
      rw [D0]
      show _ = some (AO.inst SC (flds (P.at j x cl ql) j (newNd w)))
      unfold flds
      rw [C0, Q0]
      exact upd_other n2 (upd_other n1 (upd_self ..))
    · have h0 := old j m h q
      rw [D1 j q]
      have e := keep _ _ (t.inst j m h0)
      unfold flds at e ⊢
      rw [C1 j q, Q1 j q]
      have : pv (P.at i x cl ql) m.par = pv P m.par := by
        cases hp : m.par with
        | none => rfl
        | some p => obtain ⟨y, hy⟩ := c.par j m p h0 hp; show Value.ref _ = Value.ref _; rw [D1 p (ne p y hy)]
      rw [this]; exact e
  · by_cases q : j = i
    · subst q; rw [Mo.put_self] at h; cases h
      rw [C0]; exact upd_other n3 (upd_self ..)
    · have h0 := old j m h q
      rw [C1 j q]
      have e := keep _ _ (t.cl j m h0)
      have : (m.kids.map fun k => Value.ref ((P.at i x cl ql).D k)) = m.kids.map fun k => .ref (P.D k) := List.map_congr_left fun k hk => by
        obtain ⟨y, hy⟩ := c.kids j m h0 k hk; rw [D1 k (ne k y hy)]
      rw [this]; exact e
  · by_cases q : j = i
    · subst q; rw [Mo.put_self] at h; cases h
      rw [Q0]; exact ⟨[], upd_self .., trivial⟩
    · have h0 := old j m h q
      rw [Q1 j q]
      obtain ⟨ts, e1, e2⟩ := t.ql j m h0
      refine ⟨ts, keep _ _ e1, (e2.mono fun a xs z => keep _ _ z).pl fun e he => D1 _ ?_⟩
      obtain ⟨⟨y, hy⟩, _⟩ := (o.ok j m h0).2.2.2.2.2 e he
      exact ne _ y hy
  · by_cases q : j = i
    · subst q; rw [C0]
      by_cases q2 : l = j
      · subst q2; rw [Q0]; exact n3
      · rw [Q1 l q2]; intro z; obtain ⟨ts, e1, _⟩ := t.ql l b (old l b h2 q2); rw [← z, hc] at e1; cases e1
    · rw [C1 j q]
      by_cases q2 : l = i
      · subst q2; rw [Q0]; intro z; have := t.cl j a (old j a h1 q); rw [z, hq] at this; cases this
      · rw [Q1 l q2]; exact t.cq j l a b (old j a h1 q) (old l b h2 q2)
  · by_cases q : j = i
    · by_cases q2 : l = i
      · rw [q, q2]
      · exfalso; rw [q, Q0, Q1 l q2] at z; obtain ⟨ts, e1, _⟩ := t.ql l b (old l b h2 q2); rw [← z, hq] at e1; cases e1
    · by_cases q2 : l = i
      · exfalso; rw [q2, Q0, Q1 j q] at z; obtain ⟨ts, e1, _⟩ := t.ql j a (old j a h1 q); rw [z, hq] at e1; cases e1
      · rw [Q1 j q, Q1 l q2] at z; exact t.qq j l a b (old j a h1 q) (old l b h2 q2) z
  · by_cases q : j = i
    · by_cases q2 : l = i
      · rw [q, q2]
      · exfalso; rw [q, C0, C1 l q2] at z; have := t.cl l b (old l b h2 q2); rw [← z, hc] at this; cases this
    · by_cases q2 : l = i
      · exfalso; rw [q2, C0, C1 j q] at z; have := t.cl j a (old j a h1 q); rw [z, hc] at this; cases this
      · rw [C1 j q, C1 l q2] at z; exact t.cc j l a b (old j a h1 q) (old l b h2 q2) z
end
end Mine
end
section
open PySem PySem.W PyProof.Rows PySem.Calls
set_option linter.unusedVariables false
set_option Elab.async false
namespace Mine
section
variable {SC : Nat} {P : Pl} {G H : AH} {M : Mo} {rk : Int → Nat}
theorem Tree.setkids (t : Tree SC P M G) {i : Int} {n : Nd} {ks : List Int} (hi : M i = some n) : Tree SC P (M.put i { n with kids := ks }) (upd G (P.CL i) (.list (ks.map fun j => .ref (P.D j)))) := by
  have e := t.cl i n hi
  have ex : ∀ j m, M.put i { n with kids := ks } j = some m → ∃ m0, M j = some m0 ∧ m0.q = m.q ∧ flds P j m0 = flds P j m ∧ (j ≠ i → m0.kids = m.kids) := fun j m h => by
    by_cases q : j = i
    · subst q; rw [Mo.put_self] at h; cases h; exact ⟨n, hi, rfl, rfl, fun z => absurd rfl z⟩
    · rw [Mo.put_ne q] at h; exact ⟨m, h, rfl, rfl, fun _ => rfl⟩
  have tk : ∀ (b : Nat) xs, G b = some (.tup xs) → upd G (P.CL i) (.list (ks.map fun j => .ref (P.D j))) b = some (.tup xs) := fun b xs z => upd_other (fun y => by rw [y, e] at z; cases z) z
  refine ⟨fun j m h => ?_, fun j m h => ?_, fun j m h => ?_, fun j l a b h1 h2 => ?_, fun j l a b h1 h2 => ?_, fun j l a b h1 h2 => ?_⟩
  · obtain ⟨m0, h0, k0, f0, _⟩ := ex j m h
    have := t.inst j m0 h0
    rw [f0] at this
    exact upd_other (fun z => by rw [z, e] at this; cases this) this
  · obtain ⟨m0, h0, _, _, k0⟩ := ex j m h
    by_cases z : j = i
    · subst z; rw [Mo.put_self] at h; cases h; exact upd_self ..
    · rw [← k0 z]
      have := t.cl j m0 h0
      exact upd_other (fun y => z (t.cc _ _ _ _ h0 hi y)) this
  · obtain ⟨m0, h0, k0, _⟩ := ex j m h
    obtain ⟨ts1, h1, h2⟩ := t.ql j m0 h0
    rw [← k0]
    exact ⟨ts1, upd_other (Ne.symm (t.cq i j _ _ hi h0)) h1, h2.mono tk⟩
  · obtain ⟨_, h1, _⟩ := ex j a h1; obtain ⟨_, h2, _⟩ := ex l b h2; exact t.cq _ _ _ _ h1 h2
  · obtain ⟨_, h1, _⟩ := ex j a h1; obtain ⟨_, h2, _⟩ := ex l b h2; exact t.qq _ _ _ _ h1 h2
  · obtain ⟨_, h1, _⟩ := ex j a h1; obtain ⟨_, h2, _⟩ := ex l b h2; exact t.cc _ _ _ _ h1 h2
theorem Tree.adopt (t : Tree SC P M G) {i j : Int} {d n : Nd} {t' : Nat} {ts : List Nat} (hi : M i = some d) (hj : M j = some n) (hne : j ≠ i) (h' : G t' = none) (hts : G (P.QL i) = some (.list (ts.map .ref))) (hE : Ents P G ts d.q) :
    Tree SC P (adopt M i j) (upd (upd (upd (upd G (P.D j) (.inst SC (flds P j { n with par := some i }))) (P.CL i) (.list ((d.kids ++ [j]).map fun j => .ref (P.D j)))) t' (.tup [.int d.lw 0, .ref (P.D j)]))
      (P.QL i) (.list ((put (place (klt (d.lw, j)) d.q) t' ts).map .ref))) := by
  rw [adopt_eq hi hj]
  have t1 := t.set (n' := { n with par := some i }) hj rfl rfl
  have hi1 : (M.put j { n with par := some i }) i = some d := (Mo.put_ne (Ne.symm hne)).trans hi
  have t2 := t1.setkids (ks := d.kids ++ [j]) hi1
  have f1 : (upd (upd G (P.D j) (.inst SC (flds P j { n with par := some i }))) (P.CL i) (.list ((d.kids ++ [j]).map fun j => .ref (P.D j)))) t' = none := by
    rw [upd_ne (fun z => by have := t.cl _ _ hi; rw [← z, h'] at this; cases this), upd_ne (fun z => by have := t.inst _ _ hj; rw [← z, h'] at this; cases this)]; exact h'
  have t3 := t2.fresh (o := .tup [.int d.lw 0, .ref (P.D j)]) f1
  have hi3 : ((M.put j { n with par := some i }).put i { d with kids := d.kids ++ [j] }) i = some { d with kids := d.kids ++ [j] } := Mo.put_self ..
  have hE2 : Ents P (upd (upd (upd G (P.D j) (.inst SC (flds P j { n with par := some i }))) (P.CL i) (.list ((d.kids ++ [j]).map fun j => .ref (P.D j)))) t' (.tup [.int d.lw 0, .ref (P.D j)])) ts d.q := by
    refine Ents.fresh ?_ f1
    refine Ents.turn (Ents.turn hE (t.inst _ _ hj) (by intro xs z; cases z)) (t1.cl _ _ hi1) (by intro xs z; cases z)
  have t4 := t3.setq hi3 (hE2.put (t := t') (e := (d.lw, j)) (p := place (klt (d.lw, j)) d.q) (upd_self ..))
  have hM : (((M.put j { n with par := some i }).put i { d with kids := d.kids ++ [j] }).put i { d with kids := d.kids ++ [j], q := put (place (klt (d.lw, j)) d.q) (d.lw, j) d.q }) =
      ((M.put j { n with par := some i }).put i { d with kids := d.kids ++ [j], q := ins (d.lw, j) d.q }) := by
    rw [Mo.put_put]; rfl
  rw [← hM]; exact t4
end
end Mine
end
section
open PySem PySem.W PyProof.Rows PySem.Calls
set_option linter.unusedVariables false
set_option Elab.async false
namespace Mine
theorem IP.pairs {prog : Program} {w : World} : ∀ {es : List DictEntry} {vs : List (Int × Value)}, IP es vs → Pairs (intKind prog w) es vs
  | [], [], _ => .nil
  | e :: es, p :: ps, ⟨⟨t, h1⟩, h2, h3, h4⟩ => .cons (by rw [h1]; show (p.1 == p.1) = true; simp) h3 (IP.pairs h4)
  | [], _ :: _, h => h.elim
  | _ :: _, [], h => h.elim
theorem IP.keys {prog : Program} {w : World} : ∀ {es : List DictEntry} {vs : List (Int × Value)}, IP es vs → ∀ e ∈ es, ∃ k, (intKind prog w).is k e.key = true ∧ e.hash = (intKind prog w).hash k
  | e :: es, p :: ps, ⟨⟨t, h1⟩, h2, h3, h4⟩, x, hx => by
    rcases List.mem_cons.mp hx with rfl | hx
    · exact ⟨p.1, by rw [h1]; show (p.1 == p.1) = true; simp, h2⟩
    · exact IP.keys h4 x hx
  | [], _, _, x, hx => by cases hx
  | _ :: _, [], h, _, _ => h.elim
theorem IP.of {prog : Program} {w : World} {es : List DictEntry} {vs : List (Int × Value)} (h : Pairs (intKind prog w) es vs) (k : ∀ e ∈ es, ∃ k, (intKind prog w).is k e.key = true ∧ e.hash = (intKind prog w).hash k) : IP es vs := by
  induction h with
  | nil => trivial
  | @cons e kv es kvs h1 h2 _ ih =>
    obtain ⟨t, h3⟩ := Value.isInt_shape h1
    obtain ⟨k', h4, h5⟩ := k e (.head _)
    have : k' = kv.1 := Value.isInt_inj _ _ _ h4 h1
    subst this
    exact ⟨⟨t, h3⟩, h5, h2, ih fun e he => k e (.tail _ he)⟩
theorem Real.dictOf (prog : Program) (w : World) {h : Heap} {a : Nat} {kvs : List (Int × Value)} (r : Real h a (.imap kvs)) : ∃ vs, h.DictOf (intKind prog w) a vs ∧ (vs.map fun p => (p.1, er p.2)) = kvs := by
  obtain ⟨es, n, e, vs, h1, h2, h3⟩ := r
  exact ⟨vs, ⟨_, es.toArray, n, e, ⟨rfl, rfl, rfl⟩, rfl, fun x hx => IP.keys h1 x (by simpa using hx), by simpa using IP.pairs h1, h2⟩, h3⟩
theorem Real.ofDict {prog : Program} {w : World} {h : Heap} {a : Nat} {vs : List (Int × Value)} (d : h.DictOf (intKind prog w) a vs) : Real h a (.imap (vs.map fun p => (p.1, er p.2))) := by
  obtain ⟨o, es, ep, ho, ⟨e1, e2, e3⟩, hd, hk, hp, hn⟩ := d
  refine ⟨es.toList, ep, ?_, vs, IP.of hp (fun e he => hk e (by simpa using he)), hn, rfl⟩
  rw [ho]
  obtain ⟨c, dd, dt, sl⟩ := o
  simp only at e1 e2 e3 hd
  subst e1 e2 e3 hd
  simp [dictOf]
noncomputable def kput (k : Int) (v : Value) (l : List (Int × Value)) : List (Int × Value) := if l.any (fun p => p.1 = k) then l.map (fun p => if p.1 = k then (p.1, v) else p) else l ++ [(k, v)]
theorem stored_er (vs : List (Int × Value)) (k : Int) (v : Value) : ((stored vs k v).map fun p => (p.1, er p.2)) = kput k (er v) (vs.map fun p => (p.1, er p.2)) := by
  have ha : ((vs.map fun p => (p.1, er p.2)).any fun p => p.1 = k) = vs.any fun kv => kv.1 = k := by rw [List.any_map]; rfl
  unfold stored kput
  rw [ha]
  split
  · rw [List.map_map, List.map_map]
    refine List.map_congr_left fun p _ => ?_
    simp only [Function.comp]
    split <;> rfl
  · simp
theorem valueAt_er (vs : List (Int × Value)) (k : Int) : (valueAt vs k).map er = (vs.map fun p => (p.1, er p.2)).lookup k := by
  induction vs with
  | nil => rfl
  | cons p r ih =>
    unfold valueAt at ih ⊢
    rw [List.map_cons, List.lookup_cons, List.find?_cons]
    by_cases h : p.1 = k
    · simp [h]
    · have : (k == p.1) = false := by simpa using fun z : k = p.1 => h z.symm
      simp only [h, decide_false, this]
      exact ih
section
variable {prog : Program} {w : World} {K : Frag} {c : Cx prog w K} {envs outer : List Env} {env : Env} {H G : AH} {A : Around} {E : Value → Shared → Prop} {s : Shared} {d : Nat} {k : Int} {t : Tok} {kvs : List (Int × Value)}
theorem not_sys (S : St c envs H s) (e : H d = some (.imap kvs)) : (d == sysModules) = false := by
  have h1 := (S.low d _ e).2.2 rfl
  have h2 := c.top.g.lt
  have h3 : sysModules < mainGlobals := by decide
  have h4 : d ≠ sysModules := by intro z; subst z; exact absurd (Nat.lt_trans h3 h2) (Nat.not_lt.mpr h1)
  simpa using h4
theorem int_is {prog : Program} {w : World} (k : Int) (t : Tok) : (intKind prog w).is k (.int k t) = true := by show (k == k) = true; simp
theorem d_in {Q : Value → Shared → Prop} (S : St c envs H s) (e : H d = some (.imap kvs)) (h : ∀ s', St c envs H s' → Q (.bool (kvs.lookup k).isSome) s') : wpAny (model prog w) A (compareOp .In (.int k t) (.ref d)) Q E s := by
  have ns := not_sys S e
  obtain ⟨vs, hD, rfl⟩ := (S.get e).dictOf prog w
  refine wpAny_in_of (int_is k t) ns hD.mapOf ?_
  have := h _ (S.tok (s.toks + 1))
  rw [← valueAt_er, Option.isSome_map] at this
  exact this
theorem d_get {v : Value} {Q : Value → Shared → Prop} (S : St c envs H s) (e : H d = some (.imap kvs)) (hv : kvs.lookup k = some v) (h : ∀ v' s', er v' = v → St c envs H s' → Q v' s') : wpAny (model prog w) A (getItem (.ref d) (.int k t)) Q E s := by
  obtain ⟨vs, hD, rfl⟩ := (S.get e).dictOf prog w
  rw [← valueAt_er] at hv
  obtain ⟨y, hy, he⟩ := Option.map_eq_some_iff.mp hv
  exact wpAny_getItem_of (int_is k t) hD.mapOf hy (h y _ he (S.tok _))
theorem d_item {value slice : PySem.Expr} {v : Value} {Q : Value → Shared → Prop} (S : St c envs H s) (e : H d = some (.imap kvs)) (hv : kvs.lookup k = some v) (h : ∀ v' s', er v' = v → St c envs H s' → Q v' s')
    (hs : subscripted slice false (.ref d) (.int k t) = operate [.ref d, .int k t] (getItem (.ref d) (.int k t)) := by with_unfolding_all rfl) : wpAny (model prog w) A (subscriptTail value slice (.ref d) (.int k t)) Q E s := by
  obtain ⟨vs, hD, _⟩ := (S.get e).dictOf prog w
  exact tail_any hD.typeIs slot_dict_getitem.lookup (d_get S e hv h) hs
theorem d_set {v : Value} {Q : Unit → Shared → Prop} (S : St c envs H s) (e : H d = some (.imap kvs)) (hz : kvs.length ≤ 1000) (h : ∀ s', St c envs (upd H d (.imap (kput k (er v) kvs))) s' → Q () s') : wpAny (model prog w) A (setItem (.ref d) (.int k t) v) Q E s := by
  obtain ⟨vs, hD, rfl⟩ := (S.get e).dictOf prog w
  refine wpAny_setItem_pairs (int_is k t) hD (fun h' hD' hs => h _ ?_) (by rw [sizeLine_eq]; rw [List.length_map] at hz; omega)
  rw [← stored_er]
  exact S.set e hs (Real.ofDict hD') rfl rfl
theorem d_len {Q : Value → Shared → Prop} (S : St c envs H s) (e : H d = some (.imap kvs)) (hz : kvs.length ≤ 1000) (h : ∀ t s', St c envs H s' → Q (.int kvs.length t) s') : wpAny (model prog w) A (call (.builtin "len") [.ref d]) Q E s := by
  have ns := not_sys S e
  obtain ⟨vs, hD, rfl⟩ := (S.get e).dictOf prog w
  rw [List.length_map] at hz
  refine call_len_dict ns hD (by omega) ?_
  have := h (s.toks + 1) _ (S.tok (s.toks + 1 + 1))
  rw [List.length_map] at this
  exact this
end
end Mine
namespace Mine
theorem pdict_get {P : Pl} {i : Int} : ∀ {ks : List Int}, i ∈ ks → (pdict P ks).lookup i = some (.ref (P.D i))
  | k :: r, h => by
    show List.lookup i ((k, Value.ref (P.D k)) :: pdict P r) = _
    rw [List.lookup_cons]
    by_cases q : i = k
    · subst q; simp
    · have : (i == k) = false := by simpa using q
      rw [this]
      rcases List.mem_cons.mp h with h | h
      · exact absurd h q
      · exact pdict_get h
end Mine
namespace Mine
theorem PTree.back2 {SC PC : Nat} {P : Pl} {M M' : Mo} {ks : List Int} {pt dd : Nat} {F Gt Gt' : AH} (p : PT SC PC P M ks pt dd Gt) (f1 : F pt = none) (f2 : F dd = none) (d : Dj (upd (upd F pt (.inst PC (pfl P dd))) dd (.imap (pdict P ks))) Gt') (t : Tree SC P M' Gt') (l : ∀ i, (∃ n, M i = some n) ↔ ∃ n, M' i = some n) :
    PTree SC PC M' ks pt (upd (upd Gt' pt (.inst PC (pfl P dd))) dd (.imap (pdict P ks))) ∧ Dj F (upd (upd Gt' pt (.inst PC (pfl P dd))) dd (.imap (pdict P ks))) ∧
    join (upd (upd F pt (.inst PC (pfl P dd))) dd (.imap (pdict P ks))) Gt' = join F (upd (upd Gt' pt (.inst PC (pfl P dd))) dd (.imap (pdict P ks))) := by
  have pn : Gt' pt = none := d.has (upd_other p.ne (upd_self ..))
  have dn : Gt' dd = none := d.has (upd_self ..)
  refine ⟨⟨P, dd, Gt', ⟨t, pn, dn, p.ne, p.nd, fun i => (p.ks i).trans (l i)⟩, rfl⟩, ?_, ?_⟩
  · have d0 : Dj F Gt' := d.sub (((Sub.refl F).fresh f1).fresh f2)
    exact (d0.r f1).r f2
  · rw [← upd_join_r f2, ← upd_join_r f1, upd_join, upd_join]
theorem put_ks {M : Mo} {i : Int} {n m : Nd} (h : M i = some n) : ∀ j, (∃ x, M j = some x) ↔ ∃ x, M.put i m j = some x := fun j => by
  by_cases q : j = i
  · subst q; exact ⟨fun _ => ⟨m, Mo.put_self ..⟩, fun _ => ⟨n, h⟩⟩
  · rw [Mo.put_ne q]
end Mine
end
section
open PySem PySem.W PyProof.Rows PySem.Calls
set_option linter.unusedVariables false
set_option Elab.async false
namespace Mine
theorem pdict_none {P : Pl} {i : Int} : ∀ {ks : List Int}, i ∉ ks → (pdict P ks).lookup i = none
  | [], _ => rfl
  | k :: r, h => by
    show List.lookup i ((k, Value.ref (P.D k)) :: pdict P r) = _
    have q : ¬ i = k := fun z => h (z ▸ .head _)
    have : (i == k) = false := by simpa using q
    rw [List.lookup_cons, this]
    exact pdict_none fun z => h (.tail _ z)
theorem pdict_any {P : Pl} {i : Int} {ks : List Int} (h : i ∉ ks) : ((pdict P ks).any fun p => p.1 = i) = false := by
  rw [List.any_eq_false]
  intro p hp
  obtain ⟨k, hk, rfl⟩ := List.mem_map.mp hp
  simpa using fun z : k = i => h (z ▸ hk)
theorem pdict_add {P P' : Pl} {i : Int} {ks : List Int} (h : i ∉ ks) (e : ∀ j ∈ ks, P'.D j = P.D j) : kput i (.ref (P'.D i)) (pdict P ks) = pdict P' (ks ++ [i]) := by
  unfold kput
  rw [pdict_any h]
  unfold pdict
  rw [List.map_append]
  simp only [Bool.false_eq_true, if_false, List.map_cons, List.map_nil]
  congr 1
  exact List.map_congr_left fun j hj => by rw [e j hj]
theorem pdict_len {P : Pl} {ks : List Int} : (pdict P ks).length = ks.length := List.length_map ..
theorem PTree.more {SC PC : Nat} {P P' : Pl} {M M' : Mo} {ks : List Int} {pt dd : Nat} {i : Int} {F Gt Gt' : AH} (p : PT SC PC P M ks pt dd Gt) (f1 : F pt = none) (f2 : F dd = none)
    (d : Dj (upd (upd F pt (.inst PC (pfl P dd))) dd (.imap (pdict P ks))) Gt') (t : Tree SC P' M' Gt') (hi : i ∉ ks) (e : ∀ j ∈ ks, P'.D j = P.D j) (h0 : 0 ∈ ks) (l : ∀ j, (∃ n, M' j = some n) ↔ (j = i ∨ ∃ n, M j = some n)) :
    PTree SC PC M' (ks ++ [i]) pt (upd (upd Gt' pt (.inst PC (pfl P' dd))) dd (.imap (pdict P' (ks ++ [i])))) ∧ Dj F (upd (upd Gt' pt (.inst PC (pfl P' dd))) dd (.imap (pdict P' (ks ++ [i])))) ∧
    upd (join (upd (upd F pt (.inst PC (pfl P dd))) dd (.imap (pdict P ks))) Gt') dd (.imap (kput i (.ref (P'.D i)) (pdict P ks))) = join F (upd (upd Gt' pt (.inst PC (pfl P' dd))) dd (.imap (pdict P' (ks ++ [i])))) := by
  have pn : Gt' pt = none := d.has (upd_other p.ne (upd_self ..))
  have dn : Gt' dd = none := d.has (upd_self ..)
  refine ⟨⟨P', dd, Gt', ⟨t, pn, dn, p.ne, ?_, fun j => ?_⟩, rfl⟩, ?_, ?_⟩
  · rw [List.nodup_append]
    exact ⟨p.nd, by simp, fun a ha b hb z => by cases List.mem_singleton.mp hb; exact hi (z ▸ ha)⟩
  · rw [List.mem_append, List.mem_singleton, l j, p.ks j]
    exact or_comm
  · have d0 : Dj F Gt' := d.sub (((Sub.refl F).fresh f1).fresh f2)
    exact (d0.r f1).r f2
  · rw [pdict_add hi e, upd_join, upd_upd, ← upd_join_r f2, ← upd_join_r f1, upd_join, upd_join]
    have : pfl P' dd = pfl P dd := by unfold pfl; rw [e 0 h0]
    rw [this]
theorem adopt_ks {M : Mo} {i dep w : Int} {d : Nd} (hn : M i = none) (hd : M dep = some d) : ∀ j, (∃ n, adopt (M.put i (newNd w)) dep i j = some n) ↔ (j = i ∨ ∃ n, M j = some n) := fun j => by
  have hne : dep ≠ i := fun z => by rw [z, hn] at hd; cases hd
  have h1 : (M.put i (newNd w)) dep = some d := (Mo.put_ne hne).trans hd
  rw [adopt_eq h1 (Mo.put_self ..)]
  by_cases q : j = dep
  · subst q; exact ⟨fun _ => .inr ⟨d, hd⟩, fun _ => ⟨_, Mo.put_self ..⟩⟩
  · rw [Mo.put_ne q]
    by_cases q2 : j = i
    · subst q2; exact ⟨fun _ => .inl rfl, fun _ => ⟨_, Mo.put_self ..⟩⟩
    · rw [Mo.put_ne q2, Mo.put_ne q2]
      exact ⟨.inr, fun h => h.resolve_left q2⟩
end Mine
end
section
open PySem PySem.W PyProof.Rows PySem.Calls
set_option linter.unusedVariables false
set_option Elab.async false
namespace Mine
section
variable {prog : Program} {w : World} {K : Frag} {c : Cx prog w K} {envs outer : List Env} {env : Env} {H G : AH} {A : Around} {E : Value → Shared → Prop} {s : Shared}
theorem nm_c {x : Str} {b : Nat} {v : Value} {Q : Value → Shared → Prop} (S : St c envs H s) (hc : env.cells.lookup x = some b) (hH : H b = some (.cell (some v))) (h : ∀ v', er v' = v → Q v' s)
    (hk : env.scope.kind = .function := by rfl) (hl : env.kindOf x = some .cell := by rfl) : wpAny (model prog w) A (loadName env x) Q E s := by
  obtain ⟨o, v', ho, hd, he⟩ := S.get hH
  cases v' with
  | none => cases he
  | some u => exact wpAny_loadName_cell hk hl hc ⟨o, ho, hd⟩ (h u (Option.some.inj he))
theorem nmc {x : Str} {pos : Pos} {b : Nat} {v : Value} {Q : Value → Shared → Prop} (S : St c envs H s) (hc : env.cells.lookup x = some b) (hH : H b = some (.cell (some v))) (h : ∀ v', er v' = v → Q v' s)
    (hk : env.scope.kind = .function := by rfl) (hl : env.kindOf x = some .cell := by rfl) (hd : (x == ("__debug__" : Str)) = false := by decide) : wpAny (model prog w) A (eval (.Name x pos) env) Q E s :=
  wpAny_Name (nm_c S hc hH h hk hl) hd
theorem stc {x : Str} {b : Nat} {v v' : Value} {u : Option Value} {Q : Unit → Shared → Prop} (S : St c envs H s) (hc : env.cells.lookup x = some b) (hH : H b = some (.cell u)) (hv : er v = v')
    (h : ∀ s', St c envs (upd H b (.cell (some v'))) s' → Q () s')
    (hk : env.scope.kind = .function := by rfl) (hl : env.kindOf x = some .cell := by rfl) : wpAny (model prog w) A (storeName env x v) Q E s := by
  subst hv
  obtain ⟨o, u', ho, hd, he⟩ := S.get hH
  exact wpAny_storeName_cell hk hl hc ⟨o, ho, hd⟩ fun h' hi hs => h _ (S.set hH hs (let ⟨o, ho, hd⟩ := hi; ⟨o, some v, ho, hd, rfl⟩) rfl rfl)
structure Row (prog : Program) (w : World) (P : AH → Prop) (xs : List Value) (ao : Nat → AO) : Prop where
  up : ∀ (G : AH) (it : Nat) o, G it = none → P G → P (upd G it o)
  next : ∀ {K : Frag} {c : Cx prog w K} {envs : List Env} {G : AH} {s : Shared} {A : Around} {E : Value → Shared → Prop} {Q : Option Value → Shared → Prop} {it i : Nat} {x : Value},
    St c envs (upd G it (ao i)) s → G it = none → P G → xs[i]? = some x → (∀ v s', er v = x → St c envs (upd G it (ao (i + 1))) s' → Q (some v) s') → wpAny (model prog w) A (pyNext (.ref it)) Q E s
  fin : ∀ {K : Frag} {c : Cx prog w K} {envs : List Env} {G : AH} {s : Shared} {A : Around} {E : Value → Shared → Prop} {Q : Option Value → Shared → Prop} {it i : Nat},
    St c envs (upd G it (ao i)) s → G it = none → P G → xs.length ≤ i → Hd A G → (∀ s', St c envs G s' → Q none s') → wpAny (model prog w) A (pyNext (.ref it)) Q E s
  self : ∀ {K : Frag} {c : Cx prog w K} {envs : List Env} {G : AH} {s : Shared} {A : Around} {E : Value → Shared → Prop} {Q : Value → Shared → Prop} {it i : Nat},
    St c envs (upd G it (ao i)) s → Q (.ref it) s → wpAny (model prog w) A (pyIter (.ref it)) Q E s
  own : ∀ {K : Frag} {c : Cx prog w K} {envs : List Env} {G : AH} {s : Shared} {A : Around} {E : Value → Shared → Prop} {Q : Unit → Shared → Prop} {it i : Nat} {target : Expr} {v : Value},
    St c envs (upd G it (ao i)) s → Q () s → wpAny (model prog w) A (letOwnedTupleGo target (.ref it) v) Q E s
noncomputable abbrev rIt (x left step : Int) : Obj := { cls := .type "range_iterator", data := .fields #[rawInt x, rawInt left, rawInt step] }
noncomputable abbrev rOb (a b d : Int) (t u v : Tok) : Obj := { cls := .type "range", data := .fields #[.int a t, .int b u, .int d v] }
noncomputable def rRow (a d : Int) (n : Nat) : List Value := (List.range n).map fun k : Nat => .int (a + (k : Int) * d) 0
theorem rRow_len {a d : Int} {n : Nat} : (rRow a d n).length = n := by unfold rRow; rw [List.length_map, List.length_range]
theorem rRow_get {a d : Int} {n i : Nat} {x : Value} (h : (rRow a d n)[i]? = some x) : i < n ∧ x = .int (a + (i : Int) * d) 0 := by
  have hi := (List.getElem?_eq_some_iff.mp h).1
  rw [rRow_len] at hi
  refine ⟨hi, ?_⟩
  unfold rRow at h
  rw [List.getElem?_map, List.getElem?_range hi] at h
  exact (Option.some.inj h).symm
theorem own_raw {target : Expr} {it : Nat} {v : Value} {o : Obj} {n : String} {vs : Array Value} {Q : Unit → Shared → Prop} (ho : s.heap.get? it = some o) (hc : o.cls = .type n) (hd : o.data = .fields vs)
    (hn : ["enumerate", "zip", "dict_itemiterator", "dict_reverseitemiterator", "odict_iterator", "itertools.zip_longest", "itertools.pairwise"].contains n = false) (hQ : Q () s) : wpAny (model prog w) A (letOwnedTupleGo target (.ref it) v) Q E s := by
  have go : ∀ a, wpAny (model prog w) A (do
      let o ← load it
      match o.cls, o.data with
      | .type n, .fields vs =>
        if ["enumerate", "zip", "dict_itemiterator", "dict_reverseitemiterator", "odict_iterator", "itertools.zip_longest", "itertools.pairwise"].contains n && vs[0]? == some (rawInt a) then
          rule "for.unpacks-the-owned-tuple"
          updateField it 0 .none
      | _, _ => pure ()) Q E s := fun a => by
    refine wpAny_bind (wpAny_load ho ?_)
    rw [hc, hd]
    dsimp only
    rw [hn]
    exact wpAny_pure hQ
  cases target <;> first
    | exact wpAny_pure hQ
    | (cases v <;> first | exact go _ | exact wpAny_pure hQ)
theorem row_range (a d : Int) (n : Nat) : Row prog w (fun _ => True) (rRow a d n) (fun i => .raw (rIt (a + (i : Int) * d) ((n : Int) - i) d)) where
  up := fun _ _ _ _ _ => trivial
  next := fun {K c envs G s A E Q it i x} S m _ hx k => by
    obtain ⟨hi, rfl⟩ := rRow_get hx
    have hit : s.heap.get? it = some (rIt (a + (i : Int) * d) ((n : Int) - i) d) := S.get (upd_self ..)
    refine wpAny_pyNext_range_item hit (by omega) fun h' hi' hs => k _ _ rfl ?_
    have e1 : a + (i : Int) * d + d = a + ((i + 1 : Nat) : Int) * d := by rw [Int.natCast_add, Int.add_mul]; omega
    have e2 : (n : Int) - (i : Int) - 1 = (n : Int) - ((i + 1 : Nat) : Int) := by omega
    have S' := S.set (t := s.toks + 1) (o' := .raw (rIt (a + ((i + 1 : Nat) : Int) * d) ((n : Int) - ((i + 1 : Nat) : Int)) d)) (upd_self ..) hs (by
      show h'.get? it = _
      rw [← e1, ← e2]; exact hi') rfl rfl
    rw [upd_upd] at S'
    exact S'
  fin := fun {K c envs G s A E Q it i} S m _ hx hdd k => by
    rw [rRow_len] at hx
    have hit : s.heap.get? it = some (rIt (a + (i : Int) * d) ((n : Int) - i) d) := S.get (upd_self ..)
    have hT : s.TypeIs (.ref it) "range_iterator" := ⟨_, hit, rfl⟩
    unfold pyNext
    refine wpAny_bind (wpAny_attempt (wpAny_callSpecial?_slot (name := Str.ofString "__next__") hT F.slot_range_iterator_next
      (wpAny_call_entry F.slot_range_iterator_next hT F.entry_range_iterator_next ?_ (F.args_range_iterator_next_1 _))))
    show wpAny _ _ (field (.ref it) 0 >>= _) _ _ s
    refine wpAny_bind (wpAny_field hit rfl (x := rawInt (a + (i : Int) * d)) rfl ?_)
    show wpAny _ _ (field (.ref it) 1 >>= _) _ _ s
    refine wpAny_bind (wpAny_field hit rfl (x := rawInt ((n : Int) - i)) rfl ?_)
    show wpAny _ _ (field (.ref it) 2 >>= _) _ _ s
    refine wpAny_bind (wpAny_field hit rfl (x := rawInt d) rfl ?_)
    show wpAny _ _ (if (n : Int) - i ≤ 0 then _ else _) _ _ s
    rw [if_pos (by omega)]
    refine wpAny_bind (wpAny_rule ?_)
    refine wpAny_bind ?_
    show wpAny _ _ (newExc (.type "StopIteration") [] >>= _) _ _ _
    have S1 := S.off (h' := s.heap) m rfl rfl (Heap.SameBut.refl ..)
    refine stop_ S1 (A := A.in1) hdd fun x s' S' ti => ?_
    refine wpAny_bind (wpAny_isInstance (T := "StopIteration") (b := true) ti isSubtype_stop ?_)
    exact wpAny_pure (k _ S')
  self := fun {K c envs G s A E Q it i} S h => by
    have hit : s.heap.get? it = some (rIt (a + (i : Int) * d) ((n : Int) - i) d) := S.get (upd_self ..)
    have hT : s.TypeIs (.ref it) "range_iterator" := ⟨_, hit, rfl⟩
    refine wpAny_pyIter_slot hT F.slot_range_iterator_iter (wpAny_call_entry F.slot_range_iterator_iter hT F.entry_range_iterator_iter ?_ (F.args_range_iterator_iter_1 _))
    show wpAny _ _ (ret (.ref it)) _ _ s
    exact wpAny_pure ⟨_, rfl, "range_iterator", _, hT, F.slot_range_iterator_next.lookup, h⟩
  own := fun S h => own_raw (S.get (upd_self ..)) rfl rfl (by decide) h
end
end Mine
end
section
open PySem PySem.W PyProof.Rows PySem.Calls
set_option linter.unusedVariables false
set_option Elab.async false
namespace Mine
section
variable {prog : Program} {w : World} {K : Frag} {c : Cx prog w K} {envs outer : List Env} {env : Env} {H G : AH} {A : Around} {E : Value → Shared → Prop} {s : Shared}
theorem St.newRaw (S : St c envs H s) (o : Obj) (t : Nat) (hf : o.isFreed = false) (hz : True := trivial) : H s.heap.objs.size = none ∧ St c envs (upd H s.heap.objs.size (.raw o)) { s with heap := s.heap.push o, toks := t } :=
  ⟨S.fresh (Nat.le_refl _), S.new (fun b x q => Heap.get?_push_of_some _ q) (Nat.le_refl _) (by intro i; cases i) (Heap.get?_push_size _ hf) (by rw [Heap.size_push]; exact Nat.le_succ _)⟩
theorem mk_range1 {n : Int} {t : Tok} {Q : Value → Shared → Prop} (S : St c envs H s) (h : ∀ (r : Nat) t u v s', H r = none → St c envs (upd H r (.raw (rOb 0 n 1 t u v))) s' → Q (.ref r) s') :
    wpAny (model prog w) A (call (.type "range") [.int n t]) Q E s :=
  call_range_1 (let ⟨a, b⟩ := S.newRaw (rOb 0 n 1 s.toks t (s.toks + 1)) (s.toks + 1 + 1) rfl; h _ _ _ _ _ a b)
theorem mk_range2 {a b : Int} {t u : Tok} {Q : Value → Shared → Prop} (S : St c envs H s) (h : ∀ (r : Nat) t u v s', H r = none → St c envs (upd H r (.raw (rOb a b 1 t u v))) s' → Q (.ref r) s') :
    wpAny (model prog w) A (call (.type "range") [.int a t, .int b u]) Q E s :=
  call_range_2 (let ⟨x, y⟩ := S.newRaw (rOb a b 1 t u s.toks) (s.toks + 1) rfl; h _ _ _ _ _ x y)
theorem mk_range3 {a b d : Int} {t u v : Tok} {Q : Value → Shared → Prop} (S : St c envs H s) (hd : d ≠ 0) (hz : d.natAbs < 1073741824) (h : ∀ (r : Nat) t u v s', H r = none → St c envs (upd H r (.raw (rOb a b d t u v))) s' → Q (.ref r) s') :
    wpAny (model prog w) A (call (.type "range") [.int a t, .int b u, .int d v]) Q E s :=
  call_range_3 hd (let ⟨x, y⟩ := S.newRaw (rOb a b d t u v) s.toks rfl; h _ _ _ _ _ x y) (Or.inl (PyProof.noPylong_small hz))
theorem iter_range {r : Nat} {a b d : Int} {t u v : Tok} {Q : Value → Shared → Prop} (S : St c envs H s) (e : H r = some (.raw (rOb a b d t u v))) (n : Nat) (hn : Builtin.Range.rangeSize a b d = (n : Int)) (hs : Builtin.Range.small a b d = true)
    (k : ∀ (it : Nat) s', H it = none → St c envs (upd H it (.raw (rIt (a + ((0 : Nat) : Int) * d) ((n : Int) - (0 : Nat)) d))) s' → Q (.ref it) s') : wpAny (model prog w) A (pyIter (.ref r)) Q E s := by
  have hr : s.heap.get? r = some (rOb a b d t u v) := S.get e
  refine wpAny_pyIter_range hr hs ?_
  rw [hn]
  obtain ⟨x, y⟩ := S.newRaw (rIt a (n : Int) d) s.toks rfl
  have e1 : a + ((0 : Nat) : Int) * d = a := by simp
  have e2 : (n : Int) - ((0 : Nat) : Int) = n := by simp
  refine k _ _ x ?_
  rw [e1, e2]; exact y
noncomputable def RowAt (c : Cx prog w K) (envs : List Env) (I : Nat → AH → Prop) (ao : Nat → AO) (it i : Nat) (s : Shared) : Prop := ∃ G, I i G ∧ G it = none ∧ St c envs (upd G it (ao i)) s
theorem RowAt.mk {I : Nat → AH → Prop} {ao : Nat → AO} {it i : Nat} (h : I i G) (n : G it = none) (S : St c envs (upd G it (ao i)) s) : RowAt c envs I ao it i s := ⟨G, h, n, S⟩
theorem for_row {target : Expr} {body orelse : List Stmt} {it : Nat} {R : Result → Shared → Prop} {P : AH → Prop} {xs : List Value} {ao : Nat → AO} (row : Row prog w P xs ao) (I : Nat → AH → Prop) (S : St c envs (upd H it (ao 0)) s) (n : H it = none) (hI : I 0 H)
    (hP : ∀ i G, I i G → P G) (hd : ∀ i G, I i G → Hd A G)
    (turn : ∀ i G s' v x, I i G → G it = none → xs[i]? = some x → er v = x → St c envs (upd G it (ao (i + 1))) s' →
      wpAny (model prog w) A (assign target env v) (fun _ s₂ => wpAny (model prog w) A (execs body env) (fun f s₃ => match f with
          | .next | .cont => RowAt c envs I ao it (i + 1) s₃
          | .brk => R (.ok .next) s₃
          | .ret v => R (.ok (.ret v)) s₃) (notedBy (model prog w) A env fun e s' => R (.error e) s') s₂) (notedBy (model prog w) A env fun e s' => R (.error e) s') s')
    (fin : ∀ G s', I xs.length G → St c envs G s' → wpAny (model prog w) A (execs orelse env) (fun f s₃ => R (.ok f) s₃) (notedBy (model prog w) A env fun e s' => R (.error e) s') s') :
    codeAny (model prog w) A (.forLoop target (.ref it) body orelse env) R s := by
  refine codeAny_forLoop_any (fun n s' => ∃ i, n = xs.length - i ∧ i ≤ xs.length ∧ RowAt c envs I ao it i s') ?_ xs.length ⟨0, rfl, Nat.zero_le _, H, hI, n, S⟩
  rintro n s' ⟨i, rfl, hi, G, hG, hn, S'⟩
  by_cases hlt : i < xs.length
  · have hx : xs[i]? = some xs[i] := List.getElem?_eq_getElem hlt
    refine row.next S' hn (hP i G hG) hx fun v s2 hv S2 => ?_
    refine row.own S2 ?_
    refine wpAny_mono (turn i G s2 v _ hG hn hx hv S2) (fun _ s3 h3 => wpAny_mono h3 (fun f s4 h4 => ?_) fun _ _ x => x) fun _ _ x => x
    cases f with
    | next => exact ⟨_, by omega, i + 1, rfl, by omega, h4⟩
    | cont => exact ⟨_, by omega, i + 1, rfl, by omega, h4⟩
    | brk => exact h4
    | ret v => exact h4
  · have he : i = xs.length := by omega
    subst he
    exact row.fin S' hn (hP _ G hG) (Nat.le_refl _) (hd _ _ hG) fun s2 S2 => fin G s2 hG S2
theorem comp_env0 {scope : Scope} {g : Addr} {cl : List (Str × Addr)} {qual : Str} {Q : Env → Shared → Prop} (S : St c envs H s) (hcell : ∀ y ∈ scope.names, y.2 ≠ .cell) (hkind : scope.kind = .function)
    (k : ∀ (C : Nat) s', H C = none → St c envs (upd H C (.ns [])) s' → Q (newEnv scope C g cl qual none .none (some env) builtinsNs) s') :
    wpAny (model prog w) A (newFunctionEnv scope g cl [] qual none .none (some env)) Q E s := by
  refine wpAny_newFunctionEnv hcell (by intro y hy; simp at hy) (fun h₁ hns hsb => ?_) hkind
  have hz : s.heap.objs.size ≤ h₁.objs.size := by rw [hsb.1, Heap.size_push]; exact Nat.le_succ _
  refine k _ _ (S.fresh (Nat.le_refl _)) (S.new (fun b x q => ?_) (Nat.le_refl _) (by intro i; cases i) ⟨_, hns, fun x v q => by cases q⟩ hz)
  exact (hsb.2 b (Nat.ne_of_lt (Heap.lt_size q))).trans (Heap.get?_push_of_some _ q)
theorem comp_off {C : Nat} {l : List (Str × Value)} {h' : Heap} (S : St c envs (upd H C (.ns l)) s) (n : H C = none) (f : Frs envs H) (hs : Heap.SameBut C s.heap h') : St c envs H { s with heap := h' } := by
  have ea : upd H C (.ns l) C = some (.ns l) := upd_self ..
  have neq : ∀ (b : Nat) x, H b = some x → b ≠ C := fun b x q z => by rw [z, n] at q; cases q
  have up : ∀ (b : Nat) x, H b = some x → upd H C (.ns l) b = some x := fun b x q => upd_other (neq b x q) q
  refine ⟨fun b x q => (hs.2 b fun z => ?_).trans (S.base b x q), fun b x q => ?_, fun b x q => S.low b x (up b x q), fun b x q i => ?_, f, S.gens, S.drawn, S.os, hs.1 ▸ S.size⟩
  · have := (S.low C _ ea).1; rw [z, this] at q; cases q
  · refine (S.real b x (up b x q)).keep fun d hd y hy => (hs.2 d ?_).trans hy
    rcases hd with rfl | ⟨i, rfl⟩
    · exact neq _ _ q
    · intro z; have := S.excl b x (up b x q) i; rw [z, ea] at this; cases this
  · have := S.excl b x (up b x q) i
    by_cases z : b - 1 = C
    · rw [z, ea] at this; cases this
    · rw [upd_ne z] at this; exact this
end
end Mine
end
section
open PySem PySem.W PyProof.Rows PySem.Calls
set_option linter.unusedVariables false
set_option Elab.async false
namespace Mine
section
variable {prog : Program} {w : World} {K : Frag} {c : Cx prog w K} {envs outer : List Env} {env cenv : Env} {H G : AH} {A : Around} {E : Value → Shared → Prop} {s : Shared} {P : AH → Prop} {xs : List Value} {ao : Nat → AO} {it C D : Nat}
  {elt iter : Expr} {x : Str} {px : Pos} {ifs : List Expr} {scope : Scope} {pos : Pos} {cl : List (Str × Addr)} {l : List (Str × Value)}
noncomputable def CompAt (c : Cx prog w K) (envs : List Env) (I : Nat → AH → Prop) (ao : Nat → AO) (it C i : Nat) (s : Shared) : Prop := ∃ G l, I i G ∧ G it = none ∧ G C = none ∧ St c envs (upd (upd G it (ao i)) C (.ns l)) s
theorem CompAt.mk {I : Nat → AH → Prop} {i : Nat} (h : I i G) (n : G it = none) (nC : G C = none) (S : St c envs (upd (upd G it (ao i)) C (.ns l)) s) : CompAt c envs I ao it C i s := ⟨G, l, h, n, nC, S⟩
noncomputable abbrev testsOf (prog : Program) (w : World) (A : Around) (ifs : List Expr) (cenv : Env) (Q : Bool → Shared → Prop) (E : Value → Shared → Prop) (s : Shared) : Prop :=
  wpAny (model prog w) A (forIn ifs true fun c r => if r = true then do let ok ← isTrue c cenv (eval c cenv); pure (ForInStep.yield ok) else pure (ForInStep.yield r)) Q E s
theorem comp_loop {acc : Value} {R : Result → Shared → Prop} (row : Row prog w P xs ao) (hne : it ≠ C) (I : Nat → AH → Prop) (S : St c envs (upd (upd H it (ao 0)) C (.ns l)) s) (n : H it = none) (nC : H C = none) (hI : I 0 H) (hP : ∀ i G, I i G → P G) (hd : ∀ i G, I i G → Hd A G)
    (turn : ∀ (i : Nat) (G : AH) (s' : Shared) (v y : Value) (l : List (Str × Value)), I i G → G it = none → G C = none → xs[i]? = some y → er v = y → St c envs (upd (upd G it (ao (i + 1))) C (.ns l)) s' →
      wpAny (model prog w) A (assign (.Name x px) cenv v) (fun _ s₂ => testsOf prog w A ifs cenv (fun ok s₃ =>
            if ok = true then wpAny (model prog w) A (eval elt cenv) (fun y s₄ =>
              wpAny (model prog w) A (call (.builtin "list.append") [acc, y]) (fun _ s₅ => CompAt c envs I ao it C (i + 1) s₅) (notedBy (model prog w) A cenv fun e s' => R (.error e) s') s₄) (notedBy (model prog w) A cenv fun e s' => R (.error e) s') s₃
            else CompAt c envs I ao it C (i + 1) s₃) (notedBy (model prog w) A cenv fun e s' => R (.error e) s') s₂) (notedBy (model prog w) A cenv fun e s' => R (.error e) s') s')
    (fin : ∀ (G : AH) (s' : Shared) (l : List (Str × Value)), I xs.length G → G C = none → St c envs (upd G C (.ns l)) s' → R (.ok .next) s') :
    codeAny (model prog w) A (.compLoop (.ListComp elt [⟨.Name x px, iter, ifs, 0⟩] scope pos) 0 (.ref it) acc cenv) R s := by
  refine codeAny_compLoop_tests (fun n s' => ∃ i, n = xs.length + 1 - i ∧ i ≤ xs.length ∧ CompAt c envs I ao it C i s') ?_ (xs.length + 1) ⟨0, rfl, Nat.zero_le _, H, l, hI, n, nC, S⟩
  rintro n s' ⟨i, rfl, hi, G, l', hG, hn, hC, S'⟩
  rw [upd_comm hne] at S'
  have hP' : P (upd G C (.ns l')) := row.up G C _ hC (hP i G hG)
  have hn' : upd G C (.ns l') it = none := upd_other hne hn
  by_cases hlt : i < xs.length
  · have hx : xs[i]? = some xs[i] := List.getElem?_eq_getElem hlt
    refine row.next S' hn' hP' hx fun v s2 hv S2 => ?_
    rw [← upd_comm hne] at S2
    refine wpAny_mono (turn i G s2 v _ l' hG hn hC hx hv S2) (fun _ s3 h3 => wpAny_mono h3 (fun ok s4 h4 => ?_) fun _ _ x => x) fun _ _ x => x
    cases ok with
    | false =>
      simp only [Bool.false_eq_true, if_false] at h4 ⊢
      exact ⟨_, by omega, i + 1, rfl, by omega, h4⟩
    | true =>
      simp only [if_true] at h4 ⊢
      exact wpAny_mono h4 (fun y s5 h5 => wpAny_mono h5 (fun _ s6 h6 => ⟨_, by omega, i + 1, rfl, by omega, h6⟩) fun _ _ x => x) fun _ _ x => x
  · have he : i = xs.length := by omega
    subst he
    exact row.fin S' hn' hP' (Nat.le_refl _) ((hd _ _ hG).sub ((Sub.refl G).fresh hC)) fun s2 S2 => fin G s2 l' hG hC S2
noncomputable def CompIn (prog : Program) (w : World) (A : Around) (E : Value → Shared → Prop) (use : Option (Value → Sem Unit)) (Q : Value → Shared → Prop) (e : Expr) (scope : Scope) (cl : List (Str × Addr)) (env : Env) (itv : Value) (s₂ : Shared) : Prop :=
  wpAny (model prog w) A (newList []) (fun acc s₃ => wpAny (model prog w) A (newFunctionEnv scope env.globals cl [] env.qual none .none (some env)) (fun cenv s₄ =>
    codeAny (model prog w) A (.compStart e 0 itv acc { cenv with scope := relabel scope env }) (compPost (model prog w) A E use Q acc cenv.locals) s₄) E s₃) E s₂
theorem comp_eval {Q : Value → Shared → Prop} (hclos : closureFor scope env = pure cl) (hkind : scope.kind = .function) (hnames : ∀ y ∈ scope.names, y.2 = .local → scope.names.lookup y.1 = some .local)
    (h : wpAny (model prog w) A (eval iter env) (fun xv s₁ => wpAny (model prog w) A (pyIter xv) (fun itv s₂ => CompIn prog w A E none Q (.ListComp elt [⟨.Name x px, iter, ifs, 0⟩] scope pos) scope cl env itv s₂) E s₁) E s)
    (hs : ∀ x, foldedSetIterable iter env x = pure x := by intro _; rfl) :
    wpAny (model prog w) A (eval (.ListComp elt [⟨.Name x px, iter, ifs, 0⟩] scope pos) env) Q E s := by
  rw [eval_ListComp]
  exact wpAny_comprehension_free (use := none) rfl hs hclos hkind hnames h
theorem comp_none {Q : Value → Shared → Prop} {acc : Value} (S : St c envs (upd G C (.ns l)) s) (n : G C = none) (f : Frs envs G) (k : ∀ s', St c envs G s' → Q acc s') : compPost (model prog w) A E none Q acc C (.ok .next) s := by
  obtain ⟨m, hm, _⟩ := S.get (upd_self ..)
  exact ⟨m, hm, fun h' hs => k _ (comp_off S n f hs)⟩
theorem comp_in {Q : Value → Shared → Prop} {use : Option (Value → Sem Unit)} (row : Row prog w P xs ao) (I : Nat → Nat → AH → Prop) (S : St c envs (upd H it (ao 0)) s) (n : H it = none) (hI : ∀ D, H D = none → I D 0 (upd H D (.list []))) (hP : ∀ D i G, I D i G → P G) (hd : ∀ D i G, I D i G → Hd A G)
    (hcell : ∀ y ∈ scope.names, y.2 ≠ .cell) (hkind : scope.kind = .function)
    (turn : ∀ (D C i : Nat) (G : AH) (s' : Shared) (v y : Value) (l : List (Str × Value)), D ≠ it → H D = none → I D i G → G it = none → G C = none → it ≠ C → D ≠ C → xs[i]? = some y → er v = y → St c envs (upd (upd G it (ao (i + 1))) C (.ns l)) s' → ∀ E',
      wpAny (model prog w) A (assign (.Name x px) (compEnvC scope cl C env) v) (fun _ s₂ => testsOf prog w A ifs (compEnvC scope cl C env) (fun ok s₃ =>
            if ok = true then wpAny (model prog w) A (eval elt (compEnvC scope cl C env)) (fun y s₄ =>
              wpAny (model prog w) A (call (.builtin "list.append") [.ref D, y]) (fun _ s₅ => CompAt c envs (I D) ao it C (i + 1) s₅) E' s₄) E' s₃
            else CompAt c envs (I D) ao it C (i + 1) s₃) E' s₂) E' s')
    (fin : ∀ (D C : Nat) (G : AH) (s' : Shared) (l : List (Str × Value)), H D = none → I D xs.length G → G C = none → St c envs (upd G C (.ns l)) s' → compPost (model prog w) A E use Q (.ref D) C (.ok .next) s') :
    CompIn prog w A E use Q (.ListComp elt [⟨.Name x px, iter, ifs, 0⟩] scope pos) scope cl env (.ref it) s := by
  unfold CompIn
  show wpAny _ A (newObj (.type "list") (.seq ([] : List Value).toArray)) _ _ _
  refine wpAny_newObj_type ?_ (by size_fits)
  have nD0 : upd H it (ao 0) s.heap.objs.size = none := S.fresh (Nat.le_refl _)
  have nD : H s.heap.objs.size = none := none_up nD0
  have hDi : s.heap.objs.size ≠ it := none_ne nD0
  have S1 : St c envs (upd (upd H it (ao 0)) s.heap.objs.size (.list [])) { s with heap := s.heap.push { cls := .type "list", dict := none, data := .seq ([] : List Value).toArray } } :=
    S.new (t := s.toks) (fun b x q => Heap.get?_push_of_some _ q) (Nat.le_refl _) (by intro i; cases i) ⟨_, _, Heap.get?_push_size _ rfl, rfl⟩ (by rw [Heap.size_push]; exact Nat.le_succ _)
  generalize s.heap.objs.size = D at nD nD0 hDi S1 ⊢
  rw [upd_comm (Ne.symm hDi)] at S1
  refine comp_env0 S1 hcell hkind fun C s2 nC S2 => ?_
  have nC1 := none_up nC
  have nC2 := none_ne nC
  have nC3 := none_ne nC1
  have lp : ∀ s2, St c envs (upd (upd (upd H D (.list [])) it (ao 0)) C (.ns [])) s2 → codeAny (model prog w) A (.compLoop (.ListComp elt [⟨.Name x px, iter, ifs, 0⟩] scope pos) 0 (.ref it) (.ref D) (compEnvC scope cl C env)) (compPost (model prog w) A E use Q (.ref D) C) s2 := fun s2 S2 =>
    comp_loop row (Ne.symm nC2) (I D) S2 (upd_other (Ne.symm hDi) n) nC1 (hI D nD) (hP D) (hd D) (fun i G s' v y l a b d e f g => turn D C i G s' v y l hDi nD a b d (Ne.symm nC2) (Ne.symm nC3) e f g _)
      (fun G s' l a b d => fin D C G s' l nD a b d)
  refine codeAny_compStart_list (lp _ S2) ?_
  have S3 := S2
  rw [upd_comm (Ne.symm nC2)] at S3
  exact row.self S3 (lp _ S2)
theorem comp_pure {Q : Value → Shared → Prop} {use : Option (Value → Sem Unit)} (row : Row prog w P xs ao) (f : Value → Option Value) (S : St c envs (upd H it (ao 0)) s) (n : H it = none) (hPH : P H) (hdH : Hd A H) (hz : xs.length ≤ 1000)
    (hcell : ∀ y ∈ scope.names, y.2 ≠ .cell) (hkind : scope.kind = .function) (hx : scope.names.lookup x = some .local)
    (tests : ∀ (C i : Nat) (v y : Value) (s' : Shared) (Hc : AH) (l : List (Str × Value)) (E' : Value → Shared → Prop), xs[i]? = some y → er v = y → (∀ (a : Nat) o, H a = some o → Hc a = some o) → Hc C = some (.ns ((x, y) :: l)) → St c envs Hc s' → testsOf prog w A ifs (compEnvC scope cl C env) (fun ok s₃ => ok = (f y).isSome ∧ St c envs Hc s₃) E' s')
    (helt : ∀ (C i : Nat) (v y z : Value) (s' : Shared) (Hc : AH) (l : List (Str × Value)) (E' : Value → Shared → Prop), xs[i]? = some y → er v = y → f y = some z → (∀ (a : Nat) o, H a = some o → Hc a = some o) → Hc C = some (.ns ((x, y) :: l)) → St c envs Hc s' → wpAny (model prog w) A (eval elt (compEnvC scope cl C env)) (fun u s₃ => er u = z ∧ St c envs Hc s₃) E' s')
    (fin : ∀ (D C : Nat) (s' : Shared) (l : List (Str × Value)), H D = none → upd H D (.list (xs.filterMap f)) C = none → St c envs (upd (upd H D (.list (xs.filterMap f))) C (.ns l)) s' → compPost (model prog w) A E use Q (.ref D) C (.ok .next) s') :
    CompIn prog w A E use Q (.ListComp elt [⟨.Name x px, iter, ifs, 0⟩] scope pos) scope cl env (.ref it) s := by
  refine comp_in row (fun D i G => H D = none ∧ G = upd H D (.list ((xs.take i).filterMap f))) S n (fun D nD => ⟨nD, by simp⟩) (fun D i G h => by rw [h.2]; exact row.up H D _ h.1 hPH) (fun D i G h => by rw [h.2]; exact hdH.fresh h.1) hcell hkind ?_ ?_
  · rintro D C i _ s' v y l hDi nD ⟨-, rfl⟩ hit hC hiC hDC hy hv S' E'
    have keep : ∀ (a : Nat) o, H a = some o → upd (upd (upd H D (.list ((xs.take i).filterMap f))) it (ao (i + 1))) C (.ns ((x, y) :: l)) a = some o := fun a o h =>
      upd_other (ne_fresh (none_up hC) h) (upd_other (ne_fresh n h) (upd_other (ne_fresh nD h) h))
    refine wpAny_assign_Name (stv S' (upd_self ..) hv (fun s2 S2 => ?_) rfl (by simp [compEnvC, relabel, hkind]) (lookup_relabel_local hx))
    rw [upd_upd] at S2
    have hlen : (xs.take (i + 1)).filterMap f = (xs.take i).filterMap f ++ (match f y with | some z => [z] | none => []) := by
      have hi := (List.getElem?_eq_some_iff.mp hy).1
      have he := (List.getElem?_eq_some_iff.mp hy).2
      rw [List.take_succ_eq_append_getElem hi, List.filterMap_append, he]
      congr 1
      cases hfy : f y <;> simp [hfy]
    refine wpAny_mono (tests C i v y s2 _ l E' hy hv keep (upd_self ..) S2) (fun ok s3 h3 => ?_) fun _ _ x => x
    obtain ⟨rfl, S3⟩ := h3
    cases hfy : f y with
    | none =>
      simp only [hfy, Option.isSome_none, Bool.false_eq_true, if_false]
      refine CompAt.mk (G := upd H D (.list ((xs.take i).filterMap f))) ⟨nD, ?_⟩ hit hC S3
      rw [hlen, hfy]; simp
    | some z =>
      simp only [hfy, Option.isSome_some, if_true]
      refine wpAny_mono (helt C i v y z s3 _ l E' hy hv hfy keep (upd_self ..) S3) (fun u s4 h4 => ?_) fun _ _ x => x
      obtain ⟨rfl, S4⟩ := h4
      refine list_append S4 (upd_other hDC (upd_other hDi (upd_self ..))) ?_ fun s5 S5 => ?_
      · refine Nat.le_trans (List.length_filterMap_le ..) (?_)
        rw [List.length_take]; omega
      · rw [← upd_comm hDC, ← upd_comm hDi, upd_upd] at S5
        refine CompAt.mk (l := (x, y) :: l) (G := upd H D (.list ((xs.take i).filterMap f ++ [er u]))) ⟨nD, ?_⟩ (upd_other (Ne.symm hDi) n) ?_ ?_
        · rw [hlen, hfy]
        · exact upd_other (Ne.symm hDC) (none_up hC)
        · exact S5
  · rintro D C _ s' l nD ⟨-, rfl⟩ hC S'
    rw [List.take_length] at hC S'
    exact fin D C s' l nD hC S'
end
end Mine
end
section
open PySem PySem.W PyProof.Rows PySem.Calls
set_option linter.unusedVariables false
set_option Elab.async false
namespace Mine
section
variable {prog : Program} {w : World} {K : Frag} {c : Cx prog w K} {envs outer : List Env} {env cenv : Env} {H G : AH} {A : Around} {E : Value → Shared → Prop} {s : Shared}
noncomputable def DictOne (c : Cx prog w K) (envs : List Env) (d : Nat) (Q : Value → Shared → Prop) (kv vv : Value) (s : Shared) : Prop :=
  ∃ i t H2, kv = .int i t ∧ H2 d = some (.imap []) ∧ St c envs H2 s ∧ ∀ s3, St c envs (upd H2 d (.imap [(i, er vv)])) s3 → Q (.ref d) s3
theorem dict_one {kx vx : Expr} {pos : Pos} {Q : Value → Shared → Prop} (S : St c envs H s)
    (h : ∀ (d : Nat) s0, H d = none → St c envs (upd H d (.imap [])) s0 → wpAny (model prog w) A (eval kx env) (fun kv s1 => wpAny (model prog w) A (eval vx env) (fun vv s2 => DictOne c envs d Q kv vv s2) E s1) E s0) :
    wpAny (model prog w) A (eval (.Dict [some kx] [vx] pos) env) Q E s := by
  refine wpAny_Dict_walk (knd := intKind prog w) rfl rfl (by simp) (by simp) (pairTrees_cons_walk ?_)
  have S1 : St c envs (upd H s.heap.objs.size (.imap [])) { s with heap := s.heap.push { cls := .type "dict", data := .dict #[] } } :=
    S.new (t := s.toks) (fun b x q => Heap.get?_push_of_some _ q) (Nat.le_refl _) (by intro i; cases i) ⟨[], 0, Heap.get?_push_size _ rfl, [], trivial, List.nodup_nil, rfl⟩ (by rw [Heap.size_push]; exact Nat.le_succ _)
  refine wpAny_mono (h _ _ (S.fresh (Nat.le_refl _)) S1) (fun kv s1 h1 => wpAny_mono h1 (fun vv s2 h2 => pairTrees_nil_walk ?_) fun _ _ x => x) fun _ _ x => x
  obtain ⟨i, t, H2, rfl, hd, S2, k⟩ := h2
  obtain ⟨vs, hD, hm⟩ := (S2.get hd).dictOf prog w
  obtain rfl : vs = [] := List.map_eq_nil_iff.mp hm
  refine ⟨[(i, vv)], ⟨int_is i t, rfl, trivial⟩, hD, fun h' hD' hs => k _ ?_⟩
  have r : Real h' s.heap.objs.size (.imap [(i, er vv)]) := Real.ofDict (prog := prog) (w := w) (vs := [(i, vv)]) hD'
  exact S2.set hd hs r rfl rfl
end
theorem join_nil {F : AH} : join F (fun _ => none) = F := by
  funext a; unfold join; cases F a <;> rfl
theorem Dj.nil {F : AH} : Dj F (fun _ => none) := fun a o h => by cases h
noncomputable def Mo.root : Mo := (Mo.put (fun _ => none) 0 { newNd 1 with act := false })
theorem PTree.root {SC PC : Nat} {x cl ql pt dd : Nat} (n1 : x ≠ cl) (n2 : x ≠ ql) (n3 : cl ≠ ql) (p1 : pt ≠ x) (p2 : pt ≠ cl) (p3 : pt ≠ ql) (d1 : dd ≠ x) (d2 : dd ≠ cl) (d3 : dd ≠ ql) (pd : pt ≠ dd) :
    PTree SC PC Mo.root [0] pt (upd (upd (upd (upd (upd (fun _ => none) x (.inst SC (setk "active" (.bool false) (nfl 0 1 cl ql)))) cl (.list [])) ql (.list [])) pt (.inst PC [("_root_stream", .ref x), ("_streams", .ref dd), ("_maximum_streams", .int 1000 0)])) dd (.imap [(0, .ref x)])) := by
  have t0 : Tree SC (⟨fun _ => 0, fun _ => 0, fun _ => 0⟩ : Pl) (fun _ => none : Mo) (fun _ => none) := by
    refine ⟨?_, ?_, ?_, ?_, ?_, ?_⟩ <;> intros <;> simp_all
  have ok0 : OkM (fun _ => 0) (fun _ => none : Mo) := ⟨fun i n h => by cases h⟩
  have c0 : Clo (fun _ => none : Mo) := ⟨fun i n h => (by cases h), fun i n p h => (by cases h)⟩
  have t1 := t0.newNode c0 ok0 (i := 0) (w := 1) (x := x) (cl := cl) (ql := ql) rfl rfl rfl rfl n1 n2 n3
  have t2 := t1.set (n' := { newNd 1 with act := false }) (Mo.put_self ..) rfl rfl
  rw [Mo.put_put] at t2
  have hG : upd (upd (upd (upd (fun _ => none) x (.inst SC (nfl 0 1 cl ql))) cl (.list [])) ql (.list [])) x (.inst SC (setk "active" (.bool false) (nfl 0 1 cl ql))) = upd (upd (upd (fun _ => none) x (.inst SC (setk "active" (.bool false) (nfl 0 1 cl ql)))) cl (.list [])) ql (.list []) := by
    rw [upd_comm (Ne.symm n2), upd_comm (Ne.symm n1), upd_upd]
  refine ⟨Pl.at ⟨fun _ => 0, fun _ => 0, fun _ => 0⟩ 0 x cl ql, dd, _, ⟨t2, ?_, ?_, pd, by simp, fun i => ?_⟩, ?_⟩
  · show upd _ x _ pt = none
    rw [upd_ne p1, upd_ne p3, upd_ne p2, upd_ne p1]
  · show upd _ x _ dd = none
    rw [upd_ne d1, upd_ne d3, upd_ne d2, upd_ne d1]
  · rw [List.mem_singleton]
    unfold Mo.root Mo.put
    constructor
    · rintro rfl; exact ⟨_, if_pos rfl⟩
    · rintro ⟨n, h⟩
      by_cases q : i = 0
      · exact q
      · rw [if_neg q] at h; cases h
  · rw [← hG]; rfl
end Mine
end
section
open PySem PySem.W PyProof.Rows PySem.Calls
set_option linter.unusedVariables false
set_option Elab.async false
set_option maxRecDepth 100000
namespace Mine
noncomputable def fnBody : Stmt → List Stmt
  | .FunctionDef _ _ b _ _ _ _ _ _ _ => b
  | _ => []
noncomputable def fnScope : Stmt → Scope
  | .FunctionDef _ _ _ _ _ _ sc _ _ _ => sc
  | _ => default
noncomputable def nthSt (p : Program) (n i : Nat) : Stmt := (fnBody (p.main.body.getD n default)).getD i default
noncomputable def envAt (p : Program) (n : Nat) (nm : Str) (L : Nat) (a : Nat) (cd : Value) (cs : List (Str × Addr)) : Env :=
  { scope := fnScope (p.main.body.getD n default), locals := L, globals := mainGlobals, cells := cs, qual := nm, func := some a, code := cd, frame := some L, builtins := builtinsNs }
section
variable {prog : Program} {w : World} {K : Frag} {c : Cx prog w K} {envs outer : List Env} {env cenv : Env} {H G : AH} {A : Around} {E : Value → Shared → Prop} {s : Shared}
noncomputable def Scr (c : Cx prog w K) (sa : Nat) (ns : List Int) : Prop := ∃ vs : List Value, c.base.IsList sa vs.toArray ∧ IntsAre vs ns ∧ ns.length ≤ 63
theorem Scr.here {sa : Nat} {ns : List Int} (h : Scr c sa ns) (S : St c envs H s) : ∃ vs : List Value, s.heap.IsList sa vs.toArray ∧ IntsAre vs ns ∧ ns.length ≤ 63 := by
  obtain ⟨vs, ⟨o, ho, r⟩, h2, h3⟩ := h
  exact ⟨vs, ⟨o, S.base _ _ ho, r⟩, h2, h3⟩
theorem scr_len {sa : Nat} {ns : List Int} {Q : Value → Shared → Prop} (h : Scr c sa ns) (S : St c envs H s) (k : ∀ t s', St c envs H s' → Q (.int ns.length t) s') : wpAny (model prog w) A (call (.builtin "len") [.ref sa]) Q E s := by
  obtain ⟨vs, hl, hi, hz⟩ := h.here S
  have e := hi.length
  refine call_len_list hl (by simp; omega) ?_
  have := k (s.toks + 1) _ (S.tok (s.toks + 1 + 1))
  simpa [e] using this
theorem scr_item {value slice : PySem.Expr} {sa : Nat} {ns : List Int} {k i : Int} {u : Tok} {Q : Value → Shared → Prop} (h : Scr c sa ns) (S : St c envs H s) (h0 : 0 ≤ k) (hx : ns[k.toNat]? = some i) (q : ∀ t, Q (.int i t) s)
    (hs : subscripted slice false (.ref sa) (.int k u) = operate [.ref sa, .int k u] (getItem (.ref sa) (.int k u)) := by with_unfolding_all rfl) : wpAny (model prog w) A (subscriptTail value slice (.ref sa) (.int k u)) Q E s := by
  obtain ⟨vs, hl, hi, hz⟩ := h.here S
  obtain ⟨t, ht⟩ := hi.get _ _ hx
  have := (List.getElem?_eq_some_iff.mp hx).1
  exact tail_any hl.typeIs slot_list_getitem.lookup (wpAny_getItem_list hl h0 (by omega) (by simpa using ht) (q t)) hs
theorem list_mul {q : Nat} {xs : List Value} {n : Int} {u : Tok} {Q : Value → Shared → Prop} (S : St c envs H s) (e : H q = some (.list xs)) (h0 : 0 ≤ n) (h1 : n ≤ 1000) (hz : xs.length ≤ 1) (k : ∀ (a : Nat) s', H a = none → St c envs (upd H a (.list ((List.replicate n.toNat xs).flatten))) s' → Q (.ref a) s') :
    wpAny (model prog w) A (binaryOp .Mult (.ref q) (.int n u)) Q E s := by
  obtain ⟨vs, kk, hl, hm⟩ := S.get e
  have hz2 : vs.size ≤ 1 := by rw [← hm] at hz; simpa using hz
  have hb : vs.size * n.toNat ≤ 1 * n.toNat := Nat.mul_le_mul_right _ hz2
  refine wpAny_binaryOp_repeat_ref (T := "list") (U := "int") (by decide) ⟨_, hl, rfl⟩ (fun s' => typeIs_int s' n u) noFill_list_mul F.fills_int_mul F.slot_int_rmul repeat_list F.slot_int_index.lookup
    (call_meets F.slot_int_rmul (typeIs_int s n u) F.entry_int_rmul (F.args_int_rmul_2 _ _) (int___rmul___int_list n u q vs kk)
      ⟨hl, rfl, ⟨_, hl, rfl⟩, call_meets F.slot_list_mul ⟨_, hl, rfl⟩ F.entry_list_mul (F.args_list_mul_2 _ _)
        (AutoListH.list___mul___list_int_3 q vs kk n u (by simp [Builtin.List.listFitsIndex]; omega) (by omega) (by simp [Builtin.List.listTooLong, sizeLine]; omega))
        ⟨hl, k _ _ (S.fresh (Nat.le_refl _)) (S.new (t := s.toks) (fun b x q => Heap.get?_push_of_some _ q) (Nat.le_refl _) (by intro i; cases i) ⟨_, _, Heap.get?_push_size _ rfl, ?_⟩ (by rw [Heap.size_push]; exact Nat.le_succ _))⟩⟩)
  rw [listMul_foldl_if, List.map_flatten, List.map_replicate, hm]
theorem list_cat {a b : Nat} {xs ys : List Value} {Q : Value → Shared → Prop} (S : St c envs H s) (ea : H a = some (.list xs)) (eb : H b = some (.list ys)) (hz : xs.length + ys.length ≤ 1000) (k : ∀ (d : Nat) s', H d = none → St c envs (upd H d (.list (xs ++ ys))) s' → Q (.ref d) s') :
    wpAny (model prog w) A (binaryOp .Add (.ref a) (.ref b)) Q E s := by
  obtain ⟨va, ka, ha, rfl⟩ := S.get ea
  obtain ⟨vb, kb, hb, rfl⟩ := S.get eb
  refine P.add_list ha hb (k _ _ (S.fresh (Nat.le_refl _)) (S.new (t := s.toks) (fun b x q => Heap.get?_push_of_some _ q) (Nat.le_refl _) (by intro i; cases i) ⟨_, _, Heap.get?_push_size _ rfl, by simp⟩ (by rw [Heap.size_push]; exact Nat.le_succ _))) ?_
  rw [sizeLine_eq]
  simp only [List.length_map, Array.length_toList] at hz
  omega
theorem setItem_upd {l : Addr} {items : Array Value} {n : Nat} {k : Int} {t : Tok} {v : Value} {Q : Unit → Shared → Prop} (ho : s.heap.get? l = some (listOf items n))
    (h0 : 0 ≤ k) (hfit : k < 2 ^ 63) (hn : k < items.size)
    (hQ : Q () { s with heap := s.heap.update l (Obj.mapSeq (·.setIfInBounds k.toNat v)) }) :
    wpAny (model prog w) A (setItem (.ref l) (.int k t) v) Q E s := by
  have hl : s.heap.IsList l items := ⟨_, ho, rfl, n, rfl⟩
  unfold setItem
  try with_reducible refine wpAny_holding ?_
  first | refine wpAny_bind (wpAny_pure ?_) | skip
  refine wpAny_bind (wpAny_sequenceKey hl.typeIs (by decide) ?_)
  refine wpAny_bind (wpAny_callSpecial?_slot (name := Str.ofString "__setitem__") hl.typeIs PySem.slot_list_setitem
    (wpAny_call_entry PySem.slot_list_setitem hl.typeIs PySem.entry_list_setitem ?_ (PySem.args_list_setitem _ _ _)))
  show wpAny _ _ (Builtin.List.listSubscript? (.int k t) >>= _) _ _ s
  refine wpAny_bind (wpAny_listSubscript_int (fitsIndex_of h0 hfit) ?_)
  clear hfit
  obtain ⟨j, rfl⟩ := Int.eq_ofNat_of_zero_le h0
  have hj : j < items.size := by omega
  have hx' : items[j]? = some items[j] := Array.getElem?_eq_getElem hj
  show wpAny _ _ ((seqItemAt l j >>= fun r => pure (r.map (j, ·))) >>= _) _ _ s
  refine wpAny_bind (wpAny_bind (wpAny_seqItemAt ho rfl (wpAny_pure ?_)))
  rw [hx']
  show wpAny _ _ (setSeqItemAt l j v >>= _) _ _ s
  refine wpAny_bind (wpAny_setSeqItemAt ho rfl ?_)
  first
    | exact wpAny_bind (wpAny_pure (wpAny_pure ⟨.none, rfl, wpAny_pure hQ⟩))
    | exact wpAny_pure ⟨.none, rfl, wpAny_pure hQ⟩
theorem list_store {q : Nat} {xs : List Value} {n : Int} {u : Tok} {v : Value} {Q : Unit → Shared → Prop} (S : St c envs H s) (e : H q = some (.list xs)) (h0 : 0 ≤ n) (h1 : n < xs.length) (hz : xs.length ≤ 1000) (k : ∀ s', St c envs (upd H q (.list (xs.set n.toNat (er v)))) s' → Q () s') :
    wpAny (model prog w) A (setItem (.ref q) (.int n u) v) Q E s := by
  obtain ⟨vs, n0, hv, rfl⟩ := S.get e
  rw [List.length_map, Array.length_toList] at h1 hz
  refine setItem_upd hv h0 (by omega) h1 (k _ (S.listSet e hv _ ?_))
  simp [List.map_set]
end
end Mine
end
section
open PySem PySem.W PyProof.Rows PySem.Calls
set_option linter.unusedVariables false
set_option Elab.async false
set_option maxRecDepth 100000
namespace Mine
theorem rRow_at {a : Int} {n i : Nat} {x : Value} (h : (rRow a 1 n)[i]? = some x) : ∃ j : Int, j = a + i ∧ a ≤ j ∧ j < a + n ∧ x = .int j 0 := by
  obtain ⟨hi, rfl⟩ := rRow_get h
  exact ⟨a + (i : Int) * 1, by omega, by omega, by omega, rfl⟩
theorem rRow_map {a : Int} {n : Nat} {f : Value → Option Value} {g : Nat → Value} (h : ∀ i : Nat, i < n → f (.int (a + (i : Int)) 0) = some (g i)) : (rRow a 1 n).filterMap f = (List.range n).map g := by
  unfold rRow
  rw [List.filterMap_map, ← List.filterMap_eq_map]
  have : ∀ i ∈ List.range n, (f ∘ fun k : Nat => Value.int (a + (k : Int) * 1) 0) i = (some ∘ g) i := fun i hi => by
    have e : a + (i : Int) * 1 = a + i := by omega
    show f (.int (a + (i : Int) * 1) 0) = some (g i)
    rw [e]; exact h i (List.mem_range.mp hi)
  exact filterMap_congr' this
where
  filterMap_congr' {α β : Type} {f g : α → Option β} : ∀ {l : List α}, (∀ i ∈ l, f i = g i) → l.filterMap f = l.filterMap g := fun {l} h => by
    induction l with
    | nil => rfl
    | cons x r ih =>
      rw [List.filterMap_cons, List.filterMap_cons, h x (.head _), ih fun i hi => h i (.tail _ hi)]
section
variable {prog : Program} {w : World} {K : Frag} {c : Cx prog w K} {envs outer : List Env} {env cenv : Env} {H G : AH} {A : Around} {E : Value → Shared → Prop} {s : Shared}
theorem iter_range1 {r : Nat} {a b : Int} {t u v : Tok} {Q : Value → Shared → Prop} (S : St c envs (upd H r (.raw (rOb a b 1 t u v))) s) (hr : H r = none) (n : Nat) (hn : b = a + n) (hb : -1000 ≤ a) (hb2 : b ≤ 100000)
    (k : ∀ (it : Nat) s', H it = none → St c envs (upd H it (.raw (rIt (a + ((0 : Nat) : Int) * 1) ((n : Int) - (0 : Nat)) 1))) s' → Q (.ref it) s') : wpAny (model prog w) A (pyIter (.ref r)) Q E s := by
  refine iter_range S (upd_self ..) n ?_ (small_one (by omega) (by omega) (by omega) (by omega)) fun it s' hit S' => k it s' (none_up hit) ?_
  · rw [rangeSize_one]; split <;> omega
  · refine S'.sub (Sub.upd2 ((Sub.refl H).fresh hr) (.inl rfl)) (Frs.fresh ?_ (none_up hit))
    intro env m
    obtain ⟨kk, L, l, h1, h2⟩ := S.frs env m
    refine ⟨kk, L, l, h1, ?_⟩
    by_cases q : L = r
    · subst q; rw [upd_self] at h2; cases h2
    · rw [upd_ne q] at h2; exact h2
theorem size_down {a : Nat} : Builtin.Range.rangeSize a 0 (-1) = (a : Int) := by
  unfold Builtin.Range.rangeSize
  rw [if_neg (by decide)]
  by_cases h : (a : Int) > 0
  · rw [if_pos h]; simp
  · rw [if_neg h]; omega
theorem small_down {a : Nat} (h : a ≤ 1000) : Builtin.Range.small a 0 (-1) = true := by
  unfold Builtin.Range.small
  rw [size_down]
  simp only [Builtin.Range.rangeFitsLong, Bool.and_eq_true, Bool.or_eq_true, decide_eq_true_eq, beq_iff_eq, show ¬ (-1 : Int) > 0 by decide, if_false]
  omega
theorem iter_rangeD {r : Nat} {n : Nat} {t u v : Tok} {Q : Value → Shared → Prop} (S : St c envs (upd H r (.raw (rOb n 0 (-1) t u v))) s) (hr : H r = none) (hn : n ≤ 1000)
    (k : ∀ (it : Nat) s', H it = none → St c envs (upd H it (.raw (rIt ((n : Int) + ((0 : Nat) : Int) * (-1)) ((n : Int) - (0 : Nat)) (-1)))) s' → Q (.ref it) s') : wpAny (model prog w) A (pyIter (.ref r)) Q E s := by
  refine iter_range S (upd_self ..) n size_down (small_down hn) fun it s' hit S' => k it s' (none_up hit) ?_
  refine S'.sub (Sub.upd2 ((Sub.refl H).fresh hr) (.inl rfl)) (Frs.fresh ?_ (none_up hit))
  intro env m
  obtain ⟨kk, L, l, h1, h2⟩ := S.frs env m
  refine ⟨kk, L, l, h1, ?_⟩
  by_cases q : L = r
  · subst q; rw [upd_self] at h2; cases h2
  · rw [upd_ne q] at h2; exact h2
end
end Mine
end
section
open PySem PySem.W PyProof.Rows PySem.Calls
set_option linter.unusedVariables false
set_option Elab.async false
set_option maxRecDepth 100000
namespace Mine
noncomputable def onInt (f : Int → Value) : Value → Option Value
  | .int i _ => some (f i)
  | _ => none
noncomputable def onIntP (p : Int → Bool) (f : Int → Value) : Value → Option Value
  | .int i _ => if p i then some (f i) else none
  | _ => none
theorem onIntP_isSome {p : Int → Bool} {f : Int → Value} {i : Int} {t : Tok} : (onIntP p f (.int i t)).isSome = p i := by
  show (if p i then some (f i) else none).isSome = _
  cases p i <;> rfl
theorem onIntP_val {p : Int → Bool} {f : Int → Value} {i : Int} {t : Tok} {z : Value} (h : onIntP p f (.int i t) = some z) : z = f i := by
  have h' : (if p i then some (f i) else none) = some z := h
  cases q : p i <;> rw [q] at h' <;> cases h'
  rfl
theorem rRow_onIntP {a : Int} {n : Nat} {p : Int → Bool} {f : Int → Value} {q : Nat → Bool} {g : Nat → Value} (hp : ∀ i : Nat, i < n → p (a + (i : Int)) = q i) (h : ∀ i : Nat, i < n → f (a + (i : Int)) = g i) : (rRow a 1 n).filterMap (onIntP p f) = ((List.range n).filter q).map g := by
  unfold rRow
  rw [List.filterMap_map]
  have go : ∀ l : List Nat, (∀ i ∈ l, i < n) → l.filterMap (onIntP p f ∘ fun k : Nat => Value.int (a + (k : Int) * 1) 0) = (l.filter q).map g := by
    intro l
    induction l with
    | nil => intro _; rfl
    | cons i r ih =>
      intro hl
      have hi := hl i (.head _)
      have e : a + (i : Int) * 1 = a + i := by omega
      rw [List.filterMap_cons, List.filter_cons]
      have : (onIntP p f ∘ fun k : Nat => Value.int (a + (k : Int) * 1) 0) i = if q i then some (g i) else none := by
        show (if p (a + (i : Int) * 1) then some (f (a + (i : Int) * 1)) else none) = _
        rw [e, hp i hi, h i hi]
      rw [this]
      cases q i with
      | true => simp only [if_true]; rw [List.map_cons, ih fun i hi => hl i (.tail _ hi)]
      | false => simp only [Bool.false_eq_true, if_false]; exact ih fun i hi => hl i (.tail _ hi)
  exact go _ fun i hi => List.mem_range.mp hi
theorem rRow_onInt {a : Int} {n : Nat} {f : Int → Value} {g : Nat → Value} (h : ∀ i : Nat, i < n → f (a + (i : Int)) = g i) : (rRow a 1 n).filterMap (onInt f) = (List.range n).map g :=
  rRow_map fun i hi => by show some _ = _; rw [h i hi]
end Mine
end
section
open PySem PySem.W PyProof.Rows PySem.Calls
set_option linter.unusedVariables false
set_option Elab.async false
namespace Mine
section
variable {prog : Program} {w : World} {K : Frag} {c : Cx prog w K} {envs outer : List Env} {env cenv : Env} {H G : AH} {A : Around} {E : Value → Shared → Prop} {s : Shared} {P : AH → Prop} {xs : List Value} {ao : Nat → AO} {it C D : Nat}
  {elt iter : Expr} {x : Str} {px : Pos} {ifs : List Expr} {scope : Scope} {pos : Pos} {cl : List (Str × Addr)} {l : List (Str × Value)}
end
end Mine
end
section
open PySem PySem.W PyProof.Rows PySem.Calls
set_option linter.unusedVariables false
set_option Elab.async false
namespace Mine
noncomputable def Kp (L : Nat) (F F' : AH) : Prop := ∀ (a : Nat) o, a ≠ L → F a = some o → F' a = some o
theorem upd_id {H : AH} {a : Nat} {o : AO} (h : H a = some o) : upd H a o = H := by
  funext b
  by_cases q : b = a
  · subst q; rw [upd_self, h]
  · rw [upd_ne q]
theorem join_back {F' G2 : AH} {it L : Nat} {x o : AO} (fit : F' it = none) (nL : L ≠ it) (d : Dj (upd (upd F' it x) L o) G2) :
    join (upd (upd F' it x) L o) G2 = upd (join (upd F' L o) G2) it x ∧ join (upd F' L o) G2 it = none ∧ Dj (upd F' L o) G2 := by
  have hit : upd (upd F' it x) L o it = some x := upd_other (Ne.symm nL) (upd_self ..)
  have g : G2 it = none := d.has hit
  have f : upd F' L o it = none := upd_other (Ne.symm nL) fit
  refine ⟨by rw [upd_comm (Ne.symm nL), upd_join], by rw [join_n f]; exact g, fun b y q => ?_⟩
  have := d b y q
  by_cases h : b = L
  · subst h; rw [upd_self] at this; cases this
  · rw [upd_ne h] at this ⊢
    exact none_up this
end Mine
end
section
open PySem PySem.W PyProof.Rows PySem.Calls
set_option linter.unusedVariables false
set_option Elab.async false
namespace Mine
section
variable {cmp : Nat → Nat → (Bool → Shared → Prop) → Shared → Prop} {I : Shared → Prop} {key : Nat → Int} {N : Nat} {s : Shared} {p : Array Nat}
end
end Mine
end
section
open PySem PySem.W PyProof.Rows PySem.Calls
set_option linter.unusedVariables false
set_option Elab.async false
namespace Mine
section
variable {prog : Program} {w : World} {K : Frag} {c : Cx prog w K} {envs : List Env} {H : AH} {A : Around} {E : Value → Shared → Prop} {s : Shared} {L : Nat} {l : List (Str × Value)}
theorem St.grown {h' : Heap} {m : Str → Option Value} (S : St c envs H s) (hL : H L = some (.ns l)) (hm : ∀ x v, l.lookup x = some v → (m x).map er = some v) (hn : h'.Ns L m)
    (old : ∀ b x, b ≠ L → s.heap.get? b = some x → h'.get? b = some x) : St c envs H { s with heap := h' } := by
  refine ⟨fun b x q => old b x (fun z => ?_) (S.base b x q), fun a o e => ?_, S.low, S.excl, S.envs, S.gens, S.drawn, S.os, ?_⟩
  · have := (S.low L _ hL).1; rw [z, this] at q; cases q
  · by_cases q : a = L
    · subst q; rw [hL] at e; cases e; exact ⟨m, hn, hm⟩
    · refine (S.get e).keep fun b hb x hx => old b x (fun z => ?_) hx
      rcases hb with rfl | ⟨i, rfl⟩
      · exact q z
      · have := S.excl a o e i; rw [z, hL] at this; cases this
  · exact Nat.le_trans ((S.low L _ hL).2.2 rfl) (Nat.le_of_lt hn.lt)
theorem St.add {D : Nat} {o : AO} (S : St c envs H s) (n : H D = none) (b : c.base.get? D = none) (hi : o.isInst = false) (hb : o.isBig = false) (hx : ∀ a x, H a = some x → x.isInst = true → a - 1 ≠ D) (r : Real s.heap D o) : St c envs (upd H D o) s := by
  refine ⟨S.base, fun a x q => ?_, fun a x q => ?_, fun a x q i => ?_, ?_, S.gens, S.drawn, S.os, S.size⟩
  · by_cases z : a = D
    · subst z; rw [upd_self] at q; cases q; exact r
    · rw [upd_ne z] at q; exact S.get q
  · by_cases z : a = D
    · subst z; rw [upd_self] at q; cases q; exact ⟨b, fun i => (by rw [hi] at i; cases i), fun i => (by rw [hb] at i; cases i)⟩
    · rw [upd_ne z] at q; exact S.low a x q
  · by_cases z : a = D
    · subst z; rw [upd_self] at q; cases q; rw [hi] at i; cases i
    · rw [upd_ne z] at q
      exact upd_other (hx a x q i) (S.excl a x q i)
  · exact S.frs.fresh n
noncomputable def allBut (h : Heap) (L : Nat) : List (Addr × Obj) := (List.range h.objs.size).filterMap fun b => if b = L then none else (h.get? b).map fun o => (b, o)
theorem mem_allBut {h : Heap} {L b : Nat} {o : Obj} : (b, o) ∈ allBut h L ↔ b ≠ L ∧ h.get? b = some o := by
  unfold allBut
  rw [List.mem_filterMap]
  constructor
  · rintro ⟨x, hx, e⟩
    by_cases q : x = L
    · rw [if_pos q] at e; cases e
    · rw [if_neg q] at e
      obtain ⟨y, hy, e⟩ := Option.map_eq_some_iff.mp e
      cases e
      exact ⟨q, hy⟩
  · rintro ⟨n, e⟩
    exact ⟨b, List.mem_range.mpr (Heap.lt_size e), by rw [if_neg n, e]; rfl⟩
noncomputable def noHeap (h : Heap) : Heap := { h with objs := #[] }
theorem noHeap_get {h : Heap} {b : Nat} : (noHeap h).get? b = none := by
  cases e : (noHeap h).get? b with
  | none => rfl
  | some o => exact absurd (Heap.lt_size e) (Nat.not_lt.mpr (Nat.zero_le _))
theorem St.whole (S : St c envs H s) (hL : H L = some (.ns l)) : ∃ m, Fr (noHeap s.heap) L s.heap m ∧ News (noHeap s.heap) L s.heap (allBut s.heap L) ∧ ∀ x v, l.lookup x = some v → (m x).map er = some v := by
  obtain ⟨m, hn, hm⟩ := S.get hL
  refine ⟨m, ⟨hn, fun b o e => (by rw [noHeap_get] at e; cases e), Nat.zero_le _⟩, fun p hp => ?_, hm⟩
  obtain ⟨b, o⟩ := p
  obtain ⟨h1, h2⟩ := mem_allBut.mp hp
  exact ⟨h2, h1, noHeap_get⟩
end
end Mine
end
section
open PySem PySem.W PyProof.Rows PySem.Calls
set_option linter.unusedVariables false
set_option Elab.async false
namespace Mine
theorem map_two {vs : List Value} {x y : Value} (h : vs.map er = [x, y]) : ∃ v1 v2, vs = [v1, v2] ∧ er v1 = x ∧ er v2 = y := by
  match vs with
  | [v1, v2] =>
    simp only [List.map_cons, List.map_nil, List.cons.injEq, and_true] at h
    exact ⟨v1, v2, rfl, h.1, h.2⟩
  | [] => cases h
  | [_] => simp at h
  | _ :: _ :: _ :: _ => simp at h
section
variable {prog : Program} {w : World} {K : Frag} {c : Cx prog w K} {envs : List Env} {H : AH} {A : Around} {E : Value → Shared → Prop} {s : Shared}
end
end Mine
namespace Mine
end Mine
end
section
open PySem PySem.W PyProof.Rows PySem.Calls
set_option linter.unusedVariables false
set_option Elab.async false
namespace Mine
end Mine
end
section
open PySem PySem.W PyProof.Rows PySem.Calls
set_option linter.unusedVariables false
set_option Elab.async false
namespace Mine
section
variable {prog : Program} {w : World} {K : Frag} {envs : List Env} {H : AH} {s : Shared}
theorem St.start {p : Program} {loose : List Str} {mean : ExcName → Option Value} {mg mb : Str → Option Value} {s₁ : Shared} {h₁ : Heap} {tk : Nat} {m : Str → Option Value} {L : Nat} {env : Env} (KX : K.In s₁.heap) (TT : Top p loose mean mg mb s₁.heap) (FF : Fr s₁.heap L h₁ m) (he : env.frame = some L) (hk : env.scope.kind ≠ .module) :
    St (⟨p, loose, mg, mb, s₁.heap, s₁.gens, s₁.drawn, s₁.os, KX, topRead_of TT⟩ : Cx prog w K) [env] (upd (fun _ => none) L (.ns [])) { s₁ with heap := h₁, toks := tk } := by
  have one : ∀ (a : Nat) o, upd (fun _ => none) L (.ns []) a = some o → a = L ∧ o = .ns [] := fun a o h => by
    by_cases q : a = L
    · subst q; rw [upd_self] at h; cases h; exact ⟨rfl, rfl⟩
    · rw [upd_ne q] at h; cases h
  refine ⟨FF.keep, fun a o h => ?_, fun a o h => ?_, fun a o h i => ?_, fun e m => ?_, rfl, rfl, rfl, Nat.le_trans FF.above (Nat.le_of_lt FF.ns.lt)⟩
  · obtain ⟨rfl, rfl⟩ := one a o h; exact ⟨m, FF.ns, fun x v q => by cases q⟩
  · obtain ⟨rfl, rfl⟩ := one a o h; exact ⟨get_big FF.above, (fun i => by cases i), fun _ => FF.above⟩
  · obtain ⟨rfl, rfl⟩ := one a o h; cases i
  · rw [List.mem_singleton.mp m]; exact ⟨hk, L, [], he, upd_self ..⟩
noncomputable def Plain (H : AH) : Prop := ∀ (a : Nat) x, H a = some x → x.isInst = false
theorem Plain.upd {a : Nat} {o : AO} (p : Plain H) (h : o.isInst = false) : Plain (Mine.upd H a o) := fun b x q => by
  by_cases z : b = a
  · subst z; rw [upd_self] at q; cases q; exact h
  · rw [upd_ne z] at q; exact p b x q
theorem St.cell {c : Cx prog w K} {D : Nat} {o : Obj} {v : Option Value} (S : St c envs H s) (pl : Plain H) (n : H D = none) (b : c.base.get? D = none) (ho : s.heap.get? D = some o) (hd : o.data = .cell v) : St c envs (upd H D (.cell (v.map er))) s ∧ Plain (upd H D (.cell (v.map er))) :=
  ⟨S.add n b rfl rfl (fun a x q i => by rw [pl a x q] at i; cases i) ⟨o, v, ho, hd, rfl⟩, pl.upd rfl⟩
end
end Mine
end
section
set_option linter.unusedVariables false
set_option Elab.async false
namespace Mine
section
variable (t : RR)
variable {t}
end
end Mine
end
section
set_option linter.unusedVariables false
set_option Elab.async false
namespace Mine
section
variable {t : RR}
end
end Mine
end
section
set_option linter.unusedVariables false
set_option Elab.async false
namespace Mine
section
variable {t : RR}
end
end Mine
end
section
set_option linter.unusedVariables false
set_option Elab.async false
namespace Mine
section
variable {t : RR}
end
end Mine
end
section
set_option linter.unusedVariables false
set_option Elab.async false
namespace Mine
theorem Nd.act_eq {n : Nd} {b : Bool} (h : n.act = b) : { n with act := b } = n := by subst h; rfl
structure GG where
  m : Nat
  nm : Nat → Int
  ab : Nat → Nat
  wt : Nat → Int
  ac : Nat → Bool
  n0 : nm 0 = 0
  inj : ∀ i j, i ≤ m → j ≤ m → nm i = nm j → i = j
  abl : ∀ j, 1 ≤ j → ab j < j
  wl : ∀ j, 1 ≤ wt j
  wh : ∀ j, wt j ≤ 256
  ml : m ≤ 800
namespace GG
noncomputable def insS (nm : Nat → Int) (x : Nat) : List Nat → List Nat
  | [] => [x]
  | y :: r => if nm x < nm y then x :: y :: r else y :: insS nm x r
noncomputable def srt (nm : Nat → Int) : List Nat → List Nat
  | [] => []
  | x :: r => insS nm x (srt nm r)
section
variable {nm : Nat → Int}
theorem insS_perm {x : Nat} : ∀ {l : List Nat}, (insS nm x l).Perm (x :: l)
  | [] => List.Perm.refl _
  | y :: r => by
    unfold insS
    split
    · exact List.Perm.refl _
    · exact (insS_perm.cons y).trans (List.Perm.swap x y r)
theorem srt_perm : ∀ {l : List Nat}, (srt nm l).Perm l
  | [] => List.Perm.refl _
  | x :: r => insS_perm.trans (srt_perm.cons x)
theorem uniq : ∀ {l1 l2 : List Nat}, l1.Perm l2 → l1.Pairwise (fun a b => nm a < nm b) → l2.Pairwise (fun a b => nm a < nm b) → l1 = l2
  | [], l2, p, _, _ => (List.nil_perm.mp p).symm
  | x :: r1, [], p, _, _ => by have := p.length_eq; simp at this
  | x :: r1, y :: r2, p, h1, h2 => by
    have hx := List.pairwise_cons.mp h1
    have hy := List.pairwise_cons.mp h2
    have e : x = y := by
      by_cases q : x = y
      · exact q
      · have m1 : x ∈ y :: r2 := p.mem_iff.mp (.head _)
        have m2 : y ∈ x :: r1 := p.mem_iff.mpr (.head _)
        have m1' : x ∈ r2 := (List.mem_cons.mp m1).resolve_left q
        have m2' : y ∈ r1 := (List.mem_cons.mp m2).resolve_left fun z => q z.symm
        have a := hx.1 y m2'
        have b := hy.1 x m1'
        omega
    subst e
    rw [uniq (List.perm_cons _ |>.mp p) hx.2 hy.2]
theorem insS_sorted {x : Nat} : ∀ {l : List Nat}, l.Pairwise (fun a b => nm a < nm b) → (∀ y ∈ l, nm x ≠ nm y) → (insS nm x l).Pairwise (fun a b => nm a < nm b)
  | [], _, _ => List.pairwise_singleton _ _
  | y :: r, h, n => by
    have hy := List.pairwise_cons.mp h
    unfold insS
    split
    · rename_i q
      refine List.pairwise_cons.mpr ⟨fun z hz => ?_, h⟩
      rcases List.mem_cons.mp hz with rfl | hz
      · exact q
      · exact Int.lt_trans q (hy.1 z hz)
    · rename_i q
      have ny := n y (.head _)
      refine List.pairwise_cons.mpr ⟨fun z hz => ?_, insS_sorted hy.2 fun z hz => n z (.tail _ hz)⟩
      rcases List.mem_cons.mp (insS_perm.mem_iff.mp hz) with rfl | hz
      · omega
      · exact hy.1 z hz
theorem srt_sorted : ∀ {l : List Nat}, l.Pairwise (fun a b => nm a ≠ nm b) → (srt nm l).Pairwise (fun a b => nm a < nm b)
  | [], _ => List.Pairwise.nil
  | x :: r, h => by
    have hx := List.pairwise_cons.mp h
    exact insS_sorted (srt_sorted hx.2) fun y hy => hx.1 y (srt_perm.mem_iff.mp hy)
noncomputable abbrev zr (nm : Nat → Int) (c : Nat) : Int × Int := (0, nm c)
theorem place_zero {c : Nat} : ∀ {l : List Nat}, (∀ y ∈ l, nm c < nm y) → place (klt (zr nm c)) (l.map (zr nm)) = 0
  | [], _ => rfl
  | x :: r, h => by
    rw [List.map_cons]
    unfold place
    rw [place_zero fun y hy => h y (.tail _ hy)]
    have : klt (zr nm c) (zr nm x) = true := by unfold klt; rw [decide_eq_true_eq]; exact .inr ⟨rfl, h x (.head _)⟩
    simp only [this, if_true]
theorem ins_map {c : Nat} : ∀ {l : List Nat}, l.Pairwise (fun a b => nm a < nm b) → (∀ y ∈ l, nm c ≠ nm y) → ins (zr nm c) (l.map (zr nm)) = (insS nm c l).map (zr nm)
  | [], _, _ => rfl
  | x :: r, hs, hn => by
    have hx := List.pairwise_cons.mp hs
    by_cases q : nm c < nm x
    · have h0 : place (klt (zr nm c)) ((x :: r).map (zr nm)) = 0 := place_zero fun y hy => by
        rcases List.mem_cons.mp hy with rfl | hy
        · exact q
        · exact Int.lt_trans q (hx.1 y hy)
      unfold ins insS
      rw [h0, if_pos q]; rfl
    · have ih := ins_map hx.2 fun y hy => hn y (.tail _ hy)
      unfold ins at ih ⊢
      unfold insS
      rw [if_neg q, List.map_cons, List.map_cons, ← ih]
      have hk : klt (zr nm c) (zr nm x) = false := by
        unfold klt; rw [decide_eq_false_iff_not]
        rintro (h | ⟨_, h⟩)
        · exact absurd h (by simp)
        · exact q h
      have : place (klt (zr nm c)) (zr nm x :: r.map (zr nm)) = place (klt (zr nm c)) (r.map (zr nm)) + 1 := by
        conv => lhs; unfold place
        cases place (klt (zr nm c)) (r.map (zr nm)) with
        | zero => simp [hk]
        | succ n => rfl
      rw [this]; rfl
theorem srt_snoc {l : List Nat} {c : Nat} (h : (l ++ [c]).Pairwise (fun a b => nm a ≠ nm b)) : insS nm c (srt nm l) = srt nm (l ++ [c]) := by
  have h1 := (List.pairwise_append.mp h)
  refine uniq ?_ (insS_sorted (srt_sorted h1.1) fun y hy => (h1.2.2 y (srt_perm.mem_iff.mp hy) c (by simp)).symm) (srt_sorted h)
  refine insS_perm.trans ((srt_perm.cons c).trans ?_)
  exact (List.perm_append_comm (l₁ := [c]) (l₂ := l)).trans srt_perm.symm
end
section
variable (g : GG)
noncomputable def cl (i j : Nat) : List Nat := ((List.range i).map (· + 1)).filter fun k => decide (g.ab k = j)
variable {g}
theorem cl_succ {i j : Nat} : g.cl (i + 1) j = g.cl i j ++ (if g.ab (i + 1) = j then [i + 1] else []) := by
  unfold cl
  rw [List.range_succ, List.map_append, List.filter_append]
  congr 1
  by_cases q : g.ab (i + 1) = j <;> simp [q]
theorem cl_mem {i j k : Nat} : k ∈ g.cl i j ↔ 1 ≤ k ∧ k ≤ i ∧ g.ab k = j := by
  unfold cl
  rw [List.mem_filter, List.mem_map, decide_eq_true_eq]
  constructor
  · rintro ⟨⟨x, hx, rfl⟩, h⟩; have := List.mem_range.mp hx; exact ⟨by omega, by omega, h⟩
  · rintro ⟨h1, h2, h3⟩; exact ⟨⟨k - 1, List.mem_range.mpr (by omega), by omega⟩, h3⟩
theorem cl_nodup {i j : Nat} : (g.cl i j).Pairwise (· ≠ ·) := by
  unfold cl
  have h0 : (List.range i).Pairwise (· ≠ ·) := List.nodup_range
  exact List.Pairwise.filter _ (List.pairwise_map.mpr (h0.imp fun h => by omega))
theorem cl_len {i j : Nat} : (g.cl i j).length ≤ i := by
  unfold cl
  refine Nat.le_trans (List.length_filter_le ..) ?_
  rw [List.length_map, List.length_range]; exact Nat.le_refl _
theorem keys {i j : Nat} (h : i ≤ g.m) : (g.cl i j).Pairwise (fun a b => g.nm a ≠ g.nm b) :=
  List.Pairwise.imp_of_mem (fun {a b} ha hb n z => n (g.inj a b (Nat.le_trans (cl_mem.mp ha).2.1 h) (Nat.le_trans (cl_mem.mp hb).2.1 h) z)) cl_nodup
theorem cl_gt {i j k : Nat} (h : k ∈ g.cl i j) : j < k := by
  have := cl_mem.mp h
  rw [← this.2.2]; exact g.abl k this.1
variable (g)
noncomputable def ch (i j : Nat) : List Nat := srt g.nm (g.cl i j)
noncomputable def D (i j : Nat) : Nd := ⟨if j = 0 then 1 else g.wt j, (g.cl i j).map g.nm, if j = 0 then none else some (g.nm (g.ab j)), (g.ch i j).map (zr g.nm), if j = 0 then false else g.ac j, 0, 0⟩
noncomputable def X (M : Mo) (i : Nat) : Mo := adopt (M.put (g.nm (i + 1)) (newNd (g.wt (i + 1)))) (g.nm (g.ab (i + 1))) (g.nm (i + 1))
noncomputable def M : Nat → Mo
  | 0 => Mo.root
  | i + 1 => if g.ac (i + 1) then g.X (M i) i else actv (g.X (M i) i) (g.nm (i + 1)) false
variable {g}
theorem ch_mem {i j c : Nat} : c ∈ g.ch i j ↔ c ∈ g.cl i j := srt_perm.mem_iff
theorem ch_sorted {i j : Nat} (h : i ≤ g.m) : (g.ch i j).Pairwise (fun a b => g.nm a < g.nm b) := srt_sorted (keys h)
theorem ch_len {i j : Nat} : (g.ch i j).length ≤ i := by unfold ch; rw [srt_perm.length_eq]; exact cl_len
noncomputable def At (g : GG) (M : Mo) (i : Nat) (D : Nat → Nd) : Prop := (∀ j, j ≤ i → M (g.nm j) = some (D j)) ∧ ∀ x, (∀ j, j ≤ i → x ≠ g.nm j) → M x = none
noncomputable def D' (g : GG) (i j : Nat) : Nd := if j = i then { g.D i j with act := true } else g.D i j
theorem X_at {i : Nat} {M : Mo} (h : i + 1 ≤ g.m) (a : g.At M i (g.D i)) : g.At (g.X M i) (i + 1) (g.D' (i + 1)) := by
  obtain ⟨a1, a2⟩ := a
  have lt := g.abl (i + 1) (by omega)
  have ne : ∀ j, j ≤ i → g.nm j ≠ g.nm (i + 1) := fun j hj z => by have := g.inj _ _ (by omega) h z; omega
  have hi : (M.put (g.nm (i + 1)) (newNd (g.wt (i + 1)))) (g.nm (g.ab (i + 1))) = some (g.D i (g.ab (i + 1))) := by
    rw [Mo.put_ne (ne _ (by omega))]; exact a1 _ (by omega)
  have e : g.X M i = _ := adopt_eq hi (Mo.put_self ..)
  refine ⟨fun j hj => ?_, fun x hx => ?_⟩
  · rw [e]
    by_cases q : j = g.ab (i + 1)
    · subst q
      rw [Mo.put_self]
      have c1 : g.cl (i + 1) (g.ab (i + 1)) = g.cl i (g.ab (i + 1)) ++ [i + 1] := by rw [cl_succ, if_pos rfl]
      have kk : (g.cl i (g.ab (i + 1)) ++ [i + 1]).Pairwise (fun a b => g.nm a ≠ g.nm b) := by rw [← c1]; exact keys h
      have hq : ins (0, g.nm (i + 1)) ((g.ch i (g.ab (i + 1))).map (zr g.nm)) = (g.ch (i + 1) (g.ab (i + 1))).map (zr g.nm) := by
        unfold ch
        rw [c1, ← srt_snoc kk]
        have h1 := (List.pairwise_append.mp kk)
        exact ins_map (srt_sorted h1.1) fun y hy => (h1.2.2 y (srt_perm.mem_iff.mp hy) (i + 1) (by simp)).symm
      unfold D'
      rw [if_neg (by omega)]
      show some (Nd.mk _ _ _ _ _ _ _) = some (g.D (i + 1) (g.ab (i + 1)))
      unfold D
      rw [← hq, c1, List.map_append]; rfl
    · have n1 : g.nm j ≠ g.nm (g.ab (i + 1)) := fun z => q (g.inj _ _ (by omega) (by omega) z)
      rw [Mo.put_ne n1]
      have c1 : g.cl (i + 1) j = g.cl i j := by rw [cl_succ, if_neg (fun z => q z.symm), List.append_nil]
      by_cases q2 : j = i + 1
      · subst q2
        rw [Mo.put_self]
        have c2 : g.cl (i + 1) (i + 1) = [] := by
          rw [c1]
          exact List.eq_nil_iff_forall_not_mem.mpr fun k hk => by
            have := cl_mem.mp hk
            have := g.abl k this.1
            omega
        unfold D' D ch
        rw [if_pos rfl, c2, if_neg (by omega), if_neg (by omega)]; rfl
      · rw [Mo.put_ne (ne j (by omega)), Mo.put_ne (ne j (by omega)), a1 j (by omega)]
        unfold D'
        rw [if_neg q2]
        unfold D ch; rw [c1]
  · rw [e, Mo.put_ne (hx _ (by omega)), Mo.put_ne (hx _ (Nat.le_refl _)), Mo.put_ne (hx _ (Nat.le_refl _))]
    exact a2 x fun j hj => hx j (by omega)
theorem actv_at {M : Mo} {i j : Int} {b : Bool} {n : Nd} (h : M j = some n) : Mine.actv M i b j = some (if j = i then { n with act := b } else n) := by
  unfold Mine.actv
  cases q : M i with
  | none =>
    have : j ≠ i := fun z => by rw [z, q] at h; cases h
    rw [if_neg this]; exact h
  | some m =>
    by_cases e : j = i
    · subst e; rw [h] at q; cases q; rw [if_pos rfl]; exact Mo.put_self ..
    · rw [if_neg e]; exact (Mo.put_ne e).trans h
theorem actv_none {M : Mo} {i x : Int} {b : Bool} {n : Nd} (h : M i = some n) (hx : M x = none) : Mine.actv M i b x = none := by
  rw [actv_eq h, Mo.put_ne (fun z => by rw [z, h] at hx; cases hx)]; exact hx
theorem M_at : ∀ {i : Nat}, i ≤ g.m → g.At (g.M i) i (g.D i)
  | 0, _ => by
    refine ⟨fun j hj => ?_, fun x hx => ?_⟩
    · obtain rfl : j = 0 := by omega
      rw [g.n0]; rfl
    · exact if_neg (by have := hx 0 (Nat.le_refl _); rwa [g.n0] at this)
  | i + 1, h => by
    obtain ⟨b1, b2⟩ := X_at h (M_at (i := i) (by omega))
    unfold M
    by_cases q : g.ac (i + 1) = true
    · rw [if_pos q]
      refine ⟨fun j hj => ?_, b2⟩
      rw [b1 j hj]
      unfold D'
      split
      · rename_i z; subst z
        have hact : (g.D (i + 1) (i + 1)).act = true := by
          show (if i + 1 = 0 then false else g.ac (i + 1)) = true
          rw [if_neg (by omega), q]
        exact congrArg some (Nd.act_eq hact)
      · rfl
    · rw [if_neg q]
      have q' : g.ac (i + 1) = false := by simpa using q
      refine ⟨fun j hj => ?_, fun x hx => actv_none (b1 _ (Nat.le_refl _)) (b2 x hx)⟩
      rw [actv_at (b1 j hj)]
      unfold D'
      by_cases z : j = i + 1
      · subst z
        rw [if_pos rfl, if_pos rfl]
        have hact : (g.D (i + 1) (i + 1)).act = false := by
          show (if i + 1 = 0 then false else g.ac (i + 1)) = false
          rw [if_neg (by omega), q']
        exact congrArg some (Nd.act_eq hact)
      · rw [if_neg z, if_neg fun y => z (g.inj _ _ (by omega) (by omega) y)]
noncomputable def idx (g : GG) (x : Int) : Nat := ((List.range (g.m + 1)).find? fun j => decide (g.nm j = x)).getD 0
noncomputable def rk (g : GG) (x : Int) : Nat := g.m + 1 - g.idx x
theorem idx_eq {j : Nat} (h : j ≤ g.m) : g.idx (g.nm j) = j := by
  unfold idx
  cases q : (List.range (g.m + 1)).find? (fun k => decide (g.nm k = g.nm j)) with
  | none =>
    have := List.find?_eq_none.mp q j (List.mem_range.mpr (by omega))
    simp at this
  | some k =>
    have h1 := List.find?_some q
    have h2 := List.mem_range.mp (List.mem_of_find?_eq_some q)
    show k = j
    exact g.inj _ _ (by omega) h (by simpa using h1)
theorem rk_eq {j : Nat} (h : j ≤ g.m) : g.rk (g.nm j) = g.m + 1 - j := by unfold rk; rw [idx_eq h]
theorem rk_le {x : Int} : g.rk x ≤ g.m + 1 := by unfold rk; omega
theorem At.inv {M : Mo} {i : Nat} {D : Nat → Nd} (a : g.At M i D) {x : Int} {n : Nd} (hx : M x = some n) : ∃ j, j ≤ i ∧ x = g.nm j ∧ n = D j := by
  by_cases q : ∃ j, j ≤ i ∧ x = g.nm j
  · obtain ⟨j, hj, rfl⟩ := q
    rw [a.1 j hj] at hx
    exact ⟨j, hj, rfl, (Option.some.inj hx).symm⟩
  · rw [a.2 x fun j hj z => q ⟨j, hj, z⟩] at hx; cases hx
noncomputable def Sh (g : GG) (i : Nat) (D : Nat → Nd) : Prop := ∀ j, j ≤ i → (D j).wt = (g.D i j).wt ∧ (D j).kids = (g.D i j).kids ∧ (D j).par = (g.D i j).par ∧ (D j).q = (g.D i j).q ∧ (D j).df = 0
theorem At.ok {M : Mo} {i : Nat} {D : Nat → Nd} (a : g.At M i D) (h : i ≤ g.m) (sh : g.Sh i D) : OkM g.rk M := by
  have ml := g.ml
  refine ⟨fun x n hx => ?_⟩
  obtain ⟨j, hj, rfl, rfl⟩ := a.inv hx
  obtain ⟨s1, s2, s3, s4, s5⟩ := sh j hj
  rw [s1, s4, s5]
  have hl := @ch_len g i j
  refine ⟨?_, ?_, Int.le_refl _, (by decide : (0 : Int) < 256), ?_, fun e he => ?_⟩
  · show 1 ≤ (if j = 0 then 1 else g.wt j)
    split
    · exact Int.le_refl _
    · exact g.wl j
  · show (if j = 0 then 1 else g.wt j) ≤ 256
    split
    · decide
    · exact g.wh j
  · show ((g.ch i j).map (zr g.nm)).length ≤ 1000
    rw [List.length_map]; omega
  · obtain ⟨c, hc, rfl⟩ := List.mem_map.mp he
    have hm := ch_mem.mp hc
    have hc' := cl_mem.mp hm
    have lt := cl_gt hm
    refine ⟨⟨_, a.1 c hc'.2.1⟩, ?_⟩
    show g.rk (g.nm c) < g.rk (g.nm j)
    rw [rk_eq (by omega), rk_eq (by omega)]
    omega
theorem At.clo {M : Mo} {i : Nat} {D : Nat → Nd} (a : g.At M i D) (h : i ≤ g.m) (sh : g.Sh i D) : Clo M := by
  refine ⟨fun x n hx k hk => ?_, fun x n p hx hp => ?_⟩
  · obtain ⟨j, hj, rfl, rfl⟩ := a.inv hx
    rw [(sh j hj).2.1] at hk
    obtain ⟨c, hc, rfl⟩ := List.mem_map.mp hk
    exact ⟨_, a.1 c (cl_mem.mp hc).2.1⟩
  · obtain ⟨j, hj, rfl, rfl⟩ := a.inv hx
    rw [(sh j hj).2.2.1] at hp
    have hp' : (if j = 0 then none else some (g.nm (g.ab j))) = some p := hp
    by_cases q : j = 0
    · rw [if_pos q] at hp'; cases hp'
    · rw [if_neg q] at hp'
      cases hp'
      have lt := g.abl j (by omega)
      exact ⟨_, a.1 (g.ab j) (by omega)⟩
theorem Sh.refl {i : Nat} : g.Sh i (g.D i) := fun j hj => ⟨rfl, rfl, rfl, rfl, rfl⟩
theorem M_ok {i : Nat} (h : i ≤ g.m) : OkM g.rk (g.M i) := (M_at h).ok h Sh.refl
theorem M_good {i : Nat} (h : i < g.m) : OkM g.rk (g.M i) ∧ Clo (g.M i) ∧ g.M i (g.nm (i + 1)) = none ∧ (∃ d, g.M i (g.nm (g.ab (i + 1))) = some d ∧ d.q.length ≤ 900 ∧ d.kids.length ≤ 900) ∧ ∃ n, g.M i 0 = some n := by
  have a := M_at (g := g) (i := i) (by omega)
  have lt := g.abl (i + 1) (by omega)
  have ml := g.ml
  refine ⟨M_ok (by omega), a.clo (by omega) Sh.refl, a.2 _ fun j hj z => ?_, ⟨_, a.1 _ (by omega), ?_, ?_⟩, ⟨g.D i 0, ?_⟩⟩
  · have := g.inj _ _ (by omega) (by omega) z; omega
  · show ((g.ch i _).map (zr g.nm)).length ≤ 900
    rw [List.length_map]
    exact Nat.le_trans ch_len (by omega)
  · show ((g.cl i _).map g.nm).length ≤ 900
    rw [List.length_map]
    exact Nat.le_trans cl_len (by omega)
  · have := a.1 0 (Nat.zero_le _)
    rwa [g.n0] at this
theorem X_good {i : Nat} (h : i < g.m) : ∃ d, g.X (g.M i) i (g.nm (i + 1)) = some d := ⟨_, (X_at h (M_at (by omega))).1 _ (Nat.le_refl _)⟩
theorem nm_ne {j : Nat} (h1 : 1 ≤ j) (h : j ≤ g.m) : g.nm j ≠ 0 := fun z => by
  rw [← g.n0] at z
  have := g.inj _ _ h (Nat.zero_le _) z; omega
end
end GG
end Mine
end
section
open PySem PySem.W PyProof.Rows PySem.Calls
set_option linter.unusedVariables false
set_option Elab.async false
namespace Mine
noncomputable def intsV (l : List Int) : List Value := l.map fun i => .int i 0
theorem intsAre_of : ∀ {vs : List Value} {l : List Int}, vs.map er = intsV l → IntsAre vs l
  | [], [], _ => .nil
  | [], _ :: _, h => by simp [intsV] at h
  | _ :: _, [], h => by simp [intsV] at h
  | v :: vs, i :: l, h => by
    simp only [intsV, List.map_cons, List.cons.injEq] at h
    obtain ⟨t, rfl⟩ := er_int h.1
    exact .cons i t (intsAre_of h.2)
section
variable {prog : Program} {w : World} {K : Frag} {c : Cx prog w K} {envs outer : List Env} {env : Env} {H : AH} {A : Around} {E : Value → Shared → Prop} {s : Shared}
theorem St.more {h' : Heap} {L : Nat} {l : List (Str × Value)} (S : St c envs H s) (hL : H L = some (.ns l)) (old : ∀ b x, s.heap.get? b = some x → h'.get? b = some x) (tk : Nat) : St c envs H { s with heap := h', toks := tk } := by
  obtain ⟨m, hn, hm⟩ := S.get hL
  obtain ⟨o, es, ep, h1, h2⟩ := hn
  have hn' : h'.Ns L m := ⟨o, es, ep, old _ _ h1, h2⟩
  exact (S.grown hL hm hn' fun b x _ q => old b x q).tok tk
theorem St.ints {q : Nat} {l : List Int} (S : St c envs H s) (e : H q = some (.list (intsV l))) : ∃ vs : List Value, s.heap.IsList q vs.toArray ∧ IntsAre vs l := by
  obtain ⟨vs, h1, h2⟩ := S.list e
  exact ⟨vs, h1, intsAre_of h2⟩
theorem in_ints {q : Nat} {l : List Int} {k : Int} {t : Tok} {Q : Value → Shared → Prop} (S : St c envs H s) (e : H q = some (.list (intsV l))) (h : Q (.bool (l.any (· == k))) s) : wpAny (model prog w) A (compareOp .In (.int k t) (.ref q)) Q E s := by
  obtain ⟨vs, h1, h2⟩ := S.ints e
  exact in_list_ints h1 h2 h
theorem notin_ints {q : Nat} {l : List Int} {k : Int} {t : Tok} {Q : Value → Shared → Prop} (S : St c envs H s) (e : H q = some (.list (intsV l))) (h : Q (.bool (!(l.any (· == k)))) s) : wpAny (model prog w) A (compareOp .NotIn (.int k t) (.ref q)) Q E s := by
  obtain ⟨vs, h1, h2⟩ := S.ints e
  exact notin_list_ints h1 h2 h
end
end Mine
end
section
set_option linter.unusedVariables false
set_option Elab.async false
namespace Mine
section
variable {g : GG} {a : Nat → Bool}
end
end Mine
end
section
open PySem PySem.W PyProof.Rows PySem.Calls
set_option linter.unusedVariables false
set_option Elab.async false
namespace Mine
end Mine
end
section
set_option linter.unusedVariables false
set_option Elab.async false
namespace Mine
section
variable {ns : List Int}
end
end Mine
end
section
set_option linter.unusedVariables false
set_option Elab.async false
namespace Mine
section
variable {ns : List Int}
end
end Mine
end
section
open PySem PySem.W PyProof.Rows PySem.Calls
set_option linter.unusedVariables false
set_option Elab.async false
namespace Mine
theorem join_assoc {F G H : AH} : join (join F G) H = join F (join G H) := by
  funext a; unfold join; cases F a <;> rfl
theorem join_swap {F G1 G2 : AH} (d1 : Dj F G1) (d2 : Dj (join F G1) G2) : join (join F G1) G2 = join (join F G2) G1 ∧ Dj F G2 ∧ Dj (join F G2) G1 := by
  refine ⟨?_, fun a o h => (join_none (d2 a o h)).1, fun a o h => ?_⟩
  · funext a
    unfold join
    cases hf : F a with
    | some o => rfl
    | none =>
      cases h1 : G1 a with
      | none => simp only; cases G2 a <;> rfl
      | some o =>
        cases h2 : G2 a with
        | none => rfl
        | some o2 => have := (join_none (d2 a o2 h2)).2; rw [h1] at this; cases this
  · have f := d1 a o h
    cases h2 : G2 a with
    | none => rw [join_n f]; exact h2
    | some o2 => have := (join_none (d2 a o2 h2)).2; rw [h] at this; cases this
theorem Dj.joinl {F G H : AH} (d1 : Dj F H) (d2 : Dj G H) : Dj (join F G) H := fun a o h => by rw [join_n (d1 a o h)]; exact d2 a o h
theorem Dj.joinr {F G H : AH} (d1 : Dj F G) (d2 : Dj F H) : Dj F (join G H) := fun a o h => by
  cases q : G a with
  | some x => exact d1 a x q
  | none => rw [join_n q] at h; exact d2 a o h
theorem Dj.of_l {F G H : AH} (d : Dj (join F G) H) : Dj F H := fun a o h => (join_none (d a o h)).1
theorem Dj.of_r {F G H : AH} (d : Dj (join F G) H) : Dj G H := fun a o h => (join_none (d a o h)).2
theorem Dj.to_l {F G H : AH} (d : Dj F (join G H)) : Dj F G := fun a o h => d a o (join_l h)
noncomputable def ksG (g : GG) (i : Nat) : List Int := (List.range (i + 1)).map g.nm
theorem ksG_len {g : GG} {i : Nat} : (ksG g i).length = i + 1 := by unfold ksG; simp
theorem ksG_succ {g : GG} {i : Nat} : ksG g i ++ [g.nm (i + 1)] = ksG g (i + 1) := by
  unfold ksG; rw [List.range_succ (n := i + 1), List.map_append]; rfl
theorem ksG_zero {g : GG} : ksG g 0 = [0] := by unfold ksG; show [g.nm 0] = _; rw [g.n0]
section
variable {prog : Program} {w : World} {K : Frag} {c : Cx prog w K} {envs outer : List Env} {env : Env} {F G H : AH} {A : Around} {E : Value → Shared → Prop} {s : Shared}
noncomputable def TurnAt (c : Cx prog w K) (envs : List Env) (L : Nat) (F : AH) (I : Nat → List (Str × Value) → AH → Prop) (i : Nat) (s : Shared) : Prop :=
  ∃ l G, I i l G ∧ Dj F G ∧ St c envs (join (upd F L (.ns l)) G) s
theorem for_tree {x : Str} {px : Pos} {body orelse : List Stmt} {it L : Nat} {l : List (Str × Value)} {R : Result → Shared → Prop} {P : AH → Prop} {xs : List Value} {ao : Nat → AO} (row : Row prog w P xs ao)
    (I : Nat → List (Str × Value) → AH → Prop) (S : St c envs (upd (join F G) it (ao 0)) s) (n : join F G it = none) (hL : F L = some (.ns l)) (fr : Frs envs F) (dj : Dj F G) (hI : I 0 l G)
    (hP : ∀ i l G, I i l G → Dj F G → P (join (upd F L (.ns l)) G)) (hh : A.handled = none)
    (turn : ∀ (i : Nat) (F2 : AH) (l : List (Str × Value)) (G' : AH) (s' : Shared) (y : Value), I i l G' → xs[i]? = some y → Kp L F F2 → F2 L = some (.ns ((x, y) :: l)) → Dj F2 G' → Frs envs F2 → St c envs (join F2 G') s' → ∀ (QB : Flow → Shared → Prop) (EB : Value → Shared → Prop), (∀ f s₃, (match f with
          | .next | .cont => TurnAt c envs L F2 I (i + 1) s₃
          | .brk => R (.ok .next) s₃
          | .ret v => R (.ok (.ret v)) s₃) → QB f s₃) →
      wpAny (model prog w) A (execs body env) QB EB s')
    (fin : ∀ l G s', I xs.length l G → Dj F G → St c envs (join (upd F L (.ns l)) G) s' → wpAny (model prog w) A (execs orelse env) (fun f s₃ => R (.ok f) s₃) (notedBy (model prog w) A env fun e s' => R (.error e) s') s')
    (hloc : env.locals = L := by rfl) (hk : env.scope.kind = .function := by rfl) (hl : env.kindOf x = some .local := by rfl) :
    codeAny (model prog w) A (.forLoop (.Name x px) (.ref it) body orelse env) R s := by
  obtain ⟨fi, gi⟩ := join_none n
  have nL : L ≠ it := ne_fresh fi hL
  have e0 : join F G = join (upd F L (.ns l)) G := by rw [upd_id hL]
  refine for_row row (fun i Hc => ∃ l G, I i l G ∧ Dj F G ∧ Hc = join (upd F L (.ns l)) G) S n ⟨l, G, hI, dj, e0⟩ ?_ (fun _ _ _ => .inl hh) ?_ ?_
  · rintro i _ ⟨l', G', h1, h2, rfl⟩; exact hP i l' G' h1 h2
  · rintro i _ s' v y ⟨l', G', h1, h2, rfl⟩ hit hy hv S'
    obtain ⟨fi', gi'⟩ := join_none hit
    refine wpAny_assign_Name (stv S' (upd_other nL (join_l (upd_self ..))) hv (fun s4 S4 => ?_) hloc hk hl)
    have e1 : upd (upd (join (upd F L (.ns l')) G') it (ao (i + 1))) L (.ns ((x, y) :: l')) = join (upd (upd F it (ao (i + 1))) L (.ns ((x, y) :: l'))) G' := by
      rw [upd_join, upd_join, upd_comm (a := L) (b := it) nL, upd_upd]
    rw [e1] at S4
    have d2 : Dj (upd (upd F it (ao (i + 1))) L (.ns ((x, y) :: l'))) G' := (h2.l gi').l (h2.has hL)
    refine wpAny_mono (turn i (upd (upd F it (ao (i + 1))) L (.ns ((x, y) :: l'))) l' G' s4 y h1 hy (fun a o n h => upd_other n (upd_other (ne_fresh fi h) h)) (upd_self ..) d2 ((fr.fresh fi).ns (upd_other nL hL)) S4 _ _ fun _ _ x => x) (fun f s5 h5 => ?_) fun _ _ x => x
    have back : TurnAt c envs L (upd (upd F it (ao (i + 1))) L (.ns ((x, y) :: l'))) I (i + 1) s5 → RowAt c envs (fun i Hc => ∃ l G, I i l G ∧ Dj F G ∧ Hc = join (upd F L (.ns l)) G) ao it (i + 1) s5 := by
      rintro ⟨l3, G3, j1, j2, S5⟩
      rw [upd_upd] at S5
      have d3 : Dj (upd (upd F it (ao (i + 1))) L (.ns l3)) G3 := by
        have := j2.l (o := .ns l3) (j2.has (upd_self ..))
        rwa [upd_upd] at this
      obtain ⟨b1, b2, b3⟩ := join_back fi nL d3
      rw [b1] at S5
      refine RowAt.mk ⟨l3, G3, j1, fun a o h => ?_, rfl⟩ b2 S5
      have := b3 a o h
      exact none_up this
    cases f with
    | next => exact back h5
    | cont => exact back h5
    | brk => exact h5
    | ret v => exact h5
  · rintro _ s' ⟨l', G', h1, h2, rfl⟩ S'
    exact fin l' G' s' h1 h2 S'
end
end Mine
end
section
open PySem PySem.W PyProof.Rows PySem.Calls
set_option linter.unusedVariables false
set_option Elab.async false
namespace Mine
noncomputable def forBody : Stmt → List Stmt
  | .For _ _ b _ _ => b
  | _ => []
section
variable {prog : Program} {w : World} {K : Frag} {c : Cx prog w K} {envs outer : List Env} {env : Env} {H : AH} {A : Around} {E : Value → Shared → Prop} {s : Shared}
end
end Mine
end
section
open PySem PySem.W PyProof.Rows PySem.Calls
set_option linter.unusedVariables false
set_option Elab.async false
namespace Mine
end Mine
end
section
set_option linter.unusedVariables false
set_option Elab.async false
namespace Mine
noncomputable def srtd (q : List (Int × Int)) : Prop := q.Pairwise fun a b => klt a b = true
theorem klt_iff {a b : Int × Int} : klt a b = true ↔ a.1 < b.1 ∨ (a.1 = b.1 ∧ a.2 < b.2) := by unfold klt; exact decide_eq_true_iff
theorem klt_trans {a b d : Int × Int} (h : klt a b = true) (k : klt b d = true) : klt a d = true := by
  rw [klt_iff] at *; omega
theorem klt_irr {a : Int × Int} : ¬ klt a a = true := by rw [klt_iff]; omega
theorem klt_total {a b : Int × Int} (h : a ≠ b) : klt a b = true ∨ klt b a = true := by
  rw [klt_iff, klt_iff]
  by_cases q : a.1 = b.1
  · have : a.2 ≠ b.2 := fun z => h (Prod.ext q z)
    omega
  · omega
theorem place_srtd {x : Int × Int} : ∀ {q : List (Int × Int)}, srtd q → (∀ e ∈ q, e ≠ x) → (∀ e ∈ q.take (place (klt x) q), klt e x = true) ∧ ∀ e ∈ q.drop (place (klt x) q), klt x e = true
  | [], _, _ => ⟨fun e h => by simp [place] at h, fun e h => by simp [place] at h⟩
  | y :: r, hs, hn => by
    obtain ⟨h1, h2⟩ := List.pairwise_cons.mp hs
    obtain ⟨a, b⟩ := place_srtd h2 fun e h => hn e (.tail _ h)
    have hl := place_le (klt x) r
    unfold place
    split
    · rename_i hp
      rw [hp] at a b
      split
      · rename_i hy
        exact ⟨fun e h => by simp at h, fun e h => by
          rcases List.mem_cons.mp h with rfl | h
          · exact hy
          · exact b e h⟩
      · rename_i hy
        have hyx : klt y x = true := by
          rcases klt_total (hn y (.head _)) with q | q
          · exact q
          · exact absurd q hy
        exact ⟨fun e h => by
          have : e = y := by simpa using h
          rw [this]; exact hyx, fun e h => b e h⟩
    · rename_i n hp
      rw [hp] at a b hl
      refine ⟨fun e h => ?_, fun e h => b e h⟩
      rcases List.mem_cons.mp h with rfl | h
      · cases r with
        | nil => simp at hl
        | cons z r' => exact klt_trans (h1 z (.head _)) (a z (.head _))
      · exact a e h
theorem ins_perm (x : Int × Int) (q : List (Int × Int)) : (ins x q).Perm (x :: q) := by
  unfold ins put
  have : (q.take (place (klt x) q) ++ x :: q.drop (place (klt x) q)).Perm (x :: (q.take (place (klt x) q) ++ q.drop (place (klt x) q))) := List.perm_middle
  rw [List.take_append_drop] at this
  exact this
theorem ins_srtd {x : Int × Int} {q : List (Int × Int)} (hs : srtd q) (hn : ∀ e ∈ q, e ≠ x) : srtd (ins x q) := by
  obtain ⟨a, b⟩ := place_srtd hs hn
  unfold ins put srtd
  rw [List.pairwise_append, List.pairwise_cons]
  have hs' := hs
  rw [← List.take_append_drop (place (klt x) q) q] at hs'
  obtain ⟨c1, c2, c3⟩ := List.pairwise_append.mp hs'
  refine ⟨c1, ⟨b, c2⟩, fun e he f hf => ?_⟩
  rcases List.mem_cons.mp hf with rfl | hf
  · exact a e he
  · exact c3 e he f hf
noncomputable def pick (f : Nat → Int × Int) : List Nat → Option Nat
  | [] => none
  | c :: r => match pick f r with
    | none => some c
    | some d => if klt (f c) (f d) then some c else some d
theorem pick_some {f : Nat → Int × Int} : ∀ {l : List Nat}, l ≠ [] → ∃ c, pick f l = some c
  | [], h => absurd rfl h
  | c :: r, _ => by
    unfold pick
    split
    · exact ⟨c, rfl⟩
    · split <;> exact ⟨_, rfl⟩
theorem pick_min {f : Nat → Int × Int} : ∀ {l : List Nat} {c : Nat}, (∀ a ∈ l, ∀ b ∈ l, a ≠ b → f a ≠ f b) → pick f l = some c → c ∈ l ∧ ∀ d ∈ l, d ≠ c → klt (f c) (f d) = true
  | [], _, _, h => by cases h
  | a :: r, c, hi, h => by
    unfold pick at h
    split at h
    · rename_i q
      cases h
      cases r with
      | nil => exact ⟨.head _, fun d hd n => absurd (List.mem_singleton.mp hd) n⟩
      | cons b r' =>
        obtain ⟨x, hx⟩ := pick_some (f := f) (l := b :: r') (by simp)
        rw [hx] at q; cases q
    · rename_i d q
      obtain ⟨m, hm⟩ := pick_min (fun x hx y hy => hi x (.tail _ hx) y (.tail _ hy)) q
      split at h
      · rename_i hk
        cases h
        refine ⟨.head _, fun e he n => ?_⟩
        rcases List.mem_cons.mp he with rfl | he
        · exact absurd rfl n
        · by_cases z : e = d
          · subst z; exact hk
          · exact klt_trans hk (hm e he z)
      · rename_i hk
        cases h
        refine ⟨.tail _ m, fun e he n => ?_⟩
        rcases List.mem_cons.mp he with rfl | he
        · rcases klt_total (hi e (.head _) c (.tail _ m) n) with z | z
          · exact absurd z hk
          · exact z
        · exact hm e he n
noncomputable def inc (k : Nat → Nat) (c : Nat) : Nat → Nat := fun j => if j = c then k j + 1 else k j
theorem inc_self {k : Nat → Nat} {c : Nat} : inc k c c = k c + 1 := if_pos rfl
theorem inc_ne {k : Nat → Nat} {c j : Nat} (h : j ≠ c) : inc k c j = k j := if_neg h
noncomputable def lev (w : Int) (m : Nat) : Int := (256 * (m : Int)) / w
noncomputable def remn (w : Int) (m : Nat) : Int := (256 * (m : Int)) % w
theorem lev_next {w : Int} (h : 1 ≤ w) (m : Nat) : lev w m + (256 + remn w m) / w = lev w (m + 1) ∧ (256 + remn w m) % w = remn w (m + 1) := by
  unfold lev remn
  have e : 256 * ((m + 1 : Nat) : Int) = (256 + (256 * (m : Int)) % w) + w * ((256 * (m : Int)) / w) := by
    have := Int.emod_add_mul_ediv (256 * (m : Int)) w
    rw [show ((m + 1 : Nat) : Int) = (m : Int) + 1 from rfl]
    omega
  rw [e, Int.add_mul_ediv_left _ _ (by omega), Int.add_mul_emod_self_left]
  exact ⟨Int.add_comm _ _, rfl⟩
theorem lev_lt {w : Int} (h1 : 1 ≤ w) (h2 : w ≤ 256) (m : Nat) : lev w m < lev w (m + 1) := by
  have h := (lev_next h1 m).1
  have r0 : 0 ≤ remn w m := Int.emod_nonneg _ (by omega)
  have : 1 ≤ (256 + remn w m) / w := by
    rw [Int.le_ediv_iff_mul_le (by omega)]; omega
  omega
theorem lev_mono {w : Int} (h1 : 1 ≤ w) (h2 : w ≤ 256) {a b : Nat} (h : a ≤ b) : lev w a ≤ lev w b := by
  induction h with
  | refl => exact Int.le_refl _
  | step _ ih => exact Int.le_of_lt (Int.lt_of_le_of_lt ih (lev_lt h1 h2 _))
end Mine
end
section
set_option linter.unusedVariables false
set_option Elab.async false
namespace Mine
structure Nod (l : List Nat) (w nm : Nat → Int) : Prop where
  nd : l.Nodup
  ne : l ≠ []
  inj : ∀ a ∈ l, ∀ b ∈ l, a ≠ b → nm a ≠ nm b
  w1 : ∀ a ∈ l, 1 ≤ w a
  w2 : ∀ a ∈ l, w a ≤ 256
noncomputable def entk (w nm : Nat → Int) (k : Nat → Nat) (c : Nat) : Int × Int := (lev (w c) (k c), nm c)
noncomputable def kk (l : List Nat) (w nm : Nat → Int) : Nat → Nat → Nat
  | 0 => fun _ => 0
  | x + 1 => match pick (entk w nm (kk l w nm x)) l with
    | some c => inc (kk l w nm x) c
    | none => kk l w nm x
noncomputable def sg (l : List Nat) (w nm : Nat → Int) (x : Nat) : Nat := (pick (entk w nm (kk l w nm x)) l).getD 0
section
variable {l : List Nat} {w nm : Nat → Int}
theorem Nod.einj (N : Nod l w nm) (k : Nat → Nat) : ∀ a ∈ l, ∀ b ∈ l, a ≠ b → entk w nm k a ≠ entk w nm k b := fun a ha b hb n z => N.inj a ha b hb n (congrArg (·.2) z)
theorem Nod.sg (N : Nod l w nm) (x : Nat) : pick (entk w nm (kk l w nm x)) l = some (Mine.sg l w nm x) := by
  obtain ⟨c, hc⟩ := pick_some (f := entk w nm (kk l w nm x)) N.ne
  unfold Mine.sg; rw [hc]; rfl
theorem Nod.min (N : Nod l w nm) (x : Nat) : Mine.sg l w nm x ∈ l ∧ ∀ d ∈ l, d ≠ Mine.sg l w nm x → klt (entk w nm (kk l w nm x) (Mine.sg l w nm x)) (entk w nm (kk l w nm x) d) = true := pick_min (N.einj _) (N.sg x)
theorem Nod.succ (N : Nod l w nm) (x : Nat) : kk l w nm (x + 1) = inc (kk l w nm x) (Mine.sg l w nm x) := by
  show (match pick (entk w nm (kk l w nm x)) l with | some c => inc (kk l w nm x) c | none => kk l w nm x) = _
  rw [N.sg]
theorem sum_inc {k : Nat → Nat} {c : Nat} : ∀ {l : List Nat}, l.Nodup → c ∈ l → (l.map (inc k c)).sum = (l.map k).sum + 1
  | [], _, h => by cases h
  | a :: r, hn, h => by
    obtain ⟨h1, h2⟩ := List.nodup_cons.mp hn
    simp only [List.map_cons, List.sum_cons]
    by_cases q : a = c
    · subst q
      have : r.map (inc k a) = r.map k := List.map_congr_left fun x hx => inc_ne fun z => h1 (z ▸ hx)
      rw [this, inc_self]; omega
    · rcases List.mem_cons.mp h with z | z
      · exact absurd z.symm q
      · rw [sum_inc h2 z, inc_ne q]; omega
theorem Nod.sum (N : Nod l w nm) : ∀ x, (l.map (kk l w nm x)).sum = x
  | 0 => by
    have : ∀ l : List Nat, (l.map fun _ => 0).sum = 0 := fun l => by induction l with
      | nil => rfl
      | cons a r ih => simp only [List.map_cons, List.sum_cons, ih]
    exact this l
  | x + 1 => by rw [N.succ, sum_inc N.nd (N.min x).1, N.sum x]
theorem Nod.popped (N : Nod l w nm) : ∀ x, ∀ c ∈ l, ∀ d ∈ l, ∀ m, m < kk l w nm x c → klt (lev (w c) m, nm c) (lev (w d) (kk l w nm x d), nm d) = true
  | 0, c, hc, d, hd, m, h => absurd h (Nat.not_lt_zero _)
  | x + 1, c, hc, d, hd, m, h => by
    obtain ⟨s1, s2⟩ := N.min x
    rw [N.succ] at h ⊢
    have up : ∀ j, j ∈ l → lev (w j) (kk l w nm x j) ≤ lev (w j) (inc (kk l w nm x) (Mine.sg l w nm x) j) := fun j hj => lev_mono (N.w1 j hj) (N.w2 j hj) (by unfold inc; split <;> omega)
    have key : ∀ {a : Int × Int}, klt a (lev (w d) (kk l w nm x d), nm d) = true → klt a (lev (w d) (inc (kk l w nm x) (Mine.sg l w nm x) d), nm d) = true := fun {a} h => by
      have := up d hd
      rw [klt_iff] at h ⊢
      simp only at h ⊢
      omega
    by_cases q : m < kk l w nm x c
    · exact key (N.popped x c hc d hd m q)
    · have e : c = Mine.sg l w nm x := Classical.byContradiction fun z => by rw [inc_ne z] at h; exact q h
      have em : m = kk l w nm x c := by rw [e, inc_self] at h; rw [e] at q ⊢; omega
      subst em
      by_cases z : d = c
      · rw [z, klt_iff]
        left
        simp only
        rw [e, inc_self]
        exact lev_lt (N.w1 _ s1) (N.w2 _ s1) _
      · have := s2 d hd (fun y => z (y.trans e.symm))
        rw [← e] at this
        exact key this
theorem lev_round {L B P : Int} (hL : 1 ≤ L) (hB : 1 ≤ B) (hP : B * P = 256) (t m : Nat) : lev (L * B) (t * L.toNat + m) = P * t + lev (L * B) m := by
  unfold lev
  have e : ((t * L.toNat + m : Nat) : Int) = (t : Int) * L + m := by
    rw [Int.natCast_add, Int.natCast_mul, Int.toNat_of_nonneg (by omega)]
  have e2 : (256 : Int) * ((t : Int) * L + m) = 256 * (m : Int) + (L * B) * (P * t) := by
    rw [← hP]
    rw [Int.mul_add, Int.add_comm]
    congr 1
    rw [Int.mul_comm B P, Int.mul_comm L B, Int.mul_assoc P B, Int.mul_assoc B L, Int.mul_left_comm P B]
    congr 1
    rw [Int.mul_left_comm L P, Int.mul_comm L]
  rw [e, e2, Int.add_mul_ediv_left _ _ (by have := Int.mul_pos (show 0 < L by omega) (show 0 < B by omega); omega)]
  exact Int.add_comm _ _
theorem lev_zero {w : Int} : lev w 0 = 0 := by unfold lev; simp
theorem lev_below {L B P : Int} (hL : 1 ≤ L) (hB : 1 ≤ B) (hP : B * P = 256) {t m : Nat} (h : m < t * L.toNat) : lev (L * B) m < P * t := by
  unfold lev
  have hp : 0 < L * B := Int.mul_pos (by omega) (by omega)
  refine (Int.ediv_lt_iff_lt_mul hp).mpr ?_
  have e2 : P * t * (L * B) = 256 * ((t : Int) * L) := by
    rw [← hP, Int.mul_comm B P, Int.mul_assoc P, Int.mul_assoc P B]
    congr 1
    rw [← Int.mul_assoc, Int.mul_comm]
  have h2 : (m : Int) < (t : Int) * L := by
    have : ((m : Nat) : Int) < ((t * L.toNat : Nat) : Int) := by omega
    rw [Int.natCast_mul, Int.toNat_of_nonneg (by omega)] at this
    exact this
  omega
theorem sum_lt_ex {f g : Nat → Nat} : ∀ {l : List Nat}, (l.map f).sum < (l.map g).sum → ∃ a ∈ l, f a < g a
  | [], h => by simp at h
  | x :: r, h => by
    simp only [List.map_cons, List.sum_cons] at h
    by_cases q : f x < g x
    · exact ⟨x, .head _, q⟩
    · obtain ⟨a, ha, k⟩ := sum_lt_ex (l := r) (f := f) (g := g) (by omega)
      exact ⟨a, .tail _ ha, k⟩
theorem sum_eq_ex {f g : Nat → Nat} : ∀ {l : List Nat} {c : Nat}, (l.map f).sum = (l.map g).sum → c ∈ l → g c < f c → ∃ a ∈ l, f a < g a
  | [], _, _, h, _ => by cases h
  | x :: r, c, h, hc, k => by
    simp only [List.map_cons, List.sum_cons] at h
    rcases List.mem_cons.mp hc with z | z
    · subst z
      obtain ⟨a, ha, k⟩ := sum_lt_ex (l := r) (f := f) (g := g) (by omega)
      exact ⟨a, .tail _ ha, k⟩
    · by_cases q : f x < g x
      · exact ⟨x, .head _, q⟩
      · by_cases q2 : (r.map f).sum = (r.map g).sum
        · obtain ⟨a, ha, k⟩ := sum_eq_ex q2 z k
          exact ⟨a, .tail _ ha, k⟩
        · obtain ⟨a, ha, k⟩ := sum_lt_ex (l := r) (f := f) (g := g) (by omega)
          exact ⟨a, .tail _ ha, k⟩
structure Rnd (l : List Nat) (w nm : Nat → Int) (Lf : Nat → Nat) (B P : Int) : Prop extends Nod l w nm where
  L1 : ∀ a ∈ l, 1 ≤ Lf a
  wL : ∀ a ∈ l, w a = (Lf a : Int) * B
  hB : 1 ≤ B
  hP : B * P = 256
variable {Lf : Nat → Nat} {B P : Int}
theorem Rnd.shift (r : Rnd l w nm Lf B P) {a : Nat} (h : a ∈ l) (t m : Nat) : lev (w a) (t * Lf a + m) = P * t + lev (w a) m := by
  have := lev_round (L := Lf a) (B := B) (P := P) (by have := r.L1 a h; omega) r.hB r.hP t m
  rw [← r.wL a h, Int.toNat_natCast] at this
  exact this
theorem Rnd.round (r : Rnd l w nm Lf B P) (t : Nat) : ∀ c ∈ l, kk l w nm (t * (l.map Lf).sum) c = t * Lf c := by
  have hs := r.toNod.sum (t * (l.map Lf).sum)
  have hs2 : (l.map fun c => t * Lf c).sum = t * (l.map Lf).sum := by
    have : ∀ l : List Nat, (l.map fun c => t * Lf c).sum = t * (l.map Lf).sum := fun l => by induction l with
      | nil => rfl
      | cons a r ih => simp only [List.map_cons, List.sum_cons, ih, Nat.mul_add]
    exact this l
  generalize hx : t * (l.map Lf).sum = x at hs hs2 ⊢
  have no : ∀ c ∈ l, ¬ t * Lf c < kk l w nm x c := fun c hc h => by
    obtain ⟨d, hd, k⟩ := sum_eq_ex (f := kk l w nm x) (g := fun c => t * Lf c) (by rw [hs, hs2]) hc h
    have pp := r.toNod.popped x c hc d hd (t * Lf c) h
    have e := r.shift hc t 0
    rw [Nat.add_zero, lev_zero] at e
    have b := lev_below (L := Lf d) (B := B) (P := P) (by have := r.L1 d hd; omega) r.hB r.hP (t := t) (m := kk l w nm x d) (by rw [Int.toNat_natCast]; exact k)
    rw [← r.wL d hd] at b
    rw [klt_iff] at pp
    simp only at pp
    omega
  intro c hc
  by_cases q : kk l w nm x c < t * Lf c
  · obtain ⟨d, hd, k⟩ := sum_eq_ex (f := fun c => t * Lf c) (g := kk l w nm x) (by rw [hs, hs2]) hc q
    exact absurd k (no d hd)
  · have := no c hc; omega
theorem pick_congr {f g : Nat → Int × Int} : ∀ {l : List Nat}, (∀ a ∈ l, ∀ b ∈ l, klt (f a) (f b) = klt (g a) (g b)) → pick f l = pick g l
  | [], _ => rfl
  | c :: r, h => by
    have ih := pick_congr (l := r) fun a ha b hb => h a (.tail _ ha) b (.tail _ hb)
    unfold pick
    rw [ih]
    cases q : pick g r with
    | none => rfl
    | some d =>
      have hd : d ∈ r := by
        have : ∀ {l : List Nat} {d : Nat}, pick g l = some d → d ∈ l := fun {l} => by
          induction l with
          | nil => intro d h; cases h
          | cons a r ih =>
            intro d h
            unfold pick at h
            split at h
            · cases h; exact .head _
            · rename_i e q
              split at h
              · cases h; exact .head _
              · cases h; exact .tail _ (ih q)
        exact this q
      simp only
      rw [h c (.head _) d (.tail _ hd)]
theorem Rnd.period (r : Rnd l w nm Lf B P) : ∀ y, (∀ c ∈ l, kk l w nm ((l.map Lf).sum + y) c = Lf c + kk l w nm y c) ∧ Mine.sg l w nm ((l.map Lf).sum + y) = Mine.sg l w nm y := by
  have st : ∀ y, (∀ c ∈ l, kk l w nm ((l.map Lf).sum + y) c = Lf c + kk l w nm y c) → Mine.sg l w nm ((l.map Lf).sum + y) = Mine.sg l w nm y := fun y h => by
    unfold Mine.sg
    rw [pick_congr (g := entk w nm (kk l w nm y))]
    intro a ha b hb
    unfold entk
    rw [h a ha, h b hb]
    have ea := r.shift ha 1 (kk l w nm y a)
    have eb := r.shift hb 1 (kk l w nm y b)
    rw [Nat.one_mul] at ea eb
    rw [ea, eb]
    rw [Bool.eq_iff_iff, klt_iff, klt_iff]
    simp only
    omega
  intro y
  induction y with
  | zero =>
    have : ∀ c ∈ l, kk l w nm ((l.map Lf).sum + 0) c = Lf c + kk l w nm 0 c := fun c hc => by
      have := r.round 1 c hc
      rw [Nat.one_mul, Nat.one_mul] at this
      exact this
    exact ⟨this, st 0 this⟩
  | succ y ih =>
    have : ∀ c ∈ l, kk l w nm ((l.map Lf).sum + (y + 1)) c = Lf c + kk l w nm (y + 1) c := fun c hc => by
      rw [← Nat.add_assoc, r.toNod.succ, r.toNod.succ, ih.2]
      unfold inc
      have := ih.1 c hc
      split <;> omega
    exact ⟨this, st _ this⟩
theorem flat_inc {f g : Nat → List (Nat × Nat)} {c : Nat} {z : Nat × Nat} : ∀ {l : List Nat}, l.Nodup → c ∈ l → g c = f c ++ [z] → (∀ a, a ≠ c → g a = f a) → (l.flatMap g).Perm (z :: l.flatMap f)
  | [], _, h, _, _ => by cases h
  | a :: r, hn, h, e1, e2 => by
    obtain ⟨h1, h2⟩ := List.nodup_cons.mp hn
    rw [List.flatMap_cons, List.flatMap_cons]
    by_cases q : a = c
    · subst q
      have e : r.flatMap g = r.flatMap f := by
        rw [List.flatMap_def, List.flatMap_def]
        congr 1
        exact List.map_congr_left fun x hx => e2 x fun y => h1 (y ▸ hx)
      rw [e1, e, List.append_assoc]
      exact List.perm_middle
    · rcases List.mem_cons.mp h with y | y
      · exact absurd y.symm q
      · rw [e2 a q]
        exact ((flat_inc h2 y e1 e2).append_left (f a)).trans List.perm_middle
theorem Nod.taken (N : Nod l w nm) : ∀ x, ((List.range x).map fun y => (Mine.sg l w nm y, kk l w nm y (Mine.sg l w nm y))).Perm (l.flatMap fun c => (List.range (kk l w nm x c)).map fun m => (c, m))
  | 0 => by
    show ([] : List (Nat × Nat)).Perm _
    have : ∀ l : List Nat, (l.flatMap fun c => (List.range 0).map fun m => (c, m)) = [] := fun l => by induction l with
      | nil => rfl
      | cons a r ih => rw [List.flatMap_cons, ih]; rfl
    have e := this l
    rw [show (l.flatMap fun c => (List.range (kk l w nm 0 c)).map fun m => (c, m)) = [] from e]
  | x + 1 => by
    rw [List.range_succ, List.map_append]
    have ih := N.taken x
    refine List.Perm.trans ?_ (flat_inc (f := fun c => (List.range (kk l w nm x c)).map fun m => (c, m)) (c := Mine.sg l w nm x) (z := (Mine.sg l w nm x, kk l w nm x (Mine.sg l w nm x))) N.nd (N.min x).1 ?_ ?_).symm
    · exact (List.perm_append_singleton _ _).trans (ih.cons _)
    · show (List.range (kk l w nm (x + 1) _)).map _ = _
      rw [N.succ, inc_self, List.range_succ, List.map_append]; rfl
    · intro a n
      show (List.range (kk l w nm (x + 1) _)).map _ = _
      rw [N.succ, inc_ne n]
end
end Mine
end
section
set_option linter.unusedVariables false
set_option Elab.async false
namespace Mine
structure WR where
  m : Nat
  nm : Nat → Int
  ch : Nat → List Nat
  w : Nat → Int
  act : Nat → Bool
  inj : ∀ i j, i ≤ m → j ≤ m → nm i = nm j → i = j
  chp : ∀ i, i ≤ m → ∀ c ∈ ch i, i < c ∧ c ≤ m
  nd : ∀ i, i ≤ m → (ch i).Nodup
  one : ∀ i j c, i ≤ m → j ≤ m → c ∈ ch i → c ∈ ch j → i = j
  w1 : ∀ j, 1 ≤ w j
  w2 : ∀ j, w j ≤ 256
  liv : ∀ i, i ≤ m → act i = false → ch i ≠ []
namespace WR
section
variable (t : WR)
noncomputable abbrev kk (i x : Nat) : Nat → Nat := Mine.kk (t.ch i) t.w t.nm x
noncomputable abbrev sg (i x : Nat) : Nat := Mine.sg (t.ch i) t.w t.nm x
noncomputable abbrev en (k : Nat → Nat) (c : Nat) : Int × Int := entk t.w t.nm k c
noncomputable def tl : Nat → Nat → Nat → Nat
  | 0, i, _ => i
  | f + 1, i, x => if t.act (t.sg i x) then t.sg i x else tl f (t.sg i x) (t.kk i x (t.sg i x))
noncomputable def NodeAt (k : Nat → Nat) (M : Mo) (j : Nat) : Prop :=
  ∃ d, M (t.nm j) = some d ∧ d.act = t.act j ∧ (1 ≤ j → d.wt = t.w j ∧ d.df = remn (t.w j) (k j)) ∧ srtd d.q ∧ d.q.Perm ((t.ch j).map (t.en k))
noncomputable def St (lo : Nat) (k : Nat → Nat) (M : Mo) : Prop := ∀ j, lo ≤ j → j ≤ t.m → t.NodeAt k M j
noncomputable def Coh (lo : Nat) (k : Nat → Nat) : Prop := ∀ j, lo ≤ j → j ≤ t.m → t.act j = false → ∀ c ∈ t.ch j, k c = t.kk j (k j) c
end
section
variable {t : WR}
theorem node {i : Nat} (h : i ≤ t.m) (ha : t.act i = false) : Nod (t.ch i) t.w t.nm :=
  ⟨t.nd i h, t.liv i h ha, fun a ha b hb n z => n (t.inj a b (t.chp i h a ha).2 (t.chp i h b hb).2 z), fun a _ => t.w1 a, fun a _ => t.w2 a⟩
theorem NodeAt.congr {k k' : Nat → Nat} {M M' : Mo} {j : Nat} (h : t.NodeAt k M j) (hM : M' (t.nm j) = M (t.nm j)) (hj : k' j = k j) (hc : ∀ c ∈ t.ch j, k' c = k c) : t.NodeAt k' M' j := by
  obtain ⟨d, h1, h2, h3, h4, h5⟩ := h
  refine ⟨d, hM.trans h1, h2, fun z => by rw [hj]; exact h3 z, h4, ?_⟩
  have : (t.ch j).map (t.en k') = (t.ch j).map (t.en k) := List.map_congr_left fun c hc' => by show (lev _ (k' c), _) = (lev _ (k c), _); rw [hc c hc']
  rw [this]; exact h5
theorem nmne {i j : Nat} (hi : i ≤ t.m) (hj : j ≤ t.m) (h : i ≠ j) : t.nm i ≠ t.nm j := fun z => h (t.inj i j hi hj z)
theorem back {i c : Nat} {d : Nd} {r : List (Int × Int)} {k : Nat → Nat} {M : Mo} (hi : i ≤ t.m) (hc : c ∈ t.ch i) (ha : d.act = t.act i) (hw : 1 ≤ i → d.wt = t.w i ∧ d.df = remn (t.w i) (k i))
    (hs : srtd (t.en k c :: r)) (hp : (t.en k c :: r).Perm ((t.ch i).map (t.en k))) (h2 : M (t.nm i) = some { d with q := r }) (S : t.St (i + 1) k M) :
    t.St i (inc k c) (fstep (t.nm i) M (t.en k c)) ∧ ∀ z, z ≠ t.nm i → z ≠ t.nm c → fstep (t.nm i) M (t.en k c) z = M z := by
  obtain ⟨c1, c2⟩ := t.chp i hi c hc
  obtain ⟨n, n1, n2, n3, n4, n5⟩ := S c (by omega) c2
  obtain ⟨n3a, n3b⟩ := n3 (by omega)
  have e : fstep (t.nm i) M (t.en k c) = (M.put (t.nm c) { n with df := (256 + n.df) % n.wt }).put (t.nm i) { { d with q := r } with lw := (t.en k c).1, q := ins ((t.en k c).1 + (256 + n.df) / n.wt, t.nm c) r } := fstep_eq h2 n1
  rw [e, n3a, n3b]
  obtain ⟨l1, l2⟩ := lev_next (t.w1 c) (k c)
  have e1 : ((t.en k c).1 + (256 + remn (t.w c) (k c)) / t.w c, t.nm c) = t.en (inc k c) c := by
    show (lev _ (k c) + _, _) = (lev _ (inc k c c), _)
    rw [l1, inc_self]
  rw [e1, l2]
  obtain ⟨s1, s2⟩ := List.pairwise_cons.mp hs
  have hnic := nmne hi c2 (show i ≠ c by omega)
  have er : (t.ch i).Perm (c :: (t.ch i).erase c) := List.perm_cons_erase hc
  have hr : r.Perm (((t.ch i).erase c).map (t.en k)) := by
    have := hp.trans (er.map (t.en k))
    exact List.Perm.cons_inv this
  have hne : ∀ x ∈ (t.ch i).erase c, x ≠ c := fun x hx z => by
    subst z
    exact (List.Nodup.not_mem_erase (t.nd i hi)) hx
  have hmap : ((t.ch i).erase c).map (t.en (inc k c)) = ((t.ch i).erase c).map (t.en k) := List.map_congr_left fun x hx => by
    show (lev _ (inc k c x), _) = (lev _ (k x), _)
    rw [inc_ne (hne x hx)]
  refine ⟨fun j h1 h2' => ?_, fun z z1 z2 => by rw [Mo.put_ne z1, Mo.put_ne z2]⟩
  by_cases ji : j = i
  · subst ji
    refine ⟨_, Mo.put_self .., ha, fun z => ?_, ins_srtd s2 ?_, ?_⟩
    · rw [inc_ne (show j ≠ c by omega)]; exact hw z
    · intro x hx z
      obtain ⟨y, hy, rfl⟩ := List.mem_map.mp (hr.mem_iff.mp hx)
      have hyc : y = c := t.inj y c (t.chp j hi y (List.mem_of_mem_erase hy)).2 c2 (congrArg (·.2) z)
      exact hne y hy hyc
    · refine (ins_perm _ _).trans ?_
      refine List.Perm.trans ?_ (er.map (t.en (inc k c))).symm
      rw [List.map_cons, hmap]
      exact hr.cons _
  · by_cases jc : j = c
    · subst jc
      refine ⟨_, (Mo.put_ne (Ne.symm hnic)).trans (Mo.put_self ..), n2, fun _ => ⟨rfl, by rw [inc_self]⟩, n4, ?_⟩
      have : (t.ch j).map (t.en (inc k j)) = (t.ch j).map (t.en k) := List.map_congr_left fun x hx => by
        show (lev _ (inc k j x), _) = (lev _ (k x), _)
        rw [inc_ne (by have := (t.chp j c2 x hx).1; omega)]
      rw [this]; exact n5
    · refine (S j (by omega) h2').congr ?_ (inc_ne jc) fun x hx => inc_ne fun z => ji ?_
      · rw [Mo.put_ne (nmne h2' hi ji), Mo.put_ne (nmne h2' c2 jc)]
      · subst z
        exact t.one j i x h2' hi hx hc
theorem turn : ∀ (n i : Nat) (M : Mo) (k : Nat → Nat) (x : Nat), i ≤ t.m → t.m - i < n → t.act i = false → t.St i k M → (∀ c ∈ t.ch i, k c = t.kk i x c) → t.Coh (i + 1) k →
    ∃ M' k', sched n M (t.nm i) = (some (t.nm (t.tl n i x)), M') ∧ t.St i k' M' ∧ (∀ c ∈ t.ch i, k' c = t.kk i (x + 1) c) ∧ t.Coh (i + 1) k' ∧ (∀ j, j ≤ i → k' j = k j) ∧
      (∀ j c, c ∈ t.ch j → j ≤ t.m → j ≠ i → k' j = k j → k' c = k c) ∧ ∀ z, (∀ j, i ≤ j → j ≤ t.m → z ≠ t.nm j) → M' z = M z
  | 0, i, M, k, x, hi, hn, _, _, _, _ => by omega
  | n + 1, i, M, k, x, hi, hn, ha, S, hx, hC => by
    obtain ⟨d, d1, d2, d3, d4, d5⟩ := S i (Nat.le_refl _) hi
    have N := node hi ha
    obtain ⟨c, hc⟩ : ∃ c, c = t.sg i x := ⟨_, rfl⟩
    obtain ⟨hcm, hmin⟩ := N.min x
    rw [show Mine.sg (t.ch i) t.w t.nm x = c from hc.symm] at hcm hmin
    obtain ⟨c1, c2⟩ := t.chp i hi c hcm
    have en_eq : ∀ a ∈ t.ch i, t.en k a = entk t.w t.nm (t.kk i x) a := fun a h => by show (lev _ (k a), _) = (lev _ (t.kk i x a), _); rw [hx a h]
    cases hq : d.q with
    | nil =>
      rw [hq] at d5
      have := List.nil_perm.mp d5
      exact absurd (List.map_eq_nil_iff.mp this) N.ne
    | cons e r =>
      rw [hq] at d4 d5
      obtain ⟨p1, p2⟩ := List.pairwise_cons.mp d4
      have he : e = t.en k c := by
        obtain ⟨a, ha', rfl⟩ := List.mem_map.mp (d5.mem_iff.mp (.head _))
        by_cases z : a = c
        · rw [z]
        · have m1 := hmin a ha' z
          rw [← en_eq a ha', ← en_eq c hcm] at m1
          have m2 : t.en k c ∈ t.en k a :: r := d5.mem_iff.mpr (List.mem_map.mpr ⟨c, hcm, rfl⟩)
          rcases List.mem_cons.mp m2 with y | y
          · exact y.symm
          · exact absurd (klt_trans m1 (p1 _ y)) klt_irr
      subst he
      have h1 : (M.put (t.nm i) { d with q := r }) (t.nm i) = some { d with q := r } := Mo.put_self ..
      have S1 : t.St (i + 1) k (M.put (t.nm i) { d with q := r }) := fun j j1 j2 => (S j (by omega) j2).congr (Mo.put_ne (nmne j2 hi (by omega))) rfl fun _ _ => rfl
      obtain ⟨dc, e1, e2, -⟩ := S c (by omega) c2
      have ks : t.kk i (x + 1) = inc (t.kk i x) c := by rw [hc]; exact N.succ x
      cases hac : t.act c with
      | true =>
        have g := goL_act (f := sched n) (pp := []) (e := t.en k c) (r := r) d1 (show M (t.en k c).2 = some dc from e1) (e2.trans hac)
        rw [← hq] at g
        have sc := sched_eq n d1 g
        obtain ⟨b1, b2⟩ := back hi hcm d2 d3 d4 d5 h1 S1
        refine ⟨_, inc k c, ?_, b1, fun a h => ?_, fun j j1 j2 j3 a h => ?_, fun j hj => inc_ne (by omega), fun j a h j2 j3 _ => inc_ne fun z => j3 (t.one j i c j2 hi (z ▸ h) hcm), fun z hz => ?_⟩
        · rw [sc]
          have : t.tl (n + 1) i x = c := by show (if t.act (t.sg i x) then t.sg i x else _) = c; rw [← hc, hac]; rfl
          rw [this]; rfl
        · rw [ks]; unfold inc; rw [hx a h]
        · have jc : j ≠ c := fun z => by rw [z, hac] at j3; cases j3
          have ac : a ≠ c := fun z => by
            have := t.one j i a j2 hi h (z ▸ hcm); omega
          rw [inc_ne ac, inc_ne jc]
          exact hC j j1 j2 j3 a h
        · rw [b2 z (hz i (Nat.le_refl _) hi) (hz c (by omega) c2)]
          exact Mo.put_ne (hz i (Nat.le_refl _) hi)
      | false =>
        have Sc : t.St c k (M.put (t.nm i) { d with q := r }) := fun j j1 j2 => S1 j (by omega) j2
        obtain ⟨M2, k1, r1, r2, r3, r4, r5, r6, r7⟩ := turn n c _ k (k c) c2 (by omega) hac Sc (fun a h => hC c (by omega) c2 hac a h) (fun j j1 j2 j3 a h => hC j (by omega) j2 j3 a h)
        have g := goL_some (f := sched n) (pp := []) (e := t.en k c) (r := r) d1 (show M (t.en k c).2 = some dc from e1) (e2.trans hac) r1
        rw [← hq] at g
        have sc := sched_eq n d1 g
        have k1i : ∀ a ∈ t.ch i, k1 a = k a := fun a h => r6 i a h hi (by omega) (r5 i (by omega))
        have ek : t.en k1 c = t.en k c := by show (lev _ (k1 c), _) = (lev _ (k c), _); rw [k1i c hcm]
        have em : (t.ch i).map (t.en k1) = (t.ch i).map (t.en k) := List.map_congr_left fun a h => by show (lev _ (k1 a), _) = (lev _ (k a), _); rw [k1i a h]
        have h2 : M2 (t.nm i) = some { d with q := r } := (r7 _ fun j j1 j2 => nmne hi j2 (by omega)).trans h1
        have S2 : t.St (i + 1) k1 M2 := fun j j1 j2 => by
          by_cases z : c ≤ j
          · exact r2 j z j2
          · exact (S1 j j1 j2).congr (r7 _ fun j' g1 g2 => nmne j2 g2 (by omega)) (r5 j (by omega)) fun a h => r6 j a h j2 (by omega) (r5 j (by omega))
        obtain ⟨b1, b2⟩ := back (k := k1) hi hcm d2 (fun z => by rw [r5 i (by omega)]; exact d3 z) (by rw [ek]; exact d4) (by rw [ek, em]; exact d5) h2 S2
        rw [ek] at b1 b2
        refine ⟨_, inc k1 c, ?_, b1, fun a h => ?_, fun j j1 j2 j3 a h => ?_, fun j hj => by rw [inc_ne (by omega)]; exact r5 j (by omega), fun j a h j2 j3 j4 => ?_, fun z hz => ?_⟩
        · rw [sc]
          have : t.tl (n + 1) i x = t.tl n c (k c) := by
            show (if t.act (t.sg i x) then t.sg i x else t.tl n (t.sg i x) (t.kk i x (t.sg i x))) = _
            rw [← hc, hac, hx c hcm]; rfl
          rw [this]; rfl
        · rw [ks]; unfold inc; rw [k1i a h, hx a h]
        · have ac : a ≠ c := fun z => by
            have := t.one j i a j2 hi h (z ▸ hcm); omega
          rw [inc_ne ac]
          by_cases jc : j = c
          · subst jc
            rw [inc_self, r5 j (Nat.le_refl _)]
            exact r3 a h
          · rw [inc_ne jc]
            by_cases z : c < j
            · exact r4 j z j2 j3 a h
            · rw [r6 j a h j2 jc (r5 j (by omega)), r5 j (by omega)]
              exact hC j j1 j2 j3 a h
        · have ac : a ≠ c := fun z => j3 (t.one j i c j2 hi (z ▸ h) hcm)
          rw [inc_ne ac]
          by_cases jc : j = c
          · subst jc
            rw [inc_self, r5 j (Nat.le_refl _)] at j4; omega
          · rw [inc_ne jc] at j4
            exact r6 j a h j2 jc j4
        · rw [b2 z (hz i (Nat.le_refl _) hi) (hz c (by omega) c2), r7 z fun j g1 g2 => hz j (by omega) g2]
          exact Mo.put_ne (hz i (Nat.le_refl _) hi)
end
end WR
end Mine
end
section
set_option linter.unusedVariables false
set_option Elab.async false
namespace Mine
namespace WR
structure Lvs (t : WR) (Lf : Nat → Nat) : Prop where
  rnd : ∀ i, i ≤ t.m → t.act i = false → ∃ B P, Rnd (t.ch i) t.w t.nm Lf B P
  sum : ∀ i, i ≤ t.m → t.act i = false → Lf i = ((t.ch i).map Lf).sum
  one : ∀ i, i ≤ t.m → t.act i = true → Lf i = 1
noncomputable def lv (t : WR) : Nat → Nat → List Nat
  | 0, i => [i]
  | f + 1, i => (t.ch i).flatMap fun c => if t.act c then [c] else lv t f c
theorem flat_perm {f g : Nat → List Nat} : ∀ {l : List Nat}, (∀ a ∈ l, (f a).Perm (g a)) → (l.flatMap f).Perm (l.flatMap g)
  | [], _ => .nil
  | a :: r, h => by
    rw [List.flatMap_cons, List.flatMap_cons]
    exact (h a (.head _)).append (flat_perm fun b hb => h b (.tail _ hb))
section
variable {t : WR} {Lf : Nat → Nat}
theorem tl_period (L : t.Lvs Lf) : ∀ (f i x : Nat), i ≤ t.m → t.m - i < f → t.act i = false → t.tl f i (Lf i + x) = t.tl f i x
  | 0, i, x, _, h, _ => by omega
  | f + 1, i, x, hi, hf, ha => by
    obtain ⟨B, P, r⟩ := L.rnd i hi ha
    have s := L.sum i hi ha
    obtain ⟨p1, p2⟩ := r.period x
    rw [← s] at p1 p2
    have hm := (r.toNod.min x).1
    obtain ⟨c1, c2⟩ := t.chp i hi _ hm
    show (if t.act (t.sg i (Lf i + x)) then t.sg i (Lf i + x) else t.tl f (t.sg i (Lf i + x)) (t.kk i (Lf i + x) (t.sg i (Lf i + x)))) = (if t.act (t.sg i x) then t.sg i x else t.tl f (t.sg i x) (t.kk i x (t.sg i x)))
    rw [show t.sg i (Lf i + x) = t.sg i x from p2]
    cases q : t.act (t.sg i x) with
    | true => rfl
    | false =>
      rw [show t.kk i (Lf i + x) (t.sg i x) = Lf (t.sg i x) + t.kk i x (t.sg i x) from p1 _ hm]
      rw [tl_period L f (t.sg i x) _ c2 (by have : i < t.sg i x := c1; omega) q]
theorem tl_perm (L : t.Lvs Lf) : ∀ (f i : Nat), i ≤ t.m → t.m - i < f → t.act i = false → ((List.range (Lf i)).map (t.tl f i)).Perm (t.lv f i)
  | 0, i, _, h, _ => by omega
  | f + 1, i, hi, hf, ha => by
    obtain ⟨B, P, r⟩ := L.rnd i hi ha
    have s := L.sum i hi ha
    have tk := r.toNod.taken (Lf i)
    have e1 : (List.range (Lf i)).map (t.tl (f + 1) i) = ((List.range (Lf i)).map fun y => (Mine.sg (t.ch i) t.w t.nm y, Mine.kk (t.ch i) t.w t.nm y (Mine.sg (t.ch i) t.w t.nm y))).map fun p => if t.act p.1 then p.1 else t.tl f p.1 p.2 := by
      rw [List.map_map]; rfl
    rw [e1]
    refine (tk.map _).trans ?_
    rw [List.map_flatMap]
    show List.Perm _ ((t.ch i).flatMap fun c => if t.act c then [c] else t.lv f c)
    refine flat_perm fun c hc => ?_
    rw [List.map_map]
    have rd := r.round 1 c hc
    rw [Nat.one_mul, Nat.one_mul, ← s] at rd
    rw [rd]
    obtain ⟨c1, c2⟩ := t.chp i hi c hc
    cases q : t.act c with
    | true =>
      rw [L.one c c2 q]
      show ([if t.act c then c else t.tl f c 0] : List Nat).Perm [c]
      rw [q]; exact .refl _
    | false =>
      have e : ((fun p : Nat × Nat => if t.act p.1 then p.1 else t.tl f p.1 p.2) ∘ fun m => (c, m)) = t.tl f c := by
        funext m
        show (if t.act c then c else t.tl f c m) = _
        rw [q]; rfl
      rw [e]
      exact tl_perm L f c c2 (by omega) q
end
theorem pick_map {f : Nat → Int × Int} {ψ : Nat → Nat} : ∀ {l : List Nat}, pick f (l.map ψ) = (pick (fun c => f (ψ c)) l).map ψ
  | [] => rfl
  | c :: r => by
    rw [List.map_cons]
    unfold pick
    rw [pick_map (l := r)]
    cases pick (fun c => f (ψ c)) r with
    | none => rfl
    | some d =>
      simp only [Option.map_some]
      split <;> rfl
structure Lnk (t u : WR) (φ ψ : Nat → Nat) : Prop where
  fm : ∀ v, v ≤ t.m → φ v ≤ u.m
  fa : ∀ v, v ≤ t.m → u.act (φ v) = t.act v
  fn : ∀ v, v ≤ t.m → u.nm (φ v) = t.nm v
  ch : ∀ i, i ≤ t.m → t.act i = false → u.ch (φ i) = (t.ch i).map ψ
  ln : ∀ i, i ≤ t.m → ∀ c ∈ t.ch i, ψ c = φ c ∨ (u.act (ψ c) = false ∧ u.ch (ψ c) = [φ c])
  wt : ∀ i, i ≤ t.m → ∀ c ∈ t.ch i, u.w (ψ c) = t.w c
  ord : ∀ i, i ≤ t.m → ∀ a ∈ t.ch i, ∀ b ∈ t.ch i, (u.nm (ψ a) < u.nm (ψ b) ↔ t.nm a < t.nm b)
  inj : ∀ i, i ≤ t.m → ∀ a ∈ t.ch i, ∀ b ∈ t.ch i, ψ a = ψ b → a = b
section
variable {t u : WR} {φ ψ : Nat → Nat}
theorem lnk_kk (K : t.Lnk u φ ψ) {i : Nat} (hi : i ≤ t.m) (ha : t.act i = false) : ∀ x, (∀ c ∈ t.ch i, u.kk (φ i) x (ψ c) = t.kk i x c) ∧ u.sg (φ i) x = ψ (t.sg i x) := by
  have N := node hi ha
  have N2 := node (t := u) (K.fm i hi) ((K.fa i hi).trans ha)
  have st : ∀ x, (∀ c ∈ t.ch i, u.kk (φ i) x (ψ c) = t.kk i x c) → u.sg (φ i) x = ψ (t.sg i x) := fun x h => by
    have s1 := N.sg x
    have s2 := N2.sg x
    rw [show u.ch (φ i) = (t.ch i).map ψ from K.ch i hi ha] at s2
    rw [pick_map] at s2
    rw [show pick (fun c => entk u.w u.nm (Mine.kk ((t.ch i).map ψ) u.w u.nm x) (ψ c)) (t.ch i) = pick (entk t.w t.nm (Mine.kk (t.ch i) t.w t.nm x)) (t.ch i) from pick_congr ?_, s1, Option.map_some] at s2
    · have := Option.some.inj s2
      show Mine.sg (u.ch (φ i)) u.w u.nm x = _
      rw [K.ch i hi ha]
      exact this.symm
    · intro a ha' b hb'
      have ea : Mine.kk ((t.ch i).map ψ) u.w u.nm x (ψ a) = Mine.kk (t.ch i) t.w t.nm x a := by rw [← K.ch i hi ha]; exact h a ha'
      have eb : Mine.kk ((t.ch i).map ψ) u.w u.nm x (ψ b) = Mine.kk (t.ch i) t.w t.nm x b := by rw [← K.ch i hi ha]; exact h b hb'
      unfold entk
      rw [ea, eb, K.wt i hi a ha', K.wt i hi b hb', Bool.eq_iff_iff, klt_iff, klt_iff]
      simp only
      rw [K.ord i hi a ha' b hb']
  intro x
  induction x with
  | zero => exact ⟨fun c hc => rfl, st 0 fun c hc => rfl⟩
  | succ x ih =>
    have : ∀ c ∈ t.ch i, u.kk (φ i) (x + 1) (ψ c) = t.kk i (x + 1) c := fun c hc => by
      show Mine.kk (u.ch (φ i)) u.w u.nm (x + 1) (ψ c) = Mine.kk (t.ch i) t.w t.nm (x + 1) c
      rw [N.succ, N2.succ]
      have i1 := ih.1 c hc
      have i2 := ih.2
      have hm := (N.min x).1
      by_cases q : c = Mine.sg (t.ch i) t.w t.nm x
      · have q2 : ψ c = Mine.sg (u.ch (φ i)) u.w u.nm x := by rw [q]; exact i2.symm
        rw [← q, ← q2, inc_self, inc_self, show Mine.kk (u.ch (φ i)) u.w u.nm x (ψ c) = Mine.kk (t.ch i) t.w t.nm x c from i1]
      · have q2 : ψ c ≠ Mine.sg (u.ch (φ i)) u.w u.nm x := fun z => q (K.inj i hi c hc _ hm (z.trans i2))
        rw [inc_ne q, inc_ne q2]; exact i1
    exact ⟨this, st _ this⟩
theorem one_kk {z v : Nat} (hz : z ≤ u.m) (ha : u.act z = false) (hc : u.ch z = [v]) : ∀ x, u.kk z x v = x ∧ u.sg z x = v := by
  have N := node (t := u) hz ha
  have sv : ∀ x, u.sg z x = v := fun x => by
    have := (N.min x).1
    rw [hc] at this
    have h := List.mem_singleton.mp this
    show Mine.sg (u.ch z) u.w u.nm x = v
    rw [hc]; exact h
  intro x
  induction x with
  | zero => exact ⟨rfl, sv 0⟩
  | succ x ih =>
    refine ⟨?_, sv _⟩
    show Mine.kk (u.ch z) u.w u.nm (x + 1) v = _
    rw [N.succ, show Mine.sg (u.ch z) u.w u.nm x = v from ih.2, inc_self]
    have := ih.1
    show Mine.kk (u.ch z) u.w u.nm x v + 1 = _
    rw [show Mine.kk (u.ch z) u.w u.nm x v = x from this]
theorem lnk_tl (K : t.Lnk u φ ψ) : ∀ (f i x g : Nat), i ≤ t.m → t.m - i < f → u.m - φ i < g → t.act i = false → u.nm (u.tl g (φ i) x) = t.nm (t.tl f i x)
  | 0, i, x, g, _, h, _, _ => by omega
  | f + 1, i, x, 0, _, _, h, _ => by omega
  | f + 1, i, x, g + 1, hi, hf, hg, ha => by
    obtain ⟨k1, k2⟩ := lnk_kk K hi ha x
    have hm : t.sg i x ∈ t.ch i := ((node hi ha).min x).1
    obtain ⟨c1, c2⟩ := t.chp i hi _ hm
    have hpm : ψ (t.sg i x) ∈ u.ch (φ i) := by rw [K.ch i hi ha]; exact List.mem_map.mpr ⟨_, hm, rfl⟩
    obtain ⟨p1, p2⟩ := u.chp _ (K.fm i hi) _ hpm
    show u.nm (if u.act (u.sg (φ i) x) then u.sg (φ i) x else u.tl g (u.sg (φ i) x) (u.kk (φ i) x (u.sg (φ i) x))) = t.nm (if t.act (t.sg i x) then t.sg i x else t.tl f (t.sg i x) (t.kk i x (t.sg i x)))
    rw [k2, k1 _ hm]
    generalize hs : t.sg i x = s at *
    rcases K.ln i hi s hm with e | ⟨a1, a2⟩
    · rw [e] at p1 p2 ⊢
      rw [K.fa s c2]
      cases q : t.act s with
      | true => exact K.fn s c2
      | false => exact lnk_tl K f s _ g c2 (by omega) (by omega) q
    · rw [a1]
      show u.nm (u.tl g (ψ s) (t.kk i x s)) = _
      cases g with
      | zero => omega
      | succ g =>
        obtain ⟨o1, o2⟩ := one_kk p2 a1 a2 (t.kk i x s)
        show u.nm (if u.act (u.sg (ψ s) (t.kk i x s)) then u.sg (ψ s) (t.kk i x s) else u.tl g (u.sg (ψ s) (t.kk i x s)) (u.kk (ψ s) (t.kk i x s) (u.sg (ψ s) (t.kk i x s)))) = _
        rw [o2, o1, K.fa s c2]
        obtain ⟨q1, q2⟩ := u.chp _ p2 (φ s) (by rw [a2]; exact .head _)
        cases q : t.act s with
        | true => exact K.fn s c2
        | false => exact lnk_tl K f s _ g c2 (by omega) (by omega) q
end
end WR
end Mine
end
section
open PySem PySem.W PyProof.Rows PySem.Calls
set_option linter.unusedVariables false
set_option Elab.async false
namespace Mine
noncomputable def num5 (ns : List Int) (k : Nat) : Int := ns.getD k 2
noncomputable def nums5 (ns : List Int) : List Value := (List.range 20).map fun k => .int (num5 ns k) 0
theorem num5_get {ns : List Int} {j : Int} (h0 : 0 ≤ j) (h : j < ns.length) : ns[j.toNat]? = some (num5 ns j.toNat) := by
  unfold num5
  have : j.toNat < ns.length := by omega
  rw [List.getD_eq_getElem?_getD, List.getElem?_eq_getElem this]; rfl
theorem num5_big {ns : List Int} {j : Int} (h0 : 0 ≤ j) (h : ¬ j < ns.length) : num5 ns j.toNat = 2 := by
  unfold num5
  rw [List.getD_eq_getElem?_getD, List.getElem?_eq_none (by omega)]; rfl
theorem nums5_get {ns : List Int} {k : Nat} (h : k < 20) : (nums5 ns)[k]? = some (.int (num5 ns k) 0) := by
  unfold nums5
  rw [List.getElem?_map, List.getElem?_range h]; rfl
noncomputable def many5 (ns : List Int) : Nat := (1 + (num5 ns 0 + 2) % 8).toNat
theorem many5_eq {ns : List Int} : ((many5 ns : Nat) : Int) = 1 + (num5 ns 0 + 2) % 8 := by unfold many5; omega
theorem many5_lo {ns : List Int} : 1 ≤ many5 ns := by have := @many5_eq ns; omega
theorem many5_hi {ns : List Int} : many5 ns ≤ 8 := by have := @many5_eq ns; omega
noncomputable def nm5 (ns : List Int) (v : Nat) : Int := if v = 0 then 0 else 10 + 10 * ((3 * (v : Int) + num5 ns 1) % 11)
noncomputable def ab5 (ns : List Int) (v : Nat) : Nat := if v = 0 then 0 else (num5 ns (1 + v) % (v : Int)).toNat
theorem ab5_lt {ns : List Int} {v : Nat} (h : 1 ≤ v) : ab5 ns v < v := by
  unfold ab5
  rw [if_neg (by omega)]
  have a := Int.emod_nonneg (num5 ns (1 + v)) (b := (v : Int)) (by omega)
  have b := Int.emod_lt_of_pos (num5 ns (1 + v)) (b := (v : Int)) (by omega)
  omega
theorem ab5_eq {ns : List Int} {v : Nat} (h : 1 ≤ v) : ((ab5 ns v : Nat) : Int) = num5 ns (1 + v) % (v : Int) := by
  unfold ab5
  rw [if_neg (by omega)]
  have a := Int.emod_nonneg (num5 ns (1 + v)) (b := (v : Int)) (by omega)
  omega
theorem nm5_inj {ns : List Int} {u v : Nat} (hu : u ≤ 8) (hv : v ≤ 8) (h : nm5 ns u = nm5 ns v) : u = v := by
  unfold nm5 at h
  split at h <;> split at h <;> omega
noncomputable def names5 (ns : List Int) : List Value := (List.range (many5 ns + 1)).map fun v => .int (nm5 ns v) 0
noncomputable def above5 (ns : List Int) : List Value := (List.range (many5 ns + 1)).map fun v => .int (ab5 ns v) 0
theorem names5_get {ns : List Int} {k : Nat} (h : k ≤ many5 ns) : (names5 ns)[k]? = some (.int (nm5 ns k) 0) := by
  unfold names5
  rw [List.getElem?_map, List.getElem?_range (by omega)]; rfl
theorem above5_get {ns : List Int} {k : Nat} (h : k ≤ many5 ns) : (above5 ns)[k]? = some (.int (ab5 ns k) 0) := by
  unfold above5
  rw [List.getElem?_map, List.getElem?_range (by omega)]; rfl
theorem above5_len {ns : List Int} : (above5 ns).length = many5 ns + 1 := by unfold above5; simp
noncomputable def bl5 (ns : List Int) (v : Nat) : List Nat := ((List.range (many5 ns)).map (· + 1)).filter fun i => decide (ab5 ns i = v)
theorem bl5_mem {ns : List Int} {v k : Nat} : k ∈ bl5 ns v ↔ 1 ≤ k ∧ k ≤ many5 ns ∧ ab5 ns k = v := by
  unfold bl5
  rw [List.mem_filter, decide_eq_true_iff, List.mem_map]
  constructor
  · rintro ⟨⟨i, hi, rfl⟩, h⟩
    rw [List.mem_range] at hi
    exact ⟨by omega, by omega, h⟩
  · rintro ⟨h1, h2, h3⟩
    exact ⟨⟨k - 1, List.mem_range.mpr (by omega), by omega⟩, h3⟩
theorem bl5_gt {ns : List Int} {v k : Nat} (h : k ∈ bl5 ns v) : v < k := by
  have := bl5_mem.mp h
  rw [← this.2.2]; exact ab5_lt this.1
theorem bl5_nodup {ns : List Int} {v : Nat} : (bl5 ns v).Nodup := by
  unfold bl5
  refine List.Nodup.sublist List.filter_sublist ?_
  rw [List.nodup_iff_pairwise_ne, List.pairwise_map]
  exact (List.nodup_range (n := many5 ns)).imp fun h z => h (by omega)
noncomputable def lfF (ns : List Int) : Nat → Nat → Nat
  | 0, _ => 1
  | f + 1, v => if (bl5 ns v).isEmpty then 1 else ((bl5 ns v).map (lfF ns f)).sum
noncomputable def lf5 (ns : List Int) (v : Nat) : Nat := lfF ns (many5 ns - v + 1) v
theorem map_congr5 {f g : Nat → Nat} {l : List Nat} (h : ∀ x ∈ l, f x = g x) : l.map f = l.map g := List.map_congr_left h
theorem lfF_eq {ns : List Int} : ∀ (f v : Nat), many5 ns - v < f → lfF ns f v = lf5 ns v
  | 0, v, h => by omega
  | f + 1, v, h => by
    unfold lf5 lfF
    have : (bl5 ns v).map (lfF ns f) = (bl5 ns v).map (lfF ns (many5 ns - v)) := map_congr5 fun x hx => by
      have g := bl5_gt hx
      have m := (bl5_mem.mp hx).2.1
      rw [lfF_eq f x (by omega), lfF_eq (many5 ns - v) x (by omega)]
    rw [this]
termination_by f => f
theorem lf5_eq {ns : List Int} {v : Nat} : lf5 ns v = if (bl5 ns v).isEmpty then 1 else ((bl5 ns v).map (lf5 ns)).sum := by
  rw [← lfF_eq (many5 ns - v + 2) v (by omega)]
  show (if (bl5 ns v).isEmpty then 1 else ((bl5 ns v).map (lfF ns (many5 ns - v + 1))).sum) = _
  rw [map_congr5 fun x hx => lfF_eq (many5 ns - v + 1) x (by have := bl5_gt hx; omega)]
theorem lf5_pos {ns : List Int} : ∀ (f v : Nat), many5 ns - v < f → 1 ≤ lf5 ns v
  | 0, v, h => by omega
  | f + 1, v, h => by
    rw [lf5_eq]
    split
    · omega
    · rename_i q
      cases e : bl5 ns v with
      | nil => rw [e] at q; exact absurd rfl q
      | cons a r =>
        have m : a ∈ bl5 ns v := by rw [e]; exact .head _
        have g := bl5_gt m
        have := lf5_pos (ns := ns) f a (by have := (bl5_mem.mp m).2.1; omega)
        rw [List.map_cons, List.sum_cons]; omega
theorem lf5_1 {ns : List Int} {v : Nat} : 1 ≤ lf5 ns v := lf5_pos (many5 ns - v + 1) v (by omega)
end Mine
end
section
open PySem PySem.W PyProof.Rows PySem.Calls
set_option linter.unusedVariables false
set_option Elab.async false
namespace Mine
theorem sum_add5 {f g : Nat → Nat} : ∀ {l : List Nat}, (l.map fun x => f x + g x).sum = (l.map f).sum + (l.map g).sum
  | [] => rfl
  | a :: r => by simp only [List.map_cons, List.sum_cons, sum_add5 (l := r)]; omega
theorem sum_filter5 {f : Nat → Nat} {p : Nat → Bool} : ∀ {l : List Nat}, ((l.filter p).map f).sum = (l.map fun x => if p x then f x else 0).sum
  | [] => rfl
  | a :: r => by
    rw [List.filter_cons, List.map_cons, List.sum_cons, ← sum_filter5 (l := r)]
    split <;> simp_all
theorem sum_one5 {f : Nat → Nat} {v : Nat} : ∀ {n : Nat}, ((List.range n).map fun x => if x = v then f x else 0).sum = if v < n then f v else 0
  | 0 => rfl
  | n + 1 => by
    rw [List.range_succ, List.map_append, List.sum_append_nat, sum_one5 (n := n)]
    simp only [List.map_cons, List.map_nil, List.sum_cons, List.sum_nil]
    by_cases a : v < n
    · rw [if_pos a, if_neg (show ¬ n = v by omega), if_pos (show v < n + 1 by omega)]; omega
    · by_cases b : n = v
      · subst b; rw [if_neg a, if_pos rfl, if_pos (show n < n + 1 by omega)]; omega
      · rw [if_neg a, if_neg b, if_neg (show ¬ v < n + 1 by omega)]; rfl
section
variable {ns : List Int}
noncomputable def fr5 (ns : List Int) (v : Nat) : Nat := ((List.range (many5 ns)).map fun c => if v ≤ c + 1 ∧ ab5 ns (c + 1) < v then lf5 ns (c + 1) else 0).sum
theorem bl5_sum {f : Nat → Nat} {v : Nat} : ((bl5 ns v).map f).sum = ((List.range (many5 ns)).map fun c => if ab5 ns (c + 1) = v then f (c + 1) else 0).sum := by
  unfold bl5
  rw [sum_filter5, List.map_map]
  congr 1
  refine List.map_congr_left fun c _ => ?_
  show (if decide (ab5 ns (c + 1) = v) = true then f (c + 1) else 0) = _
  by_cases q : ab5 ns (c + 1) = v
  · rw [if_pos (by simpa using q), if_pos q]
  · rw [if_neg (by simpa using q), if_neg q]
theorem fr5_step {v : Nat} (h1 : 1 ≤ v) (h : v ≤ many5 ns) : fr5 ns v + ((bl5 ns v).map (lf5 ns)).sum = lf5 ns v + fr5 ns (v + 1) := by
  have e1 : lf5 ns v = ((List.range (many5 ns)).map fun c => if c = v - 1 then lf5 ns (c + 1) else 0).sum := by
    rw [sum_one5 (f := fun c => lf5 ns (c + 1)), if_pos (by omega), show v - 1 + 1 = v by omega]
  rw [bl5_sum, e1]
  unfold fr5
  rw [← sum_add5, ← sum_add5]
  congr 1
  refine List.map_congr_left fun c hc => ?_
  have lt := @ab5_lt ns (c + 1) (by omega)
  by_cases a : c = v - 1
  · have : c + 1 = v := by omega
    rw [if_pos (show v ≤ c + 1 ∧ ab5 ns (c + 1) < v by omega), if_neg (show ¬ ab5 ns (c + 1) = v by omega), if_pos a, if_neg (by omega)]
  · rw [if_neg a]
    by_cases b : ab5 ns (c + 1) = v
    · rw [if_neg (show ¬ (v ≤ c + 1 ∧ ab5 ns (c + 1) < v) by omega), if_pos b, if_pos (show v + 1 ≤ c + 1 ∧ ab5 ns (c + 1) < v + 1 by omega)]
    · rw [if_neg b]
      by_cases d : v ≤ c + 1 ∧ ab5 ns (c + 1) < v
      · rw [if_pos d, if_pos (by omega)]; omega
      · rw [if_neg d, if_neg (by omega)]
theorem fr5_le : ∀ (f v : Nat), many5 ns + 1 - v ≤ f → 1 ≤ v → fr5 ns v ≤ many5 ns + 1 - v
  | 0, v, h, h1 => by
    have : fr5 ns v = 0 := by
      unfold fr5
      have : ∀ l : List Nat, (∀ c ∈ l, c < many5 ns) → (l.map fun c => if v ≤ c + 1 ∧ ab5 ns (c + 1) < v then lf5 ns (c + 1) else 0).sum = 0 := fun l => by
        induction l with
        | nil => intro _; rfl
        | cons a r ih =>
          intro hl
          have := hl a (.head _)
          rw [List.map_cons, List.sum_cons, ih fun c hc => hl c (.tail _ hc), if_neg (by omega)]
      exact this _ fun c hc => List.mem_range.mp hc
    omega
  | f + 1, v, h, h1 => by
    by_cases q : v ≤ many5 ns
    · have s := fr5_step h1 q
      have ih := fr5_le f (v + 1) (by omega) (by omega)
      rw [lf5_eq] at s
      split at s
      · rename_i e
        omega
      · omega
    · exact fr5_le f v (by omega) h1
theorem le_sum5 {f : Nat → Nat} {a : Nat} : ∀ {l : List Nat}, a ∈ l → f a ≤ (l.map f).sum
  | [], h => by cases h
  | b :: r, h => by
    rw [List.map_cons, List.sum_cons]
    rcases List.mem_cons.mp h with rfl | h
    · omega
    · have := le_sum5 (f := f) h; omega
theorem lf5_le {v : Nat} (h1 : 1 ≤ v) (h : v ≤ many5 ns) : lf5 ns v ≤ many5 ns + 1 - v := by
  refine Nat.le_trans ?_ (fr5_le _ v (Nat.le_refl _) h1)
  have := le_sum5 (f := fun c => if v ≤ c + 1 ∧ ab5 ns (c + 1) < v then lf5 ns (c + 1) else 0) (a := v - 1) (l := List.range (many5 ns)) (List.mem_range.mpr (by omega))
  rw [show v - 1 + 1 = v by omega, if_pos ⟨Nat.le_refl _, ab5_lt h1⟩] at this
  exact this
theorem bl5_zero : 1 ∈ bl5 ns 0 := by
  refine bl5_mem.mpr ⟨by omega, many5_lo, ?_⟩
  have := @ab5_lt ns 1 (by omega); omega
theorem lf5_zero : lf5 ns 0 = ((bl5 ns 0).map (lf5 ns)).sum := by
  rw [lf5_eq, if_neg]
  intro z
  have := @bl5_zero ns
  rw [List.isEmpty_iff.mp z] at this; cases this
theorem lf5_zero_le : lf5 ns 0 ≤ many5 ns := by
  have : lf5 ns 0 = fr5 ns 1 := by
    rw [lf5_zero, bl5_sum]
    unfold fr5
    congr 1
    refine List.map_congr_left fun c _ => ?_
    by_cases q : ab5 ns (c + 1) = 0
    · rw [if_pos q, if_pos (by omega)]
    · rw [if_neg q, if_neg (by omega)]
  rw [this]
  have := fr5_le (ns := ns) _ 1 (Nat.le_refl _) (by omega)
  omega
noncomputable def ex5 (ns : List Int) (v : Nat) : Nat := (num5 ns (10 + v) % 6).toNat
theorem ex5_eq {v : Nat} : ((ex5 ns v : Nat) : Int) = num5 ns (10 + v) % 6 := by unfold ex5; omega
theorem ex5_le {v : Nat} : ex5 ns v ≤ 5 := by have := @ex5_eq ns v; omega
noncomputable def wt5 (ns : List Int) (v : Nat) : Int := if 1 ≤ v ∧ v ≤ many5 ns then (lf5 ns v : Int) * 2 ^ ex5 ns (ab5 ns v) else 1
theorem pow5 {e : Nat} (h : e ≤ 5) : (1 : Int) ≤ 2 ^ e ∧ (2 : Int) ^ e ≤ 32 ∧ (2 : Int) ^ e * 2 ^ (8 - e) = 256 := by
  rcases (by omega : e = 0 ∨ e = 1 ∨ e = 2 ∨ e = 3 ∨ e = 4 ∨ e = 5) with rfl | rfl | rfl | rfl | rfl | rfl <;> decide
theorem wt5_lo {v : Nat} : 1 ≤ wt5 ns v := by
  unfold wt5
  split
  · have a := @lf5_1 ns v
    have b := (pow5 (@ex5_le ns (ab5 ns v))).1
    have := Int.mul_le_mul (show (1 : Int) ≤ lf5 ns v by omega) b (by omega) (by omega)
    omega
  · omega
theorem wt5_hi {v : Nat} : wt5 ns v ≤ 256 := by
  unfold wt5
  split
  · rename_i q
    have a := lf5_le q.1 q.2
    have m := @many5_hi ns
    have b := pow5 (@ex5_le ns (ab5 ns v))
    have := Int.mul_le_mul (show (lf5 ns v : Int) ≤ 8 by omega) b.2.1 (by omega) (by omega)
    omega
  · omega
end
end Mine
end
section
open PySem PySem.W PyProof.Rows PySem.Calls
set_option linter.unusedVariables false
set_option Elab.async false
namespace Mine
theorem OkM.acts5 {rk : Int → Nat} {M : Mo} (o : OkM rk M) (i : Int) (b : Bool) : OkM rk (Mine.actv M i b) := by
  unfold Mine.actv
  cases q : M i with
  | none => exact o
  | some n => exact o.put (o.ok i n q)
noncomputable def blkM (f : Nat → Int) (p : Nat → Bool) (M : Mo) : Nat → Mo
  | 0 => M
  | i + 1 => if p (i + 1) then actv (blkM f p M i) (f (i + 1)) false else blkM f p M i
theorem blkM_ok {rk : Int → Nat} {f : Nat → Int} {p : Nat → Bool} {M : Mo} (o : OkM rk M) : ∀ i, OkM rk (blkM f p M i)
  | 0 => o
  | i + 1 => by
    unfold blkM
    split
    · exact (blkM_ok o i).acts5 _ _
    · exact blkM_ok o i
theorem blkM_at {f : Nat → Int} {p : Nat → Bool} {M : Mo} {x : Int} {d : Nd} (h : M x = some d) : ∀ i, blkM f p M i x = some (if (List.range i).any (fun v => p (v + 1) && decide (f (v + 1) = x)) then { d with act := false } else d)
  | 0 => h
  | i + 1 => by
    have ih := blkM_at (f := f) (p := p) h i
    rw [List.range_succ, List.any_append]
    unfold blkM
    split
    · rename_i hp
      rw [GG.actv_at ih]
      by_cases q : x = f (i + 1)
      · have e1 : ([i].any fun v => p (v + 1) && decide (f (v + 1) = x)) = true := by simp [hp, q]
        rw [if_pos q, e1, Bool.or_true, if_pos rfl]
        split <;> rfl
      · have z : decide (f (i + 1) = x) = false := decide_eq_false fun z => q z.symm
        have e1 : ([i].any fun v => p (v + 1) && decide (f (v + 1) = x)) = false := by simp [z]
        rw [if_neg q, e1, Bool.or_false]
    · rename_i hp
      simp only [Bool.not_eq_true] at hp
      have e1 : ([i].any fun v => p (v + 1) && decide (f (v + 1) = x)) = false := by simp [hp]
      rw [ih, e1, Bool.or_false]
theorem gg_q {g : GG} {j : Nat} (h : j ≤ g.m) : srtd ((g.ch g.m j).map (GG.zr g.nm)) ∧ ((g.ch g.m j).map (GG.zr g.nm)).Perm ((g.cl g.m j).map (GG.zr g.nm)) := by
  refine ⟨?_, GG.srt_perm.map _⟩
  unfold srtd
  rw [List.pairwise_map]
  exact List.Pairwise.imp (R := fun a b => g.nm a < g.nm b) (fun {a b} h => (klt_iff (a := GG.zr g.nm a) (b := GG.zr g.nm b)).mpr (.inr ⟨rfl, h⟩)) (GG.ch_sorted (Nat.le_refl _))
section
variable {ns : List Int}
noncomputable def g5 (ns : List Int) : GG where
  m := many5 ns
  nm := nm5 ns
  ab := ab5 ns
  wt := wt5 ns
  ac := fun _ => true
  n0 := rfl
  inj := fun i j hi hj h => nm5_inj (Nat.le_trans hi many5_hi) (Nat.le_trans hj many5_hi) h
  abl := fun j h => ab5_lt h
  wl := fun j => wt5_lo
  wh := fun j => wt5_hi
  ml := Nat.le_trans many5_hi (by decide)
noncomputable def t5 (ns : List Int) : WR where
  m := many5 ns
  nm := nm5 ns
  ch := bl5 ns
  w := wt5 ns
  act := fun v => decide (1 ≤ v) && (bl5 ns v).isEmpty
  inj := (g5 ns).inj
  chp := fun i hi c h => ⟨bl5_gt h, (bl5_mem.mp h).2.1⟩
  nd := fun i _ => bl5_nodup
  one := fun i j c _ _ h1 h2 => (bl5_mem.mp h1).2.2.symm.trans (bl5_mem.mp h2).2.2
  w1 := fun j => wt5_lo
  w2 := fun j => wt5_hi
  liv := fun i hi ha z => by
    rw [z] at ha
    have : ¬ 1 ≤ i := fun h => by rw [decide_eq_true h] at ha; cases ha
    have e : i = 0 := by omega
    subst e
    have := @bl5_zero ns
    rw [z] at this; cases this
theorem lvs5 : (t5 ns).Lvs (lf5 ns) where
  rnd := fun i hi ha => by
    obtain ⟨p1, p2, p3⟩ := pow5 (@ex5_le ns i)
    refine ⟨2 ^ ex5 ns i, 2 ^ (8 - ex5 ns i), ⟨WR.node (t := t5 ns) hi ha, fun a _ => lf5_1, fun a h => ?_, p1, p3⟩⟩
    have m := bl5_mem.mp h
    show wt5 ns a = _
    unfold wt5
    rw [if_pos ⟨m.1, m.2.1⟩, m.2.2]
  sum := fun i hi ha => by
    rw [lf5_eq, if_neg]; rfl
    intro z
    exact (t5 ns).liv i hi ha (List.isEmpty_iff.mp z)
  one := fun i hi ha => by
    have : (bl5 ns i).isEmpty = true := by
      have : (decide (1 ≤ i) && (bl5 ns i).isEmpty) = true := ha
      exact (Bool.and_eq_true_iff.mp this).2
    rw [lf5_eq, if_pos this]
structure Ot where
  nm : Int
  ab : Nat
  wt : Int
  ac : Bool
noncomputable def lk5 (ns : List Int) (v : Nat) : Bool := decide ((num5 ns 18 / 2 ^ v) % 2 = 1)
noncomputable def li5 (ns : List Int) (v : Nat) : Int := nm5 ns v + (if (num5 ns 19 / 2 ^ v) % 2 = 1 then 1 else -1)
noncomputable def wl5 (ns : List Int) (v : Nat) : Int := 1 + (num5 ns 19 + 50 * (v : Int)) % 256
noncomputable def pos5 (ns : List Int) : Nat → Nat
  | 0 => 0
  | v + 1 => pos5 ns v + (if lk5 ns (v + 1) then 2 else 1)
noncomputable def row5 (ns : List Int) (v : Nat) : List Ot :=
  if lk5 ns v then [⟨li5 ns v, pos5 ns (ab5 ns v), wt5 ns v, false⟩, ⟨nm5 ns v, pos5 ns v - 1, wl5 ns v, true⟩] else [⟨nm5 ns v, pos5 ns (ab5 ns v), wt5 ns v, true⟩]
noncomputable def L5 (ns : List Int) : Nat → List Ot
  | 0 => []
  | v + 1 => L5 ns v ++ row5 ns (v + 1)
theorem pos5_succ {v : Nat} : pos5 ns v < pos5 ns (v + 1) ∧ pos5 ns (v + 1) ≤ pos5 ns v + 2 := by
  show pos5 ns v < pos5 ns v + _ ∧ pos5 ns v + _ ≤ _
  split <;> omega
theorem pos5_lt {u v : Nat} (h : u < v) : pos5 ns u < pos5 ns v := by
  induction v with
  | zero => omega
  | succ v ih =>
    have := @pos5_succ ns v
    by_cases q : u = v
    · subst q; exact this.1
    · exact Nat.lt_trans (ih (by omega)) this.1
theorem pos5_le {u v : Nat} (h : u ≤ v) : pos5 ns u ≤ pos5 ns v := by
  by_cases q : u = v
  · rw [q]; exact Nat.le_refl _
  · exact Nat.le_of_lt (pos5_lt (by omega))
theorem pos5_inj {u v : Nat} (h : pos5 ns u = pos5 ns v) : u = v := by
  rcases Nat.lt_trichotomy u v with q | q | q
  · have := pos5_lt (ns := ns) q; omega
  · exact q
  · have := pos5_lt (ns := ns) q; omega
theorem pos5_hi : ∀ {v : Nat}, pos5 ns v ≤ 2 * v
  | 0 => Nat.le_refl _
  | v + 1 => by have := @pos5_succ ns v; have := @pos5_hi v; omega
theorem pos5_ge : ∀ {v : Nat}, v ≤ pos5 ns v
  | 0 => Nat.le_refl _
  | v + 1 => by have := @pos5_succ ns v; have := @pos5_ge v; omega
theorem pos5_lk {v : Nat} (h1 : 1 ≤ v) (h : lk5 ns v = true) : pos5 ns v = pos5 ns (v - 1) + 2 := by
  obtain ⟨u, rfl⟩ : ∃ u, v = u + 1 := ⟨v - 1, by omega⟩
  show pos5 ns u + (if lk5 ns (u + 1) then 2 else 1) = _
  rw [h]; rfl
theorem pos5_nl {v : Nat} (h1 : 1 ≤ v) (h : lk5 ns v = false) : pos5 ns v = pos5 ns (v - 1) + 1 := by
  obtain ⟨u, rfl⟩ : ∃ u, v = u + 1 := ⟨v - 1, by omega⟩
  show pos5 ns u + (if lk5 ns (u + 1) then 2 else 1) = _
  rw [h]; rfl
theorem L5_len : ∀ {v : Nat}, (L5 ns v).length = pos5 ns v
  | 0 => rfl
  | v + 1 => by
    show (L5 ns v ++ row5 ns (v + 1)).length = pos5 ns v + _
    rw [List.length_append, L5_len]
    unfold row5
    split <;> rfl
theorem L5_get : ∀ {n v : Nat}, 1 ≤ v → v ≤ n → ∀ k, k < (row5 ns v).length → (L5 ns n)[pos5 ns (v - 1) + k]? = (row5 ns v)[k]?
  | 0, v, h1, h2, _, _ => by omega
  | n + 1, v, h1, h2, k, hk => by
    show (L5 ns n ++ row5 ns (n + 1))[_]? = _
    by_cases q : v = n + 1
    · subst q
      rw [List.getElem?_append_right (by rw [L5_len]; show pos5 ns n ≤ pos5 ns n + k; omega), L5_len]
      congr 1
      show pos5 ns n + k - pos5 ns n = k; omega
    · rw [List.getElem?_append_left]
      · exact L5_get h1 (by omega) k hk
      · rw [L5_len]
        have : pos5 ns (v - 1) + (row5 ns v).length = pos5 ns v := by
          obtain ⟨u, rfl⟩ : ∃ u, v = u + 1 := ⟨v - 1, by omega⟩
          show pos5 ns u + _ = pos5 ns u + _
          unfold row5
          split <;> rfl
        have := pos5_le (ns := ns) (show v ≤ n by omega)
        omega
noncomputable def ot5 (ns : List Int) (j : Nat) : Ot := if j = 0 then ⟨0, 0, 1, false⟩ else (L5 ns (many5 ns)).getD (j - 1) ⟨0, 0, 1, true⟩
theorem ot5_stream {v : Nat} (h1 : 1 ≤ v) (h : v ≤ many5 ns) : ot5 ns (pos5 ns v) = ⟨nm5 ns v, if lk5 ns v then pos5 ns v - 1 else pos5 ns (ab5 ns v), if lk5 ns v then wl5 ns v else wt5 ns v, true⟩ := by
  have p := @pos5_ge ns v
  unfold ot5
  rw [if_neg (by omega), List.getD_eq_getElem?_getD]
  cases q : lk5 ns v with
  | true =>
    have e := pos5_lk h1 q
    have g := L5_get (ns := ns) h1 h 1 (by unfold row5; rw [q]; show 1 < 2; decide)
    rw [show pos5 ns v - 1 = pos5 ns (v - 1) + 1 by omega, g]
    unfold row5; rw [q]
    show (⟨nm5 ns v, pos5 ns v - 1, wl5 ns v, true⟩ : Ot) = _
    rw [show pos5 ns (v - 1) + 1 = pos5 ns v - 1 by omega]; rfl
  | false =>
    have e := pos5_nl h1 q
    have g := L5_get (ns := ns) h1 h 0 (by unfold row5; rw [q]; show 0 < 1; decide)
    rw [show pos5 ns v - 1 = pos5 ns (v - 1) + 0 by omega, g]
    unfold row5; rw [q]; rfl
theorem ot5_link {v : Nat} (h1 : 1 ≤ v) (h : v ≤ many5 ns) (q : lk5 ns v = true) : ot5 ns (pos5 ns v - 1) = ⟨li5 ns v, pos5 ns (ab5 ns v), wt5 ns v, false⟩ := by
  have e := pos5_lk h1 q
  unfold ot5
  rw [if_neg (by omega), List.getD_eq_getElem?_getD]
  have g := L5_get (ns := ns) h1 h 0 (by unfold row5; rw [q]; show 0 < 2; decide)
  rw [show pos5 ns v - 1 - 1 = pos5 ns (v - 1) + 0 by omega, g]
  unfold row5; rw [q]; rfl
theorem ix5 : ∀ {n j : Nat}, 1 ≤ j → j ≤ pos5 ns n → ∃ v, 1 ≤ v ∧ v ≤ n ∧ (j = pos5 ns v ∨ (lk5 ns v = true ∧ j + 1 = pos5 ns v))
  | 0, j, h1, h2 => by have : j ≤ 0 := h2; omega
  | n + 1, j, h1, h2 => by
    by_cases q : j ≤ pos5 ns n
    · obtain ⟨v, a, b, d⟩ := ix5 (n := n) h1 q
      exact ⟨v, a, by omega, d⟩
    · refine ⟨n + 1, by omega, by omega, ?_⟩
      cases z : lk5 ns (n + 1) with
      | true =>
        have e := pos5_lk (by omega) z
        rw [show n + 1 - 1 = n by omega] at e
        by_cases y : j = pos5 ns (n + 1)
        · exact .inl y
        · exact .inr ⟨rfl, by omega⟩
      | false =>
        have e := pos5_nl (by omega) z
        rw [show n + 1 - 1 = n by omega] at e
        exact .inl (by omega)
theorem ot5_big {j : Nat} (h : pos5 ns (many5 ns) < j) : ot5 ns j = ⟨0, 0, 1, true⟩ := by
  unfold ot5
  rw [if_neg (by omega), List.getD_eq_getElem?_getD, List.getElem?_eq_none (by rw [L5_len]; omega)]; rfl
theorem li5_eq {v : Nat} : li5 ns v = nm5 ns v + 1 ∨ li5 ns v = nm5 ns v - 1 := by
  unfold li5
  split
  · exact .inl rfl
  · exact .inr rfl
theorem ot5_ab {j : Nat} (h : 1 ≤ j) : (ot5 ns j).ab < j := by
  by_cases q : j ≤ pos5 ns (many5 ns)
  · obtain ⟨v, a, b, d⟩ := ix5 h q
    have l := pos5_lt (ns := ns) (@ab5_lt ns v a)
    rcases d with rfl | ⟨z, e⟩
    · rw [ot5_stream a b]
      show (if lk5 ns v then pos5 ns v - 1 else pos5 ns (ab5 ns v)) < _
      split <;> omega
    · have e2 := pos5_lk a z
      have e3 := pos5_le (ns := ns) (show ab5 ns v ≤ v - 1 by have := @ab5_lt ns v a; omega)
      rw [show j = pos5 ns v - 1 by omega, ot5_link a b z]
      show pos5 ns (ab5 ns v) < _
      omega
  · rw [ot5_big (by omega)]; exact h
theorem ot5_wt {j : Nat} : 1 ≤ (ot5 ns j).wt ∧ (ot5 ns j).wt ≤ 256 := by
  by_cases h : 1 ≤ j
  · by_cases q : j ≤ pos5 ns (many5 ns)
    · obtain ⟨v, a, b, d⟩ := ix5 h q
      have w1 := @wt5_lo ns v
      have w2 := @wt5_hi ns v
      rcases d with rfl | ⟨z, e⟩
      · rw [ot5_stream a b]
        show 1 ≤ (if lk5 ns v then wl5 ns v else wt5 ns v) ∧ (if lk5 ns v then wl5 ns v else wt5 ns v) ≤ 256
        unfold wl5
        split <;> omega
      · rw [show j = pos5 ns v - 1 by omega, ot5_link a b z]
        exact ⟨w1, w2⟩
    · rw [ot5_big (by omega)]; decide
  · rw [show j = 0 by omega]; exact ⟨Int.le_refl _, by show (1 : Int) ≤ 256; decide⟩
theorem nm5_form {v : Nat} (h : 1 ≤ v) : nm5 ns v = 10 + 10 * ((3 * (v : Int) + num5 ns 1) % 11) := by unfold nm5; rw [if_neg (by omega)]
theorem ot5_inj {i j : Nat} (hi : i ≤ pos5 ns (many5 ns)) (hj : j ≤ pos5 ns (many5 ns)) (h : (ot5 ns i).nm = (ot5 ns j).nm) : i = j := by
  have m := @many5_hi ns
  have c : ∀ i, i ≤ pos5 ns (many5 ns) → (i = 0 ∧ (ot5 ns i).nm = 0) ∨ ∃ v, 1 ≤ v ∧ v ≤ 8 ∧ ((i = pos5 ns v ∧ (ot5 ns i).nm = nm5 ns v) ∨ (i + 1 = pos5 ns v ∧ (ot5 ns i).nm = li5 ns v)) := fun i hi => by
    by_cases z : i = 0
    · subst z; exact .inl ⟨rfl, rfl⟩
    · obtain ⟨v, a, b, d⟩ := ix5 (ns := ns) (show 1 ≤ i by omega) hi
      refine .inr ⟨v, a, by omega, ?_⟩
      rcases d with rfl | ⟨y, e⟩
      · exact .inl ⟨rfl, by rw [ot5_stream a b]⟩
      · refine .inr ⟨e, ?_⟩
        rw [show i = pos5 ns v - 1 by omega, ot5_link a b y]
  rcases c i hi with ⟨rfl, e1⟩ | ⟨u, u1, u2, du⟩
  · rcases c j hj with ⟨rfl, e2⟩ | ⟨v, v1, v2, dv⟩
    · rfl
    · have f := nm5_form (ns := ns) v1
      have g := @li5_eq ns v
      rcases dv with ⟨_, e⟩ | ⟨_, e⟩ <;> omega
  · have f := nm5_form (ns := ns) u1
    have g := @li5_eq ns u
    rcases c j hj with ⟨rfl, e2⟩ | ⟨v, v1, v2, dv⟩
    · rcases du with ⟨_, e⟩ | ⟨_, e⟩ <;> omega
    · have f2 := nm5_form (ns := ns) v1
      have g2 := @li5_eq ns v
      have uv : u = v := by
        have : (3 * (u : Int) + num5 ns 1) % 11 = (3 * (v : Int) + num5 ns 1) % 11 := by
          rcases du with ⟨_, e⟩ | ⟨_, e⟩ <;> rcases dv with ⟨_, e'⟩ | ⟨_, e'⟩ <;> omega
        omega
      subst uv
      rcases du with ⟨a, e⟩ | ⟨a, e⟩ <;> rcases dv with ⟨b, e'⟩ | ⟨b, e'⟩ <;> omega
end
end Mine
end
section
open PySem PySem.W PyProof.Rows PySem.Calls
set_option linter.unusedVariables false
set_option Elab.async false
namespace Mine
section
variable {ns : List Int}
noncomputable def o5 (ns : List Int) : GG where
  m := pos5 ns (many5 ns)
  nm := fun j => (ot5 ns j).nm
  ab := fun j => (ot5 ns j).ab
  wt := fun j => (ot5 ns j).wt
  ac := fun j => (ot5 ns j).ac
  n0 := rfl
  inj := fun i j hi hj h => ot5_inj hi hj h
  abl := fun j h => ot5_ab h
  wl := fun j => ot5_wt.1
  wh := fun j => ot5_wt.2
  ml := by have := @pos5_hi ns (many5 ns); have := @many5_hi ns; omega
noncomputable def ps5 (ns : List Int) (c : Nat) : Nat := if lk5 ns c then pos5 ns c - 1 else pos5 ns c
theorem ps5_bd {c : Nat} (h : 1 ≤ c) : pos5 ns (c - 1) < ps5 ns c ∧ ps5 ns c ≤ pos5 ns c := by
  unfold ps5
  split
  · rename_i q; have := pos5_lk h q; omega
  · have := pos5_lt (ns := ns) (show c - 1 < c by omega); omega
theorem flt_app {p : Nat → Bool} {n k : Nat} : ((List.range (n + k)).map (· + 1)).filter p = ((List.range n).map (· + 1)).filter p ++ ((List.range k).map fun i => n + i + 1).filter p := by
  rw [List.range_add, List.map_append, List.filter_append, List.map_map]; rfl
theorem cl5 {i : Nat} (hi : i ≤ many5 ns) : ∀ n, n ≤ many5 ns → ((List.range (pos5 ns n)).map (· + 1)).filter (fun k => decide ((ot5 ns k).ab = pos5 ns i)) = (((List.range n).map (· + 1)).filter fun k => decide (ab5 ns k = i)).map (ps5 ns)
  | 0, _ => rfl
  | n + 1, h => by
    have ih := cl5 hi n (by omega)
    have en : ((List.range (n + 1)).map (· + 1)).filter (fun k => decide (ab5 ns k = i)) = ((List.range n).map (· + 1)).filter (fun k => decide (ab5 ns k = i)) ++ if ab5 ns (n + 1) = i then [n + 1] else [] := by
      rw [flt_app (k := 1)]
      congr 1
      show List.filter _ [n + 0 + 1] = _
      rw [List.filter_cons]
      simp only [decide_eq_true_eq, Nat.add_zero, List.filter_nil]
    rw [en, List.map_append, ← ih]
    have ai : ∀ {a}, pos5 ns a = pos5 ns i ↔ a = i := fun {a} => ⟨pos5_inj, fun z => by rw [z]⟩
    cases z : lk5 ns (n + 1) with
    | true =>
      have e := pos5_lk (ns := ns) (v := n + 1) (by omega) z
      rw [show n + 1 - 1 = n by omega] at e
      have l1 := ot5_link (ns := ns) (v := n + 1) (by omega) h z
      have l2 := ot5_stream (ns := ns) (v := n + 1) (by omega) h
      rw [z] at l2
      have e1 : pos5 ns (n + 1) - 1 = pos5 ns n + 0 + 1 := by omega
      have e2 : pos5 ns (n + 1) = pos5 ns n + 1 + 1 := by omega
      rw [show pos5 ns (n + 1) = pos5 ns n + 2 from e, flt_app (k := 2)]
      congr 1
      show List.filter _ [pos5 ns n + 0 + 1, pos5 ns n + 1 + 1] = _
      rw [← e2, ← e1]
      have ne : ¬ pos5 ns (n + 1) - 1 = pos5 ns i := fun y => by
        rcases Nat.lt_or_ge n i with q | q
        · have := pos5_le (ns := ns) (show n + 1 ≤ i by omega); omega
        · have := pos5_le (ns := ns) q; omega
      have pe : ps5 ns (n + 1) = pos5 ns (n + 1) - 1 := by unfold ps5; rw [z]; rfl
      rw [List.filter_cons, List.filter_cons, l1, l2]
      by_cases q : ab5 ns (n + 1) = i
      · simp only [ai.mpr q, q, ne, decide_true, if_true, decide_false, List.filter_nil, List.map_cons, List.map_nil, pe]; rfl
      · have q' : ¬ pos5 ns (ab5 ns (n + 1)) = pos5 ns i := fun y => q (ai.mp y)
        simp only [q, q', ne, decide_false, if_true, if_false, List.filter_nil, List.map_nil]; rfl
    | false =>
      have e := pos5_nl (ns := ns) (v := n + 1) (by omega) z
      rw [show n + 1 - 1 = n by omega] at e
      have l2 := ot5_stream (ns := ns) (v := n + 1) (by omega) h
      rw [z] at l2
      have e2 : pos5 ns (n + 1) = pos5 ns n + 0 + 1 := by omega
      rw [e, flt_app (k := 1)]
      congr 1
      show List.filter _ [pos5 ns n + 0 + 1] = _
      rw [← e2]
      have pe : ps5 ns (n + 1) = pos5 ns (n + 1) := by unfold ps5; rw [z]; rfl
      rw [List.filter_cons, l2]
      by_cases q : ab5 ns (n + 1) = i
      · simp only [ai.mpr q, q, decide_true, if_true, List.filter_nil, List.map_cons, List.map_nil, pe, if_false, Bool.false_eq_true]
      · have q' : ¬ pos5 ns (ab5 ns (n + 1)) = pos5 ns i := fun y => q (ai.mp y)
        simp only [q, q', decide_false, if_false, List.filter_nil, List.map_nil, Bool.false_eq_true]
theorem cl5_link {c : Nat} (h1 : 1 ≤ c) (hc : c ≤ many5 ns) (hl : lk5 ns c = true) : ∀ n, n ≤ many5 ns → ((List.range (pos5 ns n)).map (· + 1)).filter (fun k => decide ((ot5 ns k).ab = pos5 ns c - 1)) = if c ≤ n then [pos5 ns c] else []
  | 0, _ => by rw [if_neg (by omega)]; rfl
  | n + 1, h => by
    have ih := cl5_link h1 hc hl n (by omega)
    have el := pos5_lk h1 hl
    have nope : ∀ a, ¬ pos5 ns a = pos5 ns c - 1 := fun a y => by
      rcases Nat.lt_or_ge a c with q | q
      · have := pos5_le (ns := ns) (show a ≤ c - 1 by omega); omega
      · have := pos5_le (ns := ns) q; omega
    cases z : lk5 ns (n + 1) with
    | true =>
      have e := pos5_lk (ns := ns) (v := n + 1) (by omega) z
      rw [show n + 1 - 1 = n by omega] at e
      have l1 := ot5_link (ns := ns) (v := n + 1) (by omega) h z
      have l2 := ot5_stream (ns := ns) (v := n + 1) (by omega) h
      rw [z] at l2
      have e1 : pos5 ns (n + 1) - 1 = pos5 ns n + 0 + 1 := by omega
      have e2 : pos5 ns (n + 1) = pos5 ns n + 1 + 1 := by omega
      rw [show pos5 ns (n + 1) = pos5 ns n + 2 from e, flt_app (k := 2), ih]
      show _ ++ List.filter _ [pos5 ns n + 0 + 1, pos5 ns n + 1 + 1] = _
      rw [← e2, ← e1, List.filter_cons, List.filter_cons, l1, l2]
      have a1 := nope (ab5 ns (n + 1))
      by_cases q : c = n + 1
      · subst q
        simp only [a1, decide_false, if_true, if_false, Bool.false_eq_true, decide_true, List.filter_nil]
        rw [if_neg (by omega), if_pos (Nat.le_refl _)]; rfl
      · have a2 : ¬ pos5 ns (n + 1) - 1 = pos5 ns c - 1 := fun y => q (pos5_inj (ns := ns) (by have := @pos5_ge ns (n + 1); have := @pos5_ge ns c; omega))
        simp only [a1, a2, decide_false, if_true, if_false, Bool.false_eq_true, List.filter_nil]
        by_cases r : c ≤ n
        · rw [if_pos r, if_pos (by omega)]; rfl
        · rw [if_neg r, if_neg (by omega)]; rfl
    | false =>
      have e := pos5_nl (ns := ns) (v := n + 1) (by omega) z
      rw [show n + 1 - 1 = n by omega] at e
      have l2 := ot5_stream (ns := ns) (v := n + 1) (by omega) h
      rw [z] at l2
      have e2 : pos5 ns (n + 1) = pos5 ns n + 0 + 1 := by omega
      rw [e, flt_app (k := 1), ih]
      show _ ++ List.filter _ [pos5 ns n + 0 + 1] = _
      rw [← e2, List.filter_cons, l2]
      have a1 := nope (ab5 ns (n + 1))
      have q : c ≠ n + 1 := fun q => by rw [q, z] at hl; cases hl
      simp only [a1, decide_false, if_false, List.filter_nil, Bool.false_eq_true]
      by_cases r : c ≤ n
      · rw [if_pos r, if_pos (by omega)]; rfl
      · rw [if_neg r, if_neg (by omega)]; rfl
noncomputable def u5 (ns : List Int) : WR where
  m := pos5 ns (many5 ns)
  nm := fun j => (ot5 ns j).nm
  ch := fun j => (o5 ns).cl (pos5 ns (many5 ns)) j
  w := fun j => (ot5 ns j).wt
  act := fun j => (ot5 ns j).ac && ((o5 ns).cl (pos5 ns (many5 ns)) j).isEmpty
  inj := (o5 ns).inj
  chp := fun i hi c h => ⟨GG.cl_gt h, (GG.cl_mem.mp h).2.1⟩
  nd := fun i _ => List.nodup_iff_pairwise_ne.mpr GG.cl_nodup
  one := fun i j c _ _ h1 h2 => (GG.cl_mem.mp h1).2.2.symm.trans (GG.cl_mem.mp h2).2.2
  w1 := fun j => ot5_wt.1
  w2 := fun j => ot5_wt.2
  liv := fun i hi ha z => by
    rw [z] at ha
    have hac : (ot5 ns i).ac = false := by
      cases q : (ot5 ns i).ac with
      | false => rfl
      | true => rw [q] at ha; cases ha
    by_cases h0 : i = 0
    · subst h0
      have e : (o5 ns).cl (pos5 ns (many5 ns)) 0 = (bl5 ns 0).map (ps5 ns) := cl5 (ns := ns) (i := 0) (Nat.zero_le _) _ (Nat.le_refl _)
      rw [e, List.map_eq_nil_iff] at z
      have := @bl5_zero ns
      rw [z] at this; cases this
    · obtain ⟨v, a, b, d⟩ := ix5 (ns := ns) (show 1 ≤ i by omega) hi
      rcases d with rfl | ⟨y, e⟩
      · rw [ot5_stream a b] at hac; cases hac
      · have e2 : (o5 ns).cl (pos5 ns (many5 ns)) (pos5 ns v - 1) = if v ≤ many5 ns then [pos5 ns v] else [] := cl5_link a b y _ (Nat.le_refl _)
        rw [show i = pos5 ns v - 1 by omega, e2, if_pos b] at z
        cases z
theorem u5_ch {i : Nat} (h : i ≤ many5 ns) : (u5 ns).ch (pos5 ns i) = (bl5 ns i).map (ps5 ns) := cl5 h _ (Nat.le_refl _)
theorem lnk5 : (t5 ns).Lnk (u5 ns) (pos5 ns) (ps5 ns) where
  fm := fun v h => pos5_le h
  fa := fun v h => by
    by_cases z : v = 0
    · subst z; rfl
    · show ((ot5 ns (pos5 ns v)).ac && ((u5 ns).ch (pos5 ns v)).isEmpty) = (decide (1 ≤ v) && (bl5 ns v).isEmpty)
      rw [ot5_stream (by omega) h, u5_ch h, decide_eq_true (show 1 ≤ v by omega)]
      cases bl5 ns v <;> rfl
  fn := fun v h => by
    by_cases z : v = 0
    · subst z; rfl
    · show (ot5 ns (pos5 ns v)).nm = _
      rw [ot5_stream (by omega) h]; rfl
  ch := fun i hi _ => u5_ch hi
  ln := fun i hi c hc => by
    have m := bl5_mem.mp hc
    unfold ps5
    cases q : lk5 ns c with
    | false => exact .inl rfl
    | true =>
      have e2 : (o5 ns).cl (pos5 ns (many5 ns)) (pos5 ns c - 1) = if c ≤ many5 ns then [pos5 ns c] else [] := cl5_link m.1 m.2.1 q _ (Nat.le_refl _)
      rw [if_pos m.2.1] at e2
      refine .inr ⟨?_, e2⟩
      show ((ot5 ns (pos5 ns c - 1)).ac && _) = false
      rw [ot5_link m.1 m.2.1 q]; rfl
  wt := fun i hi c hc => by
    have m := bl5_mem.mp hc
    show (ot5 ns (ps5 ns c)).wt = wt5 ns c
    unfold ps5
    cases q : lk5 ns c with
    | false => rw [if_neg (by simp), ot5_stream m.1 m.2.1, q]; rfl
    | true => rw [if_pos rfl, ot5_link m.1 m.2.1 q]
  ord := fun i hi a ha b hb => by
    have ma := bl5_mem.mp ha
    have mb := bl5_mem.mp hb
    have key : ∀ c, 1 ≤ c → c ≤ many5 ns → (ot5 ns (ps5 ns c)).nm = nm5 ns c ∨ (ot5 ns (ps5 ns c)).nm = nm5 ns c + 1 ∨ (ot5 ns (ps5 ns c)).nm = nm5 ns c - 1 := fun c h1 h2 => by
      unfold ps5
      cases q : lk5 ns c with
      | false => rw [if_neg (by simp), ot5_stream h1 h2]; exact .inl rfl
      | true => rw [if_pos rfl, ot5_link h1 h2 q]; exact .inr li5_eq
    show (ot5 ns (ps5 ns a)).nm < (ot5 ns (ps5 ns b)).nm ↔ nm5 ns a < nm5 ns b
    by_cases z : a = b
    · subst z; omega
    · have ka := key a ma.1 ma.2.1
      have kb := key b mb.1 mb.2.1
      have fa := nm5_form (ns := ns) ma.1
      have fb := nm5_form (ns := ns) mb.1
      have hi := @many5_hi ns
      have ne : nm5 ns a ≠ nm5 ns b := fun y => z (nm5_inj (by omega) (by omega) y)
      generalize (3 * (a : Int) + num5 ns 1) % 11 = x at fa
      generalize (3 * (b : Int) + num5 ns 1) % 11 = y at fb
      omega
  inj := fun i hi a ha b hb e => by
    have ma := bl5_mem.mp ha
    have mb := bl5_mem.mp hb
    have pa := ps5_bd (ns := ns) ma.1
    have pb := ps5_bd (ns := ns) mb.1
    rcases Nat.lt_trichotomy a b with q | q | q
    · have := pos5_le (ns := ns) (show a ≤ b - 1 by omega); omega
    · exact q
    · have := pos5_le (ns := ns) (show b ≤ a - 1 by omega); omega
end
end Mine
end
section
open PySem PySem.W PyProof.Rows PySem.Calls
set_option linter.unusedVariables false
set_option Elab.async false
namespace Mine
noncomputable def TM (M : Mo) : Nat → Mo
  | 0 => M
  | k + 1 => (sched 20 (TM M k) 0).2
theorem wr_turns {t : WR} (h0 : t.nm 0 = 0) (ha : t.act 0 = false) (hm : t.m < 20) {M : Mo} (S : t.St 0 (fun _ => 0) M) :
    ∀ T, (∃ k, t.St 0 k (TM M T) ∧ (∀ c ∈ t.ch 0, k c = t.kk 0 T c) ∧ t.Coh 1 k) ∧ (sched 20 (TM M T) 0).1 = some (t.nm (t.tl 20 0 T)) := by
  have told : ∀ T, (∃ k, t.St 0 k (TM M T) ∧ (∀ c ∈ t.ch 0, k c = t.kk 0 T c) ∧ t.Coh 1 k) → (sched 20 (TM M T) 0).1 = some (t.nm (t.tl 20 0 T)) ∧ ∃ k, t.St 0 k (TM M (T + 1)) ∧ (∀ c ∈ t.ch 0, k c = t.kk 0 (T + 1) c) ∧ t.Coh 1 k := by
    rintro T ⟨k, a, b, d⟩
    obtain ⟨M', k', r1, r2, r3, r4, -, -, -⟩ := WR.turn 20 0 (TM M T) k T (Nat.zero_le _) (by omega) ha a b d
    rw [h0] at r1
    refine ⟨by rw [r1], k', ?_, r3, r4⟩
    show t.St 0 k' (sched 20 (TM M T) 0).2
    rw [r1]; exact r2
  intro T
  induction T with
  | zero =>
    have : ∃ k, t.St 0 k (TM M 0) ∧ (∀ c ∈ t.ch 0, k c = t.kk 0 0 c) ∧ t.Coh 1 k := ⟨fun _ => 0, S, fun _ _ => rfl, fun _ _ _ _ _ _ => rfl⟩
    exact ⟨this, (told 0 this).1⟩
  | succ T ih =>
    have := (told T ih.1).2
    exact ⟨this, (told _ this).1⟩
theorem tm_ok {rk : Int → Nat} (hr : rk 0 < 20) {M : Mo} (o : OkM rk M) (h : ∃ d, M 0 = some d ∧ d.act = false) : ∀ T, OkM rk (TM M T) ∧ ∃ d, TM M T 0 = some d ∧ d.act = false
  | 0 => ⟨o, h⟩
  | T + 1 => by
    obtain ⟨a, d, b, e⟩ := tm_ok hr o h T
    have R := Res.sched 20 a ⟨d, b⟩ hr
    obtain ⟨d', h1, _, _, _, h2⟩ := R.like.fw 0 d b
    exact ⟨R.ok, d', h1, by rw [h2, e]⟩
section
variable {ns : List Int}
noncomputable def pb5 (ns : List Int) (v : Nat) : Bool := !(bl5 ns v).isEmpty
noncomputable def MT5 (ns : List Int) (i : Nat) : Mo := blkM (nm5 ns) (pb5 ns) ((g5 ns).M (many5 ns)) i
noncomputable def MO5 (ns : List Int) (i : Nat) : Mo := blkM (nm5 ns) (pb5 ns) ((o5 ns).M (pos5 ns (many5 ns))) i
theorem any5 {x : Int} : ((List.range (many5 ns)).any fun v => pb5 ns (v + 1) && decide (nm5 ns (v + 1) = x)) = true ↔ ∃ v, 1 ≤ v ∧ v ≤ many5 ns ∧ pb5 ns v = true ∧ nm5 ns v = x := by
  rw [List.any_eq_true]
  constructor
  · rintro ⟨v, hv, h⟩
    obtain ⟨a, b⟩ := Bool.and_eq_true_iff.mp h
    exact ⟨v + 1, by omega, by have := List.mem_range.mp hv; omega, a, of_decide_eq_true b⟩
  · rintro ⟨v, h1, h2, h3, h4⟩
    refine ⟨v - 1, List.mem_range.mpr (by omega), ?_⟩
    rw [show v - 1 + 1 = v by omega, h3, decide_eq_true h4]; rfl
theorem st_t5 : (t5 ns).St 0 (fun _ => 0) (MT5 ns (many5 ns)) := fun j _ hj => by
  have hj : j ≤ many5 ns := hj
  obtain ⟨a, -⟩ := GG.M_at (g := g5 ns) (i := many5 ns) (Nat.le_refl _)
  have e := blkM_at (f := nm5 ns) (p := pb5 ns) (a j hj) (many5 ns)
  obtain ⟨q1, q2⟩ := gg_q (g := g5 ns) hj
  have hact : (if ((List.range (many5 ns)).any fun v => pb5 ns (v + 1) && decide (nm5 ns (v + 1) = nm5 ns j)) = true then { (g5 ns).D (many5 ns) j with act := false } else (g5 ns).D (many5 ns) j).act = (t5 ns).act j := by
    show _ = (decide (1 ≤ j) && (bl5 ns j).isEmpty)
    by_cases z : j = 0
    · subst z
      split <;> rfl
    · rw [decide_eq_true (show 1 ≤ j by omega), Bool.true_and]
      have hi := @many5_hi ns
      split
      · rename_i h
        obtain ⟨v, h1, h2, h3, h4⟩ := any5.mp h
        have := nm5_inj (by omega) (by omega) h4
        subst this
        unfold pb5 at h3
        cases q : (bl5 ns v).isEmpty with
        | true => rw [q] at h3; cases h3
        | false => rfl
      · rename_i h
        cases q : (bl5 ns j).isEmpty with
        | true => show (if j = 0 then false else true) = true; rw [if_neg z]
        | false => exact absurd (any5.mpr ⟨j, by omega, hj, by unfold pb5; rw [q]; rfl, rfl⟩) h
  refine ⟨_, e, hact, fun h => ?_, ?_, ?_⟩
  · have : remn (wt5 ns j) 0 = 0 := by unfold remn; simp
    show (if _ then _ else _ : Nd).wt = wt5 ns j ∧ (if _ then _ else _ : Nd).df = remn (wt5 ns j) 0
    rw [this]
    have w : ((g5 ns).D (many5 ns) j).wt = wt5 ns j := by show (if j = 0 then 1 else wt5 ns j) = _; rw [if_neg (by omega)]
    split <;> exact ⟨w, rfl⟩
  · split <;> exact q1
  · have : ((t5 ns).ch j).map ((t5 ns).en fun _ => 0) = ((g5 ns).cl (many5 ns) j).map (GG.zr (nm5 ns)) := List.map_congr_left fun c _ => by
      show (lev _ 0, _) = ((0 : Int), _)
      rw [lev_zero]; rfl
    rw [this]
    split <;> exact q2
theorem st_u5 : (u5 ns).St 0 (fun _ => 0) (MO5 ns (many5 ns)) := fun j _ hj => by
  have hj : j ≤ pos5 ns (many5 ns) := hj
  obtain ⟨a, -⟩ := GG.M_at (g := o5 ns) (i := pos5 ns (many5 ns)) (Nat.le_refl _)
  have e := blkM_at (f := nm5 ns) (p := pb5 ns) (a j hj) (many5 ns)
  obtain ⟨q1, q2⟩ := gg_q (g := o5 ns) hj
  have hi := @many5_hi ns
  have hact : (if ((List.range (many5 ns)).any fun v => pb5 ns (v + 1) && decide (nm5 ns (v + 1) = (ot5 ns j).nm)) = true then { (o5 ns).D (pos5 ns (many5 ns)) j with act := false } else (o5 ns).D (pos5 ns (many5 ns)) j).act = (u5 ns).act j := by
    show _ = ((ot5 ns j).ac && ((u5 ns).ch j).isEmpty)
    by_cases z : j = 0
    · subst z
      split <;> rfl
    · obtain ⟨v, v1, v2, dv⟩ := ix5 (ns := ns) (show 1 ≤ j by omega) hj
      have D1 : ((o5 ns).D (pos5 ns (many5 ns)) j).act = (ot5 ns j).ac := by show (if j = 0 then false else (ot5 ns j).ac) = _; rw [if_neg z]
      rcases dv with rfl | ⟨y, ey⟩
      · have acv : (ot5 ns (pos5 ns v)).ac = true := by rw [ot5_stream v1 v2]
        have nmv : (ot5 ns (pos5 ns v)).nm = nm5 ns v := by rw [ot5_stream v1 v2]
        rw [u5_ch v2, acv, nmv]
        rw [acv] at D1
        have em : ((bl5 ns v).map (ps5 ns)).isEmpty = (bl5 ns v).isEmpty := by cases bl5 ns v <;> rfl
        rw [em, show (true && (bl5 ns v).isEmpty) = (bl5 ns v).isEmpty from rfl]
        split
        · rename_i h
          obtain ⟨v', h1, h2, h3, h4⟩ := any5.mp h
          have := nm5_inj (by omega) (by omega) h4
          subst this
          unfold pb5 at h3
          cases q : (bl5 ns v').isEmpty with
          | true => rw [q] at h3; cases h3
          | false => rfl
        · rename_i h
          cases q : (bl5 ns v).isEmpty with
          | true => exact D1
          | false => exact absurd (any5.mpr ⟨v, v1, v2, by unfold pb5; rw [q]; rfl, rfl⟩) h
      · have ej : j = pos5 ns v - 1 := by omega
        have l := ot5_link v1 v2 y
        rw [← ej] at l
        have ac : (ot5 ns j).ac = false := by rw [l]
        rw [ac]
        split
        · rfl
        · rw [D1, ac]; rfl
  refine ⟨_, e, hact, fun h => ?_, ?_, ?_⟩
  · have : remn ((ot5 ns j).wt) 0 = 0 := by unfold remn; simp
    show (if _ then _ else _ : Nd).wt = (ot5 ns j).wt ∧ (if _ then _ else _ : Nd).df = remn (ot5 ns j).wt 0
    rw [this]
    have w : ((o5 ns).D (pos5 ns (many5 ns)) j).wt = (ot5 ns j).wt := by show (if j = 0 then 1 else (ot5 ns j).wt) = _; rw [if_neg (by omega)]
    split <;> exact ⟨w, rfl⟩
  · split <;> exact q1
  · have : ((u5 ns).ch j).map ((u5 ns).en fun _ => 0) = ((o5 ns).cl (pos5 ns (many5 ns)) j).map (GG.zr fun j => (ot5 ns j).nm) := List.map_congr_left fun c _ => by
      show (lev _ 0, _) = ((0 : Int), _)
      rw [lev_zero]; rfl
    rw [this]
    split <;> exact q2
noncomputable def srv5 (ns : List Int) (T : Nat) : Int := nm5 ns ((t5 ns).tl 20 0 T)
theorem rkT : (g5 ns).rk 0 < 20 := by
  have := GG.rk_le (g := g5 ns) (x := 0)
  have := @many5_hi ns
  have : (g5 ns).m = many5 ns := rfl
  omega
theorem rkO : (o5 ns).rk 0 < 20 := by
  have := GG.rk_le (g := o5 ns) (x := 0)
  have := @many5_hi ns
  have := @pos5_hi ns (many5 ns)
  have : (o5 ns).m = pos5 ns (many5 ns) := rfl
  omega
theorem root_of {t : WR} (h0 : t.nm 0 = 0) (ha : t.act 0 = false) {k : Nat → Nat} {M : Mo} (S : t.St 0 k M) : ∃ d, M 0 = some d ∧ d.act = false := by
  obtain ⟨d, h1, h2, -⟩ := S 0 (Nat.le_refl _) (Nat.zero_le _)
  rw [h0] at h1
  exact ⟨d, h1, h2.trans ha⟩
theorem T5_good (T : Nat) : OkM (g5 ns).rk (TM (MT5 ns (many5 ns)) T) ∧ (∃ d, TM (MT5 ns (many5 ns)) T 0 = some d ∧ d.act = false) ∧ (sched 20 (TM (MT5 ns (many5 ns)) T) 0).1 = some (srv5 ns T) := by
  obtain ⟨a, b⟩ := tm_ok rkT (blkM_ok (GG.M_ok (g := g5 ns) (i := many5 ns) (Nat.le_refl _)) (many5 ns)) (root_of (t := t5 ns) rfl rfl st_t5) T
  have hi := @many5_hi ns
  exact ⟨a, b, (wr_turns (t := t5 ns) rfl rfl (by show many5 ns < 20; omega) st_t5 T).2⟩
theorem O5_good (T : Nat) : OkM (o5 ns).rk (TM (MO5 ns (many5 ns)) T) ∧ (∃ d, TM (MO5 ns (many5 ns)) T 0 = some d ∧ d.act = false) ∧ (sched 20 (TM (MO5 ns (many5 ns)) T) 0).1 = some (srv5 ns T) := by
  obtain ⟨a, b⟩ := tm_ok rkO (blkM_ok (GG.M_ok (g := o5 ns) (i := pos5 ns (many5 ns)) (Nat.le_refl _)) (many5 ns)) (root_of (t := u5 ns) rfl rfl st_u5) T
  have hi := @many5_hi ns
  have hp := @pos5_hi ns (many5 ns)
  have w := (wr_turns (t := u5 ns) rfl rfl (by show pos5 ns (many5 ns) < 20; omega) st_u5 T).2
  have l := WR.lnk_tl (lnk5 (ns := ns)) 20 0 T 20 (Nat.zero_le _) (by show many5 ns - 0 < 20; omega) (by show pos5 ns (many5 ns) - 0 < 20; omega) rfl
  refine ⟨a, b, w.trans ?_⟩
  rw [show (0 : Nat) = pos5 ns 0 from rfl, l]; rfl
end
end Mine
end
section
open PySem PySem.W PyProof.Rows PySem.Calls
set_option linter.unusedVariables false
set_option Elab.async false
namespace Mine
section
variable {ns : List Int}
inductive Dn5 (ns : List Int) : Nat → Nat → Prop
  | refl (i : Nat) : Dn5 ns i i
  | step {i j : Nat} : 1 ≤ j → Dn5 ns i (ab5 ns j) → Dn5 ns i j
theorem Dn5.le {i j : Nat} (h : Dn5 ns i j) : i ≤ j := by
  induction h with
  | refl => exact Nat.le_refl _
  | step a _ ih => have := @ab5_lt ns _ a; omega
theorem Dn5.split {i j : Nat} (h : Dn5 ns i j) (hj : j ≤ many5 ns) : j = i ∨ ∃ c ∈ bl5 ns i, Dn5 ns c j := by
  induction h with
  | refl => exact .inl rfl
  | @step j a _ ih =>
    have lt := @ab5_lt ns j a
    rcases ih (by omega) with e | ⟨c, hc, d⟩
    · exact .inr ⟨j, bl5_mem.mpr ⟨a, hj, e⟩, .refl _⟩
    · exact .inr ⟨c, hc, .step a d⟩
theorem Dn5.chain {a b j : Nat} (h : Dn5 ns a j) (k : Dn5 ns b j) : Dn5 ns a b ∨ Dn5 ns b a := by
  induction h with
  | refl => exact .inr k
  | @step j p h ih =>
    cases k with
    | refl => exact .inl (.step p h)
    | step p' k' => exact ih k'
theorem Dn5.trans {a b j : Nat} (h : Dn5 ns a b) (k : Dn5 ns b j) : Dn5 ns a j := by
  induction k with
  | refl => exact h
  | step p _ ih => exact .step p ih
theorem Dn5.root : ∀ j, Dn5 ns 0 j
  | 0 => .refl 0
  | j + 1 => by
    have := @ab5_lt ns (j + 1) (by omega)
    exact .step (by omega) (Dn5.root _)
termination_by j => j
theorem Dn5.child {i c : Nat} (h : c ∈ bl5 ns i) : Dn5 ns i c := by
  have m := bl5_mem.mp h
  exact .step m.1 (by rw [m.2.2]; exact .refl _)
theorem Dn5.sib {i c d j : Nat} (hc : c ∈ bl5 ns i) (hd : d ∈ bl5 ns i) (h : Dn5 ns c j) (k : Dn5 ns d j) : c = d := by
  have mc := bl5_mem.mp hc
  have md := bl5_mem.mp hd
  have lc := bl5_gt hc
  have ld := bl5_gt hd
  rcases h.chain k with q | q
  · cases q with
    | refl => rfl
    | step p q =>
      rw [md.2.2] at q
      have := q.le; omega
  · cases q with
    | refl => rfl
    | step p q =>
      rw [mc.2.2] at q
      have := q.le; omega
theorem act5 {c : Nat} (h : 1 ≤ c) : (t5 ns).act c = (bl5 ns c).isEmpty := by
  show (decide (1 ≤ c) && _) = _
  rw [decide_eq_true h]; rfl
theorem lv_mem : ∀ (f i : Nat), i ≤ many5 ns → many5 ns - i < f → ∀ j, j ∈ (t5 ns).lv f i ↔ (Dn5 ns i j ∧ 1 ≤ j ∧ j ≤ many5 ns ∧ j ≠ i ∧ (bl5 ns j).isEmpty = true)
  | 0, i, _, h, _ => by omega
  | f + 1, i, hi, hf, j => by
    show j ∈ (bl5 ns i).flatMap (fun c => if (t5 ns).act c then [c] else (t5 ns).lv f c) ↔ _
    rw [List.mem_flatMap]
    constructor
    · rintro ⟨c, hc, h⟩
      have m := bl5_mem.mp hc
      have g := bl5_gt hc
      rw [act5 m.1] at h
      cases q : (bl5 ns c).isEmpty with
      | true =>
        rw [q] at h
        have e : j = c := List.mem_singleton.mp h
        subst e
        exact ⟨.child hc, m.1, m.2.1, by omega, q⟩
      | false =>
        rw [q] at h
        obtain ⟨a, b, d, e, k⟩ := (lv_mem f c m.2.1 (by omega) j).mp h
        have := a.le
        exact ⟨(Dn5.child hc).trans a, b, d, by omega, k⟩
    · rintro ⟨h, h1, h2, h3, h4⟩
      rcases h.split h2 with e | ⟨c, hc, d⟩
      · exact absurd e h3
      · have m := bl5_mem.mp hc
        have g := bl5_gt hc
        refine ⟨c, hc, ?_⟩
        rw [act5 m.1]
        cases q : (bl5 ns c).isEmpty with
        | true =>
          rcases d.split h2 with e | ⟨c', hc', -⟩
          · rw [e]; exact .head _
          · rw [List.isEmpty_iff.mp q] at hc'; cases hc'
        | false =>
          refine (lv_mem f c m.2.1 (by omega) j).mpr ⟨d, h1, h2, fun z => ?_, h4⟩
          rw [z, q] at h4; cases h4
theorem lv_nodup : ∀ (f i : Nat), i ≤ many5 ns → many5 ns - i < f → ((t5 ns).lv f i).Nodup
  | 0, i, _, h => by omega
  | f + 1, i, hi, hf => by
    show ((bl5 ns i).flatMap (fun c => if (t5 ns).act c then [c] else (t5 ns).lv f c)).Nodup
    rw [List.nodup_iff_pairwise_ne, List.pairwise_flatMap]
    have sub : ∀ c ∈ bl5 ns i, ∀ j ∈ (if (t5 ns).act c then [c] else (t5 ns).lv f c), Dn5 ns c j := fun c hc j h => by
      have m := bl5_mem.mp hc
      have g := bl5_gt hc
      split at h
      · rw [List.mem_singleton.mp h]; exact .refl _
      · exact ((lv_mem f c m.2.1 (by omega) j).mp h).1
    refine ⟨fun c hc => ?_, ?_⟩
    · have m := bl5_mem.mp hc
      have g := bl5_gt hc
      split
      · exact List.pairwise_singleton _ _
      · exact List.nodup_iff_pairwise_ne.mp (lv_nodup f c m.2.1 (by omega))
    · have nd := List.nodup_iff_pairwise_ne.mp (@bl5_nodup ns i)
      refine List.Pairwise.imp_of_mem (fun {a b} ha hb hne => ?_) nd
      intro j h1 j' h2 e
      subst e
      exact hne (Dn5.sib ha hb (sub a ha j h1) (sub b hb j h2))
noncomputable def lfs5 (ns : List Int) : List Nat := ((List.range (many5 ns)).map (· + 1)).filter fun v => (bl5 ns v).isEmpty
theorem perm_of {α : Type} [DecidableEq α] : ∀ {l1 l2 : List α}, l1.Nodup → l2.Nodup → (∀ a, a ∈ l1 ↔ a ∈ l2) → l1.Perm l2 := fun h1 h2 h => (List.perm_ext_iff_of_nodup h1 h2).mpr h
theorem lv_lfs : ((t5 ns).lv 20 0).Perm (lfs5 ns) := by
  have hi := @many5_hi ns
  refine perm_of (lv_nodup 20 0 (Nat.zero_le _) (by omega)) ?_ fun j => ?_
  · unfold lfs5
    refine List.Nodup.sublist List.filter_sublist ?_
    rw [List.nodup_iff_pairwise_ne, List.pairwise_map]
    exact (List.nodup_range (n := many5 ns)).imp fun h z => h (by omega)
  · rw [lv_mem 20 0 (Nat.zero_le _) (by omega)]
    unfold lfs5
    rw [List.mem_filter, List.mem_map]
    constructor
    · rintro ⟨-, h1, h2, -, h4⟩
      exact ⟨⟨j - 1, List.mem_range.mpr (by omega), by omega⟩, h4⟩
    · rintro ⟨⟨k, hk, rfl⟩, h⟩
      have := List.mem_range.mp hk
      exact ⟨.root _, by omega, by omega, by omega, h⟩
theorem srv_perm : ((List.range (lf5 ns 0)).map (srv5 ns)).Perm ((lfs5 ns).map (nm5 ns)) := by
  have hi := @many5_hi ns
  have p := (WR.tl_perm (lvs5 (ns := ns)) 20 0 (Nat.zero_le _) (by show many5 ns - 0 < 20; omega) rfl).trans lv_lfs
  have := p.map (nm5 ns)
  rw [List.map_map] at this
  exact this
theorem srv_period {x : Nat} : srv5 ns (lf5 ns 0 + x) = srv5 ns x := by
  have hi := @many5_hi ns
  unfold srv5
  rw [WR.tl_period (lvs5 (ns := ns)) 20 0 x (Nat.zero_le _) (by show many5 ns - 0 < 20; omega) rfl]
theorem srv_rep {n : Nat} (hn : n = lf5 ns 0) : (List.range (3 * n)).map (srv5 ns) = (List.range n).map (srv5 ns) ++ ((List.range n).map (srv5 ns) ++ (List.range n).map (srv5 ns)) := by
  subst hn
  have e : ∀ m, (List.range (lf5 ns 0 + m)).map (srv5 ns) = (List.range (lf5 ns 0)).map (srv5 ns) ++ (List.range m).map (srv5 ns) := fun m => by
    rw [List.range_add, List.map_append, List.map_map]
    congr 1
    exact List.map_congr_left fun x _ => srv_period
  rw [show 3 * lf5 ns 0 = lf5 ns 0 + (lf5 ns 0 + lf5 ns 0) by omega, e, e]
theorem sorted_uniq : ∀ {l1 l2 : List Int}, l1.Perm l2 → l1.Pairwise (· ≤ ·) → l2.Pairwise (· ≤ ·) → l1 = l2
  | [], l2, h, _, _ => (List.nil_perm.mp h).symm
  | a :: r, [], h, _, _ => absurd h.symm (by simp)
  | a :: r, b :: t, h, h1, h2 => by
    obtain ⟨p1, p2⟩ := List.pairwise_cons.mp h1
    obtain ⟨q1, q2⟩ := List.pairwise_cons.mp h2
    have e : a = b := by
      have m1 : a ∈ b :: t := h.mem_iff.mp (.head _)
      have m2 : b ∈ a :: r := h.mem_iff.mpr (.head _)
      rcases List.mem_cons.mp m1 with e | m
      · exact e
      · rcases List.mem_cons.mp m2 with e | m'
        · exact e.symm
        · have := p1 b m'; have := q1 a m; omega
    subst e
    rw [sorted_uniq (List.Perm.cons_inv h) p2 q2]
end
end Mine
end
section
open PySem PySem.W PyProof.Rows PySem.Calls
set_option linter.unusedVariables false
set_option Elab.async false
namespace Mine
section
variable {ns : List Int}
noncomputable def pt5 (ns : List Int) (i u : Nat) : Nat := ((List.range (many5 ns)).map fun c => if ab5 ns (c + 1) = u ∧ many5 ns - i < c + 1 then lf5 ns (c + 1) else 0).sum
noncomputable def lc5 (ns : List Int) (i u : Nat) : Nat := if 1 ≤ u ∧ many5 ns < i + u then lf5 ns u else pt5 ns i u
noncomputable def lv5 (ns : List Int) (i : Nat) : List Value := (List.range (many5 ns + 1)).map fun u => .int (lc5 ns i u : Int) 0
theorem lv5_len {i : Nat} : (lv5 ns i).length = many5 ns + 1 := by unfold lv5; simp
theorem lv5_get {i k : Nat} (h : k ≤ many5 ns) : (lv5 ns i)[k]? = some (.int (lc5 ns i k : Int) 0) := by
  unfold lv5
  rw [List.getElem?_map, List.getElem?_range (by omega)]; rfl
theorem pt5_zero {u : Nat} : pt5 ns 0 u = 0 := by
  unfold pt5
  have : ∀ l : List Nat, (∀ c ∈ l, c < many5 ns) → (l.map fun c => if ab5 ns (c + 1) = u ∧ many5 ns - 0 < c + 1 then lf5 ns (c + 1) else 0).sum = 0 := fun l => by
    induction l with
    | nil => intro _; rfl
    | cons a r ih =>
      intro hl
      have := hl a (.head _)
      rw [List.map_cons, List.sum_cons, ih fun c hc => hl c (.tail _ hc), if_neg (by omega)]
  exact this _ fun c hc => List.mem_range.mp hc
theorem lc5_zero {u : Nat} (h : u ≤ many5 ns) : lc5 ns 0 u = 0 := by
  unfold lc5
  rw [if_neg (by omega)]; exact pt5_zero
theorem pt5_step {i u : Nat} (hi : i < many5 ns) : pt5 ns (i + 1) u = pt5 ns i u + if ab5 ns (many5 ns - i) = u then lf5 ns (many5 ns - i) else 0 := by
  have e1 : (if ab5 ns (many5 ns - i) = u then lf5 ns (many5 ns - i) else 0) = ((List.range (many5 ns)).map fun c => if c = many5 ns - i - 1 then (if ab5 ns (c + 1) = u then lf5 ns (c + 1) else 0) else 0).sum := by
    rw [sum_one5 (f := fun c => if ab5 ns (c + 1) = u then lf5 ns (c + 1) else 0), if_pos (show many5 ns - i - 1 < many5 ns by omega), show many5 ns - i - 1 + 1 = many5 ns - i by omega]
  rw [e1]
  unfold pt5
  rw [← sum_add5]
  congr 1
  refine List.map_congr_left fun c hc => ?_
  by_cases a : ab5 ns (c + 1) = u
  · by_cases b : c = many5 ns - i - 1
    · rw [if_pos (show ab5 ns (c + 1) = u ∧ many5 ns - (i + 1) < c + 1 by omega), if_neg (show ¬ (ab5 ns (c + 1) = u ∧ many5 ns - i < c + 1) by omega), if_pos b, if_pos a]; omega
    · rw [if_neg b]
      by_cases d : many5 ns - i < c + 1
      · rw [if_pos (show ab5 ns (c + 1) = u ∧ many5 ns - (i + 1) < c + 1 by omega), if_pos (show ab5 ns (c + 1) = u ∧ many5 ns - i < c + 1 by omega)]; rfl
      · rw [if_neg (show ¬ (ab5 ns (c + 1) = u ∧ many5 ns - (i + 1) < c + 1) by omega), if_neg (show ¬ (ab5 ns (c + 1) = u ∧ many5 ns - i < c + 1) by omega)]
  · rw [if_neg (fun z => a z.1), if_neg (fun z => a z.1), if_neg a]
    split <;> rfl
theorem pt5_full {i : Nat} (hi : i < many5 ns) : pt5 ns i (many5 ns - i) = ((bl5 ns (many5 ns - i)).map (lf5 ns)).sum := by
  rw [bl5_sum]
  unfold pt5
  congr 1
  refine List.map_congr_left fun c _ => ?_
  have := @ab5_lt ns (c + 1) (by omega)
  by_cases a : ab5 ns (c + 1) = many5 ns - i
  · rw [if_pos (by omega), if_pos a]
  · rw [if_neg (fun z => a z.1), if_neg a]
theorem lc5_at {i : Nat} (hi : i < many5 ns) : (if (1 : Int) > (lc5 ns i (many5 ns - i) : Int) then (1 : Int) else (lc5 ns i (many5 ns - i) : Int)) = (lf5 ns (many5 ns - i) : Int) := by
  have e : lc5 ns i (many5 ns - i) = ((bl5 ns (many5 ns - i)).map (lf5 ns)).sum := by
    unfold lc5
    rw [if_neg (by omega), pt5_full hi]
  have p := @lf5_1 ns (many5 ns - i)
  rw [e]
  have q := @lf5_eq ns (many5 ns - i)
  split at q
  · rename_i z
    rw [List.isEmpty_iff.mp z]
    rw [q]
    rfl
  · rw [← q, if_neg (by omega)]
theorem lv5_step {i : Nat} (hi : i < many5 ns) :
    ((lv5 ns i).set (many5 ns - i) (.int (lf5 ns (many5 ns - i) : Int) 0)).set (ab5 ns (many5 ns - i)) (.int ((lc5 ns i (ab5 ns (many5 ns - i)) : Int) + (lf5 ns (many5 ns - i) : Int)) 0) = lv5 ns (i + 1) := by
  have la := @ab5_lt ns (many5 ns - i) (by omega)
  refine List.ext_getElem? fun k => ?_
  rw [List.getElem?_set, List.getElem?_set]
  simp only [List.length_set, lv5_len]
  by_cases hk : k ≤ many5 ns
  · rw [lv5_get hk, lv5_get hk]
    by_cases a : ab5 ns (many5 ns - i) = k
    · rw [if_pos a, if_pos (by omega)]
      subst a
      have e1 : lc5 ns (i + 1) (ab5 ns (many5 ns - i)) = lc5 ns i (ab5 ns (many5 ns - i)) + lf5 ns (many5 ns - i) := by
        unfold lc5
        rw [if_neg (by omega), if_neg (by omega), pt5_step hi, if_pos rfl]
      rw [e1]; rfl
    · rw [if_neg a]
      by_cases b : many5 ns - i = k
      · rw [if_pos b, if_pos (by omega)]
        have e1 : lc5 ns (i + 1) k = lf5 ns k := by
          unfold lc5
          rw [if_pos (by omega)]
        rw [e1, b]
      · rw [if_neg b]
        have e1 : lc5 ns (i + 1) k = lc5 ns i k := by
          unfold lc5
          by_cases d : 1 ≤ k ∧ many5 ns < i + k
          · rw [if_pos d, if_pos (by omega)]
          · rw [if_neg d, if_neg (by omega), pt5_step hi, if_neg a]; omega
        rw [e1]
  · have big : ∀ i, (lv5 ns i)[k]? = none := fun i => List.getElem?_eq_none (by rw [lv5_len]; omega)
    rw [if_neg (by omega), if_neg (by omega), big, big]
theorem lc5_end {v : Nat} (h : v ≤ many5 ns) : lc5 ns (many5 ns) v = lf5 ns v := by
  unfold lc5
  by_cases z : 1 ≤ v
  · rw [if_pos (by omega)]
  · have : v = 0 := by omega
    subst this
    rw [if_neg (by omega), lf5_zero, bl5_sum]
    unfold pt5
    congr 1
    refine List.map_congr_left fun c _ => ?_
    by_cases a : ab5 ns (c + 1) = 0
    · rw [if_pos (by omega), if_pos a]
    · rw [if_neg (fun z => a z.1), if_neg a]
end
section
variable {prog : Program} {w : World} {K : Frag} {c : Cx prog w K} {envs : List Env} {H : AH} {A : Around} {E : Value → Shared → Prop} {s : Shared} {L : Nat} {l : List (Str × Value)}
theorem max_two5 {a b : Int} {t u : Tok} {Q : Value → Shared → Prop} (S : St c envs H s) (hh : A.handled = none) (hL : H L = some (.ns l)) (h : ∀ t s', St c envs H s' → Q (.int (if b > a then b else a) t) s') :
    wpAny (model prog w) A (call (.builtin "max") [.int a t, .int b u]) Q E s := by
  refine max_two_ints hh fun h' tk hk => ?_
  have S' := S.more hL hk tk
  by_cases q : b > a
  · rw [if_pos q]; have := h u _ S'; rwa [if_pos q] at this
  · rw [if_neg q]; have := h t _ S'; rwa [if_neg q] at this
theorem list_get5 {q : Nat} {xs : List Value} {k : Int} {u : Tok} {x : Value} {Q : Value → Shared → Prop} (S : St c envs H s) (e : H q = some (.list xs)) (h0 : 0 ≤ k) (hk : k < 2 ^ 62) (hx : xs[k.toNat]? = some x) (h : ∀ v, er v = x → Q v s) :
    wpAny (model prog w) A (getItem (.ref q) (.int k u)) Q E s := by
  obtain ⟨vs, ht, hm⟩ := S.list e
  obtain ⟨y, hy, he⟩ := map_get hm hx
  exact wpAny_getItem_list ht h0 (by omega) (by simpa using hy) (h y he)
theorem St.fromNews {h' : Heap} {m : Str → Option Value} {D : Nat} {ob : Obj} {o : AO} (S : St c envs H s) (hL : H L = some (.ns l)) (hmm : ∀ x v, l.lookup x = some v → (m x).map er = some v)
    (F' : Fr (noHeap s.heap) L h' m) (N' : News (noHeap s.heap) L h' ((D, ob) :: allBut s.heap L)) (hlt : ∀ p ∈ allBut s.heap L, p.1 < D) (r : Real h' D o) (hi : o.isInst = false) (hb : o.isBig = false) :
    H D = none ∧ St c envs (upd H D o) { s with heap := h' } := by
  have nD : ∀ b x, b ≠ L → s.heap.get? b = some x → b < D := fun b x n q => hlt (b, x) (mem_allBut.mpr ⟨n, q⟩)
  have hDL : D ≠ L := (N' _ (.head _)).2.1
  have HD : H D = none := by
    cases q : H D with
    | none => rfl
    | some o =>
      have := (S.get q).there
      cases q2 : s.heap.get? D with
      | none => exact absurd q2 this
      | some x => exact absurd (nD D x hDL q2) (Nat.lt_irrefl _)
  have S1 : St c envs H { s with heap := h' } := S.grown hL hmm F'.ns fun b x n q => (N' (b, x) (.tail _ (mem_allBut.mpr ⟨n, q⟩))).1
  refine ⟨HD, S1.add HD ?_ hi hb (fun a x q i => ?_) r⟩
  · cases q : c.base.get? D with
    | none => rfl
    | some x => exact absurd (nD D x hDL (S.base _ _ q)) (Nat.lt_irrefl _)
  · cases x with
    | inst C fs =>
      obtain ⟨_, _, es, n, hx, _⟩ := S.get q
      intro z
      rw [z] at hx
      exact absurd (nD D _ hDL hx) (Nat.lt_irrefl _)
    | _ => cases i
theorem ints_er : ∀ {vs : List Value} {l : List Int}, IntsAre vs l → vs.map er = intsV l
  | _, _, .nil => rfl
  | _, _, .cons n t h => by rw [List.map_cons, ints_er h]; rfl
theorem sort_ints5 {q : Nat} {xs : List Int} {Q : Value → Shared → Prop} (S : St c envs H s) (hL : H L = some (.ns l)) (e : H q = some (.list (intsV xs))) (h64 : xs.length < 64)
    (k : ∀ (D : Nat) (ys : List Int) s', H D = none → ys.Perm xs → ys.Pairwise (· ≤ ·) → St c envs (upd H D (.list (intsV ys))) s' → Q (.ref D) s') :
    wpAny (model prog w) A (call (.builtin "sorted") [.ref q]) Q E s := by
  obtain ⟨vs, hl, hi⟩ := S.ints e
  obtain ⟨m, F, N, hmm⟩ := S.whole hL
  refine kso_sorted F N hl hi h64 fun D vs' ns' n h' F' N' hlt hi' _ hp ho _ => ?_
  obtain ⟨HD, S'⟩ := S.fromNews hL hmm F' N' hlt (o := .list (intsV ns')) ⟨_, n, (N' _ (.head _)).1, by rw [List.toList_toArray]; exact ints_er hi'⟩ rfl rfl
  exact k D ns' _ HD hp ho S'
theorem eq_ints5 {a b : Nat} {xs ys : List Int} {Q : Value → Shared → Prop} (S : St c envs H s) (ea : H a = some (.list (intsV xs))) (eb : H b = some (.list (intsV ys))) (hu : A.units + 64 < cLine) (h : Q (.bool (decide (xs = ys))) s) :
    wpAny (model prog w) A (compareOp .Eq (.ref a) (.ref b)) Q E s := by
  obtain ⟨vs, hl, hi⟩ := S.ints ea
  obtain ⟨us, hl', hi'⟩ := S.ints eb
  exact eq_intsK hl hi hl' hi' hu h
theorem ne_ints5 {a b : Nat} {xs ys : List Int} {Q : Value → Shared → Prop} (S : St c envs H s) (ea : H a = some (.list (intsV xs))) (eb : H b = some (.list (intsV ys))) (hu : A.units + 64 < cLine) (h : Q (.bool (!decide (xs = ys))) s) :
    wpAny (model prog w) A (compareOp .NotEq (.ref a) (.ref b)) Q E s := by
  obtain ⟨vs, hl, hi⟩ := S.ints ea
  obtain ⟨us, hl', hi'⟩ := S.ints eb
  exact ne_intsK hl hi hl' hi' hu h
end
end Mine
end
section
open PySem PySem.W PyProof.Rows PySem.Calls
set_option linter.unusedVariables false
set_option Elab.async false
namespace Mine
noncomputable def ifThen : Stmt → List Stmt
  | .If _ b _ _ => b
  | _ => []
noncomputable def ifElse : Stmt → List Stmt
  | .If _ _ b _ => b
  | _ => []
section
variable {prog : Program} {w : World} {K : Frag} {c : Cx prog w K} {envs : List Env} {env : Env} {H : AH} {A : Around} {E : Value → Shared → Prop} {s : Shared} {L : Nat} {l : List (Str × Value)}
theorem if_at {test : Expr} {body orelse : List Stmt} {pos : Pos} {Q : Flow → Shared → Prop} (B : Bool) (h : wpAny (model prog w) A (isTrue test env (eval test env)) (fun b s' => b = B ∧ St c envs H s') E s)
    (k : ∀ s', St c envs H s' → wpAny (model prog w) A (execs (if B then body else orelse) env) Q E s') : wpAny (model prog w) A (exec (.If test body orelse pos) env) Q E s := by
  refine wpAny_If (wpAny_mono h (fun b s' h' => ?_) fun _ _ x => x)
  obtain ⟨rfl, S'⟩ := h'
  cases b with
  | true => exact k s' S'
  | false => exact k s' S'
end
theorem Dj.unL5 {F G : AH} {L : Nat} {o : AO} (hL : ∃ x, F L = some x) (d : Dj (upd F L o) G) : Dj F G := fun a x h => by
  have := d a x h
  by_cases z : a = L
  · subst z; rw [upd_self] at this; cases this
  · rwa [upd_ne z] at this
structure Ly5 (ns : List Int) (H : AH) (c2 c3 c4 qn qm qa : Nat) : Prop where
  h2 : H c2 = some (.cell (some (.ref qn)))
  hn : H qn = some (.list (nums5 ns))
  h3 : H c3 = some (.cell (some (.ref qm)))
  hm : H qm = some (.list (names5 ns))
  h4 : H c4 = some (.cell (some (.ref qa)))
  ha : H qa = some (.list (above5 ns))
theorem Ly5.mono {ns : List Int} {H H' : AH} {c2 c3 c4 qn qm qa : Nat} (y : Ly5 ns H c2 c3 c4 qn qm qa) (k : ∀ (a : Nat) o, o.isNs = false → H a = some o → H' a = some o) : Ly5 ns H' c2 c3 c4 qn qm qa :=
  ⟨k _ _ rfl y.h2, k _ _ rfl y.hn, k _ _ rfl y.h3, k _ _ rfl y.hm, k _ _ rfl y.h4, k _ _ rfl y.ha⟩
theorem Ly5.j {ns : List Int} {F G : AH} {c2 c3 c4 qn qm qa : Nat} (y : Ly5 ns F c2 c3 c4 qn qm qa) : Ly5 ns (join F G) c2 c3 c4 qn qm qa := y.mono fun a o _ h => join_l h
theorem Ly5.kp {ns : List Int} {F F' : AH} {L : Nat} {l : List (Str × Value)} {c2 c3 c4 qn qm qa : Nat} (y : Ly5 ns F c2 c3 c4 qn qm qa) (k : Kp L F F') (hL : F L = some (.ns l)) : Ly5 ns F' c2 c3 c4 qn qm qa :=
  y.mono fun a o n h => k a o (fun z => by rw [z, hL] at h; cases h; cases n) h
theorem Ly5.up {ns : List Int} {F : AH} {L : Nat} {l l' : List (Str × Value)} {c2 c3 c4 qn qm qa : Nat} (y : Ly5 ns F c2 c3 c4 qn qm qa) (hL : F L = some (.ns l)) : Ly5 ns (upd F L (.ns l')) c2 c3 c4 qn qm qa :=
  y.mono fun a o n h => upd_other (fun z => by rw [z, hL] at h; cases h; cases n) h
section
variable {ns : List Int}
theorem o5_nm {a : Nat} (h : a ≤ many5 ns) : (ot5 ns (pos5 ns a)).nm = nm5 ns a := lnk5.fn a h
theorem wt5_at {v : Nat} (h1 : 1 ≤ v) (h : v ≤ many5 ns) : (lc5 ns (many5 ns) v : Int) * 2 ^ (num5 ns (10 + ab5 ns v) % 6).toNat = wt5 ns v := by
  unfold wt5
  rw [if_pos ⟨h1, h⟩, lc5_end h]; rfl
end
end Mine
end
section
open PySem PySem.W PyProof.Rows PySem.Calls
set_option linter.unusedVariables false
set_option Elab.async false
namespace Mine
section
variable {prog : Program} {w : World} {K : Frag} {c : Cx prog w K} {envs : List Env} {env : Env} {H : AH} {A : Around} {E : Value → Shared → Prop} {s : Shared} {L : Nat} {l : List (Str × Value)}
theorem pick_er {vs xs : List Value} {lo hi : Option Int} (h : vs.map er = xs) : (kms_pick vs lo hi).map er = kms_pick xs lo hi := by
  subst h; unfold kms_pick; rw [List.map_take, List.map_drop, List.length_map]
theorem slice5 {q : Nat} {xs ys : List Value} {vl vu : Value} {lo hi : Option Int} {value slice : PySem.Expr} {Q : Value → Shared → Prop} (S : St c envs H s) (hL : H L = some (.ns l)) (e : H q = some (.list xs)) (pl : IsPart vl lo) (pu : IsPart vu hi) (hz : xs.length ≤ 1000) (hy : kms_pick xs lo hi = ys)
    (hs : subscripted slice false (.ref q) (.ref s.heap.objs.size) = operate [.ref s.heap.objs.size, .ref q] (getItem (.ref q) (.ref s.heap.objs.size))) (ht : ∀ r, letTemporaryGo value (.ref q) r = pure ())
    (k : ∀ (D : Nat) s', H D = none → St c envs (upd H D (.list ys)) s' → Q (.ref D) s') :
    wpAny (model prog w) A (subscriptTail value slice (.ref q) (.ref s.heap.objs.size)) Q E { s with heap := s.heap.push { cls := .type "slice", data := .fields #[vl, vu, .none] } } := by
  obtain ⟨vs, hl, hm⟩ := S.list e
  obtain ⟨m, F, N, hmm⟩ := S.whole hL
  refine kms_slice_lit F N hl pl pu rfl (fun D h' F' N' hlt => ?_) hs ht ?_
  · obtain ⟨HD, S'⟩ := S.fromNews hL hmm F' N' hlt (o := .list ys) ⟨_, 0, (N' _ (.head _)).1, by rw [List.toList_toArray, ← hy]; exact pick_er (by rw [List.toList_toArray]; exact hm)⟩ rfl rfl
    exact k D _ HD S'
  · have : vs.length = xs.length := by rw [← hm, List.length_map]
    show vs.toArray.size ≤ sizeLine
    rw [List.size_toArray, this]
    exact Nat.le_trans hz (by decide)
end
noncomputable def tl5 (ns : List Int) : List Int := (List.range (many5 ns)).map fun i => (ab5 ns (i + 1) : Int)
theorem above5_tail {ns : List Int} : kms_pick (above5 ns) (some 1) none = intsV (tl5 ns) := by
  have hlen : (above5 ns).length = many5 ns + 1 := by unfold above5; simp
  unfold kms_pick
  have e1 : kms_lo (some 1) (above5 ns).length = 1 := by rw [hlen]; show min 1 (many5 ns + 1) = 1; omega
  have e2 : kms_hi none (above5 ns).length = many5 ns + 1 := by rw [hlen]; rfl
  rw [e1, e2]
  have e3 : ((above5 ns).drop 1).length = many5 ns := by rw [List.length_drop, hlen]; omega
  rw [List.take_of_length_le (by rw [e3]; omega)]
  unfold above5 tl5
  rw [List.range_succ_eq_map]
  show List.map _ (List.map Nat.succ (List.range (many5 ns))) = _
  rw [List.map_map]
  unfold intsV
  rw [List.map_map]; rfl
theorem tl5_any {ns : List Int} {v : Nat} : ((tl5 ns).any (· == (v : Int))) = pb5 ns v := by
  unfold pb5
  cases h : (bl5 ns v) with
  | nil =>
    show _ = false
    rw [Bool.eq_false_iff]
    intro z
    obtain ⟨x, hx, hxe⟩ := List.any_eq_true.mp z
    obtain ⟨i, hi, rfl⟩ := List.mem_map.mp hx
    have : i + 1 ∈ bl5 ns v := bl5_mem.mpr ⟨by omega, by have := List.mem_range.mp hi; omega, by have := of_decide_eq_true hxe; omega⟩
    rw [h] at this; cases this
  | cons a r =>
    show _ = true
    have m := bl5_mem.mp (show a ∈ bl5 ns v by rw [h]; exact .head _)
    refine List.any_eq_true.mpr ⟨(ab5 ns (a - 1 + 1) : Int), List.mem_map.mpr ⟨a - 1, List.mem_range.mpr (by omega), rfl⟩, ?_⟩
    rw [show a - 1 + 1 = a by omega, m.2.2]
    exact beq_self_eq_true _
end Mine
end
section
open PySem PySem.W PyProof.Rows PySem.Calls
set_option linter.unusedVariables false
set_option Elab.async false
namespace Mine
section
variable {prog : Program} {w : World} {K : Frag} {c : Cx prog w K} {envs : List Env} {env : Env} {H : AH} {A : Around} {E : Value → Shared → Prop} {s : Shared} {L : Nat} {l : List (Str × Value)}
theorem list_mul5 {q : Nat} {xs : List Value} {n : Int} {u : Tok} {Q : Value → Shared → Prop} (S : St c envs H s) (e : H q = some (.list xs)) (h0 : 0 ≤ n) (h1 : n ≤ 10) (hz : xs.length ≤ 100) (k : ∀ (a : Nat) s', H a = none → St c envs (upd H a (.list ((List.replicate n.toNat xs).flatten))) s' → Q (.ref a) s') :
    wpAny (model prog w) A (binaryOp .Mult (.ref q) (.int n u)) Q E s := by
  obtain ⟨vs, kk, hl, hm⟩ := S.get e
  have hz2 : vs.size ≤ 100 := by rw [← hm] at hz; simpa using hz
  have hb : vs.size * n.toNat ≤ 100 * 10 := Nat.mul_le_mul hz2 (by omega)
  refine wpAny_binaryOp_repeat_ref (T := "list") (U := "int") (by decide) ⟨_, hl, rfl⟩ (fun s' => typeIs_int s' n u) noFill_list_mul F.fills_int_mul F.slot_int_rmul repeat_list F.slot_int_index.lookup
    (call_meets F.slot_int_rmul (typeIs_int s n u) F.entry_int_rmul (F.args_int_rmul_2 _ _) (int___rmul___int_list n u q vs kk)
      ⟨hl, rfl, ⟨_, hl, rfl⟩, call_meets F.slot_list_mul ⟨_, hl, rfl⟩ F.entry_list_mul (F.args_list_mul_2 _ _)
        (AutoListH.list___mul___list_int_3 q vs kk n u (by simp [Builtin.List.listFitsIndex]; omega) (by omega) (by simp [Builtin.List.listTooLong, sizeLine]; omega))
        ⟨hl, k _ _ (S.fresh (Nat.le_refl _)) (S.new (t := s.toks) (fun b x q => Heap.get?_push_of_some _ q) (Nat.le_refl _) (by intro i; cases i) ⟨_, _, Heap.get?_push_size _ rfl, ?_⟩ (by rw [Heap.size_push]; exact Nat.le_succ _))⟩⟩)
  rw [listMul_foldl_if, List.map_flatten, List.map_replicate, hm]
theorem Rm.line5 {A : Around} (R : Rm A 60 600) : A.units + 64 < cLine := by have := R.units; unfold cLine; omega
theorem list_mul3 {q : Nat} {xs ys : List Value} {n : Int} {u : Tok} {Q : Value → Shared → Prop} (S : St c envs H s) (e : H q = some (.list xs)) (h0 : 0 ≤ n) (h1 : n ≤ 10) (hz : xs.length ≤ 100) (hy : (List.replicate n.toNat xs).flatten = ys) (k : ∀ (a : Nat) s', H a = none → St c envs (upd H a (.list ys)) s' → Q (.ref a) s') :
    wpAny (model prog w) A (binaryOp .Mult (.ref q) (.int n u)) Q E s := list_mul5 S e h0 h1 hz fun a s' ha S' => k a s' ha (hy ▸ S')
end
section
variable {ns : List Int}
theorem pick_first {n : Nat} : kms_pick (intsV ((List.range (3 * n)).map (srv5 ns))) none (some (n : Int)) = intsV ((List.range n).map (srv5 ns)) := by
  have hlen : (intsV ((List.range (3 * n)).map (srv5 ns))).length = 3 * n := by unfold intsV; simp
  unfold kms_pick
  have e1 : kms_lo none (intsV ((List.range (3 * n)).map (srv5 ns))).length = 0 := rfl
  have e2 : kms_hi (some (n : Int)) (intsV ((List.range (3 * n)).map (srv5 ns))).length = n := by
    rw [hlen]
    unfold kms_hi
    simp only
    rw [if_neg (by omega)]; omega
  rw [e1, e2, List.drop_zero, Nat.sub_zero]
  unfold intsV
  rw [← List.map_take, ← List.map_take, List.take_range, show min n (3 * n) = n by omega]
theorem rep_three {xs : List Int} : (List.replicate (3 : Int).toNat (intsV xs)).flatten = intsV (xs ++ (xs ++ xs)) := by
  show (List.replicate 3 (intsV xs)).flatten = _
  unfold intsV
  simp [List.replicate]
theorem nb_eq {v : Nat} : (!((tl5 ns).any (· == (v : Int)))) = (bl5 ns v).isEmpty := by
  rw [tl5_any]; unfold pb5; rw [Bool.not_not]
theorem lfs_row : ((rRow 1 1 (many5 ns)).filterMap (onIntP (fun i => !((tl5 ns).any (· == i))) fun i => .int (nm5 ns i.toNat) 0)) = intsV ((lfs5 ns).map (nm5 ns)) := by
  rw [rRow_onIntP (q := fun k => (bl5 ns (k + 1)).isEmpty) (g := fun k => Value.int (nm5 ns (k + 1)) 0) (fun k hk => ?_) fun k hk => ?_]
  · unfold lfs5 intsV
    rw [List.filter_map, List.map_map, List.map_map]; rfl
  · have e1 : (1 : Int) + (k : Int) = ((k + 1 : Nat) : Int) := by omega
    rw [e1]; exact nb_eq
  · have e1 : ((1 : Int) + (k : Int)).toNat = k + 1 := by omega
    rw [e1]
end
end Mine
end
section
open PySem PySem.W PyProof.Rows PySem.Calls
set_option linter.unusedVariables false
set_option Elab.async false
namespace Mine
theorem upd_front {X : AH} {q : Nat} {o : AO} (h : X q = none) : upd X q o = join (upd (fun _ => none) q o) X := by
  funext a
  unfold join
  by_cases z : a = q
  · subst z; rw [upd_self, upd_self]
  · rw [upd_ne z, upd_ne z]
theorem upd_back {X : AH} {q : Nat} {o : AO} (h : X q = none) : upd X q o = join X (upd (fun _ => none) q o) := by
  funext a
  unfold join
  by_cases z : a = q
  · subst z; rw [upd_self, h]; simp only; rw [upd_self]
  · rw [upd_ne z, upd_ne z]; cases X a <;> rfl
theorem Dj.one {G : AH} {q : Nat} {o : AO} (h : G q = none) : Dj (upd (fun _ => none) q o) G := fun a x e => (upd_ne (fun z => by rw [z, h] at e; cases e)).trans rfl
end Mine
end
section
open PySem PySem.W PyProof.Rows PySem.Calls
set_option linter.unusedVariables false
set_option linter.unusedSimpArgs false
set_option Elab.async false
set_option maxRecDepth 100000
set_option maxHeartbeats 8000000
set_option compiler.extract_closed false
namespace Mine
def nq : Str := Str.ofString "a"
theorem nq_rfl : nq = nq := rfl
end Mine
name_quick tw9821977120257159380 for Mine.nq by Mine.nq_rfl
name_quick tw1746347558433595337 for Mine.nq by Mine.nq_rfl
name_quick tw1372773348543759107 for Mine.nq by Mine.nq_rfl
name_quick tw9637616106297418166 for Mine.nq by Mine.nq_rfl
name_quick tw2550136888749451593 for Mine.nq by Mine.nq_rfl
name_quick tw6678554070491390161 for Mine.nq by Mine.nq_rfl
name_quick tw206288665681806374 for Mine.nq by Mine.nq_rfl
name_quick tw13264465166184179556 for Mine.nq by Mine.nq_rfl
name_quick tw1955476695372820318 for Mine.nq by Mine.nq_rfl
name_quick tw573794330333625106 for Mine.nq by Mine.nq_rfl
name_quick tw295158114584252112 for Mine.nq by Mine.nq_rfl
name_quick tw2225861669824453019 for Mine.nq by Mine.nq_rfl
name_quick tw2514947519815837508 for Mine.nq by Mine.nq_rfl
name_quick tw2146392958426930758 for Mine.nq by Mine.nq_rfl
name_quick tw1176984701034804349 for Mine.nq by Mine.nq_rfl
name_quick tw9089012559567570094 for Mine.nq by Mine.nq_rfl
name_quick tw11965798063410538427 for Mine.nq by Mine.nq_rfl
name_quick tw3880857991499309196 for Mine.nq by Mine.nq_rfl
name_quick tw1241343275428458861 for Mine.nq by Mine.nq_rfl
name_quick tw8414707142223275713 for Mine.nq by Mine.nq_rfl
name_quick tw508937547452911378 for Mine.nq by Mine.nq_rfl
name_quick tw6543802491312495291 for Mine.nq by Mine.nq_rfl
name_quick tw281841072780438573 for Mine.nq by Mine.nq_rfl
name_quick tw10077512558897761711 for Mine.nq by Mine.nq_rfl
name_quick tw15048331744799092419 for Mine.nq by Mine.nq_rfl
name_quick tw8064525449969774617 for Mine.nq by Mine.nq_rfl
name_quick tw8567421774701459403 for Mine.nq by Mine.nq_rfl
name_quick tw5877089747905441157 for Mine.nq by Mine.nq_rfl
name_quick tw13166600596664719206 for Mine.nq by Mine.nq_rfl
name_quick tw3024592797514069591 for Mine.nq by Mine.nq_rfl
name_quick tw15253713106536929212 for Mine.nq by Mine.nq_rfl
name_quick tw3919314752684427065 for Mine.nq by Mine.nq_rfl
name_quick tw8975735408759014816 for Mine.nq by Mine.nq_rfl
name_quick tw13567635786341143122 for Mine.nq by Mine.nq_rfl
name_quick tw11703855869365521149 for Mine.nq by Mine.nq_rfl
name_quick tw17491496635513904520 for Mine.nq by Mine.nq_rfl
name_quick tw58413421185161098 for Mine.nq by Mine.nq_rfl
name_quick tw5778047346085363635 for Mine.nq by Mine.nq_rfl
name_quick tw8721119329980295110 for Mine.nq by Mine.nq_rfl
name_quick tw2593874375889684645 for Mine.nq by Mine.nq_rfl
name_quick tw16670923289451256722 for Mine.nq by Mine.nq_rfl
name_quick tw4751478162800029779 for Mine.nq by Mine.nq_rfl
name_quick tw10856712835392162425 for Mine.nq by Mine.nq_rfl
name_quick tw12897284800656268148 for Mine.nq by Mine.nq_rfl
name_quick tw5467519921422045739 for Mine.nq by Mine.nq_rfl
name_quick tw6714868971185114565 for Mine.nq by Mine.nq_rfl
name_quick tw9746625169508218059 for Mine.nq by Mine.nq_rfl
name_quick tw17285607756020876236 for Mine.nq by Mine.nq_rfl
name_quick tw9912425994934407819 for Mine.nq by Mine.nq_rfl
name_quick tw2205719720868618666 for Mine.nq by Mine.nq_rfl
name_quick tw7748554079653594635 for Mine.nq by Mine.nq_rfl
name_quick tw15242116879618706194 for Mine.nq by Mine.nq_rfl
name_quick tw14701977119377764433 for Mine.nq by Mine.nq_rfl
name_quick tw16729569036959976846 for Mine.nq by Mine.nq_rfl
name_quick tw10184588269537293620 for Mine.nq by Mine.nq_rfl
name_quick tw9612672015310551868 for Mine.nq by Mine.nq_rfl
name_quick tw13237844983548725456 for Mine.nq by Mine.nq_rfl
name_quick tw4302658531420945787 for Mine.nq by Mine.nq_rfl
name_quick tw2612783162996472123 for Mine.nq by Mine.nq_rfl
name_quick tw11123086593744197372 for Mine.nq by Mine.nq_rfl
name_quick tw16613875493547966852 for Mine.nq by Mine.nq_rfl
name_quick tw17097821163593179588 for Mine.nq by Mine.nq_rfl
name_quick tw1949356418937781551 for Mine.nq by Mine.nq_rfl
name_quick tw14021230997843198564 for Mine.nq by Mine.nq_rfl
name_quick tw1459208141647307474 for Mine.nq by Mine.nq_rfl
name_quick tw15624714606074315715 for Mine.nq by Mine.nq_rfl
name_quick tw5624669206558600111 for Mine.nq by Mine.nq_rfl
name_quick tw3051572427834468592 for Mine.nq by Mine.nq_rfl
name_quick tw14626363478959083958 for Mine.nq by Mine.nq_rfl
name_quick tw14605702834172648273 for Mine.nq by Mine.nq_rfl
name_quick tw16164918703547406004 for Mine.nq by Mine.nq_rfl
name_quick tw17196975520135435197 for Mine.nq by Mine.nq_rfl
name_quick tw3744716053712579968 for Mine.nq by Mine.nq_rfl
name_quick tw15852418618254888133 for Mine.nq by Mine.nq_rfl
name_quick tw5152765423282276616 for Mine.nq by Mine.nq_rfl
name_quick tw8127447518859850296 for Mine.nq by Mine.nq_rfl
name_quick tw2724676021440004308 for Mine.nq by Mine.nq_rfl
name_quick tw6460718184045443163 for Mine.nq by Mine.nq_rfl
name_quick tw16629612837617992614 for Mine.nq by Mine.nq_rfl
name_quick tw1513029788606724791 for Mine.nq by Mine.nq_rfl
name_quick tw2615795761831903464 for Mine.nq by Mine.nq_rfl
name_quick tw15339691569314305670 for Mine.nq by Mine.nq_rfl
name_quick tw4041821760720696341 for Mine.nq by Mine.nq_rfl
name_quick tw9103310933311007397 for Mine.nq by Mine.nq_rfl
name_quick tw7980677952047804146 for Mine.nq by Mine.nq_rfl
name_quick tw3220028150255651006 for Mine.nq by Mine.nq_rfl
name_quick tw6430084452224433118 for Mine.nq by Mine.nq_rfl
name_quick tw6813041062179833445 for Mine.nq by Mine.nq_rfl
name_quick tw15052430979892313760 for Mine.nq by Mine.nq_rfl
name_quick tw2786459242175096484 for Mine.nq by Mine.nq_rfl
name_quick tw5226419290755671927 for Mine.nq by Mine.nq_rfl
name_quick tw11942845085649238702 for Mine.nq by Mine.nq_rfl
name_quick tw14082039318012873693 for Mine.nq by Mine.nq_rfl
name_quick tw8238534867955997690 for Mine.nq by Mine.nq_rfl
name_quick tw5161053319311518864 for Mine.nq by Mine.nq_rfl
name_quick tw827106698547405791 for Mine.nq by Mine.nq_rfl
name_quick tw5465212274667124382 for Mine.nq by Mine.nq_rfl
name_quick tw13343461726426194607 for Mine.nq by Mine.nq_rfl
name_quick tw11599132250606127907 for Mine.nq by Mine.nq_rfl
name_quick tw13195720168200566630 for Mine.nq by Mine.nq_rfl
name_quick tw6839331591458617662 for Mine.nq by Mine.nq_rfl
name_quick tw6482019011972154943 for Mine.nq by Mine.nq_rfl
name_quick tw4556700289760006671 for Mine.nq by Mine.nq_rfl
name_quick tw6068272031012857275 for Mine.nq by Mine.nq_rfl
name_quick tw12204382177802003002 for Mine.nq by Mine.nq_rfl
name_quick tw6619490545015067207 for Mine.nq by Mine.nq_rfl
name_quick tw10153397990264109449 for Mine.nq by Mine.nq_rfl
name_quick tw9753741940635838506 for Mine.nq by Mine.nq_rfl
name_quick tw4791426268163011105 for Mine.nq by Mine.nq_rfl
name_quick tw547191734899326466 for Mine.nq by Mine.nq_rfl
name_quick tw9740324311538904819 for Mine.nq by Mine.nq_rfl
name_quick tw18180135454281095948 for Mine.nq by Mine.nq_rfl
name_quick tw15875934534511192880 for Mine.nq by Mine.nq_rfl
name_quick tw8926988891691027875 for Mine.nq by Mine.nq_rfl
name_quick tw11176835235461709816 for Mine.nq by Mine.nq_rfl
name_quick tw8701202920430019616 for Mine.nq by Mine.nq_rfl
name_quick tw7643232025118728705 for Mine.nq by Mine.nq_rfl
name_quick tw11128549585110499959 for Mine.nq by Mine.nq_rfl
name_quick tw2078191249513347474 for Mine.nq by Mine.nq_rfl
name_quick tw9368585349161967942 for Mine.nq by Mine.nq_rfl
name_quick tw8322859051176925097 for Mine.nq by Mine.nq_rfl
name_quick tw10951819575092376495 for Mine.nq by Mine.nq_rfl
name_quick tw5301076238638085756 for Mine.nq by Mine.nq_rfl
name_quick tw15149180882198471752 for Mine.nq by Mine.nq_rfl
name_quick tw13481763384651238587 for Mine.nq by Mine.nq_rfl
name_quick tw2514612800365338617 for Mine.nq by Mine.nq_rfl
name_quick tw15025590108382710512 for Mine.nq by Mine.nq_rfl
name_quick tw18022991426498854473 for Mine.nq by Mine.nq_rfl
name_quick tw12641364861235294461 for Mine.nq by Mine.nq_rfl
name_quick tw12400238717853346265 for Mine.nq by Mine.nq_rfl
name_quick tw3456571083492441453 for Mine.nq by Mine.nq_rfl
name_quick tw9486709356237091125 for Mine.nq by Mine.nq_rfl
name_quick tw860648672081048324 for Mine.nq by Mine.nq_rfl
name_quick tw17702719377474183314 for Mine.nq by Mine.nq_rfl
name_quick tw6152077179709123664 for Mine.nq by Mine.nq_rfl
name_quick tw7481932597757784137 for Mine.nq by Mine.nq_rfl
name_quick tw3994726098318772208 for Mine.nq by Mine.nq_rfl
name_quick tw5916453677353241594 for Mine.nq by Mine.nq_rfl
name_quick tw16121411588587052578 for Mine.nq by Mine.nq_rfl
name_quick tw15824688422252718220 for Mine.nq by Mine.nq_rfl
name_quick tw7178292369654101021 for Mine.nq by Mine.nq_rfl
name_quick tw13328287217336646745 for Mine.nq by Mine.nq_rfl
name_quick tw13401450569268012522 for Mine.nq by Mine.nq_rfl
name_quick tw8249167001743385412 for Mine.nq by Mine.nq_rfl
name_quick tw5119820228738538837 for Mine.nq by Mine.nq_rfl
name_quick tw3317462989674347011 for Mine.nq by Mine.nq_rfl
name_quick tw8052699685389476681 for Mine.nq by Mine.nq_rfl
name_quick tw1662412061097358909 for Mine.nq by Mine.nq_rfl
name_quick tw11032288311024073452 for Mine.nq by Mine.nq_rfl
name_quick tw4019194518960018008 for Mine.nq by Mine.nq_rfl
name_quick tw7183787996843840669 for Mine.nq by Mine.nq_rfl
name_quick tw10932834426561998003 for Mine.nq by Mine.nq_rfl
name_quick tw12132438518962610784 for Mine.nq by Mine.nq_rfl
name_quick tw6309909221698769517 for Mine.nq by Mine.nq_rfl
name_quick tw1303969622770654653 for Mine.nq by Mine.nq_rfl
name_quick tw4421477190475177751 for Mine.nq by Mine.nq_rfl
name_quick tw9435042870772312822 for Mine.nq by Mine.nq_rfl
name_quick tw7423086322359588862 for Mine.nq by Mine.nq_rfl
name_quick tw11971560273547352008 for Mine.nq by Mine.nq_rfl
name_quick tw12039147934589137871 for Mine.nq by Mine.nq_rfl
name_quick tw1681232566215850207 for Mine.nq by Mine.nq_rfl
name_quick tw8766472978148464848 for Mine.nq by Mine.nq_rfl
name_quick tw1799466108103082662 for Mine.nq by Mine.nq_rfl
name_quick tw7099541200963586819 for Mine.nq by Mine.nq_rfl
name_quick tw2264711001312105635 for Mine.nq by Mine.nq_rfl
name_quick tw2760285239938686285 for Mine.nq by Mine.nq_rfl
name_quick tw786218976670858567 for Mine.nq by Mine.nq_rfl
name_quick tw14692981897185910471 for Mine.nq by Mine.nq_rfl
name_quick tw12539731471513976603 for Mine.nq by Mine.nq_rfl
name_quick tw16880591034133319189 for Mine.nq by Mine.nq_rfl
name_quick tw5206711931955139529 for Mine.nq by Mine.nq_rfl
name_quick tw18044772033736509624 for Mine.nq by Mine.nq_rfl
name_quick tw10161030998265718105 for Mine.nq by Mine.nq_rfl
name_quick tw7264564868467954424 for Mine.nq by Mine.nq_rfl
name_quick tw12039640741984040343 for Mine.nq by Mine.nq_rfl
name_quick tw2172508916182142657 for Mine.nq by Mine.nq_rfl
name_quick tw13280191505927967116 for Mine.nq by Mine.nq_rfl
name_quick tw15943778425431997400 for Mine.nq by Mine.nq_rfl
name_quick tw4036027369504893846 for Mine.nq by Mine.nq_rfl
name_quick tw8800414941367319197 for Mine.nq by Mine.nq_rfl
name_quick tw11942918368763115337 for Mine.nq by Mine.nq_rfl
name_quick tw14759100921596082360 for Mine.nq by Mine.nq_rfl
name_quick tw9857220320739968221 for Mine.nq by Mine.nq_rfl
name_quick tw16262943470744321830 for Mine.nq by Mine.nq_rfl
name_quick tw1174688143480765567 for Mine.nq by Mine.nq_rfl
name_quick tw11900130046921669522 for Mine.nq by Mine.nq_rfl
name_quick tw1450986613127831428 for Mine.nq by Mine.nq_rfl
name_quick tw3989758106482875701 for Mine.nq by Mine.nq_rfl
name_quick tw7061051225368521305 for Mine.nq by Mine.nq_rfl
name_quick tw16658155956994961839 for Mine.nq by Mine.nq_rfl
name_quick tw10804207746132164421 for Mine.nq by Mine.nq_rfl
name_quick tw9135381548975687176 for Mine.nq by Mine.nq_rfl
name_quick tw4601979354473543915 for Mine.nq by Mine.nq_rfl
name_quick tw16658422150657513672 for Mine.nq by Mine.nq_rfl
name_quick tw10295692493634532523 for Mine.nq by Mine.nq_rfl
name_quick tw17419358671643532668 for Mine.nq by Mine.nq_rfl
name_quick tw15957902780227234806 for Mine.nq by Mine.nq_rfl
name_quick tw176609655623843514 for Mine.nq by Mine.nq_rfl
name_quick tw2035395439679320063 for Mine.nq by Mine.nq_rfl
name_quick tw2068768393410330855 for Mine.nq by Mine.nq_rfl
name_quick tw17245969729357673488 for Mine.nq by Mine.nq_rfl
name_quick tw7754399652296992482 for Mine.nq by Mine.nq_rfl
name_quick tw5439406559029941658 for Mine.nq by Mine.nq_rfl
name_quick tw6512343940206248464 for Mine.nq by Mine.nq_rfl
name_quick tw12616149485744366804 for Mine.nq by Mine.nq_rfl
name_quick tw5042196134292462105 for Mine.nq by Mine.nq_rfl
name_quick tw1613782473541009371 for Mine.nq by Mine.nq_rfl
name_quick tw14266305231870008196 for Mine.nq by Mine.nq_rfl
name_quick tw17542491380657703146 for Mine.nq by Mine.nq_rfl
name_quick tw8115132593001063074 for Mine.nq by Mine.nq_rfl
name_quick tw5528021865569915719 for Mine.nq by Mine.nq_rfl
name_quick tw450649722010238627 for Mine.nq by Mine.nq_rfl
name_quick tw12040748966733980073 for Mine.nq by Mine.nq_rfl
name_quick tw16055750773512198348 for Mine.nq by Mine.nq_rfl
name_quick tw11469647399813913371 for Mine.nq by Mine.nq_rfl
name_quick tw7719227258301919856 for Mine.nq by Mine.nq_rfl
name_quick tw380116098626401653 for Mine.nq by Mine.nq_rfl
name_quick tw15718359560609617345 for Mine.nq by Mine.nq_rfl
name_quick tw17538839764788146552 for Mine.nq by Mine.nq_rfl
name_quick tw6255106906943118120 for Mine.nq by Mine.nq_rfl
name_quick tw7888859464835981055 for Mine.nq by Mine.nq_rfl
name_quick tw14427700606633109709 for Mine.nq by Mine.nq_rfl
name_quick tw17756179450831198793 for Mine.nq by Mine.nq_rfl
name_quick tw3346516477294861663 for Mine.nq by Mine.nq_rfl
name_quick tw3335650596809004647 for Mine.nq by Mine.nq_rfl
name_quick tw3876041706209863288 for Mine.nq by Mine.nq_rfl
name_quick tw10800381998247402418 for Mine.nq by Mine.nq_rfl
name_quick tw10899928444652561671 for Mine.nq by Mine.nq_rfl
name_quick tw9126881050622632314 for Mine.nq by Mine.nq_rfl
name_quick tw5034570654505515926 for Mine.nq by Mine.nq_rfl
name_quick tw8898408842067805994 for Mine.nq by Mine.nq_rfl
name_quick tw10970212529159555371 for Mine.nq by Mine.nq_rfl
name_quick tw11269898805732643086 for Mine.nq by Mine.nq_rfl
name_quick tw494713878115571085 for Mine.nq by Mine.nq_rfl
name_quick tw14015825241879950055 for Mine.nq by Mine.nq_rfl
name_quick tw8895288903186670712 for Mine.nq by Mine.nq_rfl
name_quick tw7466512435828418511 for Mine.nq by Mine.nq_rfl
name_quick tw13558723367298376964 for Mine.nq by Mine.nq_rfl
name_quick tw27914345072074935 for Mine.nq by Mine.nq_rfl
name_quick tw5544535192489738091 for Mine.nq by Mine.nq_rfl
name_quick tw17136648757045153592 for Mine.nq by Mine.nq_rfl
name_quick tw2728217946356634317 for Mine.nq by Mine.nq_rfl
name_quick tw14200731362085958547 for Mine.nq by Mine.nq_rfl
name_quick tw11389326089251139704 for Mine.nq by Mine.nq_rfl
name_quick tw7469220244138209139 for Mine.nq by Mine.nq_rfl
name_quick tw9466190724604962976 for Mine.nq by Mine.nq_rfl
name_quick tw14323191683527004385 for Mine.nq by Mine.nq_rfl
name_quick tw1469006186239232635 for Mine.nq by Mine.nq_rfl
name_quick tw14122118235476106720 for Mine.nq by Mine.nq_rfl
name_quick tw11756209923692085429 for Mine.nq by Mine.nq_rfl
name_quick tw2815856817661251079 for Mine.nq by Mine.nq_rfl
name_quick tw15558944290496000118 for Mine.nq by Mine.nq_rfl
name_quick tw2478812921140235972 for Mine.nq by Mine.nq_rfl
name_quick tw9601830559500562358 for Mine.nq by Mine.nq_rfl
name_quick tw10363098926003520993 for Mine.nq by Mine.nq_rfl
name_quick tw14222968703881079990 for Mine.nq by Mine.nq_rfl
name_quick tw6002448621044059110 for Mine.nq by Mine.nq_rfl
name_quick tw2408428389488378829 for Mine.nq by Mine.nq_rfl
name_quick tw9836191945928279202 for Mine.nq by Mine.nq_rfl
name_quick tw13116705672368042070 for Mine.nq by Mine.nq_rfl
name_quick tw11181602933962326385 for Mine.nq by Mine.nq_rfl
name_quick tw17470182516447604088 for Mine.nq by Mine.nq_rfl
name_quick tw8456008463702214827 for Mine.nq by Mine.nq_rfl
name_quick tw9294052569563132878 for Mine.nq by Mine.nq_rfl
name_quick tw16775486880773237633 for Mine.nq by Mine.nq_rfl
name_quick tw3363259976756999616 for Mine.nq by Mine.nq_rfl
name_quick tw1465700549354054143 for Mine.nq by Mine.nq_rfl
name_quick tw11658679034325858985 for Mine.nq by Mine.nq_rfl
name_quick tw10993635847552443774 for Mine.nq by Mine.nq_rfl
name_quick tw15501063356176803375 for Mine.nq by Mine.nq_rfl
name_quick tw10363632054614041535 for Mine.nq by Mine.nq_rfl
name_quick tw3410327690191594304 for Mine.nq by Mine.nq_rfl
name_quick tw10960819157759587270 for Mine.nq by Mine.nq_rfl
name_quick tw100317234535270090 for Mine.nq by Mine.nq_rfl
name_quick tw5570527783124031326 for Mine.nq by Mine.nq_rfl
name_quick tw15057979764553838229 for Mine.nq by Mine.nq_rfl
name_quick tw911514066367193542 for Mine.nq by Mine.nq_rfl
name_quick tw2460060685057441140 for Mine.nq by Mine.nq_rfl
name_quick tw9756189279628919893 for Mine.nq by Mine.nq_rfl
name_quick tw5619023038169207897 for Mine.nq by Mine.nq_rfl
name_quick tw8992944254649244289 for Mine.nq by Mine.nq_rfl
name_quick tw18115109253202687806 for Mine.nq by Mine.nq_rfl
name_quick tw5938930275181633926 for Mine.nq by Mine.nq_rfl
name_quick tw5421411531478906721 for Mine.nq by Mine.nq_rfl
name_quick tw653045798526291285 for Mine.nq by Mine.nq_rfl
name_quick tw5833487211902050900 for Mine.nq by Mine.nq_rfl
name_quick tw12542599427624453036 for Mine.nq by Mine.nq_rfl
name_quick tw12982523959702907818 for Mine.nq by Mine.nq_rfl
name_quick tw15110633834456799321 for Mine.nq by Mine.nq_rfl
name_quick tw6530814583390787407 for Mine.nq by Mine.nq_rfl
name_quick tw9086167103360699692 for Mine.nq by Mine.nq_rfl
name_quick tw4254473196351684166 for Mine.nq by Mine.nq_rfl
name_quick tw9697149922678371837 for Mine.nq by Mine.nq_rfl
name_quick tw18065358436285042598 for Mine.nq by Mine.nq_rfl
name_quick tw2150526042354789816 for Mine.nq by Mine.nq_rfl
name_quick tw7052860091543094126 for Mine.nq by Mine.nq_rfl
name_quick tw9584101625446177679 for Mine.nq by Mine.nq_rfl
name_quick tw13167953452625630233 for Mine.nq by Mine.nq_rfl
name_quick tw16701476733426327718 for Mine.nq by Mine.nq_rfl
name_quick tw8598770425756632571 for Mine.nq by Mine.nq_rfl
name_quick tw9037744934858087096 for Mine.nq by Mine.nq_rfl
name_quick tw16415526775699336647 for Mine.nq by Mine.nq_rfl
name_quick tw13024490644149834659 for Mine.nq by Mine.nq_rfl
name_quick tw2645253730830170669 for Mine.nq by Mine.nq_rfl
name_quick tw7702884723409958756 for Mine.nq by Mine.nq_rfl
name_quick tw674513321012243120 for Mine.nq by Mine.nq_rfl
name_quick tw2381779857757554982 for Mine.nq by Mine.nq_rfl
name_quick tw2974168805566760095 for Mine.nq by Mine.nq_rfl
name_quick tw8413033410311042802 for Mine.nq by Mine.nq_rfl
name_quick tw18232516205770288370 for Mine.nq by Mine.nq_rfl
name_quick tw10369993220563554966 for Mine.nq by Mine.nq_rfl
name_quick tw8079040768744151613 for Mine.nq by Mine.nq_rfl
name_quick tw7608248172247005484 for Mine.nq by Mine.nq_rfl
name_quick tw1500001586437499229 for Mine.nq by Mine.nq_rfl
name_quick tw5156215486018121394 for Mine.nq by Mine.nq_rfl
name_quick tw12246879708356120756 for Mine.nq by Mine.nq_rfl
name_quick tw6838764662415248091 for Mine.nq by Mine.nq_rfl
name_quick tw2552149334360943457 for Mine.nq by Mine.nq_rfl
name_quick tw7266321515953080419 for Mine.nq by Mine.nq_rfl
name_quick tw11903041915960050728 for Mine.nq by Mine.nq_rfl
name_quick tw368413529313430098 for Mine.nq by Mine.nq_rfl
name_quick tw6574282420361060447 for Mine.nq by Mine.nq_rfl
name_quick tw5117486665703424817 for Mine.nq by Mine.nq_rfl
name_quick tw5024659119744377144 for Mine.nq by Mine.nq_rfl
name_quick tw13953968432653430011 for Mine.nq by Mine.nq_rfl
name_quick tw4372461843655280518 for Mine.nq by Mine.nq_rfl
name_quick tw2273858819278549214 for Mine.nq by Mine.nq_rfl
name_quick tw9931992706918115027 for Mine.nq by Mine.nq_rfl
name_quick tw15309902003326921531 for Mine.nq by Mine.nq_rfl
name_quick tw10870844614742548876 for Mine.nq by Mine.nq_rfl
name_quick tw2880636966107452029 for Mine.nq by Mine.nq_rfl
name_quick tw12572467164891943314 for Mine.nq by Mine.nq_rfl
name_quick tw9850301400940741980 for Mine.nq by Mine.nq_rfl
name_quick tw7224399010624468978 for Mine.nq by Mine.nq_rfl
name_quick tw9271197160210241461 for Mine.nq by Mine.nq_rfl
name_quick tw3559286889762577286 for Mine.nq by Mine.nq_rfl
name_quick tw841194403230263022 for Mine.nq by Mine.nq_rfl
name_quick tw3946905001735722233 for Mine.nq by Mine.nq_rfl
name_quick tw2332693452846706326 for Mine.nq by Mine.nq_rfl
name_quick tw4393603934423812307 for Mine.nq by Mine.nq_rfl
name_quick tw6269966834518387820 for Mine.nq by Mine.nq_rfl
name_quick tw7099533968441916573 for Mine.nq by Mine.nq_rfl
name_quick tw13308427868814031534 for Mine.nq by Mine.nq_rfl
name_quick tw10648174273078443320 for Mine.nq by Mine.nq_rfl
name_quick tw376056386549438138 for Mine.nq by Mine.nq_rfl
name_quick tw15255086577722922688 for Mine.nq by Mine.nq_rfl
name_quick tw9710547745389366427 for Mine.nq by Mine.nq_rfl
name_quick tw16087480847854898326 for Mine.nq by Mine.nq_rfl
name_quick tw14779988860287478557 for Mine.nq by Mine.nq_rfl
name_quick tw17672885280981196277 for Mine.nq by Mine.nq_rfl
name_quick tw16569167677417678222 for Mine.nq by Mine.nq_rfl
name_quick tw8463493634643875071 for Mine.nq by Mine.nq_rfl
name_quick tw9904784518248871179 for Mine.nq by Mine.nq_rfl
name_quick tw8237628468659082764 for Mine.nq by Mine.nq_rfl
name_quick tw13345322153190985431 for Mine.nq by Mine.nq_rfl
name_quick tw17176256520905523406 for Mine.nq by Mine.nq_rfl
name_quick tw10158837362779655497 for Mine.nq by Mine.nq_rfl
name_quick tw16710414255800497874 for Mine.nq by Mine.nq_rfl
name_quick tw12310914268238720402 for Mine.nq by Mine.nq_rfl
name_quick tw9181683983548711307 for Mine.nq by Mine.nq_rfl
name_quick tw645280481220653323 for Mine.nq by Mine.nq_rfl
name_quick tw7937360525058898846 for Mine.nq by Mine.nq_rfl
name_quick tw2494582366520428600 for Mine.nq by Mine.nq_rfl
name_quick tw8179168226198291759 for Mine.nq by Mine.nq_rfl
name_quick tw10139841075400542888 for Mine.nq by Mine.nq_rfl
name_quick tw4663019059281673177 for Mine.nq by Mine.nq_rfl
name_quick tw4435446575649361319 for Mine.nq by Mine.nq_rfl
name_quick tw13063908843372219496 for Mine.nq by Mine.nq_rfl
name_quick tw5443997597417879742 for Mine.nq by Mine.nq_rfl
name_quick tw17620334132377794742 for Mine.nq by Mine.nq_rfl
name_quick tw7379500111108612711 for Mine.nq by Mine.nq_rfl
name_quick tw1841836333981035134 for Mine.nq by Mine.nq_rfl
name_quick tw18136030922241914178 for Mine.nq by Mine.nq_rfl
name_quick tw743720327355064036 for Mine.nq by Mine.nq_rfl
name_quick tw8361382661598280687 for Mine.nq by Mine.nq_rfl
name_quick tw6555836376182642527 for Mine.nq by Mine.nq_rfl
name_quick tw1535497942135152695 for Mine.nq by Mine.nq_rfl
name_quick tw12398223195291822079 for Mine.nq by Mine.nq_rfl
name_quick tw1947122803551259453 for Mine.nq by Mine.nq_rfl
name_quick tw5599835777031289924 for Mine.nq by Mine.nq_rfl
name_quick tw15430376819022150306 for Mine.nq by Mine.nq_rfl
name_quick tw2437803716964573062 for Mine.nq by Mine.nq_rfl
name_quick tw9298284251206045596 for Mine.nq by Mine.nq_rfl
name_quick tw3128610181653113651 for Mine.nq by Mine.nq_rfl
name_quick tw15191179921418398502 for Mine.nq by Mine.nq_rfl
name_quick tw193996619713079764 for Mine.nq by Mine.nq_rfl
name_quick tw6871070775303988041 for Mine.nq by Mine.nq_rfl
name_quick tw11570279465570858858 for Mine.nq by Mine.nq_rfl
name_quick tw11699524648409779975 for Mine.nq by Mine.nq_rfl
name_quick tw11917786201327553717 for Mine.nq by Mine.nq_rfl
name_quick tw6391029557713974115 for Mine.nq by Mine.nq_rfl
name_quick tw4831305437095251883 for Mine.nq by Mine.nq_rfl
name_quick tw11356772286708262303 for Mine.nq by Mine.nq_rfl
name_quick tw8392597382566269865 for Mine.nq by Mine.nq_rfl
name_quick tw7013153251980690481 for Mine.nq by Mine.nq_rfl
name_quick tw4596069886926316615 for Mine.nq by Mine.nq_rfl
name_quick tw14824234498139079507 for Mine.nq by Mine.nq_rfl
name_quick tw8012632809779845559 for Mine.nq by Mine.nq_rfl
name_quick tw12333229107473029286 for Mine.nq by Mine.nq_rfl
name_quick tw17692189638669753560 for Mine.nq by Mine.nq_rfl
name_quick tw274016917212898722 for Mine.nq by Mine.nq_rfl
name_quick tw12456627185932919654 for Mine.nq by Mine.nq_rfl
name_quick tw11268565894811700663 for Mine.nq by Mine.nq_rfl
name_quick tw11117089975213408038 for Mine.nq by Mine.nq_rfl
name_quick tw12897223096894402239 for Mine.nq by Mine.nq_rfl
name_quick tw7290644721084481783 for Mine.nq by Mine.nq_rfl
namespace MineTop
open_top hd for PySem.Challenge.rw_bd0031_05
end MineTop
namespace Mine
local macro_rules | `(tactic| walk_at "m_ne") => `(tactic| first
  | assumption
  | exact Ne.symm (by assumption)
  | exact ne_fresh (by assumption) (by assumption)
  | exact (ne_fresh (by assumption) (by assumption)).symm
  | exact ne_kind (by assumption) (by assumption) (by intro z; cases z)
  | exact ne_fresh (by assumption) (by walk_at "m_H")
  | exact (ne_fresh (by assumption) (by walk_at "m_H")).symm)
local macro_rules | `(tactic| walk_at "m_none") => `(tactic| first | assumption | (refine upd_other (by walk_at "m_ne") ?_; walk_at "m_none") | walk_at "m_none1")
local macro_rules | `(tactic| walk_at "m_none1") => `(tactic| (apply none_up; first | assumption | (apply none_up; first | assumption | (apply none_up; first | assumption | (apply none_up; first | assumption | (apply none_up; first | assumption | (apply none_up; first | assumption | (apply none_up; first | assumption | (apply none_up; assumption)))))))))
local macro_rules | `(tactic| walk_at "m_sub") => `(tactic| first | exact Sub.refl _ | (refine Cov.sub ?_; walk_at "m_cov"))
local macro_rules | `(tactic| walk_at "m_mem") => `(tactic| first | exact List.Mem.head _ | (refine List.Mem.tail _ ?_; walk_at "m_mem"))
local macro_rules | `(tactic| walk_at "m_cov") => `(tactic| first
  | exact Cov.refl
  | exact Cov.of (by assumption)
  | ((with_reducible refine' Cov.n ?a ?b ?_); (case a => walk_at "m_H"); (case b => walk_at "m_le"); walk_at "m_cov")
  | ((with_reducible refine' Cov.hm ?a ?_); (case a => walk_at "m_mem"); walk_at "m_cov")
  | ((with_reducible refine' Cov.hn ?a ?_); (case a => walk_at "m_none"); walk_at "m_cov")
  | ((with_reducible refine' Cov.hs ?a ?b ?_); (case a => walk_at "m_H"); (case b => walk_at "m_le"); walk_at "m_cov"))
local macro_rules | `(tactic| walk_at "m_H") => `(tactic| first | assumption | exact upd_self _ _ _ | (refine upd_other (by walk_at "m_ne") ?_; walk_at "m_H"))
local macro_rules | `(tactic| walk_at "m_lk") => `(tactic| first | assumption | rfl)
local macro_rules | `(tactic| walk_at "eval Name") => `(tactic| (rename St _ _ _ _ => mS; k_dflt first
  | (refine' nm_ref mS ?H ?x ?_ ?L; (case L => first | exact loc_callEnv | exact rfl); (case H => walk_at "m_H"); (case x => rfl))
  | (refine' nm_int mS ?H ?x ?_ ?L; (case L => first | exact loc_callEnv | exact rfl); (case H => walk_at "m_H"); (case x => rfl); intro tk)
  | (refine' nm_none mS ?H ?x ?_ ?L; (case L => first | exact loc_callEnv | exact rfl); (case H => walk_at "m_H"); (case x => rfl))
  | (refine' nm_bool mS ?H ?x ?_ ?L; (case L => first | exact loc_callEnv | exact rfl); (case H => walk_at "m_H"); (case x => rfl))
  | (refine' nm_any mS ?H ?x ?_ ?L; (case L => first | exact loc_callEnv | exact rfl); (case H => walk_at "m_H"); (case x => rfl); intro v hv)
  | (refine' nm_global mS ?e ?_; (case e => k_is))
  | (refine' nm_builtin mS ?e ?v ?n ?_; (case e => k_is); (case v => boot_by_name); (case n => decide))))
local macro_rules | `(tactic| walk_at "loadName") => `(tactic| (rename St _ _ _ _ => mS; k_dflt (refine' nm mS ?H ?x ?_ ?L; (case L => first | exact loc_callEnv | exact rfl); (case H => walk_at "m_H"); (case x => rfl); walk_at "m_er")))
local macro_rules | `(tactic| walk_at "eval Constant int") => `(tactic| (rename St _ _ _ _ => mS; refine const_int mS ?_; intro tk s' S'; clear mS))
local macro_rules | `(tactic| walk_at "binaryOp Add int int") => `(tactic| (rename St _ _ _ _ => mS; refine s_add mS ?_; intro tk s' S'; clear mS))
local macro_rules | `(tactic| walk_at "binaryOp Sub int int") => `(tactic| (rename St _ _ _ _ => mS; refine s_sub mS ?_; intro tk s' S'; clear mS))
local macro_rules | `(tactic| walk_at "inplaceOp Add int int") => `(tactic| (rename St _ _ _ _ => mS; refine s_iadd mS ?_; intro tk s' S'; clear mS))
local macro_rules | `(tactic| walk_at "inplaceOp Sub int int") => `(tactic| (rename St _ _ _ _ => mS; refine s_isub mS ?_; intro tk s' S'; clear mS))
local macro_rules | `(tactic| walk_at "unaryOp USub int") => `(tactic| (rename St _ _ _ _ => mS; refine s_neg mS ?_; intro tk s' S'; clear mS))
local macro_rules | `(tactic| walk_at "m_val") => `(tactic| first | rfl | assumption)
local macro_rules | `(tactic| walk_at "storeName") => `(tactic| (rename St _ _ _ _ => mS; k_dflt (refine' stv mS ?H ?v ?_ ?L; (case L => first | exact loc_callEnv | exact rfl); (case H => walk_at "m_H"); (case v => walk_at "m_val"); intro s' S'; clear mS; (try dsimp only [er] at S'))))
local macro_rules | `(tactic| walk_at "subscriptTail") => `(tactic| (rename St _ _ _ _ => mS; k_dflt first
  | (refine' tup_item mS ?e ?a ?b ?x ?_ ?hs; (case e => walk_at "m_H"); (case a => decide); (case b => decide); (case x => rfl); (case hs => with_unfolding_all rfl); walk_at "m_er")
  | (refine' list_item mS ?e ?a ?b ?x ?_ ?hs; (case e => walk_at "m_H"); (case a => first | decide | omega); (case b => first | decide | omega); (case x => walk_at "m_lk"); (case hs => with_unfolding_all rfl); walk_at "m_er")))
local macro_rules | `(tactic| walk_at "m_er") => `(tactic| first
  | (refine of_int ?_; intro tk)
  | refine of_ref ?_
  | refine of_none ?_
  | refine of_bool ?_
  | (intro v hv))
local macro_rules | `(tactic| walk_at "m_er2") => `(tactic| first
  | (refine of_int2 ?_; intro tk s' S')
  | (refine of_ref2 ?_; intro s' S')
  | (refine of_none2 ?_; intro s' S')
  | (refine of_bool2 ?_; intro s' S')
  | (intro v s' hv S'))
local macro_rules | `(tactic| walk_at "getAttr ref") => `(tactic| (rename St _ _ _ _ => mS; k_dflt (refine' at_get mS ?e ?x ?g ?h ?a ?n ?v ?_; (case e => walk_at "m_H"); (case x => walk_at "m_lk"); (case g => k_is); (case h => k_is); (case a => k_is); (case n => k_is); (case v => rfl); walk_at "m_er2"; clear mS)))
local macro_rules | `(tactic| walk_at "getMethod ref") => `(tactic| (rename St _ _ _ _ => mS; k_dflt (refine' meth mS ?e ?x ?g ?f ?t ?_; (case e => walk_at "m_H"); (case x => walk_at "m_lk"); (case g => k_is); (case f => k_is); (case t => k_is))))
local macro_rules | `(tactic| walk_at "setAttr ref") => `(tactic| (rename St _ _ _ _ => mS; k_dflt (refine' at_set mS ?e ?z ?s ?p ?t ?h ?_; (case e => walk_at "m_H"); (case z => walk_at "m_len"); (case s => k_is); (case p => k_is); (case t => k_is); (case h => k_is); intro s' S'; clear mS; (try dsimp only [er] at S'))))
local macro_rules | `(tactic| walk_at "m_len") => `(tactic| first | ((with_reducible refine setk_le ?_); (repeat (with_reducible refine setk_le ?_)); exact Nat.zero_le _) | omega | decide | (simp only [List.length_cons, List.length_nil, List.length_append, setk_length]; first | done | omega | (repeat' split) <;> omega))
local macro_rules | `(tactic| walk_at "callWith ref") => `(tactic| (rename St _ _ _ _ => mS; k_dflt first
  | (refine' callWith_K mS.inK ?k2 ?_; (case k2 => k_is))
  | (refine' callWith_K0 mS.inK ?k2 ?_; (case k2 => k_is))
  | (refine' callWith_KW mS.inK ?k2 ?k3 ?_; (case k2 => k_is); (case k3 => exact rfl))
  | (refine' callWith_KW0 mS.inK ?k2 ?k3 ?_; (case k2 => k_is); (case k3 => exact rfl))))
local macro_rules | `(tactic| walk_at "And") => `(tactic| ((with_reducible show Frag.In _ _ ∧ _); rename St _ _ _ _ => mS; refine ⟨mS.inK, ?_⟩; (try dsimp only [List.nil_append, List.cons_append])))
local macro_rules | `(tactic| walk_at "call builtin:isinstance") => `(tactic| (rename St _ _ _ _ => mS; k_dflt (refine' isi_inst mS ?e ?i ?_; (case e => walk_at "m_H"); (case i => k_is))))
local macro_rules | `(tactic| walk_at "call builtin:len") => `(tactic| (rename St _ _ _ _ => mS; k_dflt (refine' len_list mS ?e ?z ?_; (case e => walk_at "m_H"); (case z => first | omega | (simp; omega)); intro tk s' S'; clear mS)))
local macro_rules | `(tactic| walk_at "m_in") => `(tactic| (
  case k1 => k_is
  case k2 => k_is
  case k3 => first | exact (BindsTo.of_eq rfl) | exact binds_K (St.inK (by assumption)) rfl (by k_is) rfl rfl rfl
  case k4 => rfl
  case k6 => exact locs rfl
  case k7 => decide
  case k8 => rfl
  case k9 => rfl
  case k10 => rfl))
local macro_rules | `(tactic| walk_at "m_all") => `(tactic| first | exact List.forall_mem_nil _ | (refine List.forall_mem_cons.mpr ⟨?_, ?_⟩; (first | rfl | (show some _ = some _; congr 2; omega)); walk_at "m_all"))
local macro_rules | `(tactic| walk_at "m_le") => `(tactic| first | exact AO.le.rfl' _ | (refine ns_le ?_; walk_at "m_all"))
local macro_rules | `(tactic| walk_at "m_frs") => `(tactic| first
  | assumption
  | exact St.frs (by assumption)
  | exact Frs.re (by assumption)
  | exact Frs.re (St.frs (by assumption))
  | (refine Frs.join ?_; walk_at "m_frs")
  | (refine Frs.ns ?_ (by walk_at "m_H"); walk_at "m_frs")
  | (refine Frs.turn ?_ (by walk_at "m_H") (by rfl); walk_at "m_frs")
  | (refine Frs.fresh ?_ (by walk_at "m_none"); walk_at "m_frs"))
local macro_rules | `(tactic| walk_at "m_R") => `(tactic| first
  | exact Rm.mono (by assumption) (by omega) (by omega)
  | (refine Rm.deeper ?_; walk_at "m_R")
  | (refine Rm.in1 ?_; walk_at "m_R")
  | (refine Rm.mark ?_; walk_at "m_R"))
local macro_rules | `(tactic| walk_at "m_ar") => `(tactic| first | rfl | omega | ((simp only [bne_iff_ne, ne_eq, beq_iff_eq, Bool.not_eq_true', decide_eq_decide, decide_eq_true_eq, decide_eq_false_iff_not, Bool.not_eq_true, bne_eq_false_iff_eq, beq_eq_false_iff_ne] at *); omega) | (simp_all; done) | (simp_all; omega))
local macro_rules | `(tactic| walk_at "m_go") => `(tactic| w_strict (repeat' (first | walk1 | (dsimp only; walk1) | ((with_reducible refine unhide (by assumption) ?_); (try dsimp only)))))
local macro_rules | `(tactic| walk_at "exec Assign") => `(tactic| (with_reducible refine plainObj_wpAny_Assign_Attribute ?_ ?_; rotate_left; with_unfolding_all rfl))
local macro_rules | `(tactic| walk_at "eval List") => `(tactic| (with_reducible refine list_disp ?_))
local macro_rules | `(tactic| walk_at "eval Tuple") => `(tactic| (with_reducible refine tup_disp ?_))
local macro_rules | `(tactic| walk_at "NewL") => `(tactic| (rename St _ _ _ _ => mS; (refine newL mS (by first | simp | decide) ?_); intro a s' ha S'; clear mS; (try dsimp only [List.map, er] at S')))
local macro_rules | `(tactic| walk_at "NewT") => `(tactic| (rename St _ _ _ _ => mS; (refine newT mS (by first | simp | decide) ?_); intro a s' ha S'; clear mS; (try dsimp only [List.map, er] at S')))
local macro_rules | `(tactic| walk_at "binaryOp FloorDiv int int") => `(tactic| (rename St _ _ _ _ => mS; refine s_fdiv mS (by omega) (by omega) ?_; intro tk s' S'; clear mS))
local macro_rules | `(tactic| walk_at "binaryOp Mod int int") => `(tactic| (rename St _ _ _ _ => mS; refine s_mod mS (by omega) ?_; intro tk s' S'; clear mS))
local macro_rules | `(tactic| walk_at "binaryOp Mult int int") => `(tactic| (rename St _ _ _ _ => mS; refine s_mul mS (by omega) ?_; intro tk s' S'; clear mS))
local macro_rules | `(tactic| walk_at "binaryOp Pow int int") => `(tactic| (rename St _ _ _ _ => mS; refine s_pow mS rfl (by omega) (by omega) ?_; intro tk s' S'; clear mS))
local macro_rules | `(tactic| walk_at "exec Raise") => `(tactic| (exfalso; first | contradiction | omega | (simp only [Int.emod_nonneg, decide_eq_true_eq, Bool.not_eq_true', decide_eq_false_iff_not] at *; omega)))
local macro_rules | `(tactic| walk_at "exec Assert") => `(tactic| (refine wpAny_Assert (by assumption) ?_))
local macro_rules | `(tactic| walk_at "m_st") => `(tactic| w_strict (repeat' (first
  | ((fail_if_success (with_reducible show wpAny _ _ (exec (Stmt.Try _ _ _ _ _) _) _ _ _)); (fail_if_success (with_reducible show wpAny _ _ (exec (Stmt.While _ _ _ _) _) _ _ _)); (fail_if_success (with_reducible show wpAny _ _ (exec (Stmt.For _ _ _ _ _) _) _ _ _)); (first | walk1 | (dsimp only; walk1))) | ((with_reducible refine unhide (by assumption) ?_); (try dsimp only)))))
local macro_rules | `(tactic| walk_at "m_ents") => `(tactic| first
  | assumption
  | (refine Ents.turn ?_ (by walk_at "m_H") (by intro xs z; cases z); walk_at "m_ents")
  | (refine Ents.fresh ?_ (by walk_at "m_none"); walk_at "m_ents"))
local macro_rules | `(tactic| walk_at "m_str") => `(tactic| first
  | assumption
  | (refine StreamAt.turn ?_ (by walk_at "m_H") (by rfl); walk_at "m_str")
  | (refine StreamAt.inst ?_ (by walk_at "m_H") (by rfl); walk_at "m_str")
  | (refine StreamAt.fresh ?_ (by walk_at "m_none"); walk_at "m_str"))
local macro_rules | `(tactic| walk_at "getMethod ref") => `(tactic| ((with_reducible show wpAny _ _ (getMethod (Value.ref _) (PySem.Str.ofString "append") _) _ _ _); rename St _ _ _ _ => mS; k_dflt (refine' list_meth mS ?e PySem.slot_list_append PySem.type_list_append ?_; (case e => walk_at "m_H"))))
local macro_rules | `(tactic| walk_at "call builtin:list.append") => `(tactic| (rename St _ _ _ _ => mS; k_dflt (refine' list_append mS ?e ?z ?_; (case e => walk_at "m_H"); (case z => walk_at "m_lz")); intro s' S'; clear mS; (try dsimp only [er] at S')))
local macro_rules | `(tactic| walk_at "m_lz") => `(tactic| first | omega | (simp only [List.length_map, List.length_append, List.length_cons, List.length_nil, List.length_replicate, List.length_range, List.length_set]; omega))
local macro_rules | `(tactic| walk_at "execs cons") => `(tactic| (refine execs_cons_h ?_; intro QS hQS))
theorem fill_frag : ∀ w : World, (MineTop.hd.heap_39 w.params) = (MineTop.hd.heap_39 w.params) ∧ PySem.Challenge.rw_bd0031_05 = PySem.Challenge.rw_bd0031_05 := by
  k_fill
  exact fun _ => ⟨rfl, rfl⟩
section
section
variable {w : World} {c : Cx PySem.Challenge.rw_bd0031_05.row.prog w (MineTop.hd.heap_39 w.params)} {envs : List Env} {H : AH} {A : Around} {E Q : Value → Shared → Prop} {s : Shared}
theorem lt_spec {x1 x2 : Nat} {i1 i2 : Int} {fs1 fs2 : List (Str × Value)}
    (S : St c envs H s) (R : Rm A 4 20) (hx1 : H x1 = some (.inst 253 fs1)) (hx2 : H x2 = some (.inst 253 fs2)) (hi1 : fs1.lookup ("stream_id" : Str) = some (Value.int i1 0)) (hi2 : fs2.lookup ("stream_id" : Str) = some (Value.int i2 0))
    (k : ∀ s', St c envs H s' → Q (.bool (decide (i1 < i2))) s') :
    wpAny (model PySem.Challenge.rw_bd0031_05.row.prog w) A (call (.ref 229) [.ref x1, .ref x2]) Q E s := by
  refine wpAny_call ?_
  k_dflt refine' code_fn (l := [("other", Value.ref x2), ("self", Value.ref x1)]) S R ?k1 ?k2 ?k3 ?k4 ?_ ?k6 ?k7 ?k8 ?k9 ?k10
  walk_at "m_in"
  intro L s1 hL S1
  have F0 := S.frs
  clear S
  refine hideQ ?_
  intro QF hQF
  refine hideE ?_
  intro EF hEF
  (try dsimp only)
  walk_at "m_go"
  all_goals ((try dsimp only); rename St _ _ _ _ => mS; exact k _ (mS.ret (by walk_at "m_sub") (by walk_at "m_frs")))
local macro_rules | `(tactic| walk_at "compareOp Lt ref") => `(tactic| (rename St _ _ _ _ => mS; refine cmp_ofLt ?_; k_dflt (refine' cmp_inst mS ?R ?L ?x ?y ?n ?s ?f ?_; (case R => walk_at "m_R"); (case L => walk_at "m_H"); (case x => walk_at "m_H"); (case y => walk_at "m_H"); (case n => k_is); (case s => k_is); (case f => k_is)); k_dflt (refine' lt_spec mS ?R ?x ?y ?a ?b ?_; (case R => walk_at "m_R"); (case x => walk_at "m_H"); (case y => walk_at "m_H"); (case a => walk_at "m_lk"); (case b => walk_at "m_lk")); intro s' S'; clear mS; (try dsimp only [PySem.W.CmpBack])))
theorem ahead_spec {t1 t2 x1 x2 : Nat} {l1 l2 i1 i2 : Int} {fs1 fs2 : List (Str × Value)}
    (S : St c envs H s) (R : Rm A 5 30) (h1 : H t1 = some (.tup [Value.int l1 0, Value.ref x1])) (h2 : H t2 = some (.tup [Value.int l2 0, Value.ref x2]))
    (hx1 : H x1 = some (.inst 253 fs1)) (hx2 : H x2 = some (.inst 253 fs2)) (hi1 : fs1.lookup ("stream_id" : Str) = some (Value.int i1 0)) (hi2 : fs2.lookup ("stream_id" : Str) = some (Value.int i2 0))
    (k : ∀ b s', St c envs H s' → b = decide (l1 < l2 ∨ (l1 = l2 ∧ i1 < i2)) → Q (.bool b) s') :
    wpAny (model PySem.Challenge.rw_bd0031_05.row.prog w) A (call (.ref 28) [.ref t1, .ref t2]) Q E s := by
  refine wpAny_call ?_
  k_dflt refine' code_fn (l := [("other", Value.ref t2), ("one", Value.ref t1)]) S R ?k1 ?k2 ?k3 ?k4 ?_ ?k6 ?k7 ?k8 ?k9 ?k10
  walk_at "m_in"
  intro L s1 hL S1
  have F0 := S.frs
  clear S
  refine hideQ ?_
  intro QF hQF
  refine hideE ?_
  intro EF hEF
  (try dsimp only)
  walk_at "m_go"
  all_goals ((try dsimp only); rename St _ _ _ _ => mS; exact k _ _ (mS.ret (by walk_at "m_sub") (by walk_at "m_frs")) (by walk_at "m_ar"))
end
end
section
section
variable {w : World} {c : Cx PySem.Challenge.rw_bd0031_05.row.prog w (MineTop.hd.heap_39 w.params)} {envs : List Env} {H : AH} {A : Around} {E Q : Value → Shared → Prop} {s : Shared}
local macro_rules | `(tactic| walk_at "getMethod ref") => `(tactic| ((with_reducible show wpAny _ _ (getMethod (Value.ref _) (PySem.Str.ofString "insert") _) _ _ _); rename St _ _ _ _ => mS; k_dflt (refine' list_meth mS ?e PySem.F.slot_list_insert PySem.F.type_list_insert ?_; (case e => walk_at "m_H"))))
local macro_rules | `(tactic| walk_at "call builtin:list.insert") => `(tactic| (rename St _ _ _ _ => mS; k_dflt (refine' list_insert mS ?e ?a ?b ?z ?_; (case e => walk_at "m_H"); (case a => omega); (case b => simp only [List.length_map]; omega); (case z => simp only [List.length_map]; omega)); intro s' S'; clear mS))
local macro_rules | `(tactic| walk_at "call ref") => `(tactic| (rename St _ _ _ _ => mS; k_dflt (refine' ahead_spec mS ?R ?h1 ?h2 ?x1 ?x2 ?i1 ?i2 ?_; (case R => walk_at "m_R"); (case h1 => walk_at "m_H"); (case h2 => walk_at "m_H"); (case x1 => walk_at "m_H"); (case x2 => walk_at "m_H"); (case i1 => walk_at "m_lk"); (case i2 => walk_at "m_lk")); intro b s' S' hb; clear mS; subst hb))
theorem heappush_spec {P : Pl} {q t : Nat} {ts : List Nat} {es : List (Int × Int)} {e : Int × Int} (S : St c envs H s) (R : Rm A 8 60) (hq : H q = some (.list (ts.map .ref))) (hz : es.length ≤ 5000) (he : Ents P H ts es)
    (hs : ∀ x ∈ es, StreamAt 253 P H x.2) (ht : H t = some (.tup [.int e.1 0, .ref (P.D e.2)])) (hse : StreamAt 253 P H e.2)
    (k : ∀ s', St c envs (upd H q (.list ((put (place (klt e) es) t ts).map .ref))) s' → Q .none s') :
    wpAny (model PySem.Challenge.rw_bd0031_05.row.prog w) A (call (.ref 35) [.ref q, .ref t]) Q E s := by
  have hl := he.len
  have hlm : (ts.map Value.ref).length = es.length := by rw [List.length_map, hl]
  refine wpAny_call ?_
  k_dflt refine' code_fn (l := [("item", Value.ref t), ("queue", Value.ref q)]) S R ?k1 ?k2 ?k3 ?k4 ?_ ?k6 ?k7 ?k8 ?k9 ?k10
  walk_at "m_in"
  intro L s1 hL S1
  have F0 := S.frs
  clear S
  refine hideQ ?_
  intro QF hQF
  refine hideE ?_
  intro EF hEF
  (try dsimp only)
  obtain ⟨e₀, S1⟩ : ∃ e₀, St c (e₀ :: envs) _ s1 := ⟨_, S1⟩
  have F1 := S1.frs
  walk_at "m_st"
  refine while_ (fun n s' => n ≤ es.length ∧ place (klt e) es = place (klt e) (es.take n) ∧
    St c (e₀ :: envs) (upd H L (.ns [("place", Value.int n 0), ("item", Value.ref t), ("queue", Value.ref q)])) s') ?_ (ts.map Value.ref).length ⟨by omega, by rw [hlm, List.take_length], ?_⟩
  case refine_2 =>
    rename St _ _ _ _ => mS
    exact mS.sub (by walk_at "m_sub") (by walk_at "m_frs")
  case refine_1 =>
    rintro n s' ⟨hn, hp, S'⟩
    obtain ⟨fs1, b1, c1⟩ := hse
    cases n with
    | zero =>
      have hpl : place (klt e) es = 0 := by rw [hp]; simp [place]
      rw [hpl] at k
      walk_at "m_go"
      all_goals ((try dsimp only); rename St _ _ _ _ => mS; exact k _ (mS.ret (by walk_at "m_sub") (by walk_at "m_frs")))
    | succ m =>
      have hm : m < es.length := by omega
      obtain ⟨fs2, b2, c2⟩ := hs es[m] (List.getElem_mem hm)
      obtain ⟨t2, g2, a2⟩ := he.get m hm
      have hget : (ts.map Value.ref)[(((m + 1 : Nat) : Int) - 1).toNat]? = some (.ref t2) := by
        rw [show (((m + 1 : Nat) : Int) - 1).toNat = m from by omega, List.getElem?_map, g2]; rfl
      have htk : es.take (m + 1) = es.take m ++ [es[m]] := List.take_succ_eq_append_getElem hm
      rw [htk, place_snoc] at hp
      generalize es[m] = e2 at hp a2 b2 c2
      walk_at "m_go"
      · rename St _ _ _ _ => mS
        have hk : klt e e2 = true := by unfold klt; exact decide_eq_true (by assumption)
        exact ⟨m, by omega, by omega, by rw [hp, if_pos hk], mS.sub (by walk_at "m_sub") (by walk_at "m_frs")⟩
      · have hk : ¬ klt e e2 = true := by unfold klt; simp only [decide_eq_true_eq]; assumption
        rw [hp, if_neg hk, List.length_take, Nat.min_eq_left (by omega)] at k
        try simp only [put, List.map_append, List.map_cons, List.map_take, List.map_drop] at k
        all_goals ((try dsimp only); rename St _ _ _ _ => mS; exact k _ (mS.ret (by walk_at "m_sub") (by walk_at "m_frs")))
      · omega
end
end
section
section
variable {w : World} {c : Cx PySem.Challenge.rw_bd0031_05.row.prog w (MineTop.hd.heap_39 w.params)} {envs : List Env} {H : AH} {A : Around} {E Q : Value → Shared → Prop} {s : Shared}
local macro_rules | `(tactic| walk_at "getMethod ref") => `(tactic| ((with_reducible show wpAny _ _ (getMethod (Value.ref _) (PySem.Str.ofString "pop") _) _ _ _); rename St _ _ _ _ => mS; k_dflt (refine' list_meth mS ?e PySem.F.slot_list_pop PySem.F.type_list_pop ?_; (case e => walk_at "m_H"))))
theorem heappop_spec {q : Nat} {x : Value} {xs : List Value} (S : St c envs H s) (R : Rm A 4 20) (hq : H q = some (.list (x :: xs))) (hz : xs.length ≤ 5000)
    (k : ∀ v s', er v = x → St c envs (upd H q (.list xs)) s' → Q v s') :
    wpAny (model PySem.Challenge.rw_bd0031_05.row.prog w) A (call (.ref 42) [.ref q]) Q E s := by
  refine wpAny_call ?_
  k_dflt refine' code_fn (l := [("queue", Value.ref q)]) S R ?k1 ?k2 ?k3 ?k4 ?_ ?k6 ?k7 ?k8 ?k9 ?k10
  walk_at "m_in"
  intro L s1 hL S1
  have F0 := S.frs
  clear S
  refine hideQ ?_
  intro QF hQF
  refine hideE ?_
  intro EF hEF
  (try dsimp only)
  walk_at "m_go"
  rename St _ _ _ _ => mS
  refine list_pop0 mS (x := x) (xs := xs) (by walk_at "m_H") (by omega) ?_
  intro v s' hv S'
  clear mS
  walk_at "m_go"
  exact k _ _ hv (S'.ret (by walk_at "m_sub") (by walk_at "m_frs"))
theorem heappop_empty {q : Nat} (S : St c envs H s) (R : Rm A 4 20) (hA : A.frames = some envs) (hh : A.handled = none) (hq : H q = some (.list []))
    (kE : ∀ e s', FlyT c envs H e (.type "IndexError") none s' → E (.ref e) s') :
    wpAny (model PySem.Challenge.rw_bd0031_05.row.prog w) A (call (.ref 42) [.ref q]) Q E s := by
  refine wpAny_call ?_
  k_dflt refine' code_fn (l := [("queue", Value.ref q)]) S R ?k1 ?k2 ?k3 ?k4 ?_ ?k6 ?k7 ?k8 ?k9 ?k10
  walk_at "m_in"
  intro L s1 hL S1
  have F0 := S.frs
  clear S
  refine hideQ ?_
  intro QF hQF
  refine hideE ?_
  intro EF hEF
  (try dsimp only)
  walk_at "m_go"
  rename St _ _ _ _ => mS
  refine list_pop0_empty mS ?_ (by walk_at "m_H") ?_
  · exact hh
  intro x s' F
  clear mS
  refine unhide hEF ?_
  refine fly_leave F (Around.frames_deeper hA) rfl fun s2 F2 => ?_
  exact kE _ _ (F2.sub (by walk_at "m_sub") F0)
end
end
section
section
variable {w : World} {c : Cx PySem.Challenge.rw_bd0031_05.row.prog w (MineTop.hd.heap_39 w.params)} {envs : List Env} {H : AH} {A : Around} {E Q : Value → Shared → Prop} {s : Shared}
theorem weight_get {a : Nat} {v : Int} {fs : List (Str × Value)} {R : Result → Shared → Prop} (S : St c envs H s) (Ro : Rm A 4 20) (ha : H a = some (.inst 253 fs)) (hw : fs.lookup ("_weight" : Str) = some (.int v 0))
    (k : ∀ tk s', St c envs H s' → R (.ok (.ret (.int v tk))) s') : codeAny (model PySem.Challenge.rw_bd0031_05.row.prog w) A (.call (.ref 162) ⟨[.ref a], []⟩) R s := by
  k_dflt refine' code_fn (l := [("self", Value.ref a)]) S Ro ?k1 ?k2 ?k3 ?k4 ?_ ?k6 ?k7 ?k8 ?k9 ?k10
  walk_at "m_in"
  intro L s1 hL S1
  have F0 := S.frs
  clear S
  refine hideQ ?_
  intro QF hQF
  refine hideE ?_
  intro EF hEF
  (try dsimp only)
  walk_at "m_go"
  all_goals ((try dsimp only); rename St _ _ _ _ => mS; exact k _ _ (mS.ret (by walk_at "m_sub") (by walk_at "m_frs")))
theorem weight_set {a : Nat} {v : Int} {tv : Tok} {fs : List (Str × Value)} {R : Result → Shared → Prop} (S : St c envs H s) (Ro : Rm A 4 20) (ha : H a = some (.inst 253 fs)) (hz : fs.length ≤ 1000) (h1 : 1 ≤ v) (h2 : v ≤ 256)
    (k : ∀ r s', St c envs (upd H a (.inst 253 (setk "_weight" (.int v 0) fs))) s' → R (.ok (.ret r)) s') : codeAny (model PySem.Challenge.rw_bd0031_05.row.prog w) A (.call (.ref 171) ⟨[.ref a, .int v tv], []⟩) R s := by
  k_dflt refine' code_fn (l := [("value", Value.int v 0), ("self", Value.ref a)]) S Ro ?k1 ?k2 ?k3 ?k4 ?_ ?k6 ?k7 ?k8 ?k9 ?k10
  walk_at "m_in"
  intro L s1 hL S1
  have F0 := S.frs
  clear S
  refine hideQ ?_
  intro QF hQF
  refine hideE ?_
  intro EF hEF
  (try dsimp only)
  walk_at "m_go"
  all_goals ((try dsimp only); rename St _ _ _ _ => mS; exact k _ _ (mS.ret (by walk_at "m_sub") (by walk_at "m_frs")))
end
end
section
section
variable {w : World} {c : Cx PySem.Challenge.rw_bd0031_05.row.prog w (MineTop.hd.heap_39 w.params)}
local macro_rules | `(tactic| walk_at "getAttr ref") => `(tactic| ((with_reducible show wpAny _ _ (getAttr (Value.ref _) (PySem.Str.ofString "weight") _) _ _ _); rename St _ _ _ _ => mS; k_dflt (refine' at_prop mS ?e ?g ?h ?a ?n ?t ?p ?_; (case e => walk_at "m_H"); (case g => k_is); (case h => k_is); (case a => k_is); (case n => k_is); (case t => k_is); (case p => k_is)); intro s1 S1; clear mS; k_dflt (refine' weight_get S1 ?R ?x ?l ?_; (case R => walk_at "m_R"); (case x => walk_at "m_H"); (case l => walk_at "m_lk")); intro tk s2 S2; clear S1; (try dsimp only); refine wpAny_pure ?_))
inductive FinPre (P : Pl) (rk : Int → Nat) (i : Int) (e₀ : List Env) (L pl : Nat) (A' : Around) (Q' : Flow → Shared → Prop) (s' : Shared) : Prop
  | mk (F' G' : AH) (M' : Mo) (pp : List (Int × Int)) (tsp : List Nat) (nx : Value) (d : Nd) (h1 : Rm A' 14 120) (h2 : Hd A' F') (h3 : Frs e₀ F') (h4 : Dj F' G') (h5 : Tree 253 P M' G') (h6 : OkM rk M') (h7 : M' i = some d) (h8 : d.q.length + pp.length ≤ 1000) (h9 : ∀ e ∈ pp, (∃ m, M' e.2 = some m) ∧ rk e.2 < rk i)
    (h10 : F' pl = some (.list (tsp.map .ref))) (h11 : F' L = some (.ns [("next_stream", nx), ("popped_streams", .ref pl), ("self", .ref (P.D i))])) (h12 : Ents P G' tsp pp) (h13 : St c e₀ (join F' G') s')
    (h14 : ∀ G'' s'', Dj F' G'' → Tree 253 P (fin i pp M') G'' → Tups G' G'' → St c e₀ (join F' G'') s'' → Q' .next s'') : FinPre P rk i e₀ L pl A' Q' s'
inductive SchInv (c : Cx PySem.Challenge.rw_bd0031_05.row.prog w (MineTop.hd.heap_39 w.params)) (P : Pl) (rk : Int → Nat) (n : Nat) (i : Int) (q : List (Int × Int)) (M : Mo) (F G : AH) (ev : List Env) (L pl : Nat) (m : Nat) (s' : Shared) : Prop
  | mk (pp : List (Int × Int)) (Mc : Mo) (Gc : AH) (tsp : List Nat) (nx : Option Int) (dc : Nd) (h1 : m = dc.q.length) (h2 : Mc i = some dc)
    (h3 : (nx = none ∧ goL (sched n) i q M [] = goL (sched n) i dc.q Mc pp) ∨ ∃ x, nx = some x ∧ goL (sched n) i q M [] = (some x, Mc, pp))
    (h4 : Res rk i M Mc) (h5 : dc.q.length + pp.length = q.length) (h6 : ∀ e ∈ pp, e ∈ q) (h7 : ∀ e ∈ dc.q, e ∈ q)
    (h8 : Dj (upd (upd F pl (.list (tsp.map .ref))) L (.ns [("next_stream", nx.elim .none (.int · 0)), ("popped_streams", .ref pl), ("self", .ref (P.D i))])) Gc) (h9 : Tree 253 P Mc Gc) (h10 : Tups G Gc) (h11 : Ents P Gc tsp pp)
    (h12 : St c ev (join (upd (upd F pl (.list (tsp.map .ref))) L (.ns [("next_stream", nx.elim .none (.int · 0)), ("popped_streams", .ref pl), ("self", .ref (P.D i))])) Gc) s') : SchInv c P rk n i q M F G ev L pl m s'
theorem sched_spec (P : Pl) (rk : Int → Nat) : ∀ (n : Nat) {M : Mo} {F G : AH} {i : Int} {nd : Nd} {A : Around} {E Q : Value → Shared → Prop} {s : Shared} {envs : List Env} (S : St c envs (join F G) s) (R : Rm A (20 * n + 20) (200 * n + 200)) (hA : A.frames = some envs) (hh : A.handled = none)
    (fF : Frs envs F) (dj : Dj F G) (t : Tree 253 P M G) (ok : OkM rk M) (hi : M i = some nd) (hr : rk i < n) (ha : nd.act = false)
    (k : ∀ v x M' G' s', er v = .int x 0 → sched n M i = (some x, M') → Dj F G' → Tree 253 P M' G' → Tups G G' → St c envs (join F G') s' → Q v s')
    (kE : ∀ e M' G' s', sched n M i = (none, M') → Dj F G' → Tree 253 P M' G' → Tups G G' → FlyT c envs (join F G') e (.type "IndexError") none s' → E (.ref e) s'),
    wpAny (model PySem.Challenge.rw_bd0031_05.row.prog w) A (call (.ref 201) [.ref (P.D i)]) Q E s
  | 0, M, F, G, i, nd, A, E, Q, s, envs, S, R, hA, hh, fF, dj, t, ok, hi, hr, ha, k, kE => by omega
  | n + 1, M, F, G, i, nd, A, E, Q, s, envs, S, R, hA, hh, fF, dj, t, ok, hi, hr, ha, k, kE => by
    obtain ⟨wt, kids, par, q, act, lw, df⟩ := nd
    simp only at ha
    subst ha
    have hself := join_r dj (t.inst i _ hi)
    refine wpAny_call ?_
    k_dflt refine' code_fn (l := [("self", Value.ref (P.D i))]) S R ?k1 ?k2 ?k3 ?k4 ?_ ?k6 ?k7 ?k8 ?k9 ?k10
    walk_at "m_in"
    intro L s1 hL S1
    have F0 := S.frs
    clear S
    refine hideQ ?_
    intro QF hQF
    refine hideE ?_
    intro EF hEF
    (try dsimp only)
    walk_at "m_st"
    rename St _ _ _ _ => mS
    rename (upd _ _ _ _ = none) => hp
    rename Nat => pl
    have hpL : pl ≠ L := none_ne hp
    have hp := none_up (none_up hp)
    have mS' := mS.env
    clear mS
    obtain ⟨ev, hev, mS⟩ := mS'
    refine with_fin (FinPre (c := c) P rk i ev L pl) ?_ ?_
    case refine_1 =>
      clear hp hpL mS k kE hself hi t dj hL F0 fF
      rintro A' E' Q' s' ⟨F', G', M', pp, tsp, nx, d, R', hd, fF, dj, t, ok', hi, hz, hpp, hpl, hL, hE, S', k⟩
      have hLj := join_l (G := G') hL
      walk_at "m_st"
      refine wpAny_For ?_
      walk1
      rename St _ _ _ _ => S'
      refine for_list_h (tsp.map .ref) (fun j Hc => ∃ G1, Hc = join F' G1 ∧ Dj F' G1 ∧ Tree 253 P (fin i (pp.take j) M') G1 ∧ Tups G' G1) S' ⟨G', rfl, dj, t, Tups.refl G'⟩ ?_ ?_ ?_ ?_
      · rintro j _ ⟨G1, rfl, d1, t1, u1⟩; exact join_l hpl
      · rintro j _ ⟨G1, rfl, d1, t1, u1⟩
        exact hd.sub (fun a o q => ⟨o, join_l q, .inl rfl⟩)
      · rintro it j _ s1 v x ⟨G1, rfl, dj1, t1, u1⟩ hit hpl1 hx hv S1 QB EB hQB
        rw [List.getElem?_map] at hx
        obtain ⟨tj, htj, rfl⟩ := Option.map_eq_some_iff.mp hx
        have hv := er_ref hv
        subst hv
        have hlt : j < pp.length := by
          have := (List.getElem?_eq_some_iff.mp htj).1
          rw [hE.len] at this; exact this
        obtain ⟨t0, ht0, hG⟩ := hE.get j hlt
        rw [htj] at ht0; cases ht0
        have hge : pp[j]? = some pp[j] := List.getElem?_eq_getElem hlt
        generalize pp[j] = e at hG hge
        have hpe := hpp e (List.mem_of_getElem? hge)
        have hGt := join_r dj1 (u1 _ _ hG)
        have hz1 : d.q.length + (pp.take j).length ≤ 1000 := by rw [List.length_take]; omega
        have hpp1 : ∀ e ∈ pp.take j, (∃ m, M' e.2 = some m) ∧ rk e.2 < rk i := fun x hx => hpp x (List.mem_of_mem_take hx)
        have RM := Res.fin (pp.take j) ok' hi hpp1 hz1
        obtain ⟨d1, hd1, hl1⟩ := fin_self (pp.take j) ok' hi hpp1 hz1
        obtain ⟨n1, hn1⟩ : ∃ n1, fin i (pp.take j) M' e.2 = some n1 := by
          obtain ⟨m, hm⟩ := hpe.1
          obtain ⟨m', hm', _⟩ := RM.like.fw _ m hm
          exact ⟨m', hm'⟩
        have hne : e.2 ≠ i := fun z => by have := hpe.2; rw [z] at this; omega
        have hnD : P.D e.2 ≠ P.D i := fun z => hne (t1.dd hn1 hd1 z)
        obtain ⟨ts1, hq1, he1⟩ := t1.ql i _ hd1
        have b1 := RM.ok.ok _ _ hn1
        have b2 := RM.ok.ok _ _ hd1
        have hself := join_r dj1 (t1.inst i _ hd1)
        have hch := join_r dj1 (t1.inst e.2 _ hn1)
        have hql := join_r dj1 hq1
        have hLj := join_l (G := G1) hL
        have he1' : Ents P (join F' G1) ts1 d1.q := he1.mono fun a xs q => join_r dj1 q
        have hs1 : ∀ x ∈ d1.q, StreamAt 253 P (join F' G1) x.2 := fun x hx => by
          obtain ⟨m, hm⟩ := (b2.2.2.2.2.2 x hx).1
          exact ⟨_, join_r dj1 (t1.inst _ _ hm), rfl⟩
        have nQp : P.QL i ≠ pl := fun z => by rw [z] at hq1; rw [dj1 _ _ hq1] at hpl; cases hpl
        have TS := fun t' h' => t1.fstep (t' := t') (ts := ts1) (e := e) hd1 hn1 hne h' hq1 he1
        rw [← fin_take hge] at TS
        have k1 : F' (P.D i) = none := dj1 _ _ (t1.inst i _ hd1)
        have k2 : F' (P.D e.2) = none := dj1 _ _ (t1.inst e.2 _ hn1)
        have k3 : F' (P.QL i) = none := dj1 _ _ hq1
        have hl2 : d1.q.length ≤ 1000 := b2.2.2.2.2.1
        have w1 := b1.1
        have w2 := b1.2.1
        have w3 := b1.2.2.1
        have w4 := b1.2.2.2.1
        have ne1 : L ≠ P.D i := ne_kind hLj hself (by intro z; cases z)
        have ne2 : L ≠ P.D e.2 := ne_kind hLj hch (by intro z; cases z)
        have ne3 : L ≠ P.QL i := ne_kind hLj hql (by intro z; cases z)
        have ne4 : P.D i ≠ P.QL i := ne_kind hself hql (by intro z; cases z)
        have ne5 : P.D e.2 ≠ P.QL i := ne_kind hch hql (by intro z; cases z)
        have ne6 : L ≠ it := ne_fresh hit hLj
        have ne7 : P.D i ≠ it := ne_fresh hit hself
        have ne8 : P.D e.2 ≠ it := ne_fresh hit hch
        have ne9 : P.QL i ≠ it := ne_fresh hit hql
        have ne10 : pl ≠ it := ne_fresh hit hpl1
        have ne11 : pl ≠ L := ne_kind hpl1 hLj (by intro z; cases z)
        have ne12 : pl ≠ P.D i := ne_kind hpl1 hself (by intro z; cases z)
        have ne13 : pl ≠ P.D e.2 := ne_kind hpl1 hch (by intro z; cases z)
        refine unpack2 S1 (upd_other (by walk_at "m_ne") hGt) ((hd.sub (fun a o q => ⟨o, join_l q, .inl rfl⟩)).fresh (by assumption)) ?_
        intro v1 v2 s2 h1 h2 S2
        clear S1
        obtain ⟨tk1, rfl⟩ := er_int h1
        have h2 := er_ref h2
        subst h2
        walk_at "m_st"
        rename St _ _ _ _ => mS
        have hse : StreamAt 253 P (join F' G1) e.2 := ⟨_, hch, rfl⟩
        rename (upd _ _ _ _ = none) => ht'
        rename Nat => t'
        refine heappush_spec (P := P) (ts := ts1) (es := d1.q) (e := (e.1 + (256 + n1.df) / n1.wt, e.2)) mS (by walk_at "m_R") (by walk_at "m_H") (by omega) (by walk_at "m_ents") ?_ (by walk_at "m_H") (by walk_at "m_str") ?_
        · intro x hx
          have := hs1 x hx
          walk_at "m_str"
        intro s3 S3
        have ht1 : join F' G1 t' = none := by walk_at "m_none1"
        obtain ⟨hf, hg⟩ := join_none ht1
        walk_at "m_st"
        rename St _ _ _ _ => S3
        have d4 := (((dj1.r (o := .inst 253 (flds P i { d1 with lw := e.1 })) k1).r (o := .inst 253 (flds P e.2 { n1 with df := (256 + n1.df) % n1.wt })) k2).r (o := .tup [.int (e.1 + (256 + n1.df) / n1.wt) 0, .ref (P.D e.2)]) hf).r (o := .list ((put (place (klt (e.1 + (256 + n1.df) / n1.wt, e.2)) d1.q) t' ts1).map .ref)) k3
        have i1 := t1.inst i _ hd1
        have i2 := t1.inst e.2 _ hn1
        have q1 : t' ≠ P.D i := (ne_fresh hg i1).symm
        have q2 : t' ≠ P.D e.2 := (ne_fresh hg i2).symm
        have q3 : P.QL i ≠ t' := ne_fresh hg hq1
        have q4 : it ≠ P.D i := Ne.symm ne7
        have q5 : t' ≠ it := none_ne (H := join F' G1) (o := .iter pl (j + 1)) (by walk_at "m_none1")
        refine hQB _ ?_
        refine LoopAt.mk ⟨_, rfl, d4, TS t' hg, (((u1.upd i1 (by intro xs z; cases z)).upd (upd_other hnD i2) (by intro xs z; cases z)).fresh (upd_other q2 (upd_other q1 hg))).upd (upd_other q3 (upd_other (Ne.symm ne5) (upd_other (Ne.symm ne4) hq1))) (by intro xs z; cases z)⟩ ?_ ?_
        · rw [← upd_join_r k3, ← upd_join_r hf, ← upd_join_r k2, ← upd_join_r k1]
          exact upd_other (Ne.symm ne9) (upd_other (Ne.symm q5) (upd_other (Ne.symm ne8) (upd_other q4 hit)))
        · rw [← upd_join_r k3, ← upd_join_r hf, ← upd_join_r k2, ← upd_join_r k1]
          exact S3.sub (by walk_at "m_sub") (by walk_at "m_frs")
      · rintro _ s1 ⟨G1, rfl, d1, t1, u1⟩ S1 QB EB hQB
        rw [List.length_map, hE.len, List.take_length] at t1
        walk_at "m_st"
        rename St _ _ _ _ => S1
        exact k _ _ d1 t1 u1 S1
    case refine_2 =>
      intro finl
      refine wpAny_Try_finally ?_
      obtain ⟨fp, gp⟩ := join_none hp
      obtain ⟨fl, gl⟩ := join_none hL
      have FF : ∀ X Y, Frs ev (upd (upd F pl (.list X)) L (.ns Y)) := fun X Y => by
        rw [hev]
        exact Frs.cons ((fF.fresh fp).fresh (upd_other (Ne.symm hpL) fl)) (upd_self ..) rfl (fun z => absurd z (show ScopeKind.function ≠ .module by decide))
      have S2 := mS.sub (envs' := ev) (H := upd (upd (join F G) pl (.list [])) L (.ns [("next_stream", .none), ("popped_streams", .ref pl), ("self", .ref (P.D i))])) (by walk_at "m_sub") (by rw [upd_join, upd_join]; exact (FF _ _).join)
      clear mS F0
      rw [upd_join, upd_join] at S2
      walk1
      refine while_h (SchInv c P rk n i q M F G ev L pl) ?_ q.length
        ⟨[], M, G, [], none, _, rfl, hi, .inl ⟨rfl, rfl⟩, Res.refl ok, by simp, (fun e he => by cases he), (fun e he => he), (dj.l gp).l gl, t, Tups.refl G, trivial, S2⟩
      rintro m s2 ⟨pp, Mc, Gc, tsp, nx, dc, rfl, hc, hrel, RM, hlen, hmem, hqm, djc, tc, uc, hE, S3⟩
      intro QB QE EE hQB hQE hEE
      obtain ⟨FN, hFN⟩ : ∃ FN, FN = upd (upd F pl (.list (tsp.map .ref))) L (.ns [("next_stream", nx.elim .none (.int · 0)), ("popped_streams", .ref pl), ("self", .ref (P.D i))]) := ⟨_, rfl⟩
      rw [← hFN] at djc S3
      have hpF : FN pl = some (.list (tsp.map .ref)) := by rw [hFN]; exact upd_other hpL (upd_self ..)
      have hLF : FN L = some (.ns [("next_stream", nx.elim .none (.int · 0)), ("popped_streams", .ref pl), ("self", .ref (P.D i))]) := by rw [hFN]; exact upd_self ..
      have fFN : Frs ev FN := by rw [hFN]; exact FF _ _
      have hpn := join_l (G := Gc) hpF
      have hLn := join_l (G := Gc) hLF
      have gpl : Gc pl = none := djc.has hpF
      have gL : Gc L = none := djc.has hLF
      have hself' := join_r djc (tc.inst i _ hc)
      obtain ⟨ts, hq1, hEq⟩ := tc.ql i _ hc
      have hql := join_r djc hq1
      have ne1 : L ≠ P.D i := ne_kind hLn hself' (by intro z; cases z)
      have ne2 : L ≠ P.QL i := ne_kind hLn hql (by intro z; cases z)
      have ne3 : P.D i ≠ P.QL i := ne_kind hself' hql (by intro z; cases z)
      have ne4 : pl ≠ P.D i := ne_kind hpn hself' (by intro z; cases z)
      have ne5 : pl ≠ P.QL i := fun z => by rw [z, hq1] at gpl; cases gpl
      have kQ : FN (P.QL i) = none := djc _ _ hq1
      have okc := RM.ok.ok i _ hc
      clear hself S2 hL hp
      have okq := ok.ok i _ hi
      have hppq : ∀ e ∈ pp, (∃ m, Mc e.2 = some m) ∧ rk e.2 < rk i := fun e he => by
        obtain ⟨⟨m, hm⟩, hr'⟩ := okq.2.2.2.2.2 e (hmem e he)
        obtain ⟨m', hm', _⟩ := RM.like.fw _ m hm
        exact ⟨⟨m', hm'⟩, hr'⟩
      have hq1000 : q.length ≤ 1000 := okq.2.2.2.2.1
      have htl := hE.len
      have hFFN : Sub F FN := by rw [hFN]; exact ((Sub.refl F).fresh fp).fresh fl
      cases nx with
      | some x =>
        simp only [Option.elim_some] at hLF hLn
        w_strict (repeat' (first | with_reducible refine finl _ _ _ _ ?_ | walk1 | (dsimp only; walk1) | ((with_reducible refine unhide (by assumption) ?_); (try dsimp only))))
        rename St _ _ _ _ => S4
        have hgo : goL (sched n) i q M [] = (some x, Mc, pp) := by
          rcases hrel with ⟨z, _⟩ | ⟨y, z, hy⟩
          · cases z
          · cases z; exact hy
        refine ⟨FN, Gc, Mc, pp, tsp, .int x 0, dc, by walk_at "m_R", .inl hh, fFN, djc, tc, RM.ok, hc, by have := okq.2.2.2.2.1; simp only at this; omega, hppq, hpF, hLF, hE, S4, fun G2 s6 d2 t2 u2 S6 => ?_⟩
        have hLn := join_l (G := G2) hLF
        walk_at "m_st"
        (try dsimp only)
        rename St _ _ _ _ => S6
        exact k _ x _ G2 _ rfl (sched_eq n hi hgo) (d2.sub hFFN) t2 (uc.trans u2) (S6.sub (sub_join d2 hFFN) fF.join)
      | none =>
        simp only [Option.elim_none] at hLF hLn
        walk_at "m_st"
        cases hcq : dc.q with
        | nil =>
          rw [hcq] at hEq
          cases ts with
          | cons _ _ => exact hEq.elim
          | nil =>
          rename St _ _ _ _ => S4
          refine heappop_empty S4 (by walk_at "m_R") (by rw [hev]; exact Around.frames_deeper hA) hh (by walk_at "m_H") ?_
          intro e s5 F5
          rw [hev] at F5
          refine unhide hEE ?_
          refine fly_noted (.inl F5) (Around.frames_deeper hA) rfl fun s6 F6 => ?_
          refine fly_came F6 fun s7 F7 => ?_
          refine fly_note (.inl F7) (Around.frames_deeper hA) rfl fun s8 F8 => ?_
          refine fin_raised (.inl F8) (Around.frames_deeper hA) rfl fun T s9 he hT hTe S9 => ?_
          refine finl _ _ _ _ ?_
          obtain ⟨fe, ge⟩ := join_none he
          obtain ⟨fT, gT⟩ := join_none hT
          rw [upd_join, upd_join, ← hev] at S9
          have hgo : goL (sched n) i q M [] = (none, Mc, pp) := by
            rcases hrel with ⟨_, z⟩ | ⟨y, z, hy⟩
            · rw [z, hcq]; rfl
            · cases z
          have fe2 : upd FN T .tb e = none := upd_other (Ne.symm hTe) fe
          have nL : L ≠ e := ne_fresh fe hLF
          have nL2 : L ≠ T := ne_fresh fT hLF
          have np : pl ≠ e := ne_fresh fe hpF
          have np2 : pl ≠ T := ne_fresh fT hpF
          refine ⟨_, Gc, Mc, pp, tsp, .none, dc, by walk_at "m_R", .inr ⟨e, _, _, _, rfl, upd_self .., .inl rfl⟩, (fFN.fresh fT).fresh fe2, (djc.l gT).l ge, tc, RM.ok, hc, by omega, hppq, upd_other np (upd_other np2 hpF), upd_other nL (upd_other nL2 hLF), hE, S9, fun G2 s6 d2 t2 u2 S6 => ?_⟩
          have d3 : Dj FN G2 := d2.sub (((Sub.refl FN).fresh fT).fresh fe)
          have g2e : G2 e = none := d2.has (upd_self ..)
          have g2T : G2 T = none := d2.has (upd_other hTe (upd_self ..))
          rw [← upd_join, ← upd_join] at S6
          have F6 : FlyT c ev (join FN G2) e _ none s6 := FlyT.close S6 ((join_n fe).trans g2e) ((join_n fT).trans g2T) hTe
          refine fly_passOn F6 fun s7 F7 => ?_
          rw [hev] at F7
          refine unhide hEF ?_
          refine fly_leave (.inl F7) (Around.frames_deeper hA) rfl fun s8 F8 => ?_
          exact kE e _ G2 _ (sched_eq n hi hgo) (d3.sub hFFN) t2 (uc.trans u2) (F8.sub (sub_join d3 hFFN) fF.join)
        | cons e r =>
          rw [hcq] at hEq
          cases ts with
          | nil => exact hEq.elim
          | cons t0 ts' =>
          rename St _ _ _ _ => S4
          refine heappop_spec S4 (by walk_at "m_R") (x := .ref t0) (xs := ts'.map .ref) (by walk_at "m_H") ?_ ?_
          · have := hEq.2.len
            rw [hcq] at okc
            simp only [List.length_cons] at okc
            rw [List.length_map, this]; omega
          intro v s5 hv S5
          have hv := er_ref hv
          subst hv
          clear S4
          have hT0 := join_r djc hEq.1
          obtain ⟨⟨n1, hn1⟩, hre⟩ := okc.2.2.2.2.2 e (by rw [hcq]; exact .head _)
          obtain ⟨wt1, kids1, par1, q1, act1, lw1, df1⟩ := n1
          have hch := join_r djc (tc.inst e.2 _ hn1)
          have ne6 : L ≠ t0 := ne_kind hLn hT0 (by intro z; cases z)
          have ne7 : pl ≠ t0 := ne_kind hpn hT0 (by intro z; cases z)
          have ne8 : P.QL i ≠ t0 := ne_kind hql hT0 (by intro z; cases z)
          have ne9 : L ≠ P.D e.2 := ne_kind hLn hch (by intro z; cases z)
          have ne10 : pl ≠ P.D e.2 := ne_kind hpn hch (by intro z; cases z)
          have ne11 : P.QL i ≠ P.D e.2 := ne_kind hql hch (by intro z; cases z)
          walk_at "m_st"
          rename St _ _ _ _ => S6
          refine unpack2 S6 (x := .int e.1 0) (y := .ref (P.D e.2)) (by walk_at "m_H") (.inl hh) ?_
          intro v1 v2 s7 h1 h2 S7
          clear S6
          obtain ⟨tk1, rfl⟩ := er_int h1
          have h2 := er_ref h2
          subst h2
          have hg : goL (sched n) i q M [] = goL (sched n) i (e :: r) Mc pp := by
            rcases hrel with ⟨_, z⟩ | ⟨y, z, hy⟩
            · rw [z, hcq]
            · cases z
          have hlen2 : r.length + (pp ++ [e]).length = q.length := by rw [hcq] at hlen; simp only [List.length_cons, List.length_append, List.length_nil] at hlen ⊢; omega
          have hmem2 : ∀ x ∈ pp ++ [e], x ∈ q := fun x hx => by
            rcases List.mem_append.mp hx with hx | hx
            · exact hmem x hx
            · cases List.mem_singleton.mp hx
              exact hqm e (by rw [hcq]; exact .head _)
          have RP := Res.pop RM.ok hc hcq
          have tp := tc.setq hc hEq.2
          have up := uc.upd (o' := .list (ts'.map .ref)) hq1 (by intro xs z; cases z)
          have ep : Ents P (upd Gc (P.QL i) (.list (ts'.map .ref))) (tsp ++ [t0]) (pp ++ [e]) := (hE.append (ts' := [t0]) (q' := [e]) ⟨hEq.1, trivial⟩).turn hq1 (by intro xs z; cases z)
          have gp2 : upd Gc (P.QL i) (.list (ts'.map .ref)) pl = none := upd_other ne5 gpl
          have gl2 : upd Gc (P.QL i) (.list (ts'.map .ref)) L = none := upd_other ne2 gL
          have e1 : ∀ X Y, upd (upd F pl X) L Y = upd (upd FN pl X) L Y := fun X Y => by rw [hFN, fn_re hpL]
          have dp : ∀ X Y, Dj (upd (upd F pl X) L Y) (upd Gc (P.QL i) (.list (ts'.map .ref))) := fun X Y => by rw [e1]; exact ((djc.r kQ).l gp2).l gl2
          cases act1 with
          | true =>
            walk_at "m_st"
            rename St _ _ _ _ => S8
            refine ⟨r.length, by first | simp | (rw [hcq]; exact Nat.lt_succ_self _), pp ++ [e], _, _, tsp ++ [t0], some e.2, { dc with q := r }, rfl, Mo.put_self .., .inr ⟨e.2, rfl, hg.trans (goL_act hc hn1 rfl)⟩, RM.trans RP, hlen2, hmem2, (fun x hx => hqm x (by rw [hcq]; exact .tail _ hx)), dp _ _, tp, up, ep, S8.sub ?_ (FF _ _).join⟩
            rw [e1, ← upd_join, ← upd_join, ← upd_join_r kQ]
            simp only [List.map_append, List.map_cons, List.map_nil]
            walk_at "m_sub"
          | false =>
            walk_at "m_st"
            refine wpAny_Try_except ?_
            walk_at "m_st"
            rename St _ _ _ _ => S8
            have S9 := S8.sub (H := join (upd (upd F pl (.list ((tsp ++ [t0]).map .ref))) L (.ns [("child", .ref (P.D e.2)), ("next_stream", .none), ("popped_streams", .ref pl), ("self", .ref (P.D i))])) (upd Gc (P.QL i) (.list (ts'.map .ref)))) (by
              rw [e1, ← upd_join, ← upd_join, ← upd_join_r kQ]
              simp only [List.map_append, List.map_cons, List.map_nil]
              walk_at "m_sub") (FF _ _).join
            clear S8
            have hne : e.2 ≠ i := fun z => by rw [z] at hre; omega
            have hn2 : (Mc.put i { dc with q := r }) e.2 = some _ := (Mo.put_ne hne).trans hn1
            have RS := Res.sched n RP.ok ⟨_, hn2⟩ (by omega)
            have hfar := RS.far i hre
            have hii := hfar.trans (Mo.put_self ..)
            refine sched_spec P rk n S9 (by walk_at "m_R") (by rw [hev]; exact Around.frames_deeper hA) hh (FF _ _) (dp _ _) tp RP.ok hn2 (by omega) rfl ?_ ?_
            · intro v x M2 G2 s10 hv hs d2 t2 u2 S10
              rw [hs] at RS hii
              obtain ⟨tk, rfl⟩ := er_int hv
              have hLj := join_l (G := G2) (upd_self (upd F pl (.list ((tsp ++ [t0]).map .ref))) L (.ns [("child", .ref (P.D e.2)), ("next_stream", .none), ("popped_streams", .ref pl), ("self", .ref (P.D i))]))
              clear S9
              walk_at "m_st"
              rename St _ _ _ _ => S12
              have d3 : ∀ Y, Dj (upd (upd F pl (.list ((tsp ++ [t0]).map .ref))) L (.ns Y)) G2 := fun Y => by
                have := d2.l (o := .ns Y) (d2.has (upd_self ..))
                rwa [upd_upd] at this
              refine ⟨r.length, by first | simp | (rw [hcq]; exact Nat.lt_succ_self _), pp ++ [e], M2, G2, tsp ++ [t0], some x, { dc with q := r }, rfl, hii, .inr ⟨x, rfl, hg.trans (goL_some hc hn1 rfl hs)⟩, RM.trans (RP.trans (RS.up (Nat.le_of_lt hre))), hlen2, hmem2, (fun x hx => hqm x (by rw [hcq]; exact .tail _ hx)), d3 _, t2, up.trans u2, ep.mono u2, S12.sub ?_ (FF _ _).join⟩
              rw [← upd_upd (upd F pl (.list ((tsp ++ [t0]).map .ref))) L (.ns [("child", .ref (P.D e.2)), ("next_stream", .none), ("popped_streams", .ref pl), ("self", .ref (P.D i))]), ← upd_join]
              walk_at "m_sub"
            · intro e2 M2 G2 s10 hs d2 t2 u2 F10
              rw [hs] at RS hii
              rw [hev] at F10
              refine caught_B (T' := "IndexError") (.inl F10) (Around.frames_deeper hA) rfl idx_exc idx_nt idx_sub (by k_is) (by boot_by_name) (by decide) fun T s11 he hT hTe S11 => ?_
              walk_at "m_st"
              have hLj := join_l (G := G2) (upd_self (upd F pl (.list ((tsp ++ [t0]).map .ref))) L (.ns [("child", .ref (P.D e.2)), ("next_stream", .none), ("popped_streams", .ref pl), ("self", .ref (P.D i))]))
              have nL1 : L ≠ e2 := ne_fresh he hLj
              have nL2 : L ≠ T := ne_fresh hT hLj
              have d3 : ∀ Y, Dj (upd (upd F pl (.list ((tsp ++ [t0]).map .ref))) L (.ns Y)) G2 := fun Y => by
                have := d2.l (o := .ns Y) (d2.has (upd_self ..))
                rwa [upd_upd] at this
              refine ⟨r.length, by first | simp | (rw [hcq]; exact Nat.lt_succ_self _), pp ++ [e], M2, G2, tsp ++ [t0], none, { dc with q := r }, rfl, hii, .inl ⟨rfl, hg.trans (goL_none hc hn1 rfl hs)⟩, RM.trans (RP.trans (RS.up (Nat.le_of_lt hre))), hlen2, hmem2, (fun x hx => hqm x (by rw [hcq]; exact .tail _ hx)), d3 _, t2, up.trans u2, ep.mono u2, S11.sub ?_ (FF _ _).join⟩
              rw [← upd_upd (upd F pl (.list ((tsp ++ [t0]).map .ref))) L (.ns [("child", .ref (P.D e.2)), ("next_stream", .none), ("popped_streams", .ref pl), ("self", .ref (P.D i))]), ← upd_join]
              walk_at "m_sub"
end
end
section
section
variable {w : World} {c : Cx PySem.Challenge.rw_bd0031_05.row.prog w (MineTop.hd.heap_39 w.params)} {envs : List Env} {H F G : AH} {A : Around} {E Q : Value → Shared → Prop} {s : Shared}
theorem dunder_next {rk : Int → Nat} {N : Nat} {M : Mo} {ks : List Int} {pt : Nat} {nd : Nd} (S : St c envs (join F G) s) (R : Rm A (20 * N + 30) (200 * N + 260)) (hA : A.frames = some envs) (hh : A.handled = none)
    (fF : Frs envs F) (dj : Dj F G) (t : PTree 253 347 M ks pt G) (ok : OkM rk M) (hi : M 0 = some nd) (hr : rk 0 < N) (ha : nd.act = false)
    (k : ∀ v x M' G' s', er v = .int x 0 → sched N M 0 = (some x, M') → Dj F G' → PTree 253 347 M' ks pt G' → St c envs (join F G') s' → Q v s')
    (kE : ∀ e h T M' G' s', sched N M 0 = (none, M') → Dj F G' → PTree 253 347 M' ks pt G' → join F G' h = none → FlyT c envs (upd (join F G') h (.exc (.type "IndexError") (some T) none)) e (.ref 65) (some h) s' → E (.ref e) s') :
    wpAny (model PySem.Challenge.rw_bd0031_05.row.prog w) A (call (.ref 337) [.ref pt]) Q E s := by
  obtain ⟨P, dd, Gt, p, f1, f2, d0, dj1, ej⟩ := t.split dj
  rw [ej] at S
  obtain ⟨FP, hFP⟩ : ∃ FP, FP = upd (upd F pt (.inst 347 (pfl P dd))) dd (.imap (pdict P ks)) := ⟨_, rfl⟩
  have fFP : Frs envs FP := by rw [hFP]; exact (fF.fresh f1).fresh (upd_other p.ne.symm f2)
  have hptF : FP pt = some (.inst 347 (pfl P dd)) := by rw [hFP]; exact upd_other p.ne (upd_self ..)
  rw [← hFP] at S dj1
  have hpt := join_l (G := Gt) hptF
  have hD0 := join_r dj1 (p.tree.inst 0 _ hi)
  refine wpAny_call ?_
  k_dflt refine' code_fn (l := [("self", Value.ref pt)]) S R ?k1 ?k2 ?k3 ?k4 ?_ ?k6 ?k7 ?k8 ?k9 ?k10
  walk_at "m_in"
  intro L s1 hL S1
  have F0 := S.frs
  clear S
  refine hideQ ?_
  intro QF hQF
  refine hideE ?_
  intro EF hEF
  (try dsimp only)
  walk_at "m_st"
  refine wpAny_Try_except ?_
  walk_at "m_st"
  obtain ⟨fl, gl⟩ := join_none hL
  rename St _ _ _ _ => S2
  rw [upd_join] at S2
  have fF2 : ∀ env : Env, env.frame = some L → env.scope.kind ≠ .module → Frs (env :: envs) (upd FP L (.ns [("self", .ref pt)])) := fun env h k => Frs.cons (fFP.fresh fl) (upd_self ..) h k
  have RS := Res.sched N ok ⟨_, hi⟩ hr
  have sF : Sub FP (upd FP L (.ns [("self", .ref pt)])) := (Sub.refl FP).fresh fl
  refine sched_spec P rk N S2 (by walk_at "m_R") (Around.frames_deeper hA) hh (fF2 _ rfl (fun z => absurd z (show ScopeKind.function ≠ .module by decide))) (dj1.l gl) p.tree ok hi hr ha ?_ ?_
  · intro v x M' G' s2 hv hs d2 t2 u2 S3
    rw [hs] at RS
    have d3 : Dj FP G' := d2.sub sF
    obtain ⟨b1, b2, b3⟩ := PTree.back p f1 f2 (hFP ▸ d3) t2 RS.like
    walk_at "m_st"
    (try dsimp only)
    rename St _ _ _ _ => S4
    have S5 := S4.sub (sub_join d2 sF) fFP.join
    rw [hFP, b3] at S5
    exact k v x M' _ _ hv hs b2 b1 S5
  · intro e M' G' s2 hs d2 t2 u2 F3
    rw [hs] at RS
    have d3 : Dj FP G' := d2.sub sF
    obtain ⟨b1, b2, b3⟩ := PTree.back p f1 f2 (hFP ▸ d3) t2 RS.like
    refine caught_B (.inl F3) (Around.frames_deeper hA) rfl idx_exc idx_nt idx_sub (by k_is) (by boot_by_name) (by decide) fun T s3 he hT hTe S4 => ?_
    refine wpAny_execs_cons ?_
    refine Raise_ S4 (.inr ⟨e, _, _, _, rfl, upd_self .., .inl rfl⟩) (by k_is) (by k_exc) PySem.F.excBase_Exception ?_
    intro x ctx s4 hx hctx S5
    obtain rfl : ctx = some e := by
      cases ctx with
      | none => cases hctx
      | some y => cases hctx; rfl
    refine fly_noted (.inr ⟨hx, S5⟩) (Around.frames_deeper hA) rfl fun s5 F5 => ?_
    refine fly_came F5 fun s6 F6 => ?_
    refine unhide hEF ?_
    refine fly_leave (.inl F6) (Around.frames_deeper hA) rfl fun s7 F7 => ?_
    have he2 : join FP G' e = none := by rw [← upd_join] at he; exact none_up he
    have hT2 : join FP G' T = none := by rw [← upd_join] at hT; exact none_up hT
    rw [hFP, b3] at he2
    have F8 := F7.sub (H := upd (join FP G') e (.exc (.type "IndexError") (some T) none)) (Sub.upd2 ((sub_join d2 sF).fresh hT2) (.inl rfl)) (fFP.join.fresh (by rw [hFP, b3]; exact he2))
    rw [hFP, b3] at F8
    exact kE x e T M' _ s7 hs b2 b1 he2 F8
theorem next_spec {rk : Int → Nat} {N : Nat} {M : Mo} {ks : List Int} {pt : Nat} {nd : Nd} (S : St c envs (join F G) s) (R : Rm A (20 * N + 40) (200 * N + 290)) (hA : A.frames = some envs) (hh : A.handled = none)
    (fF : Frs envs F) (dj : Dj F G) (t : PTree 253 347 M ks pt G) (ok : OkM rk M) (hi : M 0 = some nd) (hr : rk 0 < N) (ha : nd.act = false)
    (k : ∀ v x M' G' s', er v = .int x 0 → sched N M 0 = (some x, M') → Dj F G' → PTree 253 347 M' ks pt G' → St c envs (join F G') s' → Q v s')
    (kE : ∀ e h T M' G' s', sched N M 0 = (none, M') → Dj F G' → PTree 253 347 M' ks pt G' → join F G' h = none → FlyT c envs (upd (join F G') h (.exc (.type "IndexError") (some T) none)) e (.ref 65) (some h) s' → E (.ref e) s') :
    wpAny (model PySem.Challenge.rw_bd0031_05.row.prog w) A (call (.ref 344) [.ref pt]) Q E s := by
  obtain ⟨P, dd, Gt, p, f1, f2, d0, dj1, ej⟩ := t.split dj
  have hpt : join F G pt = some (.inst 347 (pfl P dd)) := by rw [ej]; exact join_l (upd_other p.ne (upd_self ..))
  refine wpAny_call ?_
  k_dflt refine' code_fn (l := [("self", Value.ref pt)]) S R ?k1 ?k2 ?k3 ?k4 ?_ ?k6 ?k7 ?k8 ?k9 ?k10
  walk_at "m_in"
  intro L s1 hL S1
  have F0 := S.frs
  clear S
  refine hideQ ?_
  intro QF hQF
  refine hideE ?_
  intro EF hEF
  (try dsimp only)
  walk_at "m_st"
  obtain ⟨fl, gl⟩ := join_none hL
  rename St _ _ _ _ => S2
  rw [upd_join] at S2
  have fF2 : ∀ env : Env, env.frame = some L → env.scope.kind ≠ .module → Frs (env :: envs) (upd F L (.ns [("self", .ref pt)])) := fun env h k => Frs.cons (fF.fresh fl) (upd_self ..) h k
  have sF : Sub F (upd F L (.ns [("self", .ref pt)])) := (Sub.refl F).fresh fl
  refine dunder_next S2 (by walk_at "m_R") (Around.frames_deeper hA) hh (fF2 _ rfl (fun z => absurd z (show ScopeKind.function ≠ .module by decide))) (dj.l gl) t ok hi hr ha ?_ ?_
  · intro v x M' G' s2 hv hs d2 t2 S3
    walk_at "m_st"
    (try dsimp only)
    rename St _ _ _ _ => S4
    exact k v x M' _ _ hv hs (d2.sub sF) t2 (S4.sub (sub_join d2 sF) fF.join)
  · intro e h T M' G' s2 hs d2 t2 hhn F3
    refine unhide hEF ?_
    refine fly_leave (.inl F3) (Around.frames_deeper hA) rfl fun s7 F7 => ?_
    have he2 : join F G' h = none := by rw [← upd_join] at hhn; exact none_up hhn
    exact kE e h T M' _ s7 hs (d2.sub sF) t2 he2 (F7.sub (Sub.upd2 (sub_join d2 sF) (.inl rfl)) (fF.join.fresh he2))
end
end
section
section
variable {w : World} {c : Cx PySem.Challenge.rw_bd0031_05.row.prog w (MineTop.hd.heap_39 w.params)} {envs : List Env} {H F G : AH} {A : Around} {E Q : Value → Shared → Prop} {s : Shared}
local macro_rules | `(tactic| walk_at "setAttr ref") => `(tactic| ((with_reducible show wpAny _ _ (setAttr (Value.ref _) (PySem.Str.ofString "weight") _) _ _ _); rename St _ _ _ _ => mS; k_dflt (refine' at_pset mS ?e ?g ?h ?a ?n ?t ?_; (case e => walk_at "m_H"); (case g => k_is); (case h => k_is); (case a => k_is); (case n => k_is); (case t => k_is)); intro s1 S1; clear mS; k_dflt (refine' weight_set S1 ?R ?x ?z ?l ?m ?_; (case R => walk_at "m_R"); (case x => walk_at "m_H"); (case z => walk_at "m_len"); (case l => omega); (case m => omega)); intro r s2 S2; clear S1; (try dsimp only)))
theorem stream_init {x : Nat} {i v : Int} {t1 t2 : Tok} {R : Result → Shared → Prop} (S : St c envs H s) (Ro : Rm A 8 60) (hx : H x = some (.inst 253 [])) (h1 : 1 ≤ v) (h2 : v ≤ 256)
    (k : ∀ (cl ql : Nat) s', H cl = none → H ql = none → cl ≠ ql → St c envs (upd (upd (upd H x (.inst 253 (nfl i v cl ql))) cl (.list [])) ql (.list [])) s' → R (.ok (.ret .none)) s') :
    codeAny (model PySem.Challenge.rw_bd0031_05.row.prog w) A (.call (.ref 155) ⟨[.ref x, .int i t1, .int v t2], []⟩) R s := by
  k_dflt refine' code_fn (l := [("weight", Value.int v 0), ("stream_id", Value.int i 0), ("self", Value.ref x)]) S Ro ?k1 ?k2 ?k3 ?k4 ?_ ?k6 ?k7 ?k8 ?k9 ?k10
  walk_at "m_in"
  intro L s1 hL S1
  have F0 := S.frs
  clear S
  refine hideQ ?_
  intro QF hQF
  refine hideE ?_
  intro EF hEF
  (try dsimp only)
  walk_at "m_go"
  rename St _ _ _ _ => mS
  rename (upd (upd (upd H _ _) _ _) _ _ _ = none) => hc
  have c0 := none_up (none_up (none_up hc))
  rename (upd (upd (upd (upd _ _ _) _ _) _ _) _ _ _ = none) => hq
  have q0 := none_up (none_up (none_up (none_up (none_up (none_up hq)))))
  have nqc := none_ne (none_up (none_up hq))
  have nq := none_ne hq
  have nc := none_ne hc
  have ncl := none_ne (none_up (none_up hc))
  have nql := none_ne (none_up (none_up (none_up (none_up (none_up hq)))))
  exact k _ _ _ c0 q0 (Ne.symm nqc) (mS.ret (by walk_at "m_sub") (by walk_at "m_frs"))
theorem stream_new {i v : Int} {t1 t2 : Tok} {R : Result → Shared → Prop} (S : St c envs H s) (Ro : Rm A 10 80) (h1 : 1 ≤ v) (h2 : v ≤ 256)
    (k : ∀ (x cl ql : Nat) s', H x = none → H cl = none → H ql = none → x ≠ cl → x ≠ ql → cl ≠ ql → St c envs (upd (upd (upd H x (.inst 253 (nfl i v cl ql))) cl (.list [])) ql (.list [])) s' → R (.ok (.ret (.ref x))) s') :
    codeAny (model PySem.Challenge.rw_bd0031_05.row.prog w) A (.call (.ref 253) ⟨[.int i t1, .int v t2], []⟩) R s := by
  k_dflt refine' make_ S ?a ?b ?c ?_
  case a => k_is
  case b => k_is
  case c => k_is
  intro x s1 hx S1
  refine stream_init S1 (Rm.under (by walk_at "m_R")) (upd_self ..) h1 h2 fun cl ql s2 hc hq n S2 => ?_
  rw [upd_upd] at S2
  exact ⟨rfl, k x cl ql s2 hx (none_up hc) (none_up hq) (Ne.symm (none_ne hc)) (Ne.symm (none_ne hq)) n S2⟩
theorem stream_init_kw {x : Nat} {i v : Int} {t1 t2 : Tok} {R : Result → Shared → Prop} (S : St c envs H s) (Ro : Rm A 8 60) (hx : H x = some (.inst 253 [])) (h1 : 1 ≤ v) (h2 : v ≤ 256)
    (k : ∀ (cl ql : Nat) s', H cl = none → H ql = none → cl ≠ ql → St c envs (upd (upd (upd H x (.inst 253 (nfl i v cl ql))) cl (.list [])) ql (.list [])) s' → R (.ok (.ret .none)) s') :
    codeAny (model PySem.Challenge.rw_bd0031_05.row.prog w) A (.call (.ref 155) ⟨[.ref x], [("stream_id", .int i t1), ("weight", .int v t2)]⟩) R s := by
  k_dflt refine' code_fn (l := [("weight", Value.int v 0), ("stream_id", Value.int i 0), ("self", Value.ref x)]) S Ro ?k1 ?k2 ?k3 ?k4 ?_ ?k6 ?k7 ?k8 ?k9 ?k10
  walk_at "m_in"
  intro L s1 hL S1
  have F0 := S.frs
  clear S
  refine hideQ ?_
  intro QF hQF
  refine hideE ?_
  intro EF hEF
  (try dsimp only)
  walk_at "m_go"
  rename St _ _ _ _ => mS
  rename (upd (upd (upd H _ _) _ _) _ _ _ = none) => hc
  have c0 := none_up (none_up (none_up hc))
  rename (upd (upd (upd (upd _ _ _) _ _) _ _) _ _ _ = none) => hq
  have q0 := none_up (none_up (none_up (none_up (none_up (none_up hq)))))
  have nqc := none_ne (none_up (none_up hq))
  have nq := none_ne hq
  have nc := none_ne hc
  have ncl := none_ne (none_up (none_up hc))
  have nql := none_ne (none_up (none_up (none_up (none_up (none_up hq)))))
  exact k _ _ _ c0 q0 (Ne.symm nqc) (mS.ret (by walk_at "m_sub") (by walk_at "m_frs"))
theorem stream_new_kw {i v : Int} {t1 t2 : Tok} {R : Result → Shared → Prop} (S : St c envs H s) (Ro : Rm A 10 80) (h1 : 1 ≤ v) (h2 : v ≤ 256)
    (k : ∀ (x cl ql : Nat) s', H x = none → H cl = none → H ql = none → x ≠ cl → x ≠ ql → cl ≠ ql → St c envs (upd (upd (upd H x (.inst 253 (nfl i v cl ql))) cl (.list [])) ql (.list [])) s' → R (.ok (.ret (.ref x))) s') :
    codeAny (model PySem.Challenge.rw_bd0031_05.row.prog w) A (.call (.ref 253) ⟨[], [("stream_id", .int i t1), ("weight", .int v t2)]⟩) R s := by
  k_dflt refine' make_ S ?a ?b ?c ?_
  case a => k_is
  case b => k_is
  case c => k_is
  intro x s1 hx S1
  refine stream_init_kw S1 (Rm.under (by walk_at "m_R")) (upd_self ..) h1 h2 fun cl ql s2 hc hq n S2 => ?_
  rw [upd_upd] at S2
  exact ⟨rfl, k x cl ql s2 hx (none_up hc) (none_up hq) (Ne.symm (none_ne hc)) (Ne.symm (none_ne hq)) n S2⟩
end
end
section
section
variable {w : World} {c : Cx PySem.Challenge.rw_bd0031_05.row.prog w (MineTop.hd.heap_39 w.params)} {envs : List Env} {H F G : AH} {A : Around} {E Q : Value → Shared → Prop} {s : Shared}
theorem add_child_spec {P : Pl} {M : Mo} {i j : Int} {d n : Nd} (S : St c envs (join F G) s) (R : Rm A 12 120) (fF : Frs envs F) (dj : Dj F G) (t : Tree 253 P M G) (hi : M i = some d) (hj : M j = some n) (hne : j ≠ i)
    (hz : d.q.length ≤ 900) (hk : d.kids.length ≤ 900) (hex : ∀ e ∈ d.q, ∃ m, M e.2 = some m)
    (k : ∀ G' s', Dj F G' → Tree 253 P (adopt M i j) G' → St c envs (join F G') s' → Q .none s') :
    wpAny (model PySem.Challenge.rw_bd0031_05.row.prog w) A (call (.ref 179) [.ref (P.D i), .ref (P.D j)]) Q E s := by
  have hself := join_r dj (t.inst i _ hi)
  have hch := join_r dj (t.inst j _ hj)
  have hcl := join_r dj (t.cl i _ hi)
  obtain ⟨ts, hq1, hE⟩ := t.ql i _ hi
  have hql := join_r dj hq1
  have hE' : Ents P (join F G) ts d.q := hE.mono fun a xs q => join_r dj q
  have hs1 : ∀ x ∈ d.q, StreamAt 253 P (join F G) x.2 := fun x hx => by
    obtain ⟨m, hm⟩ := hex x hx
    exact ⟨_, join_r dj (t.inst _ _ hm), rfl⟩
  have hse : StreamAt 253 P (join F G) j := ⟨_, hch, rfl⟩
  have hnD : P.D j ≠ P.D i := fun z => hne (t.dd hj hi z)
  have m1 : P.D i ≠ P.QL i := ne_kind hself hql (by intro z; cases z)
  have m2 : P.D j ≠ P.QL i := ne_kind hch hql (by intro z; cases z)
  have m3 : P.D i ≠ P.CL i := ne_kind hself hcl (by intro z; cases z)
  have m4 : P.D j ≠ P.CL i := ne_kind hch hcl (by intro z; cases z)
  have m5 : P.CL i ≠ P.QL i := t.cq i i _ _ hi hi
  have TA := fun t' h' => t.adopt (t' := t') (ts := ts) hi hj hne h' hq1 hE
  have k1 : F (P.D j) = none := dj _ _ (t.inst j _ hj)
  have k2 : F (P.CL i) = none := dj _ _ (t.cl i _ hi)
  have k3 : F (P.QL i) = none := dj _ _ hq1
  have hln : (d.kids.map fun j => Value.ref (P.D j)).length = d.kids.length := List.length_map ..
  refine wpAny_call ?_
  k_dflt refine' code_fn (l := [("child", Value.ref (P.D j)), ("self", Value.ref (P.D i))]) S R ?k1 ?k2 ?k3 ?k4 ?_ ?k6 ?k7 ?k8 ?k9 ?k10
  walk_at "m_in"
  intro L s1 hL S1
  have F0 := S.frs
  clear S
  refine hideQ ?_
  intro QF hQF
  refine hideE ?_
  intro EF hEF
  (try dsimp only)
  have n1 : P.D i ≠ L := ne_fresh hL hself
  have n2 : P.D j ≠ L := ne_fresh hL hch
  have n3 : P.CL i ≠ L := ne_fresh hL hcl
  have n4 : P.QL i ≠ L := ne_fresh hL hql
  walk_at "m_st"
  rename St _ _ _ _ => mS
  rename (upd _ _ _ _ = none) => ht'
  rename Nat => t'
  refine heappush_spec (P := P) (ts := ts) (es := d.q) (e := (d.lw, j)) mS (by walk_at "m_R") (by walk_at "m_H") (by omega) (by walk_at "m_ents") ?_ (by walk_at "m_H") (by walk_at "m_str") ?_
  · intro x hx
    have := hs1 x hx
    walk_at "m_str"
  intro s3 S3
  have ht1 : join F G t' = none := by walk_at "m_none1"
  obtain ⟨hf, hg⟩ := join_none ht1
  walk_at "m_st"
  rename St _ _ _ _ => S3
  (try dsimp only)
  have d4 := (((dj.r (o := .inst 253 (flds P j { n with par := some i })) k1).r (o := .list ((d.kids ++ [j]).map fun j => .ref (P.D j))) k2).r (o := .tup [.int d.lw 0, .ref (P.D j)]) hf).r (o := .list ((put (place (klt (d.lw, j)) d.q) t' ts).map .ref)) k3
  have q1 : t' ≠ L := none_ne (H := join F G) (o := .ns [("child", Value.ref (P.D j)), ("self", Value.ref (P.D i))]) (by walk_at "m_none1")
  have q2 : P.D j ≠ t' := ne_fresh ht1 hch
  have q3 : P.CL i ≠ t' := ne_fresh ht1 hcl
  have q4 : P.QL i ≠ t' := ne_fresh ht1 hql
  refine k _ _ d4 (TA t' hg) (S3.ret ?_ fF.join)
  rw [← upd_join_r k3, ← upd_join_r hf, ← upd_join_r k2, ← upd_join_r k1]
  simp only [List.map_append, List.map_cons, List.map_nil]
  walk_at "m_sub"
end
end
local macro_rules | `(tactic| walk_at "subscriptTail") => `(tactic| (rename St _ _ _ _ => mS; k_dflt (refine' d_item mS ?e ?v ?_ ?hs; (case e => walk_at "m_H"); (case v => walk_at "m_lk"); (case hs => with_unfolding_all rfl)); walk_at "m_er2"; clear mS))
local macro_rules | `(tactic| walk_at "compareOp In int ref") => `(tactic| (rename St _ _ _ _ => mS; k_dflt (refine' d_in mS ?e ?_; (case e => walk_at "m_H")); intro s' S'; clear mS))
local macro_rules | `(tactic| walk_at "setItem ref int") => `(tactic| (rename St _ _ _ _ => mS; k_dflt (refine' d_set mS ?e ?z ?_; (case e => walk_at "m_H"); (case z => walk_at "m_lz")); intro s' S'; clear mS; (try dsimp only [er] at S')))
local macro_rules | `(tactic| walk_at "call builtin:len") => `(tactic| (rename St _ _ _ _ => mS; k_dflt (refine' d_len mS ?e ?z ?_; (case e => walk_at "m_H"); (case z => first | omega | (simp only [List.length_append, List.length_cons, List.length_nil]; omega)); intro tk s' S'; clear mS)))
local macro_rules | `(tactic| walk_at "exec Raise") => `(tactic| (exfalso; first | contradiction | omega | (rename (_ = true) => hz; (simp only [*, Option.isSome_none, Option.isSome_some, Bool.false_eq_true] at hz); done) | (rename (_ = false) => hz; (simp only [*, Option.isSome_none, Option.isSome_some, Bool.true_eq_false] at hz); done) | (simp_all; done)))
section
section
variable {w : World} {c : Cx PySem.Challenge.rw_bd0031_05.row.prog w (MineTop.hd.heap_39 w.params)} {envs : List Env} {H F G : AH} {A : Around} {E Q : Value → Shared → Prop} {s : Shared}
theorem block_spec {M : Mo} {ks : List Int} {pt : Nat} {i : Int} {tk : Tok} {n : Nd} (S : St c envs (join F G) s) (R : Rm A 6 40) (fF : Frs envs F) (dj : Dj F G) (t : PTree 253 347 M ks pt G) (hi : M i = some n) (h0 : i ≠ 0)
    (k : ∀ G' s', Dj F G' → PTree 253 347 (actv M i false) ks pt G' → St c envs (join F G') s' → Q .none s') :
    wpAny (model PySem.Challenge.rw_bd0031_05.row.prog w) A (call (.ref 316) [.ref pt, .int i tk]) Q E s := by
  obtain ⟨P, dd, Gt, p, f1, f2, d0, dj1, ej⟩ := t.split dj
  rw [ej] at S
  have hpt := join_l (G := Gt) (upd_other p.ne (upd_self ..) : upd (upd F pt (.inst 347 (pfl P dd))) dd (.imap (pdict P ks)) pt = _)
  have hdd := join_l (G := Gt) (upd_self (upd F pt (.inst 347 (pfl P dd))) dd (.imap (pdict P ks)))
  have hDi := join_r dj1 (p.tree.inst i _ hi)
  have hlk : (pdict P ks).lookup i = some (.ref (P.D i)) := pdict_get ((p.ks i).mpr ⟨_, hi⟩)
  refine wpAny_call ?_
  k_dflt refine' code_fn (l := [("stream_id", Value.int i 0), ("self", Value.ref pt)]) S R ?k1 ?k2 ?k3 ?k4 ?_ ?k6 ?k7 ?k8 ?k9 ?k10
  walk_at "m_in"
  intro L s1 hL S1
  have F0 := S.frs
  clear S
  refine hideQ ?_
  intro QF hQF
  refine hideE ?_
  intro EF hEF
  (try dsimp only)
  walk_at "m_st"
  refine wpAny_Try_except ?_
  have n1 : L ≠ P.D i := Ne.symm (ne_fresh hL hDi)
  walk_at "m_st"
  rename St _ _ _ _ => S2
  have kD : upd (upd F pt (.inst 347 (pfl P dd))) dd (.imap (pdict P ks)) (P.D i) = none := dj1 _ _ (p.tree.inst i _ hi)
  have tn := p.tree.set (n' := { n with act := false }) hi rfl rfl
  have dn := dj1.r (o := .inst 253 (flds P i { n with act := false })) kD
  obtain ⟨b1, b2, b3⟩ := PTree.back2 p f1 f2 dn tn (put_ks hi)
  rw [actv_eq hi] at k
  refine k _ _ b2 b1 ?_
  rw [← b3, ← upd_join_r kD]
  refine S2.ret (by walk_at "m_sub") ?_
  rw [upd_join_r kD]
  exact ((fF.fresh f1).fresh (upd_other p.ne.symm f2)).join
end
end
section
section
variable {w : World} {c : Cx PySem.Challenge.rw_bd0031_05.row.prog w (MineTop.hd.heap_39 w.params)} {envs : List Env} {H F G : AH} {A : Around} {E Q : Value → Shared → Prop} {s : Shared}
theorem gip_spec {pt dd x : Nat} {i : Int} {tk : Tok} {kvs : List (Int × Value)} {fs : List (Str × Value)} (S : St c envs H s) (R : Rm A 6 40) (hpt : H pt = some (.inst 347 fs)) (hfs : fs.lookup ("_streams" : Str) = some (.ref dd)) (hdd : H dd = some (.imap kvs)) (hlk : kvs.lookup i = some (.ref x))
    (k : ∀ s', St c envs H s' → Q (.ref x) s') :
    wpAny (model PySem.Challenge.rw_bd0031_05.row.prog w) A (call (.ref 279) [.ref pt, .int i tk]) Q E s := by
  refine wpAny_call ?_
  k_dflt refine' code_fn (l := [("parent_stream_id", Value.int i 0), ("self", Value.ref pt)]) S R ?k1 ?k2 ?k3 ?k4 ?_ ?k6 ?k7 ?k8 ?k9 ?k10
  walk_at "m_in"
  intro L s1 hL S1
  have F0 := S.frs
  clear S
  refine hideQ ?_
  intro QF hQF
  refine hideE ?_
  intro EF hEF
  (try dsimp only)
  walk_at "m_st"
  refine wpAny_Try_except ?_
  walk_at "m_st"
  all_goals ((try dsimp only); rename St _ _ _ _ => mS; exact k _ (mS.ret (by walk_at "m_sub") (by walk_at "m_frs")))
end
end
section
section
variable {w : World} {c : Cx PySem.Challenge.rw_bd0031_05.row.prog w (MineTop.hd.heap_39 w.params)} {envs : List Env} {H F G : AH} {A : Around} {E Q : Value → Shared → Prop} {s : Shared}
theorem add_child_at {P : Pl} {M : Mo} {i j : Int} {d n : Nd} {a b : Nat} (ea : a = P.D i) (eb : b = P.D j) (S : St c envs (join F G) s) (R : Rm A 12 120) (fF : Frs envs F) (dj : Dj F G) (t : Tree 253 P M G) (hi : M i = some d) (hj : M j = some n) (hne : j ≠ i)
    (hz : d.q.length ≤ 900) (hk : d.kids.length ≤ 900) (hex : ∀ e ∈ d.q, ∃ m, M e.2 = some m)
    (k : ∀ G' s', Dj F G' → Tree 253 P (adopt M i j) G' → St c envs (join F G') s' → Q .none s') :
    wpAny (model PySem.Challenge.rw_bd0031_05.row.prog w) A (call (.ref 179) [.ref a, .ref b]) Q E s := by
  subst ea eb
  exact add_child_spec S R fF dj t hi hj hne hz hk hex k
theorem insert3_spec {rk : Int → Nat} {M : Mo} {ks : List Int} {pt : Nat} {i dep v : Int} {t1 t2 t3 : Tok} {d n0 : Nd} (S : St c envs (join F G) s) (R : Rm A 20 260) (fF : Frs envs F) (dj : Dj F G) (t : PTree 253 347 M ks pt G) (ok : OkM rk M) (clo : Clo M)
    (hn : M i = none) (hd : M dep = some d) (hr0 : M 0 = some n0) (h1 : 1 ≤ v) (h2 : v ≤ 256) (hks : ks.length ≤ 900) (hdq : d.q.length ≤ 900) (hdk : d.kids.length ≤ 900)
    (k : ∀ G' s', Dj F G' → PTree 253 347 (adopt (M.put i (newNd v)) dep i) (ks ++ [i]) pt G' → St c envs (join F G') s' → Q .none s') :
    wpAny (model PySem.Challenge.rw_bd0031_05.row.prog w) A (call (.ref 294) [.ref pt, .int i t1, .int dep t2, .int v t3]) Q E s := by
  obtain ⟨P, dd, Gt, p, f1, f2, d0, dj1, ej⟩ := t.split dj
  rw [ej] at S
  obtain ⟨FP, hFP⟩ : ∃ FP, FP = upd (upd F pt (.inst 347 (pfl P dd))) dd (.imap (pdict P ks)) := ⟨_, rfl⟩
  have fFP : Frs envs FP := by rw [hFP]; exact (fF.fresh f1).fresh (upd_other p.ne.symm f2)
  have hptF : FP pt = some (.inst 347 (pfl P dd)) := by rw [hFP]; exact upd_other p.ne (upd_self ..)
  have hddF : FP dd = some (.imap (pdict P ks)) := by rw [hFP]; exact upd_self ..
  rw [← hFP] at S dj1
  have hpt := join_l (G := Gt) hptF
  have hdd := join_l (G := Gt) hddF
  have hik : i ∉ ks := fun z => by obtain ⟨m, hm⟩ := (p.ks i).mp z; rw [hn] at hm; cases hm
  have hlk : (pdict P ks).lookup dep = some (.ref (P.D dep)) := pdict_get ((p.ks dep).mpr ⟨_, hd⟩)
  have hln : (pdict P ks).lookup i = none := pdict_none hik
  have hll : (pdict P ks).length = ks.length := pdict_len
  have hne : dep ≠ i := fun z => by rw [z, hn] at hd; cases hd
  refine wpAny_call ?_
  k_dflt refine' code_fn (l := [("exclusive", Value.bool false), ("weight", Value.int v 0), ("depends_on", Value.int dep 0), ("stream_id", Value.int i 0), ("self", Value.ref pt)]) S R ?k1 ?k2 ?k3 ?k4 ?_ ?k6 ?k7 ?k8 ?k9 ?k10
  walk_at "m_in"
  intro L s1 hL S1
  have F0 := S.frs
  clear S
  refine hideQ ?_
  intro QF hQF
  refine hideE ?_
  intro EF hEF
  (try dsimp only)
  have hdep := join_r dj1 (p.tree.inst dep _ hd)
  have n0 : P.D dep ≠ L := ne_fresh hL hdep
  have n1 : L ≠ pt := Ne.symm (ne_fresh hL hpt)
  have n2 : L ≠ dd := Ne.symm (ne_fresh hL hdd)
  have n3 : pt ≠ dd := p.ne
  walk_at "m_st"
  rename St _ _ _ _ => S2
  refine wpAny_call (stream_new S2 (by walk_at "m_R") h1 h2 ?_)
  intro x cl ql s3 hx hc hq m1 m2 m3 S3
  clear S2
  have hx0 : join FP Gt x = none := none_up hx
  have hc0 : join FP Gt cl = none := none_up hc
  have hq0 : join FP Gt ql = none := none_up hq
  have x1 := none_ne hx
  have x2 := none_ne hc
  have x3 := none_ne hq
  have w1 : P.D dep ≠ x := ne_fresh hx0 hdep
  have w2 : P.D dep ≠ cl := ne_fresh hc0 hdep
  have w3 : P.D dep ≠ ql := ne_fresh hq0 hdep
  have y1 : pt ≠ x := ne_fresh hx0 hpt
  have y2 : pt ≠ cl := ne_fresh hc0 hpt
  have y3 : pt ≠ ql := ne_fresh hq0 hpt
  have z1 : dd ≠ x := ne_fresh hx0 hdd
  have z2 : dd ≠ cl := ne_fresh hc0 hdd
  have z3 : dd ≠ ql := ne_fresh hq0 hdd
  (try dsimp only)
  walk_at "m_st"
  all_goals
    rename St _ _ _ _ => S4
    refine gip_spec S4 (by walk_at "m_R") (x := P.D dep) (by walk_at "m_H") rfl (by walk_at "m_H") (by first | exact hlk | (rw [show (0 : Int) = dep from Eq.symm (by assumption)]; exact hlk)) ?_
    intro s5 S5
    clear S4
    walk_at "m_st"
    rename St _ _ _ _ => S6
    obtain ⟨fx, gx⟩ := join_none hx0
    obtain ⟨fc, gc⟩ := join_none hc0
    obtain ⟨fq, gq⟩ := join_none hq0
    obtain ⟨fl, gl⟩ := join_none hL
    have tN := p.tree.newNode clo ok (w := v) hn gx gc gq m1 m2 m3
    have dN := ((dj1.r (o := .inst 253 (nfl i v cl ql)) fx).r (o := .list []) fc).r (o := .list []) fq
    have gl2 : upd (upd (upd Gt x (.inst 253 (nfl i v cl ql))) cl (.list [])) ql (.list []) L = none := upd_other (Ne.symm x3) (upd_other (Ne.symm x2) (upd_other (Ne.symm x1) gl))
    obtain ⟨ev, hev, S6⟩ := S6.env
    have fF1 : ∀ l, Frs ev (upd FP L (.ns l)) := fun l => by
      rw [hev]; exact Frs.cons (fFP.fresh fl) (upd_self ..) rfl (show ScopeKind.function ≠ .module by decide)
    have S7 := S6.sub (H := join (upd FP L (.ns [("parent", .ref (P.D dep)), ("stream", .ref x), ("stream_id", .int i 0), ("self", .ref pt)])) (upd (upd (upd Gt x (.inst 253 (nfl i v cl ql))) cl (.list [])) ql (.list []))) (by
      rw [← upd_join, ← upd_join_r fq, ← upd_join_r fc, ← upd_join_r fx]
      walk_at "m_sub") (fF1 _).join
    clear S6
    have eD : (P.at i x cl ql).D dep = P.D dep := if_neg hne
    have eX : (P.at i x cl ql).D i = x := if_pos rfl
    have hd2 : (M.put i (newNd v)) dep = some d := (Mo.put_ne hne).trans hd
    refine add_child_at (P := P.at i x cl ql) (i := dep) (j := i) eD.symm eX.symm S7 (by walk_at "m_R") (fF1 _) (dN.l gl2) tN hd2 (Mo.put_self ..) (Ne.symm hne) hdq hdk ?_ ?_
    · intro e he
      exact put_ex (((ok.ok dep d hd).2.2.2.2.2 e he).1)
    intro G2 s8 d2 t2 S8
    clear S7
    have hdd2 := join_l (G := G2) (upd_other (Ne.symm n2) hddF : upd FP L (.ns [("parent", .ref (P.D dep)), ("stream", .ref x), ("stream_id", .int i 0), ("self", .ref pt)]) dd = _)
    have hpt2 := join_l (G := G2) (upd_other (Ne.symm n1) hptF : upd FP L (.ns [("parent", .ref (P.D dep)), ("stream", .ref x), ("stream_id", .int i 0), ("self", .ref pt)]) pt = _)
    have hL2 := join_l (G := G2) (upd_self FP L (.ns [("parent", .ref (P.D dep)), ("stream", .ref x), ("stream_id", .int i 0), ("self", .ref pt)]))
    walk_at "m_st"
    (try dsimp only)
    rename St _ _ _ _ => S9
    have eD2 : ∀ j ∈ ks, (P.at i x cl ql).D j = P.D j := fun j hj => if_neg fun (z : j = i) => hik (z ▸ hj)
    have sF : Sub FP (upd FP L (.ns [("parent", .ref (P.D dep)), ("stream", .ref x), ("stream_id", .int i 0), ("self", .ref pt)])) := (Sub.refl FP).fresh fl
    have d3 : Dj FP G2 := d2.sub sF
    obtain ⟨b1, b2, b3⟩ := PTree.more p f1 f2 (hFP ▸ d3) t2 hik eD2 ((p.ks 0).mpr ⟨_, hr0⟩) (adopt_ks hn hd)
    refine k _ _ b2 b1 ?_
    rw [← b3, ← hFP, eX]
    exact S9.sub (Sub.upd2 (sub_join d2 sF) (.inl rfl)) (fFP.join.turn (join_l hddF) rfl)
end
end
section
section
variable {w : World} {c : Cx PySem.Challenge.rw_bd0031_05.row.prog w (MineTop.hd.heap_39 w.params)} {envs : List Env} {H F G : AH} {A : Around} {E Q : Value → Shared → Prop} {s : Shared}
local macro_rules | `(tactic| walk_at "eval Dict") => `(tactic| (rename St _ _ _ _ => mS; refine dict_one mS ?_; intro d s0 hd S'; clear mS))
theorem tree_init {pt : Nat} {R : Result → Shared → Prop} (S : St c envs (upd F pt (.inst 347 [])) s) (Ro : Rm A 20 160) (hpt : F pt = none) (fF : Frs envs F)
    (k : ∀ G' s', Dj F G' → PTree 253 347 Mo.root [0] pt G' → St c envs (join F G') s' → R (.ok (.ret .none)) s') :
    codeAny (model PySem.Challenge.rw_bd0031_05.row.prog w) A (.call (.ref 272) ⟨[.ref pt], []⟩) R s := by
  k_dflt refine' code_fn (l := [("maximum_streams", Value.int 1000 0), ("self", Value.ref pt)]) S Ro ?k1 ?k2 ?k3 ?k4 ?_ ?k6 ?k7 ?k8 ?k9 ?k10
  walk_at "m_in"
  intro L s1 hL S1
  have F0 := S.frs
  clear S
  refine hideQ ?_
  intro QF hQF
  refine hideE ?_
  intro EF hEF
  (try dsimp only)
  have hp0 := upd_self F pt (.inst 347 [])
  walk_at "m_st"
  rename St _ _ _ _ => S2
  refine wpAny_call ?_
  show codeAny _ _ (.call (.ref 253) ⟨[], [("stream_id", .int 0 _), ("weight", .int 1 _)]⟩) _ _
  refine stream_new_kw S2 (by walk_at "m_R") (by decide) (by decide) ?_
  intro x cl ql s3 hx hc hq m1 m2 m3 S3
  clear S2
  have x1 := none_ne hx
  have x2 := none_ne hc
  have x3 := none_ne hq
  have x4 := none_ne (none_up hx)
  have x5 := none_ne (none_up hc)
  have x6 := none_ne (none_up hq)
  have n1 : L ≠ pt := none_ne hL
  (try dsimp only)
  walk_at "m_st"
  rename St _ _ _ _ => S4
  rename (_ = none) => hd
  refine ⟨_, _, _, rfl, upd_self .., S4, ?_⟩
  intro s5 S5
  clear S4
  have d1 := none_ne hd
  have d2 := none_ne (none_up hd)
  have d3 := none_ne (none_up (none_up hd))
  have d4 := none_ne (none_up (none_up (none_up hd)))
  have d6 := none_ne (none_up (none_up (none_up (none_up (none_up hd)))))
  have fd := none_up (none_up (none_up (none_up (none_up (none_up (none_up hd))))))
  walk_at "m_st"
  (try dsimp only)
  rename St _ _ _ _ => S6
  have fx := none_up (none_up hx)
  have fc := none_up (none_up hc)
  have fq := none_up (none_up hq)
  refine k _ _ (((((Dj.nil.r fx).r fc).r fq).r hpt).r fd) (PTree.root m1 m2 m3 (Ne.symm x4) (Ne.symm x5) (Ne.symm x6) d1 d4 d3 (Ne.symm d2)) ?_
  rw [← upd_join_r fd, ← upd_join_r hpt, ← upd_join_r fq, ← upd_join_r fc, ← upd_join_r fx, join_nil]
  refine S6.ret ?_ ?_
  · walk_at "m_sub"
  · refine (((((fF.fresh fx).fresh ?_).fresh ?_).fresh ?_).fresh ?_)
    all_goals walk_at "m_none"
theorem tree_new {R : Result → Shared → Prop} (S : St c envs F s) (Ro : Rm A 22 180)
    (k : ∀ (pt : Nat) G' s', Dj F G' → PTree 253 347 Mo.root [0] pt G' → St c envs (join F G') s' → R (.ok (.ret (.ref pt))) s') :
    codeAny (model PySem.Challenge.rw_bd0031_05.row.prog w) A (.call (.ref 347) ⟨[], []⟩) R s := by
  k_dflt refine' make_ S ?a ?b ?c ?_
  case a => k_is
  case b => k_is
  case c => k_is
  intro x s1 hx S1
  exact tree_init S1 (Rm.under (by walk_at "m_R")) hx S.frs fun G' s2 dj t S2 => ⟨rfl, k x G' s2 dj t S2⟩
end
end
local macro_rules | `(tactic| walk_at "eval Name") => `(tactic| (rename St _ _ _ _ => mS; k_dflt first
  | (refine' nm_ref mS ?H ?x ?_ ?L; (case L => exact rfl); (case H => walk_at "m_H"); (case x => assumption))
  | (refine' nm_int mS ?H ?x ?_ ?L; (case L => exact rfl); (case H => walk_at "m_H"); (case x => assumption); intro tk)))
local macro_rules | `(tactic| walk_at "eval Name") => `(tactic| (rename St _ _ _ _ => mS; k_dflt first
  | (refine' nmc mS ?c ?H ?_; (case c => exact rfl); (case H => walk_at "m_H"); walk_at "m_er")
  | (refine' nmf mS ?c ?H ?_; (case c => exact rfl); (case H => walk_at "m_H"); walk_at "m_er")))
local macro_rules | `(tactic| walk_at "storeName") => `(tactic| (rename St _ _ _ _ => mS; k_dflt (refine' stc mS ?c ?H ?v ?_; (case c => exact rfl); (case H => walk_at "m_H"); (case v => walk_at "m_val"); intro s' S'; clear mS; (try dsimp only [er] at S'))))
local macro_rules | `(tactic| walk_at "call builtin:len") => `(tactic| (rename St _ _ _ _ => mS; refine scr_len (by assumption) mS ?_; intro tk s' S'; clear mS))
local macro_rules | `(tactic| walk_at "eval ListComp") => `(tactic| (k_dflt (refine' comp_eval ?c ?k ?n ?_; (case c => with_unfolding_all rfl); (case k => rfl); (case n => decide))))
local macro_rules | `(tactic| walk_at "call type:range") => `(tactic| (rename St _ _ _ _ => mS; first
  | (refine mk_range1 mS ?_; intro r t u v s' hr S'; clear mS)
  | (refine mk_range2 mS ?_; intro r t u v s' hr S'; clear mS)
  | (refine mk_range3 mS (by omega) (by omega) ?_; intro r t u v s' hr S'; clear mS)))
local macro_rules | `(tactic| walk_at "binaryOp Mult ref int") => `(tactic| (rename St _ _ _ _ => mS; k_dflt (refine' list_mul mS ?e ?a ?b ?z ?_; (case e => walk_at "m_H"); (case a => omega); (case b => omega); (case z => simp)); intro a s' ha S'; clear mS))
local macro_rules | `(tactic| walk_at "binaryOp Add ref ref") => `(tactic| (rename St _ _ _ _ => mS; k_dflt (refine' list_cat mS ?a ?b ?z ?_; (case a => walk_at "m_H"); (case b => walk_at "m_H"); (case z => walk_at "m_lz")); intro a s' ha S'; clear mS))
local macro_rules | `(tactic| walk_at "setItem ref int") => `(tactic| (rename St _ _ _ _ => mS; k_dflt (refine' list_store mS ?e ?a ?b ?z ?_; (case e => walk_at "m_H"); (case a => omega); (case b => walk_at "m_lz"); (case z => walk_at "m_lz")); intro s' S'; clear mS; (try dsimp only [er] at S')))
local macro_rules | `(tactic| walk_at "compareOp Eq ref ref") => `(tactic| (rename St _ _ _ _ => mS; k_dflt (refine' eq_nil mS ?a ?b ?u ?_; (case a => walk_at "m_H"); (case b => walk_at "m_H"); (case u => exact Rm.line (by assumption)))))
local macro_rules | `(tactic| walk_at "compareOp NotEq ref ref") => `(tactic| (rename St _ _ _ _ => mS; k_dflt (refine' ne_nil mS ?a ?b ?u ?_; (case a => walk_at "m_H"); (case b => walk_at "m_H"); (case u => exact Rm.line (by assumption)))))
local macro_rules | `(tactic| walk_at "loadName") => `(tactic| (rename St _ _ _ _ => mS; k_dflt (refine' nm mS ?H ?x ?_ ?L; (case L => exact rfl); (case H => walk_at "m_H"); (case x => assumption); walk_at "m_er")))
section
section
variable {w : World} {c : Cx PySem.Challenge.rw_bd0031_05.row.prog w (MineTop.hd.heap_39 w.params)} {envs : List Env} {F G : AH} {A : Around} {Q : Value → Shared → Prop} {E : Value → Shared → Prop} {s : Shared}
theorem gg_insert {g : GG} {i : Nat} {pt : Nat} {i' dep' v' : Int} {t1 t2 t3 : Tok} (S : St c envs (join F G) s) (R : Rm A 20 260) (fF : Frs envs F) (dj : Dj F G) (t : PTree 253 347 (g.M i) (ksG g i) pt G) (h : i < g.m)
    (ei : i' = g.nm (i + 1)) (ed : dep' = g.nm (g.ab (i + 1))) (ev : v' = g.wt (i + 1))
    (k : ∀ G' s', Dj F G' → PTree 253 347 (g.X (g.M i) i) (ksG g (i + 1)) pt G' → St c envs (join F G') s' → Q .none s') :
    wpAny (model PySem.Challenge.rw_bd0031_05.row.prog w) A (call (.ref 294) [.ref pt, .int i' t1, .int dep' t2, .int v' t3]) Q E s := by
  subst ei ed ev
  obtain ⟨mo, mc, mn, ⟨d, md, mdq, mdk⟩, n0, m0⟩ := GG.M_good h
  have hz := g.ml
  refine insert3_spec S R fF dj t mo mc mn md m0 (g.wl _) (g.wh _) (by rw [ksG_len]; omega) mdq mdk ?_
  intro G2 s6 dj3 t3 S6
  rw [ksG_succ] at t3
  exact k G2 s6 dj3 t3 S6
theorem gg_block {g : GG} {i : Nat} {pt : Nat} {i' : Int} {t1 : Tok} (S : St c envs (join F G) s) (R : Rm A 6 40) (fF : Frs envs F) (dj : Dj F G) (t : PTree 253 347 (g.X (g.M i) i) (ksG g (i + 1)) pt G) (h : i < g.m)
    (ei : i' = g.nm (i + 1)) (ha : g.ac (i + 1) = false)
    (k : ∀ G' s', Dj F G' → PTree 253 347 (g.M (i + 1)) (ksG g (i + 1)) pt G' → St c envs (join F G') s' → Q .none s') :
    wpAny (model PySem.Challenge.rw_bd0031_05.row.prog w) A (call (.ref 316) [.ref pt, .int i' t1]) Q E s := by
  subst ei
  obtain ⟨d, md⟩ := GG.X_good h
  refine block_spec S R fF dj t md (GG.nm_ne (by omega) (by omega)) ?_
  intro G2 s6 dj3 t3 S6
  have e : g.M (i + 1) = actv (g.X (g.M i) i) (g.nm (i + 1)) false := by
    show (if g.ac (i + 1) then _ else _) = _
    rw [ha]; rfl
  rw [← e] at t3
  exact k G2 s6 dj3 t3 S6
end
end
local macro_rules | `(tactic| walk_at "getItem ref int") => `(tactic| (rename St _ _ _ _ => mS; k_dflt (refine' list_get5 mS ?e ?a ?b ?x ?_; (case e => walk_at "m_H"); (case a => omega); (case b => omega); (case x => walk_at "m_lk")); walk_at "m_er"))
section
noncomputable def lawSt (i : Nat) : Stmt := nthSt PySem.Challenge.rw_bd0031_05.row.prog 17 i
noncomputable abbrev lawEnv (nm : Str) (L a : Nat) (cd : Value) (c1 c2 c3 c4 : Nat) : Env := envAt PySem.Challenge.rw_bd0031_05.row.prog 17 nm L a cd [("above", c4), ("names", c3), ("numbers", c2), ("script", c1)]
section
variable {w : World} {c : Cx PySem.Challenge.rw_bd0031_05.row.prog w (MineTop.hd.heap_39 w.params)} {envs : List Env} {H F G : AH} {A : Around} {Q : Flow → Shared → Prop} {E : Value → Shared → Prop} {s : Shared} {nm : Str} {L a c1 c2 c3 c4 sa : Nat} {cd : Value} {ns : List Int} {l : List (Str × Value)} {u : Option Value}
theorem st0 (S : St c envs H s) (sc : Scr c sa ns) (h1 : H c1 = some (.cell (some (.ref sa)))) (h2 : H c2 = some (.cell u)) (R : Rm A 40 400) (hh : A.handled = none)
    (k : ∀ (q : Nat) s', H q = none → St c envs (upd (upd H q (.list (nums5 ns))) c2 (.cell (some (.ref q)))) s' → Q .next s') :
    wpAny (model PySem.Challenge.rw_bd0031_05.row.prog w) A (exec (lawSt 0) (lawEnv nm L a cd c1 c2 c3 c4)) Q E s := by
  show wpAny _ _ (exec (Stmt.Assign _ _ _) _) _ _ _
  have fr := S.frs
  walk_at "m_st"
  rename St _ _ _ _ => S1
  rename (H _ = none) => hr
  refine iter_range1 S1 hr 20 rfl (by decide) (by decide) ?_
  intro it s2 hit S2
  clear S1
  refine comp_pure (row_range 0 1 20) (onInt fun k => .int (num5 ns k.toNat) 0) S2 hit trivial (.inl hh) (by rw [rRow_len]; decide) (by decide) rfl rfl ?_ ?_ ?_
  · intro C i v y s3 Hc l' E' hy hv keep hC S3
    obtain ⟨j, -, j0, j1, rfl⟩ := rRow_at hy
    exact wpAny_tests_nil ⟨rfl, S3⟩
  · intro C i v y z s3 Hc l' E' hy hv hz keep hC S3
    obtain ⟨j, -, j0, j1, rfl⟩ := rRow_at hy
    obtain rfl := Option.some.inj hz
    have k1 := keep c1 _ h1
    walk_at "m_st"
    · rename St _ _ _ _ => S4
      rename (j < _) => hj
      refine scr_item sc S4 j0 (num5_get j0 hj) (fun t => ?_) (by with_unfolding_all rfl)
      exact ⟨rfl, S4⟩
    · rename (¬ j < _) => hj
      rw [num5_big j0 hj]; rfl
    · assumption
  · intro D C s3 l' hD hC S3
    have e : (rRow 0 1 20).filterMap (onInt fun k => .int (num5 ns k.toNat) 0) = nums5 ns := by rfl
    rw [e] at hC S3
    refine comp_none S3 hC (fr.fresh hD) ?_
    intro s4 S4
    have hx : c2 ≠ D := ne_fresh hD h2
    walk_at "m_st"
    rename St _ _ _ _ => S5
    exact k _ _ hD S5
theorem st1 {q : Nat} (S : St c envs H s) (hL : H L = some (.ns l)) (h2 : H c2 = some (.cell (some (.ref q)))) (hq : H q = some (.list (nums5 ns))) (R : Rm A 40 400) (hh : A.handled = none)
    (k : ∀ s', St c envs (upd H L (.ns (("many", .int (many5 ns) 0) :: l))) s' → Q .next s') :
    wpAny (model PySem.Challenge.rw_bd0031_05.row.prog w) A (exec (lawSt 1) (lawEnv nm L a cd c1 c2 c3 c4)) Q E s := by
  show wpAny _ _ (exec (Stmt.Assign _ _ _) _) _ _ _
  have g : (nums5 ns)[(0 : Int).toNat]? = some (.int (num5 ns 0) 0) := nums5_get (by decide)
  walk_at "m_st"
  rename St _ _ _ _ => S5
  rw [← many5_eq] at S5
  exact k _ S5
theorem st2 {q : Nat} (S : St c envs H s) (hL : H L = some (.ns l)) (hm : l.lookup ("many" : Str) = some (.int (many5 ns) 0)) (h2 : H c2 = some (.cell (some (.ref q)))) (hq : H q = some (.list (nums5 ns))) (h3 : H c3 = some (.cell u)) (R : Rm A 40 400) (hh : A.handled = none)
    (k : ∀ (q : Nat) s', H q = none → St c envs (upd (upd H q (.list (names5 ns))) c3 (.cell (some (.ref q)))) s' → Q .next s') :
    wpAny (model PySem.Challenge.rw_bd0031_05.row.prog w) A (exec (lawSt 2) (lawEnv nm L a cd c1 c2 c3 c4)) Q E s := by
  show wpAny _ _ (exec (Stmt.Assign _ _ _) _) _ _ _
  have fr := S.frs
  walk_at "m_st"
  rename St _ _ _ _ => S1
  rename (upd _ _ _ _ = none) => hr
  rename (H _ = none) => ha
  have m1 := @many5_lo ns
  have m2 := @many5_hi ns
  refine iter_range1 S1 hr (many5 ns) (by omega) (by decide) (by omega) ?_
  intro it s2 hit S2
  clear S1
  refine comp_pure (row_range 1 1 (many5 ns)) (onInt fun i => .int (10 + 10 * ((3 * i + num5 ns 1) % 11)) 0) S2 hit trivial (.inl hh) (by rw [rRow_len]; omega) (by decide) rfl rfl ?_ ?_ ?_
  · intro C i v y s3 Hc l' E' hy hv keep hC S3
    obtain ⟨j, -, j0, j1, rfl⟩ := rRow_at hy
    exact wpAny_tests_nil ⟨rfl, S3⟩
  · intro C i v y z s3 Hc l' E' hy hv hz keep hC S3
    obtain ⟨j, -, j0, j1, rfl⟩ := rRow_at hy
    obtain rfl := Option.some.inj hz
    have k1 := keep c2 _ (upd_other (ne_fresh ha h2) h2)
    have k2 := keep q _ (upd_other (ne_fresh ha hq) hq)
    have g : (nums5 ns)[(1 : Int).toNat]? = some (.int (num5 ns 1) 0) := nums5_get (by decide)
    walk_at "m_st"
    all_goals first | assumption | rfl
  · intro D C s3 l' hD hC S3
    have e : (rRow 1 1 (many5 ns)).filterMap (onInt fun i => .int (10 + 10 * ((3 * i + num5 ns 1) % 11)) 0) = (List.range (many5 ns)).map fun i => Value.int (nm5 ns (i + 1)) 0 :=
      rRow_onInt fun i hi => by
        have e1 : nm5 ns (i + 1) = 10 + 10 * ((3 * (1 + (i : Int)) + num5 ns 1) % 11) := by
          unfold nm5; rw [if_neg (by omega)]; congr 4; omega
        rw [e1]
    rw [e] at hC S3
    refine comp_none S3 hC ((fr.fresh ha).fresh hD) ?_
    intro s4 S4
    have hDa := none_ne hD
    have hD0 := none_up hD
    walk_at "m_st"
    rename St _ _ _ _ => S5
    rename (_ = none) => hd
    have hd1 := none_ne hd
    have hd2 := none_ne (none_up hd)
    have hd0 := none_up (none_up hd)
    have nc4 := ne_fresh hd0 h3
    have e2 : [Value.int 0 0] ++ (List.range (many5 ns)).map (fun i => Value.int (nm5 ns (i + 1)) 0) = names5 ns := by
      unfold names5
      rw [List.range_succ_eq_map, List.map_cons, List.map_map]; rfl
    rw [List.cons_append, ← List.cons_append, e2] at S5
    exact k _ _ hd0 (S5.sub (by walk_at "m_sub") ((fr.fresh hd0).turn (upd_other nc4 h3) rfl))
theorem st3 {q : Nat} (S : St c envs H s) (hL : H L = some (.ns l)) (hm : l.lookup ("many" : Str) = some (.int (many5 ns) 0)) (h2 : H c2 = some (.cell (some (.ref q)))) (hq : H q = some (.list (nums5 ns))) (h4 : H c4 = some (.cell u)) (R : Rm A 40 400) (hh : A.handled = none)
    (k : ∀ (q : Nat) s', H q = none → St c envs (upd (upd H q (.list (above5 ns))) c4 (.cell (some (.ref q)))) s' → Q .next s') :
    wpAny (model PySem.Challenge.rw_bd0031_05.row.prog w) A (exec (lawSt 3) (lawEnv nm L a cd c1 c2 c3 c4)) Q E s := by
  show wpAny _ _ (exec (Stmt.Assign _ _ _) _) _ _ _
  have fr := S.frs
  walk_at "m_st"
  rename St _ _ _ _ => S1
  rename (upd _ _ _ _ = none) => hr
  rename (H _ = none) => ha
  have m1 := @many5_lo ns
  have m2 := @many5_hi ns
  refine iter_range1 S1 hr (many5 ns) (by omega) (by decide) (by omega) ?_
  intro it s2 hit S2
  clear S1
  refine comp_pure (row_range 1 1 (many5 ns)) (onInt fun i => .int (num5 ns (1 + i).toNat % i) 0) S2 hit trivial (.inl hh) (by rw [rRow_len]; omega) (by decide) rfl rfl ?_ ?_ ?_
  · intro C i v y s3 Hc l' E' hy hv keep hC S3
    obtain ⟨j, -, j0, j1, rfl⟩ := rRow_at hy
    exact wpAny_tests_nil ⟨rfl, S3⟩
  · intro C i v y z s3 Hc l' E' hy hv hz keep hC S3
    obtain ⟨j, -, j0, j1, rfl⟩ := rRow_at hy
    obtain rfl := Option.some.inj hz
    have k1 := keep c2 _ (upd_other (ne_fresh ha h2) h2)
    have k2 := keep q _ (upd_other (ne_fresh ha hq) hq)
    have g : (nums5 ns)[(1 + j).toNat]? = some (.int (num5 ns (1 + j).toNat) 0) := nums5_get (by omega)
    walk_at "m_st"
    all_goals first | assumption | rfl
  · intro D C s3 l' hD hC S3
    have e : (rRow 1 1 (many5 ns)).filterMap (onInt fun i => .int (num5 ns (1 + i).toNat % i) 0) = (List.range (many5 ns)).map fun i => Value.int (ab5 ns (i + 1)) 0 :=
      rRow_onInt fun i hi => by
        have e1 := @ab5_eq ns (i + 1) (by omega)
        have e2 : (1 + (1 + (i : Int))).toNat = 1 + (i + 1) := by omega
        have e3 : (1 + (i : Int)) = ((i + 1 : Nat) : Int) := by omega
        rw [e1, e2, e3]
    rw [e] at hC S3
    refine comp_none S3 hC ((fr.fresh ha).fresh hD) ?_
    intro s4 S4
    have hDa := none_ne hD
    have hD0 := none_up hD
    walk_at "m_st"
    rename St _ _ _ _ => S5
    rename (_ = none) => hd
    have hd1 := none_ne hd
    have hd2 := none_ne (none_up hd)
    have hd0 := none_up (none_up hd)
    have nc5 := ne_fresh hd0 h4
    have e2 : [Value.int 0 0] ++ (List.range (many5 ns)).map (fun i => Value.int (ab5 ns (i + 1)) 0) = above5 ns := by
      unfold above5
      rw [List.range_succ_eq_map, List.map_cons, List.map_map]; rfl
    rw [List.cons_append, ← List.cons_append, e2] at S5
    exact k _ _ hd0 (S5.sub (by walk_at "m_sub") ((fr.fresh hd0).turn (upd_other nc5 h4) rfl))
theorem st4 (S : St c envs H s) (hL : H L = some (.ns l)) (hm : l.lookup ("many" : Str) = some (.int (many5 ns) 0)) (R : Rm A 40 400) (hh : A.handled = none)
    (k : ∀ (q : Nat) s', H q = none → St c envs (upd (upd H q (.list (lv5 ns 0))) L (.ns (("leaves", .ref q) :: l))) s' → Q .next s') :
    wpAny (model PySem.Challenge.rw_bd0031_05.row.prog w) A (exec (lawSt 4) (lawEnv nm L a cd c1 c2 c3 c4)) Q E s := by
  show wpAny _ _ (exec (Stmt.Assign _ _ _) _) _ _ _
  have fr := S.frs
  have m1 := @many5_lo ns
  have m2 := @many5_hi ns
  walk_at "m_st"
  rename St _ _ _ _ => S1
  rename (upd _ _ _ _ = none) => hq
  have hq0 := none_up hq
  have hq1 := none_ne hq
  have nL := ne_fresh hq0 hL
  have e : (List.replicate ((many5 ns : Int) + 1).toNat [Value.int 0 0]).flatten = lv5 ns 0 := by
    have : ((many5 ns : Int) + 1).toNat = many5 ns + 1 := by omega
    rw [this, lm_rep_flat_one]
    refine List.ext_getElem? fun i => ?_
    rw [List.getElem?_replicate]
    by_cases hi : i < many5 ns + 1
    · rw [if_pos hi, lv5_get (by omega), lc5_zero (by omega)]; rfl
    · rw [if_neg hi, List.getElem?_eq_none (by rw [lv5_len]; omega)]
  rw [e] at S1
  exact k _ _ hq0 (S1.sub (by walk_at "m_sub") ((fr.fresh hq0).ns (upd_other nL hL)))
noncomputable def I5 (ns : List Int) (q i : Nat) (l : List (Str × Value)) (G : AH) : Prop :=
  l.lookup ("many" : Str) = some (.int (many5 ns) 0) ∧ l.lookup ("leaves" : Str) = some (.ref q) ∧ G = upd (fun _ => none) q (.list (lv5 ns i))
theorem st5 {q qa : Nat} (S : St c envs (join F (upd (fun _ => none) q (.list (lv5 ns 0)))) s) (hq : F q = none) (hL : F L = some (.ns l)) (hm : l.lookup ("many" : Str) = some (.int (many5 ns) 0)) (hl : l.lookup ("leaves" : Str) = some (.ref q)) (fr : Frs envs F)
    (h4 : F c4 = some (.cell (some (.ref qa)))) (ha : F qa = some (.list (above5 ns))) (R : Rm A 60 600) (hh : A.handled = none)
    (k : ∀ l' s', l'.lookup ("many" : Str) = some (.int (many5 ns) 0) → l'.lookup ("leaves" : Str) = some (.ref q) → St c envs (join (upd F L (.ns l')) (upd (fun _ => none) q (.list (lv5 ns (many5 ns))))) s' → Q .next s') :
    wpAny (model PySem.Challenge.rw_bd0031_05.row.prog w) A (exec (lawSt 5) (lawEnv nm L a cd c1 c2 c3 c4)) Q E s := by
  show wpAny _ _ (exec (Stmt.For _ _ _ _ _) _) _ _ _
  have m1 := @many5_lo ns
  have m2 := @many5_hi ns
  have dj : ∀ o, Dj F (upd (fun _ => none) q o) := fun o => Dj.nil.r hq
  refine wpAny_For ?_
  have gL := join_l (G := upd (fun _ => none) q (.list (lv5 ns 0))) hL
  walk_at "m_st"
  rename St _ _ _ _ => S1
  rename (join _ _ _ = none) => hr
  refine iter_rangeD S1 hr (by omega) ?_
  intro it s2 hit S2
  clear S1
  refine for_tree (row_range (many5 ns) (-1) (many5 ns)) (I5 ns q) S2 hit hL fr (dj _) ⟨hm, hl, rfl⟩ (fun _ _ _ _ _ => trivial) hh ?_ ?_
  · rintro i F2 l' _ s3 y ⟨q1, q2, rfl⟩ hx kp hL2 dj2 fr2 S3 QB EB hQB
    obtain ⟨hi, rfl⟩ := rRow_get hx
    obtain ⟨v, hv⟩ : ∃ v, v = many5 ns - i := ⟨_, rfl⟩
    have ev : (many5 ns : Int) + (i : Int) * -1 = (v : Int) := by omega
    rw [ev] at hL2
    have gL := join_l (G := upd (fun _ => none) q (.list (lv5 ns i))) hL2
    have g4 := join_l (G := upd (fun _ => none) q (.list (lv5 ns i))) (kp _ _ (ne_kind h4 hL (by intro z; cases z)) h4)
    have ga := join_l (G := upd (fun _ => none) q (.list (lv5 ns i))) (kp _ _ (ne_kind ha hL (by intro z; cases z)) ha)
    have gq : join F2 (upd (fun _ => none) q (.list (lv5 ns i))) q = some (.list (lv5 ns i)) := join_r dj2 (upd_self ..)
    have e1 : (lv5 ns i)[(v : Int).toNat]? = some (.int (lc5 ns i v : Int) 0) := by rw [Int.toNat_natCast]; exact lv5_get (by omega)
    have e2 : (above5 ns)[(v : Int).toNat]? = some (.int (ab5 ns v) 0) := by rw [Int.toNat_natCast]; exact above5_get (by omega)
    have la := @ab5_lt ns v (by omega)
    have ll := @lv5_len ns i
    have em : (if (1 : Int) > (lc5 ns i v : Int) then (1 : Int) else (lc5 ns i v : Int)) = (lf5 ns v : Int) := by rw [hv]; exact lc5_at (by omega)
    walk_at "m_st"
    rename St _ _ _ _ => S4
    refine max_two5 S4 hh gL fun tm s5 S5 => ?_
    clear S4
    rw [em]
    have e3 : ((lv5 ns i).set (v : Int).toNat (.int (lf5 ns v : Int) 0))[((ab5 ns v : Nat) : Int).toNat]? = some (.int (lc5 ns i (ab5 ns v) : Int) 0) := by
      rw [Int.toNat_natCast, Int.toNat_natCast, List.getElem?_set, if_neg (by omega)]; exact lv5_get (by omega)
    have e4 : ((lv5 ns i).set (v : Int).toNat (.int (lf5 ns v : Int) 0))[(v : Int).toNat]? = some (.int (lf5 ns v : Int) 0) := by
      rw [List.getElem?_set, if_pos rfl, if_pos (by rw [ll]; omega)]
    walk_at "m_st"
    rename St _ _ _ _ => S6
    have fq : F2 q = none := dj2 _ _ (upd_self ..)
    have es := lv5_step (ns := ns) (i := i) hi
    rw [← hv] at es
    rw [upd_upd, upd_join_r fq, upd_upd, Int.toNat_natCast, Int.toNat_natCast, es] at S6
    refine ⟨("v", .int (v : Int) 0) :: l', _, ⟨q1, q2, rfl⟩, Dj.nil.r fq, ?_⟩
    rw [upd_id hL2]
    exact S6
  · rintro l' _ s3 ⟨h1, h2, rfl⟩ h3 S3
    rw [rRow_len] at S3
    walk_at "m_st"
    exact k _ _ h1 h2 S3
theorem st6 (S : St c envs F s) (hL : F L = some (.ns l)) (R : Rm A 40 400) (hh : A.handled = none)
    (k : ∀ (pt po : Nat) G1 G2 s', Dj F G1 → Dj (join F G1) G2 → PTree 253 347 Mo.root [0] pt G1 → PTree 253 347 Mo.root [0] po G2 → St c envs (join (join (upd F L (.ns (("tree", .ref pt) :: ("other", .ref po) :: l))) G1) G2) s' → Q .next s') :
    wpAny (model PySem.Challenge.rw_bd0031_05.row.prog w) A (exec (lawSt 6) (lawEnv nm L a cd c1 c2 c3 c4)) Q E s := by
  show wpAny _ _ (exec (Stmt.Assign _ _ _) _) _ _ _
  have fr := S.frs
  walk_at "m_st"
  rename St _ _ _ _ => S1
  refine wpAny_call ?_
  refine tree_new S1 (by walk_at "m_R") ?_
  intro pt G1 s2 dj1 t1 S2
  (try dsimp only)
  walk_at "m_st"
  rename St _ _ _ _ => S3
  refine wpAny_call ?_
  refine tree_new S3 (by walk_at "m_R") ?_
  intro po G2 s4 dj2 t2 S4
  have hL2 := join_l (G := G2) (join_l (G := G1) hL)
  (try dsimp only)
  walk_at "m_st"
  rename St _ _ _ _ => S5
  rename (_ = none) => ht
  clear S1 S3
  refine unpackItems_ S5 (upd_self ..) (.inl hh) (fun vs s' hvs S6 => ?_) rfl
  clear S5
  obtain ⟨v1, v2, rfl, h1, h2⟩ := map_two hvs
  have h1 := er_ref h1
  have h2 := er_ref h2
  subst h1 h2
  walk_at "m_st"
  rename St _ _ _ _ => S7
  have nL := ne_fresh ht hL2
  change St c envs (upd (upd _ L _) L _) _ at S7
  rw [upd_upd] at S7
  refine k _ _ _ _ _ dj1 dj2 t1 t2 (S7.sub ?_ (fr.ns hL).join.join)
  rw [← upd_join, ← upd_join]
  walk_at "m_sub"
end
end
section
noncomputable def b7 (i : Nat) : Stmt := (forBody (lawSt 7)).getD i default
noncomputable def t7 (i : Nat) : Stmt := (ifThen (b7 2)).getD i default
noncomputable def e7 (i : Nat) : Stmt := (ifElse (b7 2)).getD i default
section
variable {w : World} {c : Cx PySem.Challenge.rw_bd0031_05.row.prog w (MineTop.hd.heap_39 w.params)} {envs : List Env} {H F G : AH} {A : Around} {Q : Flow → Shared → Prop} {E : Value → Shared → Prop} {s : Shared} {nm : Str} {L a c1 c2 c3 c4 sa qn qm qa : Nat} {cd : Value} {ns : List Int} {l : List (Str × Value)} {u : Option Value}
theorem b7_0 {ql v : Nat} (S : St c envs H s) (hL : H L = some (.ns l)) (y : Ly5 ns H c2 c3 c4 qn qm qa) (h1 : l.lookup ("leaves" : Str) = some (.ref ql)) (h2 : l.lookup ("v" : Str) = some (.int (v : Int) 0)) (hq : H ql = some (.list (lv5 ns (many5 ns)))) (v1 : 1 ≤ v) (v2 : v ≤ many5 ns) (R : Rm A 60 600) (hh : A.handled = none)
    (k : ∀ s', St c envs (upd H L (.ns (("weight", .int (wt5 ns v) 0) :: l))) s' → Q .next s') :
    wpAny (model PySem.Challenge.rw_bd0031_05.row.prog w) A (exec (b7 0) (lawEnv nm L a cd c1 c2 c3 c4)) Q E s := by
  show wpAny _ _ (exec (Stmt.Assign _ _ _) _) _ _ _
  have m2 := @many5_hi ns
  obtain ⟨y2, yn, -, -, y4, ya⟩ := y
  have e1 : (lv5 ns (many5 ns))[(v : Int).toNat]? = some (.int (lc5 ns (many5 ns) v : Int) 0) := by rw [Int.toNat_natCast]; exact lv5_get v2
  have e2 : (above5 ns)[(v : Int).toNat]? = some (.int (ab5 ns v) 0) := by rw [Int.toNat_natCast]; exact above5_get v2
  have la := @ab5_lt ns v v1
  have e3 : (nums5 ns)[(10 + (ab5 ns v : Int)).toNat]? = some (.int (num5 ns (10 + ab5 ns v)) 0) := by rw [show (10 + (ab5 ns v : Int)).toNat = 10 + ab5 ns v by omega]; exact nums5_get (by omega)
  have lb := lf5_le v1 v2
  rw [← lc5_end v2] at lb
  have ew := wt5_at v1 v2
  walk_at "m_st"
  rename St _ _ _ _ => S5
  rw [ew] at S5
  exact k _ S5
theorem b7_1 {pt v : Nat} (S : St c envs (join F G) s) (hL : F L = some (.ns l)) (fr : Frs envs F) (dj : Dj F G) (y : Ly5 ns F c2 c3 c4 qn qm qa) (h1 : l.lookup ("tree" : Str) = some (.ref pt)) (h2 : l.lookup ("v" : Str) = some (.int ((v + 1 : Nat) : Int) 0)) (h3 : l.lookup ("weight" : Str) = some (.int (wt5 ns (v + 1)) 0))
    (v2 : v < many5 ns) (t : PTree 253 347 ((g5 ns).M v) (ksG (g5 ns) v) pt G) (R : Rm A 60 600) (hh : A.handled = none)
    (k : ∀ G' s', Dj F G' → PTree 253 347 ((g5 ns).M (v + 1)) (ksG (g5 ns) (v + 1)) pt G' → St c envs (join F G') s' → Q .next s') :
    wpAny (model PySem.Challenge.rw_bd0031_05.row.prog w) A (exec (b7 1) (lawEnv nm L a cd c1 c2 c3 c4)) Q E s := by
  show wpAny _ _ (exec (Stmt.Expr _ _) _) _ _ _
  have gL := join_l (G := G) hL
  obtain ⟨-, -, y3, ym, y4, ya⟩ := y.j (G := G)
  obtain ⟨P, dd, Gt, p, f1, f2, -, -, ej⟩ := t.split dj
  have gpt : join F G pt = some (.inst 347 (pfl P dd)) := by rw [ej]; exact join_l (upd_other p.ne (upd_self ..))
  have e1 : (names5 ns)[((v + 1 : Nat) : Int).toNat]? = some (.int (nm5 ns (v + 1)) 0) := by rw [Int.toNat_natCast]; exact names5_get v2
  have e2 : (above5 ns)[((v + 1 : Nat) : Int).toNat]? = some (.int (ab5 ns (v + 1)) 0) := by rw [Int.toNat_natCast]; exact above5_get v2
  have la := @ab5_lt ns (v + 1) (by omega)
  have e3 : (names5 ns)[((ab5 ns (v + 1) : Nat) : Int).toNat]? = some (.int (nm5 ns (ab5 ns (v + 1))) 0) := by rw [Int.toNat_natCast]; exact names5_get (by omega)
  have m2 := @many5_hi ns
  walk_at "m_st"
  rename St _ _ _ _ => S5
  refine gg_insert S5 (by walk_at "m_R") fr dj t v2 rfl rfl rfl ?_
  intro G' s' dj' t' S'
  walk_at "m_st"
  exact k G' _ dj' t' S'
theorem t7_0 {v : Nat} (S : St c envs H s) (hL : H L = some (.ns l)) (y : Ly5 ns H c2 c3 c4 qn qm qa) (h2 : l.lookup ("v" : Str) = some (.int (v : Int) 0)) (v1 : 1 ≤ v) (v2 : v ≤ many5 ns) (R : Rm A 60 600) (hh : A.handled = none)
    (k : ∀ s', St c envs (upd H L (.ns (("link", .int (li5 ns v) 0) :: l))) s' → Q .next s') :
    wpAny (model PySem.Challenge.rw_bd0031_05.row.prog w) A (exec (t7 0) (lawEnv nm L a cd c1 c2 c3 c4)) Q E s := by
  show wpAny _ _ (exec (Stmt.Assign _ _ _) _) _ _ _
  have m2 := @many5_hi ns
  obtain ⟨y2, yn, y3, ym, -, -⟩ := y
  have e1 : (names5 ns)[(v : Int).toNat]? = some (.int (nm5 ns v) 0) := by rw [Int.toNat_natCast]; exact names5_get v2
  have e2 : (nums5 ns)[(19 : Int).toNat]? = some (.int (num5 ns 19) 0) := nums5_get (by decide)
  have hp1 : (0 : Int) < 2 ^ (v : Int).toNat := Int.pow_pos (by decide)
  have hp2 : (2 : Int) ^ (v : Int).toNat < 1073741824 := by
    rw [Int.toNat_natCast]
    have : (2 : Nat) ^ v ≤ 2 ^ 8 := Nat.pow_le_pow_right (by decide) (by omega)
    have e : (2 : Int) ^ v = ((2 ^ v : Nat) : Int) := by simp
    rw [e]; omega
  have hl : li5 ns v = nm5 ns v + (if (num5 ns 19 / 2 ^ (v : Int).toNat) % 2 = 1 then 1 else -1) := by rw [Int.toNat_natCast]; rfl
  rw [hl] at k
  walk_at "m_st"
  all_goals
    rename St _ _ _ _ => S5
    first
    | (rename (num5 ns 19 / _ % 2 = 1) => hq
       rw [if_pos hq] at k
       exact k _ S5)
    | (rename (¬ _ = (1 : Int)) => hq
       rw [if_neg hq] at k
       exact k _ S5)
theorem t7_1 {po v : Nat} (S : St c envs (join F G) s) (hL : F L = some (.ns l)) (fr : Frs envs F) (dj : Dj F G) (y : Ly5 ns F c2 c3 c4 qn qm qa) (h1 : l.lookup ("other" : Str) = some (.ref po)) (h2 : l.lookup ("v" : Str) = some (.int ((v + 1 : Nat) : Int) 0)) (h3 : l.lookup ("weight" : Str) = some (.int (wt5 ns (v + 1)) 0)) (h5 : l.lookup ("link" : Str) = some (.int (li5 ns (v + 1)) 0))
    (v2 : v < many5 ns) (hlk : lk5 ns (v + 1) = true) (t : PTree 253 347 ((o5 ns).M (pos5 ns v)) (ksG (o5 ns) (pos5 ns v)) po G) (R : Rm A 60 600) (hh : A.handled = none)
    (k : ∀ G' s', Dj F G' → PTree 253 347 ((o5 ns).X ((o5 ns).M (pos5 ns v)) (pos5 ns v)) (ksG (o5 ns) (pos5 ns v + 1)) po G' → St c envs (join F G') s' → Q .next s') :
    wpAny (model PySem.Challenge.rw_bd0031_05.row.prog w) A (exec (t7 1) (lawEnv nm L a cd c1 c2 c3 c4)) Q E s := by
  show wpAny _ _ (exec (Stmt.Expr _ _) _) _ _ _
  have gL := join_l (G := G) hL
  obtain ⟨-, -, y3, ym, y4, ya⟩ := y.j (G := G)
  obtain ⟨P, dd, Gt, p, f1, f2, -, -, ej⟩ := t.split dj
  have gpt : join F G po = some (.inst 347 (pfl P dd)) := by rw [ej]; exact join_l (upd_other p.ne (upd_self ..))
  have e2 : (above5 ns)[((v + 1 : Nat) : Int).toNat]? = some (.int (ab5 ns (v + 1)) 0) := by rw [Int.toNat_natCast]; exact above5_get v2
  have la := @ab5_lt ns (v + 1) (by omega)
  have e3 : (names5 ns)[((ab5 ns (v + 1) : Nat) : Int).toNat]? = some (.int (nm5 ns (ab5 ns (v + 1))) 0) := by rw [Int.toNat_natCast]; exact names5_get (by omega)
  have m2 := @many5_hi ns
  have ll := ot5_link (ns := ns) (v := v + 1) (by omega) v2 hlk
  have lp := pos5_lk (ns := ns) (v := v + 1) (by omega) hlk
  rw [show v + 1 - 1 = v by omega] at lp
  rw [show pos5 ns (v + 1) - 1 = pos5 ns v + 1 by omega] at ll
  have hm : pos5 ns v < (o5 ns).m := by have := pos5_le (ns := ns) (show v + 1 ≤ many5 ns by omega); show pos5 ns v < pos5 ns (many5 ns); omega
  walk_at "m_st"
  rename St _ _ _ _ => S5
  refine gg_insert (g := o5 ns) S5 (by walk_at "m_R") fr dj t hm ?_ ?_ ?_ ?_
  · show _ = (ot5 ns (pos5 ns v + 1)).nm; rw [ll]
  · show _ = (ot5 ns (ot5 ns (pos5 ns v + 1)).ab).nm; rw [ll, o5_nm (by omega)]
  · show _ = (ot5 ns (pos5 ns v + 1)).wt; rw [ll]
  intro G' s' dj' t' S'
  walk_at "m_st"
  exact k G' _ dj' t' S'
theorem t7_2 {po v : Nat} (S : St c envs (join F G) s) (hL : F L = some (.ns l)) (fr : Frs envs F) (dj : Dj F G) (h1 : l.lookup ("other" : Str) = some (.ref po)) (h5 : l.lookup ("link" : Str) = some (.int (li5 ns (v + 1)) 0))
    (v2 : v < many5 ns) (hlk : lk5 ns (v + 1) = true) (t : PTree 253 347 ((o5 ns).X ((o5 ns).M (pos5 ns v)) (pos5 ns v)) (ksG (o5 ns) (pos5 ns v + 1)) po G) (R : Rm A 60 600) (hh : A.handled = none)
    (k : ∀ G' s', Dj F G' → PTree 253 347 ((o5 ns).M (pos5 ns v + 1)) (ksG (o5 ns) (pos5 ns v + 1)) po G' → St c envs (join F G') s' → Q .next s') :
    wpAny (model PySem.Challenge.rw_bd0031_05.row.prog w) A (exec (t7 2) (lawEnv nm L a cd c1 c2 c3 c4)) Q E s := by
  show wpAny _ _ (exec (Stmt.Expr _ _) _) _ _ _
  have gL := join_l (G := G) hL
  obtain ⟨P, dd, Gt, p, f1, f2, -, -, ej⟩ := t.split dj
  have gpt : join F G po = some (.inst 347 (pfl P dd)) := by rw [ej]; exact join_l (upd_other p.ne (upd_self ..))
  have ll := ot5_link (ns := ns) (v := v + 1) (by omega) v2 hlk
  have lp := pos5_lk (ns := ns) (v := v + 1) (by omega) hlk
  rw [show v + 1 - 1 = v by omega] at lp
  rw [show pos5 ns (v + 1) - 1 = pos5 ns v + 1 by omega] at ll
  have hm : pos5 ns v < (o5 ns).m := by have := pos5_le (ns := ns) (show v + 1 ≤ many5 ns by omega); show pos5 ns v < pos5 ns (many5 ns); omega
  walk_at "m_st"
  rename St _ _ _ _ => S5
  refine gg_block (g := o5 ns) S5 (by walk_at "m_R") fr dj t hm ?_ ?_ ?_
  · show _ = (ot5 ns (pos5 ns v + 1)).nm; rw [ll]
  · show (ot5 ns (pos5 ns v + 1)).ac = false; rw [ll]
  intro G' s' dj' t' S'
  walk_at "m_st"
  exact k G' _ dj' t' S'
theorem t7_3 {po v : Nat} (S : St c envs (join F G) s) (hL : F L = some (.ns l)) (fr : Frs envs F) (dj : Dj F G) (y : Ly5 ns F c2 c3 c4 qn qm qa) (h1 : l.lookup ("other" : Str) = some (.ref po)) (h2 : l.lookup ("v" : Str) = some (.int ((v + 1 : Nat) : Int) 0)) (h5 : l.lookup ("link" : Str) = some (.int (li5 ns (v + 1)) 0))
    (v2 : v < many5 ns) (hlk : lk5 ns (v + 1) = true) (t : PTree 253 347 ((o5 ns).M (pos5 ns v + 1)) (ksG (o5 ns) (pos5 ns v + 1)) po G) (R : Rm A 60 600) (hh : A.handled = none)
    (k : ∀ G' s', Dj F G' → PTree 253 347 ((o5 ns).M (pos5 ns (v + 1))) (ksG (o5 ns) (pos5 ns (v + 1))) po G' → St c envs (join F G') s' → Q .next s') :
    wpAny (model PySem.Challenge.rw_bd0031_05.row.prog w) A (exec (t7 3) (lawEnv nm L a cd c1 c2 c3 c4)) Q E s := by
  show wpAny _ _ (exec (Stmt.Expr _ _) _) _ _ _
  have gL := join_l (G := G) hL
  obtain ⟨y2, yn, y3, ym, -, -⟩ := y.j (G := G)
  obtain ⟨P, dd, Gt, p, f1, f2, -, -, ej⟩ := t.split dj
  have gpt : join F G po = some (.inst 347 (pfl P dd)) := by rw [ej]; exact join_l (upd_other p.ne (upd_self ..))
  have e1 : (names5 ns)[((v + 1 : Nat) : Int).toNat]? = some (.int (nm5 ns (v + 1)) 0) := by rw [Int.toNat_natCast]; exact names5_get v2
  have e2 : (nums5 ns)[(19 : Int).toNat]? = some (.int (num5 ns 19) 0) := nums5_get (by decide)
  have m2 := @many5_hi ns
  have ll := ot5_link (ns := ns) (v := v + 1) (by omega) v2 hlk
  have ls := ot5_stream (ns := ns) (v := v + 1) (by omega) v2
  rw [hlk] at ls
  have lp := pos5_lk (ns := ns) (v := v + 1) (by omega) hlk
  rw [show v + 1 - 1 = v by omega] at lp
  rw [show pos5 ns (v + 1) - 1 = pos5 ns v + 1 by omega] at ll ls
  rw [show pos5 ns (v + 1) = pos5 ns v + 1 + 1 by omega] at ls k
  have hm : pos5 ns v + 1 < (o5 ns).m := by have := pos5_le (ns := ns) (show v + 1 ≤ many5 ns by omega); show pos5 ns v + 1 < pos5 ns (many5 ns); omega
  walk_at "m_st"
  rename St _ _ _ _ => S5
  refine gg_insert (g := o5 ns) S5 (by walk_at "m_R") fr dj t hm ?_ ?_ ?_ ?_
  · show _ = (ot5 ns (pos5 ns v + 1 + 1)).nm; rw [ls]
  · show _ = (ot5 ns (ot5 ns (pos5 ns v + 1 + 1)).ab).nm; rw [ls]; show _ = (ot5 ns (pos5 ns v + 1)).nm; rw [ll]
  · show _ = (ot5 ns (pos5 ns v + 1 + 1)).wt; rw [ls]; rfl
  intro G' s' dj' t' S'
  walk_at "m_st"
  have eM : (o5 ns).M (pos5 ns v + 1 + 1) = (o5 ns).X ((o5 ns).M (pos5 ns v + 1)) (pos5 ns v + 1) := by
    show (if (ot5 ns (pos5 ns v + 1 + 1)).ac then _ else _) = _
    rw [ls]; rfl
  rw [← eM] at t'
  exact k G' _ dj' t' S'
theorem e7_0 {po v : Nat} (S : St c envs (join F G) s) (hL : F L = some (.ns l)) (fr : Frs envs F) (dj : Dj F G) (y : Ly5 ns F c2 c3 c4 qn qm qa) (h1 : l.lookup ("other" : Str) = some (.ref po)) (h2 : l.lookup ("v" : Str) = some (.int ((v + 1 : Nat) : Int) 0)) (h3 : l.lookup ("weight" : Str) = some (.int (wt5 ns (v + 1)) 0))
    (v2 : v < many5 ns) (hlk : lk5 ns (v + 1) = false) (t : PTree 253 347 ((o5 ns).M (pos5 ns v)) (ksG (o5 ns) (pos5 ns v)) po G) (R : Rm A 60 600) (hh : A.handled = none)
    (k : ∀ G' s', Dj F G' → PTree 253 347 ((o5 ns).M (pos5 ns (v + 1))) (ksG (o5 ns) (pos5 ns (v + 1))) po G' → St c envs (join F G') s' → Q .next s') :
    wpAny (model PySem.Challenge.rw_bd0031_05.row.prog w) A (exec (e7 0) (lawEnv nm L a cd c1 c2 c3 c4)) Q E s := by
  show wpAny _ _ (exec (Stmt.Expr _ _) _) _ _ _
  have gL := join_l (G := G) hL
  obtain ⟨-, -, y3, ym, y4, ya⟩ := y.j (G := G)
  obtain ⟨P, dd, Gt, p, f1, f2, -, -, ej⟩ := t.split dj
  have gpt : join F G po = some (.inst 347 (pfl P dd)) := by rw [ej]; exact join_l (upd_other p.ne (upd_self ..))
  have e1 : (names5 ns)[((v + 1 : Nat) : Int).toNat]? = some (.int (nm5 ns (v + 1)) 0) := by rw [Int.toNat_natCast]; exact names5_get v2
  have e2 : (above5 ns)[((v + 1 : Nat) : Int).toNat]? = some (.int (ab5 ns (v + 1)) 0) := by rw [Int.toNat_natCast]; exact above5_get v2
  have la := @ab5_lt ns (v + 1) (by omega)
  have e3 : (names5 ns)[((ab5 ns (v + 1) : Nat) : Int).toNat]? = some (.int (nm5 ns (ab5 ns (v + 1))) 0) := by rw [Int.toNat_natCast]; exact names5_get (by omega)
  have m2 := @many5_hi ns
  have ls := ot5_stream (ns := ns) (v := v + 1) (by omega) v2
  rw [hlk] at ls
  have lp := pos5_nl (ns := ns) (v := v + 1) (by omega) hlk
  rw [show v + 1 - 1 = v by omega] at lp
  rw [lp] at ls k
  have hm : pos5 ns v < (o5 ns).m := by have := pos5_le (ns := ns) (show v + 1 ≤ many5 ns by omega); show pos5 ns v < pos5 ns (many5 ns); omega
  walk_at "m_st"
  rename St _ _ _ _ => S5
  refine gg_insert (g := o5 ns) S5 (by walk_at "m_R") fr dj t hm ?_ ?_ ?_ ?_
  · show _ = (ot5 ns (pos5 ns v + 1)).nm; rw [ls]
  · show _ = (ot5 ns (ot5 ns (pos5 ns v + 1)).ab).nm; rw [ls]; exact (o5_nm (by omega)).symm
  · show _ = (ot5 ns (pos5 ns v + 1)).wt; rw [ls]; rfl
  intro G' s' dj' t' S'
  walk_at "m_st"
  have eM : (o5 ns).M (pos5 ns v + 1) = (o5 ns).X ((o5 ns).M (pos5 ns v)) (pos5 ns v) := by
    show (if (ot5 ns (pos5 ns v + 1)).ac then _ else _) = _
    rw [ls]; rfl
  rw [← eM] at t'
  exact k G' _ dj' t' S'
end
end
section
theorem body7 : forBody (lawSt 7) = [b7 0, b7 1, b7 2] := rfl
theorem then7 : ifThen (b7 2) = [t7 0, t7 1, t7 2, t7 3] := rfl
theorem else7 : ifElse (b7 2) = [e7 0] := rfl
section
variable {w : World} {c : Cx PySem.Challenge.rw_bd0031_05.row.prog w (MineTop.hd.heap_39 w.params)} {envs : List Env} {H F G : AH} {A : Around} {Q : Flow → Shared → Prop} {E : Value → Shared → Prop} {s : Shared} {nm : Str} {L a c1 c2 c3 c4 sa qn qm qa : Nat} {cd : Value} {ns : List Int} {l : List (Str × Value)} {u : Option Value}
theorem b7_2 {po v : Nat} (S : St c envs (join F G) s) (hL : F L = some (.ns l)) (fr : Frs envs F) (dj : Dj F G) (y : Ly5 ns F c2 c3 c4 qn qm qa) (h1 : l.lookup ("other" : Str) = some (.ref po)) (h2 : l.lookup ("v" : Str) = some (.int ((v + 1 : Nat) : Int) 0)) (h3 : l.lookup ("weight" : Str) = some (.int (wt5 ns (v + 1)) 0))
    (v2 : v < many5 ns) (t : PTree 253 347 ((o5 ns).M (pos5 ns v)) (ksG (o5 ns) (pos5 ns v)) po G) (R : Rm A 60 600) (hh : A.handled = none)
    (k : ∀ l' G' s', (l' = l ∨ ∃ z, l' = (("link" : Str), z) :: l) → Dj (upd F L (.ns l')) G' → PTree 253 347 ((o5 ns).M (pos5 ns (v + 1))) (ksG (o5 ns) (pos5 ns (v + 1))) po G' → St c envs (join (upd F L (.ns l')) G') s' → Q .next s') :
    wpAny (model PySem.Challenge.rw_bd0031_05.row.prog w) A (exec (b7 2) (lawEnv nm L a cd c1 c2 c3 c4)) Q E s := by
  show wpAny _ _ (exec (Stmt.If _ _ _ _) _) _ _ _
  have gL := join_l (G := G) hL
  have yj := y.j (G := G)
  obtain ⟨y2, yn, y3, ym, -, -⟩ := y.j (G := G)
  have m2 := @many5_hi ns
  have e2 : (nums5 ns)[(18 : Int).toNat]? = some (.int (num5 ns 18) 0) := nums5_get (by decide)
  have hp1 : (0 : Int) < 2 ^ (((v + 1 : Nat) : Int)).toNat := Int.pow_pos (by decide)
  have hp2 : (2 : Int) ^ (((v + 1 : Nat) : Int)).toNat < 1073741824 := by
    rw [Int.toNat_natCast]
    have : (2 : Nat) ^ (v + 1) ≤ 2 ^ 8 := Nat.pow_le_pow_right (by decide) (by omega)
    have e : (2 : Int) ^ (v + 1) = ((2 ^ (v + 1) : Nat) : Int) := by simp
    rw [e]; omega
  refine if_at (c := c) (envs := envs) (H := join F G) (lk5 ns (v + 1)) ?_ ?_
  · walk_at "m_st"
    all_goals assumption
  · intro s1 S1
    clear S
    cases hlk : lk5 ns (v + 1) with
    | false =>
      show wpAny _ _ (execs (ifElse (b7 2)) _) _ _ _
      rw [else7]
      refine execs_cons_h ?_
      intro QS1 hQS1
      refine e7_0 S1 hL fr dj y h1 h2 h3 v2 hlk t R hh ?_
      intro G' s2 dj' t' S2
      refine unhide hQS1 ?_
      dsimp only
      walk_at "m_st"
      refine k l G' _ (.inl rfl) ?_ t' ?_ <;> rw [upd_id hL] <;> assumption
    | true =>
      show wpAny _ _ (execs (ifThen (b7 2)) _) _ _ _
      rw [then7]
      refine execs_cons_h ?_
      intro QS1 hQS1
      refine t7_0 S1 gL yj h2 (by omega) (by omega) R hh ?_
      intro s2 S2
      refine unhide hQS1 ?_
      dsimp only
      clear S1
      rw [upd_join] at S2
      obtain ⟨l2, hl2⟩ : ∃ l2 : List (Str × Value), l2 = (("link" : Str), Value.int (li5 ns (v + 1)) 0) :: l := ⟨_, rfl⟩
      obtain ⟨F2, hF2⟩ : ∃ F2, F2 = upd F L (.ns l2) := ⟨_, rfl⟩
      rw [← hl2, ← hF2] at S2
      have hL2 : F2 L = some (.ns l2) := by rw [hF2]; exact upd_self ..
      have fr2 : Frs envs F2 := by rw [hF2]; exact fr.ns hL
      have dj2 : Dj F2 G := by rw [hF2]; exact dj.l (dj.has hL)
      have yy : Ly5 ns F2 c2 c3 c4 qn qm qa := by rw [hF2]; exact y.up hL
      have k1 : l2.lookup ("other" : Str) = some (.ref po) := by rw [hl2]; exact h1
      have k2 : l2.lookup ("v" : Str) = some (.int ((v + 1 : Nat) : Int) 0) := by rw [hl2]; exact h2
      have k3 : l2.lookup ("weight" : Str) = some (.int (wt5 ns (v + 1)) 0) := by rw [hl2]; exact h3
      have k5 : l2.lookup ("link" : Str) = some (.int (li5 ns (v + 1)) 0) := by rw [hl2]; rfl
      refine execs_cons_h ?_
      intro QS2 hQS2
      refine t7_1 S2 hL2 fr2 dj2 yy k1 k2 k3 k5 v2 hlk t R hh ?_
      intro G3 s3 dj3 t3 S3
      refine unhide hQS2 ?_
      dsimp only
      refine execs_cons_h ?_
      intro QS3 hQS3
      refine t7_2 S3 hL2 fr2 dj3 k1 k5 v2 hlk t3 R hh ?_
      intro G4 s4 dj4 t4 S4
      refine unhide hQS3 ?_
      dsimp only
      refine execs_cons_h ?_
      intro QS4 hQS4
      refine t7_3 S4 hL2 fr2 dj4 yy k1 k2 k5 v2 hlk t4 R hh ?_
      intro G5 s5 dj5 t5' S5
      refine unhide hQS4 ?_
      dsimp only
      walk_at "m_st"
      refine k l2 G5 _ (.inr ⟨_, hl2⟩) ?_ t5' ?_ <;> rw [← hF2] <;> assumption
structure Lk7 (ns : List Int) (ql pt po : Nat) (l : List (Str × Value)) : Prop where
  many : l.lookup ("many" : Str) = some (.int (many5 ns) 0)
  leaves : l.lookup ("leaves" : Str) = some (.ref ql)
  tree : l.lookup ("tree" : Str) = some (.ref pt)
  other : l.lookup ("other" : Str) = some (.ref po)
noncomputable def I7 (ns : List Int) (ql pt po i : Nat) (l : List (Str × Value)) (G : AH) : Prop :=
  Lk7 ns ql pt po l ∧ ∃ G1 G2, G = join G1 G2 ∧ Dj G1 G2 ∧ PTree 253 347 ((g5 ns).M i) (ksG (g5 ns) i) pt G1 ∧ PTree 253 347 ((o5 ns).M (pos5 ns i)) (ksG (o5 ns) (pos5 ns i)) po G2
theorem st7 {ql pt po : Nat} (S : St c envs (join F G) s) (hL : F L = some (.ns l)) (fr : Frs envs F) (dj : Dj F G) (hI : I7 ns ql pt po 0 l G) (y : Ly5 ns F c2 c3 c4 qn qm qa) (hq : F ql = some (.list (lv5 ns (many5 ns)))) (R : Rm A 60 600) (hh : A.handled = none)
    (k : ∀ l' G' s', I7 ns ql pt po (many5 ns) l' G' → Dj F G' → St c envs (join (upd F L (.ns l')) G') s' → Q .next s') :
    wpAny (model PySem.Challenge.rw_bd0031_05.row.prog w) A (exec (lawSt 7) (lawEnv nm L a cd c1 c2 c3 c4)) Q E s := by
  show wpAny _ _ (exec (Stmt.For _ _ _ _ _) _) _ _ _
  have m1 := @many5_lo ns
  have m2 := @many5_hi ns
  refine wpAny_For ?_
  have gL := join_l (G := G) hL
  have lk1 := hI.1.many
  walk_at "m_st"
  rename St _ _ _ _ => S1
  rename (join _ _ _ = none) => hr
  refine iter_range1 S1 hr (many5 ns) (by omega) (by decide) (by omega) ?_
  intro it s2 hit S2
  clear S1
  refine for_tree (row_range 1 1 (many5 ns)) (I7 ns ql pt po) S2 hit hL fr dj hI (fun _ _ _ _ _ => trivial) hh ?_ ?_
  · rintro i F2 l' _ s3 y' ⟨q, G1, G2, rfl, d, t1, t2⟩ hx kp hL2 dj2 fr2 S3 QB EB hQB
    obtain ⟨hi, rfl⟩ := rRow_get hx
    have ev : (1 : Int) + (i : Int) * 1 = ((i + 1 : Nat) : Int) := by omega
    rw [ev] at hL2
    have yy := y.kp kp hL
    have hq2 := kp _ _ (ne_kind hq hL (by intro z; cases z)) hq
    have d1 : Dj F2 G1 := dj2.to_l
    have dG : Dj F2 G2 := fun a o h => dj2 a o (join_r d h)
    have d2 : Dj (join F2 G1) G2 := dG.joinl d
    rw [← join_assoc] at S3
    show wpAny _ _ (execs (forBody (lawSt 7)) _) _ _ _
    rw [body7]
    refine execs_cons_h ?_
    intro QS1 hQS1
    refine b7_0 (v := i + 1) S3 (join_l (join_l hL2)) yy.j.j q.leaves rfl (join_l (join_l hq2)) (by omega) (by omega) R hh ?_
    intro s4 S4
    refine unhide hQS1 ?_
    dsimp only
    clear S3
    rw [upd_join, upd_join] at S4
    obtain ⟨l3, hl3⟩ : ∃ l3 : List (Str × Value), l3 = (("weight" : Str), Value.int (wt5 ns (i + 1)) 0) :: ("v", .int ((i + 1 : Nat) : Int) 0) :: l' := ⟨_, rfl⟩
    rw [← hl3] at S4
    obtain ⟨F3, hF3⟩ : ∃ F3, F3 = upd F2 L (.ns l3) := ⟨_, rfl⟩
    rw [← hF3] at S4
    have hL3 : F3 L = some (.ns l3) := by rw [hF3]; exact upd_self ..
    have fr3 : Frs envs F3 := by rw [hF3]; exact fr2.ns hL2
    have y3 : Ly5 ns F3 c2 c3 c4 qn qm qa := by rw [hF3]; exact yy.up hL2
    have a1 : Dj F3 G1 := by rw [hF3]; exact d1.l (d1.has hL2)
    have a2 : Dj (join F3 G1) G2 := by rw [hF3, ← upd_join]; exact d2.l (d2.has (join_l hL2))
    obtain ⟨e1, b1, b2⟩ := join_swap a1 a2
    rw [e1] at S4
    have q1 : l3.lookup ("tree" : Str) = some (.ref pt) := by rw [hl3]; exact q.tree
    have q2 : l3.lookup ("v" : Str) = some (.int ((i + 1 : Nat) : Int) 0) := by rw [hl3]; rfl
    have q3 : l3.lookup ("weight" : Str) = some (.int (wt5 ns (i + 1)) 0) := by rw [hl3]; rfl
    have q4 : l3.lookup ("other" : Str) = some (.ref po) := by rw [hl3]; exact q.other
    refine execs_cons_h ?_
    intro QS2 hQS2
    refine b7_1 S4 (join_l hL3) fr3.join b2 y3.j q1 q2 q3 hi t1 R hh ?_
    intro G3 s5 b3 t3 S5
    refine unhide hQS2 ?_
    dsimp only
    clear S4
    obtain ⟨e2, b4, b5⟩ := join_swap b1 b3
    rw [e2] at S5
    refine execs_cons_h ?_
    intro QS3 hQS3
    refine b7_2 S5 (join_l hL3) fr3.join b5 y3.j q4 q2 q3 hi t2 R hh ?_
    intro l4 G4 s6 hl4 b6 t4 S6
    refine unhide hQS3 ?_
    dsimp only
    clear S5
    walk_at "m_st"
    rw [upd_join] at b6 S6
    rw [hF3, upd_upd, join_assoc] at S6
    rw [hF3, upd_upd] at b6
    have b7 : Dj F2 G3 := by rw [hF3] at b4; exact b4.unL5 ⟨_, hL2⟩
    have b8 : Dj (upd F2 L (.ns l4)) (join G3 G4) := (b7.l (b7.has hL2)).joinr b6.of_l
    refine ⟨l4, join G3 G4, ⟨?_, G3, G4, rfl, b6.of_r, t3, t4⟩, b8.unL5 ⟨_, hL2⟩, S6⟩
    rcases hl4 with rfl | ⟨z, rfl⟩
    · rw [hl3]; exact ⟨q.many, q.leaves, q.tree, q.other⟩
    · rw [hl3]; exact ⟨q.many, q.leaves, q.tree, q.other⟩
  · rintro l' G' s3 h1 h3 S3
    rw [rRow_len] at h1
    walk_at "m_st"
    exact k _ _ _ h1 h3 S3
end
end
local macro_rules | `(tactic| walk_at "subscriptTail Name Slice ref ref") => `(tactic| ((with_reducible show wpAny _ _ (subscriptTail _ (PySem.Expr.Slice _ _ none _) (Value.ref _) (Value.ref _)) _ _ _); rename St _ _ _ _ => mS; k_dflt (refine' slice5 mS ?L ?e ?p ?q ?z ?y ?s ?t ?_; (case L => assumption); (case e => walk_at "m_H"); (case p => kmk_part); (case q => kmk_part); (case z => assumption); (case y => assumption); (case s => with_unfolding_all rfl); (case t => kmk_pure)); intro D s' hD S'; clear mS))
local macro_rules | `(tactic| walk_at "compareOp In int ref") => `(tactic| (rename St _ _ _ _ => mS; k_dflt (refine' in_ints mS ?e ?_; (case e => walk_at "m_H"))))
local macro_rules | `(tactic| walk_at "compareOp NotIn int ref") => `(tactic| (rename St _ _ _ _ => mS; k_dflt (refine' notin_ints mS ?e ?_; (case e => walk_at "m_H"))))
section
noncomputable def b8 : Stmt := (forBody (lawSt 8)).getD 0 default
noncomputable def t8 (i : Nat) : Stmt := (ifThen b8).getD i default
theorem body8 : forBody (lawSt 8) = [b8] := rfl
theorem then8 : ifThen b8 = [t8 0, t8 1] := rfl
section
variable {ns : List Int}
theorem MT5_at {v : Nat} (hv : v ≤ many5 ns) (i : Nat) : ∃ d, MT5 ns i (nm5 ns v) = some d := by
  obtain ⟨a, -⟩ := GG.M_at (g := g5 ns) (i := many5 ns) (Nat.le_refl _)
  exact ⟨_, blkM_at (f := nm5 ns) (p := pb5 ns) (a v hv) i⟩
theorem MO5_at {v : Nat} (hv : v ≤ many5 ns) (i : Nat) : ∃ d, MO5 ns i (nm5 ns v) = some d := by
  obtain ⟨a, -⟩ := GG.M_at (g := o5 ns) (i := pos5 ns (many5 ns)) (Nat.le_refl _)
  have h := a (pos5 ns v) (pos5_le hv)
  rw [show (o5 ns).nm (pos5 ns v) = nm5 ns v from o5_nm hv] at h
  exact ⟨_, blkM_at (f := nm5 ns) (p := pb5 ns) h i⟩
theorem nm5_ne {v : Nat} (h : 1 ≤ v) : nm5 ns v ≠ 0 := by rw [nm5_form h]; omega
end
section
variable {w : World} {c : Cx PySem.Challenge.rw_bd0031_05.row.prog w (MineTop.hd.heap_39 w.params)} {envs : List Env} {H F G : AH} {A : Around} {Q : Flow → Shared → Prop} {E : Value → Shared → Prop} {s : Shared} {nm : Str} {L a c1 c2 c3 c4 sa qn qm qa : Nat} {cd : Value} {ns : List Int} {l : List (Str × Value)} {u : Option Value}
theorem test8 {v : Nat} (S : St c envs H s) (fr : Frs envs H) (hL : H L = some (.ns l)) (y : Ly5 ns H c2 c3 c4 qn qm qa) (h2 : l.lookup ("v" : Str) = some (.int (v : Int) 0)) (R : Rm A 60 600) (hh : A.handled = none)
    (Q : Flow → Shared → Prop) (k : ∀ s', St c envs H s' → wpAny (model PySem.Challenge.rw_bd0031_05.row.prog w) A (execs (if pb5 ns v then ifThen b8 else ifElse b8) (lawEnv nm L a cd c1 c2 c3 c4)) Q E s') :
    wpAny (model PySem.Challenge.rw_bd0031_05.row.prog w) A (exec b8 (lawEnv nm L a cd c1 c2 c3 c4)) Q E s := by
  show wpAny _ _ (exec (Stmt.If _ _ _ _) _) _ _ _
  obtain ⟨-, -, -, -, y4, ya⟩ := y
  have m2 := @many5_hi ns
  have hal : (above5 ns).length ≤ 1000 := by rw [above5_len]; omega
  have hat := @above5_tail ns
  refine if_at (c := c) (envs := envs) (H := H) (pb5 ns v) ?_ k
  walk_at "m_st"
  · exact tl5_any
  · rename St _ _ _ _ => S5
    exact S5.sub (by walk_at "m_sub") fr
theorem t8_0 {pt v : Nat} (S : St c envs (join F G) s) (hL : F L = some (.ns l)) (fr : Frs envs F) (dj : Dj F G) (y : Ly5 ns F c2 c3 c4 qn qm qa) (h1 : l.lookup ("tree" : Str) = some (.ref pt)) (h2 : l.lookup ("v" : Str) = some (.int ((v + 1 : Nat) : Int) 0)) (v2 : v < many5 ns)
    (hp : pb5 ns (v + 1) = true) (t : PTree 253 347 (MT5 ns v) (ksG (g5 ns) (many5 ns)) pt G) (R : Rm A 60 600) (hh : A.handled = none)
    (k : ∀ G' s', Dj F G' → PTree 253 347 (MT5 ns (v + 1)) (ksG (g5 ns) (many5 ns)) pt G' → St c envs (join F G') s' → Q .next s') :
    wpAny (model PySem.Challenge.rw_bd0031_05.row.prog w) A (exec (t8 0) (lawEnv nm L a cd c1 c2 c3 c4)) Q E s := by
  show wpAny _ _ (exec (Stmt.Expr _ _) _) _ _ _
  have gL := join_l (G := G) hL
  obtain ⟨-, -, y3, ym, -, -⟩ := y.j (G := G)
  obtain ⟨P, dd, Gt, p, f1, f2, -, -, ej⟩ := t.split dj
  have gpt : join F G pt = some (.inst 347 (pfl P dd)) := by rw [ej]; exact join_l (upd_other p.ne (upd_self ..))
  have e1 : (names5 ns)[((v + 1 : Nat) : Int).toNat]? = some (.int (nm5 ns (v + 1)) 0) := by rw [Int.toNat_natCast]; exact names5_get v2
  have m2 := @many5_hi ns
  obtain ⟨d, hd⟩ := MT5_at (ns := ns) (v := v + 1) v2 v
  walk_at "m_st"
  rename St _ _ _ _ => S5
  refine block_spec S5 (by walk_at "m_R") fr dj t hd (nm5_ne (by omega)) ?_
  intro G' s' dj' t' S'
  walk_at "m_st"
  have eM : MT5 ns (v + 1) = actv (MT5 ns v) (nm5 ns (v + 1)) false := by
    show (if pb5 ns (v + 1) = true then _ else _) = _
    rw [if_pos hp]; rfl
  exact k G' _ dj' (eM ▸ t') S'
theorem t8_1 {po v : Nat} (S : St c envs (join F G) s) (hL : F L = some (.ns l)) (fr : Frs envs F) (dj : Dj F G) (y : Ly5 ns F c2 c3 c4 qn qm qa) (h1 : l.lookup ("other" : Str) = some (.ref po)) (h2 : l.lookup ("v" : Str) = some (.int ((v + 1 : Nat) : Int) 0)) (v2 : v < many5 ns)
    (hp : pb5 ns (v + 1) = true) (t : PTree 253 347 (MO5 ns v) (ksG (o5 ns) (pos5 ns (many5 ns))) po G) (R : Rm A 60 600) (hh : A.handled = none)
    (k : ∀ G' s', Dj F G' → PTree 253 347 (MO5 ns (v + 1)) (ksG (o5 ns) (pos5 ns (many5 ns))) po G' → St c envs (join F G') s' → Q .next s') :
    wpAny (model PySem.Challenge.rw_bd0031_05.row.prog w) A (exec (t8 1) (lawEnv nm L a cd c1 c2 c3 c4)) Q E s := by
  show wpAny _ _ (exec (Stmt.Expr _ _) _) _ _ _
  have gL := join_l (G := G) hL
  obtain ⟨-, -, y3, ym, -, -⟩ := y.j (G := G)
  obtain ⟨P, dd, Gt, p, f1, f2, -, -, ej⟩ := t.split dj
  have gpt : join F G po = some (.inst 347 (pfl P dd)) := by rw [ej]; exact join_l (upd_other p.ne (upd_self ..))
  have e1 : (names5 ns)[((v + 1 : Nat) : Int).toNat]? = some (.int (nm5 ns (v + 1)) 0) := by rw [Int.toNat_natCast]; exact names5_get v2
  have m2 := @many5_hi ns
  obtain ⟨d, hd⟩ := MO5_at (ns := ns) (v := v + 1) v2 v
  walk_at "m_st"
  rename St _ _ _ _ => S5
  refine block_spec S5 (by walk_at "m_R") fr dj t hd (nm5_ne (by omega)) ?_
  intro G' s' dj' t' S'
  walk_at "m_st"
  have eM : MO5 ns (v + 1) = actv (MO5 ns v) (nm5 ns (v + 1)) false := by
    show (if pb5 ns (v + 1) = true then _ else _) = _
    rw [if_pos hp]; rfl
  exact k G' _ dj' (eM ▸ t') S'
noncomputable def I8 (ns : List Int) (ql pt po i : Nat) (l : List (Str × Value)) (G : AH) : Prop :=
  Lk7 ns ql pt po l ∧ ∃ G1 G2, G = join G1 G2 ∧ Dj G1 G2 ∧ PTree 253 347 (MT5 ns i) (ksG (g5 ns) (many5 ns)) pt G1 ∧ PTree 253 347 (MO5 ns i) (ksG (o5 ns) (pos5 ns (many5 ns))) po G2
theorem st8 {ql pt po : Nat} (S : St c envs (join F G) s) (hL : F L = some (.ns l)) (fr : Frs envs F) (dj : Dj F G) (hI : I8 ns ql pt po 0 l G) (y : Ly5 ns F c2 c3 c4 qn qm qa) (R : Rm A 60 600) (hh : A.handled = none)
    (k : ∀ l' G' s', I8 ns ql pt po (many5 ns) l' G' → Dj F G' → St c envs (join (upd F L (.ns l')) G') s' → Q .next s') :
    wpAny (model PySem.Challenge.rw_bd0031_05.row.prog w) A (exec (lawSt 8) (lawEnv nm L a cd c1 c2 c3 c4)) Q E s := by
  show wpAny _ _ (exec (Stmt.For _ _ _ _ _) _) _ _ _
  have m1 := @many5_lo ns
  have m2 := @many5_hi ns
  refine wpAny_For ?_
  have gL := join_l (G := G) hL
  have lk1 := hI.1.many
  walk_at "m_st"
  rename St _ _ _ _ => S1
  rename (join _ _ _ = none) => hr
  refine iter_range1 S1 hr (many5 ns) (by omega) (by decide) (by omega) ?_
  intro it s2 hit S2
  clear S1
  refine for_tree (row_range 1 1 (many5 ns)) (I8 ns ql pt po) S2 hit hL fr dj hI (fun _ _ _ _ _ => trivial) hh ?_ ?_
  · rintro i F2 l' _ s3 y' ⟨q, G1, G2, rfl, d, t1, t2⟩ hx kp hL2 dj2 fr2 S3 QB EB hQB
    obtain ⟨hi, rfl⟩ := rRow_get hx
    have ev : (1 : Int) + (i : Int) * 1 = ((i + 1 : Nat) : Int) := by omega
    rw [ev] at hL2
    have yy := y.kp kp hL
    have d1 : Dj F2 G1 := dj2.to_l
    have dG : Dj F2 G2 := fun a o h => dj2 a o (join_r d h)
    have d2 : Dj (join F2 G1) G2 := dG.joinl d
    rw [← join_assoc] at S3
    obtain ⟨l3, hl3⟩ : ∃ l3 : List (Str × Value), l3 = (("v" : Str), Value.int ((i + 1 : Nat) : Int) 0) :: l' := ⟨_, rfl⟩
    rw [← hl3] at hL2
    have q1 : l3.lookup ("tree" : Str) = some (.ref pt) := by rw [hl3]; exact q.tree
    have q2 : l3.lookup ("v" : Str) = some (.int ((i + 1 : Nat) : Int) 0) := by rw [hl3]; rfl
    have q4 : l3.lookup ("other" : Str) = some (.ref po) := by rw [hl3]; exact q.other
    have qq : Lk7 ns ql pt po l3 := by rw [hl3]; exact ⟨q.many, q.leaves, q.tree, q.other⟩
    show wpAny _ _ (execs (forBody (lawSt 8)) _) _ _ _
    rw [body8]
    refine execs_cons_h ?_
    intro QS1 hQS1
    refine test8 S3 fr2.join.join (join_l (join_l hL2)) yy.j.j q2 R hh _ ?_
    intro s4 S4
    clear S3
    have fin : ∀ (G3 G4 : AH) s5, Dj F2 G3 → Dj (join F2 G3) G4 → PTree 253 347 (MT5 ns (i + 1)) (ksG (g5 ns) (many5 ns)) pt G3 → PTree 253 347 (MO5 ns (i + 1)) (ksG (o5 ns) (pos5 ns (many5 ns))) po G4 → St c envs (join (join F2 G3) G4) s5 → TurnAt c envs L F2 (I8 ns ql pt po) (i + 1) s5 := by
      intro G3 G4 s5 x1 x2 x3 x4 S5
      rw [join_assoc] at S5
      refine ⟨l3, join G3 G4, ⟨qq, G3, G4, rfl, x2.of_r, x3, x4⟩, x1.joinr x2.of_l, ?_⟩
      rw [upd_id hL2]
      exact S5
    cases hp : pb5 ns (i + 1) with
    | false =>
      rw [if_neg (by decide)]
      show wpAny _ _ (execs [] _) _ _ _
      walk_at "m_st"
      have e1 : MT5 ns (i + 1) = MT5 ns i := by
        show (if pb5 ns (i + 1) = true then _ else _) = _
        rw [if_neg (by rw [hp]; decide)]; rfl
      have e2 : MO5 ns (i + 1) = MO5 ns i := by
        show (if pb5 ns (i + 1) = true then _ else _) = _
        rw [if_neg (by rw [hp]; decide)]; rfl
      exact fin G1 G2 _ d1 d2 (by rw [e1]; exact t1) (by rw [e2]; exact t2) S4
    | true =>
      rw [if_pos rfl, then8]
      obtain ⟨e1, b1, b2⟩ := join_swap d1 d2
      rw [e1] at S4
      refine execs_cons_h ?_
      intro QS2 hQS2
      refine t8_0 S4 (join_l hL2) fr2.join b2 yy.j q1 q2 hi hp t1 R hh ?_
      intro G3 s5 b3 t3 S5
      refine unhide hQS2 ?_
      dsimp only
      clear S4
      obtain ⟨e2, b4, b5⟩ := join_swap b1 b3
      rw [e2] at S5
      refine execs_cons_h ?_
      intro QS3 hQS3
      refine t8_1 S5 (join_l hL2) fr2.join b5 yy.j q4 q2 hi hp t2 R hh ?_
      intro G4 s6 b6 t4 S6
      refine unhide hQS3 ?_
      dsimp only
      clear S5
      walk_at "m_st"
      exact fin G3 G4 _ b4 b6 t3 t4 S6
  · rintro l' G' s3 h1 h3 S3
    rw [rRow_len] at h1
    walk_at "m_st"
    exact k _ _ _ h1 h3 S3
end
end
section
noncomputable def b10 (i : Nat) : Stmt := (forBody (lawSt 10)).getD i default
theorem body10 : forBody (lawSt 10) = [b10 0, b10 1, b10 2] := rfl
section
variable {w : World} {c : Cx PySem.Challenge.rw_bd0031_05.row.prog w (MineTop.hd.heap_39 w.params)} {envs : List Env} {H F G : AH} {A : Around} {Q : Flow → Shared → Prop} {E : Value → Shared → Prop} {s : Shared} {nm : Str} {L a c1 c2 c3 c4 sa qn qm qa : Nat} {cd : Value} {ns : List Int} {l : List (Str × Value)} {u : Option Value}
theorem st9 (S : St c envs H s) (hL : H L = some (.ns l)) (R : Rm A 40 400) (hh : A.handled = none)
    (k : ∀ (qs : Nat) s', H qs = none → St c envs (upd (upd H qs (.list [])) L (.ns (("served", .ref qs) :: l))) s' → Q .next s') :
    wpAny (model PySem.Challenge.rw_bd0031_05.row.prog w) A (exec (lawSt 9) (lawEnv nm L a cd c1 c2 c3 c4)) Q E s := by
  show wpAny _ _ (exec (Stmt.Assign _ _ _) _) _ _ _
  walk_at "m_st"
  rename St _ _ _ _ => S1
  rename (H _ = none) => hq
  exact k _ _ hq S1
theorem b10_0 {pt i : Nat} (S : St c (lawEnv nm L a cd c1 c2 c3 c4 :: envs) (join F G) s) (hL : F L = some (.ns l)) (fr : Frs (lawEnv nm L a cd c1 c2 c3 c4 :: envs) F) (dj : Dj F G)
    (h1 : l.lookup ("tree" : Str) = some (.ref pt)) (t : PTree 253 347 (TM (MT5 ns (many5 ns)) i) (ksG (g5 ns) (many5 ns)) pt G) (R : Rm A 480 4400) (hh : A.handled = none) (hA : A.frames = some (lawEnv nm L a cd c1 c2 c3 c4 :: envs))
    (k : ∀ G' s', Dj F G' → PTree 253 347 (TM (MT5 ns (many5 ns)) (i + 1)) (ksG (g5 ns) (many5 ns)) pt G' → St c (lawEnv nm L a cd c1 c2 c3 c4 :: envs) (join (upd F L (.ns (("told", .int (srv5 ns i) 0) :: l))) G') s' → Q .next s') :
    wpAny (model PySem.Challenge.rw_bd0031_05.row.prog w) A (exec (b10 0) (lawEnv nm L a cd c1 c2 c3 c4)) Q E s := by
  show wpAny _ _ (exec (Stmt.Assign _ _ _) _) _ _ _
  have gL := join_l (G := G) hL
  obtain ⟨P, dd, Gt, p, f1, f2, -, -, ej⟩ := t.split dj
  have gpt : join F G pt = some (.inst 347 (pfl P dd)) := by rw [ej]; exact join_l (upd_other p.ne (upd_self ..))
  walk_at "m_st"
  rename St _ _ _ _ => S5
  obtain ⟨mo, ⟨d, md, ma⟩, told⟩ := @T5_good ns i
  refine next_spec S5 (by walk_at "m_R") hA hh fr dj t mo md rkT ma ?_ ?_
  · intro v x M' G2 s6 hv2 hs dj3 t3 S6
    rw [hs] at told
    cases told
    obtain ⟨tk, rfl⟩ := er_int hv2
    have gL2 := join_l (G := G2) hL
    have hM : TM (MT5 ns (many5 ns)) (i + 1) = M' := by show (sched 20 _ 0).2 = M'; rw [hs]
    walk_at "m_st"
    rename St _ _ _ _ => S7
    change St c _ (upd _ L _) _ at S7
    rw [upd_join] at S7
    exact k G2 _ dj3 (hM ▸ t3) S7
  · intro e h T M' G2 s6 hs
    rw [hs] at told; cases told
theorem b10_1 {po i : Nat} (S : St c (lawEnv nm L a cd c1 c2 c3 c4 :: envs) (join F G) s) (hL : F L = some (.ns l)) (fr : Frs (lawEnv nm L a cd c1 c2 c3 c4 :: envs) F) (dj : Dj F G)
    (h1 : l.lookup ("other" : Str) = some (.ref po)) (h2 : l.lookup ("told" : Str) = some (.int (srv5 ns i) 0)) (t : PTree 253 347 (TM (MO5 ns (many5 ns)) i) (ksG (o5 ns) (pos5 ns (many5 ns))) po G) (R : Rm A 480 4400) (hh : A.handled = none) (hA : A.frames = some (lawEnv nm L a cd c1 c2 c3 c4 :: envs))
    (k : ∀ G' s', Dj F G' → PTree 253 347 (TM (MO5 ns (many5 ns)) (i + 1)) (ksG (o5 ns) (pos5 ns (many5 ns))) po G' → St c (lawEnv nm L a cd c1 c2 c3 c4 :: envs) (join F G') s' → Q .next s') :
    wpAny (model PySem.Challenge.rw_bd0031_05.row.prog w) A (exec (b10 1) (lawEnv nm L a cd c1 c2 c3 c4)) Q E s := by
  show wpAny _ _ (exec (Stmt.If _ _ _ _) _) _ _ _
  have gL := join_l (G := G) hL
  obtain ⟨P, dd, Gt, p, f1, f2, -, -, ej⟩ := t.split dj
  have gpt : join F G po = some (.inst 347 (pfl P dd)) := by rw [ej]; exact join_l (upd_other p.ne (upd_self ..))
  walk_at "m_st"
  rename St _ _ _ _ => S5
  obtain ⟨mo, ⟨d, md, ma⟩, told⟩ := @O5_good ns i
  refine next_spec S5 (by walk_at "m_R") hA hh fr dj t mo md rkO ma ?_ ?_
  · intro v x M' G2 s6 hv2 hs dj3 t3 S6
    rw [hs] at told
    cases told
    obtain ⟨tk, rfl⟩ := er_int hv2
    have gL2 := join_l (G := G2) hL
    have hM : TM (MO5 ns (many5 ns)) (i + 1) = M' := by show (sched 20 _ 0).2 = M'; rw [hs]
    walk_at "m_st"
    · rename (srv5 ns i ≠ srv5 ns i) => hne
      exact absurd rfl hne
    · rename St _ _ _ _ => S7
      exact k G2 _ dj3 (hM ▸ t3) S7
  · intro e h T M' G2 s6 hs
    rw [hs] at told; cases told
theorem b10_2 {qs i : Nat} (S : St c envs H s) (fr : Frs envs H) (hL : H L = some (.ns l)) (h1 : l.lookup ("served" : Str) = some (.ref qs)) (h2 : l.lookup ("told" : Str) = some (.int (srv5 ns i) 0)) (hq : H qs = some (.list (intsV ((List.range i).map (srv5 ns))))) (hi : i ≤ 100) (R : Rm A 60 600) (hh : A.handled = none)
    (k : ∀ s', St c envs (upd H qs (.list (intsV ((List.range (i + 1)).map (srv5 ns))))) s' → Q .next s') :
    wpAny (model PySem.Challenge.rw_bd0031_05.row.prog w) A (exec (b10 2) (lawEnv nm L a cd c1 c2 c3 c4)) Q E s := by
  show wpAny _ _ (exec (Stmt.Expr _ _) _) _ _ _
  have hl : (intsV ((List.range i).map (srv5 ns))).length ≤ 1000 := by unfold intsV; simp; omega
  walk_at "m_st"
  (try dsimp only)
  rename St _ _ _ _ => S5
  have e : intsV ((List.range i).map (srv5 ns)) ++ [Value.int (srv5 ns i) 0] = intsV ((List.range (i + 1)).map (srv5 ns)) := by
    rw [List.range_succ, List.map_append]; unfold intsV; rw [List.map_append]; rfl
  rw [e] at S5
  exact k _ S5
structure Lk10 (ns : List Int) (ql pt po qs : Nat) (l : List (Str × Value)) : Prop where
  l7 : Lk7 ns ql pt po l
  served : l.lookup ("served" : Str) = some (.ref qs)
noncomputable def sv5 (ns : List Int) (qs i : Nat) : AH := upd (fun _ => none) qs (.list (intsV ((List.range i).map (srv5 ns))))
noncomputable def I10 (ns : List Int) (ql pt po qs i : Nat) (l : List (Str × Value)) (G : AH) : Prop :=
  Lk10 ns ql pt po qs l ∧ ∃ G1 G2, G = join (join (sv5 ns qs i) G1) G2 ∧ Dj (sv5 ns qs i) G1 ∧ Dj (join (sv5 ns qs i) G1) G2 ∧ PTree 253 347 (TM (MT5 ns (many5 ns)) i) (ksG (g5 ns) (many5 ns)) pt G1 ∧ PTree 253 347 (TM (MO5 ns (many5 ns)) i) (ksG (o5 ns) (pos5 ns (many5 ns))) po G2
theorem st10 {ql pt po qs : Nat} (S : St c (lawEnv nm L a cd c1 c2 c3 c4 :: envs) (join F G) s) (hL : F L = some (.ns l)) (fr : Frs (lawEnv nm L a cd c1 c2 c3 c4 :: envs) F) (dj : Dj F G) (hI : I10 ns ql pt po qs 0 l G) (hql : F ql = some (.list (lv5 ns (many5 ns)))) (R : Rm A 480 4400) (hh : A.handled = none) (hA : A.frames = some (lawEnv nm L a cd c1 c2 c3 c4 :: envs))
    (k : ∀ l' G' s', I10 ns ql pt po qs (3 * lf5 ns 0) l' G' → Dj F G' → St c (lawEnv nm L a cd c1 c2 c3 c4 :: envs) (join (upd F L (.ns l')) G') s' → Q .next s') :
    wpAny (model PySem.Challenge.rw_bd0031_05.row.prog w) A (exec (lawSt 10) (lawEnv nm L a cd c1 c2 c3 c4)) Q E s := by
  show wpAny _ _ (exec (Stmt.For _ _ _ _ _) _) _ _ _
  have m1 := @many5_lo ns
  have m2 := @many5_hi ns
  have m3 := @lf5_zero_le ns
  have R2 : Rm A 60 600 := R.mono (by omega) (by omega)
  refine wpAny_For ?_
  have gL := join_l (G := G) hL
  have gql := join_l (G := G) hql
  have lk1 := hI.1.l7.leaves
  have e0 : (lv5 ns (many5 ns))[(0 : Int).toNat]? = some (.int (lf5 ns 0 : Int) 0) := by
    rw [show (0 : Int).toNat = 0 from rfl, lv5_get (by omega), lc5_end (by omega)]
  walk_at "m_st"
  rename St _ _ _ _ => S1
  rename (join _ _ _ = none) => hr
  refine iter_range1 S1 hr (3 * lf5 ns 0) (by omega) (by decide) (by omega) ?_
  intro it s2 hit S2
  clear S1
  refine for_tree (row_range 0 1 (3 * lf5 ns 0)) (I10 ns ql pt po qs) S2 hit hL fr dj hI (fun _ _ _ _ _ => trivial) hh ?_ ?_
  · rintro i F2 l' _ s3 y' ⟨q, G1, G2, rfl, d1, d2, t1, t2⟩ hx kp hL2 dj2 fr2 S3 QB EB hQB
    obtain ⟨hi, rfl⟩ := rRow_get hx
    obtain ⟨D, hD⟩ : ∃ D, D = sv5 ns qs i := ⟨_, rfl⟩
    rw [← hD] at d1 d2 dj2 S3
    have hDq : D qs = some (.list (intsV ((List.range i).map (srv5 ns)))) := by rw [hD]; exact upd_self ..
    have dF2 : Dj F2 D := dj2.to_l.to_l
    have dFc : Dj F2 G1 := fun a o h => dj2.to_l a o (join_r d1 h)
    have dFh : Dj F2 G2 := fun a o h => dj2 a o (join_r d2 h)
    obtain ⟨l3, hl3⟩ : ∃ l3 : List (Str × Value), l3 = (("k" : Str), Value.int (0 + (i : Int) * 1) 0) :: l' := ⟨_, rfl⟩
    rw [← hl3] at hL2
    obtain ⟨FD, hFD⟩ : ∃ FD, FD = join F2 D := ⟨_, rfl⟩
    have a1 : Dj FD G1 := by rw [hFD]; exact dFc.joinl d1
    have a2 : Dj (join FD G1) G2 := by rw [hFD, join_assoc]; exact dFh.joinl d2
    have e0 : join F2 (join (join D G1) G2) = join (join FD G1) G2 := by rw [hFD, ← join_assoc, ← join_assoc]
    obtain ⟨e1, b1, b2⟩ := join_swap a1 a2
    rw [e0, e1] at S3
    have hLD : FD L = some (.ns l3) := by rw [hFD]; exact join_l hL2
    have frD : Frs (lawEnv nm L a cd c1 c2 c3 c4 :: envs) FD := by rw [hFD]; exact fr2.join
    have x1 : l3.lookup ("tree" : Str) = some (.ref pt) := by rw [hl3]; exact q.l7.tree
    show wpAny _ _ (execs (forBody (lawSt 10)) _) _ _ _
    rw [body10]
    refine execs_cons_h ?_
    intro QS1 hQS1
    refine b10_0 S3 (join_l hLD) frD.join b2 x1 t1 R hh hA ?_
    intro G3 s4 b3 t3 S4
    refine unhide hQS1 ?_
    dsimp only
    clear S3
    obtain ⟨e2, b4, b5⟩ := join_swap b1 b3
    obtain ⟨l4, hl4⟩ : ∃ l4 : List (Str × Value), l4 = (("told" : Str), Value.int (srv5 ns i) 0) :: l3 := ⟨_, rfl⟩
    obtain ⟨F4, hF4⟩ : ∃ F4, F4 = upd FD L (.ns l4) := ⟨_, rfl⟩
    rw [← hl4, ← upd_join, e2, upd_join, upd_join, ← hF4] at S4
    have hL4 : F4 L = some (.ns l4) := by rw [hF4]; exact upd_self ..
    have fr4 : Frs (lawEnv nm L a cd c1 c2 c3 c4 :: envs) F4 := by rw [hF4]; exact frD.ns hLD
    have y1 : Dj F4 G3 := by rw [hF4]; exact b4.l (b4.has hLD)
    have y2 : Dj (join F4 G3) G2 := by rw [hF4, ← upd_join]; exact b5.l (b5.has (join_l hLD))
    have x2 : l4.lookup ("other" : Str) = some (.ref po) := by rw [hl4, hl3]; exact q.l7.other
    have x3 : l4.lookup ("told" : Str) = some (.int (srv5 ns i) 0) := by rw [hl4]; rfl
    have x4 : l4.lookup ("served" : Str) = some (.ref qs) := by rw [hl4, hl3]; exact q.served
    refine execs_cons_h ?_
    intro QS2 hQS2
    refine b10_1 S4 (join_l hL4) fr4.join y2 x2 x3 t2 R hh hA ?_
    intro G4 s5 y3 t4 S5
    refine unhide hQS2 ?_
    dsimp only
    clear S4
    have f2q : F2 qs = none := dF2 _ _ hDq
    have nqL : qs ≠ L := fun z => by rw [z, hL2] at f2q; cases f2q
    have h4q : F4 qs = some (.list (intsV ((List.range i).map (srv5 ns)))) := by rw [hF4, hFD]; exact upd_other nqL (join_r dF2 hDq)
    refine execs_cons_h ?_
    intro QS3 hQS3
    refine b10_2 S5 fr4.join.join (join_l (join_l hL4)) x4 x3 (join_l (join_l h4q)) (by omega) R2 hh ?_
    intro s6 S6
    refine unhide hQS3 ?_
    dsimp only
    clear S5
    walk_at "m_st"
    have e4 : upd F4 qs (.list (intsV ((List.range (i + 1)).map (srv5 ns)))) = join (upd F2 L (.ns l4)) (sv5 ns qs (i + 1)) := by
      rw [hF4, hFD, upd_join, upd_join_r (upd_other nqL f2q), hD]
      unfold sv5
      rw [upd_upd]
    have z1 : Dj (sv5 ns qs (i + 1)) G3 := Dj.of_r (F := upd F2 L (.ns l4)) (by rw [← e4]; exact y1.l (y1.has h4q))
    have z2 : Dj (join (upd F2 L (.ns l4)) (sv5 ns qs (i + 1))) G3 := by rw [← e4]; exact y1.l (y1.has h4q)
    have z3 : Dj (join (join (upd F2 L (.ns l4)) (sv5 ns qs (i + 1))) G3) G4 := by rw [← e4, ← upd_join]; exact y3.l (y3.has (join_l h4q))
    rw [upd_join, upd_join, e4, join_assoc, join_assoc, ← join_assoc (F := sv5 ns qs (i + 1))] at S6
    refine ⟨l4, _, ⟨⟨⟨?_, ?_, ?_, ?_⟩, x4⟩, G3, G4, rfl, z1, ?_, t3, t4⟩, ?_, S6⟩
    · rw [hl4, hl3]; exact q.l7.many
    · rw [hl4, hl3]; exact q.l7.leaves
    · rw [hl4, hl3]; exact q.l7.tree
    · exact x2
    · rw [join_assoc] at z3
      exact z3.of_r
    · have w1 : Dj (upd F2 L (.ns l4)) (sv5 ns qs (i + 1)) := (Dj.nil.r (upd_other nqL f2q))
      have w2 : Dj (upd F2 L (.ns l4)) (join (join (sv5 ns qs (i + 1)) G3) G4) := (w1.joinr z2.of_l).joinr z3.of_l.of_l
      exact w2.unL5 ⟨_, hL2⟩
  · rintro l' G' s3 h1 h3 S3
    rw [rRow_len] at h1
    walk_at "m_st"
    exact k _ _ _ h1 h3 S3
end
end
local macro_rules | `(tactic| walk_at "compareOp NotEq ref ref") => `(tactic| (rename St _ _ _ _ => mS; k_dflt (refine' ne_ints5 mS ?a ?b ?u ?_; (case a => walk_at "m_H"); (case b => walk_at "m_H"); (case u => exact Rm.line5 (by assumption)))))
local macro_rules | `(tactic| walk_at "compareOp Eq ref ref") => `(tactic| (rename St _ _ _ _ => mS; k_dflt (refine' eq_ints5 mS ?a ?b ?u ?_; (case a => walk_at "m_H"); (case b => walk_at "m_H"); (case u => exact Rm.line5 (by assumption)))))
local macro_rules | `(tactic| walk_at "binaryOp Mult ref int") => `(tactic| (rename St _ _ _ _ => mS; k_dflt (refine' list_mul3 mS ?e ?a ?b ?z ?y ?_; (case e => walk_at "m_H"); (case a => omega); (case b => omega); (case z => assumption); (case y => assumption)); intro a s' ha S'; clear mS))
section
section
variable {w : World} {c : Cx PySem.Challenge.rw_bd0031_05.row.prog w (MineTop.hd.heap_39 w.params)} {envs : List Env} {H F G : AH} {A : Around} {Q : Flow → Shared → Prop} {E : Value → Shared → Prop} {s : Shared} {nm : Str} {L a c1 c2 c3 c4 sa qn qm qa : Nat} {cd : Value} {ns : List Int} {l : List (Str × Value)} {u : Option Value}
theorem st11 {ql qs : Nat} (S : St c envs H s) (hL : H L = some (.ns l)) (h1 : l.lookup ("leaves" : Str) = some (.ref ql)) (h2 : l.lookup ("served" : Str) = some (.ref qs)) (hql : H ql = some (.list (lv5 ns (many5 ns)))) (hqs : H qs = some (.list (intsV ((List.range (3 * lf5 ns 0)).map (srv5 ns))))) (R : Rm A 60 600) (hh : A.handled = none)
    (k : ∀ (qf : Nat) s', H qf = none → St c envs (upd (upd H qf (.list (intsV ((List.range (lf5 ns 0)).map (srv5 ns))))) L (.ns (("first", .ref qf) :: l))) s' → Q .next s') :
    wpAny (model PySem.Challenge.rw_bd0031_05.row.prog w) A (exec (lawSt 11) (lawEnv nm L a cd c1 c2 c3 c4)) Q E s := by
  show wpAny _ _ (exec (Stmt.Assign _ _ _) _) _ _ _
  have m2 := @many5_hi ns
  have m3 := @lf5_zero_le ns
  have e0 : (lv5 ns (many5 ns))[(0 : Int).toNat]? = some (.int (lf5 ns 0 : Int) 0) := by
    rw [show (0 : Int).toNat = 0 from rfl, lv5_get (by omega), lc5_end (by omega)]
  have hal : (intsV ((List.range (3 * lf5 ns 0)).map (srv5 ns))).length ≤ 1000 := by unfold intsV; simp; omega
  have hat := @pick_first ns (lf5 ns 0)
  walk_at "m_st"
  rename St _ _ _ _ => S5
  rename (H _ = none) => hq
  exact k _ _ hq S5
theorem st12 {qf : Nat} (S : St c envs H s) (fr : Frs envs H) (hL : H L = some (.ns l)) (y : Ly5 ns H c2 c3 c4 qn qm qa) (h1 : l.lookup ("first" : Str) = some (.ref qf)) (h2 : l.lookup ("many" : Str) = some (.int (many5 ns) 0)) (hqf : H qf = some (.list (intsV ((List.range (lf5 ns 0)).map (srv5 ns))))) (R : Rm A 60 600) (hh : A.handled = none)
    (k : ∀ s', St c envs H s' → Q .next s') :
    wpAny (model PySem.Challenge.rw_bd0031_05.row.prog w) A (exec (lawSt 12) (lawEnv nm L a cd c1 c2 c3 c4)) Q E s := by
  show wpAny _ _ (exec (Stmt.If _ _ _ _) _) _ _ _
  have m2 := @many5_hi ns
  have m3 := @lf5_zero_le ns
  have hal : (above5 ns).length ≤ 1000 := by rw [above5_len]; omega
  have hat := @above5_tail ns
  obtain ⟨-, -, y3, ym, y4, ya⟩ := y
  have hl1 : ((List.range (lf5 ns 0)).map (srv5 ns)).length < 64 := by simp; omega
  have hl2 : ((lfs5 ns).map (nm5 ns)).length < 64 := by
    have := (srv_perm (ns := ns)).length_eq
    rw [← this]; exact hl1
  walk_at "m_st"
  rename St _ _ _ _ => S1
  refine sort_ints5 S1 hL hqf hl1 ?_
  intro D1 ys1 s1 hD1 hp1 ho1 S2
  clear S1
  have n1 := ne_fresh hD1 hL
  have gL : upd H D1 (.list (intsV ys1)) L = some (.ns l) := upd_other n1 hL
  have g3 : upd H D1 (.list (intsV ys1)) c3 = some (.cell (some (.ref qm))) := upd_other (ne_fresh hD1 y3) y3
  have gm : upd H D1 (.list (intsV ys1)) qm = some (.list (names5 ns)) := upd_other (ne_fresh hD1 ym) ym
  have g4 : upd H D1 (.list (intsV ys1)) c4 = some (.cell (some (.ref qa))) := upd_other (ne_fresh hD1 y4) y4
  have ga : upd H D1 (.list (intsV ys1)) qa = some (.list (above5 ns)) := upd_other (ne_fresh hD1 ya) ya
  have gD : upd H D1 (.list (intsV ys1)) D1 = some (.list (intsV ys1)) := upd_self ..
  have fr1 : Frs envs (upd H D1 (.list (intsV ys1))) := fr.fresh hD1
  obtain ⟨H1, hH1⟩ : ∃ H1, H1 = upd H D1 (.list (intsV ys1)) := ⟨_, rfl⟩
  rw [← hH1] at S2 gL g3 gm g4 ga gD fr1
  walk_at "m_st"
  rename St _ _ _ _ => S3
  rename (H1 _ = none) => hr
  refine iter_range1 S3 hr (many5 ns) (by omega) (by decide) (by omega) ?_
  intro it s4 hit S4
  clear S3
  refine comp_pure (row_range 1 1 (many5 ns)) (onIntP (fun i => !((tl5 ns).any (· == i))) fun i => .int (nm5 ns i.toNat) 0) S4 hit trivial (.inl hh) (by rw [rRow_len]; omega) (by decide) rfl rfl ?_ ?_ ?_
  · intro C i v y s5 Hc l2 E2 hy hv keep hC S5
    obtain ⟨j, -, j0, j1, rfl⟩ := rRow_at hy
    have t4 := keep c4 _ g4
    have ta := keep qa _ ga
    have tL := keep L _ gL
    have fr5 := S5.frs
    refine wpAny_tests_one ?_
    walk_at "m_st"
    · rw [onIntP_isSome]
    · rename St _ _ _ _ => S6
      exact S6.sub (by walk_at "m_sub") fr5
  · intro C i v y z s5 Hc l2 E2 hy hv hz keep hC S5
    obtain ⟨j, -, j0, j1, rfl⟩ := rRow_at hy
    obtain rfl := onIntP_val hz
    have t3 := keep c3 _ g3
    have tm := keep qm _ gm
    have e1 : (names5 ns)[j.toNat]? = some (.int (nm5 ns j.toNat) 0) := names5_get (by omega)
    walk_at "m_st"
    all_goals assumption
  · intro D C s5 l2 hD hC S5
    rw [lfs_row] at hC S5
    refine comp_none S5 hC (fr1.fresh hD) ?_
    intro s6 S6
    clear S5 S4
    walk_at "m_st"
    rename St _ _ _ _ => S7
    refine sort_ints5 S7 (L := L) (upd_other (ne_fresh hD gL) gL) (upd_self ..) hl2 ?_
    intro D2 ys2 s7 hD2 hp2 ho2 S8
    clear S7
    have hys : ys1 = ys2 := sorted_uniq (hp1.trans ((srv_perm (ns := ns)).trans hp2.symm)) ho1 ho2
    have z1 := ne_fresh hD gD
    have z2 := ne_fresh (none_up hD2) gD
    walk_at "m_st"
    · rename St _ _ _ _ => S9
      have hs : Sub H H1 := by rw [hH1]; exact (Sub.refl H).fresh hD1
      have q1 : H D = none := by have := hD; rw [hH1] at this; exact none_up this
      have q2 : H D2 = none := by have := none_up hD2; rw [hH1] at this; exact none_up this
      exact k _ (S9.sub ((hs.fresh q1).fresh q2) fr)
    · rename (¬ ys1 = ys2) => hq
      exact absurd hys hq
theorem st13 {qs qf : Nat} (S : St c envs H s) (hL : H L = some (.ns l)) (h1 : l.lookup ("first" : Str) = some (.ref qf)) (h2 : l.lookup ("served" : Str) = some (.ref qs)) (hqf : H qf = some (.list (intsV ((List.range (lf5 ns 0)).map (srv5 ns))))) (hqs : H qs = some (.list (intsV ((List.range (3 * lf5 ns 0)).map (srv5 ns))))) (R : Rm A 60 600) (hh : A.handled = none)
    (k : ∀ H' s', St c envs H' s' → Q (.ret (.bool true)) s') :
    wpAny (model PySem.Challenge.rw_bd0031_05.row.prog w) A (exec (lawSt 13) (lawEnv nm L a cd c1 c2 c3 c4)) Q E s := by
  show wpAny _ _ (exec (Stmt.Return _ _) _) _ _ _
  have m2 := @many5_hi ns
  have m3 := @lf5_zero_le ns
  have hz : (intsV ((List.range (lf5 ns 0)).map (srv5 ns))).length ≤ 100 := by unfold intsV; simp; omega
  have hy := @rep_three ((List.range (lf5 ns 0)).map (srv5 ns))
  walk_at "m_st"
  rename St _ _ _ _ => S5
  rw [srv_rep rfl, decide_eq_true rfl]
  exact k _ _ S5
end
end
section
section
variable {w : World} {c : Cx PySem.Challenge.rw_bd0031_05.row.prog w (MineTop.hd.heap_39 w.params)} {envs : List Env} {H F G : AH} {A : Around} {Q : Flow → Shared → Prop} {E : Value → Shared → Prop} {s : Shared} {nm : Str} {L a c1 c2 c3 c4 sa : Nat} {cd : Value} {ns : List Int} {l : List (Str × Value)} {u : Option Value}
theorem law_body : fnBody (PySem.Challenge.rw_bd0031_05.row.prog.main.body.getD 17 default) = [lawSt 0, lawSt 1, lawSt 2, lawSt 3, lawSt 4, lawSt 5, lawSt 6, lawSt 7, lawSt 8, lawSt 9, lawSt 10, lawSt 11, lawSt 12, lawSt 13] := rfl
theorem law_walk (S : St c (lawEnv nm L a cd c1 c2 c3 c4 :: envs) H s) (sc : Scr c sa ns) (hL : H L = some (.ns [])) (h1 : H c1 = some (.cell (some (.ref sa)))) (h2 : H c2 = some (.cell none)) (h3 : H c3 = some (.cell none)) (h4 : H c4 = some (.cell none))
    (n23 : c2 ≠ c3) (n24 : c2 ≠ c4) (n34 : c3 ≠ c4)
    (R : Rm A 480 4400) (hh : A.handled = none) (hA : A.frames = some (lawEnv nm L a cd c1 c2 c3 c4 :: envs))
    (k : ∀ Hc s', St c (lawEnv nm L a cd c1 c2 c3 c4 :: envs) Hc s' → Q (.ret (.bool true)) s') :
    wpAny (model PySem.Challenge.rw_bd0031_05.row.prog w) A (execs (fnBody (PySem.Challenge.rw_bd0031_05.row.prog.main.body.getD 17 default)) (lawEnv nm L a cd c1 c2 c3 c4)) Q E s := by
  rw [law_body]
  have R1 : Rm A 40 400 := R.mono (by omega) (by omega)
  have R2 : Rm A 60 600 := R.mono (by omega) (by omega)
  have L2 := ne_kind hL h2 (by intro z; cases z)
  have L3 := ne_kind hL h3 (by intro z; cases z)
  have L4 := ne_kind hL h4 (by intro z; cases z)
  refine execs_cons_h ?_
  intro QS1 hQS1
  refine st0 S sc h1 h2 R1 hh ?_
  intro qn s1 hqn S1
  refine unhide hQS1 ?_
  dsimp only
  have qL := ne_fresh hqn hL
  have q2 := ne_fresh hqn h2
  have q3 := ne_fresh hqn h3
  have q4 := ne_fresh hqn h4
  refine execs_cons_h ?_
  intro QS2 hQS2
  refine st1 S1 (upd_other L2 (upd_other qL hL)) (upd_self ..) (upd_other (Ne.symm q2) (upd_self ..)) R1 hh ?_
  intro s2 S2
  refine unhide hQS2 ?_
  dsimp only
  clear S S1
  obtain ⟨F2, hF2⟩ : ∃ F2, F2 = upd (upd (upd H qn (.list (nums5 ns))) c2 (.cell (some (.ref qn)))) L (.ns [("many", .int (many5 ns) 0)]) := ⟨_, rfl⟩
  rw [← hF2] at S2
  have f2L : F2 L = some (.ns [("many", .int (many5 ns) 0)]) := by rw [hF2]; exact upd_self ..
  have f22 : F2 c2 = some (.cell (some (.ref qn))) := by rw [hF2]; exact upd_other (Ne.symm L2) (upd_self ..)
  have f2n : F2 qn = some (.list (nums5 ns)) := by rw [hF2]; exact upd_other (Ne.symm qL) (upd_other (Ne.symm q2) (upd_self ..))
  have f23 : F2 c3 = some (.cell none) := by rw [hF2]; exact upd_other (Ne.symm L3) (upd_other (Ne.symm n23) (upd_other q3 h3))
  have f24 : F2 c4 = some (.cell none) := by rw [hF2]; exact upd_other (Ne.symm L4) (upd_other (Ne.symm n24) (upd_other q4 h4))
  refine execs_cons_h ?_
  intro QS3 hQS3
  refine st2 S2 f2L rfl f22 f2n f23 R1 hh ?_
  intro qm s3 hqm S3
  refine unhide hQS3 ?_
  dsimp only
  clear S2
  obtain ⟨F3, hF3⟩ : ∃ F3, F3 = upd (upd F2 qm (.list (names5 ns))) c3 (.cell (some (.ref qm))) := ⟨_, rfl⟩
  rw [← hF3] at S3
  have k3 : ∀ (b : Nat) o, b ≠ c3 → F2 b = some o → F3 b = some o := fun b o n h => by rw [hF3]; exact upd_other n (upd_other (ne_fresh hqm h) h)
  have f3L := k3 _ _ L3 f2L
  have f32 := k3 _ _ n23 f22
  have f3n := k3 _ _ (ne_kind f2n f23 (by intro z; cases z)) f2n
  have f33 : F3 c3 = some (.cell (some (.ref qm))) := by rw [hF3]; exact upd_self ..
  have f3m : F3 qm = some (.list (names5 ns)) := by rw [hF3]; exact upd_other (Ne.symm (ne_fresh hqm f23)) (upd_self ..)
  have f34 := k3 _ _ (Ne.symm n34) f24
  refine execs_cons_h ?_
  intro QS4 hQS4
  refine st3 S3 f3L rfl f32 f3n f34 R1 hh ?_
  intro qa s4 hqa S4
  refine unhide hQS4 ?_
  dsimp only
  clear S3
  obtain ⟨F4, hF4⟩ : ∃ F4, F4 = upd (upd F3 qa (.list (above5 ns))) c4 (.cell (some (.ref qa))) := ⟨_, rfl⟩
  rw [← hF4] at S4
  have k4 : ∀ (b : Nat) o, b ≠ c4 → F3 b = some o → F4 b = some o := fun b o n h => by rw [hF4]; exact upd_other n (upd_other (ne_fresh hqa h) h)
  have f4L := k4 _ _ L4 f3L
  have y4 : Ly5 ns F4 c2 c3 c4 qn qm qa := ⟨k4 _ _ n24 f32, k4 _ _ (ne_kind f3n f34 (by intro z; cases z)) f3n, k4 _ _ n34 f33, k4 _ _ (ne_kind f3m f34 (by intro z; cases z)) f3m, by rw [hF4]; exact upd_self .., by rw [hF4]; exact upd_other (Ne.symm (ne_fresh hqa f34)) (upd_self ..)⟩
  have fr4 := S4.frs
  refine execs_cons_h ?_
  intro QS5 hQS5
  refine st4 S4 f4L rfl R1 hh ?_
  intro ql s5 hql S5
  refine unhide hQS5 ?_
  dsimp only
  clear S4
  have qlL := ne_fresh hql f4L
  rw [upd_comm (Ne.symm qlL)] at S5
  obtain ⟨F5, hF5⟩ : ∃ F5, F5 = upd F4 L (.ns [("leaves", .ref ql), ("many", .int (many5 ns) 0)]) := ⟨_, rfl⟩
  rw [← hF5] at S5
  have f5L : F5 L = some (.ns [("leaves", .ref ql), ("many", .int (many5 ns) 0)]) := by rw [hF5]; exact upd_self ..
  have f5q : F5 ql = none := by rw [hF5]; exact (upd_ne (Ne.symm qlL)).trans hql
  have y5 : Ly5 ns F5 c2 c3 c4 qn qm qa := by rw [hF5]; exact y4.up f4L
  have fr5 : Frs (lawEnv nm L a cd c1 c2 c3 c4 :: envs) F5 := by rw [hF5]; exact fr4.ns f4L
  rw [upd_back f5q] at S5
  refine execs_cons_h ?_
  intro QS6 hQS6
  refine st5 S5 f5q f5L rfl rfl fr5 y5.h4 y5.ha R2 hh ?_
  intro l6 s6 m6 v6 S6
  refine unhide hQS6 ?_
  dsimp only
  clear S5
  obtain ⟨F6, hF6⟩ : ∃ F6, F6 = join (upd F5 L (.ns l6)) (upd (fun _ => none) ql (.list (lv5 ns (many5 ns)))) := ⟨_, rfl⟩
  rw [← hF6] at S6
  have f6L : F6 L = some (.ns l6) := by rw [hF6]; exact join_l (upd_self ..)
  have f6q : F6 ql = some (.list (lv5 ns (many5 ns))) := by rw [hF6]; exact join_r (Dj.nil.r ((upd_ne (Ne.symm qlL)).trans f5q)) (upd_self ..)
  have y6 : Ly5 ns F6 c2 c3 c4 qn qm qa := by rw [hF6]; exact (y5.up f5L).j
  have fr6 := S6.frs
  refine execs_cons_h ?_
  intro QS7 hQS7
  refine st6 S6 f6L R1 hh ?_
  intro pt po G1 G2 s7 d1 d2 t1 t2 S7
  refine unhide hQS7 ?_
  dsimp only
  clear S6
  obtain ⟨l7, hl7⟩ : ∃ l7 : List (Str × Value), l7 = (("tree" : Str), Value.ref pt) :: ("other", .ref po) :: l6 := ⟨_, rfl⟩
  obtain ⟨F7, hF7⟩ : ∃ F7, F7 = upd F6 L (.ns l7) := ⟨_, rfl⟩
  rw [← hl7, ← hF7, join_assoc] at S7
  have f7L : F7 L = some (.ns l7) := by rw [hF7]; exact upd_self ..
  have f7q : F7 ql = some (.list (lv5 ns (many5 ns))) := by rw [hF7]; exact upd_other (Ne.symm qlL) f6q
  have y7 : Ly5 ns F7 c2 c3 c4 qn qm qa := by rw [hF7]; exact y6.up f6L
  have fr7 : Frs (lawEnv nm L a cd c1 c2 c3 c4 :: envs) F7 := by rw [hF7]; exact fr6.ns f6L
  have dj7 : Dj F7 (join G1 G2) := by rw [hF7]; exact (d1.l (d1.has f6L)).joinr (d2.of_l.l (d2.of_l.has f6L))
  refine execs_cons_h ?_
  intro QS8 hQS8
  refine st7 S7 f7L fr7 dj7 ⟨⟨by rw [hl7]; exact m6, by rw [hl7]; exact v6, by rw [hl7]; rfl, by rw [hl7]; rfl⟩, G1, G2, rfl, d2.of_r, by rw [ksG_zero]; exact t1, by rw [show pos5 ns 0 = 0 from rfl, ksG_zero]; exact t2⟩ y7 f7q R2 hh ?_
  intro l8 G8 s8 I8' dj8 S8
  refine unhide hQS8 ?_
  dsimp only
  clear S7
  obtain ⟨lk8, T1, T2, rfl, d8, t3, t4⟩ := I8'
  refine execs_cons_h ?_
  intro QS9 hQS9
  refine st8 S8 (upd_self ..) (fr7.ns f7L) (dj8.l (dj8.has f7L)) ⟨lk8, T1, T2, rfl, d8, t3, t4⟩ (y7.up f7L) R2 hh ?_
  intro l9 G9 s9 I9' dj9 S9
  refine unhide hQS9 ?_
  dsimp only
  clear S8
  rw [upd_upd] at S9
  obtain ⟨lk9, U1, U2, rfl, d9, u1, u2⟩ := I9'
  have dj9' : Dj F7 (join U1 U2) := dj9.unL5 ⟨_, f7L⟩
  refine execs_cons_h ?_
  intro QS10 hQS10
  refine st9 S9 (join_l (upd_self ..)) R1 hh ?_
  intro qs s10 hqs S10
  refine unhide hQS10 ?_
  dsimp only
  clear S9
  obtain ⟨a1, a2⟩ := join_none hqs
  obtain ⟨a3, a4⟩ := join_none a2
  have qsL := none_ne a1
  have f7s := none_up a1
  rw [upd_join_r a1, upd_front a2, ← join_assoc (F := upd (fun _ => none) qs (.list [])), upd_join, upd_upd] at S10
  obtain ⟨l10, hl10⟩ : ∃ l10 : List (Str × Value), l10 = (("served" : Str), Value.ref qs) :: l9 := ⟨_, rfl⟩
  obtain ⟨FA, hFA⟩ : ∃ FA, FA = upd F7 L (.ns l10) := ⟨_, rfl⟩
  rw [← hl10, ← hFA] at S10
  have fAL : FA L = some (.ns l10) := by rw [hFA]; exact upd_self ..
  have fAq : FA ql = some (.list (lv5 ns (many5 ns))) := by rw [hFA]; exact upd_other (Ne.symm qlL) f7q
  have yA : Ly5 ns FA c2 c3 c4 qn qm qa := by rw [hFA]; exact y7.up f7L
  have frA : Frs (lawEnv nm L a cd c1 c2 c3 c4 :: envs) FA := by rw [hFA]; exact fr7.ns f7L
  have lkA : Lk10 ns ql pt po qs l10 := by rw [hl10]; exact ⟨⟨lk9.many, lk9.leaves, lk9.tree, lk9.other⟩, rfl⟩
  have w0 : Dj FA (upd (fun _ => none) qs (.list [])) := by rw [hFA]; exact Dj.nil.r ((upd_ne qsL).trans f7s)
  have w1 : Dj FA (join U1 U2) := by rw [hFA]; exact dj9'.l (dj9'.has f7L)
  have w2 : Dj FA (join (join (upd (fun _ => none) qs (.list [])) U1) U2) := by rw [join_assoc]; exact w0.joinr w1
  refine execs_cons_h ?_
  intro QS11 hQS11
  refine st10 (ql := ql) (pt := pt) (po := po) (qs := qs) S10 fAL frA w2 ⟨lkA, U1, U2, rfl, Dj.one a3, (Dj.one a4).joinl d9, u1, u2⟩ fAq R hh hA ?_
  intro l11 G11 s11 I11 dj11 S11
  refine unhide hQS11 ?_
  dsimp only
  clear S10
  obtain ⟨lk11, V1, V2, rfl, e1, e2, -, -⟩ := I11
  have dj12 := dj11.l (o := .ns l11) (dj11.has fAL)
  have qs11 : join (upd FA L (.ns l11)) (join (join (sv5 ns qs (3 * lf5 ns 0)) V1) V2) qs = some (.list (intsV ((List.range (3 * lf5 ns 0)).map (srv5 ns)))) := join_r dj12 (join_l (join_l (upd_self ..)))
  have ql11 := join_l (G := join (join (sv5 ns qs (3 * lf5 ns 0)) V1) V2) (upd_other (o := .ns l11) (Ne.symm qlL) fAq)
  have L11 := join_l (G := join (join (sv5 ns qs (3 * lf5 ns 0)) V1) V2) (upd_self FA L (.ns l11))
  have y11 : Ly5 ns (join (upd FA L (.ns l11)) (join (join (sv5 ns qs (3 * lf5 ns 0)) V1) V2)) c2 c3 c4 qn qm qa := (yA.up fAL).j
  obtain ⟨HB, hHB⟩ : ∃ HB, HB = join (upd FA L (.ns l11)) (join (join (sv5 ns qs (3 * lf5 ns 0)) V1) V2) := ⟨_, rfl⟩
  rw [← hHB] at qs11 ql11 L11 y11 S11
  refine execs_cons_h ?_
  intro QS12 hQS12
  refine st11 S11 L11 lk11.l7.leaves lk11.served ql11 qs11 R2 hh ?_
  intro qf s12 hqf S12
  refine unhide hQS12 ?_
  dsimp only
  clear S11
  have qfL := ne_fresh hqf L11
  have qsL' := ne_kind qs11 L11 (by intro z; cases z)
  have fqf : upd (upd HB qf (.list (intsV ((List.range (lf5 ns 0)).map (srv5 ns))))) L (.ns (("first", .ref qf) :: l11)) qf = some (.list (intsV ((List.range (lf5 ns 0)).map (srv5 ns)))) := upd_other (Ne.symm qfL) (upd_self ..)
  have fqs : upd (upd HB qf (.list (intsV ((List.range (lf5 ns 0)).map (srv5 ns))))) L (.ns (("first", .ref qf) :: l11)) qs = some (.list (intsV ((List.range (3 * lf5 ns 0)).map (srv5 ns)))) := upd_other qsL' (upd_other (ne_fresh hqf qs11) qs11)
  have yB : Ly5 ns (upd (upd HB qf (.list (intsV ((List.range (lf5 ns 0)).map (srv5 ns))))) L (.ns (("first", .ref qf) :: l11))) c2 c3 c4 qn qm qa := (y11.mono fun b o _ h => upd_other (ne_fresh hqf h) h).up (upd_other qfL L11)
  have frB := S12.frs
  refine execs_cons_h ?_
  intro QS13 hQS13
  refine st12 S12 frB (upd_self ..) yB rfl lk11.l7.many fqf R2 hh ?_
  intro s13 S13
  refine unhide hQS13 ?_
  dsimp only
  clear S12
  refine execs_cons_h ?_
  intro QS14 hQS14
  refine st13 S13 (upd_self ..) rfl lk11.served fqf fqs R2 hh ?_
  intro H' s' S'
  refine unhide hQS14 ?_
  exact k _ _ S'
end
end
end Mine
end
section
open PySem PySem.W PyProof.Rows PySem.Calls
set_option linter.unusedVariables false
set_option linter.unusedSimpArgs false
set_option Elab.async false
set_option maxRecDepth 100000
set_option maxHeartbeats 8000000
set_option compiler.extract_closed false
namespace Mine
theorem law_start {w : World} {p : Program} {loose : List Str} {mean : ExcName → Option Value} {mg mb : Str → Option Value} {s₁ : Shared} {h₁ : Heap} {tk : Nat} {m : Str → Option Value} {L a c1 c2 c3 c4 sa : Nat} {nm : Str} {cd : Value} {vs : List Value} {ns : List Int} {o1 o2 o3 o4 : Obj} {Q : Flow → Shared → Prop} {E : Value → Shared → Prop}
    (KX : Frag.In (MineTop.hd.heap_39 w.params) s₁.heap) (TT : Top p loose mean mg mb s₁.heap) (LL : s₁.heap.IsList sa vs.toArray) (II : IntsAre vs ns) (h63 : ¬ (63 : Int) < ns.length) (FF : Fr s₁.heap L h₁ m) (NN : News s₁.heap L h₁ [(c4, o4), (c3, o3), (c2, o2), (c1, o1)])
    (d1 : o1.data = .cell (some (.ref sa))) (d2 : o2.data = .cell none) (d3 : o3.data = .cell none) (d4 : o4.data = .cell none)
    (n12 : c1 < c2) (n23 : c2 < c3) (n34 : c3 < c4)
    (k : ∀ s', (∀ b o, s₁.heap.get? b = some o → s'.heap.get? b = some o) → s'.os = s₁.os → s'.gens = s₁.gens → Q (.ret (.bool true)) s') :
    wpAny (model PySem.Challenge.rw_bd0031_05.row.prog w) (callerA.deeper (lawEnv nm L a cd c1 c2 c3 c4)) (execs (fnBody (PySem.Challenge.rw_bd0031_05.row.prog.main.body.getD 17 default)) (lawEnv nm L a cd c1 c2 c3 c4)) Q E { s₁ with heap := h₁, toks := tk } := by
  have g : ∀ x y, (x, y) ∈ [(c4, o4), (c3, o3), (c2, o2), (c1, o1)] → h₁.get? x = some y ∧ x ≠ L ∧ s₁.heap.get? x = none := fun x y h => NN (x, y) h
  have g1 := g c1 o1 (by simp)
  have g2 := g c2 o2 (by simp)
  have g3 := g c3 o3 (by simp)
  have g4 := g c4 o4 (by simp)
  have m12 := Nat.ne_of_gt n12
  have m23 := Nat.ne_of_gt n23
  have m34 := Nat.ne_of_gt n34
  have m13 := Nat.ne_of_gt (Nat.lt_trans n12 n23)
  have m24 := Nat.ne_of_gt (Nat.lt_trans n23 n34)
  have m14 := Nat.ne_of_gt (Nat.lt_trans n12 (Nat.lt_trans n23 n34))
  have S0 := St.start (prog := PySem.Challenge.rw_bd0031_05.row.prog) (w := w) (tk := tk) (env := lawEnv nm L a cd c1 c2 c3 c4) KX TT FF rfl (show ScopeKind.function ≠ .module by decide)
  have p0 : Plain (upd (fun _ => none) L (.ns [])) := Plain.upd (fun a x h => by cases h) rfl
  have x1 : upd (fun _ => none) L (.ns []) c1 = none := upd_other g1.2.1 rfl
  obtain ⟨S1, p1⟩ := S0.cell p0 x1 g1.2.2 g1.1 d1
  obtain ⟨S2, p2⟩ := S1.cell p1 (D := c2) (upd_other m12 (upd_other g2.2.1 rfl)) g2.2.2 g2.1 d2
  obtain ⟨S3, p3⟩ := S2.cell p2 (D := c3) (upd_other m23 (upd_other m13 (upd_other g3.2.1 rfl))) g3.2.2 g3.1 d3
  obtain ⟨S4, p4⟩ := S3.cell p3 (D := c4) (upd_other m34 (upd_other m24 (upd_other m14 (upd_other g4.2.1 rfl)))) g4.2.2 g4.1 d4
  have q1 := Ne.symm g1.2.1
  have q2 := Ne.symm g2.2.1
  have q3 := Ne.symm g3.2.1
  have q4 := Ne.symm g4.2.1
  refine law_walk S4 ⟨vs, LL, II, by omega⟩ ?_ ?_ ?_ ?_ (upd_self ..) (Ne.symm m23) (Ne.symm m24) (Ne.symm m34) ⟨?_, ?_⟩ rfl (Around.frames_deeper rfl) ?_
  · exact upd_other q4 (upd_other q3 (upd_other q2 (upd_other q1 (upd_self ..))))
  · exact upd_other (Ne.symm m14) (upd_other (Ne.symm m13) (upd_other (Ne.symm m12) (upd_self ..)))
  · exact upd_other (Ne.symm m24) (upd_other (Ne.symm m23) (upd_self ..))
  · exact upd_other (Ne.symm m34) (upd_self ..)
  · rw [depth_deeper]; show 1 + claimMargin + 1 + 480 ≤ 900; decide
  · rw [units_deeper]; show 4 + 3 + 4400 ≤ 9000; decide
  · intro Hc s' S'
    exact k s' S'.base S'.os S'.gens
end Mine
theorem PySem.Challenge.cw_bd0031_05_holds : PySem.Challenge.rw_bd0031_05.Holds :=
  MineTop.hd (by
  w_on
  w_strict (
    k_go0
    rename Fr _ _ _ _ => FF
    rename News _ _ _ _ => NN
    rename Top _ _ _ _ _ _ => TT
    rename IntsAre _ _ => II
    rename Heap.IsList _ _ _ => LL
    rename CellsAre _ _ _ => CC
    rename Frag.In _ _ => KX
    clear CC
    refine Mine.law_start KX TT LL II (by assumption) FF NN (by assumption) (by assumption) (by assumption) (by assumption) (by omega) (by omega) (by omega) ?_
    intro s' e1 e2 e3
    rename (_ = #[]) => hg
    exact ⟨.inl ⟨.bool true, .bool true, [], rfl, fun _ => rfl, .bool true, by first | (with_unfolding_all rfl) | kernel_rfl, fun _ => ⟨List.nodup_nil, fun a h => by cases h⟩⟩, e1, e2, e3.trans hg⟩))
end
