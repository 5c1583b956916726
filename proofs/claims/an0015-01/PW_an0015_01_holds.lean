import PyProof.Rows.All
import Wide.All
import OpenK.AllK
import Wide.FinOn
import PySem.Challenge.RW_an0015_01
open PySem PySem.W PySem.Calls PyProof.Rows
set_option Elab.async false
set_option maxHeartbeats 4000000
set_option maxRecDepth 100000
set_option linter.all false
namespace Mine
section
noncomputable abbrev Lk := Addr → Option Obj

inductive VK where
  | keys | vals | items
noncomputable def VK.cls : VK → String
  | .keys => "dict_keys" | .vals => "dict_values" | .items => "dict_items"

inductive V where
  | none
  | bool (b : Bool)
  | int (i : Int)
  | str (s : Str)
  | tup (l : List V)
  | flst (l : List V)
  | inst (C : Addr) (ns : List Str) (vs : List V)
  | mob (C : Addr) (dx : Addr)
  | ref (a : Addr)
  | view (k : VK) (a : Addr)
  | rng (n : Nat)
  | val (v : Value)

mutual
inductive Rep (g : Lk) : V → Value → Prop
  | none : Rep g .none .none
  | bool (b : Bool) : Rep g (.bool b) (.bool b)
  | int (i : Int) (t : Tok) : Rep g (.int i) (.int i t)
  | str (s : Str) (t : Tok) : PyData.strOk s = true → Rep g (.str s) (.str s t)
  | tup {l : List V} {a : Addr} {o : Obj} {vs : List Value} {n : Nat} : g a = some o → o.cls = .type "tuple" → o.data = .seq vs.toArray n → Reps g l vs → Rep g (.tup l) (.ref a)
  | flst {l : List V} {a : Addr} {o : Obj} {vs : List Value} {n : Nat} : g a = some o → o.cls = .type "list" → o.data = .seq vs.toArray n → Reps g l vs → Rep g (.flst l) (.ref a)
  | inst {C : Addr} {ns : List Str} {l : List V} {a dx : Addr} {es : List DictEntry} {n : Nat} : g a = some (instObj C dx) → g dx = some (dictOf es n) → RepF g ns l es → Rep g (.inst C ns l) (.ref a)
  | mob {C dx a : Addr} : g a = some (instObj C dx) → Rep g (.mob C dx) (.ref a)
  | ref (a : Addr) : Rep g (.ref a) (.ref a)
  | view {k : VK} {a b : Addr} {o : Obj} : g b = some o → o.cls = .type k.cls → o.data = .fields #[.ref a] → Rep g (.view k a) (.ref b)
  | rng {n : Nat} {r : Addr} {t u v : Tok} : g r = some { cls := .type "range", dict := Option.none, data := .fields #[.int 0 t, .int n u, .int 1 v], slots := #[] } → Rep g (.rng n) (.ref r)
  | val (v : Value) : Rep g (.val v) v
inductive Reps (g : Lk) : List V → List Value → Prop
  | nil : Reps g [] []
  | cons {x : V} {l : List V} {v : Value} {vs : List Value} : Rep g x v → Reps g l vs → Reps g (x :: l) (v :: vs)
inductive RepF (g : Lk) : List Str → List V → List DictEntry → Prop
  | nil : RepF g [] [] []
  | cons {x : Str} {ns : List Str} {u : V} {l : List V} {e : DictEntry} {es : List DictEntry} {t : Tok} : e.key = .str x t → Rep g u e.val → RepF g ns l es → RepF g (x :: ns) (u :: l) (e :: es)
end

noncomputable def Le (g g' : Lk) : Prop := ∀ a o, g a = some o → g' a = some o
theorem Le.refl (g : Lk) : Le g g := fun _ _ e => e
theorem Le.trans {a b c : Lk} (x : Le a b) (y : Le b c) : Le a c := fun p o e => y p o (x p o e)

theorem Reps.ind {g : Lk} {Q : List V → List Value → Prop} (nil : Q [] []) (cons : ∀ x l v vs, Rep g x v → Reps g l vs → Q l vs → Q (x :: l) (v :: vs)) {l : List V} {vs : List Value} (h : Reps g l vs) : Q l vs :=
  Reps.rec (motive_1 := fun _ _ _ => True) (motive_2 := fun l vs _ => Q l vs) (motive_3 := fun _ _ _ _ => True) trivial (fun _ => trivial) (fun _ _ => trivial) (fun _ _ _ => trivial) (fun _ _ _ _ _ => trivial) (fun _ _ _ _ _ => trivial) (fun _ _ _ _ => trivial)
    (fun _ => trivial) (fun _ => trivial) (fun _ _ _ => trivial) (fun _ => trivial) (fun _ => trivial) nil (fun h r _ q => cons _ _ _ _ h r q) trivial (fun _ _ _ _ _ => trivial) h
theorem RepF.ind {g : Lk} {Q : List Str → List V → List DictEntry → Prop} (nil : Q [] [] []) (cons : ∀ x ns u l e es t, e.key = .str x t → Rep g u e.val → RepF g ns l es → Q ns l es → Q (x :: ns) (u :: l) (e :: es)) {ns : List Str} {l : List V} {es : List DictEntry} (h : RepF g ns l es) : Q ns l es :=
  RepF.rec (motive_1 := fun _ _ _ => True) (motive_2 := fun _ _ _ => True) (motive_3 := fun ns l es _ => Q ns l es) trivial (fun _ => trivial) (fun _ _ => trivial) (fun _ _ _ => trivial) (fun _ _ _ _ _ => trivial) (fun _ _ _ _ _ => trivial) (fun _ _ _ _ => trivial)
    (fun _ => trivial) (fun _ => trivial) (fun _ _ _ => trivial) (fun _ => trivial) (fun _ => trivial) trivial (fun _ _ _ _ => trivial) nil (fun e h r _ q => cons _ _ _ _ _ _ _ e h r q) h
theorem Rep.mono {g g' : Lk} (k : Le g g') {x : V} {v : Value} (h : Rep g x v) : Rep g' x v :=
  Rep.rec (motive_1 := fun x v _ => Rep g' x v) (motive_2 := fun l vs _ => Reps g' l vs) (motive_3 := fun ns l es _ => RepF g' ns l es) .none (fun b => .bool b) (fun i t => .int i t) (fun s t h => .str s t h)
    (fun h c d _ r => .tup (k _ _ h) c d r) (fun h c d _ r => .flst (k _ _ h) c d r) (fun h h' _ r => .inst (k _ _ h) (k _ _ h') r) (fun h => .mob (k _ _ h)) (fun a => .ref a) (fun h c d => .view (k _ _ h) c d) (fun h => .rng (k _ _ h)) (fun v => .val v)
    .nil (fun _ _ h r => .cons h r) .nil (fun e _ _ h r => .cons e h r) h
theorem Reps.mono {g g' : Lk} (k : Le g g') {l : List V} {vs : List Value} (h : Reps g l vs) : Reps g' l vs := h.ind .nil fun _ _ _ _ h _ q => .cons (h.mono k) q
theorem RepF.mono {g g' : Lk} (k : Le g g') {ns : List Str} {l : List V} {es : List DictEntry} (h : RepF g ns l es) : RepF g' ns l es := h.ind .nil fun _ _ _ _ _ _ _ e h _ q => .cons e (h.mono k) q
theorem Reps.length {g : Lk} {l : List V} {vs : List Value} (h : Reps g l vs) : vs.length = l.length := h.ind (Q := fun l vs => vs.length = l.length) rfl fun _ _ _ _ _ _ q => congrArg Nat.succ q
theorem Reps.get {g : Lk} {l : List V} {vs : List Value} (h : Reps g l vs) : ∀ {i : Nat} {x : V}, l[i]? = some x → ∃ v, vs[i]? = some v ∧ Rep g x v :=
  h.ind (Q := fun l vs => ∀ {i : Nat} {x : V}, l[i]? = some x → ∃ v, vs[i]? = some v ∧ Rep g x v) (fun e => by cases e) fun x l v vs h _ q i y e => match i, e with
    | 0, e => by cases e; exact ⟨v, rfl, h⟩
    | _ + 1, e => q e
theorem Reps.append {g : Lk} {l : List V} {vs : List Value} (h : Reps g l vs) {l' : List V} {vs' : List Value} (h' : Reps g l' vs') : Reps g (l ++ l') (vs ++ vs') :=
  h.ind (Q := fun l vs => Reps g (l ++ l') (vs ++ vs')) h' fun _ _ _ _ h _ q => .cons h q
theorem Reps.one {g : Lk} {x : V} {v : Value} (h : Rep g x v) : Reps g [x] [v] := .cons h .nil
theorem Reps.drop {g : Lk} {l : List V} {vs : List Value} (h : Reps g l vs) : ∀ n, Reps g (l.drop n) (vs.drop n) :=
  h.ind (Q := fun l vs => ∀ n, Reps g (l.drop n) (vs.drop n)) (fun n => by cases n <;> exact .nil) fun _ _ _ _ h r q n => by
    cases n with
    | zero => exact .cons h r
    | succ n => exact q n
theorem Reps.take {g : Lk} {l : List V} {vs : List Value} (h : Reps g l vs) : ∀ n, Reps g (l.take n) (vs.take n) :=
  h.ind (Q := fun l vs => ∀ n, Reps g (l.take n) (vs.take n)) (fun n => by cases n <;> exact .nil) fun _ _ _ _ h r q n => by
    cases n with
    | zero => exact .nil
    | succ n => exact .cons h (q n)

theorem strOk_of (s : String) : PyData.strOk (Str.ofString s) = true := by
  rw [Str.ofString_eq_toList]
  unfold PyData.strOk
  rw [← Array.all_toList, List.all_eq_true]
  intro c hc
  simp only [List.mem_map] at hc
  obtain ⟨ch, -, rfl⟩ := hc
  have := ch.valid
  simp only [UInt32.isValidChar, Nat.isValidChar] at this
  have ht : ch.toNat = ch.val.toNat := rfl
  exact decide_eq_true (by omega)

inductive AO where
  | list (l : List V)
  | ns (xs : List Str) (l : List V)
  | dict (es : List (V × V))
  | sdict (es : List (Str × V))

noncomputable abbrev Store := Addr → Option AO
noncomputable def put {α : Type} (f : Addr → Option α) (a : Addr) (x : α) : Addr → Option α := fun b => if b = a then some x else f b
noncomputable def del {α : Type} (f : Addr → Option α) (a : Addr) : Addr → Option α := fun b => if b = a then none else f b
theorem put_self {α : Type} (f : Addr → Option α) (a : Addr) (x : α) : put f a x a = some x := if_pos rfl
theorem put_ne {α : Type} (f : Addr → Option α) {a b : Addr} (x : α) (h : b ≠ a) : put f a x b = f b := if_neg h
theorem put_put {α : Type} (f : Addr → Option α) (a : Addr) (x y : α) : put (put f a x) a y = put f a y := by
  funext b; unfold put; split <;> rfl
theorem del_self {α : Type} (f : Addr → Option α) (a : Addr) : del f a a = none := if_pos rfl
theorem del_ne {α : Type} (f : Addr → Option α) {a b : Addr} (h : b ≠ a) : del f a b = f b := if_neg h
theorem put_del {α : Type} {f : Addr → Option α} {a : Addr} {x : α} (h : f a = some x) : put (del f a) a x = f := by
  funext b; unfold put del
  by_cases e : b = a
  · rw [if_pos e, e, h]
  · rw [if_neg e, if_neg e]
theorem le_put {g : Lk} {a : Addr} {o : Obj} (h : g a = none) : Le g (put g a o) := fun b o' e => by
  rw [put_ne]; exact e; rintro rfl; rw [h] at e; cases e

noncomputable def nrm : PyData → PyData
  | .bool b => .int (if b then 1 else 0)
  | .tuple xs => .tuple (nrms xs)
  | d => d
where
  nrms : List PyData → List PyData
    | [] => []
    | x :: r => nrm x :: nrms r

mutual
noncomputable def V.py : V → PyData
  | .none => .none
  | .bool b => .bool b
  | .int i => .int i
  | .str s => .str s
  | .tup l => .tuple (pys l)
  | _ => .dict []
noncomputable def pys : List V → List PyData
  | [] => []
  | x :: r => x.py :: pys r
end
theorem pys_map : ∀ l : List V, pys l = l.map V.py
  | [] => rfl
  | x :: r => by rw [pys, pys_map r, List.map_cons]

mutual
noncomputable def V.flat : Nat → V → Bool
  | _, .none => true
  | _, .bool _ => true
  | _, .int _ => true
  | _, .str _ => true
  | n + 1, .tup l => flats n l
  | _, _ => false
noncomputable def flats : Nat → List V → Bool
  | _, [] => true
  | n, x :: r => x.flat n && flats n r
end
theorem flats_all : ∀ (n : Nat) (l : List V), flats n l = l.all (V.flat n)
  | _, [] => rfl
  | n, x :: r => by rw [flats, flats_all n r, List.all_cons]

theorem Rep.reads {g : Lk} {h : Heap} (k : ∀ a o, g a = some o → h.get? a = some o) {x : V} {v : Value} : ∀ (n : Nat), Rep g x v → x.flat n = true → (∃ as, Reads h v x.py as) ∧ x.py.canLay0 = true ∧ x.py.depth ≤ n := fun n r =>
  Rep.rec (motive_1 := fun x v _ => ∀ n, x.flat n = true → (∃ as, Reads h v x.py as) ∧ x.py.canLay0 = true ∧ x.py.depth ≤ n)
    (motive_2 := fun l vs _ => ∀ n, flats n l = true → (∃ as, ReadsAll h vs (pys l) as) ∧ PyData.canLayAll0 (pys l) = true ∧ PyData.depthAll (pys l) ≤ n) (motive_3 := fun _ _ _ _ => True)
    (fun n _ => ⟨⟨_, .none⟩, rfl, Nat.zero_le n⟩) (fun b n _ => ⟨⟨_, .bool b⟩, rfl, Nat.zero_le n⟩) (fun i t n _ => ⟨⟨_, .int i t⟩, rfl, Nat.zero_le n⟩) (fun s t hs n _ => ⟨⟨_, .str s t⟩, hs, Nat.zero_le n⟩)
    (fun ho hc hd _ q n hf => by
      cases n with
      | zero => cases hf
      | succ n =>
        obtain ⟨⟨as, q⟩, c, d⟩ := q n hf
        refine ⟨⟨as, .tuple (k _ _ ho) hc hd q⟩, c, ?_⟩
        simp only [V.py, PyData.depth]; omega)
    (fun _ _ _ _ _ n hf => by cases n <;> cases hf) (fun _ _ _ _ n hf => by cases n <;> cases hf) (fun _ n hf => by cases n <;> cases hf) (fun _ n hf => by cases n <;> cases hf) (fun _ _ _ n hf => by cases n <;> cases hf) (fun _ n hf => by cases n <;> cases hf) (fun _ n hf => by cases n <;> cases hf)
    (fun n _ => ⟨⟨_, .nil⟩, rfl, Nat.zero_le n⟩)
    (fun _ _ h1 h2 n hf => by
      simp only [flats, Bool.and_eq_true] at hf
      obtain ⟨⟨as, q⟩, c, d⟩ := h1 n hf.1
      obtain ⟨⟨bs, p⟩, c', d'⟩ := h2 n hf.2
      exact ⟨⟨_, .cons q p⟩, by simp only [pys, PyData.canLayAll0, c, c', Bool.and_self], by simp only [pys, PyData.depthAll]; omega⟩)
    trivial (fun _ _ _ _ _ => trivial) r n
theorem Reps.reads {g : Lk} {h : Heap} (k : ∀ a o, g a = some o → h.get? a = some o) {l : List V} {vs : List Value} : ∀ (n : Nat), Reps g l vs → flats n l = true → (∃ as, ReadsAll h vs (pys l) as) ∧ PyData.canLayAll0 (pys l) = true ∧ PyData.depthAll (pys l) ≤ n := fun n r =>
  r.ind (Q := fun l vs => flats n l = true → (∃ as, ReadsAll h vs (pys l) as) ∧ PyData.canLayAll0 (pys l) = true ∧ PyData.depthAll (pys l) ≤ n) (fun _ => ⟨⟨_, .nil⟩, rfl, Nat.zero_le n⟩)
    fun _ _ _ _ h1 _ h2 hf => by
      simp only [flats, Bool.and_eq_true] at hf
      obtain ⟨⟨as, q⟩, c, d⟩ := h1.reads k n hf.1
      obtain ⟨⟨bs, p⟩, c', d'⟩ := h2 hf.2
      exact ⟨⟨_, .cons q p⟩, by simp only [pys, PyData.canLayAll0, c, c', Bool.and_self], by simp only [pys, PyData.depthAll]; omega⟩
end
section
mutual
noncomputable def okd : Nat → PyData → Bool
  | _, .none => true
  | _, .bool _ => true
  | _, .int _ => true
  | _, .str x => PyData.strOk x
  | n + 1, .tuple xs => okds n xs
  | _, _ => false
noncomputable def okds : Nat → List PyData → Bool
  | _, [] => true
  | n, x :: r => okd n x && okds n r
end
mutual
noncomputable def kh (w : World) : PyData → Int
  | .none => 0xFCA86420
  | .bool b => if b then 1 else 0
  | .int i => hashInt i
  | .str x => hashStr w x
  | .tuple xs => reduceHash (Builtin.Tuple.tupleHashOf (khs w xs))
  | _ => 0
noncomputable def khs (w : World) : List PyData → List Int
  | [] => []
  | x :: r => kh w x :: khs w r
end
mutual
noncomputable def kdr : PyData → Nat
  | .tuple xs => kdrs xs + 1
  | _ => 1
noncomputable def kdrs : List PyData → Nat
  | [] => 0
  | x :: r => kdr x + kdrs r
end

mutual
theorem kh_nrm (w : World) : ∀ d : PyData, kh w (nrm d) = kh w d
  | .none | .int _ | .str _ | .list _ | .dict _ => rfl
  | .bool true => by show hashInt 1 = 1; decide +kernel
  | .bool false => by show hashInt 0 = 0; decide +kernel
  | .tuple xs => by rw [nrm, kh, kh, khs_nrm w xs]
theorem khs_nrm (w : World) : ∀ xs : List PyData, khs w (nrm.nrms xs) = khs w xs
  | [] => rfl
  | x :: r => by rw [nrm.nrms, khs, khs, kh_nrm w x, khs_nrm w r]
end
mutual
theorem kdr_nrm : ∀ d : PyData, kdr (nrm d) = kdr d
  | .none | .int _ | .str _ | .list _ | .dict _ | .bool _ => rfl
  | .tuple xs => by rw [nrm, kdr, kdr, kdrs_nrm xs]
theorem kdrs_nrm : ∀ xs : List PyData, kdrs (nrm.nrms xs) = kdrs xs
  | [] => rfl
  | x :: r => by rw [nrm.nrms, kdrs, kdrs, kdr_nrm x, kdrs_nrm r]
end

theorem okds_lay {n : Nat} (ih : ∀ d : PyData, okd n d = true → d.canLay0 = true ∧ d.depth ≤ n) : ∀ xs : List PyData, okds n xs = true → PyData.canLayAll0 xs = true ∧ PyData.depthAll xs ≤ n := fun xs => by
  induction xs with
  | nil => exact fun _ => ⟨rfl, Nat.zero_le _⟩
  | cons x r q =>
    intro h
    simp only [okds, Bool.and_eq_true] at h
    have a := ih x h.1
    have b := q h.2
    exact ⟨by simp only [PyData.canLayAll0, a.1, b.1, Bool.and_self], by simp only [PyData.depthAll]; omega⟩
theorem okd_lay (n : Nat) : ∀ d : PyData, okd n d = true → d.canLay0 = true ∧ d.depth ≤ n := by
  induction n with
  | zero => intro d h; cases d <;> first | exact ⟨rfl, Nat.zero_le _⟩ | exact ⟨h, Nat.zero_le _⟩ | cases h
  | succ n ih =>
    intro d h
    cases d with
    | tuple xs =>
      have := okds_lay ih xs h
      exact ⟨this.1, by simp only [PyData.depth]; omega⟩
    | _ => first | exact ⟨rfl, Nat.zero_le _⟩ | exact ⟨h, Nat.zero_le _⟩ | cases h

theorem eqvAll_nrm {n m : Nat} (ih : ∀ d e : PyData, okd n d = true → okd m e = true → (PyData.eqv d e = true ↔ nrm d = nrm e)) : ∀ xs ys : List PyData, okds n xs = true → okds m ys = true → (PyData.eqvAll xs ys = true ↔ nrm.nrms xs = nrm.nrms ys) := fun xs => by
  induction xs with
  | nil => intro ys _ _; cases ys <;> simp [PyData.eqvAll, nrm.nrms]
  | cons x r q =>
    intro ys h h'
    cases ys with
    | nil => simp [PyData.eqvAll, nrm.nrms]
    | cons y t =>
      simp only [okds, Bool.and_eq_true] at h h'
      rw [PyData.eqvAll, nrm.nrms, nrm.nrms, List.cons.injEq, Bool.and_eq_true, ih x y h.1 h'.1, q t h.2 h'.2]
theorem eqv_nrm (n : Nat) : ∀ (m : Nat) (d e : PyData), okd n d = true → okd m e = true → (PyData.eqv d e = true ↔ nrm d = nrm e) := by
  induction n with
  | zero =>
    intro m d e h h'
    cases d with
    | bool b => cases e <;> simp [PyData.eqv, nrm]; cases b <;> (rename_i c; cases c <;> simp)
    | none => cases e <;> simp [PyData.eqv, nrm]
    | int i => cases e <;> simp [PyData.eqv, nrm]
    | str x => cases e <;> simp [PyData.eqv, nrm]
    | _ => cases h
  | succ n ih =>
    intro m d e h h'
    cases d with
    | tuple xs =>
      cases e with
      | tuple ys =>
        cases m with
        | zero => cases h'
        | succ m =>
          rw [PyData.eqv, nrm, nrm, PyData.tuple.injEq]
          exact eqvAll_nrm (ih m) xs ys h h'
      | _ => simp [PyData.eqv, nrm]
    | bool b => cases e <;> simp [PyData.eqv, nrm]; cases b <;> (rename_i c; cases c <;> simp)
    | none => cases e <;> simp [PyData.eqv, nrm]
    | int i => cases e <;> simp [PyData.eqv, nrm]
    | str x => cases e <;> simp [PyData.eqv, nrm]
    | _ => cases h

section
variable {prog : Program} {w : World} {E : Value → Shared → Prop}
theorem pyHash_ds {n : Nat} (ih : ∀ (d : PyData) (v : Value) (as : List Addr) (A : Around) (s : Shared) (Q : Int → Shared → Prop), okd n d = true → Reads s.heap v d as → A.units + n < cLine → Q (kh w d) { s with toks := s.toks + kdr d } → wpAny (model prog w) A (pyHash v) Q E s) (xs : List PyData) :
    ∀ (vs : List Value) (as : List Addr) (A : Around) (s : Shared) (b : Array Int) (Q : Array Int → Shared → Prop), okds n xs = true → ReadsAll s.heap vs xs as → A.units + n < cLine →
    (∀ b', b'.toList = b.toList ++ khs w xs → Q b' { s with toks := s.toks + kdrs xs }) →
    wpAny (model prog w) A (forIn vs b fun x r => do let h ← pyHash x; pure PUnit.unit; pure (ForInStep.yield (r.push h))) Q E s := by
  induction xs with
  | nil => intro vs as A s b Q _ r _ h; cases r; exact wpAny_pure (h b (by simp [khs]))
  | cons k xs q =>
    intro vs as A s b Q hk r hu h
    cases r with
    | cons r1 r2 =>
      simp only [okds, Bool.and_eq_true] at hk
      rw [List.forIn_cons]
      refine wpAny_bind (wpAny_bind (ih k _ _ A s _ hk.1 r1 hu ?_))
      refine wpAny_bind (wpAny_pure (wpAny_pure ?_))
      refine q _ _ A _ _ Q hk.2 r2 hu fun b' hb => ?_
      have := h b' (by simp [hb, khs])
      simpa [kdrs, Nat.add_assoc] using this
theorem pyHash_0 (n : Nat) (d : PyData) (v : Value) (as : List Addr) (A : Around) (s : Shared) (Q : Int → Shared → Prop) (hd : ∀ xs, d ≠ .tuple xs) (hk : okd n d = true) (r : Reads s.heap v d as) (hu : A.units + n < cLine)
    (h : Q (kh w d) { s with toks := s.toks + kdr d }) : wpAny (model prog w) A (pyHash v) Q E s := by
  cases d with
  | none =>
    cases r
    exact pyHash_slot (T := "NoneType") rfl F.slot_NoneType_hash F.entry_NoneType_hash (F.args_NoneType_hash_1 _) (beq_builtin_none _) (.inr (by omega)) (wpAny_bind (wpAny_pure (wpAny_bind (wpAny_mkInt (wpAny_pure ⟨_, _, rfl, h⟩)))))
  | bool b =>
    cases r
    refine pyHash_slot (T := "bool") rfl F.slot_bool_hash entry_int_hash (args_int_hash _) (beq_builtin_none _) (.inr (by omega)) ?_
    cases b
    · exact (show wpAny _ _ (do ret (← mkInt 0)) _ _ s from wpAny_bind (wpAny_mkInt (wpAny_pure ⟨_, _, rfl, h⟩)))
    · exact (show wpAny _ _ (do ret (← mkInt 1)) _ _ s from wpAny_bind (wpAny_mkInt (wpAny_pure ⟨_, _, rfl, h⟩)))
  | int i => cases r; exact wpAny_pyHash_int h
  | str y => cases r; exact wpAny_pyHash_str h
  | tuple xs => exact absurd rfl (hd xs)
  | _ => cases n <;> cases hk
theorem pyHash_d (n : Nat) : ∀ (d : PyData) (v : Value) (as : List Addr) (A : Around) (s : Shared) (Q : Int → Shared → Prop), okd n d = true → Reads s.heap v d as → A.units + n < cLine →
    Q (kh w d) { s with toks := s.toks + kdr d } → wpAny (model prog w) A (pyHash v) Q E s := by
  induction n with
  | zero => intro d v as A s Q hk r hu h; exact pyHash_0 0 d v as A s Q (fun xs e => by rw [e] at hk; cases hk) hk r hu h
  | succ n ih =>
    intro d v as A s Q hk r hu h
    by_cases ht : ∃ xs, d = .tuple xs
    · obtain ⟨xs, rfl⟩ := ht
      cases r with
      | @tuple a o vs m _ _ ho hc hd hr =>
        refine pyHash_slot (T := "tuple") ⟨_, ho, hc⟩ F.slot_tuple_hash F.entry_tuple_hash (F.args_tuple_hash_1 _) (beq_builtin_none _) (.inr (by omega)) ?_
        show wpAny _ _ (Builtin.Tuple.tupleItemsOf (.ref a) >>= _) _ _ s
        refine wpAny_bind (wpAny_tupleItemsOf ho hd ?_)
        refine wpAny_bind ?_
        rw [← Array.forIn_toList]
        refine pyHash_ds ih xs vs.toList as A.in1 s #[] _ hk hr (by show A.units + 1 + n < cLine; omega) fun b hb => ?_
        show wpAny _ _ (retInt (Builtin.Tuple.tupleHashOf b.toList)) _ _ _
        rw [hb]
        refine wpAny_bind (wpAny_mkInt (wpAny_pure ⟨_, _, rfl, ?_⟩))
        simpa [kh, kdr, Nat.add_assoc] using h
    · exact pyHash_0 (n + 1) d v as A s Q (fun xs e => ht ⟨xs, e⟩) hk r hu h

theorem quiet_d (n : Nat) : ∀ (d : PyData) (v : Value) (as : List Addr) (A : Around) (s : Shared) (Q : Bool → Shared → Prop), okd n d = true → Reads s.heap v d as → Q true s → wpAny (model prog w) A (eqIsQuiet n v) Q E s := by
  induction n with
  | zero => intro d v as A s Q hk r h; cases d <;> first | (cases r; rw [eqIsQuiet_byValue _ rfl]; exact wpAny_pure h) | cases hk
  | succ n ih =>
    intro d v as A s Q hk r h
    cases d with
    | tuple xs =>
      cases r with
      | @tuple a o vs m _ _ ho hc hd hr =>
        have hk' : okds n xs = true := hk
        have hT : s.TypeIs (.ref a) "tuple" := ⟨_, ho, hc⟩
        unfold eqIsQuiet
        refine wpAny_bind (wpAny_specialOf hT F.slot_tuple_eq.lookup ?_)
        show wpAny _ _ (isInstance (.ref a) (.type "tuple") >>= _) _ _ s
        refine wpAny_bind (wpAny_isInstance hT isSubtype_tuple_tuple ?_)
        simp only [Bool.not_true, Bool.false_eq_true, if_false]
        refine wpAny_bind (wpAny_seqItems ho hd ?_)
        refine wpAny_bind ?_
        show wpAny _ _ (forIn vs _ _) _ _ s
        rw [← Array.forIn_toList]
        refine wpAny_forIn_list _ (fun rest r s' => r.1 = none ∧ s' = s ∧ ∃ ys bs, okds n ys = true ∧ ReadsAll s.heap rest ys bs) _ ?_ ?_ _ _ ⟨rfl, rfl, xs, as, hk', hr⟩
        · rintro v rest r s' ⟨hr1, rfl, ys, bs, hys, hra⟩
          cases hra with
          | @cons _ _ d ds a1 b1 r1 r2 =>
            rw [okds, Bool.and_eq_true] at hys
            refine wpAny_bind (ih d v _ A _ _ hys.1 r1 ?_)
            simp only [Bool.not_true, Bool.false_eq_true, if_false]
            exact wpAny_pure ⟨rfl, rfl, ds, b1, hys.2, r2⟩
        · rintro ⟨r1, r2⟩ s' ⟨hr0, rfl, _⟩
          simp only at hr0
          subst hr0
          exact wpAny_pure h
    | list _ => cases hk
    | dict _ => cases hk
    | _ => cases r; rw [eqIsQuiet_byValue _ rfl]; exact wpAny_pure h
end

noncomputable def KeyIs (h : Heap) (k : PyData) (a : Addr) : Prop := ∃ d as, Reads h (.ref a) d as ∧ okd 8 d = true ∧ nrm d = k

theorem ReadsAll.okKeep {h h' : Heap} {n : Nat} (ih : ∀ (d : PyData) (v : Value) (as : List Addr), okd n d = true → Reads h v d as → Reads h' v d as) (xs : List PyData) : ∀ (vs : List Value) (as : List Addr), okds n xs = true → ReadsAll h vs xs as → ReadsAll h' vs xs as := by
  induction xs with
  | nil => intro vs as _ r; cases r; exact .nil
  | cons x xs q =>
    intro vs as hk r
    cases r with
    | cons r1 r2 =>
      simp only [okds, Bool.and_eq_true] at hk
      exact .cons (ih x _ _ hk.1 r1) (q _ _ hk.2 r2)
theorem Reads.okKeep {h h' : Heap} {b : Addr} {o : Obj} {es ep} (hb : h.get? b = some o) (hd : o.data = .dict es ep) (hs : Heap.SameBut b h h') (n : Nat) : ∀ (d : PyData) (v : Value) (as : List Addr), okd n d = true → Reads h v d as → Reads h' v d as := by
  induction n with
  | zero => intro d v as hk r; cases d <;> first | (cases r; first | exact .none | exact .bool _ | exact .int _ _ | exact .str _ _) | cases hk
  | succ n ih =>
    intro d v as hk r
    cases d with
    | tuple xs =>
      cases r with
      | @tuple a o' vs m _ as ho hc hd' hr =>
        have hne : a ≠ b := by
          rintro rfl
          obtain rfl : o' = o := Option.some.inj (ho.symm.trans hb)
          rw [hd] at hd'; exact nomatch hd'
        exact .tuple ((hs.2 a hne).trans ho) hc hd' (ReadsAll.okKeep ih xs _ _ hk hr)
    | list _ => cases hk
    | dict _ => cases hk
    | _ => cases r; first | exact .none | exact .bool _ | exact .int _ _ | exact .str _ _

noncomputable instance decPy : DecidableEq PyData := fun a b => Classical.propDecidable (a = b)

noncomputable def hk (prog : Program) (w : World) : HeapKind prog w PyData where
  is := KeyIs
  hash := kh w
  draws := kdr
  room := fun A => A.units + 16 < cLine
  inj := by
    rintro h a x y ⟨d, as, r, ok, rfl⟩ ⟨d', as', r', ok', rfl⟩
    rw [(PySem.Reads.unique r _ _ r').1]
  keeps := by
    rintro h h' k a d o es ep ⟨e, as, r, ok, rfl⟩ hb hd hs
    exact ⟨e, as, Reads.okKeep hb hd hs 8 e _ _ ok r, ok, rfl⟩
  pyHash := by
    rintro A E s k a Q hu ⟨d, as, r, ok, rfl⟩ h
    rw [kh_nrm, kdr_nrm] at h
    exact pyHash_d 8 d _ _ A s Q ok r (by omega) h
  eqBool := by
    rintro A E s x y a b Q hu ⟨d, as, r, ok, rfl⟩ ⟨d', as', r', ok', rfl⟩ h
    refine SeqAt.eqBoolOverData prog w A E s _ _ d d' as as' Q r r' (okd_lay 8 d ok).1 (okd_lay 8 d' ok').1 ?_ ?_
    · have := (okd_lay 8 d ok).2; omega
    · have e : PyData.eqv d d' = decide (nrm d = nrm d') := by
        rw [Bool.eq_iff_iff, eqv_nrm 8 8 d d' ok ok', decide_eq_true_iff]
      rw [e]; exact h
  quiet := by
    rintro A E s k a Q ⟨d, as, r, ok, rfl⟩ h
    exact quiet_d 8 d _ _ A s Q ok r h
end
section
theorem Rep.okd {g : Lk} {x : V} {v : Value} : ∀ (n : Nat), Rep g x v → x.flat n = true → okd n x.py = true := fun n r =>
  Rep.rec (motive_1 := fun x v _ => ∀ n, x.flat n = true → Mine.okd n x.py = true) (motive_2 := fun l vs _ => ∀ n, flats n l = true → Mine.okds n (pys l) = true) (motive_3 := fun _ _ _ _ => True)
    (fun n _ => by cases n <;> rfl) (fun b n _ => by cases n <;> rfl) (fun i t n _ => by cases n <;> rfl) (fun s t hs n _ => by cases n <;> exact hs)
    (fun ho hc hd _ q n hf => by
      cases n with
      | zero => cases hf
      | succ n => simpa only [V.py, Mine.okd] using q n hf)
    (fun _ _ _ _ _ n hf => by cases n <;> cases hf) (fun _ _ _ _ n hf => by cases n <;> cases hf) (fun _ n hf => by cases n <;> cases hf) (fun _ n hf => by cases n <;> cases hf) (fun _ _ _ n hf => by cases n <;> cases hf) (fun _ n hf => by cases n <;> cases hf) (fun _ n hf => by cases n <;> cases hf)
    (fun n _ => rfl)
    (fun _ _ h1 h2 n hf => by
      simp only [flats, Bool.and_eq_true] at hf
      simp only [pys, Mine.okds, h1 n hf.1, h2 n hf.2, Bool.and_self])
    trivial (fun _ _ _ _ _ => trivial) r n

inductive RepX (g : Lk) : List (V × V) → List (PyData × Addr × Value) → Prop
  | nil : RepX g [] []
  | cons {k x : V} {a : Addr} {v : Value} {es : List (V × V)} {xs : List (PyData × Addr × Value)} : Rep g k (.ref a) → k.flat 8 = true → Rep g x v → RepX g es xs → RepX g ((k, x) :: es) ((nrm k.py, a, v) :: xs)
theorem RepX.mono {g g' : Lk} (k : Le g g') {es : List (V × V)} {xs : List (PyData × Addr × Value)} (h : RepX g es xs) : RepX g' es xs := by
  induction h with
  | nil => exact .nil
  | cons h f h' _ r => exact .cons (h.mono k) f (h'.mono k) r
theorem RepX.fst {g : Lk} {es : List (V × V)} {xs : List (PyData × Addr × Value)} (h : RepX g es xs) : xs.map (·.1) = es.map fun e => nrm e.1.py := by
  induction h with
  | nil => rfl
  | cons _ _ _ _ r => rw [List.map_cons, List.map_cons, r]
theorem RepX.keys {g : Lk} {h : Heap} (k : ∀ a o, g a = some o → h.get? a = some o) {es : List (V × V)} {xs : List (PyData × Addr × Value)} (r : RepX g es xs) : ∀ x ∈ xs, KeyIs h x.1 x.2.1 := by
  induction r with
  | nil => exact fun _ m => by cases m
  | cons h f _ _ r =>
    intro x m
    cases m with
    | head =>
      obtain ⟨⟨as, q⟩, _⟩ := h.reads k 8 f
      exact ⟨_, as, q, h.okd 8 f, rfl⟩
    | tail _ m => exact r x m

inductive RepSV (g : Lk) : List (Str × V) → List (Str × Value) → Prop
  | nil : RepSV g [] []
  | cons {x : Str} {u : V} {v : Value} {es : List (Str × V)} {kvs : List (Str × Value)} : PyData.strOk x = true → Rep g u v → RepSV g es kvs → RepSV g ((x, u) :: es) ((x, v) :: kvs)
theorem RepSV.mono {g g' : Lk} (k : Le g g') {es : List (Str × V)} {xs : List (Str × Value)} (h : RepSV g es xs) : RepSV g' es xs := by
  induction h with
  | nil => exact .nil
  | cons f h _ r => exact .cons f (h.mono k) r
noncomputable def dob (es : List DictEntry) (n : Nat) : Obj := ⟨.type "dict", none, .dict es.toArray n, #[]⟩
noncomputable def lob (vs : List Value) (n : Nat) : Obj := ⟨.type "list", none, .seq vs.toArray n, #[]⟩

section
variable {prog : Program} {w : World}

noncomputable def ObjIs (prog : Program) (w : World) (kp : Lk) (o : Obj) : AO → Prop
  | .list l => ∃ vs n, o = lob vs n ∧ Reps kp l vs
  | .ns xs l => ∃ es n, o = dictOf es n ∧ RepF kp xs l es
  | .dict es => ∃ xs ep, o = dob (xs.map (entryOfKey (hk prog w))) ep ∧ RepX kp es xs ∧ (xs.map (·.1)).Nodup
  | .sdict es => ∃ ens kvs ep, o = dob ens ep ∧ KeysOf (strKind prog w) ens.toArray ∧ Pairs (strKind prog w) ens kvs ∧ (kvs.map (·.1)).Nodup ∧ RepSV kp es kvs
theorem ObjIs.mono {kp kp' : Lk} (k : Le kp kp') {o : Obj} {x : AO} (h : ObjIs prog w kp o x) : ObjIs prog w kp' o x := by
  cases x with
  | list _ => exact h.imp fun _ h => h.imp fun _ h => ⟨h.1, h.2.mono k⟩
  | ns _ _ => exact h.imp fun _ h => h.imp fun _ h => ⟨h.1, h.2.mono k⟩
  | dict _ => exact h.imp fun _ h => h.imp fun _ h => ⟨h.1, h.2.1.mono k, h.2.2⟩
  | sdict _ => exact h.imp fun _ h => h.imp fun _ h => h.imp fun _ h => ⟨h.1, h.2.1, h.2.2.1, h.2.2.2.1, h.2.2.2.2.mono k⟩

structure Sat (prog : Program) (w : World) (B kp st : Lk) (σ : Store) (h : Heap) : Prop where
  base : Le B kp
  kp_ok : ∀ a o, kp a = some o → h.get? a = some o
  st_ok : ∀ a o, st a = some o → h.get? a = some o
  mu_ok : ∀ a x, σ a = some x → ∃ o, h.get? a = some o ∧ ObjIs prog w kp o x
  d1 : ∀ a o, st a = some o → kp a = none
  d2 : ∀ a x, σ a = some x → kp a = none ∧ st a = none
  mg3 : ∃ o, B mainGlobals = some o
  lo : ∀ a x, σ a = some x → mainGlobals < a

variable {B kp st : Lk} {σ : Store} {h h' : Heap}

theorem Sat.fresh (x : Sat prog w B kp st σ h) {a : Addr} (e : h.get? a = none) : kp a = none ∧ st a = none ∧ σ a = none := by
  refine ⟨?_, ?_, ?_⟩
  · cases q : kp a with
    | none => rfl
    | some o => rw [x.kp_ok a o q] at e; cases e
  · cases q : st a with
    | none => rfl
    | some o => rw [x.st_ok a o q] at e; cases e
  · cases q : σ a with
    | none => rfl
    | some o => obtain ⟨ob, h1, _⟩ := x.mu_ok a o q; rw [h1] at e; cases e
theorem get_size (h : Heap) : h.get? h.objs.size = none := by
  cases q : h.get? h.objs.size with
  | none => rfl
  | some o => exact absurd (Heap.lt_size q) (Nat.lt_irrefl _)
theorem Sat.new (x : Sat prog w B kp st σ h) : kp h.objs.size = none ∧ st h.objs.size = none ∧ σ h.objs.size = none := x.fresh (get_size h)

theorem Sat.ext (x : Sat prog w B kp st σ h) (k : ∀ b o, (kp b ≠ none ∨ st b ≠ none ∨ σ b ≠ none) → h.get? b = some o → h'.get? b = some o) : Sat prog w B kp st σ h' where
  base := x.base
  kp_ok := fun a o e => k a o (.inl (by rw [e]; simp)) (x.kp_ok a o e)
  st_ok := fun a o e => k a o (.inr (.inl (by rw [e]; simp))) (x.st_ok a o e)
  mu_ok := fun a y e => let ⟨o, h1, h2⟩ := x.mu_ok a y e; ⟨o, k a o (.inr (.inr (by rw [e]; simp))) h1, h2⟩
  d1 := x.d1
  d2 := x.d2
  mg3 := x.mg3
  lo := x.lo
theorem Sat.big (x : Sat prog w B kp st σ h) : mainGlobals < h.objs.size := let ⟨o, e⟩ := x.mg3; Heap.lt_size (x.kp_ok _ o (x.base _ o e))
theorem Sat.keep (x : Sat prog w B kp st σ h) (k : ∀ b o, h.get? b = some o → h'.get? b = some o) : Sat prog w B kp st σ h' := x.ext fun b o _ => k b o
theorem Sat.push (x : Sat prog w B kp st σ h) (o : Obj) : Sat prog w B kp st σ (h.push o) := x.keep fun _ _ e => Heap.get?_push_of_some _ e
theorem Sat.other (x : Sat prog w B kp st σ h) {a : Addr} (h1 : kp a = none) (h2 : st a = none) (h3 : σ a = none) (k : Heap.ExtBut a h h') : Sat prog w B kp st σ h' :=
  x.ext fun b o t e => k b o (by rintro rfl; simp [h1, h2, h3] at t) e

theorem Sat.kput (x : Sat prog w B kp st σ h) {a : Addr} {o : Obj} (h1 : kp a = none) (h2 : st a = none) (h3 : σ a = none) (e : h.get? a = some o) : Sat prog w B (put kp a o) st σ h where
  base := x.base.trans (le_put h1)
  kp_ok := fun b o' q => by
    by_cases c : b = a
    · subst c; rw [put_self] at q; cases q; exact e
    · rw [put_ne _ _ c] at q; exact x.kp_ok b o' q
  st_ok := x.st_ok
  mu_ok := fun b y q => let ⟨o', p1, p2⟩ := x.mu_ok b y q; ⟨o', p1, p2.mono (le_put h1)⟩
  d1 := fun b o' q => by
    by_cases c : b = a
    · subst c; rw [h2] at q; cases q
    · rw [put_ne _ _ c]; exact x.d1 b o' q
  d2 := fun b y q => by
    by_cases c : b = a
    · subst c; rw [h3] at q; cases q
    · rw [put_ne _ _ c]; exact x.d2 b y q
  mg3 := x.mg3
  lo := x.lo
theorem Sat.kpush (x : Sat prog w B kp st σ h) {o : Obj} (hf : o.isFreed = false) : Sat prog w B (put kp h.objs.size o) st σ (h.push o) :=
  let n := x.new; (x.push o).kput n.1 n.2.1 n.2.2 (Heap.get?_push_size _ hf)

theorem Sat.mput (x : Sat prog w B kp st σ h) {a : Addr} {y : AO} {o : Obj} (h1 : kp a = none) (h2 : st a = none) (hlo : mainGlobals < a) (k : Heap.ExtBut a h h') (e : h'.get? a = some o) (q : ObjIs prog w kp o y) : Sat prog w B kp st (put σ a y) h' where
  base := x.base
  kp_ok := fun b o' p => k b o' (by rintro rfl; rw [h1] at p; cases p) (x.kp_ok b o' p)
  st_ok := fun b o' p => k b o' (by rintro rfl; rw [h2] at p; cases p) (x.st_ok b o' p)
  mu_ok := fun b z p => by
    by_cases c : b = a
    · subst c; rw [put_self] at p; cases p; exact ⟨o, e, q⟩
    · rw [put_ne _ _ c] at p
      obtain ⟨o', p1, p2⟩ := x.mu_ok b z p
      exact ⟨o', k b o' c p1, p2⟩
  d1 := x.d1
  d2 := fun b z p => by
    by_cases c : b = a
    · subst c; exact ⟨h1, h2⟩
    · rw [put_ne _ _ c] at p; exact x.d2 b z p
  mg3 := x.mg3
  lo := fun b z p => by
    by_cases c : b = a
    · subst c; exact hlo
    · rw [put_ne _ _ c] at p; exact x.lo b z p
theorem Sat.mpush (x : Sat prog w B kp st σ h) {y : AO} {o : Obj} (hf : o.isFreed = false) (q : ObjIs prog w kp o y) : Sat prog w B kp st (put σ h.objs.size y) (h.push o) :=
  let n := x.new; x.mput n.1 n.2.1 x.big (fun _ _ _ e => Heap.get?_push_of_some _ e) (Heap.get?_push_size _ hf) q
theorem Sat.upd (x : Sat prog w B kp st σ h) {a : Addr} {z y : AO} {o : Obj} (hz : σ a = some z) (k : Heap.SameBut a h h') (e : h'.get? a = some o) (q : ObjIs prog w kp o y) : Sat prog w B kp st (put σ a y) h' :=
  let n := x.d2 a z hz; x.mput n.1 n.2 (x.lo a z hz) k.extBut e q

theorem Sat.weak (x : Sat prog w B kp st σ h) {σ' : Store} (k : ∀ a y, σ' a = some y → σ a = some y) : Sat prog w B kp st σ' h where
  base := x.base
  kp_ok := x.kp_ok
  st_ok := x.st_ok
  mu_ok := fun a y e => x.mu_ok a y (k a y e)
  d1 := x.d1
  d2 := fun a y e => x.d2 a y (k a y e)
  mg3 := x.mg3
  lo := fun a y e => x.lo a y (k a y e)
theorem Sat.del (x : Sat prog w B kp st σ h) (a : Addr) : Sat prog w B kp st (del σ a) h := x.weak fun b y e => by
  unfold Mine.del at e; split at e
  · cases e
  · exact e
theorem Sat.weakSt (x : Sat prog w B kp st σ h) {st' : Lk} (k : Le st' st) : Sat prog w B kp st' σ h where
  base := x.base
  kp_ok := x.kp_ok
  st_ok := fun a o e => x.st_ok a o (k a o e)
  mu_ok := x.mu_ok
  d1 := fun a o e => x.d1 a o (k a o e)
  d2 := fun a y e => ⟨(x.d2 a y e).1, by
    cases q : st' a with
    | none => rfl
    | some o => have := k a o q; rw [(x.d2 a y e).2] at this; cases this⟩
  mg3 := x.mg3
  lo := x.lo

theorem Sat.prot (x : Sat prog w B kp st σ h) {a : Addr} {o : Obj} (e : h.get? a = some o) (h1 : kp a = none) (h3 : σ a = none) : Sat prog w B kp (put st a o) σ h where
  base := x.base
  kp_ok := x.kp_ok
  st_ok := fun b o' q => by
    by_cases c : b = a
    · subst c; rw [put_self] at q; cases q; exact e
    · rw [put_ne _ _ c] at q; exact x.st_ok b o' q
  mu_ok := x.mu_ok
  d1 := fun b o' q => by
    by_cases c : b = a
    · subst c; exact h1
    · rw [put_ne _ _ c] at q; exact x.d1 b o' q
  d2 := fun b y q => by
    by_cases c : b = a
    · subst c; rw [h3] at q; cases q
    · rw [put_ne _ _ c]; exact x.d2 b y q
  mg3 := x.mg3
  lo := x.lo
theorem Sat.freeze (x : Sat prog w B kp st σ h) {a : Addr} {xs : List Str} {l : List V} (e : σ a = some (.ns xs l)) :
    ∃ es n, Le kp (put kp a (dictOf es n)) ∧ RepF (put kp a (dictOf es n)) xs l es ∧ Sat prog w B (put kp a (dictOf es n)) st (Mine.del σ a) h := by
  obtain ⟨o, h1, es, n, rfl, r⟩ := x.mu_ok a _ e
  obtain ⟨k1, k2⟩ := x.d2 a _ e
  exact ⟨es, n, le_put k1, r.mono (le_put k1), (x.del a).kput k1 k2 (del_self _ _) h1⟩
end

noncomputable def Room (A : Around) (n : Nat) : Prop := A.handled = none ∧ A.depth + 3 * n + 2 ≤ recursionLimit ∧ A.units + 16 * n + 80 < cLine
theorem Room.le {A : Around} {n m : Nat} (r : Room A n) (h : m ≤ n) : Room A m := ⟨r.1, by have := r.2.1; omega, by have := r.2.2; omega⟩
theorem Room.in1 {A : Around} {n : Nat} (r : Room A (n + 1)) : Room A.in1 n := ⟨r.1, by have := r.2.1; show A.depth + 3 * n + 2 ≤ _; omega, by have := r.2.2; show A.units + 1 + 16 * n + 80 < _; omega⟩
theorem Room.deeper {A : Around} {n : Nat} (r : Room A (n + 1)) (env : Env) : Room (A.deeper env) n := ⟨r.1, by have := r.2.1; show A.depth + 1 + 3 * n + 2 ≤ _; omega, by have := r.2.2; show A.units + 3 + 16 * n + 80 < _; omega⟩

noncomputable abbrev S (s₀ : Shared) (h : Heap) (tk : Nat) : Shared := { s₀ with heap := h, toks := tk }

section
variable (prog : Program) (w : World) (s₀ : Shared) (B : Lk)
noncomputable def NoE : Value → Shared → Prop := fun _ _ => False

inductive PO {α β : Type} (st kp : Lk) (R : Lk → β → α → Prop) (K : β → Store → Prop) (v : α) (s' : Shared) : Prop
  | mk (x : β) (kp' : Lk) (σ' : Store) (h' : Heap) (tk' : Nat) (e : s' = S s₀ h' tk') (l : Le kp kp') (r : R kp' x v) (y : Sat prog w B kp' st σ' h') (k : K x σ') : PO st kp R K v s'

noncomputable abbrev Loc := List (Str × V)
noncomputable def fa (env : Env) : List Addr := env.locals :: env.cells.map (·.2)

structure Frm (env : Env) (loc : Loc) (kp st : Lk) (σ : Store) (h : Heap) : Prop where
  fun_ : env.scope.kind = .function
  glob : env.globals = mainGlobals
  blt : env.builtins = builtinsNs
  own : st env.locals = none
  fa_ : ∀ a ∈ fa env, (∃ o, h.get? a = some o) ∧ kp a = none ∧ σ a = none
  cown : env.func.isSome = true → ∀ a ∈ fa env, st a = none
  st_eq : ∀ a ∈ fa env, ∀ o, st a = some o → h.get? a = some o
  apart : env.cells.Pairwise fun x y => x.2 ≠ y.2
  ns : ∃ m, h.Ns env.locals m ∧ ∀ x V, loc.lookup x = some V → env.kindOf x = some .local → ∃ v, m x = some v ∧ Rep kp V v
  cells : ∀ x c, env.cells.lookup x = some c → ∃ u, h.IsCell c u ∧ ∀ V, loc.lookup x = some V → env.kindOf x ≠ some .local → ∃ v, u = some v ∧ Rep kp V v
  kinds : ∀ x V, loc.lookup x = some V → (x == ("__debug__" : Str)) = false ∧ (env.kindOf x = some .local ∨ ((env.kindOf x = some .cell ∨ env.kindOf x = some .free ∧ (x == ("__classdict__" : Str)) = false) ∧ (env.cells.lookup x).isSome = true))

inductive POf {α β : Type} (env : Env) (loc : Loc) (st kp : Lk) (R : Lk → β → α → Prop) (K : β → Store → Prop) (v : α) (s' : Shared) : Prop
  | mk (x : β) (kp' : Lk) (σ' : Store) (h' : Heap) (tk' : Nat) (e : s' = S s₀ h' tk') (l : Le kp kp') (r : R kp' x v) (y : Sat prog w B kp' st σ' h') (F : Frm env loc kp' st σ' h') (k : K x σ') : POf env loc st kp R K v s'

variable {prog w s₀ B}
variable {kp st : Lk} {σ : Store} {h : Heap} {tk : Nat} {env : Env} {loc : Loc}

theorem PO.mono {α β : Type} {R : Lk → β → α → Prop} {K K' : β → Store → Prop} {v : α} {s' : Shared} (x : PO prog w s₀ B st kp R K v s') (k : ∀ b σ, K b σ → K' b σ) : PO prog w s₀ B st kp R K' v s' :=
  let ⟨a, b, c, d, e, f, g, i, j, l⟩ := x; ⟨a, b, c, d, e, f, g, i, j, k _ _ l⟩
theorem PO.le {α β : Type} {R : Lk → β → α → Prop} {K : β → Store → Prop} {v : α} {s' : Shared} {kp' : Lk} (l : Le kp kp') (x : PO prog w s₀ B st kp' R K v s') : PO prog w s₀ B st kp R K v s' :=
  let ⟨a, b, c, d, e, f, g, i, j, k⟩ := x; ⟨a, b, c, d, e, f, l.trans g, i, j, k⟩
theorem POf.le {α β : Type} {R : Lk → β → α → Prop} {K : β → Store → Prop} {v : α} {s' : Shared} {kp' : Lk} (l : Le kp kp') (x : POf prog w s₀ B env loc st kp' R K v s') : POf prog w s₀ B env loc st kp R K v s' :=
  let ⟨a, b, c, d, e, f, g, i, j, m, k⟩ := x; ⟨a, b, c, d, e, f, l.trans g, i, j, m, k⟩

noncomputable def stF (env : Env) (h : Heap) (st : Lk) : Lk := open Classical in fun a => if a ∈ fa env then h.get? a else st a
theorem Frm.satF (F : Frm env loc kp st σ h) (x : Sat prog w B kp st σ h) : Sat prog w B kp (stF env h st) σ h where
  base := x.base
  kp_ok := x.kp_ok
  st_ok := fun a o e => by
    unfold stF at e
    split at e
    · exact e
    · exact x.st_ok a o e
  mu_ok := x.mu_ok
  d1 := fun a o e => by
    unfold stF at e
    split at e
    · rename_i m; exact (F.fa_ a m).2.1
    · exact x.d1 a o e
  d2 := fun a y e => ⟨(x.d2 a y e).1, by
    unfold stF
    split
    · rename_i m; rw [(F.fa_ a m).2.2] at e; cases e
    · exact (x.d2 a y e).2⟩
  mg3 := x.mg3
  lo := x.lo
theorem Frm.le_stF (F : Frm env loc kp st σ h) : Le st (stF env h st) := fun a o e => by
  unfold stF
  split
  · rename_i m; exact F.st_eq a m o e
  · exact e
theorem stF_mem {a : Addr} (m : a ∈ fa env) : stF env h st a = h.get? a := by unfold stF; rw [if_pos m]

theorem Frm.after {kp' : Lk} {σ' : Store} {h' : Heap} (F : Frm env loc kp st σ h) (l : Le kp kp') (y : Sat prog w B kp' (stF env h st) σ' h') : Frm env loc kp' st σ' h' := by
  have same : ∀ a ∈ fa env, ∀ o, h.get? a = some o → h'.get? a = some o := fun a m o e => y.st_ok a o (by rw [stF_mem m]; exact e)
  refine ⟨F.fun_, F.glob, F.blt, F.own, fun a m => ?_, F.cown, fun a m o e => same a m o (F.st_eq a m o e), F.apart, ?_, fun x c hc => ?_, F.kinds⟩
  · obtain ⟨⟨o, e⟩, _, _⟩ := F.fa_ a m
    refine ⟨⟨o, same a m o e⟩, y.d1 a o (by rw [stF_mem m]; exact e), ?_⟩
    cases q : σ' a with
    | none => rfl
    | some z => have := (y.d2 a z q).2; rw [stF_mem m, e] at this; cases this
  · obtain ⟨m, ⟨o, es, ep, ho, hd, hk, hf⟩, hm⟩ := F.ns
    exact ⟨m, ⟨o, es, ep, same _ (.head _) o ho, hd, hk, hf⟩, fun x V a b => let ⟨v, c, d⟩ := hm x V a b; ⟨v, c, d.mono l⟩⟩
  · obtain ⟨u, ⟨o, ho, hd⟩, hu⟩ := F.cells x c hc
    exact ⟨u, ⟨o, same c (.tail _ (List.mem_map.mpr ⟨(x, c), mem_of_lookup hc, rfl⟩)) o ho, hd⟩, fun V a b => let ⟨v, c, d⟩ := hu V a b; ⟨v, c, d.mono l⟩⟩

theorem lift {α β : Type} {A : Around} {t : Sem α} {R : Lk → β → α → Prop} {K : β → Store → Prop} (F : Frm env loc kp st σ h) (x : Sat prog w B kp st σ h)
    (op : ∀ st', Sat prog w B kp st' σ h → wpAny (model prog w) A t (PO prog w s₀ B st' kp R K) NoE (S s₀ h tk)) :
    wpAny (model prog w) A t (POf prog w s₀ B env loc st kp R K) NoE (S s₀ h tk) :=
  wpAny_mono (op _ (F.satF x)) (fun v s' ⟨a, kp', σ', h', tk', e, l, r, y, k⟩ => ⟨a, kp', σ', h', tk', e, l, r, y.weakSt F.le_stF, F.after l y, k⟩) fun _ _ e => e

end
end
section
structure Cx where
  prog : Program
  w : World
  s₀ : Shared
  h₀ : Heap
  K : Frag
  X : K.In h₀
  mg : Str → Option Value
  mb : Str → Option Value
  g : h₀.Ns mainGlobals mg
  b : h₀.Ns builtinsNs mb
  lim : h₀.NoLimit
  bt : ∀ x : Str, x ≠ "__name__" → mb x = bootBuiltins x

noncomputable abbrev Cx.B (c : Cx) : Lk := c.h₀.get?
noncomputable abbrev Cx.M (c : Cx) : Model := model c.prog c.w
noncomputable abbrev SatC (c : Cx) (kp st : Lk) (σ : Store) (h : Heap) : Prop := Sat c.prog c.w c.B kp st σ h
theorem Cx.keep (c : Cx) {kp st : Lk} {σ : Store} {h : Heap} (x : SatC c kp st σ h) : ∀ b o, c.h₀.get? b = some o → h.get? b = some o := fun b o e => x.kp_ok b o (x.base b o e)
noncomputable abbrev PC (c : Cx) {α β : Type} (st kp : Lk) (R : Lk → β → α → Prop) (K : β → Store → Prop) : α → Shared → Prop := PO c.prog c.w c.s₀ c.B st kp R K
noncomputable abbrev PF (c : Cx) {α β : Type} (env : Env) (loc : Loc) (st kp : Lk) (R : Lk → β → α → Prop) (K : β → Store → Prop) : α → Shared → Prop := POf c.prog c.w c.s₀ c.B env loc st kp R K
noncomputable def Same {α : Type} : Lk → α → α → Prop := fun _ a b => a = b

noncomputable def O1 (c : Cx) {α β : Type} (n : Nat) (f : Value → Sem α) (R : Lk → β → α → Prop) (x : V) (σ : Store) (K : β → Store → Prop) : Prop :=
  ∀ A kp st h tk v, Room A n → SatC c kp st σ h → Rep kp x v → wpAny c.M A (f v) (PC c st kp R K) NoE (S c.s₀ h tk)
noncomputable def O2 (c : Cx) {α β : Type} (n : Nat) (f : Value → Value → Sem α) (R : Lk → β → α → Prop) (x y : V) (σ : Store) (K : β → Store → Prop) : Prop :=
  ∀ A kp st h tk u v, Room A n → SatC c kp st σ h → Rep kp x u → Rep kp y v → wpAny c.M A (f u v) (PC c st kp R K) NoE (S c.s₀ h tk)
noncomputable def O3 (c : Cx) {α β : Type} (n : Nat) (f : Value → Value → Value → Sem α) (R : Lk → β → α → Prop) (x y z : V) (σ : Store) (K : β → Store → Prop) : Prop :=
  ∀ A kp st h tk u v t, Room A n → SatC c kp st σ h → Rep kp x u → Rep kp y v → Rep kp z t → wpAny c.M A (f u v t) (PC c st kp R K) NoE (S c.s₀ h tk)

noncomputable def WX (c : Cx) {α β : Type} (n : Nat) (env : Env) (t : Sem α) (R : Lk → β → α → Prop) (loc : Loc) (σ : Store) (K : β → Store → Prop) : Prop :=
  ∀ A kp st h tk, Room A n → SatC c kp st σ h → Frm env loc kp st σ h → wpAny c.M A t (PF c env loc st kp R K) NoE (S c.s₀ h tk)
noncomputable def WE (c : Cx) (n : Nat) (env : Env) (e : Expr) (loc : Loc) (σ : Store) (K : V → Store → Prop) : Prop := WX c n env (eval e env) Rep loc σ K
noncomputable def WT (c : Cx) (n : Nat) (env : Env) (e : Expr) (loc : Loc) (σ : Store) (K : Bool → Store → Prop) : Prop := WX c n env (isTrue e env (eval e env)) Same loc σ K
noncomputable def WL (c : Cx) (n : Nat) (env : Env) (pos : Pos) (es : List Expr) (loc : Loc) (σ : Store) (K : List V → Store → Prop) : Prop := WX c n env (spliced (backTo pos (starEach es env))) Reps loc σ K
noncomputable def WK (c : Cx) (n : Nat) (env : Env) (pos : Pos) (ks : List Keyword) (loc : Loc) (σ : Store) (K : List V → Store → Prop) : Prop := WX c n env (evalAll ((backToKw pos (keywordEach ks env)).map (·.2))) Reps loc σ K

section
variable {c : Cx} {n : Nat} {env : Env} {loc : Loc} {σ : Store}

theorem WX.mono {α β : Type} {t : Sem α} {R : Lk → β → α → Prop} {K K' : β → Store → Prop} (x : WX c n env t R loc σ K) (k : ∀ b σ, K b σ → K' b σ) : WX c n env t R loc σ K' :=
  fun A kp st h tk r s F => wpAny_mono (x A kp st h tk r s F) (fun v s' ⟨a, b, c, d, e, f, g, i, j, m, l⟩ => ⟨a, b, c, d, e, f, g, i, j, m, k _ _ l⟩) fun _ _ e => e
theorem WE.mono {e : Expr} {K K' : V → Store → Prop} (x : WE c n env e loc σ K) (k : ∀ b σ, K b σ → K' b σ) : WE c n env e loc σ K' := WX.mono x k
theorem O2.mono {α β : Type} {f : Value → Value → Sem α} {R : Lk → β → α → Prop} {x y : V} {K K' : β → Store → Prop} (o : O2 c n f R x y σ K) (k : ∀ b σ, K b σ → K' b σ) : O2 c n f R x y σ K' :=
  fun A kp st h tk v u r s p q => wpAny_mono (o A kp st h tk v u r s p q) (fun v s' q => q.mono k) fun _ _ e => e

theorem pc_end {α β : Type} {st kp : Lk} {R : Lk → β → α → Prop} {K : β → Store → Prop} {v : α} {h : Heap} {tk : Nat} {b : β} (s : SatC c kp st σ h) (r : R kp b v) (k : K b σ) : PC c st kp R K v (S c.s₀ h tk) :=
  ⟨b, kp, σ, h, tk, rfl, Le.refl _, r, s, k⟩
theorem pf_end {α β : Type} {st kp : Lk} {R : Lk → β → α → Prop} {K : β → Store → Prop} {v : α} {h : Heap} {tk : Nat} {b : β} (s : SatC c kp st σ h) (F : Frm env loc kp st σ h) (r : R kp b v) (k : K b σ) : PF c env loc st kp R K v (S c.s₀ h tk) :=
  ⟨b, kp, σ, h, tk, rfl, Le.refl _, r, s, F, k⟩

theorem WX.bind {α β α' β' : Type} {t : Sem α} {f : α → Sem α'} {R : Lk → β → α → Prop} {R' : Lk → β' → α' → Prop} {K' : β' → Store → Prop}
    (x : WX c n env t R loc σ fun b σ₁ => ∀ A kp st h tk v, Room A n → SatC c kp st σ₁ h → Frm env loc kp st σ₁ h → R kp b v → wpAny c.M A (f v) (PF c env loc st kp R' K') NoE (S c.s₀ h tk)) :
    WX c n env (t >>= f) R' loc σ K' := fun A kp st h tk r s F =>
  wpAny_bind (wpAny_mono (x A kp st h tk r s F) (fun v s' ⟨a, kp', σ', h', tk', e, l, q, s', F', k⟩ => by
    subst e
    exact wpAny_mono (k A kp' st h' tk' v r s' F' q) (fun _ _ p => p.le l) fun _ _ e => e) fun _ _ e => e)

theorem O1.inF {α β : Type} {f : Value → Sem α} {R : Lk → β → α → Prop} {x : V} {K : β → Store → Prop} (o : O1 c n f R x σ K) {A : Around} {kp st : Lk} {h : Heap} {tk : Nat} {v : Value} (r : Room A n) (s : SatC c kp st σ h) (F : Frm env loc kp st σ h) (p : Rep kp x v) :
    wpAny c.M A (f v) (PF c env loc st kp R K) NoE (S c.s₀ h tk) := lift F s fun st' s' => o A kp st' h tk v r s' p
theorem O2.inF {α β : Type} {f : Value → Value → Sem α} {R : Lk → β → α → Prop} {x y : V} {K : β → Store → Prop} (o : O2 c n f R x y σ K) {A : Around} {kp st : Lk} {h : Heap} {tk : Nat} {u v : Value} (r : Room A n) (s : SatC c kp st σ h) (F : Frm env loc kp st σ h) (p : Rep kp x u) (q : Rep kp y v) :
    wpAny c.M A (f u v) (PF c env loc st kp R K) NoE (S c.s₀ h tk) := lift F s fun st' s' => o A kp st' h tk u v r s' p q
theorem O3.inF {α β : Type} {f : Value → Value → Value → Sem α} {R : Lk → β → α → Prop} {x y z : V} {K : β → Store → Prop} (o : O3 c n f R x y z σ K) {A : Around} {kp st : Lk} {h : Heap} {tk : Nat} {u v t : Value} (r : Room A n) (s : SatC c kp st σ h) (F : Frm env loc kp st σ h) (p : Rep kp x u) (q : Rep kp y v) (m : Rep kp z t) :
    wpAny c.M A (f u v t) (PF c env loc st kp R K) NoE (S c.s₀ h tk) := lift F s fun st' s' => o A kp st' h tk u v t r s' p q m

theorem WE_name {x : Str} {pos : Pos} {u : V} {K : V → Store → Prop} (hv : loc.lookup x = some u) (k : K u σ) : WE c n env (.Name x pos) loc σ K := fun A kp st h tk r s F => by
  obtain ⟨hd, hk⟩ := F.kinds x u hv
  refine wpAny_Name ?_ hd
  rcases hk with hl | ⟨hl, hc⟩
  · obtain ⟨m, hn, hm⟩ := F.ns
    obtain ⟨v, e, rp⟩ := hm x u hv hl
    exact wpAny_loadName_local F.fun_ hl hn e (pf_end s F rp k)
  · obtain ⟨cc, hc⟩ := Option.isSome_iff_exists.mp hc
    obtain ⟨w, hw, hu⟩ := F.cells x cc hc
    rcases hl with hl | ⟨hl, hx⟩
    · obtain ⟨v, e, rp⟩ := hu u hv (by rw [hl]; decide)
      subst e
      exact wpAny_loadName_cell F.fun_ hl hc hw (pf_end s F rp k)
    · obtain ⟨v, e, rp⟩ := hu u hv (by rw [hl]; decide)
      subst e
      exact wpAny_loadName_free F.fun_ hl hc hw (pf_end s F rp k) hx
theorem WE_glob {x : Str} {pos : Pos} {u : V} {v : Value} {K : V → Store → Prop} (hx : env.kindOf x = some .globalImplicit) (hn : nsIn c.K mainGlobals x = some (some v)) (hr : Rep c.B u v) (k : K u σ)
    (hd : (x == ("__debug__" : Str)) = false := by decide) : WE c n env (.Name x pos) loc σ K := fun A kp st h tk r s F =>
  Name_function_global F.fun_ hx (loadGlobal_global (env := env) (by rw [F.glob]; exact c.g.keeps (c.keep s)) (mg_of c.X c.g hn) (pf_end s F (hr.mono s.base) k)) hd
theorem WE_bt {x : Str} {pos : Pos} {v : Value} {K : V → Store → Prop} (hx : env.kindOf x = some .globalImplicit) (hn : nsIn c.K mainGlobals x = some none) (hv : bootBuiltins x = some v) (k : K (.val v) σ)
    (hnn : x ≠ "__name__" := by decide) (hd : (x == ("__debug__" : Str)) = false := by decide) : WE c n env (.Name x pos) loc σ K := fun A kp st h tk r s F =>
  Name_function_global F.fun_ hx (loadGlobal_builtin (env := env) (by rw [F.glob]; exact c.g.keeps (c.keep s)) (mg_none_of c.X c.g hn) (by rw [F.blt]; exact c.b.keeps (c.keep s)) ((c.bt x hnn).trans hv) (pf_end s F (.val v) k)) hd

theorem WE_none {k : Nat} {pos : Pos} {K : V → Store → Prop} (q : K .none σ) : WE c n env (.Constant .none k pos) loc σ K := fun A kp st h tk r s F => wpAny_pure (pf_end s F .none q)
theorem WE_bool {b : Bool} {k : Nat} {pos : Pos} {K : V → Store → Prop} (q : K (.bool b) σ) : WE c n env (.Constant (.bool b) k pos) loc σ K := fun A kp st h tk r s F => wpAny_pure (pf_end s F (.bool b) q)
theorem WE_int {i : Int} {k : Nat} {pos : Pos} {K : V → Store → Prop} (q : K (.int i) σ) : WE c n env (.Constant (.int i) k pos) loc σ K := fun A kp st h tk r s F => wpAny_Constant_int (pf_end s F (.int i _) q)
theorem WE_str {x : String} {k : Nat} {pos : Pos} {K : V → Store → Prop} (q : K (.str (Str.ofString x)) σ) : WE c n env (.Constant (.str (Str.ofString x)) k pos) loc σ K := fun A kp st h tk r s F => Calls.Constant_str (pf_end s F (.str _ _ (strOk_of x)) q)

theorem WE_bin {l : Expr} {op : Operator} {e : Expr} {pos : Pos} {K : V → Store → Prop} (x : WE c n env l loc σ fun a σ₁ => WE c n env e loc σ₁ fun b σ₂ => O2 c n (binaryOp op) Rep a b σ₂ K) : WE c n env (.BinOp l op e pos) loc σ K := fun A kp st h tk r s F => by
  refine wpAny_BinOp (wpAny_mono (x A kp st h tk r s F) (fun u s' ⟨a, kp1, σ1, h1, tk1, e1, l1, q1, s1, F1, y⟩ => ?_) fun _ _ e => e)
  subst e1
  refine wpAny_mono (y A kp1 st h1 tk1 r s1 F1) (fun v s' ⟨b, kp2, σ2, h2, tk2, e2, l2, q2, s2, F2, z⟩ => ?_) fun _ _ e => e
  subst e2
  exact wpAny_mono (z.inF r s2 F2 (q1.mono l2) q2) (fun _ _ p => p.le (l1.trans l2)) fun _ _ e => e

theorem WE_cmp {l : Expr} {op : CmpOp} {e : Expr} {pos : Pos} {K : V → Store → Prop} (x : WE c n env l loc σ fun a σ₁ => WE c n env e loc σ₁ fun b σ₂ => O2 c n (compareOp op) Rep a b σ₂ K)
    (hm : behindInMarks op e = false := by with_unfolding_all rfl) : WE c n env (.Compare l [op] [e] pos) loc σ K := fun A kp st h tk r s F => by
  refine wpAny_Compare1 (wpAny_mono (x A kp st h tk r s F) (fun u s' ⟨a, kp1, σ1, h1, tk1, e1, l1, q1, s1, F1, y⟩ => ?_) fun _ _ e => e) hm
  subst e1
  refine wpAny_mono (y A kp1 st h1 tk1 r s1 F1) (fun v s' ⟨b, kp2, σ2, h2, tk2, e2, l2, q2, s2, F2, z⟩ => ?_) fun _ _ e => e
  subst e2
  exact wpAny_mono (z.inF r s2 F2 (q1.mono l2) q2) (fun _ _ p => p.le (l1.trans l2)) fun _ _ e => e

theorem WE_not {e : Expr} {pos : Pos} {K : V → Store → Prop} (x : WE c n env e loc σ fun a σ₁ => O1 c n (unaryOp .Not) Rep a σ₁ K) : WE c n env (.UnaryOp .Not e pos) loc σ K := by
  show WX c n env (eval e env >>= fun v => standAt pos >>= fun _ => holding [v] (unaryOp .Not v)) Rep loc σ K
  exact WX.bind (WX.mono x fun b σ o A kp st h tk v r s F q => wpAny_bind (wpAny_standAt (wpAny_holding (o.inF r s F q))))

theorem WE_ife {t b o : Expr} {pos : Pos} {K : V → Store → Prop} (x : WT c n env t loc σ fun v σ₁ => (v = true → WE c n env b loc σ₁ K) ∧ (v = false → WE c n env o loc σ₁ K)) : WE c n env (.IfExp t b o pos) loc σ K := by
  show WX c n env (isTrue t env (eval t env) >>= fun v => if v then eval b env else eval o env) Rep loc σ K
  exact WX.bind (WX.mono x fun v σ y A kp st h tk u r s F q => by
    cases q
    cases v
    · exact y.2 rfl A kp st h tk r s F
    · exact y.1 rfl A kp st h tk r s F)

theorem WT_cmp {l : Expr} {op : CmpOp} {e : Expr} {pos : Pos} {K : Bool → Store → Prop} (x : WE c n env l loc σ fun a σ₁ => WE c n env e loc σ₁ fun b σ₂ => O2 c n (compareOp op) Rep a b σ₂ fun v σ₃ => O1 c n truthy Same v σ₃ K)
    (hm : behindInMarks op e = false := by with_unfolding_all rfl) : WT c n env (.Compare l [op] [e] pos) loc σ K := fun A kp st h tk r s F => by
  refine wpAny_isTrue_Compare1 (wpAny_mono (x A kp st h tk r s F) (fun u s' ⟨a, kp1, σ1, h1, tk1, e1, l1, q1, s1, F1, y⟩ => ?_) fun _ _ e => e) hm
  subst e1
  refine wpAny_mono (y A kp1 st h1 tk1 r s1 F1) (fun v s' ⟨b, kp2, σ2, h2, tk2, e2, l2, q2, s2, F2, z⟩ => ?_) fun _ _ e => e
  subst e2
  refine wpAny_mono (z.inF r s2 F2 (q1.mono l2) q2) (fun v s' ⟨b, kp3, σ3, h3, tk3, e3, l3, q3, s3, F3, z3⟩ => ?_) fun _ _ e => e
  subst e3
  exact wpAny_mono (z3.inF r s3 F3 q3) (fun _ _ p => p.le (l1.trans (l2.trans l3))) fun _ _ e => e
theorem WT_not {e : Expr} {pos : Pos} {K : Bool → Store → Prop} (x : WT c n env e loc σ fun v σ₁ => K (!v) σ₁) : WT c n env (.UnaryOp .Not e pos) loc σ K := by
  show WX c n env (isTrue e env (eval e env) >>= fun v => pure (!v)) Same loc σ K
  exact WX.bind (WX.mono x fun v σ y A kp st h tk u r s F q => by cases q; exact wpAny_pure (pf_end s F rfl y))
theorem WT_and {a b : Expr} {pos : Pos} {K : Bool → Store → Prop} (x : WT c n env a loc σ fun v σ₁ => (v = true → WT c n env b loc σ₁ K) ∧ (v = false → K false σ₁)) : WT c n env (.BoolOp .And [a, b] pos) loc σ K := by
  have one : ∀ {σ' : Store}, WT c n env b loc σ' K → WX c n env (allTrue .And [b] env) Same loc σ' K := by
    intro σ' y
    have : allTrue .And [b] env = (isTrue b env (eval b env) >>= fun v => (match BoolOp.And, v with | .And, false => pure false | .Or, true => pure true | _, _ => pure true : Sem Bool)) := rfl
    rw [this]
    exact WX.bind (WX.mono y fun v σ y A kp st h tk u r s F q => by cases q; cases v <;> exact wpAny_pure (pf_end s F rfl y))
  have : isTrue (.BoolOp .And [a, b] pos) env (eval (.BoolOp .And [a, b] pos) env) = (isTrue a env (eval a env) >>= fun v => (match BoolOp.And, v with | .And, false => pure false | .Or, true => pure true | _, _ => allTrue .And [b] env : Sem Bool)) := rfl
  unfold WT
  rw [this]
  exact WX.bind (WX.mono x fun v σ y A kp st h tk u r s F q => by
    cases q
    cases v
    · exact wpAny_pure (pf_end s F rfl (y.2 rfl))
    · exact one (y.1 rfl) A kp st h tk r s F)
theorem WT_or {a b : Expr} {pos : Pos} {K : Bool → Store → Prop} (x : WT c n env a loc σ fun v σ₁ => (v = false → WT c n env b loc σ₁ K) ∧ (v = true → K true σ₁)) : WT c n env (.BoolOp .Or [a, b] pos) loc σ K := by
  have one : ∀ {σ' : Store}, WT c n env b loc σ' K → WX c n env (allTrue .Or [b] env) Same loc σ' K := by
    intro σ' y
    have : allTrue .Or [b] env = (isTrue b env (eval b env) >>= fun v => (match BoolOp.Or, v with | .And, false => pure false | .Or, true => pure true | _, _ => pure false : Sem Bool)) := rfl
    rw [this]
    exact WX.bind (WX.mono y fun v σ y A kp st h tk u r s F q => by cases q; cases v <;> exact wpAny_pure (pf_end s F rfl y))
  have : isTrue (.BoolOp .Or [a, b] pos) env (eval (.BoolOp .Or [a, b] pos) env) = (isTrue a env (eval a env) >>= fun v => (match BoolOp.Or, v with | .And, false => pure false | .Or, true => pure true | _, _ => allTrue .Or [b] env : Sem Bool)) := rfl
  unfold WT
  rw [this]
  exact WX.bind (WX.mono x fun v σ y A kp st h tk u r s F q => by
    cases q
    cases v
    · exact one (y.1 rfl) A kp st h tk r s F
    · exact wpAny_pure (pf_end s F rfl (y.2 rfl)))
theorem WT_val {e : Expr} {K : Bool → Store → Prop} (x : WE c n env e loc σ fun v σ₁ => O1 c n truthy Same v σ₁ K) (hp : isTrue e env (eval e env) = (do let v ← eval e env; standAt e.pos; holding [v] (truthy v)) := by rfl) : WT c n env e loc σ K := by
  unfold WT
  rw [hp]
  exact WX.bind (WX.mono x fun b σ o A kp st h tk v r s F q => wpAny_bind (wpAny_standAt (wpAny_holding (o.inF r s F q))))

theorem WE_and {a b : Expr} {pos : Pos} {K : V → Store → Prop} (x : WE c n env a loc σ fun v σ₁ => O1 c n truthy Same v σ₁ fun t σ₂ => (t = true → WE c n env b loc σ₂ K) ∧ (t = false → K v σ₂)) : WE c n env (.BoolOp .And [a, b] pos) loc σ K := by
  have : eval (.BoolOp .And [a, b] pos) env = (eval a env >>= fun v => standAt pos >>= fun _ => holding [v] (truthy v) >>= fun t => (match BoolOp.And, t with | .And, false | .Or, true => pure v | _, _ => eval b env : Sem Value)) := rfl
  unfold WE
  rw [this]
  refine WX.bind (WX.mono x fun b σ o A kp st h tk v r s F q => wpAny_bind (wpAny_standAt (wpAny_bind (wpAny_holding (wpAny_mono (o.inF r s F q) (fun t s' ⟨t', kp1, σ1, h1, tk1, e1, l1, q1, s1, F1, y⟩ => ?_) fun _ _ e => e)))))
  cases q1
  subst e1
  cases t
  · exact wpAny_pure ⟨_, _, _, _, _, rfl, l1, q.mono l1, s1, F1, y.2 rfl⟩
  · exact wpAny_mono (y.1 rfl A kp1 st h1 tk1 r s1 F1) (fun _ _ p => p.le l1) fun _ _ e => e

theorem WL_nil {pos : Pos} {K : List V → Store → Prop} (k : K [] σ) : WL c n env pos [] loc σ K := fun A kp st h tk r s F => Calls.spliced_nil (pf_end s F .nil k)
theorem WL_cons {pos : Pos} {e : Expr} {rest : List Expr} {K : List V → Store → Prop} (x : WE c n env e loc σ fun v σ₁ => WL c n env pos rest loc σ₁ fun vs σ₂ => K (v :: vs) σ₂) (he : starEach (e :: rest) env = (false, eval e env) :: starEach rest env := by rfl) : WL c n env pos (e :: rest) loc σ K := fun A kp st h tk r s F => by
  rw [he]
  refine Calls.spliced_cons (wpAny_mono (x A kp st h tk r s F) (fun u s' ⟨a, kp1, σ1, h1, tk1, e1, l1, q1, s1, F1, y⟩ => ?_) fun _ _ e => e)
  subst e1
  refine wpAny_mono (y A kp1 st h1 tk1 r s1 F1) (fun v s' ⟨b, kp2, σ2, h2, tk2, e2, l2, q2, s2, F2, z⟩ => ?_) fun _ _ e => e
  exact ⟨_, _, _, _, _, e2, l1.trans l2, .cons (q1.mono l2) q2, s2, F2, z⟩
theorem WK_nil {pos : Pos} {K : List V → Store → Prop} (k : K [] σ) : WK c n env pos [] loc σ K := fun A kp st h tk r s F => wpAny_evalAll_nil (pf_end s F .nil k)
theorem WK_cons {pos : Pos} {nm : Option Str} {e : Expr} {p : Pos} {rest : List Keyword} {K : List V → Store → Prop} (x : WE c n env e loc σ fun v σ₁ => WK c n env pos rest loc σ₁ fun vs σ₂ => K (v :: vs) σ₂) : WK c n env pos (⟨nm, e, p⟩ :: rest) loc σ K := fun A kp st h tk r s F => by
  refine wpAny_evalAll_cons ?_
  refine wpAny_bind (wpAny_mono (x A kp st h tk r s F) (fun u s' ⟨a, kp1, σ1, h1, tk1, e1, l1, q1, s1, F1, y⟩ => ?_) fun _ _ e => e)
  subst e1
  refine wpAny_bind (wpAny_standAt (wpAny_pure ?_))
  refine wpAny_mono (y A kp1 st h1 tk1 r s1 F1) (fun v s' ⟨b, kp2, σ2, h2, tk2, e2, l2, q2, s2, F2, z⟩ => ?_) fun _ _ e => e
  exact ⟨_, _, _, _, _, e2, l1.trans l2, .cons (q1.mono l2) q2, s2, F2, z⟩

theorem newTuple_o {A : Around} {kp st : Lk} {h : Heap} {tk : Nat} {l : List V} {vs : List Value} {K : V → Store → Prop} (s : SatC c kp st σ h) (q : Reps kp l vs) (hl : l.length ≤ 1000) (k : K (.tup l) σ) : wpAny c.M A (newTuple vs) (PC c st kp Rep K) NoE (S c.s₀ h tk) := by
  refine wpAny_newObj_type ?_ (by show vs.toArray.size ≤ sizeLine; rw [List.size_toArray, q.length, sizeLine_eq]; omega)
  exact ⟨.tup l, _, σ, _, tk, rfl, le_put s.new.1, .tup (put_self _ _ _) rfl rfl (q.mono (le_put s.new.1)), s.kpush rfl, k⟩
theorem newList_o {A : Around} {kp st : Lk} {h : Heap} {tk : Nat} {l : List V} {vs : List Value} {K : V → Store → Prop} (s : SatC c kp st σ h) (q : Reps kp l vs) (hl : l.length ≤ 1000) (k : ∀ a, σ a = none → K (.ref a) (put σ a (.list l))) : wpAny c.M A (newList vs) (PC c st kp Rep K) NoE (S c.s₀ h tk) := by
  refine wpAny_newObj_type ?_ (by show vs.toArray.size ≤ sizeLine; rw [List.size_toArray, q.length, sizeLine_eq]; omega)
  exact ⟨.ref _, kp, _, _, tk, rfl, Le.refl _, .ref _, s.mpush (y := .list l) rfl ⟨vs, 0, rfl, q⟩, k _ s.new.2.2⟩
theorem WE_tup {es : List Expr} {k : Nat} {pos : Pos} {K : V → Store → Prop} (x : WL c n env pos es loc σ fun l σ₁ => l.length ≤ 1000 ∧ K (.tup l) σ₁) : WE c n env (.Tuple es k pos) loc σ K := by
  show WX c n env (standAt pos >>= fun _ => spliced (backTo pos (starEach es env)) >>= fun vs => newTuple vs) Rep loc σ K
  have := WX.bind (f := newTuple) (R' := Rep) (K' := K) (WX.mono x fun b σ o A kp st h tk v r s F q => lift F s fun st' s' => newTuple_o s' q o.1 o.2)
  exact fun A kp st h tk r s F => wpAny_bind (wpAny_standAt (this A kp st h tk r s F))
theorem WE_list {es : List Expr} {pos : Pos} {K : V → Store → Prop} (x : WL c n env pos es loc σ fun l σ₁ => l.length ≤ 1000 ∧ ∀ a, σ₁ a = none → K (.ref a) (put σ₁ a (.list l))) : WE c n env (.List es pos) loc σ K := by
  show WX c n env (standAt pos >>= fun _ => spliced (backTo pos (starEach es env)) >>= fun vs => newList vs) Rep loc σ K
  have := WX.bind (f := newList) (R' := Rep) (K' := K) (WX.mono x fun b σ o A kp st h tk v r s F q => lift F s fun st' s' => newList_o s' q o.1 o.2)
  exact fun A kp st h tk r s F => wpAny_bind (wpAny_standAt (this A kp st h tk r s F))
theorem newDict_o {A : Around} {kp st : Lk} {h : Heap} {tk : Nat} {y : AO} {K : V → Store → Prop} (s : SatC c kp st σ h) (hy : y = .dict [] ∨ y = .sdict []) (k : ∀ a, σ a = none → K (.ref a) (put σ a y)) : wpAny c.M A newDict (PC c st kp Rep K) NoE (S c.s₀ h tk) := by
  refine wpAny_newObj_type ?_ (by show (0 : Nat) ≤ _; omega)
  refine ⟨.ref _, kp, _, _, tk, rfl, Le.refl _, .ref _, s.mpush rfl ?_, k _ s.new.2.2⟩
  rcases hy with rfl | rfl
  · exact ⟨[], 0, rfl, .nil, List.nodup_nil⟩
  · exact ⟨[], [], 0, rfl, (fun _ h => by simp at h), .nil, List.nodup_nil, .nil⟩
theorem WE_dict {pos : Pos} {K : V → Store → Prop} (y : AO) (hy : y = .dict [] ∨ y = .sdict []) (k : ∀ a, σ a = none → K (.ref a) (put σ a y)) : WE c n env (.Dict [] [] pos) loc σ K := fun A kp st h tk r s F => by
  show wpAny _ _ (standAt pos >>= fun _ => dictDisplay []) _ _ _
  exact wpAny_bind (wpAny_standAt (lift F s fun st' s' => newDict_o s' hy k))

theorem WE_sub {e i : Expr} {pos : Pos} {K : V → Store → Prop} (x : WE c n env e loc σ fun a σ₁ => WE c n env i loc σ₁ fun b σ₂ => O2 c n (subscriptTail e i) Rep a b σ₂ K) : WE c n env (.Subscript e i pos) loc σ K := fun A kp st h tk r s F => by
  refine Subscript_ (wpAny_mono (x A kp st h tk r s F) (fun u s' ⟨a, kp1, σ1, h1, tk1, e1, l1, q1, s1, F1, y⟩ => ?_) fun _ _ e => e)
  subst e1
  refine wpAny_mono (y A kp1 st h1 tk1 r s1 F1) (fun v s' ⟨b, kp2, σ2, h2, tk2, e2, l2, q2, s2, F2, z⟩ => ?_) fun _ _ e => e
  subst e2
  exact wpAny_mono (z.inF r s2 F2 (q1.mono l2) q2) (fun _ _ p => p.le (l1.trans l2)) fun _ _ e => e
theorem WE_attr {e : Expr} {a : Str} {pos : Pos} {K : V → Store → Prop} (x : WE c n env e loc σ fun o σ₁ => O1 c n (fun v => getAttr v a true) Rep o σ₁ K) (hb : attributeBase e a env (eval e env) = eval e env := by rfl) : WE c n env (.Attribute e a pos) loc σ K := fun A kp st h tk r s F => by
  rw [show eval (.Attribute e a pos) env = (attributeBase e a env (eval e env) >>= fun o => standAt pos.atName >>= fun _ => holding [o] (getAttr o a true) >>= fun v => letTemporaryGo e o v >>= fun _ => pure v) from rfl, hb]
  refine wpAny_bind (wpAny_mono (x A kp st h tk r s F) (fun u s' ⟨b, kp1, σ1, h1, tk1, e1, l1, q1, s1, F1, y⟩ => ?_) fun _ _ e => e)
  subst e1
  refine wpAny_bind (wpAny_standAt (wpAny_bind (wpAny_holding (wpAny_mono (y.inF r s1 F1 q1) (fun v s' p => ?_) fun _ _ e => e))))
  exact wpAny_bind (wpAny_letTemporaryGo (wpAny_pure (p.le l1)))

end
end
section
inductive Fl where
  | next
  | ret (v : V)
inductive RFl (g : Lk) : Fl → Flow → Prop
  | next : RFl g .next .next
  | ret {v : V} {u : Value} : Rep g v u → RFl g (.ret v) (.ret u)

inductive PS (c : Cx) (env : Env) (st kp : Lk) (K : Fl → Loc → Store → Prop) (f : Flow) (s' : Shared) : Prop
  | mk (fl : Fl) (loc' : Loc) (kp' : Lk) (σ' : Store) (h' : Heap) (tk' : Nat) (e : s' = S c.s₀ h' tk') (l : Le kp kp') (r : RFl kp' fl f) (y : SatC c kp' st σ' h') (F : Frm env loc' kp' st σ' h') (k : K fl loc' σ') : PS c env st kp K f s'
theorem PS.le {c : Cx} {env : Env} {st kp kp' : Lk} {K : Fl → Loc → Store → Prop} {f : Flow} {s' : Shared} (l : Le kp kp') (x : PS c env st kp' K f s') : PS c env st kp K f s' :=
  let ⟨a, b, c, d, e, f, g, i, j, k, m, n⟩ := x; ⟨a, b, c, d, e, f, g, l.trans i, j, k, m, n⟩
noncomputable def WY (c : Cx) (n : Nat) (env : Env) (t : Sem Flow) (loc : Loc) (σ : Store) (K : Fl → Loc → Store → Prop) : Prop :=
  ∀ A kp st h tk, Room A n → SatC c kp st σ h → Frm env loc kp st σ h → wpAny c.M A t (PS c env st kp K) NoE (S c.s₀ h tk)
noncomputable def WS (c : Cx) (n : Nat) (env : Env) (s : Stmt) (loc : Loc) (σ : Store) (K : Fl → Loc → Store → Prop) : Prop := WY c n env (exec s env) loc σ K
noncomputable def WB (c : Cx) (n : Nat) (env : Env) (b : List Stmt) (loc : Loc) (σ : Store) (K : Fl → Loc → Store → Prop) : Prop := WY c n env (execs b env) loc σ K

section
variable {c : Cx} {n : Nat} {env : Env} {loc : Loc} {σ : Store}

theorem WY.mono {t : Sem Flow} {K K' : Fl → Loc → Store → Prop} (x : WY c n env t loc σ K) (k : ∀ a b σ, K a b σ → K' a b σ) : WY c n env t loc σ K' :=
  fun A kp st h tk r s F => wpAny_mono (x A kp st h tk r s F) (fun v s' ⟨a, b, c, d, e, f, g, i, j, m, l, y⟩ => ⟨a, b, c, d, e, f, g, i, j, m, l, k _ _ _ y⟩) fun _ _ e => e
theorem WB_nil {K : Fl → Loc → Store → Prop} (k : K .next loc σ) : WB c n env [] loc σ K := fun A kp st h tk r s F => wpAny_execs_nil ⟨.next, loc, kp, σ, h, tk, rfl, Le.refl _, .next, s, F, k⟩
theorem WB_cons {st : Stmt} {rest : List Stmt} {K : Fl → Loc → Store → Prop} (x : WS c n env st loc σ fun fl loc' σ' => (fl = .next → WB c n env rest loc' σ' K) ∧ (∀ v, fl = .ret v → K (.ret v) loc' σ')) : WB c n env (st :: rest) loc σ K := fun A kp st h tk r s F => by
  refine wpAny_execs_cons (wpAny_mono (x A kp st h tk r s F) (fun f s' ⟨fl, loc', kp', σ', h', tk', e, l, q, s', F', k⟩ => ?_) fun _ _ e => e)
  subst e
  cases q with
  | next => exact wpAny_mono (k.1 rfl A kp' st h' tk' r s' F') (fun _ _ p => p.le l) fun _ _ e => e
  | ret q => exact ⟨_, loc', kp', σ', h', tk', rfl, l, .ret q, s', F', k.2 _ rfl⟩
theorem WB_step {st : Stmt} {rest : List Stmt} {K : Fl → Loc → Store → Prop} (x : WS c n env st loc σ fun fl loc' σ' => fl = .next ∧ WB c n env rest loc' σ' K) : WB c n env (st :: rest) loc σ K :=
  WB_cons (WY.mono x fun fl loc' σ' q => ⟨fun _ => q.2, fun v e => by rw [q.1] at e; cases e⟩)

theorem WS_ret {e : Expr} {pos : Pos} {K : Fl → Loc → Store → Prop} (x : WE c n env e loc σ fun v σ' => K (.ret v) loc σ') : WS c n env (.Return (some e) pos) loc σ K := fun A kp st h tk r s F =>
  wpAny_Return_some (wpAny_mono (x A kp st h tk r s F) (fun v s' ⟨u, kp', σ', h', tk', e, l, q, s', F', k⟩ => ⟨_, loc, kp', σ', h', tk', e, l, .ret q, s', F', k⟩) fun _ _ e => e)
theorem WS_if {t : Expr} {a b : List Stmt} {pos : Pos} {K : Fl → Loc → Store → Prop} (x : WT c n env t loc σ fun v σ' => (v = true → WB c n env a loc σ' K) ∧ (v = false → WB c n env b loc σ' K)) : WS c n env (.If t a b pos) loc σ K := fun A kp st h tk r s F => by
  refine wpAny_If (wpAny_mono (x A kp st h tk r s F) (fun v s' ⟨u, kp', σ', h', tk', e, l, q, s', F', k⟩ => ?_) fun _ _ e => e)
  cases q
  subst e
  cases v
  · exact wpAny_mono (k.2 rfl A kp' st h' tk' r s' F') (fun _ _ p => p.le l) fun _ _ e => e
  · exact wpAny_mono (k.1 rfl A kp' st h' tk' r s' F') (fun _ _ p => p.le l) fun _ _ e => e
theorem WS_drop {e : Expr} {pos : Pos} {K : Fl → Loc → Store → Prop} (x : WE c n env e loc σ fun _ σ' => K .next loc σ') (hi : interactive env = false) (hs : swapsWith e none pos.line env = pure false := by rfl) : WS c n env (.Expr e pos) loc σ K := fun A kp st h tk r s F => by
  rw [exec_Expr env e pos hi hs]
  refine wpAny_bind (wpAny_standAt (wpAny_bind (wpAny_mono (x A kp st h tk r s F) (fun v s' ⟨u, kp', σ', h', tk', e1, l, q, s', F', k⟩ => ?_) fun _ _ e => e)))
  subst e1
  exact wpAny_dropValue ⟨_, loc, kp', σ', h', tk', rfl, l, .next, s', F', k⟩

noncomputable def storable (sc : Scope) (x : Str) : Bool := !(x == ("__debug__" : Str)) && (sc.names.lookup x == some .local || sc.names.lookup x == some .cell)
theorem store_o {x : Str} {u : V} {v : Value} {A : Around} {kp st : Lk} {h : Heap} {tk : Nat} {Q : Unit → Shared → Prop} (s : SatC c kp st σ h) (F : Frm env loc kp st σ h) (q : Rep kp u v) (hx : storable env.scope x = true)
    (hf : env.scope.names.lookup x = some .cell → env.func.isSome = true ∧ (env.cells.lookup x).isSome = true)
    (k : ∀ h' tk', SatC c kp st σ h' → Frm env ((x, u) :: loc) kp st σ h' → Q () (S c.s₀ h' tk')) : wpAny c.M A (storeName env x v) Q NoE (S c.s₀ h tk) := by
  unfold storable at hx
  rw [Bool.and_eq_true, Bool.not_eq_true', Bool.or_eq_true, beq_iff_eq, beq_iff_eq] at hx
  obtain ⟨hd, hx⟩ := hx
  have look : ∀ y V, List.lookup y ((x, u) :: loc) = some V → (y = x ∧ V = u) ∨ (y ≠ x ∧ loc.lookup y = some V) := by
    intro y V e
    rw [List.lookup_cons] at e
    cases hb : y == x with
    | true => rw [hb] at e; cases e; exact .inl ⟨beq_iff_eq.mp hb, rfl⟩
    | false => rw [hb] at e; exact .inr ⟨by simpa using hb, e⟩
  by_cases hl : env.kindOf x = some .local
  · obtain ⟨m, hn, hm⟩ := F.ns
    obtain ⟨⟨oL, hoL⟩, hk1, hk2⟩ := F.fa_ env.locals (.head _)
    refine wpAny_storeName_local hl hn (fun h' hn' hs => ?_) (by rw [F.fun_]; rfl)
    have Fx : Frm env ((x, u) :: loc) kp st σ h' := by
      have ne : ∀ y cc, env.cells.lookup y = some cc → cc ≠ env.locals := by
        intro y cc e q'
        obtain ⟨w, ⟨o, ho, hc⟩, _⟩ := F.cells y cc e
        obtain ⟨o', es, ep, ho', hd', _⟩ := hn
        rw [q', ho'] at ho
        cases ho
        rw [hd'] at hc
        cases hc
      refine ⟨F.fun_, F.glob, F.blt, F.own, fun a m => ?_, F.cown, fun a m o e => ?_, F.apart, ⟨_, hn', fun y V e hy => ?_⟩, fun y cc e => ?_, fun y V e => ?_⟩
      · obtain ⟨⟨o, e⟩, a1, a2⟩ := F.fa_ a m
        by_cases ha : a = env.locals
        · subst ha; obtain ⟨o', _, _, ho', _⟩ := hn'; exact ⟨⟨o', ho'⟩, a1, a2⟩
        · exact ⟨⟨o, (hs.2 a ha).trans e⟩, a1, a2⟩
      · have ha : a ≠ env.locals := by rintro rfl; rw [F.own] at e; cases e
        exact (hs.2 a ha).trans (F.st_eq a m o e)
      · rcases look y V e with ⟨rfl, rfl⟩ | ⟨a, b⟩
        · exact ⟨v, if_pos rfl, q⟩
        · obtain ⟨w, e1, e2⟩ := hm y V b hy; exact ⟨w, by rw [if_neg a]; exact e1, e2⟩
      · obtain ⟨w, hw, hu⟩ := F.cells y cc e
        refine ⟨w, hw.sameBut hs (ne y cc e), fun V e' hy => ?_⟩
        rcases look y V e' with ⟨rfl, rfl⟩ | ⟨a, b⟩
        · exact absurd hl hy
        · exact hu V b hy
      · rcases look y V e with ⟨rfl, rfl⟩ | ⟨a, b⟩
        · exact ⟨hd, .inl hl⟩
        · exact F.kinds y V b
    exact k h' _ (s.other hk1 F.own hk2 hs.extBut) Fx
  · have hc : env.kindOf x = some .cell := hx.resolve_left hl
    obtain ⟨hfu, hcl⟩ := hf hc
    obtain ⟨cc, hcc⟩ := Option.isSome_iff_exists.mp hcl
    obtain ⟨w, hw, hu⟩ := F.cells x cc hcc
    have mem : cc ∈ fa env := .tail _ (List.mem_map.mpr ⟨(x, cc), mem_of_lookup hcc, rfl⟩)
    obtain ⟨⟨oL, hoL⟩, hk1, hk2⟩ := F.fa_ cc mem
    have hst := F.cown hfu cc mem
    refine wpAny_storeName_cell F.fun_ hc hcc hw fun h' hw' hs => ?_
    have neL : env.locals ≠ cc := by
      intro q'
      obtain ⟨o, ho, hd'⟩ := hw
      obtain ⟨m, ⟨o', es, ep, ho', hd'', _⟩, _⟩ := F.ns
      rw [q', ho] at ho'
      cases ho'
      rw [hd'] at hd''
      cases hd''
    have Fx : Frm env ((x, u) :: loc) kp st σ h' := by
      refine ⟨F.fun_, F.glob, F.blt, F.own, fun a m => ?_, F.cown, fun a m o e => ?_, F.apart, ?_, fun y dd e => ?_, fun y V e => ?_⟩
      · obtain ⟨⟨o, e⟩, a1, a2⟩ := F.fa_ a m
        by_cases ha : a = cc
        · subst ha; obtain ⟨o', ho', _⟩ := hw'; exact ⟨⟨o', ho'⟩, a1, a2⟩
        · exact ⟨⟨o, (hs.2 a ha).trans e⟩, a1, a2⟩
      · have ha : a ≠ cc := by rintro rfl; rw [hst] at e; cases e
        exact (hs.2 a ha).trans (F.st_eq a m o e)
      · obtain ⟨m, hn, hm⟩ := F.ns
        refine ⟨m, hn.sameBut hs neL, fun y V e hy => ?_⟩
        rcases look y V e with ⟨rfl, rfl⟩ | ⟨a, b⟩
        · exact absurd hy hl
        · exact hm y V b hy
      · by_cases hyx : y = x
        · subst hyx
          rw [hcc] at e; cases e
          refine ⟨_, hw', fun V e' hy => ?_⟩
          rcases look y V e' with ⟨_, rfl⟩ | ⟨a, b⟩
          · exact ⟨v, rfl, q⟩
          · exact absurd rfl a
        · obtain ⟨w', hw'', hu'⟩ := F.cells y dd e
          have ne : dd ≠ cc := fun q' => hyx (name_of_addr F.apart (mem_of_lookup e) (q' ▸ mem_of_lookup hcc))
          refine ⟨w', hw''.sameBut hs ne, fun V e' hy => ?_⟩
          rcases look y V e' with ⟨rfl, rfl⟩ | ⟨a, b⟩
          · exact absurd rfl hyx
          · exact hu' V b hy
      · rcases look y V e with ⟨rfl, rfl⟩ | ⟨a, b⟩
        · exact ⟨hd, .inr ⟨.inl hc, hcl⟩⟩
        · exact F.kinds y V b
    exact k h' _ (s.other hk1 hst hk2 hs.extBut) Fx
end

structure EnvOk (env : Env) (sc : Scope) : Prop where
  scp : env.scope = sc
  fn : env.func.isSome = true
  cl : ∀ x, sc.names.lookup x = some .cell → (env.cells.lookup x).isSome = true
theorem EnvOk.kind {env : Env} {sc : Scope} (x : EnvOk env sc) (y : Str) : env.kindOf y = sc.names.lookup y := by rw [Env.kindOf, x.scp]

section
variable {c : Cx} {n : Nat} {env : Env} {loc : Loc} {σ : Store} {sc : Scope}
theorem WS_assign {x : Str} {px pos : Pos} {e : Expr} {K : Fl → Loc → Store → Prop} (O : EnvOk env sc) (hx : storable sc x = true) (y : WE c n env e loc σ fun v σ' => K .next ((x, v) :: loc) σ')
    (hs : swapsWith e (some (.Name x px)) pos.line env = pure false) : WS c n env (.Assign [.Name x px] e pos) loc σ K := fun A kp st h tk r s F => by
  refine wpAny_Assign_Name (wpAny_mono (y A kp st h tk r s F) (fun v s' ⟨u, kp', σ', h', tk', e1, l, q, s', F', k⟩ => ?_) fun _ _ e => e) hs
  subst e1
  exact store_o s' F' q (by rw [O.scp]; exact hx) (fun e => ⟨O.fn, O.cl x (by rw [← O.scp]; exact e)⟩) fun h2 tk2 s2 F2 => ⟨.next, _, kp', σ', h2, tk2, rfl, l, .next, s2, F2, k⟩
end

noncomputable def OCd (c : Cx) (n : Nat) (f : V) (args : List V) (kn : List Str) (kargs : List V) (σ : Store) (K : V → Store → Prop) : Prop :=
  ∀ A kp st h tk fv vs kvs, Room A n → SatC c kp st σ h → Rep kp f fv → Reps kp args vs → Reps kp kargs kvs →
    codeAny c.M A (.call fv ⟨vs, kn.zip kvs⟩) (fun r s' => match r with | .ok (.ret v) => PC c st kp Rep K v s' | _ => False) (S c.s₀ h tk)
noncomputable def OC (c : Cx) (n : Nat) (f : V) (args : List V) (kn : List Str) (kargs : List V) (σ : Store) (K : V → Store → Prop) : Prop :=
  ∀ A kp st h tk fv vs kvs, Room A n → SatC c kp st σ h → Rep kp f fv → Reps kp args vs → Reps kp kargs kvs →
    wpAny c.M A (call fv vs (kn.zip kvs)) (PC c st kp Rep K) NoE (S c.s₀ h tk)

section
variable {c : Cx} {n : Nat} {σ : Store}
theorem OCd.oc {f : V} {args kargs : List V} {kn : List Str} {K : V → Store → Prop} (x : OCd c n f args kn kargs σ K) : OC c n f args kn kargs σ K := fun A kp st h tk fv vs kvs r s q q1 q2 =>
  wpAny_call (codeAny_mono (x A kp st h tk fv vs kvs r s q q1 q2) fun r s' z => by
    rcases r with e | (_ | _ | _ | v) <;> first | exact z | exact z.elim)
theorem OCd.mono {f : V} {args kargs : List V} {kn : List Str} {K K' : V → Store → Prop} (x : OCd c n f args kn kargs σ K) (k : ∀ v σ, K v σ → K' v σ) : OCd c n f args kn kargs σ K' := fun A kp st h tk fv vs kvs r s q q1 q2 =>
  codeAny_mono (x A kp st h tk fv vs kvs r s q q1 q2) fun r s' z => by
    rcases r with e | (_ | _ | _ | v) <;> first | exact z.mono k | exact z.elim
theorem OC.mono {f : V} {args kargs : List V} {kn : List Str} {K K' : V → Store → Prop} (x : OC c n f args kn kargs σ K) (k : ∀ v σ, K v σ → K' v σ) : OC c n f args kn kargs σ K' := fun A kp st h tk fv vs kvs r s q q1 q2 =>
  wpAny_mono (x A kp st h tk fv vs kvs r s q q1 q2) (fun r s' z => z.mono k) fun _ _ e => e

theorem bindL_look (kd : Str → Option NameKind) {x : Str} (hx : kd x = some .local) : ∀ (b : List (Str × Value)) (m : Str → Option Value), (b.map (·.1)).Nodup → bindL kd b m x = (b.lookup x).or (m x)
  | [], m, _ => by simp [bindL]
  | (y, v) :: r, m, hn => by
    rw [List.map_cons, List.nodup_cons] at hn
    unfold bindL
    rw [bindL_look kd hx r _ hn.2, List.lookup_cons]
    cases hb : x == y with
    | true =>
      have e : x = y := beq_iff_eq.mp hb
      subst e
      have : r.lookup x = none := by
        cases q : r.lookup x with
        | none => rfl
        | some z => exact absurd (List.mem_map.mpr ⟨(x, z), mem_of_lookup q, rfl⟩) hn.1
      rw [this, if_pos hx]; simp
    | false =>
      have ne : x ≠ y := by simpa using hb
      split
      · simp [ne]
      · rfl
theorem bindC_look (kd : Str → Option NameKind) {x : Str} (hx : kd x ≠ some .local) : ∀ (b : List (Str × Value)) (m : Str → Option Value), (b.map (·.1)).Nodup → bindC kd b m x = (b.lookup x).or (m x)
  | [], m, _ => by simp [bindC]
  | (y, v) :: r, m, hn => by
    rw [List.map_cons, List.nodup_cons] at hn
    unfold bindC
    rw [bindC_look kd hx r _ hn.2, List.lookup_cons]
    cases hb : x == y with
    | true =>
      have e : x = y := beq_iff_eq.mp hb
      subst e
      have : r.lookup x = none := by
        cases q : r.lookup x with
        | none => rfl
        | some z => exact absurd (List.mem_map.mpr ⟨(x, z), mem_of_lookup q, rfl⟩) hn.1
      rw [this, if_neg hx]; simp
    | false =>
      have ne : x ≠ y := by simpa using hb
      split
      · rfl
      · simp [ne]
theorem zip_look {g : Lk} (bn : List Str) {l : List V} {vs : List Value} (r : Reps g l vs) : ∀ {x : Str} {u : V}, (bn.zip l).lookup x = some u → ∃ v, (bn.zip vs).lookup x = some v ∧ Rep g u v := by
  induction bn generalizing l vs with
  | nil => intro _ _ h; cases h
  | cons y bn ih =>
    intro x u h
    cases r with
    | nil => cases h
    | cons hv r =>
      rw [List.zip_cons_cons, List.lookup_cons] at h ⊢
      cases hb : x == y with
      | true => rw [hb] at h; cases h; exact ⟨_, rfl, hv⟩
      | false => rw [hb] at h; exact ih r h

theorem OCd_fn {f : Addr} {fd : FuncData} {oc : Value} {od : Option Addr} {osl : Array (Option Value)} {body : List Stmt} {args kargs : List V} {kn bn : List Str} {K : V → Store → Prop}
    (ho : c.K.lookup f = some ⟨oc, od, .func fd, osl⟩) (hbody : fd.body = .stmts body) (hcd : codeIn c.K fd.code fd.qualname = true) (hco : fd.scope.isCoroutine = false) (hgen : fd.scope.isGenerator = false) (hkind : fd.scope.kind = .function)
    (hglob : fd.globals = mainGlobals) (hbl : fd.builtins = builtinsNs) (hclo : fd.closure = [])
    (hb : ∀ s : Shared, (∀ b o, c.h₀.get? b = some o → s.heap.get? b = some o) → ∀ vs kvs : List Value, vs.length = args.length → kvs.length = kargs.length → BindsTo s fd ⟨vs, kn.zip kvs⟩ (bn.zip (vs ++ kvs)))
    (hst : ∀ x ∈ bn, storable fd.scope x = true) (hnd : bn.Nodup) (hcn : ((cellsFrom 0 fd.scope.names []).map (·.1)).Nodup)
    (hbod : ∀ env, EnvOk env fd.scope → WB c n env body (bn.zip (args ++ kargs)) σ fun fl _ σ' => match fl with | .next => K .none σ' | .ret v => K v σ') :
    OCd c (n + 1) (.val (.ref f)) args kn kargs σ K := by
  intro A kp st h tk fv vs kvs r s q q1 q2
  cases q
  have hroom : A.depth < recursionLimit := by have := r.2.1; omega
  have kk := c.keep s
  refine codeAny_call_function hroom (kk _ _ (c.X _ _ ho)) rfl hco hgen hbody ((codeRec_of c.X hcd).keeps kk) (hb _ kk vs kvs q1.length q2.length _ _ _ _ ?_)
  rw [hclo]
  have bnk : ∀ x ∈ bn.zip (vs ++ kvs), fd.scope.names.lookup x.1 = some .local ∨ (fd.scope.names.lookup x.1 = some .cell ∧ ((cellsFrom (h.objs.size + 1) fd.scope.names []).lookup x.1).isSome = true) := by
    intro x hx
    have hm : x.1 ∈ bn := (List.of_mem_zip hx).1
    have := hst _ hm
    unfold storable at this
    rw [Bool.and_eq_true, Bool.or_eq_true, beq_iff_eq, beq_iff_eq] at this
    rcases this.2 with z | z
    · exact .inl z
    · exact .inr ⟨z, cellsFrom_some _ _ _ (.inl z)⟩
  refine wpAny_newFunctionEnv_cells hkind bnk fun env he s' x => ?_
  have hO : EnvOk env fd.scope := ⟨by rw [he]; rfl, by rw [he]; rfl, fun y hy => by rw [he]; exact cellsFrom_some _ _ _ (.inl hy)⟩
  have hL : env.locals = h.objs.size := by rw [he]; rfl
  obtain ⟨h₁, tk₁, rfl, hk₁⟩ := x.done
  have s₁ : SatC c kp st σ h₁ := s.keep hk₁
  refine ⟨(c.lim.keeps kk).keeps hk₁, codeAny_func ?_⟩
  have big : ∀ a, h.objs.size ≤ a → kp a = none ∧ st a = none ∧ σ a = none := fun a ha => s.fresh (by
    cases e : h.get? a with
    | none => rfl
    | some o => exact absurd (Heap.lt_size e) (Nat.not_lt.mpr ha))
  have faBig : ∀ a ∈ fa env, h.objs.size ≤ a := by
    intro a ha
    cases ha with
    | head => exact Nat.le_of_eq hL.symm
    | tail _ ha =>
      obtain ⟨p, hp, rfl⟩ := List.mem_map.mp ha
      have := x.above p.1 p.2 hp
      rw [hL] at this
      exact Nat.le_of_lt this
  have nodup : ((bn.zip (vs ++ kvs)).map (·.1)).Nodup := by
    have : ∀ (bn : List Str) (vs : List Value), bn.Nodup → ((bn.zip vs).map (·.1)).Nodup := by
      intro bn
      induction bn with
      | nil => intro vs _; simp
      | cons y r ih =>
        intro vs hn
        cases vs with
        | nil => simp
        | cons v vs =>
          rw [List.nodup_cons] at hn
          rw [List.zip_cons_cons, List.map_cons, List.nodup_cons]
          refine ⟨fun hm => hn.1 ?_, ih vs hn.2⟩
          obtain ⟨p, hp, e⟩ := List.mem_map.mp hm
          have q := (List.of_mem_zip hp).1
          have e' : p.1 = y := e
          rw [e'] at q
          exact q
    exact this _ _ hnd
  have F : Frm env (bn.zip (args ++ kargs)) kp st σ h₁ := by
    refine ⟨by rw [hO.scp]; exact hkind, by rw [he]; exact hglob, by rw [he]; exact hbl, (big _ (faBig _ (.head _))).2.1, fun a ha => ?_, fun _ a ha => (big a (faBig a ha)).2.1, fun a ha o e => ?_, x.apart, ⟨_, x.toInCall.ns, fun y V e hy => ?_⟩, fun y cc e => ?_, fun y V e => ?_⟩
    · refine ⟨?_, (big a (faBig a ha)).1, (big a (faBig a ha)).2.2⟩
      cases ha with
      | head => obtain ⟨o, _, _, ho, _⟩ := x.toInCall.ns; exact ⟨o, ho⟩
      | tail _ ha =>
        obtain ⟨p, hp, rfl⟩ := List.mem_map.mp ha
        have hl : env.cells.lookup p.1 = some p.2 := by
          rw [he] at hp ⊢
          exact lookup_of_mem_nodup (cellsFrom_names fd.scope.names 0 (h.objs.size + 1) [] [] rfl ▸ hcn) hp
        obtain ⟨o, ho, _⟩ := x.cell p.1 p.2 hl
        exact ⟨o, ho⟩
    · rw [(big a (faBig a ha)).2.1] at e; cases e
    · obtain ⟨v, e1, rp⟩ := zip_look bn (q1.append q2) e
      refine ⟨v, ?_, rp⟩
      rw [bindL_look _ hy _ _ nodup, e1]; rfl
    · refine ⟨_, x.cell y cc e, fun V e' hy => ?_⟩
      obtain ⟨v, e1, rp⟩ := zip_look bn (q1.append q2) e'
      refine ⟨v, ?_, rp⟩
      rw [bindC_look _ hy _ _ nodup, e1]; rfl
    · have hm : y ∈ bn := (List.of_mem_zip (mem_of_lookup e)).1
      have := hst _ hm
      unfold storable at this
      rw [Bool.and_eq_true, Bool.or_eq_true, beq_iff_eq, beq_iff_eq, Bool.not_eq_true'] at this
      refine ⟨this.1, ?_⟩
      rw [hO.kind]
      rcases this.2 with z | z
      · exact .inl z
      · exact .inr ⟨.inl z, hO.cl y z⟩
  refine wpAny_mono (hbod env hO (A.deeper env) kp st h₁ tk₁ (r.deeper env) s₁ F) (fun fl s' ⟨fl', loc', kp', σ', h', tk', e, l, q, s', F', k⟩ => ?_) fun _ _ e => e.elim
  cases q with
  | next => exact ⟨.none, kp', σ', h', tk', e, l, .none, s', k⟩
  | ret q => exact ⟨_, kp', σ', h', tk', e, l, q, s', k⟩
end
end
section
open PySem PySem.W PySem.Calls PyProof.Rows Builtin Builtin.ObjectAttr Builtin.Getset_descriptor
structure ClsOk (c : Cx) (C : Addr) : Prop where
  pg : plainGet c.K C "" = true
  hd : hasDictIn c.K C = true
  sa : findIn c.K (.ref C) "__setattr__" = some (some (.builtin "object.__setattr__"))
  po : plainOver c.K C = true
  mks : makesIn c.K C = true

theorem isStr_ne {x y : Str} {t : Tok} (h : y ≠ x) : (Value.str y t).isStr x = false := by simpa [Value.isStr] using h
theorem RepF.none {g : Lk} {x : Str} {ns : List Str} {l : List V} {es : List DictEntry} (r : RepF g ns l es) : x ∉ ns → es.find? (·.key.isStr x) = Option.none ∧ es.any (·.refKey) = false :=
  r.ind (Q := fun ns _ es => x ∉ ns → es.find? (·.key.isStr x) = Option.none ∧ es.any (·.refKey) = false) (fun _ => ⟨rfl, rfl⟩) fun y ns u l e es t he _ _ q h => by
    rw [List.mem_cons, not_or] at h
    obtain ⟨a, b⟩ := q h.2
    rw [List.find?_cons, List.any_cons, b, he, isStr_ne (Ne.symm h.1)]
    exact ⟨a, by simp [DictEntry.refKey, he]⟩
theorem RepF.some {g : Lk} {x : Str} {u : V} {ns : List Str} {l : List V} {es : List DictEntry} (r : RepF g ns l es) : (ns.zip l).lookup x = Option.some u → ∃ v, getL x es = Option.some (Option.some v) ∧ Rep g u v :=
  r.ind (Q := fun ns l es => (ns.zip l).lookup x = Option.some u → ∃ v, getL x es = Option.some (Option.some v) ∧ Rep g u v) (fun h => by cases h) fun y ns _ l e es t he hv _ q h => by
    rw [List.zip_cons_cons, List.lookup_cons] at h
    unfold getL
    rw [List.find?_cons, he]
    cases hb : x == y with
    | true =>
      rw [hb] at h
      cases h
      have : (Value.str y t).isStr x = true := by rw [beq_iff_eq.mp hb]; simp [Value.isStr]
      rw [this]
      exact ⟨_, rfl, hv⟩
    | false =>
      rw [hb] at h
      obtain ⟨v, e1, e2⟩ := q h
      rw [isStr_ne fun q => by rw [q] at hb; simp at hb]
      refine ⟨v, ?_, e2⟩
      unfold getL at e1
      dsimp only
      cases hf : List.find? (fun e : DictEntry => e.key.isStr x) _ with
      | some z => rw [hf] at e1; exact e1
      | none => rw [hf] at e1; dsimp only at e1; split at e1 <;> cases e1
theorem RepF.snoc {g : Lk} {x : Str} {u : V} {e : DictEntry} {t : Tok} (he : e.key = .str x t) (hu : Rep g u e.val) {ns : List Str} {l : List V} {es : List DictEntry} (r : RepF g ns l es) : RepF g (ns ++ [x]) (l ++ [u]) (es ++ [e]) :=
  r.ind (Q := fun ns l es => RepF g (ns ++ [x]) (l ++ [u]) (es ++ [e])) (.cons he hu .nil) fun _ _ _ _ _ _ _ e' h _ q => .cons e' h q
theorem putL_new {x : Str} {hs : Int} {k v : Value} : ∀ {es : List DictEntry}, es.find? (·.key.isStr x) = Option.none → putL x hs k v es = es ++ [⟨hs, k, v⟩]
  | [], _ => rfl
  | e :: r, h => by
    rw [List.find?_cons] at h
    split at h
    · cases h
    · rename_i q
      rw [putL, q, if_neg (by decide), putL_new h]; rfl
theorem Rep.handed {g : Lk} {x : V} {v : Value} (r : Rep g x v) (h : ∀ i, x ≠ .val (.builtin i)) : handedIn v = true := by
  cases r <;> try rfl
  cases v <;> first | rfl | exact absurd rfl (h _)

section
variable {prog : Program} {w : World} {A : Around} {s : Shared} {K : Frag} {C x dx : Addr} {R : Result → Shared → Prop}
theorem osa_exact {ox od : Obj} {name : Str} {tk : Tok} {v : Value} {es : List DictEntry} {n : Nat} (X : K.In s.heap)
    (I : InstAt s.heap x ox C (some od)) (hd : ox.dict = some dx) (hp : plainOver K C = true) (ht : takerIn K C name = some none) (hh : hasDictIn K C = true)
    (e0 : od = dictOf es n) (h1 : es.find? (·.key.isStr name) = none) (h2 : es.any (·.refKey) = false) (hz : es.length ≤ 1000)
    (h : R (.ok (.ret .none)) { s with heap := s.heap.update dx (Obj.putName name (PyData.keyHash w.params name) (.str name s.toks) v), toks := s.toks + 1 }) :
    codeAny (model prog w) A (.call (.builtin "object.__setattr__") ⟨[.ref x, .str name tk, v], []⟩) R s := by
  refine osa_open X I hp ht fun b => ?_
  obtain ⟨cd, hc, hd'⟩ := any_some hh
  obtain ⟨hx, hcl, hn, hdd⟩ := I
  rw [hd] at hdd
  obtain ⟨oc, odi, oda, osl⟩ := ox
  dsimp only at hcl hd
  subst hcl hd
  have D : s.heap.get? dx = some od := hdd
  have e1 : Obj.putName name (PyData.keyHash w.params name) (.str name s.toks) v od = dictOf (es ++ [⟨PyData.keyHash w.params name, .str name s.toks, v⟩]) (n + 1) := by
    rw [e0, putName_dict, putL_new h1]
    unfold putN
    rw [show es.any (·.key.isStr name) = false by
      rw [List.any_eq_false]; intro z hz' q
      rw [List.find?_eq_none] at h1
      exact h1 z hz' q]
    rfl
  have D' : (s.heap.update dx (Obj.putName name (PyData.keyHash w.params name) (.str name s.toks) v)).get? dx = some (dictOf (es ++ [⟨PyData.keyHash w.params name, .str name s.toks, v⟩]) (n + 1)) := by
    rw [← e1]; exact Heap.get?_update_self _ D (by rw [e1]; rfl)
  refine wpAny_bind (wpAny_pure (wpAny_bind (wpAny_bind (wpAny_loadPart hx (wpAny_bind ((looks_clsIn X hc).here ?_))))))
  rw [hd']
  refine wpAny_pure (a := some dx) (wpAny_bind (wpAny_pure (wpAny_bind ?_)))
  unfold nsSet
  refine wpAny_bind (wpAny_bind (wpAny_askSetting (wpAny_pure (wpAny_bind (wpAny_mkText (wpAny_bind (wpAny_loadPart D ?_)))))))
  rw [e0]
  dsimp only
  have cc : (!es.toArray.any (·.key.isStr name) && es.toArray.any (·.refKey)) = false := by
    rw [List.any_toArray, List.any_toArray, h2, Bool.and_false]
  rw [aRefKeyMayBeTheName_at, cc]
  refine wpAny_updatePart D ?_
  refine wpAny_bind (wpAny_lookBehind D' (pastItsLine_dict (by rw [List.size_toArray, sizeLine_eq, List.length_append, List.length_singleton]; omega)) ?_)
  exact wpAny_pure h
end

section
variable {c : Cx} {n : Nat} {σ : Store} {C dx : Addr} {kp st : Lk} {h : Heap}

theorem inst_at {x : Addr} {es : List DictEntry} {m : Nat} (h1 : h.get? x = some (instObj C dx)) (h2 : h.get? dx = some (dictOf es m)) : InstAt h x (instObj C dx) C (some (dictOf es m)) := ⟨h1, rfl, rfl, h2⟩

theorem O_get_mob {name : Str} {ex : Bool} {ns : List Str} {l : List V} {u : V} {K : V → Store → Prop} (k : ClsOk c C) (hf : findIn c.K (.ref C) name = some none) (hs : σ dx = some (.ns ns l)) (hu : (ns.zip l).lookup name = some u) (hb : ∀ i, u ≠ .val (.builtin i))
    (q : K u σ) : O1 c n (fun v => getAttr v name ex) Rep (.mob C dx) σ K := by
  intro A kp st h tk v r s p
  cases p with
  | mob hx =>
    obtain ⟨o, ho, es, m, rfl, rf⟩ := s.mu_ok dx _ hs
    obtain ⟨v, e1, rv⟩ := rf.some hu
    exact get_value (c.X.keeps (c.keep s)) (inst_at (s.kp_ok _ _ hx) ho) (plainGet_of k.pg).1 (findObj_own k.hd hf rfl (by rw [lookIn_dict]; exact e1)) (rv.handed hb) (pc_end s rv q)
theorem O_get_inst {name : Str} {ex : Bool} {ns : List Str} {l : List V} {u : V} {K : V → Store → Prop} (k : ClsOk c C) (hf : findIn c.K (.ref C) name = some none) (hu : (ns.zip l).lookup name = some u) (hb : ∀ i, u ≠ .val (.builtin i))
    (q : K u σ) : O1 c n (fun v => getAttr v name ex) Rep (.inst C ns l) σ K := by
  intro A kp st h tk v r s p
  cases p with
  | inst hx hd rf =>
    obtain ⟨v, e1, rv⟩ := rf.some hu
    exact get_value (c.X.keeps (c.keep s)) (inst_at (s.kp_ok _ _ hx) (s.kp_ok _ _ hd)) (plainGet_of k.pg).1 (findObj_own k.hd hf rfl (by rw [lookIn_dict]; exact e1)) (rv.handed hb) (pc_end s rv q)

inductive RM (g : Lk) : V × List V → Value × List Value → Prop
  | mk {f : V} {fv : Value} {l : List V} {vs : List Value} : Rep g f fv → Reps g l vs → RM g (f, l) (fv, vs)

theorem O_meth_mob {name : Str} {pl : Sem Bool} {ns : List Str} {l : List V} {f : Addr} {K : V × List V → Store → Prop} (k : ClsOk c C) (hf : findIn c.K (.ref C) name = some (some (.ref f))) (ht : isFn c.K (.ref f) = true) (hs : σ dx = some (.ns ns l)) (hn : name ∉ ns)
    (q : K (.val (.ref f), [.mob C dx]) σ) : O1 c n (fun v => getMethod v name pl) RM (.mob C dx) σ K := by
  intro A kp st h tk v r s p
  cases p with
  | mob hx =>
    obtain ⟨o, ho, es, m, rfl, rf⟩ := s.mu_ok dx _ hs
    obtain ⟨a, b⟩ := rf.none hn
    exact method_fn (c.X.keeps (c.keep s)) (inst_at (s.kp_ok _ _ hx) ho) (plainGet_of k.pg).1 (plainGet_of k.pg).2 hf (beq_iff_eq.mp ht) (by
      show (lookIn name (dictOf es m)).map _ = _
      rw [lookIn_dict]; unfold getL; rw [a, b]; rfl) (pc_end s (.mk (.val _) (.one (.mob hx))) q)
theorem O_meth_inst {name : Str} {pl : Sem Bool} {ns : List Str} {l : List V} {f : Addr} {K : V × List V → Store → Prop} (k : ClsOk c C) (hf : findIn c.K (.ref C) name = some (some (.ref f))) (ht : isFn c.K (.ref f) = true) (hn : name ∉ ns)
    (q : K (.val (.ref f), [.inst C ns l]) σ) : O1 c n (fun v => getMethod v name pl) RM (.inst C ns l) σ K := by
  intro A kp st h tk v r s p
  cases p with
  | inst hx hd rf =>
    obtain ⟨a, b⟩ := rf.none hn
    exact method_fn (c.X.keeps (c.keep s)) (inst_at (s.kp_ok _ _ hx) (s.kp_ok _ _ hd)) (plainGet_of k.pg).1 (plainGet_of k.pg).2 hf (beq_iff_eq.mp ht) (by
      show (lookIn name (dictOf _ _)).map _ = _
      rw [lookIn_dict]; unfold getL; rw [a, b]; rfl) (pc_end s (.mk (.val _) (.one (.inst hx hd rf))) q)

theorem O_set {name : Str} {ns : List Str} {l : List V} {u : V} {K : Unit → Store → Prop} (k : ClsOk c C) (hf : findIn c.K (.ref C) name = some none) (hs : σ dx = some (.ns ns l)) (hn : name ∉ ns) (hl : ns.length ≤ 900)
    (q : K () (put σ dx (.ns (ns ++ [name]) (l ++ [u])))) : O2 c n (fun o v => setAttr o name v) Same (.mob C dx) u σ K := by
  intro A kp st h tk v r' r s p pu
  cases p with
  | mob hx =>
    obtain ⟨o, ho, es, m, rfl, rf⟩ := s.mu_ok dx _ hs
    obtain ⟨a, b⟩ := rf.none hn
    have I := inst_at (s.kp_ok _ _ hx) ho
    have hz : es.length ≤ 900 := by
      have : ∀ {ns : List Str} {l : List V} {es : List DictEntry}, RepF kp ns l es → es.length = ns.length := by
        intro ns l es rf
        induction es generalizing ns l with
        | nil => cases rf; rfl
        | cons e r ih => cases rf with | cons _ _ rf => rw [List.length_cons, List.length_cons, ih rf]
      rw [this rf]; exact hl
    have ht : takerIn c.K C name = some none := by unfold takerIn; rw [hf]; rfl
    refine set_plain (s := S c.s₀ h tk) (c.X.keeps (c.keep s)) I k.sa (osa_exact (s := S c.s₀ h (tk + 1)) (c.X.keeps (c.keep s)) I rfl k.po ht k.hd rfl a b (by omega) ?_)
    refine ⟨(), kp, _, _, tk + 1 + 1, rfl, Le.refl _, rfl, s.upd (y := .ns (ns ++ [name]) (l ++ [u])) hs (Heap.SameBut.update ..) (Heap.get?_update_self _ ho ?_) ⟨es ++ [⟨PyData.keyHash c.w.params name, .str name (tk + 1), r'⟩], m + 1, ?_, rf.snoc rfl pu⟩, q⟩
    · rw [putName_dict]; rfl
    · rw [putName_dict, putL_new a]
      unfold putN
      rw [show es.any (·.key.isStr name) = false by
        rw [List.any_eq_false]; intro z hz' q
        rw [List.find?_eq_none] at a
        exact a z hz' q]
      rfl
end

section
variable {c : Cx} {n : Nat} {env : Env} {loc : Loc} {σ : Store}
theorem WS_setattr {o e : Expr} {a : Str} {pa pos : Pos} {K : Fl → Loc → Store → Prop} (y : WE c n env e loc σ fun v σ' => WE c n env o loc σ' fun ov σ'' => O2 c n (fun o v => setAttr o a v) Same ov v σ'' fun _ σ3 => K .next loc σ3)
    (hs : swapsWithSole [.Attribute o a pa] e pos.line env = pure false := by with_unfolding_all rfl) (hw : swappedStores [.Attribute o a pa] e env = pure none := by with_unfolding_all rfl) : WS c n env (.Assign [.Attribute o a pa] e pos) loc σ K := fun A kp st h tk r s F => by
  refine wpAny_Assign_stores (wpAny_mono (y A kp st h tk r s F) (fun v s' ⟨u, kp1, σ1, h1, tk1, e1, l1, q1, s1, F1, y⟩ => ?_) fun _ _ e => e) hs hw
  subst e1
  show wpAny _ _ (holding [v] (eval o env) >>= fun ov => standAt pa.atName >>= fun _ => holding [v, ov] (setAttr ov a v) >>= fun _ => release [v, ov] []) _ _ _
  refine wpAny_bind (wpAny_holding (wpAny_mono (y A kp1 st h1 tk1 r s1 F1) (fun ov s' ⟨b, kp2, σ2, h2, tk2, e2, l2, q2, s2, F2, z⟩ => ?_) fun _ _ e => e))
  subst e2
  refine wpAny_bind (wpAny_standAt (wpAny_bind (wpAny_holding (wpAny_mono (z.inF r s2 F2 q2 (q1.mono l2)) (fun _ s' ⟨b, kp3, σ3, h3, tk3, e3, l3, q3, s3, F3, z3⟩ => ?_) fun _ _ e => e))))
  exact wpAny_release ⟨.next, loc, kp3, σ3, h3, tk3, e3, l1.trans (l2.trans l3), .next, s3, F3, z3⟩

noncomputable def Kept (c : Cx) (f : V) : Prop := ∃ v, f = .val v ∧ ∀ h : Heap, (∀ b o, c.h₀.get? b = some o → h.get? b = some o) → ∃ k, (k = Keeper.frame ∨ k = Keeper.machine ∨ k = Keeper.boundFrame) ∧ Looks c.M h (keeperOf v) k
theorem kept_K {v : Value} (hk : keepIn c.K v = true) : Kept c (.val v) := ⟨v, rfl, fun h k => keeps_K hk h (c.X.keeps k)⟩
theorem kept_type {T : String} : Kept c (.val (.type T)) := ⟨_, rfl, fun h k => ⟨_, .inr (.inl rfl), Looks.of_pure rfl⟩⟩
theorem kept_builtin {T : String} : Kept c (.val (.builtin T)) := ⟨_, rfl, fun h k => ⟨_, .inr (.inl rfl), Looks.of_pure rfl⟩⟩

theorem noStar (pos : Pos) (env : Env) : ∀ es : List Expr, (es.all fun e => !isStarred e) = true → (backTo pos (starEach es env)).any (·.1) = false
  | [], _ => rfl
  | e :: r, h => by
    rw [List.all_cons, Bool.and_eq_true] at h
    have := noStar pos env r h.2
    cases e with
    | Starred _ _ => simp [isStarred] at h
    | _ => exact this
noncomputable def kwName : Keyword → Option Str
  | ⟨nm, _, _⟩ => nm
theorem kwSome (pos : Pos) (env : Env) : ∀ ks : List Keyword, (ks.all fun k => (kwName k).isSome) = true → (backToKw pos (keywordEach ks env)).any (·.1.isNone) = false ∧ (backToKw pos (keywordEach ks env)).all (·.1.isSome) = true ∧ (backToKw pos (keywordEach ks env)).filterMap (·.1) = ks.filterMap kwName
  | [], _ => ⟨rfl, rfl, rfl⟩
  | ⟨nm, e, p⟩ :: r, h => by
    rw [List.all_cons, Bool.and_eq_true] at h
    obtain ⟨a, b, d⟩ := kwSome pos env r h.2
    cases nm with
    | none => exact absurd h.1 (by show ¬ (none : Option Str).isSome = true; decide)
    | some x =>
      refine ⟨?_, ?_, ?_⟩
      · show (false || (backToKw pos (keywordEach r env)).any (·.1.isNone)) = false
        rw [a]; rfl
      · show (true && (backToKw pos (keywordEach r env)).all (·.1.isSome)) = true
        rw [b]; rfl
      · show x :: (backToKw pos (keywordEach r env)).filterMap (·.1) = x :: _
        rw [d]

theorem evalArgs_o {f : Value} {es : List Expr} {ks : List Keyword} {pos : Pos} {A : Around} {s : Shared} {Q : Args → Shared → Prop} (h1 : (es.all fun e => !isStarred e) = true) (h2 : (ks.all fun k => (kwName k).isSome) = true)
    (h : wpAny c.M A (spliced (backTo pos (starEach es env))) (fun vs s₁ => wpAny c.M A (evalAll ((backToKw pos (keywordEach ks env)).map (·.2))) (fun kvs s₂ => Q ⟨vs, (ks.filterMap kwName).zip kvs⟩ s₂) NoE s₁) NoE s) :
    wpAny c.M A (evalArgs f true (backTo pos (starEach es env)) (backToKw pos (keywordEach ks env))) Q NoE s := by
  obtain ⟨a, b, d⟩ := kwSome pos env ks h2
  cases es with
  | nil =>
    refine evalArgs_kw_nil b ?_
    rw [d]
    intro Γ p hΓ
    exact h Γ p hΓ Γ p hΓ
  | cons e r =>
    have he : ∃ x rest, backTo pos (starEach (e :: r) env) = (false, x) :: rest := by
      rw [List.all_cons, Bool.and_eq_true] at h1
      cases e with
      | Starred _ _ => simp [isStarred] at h1
      | _ => exact ⟨_, _, rfl⟩
    obtain ⟨x, rest, he⟩ := he
    rw [he] at h ⊢
    refine evalArgs_kw b ?_
    rw [d]
    exact h

theorem callWith_o {pos : Pos} {f : V} {fv : Value} {first : List V} {fvs : List Value} {es : List Expr} {ks : List Keyword} {K : V → Store → Prop} {A : Around} {kp st : Lk} {h : Heap} {tk : Nat} (r : Room A n) (s : SatC c kp st σ h) (F : Frm env loc kp st σ h)
    (q : Rep kp f fv) (qs : Reps kp first fvs) (hk : Kept c f) (h1 : (es.all fun e => !isStarred e) = true) (h2 : (ks.all fun k => (kwName k).isSome) = true)
    (x : WL c n env pos es loc σ fun vs σ1 => WK c n env pos ks loc σ1 fun kvs σ2 => OC c n f (first ++ vs) (ks.filterMap kwName) kvs σ2 K) :
    wpAny c.M A (callWith pos fv fvs (backTo pos (starEach es env)) (backToKw pos (keywordEach ks env))) (PF c env loc st kp Rep K) NoE (S c.s₀ h tk) := by
  obtain ⟨v, rfl, hk⟩ := hk
  cases q
  refine callWith_of (P := fun h => ∀ b o, c.h₀.get? b = some o → h.get? b = some o) (by rw [noStar pos env es h1, (kwSome pos env ks h2).1]; rfl) hk ?_
  refine evalArgs_o h1 h2 (wpAny_mono (x A kp st h tk r s F) (fun vs s' ⟨l, kp1, σ1, hh1, tk1, e1, l1, q1, s1, F1, y⟩ => ?_) fun _ _ e => e)
  subst e1
  refine wpAny_mono (y A kp1 st hh1 tk1 r s1 F1) (fun kvs s' ⟨kl, kp2, σ2, hh2, tk2, e2, l2, q2, s2, F2, z⟩ => ?_) fun _ _ e => e
  subst e2
  refine ⟨c.keep s2, ?_⟩
  refine wpAny_mono (lift F2 s2 fun st' s' => z A kp2 st' hh2 tk2 _ _ _ r s' (.val _) ((qs.mono (l1.trans l2)).append (q1.mono l2)) q2) (fun _ _ p => p.le (l1.trans l2)) fun _ _ e => e

theorem WE_call {id : Str} {p pos : Pos} {es : List Expr} {ks : List Keyword} {K : V → Store → Prop} (x : WE c n env (.Name id p) loc σ fun f σ0 => Kept c f ∧ WL c n env pos es loc σ0 fun vs σ1 => WK c n env pos ks loc σ1 fun kvs σ2 => OC c n f vs (ks.filterMap kwName) kvs σ2 K)
    (h1 : (es.all fun e => !isStarred e) = true := by rfl) (h2 : (ks.all fun k => (kwName k).isSome) = true := by rfl) : WE c n env (.Call (.Name id p) es ks pos) loc σ K := fun A kp st h tk r s F => by
  refine wpAny_Call_Name_kw (wpAny_mono (x A kp st h tk r s F) (fun fv s' ⟨f, kp1, σ1, hh1, tk1, e1, l1, q1, s1, F1, y⟩ => ?_) fun _ _ e => e)
  subst e1
  exact wpAny_mono (callWith_o r s1 F1 q1 .nil y.1 h1 h2 (by simpa using y.2)) (fun _ _ p => p.le l1) fun _ _ e => e

theorem WE_meth {o : Expr} {name : Str} {ap pos : Pos} {es : List Expr} {K : V → Store → Prop} (x : WE c n env o loc σ fun ov σ0 => ∀ pl, O1 c n (fun v => getMethod v name pl) RM ov σ0 fun fx σ1 => Kept c fx.1 ∧ WL c n env pos es loc σ1 fun vs σ2 => OC c n fx.1 (fx.2 ++ vs) [] [] σ2 K)
    (h1 : (es.all fun e => !isStarred e) = true := by rfl)
    (he : ∃ pl, eval (.Call (.Attribute o name ap) es [] pos) env = (do
      let ov ← eval o env
      standAt ap.atName
      let (f, first) ← holding [ov] (getMethod ov name pl)
      callWith pos f first (backTo pos (starEach es env)) []) := by exact ⟨_, rfl⟩) : WE c n env (.Call (.Attribute o name ap) es [] pos) loc σ K := fun A kp st h tk r s F => by
  obtain ⟨pl, he⟩ := he
  refine MethodCall_ (pl := pl) (wpAny_mono (x A kp st h tk r s F) (fun ov s' ⟨f, kp1, σ1, hh1, tk1, e1, l1, q1, s1, F1, y⟩ => ?_) fun _ _ e => e) he
  subst e1
  refine wpAny_mono ((y pl).inF r s1 F1 q1) (fun fx s' ⟨fv, kp2, σ2, hh2, tk2, e2, l2, q2, s2, F2, z⟩ => ?_) fun _ _ e => e
  subst e2
  cases q2 with
  | mk qf qs =>
    exact wpAny_mono (callWith_o (ks := []) r s2 F2 qf qs z.1 h1 rfl (WX.mono z.2 fun vs σ k => WK_nil k)) (fun _ _ p => p.le (l1.trans l2)) fun _ _ e => e

end

theorem Room.under {A : Around} {n : Nat} (r : Room A (n + 1)) (C : Addr) (rest : List Value) (kw : List (Str × Value)) : Room (A.under (.builtin "type.__call__" ⟨.ref C :: rest, kw⟩)) n := by
  have hw : (Code.builtin "type.__call__" ⟨.ref C :: rest, kw⟩).weight = 1 := rfl
  have hu : (Code.builtin "type.__call__" ⟨.ref C :: rest, kw⟩).cUnits ≤ 3 := by
    have hf : (Code.builtin "type.__call__" ⟨.ref C :: rest, kw⟩).frames = 0 := rfl
    simp [Code.cUnits, hf]
  refine ⟨r.1, ?_, ?_⟩
  · have := r.2.1
    show A.depth + (Code.builtin "type.__call__" ⟨.ref C :: rest, kw⟩).weight + 3 * n + 2 ≤ _
    rw [hw]; omega
  · have := r.2.2
    show A.units + (Code.builtin "type.__call__" ⟨.ref C :: rest, kw⟩).cUnits + 16 * n + 80 < _
    omega

section
variable {c : Cx} {n : Nat} {σ : Store} {C : Addr}
theorem OCd_cls {fI : Addr} {args kargs : List V} {kn : List Str} {K : V → Store → Prop} (k : ClsOk c C) (hi : findIn c.K (.ref C) "__init__" = some (some (.ref fI))) (hf : isFn c.K (.ref fI) = true)
    (x : ∀ dx, σ dx = none → OCd c n (.val (.ref fI)) (.mob C dx :: args) kn kargs (put σ dx (.ns [] [])) fun v σ' => v = .none ∧ K (.mob C dx) σ') : OCd c (n + 1) (.val (.ref C)) args kn kargs σ K := by
  intro A kp st h tk fv vs kvs r s q q1 q2
  cases q
  have X := c.X.keeps (c.keep s)
  refine make_core (h := h) (g := c.s₀.gens) (d := c.s₀.drawn) (t := tk) (os := c.s₀.os) (makes_of X k.mks) (looks_findIn X hi) (fun self => bind_fn X self (beq_iff_eq.mp hf)) (.inl rfl) ?_
  have s1 := s.mpush (y := .ns [] []) (o := emptyDict) rfl ⟨[], 0, rfl, .nil⟩
  have s2 := s1.kpush (o := instObj C h.objs.size) rfl
  rw [Heap.size_push] at s2
  have l2 : Le kp (put kp (h.objs.size + 1) (instObj C h.objs.size)) := le_put (by have := s1.new.1; rwa [Heap.size_push] at this)
  refine codeAny_mono (x h.objs.size s.new.2.2 _ _ st _ tk _ _ _ (r.under C vs (kn.zip kvs)) s2 (.val _) (.cons (.mob (a := h.objs.size + 1) (put_self _ _ _)) (q1.mono l2)) (q2.mono l2)) fun res s' z => ?_
  rcases res with e | (_ | _ | _ | v)
  · exact z.elim
  · exact z.elim
  · exact z.elim
  · exact z.elim
  · obtain ⟨u, kp', σ', h', tk', e, l, qv, s3, rfl, kk⟩ := z
    cases qv
    exact ⟨rfl, _, kp', σ', h', tk', e, l2.trans l, .mob (l _ _ (put_self _ _ _)), s3, kk⟩
theorem OCd_clsF {fI : Addr} {args kargs : List V} {kn : List Str} {K : V → Store → Prop} (k : ClsOk c C) (hi : findIn c.K (.ref C) "__init__" = some (some (.ref fI))) (hf : isFn c.K (.ref fI) = true)
    (x : ∀ dx, σ dx = none → OCd c n (.val (.ref fI)) (.mob C dx :: args) kn kargs (put σ dx (.ns [] [])) fun v σ' => v = .none ∧ ∃ ns l, σ' dx = some (.ns ns l) ∧ K (.inst C ns l) (del σ' dx)) : OCd c (n + 1) (.val (.ref C)) args kn kargs σ K := by
  have := OCd_cls (K := fun v σ' => ∃ dx ns l, v = .mob C dx ∧ σ' dx = some (.ns ns l) ∧ K (.inst C ns l) (del σ' dx)) k hi hf fun dx hdx => (x dx hdx).mono fun v σ' z => ⟨z.1, let ⟨ns, l, a, b⟩ := z.2; ⟨dx, ns, l, rfl, a, b⟩⟩
  intro A kp st h tk fv vs kvs r s q q1 q2
  refine codeAny_mono (this A kp st h tk fv vs kvs r s q q1 q2) fun res s' z => ?_
  rcases res with e | (_ | _ | _ | v)
  · exact z
  · exact z
  · exact z
  · exact z
  · obtain ⟨u, kp', σ', h', tk', e, l, qv, s3, dx, ns, vl, rfl, e2, kk⟩ := z
    cases qv with
    | mob hx =>
      obtain ⟨es, m, l2, rf, s4⟩ := s3.freeze e2
      exact ⟨_, _, _, h', tk', e, l.trans l2, .inst (l2 _ _ hx) (put_self _ _ _) rf, s4, kk⟩
end
end
section
theorem wpAny_unbind {α β : Type} {M : Model} {A : Around} {m : Sem α} {f : α → β} {Q : β → Shared → Prop} {E : Value → Shared → Prop} {s : Shared} (h : wpAny M A (m >>= fun x => pure (f x)) Q E s) : wpAny M A m (fun x => Q (f x)) E s := fun Γ p hΓ => by
  have := h Γ p hΓ
  rw [Sem.wp_bind'] at this
  exact this

noncomputable def V.isN : V → Bool
  | .none => true
  | _ => false
noncomputable def veq (x y : V) : Bool := PyData.eqv x.py y.py
noncomputable def dget (es : List (V × V)) (k : V) : Option V := (es.find? fun e => veq e.1 k).map (·.2)
noncomputable def dput : List (V × V) → V → V → List (V × V)
  | [], k, x => [(k, x)]
  | e :: r, k, x => if veq e.1 k then (e.1, x) :: r else e :: dput r k x

section
variable {prog : Program} {w : World} {B kp st : Lk} {σ : Store} {h : Heap}
theorem Sat.getList (s : Sat prog w B kp st σ h) {a : Addr} {l : List V} (e : σ a = some (.list l)) : ∃ vs n, h.get? a = some (lob vs n) ∧ h.IsList a vs.toArray ∧ Reps kp l vs := by
  obtain ⟨o, ho, vs, n, rfl, r⟩ := s.mu_ok a _ e
  exact ⟨vs, n, ho, ⟨_, ho, rfl, n, rfl⟩, r⟩
theorem Sat.getDict (s : Sat prog w B kp st σ h) {a : Addr} {es : List (V × V)} (e : σ a = some (.dict es)) : ∃ xs, h.DictOfH (hk prog w) a xs ∧ RepX kp es xs := by
  obtain ⟨o, ho, xs, n, rfl, r, d⟩ := s.mu_ok a _ e
  exact ⟨xs, ⟨_, _, n, ho, ⟨rfl, rfl, rfl⟩, rfl, rfl, r.keys s.kp_ok, d⟩, r⟩
theorem Sat.getSdict (s : Sat prog w B kp st σ h) {a : Addr} {es : List (Str × V)} (e : σ a = some (.sdict es)) : ∃ kvs, h.DictOf (strKind prog w) a kvs ∧ RepSV kp es kvs := by
  obtain ⟨o, ho, ens, kvs, n, rfl, k1, k2, k3, r⟩ := s.mu_ok a _ e
  exact ⟨kvs, ⟨_, _, n, ho, ⟨rfl, rfl, rfl⟩, rfl, k1, k2, k3⟩, r⟩
theorem Sat.noSys (s : Sat prog w B kp st σ h) {a : Addr} {x : AO} (e : σ a = some x) : (a == sysModules) = false := by
  have := s.lo a x e
  rw [beq_eq_false_iff_ne]
  rintro rfl
  exact absurd this (by decide)
end

theorem veq_nrm {g : Lk} {x y : V} {u v : Value} (p : Rep g x u) (q : Rep g y v) (hx : x.flat 8 = true) (hy : y.flat 8 = true) : veq x y = decide (nrm x.py = nrm y.py) := by
  unfold veq
  rw [Bool.eq_iff_iff, eqv_nrm 8 8 _ _ (p.okd 8 hx) (q.okd 8 hy), decide_eq_true_iff]
theorem RepX.at {g : Lk} {k : V} {v : Value} (p : Rep g k v) (hk : k.flat 8 = true) : ∀ {es : List (V × V)} {xs : List (PyData × Addr × Value)}, RepX g es xs →
    (dget es k = none → atKey xs (nrm k.py) = none) ∧ ∀ x, dget es k = some x → ∃ a u, atKey xs (nrm k.py) = some (a, u) ∧ Rep g x u
  | _, _, .nil => ⟨fun _ => rfl, fun x e => by simp [dget] at e⟩
  | _, _, .cons (k := k') hk' hf hx r => by
    obtain ⟨i1, i2⟩ := r.at p hk
    have e := veq_nrm hk' p hf hk
    unfold dget atKey at *
    simp only [List.find?_cons]
    rw [e]
    by_cases q : nrm k'.py = nrm k.py
    · simp only [q, decide_true]
      exact ⟨fun z => by simp at z, fun x z => by simp at z; subst z; exact ⟨_, _, rfl, hx⟩⟩
    · simp only [q, decide_false]
      exact ⟨i1, i2⟩
theorem RepX.some {g : Lk} {k : V} {v : Value} (p : Rep g k v) (hk : k.flat 8 = true) {es : List (V × V)} {xs : List (PyData × Addr × Value)} (r : RepX g es xs) : (atKey xs (nrm k.py)).isSome = (dget es k).isSome := by
  obtain ⟨i1, i2⟩ := r.at p hk
  cases e : dget es k with
  | none => rw [i1 e]; rfl
  | some x => obtain ⟨a, u, e', _⟩ := i2 x e; rw [e']; rfl
theorem storedH_rep {g : Lk} {k : V} {a : Addr} {x : V} {u : Value} (p : Rep g k (.ref a)) (hk : k.flat 8 = true) (hx : Rep g x u) {es : List (V × V)} {xs : List (PyData × Addr × Value)} (r : RepX g es xs) (hn : (xs.map (·.1)).Nodup) : RepX g (dput es k x) (storedH xs (nrm k.py) a u) := by
  induction r with
  | nil => simpa [dput, storedH, atKey] using RepX.cons p hk hx .nil
  | @cons k' x' a' v' es xs hk' hf hx' r ih =>
    rw [List.map_cons, List.nodup_cons] at hn
    have e := veq_nrm hk' p hf hk
    unfold dput
    by_cases q : nrm k'.py = nrm k.py
    · rw [if_pos (by rw [e, q]; simp)]
      have h1 : atKey ((nrm k'.py, a', v') :: xs) (nrm k.py) = some (a', v') := by simp [atKey, List.find?_cons, q]
      rw [storedH_old h1, List.map_cons, map_putAt_of_not_mem _ _ _ (by rw [← q]; exact hn.1)]
      simp only [putAt, q, if_true]
      rw [← q]
      exact .cons hk' hf hx r
    · rw [if_neg (by rw [e]; simp [q])]
      have ih := ih hn.2
      unfold storedH at ih ⊢
      have h1 : atKey ((nrm k'.py, a', v') :: xs) (nrm k.py) = atKey xs (nrm k.py) := by simp [atKey, List.find?_cons, q]
      rw [h1]
      split at ih
      · rename_i z
        rw [if_pos z, List.map_cons]
        simp only [putAt, q, if_false]
        exact .cons hk' hf hx' ih
      · rename_i z
        rw [if_neg z, List.cons_append]
        exact .cons hk' hf hx' ih

section
variable {c : Cx} {n : Nat} {σ : Store}

theorem O_truth {b : Bool} {K : Bool → Store → Prop} (q : K b σ) : O1 c n truthy Same (.bool b) σ K := fun A kp st h tk v r s p => by
  cases p; exact wpAny_truthy_bool (pc_end s rfl q)
theorem O_not {b : Bool} {K : V → Store → Prop} (q : K (.bool (!b)) σ) : O1 c n (unaryOp .Not) Rep (.bool b) σ K := fun A kp st h tk v r s p => by
  cases p; exact not_of (wpAny_truthy_bool (pc_end s (.bool _) q))

theorem O_eq {x y : V} {K : V → Store → Prop} (hx : x.flat 8 = true) (hy : y.flat 8 = true) (q : K (.bool (veq x y)) σ) : O2 c n (compareOp .Eq) Rep x y σ K := fun A kp st h tk u v r s p p' => by
  obtain ⟨⟨as, ra⟩, ca, da⟩ := p.reads s.kp_ok 8 hx
  obtain ⟨⟨bs, rb⟩, cb, db⟩ := p'.reads s.kp_ok 8 hy
  exact SeqAt.compareEq_reads ra rb ca cb (by have := r.2.2; omega) (pc_end s (.bool _) q)
theorem O_ne {x y : V} {K : V → Store → Prop} (hx : x.flat 8 = true) (hy : y.flat 8 = true) (q : K (.bool (!veq x y)) σ) : O2 c n (compareOp .NotEq) Rep x y σ K := fun A kp st h tk u v r s p p' => by
  obtain ⟨⟨as, ra⟩, ca, da⟩ := p.reads s.kp_ok 8 hx
  obtain ⟨⟨bs, rb⟩, cb, db⟩ := p'.reads s.kp_ok 8 hy
  exact SeqAt.compareNe_reads ra rb ca cb (by have := r.2.2; omega) (pc_end s (.bool _) q)
theorem flst_reads {kp st : Lk} {h : Heap} {v : Value} {l : List V} (s : SatC c kp st σ h) (p : Rep kp (.flst l) v) (hl : flats 8 l = true) : (∃ as, Reads h v (.list (pys l)) as) ∧ (PyData.list (pys l)).canLay0 = true ∧ (PyData.list (pys l)).depth ≤ 9 := by
  cases p with
  | flst ho hc hd r =>
    obtain ⟨⟨as, ra⟩, ca, da⟩ := r.reads s.kp_ok 8 hl
    exact ⟨⟨_, .list (s.kp_ok _ _ ho) hc hd (by simpa using ra)⟩, by simpa [PyData.canLay0] using ca, by simp only [PyData.depth]; omega⟩
theorem eqvAll_nil (l : List V) : PyData.eqvAll (pys l) (pys []) = l.isEmpty := by cases l <;> simp [pys, PyData.eqvAll]
theorem any_pys (l : List V) (x : V) : (pys l).any (fun y => PyData.eqv y x.py) = l.any fun y => veq y x := by rw [pys_map, List.any_map]; rfl
theorem O_notIn_flst {x : V} {l : List V} {K : V → Store → Prop} (hl : flats 8 l = true) (hx : x.flat 8 = true) (q : K (.bool (!l.any fun y => veq y x)) σ) : O2 c n (compareOp .NotIn) Rep x (.flst l) σ K := fun A kp st h tk u v r s p p' => by
  obtain ⟨⟨as, ra⟩, ca, da⟩ := flst_reads s p' hl
  obtain ⟨⟨bs, rb⟩, cb, db⟩ := p.reads s.kp_ok 8 hx
  refine SeqAt.notIn_list_reads ra rb (by simpa [PyData.canLay0] using ca) cb (by have := r.2.2; omega) ?_
  rw [any_pys]
  exact pc_end s (.bool _) q
theorem O_isNot_none {x : V} {K : V → Store → Prop} (hx : ∀ v, x ≠ .val v) (q : K (.bool (!x.isN)) σ) : O2 c n (compareOp .IsNot) Rep x .none σ K := fun A kp st h tk u v r s p p' => by
  cases p'
  show wpAny _ _ (isSame u .none >>= fun b => pure (Value.bool (!b))) _ _ _
  rw [isSame_none]
  refine wpAny_bind (wpAny_pure (wpAny_pure ?_))
  cases p <;> first | exact pc_end s (.bool _) q | exact absurd rfl (hx _)
theorem O_is_none {x : V} {K : V → Store → Prop} (hx : ∀ v, x ≠ .val v) (q : K (.bool x.isN) σ) : O2 c n (compareOp .Is) Rep x .none σ K := fun A kp st h tk u v r s p p' => by
  cases p'
  show wpAny _ _ (isSame u .none >>= fun b => pure (Value.bool b)) _ _ _
  rw [isSame_none]
  refine wpAny_bind (wpAny_pure (wpAny_pure ?_))
  cases p <;> first | exact pc_end s (.bool _) q | exact absurd rfl (hx _)

theorem O_add {a b : Int} {K : V → Store → Prop} (q : K (.int (a + b)) σ) : O2 c n (binaryOp .Add) Rep (.int a) (.int b) σ K := fun A kp st h tk u v r s p p' => by
  cases p; cases p'; exact wpAny_add_int (pc_end s (.int _ _) q)
theorem O_sub {a b : Int} {K : V → Store → Prop} (q : K (.int (a - b)) σ) : O2 c n (binaryOp .Sub) Rep (.int a) (.int b) σ K := fun A kp st h tk u v r s p p' => by
  cases p; cases p'; exact sub_int (pc_end s (.int _ _) q)
theorem O_mod {a b : Int} {K : V → Store → Prop} (hb : 0 < b) (q : K (.int (a % b)) σ) : O2 c n (binaryOp .Mod) Rep (.int a) (.int b) σ K := fun A kp st h tk u v r s p p' => by
  cases p; cases p'
  refine mod_int' (by omega) ?_
  rw [Int.fmod_eq_emod_of_nonneg _ (by omega)]
  exact pc_end s (.int _ _) q
theorem O_div {a b : Int} {K : V → Store → Prop} (hb : 0 < b) (hs : b < 1073741824) (q : K (.int (a / b)) σ) : O2 c n (binaryOp .FloorDiv) Rep (.int a) (.int b) σ K := fun A kp st h tk u v r s p p' => by
  cases p; cases p'
  refine floordiv_int (by omega) ?_ (.inl (PyProof.noPylong_small (by omega)))
  rw [Int.fdiv_eq_ediv_of_nonneg _ (by omega)]
  exact pc_end s (.int _ _) q
theorem O_lt {a b : Int} {K : V → Store → Prop} (q : K (.bool (decide (a < b))) σ) : O2 c n (compareOp .Lt) Rep (.int a) (.int b) σ K := fun A kp st h tk u v r s p p' => by
  cases p; cases p'; exact wpAny_lt_int (pc_end s (.bool _) q)
theorem O_ge {a b : Int} {K : V → Store → Prop} (q : K (.bool (decide (b ≤ a))) σ) : O2 c n (compareOp .GtE) Rep (.int a) (.int b) σ K := fun A kp st h tk u v r s p p' => by
  cases p; cases p'; exact ge_int (pc_end s (.bool _) q)

theorem O_addTup {l l' : List V} {K : V → Store → Prop} (hl : l.length + l'.length ≤ 1000) (q : K (.tup (l ++ l')) σ) : O2 c n (binaryOp .Add) Rep (.tup l) (.tup l') σ K := fun A kp st h tk u v r s p p' => by
  have p0 := p
  have p0' := p'
  cases p with
  | @tup _ a o vs m ho hc hd rr =>
  cases p' with
  | @tup _ b o' vs' m' ho' hc' hd' rr' =>
    obtain ⟨cl, dd, dat, sl⟩ := o
    obtain ⟨cl', dd', dat', sl'⟩ := o'
    dsimp only at hc hd hc' hd'
    subst hc hd hc' hd'
    have g1 := s.kp_ok _ _ ho
    have g2 := s.kp_ok _ _ ho'
    have len := rr.length
    have len' := rr'.length
    by_cases e1 : vs.toArray.isEmpty = true
    · refine concat_meets ⟨_, g1, rfl⟩ ⟨_, g2, rfl⟩ noFill_tuple_add seq_tuple_add F.slot_tuple_add F.entry_tuple_add (F.args_tuple_add_2 _ _) (tuple_addW0 a b _ _ m m' dd dd' sl sl' e1) ⟨g1, g2, ?_⟩
      have : l = [] := by cases vs with | nil => cases rr; rfl | cons _ _ => simp at e1
      subst this
      exact pc_end s p0' q
    · by_cases e2 : vs'.toArray.isEmpty = true
      · refine concat_meets ⟨_, g1, rfl⟩ ⟨_, g2, rfl⟩ noFill_tuple_add seq_tuple_add F.slot_tuple_add F.entry_tuple_add (F.args_tuple_add_2 _ _) (tuple_addW1 a b _ _ m m' dd dd' sl sl' e1 e2) ⟨g1, g2, ?_⟩
        have : l' = [] := by cases vs' with | nil => cases rr'; rfl | cons _ _ => simp at e2
        subst this
        rw [List.append_nil] at q
        exact pc_end s p0 q
      · refine concat_meets ⟨_, g1, rfl⟩ ⟨_, g2, rfl⟩ noFill_tuple_add seq_tuple_add F.slot_tuple_add F.entry_tuple_add (F.args_tuple_add_2 _ _) (tuple_addW2 a b _ _ m m' dd dd' sl sl' e1 e2 (by rw [List.size_toArray, List.size_toArray, sizeLine_eq]; omega)) ⟨g1, g2, ?_⟩
        exact ⟨_, _, σ, _, tk, rfl, le_put s.new.1, .tup (n := 0) (put_self _ _ _) rfl (by simp) ((rr.append rr').mono (le_put s.new.1)), s.kpush rfl, q⟩
theorem O_item_tup {e i : Expr} {l : List V} {k : Int} {x : V} {K : V → Store → Prop} (h0 : 0 ≤ k) (hl : l.length ≤ 1000) (hx : l[k.toNat]? = some x) (q : K x σ)
    (hs : ∀ a k t, subscripted i false (.ref a) (.int k t) = operate [.ref a, .int k t] (getItem (.ref a) (.int k t))) : O2 c n (subscriptTail e i) Rep (.tup l) (.int k) σ K := fun A kp st h tk u v r s p p' => by
  cases p' with
  | int _ t =>
  cases p with
  | @tup _ a o vs m ho hc hd rr =>
    obtain ⟨v, e1, rv⟩ := rr.get hx
    have hlt : k.toNat < l.length := (List.getElem?_eq_some_iff.mp hx).1
    have len := rr.length
    exact item_tupleT (l := vs) ⟨_, s.kp_ok _ _ ho, hc, m, hd⟩ (by omega) (by omega) (seqIndex_of h0 (by omega)) e1 (pc_end s rv q) (hs _ _ _)
theorem O_item_flst {e i : Expr} {l : List V} {k : Int} {x : V} {K : V → Store → Prop} (h0 : 0 ≤ k) (hl : l.length ≤ 1000) (hx : l[k.toNat]? = some x) (q : K x σ)
    (hs : ∀ a k t, subscripted i false (.ref a) (.int k t) = operate [.ref a, .int k t] (getItem (.ref a) (.int k t))) : O2 c n (subscriptTail e i) Rep (.flst l) (.int k) σ K := fun A kp st h tk u v r s p p' => by
  cases p' with
  | int _ t =>
  cases p with
  | @flst _ a o vs m ho hc hd rr =>
    obtain ⟨v, e1, rv⟩ := rr.get hx
    have hlt : k.toNat < l.length := (List.getElem?_eq_some_iff.mp hx).1
    have hL : h.IsList a vs.toArray := ⟨_, s.kp_ok _ _ ho, hc, m, hd⟩
    exact tail_any hL.typeIs slot_list_getitem.lookup (wpAny_getItem_list hL h0 (by omega) (by simpa using e1) (pc_end s rv q)) (hs _ _ _)
theorem key_ref {g : Lk} {l : List V} {v : Value} (p : Rep g (.tup l) v) : ∃ a, v = .ref a := by cases p; exact ⟨_, rfl⟩
theorem keyIs {kp st : Lk} {h : Heap} {k : V} {a : Addr} (s : SatC c kp st σ h) (p : Rep kp k (.ref a)) (hk : k.flat 8 = true) : KeyIs h (nrm k.py) a := by
  obtain ⟨⟨as, q⟩, _⟩ := p.reads s.kp_ok 8 hk
  exact ⟨_, as, q, p.okd 8 hk, rfl⟩
theorem O_item_dict {e i : Expr} {a : Addr} {es : List (V × V)} {l : List V} {x : V} {K : V → Store → Prop} (ha : σ a = some (.dict es)) (hk : (V.tup l).flat 8 = true) (hx : dget es (.tup l) = some x) (q : K x σ)
    (hs : ∀ a b, subscripted i false (.ref a) (.ref b) = operate [.ref a, .ref b] (getItem (.ref a) (.ref b))) : O2 c n (subscriptTail e i) Rep (.ref a) (.tup l) σ K := fun A kp st h tk u v r s p p' => by
  cases p
  obtain ⟨b, rfl⟩ := key_ref p'
  obtain ⟨xs, hD, rx⟩ := s.getDict ha
  obtain ⟨d, w, e1, rw'⟩ := (rx.at p' hk).2 x hx
  exact tail_any hD.typeIs slot_dict_getitem.lookup (wpAny_getItem_heap (by show A.units + 1 + 16 < cLine; have := r.2.2; omega) (keyIs s p' hk) hD e1 (pc_end s rw' q)) (hs _ _)
theorem O_notIn_dict {a : Addr} {es : List (V × V)} {l : List V} {K : V → Store → Prop} (ha : σ a = some (.dict es)) (hk : (V.tup l).flat 8 = true) (q : K (.bool (!(dget es (.tup l)).isSome)) σ) : O2 c n (compareOp .NotIn) Rep (.tup l) (.ref a) σ K := fun A kp st h tk u v r s p p' => by
  cases p'
  obtain ⟨b, rfl⟩ := key_ref p
  obtain ⟨xs, hD, rx⟩ := s.getDict ha
  have hin := wpAny_in_heap (E := NoE) (s := S c.s₀ h tk) (Q := fun v s' => v = .bool (dget es (.tup l)).isSome → PC c st kp Rep K (.bool (!(dget es (.tup l)).isSome)) s') (A := A) (by show A.units + 1 + 16 < cLine; have := r.2.2; omega) (keyIs s p hk) (s.noSys ha) hD (fun _ => pc_end s (.bool _) q)
  have h2 : wpAny c.M A (contains (.ref a) (.ref b)) (fun x s' => Value.bool x = .bool (dget es (.tup l)).isSome → PC c st kp Rep K (.bool (!(dget es (.tup l)).isSome)) s') NoE (S c.s₀ h tk) := wpAny_unbind (f := fun x => Value.bool x) hin
  have hin' := wpAny_in_heap (E := NoE) (s := S c.s₀ h tk) (Q := fun v s' => v = .bool (dget es (.tup l)).isSome ∧ PC c st kp Rep K (.bool (!(dget es (.tup l)).isSome)) s') (A := A) (by show A.units + 1 + 16 < cLine; have := r.2.2; omega) (keyIs s p hk) (s.noSys ha) hD ⟨by rw [rx.some p hk], pc_end s (.bool _) q⟩
  have h3 : wpAny c.M A (contains (.ref a) (.ref b)) (fun x s' => Value.bool x = .bool (dget es (.tup l)).isSome ∧ PC c st kp Rep K (.bool (!(dget es (.tup l)).isSome)) s') NoE (S c.s₀ h tk) := wpAny_unbind (f := fun x => Value.bool x) hin'
  show wpAny _ _ (contains (.ref a) (.ref b) >>= fun x => pure (Value.bool (!x))) _ _ _
  refine wpAny_bind (wpAny_mono h3 (fun x s' z => wpAny_pure ?_) fun _ _ e => e)
  have e1 : x = (dget es (.tup l)).isSome := by have := z.1; injection this
  rw [e1]; exact z.2

theorem O_setitem {a : Addr} {es : List (V × V)} {l : List V} {x : V} {K : Unit → Store → Prop} (ha : σ a = some (.dict es)) (hk : (V.tup l).flat 8 = true) (hl : es.length ≤ 1000) (q : K () (put σ a (.dict (dput es (.tup l) x)))) : O3 c n setItem Same (.ref a) (.tup l) x σ K := fun A kp st h tk u v t r s p p' px => by
  cases p
  obtain ⟨b, rfl⟩ := key_ref p'
  obtain ⟨xs, hD, rx⟩ := s.getDict ha
  have hlen : xs.length = es.length := by have := congrArg List.length rx.fst; simpa using this
  refine wpAny_setItem_heap (by show A.units + 1 + 16 < cLine; have := r.2.2; omega) (keyIs s p' hk) hD (fun h' hD' hs => ?_) (by rw [sizeLine_eq]; omega)
  obtain ⟨o, en, ep, ho, hE, hd, he, hks, hnd⟩ := hD'
  have hnd0 : (xs.map (·.1)).Nodup := by obtain ⟨_, _, _, _, _, _, _, _, z⟩ := hD; exact z
  refine ⟨(), kp, _, h', _, rfl, Le.refl _, rfl, s.upd (y := .dict (dput es (.tup l) x)) ha hs ho ⟨_, ep, ?_, storedH_rep p' hk px rx hnd0, hnd⟩, q⟩
  obtain ⟨oc, od, oda, osl⟩ := o
  obtain ⟨h1, h2, h3⟩ := hE
  dsimp only at h1 h2 h3 hd
  subst h1 h2 h3 hd
  unfold dob
  have : (List.map (entryOfKey (Mine.hk c.prog c.w)) (storedH xs (nrm (V.tup l).py) b t)).toArray = en := by rw [← he]
  rw [this]

end
end
section
noncomputable def DRaw (h : Heap) (d : Addr) (es : Array DictEntry) (ep : Nat) : Prop := ∃ o, h.get? d = some o ∧ o.ExactDict ∧ o.data = .dict es ep
theorem DRaw.typeIs {s : Shared} {d : Addr} {es : Array DictEntry} {ep : Nat} (x : DRaw s.heap d es ep) : s.TypeIs (.ref d) "dict" := let ⟨o, ho, hc, _⟩ := x; ⟨o, ho, hc.1⟩
theorem DRaw.at {h h' : Heap} {d : Addr} {es : Array DictEntry} {ep : Nat} (x : DRaw h d es ep) (k : ∀ o, h.get? d = some o → h'.get? d = some o) : DRaw h' d es ep := let ⟨o, ho, r⟩ := x; ⟨o, k o ho, r⟩
theorem DRaw.lt {h : Heap} {d : Addr} {es : Array DictEntry} {ep : Nat} (x : DRaw h d es ep) : d < h.objs.size := let ⟨_, ho, _⟩ := x; Heap.lt_size ho
noncomputable def KIt (h : Heap) (it d : Addr) (i n ep : Nat) : Prop := ∃ o, h.get? it = some o ∧ o.cls = .type "dict_keyiterator" ∧ o.data = .fields #[.ref d, .int i 0, .int n 0, .int ep 0]
noncomputable def VIt (h : Heap) (it d : Addr) (i n ep : Nat) : Prop := ∃ o, h.get? it = some o ∧ o.cls = .type "dict_valueiterator" ∧ o.data = .fields #[.ref d, .int i 0, .int n 0, .int ep 0]
theorem KIt.typeIs {s : Shared} {it d i n ep} (x : KIt s.heap it d i n ep) : s.TypeIs (.ref it) "dict_keyiterator" := let ⟨o, ho, hc, _⟩ := x; ⟨o, ho, hc⟩
theorem VIt.typeIs {s : Shared} {it d i n ep} (x : VIt s.heap it d i n ep) : s.TypeIs (.ref it) "dict_valueiterator" := let ⟨o, ho, hc, _⟩ := x; ⟨o, ho, hc⟩
theorem KIt.at {h h' : Heap} {it d i n ep} (x : KIt h it d i n ep) (k : ∀ o, h.get? it = some o → h'.get? it = some o) : KIt h' it d i n ep := let ⟨o, ho, r⟩ := x; ⟨o, k o ho, r⟩
theorem VIt.at {h h' : Heap} {it d i n ep} (x : VIt h it d i n ep) (k : ∀ o, h.get? it = some o → h'.get? it = some o) : VIt h' it d i n ep := let ⟨o, ho, r⟩ := x; ⟨o, k o ho, r⟩
noncomputable def View (T : String) (h : Heap) (v d : Addr) : Prop := ∃ o, h.get? v = some o ∧ o.cls = .type T ∧ o.data = .fields #[.ref d]
theorem View.typeIs {T : String} {s : Shared} {v d} (x : View T s.heap v d) : s.TypeIs (.ref v) T := let ⟨o, ho, hc, _⟩ := x; ⟨o, ho, hc⟩
theorem View.at {T : String} {h h' : Heap} {v d} (x : View T h v d) (k : ∀ o, h.get? v = some o → h'.get? v = some o) : View T h' v d := let ⟨o, ho, r⟩ := x; ⟨o, k o ho, r⟩

section
variable {prog : Program} {w : World} {A : Around} {E : Value → Shared → Prop} {s : Shared}

theorem iter_dict {d : Addr} {es : Array DictEntry} {ep : Nat} {Q : Value → Shared → Prop} (hd : (d == sysModules) = false) (hm : DRaw s.heap d es ep)
    (hQ : Q (.ref s.heap.objs.size) { s with heap := s.heap.push { cls := .type "dict_keyiterator", data := .fields #[.ref d, .int 0 0, .int es.size 0, .int ep 0] } }) : wpAny (model prog w) A (pyIter (.ref d)) Q E s := by
  obtain ⟨o, ho, hc, hdat⟩ := id hm
  have hT := hm.typeIs
  refine wpAny_pyIter_slot hT PySem.F.slot_dict_iter (wpAny_call_entry PySem.F.slot_dict_iter hT PySem.F.entry_dict_iter ?_ (PySem.F.args_dict_iter_1 _))
  unfold Builtin.«dict.__iter__»
  refine wpAny_bind ?_
  unfold Builtin.Dict.dictSlotNone
  refine wpAny_bind (wpAny_notOrdered_dict hT ?_)
  show wpAny _ _ (pure (Value.ref d)) _ _ s
  refine wpAny_pure ?_
  show wpAny _ _ (Builtin.Dict.showsAll d >>= _) _ _ s
  unfold Builtin.Dict.showsAll
  rw [if_neg (by rw [hd]; exact Bool.false_ne_true)]
  refine wpAny_bind (wpAny_pure ?_)
  refine wpAny_bind (wpAny_dictEntries ho hdat ?_)
  refine wpAny_bind (wpAny_dictEpoch ho hdat ?_)
  refine wpAny_bind (wpAny_newObj_type (wpAny_pure ⟨_, rfl, "dict_keyiterator", _, ⟨_, Heap.get?_push_size _ rfl, rfl⟩, PySem.F.slot_dict_keyiterator_next.lookup, ?_⟩))
  simpa [rawInt] using hQ

theorem iter_keys {v d : Addr} {es : Array DictEntry} {ep : Nat} {Q : Value → Shared → Prop} (hv : View "dict_keys" s.heap v d) (hm : DRaw s.heap d es ep)
    (hQ : Q (.ref s.heap.objs.size) { s with heap := s.heap.push { cls := .type "dict_keyiterator", data := .fields #[.ref d, .int 0 0, .int es.size 0, .int ep 0] } }) : wpAny (model prog w) A (pyIter (.ref v)) Q E s := by
  obtain ⟨ov, hov, hcv, hdv⟩ := id hv
  obtain ⟨o, ho, hc, hdat⟩ := id hm
  refine wpAny_pyIter_slot hv.typeIs kdl_slot_keys_iter (wpAny_call_entry kdl_slot_keys_iter hv.typeIs kdl_entry_keys_iter ?_ (kdl_args_keys_iter _))
  unfold Builtin.«dict_keys.__iter__»
  refine wpAny_bind (wpAny_pure ?_)
  refine wpAny_bind ?_
  unfold Builtin.Dict_items.dictOf
  refine wpAny_bind (wpAny_field hov hdv (x := .ref d) rfl (wpAny_pure ?_))
  refine wpAny_bind ?_
  unfold Builtin.Dict_items.newIterator
  refine wpAny_bind (wpAny_dictEntries ho hdat ?_)
  refine wpAny_bind (wpAny_dictEpoch ho hdat ?_)
  have hown : Builtin.Dict_items.ownsTuple "dict_keyiterator" = false := by decide
  simp only [hown, Bool.false_eq_true, if_false]
  refine wpAny_newObj_type (wpAny_pure ⟨_, rfl, "dict_keyiterator", _, ⟨_, Heap.get?_push_size _ rfl, rfl⟩, PySem.F.slot_dict_keyiterator_next.lookup, ?_⟩)
  simpa [rawInt] using hQ

theorem iter_values {v d : Addr} {es : Array DictEntry} {ep : Nat} {Q : Value → Shared → Prop} (hv : View "dict_values" s.heap v d) (hm : DRaw s.heap d es ep)
    (hQ : Q (.ref s.heap.objs.size) { s with heap := s.heap.push { cls := .type "dict_valueiterator", data := .fields #[.ref d, .int 0 0, .int es.size 0, .int ep 0] } }) : wpAny (model prog w) A (pyIter (.ref v)) Q E s := by
  obtain ⟨ov, hov, hcv, hdv⟩ := id hv
  obtain ⟨o, ho, hc, hdat⟩ := id hm
  refine wpAny_pyIter_slot hv.typeIs PySem.F.slot_dict_values_iter (wpAny_call_entry PySem.F.slot_dict_values_iter hv.typeIs PySem.F.entry_dict_values_iter ?_ (PySem.F.args_dict_values_iter_1 _))
  unfold Builtin.«dict_values.__iter__»
  refine wpAny_bind (wpAny_pure ?_)
  refine wpAny_bind ?_
  unfold Builtin.Dict_items.dictOf
  refine wpAny_bind (wpAny_field hov hdv (x := .ref d) rfl (wpAny_pure ?_))
  refine wpAny_bind ?_
  unfold Builtin.Dict_items.newIterator
  refine wpAny_bind (wpAny_dictEntries ho hdat ?_)
  refine wpAny_bind (wpAny_dictEpoch ho hdat ?_)
  have hown : Builtin.Dict_items.ownsTuple "dict_valueiterator" = false := by decide
  simp only [hown, Bool.false_eq_true, if_false]
  refine wpAny_newObj_type (wpAny_pure ⟨_, rfl, "dict_valueiterator", _, ⟨_, Heap.get?_push_size _ rfl, rfl⟩, PySem.F.slot_dict_valueiterator_next.lookup, ?_⟩)
  simpa [rawInt] using hQ

theorem iter_items {v d : Addr} {es : Array DictEntry} {ep : Nat} {Q : Value → Shared → Prop} (hv : View "dict_items" s.heap v d) (hm : DRaw s.heap d es ep)
    (hQ : Q (.ref s.heap.objs.size) { s with heap := s.heap.push { cls := .type "dict_itemiterator", data := .fields #[.none, .bool false, .ref d, .int 0 0, .int es.size 0, .int ep 0, .none, .none] } }) : wpAny (model prog w) A (pyIter (.ref v)) Q E s := by
  obtain ⟨ov, hov, hcv, hdv⟩ := id hv
  obtain ⟨o, ho, hc, hdat⟩ := id hm
  refine wpAny_pyIter_slot hv.typeIs PySem.F.slot_dict_items_iter (wpAny_call_entry PySem.F.slot_dict_items_iter hv.typeIs PySem.F.entry_dict_items_iter ?_ (PySem.F.args_dict_items_iter_1 _))
  unfold Builtin.«dict_items.__iter__»
  refine wpAny_bind (wpAny_pure ?_)
  refine wpAny_bind ?_
  unfold Builtin.Dict_items.dictOf
  refine wpAny_bind (wpAny_field hov hdv (x := .ref d) rfl (wpAny_pure ?_))
  refine wpAny_bind ?_
  unfold Builtin.Dict_items.newIterator
  refine wpAny_bind (wpAny_dictEntries ho hdat ?_)
  refine wpAny_bind (wpAny_dictEpoch ho hdat ?_)
  have hown : Builtin.Dict_items.ownsTuple "dict_itemiterator" = true := by decide
  simp only [hown, if_true]
  refine wpAny_newObj_type (wpAny_pure ⟨_, rfl, "dict_itemiterator", _, ⟨_, Heap.get?_push_size _ rfl, rfl⟩, PySem.F.slot_dict_itemiterator_next.lookup, ?_⟩)
    (by simp only [sizeOk, Builtin.Dict_items.ownedTupleFields, List.size_toArray, List.length_append, List.length_cons, List.length_nil, sizeLine_eq]; omega)
  simpa [rawInt, Builtin.Dict_items.ownedTupleFields] using hQ

theorem next_KIt {it d : Addr} {i ep : Nat} {es : Array DictEntry} {Q : Option Value → Shared → Prop} (hit : KIt s.heap it d i es.size ep) (hm : DRaw s.heap d es ep) (hlt : i < es.size)
    (hQ : ∀ h', KIt h' it d (i + 1) es.size ep → Heap.SameBut it s.heap h' → Q (some es[i].key) { s with heap := h' }) : wpAny (model prog w) A (pyNext (.ref it)) Q E s := by
  obtain ⟨o, ho, hc, hd⟩ := id hit
  obtain ⟨od, hod, hcd, hdd⟩ := id hm
  have hT := hit.typeIs
  unfold pyNext
  refine wpAny_bind (wpAny_attempt (wpAny_callSpecial?_slot (name := Str.ofString "__next__") hT PySem.F.slot_dict_keyiterator_next
    (wpAny_call_entry PySem.F.slot_dict_keyiterator_next hT PySem.F.entry_dict_keyiterator_next ?_ (PySem.F.args_dict_keyiterator_next_1 _))))
  refine wpAny_bind (wpAny_pure ?_)
  refine wpAny_bind ?_
  refine wpAny_bind ?_
  refine wpAny_bind (wpAny_typeNameOfWhole_keyiter hT (wpAny_pure ?_))
  refine wpAny_bind (wpAny_fieldsOf ho hd ?_)
  have hown : Builtin.Dict_items.ownsTuple "dict_keyiterator" = false := by decide
  simp only [hown, Bool.false_eq_true, if_false, if_true]
  show wpAny _ _ (if (Value.ref d == Value.none) = true then _ else _) _ _ _
  rw [if_neg (show ¬ ((Value.ref d == Value.none) = true) from Bool.false_ne_true)]
  refine wpAny_bind (wpAny_pure ?_)
  refine wpAny_bind (wpAny_dictEntries hod hdd ?_)
  rw [if_neg (by simp)]
  refine wpAny_bind (wpAny_pure ?_)
  refine wpAny_bind (wpAny_dictEpoch hod hdd ?_)
  rw [if_neg (by simp)]
  refine wpAny_pure ?_
  simp only [show ¬ ((i : Int) < 0) from by omega, if_false, Int.toNat_natCast, Array.getElem?_eq_getElem hlt]
  refine wpAny_bind ?_
  refine wpAny_bind (wpAny_typeNameOfWhole_keyiter hT (wpAny_pure ?_))
  refine wpAny_bind (wpAny_isOneOf_keyiter hT ?_)
  show wpAny _ _ (setField (.ref it) 1 (rawInt ((i : Int) + 1)) >>= _) _ _ s
  refine wpAny_bind (wpAny_setField ho hd (by simp) ?_)
  have hit' : KIt (s.heap.update it (Obj.mapFields (·.setIfInBounds 1 (rawInt ((i : Int) + 1))))) it d (i + 1) es.size ep :=
    ⟨_, Heap.get?_update_self _ ho (Obj.isFreed_of_fields (Obj.data_mapFields hd _)), (Obj.cls_mapFields ..).trans hc, by rw [Obj.data_mapFields hd]; simp [rawInt]⟩
  refine wpAny_bind (wpAny_holding ?_)
  refine wpAny_bind (wpAny_isOneOf_keyiter (s := { s with heap := s.heap.update it (Obj.mapFields (·.setIfInBounds 1 (rawInt ((i : Int) + 1)))) }) hit'.typeIs ?_)
  show wpAny _ _ (pure es[i].key) _ _ _
  exact wpAny_pure (wpAny_pure ⟨_, rfl, wpAny_pure (hQ _ hit' (Heap.SameBut.update ..))⟩)

theorem end_KIt {it d : Addr} {ep : Nat} {es : Array DictEntry} {Q : Option Value → Shared → Prop} (hh : A.handled = none) (hit : KIt s.heap it d es.size es.size ep) (hm : DRaw s.heap d es ep)
    (hQ : ∀ h', Heap.ExtBut it s.heap h' → Q none { s with heap := h' }) : wpAny (model prog w) A (pyNext (.ref it)) Q E s := by
  obtain ⟨o, ho, hc, hd⟩ := id hit
  have hT := hit.typeIs
  obtain ⟨od, hod, hcd, hdd⟩ := id hm
  unfold pyNext
  refine wpAny_bind (wpAny_attempt (wpAny_callSpecial?_slot (name := Str.ofString "__next__") hT PySem.F.slot_dict_keyiterator_next
    (wpAny_call_entry PySem.F.slot_dict_keyiterator_next hT PySem.F.entry_dict_keyiterator_next ?_ (PySem.F.args_dict_keyiterator_next_1 _))))
  refine wpAny_bind (wpAny_pure ?_)
  refine wpAny_bind ?_
  refine wpAny_bind ?_
  refine wpAny_bind (wpAny_typeNameOfWhole_keyiter hT (wpAny_pure ?_))
  refine wpAny_bind (wpAny_fieldsOf ho hd ?_)
  have hown : Builtin.Dict_items.ownsTuple "dict_keyiterator" = false := by decide
  simp only [hown, Bool.false_eq_true, if_false, if_true]
  show wpAny _ _ (if (Value.ref d == Value.none) = true then _ else _) _ _ _
  rw [if_neg (show ¬ ((Value.ref d == Value.none) = true) from Bool.false_ne_true)]
  refine wpAny_bind (wpAny_pure ?_)
  refine wpAny_bind (wpAny_dictEntries hod hdd ?_)
  rw [if_neg (by simp)]
  refine wpAny_bind (wpAny_pure ?_)
  refine wpAny_bind (wpAny_dictEpoch hod hdd ?_)
  rw [if_neg (by simp)]
  refine wpAny_pure ?_
  simp only [show ¬ (((es.size : Nat) : Int) < 0) from by omega, if_false, Int.toNat_natCast, Array.getElem?_eq_none (Nat.le_refl es.size)]
  refine wpAny_bind ?_
  refine wpAny_bind (wpAny_typeNameOfWhole_keyiter hT (wpAny_pure ?_))
  show wpAny _ _ (setField (.ref it) 0 .none >>= _) _ _ s
  refine wpAny_bind (wpAny_setField ho hd (by simp) ?_)
  show wpAny _ _ (newExc (.type "StopIteration") [] >>= _) _ _ _
  refine wpAny_bind ?_
  simp only [newExc, newTuple]
  refine wpAny_bind (wpAny_newObj_type ?_ (by size_fits))
  refine wpAny_bind (m := firstArgMember _ _) (wpAny_of_eq (a := Value.none) (by first | rfl | (simp only [firstArgMember]; rfl)) ?_)
  refine wpAny_newObj_type ?_ (by size_fits)
  simp only [raiseNew]
  refine wpAny_bind (wpAny_handled ?_)
  rw [show A.in1.handled = none from hh]
  refine wpAny_bind (wpAny_pure (wpAny_throw ?_))
  refine wpAny_bind (wpAny_isInstance (T := "StopIteration") (b := true) ⟨_, Heap.get?_push_size _ rfl, rfl⟩ isSubtype_stop ?_)
  exact wpAny_pure (hQ _ (((Heap.SameBut.update ..).extBut.push _).push _))

theorem next_VIt {it d : Addr} {i ep : Nat} {es : Array DictEntry} {Q : Option Value → Shared → Prop} (hit : VIt s.heap it d i es.size ep) (hm : DRaw s.heap d es ep) (hlt : i < es.size)
    (hQ : ∀ h', VIt h' it d (i + 1) es.size ep → Heap.SameBut it s.heap h' → Q (some es[i].val) { s with heap := h' }) : wpAny (model prog w) A (pyNext (.ref it)) Q E s := by
  obtain ⟨o, ho, hc, hd⟩ := id hit
  obtain ⟨od, hod, hcd, hdd⟩ := id hm
  have hT := hit.typeIs
  unfold pyNext
  refine wpAny_bind (wpAny_attempt (wpAny_callSpecial?_slot (name := Str.ofString "__next__") hT PySem.F.slot_dict_valueiterator_next
    (wpAny_call_entry PySem.F.slot_dict_valueiterator_next hT PySem.F.entry_dict_valueiterator_next ?_ (PySem.F.args_dict_valueiterator_next_1 _))))
  refine wpAny_bind (wpAny_pure ?_)
  refine wpAny_bind ?_
  refine wpAny_bind ?_
  refine wpAny_bind (wpAny_typeNameOfWhole_valiter hT (wpAny_pure ?_))
  refine wpAny_bind (wpAny_fieldsOf ho hd ?_)
  have hown : Builtin.Dict_items.ownsTuple "dict_valueiterator" = false := by decide
  simp only [hown, Bool.false_eq_true, if_false, if_true]
  show wpAny _ _ (if (Value.ref d == Value.none) = true then _ else _) _ _ _
  rw [if_neg (show ¬ ((Value.ref d == Value.none) = true) from Bool.false_ne_true)]
  refine wpAny_bind (wpAny_pure ?_)
  refine wpAny_bind (wpAny_dictEntries hod hdd ?_)
  rw [if_neg (by simp)]
  refine wpAny_bind (wpAny_pure ?_)
  refine wpAny_bind (wpAny_dictEpoch hod hdd ?_)
  rw [if_neg (by simp)]
  refine wpAny_pure ?_
  simp only [show ¬ ((i : Int) < 0) from by omega, if_false, Int.toNat_natCast, Array.getElem?_eq_getElem hlt]
  refine wpAny_bind ?_
  refine wpAny_bind (wpAny_typeNameOfWhole_valiter hT (wpAny_pure ?_))
  refine wpAny_bind (wpAny_isOneOf_valiter hT ?_)
  show wpAny _ _ (setField (.ref it) 1 (rawInt ((i : Int) + 1)) >>= _) _ _ s
  refine wpAny_bind (wpAny_setField ho hd (by simp) ?_)
  have hit' : VIt (s.heap.update it (Obj.mapFields (·.setIfInBounds 1 (rawInt ((i : Int) + 1))))) it d (i + 1) es.size ep :=
    ⟨_, Heap.get?_update_self _ ho (Obj.isFreed_of_fields (Obj.data_mapFields hd _)), (Obj.cls_mapFields ..).trans hc, by rw [Obj.data_mapFields hd]; simp [rawInt]⟩
  refine wpAny_bind (wpAny_holding ?_)
  refine wpAny_bind (wpAny_isOneOf_valiter (s := { s with heap := s.heap.update it (Obj.mapFields (·.setIfInBounds 1 (rawInt ((i : Int) + 1)))) }) hit'.typeIs ?_)
  refine wpAny_bind (wpAny_isOneOf_valiter (s := { s with heap := s.heap.update it (Obj.mapFields (·.setIfInBounds 1 (rawInt ((i : Int) + 1)))) }) hit'.typeIs ?_)
  show wpAny _ _ (pure es[i].val) _ _ _
  exact wpAny_pure (wpAny_pure ⟨_, rfl, wpAny_pure (hQ _ hit' (Heap.SameBut.update ..))⟩)

theorem end_VIt {it d : Addr} {ep : Nat} {es : Array DictEntry} {Q : Option Value → Shared → Prop} (hh : A.handled = none) (hit : VIt s.heap it d es.size es.size ep) (hm : DRaw s.heap d es ep)
    (hQ : ∀ h', Heap.ExtBut it s.heap h' → Q none { s with heap := h' }) : wpAny (model prog w) A (pyNext (.ref it)) Q E s := by
  obtain ⟨o, ho, hc, hd⟩ := id hit
  have hT := hit.typeIs
  obtain ⟨od, hod, hcd, hdd⟩ := id hm
  unfold pyNext
  refine wpAny_bind (wpAny_attempt (wpAny_callSpecial?_slot (name := Str.ofString "__next__") hT PySem.F.slot_dict_valueiterator_next
    (wpAny_call_entry PySem.F.slot_dict_valueiterator_next hT PySem.F.entry_dict_valueiterator_next ?_ (PySem.F.args_dict_valueiterator_next_1 _))))
  refine wpAny_bind (wpAny_pure ?_)
  refine wpAny_bind ?_
  refine wpAny_bind ?_
  refine wpAny_bind (wpAny_typeNameOfWhole_valiter hT (wpAny_pure ?_))
  refine wpAny_bind (wpAny_fieldsOf ho hd ?_)
  have hown : Builtin.Dict_items.ownsTuple "dict_valueiterator" = false := by decide
  simp only [hown, Bool.false_eq_true, if_false, if_true]
  show wpAny _ _ (if (Value.ref d == Value.none) = true then _ else _) _ _ _
  rw [if_neg (show ¬ ((Value.ref d == Value.none) = true) from Bool.false_ne_true)]
  refine wpAny_bind (wpAny_pure ?_)
  refine wpAny_bind (wpAny_dictEntries hod hdd ?_)
  rw [if_neg (by simp)]
  refine wpAny_bind (wpAny_pure ?_)
  refine wpAny_bind (wpAny_dictEpoch hod hdd ?_)
  rw [if_neg (by simp)]
  refine wpAny_pure ?_
  simp only [show ¬ (((es.size : Nat) : Int) < 0) from by omega, if_false, Int.toNat_natCast, Array.getElem?_eq_none (Nat.le_refl es.size)]
  refine wpAny_bind ?_
  refine wpAny_bind (wpAny_typeNameOfWhole_valiter hT (wpAny_pure ?_))
  show wpAny _ _ (setField (.ref it) 0 .none >>= _) _ _ s
  refine wpAny_bind (wpAny_setField ho hd (by simp) ?_)
  show wpAny _ _ (newExc (.type "StopIteration") [] >>= _) _ _ _
  refine wpAny_bind ?_
  simp only [newExc, newTuple]
  refine wpAny_bind (wpAny_newObj_type ?_ (by size_fits))
  refine wpAny_bind (m := firstArgMember _ _) (wpAny_of_eq (a := Value.none) (by first | rfl | (simp only [firstArgMember]; rfl)) ?_)
  refine wpAny_newObj_type ?_ (by size_fits)
  simp only [raiseNew]
  refine wpAny_bind (wpAny_handled ?_)
  rw [show A.in1.handled = none from hh]
  refine wpAny_bind (wpAny_pure (wpAny_throw ?_))
  refine wpAny_bind (wpAny_isInstance (T := "StopIteration") (b := true) ⟨_, Heap.get?_push_size _ rfl, rfl⟩ isSubtype_stop ?_)
  exact wpAny_pure (hQ _ (((Heap.SameBut.update ..).extBut.push _).push _))

theorem next_items {it d : Addr} {i ep : Nat} {es : Array DictEntry} {ok ov : Value} {Q : Option Value → Shared → Prop} (hit : IsItemIter s.heap it d i es.size ep ok ov) (hm : DRaw s.heap d es ep) (hlt : i < es.size)
    (hQ : ∀ h', IsItemIterOut h' it d (i + 1) es.size ep es[i].key es[i].val s.heap.objs.size → h'.get? s.heap.objs.size = some { cls := .type "tuple", data := .seq #[es[i].key, es[i].val] } → h'.objs.size = s.heap.objs.size + 1 →
      (∀ b o, b ≠ it → s.heap.get? b = some o → h'.get? b = some o) → Q (some (.ref s.heap.objs.size)) { s with heap := h' }) : wpAny (model prog w) A (pyNext (.ref it)) Q E s := by
  obtain ⟨hp, g, dr, tk, os⟩ := s
  obtain ⟨od, hod, hcd, hdd⟩ := id hm
  have hT : Shared.TypeIs ⟨hp, g, dr, tk, os⟩ (.ref it) "dict_itemiterator" := ⟨_, hit, rfl⟩
  unfold pyNext
  refine wpAny_bind (wpAny_attempt (wpAny_callSpecial?_slot (name := Str.ofString "__next__") hT PySem.F.slot_dict_itemiterator_next
    (wpAny_call_entry PySem.F.slot_dict_itemiterator_next hT PySem.F.entry_dict_itemiterator_next ?_ (PySem.F.args_dict_itemiterator_next_1 _))))
  refine wpAny_bind (wpAny_pure ?_)
  refine wpAny_bind ?_
  refine wpAny_bind ?_
  refine wpAny_bind (wpAny_typeNameOfWhole_itemiter hT (wpAny_pure ?_))
  refine wpAny_bind (wpAny_fieldsOf hit rfl ?_)
  have hown : Builtin.Dict_items.ownsTuple "dict_itemiterator" = true := by decide
  simp only [hown, Bool.false_eq_true, if_false, if_true]
  show wpAny _ _ (if (Value.ref d == Value.none) = true then _ else _) _ _ _
  rw [if_neg (show ¬ ((Value.ref d == Value.none) = true) from Bool.false_ne_true)]
  refine wpAny_bind (wpAny_pure ?_)
  refine wpAny_bind (wpAny_dictEntries hod hdd ?_)
  rw [if_neg (by simp)]
  refine wpAny_bind (wpAny_pure ?_)
  refine wpAny_bind (wpAny_dictEpoch hod hdd ?_)
  rw [if_neg (by simp)]
  refine wpAny_pure ?_
  simp only [show ¬ ((i : Int) < 0) from by omega, if_false, Int.toNat_natCast, Array.getElem?_eq_getElem hlt]
  refine wpAny_bind ?_
  refine wpAny_bind (wpAny_typeNameOfWhole_itemiter hT (wpAny_pure ?_))
  refine wpAny_bind (wpAny_isOneOf_itemiter hT ?_)
  show wpAny _ _ (setField (.ref it) 3 (rawInt ((i : Int) + 1)) >>= _) _ _ ⟨hp, g, dr, tk, os⟩
  refine wpAny_bind (wpAny_setField_rec hit (by simp) fun h₁ he₁ hs₁ => ?_)
  replace hs₁ : Heap.SameBut it hp h₁ := hs₁
  replace he₁ : IsItemIter h₁ it d (i + 1) es.size ep ok ov := by
    have e : ((i + 1 : Nat) : Int) = (i : Int) + 1 := by omega
    unfold IsItemIter; rw [e]; simpa [rawInt] using he₁
  have hT₁ : Shared.TypeIs ⟨h₁, g, dr, tk, os⟩ (.ref it) "dict_itemiterator" := ⟨_, he₁, rfl⟩
  refine wpAny_bind (wpAny_holding ?_)
  refine wpAny_bind (wpAny_isOneOf_itemiter hT₁ ?_)
  refine wpAny_bind (wpAny_isOneOf_itemiter hT₁ ?_)
  show wpAny _ _ (Builtin.Dict_items.pairFromOwner (.ref it) 6 es[i].key es[i].val) _ _ ⟨h₁, g, dr, tk, os⟩
  unfold Builtin.Dict_items.pairFromOwner
  refine wpAny_bind (wpAny_newTuple ?_)
  have he₂ : IsItemIter (h₁.push { cls := .type "tuple", data := .seq #[es[i].key, es[i].val] }) it d (i + 1) es.size ep ok ov := Heap.get?_push_of_some _ he₁
  generalize hh₂ : h₁.push { cls := .type "tuple", data := .seq #[es[i].key, es[i].val] } = h₂ at he₂
  have hz₁ : h₁.objs.size = hp.objs.size := hs₁.1
  have hil : it < hp.objs.size := Heap.lt_size hit
  have ht₂ : h₂.get? hp.objs.size = some { cls := .type "tuple", data := .seq #[es[i].key, es[i].val] } := by rw [← hh₂, ← hz₁]; exact Heap.get?_push_size _ rfl
  have hz₂ : h₂.objs.size = hp.objs.size + 1 := by rw [← hh₂, Heap.size_push, hz₁]
  have hk₂ : ∀ b o, b ≠ it → hp.get? b = some o → h₂.get? b = some o := fun b o hb e => by rw [← hh₂]; exact Heap.get?_push_of_some _ (hs₁.extBut b o hb e)
  show wpAny _ _ (Builtin.Dict_items.ownedTupleIsFree (.ref it) >>= _) _ _ ⟨h₂, g, dr, tk, os⟩
  rw [hz₁]
  clear hh₂ he₁ hs₁ hT₁ hz₁ h₁
  refine wpAny_bind ?_
  unfold Builtin.Dict_items.ownedTupleIsFree
  refine wpAny_bind (wpAny_field he₂ rfl (x := .none) rfl (wpAny_pure ?_))
  simp only [if_true]
  refine wpAny_bind (wpAny_field he₂ rfl (x := ok) rfl ?_)
  refine wpAny_bind (wpAny_field he₂ rfl (x := ov) rfl ?_)
  refine wpAny_bind (wpAny_setField_rec he₂ (by simp) fun h₃ he₃ hs₃ => ?_)
  replace hs₃ : Heap.SameBut it h₂ h₃ := hs₃
  replace he₃ : IsItemIter h₃ it d (i + 1) es.size ep es[i].key ov := he₃
  refine wpAny_bind (wpAny_setField_rec he₃ (by simp) fun h₄ he₄ hs₄ => ?_)
  replace hs₄ : Heap.SameBut it h₃ h₄ := hs₄
  replace he₄ : IsItemIter h₄ it d (i + 1) es.size ep es[i].key es[i].val := he₄
  refine wpAny_bind (wpAny_setField_rec he₄ (by simp) fun h₅ he₅ hs₅ => ?_)
  replace hs₅ : Heap.SameBut it h₄ h₅ := hs₅
  replace he₅ : IsItemIterOut h₅ it d (i + 1) es.size ep es[i].key es[i].val hp.objs.size := he₅
  refine wpAny_bind (wpAny_setField_rec he₅ (by simp) fun h₆ he₆ hs₆ => ?_)
  replace hs₆ : Heap.SameBut it h₅ h₆ := hs₆
  replace he₆ : IsItemIterOut h₆ it d (i + 1) es.size ep es[i].key es[i].val hp.objs.size := he₆
  refine wpAny_bind (wpAny_letGo (wpAny_pure (wpAny_pure ⟨_, rfl, wpAny_pure (hQ h₆ he₆ ?_ ?_ ?_)⟩)))
  · exact hs₆.extBut _ _ (Nat.ne_of_gt hil) (hs₅.extBut _ _ (Nat.ne_of_gt hil) (hs₄.extBut _ _ (Nat.ne_of_gt hil) (hs₃.extBut _ _ (Nat.ne_of_gt hil) ht₂)))
  · show h₆.objs.size = hp.objs.size + 1
    rw [hs₆.1, hs₅.1, hs₄.1, hs₃.1, hz₂]
  · exact fun b o hb e => hs₆.extBut b o hb (hs₅.extBut b o hb (hs₄.extBut b o hb (hs₃.extBut b o hb (hk₂ b o hb e))))

theorem end_items {it d : Addr} {ep : Nat} {es : Array DictEntry} {ok ov : Value} {Q : Option Value → Shared → Prop} (hh : A.handled = none) (hit : IsItemIter s.heap it d es.size es.size ep ok ov) (hm : DRaw s.heap d es ep)
    (hQ : ∀ h', Heap.ExtBut it s.heap h' → Q none { s with heap := h' }) : wpAny (model prog w) A (pyNext (.ref it)) Q E s := by
  have hT : s.TypeIs (.ref it) "dict_itemiterator" := ⟨_, hit, rfl⟩
  obtain ⟨od, hod, hcd, hdd⟩ := id hm
  unfold pyNext
  refine wpAny_bind (wpAny_attempt (wpAny_callSpecial?_slot (name := Str.ofString "__next__") hT PySem.F.slot_dict_itemiterator_next
    (wpAny_call_entry PySem.F.slot_dict_itemiterator_next hT PySem.F.entry_dict_itemiterator_next ?_ (PySem.F.args_dict_itemiterator_next_1 _))))
  refine wpAny_bind (wpAny_pure ?_)
  refine wpAny_bind ?_
  refine wpAny_bind ?_
  refine wpAny_bind (wpAny_typeNameOfWhole_itemiter hT (wpAny_pure ?_))
  refine wpAny_bind (wpAny_fieldsOf hit rfl ?_)
  have hown : Builtin.Dict_items.ownsTuple "dict_itemiterator" = true := by decide
  simp only [hown, Bool.false_eq_true, if_false, if_true]
  show wpAny _ _ (if (Value.ref d == Value.none) = true then _ else _) _ _ _
  rw [if_neg (show ¬ ((Value.ref d == Value.none) = true) from Bool.false_ne_true)]
  refine wpAny_bind (wpAny_pure ?_)
  refine wpAny_bind (wpAny_dictEntries hod hdd ?_)
  rw [if_neg (by simp)]
  refine wpAny_bind (wpAny_pure ?_)
  refine wpAny_bind (wpAny_dictEpoch hod hdd ?_)
  rw [if_neg (by simp)]
  refine wpAny_pure ?_
  simp only [show ¬ (((es.size : Nat) : Int) < 0) from by omega, if_false, Int.toNat_natCast, Array.getElem?_eq_none (Nat.le_refl es.size)]
  refine wpAny_bind ?_
  refine wpAny_bind (wpAny_typeNameOfWhole_itemiter hT (wpAny_pure ?_))
  show wpAny _ _ (setField (.ref it) 2 .none >>= _) _ _ s
  refine wpAny_bind (wpAny_setField hit rfl (by simp) ?_)
  show wpAny _ _ (newExc (.type "StopIteration") [] >>= _) _ _ _
  refine wpAny_bind ?_
  simp only [newExc, newTuple]
  refine wpAny_bind (wpAny_newObj_type ?_ (by size_fits))
  refine wpAny_bind (m := firstArgMember _ _) (wpAny_of_eq (a := Value.none) (by first | rfl | (simp only [firstArgMember]; rfl)) ?_)
  refine wpAny_newObj_type ?_ (by size_fits)
  simp only [raiseNew]
  refine wpAny_bind (wpAny_handled ?_)
  rw [show A.in1.handled = none from hh]
  refine wpAny_bind (wpAny_pure (wpAny_throw ?_))
  refine wpAny_bind (wpAny_isInstance (T := "StopIteration") (b := true) ⟨_, Heap.get?_push_size _ rfl, rfl⟩ isSubtype_stop ?_)
  exact wpAny_pure (hQ _ (((Heap.SameBut.update ..).extBut.push _).push _))


theorem self_KIt {it d : Addr} {i n ep : Nat} {Q : Value → Shared → Prop} (hit : KIt s.heap it d i n ep) (h : Q (.ref it) s) : wpAny (model prog w) A (pyIter (.ref it)) Q E s := wpAny_pyIter_keyiter hit h
theorem self_VIt {it d : Addr} {i n ep : Nat} {Q : Value → Shared → Prop} (hit : VIt s.heap it d i n ep) (h : Q (.ref it) s) : wpAny (model prog w) A (pyIter (.ref it)) Q E s := wpAny_pyIter_valiter hit h
end

section
variable {prog : Program} {w : World} {A : Around}
theorem walksKeys (hh : A.handled = none) (I d : Addr) (hne : d ≠ I) (es : Array DictEntry) (ep : Nat) :
    Walks prog w A I [I, d] [I] es.size (fun i v => (es[i]?).map (·.key) = some v) (fun i h => KIt h I d i es.size ep ∧ DRaw h d es ep) where
  sub := fun b hb => by simp at hb; simp [hb]
  frame := fun _ _ _ st hk => ⟨st.1.at fun o e => hk I (by simp) o e, st.2.at fun o e => hk d (by simp) o e⟩
  item := fun i s Q E hi st hQ => by
    refine next_KIt st.1 st.2 hi fun h' hit' hs' => ?_
    exact hQ _ h' s.toks (by simp [hi]) ⟨hit', st.2.at fun o e => hs'.extBut d o hne e⟩ fun b o hb e => hs'.extBut b o (fun h => hb (by simp [h])) e
  done := fun s Q E st hQ => end_KIt hh st.1 st.2 fun h' he' => hQ h' s.toks fun b o hb e => he' b o (fun h => hb (by simp [h])) e
  self := fun _ _ _ _ st hQ => self_KIt st.1 hQ
theorem walksVals (hh : A.handled = none) (I d : Addr) (hne : d ≠ I) (es : Array DictEntry) (ep : Nat) :
    Walks prog w A I [I, d] [I] es.size (fun i v => (es[i]?).map (·.val) = some v) (fun i h => VIt h I d i es.size ep ∧ DRaw h d es ep) where
  sub := fun b hb => by simp at hb; simp [hb]
  frame := fun _ _ _ st hk => ⟨st.1.at fun o e => hk I (by simp) o e, st.2.at fun o e => hk d (by simp) o e⟩
  item := fun i s Q E hi st hQ => by
    refine next_VIt st.1 st.2 hi fun h' hit' hs' => ?_
    exact hQ _ h' s.toks (by simp [hi]) ⟨hit', st.2.at fun o e => hs'.extBut d o hne e⟩ fun b o hb e => hs'.extBut b o (fun h => hb (by simp [h])) e
  done := fun s Q E st hQ => end_VIt hh st.1 st.2 fun h' he' => hQ h' s.toks fun b o hb e => he' b o (fun h => hb (by simp [h])) e
  self := fun _ _ _ _ st hQ => self_VIt st.1 hQ
theorem srcKeys {d r : Addr} {es : Array DictEntry} {ep : Nat} : KdlSrc prog w "dict_keys" r d es.size (fun i v => (es[i]?).map (·.key) = some v) (fun h => View "dict_keys" h r d ∧ DRaw h d es ep) where
  type := fun _ hm => hm.1.typeIs
  there := fun _ hm => ⟨let ⟨_, ho, _⟩ := hm.1; Heap.lt_size ho, hm.2.lt⟩
  keep := fun _ _ hm hk => ⟨hm.1.at fun o e => hk r (.inl rfl) o e, hm.2.at fun o e => hk d (.inr rfl) o e⟩
  notList := by decide
  notTuple := by decide
  hint := fun _ _ _ _ hm hq => kdl_hint_keys hm.1.typeIs hq
  iter := fun _ _ hh hm => ⟨_, _, (fun _ _ hq => iter_keys hm.1 hm.2 hq), walksKeys hh _ d (Nat.ne_of_lt hm.2.lt) es ep, ⟨⟨_, Heap.get?_push_size _ rfl, rfl, rfl⟩, hm.2.at fun o e => Heap.get?_push_of_some _ e⟩⟩
theorem srcVals {d r : Addr} {es : Array DictEntry} {ep : Nat} : KdlSrc prog w "dict_values" r d es.size (fun i v => (es[i]?).map (·.val) = some v) (fun h => View "dict_values" h r d ∧ DRaw h d es ep) where
  type := fun _ hm => hm.1.typeIs
  there := fun _ hm => ⟨let ⟨_, ho, _⟩ := hm.1; Heap.lt_size ho, hm.2.lt⟩
  keep := fun _ _ hm hk => ⟨hm.1.at fun o e => hk r (.inl rfl) o e, hm.2.at fun o e => hk d (.inr rfl) o e⟩
  notList := by decide
  notTuple := by decide
  hint := fun _ _ _ _ hm hq => kdl_hint_values hm.1.typeIs hq
  iter := fun _ _ hh hm => ⟨_, _, (fun _ _ hq => iter_values hm.1 hm.2 hq), walksVals hh _ d (Nat.ne_of_lt hm.2.lt) es ep, ⟨⟨_, Heap.get?_push_size _ rfl, rfl, rfl⟩, hm.2.at fun o e => Heap.get?_push_of_some _ e⟩⟩
end
end
section
noncomputable abbrev Lent := Option (Addr × AO)
noncomputable def lendS (L : Lent) (σ : Store) : Store := match L with | none => σ | some (a, _) => del σ a
noncomputable def backS (L : Lent) (σ : Store) : Store := match L with | none => σ | some (a, y) => put σ a y

theorem lendS_none {L : Lent} {σ : Store} {a : Addr} (e : σ a = none) : lendS L σ a = none := by
  cases L with
  | none => exact e
  | some p =>
    show Mine.del σ p.1 a = none
    unfold Mine.del
    split
    · rfl
    · exact e
structure Gd (c : Cx) (fs : List Addr) (L : Lent) (fp wr : List Addr) (kp st : Lk) (σ : Store) (h : Heap) : Prop where
  sub : ∀ a ∈ wr, a ∈ fp
  sg : ∀ a ∈ fp, σ a = none
  ex : ∀ a ∈ fp, ∃ o, h.get? a = some o
  fe : ∀ a ∈ fp, a ∉ fs
  wk : ∀ a ∈ wr, kp a = none ∧ st a = none
  lk : ∀ a y, L = some (a, y) → a ∈ fp ∧ a ∉ wr ∧ kp a = none ∧ st a = none ∧ mainGlobals < a ∧ ∃ o, h.get? a = some o ∧ ObjIs c.prog c.w kp o y

noncomputable def stG (fp : List Addr) (kp : Lk) (h : Heap) (st : Lk) : Lk := open Classical in fun a => if a ∈ fp ∧ kp a = none then h.get? a else st a

section
variable {c : Cx} {n : Nat} {env : Env} {loc : Loc} {σ σ' : Store} {fp wr fs : List Addr} {kp kp' st : Lk} {h h' : Heap} {L : Lent}

theorem stG_in {a : Addr} (m : a ∈ fp) (k : kp a = none) : stG fp kp h st a = h.get? a := by unfold stG; rw [if_pos ⟨m, k⟩]
theorem stG_out {a : Addr} (m : a ∉ fp) : stG fp kp h st a = st a := by unfold stG; rw [if_neg (fun z => m z.1)]
theorem stG_le (s : SatC c kp st σ h) : Le st (stG fp kp h st) := fun a o e => by
  unfold stG
  split
  · exact s.st_ok a o e
  · exact e
theorem Gd.sat (G : Gd c fs L fp wr kp st σ h) (s : SatC c kp st σ h) : SatC c kp (stG fp kp h st) σ h where
  base := s.base
  kp_ok := s.kp_ok
  st_ok := fun a o e => by
    unfold stG at e
    split at e
    · exact e
    · exact s.st_ok a o e
  mu_ok := s.mu_ok
  d1 := fun a o e => by
    unfold stG at e
    split at e
    · rename_i m; exact m.2
    · exact s.d1 a o e
  d2 := fun a y e => ⟨(s.d2 a y e).1, by
    unfold stG
    split
    · rename_i m; rw [G.sg a m.1] at e; cases e
    · exact (s.d2 a y e).2⟩
  mg3 := s.mg3
  lo := s.lo
theorem Gd.frm (G : Gd c (fa env) L fp wr kp st σ h) (F : Frm env loc kp st σ h) : Frm env loc kp (stG fp kp h st) σ h :=
  have o : ∀ a ∈ fa env, stG fp kp h st a = st a := fun a m => stG_out fun z => G.fe a z m
  ⟨F.fun_, F.glob, F.blt, (o _ (.head _)).trans F.own, F.fa_, fun q a m => (o a m).trans (F.cown q a m), fun a m u e => F.st_eq a m u ((o a m).symm.trans e), F.apart, F.ns, F.cells, F.kinds⟩
theorem Frm.ofSt {st' : Lk} (F : Frm env loc kp st' σ h) (l : Le st st') : Frm env loc kp st σ h :=
  have nn : ∀ a, st' a = none → st a = none := fun a e => by
    cases q : st a with
    | none => rfl
    | some o => rw [l a o q] at e; cases e
  ⟨F.fun_, F.glob, F.blt, nn _ F.own, F.fa_, fun q a m => nn a (F.cown q a m), fun a m u e => F.st_eq a m u (l a u e), F.apart, F.ns, F.cells, F.kinds⟩
theorem Frm.ext (F : Frm env loc kp st σ h) (k : ∀ a ∈ fa env, ∀ o, h.get? a = some o → h'.get? a = some o) : Frm env loc kp st σ h' := by
  refine ⟨F.fun_, F.glob, F.blt, F.own, fun a m => ?_, F.cown, fun a m o e => k a m o (F.st_eq a m o e), F.apart, ?_, fun x c hc => ?_, F.kinds⟩
  · obtain ⟨⟨o, e⟩, b, d⟩ := F.fa_ a m
    exact ⟨⟨o, k a m o e⟩, b, d⟩
  · obtain ⟨m, ⟨o, es, ep, ho, hd, hk, hf⟩, hm⟩ := F.ns
    exact ⟨m, ⟨o, es, ep, k _ (.head _) o ho, hd, hk, hf⟩, hm⟩
  · obtain ⟨u, ⟨o, ho, hd⟩, hu⟩ := F.cells x c hc
    exact ⟨u, ⟨o, k c (.tail _ (List.mem_map.mpr ⟨(x, c), mem_of_lookup hc, rfl⟩)) o ho, hd⟩, hu⟩
theorem Frm.store (F : Frm env loc kp st σ h) (k : ∀ a ∈ fa env, σ' a = none) : Frm env loc kp st σ' h :=
  ⟨F.fun_, F.glob, F.blt, F.own, fun a m => ⟨(F.fa_ a m).1, (F.fa_ a m).2.1, k a m⟩, F.cown, F.st_eq, F.apart, F.ns, F.cells, F.kinds⟩
theorem Frm.weaken {loc' : Loc} (F : Frm env loc kp st σ h) (k : ∀ x V, loc'.lookup x = some V → loc.lookup x = some V) : Frm env loc' kp st σ h :=
  ⟨F.fun_, F.glob, F.blt, F.own, F.fa_, F.cown, F.st_eq, F.apart, let ⟨m, a, b⟩ := F.ns; ⟨m, a, fun x V e hx => b x V (k x V e) hx⟩, fun x c hc => let ⟨u, a, b⟩ := F.cells x c hc; ⟨u, a, fun V e hx => b V (k x V e) hx⟩, fun x V e => F.kinds x V (k x V e)⟩

theorem Gd.after (G : Gd c fs L fp wr kp st σ h) (s0 : SatC c kp st σ h) (l : Le kp kp') (s : SatC c kp' (stG fp kp h st) σ' h') :
    (∀ a ∈ fp, ∀ o, h.get? a = some o → h'.get? a = some o) ∧ SatC c kp' st σ' h' ∧ Gd c fs L fp wr kp' st σ' h' := by
  have same : ∀ a ∈ fp, ∀ o, h.get? a = some o → h'.get? a = some o := fun a m o e => by
    cases q : kp a with
    | none => exact s.st_ok a o ((stG_in m q).trans e)
    | some o' =>
      have e1 := s0.kp_ok a o' q
      rw [e] at e1; cases e1
      exact s.kp_ok a o (l a o q)
  have isN : ∀ a ∈ fp, kp a = none → kp' a = none := fun a m q => by
    obtain ⟨o, e⟩ := G.ex a m
    exact s.d1 a o ((stG_in m q).trans e)
  refine ⟨same, s.weakSt (stG_le s0), ⟨G.sub, fun a m => ?_, fun a m => let ⟨o, e⟩ := G.ex a m; ⟨o, same a m o e⟩, G.fe, fun a m => ⟨isN a (G.sub a m) (G.wk a m).1, (G.wk a m).2⟩, fun a y e => ?_⟩⟩
  · obtain ⟨o, e⟩ := G.ex a m
    cases q : σ' a with
    | none => rfl
    | some z =>
      obtain ⟨z1, z2⟩ := s.d2 a z q
      cases q2 : kp a with
      | none => rw [stG_in m q2, e] at z2; cases z2
      | some o' => rw [l a o' q2] at z1; cases z1
  · obtain ⟨m, w1, k1, k2, k3, o, e1, e2⟩ := G.lk a y e
    exact ⟨m, w1, isN a m k1, k2, k3, o, same a m o e1, e2.mono l⟩
theorem Gd.step (G : Gd c fs L fp wr kp st σ h) (s : SatC c kp st σ h) (k : ∀ b o, b ∉ wr → h.get? b = some o → h'.get? b = some o) (ex : ∀ a ∈ fp, ∃ o, h'.get? a = some o) :
    SatC c kp st σ h' ∧ Gd c fs L fp wr kp st σ h' := by
  refine ⟨s.ext fun b o t e => k b o (fun m => ?_) e, ⟨G.sub, G.sg, ex, G.fe, G.wk, fun a y e => ?_⟩⟩
  · obtain ⟨a1, a2⟩ := G.wk b m
    rcases t with t | t | t
    · exact t a1
    · exact t a2
    · exact t (G.sg b (G.sub b m))
  · obtain ⟨m, w1, k1, k2, k3, o, e1, e2⟩ := G.lk a y e
    exact ⟨m, w1, k1, k2, k3, o, k a o w1 e1, e2⟩
theorem Gd.stepF (G : Gd c (fa env) L fp wr kp st σ h) (F : Frm env loc kp st σ h) (k : ∀ b o, b ∉ wr → h.get? b = some o → h'.get? b = some o) : Frm env loc kp st σ h' :=
  F.ext fun a m o e => k a o (fun z => G.fe a (G.sub a z) m) e
theorem Gd.back (G : Gd c fs L fp wr kp st σ h) (s : SatC c kp st σ h) : SatC c kp st (backS L σ) h := by
  cases L with
  | none => exact s
  | some p =>
    obtain ⟨a, y⟩ := p
    obtain ⟨m, w1, k1, k2, k3, o, e1, e2⟩ := G.lk a y rfl
    exact s.mput k1 k2 k3 (fun _ _ _ e => e) e1 e2
theorem Gd.backF (G : Gd c (fa env) L fp wr kp st σ h) (F : Frm env loc kp st σ h) : Frm env loc kp st (backS L σ) h := by
  cases L with
  | none => exact F
  | some p =>
    obtain ⟨a, y⟩ := p
    obtain ⟨m, w1, k1, k2, k3, o, e1, e2⟩ := G.lk a y rfl
    refine F.store fun b mb => ?_
    have ne : b ≠ a := fun e => G.fe a m (e ▸ mb)
    show put σ a y b = none
    rw [put_ne _ _ ne]; exact (F.fa_ b mb).2.2

theorem Gd.done (G : Gd c fs L fp wr kp st σ h) (s : SatC c kp st σ h) (k : ∀ b o, b ∉ wr → h.get? b = some o → h'.get? b = some o) : SatC c kp st (backS L σ) h' := by
  have s' : SatC c kp st σ h' := s.ext fun b o t e => k b o (fun m => by
    obtain ⟨a1, a2⟩ := G.wk b m
    rcases t with t | t | t
    · exact t a1
    · exact t a2
    · exact t (G.sg b (G.sub b m))) e
  cases L with
  | none => exact s'
  | some p =>
    obtain ⟨a, y⟩ := p
    obtain ⟨m, w1, k1, k2, k3, o, e1, e2⟩ := G.lk a y rfl
    exact s'.mput k1 k2 k3 (fun _ _ _ e => e) (k a o w1 e1) e2
theorem Gd.doneF (G : Gd c (fa env) L fp wr kp st σ h) (F : Frm env loc kp st σ h) (k : ∀ b o, b ∉ wr → h.get? b = some o → h'.get? b = some o) : Frm env loc kp st (backS L σ) h' := (G.backF F).ext fun a m o e => k a o (fun z => G.fe a (G.sub a z) m) e

inductive OIP (c : Cx) (A : Around) (l : List V) (σ : Store) (L : Lent) (kp st : Lk) (h : Heap) (it : Value) (s' : Shared) : Prop
  | mk (I : Addr) (fp wr : List Addr) (P : Nat → Value → Prop) (St : Nat → Heap → Prop) (h' : Heap) (tk' : Nat) (e : s' = S c.s₀ h' tk') (ei : it = .ref I) (W : Walks c.prog c.w A I fp wr l.length P St) (st0 : St 0 h') (ex : ∀ i h, St i h → ∀ a ∈ fp, ∃ o, h.get? a = some o)
      (s2 : SatC c kp st (lendS L σ) h') (k2 : ∀ b o, h.get? b = some o → h'.get? b = some o) (hf : ∀ a ∈ fp, h.get? a = none ∨ (∃ o, h.get? a = some o ∧ (kp a ≠ none ∨ σ a ≠ none))) (sg : ∀ a ∈ fp, lendS L σ a = none) (hw : ∀ a ∈ wr, kp a = none ∧ st a = none ∧ h.get? a = none)
      (hP : ∀ i u, P i u → ∃ y, l[i]? = some y ∧ Rep kp y u) (hL : ∀ a y, L = some (a, y) → a ∈ fp ∧ a ∉ wr ∧ σ a = some y) : OIP c A l σ L kp st h it s'
noncomputable def OIter (c : Cx) (n : Nat) (x : V) (l : List V) (σ : Store) (L : Lent) : Prop :=
  ∀ A kp st h tk v, Room A n → SatC c kp st σ h → Rep kp x v → wpAny c.M A (pyIter v) (OIP c A l σ L kp st h) NoE (S c.s₀ h tk)

theorem iter_gd {x : V} {l : List V} {A : Around} {P : Nat → Value → Prop} {St : Nat → Heap → Prop} {I : Addr} (s : SatC c kp st σ h) (s' : SatC c kp st (lendS L σ) h') (hn : ∀ a ∈ fs, ∃ o, h.get? a = some o) (hs : ∀ a ∈ fs, kp a = none ∧ σ a = none)
    (W : Walks c.prog c.w A I fp wr l.length P St) (st0 : St 0 h') (ex : ∀ i h, St i h → ∀ a ∈ fp, ∃ o, h.get? a = some o) (k : ∀ b o, h.get? b = some o → h'.get? b = some o) (hf : ∀ a ∈ fp, h.get? a = none ∨ (∃ o, h.get? a = some o ∧ (kp a ≠ none ∨ σ a ≠ none)))
    (sg : ∀ a ∈ fp, lendS L σ a = none) (hw : ∀ a ∈ wr, kp a = none ∧ st a = none ∧ h.get? a = none) (hL : ∀ a y, L = some (a, y) → a ∈ fp ∧ a ∉ wr ∧ σ a = some y) : Gd c fs L fp wr kp st (lendS L σ) h' := by
  refine ⟨W.sub, sg, ex 0 h' st0, fun a m z => ?_, fun a m => ⟨(hw a m).1, (hw a m).2.1⟩, fun a y e => ?_⟩
  · rcases hf a m with q | ⟨o, q, t⟩
    · obtain ⟨o, e⟩ := hn a z; rw [q] at e; cases e
    · rcases t with t | t
      · exact t (hs a z).1
      · exact t (hs a z).2
  · obtain ⟨m, w1, e1⟩ := hL a y e
    obtain ⟨o, e2, e3⟩ := s.mu_ok a y e1
    obtain ⟨k1, k2⟩ := s.d2 a y e1
    exact ⟨m, w1, k1, k2, s.lo a y e1, o, k a o e2, e3⟩

inductive ForP (c : Cx) (n : Nat) (env : Env) (t : Str) (body : List Stmt) (loc : Loc) (KR : V → Loc → Store → Prop) (KN : Loc → Store → Prop) (v : V) (σ1 : Store) : Prop
  | mk (l : List V) (L : Lent) (it : OIter c n v l σ1 L) (Inv : Nat → Loc → Store → Prop) (i0 : Inv 0 loc (lendS L σ1))
      (step : ∀ i y loc' σ', l[i]? = some y → (∀ a z, L = some (a, z) → σ' a = none) → Inv i loc' σ' → WB c n env body ((t, y) :: loc') σ' fun fl loc'' σ'' => match fl with | .next => Inv (i + 1) loc'' σ'' | .ret v => KR v loc'' (backS L σ''))
      (fin : ∀ loc' σ', (∀ a z, L = some (a, z) → σ' a = none) → Inv l.length loc' σ' → KN loc' (backS L σ')) : ForP c n env t body loc KR KN v σ1
inductive LInv (c : Cx) (env : Env) (L : Lent) (fp wr : List Addr) (kp1 st : Lk) (len : Nat) (St : Nat → Heap → Prop) (Inv : Nat → Loc → Store → Prop) (m : Nat) (s' : Shared) : Prop
  | mk (i : Nat) (loc' : Loc) (kp' : Lk) (σ' : Store) (h' : Heap) (tk' : Nat) (e : s' = S c.s₀ h' tk') (em : i ≤ len ∧ m + i = len + 1) (le : Le kp1 kp') (s : SatC c kp' st σ' h') (F : Frm env loc' kp' st σ' h') (G : Gd c (fa env) L fp wr kp' st σ' h') (hSt : St i h') (inv : Inv i loc' σ') : LInv c env L fp wr kp1 st len St Inv m s'
theorem WS_for {t : Str} {pt pos : Pos} {iter : Expr} {body : List Stmt} {sc : Scope} {K : Fl → Loc → Store → Prop} (O : EnvOk env sc) (ht : storable sc t = true)
    (x : WE c n env iter loc σ (ForP c n env t body loc (fun v => K (.ret v)) (K .next)))
    (hs : ∀ x, foldedSetIterable iter env x = pure x := by intro _; rfl) : WS c n env (.For (.Name t pt) iter body [] pos) loc σ K := fun A kp st h tk r s F => by
  refine wpAny_For (wpAny_mono (x A kp st h tk r s F) (fun v s' ⟨xv, kp1, σ1, h1, tk1, e1, l1, q1, s1, F1, l, L, hI, Inv, i0, step, fin⟩ => ?_) fun _ _ e => e) hs
  subst e1
  refine wpAny_mono (hI A kp1 st h1 tk1 v r s1 q1) (fun it s' ⟨I, fp, wr, P, St, h2, tk2, e2, eI, W, st0, ex, s2, k2, hf, sg, hw, hP, hL⟩ => ?_) fun _ _ e => e.elim
  subst e2 eI
  have G2 : Gd c (fa env) L fp wr kp1 st (lendS L σ1) h2 := iter_gd (x := xv) s1 s2 (fun a m => (F1.fa_ a m).1) (fun a m => (F1.fa_ a m).2) W st0 ex k2 hf sg hw hL
  have F2 : Frm env loc kp1 st (lendS L σ1) h2 := (F1.ext fun a _ o e => k2 a o e).store fun a m => lendS_none (F1.fa_ a m).2.2
  refine codeAny_forLoop (LInv c env L fp wr kp1 st l.length St Inv) ?_ (l.length + 1)
    ⟨0, loc, kp1, _, h2, tk2, rfl, ⟨Nat.zero_le _, rfl⟩, Le.refl _, s2, F2, G2, st0, i0⟩
  rintro m s' ⟨i, loc', kp', σ', h', tk', rfl, em, le', s', F', G', hSt, inv⟩
  by_cases hlt : i < l.length
  · refine W.item i _ _ _ hlt hSt fun u h3 tk3 hPu hSt3 k3 => ?_
    obtain ⟨y, ey, ry⟩ := hP i u hPu
    obtain ⟨s3, G3⟩ := G'.step s' k3 (ex _ _ hSt3)
    have F3 := G'.stepF F' k3
    have sP := G3.sat s3
    have FP := G3.frm F3
    refine wpAny_assign_Name (wpAny_mono (store_o (c := c) sP FP (ry.mono le') (by rw [O.scp]; exact ht) (fun e => ⟨O.fn, O.cl t (by rw [← O.scp]; exact e)⟩) fun h4 tk4 s4 F4 => ?_) (fun _ _ z => z) fun _ _ e => e.elim)
    refine wpAny_mono (step i y loc' σ' ey (fun a z e => G'.sg a (G'.lk a z e).1) inv A kp' _ h4 tk4 r s4 F4) (fun f s5 ⟨fl, loc5, kp5, σ5, h5, tk5, e5, l5, q5, s5, F5, k5⟩ => ?_) fun _ _ e => e.elim
    subst e5
    obtain ⟨same, s6, G6⟩ := G3.after s3 l5 s5
    have F6 : Frm env loc5 kp5 st σ5 h5 := F5.ofSt (stG_le s3)
    cases q5 with
    | next => exact ⟨m - 1, by omega, i + 1, loc5, kp5, σ5, h5, tk5, rfl, ⟨by omega, by omega⟩, le'.trans l5, s6, F6, G6, W.frame _ _ _ hSt3 same, k5⟩
    | ret q5 => exact ⟨_, loc5, kp5, _, h5, tk5, rfl, l1.trans (le'.trans l5), .ret q5, G6.back s6, G6.backF F6, k5⟩
  · have ei : i = l.length := by
      rcases Nat.lt_or_ge i l.length with z | z
      · exact absurd z hlt
      · omega
    subst ei
    refine W.done _ _ _ hSt fun h3 tk3 k3 => ?_
    exact wpAny_execs_nil ⟨.next, loc', kp', _, h3, tk3, rfl, l1.trans le', .next, G'.done s' k3, G'.doneF F' k3, fin _ _ (fun a z e => G'.sg a (G'.lk a z e).1) inv⟩
end
end
section
noncomputable def closL (env : Env) : List (Str × NameKind) → List (Str × Addr) → List (Str × Addr)
  | [], acc => acc
  | (x, k) :: r, acc => if k == .free then closL env r ((x, (env.cells.lookup x).getD 0) :: acc) else closL env r acc
theorem forIn_closL {env : Env} (f : Str × NameKind → List (Str × Addr) → Sem (ForInStep (List (Str × Addr))))
    (hf : ∀ x k r, f (x, k) r = if (k == .free) = true then (cellOf env x >>= fun a => pure (ForInStep.yield ((x, a) :: r))) else pure (ForInStep.yield r)) :
    ∀ (l : List (Str × NameKind)) (acc : List (Str × Addr)), (∀ x, (x, NameKind.free) ∈ l → (env.cells.lookup x).isSome = true) → (forIn l acc f : Sem (List (Str × Addr))) = pure (closL env l acc)
  | [], _, _ => rfl
  | (x, k) :: r, acc, h => by
    rw [List.forIn_cons, hf]
    by_cases hk : k = .free
    · subst hk
      obtain ⟨a, e⟩ := Option.isSome_iff_exists.mp (h x (.head _))
      have hc : cellOf env x = pure a := by unfold cellOf; rw [e]
      rw [if_pos (by rfl), hc, pure_bind, pure_bind]
      show forIn r ((x, a) :: acc) f = _
      rw [forIn_closL f hf r _ fun z hz => h z (.tail _ hz)]
      simp [closL, e]
    · have hb : (k == NameKind.free) = false := by simpa using hk
      rw [hb, if_neg (by decide), pure_bind]
      show forIn r acc f = _
      rw [forIn_closL f hf r _ fun z hz => h z (.tail _ hz)]
      simp [closL, hb]
theorem closureFor_L {scope : Scope} {env : Env} (h : ∀ x, (x, NameKind.free) ∈ scope.names → (env.cells.lookup x).isSome = true) : closureFor scope env = pure (closL env scope.names []) := by
  unfold closureFor
  dsimp only
  rw [forIn_closL _ (fun x k r => rfl) scope.names [] h]
  rfl
theorem closL_mem {env : Env} : ∀ (l : List (Str × NameKind)) (acc : List (Str × Addr)) (p : Str × Addr), p ∈ closL env l acc → p ∈ acc ∨ ((p.1, NameKind.free) ∈ l ∧ p.2 = (env.cells.lookup p.1).getD 0)
  | [], _, p, h => .inl h
  | (x, k) :: r, acc, p, h => by
    unfold closL at h
    split at h
    · rename_i q
      rcases closL_mem r _ p h with z | ⟨a, b⟩
      · rcases List.mem_cons.mp z with rfl | z
        · have : k = .free := by simpa using q
          exact .inr ⟨by rw [this]; exact .head _, rfl⟩
        · exact .inl z
      · exact .inr ⟨.tail _ a, b⟩
    · rcases closL_mem r _ p h with z | ⟨a, b⟩
      · exact .inl z
      · exact .inr ⟨.tail _ a, b⟩
theorem closL_has {env : Env} {x : Str} : ∀ (l : List (Str × NameKind)) (acc : List (Str × Addr)), ((x, NameKind.free) ∈ l ∨ ∃ a, (x, a) ∈ acc) → ∃ a, (x, a) ∈ closL env l acc
  | [], acc, h => by
    rcases h with h | h
    · simp at h
    · exact h
  | (y, k) :: r, acc, h => by
    unfold closL
    split
    · rename_i q
      refine closL_has r _ ?_
      rcases h with h | ⟨a, h⟩
      · rcases List.mem_cons.mp h with e | h
        · cases e; exact .inr ⟨_, .head _⟩
        · exact .inl h
      · exact .inr ⟨a, .tail _ h⟩
    · rename_i q
      refine closL_has r _ ?_
      rcases h with h | h
      · rcases List.mem_cons.mp h with e | h
        · cases e; simp at q
        · exact .inl h
      · exact .inr h
theorem closL_apart {env : Env} (hp : env.cells.Pairwise fun x y => x.2 ≠ y.2) : ∀ (l : List (Str × NameKind)) (acc : List (Str × Addr)), (∀ x, (x, NameKind.free) ∈ l → (env.cells.lookup x).isSome = true) → (l.map (·.1)).Nodup →
    (∀ p ∈ acc, p ∈ env.cells ∧ p.1 ∉ l.map (·.1)) → (acc.Pairwise fun x y => x.2 ≠ y.2) → (closL env l acc).Pairwise fun x y => x.2 ≠ y.2
  | [], _, _, _, _, h => h
  | (x, k) :: r, acc, hs, hn, ha, h => by
    rw [List.map_cons, List.nodup_cons] at hn
    unfold closL
    split
    · rename_i q
      have : k = .free := by simpa using q
      subst this
      obtain ⟨a, e⟩ := Option.isSome_iff_exists.mp (hs x (.head _))
      refine closL_apart hp r _ (fun z hz => hs z (.tail _ hz)) hn.2 (fun p m => ?_) ?_
      · rcases List.mem_cons.mp m with rfl | m
        · exact ⟨by rw [e]; exact mem_of_lookup e, hn.1⟩
        · exact ⟨(ha p m).1, fun z => (ha p m).2 (by rw [List.map_cons]; exact .tail _ z)⟩
      · refine List.pairwise_cons.mpr ⟨fun p m z => ?_, h⟩
        obtain ⟨m1, m2⟩ := ha p m
        have : x = p.1 := name_of_addr hp (n := x) (n' := p.1) (c := a) (mem_of_lookup e) (by
          have z' : a = p.2 := by rw [e] at z; exact z
          rw [z']; exact m1)
        exact m2 (by rw [List.map_cons, ← this]; exact .head _)
    · exact closL_apart hp r _ (fun z hz => hs z (.tail _ hz)) hn.2 (fun p m => ⟨(ha p m).1, fun z => (ha p m).2 (by rw [List.map_cons]; exact .tail _ z)⟩) h

noncomputable def inner (scope : Scope) (loc : Loc) : Loc := loc.filter fun p => scope.names.contains (p.1, NameKind.free)
theorem lookup_filter {α : Type} {f : Str → Bool} {x : Str} : ∀ {l : List (Str × α)}, (l.filter fun p => f p.1).lookup x = if f x then l.lookup x else none
  | [] => by simp
  | (y, v) :: r => by
    have ih := @lookup_filter α f x r
    rw [List.filter_cons]
    by_cases q : f y = true
    · rw [if_pos q, List.lookup_cons, List.lookup_cons]
      cases hb : x == y with
      | true => rw [beq_iff_eq.mp hb, q]; rfl
      | false => exact ih
    · rw [if_neg q, ih, List.lookup_cons]
      cases hb : x == y with
      | true => rw [beq_iff_eq.mp hb, if_neg q, if_neg q]
      | false => rfl
theorem inner_look {scope : Scope} {loc : Loc} {x : Str} {u : V} (h : scope.names.contains (x, NameKind.free) = true) (e : loc.lookup x = some u) : (inner scope loc).lookup x = some u := by
  unfold inner; rw [lookup_filter (f := fun x => scope.names.contains (x, NameKind.free)), if_pos h]; exact e
theorem inner_inv {scope : Scope} {loc : Loc} {x : Str} {u : V} (e : (inner scope loc).lookup x = some u) : (x, NameKind.free) ∈ scope.names ∧ loc.lookup x = some u := by
  unfold inner at e
  rw [lookup_filter (f := fun x => scope.names.contains (x, NameKind.free))] at e
  split at e
  · rename_i q; exact ⟨by simpa using q, e⟩
  · cases e

theorem lookup_relabel_cell {env : Env} : ∀ {names : List (Str × NameKind)} {x : Str}, (names.map (·.1)).Nodup → (x, NameKind.free) ∈ names → env.scope.kind = .function → env.kindOf x = some .cell →
    (names.map fun (n, k) => if (k == NameKind.free && env.scope.kind == .function && env.kindOf n == some .cell) then (n, NameKind.cell) else (n, k)).lookup x = some .cell
  | [], _, _, h, _, _ => by simp at h
  | (n, k) :: r, x, hn, h, hf, hc => by
    rw [List.map_cons, List.nodup_cons] at hn
    show List.lookup x ((if (k == NameKind.free && env.scope.kind == .function && env.kindOf n == some .cell) = true then (n, NameKind.cell) else (n, k)) :: _) = _
    rcases List.mem_cons.mp h with e | h2
    · cases e
      rw [if_pos (by simp [hf, hc])]
      simp [List.lookup_cons]
    · have ne : (x == n) = false := by
        rw [beq_eq_false_iff_ne]; rintro rfl
        exact hn.1 (List.mem_map.mpr ⟨_, h2, rfl⟩)
      have ih := lookup_relabel_cell hn.2 h2 hf hc
      split <;> (rw [List.lookup_cons, ne]; exact ih)

section
variable {c : Cx} {n : Nat} {env : Env} {loc : Loc} {σ σ' : Store} {kp kp' st : Lk} {h h' : Heap}

theorem Frm.comp {scope : Scope} {C : Addr} {stI : Lk} {m : Str → Option Value} (F : Frm env loc kp st σ h) (s : SatC c kp stI σ' h') (k : ∀ a ∈ fa env, ∀ o, h.get? a = some o → h'.get? a = some o) (hσ : ∀ a ∈ fa env, σ' a = none)
    (hkind : scope.kind = .function) (hfree : ∀ x, (x, NameKind.free) ∈ scope.names → env.kindOf x = some .cell ∧ (env.cells.lookup x).isSome = true) (hnd : (scope.names.map (·.1)).Nodup)
    (hC : h'.Ns C m) (hC1 : kp C = none) (hC2 : stI C = none) (hC3 : σ' C = none) : Frm (compEnvC scope (closL env scope.names []) C env) (inner scope loc) kp stI σ' h' := by
  have cm : ∀ p ∈ closL env scope.names [], p ∈ env.cells := by
    intro p hp
    rcases closL_mem _ _ p hp with z | ⟨a, b⟩
    · simp at z
    · obtain ⟨q, e⟩ := Option.isSome_iff_exists.mp (hfree p.1 a).2
      have : p = (p.1, q) := by
        obtain ⟨p1, p2⟩ := p
        dsimp only at b e ⊢
        rw [b, e]; rfl
      rw [this]; exact mem_of_lookup e
  have apart := closL_apart F.apart scope.names [] (fun x hx => (hfree x hx).2) hnd (fun p hp => by simp at hp) .nil
  have F' := F.ext k
  have memfa : ∀ p ∈ closL env scope.names [], p.2 ∈ fa env := fun p hp => .tail _ (List.mem_map.mpr ⟨p, cm p hp, rfl⟩)
  have one : ∀ x, (x, NameKind.free) ∈ scope.names → (closL env scope.names []).lookup x = env.cells.lookup x := by
    intro x hx
    obtain ⟨a, ha⟩ := closL_has (env := env) (x := x) scope.names [] (.inl hx)
    have hs : ((closL env scope.names []).lookup x).isSome = true := by
      cases q : (closL env scope.names []).lookup x with
      | some _ => rfl
      | none =>
        rw [List.lookup_eq_none_iff] at q
        have := q _ ha
        simp at this
    obtain ⟨b, hb⟩ := Option.isSome_iff_exists.mp hs
    rcases closL_mem _ _ _ (mem_of_lookup hb) with z | ⟨_, z⟩
    · simp at z
    · obtain ⟨q, e⟩ := Option.isSome_iff_exists.mp (hfree x hx).2
      rw [hb, e]
      dsimp only at z
      rw [z, e]; rfl
  refine ⟨hkind, F.glob, F.blt, hC2, fun a ma => ?_, fun e => absurd e (by show ¬ (none : Option Addr).isSome = true; decide), fun a _ o e => s.st_ok a o e, apart, ⟨m, hC, fun x V e hx => ?_⟩, fun x cc e => ?_, fun x V e => ?_⟩
  · cases ma with
    | head => exact ⟨let ⟨o, _, _, e, _⟩ := hC; ⟨o, e⟩, hC1, hC3⟩
    | tail _ ma =>
      obtain ⟨p, hp, rfl⟩ := List.mem_map.mp ma
      obtain ⟨⟨o, e⟩, k1, _⟩ := F.fa_ p.2 (memfa p hp)
      exact ⟨⟨o, k _ (memfa p hp) o e⟩, k1, hσ _ (memfa p hp)⟩
  · obtain ⟨a, b⟩ := inner_inv e
    have := lookup_relabel_cell hnd a F.fun_ (hfree x a).1
    rw [show Env.kindOf (compEnvC scope (closL env scope.names []) C env) x = some .cell from this] at hx
    cases hx
  · have mem := mem_of_lookup e
    rcases closL_mem _ _ _ mem with z | ⟨z, z'⟩
    · simp at z
    · have z : (x, NameKind.free) ∈ scope.names := z
      have e2 : env.cells.lookup x = some cc := (one x z).symm.trans e
      obtain ⟨u, hu, hv⟩ := F'.cells x cc e2
      refine ⟨u, hu, fun V e' hx => ?_⟩
      obtain ⟨_, b⟩ := inner_inv e'
      exact hv V b (by rw [(hfree x z).1]; decide)
  · obtain ⟨a, b⟩ := inner_inv e
    refine ⟨(F.kinds x V b).1, .inr ⟨.inl (lookup_relabel_cell hnd a F.fun_ (hfree x a).1), ?_⟩⟩
    show ((closL env scope.names []).lookup x).isSome = true
    rw [one x a]; exact (hfree x a).2
end
end
section
noncomputable def WTs (c : Cx) (n : Nat) (env : Env) (ifs : List Expr) (loc : Loc) (σ : Store) (K : Bool → Store → Prop) : Prop := match ifs with
  | [] => K true σ
  | [t] => WT c n env t loc σ K
  | _ => False

theorem free_local : ∀ {names : List (Str × NameKind)} {x : Str}, (names.map (·.1)).Nodup → names.lookup x = some .local → (x, NameKind.free) ∈ names → False
  | [], _, _, h, _ => by simp at h
  | (y, k) :: r, x, hn, h, m => by
    rw [List.map_cons, List.nodup_cons] at hn
    rw [List.lookup_cons] at h
    rcases List.mem_cons.mp m with e | m'
    · cases e
      simp at h
    · have ne : (x == y) = false := by
        rw [beq_eq_false_iff_ne]; rintro rfl
        exact hn.1 (List.mem_map.mpr ⟨_, m', rfl⟩)
      rw [ne] at h
      exact free_local hn.2 h m'

section
variable {c : Cx} {n : Nat} {env : Env} {loc : Loc} {σ σ' : Store} {kp kp' st : Lk} {h h' : Heap}

theorem tests_o {A : Around} {ifs : List Expr} {K : Bool → Store → Prop} {tk : Nat} (x : WTs c n env ifs loc σ K) (r : Room A n) (s : SatC c kp st σ h) (F : Frm env loc kp st σ h) :
    wpAny c.M A (forIn ifs true fun cnd q => if q = true then do let ok ← isTrue cnd env (eval cnd env); pure (ForInStep.yield ok) else pure (ForInStep.yield q)) (PF c env loc st kp Same K) NoE (S c.s₀ h tk) := by
  match ifs, x with
  | [], x => exact wpAny_tests_nil (pf_end s F rfl x)
  | [t], x => exact wpAny_tests_one (x A kp st h tk r s F)
  | _ :: _ :: _, x => exact x.elim

theorem comp_open {A : Around} {scope : Scope} {Q : Value → Env → Shared → Prop} {tk : Nat} (s : SatC c kp st σ h) (F : Frm env loc kp (fun a => if a ∈ fa env then none else st a) σ h) (hfst : ∀ a ∈ fa env, ∃ o, st a = some o)
    (hkind : scope.kind = .function) (hfree : ∀ x, (x, NameKind.free) ∈ scope.names → env.kindOf x = some .cell ∧ (env.cells.lookup x).isSome = true) (hnd : (scope.names.map (·.1)).Nodup) (hcell : ∀ y ∈ scope.names, y.2 ≠ .cell)
    (k : ∀ D C h₁ cenv, cenv.locals = C → { cenv with scope := relabel scope env } = compEnvC scope (closL env scope.names []) C env → D ≠ C → h.get? D = none → h.get? C = none → kp D = none ∧ st D = none ∧ σ D = none → C ∉ fa env → D ∉ fa env →
      (∀ b o, h.get? b = some o → h₁.get? b = some o) → h₁.get? D = some (lob [] 0) → SatC c kp st σ h₁ → Frm (compEnvC scope (closL env scope.names []) C env) (inner scope loc) kp st σ h₁ → (∀ a ∈ fa (compEnvC scope (closL env scope.names []) C env), a = C ∨ a ∈ fa env) → Q (.ref D) cenv (S c.s₀ h₁ tk)) :
    wpAny c.M A (newList []) (fun acc s₃ => wpAny c.M A (newFunctionEnv scope env.globals (closL env scope.names []) [] env.qual none .none (some env)) (Q acc) NoE s₃) NoE (S c.s₀ h tk) := by
  refine wpAny_newObj_type (wpAny_newFunctionEnv hcell (by intro y hy; simp at hy) (fun h₁ hns₁ hsb₁ => ?_) hkind)
  dsimp only at hns₁ hsb₁ ⊢
  generalize hD0 : h.objs.size = D
  have sD := s.push (lob [] 0)
  have eD : (h.push (lob [] 0)).get? D = some (lob [] 0) := by rw [← hD0]; exact Heap.get?_push_size _ rfl
  have nD : kp D = none ∧ st D = none ∧ σ D = none := by rw [← hD0]; exact s.new
  have hDfresh : h.get? D = none := by rw [← hD0]; exact get_size h
  change Heap.Ns h₁ (h.push (lob [] 0)).objs.size _ at hns₁
  change Heap.SameBut (h.push (lob [] 0)).objs.size ((h.push (lob [] 0)).push _) h₁ at hsb₁
  generalize hC0 : (h.push (lob [] 0)).objs.size = C at hns₁ hsb₁
  have hCfresh : (h.push (lob [] 0)).get? C = none := by rw [← hC0]; exact get_size _
  have nC := sD.fresh hCfresh
  have hDC : D ≠ C := by rintro rfl; rw [eD] at hCfresh; cases hCfresh
  have k1 : ∀ b o, (h.push (lob [] 0)).get? b = some o → h₁.get? b = some o := fun b o e =>
    hsb₁.extBut b o (by rintro rfl; rw [hCfresh] at e; cases e) (Heap.get?_push_of_some _ e)
  have k0 : ∀ b o, h.get? b = some o → h₁.get? b = some o := fun b o e => k1 b o (Heap.get?_push_of_some _ e)
  have s1 : SatC c kp st σ h₁ := sD.keep k1
  have hCne : C ∉ fa env := fun m => by
    obtain ⟨o, e⟩ := hfst C m
    rw [nC.2.1] at e; cases e
  have hDne : D ∉ fa env := fun m => by
    obtain ⟨o, e⟩ := hfst D m
    rw [nD.2.1] at e; cases e
  have FI : Frm (compEnvC scope (closL env scope.names []) C env) (inner scope loc) kp st σ h₁ :=
    F.comp s1 (fun a _ o e => k0 a o e) (fun a m => (F.fa_ a m).2.2) hkind hfree hnd hns₁ nC.1 nC.2.1 nC.2.2
  have faI : ∀ a ∈ fa (compEnvC scope (closL env scope.names []) C env), a = C ∨ a ∈ fa env := by
    intro a m
    cases m with
    | head => exact .inl rfl
    | tail _ m =>
      obtain ⟨p, hp, rfl⟩ := List.mem_map.mp m
      rcases closL_mem _ _ p hp with z | ⟨z, z'⟩
      · simp at z
      · obtain ⟨q, e⟩ := Option.isSome_iff_exists.mp (hfree p.1 z).2
        refine .inr (.tail _ (List.mem_map.mpr ⟨(p.1, q), mem_of_lookup e, ?_⟩))
        rw [z', e]; rfl
  have hCh : h.get? C = none := by
    cases q : h.get? C with
    | none => rfl
    | some o => have := Heap.get?_push_of_some (lob [] 0) q; rw [hCfresh] at this; cases this
  have eD1 := k1 D _ eD
  subst hC0
  subst hD0
  exact k _ _ h₁ _ rfl rfl hDC hDfresh hCh nD hCne hDne k0 eD1 s1 FI faI

inductive CInv (c : Cx) (env : Env) (loc : Loc) (L : Lent) (fp wr : List Addr) (kp st : Lk) (len : Nat) (D : Addr) (St : Nat → Heap → Prop) (Inv : Nat → List V → Store → Prop) (m : Nat) (s' : Shared) : Prop
  | mk (i : Nat) (acc : List V) (kp' : Lk) (σ' : Store) (h' : Heap) (tk' : Nat) (vs : List Value) (e : s' = S c.s₀ h' tk') (em : i ≤ len ∧ m + i = len + 1) (le : Le kp kp') (s : SatC c kp' st σ' h') (F : Frm env loc kp' st σ' h')
      (G : Gd c (fa env) L fp wr kp' st σ' h') (hSt : St i h') (inv : Inv i acc σ') (hD : h'.PlainList D (List.toArray vs)) (hr : Reps kp' acc vs) (ha : acc.length ≤ i) : CInv c env loc L fp wr kp st len D St Inv m s'

theorem comp_core {A : Around} {RR : Value → Addr → Result → Shared → Prop} {elt iter : Expr} {x : Str} {px : Pos} {ifs : List Expr} {scope : Scope} {pos : Pos} {l : List V} {L : Lent} {I : Addr} {fp wr : List Addr} {P : Nat → Value → Prop} {St : Nat → Heap → Prop} {Inv : Nat → List V → Store → Prop} {tk : Nat}
    (r : Room A n) (s : SatC c kp st σ h) (F : Frm env loc kp (fun a => if a ∈ fa env then none else st a) σ h) (hfst : ∀ a ∈ fa env, ∃ o, st a = some o) (G : Gd c (fa env) L fp wr kp st σ h)
    (hI : l.length ≤ 1000) (W : Walks c.prog c.w A I fp wr l.length P St) (st0 : St 0 h) (ex : ∀ i h, St i h → ∀ a ∈ fp, ∃ o, h.get? a = some o) (hP : ∀ i u, P i u → ∃ y, l[i]? = some y ∧ Rep kp y u)
    (hkind : scope.kind = .function) (hfree : ∀ x, (x, NameKind.free) ∈ scope.names → env.kindOf x = some .cell ∧ (env.cells.lookup x).isSome = true) (hnd : (scope.names.map (·.1)).Nodup) (hcell : ∀ y ∈ scope.names, y.2 ≠ .cell)
    (hx : scope.names.lookup x = some .local) (hxd : (x == ("__debug__" : Str)) = false)
    (i0 : Inv 0 [] σ)
    (step : ∀ C i y acc σ', l[i]? = some y → Inv i acc σ' → WTs c n (compEnvC scope (closL env scope.names []) C env) ifs ((x, y) :: inner scope loc) σ' fun b σ2 =>
      (b = true → WE c n (compEnvC scope (closL env scope.names []) C env) elt ((x, y) :: inner scope loc) σ2 fun z σ3 => Inv (i + 1) (acc ++ [z]) σ3) ∧ (b = false → Inv (i + 1) acc σ2))
    (fin : ∀ D C h' tk' kp' σ' acc m, Inv l.length acc σ' → Le kp kp' → Rep kp' (.flst acc) (.ref D) → SatC c kp' st (backS L σ') h' → h'.Ns C m → kp' C = none → st C = none → backS L σ' C = none → C ∉ fa env → RR (.ref D) C (.ok .next) (S c.s₀ h' tk')) :
    wpAny c.M A (newList []) (fun acc s₃ => wpAny c.M A (newFunctionEnv scope env.globals (closL env scope.names []) [] env.qual none .none (some env)) (fun cenv s₄ =>
      codeAny c.M A (.compStart (.ListComp elt [⟨.Name x px, iter, ifs, 0⟩] scope pos) 0 (.ref I) acc { cenv with scope := relabel scope env }) (RR acc cenv.locals) s₄) NoE s₃) NoE (S c.s₀ h tk) := by
  refine comp_open s F hfst hkind hfree hnd hcell fun D C h₁ cenv ec1 ec2 hDC hDfresh hCfresh nD hCne hDne k0 eD1 s1 FI faI => ?_
  rw [ec2, ec1]
  have hDfp : D ∉ fp := fun m => by obtain ⟨o, e⟩ := G.ex D m; rw [hDfresh] at e; cases e
  have hCfp : C ∉ fp := fun m => by obtain ⟨o, e⟩ := G.ex C m; rw [hCfresh] at e; cases e
  have GI : Gd c (fa (compEnvC scope (closL env scope.names []) C env)) L (D :: fp) (D :: wr) kp st σ h₁ := by
    refine ⟨fun a m => ?_, fun a m => ?_, fun a m => ?_, fun a m z => ?_, fun a m => ?_, fun a y e => ?_⟩
    · cases m with
      | head => exact .head _
      | tail _ m => exact .tail _ (G.sub a m)
    · cases m with
      | head => exact nD.2.2
      | tail _ m => exact G.sg a m
    · cases m with
      | head => exact ⟨_, eD1⟩
      | tail _ m => obtain ⟨o, e⟩ := G.ex a m; exact ⟨o, k0 a o e⟩
    · rcases faI a z with rfl | z
      · cases m with
        | head => exact hDC rfl
        | tail _ m => exact hCfp m
      · cases m with
        | head => exact hDne z
        | tail _ m => exact G.fe a m z
    · cases m with
      | head => exact ⟨nD.1, nD.2.1⟩
      | tail _ m => exact G.wk a m
    · obtain ⟨m, w1, q1, q2, q3, o, e1, e2⟩ := G.lk a y e
      refine ⟨.tail _ m, fun z => ?_, q1, q2, q3, o, k0 a o e1, e2⟩
      cases z with
      | head => exact hDfp m
      | tail _ z => exact w1 z
  have st1 : St 0 h₁ := W.frame 0 _ _ st0 fun b _ o e => k0 b o e
  have loop : codeAny c.M A (.compLoop (.ListComp elt [⟨.Name x px, iter, ifs, 0⟩] scope pos) 0 (.ref I) (.ref D) (compEnvC scope (closL env scope.names []) C env)) (RR (.ref D) C) (S c.s₀ h₁ tk) := by
    refine codeAny_compLoop_tests (CInv c (compEnvC scope (closL env scope.names []) C env) (inner scope loc) L (D :: fp) (D :: wr) kp st l.length D St Inv) ?_ (l.length + 1)
      ⟨0, [], kp, σ, h₁, tk, [], rfl, ⟨Nat.zero_le _, rfl⟩, Le.refl _, s1, FI, GI, st1, i0, ⟨0, eD1⟩, .nil, Nat.le_refl _⟩
    rintro m s' ⟨i, acc, kp', σ', h', tk', vs, rfl, em, le', s', F', G', hSt, inv, hDl, hrs, hal⟩
    by_cases hlt : i < l.length
    · refine W.item i _ _ _ hlt hSt fun u h3 tk3 hPu hSt3 k3 => ?_
      obtain ⟨y, ey, ry⟩ := hP i u hPu
      have k3' : ∀ b o, b ∉ (D :: wr) → h'.get? b = some o → h3.get? b = some o := fun b o hb e => k3 b o (fun z => hb (.tail _ z)) e
      have eD3 : h3.PlainList D vs.toArray := hDl.at fun o e => k3 D o (fun z => hDfp (G.sub D z)) e
      obtain ⟨s3, G3⟩ := G'.step s' k3' (fun a ma => by
        cases ma with
        | head => obtain ⟨nn, e⟩ := eD3; exact ⟨_, e⟩
        | tail _ ma => exact ex _ _ hSt3 a ma)
      have F3 := G'.stepF F' k3'
      have sP := G3.sat s3
      have FP := G3.frm F3
      have hxl : (compEnvC scope (closL env scope.names []) C env).scope.names.lookup x = some .local := lookup_relabel_local hx
      refine wpAny_assign_Name (wpAny_mono (store_o (c := c) sP FP (ry.mono le') (by unfold storable; rw [hxl, hxd]; rfl) (fun e => by rw [hxl] at e; cases e) fun h4 tk4 s4 F4 => ?_) (fun _ _ z => z) fun _ _ e => e.elim)
      refine wpAny_mono (tests_o (step C i y acc σ' ey inv) r s4 F4) (fun ok s5 ⟨b, kp5, σ5, h5, tk5, e5, l5, q5, s5, F5, y5⟩ => ?_) fun _ _ e => e.elim
      cases q5
      subst e5
      cases ok with
      | false =>
        rw [if_neg (by decide)]
        obtain ⟨same, s6, G6⟩ := G3.after s3 l5 s5
        have F6 := (F5.ofSt (stG_le s3)).weaken (loc' := inner scope loc) fun z V e => by
          rw [List.lookup_cons]
          split
          · rename_i hz
            have : z = x := beq_iff_eq.mp hz
            subst this
            have := (inner_inv e).1
            exact (free_local hnd hx this).elim
          · exact e
        exact ⟨m - 1, by omega, i + 1, acc, kp5, σ5, h5, tk5, vs, rfl, ⟨by omega, by omega⟩, le'.trans l5, s6, F6, G6, W.frame _ _ _ hSt3 (fun a ma => same a (.tail _ ma)), y5.2 rfl, eD3.at (same D (.head _)), hrs.mono l5, by omega⟩
      | true =>
        rw [if_pos rfl]
        refine wpAny_mono (y5.1 rfl A kp5 _ h5 tk5 r s5 F5) (fun zv s7 ⟨z, kp7, σ7, h7, tk7, e7, l7, q7, s7', F7, k7⟩ => ?_) fun _ _ e => e.elim
        subst e7
        obtain ⟨same, s8, G8⟩ := G3.after s3 (l5.trans l7) s7'
        have F8 := (F7.ofSt (stG_le s3)).weaken (loc' := inner scope loc) fun w V e => by
          rw [List.lookup_cons]
          split
          · rename_i hz
            have : w = x := beq_iff_eq.mp hz
            subst this
            have := (inner_inv e).1
            exact (free_local hnd hx this).elim
          · exact e
        have hlen := hrs.length
        refine wpAny_list_append_plain (eD3.at (same D (.head _))) (fun h9 hl9 hs9 => ?_) (by rw [List.size_toArray, hlen, sizeLine_eq]; omega)
        have wkD := G8.wk D (.head _)
        have s9 : SatC c kp7 st σ7 h9 := s8.other wkD.1 wkD.2 (G8.sg D (.head _)) hs9.extBut
        have F9 := F8.ext (h' := h9) fun a ma o e => hs9.extBut a o (fun z => G8.fe D (.head _) (z ▸ ma)) e
        have G9 : Gd c (fa (compEnvC scope (closL env scope.names []) C env)) L (D :: fp) (D :: wr) kp7 st σ7 h9 := (G8.step s8 (fun b o hb e => hs9.extBut b o (fun z => hb (z ▸ .head _)) e) (fun a ma => by
          cases ma with
          | head => obtain ⟨nn, e⟩ := hl9; exact ⟨_, e⟩
          | tail _ ma =>
            obtain ⟨o, e⟩ := G8.ex a (.tail _ ma)
            exact ⟨o, hs9.extBut a o (fun z => hDfp (z ▸ ma)) e⟩)).2
        refine ⟨m - 1, by omega, i + 1, acc ++ [z], kp7, σ7, h9, tk7, vs ++ [zv], rfl, ⟨by omega, by omega⟩, le'.trans (l5.trans l7), s9, F9, G9, W.frame _ _ _ hSt3 (fun a ma o e => hs9.extBut a o (fun z => hDfp (z ▸ ma)) (same a (.tail _ ma) o e)), k7, ?_, (hrs.mono (l5.trans l7)).append (Reps.one q7), by rw [List.length_append, List.length_singleton]; omega⟩
        rw [List.push_toArray] at hl9
        exact hl9
    · have ei : i = l.length := by omega
      subst ei
      refine W.done _ _ _ hSt fun h3 tk3 k3 => ?_
      have k3' : ∀ b o, b ∉ (D :: wr) → h'.get? b = some o → h3.get? b = some o := fun b o hb e => k3 b o (fun z => hb (.tail _ z)) e
      have s4 := G'.done s' k3'
      have F4 := G'.doneF F' k3'
      obtain ⟨nn, eDl⟩ : h3.PlainList D vs.toArray := hDl.at fun o e => k3 D o (fun z => hDfp (G.sub D z)) e
      have wkD := G'.wk D (.head _)
      have bD : backS L σ' D = none := by
        cases L with
        | none => exact G'.sg D (.head _)
        | some p =>
          obtain ⟨a, y⟩ := p
          have := (G'.lk a y rfl).2.1
          show put σ' a y D = none
          rw [put_ne _ _ (fun z : D = a => this (by rw [← z]; exact .head _))]
          exact G'.sg D (.head _)
      obtain ⟨⟨oC, eC⟩, c1, c2⟩ := F4.fa_ C (.head _)
      obtain ⟨mC, hmC, _⟩ := F4.ns
      refine fin D C h3 tk3 (put kp' D (lob vs nn)) σ' acc mC inv (le'.trans (le_put wkD.1)) (.flst (n := nn) (put_self _ _ _) rfl rfl (hrs.mono (le_put wkD.1))) (s4.kput wkD.1 wkD.2 bD eDl) hmC ?_ F4.own c2 hCne
      rw [put_ne _ _ hDC.symm]; exact c1
  exact codeAny_compStart_list loop (W.self 0 _ _ _ st1 loop)

structure CompOk (env : Env) (scope : Scope) (x : Str) : Prop where
  kind : scope.kind = .function
  free : ∀ x, (x, NameKind.free) ∈ scope.names → env.kindOf x = some .cell ∧ (env.cells.lookup x).isSome = true
  nd : (scope.names.map (·.1)).Nodup
  cell : ∀ y ∈ scope.names, y.2 ≠ .cell
  locs : ∀ y ∈ scope.names, y.2 = .local → scope.names.lookup y.1 = some .local
  tgt : scope.names.lookup x = some .local
  dbg : (x == ("__debug__" : Str)) = false

inductive Turns (c : Cx) (n : Nat) (env : Env) (loc : Loc) (scope : Scope) (x : Str) (ifs : List Expr) (elt : Expr) (v : V) (σ1 : Store) (K : V → Store → Prop) : Prop
  | mk (l : List V) (L : Lent) (it : OIter c n v l σ1 L) (hl : l.length ≤ 1000) (Inv : Nat → List V → Store → Prop) (i0 : Inv 0 [] (lendS L σ1))
      (step : ∀ C i y acc σ', l[i]? = some y → Inv i acc σ' → WTs c n (compEnvC scope (closL env scope.names []) C env) ifs ((x, y) :: inner scope loc) σ' fun b σ2 =>
        (b = true → WE c n (compEnvC scope (closL env scope.names []) C env) elt ((x, y) :: inner scope loc) σ2 fun z σ3 => Inv (i + 1) (acc ++ [z]) σ3) ∧ (b = false → Inv (i + 1) acc σ2))
      (fin : ∀ acc σ', Inv l.length acc σ' → K (.flst acc) (backS L σ')) : Turns c n env loc scope x ifs elt v σ1 K

theorem comp_o {A : Around} {use : Option (Value → Sem Unit)} {Q : Value → Shared → Prop} {elt iter : Expr} {x : Str} {px : Pos} {ifs : List Expr} {scope : Scope} {pos : Pos} {K : V → Store → Prop} {tk : Nat}
    (ok : CompOk env scope x) (r : Room A n) (s : SatC c kp st σ h) (F : Frm env loc kp st σ h) (y : WE c n env iter loc σ fun v σ1 => Turns c n env loc scope x ifs elt v σ1 K)
    (hs : ∀ x, foldedSetIterable iter env x = pure x)
    (fin : ∀ D C h' tk' kp' σ' acc m, K (.flst acc) σ' → Le kp kp' → Rep kp' (.flst acc) (.ref D) → SatC c kp' st σ' h' → Frm env loc kp' st σ' h' → h'.Ns C m → kp' C = none → st C = none → σ' C = none → C ∉ fa env →
      compPost c.M A NoE use Q (.ref D) C (.ok .next) (S c.s₀ h' tk')) :
    wpAny c.M A (comprehension (.ListComp elt [⟨.Name x px, iter, ifs, 0⟩] scope pos) scope env (firstIterPos [⟨.Name x px, iter, ifs, 0⟩] pos) (newList []) false (eval iter env) use) Q NoE (S c.s₀ h tk) := by
  refine wpAny_comprehension_free rfl hs (closureFor_L fun x hx => (ok.free x hx).2) ok.kind ok.locs (wpAny_mono (y A kp st h tk r s F) (fun v s' ⟨xv, kp1, σ1, h1, tk1, e1, l1, q1, s1, F1, l, L, hI, hl, Inv, i0, step, fin'⟩ => ?_) fun _ _ e => e)
  subst e1
  have sO := F1.satF s1
  refine wpAny_mono (hI A kp1 (stF env h1 st) h1 tk1 v r sO q1) (fun it s' ⟨I, fp, wr, P, St, h2, tk2, e2, eI, W, st0, ex, s2, k2, hf, sg, hw, hP, hL⟩ => ?_) fun _ _ e => e.elim
  subst e2 eI
  have G2 : Gd c (fa env) L fp wr kp1 (stF env h1 st) (lendS L σ1) h2 := iter_gd (x := xv) sO s2 (fun a m => (F1.fa_ a m).1) (fun a m => (F1.fa_ a m).2) W st0 ex k2 hf sg hw hL
  have F2 : Frm env loc kp1 st (lendS L σ1) h2 := (F1.ext fun a _ o e => k2 a o e).store fun a m => lendS_none (F1.fa_ a m).2.2
  have F2' : Frm env loc kp1 (fun a => if a ∈ fa env then none else stF env h1 st a) (lendS L σ1) h2 :=
    ⟨F2.fun_, F2.glob, F2.blt, if_pos (.head _), F2.fa_, fun _ a m => if_pos m, fun a m o e => (by rw [if_pos m] at e; cases e), F2.apart, F2.ns, F2.cells, F2.kinds⟩
  refine comp_core (st := stF env h1 st) r s2 F2' (fun a m => by rw [stF_mem m]; exact (F1.fa_ a m).1) G2 hl W st0 ex hP ok.kind ok.free ok.nd ok.cell ok.tgt ok.dbg i0 step fun D C h' tk' kp' σ' acc m inv le' rD s' hm c1 c2 c3 c4 => ?_
  exact fin D C h' tk' kp' _ acc m (fin' acc σ' inv) (l1.trans le') rD (s'.weakSt F1.le_stF) (F1.after le' s') hm c1 (by
    unfold stF at c2; rw [if_neg c4] at c2; exact c2) c3 c4

theorem WE_comp {elt iter : Expr} {x : Str} {px : Pos} {ifs : List Expr} {scope : Scope} {pos : Pos} {K : V → Store → Prop} (ok : CompOk env scope x)
    (y : WE c n env iter loc σ fun v σ1 => Turns c n env loc scope x ifs elt v σ1 K)
    (hs : ∀ x, foldedSetIterable iter env x = pure x := by intro _; rfl) : WE c n env (.ListComp elt [⟨.Name x px, iter, ifs, 0⟩] scope pos) loc σ K := fun A kp st h tk r s F => by
  rw [eval_ListComp]
  refine comp_o (use := none) ok r s F y hs fun D C h' tk' kp' σ' acc m hk le' rD s' F' hm c1 c2 c3 c4 => ?_
  refine ⟨m, hm, fun h'' hsb => ?_⟩
  exact ⟨.flst acc, kp', σ', h'', tk', rfl, le', rD, s'.other c1 c2 c3 hsb.extBut, F'.ext fun a ma o e => hsb.extBut a o (fun z => c4 (z ▸ ma)) e, hk⟩

theorem WS_comp {y : Str} {py spos : Pos} {elt iter : Expr} {x : Str} {px : Pos} {ifs : List Expr} {scope sc : Scope} {pos : Pos} {K : Fl → Loc → Store → Prop} (O : EnvOk env sc) (ok : CompOk env scope x) (hy : sc.names.lookup y = some .local) (hyd : (y == ("__debug__" : Str)) = false)
    (z : WE c n env iter loc σ fun v σ1 => Turns c n env loc scope x ifs elt v σ1 fun u σ2 => K .next ((y, u) :: loc) σ2)
    (hsw : swapsWith (.ListComp elt [⟨.Name x px, iter, ifs, 0⟩] scope pos) (some (.Name y py)) spos.line env = pure true)
    (hs : ∀ x, foldedSetIterable iter env x = pure x := by intro _; rfl) : WS c n env (.Assign [.Name y py] (.ListComp elt [⟨.Name x px, iter, ifs, 0⟩] scope pos) spos) loc σ K := fun A kp st h tk r s F => by
  rw [exec_Assign_Name_used _ _ _ _ hsw]
  refine wpAny_bind (wpAny_standAt (wpAny_bind ?_))
  show wpAny _ A (do let _ ← comprehension (.ListComp elt [⟨.Name x px, iter, ifs, 0⟩] scope pos) scope env _ (newList []) false (eval iter env) (some (assign (.Name y py) env))) _ _ _
  refine wpAny_bind (comp_o (use := some (assign (.Name y py) env)) ok r s F z hs fun D C h' tk' kp' σ' acc m hk le' rD s' F' hm c1 c2 c3 c4 => ?_)
  obtain ⟨oC, es, ep, eC, hrest⟩ := hm
  have sP := s'.prot eC c1 c3
  have FP : Frm env loc kp' (put st C oC) σ' h' := by
    have o : ∀ a ∈ fa env, put st C oC a = st a := fun a ma => put_ne _ _ fun z => c4 (z ▸ ma)
    exact ⟨F'.fun_, F'.glob, F'.blt, (o _ (.head _)).trans F'.own, F'.fa_, fun q a ma => (o a ma).trans (F'.cown q a ma), fun a ma u e => F'.st_eq a ma u ((o a ma).symm.trans e), F'.apart, F'.ns, F'.cells, F'.kinds⟩
  have hst : storable env.scope y = true := by unfold storable; rw [O.scp, hy, hyd]; rfl
  show wpAny _ A (assign (.Name y py) env (.ref D)) _ _ _
  refine wpAny_assign_Name (store_o (c := c) sP FP rD hst (fun e => by rw [O.scp, hy] at e; cases e) fun h2 tk2 s2 F2 => ?_)
  have eC2 := s2.st_ok C oC (put_self _ _ _)
  refine ⟨m, ⟨oC, es, ep, eC2, hrest⟩, fun h'' hsb => wpAny_pure (wpAny_pure ?_)⟩
  have s3 : SatC c kp' st σ' h2 := s2.weakSt (le_put c2)
  have F3 : Frm env ((y, .flst acc) :: loc) kp' st σ' h2 := F2.ofSt (le_put c2)
  exact ⟨.next, (y, .flst acc) :: loc, kp', σ', h'', tk2, rfl, le', .next, s3.other c1 c2 c3 hsb.extBut, F3.ext fun a ma o e => hsb.extBut a o (fun z => c4 (z ▸ ma)) e, hk⟩
end
end
section
noncomputable def upto (n : Nat) : List V := (List.range n).map fun (i : Nat) => V.int (i : Int)

theorem Walks.lt {prog : Program} {w : World} {A : Around} {I : Addr} {fp wr : List Addr} {n : Nat} {P : Nat → Value → Prop} {St : Nat → Heap → Prop} (W : Walks prog w A I fp wr n P St) : Walks prog w A I fp wr n (fun i v => i < n ∧ P i v) St where
  sub := W.sub
  frame := W.frame
  item := fun i s Q E hi st hQ => W.item i s Q E hi st fun v h' tk hp hst hk => hQ v h' tk ⟨hi, hp⟩ hst hk
  done := W.done
  self := W.self

section
variable {c : Cx} {n : Nat} {σ : Store}

theorem old_size {h : Heap} {a : Addr} {o : Obj} (e : h.get? a = some o) : a ≠ h.objs.size := Nat.ne_of_lt (Heap.lt_size e)
theorem isIter_pair {St : Nat → Heap → Prop} {I a : Addr} (h1 : ∀ i h, St i h → (∃ o, h.get? I = some o) ∧ ∃ o, h.get? a = some o) : ∀ i h, St i h → ∀ b ∈ [I, a], ∃ o, h.get? b = some o := fun i h st b m => by
  rcases List.mem_cons.mp m with rfl | m
  · exact (h1 i h st).1
  · rw [List.mem_singleton.mp m]; exact (h1 i h st).2

theorem iter_new {A : Around} {kp st : Lk} {h : Heap} {tk : Nat} {l : List V} {m : Nat} {a : Addr} {oa oi : Obj} {P : Nat → Value → Prop} {St : Nat → Heap → Prop} {L : Lent} (s : SatC c kp st σ h) (ea : h.get? a = some oa) (hf : oi.isFreed = false)
    (own : (L = none ∧ ∃ o, kp a = some o) ∨ ∃ y, L = some (a, y) ∧ σ a = some y)
    (W : Walks c.prog c.w A h.objs.size [h.objs.size, a] [h.objs.size] m P St) (hm : m = l.length) (st0 : St 0 (h.push oi)) (h1 : ∀ i h', St i h' → (∃ o, h'.get? h.objs.size = some o) ∧ ∃ o, h'.get? a = some o)
    (hP : ∀ i u, P i u → ∃ y, l[i]? = some y ∧ Rep kp y u) :
    OIP c A l σ L kp st h (.ref h.objs.size) (S c.s₀ (h.push oi) tk) := by
  have nw := s.new
  refine ⟨_, _, _, P, St, _, tk, rfl, rfl, hm ▸ W, st0, isIter_pair h1, ?_, fun b o e => Heap.get?_push_of_some _ e, fun b m => ?_, fun b m => ?_, fun b m => ?_, hP, fun b y e => ?_⟩
  · cases L with
    | none => exact s.push oi
    | some p => exact (s.push oi).del p.1
  · rcases List.mem_cons.mp m with rfl | m
    · exact .inl (get_size h)
    · rw [List.mem_singleton.mp m]
      refine .inr ⟨oa, ea, ?_⟩
      rcases own with ⟨_, o, e⟩ | ⟨y, _, e⟩
      · exact .inl (by rw [e]; simp)
      · exact .inr (by rw [e]; simp)
  · rcases List.mem_cons.mp m with rfl | m
    · exact lendS_none nw.2.2
    · rw [List.mem_singleton.mp m]
      rcases own with ⟨rfl, o, e⟩ | ⟨y, rfl, e⟩
      · show σ a = none
        cases q : σ a with
        | none => rfl
        | some z => have := (s.d2 a z q).1; rw [e] at this; cases this
      · exact del_self _ _
  · rw [List.mem_singleton.mp m]
    exact ⟨nw.1, nw.2.1, get_size h⟩
  · rcases own with ⟨rfl, _⟩ | ⟨y', rfl, e'⟩
    · cases e
    · cases e
      exact ⟨.tail _ (.head _), fun m => old_size ea (List.mem_singleton.mp m), e'⟩

theorem Iter_flst (l : List V) : OIter c n (.flst l) l σ none := fun A kp st h tk v r s p => by
  cases p with
  | @flst _ a o vs m ho hc hd rr =>
    have ea := s.kp_ok _ _ ho
    have hL : h.IsList a vs.toArray := ⟨o, ea, hc, m, hd⟩
    have hl : vs.toArray.size = l.length := by rw [List.size_toArray, rr.length]
    refine wpAny_pyIter_list hL ?_
    have W := Walks.list (prog := c.prog) (w := c.w) (A := A) r.1 h.objs.size a (old_size ea) vs.toArray
    refine iter_new s ea rfl (.inl ⟨rfl, o, ho⟩) W hl ⟨⟨_, Heap.get?_push_size _ rfl, rfl, rfl⟩, _, Heap.get?_push_of_some _ ea, hc, m, hd⟩ (fun i h' q => ⟨let ⟨o, e, _⟩ := q.1; ⟨o, e⟩, let ⟨o, e, _⟩ := q.2; ⟨o, e⟩⟩) fun i u q => ?_
    have q' : vs[i]? = some u := by simpa using q
    have hi : i < l.length := by rw [← rr.length]; exact (List.getElem?_eq_some_iff.mp q').1
    obtain ⟨u', e1, e2⟩ := rr.get (i := i) (x := l[i]) (by simp [hi])
    rw [q'] at e1; cases e1
    exact ⟨l[i], by simp [hi], e2⟩
theorem Iter_tup (l : List V) : OIter c n (.tup l) l σ none := fun A kp st h tk v r s p => by
  cases p with
  | @tup _ a o vs m ho hc hd rr =>
    have ea := s.kp_ok _ _ ho
    have hL : h.IsTuple a vs.toArray := ⟨o, ea, hc, m, hd⟩
    have hl : vs.toArray.size = l.length := by rw [List.size_toArray, rr.length]
    refine wpAny_pyIter_tuple hL ?_
    have W := Walks.tuple (prog := c.prog) (w := c.w) (A := A) r.1 h.objs.size a (old_size ea) vs.toArray
    refine iter_new s ea rfl (.inl ⟨rfl, o, ho⟩) W hl ⟨⟨_, Heap.get?_push_size _ rfl, rfl, rfl⟩, _, Heap.get?_push_of_some _ ea, hc, m, hd⟩ (fun i h' q => ⟨let ⟨o, e, _⟩ := q.1; ⟨o, e⟩, let ⟨o, e, _⟩ := q.2; ⟨o, e⟩⟩) fun i u q => ?_
    have q' : vs[i]? = some u := by simpa using q
    have hi : i < l.length := by rw [← rr.length]; exact (List.getElem?_eq_some_iff.mp q').1
    obtain ⟨u', e1, e2⟩ := rr.get (i := i) (x := l[i]) (by simp [hi])
    rw [q'] at e1; cases e1
    exact ⟨l[i], by simp [hi], e2⟩
theorem Iter_list {a : Addr} {l : List V} (ha : σ a = some (.list l)) : OIter c n (.ref a) l σ (some (a, .list l)) := fun A kp st h tk v r s p => by
  cases p
  obtain ⟨vs, m, ea, hL, rr⟩ := s.getList ha
  have hl : vs.toArray.size = l.length := by rw [List.size_toArray, rr.length]
  refine wpAny_pyIter_list hL ?_
  have W := Walks.list (prog := c.prog) (w := c.w) (A := A) r.1 h.objs.size a (old_size ea) vs.toArray
  refine iter_new s ea rfl (.inr ⟨_, rfl, ha⟩) W hl ⟨⟨_, Heap.get?_push_size _ rfl, rfl, rfl⟩, _, Heap.get?_push_of_some _ ea, rfl, m, rfl⟩ (fun i h' q => ⟨let ⟨o, e, _⟩ := q.1; ⟨o, e⟩, let ⟨o, e, _⟩ := q.2; ⟨o, e⟩⟩) fun i u q => ?_
  have q' : vs[i]? = some u := by simpa using q
  have hi : i < l.length := by rw [← rr.length]; exact (List.getElem?_eq_some_iff.mp q').1
  obtain ⟨u', e1, e2⟩ := rr.get (i := i) (x := l[i]) (by simp [hi])
  rw [q'] at e1; cases e1
  exact ⟨l[i], by simp [hi], e2⟩
theorem Iter_rng {m : Nat} (hm : m ≤ 1000) : OIter c n (.rng m) (upto m) σ none := fun A kp st h tk v r s p => by
  cases p with
  | @rng _ ra t u v hr =>
    have ea := s.kp_ok _ _ hr
    have hsz : Builtin.Range.rangeSize 0 m 1 = m := by
      rw [rangeSize_one]; split <;> omega
    have hsmall : Builtin.Range.small 0 m 1 = true := by
      have fit : ∀ i : Int, -2 ≤ i → i ≤ 2000 → Builtin.Range.rangeFitsLong i = true := fun i h1 h2 => by
        unfold Builtin.Range.rangeFitsLong
        rw [Bool.and_eq_true, decide_eq_true_iff, decide_eq_true_iff]
        have e : (2 : Int) ^ 63 = 9223372036854775808 := by decide
        rw [e]; omega
      unfold Builtin.Range.small
      rw [hsz, fit 0 (by omega) (by omega), fit m (by omega) (by omega), fit 1 (by omega) (by omega), if_pos (by decide), fit (m + (1 - 1)) (by omega) (by omega), Bool.or_true]
      rfl
    refine wpAny_pyIter_range ea hsmall ?_
    have nw := s.new
    have W := Walks.lt (Walks.range (prog := c.prog) (w := c.w) (A := A) r.1 h.objs.size 0 1 m)
    have hl : (upto m).length = m := by simp [upto]
    refine ⟨_, _, _, _, _, _, tk, rfl, rfl, by rw [hl]; exact W, ?_, fun i h q b mb => by rw [List.mem_singleton.mp mb]; exact ⟨_, q⟩, s.push _, fun b o e => Heap.get?_push_of_some _ e, fun b mb => ?_, fun b mb => ?_, fun b mb => ?_, fun i u q => ?_, fun b y e => by cases e⟩
    · show IsRangeIter _ _ _ _ _
      rw [hsz]; simpa using Heap.get?_push_size h rfl
    · rw [List.mem_singleton.mp mb]; exact .inl (get_size h)
    · rw [List.mem_singleton.mp mb]; exact nw.2.2
    · rw [List.mem_singleton.mp mb]; exact ⟨nw.1, nw.2.1, get_size h⟩
    · obtain ⟨hi, t, rfl⟩ := q
      refine ⟨.int i, by simp [upto, hi], ?_⟩
      have : (0 : Int) + (i : Int) * 1 = i := by omega
      rw [this]; exact .int _ _
theorem Sat.getRaw {prog : Program} {w : World} {B kp st : Lk} {h : Heap} (s : Sat prog w B kp st σ h) {a : Addr} {es : List (V × V)} (e : σ a = some (.dict es)) : ∃ xs ep, DRaw h a (List.toArray (xs.map (entryOfKey (hk prog w)))) ep ∧ RepX kp es xs := by
  obtain ⟨o, ho, xs, ep, rfl, r, d⟩ := s.mu_ok a _ e
  exact ⟨xs, ep, ⟨_, ho, ⟨rfl, rfl, rfl⟩, rfl⟩, r⟩
theorem RepX.get {g : Lk} {es : List (V × V)} {xs : List (PyData × Addr × Value)} (r : RepX g es xs) : ∀ {i : Nat} {x : PyData × Addr × Value}, xs[i]? = Option.some x → ∃ e, es[i]? = Option.some e ∧ Rep g e.1 (.ref x.2.1) ∧ Rep g e.2 x.2.2 := by
  induction r with
  | nil => exact fun e => by cases e
  | cons h f h' _ q =>
    intro i x e
    cases i with
    | zero => cases e; exact ⟨_, rfl, h, h'⟩
    | succ i => exact q (i := i) e
theorem RepX.length {g : Lk} {es : List (V × V)} {xs : List (PyData × Addr × Value)} (r : RepX g es xs) : xs.length = es.length := by have := congrArg List.length r.fst; simpa using this
theorem Iter_dict {a : Addr} {es : List (V × V)} (ha : σ a = some (.dict es)) : OIter c n (.ref a) (es.map (·.1)) σ (some (a, .dict es)) := fun A kp st h tk v r s p => by
  cases p
  obtain ⟨xs, ep, hD, rx⟩ := s.getRaw ha
  obtain ⟨o, ea, hE⟩ := id hD
  have hl : (List.toArray (xs.map (entryOfKey (hk c.prog c.w)))).size = (es.map (·.1)).length := by simp [rx.length]
  refine iter_dict (s.noSys ha) hD ?_
  have W := walksKeys (prog := c.prog) (w := c.w) (A := A) r.1 h.objs.size a (old_size ea) (List.toArray (xs.map (entryOfKey (hk c.prog c.w)))) ep
  refine iter_new s ea rfl (.inr ⟨_, rfl, ha⟩) W hl ⟨⟨_, Heap.get?_push_size _ rfl, rfl, rfl⟩, _, Heap.get?_push_of_some _ ea, hE⟩ (fun i h' q => ⟨let ⟨o, e, _⟩ := q.1; ⟨o, e⟩, let ⟨o, e, _⟩ := q.2; ⟨o, e⟩⟩) fun i u q => ?_
  have q' : ∃ x, xs[i]? = some x ∧ Value.ref x.2.1 = u := by
    simp only [List.getElem?_toArray, List.getElem?_map, Option.map_map, Option.map_eq_some_iff] at q
    obtain ⟨x, e1, e2⟩ := q
    exact ⟨x, e1, e2⟩
  obtain ⟨x, e1, rfl⟩ := q'
  obtain ⟨e, e2, e3, _⟩ := rx.get e1
  exact ⟨e.1, by rw [List.getElem?_map, e2]; rfl, e3⟩
end
end
section
section
variable {prog : Program} {w : World} {A : Around}
theorem walksItems (hh : A.handled = none) (I d : Addr) (hne : d ≠ I) (es : Array DictEntry) (ep : Nat) :
    WalksU prog w A I [I, d] [I] es.size (fun i vals => ∃ e, es[i]? = some e ∧ vals = #[e.key, e.val]) (fun i h => (∃ ok ov, IsItemIter h I d i es.size ep ok ov) ∧ DRaw h d es ep)
      (fun i T h => (∃ ok ov, IsItemIterOut h I d (i + 1) es.size ep ok ov T) ∧ DRaw h d es ep ∧ T ≠ I) where
  sub := fun b hb => by simp at hb; simp [hb]
  frame := fun _ _ _ st hk => ⟨let ⟨ok, ov, e⟩ := st.1; ⟨ok, ov, hk I (by simp) _ e⟩, st.2.at fun o e => hk d (by simp) o e⟩
  item := fun i s Q E hi st hQ => by
    obtain ⟨⟨ok, ov, he⟩, hm⟩ := st
    refine next_items he hm hi fun h' ho hT hz hk => ?_
    exact hQ s.heap.objs.size #[es[i].key, es[i].val] h' s.toks ⟨es[i], by simp [hi], rfl⟩ ⟨_, hT, rfl, _, rfl⟩ ⟨⟨_, _, ho⟩, hm.at fun o e => hk d o hne e, Nat.ne_of_gt (Heap.lt_size he)⟩ fun b o hb e => hk b o (fun h => hb (by simp [h])) e
  go := fun elts k pos i T s Q E hm hQ => by
    obtain ⟨⟨ok, ov, ho⟩, hd, hTI⟩ := hm
    refine wpAny_letOwnedTupleGo_items ho fun h' he hs => ?_
    exact hQ h' ⟨⟨ok, ov, he⟩, hd.at fun o e => hs.extBut d o hne e⟩ fun b o hb e => hs.extBut b o (fun h => hb (by simp [h])) e
  apart := fun i T h hm hT => hm.2.2 (by simpa using hT)
  done := fun s Q E st hQ => by
    obtain ⟨⟨ok, ov, he⟩, hm⟩ := st
    exact end_items hh he hm fun h' hx => hQ h' s.toks fun b o hb e => hx b o (fun h => hb (by simp [h])) e
  self := fun i s Q E st hQ => by
    obtain ⟨⟨ok, ov, he⟩, hm⟩ := st
    exact kcp_self he hQ
end

theorem walksU_len {prog : Program} {w : World} {A : Around} {I : Addr} {fp wr : List Addr} {n m : Nat} {Pt : Nat → Array Value → Prop} {St : Nat → Heap → Prop} {Mid : Nat → Addr → Heap → Prop} (e : n = m) (W : WalksU prog w A I fp wr n Pt St Mid) : WalksU prog w A I fp wr m Pt St Mid := e ▸ W
inductive WUP (c : Cx) (A : Around) (env : Env) (loc : Loc) (kp st : Lk) (K : List (V × V) → Lent → Store → Prop) (it : Value) (s2 : Shared) : Prop
  | mk (I : Addr) (fp wr : List Addr) (Pt : Nat → Array Value → Prop) (St : Nat → Heap → Prop) (Mid : Nat → Addr → Heap → Prop) (l : List (V × V)) (L : Lent) (σ1 : Store) (kp' : Lk) (h' : Heap) (tk' : Nat) (e : s2 = S c.s₀ h' tk') (ei : it = .ref I) (l1 : Le kp kp')
      (W : WalksU c.prog c.w A I fp wr (List.length l) Pt St Mid) (st0 : St 0 h') (ex : ∀ i h, St i h → ∀ a ∈ fp, ∃ o, h.get? a = some o) (s : SatC c kp' st (lendS L σ1) h') (F : Frm env loc kp' st (lendS L σ1) h')
      (G : Gd c (fa env) L fp wr kp' st (lendS L σ1) h') (hP : ∀ i vals, Pt i vals → ∃ a b x y, vals = #[a, b] ∧ l[i]? = some (x, y) ∧ Rep kp' x a ∧ Rep kp' y b) (k : K l L σ1) : WUP c A env loc kp st K it s2
noncomputable def WU (c : Cx) (n : Nat) (env : Env) (iter : Expr) (loc : Loc) (σ : Store) (K : List (V × V) → Lent → Store → Prop) : Prop :=
  ∀ A kp st h tk, Room A n → SatC c kp st σ h → Frm env loc kp st σ h → wpAny c.M A (eval iter env) (fun x s1 => wpAny c.M A (pyIter x) (WUP c A env loc kp st K) NoE s1) NoE (S c.s₀ h tk)
inductive For2P (c : Cx) (n : Nat) (env : Env) (t u : Str) (body : List Stmt) (loc : Loc) (KR : V → Loc → Store → Prop) (KN : Loc → Store → Prop) (l : List (V × V)) (L : Lent) (σ1 : Store) : Prop
  | mk (Inv : Nat → Loc → Store → Prop) (i0 : Inv 0 loc (lendS L σ1))
      (step : ∀ i y z loc' σ', l[i]? = some (y, z) → (∀ a z, L = some (a, z) → σ' a = none) → Inv i loc' σ' → WB c n env body ((u, z) :: (t, y) :: loc') σ' fun fl loc'' σ'' => match fl with | .next => Inv (i + 1) loc'' σ'' | .ret v => KR v loc'' (backS L σ''))
      (fin : ∀ loc' σ', (∀ a z, L = some (a, z) → σ' a = none) → Inv l.length loc' σ' → KN loc' (backS L σ')) : For2P c n env t u body loc KR KN l L σ1

section
variable {c : Cx} {n : Nat} {env : Env} {loc : Loc} {σ : Store} {sc : Scope}

theorem WS_for2 {t u : Str} {pt pu pp pos : Pos} {x1 : Nat} {iter : Expr} {body : List Stmt} {K : Fl → Loc → Store → Prop} (O : EnvOk env sc) (ht : storable sc t = true) (hu : storable sc u = true)
    (x : WU c n env iter loc σ (For2P c n env t u body loc (fun v => K (.ret v)) (K .next)))
    (hs : ∀ x, foldedSetIterable iter env x = pure x := by intro _; rfl) : WS c n env (.For (.Tuple [.Name t pt, .Name u pu] x1 pp) iter body [] pos) loc σ K := fun A kp st h tk r s F => by
  refine wpAny_For (wpAny_mono (x A kp st h tk r s F) (fun v s' z => wpAny_mono z (fun it s' ⟨I, fp, wr, Pt, St, Mid, l, L, σ1, kp1, h2, tk2, e2, eI, l1, W, st0, ex, s2, F2, G2, hP, Inv, i0, step, fin⟩ => ?_) fun _ _ e => e.elim) fun _ _ e => e) hs
  subst e2 eI
  refine codeAny_forLoop_any (LInv c env L fp wr kp1 st l.length St Inv) ?_ (l.length + 1)
    ⟨0, loc, kp1, _, h2, tk2, rfl, ⟨Nat.zero_le _, rfl⟩, Le.refl _, s2, F2, G2, st0, i0⟩
  rintro m s' ⟨i, loc', kp', σ', h', tk', rfl, em, le', s', F', G', hSt, inv⟩
  by_cases hlt : i < l.length
  · refine W.item i _ _ _ hlt hSt fun T vals h3 tk3 hPt hT hMid k3 => ?_
    obtain ⟨a, b, y, z, rfl, ey, ra, rb⟩ := hP i vals hPt
    refine W.go _ x1 pp i T _ _ _ hMid fun h4 hSt4 k4 => ?_
    have hT4 : h4.IsTuple T #[a, b] := hT.at fun o e => k4 T o (W.apart i T h3 hMid) e
    refine wpAny_assign_Tuple r.1 hT4 rfl rfl fun h5 hx5 => ?_
    replace hx5 : Heap.ExtBut h4.objs.size h4 h5 := hx5
    have up5 : ∀ b o, h4.get? b = some o → h5.get? b = some o := fun b o x => hx5 b o (Nat.ne_of_lt (Heap.lt_size x)) x
    have k5 : ∀ b o, b ∉ wr → h'.get? b = some o → h5.get? b = some o := fun b o hb e => up5 b o (k4 b o hb (k3 b o hb e))
    have hSt5 : St (i + 1) h5 := W.frame _ _ _ hSt4 fun b _ o e => up5 b o e
    obtain ⟨s5, G5⟩ := G'.step s' k5 (ex _ _ hSt5)
    have F5 := G'.stepF F' k5
    have sP := G5.sat s5
    have FP := G5.frm F5
    show wpAny _ A (do holding [b] (assign (.Name t pt) env a); do holding [] (assign (.Name u pu) env b); pure ()) _ _ _
    refine wpAny_bind (wpAny_holding (wpAny_assign_Name (wpAny_mono (store_o (c := c) sP FP (ra.mono le') (by rw [O.scp]; exact ht) (fun e => ⟨O.fn, O.cl t (by rw [← O.scp]; exact e)⟩) fun h6 tk6 s6 F6 => ?_) (fun _ _ z => z) fun _ _ e => e.elim)))
    refine wpAny_bind (wpAny_holding (wpAny_assign_Name (wpAny_mono (store_o (c := c) s6 F6 (rb.mono le') (by rw [O.scp]; exact hu) (fun e => ⟨O.fn, O.cl u (by rw [← O.scp]; exact e)⟩) fun h7 tk7 s7 F7 => wpAny_pure ?_) (fun _ _ z => z) fun _ _ e => e.elim)))
    refine wpAny_mono (step i y z loc' σ' ey (fun a z e => G'.sg a (G'.lk a z e).1) inv A kp' _ h7 tk7 r s7 F7) (fun f s8 ⟨fl, loc8, kp8, σ8, h8, tk8, e8, l8, q8, s8, F8, k8⟩ => ?_) fun _ _ e => e.elim
    subst e8
    obtain ⟨same, s9, G9⟩ := G5.after s5 l8 s8
    have F9 : Frm env loc8 kp8 st σ8 h8 := F8.ofSt (stG_le s5)
    cases q8 with
    | next => exact ⟨m - 1, by omega, i + 1, loc8, kp8, σ8, h8, tk8, rfl, ⟨by omega, by omega⟩, le'.trans l8, s9, F9, G9, W.frame _ _ _ hSt5 same, k8⟩
    | ret q8 => exact ⟨_, loc8, kp8, _, h8, tk8, rfl, l1.trans (le'.trans l8), .ret q8, G9.back s9, G9.backF F9, k8⟩
  · have ei : i = l.length := by omega
    subst ei
    refine W.done _ _ _ hSt fun h3 tk3 k3 => ?_
    exact wpAny_execs_nil ⟨.next, loc', kp', _, h3, tk3, rfl, l1.trans le', .next, G'.done s' k3, G'.doneF F' k3, fin _ _ (fun a z e => G'.sg a (G'.lk a z e).1) inv⟩

theorem WU_items {iter : Expr} {K : List (V × V) → Lent → Store → Prop} (x : WE c n env iter loc σ fun v σ1 => ∃ a es, v = .view .items a ∧ σ1 a = some (.dict es) ∧ K es (some (a, .dict es)) σ1) : WU c n env iter loc σ K := fun A kp st h tk r s F => by
  refine wpAny_mono (x A kp st h tk r s F) (fun v s' ⟨xv, kp1, σ1, h1, tk1, e1, l1, q1, s1, F1, a, es, ev, ha, k⟩ => ?_) fun _ _ e => e
  subst e1 ev
  obtain ⟨xs, ep, hD, rx⟩ := s1.getRaw ha
  obtain ⟨o, ea, hE⟩ := id hD
  cases q1 with
  | @view _ _ b ov hb hc hd =>
    refine iter_items ⟨ov, s1.kp_ok _ _ hb, hc, hd⟩ hD ?_
    have hl : (List.toArray (xs.map (entryOfKey (hk c.prog c.w)))).size = es.length := by simp [rx.length]
    have W := walksItems (prog := c.prog) (w := c.w) (A := A) r.1 h1.objs.size a (old_size ea) (List.toArray (xs.map (entryOfKey (hk c.prog c.w)))) ep
    have nw := s1.new
    have s2 := s1.push (o := { cls := .type "dict_itemiterator", data := .fields #[.none, .bool false, .ref a, .int 0 0, .int (List.toArray (xs.map (entryOfKey (hk c.prog c.w)))).size 0, .int ep 0, .none, .none] })
    have hI : h1.objs.size ∉ fa env := fun m => by obtain ⟨o, e⟩ := (F1.fa_ _ m).1; rw [get_size] at e; cases e
    have hA : a ∉ fa env := fun m => by have := (F1.fa_ _ m).2.2; rw [ha] at this; cases this
    have ex : ∀ (i : Nat) (h : Heap), ((∃ ok ov, IsItemIter h h1.objs.size a i (List.toArray (xs.map (entryOfKey (hk c.prog c.w)))).size ep ok ov) ∧ DRaw h a (List.toArray (xs.map (entryOfKey (hk c.prog c.w)))) ep) → ∀ b ∈ [h1.objs.size, a], ∃ o, h.get? b = some o := fun i h q b m => by
      obtain ⟨⟨ok, ov, e⟩, o, e', _⟩ := q
      rcases List.mem_cons.mp m with rfl | m
      · exact ⟨_, e⟩
      · rw [List.mem_singleton.mp m]; exact ⟨_, e'⟩
    have st0 : (∃ ok ov, IsItemIter (h1.push { cls := .type "dict_itemiterator", data := .fields #[.none, .bool false, .ref a, .int 0 0, .int (List.toArray (xs.map (entryOfKey (hk c.prog c.w)))).size 0, .int ep 0, .none, .none] }) h1.objs.size a 0 (List.toArray (xs.map (entryOfKey (hk c.prog c.w)))).size ep ok ov) ∧
        DRaw (h1.push { cls := .type "dict_itemiterator", data := .fields #[.none, .bool false, .ref a, .int 0 0, .int (List.toArray (xs.map (entryOfKey (hk c.prog c.w)))).size 0, .int ep 0, .none, .none] }) a (List.toArray (xs.map (entryOfKey (hk c.prog c.w)))) ep := ⟨⟨_, _, Heap.get?_push_size _ rfl⟩, _, Heap.get?_push_of_some _ ea, hE⟩
    obtain ⟨k1, k2⟩ := s1.d2 a _ ha
    obtain ⟨oa, eoa, hoa⟩ := s1.mu_ok a _ ha
    refine ⟨h1.objs.size, [h1.objs.size, a], [h1.objs.size], _, _, _, es, some (a, .dict es), σ1, kp1, _, tk1, rfl, rfl, l1, walksU_len hl W, st0, ex, s2.del a, ?_, ⟨W.sub, fun b m => ?_, ex 0 _ st0, fun b m => ?_, fun b m => ?_, fun b y e => ?_⟩, fun i vals hv => ?_, k⟩
    · refine (F1.ext fun b _ o e => Heap.get?_push_of_some _ e).store fun b m => ?_
      exact lendS_none (L := some (a, .dict es)) (F1.fa_ b m).2.2
    · rcases List.mem_cons.mp m with rfl | m
      · exact lendS_none (L := some (a, .dict es)) nw.2.2
      · rw [List.mem_singleton.mp m]; exact del_self _ _
    · rcases List.mem_cons.mp m with rfl | m
      · exact hI
      · rw [List.mem_singleton.mp m]; exact hA
    · rw [List.mem_singleton.mp m]; exact ⟨nw.1, nw.2.1⟩
    · cases e
      exact ⟨.tail _ (.head _), fun m => old_size ea (List.mem_singleton.mp m), k1, k2, s1.lo a _ ha, oa, Heap.get?_push_of_some _ eoa, hoa⟩
    · obtain ⟨e, e1, rfl⟩ := hv
      simp only [List.getElem?_toArray, List.getElem?_map, Option.map_eq_some_iff] at e1
      obtain ⟨x, e2, rfl⟩ := e1
      obtain ⟨p, e3, r1, r2⟩ := rx.get e2
      exact ⟨_, _, p.1, p.2, rfl, e3, r1, r2⟩

noncomputable def enums (l : List V) : List (V × V) := (upto l.length).zip l
theorem enums_get {l : List V} {i : Nat} {x : V} (h : l[i]? = some x) : (enums l)[i]? = some (.int i, x) := by
  have hi := (List.getElem?_eq_some_iff.mp h).1
  unfold enums upto
  rw [List.getElem?_zip_eq_some]
  exact ⟨by simp [hi], h⟩
theorem enums_len (l : List V) : (enums l).length = l.length := by simp [enums, upto]
theorem WU_enum {p pos : Pos} {e : Expr} {K : List (V × V) → Lent → Store → Prop} (hx : env.kindOf "enumerate" = some .globalImplicit) (hn : nsIn c.K mainGlobals "enumerate" = some none) (he : isStarred e = false)
    (x : WE c n env e loc σ fun v σ1 => ∃ l, v = .flst l ∧ K (enums l) none σ1) (hl : starEach [e] env = [(false, eval e env)] := by rfl) : WU c n env (.Call (.Name "enumerate" p) [e] [] pos) loc σ K := fun A kp st h tk r s F => by
  refine wpAny_Call_Name_kw (Name_function_global F.fun_ hx (loadGlobal_builtin (env := env) (v := .type "enumerate") (by rw [F.glob]; exact c.g.keeps (c.keep s)) (mg_none_of c.X c.g hn) (by rw [F.blt]; exact c.b.keeps (c.keep s)) ((c.bt _ (by decide)).trans rfl) ?_) (by decide))
  refine callWith_of (P := fun h => ∀ b o, c.h₀.get? b = some o → h.get? b = some o) (by rw [noStar pos env [e] (by simp [he]), (kwSome pos env [] rfl).1]; rfl) (fun h k => ⟨_, .inr (.inl rfl), Looks.of_pure rfl⟩) ?_
  refine evalArgs_o (by simp [he]) rfl ?_
  have wl : WL c n env pos [e] loc σ fun vs σ1 => ∃ l, vs = [.flst l] ∧ K (enums l) none σ1 := WL_cons (WX.mono x fun v σ1 ⟨l, e1, k⟩ => WL_nil ⟨l, by rw [e1], k⟩) (by rw [hl]; rfl)
  refine wpAny_mono (wl A kp st h tk r s F) (fun vs s' ⟨xv, kp1, σ1, h1, tk1, e1, l1, q1, s1, F1, l, ev, k⟩ => ?_) fun _ _ e => e
  subst e1 ev
  refine wpAny_evalAll_nil ⟨c.keep s1, ?_⟩
  cases q1 with
  | cons q1 qn =>
  cases qn
  cases q1 with
  | @flst _ a o vs m ho hc hd rr =>
    have ea := s1.kp_ok _ _ ho
    have hL : h1.IsList a vs.toArray := ⟨o, ea, hc, m, hd⟩
    refine call_enumerate_list hL fun h2 hE hIt hsz k2 => wpAny_pyIter_enum hE ?_
    have hl2 : vs.toArray.size = (enums l).length := by rw [List.size_toArray, rr.length, enums_len]
    have nie : h1.objs.size + 1 ≠ h1.objs.size := Nat.succ_ne_self _
    have W := (WalksT.enumerate (prog := c.prog) (w := c.w) (A := A) r.1 (h1.objs.size + 1) h1.objs.size a nie (Nat.ne_of_lt (Nat.lt_succ_of_lt (Heap.lt_size ea))) (old_size ea) vs.toArray).toU
    have nw := s1.new
    have nw' : kp1 (h1.objs.size + 1) = none ∧ st (h1.objs.size + 1) = none ∧ σ1 (h1.objs.size + 1) = none := s1.fresh (by
      cases q : h1.get? (h1.objs.size + 1) with
      | none => rfl
      | some o => exact absurd (Heap.lt_size q) (Nat.not_lt.mpr (Nat.le_succ _)))
    have fr : ∀ b ∈ fa env, b < h1.objs.size := fun b m => let ⟨o, e⟩ := (F1.fa_ b m).1; Heap.lt_size e
    have ex : ∀ (i : Nat) (h : Heap), ((∃ old, IsEnum h (h1.objs.size + 1) h1.objs.size i old) ∧ h.IsListIter h1.objs.size a i ∧ h.IsList a vs.toArray) → ∀ b ∈ [h1.objs.size + 1, h1.objs.size, a], ∃ o, h.get? b = some o := fun i h q b m => by
      obtain ⟨⟨old, e⟩, ⟨oi, ei, _⟩, ol, el, _⟩ := q
      rcases List.mem_cons.mp m with rfl | m
      · exact ⟨_, e⟩
      · rcases List.mem_cons.mp m with rfl | m
        · exact ⟨_, ei⟩
        · rw [List.mem_singleton.mp m]; exact ⟨_, el⟩
    have st0 : (∃ old, IsEnum h2 (h1.objs.size + 1) h1.objs.size ((0 : Nat) : Int) old) ∧ h2.IsListIter h1.objs.size a 0 ∧ h2.IsList a vs.toArray := ⟨⟨_, hE⟩, hIt, ⟨o, k2 _ _ ea, hc, m, hd⟩⟩
    have ha : kp1 a ≠ none := by rw [ho]; simp
    refine ⟨_, _, _, _, _, _, enums l, none, σ1, kp1, h2, tk1, rfl, rfl, l1, walksU_len hl2 W, st0, ex, s1.keep k2, F1.ext fun b _ o e => k2 b o e, ⟨W.sub, fun b m => ?_, ex 0 _ st0, fun b m z => ?_, fun b m => ?_, fun b y e => by cases e⟩, fun i vals hv => ?_, k⟩
    · rcases List.mem_cons.mp m with rfl | m
      · exact nw'.2.2
      · rcases List.mem_cons.mp m with rfl | m
        · exact nw.2.2
        · rw [List.mem_singleton.mp m]
          show σ1 a = none
          cases q : σ1 a with
          | none => rfl
          | some z => exact absurd (s1.d2 a z q).1 ha
    · have := fr b z
      rcases List.mem_cons.mp m with rfl | m
      · exact absurd this (Nat.not_lt.mpr (Nat.le_succ _))
      · rcases List.mem_cons.mp m with rfl | m
        · exact absurd this (Nat.lt_irrefl _)
        · rw [List.mem_singleton.mp m] at z; exact ha (F1.fa_ a z).2.1
    · rcases List.mem_cons.mp m with rfl | m
      · exact ⟨nw'.1, nw'.2.1⟩
      · rw [List.mem_singleton.mp m]; exact ⟨nw.1, nw.2.1⟩
    · obtain ⟨t, x, ex, rfl⟩ := hv
      have q' : vs[i]? = some x := by simpa using ex
      have hi : i < l.length := by rw [← rr.length]; exact (List.getElem?_eq_some_iff.mp q').1
      obtain ⟨u', e1, e2⟩ := rr.get (i := i) (x := l[i]) (by simp [hi])
      rw [q'] at e1; cases e1
      exact ⟨_, _, .int i, l[i], rfl, enums_get (by simp [hi]), .int _ _, e2⟩
end
end
section
section
variable {c : Cx} {n : Nat} {env : Env} {loc : Loc} {σ : Store} {sc : Scope}

theorem newListF_o {A : Around} {kp st : Lk} {h : Heap} {tk : Nat} {l : List V} {vs : List Value} {K : V → Store → Prop} (s : SatC c kp st σ h) (q : Reps kp l vs) (hl : l.length ≤ 1000) (k : K (.flst l) σ) : wpAny c.M A (newList vs) (PC c st kp Rep K) NoE (S c.s₀ h tk) := by
  refine wpAny_newObj_type ?_ (by show vs.toArray.size ≤ sizeLine; rw [List.size_toArray, q.length, sizeLine_eq]; omega)
  exact ⟨.flst l, _, σ, _, tk, rfl, le_put s.new.1, .flst (put_self _ _ _) rfl rfl (q.mono (le_put s.new.1)), s.kpush rfl, k⟩
theorem WE_listF {es : List Expr} {pos : Pos} {K : V → Store → Prop} (x : WL c n env pos es loc σ fun l σ₁ => l.length ≤ 1000 ∧ K (.flst l) σ₁) : WE c n env (.List es pos) loc σ K := by
  show WX c n env (standAt pos >>= fun _ => spliced (backTo pos (starEach es env)) >>= fun vs => newList vs) Rep loc σ K
  have := WX.bind (f := newList) (R' := Rep) (K' := K) (WX.mono x fun b σ o A kp st h tk v r s F q => lift F s fun st' s' => newListF_o s' q o.1 o.2)
  exact fun A kp st h tk r s F => wpAny_bind (wpAny_standAt (this A kp st h tk r s F))
theorem O_addF {l l' : List V} {K : V → Store → Prop} (hl : l.length + l'.length ≤ 1000) (q : K (.flst (l ++ l')) σ) : O2 c n (binaryOp .Add) Rep (.flst l) (.flst l') σ K := fun A kp st h tk u v r s p p' => by
  cases p with
  | @flst _ a o vs m ho hc hd rr =>
  cases p' with
  | @flst _ b o' vs' m' ho' hc' hd' rr' =>
    obtain ⟨cl, dd, dat, sl⟩ := o
    obtain ⟨cl', dd', dat', sl'⟩ := o'
    dsimp only at hc hd hc' hd'
    subst hc hd hc' hd'
    have g1 := s.kp_ok _ _ ho
    have g2 := s.kp_ok _ _ ho'
    have len := rr.length
    have len' := rr'.length
    refine concat_meets ⟨_, g1, rfl⟩ ⟨_, g2, rfl⟩ noFill_list_add seq_list_add F.slot_list_add F.entry_list_add (F.args_list_add_2 _ _) (list_addW a b _ _ m m' dd dd' sl sl' (by rw [List.size_toArray, List.size_toArray, sizeLine_eq]; omega)) ⟨g1, g2, ?_⟩
    exact ⟨_, _, σ, _, tk, rfl, le_put s.new.1, .flst (n := 0) (put_self _ _ _) rfl (by simp) ((rr.append rr').mono (le_put s.new.1)), s.kpush rfl, q⟩

theorem O_eqF_nil {l : List V} {K : V → Store → Prop} (hl : flats 8 l = true) (q : K (.bool l.isEmpty) σ) : O2 c n (compareOp .Eq) Rep (.flst l) (.flst []) σ K := fun A kp st h tk u v r s p p' => by
  obtain ⟨⟨as, ra⟩, ca, da⟩ := flst_reads s p hl
  obtain ⟨⟨bs, rb⟩, cb, db⟩ := flst_reads s p' rfl
  refine SeqAt.compareEq_reads ra rb ca cb (by have := r.2.2; omega) ?_
  rw [PyData.eqv, eqvAll_nil]
  exact pc_end s (.bool _) q
theorem O_neF_nil {l : List V} {K : V → Store → Prop} (hl : flats 8 l = true) (q : K (.bool (!l.isEmpty)) σ) : O2 c n (compareOp .NotEq) Rep (.flst l) (.flst []) σ K := fun A kp st h tk u v r s p p' => by
  obtain ⟨⟨as, ra⟩, ca, da⟩ := flst_reads s p hl
  obtain ⟨⟨bs, rb⟩, cb, db⟩ := flst_reads s p' rfl
  refine SeqAt.compareNe_reads ra rb ca cb (by have := r.2.2; omega) ?_
  rw [PyData.eqv, eqvAll_nil]
  exact pc_end s (.bool _) q

theorem C_len_tup {l : List V} {K : V → Store → Prop} (hl : l.length ≤ 1000) (q : K (.int l.length) σ) : OC c n (.val (.builtin "len")) [.tup l] [] [] σ K := fun A kp st h tk fv vs kvs r s p q1 q2 => by
  cases p; cases q2
  cases q1 with
  | cons q1 qn =>
  cases qn
  cases q1 with
  | @tup _ a o vs m ho hc hd rr =>
    have len := rr.length
    obtain ⟨cl, dd, dat, sl⟩ := o
    dsimp only at hc hd
    subst hc hd
    have g := s.kp_ok _ _ ho
    refine PyProof.Rows.call_len_slot (n := (vs.toArray.size : Int)) ⟨_, g, rfl⟩ PySem.F.slot_tuple_len (fun Q' hq => wpAny_call_entry PySem.F.slot_tuple_len ⟨_, g, rfl⟩ PySem.F.entry_tuple_len ?_ (PySem.F.args_tuple_len_1 _)) (by omega) (by rw [List.size_toArray]; omega) ?_
    · show wpAny _ _ (do retInt (← Builtin.Tuple.tupleItemsOf (.ref a)).size) _ _ _
      exact wpAny_bind (wpAny_tupleItemsOf g rfl (wpAny_bind (wpAny_mkInt (wpAny_pure ⟨_, rfl, hq⟩))))
    · rw [List.size_toArray, len]; exact pc_end s (.int _ _) q
theorem len_list_o {A : Around} {kp st : Lk} {h : Heap} {tk : Nat} {a : Addr} {l : List V} {vs : List Value} {K : V → Store → Prop} (s : SatC c kp st σ h) (hL : h.IsList a vs.toArray) (rr : Reps kp l vs) (hl : l.length ≤ 1000) (q : K (.int l.length) σ) :
    wpAny c.M A (call (.builtin "len") [.ref a]) (PC c st kp Rep K) NoE (S c.s₀ h tk) := by
  have len := rr.length
  refine call_len_list hL (by rw [List.size_toArray]; omega) ?_
  rw [List.size_toArray, len]; exact pc_end s (.int _ _) q
theorem C_len_flst {l : List V} {K : V → Store → Prop} (hl : l.length ≤ 1000) (q : K (.int l.length) σ) : OC c n (.val (.builtin "len")) [.flst l] [] [] σ K := fun A kp st h tk fv vs kvs r s p q1 q2 => by
  cases p; cases q2
  cases q1 with
  | cons q1 qn =>
  cases qn
  cases q1 with
  | @flst _ a o vs m ho hc hd rr => exact len_list_o s ⟨o, s.kp_ok _ _ ho, hc, m, hd⟩ rr hl q
theorem C_len_list {a : Addr} {l : List V} {K : V → Store → Prop} (ha : σ a = some (.list l)) (hl : l.length ≤ 1000) (q : K (.int l.length) σ) : OC c n (.val (.builtin "len")) [.ref a] [] [] σ K := fun A kp st h tk fv vs kvs r s p q1 q2 => by
  cases p; cases q2
  cases q1 with
  | cons q1 qn =>
  cases qn; cases q1
  obtain ⟨vs, m, ho, hL, rr⟩ := s.getList ha
  exact len_list_o s hL rr hl q
theorem C_len_dict {a : Addr} {es : List (V × V)} {K : V → Store → Prop} (ha : σ a = some (.dict es)) (hl : es.length ≤ 1000) (q : K (.int es.length) σ) : OC c n (.val (.builtin "len")) [.ref a] [] [] σ K := fun A kp st h tk fv vs kvs r s p q1 q2 => by
  cases p; cases q2
  cases q1 with
  | cons q1 qn =>
  cases qn; cases q1
  obtain ⟨xs, ep, hD, rx⟩ := s.getRaw ha
  obtain ⟨o, ho, hE, hd⟩ := id hD
  have hz : (List.toArray (xs.map (entryOfKey (hk c.prog c.w)))).size = es.length := by simp [rx.length]
  refine PyProof.Rows.call_len_slot (n := (es.length : Int)) hD.typeIs PySem.F.slot_dict_len (fun Q' hq => wpAny_call_entry PySem.F.slot_dict_len hD.typeIs PySem.F.entry_dict_len ?_ (PySem.F.args_dict_len_1 _)) (by omega) (by omega) (pc_end s (.int _ _) q)
  show wpAny _ _ (dictSize a >>= _) _ _ _
  unfold dictSize
  refine wpAny_bind (wpAny_bind (wpAny_dictEntries ho hd (wpAny_pure ?_)))
  show wpAny _ _ (Builtin.Dict.pendingCount a >>= _) _ _ _
  refine wpAny_bind (wpAny_pendingCount_other (s.noSys ha) ?_)
  refine wpAny_bind (wpAny_mkInt (wpAny_pure ⟨_, rfl, ?_⟩))
  rw [Nat.add_zero, hz]; exact hq

theorem C_tuple_tup {l : List V} {K : V → Store → Prop} (q : K (.tup l) σ) : OC c n (.val (.type "tuple")) [.tup l] [] [] σ K := fun A kp st h tk fv vs kvs r s p q1 q2 => by
  cases p; cases q2
  cases q1 with
  | cons q1 qn =>
  cases qn
  have q1' := q1
  cases q1 with
  | @tup _ a o vs m ho hc hd rr => exact call_tuple_same ⟨o, s.kp_ok _ _ ho, hc, m, hd⟩ (pc_end s q1' q)
theorem C_tuple_flst {l : List V} {K : V → Store → Prop} (hl : l.length ≤ 1000) (q : K (.tup l) σ) : OC c n (.val (.type "tuple")) [.flst l] [] [] σ K := fun A kp st h tk fv vs kvs r s p q1 q2 => by
  cases p; cases q2
  cases q1 with
  | cons q1 qn =>
  cases qn
  cases q1 with
  | @flst _ a o vs m ho hc hd rr =>
    have len := rr.length
    refine call_tuple_list ⟨o, s.kp_ok _ _ ho, hc, m, hd⟩ (fun h' k => ?_) (by rw [List.size_toArray, sizeLine_eq]; omega)
    have s' := s.keep k
    exact ⟨.tup l, _, σ, _, tk, rfl, le_put s'.new.1, .tup (n := 0) (put_self _ _ _) rfl rfl (rr.mono (le_put s'.new.1)), s'.kpush rfl, q⟩

theorem C_range {m : Nat} {K : V → Store → Prop} (q : K (.rng m) σ) : OC c n (.val (.type "range")) [.int m] [] [] σ K := fun A kp st h tk fv vs kvs r s p q1 q2 => by
  cases p; cases q2
  cases q1 with
  | cons q1 qn =>
  cases qn; cases q1
  refine call_range_1 ?_
  exact ⟨.rng m, _, σ, _, _, rfl, le_put s.new.1, .rng (put_self _ _ _), s.kpush rfl, q⟩

noncomputable def vtype : V → Option String
  | .none => some "NoneType"
  | .bool _ => some "bool"
  | .int _ => some "int"
  | .str _ => some "str"
  | _ => none
theorem C_isi {x : V} {T : String} {cv : Value} {b : Bool} {K : V → Store → Prop} (hT : vtype x = some T) (e : kitOne c.K (.type T) cv = some b) (q : K (.bool b) σ) : OC c n (.val (.builtin "isinstance")) [x, .val cv] [] [] σ K := fun A kp st h tk fv vs kvs r s p q1 q2 => by
  cases p; cases q2
  cases q1 with
  | cons q1 qn =>
  cases qn with
  | cons q3 qn =>
  cases qn; cases q3
  have X := c.X.keeps (c.keep s)
  have fin : ∀ tk', PC c st kp Rep K (.bool b) (S c.s₀ h tk') := fun tk' => pc_end s (.bool _) q
  cases q1 <;> simp only [vtype] at hT <;> (cases hT <;> first
    | exact kia_one (H := fun _ => True) kitx_none X trivial e (by intro z; cases z) fin
    | exact kia_one (H := fun _ => True) kitx_bool X trivial e (by intro z; cases z) fin
    | exact kia_one (H := fun _ => True) kitx_int X trivial e (by intro z; cases z) fin
    | exact kia_one (H := fun _ => True) kitx_str X trivial e (by intro z; cases z) fin)
structure ClsIs (c : Cx) (D : Addr) : Prop where
  hg : plainGet c.K D "__class__" = true
  hdct : hasDictIn c.K D = true
  ha : findIn c.K (.ref D) "__class__" = some (some (.builtin "object.__class__"))
  hn : specialIn c.K (.builtin "object.__class__") "__get__" = some (some (.builtin "getset_descriptor.__get__"))
  htk : takesIn c.K (.builtin "object.__class__") = some true
  hm : mroIn c.K D (.type "object") = some true
theorem C_isi_inst {D : Addr} {ns : List Str} {l : List V} {cv : Value} {b : Bool} {K : V → Store → Prop} (k : ClsIs c D) (e : kitOne c.K (.ref D) cv = some b) (q : K (.bool b) σ) : OC c n (.val (.builtin "isinstance")) [.inst D ns l, .val cv] [] [] σ K := fun A kp st h tk fv vs kvs r s p q1 q2 => by
  cases p; cases q2
  cases q1 with
  | cons q1 qn =>
  cases qn with
  | cons q3 qn =>
  cases qn; cases q3
  have X := c.X.keeps (c.keep s)
  cases q1 with
  | inst hx hd rf => exact kia_one (kitx_own k.hg k.hdct k.ha k.hn k.htk k.hm) X (inst_at (s.kp_ok _ _ hx) (s.kp_ok _ _ hd)) e (by intro z; cases z) fun tk' => pc_end s (.bool _) q

theorem O_bm_list {a : Addr} {l : List V} {pl : Sem Bool} {K : V × List V → Store → Prop} (ha : σ a = some (.list l)) (q : K (.val (.builtin "list.append"), [.ref a]) σ) : O1 c n (fun v => getMethod v "append" pl) RM (.ref a) σ K := fun A kp st h tk v r s p => by
  cases p
  obtain ⟨vs, m, ho, hL, rr⟩ := s.getList ha
  exact getMethod_builtin ⟨_, ho, rfl⟩ PySem.F.plainAttrs_list slot_list_append type_list_append (fun b e => by cases e; exact ⟨_, ho, rfl⟩) (pc_end s (.mk (.val _) (.one (.ref _))) q)
theorem C_append {a : Addr} {l : List V} {x : V} {K : V → Store → Prop} (ha : σ a = some (.list l)) (hl : l.length ≤ 1000) (q : K .none (put σ a (.list (l ++ [x])))) : OC c n (.val (.builtin "list.append")) [.ref a, x] [] [] σ K := fun A kp st h tk fv vs kvs r s p q1 q2 => by
  cases p; cases q2
  cases q1 with
  | cons q1 qn =>
  cases qn with
  | cons q3 qn =>
  cases qn; cases q1
  obtain ⟨ws, m, ho, hL, rr⟩ := s.getList ha
  have len := rr.length
  refine wpAny_list_append_plain ⟨m, ho⟩ (fun h' hl' hs' => ?_) (by rw [List.size_toArray, sizeLine_eq]; omega)
  obtain ⟨m', e'⟩ := hl'
  rw [List.push_toArray] at e'
  exact ⟨.none, kp, _, h', tk, rfl, Le.refl _, .none, s.upd (y := .list (l ++ [x])) ha hs' e' ⟨_, m', rfl, rr.append (Reps.one q3)⟩, q⟩

theorem Sat.dictTy {kp st : Lk} {h : Heap} {tk : Nat} (s : SatC c kp st σ h) {a : Addr} (e : (∃ es, σ a = some (.dict es)) ∨ ∃ es, σ a = some (.sdict es)) : ∃ o, h.get? a = some o ∧ o.cls = .type "dict" ∧ o.dict = none := by
  rcases e with ⟨es, e⟩ | ⟨es, e⟩
  · obtain ⟨o, ho, xs, ep, rfl, _⟩ := s.mu_ok a _ e
    exact ⟨_, ho, rfl, rfl⟩
  · obtain ⟨o, ho, xs, kvs, ep, rfl, _⟩ := s.mu_ok a _ e
    exact ⟨_, ho, rfl, rfl⟩
theorem O_bm_dict {a : Addr} {name : Str} {id : String} {pl : Sem Bool} {K : V × List V → Store → Prop} (slot : Slot "dict" name id) (hty : typeOf (.builtin id) = pure (.type "method_descriptor")) (ha : (∃ es, σ a = some (.dict es)) ∨ ∃ es, σ a = some (.sdict es))
    (q : K (.val (.builtin id), [.ref a]) σ) : O1 c n (fun v => getMethod v name pl) RM (.ref a) σ K := fun A kp st h tk v r s p => by
  cases p
  obtain ⟨o, ho, hc, hd⟩ := s.dictTy (tk := tk) ha
  exact getMethod_builtin ⟨_, ho, hc⟩ PySem.F.plainAttrs_dict slot hty (fun b e => by cases e; exact ⟨_, ho, hd⟩) (pc_end s (.mk (.val _) (.one (.ref _))) q)
theorem O_get {a : Addr} {es : List (V × V)} {pl : Sem Bool} {K : V × List V → Store → Prop} (ha : σ a = some (.dict es)) (q : K (.val (.builtin "dict.get"), [.ref a]) σ) : O1 c n (fun v => getMethod v "get" pl) RM (.ref a) σ K := O_bm_dict PySem.F.slot_dict_get PySem.F.type_dict_get (.inl ⟨_, ha⟩) q
theorem O_setdefault {a : Addr} {es : List (V × V)} {pl : Sem Bool} {K : V × List V → Store → Prop} (ha : σ a = some (.dict es)) (q : K (.val (.builtin "dict.setdefault"), [.ref a]) σ) : O1 c n (fun v => getMethod v "setdefault" pl) RM (.ref a) σ K := O_bm_dict PySem.F.slot_dict_setdefault PySem.F.type_dict_setdefault (.inl ⟨_, ha⟩) q
theorem O_keys {a : Addr} {pl : Sem Bool} {K : V × List V → Store → Prop} (ha : (∃ es, σ a = some (.dict es)) ∨ ∃ es, σ a = some (.sdict es)) (q : K (.val (.builtin "dict.keys"), [.ref a]) σ) : O1 c n (fun v => getMethod v "keys" pl) RM (.ref a) σ K := O_bm_dict PySem.F.slot_dict_keys PySem.F.type_dict_keys ha q
theorem O_values {a : Addr} {es : List (V × V)} {pl : Sem Bool} {K : V × List V → Store → Prop} (ha : σ a = some (.dict es)) (q : K (.val (.builtin "dict.values"), [.ref a]) σ) : O1 c n (fun v => getMethod v "values" pl) RM (.ref a) σ K := O_bm_dict PySem.F.slot_dict_values PySem.F.type_dict_values (.inl ⟨_, ha⟩) q
theorem O_items {a : Addr} {es : List (V × V)} {pl : Sem Bool} {K : V × List V → Store → Prop} (ha : σ a = some (.dict es)) (q : K (.val (.builtin "dict.items"), [.ref a]) σ) : O1 c n (fun v => getMethod v "items" pl) RM (.ref a) σ K := O_bm_dict PySem.F.slot_dict_items PySem.F.type_dict_items (.inl ⟨_, ha⟩) q

theorem C_get {a : Addr} {es : List (V × V)} {l : List V} {x : V} {K : V → Store → Prop} (ha : σ a = some (.dict es)) (hk : (V.tup l).flat 8 = true) (q : K ((dget es (.tup l)).getD x) σ) : OC c n (.val (.builtin "dict.get")) [.ref a, .tup l, x] [] [] σ K := fun A kp st h tk fv vs kvs r s p q1 q2 => by
  cases p; cases q2
  cases q1 with
  | cons q1 qn =>
  cases qn with
  | cons q3 qn =>
  cases qn with
  | cons q4 qn =>
  cases qn; cases q1
  obtain ⟨b, rfl⟩ := key_ref q3
  obtain ⟨xs, hD, rx⟩ := s.getDict ha
  refine call_meetsIn PySem.F.slot_dict_get hD.typeIs PySem.F.entry_dict_get (PySem.F.args_dict_get_3 _ _ _) (meetsH_dict_get_default (Mine.hk c.prog c.w) a b (s.noSys ha) _) ⟨by show A.units + 1 + 16 < cLine; have := r.2.2; omega, _, xs, keyIs s q3 hk, hD, ?_⟩
  obtain ⟨i1, i2⟩ := rx.at q3 hk
  cases e : dget es (.tup l) with
  | none => rw [i1 e]; rw [e] at q; exact pc_end s q4 q
  | some y => obtain ⟨d, w, e1, rw'⟩ := i2 y e; rw [e1]; rw [e] at q; exact pc_end s rw' q

theorem RepX.append {g : Lk} {es : List (V × V)} {xs : List (PyData × Addr × Value)} (r : RepX g es xs) {es' : List (V × V)} {xs' : List (PyData × Addr × Value)} (h2 : RepX g es' xs') : RepX g (es ++ es') (xs ++ xs') := by
  induction r with
  | nil => exact h2
  | cons h f h' _ q => exact .cons h f h' q
theorem C_setdefault {a : Addr} {es : List (V × V)} {l : List V} {x : V} {K : V → Store → Prop} (ha : σ a = some (.dict es)) (hk : (V.tup l).flat 8 = true) (hl : es.length ≤ 1000) (q1 : ∀ y, dget es (.tup l) = some y → K y σ) (q2 : dget es (.tup l) = none → K x (put σ a (.dict (es ++ [(.tup l, x)])))) :
    OC c n (.val (.builtin "dict.setdefault")) [.ref a, .tup l, x] [] [] σ K := fun A kp st h tk fv vs kvs r s p q1' q2' => by
  cases p; cases q2'
  cases q1' with
  | cons q1' qn =>
  cases qn with
  | cons q3 qn =>
  cases qn with
  | @cons _ _ dv _ q4 qn =>
  cases qn; cases q1'
  obtain ⟨b, rfl⟩ := key_ref q3
  obtain ⟨xs, hD, rx⟩ := s.getDict ha
  have hlen := rx.length
  have hkey := keyIs s q3 hk
  obtain ⟨o, en, ep, ho, hE, hd, he, his, hn⟩ := id hD
  obtain ⟨oc, od, oda, osl⟩ := o
  obtain ⟨h1, h2, h3⟩ := hE
  dsimp only at h1 h2 h3 hd
  subst h1 h2 h3 hd
  have room : (Mine.hk c.prog c.w).room A.in1 := by show A.units + 1 + 16 < cLine; have := r.2.2; omega
  refine wpAny_call_entry PySem.F.slot_dict_setdefault hD.typeIs PySem.F.entry_dict_setdefault ?_ (PySem.F.args_dict_setdefault_3 _ _ _)
  unfold Builtin.«dict.setdefault»
  refine wpAny_bind ?_
  unfold Builtin.Dict.keyAndDefault
  refine wpAny_bind (wpAny_notOrdered_dict hD.typeIs ?_)
  show wpAny _ _ (pure (a, Value.ref b, some _)) _ _ _
  refine wpAny_pure ?_
  show wpAny _ _ (if (a == sysModules) = true then _ else (dictSetDefault a (.ref b) _ >>= _)) _ _ _
  rw [if_neg (by rw [s.noSys ha]; exact Bool.false_ne_true)]
  refine wpAny_bind ?_
  unfold dictSetDefault
  try with_reducible refine wpAny_holding ?_
  refine wpAny_bind ((Mine.hk c.prog c.w).pyHash room hkey ?_)
  refine wpAny_bind (wpAny_dictFind_heap (s := S c.s₀ h _) room hkey ho rfl he his hn ?_ ?_)
  · intro hno
    have hnone := atKey_none_of_get hno
    have e : dget es (.tup l) = none := by
      have := rx.some q3 hk
      rw [hnone] at this
      cases q : dget es (.tup l) with
      | none => rfl
      | some z => rw [q] at this; cases this
    refine wpAny_bind (wpAny_rule (wpAny_bind (wpAny_updateDictKeys (hz := by have e := size_of_entries he; rw [sizeLine_eq]; omega) (s := S c.s₀ h _) ho rfl (wpAny_pure (wpAny_pure ⟨_, rfl, ?_⟩)))))
    refine ⟨x, kp, _, _, _, rfl, Le.refl _, q4, s.upd (y := .dict (es ++ [(.tup l, x)])) ha (Heap.SameBut.update ..) (Heap.get?_update_self _ ho rfl) ⟨xs ++ [(nrm (V.tup l).py, b, dv)], ep + 1, ?_, ?_, ?_⟩, q2 e⟩
    · show (⟨.type "dict", none, .dict (en.push ⟨(Mine.hk c.prog c.w).hash (nrm (V.tup l).py), .ref b, dv⟩) (ep + 1), #[]⟩ : Obj) = dob _ _
      unfold dob
      have e2 : en.push ⟨(Mine.hk c.prog c.w).hash (nrm (V.tup l).py), .ref b, dv⟩ = List.toArray ((xs ++ [(nrm (V.tup l).py, b, dv)]).map (entryOfKey (Mine.hk c.prog c.w))) := by
        rw [List.map_append, ← he]
        obtain ⟨en⟩ := en
        simp [entryOfKey]
      rw [e2]
    · have := RepX.cons q3 hk q4 RepX.nil
      exact rx.append this
    · rw [List.map_append, List.nodup_append]
      refine ⟨hn, by simp, fun y hy z hz => ?_⟩
      simp only [List.map_cons, List.map_nil, List.mem_singleton] at hz
      subst hz
      exact fun e => not_mem_keys_of_get hno (e ▸ hy)
  · intro j pp hj
    have hat := atKey_of_get hn hj
    obtain ⟨i1, i2⟩ := rx.at q3 hk
    refine wpAny_bind (wpAny_dictEntries (s := S c.s₀ h _) ho rfl ?_)
    rw [entry_at he j, hj]
    cases e : dget es (.tup l) with
    | none => rw [i1 e] at hat; cases hat
    | some y =>
      obtain ⟨d, w, e1, rw'⟩ := i2 y e
      rw [hat] at e1
      cases e1
      exact wpAny_bind (wpAny_rule (wpAny_pure (wpAny_pure ⟨_, rfl, pc_end s rw' (q1 y e)⟩)))
end
end
section
noncomputable def Sub (σ' σ : Store) : Prop := ∀ a y, σ' a = some y → σ a = some y
theorem del_put {σ : Store} {a : Addr} {y : AO} (h : σ a = none) : del (put σ a y) a = σ := by
  funext b; unfold Mine.del Mine.put
  by_cases e : b = a
  · rw [if_pos e, e, h]
  · rw [if_neg e, if_neg e]
theorem Sub.put {σ : Store} {a : Addr} {y : AO} (h : σ a = none) : Sub σ (Mine.put σ a y) := fun b z e => by
  rw [put_ne]; exact e; rintro rfl; rw [h] at e; cases e

section
variable {c : Cx} {n : Nat} {env : Env} {loc : Loc} {σ : Store} {sc : Scope}

theorem OCd.weak {f : V} {args kargs : List V} {kn : List Str} {K : V → Store → Prop} (x : OCd c n f args kn kargs σ fun v σ' => ∃ σ'', Sub σ'' σ' ∧ K v σ'') : OCd c n f args kn kargs σ K := fun A kp st h tk fv vs kvs r s q q1 q2 =>
  codeAny_mono (x A kp st h tk fv vs kvs r s q q1 q2) fun r s' z => by
    rcases r with e | (_ | _ | _ | v) <;> first | exact z.elim | skip
    obtain ⟨u, kp', σ', h', tk', e, l, qv, s3, σ'', sb, kk⟩ := z
    exact ⟨u, kp', σ'', h', tk', e, l, qv, s3.weak sb, kk⟩
theorem view_o {kp st : Lk} {h : Heap} {tk : Nat} {a : Addr} {T : VK} {K : V → Store → Prop} (s : SatC c kp st σ h) (q : K (.view T a) σ) : PC c st kp Rep K (.ref h.objs.size) (S c.s₀ (h.push { cls := .type T.cls, data := .fields #[.ref a] }) tk) :=
  ⟨.view T a, _, σ, _, tk, rfl, le_put s.new.1, .view (put_self _ _ _) rfl rfl, s.kpush rfl, q⟩
theorem C_keys {a : Addr} {K : V → Store → Prop} (ha : (∃ es, σ a = some (.dict es)) ∨ ∃ es, σ a = some (.sdict es)) (q : K (.view .keys a) σ) : OC c n (.val (.builtin "dict.keys")) [.ref a] [] [] σ K := fun A kp st h tk fv vs kvs r s p q1 q2 => by
  cases p; cases q2
  cases q1 with
  | cons q1 qn =>
  cases qn; cases q1
  obtain ⟨o, ho, hc, hd⟩ := s.dictTy (tk := tk) ha
  have hT : (S c.s₀ h tk).TypeIs (.ref a) "dict" := ⟨o, ho, hc⟩
  have hlo : (a == sysModules) = false := by
    rcases ha with ⟨es, e⟩ | ⟨es, e⟩ <;> exact s.noSys e
  refine wpAny_call_entry PySem.F.slot_dict_keys hT PySem.F.entry_dict_keys ?_ (PySem.F.args_dict_keys_1 _)
  refine wpAny_bind ?_
  unfold Builtin.Dict.noArgs
  refine wpAny_bind (wpAny_notOrdered_dict hT ?_)
  show wpAny _ _ (pure a) _ _ _
  refine wpAny_pure ?_
  show wpAny _ _ (Builtin.Dict.showsAll a >>= _) _ _ _
  unfold Builtin.Dict.showsAll
  rw [if_neg (by rw [hlo]; exact Bool.false_ne_true)]
  refine wpAny_bind (wpAny_pure ?_)
  exact wpAny_bind (wpAny_newObj_type (wpAny_pure ⟨_, rfl, view_o (T := .keys) s q⟩))
theorem C_values {a : Addr} {K : V → Store → Prop} (ha : (∃ es, σ a = some (.dict es)) ∨ ∃ es, σ a = some (.sdict es)) (q : K (.view .vals a) σ) : OC c n (.val (.builtin "dict.values")) [.ref a] [] [] σ K := fun A kp st h tk fv vs kvs r s p q1 q2 => by
  cases p; cases q2
  cases q1 with
  | cons q1 qn =>
  cases qn; cases q1
  obtain ⟨o, ho, hc, hd⟩ := s.dictTy (tk := tk) ha
  have hT : (S c.s₀ h tk).TypeIs (.ref a) "dict" := ⟨o, ho, hc⟩
  have hlo : (a == sysModules) = false := by
    rcases ha with ⟨es, e⟩ | ⟨es, e⟩ <;> exact s.noSys e
  refine wpAny_call_entry PySem.F.slot_dict_values hT PySem.F.entry_dict_values ?_ (PySem.F.args_dict_values_1 _)
  refine wpAny_bind ?_
  unfold Builtin.Dict.noArgs
  refine wpAny_bind (wpAny_notOrdered_dict hT ?_)
  show wpAny _ _ (pure a) _ _ _
  refine wpAny_pure ?_
  show wpAny _ _ (Builtin.Dict.showsAll a >>= _) _ _ _
  unfold Builtin.Dict.showsAll
  rw [if_neg (by rw [hlo]; exact Bool.false_ne_true)]
  refine wpAny_bind (wpAny_pure ?_)
  exact wpAny_bind (wpAny_newObj_type (wpAny_pure ⟨_, rfl, view_o (T := .vals) s q⟩))
theorem C_items {a : Addr} {K : V → Store → Prop} (ha : (∃ es, σ a = some (.dict es)) ∨ ∃ es, σ a = some (.sdict es)) (q : K (.view .items a) σ) : OC c n (.val (.builtin "dict.items")) [.ref a] [] [] σ K := fun A kp st h tk fv vs kvs r s p q1 q2 => by
  cases p; cases q2
  cases q1 with
  | cons q1 qn =>
  cases qn; cases q1
  obtain ⟨o, ho, hc, hd⟩ := s.dictTy (tk := tk) ha
  have hT : (S c.s₀ h tk).TypeIs (.ref a) "dict" := ⟨o, ho, hc⟩
  have hlo : (a == sysModules) = false := by
    rcases ha with ⟨es, e⟩ | ⟨es, e⟩ <;> exact s.noSys e
  refine wpAny_call_entry PySem.F.slot_dict_items hT PySem.F.entry_dict_items ?_ (PySem.F.args_dict_items_1 _)
  unfold Builtin.«dict.items»
  refine wpAny_bind ?_
  unfold Builtin.Dict.noArgs
  refine wpAny_bind (wpAny_notOrdered_dict hT ?_)
  show wpAny _ _ (pure a) _ _ _
  refine wpAny_pure ?_
  show wpAny _ _ (Builtin.Dict.showsAll a >>= _) _ _ _
  unfold Builtin.Dict.showsAll
  rw [if_neg (by rw [hlo]; exact Bool.false_ne_true)]
  refine wpAny_bind (wpAny_pure ?_)
  exact wpAny_bind (wpAny_newObj_type (wpAny_pure ⟨_, rfl, view_o (T := .items) s q⟩))

theorem itemsOf_reps {g : Lk} {P : Nat → Value → Prop} {l : List V} {acc : Array Value} (h : ItemsOf P acc l.length) (hP : ∀ i u, P i u → ∃ y, l[i]? = some y ∧ Rep g y u) : Reps g l acc.toList := by
  obtain ⟨hs, hp⟩ := h
  obtain ⟨vs⟩ := acc
  have key : ∀ (l : List V) (vs : List Value) (j : Nat) (m : List V), m.drop j = l → vs.length = l.length → (∀ i u, vs[i]? = some u → ∃ y, m[i + j]? = some y ∧ Rep g y u) → Reps g l vs := by
    intro l
    induction l with
    | nil => intro vs j m _ e _; cases vs with | nil => exact .nil | cons _ _ => simp at e
    | cons x r ih =>
      intro vs j m hm e k
      cases vs with
      | nil => simp at e
      | cons v vs =>
        have hx : m[j]? = some x := by have := congrArg (·[0]?) hm; simpa using this
        obtain ⟨y, e1, e2⟩ := k 0 v rfl
        rw [Nat.zero_add, hx] at e1; cases e1
        refine .cons e2 (ih vs (j + 1) m (by rw [← List.drop_drop, hm]; rfl) (by simpa using e) fun i u hu => ?_)
        have := k (i + 1) u (by simpa using hu)
        rwa [show i + 1 + j = i + (j + 1) by omega] at this
  refine key l vs 0 l rfl (by simpa using hs) fun i u hu => ?_
  exact hP i u (hp i u (by simpa using hu))
theorem keys_reps {g : Lk} {es : List (V × V)} {xs : List (PyData × Addr × Value)} {prog : Program} {w : World} (rx : RepX g es xs) : ∀ (i : Nat) (u : Value), ((List.toArray (xs.map (entryOfKey (Mine.hk prog w))))[i]?).map (·.key) = some u → ∃ y, (es.map (·.1))[i]? = some y ∧ Rep g y u := fun i u q => by
  simp only [List.getElem?_toArray, List.getElem?_map, Option.map_map, Option.map_eq_some_iff] at q
  obtain ⟨x, e1, rfl⟩ := q
  obtain ⟨e, e2, e3, _⟩ := rx.get e1
  exact ⟨e.1, by rw [List.getElem?_map, e2]; rfl, e3⟩
theorem vals_reps {g : Lk} {es : List (V × V)} {xs : List (PyData × Addr × Value)} {prog : Program} {w : World} (rx : RepX g es xs) : ∀ (i : Nat) (u : Value), ((List.toArray (xs.map (entryOfKey (Mine.hk prog w))))[i]?).map (·.val) = some u → ∃ y, (es.map (·.2))[i]? = some y ∧ Rep g y u := fun i u q => by
  simp only [List.getElem?_toArray, List.getElem?_map, Option.map_map, Option.map_eq_some_iff] at q
  obtain ⟨x, e1, rfl⟩ := q
  obtain ⟨e, e2, _, e3⟩ := rx.get e1
  exact ⟨e.2, by rw [List.getElem?_map, e2]; rfl, e3⟩
theorem C_list_keys {a : Addr} {es : List (V × V)} {K : V → Store → Prop} (ha : σ a = some (.dict es)) (hl : es.length ≤ 1000) (q : K (.flst (es.map (·.1))) σ) : OC c n (.val (.type "list")) [.view .keys a] [] [] σ K := fun A kp st h tk fv vs kvs r s p q1 q2 => by
  cases p; cases q2
  cases q1 with
  | cons q1 qn =>
  cases qn
  obtain ⟨xs, ep, hD, rx⟩ := s.getRaw ha
  have hz : (List.toArray (xs.map (entryOfKey (Mine.hk c.prog c.w)))).size = (es.map (·.1)).length := by simp [rx.length]
  cases q1 with
  | view hb hc hd =>
    refine kdl_call (srcKeys (ep := ep)) r.1 ⟨⟨_, s.kp_ok _ _ hb, hc, hd⟩, hD⟩ (by rw [hz, sizeLine_eq, List.length_map]; omega) fun h' tk' acc c' k e hi => ?_
    rw [hz] at hi
    have s' := s.keep k
    have nn := s.new
    exact ⟨.flst (es.map (·.1)), _, σ, h', tk', rfl, le_put nn.1, .flst (put_self _ _ _) rfl (by rw [Array.toArray_toList]) ((itemsOf_reps hi (keys_reps rx)).mono (le_put nn.1)), s'.kput nn.1 nn.2.1 nn.2.2 e, q⟩
theorem C_list_vals {a : Addr} {es : List (V × V)} {K : V → Store → Prop} (ha : σ a = some (.dict es)) (hl : es.length ≤ 1000) (q : K (.flst (es.map (·.2))) σ) : OC c n (.val (.type "list")) [.view .vals a] [] [] σ K := fun A kp st h tk fv vs kvs r s p q1 q2 => by
  cases p; cases q2
  cases q1 with
  | cons q1 qn =>
  cases qn
  obtain ⟨xs, ep, hD, rx⟩ := s.getRaw ha
  have hz : (List.toArray (xs.map (entryOfKey (Mine.hk c.prog c.w)))).size = (es.map (·.2)).length := by simp [rx.length]
  cases q1 with
  | view hb hc hd =>
    refine kdl_call (srcVals (ep := ep)) r.1 ⟨⟨_, s.kp_ok _ _ hb, hc, hd⟩, hD⟩ (by rw [hz, sizeLine_eq, List.length_map]; omega) fun h' tk' acc c' k e hi => ?_
    rw [hz] at hi
    have s' := s.keep k
    have nn := s.new
    exact ⟨.flst (es.map (·.2)), _, σ, h', tk', rfl, le_put nn.1, .flst (put_self _ _ _) rfl (by rw [Array.toArray_toList]) ((itemsOf_reps hi (vals_reps rx)).mono (le_put nn.1)), s'.kput nn.1 nn.2.1 nn.2.2 e, q⟩

noncomputable def strV (ss : List Str) : List V := ss.map V.str
theorem strsAre_of {g : Lk} : ∀ {ss : List Str} {vs : List Value}, Reps g (strV ss) vs → StrsAre vs ss ∧ ∀ x ∈ ss, PyData.strOk x = true
  | [], _, h => by cases h; exact ⟨.nil, fun x m => by simp at m⟩
  | x :: r, _, h => by
    cases h with
    | cons h1 h2 =>
      cases h1 with
      | str _ t hs =>
        obtain ⟨a, b⟩ := strsAre_of h2
        exact ⟨.cons _ _ a, fun y m => by
          rcases List.mem_cons.mp m with rfl | m
          · exact hs
          · exact b y m⟩
theorem reps_of {g : Lk} {ss : List Str} {vs : List Value} (h : StrsAre vs ss) : (∀ x ∈ ss, PyData.strOk x = true) → Reps g (strV ss) vs := by
  induction h with
  | nil => exact fun _ => .nil
  | cons x t _ q => exact fun k => .cons (.str x t (k x (.head _))) (q fun y m => k y (.tail _ m))
theorem C_sorted_flst {ss : List Str} {K : V → Store → Prop} (hl : ss.length < 64) (q : ∀ ss', ss'.Perm ss → K (.flst (strV ss')) σ) : OC c n (.val (.builtin "sorted")) [.flst (strV ss)] [] [] σ K := fun A kp st h tk fv vs kvs r s p q1 q2 => by
  cases p; cases q2
  cases q1 with
  | cons q1 qn =>
  cases qn
  cases q1 with
  | @flst _ a o ws m ho hc hd rr =>
    obtain ⟨hS, hok⟩ := strsAre_of rr
    have hL : h.IsList a ws.toArray := ⟨o, s.kp_ok _ _ ho, hc, m, hd⟩
    refine sorted_strs hL hS (by rw [rr.length]; simpa [strV] using hl) fun out ss' h1 h2 h3 => ?_
    obtain ⟨e, he⟩ := sortedAll_at h ws out
    have k : ∀ b o, h.get? b = some o → (sortedAll h ws out).get? b = some o := fun _ _ => sortedAll_old
    have s' : SatC c kp st σ (sortedAll h ws out) := s.keep k
    have nn := s.fresh (a := h.objs.size + 1) (by
      cases q : h.get? (h.objs.size + 1) with
      | none => rfl
      | some o => exact absurd (Heap.lt_size q) (Nat.not_lt.mpr (Nat.le_succ _)))
    refine ⟨.flst (strV ss'), _, σ, _, tk, rfl, le_put nn.1, .flst (vs := out.toList) (n := e) (put_self _ _ _) rfl (by rw [Array.toArray_toList]) (reps_of h1 fun x m => hok x (h2.mem_iff.mp m)), s'.kput nn.1 nn.2.1 nn.2.2 he, q ss' h2⟩

theorem Sat.getSraw {prog : Program} {w : World} {B kp st : Lk} {h : Heap} (s : Sat prog w B kp st σ h) {a : Addr} {es : List (Str × V)} (e : σ a = some (.sdict es)) :
    ∃ ens kvs ep, DRaw h a (List.toArray ens) ep ∧ Pairs (PySem.strKind prog w) ens kvs ∧ RepSV kp es kvs := by
  obtain ⟨o, ho, ens, kvs, n, rfl, k1, k2, k3, r⟩ := s.mu_ok a _ e
  exact ⟨ens, kvs, n, ⟨_, ho, ⟨rfl, rfl, rfl⟩, rfl⟩, k2, r⟩
theorem pairs_len {prog : Program} {w : World} {ens : List DictEntry} {kvs : List (Str × Value)} (h : Pairs (PySem.strKind prog w) ens kvs) : ens.length = kvs.length := by
  induction h with
  | nil => rfl
  | cons _ _ _ q => rw [List.length_cons, List.length_cons, q]
theorem RepSV.len {g : Lk} {es : List (Str × V)} {kvs : List (Str × Value)} (h : RepSV g es kvs) : kvs.length = es.length := by
  induction h with
  | nil => rfl
  | cons _ _ _ q => rw [List.length_cons, List.length_cons, q]
theorem sv_keys {g : Lk} {prog : Program} {w : World} {ens : List DictEntry} {kvs : List (Str × Value)} {es : List (Str × V)} (p : Pairs (PySem.strKind prog w) ens kvs) (r : RepSV g es kvs) : StrsAre (ens.map (·.key)) (es.map (·.1)) ∧ ∀ x ∈ es.map (·.1), PyData.strOk x = true := by
  induction r generalizing ens with
  | nil => cases p; exact ⟨.nil, fun x m => by cases m⟩
  | cons k _ _ q =>
    cases p with
    | cons h _ p =>
      obtain ⟨a, b⟩ := q p
      obtain ⟨t, ht⟩ := Value.isStrOf_shape h
      refine ⟨?_, fun y m => ?_⟩
      · rw [List.map_cons, List.map_cons, ht]; exact .cons _ t a
      · cases m with
        | head => exact k
        | tail _ m => exact b y m
theorem C_sorted_keys {a : Addr} {es : List (Str × V)} {K : V → Store → Prop} (ha : σ a = some (.sdict es)) (hl : es.length < 64) (q : ∀ ss', ss'.Perm (es.map (·.1)) → K (.flst (strV ss')) σ) : OC c n (.val (.builtin "sorted")) [.view .keys a] [] [] σ K := fun A kp st h tk fv vs kvs r s p q1 q2 => by
  cases p; cases q2
  cases q1 with
  | cons q1 qn =>
  cases qn
  obtain ⟨ens, kv, ep, hD, hp, rs⟩ := s.getSraw ha
  obtain ⟨hS, hok⟩ := sv_keys hp rs
  have hlen : ens.length = es.length := (pairs_len hp).trans rs.len
  cases q1 with
  | view hb hc hd =>
    refine call_function_entry kind_sorted plain_sorted entry_sorted (args_sorted1 _) ?_
    unfold Builtin.«sorted»
    refine wpAny_bind (m := checkCount "sorted" 1 1 _) (wpAny_pure ?_)
    refine wpAny_bind (kdu_collect (A := A.in1) (srcKeys (ep := ep)) r.1 ⟨⟨_, s.kp_ok _ _ hb, hc, hd⟩, hD⟩ (by rw [List.size_toArray, sizeLine_eq]; omega) fun h' tk' acc k hi => ?_)
    have hacc : acc.toList = ens.map (·.key) := by
      apply List.ext_getElem?
      intro i
      have hs : acc.toList.length = ens.length := by rw [Array.length_toList, hi.1, List.size_toArray]
      rcases Nat.lt_or_ge i ens.length with z | z
      · have hi' : i < acc.toList.length := by omega
        have := hi.2 i acc.toList[i] (by rw [← Array.getElem?_toList]; simp [hi'])
        simp only [List.getElem?_toArray] at this
        rw [List.getElem?_map, this]; simp [hi']
      · rw [List.getElem?_eq_none (by omega), List.getElem?_eq_none (by rw [List.length_map]; omega)]
    rw [hacc]
    refine wpAny_bind (wpAny_newList ?_ (by rw [List.length_map, sizeLine_eq]; omega))
    have hoL : (h'.push { cls := .type "list", data := .seq (ens.map (·.key)).toArray }).get? h'.objs.size = some (seqObj "list" (ens.map (·.key)).toArray 0) := Heap.get?_push_size _ rfl
    refine wpAny_bind (wpAny_holding (wpAny_call_entry slot_list_sort ⟨_, hoL, rfl⟩ entry_list_sort (list_sort_treeK strKind_oneLt hoL hS.keysOf (fun v₁ v₂ rest e => keyKind_strs (by rw [← e]; exact hS)) (by rw [List.length_map]; omega) fun st' a1 a2 => ⟨_, rfl, ?_⟩) (args_list_sort _)))
    obtain ⟨ss', h1, h2, h3⟩ := sorted_out_str hS a1 a2
    obtain ⟨e, he⟩ := sortedHeap_at (out := (arrOf st').map (·.2)) hoL
    have k2 : ∀ b o, h.get? b = some o → (sortedHeap (h'.push { cls := .type "list", data := .seq (ens.map (·.key)).toArray }) h'.objs.size (ens.map (·.key)) ((arrOf st').map (·.2))).get? b = some o := fun b o e => by
      have e' := k b o e
      rw [sortedHeap_old (old_size e') (by rw [Heap.size_push]; exact Nat.lt_succ_of_lt (Heap.lt_size e'))]
      exact Heap.get?_push_of_some _ e'
    have s' := s.keep k2
    have nn := (s.keep k).new
    exact wpAny_pure ⟨_, rfl, .flst (strV ss'), _, σ, _, tk', rfl, le_put nn.1, .flst (vs := ((arrOf st').map (·.2)).toList) (n := e) (put_self _ _ _) rfl (by rw [Array.toArray_toList]) (reps_of h1 fun x m => hok x (h2.mem_iff.mp m)), s'.kput nn.1 nn.2.1 nn.2.2 he, q ss' h2⟩
end
end
section
noncomputable def sput (es : List (Str × V)) (k : Str) (x : V) : List (Str × V) := if es.any (fun e => e.1 = k) then es.map (fun e => if e.1 = k then (e.1, x) else e) else es ++ [(k, x)]
theorem sv_at {g : Lk} {k : Str} {es : List (Str × V)} {kvs : List (Str × Value)} (r : RepSV g es kvs) : ∀ {x : V}, es.lookup k = some x → ∃ u, valueAt kvs k = some u ∧ Rep g x u := by
  induction r with
  | nil => exact fun h => by cases h
  | @cons y _ v _ _ _ hv _ q =>
    intro x h
    rw [List.lookup_cons] at h
    unfold valueAt
    rw [List.find?_cons]
    cases hb : k == y with
    | true => rw [hb] at h; cases h; exact ⟨v, by rw [beq_iff_eq.mp hb]; simp, hv⟩
    | false =>
      rw [hb] at h
      have ne : ¬ y = k := fun q => by rw [q] at hb; simp at hb
      rw [decide_eq_false ne]
      exact q h
theorem sv_any {g : Lk} {k : Str} {es : List (Str × V)} {kvs : List (Str × Value)} (r : RepSV g es kvs) : (kvs.any fun e => decide (e.1 = k)) = es.any fun e => decide (e.1 = k) := by
  induction r with
  | nil => rfl
  | cons _ _ _ q => rw [List.any_cons, List.any_cons, q]
theorem sv_map {g : Lk} {k : Str} {x : V} {u : Value} (hx : Rep g x u) {es : List (Str × V)} {kvs : List (Str × Value)} (r : RepSV g es kvs) : RepSV g (es.map fun e => if e.1 = k then (e.1, x) else e) (kvs.map fun e => if e.1 = k then (e.1, u) else e) := by
  induction r with
  | nil => exact .nil
  | cons a hv _ q =>
    rw [List.map_cons, List.map_cons]
    dsimp only
    split
    · exact .cons a hx q
    · exact .cons a hv q
theorem sv_snoc {g : Lk} {k : Str} {x : V} {u : Value} (hk : PyData.strOk k = true) (hx : Rep g x u) {es : List (Str × V)} {kvs : List (Str × Value)} (r : RepSV g es kvs) : RepSV g (es ++ [(k, x)]) (kvs ++ [(k, u)]) := by
  induction r with
  | nil => exact .cons hk hx .nil
  | cons a hv _ q => exact .cons a hv q
theorem sv_put {g : Lk} {k : Str} {x : V} {u : Value} (hk : PyData.strOk k = true) (hx : Rep g x u) {es : List (Str × V)} {kvs : List (Str × Value)} (r : RepSV g es kvs) : RepSV g (sput es k x) (stored kvs k u) := by
  unfold sput stored
  rw [sv_any r]
  split
  · exact sv_map hx r
  · exact sv_snoc hk hx r

section
variable {c : Cx} {n : Nat} {env : Env} {loc : Loc} {σ : Store} {sc : Scope}

theorem O_item_sdict {e i : Expr} {a : Addr} {es : List (Str × V)} {k : Str} {x : V} {K : V → Store → Prop} (ha : σ a = some (.sdict es)) (hx : es.lookup k = some x) (q : K x σ)
    (hs : ∀ a b t, subscripted i false (.ref a) (.str b t) = operate [.ref a, .str b t] (getItem (.ref a) (.str b t))) : O2 c n (subscriptTail e i) Rep (.ref a) (.str k) σ K := fun A kp st h tk u v r s p p' => by
  cases p
  cases p' with
  | str _ t hk =>
    obtain ⟨kvs, hD, rs⟩ := s.getSdict ha
    obtain ⟨w, e1, rw'⟩ := sv_at rs hx
    exact tail_any hD.typeIs slot_dict_getitem.lookup (wpAny_getItem_of (knd := PySem.strKind c.prog c.w) (k := k) (by show Value.isStrOf k (.str k t) = true; simp [Value.isStrOf]) hD.mapOf e1 (pc_end s rw' q)) (hs _ _ _)
theorem O_setitem_s {a : Addr} {es : List (Str × V)} {k : Str} {x : V} {K : Unit → Store → Prop} (ha : σ a = some (.sdict es)) (hl : es.length ≤ 1000) (q : K () (put σ a (.sdict (sput es k x)))) : O3 c n setItem Same (.ref a) (.str k) x σ K := fun A kp st h tk u v t r s p p' px => by
  cases p
  cases p' with
  | str _ tt hk =>
    obtain ⟨kvs, hD, rs⟩ := s.getSdict ha
    refine wpAny_setItem_pairs (knd := PySem.strKind c.prog c.w) (k := k) (by show Value.isStrOf k (.str k tt) = true; simp [Value.isStrOf]) hD (fun h' hD' hs => ?_) (by rw [rs.len, sizeLine_eq]; omega)
    obtain ⟨o, ens, ep, ho, hE, hd, hks, hp, hn⟩ := hD'
    refine ⟨(), kp, _, h', _, rfl, Le.refl _, rfl, s.upd (y := .sdict (sput es k x)) ha hs ho ⟨ens.toList, stored kvs k t, ep, ?_, hks, hp, hn, sv_put hk px rs⟩, q⟩
    obtain ⟨oc, od, oda, osl⟩ := o
    obtain ⟨h1, h2, h3⟩ := hE
    dsimp only at h1 h2 h3 hd
    subst h1 h2 h3 hd
    unfold dob
    rw [Array.toArray_toList]
theorem O_eq_sempty {a b : Addr} {es : List (Str × V)} {K : V → Store → Prop} (ha : σ a = some (.sdict es)) (hb : σ b = some (.sdict [])) (q : K (.bool es.isEmpty) (del σ b)) : O2 c n (compareOp .Eq) Rep (.ref a) (.ref b) σ K := fun A kp st h tk u v r s p p' => by
  cases p; cases p'
  obtain ⟨kvs, hD, rs⟩ := s.getSdict ha
  obtain ⟨kvs', hD', rs'⟩ := s.getSdict hb
  cases rs'
  have hlen := rs.len
  refine keq_eq (knd := PySem.strKind c.prog c.w) (r := es.isEmpty) (s.noSys ha) (s.noSys hb) hD hD' (by have := r.2.2; omega) (fun e => ?_) ?_
  · have : kvs = [] := List.eq_nil_of_length_eq_zero e
    subst this
    have : es = [] := List.eq_nil_of_length_eq_zero hlen.symm
    subst this
    exact .nil
  · have : ((kvs.length == ([] : List (Str × Value)).length) && es.isEmpty) = es.isEmpty := by
      rw [hlen]; cases es <;> simp
    rw [this]
    exact pc_end (s.del b) (.bool _) q

theorem clip_nat (n a : Nat) : clipAt n (a : Int) = min a n := by
  unfold clipAt
  rw [if_neg (by omega)]
  omega
theorem slice_o {kp st : Lk} {h : Heap} {tk : Nat} {l : List V} {vs : List Value} {vl vu : Value} {K : V → Store → Prop} (s : SatC c kp st σ h) (rr : Reps kp l vs) (k : K (.flst l) σ) :
    PC c st kp Rep K (.ref (h.objs.size + 1)) (S c.s₀ ((h.push { cls := .type "slice", data := .fields #[vl, vu, .none] }).push { cls := .type "list", data := .seq vs.toArray }) tk) := by
  have s1 := s.push { cls := .type "slice", data := .fields #[vl, vu, .none] }
  have nn := s1.new
  rw [Heap.size_push] at nn
  have s2 := s1.kpush (o := lob vs 0) rfl
  rw [Heap.size_push] at s2
  exact ⟨.flst l, _, σ, _, tk, rfl, le_put nn.1, .flst (put_self _ _ _) rfl rfl (rr.mono (le_put nn.1)), s2, k⟩
theorem WE_slice_from {e : Expr} {a b : Nat} {k1 k2 : Nat} {p1 p2 p pos : Pos} {K : V → Store → Prop} (x : WE c n env e loc σ fun v σ1 => ∃ l, v = .flst l ∧ l.length ≤ 1000 ∧ K (.flst ((l.drop a).take (b - a))) σ1) (hab : a ≤ b) (ht : ∀ o r, letTemporaryGo e o r = pure () := by intro _ _; rfl) :
    WE c n env (.Subscript e (.Slice (some (.Constant (.int a) k1 p1)) (some (.Constant (.int b) k2 p2)) none p) pos) loc σ K := fun A kp st h tk r s F => by
  refine wpAny_Subscript_list_slice (wpAny_mono (x A kp st h tk r s F) (fun u s' ⟨bv, kp1, σ1, h1, tk1, e1, l1, q1, s1, F1, l, ev, hl, k⟩ => ?_) fun _ _ e => e) ht
  subst e1 ev
  cases q1 with
  | @flst _ ad o vs m ho hc hd rr =>
    refine evalPart_some_step (wpAny_Constant_int (evalPart_some_step (wpAny_Constant_int ⟨ad, vs.toArray, some a, some b, rfl, ⟨o, s1.kp_ok _ _ ho, hc, m, hd⟩, by rw [List.size_toArray, rr.length, sizeLine_eq]; omega, .int _ _, .int _ _, ?_⟩)))
    have e2 : slicePick vs.toArray (some (a : Int)) (some (b : Int)) none = List.toArray ((vs.drop a).take (b - a)) := by
      rw [slicePick_plain]
      simp only [Option.elim, List.toList_toArray, List.size_toArray]
      rw [clip_nat, clip_nat]
      congr 1
      rcases Nat.le_total a vs.length with z | z
      · rw [Nat.min_eq_left z]
        rcases Nat.le_total b vs.length with z2 | z2
        · rw [Nat.min_eq_left z2]
        · rw [Nat.min_eq_right z2, List.take_of_length_le (by rw [List.length_drop]; omega), List.take_of_length_le (by rw [List.length_drop]; omega)]
      · rw [Nat.min_eq_right z, List.drop_of_length_le (Nat.le_refl _), List.drop_of_length_le z]
        simp
    rw [e2]
    have := F1.satF s1
    exact (fun p : PC c (stF env h1 st) kp1 Rep K _ _ => let ⟨x, kp', σ', h', tk', e, l, q, s', k⟩ := p; ⟨x, kp', σ', h', tk', e, l1.trans l, q, s'.weakSt F1.le_stF, F1.after l s', k⟩) (slice_o this ((rr.drop a).take (b - a)) k)

theorem WS_setitem {o i e : Expr} {ps pos : Pos} {K : Fl → Loc → Store → Prop} (y : WE c n env e loc σ fun v σ1 => WE c n env o loc σ1 fun ov σ2 => WE c n env i loc σ2 fun iv σ3 => O3 c n setItem Same ov iv v σ3 fun _ σ4 => K .next loc σ4)
    (hs : swapsWith e (some (.Subscript o i ps)) pos.line env = pure false := by with_unfolding_all rfl) : WS c n env (.Assign [.Subscript o i ps] e pos) loc σ K := fun A kp st h tk r s F => by
  refine wpAny_Assign_Subscript (wpAny_mono (y A kp st h tk r s F) (fun v s' ⟨u, kp1, σ1, h1, tk1, e1, l1, q1, s1, F1, y⟩ => ?_) fun _ _ e => e) hs
  subst e1
  refine wpAny_mono (y A kp1 st h1 tk1 r s1 F1) (fun ov s' ⟨b, kp2, σ2, h2, tk2, e2, l2, q2, s2, F2, z⟩ => ?_) fun _ _ e => e
  subst e2
  refine wpAny_mono (z A kp2 st h2 tk2 r s2 F2) (fun iv s' ⟨b, kp3, σ3, h3, tk3, e3, l3, q3, s3, F3, z3⟩ => ?_) fun _ _ e => e
  subst e3
  refine wpAny_mono (z3.inF r s3 F3 (q2.mono l3) q3 (q1.mono (l2.trans l3))) (fun _ s' ⟨b, kp4, σ4, h4, tk4, e4, l4, q4, s4, F4, z4⟩ => ?_) fun _ _ e => e
  exact ⟨.next, loc, kp4, σ4, h4, tk4, e4, l1.trans (l2.trans (l3.trans l4)), .next, s4, F4, z4⟩
end
end
section
section
variable {prog : Program} {w : World} {A : Around} {R : Result → Shared → Prop} {s : Shared}
theorem turn2_1 (elt t1 i1 t2 i2 : Expr) (scope : Scope) (pos : Pos) (it acc : Value) (env : Env) :
    compTurn (.ListComp elt [⟨t1, i1, [], 0⟩, ⟨t2, i2, [], 0⟩] scope pos) 1 it acc env = (standAt i2.pos >>= fun _ => pyNext it >>= fun r => match r with
      | none => pure (.done .next)
      | some v => letOwnedTupleGo t2 it v >>= fun _ => assign t2 env v >>= fun _ =>
        (eval elt env >>= fun x => call (.builtin "list.append") [acc, x] >>= fun _ => pure ()) >>= fun _ =>
          again (.compLoop (.ListComp elt [⟨t1, i1, [], 0⟩, ⟨t2, i2, [], 0⟩] scope pos) 1 it acc env)) := by rfl
theorem turn2_0 (elt t1 i1 t2 i2 : Expr) (scope : Scope) (pos : Pos) (it acc : Value) (env : Env) :
    compTurn (.ListComp elt [⟨t1, i1, [], 0⟩, ⟨t2, i2, [], 0⟩] scope pos) 0 it acc env = (standAt i1.pos >>= fun _ => pyNext it >>= fun r => match r with
      | none => pure (.done .next)
      | some v => letOwnedTupleGo t1 it v >>= fun _ => assign t1 env v >>= fun _ =>
        eval i2 env >>= fun x => standAt i2.pos >>= fun _ => foldedSetIterable i2 env x >>= fun x => holding [x] (pyIter x) >>= fun it2 =>
          runOwn (.compStart (.ListComp elt [⟨t1, i1, [], 0⟩, ⟨t2, i2, [], 0⟩] scope pos) 1 it2 acc env) env >>= fun _ =>
          again (.compLoop (.ListComp elt [⟨t1, i1, [], 0⟩, ⟨t2, i2, [], 0⟩] scope pos) 0 it acc env)) := by rfl

theorem loop2_1 {elt t1 i1 t2 i2 : Expr} {scope : Scope} {pos : Pos} {it acc : Value} {env : Env} (I : Nat → Shared → Prop)
    (turn : ∀ n s, I n s → wpAny (model prog w) A (pyNext it) (fun r s₁ => match r with
      | none => R (.ok .next) s₁
      | some v => wpAny (model prog w) A (assign t2 env v) (fun _ s₂ => wpAny (model prog w) A (eval elt env) (fun x s₃ =>
          wpAny (model prog w) A (call (.builtin "list.append") [acc, x]) (fun _ s₄ => ∃ m, m < n ∧ I m s₄) (notedBy (model prog w) A env fun e s' => R (.error e) s') s₃)
          (notedBy (model prog w) A env fun e s' => R (.error e) s') s₂) (notedBy (model prog w) A env fun e s' => R (.error e) s') s₁) (notedBy (model prog w) A env fun e s' => R (.error e) s') s)
    (n : Nat) (h : I n s) (ht : ∀ v, letOwnedTupleGo t2 it v = pure () := by intro _; rfl) :
    codeAny (model prog w) A (.compLoop (.ListComp elt [⟨t1, i1, [], 0⟩, ⟨t2, i2, [], 0⟩] scope pos) 1 it acc env) R s := by
  refine codeAny_loop rfl I (fun n s hI => ?_) n h
  show wpAny _ _ ((compTurn (.ListComp elt [⟨t1, i1, [], 0⟩, ⟨t2, i2, [], 0⟩] scope pos) 1 it acc env).onRaise (fun x => do noteFrame x env; theTreesLotGoes x)) _ _ s
  refine wpAny_noted ?_
  rw [turn2_1]
  refine wpAny_bind (wpAny_standAt (wpAny_bind (wpAny_mono (turn n s hI) (fun r s₁ h₁ => ?_) fun _ _ h' => h')))
  cases r with
  | none => exact wpAny_pure h₁
  | some v =>
    refine wpAny_bind (wpAny_of_eq (ht v) ?_)
    exact wpAny_bind (wpAny_mono h₁ (fun _ s₂ h₂ => wpAny_bind (wpAny_bind (wpAny_mono h₂ (fun x s₃ h₃ => wpAny_bind (wpAny_mono h₃
      (fun _ s₄ h₄ => wpAny_pure (wpAny_pure ⟨rfl, h₄⟩)) fun _ _ h' => h')) fun _ _ h' => h'))) fun _ _ h' => h')
theorem loop2_0 {elt t1 i1 t2 i2 : Expr} {scope : Scope} {pos : Pos} {it acc : Value} {env : Env} (I : Nat → Shared → Prop)
    (turn : ∀ n s, I n s → wpAny (model prog w) A (pyNext it) (fun r s₁ => match r with
      | none => R (.ok .next) s₁
      | some v => wpAny (model prog w) A (assign t1 env v) (fun _ s₂ => wpAny (model prog w) A (eval i2 env) (fun x s₃ => wpAny (model prog w) A (pyIter x) (fun it2 s₄ =>
          codeAny (model prog w) A (.compStart (.ListComp elt [⟨t1, i1, [], 0⟩, ⟨t2, i2, [], 0⟩] scope pos) 1 it2 acc env) (fun r s₅ => match r with | .ok _ => ∃ m, m < n ∧ I m s₅ | .error _ => False) s₄) (fun _ _ => False) s₃) (fun _ _ => False) s₂) (fun _ _ => False) s₁) (fun _ _ => False) s)
    (n : Nat) (h : I n s) (ht : ∀ v, letOwnedTupleGo t1 it v = pure () := by intro _; rfl) (hs : ∀ x, foldedSetIterable i2 env x = pure x := by intro _; rfl) :
    codeAny (model prog w) A (.compLoop (.ListComp elt [⟨t1, i1, [], 0⟩, ⟨t2, i2, [], 0⟩] scope pos) 0 it acc env) R s := by
  refine codeAny_loop rfl I (fun n s hI => ?_) n h
  show wpAny _ _ ((compTurn (.ListComp elt [⟨t1, i1, [], 0⟩, ⟨t2, i2, [], 0⟩] scope pos) 0 it acc env).onRaise (fun x => do noteFrame x env; theTreesLotGoes x)) _ _ s
  refine wpAny_noted ?_
  rw [turn2_0]
  refine wpAny_bind (wpAny_standAt (wpAny_bind (wpAny_mono (turn n s hI) (fun r s₁ h₁ => ?_) fun _ _ h' => h'.elim)))
  cases r with
  | none => exact wpAny_pure h₁
  | some v =>
    refine wpAny_bind (wpAny_of_eq (ht v) ?_)
    refine wpAny_bind (wpAny_mono h₁ (fun _ s₂ h₂ => ?_) fun _ _ h' => h'.elim)
    refine wpAny_bind (wpAny_mono h₂ (fun x s₃ h₃ => ?_) fun _ _ h' => h'.elim)
    refine wpAny_bind (wpAny_standAt (wpAny_bind (wpAny_of_eq (hs x) (wpAny_bind (wpAny_holding (wpAny_mono h₃ (fun it2 s₄ h₄ => ?_) fun _ _ h' => h'.elim))))))
    refine wpAny_bind (wpAny_runOwn (codeAny_mono h₄ fun r s₅ h₅ => ?_))
    cases r with
    | ok f => exact wpAny_pure ⟨rfl, h₅⟩
    | error e => exact h₅.elim
theorem start2_1 {elt t1 i1 t2 i2 : Expr} {scope : Scope} {pos : Pos} {it acc : Value} {env : Env}
    (h0 : codeAny (model prog w) A (.compLoop (.ListComp elt [⟨t1, i1, [], 0⟩, ⟨t2, i2, [], 0⟩] scope pos) 1 it acc env) R s)
    (h : wpAny (model prog w) A (pyIter it) (fun it' s' => codeAny (model prog w) A (.compLoop (.ListComp elt [⟨t1, i1, [], 0⟩, ⟨t2, i2, [], 0⟩] scope pos) 1 it' acc env) R s')
      (notedBy (model prog w) A env fun x s' => R (.error x) s') s) :
    codeAny (model prog w) A (.compStart (.ListComp elt [⟨t1, i1, [], 0⟩, ⟨t2, i2, [], 0⟩] scope pos) 1 it acc env) R s := by
  refine codeAny_of_tree ?_
  show wpAny _ _ ((compStart (.ListComp elt [⟨t1, i1, [], 0⟩, ⟨t2, i2, [], 0⟩] scope pos) 1 it acc env).onRaise (fun x => do noteFrame x env; standAt theWindowsPlace)) _ _ s
  refine wpAny_notedAt ?_
  unfold compStart
  show wpAny _ _ (ask >>= _) _ _ s
  refine wpAny_bind (wpAny_askSetting (wpAny_ite ?_))
  split
  · first
      | exact wpAny_bind (wpAny_pure (wpAny_pure (And.intro rfl h0)))
      | exact wpAny_pure (And.intro rfl h0)
  · first
      | exact wpAny_bind (wpAny_rule (wpAny_bind (wpAny_standAt (wpAny_bind (wpAny_mono h (fun it' s' h' => wpAny_pure (And.intro rfl h')) fun _ _ x => x)))))
      | (refine wpAny_bind (wpAny_rule ?_); show wpAny _ _ (standAt i2.pos >>= _) _ _ s; exact wpAny_bind (wpAny_standAt (wpAny_bind (wpAny_mono h (fun it' s' h' => wpAny_pure (And.intro rfl h')) fun _ _ x => x))))
theorem start2_0 {elt t1 i1 t2 i2 : Expr} {scope : Scope} {pos : Pos} {it acc : Value} {env : Env}
    (h0 : codeAny (model prog w) A (.compLoop (.ListComp elt [⟨t1, i1, [], 0⟩, ⟨t2, i2, [], 0⟩] scope pos) 0 it acc env) R s)
    (h : wpAny (model prog w) A (pyIter it) (fun it' s' => codeAny (model prog w) A (.compLoop (.ListComp elt [⟨t1, i1, [], 0⟩, ⟨t2, i2, [], 0⟩] scope pos) 0 it' acc env) R s')
      (notedBy (model prog w) A env fun x s' => R (.error x) s') s) :
    codeAny (model prog w) A (.compStart (.ListComp elt [⟨t1, i1, [], 0⟩, ⟨t2, i2, [], 0⟩] scope pos) 0 it acc env) R s := codeAny_compStart_list h0 h
end

section
variable {c : Cx} {n : Nat} {env : Env} {loc : Loc} {σ σ' : Store} {kp kp' st : Lk} {h h' : Heap}

inductive C2Out (c : Cx) (env : Env) (loc : Loc) (kp st : Lk) (σ : Store) (D : Addr) (out : List V) (s' : Shared) : Prop
  | mk (h' : Heap) (tk' : Nat) (vs' : List Value) (e : s' = S c.s₀ h' tk') (s : SatC c kp st σ h') (F : Frm env loc kp st σ h') (hD : h'.PlainList D (List.toArray vs')) (hr : Reps kp out vs') : C2Out c env loc kp st σ D out s'
inductive C2Inv (c : Cx) (env : Env) (loc : Loc) (L : Lent) (fp wr : List Addr) (kp st : Lk) (σ : Store) (len : Nat) (D : Addr) (St : Nat → Heap → Prop) (out : Nat → List V) (m : Nat) (s' : Shared) : Prop
  | mk (i : Nat) (h' : Heap) (tk' : Nat) (vs' : List Value) (e : s' = S c.s₀ h' tk') (em : i ≤ len ∧ m + i = len + 1) (s : SatC c kp st σ h') (F : Frm env loc kp st σ h') (G : Gd c (fa env) L fp wr kp st σ h') (hSt : St i h') (hD : h'.PlainList D (List.toArray vs')) (hr : Reps kp (out i) vs') : C2Inv c env loc L fp wr kp st σ len D St out m s'
theorem comp2_inner {A : Around} {t1 i1 i2 : Expr} {x : Str} {px pe : Pos} {scope : Scope} {pos : Pos} {a D : Addr} {l acc : List V} {vs : List Value} {tk : Nat} (r : Room A n) (s : SatC c kp st σ h) (F : Frm env loc kp st σ h) (ha : σ a = some (.list l)) (hl : l.length + acc.length ≤ 1000)
    (hx : env.kindOf x = some .local) (hxd : (x == ("__debug__" : Str)) = false) (hloc : loc.lookup x = none) (eD : h.PlainList D vs.toArray) (d1 : kp D = none) (d2 : st D = none) (d3 : σ D = none) (d4 : D ∉ fa env) (hr : Reps kp acc vs) :
    wpAny c.M A (pyIter (.ref a)) (fun it2 s₄ => codeAny c.M A (.compStart (.ListComp (.Name x pe) [⟨t1, i1, [], 0⟩, ⟨.Name x px, i2, [], 0⟩] scope pos) 1 it2 (.ref D) env) (fun r s' => match r with
      | .ok _ => C2Out c env loc kp st σ D (acc ++ l) s'
      | .error _ => False) s₄) (fun _ _ => False) (S c.s₀ h tk) := by
  refine wpAny_mono (Iter_list (n := n) ha A kp st h tk (.ref a) r s (.ref a)) (fun it s' ⟨I, fp, wr, P, St, h2, tk2, e2, eI, W, st0, ex, s2, k2, hf, sg, hw, hP, hL⟩ => ?_) fun _ _ e => e.elim
  subst e2 eI
  have G2 : Gd c (fa env) (some (a, .list l)) fp wr kp st (lendS (some (a, .list l)) σ) h2 := iter_gd (x := .ref a) s s2 (fun a m => (F.fa_ a m).1) (fun a m => (F.fa_ a m).2) W st0 ex k2 hf sg hw hL
  have F2 : Frm env loc kp st (lendS (some (a, .list l)) σ) h2 := (F.ext fun a _ o e => k2 a o e).store fun a m => lendS_none (F.fa_ a m).2.2
  have hDfp : D ∉ fp := fun m => by
    rcases hf D m with q | ⟨o, q, t⟩
    · obtain ⟨nn, e⟩ := eD; rw [q] at e; cases e
    · rcases t with t | t
      · exact t d1
      · exact t d3
  have hDwr : D ∉ wr := fun m => hDfp (W.sub D m)
  have d3' : lendS (some (a, .list l)) σ D = none := lendS_none d3
  have eD2 : h2.PlainList D vs.toArray := eD.at fun o e => k2 D o e
  have fin : ∀ s₂, s₂ = S c.s₀ h2 tk2 → codeAny c.M A (.compLoop (.ListComp (.Name x pe) [⟨t1, i1, [], 0⟩, ⟨.Name x px, i2, [], 0⟩] scope pos) 1 (.ref I) (.ref D) env) (fun r s' => match r with
      | .ok _ => C2Out c env loc kp st σ D (acc ++ l) s'
      | .error _ => False) s₂ := by
    rintro _ rfl
    refine loop2_1 (C2Inv c env loc (some (a, .list l)) fp wr kp st (lendS (some (a, .list l)) σ) l.length D St fun i => acc ++ l.take i) ?_ (l.length + 1)
      ⟨0, h2, tk2, vs, rfl, ⟨Nat.zero_le _, rfl⟩, s2, F2, G2, st0, eD2, by simpa using hr⟩
    rintro m s' ⟨i, h', tk', vs', rfl, em, s', F', G', hSt, hDl, hrs⟩
    by_cases hlt : i < l.length
    · refine W.item i _ _ _ hlt hSt fun u h3 tk3 hPu hSt3 k3 => ?_
      obtain ⟨y, ey, ry⟩ := hP i u hPu
      obtain ⟨s3, G3⟩ := G'.step s' k3 (ex _ _ hSt3)
      have F3 := G'.stepF F' k3
      have eD3 : h3.PlainList D vs'.toArray := hDl.at fun o e => k3 D o hDwr e
      have sP := G3.sat s3
      have FP := G3.frm F3
      have dG : stG fp kp h3 st D = none := (stG_out hDfp).trans d2
      obtain ⟨nD, eD3'⟩ := eD3
      have sQ := sP.prot eD3' d1 d3'
      have FQ : Frm env loc kp (put (stG fp kp h3 st) D (lob vs' nD)) (lendS (some (a, .list l)) σ) h3 := by
        have o : ∀ b ∈ fa env, put (stG fp kp h3 st) D (lob vs' nD) b = stG fp kp h3 st b := fun b mb => put_ne _ _ fun z => d4 (z ▸ mb)
        exact ⟨FP.fun_, FP.glob, FP.blt, (o _ (.head _)).trans FP.own, FP.fa_, fun q b mb => (o b mb).trans (FP.cown q b mb), fun b mb u e => FP.st_eq b mb u ((o b mb).symm.trans e), FP.apart, FP.ns, FP.cells, FP.kinds⟩
      refine wpAny_assign_Name (wpAny_mono (store_o (c := c) sQ FQ ry (by unfold storable; rw [show env.scope.names.lookup x = some .local from hx, hxd]; rfl) (fun e => by rw [show env.scope.names.lookup x = some .local from hx] at e; cases e) fun h4 tk4 s4 F4 => ?_) (fun _ _ z => z) fun _ _ e => e.elim)
      have eD4 := s4.st_ok D _ (put_self _ _ _)
      have s4' : SatC c kp (stG fp kp h3 st) (lendS (some (a, .list l)) σ) h4 := s4.weakSt (le_put dG)
      have F4' := F4.ofSt (le_put (o := lob vs' nD) dG)
      obtain ⟨same, s5, G5⟩ := G3.after s3 (Le.refl _) s4'
      have F5 : Frm env ((x, y) :: loc) kp st (lendS (some (a, .list l)) σ) h4 := F4'.ofSt (stG_le s3)
      obtain ⟨mm, hnm, hmm⟩ := F5.ns
      obtain ⟨zv, e5, rp⟩ := hmm x y (by rw [List.lookup_cons_self]) hx
      refine wpAny_Name (wpAny_loadName_local F5.fun_ hx hnm e5 ?_) hxd
      have hlen := hrs.length
      rw [List.length_append, List.length_take] at hlen
      refine wpAny_list_append_plain ⟨nD, eD4⟩ (fun h9 hl9 hs9 => ?_) (by rw [List.size_toArray, sizeLine_eq]; omega)
      have F6 := F5.weaken (loc' := loc) fun w V e => by
        rw [List.lookup_cons]
        split
        · rename_i hz
          rw [beq_iff_eq.mp hz, hloc] at e; cases e
        · exact e
      have s9 := s5.other d1 d2 d3' hs9.extBut
      have F9 := F6.ext (h' := h9) fun b mb o e => hs9.extBut b o (fun z => d4 (z ▸ mb)) e
      have st5 := W.frame _ _ h9 hSt3 (fun b mb o e => hs9.extBut b o (fun z => hDfp (z ▸ mb)) (same b mb o e))
      have G9 : Gd c (fa env) (some (a, .list l)) fp wr kp st (lendS (some (a, .list l)) σ) h9 := by
        refine ⟨G5.sub, G5.sg, ex _ _ st5, G5.fe, G5.wk, fun b z e => ?_⟩
        obtain ⟨m1, m2, m3, m4, m5, o, e1, e2⟩ := G5.lk b z e
        exact ⟨m1, m2, m3, m4, m5, o, hs9.extBut b o (fun z => hDfp (z ▸ m1)) e1, e2⟩
      refine ⟨m - 1, by omega, i + 1, h9, tk4, vs' ++ [zv], rfl, ⟨by omega, by omega⟩, s9, F9, G9, st5, ?_, ?_⟩
      · rw [List.push_toArray] at hl9; exact hl9
      · rw [List.take_add_one, ey, ← List.append_assoc]
        exact hrs.append (Reps.one rp)
    · have ei : i = l.length := by omega
      subst ei
      refine W.done _ _ _ hSt fun h3 tk3 k3 => ?_
      have back : backS (some (a, .list l)) (lendS (some (a, .list l)) σ) = σ := put_del ha
      have s5 := G'.done s' k3
      have F5 := G'.doneF F' k3
      rw [back] at s5 F5
      rw [List.take_length] at hrs
      exact ⟨h3, tk3, vs', rfl, s5, F5, hDl.at fun o e => k3 D o hDwr e, hrs⟩
  exact start2_1 (fin _ rfl) (W.self 0 _ _ _ st0 (fin _ rfl))

theorem comp2_core {A : Around} {RR : Value → Addr → Result → Shared → Prop} {t x : Str} {pt pt' px pe : Pos} {i1 : Expr} {scope : Scope} {pos : Pos} {as : List Addr} {ls : List (List V)} {I : Addr} {fp wr : List Addr} {P : Nat → Value → Prop} {St : Nat → Heap → Prop} {tk : Nat}
    (r : Room A n) (s : SatC c kp st σ h) (F : Frm env loc kp (fun a => if a ∈ fa env then none else st a) σ h) (hfst : ∀ a ∈ fa env, ∃ o, st a = some o) (G : Gd c (fa env) none fp wr kp st σ h)
    (hI : (ls.flatten).length ≤ 1000) (hls : ls.length = as.length) (hs : ∀ (i : Nat) (a : Addr) (l : List V), as[i]? = some a → ls[i]? = some l → σ a = some (.list l)) (W : Walks c.prog c.w A I fp wr as.length P St) (st0 : St 0 h) (ex : ∀ i h, St i h → ∀ a ∈ fp, ∃ o, h.get? a = some o) (hP : ∀ i u, P i u → ∃ y, (as.map V.ref)[i]? = some y ∧ Rep kp y u)
    (hkind : scope.kind = .function) (hfree : ∀ x, (x, NameKind.free) ∈ scope.names → env.kindOf x = some .cell ∧ (env.cells.lookup x).isSome = true) (hnd : (scope.names.map (·.1)).Nodup) (hcell : ∀ y ∈ scope.names, y.2 ≠ .cell)
    (hx : scope.names.lookup x = some .local) (hxd : (x == ("__debug__" : Str)) = false) (ht : scope.names.lookup t = some .local) (htd : (t == ("__debug__" : Str)) = false) (hne : x ≠ t)
    (fin : ∀ D C h' tk' kp' m, Le kp kp' → Rep kp' (.flst ls.flatten) (.ref D) → SatC c kp' st σ h' → h'.Ns C m → kp' C = none → st C = none → σ C = none → C ∉ fa env → RR (.ref D) C (.ok .next) (S c.s₀ h' tk')) :
    wpAny c.M A (newList []) (fun acc s₃ => wpAny c.M A (newFunctionEnv scope env.globals (closL env scope.names []) [] env.qual none .none (some env)) (fun cenv s₄ =>
      codeAny c.M A (.compStart (.ListComp (.Name x pe) [⟨.Name t pt, i1, [], 0⟩, ⟨.Name x px, .Name t pt', [], 0⟩] scope pos) 0 (.ref I) acc { cenv with scope := relabel scope env }) (RR acc cenv.locals) s₄) NoE s₃) NoE (S c.s₀ h tk) := by
  refine comp_open s F hfst hkind hfree hnd hcell fun D C h₁ cenv ec1 ec2 hDC hDfresh hCfresh nD hCne hDne k0 eD1 s1 FI faI => ?_
  rw [ec2, ec1]
  have hDfaI : D ∉ fa (compEnvC scope (closL env scope.names []) C env) := fun m => by
    rcases faI D m with z | z
    · exact hDC z
    · exact hDne z
  have hDfp : D ∉ fp := fun m => by obtain ⟨o, e⟩ := G.ex D m; rw [hDfresh] at e; cases e
  have hDwr : D ∉ wr := fun m => hDfp (G.sub D m)
  have hCfp : C ∉ fp := fun m => by obtain ⟨o, e⟩ := G.ex C m; rw [hCfresh] at e; cases e
  have GI : Gd c (fa (compEnvC scope (closL env scope.names []) C env)) none fp wr kp st σ h₁ := by
    refine ⟨G.sub, G.sg, fun a m => ?_, fun a m z => ?_, G.wk, fun a y e => by cases e⟩
    · obtain ⟨o, e⟩ := G.ex a m; exact ⟨o, k0 a o e⟩
    · rcases faI a z with rfl | z
      · exact hCfp m
      · exact G.fe a m z
  have st1 : St 0 h₁ := W.frame 0 _ _ st0 fun b _ o e => k0 b o e
  have kx : Env.kindOf (compEnvC scope (closL env scope.names []) C env) x = some .local := lookup_relabel_local hx
  have kt : Env.kindOf (compEnvC scope (closL env scope.names []) C env) t = some .local := lookup_relabel_local ht
  have nin : ∀ z, scope.names.lookup z = some .local → (inner scope loc).lookup z = none := fun z hz => by
    cases q : (inner scope loc).lookup z with
    | none => rfl
    | some V => exact (free_local hnd hz (inner_inv q).1).elim
  have hlen : ∀ i, ((ls.take i).flatten).length ≤ ls.flatten.length := fun i => by
    have : ls.flatten = (ls.take i).flatten ++ (ls.drop i).flatten := by rw [← List.flatten_append, List.take_append_drop]
    rw [this, List.length_append]; omega
  have loop : codeAny c.M A (.compLoop (.ListComp (.Name x pe) [⟨.Name t pt, i1, [], 0⟩, ⟨.Name x px, .Name t pt', [], 0⟩] scope pos) 0 (.ref I) (.ref D) (compEnvC scope (closL env scope.names []) C env)) (RR (.ref D) C) (S c.s₀ h₁ tk) := by
    refine loop2_0 (C2Inv c (compEnvC scope (closL env scope.names []) C env) (inner scope loc) none fp wr kp st σ as.length D St fun i => (ls.take i).flatten) ?_ (as.length + 1)
      ⟨0, h₁, tk, [], rfl, ⟨Nat.zero_le _, rfl⟩, s1, FI, GI, st1, ⟨0, eD1⟩, by simpa using Reps.nil⟩
    rintro m s' ⟨i, h', tk', vs, rfl, em, s', F', G', hSt, hDl, hrs⟩
    by_cases hlt : i < as.length
    · refine W.item i _ _ _ hlt hSt fun u h3 tk3 hPu hSt3 k3 => ?_
      obtain ⟨y, ey, ry⟩ := hP i u hPu
      obtain ⟨s3, G3⟩ := G'.step s' k3 (ex _ _ hSt3)
      have F3 := G'.stepF F' k3
      have eD3 : h3.PlainList D vs.toArray := hDl.at fun o e => k3 D o hDwr e
      have sP := G3.sat s3
      have FP := G3.frm F3
      have dG : stG fp kp h3 st D = none := (stG_out hDfp).trans nD.2.1
      obtain ⟨mD, eD3'⟩ := eD3
      have sQ := sP.prot eD3' nD.1 nD.2.2
      have FQ : Frm (compEnvC scope (closL env scope.names []) C env) (inner scope loc) kp (put (stG fp kp h3 st) D (lob vs mD)) σ h3 := by
        have o : ∀ b ∈ fa (compEnvC scope (closL env scope.names []) C env), put (stG fp kp h3 st) D (lob vs mD) b = stG fp kp h3 st b := fun b mb => put_ne _ _ fun z => hDfaI (z ▸ mb)
        exact ⟨FP.fun_, FP.glob, FP.blt, (o _ (.head _)).trans FP.own, FP.fa_, fun q b mb => (o b mb).trans (FP.cown q b mb), fun b mb u e => FP.st_eq b mb u ((o b mb).symm.trans e), FP.apart, FP.ns, FP.cells, FP.kinds⟩
      refine wpAny_assign_Name (wpAny_mono (store_o (c := c) sQ FQ ry (by unfold storable; rw [show (compEnvC scope (closL env scope.names []) C env).scope.names.lookup t = some .local from kt, htd]; rfl) (fun e => by rw [show (compEnvC scope (closL env scope.names []) C env).scope.names.lookup t = some .local from kt] at e; cases e) fun h4 tk4 s4 F4 => ?_) (fun _ _ z => z) fun _ _ e => e.elim)
      have eD4 := s4.st_ok D _ (put_self _ _ _)
      have s4' : SatC c kp (stG fp kp h3 st) σ h4 := s4.weakSt (le_put dG)
      have F4' := F4.ofSt (le_put (o := lob vs mD) dG)
      rw [List.getElem?_map, Option.map_eq_some_iff] at ey
      obtain ⟨a, ea, rfl⟩ := ey
      obtain ⟨l, el⟩ : ∃ l, ls[i]? = some l := ⟨ls[i], by simp [hls, hlt]⟩
      have hσ := hs i a l ea el
      obtain ⟨mm, hnm, hmm⟩ := F4'.ns
      obtain ⟨zv, e5, rp⟩ := hmm t (.ref a) (by rw [List.lookup_cons_self]) kt
      cases rp
      refine wpAny_Name (wpAny_loadName_local F4'.fun_ kt hnm e5 ?_) htd
      have tk1 : (ls.take (i + 1)).flatten = (ls.take i).flatten ++ l := by rw [List.take_add_one, el]; simp
      have hb := hlen (i + 1)
      rw [tk1, List.length_append] at hb
      refine wpAny_mono (comp2_inner (D := D) r s4' F4' hσ (by omega) kx hxd (by rw [List.lookup_cons, show (x == t) = false by rw [beq_eq_false_iff_ne]; exact hne]; exact nin x hx) ⟨mD, eD4⟩ nD.1 dG nD.2.2 hDfaI hrs) (fun it2 s5 z => codeAny_mono z fun res s6 z6 => ?_) fun _ _ e => e
      rcases res with e | f
      · exact z6
      · obtain ⟨h6, tk6, vs6, e6, s6', F6, hD6, hr6⟩ := z6
        subst e6
        obtain ⟨same, s7, G7⟩ := G3.after s3 (Le.refl _) s6'
        have F7 := (F6.ofSt (stG_le s3)).weaken (loc' := inner scope loc) fun w V e => by
          rw [List.lookup_cons]
          split
          · rename_i hz
            rw [beq_iff_eq.mp hz, nin t ht] at e; cases e
          · exact e
        exact ⟨m - 1, by omega, i + 1, h6, tk6, vs6, rfl, ⟨by omega, by omega⟩, s7, F7, G7, W.frame _ _ _ hSt3 same, hD6, by rw [tk1]; exact hr6⟩
    · have ei : i = as.length := by omega
      subst ei
      refine W.done _ _ _ hSt fun h3 tk3 k3 => ?_
      have s4 : SatC c kp st σ h3 := G'.done s' k3
      have F4 : Frm (compEnvC scope (closL env scope.names []) C env) (inner scope loc) kp st σ h3 := G'.doneF F' k3
      obtain ⟨nn, eDl⟩ : h3.PlainList D vs.toArray := hDl.at fun o e => k3 D o hDwr e
      obtain ⟨⟨oC, eC⟩, c1, c2⟩ := F4.fa_ C (.head _)
      obtain ⟨mC, hmC, _⟩ := F4.ns
      rw [← hls, List.take_length] at hrs
      refine fin D C h3 tk3 (put kp D (lob vs nn)) mC (le_put nD.1) (.flst (n := nn) (put_self _ _ _) rfl rfl (hrs.mono (le_put nD.1))) (s4.kput nD.1 nD.2.1 nD.2.2 eDl) hmC ?_ F4.own c2 hCne
      rw [put_ne _ _ hDC.symm]; exact c1
  exact start2_0 loop (W.self 0 _ _ _ st1 loop)

theorem WE_comp2 {t x : Str} {pt pt' px pe : Pos} {i1 : Expr} {scope : Scope} {pos : Pos} {K : V → Store → Prop} (ok : CompOk env scope x) (ht : scope.names.lookup t = some .local) (htd : (t == ("__debug__" : Str)) = false) (hne : x ≠ t)
    (y : WE c n env i1 loc σ fun v σ1 => ∃ (as : List Addr) (ls : List (List V)), v = .flst (as.map V.ref) ∧ (List.flatten ls).length ≤ 1000 ∧ ls.length = as.length ∧ (∀ (i : Nat) (a : Addr) (l : List V), as[i]? = some a → ls[i]? = some l → σ1 a = some (.list l)) ∧ K (.flst ls.flatten) σ1)
    (hs : ∀ x, foldedSetIterable i1 env x = pure x := by intro _; rfl) : WE c n env (.ListComp (.Name x pe) [⟨.Name t pt, i1, [], 0⟩, ⟨.Name x px, .Name t pt', [], 0⟩] scope pos) loc σ K := fun A kp st h tk r s F => by
  rw [eval_ListComp]
  refine wpAny_comprehension_free (use := none) rfl hs (closureFor_L fun x hx => (ok.free x hx).2) ok.kind ok.locs (wpAny_mono (y A kp st h tk r s F) (fun v s' ⟨xv, kp1, σ1, h1, tk1, e1, l1, q1, s1, F1, as, ls, ev, hl, hls, hσ, hk⟩ => ?_) fun _ _ e => e)
  subst e1 ev
  have sO := F1.satF s1
  refine wpAny_mono (Iter_flst (n := n) (as.map V.ref) A kp1 (stF env h1 st) h1 tk1 v r sO q1) (fun it s' ⟨I, fp, wr, P, St, h2, tk2, e2, eI, W, st0, ex, s2, k2, hf, sg, hw, hP, hL⟩ => ?_) fun _ _ e => e.elim
  subst e2 eI
  have G2 : Gd c (fa env) none fp wr kp1 (stF env h1 st) σ1 h2 := iter_gd (L := none) (x := .flst (as.map V.ref)) sO s2 (fun a m => (F1.fa_ a m).1) (fun a m => (F1.fa_ a m).2) W st0 ex k2 hf sg hw hL
  have F2 : Frm env loc kp1 st σ1 h2 := F1.ext fun a _ o e => k2 a o e
  have F2' : Frm env loc kp1 (fun a => if a ∈ fa env then none else stF env h1 st a) σ1 h2 :=
    ⟨F2.fun_, F2.glob, F2.blt, if_pos (.head _), F2.fa_, fun _ a m => if_pos m, fun a m o e => (by rw [if_pos m] at e; cases e), F2.apart, F2.ns, F2.cells, F2.kinds⟩
  rw [List.length_map] at W
  refine comp2_core (st := stF env h1 st) r s2 F2' (fun a m => by rw [stF_mem m]; exact (F1.fa_ a m).1) G2 hl hls hσ W st0 ex hP ok.kind ok.free ok.nd ok.cell ok.tgt ok.dbg ht htd hne fun D C h' tk' kp' m le' rD s' hm c1 c2 c3 c4 => ?_
  refine ⟨m, hm, fun h'' hsb => ?_⟩
  have F3 := F1.after le' s'
  have c2' : st C = none := by unfold stF at c2; rw [if_neg c4] at c2; exact c2
  exact ⟨.flst ls.flatten, kp', σ1, h'', tk', rfl, l1.trans le', rD, (s'.weakSt F1.le_stF).other c1 c2' c3 hsb.extBut, F3.ext fun a ma o e => hsb.extBut a o (fun z => c4 (z ▸ ma)) e, hk⟩
end
end
section
noncomputable def Then (c : Cx) (n : Nat) (env : Env) (rest : List Stmt) (K : Fl → Loc → Store → Prop) : Fl → Loc → Store → Prop := fun fl loc σ => match fl with
  | .next => WB c n env rest loc σ K
  | .ret v => K (.ret v) loc σ
noncomputable def Ret (K : V → Store → Prop) : Fl → Loc → Store → Prop := fun fl _ σ => match fl with
  | .next => K .none σ
  | .ret v => K v σ

section
variable {c : Cx} {n : Nat} {env : Env} {loc : Loc} {σ : Store} {sc : Scope} {rest : List Stmt} {K : Fl → Loc → Store → Prop}

theorem WB_ret {e : Expr} {pos : Pos} (x : WE c n env e loc σ fun v σ' => K (.ret v) loc σ') : WB c n env (.Return (some e) pos :: rest) loc σ K :=
  WB_cons (WY.mono (WS_ret (K := fun fl l s => ∃ v, fl = .ret v ∧ K (.ret v) l s) (WE.mono x fun v σ' k => ⟨v, rfl, k⟩)) fun fl l s ⟨v, e, k⟩ => ⟨fun e' => (by rw [e] at e'; cases e'), fun u e' => (by rw [e] at e'; cases e'; exact k)⟩)
theorem WB_assign {x : Str} {px pos : Pos} {e : Expr} (O : EnvOk env sc) (hx : storable sc x = true) (hs : swapsWith e (some (.Name x px)) pos.line env = pure false) (y : WE c n env e loc σ fun v σ' => WB c n env rest ((x, v) :: loc) σ' K) : WB c n env (.Assign [.Name x px] e pos :: rest) loc σ K :=
  WB_step (WS_assign (K := fun fl l s => fl = .next ∧ WB c n env rest l s K) O hx (WE.mono y fun v σ' k => ⟨rfl, k⟩) hs)
theorem WB_acomp {y : Str} {py spos : Pos} {elt iter : Expr} {x : Str} {px : Pos} {ifs : List Expr} {scope : Scope} {pos : Pos} (O : EnvOk env sc) (hy : sc.names.lookup y = some .local) (hyd : (y == ("__debug__" : Str)) = false) (hsw : swapsWith (.ListComp elt [⟨.Name x px, iter, ifs, 0⟩] scope pos) (some (.Name y py)) spos.line env = pure true) (ok : CompOk env scope x)
    (z : WE c n env iter loc σ fun v σ1 => Turns c n env loc scope x ifs elt v σ1 fun u σ2 => WB c n env rest ((y, u) :: loc) σ2 K) (hs : ∀ x, foldedSetIterable iter env x = pure x := by intro _; rfl) : WB c n env (.Assign [.Name y py] (.ListComp elt [⟨.Name x px, iter, ifs, 0⟩] scope pos) spos :: rest) loc σ K :=
  WB_step (WS_comp (K := fun fl l s => fl = .next ∧ WB c n env rest l s K) O ok hy hyd (WE.mono z fun v σ1 ⟨l, L, a, b, Inv, d, e, f⟩ => ⟨l, L, a, b, Inv, d, e, fun acc σ' i => ⟨rfl, f acc σ' i⟩⟩) hsw hs)
theorem WB_setattr {o e : Expr} {a : Str} {pa pos : Pos} (hs : swapsWithSole [.Attribute o a pa] e pos.line env = pure false) (hw : swappedStores [.Attribute o a pa] e env = pure none)
    (y : WE c n env e loc σ fun v σ' => WE c n env o loc σ' fun ov σ'' => O2 c n (fun o v => setAttr o a v) Same ov v σ'' fun _ σ3 => WB c n env rest loc σ3 K) : WB c n env (.Assign [.Attribute o a pa] e pos :: rest) loc σ K :=
  WB_step (WS_setattr (K := fun fl l s => fl = .next ∧ WB c n env rest l s K) (WE.mono y fun v σ' z => WE.mono z fun ov σ'' o2 => o2.mono fun _ σ3 k => ⟨rfl, k⟩) hs hw)
theorem O3.mono {α β : Type} {f : Value → Value → Value → Sem α} {R : Lk → β → α → Prop} {x y z : V} {K K' : β → Store → Prop} (o : O3 c n f R x y z σ K) (k : ∀ b σ, K b σ → K' b σ) : O3 c n f R x y z σ K' :=
  fun A kp st h tk v u t r s p q m => wpAny_mono (o A kp st h tk v u t r s p q m) (fun v s' q => q.mono k) fun _ _ e => e
theorem WB_setitem {o i e : Expr} {ps pos : Pos} (hs : swapsWith e (some (.Subscript o i ps)) pos.line env = pure false) (y : WE c n env e loc σ fun v σ1 => WE c n env o loc σ1 fun ov σ2 => WE c n env i loc σ2 fun iv σ3 => O3 c n setItem Same ov iv v σ3 fun _ σ4 => WB c n env rest loc σ4 K) :
    WB c n env (.Assign [.Subscript o i ps] e pos :: rest) loc σ K :=
  WB_step (WS_setitem (K := fun fl l s => fl = .next ∧ WB c n env rest l s K) (WE.mono y fun v σ' z => WE.mono z fun ov σ'' z2 => WE.mono z2 fun iv σ3 o3 => O3.mono o3 fun _ σ4 k => ⟨rfl, k⟩) hs)
theorem WB_drop {e : Expr} {pos : Pos} (hi : interactive env = false) (hs : swapsWith e none pos.line env = pure false) (x : WE c n env e loc σ fun _ σ' => WB c n env rest loc σ' K) : WB c n env (.Expr e pos :: rest) loc σ K :=
  WB_step (WS_drop (K := fun fl l s => fl = .next ∧ WB c n env rest l s K) (WE.mono x fun v σ' k => ⟨rfl, k⟩) hi hs)
theorem WB_if {t : Expr} {a b : List Stmt} {pos : Pos} (x : WT c n env t loc σ fun v σ' => (v = true → WB c n env a loc σ' (Then c n env rest K)) ∧ (v = false → WB c n env b loc σ' (Then c n env rest K))) : WB c n env (.If t a b pos :: rest) loc σ K :=
  WB_cons (WY.mono (WS_if (K := Then c n env rest K) x) fun fl l s q => ⟨fun e => by subst e; exact q, fun v e => by subst e; exact q⟩)
theorem then_nil (x : WB c n env rest loc σ K) : WB c n env [] loc σ (Then c n env rest K) := WB_nil x
theorem then_ret {v : V} (x : K (.ret v) loc σ) : Then c n env rest K (.ret v) loc σ := x
theorem WB_for {t : Str} {pt pos : Pos} {iter : Expr} {body : List Stmt} (O : EnvOk env sc) (ht : storable sc t = true)
    (x : WE c n env iter loc σ (ForP c n env t body loc (fun v => K (.ret v)) fun loc' σ' => WB c n env rest loc' σ' K))
    (hs : ∀ x, foldedSetIterable iter env x = pure x := by intro _; rfl) : WB c n env (.For (.Name t pt) iter body [] pos :: rest) loc σ K :=
  WB_cons (WY.mono (WS_for (K := Then c n env rest K) O ht x hs) fun fl l s q => ⟨fun e => by subst e; exact q, fun v e => by subst e; exact q⟩)
theorem WB_for2 {t u : Str} {pt pu pp pos : Pos} {x1 : Nat} {iter : Expr} {body : List Stmt} (O : EnvOk env sc) (ht : storable sc t = true) (hu : storable sc u = true)
    (x : WU c n env iter loc σ (For2P c n env t u body loc (fun v => K (.ret v)) fun loc' σ' => WB c n env rest loc' σ' K))
    (hs : ∀ x, foldedSetIterable iter env x = pure x := by intro _; rfl) : WB c n env (.For (.Tuple [.Name t pt, .Name u pu] x1 pp) iter body [] pos :: rest) loc σ K :=
  WB_cons (WY.mono (WS_for2 (K := Then c n env rest K) O ht hu x hs) fun fl l s q => ⟨fun e => by subst e; exact q, fun v e => by subst e; exact q⟩)
theorem WB.forget {b : List Stmt} {loc' : Loc} {σ' : Store} (hs : Sub σ' σ) (hl : ∀ x V, loc'.lookup x = some V → loc.lookup x = some V) (x : WB c n env b loc' σ' K) : WB c n env b loc σ K := fun A kp st h tk r s F =>
  x A kp st h tk r (s.weak hs) ((F.weaken hl).store fun a m => by
    cases q : σ' a with
    | none => rfl
    | some z => have := hs a z q; rw [(F.fa_ a m).2.2] at this; cases this)

theorem F_fn {f : Addr} {fd : FuncData} {oc : Value} {od : Option Addr} {osl : Array (Option Value)} {body : List Stmt} {args kargs : List V} {kn bn : List Str} {K : V → Store → Prop}
    (ho : c.K.lookup f = some ⟨oc, od, .func fd, osl⟩) (hbody : fd.body = .stmts body) (hcd : codeIn c.K fd.code fd.qualname = true) (hco : fd.scope.isCoroutine = false) (hgen : fd.scope.isGenerator = false) (hkind : fd.scope.kind = .function)
    (hglob : fd.globals = mainGlobals) (hbl : fd.builtins = builtinsNs) (hclo : fd.closure = [])
    (hst : (bn.all fun x => storable fd.scope x) = true) (hnd : bn.Nodup) (hcn : ((cellsFrom 0 fd.scope.names []).map (·.1)).Nodup)
    (hb : ∀ s : Shared, (∀ b o, c.h₀.get? b = some o → s.heap.get? b = some o) → ∀ vs kvs : List Value, vs.length = args.length → kvs.length = kargs.length → BindsTo s fd ⟨vs, kn.zip kvs⟩ (bn.zip (vs ++ kvs)))
    (hbod : ∀ env, EnvOk env fd.scope → WB c n env body (bn.zip (args ++ kargs)) σ (Ret K)) :
    OCd c (n + 1) (.val (.ref f)) args kn kargs σ K :=
  OCd_fn ho hbody hcd hco hgen hkind hglob hbl hclo hb (List.all_eq_true.mp hst) hnd hcn fun env O A kp st h tk r s F =>
    wpAny_mono (hbod env O A kp st h tk r s F) (fun v s' ⟨fl, l, kp', σ', h', tk', e, a, b, d, f, k⟩ => ⟨fl, l, kp', σ', h', tk', e, a, b, d, f, (by cases fl <;> exact k)⟩) fun _ _ e => e
theorem ret_ret {v : V} {K : V → Store → Prop} (x : K v σ) : Ret K (.ret v) loc σ := x
theorem ret_nil {K : V → Store → Prop} (x : K .none σ) : WB c n env [] loc σ (Ret K) := WB_nil x

theorem look_hd {x : Str} {v : V} {r : Loc} : ((x, v) :: r : Loc).lookup x = some v := List.lookup_cons_self
theorem look_tl {x y : Str} {u v : V} {r : Loc} (h : (x == y) = false) (t : r.lookup x = some u) : ((y, v) :: r : Loc).lookup x = some u := by rw [List.lookup_cons, h]; exact t
theorem kind_fn {x : Str} {k : NameKind} (O : EnvOk env sc) (h : sc.names.lookup x = some k) : env.kindOf x = some k := (O.kind x).trans h
theorem kind_comp {scope : Scope} {cl : List (Str × Addr)} {C : Addr} {x : Str} (h : scope.names.lookup x = some .globalImplicit) : (compEnvC scope cl C env).kindOf x = some .globalImplicit := by
  have key : ∀ {names : List (Str × NameKind)}, names.lookup x = some .globalImplicit →
      (names.map fun (n, k) => if (k == NameKind.free && env.scope.kind == .function && env.kindOf n == some .cell) then (n, NameKind.cell) else (n, k)).lookup x = some .globalImplicit := by
    intro names
    induction names with
    | nil => intro h; simp at h
    | cons p r ih =>
      obtain ⟨m, k⟩ := p
      intro h
      rw [List.lookup_cons] at h
      show List.lookup x ((if (k == NameKind.free && env.scope.kind == .function && env.kindOf m == some .cell) = true then (m, NameKind.cell) else (m, k)) :: _) = _
      cases hb : x == m with
      | true =>
        rw [hb] at h
        cases h
        rw [if_neg (by simp)]
        rw [List.lookup_cons, hb]
      | false =>
        rw [hb] at h
        split <;> (rw [List.lookup_cons, hb]; exact ih h)
  exact key h
end
end
section
noncomputable def compChk (scope : Scope) (x : Str) : Bool := scope.kind == .function && decide ((scope.names.map (·.1)).Nodup) && scope.names.all (fun y => y.2 != .cell) && scope.names.all (fun y => y.2 != .local || scope.names.lookup y.1 == some .local) &&
  scope.names.lookup x == some .local && !(x == ("__debug__" : Str))
noncomputable def freeChk (scope sc : Scope) : Bool := scope.names.all fun y => y.2 != .free || sc.names.lookup y.1 == some .cell
noncomputable def noFree (scope : Scope) : Bool := scope.names.all fun y => y.2 != .free

section
variable {c : Cx} {n : Nat} {env : Env} {loc : Loc} {σ : Store} {sc scope : Scope} {x : Str}
theorem compOk_core (h : compChk scope x = true) (f : ∀ x, (x, NameKind.free) ∈ scope.names → env.kindOf x = some .cell ∧ (env.cells.lookup x).isSome = true) : CompOk env scope x := by
  unfold compChk at h
  simp only [Bool.and_eq_true, beq_iff_eq, decide_eq_true_eq, List.all_eq_true, bne_iff_ne, ne_eq, Bool.or_eq_true, Bool.not_eq_true'] at h
  obtain ⟨⟨⟨⟨⟨h1, h2⟩, h3⟩, h4⟩, h5⟩, h6⟩ := h
  exact ⟨h1, f, h2, h3, fun y hy hl => (h4 y hy).resolve_left fun z => z hl, h5, h6⟩
theorem compOk_fn (O : EnvOk env sc) (h : compChk scope x = true) (hf : freeChk scope sc = true) : CompOk env scope x := compOk_core h fun y hy => by
  unfold freeChk at hf
  rw [List.all_eq_true] at hf
  have := hf _ hy
  simp at this
  exact ⟨(O.kind y).trans this, O.cl y this⟩
theorem compOk_no (h : compChk scope x = true) (hf : noFree scope = true) : CompOk env scope x := compOk_core h fun y hy => by
  unfold noFree at hf
  rw [List.all_eq_true] at hf
  have := hf _ hy
  simp at this

theorem O_setP {name : Str} {C dx : Addr} {ns : List Str} {l : List V} {u : V} {K : Unit → Store → Prop} (k : ClsOk c C) (hf : findIn c.K (.ref C) name = some none) (hn : name ∉ ns) (hl : ns.length ≤ 900)
    (q : K () (put σ dx (.ns (ns ++ [name]) (l ++ [u])))) : O2 c n (fun o v => setAttr o name v) Same (.mob C dx) u (put σ dx (.ns ns l)) K := O_set k hf (put_self _ _ _) hn hl (by rw [put_put]; exact q)

noncomputable def WAll (c : Cx) (n : Nat) (env : Env) (loc : Loc) : List Expr → Store → (Bool → Store → Prop) → Prop
  | [], σ, K => K true σ
  | [e], σ, K => WT c n env e loc σ K
  | e :: r, σ, K => WT c n env e loc σ fun v σ1 => (v = true → WAll c n env loc r σ1 K) ∧ (v = false → K false σ1)
theorem allTrue_o {K : Bool → Store → Prop} : ∀ (es : List Expr) (σ : Store), WAll c n env loc es σ K → WX c n env (allTrue .And es env) Same loc σ K
  | [], σ, y => fun A kp st h tk r s F => wpAny_pure (pf_end s F rfl y)
  | [e], σ, y => by
    have : allTrue .And [e] env = (isTrue e env (eval e env) >>= fun v => (match BoolOp.And, v with | .And, false => pure false | .Or, true => pure true | _, _ => pure true : Sem Bool)) := rfl
    rw [this]
    exact WX.bind (WX.mono y fun v σ y A kp st h tk u r s F q => by cases q; cases v <;> exact wpAny_pure (pf_end s F rfl y))
  | e :: e' :: es, σ, y => by
    have : allTrue .And (e :: e' :: es) env = (isTrue e env (eval e env) >>= fun v => (match BoolOp.And, v with | .And, false => pure false | .Or, true => pure true | _, _ => allTrue .And (e' :: es) env : Sem Bool)) := rfl
    rw [this]
    exact WX.bind (WX.mono y fun v σ y A kp st h tk u r s F q => by
      cases q
      cases v
      · exact wpAny_pure (pf_end s F rfl (y.2 rfl))
      · exact allTrue_o (e' :: es) σ (y.1 rfl) A kp st h tk r s F)
theorem WT_andN {es : List Expr} {pos : Pos} {K : Bool → Store → Prop} (x : WAll c n env loc es σ K) (h : isTrue (.BoolOp .And es pos) env (eval (.BoolOp .And es pos) env) = allTrue .And es env := by rfl) : WT c n env (.BoolOp .And es pos) loc σ K := by
  unfold WT
  rw [h]
  exact allTrue_o es σ x
end
end
section
noncomputable abbrev pw : Program := PySem.Challenge.pw_an0015_01
noncomputable def vw : Program := view pw [0, 2, 3, 5, 6, 7, 8, 9, 10, 11, 13, 15, 16, 17, 18, 19, 20, 21, 22, 23, 24, 25, 26, 27]
noncomputable def loose : List Str := ["TreeEdge", "_ATTRIBUTES", "_law_tokens", "_law_keys"]
noncomputable def sT (i : Nat) : Stmt := (pw.main.body[i]?).getD (.Pass default)
noncomputable def sM (i j : Nat) : Stmt := match sT i with
  | .ClassDef _ _ _ body .. => (body[j]?).getD (.Pass default)
  | s => s
noncomputable def stA : Stmt → Arguments
  | .FunctionDef _ a .. => a
  | _ => default
noncomputable def stB : Stmt → List Stmt
  | .FunctionDef _ _ b .. => b
  | _ => []
noncomputable def stS : Stmt → Scope
  | .FunctionDef _ _ _ _ _ _ s .. => s
  | _ => default
noncomputable def vS (s : Str) (t : Nat) : Value := .str s t
noncomputable def vF (t : Nat) : Value := .str "/claim/cut.py" t
noncomputable def vI (i : Int) : Value := .int i 0
noncomputable def kd (P : Params) (s : Str) (t : Nat) (v : Value) : DictEntry := ⟨PyData.keyHash P s, .str s t, v⟩
noncomputable def dO (es : List DictEntry) (n : Nat) : Obj := { cls := .type "dict", data := .dict es.toArray n }
noncomputable def cO (vs : List Value) : Obj := { cls := .type "code", data := .fields vs.toArray }
noncomputable def fO (n q : Str) (s : Stmt) (pm df : Value) (cd : Addr) : Obj := { cls := .type "function", data := .func { name := n, qualname := q, params := stA s, body := .stmts (stB s), scope := stS s, globals := 3, closure := [], defaults := df, kwdefaults := .none, pyModule := pm, code := .ref cd } }
noncomputable def kAs : List Addr := [3, 34, 35, 41, 42, 65, 66, 76, 77, 93, 94, 106, 110, 111, 127, 128, 134, 135, 141, 142, 148, 149, 155, 156, 162, 163, 169, 170, 176, 177, 183, 184, 190, 191, 197, 198, 200, 201, 216, 217, 223, 224, 230, 231, 237, 238, 244, 245, 251, 252, 258, 259, 265, 266, 272, 273, 279, 280, 286, 287, 289, 290, 305, 306, 312, 313, 319, 320, 340, 341, 354, 355, 359, 360, 364, 365, 369, 370, 374, 375, 379, 380, 386, 387, 414, 415, 417, 418, 423, 427, 428, 434, 435, 446, 447, 453, 454, 458, 459, 463, 464, 468, 469, 473, 474, 480, 481, 487, 488, 490, 491, 494, 500, 501, 502, 508, 509, 515, 516, 522, 523, 527, 528, 534, 535, 541, 542, 546, 547, 553, 554, 558, 559, 563, 564]
noncomputable def heapK (P : Params) : Frag := [
  (3, dO [kd P "__name__" 165 (vS "law_an0015_01" 771), kd P "__doc__" 166 Value.none, kd P "__package__" 167 Value.none, kd P "__loader__" 168 (Value.builtin "__main__.__loader__#opaque"), kd P "__spec__" 169 Value.none, kd P "__annotations__" 170 (.ref 6), kd P "__builtins__" 171 (.ref 4), kd P "__file__" 173 (vF 172), kd P "__cached__" 174 Value.none, kd P "_wall" 193 (.ref 21), kd P "Nonterminal" 255 (.ref 66), kd P "_key" 262 (.ref 77), kd P "EdgeI" 293 (.ref 94), kd P "TreeEdge" 419 (.ref 201), kd P "LeafEdge" 517 (.ref 290), kd P "Chart" 672 (.ref 418), kd P "_ATTRIBUTES" 683 (.ref 423), kd P "_plain" 689 (.ref 428), kd P "_attribute" 697 (.ref 435), kd P "IncrementalChart" 770 (.ref 491), kd P "_law_tokens" 776 (.ref 494), kd P "_law_bodies" 782 (.ref 501), kd P "_law_keys" 793 (.ref 502), kd P "_law_bits" 799 (.ref 509), kd P "_law_draw" 810 (.ref 516), kd P "_law_sign" 817 (.ref 523), kd P "_law_make" 823 (.ref 528), kd P "_law_number" 830 (.ref 535), kd P "_law_mark" 837 (.ref 542), kd P "_law_read" 843 (.ref 547), kd P "_law_values" 851 (.ref 554), kd P "_law_selected" 857 (.ref 559), kd P "law" 863 (.ref 564)] 33),
  (34, cO [(vS "__init__" 208), (vS "Nonterminal.__init__" 209), (vF 210), (vI 7), (vI 2), (vI 0), (vI 0), (vI 3), (.ref 29), (Value.bool true), (vI 181), (.ref 30), Value.none, (.ref 31), (.ref 32), (.ref 33), (vI 213), (vI 7), (vF 214)]),
  (35, fO "__init__" "Nonterminal.__init__" (sM 2 0) (vS "nltk.grammar" 194) Value.none 34),
  (41, cO [(vS "symbol" 216), (vS "Nonterminal.symbol" 217), (vF 218), (vI 10), (vI 1), (vI 0), (vI 0), (vI 3), (.ref 36), (Value.bool true), (vI 181), (.ref 37), Value.none, (.ref 38), (.ref 39), (.ref 40), (vI 220), (vI 10), (vF 221)]),
  (42, fO "symbol" "Nonterminal.symbol" (sM 2 1) (vS "nltk.grammar" 194) Value.none 41),
  (65, dO [kd P "__module__" 203 (vS "nltk.grammar" 194), kd P "__firstlineno__" 207 (Value.int 5 206), kd P "__init__" 215 (.ref 35), kd P "symbol" 222 (.ref 42), kd P "__eq__" 230 (.ref 49), kd P "__ne__" 238 (.ref 56), kd P "__str__" 245 (.ref 63), kd P "__static_attributes__" 247 (.ref 64), kd P "__dict__" 249 (.ref 67), kd P "__weakref__" 251 (.ref 68), kd P "__doc__" 252 Value.none, kd P "__hash__" 253 Value.none] 5),
  (66, { cls := Value.type "type", data := Data.cls { name := "Nonterminal", bases := [Value.type "object"], mro := [Value.ref 66, Value.type "object"], ns := 65, qualname := "Nonterminal" }, slots := #[none, none, some (Value.str ("Nonterminal") 196), some (Value.str ("Nonterminal") 204), some (Value.builtin "object.__new__"), some (Value.bool true)] }),
  (76, cO [(vS "_key" 256), (vS "_key" 257), (vF 258), (vI 21), (vI 1), (vI 0), (vI 0), (vI 3), (.ref 71), (Value.bool true), (vI 181), (.ref 72), Value.none, (.ref 73), (.ref 74), (.ref 75), (vI 260), (vI 21), (vF 261)]),
  (77, fO "_key" "_key" (sT 3) (vS "nltk.grammar" 194) Value.none 76),
  (93, dO [kd P "__module__" 272 (vS "nltk.parse.chart" 263), kd P "__firstlineno__" 276 (Value.int 26 275), kd P "__eq__" 284 (.ref 91), kd P "__static_attributes__" 285 (.ref 92), kd P "__dict__" 287 (.ref 95), kd P "__weakref__" 289 (.ref 96), kd P "__doc__" 290 Value.none, kd P "__hash__" 291 Value.none] 5),
  (94, { cls := Value.type "type", data := Data.cls { name := "EdgeI", bases := [Value.type "object"], mro := [Value.ref 94, Value.type "object"], ns := 93, qualname := "EdgeI", subclasses := [Value.ref 201, Value.ref 290] }, slots := #[none, none, some (Value.str ("EdgeI") 265), some (Value.str ("EdgeI") 273), some (Value.builtin "object.__new__"), some (Value.bool true)] }),
  (106, { cls := .type "tuple", data := .seq #[(Value.int 0 306)] }),
  (110, cO [(vS "__init__" 307), (vS "TreeEdge.__init__" 308), (vF 309), (vI 32), (vI 5), (vI 0), (vI 0), (vI 3), (.ref 107), (Value.bool true), (vI 181), (.ref 108), Value.none, Value.none, Value.none, (.ref 109), (vI 310), (vI 32), (vF 311)]),
  (111, fO "__init__" "TreeEdge.__init__" (sM 6 0) (vS "nltk.parse.chart" 263) (.ref 106) 110),
  (127, cO [(vS "move_dot_forward" 333), (vS "TreeEdge.move_dot_forward" 334), (vF 335), (vI 44), (vI 2), (vI 0), (vI 0), (vI 3), (.ref 122), (Value.bool true), (vI 181), (.ref 123), Value.none, (.ref 124), (.ref 125), (.ref 126), (vI 338), (vI 44), (vF 339)]),
  (128, fO "move_dot_forward" "TreeEdge.move_dot_forward" (sM 6 2) (vS "nltk.parse.chart" 263) Value.none 127),
  (134, cO [(vS "lhs" 341), (vS "TreeEdge.lhs" 342), (vF 343), (vI 47), (vI 1), (vI 0), (vI 0), (vI 3), (.ref 129), (Value.bool true), (vI 181), (.ref 130), Value.none, (.ref 131), (.ref 132), (.ref 133), (vI 345), (vI 47), (vF 346)]),
  (135, fO "lhs" "TreeEdge.lhs" (sM 6 3) (vS "nltk.parse.chart" 263) Value.none 134),
  (141, cO [(vS "span" 348), (vS "TreeEdge.span" 349), (vF 350), (vI 50), (vI 1), (vI 0), (vI 0), (vI 3), (.ref 136), (Value.bool true), (vI 181), (.ref 137), Value.none, (.ref 138), (.ref 139), (.ref 140), (vI 352), (vI 50), (vF 353)]),
  (142, fO "span" "TreeEdge.span" (sM 6 4) (vS "nltk.parse.chart" 263) Value.none 141),
  (148, cO [(vS "start" 355), (vS "TreeEdge.start" 356), (vF 357), (vI 53), (vI 1), (vI 0), (vI 0), (vI 3), (.ref 143), (Value.bool true), (vI 181), (.ref 144), Value.none, (.ref 145), (.ref 146), (.ref 147), (vI 359), (vI 53), (vF 360)]),
  (149, fO "start" "TreeEdge.start" (sM 6 5) (vS "nltk.parse.chart" 263) Value.none 148),
  (155, cO [(vS "end" 362), (vS "TreeEdge.end" 363), (vF 364), (vI 56), (vI 1), (vI 0), (vI 0), (vI 3), (.ref 150), (Value.bool true), (vI 181), (.ref 151), Value.none, (.ref 152), (.ref 153), (.ref 154), (vI 366), (vI 56), (vF 367)]),
  (156, fO "end" "TreeEdge.end" (sM 6 6) (vS "nltk.parse.chart" 263) Value.none 155),
  (162, cO [(vS "length" 369), (vS "TreeEdge.length" 370), (vF 371), (vI 59), (vI 1), (vI 0), (vI 0), (vI 3), (.ref 157), (Value.bool true), (vI 181), (.ref 158), Value.none, (.ref 159), (.ref 160), (.ref 161), (vI 373), (vI 59), (vF 374)]),
  (163, fO "length" "TreeEdge.length" (sM 6 7) (vS "nltk.parse.chart" 263) Value.none 162),
  (169, cO [(vS "rhs" 376), (vS "TreeEdge.rhs" 377), (vF 378), (vI 62), (vI 1), (vI 0), (vI 0), (vI 3), (.ref 164), (Value.bool true), (vI 181), (.ref 165), Value.none, (.ref 166), (.ref 167), (.ref 168), (vI 380), (vI 62), (vF 381)]),
  (170, fO "rhs" "TreeEdge.rhs" (sM 6 8) (vS "nltk.parse.chart" 263) Value.none 169),
  (176, cO [(vS "dot" 383), (vS "TreeEdge.dot" 384), (vF 385), (vI 65), (vI 1), (vI 0), (vI 0), (vI 3), (.ref 171), (Value.bool true), (vI 181), (.ref 172), Value.none, (.ref 173), (.ref 174), (.ref 175), (vI 387), (vI 65), (vF 388)]),
  (177, fO "dot" "TreeEdge.dot" (sM 6 9) (vS "nltk.parse.chart" 263) Value.none 176),
  (183, cO [(vS "is_complete" 390), (vS "TreeEdge.is_complete" 391), (vF 392), (vI 68), (vI 1), (vI 0), (vI 0), (vI 3), (.ref 178), (Value.bool true), (vI 181), (.ref 179), Value.none, (.ref 180), (.ref 181), (.ref 182), (vI 394), (vI 68), (vF 395)]),
  (184, fO "is_complete" "TreeEdge.is_complete" (sM 6 10) (vS "nltk.parse.chart" 263) Value.none 183),
  (190, cO [(vS "is_incomplete" 397), (vS "TreeEdge.is_incomplete" 398), (vF 399), (vI 71), (vI 1), (vI 0), (vI 0), (vI 3), (.ref 185), (Value.bool true), (vI 181), (.ref 186), Value.none, (.ref 187), (.ref 188), (.ref 189), (vI 401), (vI 71), (vF 402)]),
  (191, fO "is_incomplete" "TreeEdge.is_incomplete" (sM 6 11) (vS "nltk.parse.chart" 263) Value.none 190),
  (197, cO [(vS "nextsym" 404), (vS "TreeEdge.nextsym" 405), (vF 406), (vI 74), (vI 1), (vI 0), (vI 0), (vI 3), (.ref 192), (Value.bool true), (vI 181), (.ref 193), Value.none, (.ref 194), (.ref 195), (.ref 196), (vI 408), (vI 74), (vF 409)]),
  (198, fO "nextsym" "TreeEdge.nextsym" (sM 6 12) (vS "nltk.parse.chart" 263) Value.none 197),
  (200, dO [kd P "__module__" 301 (vS "nltk.parse.chart" 263), kd P "__firstlineno__" 305 (Value.int 30 304), kd P "__init__" 312 (.ref 111), kd P "from_production" 332 (.ref 120), kd P "move_dot_forward" 340 (.ref 128), kd P "lhs" 347 (.ref 135), kd P "span" 354 (.ref 142), kd P "start" 361 (.ref 149), kd P "end" 368 (.ref 156), kd P "length" 375 (.ref 163), kd P "rhs" 382 (.ref 170), kd P "dot" 389 (.ref 177), kd P "is_complete" 396 (.ref 184), kd P "is_incomplete" 403 (.ref 191), kd P "nextsym" 410 (.ref 198), kd P "__static_attributes__" 416 (.ref 199), kd P "__doc__" 417 Value.none] 2),
  (201, { cls := Value.type "type", data := Data.cls { name := "TreeEdge", bases := [Value.ref 94], mro := [Value.ref 201, Value.ref 94, Value.type "object"], ns := 200, qualname := "TreeEdge" }, slots := #[some (Value.ref 99), none, some (Value.str ("TreeEdge") 294), some (Value.str ("TreeEdge") 302), some (Value.builtin "object.__new__"), some (Value.bool true)] }),
  (216, cO [(vS "__init__" 432), (vS "LeafEdge.__init__" 433), (vF 434), (vI 81), (vI 3), (vI 0), (vI 0), (vI 3), (.ref 211), (Value.bool true), (vI 181), (.ref 212), Value.none, (.ref 213), (.ref 214), (.ref 215), (vI 438), (vI 81), (vF 439)]),
  (217, fO "__init__" "LeafEdge.__init__" (sM 7 0) (vS "nltk.parse.chart" 263) Value.none 216),
  (223, cO [(vS "lhs" 441), (vS "LeafEdge.lhs" 442), (vF 443), (vI 86), (vI 1), (vI 0), (vI 0), (vI 3), (.ref 218), (Value.bool true), (vI 181), (.ref 219), Value.none, (.ref 220), (.ref 221), (.ref 222), (vI 445), (vI 86), (vF 446)]),
  (224, fO "lhs" "LeafEdge.lhs" (sM 7 1) (vS "nltk.parse.chart" 263) Value.none 223),
  (230, cO [(vS "span" 448), (vS "LeafEdge.span" 449), (vF 450), (vI 89), (vI 1), (vI 0), (vI 0), (vI 3), (.ref 225), (Value.bool true), (vI 181), (.ref 226), Value.none, (.ref 227), (.ref 228), (.ref 229), (vI 452), (vI 89), (vF 453)]),
  (231, fO "span" "LeafEdge.span" (sM 7 2) (vS "nltk.parse.chart" 263) Value.none 230),
  (237, cO [(vS "start" 455), (vS "LeafEdge.start" 456), (vF 457), (vI 92), (vI 1), (vI 0), (vI 0), (vI 3), (.ref 232), (Value.bool true), (vI 181), (.ref 233), Value.none, (.ref 234), (.ref 235), (.ref 236), (vI 459), (vI 92), (vF 460)]),
  (238, fO "start" "LeafEdge.start" (sM 7 3) (vS "nltk.parse.chart" 263) Value.none 237),
  (244, cO [(vS "end" 462), (vS "LeafEdge.end" 463), (vF 464), (vI 95), (vI 1), (vI 0), (vI 0), (vI 3), (.ref 239), (Value.bool true), (vI 181), (.ref 240), Value.none, (.ref 241), (.ref 242), (.ref 243), (vI 466), (vI 95), (vF 467)]),
  (245, fO "end" "LeafEdge.end" (sM 7 4) (vS "nltk.parse.chart" 263) Value.none 244),
  (251, cO [(vS "length" 469), (vS "LeafEdge.length" 470), (vF 471), (vI 98), (vI 1), (vI 0), (vI 0), (vI 3), (.ref 246), (Value.bool true), (vI 181), (.ref 247), Value.none, (.ref 248), (.ref 249), (.ref 250), (vI 473), (vI 98), (vF 474)]),
  (252, fO "length" "LeafEdge.length" (sM 7 5) (vS "nltk.parse.chart" 263) Value.none 251),
  (258, cO [(vS "rhs" 476), (vS "LeafEdge.rhs" 477), (vF 478), (vI 101), (vI 1), (vI 0), (vI 0), (vI 3), (.ref 253), (Value.bool true), (vI 181), (.ref 254), Value.none, (.ref 255), (.ref 256), (.ref 257), (vI 480), (vI 101), (vF 481)]),
  (259, fO "rhs" "LeafEdge.rhs" (sM 7 6) (vS "nltk.parse.chart" 263) Value.none 258),
  (265, cO [(vS "dot" 483), (vS "LeafEdge.dot" 484), (vF 485), (vI 104), (vI 1), (vI 0), (vI 0), (vI 3), (.ref 260), (Value.bool true), (vI 181), (.ref 261), Value.none, (.ref 262), (.ref 263), (.ref 264), (vI 487), (vI 104), (vF 488)]),
  (266, fO "dot" "LeafEdge.dot" (sM 7 7) (vS "nltk.parse.chart" 263) Value.none 265),
  (272, cO [(vS "is_complete" 490), (vS "LeafEdge.is_complete" 491), (vF 492), (vI 107), (vI 1), (vI 0), (vI 0), (vI 3), (.ref 267), (Value.bool true), (vI 181), (.ref 268), Value.none, (.ref 269), (.ref 270), (.ref 271), (vI 494), (vI 107), (vF 495)]),
  (273, fO "is_complete" "LeafEdge.is_complete" (sM 7 8) (vS "nltk.parse.chart" 263) Value.none 272),
  (279, cO [(vS "is_incomplete" 497), (vS "LeafEdge.is_incomplete" 498), (vF 499), (vI 110), (vI 1), (vI 0), (vI 0), (vI 3), (.ref 274), (Value.bool true), (vI 181), (.ref 275), Value.none, (.ref 276), (.ref 277), (.ref 278), (vI 501), (vI 110), (vF 502)]),
  (280, fO "is_incomplete" "LeafEdge.is_incomplete" (sM 7 9) (vS "nltk.parse.chart" 263) Value.none 279),
  (286, cO [(vS "nextsym" 504), (vS "LeafEdge.nextsym" 505), (vF 506), (vI 113), (vI 1), (vI 0), (vI 0), (vI 3), (.ref 281), (Value.bool true), (vI 181), (.ref 282), Value.none, (.ref 283), (.ref 284), (.ref 285), (vI 508), (vI 113), (vF 509)]),
  (287, fO "nextsym" "LeafEdge.nextsym" (sM 7 10) (vS "nltk.parse.chart" 263) Value.none 286),
  (289, dO [kd P "__module__" 427 (vS "nltk.parse.chart" 263), kd P "__firstlineno__" 431 (Value.int 79 430), kd P "__init__" 440 (.ref 217), kd P "lhs" 447 (.ref 224), kd P "span" 454 (.ref 231), kd P "start" 461 (.ref 238), kd P "end" 468 (.ref 245), kd P "length" 475 (.ref 252), kd P "rhs" 482 (.ref 259), kd P "dot" 489 (.ref 266), kd P "is_complete" 496 (.ref 273), kd P "is_incomplete" 503 (.ref 280), kd P "nextsym" 510 (.ref 287), kd P "__static_attributes__" 514 (.ref 288), kd P "__doc__" 515 Value.none] 2),
  (290, { cls := Value.type "type", data := Data.cls { name := "LeafEdge", bases := [Value.ref 94], mro := [Value.ref 290, Value.ref 94, Value.type "object"], ns := 289, qualname := "LeafEdge" }, slots := #[some (Value.ref 204), none, some (Value.str ("LeafEdge") 420), some (Value.str ("LeafEdge") 428), some (Value.builtin "object.__new__"), some (Value.bool true)] }),
  (305, cO [(vS "__init__" 530), (vS "Chart.__init__" 531), (vF 532), (vI 117), (vI 2), (vI 0), (vI 0), (vI 3), (.ref 300), (Value.bool true), (vI 181), (.ref 301), Value.none, (.ref 302), (.ref 303), (.ref 304), (vI 535), (vI 117), (vF 536)]),
  (306, fO "__init__" "Chart.__init__" (sM 8 0) (vS "nltk.parse.chart" 263) Value.none 305),
  (312, cO [(vS "initialize" 538), (vS "Chart.initialize" 539), (vF 540), (vI 122), (vI 1), (vI 0), (vI 0), (vI 3), (.ref 307), (Value.bool true), (vI 181), (.ref 308), Value.none, (.ref 309), (.ref 310), (.ref 311), (vI 542), (vI 122), (vF 543)]),
  (313, fO "initialize" "Chart.initialize" (sM 8 1) (vS "nltk.parse.chart" 263) Value.none 312),
  (319, cO [(vS "num_leaves" 545), (vS "Chart.num_leaves" 546), (vF 547), (vI 127), (vI 1), (vI 0), (vI 0), (vI 3), (.ref 314), (Value.bool true), (vI 181), (.ref 315), Value.none, (.ref 316), (.ref 317), (.ref 318), (vI 549), (vI 127), (vF 550)]),
  (320, fO "num_leaves" "Chart.num_leaves" (sM 8 2) (vS "nltk.parse.chart" 263) Value.none 319),
  (340, cO [(vS "edges" 567), (vS "Chart.edges" 568), (vF 569), (vI 136), (vI 1), (vI 0), (vI 0), (vI 3), (.ref 335), (Value.bool true), (vI 181), (.ref 336), Value.none, (.ref 337), (.ref 338), (.ref 339), (vI 571), (vI 136), (vF 572)]),
  (341, fO "edges" "Chart.edges" (sM 8 5) (vS "nltk.parse.chart" 263) Value.none 340),
  (354, cO [(vS "num_edges" 581), (vS "Chart.num_edges" 582), (vF 583), (vI 142), (vI 1), (vI 0), (vI 0), (vI 3), (.ref 349), (Value.bool true), (vI 181), (.ref 350), Value.none, (.ref 351), (.ref 352), (.ref 353), (vI 585), (vI 142), (vF 586)]),
  (355, fO "num_edges" "Chart.num_edges" (sM 8 7) (vS "nltk.parse.chart" 263) Value.none 354),
  (359, cO [(vS "select" 588), (vS "Chart.select" 589), (vF 590), (vI 145), (vI 2), (vI 0), (vI 0), (vI 3), (.ref 356), (Value.bool true), (vI 181), (.ref 357), Value.none, Value.none, Value.none, (.ref 358), (vI 591), (vI 145), (vF 592)]),
  (360, fO "select" "Chart.select" (sM 8 8) (vS "nltk.parse.chart" 263) Value.none 359),
  (364, cO [(vS "_add_index" 594), (vS "Chart._add_index" 595), (vF 596), (vI 155), (vI 2), (vI 0), (vI 0), (vI 3), (.ref 361), (Value.bool true), (vI 181), (.ref 362), Value.none, Value.none, Value.none, (.ref 363), (vI 597), (vI 155), (vF 598)]),
  (365, fO "_add_index" "Chart._add_index" (sM 8 9) (vS "nltk.parse.chart" 263) Value.none 364),
  (369, cO [(vS "_register_with_indexes" 600), (vS "Chart._register_with_indexes" 601), (vF 602), (vI 165), (vI 2), (vI 0), (vI 0), (vI 3), (.ref 366), (Value.bool true), (vI 181), (.ref 367), Value.none, Value.none, Value.none, (.ref 368), (vI 603), (vI 165), (vF 604)]),
  (370, fO "_register_with_indexes" "Chart._register_with_indexes" (sM 8 10) (vS "nltk.parse.chart" 263) Value.none 369),
  (374, cO [(vS "insert_with_backpointer" 606), (vS "Chart.insert_with_backpointer" 607), (vF 608), (vI 170), (vI 4), (vI 0), (vI 0), (vI 3), (.ref 371), (Value.bool true), (vI 181), (.ref 372), Value.none, Value.none, Value.none, (.ref 373), (vI 609), (vI 170), (vF 610)]),
  (375, fO "insert_with_backpointer" "Chart.insert_with_backpointer" (sM 8 11) (vS "nltk.parse.chart" 263) Value.none 374),
  (379, cO [(vS "insert" 612), (vS "Chart.insert" 613), (vF 614), (vI 175), (vI 3), (vI 0), (vI 0), (vI 3), (.ref 376), (Value.bool true), (vI 181), (.ref 377), Value.none, Value.none, Value.none, (.ref 378), (vI 615), (vI 175), (vF 616)]),
  (380, fO "insert" "Chart.insert" (sM 8 12) (vS "nltk.parse.chart" 263) Value.none 379),
  (386, cO [(vS "_append_edge" 618), (vS "Chart._append_edge" 619), (vF 620), (vI 189), (vI 2), (vI 0), (vI 0), (vI 3), (.ref 381), (Value.bool true), (vI 181), (.ref 382), Value.none, (.ref 383), (.ref 384), (.ref 385), (vI 623), (vI 189), (vF 624)]),
  (387, fO "_append_edge" "Chart._append_edge" (sM 8 13) (vS "nltk.parse.chart" 263) Value.none 386),
  (414, cO [(vS "child_pointer_lists" 652), (vS "Chart.child_pointer_lists" 653), (vF 654), (vI 201), (vI 2), (vI 0), (vI 0), (vI 3), (.ref 409), (Value.bool true), (vI 181), (.ref 410), Value.none, (.ref 411), (.ref 412), (.ref 413), (vI 657), (vI 201), (vF 658)]),
  (415, fO "child_pointer_lists" "Chart.child_pointer_lists" (sM 8 17) (vS "nltk.parse.chart" 263) Value.none 414),
  (417, dO [kd P "__module__" 525 (vS "nltk.parse.chart" 263), kd P "__firstlineno__" 529 (Value.int 115 528), kd P "__init__" 537 (.ref 306), kd P "initialize" 544 (.ref 313), kd P "num_leaves" 551 (.ref 320), kd P "leaf" 559 (.ref 327), kd P "leaves" 566 (.ref 334), kd P "edges" 573 (.ref 341), kd P "iteredges" 580 (.ref 348), kd P "num_edges" 587 (.ref 355), kd P "select" 593 (.ref 360), kd P "_add_index" 599 (.ref 365), kd P "_register_with_indexes" 605 (.ref 370), kd P "insert_with_backpointer" 611 (.ref 375), kd P "insert" 617 (.ref 380), kd P "_append_edge" 625 (.ref 387), kd P "parses" 633 (.ref 394), kd P "trees" 641 (.ref 401), kd P "_trees" 651 (.ref 408), kd P "child_pointer_lists" 659 (.ref 415), kd P "__static_attributes__" 665 (.ref 416), kd P "__dict__" 667 (.ref 419), kd P "__weakref__" 669 (.ref 420), kd P "__doc__" 670 Value.none] 4),
  (418, { cls := Value.type "type", data := Data.cls { name := "Chart", bases := [Value.type "object"], mro := [Value.ref 418, Value.type "object"], ns := 417, qualname := "Chart", subclasses := [Value.ref 491] }, slots := #[none, none, some (Value.str ("Chart") 518), some (Value.str ("Chart") 526), some (Value.builtin "object.__new__"), some (Value.bool true)] }),
  (423, { cls := .type "list", data := .seq #[(vS "span" 673), (vS "start" 674), (vS "end" 675), (vS "length" 676), (vS "lhs" 677), (vS "rhs" 678), (vS "nextsym" 679), (vS "dot" 680), (vS "is_complete" 681), (vS "is_incomplete" 682)] }),
  (427, cO [(vS "_plain" 684), (vS "_plain" 685), (vF 686), (vI 204), (vI 2), (vI 0), (vI 0), (vI 3), (.ref 424), (Value.bool true), (vI 181), (.ref 425), Value.none, Value.none, Value.none, (.ref 426), (vI 687), (vI 204), (vF 688)]),
  (428, fO "_plain" "_plain" (sT 10) (vS "nltk.parse.chart" 263) Value.none 427),
  (434, cO [(vS "_attribute" 690), (vS "_attribute" 691), (vF 692), (vI 212), (vI 2), (vI 0), (vI 0), (vI 3), (.ref 429), (Value.bool true), (vI 181), (.ref 430), Value.none, (.ref 431), (.ref 432), (.ref 433), (vI 695), (vI 212), (vF 696)]),
  (435, fO "_attribute" "_attribute" (sT 11) (vS "nltk.parse.chart" 263) Value.none 434),
  (446, cO [(vS "initialize" 712), (vS "IncrementalChart.initialize" 713), (vF 714), (vI 235), (vI 1), (vI 0), (vI 0), (vI 3), (.ref 443), (Value.bool true), (vI 181), (.ref 444), Value.none, Value.none, Value.none, (.ref 445), (vI 715), (vI 235), (vF 716)]),
  (447, fO "initialize" "IncrementalChart.initialize" (sM 13 0) (vS "nltk.parse.earleychart" 698) Value.none 446),
  (453, cO [(vS "edges" 718), (vS "IncrementalChart.edges" 719), (vF 720), (vI 240), (vI 1), (vI 0), (vI 0), (vI 3), (.ref 448), (Value.bool true), (vI 181), (.ref 449), Value.none, (.ref 450), (.ref 451), (.ref 452), (vI 722), (vI 240), (vF 723)]),
  (454, fO "edges" "IncrementalChart.edges" (sM 13 1) (vS "nltk.parse.earleychart" 698) Value.none 453),
  (458, cO [(vS "iteredges" 725), (vS "IncrementalChart.iteredges" 726), (vF 727), (vI 243), (vI 1), (vI 0), (vI 0), (vI 3), (.ref 455), (Value.bool true), (vI 181), (.ref 456), Value.none, Value.none, Value.none, (.ref 457), (vI 728), (vI 243), (vF 729)]),
  (459, fO "iteredges" "IncrementalChart.iteredges" (sM 13 2) (vS "nltk.parse.earleychart" 698) Value.none 458),
  (463, cO [(vS "select" 731), (vS "IncrementalChart.select" 732), (vF 733), (vI 246), (vI 2), (vI 0), (vI 0), (vI 3), (.ref 460), (Value.bool true), (vI 181), (.ref 461), Value.none, Value.none, Value.none, (.ref 462), (vI 734), (vI 246), (vF 735)]),
  (464, fO "select" "IncrementalChart.select" (sM 13 3) (vS "nltk.parse.earleychart" 698) Value.none 463),
  (468, cO [(vS "_add_index" 737), (vS "IncrementalChart._add_index" 738), (vF 739), (vI 258), (vI 2), (vI 0), (vI 0), (vI 3), (.ref 465), (Value.bool true), (vI 181), (.ref 466), Value.none, Value.none, Value.none, (.ref 467), (vI 740), (vI 258), (vF 741)]),
  (469, fO "_add_index" "IncrementalChart._add_index" (sM 13 4) (vS "nltk.parse.earleychart" 698) Value.none 468),
  (473, cO [(vS "_register_with_indexes" 743), (vS "IncrementalChart._register_with_indexes" 744), (vF 745), (vI 270), (vI 2), (vI 0), (vI 0), (vI 3), (.ref 470), (Value.bool true), (vI 181), (.ref 471), Value.none, Value.none, Value.none, (.ref 472), (vI 746), (vI 270), (vF 747)]),
  (474, fO "_register_with_indexes" "IncrementalChart._register_with_indexes" (sM 13 5) (vS "nltk.parse.earleychart" 698) Value.none 473),
  (480, cO [(vS "_append_edge" 749), (vS "IncrementalChart._append_edge" 750), (vF 751), (vI 276), (vI 2), (vI 0), (vI 0), (vI 3), (.ref 475), (Value.bool true), (vI 181), (.ref 476), Value.none, (.ref 477), (.ref 478), (.ref 479), (vI 754), (vI 276), (vF 755)]),
  (481, fO "_append_edge" "IncrementalChart._append_edge" (sM 13 6) (vS "nltk.parse.earleychart" 698) Value.none 480),
  (487, cO [(vS "_positions" 757), (vS "IncrementalChart._positions" 758), (vF 759), (vI 279), (vI 1), (vI 0), (vI 0), (vI 3), (.ref 482), (Value.bool true), (vI 181), (.ref 483), Value.none, (.ref 484), (.ref 485), (.ref 486), (vI 761), (vI 279), (vF 762)]),
  (488, fO "_positions" "IncrementalChart._positions" (sM 13 7) (vS "nltk.parse.earleychart" 698) Value.none 487),
  (490, dO [kd P "__module__" 707 (vS "nltk.parse.earleychart" 698), kd P "__firstlineno__" 711 (Value.int 233 710), kd P "initialize" 717 (.ref 447), kd P "edges" 724 (.ref 454), kd P "iteredges" 730 (.ref 459), kd P "select" 736 (.ref 464), kd P "_add_index" 742 (.ref 469), kd P "_register_with_indexes" 748 (.ref 474), kd P "_append_edge" 756 (.ref 481), kd P "_positions" 763 (.ref 488), kd P "__static_attributes__" 767 (.ref 489), kd P "__doc__" 768 Value.none] 2),
  (491, { cls := Value.type "type", data := Data.cls { name := "IncrementalChart", bases := [Value.ref 418], mro := [Value.ref 491, Value.ref 418, Value.type "object"], ns := 490, qualname := "IncrementalChart" }, slots := #[some (Value.ref 436), none, some (Value.str ("IncrementalChart") 700), some (Value.str ("IncrementalChart") 708), some (Value.builtin "object.__new__"), some (Value.bool true)] }),
  (494, { cls := .type "list", data := .seq #[(vS "x" 773), (vS "y" 774), (vS "x" 775)] }),
  (500, cO [(vS "_law_bodies" 777), (vS "_law_bodies" 778), (vF 779), (vI 283), (vI 0), (vI 0), (vI 0), (vI 3), (.ref 495), (Value.bool true), (vI 181), (.ref 496), Value.none, (.ref 497), (.ref 498), (.ref 499), (vI 780), (vI 283), (vF 781)]),
  (501, fO "_law_bodies" "_law_bodies" (sT 16) (vS "law_an0015_01" 771) Value.none 500),
  (502, { cls := .type "list", data := .seq #[(vS "start" 783), (vS "length" 784), (vS "lhs" 785), (vS "is_complete" 786), (vS "nextsym" 787), (vS "dot" 788), (vS "span" 789), (vS "end" 790), (vS "rhs" 791), (vS "is_incomplete" 792)] }),
  (508, cO [(vS "_law_bits" 794), (vS "_law_bits" 795), (vF 796), (vI 286), (vI 0), (vI 0), (vI 0), (vI 3), (.ref 503), (Value.bool true), (vI 181), (.ref 504), Value.none, (.ref 505), (.ref 506), (.ref 507), (vI 797), (vI 286), (vF 798)]),
  (509, fO "_law_bits" "_law_bits" (sT 18) (vS "law_an0015_01" 771) Value.none 508),
  (515, cO [(vS "_law_draw" 800), (vS "_law_draw" 801), (vF 802), (vI 288), (vI 1), (vI 0), (vI 0), (vI 3), (.ref 510), (Value.bool true), (vI 181), (.ref 511), Value.none, (.ref 512), (.ref 513), (.ref 514), (vI 808), (vI 288), (vF 809)]),
  (516, fO "_law_draw" "_law_draw" (sT 19) (vS "law_an0015_01" 771) Value.none 515),
  (522, cO [(vS "_law_sign" 811), (vS "_law_sign" 812), (vF 813), (vI 296), (vI 1), (vI 0), (vI 0), (vI 3), (.ref 517), (Value.bool true), (vI 181), (.ref 518), Value.none, (.ref 519), (.ref 520), (.ref 521), (vI 815), (vI 296), (vF 816)]),
  (523, fO "_law_sign" "_law_sign" (sT 20) (vS "law_an0015_01" 771) Value.none 522),
  (527, cO [(vS "_law_make" 818), (vS "_law_make" 819), (vF 820), (vI 302), (vI 1), (vI 0), (vI 0), (vI 3), (.ref 524), (Value.bool true), (vI 181), (.ref 525), Value.none, Value.none, Value.none, (.ref 526), (vI 821), (vI 302), (vF 822)]),
  (528, fO "_law_make" "_law_make" (sT 21) (vS "law_an0015_01" 771) Value.none 527),
  (534, cO [(vS "_law_number" 824), (vS "_law_number" 825), (vF 826), (vI 306), (vI 1), (vI 0), (vI 0), (vI 3), (.ref 529), (Value.bool true), (vI 181), (.ref 530), Value.none, (.ref 531), (.ref 532), (.ref 533), (vI 828), (vI 306), (vF 829)]),
  (535, fO "_law_number" "_law_number" (sT 22) (vS "law_an0015_01" 771) Value.none 534),
  (541, cO [(vS "_law_mark" 831), (vS "_law_mark" 832), (vF 833), (vI 308), (vI 1), (vI 0), (vI 0), (vI 3), (.ref 536), (Value.bool true), (vI 181), (.ref 537), Value.none, (.ref 538), (.ref 539), (.ref 540), (vI 835), (vI 308), (vF 836)]),
  (542, fO "_law_mark" "_law_mark" (sT 23) (vS "law_an0015_01" 771) Value.none 541),
  (546, cO [(vS "_law_read" 838), (vS "_law_read" 839), (vF 840), (vI 312), (vI 1), (vI 0), (vI 0), (vI 3), (.ref 543), (Value.bool true), (vI 181), (.ref 544), Value.none, Value.none, Value.none, (.ref 545), (vI 841), (vI 312), (vF 842)]),
  (547, fO "_law_read" "_law_read" (sT 24) (vS "law_an0015_01" 771) Value.none 546),
  (553, cO [(vS "_law_values" 844), (vS "_law_values" 845), (vF 846), (vI 315), (vI 1), (vI 0), (vI 0), (vI 3), (.ref 548), (Value.bool true), (vI 181), (.ref 549), Value.none, (.ref 550), (.ref 551), (.ref 552), (vI 849), (vI 315), (vF 850)]),
  (554, fO "_law_values" "_law_values" (sT 25) (vS "law_an0015_01" 771) Value.none 553),
  (558, cO [(vS "_law_selected" 852), (vS "_law_selected" 853), (vF 854), (vI 318), (vI 5), (vI 0), (vI 0), (vI 3), (.ref 555), (Value.bool true), (vI 181), (.ref 556), Value.none, Value.none, Value.none, (.ref 557), (vI 855), (vI 318), (vF 856)]),
  (559, fO "_law_selected" "_law_selected" (sT 26) (vS "law_an0015_01" 771) Value.none 558),
  (563, cO [(vS "law" 858), (vS "law" 859), (vF 860), (vI 336), (vI 1), (vI 0), (vI 0), (vI 3), (.ref 560), (Value.bool true), (vI 181), (.ref 561), Value.none, Value.none, Value.none, (.ref 562), (vI 861), (vI 336), (vF 862)]),
  (564, fO "law" "law" (sT 27) (vS "law_an0015_01" 771) Value.none 563)]
theorem kAs_ok : ∀ P, kAs = (heapK P).map (·.1) := fun P => by kernel_rfl
noncomputable def hook : Hook := kHook heapK kAs kAs_ok
noncomputable def wvL : Nat → Nat → Frag → List Obj → List Obj
  | 0, _, _, _ => []
  | k + 1, n, [], x :: l => x :: wvL k (n + 1) [] l
  | _ + 1, _, [], [] => []
  | k + 1, n, (a, o) :: r, l => match Nat.beq a n with
    | true => o :: wvL k (n + 1) r l
    | false => match l with
      | x :: l => x :: wvL k (n + 1) ((a, o) :: r) l
      | [] => []
noncomputable def patL : Nat → Frag → List Obj → List Obj
  | n, (a, o) :: r, x :: l => match Nat.beq a n with
    | true => o :: patL (n + 1) r l
    | false => x :: patL (n + 1) ((a, o) :: r) l
  | _, _, l => l
noncomputable def altL : Bool → List Obj → List Obj
  | _, [] => []
  | true, x :: l => x :: altL false l
  | false, _ :: l => altL true l
noncomputable def btL : Nat → List Obj → BT
  | n + 1, x :: l => .node x (btL n (altL true l)) (btL n (altL false l))
  | _, _ => .nil
noncomputable def tO (vs : List Value) : Obj := { cls := .type "tuple", data := .seq vs.toArray }
noncomputable def rO (vs : List Value) : Obj := { cls := .none, data := .fields vs.toArray }
noncomputable def bO (c : String) (vs : List Value) : Obj := { cls := .type c, data := .fields vs.toArray }
noncomputable def gO (vs : List (Option Value)) : Obj := { cls := .type "frame", slots := vs.toArray }
noncomputable def pF (n q : Str) (s : Stmt) : Obj := { cls := .none, data := .func { name := n, qualname := q, params := stA s, body := .stmts (stB s), scope := stS s, globals := 0, closure := [], defaults := .none, kwdefaults := .none } }
noncomputable def fN (a : Addr) : Obj → Obj
  | ⟨c, d, .func f, s⟩ => ⟨c, d, .func { f with annotations := some a }, s⟩
  | o => o
noncomputable def oR0 (P : Params) : List Obj := [
  boot_o_0 P,
  boot_o_1 P,
  boot_o_2 P,
  boot_o_4 P,
  boot_o_5 P,
  boot_o_6 P,
  boot_o_7 P,
  boot_o_8 P,
  boot_o_9 P,
  boot_o_10 P,
  tO [],
  rO [(vI 1), (vI 0), (.ref 20), (vI 5), (vI 0), (.ref 27), (vI 21), (vI 0), (.ref 76), (vI 26), (vI 0), (.ref 83), (vI 30), (vI 0), (.ref 104), (vI 79), (vI 0), (.ref 209), (vI 115), (vI 0), (.ref 298), (vI 204), (vI 0), (.ref 427), (vI 212), (vI 0), (.ref 434), (vI 233), (vI 0), (.ref 441), (vI 283), (vI 0), (.ref 500), (vI 286), (vI 0), (.ref 508), (vI 288), (vI 0), (.ref 515), (vI 296), (vI 0), (.ref 522), (vI 302), (vI 0), (.ref 527), (vI 306), (vI 0), (.ref 534), (vI 308), (vI 0), (.ref 541), (vI 312), (vI 0), (.ref 546), (vI 315), (vI 0), (.ref 553), (vI 318), (vI 0), (.ref 558), (vI 336), (vI 0), (.ref 563)],
  cO [(vS "<module>" 182), (vS "<module>" 183), (vF 184), (vI 1), (vI 0), (vI 0), (vI 0), (vI 0), (.ref 11), (.bool false), (vI 181), (.ref 12), .none, .none, .none, .none, (vI 185), (vI 1), (vF 186)],
  gO [some (.ref 13), some (.ref 3), some (.ref 3), none, some (vS "__main__" 164), none, some (.ref 0)],
  tO [],
  rO [],
  tO [(vS "k" 190)],
  tO [],
  pF "_wall" "_wall" (sT 0),
  cO [(vS "_wall" 187), (vS "_wall" 188), (vF 189), (vI 1), (vI 1), (vI 0), (vI 0), (vI 3), (.ref 15), (.bool true), (vI 181), (.ref 16), .none, (.ref 17), (.ref 18), (.ref 19), (vI 191), (vI 1), (vF 192)],
  fO "_wall" "_wall" (sT 0) (vS "__main__" 164) .none 20,
  tO [],
  bO "builtin_function_or_method" [(.builtin "type.__prepare__"), (.type "type")],
  dO [kd P "__module__" 203 (vS "nltk.grammar" 194), kd P "__qualname__" 205 (vS "Nonterminal" 204), kd P "__firstlineno__" 207 (.int (5) 206), kd P "__init__" 215 (.ref 35), kd P "symbol" 222 (.ref 42), kd P "__eq__" 230 (.ref 49), kd P "__ne__" 238 (.ref 56), kd P "__str__" 245 (.ref 63), kd P "__static_attributes__" 247 (.ref 64)] 9,
  tO [],
  rO [(vI 7), (vI 4), (.ref 34), (vI 10), (vI 4), (.ref 41), (vI 13), (vI 4), (.ref 48), (vI 16), (vI 4), (.ref 55), (vI 19), (vI 4), (.ref 62)],
  cO [(vS "Nonterminal" 198), (vS "Nonterminal" 199), (vF 200), (vI 5), (vI 0), (vI 0), (vI 0), (vI 0), (.ref 25), (.bool false), (vI 181), (.ref 26), .none, .none, .none, .none, (vI 201), (vI 5), (vF 202)],
  gO [some (.ref 27), some (.ref 3), some (.ref 24), none, some (vS "nltk.grammar" 194), none, some (.ref 0)],
  tO [],
  rO [],
  tO [(vS "self" 211), (vS "symbol" 212)],
  tO [],
  pF "__init__" "Nonterminal.__init__" (sM 2 0),
  tO [],
  rO [],
  tO [(vS "self" 219)],
  tO [],
  pF "symbol" "Nonterminal.symbol" (sM 2 1),
  tO [],
  rO [],
  tO [(vS "self" 226), (vS "other" 227)],
  tO [],
  pF "__eq__" "Nonterminal.__eq__" (sM 2 2),
  cO [(vS "__eq__" 223), (vS "Nonterminal.__eq__" 224), (vF 225), (vI 13), (vI 2), (vI 0), (vI 0), (vI 3), (.ref 43), (.bool true), (vI 181), (.ref 44), .none, (.ref 45), (.ref 46), (.ref 47), (vI 228), (vI 13), (vF 229)],
  fO "__eq__" "Nonterminal.__eq__" (sM 2 2) (vS "nltk.grammar" 194) .none 48,
  tO [],
  rO [],
  tO [(vS "self" 234), (vS "other" 235)],
  tO [],
  pF "__ne__" "Nonterminal.__ne__" (sM 2 3),
  cO [(vS "__ne__" 231), (vS "Nonterminal.__ne__" 232), (vF 233), (vI 16), (vI 2), (vI 0), (vI 0), (vI 3), (.ref 50), (.bool true), (vI 181), (.ref 51), .none, (.ref 52), (.ref 53), (.ref 54), (vI 236), (vI 16), (vF 237)],
  fO "__ne__" "Nonterminal.__ne__" (sM 2 3) (vS "nltk.grammar" 194) .none 55,
  tO [],
  rO [],
  tO [(vS "self" 242)],
  tO [],
  pF "__str__" "Nonterminal.__str__" (sM 2 4),
  cO [(vS "__str__" 239), (vS "Nonterminal.__str__" 240), (vF 241), (vI 19), (vI 1), (vI 0), (vI 0), (vI 3), (.ref 57), (.bool true), (vI 181), (.ref 58), .none, (.ref 59), (.ref 60), (.ref 61), (vI 243), (vI 19), (vF 244)],
  fO "__str__" "Nonterminal.__str__" (sM 2 4) (vS "nltk.grammar" 194) .none 62,
  tO [(vS "_symbol" 246)]]
noncomputable def oR1 (P : Params) : List Obj := [
  bO "getset_descriptor" [(vS "__dict__" 248), (.ref 66), (.builtin "function.__dict__"), (.builtin "function.__dict__#set")],
  bO "getset_descriptor" [(vS "__weakref__" 250), (.ref 66), (.builtin "ExceptionGroup.__weakref__"), .none],
  bO "super" [(.ref 66), (.ref 66), (.ref 66)],
  bO "builtin_function_or_method" [(.builtin "object.__init_subclass__"), (.ref 66)],
  tO [],
  rO [],
  tO [(vS "item" 259)],
  tO [],
  pF "_key" "_key" (sT 3),
  tO [],
  bO "builtin_function_or_method" [(.builtin "type.__prepare__"), (.type "type")],
  dO [kd P "__module__" 272 (vS "nltk.parse.chart" 263), kd P "__qualname__" 274 (vS "EdgeI" 273), kd P "__firstlineno__" 276 (.int (26) 275), kd P "__eq__" 284 (.ref 91), kd P "__static_attributes__" 285 (.ref 92)] 5,
  tO [],
  rO [(vI 28), (vI 4), (.ref 90)],
  cO [(vS "EdgeI" 267), (vS "EdgeI" 268), (vF 269), (vI 26), (vI 0), (vI 0), (vI 0), (vI 0), (.ref 81), (.bool false), (vI 181), (.ref 82), .none, .none, .none, .none, (vI 270), (vI 26), (vF 271)],
  gO [some (.ref 83), some (.ref 3), some (.ref 80), none, some (vS "nltk.parse.chart" 263), none, some (.ref 0)],
  tO [],
  rO [],
  tO [(vS "self" 280), (vS "other" 281)],
  tO [],
  pF "__eq__" "EdgeI.__eq__" (sM 5 0),
  cO [(vS "__eq__" 277), (vS "EdgeI.__eq__" 278), (vF 279), (vI 28), (vI 2), (vI 0), (vI 0), (vI 3), (.ref 85), (.bool true), (vI 181), (.ref 86), .none, (.ref 87), (.ref 88), (.ref 89), (vI 282), (vI 28), (vF 283)],
  fO "__eq__" "EdgeI.__eq__" (sM 5 0) (vS "nltk.parse.chart" 263) .none 90,
  tO [],
  bO "getset_descriptor" [(vS "__dict__" 286), (.ref 94), (.builtin "function.__dict__"), (.builtin "function.__dict__#set")],
  bO "getset_descriptor" [(vS "__weakref__" 288), (.ref 94), (.builtin "ExceptionGroup.__weakref__"), .none],
  bO "super" [(.ref 94), (.ref 94), (.ref 94)],
  bO "builtin_function_or_method" [(.builtin "object.__init_subclass__"), (.ref 94)],
  tO [(.ref 94)],
  bO "builtin_function_or_method" [(.builtin "type.__prepare__"), (.type "type")],
  dO [kd P "__module__" 301 (vS "nltk.parse.chart" 263), kd P "__qualname__" 303 (vS "TreeEdge" 302), kd P "__firstlineno__" 305 (.int (30) 304), kd P "__init__" 312 (.ref 111), kd P "from_production" 332 (.ref 120), kd P "move_dot_forward" 340 (.ref 128), kd P "lhs" 347 (.ref 135), kd P "span" 354 (.ref 142), kd P "start" 361 (.ref 149), kd P "end" 368 (.ref 156), kd P "length" 375 (.ref 163), kd P "rhs" 382 (.ref 170), kd P "dot" 389 (.ref 177), kd P "is_complete" 396 (.ref 184), kd P "is_incomplete" 403 (.ref 191), kd P "nextsym" 410 (.ref 198), kd P "__static_attributes__" 416 (.ref 199)] 17,
  tO [],
  rO [(vI 32), (vI 4), (.ref 110), (vI 41), (vI 4), (.ref 117), (vI 44), (vI 4), (.ref 127), (vI 47), (vI 4), (.ref 134), (vI 50), (vI 4), (.ref 141), (vI 53), (vI 4), (.ref 148), (vI 56), (vI 4), (.ref 155), (vI 59), (vI 4), (.ref 162), (vI 62), (vI 4), (.ref 169), (vI 65), (vI 4), (.ref 176), (vI 68), (vI 4), (.ref 183), (vI 71), (vI 4), (.ref 190), (vI 74), (vI 4), (.ref 197)],
  cO [(vS "TreeEdge" 296), (vS "TreeEdge" 297), (vF 298), (vI 30), (vI 0), (vI 0), (vI 0), (vI 0), (.ref 102), (.bool false), (vI 181), (.ref 103), .none, .none, .none, .none, (vI 299), (vI 30), (vF 300)],
  gO [some (.ref 104), some (.ref 3), some (.ref 101), none, some (vS "nltk.parse.chart" 263), none, some (.ref 0)],
  tO [],
  rO [],
  pF "__init__" "TreeEdge.__init__" (sM 6 0),
  tO [],
  rO [],
  tO [(vS "production" 316), (vS "index" 317)],
  tO [],
  pF "from_production" "TreeEdge.from_production" (sM 6 1),
  cO [(vS "from_production" 313), (vS "TreeEdge.from_production" 314), (vF 315), (vI 40), (vI 2), (vI 0), (vI 0), (vI 3), (.ref 112), (.bool true), (vI 181), (.ref 113), .none, (.ref 114), (.ref 115), (.ref 116), (vI 318), (vI 40), (vF 319)],
  fN 121 (fO "from_production" "TreeEdge.from_production" (sM 6 1) (vS "nltk.parse.chart" 263) .none 117),
  dO [kd P "__module__" 321 (vS "nltk.parse.chart" 263), kd P "__name__" 324 (vS "from_production" 323), kd P "__qualname__" 327 (vS "TreeEdge.from_production" 326), kd P "__doc__" 329 .none, kd P "__annotations__" 331 (.ref 121)] 5,
  { cls := (.type "staticmethod"), dict := some 119, data := .fields (Array.mk [(.ref 118), (.bool false)]) },
  dO [] 0,
  tO [],
  rO [],
  tO [(vS "self" 336), (vS "new_end" 337)],
  tO [],
  pF "move_dot_forward" "TreeEdge.move_dot_forward" (sM 6 2),
  tO [],
  rO [],
  tO [(vS "self" 344)],
  tO [],
  pF "lhs" "TreeEdge.lhs" (sM 6 3),
  tO [],
  rO []]
noncomputable def oR2 (P : Params) : List Obj := [
  tO [(vS "self" 351)],
  tO [],
  pF "span" "TreeEdge.span" (sM 6 4),
  tO [],
  rO [],
  tO [(vS "self" 358)],
  tO [],
  pF "start" "TreeEdge.start" (sM 6 5),
  tO [],
  rO [],
  tO [(vS "self" 365)],
  tO [],
  pF "end" "TreeEdge.end" (sM 6 6),
  tO [],
  rO [],
  tO [(vS "self" 372)],
  tO [],
  pF "length" "TreeEdge.length" (sM 6 7),
  tO [],
  rO [],
  tO [(vS "self" 379)],
  tO [],
  pF "rhs" "TreeEdge.rhs" (sM 6 8),
  tO [],
  rO [],
  tO [(vS "self" 386)],
  tO [],
  pF "dot" "TreeEdge.dot" (sM 6 9),
  tO [],
  rO [],
  tO [(vS "self" 393)],
  tO [],
  pF "is_complete" "TreeEdge.is_complete" (sM 6 10),
  tO [],
  rO [],
  tO [(vS "self" 400)],
  tO [],
  pF "is_incomplete" "TreeEdge.is_incomplete" (sM 6 11),
  tO [],
  rO [],
  tO [(vS "self" 407)],
  tO [],
  pF "nextsym" "TreeEdge.nextsym" (sM 6 12),
  tO [(vS "_comparison_key" 411), (vS "_dot" 412), (vS "_lhs" 413), (vS "_rhs" 414), (vS "_span" 415)],
  bO "super" [(.ref 201), (.ref 201), (.ref 201)],
  bO "builtin_function_or_method" [(.builtin "object.__init_subclass__"), (.ref 201)],
  tO [(.ref 94)],
  bO "builtin_function_or_method" [(.builtin "type.__prepare__"), (.type "type")],
  dO [kd P "__module__" 427 (vS "nltk.parse.chart" 263), kd P "__qualname__" 429 (vS "LeafEdge" 428), kd P "__firstlineno__" 431 (.int (79) 430), kd P "__init__" 440 (.ref 217), kd P "lhs" 447 (.ref 224), kd P "span" 454 (.ref 231), kd P "start" 461 (.ref 238), kd P "end" 468 (.ref 245), kd P "length" 475 (.ref 252), kd P "rhs" 482 (.ref 259), kd P "dot" 489 (.ref 266), kd P "is_complete" 496 (.ref 273), kd P "is_incomplete" 503 (.ref 280), kd P "nextsym" 510 (.ref 287), kd P "__static_attributes__" 514 (.ref 288)] 15,
  tO [],
  rO [(vI 81), (vI 4), (.ref 216), (vI 86), (vI 4), (.ref 223), (vI 89), (vI 4), (.ref 230), (vI 92), (vI 4), (.ref 237), (vI 95), (vI 4), (.ref 244), (vI 98), (vI 4), (.ref 251), (vI 101), (vI 4), (.ref 258), (vI 104), (vI 4), (.ref 265), (vI 107), (vI 4), (.ref 272), (vI 110), (vI 4), (.ref 279), (vI 113), (vI 4), (.ref 286)],
  cO [(vS "LeafEdge" 422), (vS "LeafEdge" 423), (vF 424), (vI 79), (vI 0), (vI 0), (vI 0), (vI 0), (.ref 207), (.bool false), (vI 181), (.ref 208), .none, .none, .none, .none, (vI 425), (vI 79), (vF 426)],
  gO [some (.ref 209), some (.ref 3), some (.ref 206), none, some (vS "nltk.parse.chart" 263), none, some (.ref 0)],
  tO [],
  rO [],
  tO [(vS "self" 435), (vS "leaf" 436), (vS "index" 437)],
  tO [],
  pF "__init__" "LeafEdge.__init__" (sM 7 0),
  tO [],
  rO []]
noncomputable def oR3 (P : Params) : List Obj := [
  tO [(vS "self" 444)],
  tO [],
  pF "lhs" "LeafEdge.lhs" (sM 7 1),
  tO [],
  rO [],
  tO [(vS "self" 451)],
  tO [],
  pF "span" "LeafEdge.span" (sM 7 2),
  tO [],
  rO [],
  tO [(vS "self" 458)],
  tO [],
  pF "start" "LeafEdge.start" (sM 7 3),
  tO [],
  rO [],
  tO [(vS "self" 465)],
  tO [],
  pF "end" "LeafEdge.end" (sM 7 4),
  tO [],
  rO [],
  tO [(vS "self" 472)],
  tO [],
  pF "length" "LeafEdge.length" (sM 7 5),
  tO [],
  rO [],
  tO [(vS "self" 479)],
  tO [],
  pF "rhs" "LeafEdge.rhs" (sM 7 6),
  tO [],
  rO [],
  tO [(vS "self" 486)],
  tO [],
  pF "dot" "LeafEdge.dot" (sM 7 7),
  tO [],
  rO [],
  tO [(vS "self" 493)],
  tO [],
  pF "is_complete" "LeafEdge.is_complete" (sM 7 8),
  tO [],
  rO [],
  tO [(vS "self" 500)],
  tO [],
  pF "is_incomplete" "LeafEdge.is_incomplete" (sM 7 9),
  tO [],
  rO [],
  tO [(vS "self" 507)],
  tO [],
  pF "nextsym" "LeafEdge.nextsym" (sM 7 10),
  tO [(vS "_comparison_key" 511), (vS "_index" 512), (vS "_leaf" 513)],
  bO "super" [(.ref 290), (.ref 290), (.ref 290)],
  bO "builtin_function_or_method" [(.builtin "object.__init_subclass__"), (.ref 290)],
  tO [],
  bO "builtin_function_or_method" [(.builtin "type.__prepare__"), (.type "type")],
  dO [kd P "__module__" 525 (vS "nltk.parse.chart" 263), kd P "__qualname__" 527 (vS "Chart" 526), kd P "__firstlineno__" 529 (.int (115) 528), kd P "__init__" 537 (.ref 306), kd P "initialize" 544 (.ref 313), kd P "num_leaves" 551 (.ref 320), kd P "leaf" 559 (.ref 327), kd P "leaves" 566 (.ref 334), kd P "edges" 573 (.ref 341), kd P "iteredges" 580 (.ref 348), kd P "num_edges" 587 (.ref 355), kd P "select" 593 (.ref 360), kd P "_add_index" 599 (.ref 365), kd P "_register_with_indexes" 605 (.ref 370), kd P "insert_with_backpointer" 611 (.ref 375), kd P "insert" 617 (.ref 380), kd P "_append_edge" 625 (.ref 387), kd P "parses" 633 (.ref 394), kd P "trees" 641 (.ref 401), kd P "_trees" 651 (.ref 408), kd P "child_pointer_lists" 659 (.ref 415), kd P "__static_attributes__" 665 (.ref 416)] 22,
  tO [],
  rO [(vI 117), (vI 4), (.ref 305), (vI 122), (vI 4), (.ref 312), (vI 127), (vI 4), (.ref 319), (vI 130), (vI 4), (.ref 326), (vI 133), (vI 4), (.ref 333), (vI 136), (vI 4), (.ref 340), (vI 139), (vI 4), (.ref 347), (vI 142), (vI 4), (.ref 354), (vI 145), (vI 4), (.ref 359), (vI 155), (vI 4), (.ref 364), (vI 165), (vI 4), (.ref 369), (vI 170), (vI 4), (.ref 374), (vI 175), (vI 4), (.ref 379), (vI 189), (vI 4), (.ref 386), (vI 192), (vI 4), (.ref 393), (vI 195), (vI 4), (.ref 400), (vI 198), (vI 4), (.ref 407), (vI 201), (vI 4), (.ref 414)],
  cO [(vS "Chart" 520), (vS "Chart" 521), (vF 522), (vI 115), (vI 0), (vI 0), (vI 0), (vI 0), (.ref 296), (.bool false), (vI 181), (.ref 297), .none, .none, .none, .none, (vI 523), (vI 115), (vF 524)],
  gO [some (.ref 298), some (.ref 3), some (.ref 295), none, some (vS "nltk.parse.chart" 263), none, some (.ref 0)],
  tO [],
  rO []]
noncomputable def oR4 (P : Params) : List Obj := [
  tO [(vS "self" 533), (vS "tokens" 534)],
  tO [],
  pF "__init__" "Chart.__init__" (sM 8 0),
  tO [],
  rO [],
  tO [(vS "self" 541)],
  tO [],
  pF "initialize" "Chart.initialize" (sM 8 1),
  tO [],
  rO [],
  tO [(vS "self" 548)],
  tO [],
  pF "num_leaves" "Chart.num_leaves" (sM 8 2),
  tO [],
  rO [],
  tO [(vS "self" 555), (vS "index" 556)],
  tO [],
  pF "leaf" "Chart.leaf" (sM 8 3),
  cO [(vS "leaf" 552), (vS "Chart.leaf" 553), (vF 554), (vI 130), (vI 2), (vI 0), (vI 0), (vI 3), (.ref 321), (.bool true), (vI 181), (.ref 322), .none, (.ref 323), (.ref 324), (.ref 325), (vI 557), (vI 130), (vF 558)],
  fO "leaf" "Chart.leaf" (sM 8 3) (vS "nltk.parse.chart" 263) .none 326,
  tO [],
  rO [],
  tO [(vS "self" 563)],
  tO [],
  pF "leaves" "Chart.leaves" (sM 8 4),
  cO [(vS "leaves" 560), (vS "Chart.leaves" 561), (vF 562), (vI 133), (vI 1), (vI 0), (vI 0), (vI 3), (.ref 328), (.bool true), (vI 181), (.ref 329), .none, (.ref 330), (.ref 331), (.ref 332), (vI 564), (vI 133), (vF 565)],
  fO "leaves" "Chart.leaves" (sM 8 4) (vS "nltk.parse.chart" 263) .none 333,
  tO [],
  rO [],
  tO [(vS "self" 570)],
  tO [],
  pF "edges" "Chart.edges" (sM 8 5),
  tO [],
  rO [],
  tO [(vS "self" 577)],
  tO [],
  pF "iteredges" "Chart.iteredges" (sM 8 6),
  cO [(vS "iteredges" 574), (vS "Chart.iteredges" 575), (vF 576), (vI 139), (vI 1), (vI 0), (vI 0), (vI 3), (.ref 342), (.bool true), (vI 181), (.ref 343), .none, (.ref 344), (.ref 345), (.ref 346), (vI 578), (vI 139), (vF 579)],
  fO "iteredges" "Chart.iteredges" (sM 8 6) (vS "nltk.parse.chart" 263) .none 347,
  tO [],
  rO [],
  tO [(vS "self" 584)],
  tO [],
  pF "num_edges" "Chart.num_edges" (sM 8 7),
  tO [],
  rO [],
  pF "select" "Chart.select" (sM 8 8),
  tO [],
  rO [],
  pF "_add_index" "Chart._add_index" (sM 8 9),
  tO [],
  rO [],
  pF "_register_with_indexes" "Chart._register_with_indexes" (sM 8 10),
  tO [],
  rO [],
  pF "insert_with_backpointer" "Chart.insert_with_backpointer" (sM 8 11),
  tO [],
  rO [],
  pF "insert" "Chart.insert" (sM 8 12),
  tO []]
noncomputable def oR5 (P : Params) : List Obj := [
  rO [],
  tO [(vS "self" 621), (vS "edge" 622)],
  tO [],
  pF "_append_edge" "Chart._append_edge" (sM 8 13),
  tO [],
  rO [],
  tO [(vS "self" 629), (vS "root" 630)],
  tO [],
  pF "parses" "Chart.parses" (sM 8 14),
  cO [(vS "parses" 626), (vS "Chart.parses" 627), (vF 628), (vI 192), (vI 2), (vI 0), (vI 0), (vI 3), (.ref 388), (.bool true), (vI 181), (.ref 389), .none, (.ref 390), (.ref 391), (.ref 392), (vI 631), (vI 192), (vF 632)],
  fO "parses" "Chart.parses" (sM 8 14) (vS "nltk.parse.chart" 263) .none 393,
  tO [],
  rO [],
  tO [(vS "self" 637), (vS "edge" 638)],
  tO [],
  pF "trees" "Chart.trees" (sM 8 15),
  cO [(vS "trees" 634), (vS "Chart.trees" 635), (vF 636), (vI 195), (vI 2), (vI 0), (vI 0), (vI 3), (.ref 395), (.bool true), (vI 181), (.ref 396), .none, (.ref 397), (.ref 398), (.ref 399), (vI 639), (vI 195), (vF 640)],
  fO "trees" "Chart.trees" (sM 8 15) (vS "nltk.parse.chart" 263) .none 400,
  tO [],
  rO [],
  tO [(vS "self" 645), (vS "edge" 646), (vS "memo" 647), (vS "budget" 648)],
  tO [],
  pF "_trees" "Chart._trees" (sM 8 16),
  cO [(vS "_trees" 642), (vS "Chart._trees" 643), (vF 644), (vI 198), (vI 4), (vI 0), (vI 0), (vI 3), (.ref 402), (.bool true), (vI 181), (.ref 403), .none, (.ref 404), (.ref 405), (.ref 406), (vI 649), (vI 198), (vF 650)],
  fO "_trees" "Chart._trees" (sM 8 16) (vS "nltk.parse.chart" 263) .none 407,
  tO [],
  rO [],
  tO [(vS "self" 655), (vS "edge" 656)],
  tO [],
  pF "child_pointer_lists" "Chart.child_pointer_lists" (sM 8 17),
  tO [(vS "_edge_to_cpls" 660), (vS "_edges" 661), (vS "_indexes" 662), (vS "_num_leaves" 663), (vS "_tokens" 664)],
  bO "getset_descriptor" [(vS "__dict__" 666), (.ref 418), (.builtin "function.__dict__"), (.builtin "function.__dict__#set")],
  bO "getset_descriptor" [(vS "__weakref__" 668), (.ref 418), (.builtin "ExceptionGroup.__weakref__"), .none],
  bO "super" [(.ref 418), (.ref 418), (.ref 418)],
  bO "builtin_function_or_method" [(.builtin "object.__init_subclass__"), (.ref 418)],
  tO [],
  rO [],
  pF "_plain" "_plain" (sT 10),
  tO [],
  rO [],
  tO [(vS "edge" 693), (vS "key" 694)],
  tO [],
  pF "_attribute" "_attribute" (sT 11),
  tO [(.ref 418)],
  bO "builtin_function_or_method" [(.builtin "type.__prepare__"), (.type "type")],
  dO [kd P "__module__" 707 (vS "nltk.parse.earleychart" 698), kd P "__qualname__" 709 (vS "IncrementalChart" 708), kd P "__firstlineno__" 711 (.int (233) 710), kd P "initialize" 717 (.ref 447), kd P "edges" 724 (.ref 454), kd P "iteredges" 730 (.ref 459), kd P "select" 736 (.ref 464), kd P "_add_index" 742 (.ref 469), kd P "_register_with_indexes" 748 (.ref 474), kd P "_append_edge" 756 (.ref 481), kd P "_positions" 763 (.ref 488), kd P "__static_attributes__" 767 (.ref 489)] 12,
  tO [],
  rO [(vI 235), (vI 4), (.ref 446), (vI 240), (vI 4), (.ref 453), (vI 243), (vI 4), (.ref 458), (vI 246), (vI 4), (.ref 463), (vI 258), (vI 4), (.ref 468), (vI 270), (vI 4), (.ref 473), (vI 276), (vI 4), (.ref 480), (vI 279), (vI 4), (.ref 487)],
  cO [(vS "IncrementalChart" 702), (vS "IncrementalChart" 703), (vF 704), (vI 233), (vI 0), (vI 0), (vI 0), (vI 0), (.ref 439), (.bool false), (vI 181), (.ref 440), .none, .none, .none, .none, (vI 705), (vI 233), (vF 706)],
  gO [some (.ref 441), some (.ref 3), some (.ref 438), none, some (vS "nltk.parse.earleychart" 698), none, some (.ref 0)],
  tO [],
  rO [],
  pF "initialize" "IncrementalChart.initialize" (sM 13 0),
  tO [],
  rO [],
  tO [(vS "self" 721)],
  tO [],
  pF "edges" "IncrementalChart.edges" (sM 13 1),
  tO [],
  rO []]
noncomputable def oR6 (P : Params) : List Obj := [
  pF "iteredges" "IncrementalChart.iteredges" (sM 13 2),
  tO [],
  rO [],
  pF "select" "IncrementalChart.select" (sM 13 3),
  tO [],
  rO [],
  pF "_add_index" "IncrementalChart._add_index" (sM 13 4),
  tO [],
  rO [],
  pF "_register_with_indexes" "IncrementalChart._register_with_indexes" (sM 13 5),
  tO [],
  rO [],
  tO [(vS "self" 752), (vS "edge" 753)],
  tO [],
  pF "_append_edge" "IncrementalChart._append_edge" (sM 13 6),
  tO [],
  rO [],
  tO [(vS "self" 760)],
  tO [],
  pF "_positions" "IncrementalChart._positions" (sM 13 7),
  tO [(vS "_edge_to_cpls" 764), (vS "_edgelists" 765), (vS "_indexes" 766)],
  bO "super" [(.ref 491), (.ref 491), (.ref 491)],
  bO "builtin_function_or_method" [(.builtin "object.__init_subclass__"), (.ref 491)],
  tO [],
  rO [],
  tO [],
  tO [],
  pF "_law_bodies" "_law_bodies" (sT 16),
  tO [],
  rO [],
  tO [],
  tO [],
  pF "_law_bits" "_law_bits" (sT 18),
  tO [],
  rO [],
  tO [(vS "number" 803), (vS "k" 804), (vS "low" 805), (vS "high" 806), (vS "body" 807)],
  tO [],
  pF "_law_draw" "_law_draw" (sT 19),
  tO [],
  rO [],
  tO [(vS "sign" 814)],
  tO [],
  pF "_law_sign" "_law_sign" (sT 20),
  tO [],
  rO [],
  pF "_law_make" "_law_make" (sT 21),
  tO [],
  rO [],
  tO [(vS "value" 827)],
  tO [],
  pF "_law_number" "_law_number" (sT 22),
  tO [],
  rO [],
  tO [(vS "sign" 834)],
  tO [],
  pF "_law_mark" "_law_mark" (sT 23),
  tO [],
  rO [],
  pF "_law_read" "_law_read" (sT 24),
  tO []]
noncomputable def oR7 (P : Params) : List Obj := [
  rO [],
  tO [(vS "edge" 847), (vS "whole" 848)],
  tO [],
  pF "_law_values" "_law_values" (sT 25),
  tO [],
  rO [],
  pF "_law_selected" "_law_selected" (sT 26),
  tO [],
  rO [],
  pF "law" "law" (sT 27)]
noncomputable def oR (P : Params) : List Obj := oR0 P ++ (oR1 P ++ (oR2 P ++ (oR3 P ++ (oR4 P ++ (oR5 P ++ (oR6 P ++ (oR7 P)))))))
noncomputable def oS_pre (P : Params) : List Obj := patL 0 [
  (3, dO [kd P "__name__" 165 (vS "__main__" 164), kd P "__doc__" 166 .none, kd P "__package__" 167 .none, kd P "__loader__" 168 (.builtin "__main__.__loader__#opaque"), kd P "__spec__" 169 .none, kd P "__annotations__" 170 (.ref 6), kd P "__builtins__" 171 (.ref 4), kd P "__file__" 173 (vF 172), kd P "__cached__" 174 .none] 9),
  (12, rO [])] (wvL 15 0 (heapK P) (oR P))
noncomputable def oS_p5 (P : Params) : List Obj := patL 0 [
  (3, dO [kd P "__name__" 165 (vS "nltk.parse.chart" 263), kd P "__doc__" 166 .none, kd P "__package__" 167 .none, kd P "__loader__" 168 (.builtin "__main__.__loader__#opaque"), kd P "__spec__" 169 .none, kd P "__annotations__" 170 (.ref 6), kd P "__builtins__" 171 (.ref 4), kd P "__file__" 173 (vF 172), kd P "__cached__" 174 .none, kd P "_wall" 193 (.ref 21), kd P "Nonterminal" 255 (.ref 66), kd P "_key" 262 (.ref 77), kd P "EdgeI" 293 (.ref 94)] 13),
  (12, rO [(vI 1), (vI 0), (.ref 20), (vI 5), (vI 0), (.ref 27), (vI 21), (vI 0), (.ref 76), (vI 26), (vI 0), (.ref 83)]),
  (94, { cls := .type "type", data := .cls { name := "EdgeI", bases := [Value.type "object"], mro := [Value.ref 94, Value.type "object"], ns := 93, qualname := "EdgeI", subclasses := [] }, slots := Array.mk [none, none, some (vS "EdgeI" 265), some (vS "EdgeI" 273), some (.builtin "object.__new__"), some (.bool true)] })] (wvL 99 0 (heapK P) (oR P))
noncomputable def oS_p6 (P : Params) : List Obj := patL 0 [
  (3, dO [kd P "__name__" 165 (vS "nltk.parse.chart" 263), kd P "__doc__" 166 .none, kd P "__package__" 167 .none, kd P "__loader__" 168 (.builtin "__main__.__loader__#opaque"), kd P "__spec__" 169 .none, kd P "__annotations__" 170 (.ref 6), kd P "__builtins__" 171 (.ref 4), kd P "__file__" 173 (vF 172), kd P "__cached__" 174 .none, kd P "_wall" 193 (.ref 21), kd P "Nonterminal" 255 (.ref 66), kd P "_key" 262 (.ref 77), kd P "EdgeI" 293 (.ref 94), kd P "TreeEdge" 419 (.ref 201)] 14),
  (12, rO [(vI 1), (vI 0), (.ref 20), (vI 5), (vI 0), (.ref 27), (vI 21), (vI 0), (.ref 76), (vI 26), (vI 0), (.ref 83), (vI 30), (vI 0), (.ref 104)]),
  (94, { cls := .type "type", data := .cls { name := "EdgeI", bases := [Value.type "object"], mro := [Value.ref 94, Value.type "object"], ns := 93, qualname := "EdgeI", subclasses := [Value.ref 201] }, slots := Array.mk [none, none, some (vS "EdgeI" 265), some (vS "EdgeI" 273), some (.builtin "object.__new__"), some (.bool true)] })] (wvL 204 0 (heapK P) (oR P))
noncomputable def oS_p7 (P : Params) : List Obj := patL 0 [
  (3, dO [kd P "__name__" 165 (vS "nltk.parse.chart" 263), kd P "__doc__" 166 .none, kd P "__package__" 167 .none, kd P "__loader__" 168 (.builtin "__main__.__loader__#opaque"), kd P "__spec__" 169 .none, kd P "__annotations__" 170 (.ref 6), kd P "__builtins__" 171 (.ref 4), kd P "__file__" 173 (vF 172), kd P "__cached__" 174 .none, kd P "_wall" 193 (.ref 21), kd P "Nonterminal" 255 (.ref 66), kd P "_key" 262 (.ref 77), kd P "EdgeI" 293 (.ref 94), kd P "TreeEdge" 419 (.ref 201), kd P "LeafEdge" 517 (.ref 290)] 15),
  (12, rO [(vI 1), (vI 0), (.ref 20), (vI 5), (vI 0), (.ref 27), (vI 21), (vI 0), (.ref 76), (vI 26), (vI 0), (.ref 83), (vI 30), (vI 0), (.ref 104), (vI 79), (vI 0), (.ref 209)])] (wvL 293 0 (heapK P) (oR P))
noncomputable def oS_p8 (P : Params) : List Obj := patL 0 [
  (3, dO [kd P "__name__" 165 (vS "nltk.parse.chart" 263), kd P "__doc__" 166 .none, kd P "__package__" 167 .none, kd P "__loader__" 168 (.builtin "__main__.__loader__#opaque"), kd P "__spec__" 169 .none, kd P "__annotations__" 170 (.ref 6), kd P "__builtins__" 171 (.ref 4), kd P "__file__" 173 (vF 172), kd P "__cached__" 174 .none, kd P "_wall" 193 (.ref 21), kd P "Nonterminal" 255 (.ref 66), kd P "_key" 262 (.ref 77), kd P "EdgeI" 293 (.ref 94), kd P "TreeEdge" 419 (.ref 201), kd P "LeafEdge" 517 (.ref 290), kd P "Chart" 672 (.ref 418)] 16),
  (12, rO [(vI 1), (vI 0), (.ref 20), (vI 5), (vI 0), (.ref 27), (vI 21), (vI 0), (.ref 76), (vI 26), (vI 0), (.ref 83), (vI 30), (vI 0), (.ref 104), (vI 79), (vI 0), (.ref 209), (vI 115), (vI 0), (.ref 298)]),
  (418, { cls := .type "type", data := .cls { name := "Chart", bases := [Value.type "object"], mro := [Value.ref 418, Value.type "object"], ns := 417, qualname := "Chart", subclasses := [] }, slots := Array.mk [none, none, some (vS "Chart" 518), some (vS "Chart" 526), some (.builtin "object.__new__"), some (.bool true)] })] (wvL 423 0 (heapK P) (oR P))
noncomputable def oS_fin (P : Params) : List Obj := wvL 565 0 (heapK P) (oR P)
noncomputable def envT : Env := { scope := pw.main.scope, locals := mainNs, globals := mainNs, cells := [], code := .ref 13, frame := some 14 }
noncomputable def codeT : Code := .body (behindTheImports pw) envT
noncomputable def stK (n tk : Nat) (l : List Obj) (os : OsState) : SharedT := ⟨btL 12 l, n, {}, Array.mk [], {}, tk, os⟩
noncomputable def shK (tk : Nat) (l : List Obj) (os : OsState) : Shared := ⟨⟨Array.mk l, {}⟩, Array.mk [], {}, tk, os⟩
noncomputable def lT (i j : Nat) : List Stmt := ((behindTheImports pw).drop i).take j
noncomputable def thT (l : List Stmt) (p : Pos) : Thread := ⟨(PySem.W.Fast.tw12563942051412417395 l envT).wrap doneF deadEnd id id, codeT, p, [topFrame ⟨0, 0, 0, 0⟩]⟩
noncomputable def segF (w : World) (N : Nat) (s : SharedT) (t : Thread) : Option (Flow × Shared × Code × Pos) :=
  (PySem.W.Fast.tw10110043849684766642 PySem.W.Fast.tw14364793385576792824 pw w 11 (some (.ref 6)) 1 N s t).map fun r => (r.1, r.2.1.abs, r.2.2)
theorem seg_of {w : World} {N tk tk' n : Nat} {l l' : List Obj} {os : OsState} {b : List Stmt} {p p' : Pos} (h : segF w N (stK n tk l os) (thT b p) = some (.next, shK tk' l' os, codeT, p')) (a : (stK n tk l os).abs = shK tk l os) :
    segRun treeTable pw w 11 (some (.ref 6)) 1 N (shK tk l os) (piecesOf b envT codeT p [topFrame ⟨0, 0, 0, 0⟩]) = some (.next, shK tk' l' os, codeT, p') := by
  unfold segF thT at h
  rw [← PySem.W.Fast.te10110043849684766642, ← PySem.W.Fast.te14364793385576792824, ← PySem.W.Fast.te12563942051412417395] at h
  obtain ⟨⟨f, s, c, q⟩, r, e⟩ := Option.map_eq_some_iff.mp h
  have r := segRun_of r
  simp only [Prod.mk.injEq] at e
  obtain ⟨rfl, e, rfl, rfl⟩ := e
  rw [e, a] at r
  exact r
theorem ab_pre (P : Params) (os : OsState) : (stK 15 187 (oS_pre P) os).abs = shK 187 (oS_pre P) os := by kernel_rfl
theorem ab_p5 (P : Params) (os : OsState) : (stK 99 294 (oS_p5 P) os).abs = shK 294 (oS_p5 P) os := by kernel_rfl
theorem ab_p6 (P : Params) (os : OsState) : (stK 204 420 (oS_p6 P) os).abs = shK 420 (oS_p6 P) os := by kernel_rfl
theorem ab_p7 (P : Params) (os : OsState) : (stK 293 518 (oS_p7 P) os).abs = shK 518 (oS_p7 P) os := by kernel_rfl
theorem ab_p8 (P : Params) (os : OsState) : (stK 423 673 (oS_p8 P) os).abs = shK 673 (oS_p8 P) os := by kernel_rfl
theorem run_pre (w : World) (os : OsState) : PySem.W.Fast.tw15667345088766844465 PySem.W.Fast.tw14364793385576792824 pw w 11 (some (.ref 6)) 12 ⟨boot_heap w.params, Array.mk [], boot_drawn, boot_toks, os⟩ (topStub pw) =
    some (shK 187 (oS_pre w.params) os, ⟨PySem.W.Fast.tw11892475500146522536 PySem.W.Fast.tw14364793385576792824 codeT, codeT, ⟨0, 0, 0, 0⟩, [topFrame ⟨0, 0, 0, 0⟩]⟩) := by kernel_rfl
theorem run_block (w : World) (os : OsState) : segRun treeTable pw w 11 (some (.ref 6)) 1 1 (shK 187 (oS_pre w.params) os) (blockOf (behindTheImports pw) envT codeT ⟨0, 0, 0, 0⟩ [topFrame ⟨0, 0, 0, 0⟩]) =
    some (.next, shK 187 (oS_pre w.params) os, codeT, ⟨0, 0, 0, 0⟩) := by kernel_rfl
theorem run_p5 (w : World) (os : OsState) : segF w 658 (stK 15 187 (oS_pre w.params) os) (thT (lT 0 6) ⟨0, 0, 0, 0⟩) = some (.next, shK 294 (oS_p5 w.params) os, codeT, ⟨26, 0, 29, 60⟩) := by kernel_rfl
theorem run_p6 (w : World) (os : OsState) : segF w 754 (stK 99 294 (oS_p5 w.params) os) (thT (lT 6 1) ⟨26, 0, 29, 60⟩) = some (.next, shK 420 (oS_p6 w.params) os, codeT, ⟨30, 0, 78, 39⟩) := by kernel_rfl
theorem run_p7 (w : World) (os : OsState) : segF w 559 (stK 204 420 (oS_p6 w.params) os) (thT (lT 7 1) ⟨30, 0, 78, 39⟩) = some (.next, shK 518 (oS_p7 w.params) os, codeT, ⟨79, 0, 114, 19⟩) := by kernel_rfl
theorem run_p8 (w : World) (os : OsState) : segF w 747 (stK 293 518 (oS_p7 w.params) os) (thT (lT 8 1) ⟨79, 0, 114, 19⟩) = some (.next, shK 673 (oS_p8 w.params) os, codeT, ⟨115, 0, 202, 78⟩) := by kernel_rfl
theorem run_fin (w : World) (os : OsState) : segF w 887 (stK 423 673 (oS_p8 w.params) os) (thT (lT 9 19) ⟨115, 0, 202, 78⟩) = some (.next, shK 864 (oS_fin w.params) os, codeT, ⟨336, 0, 371, 15⟩) := by kernel_rfl
theorem run_end (w : World) (os : OsState) : topRun treeTable pw w 11 (some (.ref 6)) 2 (shK 864 (oS_fin w.params) os) ⟨doneF .next, codeT, ⟨336, 0, 371, 15⟩, [topFrame ⟨0, 0, 0, 0⟩]⟩ = some (shK 864 (oS_fin w.params) os) := by kernel_rfl
theorem cut_body : behindTheImports pw = lT 0 6 ++ (lT 6 1 ++ (lT 7 1 ++ (lT 8 1 ++ (lT 9 19 ++ [])))) := by kernel_rfl
theorem looks_a (w : World) (os : OsState) : (staticsOk (PySem.W.Fast.tw5923862056798008813 pw.main.body) (boot_heap w.params) (shK 864 (oS_fin w.params) os).heap && namesBound pw (shK 864 (oS_fin w.params) os).heap) = true := by kernel_rfl
theorem looks_b (w : World) (os : OsState) : (gensDone (shK 864 (oS_fin w.params) os) && laidKept (boot_heap w.params) (shK 864 (oS_fin w.params) os).heap) = true := by kernel_rfl
noncomputable def opS (w : World) (os : OsState) := PySem.W.Fast.tw4187177175401517315 vw loose (PySem.W.Fast.tw5923862056798008813 pw.main.body) (fun s => xlAt vw [] s && recOk (RowW.records PySem.Challenge.rw_an0015_01.row.toRowW) s) true (shK 864 (oS_fin w.params) os)
theorem looks_c0 (w : World) (os : OsState) : (opS w os).1 = expectedOf vw := by kernel_rfl
theorem looks_c1 (w : World) (os : OsState) : (opS w os).2.1 = bltViewBooted := by kernel_rfl
theorem looks_c2 (w : World) (os : OsState) : (opS w os).2.2.1 = true := by kernel_rfl
theorem looks_c3 (w : World) (os : OsState) : (opS w os).2.2.2.1 = true := by kernel_rfl
theorem looks_c4 (w : World) (os : OsState) : (opS w os).2.2.2.2.1 = pinGoodD (drecsOf vw) := by kernel_rfl
theorem looks_c5 (w : World) (os : OsState) : (opS w os).2.2.2.2.2.1 = plainGoodE vw (looseW vw loose) := by kernel_rfl
theorem looks_c6 (w : World) (os : OsState) : (opS w os).2.2.2.2.2.2.1 = plainGoodD vw loose := by kernel_rfl
theorem looks_c7 (w : World) (os : OsState) : (opS w os).2.2.2.2.2.2.2.1 = wideGood vw := by kernel_rfl
theorem looks_c8 (w : World) (os : OsState) : (opS w os).2.2.2.2.2.2.2.2 = clsGoodW vw loose := by kernel_rfl
theorem looks_d (w : World) (os : OsState) : hook.obs (shK 864 (oS_fin w.params) os) = hook.val w := by kernel_rfl
theorem preT (w : World) (os : OsState) : topGo treeTable pw w 11 (some (.ref 6)) 12 ⟨boot_heap w.params, Array.mk [], boot_drawn, boot_toks, os⟩ (topStub pw) =
    some (shK 187 (oS_pre w.params) os, ⟨denote treeTable codeT, codeT, ⟨0, 0, 0, 0⟩, [topFrame ⟨0, 0, 0, 0⟩]⟩) := by
  have h := run_pre w os
  rw [← PySem.W.Fast.te15667345088766844465, ← PySem.W.Fast.te11892475500146522536, ← PySem.W.Fast.te14364793385576792824] at h
  exact h
theorem run_all (w : World) (os : OsState) : topRun treeTable pw w 11 (some (.ref 6)) (12 + (1 + (658 + (754 + (559 + (747 + (887 + 2))))))) ⟨boot_heap w.params, Array.mk [], boot_drawn, boot_toks, os⟩ (topStub pw) = some (shK 864 (oS_fin w.params) os) := by
  refine go_top (preT w os) (piece_block (run_block w os) ?_)
  rw [cut_body]
  exact piece_app (seg_of (run_p5 w os) (ab_pre w.params os)) (piece_app (seg_of (run_p6 w os) (ab_p5 w.params os)) (piece_app (seg_of (run_p7 w os) (ab_p6 w.params os)) (piece_app (seg_of (run_p8 w os) (ab_p7 w.params os)) (piece_app (seg_of (run_fin w os) (ab_p8 w.params os)) (piece_nil (run_end w os))))))
theorem left_law : LeftO pw vw loose (fun s => xlAt vw [] s && recOk (RowW.records PySem.Challenge.rw_an0015_01.row.toRowW) s) hook.obs hook.val 7326 := by
  refine LeftO.of_pieces (H₀ := fun P => boot_heap P) (H₁ := fun P => ⟨Array.mk (oS_fin P), {}⟩) (gs₀ := Array.mk []) (gs₁ := Array.mk []) (d₀ := boot_drawn) (d₁ := {}) (k₀ := boot_toks) (k₁ := 864) (m₀ := 11) (ann := some (.ref 6)) (M := 12 + (1 + (658 + (754 + (559 + (747 + (887 + 2)))))))
    (boot_open (by kernel_rfl) (by decide +kernel) (fun s => by kernel_rfl)) (fun w => by kernel_rfl) run_all (by decide +kernel) fun w => ?_
  funext os
  have a := looks_a w os
  have b := looks_b w os
  have c : opS w os = openGood vw loose := Prod.ext (looks_c0 w os) (Prod.ext (looks_c1 w os) (Prod.ext (looks_c2 w os) (Prod.ext (looks_c3 w os) (Prod.ext (looks_c4 w os) (Prod.ext (looks_c5 w os) (Prod.ext (looks_c6 w os) (Prod.ext (looks_c7 w os) (looks_c8 w os))))))))
  unfold opS at c
  rw [← PySem.W.Fast.te5923862056798008813] at a c
  rw [← PySem.W.Fast.te4187177175401517315] at c
  refine Prod.ext ?_ (Prod.ext c (looks_d w os))
  show (staticsOk _ _ _ && namesBound _ _ && gensDone _ && laidKept _ _) = true
  rw [Bool.and_assoc]
  exact (Bool.and_eq_true _ _).mpr ⟨a, b⟩
end
section
structure Pg (c : Cx) : Prop where
  hK : c.K = heapK c.w.params

noncomputable abbrev cN : Addr := 66
noncomputable abbrev cT : Addr := 201
noncomputable abbrev cL : Addr := 290
noncomputable abbrev cC : Addr := 418
noncomputable abbrev cI : Addr := 491

section
variable {c : Cx}
theorem okN (P : Pg c) : ClsOk c cN := ⟨by rw [P.hK]; kernel_rfl, by rw [P.hK]; kernel_rfl, by rw [P.hK]; kernel_rfl, by rw [P.hK]; kernel_rfl, by rw [P.hK]; kernel_rfl⟩
theorem okT (P : Pg c) : ClsOk c cT := ⟨by rw [P.hK]; kernel_rfl, by rw [P.hK]; kernel_rfl, by rw [P.hK]; kernel_rfl, by rw [P.hK]; kernel_rfl, by rw [P.hK]; kernel_rfl⟩
theorem okL (P : Pg c) : ClsOk c cL := ⟨by rw [P.hK]; kernel_rfl, by rw [P.hK]; kernel_rfl, by rw [P.hK]; kernel_rfl, by rw [P.hK]; kernel_rfl, by rw [P.hK]; kernel_rfl⟩
theorem okC (P : Pg c) : ClsOk c cC := ⟨by rw [P.hK]; kernel_rfl, by rw [P.hK]; kernel_rfl, by rw [P.hK]; kernel_rfl, by rw [P.hK]; kernel_rfl, by rw [P.hK]; kernel_rfl⟩
theorem okI (P : Pg c) : ClsOk c cI := ⟨by rw [P.hK]; kernel_rfl, by rw [P.hK]; kernel_rfl, by rw [P.hK]; kernel_rfl, by rw [P.hK]; kernel_rfl, by rw [P.hK]; kernel_rfl⟩
theorem isN (P : Pg c) : ClsIs c cN := ⟨by rw [P.hK]; kernel_rfl, by rw [P.hK]; kernel_rfl, by rw [P.hK]; kernel_rfl, by rw [P.hK]; kernel_rfl, by rw [P.hK]; kernel_rfl, by rw [P.hK]; kernel_rfl⟩
theorem isT (P : Pg c) : ClsIs c cT := ⟨by rw [P.hK]; kernel_rfl, by rw [P.hK]; kernel_rfl, by rw [P.hK]; kernel_rfl, by rw [P.hK]; kernel_rfl, by rw [P.hK]; kernel_rfl, by rw [P.hK]; kernel_rfl⟩
theorem isL (P : Pg c) : ClsIs c cL := ⟨by rw [P.hK]; kernel_rfl, by rw [P.hK]; kernel_rfl, by rw [P.hK]; kernel_rfl, by rw [P.hK]; kernel_rfl, by rw [P.hK]; kernel_rfl, by rw [P.hK]; kernel_rfl⟩
theorem one_NN (P : Pg c) : kitOne c.K (.ref cN) (.ref cN) = some true := by rw [P.hK]; kernel_rfl
theorem one_sN (P : Pg c) : kitOne c.K (.type "str") (.ref cN) = some false := by rw [P.hK]; kernel_rfl
theorem one_LL (P : Pg c) : kitOne c.K (.ref cL) (.ref cL) = some true := by rw [P.hK]; kernel_rfl
theorem one_TL (P : Pg c) : kitOne c.K (.ref cT) (.ref cL) = some false := by rw [P.hK]; kernel_rfl
theorem one_int (P : Pg c) : kitOne c.K (.type "int") (.type "int") = some true := by rw [P.hK]; kernel_rfl
theorem one_str (P : Pg c) : kitOne c.K (.type "str") (.type "str") = some true := by rw [P.hK]; kernel_rfl
theorem one_bool (P : Pg c) : kitOne c.K (.type "bool") (.type "bool") = some true := by rw [P.hK]; kernel_rfl
end
end
section
section
variable {c : Cx}
theorem g_key (P : Pg c) : nsIn c.K mainGlobals "_key" = some (some (.ref 77)) := by rw [P.hK]; kernel_rfl
theorem g_plain (P : Pg c) : nsIn c.K mainGlobals "_plain" = some (some (.ref 428)) := by rw [P.hK]; kernel_rfl
theorem g_attribute (P : Pg c) : nsIn c.K mainGlobals "_attribute" = some (some (.ref 435)) := by rw [P.hK]; kernel_rfl
theorem g_Nonterminal (P : Pg c) : nsIn c.K mainGlobals "Nonterminal" = some (some (.ref 66)) := by rw [P.hK]; kernel_rfl
theorem g_TreeEdge (P : Pg c) : nsIn c.K mainGlobals "TreeEdge" = some (some (.ref 201)) := by rw [P.hK]; kernel_rfl
theorem g_LeafEdge (P : Pg c) : nsIn c.K mainGlobals "LeafEdge" = some (some (.ref 290)) := by rw [P.hK]; kernel_rfl
theorem g_Chart (P : Pg c) : nsIn c.K mainGlobals "Chart" = some (some (.ref 418)) := by rw [P.hK]; kernel_rfl
theorem g_IncrementalChart (P : Pg c) : nsIn c.K mainGlobals "IncrementalChart" = some (some (.ref 491)) := by rw [P.hK]; kernel_rfl
theorem g_bodies (P : Pg c) : nsIn c.K mainGlobals "_law_bodies" = some (some (.ref 501)) := by rw [P.hK]; kernel_rfl
theorem g_bits (P : Pg c) : nsIn c.K mainGlobals "_law_bits" = some (some (.ref 509)) := by rw [P.hK]; kernel_rfl
theorem g_draw (P : Pg c) : nsIn c.K mainGlobals "_law_draw" = some (some (.ref 516)) := by rw [P.hK]; kernel_rfl
theorem g_sign (P : Pg c) : nsIn c.K mainGlobals "_law_sign" = some (some (.ref 523)) := by rw [P.hK]; kernel_rfl
theorem g_make (P : Pg c) : nsIn c.K mainGlobals "_law_make" = some (some (.ref 528)) := by rw [P.hK]; kernel_rfl
theorem g_number (P : Pg c) : nsIn c.K mainGlobals "_law_number" = some (some (.ref 535)) := by rw [P.hK]; kernel_rfl
theorem g_mark (P : Pg c) : nsIn c.K mainGlobals "_law_mark" = some (some (.ref 542)) := by rw [P.hK]; kernel_rfl
theorem g_read (P : Pg c) : nsIn c.K mainGlobals "_law_read" = some (some (.ref 547)) := by rw [P.hK]; kernel_rfl
theorem g_values (P : Pg c) : nsIn c.K mainGlobals "_law_values" = some (some (.ref 554)) := by rw [P.hK]; kernel_rfl
theorem g_selected (P : Pg c) : nsIn c.K mainGlobals "_law_selected" = some (some (.ref 559)) := by rw [P.hK]; kernel_rfl
theorem bb_len : bootBuiltins "len" = some (.builtin "len") := by kernel_rfl
theorem bb_tuple : bootBuiltins "tuple" = some (.type "tuple") := by kernel_rfl
theorem bb_list : bootBuiltins "list" = some (.type "list") := by kernel_rfl
theorem bb_range : bootBuiltins "range" = some (.type "range") := by kernel_rfl
theorem bb_sorted : bootBuiltins "sorted" = some (.builtin "sorted") := by kernel_rfl
theorem bb_isinstance : bootBuiltins "isinstance" = some (.builtin "isinstance") := by kernel_rfl
theorem bb_int : bootBuiltins "int" = some (.type "int") := by kernel_rfl
theorem bb_str : bootBuiltins "str" = some (.type "str") := by kernel_rfl
theorem bb_bool : bootBuiltins "bool" = some (.type "bool") := by kernel_rfl
theorem g_tokens (P : Pg c) : nsIn c.K mainGlobals "_law_tokens" = some (some (.ref 494)) := by rw [P.hK]; kernel_rfl
theorem g_keys (P : Pg c) : nsIn c.K mainGlobals "_law_keys" = some (some (.ref 502)) := by rw [P.hK]; kernel_rfl
theorem g_ATTR (P : Pg c) : nsIn c.K mainGlobals "_ATTRIBUTES" = some (some (.ref 423)) := by rw [P.hK]; kernel_rfl
theorem b_len (P : Pg c) : nsIn c.K mainGlobals "len" = some none := by rw [P.hK]; kernel_rfl
theorem b_tuple (P : Pg c) : nsIn c.K mainGlobals "tuple" = some none := by rw [P.hK]; kernel_rfl
theorem b_list (P : Pg c) : nsIn c.K mainGlobals "list" = some none := by rw [P.hK]; kernel_rfl
theorem b_range (P : Pg c) : nsIn c.K mainGlobals "range" = some none := by rw [P.hK]; kernel_rfl
theorem b_sorted (P : Pg c) : nsIn c.K mainGlobals "sorted" = some none := by rw [P.hK]; kernel_rfl
theorem b_isinstance (P : Pg c) : nsIn c.K mainGlobals "isinstance" = some none := by rw [P.hK]; kernel_rfl
theorem b_int (P : Pg c) : nsIn c.K mainGlobals "int" = some none := by rw [P.hK]; kernel_rfl
theorem b_str (P : Pg c) : nsIn c.K mainGlobals "str" = some none := by rw [P.hK]; kernel_rfl
theorem b_bool (P : Pg c) : nsIn c.K mainGlobals "bool" = some none := by rw [P.hK]; kernel_rfl
theorem b_enumerate (P : Pg c) : nsIn c.K mainGlobals "enumerate" = some none := by rw [P.hK]; kernel_rfl
theorem r_tokens (P : Pg c) : Rep c.B (.flst [.str "x", .str "y", .str "x"]) (.ref 494) := by
  have h := c.X 494
  rw [P.hK] at h
  exact .flst (h _ rfl) rfl rfl (.cons (.str _ _ (strOk_of _)) (.cons (.str _ _ (strOk_of _)) (.cons (.str _ _ (strOk_of _)) (.nil))))
theorem r_keys (P : Pg c) : Rep c.B (.flst [.str "start", .str "length", .str "lhs", .str "is_complete", .str "nextsym", .str "dot", .str "span", .str "end", .str "rhs", .str "is_incomplete"]) (.ref 502) := by
  have h := c.X 502
  rw [P.hK] at h
  exact .flst (h _ rfl) rfl rfl (.cons (.str _ _ (strOk_of _)) (.cons (.str _ _ (strOk_of _)) (.cons (.str _ _ (strOk_of _)) (.cons (.str _ _ (strOk_of _)) (.cons (.str _ _ (strOk_of _)) (.cons (.str _ _ (strOk_of _)) (.cons (.str _ _ (strOk_of _)) (.cons (.str _ _ (strOk_of _)) (.cons (.str _ _ (strOk_of _)) (.cons (.str _ _ (strOk_of _)) (.nil)))))))))))
theorem r_ATTR (P : Pg c) : Rep c.B (.flst [.str "span", .str "start", .str "end", .str "length", .str "lhs", .str "rhs", .str "nextsym", .str "dot", .str "is_complete", .str "is_incomplete"]) (.ref 423) := by
  have h := c.X 423
  rw [P.hK] at h
  exact .flst (h _ rfl) rfl rfl (.cons (.str _ _ (strOk_of _)) (.cons (.str _ _ (strOk_of _)) (.cons (.str _ _ (strOk_of _)) (.cons (.str _ _ (strOk_of _)) (.cons (.str _ _ (strOk_of _)) (.cons (.str _ _ (strOk_of _)) (.cons (.str _ _ (strOk_of _)) (.cons (.str _ _ (strOk_of _)) (.cons (.str _ _ (strOk_of _)) (.cons (.str _ _ (strOk_of _)) (.nil)))))))))))
end
end
theorem lenS {vs : List Value} {k : Nat} (h : vs.length = k + 1) : ∃ a r, vs = a :: r ∧ r.length = k := by
  cases vs with
  | nil => cases h
  | cons a r => exact ⟨a, r, rfl, Nat.succ.inj h⟩
theorem len0 {vs : List Value} {l : List V} (h : vs.length = l.length) (hl : l.length = 0 := by rfl) : ∃ _ : True, vs = [] := ⟨trivial, List.eq_nil_of_length_eq_zero (h.trans hl)⟩
theorem len1 {vs : List Value} {l : List V} (h : vs.length = l.length) (hl : l.length = 1 := by rfl) : ∃ a0, vs = [a0] := by
  obtain ⟨a, r, rfl, q⟩ := lenS (h.trans hl)
  cases List.eq_nil_of_length_eq_zero q
  exact ⟨a, rfl⟩
theorem len2 {vs : List Value} {l : List V} (h : vs.length = l.length) (hl : l.length = 2 := by rfl) : ∃ a0 a1, vs = [a0, a1] := by
  obtain ⟨a, r, rfl, q⟩ := lenS (h.trans hl)
  obtain ⟨a1, rfl⟩ := len1 (l := [V.none]) q
  exact ⟨a, a1, rfl⟩
theorem len3 {vs : List Value} {l : List V} (h : vs.length = l.length) (hl : l.length = 3 := by rfl) : ∃ a0 a1 a2, vs = [a0, a1, a2] := by
  obtain ⟨a, r, rfl, q⟩ := lenS (h.trans hl)
  obtain ⟨a1, a2, rfl⟩ := len2 (l := [V.none, V.none]) q
  exact ⟨a, a1, a2, rfl⟩
theorem len4 {vs : List Value} {l : List V} (h : vs.length = l.length) (hl : l.length = 4 := by rfl) : ∃ a0 a1 a2 a3, vs = [a0, a1, a2, a3] := by
  obtain ⟨a, r, rfl, q⟩ := lenS (h.trans hl)
  obtain ⟨a1, a2, a3, rfl⟩ := len3 (l := [V.none, V.none, V.none]) q
  exact ⟨a, a1, a2, a3, rfl⟩
theorem len5 {vs : List Value} {l : List V} (h : vs.length = l.length) (hl : l.length = 5 := by rfl) : ∃ a0 a1 a2 a3 a4, vs = [a0, a1, a2, a3, a4] := by
  obtain ⟨a, r, rfl, q⟩ := lenS (h.trans hl)
  obtain ⟨a1, a2, a3, a4, rfl⟩ := len4 (l := [V.none, V.none, V.none, V.none]) q
  exact ⟨a, a1, a2, a3, a4, rfl⟩

inductive Sg where
  | n (s : Str)
  | t (s : Str)
noncomputable def nt (s : Str) : V := .inst cN ["_symbol"] [.str s]
noncomputable def Sg.v : Sg → V
  | .n s => nt s
  | .t s => .str s
noncomputable def Sg.k : Sg → V
  | .n s => .tup [.str "N", .str s]
  | .t s => .tup [.str "T", .str s]
theorem Sg.ne (g : Sg) (i : String) : g.v ≠ .val (.builtin i) := by cases g <;> intro e <;> cases e
local macro_rules | `(tactic| tm_at "u") => `(tactic| with_unfolding_all rfl)
local macro_rules | `(tactic| tm_at "k") => `(tactic| with_reducible first | exact kind_fn (by assumption) (by tm_at "u") | exact kind_comp (by tm_at "u"))
local macro_rules | `(tactic| tm_at "l") => `(tactic| with_reducible first | exact look_hd | exact look_tl (by decide +kernel) (by tm_at "l") | exact inner_look (by tm_at "u") (by tm_at "l"))
local macro_rules | `(tactic| tm_at "g") => `(tactic| with_reducible first | exact g_key (by assumption) | exact g_plain (by assumption) | exact g_attribute (by assumption) | exact g_Nonterminal (by assumption) | exact g_TreeEdge (by assumption) | exact g_LeafEdge (by assumption) | exact g_Chart (by assumption) | exact g_IncrementalChart (by assumption) | exact g_bodies (by assumption) | exact g_bits (by assumption) | exact g_draw (by assumption) | exact g_sign (by assumption) | exact g_make (by assumption) | exact g_number (by assumption) | exact g_mark (by assumption) | exact g_read (by assumption) | exact g_values (by assumption) | exact g_selected (by assumption))
local macro_rules | `(tactic| tm_at "gd") => `(tactic| with_reducible first | refine WE_glob (by tm_at "k") (g_tokens (by assumption)) (r_tokens (by assumption)) ?_ (by decide +kernel) | refine WE_glob (by tm_at "k") (g_keys (by assumption)) (r_keys (by assumption)) ?_ (by decide +kernel) | refine WE_glob (by tm_at "k") (g_ATTR (by assumption)) (r_ATTR (by assumption)) ?_ (by decide +kernel))
local macro_rules | `(tactic| tm_at "bt") => `(tactic| with_reducible first | exact b_len (by assumption) | exact b_tuple (by assumption) | exact b_list (by assumption) | exact b_range (by assumption) | exact b_sorted (by assumption) | exact b_isinstance (by assumption) | exact b_int (by assumption) | exact b_str (by assumption) | exact b_bool (by assumption))
local macro_rules | `(tactic| tm_at "bb") => `(tactic| with_reducible first | exact bb_len | exact bb_tuple | exact bb_list | exact bb_range | exact bb_sorted | exact bb_isinstance | exact bb_int | exact bb_str | exact bb_bool)
local macro_rules | `(tactic| tm_at "n") => `(tactic| first | with_reducible refine WE_name (by tm_at "l") ?_ | with_reducible refine WE_glob (by tm_at "k") (by tm_at "g") (Rep.val _) ?_ (by decide +kernel) | with_reducible refine WE_bt (by tm_at "k") (by tm_at "bt") (by tm_at "bb") ?_ (by decide +kernel) (by decide +kernel) | tm_at "gd")
local macro_rules | `(tactic| tm_at "we") => `(tactic| with_reducible first | refine WE_attr ?_ (by tm_at "u") | refine WE_sub ?_ | refine WE_call ?_ (by tm_at "u") (by tm_at "u") | refine WE_meth ?_ (by tm_at "u") ⟨_, by tm_at "u"⟩ | refine WE_bin ?_ | refine WE_cmp ?_ (by tm_at "u") | refine WE_int ?_ | refine WE_str ?_ | refine WE_none ?_ | refine WE_bool ?_ | refine WE_tup ?_ | refine WE_ife ?_ | refine WE_not ?_ | refine WE_and ?_)
local macro_rules | `(tactic| tm_at "wt") => `(tactic| with_reducible first | refine WT_cmp ?_ (by tm_at "u") | refine WT_not ?_ | refine WT_and ?_ | refine WT_or ?_ | refine WT_val ?_ (by tm_at "u"))
local macro_rules | `(tactic| tm_at "wb") => `(tactic| with_reducible first | refine WB_ret ?_ | refine WB_if ?_ | refine WB_assign (by assumption) (by tm_at "u") (by tm_at "u") ?_ | refine WB_setattr (by tm_at "u") (by tm_at "u") ?_ | refine WB_setitem (by tm_at "u") ?_ | refine then_nil ?_ | refine ret_nil ?_)
local macro_rules | `(tactic| tm_at "o2") => `(tactic| with_reducible first
  | refine O_add ?_ | refine O_sub ?_ | refine O_mod (by decide) ?_ | refine O_div (by decide) (by decide) ?_ | refine O_lt ?_ | refine O_ge ?_ | refine O_eq (by tm_at "u") (by tm_at "u") ?_ | refine O_ne (by tm_at "u") (by tm_at "u") ?_)
local macro_rules | `(tactic| tm_at "ws") => `(tactic| with_reducible first | refine WL_cons ?_ (by tm_at "u") | refine WL_nil ?_ | refine WK_cons ?_ | refine WK_nil ?_ | refine then_ret ?_ | refine ret_ret ?_ | refine O_truth ?_ | refine O_not ?_)
local macro_rules | `(tactic| tm_at "a") => `(tactic| first
  | ((with_reducible show WE _ _ _ _ _ _ _); first | tm_at "n" | tm_at "we")
  | ((with_reducible show WB _ _ _ _ _ _ _); tm_at "wb")
  | ((with_reducible show WT _ _ _ _ _ _ _); tm_at "wt")
  | tm_at "ws"
  | ((with_reducible show O2 _ _ _ _ _ _ _ _); tm_at "o2")
  | ((with_reducible show Kept _ _ ∧ _); with_reducible first | refine And.intro kept_type ?_ | refine And.intro kept_builtin ?_ | refine And.intro (kept_K (by rw [Pg.hK (by assumption)]; kernel_rfl)) ?_)
  | ((with_reducible show List.length _ ≤ _ ∧ _); refine And.intro (Nat.le_of_ble_eq_true (by tm_at "u")) ?_))
local macro_rules | `(tactic| tm_at "go") => `(tactic| repeat tm_at "a")
local macro_rules | `(tactic| tm_at "cls") => `(tactic| with_reducible first | exact okN (by assumption) | exact okT (by assumption) | exact okL (by assumption) | exact okC (by assumption) | exact okI (by assumption))
local macro_rules | `(tactic| tm_at "K") => `(tactic| (rw [Pg.hK (by assumption)]; kernel_rfl))
local macro_rules | `(tactic| tm_at "gi") => `(tactic| (refine O_get_inst (by tm_at "cls") (by tm_at "K") (by tm_at "u") (by intro i e; first | exact Sg.ne _ _ e | cases e) ?_))
local macro_rules | `(tactic| tm_at "mi") => `(tactic| (intro pl; refine O_meth_inst (by tm_at "cls") (by tm_at "K") (by tm_at "K") (by decide) ?_))
local macro_rules | `(tactic| tm_at "sp") => `(tactic| (refine O_setP (by tm_at "cls") (by tm_at "K") (by decide) (by decide) ?_))
local macro_rules | `(tactic| tm_at "cf") => `(tactic| first | exact compOk_no (by decide +kernel) (by decide +kernel) | exact compOk_fn (by assumption) (by decide +kernel) (by decide +kernel))
local macro_rules | `(tactic| tm_at "comp") => `(tactic| (with_reducible refine WE_comp (by tm_at "cf") ?_ (fun _ => by tm_at "u")))
local macro_rules | `(tactic| tm_at "drop") => `(tactic| (refine WB_drop (by unfold interactive; rw [EnvOk.scp (by assumption)]; rfl) rfl ?_))
section
variable {c : Cx} {n : Nat} {σ : Store} {K : V → Store → Prop}
theorem f_bits (P : Pg c) (q : K (.flst [.int 1, .int 2, .int 4, .int 8, .int 16, .int 32, .int 64, .int 128, .int 256, .int 512]) σ) : OCd c (n + 1) (.val (.ref 509)) [] [] [] σ K := by
  refine F_fn (bn := []) (by rw [P.hK]; rfl) rfl (by rw [P.hK]; rfl) rfl rfl rfl rfl rfl rfl rfl (by decide) (by decide) (fun s kk vs kvs h1 h2 => ?_) fun env O => ?_
  · obtain ⟨-, rfl⟩ := len0 h1
    obtain ⟨-, rfl⟩ := len0 h2
    exact BindsTo.of_eq rfl
  dsimp only [List.zip_cons_cons, List.zip_nil_left, List.zip_nil_right, List.cons_append, List.nil_append, List.append_nil]
  conv => arg 4; whnf
  tm_at "a"
  refine WE_listF ?_
  tm_at "go"
  exact q
theorem f_N_init (P : Pg c) {s : Str} {dx : Addr} (hd : σ dx = some (.ns [] [])) (q : K .none (put σ dx (.ns ["_symbol"] [.str s]))) : OCd c (n + 1) (.val (.ref 35)) [.mob cN dx, .str s] [] [] σ K := by
  refine F_fn (bn := ["self", "symbol"]) (by rw [P.hK]; rfl) rfl (by rw [P.hK]; rfl) rfl rfl rfl rfl rfl rfl rfl (by decide) (by decide) (fun s kk vs kvs h1 h2 => ?_) fun env O => ?_
  · obtain ⟨v0, v1, rfl⟩ := len2 h1
    obtain ⟨-, rfl⟩ := len0 h2
    exact BindsTo.of_eq rfl
  dsimp only [List.zip_cons_cons, List.zip_nil_left, List.zip_nil_right, List.cons_append, List.nil_append, List.append_nil]
  conv => arg 4; whnf
  tm_at "go"
  refine O_set (okN P) (by rw [P.hK]; kernel_rfl) hd (by simp) (by decide) ?_
  tm_at "go"
  exact q
theorem f_N (P : Pg c) {s : Str} (q : K (nt s) σ) : OCd c (n + 2) (.val (.ref cN)) [.str s] [] [] σ K :=
  OCd_clsF (okN P) (by rw [P.hK]; kernel_rfl) (by rw [P.hK]; kernel_rfl) fun dx hdx => f_N_init P (put_self _ _ _) ⟨rfl, _, _, put_self _ _ _, by rw [put_put, del_put hdx]; exact q⟩
theorem f_N_symbol (P : Pg c) {s : Str} (q : K (.str s) σ) : OCd c (n + 1) (.val (.ref 42)) [nt s] [] [] σ K := by
  refine F_fn (bn := ["self"]) (by rw [P.hK]; rfl) rfl (by rw [P.hK]; rfl) rfl rfl rfl rfl rfl rfl rfl (by decide) (by decide) (fun s kk vs kvs h1 h2 => ?_) fun env O => ?_
  · obtain ⟨v0, rfl⟩ := len1 h1
    obtain ⟨-, rfl⟩ := len0 h2
    exact BindsTo.of_eq rfl
  dsimp only [List.zip_cons_cons, List.zip_nil_left, List.zip_nil_right, List.cons_append, List.nil_append, List.append_nil]
  conv => arg 4; whnf
  tm_at "go"
  refine O_get_inst (okN P) (by rw [P.hK]; kernel_rfl) rfl (fun i e => nomatch e) ?_
  tm_at "go"
  exact q
theorem f_key (P : Pg c) {g : Sg} (q : K g.k σ) : OCd c (n + 1) (.val (.ref 77)) [g.v] [] [] σ K := by
  refine F_fn (bn := ["item"]) (by rw [P.hK]; rfl) rfl (by rw [P.hK]; rfl) rfl rfl rfl rfl rfl rfl rfl (by decide) (by decide) (fun s kk vs kvs h1 h2 => ?_) fun env O => ?_
  · obtain ⟨v0, rfl⟩ := len1 h1
    obtain ⟨-, rfl⟩ := len0 h2
    exact BindsTo.of_eq rfl
  dsimp only [List.zip_cons_cons, List.zip_nil_left, List.zip_nil_right, List.cons_append, List.nil_append, List.append_nil]
  conv => arg 4; whnf
  tm_at "go"
  cases g with
  | n s =>
    refine C_isi_inst (isN P) (one_NN P) ?_
    tm_at "go"
    refine ⟨fun _ => ?_, fun h => (by cases h)⟩
    tm_at "go"
    refine O_get_inst (okN P) (by rw [P.hK]; kernel_rfl) rfl (fun i e => nomatch e) ?_
    tm_at "go"
    exact q
  | t s =>
    refine C_isi (T := "str") rfl (one_sN P) ?_
    tm_at "go"
    refine ⟨fun h => (by cases h), fun _ => ?_⟩
    tm_at "go"
    exact q
end
section
inductive Ed where
  | leaf (s : Str) (i : Int)
  | tree (lhs : Sg) (rhs : List Sg) (lo hi dot : Int)
noncomputable def Ed.ck : Ed → V
  | .leaf s i => .tup [.str "leaf", .str s, .int i]
  | .tree l r lo hi d => .tup [.str "tree", .tup [.int lo, .int hi], l.k, .tup (r.map Sg.k), .int d]
noncomputable def Ed.obj : Ed → V
  | .leaf s i => .inst cL ["_leaf", "_index", "_comparison_key"] [.str s, .int i, (Ed.leaf s i).ck]
  | .tree l r lo hi d => .inst cT ["_span", "_lhs", "_rhs", "_dot", "_comparison_key"] [.tup [.int lo, .int hi], l.v, .tup (r.map Sg.v), .int d, (Ed.tree l r lo hi d).ck]
noncomputable def Ed.lhs : Ed → Sg
  | .leaf s _ => .t s
  | .tree l _ _ _ _ => l
noncomputable def Ed.rhs : Ed → List Sg
  | .leaf _ _ => []
  | .tree _ r _ _ _ => r
noncomputable def Ed.lo : Ed → Int
  | .leaf _ i => i
  | .tree _ _ lo _ _ => lo
noncomputable def Ed.hi : Ed → Int
  | .leaf _ i => i + 1
  | .tree _ _ _ hi _ => hi
noncomputable def Ed.dot : Ed → Int
  | .leaf _ _ => 0
  | .tree _ _ _ _ d => d
noncomputable def Ed.done (e : Ed) : Bool := e.dot == (e.rhs.length : Int)
noncomputable def Ed.ok (e : Ed) : Prop := 0 ≤ e.dot ∧ e.dot ≤ e.rhs.length ∧ e.rhs.length ≤ 100
noncomputable def Ed.next (e : Ed) : Option Sg := e.rhs[e.dot.toNat]?
noncomputable def ov : Option Sg → V
  | none => .none
  | some g => g.v
noncomputable def ok' : Option Sg → V
  | none => .none
  | some g => g.k
section
variable {c : Cx} {n : Nat} {σ σ₀ : Store} {K : V → Store → Prop}

theorem keys_turns (P : Pg c) {env : Env} {loc : Loc} {scope : Scope} {elt : Expr} {K : V → Store → Prop} {r : List Sg} {v : V} (hv : v = .tup (r.map Sg.v) ∨ v = .flst (r.map Sg.v)) (hr : r.length ≤ 100)
    (step : ∀ C g σ' (K' : V → Store → Prop), K' (Sg.k g) σ' → WE c n (compEnvC scope (closL env scope.names []) C env) elt (("item", g.v) :: inner scope loc) σ' K')
    (q : K (.flst (r.map Sg.k)) σ) : Turns c n env loc scope "item" [] elt v σ K := by
  have it : OIter c n v (r.map Sg.v) σ none := by rcases hv with rfl | rfl; exact Iter_tup _; exact Iter_flst _
  refine ⟨_, none, it, by rw [List.length_map]; omega, fun i acc σ' => σ' = σ ∧ acc = (r.take i).map Sg.k, ⟨rfl, rfl⟩, fun C i y acc σ' hy hi => ⟨fun _ => ?_, fun h => by cases h⟩, fun acc σ' hi => ?_⟩
  · obtain ⟨rfl, rfl⟩ := hi
    rw [List.getElem?_map, Option.map_eq_some_iff] at hy
    obtain ⟨g, hg, rfl⟩ := hy
    exact step C g σ' _ ⟨rfl, by rw [List.take_add_one, hg]; simp⟩
  · obtain ⟨rfl, rfl⟩ := hi
    rw [List.length_map, List.take_length]
    exact q
theorem f_T_init (P : Pg c) {l : Sg} {r : List Sg} {rv : V} {lo hi d : Int} {dx : Addr} {args kargs : List V} {kn : List Str} (ha : (args = [.tup [.int lo, .int hi], l.v, rv, .int d] ∧ kn = [] ∧ kargs = []) ∨ (args = [] ∧ kn = (["span", "lhs", "rhs", "dot"] : List Str) ∧ kargs = [.tup [.int lo, .int hi], l.v, rv, .int d]))
    (hrv : rv = .tup (r.map Sg.v) ∨ rv = .flst (r.map Sg.v)) (hr : r.length ≤ 100) (hd : σ = put σ₀ dx (.ns [] []))
    (q : K .none (put σ₀ dx (.ns ["_span", "_lhs", "_rhs", "_dot", "_comparison_key"] [.tup [.int lo, .int hi], l.v, .tup (r.map Sg.v), .int d, (Ed.tree l r lo hi d).ck]))) :
    OCd c (n + 2) (.val (.ref 111)) (.mob cT dx :: args) kn kargs σ K := by
  subst hd
  have body : ∀ env, EnvOk env (stS (sM 6 0)) → WB c (n + 1) env (stB (sM 6 0)) [("self", .mob cT dx), ("span", .tup [.int lo, .int hi]), ("lhs", l.v), ("rhs", rv), ("dot", .int d)] (put σ₀ dx (.ns [] [])) (Ret K) := fun env O => by
    conv => arg 4; whnf
    tm_at "go"
    tm_at "sp"
    tm_at "go"
    tm_at "sp"
    tm_at "go"
    have ct : ∀ {K : V → Store → Prop} {σ : Store}, K (.tup (r.map Sg.v)) σ → OC c (n + 1) (.val (.type "tuple")) [rv] [] [] σ K := fun k => by
      rcases hrv with rfl | rfl
      · exact C_tuple_tup k
      · exact C_tuple_flst (by rw [List.length_map]; omega) k
    refine ct ?_
    tm_at "go"
    tm_at "sp"
    tm_at "go"
    tm_at "sp"
    tm_at "go"
    refine (f_key P ?_).oc
    tm_at "go"
    tm_at "comp"
    tm_at "go"
    refine keys_turns P (.inl rfl) hr (fun C g σ' K' k => ?_) ?_
    · tm_at "go"
      refine (f_key P ?_).oc
      exact k
    tm_at "go"
    refine C_tuple_flst (by rw [List.length_map]; omega) ?_
    tm_at "go"
    tm_at "sp"
    tm_at "go"
    exact q
  rcases ha with ⟨rfl, rfl, rfl⟩ | ⟨rfl, rfl, rfl⟩
  · refine F_fn (bn := ["self", "span", "lhs", "rhs", "dot"]) (by rw [P.hK]; rfl) rfl (by rw [P.hK]; rfl) rfl rfl rfl rfl rfl rfl rfl (by decide) (by decide) (fun s kk vs kvs h1 h2 => ?_) body
    obtain ⟨v0, v1, v2, v3, v4, rfl⟩ := len5 h1 rfl
    obtain ⟨-, rfl⟩ := len0 h2 rfl
    exact binds_K (c.X.keeps kk) rfl (by rw [P.hK]; rfl) rfl rfl rfl
  · refine F_fn (bn := ["self", "span", "lhs", "rhs", "dot"]) (by rw [P.hK]; rfl) rfl (by rw [P.hK]; rfl) rfl rfl rfl rfl rfl rfl rfl (by decide) (by decide) (fun s kk vs kvs h1 h2 => ?_) body
    obtain ⟨v0, rfl⟩ := len1 h1 rfl
    obtain ⟨w0, w1, w2, w3, rfl⟩ := len4 h2 rfl
    exact binds_K (c.X.keeps kk) rfl (by rw [P.hK]; rfl) rfl rfl rfl
end
end
section
theorem veq_int {a b : Int} : veq (.int a) (.int b) = (a == b) := by unfold veq V.py PyData.eqv; rfl
section
variable {c : Cx} {n : Nat} {σ σ₀ : Store} {K : V → Store → Prop} {env : Env} {loc : Loc}
theorem f_T (P : Pg c) {l : Sg} {r : List Sg} {rv : V} {lo hi d : Int} {args kargs : List V} {kn : List Str} (ha : (args = [.tup [.int lo, .int hi], l.v, rv, .int d] ∧ kn = [] ∧ kargs = []) ∨ (args = [] ∧ kn = (["span", "lhs", "rhs", "dot"] : List Str) ∧ kargs = [.tup [.int lo, .int hi], l.v, rv, .int d]))
    (hrv : rv = .tup (r.map Sg.v) ∨ rv = .flst (r.map Sg.v)) (hr : r.length ≤ 100) (q : K (Ed.tree l r lo hi d).obj σ) : OCd c (n + 3) (.val (.ref cT)) args kn kargs σ K :=
  OCd_clsF (okT P) (by rw [P.hK]; kernel_rfl) (by rw [P.hK]; kernel_rfl) fun dx hdx => f_T_init P ha hrv hr rfl ⟨rfl, _, _, put_self _ _ _, by rw [del_put hdx]; exact q⟩
theorem f_L_init (P : Pg c) {s : Str} {i : Int} {dx : Addr} (hd : σ = put σ₀ dx (.ns [] []))
    (q : K .none (put σ₀ dx (.ns ["_leaf", "_index", "_comparison_key"] [.str s, .int i, (Ed.leaf s i).ck]))) : OCd c (n + 1) (.val (.ref 217)) [.mob cL dx, .str s, .int i] [] [] σ K := by
  subst hd
  refine F_fn (bn := ["self", "leaf", "index"]) (by rw [P.hK]; rfl) rfl (by rw [P.hK]; rfl) rfl rfl rfl rfl rfl rfl rfl (by decide) (by decide) (fun s kk vs kvs h1 h2 => ?_) fun env O => ?_
  · obtain ⟨v0, v1, v2, rfl⟩ := len3 h1
    obtain ⟨-, rfl⟩ := len0 h2
    exact BindsTo.of_eq rfl
  dsimp only [List.zip_cons_cons, List.zip_nil_left, List.zip_nil_right, List.cons_append, List.nil_append, List.append_nil]
  conv => arg 4; whnf
  tm_at "go"
  tm_at "sp"
  tm_at "go"
  tm_at "sp"
  tm_at "go"
  tm_at "sp"
  tm_at "go"
  exact q
theorem f_L (P : Pg c) {s : Str} {i : Int} (q : K (Ed.leaf s i).obj σ) : OCd c (n + 2) (.val (.ref cL)) [.str s, .int i] [] [] σ K :=
  OCd_clsF (okL P) (by rw [P.hK]; kernel_rfl) (by rw [P.hK]; kernel_rfl) fun dx hdx => f_L_init P rfl ⟨rfl, _, _, put_self _ _ _, by rw [del_put hdx]; exact q⟩
theorem m_lhs (P : Pg c) {e : Ed} {pos : Pos} (q : K e.lhs.v σ) : ∀ pl, O1 c (n + 1) (fun v => getMethod v "lhs" pl) RM e.obj σ fun fx σ1 => Kept c fx.1 ∧ WL c (n + 1) env pos [] loc σ1 fun vs σ2 => OC c (n + 1) fx.1 (fx.2 ++ vs) [] [] σ2 K := by
  cases e with
  | leaf s i =>
    intro pl
    refine O_meth_inst (f := 224) (by tm_at "cls") (by tm_at "K") (by tm_at "K") (by decide) ?_
    tm_at "go"
    refine OCd.oc ?_
    refine F_fn (bn := ["self"]) (by rw [P.hK]; rfl) rfl (by rw [P.hK]; rfl) rfl rfl rfl rfl rfl rfl rfl (by decide) (by decide) (fun s kk vs kvs h1 h2 => ?_) fun env O => ?_
    · obtain ⟨v0, rfl⟩ := len1 h1
      obtain ⟨-, rfl⟩ := len0 h2
      exact BindsTo.of_eq rfl
    dsimp only [List.zip_cons_cons, List.zip_nil_left, List.zip_nil_right, List.cons_append, List.nil_append, List.append_nil]
    conv => arg 4; whnf
    tm_at "go"
    tm_at "gi"
    tm_at "go"
    exact q
  | tree l r lo hi d =>
    intro pl
    refine O_meth_inst (f := 135) (by tm_at "cls") (by tm_at "K") (by tm_at "K") (by decide) ?_
    tm_at "go"
    refine OCd.oc ?_
    refine F_fn (bn := ["self"]) (by rw [P.hK]; rfl) rfl (by rw [P.hK]; rfl) rfl rfl rfl rfl rfl rfl rfl (by decide) (by decide) (fun s kk vs kvs h1 h2 => ?_) fun env O => ?_
    · obtain ⟨v0, rfl⟩ := len1 h1
      obtain ⟨-, rfl⟩ := len0 h2
      exact BindsTo.of_eq rfl
    dsimp only [List.zip_cons_cons, List.zip_nil_left, List.zip_nil_right, List.cons_append, List.nil_append, List.append_nil]
    conv => arg 4; whnf
    tm_at "go"
    tm_at "gi"
    tm_at "go"
    exact q
theorem m_span (P : Pg c) {e : Ed} {pos : Pos} (q : K (.tup [.int e.lo, .int e.hi]) σ) : ∀ pl, O1 c (n + 1) (fun v => getMethod v "span" pl) RM e.obj σ fun fx σ1 => Kept c fx.1 ∧ WL c (n + 1) env pos [] loc σ1 fun vs σ2 => OC c (n + 1) fx.1 (fx.2 ++ vs) [] [] σ2 K := by
  cases e with
  | leaf s i =>
    intro pl
    refine O_meth_inst (f := 231) (by tm_at "cls") (by tm_at "K") (by tm_at "K") (by decide) ?_
    tm_at "go"
    refine OCd.oc ?_
    refine F_fn (bn := ["self"]) (by rw [P.hK]; rfl) rfl (by rw [P.hK]; rfl) rfl rfl rfl rfl rfl rfl rfl (by decide) (by decide) (fun s kk vs kvs h1 h2 => ?_) fun env O => ?_
    · obtain ⟨v0, rfl⟩ := len1 h1
      obtain ⟨-, rfl⟩ := len0 h2
      exact BindsTo.of_eq rfl
    dsimp only [List.zip_cons_cons, List.zip_nil_left, List.zip_nil_right, List.cons_append, List.nil_append, List.append_nil]
    conv => arg 4; whnf
    tm_at "go"
    tm_at "gi"
    tm_at "go"
    tm_at "gi"
    tm_at "go"
    exact q
  | tree l r lo hi d =>
    intro pl
    refine O_meth_inst (f := 142) (by tm_at "cls") (by tm_at "K") (by tm_at "K") (by decide) ?_
    tm_at "go"
    refine OCd.oc ?_
    refine F_fn (bn := ["self"]) (by rw [P.hK]; rfl) rfl (by rw [P.hK]; rfl) rfl rfl rfl rfl rfl rfl rfl (by decide) (by decide) (fun s kk vs kvs h1 h2 => ?_) fun env O => ?_
    · obtain ⟨v0, rfl⟩ := len1 h1
      obtain ⟨-, rfl⟩ := len0 h2
      exact BindsTo.of_eq rfl
    dsimp only [List.zip_cons_cons, List.zip_nil_left, List.zip_nil_right, List.cons_append, List.nil_append, List.append_nil]
    conv => arg 4; whnf
    tm_at "go"
    tm_at "gi"
    tm_at "go"
    exact q
theorem m_start (P : Pg c) {e : Ed} {pos : Pos} (q : K (.int e.lo) σ) : ∀ pl, O1 c (n + 1) (fun v => getMethod v "start" pl) RM e.obj σ fun fx σ1 => Kept c fx.1 ∧ WL c (n + 1) env pos [] loc σ1 fun vs σ2 => OC c (n + 1) fx.1 (fx.2 ++ vs) [] [] σ2 K := by
  cases e with
  | leaf s i =>
    intro pl
    refine O_meth_inst (f := 238) (by tm_at "cls") (by tm_at "K") (by tm_at "K") (by decide) ?_
    tm_at "go"
    refine OCd.oc ?_
    refine F_fn (bn := ["self"]) (by rw [P.hK]; rfl) rfl (by rw [P.hK]; rfl) rfl rfl rfl rfl rfl rfl rfl (by decide) (by decide) (fun s kk vs kvs h1 h2 => ?_) fun env O => ?_
    · obtain ⟨v0, rfl⟩ := len1 h1
      obtain ⟨-, rfl⟩ := len0 h2
      exact BindsTo.of_eq rfl
    dsimp only [List.zip_cons_cons, List.zip_nil_left, List.zip_nil_right, List.cons_append, List.nil_append, List.append_nil]
    conv => arg 4; whnf
    tm_at "go"
    tm_at "gi"
    tm_at "go"
    exact q
  | tree l r lo hi d =>
    intro pl
    refine O_meth_inst (f := 149) (by tm_at "cls") (by tm_at "K") (by tm_at "K") (by decide) ?_
    tm_at "go"
    refine OCd.oc ?_
    refine F_fn (bn := ["self"]) (by rw [P.hK]; rfl) rfl (by rw [P.hK]; rfl) rfl rfl rfl rfl rfl rfl rfl (by decide) (by decide) (fun s kk vs kvs h1 h2 => ?_) fun env O => ?_
    · obtain ⟨v0, rfl⟩ := len1 h1
      obtain ⟨-, rfl⟩ := len0 h2
      exact BindsTo.of_eq rfl
    dsimp only [List.zip_cons_cons, List.zip_nil_left, List.zip_nil_right, List.cons_append, List.nil_append, List.append_nil]
    conv => arg 4; whnf
    tm_at "go"
    tm_at "gi"
    tm_at "go"
    refine O_item_tup (by decide) (Nat.le_of_ble_eq_true rfl) rfl ?_ (fun _ _ _ => rfl)
    tm_at "go"
    exact q
theorem m_end (P : Pg c) {e : Ed} {pos : Pos} (q : K (.int e.hi) σ) : ∀ pl, O1 c (n + 1) (fun v => getMethod v "end" pl) RM e.obj σ fun fx σ1 => Kept c fx.1 ∧ WL c (n + 1) env pos [] loc σ1 fun vs σ2 => OC c (n + 1) fx.1 (fx.2 ++ vs) [] [] σ2 K := by
  cases e with
  | leaf s i =>
    intro pl
    refine O_meth_inst (f := 245) (by tm_at "cls") (by tm_at "K") (by tm_at "K") (by decide) ?_
    tm_at "go"
    refine OCd.oc ?_
    refine F_fn (bn := ["self"]) (by rw [P.hK]; rfl) rfl (by rw [P.hK]; rfl) rfl rfl rfl rfl rfl rfl rfl (by decide) (by decide) (fun s kk vs kvs h1 h2 => ?_) fun env O => ?_
    · obtain ⟨v0, rfl⟩ := len1 h1
      obtain ⟨-, rfl⟩ := len0 h2
      exact BindsTo.of_eq rfl
    dsimp only [List.zip_cons_cons, List.zip_nil_left, List.zip_nil_right, List.cons_append, List.nil_append, List.append_nil]
    conv => arg 4; whnf
    tm_at "go"
    tm_at "gi"
    tm_at "go"
    exact q
  | tree l r lo hi d =>
    intro pl
    refine O_meth_inst (f := 156) (by tm_at "cls") (by tm_at "K") (by tm_at "K") (by decide) ?_
    tm_at "go"
    refine OCd.oc ?_
    refine F_fn (bn := ["self"]) (by rw [P.hK]; rfl) rfl (by rw [P.hK]; rfl) rfl rfl rfl rfl rfl rfl rfl (by decide) (by decide) (fun s kk vs kvs h1 h2 => ?_) fun env O => ?_
    · obtain ⟨v0, rfl⟩ := len1 h1
      obtain ⟨-, rfl⟩ := len0 h2
      exact BindsTo.of_eq rfl
    dsimp only [List.zip_cons_cons, List.zip_nil_left, List.zip_nil_right, List.cons_append, List.nil_append, List.append_nil]
    conv => arg 4; whnf
    tm_at "go"
    tm_at "gi"
    tm_at "go"
    refine O_item_tup (by decide) (Nat.le_of_ble_eq_true rfl) rfl ?_ (fun _ _ _ => rfl)
    tm_at "go"
    exact q
theorem m_length (P : Pg c) {e : Ed} {pos : Pos} (q : K (.int (e.hi - e.lo)) σ) : ∀ pl, O1 c (n + 1) (fun v => getMethod v "length" pl) RM e.obj σ fun fx σ1 => Kept c fx.1 ∧ WL c (n + 1) env pos [] loc σ1 fun vs σ2 => OC c (n + 1) fx.1 (fx.2 ++ vs) [] [] σ2 K := by
  cases e with
  | leaf s i =>
    intro pl
    refine O_meth_inst (f := 252) (by tm_at "cls") (by tm_at "K") (by tm_at "K") (by decide) ?_
    tm_at "go"
    refine OCd.oc ?_
    refine F_fn (bn := ["self"]) (by rw [P.hK]; rfl) rfl (by rw [P.hK]; rfl) rfl rfl rfl rfl rfl rfl rfl (by decide) (by decide) (fun s kk vs kvs h1 h2 => ?_) fun env O => ?_
    · obtain ⟨v0, rfl⟩ := len1 h1
      obtain ⟨-, rfl⟩ := len0 h2
      exact BindsTo.of_eq rfl
    dsimp only [List.zip_cons_cons, List.zip_nil_left, List.zip_nil_right, List.cons_append, List.nil_append, List.append_nil]
    conv => arg 4; whnf
    tm_at "go"
    have : (1 : Int) = (Ed.leaf s i).hi - (Ed.leaf s i).lo := by show (1 : Int) = i + 1 - i; omega
    rw [this]; exact q
  | tree l r lo hi d =>
    intro pl
    refine O_meth_inst (f := 163) (by tm_at "cls") (by tm_at "K") (by tm_at "K") (by decide) ?_
    tm_at "go"
    refine OCd.oc ?_
    refine F_fn (bn := ["self"]) (by rw [P.hK]; rfl) rfl (by rw [P.hK]; rfl) rfl rfl rfl rfl rfl rfl rfl (by decide) (by decide) (fun s kk vs kvs h1 h2 => ?_) fun env O => ?_
    · obtain ⟨v0, rfl⟩ := len1 h1
      obtain ⟨-, rfl⟩ := len0 h2
      exact BindsTo.of_eq rfl
    dsimp only [List.zip_cons_cons, List.zip_nil_left, List.zip_nil_right, List.cons_append, List.nil_append, List.append_nil]
    conv => arg 4; whnf
    tm_at "go"
    tm_at "gi"
    tm_at "go"
    refine O_item_tup (by decide) (Nat.le_of_ble_eq_true rfl) rfl ?_ (fun _ _ _ => rfl)
    tm_at "go"
    tm_at "gi"
    tm_at "go"
    refine O_item_tup (by decide) (Nat.le_of_ble_eq_true rfl) rfl ?_ (fun _ _ _ => rfl)
    tm_at "go"
    exact q
theorem m_rhs (P : Pg c) {e : Ed} {pos : Pos} (q : K (.tup (e.rhs.map Sg.v)) σ) : ∀ pl, O1 c (n + 1) (fun v => getMethod v "rhs" pl) RM e.obj σ fun fx σ1 => Kept c fx.1 ∧ WL c (n + 1) env pos [] loc σ1 fun vs σ2 => OC c (n + 1) fx.1 (fx.2 ++ vs) [] [] σ2 K := by
  cases e with
  | leaf s i =>
    intro pl
    refine O_meth_inst (f := 259) (by tm_at "cls") (by tm_at "K") (by tm_at "K") (by decide) ?_
    tm_at "go"
    refine OCd.oc ?_
    refine F_fn (bn := ["self"]) (by rw [P.hK]; rfl) rfl (by rw [P.hK]; rfl) rfl rfl rfl rfl rfl rfl rfl (by decide) (by decide) (fun s kk vs kvs h1 h2 => ?_) fun env O => ?_
    · obtain ⟨v0, rfl⟩ := len1 h1
      obtain ⟨-, rfl⟩ := len0 h2
      exact BindsTo.of_eq rfl
    dsimp only [List.zip_cons_cons, List.zip_nil_left, List.zip_nil_right, List.cons_append, List.nil_append, List.append_nil]
    conv => arg 4; whnf
    tm_at "go"
    exact q
  | tree l r lo hi d =>
    intro pl
    refine O_meth_inst (f := 170) (by tm_at "cls") (by tm_at "K") (by tm_at "K") (by decide) ?_
    tm_at "go"
    refine OCd.oc ?_
    refine F_fn (bn := ["self"]) (by rw [P.hK]; rfl) rfl (by rw [P.hK]; rfl) rfl rfl rfl rfl rfl rfl rfl (by decide) (by decide) (fun s kk vs kvs h1 h2 => ?_) fun env O => ?_
    · obtain ⟨v0, rfl⟩ := len1 h1
      obtain ⟨-, rfl⟩ := len0 h2
      exact BindsTo.of_eq rfl
    dsimp only [List.zip_cons_cons, List.zip_nil_left, List.zip_nil_right, List.cons_append, List.nil_append, List.append_nil]
    conv => arg 4; whnf
    tm_at "go"
    tm_at "gi"
    tm_at "go"
    exact q
theorem m_dot (P : Pg c) {e : Ed} {pos : Pos} (q : K (.int e.dot) σ) : ∀ pl, O1 c (n + 1) (fun v => getMethod v "dot" pl) RM e.obj σ fun fx σ1 => Kept c fx.1 ∧ WL c (n + 1) env pos [] loc σ1 fun vs σ2 => OC c (n + 1) fx.1 (fx.2 ++ vs) [] [] σ2 K := by
  cases e with
  | leaf s i =>
    intro pl
    refine O_meth_inst (f := 266) (by tm_at "cls") (by tm_at "K") (by tm_at "K") (by decide) ?_
    tm_at "go"
    refine OCd.oc ?_
    refine F_fn (bn := ["self"]) (by rw [P.hK]; rfl) rfl (by rw [P.hK]; rfl) rfl rfl rfl rfl rfl rfl rfl (by decide) (by decide) (fun s kk vs kvs h1 h2 => ?_) fun env O => ?_
    · obtain ⟨v0, rfl⟩ := len1 h1
      obtain ⟨-, rfl⟩ := len0 h2
      exact BindsTo.of_eq rfl
    dsimp only [List.zip_cons_cons, List.zip_nil_left, List.zip_nil_right, List.cons_append, List.nil_append, List.append_nil]
    conv => arg 4; whnf
    tm_at "go"
    exact q
  | tree l r lo hi d =>
    intro pl
    refine O_meth_inst (f := 177) (by tm_at "cls") (by tm_at "K") (by tm_at "K") (by decide) ?_
    tm_at "go"
    refine OCd.oc ?_
    refine F_fn (bn := ["self"]) (by rw [P.hK]; rfl) rfl (by rw [P.hK]; rfl) rfl rfl rfl rfl rfl rfl rfl (by decide) (by decide) (fun s kk vs kvs h1 h2 => ?_) fun env O => ?_
    · obtain ⟨v0, rfl⟩ := len1 h1
      obtain ⟨-, rfl⟩ := len0 h2
      exact BindsTo.of_eq rfl
    dsimp only [List.zip_cons_cons, List.zip_nil_left, List.zip_nil_right, List.cons_append, List.nil_append, List.append_nil]
    conv => arg 4; whnf
    tm_at "go"
    tm_at "gi"
    tm_at "go"
    exact q
theorem m_is_complete (P : Pg c) {e : Ed} {pos : Pos} (ho : e.ok) (q : K (.bool e.done) σ) : ∀ pl, O1 c (n + 1) (fun v => getMethod v "is_complete" pl) RM e.obj σ fun fx σ1 => Kept c fx.1 ∧ WL c (n + 1) env pos [] loc σ1 fun vs σ2 => OC c (n + 1) fx.1 (fx.2 ++ vs) [] [] σ2 K := by
  cases e with
  | leaf s i =>
    intro pl
    refine O_meth_inst (f := 273) (by tm_at "cls") (by tm_at "K") (by tm_at "K") (by decide) ?_
    tm_at "go"
    refine OCd.oc ?_
    refine F_fn (bn := ["self"]) (by rw [P.hK]; rfl) rfl (by rw [P.hK]; rfl) rfl rfl rfl rfl rfl rfl rfl (by decide) (by decide) (fun s kk vs kvs h1 h2 => ?_) fun env O => ?_
    · obtain ⟨v0, rfl⟩ := len1 h1
      obtain ⟨-, rfl⟩ := len0 h2
      exact BindsTo.of_eq rfl
    dsimp only [List.zip_cons_cons, List.zip_nil_left, List.zip_nil_right, List.cons_append, List.nil_append, List.append_nil]
    conv => arg 4; whnf
    tm_at "go"
    exact q
  | tree l r lo hi d =>
    intro pl
    refine O_meth_inst (f := 184) (by tm_at "cls") (by tm_at "K") (by tm_at "K") (by decide) ?_
    tm_at "go"
    refine OCd.oc ?_
    refine F_fn (bn := ["self"]) (by rw [P.hK]; rfl) rfl (by rw [P.hK]; rfl) rfl rfl rfl rfl rfl rfl rfl (by decide) (by decide) (fun s kk vs kvs h1 h2 => ?_) fun env O => ?_
    · obtain ⟨v0, rfl⟩ := len1 h1
      obtain ⟨-, rfl⟩ := len0 h2
      exact BindsTo.of_eq rfl
    dsimp only [List.zip_cons_cons, List.zip_nil_left, List.zip_nil_right, List.cons_append, List.nil_append, List.append_nil]
    conv => arg 4; whnf
    tm_at "go"
    tm_at "gi"
    tm_at "go"
    tm_at "gi"
    tm_at "go"
    refine C_len_tup (by rw [List.length_map]; have := ho.2.2; exact Nat.le_trans this (by decide)) ?_
    tm_at "go"
    rw [veq_int, List.length_map]; exact q
theorem m_is_incomplete (P : Pg c) {e : Ed} {pos : Pos} (ho : e.ok) (q : K (.bool (!e.done)) σ) : ∀ pl, O1 c (n + 1) (fun v => getMethod v "is_incomplete" pl) RM e.obj σ fun fx σ1 => Kept c fx.1 ∧ WL c (n + 1) env pos [] loc σ1 fun vs σ2 => OC c (n + 1) fx.1 (fx.2 ++ vs) [] [] σ2 K := by
  cases e with
  | leaf s i =>
    intro pl
    refine O_meth_inst (f := 280) (by tm_at "cls") (by tm_at "K") (by tm_at "K") (by decide) ?_
    tm_at "go"
    refine OCd.oc ?_
    refine F_fn (bn := ["self"]) (by rw [P.hK]; rfl) rfl (by rw [P.hK]; rfl) rfl rfl rfl rfl rfl rfl rfl (by decide) (by decide) (fun s kk vs kvs h1 h2 => ?_) fun env O => ?_
    · obtain ⟨v0, rfl⟩ := len1 h1
      obtain ⟨-, rfl⟩ := len0 h2
      exact BindsTo.of_eq rfl
    dsimp only [List.zip_cons_cons, List.zip_nil_left, List.zip_nil_right, List.cons_append, List.nil_append, List.append_nil]
    conv => arg 4; whnf
    tm_at "go"
    exact q
  | tree l r lo hi d =>
    intro pl
    refine O_meth_inst (f := 191) (by tm_at "cls") (by tm_at "K") (by tm_at "K") (by decide) ?_
    tm_at "go"
    refine OCd.oc ?_
    refine F_fn (bn := ["self"]) (by rw [P.hK]; rfl) rfl (by rw [P.hK]; rfl) rfl rfl rfl rfl rfl rfl rfl (by decide) (by decide) (fun s kk vs kvs h1 h2 => ?_) fun env O => ?_
    · obtain ⟨v0, rfl⟩ := len1 h1
      obtain ⟨-, rfl⟩ := len0 h2
      exact BindsTo.of_eq rfl
    dsimp only [List.zip_cons_cons, List.zip_nil_left, List.zip_nil_right, List.cons_append, List.nil_append, List.append_nil]
    conv => arg 4; whnf
    tm_at "go"
    tm_at "gi"
    tm_at "go"
    tm_at "gi"
    tm_at "go"
    refine C_len_tup (by rw [List.length_map]; have := ho.2.2; exact Nat.le_trans this (by decide)) ?_
    tm_at "go"
    rw [veq_int, List.length_map]; exact q
theorem m_nextsym (P : Pg c) {e : Ed} {pos : Pos} (ho : e.ok) (q : K (ov e.next) σ) : ∀ pl, O1 c (n + 1) (fun v => getMethod v "nextsym" pl) RM e.obj σ fun fx σ1 => Kept c fx.1 ∧ WL c (n + 1) env pos [] loc σ1 fun vs σ2 => OC c (n + 1) fx.1 (fx.2 ++ vs) [] [] σ2 K := by
  cases e with
  | leaf s i =>
    intro pl
    refine O_meth_inst (f := 287) (by tm_at "cls") (by tm_at "K") (by tm_at "K") (by decide) ?_
    tm_at "go"
    refine OCd.oc ?_
    refine F_fn (bn := ["self"]) (by rw [P.hK]; rfl) rfl (by rw [P.hK]; rfl) rfl rfl rfl rfl rfl rfl rfl (by decide) (by decide) (fun s kk vs kvs h1 h2 => ?_) fun env O => ?_
    · obtain ⟨v0, rfl⟩ := len1 h1
      obtain ⟨-, rfl⟩ := len0 h2
      exact BindsTo.of_eq rfl
    dsimp only [List.zip_cons_cons, List.zip_nil_left, List.zip_nil_right, List.cons_append, List.nil_append, List.append_nil]
    conv => arg 4; whnf
    tm_at "go"
    exact q
  | tree l r lo hi d =>
    intro pl
    refine O_meth_inst (f := 198) (by tm_at "cls") (by tm_at "K") (by tm_at "K") (by decide) ?_
    tm_at "go"
    refine OCd.oc ?_
    refine F_fn (bn := ["self"]) (by rw [P.hK]; rfl) rfl (by rw [P.hK]; rfl) rfl rfl rfl rfl rfl rfl rfl (by decide) (by decide) (fun s kk vs kvs h1 h2 => ?_) fun env O => ?_
    · obtain ⟨v0, rfl⟩ := len1 h1
      obtain ⟨-, rfl⟩ := len0 h2
      exact BindsTo.of_eq rfl
    dsimp only [List.zip_cons_cons, List.zip_nil_left, List.zip_nil_right, List.cons_append, List.nil_append, List.append_nil]
    conv => arg 4; whnf
    tm_at "go"
    tm_at "gi"
    tm_at "go"
    tm_at "gi"
    tm_at "go"
    refine C_len_tup (by rw [List.length_map]; have := ho.2.2; exact Nat.le_trans this (by decide)) ?_
    tm_at "go"
    rw [List.length_map]
    obtain ⟨h1, h2, h3⟩ := ho
    dsimp only [Ed.dot, Ed.rhs] at h1 h2 h3
    have hn : (Ed.tree l r lo hi d).next = r[d.toNat]? := rfl
    rw [hn] at q
    refine ⟨fun hb => ?_, fun hb => ?_⟩
    · have hb := of_decide_eq_true hb
      rw [List.getElem?_eq_none (by omega)] at q
      tm_at "go"
      exact q
    · have hb := of_decide_eq_false hb
      have hlt : d.toNat < r.length := by omega
      rw [List.getElem?_eq_getElem hlt] at q
      tm_at "go"
      tm_at "gi"
      tm_at "go"
      tm_at "gi"
      tm_at "go"
      refine O_item_tup h1 (by rw [List.length_map]; omega) (by rw [List.getElem?_map, List.getElem?_eq_getElem hlt]; rfl) ?_ (fun _ _ _ => rfl)
      tm_at "go"
      exact q
end
end
section
theorem veq_str {a b : Str} : veq (.str a) (.str b) = (a == b) := by unfold veq V.py PyData.eqv; rfl
theorem test_str {a b : Str} {P Q : Prop} (h1 : a = b → P) (h2 : a ≠ b → Q) : (veq (.str a) (.str b) = true → P) ∧ (veq (.str a) (.str b) = false → Q) := by
  rw [veq_str]
  exact ⟨fun h => h1 (beq_iff_eq.mp h), fun h => h2 (by rintro rfl; simp at h)⟩
theorem or1 {a b : Str} {X P Q : Prop} (h1 : a ≠ b → X) (h2 : a = b → P) : (veq (.str a) (.str b) = false → X) ∧ (veq (.str a) (.str b) = true → (true = true → P) ∧ (true = false → Q)) := by
  rw [veq_str]
  exact ⟨fun h => h1 (by rintro rfl; simp at h), fun h => ⟨fun _ => h2 (beq_iff_eq.mp h), fun h => by cases h⟩⟩
noncomputable def attr (e : Ed) (k : Str) : V :=
  if k = "span" then .tup [.int e.lo, .int e.hi] else if k = "start" then .int e.lo else if k = "end" then .int e.hi else if k = "length" then .int (e.hi - e.lo) else if k = "lhs" then e.lhs.k else if k = "rhs" then .tup (e.rhs.map Sg.k)
  else if k = "nextsym" then ok' e.next else if k = "dot" then .int e.dot else if k = "is_complete" then .bool e.done else .bool (!e.done)
section
variable {c : Cx} {n : Nat} {σ σ₀ : Store} {K : V → Store → Prop} {env : Env} {loc : Loc}
theorem f_plain_sg (P : Pg c) {g : Option Sg} {k : Str} (hk : k = "lhs" ∨ k = "nextsym") (q : K (ok' g) σ) : OCd c (n + 2) (.val (.ref 428)) [ov g, .str k] [] [] σ K := by
  refine F_fn (bn := ["value", "key"]) (by rw [P.hK]; rfl) rfl (by rw [P.hK]; rfl) rfl rfl rfl rfl rfl rfl rfl (by decide) (by decide) (fun s kk vs kvs h1 h2 => ?_) fun env O => ?_
  · obtain ⟨v0, v1, rfl⟩ := len2 h1
    obtain ⟨-, rfl⟩ := len0 h2
    exact BindsTo.of_eq rfl
  dsimp only [List.zip_cons_cons, List.zip_nil_left, List.zip_nil_right, List.cons_append, List.nil_append, List.append_nil]
  conv => arg 4; whnf
  tm_at "go"
  refine or1 (fun h1 => ?_) (fun _ => ?_)
  · tm_at "go"
    refine test_str (fun _ => ?_) (fun h2 => absurd hk (fun h => h.elim h1 h2))
    tm_at "go"
    cases g with
    | none =>
      refine O_is_none (fun v e => nomatch e) ?_
      tm_at "go"
      refine ⟨fun _ => ?_, fun h => by cases h⟩
      tm_at "go"
      exact q
    | some g =>
      refine O_is_none (fun v => by cases g <;> exact fun e => nomatch e) ?_
      have : (ov (some g)).isN = false := by cases g <;> rfl
      rw [this]
      tm_at "go"
      refine ⟨fun h => (by cases h), fun _ => ?_⟩
      tm_at "go"
      refine (f_key P ?_).oc
      tm_at "go"
      exact q
  · tm_at "go"
    cases g with
    | none =>
      refine O_is_none (fun v e => nomatch e) ?_
      tm_at "go"
      refine ⟨fun _ => ?_, fun h => by cases h⟩
      tm_at "go"
      exact q
    | some g =>
      refine O_is_none (fun v => by cases g <;> exact fun e => nomatch e) ?_
      have : (ov (some g)).isN = false := by cases g <;> rfl
      rw [this]
      tm_at "go"
      refine ⟨fun h => (by cases h), fun _ => ?_⟩
      tm_at "go"
      refine (f_key P ?_).oc
      tm_at "go"
      exact q
theorem f_plain_rhs (P : Pg c) {r : List Sg} (hr : r.length ≤ 100) {k : Str} (hk : k = "rhs") (q : K (.tup (r.map Sg.k)) σ) : OCd c (n + 2) (.val (.ref 428)) [.tup (r.map Sg.v), .str k] [] [] σ K := by
  refine F_fn (bn := ["value", "key"]) (by rw [P.hK]; rfl) rfl (by rw [P.hK]; rfl) rfl rfl rfl rfl rfl rfl rfl (by decide) (by decide) (fun s kk vs kvs h1 h2 => ?_) fun env O => ?_
  · obtain ⟨v0, v1, rfl⟩ := len2 h1
    obtain ⟨-, rfl⟩ := len0 h2
    exact BindsTo.of_eq rfl
  dsimp only [List.zip_cons_cons, List.zip_nil_left, List.zip_nil_right, List.cons_append, List.nil_append, List.append_nil]
  conv => arg 4; whnf
  tm_at "go"
  refine or1 (fun _ => ?_) (fun h => absurd (hk.symm.trans h) (by decide))
  tm_at "go"
  refine test_str (fun h => absurd (hk.symm.trans h) (by decide)) (fun _ => ?_)
  tm_at "go"
  refine test_str (fun _ => ?_) (fun h => absurd hk h)
  tm_at "go"
  tm_at "comp"
  tm_at "go"
  refine keys_turns P (.inl rfl) hr (fun C g σ' K' k => ?_) ?_
  · tm_at "go"
    refine (f_key P ?_).oc
    exact k
  tm_at "go"
  refine C_tuple_flst (by rw [List.length_map]; omega) ?_
  tm_at "go"
  exact q
theorem f_plain_other (P : Pg c) {u : V} {k : Str} (h1 : k ≠ "lhs") (h2 : k ≠ "nextsym") (h3 : k ≠ "rhs") (q : K u σ) : OCd c (n + 2) (.val (.ref 428)) [u, .str k] [] [] σ K := by
  refine F_fn (bn := ["value", "key"]) (by rw [P.hK]; rfl) rfl (by rw [P.hK]; rfl) rfl rfl rfl rfl rfl rfl rfl (by decide) (by decide) (fun s kk vs kvs h1 h2 => ?_) fun env O => ?_
  · obtain ⟨v0, v1, rfl⟩ := len2 h1
    obtain ⟨-, rfl⟩ := len0 h2
    exact BindsTo.of_eq rfl
  dsimp only [List.zip_cons_cons, List.zip_nil_left, List.zip_nil_right, List.cons_append, List.nil_append, List.append_nil]
  conv => arg 4; whnf
  tm_at "go"
  refine or1 (fun _ => ?_) (fun h => absurd h h1)
  tm_at "go"
  refine test_str (fun h => absurd h h2) (fun _ => ?_)
  tm_at "go"
  refine test_str (fun h => absurd h h3) (fun _ => ?_)
  tm_at "go"
  exact q
theorem f_attribute (P : Pg c) {e : Ed} (ho : e.ok) {k : Str} (q : K (attr e k) σ) : OCd c (n + 3) (.val (.ref 435)) [e.obj, .str k] [] [] σ K := by
  refine F_fn (bn := ["edge", "key"]) (by rw [P.hK]; rfl) rfl (by rw [P.hK]; rfl) rfl rfl rfl rfl rfl rfl rfl (by decide) (by decide) (fun s kk vs kvs h1 h2 => ?_) fun env O => ?_
  · obtain ⟨v0, v1, rfl⟩ := len2 h1
    obtain ⟨-, rfl⟩ := len0 h2
    exact BindsTo.of_eq rfl
  dsimp only [List.zip_cons_cons, List.zip_nil_left, List.zip_nil_right, List.cons_append, List.nil_append, List.append_nil]
  conv => arg 4; whnf
  tm_at "go"
  refine test_str (fun hk => ?_) (fun h0 => ?_)
  · have hv : attr e k = .tup [.int e.lo, .int e.hi] := by unfold attr; rw [if_pos hk]
    rw [hv] at q
    tm_at "go"
    refine m_span P ?_
    tm_at "go"
    exact q
  tm_at "go"
  refine test_str (fun hk => ?_) (fun h1 => ?_)
  · have hv : attr e k = .int e.lo := by unfold attr; rw [if_neg h0, if_pos hk]
    rw [hv] at q
    tm_at "go"
    refine m_start P ?_
    tm_at "go"
    exact q
  tm_at "go"
  refine test_str (fun hk => ?_) (fun h2 => ?_)
  · have hv : attr e k = .int e.hi := by unfold attr; rw [if_neg h0, if_neg h1, if_pos hk]
    rw [hv] at q
    tm_at "go"
    refine m_end P ?_
    tm_at "go"
    exact q
  tm_at "go"
  refine test_str (fun hk => ?_) (fun h3 => ?_)
  · have hv : attr e k = .int (e.hi - e.lo) := by unfold attr; rw [if_neg h0, if_neg h1, if_neg h2, if_pos hk]
    rw [hv] at q
    tm_at "go"
    refine m_length P ?_
    tm_at "go"
    exact q
  tm_at "go"
  refine test_str (fun hk => ?_) (fun h4 => ?_)
  · have hv : attr e k = e.lhs.k := by unfold attr; rw [if_neg h0, if_neg h1, if_neg h2, if_neg h3, if_pos hk]
    rw [hv] at q
    tm_at "go"
    refine m_lhs P ?_
    tm_at "go"
    refine (f_plain_sg P (g := some e.lhs) (.inl hk) ?_).oc
    tm_at "go"
    exact q
  tm_at "go"
  refine test_str (fun hk => ?_) (fun h5 => ?_)
  · have hv : attr e k = .tup (e.rhs.map Sg.k) := by unfold attr; rw [if_neg h0, if_neg h1, if_neg h2, if_neg h3, if_neg h4, if_pos hk]
    rw [hv] at q
    tm_at "go"
    refine m_rhs P ?_
    tm_at "go"
    refine (f_plain_rhs P ho.2.2 hk ?_).oc
    tm_at "go"
    exact q
  tm_at "go"
  refine test_str (fun hk => ?_) (fun h6 => ?_)
  · have hv : attr e k = ok' e.next := by unfold attr; rw [if_neg h0, if_neg h1, if_neg h2, if_neg h3, if_neg h4, if_neg h5, if_pos hk]
    rw [hv] at q
    tm_at "go"
    refine m_nextsym P ho ?_
    tm_at "go"
    refine (f_plain_sg P (g := e.next) (.inr hk) ?_).oc
    tm_at "go"
    exact q
  tm_at "go"
  refine test_str (fun hk => ?_) (fun h7 => ?_)
  · have hv : attr e k = .int e.dot := by unfold attr; rw [if_neg h0, if_neg h1, if_neg h2, if_neg h3, if_neg h4, if_neg h5, if_neg h6, if_pos hk]
    rw [hv] at q
    tm_at "go"
    refine m_dot P ?_
    tm_at "go"
    exact q
  tm_at "go"
  refine test_str (fun hk => ?_) (fun h8 => ?_)
  · have hv : attr e k = .bool e.done := by unfold attr; rw [if_neg h0, if_neg h1, if_neg h2, if_neg h3, if_neg h4, if_neg h5, if_neg h6, if_neg h7, if_pos hk]
    rw [hv] at q
    tm_at "go"
    refine m_is_complete P ho ?_
    tm_at "go"
    exact q
  tm_at "go"
  have hv : attr e k = .bool (!e.done) := by unfold attr; rw [if_neg h0, if_neg h1, if_neg h2, if_neg h3, if_neg h4, if_neg h5, if_neg h6, if_neg h7, if_neg h8]
  rw [hv] at q
  refine m_is_incomplete P ho ?_
  tm_at "go"
  exact q
theorem m_move (P : Pg c) {l : Sg} {r : List Sg} {lo hi d : Int} (hr : r.length ≤ 100) {new : Int} {K : V → Store → Prop} (q : K (Ed.tree l r lo new (d + 1)).obj σ) : OCd c (n + 4) (.val (.ref 128)) [(Ed.tree l r lo hi d).obj, .int new] [] [] σ K := by
  refine F_fn (bn := ["self", "new_end"]) (by rw [P.hK]; rfl) rfl (by rw [P.hK]; rfl) rfl rfl rfl rfl rfl rfl rfl (by decide) (by decide) (fun s kk vs kvs h1 h2 => ?_) fun env O => ?_
  · obtain ⟨v0, v1, rfl⟩ := len2 h1
    obtain ⟨-, rfl⟩ := len0 h2
    exact BindsTo.of_eq rfl
  dsimp only [List.zip_cons_cons, List.zip_nil_left, List.zip_nil_right, List.cons_append, List.nil_append, List.append_nil]
  conv => arg 4; whnf
  tm_at "go"
  tm_at "gi"
  tm_at "go"
  refine O_item_tup (by decide) (Nat.le_of_ble_eq_true rfl) rfl ?_ (fun _ _ _ => rfl)
  tm_at "go"
  tm_at "gi"
  tm_at "go"
  tm_at "gi"
  tm_at "go"
  tm_at "gi"
  tm_at "go"
  refine (f_T P (.inr ⟨rfl, rfl, rfl⟩) (.inl rfl) hr ?_).oc
  tm_at "go"
  exact q
end
end
section
noncomputable def Sg.good : Sg → Prop
  | .n s => s = "x" ∨ s = "S"
  | .t _ => True
noncomputable def Sg.m : Sg → V
  | .n s => if s = "x" then .int 0 else .int 1
  | .t s => .str s
noncomputable def om : Option Sg → V
  | none => .none
  | some g => g.m
noncomputable def Ed.good (e : Ed) : Prop := e.ok ∧ e.lhs.good ∧ ∀ g ∈ e.rhs, g.good
noncomputable def Ed.kind : Ed → Str
  | .leaf _ _ => "leaf"
  | .tree _ _ _ _ _ => "tree"
noncomputable def Ed.plain (e : Ed) : V := .tup [.str e.kind, e.lhs.m, .tup (e.rhs.map Sg.m), .int e.lo, .int e.hi, .int e.dot]
noncomputable def Ed.values (e : Ed) : List V := [.int e.lo, .int (e.hi - e.lo), e.lhs.m, .bool e.done, om e.next, .int e.dot, .tup [.int e.lo, .int e.hi], .int e.hi, .tup (e.rhs.map Sg.m), .bool (!e.done)]
noncomputable def bodyOf (i : Int) : List Sg := if i = 0 then [] else if i = 1 then [.t "x", .n "x"] else if i = 2 then [.n "S"] else [.n "x", .t "x"]
noncomputable def tok (i : Int) : Str := if i = 1 then "y" else "x"
noncomputable def draw (z : Int) : Ed :=
  if z / 4 % 5 = 0 ∧ z / 4 / 5 % 4 < 3 then .leaf (tok (z / 4 / 5 % 4)) (z / 4 / 5 % 4)
  else .tree (if z / 4 / 80 % 2 = 0 then .n "x" else .n "S") (bodyOf (z / 4 / 160 % 4)) (z / 4 / 5 % 4) (z / 4 / 5 % 4 + z / 4 / 20 % (4 - z / 4 / 5 % 4)) (z / 4 / 640 % ((bodyOf (z / 4 / 160 % 4)).length + 1))
theorem Sg.mflat (g : Sg) (n : Nat) : g.m.flat n = true := by
  cases g with
  | n s =>
    show V.flat n (if s = "x" then _ else _) = true
    split <;> (cases n <;> rfl)
  | t s => cases n <;> rfl
theorem om_flat (g : Option Sg) (n : Nat) : (om g).flat n = true := by
  cases g with
  | none => cases n <;> rfl
  | some g => exact g.mflat n
theorem ms_flat (r : List Sg) (n : Nat) : flats n (r.map Sg.m) = true := by
  rw [flats_all, List.all_eq_true]
  intro x hx
  obtain ⟨g, _, rfl⟩ := List.mem_map.mp hx
  exact g.mflat n
section
variable {c : Cx} {n : Nat} {σ σ₀ : Store} {K : V → Store → Prop} {env : Env} {loc : Loc}
theorem f_bodies (P : Pg c) (q : K (.flst [.tup [], .tup [.str "x", .int 0], .tup [.int 1], .tup [.int 0, .str "x"]]) σ) : OCd c (n + 1) (.val (.ref 501)) [] [] [] σ K := by
  refine F_fn (bn := []) (by rw [P.hK]; rfl) rfl (by rw [P.hK]; rfl) rfl rfl rfl rfl rfl rfl rfl (by decide) (by decide) (fun s kk vs kvs h1 h2 => ?_) fun env O => ?_
  · obtain ⟨-, rfl⟩ := len0 h1
    obtain ⟨-, rfl⟩ := len0 h2
    exact BindsTo.of_eq rfl
  dsimp only [List.zip_cons_cons, List.zip_nil_left, List.zip_nil_right, List.cons_append, List.nil_append, List.append_nil]
  conv => arg 4; whnf
  tm_at "a"
  refine WE_listF ?_
  tm_at "go"
  exact q
theorem f_number (P : Pg c) {i : Int} (q : K (.int i) σ) : OCd c (n + 1) (.val (.ref 535)) [.int i] [] [] σ K := by
  refine F_fn (bn := ["value"]) (by rw [P.hK]; rfl) rfl (by rw [P.hK]; rfl) rfl rfl rfl rfl rfl rfl rfl (by decide) (by decide) (fun s kk vs kvs h1 h2 => ?_) fun env O => ?_
  · obtain ⟨v0, rfl⟩ := len1 h1
    obtain ⟨-, rfl⟩ := len0 h2
    exact BindsTo.of_eq rfl
  dsimp only [List.zip_cons_cons, List.zip_nil_left, List.zip_nil_right, List.cons_append, List.nil_append, List.append_nil]
  conv => arg 4; whnf
  tm_at "go"
  refine C_isi (T := "int") rfl (one_int P) ?_
  tm_at "go"
  refine ⟨fun _ => ?_, fun h => by cases h⟩
  tm_at "go"
  exact q
theorem f_mark (P : Pg c) {g : Sg} (q : K g.m σ) : OCd c (n + 2) (.val (.ref 542)) [g.v] [] [] σ K := by
  refine F_fn (bn := ["sign"]) (by rw [P.hK]; rfl) rfl (by rw [P.hK]; rfl) rfl rfl rfl rfl rfl rfl rfl (by decide) (by decide) (fun s kk vs kvs h1 h2 => ?_) fun env O => ?_
  · obtain ⟨v0, rfl⟩ := len1 h1
    obtain ⟨-, rfl⟩ := len0 h2
    exact BindsTo.of_eq rfl
  dsimp only [List.zip_cons_cons, List.zip_nil_left, List.zip_nil_right, List.cons_append, List.nil_append, List.append_nil]
  conv => arg 4; whnf
  tm_at "go"
  cases g with
  | n s =>
    refine C_isi_inst (isN P) (one_NN P) ?_
    tm_at "go"
    refine ⟨fun _ => ?_, fun h => by cases h⟩
    tm_at "go"
    intro pl
    refine O_meth_inst (f := 42) (by tm_at "cls") (by tm_at "K") (by tm_at "K") (by decide) ?_
    tm_at "go"
    refine (f_N_symbol P ?_).oc
    tm_at "go"
    refine test_str (fun hk => ?_) (fun hk => ?_)
    · tm_at "go"
      have : (Sg.n s).m = .int 0 := if_pos hk
      rw [this] at q; exact q
    · tm_at "go"
      have : (Sg.n s).m = .int 1 := if_neg hk
      rw [this] at q; exact q
  | t s =>
    refine C_isi (T := "str") rfl (one_sN P) ?_
    tm_at "go"
    refine ⟨fun h => (by cases h), fun _ => ?_⟩
    tm_at "go"
    refine C_isi (T := "str") rfl (one_str P) ?_
    tm_at "go"
    refine ⟨fun _ => ?_, fun h => by cases h⟩
    tm_at "go"
    exact q
theorem veq_m0 {g : Sg} (i : Int) : veq g.m (.int i) = match g with | .n s => (if s = "x" then (0 : Int) else 1) == i | .t _ => false := by
  cases g with
  | n s =>
    show veq (if s = "x" then V.int 0 else V.int 1) (.int i) = ((if s = "x" then (0 : Int) else 1) == i)
    split <;> (rw [veq_int])
  | t s => rfl
theorem f_sign (P : Pg c) {g : Sg} (hg : g.good) (q : K g.v σ) : OCd c (n + 3) (.val (.ref 523)) [g.m] [] [] σ K := by
  refine F_fn (bn := ["sign"]) (by rw [P.hK]; rfl) rfl (by rw [P.hK]; rfl) rfl rfl rfl rfl rfl rfl rfl (by decide) (by decide) (fun s kk vs kvs h1 h2 => ?_) fun env O => ?_
  · obtain ⟨v0, rfl⟩ := len1 h1
    obtain ⟨-, rfl⟩ := len0 h2
    exact BindsTo.of_eq rfl
  dsimp only [List.zip_cons_cons, List.zip_nil_left, List.zip_nil_right, List.cons_append, List.nil_append, List.append_nil]
  conv => arg 4; whnf
  tm_at "go"
  refine O_eq (g.mflat 8) (by tm_at "u") ?_
  rw [veq_m0]
  tm_at "go"
  cases g with
  | n s =>
    rcases hg with rfl | rfl
    · refine ⟨fun _ => ?_, fun h => absurd h (by decide)⟩
      tm_at "go"
      refine (f_N P ?_).oc
      tm_at "go"
      exact q
    · refine ⟨fun h => absurd h (by decide), fun _ => ?_⟩
      tm_at "go"
      rw [veq_m0]
      refine ⟨fun _ => ?_, fun h => absurd h (by decide)⟩
      tm_at "go"
      refine (f_N P ?_).oc
      tm_at "go"
      exact q
  | t s =>
    refine ⟨fun h => (by cases h), fun _ => ?_⟩
    tm_at "go"
    rw [veq_m0]
    refine ⟨fun h => (by cases h), fun _ => ?_⟩
    tm_at "go"
    exact q
theorem f_sign_none (P : Pg c) (q : K .none σ) : OCd c (n + 3) (.val (.ref 523)) [.none] [] [] σ K := by
  refine F_fn (bn := ["sign"]) (by rw [P.hK]; rfl) rfl (by rw [P.hK]; rfl) rfl rfl rfl rfl rfl rfl rfl (by decide) (by decide) (fun s kk vs kvs h1 h2 => ?_) fun env O => ?_
  · obtain ⟨v0, rfl⟩ := len1 h1
    obtain ⟨-, rfl⟩ := len0 h2
    exact BindsTo.of_eq rfl
  dsimp only [List.zip_cons_cons, List.zip_nil_left, List.zip_nil_right, List.cons_append, List.nil_append, List.append_nil]
  conv => arg 4; whnf
  tm_at "go"
  refine ⟨fun h => (by cases h), fun _ => ?_⟩
  tm_at "go"
  refine ⟨fun h => (by cases h), fun _ => ?_⟩
  tm_at "go"
  exact q
theorem tok_at {i : Int} (h0 : 0 ≤ i) (h3 : i < 3) : ([.str "x", .str "y", .str "x"] : List V)[i.toNat]? = some (.str (tok i)) := by
  have : i = 0 ∨ i = 1 ∨ i = 2 := by omega
  rcases this with rfl | rfl | rfl <;> rfl
theorem bodies_at {i : Int} (h0 : 0 ≤ i) (h3 : i < 4) : ([.tup [], .tup [.str "x", .int 0], .tup [.int 1], .tup [.int 0, .str "x"]] : List V)[i.toNat]? = some (.tup ((bodyOf i).map Sg.m)) := by
  have : i = 0 ∨ i = 1 ∨ i = 2 ∨ i = 3 := by omega
  rcases this with rfl | rfl | rfl | rfl <;> rfl
theorem bodyOf_len (i : Int) : (bodyOf i).length ≤ 2 := by
  unfold bodyOf
  split
  · decide
  · split
    · decide
    · split <;> decide
theorem f_draw (P : Pg c) {z : Int} (q : K (draw z).plain σ) : OCd c (n + 2) (.val (.ref 516)) [.int z] [] [] σ K := by
  refine F_fn (bn := ["number"]) (by rw [P.hK]; rfl) rfl (by rw [P.hK]; rfl) rfl rfl rfl rfl rfl rfl rfl (by decide) (by decide) (fun s kk vs kvs h1 h2 => ?_) fun env O => ?_
  · obtain ⟨v0, rfl⟩ := len1 h1
    obtain ⟨-, rfl⟩ := len0 h2
    exact BindsTo.of_eq rfl
  dsimp only [List.zip_cons_cons, List.zip_nil_left, List.zip_nil_right, List.cons_append, List.nil_append, List.append_nil]
  conv => arg 4; whnf
  tm_at "go"
  have hl : 0 ≤ z / 4 / 5 % 4 ∧ z / 4 / 5 % 4 < 4 := by omega
  rw [veq_int]
  refine ⟨fun h5 => ?_, fun h5 => ⟨fun h => (by cases h), fun _ => ?_⟩⟩
  · have h5 := beq_iff_eq.mp h5
    tm_at "go"
    refine ⟨fun h3 => ?_, fun h3 => ?_⟩
    · have h3 := of_decide_eq_true h3
      tm_at "go"
      refine O_item_flst (x := .str (tok (z / 4 / 5 % 4))) (by omega) (Nat.le_of_ble_eq_true rfl) (tok_at (by omega) h3) ?_ (fun _ _ _ => rfl)
      tm_at "go"
      have e : draw z = .leaf (tok (z / 4 / 5 % 4)) (z / 4 / 5 % 4) := if_pos ⟨h5, h3⟩
      rw [e] at q
      exact q
    · have h3 := of_decide_eq_false h3
      have hc : ¬ (z / 4 % 5 = 0 ∧ z / 4 / 5 % 4 < 3) := fun h => h3 h.2
      tm_at "go"
      refine O_mod (by omega) ?_
      tm_at "go"
      refine (f_bodies P ?_).oc
      tm_at "go"
      refine O_item_flst (x := .tup ((bodyOf (z / 4 / 160 % 4)).map Sg.m)) (by omega) (Nat.le_of_ble_eq_true rfl) (bodies_at (by omega) (by omega)) ?_ (fun _ _ _ => rfl)
      tm_at "go"
      refine C_len_tup (by rw [List.length_map]; exact Nat.le_trans (bodyOf_len _) (by decide)) ?_
      tm_at "go"
      refine O_mod (by omega) ?_
      tm_at "go"
      have e : draw z = .tree (if z / 4 / 80 % 2 = 0 then .n "x" else .n "S") (bodyOf (z / 4 / 160 % 4)) (z / 4 / 5 % 4) (z / 4 / 5 % 4 + z / 4 / 20 % (4 - z / 4 / 5 % 4)) (z / 4 / 640 % ((bodyOf (z / 4 / 160 % 4)).length + 1)) := if_neg hc
      rw [e] at q
      rw [List.length_map]
      have m2 : (.int (z / 4 / 80 % 2) : V) = (if z / 4 / 80 % 2 = 0 then Sg.n "x" else Sg.n "S").m := by
        split
        · rename_i h; rw [h]; rfl
        · rename_i h
          have : z / 4 / 80 % 2 = 1 := by omega
          rw [this]; rfl
      rw [m2]
      exact q
  · have hc : ¬ (z / 4 % 5 = 0 ∧ z / 4 / 5 % 4 < 3) := fun h => by rw [h.1] at h5; simp at h5
    tm_at "go"
    refine O_mod (by omega) ?_
    tm_at "go"
    refine (f_bodies P ?_).oc
    tm_at "go"
    refine O_item_flst (x := .tup ((bodyOf (z / 4 / 160 % 4)).map Sg.m)) (by omega) (Nat.le_of_ble_eq_true rfl) (bodies_at (by omega) (by omega)) ?_ (fun _ _ _ => rfl)
    tm_at "go"
    refine C_len_tup (by rw [List.length_map]; exact Nat.le_trans (bodyOf_len _) (by decide)) ?_
    tm_at "go"
    refine O_mod (by omega) ?_
    tm_at "go"
    have e : draw z = .tree (if z / 4 / 80 % 2 = 0 then .n "x" else .n "S") (bodyOf (z / 4 / 160 % 4)) (z / 4 / 5 % 4) (z / 4 / 5 % 4 + z / 4 / 20 % (4 - z / 4 / 5 % 4)) (z / 4 / 640 % ((bodyOf (z / 4 / 160 % 4)).length + 1)) := if_neg hc
    rw [e] at q
    rw [List.length_map]
    have m2 : (.int (z / 4 / 80 % 2) : V) = (if z / 4 / 80 % 2 = 0 then Sg.n "x" else Sg.n "S").m := by
      split
      · rename_i h; rw [h]; rfl
      · rename_i h
        have : z / 4 / 80 % 2 = 1 := by omega
        rw [this]; rfl
    rw [m2]
    exact q
end
end
section
section
variable {c : Cx} {n : Nat} {σ σ₀ : Store} {K : V → Store → Prop} {env : Env} {loc : Loc}
theorem map_turns {α : Type} (a b : α → V) {x : Str} {scope : Scope} {elt : Expr} {K : V → Store → Prop} {r : List α} {v : V} (hv : v = .tup (r.map a) ∨ v = .flst (r.map a)) (hr : r.length ≤ 1000)
    (step : ∀ C g, g ∈ r → ∀ (K' : V → Store → Prop), K' (b g) σ → WE c n (compEnvC scope (closL env scope.names []) C env) elt ((x, a g) :: inner scope loc) σ K')
    (q : K (.flst (r.map b)) σ) : Turns c n env loc scope x [] elt v σ K := by
  have it : OIter c n v (r.map a) σ none := by rcases hv with rfl | rfl; exact Iter_tup _; exact Iter_flst _
  refine ⟨_, none, it, by rw [List.length_map]; omega, fun i acc σ' => σ' = σ ∧ acc = (r.take i).map b, ⟨rfl, rfl⟩, fun C i y acc σ' hy hi => ⟨fun _ => ?_, fun h => by cases h⟩, fun acc σ' hi => ?_⟩
  · obtain ⟨rfl, rfl⟩ := hi
    rw [List.getElem?_map, Option.map_eq_some_iff] at hy
    obtain ⟨g, hg, rfl⟩ := hy
    exact step C g (List.mem_of_getElem? hg) _ ⟨rfl, by rw [List.take_add_one, hg]; simp⟩
  · obtain ⟨rfl, rfl⟩ := hi
    rw [List.length_map, List.take_length]
    exact q
theorem f_make (P : Pg c) {e : Ed} (he : e.good) (q : K e.obj σ) : OCd c (n + 4) (.val (.ref 528)) [e.plain] [] [] σ K := by
  refine F_fn (bn := ["edge"]) (by rw [P.hK]; rfl) rfl (by rw [P.hK]; rfl) rfl rfl rfl rfl rfl rfl rfl (by decide) (by decide) (fun s kk vs kvs h1 h2 => ?_) fun env O => ?_
  · obtain ⟨v0, rfl⟩ := len1 h1
    obtain ⟨-, rfl⟩ := len0 h2
    exact BindsTo.of_eq rfl
  dsimp only [List.zip_cons_cons, List.zip_nil_left, List.zip_nil_right, List.cons_append, List.nil_append, List.append_nil]
  conv => arg 4; whnf
  obtain ⟨ho, hl, hr⟩ := he
  tm_at "go"
  refine O_item_tup (by decide) (Nat.le_of_ble_eq_true rfl) rfl ?_ (fun _ _ _ => rfl)
  tm_at "go"
  rw [veq_str]
  cases e with
  | leaf s i =>
    refine ⟨fun _ => ?_, fun h => absurd h (by show ¬ (("leaf" : Str) == "leaf") = false; decide)⟩
    tm_at "go"
    refine O_item_tup (by decide) (Nat.le_of_ble_eq_true rfl) rfl ?_ (fun _ _ _ => rfl)
    tm_at "go"
    refine O_item_tup (by decide) (Nat.le_of_ble_eq_true rfl) rfl ?_ (fun _ _ _ => rfl)
    tm_at "go"
    refine (f_L P ?_).oc
    tm_at "go"
    exact q
  | tree l r lo hi d =>
    refine ⟨fun h => absurd h (by show ¬ (("tree" : Str) == "leaf") = true; decide), fun _ => ?_⟩
    tm_at "go"
    refine O_item_tup (by decide) (Nat.le_of_ble_eq_true rfl) rfl ?_ (fun _ _ _ => rfl)
    tm_at "go"
    refine O_item_tup (by decide) (Nat.le_of_ble_eq_true rfl) rfl ?_ (fun _ _ _ => rfl)
    tm_at "go"
    refine O_item_tup (by decide) (Nat.le_of_ble_eq_true rfl) rfl ?_ (fun _ _ _ => rfl)
    tm_at "go"
    refine (f_sign P hl ?_).oc
    tm_at "go"
    tm_at "comp"
    tm_at "go"
    refine O_item_tup (by decide) (Nat.le_of_ble_eq_true rfl) rfl ?_ (fun _ _ _ => rfl)
    refine map_turns Sg.m Sg.v (.inl rfl) (by have := ho.2.2; exact Nat.le_trans this (by decide)) (fun C g hg K' k => ?_) ?_
    · tm_at "go"
      refine (f_sign P (hr g hg) ?_).oc
      exact k
    tm_at "go"
    refine O_item_tup (by decide) (Nat.le_of_ble_eq_true rfl) rfl ?_ (fun _ _ _ => rfl)
    tm_at "go"
    refine (f_T P (.inl ⟨rfl, rfl, rfl⟩) (.inr rfl) ho.2.2 ?_).oc
    tm_at "go"
    exact q
theorem f_read (P : Pg c) {e : Ed} (he : e.good) (q : K e.plain σ) : OCd c (n + 3) (.val (.ref 547)) [e.obj] [] [] σ K := by
  refine F_fn (bn := ["edge"]) (by rw [P.hK]; rfl) rfl (by rw [P.hK]; rfl) rfl rfl rfl rfl rfl rfl rfl (by decide) (by decide) (fun s kk vs kvs h1 h2 => ?_) fun env O => ?_
  · obtain ⟨v0, rfl⟩ := len1 h1
    obtain ⟨-, rfl⟩ := len0 h2
    exact BindsTo.of_eq rfl
  dsimp only [List.zip_cons_cons, List.zip_nil_left, List.zip_nil_right, List.cons_append, List.nil_append, List.append_nil]
  conv => arg 4; whnf
  obtain ⟨ho, hl, hr⟩ := he
  tm_at "go"
  have isi : ∀ {K : V → Store → Prop}, K (.bool (e.kind == "leaf")) σ → OC c (n + 2) (.val (.builtin "isinstance")) [e.obj, .val (.ref cL)] [] [] σ K := fun k => by
    cases e with
    | leaf s i => exact C_isi_inst (isL P) (one_LL P) k
    | tree l r lo hi d => exact C_isi_inst (isT P) (one_TL P) k
  refine isi ?_
  tm_at "go"
  have key : ∀ KK : V → Store → Prop, (KK (.str e.kind) σ) → ((e.kind == "leaf") = true → KK (.str "leaf") σ) ∧ ((e.kind == "leaf") = false → KK (.str "tree") σ) := fun KK k => by
    cases e with
    | leaf s i => exact ⟨fun _ => k, fun h => absurd h (by show ¬ (("leaf" : Str) == "leaf") = false; decide)⟩
    | tree l r lo hi d => exact ⟨fun h => absurd h (by show ¬ (("tree" : Str) == "leaf") = true; decide), fun _ => k⟩
  have lift : ∀ {loc : Loc} {p1 p2 : Pos} {KK : V → Store → Prop}, KK (.str e.kind) σ → ((e.kind == "leaf") = true → WE c (n + 2) env (Expr.Constant (.str "leaf") 0 p1) loc σ KK) ∧ ((e.kind == "leaf") = false → WE c (n + 2) env (Expr.Constant (.str "tree") 0 p2) loc σ KK) := fun k =>
    ⟨fun h => WE_str ((key _ k).1 h), fun h => WE_str ((key _ k).2 h)⟩
  refine lift ?_
  tm_at "go"
  refine m_lhs P ?_
  tm_at "go"
  refine (f_mark P ?_).oc
  tm_at "go"
  tm_at "comp"
  tm_at "go"
  refine m_rhs P ?_
  refine map_turns Sg.v Sg.m (.inl rfl) (by have := ho.2.2; exact Nat.le_trans this (by decide)) (fun C g hg K' k => ?_) ?_
  · tm_at "go"
    refine (f_mark P ?_).oc
    exact k
  tm_at "go"
  refine C_tuple_flst (by rw [List.length_map]; have := ho.2.2; exact Nat.le_trans this (by decide)) ?_
  tm_at "go"
  refine m_start P ?_
  tm_at "go"
  refine (f_number P ?_).oc
  tm_at "go"
  refine m_end P ?_
  tm_at "go"
  refine (f_number P ?_).oc
  tm_at "go"
  refine m_dot P ?_
  tm_at "go"
  refine (f_number P ?_).oc
  tm_at "go"
  exact q
theorem f_values (P : Pg c) {e : Ed} (ho : e.ok) (q : K (.flst e.values) σ) : OCd c (n + 1) (.val (.ref 554)) [e.plain] [] [] σ K := by
  refine F_fn (bn := ["edge"]) (by rw [P.hK]; rfl) rfl (by rw [P.hK]; rfl) rfl rfl rfl rfl rfl rfl rfl (by decide) (by decide) (fun s kk vs kvs h1 h2 => ?_) fun env O => ?_
  · obtain ⟨v0, rfl⟩ := len1 h1
    obtain ⟨-, rfl⟩ := len0 h2
    exact BindsTo.of_eq rfl
  dsimp only [List.zip_cons_cons, List.zip_nil_left, List.zip_nil_right, List.cons_append, List.nil_append, List.append_nil]
  conv => arg 4; whnf
  tm_at "go"
  refine O_item_tup (by decide) (Nat.le_of_ble_eq_true rfl) rfl ?_ (fun _ _ _ => rfl)
  tm_at "go"
  refine O_item_tup (by decide) (Nat.le_of_ble_eq_true rfl) rfl ?_ (fun _ _ _ => rfl)
  tm_at "go"
  refine C_len_tup (by rw [List.length_map]; have := ho.2.2; exact Nat.le_trans this (by decide)) ?_
  tm_at "go"
  rw [veq_int, List.length_map]
  refine WE_listF ?_
  tm_at "go"
  refine O_item_tup (by decide) (Nat.le_of_ble_eq_true rfl) rfl ?_ (fun _ _ _ => rfl)
  tm_at "go"
  refine O_item_tup (by decide) (Nat.le_of_ble_eq_true rfl) rfl ?_ (fun _ _ _ => rfl)
  tm_at "go"
  refine O_item_tup (by decide) (Nat.le_of_ble_eq_true rfl) rfl ?_ (fun _ _ _ => rfl)
  tm_at "go"
  refine O_item_tup (by decide) (Nat.le_of_ble_eq_true rfl) rfl ?_ (fun _ _ _ => rfl)
  tm_at "go"
  have hw : (e.dot == (e.rhs.length : Int)) = e.done := rfl
  rw [hw]
  tm_at "go"
  have nx : ∀ {KK : V → Store → Prop} {LL : Loc} {p1 : Pos} {ex : Expr}, (e.done = false → ∀ g, e.next = some g → WE c n env ex LL σ fun v σ' => v = om e.next ∧ σ' = σ) → KK (om e.next) σ → (e.done = true → WE c n env (Expr.Constant Const.none 0 p1) LL σ KK) ∧ (e.done = false → WE c n env ex LL σ KK) := fun f k => by
    obtain ⟨h1, h2, h3⟩ := ho
    refine ⟨fun h => ?_, fun h => ?_⟩
    · have hd : e.dot = e.rhs.length := by simpa [Ed.done] using h
      have : e.next = none := by unfold Ed.next; rw [hd]; simp
      rw [this] at k
      exact WE_none k
    · have hd : e.dot ≠ e.rhs.length := by simpa [Ed.done] using h
      have hlt : e.dot.toNat < e.rhs.length := by omega
      exact WE.mono (f h _ (by unfold Ed.next; rw [List.getElem?_eq_getElem hlt])) fun v σ' z => by obtain ⟨rfl, rfl⟩ := z; exact k
  refine nx (fun hd g hg => ?_) ?_
  · tm_at "go"
    refine O_item_tup (by decide) (Nat.le_of_ble_eq_true rfl) rfl ?_ (fun _ _ _ => rfl)
    tm_at "go"
    refine O_item_tup (by decide) (Nat.le_of_ble_eq_true rfl) rfl ?_ (fun _ _ _ => rfl)
    tm_at "go"
    refine O_item_tup (x := g.m) ho.1 (by rw [List.length_map]; have := ho.2.2; exact Nat.le_trans this (by decide)) (by rw [List.getElem?_map]; unfold Ed.next at hg; rw [hg]; rfl) ?_ (fun _ _ _ => rfl)
    rw [hg]
    exact ⟨rfl, rfl⟩
  tm_at "go"
  refine O_item_tup (by decide) (Nat.le_of_ble_eq_true rfl) rfl ?_ (fun _ _ _ => rfl)
  tm_at "go"
  refine O_item_tup (by decide) (Nat.le_of_ble_eq_true rfl) rfl ?_ (fun _ _ _ => rfl)
  tm_at "go"
  refine O_item_tup (by decide) (Nat.le_of_ble_eq_true rfl) rfl ?_ (fun _ _ _ => rfl)
  tm_at "go"
  refine O_item_tup (by decide) (Nat.le_of_ble_eq_true rfl) rfl ?_ (fun _ _ _ => rfl)
  tm_at "go"
  refine O_item_tup (by decide) (Nat.le_of_ble_eq_true rfl) rfl ?_ (fun _ _ _ => rfl)
  tm_at "go"
  exact q
end
end
section
mutual
noncomputable def V.nb : V → Bool
  | .none => true
  | .int _ => true
  | .str _ => true
  | .tup l => nbs l
  | _ => false
noncomputable def nbs : List V → Bool
  | [] => true
  | x :: r => x.nb && nbs r
end
theorem nbs_all : ∀ l : List V, nbs l = l.all V.nb
  | [] => rfl
  | x :: r => by rw [nbs, nbs_all r, List.all_cons]
mutual
theorem veq_nb : ∀ (a b : V), a.nb = true → b.nb = true → (veq a b = true ↔ a = b)
  | .none, b, _, hb => by cases b <;> simp [V.nb] at hb <;> simp [veq, V.py, PyData.eqv]
  | .int i, b, _, hb => by cases b <;> simp [V.nb] at hb <;> simp [veq, V.py, PyData.eqv]
  | .str s, b, _, hb => by cases b <;> simp [V.nb] at hb <;> simp [veq, V.py, PyData.eqv]
  | .tup l, b, ha, hb => by
    cases b with
    | tup l' =>
      rw [V.nb] at ha hb
      unfold veq V.py PyData.eqv
      rw [eqvAll_nb l l' ha hb, V.tup.injEq]
    | none => simp [veq, V.py, PyData.eqv]
    | int _ => simp [veq, V.py, PyData.eqv]
    | str _ => simp [veq, V.py, PyData.eqv]
    | _ => simp [V.nb] at hb
  | .bool _, _, ha, _ => by simp [V.nb] at ha
  | .flst _, _, ha, _ => by simp [V.nb] at ha
  | .inst _ _ _, _, ha, _ => by simp [V.nb] at ha
  | .mob _ _, _, ha, _ => by simp [V.nb] at ha
  | .ref _, _, ha, _ => by simp [V.nb] at ha
  | .view _ _, _, ha, _ => by simp [V.nb] at ha
  | .rng _, _, ha, _ => by simp [V.nb] at ha
  | .val _, _, ha, _ => by simp [V.nb] at ha
theorem eqvAll_nb : ∀ (l l' : List V), nbs l = true → nbs l' = true → (PyData.eqvAll (pys l) (pys l') = true ↔ l = l')
  | [], l', _, _ => by cases l' <;> simp [pys, PyData.eqvAll]
  | x :: r, l', h, h' => by
    cases l' with
    | nil => simp [pys, PyData.eqvAll]
    | cons y t =>
      rw [nbs, Bool.and_eq_true] at h h'
      rw [pys, pys, PyData.eqvAll, Bool.and_eq_true, List.cons.injEq, eqvAll_nb r t h.2 h'.2]
      have := veq_nb x y h.1 h'.1
      unfold veq at this
      rw [this]
end
theorem nbs_map {α : Type} {f : α → V} {l : List α} (h : ∀ a ∈ l, (f a).nb = true) : nbs (l.map f) = true := by
  rw [nbs_all, List.all_eq_true]
  intro x hx
  obtain ⟨a, ha, rfl⟩ := List.mem_map.mp hx
  exact h a ha
theorem flats_map {α : Type} {f : α → V} {l : List α} {n : Nat} (h : ∀ a ∈ l, (f a).flat n = true) : flats n (l.map f) = true := by
  rw [flats_all, List.all_eq_true]
  intro x hx
  obtain ⟨a, ha, rfl⟩ := List.mem_map.mp hx
  exact h a ha
mutual
theorem V.flat_mono : ∀ (n m : Nat) (x : V), n ≤ m → x.flat n = true → x.flat m = true
  | n, m, .none, _, _ => by cases m <;> rfl
  | n, m, .bool _, _, _ => by cases m <;> rfl
  | n, m, .int _, _, _ => by cases m <;> rfl
  | n, m, .str _, _, _ => by cases m <;> rfl
  | 0, m, .tup l, _, h => by simp [V.flat] at h
  | n + 1, 0, .tup l, h, _ => by omega
  | n + 1, m + 1, .tup l, h, h' => by
    rw [V.flat] at h' ⊢
    exact flats_mono n m l (by omega) h'
  | n, m, .flst _, _, h => by cases n <;> simp [V.flat] at h
  | n, m, .inst _ _ _, _, h => by cases n <;> simp [V.flat] at h
  | n, m, .mob _ _, _, h => by cases n <;> simp [V.flat] at h
  | n, m, .ref _, _, h => by cases n <;> simp [V.flat] at h
  | n, m, .view _ _, _, h => by cases n <;> simp [V.flat] at h
  | n, m, .rng _, _, h => by cases n <;> simp [V.flat] at h
  | n, m, .val _, _, h => by cases n <;> simp [V.flat] at h
theorem flats_mono : ∀ (n m : Nat) (l : List V), n ≤ m → flats n l = true → flats m l = true
  | _, _, [], _, _ => rfl
  | n, m, x :: r, hm, h => by
    rw [flats, Bool.and_eq_true] at h ⊢
    exact ⟨V.flat_mono n m x hm h.1, flats_mono n m r hm h.2⟩
end

theorem Sg.k_nb (g : Sg) : g.k.nb = true := by cases g <;> rfl
theorem Sg.k_flat (g : Sg) : g.k.flat 1 = true := by cases g <;> rfl
theorem Sg.k_inj {a b : Sg} (h : a.k = b.k) : a = b := by
  cases a <;> cases b <;> simp [Sg.k] at h
  · rw [h]
  · exact absurd h.1 (by decide)
  · exact absurd h.1 (by decide)
  · rw [h]
theorem map_inj {α β : Type} {f : α → β} (hf : ∀ a b, f a = f b → a = b) : ∀ {l l' : List α}, l.map f = l'.map f → l = l'
  | [], [], _ => rfl
  | [], _ :: _, h => by simp at h
  | _ :: _, [], h => by simp at h
  | a :: r, b :: r', h => by
    rw [List.map_cons, List.map_cons, List.cons.injEq] at h
    rw [hf _ _ h.1, map_inj hf h.2]
theorem map_inj_on {α β : Type} {f : α → β} : ∀ {l l' : List α}, (∀ a ∈ l, ∀ b ∈ l', f a = f b → a = b) → l.map f = l'.map f → l = l'
  | [], [], _, _ => rfl
  | [], _ :: _, _, h => by simp at h
  | _ :: _, [], _, h => by simp at h
  | a :: r, b :: r', hf, h => by
    rw [List.map_cons, List.map_cons, List.cons.injEq] at h
    rw [hf a (.head _) b (.head _) h.1, map_inj_on (fun x hx y hy => hf x (.tail _ hx) y (.tail _ hy)) h.2]
theorem Ed.ck_nb (e : Ed) : e.ck.nb = true := by
  cases e with
  | leaf s i => rfl
  | tree l r lo hi d =>
    show (true && ((true && (true && true)) && (l.k.nb && (nbs (r.map Sg.k) && (true && true))))) = true
    rw [l.k_nb, nbs_map fun g _ => g.k_nb]; rfl
theorem Ed.ck_flat (e : Ed) : e.ck.flat 3 = true := by
  cases e with
  | leaf s i => rfl
  | tree l r lo hi d =>
    show (true && (true && (l.k.flat 2 && (flats 1 (r.map Sg.k) && (true && true))))) = true
    rw [V.flat_mono 1 2 _ (by decide) l.k_flat, flats_map fun g _ => g.k_flat]; rfl
theorem Ed.ck_inj {a b : Ed} (h : a.ck = b.ck) : a = b := by
  match a, b, h with
  | .leaf s i, .leaf s' i', h =>
    have : V.tup [.str "leaf", .str s, .int i] = .tup [.str "leaf", .str s', .int i'] := h
    simp only [V.tup.injEq, List.cons.injEq, V.str.injEq, V.int.injEq] at this
    rw [this.2.1, this.2.2.1]
  | .leaf s i, .tree l r lo hi d, h =>
    have : V.tup [.str "leaf", .str s, .int i] = .tup [.str "tree", .tup [.int lo, .int hi], l.k, .tup (r.map Sg.k), .int d] := h
    simp at this
  | .tree l r lo hi d, .leaf s i, h =>
    have : V.tup [.str "tree", .tup [.int lo, .int hi], l.k, .tup (r.map Sg.k), .int d] = .tup [.str "leaf", .str s, .int i] := h
    simp at this
  | .tree l r lo hi d, .tree l' r' lo' hi' d', h =>
    have : V.tup [.str "tree", .tup [.int lo, .int hi], l.k, .tup (r.map Sg.k), .int d] = .tup [.str "tree", .tup [.int lo', .int hi'], l'.k, .tup (r'.map Sg.k), .int d'] := h
    simp only [V.tup.injEq, List.cons.injEq, V.int.injEq] at this
    obtain ⟨_, ⟨h2, h3, _⟩, h4, h5, h6, _⟩ := this
    rw [h2, h3, Sg.k_inj h4, map_inj (fun _ _ => Sg.k_inj) h5, h6]
theorem veq_ck {a b : Ed} : veq a.ck b.ck = true ↔ a = b := by
  rw [veq_nb _ _ a.ck_nb b.ck_nb]; exact ⟨Ed.ck_inj, fun h => by rw [h]⟩
theorem rk_flat (r : List Ed) : (V.tup (r.map Ed.ck)).flat 8 = true := by
  rw [V.flat]; exact flats_map fun e _ => V.flat_mono 3 7 _ (by decide) e.ck_flat
theorem veq_rk {a b : List Ed} : veq (.tup (a.map Ed.ck)) (.tup (b.map Ed.ck)) = true ↔ a = b := by
  rw [veq_nb _ _ (by rw [V.nb]; exact nbs_map fun e _ => e.ck_nb) (by rw [V.nb]; exact nbs_map fun e _ => e.ck_nb), V.tup.injEq]
  exact ⟨map_inj fun _ _ => Ed.ck_inj, fun h => by rw [h]⟩
theorem ks_flat (ks : List Str) : (V.tup (strV ks)).flat 8 = true := by rw [V.flat]; exact flats_map fun e _ => rfl
theorem veq_ks {a b : List Str} : veq (.tup (strV a)) (.tup (strV b)) = true ↔ a = b := by
  rw [veq_nb _ _ (by rw [V.nb]; exact nbs_map fun e _ => rfl) (by rw [V.nb]; exact nbs_map fun e _ => rfl), V.tup.injEq]
  exact ⟨map_inj fun _ _ h => by cases h; rfl, fun h => by rw [h]⟩

theorem Sg.m_nb (g : Sg) : g.m.nb = true := by
  cases g with
  | n s =>
    show V.nb (if s = "x" then V.int 0 else V.int 1) = true
    split <;> rfl
  | t s => rfl
theorem Sg.m_inj {a b : Sg} (ha : a.good) (hb : b.good) (h : a.m = b.m) : a = b := by
  cases a with
  | n s =>
    cases b with
    | n s' =>
      rcases ha with rfl | rfl <;> rcases hb with rfl | rfl
      · rfl
      · exact absurd h (by show ¬ V.int 0 = V.int 1; simp)
      · exact absurd h (by show ¬ V.int 1 = V.int 0; simp)
      · rfl
    | t s' =>
      rcases ha with rfl | rfl
      · exact absurd h (by show ¬ V.int 0 = V.str s'; simp)
      · exact absurd h (by show ¬ V.int 1 = V.str s'; simp)
  | t s =>
    cases b with
    | n s' =>
      rcases hb with rfl | rfl
      · exact absurd h (by show ¬ V.str s = V.int 0; simp)
      · exact absurd h (by show ¬ V.str s = V.int 1; simp)
    | t s' => have : V.str s = V.str s' := h; cases this; rfl
theorem Ed.plain_nb (e : Ed) : e.plain.nb = true := by
  show (true && (e.lhs.m.nb && (nbs (e.rhs.map Sg.m) && (true && (true && (true && true)))))) = true
  rw [e.lhs.m_nb, nbs_map fun g _ => g.m_nb]; rfl
theorem Ed.plain_flat (e : Ed) : e.plain.flat 2 = true := by
  show (true && (e.lhs.m.flat 1 && (flats 0 (e.rhs.map Sg.m) && (true && (true && (true && true)))))) = true
  rw [e.lhs.mflat, ms_flat]; rfl
theorem Ed.plain_inj {a b : Ed} (ha : a.good) (hb : b.good) (h : a.plain = b.plain) : a = b := by
  unfold Ed.plain at h
  simp only [V.tup.injEq, List.cons.injEq, V.str.injEq, V.int.injEq] at h
  obtain ⟨h1, h2, h3, h4, h5, h6, _⟩ := h
  have e2 := Sg.m_inj ha.2.1 hb.2.1 h2
  have e3 := map_inj_on (fun x hx y hy => Sg.m_inj (ha.2.2 x hx) (hb.2.2 y hy)) h3
  cases a <;> cases b <;> simp only [Ed.kind, Ed.lhs, Ed.rhs, Ed.lo, Ed.hi, Ed.dot] at h1 e2 e3 h4 h5 h6
  · cases e2; rw [h4]
  · exact absurd h1 (by decide)
  · exact absurd h1 (by decide)
  · rw [e2, e3, h4, h5, h6]
theorem veq_plain {a b : Ed} (ha : a.good) (hb : b.good) : veq a.plain b.plain = true ↔ a = b := by
  rw [veq_nb _ _ a.plain_nb b.plain_nb]; exact ⟨Ed.plain_inj ha hb, fun h => by rw [h]⟩
noncomputable def rowP (r : List Ed) : V := .tup (r.map Ed.plain)
theorem rowP_flat (r : List Ed) : (rowP r).flat 8 = true := by
  unfold rowP; rw [V.flat]; exact flats_map fun e _ => V.flat_mono 2 7 _ (by decide) e.plain_flat
theorem veq_row {a b : List Ed} (ha : ∀ e ∈ a, e.good) (hb : ∀ e ∈ b, e.good) : veq (rowP a) (rowP b) = true ↔ a = b := by
  unfold rowP
  rw [veq_nb _ _ (by rw [V.nb]; exact nbs_map fun e _ => e.plain_nb) (by rw [V.nb]; exact nbs_map fun e _ => e.plain_nb), V.tup.injEq]
  exact ⟨map_inj_on fun x hx y hy => Ed.plain_inj (ha x hx) (hb y hy), fun h => by rw [h]⟩

noncomputable def vals (e : Ed) (ks : List Str) : List V := ks.map (attr e)
theorem ok'_nb (g : Option Sg) : (ok' g).nb = true := by cases g with
  | none => rfl
  | some g => exact g.k_nb
end
section
theorem veq_bool {a b : Bool} : veq (.bool a) (.bool b) = true ↔ a = b := by
  unfold veq V.py PyData.eqv; cases a <;> cases b <;> simp
theorem eqvAll_map {f g : Str → V} : ∀ (ks : List Str), PyData.eqvAll (pys (ks.map f)) (pys (ks.map g)) = true ↔ ∀ k ∈ ks, veq (f k) (g k) = true
  | [] => by simp [pys, PyData.eqvAll]
  | k :: r => by
    rw [List.map_cons, List.map_cons, pys, pys, PyData.eqvAll, Bool.and_eq_true, eqvAll_map r]
    simp [veq]
theorem attr_veq (e e' : Ed) (k : Str) : veq (attr e k) (attr e' k) = true ↔ attr e k = attr e' k := by
  unfold attr
  split
  · exact veq_nb _ _ rfl rfl
  · split
    · exact veq_nb _ _ rfl rfl
    · split
      · exact veq_nb _ _ rfl rfl
      · split
        · exact veq_nb _ _ rfl rfl
        · split
          · exact veq_nb _ _ (Sg.k_nb _) (Sg.k_nb _)
          · split
            · exact veq_nb _ _ (by rw [V.nb]; exact nbs_map fun g _ => g.k_nb) (by rw [V.nb]; exact nbs_map fun g _ => g.k_nb)
            · split
              · exact veq_nb _ _ (ok'_nb _) (ok'_nb _)
              · split
                · exact veq_nb _ _ rfl rfl
                · split
                  · rw [veq_bool, V.bool.injEq]
                  · rw [veq_bool, V.bool.injEq]
theorem attr_flat (e : Ed) (k : Str) : (attr e k).flat 2 = true := by
  unfold attr
  split
  · rfl
  · split
    · rfl
    · split
      · rfl
      · split
        · rfl
        · split
          · exact V.flat_mono 1 2 _ (by decide) (Sg.k_flat _)
          · split
            · rw [V.flat]; exact flats_map fun g _ => g.k_flat
            · split
              · cases e.next with
                | none => rfl
                | some g => exact V.flat_mono 1 2 _ (by decide) g.k_flat
              · split
                · rfl
                · split <;> rfl
theorem vals_flat (e : Ed) (ks : List Str) : (V.tup (vals e ks)).flat 8 = true := by
  rw [V.flat]; exact flats_map fun k _ => V.flat_mono 2 7 _ (by decide) (attr_flat e k)
theorem veq_vals {e e' : Ed} {ks : List Str} : veq (.tup (vals e ks)) (.tup (vals e' ks)) = true ↔ vals e ks = vals e' ks := by
  have : veq (.tup (vals e ks)) (.tup (vals e' ks)) = PyData.eqvAll (pys (vals e ks)) (pys (vals e' ks)) := by unfold veq V.py PyData.eqv; rfl
  rw [this]
  unfold vals
  rw [eqvAll_map, List.map_inj_left]
  exact ⟨fun h k hk => (attr_veq e e' k).mp (h k hk), fun h k hk => (attr_veq e e' k).mpr (h k hk)⟩

inductive Nm where
  | self | edges (i : Nat) | cpls | cpl (e : Ed) | idx | dic (ks : List Str) (i : Nat) | grp (ks : List Str) (i : Nat) (v : List V)
noncomputable abbrev Adr := Nm → Option Addr
open Classical in
noncomputable def aput (ad : Adr) (n : Nm) (a : Addr) : Adr := fun m => if m = n then some a else ad m
open Classical in
noncomputable def cput (ct : Nm → AO) (n : Nm) (y : AO) : Nm → AO := fun m => if m = n then y else ct m
theorem aput_self (ad : Adr) (n : Nm) (a : Addr) : aput ad n a n = some a := if_pos rfl
theorem aput_ne (ad : Adr) {n m : Nm} (a : Addr) (h : m ≠ n) : aput ad n a m = ad m := if_neg h
theorem cput_self (ct : Nm → AO) (n : Nm) (y : AO) : cput ct n y n = y := if_pos rfl
theorem cput_ne (ct : Nm → AO) {n m : Nm} (y : AO) (h : m ≠ n) : cput ct n y m = ct m := if_neg h

structure Lay (ad : Adr) (ct : Nm → AO) (σ : Store) : Prop where
  inj : ∀ n m a, ad n = some a → ad m = some a → n = m
  has : ∀ n a, ad n = some a → σ a = some (ct n)
theorem Lay.upd {ad : Adr} {ct : Nm → AO} {σ : Store} (x : Lay ad ct σ) {n : Nm} {a : Addr} (e : ad n = some a) (y : AO) : Lay ad (cput ct n y) (put σ a y) := ⟨x.inj, fun m b e' => by
  by_cases h : m = n
  · subst h
    rw [e] at e'; cases e'
    rw [put_self, cput_self]
  · have ne : b ≠ a := fun q => h (x.inj m n b e' (q ▸ e))
    rw [put_ne _ _ ne, cput_ne _ _ h]; exact x.has m b e'⟩
theorem Lay.new {ad : Adr} {ct : Nm → AO} {σ : Store} (x : Lay ad ct σ) {n : Nm} {a : Addr} (e : ad n = none) (ha : σ a = none) (y : AO) : Lay (aput ad n a) (cput ct n y) (put σ a y) := by
  have old : ∀ m b, m ≠ n → aput ad n a m = some b → ad m = some b ∧ b ≠ a := fun m b h e' => by
    rw [aput_ne _ _ h] at e'
    refine ⟨e', fun q => ?_⟩
    have := x.has m b e'
    rw [q, ha] at this; cases this
  refine ⟨fun m m' b e1 e2 => ?_, fun m b e' => ?_⟩
  · by_cases h : m = n
    · by_cases h' : m' = n
      · rw [h, h']
      · subst h
        rw [aput_self] at e1; cases e1
        exact absurd rfl (old m' a h' e2).2
    · by_cases h' : m' = n
      · subst h'
        rw [aput_self] at e2; cases e2
        exact absurd rfl (old m a h e1).2
      · exact x.inj m m' b (old m b h e1).1 (old m' b h' e2).1
  · by_cases h : m = n
    · subst h
      rw [aput_self] at e'; cases e'
      rw [put_self, cput_self]
    · obtain ⟨e2, ne⟩ := old m b h e'
      rw [put_ne _ _ ne, cput_ne _ _ h]; exact x.has m b e2
theorem Lay.other {ad : Adr} {ct : Nm → AO} {σ : Store} (x : Lay ad ct σ) {a : Addr} (ha : σ a = none) (y : AO) : Lay ad ct (put σ a y) := ⟨x.inj, fun n b e => by
  rw [put_ne]; exact x.has n b e
  rintro rfl; have := x.has n b e; rw [ha] at this; cases this⟩
theorem Lay.sub {ad : Adr} {ct : Nm → AO} {σ σ' : Store} (x : Lay ad ct σ) (h : ∀ n a, ad n = some a → σ' a = σ a) : Lay ad ct σ' := ⟨x.inj, fun n a e => (h n a e).trans (x.has n a e)⟩
open Classical in
noncomputable def adel (ad : Adr) (n : Nm) : Adr := fun m => if m = n then none else ad m
theorem adel_ne (ad : Adr) {n m : Nm} (h : m ≠ n) : adel ad n m = ad m := if_neg h
theorem adel_self (ad : Adr) (n : Nm) : adel ad n n = none := if_pos rfl
theorem Lay.lend {ad : Adr} {ct : Nm → AO} {σ : Store} (x : Lay ad ct σ) {n : Nm} {a : Addr} (e : ad n = some a) : Lay (adel ad n) ct (del σ a) := by
  have old : ∀ m b, adel ad n m = some b → ad m = some b ∧ m ≠ n := fun m b e' => by
    by_cases h : m = n
    · subst h; rw [adel_self] at e'; cases e'
    · rw [adel_ne _ h] at e'; exact ⟨e', h⟩
  refine ⟨fun m m' b e1 e2 => x.inj m m' b (old m b e1).1 (old m' b e2).1, fun m b e' => ?_⟩
  obtain ⟨e2, h⟩ := old m b e'
  have ne : b ≠ a := fun q => h (x.inj m n b e2 (q ▸ e))
  rw [del_ne _ ne]; exact x.has m b e2
theorem Lay.back {ad : Adr} {ct : Nm → AO} {σ : Store} {n : Nm} {a : Addr} (x : Lay (adel ad n) ct σ) (e : ad n = some a) (ha : σ a = none) : Lay ad ct (put σ a (ct n)) := by
  have := x.new (n := n) (a := a) (adel_self _ _) ha (ct n)
  have e1 : aput (adel ad n) n a = ad := by
    funext m
    by_cases h : m = n
    · subst h; rw [aput_self, e]
    · rw [aput_ne _ _ h, adel_ne _ h]
  have e2 : cput ct n (ct n) = ct := by
    funext m
    by_cases h : m = n
    · subst h; rw [cput_self]
    · rw [cput_ne _ _ h]
  rwa [e1, e2] at this
end
section
open Classical

theorem dget_find {α : Type} {key val : α → V} {k : V} {p : α → Bool} : ∀ {l : List α}, (∀ a ∈ l, veq (key a) k = p a) → dget (l.map fun a => (key a, val a)) k = (l.find? p).map val
  | [], _ => rfl
  | a :: r, h => by
    have ih := dget_find (val := val) (l := r) fun b hb => h b (.tail _ hb)
    unfold dget at ih ⊢
    rw [List.map_cons, List.find?_cons, List.find?_cons]
    dsimp only
    rw [h a (.head _)]
    cases p a with
    | true => rfl
    | false => exact ih
theorem dput_new {k x : V} : ∀ {es : List (V × V)}, dget es k = none → dput es k x = es ++ [(k, x)]
  | [], _ => rfl
  | e :: r, h => by
    unfold dget at h
    rw [List.find?_cons] at h
    unfold dput
    split at h
    · cases h
    · rename_i hq
      rw [if_neg (by rw [hq]; exact Bool.false_ne_true), List.cons_append, dput_new (by unfold dget; exact h)]
theorem dput_map {α : Type} {key val : α → V} {k x : V} {p : α → Bool} {a0 : α} : ∀ {l : List α}, (∀ a ∈ l, veq (key a) k = p a) → l.find? p = some a0 → (l.Pairwise fun a b => p a = true → p b = false) → dput (l.map fun a => (key a, val a)) k x = l.map fun a => (key a, if p a then x else val a)
  | [], _, h, _ => by simp at h
  | a :: r, h, h0, hp => by
    obtain ⟨p1, p2⟩ := List.pairwise_cons.mp hp
    rw [List.map_cons, List.map_cons]
    unfold dput
    dsimp only
    rw [h a (.head _)]
    cases hpa : p a with
    | true =>
      rw [if_pos rfl]
      have : (r.map fun a => (key a, val a)) = r.map fun a => (key a, if p a then x else val a) := by
        apply List.map_congr_left
        intro b hb
        rw [p1 b hb hpa]; simp
      rw [this]; simp
    | false =>
      rw [if_neg (by simp)]
      congr 1
      rw [List.find?_cons, hpa] at h0
      exact dput_map (fun b hb => h b (.tail _ hb)) h0 p2

noncomputable abbrev Mo := List (Ed × List (List Ed))
noncomputable def bk (late : Bool) (e : Ed) : Nat := if late then e.hi.toNat else 0
noncomputable def nb (late : Bool) : Nat := if late then 4 else 1
noncomputable def gk (l : List (List V)) : List (List V) := l.foldl (fun acc v => if v ∈ acc then acc else acc ++ [v]) []
theorem gk_snoc (l : List (List V)) (v : List V) : gk (l ++ [v]) = if v ∈ gk l then gk l else gk l ++ [v] := by unfold gk; rw [List.foldl_append]; rfl
theorem mem_gk {v : List V} (l : List (List V)) : v ∈ gk l ↔ v ∈ l := by
  have key : ∀ (l acc : List (List V)), v ∈ l.foldl (fun acc v => if v ∈ acc then acc else acc ++ [v]) acc ↔ v ∈ acc ∨ v ∈ l := by
    intro l
    induction l with
    | nil => intro acc; simp
    | cons w r ih =>
      intro acc
      rw [List.foldl_cons, ih]
      split
      · rename_i hw
        simp only [List.mem_cons]
        exact ⟨fun h => h.elim .inl fun h => .inr (.inr h), fun h => h.elim .inl fun h => h.elim (fun e => .inl (e ▸ hw)) .inr⟩
      · simp only [List.mem_append, List.mem_singleton, List.mem_cons, List.not_mem_nil, or_false]
        exact ⟨fun h => h.elim (fun h => h.elim .inl fun e => .inr (.inl e)) fun h => .inr (.inr h), fun h => h.elim (fun h => .inl (.inl h)) fun h => h.elim (fun e => .inl (.inr e)) .inr⟩
  unfold gk
  rw [key l []]
  simp
theorem gk_len (l : List (List V)) : (gk l).length ≤ l.length := by
  have key : ∀ (l acc : List (List V)), (l.foldl (fun acc v => if v ∈ acc then acc else acc ++ [v]) acc).length ≤ acc.length + l.length := by
    intro l
    induction l with
    | nil => intro acc; simp
    | cons w r ih =>
      intro acc
      rw [List.foldl_cons]
      have := ih (if w ∈ acc then acc else acc ++ [w])
      have h2 : (if w ∈ acc then acc else acc ++ [w]).length ≤ acc.length + 1 := by
        split
        · omega
        · rw [List.length_append, List.length_singleton]; omega
      rw [List.length_cons]; omega
  have := key l []
  unfold gk
  simpa using this

noncomputable def ad! (ad : Adr) (n : Nm) : V := .ref ((ad n).getD 0)
noncomputable def inB (late : Bool) (L : List Ed) (i : Nat) : List Ed := L.filter fun e => decide (bk late e = i)
noncomputable def gks (late : Bool) (L : List Ed) (ks : List Str) (i : Nat) : List (List V) := gk ((inB late L i).map fun e => vals e ks)
noncomputable def edgesC (late : Bool) (L : List Ed) (i : Nat) : AO := .list ((inB late L i).map Ed.obj)
noncomputable def dicC (ad : Adr) (late : Bool) (L : List Ed) (ks : List Str) (i : Nat) : AO := .dict ((gks late L ks i).map fun v => (.tup v, ad! ad (.grp ks i v)))
noncomputable def grpC (late : Bool) (L : List Ed) (ks : List Str) (i : Nat) (v : List V) : AO := .list (((inB late L i).filter fun e => decide (vals e ks = v)).map Ed.obj)
noncomputable def cplsC (ad : Adr) (M : Mo) : AO := .dict (M.map fun m => (m.1.ck, ad! ad (.cpl m.1)))
noncomputable def cplC (rows : List (List Ed)) : AO := .dict (rows.map fun r => (.tup (r.map Ed.ck), .tup (r.map Ed.obj)))
noncomputable def ixV (ad : Adr) (late : Bool) (ks : List Str) : V := if late then .flst [ad! ad (.dic ks 0), ad! ad (.dic ks 1), ad! ad (.dic ks 2), ad! ad (.dic ks 3)] else ad! ad (.dic ks 0)
noncomputable def idxC (ad : Adr) (late : Bool) (I : List (List Str)) : AO := .dict (I.map fun ks => (.tup (strV ks), ixV ad late ks))
noncomputable def selfNs (late : Bool) : List Str := ["_tokens", "_num_leaves", if late then "_edgelists" else "_edges", "_edge_to_cpls", "_indexes"]
noncomputable def selfC (ad : Adr) (late : Bool) : AO := .ns (selfNs late) [.tup [.str "x", .str "y", .str "x"], .int 3,
  if late then .flst [ad! ad (.edges 0), ad! ad (.edges 1), ad! ad (.edges 2), ad! ad (.edges 3)] else ad! ad (.edges 0), ad! ad .cpls, ad! ad .idx]
theorem ad!_at {ad : Adr} {n : Nm} {a : Addr} (h : ad n = some a) : ad! ad n = .ref a := by unfold ad!; rw [h]; rfl

structure Bkt (ad : Adr) (ct : Nm → AO) (late : Bool) (L : List Ed) (ks : List Str) (i : Nat) : Prop where
  dic : ∃ d, ad (.dic ks i) = some d
  dicc : ct (.dic ks i) = dicC ad late L ks i
  grp : ∀ v, v ∈ gks late L ks i → (∃ g, ad (.grp ks i v) = some g) ∧ ct (.grp ks i v) = grpC late L ks i v
  off : ∀ v, v ∉ gks late L ks i → ad (.grp ks i v) = none
theorem mem_gks {late : Bool} {L : List Ed} {ks : List Str} {i : Nat} {v : List V} : v ∈ gks late L ks i ↔ ∃ e ∈ L, bk late e = i ∧ vals e ks = v := by
  unfold gks
  rw [mem_gk, List.mem_map]
  unfold inB
  constructor
  · rintro ⟨e, he, rfl⟩
    rw [List.mem_filter, decide_eq_true_eq] at he
    exact ⟨e, he.1, he.2, rfl⟩
  · rintro ⟨e, he, hb, rfl⟩
    exact ⟨e, by rw [List.mem_filter, decide_eq_true_eq]; exact ⟨he, hb⟩, rfl⟩
theorem gks_dget {ad : Adr} {late : Bool} {L : List Ed} {ks : List Str} {i : Nat} (e : Ed) : dget ((gks late L ks i).map fun v => (.tup v, ad! ad (.grp ks i v))) (.tup (vals e ks)) = if vals e ks ∈ gks late L ks i then some (ad! ad (.grp ks i (vals e ks))) else none := by
  rw [dget_find (p := fun v => decide (v = vals e ks)) (fun v hv => by
    obtain ⟨e', _, _, rfl⟩ := mem_gks.mp hv
    rw [Bool.eq_iff_iff, veq_vals, decide_eq_true_iff])]
  split
  · rename_i h
    have : (gks late L ks i).find? (fun v => decide (v = vals e ks)) = some (vals e ks) := by
      cases q : (gks late L ks i).find? (fun v => decide (v = vals e ks)) with
      | none =>
        rw [List.find?_eq_none] at q
        exact absurd (decide_eq_true rfl) (q _ h)
      | some w =>
        have := List.find?_some q
        rw [of_decide_eq_true this]
    rw [this]; rfl
  · rename_i h
    have : (gks late L ks i).find? (fun v => decide (v = vals e ks)) = none := by
      rw [List.find?_eq_none]
      intro w hw hd
      exact h (of_decide_eq_true hd ▸ hw)
    rw [this]; rfl

theorem inB_snoc {late : Bool} {L : List Ed} {e : Ed} {i : Nat} : inB late (L ++ [e]) i = if bk late e = i then inB late L i ++ [e] else inB late L i := by
  unfold inB
  rw [List.filter_append]
  split
  · rename_i h; simp [h]
  · rename_i h; simp [h]
theorem gks_snoc {late : Bool} {L : List Ed} {e : Ed} {ks : List Str} {i : Nat} : gks late (L ++ [e]) ks i = if bk late e = i then (if vals e ks ∈ gks late L ks i then gks late L ks i else gks late L ks i ++ [vals e ks]) else gks late L ks i := by
  unfold gks
  rw [inB_snoc]
  split
  · rw [List.map_append, List.map_singleton, gk_snoc]
  · rfl
theorem grpC_snoc {late : Bool} {L : List Ed} {e : Ed} {ks : List Str} {i : Nat} {v : List V} : grpC late (L ++ [e]) ks i v = if bk late e = i ∧ vals e ks = v then .list ((((inB late L i).filter fun e => decide (vals e ks = v)).map Ed.obj) ++ [e.obj]) else grpC late L ks i v := by
  unfold grpC
  rw [inB_snoc]
  by_cases h : bk late e = i
  · rw [if_pos h, List.filter_append]
    by_cases h2 : vals e ks = v
    · rw [if_pos ⟨h, h2⟩]; simp [h2]
    · rw [if_neg (fun z => h2 z.2)]; simp [h2]
  · rw [if_neg h, if_neg (fun z => h z.1)]
theorem Bkt.keep {ad ad' : Adr} {ct ct' : Nm → AO} {late : Bool} {L : List Ed} {ks : List Str} {i : Nat} (B : Bkt ad ct late L ks i) (h1 : ad' (.dic ks i) = ad (.dic ks i)) (h2 : ct' (.dic ks i) = ct (.dic ks i)) (h3 : ∀ v, ad' (.grp ks i v) = ad (.grp ks i v)) (h4 : ∀ v, ct' (.grp ks i v) = ct (.grp ks i v)) : Bkt ad' ct' late L ks i := by
  refine ⟨by rw [h1]; exact B.dic, ?_, fun v hv => ?_, fun v hv => by rw [h3]; exact B.off v hv⟩
  · rw [h2, B.dicc]
    unfold dicC
    congr 1
    apply List.map_congr_left
    intro v _
    unfold ad!
    rw [h3]
  · rw [h3, h4]; exact B.grp v hv
theorem Bkt.skip {ad : Adr} {ct : Nm → AO} {late : Bool} {L : List Ed} {ks : List Str} {i : Nat} (B : Bkt ad ct late L ks i) {e : Ed} (h : bk late e ≠ i) : Bkt ad ct late (L ++ [e]) ks i := by
  have h1 : gks late (L ++ [e]) ks i = gks late L ks i := by rw [gks_snoc, if_neg h]
  refine ⟨B.dic, ?_, fun v hv => ?_, fun v hv => B.off v (h1 ▸ hv)⟩
  · rw [B.dicc]; unfold dicC; rw [h1]
  · rw [h1] at hv
    rw [grpC_snoc, if_neg (fun z => h z.1)]
    exact B.grp v hv
theorem Bkt.found {ad : Adr} {ct : Nm → AO} {late : Bool} {L : List Ed} {ks : List Str} {i : Nat} (B : Bkt ad ct late L ks i) {e : Ed} (h : bk late e = i) (hv : vals e ks ∈ gks late L ks i) :
    Bkt ad (cput ct (.grp ks i (vals e ks)) (.list ((((inB late L i).filter fun e' => decide (vals e' ks = vals e ks)).map Ed.obj) ++ [e.obj]))) late (L ++ [e]) ks i := by
  have h1 : gks late (L ++ [e]) ks i = gks late L ks i := by rw [gks_snoc, if_pos h, if_pos hv]
  refine ⟨B.dic, ?_, fun v hv' => ?_, fun v hv' => B.off v (h1 ▸ hv')⟩
  · rw [cput_ne _ _ (by intro z; cases z), B.dicc]; unfold dicC; rw [h1]
  · rw [h1] at hv'
    refine ⟨(B.grp v hv').1, ?_⟩
    rw [grpC_snoc]
    by_cases z : vals e ks = v
    · subst z; rw [cput_self, if_pos ⟨h, rfl⟩]
    · rw [cput_ne _ _ (by intro q; cases q; exact z rfl), if_neg (fun q => z q.2)]
      exact (B.grp v hv').2
theorem Bkt.fresh {ad : Adr} {ct : Nm → AO} {late : Bool} {L : List Ed} {ks : List Str} {i : Nat} (B : Bkt ad ct late L ks i) {e : Ed} (h : bk late e = i) (hv : vals e ks ∉ gks late L ks i) {g : Addr} :
    Bkt (aput ad (.grp ks i (vals e ks)) g) (cput (cput ct (.dic ks i) (.dict ((gks late L ks i).map (fun v => (.tup v, ad! ad (.grp ks i v))) ++ [(.tup (vals e ks), .ref g)]))) (.grp ks i (vals e ks)) (.list [e.obj])) late (L ++ [e]) ks i := by
  have h1 : gks late (L ++ [e]) ks i = gks late L ks i ++ [vals e ks] := by rw [gks_snoc, if_pos h, if_neg hv]
  refine ⟨by rw [aput_ne _ _ (by intro z; cases z)]; exact B.dic, ?_, fun v hv' => ?_, fun v hv' => ?_⟩
  · rw [cput_ne _ _ (by intro z; cases z), cput_self]
    unfold dicC
    rw [h1, List.map_append, List.map_singleton]
    congr 2
    · apply List.map_congr_left
      intro v hv'
      unfold ad!
      rw [aput_ne _ _ (by intro z; cases z; exact hv hv')]
    · unfold ad!; rw [aput_self]; rfl
  · rw [h1] at hv'
    by_cases z : v = vals e ks
    · subst z
      refine ⟨⟨g, aput_self _ _ _⟩, ?_⟩
      rw [cput_self, grpC_snoc, if_pos ⟨h, rfl⟩]
      have : (inB late L i).filter (fun e' => decide (vals e' ks = vals e ks)) = [] := by
        rw [List.filter_eq_nil_iff]
        intro e' he' hd
        refine hv (mem_gks.mpr ⟨e', ?_, ?_, of_decide_eq_true hd⟩)
        · unfold inB at he'; exact (List.mem_filter.mp he').1
        · unfold inB at he'; exact of_decide_eq_true (List.mem_filter.mp he').2
      rw [this]; rfl
    · have hv2 : v ∈ gks late L ks i := by
        rcases List.mem_append.mp hv' with q | q
        · exact q
        · exact absurd (List.mem_singleton.mp q) z
      rw [aput_ne _ _ (by intro q; cases q; exact z rfl), cput_ne _ _ (by intro q; cases q; exact z rfl), cput_ne _ _ (by intro q; cases q), grpC_snoc, if_neg (fun q => z q.2.symm)]
      exact B.grp v hv2
  · rw [h1, List.mem_append, List.mem_singleton, not_or] at hv'
    rw [aput_ne _ _ (by intro q; cases q; exact hv'.2 rfl)]
    exact B.off v hv'.1
theorem Bkt.empty {ad : Adr} {ct : Nm → AO} {late : Bool} {ks : List Str} {i : Nat} {d : Addr} (h1 : ad (.dic ks i) = some d) (h2 : ct (.dic ks i) = .dict []) (h3 : ∀ v, ad (.grp ks i v) = none) : Bkt ad ct late [] ks i :=
  ⟨⟨d, h1⟩, h2, fun v hv => by obtain ⟨e, he, _⟩ := mem_gks.mp hv; simp at he, fun v _ => h3 v⟩
end
section
section
variable {c : Cx} {n : Nat} {env : Env} {loc : Loc} {σ : Store} {sc : Scope} {rest : List Stmt} {K : Fl → Loc → Store → Prop}
theorem Sub.refl (σ : Store) : Sub σ σ := fun _ _ e => e
theorem WB_group {X : Expr} {xv xe : Str} {p1 p2 p3 p4 p5 p6 p7 pos : Pos} {d : Addr} {v : List V} {x : V} {es : List (V × V)} (hi : interactive env = false)
    (hX : WE c n env X loc σ fun u σ1 => u = .ref d ∧ σ1 = σ) (hv : loc.lookup xv = some (.tup v)) (he : loc.lookup xe = some x) (hd : σ d = some (.dict es)) (hf : (V.tup v).flat 8 = true) (hl : es.length ≤ 1000)
    (hm1 : ∃ pl, eval (.Call (.Attribute X "setdefault" p1) [.Name xv p2, .List [] p3] [] p4) env = (do
      let ov ← eval X env
      standAt p1.atName
      let (f, first) ← holding [ov] (getMethod ov "setdefault" pl)
      callWith p4 f first (backTo p4 (starEach [.Name xv p2, .List [] p3] env)) []))
    (hm2 : ∃ pl, eval (.Call (.Attribute (.Call (.Attribute X "setdefault" p1) [.Name xv p2, .List [] p3] [] p4) "append" p5) [.Name xe p6] [] p7) env = (do
      let ov ← eval (.Call (.Attribute X "setdefault" p1) [.Name xv p2, .List [] p3] [] p4) env
      standAt p5.atName
      let (f, first) ← holding [ov] (getMethod ov "append" pl)
      callWith p7 f first (backTo p7 (starEach [.Name xe p6] env)) []))
    (found : ∀ y, dget es (.tup v) = some y → ∃ g l, y = .ref g ∧ σ g = some (.list l) ∧ l.length ≤ 1000 ∧ WB c n env rest loc (put σ g (.list (l ++ [x]))) K)
    (new : dget es (.tup v) = none → ∀ g, σ g = none → g ≠ d → WB c n env rest loc (put (put σ d (.dict (es ++ [(.tup v, .ref g)]))) g (.list [x])) K) :
    WB c n env (.Expr (.Call (.Attribute (.Call (.Attribute X "setdefault" p1) [.Name xv p2, .List [] p3] [] p4) "append" p5) [.Name xe p6] [] p7) pos :: rest) loc σ K := by
  refine WB_drop hi rfl (WE_meth (WE_meth (WX.mono hX fun u σ1 hu => ?_) rfl hm1) rfl hm2)
  obtain ⟨rfl, rfl⟩ := hu
  intro pl
  refine O_setdefault hd ⟨kept_builtin, WL_cons (WE_name hv (WL_cons (WE_list (WL_nil ⟨by decide, fun g hg => WL_nil ?_⟩)) rfl)) rfl⟩
  have gd : g ≠ d := by rintro rfl; rw [hg] at hd; cases hd
  have hd' : put σ1 g (.list []) d = some (.dict es) := by rw [put_ne _ _ gd.symm]; exact hd
  refine C_setdefault hd' hf hl (fun y hy => ?_) (fun hn => ?_)
  · intro pl2
    obtain ⟨g0, l, rfl, hg0, hl0, k⟩ := found y hy
    have gg : g0 ≠ g := by rintro rfl; rw [hg] at hg0; cases hg0
    have hg0' : put σ1 g (.list []) g0 = some (.list l) := by rw [put_ne _ _ gg]; exact hg0
    refine O_bm_list hg0' ⟨kept_builtin, WL_cons (WE_name he (WL_nil ?_)) rfl⟩
    refine C_append hg0' hl0 ?_
    refine WB.forget (σ' := put σ1 g0 (.list (l ++ [x]))) (fun a y e => ?_) (fun _ _ e => e) k
    by_cases h : a = g0
    · subst h; rw [put_self] at e ⊢; exact e
    · rw [put_ne _ _ h] at e ⊢
      rw [put_ne]; exact e
      rintro rfl; rw [hg] at e; cases e
  · intro pl2
    have hg2 : put (put σ1 g (.list [])) d (.dict (es ++ [(.tup v, .ref g)])) g = some (.list []) := by rw [put_ne _ _ gd, put_self]
    refine O_bm_list hg2 ⟨kept_builtin, WL_cons (WE_name he (WL_nil ?_)) rfl⟩
    refine C_append hg2 (by decide) ?_
    have e : put (put (put σ1 g (.list [])) d (.dict (es ++ [(.tup v, .ref g)]))) g (.list ([] ++ [x])) = put (put σ1 d (.dict (es ++ [(.tup v, .ref g)]))) g (.list [x]) := by
      funext a
      unfold put
      by_cases h1 : a = g
      · simp [h1]
      · by_cases h2 : a = d <;> simp [h1, h2]
    rw [e]
    exact new hn g hg gd
end
end
section
open Classical

noncomputable def Fra (ad ad' : Adr) (σ σ' : Store) : Prop := ∀ a y, σ a = some y → (∀ n, ad n ≠ some a) → σ' a = some y ∧ ∀ n, ad' n ≠ some a
theorem Fra.refl (ad : Adr) (σ : Store) : Fra ad ad σ σ := fun a y e h => ⟨e, h⟩
theorem Fra.trans {a b d : Adr} {x y z : Store} (p : Fra a b x y) (q : Fra b d y z) : Fra a d x z := fun u v e h => let ⟨e', h'⟩ := p u v e h; q u v e' h'
theorem Fra.upd {ad : Adr} {σ : Store} {n : Nm} {a : Addr} (e : ad n = some a) (y : AO) : Fra ad ad σ (put σ a y) := fun b z eb h => ⟨by rw [put_ne]; exact eb; rintro rfl; exact h n e, h⟩
theorem Fra.new {ad : Adr} {σ : Store} {n : Nm} {a : Addr} (e : σ a = none) (y : AO) : Fra ad (aput ad n a) σ (put σ a y) := fun b z eb h => by
  have ne : b ≠ a := by rintro rfl; rw [e] at eb; cases eb
  refine ⟨by rw [put_ne _ _ ne]; exact eb, fun m hm => ?_⟩
  by_cases q : m = n
  · subst q; rw [aput_self] at hm; cases hm; exact ne rfl
  · rw [aput_ne _ _ q] at hm; exact h m hm

noncomputable def Nm.at (ks : List Str) (i : Nat) : Nm → Prop := fun n => n = .dic ks i ∨ ∃ v, n = .grp ks i v
structure Grp (ad ad' : Adr) (ct ct' : Nm → AO) (ks : List Str) (i : Nat) : Prop where
  ads : ∀ n, ¬ n.at ks i → ad' n = ad n
  dic : ad' (.dic ks i) = ad (.dic ks i)
  cts : ∀ n, ¬ n.at ks i → ct' n = ct n
  mono : ∀ n a, ad n = some a → ad' n = some a

section
variable {c : Cx} {n : Nat} {env : Env} {loc : Loc} {σ : Store} {sc : Scope} {rest : List Stmt} {K : Fl → Loc → Store → Prop}
theorem gks_len {late : Bool} {L : List Ed} {ks : List Str} {i : Nat} : (gks late L ks i).length ≤ L.length := by
  unfold gks
  refine Nat.le_trans (gk_len _) ?_
  rw [List.length_map]
  unfold inB
  exact List.length_filter_le _ _
theorem WB_grp {X : Expr} {xv xe : Str} {p1 p2 p3 p4 p5 p6 p7 pos : Pos} {ad : Adr} {ct : Nm → AO} {late : Bool} {L : List Ed} {ks : List Str} {i : Nat} {d : Addr} {e : Ed} (hi : interactive env = false)
    (lay : Lay ad ct σ) (B : Bkt ad ct late L ks i) (hb : bk late e = i) (had : ad (.dic ks i) = some d) (hL : L.length ≤ 900)
    (hX : WE c n env X loc σ fun u σ1 => u = .ref d ∧ σ1 = σ) (hv : loc.lookup xv = some (.tup (vals e ks))) (he : loc.lookup xe = some e.obj)
    (hm1 : ∃ pl, eval (.Call (.Attribute X "setdefault" p1) [.Name xv p2, .List [] p3] [] p4) env = (do
      let ov ← eval X env
      standAt p1.atName
      let (f, first) ← holding [ov] (getMethod ov "setdefault" pl)
      callWith p4 f first (backTo p4 (starEach [.Name xv p2, .List [] p3] env)) []))
    (hm2 : ∃ pl, eval (.Call (.Attribute (.Call (.Attribute X "setdefault" p1) [.Name xv p2, .List [] p3] [] p4) "append" p5) [.Name xe p6] [] p7) env = (do
      let ov ← eval (.Call (.Attribute X "setdefault" p1) [.Name xv p2, .List [] p3] [] p4) env
      standAt p5.atName
      let (f, first) ← holding [ov] (getMethod ov "append" pl)
      callWith p7 f first (backTo p7 (starEach [.Name xe p6] env)) []))
    (k : ∀ ad' ct' σ', Lay ad' ct' σ' → Bkt ad' ct' late (L ++ [e]) ks i → Grp ad ad' ct ct' ks i → Fra ad ad' σ σ' → WB c n env rest loc σ' K) :
    WB c n env (.Expr (.Call (.Attribute (.Call (.Attribute X "setdefault" p1) [.Name xv p2, .List [] p3] [] p4) "append" p5) [.Name xe p6] [] p7) pos :: rest) loc σ K := by
  have hσ : σ d = some (.dict ((gks late L ks i).map fun v => (.tup v, ad! ad (.grp ks i v)))) := by
    have := lay.has _ _ had
    rw [B.dicc] at this
    exact this
  refine WB_group hi hX hv he hσ (vals_flat e ks) (by rw [List.length_map]; have := @gks_len late L ks i; omega) hm1 hm2 (fun y hy => ?_) (fun hn g hg gd => ?_)
  · rw [gks_dget] at hy
    split at hy
    · rename_i hv
      cases hy
      obtain ⟨⟨g, hg⟩, hc⟩ := B.grp _ hv
      have hl := lay.has _ _ hg
      rw [hc] at hl
      refine ⟨g, _, ad!_at hg, hl, ?_, ?_⟩
      · rw [List.length_map]
        have h1 : ((inB late L i).filter fun e' => decide (vals e' ks = vals e ks)).length ≤ (inB late L i).length := List.length_filter_le _ _
        have h2 : (inB late L i).length ≤ L.length := by unfold inB; exact List.length_filter_le _ _
        omega
      · refine k ad _ _ (lay.upd hg _) (B.found hb hv) ⟨fun _ _ => rfl, rfl, fun m hm => cput_ne _ _ (by rintro rfl; exact hm (.inr ⟨_, rfl⟩)), fun _ _ e => e⟩ (Fra.upd hg _)
    · cases hy
  · rw [gks_dget] at hn
    split at hn
    · cases hn
    · rename_i hv
      have l1 := lay.upd had (.dict ((gks late L ks i).map (fun v => (.tup v, ad! ad (.grp ks i v))) ++ [(.tup (vals e ks), .ref g)]))
      have hg' : put σ d (.dict ((gks late L ks i).map (fun v => (.tup v, ad! ad (.grp ks i v))) ++ [(.tup (vals e ks), .ref g)])) g = none := by rw [put_ne _ _ gd]; exact hg
      have l2 := l1.new (n := .grp ks i (vals e ks)) (B.off _ hv) hg' (.list [e.obj])
      refine k _ _ _ l2 (B.fresh hb hv) ⟨fun m hm => aput_ne _ _ (by rintro rfl; exact hm (.inr ⟨_, rfl⟩)), aput_ne _ _ (by intro z; cases z), fun m hm => by rw [cput_ne _ _ (by rintro rfl; exact hm (.inr ⟨_, rfl⟩)), cput_ne _ _ (by rintro rfl; exact hm (.inl rfl))], fun m a ea => ?_⟩ ((Fra.upd had _).trans (Fra.new hg' _))
      by_cases q : m = .grp ks i (vals e ks)
      · subst q; rw [B.off _ hv] at ea; cases ea
      · rw [aput_ne _ _ q]; exact ea
end

structure CS (late : Bool) (ad : Adr) (ct : Nm → AO) (Le : List Ed) (M : Mo) (Li : List Str → List Ed) (I : List (List Str)) : Prop where
  self : ∃ a, ad .self = some a
  selfc : ct .self = selfC ad late
  edges : ∀ i, i < nb late → (∃ a, ad (.edges i) = some a) ∧ ct (.edges i) = edgesC late Le i
  cpls : ∃ a, ad .cpls = some a
  cplsc : ct .cpls = cplsC ad M
  cpl : ∀ m ∈ M, (∃ a, ad (.cpl m.1) = some a) ∧ ct (.cpl m.1) = cplC m.2
  cploff : ∀ e, (∀ m ∈ M, m.1 ≠ e) → ad (.cpl e) = none
  idx : ∃ a, ad .idx = some a
  idxc : ct .idx = idxC ad late I
  bkt : ∀ ks ∈ I, ∀ i, i < nb late → Bkt ad ct late (Li ks) ks i
  bktoff : ∀ ks, ks ∉ I → ∀ i, ad (.dic ks i) = none ∧ ∀ v, ad (.grp ks i v) = none
end
section
open Classical
noncomputable def LSub (l l' : Loc) : Prop := ∀ x V, l.lookup x = some V → l'.lookup x = some V
theorem LSub.nil (l : Loc) : LSub [] l := fun x V h => by simp at h
theorem LSub.cons {l l' : Loc} {x : Str} {v : V} (h : l'.lookup x = some v) (t : LSub l l') : LSub ((x, v) :: l) l' := fun y V e => by
  rw [List.lookup_cons] at e
  cases hb : y == x with
  | true => rw [hb] at e; cases e; rw [beq_iff_eq.mp hb]; exact h
  | false => rw [hb] at e; exact t y V e
theorem LSub.app {l l' : Loc} (h : LSub l l') {x : Str} {v : V} (e : l.lookup x = some v) : l'.lookup x = some v := h x v e
theorem inB_F {L : List Ed} : inB false L 0 = L := by unfold inB bk; simp
theorem selfF {ad : Adr} {ea ca ia : Addr} (h1 : ad (.edges 0) = some ea) (h2 : ad .cpls = some ca) (h3 : ad .idx = some ia) : selfC ad false = .ns ["_tokens", "_num_leaves", "_edges", "_edge_to_cpls", "_indexes"] [.tup [.str "x", .str "y", .str "x"], .int 3, .ref ea, .ref ca, .ref ia] := by
  unfold selfC selfNs
  rw [ad!_at h1, ad!_at h2, ad!_at h3]; rfl
theorem selfT {ad : Adr} {e0 e1 e2 e3 ca ia : Addr} (h0 : ad (.edges 0) = some e0) (h1 : ad (.edges 1) = some e1) (h2 : ad (.edges 2) = some e2) (h3 : ad (.edges 3) = some e3) (h4 : ad .cpls = some ca) (h5 : ad .idx = some ia) :
    selfC ad true = .ns ["_tokens", "_num_leaves", "_edgelists", "_edge_to_cpls", "_indexes"] [.tup [.str "x", .str "y", .str "x"], .int 3, .flst [.ref e0, .ref e1, .ref e2, .ref e3], .ref ca, .ref ia] := by
  unfold selfC selfNs
  rw [ad!_at h0, ad!_at h1, ad!_at h2, ad!_at h3, ad!_at h4, ad!_at h5]; rfl

structure CL (late : Bool) (ad : Adr) (ct : Nm → AO) (Le : List Ed) (M : Mo) (Li : List Str → List Ed) (I : List (List Str)) (σ : Store) : Prop where
  lay : Lay ad ct σ
  cs : CS late ad ct Le M Li I

section
variable {c : Cx} {n : Nat} {σ σ₀ : Store} {K : V → Store → Prop} {env : Env} {loc : Loc}
theorem vals_turns (P : Pg c) {scope : Scope} {elt : Expr} {K : V → Store → Prop} {e : Ed} {ks : List Str} {v : V} (hv : v = .tup (strV ks) ∨ v = .flst (strV ks)) (hr : ks.length ≤ 100)
    (step : ∀ C k (K' : V → Store → Prop), K' (attr e k) σ → WE c n (compEnvC scope (closL env scope.names []) C env) elt (("key", .str k) :: inner scope loc) σ K')
    (q : K (.flst (vals e ks)) σ) : Turns c n env loc scope "key" [] elt v σ K :=
  map_turns V.str (attr e) hv (by omega) (fun C k _ K' q => step C k K' q) q

theorem Bkt.ofGrp {ad ad' : Adr} {ct ct' : Nm → AO} {late : Bool} {L : List Ed} {ks ks' : List Str} {i j : Nat} (G : Grp ad ad' ct ct' ks i) (B : Bkt ad ct late L ks' j) (h : ks' ≠ ks ∨ j ≠ i) : Bkt ad' ct' late L ks' j := by
  have n1 : ¬ (Nm.dic ks' j).at ks i := by
    rintro (z | ⟨v, z⟩) <;> cases z
    rcases h with h | h <;> exact h rfl
  have n2 : ∀ v, ¬ (Nm.grp ks' j v).at ks i := by
    rintro v (z | ⟨w, z⟩) <;> cases z
    rcases h with h | h <;> exact h rfl
  exact B.keep (G.ads _ n1) (G.cts _ n1) (fun v => G.ads _ (n2 v)) fun v => G.cts _ (n2 v)
theorem CS.grp {late : Bool} {ad ad' : Adr} {ct ct' : Nm → AO} {Le : List Ed} {M : Mo} {Li : List Str → List Ed} {I : List (List Str)} {ks : List Str} {i : Nat} (C : CS late ad ct Le M Li I) (G : Grp ad ad' ct ct' ks i) (hks : ks ∈ I)
    {L' : List Ed} (hB : Bkt ad' ct' late L' ks i) (hB' : ∀ j, j < nb late → j ≠ i → Bkt ad' ct' late L' ks j) : CS late ad' ct' Le M (fun k => if k = ks then L' else Li k) I := by
  have same : ∀ n, ¬ n.at ks i → ad' n = ad n ∧ ct' n = ct n := fun n h => ⟨G.ads n h, G.cts n h⟩
  have dics : ∀ k j, ad' (.dic k j) = ad (.dic k j) := fun k j => by
    by_cases h : k = ks ∧ j = i
    · rw [h.1, h.2]; exact G.dic
    · exact G.ads _ (by
        rintro (z | ⟨v, z⟩) <;> cases z
        exact h ⟨rfl, rfl⟩)
  have eds : ∀ j, ad' (.edges j) = ad (.edges j) ∧ ct' (.edges j) = ct (.edges j) := fun j => same _ (by rintro (z | ⟨v, z⟩) <;> cases z)
  have cpls : ad' .cpls = ad .cpls ∧ ct' .cpls = ct .cpls := same _ (by rintro (z | ⟨v, z⟩) <;> cases z)
  have idx : ad' .idx = ad .idx ∧ ct' .idx = ct .idx := same _ (by rintro (z | ⟨v, z⟩) <;> cases z)
  have slf : ad' .self = ad .self ∧ ct' .self = ct .self := same _ (by rintro (z | ⟨v, z⟩) <;> cases z)
  have cpl : ∀ e, ad' (.cpl e) = ad (.cpl e) ∧ ct' (.cpl e) = ct (.cpl e) := fun e => same _ (by rintro (z | ⟨v, z⟩) <;> cases z)
  refine ⟨by rw [slf.1]; exact C.self, ?_, fun j hj => by rw [(eds j).1, (eds j).2]; exact C.edges j hj, by rw [cpls.1]; exact C.cpls, ?_, fun m hm => by rw [(cpl _).1, (cpl _).2]; exact C.cpl m hm, fun e h => by rw [(cpl e).1]; exact C.cploff e h, by rw [idx.1]; exact C.idx, ?_, fun k hk j hj => ?_, fun k hk j => ?_⟩
  · rw [slf.2, C.selfc]
    unfold selfC ad!
    simp only [(eds _).1, cpls.1, idx.1]
  · rw [cpls.2, C.cplsc]
    unfold cplsC ad!
    simp only [(cpl _).1]
  · rw [idx.2, C.idxc]
    unfold idxC ixV ad!
    simp only [dics]
  · by_cases h : k = ks
    · subst h
      rw [if_pos rfl]
      by_cases hji : j = i
      · subst hji; exact hB
      · exact hB' j hj hji
    · rw [if_neg h]
      exact (C.bkt k hk j hj).ofGrp G (.inl h)
  · have hne : k ≠ ks := fun z => hk (z ▸ hks)
    refine ⟨by rw [dics]; exact (C.bktoff k hk j).1, fun v => ?_⟩
    rw [G.ads _ (by rintro (z | ⟨w, z⟩) <;> cases z; exact hne rfl)]
    exact (C.bktoff k hk j).2 v
end
end
section
open Classical
theorem Grp.lift {ad ad1 : Adr} {ct ct1 : Nm → AO} {ks : List Str} {i : Nat} {ia : Addr} (h : ad .idx = some ia) (G : Grp (adel ad .idx) ad1 ct ct1 ks i) : Grp ad (aput ad1 .idx ia) ct ct1 ks i ∧ adel (aput ad1 .idx ia) .idx = ad1 := by
  have h1 : ad1 .idx = none := by rw [G.ads _ (by rintro (z | ⟨v, z⟩) <;> cases z), adel_self]
  refine ⟨⟨fun m hm => ?_, ?_, G.cts, fun m a e => ?_⟩, ?_⟩
  · by_cases z : m = .idx
    · subst z; rw [aput_self, h]
    · rw [aput_ne _ _ z, G.ads m hm, adel_ne _ z]
  · rw [aput_ne _ _ (by intro z; cases z), G.dic, adel_ne _ (by intro z; cases z)]
  · by_cases z : m = .idx
    · subst z; rw [aput_self]; rw [h] at e; exact e
    · rw [aput_ne _ _ z]; exact G.mono m a (by rw [adel_ne _ z]; exact e)
  · funext m
    by_cases z : m = .idx
    · subst z; rw [adel_self, h1]
    · rw [adel_ne _ z, aput_ne _ _ z]
theorem CS.congr {late : Bool} {ad : Adr} {ct : Nm → AO} {Le : List Ed} {M : Mo} {Li Li' : List Str → List Ed} {I : List (List Str)} (C : CS late ad ct Le M Li I) (h : ∀ ks ∈ I, Li' ks = Li ks) : CS late ad ct Le M Li' I :=
  ⟨C.self, C.selfc, C.edges, C.cpls, C.cplsc, C.cpl, C.cploff, C.idx, C.idxc, fun ks hk i hi => by rw [h ks hk]; exact C.bkt ks hk i hi, C.bktoff⟩
structure Reg (late : Bool) (dx ia : Addr) (ad0 : Adr) (σ0 : Store) (idx0 : AO) (Le : List Ed) (M : Mo) (L : List Ed) (e : Ed) (I : List (List Str)) (j : Nat) (ad : Adr) (ct : Nm → AO) (σ : Store) : Prop where
  lay : Lay (adel ad .idx) ct σ
  cs : CS late ad ct Le M (fun k => if k ∈ I.take j then L ++ [e] else L) I
  slf : ad .self = some dx
  idx : ad .idx = some ia
  idxc : ct .idx = idx0
  dics : ∀ ks i, ad (.dic ks i) = ad0 (.dic ks i)
  fra : Fra ad0 (adel ad .idx) σ0 σ
theorem Reg.start {late : Bool} {dx ia : Addr} {ad : Adr} {ct : Nm → AO} {σ : Store} {Le : List Ed} {M : Mo} {L : List Ed} {e : Ed} {I : List (List Str)} (lay : Lay ad ct σ) (C : CS late ad ct Le M (fun _ => L) I) (hs : ad .self = some dx) (hi : ad .idx = some ia) :
    Reg late dx ia ad σ (ct .idx) Le M L e I 0 ad ct (del σ ia) :=
  ⟨lay.lend hi, C.congr fun ks hk => by simp, hs, hi, rfl, fun _ _ => rfl, fun a y ea h => by
    have ne : a ≠ ia := by rintro rfl; exact h _ hi
    refine ⟨by rw [del_ne _ ne]; exact ea, fun m hm => ?_⟩
    by_cases z : m = .idx
    · subst z; rw [adel_self] at hm; cases hm
    · rw [adel_ne _ z] at hm; exact h m hm⟩
theorem Reg.step {late : Bool} {dx ia : Addr} {ad0 ad ad1 : Adr} {ct ct1 : Nm → AO} {σ0 σ σ1 : Store} {idx0 : AO} {Le : List Ed} {M : Mo} {L : List Ed} {e : Ed} {I : List (List Str)} {j : Nat} {ks : List Str} (R : Reg late dx ia ad0 σ0 idx0 Le M L e I j ad ct σ)
    (hk : I[j]? = some ks) (lay : Lay ad1 ct1 σ1) (hB : Bkt ad1 ct1 late (L ++ [e]) ks (bk late e)) (G : Grp (adel ad .idx) ad1 ct ct1 ks (bk late e)) (fr : Fra (adel ad .idx) ad1 σ σ1) (hnd : I.Nodup) :
    Reg late dx ia ad0 σ0 idx0 Le M L e I (j + 1) (aput ad1 .idx ia) ct1 σ1 := by
  obtain ⟨G', e1⟩ := G.lift R.idx
  have hm : ks ∈ I := List.mem_of_getElem? hk
  have hnt : ks ∉ I.take j := by
    intro z
    obtain ⟨i, hi, ei⟩ := List.mem_iff_getElem.mp z
    rw [List.getElem_take] at ei
    rw [List.length_take] at hi
    obtain ⟨hj, ej⟩ := List.getElem?_eq_some_iff.mp hk
    have := (List.getElem_inj hnd).mp (ei.trans ej.symm)
    omega
  have hB' : Bkt (aput ad1 .idx ia) ct1 late (L ++ [e]) ks (bk late e) := hB.keep (aput_ne _ _ (by intro z; cases z)) rfl (fun v => aput_ne _ _ (by intro z; cases z)) fun _ => rfl
  refine ⟨by rw [e1]; exact lay, ?_, ?_, aput_self _ _ _, ?_, fun k i => ?_, by rw [e1]; exact R.fra.trans fr⟩
  · refine (R.cs.grp G' hm hB' fun i hi hne => ?_).congr fun k hk' => ?_
    · have := R.cs.bkt ks hm i hi
      rw [if_neg hnt] at this
      exact (this.ofGrp G' (.inr hne)).skip (Ne.symm hne)
    · rw [List.take_add_one, hk]
      simp only [Option.toList, List.mem_append, List.mem_singleton]
      by_cases z : k = ks
      · rw [if_pos (.inr z), if_pos z]
      · rw [if_neg z]
        by_cases y : k ∈ I.take j
        · rw [if_pos (.inl y), if_pos y]
        · rw [if_neg (fun q => q.elim y z), if_neg y]
  · rw [G'.ads _ (by rintro (z | ⟨v, z⟩) <;> cases z)]; exact R.slf
  · rw [G'.cts _ (by rintro (z | ⟨v, z⟩) <;> cases z)]; exact R.idxc
  · by_cases h : k = ks ∧ i = bk late e
    · rw [h.1, h.2, G'.dic]; exact R.dics _ _
    · rw [G'.ads _ (by
        rintro (z | ⟨v, z⟩) <;> cases z
        exact h ⟨rfl, rfl⟩)]
      exact R.dics _ _
theorem Reg.fin {late : Bool} {dx ia : Addr} {ad0 ad : Adr} {ct : Nm → AO} {σ0 σ : Store} {idx0 : AO} {Le : List Ed} {M : Mo} {L : List Ed} {e : Ed} {I : List (List Str)} (R : Reg late dx ia ad0 σ0 idx0 Le M L e I I.length ad ct σ) (hn : σ ia = none) :
    Lay ad ct (put σ ia idx0) ∧ CS late ad ct Le M (fun _ => L ++ [e]) I ∧ ad .self = some dx ∧ Fra ad0 ad σ0 (put σ ia idx0) := by
  refine ⟨by rw [← R.idxc]; exact R.lay.back R.idx hn, R.cs.congr fun ks hk => by rw [List.take_length, if_pos hk], R.slf, R.fra.trans fun a y ea h => ?_⟩
  have ne : a ≠ ia := by rintro rfl; rw [hn] at ea; cases ea
  refine ⟨by rw [put_ne _ _ ne]; exact ea, fun m hm => ?_⟩
  by_cases z : m = .idx
  · subst z; rw [R.idx] at hm; cases hm; exact ne rfl
  · exact h m (by rw [adel_ne _ z]; exact hm)

section
variable {c : Cx} {n : Nat} {σ σ₀ : Store} {K : V → Store → Prop} {env : Env} {loc : Loc}
theorem f_reg_C (P : Pg c) {ad : Adr} {ct : Nm → AO} {Le L : List Ed} {M : Mo} {I : List (List Str)} {dx : Addr} {e : Ed} (lay : Lay ad ct σ) (C : CS false ad ct Le M (fun _ => L) I) (hs : ad .self = some dx) (hI : I.Nodup) (hk : ∀ ks ∈ I, ks.length ≤ 100) (hL : L.length ≤ 900) (he : e.ok)
    (q : ∀ ad' ct' σ', Lay ad' ct' σ' → CS false ad' ct' Le M (fun _ => L ++ [e]) I → ad' .self = some dx → Fra ad ad' σ σ' → K .none σ') : OCd c (n + 5) (.val (.ref 370)) [.mob cC dx, e.obj] [] [] σ K := by
  refine F_fn (bn := ["self", "edge"]) (by rw [P.hK]; rfl) rfl (by rw [P.hK]; rfl) rfl rfl rfl rfl rfl rfl rfl (by decide) (by decide) (fun s kk vs kvs h1 h2 => ?_) fun env O => ?_
  · obtain ⟨v0, v1, rfl⟩ := len2 h1
    obtain ⟨-, rfl⟩ := len0 h2
    exact BindsTo.of_eq rfl
  dsimp only [List.zip_cons_cons, List.zip_nil_left, List.zip_nil_right, List.cons_append, List.nil_append, List.append_nil]
  conv => arg 4; whnf
  obtain ⟨ea, hea⟩ := (C.edges 0 (by decide)).1
  obtain ⟨ca, hca⟩ := C.cpls
  obtain ⟨ia, hia⟩ := C.idx
  have hself := lay.has _ _ hs
  rw [C.selfc, selfF hea hca hia] at hself
  have hidx := lay.has _ _ hia
  have hidx' := hidx
  rw [C.idxc] at hidx'
  refine WB_for2 O (by tm_at "u") (by tm_at "u") ?_ (fun _ => by tm_at "u")
  refine WU_items ?_
  tm_at "go"
  refine O_get_mob (okC P) (by tm_at "K") hself (by tm_at "u") (by intro i z; cases z) ?_
  intro pl
  refine O_items hidx' ?_
  tm_at "go"
  refine C_items (.inl ⟨_, hidx'⟩) ?_
  refine ⟨ia, _, rfl, hidx', ?_⟩
  refine ⟨fun j loc' σ' => LSub [("edge", e.obj)] loc' ∧ ∃ ad' ct', Reg false dx ia ad σ (ct .idx) Le M L e I j ad' ct' σ', ⟨LSub.cons (by tm_at "l") (LSub.nil _), ad, ct, Reg.start lay C hs hia⟩, fun j y z loc' σ' hj hn hinv => ?_, fun loc' σ' hn hinv => ?_⟩
  · obtain ⟨hl, ad', ct', R⟩ := hinv
    rw [List.getElem?_map, Option.map_eq_some_iff] at hj
    obtain ⟨ks, hks, hyz⟩ := hj
    cases hyz
    have hmem := List.mem_of_getElem? hks
    have hB0 := C.bkt ks hmem 0 (by decide)
    obtain ⟨d, hd⟩ := hB0.dic
    have hd' : ad' (.dic ks 0) = some d := by rw [R.dics]; exact hd
    have eix : ixV ad false ks = .ref d := by unfold ixV; rw [ad!_at hd]; rfl
    rw [eix]
    refine WB.forget (loc' := [("index", .ref d), ("restr_keys", .tup (strV ks)), ("edge", e.obj)]) (Sub.refl _) (LSub.cons look_hd (LSub.cons (look_tl (by decide +kernel) look_hd) (LSub.cons (look_tl (by decide +kernel) (look_tl (by decide +kernel) (hl.app look_hd))) (LSub.nil _)))) ?_
    tm_at "go"
    tm_at "comp"
    tm_at "go"
    refine vals_turns P (e := e) (.inl rfl) (hk ks hmem) (fun C k K' kk => ?_) ?_
    · tm_at "go"
      refine (f_attribute P he ?_).oc
      exact kk
    tm_at "go"
    refine C_tuple_flst (by unfold vals; rw [List.length_map]; have := hk ks hmem; omega) ?_
    tm_at "go"
    have hBk : Bkt (adel ad' .idx) ct' false L ks 0 := by
      have hnt : ks ∉ I.take j := by
        intro z
        obtain ⟨i, hi, ei⟩ := List.mem_iff_getElem.mp z
        rw [List.getElem_take] at ei
        rw [List.length_take] at hi
        obtain ⟨hj, ej⟩ := List.getElem?_eq_some_iff.mp hks
        have := (List.getElem_inj hI).mp (ei.trans ej.symm)
        omega
      have := R.cs.bkt ks hmem 0 (by decide)
      rw [if_neg hnt] at this
      exact this.keep (adel_ne _ (by intro z; cases z)) rfl (fun v => adel_ne _ (by intro z; cases z)) fun _ => rfl
    refine WB_grp (ks := ks) (i := 0) (d := d) (e := e) (L := L) (by rw [show interactive env = _ from rfl]; unfold interactive; rw [O.scp]; rfl) R.lay hBk rfl (by rw [adel_ne _ (by intro z; cases z)]; exact hd') hL (WE_name (by tm_at "l") ⟨rfl, rfl⟩) (by tm_at "l") (by tm_at "l") ⟨_, rfl⟩ ⟨_, rfl⟩ fun ad1 ct1 σ1 lay1 B1 G1 fr1 => ?_
    exact WB_nil ⟨LSub.cons (by tm_at "l") (LSub.nil _), _, ct1, R.step hks lay1 B1 G1 fr1 hI⟩
  · obtain ⟨hl, ad', ct', R⟩ := hinv
    rw [List.length_map] at R
    obtain ⟨h1, h2, h3, h4⟩ := R.fin (hn ia _ rfl)
    have eb : backS (some (ia, AO.dict (I.map fun ks => (.tup (strV ks), ixV ad false ks)))) σ' = put σ' ia (ct .idx) := by rw [C.idxc]; rfl
    rw [eb]
    exact ret_nil (q _ _ _ h1 h2 h3 h4)
end
end
section
open Classical
theorem notTake {I : List (List Str)} {j : Nat} {ks : List Str} (hI : I.Nodup) (hks : I[j]? = some ks) : ks ∉ I.take j := by
  intro z
  obtain ⟨i, hi, ei⟩ := List.mem_iff_getElem.mp z
  rw [List.getElem_take] at ei
  rw [List.length_take] at hi
  obtain ⟨hj, ej⟩ := List.getElem?_eq_some_iff.mp hks
  have := (List.getElem_inj hI).mp (ei.trans ej.symm)
  omega
theorem four_at {f : Nat → V} {i : Nat} (h : i < 4) : ([f 0, f 1, f 2, f 3] : List V)[i]? = some (f i) := by
  have : i = 0 ∨ i = 1 ∨ i = 2 ∨ i = 3 := by omega
  rcases this with rfl | rfl | rfl | rfl <;> rfl
theorem Bkt.dl {ad : Adr} {ct : Nm → AO} {late : Bool} {L : List Ed} {ks : List Str} {i : Nat} (B : Bkt ad ct late L ks i) : Bkt (adel ad .idx) ct late L ks i := B.keep (adel_ne _ (by intro z; cases z)) rfl (fun v => adel_ne _ (by intro z; cases z)) fun _ => rfl
section
variable {c : Cx} {n : Nat} {σ σ₀ : Store} {K : V → Store → Prop} {env : Env} {loc : Loc}
theorem f_reg_I (P : Pg c) {ad : Adr} {ct : Nm → AO} {Le L : List Ed} {M : Mo} {I : List (List Str)} {dx : Addr} {e : Ed} (lay : Lay ad ct σ) (C : CS true ad ct Le M (fun _ => L) I) (hs : ad .self = some dx) (hI : I.Nodup) (hk : ∀ ks ∈ I, ks.length ≤ 100) (hL : L.length ≤ 900) (he : e.ok) (h0 : 0 ≤ e.hi) (h3 : e.hi ≤ 3)
    (q : ∀ ad' ct' σ', Lay ad' ct' σ' → CS true ad' ct' Le M (fun _ => L ++ [e]) I → ad' .self = some dx → Fra ad ad' σ σ' → K .none σ') : OCd c (n + 5) (.val (.ref 474)) [.mob cI dx, e.obj] [] [] σ K := by
  refine F_fn (bn := ["self", "edge"]) (by rw [P.hK]; rfl) rfl (by rw [P.hK]; rfl) rfl rfl rfl rfl rfl rfl rfl (by decide) (by decide) (fun s kk vs kvs h1 h2 => ?_) fun env O => ?_
  · obtain ⟨v0, v1, rfl⟩ := len2 h1
    obtain ⟨-, rfl⟩ := len0 h2
    exact BindsTo.of_eq rfl
  dsimp only [List.zip_cons_cons, List.zip_nil_left, List.zip_nil_right, List.cons_append, List.nil_append, List.append_nil]
  conv => arg 4; whnf
  obtain ⟨e0, he0⟩ := (C.edges 0 (by decide)).1
  obtain ⟨e1, he1⟩ := (C.edges 1 (by decide)).1
  obtain ⟨e2, he2⟩ := (C.edges 2 (by decide)).1
  obtain ⟨e3, he3⟩ := (C.edges 3 (by decide)).1
  obtain ⟨ca, hca⟩ := C.cpls
  obtain ⟨ia, hia⟩ := C.idx
  have hself := lay.has _ _ hs
  rw [C.selfc, selfT he0 he1 he2 he3 hca hia] at hself
  have hidx := lay.has _ _ hia
  have hidx' := hidx
  rw [C.idxc] at hidx'
  have hb : bk true e = e.hi.toNat := rfl
  have hb4 : bk true e < 4 := by rw [hb]; omega
  tm_at "go"
  refine m_end P ?_
  tm_at "go"
  refine WB_for2 O (by tm_at "u") (by tm_at "u") ?_ (fun _ => by tm_at "u")
  refine WU_items ?_
  tm_at "go"
  refine O_get_mob (okI P) (by tm_at "K") hself (by tm_at "u") (by intro i z; cases z) ?_
  intro pl
  refine O_items hidx' ?_
  tm_at "go"
  refine C_items (.inl ⟨_, hidx'⟩) ?_
  refine ⟨ia, _, rfl, hidx', ?_⟩
  refine ⟨fun j loc' σ' => LSub [("end", .int e.hi), ("edge", e.obj)] loc' ∧ ∃ ad' ct', Reg true dx ia ad σ (ct .idx) Le M L e I j ad' ct' σ', ⟨LSub.cons (by tm_at "l") (LSub.cons (by tm_at "l") (LSub.nil _)), ad, ct, Reg.start lay C hs hia⟩, fun j y z loc' σ' hj hn hinv => ?_, fun loc' σ' hn hinv => ?_⟩
  · obtain ⟨hl, ad', ct', R⟩ := hinv
    rw [List.getElem?_map, Option.map_eq_some_iff] at hj
    obtain ⟨ks, hks, hyz⟩ := hj
    cases hyz
    have hmem := List.mem_of_getElem? hks
    have hB0 := C.bkt ks hmem (bk true e) hb4
    obtain ⟨d, hd⟩ := hB0.dic
    have hd' : ad' (.dic ks (bk true e)) = some d := by rw [R.dics]; exact hd
    have eix : ixV ad true ks = .flst [ad! ad (.dic ks 0), ad! ad (.dic ks 1), ad! ad (.dic ks 2), ad! ad (.dic ks 3)] := rfl
    have hat : ([ad! ad (.dic ks 0), ad! ad (.dic ks 1), ad! ad (.dic ks 2), ad! ad (.dic ks 3)] : List V)[e.hi.toNat]? = some (.ref d) := by
      rw [← ad!_at hd]; exact four_at (f := fun i => ad! ad (.dic ks i)) hb4
    rw [eix]
    refine WB.forget (loc' := [("index", .flst [ad! ad (.dic ks 0), ad! ad (.dic ks 1), ad! ad (.dic ks 2), ad! ad (.dic ks 3)]), ("restr_keys", .tup (strV ks)), ("end", .int e.hi), ("edge", e.obj)]) (Sub.refl _)
      (LSub.cons look_hd (LSub.cons (look_tl (by decide +kernel) look_hd) (LSub.cons (look_tl (by decide +kernel) (look_tl (by decide +kernel) (hl.app look_hd))) (LSub.cons (look_tl (by decide +kernel) (look_tl (by decide +kernel) (hl.app (look_tl (by decide +kernel) look_hd)))) (LSub.nil _))))) ?_
    tm_at "go"
    tm_at "comp"
    tm_at "go"
    refine vals_turns P (e := e) (.inl rfl) (hk ks hmem) (fun C k K' kk => ?_) ?_
    · tm_at "go"
      refine (f_attribute P he ?_).oc
      exact kk
    tm_at "go"
    refine C_tuple_flst (by unfold vals; rw [List.length_map]; have := hk ks hmem; omega) ?_
    tm_at "go"
    have hBk : Bkt (adel ad' .idx) ct' true L ks (bk true e) := by
      have := R.cs.bkt ks hmem (bk true e) hb4
      rw [if_neg (notTake hI hks)] at this
      exact this.dl
    refine WB_grp (ks := ks) (i := bk true e) (d := d) (e := e) (L := L) (by unfold interactive; rw [O.scp]; rfl) R.lay hBk rfl (by rw [adel_ne _ (by intro z; cases z)]; exact hd') hL ?_ (by tm_at "l") (by tm_at "l") ⟨_, rfl⟩ ⟨_, rfl⟩ fun ad1 ct1 σ1 lay1 B1 G1 fr1 => ?_
    · tm_at "go"
      refine O_item_flst h0 (Nat.le_of_ble_eq_true rfl) hat ⟨rfl, rfl⟩ (fun _ _ _ => rfl)
    exact WB_nil ⟨LSub.cons (by tm_at "l") (LSub.cons (by tm_at "l") (LSub.nil _)), _, ct1, R.step hks lay1 B1 G1 fr1 hI⟩
  · obtain ⟨hl, ad', ct', R⟩ := hinv
    rw [List.length_map] at R
    obtain ⟨h1, h2, h3, h4⟩ := R.fin (hn ia _ rfl)
    have eb : backS (some (ia, AO.dict (I.map fun ks => (.tup (strV ks), ixV ad true ks)))) σ' = put σ' ia (ct .idx) := by rw [C.idxc]; rfl
    rw [eb]
    exact ret_nil (q _ _ _ h1 h2 h3 h4)
end
end
section
open Classical
theorem CS.edge {late : Bool} {ad : Adr} {ct : Nm → AO} {Le : List Ed} {M : Mo} {Li : List Str → List Ed} {I : List (List Str)} (C : CS late ad ct Le M Li I) (e : Ed) :
    CS late ad (cput ct (.edges (bk late e)) (.list ((inB late Le (bk late e)).map Ed.obj ++ [e.obj]))) (Le ++ [e]) M Li I := by
  have o : ∀ m, (∀ i, m ≠ .edges i) → cput ct (.edges (bk late e)) (.list ((inB late Le (bk late e)).map Ed.obj ++ [e.obj])) m = ct m := fun m h => cput_ne _ _ (h _)
  refine ⟨C.self, by rw [o _ (by intro i z; cases z)]; exact C.selfc, fun i hi => ⟨(C.edges i hi).1, ?_⟩, C.cpls, by rw [o _ (by intro i z; cases z)]; exact C.cplsc, fun m hm => by rw [o _ (by intro i z; cases z)]; exact C.cpl m hm, C.cploff, C.idx, by rw [o _ (by intro i z; cases z)]; exact C.idxc, fun ks hk i hi => (C.bkt ks hk i hi).keep rfl (o _ (by intro i z; cases z)) (fun _ => rfl) (fun v => o _ (by intro i z; cases z)), C.bktoff⟩
  by_cases h : i = bk late e
  · subst h
    rw [cput_self]; unfold edgesC
    rw [inB_snoc, if_pos rfl, List.map_append, List.map_singleton]
  · rw [cput_ne _ _ (by intro z; cases z; exact h rfl), (C.edges i hi).2]
    unfold edgesC
    rw [inB_snoc, if_neg (fun z => h z.symm)]
theorem inB_len {late : Bool} {L : List Ed} {i : Nat} : (inB late L i).length ≤ L.length := by unfold inB; exact List.length_filter_le _ _
noncomputable def setRows (M : Mo) (e : Ed) (rows : List (List Ed)) : Mo := M.map fun m => if m.1 = e then (m.1, rows) else m
noncomputable def addRows (old rows : List (List Ed)) : List (List Ed) := rows.foldl (fun acc r => if r ∈ acc then acc else acc ++ [r]) old
theorem setRows_fst (M : Mo) (e : Ed) (rows : List (List Ed)) : (setRows M e rows).map (·.1) = M.map (·.1) := by
  unfold setRows
  rw [List.map_map]
  apply List.map_congr_left
  intro m _
  show (if m.1 = e then (m.1, rows) else m).1 = m.1
  split <;> rfl
theorem mem_setRows {M : Mo} {e : Ed} {rows : List (List Ed)} {m : Ed × List (List Ed)} (h : m ∈ setRows M e rows) : (m.1 = e ∧ m.2 = rows ∧ ∃ r, (e, r) ∈ M) ∨ (m.1 ≠ e ∧ m ∈ M) := by
  unfold setRows at h
  obtain ⟨m', hm', rfl⟩ := List.mem_map.mp h
  split
  · rename_i he; exact .inl ⟨he, rfl, m'.2, by rw [← he]; exact hm'⟩
  · rename_i he; exact .inr ⟨he, hm'⟩
theorem CS.row {late : Bool} {ad : Adr} {ct : Nm → AO} {Le : List Ed} {M : Mo} {Li : List Str → List Ed} {I : List (List Str)} (C : CS late ad ct Le M Li I) (e : Ed) (rows : List (List Ed)) :
    CS late ad (cput ct (.cpl e) (cplC rows)) Le (setRows M e rows) Li I := by
  have o : ∀ m, m ≠ .cpl e → cput ct (.cpl e) (cplC rows) m = ct m := fun m h => cput_ne _ _ h
  refine ⟨C.self, by rw [o _ (by intro z; cases z)]; exact C.selfc, fun i hi => by rw [o _ (by intro z; cases z)]; exact C.edges i hi, C.cpls, ?_, fun m hm => ?_, fun e' h => C.cploff e' fun m hm z => ?_, C.idx, by rw [o _ (by intro z; cases z)]; exact C.idxc, fun ks hk i hi => (C.bkt ks hk i hi).keep rfl (o _ (by intro z; cases z)) (fun _ => rfl) (fun v => o _ (by intro z; cases z)), C.bktoff⟩
  · rw [o _ (by intro z; cases z), C.cplsc]
    unfold cplsC
    congr 1
    have : ∀ (X : Mo), (X.map fun m => (m.1.ck, ad! ad (.cpl m.1))) = (X.map (·.1)).map fun e => (e.ck, ad! ad (.cpl e)) := fun X => by rw [List.map_map]; rfl
    rw [this, this, setRows_fst]
  · rcases mem_setRows hm with ⟨h1, h2, r, h3⟩ | ⟨h1, h2⟩
    · rw [h1, h2, cput_self]
      exact ⟨(C.cpl _ h3).1, rfl⟩
    · rw [o _ (by intro z; cases z; exact h1 rfl)]
      exact C.cpl m h2
  · have : e' ∈ (setRows M e rows).map (·.1) := by rw [setRows_fst]; exact List.mem_map.mpr ⟨m, hm, z⟩
    obtain ⟨m', h1, h2⟩ := List.mem_map.mp this
    exact h m' h1 h2
theorem CS.newCpl {late : Bool} {ad : Adr} {ct : Nm → AO} {Le : List Ed} {M : Mo} {Li : List Str → List Ed} {I : List (List Str)} (C : CS late ad ct Le M Li I) {e : Ed} (he : ∀ m ∈ M, m.1 ≠ e) (g : Addr) :
    CS late (aput ad (.cpl e) g) (cput (cput ct .cpls (.dict (M.map (fun m => (m.1.ck, ad! ad (.cpl m.1))) ++ [(e.ck, .ref g)]))) (.cpl e) (.dict [])) Le (M ++ [(e, [])]) Li I := by
  have a : ∀ m, m ≠ .cpl e → aput ad (.cpl e) g m = ad m := fun m h => aput_ne _ _ h
  have o : ∀ m, m ≠ .cpl e → m ≠ .cpls → cput (cput ct .cpls (.dict (M.map (fun m => (m.1.ck, ad! ad (.cpl m.1))) ++ [(e.ck, .ref g)]))) (.cpl e) (.dict []) m = ct m := fun m h h' => by rw [cput_ne _ _ h, cput_ne _ _ h']
  refine ⟨by rw [a _ (by intro z; cases z)]; exact C.self, ?_, fun i hi => ?_, by rw [a _ (by intro z; cases z)]; exact C.cpls, ?_, fun m hm => ?_, fun e' h => ?_, by rw [a _ (by intro z; cases z)]; exact C.idx, ?_, fun ks hk i hi => (C.bkt ks hk i hi).keep (a _ (by intro z; cases z)) (o _ (by intro z; cases z) (by intro z; cases z)) (fun v => a _ (by intro z; cases z)) (fun v => o _ (by intro z; cases z) (by intro z; cases z)), fun ks hk i => ?_⟩
  · rw [o _ (by intro z; cases z) (by intro z; cases z), C.selfc]
    unfold selfC ad!
    simp only [a _ (show Nm.edges 0 ≠ .cpl e by intro z; cases z), a _ (show Nm.edges 1 ≠ .cpl e by intro z; cases z), a _ (show Nm.edges 2 ≠ .cpl e by intro z; cases z), a _ (show Nm.edges 3 ≠ .cpl e by intro z; cases z), a _ (show Nm.cpls ≠ .cpl e by intro z; cases z), a _ (show Nm.idx ≠ .cpl e by intro z; cases z)]
  · rw [a _ (by intro z; cases z), o _ (by intro z; cases z) (by intro z; cases z)]; exact C.edges i hi
  · rw [cput_ne _ _ (by intro z; cases z), cput_self]
    unfold cplsC
    rw [List.map_append, List.map_singleton]
    congr 2
    · apply List.map_congr_left
      intro m hm
      unfold ad!
      rw [a _ (by intro z; cases z; exact he m hm rfl)]
    · unfold ad!; rw [aput_self]; rfl
  · rcases List.mem_append.mp hm with h | h
    · rw [a _ (by intro z; cases z; exact he m h rfl), o _ (by intro z; cases z; exact he m h rfl) (by intro z; cases z)]
      exact C.cpl m h
    · rw [List.mem_singleton.mp h, aput_self, cput_self]
      exact ⟨⟨g, rfl⟩, rfl⟩
  · have : e' ≠ e := fun z => h (e, []) (by simp) z.symm
    rw [a _ (by intro z; cases z; exact this rfl)]
    exact C.cploff e' fun m hm => h m (List.mem_append_left _ hm)
  · rw [o _ (by intro z; cases z) (by intro z; cases z), C.idxc]
    unfold idxC ixV ad!
    simp only [a _ (show ∀ {k i}, Nm.dic k i ≠ .cpl e by intro k i z; cases z)]
  · rw [a _ (by intro z; cases z)]
    exact ⟨(C.bktoff ks hk i).1, fun v => by rw [a _ (by intro z; cases z)]; exact (C.bktoff ks hk i).2 v⟩
section
variable {c : Cx} {n : Nat} {σ σ₀ : Store} {K : V → Store → Prop} {env : Env} {loc : Loc}
theorem O_ck (P : Pg c) {e : Ed} {ex : Bool} (q : K e.ck σ) : O1 c n (fun v => getAttr v "_comparison_key" ex) Rep e.obj σ K := by
  cases e with
  | leaf s i => exact O_get_inst (okL P) (by rw [P.hK]; kernel_rfl) rfl (fun i z => by cases z) q
  | tree l r lo hi d => exact O_get_inst (okT P) (by rw [P.hK]; kernel_rfl) rfl (fun i z => by cases z) q
theorem f_app_C (P : Pg c) {ad : Adr} {ct : Nm → AO} {Le : List Ed} {M : Mo} {Li : List Str → List Ed} {I : List (List Str)} {dx : Addr} {e : Ed} (lay : Lay ad ct σ) (C : CS false ad ct Le M Li I) (hs : ad .self = some dx) (hL : Le.length ≤ 900)
    (q : ∀ ct' σ', Lay ad ct' σ' → CS false ad ct' (Le ++ [e]) M Li I → Fra ad ad σ σ' → K .none σ') : OCd c (n + 1) (.val (.ref 387)) [.mob cC dx, e.obj] [] [] σ K := by
  refine F_fn (bn := ["self", "edge"]) (by rw [P.hK]; rfl) rfl (by rw [P.hK]; rfl) rfl rfl rfl rfl rfl rfl rfl (by decide) (by decide) (fun s kk vs kvs h1 h2 => ?_) fun env O => ?_
  · obtain ⟨v0, v1, rfl⟩ := len2 h1
    obtain ⟨-, rfl⟩ := len0 h2
    exact BindsTo.of_eq rfl
  dsimp only [List.zip_cons_cons, List.zip_nil_left, List.zip_nil_right, List.cons_append, List.nil_append, List.append_nil]
  conv => arg 4; whnf
  obtain ⟨ea, hea⟩ := (C.edges 0 (by decide)).1
  obtain ⟨ca, hca⟩ := C.cpls
  obtain ⟨ia, hia⟩ := C.idx
  have hself := lay.has _ _ hs
  rw [C.selfc, selfF hea hca hia] at hself
  have hed := lay.has _ _ hea
  rw [(C.edges 0 (by decide)).2] at hed
  tm_at "drop"
  tm_at "go"
  refine O_get_mob (okC P) (by tm_at "K") hself (by tm_at "u") (by intro i z; cases z) ?_
  intro pl
  refine O_bm_list hed ?_
  tm_at "go"
  refine C_append hed (by rw [List.length_map]; have := @inB_len false Le 0; omega) ?_
  exact ret_nil (q _ _ (lay.upd hea _) (C.edge e) (Fra.upd hea _))
theorem f_app_I (P : Pg c) {ad : Adr} {ct : Nm → AO} {Le : List Ed} {M : Mo} {Li : List Str → List Ed} {I : List (List Str)} {dx : Addr} {e : Ed} (lay : Lay ad ct σ) (C : CS true ad ct Le M Li I) (hs : ad .self = some dx) (hL : Le.length ≤ 900) (h0 : 0 ≤ e.hi) (h3 : e.hi ≤ 3)
    (q : ∀ ct' σ', Lay ad ct' σ' → CS true ad ct' (Le ++ [e]) M Li I → Fra ad ad σ σ' → K .none σ') : OCd c (n + 2) (.val (.ref 481)) [.mob cI dx, e.obj] [] [] σ K := by
  refine F_fn (bn := ["self", "edge"]) (by rw [P.hK]; rfl) rfl (by rw [P.hK]; rfl) rfl rfl rfl rfl rfl rfl rfl (by decide) (by decide) (fun s kk vs kvs h1 h2 => ?_) fun env O => ?_
  · obtain ⟨v0, v1, rfl⟩ := len2 h1
    obtain ⟨-, rfl⟩ := len0 h2
    exact BindsTo.of_eq rfl
  dsimp only [List.zip_cons_cons, List.zip_nil_left, List.zip_nil_right, List.cons_append, List.nil_append, List.append_nil]
  conv => arg 4; whnf
  obtain ⟨e0, he0⟩ := (C.edges 0 (by decide)).1
  obtain ⟨e1, he1⟩ := (C.edges 1 (by decide)).1
  obtain ⟨e2, he2⟩ := (C.edges 2 (by decide)).1
  obtain ⟨e3, he3⟩ := (C.edges 3 (by decide)).1
  obtain ⟨ca, hca⟩ := C.cpls
  obtain ⟨ia, hia⟩ := C.idx
  have hself := lay.has _ _ hs
  rw [C.selfc, selfT he0 he1 he2 he3 hca hia] at hself
  have hb : bk true e = e.hi.toNat := rfl
  have hb4 : bk true e < 4 := by rw [hb]; omega
  obtain ⟨a, hea⟩ := (C.edges (bk true e) hb4).1
  have hed := lay.has _ _ hea
  rw [(C.edges _ hb4).2] at hed
  have hat : ([.ref e0, .ref e1, .ref e2, .ref e3] : List V)[e.hi.toNat]? = some (.ref a) := by
    rw [← ad!_at hea, ← ad!_at he0, ← ad!_at he1, ← ad!_at he2, ← ad!_at he3]; exact four_at (f := fun i => ad! ad (.edges i)) hb4
  tm_at "drop"
  tm_at "go"
  refine O_get_mob (okI P) (by tm_at "K") hself (by tm_at "u") (by intro i z; cases z) ?_
  tm_at "go"
  refine m_end P ?_
  refine O_item_flst h0 (Nat.le_of_ble_eq_true rfl) hat ?_ (fun _ _ _ => rfl)
  intro pl
  refine O_bm_list hed ?_
  tm_at "go"
  refine C_append hed (by rw [List.length_map]; have := @inB_len true Le (bk true e); omega) ?_
  exact ret_nil (q _ _ (lay.upd hea _) (C.edge e) (Fra.upd hea _))
end
end
section
open Classical
noncomputable def oldR (M : Mo) (e : Ed) : List (List Ed) := ((M.find? fun m => decide (m.1 = e)).map (·.2)).getD []
noncomputable def newR (M : Mo) (e : Ed) (rows : List (List Ed)) : List (List Ed) := rows.filter fun r => decide (r ∉ oldR M e)
noncomputable def base (M : Mo) (e : Ed) : Mo := if e ∈ M.map (·.1) then M else M ++ [(e, [])]
noncomputable def insM (M : Mo) (e : Ed) (rows : List (List Ed)) : Mo := setRows (base M e) e (oldR M e ++ newR M e rows)
noncomputable def withE (l : List Ed) (e : Ed) : List Ed := if e ∈ l then l else l ++ [e]
theorem base_fst (M : Mo) (e : Ed) : (base M e).map (·.1) = withE (M.map (·.1)) e := by
  unfold base withE
  split
  · rfl
  · rw [List.map_append]; rfl
theorem insM_fst (M : Mo) (e : Ed) (rows : List (List Ed)) : (insM M e rows).map (·.1) = withE (M.map (·.1)) e := by
  unfold insM; rw [setRows_fst, base_fst]
theorem setRows_self {M : Mo} {e : Ed} {old : List (List Ed)} (h : ∀ m ∈ M, m.1 = e → m.2 = old) : setRows M e old = M := by
  unfold setRows
  conv => rhs; rw [← List.map_id M]
  apply List.map_congr_left
  intro m hm
  by_cases z : m.1 = e
  · rw [if_pos z, ← h m hm z]; rfl
  · rw [if_neg z]; rfl
theorem setRows_two (M : Mo) (e : Ed) (a b : List (List Ed)) : setRows (setRows M e a) e b = setRows M e b := by
  unfold setRows
  rw [List.map_map]
  apply List.map_congr_left
  intro m _
  show (if (if m.1 = e then (m.1, a) else m).1 = e then _ else _) = _
  by_cases z : m.1 = e
  · simp [z]
  · simp [z]
theorem pair_uniq {M : Mo} (h : (M.map (·.1)).Nodup) {m m' : Ed × List (List Ed)} (a : m ∈ M) (b : m' ∈ M) (e : m.1 = m'.1) : m = m' := by
  induction M with
  | nil => cases a
  | cons x r ih =>
    rw [List.map_cons, List.nodup_cons] at h
    rcases List.mem_cons.mp a with rfl | a'
    · rcases List.mem_cons.mp b with rfl | b'
      · rfl
      · exact absurd (e ▸ List.mem_map.mpr ⟨m', b', rfl⟩) h.1
    · rcases List.mem_cons.mp b with rfl | b'
      · exact absurd (e ▸ List.mem_map.mpr ⟨m, a', rfl⟩) h.1
      · exact ih h.2 a' b'
theorem oldR_at {M : Mo} (h : (M.map (·.1)).Nodup) {m : Ed × List (List Ed)} (a : m ∈ M) : oldR M m.1 = m.2 := by
  unfold oldR
  cases q : M.find? (fun x => decide (x.1 = m.1)) with
  | none =>
    rw [List.find?_eq_none] at q
    exact absurd (decide_eq_true rfl) (q m a)
  | some y =>
    have h1 : y.1 = m.1 := of_decide_eq_true (List.find?_some (p := fun x : Ed × List (List Ed) => decide (x.1 = m.1)) q)
    have h2 := List.mem_of_find?_eq_some q
    rw [pair_uniq h h2 a h1]; rfl
theorem oldR_off {M : Mo} {e : Ed} (h : e ∉ M.map (·.1)) : oldR M e = [] := by
  unfold oldR
  have : M.find? (fun x => decide (x.1 = e)) = none := by
    rw [List.find?_eq_none]
    intro m hm hd
    exact h (of_decide_eq_true hd ▸ List.mem_map.mpr ⟨m, hm, rfl⟩)
  rw [this]; rfl
theorem base_rows {M : Mo} {e : Ed} (h : (M.map (·.1)).Nodup) : ∀ m ∈ base M e, m.1 = e → m.2 = oldR M e := by
  intro m hm z
  unfold base at hm
  split at hm
  · rw [← z]; exact (oldR_at h hm).symm
  · rename_i ho
    rcases List.mem_append.mp hm with q | q
    · exact absurd (z ▸ List.mem_map.mpr ⟨m, q, rfl⟩) ho
    · rw [List.mem_singleton.mp q, oldR_off ho]
theorem base_mem (M : Mo) (e : Ed) : e ∈ (base M e).map (·.1) := by
  rw [base_fst]; unfold withE
  split
  · assumption
  · simp
theorem cpls_dget {ad : Adr} {M : Mo} (e : Ed) : dget (M.map fun m => (m.1.ck, ad! ad (.cpl m.1))) e.ck = (M.find? fun m => decide (m.1 = e)).map fun m => ad! ad (.cpl m.1) :=
  dget_find (p := fun m : Ed × List (List Ed) => decide (m.1 = e)) fun m _ => by rw [Bool.eq_iff_iff, veq_ck, decide_eq_true_iff]
theorem find_isSome {M : Mo} {e : Ed} : (M.find? fun m => decide (m.1 = e)).isSome = decide (e ∈ M.map (·.1)) := by
  rw [Bool.eq_iff_iff, List.find?_isSome, decide_eq_true_iff, List.mem_map]
  exact ⟨fun ⟨m, h, z⟩ => ⟨m, h, of_decide_eq_true z⟩, fun ⟨m, h, z⟩ => ⟨m, h, decide_eq_true z⟩⟩
theorem rows_dget (rows : List (List Ed)) (r : List Ed) : (dget (rows.map fun r => (.tup (r.map Ed.ck), .tup (r.map Ed.obj))) (.tup (r.map Ed.ck))).isSome = decide (r ∈ rows) := by
  rw [dget_find (key := fun r : List Ed => .tup (r.map Ed.ck)) (val := fun r : List Ed => .tup (r.map Ed.obj)) (p := fun r' => decide (r' = r)) fun m _ => by rw [Bool.eq_iff_iff, veq_rk, decide_eq_true_iff]]
  rw [Option.isSome_map, Bool.eq_iff_iff, List.find?_isSome, decide_eq_true_iff]
  exact ⟨fun ⟨m, h, z⟩ => of_decide_eq_true z ▸ h, fun h => ⟨r, h, decide_eq_true rfl⟩⟩
theorem newR_snoc {M : Mo} {e : Ed} {rows : List (List Ed)} {j : Nat} {r : List Ed} (hj : rows[j]? = some r) : newR M e (rows.take (j + 1)) = newR M e (rows.take j) ++ (if r ∈ oldR M e then [] else [r]) := by
  unfold newR
  rw [List.take_add_one, hj, List.filter_append]
  congr 1
  by_cases z : r ∈ oldR M e <;> simp [z]
theorem newR_mem {M : Mo} {e : Ed} {rows : List (List Ed)} {j : Nat} {r : List Ed} (hr : rows.Nodup) (hj : rows[j]? = some r) : r ∈ oldR M e ++ newR M e (rows.take j) ↔ r ∈ oldR M e := by
  rw [List.mem_append]
  refine ⟨fun h => h.elim id fun h => ?_, .inl⟩
  unfold newR at h
  have h1 := (List.mem_filter.mp h).1
  obtain ⟨i, hi, ei⟩ := List.mem_iff_getElem.mp h1
  rw [List.getElem_take] at ei
  rw [List.length_take] at hi
  obtain ⟨hj', ej⟩ := List.getElem?_eq_some_iff.mp hj
  have := (List.getElem_inj hr).mp (ei.trans ej.symm)
  omega
theorem newR_le {M : Mo} {e : Ed} {rows : List (List Ed)} : (newR M e rows).length ≤ rows.length := by unfold newR; exact List.length_filter_le _ _
theorem ck_tup (e : Ed) : ∃ l, e.ck = .tup l ∧ (V.tup l).flat 8 = true := by
  have h := V.flat_mono 3 8 _ (by decide) (Ed.ck_flat e)
  cases e with
  | leaf s i => exact ⟨_, rfl, h⟩
  | tree l r lo hi d => exact ⟨_, rfl, h⟩
section
variable {c : Cx} {n : Nat} {σ σ₀ : Store} {K : V → Store → Prop} {env : Env} {loc : Loc}
theorem put_swap {σ : Store} {a b : Addr} {x y : AO} (h : a ≠ b) : put (put σ a x) b y = put (put σ b y) a x := by
  funext m
  unfold put
  by_cases h1 : m = a
  · by_cases h2 : m = b
    · exact absurd (h1.symm.trans h2) h
    · simp [h1, h]
  · by_cases h2 : m = b
    · subst h2; simp [h1]
    · simp [h1, h2]
theorem WB_ifJ {rest a b : List Stmt} {K : Fl → Loc → Store → Prop} {t : Expr} {pos : Pos} (J : Loc → Store → Prop) (x : WT c n env t loc σ fun v σ' => (v = true → WB c n env a loc σ' fun fl l s => fl = .next ∧ J l s) ∧ (v = false → WB c n env b loc σ' fun fl l s => fl = .next ∧ J l s))
    (k : ∀ l s, J l s → WB c n env rest l s K) : WB c n env (.If t a b pos :: rest) loc σ K := by
  refine WB_if (WX.mono x fun v s q => ⟨fun e => WY.mono (q.1 e) fun fl l s z => ?_, fun e => WY.mono (q.2 e) fun fl l s z => ?_⟩)
  · obtain ⟨rfl, j⟩ := z; exact k l s j
  · obtain ⟨rfl, j⟩ := z; exact k l s j
noncomputable abbrev cX (late : Bool) : Addr := if late then cI else cC
noncomputable abbrev fA (late : Bool) : Addr := if late then 481 else 387
noncomputable abbrev fR (late : Bool) : Addr := if late then 474 else 370
theorem okX (P : Pg c) (late : Bool) : ClsOk c (cX late) := by cases late; exact okC P; exact okI P
theorem selfX {late : Bool} {dx : Addr} {ad : Adr} (hs : σ dx = some (selfC ad late)) : ∃ l, σ dx = some (.ns (selfNs late) l) := by
  unfold selfC at hs
  exact ⟨_, hs⟩
theorem x_gcpls (P : Pg c) {late : Bool} {ad : Adr} {dx ca : Addr} (hs : σ dx = some (selfC ad late)) (h : ad .cpls = some ca) {ex : Bool} {K : V → Store → Prop} (q : K (.ref ca) σ) : O1 c n (fun v => getAttr v "_edge_to_cpls" ex) Rep (.mob (cX late) dx) σ K := by
  unfold selfC at hs
  rw [ad!_at h] at hs
  cases late
  · exact O_get_mob (okC P) (by tm_at "K") hs (by tm_at "u") (by intro i z; cases z) q
  · exact O_get_mob (okI P) (by tm_at "K") hs (by tm_at "u") (by intro i z; cases z) q
theorem x_app (P : Pg c) {late : Bool} {ad : Adr} {dx : Addr} (hs : σ dx = some (selfC ad late)) {pl : Sem Bool} {Q : V × List V → Store → Prop} (q : Q (.val (.ref (fA late)), [.mob (cX late) dx]) σ) : O1 c n (fun v => getMethod v "_append_edge" pl) RM (.mob (cX late) dx) σ fun fx σ1 => Kept c fx.1 ∧ Q fx σ1 := by
  obtain ⟨l, hs⟩ := selfX hs
  cases late
  · exact O_meth_mob (f := 387) (okC P) (by tm_at "K") (by tm_at "K") hs (by decide) ⟨kept_K (by tm_at "K"), q⟩
  · exact O_meth_mob (f := 481) (okI P) (by tm_at "K") (by tm_at "K") hs (by decide) ⟨kept_K (by tm_at "K"), q⟩
theorem x_reg (P : Pg c) {late : Bool} {ad : Adr} {dx : Addr} (hs : σ dx = some (selfC ad late)) {pl : Sem Bool} {Q : V × List V → Store → Prop} (q : Q (.val (.ref (fR late)), [.mob (cX late) dx]) σ) : O1 c n (fun v => getMethod v "_register_with_indexes" pl) RM (.mob (cX late) dx) σ fun fx σ1 => Kept c fx.1 ∧ Q fx σ1 := by
  obtain ⟨l, hs⟩ := selfX hs
  cases late
  · exact O_meth_mob (f := 370) (okC P) (by tm_at "K") (by tm_at "K") hs (by decide) ⟨kept_K (by tm_at "K"), q⟩
  · exact O_meth_mob (f := 474) (okI P) (by tm_at "K") (by tm_at "K") hs (by decide) ⟨kept_K (by tm_at "K"), q⟩
theorem f_app (P : Pg c) {late : Bool} {ad : Adr} {ct : Nm → AO} {Le : List Ed} {M : Mo} {Li : List Str → List Ed} {I : List (List Str)} {dx : Addr} {e : Ed} (lay : Lay ad ct σ) (C : CS late ad ct Le M Li I) (hs : ad .self = some dx) (hL : Le.length ≤ 900) (h0 : 0 ≤ e.hi) (h3 : e.hi ≤ 3)
    (q : ∀ ct' σ', Lay ad ct' σ' → CS late ad ct' (Le ++ [e]) M Li I → Fra ad ad σ σ' → K .none σ') : OCd c (n + 2) (.val (.ref (fA late))) [.mob (cX late) dx, e.obj] [] [] σ K := by
  cases late
  · exact f_app_C (n := n + 1) P lay C hs hL q
  · exact f_app_I P lay C hs hL h0 h3 q
theorem f_reg (P : Pg c) {late : Bool} {ad : Adr} {ct : Nm → AO} {Le L : List Ed} {M : Mo} {I : List (List Str)} {dx : Addr} {e : Ed} (lay : Lay ad ct σ) (C : CS late ad ct Le M (fun _ => L) I) (hs : ad .self = some dx) (hI : I.Nodup) (hk : ∀ ks ∈ I, ks.length ≤ 100) (hL : L.length ≤ 900) (he : e.ok) (h0 : 0 ≤ e.hi) (h3 : e.hi ≤ 3)
    (q : ∀ ad' ct' σ', Lay ad' ct' σ' → CS late ad' ct' Le M (fun _ => L ++ [e]) I → ad' .self = some dx → Fra ad ad' σ σ' → K .none σ') : OCd c (n + 5) (.val (.ref (fR late))) [.mob (cX late) dx, e.obj] [] [] σ K := by
  cases late
  · exact f_reg_C P lay C hs hI hk hL he q
  · exact f_reg_I P lay C hs hI hk hL he h0 h3 q
theorem f_ins (P : Pg c) {late : Bool} {ad : Adr} {ct : Nm → AO} {M : Mo} {I : List (List Str)} {dx : Addr} {e : Ed} {rows : List (List Ed)} (lay : Lay ad ct σ) (C : CS late ad ct (M.map (·.1)) M (fun _ => M.map (·.1)) I) (hs : ad .self = some dx)
    (hI : I.Nodup) (hk : ∀ ks ∈ I, ks.length ≤ 100) (hnd : (M.map (·.1)).Nodup) (hL : M.length ≤ 800) (he : e.ok) (h0 : 0 ≤ e.hi) (h3 : e.hi ≤ 3) (hr : rows.Nodup) (hrl : rows.length ≤ 200) (hrr : ∀ r ∈ rows, r.length ≤ 100) (hol : (oldR M e).length ≤ 700)
    (q : ∀ ad' ct' σ', Lay ad' ct' σ' → CS late ad' ct' ((insM M e rows).map (·.1)) (insM M e rows) (fun _ => (insM M e rows).map (·.1)) I → ad' .self = some dx → Fra ad ad' σ σ' → K (.bool (!(newR M e rows).isEmpty)) σ') :
    OCd c (n + 7) (.val (.ref 380)) [.mob (cX late) dx, e.obj, .flst (rows.map fun r => .tup (r.map Ed.obj))] [] [] σ K := by
  refine F_fn (bn := ["self", "edge", "child_pointer_lists"]) (by rw [P.hK]; rfl) rfl (by rw [P.hK]; rfl) rfl rfl rfl rfl rfl rfl rfl (by decide) (by decide) (fun s kk vs kvs h1 h2 => ?_) fun env O => ?_
  · obtain ⟨v0, v1, v2, rfl⟩ := len3 h1
    obtain ⟨-, rfl⟩ := len0 h2
    exact BindsTo.of_eq rfl
  dsimp only [List.zip_cons_cons, List.zip_nil_left, List.zip_nil_right, List.cons_append, List.nil_append, List.append_nil]
  conv => arg 4; whnf
  obtain ⟨ckl, hck, hckf⟩ := ck_tup e
  obtain ⟨oca, ohca⟩ := C.cpls
  have hself := lay.has _ _ hs
  rw [C.selfc] at hself
  have hcp := lay.has _ _ ohca
  rw [C.cplsc] at hcp
  unfold cplsC at hcp
  refine WB_ifJ (fun l s => @Eq Loc l [("self", .mob (cX late) dx), ("edge", e.obj), ("child_pointer_lists", .flst (rows.map fun r => .tup (r.map Ed.obj)))] ∧ ∃ ad1 ct1, Lay ad1 ct1 s ∧ CS late ad1 ct1 (withE (M.map (·.1)) e) M (fun _ => withE (M.map (·.1)) e) I ∧ ad1 .self = some dx ∧ Fra ad ad1 σ s) ?_ ?_
  · tm_at "go"
    refine O_ck P ?_
    tm_at "go"
    refine x_gcpls P hself ohca ?_
    rw [hck]
    refine O_notIn_dict hcp hckf ?_
    rw [← hck, cpls_dget, Option.isSome_map, find_isSome]
    tm_at "go"
    refine ⟨fun hv => ?_, fun hv => ?_⟩
    · have hne : e ∉ M.map (·.1) := by simpa using hv
      have hw : withE (M.map (·.1)) e = M.map (·.1) ++ [e] := if_neg hne
      rw [hw]
      tm_at "drop"
      tm_at "go"
      intro pl
      refine x_app P hself ?_
      tm_at "go"
      refine (f_app P lay C hs (by rw [List.length_map]; omega) h0 h3 fun ct1 σ1 lay1 C1 fr1 => ?_).oc
      tm_at "drop"
      tm_at "go"
      intro pl
      have hself1 := lay1.has _ _ hs
      rw [C1.selfc] at hself1
      refine x_reg P hself1 ?_
      tm_at "go"
      refine (f_reg P lay1 C1 hs hI hk (by rw [List.length_map]; omega) he h0 h3 fun ad2 ct2 σ2 lay2 C2 hs2 fr2 => ?_).oc
      exact WB_nil ⟨rfl, rfl, _, _, lay2, C2, hs2, fr1.trans fr2⟩
    · have hin : e ∈ M.map (·.1) := by simpa using hv
      have hw : withE (M.map (·.1)) e = M.map (·.1) := if_pos hin
      rw [hw]
      exact WB_nil ⟨rfl, rfl, _, _, lay, C, hs, Fra.refl _ _⟩
  · rintro l s ⟨rfl, ad1, ct1, lay1, C1, hs1, fr1⟩
    obtain ⟨pca, phca⟩ := C1.cpls
    have hself1 := lay1.has _ _ hs1
    rw [C1.selfc] at hself1
    have hcp1 := lay1.has _ _ phca
    rw [C1.cplsc] at hcp1
    unfold cplsC at hcp1
    tm_at "go"
    refine x_gcpls P hself1 phca ?_
    intro pl
    refine O_setdefault hcp1 ?_
    tm_at "go"
    refine O_ck P ?_
    tm_at "go"
    refine WE_dict (.dict []) (.inl rfl) fun g hg => ?_
    tm_at "go"
    have gd : g ≠ pca := by rintro rfl; have := lay1.has _ _ phca; rw [hg] at this; cases this
    have hcp2 := (put_ne s (.dict []) gd.symm).trans hcp1
    have hl2 : (M.map fun m => (m.1.ck, ad! ad1 (.cpl m.1))).length ≤ 1000 := by rw [List.length_map]; omega
    refine OC.mono (K := fun v σ' => ∃ ad2 ct2 gc s', v = .ref gc ∧ Sub s' σ' ∧ Lay ad2 ct2 s' ∧ CS late ad2 ct2 (withE (M.map (·.1)) e) (base M e) (fun _ => withE (M.map (·.1)) e) I ∧ ad2 .self = some dx ∧ ad2 (.cpl e) = some gc ∧ Fra ad ad2 σ s') ?_ ?_
    · rw [hck]
      refine C_setdefault hcp2 hckf hl2 (fun y hy => ?_) (fun hn => ?_)
      · rw [← hck, cpls_dget, Option.map_eq_some_iff] at hy
        obtain ⟨m, hm, rfl⟩ := hy
        have hme : m.1 = e := of_decide_eq_true (List.find?_some (p := fun x : Ed × List (List Ed) => decide (x.1 = e)) hm)
        have hmm := List.mem_of_find?_eq_some hm
        obtain ⟨⟨gc, hgc⟩, -⟩ := C1.cpl m hmm
        have hb : base M e = M := if_pos (hme ▸ List.mem_map.mpr ⟨m, hmm, rfl⟩)
        rw [hb]
        exact ⟨ad1, ct1, gc, s, ad!_at hgc, Sub.put hg, lay1, C1, hs1, hme ▸ hgc, fr1⟩
      · rw [← hck, cpls_dget, Option.map_eq_none_iff, ← Option.not_isSome_iff_eq_none, find_isSome, decide_eq_true_iff] at hn
        have hb : base M e = M ++ [(e, [])] := if_neg hn
        have hne : ∀ m ∈ M, m.1 ≠ e := fun m hm z => hn (z ▸ List.mem_map.mpr ⟨m, hm, rfl⟩)
        rw [hb, put_swap gd, ← hck]
        have hg' : put s pca (.dict ((M.map fun m => (m.1.ck, ad! ad1 (.cpl m.1))) ++ [(e.ck, .ref g)])) g = none := by rw [put_ne _ _ gd]; exact hg
        exact ⟨_, _, g, _, rfl, Sub.refl _, (lay1.upd phca _).new (C1.cploff e hne) hg' _, C1.newCpl hne g, by rw [aput_ne _ _ (by intro z; cases z)]; exact hs1, aput_self _ _ _, fr1.trans ((Fra.upd phca _).trans (Fra.new hg' _))⟩
    · rintro v σ' ⟨ad2, ct2, gc, s', rfl, sub, lay2, C2, hs2, hgc, fr2⟩
      refine WB.forget (loc' := [("cpls", .ref gc), ("self", .mob (cX late) dx), ("edge", e.obj), ("child_pointer_lists", .flst (rows.map fun r => .tup (r.map Ed.obj)))]) sub (fun _ _ z => z) ?_
      tm_at "go"
      refine WB_for O (by tm_at "u") ?_ (fun _ => by tm_at "u")
      tm_at "go"
      refine ⟨_, none, Iter_flst _, fun j loc' σ' => LSub [("cpls", .ref gc), ("chart_was_modified", .bool (!(newR M e (rows.take j)).isEmpty))] loc' ∧ ∃ ct', Lay ad2 ct' σ' ∧ CS late ad2 ct' (withE (M.map (·.1)) e) (setRows (base M e) e (oldR M e ++ newR M e (rows.take j))) (fun _ => withE (M.map (·.1)) e) I ∧ Fra ad ad2 σ σ',
        ⟨?_, ct2, lay2, ?_, fr2⟩, fun j y loc' σ' hj hn hinv => ?_, fun loc' σ' hn hinv => ?_⟩
      · show LSub [("cpls", .ref gc), ("chart_was_modified", .bool false)] _
        exact LSub.cons (by tm_at "l") (LSub.cons (by tm_at "l") (LSub.nil _))
      · have : newR M e (rows.take 0) = [] := rfl
        rw [this, List.append_nil, setRows_self (base_rows hnd)]
        exact C2
      · obtain ⟨hl, ct', lay', C', fr'⟩ := hinv
        rw [List.getElem?_map, Option.map_eq_some_iff] at hj
        obtain ⟨r, hr', rfl⟩ := hj
        have hcm : (e, oldR M e ++ newR M e (rows.take j)) ∈ setRows (base M e) e (oldR M e ++ newR M e (rows.take j)) := by
          obtain ⟨m, hm, z⟩ := List.mem_map.mp (base_mem M e)
          unfold setRows
          exact List.mem_map.mpr ⟨m, hm, by rw [if_pos z, z]⟩
        have hcl := lay'.has _ _ hgc
        rw [(C'.cpl _ hcm).2] at hcl
        unfold cplC at hcl
        have hlen : (oldR M e ++ newR M e (rows.take j)).length ≤ 900 := by
          rw [List.length_append]
          have := @newR_le M e (rows.take j)
          rw [List.length_take] at this
          omega
        have hrl' := hrr r (List.mem_of_getElem? hr')
        refine WB.forget (loc' := [("child_pointer_list", .tup (r.map Ed.obj)), ("cpls", .ref gc), ("chart_was_modified", .bool (!(newR M e (rows.take j)).isEmpty))]) (Sub.refl _) (LSub.cons look_hd (LSub.cons (look_tl (by decide +kernel) (hl.app look_hd)) (LSub.cons (look_tl (by decide +kernel) (hl.app (look_tl (by decide +kernel) look_hd))) (LSub.nil _)))) ?_
        tm_at "go"
        refine C_tuple_tup ?_
        tm_at "go"
        tm_at "comp"
        tm_at "go"
        refine map_turns Ed.obj Ed.ck (.inl rfl) (by omega) (fun C g hg K' kk => ?_) ?_
        · tm_at "go"
          exact O_ck P kk
        tm_at "go"
        refine C_tuple_flst (by rw [List.length_map]; omega) ?_
        tm_at "go"
        refine O_notIn_dict hcl (rk_flat r) ?_
        rw [rows_dget]
        tm_at "go"
        have hmem := @newR_mem M e rows j r hr hr'
        refine ⟨fun hv => ?_, fun hv => ?_⟩
        · have hne : r ∉ oldR M e := fun z => by rw [decide_eq_true (hmem.mpr z)] at hv; cases hv
          tm_at "go"
          refine O_setitem hcl (rk_flat r) (Nat.le_trans (Nat.le_of_eq (List.length_map ..)) (Nat.le_trans hlen (by decide))) ?_
          have hdn : dget ((oldR M e ++ newR M e (rows.take j)).map fun r => (.tup (r.map Ed.ck), .tup (r.map Ed.obj))) (.tup (r.map Ed.ck)) = none := by
            rw [← Option.not_isSome_iff_eq_none, rows_dget, decide_eq_true_iff]
            exact fun z => hne (hmem.mp z)
          have hcc : AO.dict ((oldR M e ++ newR M e (rows.take j)).map (fun r => (.tup (r.map Ed.ck), .tup (r.map Ed.obj))) ++ [(.tup (r.map Ed.ck), .tup (r.map Ed.obj))]) = cplC ((oldR M e ++ newR M e (rows.take j)) ++ [r]) := by unfold cplC; rw [List.map_append (l₂ := [r])]; rfl
          rw [dput_new hdn, hcc]
          tm_at "go"
          have hns := @newR_snoc M e rows j r hr'
          rw [if_neg hne] at hns
          refine WB_nil ⟨?_, _, lay'.upd hgc (cplC ((oldR M e ++ newR M e (rows.take j)) ++ [r])), ?_, ?_⟩
          · rw [hns]
            have : (newR M e (rows.take j) ++ [r]).isEmpty = false := by simp
            rw [this]
            show LSub [("cpls", .ref gc), ("chart_was_modified", .bool true)] _
            exact LSub.cons (by tm_at "l") (LSub.cons (by tm_at "l") (LSub.nil _))
          · rw [hns, ← List.append_assoc, ← setRows_two (base M e) e (oldR M e ++ newR M e (rows.take j))]
            exact C'.row e _
          · exact fr'.trans (Fra.upd hgc _)
        · have hin : r ∈ oldR M e := hmem.mp (of_decide_eq_true (by revert hv; cases decide (r ∈ oldR M e ++ newR M e (rows.take j)) <;> simp))
          tm_at "go"
          have hns := @newR_snoc M e rows j r hr'
          rw [if_pos hin, List.append_nil] at hns
          refine WB_nil ⟨?_, ct', lay', ?_, fr'⟩
          · rw [hns]
            exact LSub.cons (by tm_at "l") (LSub.cons (by tm_at "l") (LSub.nil _))
          · rw [hns]; exact C'
      · obtain ⟨hl, ct', lay', C', fr'⟩ := hinv
        rw [List.length_map, List.take_length] at hl C'
        refine WB.forget (loc' := [("cpls", .ref gc), ("chart_was_modified", .bool (!(newR M e rows).isEmpty))]) (Sub.refl _) hl ?_
        tm_at "go"
        refine q ad2 ct' σ' lay' ?_ hs2 fr'
        rw [insM_fst]
        exact C'
end
end
section
open Classical
section
variable {c : Cx} {n : Nat} {σ σ₀ : Store} {K : V → Store → Prop} {env : Env} {loc : Loc}
theorem swaps_on {sc : Scope} {elt : Expr} {gens : List Comprehension} {scope : Scope} {pos py : Pos} {y : Str} {line : Nat} (O : EnvOk env sc) (h1 : sc.kind = .function) (h2 : sc.names.lookup y = some .local) (h3 : (py.line == pos.line) = true) (h4 : (scope.names.any fun (n, k) => n == y && (k == .local || k == .cell)) = false) :
    swapsWith (.ListComp elt gens scope pos) (some (.Name y py)) line env = pure true := by
  have e1 : env.blockKind = .function := by unfold Env.blockKind; rw [O.scp, h1]; rfl
  have e2 := (O.kind y).trans h2
  show (pure (env.blockKind == .function && env.kindOf y == some .local && py.line == pos.line && !(scope.names.any fun (n, k) => n == y && (k == .local || k == .cell))) : Sem Bool) = pure true
  rw [e1, e2, h3, h4]
  rfl
theorem sub_slice_any {prog : Program} {w : World} {A : Around} {E : Value → Shared → Prop} {s : Shared} {value : Expr} {lower upper : Option Expr} {p pos : Pos} {T id : String} {Q : Value → Shared → Prop}
    (hl : typeLookup (.type T) "__getitem__" = pure (some (.builtin id)))
    (h : wpAny (model prog w) A (eval value env) (fun o s₁ => wpAny (model prog w) A (eval (.Slice lower upper none p) env) (fun i s₂ => s₂.TypeIs o T ∧ wpAny (model prog w) A (getItem o i) Q E s₂) E s₁) E s) :
    wpAny (model prog w) A (eval (.Subscript value (.Slice lower upper none p) pos) env) Q E s := by
  rw [eval_Subscript]
  refine wpAny_bind (wpAny_mono h (fun o s₁ h₁ => wpAny_bind (wpAny_holding (wpAny_mono h₁ (fun i s₂ h₂ => wpAny_bind (wpAny_standAt ?_)) fun _ _ x => x)))
    fun _ _ x => x)
  have fin : wpAny (model prog w) A (operate [i, o] (getItem o i)) (fun r s₃ => wpAny (model prog w) A (letTemporaryGo value o r >>= fun _ => pure r) Q E s₃) E s₂ :=
    wpAny_operating (wpAny_mono h₂.2 (fun r s₃ h₃ => wpAny_bind (wpAny_letTemporaryGo (wpAny_pure h₃))) fun _ _ x => x)
  first
    | (refine wpAny_bind ?_
       rw [getitemInPython_of_ne h₂.1.not_modules]
       refine wpAny_bind (wpAny_specialOf h₂.1 hl ?_)
       first
         | exact wpAny_pure (wpAny_bind fin)
         | exact wpAny_bind (wpAny_pure (wpAny_bind fin))
         | exact wpAny_bind fin)
    | (refine wpAny_bind (wpAny_specialOf h₂.1 hl ?_)
       first
         | exact wpAny_bind (wpAny_pure (wpAny_bind fin))
         | exact wpAny_bind fin)
theorem WE_slice_any {e : Expr} {p pos : Pos} {K : V → Store → Prop} (x : WE c n env e loc σ fun v σ1 => ∃ a l, v = .ref a ∧ σ1 a = some (.list l) ∧ l.length ≤ 1000 ∧ K (.flst l) σ1) :
    WE c n env (.Subscript e (.Slice none none none p) pos) loc σ K := fun A kp st h tk r s F => by
  refine sub_slice_any (T := "list") list_getitem_lookup (wpAny_mono (x A kp st h tk r s F) (fun u s' ⟨b, kp1, σ1, h1, tk1, e1, l1, q1, s1, F1, a, l, ev, ha, hl, k⟩ => ?_) fun _ _ e => e)
  subst e1 ev
  cases q1
  obtain ⟨vs, m, ho, hL, rr⟩ := s1.getList ha
  refine wpAny_Slice (wpAny_pure (wpAny_pure (wpAny_pure ?_)))
  have hsz : vs.toArray.size ≤ sizeLine := by rw [List.size_toArray, rr.length, sizeLine_eq]; omega
  refine ⟨(hL.push _).typeIs, wpAny_getItem_list_slice (hL.push _) (Heap.IsSliceOf.new ..) (lo := none) (hi := none) .none .none .none (by simp) ?_ hsz⟩
  rw [Heap.size_push, slicePick_all]
  have := F1.satF s1
  exact (fun p : PC c (stF env h1 st) kp1 Rep K _ _ => let ⟨x, kp', σ', h', tk', e, l, q, s', k⟩ := p; ⟨x, kp', σ', h', tk', e, l1.trans l, q, s'.weakSt F1.le_stF, F1.after l s', k⟩) (slice_o (vl := .none) (vu := .none) this rr k)
theorem f_cpl (P : Pg c) {late : Bool} {ad : Adr} {ct : Nm → AO} {Le : List Ed} {M : Mo} {Li : List Str → List Ed} {I : List (List Str)} {dx : Addr} {e : Ed} {rows : List (List Ed)} (lay : Lay ad ct σ) (C : CS late ad ct Le M Li I) (hs : ad .self = some dx)
    (hnd : (M.map (·.1)).Nodup) (hm : (e, rows) ∈ M) (hrl : rows.length ≤ 900) (q : K (.flst (rows.map fun r => .tup (r.map Ed.obj))) σ) : OCd c (n + 2) (.val (.ref 415)) [.mob (cX late) dx, e.obj] [] [] σ K := by
  refine OCd.weak ?_
  refine F_fn (bn := ["self", "edge"]) (by rw [P.hK]; rfl) rfl (by rw [P.hK]; rfl) rfl rfl rfl rfl rfl rfl rfl (by decide) (by decide) (fun s kk vs kvs h1 h2 => ?_) fun env O => ?_
  · obtain ⟨v0, v1, rfl⟩ := len2 h1
    obtain ⟨-, rfl⟩ := len0 h2
    exact BindsTo.of_eq rfl
  dsimp only [List.zip_cons_cons, List.zip_nil_left, List.zip_nil_right, List.cons_append, List.nil_append, List.append_nil]
  conv => arg 4; whnf
  obtain ⟨ckl, hck, hckf⟩ := ck_tup e
  obtain ⟨oca, ohca⟩ := C.cpls
  have hself := lay.has _ _ hs
  rw [C.selfc] at hself
  have hcp := lay.has _ _ ohca
  rw [C.cplsc] at hcp
  unfold cplsC at hcp
  obtain ⟨⟨gc, hgc⟩, hgcc⟩ := C.cpl _ hm
  have hcl := lay.has _ _ hgc
  rw [hgcc] at hcl
  unfold cplC at hcl
  dsimp only at hcl hgc
  tm_at "go"
  refine x_gcpls P hself ohca ?_
  intro pl
  refine O_get hcp ?_
  tm_at "go"
  refine O_ck P ?_
  tm_at "go"
  refine WE_dict (.dict []) (.inl rfl) fun g hg => ?_
  tm_at "go"
  have gd : g ≠ oca := by rintro rfl; rw [hg] at hcp; cases hcp
  have hcp2 := (put_ne σ (.dict []) gd.symm).trans hcp
  have gg : g ≠ gc := by rintro rfl; rw [hg] at hcl; cases hcl
  have hcl2 := (put_ne σ (.dict []) gg.symm).trans hcl
  rw [hck]
  refine C_get hcp2 hckf ?_
  rw [← hck, cpls_dget]
  have hf : M.find? (fun m => decide (m.1 = e)) = some (e, rows) := by
    cases q : M.find? (fun m => decide (m.1 = e)) with
    | none =>
      rw [List.find?_eq_none] at q
      exact absurd (decide_eq_true rfl) (q _ hm)
    | some y =>
      have h1 : y.1 = e := of_decide_eq_true (List.find?_some (p := fun x : Ed × List (List Ed) => decide (x.1 = e)) q)
      rw [pair_uniq hnd (List.mem_of_find?_eq_some q) hm h1]
  rw [hf]
  show ∀ pl, O1 c _ (fun v => getMethod v "values" pl) RM (ad! ad (.cpl e)) _ _
  rw [ad!_at hgc]
  intro pl
  refine O_values hcl2 ?_
  tm_at "go"
  refine C_values (.inl ⟨_, hcl2⟩) ?_
  tm_at "go"
  refine C_list_vals hcl2 (by rw [List.length_map]; omega) ?_
  rw [List.map_map]
  exact ⟨σ, Sub.put hg, q⟩
theorem f_num (P : Pg c) {late : Bool} {ad : Adr} {ct : Nm → AO} {Le : List Ed} {M : Mo} {Li : List Str → List Ed} {I : List (List Str)} {dx : Addr} (lay : Lay ad ct σ) (C : CS late ad ct Le M Li I) (hs : ad .self = some dx) (hL : M.length ≤ 900)
    (q : K (.int M.length) σ) : OCd c (n + 2) (.val (.ref 355)) [.mob (cX late) dx] [] [] σ K := by
  refine F_fn (bn := ["self"]) (by rw [P.hK]; rfl) rfl (by rw [P.hK]; rfl) rfl rfl rfl rfl rfl rfl rfl (by decide) (by decide) (fun s kk vs kvs h1 h2 => ?_) fun env O => ?_
  · obtain ⟨v0, rfl⟩ := len1 h1
    obtain ⟨-, rfl⟩ := len0 h2
    exact BindsTo.of_eq rfl
  dsimp only [List.zip_cons_cons, List.zip_nil_left, List.zip_nil_right, List.cons_append, List.nil_append, List.append_nil]
  conv => arg 4; whnf
  obtain ⟨oca, ohca⟩ := C.cpls
  have hself := lay.has _ _ hs
  rw [C.selfc] at hself
  have hcp := lay.has _ _ ohca
  rw [C.cplsc] at hcp
  unfold cplsC at hcp
  tm_at "go"
  refine x_gcpls P hself ohca ?_
  tm_at "go"
  refine C_len_dict hcp (by rw [List.length_map]; omega) ?_
  rw [List.length_map]
  exact q
theorem f_iwb (P : Pg c) {late : Bool} {ad : Adr} {ct : Nm → AO} {M : Mo} {I : List (List Str)} {dx : Addr} {e pe ce : Ed} {prows : List (List Ed)} (lay : Lay ad ct σ) (C : CS late ad ct (M.map (·.1)) M (fun _ => M.map (·.1)) I) (hs : ad .self = some dx)
    (hI : I.Nodup) (hk : ∀ ks ∈ I, ks.length ≤ 100) (hnd : (M.map (·.1)).Nodup) (hL : M.length ≤ 800) (he : e.ok) (h0 : 0 ≤ e.hi) (h3 : e.hi ≤ 3) (hm : (pe, prows) ∈ M) (hr : prows.Nodup) (hrl : prows.length ≤ 200) (hrr : ∀ r ∈ prows, r.length ≤ 99) (hol : (oldR M e).length ≤ 700)
    (q : ∀ ad' ct' σ', Lay ad' ct' σ' → CS late ad' ct' ((insM M e (prows.map fun r => r ++ [ce])).map (·.1)) (insM M e (prows.map fun r => r ++ [ce])) (fun _ => (insM M e (prows.map fun r => r ++ [ce])).map (·.1)) I → ad' .self = some dx → Fra ad ad' σ σ' → K (.bool (!(newR M e (prows.map fun r => r ++ [ce])).isEmpty)) σ') :
    OCd c (n + 8) (.val (.ref 375)) [.mob (cX late) dx, e.obj, pe.obj, ce.obj] [] [] σ K := by
  refine F_fn (bn := ["self", "new_edge", "previous_edge", "child_edge"]) (by rw [P.hK]; rfl) rfl (by rw [P.hK]; rfl) rfl rfl rfl rfl rfl rfl rfl (by decide) (by decide) (fun s kk vs kvs h1 h2 => ?_) fun env O => ?_
  · obtain ⟨v0, v1, v2, v3, rfl⟩ := len4 h1
    obtain ⟨-, rfl⟩ := len0 h2
    exact BindsTo.of_eq rfl
  dsimp only [List.zip_cons_cons, List.zip_nil_left, List.zip_nil_right, List.cons_append, List.nil_append, List.append_nil]
  conv => arg 4; whnf
  obtain ⟨oca, ohca⟩ := C.cpls
  have hself := lay.has _ _ hs
  rw [C.selfc] at hself
  tm_at "go"
  intro pl
  obtain ⟨lself, hns⟩ := selfX hself
  refine O_meth_mob (f := 415) (okX P late) (by cases late <;> tm_at "K") (by tm_at "K") hns (by cases late <;> decide) ?_
  tm_at "go"
  refine (f_cpl P lay C hs hnd hm (by omega) ?_).oc
  tm_at "go"
  refine WB_acomp O (by tm_at "u") (by tm_at "u") (swaps_on O rfl (by tm_at "u") (by tm_at "u") (by tm_at "u")) (by tm_at "cf") ?_ (fun _ => by tm_at "u")
  tm_at "go"
  refine map_turns (fun r : List Ed => V.tup (r.map Ed.obj)) (fun r : List Ed => V.tup ((r ++ [ce]).map Ed.obj)) (.inr rfl) (by omega) (fun C r hr K' kk => ?_) ?_
  · tm_at "go"
    refine O_addTup (by rw [List.length_map]; have := hrr r hr; simp; omega) ?_
    rw [List.map_append] at kk
    exact kk
  tm_at "go"
  intro pl
  refine O_meth_mob (f := 380) (okX P late) (by cases late <;> tm_at "K") (by tm_at "K") hns (by cases late <;> decide) ?_
  tm_at "go"
  have hnd' : (prows.map fun r => r ++ [ce]).Nodup := by
    rw [List.nodup_iff_pairwise_ne] at hr ⊢
    exact List.pairwise_map.mpr (hr.imp fun h z => h (List.append_cancel_right z))
  have hrr' : ∀ r ∈ prows.map (fun r => r ++ [ce]), r.length ≤ 100 := fun r h => by
    obtain ⟨r', h', rfl⟩ := List.mem_map.mp h
    rw [List.length_append, List.length_singleton]
    have := hrr r' h'; omega
  have hmm : (prows.map fun r => V.tup ((r ++ [ce]).map Ed.obj)) = (prows.map fun r => r ++ [ce]).map fun r => .tup (r.map Ed.obj) := by rw [List.map_map]; rfl
  rw [hmm]
  exact (f_ins P lay C hs hI hk hnd hL he h0 h3 hnd' (by rw [List.length_map]; exact hrl) hrr' hol q).oc
theorem f_edges_C (P : Pg c) {ad : Adr} {ct : Nm → AO} {Le : List Ed} {M : Mo} {Li : List Str → List Ed} {I : List (List Str)} {dx : Addr} (lay : Lay ad ct σ) (C : CS false ad ct Le M Li I) (hs : ad .self = some dx) (hL : Le.length ≤ 900)
    (q : K (.flst (Le.map Ed.obj)) σ) : OCd c (n + 3) (.val (.ref 341)) [.mob cC dx] [] [] σ K := by
  refine F_fn (bn := ["self"]) (by rw [P.hK]; rfl) rfl (by rw [P.hK]; rfl) rfl rfl rfl rfl rfl rfl rfl (by decide) (by decide) (fun s kk vs kvs h1 h2 => ?_) fun env O => ?_
  · obtain ⟨v0, rfl⟩ := len1 h1
    obtain ⟨-, rfl⟩ := len0 h2
    exact BindsTo.of_eq rfl
  dsimp only [List.zip_cons_cons, List.zip_nil_left, List.zip_nil_right, List.cons_append, List.nil_append, List.append_nil]
  conv => arg 4; whnf
  obtain ⟨oea, ohea⟩ := (C.edges 0 (by decide)).1
  obtain ⟨oca, ohca⟩ := C.cpls
  obtain ⟨oia, ohia⟩ := C.idx
  have hself := lay.has _ _ hs
  rw [C.selfc, selfF ohea ohca ohia] at hself
  have hed := lay.has _ _ ohea
  rw [(C.edges 0 (by decide)).2] at hed
  unfold edgesC at hed
  rw [inB_F] at hed
  refine WB_ret ?_
  refine WE_slice_any ?_
  tm_at "go"
  refine O_get_mob (okC P) (by tm_at "K") hself (by tm_at "u") (by intro i z; cases z) ?_
  refine ⟨oea, _, rfl, hed, by rw [List.length_map]; omega, ?_⟩
  tm_at "go"
  exact q
theorem f_iter_I (P : Pg c) {ad : Adr} {ct : Nm → AO} {Le : List Ed} {M : Mo} {Li : List Str → List Ed} {I : List (List Str)} {dx : Addr} (lay : Lay ad ct σ) (C : CS true ad ct Le M Li I) (hs : ad .self = some dx) (hL : Le.length ≤ 200)
    (q : K (.flst (([0, 1, 2, 3].map (inB true Le)).flatten.map Ed.obj)) σ) : OCd c (n + 2) (.val (.ref 459)) [.mob cI dx] [] [] σ K := by
  refine F_fn (bn := ["self"]) (by rw [P.hK]; rfl) rfl (by rw [P.hK]; rfl) rfl rfl rfl rfl rfl rfl rfl (by decide) (by decide) (fun s kk vs kvs h1 h2 => ?_) fun env O => ?_
  · obtain ⟨v0, rfl⟩ := len1 h1
    obtain ⟨-, rfl⟩ := len0 h2
    exact BindsTo.of_eq rfl
  dsimp only [List.zip_cons_cons, List.zip_nil_left, List.zip_nil_right, List.cons_append, List.nil_append, List.append_nil]
  conv => arg 4; whnf
  obtain ⟨oe0, ohe0⟩ := (C.edges 0 (by decide)).1
  obtain ⟨oe1, ohe1⟩ := (C.edges 1 (by decide)).1
  obtain ⟨oe2, ohe2⟩ := (C.edges 2 (by decide)).1
  obtain ⟨oe3, ohe3⟩ := (C.edges 3 (by decide)).1
  obtain ⟨oca, ohca⟩ := C.cpls
  obtain ⟨oia, ohia⟩ := C.idx
  have hself := lay.has _ _ hs
  rw [C.selfc, selfT ohe0 ohe1 ohe2 ohe3 ohca ohia] at hself
  have hed : ∀ i a, i < 4 → ad (.edges i) = some a → σ a = some (.list ((inB true Le i).map Ed.obj)) := fun i a hi ha => by
    have := lay.has _ _ ha
    rw [(C.edges i hi).2] at this
    exact this
  refine WB_ret ?_
  refine WE_comp2 (by tm_at "cf") (by tm_at "u") (by tm_at "u") (by decide) ?_ (fun _ => by tm_at "u")
  tm_at "go"
  refine O_get_mob (okI P) (by tm_at "K") hself (by tm_at "u") (by intro i z; cases z) ?_
  have e : ([0, 1, 2, 3].map fun i => (inB true Le i).map Ed.obj).flatten = ([0, 1, 2, 3].map (inB true Le)).flatten.map Ed.obj := by simp
  have hl : ∀ i, (inB true Le i).length ≤ 200 := fun i => Nat.le_trans inB_len hL
  refine ⟨[oe0, oe1, oe2, oe3], [0, 1, 2, 3].map fun i => (inB true Le i).map Ed.obj, rfl, ?_, rfl, fun i a l h1 h2 => ?_, ?_⟩
  · have h0 := hl 0
    have h1 := hl 1
    have h2 := hl 2
    have h3 := hl 3
    simp
    omega
  · match i, h1, h2 with
    | 0, rfl, rfl => exact hed 0 _ (by decide) ohe0
    | 1, rfl, rfl => exact hed 1 _ (by decide) ohe1
    | 2, rfl, rfl => exact hed 2 _ (by decide) ohe2
    | 3, rfl, rfl => exact hed 3 _ (by decide) ohe3
    | i + 4, h1, _ => simp at h1
  · rw [e]
    tm_at "go"
    exact q
theorem f_edges_I (P : Pg c) {ad : Adr} {ct : Nm → AO} {Le : List Ed} {M : Mo} {Li : List Str → List Ed} {I : List (List Str)} {dx : Addr} (lay : Lay ad ct σ) (C : CS true ad ct Le M Li I) (hs : ad .self = some dx) (hL : Le.length ≤ 200)
    (q : K (.flst (([0, 1, 2, 3].map (inB true Le)).flatten.map Ed.obj)) σ) : OCd c (n + 3) (.val (.ref 454)) [.mob cI dx] [] [] σ K := by
  refine F_fn (bn := ["self"]) (by rw [P.hK]; rfl) rfl (by rw [P.hK]; rfl) rfl rfl rfl rfl rfl rfl rfl (by decide) (by decide) (fun s kk vs kvs h1 h2 => ?_) fun env O => ?_
  · obtain ⟨v0, rfl⟩ := len1 h1
    obtain ⟨-, rfl⟩ := len0 h2
    exact BindsTo.of_eq rfl
  dsimp only [List.zip_cons_cons, List.zip_nil_left, List.zip_nil_right, List.cons_append, List.nil_append, List.append_nil]
  conv => arg 4; whnf
  obtain ⟨oe0, ohe0⟩ := (C.edges 0 (by decide)).1
  obtain ⟨oe1, ohe1⟩ := (C.edges 1 (by decide)).1
  obtain ⟨oe2, ohe2⟩ := (C.edges 2 (by decide)).1
  obtain ⟨oe3, ohe3⟩ := (C.edges 3 (by decide)).1
  obtain ⟨oca, ohca⟩ := C.cpls
  obtain ⟨oia, ohia⟩ := C.idx
  have hself := lay.has _ _ hs
  rw [C.selfc, selfT ohe0 ohe1 ohe2 ohe3 ohca ohia] at hself
  tm_at "go"
  intro pl
  refine O_meth_mob (f := 459) (okI P) (by tm_at "K") (by tm_at "K") hself (by decide) ?_
  tm_at "go"
  exact (f_iter_I P lay C hs hL q).oc
end
end
section
open Classical
section
variable {c : Cx} {n : Nat} {σ σ₀ : Store} {K : V → Store → Prop} {env : Env} {loc : Loc}
theorem turns_fresh {scope : Scope} {x : Str} {elt : Expr} {nm : Nat → Nm} (hinj : ∀ i j, nm i = nm j → i = j) (y : AO) {ad : Adr} {ct : Nm → AO} (lay : Lay ad ct σ) (hnone : ∀ i, ad (nm i) = none)
    (step : ∀ C u σ' (K' : V → Store → Prop), (∀ a, σ' a = none → K' (.ref a) (put σ' a y)) → WE c n (compEnvC scope (closL env scope.names []) C env) elt ((x, u) :: inner scope loc) σ' K')
    (q : ∀ ad' ct' σ', Lay ad' ct' σ' → (∀ j, j < 4 → (∃ a, ad' (nm j) = some a) ∧ ct' (nm j) = y) → (∀ m, (∀ j, m ≠ nm j) → ad' m = ad m ∧ ct' m = ct m) → Fra ad ad' σ σ' → K (.flst [ad! ad' (nm 0), ad! ad' (nm 1), ad! ad' (nm 2), ad! ad' (nm 3)]) σ') :
    Turns c n env loc scope x [] elt (.rng 4) σ K := by
  refine ⟨_, none, Iter_rng (by decide), by decide, fun i acc σ' => ∃ ad' ct', Lay ad' ct' σ' ∧ (∀ j, j < i → (∃ a, ad' (nm j) = some a) ∧ ct' (nm j) = y) ∧ (∀ j, i ≤ j → ad' (nm j) = none) ∧ (∀ m, (∀ j, m ≠ nm j) → ad' m = ad m ∧ ct' m = ct m) ∧ Fra ad ad' σ σ' ∧ acc = (List.range i).map fun j => ad! ad' (nm j),
    ⟨ad, ct, lay, fun j h => absurd h (Nat.not_lt_zero j), fun j _ => hnone j, fun m _ => ⟨rfl, rfl⟩, Fra.refl _ _, rfl⟩, fun C i u acc σ' hy hi => ⟨fun _ => ?_, fun h => by cases h⟩, fun acc σ' hi => ?_⟩
  · obtain ⟨ad', ct', lay', h1, h2, h3, fr, rfl⟩ := hi
    refine step C u σ' _ fun a ha => ?_
    have ne : ∀ j, j < i → nm j ≠ nm i := fun j hj z => by have := hinj _ _ z; omega
    refine ⟨aput ad' (nm i) a, cput ct' (nm i) y, lay'.new (h2 i (Nat.le_refl i)) ha y, fun j hj => ?_, fun j hj => ?_, fun m hm => ?_, fr.trans (Fra.new ha y), ?_⟩
    · by_cases z : j = i
      · subst z; rw [aput_self, cput_self]; exact ⟨⟨a, rfl⟩, rfl⟩
      · have hj' : j < i := by omega
        rw [aput_ne _ _ (ne j hj'), cput_ne _ _ (ne j hj')]; exact h1 j hj'
    · rw [aput_ne _ _ (fun z => by have := hinj _ _ z; omega)]; exact h2 j (by omega)
    · rw [aput_ne _ _ (hm i), cput_ne _ _ (hm i)]; exact h3 m hm
    · rw [List.range_succ, List.map_append, List.map_singleton]
      congr 1
      · apply List.map_congr_left
        intro j hj
        unfold ad!
        rw [aput_ne _ _ (ne j (List.mem_range.mp hj))]
      · unfold ad!; rw [aput_self]; rfl
  · obtain ⟨ad', ct', lay', h1, h2, h3, fr, rfl⟩ := hi
    exact q ad' ct' σ' lay' h1 h3 fr
theorem f_leaves (P : Pg c) {late : Bool} {dx : Addr} {ns : List Str} {l : List V} {k : Nat} (hd : σ dx = some (.ns ns l)) (hn : (ns.zip l).lookup ("_num_leaves" : Str) = some (V.int k)) (q : K (.int k) σ) : OCd c (n + 1) (.val (.ref 320)) [.mob cI dx] [] [] σ K := by
  refine F_fn (bn := ["self"]) (by rw [P.hK]; rfl) rfl (by rw [P.hK]; rfl) rfl rfl rfl rfl rfl rfl rfl (by decide) (by decide) (fun s kk vs kvs h1 h2 => ?_) fun env O => ?_
  · obtain ⟨v0, rfl⟩ := len1 h1
    obtain ⟨-, rfl⟩ := len0 h2
    exact BindsTo.of_eq rfl
  dsimp only [List.zip_cons_cons, List.zip_nil_left, List.zip_nil_right, List.cons_append, List.nil_append, List.append_nil]
  conv => arg 4; whnf
  tm_at "go"
  refine O_get_mob (okI P) (by tm_at "K") hd hn (by intro i z; cases z) ?_
  tm_at "go"
  exact q
theorem f_pos (P : Pg c) {dx : Addr} {ns : List Str} {l : List V} (hd : σ dx = some (.ns ns l)) (hm : ("num_leaves" : Str) ∉ ns) (hn : (ns.zip l).lookup ("_num_leaves" : Str) = some (V.int 3)) (q : K (.rng 4) σ) : OCd c (n + 2) (.val (.ref 488)) [.mob cI dx] [] [] σ K := by
  refine F_fn (bn := ["self"]) (by rw [P.hK]; rfl) rfl (by rw [P.hK]; rfl) rfl rfl rfl rfl rfl rfl rfl (by decide) (by decide) (fun s kk vs kvs h1 h2 => ?_) fun env O => ?_
  · obtain ⟨v0, rfl⟩ := len1 h1
    obtain ⟨-, rfl⟩ := len0 h2
    exact BindsTo.of_eq rfl
  dsimp only [List.zip_cons_cons, List.zip_nil_left, List.zip_nil_right, List.cons_append, List.nil_append, List.append_nil]
  conv => arg 4; whnf
  tm_at "go"
  intro pl
  refine O_meth_mob (f := 320) (okI P) (by tm_at "K") (by tm_at "K") hd hm ?_
  tm_at "go"
  refine (f_leaves P (late := true) (k := 3) hd hn ?_).oc
  tm_at "go"
  refine C_range (m := 4) ?_
  tm_at "go"
  exact q
theorem CS.init {late : Bool} {ad : Adr} {ct : Nm → AO} (h1 : ∃ a, ad .self = some a) (h2 : ct .self = selfC ad late) (h3 : ∀ i, i < nb late → (∃ a, ad (.edges i) = some a) ∧ ct (.edges i) = .list []) (h4 : ∃ a, ad .cpls = some a) (h5 : ct .cpls = .dict []) (h6 : ∀ e, ad (.cpl e) = none)
    (h7 : ∃ a, ad .idx = some a) (h8 : ct .idx = .dict []) (h9 : ∀ ks i, ad (.dic ks i) = none ∧ ∀ v, ad (.grp ks i v) = none) : CS late ad ct [] [] (fun _ => []) [] :=
  ⟨h1, h2, h3, h4, h5, fun m hm => by simp at hm, fun e _ => h6 e, h7, h8, fun ks hk => by simp at hk, fun ks _ i => h9 ks i⟩
noncomputable def tok3 : V := .tup [.str "x", .str "y", .str "x"]
noncomputable def none' : Adr := fun _ => none
theorem none_lay (σ : Store) : Lay none' (fun _ => .list []) σ := ⟨fun _ _ _ h => by simp [none'] at h, fun _ _ h => by simp [none'] at h⟩
theorem f_initz_C (P : Pg c) {dx : Addr} (hd : σ₀ dx = none)
    (q : ∀ ad' ct' σ', Lay ad' ct' σ' → CS false ad' ct' [] [] (fun _ => []) [] → ad' .self = some dx → Fra none' ad' σ₀ σ' → K .none σ') :
    OCd c (n + 1) (.val (.ref 313)) [.mob cC dx] [] [] (put σ₀ dx (.ns ["_tokens", "_num_leaves"] [tok3, .int 3])) K := by
  have l1 := (none_lay σ₀).new (n := .self) (a := dx) rfl hd (.ns ["_tokens", "_num_leaves"] [tok3, .int 3])
  have fr1 := Fra.new (ad := none') (n := .self) hd (.ns ["_tokens", "_num_leaves"] [tok3, .int 3])
  refine F_fn (bn := ["self"]) (by rw [P.hK]; rfl) rfl (by rw [P.hK]; rfl) rfl rfl rfl rfl rfl rfl rfl (by decide) (by decide) (fun s kk vs kvs h1 h2 => ?_) fun env O => ?_
  · obtain ⟨v0, rfl⟩ := len1 h1
    obtain ⟨-, rfl⟩ := len0 h2
    exact BindsTo.of_eq rfl
  dsimp only [List.zip_cons_cons, List.zip_nil_left, List.zip_nil_right, List.cons_append, List.nil_append, List.append_nil]
  conv => arg 4; whnf
  tm_at "go"
  refine WE_list (WL_nil ⟨by decide, fun a ha => ?_⟩)
  have l2 := l1.new (n := .edges 0) (by simp [aput, none']) ha (.list [])
  have fr2 := fr1.trans (Fra.new (n := .edges 0) ha (.list []))
  have hs2 := l2.has .self dx (by simp [aput])
  tm_at "go"
  refine O_set (ns := ["_tokens", "_num_leaves"]) (l := [tok3, .int 3]) (okC P) (by tm_at "K") (hs2.trans (by simp [cput])) (by decide) (by decide) ?_
  have l3 := l2.upd (n := .self) (a := dx) (by simp [aput]) (.ns ["_tokens", "_num_leaves", "_edges"] [tok3, .int 3, .ref a])
  have fr3 := fr2.trans (Fra.upd (n := .self) (a := dx) (by simp [aput]) (.ns ["_tokens", "_num_leaves", "_edges"] [tok3, .int 3, .ref a]))
  tm_at "go"
  refine WE_dict (.dict []) (.inl rfl) fun b hb => ?_
  have l4 := l3.new (n := .cpls) (by simp [aput, none']) hb (.dict [])
  have fr4 := fr3.trans (Fra.new (n := .cpls) hb (.dict []))
  have hs4 := l4.has .self dx (by simp [aput])
  tm_at "go"
  refine O_set (ns := ["_tokens", "_num_leaves", "_edges"]) (l := [tok3, .int 3, .ref a]) (okC P) (by tm_at "K") (hs4.trans (by simp [cput])) (by decide) (by decide) ?_
  have l5 := l4.upd (n := .self) (a := dx) (by simp [aput]) (.ns ["_tokens", "_num_leaves", "_edges", "_edge_to_cpls"] [tok3, .int 3, .ref a, .ref b])
  have fr5 := fr4.trans (Fra.upd (n := .self) (a := dx) (by simp [aput]) (.ns ["_tokens", "_num_leaves", "_edges", "_edge_to_cpls"] [tok3, .int 3, .ref a, .ref b]))
  tm_at "go"
  refine WE_dict (.dict []) (.inl rfl) fun d hd => ?_
  have l6 := l5.new (n := .idx) (by simp [aput, none']) hd (.dict [])
  have fr6 := fr5.trans (Fra.new (n := .idx) hd (.dict []))
  have hs6 := l6.has .self dx (by simp [aput])
  tm_at "go"
  refine O_set (ns := ["_tokens", "_num_leaves", "_edges", "_edge_to_cpls"]) (l := [tok3, .int 3, .ref a, .ref b]) (okC P) (by tm_at "K") (hs6.trans (by simp [cput])) (by decide) (by decide) ?_
  have l7 := l6.upd (n := .self) (a := dx) (by simp [aput]) (.ns ["_tokens", "_num_leaves", "_edges", "_edge_to_cpls", "_indexes"] [tok3, .int 3, .ref a, .ref b, .ref d])
  have fr7 := fr6.trans (Fra.upd (n := .self) (a := dx) (by simp [aput]) (.ns ["_tokens", "_num_leaves", "_edges", "_edge_to_cpls", "_indexes"] [tok3, .int 3, .ref a, .ref b, .ref d]))
  tm_at "go"
  refine q _ _ _ l7 (CS.init ⟨dx, by simp [aput]⟩ ?_ (fun i hi => ?_) ⟨b, by simp [aput]⟩ (by simp [cput]) (fun e => by simp [aput, none']) ⟨d, by simp [aput]⟩ (by simp [cput]) fun ks i => ⟨by simp [aput, none'], fun v => by simp [aput, none']⟩) (by simp [aput]) fr7
  · rw [cput_self, selfF (ea := a) (ca := b) (ia := d) (by simp [aput]) (by simp [aput]) (by simp [aput])]
    rfl
  · have : i = 0 := by unfold nb at hi; simpa using hi
    subst this
    exact ⟨⟨a, by simp [aput]⟩, by simp [cput]⟩
theorem f_initz_I (P : Pg c) {dx : Addr} (hd : σ₀ dx = none)
    (q : ∀ ad' ct' σ', Lay ad' ct' σ' → CS true ad' ct' [] [] (fun _ => []) [] → ad' .self = some dx → Fra none' ad' σ₀ σ' → K .none σ') :
    OCd c (n + 3) (.val (.ref 447)) [.mob cI dx] [] [] (put σ₀ dx (.ns ["_tokens", "_num_leaves"] [tok3, .int 3])) K := by
  have l1 := (none_lay σ₀).new (n := .self) (a := dx) rfl hd (.ns ["_tokens", "_num_leaves"] [tok3, .int 3])
  have fr1 := Fra.new (ad := none') (n := .self) hd (.ns ["_tokens", "_num_leaves"] [tok3, .int 3])
  refine F_fn (bn := ["self"]) (by rw [P.hK]; rfl) rfl (by rw [P.hK]; rfl) rfl rfl rfl rfl rfl rfl rfl (by decide) (by decide) (fun s kk vs kvs h1 h2 => ?_) fun env O => ?_
  · obtain ⟨v0, rfl⟩ := len1 h1
    obtain ⟨-, rfl⟩ := len0 h2
    exact BindsTo.of_eq rfl
  dsimp only [List.zip_cons_cons, List.zip_nil_left, List.zip_nil_right, List.cons_append, List.nil_append, List.append_nil]
  conv => arg 4; whnf
  tm_at "go"
  tm_at "comp"
  tm_at "go"
  intro pl
  refine O_meth_mob (f := 488) (okI P) (by tm_at "K") (by tm_at "K") (put_self _ _ _) (by decide) ?_
  tm_at "go"
  refine (f_pos P (put_self _ _ _) (by decide) (by tm_at "u") ?_).oc
  refine turns_fresh (nm := Nm.edges) (fun i j h => by cases h; rfl) (.list []) l1 (fun i => by simp [aput, none']) (fun C u σ' K' k => ?_) fun ad2 ct2 σ2 l2 h1 h2 fr2' => ?_
  · refine WE_list (WL_nil ⟨by decide, fun a ha => k a ha⟩)
  have fr2 := fr1.trans fr2'
  have o2 : ∀ m, (∀ j, m ≠ .edges j) → m ≠ .self → ad2 m = none := fun m hm hne => by rw [(h2 m hm).1, aput_ne _ _ hne]; rfl
  have a2 : ad2 .self = some dx := by rw [(h2 _ (by simp)).1, aput_self]
  have hs2 : σ2 dx = some (.ns ["_tokens", "_num_leaves"] [tok3, .int 3]) := by rw [l2.has .self dx a2, (h2 _ (by simp)).2, cput_self]
  obtain ⟨e0, he0⟩ := (h1 0 (by decide)).1
  obtain ⟨e1, he1⟩ := (h1 1 (by decide)).1
  obtain ⟨e2, he2⟩ := (h1 2 (by decide)).1
  obtain ⟨e3, he3⟩ := (h1 3 (by decide)).1
  rw [ad!_at he0, ad!_at he1, ad!_at he2, ad!_at he3]
  tm_at "go"
  refine O_set (ns := ["_tokens", "_num_leaves"]) (l := [tok3, .int 3]) (okI P) (by tm_at "K") hs2 (by decide) (by decide) ?_
  have l3 := l2.upd a2 (.ns ["_tokens", "_num_leaves", "_edgelists"] [tok3, .int 3, .flst [.ref e0, .ref e1, .ref e2, .ref e3]])
  have fr3 := fr2.trans (Fra.upd a2 (.ns ["_tokens", "_num_leaves", "_edgelists"] [tok3, .int 3, .flst [.ref e0, .ref e1, .ref e2, .ref e3]]))
  tm_at "go"
  refine WE_dict (.dict []) (.inl rfl) fun b hb => ?_
  have l4 := l3.new (n := .cpls) (o2 _ (by simp) (by simp)) hb (.dict [])
  have fr4 := fr3.trans (Fra.new (n := .cpls) hb (.dict []))
  have a4 : aput ad2 .cpls b .self = some dx := by rw [aput_ne _ _ (by simp)]; exact a2
  have hs4 := l4.has .self dx a4
  tm_at "go"
  refine O_set (ns := ["_tokens", "_num_leaves", "_edgelists"]) (l := [tok3, .int 3, .flst [.ref e0, .ref e1, .ref e2, .ref e3]]) (okI P) (by tm_at "K") (hs4.trans (by simp [cput])) (by decide) (by decide) ?_
  have l5 := l4.upd a4 (.ns ["_tokens", "_num_leaves", "_edgelists", "_edge_to_cpls"] [tok3, .int 3, .flst [.ref e0, .ref e1, .ref e2, .ref e3], .ref b])
  have fr5 := fr4.trans (Fra.upd a4 (.ns ["_tokens", "_num_leaves", "_edgelists", "_edge_to_cpls"] [tok3, .int 3, .flst [.ref e0, .ref e1, .ref e2, .ref e3], .ref b]))
  tm_at "go"
  refine WE_dict (.dict []) (.inl rfl) fun d hd => ?_
  have l6 := l5.new (n := .idx) (by rw [aput_ne _ _ (by simp)]; exact o2 _ (by simp) (by simp)) hd (.dict [])
  have fr6 := fr5.trans (Fra.new (n := .idx) hd (.dict []))
  have a6 : aput (aput ad2 .cpls b) .idx d .self = some dx := by rw [aput_ne _ _ (by simp)]; exact a4
  have hs6 := l6.has .self dx a6
  tm_at "go"
  refine O_set (ns := ["_tokens", "_num_leaves", "_edgelists", "_edge_to_cpls"]) (l := [tok3, .int 3, .flst [.ref e0, .ref e1, .ref e2, .ref e3], .ref b]) (okI P) (by tm_at "K") (hs6.trans (by simp [cput])) (by decide) (by decide) ?_
  have l7 := l6.upd a6 (.ns ["_tokens", "_num_leaves", "_edgelists", "_edge_to_cpls", "_indexes"] [tok3, .int 3, .flst [.ref e0, .ref e1, .ref e2, .ref e3], .ref b, .ref d])
  have fr7 := fr6.trans (Fra.upd a6 (.ns ["_tokens", "_num_leaves", "_edgelists", "_edge_to_cpls", "_indexes"] [tok3, .int 3, .flst [.ref e0, .ref e1, .ref e2, .ref e3], .ref b, .ref d]))
  tm_at "go"
  have ed : ∀ i, aput (aput ad2 .cpls b) .idx d (.edges i) = ad2 (.edges i) := fun i => by simp [aput]
  have ot : ∀ m, (∀ j, m ≠ .edges j) → m ≠ .self → m ≠ .cpls → m ≠ .idx → aput (aput ad2 .cpls b) .idx d m = none := fun m z1 z2 z3 z4 => by rw [aput_ne _ _ z4, aput_ne _ _ z3]; exact o2 m z1 z2
  refine q _ _ _ l7 (CS.init ⟨dx, a6⟩ ?_ (fun i hi => ?_) ⟨b, by simp [aput]⟩ (by simp [cput]) (fun e => ot _ (by simp) (by simp) (by simp) (by simp)) ⟨d, by simp [aput]⟩ (by simp [cput]) fun ks i => ⟨ot _ (by simp) (by simp) (by simp) (by simp), fun v => ot _ (by simp) (by simp) (by simp) (by simp)⟩) a6 fr7
  · rw [cput_self, selfT (e0 := e0) (e1 := e1) (e2 := e2) (e3 := e3) (ca := b) (ia := d) ((ed 0).trans he0) ((ed 1).trans he1) ((ed 2).trans he2) ((ed 3).trans he3) (by simp [aput]) (by simp [aput])]
    rfl
  · have hi4 : i < 4 := hi
    rw [ed]
    refine ⟨(h1 i hi4).1, ?_⟩
    have := (h1 i hi4).2
    simp [cput, this]
theorem f_chart_C (P : Pg c) (q : ∀ dx ad' ct' σ', Lay ad' ct' σ' → CS false ad' ct' [] [] (fun _ => []) [] → ad' .self = some dx → Fra none' ad' σ σ' → K (.mob cC dx) σ') :
    OCd c (n + 6) (.val (.ref cC)) [.flst [.str "x", .str "y", .str "x"]] [] [] σ K := by
  refine OCd_cls (fI := 306) (okC P) (by rw [P.hK]; kernel_rfl) (by rw [P.hK]; kernel_rfl) fun dx hdx => ?_
  refine F_fn (bn := ["self", "tokens"]) (by rw [P.hK]; rfl) rfl (by rw [P.hK]; rfl) rfl rfl rfl rfl rfl rfl rfl (by decide) (by decide) (fun s kk vs kvs h1 h2 => ?_) fun env O => ?_
  · obtain ⟨v0, v1, rfl⟩ := len2 h1
    obtain ⟨-, rfl⟩ := len0 h2
    exact BindsTo.of_eq rfl
  dsimp only [List.zip_cons_cons, List.zip_nil_left, List.zip_nil_right, List.cons_append, List.nil_append, List.append_nil]
  conv => arg 4; whnf
  tm_at "go"
  refine C_tuple_flst (by decide) ?_
  tm_at "go"
  tm_at "sp"
  tm_at "go"
  refine O_get_mob (okC P) (by tm_at "K") (put_self _ _ _) (by tm_at "u") (by intro i z; cases z) ?_
  tm_at "go"
  refine C_len_tup (by decide) ?_
  tm_at "go"
  tm_at "sp"
  tm_at "drop"
  tm_at "go"
  intro pl
  refine O_meth_mob (f := 313) (okC P) (by tm_at "K") (by tm_at "K") (put_self _ _ _) (by decide) ?_
  tm_at "go"
  refine (f_initz_C P hdx fun ad' ct' σ' l C hs fr => ?_).oc
  exact ret_nil ⟨rfl, q dx ad' ct' σ' l C hs fr⟩
theorem f_chart_I (P : Pg c) (q : ∀ dx ad' ct' σ', Lay ad' ct' σ' → CS true ad' ct' [] [] (fun _ => []) [] → ad' .self = some dx → Fra none' ad' σ σ' → K (.mob cI dx) σ') :
    OCd c (n + 6) (.val (.ref cI)) [.flst [.str "x", .str "y", .str "x"]] [] [] σ K := by
  refine OCd_cls (fI := 306) (okI P) (by rw [P.hK]; kernel_rfl) (by rw [P.hK]; kernel_rfl) fun dx hdx => ?_
  refine F_fn (bn := ["self", "tokens"]) (by rw [P.hK]; rfl) rfl (by rw [P.hK]; rfl) rfl rfl rfl rfl rfl rfl rfl (by decide) (by decide) (fun s kk vs kvs h1 h2 => ?_) fun env O => ?_
  · obtain ⟨v0, v1, rfl⟩ := len2 h1
    obtain ⟨-, rfl⟩ := len0 h2
    exact BindsTo.of_eq rfl
  dsimp only [List.zip_cons_cons, List.zip_nil_left, List.zip_nil_right, List.cons_append, List.nil_append, List.append_nil]
  conv => arg 4; whnf
  tm_at "go"
  refine C_tuple_flst (by decide) ?_
  tm_at "go"
  tm_at "sp"
  tm_at "go"
  refine O_get_mob (okI P) (by tm_at "K") (put_self _ _ _) (by tm_at "u") (by intro i z; cases z) ?_
  tm_at "go"
  refine C_len_tup (by decide) ?_
  tm_at "go"
  tm_at "sp"
  tm_at "drop"
  tm_at "go"
  intro pl
  refine O_meth_mob (f := 447) (okI P) (by tm_at "K") (by tm_at "K") (put_self _ _ _) (by decide) ?_
  tm_at "go"
  refine (f_initz_I P hdx fun ad' ct' σ' l C hs fr => ?_).oc
  exact ret_nil ⟨rfl, q dx ad' ct' σ' l C hs fr⟩
end
end
section
open Classical
theorem Bkt.congr {ad : Adr} {ct : Nm → AO} {late : Bool} {L L' : List Ed} {ks : List Str} {i : Nat} (B : Bkt ad ct late L ks i) (h : inB late L i = inB late L' i) : Bkt ad ct late L' ks i := by
  have e1 : gks late L ks i = gks late L' ks i := by unfold gks; rw [h]
  have e2 : dicC ad late L ks i = dicC ad late L' ks i := by unfold dicC; rw [e1]
  have e3 : ∀ v, grpC late L ks i v = grpC late L' ks i v := fun v => by unfold grpC; rw [h]
  exact ⟨B.dic, e2 ▸ B.dicc, fun v hv => by rw [← e3]; exact B.grp v (e1 ▸ hv), fun v hv => B.off v (e1 ▸ hv)⟩
theorem CS.bcongr {late : Bool} {ad : Adr} {ct : Nm → AO} {Le : List Ed} {M : Mo} {Li Li' : List Str → List Ed} {I : List (List Str)} (C : CS late ad ct Le M Li I) (h : ∀ ks ∈ I, ∀ i, i < nb late → inB late (Li ks) i = inB late (Li' ks) i) : CS late ad ct Le M Li' I :=
  ⟨C.self, C.selfc, C.edges, C.cpls, C.cplsc, C.cpl, C.cploff, C.idx, C.idxc, fun ks hk i hi => (C.bkt ks hk i hi).congr (h ks hk i hi), C.bktoff⟩
theorem inB_inB {late : Bool} {L : List Ed} {i j : Nat} : inB late (inB late L j) i = if j = i then inB late L i else [] := by
  unfold inB
  rw [List.filter_filter]
  split
  · rename_i h; subst h
    congr 1
    funext e; simp
  · rename_i h
    rw [List.filter_eq_nil_iff]
    intro e _ hd
    simp only [Bool.and_eq_true, decide_eq_true_eq] at hd
    exact h (hd.2.symm.trans hd.1)
theorem inB_app {late : Bool} {L L' : List Ed} {i : Nat} : inB late (L ++ L') i = inB late L i ++ inB late L' i := by unfold inB; rw [List.filter_append]
theorem inB_flat {L : List Ed} {i : Nat} (hi : i < 4) : inB true (inB true L 0 ++ inB true L 1 ++ inB true L 2 ++ inB true L 3) i = inB true L i := by
  rw [inB_app, inB_app, inB_app, inB_inB, inB_inB, inB_inB, inB_inB]
  have : i = 0 ∨ i = 1 ∨ i = 2 ∨ i = 3 := by omega
  rcases this with rfl | rfl | rfl | rfl <;> simp
theorem Grp.liftN {ad ad1 : Adr} {ct ct1 : Nm → AO} {ks : List Str} {i : Nat} {nl : Nm} {ia : Addr} (hnl : ¬ nl.at ks i) (h : ad nl = some ia) (G : Grp (adel ad nl) ad1 ct ct1 ks i) : Grp ad (aput ad1 nl ia) ct ct1 ks i ∧ adel (aput ad1 nl ia) nl = ad1 := by
  have h1 : ad1 nl = none := by rw [G.ads _ hnl, adel_self]
  have hd : Nm.dic ks i ≠ nl := fun z => hnl (z ▸ .inl rfl)
  refine ⟨⟨fun m hm => ?_, ?_, G.cts, fun m a e => ?_⟩, ?_⟩
  · by_cases z : m = nl
    · subst z; rw [aput_self, h]
    · rw [aput_ne _ _ z, G.ads m hm, adel_ne _ z]
  · rw [aput_ne _ _ hd, G.dic, adel_ne _ hd]
  · by_cases z : m = nl
    · subst z; rw [aput_self]; rw [h] at e; exact e
    · rw [aput_ne _ _ z]; exact G.mono m a (by rw [adel_ne _ z]; exact e)
  · funext m
    by_cases z : m = nl
    · subst z; rw [adel_self, h1]
    · rw [adel_ne _ z, aput_ne _ _ z]
structure Add (late : Bool) (dx : Addr) (ad0 ad1 : Adr) (σ0 : Store) (Le : List Ed) (M : Mo) (I : List (List Str)) (ks : List Str) (L : List Ed) (ad : Adr) (ct : Nm → AO) (σ : Store) : Prop where
  lay : Lay ad ct σ
  cs : CS late ad ct Le M (fun k => if k = ks then L else Le) (I ++ [ks])
  slf : ad .self = some dx
  eds : ∀ i, ad (.edges i) = ad1 (.edges i)
  dics : ∀ i, ad (.dic ks i) = ad1 (.dic ks i)
  fra : Fra ad0 ad σ0 σ
structure AddL (late : Bool) (dx : Addr) (ad0 ad1 : Adr) (σ0 : Store) (Le : List Ed) (M : Mo) (I : List (List Str)) (ks : List Str) (i : Nat) (ea : Addr) (L : List Ed) (ad : Adr) (ct : Nm → AO) (σ : Store) : Prop where
  lay : Lay (adel ad (.edges i)) ct σ
  cs : CS late ad ct Le M (fun k => if k = ks then L else Le) (I ++ [ks])
  slf : ad .self = some dx
  ed : ad (.edges i) = some ea
  eds : ∀ i, ad (.edges i) = ad1 (.edges i)
  dics : ∀ i, ad (.dic ks i) = ad1 (.dic ks i)
  fra : Fra ad0 (adel ad (.edges i)) σ0 σ
section
variable {late : Bool} {dx ea : Addr} {ad0 ad1 ad : Adr} {ct : Nm → AO} {σ0 σ : Store} {Le : List Ed} {M : Mo} {I : List (List Str)} {ks : List Str} {L : List Ed} {i : Nat}
theorem Add.start (R : Add late dx ad0 ad1 σ0 Le M I ks L ad ct σ) (he : ad (.edges i) = some ea) : AddL late dx ad0 ad1 σ0 Le M I ks i ea L ad ct (del σ ea) :=
  ⟨R.lay.lend he, R.cs, R.slf, he, R.eds, R.dics, R.fra.trans fun a y e h => by
    have ne : a ≠ ea := by rintro rfl; exact h _ he
    refine ⟨by rw [del_ne _ ne]; exact e, fun m hm => ?_⟩
    by_cases z : m = .edges i
    · subst z; rw [adel_self] at hm; cases hm
    · rw [adel_ne _ z] at hm; exact h m hm⟩
theorem not_at {j : Nat} : ¬ (Nm.edges i).at ks j := by rintro (z | ⟨v, z⟩) <;> cases z
theorem AddL.step (R : AddL late dx ad0 ad1 σ0 Le M I ks i ea L ad ct σ) {e : Ed} {ad2 : Adr} {ct2 : Nm → AO} {σ2 : Store} (lay : Lay ad2 ct2 σ2) (hB : Bkt ad2 ct2 late (L ++ [e]) ks (bk late e)) (G : Grp (adel ad (.edges i)) ad2 ct ct2 ks (bk late e)) (fr : Fra (adel ad (.edges i)) ad2 σ σ2) :
    AddL late dx ad0 ad1 σ0 Le M I ks i ea (L ++ [e]) (aput ad2 (.edges i) ea) ct2 σ2 := by
  obtain ⟨G', e1⟩ := G.liftN not_at R.ed
  have hm : ks ∈ I ++ [ks] := by simp
  have hB' : Bkt (aput ad2 (.edges i) ea) ct2 late (L ++ [e]) ks (bk late e) := hB.keep (aput_ne _ _ (by intro z; cases z)) rfl (fun v => aput_ne _ _ (by intro z; cases z)) fun _ => rfl
  refine ⟨by rw [e1]; exact lay, ?_, ?_, aput_self _ _ _, fun j => ?_, fun j => ?_, by rw [e1]; exact R.fra.trans fr⟩
  · refine (R.cs.grp G' hm hB' fun j hj hne => ?_).congr fun k hk => ?_
    · have := R.cs.bkt ks hm j hj
      rw [if_pos rfl] at this
      exact (this.ofGrp G' (.inr hne)).skip (Ne.symm hne)
    · by_cases z : k = ks
      · rw [if_pos z, if_pos z]
      · rw [if_neg z, if_neg z, if_neg z]
  · rw [G'.ads _ (by rintro (z | ⟨v, z⟩) <;> cases z)]; exact R.slf
  · rw [G'.ads _ not_at]; exact R.eds j
  · by_cases h : j = bk late e
    · rw [h, G'.dic]; exact R.dics _
    · rw [G'.ads _ (by
        rintro (z | ⟨v, z⟩) <;> cases z
        exact h rfl)]
      exact R.dics _
theorem AddL.fin (R : AddL late dx ad0 ad1 σ0 Le M I ks i ea L ad ct σ) (hi : i < nb late) (hn : σ ea = none) : Add late dx ad0 ad1 σ0 Le M I ks L ad ct (put σ ea (edgesC late Le i)) := by
  refine ⟨by rw [← (R.cs.edges i hi).2]; exact R.lay.back R.ed hn, R.cs, R.slf, R.eds, R.dics, R.fra.trans fun a y e h => ?_⟩
  have ne : a ≠ ea := by rintro rfl; rw [hn] at e; cases e
  refine ⟨by rw [put_ne _ _ ne]; exact e, fun m hm => ?_⟩
  by_cases z : m = .edges i
  · subst z; rw [R.ed] at hm; cases hm; exact ne rfl
  · exact h m (by rw [adel_ne _ z]; exact hm)
theorem CS.newIdx {ad2 : Adr} {ct2 : Nm → AO} (C : CS late ad ct Le M (fun _ => Le) I) (hks : ks ∉ I) (h1 : ∀ m, (∀ j, m ≠ .dic ks j) → ad2 m = ad m ∧ (m ≠ .idx → ct2 m = ct m)) (h2 : ∀ j, j < nb late → (∃ a, ad2 (.dic ks j) = some a) ∧ ct2 (.dic ks j) = .dict [])
    (h3 : ct2 .idx = .dict (I.map (fun k => (.tup (strV k), ixV ad late k)) ++ [(.tup (strV ks), ixV ad2 late ks)])) : CS late ad2 ct2 Le M (fun k => if k = ks then [] else Le) (I ++ [ks]) := by
  have s : ∀ m, (∀ j, m ≠ .dic ks j) → ad2 m = ad m := fun m h => (h1 m h).1
  have t : ∀ m, (∀ j, m ≠ .dic ks j) → m ≠ .idx → ct2 m = ct m := fun m h z => (h1 m h).2 z
  refine ⟨by rw [s _ (by simp)]; exact C.self, ?_, fun i hi => by rw [s _ (by simp), t _ (by simp) (by simp)]; exact C.edges i hi, by rw [s _ (by simp)]; exact C.cpls, ?_, fun m hm => by rw [s _ (by simp), t _ (by simp) (by simp)]; exact C.cpl m hm, fun e h => by rw [s _ (by simp)]; exact C.cploff e h, by rw [s _ (by simp)]; exact C.idx, ?_, fun k hk i hi => ?_, fun k hk i => ?_⟩
  · rw [t _ (by simp) (by simp), C.selfc]
    unfold selfC ad!
    simp only [s (.edges 0) (by simp), s (.edges 1) (by simp), s (.edges 2) (by simp), s (.edges 3) (by simp), s .cpls (by simp), s .idx (by simp)]
  · rw [t _ (by simp) (by simp), C.cplsc]
    unfold cplsC ad!
    simp only [s (.cpl _) (by simp)]
  · rw [h3]
    unfold idxC
    rw [List.map_append, List.map_singleton]
    congr 2
    apply List.map_congr_left
    intro k hk
    have hne : k ≠ ks := fun z => hks (z ▸ hk)
    have : ∀ j, ad2 (.dic k j) = ad (.dic k j) := fun j => s _ (by intro j' z; cases z; exact hne rfl)
    unfold ixV ad!
    simp only [this]
  · by_cases z : k = ks
    · subst z
      rw [if_pos rfl]
      obtain ⟨⟨a, ha⟩, hc⟩ := h2 i hi
      exact Bkt.empty ha hc fun v => by rw [s _ (by simp)]; exact (C.bktoff k hks i).2 v
    · rw [if_neg z]
      have hk' : k ∈ I := by
        rcases List.mem_append.mp hk with q | q
        · exact q
        · exact absurd (List.mem_singleton.mp q) z
      have nd : ∀ j j', Nm.dic k j ≠ .dic ks j' := fun j j' q => by cases q; exact z rfl
      exact (C.bkt k hk' i hi).keep (s _ (nd i)) (t _ (nd i) (by simp)) (fun v => s _ (by simp)) fun v => t _ (by simp) (by simp)
  · have hk1 : k ∉ I := fun q => hk (List.mem_append_left _ q)
    have z : k ≠ ks := fun q => hk (by simp [q])
    rw [s _ (by intro j q; cases q; exact z rfl)]
    exact ⟨(C.bktoff k hk1 i).1, fun v => by rw [s _ (by simp)]; exact (C.bktoff k hk1 i).2 v⟩
end
theorem idx_dget {ad : Adr} {late : Bool} {I : List (List Str)} {ks : List Str} : dget (I.map fun k => (.tup (strV k), ixV ad late k)) (.tup (strV ks)) = (I.find? fun k => decide (k = ks)).map (ixV ad late) :=
  dget_find (p := fun k : List Str => decide (k = ks)) fun m _ => by rw [Bool.eq_iff_iff, veq_ks, decide_eq_true_iff]
end
section
open Classical
noncomputable def attrs : List Str := ["span", "start", "end", "length", "lhs", "rhs", "nextsym", "dot", "is_complete", "is_incomplete"]
theorem attrs_any {k : Str} (h : k ∈ attrs) : (!([.str "span", .str "start", .str "end", .str "length", .str "lhs", .str "rhs", .str "nextsym", .str "dot", .str "is_complete", .str "is_incomplete"] : List V).any fun y => veq y (.str k)) = false := by
  have : ([.str "span", .str "start", .str "end", .str "length", .str "lhs", .str "rhs", .str "nextsym", .str "dot", .str "is_complete", .str "is_incomplete"] : List V) = attrs.map V.str := rfl
  rw [this, Bool.not_eq_false', List.any_eq_true]
  exact ⟨.str k, List.mem_map.mpr ⟨k, h, rfl⟩, by rw [veq_str]; simp⟩
noncomputable def acc (L : List Ed) : Nat → List Ed
  | 0 => []
  | j + 1 => acc L j ++ inB true L j
theorem acc_len (L : List Ed) : ∀ j, (acc L j).length ≤ j * L.length
  | 0 => by simp [acc]
  | j + 1 => by
    have := acc_len L j
    have h := @inB_len true L j
    rw [acc, List.length_append, Nat.succ_mul]
    omega
theorem inB_acc {L : List Ed} {i : Nat} (hi : i < 4) : inB true (acc L 4) i = inB true L i := by
  have : acc L 4 = inB true L 0 ++ inB true L 1 ++ inB true L 2 ++ inB true L 3 := by simp [acc]
  rw [this, inB_flat hi]
theorem enums_at {l : List V} {j : Nat} {y z : V} (h : (enums l)[j]? = some (y, z)) : j < l.length ∧ y = .int j ∧ l[j]? = some z := by
  have hj : j < (enums l).length := (List.getElem?_eq_some_iff.mp h).1
  rw [enums_len] at hj
  obtain ⟨x, hx⟩ : ∃ x, l[j]? = some x := ⟨l[j], List.getElem?_eq_getElem hj⟩
  rw [enums_get hx] at h
  cases h
  exact ⟨hj, rfl, hx⟩
section
variable {c : Cx} {n : Nat} {σ σ₀ : Store} {K : V → Store → Prop} {env : Env} {loc : Loc}
theorem f_add_C (P : Pg c) {ad : Adr} {ct : Nm → AO} {Le : List Ed} {M : Mo} {I : List (List Str)} {dx : Addr} {ks : List Str} (lay : Lay ad ct σ) (C : CS false ad ct Le M (fun _ => Le) I) (hs : ad .self = some dx) (hI : I.length ≤ 800) (hks : ks ∉ I) (hkl : ks.length ≤ 100) (hka : ∀ k ∈ ks, k ∈ attrs) (hL : Le.length ≤ 200) (heok : ∀ e ∈ Le, e.ok)
    (q : ∀ ad' ct' σ', Lay ad' ct' σ' → CS false ad' ct' Le M (fun _ => Le) (I ++ [ks]) → ad' .self = some dx → Fra ad ad' σ σ' → K .none σ') : OCd c (n + 6) (.val (.ref 365)) [.mob cC dx, .tup (strV ks)] [] [] σ K := by
  refine F_fn (bn := ["self", "restr_keys"]) (by rw [P.hK]; rfl) rfl (by rw [P.hK]; rfl) rfl rfl rfl rfl rfl rfl rfl (by decide) (by decide) (fun s kk vs kvs h1 h2 => ?_) fun env O => ?_
  · obtain ⟨v0, v1, rfl⟩ := len2 h1
    obtain ⟨-, rfl⟩ := len0 h2
    exact BindsTo.of_eq rfl
  dsimp only [List.zip_cons_cons, List.zip_nil_left, List.zip_nil_right, List.cons_append, List.nil_append, List.append_nil]
  conv => arg 4; whnf
  obtain ⟨oea, ohea⟩ := (C.edges 0 (by decide)).1
  obtain ⟨oca, ohca⟩ := C.cpls
  obtain ⟨oia, ohia⟩ := C.idx
  have hself := lay.has _ _ hs
  rw [C.selfc, selfF ohea ohca ohia] at hself
  have hidx := lay.has _ _ ohia
  rw [C.idxc] at hidx
  unfold idxC at hidx
  refine WB_for O (by tm_at "u") ?_ (fun _ => by tm_at "u")
  tm_at "go"
  refine ⟨_, none, Iter_tup _, fun j loc' σ' => LSub [("self", .mob cC dx), ("restr_keys", .tup (strV ks))] loc' ∧ σ' = σ, ⟨LSub.cons (by tm_at "l") (LSub.cons (by tm_at "l") (LSub.nil _)), rfl⟩, fun j y loc' σ' hj hn hinv => ?_, fun loc' σ' hn hinv => ?_⟩
  · obtain ⟨hl, rfl⟩ := hinv
    unfold strV at hj
    rw [List.getElem?_map, Option.map_eq_some_iff] at hj
    obtain ⟨k, hk', rfl⟩ := hj
    refine WB.forget (loc' := [("key", .str k), ("self", .mob cC dx), ("restr_keys", .tup (strV ks))]) (Sub.refl _) (LSub.cons look_hd (LSub.cons (look_tl (by decide +kernel) (hl.app look_hd)) (LSub.cons (look_tl (by decide +kernel) (hl.app (look_tl (by decide +kernel) look_hd))) (LSub.nil _)))) ?_
    tm_at "go"
    refine O_notIn_flst (by decide) rfl ?_
    rw [attrs_any (hka k (List.mem_of_getElem? hk'))]
    tm_at "go"
    refine ⟨fun h => (by cases h), fun _ => ?_⟩
    tm_at "go"
    exact WB_nil ⟨LSub.cons (by tm_at "l") (LSub.cons (by tm_at "l") (LSub.nil _)), rfl⟩
  · obtain ⟨hl, rfl⟩ := hinv
    refine WB.forget (σ' := σ') (loc' := [("self", .mob cC dx), ("restr_keys", .tup (strV ks))]) (Sub.refl _) hl ?_

    tm_at "go"
    refine WE_dict (.dict []) (.inl rfl) fun g hg => ?_
    have gi : g ≠ oia := by rintro rfl; rw [hg] at hidx; cases hidx
    have gs : g ≠ dx := by rintro rfl; rw [hg] at hself; cases hself
    have l1 := lay.new (n := .dic ks 0) (C.bktoff ks hks 0).1 hg (.dict [])
    have fr1 := Fra.new (ad := ad) (n := .dic ks 0) hg (.dict [])
    have hself1 := (put_ne σ' (.dict []) gs.symm).trans hself
    have hidx1 := (put_ne σ' (.dict []) gi.symm).trans hidx
    tm_at "go"
    refine O_get_mob (okC P) (by tm_at "K") hself1 (by tm_at "u") (by intro i z; cases z) ?_
    refine WE_name (by tm_at "l") ?_
    have hdn : dget (I.map fun k => (.tup (strV k), ixV ad false k)) (.tup (strV ks)) = none := by
      rw [idx_dget, Option.map_eq_none_iff, List.find?_eq_none]
      intro k hk z
      exact hks (of_decide_eq_true z ▸ hk)
    refine O_setitem hidx1 (ks_flat ks) (by rw [List.length_map]; omega) ?_
    rw [dput_new hdn]
    have ai : aput ad (.dic ks 0) g .idx = some oia := by rw [aput_ne _ _ (by simp)]; exact ohia
    have l2 := l1.upd ai (.dict (I.map (fun k => (.tup (strV k), ixV ad false k)) ++ [(.tup (strV ks), .ref g)]))
    have fr2 := fr1.trans (Fra.upd ai (.dict (I.map (fun k => (.tup (strV k), ixV ad false k)) ++ [(.tup (strV ks), .ref g)])))
    have C2 := C.newIdx (ad2 := aput ad (.dic ks 0) g) (ct2 := cput (cput ct (.dic ks 0) (.dict [])) .idx (.dict (I.map (fun k => (.tup (strV k), ixV ad false k)) ++ [(.tup (strV ks), .ref g)]))) hks (fun m hm => ⟨aput_ne _ _ (hm 0), fun z => by rw [cput_ne _ _ z, cput_ne _ _ (hm 0)]⟩)
      (fun j hj => by have : j = 0 := by { unfold nb at hj; simpa using hj }
                      subst this; exact ⟨⟨g, aput_self _ _ _⟩, by rw [cput_ne _ _ (by simp), cput_self]⟩)
      (by rw [cput_self]; have : ixV (aput ad (.dic ks 0) g) false ks = .ref g := by { unfold ixV; rw [ad!_at (aput_self _ _ _)]; rfl }
          rw [this])
    have R0 : Add false dx ad (aput ad (.dic ks 0) g) σ' Le M I ks [] _ _ _ := ⟨l2, C2, by rw [aput_ne _ _ (by simp)]; exact hs, fun _ => rfl, fun _ => rfl, fr2⟩
    have he2 : aput ad (.dic ks 0) g (.edges 0) = some oea := by rw [aput_ne _ _ (by simp)]; exact ohea
    have hed := l2.has _ _ he2
    rw [(C2.edges 0 (by decide)).2] at hed
    have hself2 := l2.has .self dx (by rw [aput_ne _ _ (by simp)]; exact hs)
    refine WB_for O (by tm_at "u") ?_ (fun _ => by tm_at "u")
    tm_at "go"
    refine O_get_mob (okC P) (by tm_at "K") (l := [.tup [.str "x", .str "y", .str "x"], .int 3, .ref oea, .ref oca, .ref oia]) (ns := ["_tokens", "_num_leaves", "_edges", "_edge_to_cpls", "_indexes"]) (hself2.trans (by rw [cput_ne _ _ (by simp), cput_ne _ _ (by simp), C.selfc, selfF ohea ohca ohia])) (by tm_at "u") (by intro i z; cases z) ?_
    refine ⟨_, some (oea, _), Iter_list hed, fun j loc' σ1 => LSub [("index", .ref g), ("self", .mob cC dx), ("restr_keys", .tup (strV ks))] loc' ∧ ∃ ad' ct', AddL false dx ad (aput ad (.dic ks 0) g) σ' Le M I ks 0 oea ((inB false Le 0).take j) ad' ct' σ1, ⟨LSub.cons (by tm_at "l") (LSub.cons (by tm_at "l") (LSub.cons (by tm_at "l") (LSub.nil _))), _, _, R0.start he2⟩, fun j y loc' σ1 hj hn hinv => ?_, fun loc' σ1 hn hinv => ?_⟩
    · obtain ⟨hl, ad', ct', R⟩ := hinv
      rw [List.getElem?_map, Option.map_eq_some_iff] at hj
      obtain ⟨e, he, rfl⟩ := hj
      have hmem : e ∈ Le := by have := List.mem_of_getElem? he; rw [inB_F] at this; exact this
      refine WB.forget (loc' := [("edge", e.obj), ("index", .ref g), ("self", .mob cC dx), ("restr_keys", .tup (strV ks))]) (Sub.refl _) (LSub.cons look_hd (LSub.cons (look_tl (by decide +kernel) (hl.app look_hd)) (LSub.cons (look_tl (by decide +kernel) (hl.app (look_tl (by decide +kernel) look_hd))) (LSub.cons (look_tl (by decide +kernel) (hl.app (look_tl (by decide +kernel) (look_tl (by decide +kernel) look_hd)))) (LSub.nil _))))) ?_
      tm_at "go"
      tm_at "comp"
      tm_at "go"
      refine vals_turns P (e := e) (.inl rfl) hkl (fun C k K' kk => ?_) ?_
      · tm_at "go"
        refine (f_attribute P (heok e hmem) ?_).oc
        exact kk
      tm_at "go"
      refine C_tuple_flst (by unfold vals; rw [List.length_map]; omega) ?_
      tm_at "go"
      have hBk : Bkt (adel ad' (.edges 0)) ct' false ((inB false Le 0).take j) ks 0 := by
        have := R.cs.bkt ks (by simp) 0 (by decide)
        rw [if_pos rfl] at this
        exact this.keep (adel_ne _ (by simp)) rfl (fun v => adel_ne _ (by simp)) fun _ => rfl
      have htl : ((inB false Le 0).take j).length ≤ 900 := by rw [List.length_take]; have := @inB_len false Le 0; omega
      refine WB_grp (ks := ks) (i := 0) (d := g) (e := e) (L := (inB false Le 0).take j) (by unfold interactive; rw [O.scp]; rfl) R.lay hBk rfl (by rw [adel_ne _ (by simp), R.dics]; exact aput_self _ _ _) htl (WE_name (by tm_at "l") ⟨rfl, rfl⟩) (by tm_at "l") (by tm_at "l") ⟨_, rfl⟩ ⟨_, rfl⟩ fun ad2 ct2 σ2 lay2 B2 G2 fr2 => ?_
      have R2 := R.step lay2 B2 G2 fr2
      have htk : (inB false Le 0).take j ++ [e] = (inB false Le 0).take (j + 1) := by rw [List.take_add_one, he]; rfl
      rw [htk] at R2
      exact WB_nil ⟨LSub.cons (by tm_at "l") (LSub.cons (by tm_at "l") (LSub.cons (by tm_at "l") (LSub.nil _))), _, _, R2⟩
    · obtain ⟨hl, ad', ct', R⟩ := hinv
      rw [List.length_map, List.take_length] at R
      have R3 := R.fin (by decide) (hn oea _ rfl)
      refine ret_nil (q ad' ct' _ R3.lay (R3.cs.bcongr fun k hk i hi => ?_) R3.slf R3.fra)
      by_cases z : k = ks
      · rw [if_pos z, inB_F]
      · rw [if_neg z]
theorem f_add_I (P : Pg c) {ad : Adr} {ct : Nm → AO} {Le : List Ed} {M : Mo} {I : List (List Str)} {dx : Addr} {ks : List Str} (lay : Lay ad ct σ) (C : CS true ad ct Le M (fun _ => Le) I) (hs : ad .self = some dx) (hI : I.length ≤ 800) (hks : ks ∉ I) (hkl : ks.length ≤ 100) (hka : ∀ k ∈ ks, k ∈ attrs) (hL : Le.length ≤ 200) (heok : ∀ e ∈ Le, e.ok)
    (q : ∀ ad' ct' σ', Lay ad' ct' σ' → CS true ad' ct' Le M (fun _ => Le) (I ++ [ks]) → ad' .self = some dx → Fra ad ad' σ σ' → K .none σ') : OCd c (n + 6) (.val (.ref 469)) [.mob cI dx, .tup (strV ks)] [] [] σ K := by
  refine F_fn (bn := ["self", "restr_keys"]) (by rw [P.hK]; rfl) rfl (by rw [P.hK]; rfl) rfl rfl rfl rfl rfl rfl rfl (by decide) (by decide) (fun s kk vs kvs h1 h2 => ?_) fun env O => ?_
  · obtain ⟨v0, v1, rfl⟩ := len2 h1
    obtain ⟨-, rfl⟩ := len0 h2
    exact BindsTo.of_eq rfl
  dsimp only [List.zip_cons_cons, List.zip_nil_left, List.zip_nil_right, List.cons_append, List.nil_append, List.append_nil]
  conv => arg 4; whnf
  obtain ⟨oe0, ohe0⟩ := (C.edges 0 (by decide)).1
  obtain ⟨oe1, ohe1⟩ := (C.edges 1 (by decide)).1
  obtain ⟨oe2, ohe2⟩ := (C.edges 2 (by decide)).1
  obtain ⟨oe3, ohe3⟩ := (C.edges 3 (by decide)).1
  obtain ⟨oca, ohca⟩ := C.cpls
  obtain ⟨oia, ohia⟩ := C.idx
  have hself := lay.has _ _ hs
  rw [C.selfc, selfT ohe0 ohe1 ohe2 ohe3 ohca ohia] at hself
  have hidx := lay.has _ _ ohia
  rw [C.idxc] at hidx
  unfold idxC at hidx
  refine WB_for O (by tm_at "u") ?_ (fun _ => by tm_at "u")
  tm_at "go"
  refine ⟨_, none, Iter_tup _, fun j loc' σ' => LSub [("self", .mob cI dx), ("restr_keys", .tup (strV ks))] loc' ∧ σ' = σ, ⟨LSub.cons (by tm_at "l") (LSub.cons (by tm_at "l") (LSub.nil _)), rfl⟩, fun j y loc' σ' hj hn hinv => ?_, fun loc' σ' hn hinv => ?_⟩
  · obtain ⟨hl, rfl⟩ := hinv
    unfold strV at hj
    rw [List.getElem?_map, Option.map_eq_some_iff] at hj
    obtain ⟨k, hk', rfl⟩ := hj
    refine WB.forget (loc' := [("key", .str k), ("self", .mob cI dx), ("restr_keys", .tup (strV ks))]) (Sub.refl _) (LSub.cons look_hd (LSub.cons (look_tl (by decide +kernel) (hl.app look_hd)) (LSub.cons (look_tl (by decide +kernel) (hl.app (look_tl (by decide +kernel) look_hd))) (LSub.nil _)))) ?_
    tm_at "go"
    refine O_notIn_flst (by decide) rfl ?_
    rw [attrs_any (hka k (List.mem_of_getElem? hk'))]
    tm_at "go"
    refine ⟨fun h => (by cases h), fun _ => ?_⟩
    tm_at "go"
    exact WB_nil ⟨LSub.cons (by tm_at "l") (LSub.cons (by tm_at "l") (LSub.nil _)), rfl⟩
  · obtain ⟨hl, rfl⟩ := hinv
    refine WB.forget (σ' := σ') (loc' := [("self", .mob cI dx), ("restr_keys", .tup (strV ks))]) (Sub.refl _) hl ?_
    refine WB_acomp O (by tm_at "u") (by tm_at "u") (swaps_on O rfl (by tm_at "u") (by tm_at "u") (by tm_at "u")) (by tm_at "cf") ?_ (fun _ => by tm_at "u")
    tm_at "go"
    intro pl
    refine O_meth_mob (f := 488) (okI P) (by tm_at "K") (by tm_at "K") hself (by decide) ?_
    tm_at "go"
    refine (f_pos P hself (by decide) (by tm_at "u") ?_).oc
    refine turns_fresh (nm := Nm.dic ks) (fun i j h => by cases h; rfl) (.dict []) lay (fun i => (C.bktoff ks hks i).1) (fun C u σ1 K' k => WE_dict (.dict []) (.inl rfl) k) fun ad2 ct2 σ2 l2 h1 h2 fr2 => ?_
    have ai : ad2 .idx = some oia := by rw [(h2 _ (by simp)).1]; exact ohia
    have as' : ad2 .self = some dx := by rw [(h2 _ (by simp)).1]; exact hs
    have hidx1 : σ2 oia = some (.dict (I.map fun k => (.tup (strV k), ixV ad true k))) := (l2.has _ _ ai).trans (by rw [(h2 _ (by simp)).2, C.idxc]; unfold idxC; rfl)
    have hself1 : σ2 dx = some (.ns ["_tokens", "_num_leaves", "_edgelists", "_edge_to_cpls", "_indexes"] [.tup [.str "x", .str "y", .str "x"], .int 3, .flst [.ref oe0, .ref oe1, .ref oe2, .ref oe3], .ref oca, .ref oia]) := (l2.has _ _ as').trans (by rw [(h2 _ (by simp)).2, C.selfc, selfT ohe0 ohe1 ohe2 ohe3 ohca ohia])
    have eix : V.flst [ad! ad2 (.dic ks 0), ad! ad2 (.dic ks 1), ad! ad2 (.dic ks 2), ad! ad2 (.dic ks 3)] = ixV ad2 true ks := rfl
    tm_at "go"
    refine O_get_mob (okI P) (by tm_at "K") hself1 (by tm_at "u") (by intro i z; cases z) ?_
    refine WE_name (by tm_at "l") ?_
    have hdn : dget (I.map fun k => (.tup (strV k), ixV ad true k)) (.tup (strV ks)) = none := by
      rw [idx_dget, Option.map_eq_none_iff, List.find?_eq_none]
      intro k hk z
      exact hks (of_decide_eq_true z ▸ hk)
    refine O_setitem hidx1 (ks_flat ks) (by rw [List.length_map]; omega) ?_
    rw [dput_new hdn]
    have l3 := l2.upd ai (.dict (I.map (fun k => (.tup (strV k), ixV ad true k)) ++ [(.tup (strV ks), ixV ad2 true ks)]))
    have fr3 := fr2.trans (Fra.upd ai (.dict (I.map (fun k => (.tup (strV k), ixV ad true k)) ++ [(.tup (strV ks), ixV ad2 true ks)])))
    have C3 := C.newIdx (ad2 := ad2) (ct2 := cput ct2 .idx (.dict (I.map (fun k => (.tup (strV k), ixV ad true k)) ++ [(.tup (strV ks), ixV ad2 true ks)]))) hks (fun m hm => ⟨(h2 m hm).1, fun z => by rw [cput_ne _ _ z]; exact (h2 m hm).2⟩)
      (fun j hj => ⟨(h1 j hj).1, by rw [cput_ne _ _ (by simp)]; exact (h1 j hj).2⟩) (by rw [cput_self])
    have R0 : Add true dx ad ad2 σ' Le M I ks (acc Le 0) _ _ _ := ⟨l3, C3, as', fun _ => rfl, fun _ => rfl, fr3⟩
    have hself3 := (l3.has .self dx as').trans (by rw [cput_ne _ _ (by simp), (h2 _ (by simp)).2, C.selfc, selfT ohe0 ohe1 ohe2 ohe3 ohca ohia])
    refine WB_for2 O (by tm_at "u") (by tm_at "u") ?_ (fun _ => by tm_at "u")
    refine WU_enum (by tm_at "k") (by rw [P.hK]; kernel_rfl) rfl ?_
    tm_at "go"
    refine O_get_mob (okI P) (by tm_at "K") hself3 (by tm_at "u") (by intro i z; cases z) ?_
    refine ⟨_, rfl, fun j loc' σ1 => LSub [("index", .flst [ad! ad2 (.dic ks 0), ad! ad2 (.dic ks 1), ad! ad2 (.dic ks 2), ad! ad2 (.dic ks 3)]), ("self", .mob cI dx), ("restr_keys", .tup (strV ks))] loc' ∧ ∃ ad' ct', Add true dx ad ad2 σ' Le M I ks (acc Le j) ad' ct' σ1, ⟨LSub.cons (by tm_at "l") (LSub.cons (by tm_at "l") (LSub.cons (by tm_at "l") (LSub.nil _))), _, _, R0⟩, fun j y z loc' σ1 hj hn hinv => ?_, fun loc' σ1 hn hinv => ?_⟩
    · obtain ⟨hl, ad', ct', R⟩ := hinv
      obtain ⟨hj4, e1, e2⟩ := enums_at hj
      have hj4 : j < 4 := hj4
      subst e1
      obtain ⟨ea, hea⟩ := (R.cs.edges j hj4).1
      have hea2 : ad (.edges j) = some ea := by rw [← hea, R.eds, (h2 _ (by simp)).1]
      have e3 : z = .ref ea := by
        have hat : ([.ref oe0, .ref oe1, .ref oe2, .ref oe3] : List V)[j]? = some (.ref ea) := by
          rw [← ad!_at hea2, ← ad!_at ohe0, ← ad!_at ohe1, ← ad!_at ohe2, ← ad!_at ohe3]; exact four_at (f := fun i => ad! ad (.edges i)) hj4
        rw [hat] at e2; cases e2; rfl
      subst e3
      obtain ⟨d, hd⟩ := (h1 j hj4).1
      have hdat : ([ad! ad2 (.dic ks 0), ad! ad2 (.dic ks 1), ad! ad2 (.dic ks 2), ad! ad2 (.dic ks 3)] : List V)[j]? = some (.ref d) := by
        rw [← ad!_at hd]; exact four_at (f := fun i => ad! ad2 (.dic ks i)) hj4
      have hed := R.lay.has _ _ hea
      rw [(R.cs.edges j hj4).2] at hed
      refine WB.forget (loc' := [("edgelist", .ref ea), ("end", .int j), ("index", .flst [ad! ad2 (.dic ks 0), ad! ad2 (.dic ks 1), ad! ad2 (.dic ks 2), ad! ad2 (.dic ks 3)]), ("self", .mob cI dx), ("restr_keys", .tup (strV ks))]) (Sub.refl _)
        (LSub.cons look_hd (LSub.cons (look_tl (by decide +kernel) look_hd) (LSub.cons (look_tl (by decide +kernel) (look_tl (by decide +kernel) (hl.app look_hd))) (LSub.cons (look_tl (by decide +kernel) (look_tl (by decide +kernel) (hl.app (look_tl (by decide +kernel) look_hd)))) (LSub.cons (look_tl (by decide +kernel) (look_tl (by decide +kernel) (hl.app (look_tl (by decide +kernel) (look_tl (by decide +kernel) look_hd))))) (LSub.nil _)))))) ?_
      tm_at "go"
      refine O_item_flst (k := (j : Int)) (Int.natCast_nonneg j) (Nat.le_of_ble_eq_true rfl) hdat ?_ (fun _ _ _ => rfl)
      tm_at "go"
      refine WB_for O (by tm_at "u") ?_ (fun _ => by tm_at "u")
      tm_at "go"
      refine ⟨_, some (ea, _), Iter_list hed, fun i loc' σ2 => LSub [("this_index", .ref d), ("index", .flst [ad! ad2 (.dic ks 0), ad! ad2 (.dic ks 1), ad! ad2 (.dic ks 2), ad! ad2 (.dic ks 3)]), ("self", .mob cI dx), ("restr_keys", .tup (strV ks))] loc' ∧ ∃ ad' ct', AddL true dx ad ad2 σ' Le M I ks j ea (acc Le j ++ (inB true Le j).take i) ad' ct' σ2,
        ⟨LSub.cons (by tm_at "l") (LSub.cons (by tm_at "l") (LSub.cons (by tm_at "l") (LSub.cons (by tm_at "l") (LSub.nil _)))), _, _, by rw [List.take_zero, List.append_nil]; exact R.start hea⟩, fun i y loc' σ2 hi hn hinv => ?_, fun loc' σ2 hn hinv => ?_⟩
      · obtain ⟨hl, ad', ct', R⟩ := hinv
        rw [List.getElem?_map, Option.map_eq_some_iff] at hi
        obtain ⟨e, he, rfl⟩ := hi
        have hmemB := List.mem_of_getElem? he
        have hmem : e ∈ Le := by unfold inB at hmemB; exact (List.mem_filter.mp hmemB).1
        have hbk : bk true e = j := by unfold inB at hmemB; exact of_decide_eq_true (List.mem_filter.mp hmemB).2
        refine WB.forget (loc' := [("edge", e.obj), ("this_index", .ref d), ("index", .flst [ad! ad2 (.dic ks 0), ad! ad2 (.dic ks 1), ad! ad2 (.dic ks 2), ad! ad2 (.dic ks 3)]), ("self", .mob cI dx), ("restr_keys", .tup (strV ks))]) (Sub.refl _)
          (LSub.cons look_hd (LSub.cons (look_tl (by decide +kernel) (hl.app look_hd)) (LSub.cons (look_tl (by decide +kernel) (hl.app (look_tl (by decide +kernel) look_hd))) (LSub.cons (look_tl (by decide +kernel) (hl.app (look_tl (by decide +kernel) (look_tl (by decide +kernel) look_hd)))) (LSub.cons (look_tl (by decide +kernel) (hl.app (look_tl (by decide +kernel) (look_tl (by decide +kernel) (look_tl (by decide +kernel) look_hd))))) (LSub.nil _)))))) ?_
        tm_at "go"
        tm_at "comp"
        tm_at "go"
        refine vals_turns P (e := e) (.inl rfl) hkl (fun C k K' kk => ?_) ?_
        · tm_at "go"
          refine (f_attribute P (heok e hmem) ?_).oc
          exact kk
        tm_at "go"
        refine C_tuple_flst (by unfold vals; rw [List.length_map]; omega) ?_
        tm_at "go"
        have hBk : Bkt (adel ad' (.edges j)) ct' true (acc Le j ++ (inB true Le j).take i) ks j := by
          have := R.cs.bkt ks (by simp) j hj4
          rw [if_pos rfl] at this
          exact this.keep (adel_ne _ (by simp)) rfl (fun v => adel_ne _ (by simp)) fun _ => rfl
        have htl : (acc Le j ++ (inB true Le j).take i).length ≤ 900 := by
          rw [List.length_append, List.length_take]
          have h1 := @inB_len true Le j
          have h2 := acc_len Le j
          have h3 : j * Le.length ≤ 3 * Le.length := Nat.mul_le_mul_right _ (by omega)
          omega
        refine WB_grp (ks := ks) (i := j) (d := d) (e := e) (L := acc Le j ++ (inB true Le j).take i) (by unfold interactive; rw [O.scp]; rfl) R.lay hBk hbk (by rw [adel_ne _ (by simp), R.dics]; exact hd) htl (WE_name (by tm_at "l") ⟨rfl, rfl⟩) (by tm_at "l") (by tm_at "l") ⟨_, rfl⟩ ⟨_, rfl⟩ fun ad3 ct3 σ3 lay3 B3 G3 fr3 => ?_
        subst hbk
        have R2 := R.step lay3 B3 G3 fr3
        have htk : acc Le (bk true e) ++ (inB true Le (bk true e)).take i ++ [e] = acc Le (bk true e) ++ (inB true Le (bk true e)).take (i + 1) := by rw [List.take_add_one, he, List.append_assoc]; rfl
        rw [htk] at R2
        exact WB_nil ⟨LSub.cons (by tm_at "l") (LSub.cons (by tm_at "l") (LSub.cons (by tm_at "l") (LSub.cons (by tm_at "l") (LSub.nil _)))), _, _, R2⟩
      · obtain ⟨hl, ad', ct', R⟩ := hinv
        rw [List.length_map, List.take_length] at R
        have R3 := R.fin hj4 (hn ea _ rfl)
        refine WB_nil ⟨LSub.cons (hl.app (look_tl (by decide +kernel) look_hd)) (LSub.cons (hl.app (look_tl (by decide +kernel) (look_tl (by decide +kernel) look_hd))) (LSub.cons (hl.app (look_tl (by decide +kernel) (look_tl (by decide +kernel) (look_tl (by decide +kernel) look_hd)))) (LSub.nil _))), _, _, R3⟩
    · obtain ⟨hl, ad', ct', R⟩ := hinv
      have R3 : Add true dx ad ad2 σ' Le M I ks (acc Le 4) ad' ct' σ1 := R
      refine ret_nil (q ad' ct' _ R3.lay (R3.cs.bcongr fun k hk i hi => ?_) R3.slf R3.fra)
      by_cases z : k = ks
      · rw [if_pos z]; exact inB_acc hi
      · rw [if_neg z]
end
end
section
open Classical
noncomputable def askV (e : Ed) (k : Str) : V := if k = "lhs" then e.lhs.v else if k = "nextsym" then ov e.next else if k = "rhs" then .tup (e.rhs.map Sg.v) else attr e k
noncomputable def selL (late : Bool) (Le : List Ed) (e : Ed) (ks : List Str) : List Ed := (inB late Le (bk late e)).filter fun e' => decide (vals e' ks = vals e ks)
noncomputable def Sel (ad : Adr) (σ : Store) (v : V) (l : List V) : Prop := v = .flst l ∨ ∃ a m, v = .ref a ∧ ad m = some a ∧ σ a = some (.list l)
theorem selL_perm {late : Bool} {Le : List Ed} {e : Ed} {ks ks' : List Str} (h : ks'.Perm ks) : selL late Le e ks' = selL late Le e ks := by
  unfold selL
  apply List.filter_congr
  intro e' _
  rw [decide_eq_decide]
  unfold vals
  rw [List.map_inj_left, List.map_inj_left]
  exact ⟨fun z k hk => z k (h.mem_iff.mpr hk), fun z k hk => z k (h.mem_iff.mp hk)⟩
theorem selL_nil {late : Bool} {Le : List Ed} {e : Ed} : selL late Le e [] = inB late Le (bk late e) := by
  unfold selL
  rw [List.filter_eq_self]
  intro a _
  rfl
section
variable {c : Cx} {n : Nat} {σ σ₀ : Store} {K : V → Store → Prop} {env : Env} {loc : Loc}
theorem Iter_skeys {a : Addr} {es : List (Str × V)} (ha : σ a = some (.sdict es)) : OIter c n (.view .keys a) (strV (es.map (·.1))) σ (some (a, .sdict es)) := fun A kp st h tk v r s p => by
  cases p with
  | view hb hc hd =>
    obtain ⟨ens, kvs, ep, hD, pr, rs⟩ := s.getSraw ha
    obtain ⟨o, ea, hE⟩ := id hD
    obtain ⟨sa, sk⟩ := sv_keys pr rs
    have rr := reps_of (g := kp) sa sk
    have hl : (List.toArray ens).size = (strV (es.map (·.1))).length := by rw [← rr.length]; simp
    refine iter_keys ⟨_, s.kp_ok _ _ hb, hc, hd⟩ hD ?_
    have W := walksKeys (prog := c.prog) (w := c.w) (A := A) r.1 h.objs.size a (old_size ea) (List.toArray ens) ep
    refine iter_new s ea rfl (.inr ⟨_, rfl, ha⟩) W hl ⟨⟨_, Heap.get?_push_size _ rfl, rfl, rfl⟩, _, Heap.get?_push_of_some _ ea, hE⟩ (fun i h' q => ⟨let ⟨o, e, _⟩ := q.1; ⟨o, e⟩, let ⟨o, e, _⟩ := q.2; ⟨o, e⟩⟩) fun i u q => ?_
    have hi : i < (strV (es.map (·.1))).length := by
      rw [← hl]
      rw [Option.map_eq_some_iff] at q
      obtain ⟨x, e1, _⟩ := q
      exact (Array.getElem?_eq_some_iff.mp e1).1
    obtain ⟨y, hy⟩ : ∃ y, (strV (es.map (·.1)))[i]? = some y := ⟨_, List.getElem?_eq_getElem hi⟩
    obtain ⟨w, hw, rw'⟩ := rr.get hy
    have : some w = some u := by
      rw [← hw, ← q]
      simp
    cases this
    exact ⟨y, hy, rw'⟩
theorem f_plain_ask (P : Pg c) {e : Ed} (he : e.rhs.length ≤ 100) {k : Str} (q : K (attr e k) σ) : OCd c (n + 2) (.val (.ref 428)) [askV e k, .str k] [] [] σ K := by
  unfold askV
  by_cases h1 : k = "lhs"
  · subst h1
    rw [if_pos rfl]
    exact f_plain_sg P (g := some e.lhs) (.inl rfl) q
  · rw [if_neg h1]
    by_cases h2 : k = "nextsym"
    · subst h2
      rw [if_pos rfl]
      exact f_plain_sg P (g := e.next) (.inr rfl) q
    · rw [if_neg h2]
      by_cases h3 : k = "rhs"
      · subst h3
        rw [if_pos rfl]
        exact f_plain_rhs P he rfl q
      · rw [if_neg h3]
        exact f_plain_other P h1 h2 h3 q
end
end
section
open Classical
theorem idx_isSome {ad : Adr} {late : Bool} {I : List (List Str)} {ks : List Str} : (dget (I.map fun k => (.tup (strV k), ixV ad late k)) (.tup (strV ks))).isSome = decide (ks ∈ I) := by
  rw [idx_dget, Option.isSome_map, Bool.eq_iff_iff, List.find?_isSome, decide_eq_true_iff]
  exact ⟨fun ⟨m, h, z⟩ => of_decide_eq_true z ▸ h, fun h => ⟨ks, h, decide_eq_true rfl⟩⟩
theorem idx_at {ad : Adr} {late : Bool} {I : List (List Str)} {ks : List Str} (h : ks ∈ I) : dget (I.map fun k => (.tup (strV k), ixV ad late k)) (.tup (strV ks)) = some (ixV ad late ks) := by
  rw [idx_dget]
  cases q : I.find? (fun k => decide (k = ks)) with
  | none =>
    rw [List.find?_eq_none] at q
    exact absurd (decide_eq_true rfl) (q _ h)
  | some y =>
    have h1 : y = ks := of_decide_eq_true (List.find?_some (p := fun k : List Str => decide (k = ks)) q)
    rw [h1]; rfl
theorem find_sel {ad : Adr} {ct : Nm → AO} {σ : Store} {late : Bool} {L : List Ed} {e : Ed} {ks : List Str} (lay : Lay ad ct σ) (B : Bkt ad ct late L ks (bk late e)) :
    Sel ad σ ((dget ((gks late L ks (bk late e)).map fun v => (.tup v, ad! ad (.grp ks (bk late e) v))) (.tup (vals e ks))).getD (.flst [])) ((selL late L e ks).map Ed.obj) := by
  rw [gks_dget]
  split
  · rename_i h
    obtain ⟨⟨g, hg⟩, hc⟩ := B.grp _ h
    have := lay.has _ _ hg
    rw [hc] at this
    exact .inr ⟨g, _, ad!_at hg, hg, this⟩
  · rename_i h
    have : selL late L e ks = [] := by
      unfold selL
      rw [List.filter_eq_nil_iff]
      intro e' he' hd
      refine h (mem_gks.mpr ⟨e', ?_, ?_, of_decide_eq_true hd⟩)
      · unfold inB at he'; exact (List.mem_filter.mp he').1
      · unfold inB at he'; exact of_decide_eq_true (List.mem_filter.mp he').2
    rw [this]
    exact .inl rfl
section
variable {c : Cx} {n : Nat} {σ σ₀ : Store} {K : V → Store → Prop} {env : Env} {loc : Loc}
structure Aft (late : Bool) (dx : Addr) (ad0 : Adr) (σ0 : Store) (Le : List Ed) (M : Mo) (I : List (List Str)) (ad : Adr) (ct : Nm → AO) (σ : Store) (I' : List (List Str)) : Prop where
  lay : Lay ad ct σ
  cs : CS late ad ct Le M (fun _ => Le) I'
  slf : ad .self = some dx
  fra : Fra ad0 ad σ0 σ
  nd : I'.Nodup
  len : I'.length ≤ I.length + 1
  kl : ∀ ks ∈ I', ks.length ≤ 100
theorem f_sel_C (P : Pg c) {ad : Adr} {ct : Nm → AO} {Le : List Ed} {M : Mo} {I : List (List Str)} {dx r : Addr} {es : List (Str × V)} {e : Ed} (lay : Lay ad ct σ) (C : CS false ad ct Le M (fun _ => Le) I) (hs : ad .self = some dx) (hI : I.Nodup) (hIl : I.length ≤ 700) (hk : ∀ ks ∈ I, ks.length ≤ 100) (hL : Le.length ≤ 200) (heok : ∀ e ∈ Le, e.ok)
    (hr : σ r = some (.sdict es)) (hra : ∀ m, ad m ≠ some r) (hes : es.length < 64) (hka : ∀ k ∈ es.map (·.1), k ∈ attrs) (hask : ∀ k ∈ es.map (·.1), es.lookup k = some (askV e k)) (her : e.rhs.length ≤ 100)
    (q : ∀ v ad' ct' σ' I', Aft false dx ad σ Le M I ad' ct' σ' I' → Sel ad' σ' v ((selL false Le e (es.map (·.1))).map Ed.obj) → K v σ') : OCd c (n + 7) (.val (.ref 360)) [.mob cC dx, .ref r] [] [] σ K := by
  refine F_fn (bn := ["self", "restrictions"]) (by rw [P.hK]; rfl) rfl (by rw [P.hK]; rfl) rfl rfl rfl rfl rfl rfl rfl (by decide) (by decide) (fun s kk vs kvs h1 h2 => ?_) fun env O => ?_
  · obtain ⟨v0, v1, rfl⟩ := len2 h1
    obtain ⟨-, rfl⟩ := len0 h2
    exact BindsTo.of_eq rfl
  dsimp only [List.zip_cons_cons, List.zip_nil_left, List.zip_nil_right, List.cons_append, List.nil_append, List.append_nil]
  conv => arg 4; whnf
  obtain ⟨oea, ohea⟩ := (C.edges 0 (by decide)).1
  obtain ⟨oca, ohca⟩ := C.cpls
  obtain ⟨oia, ohia⟩ := C.idx
  have hself := lay.has _ _ hs
  rw [C.selfc, selfF ohea ohca ohia] at hself
  have hidx := lay.has _ _ ohia
  rw [C.idxc] at hidx
  unfold idxC at hidx
  have hed := lay.has _ _ ohea
  rw [(C.edges 0 (by decide)).2] at hed
  tm_at "go"
  refine WE_dict (.sdict []) (.inr rfl) fun g hg => ?_
  have gr : r ≠ g := by rintro rfl; rw [hg] at hr; cases hr
  refine O_eq_sempty ((put_ne σ (.sdict []) gr).trans hr) (put_self _ _ _) ?_
  rw [del_put hg]
  tm_at "go"
  refine ⟨fun hv => ?_, fun hv => ?_⟩
  · have he0 : es = [] := by cases es with
      | nil => rfl
      | cons a b => cases hv
    subst he0
    tm_at "go"
    refine O_get_mob (okC P) (by tm_at "K") hself (by tm_at "u") (by intro i z; cases z) ?_
    tm_at "go"
    refine q _ ad ct σ I ⟨lay, C, hs, Fra.refl _ _, hI, Nat.le_succ _, hk⟩ (.inr ⟨oea, _, rfl, ohea, ?_⟩)
    rw [hed]
    show some (edgesC false Le 0) = some (.list ((selL false Le e []).map Ed.obj))
    rw [selL_nil]
    rfl
  · tm_at "go"
    intro pl
    refine O_keys (.inr ⟨_, hr⟩) ?_
    tm_at "go"
    refine C_keys (.inr ⟨_, hr⟩) ?_
    tm_at "go"
    refine C_sorted_keys hr hes fun ks hp => ?_
    have hkl : ks.length ≤ 100 := by rw [hp.length_eq, List.length_map]; omega
    tm_at "go"
    refine C_tuple_flst (by unfold strV; rw [List.length_map]; omega) ?_
    refine WB_ifJ (fun l s => @Eq Loc l [("restr_keys", .tup (strV ks)), ("restr_keys", .flst (strV ks)), ("self", .mob cC dx), ("restrictions", .ref r)] ∧ ∃ ad1 ct1 I1, Aft false dx ad σ Le M I ad1 ct1 s I1 ∧ ks ∈ I1) ?_ ?_
    · tm_at "go"
      refine O_get_mob (okC P) (by tm_at "K") hself (by tm_at "u") (by intro i z; cases z) ?_
      refine O_notIn_dict hidx (ks_flat ks) ?_
      rw [idx_isSome]
      tm_at "go"
      refine ⟨fun hv => ?_, fun hv => ?_⟩
      · have hne : ks ∉ I := by simpa using hv
        tm_at "drop"
        tm_at "go"
        intro pl
        refine O_meth_mob (f := 365) (okC P) (by tm_at "K") (by tm_at "K") hself (by decide) ?_
        tm_at "go"
        refine (f_add_C P lay C hs (by omega) hne hkl (fun k hk' => hka k (hp.mem_iff.mp hk')) hL heok fun ad1 ct1 σ1 l1 C1 s1 fr1 => ?_).oc
        refine WB_nil ⟨rfl, rfl, ad1, ct1, I ++ [ks], ⟨l1, C1, s1, fr1, ?_, by rw [List.length_append]; exact Nat.le_refl _, ?_⟩, by simp⟩
        · rw [List.nodup_append]
          refine ⟨hI, by simp, fun a ha b hb z => ?_⟩
          rw [List.mem_singleton.mp hb] at z
          exact hne (z ▸ ha)
        · intro k' hk'
          rcases List.mem_append.mp hk' with z | z
          · exact hk k' z
          · rw [List.mem_singleton.mp z]; exact hkl
      · have hin : ks ∈ I := by simpa using hv
        exact WB_nil ⟨rfl, rfl, ad, ct, I, ⟨lay, C, hs, Fra.refl _ _, hI, Nat.le_succ _, hk⟩, hin⟩
    · rintro l s ⟨rfl, ad1, ct1, I1, R, hin⟩
      obtain ⟨hr1, hra1⟩ := R.fra r _ hr hra
      tm_at "go"
      tm_at "comp"
      tm_at "go"
      refine map_turns V.str (attr e) (.inl rfl) (by omega) (fun CC k hkm K' kk => ?_) ?_
      · tm_at "go"
        refine O_item_sdict hr1 (hask k (hp.mem_iff.mp hkm)) ?_ (fun _ _ _ => rfl)
        tm_at "go"
        exact (f_plain_ask P her kk).oc
      tm_at "go"
      refine C_tuple_flst (by rw [List.length_map]; omega) ?_
      tm_at "go"
      obtain ⟨ia1, hia1⟩ := R.cs.idx
      obtain ⟨ea1, hea1⟩ := (R.cs.edges 0 (by decide)).1
      obtain ⟨ca1, hca1⟩ := R.cs.cpls
      have hself1 := R.lay.has _ _ R.slf
      rw [R.cs.selfc, selfF hea1 hca1 hia1] at hself1
      have hidx1 := R.lay.has _ _ hia1
      rw [R.cs.idxc] at hidx1
      unfold idxC at hidx1
      have B := R.cs.bkt ks hin 0 (by decide)
      obtain ⟨d, hd⟩ := B.dic
      have hdd := R.lay.has _ _ hd
      rw [B.dicc] at hdd
      unfold dicC at hdd
      refine O_get_mob (okC P) (by tm_at "K") hself1 (by tm_at "u") (by intro i z; cases z) ?_
      tm_at "go"
      refine O_item_dict hidx1 (ks_flat ks) (idx_at hin) ?_ (fun _ _ => rfl)
      have hix : ixV ad1 false ks = .ref d := by unfold ixV; rw [ad!_at hd]; rfl
      rw [hix]
      intro pl
      refine O_get hdd ?_
      tm_at "go"
      refine WE_listF (WL_nil ⟨by decide, ?_⟩)
      tm_at "go"
      refine C_get hdd (vals_flat e ks) ?_
      tm_at "go"
      refine q _ ad1 ct1 s I1 R ?_
      rw [← selL_perm hp]
      exact find_sel R.lay B
end
end
section
open Classical
section
variable {c : Cx} {n : Nat} {σ σ₀ : Store} {K : V → Store → Prop} {env : Env} {loc : Loc}
theorem filter_turns {α : Type} (a : α → V) (p : α → Bool) {x : Str} {scope : Scope} {elt t : Expr} {r : List α} {v : V} {L : Lent} (it : OIter c n v (r.map a) σ L) (hb : backS L (lendS L σ) = σ) (hr : r.length ≤ 1000)
    (test : ∀ C g, g ∈ r → ∀ (K' : Bool → Store → Prop), K' (p g) (lendS L σ) → WT c n (compEnvC scope (closL env scope.names []) C env) t ((x, a g) :: inner scope loc) (lendS L σ) K')
    (step : ∀ C g, g ∈ r → ∀ (K' : V → Store → Prop), K' (a g) (lendS L σ) → WE c n (compEnvC scope (closL env scope.names []) C env) elt ((x, a g) :: inner scope loc) (lendS L σ) K')
    (q : K (.flst ((r.filter p).map a)) σ) : Turns c n env loc scope x [t] elt v σ K := by
  refine ⟨_, L, it, by rw [List.length_map]; omega, fun i acc σ' => σ' = lendS L σ ∧ acc = ((r.take i).filter p).map a, ⟨rfl, rfl⟩, fun C i y acc σ' hy hi => ?_, fun acc σ' hi => ?_⟩
  · obtain ⟨rfl, rfl⟩ := hi
    rw [List.getElem?_map, Option.map_eq_some_iff] at hy
    obtain ⟨g, hg, rfl⟩ := hy
    have hm := List.mem_of_getElem? hg
    refine test C g hm _ ⟨fun hp => ?_, fun hp => ?_⟩
    · refine step C g hm _ ⟨rfl, ?_⟩
      rw [List.take_add_one, hg, List.filter_append]
      simp [hp]
    · refine ⟨rfl, ?_⟩
      rw [List.take_add_one, hg, List.filter_append]
      simp [hp]
  · obtain ⟨rfl, rfl⟩ := hi
    rw [List.length_map, List.take_length, hb]
    exact q
noncomputable def noEnd (ks : List Str) : List Str := ks.filter fun k => !(k == ("end" : Str))
theorem f_sel_I (P : Pg c) {ad : Adr} {ct : Nm → AO} {Le : List Ed} {M : Mo} {I : List (List Str)} {dx r : Addr} {es : List (Str × V)} {e : Ed} (lay : Lay ad ct σ) (C : CS true ad ct Le M (fun _ => Le) I) (hs : ad .self = some dx) (hI : I.Nodup) (hIl : I.length ≤ 700) (hk : ∀ ks ∈ I, ks.length ≤ 100) (hL : Le.length ≤ 200) (heok : ∀ e ∈ Le, e.ok)
    (hr : σ r = some (.sdict es)) (hra : ∀ m, ad m ≠ some r) (hes : es.length < 64) (hka : ∀ k ∈ es.map (·.1), k ∈ attrs) (hask : ∀ k ∈ es.map (·.1), es.lookup k = some (askV e k)) (hend : ("end" : Str) ∈ es.map (·.1)) (her : e.rhs.length ≤ 100) (h0 : 0 ≤ e.hi) (h3 : e.hi ≤ 3)
    (q : ∀ v ad' ct' σ' I', Aft true dx ad σ Le M I ad' ct' σ' I' → Sel ad' σ' v ((selL true Le e (noEnd (es.map (·.1)))).map Ed.obj) → K v σ') : OCd c (n + 7) (.val (.ref 464)) [.mob cI dx, .ref r] [] [] σ K := by
  refine F_fn (bn := ["self", "restrictions"]) (by rw [P.hK]; rfl) rfl (by rw [P.hK]; rfl) rfl rfl rfl rfl rfl rfl rfl (by decide) (by decide) (fun s kk vs kvs h1 h2 => ?_) fun env O => ?_
  · obtain ⟨v0, v1, rfl⟩ := len2 h1
    obtain ⟨-, rfl⟩ := len0 h2
    exact BindsTo.of_eq rfl
  dsimp only [List.zip_cons_cons, List.zip_nil_left, List.zip_nil_right, List.cons_append, List.nil_append, List.append_nil]
  conv => arg 4; whnf
  obtain ⟨oe0, ohe0⟩ := (C.edges 0 (by decide)).1
  obtain ⟨oe1, ohe1⟩ := (C.edges 1 (by decide)).1
  obtain ⟨oe2, ohe2⟩ := (C.edges 2 (by decide)).1
  obtain ⟨oe3, ohe3⟩ := (C.edges 3 (by decide)).1
  obtain ⟨oca, ohca⟩ := C.cpls
  obtain ⟨oia, ohia⟩ := C.idx
  have hself := lay.has _ _ hs
  rw [C.selfc, selfT ohe0 ohe1 ohe2 ohe3 ohca ohia] at hself
  have hidx := lay.has _ _ ohia
  rw [C.idxc] at hidx
  unfold idxC at hidx
  have hb : bk true e = e.hi.toNat := rfl
  have hb4 : bk true e < 4 := by rw [hb]; omega
  obtain ⟨ea, hea⟩ := (C.edges _ hb4).1
  have hed := lay.has _ _ hea
  rw [(C.edges _ hb4).2] at hed
  have hat : ([.ref oe0, .ref oe1, .ref oe2, .ref oe3] : List V)[e.hi.toNat]? = some (.ref ea) := by
    rw [← ad!_at hea, ← ad!_at ohe0, ← ad!_at ohe1, ← ad!_at ohe2, ← ad!_at ohe3]; exact four_at (f := fun i => ad! ad (.edges i)) hb4
  tm_at "go"
  refine O_item_sdict hr (x := .int e.hi) (hask _ hend) ?_ (fun _ _ _ => rfl)
  tm_at "go"
  refine O_get_mob (okI P) (by tm_at "K") hself (by tm_at "u") (by intro i z; cases z) ?_
  tm_at "go"
  refine O_item_flst h0 (Nat.le_of_ble_eq_true rfl) hat ?_ (fun _ _ _ => rfl)
  tm_at "go"
  tm_at "comp"
  tm_at "go"
  intro pl
  refine O_keys (.inr ⟨_, hr⟩) ?_
  tm_at "go"
  refine C_keys (.inr ⟨_, hr⟩) ?_
  refine filter_turns V.str (fun k => !(k == ("end" : Str))) (L := some (r, .sdict es)) (Iter_skeys hr) (put_del hr) (by rw [List.length_map]; omega) (fun CC k hkm K' kk => ?_) (fun CC k hkm K' kk => ?_) ?_
  · tm_at "go"
    rw [veq_str]
    exact kk
  · tm_at "go"
    exact kk
  tm_at "go"
  refine C_sorted_flst (Nat.lt_of_le_of_lt (List.length_filter_le _ _) (by rw [List.length_map]; exact hes)) fun ks hp => ?_
  have hsub : ∀ k ∈ ks, k ∈ es.map (·.1) := fun k hk' => (List.mem_filter.mp (hp.mem_iff.mp hk')).1
  have hkl : ks.length ≤ 100 := by
    rw [hp.length_eq]
    exact Nat.le_trans (List.length_filter_le _ _) (by rw [List.length_map]; omega)
  tm_at "go"
  refine C_tuple_flst (by unfold strV; rw [List.length_map]; omega) ?_
  tm_at "go"
  refine O_eq (ks_flat ks) (ks_flat []) ?_
  tm_at "go"
  refine ⟨fun hv => ?_, fun hv => ?_⟩
  · have hk0 : ks = [] := veq_ks.mp hv
    subst hk0
    tm_at "go"
    refine q _ ad ct σ I ⟨lay, C, hs, Fra.refl _ _, hI, Nat.le_succ _, hk⟩ (.inr ⟨ea, _, rfl, hea, ?_⟩)
    rw [hed, show noEnd (es.map (·.1)) = [] from hp.nil_eq.symm, selL_nil]
    rfl
  · refine then_nil ?_
    refine WB_ifJ (fun l s => @Eq Loc l [("restr_keys", .tup (strV ks)), ("restr_keys", .flst (strV ks)), ("edgelist", .ref ea), ("end", .int e.hi), ("self", .mob cI dx), ("restrictions", .ref r)] ∧ ∃ ad1 ct1 I1, Aft true dx ad σ Le M I ad1 ct1 s I1 ∧ ks ∈ I1) ?_ ?_
    · tm_at "go"
      refine O_get_mob (okI P) (by tm_at "K") hself (by tm_at "u") (by intro i z; cases z) ?_
      refine O_notIn_dict hidx (ks_flat ks) ?_
      rw [idx_isSome]
      tm_at "go"
      refine ⟨fun hv => ?_, fun hv => ?_⟩
      · have hne : ks ∉ I := by simpa using hv
        tm_at "drop"
        tm_at "go"
        intro pl
        refine O_meth_mob (f := 469) (okI P) (by tm_at "K") (by tm_at "K") hself (by decide) ?_
        tm_at "go"
        refine (f_add_I P lay C hs (by omega) hne hkl (fun k hk' => hka k (hsub k hk')) hL heok fun ad1 ct1 σ1 l1 C1 s1 fr1 => ?_).oc
        refine WB_nil ⟨rfl, rfl, ad1, ct1, I ++ [ks], ⟨l1, C1, s1, fr1, ?_, by rw [List.length_append]; exact Nat.le_refl _, ?_⟩, by simp⟩
        · rw [List.nodup_append]
          refine ⟨hI, by simp, fun a ha b hb z => ?_⟩
          rw [List.mem_singleton.mp hb] at z
          exact hne (z ▸ ha)
        · intro k' hk'
          rcases List.mem_append.mp hk' with z | z
          · exact hk k' z
          · rw [List.mem_singleton.mp z]; exact hkl
      · have hin : ks ∈ I := by simpa using hv
        exact WB_nil ⟨rfl, rfl, ad, ct, I, ⟨lay, C, hs, Fra.refl _ _, hI, Nat.le_succ _, hk⟩, hin⟩
    · rintro l s ⟨rfl, ad1, ct1, I1, R, hin⟩
      obtain ⟨hr1, hra1⟩ := R.fra r _ hr hra
      tm_at "go"
      tm_at "comp"
      tm_at "go"
      refine map_turns V.str (attr e) (.inl rfl) (by omega) (fun CC k hkm K' kk => ?_) ?_
      · tm_at "go"
        refine O_item_sdict hr1 (hask k (hsub k hkm)) ?_ (fun _ _ _ => rfl)
        tm_at "go"
        exact (f_plain_ask P her kk).oc
      tm_at "go"
      refine C_tuple_flst (by rw [List.length_map]; omega) ?_
      tm_at "go"
      obtain ⟨ia1, hia1⟩ := R.cs.idx
      obtain ⟨f0, hf0⟩ := (R.cs.edges 0 (by decide)).1
      obtain ⟨f1, hf1⟩ := (R.cs.edges 1 (by decide)).1
      obtain ⟨f2, hf2⟩ := (R.cs.edges 2 (by decide)).1
      obtain ⟨f3, hf3⟩ := (R.cs.edges 3 (by decide)).1
      obtain ⟨ca1, hca1⟩ := R.cs.cpls
      have hself1 := R.lay.has _ _ R.slf
      rw [R.cs.selfc, selfT hf0 hf1 hf2 hf3 hca1 hia1] at hself1
      have hidx1 := R.lay.has _ _ hia1
      rw [R.cs.idxc] at hidx1
      unfold idxC at hidx1
      have B := R.cs.bkt ks hin (bk true e) hb4
      obtain ⟨d, hd⟩ := B.dic
      have hdd := R.lay.has _ _ hd
      rw [B.dicc] at hdd
      unfold dicC at hdd
      have hdat : ([ad! ad1 (.dic ks 0), ad! ad1 (.dic ks 1), ad! ad1 (.dic ks 2), ad! ad1 (.dic ks 3)] : List V)[e.hi.toNat]? = some (.ref d) := by
        rw [← ad!_at hd]; exact four_at (f := fun i => ad! ad1 (.dic ks i)) hb4
      refine O_get_mob (okI P) (by tm_at "K") hself1 (by tm_at "u") (by intro i z; cases z) ?_
      tm_at "go"
      refine O_item_dict hidx1 (ks_flat ks) (idx_at hin) ?_ (fun _ _ => rfl)
      have hix : ixV ad1 true ks = .flst [ad! ad1 (.dic ks 0), ad! ad1 (.dic ks 1), ad! ad1 (.dic ks 2), ad! ad1 (.dic ks 3)] := rfl
      rw [hix]
      tm_at "go"
      refine O_item_flst h0 (Nat.le_of_ble_eq_true rfl) hdat ?_ (fun _ _ _ => rfl)
      intro pl
      refine O_get hdd ?_
      tm_at "go"
      refine WE_listF (WL_nil ⟨by decide, ?_⟩)
      tm_at "go"
      refine C_get hdd (vals_flat e ks) ?_
      tm_at "go"
      refine q _ ad1 ct1 s I1 R ?_
      rw [show noEnd (es.map (·.1)) = (es.map (·.1)).filter (fun k => !(k == ("end" : Str))) from rfl, ← selL_perm hp]
      exact find_sel R.lay B
end
end
section
open Classical
noncomputable def keysL : List Str := ["start", "length", "lhs", "is_complete", "nextsym", "dot", "span", "end", "rhs", "is_incomplete"]
theorem sput_fst (es : List (Str × V)) (k : Str) (x : V) (j : Str) : j ∈ (sput es k x).map (·.1) ↔ j = k ∨ j ∈ es.map (·.1) := by
  unfold sput
  split
  · rename_i h
    obtain ⟨e, he, hk⟩ := List.any_eq_true.mp h
    have e1 : (es.map fun e => if e.1 = k then (e.1, x) else e).map (·.1) = es.map (·.1) := by
      rw [List.map_map]
      apply List.map_congr_left
      intro a _
      show (if a.1 = k then (a.1, x) else a).1 = a.1
      split <;> rfl
    rw [e1]
    refine ⟨.inr, fun q => q.elim (fun z => ?_) id⟩
    rw [z, ← of_decide_eq_true hk]
    exact List.mem_map.mpr ⟨e, he, rfl⟩
  · rw [List.map_append, List.mem_append, List.map_singleton, List.mem_singleton]
    exact Or.comm
theorem sput_len (es : List (Str × V)) (k : Str) (x : V) : (sput es k x).length ≤ es.length + 1 := by
  unfold sput
  split
  · rw [List.length_map]; omega
  · rw [List.length_append, List.length_singleton]; exact Nat.le_refl _
theorem sput_lookup (k : Str) (x : V) (j : Str) : ∀ es : List (Str × V), (sput es k x).lookup j = if j = k then some x else es.lookup j := by
  intro es
  unfold sput
  split
  · rename_i h
    induction es with
    | nil => simp at h
    | cons a r ih =>
      rw [List.map_cons, List.lookup_cons, List.lookup_cons]
      by_cases z : a.1 = k
      · rw [if_pos z]
        dsimp only
        by_cases y : j = k
        · rw [if_pos y, y, z]; simp
        · rw [if_neg y]
          have hb : (j == a.1) = false := by rw [z]; simpa using y
          rw [hb]
          by_cases hr : (r.any fun e => decide (e.1 = k)) = true
          · have := ih hr
            rw [if_neg y] at this
            exact this
          · have hmap : (r.map fun e => if e.1 = k then (e.1, x) else e) = r := by
              conv => rhs; rw [← List.map_id r]
              apply List.map_congr_left
              intro e he
              have : ¬ e.1 = k := fun z => hr (List.any_eq_true.mpr ⟨e, he, decide_eq_true z⟩)
              rw [if_neg this]; rfl
            rw [hmap]
      · rw [if_neg z]
        have hr : (r.any fun e => decide (e.1 = k)) = true := by
          rw [List.any_cons] at h
          simpa [z] using h
        have := ih hr
        rw [this]
        by_cases y : j = k
        · rw [if_pos y, y]
          have hb : (k == a.1) = false := by simpa using fun q => z (Eq.symm q)
          rw [hb]; simp
        · simp [y]
  · rename_i h
    by_cases y : j = k
    · rw [if_pos y, y, List.lookup_append]
      have : es.lookup k = none := by
        rw [List.lookup_eq_none_iff]
        intro p hp
        have : ¬ p.1 = k := fun z => h (List.any_eq_true.mpr ⟨p, hp, decide_eq_true z⟩)
        exact bne_iff_ne.mpr fun q => this q.symm
      rw [this]; simp
    · rw [if_neg y, List.lookup_append]
      have hb : (j == k) = false := beq_false_of_ne y
      rw [List.lookup_cons, hb]
      cases es.lookup j <;> rfl
end
section
open Classical
theorem ten : ∀ p < 10, p = 0 ∨ p = 1 ∨ p = 2 ∨ p = 3 ∨ p = 4 ∨ p = 5 ∨ p = 6 ∨ p = 7 ∨ p = 8 ∨ p = 9 := by decide
noncomputable def kAt (p : Nat) : Str := (keysL[p]?).getD "x"
noncomputable def vAt (e : Ed) (p : Nat) : V := (e.values[p]?).getD .none
theorem om_nb (g : Option Sg) : (om g).nb = true := by
  cases g with
  | none => rfl
  | some g => exact g.m_nb
theorem next_good {e : Ed} (h : e.good) {g : Sg} (hg : e.next = some g) : g.good := h.2.2 g (List.mem_of_getElem? hg)
theorem om_ok {a b : Option Sg} (ha : ∀ g, a = some g → g.good) (hb : ∀ g, b = some g → g.good) : om a = om b ↔ ok' a = ok' b := by
  cases a with
  | none =>
    cases b with
    | none => exact ⟨fun _ => rfl, fun _ => rfl⟩
    | some g =>
      cases g with
      | n s =>
        refine ⟨fun h => ?_, fun h => by cases h⟩
        have : om (some (Sg.n s)) = if s = "x" then .int 0 else .int 1 := rfl
        rw [this] at h
        split at h <;> cases h
      | t s => exact ⟨fun h => (by cases h), fun h => (by cases h)⟩
  | some g =>
    cases b with
    | none =>
      cases g with
      | n s =>
        refine ⟨fun h => ?_, fun h => by cases h⟩
        have : om (some (Sg.n s)) = if s = "x" then .int 0 else .int 1 := rfl
        rw [this] at h
        split at h <;> cases h
      | t s => exact ⟨fun h => (by cases h), fun h => (by cases h)⟩
    | some g' => exact ⟨fun h => by rw [Sg.m_inj (ha g rfl) (hb g' rfl) h], fun h => by rw [Sg.k_inj h]⟩
theorem rhs_mk {a b : List Sg} (ha : ∀ g ∈ a, g.good) (hb : ∀ g ∈ b, g.good) : V.tup (a.map Sg.m) = .tup (b.map Sg.m) ↔ V.tup (a.map Sg.k) = .tup (b.map Sg.k) := by
  rw [V.tup.injEq, V.tup.injEq]
  exact ⟨fun h => by rw [map_inj_on (fun x hx y hy q => Sg.m_inj (ha x hx) (hb y hy) q) h], fun h => by rw [map_inj (fun x y q => Sg.k_inj q) h]⟩
theorem vAt_iff {e e' : Ed} (h : e.good) (h' : e'.good) {p : Nat} (hp : p < 10) : veq (vAt e' p) (vAt e p) = true ↔ attr e' (kAt p) = attr e (kAt p) := by
  rcases ten p hp with rfl | rfl | rfl | rfl | rfl | rfl | rfl | rfl | rfl | rfl
  · exact veq_nb (.int e'.lo) (.int e.lo) rfl rfl
  · exact veq_nb (.int (e'.hi - e'.lo)) (.int (e.hi - e.lo)) rfl rfl
  · show veq e'.lhs.m e.lhs.m = true ↔ e'.lhs.k = e.lhs.k
    rw [veq_nb _ _ (Sg.m_nb _) (Sg.m_nb _)]
    exact ⟨fun q => by rw [Sg.m_inj h'.2.1 h.2.1 q], fun q => by rw [Sg.k_inj q]⟩
  · show veq (.bool e'.done) (.bool e.done) = true ↔ V.bool e'.done = .bool e.done
    rw [veq_bool, V.bool.injEq]
  · show veq (om e'.next) (om e.next) = true ↔ ok' e'.next = ok' e.next
    rw [veq_nb _ _ (om_nb _) (om_nb _)]
    exact om_ok (fun g hg => next_good h' hg) fun g hg => next_good h hg
  · exact veq_nb (.int e'.dot) (.int e.dot) rfl rfl
  · exact veq_nb (.tup [.int e'.lo, .int e'.hi]) (.tup [.int e.lo, .int e.hi]) rfl rfl
  · exact veq_nb (.int e'.hi) (.int e.hi) rfl rfl
  · show veq (.tup (e'.rhs.map Sg.m)) (.tup (e.rhs.map Sg.m)) = true ↔ V.tup (e'.rhs.map Sg.k) = .tup (e.rhs.map Sg.k)
    rw [veq_nb _ _ (by rw [V.nb]; exact nbs_map fun g _ => g.m_nb) (by rw [V.nb]; exact nbs_map fun g _ => g.m_nb)]
    exact rhs_mk h'.2.2 h.2.2
  · show veq (.bool (!e'.done)) (.bool (!e.done)) = true ↔ V.bool (!e'.done) = .bool (!e.done)
    rw [veq_bool, V.bool.injEq]
noncomputable def dueL (late : Bool) (Le : List Ed) (e : Ed) (ps : List Nat) : List Ed := Le.filter fun e' => decide ((∀ p ∈ ps, veq (vAt e' p) (vAt e p) = true) ∧ (late = true → e'.hi = e.hi))
theorem sel_due {late : Bool} {Le : List Ed} {e : Ed} {ps : List Nat} {ks : List Str} (he : e.good) (hL : ∀ e' ∈ Le, e'.good) (h0 : 0 ≤ e.hi) (hL0 : ∀ e' ∈ Le, 0 ≤ e'.hi) (hps : ∀ p ∈ ps, p < 10)
    (hks : ∀ k, (k ∈ ks ∨ (late = true ∧ k = "end")) ↔ ((late = true ∧ k = "end") ∨ ∃ p ∈ ps, k = kAt p)) : selL late Le e ks = dueL late Le e ps := by
  unfold selL dueL inB
  rw [List.filter_filter]
  apply List.filter_congr
  intro e' he'
  have hbk : bk late e' = bk late e ↔ (late = true → e'.hi = e.hi) := by
    unfold bk
    cases late with
    | false => simp
    | true =>
      have := hL0 e' he'
      simp
      omega
  rw [Bool.eq_iff_iff, Bool.and_eq_true, decide_eq_true_iff, decide_eq_true_iff, decide_eq_true_iff, hbk]
  have hv : vals e' ks = vals e ks ↔ ∀ k ∈ ks, attr e' k = attr e k := by unfold vals; exact List.map_inj_left
  rw [hv]
  constructor
  · rintro ⟨h1, h2⟩
    refine ⟨fun p hp => (vAt_iff he (hL e' he') (hps p hp)).mpr ?_, h2⟩
    rcases (hks (kAt p)).mpr (.inr ⟨p, hp, rfl⟩) with q | ⟨q1, q2⟩
    · exact h1 _ q
    · rw [q2]
      show V.int e'.hi = .int e.hi
      rw [h2 q1]
  · rintro ⟨h1, h2⟩
    refine ⟨fun k hk => ?_, h2⟩
    rcases (hks k).mp (.inl hk) with ⟨q1, q2⟩ | ⟨p, hp, rfl⟩
    · rw [q2]
      show V.int e'.hi = .int e.hi
      rw [h2 q1]
    · exact (vAt_iff he (hL e' he') (hps p hp)).mp (h1 p hp)
end
section
open Classical
theorem Fra.other {ad : Adr} {σ : Store} {a : Addr} (h : σ a = none) (y : AO) : Fra ad ad σ (put σ a y) := fun b z eb hb => ⟨(by rw [put_ne]; exact eb; rintro rfl; rw [h] at eb; cases eb), hb⟩
noncomputable def bitAt (bits : Int) (k : Nat) : Bool := bits / (2 ^ k : Nat) % 2 == 1
noncomputable def placesL (bits : Int) : List Nat := (List.range 10).filter (bitAt bits)
theorem placesL_lt {bits : Int} {p : Nat} (h : p ∈ placesL bits) : p < 10 := List.mem_range.mp (List.mem_filter.mp h).1
theorem placesL_len {bits : Int} : (placesL bits).length ≤ 10 := Nat.le_trans (List.length_filter_le _ _) (by simp)
noncomputable def natV (k : Nat) : V := .int k
theorem bits_at {k : Nat} (h : k < 10) : ([.int 1, .int 2, .int 4, .int 8, .int 16, .int 32, .int 64, .int 128, .int 256, .int 512] : List V)[k]? = some (.int (2 ^ k : Nat)) := by
  rcases ten k h with rfl | rfl | rfl | rfl | rfl | rfl | rfl | rfl | rfl | rfl <;> rfl
theorem pow_lt {k : Nat} (h : k < 10) : 0 < ((2 ^ k : Nat) : Int) ∧ ((2 ^ k : Nat) : Int) < 1073741824 := by
  rcases ten k h with rfl | rfl | rfl | rfl | rfl | rfl | rfl | rfl | rfl | rfl <;> decide
structure AskI (late : Bool) (e : Ed) (ps : List Nat) (es : List (Str × V)) : Prop where
  look : ∀ k : Str, k ∈ es.map (·.1) → es.lookup k = some (askV e k)
  keys : ∀ k : Str, k ∈ es.map (·.1) ↔ ((late = true ∧ k = ("end" : Str)) ∨ ∃ p ∈ ps, k = kAt p)
  len : es.length ≤ ps.length + 1
theorem AskI.step {late : Bool} {e : Ed} {ps : List Nat} {es : List (Str × V)} (A : AskI late e ps es) (p : Nat) : AskI late e (ps ++ [p]) (sput es (kAt p) (askV e (kAt p))) := by
  refine ⟨fun k hk => ?_, fun k => ?_, ?_⟩
  · rw [sput_lookup]
    by_cases z : k = kAt p
    · rw [if_pos z, z]
    · rw [if_neg z]
      exact A.look k (((sput_fst _ _ _ _).mp hk).resolve_left z)
  · rw [sput_fst, A.keys]
    constructor
    · rintro (h | h | ⟨p', h1, h2⟩)
      · exact .inr ⟨p, by simp, h⟩
      · exact .inl h
      · exact .inr ⟨p', by simp [h1], h2⟩
    · rintro (h | ⟨p', h1, h2⟩)
      · exact .inr (.inl h)
      · rcases List.mem_append.mp h1 with q | q
        · exact .inr (.inr ⟨p', q, h2⟩)
        · rw [List.mem_singleton.mp q] at h2; exact .inl h2
  · have := sput_len es (kAt p) (askV e (kAt p))
    have := A.len
    rw [List.length_append, List.length_singleton]; omega
theorem AskI.zero (e : Ed) : AskI false e [] [] := ⟨fun k hk => by simp at hk, fun k => by simp, by simp⟩
theorem AskI.one (e : Ed) : AskI true e [] [("end", .int e.hi)] := ⟨fun k hk => by
  have : k = "end" := by simpa using hk
  rw [this]; rfl, fun k => by simp, by simp⟩
theorem vAt_ask {e : Ed} {p : Nat} (hp : p < 10) (h2 : p ≠ 2) (h4 : p ≠ 4) (h8 : p ≠ 8) : e.values[p]? = some (askV e (kAt p)) := by
  rcases ten p hp with rfl | rfl | rfl | rfl | rfl | rfl | rfl | rfl | rfl | rfl <;> first | rfl | exact absurd rfl h2 | exact absurd rfl h4 | exact absurd rfl h8
theorem keys_at {p : Nat} (hp : p < 10) : (keysL.map V.str)[p]? = some (.str (kAt p)) := by
  rcases ten p hp with rfl | rfl | rfl | rfl | rfl | rfl | rfl | rfl | rfl | rfl <;> rfl
theorem kAt_attrs {p : Nat} (hp : p < 10) : kAt p ∈ attrs := by
  rcases ten p hp with rfl | rfl | rfl | rfl | rfl | rfl | rfl | rfl | rfl | rfl <;> decide
theorem vAt_at {e : Ed} {p : Nat} (hp : p < 10) : e.values[p]? = some (vAt e p) := by
  have : p < e.values.length := hp
  unfold vAt
  rw [List.getElem?_eq_getElem this]; rfl
theorem vAt_flat {e : Ed} {p : Nat} (hp : p < 10) : (vAt e p).flat 8 = true := by
  rcases ten p hp with rfl | rfl | rfl | rfl | rfl | rfl | rfl | rfl | rfl | rfl
  · rfl
  · rfl
  · exact Sg.mflat _ _
  · rfl
  · exact om_flat _ _
  · rfl
  · rfl
  · rfl
  · show V.flat 8 (.tup (e.rhs.map Sg.m)) = true
    rw [V.flat]; exact flats_map fun g _ => Sg.mflat g _
  · rfl
theorem dueL_len {late : Bool} {L : List Ed} {e : Ed} {ps : List Nat} : (dueL late L e ps).length ≤ L.length := by unfold dueL; exact List.length_filter_le _ _
theorem dueL_step {late : Bool} {L : List Ed} {e : Ed} {ps : List Nat} {j : Nat} {e1 : Ed} (h : L[j]? = some e1) : dueL late (L.take (j + 1)) e ps = dueL late (L.take j) e ps ++ (if (∀ p ∈ ps, veq (vAt e1 p) (vAt e p) = true) ∧ (late = true → e1.hi = e.hi) then [e1] else []) := by
  unfold dueL
  rw [List.take_add_one, h, List.filter_append]
  congr 1
  by_cases z : (∀ p ∈ ps, veq (vAt e1 p) (vAt e p) = true) ∧ (late = true → e1.hi = e.hi)
  · rw [if_pos z]
    show List.filter _ [e1] = [e1]
    rw [List.filter_cons_of_pos (by exact decide_eq_true z)]; rfl
  · rw [if_neg z]
    show List.filter _ [e1] = []
    rw [List.filter_cons_of_neg (by intro q; exact z (of_decide_eq_true q))]; rfl
theorem LSub.keep {l l' : Loc} (h : LSub l l') {x : Str} {v : V} : LSub ((x, v) :: l) ((x, v) :: l') := fun y V e => by
  rw [List.lookup_cons] at e ⊢
  cases hb : y == x with
  | true => rw [hb] at e; exact e
  | false => rw [hb] at e; exact h y V e
theorem LSub.skip {l l' : Loc} (h : LSub l l') {x : Str} {v : V} (hx : l.lookup x = none) : LSub l ((x, v) :: l') := fun y V e => by
  rw [List.lookup_cons]
  cases hb : y == x with
  | true => rw [beq_iff_eq.mp hb, hx] at e; cases e
  | false => exact h y V e
section
variable {c : Cx} {n : Nat} {σ σ₀ : Store} {K : V → Store → Prop} {env : Env} {loc : Loc}
noncomputable abbrev fS (late : Bool) : Addr := if late then 464 else 360
noncomputable def skeys (late : Bool) (ks : List Str) : List Str := if late = true then noEnd ks else ks
theorem x_select (P : Pg c) {late : Bool} {dx : Addr} {l : List V} (hs : σ dx = some (.ns (selfNs late) l)) {pl : Sem Bool} {Q : V × List V → Store → Prop} (q : Q (.val (.ref (fS late)), [.mob (cX late) dx]) σ) : O1 c n (fun v => getMethod v "select" pl) RM (.mob (cX late) dx) σ fun fx σ1 => Kept c fx.1 ∧ Q fx σ1 := by
  cases late
  · exact O_meth_mob (f := 360) (okC P) (by tm_at "K") (by tm_at "K") hs (by decide) ⟨kept_K (by tm_at "K"), q⟩
  · exact O_meth_mob (f := 464) (okI P) (by tm_at "K") (by tm_at "K") hs (by decide) ⟨kept_K (by tm_at "K"), q⟩
theorem f_sel (P : Pg c) {late : Bool} {ad : Adr} {ct : Nm → AO} {Le : List Ed} {M : Mo} {I : List (List Str)} {dx r : Addr} {es : List (Str × V)} {e : Ed} (lay : Lay ad ct σ) (C : CS late ad ct Le M (fun _ => Le) I) (hs : ad .self = some dx) (hI : I.Nodup) (hIl : I.length ≤ 700) (hk : ∀ ks ∈ I, ks.length ≤ 100) (hL : Le.length ≤ 200) (heok : ∀ e ∈ Le, e.ok)
    (hr : σ r = some (.sdict es)) (hra : ∀ m, ad m ≠ some r) (hes : es.length < 64) (hka : ∀ k ∈ es.map (·.1), k ∈ attrs) (hask : ∀ k ∈ es.map (·.1), es.lookup k = some (askV e k)) (hend : late = true → ("end" : Str) ∈ es.map (·.1)) (her : e.rhs.length ≤ 100) (h0 : 0 ≤ e.hi) (h3 : e.hi ≤ 3)
    (q : ∀ v ad' ct' σ' I', Aft late dx ad σ Le M I ad' ct' σ' I' → Sel ad' σ' v ((selL late Le e (skeys late (es.map (·.1)))).map Ed.obj) → K v σ') : OCd c (n + 7) (.val (.ref (fS late))) [.mob (cX late) dx, .ref r] [] [] σ K := by
  cases late
  · exact f_sel_C P lay C hs hI hIl hk hL heok hr hra hes hka hask her q
  · exact f_sel_I P lay C hs hI hIl hk hL heok hr hra hes hka hask (hend rfl) her h0 h3 q
theorem skeys_ok {late : Bool} {e : Ed} {ps : List Nat} {es : List (Str × V)} (A : AskI late e ps es) : ∀ k, (k ∈ skeys late (es.map (·.1)) ∨ (late = true ∧ k = "end")) ↔ ((late = true ∧ k = "end") ∨ ∃ p ∈ ps, k = kAt p) := by
  cases late
  · exact fun k => by show (k ∈ es.map (·.1) ∨ _) ↔ _; rw [A.keys]; simp
  · exact fun k => ⟨fun h => h.elim (fun z => (A.keys k).mp (List.mem_filter.mp z).1) .inl, fun h => (Classical.em (k = ("end" : Str))).elim (fun z => .inr ⟨rfl, z⟩) fun z => .inl (List.mem_filter.mpr ⟨(A.keys k).mpr h, by rw [beq_false_of_ne z]; rfl⟩)⟩
theorem swaps_off {sc : Scope} {elt : Expr} {gens : List Comprehension} {scope : Scope} {pos py : Pos} {y : Str} {line : Nat} (O : EnvOk env sc) (h2 : sc.names.lookup y = some .cell) :
    swapsWith (.ListComp elt gens scope pos) (some (.Name y py)) line env = pure false := by
  have e2 := (O.kind y).trans h2
  show (pure (env.blockKind == .function && env.kindOf y == some .local && py.line == pos.line && !(scope.names.any fun (n, k) => n == y && (k == .local || k == .cell))) : Sem Bool) = pure false
  rw [e2, show ((some NameKind.cell == some NameKind.local) : Bool) = false from rfl, Bool.and_false, Bool.false_and, Bool.false_and]
theorem sel_turns {ad : Adr} {v : V} {l : List Ed} {x : Str} {scope : Scope} {elt : Expr} (hsel : Sel ad σ v (l.map Ed.obj)) (hl : l.length ≤ 1000) (b : Ed → V)
    (step : ∀ C g, g ∈ l → ∀ σ' (K' : V → Store → Prop), K' (b g) σ' → WE c n (compEnvC scope (closL env scope.names []) C env) elt ((x, g.obj) :: inner scope loc) σ' K')
    (q : K (.flst (l.map b)) σ) : Turns c n env loc scope x [] elt v σ K := by
  obtain ⟨L, it, hb⟩ : ∃ L, OIter c n v (l.map Ed.obj) σ L ∧ backS L (lendS L σ) = σ := by
    rcases hsel with rfl | ⟨a, m, rfl, ha, hσ⟩
    · exact ⟨none, Iter_flst _, rfl⟩
    · exact ⟨_, Iter_list hσ, put_del hσ⟩
  refine ⟨_, L, it, by rw [List.length_map]; omega, fun i acc σ' => σ' = lendS L σ ∧ acc = (l.take i).map b, ⟨rfl, rfl⟩, fun C i y acc σ' hy hi => ⟨fun _ => ?_, fun h => by cases h⟩, fun acc σ' hi => ?_⟩
  · obtain ⟨rfl, rfl⟩ := hi
    rw [List.getElem?_map, Option.map_eq_some_iff] at hy
    obtain ⟨g, hg, rfl⟩ := hy
    exact step C g (List.mem_of_getElem? hg) _ _ ⟨rfl, by rw [List.take_add_one, hg]; simp⟩
  · obtain ⟨rfl, rfl⟩ := hi
    rw [List.length_map, List.take_length, hb]
    exact q
theorem f_sign_om (P : Pg c) {g : Option Sg} (hg : ∀ x, g = some x → x.good) (q : K (ov g) σ) : OCd c (n + 3) (.val (.ref 523)) [om g] [] [] σ K := by
  cases g with
  | none => exact f_sign_none P q
  | some x => exact f_sign P (hg x rfl) q
theorem f_selected (P : Pg c) {late : Bool} {ad : Adr} {ct : Nm → AO} {Le : List Ed} {M : Mo} {I : List (List Str)} {dx dm : Addr} {md : List (V × V)} {e : Ed} {bits : Int} (lay : Lay ad ct σ) (C : CS late ad ct Le M (fun _ => Le) I) (hs : ad .self = some dx) (hI : I.Nodup) (hIl : I.length ≤ 700) (hk : ∀ ks ∈ I, ks.length ≤ 100) (hL : Le.length ≤ 200)
    (hg : ∀ e ∈ Le, e.good) (hg0 : ∀ e ∈ Le, 0 ≤ e.hi) (he : e.good) (h0 : 0 ≤ e.hi) (h3 : e.hi ≤ 3) (hm : σ dm = some (.dict md)) (hma : ∀ m, ad m ≠ some dm) (hmd : md.map (·.1) = Le.map Ed.plain)
    (q : ∀ ad' ct' σ' I', Aft late dx ad σ Le M I ad' ct' σ' I' → K (.bool true) σ') : OCd c (n + 10) (.val (.ref 559)) [.mob (cX late) dx, .ref dm, e.plain, .int bits, .bool late] [] [] σ K := by
  refine F_fn (bn := ["chart", "model", "edge", "bits", "late"]) (by rw [P.hK]; rfl) rfl (by rw [P.hK]; rfl) rfl rfl rfl rfl rfl rfl rfl (by decide) (by decide) (fun s kk vs kvs h1 h2 => ?_) fun env O => ?_
  · obtain ⟨v0, v1, v2, v3, v4, rfl⟩ := len5 h1
    obtain ⟨-, rfl⟩ := len0 h2
    exact BindsTo.of_eq rfl
  dsimp only [List.zip_cons_cons, List.zip_nil_left, List.zip_nil_right, List.cons_append, List.nil_append, List.append_nil]
  conv => arg 4; whnf
  tm_at "go"
  refine (f_values P he.1 ?_).oc
  tm_at "go"
  refine WB_acomp O (by tm_at "u") (by tm_at "u") (swaps_on O rfl (by tm_at "u") (by tm_at "u") (by tm_at "u")) (by tm_at "cf") ?_ (fun _ => by tm_at "u")
  tm_at "go"
  refine C_range (m := 10) ?_
  refine filter_turns natV (bitAt bits) (L := none) (r := List.range 10) (Iter_rng (m := 10) (by decide)) rfl (by decide) (fun CC k hkm K' kk => ?_) (fun CC k hkm K' kk => ?_) ?_
  · have hk10 := List.mem_range.mp hkm
    tm_at "go"
    refine (f_bits P ?_).oc
    tm_at "go"
    refine O_item_flst (k := (k : Int)) (Int.natCast_nonneg k) (Nat.le_of_ble_eq_true rfl) (bits_at hk10) ?_ (fun _ _ _ => rfl)
    refine O_div (pow_lt hk10).1 (pow_lt hk10).2 ?_
    tm_at "go"
    rw [veq_int]
    exact kk
  · tm_at "go"
    exact kk
  tm_at "go"
  refine WE_dict (.sdict []) (.inr rfl) fun r hr => ?_
  have rm : dm ≠ r := by rintro rfl; rw [hr] at hm; cases hm
  have hself := lay.has _ _ hs
  have rs : dx ≠ r := by rintro rfl; rw [hr] at hself; cases hself
  have ra : ∀ m, ad m ≠ some r := fun m z => by have := lay.has m r z; rw [hr] at this; cases this
  refine WB_ifJ (fun l s => LSub ([("asked", .ref r), ("places", .flst ((placesL bits).map natV)), ("values", .flst e.values), ("chart", .mob (cX late) dx), ("model", .ref dm), ("edge", e.plain), ("bits", .int bits), ("late", .bool late)] : Loc) l ∧ ∃ es, s = put σ r (.sdict es) ∧ AskI late e [] es) ?_ ?_
  · tm_at "go"
    refine ⟨fun h => ?_, fun h => ?_⟩
    · subst h
      tm_at "go"
      refine O_item_tup (by decide) (Nat.le_of_ble_eq_true rfl) rfl ?_ (fun _ _ _ => rfl)
      tm_at "go"
      refine O_setitem_s (put_self _ _ _) (by decide) ?_
      rw [put_put]
      exact WB_nil ⟨rfl, fun _ _ z => z, _, rfl, AskI.one e⟩
    · subst h
      exact WB_nil ⟨rfl, fun _ _ z => z, [], rfl, AskI.zero e⟩
  rintro l s ⟨hl, es, rfl, A0⟩
  refine WB.forget (loc' := ([("asked", .ref r), ("places", .flst ((placesL bits).map natV)), ("values", .flst e.values), ("chart", .mob (cX late) dx), ("model", .ref dm), ("edge", e.plain), ("bits", .int bits), ("late", .bool late)] : Loc)) (Sub.refl _) hl ?_
  refine WB_for O (by tm_at "u") ?_ (fun _ => by tm_at "u")
  tm_at "go"
  refine ⟨_, none, Iter_flst _, fun j loc' σ' => LSub ([("asked", .ref r), ("places", .flst ((placesL bits).map natV)), ("values", .flst e.values), ("chart", .mob (cX late) dx), ("model", .ref dm), ("edge", e.plain), ("bits", .int bits), ("late", .bool late)] : Loc) loc' ∧ ∃ es, σ' = put σ r (.sdict es) ∧ AskI late e ((placesL bits).take j) es, ⟨fun _ _ z => z, es, rfl, A0⟩, fun j y loc' σ' hj hn hinv => ?_, fun loc' σ' hn hinv => ?_⟩
  · obtain ⟨hl, es1, rfl, A⟩ := hinv
    rw [List.getElem?_map, Option.map_eq_some_iff] at hj
    obtain ⟨p, hp, rfl⟩ := hj
    have hp10 := placesL_lt (List.mem_of_getElem? hp)
    have htk : (placesL bits).take (j + 1) = (placesL bits).take j ++ [p] := by rw [List.take_add_one, hp]; rfl
    have hes1 : es1.length ≤ 1000 := by
      have h1 := A.len
      rw [List.length_take] at h1
      have h2 := @placesL_len bits
      omega
    have A2 := A.step p
    rw [← htk] at A2
    have back : LSub ([("asked", .ref r), ("places", .flst ((placesL bits).map natV)), ("values", .flst e.values), ("chart", .mob (cX late) dx), ("model", .ref dm), ("edge", e.plain), ("bits", .int bits), ("late", .bool late)] : Loc) (("place", .int p) :: ([("asked", .ref r), ("places", .flst ((placesL bits).map natV)), ("values", .flst e.values), ("chart", .mob (cX late) dx), ("model", .ref dm), ("edge", e.plain), ("bits", .int bits), ("late", .bool late)] : Loc)) := LSub.skip (fun _ _ z => z) (by tm_at "u")
    refine WB.forget (loc' := ("place", .int p) :: ([("asked", .ref r), ("places", .flst ((placesL bits).map natV)), ("values", .flst e.values), ("chart", .mob (cX late) dx), ("model", .ref dm), ("edge", e.plain), ("bits", .int bits), ("late", .bool late)] : Loc)) (Sub.refl _) (LSub.keep hl) ?_
    tm_at "go"
    refine ⟨fun h8 => ?_, fun h8 => ?_⟩
    · have e8 : p = 8 := by rw [veq_int] at h8; have := beq_iff_eq.mp h8; omega
      subst e8
      tm_at "go"
      tm_at "comp"
      tm_at "go"
      refine O_item_flst (k := 8) (x := .tup (e.rhs.map Sg.m)) (by decide) (Nat.le_of_ble_eq_true rfl) rfl ?_ (fun _ _ _ => rfl)
      refine map_turns Sg.m Sg.v (.inl rfl) (by have := he.1.2.2; omega) (fun CC g hg' K' kk => ?_) ?_
      · tm_at "go"
        exact (f_sign P (he.2.2 g hg') kk).oc
      tm_at "go"
      refine C_tuple_flst (by rw [List.length_map]; have := he.1.2.2; omega) ?_
      tm_at "go"
      refine O_setitem_s (put_self _ _ _) hes1 ?_
      rw [put_put]
      tm_at "go"
      exact WB_nil ⟨back, _, rfl, A2⟩
    · have e8 : p ≠ 8 := by rintro rfl; rw [veq_int] at h8; exact absurd h8 (by decide)
      tm_at "go"
      by_cases e2 : p = 2
      · subst e2
        refine ⟨fun h => absurd h (by rw [veq_int]; decide), fun _ => ⟨fun _ => ?_, fun h => (by cases h)⟩⟩
        tm_at "go"
        refine O_item_flst (k := 2) (x := e.lhs.m) (by decide) (Nat.le_of_ble_eq_true rfl) rfl ?_ (fun _ _ _ => rfl)
        tm_at "go"
        refine (f_sign P he.2.1 ?_).oc
        tm_at "go"
        refine O_item_flst (k := ((2 : Nat) : Int)) (Int.natCast_nonneg 2) (Nat.le_of_ble_eq_true rfl) (keys_at hp10) ?_ (fun _ _ _ => rfl)
        refine O_setitem_s (put_self _ _ _) hes1 ?_
        rw [put_put]
        tm_at "go"
        exact WB_nil ⟨back, _, rfl, A2⟩
      refine ⟨fun _ => ?_, fun h => absurd h (by rw [veq_int]; intro z; have := beq_iff_eq.mp z; omega)⟩
      tm_at "go"
      by_cases e4 : p = 4
      · subst e4
        refine ⟨fun _ => ?_, fun h => absurd h (by rw [veq_int]; decide)⟩
        tm_at "go"
        refine O_item_flst (k := 4) (x := om e.next) (by decide) (Nat.le_of_ble_eq_true rfl) rfl ?_ (fun _ _ _ => rfl)
        tm_at "go"
        refine (f_sign_om P (fun g hg' => next_good he hg') ?_).oc
        tm_at "go"
        refine O_item_flst (k := ((4 : Nat) : Int)) (Int.natCast_nonneg 4) (Nat.le_of_ble_eq_true rfl) (keys_at hp10) ?_ (fun _ _ _ => rfl)
        refine O_setitem_s (put_self _ _ _) hes1 ?_
        rw [put_put]
        tm_at "go"
        exact WB_nil ⟨back, _, rfl, A2⟩
      · refine ⟨fun h => absurd h (by rw [veq_int]; intro z; have := beq_iff_eq.mp z; omega), fun _ => ?_⟩
        tm_at "go"
        refine O_item_flst (k := (p : Int)) (Int.natCast_nonneg p) (Nat.le_of_ble_eq_true rfl) (vAt_ask hp10 e2 e4 e8) ?_ (fun _ _ _ => rfl)
        tm_at "go"
        refine O_item_flst (k := ((p : Nat) : Int)) (Int.natCast_nonneg p) (Nat.le_of_ble_eq_true rfl) (keys_at hp10) ?_ (fun _ _ _ => rfl)
        refine O_setitem_s (put_self _ _ _) hes1 ?_
        rw [put_put]
        tm_at "go"
        exact WB_nil ⟨back, _, rfl, A2⟩
  · obtain ⟨hl, es1, rfl, A⟩ := hinv
    rw [List.length_map, List.take_length] at A
    have hpl := @placesL_len bits
    have hl1 := A.len
    refine WB.forget (σ' := put σ r (.sdict es1)) (loc' := ([("asked", .ref r), ("places", .flst ((placesL bits).map natV)), ("values", .flst e.values), ("chart", .mob (cX late) dx), ("model", .ref dm), ("edge", e.plain), ("bits", .int bits), ("late", .bool late)] : Loc)) (Sub.refl _) hl ?_
    refine WB_assign O (by tm_at "u") (swaps_off O (by tm_at "u")) ?_
    tm_at "comp"
    tm_at "go"
    intro pl
    have hself1 := (put_ne σ (.sdict es1) rs).trans hself
    rw [C.selfc] at hself1
    unfold selfC at hself1
    refine x_select P hself1 ?_
    tm_at "go"
    have hka : ∀ k ∈ es1.map (·.1), k ∈ attrs := fun k hk' => by
      rcases (A.keys k).mp hk' with ⟨_, z⟩ | ⟨p, hp, z⟩
      · rw [z]; decide
      · rw [z]; exact kAt_attrs (placesL_lt hp)
    refine (f_sel P (e := e) (lay.other hr _) C hs hI hIl hk hL (fun e h => (hg e h).1) (put_self _ _ _) ra (by omega) hka A.look (fun z => (A.keys _).mpr (.inl ⟨z, rfl⟩)) he.1.2.2 h0 h3 fun v ad' ct' σ' I' R hsel => ?_).oc
    have hsm : ∀ g ∈ selL late Le e (skeys late (es1.map (·.1))), g ∈ Le := fun g hg' => by
      unfold selL inB at hg'
      exact (List.mem_filter.mp (List.mem_filter.mp hg').1).1
    have hsl : (selL late Le e (skeys late (es1.map (·.1)))).length ≤ 200 := by
      unfold selL
      exact Nat.le_trans (List.length_filter_le _ _) (Nat.le_trans inB_len hL)
    refine sel_turns hsel (by omega) Ed.plain (fun CC g hg' σ1 K' kk => ?_) ?_
    · tm_at "go"
      exact (f_read P (hg g (hsm g hg')) kk).oc
    generalize hT : (selL late Le e (skeys late (es1.map (·.1)))).map Ed.plain = T
    tm_at "go"
    refine WE_list (WL_nil ⟨by decide, fun u hu => ?_⟩)
    have hm1 := (put_ne σ (.sdict es1) rm).trans hm
    obtain ⟨hm', hma'⟩ := R.fra dm _ hm1 hma
    have um : dm ≠ u := by rintro rfl; rw [hu] at hm'; cases hm'
    refine WB_for O (by tm_at "u") ?_ (fun _ => by tm_at "u")
    tm_at "go"
    have hm2 := (put_ne σ' (.list []) um).trans hm'
    refine ⟨_, some (dm, .dict md), Iter_dict hm2, fun j loc' s => LSub (("due", .ref u) :: ("told", .flst T) :: ([("asked", .ref r), ("places", .flst ((placesL bits).map natV)), ("values", .flst e.values), ("chart", .mob (cX late) dx), ("model", .ref dm), ("edge", e.plain), ("bits", .int bits), ("late", .bool late)] : Loc) : Loc) loc' ∧ s = put (del σ' dm) u (.list ((dueL late (Le.take j) e (placesL bits)).map Ed.plain)), ⟨fun _ _ z => z, ?_⟩, fun j y loc' s hj hn hinv => ?_, fun loc' s hn hinv => ?_⟩
    · show del (put σ' u (.list [])) dm = put (del σ' dm) u (.list [])
      funext m
      unfold del put
      by_cases z1 : m = dm
      · subst z1; simp [um]
      · by_cases z2 : m = u
        · subst z2; simp [z1]
        · simp [z1, z2]
    · obtain ⟨hl, rfl⟩ := hinv
      rw [hmd, List.getElem?_map, Option.map_eq_some_iff] at hj
      obtain ⟨e1, he1, rfl⟩ := hj
      have hg1 := hg e1 (List.mem_of_getElem? he1)
      refine WB.forget (loc' := ("one", e1.plain) :: (("due", .ref u) :: ("told", .flst T) :: ([("asked", .ref r), ("places", .flst ((placesL bits).map natV)), ("values", .flst e.values), ("chart", .mob (cX late) dx), ("model", .ref dm), ("edge", e.plain), ("bits", .int bits), ("late", .bool late)] : Loc) : Loc)) (Sub.refl _) (LSub.keep hl) ?_
      tm_at "go"
      refine (f_values P hg1.1 ?_).oc
      have hdl := @dueL_len late (Le.take j) e (placesL bits)
      rw [List.length_take] at hdl
      have hstep := @dueL_step late Le e (placesL bits) j e1 he1
      have back : LSub (("due", .ref u) :: ("told", .flst T) :: ([("asked", .ref r), ("places", .flst ((placesL bits).map natV)), ("values", .flst e.values), ("chart", .mob (cX late) dx), ("model", .ref dm), ("edge", e.plain), ("bits", .int bits), ("late", .bool late)] : Loc) : Loc) (("theirs", .flst e1.values) :: ("one", e1.plain) :: (("due", .ref u) :: ("told", .flst T) :: ([("asked", .ref r), ("places", .flst ((placesL bits).map natV)), ("values", .flst e.values), ("chart", .mob (cX late) dx), ("model", .ref dm), ("edge", e.plain), ("bits", .int bits), ("late", .bool late)] : Loc) : Loc)) := LSub.skip (LSub.skip (fun _ _ z => z) (by tm_at "u")) (by tm_at "u")
      refine WB_ifJ (fun l s => LSub (("due", .ref u) :: ("told", .flst T) :: ([("asked", .ref r), ("places", .flst ((placesL bits).map natV)), ("values", .flst e.values), ("chart", .mob (cX late) dx), ("model", .ref dm), ("edge", e.plain), ("bits", .int bits), ("late", .bool late)] : Loc) : Loc) l ∧ s = put (del σ' dm) u (.list ((dueL late (Le.take (j + 1)) e (placesL bits)).map Ed.plain))) ?_ (fun l s h => WB_nil h)
      tm_at "go"
      tm_at "comp"
      tm_at "go"
      refine filter_turns natV (fun p => !veq (vAt e1 p) (vAt e p)) (L := none) (r := placesL bits) (Iter_flst _) rfl (by omega) (fun CC p hp K' kk => ?_) (fun CC p hp K' kk => ?_) ?_
      · have hp10 := placesL_lt hp
        tm_at "go"
        refine O_item_flst (k := (p : Int)) (Int.natCast_nonneg p) (Nat.le_of_ble_eq_true rfl) (vAt_at hp10) ?_ (fun _ _ _ => rfl)
        tm_at "go"
        refine O_item_flst (k := (p : Int)) (Int.natCast_nonneg p) (Nat.le_of_ble_eq_true rfl) (vAt_at hp10) ?_ (fun _ _ _ => rfl)
        refine O_ne (vAt_flat hp10) (vAt_flat hp10) ?_
        tm_at "go"
        exact kk
      · tm_at "go"
        exact kk
      tm_at "go"
      refine WE_listF (WL_nil ⟨by decide, ?_⟩)
      refine O_eqF_nil (flats_map (f := natV) fun _ _ => rfl) ?_
      tm_at "go"
      refine ⟨fun hv => ?_, fun hv => ?_⟩
      · have hall : ∀ p ∈ placesL bits, veq (vAt e1 p) (vAt e p) = true := by
          intro p hp
          have h1 : (placesL bits).filter (fun p => !veq (vAt e1 p) (vAt e p)) = [] := by simpa using hv
          have := List.filter_eq_nil_iff.mp h1 p hp
          simpa using this
        tm_at "go"
        refine ⟨fun hL => ?_, fun hL => ⟨fun _ => ?_, fun h => (by cases h)⟩⟩
        · have hL' : late = true := by simpa using hL
          tm_at "go"
          refine O_item_tup (k := 4) (x := .int e1.hi) (by decide) (Nat.le_of_ble_eq_true rfl) rfl ?_ (fun _ _ _ => rfl)
          tm_at "go"
          refine O_item_tup (k := 4) (x := .int e.hi) (by decide) (Nat.le_of_ble_eq_true rfl) rfl ?_ (fun _ _ _ => rfl)
          tm_at "go"
          refine ⟨fun hq => ?_, fun hq => ?_⟩
          · tm_at "drop"
            tm_at "go"
            intro pl
            refine O_bm_list (put_self _ _ _) ?_
            tm_at "go"
            refine C_append (put_self _ _ _) (by rw [List.length_map]; omega) ?_
            rw [put_put]
            refine WB_nil ⟨rfl, back, ?_⟩
            rw [hstep, if_pos ⟨hall, fun _ => beq_iff_eq.mp (veq_int ▸ hq)⟩, List.map_append]
            rfl
          · refine WB_nil ⟨rfl, back, ?_⟩
            rw [hstep, if_neg, List.append_nil]
            rintro ⟨-, z⟩
            rw [veq_int, z hL'] at hq
            simp at hq
        · tm_at "drop"
          tm_at "go"
          intro pl
          refine O_bm_list (put_self _ _ _) ?_
          tm_at "go"
          refine C_append (put_self _ _ _) (by rw [List.length_map]; omega) ?_
          rw [put_put]
          refine WB_nil ⟨rfl, back, ?_⟩
          rw [hstep, if_pos ⟨hall, fun z => by rw [z] at hL; cases hL⟩, List.map_append]
          rfl
      · refine ⟨fun h => (by cases h), fun _ => WB_nil ⟨rfl, back, ?_⟩⟩
        rw [hstep, if_neg, List.append_nil]
        rintro ⟨z, -⟩
        have h1 : (placesL bits).filter (fun p => !veq (vAt e1 p) (vAt e p)) = [] := by
          rw [List.filter_eq_nil_iff]
          intro p hp
          rw [z p hp]; decide
        rw [h1] at hv
        cases hv
    · obtain ⟨hl, rfl⟩ := hinv
      have hln : (md.map (·.1)).length = Le.length := by rw [hmd, List.length_map]
      have hst : backS (some (dm, AO.dict md)) (put (del σ' dm) u (.list ((dueL late (Le.take (md.map (·.1)).length) e (placesL bits)).map Ed.plain))) = put σ' u (.list ((dueL late Le e (placesL bits)).map Ed.plain)) := by
        rw [hln, List.take_length]
        show put (put (del σ' dm) u _) dm (.dict md) = _
        rw [put_swap um.symm, put_del hm']
      rw [hst]
      have hsd : selL late Le e (skeys late (es1.map (·.1))) = dueL late Le e (placesL bits) := sel_due he hg h0 hg0 (fun p hp => placesL_lt hp) (skeys_ok A)
      have hdl := @dueL_len late Le e (placesL bits)
      have hdm : ∀ g ∈ dueL late Le e (placesL bits), g ∈ Le := fun g hg' => by unfold dueL at hg'; exact (List.mem_filter.mp hg').1
      rw [hsd] at hT
      refine WB.forget (σ' := put σ' u (.list ((dueL late Le e (placesL bits)).map Ed.plain))) (loc' := (("due", .ref u) :: ("told", .flst T) :: ([("asked", .ref r), ("places", .flst ((placesL bits).map natV)), ("values", .flst e.values), ("chart", .mob (cX late) dx), ("model", .ref dm), ("edge", e.plain), ("bits", .int bits), ("late", .bool late)] : Loc) : Loc)) (Sub.refl _) hl ?_
      tm_at "go"
      refine C_len_flst (by rw [← hT, List.length_map]; omega) ?_
      tm_at "go"
      refine C_len_list (put_self _ _ _) (by rw [List.length_map]; omega) ?_
      tm_at "go"
      have hlen : veq (V.int T.length) (V.int ((dueL late Le e (placesL bits)).map Ed.plain).length) = true := by rw [hT, veq_int]; simp
      refine ⟨fun _ => ?_, fun h => absurd h (by rw [hlen]; decide)⟩
      tm_at "go"
      tm_at "comp"
      tm_at "go"
      refine filter_turns Ed.plain (fun g => !T.any fun y => veq y g.plain) (L := some (u, _)) (Iter_list (put_self _ _ _)) (put_del (put_self _ _ _)) (by omega) (fun CC g hg' K' kk => ?_) (fun CC g hg' K' kk => ?_) ?_
      · tm_at "go"
        refine O_notIn_flst (by rw [← hT]; exact flats_map fun g _ => V.flat_mono 2 8 _ (by decide) (Ed.plain_flat g)) (V.flat_mono 2 8 _ (by decide) (Ed.plain_flat g)) ?_
        tm_at "go"
        exact kk
      · tm_at "go"
        exact kk
      have hnil : (dueL late Le e (placesL bits)).filter (fun g => !T.any fun y => veq y g.plain) = [] := by
        rw [List.filter_eq_nil_iff]
        intro g hg' z
        have : (T.any fun y => veq y g.plain) = true := by
          rw [← hT, List.any_eq_true]
          exact ⟨g.plain, List.mem_map.mpr ⟨g, hg', rfl⟩, (veq_plain (hg g (hdm g hg')) (hg g (hdm g hg'))).mpr rfl⟩
        rw [this] at z
        cases z
      rw [hnil]
      tm_at "go"
      refine WE_listF (WL_nil ⟨by decide, ?_⟩)
      refine O_eqF_nil rfl ?_
      exact q ad' ct' _ I' ⟨R.lay.other hu _, R.cs, R.slf, (Fra.other hr _).trans (R.fra.trans (Fra.other hu _)), R.nd, R.len, R.kl⟩
end
end
section
open Classical
noncomputable def pick (L : List Ed) (z : Int) : Option Ed := L[(z % (L.length : Int)).toNat]?
noncomputable def oneV : Option Ed → V
  | none => .none
  | some e => e.plain
theorem pick_nil (z : Int) : pick [] z = none := rfl
theorem pick_at {L : List Ed} (h : L ≠ []) (z : Int) : 0 < (L.length : Int) ∧ 0 ≤ z % (L.length : Int) ∧ ∃ e, pick L z = some e ∧ e ∈ L := by
  have h0 : 0 < L.length := List.length_pos_iff.mpr h
  have h1 : 0 < (L.length : Int) := by omega
  have h2 := Int.emod_nonneg z (b := (L.length : Int)) (by omega)
  have h3 := Int.emod_lt_of_pos z h1
  have h4 : (z % (L.length : Int)).toNat < L.length := by omega
  exact ⟨h1, h2, _, List.getElem?_eq_getElem h4, List.getElem_mem h4⟩
structure Fine (e : Ed) : Prop where
  good : e.good
  lo : 0 ≤ e.lo
  le : e.lo ≤ e.hi
  hi : e.hi ≤ 3
theorem body_good (i : Int) : ∀ g ∈ bodyOf i, g.good := by
  unfold bodyOf
  intro g hg
  split at hg
  · cases hg
  · split at hg
    · rcases List.mem_cons.mp hg with rfl | hg
      · trivial
      · rw [List.mem_singleton.mp hg]; exact .inl rfl
    · split at hg
      · rw [List.mem_singleton.mp hg]; exact .inr rfl
      · rcases List.mem_cons.mp hg with rfl | hg
        · exact .inl rfl
        · rw [List.mem_singleton.mp hg]; trivial
theorem draw_fine (z : Int) : Fine (draw z) := by
  unfold draw
  have a0 := Int.emod_nonneg (z / 4 / 5) (b := 4) (by decide)
  have a1 := Int.emod_lt_of_pos (z / 4 / 5) (b := 4) (by decide)
  split
  · rename_i h
    refine ⟨⟨⟨?_, ?_, ?_⟩, trivial, fun g hg => by cases hg⟩, a0, ?_, ?_⟩
    · exact Int.le_refl 0
    · exact Int.le_refl 0
    · exact Nat.zero_le _
    · show z / 4 / 5 % 4 ≤ z / 4 / 5 % 4 + 1
      omega
    · show z / 4 / 5 % 4 + 1 ≤ 3
      omega
  · have hb := bodyOf_len (z / 4 / 160 % 4)
    generalize hB : bodyOf (z / 4 / 160 % 4) = B at hb
    have d0 := Int.emod_nonneg (z / 4 / 640) (b := (B.length : Int) + 1) (by omega)
    have d1 := Int.emod_lt_of_pos (z / 4 / 640) (b := (B.length : Int) + 1) (by omega)
    have c0 := Int.emod_nonneg (z / 4 / 20) (b := 4 - z / 4 / 5 % 4) (by omega)
    have c1 := Int.emod_lt_of_pos (z / 4 / 20) (b := 4 - z / 4 / 5 % 4) (by omega)
    refine ⟨⟨⟨d0, ?_, ?_⟩, ?_, ?_⟩, a0, ?_, ?_⟩
    · show z / 4 / 640 % ((B.length : Int) + 1) ≤ (B.length : Int)
      omega
    · show B.length ≤ 100
      omega
    · show Sg.good (if z / 4 / 80 % 2 = 0 then .n "x" else .n "S")
      split
      · exact .inl rfl
      · exact .inr rfl
    · show ∀ g ∈ B, g.good
      rw [← hB]
      exact body_good _
    · show z / 4 / 5 % 4 ≤ z / 4 / 5 % 4 + z / 4 / 20 % (4 - z / 4 / 5 % 4)
      omega
    · show z / 4 / 5 % 4 + z / 4 / 20 % (4 - z / 4 / 5 % 4) ≤ 3
      omega
theorem move_fine {l : Sg} {r : List Sg} {lo hi d : Int} {f : Ed} (h : Fine (.tree l r lo hi d)) (hf : Fine f) (hd : d < r.length) (hj : f.lo = hi) : Fine (.tree l r lo f.hi (d + 1)) := by
  obtain ⟨⟨⟨g1, g2, g3⟩, g4, g5⟩, h2, h3, h4⟩ := h
  obtain ⟨-, f2, f3, f4⟩ := hf
  change 0 ≤ d at g1
  change lo ≤ hi at h3
  refine ⟨⟨⟨?_, ?_, g3⟩, g4, g5⟩, h2, ?_, f4⟩
  · show 0 ≤ d + 1
    omega
  · show d + 1 ≤ r.length
    omega
  · show lo ≤ f.hi
    omega

noncomputable def mdl (M : Mo) : List (V × V) := M.map fun m => (m.1.plain, .flst (m.2.map rowP))
theorem mdl_fst (M : Mo) : (mdl M).map (·.1) = (M.map (·.1)).map Ed.plain := by unfold mdl; rw [List.map_map, List.map_map]; rfl
theorem mdl_len (M : Mo) : (mdl M).length = M.length := by unfold mdl; rw [List.length_map]
theorem mdl_key {M : Mo} {e : Ed} (hM : ∀ m ∈ M, m.1.good) (he : e.good) : ∀ m ∈ M, veq m.1.plain e.plain = decide (m.1 = e) := fun m hm => by
  rw [Bool.eq_iff_iff, veq_plain (hM m hm) he, decide_eq_true_iff]
theorem mdl_get {M : Mo} {e : Ed} (hM : ∀ m ∈ M, m.1.good) (he : e.good) : dget (mdl M) e.plain = (M.find? fun m => decide (m.1 = e)).map fun m => .flst (m.2.map rowP) := dget_find (mdl_key hM he)
theorem mdl_getD {M : Mo} {e : Ed} (hM : ∀ m ∈ M, m.1.good) (he : e.good) : (dget (mdl M) e.plain).getD (.flst []) = .flst ((oldR M e).map rowP) := by
  rw [mdl_get hM he]
  unfold oldR
  cases M.find? fun m => decide (m.1 = e) <;> rfl
theorem mdl_at {M : Mo} {e : Ed} {rows : List (List Ed)} (hM : ∀ m ∈ M, m.1.good) (hn : (M.map (·.1)).Nodup) (hm : (e, rows) ∈ M) : dget (mdl M) e.plain = some (.flst (rows.map rowP)) := by
  rw [mdl_get hM (hM _ hm)]
  have h1 := oldR_at hn hm
  have h2 : (M.find? fun m => decide (m.1 = e)).isSome = true := by
    rw [find_isSome]; exact decide_eq_true (List.mem_map.mpr ⟨_, hm, rfl⟩)
  obtain ⟨m, hf⟩ := Option.isSome_iff_exists.mp h2
  unfold oldR at h1
  rw [hf] at h1 ⊢
  have : m.2 = rows := h1
  rw [← this]; rfl
theorem mdl_put {M : Mo} {e : Ed} {rows : List (List Ed)} (hM : ∀ m ∈ M, m.1.good) (he : e.good) (hn : (M.map (·.1)).Nodup) : dput (mdl M) e.plain (.flst (rows.map rowP)) = mdl (setRows (base M e) e rows) := by
  unfold base
  by_cases h : e ∈ M.map (·.1)
  · rw [if_pos h]
    have h2 : (M.find? fun m => decide (m.1 = e)).isSome = true := by rw [find_isSome]; exact decide_eq_true h
    obtain ⟨m, hf⟩ := Option.isSome_iff_exists.mp h2
    unfold mdl
    rw [dput_map (mdl_key hM he) hf]
    · unfold setRows
      rw [List.map_map]
      apply List.map_congr_left
      intro m _
      show (m.1.plain, if decide (m.1 = e) = true then V.flst (rows.map rowP) else .flst (m.2.map rowP)) = ((if m.1 = e then (m.1, rows) else m).1.plain, V.flst ((if m.1 = e then (m.1, rows) else m).2.map rowP))
      by_cases z : m.1 = e
      · rw [if_pos z, if_pos (decide_eq_true z)]
      · rw [if_neg z, if_neg (by simpa using z)]
    · have := List.pairwise_map.mp hn
      exact this.imp fun hab ha => by
        have := of_decide_eq_true ha
        exact decide_eq_false fun z => hab (this.trans z.symm)
  · rw [if_neg h, dput_new]
    · unfold mdl setRows
      rw [List.map_append, List.map_append]
      congr 1
      · rw [List.map_map]
        apply List.map_congr_left
        intro m hm
        have : ¬ m.1 = e := fun z => h (z ▸ List.mem_map.mpr ⟨m, hm, rfl⟩)
        show _ = ((if m.1 = e then (m.1, rows) else m).1.plain, V.flst ((if m.1 = e then (m.1, rows) else m).2.map rowP))
        rw [if_neg this]
      · show [_] = [((if e = e then (e, rows) else (e, [])).1.plain, V.flst ((if e = e then (e, rows) else (e, [])).2.map rowP))]
        rw [if_pos rfl]
    · rw [mdl_get hM he]
      have h2 : (M.find? fun m => decide (m.1 = e)).isSome = false := by rw [find_isSome]; exact decide_eq_false h
      rw [Option.isSome_eq_false_iff, Option.isNone_iff_eq_none] at h2
      rw [h2]; rfl
structure MO (j : Nat) (M : Mo) : Prop where
  nd : (M.map (·.1)).Nodup
  len : M.length ≤ j
  fine : ∀ m ∈ M, Fine m.1
  rnd : ∀ m ∈ M, m.2.Nodup
  rlen : ∀ m ∈ M, m.2.length ≤ 2 ^ (j + 1)
  rok : ∀ m ∈ M, ∀ r ∈ m.2, r.length ≤ j + 1 ∧ ∀ e ∈ r, e.good
theorem MO.zero : MO 0 [] := ⟨List.nodup_nil, Nat.le_refl _, fun _ h => (by cases h), fun _ h => (by cases h), fun _ h => (by cases h), fun _ h => (by cases h)⟩
theorem MO.succ {j : Nat} {M : Mo} (x : MO j M) : MO (j + 1) M := ⟨x.nd, Nat.le_succ_of_le x.len, x.fine, x.rnd, fun m hm => Nat.le_trans (x.rlen m hm) (Nat.pow_le_pow_right (by decide) (Nat.le_succ _)), fun m hm r hr => ⟨Nat.le_succ_of_le (x.rok m hm r hr).1, (x.rok m hm r hr).2⟩⟩
theorem MO.good {j : Nat} {M : Mo} (x : MO j M) : ∀ m ∈ M, m.1.good := fun m hm => (x.fine m hm).good
structure RO (j : Nat) (R : List (List Ed)) : Prop where
  nd : R.Nodup
  len : R.length ≤ 2 ^ (j + 1)
  ok : ∀ r ∈ R, r.length ≤ j + 2 ∧ ∀ e ∈ r, e.good
theorem oldR_mem {M : Mo} {e : Ed} {r : List Ed} (h : r ∈ oldR M e) : ∃ m ∈ M, m.1 = e ∧ oldR M e = m.2 := by
  unfold oldR at h ⊢
  cases hf : M.find? fun m => decide (m.1 = e) with
  | none => rw [hf] at h; cases h
  | some m =>
    have h1 : decide (m.1 = e) = true := @List.find?_some _ (fun m : Ed × List (List Ed) => decide (m.1 = e)) _ _ hf
    exact ⟨m, List.mem_of_find?_eq_some hf, of_decide_eq_true h1, rfl⟩
theorem MO.old {j : Nat} {M : Mo} (x : MO j M) (e : Ed) : (oldR M e).Nodup ∧ (oldR M e).length ≤ 2 ^ (j + 1) ∧ ∀ r ∈ oldR M e, r.length ≤ j + 1 ∧ ∀ e ∈ r, e.good := by
  cases h : oldR M e with
  | nil => exact ⟨List.nodup_nil, Nat.zero_le _, fun _ h => by cases h⟩
  | cons r t =>
    obtain ⟨m, hm, _, hq⟩ := oldR_mem (M := M) (e := e) (r := r) (by rw [h]; exact .head _)
    rw [← h, hq]
    exact ⟨x.rnd m hm, x.rlen m hm, x.rok m hm⟩
theorem MO.ins {j : Nat} {M : Mo} (x : MO j M) {e : Ed} {R : List (List Ed)} (he : Fine e) (hR : RO j R) : MO (j + 1) (insM M e R) := by
  have o := x.old e
  have hw := insM_fst M e R
  have mem : ∀ m ∈ insM M e R, (m.1 = e ∧ m.2 = oldR M e ++ newR M e R) ∨ m ∈ M := by
    intro m hm
    unfold insM at hm
    rcases mem_setRows hm with ⟨h1, h2, _⟩ | ⟨h1, h2⟩
    · exact .inl ⟨h1, h2⟩
    · refine .inr ?_
      unfold base at h2
      split at h2
      · exact h2
      · rcases List.mem_append.mp h2 with q | q
        · exact q
        · rw [List.mem_singleton.mp q] at h1; exact absurd rfl h1
  have y := x.succ
  have p2 : 2 ^ (j + 2) = 2 ^ (j + 1) + 2 ^ (j + 1) := by rw [Nat.pow_succ 2 (j + 1)]; omega
  refine ⟨?_, ?_, fun m hm => ?_, fun m hm => ?_, fun m hm => ?_, fun m hm => ?_⟩
  · rw [hw]
    unfold withE
    split
    · exact x.nd
    · rename_i h
      refine List.nodup_append.mpr ⟨x.nd, by simp, fun a ha b hb => ?_⟩
      rw [List.mem_singleton.mp hb]
      rintro rfl
      exact h ha
  · have := congrArg List.length hw
    rw [List.length_map] at this
    rw [this]
    have := x.len
    unfold withE
    split
    · rw [List.length_map]; omega
    · rw [List.length_append, List.length_map, List.length_singleton]; omega
  · rcases mem m hm with ⟨h1, _⟩ | h
    · rw [h1]; exact he
    · exact x.fine m h
  · rcases mem m hm with ⟨_, h2⟩ | h
    · rw [h2]
      refine List.nodup_append.mpr ⟨o.1, ?_, fun a ha b hb => ?_⟩
      · unfold newR; exact hR.nd.filter _
      · rintro rfl
        unfold newR at hb
        exact of_decide_eq_true (List.mem_filter.mp hb).2 ha
    · exact x.rnd m h
  · rcases mem m hm with ⟨_, h2⟩ | h
    · rw [h2, List.length_append]
      have h1 := @newR_le M e R
      have h2 := o.2.1
      have h3 := hR.len
      rw [p2]; omega
    · exact y.rlen m h
  · rcases mem m hm with ⟨_, h2⟩ | h
    · rw [h2]
      intro r hr
      rcases List.mem_append.mp hr with q | q
      · exact ⟨Nat.le_succ_of_le (o.2.2 r q).1, (o.2.2 r q).2⟩
      · unfold newR at q
        exact hR.ok r (List.mem_filter.mp q).1
    · exact y.rok m h
noncomputable def EL (late : Bool) (Le : List Ed) : List Ed := if late = true then ([0, 1, 2, 3].map (inB true Le)).flatten else Le
theorem four : ∀ k < 4, k = 0 ∨ k = 1 ∨ k = 2 ∨ k = 3 := by decide
theorem inB_split (Le : List Ed) (h : ∀ e ∈ Le, 0 ≤ e.hi ∧ e.hi ≤ 3) : (inB true Le 0).length + (inB true Le 1).length + (inB true Le 2).length + (inB true Le 3).length = Le.length := by
  induction Le with
  | nil => rfl
  | cons e r ih =>
    have ih := ih fun x hx => h x (.tail _ hx)
    have he := h e (.head _)
    have hb : bk true e = e.hi.toNat := rfl
    unfold inB at ih ⊢
    simp only [List.filter_cons, hb, List.length_cons]
    have h4 : e.hi.toNat < 4 := by omega
    generalize e.hi.toNat = k at h4
    rw [← ih]
    rcases four k h4 with rfl | rfl | rfl | rfl
    · show ((List.filter _ r).length + 1) + (List.filter _ r).length + (List.filter _ r).length + (List.filter _ r).length = _; omega
    · show (List.filter _ r).length + ((List.filter _ r).length + 1) + (List.filter _ r).length + (List.filter _ r).length = _; omega
    · show (List.filter _ r).length + (List.filter _ r).length + ((List.filter _ r).length + 1) + (List.filter _ r).length = _; omega
    · show (List.filter _ r).length + (List.filter _ r).length + (List.filter _ r).length + ((List.filter _ r).length + 1) = _; omega
theorem EL_len {late : Bool} {Le : List Ed} (h : ∀ e ∈ Le, 0 ≤ e.hi ∧ e.hi ≤ 3) : (EL late Le).length = Le.length := by
  unfold EL
  split
  · rw [← inB_split Le h]
    simp
    omega
  · rfl
theorem EL_mem {late : Bool} {Le : List Ed} (h : ∀ e ∈ Le, 0 ≤ e.hi ∧ e.hi ≤ 3) {e : Ed} : e ∈ EL late Le ↔ e ∈ Le := by
  unfold EL
  split
  · rw [List.mem_flatten]
    constructor
    · rintro ⟨l, hl, he⟩
      obtain ⟨i, _, rfl⟩ := List.mem_map.mp hl
      unfold inB at he
      exact (List.mem_filter.mp he).1
    · intro he
      have hh := h e he
      refine ⟨inB true Le e.hi.toNat, List.mem_map.mpr ⟨e.hi.toNat, ?_, rfl⟩, ?_⟩
      · exact List.mem_of_getElem? (i := e.hi.toNat) (by rcases four e.hi.toNat (by omega) with z | z | z | z <;> rw [z] <;> rfl)
      · unfold inB
        exact List.mem_filter.mpr ⟨he, decide_eq_true rfl⟩
  · rfl
end
section
open Classical
noncomputable abbrev fE (late : Bool) : Addr := if late then 454 else 341
structure ST (late : Bool) (dx dm : Addr) (j : Nat) (N M : Mo) (ad : Adr) (ct : Nm → AO) (I : List (List Str)) (σ : Store) : Prop where
  lay : Lay ad ct σ
  cs : CS late ad ct (N.map (·.1)) N (fun _ => N.map (·.1)) I
  slf : ad .self = some dx
  nd : I.Nodup
  len : I.length ≤ j
  kl : ∀ ks ∈ I, ks.length ≤ 100
  hm : σ dm = some (.dict (mdl M))
  hma : ∀ m, ad m ≠ some dm
theorem ST.slfC {late : Bool} {dx dm : Addr} {j : Nat} {N M : Mo} {ad : Adr} {ct : Nm → AO} {I : List (List Str)} {σ : Store} (S : ST late dx dm j N M ad ct I σ) : ∃ l, σ dx = some (.ns (selfNs late) l) := by
  have h := S.lay.has _ _ S.slf
  rw [S.cs.selfc] at h
  unfold selfC at h
  exact ⟨_, h⟩
theorem pow_b {j : Nat} (h : j ≤ 6) : 2 ^ (j + 1) ≤ 128 := Nat.le_trans (Nat.pow_le_pow_right (by decide) (Nat.succ_le_succ h)) (by decide)
section
variable {c : Cx} {n : Nat} {σ σ₀ : Store} {env : Env} {loc : Loc} {late : Bool} {dx dm : Addr} {j : Nat} {N M : Mo} {ad : Adr} {ct : Nm → AO} {I : List (List Str)}
theorem x_insert (P : Pg c) (S : ST late dx dm j N M ad ct I σ) {pl : Sem Bool} {K : V × List V → Store → Prop} (q : K (.val (.ref 380), [.mob (cX late) dx]) σ) : O1 c n (fun v => getMethod v "insert" pl) RM (.mob (cX late) dx) σ K := by
  obtain ⟨l, hs⟩ := S.slfC
  cases late
  · exact O_meth_mob (f := 380) (okC P) (by tm_at "K") (by tm_at "K") hs (by decide) q
  · exact O_meth_mob (f := 380) (okI P) (by tm_at "K") (by tm_at "K") hs (by decide) q
theorem x_insertb (P : Pg c) (S : ST late dx dm j N M ad ct I σ) {pl : Sem Bool} {K : V × List V → Store → Prop} (q : K (.val (.ref 375), [.mob (cX late) dx]) σ) : O1 c n (fun v => getMethod v "insert_with_backpointer" pl) RM (.mob (cX late) dx) σ K := by
  obtain ⟨l, hs⟩ := S.slfC
  cases late
  · exact O_meth_mob (f := 375) (okC P) (by tm_at "K") (by tm_at "K") hs (by decide) q
  · exact O_meth_mob (f := 375) (okI P) (by tm_at "K") (by tm_at "K") hs (by decide) q
theorem x_nume (P : Pg c) (S : ST late dx dm j N M ad ct I σ) {pl : Sem Bool} {K : V × List V → Store → Prop} (q : K (.val (.ref 355), [.mob (cX late) dx]) σ) : O1 c n (fun v => getMethod v "num_edges" pl) RM (.mob (cX late) dx) σ K := by
  obtain ⟨l, hs⟩ := S.slfC
  cases late
  · exact O_meth_mob (f := 355) (okC P) (by tm_at "K") (by tm_at "K") hs (by decide) q
  · exact O_meth_mob (f := 355) (okI P) (by tm_at "K") (by tm_at "K") hs (by decide) q
theorem x_cpls (P : Pg c) (S : ST late dx dm j N M ad ct I σ) {pl : Sem Bool} {K : V × List V → Store → Prop} (q : K (.val (.ref 415), [.mob (cX late) dx]) σ) : O1 c n (fun v => getMethod v "child_pointer_lists" pl) RM (.mob (cX late) dx) σ K := by
  obtain ⟨l, hs⟩ := S.slfC
  cases late
  · exact O_meth_mob (f := 415) (okC P) (by tm_at "K") (by tm_at "K") hs (by decide) q
  · exact O_meth_mob (f := 415) (okI P) (by tm_at "K") (by tm_at "K") hs (by decide) q
theorem x_edges (P : Pg c) (S : ST late dx dm j N M ad ct I σ) (hN : MO 6 N) {pos : Pos} {K : V → Store → Prop} (q : K (.flst ((EL late (N.map (·.1))).map Ed.obj)) σ) :
    ∀ pl, O1 c (n + 3) (fun v => getMethod v "edges" pl) RM (.mob (cX late) dx) σ fun fx σ1 => Kept c fx.1 ∧ WL c (n + 3) env pos [] loc σ1 fun vs σ2 => OC c (n + 3) fx.1 (fx.2 ++ vs) [] [] σ2 K := by
  intro pl
  obtain ⟨l, hs⟩ := S.slfC
  have hl : (N.map (·.1)).length ≤ 200 := by rw [List.length_map]; have := hN.len; omega
  cases late
  · refine O_meth_mob (f := 341) (okC P) (by tm_at "K") (by tm_at "K") hs (by decide) ?_
    tm_at "go"
    exact (f_edges_C P S.lay S.cs S.slf (by omega) q).oc
  · refine O_meth_mob (f := 454) (okI P) (by tm_at "K") (by tm_at "K") hs (by decide) ?_
    tm_at "go"
    exact (f_edges_I P S.lay S.cs S.slf hl q).oc
theorem x_num (P : Pg c) (S : ST late dx dm j N M ad ct I σ) (hN : MO 6 N) {K : V → Store → Prop} (q : K (.int N.length) σ) : OCd c (n + 2) (.val (.ref 355)) [.mob (cX late) dx] [] [] σ K := by
  have hl : N.length ≤ 900 := by have := hN.len; omega
  exact f_num P S.lay S.cs S.slf hl q
theorem x_cpl (P : Pg c) (S : ST late dx dm j N M ad ct I σ) (hN : MO 6 N) {e : Ed} {rows : List (List Ed)} (hm : (e, rows) ∈ N) {K : V → Store → Prop} (q : K (.flst (rows.map fun r => .tup (r.map Ed.obj))) σ) : OCd c (n + 2) (.val (.ref 415)) [.mob (cX late) dx, e.obj] [] [] σ K := by
  have hl : rows.length ≤ 900 := Nat.le_trans (hN.rlen _ hm) (Nat.le_trans (pow_b (Nat.le_refl 6)) (by decide))
  exact f_cpl P S.lay S.cs S.slf hN.nd hm hl q
theorem ST.next {ad' : Adr} {ct' : Nm → AO} {σ' : Store} {N' : Mo} (S : ST late dx dm j N M ad ct I σ) (l : Lay ad' ct' σ') (C : CS late ad' ct' (N'.map (·.1)) N' (fun _ => N'.map (·.1)) I) (hs : ad' .self = some dx) (fr : Fra ad ad' σ σ') : ST late dx dm j N' M ad' ct' I σ' :=
  ⟨l, C, hs, S.nd, S.len, S.kl, (fr dm _ S.hm S.hma).1, (fr dm _ S.hm S.hma).2⟩
theorem x_ins (P : Pg c) (S : ST late dx dm j M M ad ct I σ) (hM : MO j M) (hj : j ≤ 6) {e : Ed} (he : Fine e) {R : List (List Ed)} (hR : RO j R) {K : V → Store → Prop}
    (q : ∀ ad' ct' σ', ST late dx dm j (insM M e R) M ad' ct' I σ' → K (.bool (!(newR M e R).isEmpty)) σ') : OCd c (n + 7) (.val (.ref 380)) [.mob (cX late) dx, e.obj, .flst (R.map fun r => .tup (r.map Ed.obj))] [] [] σ K := by
  have b := pow_b hj
  have hl : M.length ≤ 800 := by have := hM.len; omega
  have h0 : 0 ≤ e.hi := Int.le_trans he.lo he.le
  have hrl : R.length ≤ 200 := by have := hR.len; omega
  have hrr : ∀ r ∈ R, r.length ≤ 100 := fun r hr => by have := (hR.ok r hr).1; omega
  have hol : (oldR M e).length ≤ 700 := by have := (hM.old e).2.1; omega
  exact f_ins P S.lay S.cs S.slf S.nd S.kl hM.nd hl he.good.1 h0 he.hi hR.nd hrl hrr hol fun ad' ct' σ' l C hs fr => q _ _ _ (S.next l C hs fr)
theorem x_iwb (P : Pg c) (S : ST late dx dm j M M ad ct I σ) (hM : MO j M) (hj : j ≤ 6) {e pe ce : Ed} (he : Fine e) {prows : List (List Ed)} (hm : (pe, prows) ∈ M) {K : V → Store → Prop}
    (q : ∀ ad' ct' σ', ST late dx dm j (insM M e (prows.map fun r => r ++ [ce])) M ad' ct' I σ' → K (.bool (!(newR M e (prows.map fun r => r ++ [ce])).isEmpty)) σ') : OCd c (n + 8) (.val (.ref 375)) [.mob (cX late) dx, e.obj, pe.obj, ce.obj] [] [] σ K := by
  have b := pow_b hj
  have hl : M.length ≤ 800 := by have := hM.len; omega
  have h0 : 0 ≤ e.hi := Int.le_trans he.lo he.le
  have hrl : prows.length ≤ 200 := Nat.le_trans (hM.rlen _ hm) (by omega)
  have hrr : ∀ r ∈ prows, r.length ≤ 99 := fun r hr => by have := (hM.rok _ hm r hr).1; omega
  have hol : (oldR M e).length ≤ 700 := by have := (hM.old e).2.1; omega
  exact f_iwb P S.lay S.cs S.slf S.nd S.kl hM.nd hl he.good.1 h0 he.hi hm (hM.rnd _ hm) hrl hrr hol fun ad' ct' σ' l C hs fr => q _ _ _ (S.next l C hs fr)
theorem x_sel (P : Pg c) (S : ST late dx dm j M M ad ct I σ) (hM : MO j M) (hj : j ≤ 6) {e : Ed} (he : Fine e) {bits : Int} {K : V → Store → Prop}
    (q : ∀ ad' ct' σ' I', ST late dx dm (j + 1) M M ad' ct' I' σ' → K (.bool true) σ') : OCd c (n + 10) (.val (.ref 559)) [.mob (cX late) dx, .ref dm, e.plain, .int bits, .bool late] [] [] σ K := by
  have hl : (M.map (·.1)).length ≤ 200 := by rw [List.length_map]; have := hM.len; omega
  have hil : I.length ≤ 700 := by have := S.len; omega
  have hg : ∀ e ∈ M.map (·.1), e.good := fun e h => by obtain ⟨m, hm, rfl⟩ := List.mem_map.mp h; exact hM.good m hm
  have hg0 : ∀ e ∈ M.map (·.1), 0 ≤ e.hi := fun e h => by obtain ⟨m, hm, rfl⟩ := List.mem_map.mp h; exact Int.le_trans (hM.fine m hm).lo (hM.fine m hm).le
  have h0 : 0 ≤ e.hi := Int.le_trans he.lo he.le
  have fin : ∀ ad' ct' σ' I', Aft late dx ad σ (M.map (·.1)) M I ad' ct' σ' I' → K (.bool true) σ' := fun ad' ct' σ' I' R => q _ _ _ _ ⟨R.lay, R.cs, R.slf, R.nd, Nat.le_trans R.len (Nat.succ_le_succ S.len), R.kl, (R.fra dm _ S.hm S.hma).1, (R.fra dm _ S.hm S.hma).2⟩
  exact f_selected P S.lay S.cs S.slf S.nd hil S.kl hl hg hg0 he.good h0 he.hi S.hm S.hma (mdl_fst M) fin
end
end
section
open Classical
theorem MO.up {j k : Nat} {M : Mo} (x : MO j M) (h : j ≤ k) : MO k M := by
  obtain ⟨d, rfl⟩ := Nat.exists_eq_add_of_le h
  clear h
  induction d with
  | zero => exact x
  | succ d ih => exact ih.succ
theorem RO.one (j : Nat) : RO j [[]] := ⟨by simp, by simpa using Nat.one_le_two_pow, fun r hr => by rw [List.mem_singleton.mp hr]; exact ⟨Nat.zero_le _, fun _ h => by cases h⟩⟩
theorem RO.two (j : Nat) {e : Ed} (he : e.good) : RO j [[e], []] := ⟨by simp, by
  show 2 ≤ 2 ^ (j + 1)
  have := @Nat.one_le_two_pow j
  rw [Nat.pow_succ]; omega, fun r hr => by
  rcases List.mem_cons.mp hr with rfl | hr
  · exact ⟨by simp, fun g hg => by rw [List.mem_singleton.mp hg]; exact he⟩
  · rw [List.mem_singleton.mp hr]; exact ⟨Nat.zero_le _, fun _ h => by cases h⟩⟩
theorem RO.ext {j : Nat} {M : Mo} (hM : MO j M) {m : Ed × List (List Ed)} (hm : m ∈ M) {f : Ed} (hf : f.good) : RO j (m.2.map fun r => r ++ [f]) := by
  refine ⟨List.pairwise_map.mpr ((hM.rnd m hm).imp fun hab h => hab (List.append_cancel_right h)), by rw [List.length_map]; exact hM.rlen m hm, fun r hr => ?_⟩
  obtain ⟨r', hr', rfl⟩ := List.mem_map.mp hr
  have := hM.rok m hm r' hr'
  refine ⟨by rw [List.length_append, List.length_singleton]; omega, fun g hg => ?_⟩
  rcases List.mem_append.mp hg with q | q
  · exact this.2 g q
  · rw [List.mem_singleton.mp q]; exact hf
theorem row_in {M : Mo} {j : Nat} (hM : MO j M) {e : Ed} {r : List Ed} (hr : ∀ e ∈ r, e.good) : (!((oldR M e).map rowP).any fun y => veq y (rowP r)) = decide (r ∉ oldR M e) := by
  rw [Bool.eq_iff_iff, decide_eq_true_iff]
  have : (((oldR M e).map rowP).any fun y => veq y (rowP r)) = true ↔ r ∈ oldR M e := by
    rw [List.any_map, List.any_eq_true]
    constructor
    · rintro ⟨r', h1, h2⟩
      rw [← (veq_row (((hM.old e).2.2 r' h1).2) hr).mp h2]; exact h1
    · intro h
      exact ⟨r, h, (veq_row hr hr).mpr rfl⟩
  rw [← this]; simp
section
variable {c : Cx} {n : Nat} {σ σ₀ : Store} {env : Env} {loc : Loc} {late : Bool} {dx dm : Addr} {j : Nat} {N M : Mo} {ad : Adr} {ct : Nm → AO} {I : List (List Str)}
theorem WAll2 {e1 e2 : Expr} {r : List Expr} {K : Bool → Store → Prop} (x : WT c n env e1 loc σ fun v σ1 => (v = true → WAll c n env loc (e2 :: r) σ1 K) ∧ (v = false → K false σ1)) : WAll c n env loc (e1 :: e2 :: r) σ K := x
theorem WAll1 {e1 : Expr} {K : Bool → Store → Prop} (x : WT c n env e1 loc σ K) : WAll c n env loc [e1] σ K := x
theorem WT.mono {e : Expr} {K K' : Bool → Store → Prop} (x : WT c n env e loc σ K) (k : ∀ b σ, K b σ → K' b σ) : WT c n env e loc σ K' := WX.mono x k
theorem C_getP {K : V → Store → Prop} (hM : ∀ m ∈ M, m.1.good) {e : Ed} (he : e.good) (hm : σ dm = some (.dict (mdl M))) (q : K (.flst ((oldR M e).map rowP)) σ) : OC c n (.val (.builtin "dict.get")) [.ref dm, e.plain, .flst []] [] [] σ K := by
  rw [← mdl_getD hM he] at q
  exact C_get hm (V.flat_mono 2 8 _ (by decide) (Ed.plain_flat e)) q
theorem O_setP' {K : Unit → Store → Prop} (hM : MO j M) (hj : j ≤ 6) {e : Ed} (he : e.good) {R : List (List Ed)} (hm : σ dm = some (.dict (mdl M))) (q : K () (put σ dm (.dict (mdl (insM M e R))))) : O3 c n setItem Same (.ref dm) e.plain (.flst ((oldR M e).map rowP ++ (newR M e R).map rowP)) σ K := by
  have h := mdl_put (rows := oldR M e ++ newR M e R) hM.good he hM.nd
  rw [List.map_append] at h
  refine O_setitem hm (V.flat_mono 2 8 _ (by decide) (Ed.plain_flat e)) (by rw [mdl_len]; have := hM.len; omega) ?_
  unfold insM at q
  rw [← h] at q
  exact q
theorem ST.laid (S : ST late dx dm j N M ad ct I σ) : ST late dx dm (j + 1) N N ad ct I (put σ dm (.dict (mdl N))) :=
  ⟨S.lay.sub fun m a ha => put_ne _ _ (by rintro rfl; exact S.hma m ha), S.cs, S.slf, S.nd, Nat.le_succ_of_le S.len, S.kl, put_self _ _ _, S.hma⟩
end
section
variable {c : Cx} {n : Nat} {σ σ₀ : Store} {K : V → Store → Prop} {env : Env} {loc : Loc}
theorem f_law (P : Pg c) {ns : List Int} (hl : ns.length ≤ 63) (q : ∀ σ', K (.bool true) σ') : OCd c (n + 20) (.val (.ref 564)) [.flst (ns.map V.int)] [] [] σ K := by
  refine F_fn (bn := ["script"]) (by rw [P.hK]; rfl) rfl (by rw [P.hK]; rfl) rfl rfl rfl rfl rfl rfl rfl (by decide) (by decide) (fun s kk vs kvs h1 h2 => ?_) fun env O => ?_
  · obtain ⟨v0, rfl⟩ := len1 h1
    obtain ⟨-, rfl⟩ := len0 h2
    exact BindsTo.of_eq rfl
  dsimp only [List.zip_cons_cons, List.zip_nil_left, List.zip_nil_right, List.cons_append, List.nil_append, List.append_nil]
  conv => arg 4; whnf
  refine WB_assign O (by tm_at "u") (by tm_at "u") ?_
  refine WE.mono (K := fun v s => (∃ b, v = .bool b) ∧ s = σ) ?_ ?_
  · refine WE_and ?_
    tm_at "go"
    refine WE_listF (WL_nil ⟨by decide, ?_⟩)
    refine O_neF_nil (flats_map (f := V.int) fun _ _ => rfl) ?_
    tm_at "go"
    refine ⟨fun hv => ?_, fun hv => ⟨⟨_, rfl⟩, rfl⟩⟩
    cases ns with
    | nil => cases hv
    | cons z r =>
      tm_at "go"
      refine O_item_flst (k := 0) (x := .int z) (by decide) (by rw [List.length_map]; omega) rfl ?_ (fun _ _ _ => rfl)
      tm_at "go"
      exact ⟨⟨_, rfl⟩, rfl⟩
  rintro _ σ ⟨⟨late, rfl⟩, -⟩
  refine WB_assign O (by tm_at "u") (by tm_at "u") ?_
  refine WE.mono (K := fun v s => ∃ dx ad ct, v = .mob (cX late) dx ∧ Lay ad ct s ∧ CS late ad ct [] [] (fun _ => []) [] ∧ ad .self = some dx) ?_ ?_
  · tm_at "go"
    refine ⟨fun h => ?_, fun h => ?_⟩
    · subst h
      tm_at "go"
      refine (f_chart_I P fun dx ad ct σ' l C hs _ => ?_).oc
      exact ⟨dx, ad, ct, rfl, l, C, hs⟩
    · subst h
      tm_at "go"
      refine (f_chart_C P fun dx ad ct σ' l C hs _ => ?_).oc
      exact ⟨dx, ad, ct, rfl, l, C, hs⟩
  rintro _ σ ⟨dx, ad0, ct0, rfl, l0, C0, hs0⟩
  tm_at "go"
  refine WE_dict (.dict []) (.inl rfl) fun dm hdm => ?_
  have S0 : ST late dx dm 0 [] [] ad0 ct0 [] (put σ dm (.dict [])) := ⟨l0.other hdm _, C0, hs0, List.nodup_nil, Nat.le_refl _, fun _ h => (by cases h), put_self _ _ _, fun m z => by have := l0.has m dm z; rw [hdm] at this; cases this⟩
  refine WB_for O (by tm_at "u") ?_ (fun _ => by tm_at "u")
  refine WE_slice_from (a := 1) (b := 7) ?_ (by decide)
  tm_at "go"
  refine ⟨_, rfl, by rw [List.length_map]; omega, ?_⟩
  have hsl : ((ns.map V.int).drop 1).take (7 - 1) = ((ns.drop 1).take 6).map V.int := by rw [← List.map_drop, ← List.map_take]
  have hn6 : ((ns.drop 1).take 6).length ≤ 6 := by rw [List.length_take]; omega
  rw [hsl]
  generalize (ns.drop 1).take 6 = zs at hn6
  refine ⟨_, none, Iter_flst _, fun j loc' s => LSub ([("model", .ref dm), ("chart", .mob (cX late) dx), ("late", .bool late), ("script", .flst (ns.map V.int))] : Loc) loc' ∧ ∃ M ad ct I, MO j M ∧ ST late dx dm j M M ad ct I s, ⟨fun _ _ z => z, [], _, _, _, MO.zero, S0⟩, fun j y loc' s1 hj hn hinv => ?_, fun loc' s1 hn hinv => ?_⟩
  · obtain ⟨hloc, M, ad, ct, I, hM, S⟩ := hinv
    rw [List.getElem?_map, Option.map_eq_some_iff] at hj
    obtain ⟨z, hz, rfl⟩ := hj
    have hj6 : j < 6 := by have := (List.getElem?_eq_some_iff.mp hz).1; omega
    have hML : (M.map (·.1)).length ≤ 1000 := by rw [List.length_map]; have := hM.len; omega
    refine WB.forget (loc' := ("number", .int z) :: ([("model", .ref dm), ("chart", .mob (cX late) dx), ("late", .bool late), ("script", .flst (ns.map V.int))] : Loc)) (Sub.refl _) (LSub.keep hloc) ?_
    tm_at "go"
    refine (f_draw P ?_).oc
    tm_at "go"
    intro pl
    refine O_keys (.inl ⟨_, S.hm⟩) ?_
    tm_at "go"
    refine C_keys (.inl ⟨_, S.hm⟩) ?_
    tm_at "go"
    refine C_list_keys S.hm (by rw [mdl_len]; have := hM.len; omega) ?_
    rw [mdl_fst]
    refine WB_assign O (by tm_at "u") (by tm_at "u") ?_
    refine WE.mono (K := fun v s => v = oneV (pick (M.map (·.1)) (z / 4)) ∧ s = s1) ?_ ?_
    · tm_at "go"
      refine WE_listF (WL_nil ⟨by decide, ?_⟩)
      refine O_neF_nil (flats_map fun g _ => V.flat_mono 2 8 _ (by decide) (Ed.plain_flat g)) ?_
      tm_at "go"
      refine ⟨fun hv => ?_, fun hv => ?_⟩
      · have hne : M.map (·.1) ≠ [] := by rintro h; rw [h] at hv; cases hv
        obtain ⟨p1, p2, e, p3, p4⟩ := pick_at hne (z / 4)
        tm_at "go"
        refine C_len_flst (by rw [List.length_map]; exact hML) ?_
        rw [List.length_map]
        refine O_mod p1 ?_
        refine O_item_flst (k := z / 4 % ((M.map (·.1)).length : Int)) (x := e.plain) p2 (by rw [List.length_map]; exact hML) ?_ ?_ (fun _ _ _ => rfl)
        · rw [List.getElem?_map]
          have : (M.map (·.1))[(z / 4 % ((M.map (·.1)).length : Int)).toNat]? = some e := p3
          rw [this]; rfl
        · rw [p3]; exact ⟨rfl, rfl⟩
      · have hne : M.map (·.1) = [] := by
          cases h : M.map (·.1) with
          | nil => rfl
          | cons a r => rw [h] at hv; cases hv
        tm_at "go"
        rw [hne]
        exact ⟨rfl, rfl⟩
    rintro _ s1 ⟨rfl, rfl⟩
    refine WB_assign O (by tm_at "u") (by tm_at "u") ?_
    refine WE.mono (K := fun v s => v = oneV (pick (M.map (·.1)) (z / 64)) ∧ s = s1) ?_ ?_
    · tm_at "go"
      refine WE_listF (WL_nil ⟨by decide, ?_⟩)
      refine O_neF_nil (flats_map fun g _ => V.flat_mono 2 8 _ (by decide) (Ed.plain_flat g)) ?_
      tm_at "go"
      refine ⟨fun hv => ?_, fun hv => ?_⟩
      · have hne : M.map (·.1) ≠ [] := by rintro h; rw [h] at hv; cases hv
        obtain ⟨p1, p2, e, p3, p4⟩ := pick_at hne (z / 64)
        tm_at "go"
        refine C_len_flst (by rw [List.length_map]; exact hML) ?_
        rw [List.length_map]
        refine O_mod p1 ?_
        refine O_item_flst (k := z / 64 % ((M.map (·.1)).length : Int)) (x := e.plain) p2 (by rw [List.length_map]; exact hML) ?_ ?_ (fun _ _ _ => rfl)
        · rw [List.getElem?_map]
          have : (M.map (·.1))[(z / 64 % ((M.map (·.1)).length : Int)).toNat]? = some e := p3
          rw [this]; rfl
        · rw [p3]; exact ⟨rfl, rfl⟩
      · have hne : M.map (·.1) = [] := by
          cases h : M.map (·.1) with
          | nil => rfl
          | cons a r => rw [h] at hv; cases hv
        tm_at "go"
        rw [hne]
        exact ⟨rfl, rfl⟩
    rintro _ s1 ⟨rfl, rfl⟩
    have fin0 : ∀ e, e ∈ M.map (·.1) → Fine e ∧ ∃ rows, (e, rows) ∈ M := fun e he => by
      obtain ⟨m, hm, rfl⟩ := List.mem_map.mp he
      exact ⟨hM.fine m hm, m.2, hm⟩
    have pk : ∀ k e, pick (M.map (·.1)) k = some e → e ∈ M.map (·.1) := fun k e h => List.mem_of_getElem? h
    tm_at "go"
    refine ⟨fun h2 => ?_, fun h2 => ?_⟩
    · tm_at "go"
      refine (x_sel P S hM (Nat.le_of_lt hj6) (draw_fine z) fun ad' ct' σ' I' S' => ?_).oc
      tm_at "go"
      refine ⟨fun h => (by cases h), fun _ => ?_⟩
      tm_at "go"
      exact WB_nil ⟨(LSub.cons (by tm_at "l") (LSub.cons (by tm_at "l") (LSub.cons (by tm_at "l") (LSub.cons (by tm_at "l") (LSub.nil _))))), M, ad', ct', I', hM.succ, S'⟩
    · refine WB_ifJ (fun l s => LSub ([("model", .ref dm), ("chart", .mob (cX late) dx), ("late", .bool late), ("script", .flst (ns.map V.int))] : Loc) l ∧ ∃ e R ad' ct', Fine e ∧ RO j R ∧ ST late dx dm j (insM M e R) M ad' ct' I s ∧ LSub (("told", .bool (!(newR M e R).isEmpty)) :: ("rows", .flst (R.map rowP)) :: ("edge", e.plain) :: ([("model", .ref dm), ("chart", .mob (cX late) dx), ("late", .bool late), ("script", .flst (ns.map V.int))] : Loc)) l) ?_ ?_
      · refine WT.mono (K := fun v s => s = s1 ∧ (v = true → (∃ l r lo hi d f, pick (M.map (·.1)) (z / 4) = some (.tree l r lo hi d) ∧ pick (M.map (·.1)) (z / 64) = some f ∧ d < (r.length : Int) ∧ f.lo = hi))) ?_ ?_
        · refine WT_andN ?_
          refine WAll2 ?_
          tm_at "go"
          refine ⟨fun _ => ?_, fun _ => ⟨rfl, fun h => (by cases h)⟩⟩
          refine WAll2 ?_
          cases hone : pick (M.map (·.1)) (z / 4) with
          | none =>
            tm_at "go"
            refine O_isNot_none (fun v h => by cases h) ?_
            tm_at "go"
            exact ⟨fun h => (by cases h), fun _ => ⟨rfl, fun h => (by cases h)⟩⟩
          | some e1 =>
            obtain ⟨e2, htwo⟩ : ∃ e2, pick (M.map (·.1)) (z / 64) = some e2 := by
              have hne : M.map (·.1) ≠ [] := by rintro h; rw [h] at hone; cases hone
              obtain ⟨_, _, e2, h, _⟩ := pick_at hne (z / 64)
              exact ⟨e2, h⟩
            rw [htwo]
            have f1 := fin0 _ (pk _ _ hone)
            have f2 := fin0 _ (pk _ _ htwo)
            tm_at "go"
            refine O_isNot_none (fun v h => by cases h) ?_
            tm_at "go"
            refine ⟨fun _ => ?_, fun h => (by cases h)⟩
            refine WAll2 ?_
            tm_at "go"
            refine O_item_tup (k := 5) (x := .int e1.dot) (by decide) (Nat.le_of_ble_eq_true rfl) rfl ?_ (fun _ _ _ => rfl)
            tm_at "go"
            refine O_item_tup (k := 2) (x := .tup (e1.rhs.map Sg.m)) (by decide) (Nat.le_of_ble_eq_true rfl) rfl ?_ (fun _ _ _ => rfl)
            tm_at "go"
            refine C_len_tup (by rw [List.length_map]; have := f1.1.good.1.2.2; omega) ?_
            tm_at "go"
            refine ⟨fun hlt => ?_, fun _ => ⟨rfl, fun h => (by cases h)⟩⟩
            refine WAll1 ?_
            tm_at "go"
            refine O_item_tup (k := 3) (x := .int e2.lo) (by decide) (Nat.le_of_ble_eq_true rfl) rfl ?_ (fun _ _ _ => rfl)
            tm_at "go"
            refine O_item_tup (k := 4) (x := .int e1.hi) (by decide) (Nat.le_of_ble_eq_true rfl) rfl ?_ (fun _ _ _ => rfl)
            tm_at "go"
            refine ⟨rfl, fun hj => ?_⟩
            rw [List.length_map] at hlt
            have hlt := of_decide_eq_true hlt
            rw [veq_int] at hj
            have hj := beq_iff_eq.mp hj
            cases e1 with
            | leaf s i =>
              change (0 : Int) < ((0 : Nat) : Int) at hlt
              omega
            | tree l r lo hi d => exact ⟨l, r, lo, hi, d, e2, rfl, rfl, hlt, hj⟩
        rintro v s1 ⟨rfl, hv⟩
        refine ⟨fun hvt => ?_, fun _ => ?_⟩
        · obtain ⟨l, r, lo, hi, d, f, hone, htwo, hlt, hj⟩ := hv hvt
          clear hv hvt
          obtain ⟨f1, prows, hpr⟩ := fin0 _ (pk _ _ hone)
          obtain ⟨f2, -⟩ := fin0 _ (pk _ _ htwo)
          rw [hone, htwo]
          have fm := move_fine f1 f2 hlt hj
          tm_at "go"
          refine O_item_tup (k := 0) (x := .str "tree") (by decide) (Nat.le_of_ble_eq_true rfl) rfl ?_ (fun _ _ _ => rfl)
          tm_at "go"
          refine O_item_tup (k := 1) (x := l.m) (by decide) (Nat.le_of_ble_eq_true rfl) rfl ?_ (fun _ _ _ => rfl)
          tm_at "go"
          refine O_item_tup (k := 2) (x := .tup (r.map Sg.m)) (by decide) (Nat.le_of_ble_eq_true rfl) rfl ?_ (fun _ _ _ => rfl)
          tm_at "go"
          refine O_item_tup (k := 3) (x := .int lo) (by decide) (Nat.le_of_ble_eq_true rfl) rfl ?_ (fun _ _ _ => rfl)
          tm_at "go"
          refine O_item_tup (k := 4) (x := .int f.hi) (by decide) (Nat.le_of_ble_eq_true rfl) rfl ?_ (fun _ _ _ => rfl)
          tm_at "go"
          refine O_item_tup (k := 5) (x := .int d) (by decide) (Nat.le_of_ble_eq_true rfl) rfl ?_ (fun _ _ _ => rfl)
          tm_at "go"
          have hed : V.tup [.str "tree", l.m, .tup (r.map Sg.m), .int lo, .int f.hi, .int (d + 1)] = (Ed.tree l r lo f.hi (d + 1)).plain := rfl
          rw [hed]
          refine WB_acomp O (by tm_at "u") (by tm_at "u") (swaps_on O rfl (by tm_at "u") (by tm_at "u") (by tm_at "u")) (by tm_at "cf") ?_ (fun _ => by tm_at "u")
          tm_at "go"
          refine O_item_dict S.hm (V.flat_mono 2 8 _ (by decide) (Ed.plain_flat (Ed.tree l r lo hi d))) (mdl_at hM.good hM.nd hpr) ?_ (fun _ _ => rfl)
          refine map_turns rowP (fun r => rowP (r ++ [f])) (.inr rfl) (Nat.le_trans (hM.rlen _ hpr) (Nat.le_trans (pow_b (Nat.le_of_lt hj6)) (by decide))) (fun CC g hg' K' kk => ?_) ?_
          · tm_at "go"
            refine O_addTup (by have := (hM.rok _ hpr g hg').1; rw [List.length_map, List.length_singleton]; omega) ?_
            unfold rowP at kk
            rw [List.map_append] at kk
            exact kk
          have hrw : prows.map (fun r => rowP (r ++ [f])) = (prows.map fun r => r ++ [f]).map rowP := by rw [List.map_map]; rfl
          rw [hrw]
          have hR : RO j (prows.map fun r => r ++ [f]) := RO.ext hM hpr f2.good
          tm_at "go"
          intro pl
          refine x_insertb P S ?_
          tm_at "go"
          refine (f_make P f1.good ?_).oc
          tm_at "go"
          intro pl
          refine O_meth_inst (f := 128) (by tm_at "cls") (by tm_at "K") (by tm_at "K") (by decide) ?_
          tm_at "go"
          refine O_item_tup (k := 4) (x := .int f.hi) (by decide) (Nat.le_of_ble_eq_true rfl) rfl ?_ (fun _ _ _ => rfl)
          tm_at "go"
          refine (m_move P f1.good.1.2.2 ?_).oc
          tm_at "go"
          refine (f_make P f1.good ?_).oc
          tm_at "go"
          refine (f_make P f2.good ?_).oc
          tm_at "go"
          refine (x_iwb P S hM (Nat.le_of_lt hj6) fm hpr fun ad' ct' σ' S' => ?_).oc
          tm_at "go"
          exact WB_nil ⟨rfl, (LSub.cons (by tm_at "l") (LSub.cons (by tm_at "l") (LSub.cons (by tm_at "l") (LSub.cons (by tm_at "l") (LSub.nil _))))), _, _, ad', ct', fm, hR, S', (LSub.cons (by tm_at "l") (LSub.cons (by tm_at "l") (LSub.cons (by tm_at "l") (LSub.cons (by tm_at "l") (LSub.cons (by tm_at "l") (LSub.cons (by tm_at "l") (LSub.cons (by tm_at "l") (LSub.nil _))))))))⟩
        · refine WB_assign O (by tm_at "u") (by tm_at "u") ?_
          refine WE.mono (K := fun v s => ∃ R, v = .flst (R.map rowP) ∧ RO j R ∧ s = s1) ?_ ?_
          · cases hone : pick (M.map (·.1)) (z / 4) with
            | none =>
              tm_at "go"
              refine ⟨fun _ => ?_, fun _ => ⟨fun h => (by cases h), fun _ => ?_⟩⟩
              · tm_at "go"
                refine O_isNot_none (fun v h => by cases h) ?_
                tm_at "go"
                refine ⟨fun h => (by cases h), fun _ => ?_⟩
                refine WE_listF ?_
                tm_at "go"
                exact ⟨[[]], rfl, RO.one j, rfl⟩
              · refine WE_listF ?_
                tm_at "go"
                exact ⟨[[]], rfl, RO.one j, rfl⟩
            | some e1 =>
              have f1 := fin0 _ (pk _ _ hone)
              tm_at "go"
              refine ⟨fun _ => ?_, fun _ => ⟨fun h => (by cases h), fun _ => ?_⟩⟩
              · tm_at "go"
                refine O_isNot_none (fun v h => by cases h) ?_
                tm_at "go"
                refine ⟨fun _ => ?_, fun h => (by cases h)⟩
                refine WE_listF ?_
                tm_at "go"
                exact ⟨[[e1], []], rfl, RO.two j f1.1.good, rfl⟩
              · refine WE_listF ?_
                tm_at "go"
                exact ⟨[[]], rfl, RO.one j, rfl⟩
          rintro _ s1 ⟨R, rfl, hR, rfl⟩
          tm_at "go"
          intro pl
          refine x_insert P S ?_
          tm_at "go"
          refine (f_make P (draw_fine z).good ?_).oc
          tm_at "go"
          tm_at "comp"
          tm_at "go"
          refine map_turns rowP (fun r => .tup (r.map Ed.obj)) (.inr rfl) (by have := hR.len; have := pow_b (Nat.le_of_lt hj6); omega) (fun CC g hg' K' kk => ?_) ?_
          · have hgl := (hR.ok g hg').1
            tm_at "go"
            tm_at "comp"
            tm_at "go"
            refine map_turns Ed.plain Ed.obj (.inl rfl) (by omega) (fun CC e he' K' kk => ?_) ?_
            · tm_at "go"
              exact (f_make P ((hR.ok g hg').2 e he') kk).oc
            tm_at "go"
            refine C_tuple_flst (by rw [List.length_map]; omega) ?_
            exact kk
          tm_at "go"
          refine (x_ins P S hM (Nat.le_of_lt hj6) (draw_fine z) hR fun ad' ct' σ' S' => ?_).oc
          tm_at "go"
          exact WB_nil ⟨rfl, (LSub.cons (by tm_at "l") (LSub.cons (by tm_at "l") (LSub.cons (by tm_at "l") (LSub.cons (by tm_at "l") (LSub.nil _))))), _, _, ad', ct', draw_fine z, hR, S', (LSub.cons (by tm_at "l") (LSub.cons (by tm_at "l") (LSub.cons (by tm_at "l") (LSub.cons (by tm_at "l") (LSub.cons (by tm_at "l") (LSub.cons (by tm_at "l") (LSub.cons (by tm_at "l") (LSub.nil _))))))))⟩
      · rintro l s ⟨-, e, R, ad', ct', he, hR, S', hl⟩
        refine WB.forget (Sub.refl _) hl ?_
        tm_at "go"
        intro pl
        refine O_get S'.hm ?_
        tm_at "go"
        refine WE_listF (WL_nil ⟨by decide, ?_⟩)
        tm_at "go"
        refine C_getP hM.good he.good S'.hm ?_
        tm_at "go"
        have ho := hM.old e
        have hp := pow_b (Nat.le_of_lt hj6)
        have hRl := hR.len
        have hnl := @newR_le M e R
        refine WB_acomp O (by tm_at "u") (by tm_at "u") (swaps_on O rfl (by tm_at "u") (by tm_at "u") (by tm_at "u")) (by tm_at "cf") ?_ (fun _ => by tm_at "u")
        tm_at "go"
        refine filter_turns rowP (fun r => decide (r ∉ oldR M e)) (L := none) (r := R) (Iter_flst _) rfl (by omega) (fun CC r hr' K' kk => ?_) (fun CC r hr' K' kk => ?_) ?_
        · tm_at "go"
          refine O_notIn_flst (flats_map fun r _ => rowP_flat r) (rowP_flat r) ?_
          rw [row_in hM (hR.ok r hr').2]
          tm_at "go"
          exact kk
        · tm_at "go"
          exact kk
        have hnew : (R.filter fun r => decide (r ∉ oldR M e)) = newR M e R := rfl
        rw [hnew]
        tm_at "go"
        refine O_addF (by rw [List.length_map, List.length_map]; omega) ?_
        tm_at "go"
        refine O_setP' hM (Nat.le_of_lt hj6) he.good S'.hm ?_
        tm_at "go"
        refine C_isi (T := "bool") rfl (one_bool P) ?_
        tm_at "go"
        refine ⟨fun _ => ?_, fun h => (by cases h)⟩
        tm_at "go"
        refine WE_listF (WL_nil ⟨by decide, ?_⟩)
        refine O_neF_nil (flats_map fun r _ => rowP_flat r) ?_
        tm_at "go"
        have hnb : veq (.bool (!(newR M e R).isEmpty)) (.bool (!((newR M e R).map rowP).isEmpty)) = true := by rw [veq_bool, List.isEmpty_map]
        rw [hnb]
        refine ⟨fun h => (by cases h), fun _ => ?_⟩
        tm_at "go"
        exact WB_nil ⟨(LSub.cons (by tm_at "l") (LSub.cons (by tm_at "l") (LSub.cons (by tm_at "l") (LSub.cons (by tm_at "l") (LSub.nil _))))), _, ad', ct', I, hM.ins he hR, S'.laid⟩
  · obtain ⟨hloc, M, ad, ct, I, hM, S⟩ := hinv
    have hM6 : MO 6 M := hM.up (by rw [List.length_map]; exact hn6)
    have hl6 := hM6.len
    have hhi : ∀ e ∈ M.map (·.1), 0 ≤ e.hi ∧ e.hi ≤ 3 := fun e he => by
      obtain ⟨m, hm, rfl⟩ := List.mem_map.mp he
      have := hM6.fine m hm
      exact ⟨Int.le_trans this.lo this.le, this.hi⟩
    have hEL : (EL late (M.map (·.1))).length = M.length := by rw [EL_len hhi, List.length_map]
    have hEm : ∀ e, e ∈ EL late (M.map (·.1)) ↔ e ∈ M.map (·.1) := fun e => EL_mem hhi
    have hEg : ∀ e ∈ EL late (M.map (·.1)), e.good ∧ ∃ rows, (e, rows) ∈ M := fun e he => by
      obtain ⟨m, hm, rfl⟩ := List.mem_map.mp ((hEm e).mp he)
      exact ⟨hM6.good m hm, m.2, hm⟩
    have hvl : veq (.int M.length) (.int M.length) = true := by rw [veq_int]; simp
    refine WB.forget (loc' := ([("model", .ref dm), ("chart", .mob (cX late) dx), ("late", .bool late), ("script", .flst (ns.map V.int))] : Loc)) (Sub.refl _) hloc ?_
    tm_at "go"
    intro pl
    refine x_nume P S ?_
    tm_at "go"
    refine (x_num P S hM6 ?_).oc
    tm_at "go"
    refine (f_number P ?_).oc
    tm_at "go"
    refine C_len_dict S.hm (by rw [mdl_len]; omega) ?_
    rw [mdl_len]
    tm_at "go"
    rw [hvl]
    refine ⟨fun _ => ?_, fun h => (by cases h)⟩
    tm_at "go"
    refine x_edges P S hM6 ?_
    tm_at "go"
    refine C_len_flst (by rw [List.length_map, hEL]; omega) ?_
    rw [List.length_map, hEL]
    tm_at "go"
    refine C_len_dict S.hm (by rw [mdl_len]; omega) ?_
    rw [mdl_len]
    tm_at "go"
    rw [hvl]
    refine ⟨fun h => (by cases h), fun _ => ?_⟩
    tm_at "go"
    refine WB_assign O (by tm_at "u") (swaps_off O (by tm_at "u")) ?_
    tm_at "comp"
    tm_at "go"
    refine x_edges P S hM6 ?_
    refine map_turns Ed.obj Ed.plain (.inr rfl) (by rw [hEL]; omega) (fun CC e he K' kk => ?_) ?_
    · tm_at "go"
      exact (f_read P (hEg e he).1 kk).oc
    tm_at "go"
    tm_at "comp"
    tm_at "go"
    refine filter_turns (r := M.map (·.1)) Ed.plain (fun g => !((EL late (M.map (·.1))).map Ed.plain).any fun y => veq y g.plain) (L := some (dm, .dict (mdl M))) (by rw [← mdl_fst]; exact Iter_dict S.hm) (put_del S.hm) (by rw [List.length_map]; omega) (fun CC g hg' K' kk => ?_) (fun CC g hg' K' kk => ?_) ?_
    · tm_at "go"
      refine O_notIn_flst (flats_map fun g _ => V.flat_mono 2 8 _ (by decide) (Ed.plain_flat g)) (V.flat_mono 2 8 _ (by decide) (Ed.plain_flat g)) ?_
      tm_at "go"
      exact kk
    · tm_at "go"
      exact kk
    have hnil : (M.map (·.1)).filter (fun g => !((EL late (M.map (·.1))).map Ed.plain).any fun y => veq y g.plain) = [] := by
      rw [List.filter_eq_nil_iff]
      intro g hg' h
      have hgE := (hEm g).mpr hg'
      have : (((EL late (M.map (·.1))).map Ed.plain).any fun y => veq y g.plain) = true := by
        rw [List.any_eq_true]
        exact ⟨g.plain, List.mem_map.mpr ⟨g, hgE, rfl⟩, (veq_plain (hEg g hgE).1 (hEg g hgE).1).mpr rfl⟩
      rw [this] at h
      cases h
    rw [hnil]
    tm_at "go"
    refine WE_listF (WL_nil ⟨by decide, ?_⟩)
    refine O_neF_nil rfl ?_
    tm_at "go"
    refine ⟨fun h => (by cases h), fun _ => ?_⟩
    tm_at "go"
    refine WB_for O (by tm_at "u") ?_ (fun _ => by tm_at "u")
    tm_at "go"
    refine x_edges P S hM6 ?_
    refine ⟨_, none, Iter_flst _, fun j loc' s => LSub ([("model", .ref dm), ("chart", .mob (cX late) dx), ("late", .bool late), ("script", .flst (ns.map V.int))] : Loc) loc' ∧ s = s1, ⟨(LSub.cons (by tm_at "l") (LSub.cons (by tm_at "l") (LSub.cons (by tm_at "l") (LSub.cons (by tm_at "l") (LSub.nil _))))), rfl⟩, fun j y loc' s hj hn hinv => ?_, fun loc' s hn hinv => ?_⟩
    · obtain ⟨hl, rfl⟩ := hinv
      rw [List.getElem?_map, Option.map_eq_some_iff] at hj
      obtain ⟨e, he, rfl⟩ := hj
      obtain ⟨heg, rows, hrow⟩ := hEg e (List.mem_of_getElem? he)
      refine WB.forget (loc' := ("edge", e.obj) :: ([("model", .ref dm), ("chart", .mob (cX late) dx), ("late", .bool late), ("script", .flst (ns.map V.int))] : Loc)) (Sub.refl _) (LSub.keep hl) ?_
      tm_at "go"
      intro pl
      refine O_get S.hm ?_
      tm_at "go"
      refine (f_read P heg ?_).oc
      tm_at "go"
      refine WE_listF (WL_nil ⟨by decide, ?_⟩)
      tm_at "go"
      refine C_getP hM.good heg S.hm ?_
      have hold : oldR M e = rows := oldR_at hM.nd hrow
      rw [hold]
      have hrl : rows.length ≤ 128 := Nat.le_trans (hM6.rlen _ hrow) (by decide)
      have hrk := hM6.rok _ hrow
      tm_at "go"
      refine WB_assign O (by tm_at "u") (swaps_off O (by tm_at "u")) ?_
      tm_at "comp"
      tm_at "go"
      intro pl
      refine x_cpls P S ?_
      tm_at "go"
      refine (x_cpl P S hM6 hrow ?_).oc
      refine map_turns (fun r : List Ed => V.tup (r.map Ed.obj)) rowP (.inr rfl) (by omega) (fun CC r hr' K' kk => ?_) ?_
      · have hrr := (hrk r hr').1
        tm_at "go"
        tm_at "comp"
        tm_at "go"
        refine map_turns Ed.obj Ed.plain (.inl rfl) (by omega) (fun CC g hg' K' kk => ?_) ?_
        · tm_at "go"
          exact (f_read P ((hrk r hr').2 g hg') kk).oc
        tm_at "go"
        refine C_tuple_flst (by rw [List.length_map]; omega) ?_
        exact kk
      tm_at "go"
      refine C_len_flst (by rw [List.length_map]; omega) ?_
      tm_at "go"
      refine C_len_flst (by rw [List.length_map]; omega) ?_
      tm_at "go"
      rw [show veq (.int (rows.map rowP).length) (.int (rows.map rowP).length) = true by rw [veq_int]; simp]
      refine ⟨fun _ => ?_, fun h => (by cases h)⟩
      tm_at "go"
      tm_at "comp"
      tm_at "go"
      refine filter_turns rowP (fun r => !(rows.map rowP).any fun y => veq y (rowP r)) (L := none) (r := rows) (Iter_flst _) rfl (by omega) (fun CC r hr' K' kk => ?_) (fun CC r hr' K' kk => ?_) ?_
      · tm_at "go"
        refine O_notIn_flst (flats_map fun r _ => rowP_flat r) (rowP_flat r) ?_
        tm_at "go"
        exact kk
      · tm_at "go"
        exact kk
      have hnil2 : rows.filter (fun r => !(rows.map rowP).any fun y => veq y (rowP r)) = [] := by
        rw [List.filter_eq_nil_iff]
        intro r hr' h
        have : ((rows.map rowP).any fun y => veq y (rowP r)) = true := by
          rw [List.any_eq_true]
          exact ⟨rowP r, List.mem_map.mpr ⟨r, hr', rfl⟩, (veq_row (hrk r hr').2 (hrk r hr').2).mpr rfl⟩
        rw [this] at h
        cases h
      rw [hnil2]
      tm_at "go"
      refine WE_listF (WL_nil ⟨by decide, ?_⟩)
      refine O_neF_nil rfl ?_
      tm_at "go"
      refine ⟨fun h => (by cases h), fun _ => ?_⟩
      tm_at "go"
      exact WB_nil ⟨(LSub.cons (by tm_at "l") (LSub.cons (by tm_at "l") (LSub.cons (by tm_at "l") (LSub.cons (by tm_at "l") (LSub.nil _))))), rfl⟩
    · obtain ⟨hl, rfl⟩ := hinv
      refine WB.forget (loc' := ([("model", .ref dm), ("chart", .mob (cX late) dx), ("late", .bool late), ("script", .flst (ns.map V.int))] : Loc)) (Sub.refl _) hl ?_
      tm_at "go"
      exact q _
end
end
section
theorem ints_reps {g : Lk} : ∀ {vs : List Value} {ns : List Int}, IntsAre vs ns → Reps g (ns.map V.int) vs
  | _, _, .nil => .nil
  | _, _, .cons n t r => .cons (.int n t) (ints_reps r)
theorem room0 : Room callerA 20 := by
  refine ⟨rfl, ?_, ?_⟩
  · decide
  · decide
theorem joined {prog : Program} {w : World} {s₁ : Shared} {mg mb : Str → Option Value} {p : Program} {loose : List Str} {mean : ExcName → Option Value} {fa a : Addr} {vs : List Value} {ns : List Int}
    (KX : (heapK w.params).In s₁.heap) (T : Top p loose mean mg mb s₁.heap) (hmg : mg "law" = some (.ref fa)) (hg : s₁.gens = #[]) (hL : s₁.heap.IsList a vs.toArray) (hI : IntsAre vs ns) (h63 : ns.length ≤ 63) :
    codeAny (model prog w) callerA (.call (.ref fa) ⟨[.ref a], []⟩) (fun r s' => r = .ok (.ret (.bool true)) ∧ (∀ b o, s₁.heap.get? b = some o → s'.heap.get? b = some o) ∧ s'.os = s₁.os ∧ s'.gens = #[]) s₁ := by
  let c : Cx := ⟨prog, w, s₁, s₁.heap, heapK w.params, KX, mg, mb, T.g, T.b, T.nolimit, T.builtins⟩
  have P : Pg c := ⟨rfl⟩
  have e564 : mg "law" = some (.ref 564) := mg_of KX T.g (by kernel_rfl)
  have hfa : fa = 564 := by rw [e564] at hmg; cases hmg; rfl
  subst hfa
  obtain ⟨ob, hob, hcl, m, hda⟩ := hL
  have hmain : ∃ o, s₁.heap.get? mainGlobals = some o := by
    obtain ⟨o, es, ep, ho, _⟩ := T.g
    exact ⟨o, ho⟩
  have sat : SatC c c.B (fun _ => none) (fun _ => none) s₁.heap := ⟨Le.refl _, fun _ _ h => h, fun _ _ h => (by cases h), fun _ _ h => (by cases h), fun _ _ h => (by cases h), fun _ _ h => (by cases h), hmain, fun _ _ h => (by cases h)⟩
  have rl : Rep c.B (.flst (ns.map V.int)) (.ref a) := .flst hob hcl hda (ints_reps hI)
  have f := f_law (c := c) (n := 0) (σ := fun _ => none) (K := fun v _ => v = .bool true) P h63 (fun _ => rfl)
  have g := f callerA c.B (fun _ => none) s₁.heap s₁.toks (.ref 564) [.ref a] [] room0 sat (.val _) (.cons rl .nil) .nil
  refine codeAny_mono g fun r s' h => ?_
  cases r with
  | ok fl =>
    cases fl with
    | ret v =>
      obtain ⟨x, kp', σ', h', tk', rfl, _, r', s', rfl⟩ := h
      cases r'
      exact ⟨rfl, fun b o hb => s'.kp_ok b o (s'.base b o hb), rfl, hg⟩
    | _ => exact h.elim
  | error e => exact h.elim
theorem and_of {a b : Bool} (x : a = true) (y : b = true) : (a && b) = true := by rw [x, y]; rfl
set_option maxHeartbeats 4000000 in
theorem said_q : PySem.W.Fast.tw9446332074065402090 PySem.Challenge.rw_an0015_01 = true := by
  unfold PySem.W.Fast.tw9446332074065402090
  with_reducible repeat' apply and_of
  unfold PySem.W.Fast.tw17960256430627541270
  with_reducible repeat' apply and_of
  unfold PySem.W.Fast.tw2436336058641802641
  with_reducible repeat' apply and_of
  unfold PySem.W.Fast.tw12908688711261696721
  with_reducible repeat' apply and_of
  all_goals as_aux_lemma => kernel_rfl
theorem said : OpenLaw.wellSaid PySem.Challenge.rw_an0015_01 = true := by rw [PySem.W.Fast.te9446332074065402090]; exact said_q
end
end Mine
set_option maxHeartbeats 8000000 in
theorem PySem.Challenge.cw_an0015_01_holds : PySem.Challenge.rw_an0015_01.Holds := by
  w_on
  refine holds_law Mine.said fun said => ?_
  refine holds_open (q := Mine.vw) (loose := Mine.loose) (Xt := fun s => xlAt Mine.vw [] s && recOk (RowW.records PySem.Challenge.rw_an0015_01.row.toRowW) s) (XP := XL Mine.vw []) (Yf := Hook.obs Mine.hook) (Ya := Hook.val Mine.hook) (YP := Hook.says Mine.hook) (N := 7326) Mine.left_law (Hook.of Mine.hook) (Hook.keeps Mine.hook) (fun s e => xl_of s (Bool.and_eq_true_iff.mp e).1) XL.keeps (by rfl) (by rfl) (by rfl) (fun s e => recFacts_of (Bool.and_eq_true_iff.mp e).2) (by rfl) (by first | assumption | decide +kernel) (by decide +kernel) ⟨rfl, rfl, rfl, rfl, rfl, by decide +kernel⟩ ?hw ?hc
  case hw => w_witness2
  case hc =>
    intro w s₀ s₁ mg mb G Y fa o pm cd doc dV kV ho hd hcd hD hmg hg args vals as hpre hlay hrd hwl hlo
    have KX : (Mine.heapK w.params).In s₁.heap := kIn_of Y
    refine Ground.open G ?_
    intro T B D TE TW
    try (refine guard_noD D (by decide +kernel) ?_; clear D)
    wrow_args hpre hlay hrd hwl hlo
    all_goals (
      first | refine callC_kw (enter_call ?_) | refine enter_call ?_ | refine callC_kw (enter_callW ?_) | refine enter_callW ?_ | w_how
      w_top on
      try refine codeAny_mono ?_ (fun _ _ g => GoodW.toG g)
      case _ =>
        rename_i ns _ _ _ _ _ _ a vs _ hL _ _ _ hI _ h63 _
        refine codeAny_mono (Mine.joined KX T hmg hg hL hI (by omega)) fun r s' h => ?_
        obtain ⟨rfl, k, ho', hg'⟩ := h
        refine ⟨.inl ⟨.bool true, .bool true, [], rfl, fun _ => rfl, .bool true, ?_, fun _ => ⟨List.nodup_nil, fun _ h => nomatch h⟩⟩, k, ho', hg'⟩
        first | rfl | wrow_post)
