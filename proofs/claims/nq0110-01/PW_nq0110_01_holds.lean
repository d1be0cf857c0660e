import PyProof.Rows.All
import Wide.All
import OpenK.AllK
import Wide.FinOn
import PySem.Challenge.RW_nq0110_01
set_option genSizeOf false
set_option genInjectivity false
-- E1
open PySem PySem.W PySem.W.X PyProof.Rows
set_option Elab.async false
set_option autoImplicit false
set_option maxRecDepth 100000
namespace Mine
noncomputable section
inductive VT : Type 1
  | leaf (P : Prop)
  | fail
  | same {β : Type} (a b : β) (t : VT)
  | dec (b : Bool) (f t : VT)
  | claim (P : Prop) (t : VT)
noncomputable def VT.Holds : VT → Prop
  | .leaf P => P
  | .fail => False
  | .same a b t => a = b ∧ t.Holds
  | .dec b f t => (b = false → f.Holds) ∧ (b = true → t.Holds)
  | .claim P t => P ∧ t.Holds
noncomputable def skel (t : VT) : VT := @VT.rec (fun _ => VT) (fun P => .leaf P) .fail (fun _ _ _ ih => ih) (fun b _ _ f t => .dec b f t) (fun P _ ih => .claim P ih) t
inductive Ck : Type 1
  | eq {β : Type} (a b : β)
noncomputable def Ck.ok : Ck → Prop
  | .eq a b => a = b
noncomputable def cks (t : VT) : List Ck → List Ck := @VT.rec (fun _ => List Ck → List Ck) (fun _ l => l) (fun l => l) (fun a b _ ih l => .eq a b :: ih l) (fun _ _ _ f t l => f (t l)) (fun _ _ ih l => ih l) t
noncomputable def dgs (l : List Ck) : List Ck := @List.rec Ck (fun _ => List Ck) [] (fun c _ ih => @Ck.rec (fun _ => Ck) (fun _ b => .eq b b) c :: ih) l
theorem dgs_ok : ∀ {l : List Ck}, l = dgs l → ∀ c ∈ l, c.ok
  | [], _, c, h => nomatch h
  | .eq a b :: l, e, c, h => by
    have e' : Ck.eq a b :: l = Ck.eq b b :: dgs l := e
    injection e' with e1 e2
    injection e1 with _ e3
    rcases List.mem_cons.mp h with rfl | h
    · exact e3
    · exact dgs_ok e2 c h
theorem cks_mem (t : VT) : ∀ (l : List Ck) (c : Ck), c ∈ l → c ∈ cks t l := by
  induction t with
  | leaf P => exact fun l c h => h
  | fail => exact fun l c h => h
  | same a b t ih => exact fun l c h => .tail _ (ih l c h)
  | dec b f t ihf iht => exact fun l c h => ihf _ c (iht l c h)
  | claim P t ih => exact ih
theorem holds_skel (t : VT) : ∀ l : List Ck, (∀ c ∈ cks t l, c.ok) → (skel t).Holds → t.Holds := by
  induction t with
  | leaf P => exact fun l _ h => h
  | fail => exact fun l _ h => h
  | same a b t ih => exact fun l h k => ⟨h _ (.head _), ih l (fun c m => h c (.tail _ m)) k⟩
  | dec b f t ihf iht =>
    exact fun l h k => ⟨fun e => ihf (cks t l) h (k.1 e), fun e => iht l (fun c m => h c (cks_mem f _ c m)) (k.2 e)⟩
  | claim P t ih => exact fun l h k => ⟨k.1, ih l h k.2⟩
theorem holds_of {t V : VT} (e : (skel t, cks t []) = (V, dgs (cks t []))) (h : V.Holds) : t.Holds := by
  obtain ⟨e1, e2⟩ := Prod.mk.inj e
  exact holds_skel t [] (dgs_ok e2) (e1 ▸ h)

inductive BT
  | n
  | b (lf : List Nat) (f : BT) (lt : List Nat) (t : BT)
structure Dr where
  n : Nat
  o : Obj
  v : Value
structure RSt where
  ads : List Nat
  obs : List Obj
  N : Nat
  m : Nat
  T : Nat
  i : Nat
  bt : BT
  ρ : Nat → Dr
noncomputable def onO {σ : Type} (o : Option σ) (f : σ → VT) : VT := @Option.rec σ (fun _ => VT) .fail f o
noncomputable def onO1 {σ : Type 1} (o : Option σ) (f : σ → VT) : VT := @Option.rec σ (fun _ => VT) .fail f o
noncomputable def onL {σ : Type} (l : List σ) (f : σ → List σ → VT) : VT := @List.rec σ (fun _ => VT) .fail (fun a r _ => f a r) l
noncomputable def onT (b : Bool) (t : VT) : VT := @Bool.rec (fun _ => VT) .fail t b
noncomputable def onF (b : Bool) (t : VT) : VT := @Bool.rec (fun _ => VT) t .fail b
noncomputable def onE {α : Type} (x : Except Value α) (f : Value → VT) (g : α → VT) : VT := @Except.rec Value α (fun _ => VT) f g x
noncomputable def onN (j : Nat) (z : VT) (s : Nat → VT) : VT := @Nat.rec (fun _ => VT) z (fun k _ => s k) j
noncomputable def nth {α : Type} (j : Nat) (l : List α) : Option α := @List.rec α (fun _ => Nat → Option α) (fun _ => none) (fun a _ ih j => @Nat.rec (fun _ => Option α) (some a) (fun k _ => ih k) j) l j
noncomputable def nth1 {α : Type 1} (j : Nat) (l : List α) : Option α := @List.rec α (fun _ => Nat → Option α) (fun _ => none) (fun a _ ih j => @Nat.rec (fun _ => Option α) (some a) (fun k _ => ih k) j) l j
noncomputable def setAt (o' : Obj) (j : Nat) (l : List Obj) : List Obj := @List.rec Obj (fun _ => Nat → List Obj) (fun _ => []) (fun a r ih j => @Nat.rec (fun _ => List Obj) (o' :: r) (fun k _ => a :: ih k) j) l j
theorem nth_eq {α : Type} : ∀ (j : Nat) (l : List α), nth j l = l[j]?
  | _, [] => by simp [nth]
  | 0, a :: r => rfl
  | j + 1, a :: r => by rw [List.getElem?_cons_succ, ← nth_eq j r]; rfl
theorem setAt_eq (o' : Obj) : ∀ (j : Nat) (l : List Obj) (k : Nat), (setAt o' j l)[k]? = if j = k then l[k]?.map (fun _ => o') else l[k]?
  | _, [], k => by simp [setAt]
  | 0, o :: r, 0 => rfl
  | 0, o :: r, k + 1 => by
    show (o' :: r)[k + 1]? = _
    simp
  | j + 1, o :: r, 0 => by
    show (o :: setAt o' j r)[0]? = _
    simp
  | j + 1, o :: r, k + 1 => by
    have : setAt o' (j + 1) (o :: r) = o :: setAt o' j r := rfl
    rw [this, List.getElem?_cons_succ, List.getElem?_cons_succ, setAt_eq o' j r k]
    simp
theorem setAt_len (o' : Obj) : ∀ (j : Nat) (l : List Obj), (setAt o' j l).length = l.length
  | _, [] => by simp [setAt]
  | 0, _ :: _ => rfl
  | j + 1, a :: r => by
    have : setAt o' (j + 1) (a :: r) = a :: setAt o' j r := rfl
    rw [this, List.length_cons, List.length_cons, setAt_len o' j r]

noncomputable def SimA {α : Type} (M : Model) (A : Around) (t t' : Sem α) : Prop := ∀ Q E s, wpAny M A t' Q E s → wpAny M A t Q E s
inductive RTree : Type → Type 1
  | sem {α : Type} (t : Sem α) : RTree α
  | bind {α β : Type} (m : RTree β) (f : β → RTree α) : RTree α
  | same {α : Type} (a b : Nat) (k : RTree α) : RTree α
  | fail {α : Type} : RTree α
  | dec {α : Type} (b : Bool) (k : Bool → RTree α) : RTree α
  | calm {α : Type} (m : RTree α) : RTree α
noncomputable def Den (M : Model) (A : Around) : {α : Type} → RTree α → Sem α → Prop
  | _, .sem t', t => SimA M A t t'
  | _, .bind (β := β) m f, t => ∃ (tm : Sem β) (tf : β → Sem _), SimA M A t (tm >>= tf) ∧ Den M A m tm ∧ ∀ a, Den M A (f a) (tf a)
  | _, .same a b k, t => a = b → Den M A k t
  | _, .fail, _ => True
  | _, .dec b k, t => ∀ v, b = v → Den M A (k v) t
  | _, .calm m, t => ∃ (tm : Sem _) (h : Value → Sem Unit), SimA M A t (tm.onRaise h) ∧ Den M A m tm
structure Out where
  res : Result
  post : List Obj
  new : List (Nat × Obj)
  N : Nat
  T : Nat
structure Summ where
  code : Code
  pre : List Nat
  objs : List Obj
  P : Prop
  k : Nat
  b : Bool
  F : Bool → List Dr → Out
structure Sets where
  K : Nat → Option Obj
  subs : List (Code → Option (RTree Fin))
  sums : List (Code → Option Summ)
  rooms : List String
  dyn : List (Code → List Obj → Option Summ) := []
noncomputable abbrev zden (c : Code) : Sem Fin := PySem.W.ZFast.zw11892475500146522536 PySem.W.ZFast.tableZ c
noncomputable def fnOkE (fd : FuncData) : Option (FuncBody × Nat) := match fd.scope.isCoroutine, fd.scope.isGenerator, fd.code with
  | false, false, .ref c => some (fd.body, c)
  | _, _, _ => none
noncomputable def bodyCode (env : Env) : FuncBody → Code
  | .stmts b => .func b env
  | .expr e => .expr e env
noncomputable def qualOk (q : Str) (o : Obj) : Bool := match o.data with
  | .fields vs => match vs.toList with
    | _ :: .str x _ :: _ => decide (x = q)
    | _ => false
  | _ => false
noncomputable def funcOf (o : Obj) : Option FuncData := match o.data with
  | .func fd => some fd
  | _ => none
noncomputable def callOf : Code → Option (Nat × Args)
  | .call (.ref a) args => some (a, args)
  | _ => none
noncomputable def plainC (c : Code) : Bool := match c with
  | .builtin id _ => match PySem.W.S.strDecS id "claim.caller" with
    | .isTrue _ => false
    | .isFalse _ => true
  | _ => true
noncomputable def roomK {α : Type} (U : Sem α) (t : Sem α) : List (Code × Pos) → Sem α := fun acts => if (acts.map (·.1.cUnits)).sum ≥ cLine then U else t
noncomputable def lk (K : Nat → Option Obj) (j a : Nat) (st : RSt) (f : Obj → VT) : VT := onN j (onO (K a) f) fun j => onO (nth j st.ads) fun b => onO (nth j st.obs) fun o => .same a b (f o)
noncomputable def lkAll (as : List Nat) (os : List Obj) (st : RSt) (or : List Nat) (f : List Nat → List Nat → VT) : VT := @List.rec Nat (fun _ => List Obj → List Nat → (List Nat → List Nat → VT) → VT) (fun os or f => @List.rec Obj (fun _ => VT) (f [] or) (fun _ _ _ => .fail) os)
  (fun a _ ih os or f => onL os fun o' os => onL or fun j or => onO (nth j st.ads) fun b => onO (nth j st.obs) fun o => .same a b (.same o o' (ih os or fun js or => f (j :: js) or))) as os or f
noncomputable def notIn (j : Nat) (l : List Nat) : Bool := @List.rec Nat (fun _ => Bool) true (fun a _ ih => @Bool.rec (fun _ => Bool) ih false (Nat.beq a j)) l
noncomputable def apart (l : List Nat) : Bool := @List.rec Nat (fun _ => Bool) true (fun a r ih => @Bool.rec (fun _ => Bool) false ih (notIn a r)) l
noncomputable def setAll (js : List Nat) (os l : List Obj) : List Obj := @List.rec Nat (fun _ => List Obj → List Obj → List Obj) (fun _ l => l) (fun j _ ih os l => @List.rec Obj (fun _ => List Obj) l (fun o r _ => ih r (setAt o j l)) os) js os l
noncomputable abbrev KS (α : Type) := Except Value α → List Nat → RSt → VT
noncomputable abbrev KC := Result → List Nat → RSt → VT
structure Ex where
  s : (α : Type) → Nat → Sem α → List Nat → RSt → KS α → VT
  r : (α : Type) → Nat → RTree α → List Nat → RSt → KS α → VT
  c : Nat → Code → List Nat → RSt → KC → VT
noncomputable def ex0 : Ex := ⟨fun _ _ _ _ _ _ => .fail, fun _ _ _ _ _ _ => .fail, fun _ _ _ _ _ => .fail⟩
noncomputable def fin (I : Ex) (dp : Nat) (κ : KC) : KS Fin := fun x or st => onE x (fun e => κ (.error e) or st) fun f => match f with
  | .done f => κ (.ok f) or st
  | .again c => onT c.quiet (I.c dp c or st κ)
noncomputable def exS (P : Setting) (S : Sets) (I : Ex) (α : Type) (dp : Nat) (t : Sem α) (or : List Nat) (st : RSt) (κ : KS α) : VT := match t with
  | .pure a => κ (.ok a) or st
  | .raise e => κ (.error e) or st
  | .rule _ k => I.s α dp (k ()) or st κ
  | .at _ k => I.s α dp (k ()) or st κ
  | .point _ k => I.s α dp (k ()) or st κ
  | .ask k => I.s α dp (k P) or st κ
  | .load a _ k => onL or fun j or => lk S.K j a st fun o => I.s α dp (k o) or st κ
  | .update a _ f k => onL or fun j or => onN j .fail fun j => onO (nth j st.ads) fun b => onO (nth j st.obs) fun o => .same a b (onF (f o).isFreed (I.s α dp (k ()) or { st with obs := setAt (f o) j st.obs } κ))
  | .alloc o k => onF o.isFreed (I.s α dp (k (st.N + st.m)) or { st with ads := st.ads ++ [st.N + st.m], obs := st.obs ++ [o], m := st.m + 1 } κ)
  | .fresh k => I.s α dp (k (st.T + st.i)) or { st with i := st.i + 1 } κ
  | .handled false k => I.s α dp (k none) or st κ
  | .stack k => onL or fun j or => onO (nth j S.rooms) fun w => .same k (roomK (.unsupported s!"recursion.c-limit:near:{w}") (k [])) (I.s α dp (k []) or st κ)
  | .call c none _ _ k => I.c dp c or st fun r or st => I.s α dp (k r) or st κ
  | _ => .fail
noncomputable def fork (b : Bool) (or : List Nat) (st : RSt) (f : Bool → List Nat → RSt → VT) : VT := onL or fun j or => onN j (.dec b (f false or st) .fail) fun j => onN j (.dec b .fail (f true or st)) fun _ =>
  @BT.rec (fun _ => VT) .fail (fun lf f' lt t' _ _ => .dec b (f false lf { st with bt := f' }) (f true lt { st with bt := t' })) st.bt
noncomputable def exR (I : Ex) (α : Type) (dp : Nat) (t : RTree α) (or : List Nat) (st : RSt) (κ : KS α) : VT := match t with
  | .sem t => I.s α dp t or st κ
  | .bind (β := β) m f => I.r β dp m or st fun x or st => onE x (fun e => κ (.error e) or st) fun v => I.r α dp (f v) or st κ
  | .same a b k => .same a b (I.r α dp k or st κ)
  | .fail => .fail
  | .dec b k => fork b or st fun v or st => I.r α dp (k v) or st κ
  | .calm m => I.r α dp m or st fun x or st => onE x (fun _ => .fail) fun v => κ (.ok v) or st
noncomputable def drawn (k : Nat) (ρ : Nat → Dr) : List Dr := @Nat.rec (fun _ => (Nat → Dr) → List Dr) (fun _ => []) (fun _ ih ρ => ρ 0 :: ih fun j => ρ (j + 1)) k ρ
noncomputable def after (κ : KC) (js : List Nat) (x : Out) (or : List Nat) (st : RSt) (k : Nat) : VT :=
  κ x.res or { st with ads := st.ads ++ x.new.map (·.1), obs := setAll js x.post st.obs ++ x.new.map (·.2), N := x.N, m := 0, T := x.T, i := 0, ρ := fun j => st.ρ (j + k) }
noncomputable def exC (S : Sets) (I : Ex) (dp : Nat) (c : Code) (or : List Nat) (st : RSt) (κ : KC) : VT := onN dp .fail fun dp =>
  onL or fun op or => onN op (onT (plainC c) (I.s Fin dp (zden c) or st (fin I (dp + 1) κ)))
  fun op => onN op (onO (callOf c) fun x => onL or fun j or => lk S.K j x.1 st fun o => onO (funcOf o) fun fd => onO (fnOkE fd) fun y => onL or fun j or => lk S.K j y.2 st fun oc => onT (qualOk fd.qualname oc)
    (I.s _ dp (bindArgs fd x.2) or st fun b or st => onE b (fun _ => .fail) fun binds => I.s _ dp (newFunctionEnv fd.scope fd.globals fd.closure binds (fd.qualname ++ ".<locals>.") (some x.1) fd.code none fd.builtins) or st fun e or st =>
      onE e (fun _ => .fail) fun env => I.c (dp + 1) (bodyCode env y.1) or st κ))
  fun op => onN op (onL or fun j or => onO1 (nth1 j S.subs) fun f => onO1 (f c) fun r => onT (plainC c) (I.r Fin dp r or st (fin I (dp + 1) κ)))
  fun op => onN op (onL or fun j or => onO (nth j S.sums) fun f => onO (f c) fun z => .same c z.code (lkAll z.pre z.objs st or fun js or => onT (apart js) (.claim z.P (fork z.b or st fun v or st => after κ js (z.F v (drawn z.k st.ρ)) or st z.k))))
  fun _ => onL or fun j or => onO (nth j S.dyn) fun f => onO (f c st.obs) fun z => .same c z.code (lkAll z.pre z.objs st or fun js or => onT (apart js) (.claim z.P (fork z.b or st fun v or st => after κ js (z.F v (drawn z.k st.ρ)) or st z.k)))
noncomputable def ex (P : Setting) (S : Sets) (n : Nat) : Ex := @Nat.rec (fun _ => Ex) ex0 (fun _ I => ⟨exS P S I, exR I, exC S I⟩) n
end
end Mine
-- E2
namespace Mine
theorem zden_eq (c : Code) : denote treeTable c = zden c := by
  have e : treeTable = PySem.W.ZFast.tableZ := PySem.table_eq_tree.symm.trans PySem.W.ZFast.tableZ_eq
  rw [e]
  exact congrFun (congrFun PySem.W.ZFast.ze11892475500146522536 _) c
noncomputable def At (h : Heap) : List Nat → List Obj → Prop
  | [], [] => True
  | a :: as, o :: os => h.get? a = some o ∧ At h as os
  | _, _ => False
structure RRep (h₀ : Heap) (D : List Nat) (h : Heap) (st : RSt) : Prop where
  size : h.objs.size = st.N + st.m
  ge : h₀.objs.size ≤ st.N + st.m
  len : st.ads.length = st.obs.length
  get : ∀ (j : Nat) (a : Nat) (o : Obj), st.ads[j]? = some a → st.obs[j]? = some o → h.get? a = some o
  nodup : st.ads.Nodup
  keep : ∀ b o, h₀.get? b = some o → b ∉ D → h.get? b = some o
  sub : ∀ a ∈ st.ads, a ∈ D ∨ h₀.objs.size ≤ a
noncomputable def KOk (K : Nat → Option Obj) (h₀ : Heap) (D : List Nat) : Prop := ∀ a o, K a = some o → h₀.get? a = some o ∧ a ∉ D
section
variable {h₀ : Heap} {D : List Nat} {h : Heap} {st : RSt}
theorem RRep.have (R : RRep h₀ D h st) {a : Nat} (ha : a ∈ st.ads) : ∃ o, h.get? a = some o := by
  obtain ⟨j, hj, e⟩ := List.mem_iff_getElem.mp ha
  have hj' : j < st.obs.length := R.len ▸ hj
  exact ⟨st.obs[j], R.get j a _ (by rw [List.getElem?_eq_getElem hj, e]) (List.getElem?_eq_getElem hj')⟩
theorem RRep.lt (R : RRep h₀ D h st) {a : Nat} (ha : a ∈ st.ads) : a < st.N + st.m := by
  obtain ⟨o, ho⟩ := R.have ha
  have : (a : Nat) < h.objs.size := Heap.lt_size ho
  rw [R.size] at this
  exact this
theorem app_get {α : Type} {l l' : List α} {j : Nat} {x : α} (e : (l ++ l')[j]? = some x) : (j < l.length ∧ l[j]? = some x) ∨ (l.length ≤ j ∧ l'[j - l.length]? = some x) := by
  by_cases hj : j < l.length
  · exact .inl ⟨hj, by rwa [List.getElem?_append_left hj] at e⟩
  · exact .inr ⟨Nat.le_of_not_lt hj, by rwa [List.getElem?_append_right (Nat.le_of_not_lt hj)] at e⟩
theorem RRep.alloc (R : RRep h₀ D h st) {o : Obj} (hf : o.isFreed = false) : RRep h₀ D (h.push o) { st with ads := st.ads ++ [st.N + st.m], obs := st.obs ++ [o], m := st.m + 1 } := by
  have hsz := R.size
  have hge := R.ge
  refine ⟨by rw [Heap.size_push, hsz, Nat.add_assoc], Nat.le_succ_of_le hge, by simp [R.len], fun j a o' ea eo => ?_, ?_, fun b o' e hb => Heap.get?_push_of_some _ (R.keep b o' e hb), fun a ha => ?_⟩
  · rcases app_get ea with ⟨l1, e1⟩ | ⟨l1, e1⟩
    · rcases app_get eo with ⟨_, e2⟩ | ⟨l2, _⟩
      · exact Heap.get?_push_of_some _ (R.get j a o' e1 e2)
      · rw [R.len] at l1; omega
    · rcases app_get eo with ⟨l2, _⟩ | ⟨_, e2⟩
      · rw [R.len] at l1; omega
      · have a1 := List.mem_singleton.mp (List.mem_of_getElem? e1)
        have a2 := List.mem_singleton.mp (List.mem_of_getElem? e2)
        rw [a1, a2, ← hsz]
        exact Heap.get?_push_size _ hf
  · refine List.nodup_append.mpr ⟨R.nodup, by simp, fun a ha b hb => ?_⟩
    have lt := R.lt ha
    rw [List.mem_singleton.mp hb]
    omega
  · rcases List.mem_append.mp ha with ha | ha
    · exact R.sub a ha
    · rw [List.mem_singleton.mp ha]
      exact .inr hge
theorem RRep.update (R : RRep h₀ D h st) {j a : Nat} {o : Obj} {f : Obj → Obj} (ea : st.ads[j]? = some a) (eo : st.obs[j]? = some o) (hf : (f o).isFreed = false) :
    RRep h₀ D (h.update a f) { st with obs := setAt (f o) j st.obs } := by
  have hs : Heap.SameBut a h (h.update a f) := Heap.SameBut.update ..
  have ho := R.get j a o ea eo
  refine ⟨by rw [hs.1]; exact R.size, R.ge, by rw [setAt_len]; exact R.len, fun k b o' eb eo' => ?_, R.nodup, fun b o' e hb => ?_, R.sub⟩
  · dsimp only at eb eo'
    rw [setAt_eq] at eo'
    by_cases hk : j = k
    · subst hk
      rw [if_pos rfl, eo] at eo'
      rw [ea] at eb
      cases eb; cases eo'
      exact Heap.get?_update_self f ho hf
    · rw [if_neg hk] at eo'
      have ne : b ≠ a := fun q => by
        subst q
        obtain ⟨hj, ej⟩ := List.getElem?_eq_some_iff.mp ea
        obtain ⟨hk', ek⟩ := List.getElem?_eq_some_iff.mp eb
        exact hk ((List.getElem_inj R.nodup).mp (ej.trans ek.symm))
      exact (hs.2 b ne).trans (R.get k b o' eb eo')
  · have ne : b ≠ a := fun q => by
      subst q
      rcases R.sub b (List.mem_of_getElem? ea) with x | x
      · exact hb x
      · have lt : (b : Nat) < h₀.objs.size := Heap.lt_size e
        exact absurd lt (Nat.not_lt.mpr x)
    exact (hs.2 b ne).trans (R.keep b o' e hb)
end
structure OutGood (h h' : Heap) (pre : List Nat) (x : Out) : Prop where
  size : h'.objs.size = x.N
  ge : h.objs.size ≤ x.N
  post : At h' pre x.post
  new : ∀ y ∈ x.new, h'.get? y.1 = some y.2 ∧ h.objs.size ≤ y.1
  nd : (x.new.map (·.1)).Nodup
  keep : ∀ b o, h.get? b = some o → b ∉ pre → h'.get? b = some o
theorem At.get {h : Heap} : ∀ {as : List Nat} {os : List Obj}, At h as os → ∀ (j : Nat) (a : Nat) (o : Obj), as[j]? = some a → os[j]? = some o → h.get? a = some o
  | [], _, _, _, _, _, e, _ => by simp at e
  | _ :: _, [], H, _, _, _, _, _ => H.elim
  | _ :: _, _ :: _, H, 0, _, _, e1, e2 => by simp at e1 e2; rw [← e1, ← e2]; exact H.1
  | _ :: _, _ :: _, H, j + 1, a, o, e1, e2 => At.get H.2 j a o (by simpa using e1) (by simpa using e2)
theorem At.len {h : Heap} : ∀ {as : List Nat} {os : List Obj}, At h as os → as.length = os.length
  | [], [], _ => rfl
  | _ :: _, _ :: _, H => by simp [At.len H.2]
  | [], _ :: _, H => H.elim
  | _ :: _, [], H => H.elim
noncomputable def Places (ads : List Nat) : List Nat → List Nat → Prop
  | [], [] => True
  | j :: js, a :: as => ads[j]? = some a ∧ Places ads js as
  | _, _ => False
theorem Places.mem {ads : List Nat} : ∀ {js as : List Nat}, Places ads js as → ∀ a ∈ as, a ∈ ads
  | [], [], _, a, h => nomatch h
  | _ :: _, _ :: _, H, a, h => by
    rcases List.mem_cons.mp h with rfl | h
    · exact List.mem_of_getElem? H.1
    · exact Places.mem H.2 a h
theorem Places.back {ads : List Nat} : ∀ {js as : List Nat}, Places ads js as → ∀ j ∈ js, ∃ a ∈ as, ads[j]? = some a
  | [], [], _, a, h => nomatch h
  | _ :: _, b :: _, H, a, h => by
    rcases List.mem_cons.mp h with rfl | h
    · exact ⟨b, .head _, H.1⟩
    · obtain ⟨c, h1, h2⟩ := Places.back H.2 a h
      exact ⟨c, .tail _ h1, h2⟩
theorem notIn_of {j : Nat} : ∀ {l : List Nat}, notIn j l = true → j ∉ l
  | [], _ => by simp
  | a :: r, e => by
    have e' : @Bool.rec (fun _ => Bool) (notIn j r) false (Nat.beq a j) = true := e
    cases hb : Nat.beq a j with
    | true => rw [hb] at e'; cases e'
    | false =>
      rw [hb] at e'
      have ne : a ≠ j := Nat.ne_of_beq_eq_false hb
      intro h
      rcases List.mem_cons.mp h with q | q
      · exact ne q.symm
      · exact notIn_of e' q
theorem apart_of : ∀ {l : List Nat}, apart l = true → l.Nodup
  | [], _ => List.nodup_nil
  | a :: r, e => by
    have e' : @Bool.rec (fun _ => Bool) false (apart r) (notIn a r) = true := e
    cases hb : notIn a r with
    | false => rw [hb] at e'; cases e'
    | true =>
      rw [hb] at e'
      exact List.nodup_cons.mpr ⟨notIn_of hb, apart_of e'⟩
theorem Places.nodup {ads : List Nat} (hn : ads.Nodup) : ∀ {js as : List Nat}, Places ads js as → js.Nodup → as.Nodup
  | [], [], _, _ => List.nodup_nil
  | j :: js, a :: as, H, N => by
    obtain ⟨n1, n2⟩ := List.nodup_cons.mp N
    refine List.nodup_cons.mpr ⟨fun h => ?_, Places.nodup hn H.2 n2⟩
    have back : ∀ {js as : List Nat}, Places ads js as → a ∈ as → ∃ k ∈ js, ads[k]? = some a := by
      intro js
      induction js with
      | nil => intro as P m; cases as with
        | nil => cases m
        | cons _ _ => exact P.elim
      | cons k js ih => intro as P m; cases as with
        | nil => exact P.elim
        | cons b as =>
          rcases List.mem_cons.mp m with rfl | m
          · exact ⟨k, .head _, P.1⟩
          · obtain ⟨k', h1, h2⟩ := ih P.2 m
            exact ⟨k', .tail _ h1, h2⟩
    obtain ⟨k, hk, ek⟩ := back H.2 h
    obtain ⟨l1, e1⟩ := List.getElem?_eq_some_iff.mp H.1
    obtain ⟨l2, e2⟩ := List.getElem?_eq_some_iff.mp ek
    have : j = k := (List.getElem_inj hn).mp (e1.trans e2.symm)
    exact n1 (this ▸ hk)
theorem setAll_len : ∀ (js : List Nat) (os l : List Obj), (setAll js os l).length = l.length
  | [], _, _ => rfl
  | _ :: _, [], _ => rfl
  | j :: js, o :: os, l => by
    show (setAll js os (setAt o j l)).length = _
    rw [setAll_len js os, setAt_len]
theorem setAll_get : ∀ (js : List Nat) (os l : List Obj) (k : Nat) (o : Obj), (setAll js os l)[k]? = some o → js.length = os.length → js.Nodup → (∃ n : Nat, js[n]? = some k ∧ os[n]? = some o) ∨ (k ∉ js ∧ l[k]? = some o)
  | [], _, _, k, o, e, _, _ => .inr ⟨by simp, e⟩
  | _ :: _, [], _, _, _, _, hl, _ => by cases hl
  | j :: js, x :: os, l, k, o, e, hl, hn => by
    obtain ⟨n1, n2⟩ := List.nodup_cons.mp hn
    rcases setAll_get js os (setAt x j l) k o e (by simpa using hl) n2 with ⟨n, e1, e2⟩ | ⟨h1, h2⟩
    · exact .inl ⟨n + 1, by simpa using e1, by simpa using e2⟩
    · rw [setAt_eq] at h2
      by_cases hk : j = k
      · subst hk
        rw [if_pos rfl] at h2
        refine .inl ⟨0, rfl, ?_⟩
        cases hl2 : l[j]? with
        | none => rw [hl2] at h2; cases h2
        | some y => rw [hl2] at h2; cases h2; rfl
      · rw [if_neg hk] at h2
        exact .inr ⟨by simp only [List.mem_cons, not_or]; exact ⟨fun q => hk q.symm, h1⟩, h2⟩
theorem Places.nth {ads : List Nat} : ∀ {js as : List Nat}, Places ads js as → ∀ (n j : Nat), js[n]? = some j → ∃ a, as[n]? = some a ∧ ads[j]? = some a
  | [], [], _, n, j, e => by simp at e
  | _ :: _, b :: _, H, 0, j, e => by simp at e; subst e; exact ⟨b, rfl, H.1⟩
  | _ :: _, _ :: _, H, n + 1, j, e => by
    obtain ⟨a, h1, h2⟩ := Places.nth H.2 n j (by simpa using e)
    exact ⟨a, by simpa using h1, h2⟩
theorem Places.len {ads : List Nat} : ∀ {js as : List Nat}, Places ads js as → js.length = as.length
  | [], [], _ => rfl
  | _ :: _, _ :: _, H => by simp [Places.len H.2]
theorem RRep.out {h₀ h h' : Heap} {D : List Nat} {st : RSt} {js as : List Nat} {x : Out} {ρ : Nat → Dr} (R : RRep h₀ D h st) (P : Places st.ads js as) (hj : js.Nodup) (G : OutGood h h' as x) :
    RRep h₀ D h' { st with ads := st.ads ++ x.new.map (·.1), obs := setAll js x.post st.obs ++ x.new.map (·.2), N := x.N, m := 0, T := x.T, i := 0, ρ := ρ } := by
  have hsz := R.size
  have hge := R.ge
  have gge := G.ge
  have lj : js.length = x.post.length := by rw [P.len]; exact G.post.len
  refine ⟨G.size, by show _ ≤ x.N + 0; omega, by simp [setAll_len, R.len], fun j a o ea eo => ?_, ?_, fun b o e hb => ?_, fun a ha => ?_⟩
  · rcases app_get ea with ⟨l1, e1⟩ | ⟨l1, e1⟩
    · rcases app_get eo with ⟨_, e2⟩ | ⟨l2, _⟩
      · rcases setAll_get _ _ _ _ _ e2 lj hj with ⟨n, q1, q2⟩ | ⟨q1, q2⟩
        · obtain ⟨a', r1, r2⟩ := P.nth n j q1
          rw [r2] at e1
          cases e1
          exact G.post.get n _ o r1 q2
        · refine G.keep _ _ (R.get j a o e1 q2) fun m => ?_
          obtain ⟨n, hn, en⟩ := List.mem_iff_getElem.mp m
          have ln : n < js.length := by rw [P.len]; exact hn
          obtain ⟨a', r1, r2⟩ := P.nth n _ (List.getElem?_eq_getElem ln)
          rw [List.getElem?_eq_getElem hn, en] at r1
          cases r1
          obtain ⟨k1, v1⟩ := List.getElem?_eq_some_iff.mp e1
          obtain ⟨k2, v2⟩ := List.getElem?_eq_some_iff.mp r2
          have : j = js[n] := (List.getElem_inj R.nodup).mp (v1.trans v2.symm)
          exact q1 (this ▸ List.getElem_mem ln)
      · rw [setAll_len, ← R.len] at l2; omega
    · rcases app_get eo with ⟨l2, _⟩ | ⟨_, e2⟩
      · rw [setAll_len, ← R.len] at l2; omega
      · rw [setAll_len, ← R.len] at e2
        rw [List.getElem?_map] at e1 e2
        cases q : x.new[j - st.ads.length]? with
        | none => rw [q] at e1; cases e1
        | some y =>
          rw [q] at e1 e2
          cases e1; cases e2
          exact (G.new y (List.mem_of_getElem? q)).1
  · refine List.nodup_append.mpr ⟨R.nodup, G.nd, fun a ha b hb => ?_⟩
    have lt := R.lt ha
    obtain ⟨y, hy, rfl⟩ := List.mem_map.mp hb
    have := (G.new y hy).2
    rw [hsz] at this
    intro e
    rw [e] at lt
    exact absurd lt (Nat.not_lt.mpr this)
  · refine G.keep _ _ (R.keep b o e hb) fun m => ?_
    rcases R.sub b (P.mem b m) with q | q
    · exact hb q
    · have lt : (b : Nat) < h₀.objs.size := Heap.lt_size e
      exact absurd lt (Nat.not_lt.mpr q)
  · rcases List.mem_append.mp ha with ha | ha
    · exact R.sub a ha
    · obtain ⟨y, hy, rfl⟩ := List.mem_map.mp ha
      have := (G.new y hy).2
      exact .inr (by rw [hsz] at this; omega)
noncomputable def app (l : List Dr) (ρ : Nat → Dr) : Nat → Dr := match l with
  | [] => ρ
  | a :: r => fun j => match j with
    | 0 => a
    | j + 1 => app r ρ j
theorem drawn_app (ρ : Nat → Dr) : ∀ l : List Dr, drawn l.length (app l ρ) = l
  | [] => rfl
  | a :: r => by
    show app (a :: r) ρ 0 :: drawn r.length (fun j => app (a :: r) ρ (j + 1)) = _
    exact congrArg (a :: ·) (drawn_app ρ r)
theorem app_shift (ρ : Nat → Dr) : ∀ l : List Dr, (fun j => app l ρ (j + l.length)) = ρ
  | [] => rfl
  | a :: r => app_shift ρ r
theorem frames_le (c : Code) : c.frames ≤ 3 := by
  unfold Code.frames
  split <;> first | decide | (split <;> decide)
theorem plainC_of {c : Code} (h : plainC c = true) : c.weight ≤ 5 := by
  have hc : c.isCaller = false := by
    unfold plainC at h
    unfold Code.isCaller
    split at h
    · rename_i id args
      split at h
      · cases h
      · rename_i q _
        split
        · rename_i e; cases e; exact absurd rfl q
        · rfl
    · rename_i hn
      split
      · exact absurd rfl (hn _ _)
      · rfl
  have := frames_le c
  unfold Code.weight
  rw [hc]
  (repeat' split) <;> first | omega | (rename_i q _; cases q) | simp_all
theorem cUnits_le (c : Code) : c.cUnits ≤ 10 := by
  have := frames_le c
  unfold Code.cUnits
  split <;> omega
end Mine
-- E3
namespace Mine
section
variable {σ ι : Type} {ρ0 : ι}
theorem onO_h {o : Option σ} {f : ι → σ → VT} (ρ0 : ι) (H : ∀ ρ, (onO o (f ρ)).Holds) : ∃ x, o = some x ∧ ∀ ρ, (f ρ x).Holds := by
  cases o with
  | none => exact (H ρ0).elim
  | some x => exact ⟨x, rfl, H⟩
theorem onO1_h {σ : Type 1} {o : Option σ} {f : ι → σ → VT} (ρ0 : ι) (H : ∀ ρ, (onO1 o (f ρ)).Holds) : ∃ x, o = some x ∧ ∀ ρ, (f ρ x).Holds := by
  cases o with
  | none => exact (H ρ0).elim
  | some x => exact ⟨x, rfl, H⟩
theorem onL_h {l : List σ} {f : ι → σ → List σ → VT} (ρ0 : ι) (H : ∀ ρ, (onL l (f ρ)).Holds) : ∃ x r, l = x :: r ∧ ∀ ρ, (f ρ x r).Holds := by
  cases l with
  | nil => exact (H ρ0).elim
  | cons x r => exact ⟨x, r, rfl, H⟩
theorem onT_h {b : Bool} {t : ι → VT} (ρ0 : ι) (H : ∀ ρ, (onT b (t ρ)).Holds) : b = true ∧ ∀ ρ, (t ρ).Holds := by
  cases b with
  | false => exact (H ρ0).elim
  | true => exact ⟨rfl, H⟩
theorem onF_h {b : Bool} {t : ι → VT} (ρ0 : ι) (H : ∀ ρ, (onF b (t ρ)).Holds) : b = false ∧ ∀ ρ, (t ρ).Holds := by
  cases b with
  | true => exact (H ρ0).elim
  | false => exact ⟨rfl, H⟩
theorem same_h {β : Type} {a b : β} {t : ι → VT} (ρ0 : ι) (H : ∀ ρ, (VT.same a b (t ρ)).Holds) : a = b ∧ ∀ ρ, (t ρ).Holds := ⟨(H ρ0).1, fun ρ => (H ρ).2⟩
end
noncomputable abbrev Stream := Nat → Dr
noncomputable abbrev ρz : Stream := fun _ => ⟨0, default, default⟩
noncomputable def RSt.str (st : RSt) (ρ : Stream) : RSt := { st with ρ := ρ }
noncomputable def PostX {α : Type} (x : Except Value α) (Q : α → Shared → Prop) (E : Value → Shared → Prop) (s : Shared) : Prop := match x with
  | .ok a => Q a s
  | .error e => E e s
noncomputable def SummHolds (prog : Program) (w : World) (K : Nat → Option Obj) (need : Nat) (z : Summ) : Prop := z.P → ∀ (A : Around) (s : Shared) (R : Result → Shared → Prop), A.handled = none → A.depth + need < recursionLimit → A.units + 2 * need < cLine →
    KOk K s.heap z.pre → s.heap.NoLimit → 214 ≤ s.heap.objs.size → z.pre.Nodup → At s.heap z.pre z.objs → (∀ xs h', xs.length = z.k → OutGood s.heap h' z.pre (z.F z.b xs) → R (z.F z.b xs).res ⟨h', s.gens, s.drawn, (z.F z.b xs).T, s.os⟩) → codeAny (model prog w) A z.code R s
structure SetsOk (prog : Program) (w : World) (S : Sets) (need : Nat) : Prop where
  subs : ∀ f ∈ S.subs, ∀ c r, f c = some r → ∀ A : Around, A.depth < recursionLimit → A.units < cLine → Den (model prog w) A r (denote treeTable c)
  sums : ∀ f ∈ S.sums, ∀ c z, f c = some z → SummHolds prog w S.K need z
  dyn : ∀ f ∈ S.dyn, ∀ c os z, f c os = some z → SummHolds prog w S.K need z
section
variable (prog : Program) (w : World) (S : Sets) (need : Nat) (h₀ : Heap) (D : List Nat) (g : Array GenState) (d : Drawn) (os : OsState)
noncomputable def Room (A : Around) (dp : Nat) : Prop := A.handled = none ∧ A.depth + 5 * dp + need < recursionLimit ∧ A.units + 10 * dp + 2 * need < cLine
noncomputable def After {α : Type} (κ : KS α) (Q : α → Shared → Prop) (E : Value → Shared → Prop) : Prop := ∀ x or st h, RRep h₀ D h st → (∀ ρ, (κ x or (st.str ρ)).Holds) → PostX x Q E ⟨h, g, d, st.T + st.i, os⟩
noncomputable def AfterC (κ : KC) (R : Result → Shared → Prop) : Prop := ∀ r or st h, RRep h₀ D h st → (∀ ρ, (κ r or (st.str ρ)).Holds) → R r ⟨h, g, d, st.T + st.i, os⟩
noncomputable def SndS (I : Ex) : Prop := ∀ (α : Type) dp (t : Sem α) or st κ A h Q E, Room need A dp → RRep h₀ D h st → (∀ ρ, (I.s α dp t or (st.str ρ) κ).Holds) → After h₀ D g d os κ Q E → wpAny (model prog w) A t Q E ⟨h, g, d, st.T + st.i, os⟩
noncomputable def SndR (I : Ex) : Prop := ∀ (α : Type) dp (r : RTree α) (t : Sem α) or st κ A h Q E, Room need A dp → RRep h₀ D h st → (∀ ρ, (I.r α dp r or (st.str ρ) κ).Holds) → Den (model prog w) A r t → After h₀ D g d os κ Q E → wpAny (model prog w) A t Q E ⟨h, g, d, st.T + st.i, os⟩
noncomputable def SndC (I : Ex) : Prop := ∀ dp c or st κ A h R, Room need A dp → RRep h₀ D h st → (∀ ρ, (I.c dp c or (st.str ρ) κ).Holds) → AfterC h₀ D g d os κ R → codeAny (model prog w) A c R ⟨h, g, d, st.T + st.i, os⟩
variable {prog w S need h₀ D g d os} {I : Ex}
theorem RRep.str {h : Heap} {st : RSt} (R : RRep h₀ D h st) (ρ : Stream) : RRep h₀ D h (st.str ρ) := ⟨R.size, R.ge, R.len, R.get, R.nodup, R.keep, R.sub⟩
theorem RRep.tok {h : Heap} {st : RSt} (R : RRep h₀ D h st) (k : Nat) : RRep h₀ D h { st with i := k } := ⟨R.size, R.ge, R.len, R.get, R.nodup, R.keep, R.sub⟩
theorem RRep.fork {h : Heap} {st : RSt} (R : RRep h₀ D h st) (b : BT) : RRep h₀ D h { st with bt := b } := ⟨R.size, R.ge, R.len, R.get, R.nodup, R.keep, R.sub⟩
theorem lk_h {K : Nat → Option Obj} (hK : KOk K h₀ D) {j a : Nat} {h : Heap} {st : RSt} {f : Stream → Obj → VT} (R : RRep h₀ D h st) (H : ∀ ρ, (lk K j a (st.str ρ) (f ρ)).Holds) : ∃ o, h.get? a = some o ∧ ∀ ρ, (f ρ o).Holds := by
  cases j with
  | zero =>
    obtain ⟨o, e, H⟩ := onO_h ρz (show ∀ ρ, (onO (K a) (f ρ)).Holds from H)
    exact ⟨o, R.keep _ _ (hK _ _ e).1 (hK _ _ e).2, H⟩
  | succ j =>
    obtain ⟨b, e1, H⟩ := onO_h (o := nth j st.ads) (f := fun ρ b => onO (nth j st.obs) fun o => .same a b (f ρ o)) ρz H
    obtain ⟨o, e2, H⟩ := onO_h (o := nth j st.obs) (f := fun ρ o => .same a b (f ρ o)) ρz H
    obtain ⟨eab, H'⟩ := same_h ρz H
    rw [nth_eq] at e1 e2
    exact ⟨o, by rw [eab]; exact R.get _ _ _ e1 e2, H'⟩
theorem sndS (hK : KOk S.K h₀ D) (IS : SndS prog w need h₀ D g d os I) (IC : SndC prog w need h₀ D g d os I) : SndS prog w need h₀ D g d os ⟨exS ⟨prog, w.params⟩ S I, I.r, I.c⟩ := by
  intro α dp t or st κ A h Q E a R H q
  cases t with
  | pure x => exact x_pure (q (.ok x) or st h R H)
  | raise x => exact x_raise (q (.error x) or st h R H)
  | rule _ k => exact x_rule (IS _ _ _ _ _ _ _ _ _ _ a R H q)
  | «at» _ k => exact x_at (IS _ _ _ _ _ _ _ _ _ _ a R H q)
  | point _ k => exact x_point (IS _ _ _ _ _ _ _ _ _ _ a R H q)
  | ask k => exact x_ask (IS _ _ _ _ _ _ _ _ _ _ a R H q)
  | load b p k =>
    obtain ⟨j, or, rfl, H⟩ := onL_h (l := or) (f := fun ρ j or => lk S.K j b (st.str ρ) fun o => I.s α dp (k o) or (st.str ρ) κ) ρz H
    obtain ⟨o, ho, H⟩ := lk_h (f := fun ρ o => I.s α dp (k o) or (st.str ρ) κ) hK R H
    exact x_load ho (IS _ _ _ _ _ _ _ _ _ _ a R H q)
  | update b p f k =>
    obtain ⟨j, or, rfl, H⟩ := onL_h (l := or) (f := fun ρ j or => onN j .fail fun j => onO (nth j st.ads) fun b' => onO (nth j st.obs) fun o => .same b b' (onF (f o).isFreed (I.s α dp (k ()) or (({ st with obs := setAt (f o) j st.obs } : RSt).str ρ) κ))) ρz H
    cases j with
    | zero => exact (H ρz).elim
    | succ j =>
      obtain ⟨b', e1, H⟩ := onO_h (o := nth j st.ads) (f := fun ρ b' => onO (nth j st.obs) fun o => .same b b' (onF (f o).isFreed (I.s α dp (k ()) or (({ st with obs := setAt (f o) j st.obs } : RSt).str ρ) κ))) ρz H
      obtain ⟨o, e2, H⟩ := onO_h (o := nth j st.obs) (f := fun ρ o => .same b b' (onF (f o).isFreed (I.s α dp (k ()) or (({ st with obs := setAt (f o) j st.obs } : RSt).str ρ) κ))) ρz H
      obtain ⟨eab, H'⟩ := same_h ρz H
      clear H
      subst eab
      obtain ⟨hf, H⟩ := onF_h (b := (f o).isFreed) (t := fun ρ => I.s α dp (k ()) or (({ st with obs := setAt (f o) j st.obs } : RSt).str ρ) κ) ρz H'
      rw [nth_eq] at e1 e2
      exact wpAny_bind (m := updatePart b p f) (f := k) (wpAny_updatePart (R.get _ _ _ e1 e2) (IS _ _ _ _ { st with obs := setAt (f o) j st.obs } _ _ _ _ _ a (R.update e1 e2 hf) H q))
  | alloc o k =>
    obtain ⟨hf, H⟩ := onF_h (b := o.isFreed) (t := fun ρ => I.s α dp (k (st.N + st.m)) or (({ st with ads := st.ads ++ [st.N + st.m], obs := st.obs ++ [o], m := st.m + 1 } : RSt).str ρ) κ) ρz H
    refine wpAny_bind (m := PySem.alloc o) (f := k) (wpAny_alloc ?_)
    show wpAny _ _ (k h.objs.size) _ _ _
    rw [R.size]
    exact IS _ _ _ _ { st with ads := st.ads ++ [st.N + st.m], obs := st.obs ++ [o], m := st.m + 1 } _ _ _ _ _ a (R.alloc hf) H q
  | fresh k => exact x_fresh (IS _ _ _ _ _ _ _ _ _ _ a (R.tok (st.i + 1)) H q)
  | handled own k =>
    cases own with
    | true => exact (H ρz).elim
    | false =>
      refine x_handled ?_
      rw [a.1]
      exact IS _ _ _ _ _ _ _ _ _ _ a R H q
  | stack k =>
    obtain ⟨j, or, rfl, H⟩ := onL_h (l := or) (f := fun ρ j or => onO (nth j S.rooms) fun w => .same k (roomK (.unsupported s!"recursion.c-limit:near:{w}") (k [])) (I.s α dp (k []) or (st.str ρ) κ)) ρz H
    obtain ⟨w', _, H⟩ := onO_h (o := nth j S.rooms) (f := fun ρ w => .same k (roomK (.unsupported s!"recursion.c-limit:near:{w}") (k [])) (I.s α dp (k []) or (st.str ρ) κ)) ρz H
    have hk := (H ρz).1
    have z := IS _ _ _ _ _ _ _ _ _ _ a R (fun ρ => (H ρ).2) q
    intro Γ p hΓ
    rw [Sem.wp_stack, hk]
    have hs : (((Γ.code, p) :: Γ.below).map (·.1.cUnits)).sum = Γ.units := unitsOf_cons _ _ _
    show Sem.wp _ Γ (if (((Γ.code, p) :: Γ.below).map (·.1.cUnits)).sum ≥ cLine then _ else k []) _ _ p _
    have a3 := a.2.2
    rw [hs, if_neg (by have := hΓ.2.2.2.2; omega)]
    exact z Γ p hΓ
  | call c hd gd l k =>
    cases hd with
    | some _ => exact (H ρz).elim
    | none => exact x_call (IC dp c or st _ (A.mark none) h _ a R H fun r or' st' h' R' H' => IS _ _ _ _ _ _ _ _ _ _ a R' H' q) (by intro h; cases h)
  | unsupported | finish | loadIfAlive | register | choose | os | newGen | genState | resume | yield | fork | thread | await => exact (H ρz).elim
theorem fork_h {b : Bool} {or : List Nat} {st : RSt} {f : Stream → Bool → List Nat → RSt → VT} (H : ∀ ρ, (fork b or (st.str ρ) (f ρ)).Holds) : ∃ or' bt, ∀ ρ, (f ρ b or' (({ st with bt := bt } : RSt).str ρ)).Holds := by
  obtain ⟨j, or, rfl, H⟩ := onL_h (l := or) (f := fun ρ j or => onN j (.dec b (f ρ false or (st.str ρ)) .fail) fun j => onN j (.dec b .fail (f ρ true or (st.str ρ))) fun _ =>
    @BT.rec (fun _ => VT) .fail (fun lf f' lt t' _ _ => .dec b (f ρ false lf (({ st with bt := f' } : RSt).str ρ)) (f ρ true lt (({ st with bt := t' } : RSt).str ρ))) st.bt) ρz H
  match j, H with
  | 0, H =>
    cases hv : b with
    | true => exact ((H ρz).2 hv).elim
    | false => exact ⟨or, st.bt, fun ρ => (H ρ).1 hv⟩
  | 1, H =>
    cases hv : b with
    | false => exact ((H ρz).1 hv).elim
    | true => exact ⟨or, st.bt, fun ρ => (H ρ).2 hv⟩
  | _ + 2, H =>
    have H0 : ∀ ρ, (@BT.rec (fun _ => VT) VT.fail (fun lf f' lt t' _ _ => .dec b (f ρ false lf (({ st with bt := f' } : RSt).str ρ)) (f ρ true lt (({ st with bt := t' } : RSt).str ρ))) st.bt).Holds := H
    cases hb : st.bt with
    | n => rw [hb] at H0; exact (H0 ρz).elim
    | b lf f' lt t' =>
      rw [hb] at H0
      cases hv : b with
      | false => exact ⟨lf, f', fun ρ => (H0 ρ).1 hv⟩
      | true => exact ⟨lt, t', fun ρ => (H0 ρ).2 hv⟩
theorem sndR (IS : SndS prog w need h₀ D g d os I) (IR : SndR prog w need h₀ D g d os I) : SndR prog w need h₀ D g d os ⟨I.s, exR I, I.c⟩ := by
  intro α dp r t or st κ A h Q E a R H dn q
  cases r with
  | sem t' => exact dn _ _ _ (IS _ _ _ _ _ _ _ _ _ _ a R H q)
  | bind m f =>
    obtain ⟨tm, tf, hs, h1, h2⟩ := dn
    refine hs _ _ _ (wpAny_bind ?_)
    refine IR _ _ m tm _ _ _ _ _ _ _ a R H h1 fun x or' st' h' R' H' => ?_
    cases x with
    | ok v => exact IR _ _ (f v) (tf v) _ _ _ _ _ _ _ a R' H' (h2 v) q
    | error e => exact q (.error e) or' st' h' R' H'
  | same b b' k =>
    obtain ⟨e, H⟩ := same_h (t := fun ρ => I.r α dp k or (st.str ρ) κ) ρz H
    exact IR _ _ k t _ _ _ _ _ _ _ a R H (dn e) q
  | fail => exact (H ρz).elim
  | dec v k =>
    obtain ⟨or', bt, H⟩ := fork_h (f := fun ρ v or st => I.r α dp (k v) or st κ) H
    exact IR _ _ (k v) t _ { st with bt := bt } _ _ _ _ _ a (R.fork bt) H (dn _ rfl) q
  | calm m =>
    obtain ⟨tm, hh, hs, h1⟩ := dn
    refine hs _ _ _ (wpAny_onRaise ?_)
    refine IR _ _ m tm _ _ _ _ _ _ _ a R H h1 fun x or' st' h' R' H' => ?_
    cases x with
    | ok v => exact q (.ok v) or' st' h' R' H'
    | error e => exact (H' ρz).elim
theorem x_codeT {A : Around} {s : Shared} {c : Code} {R : Result → Shared → Prop} (h : wpAny (model prog w) (A.under c) (denote treeTable c) (fun fin s' => match fin with | .done f => R (.ok f) s' | .again c' => c'.quiet = true ∧ codeAny (model prog w) A c' R s') (fun e s' => R (.error e) s') s) :
    codeAny (model prog w) A c R s := x_code (by rw [table_eq_tree]; exact h)
theorem room_under {A : Around} {c : Code} {dp : Nat} (hc : plainC c = true) (a : Room need A (dp + 1)) : Room need (A.under c) dp := by
  have h1 := plainC_of hc
  have h2 := cUnits_le c
  obtain ⟨a1, a2, a3⟩ := a
  refine ⟨a1, ?_, ?_⟩
  · show A.depth + c.weight + 5 * dp + need < recursionLimit
    omega
  · show A.units + c.cUnits + 10 * dp + 2 * need < cLine
    omega
theorem after_fin (IC : SndC prog w need h₀ D g d os I) {A : Around} {dp : Nat} {κ : KC} {R : Result → Shared → Prop} (a : Room need A dp) (q : AfterC h₀ D g d os κ R) :
    After h₀ D g d os (fin I dp κ) (fun f s' => match f with | .done f => R (.ok f) s' | .again c' => c'.quiet = true ∧ codeAny (model prog w) A c' R s') (fun e s' => R (.error e) s') := by
  intro x or st h R' H
  cases x with
  | error e => exact q (.error e) or st h R' H
  | ok f =>
    cases f with
    | done f => exact q (.ok f) or st h R' H
    | again c' =>
      obtain ⟨hq, H⟩ := onT_h (b := c'.quiet) (t := fun ρ => I.c dp c' or (st.str ρ) κ) ρz H
      exact ⟨hq, IC _ _ _ _ _ _ _ _ a R' H q⟩
theorem fnOkE_is {fd : FuncData} {y : FuncBody × Nat} (e : fnOkE fd = some y) : fd.scope.isCoroutine = false ∧ fd.scope.isGenerator = false ∧ fd.body = y.1 ∧ fd.code = .ref y.2 := by
  unfold fnOkE at e
  split at e
  · rename_i e1 e2 e3
    cases e
    exact ⟨e1, e2, rfl, e3⟩
  · cases e
theorem call_any {prog : Program} {w : World} {A : Around} {R : Result → Shared → Prop} {s : Shared} {a : Addr} {args : Args} {o : Obj} {fd : FuncData} {body : FuncBody} (hroom : A.depth < recursionLimit) (ho : s.heap.get? a = some o)
    (hd' : o.data = .func fd) (hco : fd.scope.isCoroutine = false) (hgen : fd.scope.isGenerator = false) (hbody : fd.body = body) (hcd : s.heap.CodeRec fd.code fd.qualname)
    (h : wpAny (model prog w) A.in1 (bindArgs fd args) (fun binds s₁ =>
      wpAny (model prog w) A.in1 (newFunctionEnv fd.scope fd.globals fd.closure binds (fd.qualname ++ ".<locals>.") (some a) fd.code none fd.builtins)
        (fun env s₂ => s₂.heap.NoLimit ∧ codeAny (model prog w) A (bodyCode env body) R s₂) (fun e s' => R (.error e) s') s₁) (fun e s' => R (.error e) s') s) :
    codeAny (model prog w) A (.call (.ref a) args) R s := by
  cases body with
  | stmts b => exact codeAny_call_function hroom ho hd' hco hgen hbody hcd h
  | expr e => exact kla_callFunE hroom ho hd' hco hgen hbody hcd h
theorem qualOk_is {q : Str} {o : Obj} (e : qualOk q o = true) : ∃ vs t, o.data = .fields vs ∧ vs[1]? = some (.str q t) := by
  unfold qualOk at e
  split at e
  · rename_i vs hd
    split at e
    · rename_i a x t r hv
      have : x = q := of_decide_eq_true e
      subst this
      refine ⟨vs, t, hd, ?_⟩
      rw [← Array.getElem?_toList, hv]
      rfl
    · cases e
  · cases e
theorem lkAll_h {h : Heap} {st : RSt} (R : RRep h₀ D h st) : ∀ {as : List Nat} {os : List Obj} {or : List Nat} {f : Stream → List Nat → List Nat → VT}, (∀ ρ, (lkAll as os (st.str ρ) or (f ρ)).Holds) → ∃ js or', Places st.ads js as ∧ At h as os ∧ ∀ ρ, (f ρ js or').Holds
  | [], [], or, f, H => ⟨[], or, trivial, trivial, H⟩
  | [], _ :: _, or, f, H => (H ρz).elim
  | a :: as, [], or, f, H => (H ρz).elim
  | a :: as, o' :: os, or, f, H => by
    obtain ⟨j, or, rfl, H⟩ := onL_h (l := or) (f := fun ρ j or => onO (nth j st.ads) fun b => onO (nth j st.obs) fun o => .same a b (.same o o' (lkAll as os (st.str ρ) or fun js or => f ρ (j :: js) or))) ρz H
    obtain ⟨b, e1, H⟩ := onO_h (o := nth j st.ads) (f := fun ρ b => onO (nth j st.obs) fun o => .same a b (.same o o' (lkAll as os (st.str ρ) or fun js or => f ρ (j :: js) or))) ρz H
    obtain ⟨o, e2, H⟩ := onO_h (o := nth j st.obs) (f := fun ρ o => .same a b (.same o o' (lkAll as os (st.str ρ) or fun js or => f ρ (j :: js) or))) ρz H
    obtain ⟨eab, H⟩ := same_h (t := fun ρ => .same o o' (lkAll as os (st.str ρ) or fun js or => f ρ (j :: js) or)) ρz H
    obtain ⟨eo, H⟩ := same_h (t := fun ρ => lkAll as os (st.str ρ) or fun js or => f ρ (j :: js) or) ρz H
    obtain ⟨js, or', h1, h2, h3⟩ := lkAll_h R (f := fun ρ js or => f ρ (j :: js) or) H
    rw [nth_eq] at e1 e2
    exact ⟨j :: js, or', ⟨by rw [eab]; exact e1, h1⟩, ⟨by rw [eab, ← eo]; exact R.get _ _ _ e1 e2, h2⟩, h3⟩
theorem mem_nth {α : Type} {j : Nat} {l : List α} {x : α} (e : nth j l = some x) : x ∈ l := by
  rw [nth_eq] at e
  exact List.mem_of_getElem? e
theorem mem_nth1 {α : Type 1} : ∀ {j : Nat} {l : List α} {x : α}, nth1 j l = some x → x ∈ l
  | _, [], _, e => by cases e
  | 0, a :: r, x, e => by cases e; exact .head _
  | j + 1, a :: r, x, e => .tail _ (mem_nth1 (j := j) (l := r) e)
theorem snd_sum (hK : KOk S.K h₀ D) (hL : h₀.NoLimit) (hB : 214 ≤ h₀.objs.size) (hc : cStatics ∉ D) {dp : Nat} {c : Code} {or : List Nat} {st : RSt} {κ : KC} {A : Around} {h : Heap} {R : Result → Shared → Prop} (a : Room need A (dp + 1)) (RR : RRep h₀ D h st) {z : Summ} (hz : SummHolds prog w S.K need z)
    (H : ∀ ρ, (VT.same c z.code (lkAll z.pre z.objs (st.str ρ) or fun js or => onT (apart js) (VT.claim z.P (fork z.b or (st.str ρ) fun v or st => after κ js (z.F v (drawn z.k st.ρ)) or st z.k)))).Holds) (q : AfterC h₀ D g d os κ R) : codeAny (model prog w) A c R ⟨h, g, d, st.T + st.i, os⟩ := by
  let G := fun (ρ : Stream) (z : Summ) (js : List Nat) (or : List Nat) => onT (apart js) (VT.claim z.P (fork z.b or (st.str ρ) fun v or st => after κ js (z.F v (drawn z.k st.ρ)) or st z.k))
  obtain ⟨ec, H⟩ := same_h (t := fun ρ => lkAll z.pre z.objs (st.str ρ) or fun js or => G ρ z js or) ρz H
  obtain ⟨js, or, hP, hA, H⟩ := lkAll_h RR (f := fun ρ js or => G ρ z js or) H
  obtain ⟨hj, H⟩ := onT_h (b := apart js) (t := fun ρ => VT.claim z.P (fork z.b or (st.str ρ) fun v or st => after κ js (z.F v (drawn z.k st.ρ)) or st z.k)) ρz H
  have hP1 : z.P := (H ρz).1
  obtain ⟨or', bt, H⟩ := fork_h (b := z.b) (or := or) (st := st) (f := fun ρ v or st => after κ js (z.F v (drawn z.k st.ρ)) or st z.k) fun ρ => (H ρ).2
  have nj := apart_of hj
  rw [ec]
  refine hz hP1 A ⟨h, g, d, st.T + st.i, os⟩ R a.1 (by have := a.2.1; omega) (by have := a.2.2; omega) (fun b o e => ⟨RR.keep _ _ (hK b o e).1 (hK b o e).2, fun m => ?_⟩) (hL.at fun o e => RR.keep _ _ e hc) (by show 214 ≤ h.objs.size; rw [RR.size]; exact Nat.le_trans hB RR.ge) (hP.nodup RR.nodup nj) hA ?_
  · rcases RR.sub b (hP.mem b m) with y | y
    · exact (hK b o e).2 y
    · have lt : (b : Nat) < h₀.objs.size := Heap.lt_size (hK b o e).1
      exact absurd lt (Nat.not_lt.mpr y)
  · intro ys h' ly OG
    have R' := RR.out (ρ := ρz) hP nj OG
    refine q (z.F z.b ys).res or' _ h' (R'.fork bt) fun ρ => ?_
    have e1 : drawn z.k (app ys ρ) = ys := by rw [← ly]; exact drawn_app ρ ys
    have e2 : (fun j => app ys ρ (j + z.k)) = ρ := by rw [← ly]; exact app_shift ρ ys
    have z2 : (κ (z.F z.b (drawn z.k (app ys ρ))).res or' { st with bt := bt, ads := st.ads ++ (z.F z.b (drawn z.k (app ys ρ))).new.map (·.1), obs := setAll js (z.F z.b (drawn z.k (app ys ρ))).post st.obs ++ (z.F z.b (drawn z.k (app ys ρ))).new.map (·.2), N := (z.F z.b (drawn z.k (app ys ρ))).N, m := 0, T := (z.F z.b (drawn z.k (app ys ρ))).T, i := 0, ρ := fun j => app ys ρ (j + z.k) }).Holds := H (app ys ρ)
    rw [e1, e2] at z2
    exact z2
theorem sndC (hK : KOk S.K h₀ D) (hL : h₀.NoLimit) (hB : 214 ≤ h₀.objs.size) (hc : cStatics ∉ D) (hS : SetsOk prog w S need) (IS : SndS prog w need h₀ D g d os I) (IR : SndR prog w need h₀ D g d os I) (IC : SndC prog w need h₀ D g d os I) : SndC prog w need h₀ D g d os ⟨I.s, I.r, exC S I⟩ := by
  intro dp c or st κ A h R a RR H q
  cases dp with
  | zero => exact (H ρz).elim
  | succ dp =>
  have lim : A.depth < recursionLimit := by have := a.2.1; omega
  have ulim : A.units < cLine := by have := a.2.2; omega
  obtain ⟨op, or, rfl, H⟩ := onL_h (l := or) (f := fun ρ op or => exC S I (dp + 1) c (op :: or) (st.str ρ) κ) ρz (by
    intro ρ
    have z := H ρ
    cases or with
    | nil => exact z
    | cons x r => exact z)
  match op, H with
  | 0, H =>
    obtain ⟨hp, H⟩ := onT_h (b := plainC c) (t := fun ρ => I.s Fin dp (zden c) or (st.str ρ) (fin I (dp + 1) κ)) ρz H
    refine x_codeT ?_
    rw [zden_eq]
    exact IS _ _ _ _ _ _ _ _ _ _ (room_under hp a) RR H (after_fin IC a q)
  | 1, H =>
    obtain ⟨x, ex, H⟩ := onO_h (o := callOf c) (f := fun ρ x => onL or fun j or => lk S.K j x.1 (st.str ρ) fun o => onO (funcOf o) fun fd => onO (fnOkE fd) fun y => onL or fun j or => lk S.K j y.2 (st.str ρ) fun oc => onT (qualOk fd.qualname oc)
      (I.s _ dp (bindArgs fd x.2) or (st.str ρ) fun b or st => onE b (fun _ => .fail) fun binds => I.s _ dp (newFunctionEnv fd.scope fd.globals fd.closure binds (fd.qualname ++ ".<locals>.") (some x.1) fd.code none fd.builtins) or st fun e or st =>
        onE e (fun _ => .fail) fun env => I.c (dp + 1) (bodyCode env y.1) or st κ)) ρz H
    obtain ⟨j, or, rfl, H⟩ := onL_h (l := or) (f := fun ρ j or => lk S.K j x.1 (st.str ρ) fun o => onO (funcOf o) fun fd => onO (fnOkE fd) fun y => onL or fun j or => lk S.K j y.2 (st.str ρ) fun oc => onT (qualOk fd.qualname oc)
      (I.s _ dp (bindArgs fd x.2) or (st.str ρ) fun b or st => onE b (fun _ => .fail) fun binds => I.s _ dp (newFunctionEnv fd.scope fd.globals fd.closure binds (fd.qualname ++ ".<locals>.") (some x.1) fd.code none fd.builtins) or st fun e or st =>
        onE e (fun _ => .fail) fun env => I.c (dp + 1) (bodyCode env y.1) or st κ)) ρz H
    obtain ⟨o, ho, H⟩ := lk_h (f := fun ρ o => onO (funcOf o) fun fd => onO (fnOkE fd) fun y => onL or fun j or => lk S.K j y.2 (st.str ρ) fun oc => onT (qualOk fd.qualname oc)
      (I.s _ dp (bindArgs fd x.2) or (st.str ρ) fun b or st => onE b (fun _ => .fail) fun binds => I.s _ dp (newFunctionEnv fd.scope fd.globals fd.closure binds (fd.qualname ++ ".<locals>.") (some x.1) fd.code none fd.builtins) or st fun e or st =>
        onE e (fun _ => .fail) fun env => I.c (dp + 1) (bodyCode env y.1) or st κ)) hK RR H
    obtain ⟨fd, hfd, H⟩ := onO_h (o := funcOf o) (f := fun ρ fd => onO (fnOkE fd) fun y => onL or fun j or => lk S.K j y.2 (st.str ρ) fun oc => onT (qualOk fd.qualname oc)
      (I.s _ dp (bindArgs fd x.2) or (st.str ρ) fun b or st => onE b (fun _ => .fail) fun binds => I.s _ dp (newFunctionEnv fd.scope fd.globals fd.closure binds (fd.qualname ++ ".<locals>.") (some x.1) fd.code none fd.builtins) or st fun e or st =>
        onE e (fun _ => .fail) fun env => I.c (dp + 1) (bodyCode env y.1) or st κ)) ρz H
    obtain ⟨y, hy, H⟩ := onO_h (o := fnOkE fd) (f := fun ρ y => onL or fun j or => lk S.K j y.2 (st.str ρ) fun oc => onT (qualOk fd.qualname oc)
      (I.s _ dp (bindArgs fd x.2) or (st.str ρ) fun b or st => onE b (fun _ => .fail) fun binds => I.s _ dp (newFunctionEnv fd.scope fd.globals fd.closure binds (fd.qualname ++ ".<locals>.") (some x.1) fd.code none fd.builtins) or st fun e or st =>
        onE e (fun _ => .fail) fun env => I.c (dp + 1) (bodyCode env y.1) or st κ)) ρz H
    obtain ⟨j2, or, rfl, H⟩ := onL_h (l := or) (f := fun ρ j or => lk S.K j y.2 (st.str ρ) fun oc => onT (qualOk fd.qualname oc)
      (I.s _ dp (bindArgs fd x.2) or (st.str ρ) fun b or st => onE b (fun _ => .fail) fun binds => I.s _ dp (newFunctionEnv fd.scope fd.globals fd.closure binds (fd.qualname ++ ".<locals>.") (some x.1) fd.code none fd.builtins) or st fun e or st =>
        onE e (fun _ => .fail) fun env => I.c (dp + 1) (bodyCode env y.1) or st κ)) ρz H
    obtain ⟨oc, hoc, H⟩ := lk_h (f := fun ρ oc => onT (qualOk fd.qualname oc)
      (I.s _ dp (bindArgs fd x.2) or (st.str ρ) fun b or st => onE b (fun _ => .fail) fun binds => I.s _ dp (newFunctionEnv fd.scope fd.globals fd.closure binds (fd.qualname ++ ".<locals>.") (some x.1) fd.code none fd.builtins) or st fun e or st =>
        onE e (fun _ => .fail) fun env => I.c (dp + 1) (bodyCode env y.1) or st κ)) hK RR H
    obtain ⟨hq, H⟩ := onT_h (b := qualOk fd.qualname oc) (t := fun ρ => I.s _ dp (bindArgs fd x.2) or (st.str ρ) fun b or st => onE b (fun _ => .fail) fun binds => I.s _ dp (newFunctionEnv fd.scope fd.globals fd.closure binds (fd.qualname ++ ".<locals>.") (some x.1) fd.code none fd.builtins) or st fun e or st =>
        onE e (fun _ => .fail) fun env => I.c (dp + 1) (bodyCode env y.1) or st κ) ρz H
    obtain ⟨vs, t, hv, hv1⟩ := qualOk_is hq
    obtain ⟨k1, k2, k3, k4⟩ := fnOkE_is hy
    have hd' : o.data = .func fd := by
      unfold funcOf at hfd
      split at hfd
      · rename_i e; cases hfd; exact e
      · cases hfd
    have hc' : c = .call (.ref x.1) x.2 := by
      unfold callOf at ex
      split at ex
      · cases ex; rfl
      · cases ex
    rw [hc']
    have a1 : Room need A.in1 dp := ⟨a.1, by have := a.2.1; show A.depth + 5 * dp + need < _; omega, by have := a.2.2; show A.units + 1 + 10 * dp + 2 * need < _; omega⟩
    refine call_any lim ho hd' k1 k2 k3 ⟨y.2, oc, vs, t, k4, hoc, hv, hv1⟩ ?_
    refine IS _ _ _ _ _ _ _ _ _ _ a1 RR H fun b or' st' h' R' H' => ?_
    cases b with
    | error e => exact (H' ρz).elim
    | ok binds =>
      refine IS _ _ _ _ _ _ _ _ _ _ a1 R' H' fun e or' st' h' R' H' => ?_
      cases e with
      | error e => exact (H' ρz).elim
      | ok env => exact ⟨hL.at fun o e => R'.keep _ _ e hc, IC _ _ _ _ _ _ _ _ a R' H' q⟩
  | 2, H =>
    obtain ⟨j, or, rfl, H⟩ := onL_h (l := or) (f := fun ρ j or => onO1 (nth1 j S.subs) fun f => onO1 (f c) fun r => onT (plainC c) (I.r Fin dp r or (st.str ρ) (fin I (dp + 1) κ))) ρz H
    obtain ⟨f, hf, H⟩ := onO1_h (o := nth1 j S.subs) (f := fun ρ f => onO1 (f c) fun r => onT (plainC c) (I.r Fin dp r or (st.str ρ) (fin I (dp + 1) κ))) ρz H
    obtain ⟨r, hr, H⟩ := onO1_h (o := f c) (f := fun ρ r => onT (plainC c) (I.r Fin dp r or (st.str ρ) (fin I (dp + 1) κ))) ρz H
    obtain ⟨hp, H⟩ := onT_h (b := plainC c) (t := fun ρ => I.r Fin dp r or (st.str ρ) (fin I (dp + 1) κ)) ρz H
    have ru := room_under hp a
    refine x_codeT ?_
    exact IR _ _ _ _ _ _ _ _ _ _ _ ru RR H (hS.subs f (mem_nth1 hf) c r hr _ (by have := ru.2.1; omega) (by have := ru.2.2; omega)) (after_fin IC a q)
  | 3, H =>
    obtain ⟨j, or, rfl, H⟩ := onL_h (l := or) (f := fun ρ j or => onO (nth j S.sums) fun f => onO (f c) fun z => .same c z.code (lkAll z.pre z.objs (st.str ρ) or fun js or => onT (apart js) (.claim z.P (fork z.b or (st.str ρ) fun v or st => after κ js (z.F v (drawn z.k st.ρ)) or st z.k)))) ρz H
    obtain ⟨f, hf, H⟩ := onO_h (o := nth j S.sums) (f := fun ρ f => onO (f c) fun z => .same c z.code (lkAll z.pre z.objs (st.str ρ) or fun js or => onT (apart js) (.claim z.P (fork z.b or (st.str ρ) fun v or st => after κ js (z.F v (drawn z.k st.ρ)) or st z.k)))) ρz H
    obtain ⟨z, hz, H⟩ := onO_h (o := f c) (f := fun ρ z => .same c z.code (lkAll z.pre z.objs (st.str ρ) or fun js or => onT (apart js) (.claim z.P (fork z.b or (st.str ρ) fun v or st => after κ js (z.F v (drawn z.k st.ρ)) or st z.k)))) ρz H
    exact snd_sum hK hL hB hc a RR (hS.sums f (mem_nth hf) c z hz) H q
  | op + 4, H =>
    obtain ⟨j, or, rfl, H⟩ := onL_h (l := or) (f := fun ρ j or => onO (nth j S.dyn) fun f => onO (f c st.obs) fun z => .same c z.code (lkAll z.pre z.objs (st.str ρ) or fun js or => onT (apart js) (.claim z.P (fork z.b or (st.str ρ) fun v or st => after κ js (z.F v (drawn z.k st.ρ)) or st z.k)))) ρz H
    obtain ⟨f, hf, H⟩ := onO_h (o := nth j S.dyn) (f := fun ρ f => onO (f c st.obs) fun z => .same c z.code (lkAll z.pre z.objs (st.str ρ) or fun js or => onT (apart js) (.claim z.P (fork z.b or (st.str ρ) fun v or st => after κ js (z.F v (drawn z.k st.ρ)) or st z.k)))) ρz H
    obtain ⟨z, hz, H⟩ := onO_h (o := f c st.obs) (f := fun ρ z => .same c z.code (lkAll z.pre z.objs (st.str ρ) or fun js or => onT (apart js) (.claim z.P (fork z.b or (st.str ρ) fun v or st => after κ js (z.F v (drawn z.k st.ρ)) or st z.k)))) ρz H
    exact snd_sum hK hL hB hc a RR (hS.dyn f (mem_nth hf) c _ z hz) H q
theorem snd_all (hK : KOk S.K h₀ D) (hL : h₀.NoLimit) (hB : 214 ≤ h₀.objs.size) (hc : cStatics ∉ D) (hS : SetsOk prog w S need) (n : Nat) : SndS prog w need h₀ D g d os (ex ⟨prog, w.params⟩ S n) ∧ SndR prog w need h₀ D g d os (ex ⟨prog, w.params⟩ S n) ∧ SndC prog w need h₀ D g d os (ex ⟨prog, w.params⟩ S n) := by
  induction n with
  | zero => exact ⟨fun _ _ _ _ _ _ _ _ _ _ _ _ H _ => (H ρz).elim, fun _ _ _ _ _ _ _ _ _ _ _ _ _ H _ _ => (H ρz).elim, fun _ _ _ _ _ _ _ _ _ _ H _ => (H ρz).elim⟩
  | succ n ih => exact ⟨sndS hK ih.1 ih.2.2, sndR ih.1 ih.2.1, sndC hK hL hB hc hS ih.1 ih.2.1 ih.2.2⟩
end
end Mine
-- D1
set_option linter.unusedVariables false
namespace Mine
noncomputable def Sim {α : Type} (M : Model) (A : Around) (t t' : Sem α) : Prop := ∀ Γ p Q E s, Γ.In A → Sem.wp M Γ t' Q E p s → Sem.wp M Γ t Q E p s
theorem Sim.any {α : Type} {A : Around} {M : Model} {t t' : Sem α} {Q : α → Shared → Prop} {E : Value → Shared → Prop} {s : Shared} (h : Sim M A t t') (z : wpAny M A t' Q E s) : wpAny M A t Q E s :=
  fun Γ p hΓ => h Γ p _ _ _ hΓ (z Γ p hΓ)
theorem Sim.toA {α : Type} {A : Around} {M : Model} {t t' : Sem α} (h : Sim M A t t') : SimA M A t t' := fun _ _ _ z => Sim.any h z

noncomputable def enterQ : Sem Unit := nsGet cStatics "sys.recursionlimit" >>= fun v => match v with
  | none => pure ()
  | some _ => unsupported ""
section
variable {α β : Type} {M : Model} {A : Around}
theorem Sim.rfl {t : Sem α} : Sim M A t t := fun _ _ _ _ _ _ h => h
theorem Sim.bind {m m' : Sem α} {f f' : α → Sem β} (h : Sim M A m m') (k : ∀ a, Sim M A (f a) (f' a)) : Sim M A (m >>= f) (m' >>= f') := by
  intro Γ p Q E s hΓ z
  rw [Sem.wp_bind'] at z ⊢
  exact h _ _ _ _ _ hΓ (Sem.wp_mono M Γ m' (fun a p' s' y => k a _ _ _ _ _ hΓ y) (fun _ _ _ y => y) p s z)
theorem Sim.holding {vs : List Value} {m m' : Sem α} (h : Sim M A m m') : Sim M A (holding vs m) (holding vs m') := by
  intro Γ p Q E s hΓ z
  rw [Sem.wp_holding] at z ⊢
  exact h _ _ _ _ _ hΓ z
theorem Sim.enter (hd : A.depth < recursionLimit) : Sim M A enterFrame enterQ := by
  intro Γ p Q E s hΓ z
  have hsum : ((((Γ.code, p) :: Γ.below).map (·.1)).map (·.frames)).sum + ((((Γ.code, p) :: Γ.below).map (·.1)).filter Code.isCreation).length < recursionLimit := by
    have hge := frameCount_ge ((Γ.code, p) :: Γ.below)
    rw [frameCount_cons] at hge
    have := hΓ.2.1
    omega
  have hlt : ¬ ((((Γ.code, p) :: Γ.below).map (·.1)).map (·.frames)).sum ≥ recursionLimit := by omega
  have hlt' : ¬ ((((Γ.code, p) :: Γ.below).map (·.1)).map (·.frames)).sum + ((((Γ.code, p) :: Γ.below).map (·.1)).filter Code.isCreation).length ≥ recursionLimit := by omega
  simp only [enterFrame, currentRecursionLimit, Sem.wp_bind']
  show Sem.wp M Γ (nsGet cStatics "sys.recursionlimit") _ _ p s
  unfold enterQ at z
  rw [Sem.wp_bind'] at z
  refine Sem.wp_mono M Γ _ (fun v p' s' hv => ?_) (fun _ _ _ y => y) p s z
  cases v with
  | some v => exact hv.elim
  | none =>
    show Sem.wp M Γ (if nearTheLimitUnderAClaim (((Γ.code, p) :: Γ.below).map (·.1)) (((((Γ.code, p) :: Γ.below).map (·.1)).map (·.frames)).sum + ((((Γ.code, p) :: Γ.below).map (·.1)).filter Code.isCreation).length) recursionLimit = true then _ else _) _ _ p' s'
    rw [if_neg (by rw [not_nearTheLimit hΓ hd]; exact Bool.false_ne_true)]
    show Sem.wp M Γ (if ((((Γ.code, p) :: Γ.below).map (·.1)).map (·.frames)).sum ≥ recursionLimit then _ else _) _ _ p' s'
    rw [if_neg hlt]
    show Sem.wp M Γ (if ((((Γ.code, p) :: Γ.below).map (·.1)).map (·.frames)).sum + ((((Γ.code, p) :: Γ.below).map (·.1)).filter Code.isCreation).length ≥ recursionLimit then _ else _) _ _ p' s'
    rw [if_neg hlt']; exact hv
theorem Sim.opt {σ : Type} {f : Option σ → Sem α} {o : Option σ} {n : Sem α} {g : σ → Sem α} (h : Sim M A (f none) n) (k : ∀ a, Sim M A (f (some a)) (g a)) : Sim M A (f o) (match o with | none => n | some a => g a) := by
  cases o
  · exact h
  · exact k _
theorem Sim.pair {σ τ : Type} {f : σ × τ → Sem α} {o : σ × τ} {g : σ → τ → Sem α} (k : ∀ a b, Sim M A (f (a, b)) (g a b)) : Sim M A (f o) (g o.1 o.2) := k _ _
theorem Sim.list {σ : Type} {f : List σ → Sem α} {o : List σ} {g : σ → List σ → Sem α} (k : ∀ a b, Sim M A (f (a :: b)) (g a b)) : Sim M A (f o) (match o with | [] => f [] | a :: b => g a b) := by
  cases o
  · exact Sim.rfl
  · exact k _ _
theorem Sim.ref {f : Value → Sem α} {v : Value} {g : Nat → Sem α} (k : ∀ a, Sim M A (f (.ref a)) (g a)) : Sim M A (f v) (match v with | .ref a => g a | v => f v) := by
  cases v
  case ref => exact k _
  all_goals exact Sim.rfl
theorem Sim.thn {c : Prop} [Decidable c] {a a' b : Sem α} (k : Sim M A a a') : Sim M A (if c then a else b) (if c then a' else b) := by
  split
  · exact k
  · exact Sim.rfl
theorem Sim.els {c : Prop} [Decidable c] {a b b' : Sem α} (k : Sim M A b b') : Sim M A (if c then a else b) (if c then a else b') := by
  split
  · exact Sim.rfl
  · exact k
theorem Sim.args {f : Args → Sem α} {o : Args} {g : List Value → Sem α} (k : ∀ p, Sim M A (f ⟨p, []⟩) (g p)) : Sim M A (f o) (match o with | ⟨p, []⟩ => g p | o => f o) := by
  split
  · exact k _
  · exact Sim.rfl
theorem Sim.bindL {m m' : Sem α} {f : α → Sem β} (h : Sim M A m m') : Sim M A (m >>= f) (m' >>= f) := Sim.bind h fun _ => Sim.rfl
end

section
variable {M : Model} {A : Around}
theorem Sim.trans {α : Type} {a b c : Sem α} (h : Sim M A a b) (k : Sim M A b c) : Sim M A a c := fun Γ p Q E s hΓ z => h Γ p Q E s hΓ (k Γ p Q E s hΓ z)
theorem SimA.rfl {α : Type} {t : Sem α} : SimA M A t t := fun _ _ _ z => z
theorem SimA.trans {α : Type} {a b c : Sem α} (h : SimA M A a b) (k : SimA M A b c) : SimA M A a c := fun Q E s z => h Q E s (k Q E s z)
theorem Den.via : ∀ {α : Type} {r : RTree α} {t t' : Sem α}, SimA M A t t' → Den M A r t' → Den M A r t
  | _, .sem _, _, _, h, k => SimA.trans h k
  | _, .bind _ _, _, _, h, k => by
    obtain ⟨tm, tf, a, b, c⟩ := k
    exact ⟨tm, tf, SimA.trans h a, b, c⟩
  | _, .same _ _ _, _, _, h, k => fun e => Den.via h (k e)
  | _, .fail, _, _, _, _ => trivial
  | _, .dec _ _, _, _, h, k => fun v e => Den.via h (k v e)
  | _, .calm _, _, _, h, k => by
    obtain ⟨tm, hh, a, b⟩ := k
    exact ⟨tm, hh, SimA.trans h a, b⟩
variable {α β : Type}
noncomputable def Dn {α : Type} (M : Model) (A : Around) (t : Sem α) (r : RTree α) : Prop := Den M A r t
theorem Dn.rfl {t : Sem α} : Dn M A t (.sem t) := SimA.rfl
theorem Dn.sim {t t' : Sem α} (h : Sim M A t t') : Dn M A t (.sem t') := h.toA
theorem Dn.bind {m : RTree β} {f : β → RTree α} {tm : Sem β} {tf : β → Sem α} (h : Dn M A tm m) (k : ∀ a, Dn M A (tf a) (f a)) : Dn M A (tm >>= tf) (.bind m f) := ⟨tm, tf, SimA.rfl, h, k⟩
theorem Dn.holding {vs : List Value} {r : RTree α} {t : Sem α} (h : Dn M A t r) : Dn M A (holding vs t) r := by
  refine Den.via (Sim.toA ?_) h
  intro Γ p Q E s hΓ z
  rw [Sem.wp_holding]
  exact z
theorem Dn.enter (hd : A.depth < recursionLimit) : Dn M A enterFrame (.sem enterQ) := (Sim.enter hd).toA
theorem Dn.thn {c : Prop} [Decidable c] {r : RTree α} {a b : Sem α} (h : Dn M A a r) : Dn M A (if c then a else b) (if c then r else .sem b) := by
  split
  · exact h
  · exact Dn.rfl
theorem Dn.els {c : Prop} [Decidable c] {r : RTree α} {a b : Sem α} (h : Dn M A b r) : Dn M A (if c then a else b) (if c then .sem a else r) := by
  split
  · exact Dn.rfl
  · exact h
theorem Dn.opt {σ : Type} {f : Option σ → Sem α} {o : Option σ} {n : RTree α} {g : σ → RTree α} (h : Dn M A (f none) n) (k : ∀ a, Dn M A (f (some a)) (g a)) : Dn M A (f o) (match o with | none => n | some a => g a) := by
  cases o
  · exact h
  · exact k _
theorem Dn.pair {σ τ : Type} {f : σ × τ → Sem α} {o : σ × τ} {g : σ → τ → RTree α} (k : ∀ a b, Dn M A (f (a, b)) (g a b)) : Dn M A (f o) (g o.1 o.2) := k _ _
theorem Dn.ref {f : Value → Sem α} {v : Value} {g : Nat → RTree α} (k : ∀ a, Dn M A (f (.ref a)) (g a)) : Dn M A (f v) (match v with | .ref a => g a | v => .sem (f v)) := by
  cases v
  case ref => exact k _
  all_goals exact Dn.rfl
theorem Dn.one {σ : Type} {f : List σ → Sem α} {l : List σ} {g : σ → RTree α} (k : ∀ a, Dn M A (f [a]) (g a)) : Dn M A (f l) (match l with | [a] => g a | l => .sem (f l)) := by
  split
  · exact k _
  · exact Dn.rfl
theorem Dn.cons {σ : Type} {f : List σ → Sem α} {l : List σ} {g : σ → List σ → RTree α} (k : ∀ a b, Dn M A (f (a :: b)) (g a b)) : Dn M A (f l) (match l with | a :: b => g a b | [] => .sem (f [])) := by
  cases l
  · exact Dn.rfl
  · exact k _ _
theorem Dn.dec {b : Bool} {F : Bool → Sem α} {f : Bool → RTree α} (k : ∀ v, Dn M A (F v) (f v)) : Dn M A (F b) (.dec b f) := fun v e => by subst e; exact k _
theorem Dn.simA {t t' : Sem α} {r : RTree α} (h : SimA M A t t') (k : Dn M A t' r) : Dn M A t r := Den.via h k
theorem Dn.no {t : Sem α} : Dn M A t .fail := trivial
theorem Dn.step {f : β → RTree α} {tm : Sem β} {tf : β → Sem α} (k : ∀ a, Dn M A (tf a) (f a)) : Dn M A (tm >>= tf) (.bind (.sem tm) f) := ⟨tm, tf, SimA.rfl, SimA.rfl, k⟩
theorem Dn.pure {a : β} {f : β → Sem α} {r : RTree α} (h : Dn M A (f a) r) : Dn M A (Pure.pure a >>= f) r := h
theorem Dn.yes {c : Prop} [Decidable c] {r : RTree α} {a b : Sem α} (h : Dn M A a r) : Dn M A (if c then a else b) (if c then r else .fail) := by
  split
  · exact h
  · exact Dn.no
theorem Dn.not {c : Prop} [Decidable c] {r : RTree α} {a b : Sem α} (h : Dn M A b r) : Dn M A (if c then a else b) (if c then .fail else r) := by
  split
  · exact Dn.no
  · exact h
theorem Dn.some {σ : Type} {f : Option σ → Sem α} {o : Option σ} {g : σ → RTree α} (k : ∀ a, Dn M A (f (.some a)) (g a)) : Dn M A (f o) (match o with | none => .fail | .some a => g a) := by
  cases o
  · exact Dn.no
  · exact k _
theorem Dn.none {σ : Type} {f : Option σ → Sem α} {o : Option σ} {r : RTree α} (k : Dn M A (f .none) r) : Dn M A (f o) (match o with | none => r | .some _ => .fail) := by
  cases o
  · exact k
  · exact Dn.no
theorem Dn.ref' {f : Value → Sem α} {v : Value} {g : Nat → RTree α} (k : ∀ a, Dn M A (f (.ref a)) (g a)) : Dn M A (f v) (match v with | .ref a => g a | _ => .fail) := by
  cases v
  case ref => exact k _
  all_goals exact Dn.no
theorem Dn.type {f : Value → Sem α} {v : Value} {g : String → RTree α} (k : ∀ a, Dn M A (f (.type a)) (g a)) : Dn M A (f v) (match v with | .type a => g a | _ => .fail) := by
  cases v
  case type => exact k _
  all_goals exact Dn.no
theorem Dn.str {f : Value → Sem α} {v : Value} {g : Str → Tok → RTree α} (k : ∀ a t, Dn M A (f (.str a t)) (g a t)) : Dn M A (f v) (match v with | .str a t => g a t | _ => .fail) := by
  cases v
  case str => exact k _ _
  all_goals exact Dn.no
theorem Dn.hd {σ : Type} {f : List σ → Sem α} {l : List σ} {g : σ → List σ → RTree α} (k : ∀ a b, Dn M A (f (a :: b)) (g a b)) : Dn M A (f l) (match l with | a :: b => g a b | [] => .fail) := by
  cases l
  · exact Dn.no
  · exact k _ _
theorem Dn.same {a b : Nat} {r : RTree α} {t : Sem α} (h : a = b → Dn M A t r) : Dn M A t (.same a b r) := h
theorem Dn.as {a b : Nat} {F : Nat → Sem α} {r : RTree α} (h : Dn M A (F b) r) : Dn M A (F a) (.same a b r) := fun e => by subst e; exact h
theorem Dn.isSub {a b : Nat} : Dn M A (isSubtype (.ref a) (.ref b)) (.bind (.sem (mroOf (.ref a))) fun mro => match mro with | c :: _ => (match c with | .ref c => .same c b (.sem (Pure.pure true)) | _ => .fail) | [] => .fail) := by
  unfold isSubtype
  apply Dn.step; intro mro
  cases mro with
  | nil => exact Dn.no
  | cons c l =>
  cases c
  case ref c =>
    intro e
    subst e
    simp only [List.isEmpty_cons, Bool.false_eq_true, if_false, List.contains_cons, beq_self_eq_true, Bool.true_or]
    exact Dn.rfl
  all_goals exact Dn.no
end
end Mine
-- E4
namespace Mine
noncomputable abbrev PR := PySem.Challenge.pw_nq0110_01
noncomputable section
noncomputable def pick (js : List Nat) (st : RSt) : List (Nat × Obj) := @List.rec Nat (fun _ => List (Nat × Obj)) [] (fun j _ ih => @Option.rec Nat (fun _ => List (Nat × Obj)) ih (fun a => @Option.rec Obj (fun _ => List (Nat × Obj)) ih (fun o => (a, o) :: ih) (nth j st.obs)) (nth j st.ads)) js
noncomputable abbrev KF (α : Type) := Except Value α → Nat → Nat → List (Nat × Obj) → Prop
noncomputable def leafS {α : Type} (F : KF α) : KS α := fun x or st => onT (apart or) (.leaf (F x (st.N + st.m) (st.T + st.i) (pick or st)))
noncomputable def leafC (F : KF Flow) : KC := fun r or st => onT (apart or) (.leaf (F r (st.N + st.m) (st.T + st.i) (pick or st)))
noncomputable def chain (l : List (Bool × Bool)) (t : VT) : VT := @List.rec (Bool × Bool) (fun _ => VT) t (fun e _ ih => @Bool.rec (fun _ => VT) (.dec e.1 ih .fail) (.dec e.1 .fail ih) e.2) l
noncomputable def EqV (t V : VT) : Prop := (skel t, cks t []) = (V, dgs (cks t []))
end
theorem chain_h : ∀ {l : List (Bool × Bool)} {t : VT}, (l.all fun e => e.1 == e.2) = true → t.Holds → (chain l t).Holds
  | [], _, _, h => h
  | (b, v) :: l, t, a, h => by
    rw [List.all_cons, Bool.and_eq_true] at a
    have e : b = v := by simpa using a.1
    have ih := chain_h a.2 h
    subst e
    cases b with
    | false => exact ⟨fun _ => ih, fun q => absurd q Bool.false_ne_true⟩
    | true => exact ⟨fun q => absurd q.symm Bool.false_ne_true, fun _ => ih⟩
structure End (h h' : Heap) (D : List Nat) (n : Nat) (l : List (Nat × Obj)) : Prop where
  size : h'.objs.size = n
  ge : h.objs.size ≤ n
  keep : ∀ b o, h.get? b = some o → b ∉ D → h'.get? b = some o
  at' : ∀ p ∈ l, h'.get? p.1 = some p.2 ∧ p.1 < n ∧ (p.1 ∈ D ∨ h.objs.size ≤ p.1)
  nd : (l.map (·.1)).Nodup
theorem pick_mem {st : RSt} : ∀ {js : List Nat} {p : Nat × Obj}, p ∈ pick js st → ∃ j ∈ js, nth j st.ads = some p.1 ∧ nth j st.obs = some p.2
  | [], p, h => nomatch h
  | j :: js, p, h => by
    have e : pick (j :: js) st = @Option.rec Nat (fun _ => List (Nat × Obj)) (pick js st) (fun a => @Option.rec Obj (fun _ => List (Nat × Obj)) (pick js st) (fun o => (a, o) :: pick js st) (nth j st.obs)) (nth j st.ads) := rfl
    rw [e] at h
    have up : p ∈ pick js st → ∃ j' ∈ j :: js, nth j' st.ads = some p.1 ∧ nth j' st.obs = some p.2 := fun q => by
      obtain ⟨k, h1, h2⟩ := pick_mem q
      exact ⟨k, .tail _ h1, h2⟩
    cases ea : nth j st.ads with
    | none => rw [ea] at h; exact up h
    | some a =>
      cases eo : nth j st.obs with
      | none => rw [ea, eo] at h; exact up h
      | some o =>
        rw [ea, eo] at h
        rcases List.mem_cons.mp h with rfl | h
        · exact ⟨j, .head _, ea, eo⟩
        · exact up h
theorem pick_nd {st : RSt} (hn : st.ads.Nodup) : ∀ {js : List Nat}, js.Nodup → ((pick js st).map (·.1)).Nodup
  | [], _ => List.nodup_nil
  | j :: js, N => by
    obtain ⟨n1, n2⟩ := List.nodup_cons.mp N
    have ih := pick_nd hn n2
    have e : pick (j :: js) st = @Option.rec Nat (fun _ => List (Nat × Obj)) (pick js st) (fun a => @Option.rec Obj (fun _ => List (Nat × Obj)) (pick js st) (fun o => (a, o) :: pick js st) (nth j st.obs)) (nth j st.ads) := rfl
    rw [e]
    cases ea : nth j st.ads with
    | none => exact ih
    | some a =>
      cases eo : nth j st.obs with
      | none => exact ih
      | some o =>
        show (a :: (pick js st).map (·.1)).Nodup
        refine List.nodup_cons.mpr ⟨fun m => ?_, ih⟩
        obtain ⟨p, hp, ep⟩ := List.mem_map.mp m
        obtain ⟨k, hk, e1, _⟩ := pick_mem hp
        have ep' : p.1 = a := ep
        rw [ep'] at e1
        rw [nth_eq] at e1 ea
        obtain ⟨l1, v1⟩ := List.getElem?_eq_some_iff.mp e1
        obtain ⟨l2, v2⟩ := List.getElem?_eq_some_iff.mp ea
        have : k = j := (List.getElem_inj hn).mp (v1.trans v2.symm)
        exact n1 (this ▸ hk)
theorem End.of {h h' : Heap} {D js : List Nat} {st : RSt} (R : RRep h D h' st) (hj : apart js = true) : End h h' D (st.N + st.m) (pick js st) where
  size := R.size
  ge := R.ge
  keep := R.keep
  at' := fun p hp => by
    obtain ⟨j, _, e1, e2⟩ := pick_mem hp
    rw [nth_eq] at e1 e2
    have m := List.mem_of_getElem? e1
    exact ⟨R.get _ _ _ e1 e2, R.lt m, R.sub _ m⟩
  nd := pick_nd R.nodup (apart_of hj)
theorem End.at {h h' : Heap} {D : List Nat} {n : Nat} {l : List (Nat × Obj)} (H : End h h' D n l) {a : Nat} {o : Obj} (j : Nat) (e : l[j]? = some (a, o)) : h'.get? a = some o := (H.at' _ (List.mem_of_getElem? e)).1
theorem RRep.start {h : Heap} {ads : List Nat} {obs : List Obj} {T : Nat} {bt : BT} {ρ : Stream} (hat : At h ads obs) (hn : ads.Nodup) : RRep h ads h ⟨ads, obs, h.objs.size, 0, T, 0, bt, ρ⟩ :=
  ⟨rfl, Nat.le_refl _, hat.len, hat.get, hn, fun _ _ e _ => e, fun _ ha => .inl ha⟩
theorem row1 {w : World} {P : World → Prop} (r : String) (h : ∀ b, P (w.withFollow r b)) : P w := by
  have := h (w.params.followText r)
  rwa [World.withFollow_self] at this
theorem wf_eq {w : World} {r : String} {b : Bool} (h : w.params.followText r = b) : w.withFollow r b = w := by
  subst h
  exact World.withFollow_self w r
structure Rn (w : World) (S : Sets) (need : Nat) (ads : List Nat) (obs : List Obj) (s : Shared) : Prop where
  hS : SetsOk PR w S need
  hK : KOk S.K s.heap ads
  hL : s.heap.NoLimit
  hB : 214 ≤ s.heap.objs.size
  hc : cStatics ∉ ads
  hat : At s.heap ads obs
  hn : ads.Nodup
section
variable {w : World} {A : Around} {s : Shared} {S : Sets} {need : Nat} {ads : List Nat} {obs : List Obj} {n dp N : Nat} {or : List Nat} {bt : BT} {α : Type}
noncomputable def endF (s : Shared) (ads : List Nat) (Q : Except Value α → Shared → Prop) : KF α := fun x n t l => ∀ h', End s.heap h' ads n l → Q x ⟨h', s.gens, s.drawn, t, s.os⟩
theorem run_code {c : Code} {V : KF Flow → Stream → VT} {R : Result → Shared → Prop} (H : Rn w S need ads obs s) (a : Room need A dp) (hN : s.heap.objs.size = N)
    (e : ∀ F ρ, EqV ((ex ⟨PR, w.params⟩ S n).c dp c or ⟨ads, obs, N, 0, s.toks, 0, bt, ρ⟩ (leafC F)) (V F ρ)) (h : ∀ ρ, (V (endF s ads R) ρ).Holds) : codeAny (model PR w) A c R s :=
  (snd_all (d := s.drawn) (g := s.gens) (os := s.os) H.hK H.hL H.hB H.hc H.hS n).2.2 dp c or ⟨ads, obs, s.heap.objs.size, 0, s.toks, 0, bt, ρz⟩ (leafC (endF s ads R)) A s.heap R a (RRep.start H.hat H.hn) (fun ρ => holds_of (hN ▸ e _ ρ) (h ρ)) fun r or st h' R' H' => by
    obtain ⟨hj, H'⟩ := onT_h (b := apart or) (t := fun ρ => .leaf (endF s ads R r (st.N + st.m) (st.T + st.i) (pick or (st.str ρ)))) ρz H'
    exact H' ρz h' (End.of R' hj)
theorem run_sem {t : Sem α} {V : KF α → Stream → VT} {Z : Except Value α → Shared → Prop} {Q : α → Shared → Prop} {E : Value → Shared → Prop} (H : Rn w S need ads obs s) (a : Room need A dp) (hN : s.heap.objs.size = N)
    (e : ∀ F ρ, EqV ((ex ⟨PR, w.params⟩ S n).s α dp t or ⟨ads, obs, N, 0, s.toks, 0, bt, ρ⟩ (leafS F)) (V F ρ)) (h : ∀ ρ, (V (endF s ads Z) ρ).Holds) (hz : ∀ x s', Z x s' → PostX x Q E s') : wpAny (model PR w) A t Q E s :=
  (snd_all (d := s.drawn) (g := s.gens) (os := s.os) H.hK H.hL H.hB H.hc H.hS n).1 α dp t or ⟨ads, obs, s.heap.objs.size, 0, s.toks, 0, bt, ρz⟩ (leafS (endF s ads Z)) A s.heap Q E a (RRep.start H.hat H.hn) (fun ρ => holds_of (hN ▸ e _ ρ) (h ρ)) fun r or st h' R' H' => by
    obtain ⟨hj, H'⟩ := onT_h (b := apart or) (t := fun ρ => .leaf (endF s ads Z r (st.N + st.m) (st.T + st.i) (pick or (st.str ρ)))) ρz H'
    exact hz _ _ (H' ρz h' (End.of R' hj))
noncomputable def TurnEnd (w : World) (A : Around) (R : Result → Shared → Prop) (x : Except Value Fin) (s' : Shared) : Prop := match x with
  | .ok (.done f) => R (.ok f) s'
  | .ok (.again c') => c'.quiet = true ∧ codeAny (model PR w) A c' R s'
  | .error e => R (.error e) s'
theorem run_turn {c : Code} {V : KF Fin → Stream → VT} {R : Result → Shared → Prop} (H : Rn w S need ads obs s) (a : Room need A (dp + 1)) (hN : s.heap.objs.size = N) (hp : plainC c = true)
    (e : ∀ F ρ, EqV ((ex ⟨PR, w.params⟩ S n).s Fin dp (zden c) or ⟨ads, obs, N, 0, s.toks, 0, bt, ρ⟩ (leafS F)) (V F ρ)) (h : ∀ ρ, (V (endF s ads (TurnEnd w A R)) ρ).Holds) : codeAny (model PR w) A c R s := by
  refine x_codeT ?_
  rw [zden_eq]
  refine run_sem H (room_under hp a) hN e h ?_
  intro x s' z
  cases x with
  | error e => exact z
  | ok f => cases f <;> exact z
end
end Mine
-- Q1
namespace Mine
noncomputable section
open PySem.W.R (bindR)
noncomputable abbrev zHo {α : Type} (vs : List Value) (m : Sem α) : Sem α := PySem.W.ZFast.zw17359229931016689406 vs m
noncomputable abbrev zExs : List Stmt → Env → Sem Flow := PySem.W.ZFast.zw12563942051412417395
noncomputable abbrev zEv : PySem.Expr → Env → Sem Value := PySem.W.ZFast.zw14044960220447912780
noncomputable abbrev zIt : PySem.Expr → Env → Sem Value → Sem Bool := PySem.W.ZFast.zw15418851999007992765
noncomputable abbrev zTry : Value → Str → Value → Sem (Option Value) := PySem.W.ZFast.zw3989567798202555795
noncomputable abbrev zSame : Value → Value → Sem Bool := PySem.W.ZFast.zw2518677612232015263
noncomputable abbrev zOp : List Value → Sem Value → Sem Value := PySem.W.ZFast.zw8004119333741010377
noncomputable abbrev zTr : Value → Sem Bool := PySem.W.ZFast.zw15245631507167962100
noncomputable def rcZ (op : CmpOp) (a b : Value) : Sem Value :=
  match PySem.W.ZFast.zw13092491172507696223 op a b with
  | some v => bindR (rule "compare.stand-ins-of-one-thing") fun _ => .pure (Value.bool v)
  | _ =>
    match PySem.W.ZFast.zw363932546726248868 op with
    | (sym, f, r) => bindR (PySem.W.ZFast.zw14684505520029207082 a) fun ta => bindR (PySem.W.ZFast.zw14684505520029207082 b) fun tb =>
      let go : Bool → Sem Value := fun rf =>
        let go2 : Unit → Sem Value := fun _ => bindR (zTry a f b) fun x => match x with
          | some v => .pure v
          | _ =>
            let go3 : Unit → Sem Value := fun _ => match op with
              | .Eq => bindR (rule "compare.eq-identity") fun _ => bindR (zSame a b) fun x => .pure (.bool x)
              | .NotEq => bindR (rule "compare.ne-identity") fun _ => bindR (zSame a b) fun x => .pure (.bool !x)
              | _ => unsupported "order"
            condFn (Sem Value) (!rf) (bindR (zTry b r a) fun x => match x with | some v => .pure v | _ => go3 ()) (go3 ())
        condFn (Sem Value) rf (bindR (zTry b r a) fun x => match x with | some v => bindR (rule "compare.subclass-reflected-first") fun _ => .pure v | _ => go2 ()) (go2 ())
      condFn (Sem Value) (@bne Value (@instBEqOfDecidableEq Value PySem.W.ZFast.zw7966671052430208091) ta tb) (bindR (PySem.W.ZFast.zw16098473122060591676 tb ta) go) (go false)
noncomputable def rcQ (op : CmpOp) (a b : Value) : Sem Value := zHo [a, b] (rcZ op a b)
end
section
variable {M : Model} {A : Around} {α β : Type}
open PySem.W.R (bindR)
theorem bindR_is (m : Sem α) (f : α → Sem β) : bindR m f = m >>= f := by rw [← PySem.W.R.bindR_eq]; rfl
theorem Sim.onRaise {m m' : Sem α} {h : Value → Sem Unit} (k : Sim M A m m') : Sim M A (m.onRaise h) (m'.onRaise h) := by
  intro Γ p Q E s hΓ z
  rw [Sem.wp_onRaise] at z ⊢
  exact k _ _ _ _ _ hΓ z
theorem Sim.room {what : String} {vs : List Value} (hu : A.units < cLine) : Sim M A (cRoomFor what vs) (pure ()) := by
  intro Γ p Q E s hΓ z
  unfold cRoomFor
  split
  · show Sem.wp M Γ (cRoom what) Q E p s
    unfold cRoom
    rw [Sem.wp_bind']
    show Sem.wp M Γ (Sem.stack .pure) _ E p s
    rw [Sem.wp_stack]
    have hs : (((Γ.code, p) :: Γ.below).map (·.1.cUnits)).sum = Γ.units := unitsOf_cons _ _ _
    show Sem.wp M Γ (if (((Γ.code, p) :: Γ.below).map (·.1.cUnits)).sum ≥ cLine then _ else pure ()) _ _ p _
    rw [hs, if_neg (by have := hΓ.2.2.2.2; omega)]
    exact z
  · exact z
theorem Sim.of {a b : Sem α} (h : a = b) : Sim M A a b := by subst h; exact Sim.rfl
theorem Sim.un {what : String} {t : Sem α} : Sim M A t (unsupported what) := fun Γ p Q E s _ z => z.elim
theorem ho_is {vs : List Value} {m : Sem α} : zHo vs m = holding vs m := (congrFun (congrFun (congrFun PySem.W.ZFast.ze17359229931016689406 α) vs) m).symm
theorem rc_eq (a b : Value) : PySem.W.ZFast.zw9423741818375054981 .Eq a b = zHo [a, b] (bindR (PySem.W.ZFast.zw13383273872528276517 "comparison" [a, b]) fun _ => rcZ .Eq a b) := by kernel_rfl
theorem rc_ne (a b : Value) : PySem.W.ZFast.zw9423741818375054981 .NotEq a b = zHo [a, b] (bindR (PySem.W.ZFast.zw13383273872528276517 "comparison" [a, b]) fun _ => rcZ .NotEq a b) := by kernel_rfl
theorem Sim.pureL {f : α → Sem β} {a : α} : Sim M A (pure a >>= f) (f a) := Sim.rfl
theorem Sim.rc {op : CmpOp} {a b : Value} (ho : op = .Eq ∨ op = .NotEq) (hu : A.units < cLine) : Sim M A (richCompare op a b) (rcQ op a b) := by
  have e1 := congrFun (congrFun (congrFun PySem.W.ZFast.ze9423741818375054981 op) a) b
  have e2 := congrFun (congrFun PySem.W.ZFast.ze13383273872528276517 "comparison") [a, b]
  have go : ∀ t : Sem Value, Sim M A (zHo [a, b] (bindR (PySem.W.ZFast.zw13383273872528276517 "comparison" [a, b]) fun _ => t)) (zHo [a, b] t) := fun t => by
    rw [← e2, ho_is, ho_is, bindR_is]
    exact Sim.holding ((Sim.bindL (Sim.room hu)).trans Sim.pureL)
  rw [e1]
  rcases ho with rfl | rfl
  · rw [rc_eq]; exact go _
  · rw [rc_ne]; exact go _
end
noncomputable section
open PySem.W.R (bindR)
noncomputable def cmpQ (op : CmpOp) (a b : Value) : Sem Value := match op with
  | .Eq => rcQ .Eq a b
  | .NotEq => rcQ .NotEq a b
  | op => PySem.W.ZFast.zw12886488535604756494 op a b
noncomputable def testQ (pos : Pos) (left : Value) (ops : List CmpOp) (rs : List (Sem Value)) : Sem Bool := match ops, rs with
  | [op], [r] => bindR (zHo [left] r) fun rv => bindR (standAt pos) fun _ => bindR (zOp [left, rv] (cmpQ op left rv)) fun c => zHo [c] (zTr c)
  | ops, rs => PySem.W.ZFast.zw16724134140897424297 pos left ops rs
noncomputable def chainQ (pos : Pos) (left : Value) (ops : List CmpOp) (rs : List (Sem Value)) : Sem Value := match ops, rs with
  | [op], [r] => bindR (zHo [left] r) fun rv => bindR (standAt pos) fun _ => zOp [left, rv] (cmpQ op left rv)
  | ops, rs => PySem.W.ZFast.zw18038740251295299496 pos left ops rs
noncomputable def boolQ (pos : Pos) (op : BoolOp) (xs : List (Sem Value)) : Sem Value := @List.rec (Sem Value) (fun _ => Sem Value) (unsupported "internal:empty-boolop") (fun x rest ih => match rest with
  | [] => x
  | _ => bindR x fun v => bindR (standAt pos) fun _ => bindR (zHo [v] (zTr v)) fun t => @Bool.rec (fun _ => Sem Value) ih (.pure v) (@BoolOp.rec (fun _ => Bool) (!t) t op)) xs
end
section
variable {M : Model} {A : Around} {α β : Type}
open PySem.W.R (bindR)
theorem Sim.cmp {op : CmpOp} {a b : Value} (hu : A.units < cLine) : Sim M A (compareOp op a b) (cmpQ op a b) := by
  have e := congrFun (congrFun (congrFun PySem.W.ZFast.ze12886488535604756494 op) a) b
  cases op with
  | Eq => exact (Sim.of _root_.rfl).trans (Sim.rc (.inl _root_.rfl) hu)
  | NotEq => exact (Sim.of _root_.rfl).trans (Sim.rc (.inr _root_.rfl) hu)
  | _ => exact Sim.of e
theorem Sim.op {vs : List Value} {m m' : Sem Value} (h : Sim M A m m') : Sim M A (operate vs m) (zOp vs m') := by
  have e := congrFun (congrFun PySem.W.ZFast.ze8004119333741010377 vs) m'
  show Sim M A _ (PySem.W.ZFast.zw8004119333741010377 vs m')
  rw [← e]
  exact Sim.bindL (Sim.holding h)
theorem tr_is (c : Value) : zTr c = truthy c := (congrFun PySem.W.ZFast.ze15245631507167962100 c).symm
theorem Sim.test {pos : Pos} {left : Value} {ops : List CmpOp} {rs : List (Sem Value)} (hu : A.units < cLine) : Sim M A (testChain pos left ops rs) (testQ pos left ops rs) := by
  unfold testQ
  split
  · rename_i op r
    simp only [bindR_is, ho_is, tr_is]
    show Sim M A (PySem.holding [left] r >>= fun rv => standAt pos >>= fun _ => operate [left, rv] (compareOp op left rv) >>= fun c => PySem.holding [c] (truthy c)) _
    exact Sim.bind Sim.rfl fun rv => Sim.bind Sim.rfl fun _ => Sim.bindL (Sim.op (Sim.cmp hu))
  · exact Sim.of (congrFun (congrFun (congrFun (congrFun PySem.W.ZFast.ze16724134140897424297 pos) left) _) _)
theorem Sim.chain {pos : Pos} {left : Value} {ops : List CmpOp} {rs : List (Sem Value)} (hu : A.units < cLine) : Sim M A (compareChain pos left ops rs) (chainQ pos left ops rs) := by
  unfold chainQ
  split
  · rename_i op r
    simp only [bindR_is, ho_is]
    show Sim M A (PySem.holding [left] r >>= fun rv => standAt pos >>= fun _ => operate [left, rv] (compareOp op left rv)) _
    exact Sim.bind Sim.rfl fun rv => Sim.bind Sim.rfl fun _ => Sim.op (Sim.cmp hu)
  · exact Sim.of (congrFun (congrFun (congrFun (congrFun PySem.W.ZFast.ze18038740251295299496 pos) left) _) _)
inductive Sims (M : Model) (A : Around) : List (Sem Value) → List (Sem Value) → Prop
  | nil : Sims M A [] []
  | cons {x y : Sem Value} {xs ys : List (Sem Value)} (h : Sim M A x y) (t : Sims M A xs ys) : Sims M A (x :: xs) (y :: ys)
theorem Sim.bool {pos : Pos} {op : BoolOp} : ∀ {xs ys : List (Sem Value)}, Sims M A xs ys → Sim M A (boolOp pos op xs) (boolQ pos op ys)
  | _, _, .nil => Sim.of _root_.rfl
  | _, _, .cons h .nil => h
  | _, _, .cons (x := x) (y := y) h (.cons (x := x2) (y := y2) (xs := xs) (ys := ys) h2 t) => by
    have ih := Sim.bool (pos := pos) (op := op) (.cons h2 t)
    show Sim M A (x >>= fun v => standAt pos >>= fun _ => PySem.holding [v] (truthy v) >>= fun t => match op, t with | .And, false => pure v | .Or, true => pure v | _, _ => boolOp pos op (x2 :: xs)) (bindR y fun v => bindR (standAt pos) fun _ => bindR (zHo [v] (zTr v)) fun t => @Bool.rec (fun _ => Sem Value) (boolQ pos op (y2 :: ys)) (.pure v) (@BoolOp.rec (fun _ => Bool) (!t) t op))
    simp only [bindR_is, ho_is, tr_is]
    refine Sim.bind h fun v => Sim.bind Sim.rfl fun _ => Sim.bind Sim.rfl fun t => ?_
    cases op <;> cases t <;> first | exact Sim.rfl | exact ih
end
end Mine
-- Q2
namespace Mine
noncomputable section
open PySem.W.R (bindR)
noncomputable abbrev zMk := @PySem.W.ZFast.zw2344580865713695371
noncomputable abbrev zEE : List PySem.Expr → Env → List (Sem Value) := PySem.W.ZFast.zw10458482166411082596
noncomputable def evX (n : Nat) : PySem.Expr → Env → Sem Value := @Nat.rec (fun _ => PySem.Expr → Env → Sem Value) zEv (fun _ ih e env => match e with
  | .BoolOp op values pos => boolQ pos op (values.map fun e => ih e env)
  | .Compare left ops cs pos => bindR (zEv left env) fun l => chainQ pos l ops (zMk ops cs (zEE cs env))
  | e => zEv e env) n
noncomputable def allX (it : PySem.Expr → Sem Bool) (op : BoolOp) (l : List PySem.Expr) : Sem Bool := @List.rec PySem.Expr (fun _ => Sem Bool) (.pure (op == .And)) (fun x _ ih => bindR (it x) fun t => @Bool.rec (fun _ => Sem Bool) ih (.pure t) (@BoolOp.rec (fun _ => Bool) (!t) t op)) l
noncomputable def itX (n : Nat) : PySem.Expr → Env → Sem Bool := @Nat.rec (fun _ => PySem.Expr → Env → Sem Bool) (fun e env => zIt e env (zEv e env)) (fun _ ih e env => match e with
  | .BoolOp op values _ => allX (fun x => ih x env) op values
  | .Compare left ops cs pos => bindR (zEv left env) fun l => testQ pos l ops (zMk ops cs (zEE cs env))
  | e => zIt e env (zEv e env)) n
noncomputable def onNext (fl : Flow) (t : Sem Flow) : Sem Flow := match fl with
  | .next => t
  | f => .pure f
noncomputable def exsX (ex : Stmt → Sem Flow) (l : List Stmt) : Sem Flow := @List.rec Stmt (fun _ => Sem Flow) (.pure .next) (fun s _ ih => bindR (ex s) fun fl => onNext fl ih) l
noncomputable def exX (n : Nat) : Stmt → Env → Sem Flow := @Nat.rec (fun _ => Stmt → Env → Sem Flow) (fun s env => zExs [s] env) (fun _ ih s env => match s with
  | .If test body orelse pos => bindR (standAt pos) fun _ => bindR (itX 3 test env) fun b => @Bool.rec (fun _ => Sem Flow) (exsX (fun s => ih s env) orelse) (exsX (fun s => ih s env) body) b
  | .Return (some e) pos => bindR (standAt pos) fun _ => bindR (evX 3 e env) fun v => .pure (.ret v)
  | .Assign targets value pos => bindR (standAt pos) fun _ => bindR (PySem.W.ZFast.zw7783108440312521181 targets value pos.line env) fun b => @Bool.rec (fun _ => Sem Flow)
      (bindR (evX 3 value env) fun v => bindR (PySem.W.ZFast.zw4016559146275205325 targets value env) fun o => PySem.W.ZFast.zw2470068587113613483 env v o ((PySem.W.ZFast.zw15628205474173192105 targets env).map (·.2)))
      (bindR (PySem.W.ZFast.zw1406442740598737775 value env fun v => PySem.W.ZFast.zw15591190973536708279 v ((PySem.W.ZFast.zw15628205474173192105 targets env).map (·.2))) fun _ => .pure .next) b
  | s => zExs [s] env) n
noncomputable def stX (n : Nat) (l : List Stmt) (env : Env) : Sem Flow := exsX (fun s => exX n s env) l
end
section
open PySem.W.R (bindR)
theorem ev_bool (op : BoolOp) (vs : List PySem.Expr) (pos : Pos) (env : Env) : eval (.BoolOp op vs pos) env = boolOp pos op (evalEach vs env) := by kernel_rfl
theorem ev_cmp (l : PySem.Expr) (ops : List CmpOp) (cs : List PySem.Expr) (pos : Pos) (env : Env) : eval (.Compare l ops cs pos) env = (eval l env >>= fun l => compareChain pos l ops (markedEach ops cs (evalEach cs env))) := by kernel_rfl
theorem evs_cons (e : PySem.Expr) (r : List PySem.Expr) (env : Env) : evalEach (e :: r) env = eval e env :: evalEach r env := by kernel_rfl
theorem evs_nil (env : Env) : evalEach [] env = [] := by kernel_rfl
theorem it_bool (op : BoolOp) (vs : List PySem.Expr) (pos : Pos) (env : Env) (x : Sem Value) : PySem.isTrue (.BoolOp op vs pos) env x = PySem.allTrue op vs env := by kernel_rfl
theorem it_cmp (l : PySem.Expr) (ops : List CmpOp) (cs : List PySem.Expr) (pos : Pos) (env : Env) (x : Sem Value) : PySem.isTrue (.Compare l ops cs pos) env x = (eval l env >>= fun l => testChain pos l ops (markedEach ops cs (evalEach cs env))) := by kernel_rfl
theorem allT_nil (op : BoolOp) (env : Env) : PySem.allTrue op [] env = pure (op == .And) := by kernel_rfl
theorem allT_cons (op : BoolOp) (x : PySem.Expr) (r : List PySem.Expr) (env : Env) : PySem.allTrue op (x :: r) env = (PySem.isTrue x env (eval x env) >>= fun t => match op, t with | .And, false => pure false | .Or, true => pure true | _, _ => PySem.allTrue op r env) := by kernel_rfl
theorem exs_nil (env : Env) : execs [] env = pure .next := by kernel_rfl
theorem exs_cons (s : Stmt) (r : List Stmt) (env : Env) : execs (s :: r) env = (exec s env >>= fun f => match f with | .next => execs r env | f => pure f) := by kernel_rfl
theorem ex_if (t : PySem.Expr) (b o : List Stmt) (pos : Pos) (env : Env) : exec (.If t b o pos) env = (standAt pos >>= fun _ => PySem.isTrue t env (eval t env) >>= fun x => if x then execs b env else execs o env) := by kernel_rfl
theorem ex_ret (e : PySem.Expr) (pos : Pos) (env : Env) : exec (.Return (some e) pos) env = (standAt pos >>= fun _ => eval e env >>= fun v => pure (.ret v)) := by kernel_rfl
theorem ex_asg (ts : List PySem.Expr) (v : PySem.Expr) (pos : Pos) (env : Env) : exec (.Assign ts v pos) env = (standAt pos >>= fun _ => swapsWithSole ts v pos.line env >>= fun b => if b then (evalThenUse v env (fun v => assignAll v ((assignEach ts env).map (·.2))) >>= fun _ => pure .next)
    else (eval v env >>= fun x => swappedStores ts v env >>= fun o => assignStores env x o ((assignEach ts env).map (·.2)))) := by kernel_rfl
end
end Mine
-- Q3
namespace Mine
section
variable {M : Model} {A : Around} {α β : Type}
open PySem.W.R (bindR)
theorem zev_is (e : PySem.Expr) (env : Env) : zEv e env = eval e env := (congrFun (congrFun PySem.W.ZFast.ze14044960220447912780 e) env).symm
theorem zit_is (e : PySem.Expr) (env : Env) (x : Sem Value) : zIt e env x = PySem.isTrue e env x := (congrFun (congrFun (congrFun PySem.W.ZFast.ze15418851999007992765 e) env) x).symm
theorem zexs_is (l : List Stmt) (env : Env) : zExs l env = execs l env := (congrFun (congrFun PySem.W.ZFast.ze12563942051412417395 l) env).symm
theorem zit0 (e : PySem.Expr) (env : Env) : PySem.isTrue e env (eval e env) = zIt e env (zEv e env) := by rw [zev_is, zit_is]
theorem zcs_is (ops : List CmpOp) (cs : List PySem.Expr) (env : Env) : zMk ops cs (zEE cs env) = markedEach ops cs (evalEach cs env) := by
  show PySem.W.ZFast.zw2344580865713695371 ops cs (PySem.W.ZFast.zw10458482166411082596 cs env) = _
  rw [← PySem.W.ZFast.ze2344580865713695371, ← PySem.W.ZFast.ze10458482166411082596]
theorem Sim.evs {f : PySem.Expr → Env → Sem Value} (h : ∀ e env, Sim M A (eval e env) (f e env)) (env : Env) : ∀ l : List PySem.Expr, Sims M A (evalEach l env) (l.map fun e => f e env)
  | [] => by rw [evs_nil]; exact .nil
  | e :: r => by rw [evs_cons]; exact .cons (h e env) (Sim.evs h env r)
theorem Sim.ev (hu : A.units < cLine) : ∀ (n : Nat) (e : PySem.Expr) (env : Env), Sim M A (eval e env) (evX n e env)
  | 0, e, env => Sim.of (zev_is e env).symm
  | n + 1, e, env => by
    cases e with
    | BoolOp op vs pos =>
      rw [ev_bool]
      exact Sim.bool (Sim.evs (Sim.ev hu n) env vs)
    | Compare l ops cs pos =>
      rw [ev_cmp]
      show Sim M A _ (bindR (zEv l env) fun l => chainQ pos l ops (zMk ops cs (zEE cs env)))
      rw [bindR_is, zev_is, zcs_is]
      exact Sim.bind Sim.rfl fun v => Sim.chain hu
    | _ => exact Sim.of (zev_is _ env).symm
theorem Sim.all {op : BoolOp} {env : Env} {it : PySem.Expr → Sem Bool} (h : ∀ e, Sim M A (PySem.isTrue e env (eval e env)) (it e)) : ∀ l : List PySem.Expr, Sim M A (PySem.allTrue op l env) (allX it op l)
  | [] => by rw [allT_nil]; exact Sim.rfl
  | x :: r => by
    rw [allT_cons]
    show Sim M A _ (bindR (it x) fun t => @Bool.rec (fun _ => Sem Bool) (allX it op r) (.pure t) (@BoolOp.rec (fun _ => Bool) (!t) t op))
    rw [bindR_is]
    refine Sim.bind (h x) fun t => ?_
    have ih := Sim.all (op := op) h r
    cases op <;> cases t <;> first | exact Sim.rfl | exact ih
theorem Sim.it (hu : A.units < cLine) : ∀ (n : Nat) (e : PySem.Expr) (env : Env), Sim M A (PySem.isTrue e env (eval e env)) (itX n e env)
  | 0, e, env => Sim.of (zit0 e env)
  | n + 1, e, env => by
    cases e with
    | BoolOp op vs pos =>
      rw [it_bool]
      exact Sim.all (fun e => Sim.it hu n e env) vs
    | Compare l ops cs pos =>
      rw [it_cmp]
      show Sim M A _ (bindR (zEv l env) fun l => testQ pos l ops (zMk ops cs (zEE cs env)))
      rw [bindR_is, zev_is, zcs_is]
      exact Sim.bind Sim.rfl fun v => Sim.test hu
    | _ => exact Sim.of (zit0 _ env)
theorem Sim.exs {env : Env} {ex : Stmt → Sem Flow} (h : ∀ s, Sim M A (exec s env) (ex s)) : ∀ l : List Stmt, Sim M A (execs l env) (exsX ex l)
  | [] => by rw [exs_nil]; exact Sim.rfl
  | s :: r => by
    rw [exs_cons]
    show Sim M A _ (bindR (ex s) fun fl => onNext fl (exsX ex r))
    rw [bindR_is]
    refine Sim.bind (h s) fun f => ?_
    have ih := Sim.exs h r
    cases f <;> first | exact ih | exact Sim.rfl
theorem Sim.one1 (s : Stmt) (env : Env) : Sim M A (exec s env) (zExs [s] env) := by
  rw [zexs_is, exs_cons]
  intro Γ p Q E st hΓ z
  rw [Sem.wp_bind'] at z
  refine Sem.wp_mono M Γ _ (fun f p' s' y => ?_) (fun _ _ _ y => y) p st z
  cases f <;> first | exact (by rw [exs_nil] at y; exact y) | exact y
theorem Sim.ex (hu : A.units < cLine) : ∀ (n : Nat) (s : Stmt) (env : Env), Sim M A (exec s env) (exX n s env)
  | 0, s, env => Sim.one1 s env
  | n + 1, s, env => by
    cases s with
    | If t b o pos =>
      rw [ex_if]
      show Sim M A _ (bindR (standAt pos) fun _ => bindR (itX 3 t env) fun x => @Bool.rec (fun _ => Sem Flow) (exsX (fun s => exX n s env) o) (exsX (fun s => exX n s env) b) x)
      simp only [bindR_is]
      refine Sim.bind Sim.rfl fun _ => Sim.bind (Sim.it hu 3 t env) fun x => ?_
      cases x
      · exact Sim.exs (fun s => Sim.ex hu n s env) o
      · exact Sim.exs (fun s => Sim.ex hu n s env) b
    | Return v pos =>
      cases v with
      | none => exact Sim.one1 _ env
      | some e =>
        rw [ex_ret]
        show Sim M A _ (bindR (standAt pos) fun _ => bindR (evX 3 e env) fun v => Sem.pure (Flow.ret v))
        simp only [bindR_is]
        exact Sim.bind Sim.rfl fun _ => Sim.bindL (Sim.ev hu 3 e env)
    | Assign ts v pos =>
      rw [ex_asg]
      show Sim M A _ (bindR (standAt pos) fun _ => bindR (PySem.W.ZFast.zw7783108440312521181 ts v pos.line env) fun b => @Bool.rec (fun _ => Sem Flow)
        (bindR (evX 3 v env) fun x => bindR (PySem.W.ZFast.zw4016559146275205325 ts v env) fun o => PySem.W.ZFast.zw2470068587113613483 env x o ((PySem.W.ZFast.zw15628205474173192105 ts env).map (·.2)))
        (bindR (PySem.W.ZFast.zw1406442740598737775 v env fun x => PySem.W.ZFast.zw15591190973536708279 x ((PySem.W.ZFast.zw15628205474173192105 ts env).map (·.2))) fun _ => .pure .next) b)
      simp only [bindR_is, ← PySem.W.ZFast.ze7783108440312521181, ← PySem.W.ZFast.ze4016559146275205325, ← PySem.W.ZFast.ze2470068587113613483, ← PySem.W.ZFast.ze15628205474173192105, ← PySem.W.ZFast.ze1406442740598737775, ← PySem.W.ZFast.ze15591190973536708279]
      refine Sim.bind Sim.rfl fun _ => Sim.bind Sim.rfl fun b => ?_
      cases b
      · exact Sim.bindL (Sim.ev hu 3 v env)
      · exact Sim.rfl
    | _ => exact Sim.one1 _ env
theorem Sim.st (hu : A.units < cLine) (n : Nat) (l : List Stmt) (env : Env) : Sim M A (execs l env) (stX n l env) := Sim.exs (fun s => Sim.ex hu n s env) l
theorem for_eq (target : PySem.Expr) (it : Value) (body orelse : List Stmt) (env : Env) : denote treeTable (.forLoop target it body orelse env) =
    ((standAt target.pos >>= fun _ => (pyNext it).onRaise (fun _ => standAt { target.pos with line := 0 }) >>= fun o => match o with
      | none => PySem.again (.block orelse env)
      | some v => letOwnedTupleGo target it v >>= fun _ => assign target env v >>= fun _ => execs body env >>= fun f => match f with
        | .next | .cont => PySem.again (.forLoop target it body orelse env)
        | .brk => pure (.done .next)
        | .ret v => pure (.done (.ret v)))).onRaise (fun x => noteFrame x env >>= fun _ => theTreesLotGoes x) := by kernel_rfl
theorem func_eq (l : List Stmt) (env : Env) : denote treeTable (.func l env) = (PySem.point >>= fun _ => (execs l env).onRaise (leaving env) >>= fun f => match f with | .ret v => PySem.ret v | _ => PySem.ret .none) := by kernel_rfl
end
end Mine
-- Q4
namespace Mine
noncomputable section
open PySem.W.R (bindR onRaiseR)
noncomputable def onFor (fl : Flow) (target : PySem.Expr) (it : Value) (body orelse : List Stmt) (env : Env) : Sem PySem.Fin := match fl with
  | .next => PySem.W.ZFast.zw12377390311714414960 (.forLoop target it body orelse env)
  | .cont => PySem.W.ZFast.zw12377390311714414960 (.forLoop target it body orelse env)
  | .brk => .pure (.done .next)
  | .ret v => .pure (.done (.ret v))
noncomputable def onFunc (fl : Flow) : Sem PySem.Fin := match fl with
  | .ret v => PySem.ret v
  | _ => PySem.ret .none
noncomputable def forX (n : Nat) (target : PySem.Expr) (it : Value) (body orelse : List Stmt) (env : Env) : Sem PySem.Fin :=
  onRaiseR (bindR (standAt target.pos) fun _ => bindR (onRaiseR (PySem.W.ZFast.zw9404975358583537561 it) fun _ => standAt { target.pos with line := 0 }) fun o =>
    @Option.rec Value (fun _ => Sem PySem.Fin) (PySem.W.ZFast.zw12377390311714414960 (.block orelse env)) (fun v => bindR (PySem.W.ZFast.zw1578499551869305889 target it v) fun _ => bindR (PySem.W.ZFast.zw17772580674575903948 target env v) fun _ =>
      bindR (stX n body env) fun f => onFor f target it body orelse env) o) (fun x => bindR (noteFrame x env) fun _ => theTreesLotGoes x)
noncomputable def funcX (n : Nat) (l : List Stmt) (env : Env) : Sem PySem.Fin := bindR PySem.point fun _ => bindR (onRaiseR (stX n l env) (PySem.W.ZFast.zw9442747609961115081 env)) onFunc
noncomputable def turnX (n : Nat) (c : Code) : Sem PySem.Fin := match c with
  | .forLoop target it body orelse env => forX n target it body orelse env
  | .func l env => funcX n l env
  | c => zden c
end
section
variable {M : Model} {A : Around}
open PySem.W.R (bindR onRaiseR)
theorem onRaiseR_is {α : Type} (m : Sem α) (h : Value → Sem Unit) : onRaiseR m h = m.onRaise h := by rw [← PySem.W.R.onRaiseR_eq]
theorem Sim.for (hu : A.units < cLine) (n : Nat) (target : PySem.Expr) (it : Value) (body orelse : List Stmt) (env : Env) : Sim M A (denote treeTable (.forLoop target it body orelse env)) (forX n target it body orelse env) := by
  rw [for_eq]
  unfold forX
  simp only [bindR_is, onRaiseR_is, ← PySem.W.ZFast.ze9404975358583537561, ← PySem.W.ZFast.ze1578499551869305889, ← PySem.W.ZFast.ze17772580674575903948]
  refine Sim.onRaise (Sim.bind Sim.rfl fun _ => Sim.bind Sim.rfl fun o => ?_)
  cases o with
  | none =>
    show Sim M A (PySem.again _) (PySem.W.ZFast.zw12377390311714414960 _)
    rw [← PySem.W.ZFast.ze12377390311714414960]
    exact Sim.rfl
  | some v =>
    refine Sim.bind Sim.rfl fun _ => Sim.bind Sim.rfl fun _ => Sim.bind (Sim.st hu n body env) fun f => ?_
    unfold onFor
    rw [← PySem.W.ZFast.ze12377390311714414960]
    cases f <;> exact Sim.rfl
theorem Sim.func (hu : A.units < cLine) (n : Nat) (l : List Stmt) (env : Env) : Sim M A (denote treeTable (.func l env)) (funcX n l env) := by
  rw [func_eq]
  unfold funcX
  simp only [bindR_is, onRaiseR_is, ← PySem.W.ZFast.ze9442747609961115081]
  refine Sim.bind Sim.rfl fun _ => Sim.bind (Sim.onRaise (Sim.st hu n l env)) fun f => ?_
  unfold onFunc
  cases f <;> exact Sim.rfl
theorem Sim.turn (hu : A.units < cLine) (n : Nat) (c : Code) : Sim M A (denote treeTable c) (turnX n c) := by
  cases c with
  | forLoop target it body orelse env => exact Sim.for hu n target it body orelse env
  | func l env => exact Sim.func hu n l env
  | _ => exact Sim.of (zden_eq _)
end
section
variable {w : World} {A : Around} {s : Shared} {S : Sets} {need : Nat} {ads : List Nat} {obs : List Obj} {n dp N m : Nat} {or : List Nat} {bt : BT}
theorem run_turnX {c : Code} {V : KF PySem.Fin → Stream → VT} {R : Result → Shared → Prop} (H : Rn w S need ads obs s) (a : Room need A (dp + 1)) (hN : s.heap.objs.size = N) (hp : plainC c = true)
    (e : ∀ F ρ, EqV ((ex ⟨PR, w.params⟩ S n).s PySem.Fin dp (turnX m c) or ⟨ads, obs, N, 0, s.toks, 0, bt, ρ⟩ (leafS F)) (V F ρ)) (h : ∀ ρ, (V (endF s ads (TurnEnd w A R)) ρ).Holds) : codeAny (model PR w) A c R s := by
  refine x_codeT ?_
  have ru := room_under hp a
  refine Sim.any (Sim.turn (by have := ru.2.2; omega) m c) ?_
  refine run_sem H ru hN e h ?_
  intro x s' z
  cases x with
  | error e => exact z
  | ok f => cases f <;> exact z
end
end Mine
-- D2
namespace Mine

noncomputable def iaddR (args : Args) : { r : RTree Fin // ∀ M A, A.depth < recursionLimit → Dn M A (Builtin.«list.__iadd__» args) r } := by
  apply Subtype.mk
  intro M A hd
  unfold Builtin.«list.__iadd__»
  apply Dn.bind Dn.rfl; intro p
  apply Dn.pair (o := p); intro self l
  apply Dn.one (l := l); intro it
  unfold Builtin.List.listExtendWith
  apply Dn.bind Dn.rfl; intro t
  rw [Bool.or_assoc, Bool.or_comm]
  exact Dn.rfl

theorem filter_self (v : Value) (l : List Value) : List.filter (fun x => x != v) (v :: l) = List.filter (fun x => x != v) l := by simp
noncomputable def newR (mcls nameV basesV nsV : Value) : { r : RTree Fin // ∀ M A, A.depth < recursionLimit → Dn M A (Builtin.«type.__new__» ⟨[mcls, nameV, basesV, nsV], []⟩) r } := by
  apply Subtype.mk
  intro M A hd
  delta Builtin.«type.__new__»
  apply Dn.step; intro p
  apply Dn.some (o := p); intro name
  apply Dn.step; intro p
  apply Dn.not
  apply Dn.step; intro p
  apply Dn.not
  apply Dn.ref' (v := nsV); intro nsA
  apply Dn.step; intro p
  apply Dn.not
  apply Dn.step; intro _
  apply Dn.step; intro winner
  apply Dn.not
  apply Dn.step; intro _
  apply Dn.step; intro extended
  apply Dn.not
  apply Dn.step; intro stored
  apply Dn.step; intro walk
  apply Dn.yes
  apply Dn.pure
  apply Dn.step; intro slots
  apply Dn.step; intro v
  apply Dn.ref' (v := v); intro ns
  apply Dn.not
  apply Dn.step; intro _
  apply Dn.not
  apply Dn.step; intro q1
  apply Dn.step; intro q2
  apply Dn.some (o := q2); intro q
  apply Dn.step; intro o
  apply Dn.some (o := o); intro s
  apply Dn.pure
  apply Dn.step; intro d
  apply Dn.none (o := d)
  apply Dn.step; intro a
  apply Dn.type (v := winner); intro wn
  apply Dn.yes
  apply Dn.step; intro _
  apply Dn.step; intro _
  apply Dn.some (o := q1); intro qv
  apply Dn.step; intro _
  apply Dn.step; intro _
  apply Dn.step; intro nw
  apply Dn.none (o := nw)
  apply Dn.step; intro _
  apply Dn.step; intro cc
  apply Dn.none (o := cc)
  apply Dn.step; intro cdc
  apply Dn.none (o := cdc)
  apply Dn.step; intro hook
  apply Dn.none (o := hook)
  apply Dn.step; intro lin
  apply Dn.pure
  dsimp only
  rw [filter_self]
  exact Dn.rfl

noncomputable def supIR (self : Value) (a b : Nat) : { r : RTree Fin // ∀ M A, A.depth < recursionLimit → Dn M A (Builtin.«super.__init__» ⟨[self, .ref a, .ref b], []⟩) r } := by
  apply Subtype.mk
  intro M A hd
  delta Builtin.«super.__init__»
  apply Dn.step; intro _
  apply Dn.pure
  apply Dn.step; intro _
  apply Dn.not
  apply Dn.not
  apply Dn.bind
  · apply Dn.step; intro _
    apply Dn.yes
    apply Dn.bind Dn.isSub
    intro x
    apply Dn.yes
    exact Dn.rfl
  intro y
  exact Dn.rfl
noncomputable def supGR (self nameV : Value) : { r : RTree Fin // ∀ M A, A.depth < recursionLimit → Dn M A (Builtin.«super.__getattribute__» ⟨[self, nameV], []⟩) r } := by
  apply Subtype.mk
  intro M A hd
  delta Builtin.«super.__getattribute__»
  apply Dn.str (v := nameV); intro nm tk
  apply Dn.step; intro p
  apply Dn.not
  apply Dn.step; intro p
  apply Dn.some (o := p); intro name
  apply Dn.step; intro cls
  apply Dn.step; intro obj
  apply Dn.step; intro start
  apply Dn.not
  apply Dn.step; intro _
  apply Dn.not
  apply Dn.step; intro mro
  apply Dn.hd (l := mro); intro c l
  apply Dn.ref' (v := c); intro c
  apply Dn.ref' (v := cls); intro b
  apply Dn.as (a := c) (b := b)
  apply Dn.ref' (v := obj); intro o
  apply Dn.ref' (v := start); intro s
  apply Dn.as (a := o) (b := s)
  simp only [List.dropWhile_cons, bne_self_eq_false, Bool.false_eq_true, if_false, List.drop_succ_cons, List.drop_zero, beq_self_eq_true, if_true]
  exact Dn.rfl

noncomputable def isubR (a b : Nat) : RTree Bool := .bind (.sem (mroOf (.ref a))) fun mro => match mro with | c :: _ => (match c with | .ref c => .same c b (.sem (Pure.pure true)) | _ => .fail) | [] => .fail
noncomputable def isInstR (v : Value) (b : Nat) : RTree Bool := .bind (.sem (typeOf v)) fun t => match t with | .ref a => isubR a b | _ => .fail
section
variable {M : Model} {A : Around}
theorem Dn.isInst {v : Value} {b : Nat} : Dn M A (isInstance v (.ref b)) (isInstR v b) := by
  unfold isInstance isInstR
  apply Dn.step; intro t
  cases t
  case ref => exact Dn.isSub
  all_goals exact Dn.no
end
noncomputable def callR (c : Nat) (rest : List Value) (kw : List (Str × Value)) : { r : RTree Fin // ∀ M A, A.depth < recursionLimit → Dn M A (Builtin.«type.__call__» ⟨.ref c :: rest, kw⟩) r } := by
  apply Subtype.mk
  intro M A hd
  delta Builtin.«type.__call__»
  apply Dn.not
  apply Dn.step; intro mro
  apply Dn.not
  apply Dn.step; intro mk
  apply Dn.some (o := mk); intro id
  apply Dn.pure
  apply Dn.step; intro obj
  apply Dn.bind Dn.isInst; intro q
  apply Dn.not
  exact Dn.rfl
noncomputable def chkR (d obj : Value) : { r : RTree Unit // ∀ M A, Dn M A (Builtin.Getset_descriptor.descrCheckInstance d obj) r } := by
  apply Subtype.mk
  intro M A
  delta Builtin.Getset_descriptor.descrCheckInstance
  apply Dn.step; intro p
  apply Dn.pair (o := p); intro name cls
  apply Dn.ref' (v := cls); intro b
  apply Dn.bind Dn.isInst; intro q
  apply Dn.not
  exact Dn.rfl
noncomputable def getR (args : Args) : { r : RTree Fin // ∀ M A, A.depth < recursionLimit → Dn M A (Builtin.«member_descriptor.__get__» args) r } := by
  apply Subtype.mk
  intro M A hd
  delta Builtin.«member_descriptor.__get__» Builtin.Getset_descriptor.descrGet
  apply Dn.step; intro p
  apply Dn.pair (o := p); intro d q
  apply Dn.pair (o := q); intro obj tp
  apply Dn.some (o := obj); intro obj
  apply Dn.bind ((chkR d obj).2 M A); intro _
  exact Dn.rfl
noncomputable def setR (d obj v : Value) : { r : RTree Fin // ∀ M A, A.depth < recursionLimit → Dn M A (Builtin.«member_descriptor.__set__» ⟨[d, obj, v], []⟩) r } := by
  apply Subtype.mk
  intro M A hd
  delta Builtin.«member_descriptor.__set__» Builtin.Getset_descriptor.descrSet Builtin.Getset_descriptor.descrStoreThrough
  apply Dn.not
  apply Dn.bind ((chkR d obj).2 M A); intro _
  exact Dn.rfl

theorem entT_iadd : entryFor treeTable "list.__iadd__" = some Builtin.«list.__iadd__» := by kernel_rfl
theorem entT_new : entryFor treeTable "type.__new__" = some Builtin.«type.__new__» := by kernel_rfl
theorem entT_si : entryFor treeTable "super.__init__" = some Builtin.«super.__init__» := by kernel_rfl
theorem entT_sg : entryFor treeTable "super.__getattribute__" = some Builtin.«super.__getattribute__» := by kernel_rfl
theorem entT_call : entryFor treeTable "type.__call__" = some Builtin.«type.__call__» := by kernel_rfl
theorem entT_get : entryFor treeTable "member_descriptor.__get__" = some Builtin.«member_descriptor.__get__» := by kernel_rfl
theorem entT_set : entryFor treeTable "member_descriptor.__set__" = some Builtin.«member_descriptor.__set__» := by kernel_rfl
theorem den_b {id : String} {b : Builtin} (e : entryFor treeTable id = some b) (args : Args) : denote treeTable (.builtin id args) = b args := by
  show (match entryFor treeTable id with | some b => b args | none => _) = _
  rw [e]

section
variable {prog : Program} {w : World} {A : Around}
noncomputable def kIdx (es : Array DictEntry) (s : Str) : Option Nat := es.findIdx? (·.key.isStr s)
noncomputable def foundR (d : Addr) (s : Str) (t : Tok) (es : Array DictEntry) : RTree (Option Nat) :=
  .dec (kIdx es s).isSome fun b => match b with
    | false => .sem (pure none)
    | true => .bind (.sem (dictEpoch d (keyPart (.str s t)))) fun before => .bind (.sem (dictEpoch d (keyPart (.str s t)))) fun after => .same after before (.sem (pure (some ((kIdx es s).getD 0))))
theorem isStr_is {v : Value} {s : Str} (h : v.isStr s = true) : ∃ t, v = .str s t := by
  cases v <;> simp [Value.isStr] at h
  rename_i x t
  exact ⟨t, by rw [h]⟩
theorem dn_found {d : Addr} {s : Str} {t : Tok} {es : Array DictEntry} : Dn (model prog w) A (foundByValue d (.str s t) es s) (foundR d s t es) := by
  unfold foundByValue foundR
  intro v hv
  subst hv
  show Den _ _ (match (kIdx es s).isSome with | false => _ | true => _) _
  cases hi : kIdx es s with
  | none =>
    have hi' : es.findIdx? (fun x => x.key.isStr s) = none := hi
    rw [hi']
    exact Dn.rfl
  | some i =>
    have hi' : es.findIdx? (fun x => x.key.isStr s) = some i := hi
    rw [hi']
    obtain ⟨hlt, hk, _⟩ := Array.findIdx?_eq_some_iff_getElem.mp hi'
    obtain ⟨tk, hk⟩ := isStr_is hk
    have he : es[i]? = some es[i] := by simp [hlt]
    simp only [he, hk]
    apply Dn.step; intro before
    refine Dn.simA (t' := dictEpoch d (keyPart (.str s t)) >>= fun after => if (after != before) = true then (unsupported "" : Sem (Option Nat)) else pure (some i)) ?_ ?_
    · intro Q E s' z
      refine wpAny_bind (wpAny_eqBool_str ?_)
      refine Sim.any (Sim.bind Sim.rfl fun after => ?_) z
      by_cases h : (after != before) = true
      · rw [if_pos h]
        intro Γ p Q E s hΓ k
        rw [if_pos h] at k
        exact k.elim
      · rw [if_neg h]
        simp only [decide_true, if_true]
        intro Γ p Q E s hΓ k
        rw [if_neg h] at k
        exact k
    · apply Dn.step; intro after
      intro e
      subst e
      rw [if_neg (by simp)]
      exact Dn.rfl
noncomputable def pastR (o : Obj) : RTree Unit := match o.data with
  | .dict es _ => .dec (decide (es.size > sizeLine + 1)) fun b => match b with | true => .fail | false => .sem (pure ())
  | .seq xs _ => .dec (decide (xs.size > sizeLine + 1)) fun b => match b with | true => .fail | false => .sem (pure ())
  | _ => .fail
noncomputable def lookBR (a : Addr) (part : Option Value) : RTree Unit := .bind (.sem (loadPart a part)) pastR
theorem dn_lookB {a : Addr} {part : Option Value} : Dn (model prog w) A (lookBehind a part) (lookBR a part) := by
  unfold lookBehind lookBR
  apply Dn.step; intro o
  obtain ⟨c, dd, dt, sl⟩ := o
  cases dt
  case dict es n =>
    intro v hv
    cases v with
    | true => exact Dn.no
    | false =>
      have : ¬ es.size > sizeLine + 1 := of_decide_eq_false hv
      simp only [Data.pastItsLine, if_neg this]
      exact Dn.rfl
  case seq es n =>
    intro v hv
    cases v with
    | true => exact Dn.no
    | false =>
      have : ¬ es.size > sizeLine + 1 := of_decide_eq_false hv
      simp only [Data.pastItsLine, if_neg this]
      exact Dn.rfl
  all_goals exact Dn.no
noncomputable def updKR (a : Addr) (f : Array DictEntry → Array DictEntry) (part : Option Value) : RTree Unit :=
  .bind (.sem (loadPart a part)) fun o => match o.data with
    | .dict _ _ => .bind (.sem (updatePart a part (Obj.mapDictKeys f))) fun _ => lookBR a part
    | _ => .fail
theorem dn_updK {a : Addr} {f : Array DictEntry → Array DictEntry} {part : Option Value} : Dn (model prog w) A (updateDictKeys a f part) (updKR a f part) := by
  unfold updateDictKeys updKR
  apply Dn.step; intro o
  obtain ⟨c, dd, dt, sl⟩ := o
  cases dt
  case dict es n => exact Dn.step (tf := fun _ => lookBehind a part) fun _ => dn_lookB
  all_goals exact Dn.no
noncomputable def updSR (a : Addr) (f : Array Value → Array Value) : RTree Unit :=
  .bind (.sem (load a)) fun o => match o.data with
    | .seq _ _ => .bind (.sem (update a (Obj.mapSeq f))) fun _ => lookBR a none
    | _ => .fail
theorem dn_updS {a : Addr} {f : Array Value → Array Value} : Dn (model prog w) A (updateSeq a f) (updSR a f) := by
  unfold updateSeq updSR
  apply Dn.step; intro o
  obtain ⟨c, dd, dt, sl⟩ := o
  cases dt
  case seq es n => exact Dn.step (tf := fun _ => lookBehind a none) fun _ => dn_lookB
  all_goals exact Dn.no
noncomputable def findR (d : Addr) (s : Str) (t : Tok) : RTree (Option Nat) :=
  .bind (.sem (dictEntries d (keyPart (.str s t)))) fun es => .dec (es.all fun e => isExactStrKey e.key) fun b => match b with
    | true => foundR d s t es
    | false => .fail
theorem dn_find {d : Addr} {s : Str} {t : Tok} {h : Int} : Dn (model prog w) A (dictFind d (.str s t) h) (findR d s t) := by
  unfold dictFind findR
  refine Dn.holding ?_
  apply Dn.step; intro es
  intro v hv
  subst hv
  show Den _ _ (match (es.all fun e => isExactStrKey e.key) with | true => _ | false => _) _
  cases hb : es.all fun e => isExactStrKey e.key with
  | false => exact Dn.no
  | true =>
    dsimp only
    rw [if_pos rfl]
    exact dn_found
noncomputable def getDR (d : Addr) (s : Str) (t : Tok) : RTree (Option Value) :=
  .bind (.sem (pyHash (.str s t))) fun _ => .bind (findR d s t) fun o => match o with
    | some i => .bind (.sem (dictEntries d (keyPart (.str s t)))) fun es => .sem (pure ((es[i]?).map (·.val)))
    | none => .sem (pure none)
theorem dn_get {d : Addr} {s : Str} {t : Tok} : Dn (model prog w) A (dictGet d (.str s t)) (getDR d s t) := by
  unfold dictGet getDR
  refine Dn.holding ?_
  apply Dn.step; intro h
  apply Dn.bind dn_find; intro o
  cases o with
  | none => exact Dn.rfl
  | some i =>
    apply Dn.step; intro es
    exact Dn.rfl
end
noncomputable def containsR (d : Addr) (s : Str) (t : Tok) : { r : RTree Fin // ∀ prog w A, A.depth < recursionLimit → Dn (model prog w) A (Builtin.«dict.__contains__» ⟨[.ref d, .str s t], []⟩) r } := by
  apply Subtype.mk
  intro prog w A hd
  delta Builtin.«dict.__contains__»
  rw [show Builtin.Dict.keyArg "__contains__" ⟨[.ref d, .str s t], []⟩ = pure (d, .str s t) from rfl]
  apply Dn.pure
  apply Dn.bind dn_get; intro o
  apply Dn.dec (b := o.isSome) (F := fun b => if b = true then ret (Value.bool true) else _); intro v
  exact Dn.rfl
noncomputable def isIntO : Option Value → Bool
  | some (.int _ _) => true
  | _ => false
noncomputable def intO : Option Value → Int
  | some (.int i _) => i
  | _ => 0
noncomputable def tokO : Option Value → Tok
  | some (.int _ t) => t
  | _ => 0
theorem intO_is {o : Option Value} (h : isIntO o = true) : o = some (.int (intO o) (tokO o)) := by
  cases o with
  | none => cases h
  | some v => cases v <;> first | rfl | cases h
noncomputable def getitemR (d : Addr) (s : Str) (t : Tok) : { r : RTree Fin // ∀ prog w A, A.depth < recursionLimit → Dn (model prog w) A (Builtin.«dict.__getitem__» ⟨[.ref d, .str s t], []⟩) r } := by
  apply Subtype.mk
  intro prog w A hd
  delta Builtin.«dict.__getitem__»
  rw [show Builtin.Dict.keyArg "__getitem__" ⟨[.ref d, .str s t], []⟩ = pure (d, .str s t) from rfl]
  apply Dn.pure
  refine Dn.bind (f := fun o => .dec (isIntO o) fun b => match b with | true => .sem (ret (.int (intO o) (tokO o))) | false => .fail) dn_get ?_; intro o
  intro v hv
  subst hv
  show Den _ _ (match isIntO o with | true => _ | false => _) _
  cases hb : isIntO o with
  | false => exact Dn.no
  | true =>
    rw [intO_is hb]
    exact Dn.rfl
noncomputable def setitemR (d : Addr) (s : Str) (t : Tok) (x : Value) : { r : RTree Fin // ∀ prog w A, A.depth < recursionLimit → Dn (model prog w) A (Builtin.«dict.__setitem__» ⟨[.ref d, .str s t, x], []⟩) r } := by
  apply Subtype.mk
  intro prog w A hd
  delta Builtin.«dict.__setitem__»
  apply Dn.step; intro _
  apply Dn.not
  apply Dn.pure
  dsimp only
  rw [show Builtin.Dict.addrOf (.ref d) = pure d from rfl]
  apply Dn.pure
  apply Dn.bind
  · unfold dictSet
    refine Dn.holding ?_
    apply Dn.step; intro h
    unfold dictSetHashed
    refine Dn.holding ?_
    apply Dn.bind dn_find; intro o
    apply Dn.none (o := o)
    apply Dn.step; intro _
    exact dn_updK
  intro _
  exact Dn.rfl

section
variable {M : Model} {A : Around} {α : Type}
theorem dn_ite {c : Prop} [Decidable c] {r1 r2 : RTree α} {a b : Sem α} (h1 : Dn M A a r1) (h2 : Dn M A b r2) : Dn M A (if c then a else b) (if c then r1 else r2) := by
  split
  · exact h1
  · exact h2
theorem pick_one {β : Type} (f : Nat → Nat) (e : β) : pickOrder f #[e] = #[e] := by
  unfold pickOrder
  show pickOrder.go f 1 0 [e] #[] = _
  unfold pickOrder.go
  rw [show f 0 % [e].length = 0 from Nat.mod_one _]
  rfl
theorem below_one (j k : Nat) : SetTable.below #[j] k = if decide (j < k) = true then 1 else 0 := by
  unfold SetTable.below
  show SetTable.below.go #[j] k 1 0 1 = _
  unfold SetTable.below.go
  by_cases h : j < k
  · simp [h, SetTable.below.go]
  · simp [h, SetTable.below.go]
noncomputable def walkR (a : Addr) : { r : RTree (Array (Int × Value)) // ∀ M A, Dn M A (setWalk a) r } := by
  apply Subtype.mk
  intro M A
  unfold setWalk
  apply Dn.step; intro p
  apply Dn.pair (o := p); intro es q
  apply Dn.pair (o := q); intro ep t
  apply Dn.step; intro b
  apply Dn.yes
  apply Dn.step; intro st
  refine (?_ : Dn M A _ (match es with | ⟨[e]⟩ => .sem (Pure.pure #[e]) | _ => .fail))
  split
  · rw [pick_one]; exact Dn.rfl
  · exact Dn.no
noncomputable def nextR (a : Addr) (slot given ep : Nat) : { r : RTree (Option (Value × Nat)) // ∀ M A, Dn M A (setNext a slot given ep) r } := by
  apply Subtype.mk
  intro M A
  unfold setNext
  apply Dn.step; intro p
  apply Dn.pair (o := p); intro es q
  apply Dn.pair (o := q); intro epoch t
  apply Dn.step; intro b
  apply dn_ite
  · apply Dn.not
    apply Dn.bind ((walkR a).2 M A); intro wk
    exact Dn.rfl
  · apply Dn.not
    apply Dn.step; intro _
    refine (?_ : Dn M A _ (match t with | ⟨mk, ⟨[j]⟩, dm, fg, ld, mv, pl⟩ => .dec (decide (j < slot)) (fun v => .sem (Pure.pure (match es[if v = true then 1 else 0]?, (#[j] : Array Nat)[if v = true then 1 else 0]? with | some (_, x), some j => some (x, j + 1) | _, _ => none))) | _ => .fail))
    split
    · rename_i mk j dm fg ld mv pl
      show Dn M A (Pure.pure (match es[SetTable.below #[j] slot]?, (#[j] : Array Nat)[SetTable.below #[j] slot]? with | some (_, x), some j => some (x, j + 1) | _, _ => none)) _
      rw [below_one]
      exact Dn.dec (F := fun v => Pure.pure (match es[if v = true then 1 else 0]?, (#[j] : Array Nat)[if v = true then 1 else 0]? with | some (_, x), some j => some (x, j + 1) | _, _ => none)) fun _ => Dn.rfl
    · exact Dn.no
theorem dn_toList {σ : Type} {tm : Sem (Array σ)} {F : List σ → RTree α} {tf : Array σ → Sem α} (k : ∀ a, Dn M A (tf a) (F a.toList)) : Dn M A (tm >>= tf) (.bind (.sem tm) fun a => F a.toList) := Dn.step k
theorem dn_five {f : List Value → Sem α} {l : List Value} {g : Int → Tok → Int → Tok → Addr → Int → Tok → Int → Tok → RTree α} (k : ∀ slot tk i t1 a size t2 epoch t3, Dn M A (f [.int slot tk, .int i t1, .ref a, .int size t2, .int epoch t3]) (g slot tk i t1 a size t2 epoch t3)) :
    Dn M A (f l) (match l with | [.int slot tk, .int i t1, .ref a, .int size t2, .int epoch t3] => g slot tk i t1 a size t2 epoch t3 | _ => .fail) := by
  split
  · exact k ..
  · exact Dn.no
noncomputable def sinR (args : Args) : { r : RTree Fin // ∀ M A, A.depth < recursionLimit → Dn M A (Builtin.«set_iterator.__next__» args) r } := by
  apply Subtype.mk
  intro M A hd
  delta Builtin.«set_iterator.__next__»
  apply Dn.step; intro p
  apply dn_toList; intro vs
  generalize vs.toList = l
  apply dn_five (l := l); intro slot tk i t1 a size t2 epoch t3
  apply Dn.step; intro es
  apply Dn.not
  apply Dn.bind ((nextR a slot.toNat i.toNat epoch.toNat).2 M A); intro o
  exact Dn.rfl
end

section
variable {prog : Program} {w : World} {K : Type} [DecidableEq K] {knd : PySem.KeyKind prog w K} {A : Around} {s : Shared} {a : Addr} {k : K} {key : Value} {R : Result → Shared → Prop}
theorem contains_code {S : K → Bool} {n : Nat} (hkey : knd.is k key = true) (hsc : key.scannable = true) (hS : s.heap.SetOf knd a S n) (h : R (.ok (.ret (.bool (S k)))) { s with toks := s.toks + 1 }) :
    codeAny (model prog w) A (.call (.builtin "set.__contains__") ⟨[.ref a, key], []⟩) R s := by
  refine codeAny_call_builtin F.slot_set_contains.plain entry_set_contains (F.slot_set_contains.check _ _ _ _ _ _ _ _ hS.typeIs (F.args_set_contains_2 _ _) ?_)
  unfold Builtin.«frozenset.__contains__» Builtin.Frozenset.oneOther
  simp only [List.isEmpty_nil, bind_assoc]
  unfold Builtin.Frozenset.addrOf Builtin.Frozenset.withSetAsKey setContains
  refine wpAny_bind (wpAny_pure ?_)
  try dsimp only
  refine wpAny_bind (wpAny_pure ?_)
  try dsimp only
  refine wpAny_bind (wpAny_tryCatch ?_)
  refine wpAny_holding ?_
  refine wpAny_bind (knd.pyHash hkey ?_)
  refine wpAny_bind (wpAny_setFind_of (s := { s with toks := s.toks + 1 }) hkey hsc hS fun r hr => ?_)
  refine wpAny_pure ?_
  show wpAny _ _ (ret (Value.bool r.isSome)) _ _ _
  rw [hr]
  exact wpAny_pure h
end
noncomputable def set1 (h : Int) (md : Str) (tm : Tok) (ep : Nat) (tb : SetTable) : Obj := { cls := .type "set", data := .set #[(h, .str md tm)] ep tb }
theorem set1_of {prog : Program} {w : World} {hp : Heap} {a : Addr} {h : Int} {md : Str} {tm : Tok} {ep : Nat} {tb : SetTable} (e : hp.get? a = some (set1 h md tm ep tb)) (hh : h = hashStr w md) (hf : tb.fits 1 = true) :
    hp.SetOf (PySem.strKind prog w) a (fun x => decide (x = md)) 1 := by
  refine ⟨_, _, ep, tb, e, ⟨rfl, rfl, rfl⟩, rfl, ?_, ?_, (show 1 < scanBound by decide), hf, rfl⟩
  · intro z hz
    simp at hz
    subst hz
    exact ⟨⟨md, by simp [PySem.strKind, Value.isStrOf], hh⟩, rfl⟩
  · intro k
    simp [PySem.strKind, Value.isStrOf]
    exact eq_comm

theorem entT_start : entryFor treeTable "str.startswith" = some Builtin.«str.startswith» := by kernel_rfl
theorem entT_add : entryFor treeTable "str.__add__" = some Builtin.«str.__add__» := by kernel_rfl
theorem entT_ieq : entryFor treeTable "int.__eq__" = some Builtin.«int.__eq__» := by kernel_rfl
theorem entT_ladd : entryFor treeTable "list.__add__" = some Builtin.«list.__add__» := by kernel_rfl
theorem start_tree (x y : Str) (t u : Tok) : Builtin.«str.startswith» ⟨[.str x t, .str y u], []⟩ = ret (.bool (Txt.startswith x y)) := by
  show ret (.bool (decide (0 + y.length ≤ min x.length x.length) && Builtin.Str.subAt x y 0)) = _
  rw [Nat.min_self]
  rfl
theorem ieq_tree (x y : Int) (t u : Tok) : Builtin.«int.__eq__» ⟨[.int x t, .int y u], []⟩ = ret (.bool (x == y)) := rfl
theorem mkStr_ok {s : Str} (h : ¬ s.length > sizeLine) : mkStr s = mkText s := by
  unfold mkStr
  rw [if_neg h]
  rfl
noncomputable def saddR (x y : Str) : RTree Fin := .dec (x.length == 0) fun v => match v with
  | true => .fail
  | false => .dec (y.length == 0) fun v => match v with
    | true => .fail
    | false => .dec (decide ((x ++ y).length > sizeLine)) fun v => match v with
      | true => .fail
      | false => .sem (do ret (← mkText (x ++ y)))
theorem dn_sadd {M : Model} {A : Around} (x y : Str) (t u : Tok) : Dn M A (Builtin.«str.__add__» ⟨[.str x t, .str y u], []⟩) (saddR x y) := by
  show Dn M A (if (true && x.length == 0) = true then (do rule "str.__add__.left-empty"; ret (.str y u)) else
    if (true && y.length == 0) = true then (do rule "str.__add__.right-empty"; ret (.str x t)) else retStr (x ++ y)) _
  simp only [Bool.true_and]
  intro v hv
  cases v with
  | true => exact Dn.no
  | false =>
    rw [hv, if_neg Bool.false_ne_true]
    intro v hv
    cases v with
    | true => exact Dn.no
    | false =>
      rw [hv, if_neg Bool.false_ne_true]
      intro v hv
      cases v with
      | true => exact Dn.no
      | false =>
        unfold retStr
        rw [mkStr_ok (of_decide_eq_false hv)]
        exact Dn.rfl
theorem newList_ok {zs : Array Value} (h : ¬ zs.size > sizeLine) : newObj (.type "list") (.seq zs) = newObjAsIs (.type "list") (.seq zs) := by
  unfold newObj
  dsimp only
  rw [if_neg h]
noncomputable def laddR (a b : Addr) : { r : RTree Fin // ∀ M A, Dn M A (Builtin.«list.__add__» ⟨[.ref a, .ref b], []⟩) r } := by
  apply Subtype.mk
  intro M A
  delta Builtin.«list.__add__»
  apply Dn.pure
  dsimp only
  apply Dn.step; intro q
  apply Dn.not
  apply Dn.step; intro xs
  apply Dn.step; intro ys
  refine (?_ : Dn M A _ (.dec (decide ((xs ++ ys).size > sizeLine)) fun v => match v with | true => .fail | false => .sem (newObjAsIs (.type "list") (.seq (xs ++ ys)) >>= fun v => ret v)))
  intro v hv
  cases v with
  | true => exact Dn.no
  | false =>
    rw [newList_ok (of_decide_eq_false hv)]
    exact Dn.rfl
noncomputable def valS (v : Value) : Option (Str × Tok) := match v with
  | .str s t => some (s, t)
  | _ => none
noncomputable def valI (v : Value) : Option (Int × Tok) := match v with
  | .int s t => some (s, t)
  | _ => none
noncomputable def valR (v : Value) : Option Addr := match v with
  | .ref a => some a
  | _ => none
noncomputable def arg1 (a : Args) : Option Value := match a with
  | ⟨[x], []⟩ => some x
  | _ => none
noncomputable def arg2 (a : Args) : Option (Value × Value) := match a with
  | ⟨[x, y], []⟩ => some (x, y)
  | _ => none
noncomputable def arg3 (a : Args) : Option (Value × Value × Value) := match a with
  | ⟨[x, y, z], []⟩ => some (x, y, z)
  | _ => none
noncomputable def arg4 (a : Args) : Option (Value × Value × Value × Value) := match a with
  | ⟨[x, y, z, u], []⟩ => some (x, y, z, u)
  | _ => none
theorem valS_is {v : Value} {p : Str × Tok} (h : valS v = some p) : v = .str p.1 p.2 := by
  cases v <;> cases h <;> rfl
theorem valI_is {v : Value} {p : Int × Tok} (h : valI v = some p) : v = .int p.1 p.2 := by
  cases v <;> cases h <;> rfl
theorem valR_is {v : Value} {p : Addr} (h : valR v = some p) : v = .ref p := by
  cases v <;> cases h <;> rfl
theorem arg1_is {a : Args} {p : Value} (h : arg1 a = some p) : a = ⟨[p], []⟩ := by
  rcases a with ⟨_ | ⟨x, _ | ⟨y, l⟩⟩, _ | ⟨q, k⟩⟩ <;> cases h <;> rfl
theorem arg2_is {a : Args} {p : Value × Value} (h : arg2 a = some p) : a = ⟨[p.1, p.2], []⟩ := by
  rcases a with ⟨_ | ⟨x, _ | ⟨y, _ | ⟨z, l⟩⟩⟩, _ | ⟨q, k⟩⟩ <;> cases h <;> rfl
theorem arg3_is {a : Args} {p : Value × Value × Value} (h : arg3 a = some p) : a = ⟨[p.1, p.2.1, p.2.2], []⟩ := by
  rcases a with ⟨_ | ⟨x, _ | ⟨y, _ | ⟨z, _ | ⟨u, l⟩⟩⟩⟩, _ | ⟨q, k⟩⟩ <;> cases h <;> rfl
theorem arg4_is {a : Args} {p : Value × Value × Value × Value} (h : arg4 a = some p) : a = ⟨[p.1, p.2.1, p.2.2.1, p.2.2.2], []⟩ := by
  rcases a with ⟨_ | ⟨x, _ | ⟨y, _ | ⟨z, _ | ⟨u, _ | ⟨r, l⟩⟩⟩⟩⟩, _ | ⟨q, k⟩⟩ <;> cases h <;> rfl
noncomputable def mRS (a : Args) : Option (Addr × Str × Tok) := (arg2 a).bind fun p => (valR p.1).bind fun r0 => (valS p.2).map fun r1 => (r0, r1.1, r1.2)
theorem mRS_is {a : Args} {d : Addr} {s : Str} {t : Tok} (h : mRS a = some (d, s, t)) : a = ⟨[.ref d, .str s t], []⟩ := by
  obtain ⟨p, e0, h⟩ := Option.bind_eq_some_iff.mp h
  obtain ⟨r0, e1, h⟩ := Option.bind_eq_some_iff.mp h
  obtain ⟨r1, e2, h⟩ := Option.map_eq_some_iff.mp h
  cases h
  rw [arg2_is e0, valR_is e1, valS_is e2]
noncomputable def mRSV (a : Args) : Option (Addr × Str × Tok × Value) := (arg3 a).bind fun p => (valR p.1).bind fun r0 => (valS p.2.1).map fun r1 => (r0, r1.1, r1.2, p.2.2)
theorem mRSV_is {a : Args} {d : Addr} {s : Str} {t : Tok} {x : Value} (h : mRSV a = some (d, s, t, x)) : a = ⟨[.ref d, .str s t, x], []⟩ := by
  obtain ⟨p, e0, h⟩ := Option.bind_eq_some_iff.mp h
  obtain ⟨r0, e1, h⟩ := Option.bind_eq_some_iff.mp h
  obtain ⟨r1, e2, h⟩ := Option.map_eq_some_iff.mp h
  cases h
  rw [arg3_is e0, valR_is e1, valS_is e2]
noncomputable def mSS (a : Args) : Option (Str × Tok × Str × Tok) := (arg2 a).bind fun p => (valS p.1).bind fun r0 => (valS p.2).map fun r1 => (r0.1, r0.2, r1.1, r1.2)
theorem mSS_is {a : Args} {x y : Str} {t u : Tok} (h : mSS a = some (x, t, y, u)) : a = ⟨[.str x t, .str y u], []⟩ := by
  obtain ⟨p, e0, h⟩ := Option.bind_eq_some_iff.mp h
  obtain ⟨r0, e1, h⟩ := Option.bind_eq_some_iff.mp h
  obtain ⟨r1, e2, h⟩ := Option.map_eq_some_iff.mp h
  cases h
  rw [arg2_is e0, valS_is e1, valS_is e2]
noncomputable def mII (a : Args) : Option (Int × Tok × Int × Tok) := (arg2 a).bind fun p => (valI p.1).bind fun r0 => (valI p.2).map fun r1 => (r0.1, r0.2, r1.1, r1.2)
theorem mII_is {a : Args} {x y : Int} {t u : Tok} (h : mII a = some (x, t, y, u)) : a = ⟨[.int x t, .int y u], []⟩ := by
  obtain ⟨p, e0, h⟩ := Option.bind_eq_some_iff.mp h
  obtain ⟨r0, e1, h⟩ := Option.bind_eq_some_iff.mp h
  obtain ⟨r1, e2, h⟩ := Option.map_eq_some_iff.mp h
  cases h
  rw [arg2_is e0, valI_is e1, valI_is e2]
noncomputable def mRR (a : Args) : Option (Addr × Addr) := (arg2 a).bind fun p => (valR p.1).bind fun r0 => (valR p.2).map fun r1 => (r0, r1)
theorem mRR_is {a : Args} {d s : Addr} (h : mRR a = some (d, s)) : a = ⟨[.ref d, .ref s], []⟩ := by
  obtain ⟨p, e0, h⟩ := Option.bind_eq_some_iff.mp h
  obtain ⟨r0, e1, h⟩ := Option.bind_eq_some_iff.mp h
  obtain ⟨r1, e2, h⟩ := Option.map_eq_some_iff.mp h
  cases h
  rw [arg2_is e0, valR_is e1, valR_is e2]

theorem entT_ln : entryFor treeTable "list_iterator.__next__" = some Builtin.«list_iterator.__next__» := by kernel_rfl
noncomputable def isStrO : Option Value → Bool
  | some (.str _ _) => true
  | _ => false
noncomputable def strO : Option Value → Str
  | some (.str s _) => s
  | _ => Str.empty
noncomputable def tokS : Option Value → Tok
  | some (.str _ t) => t
  | _ => 0
theorem strO_is {o : Option Value} (h : isStrO o = true) : o = some (.str (strO o) (tokS o)) := by
  cases o with
  | none => cases h
  | some v => cases v <;> first | rfl | cases h
noncomputable def m1R : Args → Option Addr
  | ⟨[.ref a], []⟩ => some a
  | _ => none
theorem m1R_is {a : Args} {d : Addr} (h : m1R a = some d) : a = ⟨[.ref d], []⟩ := by
  unfold m1R at h
  split at h
  · cases h; rfl
  · cases h
noncomputable def lnV (look : Option Value → Bool) (val : Option Value → Value) (self : Value) (i : Int) (o : Option Value) : RTree Fin :=
  .dec (look o) fun b => match b with
    | true => .sem (setField self 1 (rawInt (i + 1)) >>= fun _ => ret (val o))
    | false => .dec o.isSome fun b => match b with
      | true => .fail
      | false => .sem (rule "list_iterator.__next__.end" >>= fun _ => setField self 0 .none >>= fun _ => Builtin.SmallTypes.stopIteration)
noncomputable def lnR (look : Option Value → Bool) (val : Option Value → Value) (args : Args) : RTree Fin :=
  .bind (.sem (slotArgs "__next__" 0 args)) fun p => .bind (.sem (field p.1 0)) fun seq => if (seq == .none) = true then .fail else .bind (.sem (field p.1 1)) fun iv => match iv with
    | .int i _ => .bind (.sem (seqItems? seq)) fun o => match o with
      | some xs => lnV look val p.1 i (xs[i.toNat]?)
      | none => .fail
    | _ => .fail
noncomputable def lnW (self : Value) (i : Int) (o : Option Value) : Sem Fin := match o with
  | some x => setField self 1 (rawInt (i + 1)) >>= fun _ => ret x
  | none => rule s!"{"list_iterator.__next__"}.end" >>= fun _ => setField self 0 .none >>= fun _ => Builtin.SmallTypes.stopIteration
noncomputable def lnJ (self seq : Value) : Sem Fin := field self 1 >>= fun iv => match iv with
    | .int i _ => seqItems? seq >>= fun o => match o with
      | some xs => lnW self i (xs[i.toNat]?)
      | none => unsupported s!"internal:{"list_iterator.__next__"}"
    | _ => unsupported s!"internal:{"list_iterator.__next__"}"
theorem dn_lnV {M : Model} {A : Around} {look : Option Value → Bool} {val : Option Value → Value} (hl : ∀ o, look o = true → o = some (val o)) (self : Value) (i : Int) (o : Option Value) : Dn M A (lnW self i o) (lnV look val self i o) := by
  cases o with
  | some x =>
    intro v hv
    cases v with
    | true =>
      have e := hl _ hv
      have e2 : val (some x) = x := (Option.some.inj e).symm
      show Den M A (.sem (setField self 1 (rawInt (i + 1)) >>= fun _ => ret (val (some x)))) (setField self 1 (rawInt (i + 1)) >>= fun _ => ret x)
      rw [e2]
      exact Dn.rfl
    | false =>
      intro v hv
      cases hv
      exact Dn.no
  | none =>
    intro v hv
    cases v with
    | true => cases hl _ hv
    | false =>
      intro v hv
      cases hv
      exact Dn.rfl
theorem dn_ln {M : Model} {A : Around} {look : Option Value → Bool} {val : Option Value → Value} (hl : ∀ o, look o = true → o = some (val o)) (args : Args) : Dn M A (Builtin.«list_iterator.__next__» args) (lnR look val args) := by
  unfold lnR
  refine Dn.step (tm := slotArgs "__next__" 0 args) ?_
  rintro ⟨self, rest⟩
  refine Dn.step (tm := field self 0) ?_
  intro seq
  refine Dn.not (c := (seq == .none) = true) ?_
  refine Dn.step (tm := field self 1) ?_
  intro iv
  cases iv
  case int i t =>
    refine Dn.step (tm := seqItems? seq) ?_
    intro o
    cases o with
    | none => exact Dn.no
    | some xs => exact dn_lnV hl _ _ _
  all_goals exact Dn.no

theorem entT_lg : entryFor treeTable "list.__getitem__" = some Builtin.«list.__getitem__» := by kernel_rfl
theorem entT_sg2 : entryFor treeTable "str.__getitem__" = some Builtin.«str.__getitem__» := by kernel_rfl
theorem entT_seq : entryFor treeTable "str.__eq__" = some Builtin.«str.__eq__» := by kernel_rfl
noncomputable def lgetP (k : Int) (xs : Array Value) : Option (Nat × Value) := (seqIndex? k xs.size).bind fun j => xs[j]?.map (j, ·)
noncomputable def isStrP : Option (Nat × Value) → Bool
  | some (_, .str _ _) => true
  | _ => false
noncomputable def strP : Option (Nat × Value) → Str
  | some (_, .str s _) => s
  | _ => Str.empty
noncomputable def tokP : Option (Nat × Value) → Tok
  | some (_, .str _ t) => t
  | _ => 0
noncomputable def plP : Option (Nat × Value) → Nat
  | some (j, _) => j
  | _ => 0
theorem strP_is {o : Option (Nat × Value)} (h : isStrP o = true) : o = some (plP o, .str (strP o) (tokP o)) := by
  cases o with
  | none => cases h
  | some v =>
    obtain ⟨j, v⟩ := v
    cases v <;> first | rfl | cases h
section
variable {M : Model} {A : Around} {α : Type}
theorem Dn.neg {f : Int → Sem α} {k : Int} {g : Nat → RTree α} (h : ∀ j, Dn M A (f (.negSucc j)) (g j)) : Dn M A (f k) (match k with | .negSucc j => g j | .ofNat n => .fail) := by
  cases k with
  | negSucc j => exact h j
  | ofNat n => exact Dn.no
noncomputable def itR (a : Addr) (j : Nat) : RTree (Option (Nat × Value)) := .bind (.sem (Builtin.List.listItems (.ref a))) fun xs => .dec (isStrP (lgetP (.negSucc j) xs)) fun b => match b with
  | true => .sem (pure (some (plP (lgetP (.negSucc j) xs), .str (strP (lgetP (.negSucc j) xs)) (tokP (lgetP (.negSucc j) xs)))))
  | false => .fail
theorem dn_it {a : Addr} {j : Nat} {F : Array Value → Sem (Option (Nat × Value))} (hF : ∀ xs, F xs = pure (lgetP (.negSucc j) xs)) : Dn M A (Builtin.List.listItems (.ref a) >>= F) (itR a j) := by
  unfold itR
  apply Dn.step; intro xs
  rw [hF]
  intro v hv
  cases v with
  | false => exact Dn.no
  | true =>
    have e := strP_is hv
    show Den M A (.sem (pure (some (plP (lgetP (.negSucc j) xs), Value.str (strP (lgetP (.negSucc j) xs)) (tokP (lgetP (.negSucc j) xs)))))) (pure (lgetP (.negSucc j) xs))
    rw [← e]
    exact Dn.rfl
end
noncomputable def lgR (args : Args) : { r : RTree Fin // ∀ M A, Dn M A (Builtin.«list.__getitem__» args) r } := by
  apply Subtype.mk
  intro M A
  delta Builtin.«list.__getitem__»
  apply Dn.step; intro p
  apply Dn.pair (o := p); intro self i
  apply Dn.step; intro o
  apply Dn.some (o := o); intro k
  apply Dn.ref' (v := self); intro a
  apply Dn.neg (k := k); intro j
  apply Dn.bind (h := dn_it (F := fun xs => pure (lgetP (.negSucc j) xs)) fun _ => rfl)
  intro r
  exact Dn.rfl
noncomputable def sliceP (s : Str) (lo hi : Option Int) (step : Int) : List Nat := Builtin.Str.strSliceIndices lo hi step s.length
noncomputable def sliceS (s : Str) (lo hi : Option Int) (step : Int) : Str := ⟨((sliceP s lo hi step).filterMap (s.cps[·]?)).toArray⟩
noncomputable def sgR (args : Args) : { r : RTree Fin // ∀ M A, Dn M A (Builtin.«str.__getitem__» args) r } := by
  apply Subtype.mk
  intro M A
  delta Builtin.«str.__getitem__»
  apply Dn.step; intro p
  apply Dn.pair (o := p); intro self q
  apply Dn.pair (o := q); intro s rest
  apply Dn.step; intro ty
  apply Dn.yes
  apply Dn.step; intro sl
  apply Dn.pair (o := sl); intro lo q2
  apply Dn.pair (o := q2); intro hi step
  refine (?_ : Dn M A _ (.dec (step == 1 && (sliceP s lo hi step).length == s.length) fun b => match b with
    | true => .sem (rule "str.__getitem__.whole" >>= fun _ => Builtin.Str.strUnchanged self s >>= fun v => ret v)
    | false => .dec (decide ((sliceS s lo hi step).length > sizeLine)) fun b => match b with
      | true => .fail
      | false => .sem (mkText (sliceS s lo hi step) >>= fun v => ret v)))
  intro v hv
  cases v with
  | true =>
    have hv' : (step == 1 && (Builtin.Str.strSliceIndices lo hi step s.length).length == s.length) = true := hv
    dsimp only
    rw [hv', if_pos rfl]
    exact Dn.rfl
  | false =>
    have hv' : (step == 1 && (Builtin.Str.strSliceIndices lo hi step s.length).length == s.length) = false := hv
    dsimp only
    rw [hv', if_neg Bool.false_ne_true]
    intro v hv2
    cases v with
    | true => exact Dn.no
    | false =>
      have : ¬ (sliceS s lo hi step).length > sizeLine := of_decide_eq_false hv2
      show Den M A _ (retStr (sliceS s lo hi step))
      unfold retStr
      rw [mkStr_ok this]
      exact Dn.rfl
theorem entT_len : entryFor treeTable "len" = some Builtin.«len» := by kernel_rfl
noncomputable def lenR (args : Args) : { r : RTree Fin // ∀ M A, Dn M A (Builtin.«len» args) r } := by
  apply Subtype.mk
  intro M A
  delta Builtin.«len»
  apply Dn.step; intro x
  apply Dn.step; intro o
  apply Dn.some (o := o); intro r
  apply Dn.step; intro n
  apply Dn.step; intro _
  refine (?_ : Dn M A _ (.dec (decide (n < 0)) fun b => match b with
    | true => .fail
    | false => .dec (decide (n ≥ 2 ^ 63)) fun b => match b with
      | true => .fail
      | false => .sem (retInt n)))
  intro v hv
  cases v with
  | true => exact Dn.no
  | false =>
    dsimp only
    rw [if_neg (of_decide_eq_false hv)]
    intro v hv
    cases v with
    | true => exact Dn.no
    | false =>
      rw [if_neg (of_decide_eq_false hv)]
      exact Dn.rfl
noncomputable def strEqB (x y : Str) : Bool := x.cps.toList == y.cps.toList
theorem seq_tree (x y : Str) (t u : Tok) : Builtin.«str.__eq__» ⟨[.str x t, .str y u], []⟩ = ret (.bool (strEqB x y)) := rfl
theorem strEqB_eq {x y : Str} : strEqB x y = decide (x = y) := by
  unfold strEqB
  by_cases h : x = y
  · subst h
    rw [decide_eq_true rfl]
    exact beq_self_eq_true _
  · rw [decide_eq_false h]
    apply beq_false_of_ne
    intro e
    apply h
    obtain ⟨a⟩ := x
    obtain ⟨b⟩ := y
    exact congrArg Str.mk (Array.toList_inj.mp e)
noncomputable def boolT : Option Value → Bool
  | some (.bool true) => true
  | _ => false
noncomputable def boolF : Option Value → Bool
  | some (.bool false) => true
  | _ => false
theorem boolT_is {o : Option Value} (h : boolT o = true) : o = some (.bool true) := by
  unfold boolT at h
  split at h
  · rfl
  · cases h
theorem boolF_is {o : Option Value} (h : boolF o = true) : o = some (.bool false) := by
  unfold boolF at h
  split at h
  · rfl
  · cases h
noncomputable def getitemB (d : Addr) (s : Str) (t : Tok) : { r : RTree Fin // ∀ prog w A, A.depth < recursionLimit → Dn (model prog w) A (Builtin.«dict.__getitem__» ⟨[.ref d, .str s t], []⟩) r } := by
  apply Subtype.mk
  intro prog w A hd
  delta Builtin.«dict.__getitem__»
  rw [show Builtin.Dict.keyArg "__getitem__" ⟨[.ref d, .str s t], []⟩ = pure (d, .str s t) from rfl]
  apply Dn.pure
  refine Dn.bind (f := fun o => .dec (boolT o) fun b => match b with | true => .sem (ret (.bool true)) | false => .dec (boolF o) fun b => match b with | true => .sem (ret (.bool false)) | false => .fail) dn_get ?_; intro o
  intro v hv
  cases v with
  | true =>
    rw [boolT_is hv]
    exact Dn.rfl
  | false =>
    intro v hv
    cases v with
    | false => exact Dn.no
    | true =>
      rw [boolF_is hv]
      exact Dn.rfl
noncomputable def isNeg (i : Int) : Option Unit := match i with
  | .negSucc _ => some ()
  | _ => none
noncomputable def mNeg (a : Args) : Option Args := (arg2 a).bind fun p => (valR p.1).bind fun _ => (valI p.2).bind fun q => (isNeg q.1).map fun _ => a
noncomputable def mSl (a : Args) : Option Args := (arg2 a).bind fun p => (valS p.1).bind fun r0 => (valR p.2).map fun r1 => a
theorem mNeg_is {a b : Args} (h : mNeg a = some b) : a = b := by
  obtain ⟨p, e0, h⟩ := Option.bind_eq_some_iff.mp h
  obtain ⟨r0, e1, h⟩ := Option.bind_eq_some_iff.mp h
  obtain ⟨r1, e2, h⟩ := Option.bind_eq_some_iff.mp h
  obtain ⟨r2, e3, h⟩ := Option.map_eq_some_iff.mp h
  cases h
  rfl
theorem mSl_is {a b : Args} (h : mSl a = some b) : a = b := by
  obtain ⟨p, e0, h⟩ := Option.bind_eq_some_iff.mp h
  obtain ⟨r0, e1, h⟩ := Option.bind_eq_some_iff.mp h
  obtain ⟨r1, e2, h⟩ := Option.map_eq_some_iff.mp h
  cases h
  rfl

theorem entT_app : entryFor treeTable "list.append" = some Builtin.«list.append» := by kernel_rfl
noncomputable def mRV (a : Args) : Option (Addr × Value) := (arg2 a).bind fun p => (valR p.1).map fun r0 => (r0, p.2)
theorem mRV_is {a : Args} {d : Addr} {x : Value} (h : mRV a = some (d, x)) : a = ⟨[.ref d, x], []⟩ := by
  obtain ⟨p, e0, h⟩ := Option.bind_eq_some_iff.mp h
  obtain ⟨r0, e1, h⟩ := Option.map_eq_some_iff.mp h
  cases h
  rw [arg2_is e0, valR_is e1]
noncomputable def appR (a : Addr) (x : Value) : RTree Fin := .bind (updSR a (·.push x)) fun _ => .sem (ret .none)
theorem dn_app {prog : Program} {w : World} {A : Around} (a : Addr) (x : Value) : Dn (model prog w) A (Builtin.«list.append» ⟨[.ref a, x], []⟩) (appR a x) := by
  show Dn (model prog w) A (updateSeq a (·.push x) >>= fun _ => ret .none) (appR a x)
  exact Dn.bind dn_updS fun _ => Dn.rfl
theorem entT_dc : entryFor treeTable "dict.__contains__" = some Builtin.«dict.__contains__» := by kernel_rfl
theorem entT_dg : entryFor treeTable "dict.__getitem__" = some Builtin.«dict.__getitem__» := by kernel_rfl
theorem entT_ds : entryFor treeTable "dict.__setitem__" = some Builtin.«dict.__setitem__» := by kernel_rfl
theorem entT_sin : entryFor treeTable "set_iterator.__next__" = some Builtin.«set_iterator.__next__» := by kernel_rfl
noncomputable abbrev Sb := Code → Option (RTree Fin)
noncomputable def mkE {β : Type} (id : String) (m : Args → Option β) (g : β → RTree Fin) : Sb := fun c => match c with
  | .builtin i args => match PySem.W.S.strDecS i id with
    | .isTrue _ => (m args).map g
    | .isFalse _ => none
  | _ => none
noncomputable def SbOk (prog : Program) (w : World) (f : Sb) : Prop := ∀ c r, f c = some r → ∀ A : Around, A.depth < recursionLimit → A.units < cLine → Den (model prog w) A r (denote treeTable c)
theorem mkE_ok {β : Type} {m : Args → Option β} {g : β → RTree Fin} {id : String} {b : Builtin} {prog : Program} {w : World} (he : entryFor treeTable id = some b)
    (h : ∀ a p (A : Around), m a = some p → A.depth < recursionLimit → Dn (model prog w) A (b a) (g p)) : SbOk prog w (mkE id m g) := by
  intro c r e A hd _
  unfold mkE at e
  split at e
  · split at e
    · rename_i q _
      obtain ⟨p, e1, e2⟩ := Option.map_eq_some_iff.mp e
      rw [q, den_b he, ← e2]
      exact h _ _ _ e1 hd
    · cases e
  · cases e
noncomputable section
noncomputable def m1 : Args → Option Args := some
noncomputable def mNW (a : Args) : Option (Value × Value × Value × Value) := (arg4 a).map fun p => (p.1, p.2.1, p.2.2.1, p.2.2.2)
theorem mNW_is {a : Args} {m n b s : Value} (h : mNW a = some (m, n, b, s)) : a = ⟨[m, n, b, s], []⟩ := by
  obtain ⟨p, e0, h⟩ := Option.map_eq_some_iff.mp h
  cases h
  rw [arg4_is e0]
noncomputable def mSI (a : Args) : Option (Value × Addr × Addr) := (arg3 a).bind fun p => (valR p.2.1).bind fun r1 => (valR p.2.2).map fun r2 => (p.1, r1, r2)
theorem mSI_is {a : Args} {s : Value} {x y : Addr} (h : mSI a = some (s, x, y)) : a = ⟨[s, .ref x, .ref y], []⟩ := by
  obtain ⟨p, e0, h⟩ := Option.bind_eq_some_iff.mp h
  obtain ⟨r1, e2, h⟩ := Option.bind_eq_some_iff.mp h
  obtain ⟨r2, e3, h⟩ := Option.map_eq_some_iff.mp h
  cases h
  rw [arg3_is e0, valR_is e2, valR_is e3]
noncomputable def m2 (a : Args) : Option (Value × Value) := (arg2 a).map fun p => (p.1, p.2)
theorem m2_is {a : Args} {s n : Value} (h : m2 a = some (s, n)) : a = ⟨[s, n], []⟩ := by
  obtain ⟨p, e0, h⟩ := Option.map_eq_some_iff.mp h
  cases h
  rw [arg2_is e0]
noncomputable def m3 (a : Args) : Option (Value × Value × Value) := (arg3 a).map fun p => (p.1, p.2.1, p.2.2)
theorem m3_is {a : Args} {s n x : Value} (h : m3 a = some (s, n, x)) : a = ⟨[s, n, x], []⟩ := by
  obtain ⟨p, e0, h⟩ := Option.map_eq_some_iff.mp h
  cases h
  rw [arg3_is e0]
noncomputable def mCR : Args → Option (Addr × List Value × List (Str × Value))
  | ⟨.ref c :: rest, kw⟩ => some (c, rest, kw)
  | _ => none
theorem mCR_is {a : Args} {c : Addr} {r : List Value} {kw : List (Str × Value)} (h : mCR a = some (c, r, kw)) : a = ⟨.ref c :: r, kw⟩ := by
  unfold mCR at h
  split at h
  · cases h; rfl
  · cases h
noncomputable def sDC : Sb := mkE "dict.__contains__" mRS fun p => (containsR p.1 p.2.1 p.2.2).1
noncomputable def sDG : Sb := mkE "dict.__getitem__" mRS fun p => (getitemR p.1 p.2.1 p.2.2).1
noncomputable def sDS : Sb := mkE "dict.__setitem__" mRSV fun p => (setitemR p.1 p.2.1 p.2.2.1 p.2.2.2).1
noncomputable def sSI : Sb := mkE "set_iterator.__next__" m1 fun a => (sinR a).1
noncomputable def sSW : Sb := mkE "str.startswith" mSS fun p => .dec (Txt.startswith p.1 p.2.2.1) fun b => .sem (ret (.bool b))
noncomputable def sSA : Sb := mkE "str.__add__" mSS fun p => saddR p.1 p.2.2.1
noncomputable def sIE : Sb := mkE "int.__eq__" mII fun p => .dec (p.1 == p.2.2.1) fun b => .sem (ret (.bool b))
noncomputable def sLA : Sb := mkE "list.__add__" mRR fun p => (laddR p.1 p.2).1
noncomputable def sLS : Sb := mkE "list_iterator.__next__" m1 (lnR isStrO fun o => .str (strO o) (tokS o))
noncomputable def sLI : Sb := mkE "list_iterator.__next__" m1 (lnR isIntO fun o => .int (intO o) (tokO o))
noncomputable def sDB : Sb := mkE "dict.__getitem__" mRS fun p => (getitemB p.1 p.2.1 p.2.2).1
noncomputable def sLE : Sb := mkE "len" m1 fun a => (lenR a).1
noncomputable def sGS : Sb := mkE "list.__getitem__" mNeg fun a => (lgR a).1
noncomputable def sSG : Sb := mkE "str.__getitem__" mSl fun a => (sgR a).1
noncomputable def sSE : Sb := mkE "str.__eq__" mSS fun p => .dec (strEqB p.1 p.2.2.1) fun b => .sem (ret (.bool b))
noncomputable def sAP : Sb := mkE "list.append" mRV fun p => appR p.1 p.2
noncomputable def sIA : Sb := mkE "list.__iadd__" m1 fun a => (iaddR a).1
noncomputable def sTN : Sb := mkE "type.__new__" mNW fun p => (newR p.1 p.2.1 p.2.2.1 p.2.2.2).1
noncomputable def sUI : Sb := mkE "super.__init__" mSI fun p => (supIR p.1 p.2.1 p.2.2).1
noncomputable def sUG : Sb := mkE "super.__getattribute__" m2 fun p => (supGR p.1 p.2).1
noncomputable def sTC : Sb := mkE "type.__call__" mCR fun p => (callR p.1 p.2.1 p.2.2).1
noncomputable def sMG : Sb := mkE "member_descriptor.__get__" m1 fun a => (getR a).1
noncomputable def sMS : Sb := mkE "member_descriptor.__set__" m3 fun p => (setR p.1 p.2.1 p.2.2).1
end
section
variable (prog : Program) (w : World)
theorem sDC_ok : SbOk prog w sDC := mkE_ok entT_dc fun a p A h hd => by rw [mRS_is h]; exact (containsR _ _ _).2 _ _ _ hd
theorem sDG_ok : SbOk prog w sDG := mkE_ok entT_dg fun a p A h hd => by rw [mRS_is h]; exact (getitemR _ _ _).2 _ _ _ hd
theorem sDS_ok : SbOk prog w sDS := mkE_ok entT_ds fun a p A h hd => by rw [mRSV_is h]; exact (setitemR _ _ _ _).2 _ _ _ hd
theorem sSI_ok : SbOk prog w sSI := mkE_ok entT_sin fun a p A h hd => by cases h; exact (sinR _).2 _ _ hd
theorem sSW_ok : SbOk prog w sSW := mkE_ok entT_start fun a p A h hd => by rw [mSS_is h, start_tree]; exact Dn.dec (F := fun b => ret (.bool b)) fun _ => Dn.rfl
theorem sSA_ok : SbOk prog w sSA := mkE_ok entT_add fun a p A h hd => by rw [mSS_is h]; exact dn_sadd ..
theorem sIE_ok : SbOk prog w sIE := mkE_ok entT_ieq fun a p A h hd => by rw [mII_is h, ieq_tree]; exact Dn.dec (F := fun b => ret (.bool b)) fun _ => Dn.rfl
theorem sLA_ok : SbOk prog w sLA := mkE_ok entT_ladd fun a p A h hd => by rw [mRR_is h]; exact (laddR _ _).2 _ _
theorem sLS_ok : SbOk prog w sLS := mkE_ok entT_ln fun a p A h hd => by cases h; exact dn_ln (fun o e => strO_is e) _
theorem sLI_ok : SbOk prog w sLI := mkE_ok entT_ln fun a p A h hd => by cases h; exact dn_ln (fun o e => intO_is e) _
theorem sDB_ok : SbOk prog w sDB := mkE_ok entT_dg fun a p A h hd => by rw [mRS_is h]; exact (getitemB _ _ _).2 _ _ _ hd
theorem sLE_ok : SbOk prog w sLE := mkE_ok entT_len fun a p A h hd => by cases h; exact (lenR _).2 _ _
theorem sGS_ok : SbOk prog w sGS := mkE_ok entT_lg fun a p A h hd => by cases mNeg_is h; exact (lgR _).2 _ _
theorem sSG_ok : SbOk prog w sSG := mkE_ok entT_sg2 fun a p A h hd => by cases mSl_is h; exact (sgR _).2 _ _
theorem sSE_ok : SbOk prog w sSE := mkE_ok entT_seq fun a p A h hd => by rw [mSS_is h, seq_tree]; exact Dn.dec (F := fun b => ret (.bool b)) fun _ => Dn.rfl
theorem sAP_ok : SbOk prog w sAP := mkE_ok entT_app fun a p A h hd => by rw [mRV_is h]; exact dn_app _ _
theorem sIA_ok : SbOk prog w sIA := mkE_ok entT_iadd fun a p A h hd => by cases h; exact (iaddR _).2 _ _ hd
theorem sTN_ok : SbOk prog w sTN := mkE_ok entT_new fun a p A h hd => by rw [mNW_is h]; exact (newR _ _ _ _).2 _ _ hd
theorem sUI_ok : SbOk prog w sUI := mkE_ok entT_si fun a p A h hd => by rw [mSI_is h]; exact (supIR _ _ _).2 _ _ hd
theorem sUG_ok : SbOk prog w sUG := mkE_ok entT_sg fun a p A h hd => by rw [m2_is h]; exact (supGR _ _).2 _ _ hd
theorem sTC_ok : SbOk prog w sTC := mkE_ok entT_call fun a p A h hd => by rw [mCR_is h]; exact (callR _ _ _).2 _ _ hd
theorem sMG_ok : SbOk prog w sMG := mkE_ok entT_get fun a p A h hd => by cases h; exact (getR _).2 _ _ hd
theorem sMS_ok : SbOk prog w sMS := mkE_ok entT_set fun a p A h hd => by rw [m3_is h]; exact (setR _ _ _).2 _ _ hd
end
end Mine
-- D4
namespace Mine
theorem entT_rf : entryFor treeTable "str.rfind" = some Builtin.«str.rfind» := by kernel_rfl
theorem entT_ilt : entryFor treeTable "int.__lt__" = some Builtin.«int.__lt__» := by kernel_rfl
theorem entT_igt : entryFor treeTable "int.__gt__" = some Builtin.«int.__gt__» := by kernel_rfl
theorem entT_ine : entryFor treeTable "int.__ne__" = some Builtin.«int.__ne__» := by kernel_rfl
theorem entT_sne : entryFor treeTable "str.__ne__" = some Builtin.«str.__ne__» := by kernel_rfl
theorem entT_cnt : entryFor treeTable "str.count" = some Builtin.«str.count» := by kernel_rfl
theorem entT_sin2 : entryFor treeTable "str.__contains__" = some Builtin.«str.__contains__» := by kernel_rfl
theorem dn_rfind {prog : Program} {w : World} {A : Around} (x y : Str) (t u : Tok) : Dn (model prog w) A (Builtin.«str.rfind» ⟨[.str x t, .str y u], []⟩) (.sem (retInt (Txt.rfind x y))) := by
  intro Q E s h
  have e : Builtin.«str.rfind» ⟨[.str x t, .str y u], []⟩ = (match Builtin.Str.lastOccurrence x y 0 (min x.length x.length) with | some i => retInt i | none => rule "str.rfind.not-found" >>= fun _ => retInt (-1)) := rfl
  rw [e, Nat.min_self]
  have h' : wpAny (model prog w) A (retInt (match Builtin.Str.lastOccurrence x y 0 x.length with | some i => (i : Int) | none => -1)) Q E s := h
  cases hl : Builtin.Str.lastOccurrence x y 0 x.length with
  | some i => rw [hl] at h'; exact h'
  | none => rw [hl] at h'; exact x_rule h'
theorem count_tree (x y : Str) (t u : Tok) : Builtin.«str.count» ⟨[.str x t, .str y u], []⟩ = retInt (Txt.count x y) := by
  show retInt (Builtin.Str.occurrences x y 0 (min x.length x.length) (x.length + 1)).length = _
  rw [Nat.min_self]
  rfl
noncomputable def strHas (s x : Str) : Bool := !(Builtin.Str.occurrences s x 0 s.length 1).isEmpty
theorem entT_ll : entryFor treeTable "list.__len__" = some Builtin.«list.__len__» := by kernel_rfl
noncomputable def llR (args : Args) : { r : RTree Fin // ∀ M A, Dn M A (Builtin.«list.__len__» args) r } := by
  apply Subtype.mk
  intro M A
  delta Builtin.«list.__len__»
  apply Dn.step; intro p
  apply Dn.pair (o := p); intro self q
  apply Dn.ref' (v := self); intro a
  apply Dn.step; intro n
  refine (?_ : Dn M A _ (.dec (Nat.beq n 0) fun b => match b with | true => .sem (retInt 0) | false => .sem (retInt (Int.ofNat (Nat.succ (n - 1))))))
  intro v hv
  cases v with
  | true =>
    have := Nat.eq_of_beq_eq_true hv
    subst this
    exact Dn.rfl
  | false =>
    have h0 : n ≠ 0 := fun e => by subst e; cases hv
    have : n = Nat.succ (n - 1) := by omega
    show Den M A (.sem (retInt (Int.ofNat (Nat.succ (n - 1))))) (retInt (n : Int))
    rw [← this]
    exact Dn.rfl
noncomputable section
noncomputable def sLL : Sb := mkE "list.__len__" m1 fun a => (llR a).1
noncomputable def sRF : Sb := mkE "str.rfind" mSS fun p => .sem (retInt (Txt.rfind p.1 p.2.2.1))
noncomputable def sIL : Sb := mkE "int.__lt__" mII fun p => .dec (decide (p.1 < p.2.2.1)) fun b => .sem (ret (.bool b))
noncomputable def sIG : Sb := mkE "int.__gt__" mII fun p => .dec (decide (p.1 > p.2.2.1)) fun b => .sem (ret (.bool b))
noncomputable def sIN : Sb := mkE "int.__ne__" mII fun p => .dec (p.1 != p.2.2.1) fun b => .sem (ret (.bool b))
noncomputable def sSN : Sb := mkE "str.__ne__" mSS fun p => .dec (!(strEqB p.1 p.2.2.1)) fun b => .sem (ret (.bool b))
noncomputable def sCT : Sb := mkE "str.count" mSS fun p => .sem (retInt (Txt.count p.1 p.2.2.1))
noncomputable def sSH : Sb := mkE "str.__contains__" mSS fun p => .dec (strHas p.1 p.2.2.1) fun b => .sem (ret (.bool b))
end
section
variable (prog : Program) (w : World)
theorem sLL_ok : SbOk prog w sLL := mkE_ok entT_ll fun a p A h hd => by cases h; exact (llR _).2 _ _
theorem sRF_ok : SbOk prog w sRF := mkE_ok entT_rf fun a p A h hd => by rw [mSS_is h]; exact dn_rfind _ _ _ _
theorem sIL_ok : SbOk prog w sIL := mkE_ok entT_ilt fun a p A h hd => by rw [mII_is h]; exact Dn.dec (F := fun b => ret (.bool b)) fun _ => Dn.rfl
theorem sIG_ok : SbOk prog w sIG := mkE_ok entT_igt fun a p A h hd => by rw [mII_is h]; exact Dn.dec (F := fun b => ret (.bool b)) fun _ => Dn.rfl
theorem sIN_ok : SbOk prog w sIN := mkE_ok entT_ine fun a p A h hd => by rw [mII_is h]; exact Dn.dec (F := fun b => ret (.bool b)) fun _ => Dn.rfl
theorem sSN_ok : SbOk prog w sSN := mkE_ok entT_sne fun a p A h hd => by rw [mSS_is h]; exact Dn.dec (F := fun b => ret (.bool b)) fun _ => Dn.rfl
theorem sCT_ok : SbOk prog w sCT := mkE_ok entT_cnt fun a p A h hd => by rw [mSS_is h, count_tree]; exact Dn.rfl
theorem sSH_ok : SbOk prog w sSH := mkE_ok entT_sin2 fun a p A h hd => by rw [mSS_is h]; exact Dn.dec (F := fun b => ret (.bool b)) fun _ => Dn.rfl
end
end Mine
-- H2
namespace Mine
noncomputable section
noncomputable def hSv (n : String) (t : Nat) : Value := .str (Str.ofString n) t
noncomputable def hIv (n : Int) (t : Nat) : Value := .int n t
noncomputable def hKe (P : Params) (n : String) (t : Nat) (v : Value) : DictEntry := ⟨PyData.keyHash P (Str.ofString n), .str (Str.ofString n) t, v⟩
noncomputable def hKz (P : Params) (n : String) (t : Nat) (v : Value) : DictEntry := ⟨@Bool.rec (fun _ => Int) (PySem.W.ZFast.zw12210062019545310541 (P.strHash (Str.ofString n).cps)) 0 (Str.ofString n).cps.isEmpty, .str (Str.ofString n) t, v⟩
noncomputable def hOp (c : Value) (d : Option Addr) (sl : Array (Option Value)) : Obj := { cls := c, dict := d, slots := sl }
noncomputable def hOd (c : Value) (d : Data) : Obj := { cls := c, data := d }
noncomputable def hOs (c : Value) (l : List Value) (n : Nat) : Obj := { cls := c, data := .seq ⟨l⟩ n }
noncomputable def hFs (i : Nat) : Stmt := (PySem.Challenge.pw_nq0110_01.main.body[i]?).getD default
noncomputable def hCl : Stmt → List Stmt
  | .ClassDef _ _ _ b .. => b
  | _ => []
noncomputable def hMs (i : Nat) : Stmt := ((hCl (hFs 12))[i]?).getD default
noncomputable def hOf (s : Stmt) (c : Value) (q : String) (g : Nat) (d m k : Value) : Obj := match s with
  | .FunctionDef n ps b _ _ _ sc _ _ _ => { cls := c, data := .func { name := n, qualname := Str.ofString q, params := ps, body := .stmts b, scope := sc, globals := g, closure := [], defaults := d, kwdefaults := .none, pyModule := m, code := k } }
  | _ => default
noncomputable def ktop (P : Params) : KT := .node (some (boot_o_0 P)) (.node (some (hOd (.type "dict") (.dict #[hKe P "builtins" 162 (.ref 4), hKe P "__main__" 163 (.ref 5)] 2))) (.node (some (hOd (.type "dict") (.dict #[hKe P "__name__" 165 (hSv "law_nq0110_01" 449), hKe P "__doc__" 166 .none, hKe P "__package__" 167 .none, hKe P "__loader__" 168 (.builtin "__main__.__loader__#opaque"), hKe P "__spec__" 169 .none, hKe P "__annotations__" 170 (.ref 6), hKe P "__builtins__" 171 (.ref 4), hKe P "__file__" 173 (hSv "/claim/cut.py" 172), hKe P "__cached__" 174 .none, hKe P "_wall" 193 (.ref 21), hKe P "sep" 195 (hSv "/" 194), hKe P "_kind" 206 (.ref 28), hKe P "_fspath" 215 (.ref 35), hKe P "splitext" 227 (.ref 42), hKe P "_c_path" 240 (.ref 49), hKe P "_splitroot" 249 (.ref 56), hKe P "basename" 257 (.ref 63), hKe P "_normpath" 272 (.ref 70), hKe P "normpath" 280 (.ref 77), hKe P "_Ignore" 322 (.ref 100), hKe P "_modname" 332 (.ref 111), hKe P "cmp_to_key" 343 (.ref 118), hKe P "_initial_missing" 344 (.ref 119), hKe P "reduce" 356 (.ref 127), hKe P "S_IFMT" 365 (.ref 134), hKe P "S_IFDIR" 367 (hIv 16384 366), hKe P "S_IFCHR" 369 (hIv 8192 368), hKe P "S_IFBLK" 371 (hIv 24576 370), hKe P "S_IFREG" 373 (hIv 32768 372), hKe P "S_IFIFO" 375 (hIv 4096 374), hKe P "S_IFLNK" 377 (hIv 40960 376), hKe P "S_IFSOCK" 379 (hIv 49152 378), hKe P "S_ISDIR" 386 (.ref 141), hKe P "S_ISUID" 388 (hIv 2048 387), hKe P "S_ISGID" 390 (hIv 1024 389), hKe P "S_ISVTX" 392 (hIv 512 391), hKe P "S_IRUSR" 394 (hIv 256 393), hKe P "S_IWUSR" 396 (hIv 128 395), hKe P "S_IXUSR" 398 (hIv 64 397), hKe P "S_IRGRP" 400 (hIv 32 399), hKe P "S_IWGRP" 402 (hIv 16 401), hKe P "S_IXGRP" 404 (hIv 8 403), hKe P "S_IROTH" 406 (hIv 4 405), hKe P "S_IWOTH" 408 (hIv 2 407), hKe P "S_IXOTH" 410 (hIv 1 409), hKe P "_filemode_table" 436 (.ref 174), hKe P "filemode" 448 (.ref 181), hKe P "_law_signs" 461 (.ref 188), hKe P "_law_kept" 467 (.ref 193), hKe P "_law_folded" 476 (.ref 200), hKe P "_law_compared" 484 (.ref 207), hKe P "law" 490 (.ref 212)] 52))) (.node (some (hOs (.type "tuple") [] 0)) (.node (some (hOs (.type "tuple") [] 0)) (.node (some (hOs (.type "tuple") [hSv "name" 210, hSv "x" 211, hSv "k" 212] 0)) (.node (some (hOf (hFs 8) (.type "function") "basename" 3 .none (hSv "os.path" 196) (.ref 62))) (.node (some (hOf (hFs 17) (.type "function") "reduce" 3 (.ref 120) (hSv "cpy313.functools" 333) (.ref 126))) .nil .nil) (.node (some (hOf (hFs 44) .none "_law_kept" 0 .none .none .none)) .nil .nil)) (.node (some (hOf (hMs 1) .none "_Ignore.names" 0 .none .none .none)) (.node (some (hOs (.type "tuple") [.ref 158] 0)) .nil .nil) .nil)) (.node (some (hOf (hFs 6) .none "_c_path" 0 .none .none .none)) (.node none (.node (some (hOs (.type "tuple") [hIv 49152 378, hSv "s" 412] 0)) .nil .nil) (.node (some (hOf (hFs 46) (.type "function") "_law_compared" 3 .none (hSv "law_nq0110_01" 449) (.ref 206))) .nil .nil)) (.node (some (hOf (hFs 13) (.type "function") "_modname" 3 .none (hSv "cpy313.trace" 281) (.ref 110))) (.node (some (hOs (.type "tuple") [] 0)) .nil .nil) .nil))) (.node (some (tabObj #[])) (.node (some (hOs (.type "tuple") [] 0)) (.node (some (hOs (.type "tuple") [] 0)) (.node (some (hOs (.type "tuple") [] 0)) .nil .nil) (.node (some (hOd (.type "code") (.fields #[hSv "_law_folded" 468, hSv "_law_folded" 469, hSv "/claim/cut.py" 470, hIv 220 0, hIv 2 0, hIv 0 0, hIv 0 0, hIv 3 0, .ref 194, .bool true, hIv 181 0, .ref 195, .none, .ref 196, .ref 197, .ref 198, hIv 474 0, hIv 220 0, hSv "/claim/cut.py" 475]))) .nil .nil)) (.node none (.node (some (hOs (.type "tuple") [.ref 166] 0)) .nil .nil) .nil)) (.node (some (hOd (.type "code") (.fields #[hSv "_splitroot" 241, hSv "_splitroot" 242, hSv "/claim/cut.py" 243, hIv 56 0, hIv 1 0, hIv 0 0, hIv 0 0, hIv 3 0, .ref 50, .bool true, hIv 181 0, .ref 51, .none, .ref 52, .ref 53, .ref 54, hIv 247 0, hIv 56 0, hSv "/claim/cut.py" 248]))) (.node (some (tabObj #[])) (.node (some (hOs (.type "tuple") [.ref 150] 0)) .nil .nil) .nil) (.node (some (hOp (.type "object") none #[])) (.node (some (tabObj #[])) .nil .nil) .nil)))) (.node (some (hOs (.type "tuple") [] 0)) (.node (some (hOf (hFs 0) .none "_wall" 0 .none .none .none)) (.node (some (hOf (hFs 4) (.type "function") "_fspath" 3 .none (hSv "os.path" 196) (.ref 34))) (.node (some (hOs (.type "tuple") [] 0)) (.node (some (hOs (.type "tuple") [] 0)) .nil .nil) (.node (some (tabObj #[])) .nil .nil)) (.node (some (hOd (.type "dict") (.dict #[hKe P "__module__" 290 (hSv "cpy313.trace" 281), hKe P "__firstlineno__" 294 (hIv 91 293), hKe P "__init__" 300 (.ref 90), hKe P "names" 311 (.ref 97), hKe P "__static_attributes__" 315 (.ref 98), hKz P "__dict__" 317 (.ref 101), hKz P "__weakref__" 319 (.ref 102), hKz P "__doc__" 320 .none] 4))) (.node (some (hOs (.type "tuple") [hIv 1024 389, hSv "S" 428] 0)) .nil .nil) .nil)) (.node (some (tabObj #[])) (.node none (.node (some (hOs (.type "tuple") [hIv 8192 368, hSv "c" 416] 0)) .nil .nil) (.node (some (hOd (.type "code") (.fields #[hSv "law" 485, hSv "law" 486, hSv "/claim/cut.py" 487, hIv 226 0, hIv 1 0, hIv 0 0, hIv 0 0, hIv 3 0, .ref 208, .bool true, hIv 181 0, .ref 209, .none, .none, .none, .ref 210, hIv 488 0, hIv 226 0, hSv "/claim/cut.py" 489]))) .nil .nil)) (.node (some (hOs (.type "tuple") [hSv "mycmp" 340] 0)) (.node (some (hOf (hFs 41) .none "filemode" 0 .none .none .none)) .nil .nil) .nil))) (.node (some (hOd (.type "code") (.fields #[hSv "_kind" 198, hSv "_kind" 199, hSv "/claim/cut.py" 200, hIv 6 0, hIv 2 0, hIv 0 0, hIv 0 0, hIv 3 0, .ref 22, .bool true, hIv 181 0, .ref 23, .none, .ref 24, .ref 25, .ref 26, hIv 204 0, hIv 6 0, hSv "/claim/cut.py" 205]))) (.node (some (hOs (.type "tuple") [] 0)) (.node (some (hOf (hFs 10) .none "normpath" 0 .none .none .none)) (.node (some (hOf (hFs 27) .none "S_ISDIR" 0 .none .none .none)) .nil .nil) (.node (some (hOs (.type "tuple") [hSv "one" 480, hSv "two" 481] 0)) .nil .nil)) (.node (some (hOs (.type "tuple") [hSv "path" 326, hSv "base" 327, hSv "filename" 328, hSv "ext" 329] 0)) (.node (some (hOs (.type "tuple") [hIv 512 391, hSv "T" 434] 0)) .nil .nil) .nil)) (.node (some (hOs (.type "tuple") [hSv "p" 253, hSv "i" 254] 0)) (.node (some (hOs (.type "tuple") [] 0)) (.node (some (hOs (.type "tuple") [hIv 2048 387, hSv "S" 422] 0)) .nil .nil) .nil) (.node (some (hOs (.type "tuple") [hSv "function" 348, hSv "sequence" 349, hSv "initial" 350, hSv "it" 351, hSv "value" 352, hSv "element" 353] 0)) (.node (some (hOd (.type "code") (.fields #[hSv "_law_signs" 451, hSv "_law_signs" 452, hSv "/claim/cut.py" 453, hIv 203 0, hIv 1 0, hIv 0 0, hIv 0 0, hIv 3 0, .ref 182, .bool true, hIv 181 0, .ref 183, .none, .ref 184, .ref 185, .ref 186, hIv 459 0, hIv 203 0, hSv "/claim/cut.py" 460]))) .nil .nil) .nil))))) (.node (some (hOp (.type "module") (some 3) #[])) (.node (some (hOd (.type "code") (.fields #[hSv "<module>" 176, hSv "<module>" 177, hSv "/claim/cut.py" 178, hIv 1 0, hIv 0 0, hIv 0 0, hIv 0 0, hIv 0 0, .ref 7, .bool false, hIv 175 0, .ref 8, .none, .none, .none, .none, hIv 179 0, hIv 1 0, hSv "/claim/cut.py" 180]))) (.node (some (hOs (.type "tuple") [hSv "k" 190] 0)) (.node (some (hOf (hFs 4) .none "_fspath" 0 .none .none .none)) (.node (some (tabObj #[])) (.node (some (tabObj #[])) .nil .nil) (.node (some (hOf (hFs 44) (.type "function") "_law_kept" 3 .none (hSv "law_nq0110_01" 449) (.ref 192))) .nil .nil)) (.node (some (hOf (hMs 1) (.type "function") "_Ignore.names" 3 .none (hSv "cpy313.trace" 281) (.ref 96))) (.node (some (hOs (.type "tuple") [.ref 160] 0)) .nil .nil) .nil)) (.node (some (hOf (hFs 6) (.type "function") "_c_path" 3 .none (hSv "os.path" 196) (.ref 48))) (.node none (.node (some (hOs (.type "tuple") [hIv 24576 370, hSv "b" 414] 0)) .nil .nil) (.node (some (tabObj #[])) .nil .nil)) (.node (some (tabObj #[])) (.node (some (hOs (.type "tuple") [hSv "mode" 440, hSv "perm" 441, hSv "index" 442, hSv "table" 443, hSv "bit" 444, hSv "char" 445] 0)) .nil .nil) .nil))) (.node (some (hOs (.type "tuple") [] 0)) (.node (some (hOd (.type "code") (.fields #[hSv "splitext" 216, hSv "splitext" 217, hSv "/claim/cut.py" 218, hIv 32 0, hIv 1 0, hIv 0 0, hIv 0 0, hIv 3 0, .ref 36, .bool true, hIv 181 0, .ref 37, .none, .ref 38, .ref 39, .ref 40, hIv 225 0, hIv 32 0, hSv "/claim/cut.py" 226]))) (.node (some (hOs (.type "tuple") [hSv "args" 276, hSv "kwargs" 277] 0)) (.node (some (hOs (.type "tuple") [hSv "mode" 383] 0)) .nil .nil) (.node (some (hOs (.type "tuple") [] 0)) .nil .nil)) (.node (some (hOs (.type "tuple") [] 0)) (.node (some (hOs (.type "tuple") [.ref 168] 0)) .nil .nil) .nil)) (.node (some (hOs (.type "tuple") [] 0)) (.node (some (hOd (.type "code") (.fields #[hSv "__init__" 295, hSv "_Ignore.__init__" 296, hSv "/claim/cut.py" 297, hIv 93 0, hIv 3 0, hIv 0 0, hIv 0 0, hIv 3 0, .ref 86, .bool true, hIv 181 0, .ref 87, .none, .none, .none, .ref 88, hIv 298 0, hIv 93 0, hSv "/claim/cut.py" 299]))) (.node (some (hOs (.type "tuple") [.ref 152] 0)) .nil .nil) .nil) (.node (some (hOs (.type "tuple") [] 0)) (.node (some (hOs (.type "tuple") [] 0)) .nil .nil) .nil)))) (.node (some (hOd (.type "code") (.fields #[hSv "<module>" 182, hSv "<module>" 183, hSv "/claim/cut.py" 184, hIv 1 0, hIv 0 0, hIv 0 0, hIv 0 0, hIv 0 0, .ref 11, .bool false, hIv 181 0, .ref 12, .none, .none, .none, .none, hIv 185 0, hIv 1 0, hSv "/claim/cut.py" 186]))) (.node (some (hOf (hFs 0) (.type "function") "_wall" 3 .none (hSv "__main__" 164) (.ref 20))) (.node (some (tabObj #[])) (.node (some (hOd (.type "code") (.fields #[hSv "_normpath" 258, hSv "_normpath" 259, hSv "/claim/cut.py" 260, hIv 69 0, hIv 1 0, hIv 0 0, hIv 0 0, hIv 3 0, .ref 64, .bool true, hIv 181 0, .ref 65, .none, .ref 66, .ref 67, .ref 68, hIv 270 0, hIv 69 0, hSv "/claim/cut.py" 271]))) (.node (some (hOd (.type "code") (.fields #[hSv "S_IFMT" 359, hSv "S_IFMT" 360, hSv "/claim/cut.py" 361, hIv 161 0, hIv 1 0, hIv 0 0, hIv 0 0, hIv 3 0, .ref 128, .bool true, hIv 181 0, .ref 129, .none, .ref 130, .ref 131, .ref 132, hIv 363 0, hIv 161 0, hSv "/claim/cut.py" 364]))) .nil .nil) (.node (some (hOs (.type "tuple") [hSv "ignore" 473] 0)) .nil .nil)) (.node (some (hOd (.type "getset_descriptor") (.fields #[hSv "__dict__" 316, .ref 100, .builtin "function.__dict__", .builtin "function.__dict__#set"]))) (.node (some (hOs (.type "tuple") [.ref 162, .ref 163, .ref 164] 0)) .nil .nil) .nil)) (.node (some (hOs (.type "tuple") [] 0)) (.node (some (hOs (.type "tuple") [.none, .none] 0)) (.node (some (hOs (.type "tuple") [.ref 142, .ref 143, .ref 144, .ref 145, .ref 146, .ref 147, .ref 148] 0)) .nil .nil) .nil) (.node (some (hOd (.type "code") (.fields #[hSv "cmp_to_key" 335, hSv "cmp_to_key" 336, hSv "/claim/cut.py" 337, hIv 122 0, hIv 1 0, hIv 0 0, hIv 0 0, hIv 3 0, .ref 112, .bool true, hIv 181 0, .ref 113, .none, .ref 114, .ref 115, .ref 116, hIv 341 0, hIv 122 0, hSv "/claim/cut.py" 342]))) (.node (some (hOf (hFs 41) (.type "function") "filemode" 3 .none (hSv "cpy313.stat" 357) (.ref 180))) .nil .nil) .nil))) (.node (some (hOs (.type "tuple") [] 0)) (.node (some (hOs (.type "tuple") [hSv "name" 231, hSv "cname" 232, hSv "argname" 233, hSv "args" 234, hSv "kwargs" 235, hSv "x" 236, hSv "k" 237] 0)) (.node (some (hOf (hFs 10) (.type "function") "normpath" 3 .none (hSv "os.path" 196) (.ref 76))) (.node (some (hOf (hFs 27) (.type "function") "S_ISDIR" 3 .none (hSv "cpy313.stat" 357) (.ref 140))) .nil .nil) (.node (some (hOf (hFs 46) .none "_law_compared" 0 .none .none .none)) .nil .nil)) (.node (some (hOf (hFs 13) .none "_modname" 0 .none .none .none)) (.node (some (hOs (.type "tuple") [.ref 170, .ref 171, .ref 172] 0)) .nil .nil) .nil)) (.node (some (hOf (hFs 8) .none "basename" 0 .none .none .none)) (.node (some (hOs (.type "tuple") [hSv "self" 304, hSv "filename" 305, hSv "modulename" 306, hSv "mod" 307, hSv "d" 308] 0)) (.node (some (hOs (.type "tuple") [.ref 154, .ref 155, .ref 156] 0)) .nil .nil) .nil) (.node (some (hOf (hFs 17) .none "reduce" 0 .none .none .none)) (.node (some (hOs (.type "tuple") [] 0)) .nil .nil) .nil)))))) (.node (some (hOd .none (.dict #[] 0))) (.node (some (hOp (.type "module") (some 0) #[])) (.node (some (tabObj #[])) (.node (some (tabObj #[])) (.node (some (hOs (.type "tuple") [] 0)) (.node (some (hOs (.type "tuple") [] 0)) (.node (some (hOs (.type "tuple") [] 0)) .nil .nil) (.node (some (hOd (.type "code") (.fields #[hSv "_law_kept" 462, hSv "_law_kept" 463, hSv "/claim/cut.py" 464, hIv 212 0, hIv 3 0, hIv 0 0, hIv 0 0, hIv 3 0, .ref 189, .bool true, hIv 181 0, .ref 190, .none, .none, .none, .ref 191, hIv 465 0, hIv 212 0, hSv "/claim/cut.py" 466]))) .nil .nil)) (.node (some (hOd (.type "code") (.fields #[hSv "names" 301, hSv "_Ignore.names" 302, hSv "/claim/cut.py" 303, hIv 98 0, hIv 3 0, hIv 0 0, hIv 0 0, hIv 3 0, .ref 91, .bool true, hIv 181 0, .ref 92, .none, .ref 93, .ref 94, .ref 95, hIv 309 0, hIv 98 0, hSv "/claim/cut.py" 310]))) (.node (some (hOs (.type "tuple") [hIv 16 401, hSv "w" 425] 0)) .nil .nil) .nil)) (.node (some (hOd (.type "code") (.fields #[hSv "_c_path" 228, hSv "_c_path" 229, hSv "/claim/cut.py" 230, hIv 45 0, hIv 5 0, hIv 0 0, hIv 0 0, hIv 3 0, .ref 43, .bool true, hIv 181 0, .ref 44, .none, .ref 45, .ref 46, .ref 47, hIv 238 0, hIv 45 0, hSv "/claim/cut.py" 239]))) (.node none (.node (some (hOs (.type "tuple") [hIv 32768 372, hSv "-" 413] 0)) .nil .nil) (.node (some (hOs (.type "tuple") [] 0)) .nil .nil)) (.node (some (hOs (.type "tuple") [] 0)) (.node (some (tabObj #[])) .nil .nil) .nil))) (.node (some (hOs (.type "tuple") [hSv "name" 201, hSv "x" 202, hSv "t" 203] 0)) (.node (some (hOf (hFs 5) .none "splitext" 0 .none .none .none)) (.node (some (tabObj #[])) (.node (some (tabObj #[])) .nil .nil) (.node (some (hOf (hFs 45) (.type "function") "_law_folded" 3 .none (hSv "law_nq0110_01" 449) (.ref 199))) .nil .nil)) (.node none (.node (some (hOs (.type "tuple") [hIv 2 407, hSv "w" 431] 0)) .nil .nil) .nil)) (.node (some (hOf (hFs 7) (.type "function") "_splitroot" 3 .none (hSv "os.path" 196) (.ref 55))) (.node (some (hOf (hMs 0) .none "_Ignore.__init__" 0 .none .none .none)) (.node (some (hOs (.type "tuple") [hIv 128 395, hSv "w" 419] 0)) .nil .nil) .nil) (.node (some (hOs (.type "tuple") [.ref 119] 0)) (.node (some (hOs (.type "tuple") [hSv "rights" 454, hSv "text" 455, hSv "k" 456, hSv "bit" 457, hSv "set_bit" 458] 0)) .nil .nil) .nil)))) (.node (some (hOd .none (.fields #[hIv 1 0, hIv 0 0, .ref 20, hIv 6 0, hIv 0 0, .ref 27, hIv 27 0, hIv 0 0, .ref 34, hIv 32 0, hIv 0 0, .ref 41, hIv 45 0, hIv 0 0, .ref 48, hIv 56 0, hIv 0 0, .ref 55, hIv 65 0, hIv 0 0, .ref 62, hIv 69 0, hIv 0 0, .ref 69, hIv 88 0, hIv 0 0, .ref 76, hIv 91 0, hIv 0 0, .ref 83, hIv 117 0, hIv 0 0, .ref 110, hIv 122 0, hIv 0 0, .ref 117, hIv 148 0, hIv 0 0, .ref 126, hIv 161 0, hIv 0 0, .ref 133, hIv 170 0, hIv 0 0, .ref 140, hIv 185 0, hIv 0 0, .ref 180, hIv 203 0, hIv 0 0, .ref 187, hIv 212 0, hIv 0 0, .ref 192, hIv 220 0, hIv 0 0, .ref 199, hIv 222 0, hIv 0 0, .ref 206, hIv 226 0, hIv 0 0, .ref 211]))) (.node (some (hOd (.type "code") (.fields #[hSv "_wall" 187, hSv "_wall" 188, hSv "/claim/cut.py" 189, hIv 1 0, hIv 1 0, hIv 0 0, hIv 0 0, hIv 3 0, .ref 15, .bool true, hIv 181 0, .ref 16, .none, .ref 17, .ref 18, .ref 19, hIv 191 0, hIv 1 0, hSv "/claim/cut.py" 192]))) (.node (some (hOs (.type "tuple") [] 0)) (.node (some (hOf (hFs 9) .none "_normpath" 0 .none .none .none)) (.node (some (hOf (hFs 19) .none "S_IFMT" 0 .none .none .none)) .nil .nil) (.node (some (hOs (.type "tuple") [hSv "paths" 471, hSv "ignore" 472] 0)) .nil .nil)) (.node (some ({ cls := .type "type", data := .cls ⟨Str.ofString "_Ignore", [.type "object"], [.ref 100, .type "object"], 99, Str.ofString "_Ignore", true, [], [], false, none, false⟩, slots := #[none, none, some (hSv "_Ignore" 283), some (hSv "_Ignore" 291), some (.builtin "object.__new__"), some (.bool true)] })) (.node (some (hOs (.type "tuple") [hIv 8 403, hSv "x" 429] 0)) .nil .nil) .nil)) (.node (some (hOs (.type "tuple") [hSv "p" 244, hSv "sep" 245, hSv "empty" 246] 0)) (.node none (.node (some (hOs (.type "tuple") [hIv 4096 374, hSv "p" 417] 0)) .nil .nil) (.node (some (hOf (hFs 47) (.type "function") "law" 3 .none (hSv "law_nq0110_01" 449) (.ref 211))) .nil .nil)) (.node (some (hOf (hFs 15) .none "cmp_to_key" 0 .none .none .none)) (.node (some (hOd (.type "code") (.fields #[hSv "filemode" 437, hSv "filemode" 438, hSv "/claim/cut.py" 439, hIv 185 0, hIv 1 0, hIv 0 0, hIv 0 0, hIv 3 0, .ref 175, .bool true, hIv 181 0, .ref 176, .none, .ref 177, .ref 178, .ref 179, hIv 446 0, hIv 185 0, hSv "/claim/cut.py" 447]))) .nil .nil) .nil))) (.node (some (hOf (hFs 3) (.type "function") "_kind" 3 .none (hSv "os.path" 196) (.ref 27))) (.node (some (tabObj #[])) (.node (some (hOd (.type "code") (.fields #[hSv "normpath" 273, hSv "normpath" 274, hSv "/claim/cut.py" 275, hIv 88 0, hIv 0 0, hIv 0 0, hIv 0 0, hIv 15 0, .ref 71, .bool true, hIv 181 0, .ref 72, .none, .ref 73, .ref 74, .ref 75, hIv 278 0, hIv 88 0, hSv "/claim/cut.py" 279]))) (.node (some (hOd (.type "code") (.fields #[hSv "S_ISDIR" 380, hSv "S_ISDIR" 381, hSv "/claim/cut.py" 382, hIv 170 0, hIv 1 0, hIv 0 0, hIv 0 0, hIv 3 0, .ref 135, .bool true, hIv 181 0, .ref 136, .none, .ref 137, .ref 138, .ref 139, hIv 384 0, hIv 170 0, hSv "/claim/cut.py" 385]))) .nil .nil) (.node (some (hOs (.type "tuple") [] 0)) .nil .nil)) (.node (some (hOs (.type "tuple") [] 0)) (.node (some (hOs (.type "tuple") [hIv 1 409, hSv "x" 435] 0)) .nil .nil) .nil)) (.node (some (hOs (.type "tuple") [] 0)) (.node (some (tabObj #[])) (.node (some (hOs (.type "tuple") [hIv 64 397, hSv "x" 423] 0)) .nil .nil) .nil) (.node (some (hOs (.type "tuple") [] 0)) (.node (some (hOf (hFs 43) (.type "function") "_law_signs" 3 .none (hSv "law_nq0110_01" 449) (.ref 187))) .nil .nil) .nil))))) (.node (some (hOd (.type "dict") (.dict #[] 0))) (.node (some (hOp (.type "frame") none #[some (.ref 9), some (.ref 3), some (.ref 3), none, some (hSv "__main__" 164), none, some (.ref 0)])) (.node (some (hOs (.type "tuple") [] 0)) (.node (some (hOd (.type "code") (.fields #[hSv "_fspath" 207, hSv "_fspath" 208, hSv "/claim/cut.py" 209, hIv 27 0, hIv 2 0, hIv 0 0, hIv 0 0, hIv 3 0, .ref 29, .bool true, hIv 181 0, .ref 30, .none, .ref 31, .ref 32, .ref 33, hIv 213 0, hIv 27 0, hSv "/claim/cut.py" 214]))) (.node (some (hOs (.type "tuple") [hSv "path" 261, hSv "sep" 262, hSv "dot" 263, hSv "dotdot" 264, hSv "_" 265, hSv "initial_slashes" 266, hSv "comps" 267, hSv "new_comps" 268, hSv "comp" 269] 0)) (.node (some (hOs (.type "tuple") [hSv "mode" 362] 0)) .nil .nil) (.node (some (hOs (.type "tuple") [] 0)) .nil .nil)) (.node (some (hOs (.type "tuple") [hSv "_dirs" 312, hSv "_ignore" 313, hSv "_mods" 314] 0)) (.node (some (hOs (.type "tuple") [hIv 1032 426, hSv "s" 427] 0)) .nil .nil) .nil)) (.node (some (hOs (.type "tuple") [] 0)) (.node none (.node (some (hOs (.type "tuple") [hIv 16384 366, hSv "d" 415] 0)) .nil .nil) (.node (some (hOf (hFs 47) .none "law" 0 .none .none .none)) .nil .nil)) (.node (some (hOs (.type "tuple") [hSv "mycmp" 338, hSv "K" 339] 0)) (.node (some (hOs (.type "tuple") [] 0)) .nil .nil) .nil))) (.node (some (hOf (hFs 3) .none "_kind" 0 .none .none .none)) (.node (some (hOf (hFs 5) (.type "function") "splitext" 3 .none (hSv "os.path" 196) (.ref 41))) (.node (some (hOs (.type "tuple") [] 0)) (.node (some (hOs (.type "tuple") [] 0)) .nil .nil) (.node (some (tabObj #[])) .nil .nil)) (.node (some (tabObj #[])) (.node (some (hOs (.type "tuple") [hIv 513 432, hSv "t" 433] 0)) .nil .nil) .nil)) (.node (some (tabObj #[])) (.node (some (hOf (hMs 0) (.type "function") "_Ignore.__init__" 3 (.ref 85) (hSv "cpy313.trace" 281) (.ref 89))) (.node (some (hOs (.type "tuple") [hIv 2112 420, hSv "s" 421] 0)) .nil .nil) .nil) (.node (some (tabObj #[])) (.node (some (hOf (hFs 43) .none "_law_signs" 0 .none .none .none)) .nil .nil) .nil)))) (.node (some (hOp (.type "frame") none #[some (.ref 13), some (.ref 3), some (.ref 3), none, some (hSv "__main__" 164), none, some (.ref 0)])) (.node (some (hOs (.type "tuple") [] 0)) (.node (some (hOs (.type "tuple") [hSv "p" 219, hSv "sep" 220, hSv "extsep" 221, hSv "sepIndex" 222, hSv "dotIndex" 223, hSv "filenameIndex" 224] 0)) (.node (some (hOf (hFs 9) (.type "function") "_normpath" 3 .none (hSv "os.path" 196) (.ref 69))) (.node (some (hOf (hFs 19) (.type "function") "S_IFMT" 3 .none (hSv "cpy313.stat" 357) (.ref 133))) .nil .nil) (.node (some (hOf (hFs 45) .none "_law_folded" 0 .none .none .none)) .nil .nil)) (.node (some (hOd (.type "getset_descriptor") (.fields #[hSv "__weakref__" 318, .ref 100, .builtin "ExceptionGroup.__weakref__", .none]))) (.node (some (hOs (.type "tuple") [hIv 4 405, hSv "r" 430] 0)) .nil .nil) .nil)) (.node (some (hOf (hFs 7) .none "_splitroot" 0 .none .none .none)) (.node (some (hOs (.type "tuple") [] 0)) (.node (some (hOs (.type "tuple") [hIv 256 393, hSv "r" 418] 0)) .nil .nil) .nil) (.node (some (hOf (hFs 15) (.type "function") "cmp_to_key" 3 .none (hSv "cpy313.functools" 333) (.ref 117))) (.node (some (hOs (.type "tuple") [] 0)) .nil .nil) .nil))) (.node (some (tabObj #[])) (.node (some (hOs (.type "tuple") [] 0)) (.node none (.node (some (hOs (.type "tuple") [hIv 40960 376, hSv "l" 411] 0)) .nil .nil) (.node (some (hOd (.type "code") (.fields #[hSv "_law_compared" 477, hSv "_law_compared" 478, hSv "/claim/cut.py" 479, hIv 222 0, hIv 2 0, hIv 0 0, hIv 0 0, hIv 3 0, .ref 201, .bool true, hIv 181 0, .ref 202, .none, .ref 203, .ref 204, .ref 205, hIv 482 0, hIv 222 0, hSv "/claim/cut.py" 483]))) .nil .nil)) (.node (some (hOd (.type "code") (.fields #[hSv "_modname" 323, hSv "_modname" 324, hSv "/claim/cut.py" 325, hIv 117 0, hIv 1 0, hIv 0 0, hIv 0 0, hIv 3 0, .ref 105, .bool true, hIv 181 0, .ref 106, .none, .ref 107, .ref 108, .ref 109, hIv 330 0, hIv 117 0, hSv "/claim/cut.py" 331]))) (.node (some (hOs (.type "tuple") [.ref 149, .ref 151, .ref 153, .ref 157, .ref 159, .ref 161, .ref 165, .ref 167, .ref 169, .ref 173] 0)) .nil .nil) .nil)) (.node (some (hOd (.type "code") (.fields #[hSv "basename" 250, hSv "basename" 251, hSv "/claim/cut.py" 252, hIv 65 0, hIv 1 0, hIv 0 0, hIv 0 0, hIv 3 0, .ref 57, .bool true, hIv 181 0, .ref 58, .none, .ref 59, .ref 60, .ref 61, hIv 255 0, hIv 65 0, hSv "/claim/cut.py" 256]))) (.node (some (hOs (.type "tuple") [] 0)) (.node (some (hOs (.type "tuple") [hIv 32 399, hSv "r" 424] 0)) .nil .nil) .nil) (.node (some (hOd (.type "code") (.fields #[hSv "reduce" 345, hSv "reduce" 346, hSv "/claim/cut.py" 347, hIv 148 0, hIv 3 0, hIv 0 0, hIv 0 0, hIv 3 0, .ref 121, .bool true, hIv 181 0, .ref 122, .none, .ref 123, .ref 124, .ref 125, hIv 354 0, hIv 148 0, hSv "/claim/cut.py" 355]))) (.node (some (tabObj #[])) .nil .nil) .nil))))))
end
end Mine
-- D3
namespace Mine
noncomputable section
noncomputable def KK (P : Params) : Nat → Option Obj := fun a => @Bool.rec (fun _ => Option Obj) (@Bool.rec (fun _ => Option Obj) ((ktop P).get a) none (Nat.beq a 195)) none (Nat.beq a 113)
noncomputable def tpo (w : World) (a : Nat) : Obj := @Option.rec Obj (fun _ => Obj) default (fun o => o) (KK w.params a)
noncomputable def allS : List Sb := [sDC, sDG, sDS, sSI, sSW, sSA, sIE, sLA, sLS, sSG, sSE, sAP, sLE, sGS, sIA, sTN, sUI, sUG, sTC, sMG, sMS, sDB, sLI, sRF, sIL, sIG, sIN, sSN, sCT, sSH, sLL]
noncomputable abbrev Dyn := Code → List Obj → Option Summ
noncomputable def mkZ (w : World) (sums : List (Code → Option Summ)) (dyn : List Dyn := []) (xs : List Sb := []) : Sets := ⟨KK w.params, allS ++ xs, sums, ["comparison"], dyn⟩
end
theorem all_cons {prog : Program} {w : World} {f : Sb} {l : List Sb} (h : SbOk prog w f) (k : ∀ f ∈ l, SbOk prog w f) : ∀ g ∈ f :: l, SbOk prog w g := fun g hg => by
  rcases List.mem_cons.mp hg with rfl | hg
  · exact h
  · exact k g hg
theorem allS_ok (prog : Program) (w : World) : ∀ f ∈ allS, SbOk prog w f := all_cons (sDC_ok _ _) <| all_cons (sDG_ok _ _) <| all_cons (sDS_ok _ _) <| all_cons (sSI_ok _ _) <| all_cons (sSW_ok _ _) <| all_cons (sSA_ok _ _) <| all_cons (sIE_ok _ _) <| all_cons (sLA_ok _ _) <| all_cons (sLS_ok _ _) <| all_cons (sSG_ok _ _) <| all_cons (sSE_ok _ _) <| all_cons (sAP_ok _ _) <| all_cons (sLE_ok _ _) <| all_cons (sGS_ok _ _) <| all_cons (sIA_ok _ _) <| all_cons (sTN_ok _ _) <| all_cons (sUI_ok _ _) <| all_cons (sUG_ok _ _) <| all_cons (sTC_ok _ _) <| all_cons (sMG_ok _ _) <| all_cons (sMS_ok _ _) <| all_cons (sDB_ok _ _) <| all_cons (sLI_ok _ _) <| all_cons (sRF_ok _ _) <| all_cons (sIL_ok _ _) <| all_cons (sIG_ok _ _) <| all_cons (sIN_ok _ _) <| all_cons (sSN_ok _ _) <| all_cons (sCT_ok _ _) <| all_cons (sSH_ok _ _) <| all_cons (sLL_ok _ _) <| fun f hf => nomatch hf
structure BK (w : World) (h : Heap) : Prop where
  top : ∀ a o, KK w.params a = some o → h.get? a = some o
  lim : h.NoLimit
  sz : 214 ≤ h.objs.size
noncomputable def Above (D : List Nat) : Prop := ∀ a ∈ D, 214 ≤ a ∨ a = 113 ∨ a = 195
noncomputable def SummOk (w : World) (z : Summ) (need : Nat) : Prop := z.P → ∀ (A : Around) (s : Shared) (R : Result → Shared → Prop), A.handled = none → A.depth + need < recursionLimit → A.units + 2 * need < cLine →
    KOk (KK w.params) s.heap z.pre → s.heap.NoLimit → 214 ≤ s.heap.objs.size → z.pre.Nodup → At s.heap z.pre z.objs → (∀ xs h', xs.length = z.k → OutGood s.heap h' z.pre (z.F z.b xs) → R (z.F z.b xs).res ⟨h', s.gens, s.drawn, (z.F z.b xs).T, s.os⟩) → codeAny (model PR w) A z.code R s
noncomputable def SumOk (w : World) (f : Code → Option Summ) (need : Nat) : Prop := ∀ c z, f c = some z → SummOk w z need
noncomputable def zOf (z : Summ) : Code → Option Summ := fun _ => some z
theorem zOf_ok {w : World} {z : Summ} {need : Nat} (h : SummOk w z need) : SumOk w (zOf z) need := fun _ _ e => by cases e; exact h
noncomputable def SumsOk (w : World) (sums : List (Code → Option Summ)) (need : Nat) : Prop := ∀ f ∈ sums, SumOk w f need
theorem sums_nil {w : World} {need : Nat} : SumsOk w [] need := fun f hf => nomatch hf
theorem sums_cons {w : World} {f : Code → Option Summ} {l : List (Code → Option Summ)} {n need : Nat} (h : SumOk w f n) (hn : n ≤ need) (k : SumsOk w l need) : SumsOk w (f :: l) need := fun g hg => by
  rcases List.mem_cons.mp hg with rfl | hg
  · exact fun c z e hP A s R ha hd hu => h c z e hP A s R ha (by omega) (by omega)
  · exact k g hg
theorem rn_of {w : World} {s : Shared} {sums : List (Code → Option Summ)} {need : Nat} {ads : List Nat} {obs : List Obj} (hZ : SumsOk w sums need) (hK : KOk (KK w.params) s.heap ads) (hL : s.heap.NoLimit) (hB : 214 ≤ s.heap.objs.size) (hc : cStatics ∉ ads) (hat : At s.heap ads obs) (hn : ads.Nodup) : Rn w (mkZ w sums) need ads obs s :=
  ⟨⟨fun f hf => allS_ok PR w f (by rwa [show (mkZ w sums).subs = allS from List.append_nil _] at hf), hZ, fun f hf => nomatch hf⟩, hK, hL, hB, hc, hat, hn⟩
noncomputable def DynOk (w : World) (f : Dyn) (need : Nat) : Prop := ∀ c os z, f c os = some z → SummOk w z need
noncomputable def DynsOk (w : World) (dyn : List Dyn) (need : Nat) : Prop := ∀ f ∈ dyn, DynOk w f need
theorem dyns_nil {w : World} {need : Nat} : DynsOk w [] need := fun f hf => nomatch hf
theorem dyns_cons {w : World} {f : Dyn} {l : List Dyn} {n need : Nat} (h : DynOk w f n) (hn : n ≤ need) (k : DynsOk w l need) : DynsOk w (f :: l) need := fun g hg => by
  rcases List.mem_cons.mp hg with rfl | hg
  · exact fun c os z e hP A s R ha hd hu => h c os z e hP A s R ha (by omega) (by omega)
  · exact k g hg
theorem rn_ofX {w : World} {s : Shared} {sums : List (Code → Option Summ)} {dyn : List Dyn} {xs : List Sb} {need : Nat} {ads : List Nat} {obs : List Obj} (hZ : SumsOk w sums need) (hD : DynsOk w dyn need) (hX : ∀ f ∈ xs, SbOk PR w f) (hK : KOk (KK w.params) s.heap ads) (hL : s.heap.NoLimit) (hB : 214 ≤ s.heap.objs.size) (hc : cStatics ∉ ads) (hat : At s.heap ads obs) (hn : ads.Nodup) : Rn w (mkZ w sums dyn xs) need ads obs s :=
  ⟨⟨fun f hf => (List.mem_append.mp hf).elim (allS_ok PR w f) (hX f), hZ, hD⟩, hK, hL, hB, hc, hat, hn⟩
noncomputable section
noncomputable def zhash (w : World) (s : Str) : Int := @Bool.rec (fun _ => Int) (PySem.W.ZFast.zw12210062019545310541 (w.params.strHash s.cps)) 0 s.cps.isEmpty
theorem zhash_eq (w : World) (s : Str) : zhash w s = hashStr w s := by
  unfold zhash hashStr
  rw [← PySem.W.ZFast.ze12210062019545310541]
  cases s.cps.isEmpty <;> rfl
noncomputable def jOf (h : Int) : Nat := Int.toNat (h % 2 ^ 64) % 8
noncomputable def fdOf (o : Obj) : FuncData := match o.data with | .func f => f | _ => default
noncomputable def stOf (o : Obj) : List Stmt := match (fdOf o).body with | .stmts b => b | _ => []
noncomputable def nthS (j : Nat) (l : List Stmt) : Stmt := match nth j l with | some s => s | none => .Pass default
noncomputable def forT : Stmt → PySem.Expr | .For t _ _ _ _ => t | _ => default
noncomputable def forB : Stmt → List Stmt | .For _ _ b _ _ => b | _ => []
noncomputable def forE : Stmt → List Stmt | .For _ _ _ e _ => e | _ => []
noncomputable def lst (l : List Value) (ep : Nat) : Obj := { cls := .type "list", data := .seq ⟨l⟩ ep }
noncomputable def lstA (l : Array Value) (ep : Nat) : Obj := { cls := .type "list", data := .seq l ep }
noncomputable def loc (es : List DictEntry) (ep : Nat) : Obj := { cls := .type "frame", data := .dict ⟨es⟩ ep }
noncomputable def en (w : World) (n : String) (t : Tok) (v : Value) : DictEntry := ⟨zhash w (Str.ofString n), .str (Str.ofString n) t, v⟩
noncomputable def eo (w : World) (n : String) (t : Tok) (v : Value) : DictEntry := ⟨hashStr w (Str.ofString n), .str (Str.ofString n) t, v⟩
noncomputable def eh (H : Nat → Int) (i : Nat) (n : String) (t : Tok) (v : Value) : DictEntry := ⟨H i, .str (Str.ofString n) t, v⟩
end
end Mine
-- F0
namespace Mine
noncomputable section
noncomputable def gx (k : Nat) (xs : List Dr) : Nat := @Option.rec Dr (fun _ => Nat) 0 (fun a => a.n) (nth k xs)
noncomputable def gO (k : Nat) (xs : List Dr) : Obj := @Option.rec Dr (fun _ => Obj) default (fun a => a.o) (nth k xs)
noncomputable def gV (k : Nat) (xs : List Dr) : Value := @Option.rec Dr (fun _ => Value) default (fun a => a.v) (nth k xs)
noncomputable abbrev dn (n : Nat) : Dr := ⟨n, default, default⟩
noncomputable def mFn (a : Nat) (c : Code) : Option Args := @Option.rec (Nat × Args) (fun _ => Option Args) none (fun x => @Bool.rec (fun _ => Option Args) none (some x.2) (Nat.beq x.1 a)) (callOf c)
theorem mFn_is {a : Nat} {c : Code} {args : Args} (h : mFn a c = some args) : c = .call (.ref a) args := by
  unfold mFn at h
  cases e : callOf c with
  | none => rw [e] at h; cases h
  | some x =>
    rw [e] at h
    dsimp only at h
    cases hb : Nat.beq x.1 a with
    | false => rw [hb] at h; cases h
    | true =>
      rw [hb] at h
      cases h
      have := Nat.eq_of_beq_eq_true hb
      subst this
      unfold callOf at e
      split at e
      · cases e; rfl
      · cases e
noncomputable def mS (a : Args) : Option (Str × Tok) := (arg1 a).bind fun p => (valS p).map fun r0 => (r0.1, r0.2)
theorem mS_is {a : Args} {p : Str} {t : Tok} (h : mS a = some (p, t)) : a = ⟨[.str p t], []⟩ := by
  obtain ⟨p, e0, h⟩ := Option.bind_eq_some_iff.mp h
  obtain ⟨r0, e1, h⟩ := Option.map_eq_some_iff.mp h
  cases h
  rw [arg1_is e0, valS_is e1]
noncomputable def outV (v : Value) (xs : List Dr) : Out := ⟨.ok (.ret v), [], [], gx 1 xs + 214, gx 2 xs⟩
end
noncomputable def dirS : Nat → Str
  | 0 => Str.ofString "/a"
  | 1 => Str.ofString "/a/b"
  | _ => Str.ofString "/c"
noncomputable def nameS : Nat → Str
  | 0 => Str.ofString "m"
  | 1 => Str.ofString "x"
  | 2 => Str.ofString "m.t"
  | _ => Str.ofString "pkg"
noncomputable def pathS (i j : Nat) : Str := dirS i ++ Str.ofString "/" ++ nameS j ++ Str.ofString ".py"
noncomputable def pathsS : List Str := (List.range 3).flatMap fun i => (List.range 4).map fun j => pathS i j
noncomputable def isPth (p : Str) : Bool := pathsS.contains p
theorem pth_all {f : Str → Bool} (h : pathsS.all f = true) {p : Str} (hp : isPth p = true) : f p = true := List.all_eq_true.mp h p (List.contains_iff_mem.mp hp)
section
variable {w : World} {A : Around} {s : Shared} {R : Result → Shared → Prop}
theorem room_of {need n dp : Nat} (ha : A.handled = none) (hd : A.depth + n < recursionLimit) (hu : A.units + 2 * n < cLine) (h : 5 * dp + need ≤ n) : Room need A dp := ⟨ha, by omega, by omega⟩
theorem out_of_end {h h' : Heap} {n t : Nat} {res : Result} (E : End h h' [] n []) (hn : 214 ≤ n) : OutGood h h' [] ⟨res, [], [], (n - 214) + 214, t⟩ :=
  ⟨by rw [E.size]; show n = n - 214 + 214; omega, by have := E.ge; show h.objs.size ≤ n - 214 + 214; omega, trivial, (fun y hy => nomatch hy), List.nodup_nil, E.keep⟩
end
end Mine
-- R1
namespace Mine
open PySem.W.R (bindR onRaiseR)
noncomputable section
noncomputable def ownR (r a : Addr) (vs : Array Value) : RTree Unit := match (vs[0]? : Option Value) with
  | some (.int (.ofNat b) 0) => .same b a (.sem (rule "for.unpacks-the-owned-tuple" >>= fun _ => updateField r 0 .none))
  | some .none => .sem (pure ())
  | _ => .fail
noncomputable def letO (r a : Addr) (o : Obj) : RTree Unit := match o.cls, o.data with
  | .type n, .fields vs => match PySem.W.S.strDecS n "enumerate" with
    | .isTrue _ => ownR r a vs
    | .isFalse _ => match PySem.W.S.strDecS n "zip" with
      | .isTrue _ => ownR r a vs
      | .isFalse _ => match PySem.W.S.strDecS n "tuple_iterator" with
        | .isTrue _ => .sem (pure ())
        | .isFalse _ => match PySem.W.S.strDecS n "list_iterator" with
          | .isTrue _ => .sem (pure ())
          | .isFalse _ => .fail
  | _, _ => .sem (pure ())
noncomputable def letR (target : PySem.Expr) (it v : Value) : RTree Unit := match target with
  | .Tuple .. => match it, v with
    | .ref r, .ref a => .bind (.sem (load r)) (letO r a)
    | _, _ => .sem (pure ())
  | .Name .. => .sem (pure ())
  | _ => .fail
noncomputable def forR (n : Nat) (target : PySem.Expr) (it : Value) (body orelse : List Stmt) (env : Env) : RTree PySem.Fin :=
  .calm (.bind (.sem (standAt target.pos)) fun _ => .bind (.calm (.sem (PySem.W.ZFast.zw9404975358583537561 it))) fun o => match o with
    | none => .sem (PySem.W.ZFast.zw12377390311714414960 (.block orelse env))
    | some v => .bind (letR target it v) fun _ => .bind (.sem (PySem.W.ZFast.zw17772580674575903948 target env v)) fun _ => .bind (.sem (stX n body env)) fun f => .sem (onFor f target it body orelse env))
end
section
variable {M : Model} {A : Around}
theorem dn_own {r a : Addr} {vs : Array Value} {n : String} (hn : ["enumerate", "zip", "dict_itemiterator", "dict_reverseitemiterator", "odict_iterator", "itertools.zip_longest", "itertools.pairwise"].contains n = true) :
    Dn M A (if (["enumerate", "zip", "dict_itemiterator", "dict_reverseitemiterator", "odict_iterator", "itertools.zip_longest", "itertools.pairwise"].contains n && (vs[0]? : Option Value) == some (rawInt a)) = true then (rule "for.unpacks-the-owned-tuple" >>= fun _ => updateField r 0 .none) else pure ()) (ownR r a vs) := by
  rw [hn, Bool.true_and]
  unfold ownR
  generalize (vs[0]? : Option Value) = q
  match q with
  | none => exact Dn.no
  | some (.int (.ofNat b) 0) =>
    intro h
    subst h
    rw [if_pos (by show (some (Value.int (Int.ofNat b) 0) == some (Value.int (Int.ofNat b) 0)) = true; simp)]
    exact Dn.rfl
  | some (.int (.ofNat b) (t + 1)) => exact Dn.no
  | some (.int (.negSucc b) t) => exact Dn.no
  | some .none =>
    rw [if_neg (by show ¬ (some Value.none == some (Value.int (Int.ofNat a) 0)) = true; simp)]
    exact Dn.rfl
  | some (.bool _) | some (.float ..) | some (.str ..) | some (.bytes ..) | some .ellipsis | some .notImplemented | some (.builtin _) | some (.type _) | some (.ref _) => exact Dn.no
theorem dn_letO {r a : Addr} {o : Obj} : Dn M A (match o.cls, o.data with
    | .type n, .fields vs => if (["enumerate", "zip", "dict_itemiterator", "dict_reverseitemiterator", "odict_iterator", "itertools.zip_longest", "itertools.pairwise"].contains n && (vs[0]? : Option Value) == some (rawInt a)) = true then (rule "for.unpacks-the-owned-tuple" >>= fun _ => updateField r 0 .none) else pure ()
    | _, _ => pure ()) (letO r a o) := by
  obtain ⟨cls, dict, data, ws⟩ := o
  cases cls <;> cases data <;> try exact Dn.rfl
  rename_i n vs
  show Dn M A (if (["enumerate", "zip", "dict_itemiterator", "dict_reverseitemiterator", "odict_iterator", "itertools.zip_longest", "itertools.pairwise"].contains n && (vs[0]? : Option Value) == some (rawInt a)) = true then (rule "for.unpacks-the-owned-tuple" >>= fun _ => updateField r 0 .none) else pure ())
    (match PySem.W.S.strDecS n "enumerate" with
    | .isTrue _ => ownR r a vs
    | .isFalse _ => match PySem.W.S.strDecS n "zip" with
      | .isTrue _ => ownR r a vs
      | .isFalse _ => match PySem.W.S.strDecS n "tuple_iterator" with
        | .isTrue _ => .sem (pure ())
        | .isFalse _ => match PySem.W.S.strDecS n "list_iterator" with
          | .isTrue _ => .sem (pure ())
          | .isFalse _ => .fail)
  cases PySem.W.S.strDecS n "enumerate" with
  | isTrue h => exact dn_own (by rw [h]; decide)
  | isFalse _ => cases PySem.W.S.strDecS n "zip" with
    | isTrue h => exact dn_own (by rw [h]; decide)
    | isFalse _ => cases PySem.W.S.strDecS n "tuple_iterator" with
      | isTrue h => subst h; exact Dn.rfl
      | isFalse _ => cases PySem.W.S.strDecS n "list_iterator" with
        | isTrue h => subst h; exact Dn.rfl
        | isFalse _ => exact Dn.no
theorem let_eq (target : PySem.Expr) (it v : Value) : letOwnedTupleGo target it v = match target with
    | .Tuple .. | .List .. => (match it, v with
      | .ref r, .ref a => load r >>= fun o => match o.cls, o.data with
        | .type n, .fields vs => if (["enumerate", "zip", "dict_itemiterator", "dict_reverseitemiterator", "odict_iterator", "itertools.zip_longest", "itertools.pairwise"].contains n && (vs[0]? : Option Value) == some (rawInt a)) = true then (rule "for.unpacks-the-owned-tuple" >>= fun _ => updateField r 0 .none) else pure ()
        | _, _ => pure ()
      | _, _ => pure ())
    | _ => pure () := by
  cases target <;> first | rfl | (cases it <;> cases v <;> rfl)
theorem dn_let {target : PySem.Expr} {it v : Value} : Dn M A (letOwnedTupleGo target it v) (letR target it v) := by
  rw [let_eq]
  cases target with
  | Tuple es c p =>
    show Dn M A (match it, v with
      | .ref r, .ref a => load r >>= fun o => match o.cls, o.data with
        | .type n, .fields vs => if (["enumerate", "zip", "dict_itemiterator", "dict_reverseitemiterator", "odict_iterator", "itertools.zip_longest", "itertools.pairwise"].contains n && (vs[0]? : Option Value) == some (rawInt a)) = true then (rule "for.unpacks-the-owned-tuple" >>= fun _ => updateField r 0 .none) else pure ()
        | _, _ => pure ()
      | _, _ => pure ()) (match it, v with
      | .ref r, .ref a => .bind (.sem (load r)) (letO r a)
      | _, _ => .sem (pure ()))
    split
    · exact Dn.bind Dn.rfl fun o => dn_letO
    · exact Dn.rfl
  | Name i p => exact Dn.rfl
  | _ => exact Dn.no
theorem Dn.calm {α : Type} {t : Sem α} {h : Value → Sem Unit} {r : RTree α} (k : Dn M A t r) : Dn M A (t.onRaise h) (.calm r) := ⟨t, h, SimA.rfl, k⟩
theorem dn_for (hu : A.units < cLine) (n : Nat) (target : PySem.Expr) (it : Value) (body orelse : List Stmt) (env : Env) : Dn M A (denote treeTable (.forLoop target it body orelse env)) (forR n target it body orelse env) := by
  rw [for_eq]
  unfold forR
  rw [← PySem.W.ZFast.ze9404975358583537561, ← PySem.W.ZFast.ze17772580674575903948, ← PySem.W.ZFast.ze12377390311714414960]
  refine Dn.calm (Dn.bind Dn.rfl fun _ => Dn.bind (Dn.calm Dn.rfl) fun o => ?_)
  cases o with
  | none => exact Dn.rfl
  | some v =>
    refine Dn.bind dn_let fun _ => Dn.bind Dn.rfl fun _ => Dn.bind (Dn.sim (Sim.st hu n body env)) fun f => ?_
    unfold onFor
    rw [← PySem.W.ZFast.ze12377390311714414960]
    cases f <;> exact Dn.rfl
end
section
variable {w : World} {A : Around} {s : Shared} {S : Sets} {need : Nat} {ads : List Nat} {obs : List Obj} {n dp N : Nat} {or : List Nat} {bt : BT}
theorem run_turnR {c : Code} {r : RTree PySem.Fin} {V : KF PySem.Fin → Stream → VT} {R : Result → Shared → Prop} (H : Rn w S need ads obs s) (a : Room need A (dp + 1)) (hN : s.heap.objs.size = N) (hp : plainC c = true)
    (hd : ∀ A : Around, A.units < cLine → Dn (model PR w) A (denote treeTable c) r)
    (e : ∀ F ρ, EqV ((ex ⟨PR, w.params⟩ S n).r PySem.Fin dp r or ⟨ads, obs, N, 0, s.toks, 0, bt, ρ⟩ (leafS F)) (V F ρ)) (h : ∀ ρ, (V (endF s ads (TurnEnd w A R)) ρ).Holds) : codeAny (model PR w) A c R s := by
  refine x_codeT ?_
  have ru := room_under hp a
  refine (snd_all (d := s.drawn) (g := s.gens) (os := s.os) H.hK H.hL H.hB H.hc H.hS n).2.1 PySem.Fin dp r _ or ⟨ads, obs, s.heap.objs.size, 0, s.toks, 0, bt, ρz⟩ (leafS (endF s ads (TurnEnd w A R))) _ s.heap _ _ ru (RRep.start H.hat H.hn) (fun ρ => holds_of (hN ▸ e _ ρ) (h ρ)) (hd _ (by have := ru.2.2; omega)) fun r or st h' R' H' => ?_
  obtain ⟨hj, H'⟩ := onT_h (b := apart or) (t := fun ρ => .leaf (endF s ads (TurnEnd w A R) r (st.N + st.m) (st.T + st.i) (pick or (st.str ρ)))) ρz H'
  have z := H' ρz h' (End.of R' hj)
  cases r with
  | error e => exact z
  | ok f => cases f <;> exact z
end
end Mine
-- R2
namespace Mine
section
variable {M : Model} {A : Around}
theorem Sim.acts {α : Type} {k : List (Code × Pos) → Sem α} {t : Sem α} (h : ∀ acts, Sim M A (k acts) t) : Sim M A (Sem.stack k) t := by
  intro Γ p Q E s hΓ z
  rw [Sem.wp_stack]
  exact h _ Γ p Q E s hΓ z
noncomputable def enT (v : Value) : Sem PySem.Fin := pyIter v >>= fun it => Builtin.SmallTypes.newRecord (.type "enumerate") (Builtin.SmallTypes.ownedTupleFields ++ [it, rawInt 0, .none, .none]) >>= fun r => ret r
theorem sim_en (v : Value) : Sim M A (Builtin.«enumerate.__new__» ⟨[.type "enumerate", v], []⟩) (enT v) := by
  refine Sim.acts (k := ?k) fun acts => ?_
  show Sim M A (pure (match acts.drop 1 with
    | (.builtin "type.__call__" ⟨c :: _, _⟩, _) :: _ => c == Value.type "enumerate"
    | _ => false) >>= ?g) (enT v)
  generalize (match acts.drop 1 with
    | (.builtin "type.__call__" ⟨c :: _, _⟩, _) :: _ => c == Value.type "enumerate"
    | _ => false) = b
  cases b
  · exact Sim.of (by rfl)
  · exact Sim.of (by rfl)
end
noncomputable def mEn : Args → Option Value
  | ⟨[.type n, v], []⟩ => match PySem.W.S.strDecS n "enumerate" with
    | .isTrue _ => some v
    | .isFalse _ => none
  | _ => none
theorem mEn_is {a : Args} {v : Value} (h : mEn a = some v) : a = ⟨[.type "enumerate", v], []⟩ := by
  unfold mEn at h
  split at h
  · split at h
    · rename_i q _
      cases h
      rw [q]
    · cases h
  · cases h
noncomputable section
noncomputable def enZ (v : Value) : Sem PySem.Fin := PySem.W.ZFast.zw8711993805878244202 v >>= fun it => Builtin.SmallTypes.newRecord (.type "enumerate") (Builtin.SmallTypes.ownedTupleFields ++ [it, rawInt 0, .none, .none]) >>= fun r => ret r
noncomputable def sEN : Sb := mkE "enumerate.__new__" mEn fun v => .sem (enZ v)
end
theorem mkE_okU {β : Type} {m : Args → Option β} {g : β → RTree PySem.Fin} {id : String} {b : Builtin} {prog : Program} {w : World} (he : entryFor treeTable id = some b)
    (h : ∀ a p (A : Around), m a = some p → A.depth < recursionLimit → A.units < cLine → Dn (model prog w) A (b a) (g p)) : SbOk prog w (mkE id m g) := by
  intro c r e A hd hu
  unfold mkE at e
  split at e
  · split at e
    · rename_i q _
      obtain ⟨p, e1, e2⟩ := Option.map_eq_some_iff.mp e
      rw [q, den_b he, ← e2]
      exact h _ _ _ e1 hd hu
    · cases e
  · cases e
theorem entT_en : entryFor treeTable "enumerate.__new__" = some Builtin.«enumerate.__new__» := by kernel_rfl
theorem sEN_ok {prog : Program} {w : World} : SbOk prog w sEN := mkE_okU entT_en fun a p A h hd hu => by
  rw [mEn_is h]
  have e : enZ p = enT p := by unfold enZ; rw [← PySem.W.ZFast.ze8711993805878244202]; rfl
  rw [e]
  exact Dn.sim (sim_en p)
end Mine
-- R3
namespace Mine
noncomputable def chO (s : Str) (k : Int) : Option Nat := (seqIndex? k s.length).bind (s.cps[·]?)
noncomputable def chS (s : Str) (k : Int) : Str := ⟨#[(chO s k).getD 0]⟩
noncomputable def sxR (args : Args) : { r : RTree Fin // ∀ M A, Dn M A (Builtin.«str.__getitem__» args) r } := by
  apply Subtype.mk
  intro M A
  delta Builtin.«str.__getitem__»
  apply Dn.step; intro p
  apply Dn.pair (o := p); intro self q
  apply Dn.pair (o := q); intro s rest
  apply Dn.step; intro ty
  apply Dn.not
  apply Dn.step; intro o
  apply Dn.not
  apply Dn.step; intro k
  refine (?_ : Dn M A _ (.dec (decide (k < -(2 ^ 63 : Int)) || decide (k ≥ 2 ^ 63)) fun b => match b with
    | true => .fail
    | false => .dec (chO s k).isSome fun b => match b with
      | true => .sem (mkText (chS s k) >>= fun v => ret v)
      | false => .fail))
  intro v hv
  cases v with
  | true => exact Dn.no
  | false =>
    rw [if_neg (by rw [hv]; exact Bool.false_ne_true)]
    intro v hv2
    cases v with
    | false => exact Dn.no
    | true =>
      obtain ⟨c, hc⟩ := Option.isSome_iff_exists.mp hv2
      have e : chS s k = ⟨#[c]⟩ := by unfold chS; rw [hc]; rfl
      unfold chO at hc
      rw [hc, e]
      show Dn M A (retStr ⟨#[c]⟩) _
      unfold retStr
      rw [mkStr_ok (by show ¬ 1 > sizeLine; decide)]
      exact Dn.rfl
noncomputable def subR (i : Value) : RTree (Option Int) := .bind (.sem (specialOf i "__index__")) fun o => match o with
  | none => .fail
  | some _ => .bind (.sem (asIndex i)) fun k => .dec (Builtin.List.listFitsIndex k) fun b => match b with
    | true => .sem (pure (some k))
    | false => .fail
theorem dn_subR {M : Model} {A : Around} (i : Value) : Dn M A (Builtin.List.listSubscript? i) (subR i) := by
  delta Builtin.List.listSubscript?
  unfold subR
  refine Dn.step fun o => ?_
  cases o with
  | none => exact Dn.no
  | some _ =>
    refine Dn.step fun k => ?_
    intro v hv
    cases v with
    | false => exact Dn.no
    | true =>
      show Dn M A (if (!Builtin.List.listFitsIndex k) = true then _ else _) _
      rw [hv]
      exact Dn.rfl
noncomputable def lxR (a : Addr) (k : Int) : RTree (Option (Nat × Value)) := .dec (decide (0 ≤ k)) fun b => match b with
  | false => .fail
  | true => .bind (.sem (seqItemAt a k.toNat)) fun o => .dec (isStrO o) fun b => match b with
    | true => .sem (pure (some (k.toNat, .str (strO o) (tokS o))))
    | false => .fail
noncomputable def lgxR (args : Args) : { r : RTree Fin // ∀ M A, Dn M A (Builtin.«list.__getitem__» args) r } := by
  apply Subtype.mk
  intro M A
  delta Builtin.«list.__getitem__»
  apply Dn.step; intro p
  apply Dn.pair (o := p); intro self i
  apply Dn.bind (h := dn_subR i); intro o
  apply Dn.some (o := o); intro k
  apply Dn.ref' (v := self); intro a
  refine (?_ : Dn M A (_ >>= _) (.bind (lxR a k) fun r => match r with | some (_, x) => .sem (ret x) | none => .fail))
  refine Dn.bind ?_ fun r => ?_
  · intro v hv
    cases v with
    | false => exact Dn.no
    | true =>
      obtain ⟨n, rfl⟩ : ∃ n : Nat, k = Int.ofNat n := ⟨k.toNat, by have : 0 ≤ k := of_decide_eq_true hv; exact (Int.toNat_of_nonneg this).symm⟩
      show Dn M A (seqItemAt a n >>= fun o => pure (o.map (n, ·))) _
      refine Dn.step fun o => ?_
      intro v hv
      cases v with
      | false => exact Dn.no
      | true =>
        have e := strO_is hv
        show Den M A (.sem (pure (some (n, Value.str (strO o) (tokS o))))) (pure (o.map (n, ·)))
        rw [e]
        exact Dn.rfl
  · cases r with
    | none => exact Dn.no
    | some q => exact Dn.rfl
noncomputable def lslR (args : Args) : { r : RTree Fin // ∀ M A, Dn M A (Builtin.«list.__getitem__» args) r } := by
  apply Subtype.mk
  intro M A
  delta Builtin.«list.__getitem__»
  apply Dn.step; intro p
  apply Dn.pair (o := p); intro self i
  apply Dn.step; intro o
  apply Dn.none (o := o)
  apply Dn.step; intro ty
  apply Dn.not
  apply Dn.step; intro q
  apply Dn.pair (o := q); intro lo q2
  apply Dn.pair (o := q2); intro hi st
  apply Dn.step; intro xs
  apply Dn.step; intro q3
  apply Dn.pair (o := q3); intro start q4
  apply Dn.pair (o := q4); intro stop step
  refine (?_ : Dn M A _ (.dec (decide ((((sliceRange start stop step).filterMap (xs[·]?)).toArray).size > sizeLine)) fun b => match b with
    | true => .fail
    | false => .sem (newObjAsIs (.type "list") (.seq ((sliceRange start stop step).filterMap (xs[·]?)).toArray) >>= fun v => ret v)))
  intro v hv
  cases v with
  | true => exact Dn.no
  | false =>
    show Dn M A (newObj (.type "list") (.seq ((sliceRange start stop step).filterMap (xs[·]?)).toArray) >>= fun v => ret v) _
    rw [newList_ok (of_decide_eq_false hv)]
    exact Dn.rfl
noncomputable def repA (xs : Array Value) (n : Int) : Array Value := (List.replicate (if xs.isEmpty then 0 else n.toNat) xs).foldl (· ++ ·) #[]
noncomputable def lmR (args : Args) : { r : RTree Fin // ∀ M A, Dn M A (Builtin.«list.__mul__» args) r } := by
  apply Subtype.mk
  intro M A
  delta Builtin.«list.__mul__»
  refine (?_ : Dn M A (_ >>= fun p => _) (.bind (.sem (Builtin.List.listBlankSlotArgs "__mul__" 1 args)) fun p => match p with
    | (a, [count]) => .bind (.sem (asIndex count)) fun n => .dec (Builtin.List.listFitsIndex n) fun b => match b with
      | false => .fail
      | true => .bind (.sem (Builtin.List.listItems a)) fun xs => .dec (decide (xs.size * n.toNat > sizeLine)) fun b => match b with
        | true => .fail
        | false => .dec (decide ((repA xs n).size > sizeLine)) fun b => match b with
          | true => .fail
          | false => .sem (newObjAsIs (.type "list") (.seq (repA xs n)) >>= fun v => ret v)
    | _ => .fail))
  refine Dn.step fun p => ?_
  obtain ⟨a, l⟩ := p
  match l with
  | [] => exact Dn.no
  | _ :: _ :: _ => exact Dn.no
  | [count] =>
    refine Dn.step fun n => ?_
    intro v hv
    cases v with
    | false => exact Dn.no
    | true =>
      show Dn M A (if (!Builtin.List.listFitsIndex n) = true then _ else _) _
      rw [hv, if_neg (by decide)]
      refine Dn.step fun xs => ?_
      intro v hv
      cases v with
      | true => exact Dn.no
      | false =>
        have h1 := of_decide_eq_false hv
        show Dn M A (if xs.size * n.toNat > (2 ^ 63 - 1) / 8 then _ else _) _
        rw [if_neg (by have : sizeLine = 16777216 := rfl; omega)]
        show Dn M A (if Builtin.List.listTooLong (xs.size * n.toNat) = true then _ else _) _
        rw [if_neg (by unfold Builtin.List.listTooLong; simpa using h1)]
        intro v hv
        cases v with
        | true => exact Dn.no
        | false =>
          show Dn M A (newObj (.type "list") (.seq (repA xs n)) >>= fun v => ret v) _
          rw [newList_ok (of_decide_eq_false hv)]
          exact Dn.rfl
noncomputable section
noncomputable def mSI1 (a : Args) : Option Args := (arg2 a).bind fun p => (valS p.1).bind fun r0 => (valI p.2).map fun r1 => a
noncomputable def mRI1 (a : Args) : Option Args := (arg2 a).bind fun p => (valR p.1).bind fun r0 => (valI p.2).map fun r1 => a
noncomputable def mRR1 (a : Args) : Option Args := (arg2 a).bind fun p => (valR p.1).bind fun r0 => (valR p.2).map fun r1 => a
noncomputable def sSX : Sb := mkE "str.__getitem__" mSI1 fun a => (sxR a).1
noncomputable def sGX : Sb := mkE "list.__getitem__" mRI1 fun a => (lgxR a).1
noncomputable def sSL : Sb := mkE "list.__getitem__" mRR1 fun a => (lslR a).1
noncomputable def sLM : Sb := mkE "list.__mul__" m1 fun a => (lmR a).1
end
theorem mSI1_is {a b : Args} (h : mSI1 a = some b) : a = b := by
  obtain ⟨p, e0, h⟩ := Option.bind_eq_some_iff.mp h
  obtain ⟨r0, e1, h⟩ := Option.bind_eq_some_iff.mp h
  obtain ⟨r1, e2, h⟩ := Option.map_eq_some_iff.mp h
  cases h
  rfl
theorem mRI1_is {a b : Args} (h : mRI1 a = some b) : a = b := by
  obtain ⟨p, e0, h⟩ := Option.bind_eq_some_iff.mp h
  obtain ⟨r0, e1, h⟩ := Option.bind_eq_some_iff.mp h
  obtain ⟨r1, e2, h⟩ := Option.map_eq_some_iff.mp h
  cases h
  rfl
theorem mRR1_is {a b : Args} (h : mRR1 a = some b) : a = b := by
  obtain ⟨p, e0, h⟩ := Option.bind_eq_some_iff.mp h
  obtain ⟨r0, e1, h⟩ := Option.bind_eq_some_iff.mp h
  obtain ⟨r1, e2, h⟩ := Option.map_eq_some_iff.mp h
  cases h
  rfl
theorem entT_lm : entryFor treeTable "list.__mul__" = some Builtin.«list.__mul__» := by kernel_rfl
section
variable {prog : Program} {w : World}
theorem sSX_ok : SbOk prog w sSX := mkE_ok entT_sg2 fun a p A h hd => by cases mSI1_is h; exact (sxR _).2 _ _
theorem sGX_ok : SbOk prog w sGX := mkE_ok entT_lg fun a p A h hd => by cases mRI1_is h; exact (lgxR _).2 _ _
theorem sSL_ok : SbOk prog w sSL := mkE_ok entT_lg fun a p A h hd => by cases mRR1_is h; exact (lslR _).2 _ _
theorem sLM_ok : SbOk prog w sLM := mkE_ok entT_lm fun a p A h hd => by cases h; exact (lmR _).2 _ _
end
end Mine
-- R4
namespace Mine
noncomputable section
noncomputable def powR (x y : Int) : RTree PySem.Fin := @Bool.rec (fun _ => RTree PySem.Fin) .fail (.sem (retInt (2 ^ y.toNat))) (x == 2 && (decide (0 ≤ y) && decide (y ≤ 64)))
noncomputable def mulR (x y : Int) : RTree PySem.Fin := @Bool.rec (fun _ => RTree PySem.Fin) .fail (.sem (retInt (x * y))) (decide (0 ≤ x) && decide (x ≤ 1000))
noncomputable def divR (x y : Int) : RTree PySem.Fin := @Bool.rec (fun _ => RTree PySem.Fin) .fail (.sem (retInt (Int.fdiv x y))) (decide (1 ≤ y) && decide (y ≤ 5000))
noncomputable def modR (x y : Int) : RTree PySem.Fin := @Bool.rec (fun _ => RTree PySem.Fin) .fail (.sem (retInt (Int.fmod x y))) (decide (1 ≤ y) && decide (y ≤ 5000))
noncomputable def sDI : Sb := mkE "int.__floordiv__" mII fun p => divR p.1 p.2.2.1
noncomputable def sMO : Sb := mkE "int.__mod__" mII fun p => modR p.1 p.2.2.1
noncomputable def sPW : Sb := mkE "int.__pow__" mII fun p => powR p.1 p.2.2.1
noncomputable def sMU : Sb := mkE "int.__mul__" mII fun p => mulR p.1 p.2.2.1
end
theorem entT_pow : entryFor treeTable "int.__pow__" = some Builtin.«int.__pow__» := by kernel_rfl
theorem entT_mul : entryFor treeTable "int.__mul__" = some Builtin.«int.__mul__» := by kernel_rfl
theorem entT_div : entryFor treeTable "int.__floordiv__" = some Builtin.«int.__floordiv__» := by kernel_rfl
theorem entT_mod : entryFor treeTable "int.__mod__" = some Builtin.«int.__mod__» := by kernel_rfl
theorem bits_small {x : Int} (h0 : 0 ≤ x) (h : x ≤ 1000) : Builtin.Int.intBits x ≤ 64 := by
  unfold Builtin.Int.intBits
  split
  · omega
  · have h2 : x.natAbs < 2 ^ 10 := by omega
    have := Nat.log2_lt (n := x.natAbs) (k := 10) (by rename_i q; simp at q; omega)
    have := this.mpr h2
    omega
section
variable {M : Model} {A : Around}
theorem dn_mul (x y : Int) (t u : Tok) : Dn M A (Builtin.«int.__mul__» ⟨[.int x t, .int y u], []⟩) (mulR x y) := by
  unfold mulR
  cases hb : (decide (0 ≤ x) && decide (x ≤ 1000)) with
  | false => exact Dn.no
  | true =>
    rw [Bool.and_eq_true] at hb
    have h0 := of_decide_eq_true hb.1
    have h1 := of_decide_eq_true hb.2
    show Dn M A (if (decide (Builtin.Int.intBits x > shortFactorBits) && decide (Builtin.Int.intBits y > shortFactorBits) && Builtin.Int.intTooBig (Builtin.Int.intBits x + Builtin.Int.intBits y)) = true then _ else _) _
    have hs : decide (Builtin.Int.intBits x > shortFactorBits) = false := decide_eq_false (by have := bits_small h0 h1; show ¬ _ > 64; omega)
    rw [hs]
    exact Dn.rfl
theorem dn_pow (x y : Int) (t u : Tok) : Dn M A (Builtin.«int.__pow__» ⟨[.int x t, .int y u], []⟩) (powR x y) := by
  unfold powR
  cases hb : (x == 2 && (decide (0 ≤ y) && decide (y ≤ 64))) with
  | false => exact Dn.no
  | true =>
    rw [Bool.and_eq_true, Bool.and_eq_true] at hb
    have hx : x = 2 := by simpa using hb.1
    have h0 := of_decide_eq_true hb.2.1
    have h1 := of_decide_eq_true hb.2.2
    subst hx
    show Dn M A (if y ≥ 0 then (if (y == 0) = true then retInt 1 else if ((2 : Int) == 0 || (2 : Int) == 1) = true then _ else if ((2 : Int) == -1) = true then _ else if Builtin.Int.intTooBig (Builtin.Int.intBits 2 * y) = true then _ else _) else _) _
    rw [if_pos h0]
    by_cases hy : y = 0
    · subst hy
      exact Dn.rfl
    · rw [if_neg (by simpa using hy), if_neg (by decide), if_neg (by decide), if_neg ?_]
      · exact Dn.rfl
      · have : (Builtin.Int.intBits 2 : Int) = 2 := rfl
        rw [this]
        unfold Builtin.Int.intTooBig bitsLine
        simp
        omega
theorem log2_small {y : Int} (h0 : 1 ≤ y) (h : y ≤ 5000) : y.natAbs.log2 < 13 := (Nat.log2_lt (by omega)).mpr (by omega)
theorem pylong_no {x y : Int} (h0 : 1 ≤ y) (h : y ≤ 5000) : Builtin.divisionGoesByPylong x y = false := by
  unfold Builtin.divisionGoesByPylong
  have e : (y == 0) = false := by simp; omega
  have := log2_small h0 h
  simp only [e]
  rw [Bool.and_eq_false_iff]
  left
  apply decide_eq_false
  show ¬ (y.natAbs.log2 / 30 + 1 > 300)
  omega
theorem dn_div (x y : Int) (t u : Tok) : Dn M A (Builtin.«int.__floordiv__» ⟨[.int x t, .int y u], []⟩) (divR x y) := by
  unfold divR
  cases hb : (decide (1 ≤ y) && decide (y ≤ 5000)) with
  | false => exact Dn.no
  | true =>
    rw [Bool.and_eq_true] at hb
    have h0 := of_decide_eq_true hb.1
    have h1 := of_decide_eq_true hb.2
    show Dn M A (if (y == 0) = true then _ else (if Builtin.divisionGoesByPylong x y = true then _ else pure ()) >>= fun _ => retInt (x.fdiv y)) _
    rw [if_neg (by simp; omega), pylong_no h0 h1, if_neg (by decide)]
    exact Dn.rfl
theorem dn_mod (x y : Int) (t u : Tok) : Dn M A (Builtin.«int.__mod__» ⟨[.int x t, .int y u], []⟩) (modR x y) := by
  unfold modR
  cases hb : (decide (1 ≤ y) && decide (y ≤ 5000)) with
  | false => exact Dn.no
  | true =>
    rw [Bool.and_eq_true] at hb
    have h0 := of_decide_eq_true hb.1
    show Dn M A (if (y == 0) = true then _ else retInt (x.fmod y)) _
    rw [if_neg (by simp; omega)]
    exact Dn.rfl
variable {prog : Program} {w : World}
theorem sDI_ok : SbOk prog w sDI := mkE_ok entT_div fun a p A h hd => by rw [mII_is h]; exact dn_div _ _ _ _
theorem sMO_ok : SbOk prog w sMO := mkE_ok entT_mod fun a p A h hd => by rw [mII_is h]; exact dn_mod _ _ _ _
theorem sPW_ok : SbOk prog w sPW := mkE_ok entT_pow fun a p A h hd => by rw [mII_is h]; exact dn_pow _ _ _ _
theorem sMU_ok : SbOk prog w sMU := mkE_ok entT_mul fun a p A h hd => by rw [mII_is h]; exact dn_mul _ _ _ _
end
end Mine
-- F1
set_option maxHeartbeats 0
set_option pp.maxSteps 600
namespace Mine
noncomputable def baseS (p : Str) : Str := sliceS p (some (Txt.rfind p (Str.ofString "/") + 1)) none 1
noncomputable def mnOf (p : Str) : Str := sliceS (baseS p) none (some (Txt.rfind (baseS p) (Str.ofString "."))) 1
noncomputable def q_mn (W : World) (w : World) (x T : Nat) (p : Str) (t : Nat) (F : KF Flow) (ρ : Stream) : VT := (ex ⟨PR, W.params⟩ (mkZ w []) 1200).c 10 (.call (.ref 111) ⟨[.str p t], []⟩) [1, 0, 0, 1, 1, 0, 0, 1, 0, 1, 0, 0, 2, 2, 0, 0, 2, 0, 1, 0, 0, 3, 3, 3, 3, 0, 0, 3, 3, 0, 1, 0, 0, 4, 4, 4, 4, 0, 0, 0, 4, 0, 0, 4, 4, 4, 0, 0, 3, 3, 3, 2, 12, 0, 0, 0, 0, 3, 2, 2, 2, 0, 2, 23, 0, 0, 2, 2, 2, 2, 0, 2, 9, 5, 5, 5, 5, 0, 0, 1, 1, 0, 1, 0, 1, 0, 0, 6, 6, 0, 0, 6, 0, 1, 0, 0, 7, 7, 7, 7, 0, 0, 7, 7, 0, 1, 0, 0, 8, 8, 8, 8, 0, 0, 0, 8, 0, 0, 8, 8, 8, 0, 0, 7, 7, 7, 2, 12, 0, 0, 0, 0, 7, 6, 6, 6, 6, 6, 6, 6, 6, 0, 2, 23, 6, 6, 6, 6, 0, 2, 23, 6, 6, 6, 6, 0, 2, 25, 1, 6, 0, 0, 6, 6, 0, 6, 6, 0, 2, 24, 1, 6, 6, 6, 0, 0, 0, 2, 9, 9, 9, 9, 9, 0, 0, 6, 0, 2, 27, 1, 6, 6, 0, 2, 9, 10, 10, 10, 10, 0, 0, 6, 6, 0, 2, 9, 11, 11, 11, 11, 0, 0, 12, 12, 12, 0, 12, 0, 13, 13, 0, 13, 0, 13, 13, 12, 13, 13, 13, 0, 13, 0, 13, 13, 12, 13, 13, 13, 0, 13, 0, 13, 13, 12, 13, 13, 15, 1, 1, 1, 1, 1] ⟨[], [], (x + 214), 0, T, 0, .n, ρ⟩ (leafC F)
noncomputable def cl_mn (p : Str) : List (Bool × Bool) := [(false, false), (false, false), ((Bool.and ((1 : Int) == (1 : Int)) ((List.length (Mine.sliceP p (Option.some ((PySem.Txt.rfind p (Str.ofString "/")) + (1 : Int))) Option.none (1 : Int))) == (PySem.Str.length p))), false), ((Decidable.decide (GT.gt (PySem.Str.length (Mine.sliceS p (Option.some ((PySem.Txt.rfind p (Str.ofString "/")) + (1 : Int))) Option.none (1 : Int))) 16777216)), false), (false, false), (false, false), ((Decidable.decide (GT.gt (PySem.Txt.rfind (Mine.sliceS p (Option.some ((PySem.Txt.rfind p (Str.ofString "/")) + (1 : Int))) Option.none (1 : Int)) (Str.ofString ".")) (PySem.Txt.rfind (Mine.sliceS p (Option.some ((PySem.Txt.rfind p (Str.ofString "/")) + (1 : Int))) Option.none (1 : Int)) (Str.ofString "/")))), true), ((Decidable.decide (LT.lt ((PySem.Txt.rfind (Mine.sliceS p (Option.some ((PySem.Txt.rfind p (Str.ofString "/")) + (1 : Int))) Option.none (1 : Int)) (Str.ofString "/")) + (1 : Int)) (PySem.Txt.rfind (Mine.sliceS p (Option.some ((PySem.Txt.rfind p (Str.ofString "/")) + (1 : Int))) Option.none (1 : Int)) (Str.ofString ".")))), true), ((Bool.and ((1 : Int) == (1 : Int)) ((List.length (Mine.sliceP (Mine.sliceS p (Option.some ((PySem.Txt.rfind p (Str.ofString "/")) + (1 : Int))) Option.none (1 : Int)) (Option.some ((PySem.Txt.rfind (Mine.sliceS p (Option.some ((PySem.Txt.rfind p (Str.ofString "/")) + (1 : Int))) Option.none (1 : Int)) (Str.ofString "/")) + (1 : Int))) (Option.some (((PySem.Txt.rfind (Mine.sliceS p (Option.some ((PySem.Txt.rfind p (Str.ofString "/")) + (1 : Int))) Option.none (1 : Int)) (Str.ofString "/")) + (1 : Int)) + (1 : Int))) (1 : Int))) == (PySem.Str.length (Mine.sliceS p (Option.some ((PySem.Txt.rfind p (Str.ofString "/")) + (1 : Int))) Option.none (1 : Int))))), false), ((Decidable.decide (GT.gt (PySem.Str.length (Mine.sliceS (Mine.sliceS p (Option.some ((PySem.Txt.rfind p (Str.ofString "/")) + (1 : Int))) Option.none (1 : Int)) (Option.some ((PySem.Txt.rfind (Mine.sliceS p (Option.some ((PySem.Txt.rfind p (Str.ofString "/")) + (1 : Int))) Option.none (1 : Int)) (Str.ofString "/")) + (1 : Int))) (Option.some (((PySem.Txt.rfind (Mine.sliceS p (Option.some ((PySem.Txt.rfind p (Str.ofString "/")) + (1 : Int))) Option.none (1 : Int)) (Str.ofString "/")) + (1 : Int)) + (1 : Int))) (1 : Int))) 16777216)), false), ((Bool.not (Mine.strEqB (Mine.sliceS (Mine.sliceS p (Option.some ((PySem.Txt.rfind p (Str.ofString "/")) + (1 : Int))) Option.none (1 : Int)) (Option.some ((PySem.Txt.rfind (Mine.sliceS p (Option.some ((PySem.Txt.rfind p (Str.ofString "/")) + (1 : Int))) Option.none (1 : Int)) (Str.ofString "/")) + (1 : Int))) (Option.some (((PySem.Txt.rfind (Mine.sliceS p (Option.some ((PySem.Txt.rfind p (Str.ofString "/")) + (1 : Int))) Option.none (1 : Int)) (Str.ofString "/")) + (1 : Int)) + (1 : Int))) (1 : Int)) (Str.ofString "."))), true), ((Bool.and ((1 : Int) == (1 : Int)) ((List.length (Mine.sliceP (Mine.sliceS p (Option.some ((PySem.Txt.rfind p (Str.ofString "/")) + (1 : Int))) Option.none (1 : Int)) Option.none (Option.some (PySem.Txt.rfind (Mine.sliceS p (Option.some ((PySem.Txt.rfind p (Str.ofString "/")) + (1 : Int))) Option.none (1 : Int)) (Str.ofString "."))) (1 : Int))) == (PySem.Str.length (Mine.sliceS p (Option.some ((PySem.Txt.rfind p (Str.ofString "/")) + (1 : Int))) Option.none (1 : Int))))), false), ((Decidable.decide (GT.gt (PySem.Str.length (Mine.sliceS (Mine.sliceS p (Option.some ((PySem.Txt.rfind p (Str.ofString "/")) + (1 : Int))) Option.none (1 : Int)) Option.none (Option.some (PySem.Txt.rfind (Mine.sliceS p (Option.some ((PySem.Txt.rfind p (Str.ofString "/")) + (1 : Int))) Option.none (1 : Int)) (Str.ofString "."))) (1 : Int))) 16777216)), false), ((Bool.and ((1 : Int) == (1 : Int)) ((List.length (Mine.sliceP (Mine.sliceS p (Option.some ((PySem.Txt.rfind p (Str.ofString "/")) + (1 : Int))) Option.none (1 : Int)) (Option.some (PySem.Txt.rfind (Mine.sliceS p (Option.some ((PySem.Txt.rfind p (Str.ofString "/")) + (1 : Int))) Option.none (1 : Int)) (Str.ofString "."))) Option.none (1 : Int))) == (PySem.Str.length (Mine.sliceS p (Option.some ((PySem.Txt.rfind p (Str.ofString "/")) + (1 : Int))) Option.none (1 : Int))))), false), ((Decidable.decide (GT.gt (PySem.Str.length (Mine.sliceS (Mine.sliceS p (Option.some ((PySem.Txt.rfind p (Str.ofString "/")) + (1 : Int))) Option.none (1 : Int)) (Option.some (PySem.Txt.rfind (Mine.sliceS p (Option.some ((PySem.Txt.rfind p (Str.ofString "/")) + (1 : Int))) Option.none (1 : Int)) (Str.ofString "."))) Option.none (1 : Int))) 16777216)), false)]
noncomputable def v_mn (w : World) (x T : Nat) (p : Str) (t : Nat) (F : KF Flow) (ρ : Stream) : VT := (chain (cl_mn p) (.leaf (F (Except.ok (PySem.Flow.ret (PySem.Value.str (Mine.sliceS (Mine.sliceS p (Option.some ((PySem.Txt.rfind p (Str.ofString "/")) + (1 : Int))) Option.none (1 : Int)) Option.none (Option.some (PySem.Txt.rfind (Mine.sliceS p (Option.some ((PySem.Txt.rfind p (Str.ofString "/")) + (1 : Int))) Option.none (1 : Int)) (Str.ofString "."))) (1 : Int)) (T + 46)))) ((x + 214) + 15) (T + 50) [])))
theorem e_mn (w : World) (x T : Nat) (p : Str) (t : Nat) (F : KF Flow) (ρ : Stream) (b0 : Bool) : EqV (q_mn (w.withFollow "special-get-raises" b0) w x T p t F ρ) (v_mn w x T p t F ρ) := by unfold EqV; cases b0 <;> kernel_rfl
theorem k_mn (w : World) (x T : Nat) (p : Str) (t : Nat) (F : KF Flow) (ρ : Stream) : EqV (q_mn w w x T p t F ρ) (v_mn w x T p t F ρ) := row1 (P := fun W => EqV (q_mn W w x T p t F ρ) (v_mn w x T p t F ρ)) "special-get-raises" fun b0 => e_mn w x T p t F ρ b0
noncomputable def zMN : Code → Option Summ := fun c => (mFn 111 c).bind fun args => (mS args).map fun p => ⟨c, [], [], isPth p.1 = true, 3, true, fun _ xs => outV (.str (mnOf p.1) (gx 0 xs)) xs⟩
theorem zMN_ok (w : World) : SumOk w zMN 50 := by
  intro c z e
  obtain ⟨args, e1, e2⟩ := Option.bind_eq_some_iff.mp e
  obtain ⟨⟨p, t⟩, e3, e4⟩ := Option.map_eq_some_iff.mp e2
  subst e4
  intro hP A s R ha hd hu hK hL hB hn hat h
  show codeAny _ _ c R s
  rw [mFn_is e1, mS_is e3]
  obtain ⟨x, hx⟩ : ∃ x, s.heap.objs.size = x + 214 := ⟨s.heap.objs.size - 214, by omega⟩
  refine run_code (need := 0) (dp := 10) (ads := []) (obs := []) (V := v_mn w x s.toks p t) (rn_of sums_nil hK hL hB (by simp) trivial List.nodup_nil) (room_of ha hd hu (by omega)) hx (k_mn w x s.toks p t) fun ρ => ?_
  refine chain_h (pth_all (f := fun p => (cl_mn p).all fun e => e.1 == e.2) (by decide +kernel) hP) ?_
  intro h' E
  exact h [dn _, dn _, dn _] h' rfl (out_of_end E (by omega))
end Mine
-- X1
namespace Mine
noncomputable section
noncomputable def lamX : Obj → Option PySem.Expr
  | ⟨_, _, .func fd, _⟩ => match fd.body with
    | .stmts [.Return (some (.Call _ (l :: _) _ _)) _] => some l
    | _ => none
  | _ => none
noncomputable def xPar : Option PySem.Expr → Arguments | some (.Lambda a _ _ _) => a | _ => default
noncomputable def xBody : Option PySem.Expr → PySem.Expr | some (.Lambda _ e _ _) => e | _ => default
noncomputable def xSc : Option PySem.Expr → Scope | some (.Lambda _ _ s _) => s | _ => default
structure LV where
  (fn co ce ins idt ig ms ds kp ct t0 t1 t2 r1 r2 r3 r4 r5 u u' s0 s1 s2 ep tm dep kep : Nat)
  md : Str
section
variable (w : World)
noncomputable def lFn (c co ct : Nat) : Obj := { cls := .type "function", data := .func { name := Str.ofString "<lambda>", qualname := Str.ofString "_law_folded.<locals>.<lambda>", params := xPar (lamX (tpo w 200)), body := .expr (xBody (lamX (tpo w 200))), scope := xSc (lamX (tpo w 200)), globals := 3, closure := [(Str.ofString "ignore", c)], defaults := .none, kwdefaults := .none, pyModule := .str (Str.ofString "law_nq0110_01") 449, code := .ref co, closureTuple := .ref ct } }
noncomputable def lCode (t t' t'' : Nat) (r1 r2 r3 r4 r5 : Nat) (u u' : Nat) : Obj := { cls := .type "code", data := .fields #[.str (Str.ofString "<lambda>") t, .str (Str.ofString "_law_folded.<locals>.<lambda>") t', .str (Str.ofString "/claim/cut.py") t'', .int 221 0, .int 2 0, .int 0 0, .int 0 0, .int 19 0, .ref r1, .bool true, .int 181 0, .ref r2, .none, .ref r3, .ref r4, .ref r5, .int (u : Nat) 0, .int 221 0, .str (Str.ofString "/claim/cut.py") u'] }
noncomputable def lCell (g : Nat) : Obj := { cls := .type "cell", data := .cell (some (.ref g)) }
noncomputable def iInst (d : Nat) : Obj := { cls := .ref 100, dict := some d, data := .plain }
noncomputable def iDict (t0 t1 t2 : Tok) (ms ds ig : Nat) : Obj := { cls := .type "dict", data := .dict #[en w "_mods" t0 (.ref ms), en w "_dirs" t1 (.ref ds), en w "_ignore" t2 (.ref ig)] 3 }
noncomputable def dObj (es : Array DictEntry) (ep : Nat) : Obj := { cls := .type "dict", data := .dict es ep }
noncomputable def tbl (g : Bool) (j : Nat) : SetTable := { mask := 7, place := #[j], dummies := #[], finger := 0, led := !g, moves := 0, plain := false }
noncomputable def sOne (L : LV) (tb : SetTable) : Obj := set1 (zhash w L.md) L.md L.tm 1 tb
noncomputable def sNil (g : Bool) : Obj := { cls := .type "set", data := .set #[] 0 { mask := 7, place := #[], dummies := #[], finger := 0, led := !g, moves := 0, plain := true } }
noncomputable def LV.ads (L : LV) : List Nat := [L.fn + 214, L.co + 214, L.ce + 214, L.ins + 214, L.idt + 214, L.ig + 214, L.ms + 214, L.ds + 214, L.kp + 214]
noncomputable def LV.obs (L : LV) (so : Obj) (es : Array DictEntry) (dirs ks : List Value) : List Obj := [lFn w (L.ce + 214) (L.co + 214) L.ct, lCode L.t0 L.t1 L.t2 L.r1 L.r2 L.r3 L.r4 L.r5 L.u L.u', lCell (L.ins + 214), iInst (L.idt + 214), iDict w L.s0 L.s1 L.s2 (L.ms + 214) (L.ds + 214) (L.ig + 214), dObj es L.ep, so, lst dirs L.dep, lst ks L.kep]
end
noncomputable def rdEnv (w : World) (lo : Nat) : Env := { scope := (fdOf (tpo w 127)).scope, locals := lo, globals := 3, cells := [], qual := Str.ofString "reduce.<locals>.", func := some 127, code := .ref 126, frame := some lo, builtins := 0 }
noncomputable def rdFor (w : World) : Stmt := nthS 2 (stOf (tpo w 127))
noncomputable def rdLoop (w : World) (lo it : Nat) : Code := .forLoop (forT (rdFor w)) (.ref it) (forB (rdFor w)) (forE (rdFor w)) (rdEnv w lo)
noncomputable def rdL5 (w : World) (t0 t1 t2 t3 t4 fn sq ini it val : Nat) : Obj := loc [eo w "function" t0 (.ref fn), eo w "sequence" t1 (.ref sq), eo w "initial" t2 (.ref ini), en w "it" t3 (.ref it), en w "value" t4 (.ref val)] 5
noncomputable def rdL6 (w : World) (t0 t1 t2 t3 t4 t5 fn sq ini it val : Nat) (el : Value) : Obj := loc [eo w "function" t0 (.ref fn), eo w "sequence" t1 (.ref sq), eo w "initial" t2 (.ref ini), en w "it" t3 (.ref it), en w "value" t4 (.ref val), en w "element" t5 el] 6
noncomputable def itO (l k : Nat) : Obj := { cls := .type "list_iterator", data := .fields #[.ref l, .int (k : Nat) 0] }
noncomputable def isId (id i : String) : Option Unit := match PySem.W.S.strDecS i id with
  | .isTrue _ => some ()
  | .isFalse _ => none
theorem isId_is {id i : String} {u : Unit} (h : isId id i = some u) : i = id := by
  unfold isId at h
  split at h
  · assumption
  · cases h
noncomputable def fnId (v : Value) : Option String := match v with
  | .builtin i => some i
  | _ => none
theorem fnId_is {v : Value} {i : String} (h : fnId v = some i) : v = .builtin i := by
  cases v <;> cases h <;> rfl
noncomputable def mBi (id : String) (c : Code) : Option Args := match c with
  | .call f args => (fnId f).bind fun i => (isId id i).map fun _ => args
  | _ => none
theorem mBi_is {id : String} {c : Code} {args : Args} (h : mBi id c = some args) : c = .call (.builtin id) args := by
  cases c with
  | call f as =>
    obtain ⟨i, e1, h⟩ := Option.bind_eq_some_iff.mp h
    obtain ⟨u, e2, h⟩ := Option.map_eq_some_iff.mp h
    cases h
    rw [fnId_is e1, isId_is e2]
  | _ => cases h
noncomputable def zSC (w : World) (md : Str) (tm : Tok) (tb : SetTable) : Code → Option Summ := fun c => (mBi "set.__contains__" c).bind fun args => (mRS args).map fun p =>
  ⟨c, [p.1], [set1 (zhash w md) md tm 1 tb], tb.fits 1 = true, 2, decide (p.2.1 = md), fun b xs => ⟨.ok (.ret (.bool b)), [set1 (zhash w md) md tm 1 tb], [], gx 0 xs + 214, gx 1 xs⟩⟩
theorem zSC_ok (w : World) (md : Str) (tm : Tok) (tb : SetTable) : SumOk w (zSC w md tm tb) 0 := by
  intro c z e
  obtain ⟨args, e1, e2⟩ := Option.bind_eq_some_iff.mp e
  obtain ⟨⟨a, x, t⟩, e3, e4⟩ := Option.map_eq_some_iff.mp e2
  subst e4
  intro hP A s R ha hd hu hK hL hB hn hat h
  show codeAny _ _ c R s
  rw [mBi_is e1, mRS_is e3]
  refine contains_code (knd := PySem.strKind PR w) (k := x) (by simp [PySem.strKind, Value.isStrOf]) rfl (set1_of (hat.1 : s.heap.get? a = _) (zhash_eq w md) hP) ?_
  exact h [dn (s.heap.objs.size - 214), dn (s.toks + 1)] s.heap rfl ⟨by show _ = _ - 214 + 214; omega, by show _ ≤ _ - 214 + 214; omega, hat, (fun y hy => nomatch hy), List.nodup_nil, fun b o e _ => e⟩
end
end Mine
-- X2
namespace Mine
structure RV where
  (lo it ps sq u0 u1 u2 u3 u4 ep : Nat)
  items : Array Value
  dirs : List Value
  so : Obj
noncomputable section
section
variable (w : World) (L : LV) (V : RV) (u5 k : Nat) (es : Array DictEntry) (ks : List Value) (F : KF Fin)
noncomputable def RV.q (V : RV) (k : Nat) : Option Value := getElem? V.items (Int.toNat (Nat.cast k))
noncomputable def RV.p (V : RV) (k : Nat) : Str := strO (V.q k)
noncomputable def RV.pv (V : RV) (k : Nat) : Value := .str (strO (V.q k)) (tokS (V.q k))
noncomputable def rdLp : Code := rdLoop w (V.lo + 214) (V.it + 214)
noncomputable def rdPl (fr it' : Obj) (kp : Nat) (es : Array DictEntry) (ep : Nat) (ks : Array Value) (kep : Nat) (old : List (Nat × Obj)) : List (Nat × Obj) :=
  [(V.lo + 214, fr), (V.it + 214, it'), (V.ps + 214, lstA V.items V.ep), (L.fn + 214, lFn w (L.ce + 214) (L.co + 214) L.ct), (L.co + 214, lCode L.t0 L.t1 L.t2 L.r1 L.r2 L.r3 L.r4 L.r5 L.u L.u'), (L.ce + 214, lCell (L.ins + 214)), (L.ins + 214, iInst (L.idt + 214)), (L.idt + 214, iDict w L.s0 L.s1 L.s2 (L.ms + 214) (L.ds + 214) (L.ig + 214)), (L.ig + 214, dObj es ep), (L.ms + 214, V.so), (L.ds + 214, lst V.dirs L.dep)] ++ (old ++ [(kp, lstA ks kep)])
noncomputable def rdFr (kp : Nat) (el : Value) : Obj := rdL6 w V.u0 V.u1 V.u2 V.u3 V.u4 u5 (L.fn + 214) (V.ps + 214) (V.sq + 214) (V.it + 214) kp el
noncomputable def rdF5 (kp : Nat) : Obj := rdL5 w V.u0 V.u1 V.u2 V.u3 V.u4 (L.fn + 214) (V.ps + 214) (V.sq + 214) (V.it + 214) kp
noncomputable def rdLeaf (n t : Nat) (es : Array DictEntry) (ep : Nat) : VT :=
  .leaf (F (.ok (.again (rdLp w V))) n t (rdPl w L V (rdFr w L V u5 (L.kp + 214) (V.pv k)) (itO (V.ps + 214) (k + 1)) (L.kp + 214) es ep ⟨ks⟩ L.kep []))
noncomputable def rdLeaN (n t kp : Nat) (es : Array DictEntry) (ep : Nat) : VT :=
  .leaf (F (.ok (.again (rdLp w V))) n t (rdPl w L V (rdFr w L V u5 kp (V.pv k)) (itO (V.ps + 214) (k + 1)) kp es ep ((Array.mk ks) ++ #[V.pv k]) 0 [(L.kp + 214, lst ks L.kep)]))
noncomputable def rdSet (tk : Tok) (v : Int) (tv : Tok) : Array DictEntry := es.push ⟨hashStr w (mnOf (V.p k)), .str (mnOf (V.p k)) tk, .int v tv⟩
noncomputable def rdAll : Bool := Array.all es (fun e => isExactStrKey e.key) 0 (Array.size es)
noncomputable def rdCs (tk : Tok) (v : Int) (tv : Tok) : List (Bool × Bool) := [(rdAll es, true), ((kIdx es (mnOf (V.p k))).isSome, false), (decide ((rdSet w V k es tk v tv).size > 16777217), false)]
noncomputable def rdHit (tk : Tok) (N T tv : Nat) : VT := chain (rdCs w V k es tk 1 (T + tv)) (chain [(false, false)] (rdLeaf w L V u5 k ks F N (T + (tv + 6)) (rdSet w V k es tk 1 (T + tv)) (L.ep + 1)))
noncomputable def rdMiss (tk : Tok) (N T tv nb : Nat) : VT := chain (rdCs w V k es tk 0 (T + tv)) (chain [(true, true), (decide (Array.size ((Array.mk ks) ++ #[V.pv k]) > 16777216), false)] (rdLeaN w L V u5 k ks F (N + nb) (T + (tv + 6)) (N + (nb - 1)) (rdSet w V k es tk 0 (T + tv)) (L.ep + 1)))
noncomputable def rdDirs (tk : Tok) (N T nb tb n i : Nat) : VT := @Nat.rec (fun _ => Nat → VT)
  (fun i => chain [(isStrO (getElem? (Array.mk V.dirs) i), false), ((getElem? (Array.mk V.dirs) i).isSome, false)] (rdMiss w L V u5 k es ks F tk N T (tb + 2 * i) nb))
  (fun _ ih i => .dec (isStrO (getElem? (Array.mk V.dirs) i)) (chain [((getElem? (Array.mk V.dirs) i).isSome, false)] (rdMiss w L V u5 k es ks F tk N T (tb + 2 * i) nb))
    (chain [((strO (getElem? (Array.mk V.dirs) i)).length == 0, false), (false, false), (decide (((strO (getElem? (Array.mk V.dirs) i)) ++ Str.ofString "/").length > 16777216), false)]
      (.dec (Txt.startswith (V.p k) ((strO (getElem? (Array.mk V.dirs) i)) ++ Str.ofString "/")) (ih (i + 1)) (rdHit w L V u5 k es ks F tk (N + (nb - 4)) T (tb + 2 * (i + 1)))))) n i
noncomputable def rdVal : Option Value := Option.map (fun x => x.val) (getElem? es ((kIdx es (mnOf (V.p k))).getD 0))
noncomputable def rdHad (N T : Nat) : VT := chain [((rdVal V k es).isSome, true), (rdAll es, true), ((kIdx es (mnOf (V.p k))).isSome, true), (isIntO (rdVal V k es), true)]
  (.dec (intO (rdVal V k es) == 0) (rdLeaf w L V u5 k ks F (N + 1) (T + 9) es L.ep)
    (chain [(decide (Array.size ((Array.mk ks) ++ #[V.pv k]) > 16777216), false)] (rdLeaN w L V u5 k ks F (N + 3) (T + 9) (N + 2) es L.ep)))
noncomputable def rdTurn (fr : Obj) (n0 t0 N T : Nat) (un : VT) : VT :=
  .dec (isStrO (V.q k)) (chain [((V.q k).isSome, false)] (.leaf (F (.ok (.again (.block (forE (rdFor w)) (rdEnv w (V.lo + 214))))) n0 t0 (rdPl w L V fr { cls := .type "list_iterator", data := .fields #[.none, .int (k : Nat) 0] } (L.kp + 214) es L.ep ⟨ks⟩ L.kep []))))
    (.claim (isPth (V.p k) = true) (chain [(true, true), (rdAll es, true)] (.dec (kIdx es (mnOf (V.p k))).isSome (chain [(false, false)] un) (rdHad w L V u5 k es ks F N T))))
noncomputable def rdMod (c1 c2 : List (Bool × Bool)) (tk : Tok) (N T : Nat) : VT :=
  .claim (true = true) (.dec (decide (mnOf (V.p k) = L.md))
    (chain c1 (chain [(L.md.length == 0, false), (false, false), (decide ((L.md ++ Str.ofString ".").length > 16777216), false)]
      (.dec (Txt.startswith (mnOf (V.p k)) (L.md ++ Str.ofString ".")) (chain c2 (rdDirs w L V u5 k es ks F tk N T 8 5 3 0)) (rdHit w L V u5 k es ks F tk (N + 1) T 4))))
    (rdHit w L V u5 k es ks F tk N T 0))
end
end
end Mine
-- P1
namespace Mine
noncomputable def DRep : List DictEntry → List (Str × Int) → Prop
  | [], [] => True
  | e :: es, q :: kn => (∃ h t u, e = ⟨h, .str q.1 t, .int q.2 u⟩) ∧ DRep es kn
  | _, _ => False
noncomputable def vlook (kn : List (Str × Int)) (s : Str) : Option Int := (kn.find? fun q => decide (q.1 = s)).map (·.2)
theorem DRep.len : ∀ {es : List DictEntry} {kn : List (Str × Int)}, DRep es kn → es.length = kn.length
  | [], [], _ => rfl
  | _ :: _, _ :: _, H => by simp [DRep.len H.2]
  | [], _ :: _, H => H.elim
  | _ :: _, [], H => H.elim
theorem DRep.exact : ∀ {es : List DictEntry} {kn : List (Str × Int)}, DRep es kn → (es.all fun e => isExactStrKey e.key) = true
  | [], [], _ => rfl
  | _ :: _, _ :: _, H => by
    obtain ⟨⟨h, t, u, rfl⟩, H2⟩ := H
    rw [List.all_cons, DRep.exact H2]
    rfl
  | [], _ :: _, H => H.elim
  | _ :: _, [], H => H.elim
theorem DRep.push : ∀ {es : List DictEntry} {kn : List (Str × Int)}, DRep es kn → ∀ {h : Int} {s : Str} {t u : Tok} {v : Int}, DRep (es ++ [⟨h, .str s t, .int v u⟩]) (kn ++ [(s, v)])
  | [], [], _, _, _, _, _, _ => ⟨⟨_, _, _, rfl⟩, trivial⟩
  | _ :: _, _ :: _, H, _, _, _, _, _ => ⟨H.1, DRep.push H.2⟩
  | [], _ :: _, H, _, _, _, _, _ => H.elim
  | _ :: _, [], H, _, _, _, _, _ => H.elim
noncomputable def dVal (es : Array DictEntry) (s : Str) : Option Value := Option.map (fun x => x.val) (es[(kIdx es s).getD 0]?)
theorem find_some : ∀ {es : List DictEntry} {kn : List (Str × Int)} {s : Str}, DRep es kn → match vlook kn s with
    | none => es.findIdx? (·.key.isStr s) = none
    | some v => ∃ i t, es.findIdx? (·.key.isStr s) = some i ∧ (es[i]?).map (·.val) = some (.int v t)
  | [], [], _, _ => rfl
  | e :: es, q :: kn, s, H => by
    obtain ⟨⟨h, t, u, rfl⟩, H2⟩ := H
    have ih := find_some (s := s) H2
    unfold vlook at ih ⊢
    rw [List.find?_cons, List.findIdx?_cons]
    have hk : (Value.str q.1 t).isStr s = decide (q.1 = s) := rfl
    dsimp only
    rw [hk]
    cases hd : decide (q.1 = s) with
    | true => exact ⟨0, u, rfl, rfl⟩
    | false =>
      dsimp only
      split at ih
      · rename_i e
        rw [e]
        dsimp only
        rw [ih]
        rfl
      · rename_i v e
        rw [e]
        obtain ⟨i, t', e1, e2⟩ := ih
        exact ⟨i + 1, t', by simp [e1], by simpa using e2⟩
  | [], _ :: _, _, H => H.elim
  | _ :: _, [], _, H => H.elim
theorem kIdx_list (es : Array DictEntry) (s : Str) : kIdx es s = es.toList.findIdx? (·.key.isStr s) := by
  obtain ⟨l⟩ := es
  unfold kIdx
  simp
theorem look_none {es : Array DictEntry} {kn : List (Str × Int)} {s : Str} (H : DRep es.toList kn) (e : vlook kn s = none) : (kIdx es s).isSome = false := by
  have := find_some (s := s) H
  rw [e] at this
  rw [kIdx_list, this]
  rfl
theorem look_some {es : Array DictEntry} {kn : List (Str × Int)} {s : Str} {v : Int} (H : DRep es.toList kn) (e : vlook kn s = some v) : (kIdx es s).isSome = true ∧ ∃ t, Option.map (fun x => x.val) (es[(kIdx es s).getD 0]?) = some (.int v t) := by
  have := find_some (s := s) H
  rw [e] at this
  obtain ⟨i, t, e1, e2⟩ := this
  have e3 : kIdx es s = some i := by rw [kIdx_list, e1]
  rw [e3]
  refine ⟨rfl, t, ?_⟩
  simpa using e2
theorem all_exact {es : Array DictEntry} {kn : List (Str × Int)} (H : DRep es.toList kn) : Array.all es (fun e => isExactStrKey e.key) 0 (Array.size es) = true := by
  obtain ⟨l⟩ := es
  have := DRep.exact H
  simpa using this
noncomputable def hitB (mo : Option Str) (dirs : List Str) (p : Str) : Bool :=
  (match mo with | some md => decide (mnOf p = md) || Txt.startswith (mnOf p) (md ++ Str.ofString ".") | none => false) || dirs.any fun d => Txt.startswith p (d ++ Str.ofString "/")
noncomputable def b2v (b : Bool) : Int := match b with | true => 1 | false => 0
noncomputable def hitOf (mo : Option Str) (dirs : List Str) (p : Str) : Int := b2v (hitB mo dirs p)
noncomputable def stepV (mo : Option Str) (dirs : List Str) (kn : List (Str × Int)) (p : Str) : List (Str × Int) × Int := match vlook kn (mnOf p) with
  | some v => (kn, v)
  | none => (kn ++ [(mnOf p, hitOf mo dirs p)], hitOf mo dirs p)
noncomputable def foldV (mo : Option Str) (dirs : List Str) : List (Str × Int) → List (Str × Tok) → List (Str × Tok)
  | _, [] => []
  | kn, p :: ps => (if (stepV mo dirs kn p.1).2 = 0 then [p] else []) ++ foldV mo dirs (stepV mo dirs kn p.1).1 ps
noncomputable def dvals : List (Str × Tok) → List Value := fun l => l.map fun d => .str d.1 d.2
noncomputable def okDir (d : Str) : Prop := (Str.length d == 0) = false ∧ decide (GT.gt (Str.length (d ++ Str.ofString "/")) 16777216) = false
noncomputable def okMod (d : Str) : Prop := (Str.length d == 0) = false ∧ decide (GT.gt (Str.length (d ++ Str.ofString ".")) 16777216) = false
theorem dvals_get (l : List (Str × Tok)) (i : Nat) : getElem? (Array.mk (dvals l)) i = (l[i]?).map fun d => .str d.1 d.2 := by
  simp [dvals]
theorem DRep.size {es : Array DictEntry} {kn : List (Str × Int)} (H : DRep es.toList kn) : es.size = kn.length := by
  rw [← H.len]; rfl
section
variable {w : World} {L : LV} {V : RV} {u5 k : Nat} {es : Array DictEntry} {ks : List Value} {F : KF Fin} {kn : List (Str × Int)}
noncomputable def Nx (w : World) (L : LV) (V : RV) (u5 k : Nat) (ks : List Value) (F : KF Fin) (kn' : List (Str × Int)) (v : Int) : Prop :=
  (v ≠ 0 → ∀ n t es' ep', DRep es'.toList kn' → F (.ok (.again (rdLp w V))) n t (rdPl w L V (rdFr w L V u5 (L.kp + 214) (V.pv k)) (itO (V.ps + 214) (k + 1)) (L.kp + 214) es' ep' ⟨ks⟩ L.kep [])) ∧
  (v = 0 → ∀ n t kp es' ep', DRep es'.toList kn' → F (.ok (.again (rdLp w V))) n t (rdPl w L V (rdFr w L V u5 kp (V.pv k)) (itO (V.ps + 214) (k + 1)) kp es' ep' ((Array.mk ks) ++ #[V.pv k]) 0 [(L.kp + 214, lst ks L.kep)]))
theorem rdAll_h (D : DRep es.toList kn) : rdAll es = true := all_exact D
theorem rdCs_h {tk tv : Tok} {v : Int} (D : DRep es.toList kn) (hn : vlook kn (mnOf (V.p k)) = none) (hs : kn.length ≤ 1000) : (rdCs w V k es tk v tv).all (fun e => e.1 == e.2) = true := by
  have h1 := rdAll_h D
  have h2 := look_none D hn
  have h3 : decide ((rdSet w V k es tk v tv).size > 16777217) = false := by
    apply decide_eq_false
    unfold rdSet
    rw [Array.size_push, D.size]
    omega
  simp only [rdCs, List.all_cons, List.all_nil, h1, h2, h3]
  rfl
theorem rdSet_h {tk tv : Tok} {v : Int} (D : DRep es.toList kn) : DRep (rdSet w V k es tk v tv).toList (kn ++ [(mnOf (V.p k), v)]) := by
  unfold rdSet
  rw [Array.toList_push]
  exact D.push
theorem size_h (hk : ks.length ≤ 1000) : decide (Array.size ((Array.mk ks) ++ #[V.pv k]) > 16777216) = false := by
  apply decide_eq_false
  simp
  omega
theorem rdHit_h {tk N T tv : Nat} (D : DRep es.toList kn) (hn : vlook kn (mnOf (V.p k)) = none) (hs : kn.length ≤ 1000) (H : Nx w L V u5 k ks F (kn ++ [(mnOf (V.p k), 1)]) 1) : (rdHit w L V u5 k es ks F tk N T tv).Holds := by
  refine chain_h (rdCs_h D hn hs) (chain_h rfl ?_)
  exact H.1 (by decide) _ _ _ _ (rdSet_h D)
theorem rdMiss_h {tk N T tv nb : Nat} (D : DRep es.toList kn) (hn : vlook kn (mnOf (V.p k)) = none) (hs : kn.length ≤ 1000) (hk : ks.length ≤ 1000) (H : Nx w L V u5 k ks F (kn ++ [(mnOf (V.p k), 0)]) 0) : (rdMiss w L V u5 k es ks F tk N T tv nb).Holds := by
  refine chain_h (rdCs_h D hn hs) (chain_h ?_ ?_)
  · simp only [List.all_cons, List.all_nil, size_h hk]; rfl
  · exact H.2 rfl _ _ _ _ _ (rdSet_h D)
theorem rdDirs_h {dl : List (Str × Tok)} (hd : V.dirs = dvals dl) (ok : ∀ d ∈ dl, okDir d.1) {tk N T nb tb : Nat} (D : DRep es.toList kn) (hn : vlook kn (mnOf (V.p k)) = none) (hs : kn.length ≤ 1000) (hk : ks.length ≤ 1000) :
    ∀ (n i : Nat), dl.length ≤ i + n → Nx w L V u5 k ks F (kn ++ [(mnOf (V.p k), b2v ((dl.drop i).any fun d => Txt.startswith (V.p k) (d.1 ++ Str.ofString "/")))]) (b2v ((dl.drop i).any fun d => Txt.startswith (V.p k) (d.1 ++ Str.ofString "/"))) → (rdDirs w L V u5 k es ks F tk N T nb tb n i).Holds
  | 0, i, hl, H => by
    have e : dl[i]? = none := by simp; omega
    have e2 : dl.drop i = [] := by simp; omega
    rw [e2] at H
    show (chain [(isStrO (getElem? (Array.mk V.dirs) i), false), ((getElem? (Array.mk V.dirs) i).isSome, false)] (rdMiss w L V u5 k es ks F tk N T (tb + 2 * i) nb)).Holds
    rw [hd, dvals_get, e]
    exact chain_h rfl (rdMiss_h D hn hs hk H)
  | n + 1, i, hl, H => by
    show (VT.dec (isStrO (getElem? (Array.mk V.dirs) i)) (chain [((getElem? (Array.mk V.dirs) i).isSome, false)] (rdMiss w L V u5 k es ks F tk N T (tb + 2 * i) nb))
      (chain [((strO (getElem? (Array.mk V.dirs) i)).length == 0, false), (false, false), (decide (((strO (getElem? (Array.mk V.dirs) i)) ++ Str.ofString "/").length > 16777216), false)]
        (.dec (Txt.startswith (V.p k) ((strO (getElem? (Array.mk V.dirs) i)) ++ Str.ofString "/")) (rdDirs w L V u5 k es ks F tk N T nb tb n (i + 1)) (rdHit w L V u5 k es ks F tk (N + (nb - 4)) T (tb + 2 * (i + 1)))))).Holds
    rw [hd, dvals_get]
    cases e : dl[i]? with
    | none =>
      have e2 : dl.drop i = [] := by
        have := List.getElem?_eq_none_iff.mp e
        simp; omega
      rw [e2] at H
      exact ⟨fun _ => chain_h rfl (rdMiss_h D hn hs hk H), fun q => absurd (show false = true from q) Bool.false_ne_true⟩
    | some d =>
      obtain ⟨hlt, ed⟩ := List.getElem?_eq_some_iff.mp e
      have e2 : dl.drop i = d :: dl.drop (i + 1) := by rw [List.drop_eq_getElem_cons hlt, ed]
      have o := ok d (List.mem_of_getElem? e)
      refine ⟨fun q => absurd (show true = false from q).symm Bool.false_ne_true, fun _ => chain_h ?_ ⟨fun q => ?_, fun q => ?_⟩⟩
      · show ((d.1.length == 0) == false && ((false == false) && (decide ((d.1 ++ Str.ofString "/").length > 16777216) == false && true))) = true
        rw [o.1, show decide ((d.1 ++ Str.ofString "/").length > 16777216) = false from o.2]
        rfl
      · refine rdDirs_h hd ok D hn hs hk n (i + 1) (by omega) ?_
        have q' : Txt.startswith (V.p k) (d.1 ++ Str.ofString "/") = false := q
        rw [e2, List.any_cons, q', Bool.false_or] at H
        exact H
      · have q' : Txt.startswith (V.p k) (d.1 ++ Str.ofString "/") = true := q
        rw [e2, List.any_cons, q', Bool.true_or] at H
        exact rdHit_h D hn hs H
theorem rdMod_h {dl : List (Str × Tok)} (hd : V.dirs = dvals dl) (ok : ∀ d ∈ dl, okDir d.1) (hl : dl.length ≤ 3) (hm : okMod L.md) {c1 c2 : List (Bool × Bool)} (hc1 : (c1.all fun e => e.1 == e.2) = true) (hc2 : (c2.all fun e => e.1 == e.2) = true) {tk N T : Nat} (D : DRep es.toList kn)
    (hn : vlook kn (mnOf (V.p k)) = none) (hs : kn.length ≤ 1000) (hk : ks.length ≤ 1000) (H : Nx w L V u5 k ks F (kn ++ [(mnOf (V.p k), hitOf (some L.md) (dl.map (·.1)) (V.p k))]) (hitOf (some L.md) (dl.map (·.1)) (V.p k))) : (rdMod w L V u5 k es ks F c1 c2 tk N T).Holds := by
  have e : hitOf (some L.md) (dl.map (·.1)) (V.p k) = b2v ((decide (mnOf (V.p k) = L.md) || Txt.startswith (mnOf (V.p k)) (L.md ++ Str.ofString ".")) || dl.any fun d => Txt.startswith (V.p k) (d.1 ++ Str.ofString "/")) := by
    unfold hitOf hitB
    rw [List.any_map]
    rfl
  rw [e] at H
  refine ⟨rfl, ⟨fun q => ?_, fun q => ?_⟩⟩
  · refine chain_h hc1 (chain_h ?_ ⟨fun q2 => chain_h hc2 ?_, fun q2 => ?_⟩)
    · simp only [List.all_cons, List.all_nil, hm.1, show decide ((L.md ++ Str.ofString ".").length > 16777216) = false from hm.2]; rfl
    · refine rdDirs_h hd ok D hn hs hk 3 0 (by omega) ?_
      rw [q, q2, Bool.false_or, Bool.false_or] at H
      exact H
    · rw [q2, Bool.or_true, Bool.true_or] at H
      exact rdHit_h D hn hs H
  · rw [q, Bool.true_or, Bool.true_or] at H
    exact rdHit_h D hn hs H
theorem rdNil_h {dl : List (Str × Tok)} (hd : V.dirs = dvals dl) (ok : ∀ d ∈ dl, okDir d.1) (hl : dl.length ≤ 3) {tk N T : Nat} (D : DRep es.toList kn)
    (hn : vlook kn (mnOf (V.p k)) = none) (hs : kn.length ≤ 1000) (hk : ks.length ≤ 1000) (H : Nx w L V u5 k ks F (kn ++ [(mnOf (V.p k), hitOf none (dl.map (·.1)) (V.p k))]) (hitOf none (dl.map (·.1)) (V.p k))) : (rdDirs w L V u5 k es ks F tk N T 9 9 3 0).Holds := by
  have e : hitOf none (dl.map (·.1)) (V.p k) = b2v (dl.any fun d => Txt.startswith (V.p k) (d.1 ++ Str.ofString "/")) := by
    unfold hitOf hitB
    rw [List.any_map]
    rfl
  rw [e] at H
  exact rdDirs_h hd ok D hn hs hk 3 0 (by omega) H
theorem rdHad_h {N T : Nat} {v : Int} (D : DRep es.toList kn) (hv : vlook kn (mnOf (V.p k)) = some v) (hk : ks.length ≤ 1000) (H : Nx w L V u5 k ks F kn v) : (rdHad w L V u5 k es ks F N T).Holds := by
  obtain ⟨h1, t, h2⟩ := look_some D hv
  have e : rdVal V k es = some (.int v t) := h2
  refine chain_h ?_ ⟨fun q => ?_, fun q => ?_⟩
  · simp only [List.all_cons, List.all_nil, e, rdAll_h D, h1]; rfl
  · rw [e] at q
    have q' : ¬ v = 0 := by simpa [intO] using q
    exact H.1 q' _ _ _ _ D
  · rw [e] at q
    have q' : v = 0 := by simpa [intO] using q
    refine chain_h ?_ ?_
    · simp only [List.all_cons, List.all_nil, size_h hk]; rfl
    · exact H.2 q' _ _ _ _ _ D
theorem rdTurn_h {fr : Obj} {n0 t0 N T : Nat} {un : VT} {p : Str × Tok} {mo : Option Str} {dl : List (Str × Tok)} (hq : V.q k = some (.str p.1 p.2)) (hp : isPth p.1 = true) (D : DRep es.toList kn) (hk : ks.length ≤ 1000)
    (H : Nx w L V u5 k ks F (stepV mo (dl.map (·.1)) kn p.1).1 (stepV mo (dl.map (·.1)) kn p.1).2)
    (hun : vlook kn (mnOf (V.p k)) = none → Nx w L V u5 k ks F (kn ++ [(mnOf (V.p k), hitOf mo (dl.map (·.1)) (V.p k))]) (hitOf mo (dl.map (·.1)) (V.p k)) → un.Holds) : (rdTurn w L V u5 k es ks F fr n0 t0 N T un).Holds := by
  have ep : V.p k = p.1 := by unfold RV.p; rw [hq]; rfl
  refine ⟨fun q => absurd (show true = false from (by rw [hq] at q; exact q)).symm Bool.false_ne_true, fun _ => ⟨by rw [ep]; exact hp, chain_h ?_ ⟨fun q => chain_h rfl ?_, fun q => ?_⟩⟩⟩
  · simp only [List.all_cons, List.all_nil, rdAll_h D]; rfl
  · cases hv : vlook kn (mnOf (V.p k)) with
    | none =>
      refine hun hv ?_
      unfold stepV at H
      rw [← ep, hv] at H
      exact H
    | some v => rw [(look_some D hv).1] at q; cases q
  · cases hv : vlook kn (mnOf (V.p k)) with
    | none => rw [look_none D hv] at q; cases q
    | some v =>
      unfold stepV at H
      rw [← ep, hv] at H
      exact rdHad_h D hv hk H
end
end Mine
-- F2
set_option maxHeartbeats 0
namespace Mine
noncomputable def q_rt1t (W : World) (w : World) (x T : Nat) (L : LV) (V : RV) (u5 : Nat) (el : Value) (k : Nat) (es : Array DictEntry) (ks : List Value) (j : Nat) (F : KF PySem.Fin) (ρ : Stream) : VT := (ex ⟨PR, W.params⟩ (mkZ w [zMN, zSC w L.md L.tm (tbl true j)]) 2200).s PySem.Fin 25 (zden (rdLp w V)) [2, 0, 2, 2, 8, 2, 2, 3, 2] ⟨[V.lo + 214, V.it + 214, V.ps + 214, L.fn + 214, L.co + 214, L.ce + 214, L.ins + 214, L.idt + 214, L.ig + 214, L.ms + 214, L.ds + 214, L.kp + 214], [(rdFr w L V u5 (L.kp + 214) el), itO (V.ps + 214) k, lstA V.items V.ep, lFn w (L.ce + 214) (L.co + 214) L.ct, lCode L.t0 L.t1 L.t2 L.r1 L.r2 L.r3 L.r4 L.r5 L.u L.u', lCell (L.ins + 214), iInst (L.idt + 214), iDict w L.s0 L.s1 L.s2 (L.ms + 214) (L.ds + 214) (L.ig + 214), dObj es L.ep, (sOne w L (tbl true j)), lst V.dirs L.dep, lst ks L.kep], (x + 214), 0, T, 0, (.b [0, 2, 2, 14, 0, 1, 2, 3, 4, 5, 6, 7, 8, 9, 10, 11] .n [2, 2, 1, 1, 1, 1, 1, 4, 1, 4, 5, 13, 13, 13, 13, 0, 6, 7, 0, 0, 0, 7, 0, 0, 0, 7, 0, 0, 0, 0, 7, 8, 13, 0, 13, 0, 3, 0, 1, 0, 1, 0, 0, 14, 14, 14, 14, 14, 14, 0, 14, 14, 7, 0, 0, 0, 0, 7, 0, 0, 0, 7, 7, 0, 8, 9, 9, 0, 9, 2, 0, 0, 0, 9, 1, 2] (.b [0, 14, 14, 7, 0, 0, 0, 0, 7, 0, 0, 0, 7, 7, 0, 8, 10, 10, 3, 1, 9, 2] (.b [14, 7, 0, 0, 0, 0, 7, 0, 0, 0, 7, 7, 0, 8, 10, 10, 0, 10, 0, 10, 10, 10, 15, 0, 15, 0, 15, 2, 3, 15, 10, 10, 10, 15, 15, 15, 15, 14, 14, 14, 14, 0, 2, 5, 0, 0, 0, 0, 2, 4, 2] (.b [0, 15, 0, 15, 2, 3, 15, 10, 10, 10, 15, 15, 17, 0, 14, 14, 7, 0, 0, 0, 0, 7, 0, 0, 0, 7, 7, 0, 8, 11, 11, 0, 11, 0, 18, 0, 18, 0, 18, 2, 8, 18, 18, 11, 2] (.b [0, 18, 18, 20, 0, 14, 7, 0, 0, 0, 0, 7, 0, 0, 0, 7, 7, 0, 8, 14, 9, 9, 0, 9, 2, 2, 9, 0, 0, 9, 1, 0, 9, 9, 9, 0, 0, 2, 6, 1, 13, 13, 12, 21, 12, 0, 12, 2, 7, 21, 12, 21, 0, 1, 1, 0, 1, 2, 3, 4, 5, 6, 7, 8, 9, 10, 11, 21] .n [18, 18, 14, 14, 14, 14, 0, 0, 2, 5, 0, 0, 0, 0, 2, 4, 2] (.b [0, 18, 0, 18, 2, 8, 18, 18, 11, 2] (.b [0, 18, 18, 20, 0, 14, 7, 0, 0, 0, 0, 7, 0, 0, 0, 7, 7, 0, 8, 14, 9, 9, 0, 9, 2, 2, 9, 0, 0, 9, 1, 0, 9, 9, 9, 0, 0, 2, 6, 1, 13, 13, 12, 21, 12, 0, 12, 2, 7, 21, 12, 21, 0, 1, 1, 0, 1, 2, 3, 4, 5, 6, 7, 8, 9, 10, 11, 21] .n [18, 18, 14, 14, 14, 14, 0, 0, 2, 5, 0, 0, 0, 0, 2, 4, 2] (.b [0, 18, 0, 18, 2, 8, 18, 18, 11, 2] (.b [0, 18, 18, 20, 0, 14, 7, 0, 0, 0, 0, 7, 0, 0, 0, 7, 7, 0, 8, 14, 9, 9, 0, 9, 2, 2, 9, 0, 0, 9, 1, 0, 9, 9, 9, 0, 0, 2, 6, 1, 13, 13, 12, 21, 12, 0, 12, 2, 7, 21, 12, 21, 0, 1, 1, 0, 1, 2, 3, 4, 5, 6, 7, 8, 9, 10, 11, 21] .n [18, 18, 14, 14, 14, 14, 0, 0, 2, 5, 0, 0, 0, 0, 2, 4, 2] (.b [0, 18, 0, 18, 2, 8, 18, 18, 11, 0, 0, 18, 18, 20, 0, 14, 7, 0, 0, 0, 0, 7, 0, 0, 0, 7, 7, 0, 8, 14, 9, 9, 0, 9, 2, 2, 9, 0, 0, 9, 1, 0, 9, 9, 9, 0, 0, 2, 6, 1, 13, 13, 12, 21, 12, 0, 12, 2, 7, 21, 12, 21, 0, 1, 1, 0, 1, 2, 3, 4, 5, 6, 7, 8, 9, 10, 11, 21] .n [14, 7, 0, 0, 0, 0, 7, 0, 0, 0, 7, 7, 0, 8, 14, 9, 9, 0, 9, 2, 2, 9, 0, 0, 9, 1, 0, 9, 9, 9, 0, 0, 2, 6, 0, 13, 1, 1, 0, 1, 2, 3, 4, 5, 6, 7, 8, 9, 10, 11] .n)) [14, 7, 0, 0, 0, 0, 7, 0, 0, 0, 7, 7, 0, 8, 14, 9, 9, 0, 9, 2, 2, 9, 0, 0, 9, 1, 0, 9, 9, 9, 0, 0, 2, 6, 0, 13, 1, 1, 0, 1, 2, 3, 4, 5, 6, 7, 8, 9, 10, 11] .n)) [14, 7, 0, 0, 0, 0, 7, 0, 0, 0, 7, 7, 0, 8, 14, 9, 9, 0, 9, 2, 2, 9, 0, 0, 9, 1, 0, 9, 9, 9, 0, 0, 2, 6, 0, 13, 1, 1, 0, 1, 2, 3, 4, 5, 6, 7, 8, 9, 10, 11] .n)) [14, 7, 0, 0, 0, 0, 7, 0, 0, 0, 7, 7, 0, 8, 14, 9, 9, 0, 9, 2, 2, 9, 0, 0, 9, 1, 0, 9, 9, 9, 0, 0, 2, 6, 0, 13, 1, 1, 0, 1, 2, 3, 4, 5, 6, 7, 8, 9, 10, 11] .n) [14, 7, 0, 0, 0, 0, 7, 0, 0, 0, 7, 7, 0, 8, 14, 9, 9, 0, 9, 2, 2, 9, 0, 0, 9, 1, 0, 9, 9, 9, 0, 0, 2, 6, 0, 13, 1, 1, 0, 1, 2, 3, 4, 5, 6, 7, 8, 9, 10, 11] .n) [9, 9, 9, 1, 14, 7, 0, 0, 0, 0, 7, 0, 0, 0, 7, 7, 0, 8, 14, 9, 9, 9, 0, 9, 2, 1, 0, 0, 9, 1, 1, 9, 9, 9, 1, 0, 0, 2, 6, 2] (.b [13, 1, 1, 0, 1, 2, 3, 4, 5, 6, 7, 8, 9, 10, 11] .n [13, 13, 12, 15, 12, 0, 12, 2, 7, 15, 12, 15, 0, 1, 1, 0, 1, 2, 3, 4, 5, 6, 7, 8, 9, 10, 11, 15] .n))), ρ⟩ (leafS F)
noncomputable def v_rt1t (w : World) (x T : Nat) (L : LV) (V : RV) (u5 : Nat) (el : Value) (k : Nat) (es : Array DictEntry) (ks : List Value) (j : Nat) (F : KF PySem.Fin) (ρ : Stream) : VT := rdTurn w L { V with so := (sOne w L (tbl true j)) } u5 k es ks F (rdFr w L {V with so := (sOne w L (tbl true j))} u5 (L.kp + 214) el) ((x + 214) + 2) T ((ρ 1).n + 214) (ρ 2).n (rdMod w L { V with so := (sOne w L (tbl true j)) } u5 k es ks F [] [] ((ρ 0).n) ((ρ 3).n + 214) (ρ 4).n)
theorem e_rt1t (w : World) (x T : Nat) (L : LV) (V : RV) (u5 : Nat) (el : Value) (k : Nat) (es : Array DictEntry) (ks : List Value) (j : Nat) (F : KF PySem.Fin) (ρ : Stream) (b0 : Bool) : EqV (q_rt1t ((w.withFollow "set-order" true).withFollow "special-get-raises" b0) w x T L V u5 el k es ks j F ρ) (v_rt1t w x T L V u5 el k es ks j F ρ) := by unfold EqV; cases b0 <;> kernel_rfl
theorem k_rt1t (w : World) (x T : Nat) (L : LV) (V : RV) (u5 : Nat) (el : Value) (k : Nat) (es : Array DictEntry) (ks : List Value) (j : Nat) (h0 : w.params.followText "set-order" = true) (F : KF PySem.Fin) (ρ : Stream) : EqV (q_rt1t w w x T L V u5 el k es ks j F ρ) (v_rt1t w x T L V u5 el k es ks j F ρ) := by
  have e := e_rt1t w x T L V u5 el k es ks j F ρ
  rw [wf_eq h0] at e
  exact row1 (P := fun W => EqV (q_rt1t W w x T L V u5 el k es ks j F ρ) (v_rt1t w x T L V u5 el k es ks j F ρ)) "special-get-raises" e
noncomputable def q_rt1f (W : World) (w : World) (x T : Nat) (L : LV) (V : RV) (u5 : Nat) (el : Value) (k : Nat) (es : Array DictEntry) (ks : List Value) (j : Nat) (F : KF PySem.Fin) (ρ : Stream) : VT := (ex ⟨PR, W.params⟩ (mkZ w [zMN, zSC w L.md L.tm (tbl false j)]) 2200).s PySem.Fin 25 (zden (rdLp w V)) [2, 0, 2, 2, 8, 2, 2, 3, 2] ⟨[V.lo + 214, V.it + 214, V.ps + 214, L.fn + 214, L.co + 214, L.ce + 214, L.ins + 214, L.idt + 214, L.ig + 214, L.ms + 214, L.ds + 214, L.kp + 214], [(rdFr w L V u5 (L.kp + 214) el), itO (V.ps + 214) k, lstA V.items V.ep, lFn w (L.ce + 214) (L.co + 214) L.ct, lCode L.t0 L.t1 L.t2 L.r1 L.r2 L.r3 L.r4 L.r5 L.u L.u', lCell (L.ins + 214), iInst (L.idt + 214), iDict w L.s0 L.s1 L.s2 (L.ms + 214) (L.ds + 214) (L.ig + 214), dObj es L.ep, (sOne w L (tbl false j)), lst V.dirs L.dep, lst ks L.kep], (x + 214), 0, T, 0, (.b [0, 2, 2, 14, 0, 1, 2, 3, 4, 5, 6, 7, 8, 9, 10, 11] .n [2, 2, 1, 1, 1, 1, 1, 4, 1, 4, 5, 13, 13, 13, 13, 0, 6, 7, 0, 0, 0, 7, 0, 0, 0, 7, 0, 0, 0, 0, 7, 8, 13, 0, 13, 0, 3, 0, 1, 0, 1, 0, 0, 14, 14, 14, 14, 14, 14, 0, 14, 14, 7, 0, 0, 0, 0, 7, 0, 0, 0, 7, 7, 0, 8, 9, 9, 0, 9, 2, 0, 0, 0, 9, 1, 2] (.b [0, 14, 14, 7, 0, 0, 0, 0, 7, 0, 0, 0, 7, 7, 0, 8, 10, 10, 3, 1, 9, 2] (.b [14, 7, 0, 0, 0, 0, 7, 0, 0, 0, 7, 7, 0, 8, 10, 10, 0, 10, 0, 10, 10, 10, 15, 0, 15, 0, 15, 2, 3, 15, 10, 10, 0, 15, 15, 15, 15, 14, 14, 14, 14, 0, 2, 5, 0, 0, 0, 0, 2, 4, 2] (.b [0, 15, 0, 15, 2, 3, 15, 10, 10, 1, 15, 15, 17, 0, 14, 14, 7, 0, 0, 0, 0, 7, 0, 0, 0, 7, 7, 0, 8, 11, 11, 0, 11, 0, 18, 0, 18, 0, 18, 2, 8, 18, 18, 11, 2] (.b [0, 18, 18, 20, 0, 14, 7, 0, 0, 0, 0, 7, 0, 0, 0, 7, 7, 0, 8, 14, 9, 9, 0, 9, 2, 2, 9, 0, 0, 9, 1, 0, 9, 9, 9, 0, 0, 2, 6, 1, 13, 13, 12, 21, 12, 0, 12, 2, 7, 21, 12, 21, 0, 1, 1, 0, 1, 2, 3, 4, 5, 6, 7, 8, 9, 10, 11, 21] .n [18, 18, 14, 14, 14, 14, 0, 0, 2, 5, 0, 0, 0, 0, 2, 4, 2] (.b [0, 18, 0, 18, 2, 8, 18, 18, 11, 2] (.b [0, 18, 18, 20, 0, 14, 7, 0, 0, 0, 0, 7, 0, 0, 0, 7, 7, 0, 8, 14, 9, 9, 0, 9, 2, 2, 9, 0, 0, 9, 1, 0, 9, 9, 9, 0, 0, 2, 6, 1, 13, 13, 12, 21, 12, 0, 12, 2, 7, 21, 12, 21, 0, 1, 1, 0, 1, 2, 3, 4, 5, 6, 7, 8, 9, 10, 11, 21] .n [18, 18, 14, 14, 14, 14, 0, 0, 2, 5, 0, 0, 0, 0, 2, 4, 2] (.b [0, 18, 0, 18, 2, 8, 18, 18, 11, 2] (.b [0, 18, 18, 20, 0, 14, 7, 0, 0, 0, 0, 7, 0, 0, 0, 7, 7, 0, 8, 14, 9, 9, 0, 9, 2, 2, 9, 0, 0, 9, 1, 0, 9, 9, 9, 0, 0, 2, 6, 1, 13, 13, 12, 21, 12, 0, 12, 2, 7, 21, 12, 21, 0, 1, 1, 0, 1, 2, 3, 4, 5, 6, 7, 8, 9, 10, 11, 21] .n [18, 18, 14, 14, 14, 14, 0, 0, 2, 5, 0, 0, 0, 0, 2, 4, 2] (.b [0, 18, 0, 18, 2, 8, 18, 18, 11, 0, 0, 18, 18, 20, 0, 14, 7, 0, 0, 0, 0, 7, 0, 0, 0, 7, 7, 0, 8, 14, 9, 9, 0, 9, 2, 2, 9, 0, 0, 9, 1, 0, 9, 9, 9, 0, 0, 2, 6, 1, 13, 13, 12, 21, 12, 0, 12, 2, 7, 21, 12, 21, 0, 1, 1, 0, 1, 2, 3, 4, 5, 6, 7, 8, 9, 10, 11, 21] .n [14, 7, 0, 0, 0, 0, 7, 0, 0, 0, 7, 7, 0, 8, 14, 9, 9, 0, 9, 2, 2, 9, 0, 0, 9, 1, 0, 9, 9, 9, 0, 0, 2, 6, 0, 13, 1, 1, 0, 1, 2, 3, 4, 5, 6, 7, 8, 9, 10, 11] .n)) [14, 7, 0, 0, 0, 0, 7, 0, 0, 0, 7, 7, 0, 8, 14, 9, 9, 0, 9, 2, 2, 9, 0, 0, 9, 1, 0, 9, 9, 9, 0, 0, 2, 6, 0, 13, 1, 1, 0, 1, 2, 3, 4, 5, 6, 7, 8, 9, 10, 11] .n)) [14, 7, 0, 0, 0, 0, 7, 0, 0, 0, 7, 7, 0, 8, 14, 9, 9, 0, 9, 2, 2, 9, 0, 0, 9, 1, 0, 9, 9, 9, 0, 0, 2, 6, 0, 13, 1, 1, 0, 1, 2, 3, 4, 5, 6, 7, 8, 9, 10, 11] .n)) [14, 7, 0, 0, 0, 0, 7, 0, 0, 0, 7, 7, 0, 8, 14, 9, 9, 0, 9, 2, 2, 9, 0, 0, 9, 1, 0, 9, 9, 9, 0, 0, 2, 6, 0, 13, 1, 1, 0, 1, 2, 3, 4, 5, 6, 7, 8, 9, 10, 11] .n) [14, 7, 0, 0, 0, 0, 7, 0, 0, 0, 7, 7, 0, 8, 14, 9, 9, 0, 9, 2, 2, 9, 0, 0, 9, 1, 0, 9, 9, 9, 0, 0, 2, 6, 0, 13, 1, 1, 0, 1, 2, 3, 4, 5, 6, 7, 8, 9, 10, 11] .n) [9, 9, 9, 1, 14, 7, 0, 0, 0, 0, 7, 0, 0, 0, 7, 7, 0, 8, 14, 9, 9, 9, 0, 9, 2, 1, 0, 0, 9, 1, 1, 9, 9, 9, 1, 0, 0, 2, 6, 2] (.b [13, 1, 1, 0, 1, 2, 3, 4, 5, 6, 7, 8, 9, 10, 11] .n [13, 13, 12, 15, 12, 0, 12, 2, 7, 15, 12, 15, 0, 1, 1, 0, 1, 2, 3, 4, 5, 6, 7, 8, 9, 10, 11, 15] .n))), ρ⟩ (leafS F)
noncomputable def v_rt1f (w : World) (x T : Nat) (L : LV) (V : RV) (u5 : Nat) (el : Value) (k : Nat) (es : Array DictEntry) (ks : List Value) (j : Nat) (F : KF PySem.Fin) (ρ : Stream) : VT := rdTurn w L { V with so := (sOne w L (tbl false j)) } u5 k es ks F (rdFr w L {V with so := (sOne w L (tbl false j))} u5 (L.kp + 214) el) ((x + 214) + 2) T ((ρ 1).n + 214) (ρ 2).n (rdMod w L { V with so := (sOne w L (tbl false j)) } u5 k es ks F [(false, false)] [(decide (j < Int.toNat (Nat.cast (j + 1))), true)] ((ρ 0).n) ((ρ 3).n + 214) (ρ 4).n)
theorem e_rt1f (w : World) (x T : Nat) (L : LV) (V : RV) (u5 : Nat) (el : Value) (k : Nat) (es : Array DictEntry) (ks : List Value) (j : Nat) (F : KF PySem.Fin) (ρ : Stream) (b0 : Bool) : EqV (q_rt1f ((w.withFollow "set-order" false).withFollow "special-get-raises" b0) w x T L V u5 el k es ks j F ρ) (v_rt1f w x T L V u5 el k es ks j F ρ) := by unfold EqV; cases b0 <;> kernel_rfl
theorem k_rt1f (w : World) (x T : Nat) (L : LV) (V : RV) (u5 : Nat) (el : Value) (k : Nat) (es : Array DictEntry) (ks : List Value) (j : Nat) (h0 : w.params.followText "set-order" = false) (F : KF PySem.Fin) (ρ : Stream) : EqV (q_rt1f w w x T L V u5 el k es ks j F ρ) (v_rt1f w x T L V u5 el k es ks j F ρ) := by
  have e := e_rt1f w x T L V u5 el k es ks j F ρ
  rw [wf_eq h0] at e
  exact row1 (P := fun W => EqV (q_rt1f W w x T L V u5 el k es ks j F ρ) (v_rt1f w x T L V u5 el k es ks j F ρ)) "special-get-raises" e
noncomputable def q_rt0t (W : World) (w : World) (x T : Nat) (L : LV) (V : RV) (k : Nat) (es : Array DictEntry) (ks : List Value) (j : Nat) (F : KF PySem.Fin) (ρ : Stream) : VT := (ex ⟨PR, W.params⟩ (mkZ w [zMN, zSC w L.md L.tm (tbl true j)]) 2200).s PySem.Fin 25 (zden (rdLp w V)) [2, 0, 2, 2, 8, 2, 2, 3, 2] ⟨[V.lo + 214, V.it + 214, V.ps + 214, L.fn + 214, L.co + 214, L.ce + 214, L.ins + 214, L.idt + 214, L.ig + 214, L.ms + 214, L.ds + 214, L.kp + 214], [(rdF5 w L V (L.kp + 214)), itO (V.ps + 214) k, lstA V.items V.ep, lFn w (L.ce + 214) (L.co + 214) L.ct, lCode L.t0 L.t1 L.t2 L.r1 L.r2 L.r3 L.r4 L.r5 L.u L.u', lCell (L.ins + 214), iInst (L.idt + 214), iDict w L.s0 L.s1 L.s2 (L.ms + 214) (L.ds + 214) (L.ig + 214), dObj es L.ep, (sOne w L (tbl true j)), lst V.dirs L.dep, lst ks L.kep], (x + 214), 0, T, 0, (.b [0, 2, 2, 14, 0, 1, 2, 3, 4, 5, 6, 7, 8, 9, 10, 11] .n [2, 2, 1, 1, 1, 1, 1, 4, 1, 4, 5, 13, 13, 13, 13, 0, 6, 7, 0, 0, 0, 7, 0, 0, 0, 7, 0, 0, 0, 0, 7, 8, 13, 0, 13, 0, 3, 0, 1, 0, 1, 0, 0, 14, 14, 14, 14, 14, 14, 0, 14, 14, 7, 0, 0, 0, 0, 7, 0, 0, 0, 7, 7, 0, 8, 9, 9, 0, 9, 2, 0, 0, 0, 9, 1, 2] (.b [0, 14, 14, 7, 0, 0, 0, 0, 7, 0, 0, 0, 7, 7, 0, 8, 10, 10, 3, 1, 9, 2] (.b [14, 7, 0, 0, 0, 0, 7, 0, 0, 0, 7, 7, 0, 8, 10, 10, 0, 10, 0, 10, 10, 10, 15, 0, 15, 0, 15, 2, 3, 15, 10, 10, 10, 15, 15, 15, 15, 14, 14, 14, 14, 0, 2, 5, 0, 0, 0, 0, 2, 4, 2] (.b [0, 15, 0, 15, 2, 3, 15, 10, 10, 10, 15, 15, 17, 0, 14, 14, 7, 0, 0, 0, 0, 7, 0, 0, 0, 7, 7, 0, 8, 11, 11, 0, 11, 0, 18, 0, 18, 0, 18, 2, 8, 18, 18, 11, 2] (.b [0, 18, 18, 20, 0, 14, 7, 0, 0, 0, 0, 7, 0, 0, 0, 7, 7, 0, 8, 14, 9, 9, 0, 9, 2, 2, 9, 0, 0, 9, 1, 0, 9, 9, 9, 0, 0, 2, 6, 1, 13, 13, 12, 21, 12, 0, 12, 2, 7, 21, 12, 21, 0, 1, 1, 0, 1, 2, 3, 4, 5, 6, 7, 8, 9, 10, 11, 21] .n [18, 18, 14, 14, 14, 14, 0, 0, 2, 5, 0, 0, 0, 0, 2, 4, 2] (.b [0, 18, 0, 18, 2, 8, 18, 18, 11, 2] (.b [0, 18, 18, 20, 0, 14, 7, 0, 0, 0, 0, 7, 0, 0, 0, 7, 7, 0, 8, 14, 9, 9, 0, 9, 2, 2, 9, 0, 0, 9, 1, 0, 9, 9, 9, 0, 0, 2, 6, 1, 13, 13, 12, 21, 12, 0, 12, 2, 7, 21, 12, 21, 0, 1, 1, 0, 1, 2, 3, 4, 5, 6, 7, 8, 9, 10, 11, 21] .n [18, 18, 14, 14, 14, 14, 0, 0, 2, 5, 0, 0, 0, 0, 2, 4, 2] (.b [0, 18, 0, 18, 2, 8, 18, 18, 11, 2] (.b [0, 18, 18, 20, 0, 14, 7, 0, 0, 0, 0, 7, 0, 0, 0, 7, 7, 0, 8, 14, 9, 9, 0, 9, 2, 2, 9, 0, 0, 9, 1, 0, 9, 9, 9, 0, 0, 2, 6, 1, 13, 13, 12, 21, 12, 0, 12, 2, 7, 21, 12, 21, 0, 1, 1, 0, 1, 2, 3, 4, 5, 6, 7, 8, 9, 10, 11, 21] .n [18, 18, 14, 14, 14, 14, 0, 0, 2, 5, 0, 0, 0, 0, 2, 4, 2] (.b [0, 18, 0, 18, 2, 8, 18, 18, 11, 0, 0, 18, 18, 20, 0, 14, 7, 0, 0, 0, 0, 7, 0, 0, 0, 7, 7, 0, 8, 14, 9, 9, 0, 9, 2, 2, 9, 0, 0, 9, 1, 0, 9, 9, 9, 0, 0, 2, 6, 1, 13, 13, 12, 21, 12, 0, 12, 2, 7, 21, 12, 21, 0, 1, 1, 0, 1, 2, 3, 4, 5, 6, 7, 8, 9, 10, 11, 21] .n [14, 7, 0, 0, 0, 0, 7, 0, 0, 0, 7, 7, 0, 8, 14, 9, 9, 0, 9, 2, 2, 9, 0, 0, 9, 1, 0, 9, 9, 9, 0, 0, 2, 6, 0, 13, 1, 1, 0, 1, 2, 3, 4, 5, 6, 7, 8, 9, 10, 11] .n)) [14, 7, 0, 0, 0, 0, 7, 0, 0, 0, 7, 7, 0, 8, 14, 9, 9, 0, 9, 2, 2, 9, 0, 0, 9, 1, 0, 9, 9, 9, 0, 0, 2, 6, 0, 13, 1, 1, 0, 1, 2, 3, 4, 5, 6, 7, 8, 9, 10, 11] .n)) [14, 7, 0, 0, 0, 0, 7, 0, 0, 0, 7, 7, 0, 8, 14, 9, 9, 0, 9, 2, 2, 9, 0, 0, 9, 1, 0, 9, 9, 9, 0, 0, 2, 6, 0, 13, 1, 1, 0, 1, 2, 3, 4, 5, 6, 7, 8, 9, 10, 11] .n)) [14, 7, 0, 0, 0, 0, 7, 0, 0, 0, 7, 7, 0, 8, 14, 9, 9, 0, 9, 2, 2, 9, 0, 0, 9, 1, 0, 9, 9, 9, 0, 0, 2, 6, 0, 13, 1, 1, 0, 1, 2, 3, 4, 5, 6, 7, 8, 9, 10, 11] .n) [14, 7, 0, 0, 0, 0, 7, 0, 0, 0, 7, 7, 0, 8, 14, 9, 9, 0, 9, 2, 2, 9, 0, 0, 9, 1, 0, 9, 9, 9, 0, 0, 2, 6, 0, 13, 1, 1, 0, 1, 2, 3, 4, 5, 6, 7, 8, 9, 10, 11] .n) [9, 9, 9, 1, 14, 7, 0, 0, 0, 0, 7, 0, 0, 0, 7, 7, 0, 8, 14, 9, 9, 9, 0, 9, 2, 1, 0, 0, 9, 1, 1, 9, 9, 9, 1, 0, 0, 2, 6, 2] (.b [13, 1, 1, 0, 1, 2, 3, 4, 5, 6, 7, 8, 9, 10, 11] .n [13, 13, 12, 15, 12, 0, 12, 2, 7, 15, 12, 15, 0, 1, 1, 0, 1, 2, 3, 4, 5, 6, 7, 8, 9, 10, 11, 15] .n))), ρ⟩ (leafS F)
noncomputable def v_rt0t (w : World) (x T : Nat) (L : LV) (V : RV) (k : Nat) (es : Array DictEntry) (ks : List Value) (j : Nat) (F : KF PySem.Fin) (ρ : Stream) : VT := rdTurn w L { V with so := (sOne w L (tbl true j)) } T k es ks F (rdF5 w L {V with so := (sOne w L (tbl true j))} (L.kp + 214)) ((x + 214) + 2) T ((ρ 1).n + 214) (ρ 2).n (rdMod w L { V with so := (sOne w L (tbl true j)) } T k es ks F [] [] ((ρ 0).n) ((ρ 3).n + 214) (ρ 4).n)
theorem e_rt0t (w : World) (x T : Nat) (L : LV) (V : RV) (k : Nat) (es : Array DictEntry) (ks : List Value) (j : Nat) (F : KF PySem.Fin) (ρ : Stream) (b0 : Bool) : EqV (q_rt0t ((w.withFollow "set-order" true).withFollow "special-get-raises" b0) w x T L V k es ks j F ρ) (v_rt0t w x T L V k es ks j F ρ) := by unfold EqV; cases b0 <;> kernel_rfl
theorem k_rt0t (w : World) (x T : Nat) (L : LV) (V : RV) (k : Nat) (es : Array DictEntry) (ks : List Value) (j : Nat) (h0 : w.params.followText "set-order" = true) (F : KF PySem.Fin) (ρ : Stream) : EqV (q_rt0t w w x T L V k es ks j F ρ) (v_rt0t w x T L V k es ks j F ρ) := by
  have e := e_rt0t w x T L V k es ks j F ρ
  rw [wf_eq h0] at e
  exact row1 (P := fun W => EqV (q_rt0t W w x T L V k es ks j F ρ) (v_rt0t w x T L V k es ks j F ρ)) "special-get-raises" e
noncomputable def q_rt0f (W : World) (w : World) (x T : Nat) (L : LV) (V : RV) (k : Nat) (es : Array DictEntry) (ks : List Value) (j : Nat) (F : KF PySem.Fin) (ρ : Stream) : VT := (ex ⟨PR, W.params⟩ (mkZ w [zMN, zSC w L.md L.tm (tbl false j)]) 2200).s PySem.Fin 25 (zden (rdLp w V)) [2, 0, 2, 2, 8, 2, 2, 3, 2] ⟨[V.lo + 214, V.it + 214, V.ps + 214, L.fn + 214, L.co + 214, L.ce + 214, L.ins + 214, L.idt + 214, L.ig + 214, L.ms + 214, L.ds + 214, L.kp + 214], [(rdF5 w L V (L.kp + 214)), itO (V.ps + 214) k, lstA V.items V.ep, lFn w (L.ce + 214) (L.co + 214) L.ct, lCode L.t0 L.t1 L.t2 L.r1 L.r2 L.r3 L.r4 L.r5 L.u L.u', lCell (L.ins + 214), iInst (L.idt + 214), iDict w L.s0 L.s1 L.s2 (L.ms + 214) (L.ds + 214) (L.ig + 214), dObj es L.ep, (sOne w L (tbl false j)), lst V.dirs L.dep, lst ks L.kep], (x + 214), 0, T, 0, (.b [0, 2, 2, 14, 0, 1, 2, 3, 4, 5, 6, 7, 8, 9, 10, 11] .n [2, 2, 1, 1, 1, 1, 1, 4, 1, 4, 5, 13, 13, 13, 13, 0, 6, 7, 0, 0, 0, 7, 0, 0, 0, 7, 0, 0, 0, 0, 7, 8, 13, 0, 13, 0, 3, 0, 1, 0, 1, 0, 0, 14, 14, 14, 14, 14, 14, 0, 14, 14, 7, 0, 0, 0, 0, 7, 0, 0, 0, 7, 7, 0, 8, 9, 9, 0, 9, 2, 0, 0, 0, 9, 1, 2] (.b [0, 14, 14, 7, 0, 0, 0, 0, 7, 0, 0, 0, 7, 7, 0, 8, 10, 10, 3, 1, 9, 2] (.b [14, 7, 0, 0, 0, 0, 7, 0, 0, 0, 7, 7, 0, 8, 10, 10, 0, 10, 0, 10, 10, 10, 15, 0, 15, 0, 15, 2, 3, 15, 10, 10, 0, 15, 15, 15, 15, 14, 14, 14, 14, 0, 2, 5, 0, 0, 0, 0, 2, 4, 2] (.b [0, 15, 0, 15, 2, 3, 15, 10, 10, 1, 15, 15, 17, 0, 14, 14, 7, 0, 0, 0, 0, 7, 0, 0, 0, 7, 7, 0, 8, 11, 11, 0, 11, 0, 18, 0, 18, 0, 18, 2, 8, 18, 18, 11, 2] (.b [0, 18, 18, 20, 0, 14, 7, 0, 0, 0, 0, 7, 0, 0, 0, 7, 7, 0, 8, 14, 9, 9, 0, 9, 2, 2, 9, 0, 0, 9, 1, 0, 9, 9, 9, 0, 0, 2, 6, 1, 13, 13, 12, 21, 12, 0, 12, 2, 7, 21, 12, 21, 0, 1, 1, 0, 1, 2, 3, 4, 5, 6, 7, 8, 9, 10, 11, 21] .n [18, 18, 14, 14, 14, 14, 0, 0, 2, 5, 0, 0, 0, 0, 2, 4, 2] (.b [0, 18, 0, 18, 2, 8, 18, 18, 11, 2] (.b [0, 18, 18, 20, 0, 14, 7, 0, 0, 0, 0, 7, 0, 0, 0, 7, 7, 0, 8, 14, 9, 9, 0, 9, 2, 2, 9, 0, 0, 9, 1, 0, 9, 9, 9, 0, 0, 2, 6, 1, 13, 13, 12, 21, 12, 0, 12, 2, 7, 21, 12, 21, 0, 1, 1, 0, 1, 2, 3, 4, 5, 6, 7, 8, 9, 10, 11, 21] .n [18, 18, 14, 14, 14, 14, 0, 0, 2, 5, 0, 0, 0, 0, 2, 4, 2] (.b [0, 18, 0, 18, 2, 8, 18, 18, 11, 2] (.b [0, 18, 18, 20, 0, 14, 7, 0, 0, 0, 0, 7, 0, 0, 0, 7, 7, 0, 8, 14, 9, 9, 0, 9, 2, 2, 9, 0, 0, 9, 1, 0, 9, 9, 9, 0, 0, 2, 6, 1, 13, 13, 12, 21, 12, 0, 12, 2, 7, 21, 12, 21, 0, 1, 1, 0, 1, 2, 3, 4, 5, 6, 7, 8, 9, 10, 11, 21] .n [18, 18, 14, 14, 14, 14, 0, 0, 2, 5, 0, 0, 0, 0, 2, 4, 2] (.b [0, 18, 0, 18, 2, 8, 18, 18, 11, 0, 0, 18, 18, 20, 0, 14, 7, 0, 0, 0, 0, 7, 0, 0, 0, 7, 7, 0, 8, 14, 9, 9, 0, 9, 2, 2, 9, 0, 0, 9, 1, 0, 9, 9, 9, 0, 0, 2, 6, 1, 13, 13, 12, 21, 12, 0, 12, 2, 7, 21, 12, 21, 0, 1, 1, 0, 1, 2, 3, 4, 5, 6, 7, 8, 9, 10, 11, 21] .n [14, 7, 0, 0, 0, 0, 7, 0, 0, 0, 7, 7, 0, 8, 14, 9, 9, 0, 9, 2, 2, 9, 0, 0, 9, 1, 0, 9, 9, 9, 0, 0, 2, 6, 0, 13, 1, 1, 0, 1, 2, 3, 4, 5, 6, 7, 8, 9, 10, 11] .n)) [14, 7, 0, 0, 0, 0, 7, 0, 0, 0, 7, 7, 0, 8, 14, 9, 9, 0, 9, 2, 2, 9, 0, 0, 9, 1, 0, 9, 9, 9, 0, 0, 2, 6, 0, 13, 1, 1, 0, 1, 2, 3, 4, 5, 6, 7, 8, 9, 10, 11] .n)) [14, 7, 0, 0, 0, 0, 7, 0, 0, 0, 7, 7, 0, 8, 14, 9, 9, 0, 9, 2, 2, 9, 0, 0, 9, 1, 0, 9, 9, 9, 0, 0, 2, 6, 0, 13, 1, 1, 0, 1, 2, 3, 4, 5, 6, 7, 8, 9, 10, 11] .n)) [14, 7, 0, 0, 0, 0, 7, 0, 0, 0, 7, 7, 0, 8, 14, 9, 9, 0, 9, 2, 2, 9, 0, 0, 9, 1, 0, 9, 9, 9, 0, 0, 2, 6, 0, 13, 1, 1, 0, 1, 2, 3, 4, 5, 6, 7, 8, 9, 10, 11] .n) [14, 7, 0, 0, 0, 0, 7, 0, 0, 0, 7, 7, 0, 8, 14, 9, 9, 0, 9, 2, 2, 9, 0, 0, 9, 1, 0, 9, 9, 9, 0, 0, 2, 6, 0, 13, 1, 1, 0, 1, 2, 3, 4, 5, 6, 7, 8, 9, 10, 11] .n) [9, 9, 9, 1, 14, 7, 0, 0, 0, 0, 7, 0, 0, 0, 7, 7, 0, 8, 14, 9, 9, 9, 0, 9, 2, 1, 0, 0, 9, 1, 1, 9, 9, 9, 1, 0, 0, 2, 6, 2] (.b [13, 1, 1, 0, 1, 2, 3, 4, 5, 6, 7, 8, 9, 10, 11] .n [13, 13, 12, 15, 12, 0, 12, 2, 7, 15, 12, 15, 0, 1, 1, 0, 1, 2, 3, 4, 5, 6, 7, 8, 9, 10, 11, 15] .n))), ρ⟩ (leafS F)
noncomputable def v_rt0f (w : World) (x T : Nat) (L : LV) (V : RV) (k : Nat) (es : Array DictEntry) (ks : List Value) (j : Nat) (F : KF PySem.Fin) (ρ : Stream) : VT := rdTurn w L { V with so := (sOne w L (tbl false j)) } T k es ks F (rdF5 w L {V with so := (sOne w L (tbl false j))} (L.kp + 214)) ((x + 214) + 2) T ((ρ 1).n + 214) (ρ 2).n (rdMod w L { V with so := (sOne w L (tbl false j)) } T k es ks F [(false, false)] [(decide (j < Int.toNat (Nat.cast (j + 1))), true)] ((ρ 0).n) ((ρ 3).n + 214) (ρ 4).n)
theorem e_rt0f (w : World) (x T : Nat) (L : LV) (V : RV) (k : Nat) (es : Array DictEntry) (ks : List Value) (j : Nat) (F : KF PySem.Fin) (ρ : Stream) (b0 : Bool) : EqV (q_rt0f ((w.withFollow "set-order" false).withFollow "special-get-raises" b0) w x T L V k es ks j F ρ) (v_rt0f w x T L V k es ks j F ρ) := by unfold EqV; cases b0 <;> kernel_rfl
theorem k_rt0f (w : World) (x T : Nat) (L : LV) (V : RV) (k : Nat) (es : Array DictEntry) (ks : List Value) (j : Nat) (h0 : w.params.followText "set-order" = false) (F : KF PySem.Fin) (ρ : Stream) : EqV (q_rt0f w w x T L V k es ks j F ρ) (v_rt0f w x T L V k es ks j F ρ) := by
  have e := e_rt0f w x T L V k es ks j F ρ
  rw [wf_eq h0] at e
  exact row1 (P := fun W => EqV (q_rt0f W w x T L V k es ks j F ρ) (v_rt0f w x T L V k es ks j F ρ)) "special-get-raises" e
noncomputable def q_rn1t (W : World) (w : World) (x T : Nat) (L : LV) (V : RV) (u5 : Nat) (el : Value) (k : Nat) (es : Array DictEntry) (ks : List Value) (F : KF PySem.Fin) (ρ : Stream) : VT := (ex ⟨PR, W.params⟩ (mkZ w [zMN]) 2200).s PySem.Fin 25 (zden (rdLp w V)) [2, 0, 2, 2, 8, 2, 2, 3, 2] ⟨[V.lo + 214, V.it + 214, V.ps + 214, L.fn + 214, L.co + 214, L.ce + 214, L.ins + 214, L.idt + 214, L.ig + 214, L.ms + 214, L.ds + 214, L.kp + 214], [(rdFr w L V u5 (L.kp + 214) el), itO (V.ps + 214) k, lstA V.items V.ep, lFn w (L.ce + 214) (L.co + 214) L.ct, lCode L.t0 L.t1 L.t2 L.r1 L.r2 L.r3 L.r4 L.r5 L.u L.u', lCell (L.ins + 214), iInst (L.idt + 214), iDict w L.s0 L.s1 L.s2 (L.ms + 214) (L.ds + 214) (L.ig + 214), dObj es L.ep, (sNil true), lst V.dirs L.dep, lst ks L.kep], (x + 214), 0, T, 0, (.b [0, 2, 2, 14, 0, 1, 2, 3, 4, 5, 6, 7, 8, 9, 10, 11] .n [2, 2, 1, 1, 1, 1, 1, 4, 1, 4, 5, 13, 13, 13, 13, 0, 6, 7, 0, 0, 0, 7, 0, 0, 0, 7, 0, 0, 0, 0, 7, 8, 13, 0, 13, 0, 3, 0, 1, 0, 1, 0, 0, 14, 14, 14, 14, 14, 14, 0, 14, 14, 7, 0, 0, 0, 0, 7, 0, 0, 0, 7, 7, 0, 8, 9, 9, 0, 9, 2, 0, 0, 0, 9, 1, 2] (.b [0, 14, 14, 7, 0, 0, 0, 0, 7, 0, 0, 0, 7, 7, 0, 8, 10, 10, 0, 10, 0, 0, 0, 10, 14, 7, 0, 0, 0, 0, 7, 0, 0, 0, 7, 7, 0, 8, 10, 10, 0, 10, 0, 10, 10, 10, 15, 0, 15, 0, 15, 0, 15, 10, 10, 10, 15, 15, 17, 0, 14, 14, 7, 0, 0, 0, 0, 7, 0, 0, 0, 7, 7, 0, 8, 11, 11, 0, 11, 0, 18, 0, 18, 0, 18, 2, 8, 18, 18, 11, 2] (.b [0, 18, 18, 20, 0, 14, 7, 0, 0, 0, 0, 7, 0, 0, 0, 7, 7, 0, 8, 14, 9, 9, 0, 9, 2, 2, 9, 0, 0, 9, 1, 0, 9, 9, 9, 0, 0, 2, 6, 1, 13, 13, 12, 21, 12, 0, 12, 2, 7, 21, 12, 21, 0, 1, 1, 0, 1, 2, 3, 4, 5, 6, 7, 8, 9, 10, 11, 21] .n [18, 18, 14, 14, 14, 14, 0, 0, 2, 5, 0, 0, 0, 0, 2, 4, 2] (.b [0, 18, 0, 18, 2, 8, 18, 18, 11, 2] (.b [0, 18, 18, 20, 0, 14, 7, 0, 0, 0, 0, 7, 0, 0, 0, 7, 7, 0, 8, 14, 9, 9, 0, 9, 2, 2, 9, 0, 0, 9, 1, 0, 9, 9, 9, 0, 0, 2, 6, 1, 13, 13, 12, 21, 12, 0, 12, 2, 7, 21, 12, 21, 0, 1, 1, 0, 1, 2, 3, 4, 5, 6, 7, 8, 9, 10, 11, 21] .n [18, 18, 14, 14, 14, 14, 0, 0, 2, 5, 0, 0, 0, 0, 2, 4, 2] (.b [0, 18, 0, 18, 2, 8, 18, 18, 11, 2] (.b [0, 18, 18, 20, 0, 14, 7, 0, 0, 0, 0, 7, 0, 0, 0, 7, 7, 0, 8, 14, 9, 9, 0, 9, 2, 2, 9, 0, 0, 9, 1, 0, 9, 9, 9, 0, 0, 2, 6, 1, 13, 13, 12, 21, 12, 0, 12, 2, 7, 21, 12, 21, 0, 1, 1, 0, 1, 2, 3, 4, 5, 6, 7, 8, 9, 10, 11, 21] .n [18, 18, 14, 14, 14, 14, 0, 0, 2, 5, 0, 0, 0, 0, 2, 4, 2] (.b [0, 18, 0, 18, 2, 8, 18, 18, 11, 0, 0, 18, 18, 20, 0, 14, 7, 0, 0, 0, 0, 7, 0, 0, 0, 7, 7, 0, 8, 14, 9, 9, 0, 9, 2, 2, 9, 0, 0, 9, 1, 0, 9, 9, 9, 0, 0, 2, 6, 1, 13, 13, 12, 21, 12, 0, 12, 2, 7, 21, 12, 21, 0, 1, 1, 0, 1, 2, 3, 4, 5, 6, 7, 8, 9, 10, 11, 21] .n [14, 7, 0, 0, 0, 0, 7, 0, 0, 0, 7, 7, 0, 8, 14, 9, 9, 0, 9, 2, 2, 9, 0, 0, 9, 1, 0, 9, 9, 9, 0, 0, 2, 6, 0, 13, 1, 1, 0, 1, 2, 3, 4, 5, 6, 7, 8, 9, 10, 11] .n)) [14, 7, 0, 0, 0, 0, 7, 0, 0, 0, 7, 7, 0, 8, 14, 9, 9, 0, 9, 2, 2, 9, 0, 0, 9, 1, 0, 9, 9, 9, 0, 0, 2, 6, 0, 13, 1, 1, 0, 1, 2, 3, 4, 5, 6, 7, 8, 9, 10, 11] .n)) [14, 7, 0, 0, 0, 0, 7, 0, 0, 0, 7, 7, 0, 8, 14, 9, 9, 0, 9, 2, 2, 9, 0, 0, 9, 1, 0, 9, 9, 9, 0, 0, 2, 6, 0, 13, 1, 1, 0, 1, 2, 3, 4, 5, 6, 7, 8, 9, 10, 11] .n)) [9, 9, 9, 1, 14, 7, 0, 0, 0, 0, 7, 0, 0, 0, 7, 7, 0, 8, 14, 9, 9, 9, 0, 9, 2, 1, 0, 0, 9, 1, 1, 9, 9, 9, 1, 0, 0, 2, 6, 2] (.b [13, 1, 1, 0, 1, 2, 3, 4, 5, 6, 7, 8, 9, 10, 11] .n [13, 13, 12, 15, 12, 0, 12, 2, 7, 15, 12, 15, 0, 1, 1, 0, 1, 2, 3, 4, 5, 6, 7, 8, 9, 10, 11, 15] .n))), ρ⟩ (leafS F)
noncomputable def v_rn1t (w : World) (x T : Nat) (L : LV) (V : RV) (u5 : Nat) (el : Value) (k : Nat) (es : Array DictEntry) (ks : List Value) (F : KF PySem.Fin) (ρ : Stream) : VT := rdTurn w L { V with so := (sNil true) } u5 k es ks F (rdFr w L {V with so := (sNil true)} u5 (L.kp + 214) el) ((x + 214) + 2) T ((ρ 1).n + 214) (ρ 2).n (rdDirs w L { V with so := (sNil true) } u5 k es ks F ((ρ 0).n) ((ρ 1).n + 214) (ρ 2).n 9 9 3 0)
theorem e_rn1t (w : World) (x T : Nat) (L : LV) (V : RV) (u5 : Nat) (el : Value) (k : Nat) (es : Array DictEntry) (ks : List Value) (F : KF PySem.Fin) (ρ : Stream) (b0 : Bool) : EqV (q_rn1t ((w.withFollow "set-order" true).withFollow "special-get-raises" b0) w x T L V u5 el k es ks F ρ) (v_rn1t w x T L V u5 el k es ks F ρ) := by unfold EqV; cases b0 <;> kernel_rfl
theorem k_rn1t (w : World) (x T : Nat) (L : LV) (V : RV) (u5 : Nat) (el : Value) (k : Nat) (es : Array DictEntry) (ks : List Value) (h0 : w.params.followText "set-order" = true) (F : KF PySem.Fin) (ρ : Stream) : EqV (q_rn1t w w x T L V u5 el k es ks F ρ) (v_rn1t w x T L V u5 el k es ks F ρ) := by
  have e := e_rn1t w x T L V u5 el k es ks F ρ
  rw [wf_eq h0] at e
  exact row1 (P := fun W => EqV (q_rn1t W w x T L V u5 el k es ks F ρ) (v_rn1t w x T L V u5 el k es ks F ρ)) "special-get-raises" e
noncomputable def q_rn0t (W : World) (w : World) (x T : Nat) (L : LV) (V : RV) (k : Nat) (es : Array DictEntry) (ks : List Value) (F : KF PySem.Fin) (ρ : Stream) : VT := (ex ⟨PR, W.params⟩ (mkZ w [zMN]) 2200).s PySem.Fin 25 (zden (rdLp w V)) [2, 0, 2, 2, 8, 2, 2, 3, 2] ⟨[V.lo + 214, V.it + 214, V.ps + 214, L.fn + 214, L.co + 214, L.ce + 214, L.ins + 214, L.idt + 214, L.ig + 214, L.ms + 214, L.ds + 214, L.kp + 214], [(rdF5 w L V (L.kp + 214)), itO (V.ps + 214) k, lstA V.items V.ep, lFn w (L.ce + 214) (L.co + 214) L.ct, lCode L.t0 L.t1 L.t2 L.r1 L.r2 L.r3 L.r4 L.r5 L.u L.u', lCell (L.ins + 214), iInst (L.idt + 214), iDict w L.s0 L.s1 L.s2 (L.ms + 214) (L.ds + 214) (L.ig + 214), dObj es L.ep, (sNil true), lst V.dirs L.dep, lst ks L.kep], (x + 214), 0, T, 0, (.b [0, 2, 2, 14, 0, 1, 2, 3, 4, 5, 6, 7, 8, 9, 10, 11] .n [2, 2, 1, 1, 1, 1, 1, 4, 1, 4, 5, 13, 13, 13, 13, 0, 6, 7, 0, 0, 0, 7, 0, 0, 0, 7, 0, 0, 0, 0, 7, 8, 13, 0, 13, 0, 3, 0, 1, 0, 1, 0, 0, 14, 14, 14, 14, 14, 14, 0, 14, 14, 7, 0, 0, 0, 0, 7, 0, 0, 0, 7, 7, 0, 8, 9, 9, 0, 9, 2, 0, 0, 0, 9, 1, 2] (.b [0, 14, 14, 7, 0, 0, 0, 0, 7, 0, 0, 0, 7, 7, 0, 8, 10, 10, 0, 10, 0, 0, 0, 10, 14, 7, 0, 0, 0, 0, 7, 0, 0, 0, 7, 7, 0, 8, 10, 10, 0, 10, 0, 10, 10, 10, 15, 0, 15, 0, 15, 0, 15, 10, 10, 10, 15, 15, 17, 0, 14, 14, 7, 0, 0, 0, 0, 7, 0, 0, 0, 7, 7, 0, 8, 11, 11, 0, 11, 0, 18, 0, 18, 0, 18, 2, 8, 18, 18, 11, 2] (.b [0, 18, 18, 20, 0, 14, 7, 0, 0, 0, 0, 7, 0, 0, 0, 7, 7, 0, 8, 14, 9, 9, 0, 9, 2, 2, 9, 0, 0, 9, 1, 0, 9, 9, 9, 0, 0, 2, 6, 1, 13, 13, 12, 21, 12, 0, 12, 2, 7, 21, 12, 21, 0, 1, 1, 0, 1, 2, 3, 4, 5, 6, 7, 8, 9, 10, 11, 21] .n [18, 18, 14, 14, 14, 14, 0, 0, 2, 5, 0, 0, 0, 0, 2, 4, 2] (.b [0, 18, 0, 18, 2, 8, 18, 18, 11, 2] (.b [0, 18, 18, 20, 0, 14, 7, 0, 0, 0, 0, 7, 0, 0, 0, 7, 7, 0, 8, 14, 9, 9, 0, 9, 2, 2, 9, 0, 0, 9, 1, 0, 9, 9, 9, 0, 0, 2, 6, 1, 13, 13, 12, 21, 12, 0, 12, 2, 7, 21, 12, 21, 0, 1, 1, 0, 1, 2, 3, 4, 5, 6, 7, 8, 9, 10, 11, 21] .n [18, 18, 14, 14, 14, 14, 0, 0, 2, 5, 0, 0, 0, 0, 2, 4, 2] (.b [0, 18, 0, 18, 2, 8, 18, 18, 11, 2] (.b [0, 18, 18, 20, 0, 14, 7, 0, 0, 0, 0, 7, 0, 0, 0, 7, 7, 0, 8, 14, 9, 9, 0, 9, 2, 2, 9, 0, 0, 9, 1, 0, 9, 9, 9, 0, 0, 2, 6, 1, 13, 13, 12, 21, 12, 0, 12, 2, 7, 21, 12, 21, 0, 1, 1, 0, 1, 2, 3, 4, 5, 6, 7, 8, 9, 10, 11, 21] .n [18, 18, 14, 14, 14, 14, 0, 0, 2, 5, 0, 0, 0, 0, 2, 4, 2] (.b [0, 18, 0, 18, 2, 8, 18, 18, 11, 0, 0, 18, 18, 20, 0, 14, 7, 0, 0, 0, 0, 7, 0, 0, 0, 7, 7, 0, 8, 14, 9, 9, 0, 9, 2, 2, 9, 0, 0, 9, 1, 0, 9, 9, 9, 0, 0, 2, 6, 1, 13, 13, 12, 21, 12, 0, 12, 2, 7, 21, 12, 21, 0, 1, 1, 0, 1, 2, 3, 4, 5, 6, 7, 8, 9, 10, 11, 21] .n [14, 7, 0, 0, 0, 0, 7, 0, 0, 0, 7, 7, 0, 8, 14, 9, 9, 0, 9, 2, 2, 9, 0, 0, 9, 1, 0, 9, 9, 9, 0, 0, 2, 6, 0, 13, 1, 1, 0, 1, 2, 3, 4, 5, 6, 7, 8, 9, 10, 11] .n)) [14, 7, 0, 0, 0, 0, 7, 0, 0, 0, 7, 7, 0, 8, 14, 9, 9, 0, 9, 2, 2, 9, 0, 0, 9, 1, 0, 9, 9, 9, 0, 0, 2, 6, 0, 13, 1, 1, 0, 1, 2, 3, 4, 5, 6, 7, 8, 9, 10, 11] .n)) [14, 7, 0, 0, 0, 0, 7, 0, 0, 0, 7, 7, 0, 8, 14, 9, 9, 0, 9, 2, 2, 9, 0, 0, 9, 1, 0, 9, 9, 9, 0, 0, 2, 6, 0, 13, 1, 1, 0, 1, 2, 3, 4, 5, 6, 7, 8, 9, 10, 11] .n)) [9, 9, 9, 1, 14, 7, 0, 0, 0, 0, 7, 0, 0, 0, 7, 7, 0, 8, 14, 9, 9, 9, 0, 9, 2, 1, 0, 0, 9, 1, 1, 9, 9, 9, 1, 0, 0, 2, 6, 2] (.b [13, 1, 1, 0, 1, 2, 3, 4, 5, 6, 7, 8, 9, 10, 11] .n [13, 13, 12, 15, 12, 0, 12, 2, 7, 15, 12, 15, 0, 1, 1, 0, 1, 2, 3, 4, 5, 6, 7, 8, 9, 10, 11, 15] .n))), ρ⟩ (leafS F)
noncomputable def v_rn0t (w : World) (x T : Nat) (L : LV) (V : RV) (k : Nat) (es : Array DictEntry) (ks : List Value) (F : KF PySem.Fin) (ρ : Stream) : VT := rdTurn w L { V with so := (sNil true) } T k es ks F (rdF5 w L {V with so := (sNil true)} (L.kp + 214)) ((x + 214) + 2) T ((ρ 1).n + 214) (ρ 2).n (rdDirs w L { V with so := (sNil true) } T k es ks F ((ρ 0).n) ((ρ 1).n + 214) (ρ 2).n 9 9 3 0)
theorem e_rn0t (w : World) (x T : Nat) (L : LV) (V : RV) (k : Nat) (es : Array DictEntry) (ks : List Value) (F : KF PySem.Fin) (ρ : Stream) (b0 : Bool) : EqV (q_rn0t ((w.withFollow "set-order" true).withFollow "special-get-raises" b0) w x T L V k es ks F ρ) (v_rn0t w x T L V k es ks F ρ) := by unfold EqV; cases b0 <;> kernel_rfl
theorem k_rn0t (w : World) (x T : Nat) (L : LV) (V : RV) (k : Nat) (es : Array DictEntry) (ks : List Value) (h0 : w.params.followText "set-order" = true) (F : KF PySem.Fin) (ρ : Stream) : EqV (q_rn0t w w x T L V k es ks F ρ) (v_rn0t w x T L V k es ks F ρ) := by
  have e := e_rn0t w x T L V k es ks F ρ
  rw [wf_eq h0] at e
  exact row1 (P := fun W => EqV (q_rn0t W w x T L V k es ks F ρ) (v_rn0t w x T L V k es ks F ρ)) "special-get-raises" e
noncomputable def q_rn1f (W : World) (w : World) (x T : Nat) (L : LV) (V : RV) (u5 : Nat) (el : Value) (k : Nat) (es : Array DictEntry) (ks : List Value) (F : KF PySem.Fin) (ρ : Stream) : VT := (ex ⟨PR, W.params⟩ (mkZ w [zMN]) 2200).s PySem.Fin 25 (zden (rdLp w V)) [2, 0, 2, 2, 8, 2, 2, 3, 2] ⟨[V.lo + 214, V.it + 214, V.ps + 214, L.fn + 214, L.co + 214, L.ce + 214, L.ins + 214, L.idt + 214, L.ig + 214, L.ms + 214, L.ds + 214, L.kp + 214], [(rdFr w L V u5 (L.kp + 214) el), itO (V.ps + 214) k, lstA V.items V.ep, lFn w (L.ce + 214) (L.co + 214) L.ct, lCode L.t0 L.t1 L.t2 L.r1 L.r2 L.r3 L.r4 L.r5 L.u L.u', lCell (L.ins + 214), iInst (L.idt + 214), iDict w L.s0 L.s1 L.s2 (L.ms + 214) (L.ds + 214) (L.ig + 214), dObj es L.ep, (sNil false), lst V.dirs L.dep, lst ks L.kep], (x + 214), 0, T, 0, (.b [0, 2, 2, 14, 0, 1, 2, 3, 4, 5, 6, 7, 8, 9, 10, 11] .n [2, 2, 1, 1, 1, 1, 1, 4, 1, 4, 5, 13, 13, 13, 13, 0, 6, 7, 0, 0, 0, 7, 0, 0, 0, 7, 0, 0, 0, 0, 7, 8, 13, 0, 13, 0, 3, 0, 1, 0, 1, 0, 0, 14, 14, 14, 14, 14, 14, 0, 14, 14, 7, 0, 0, 0, 0, 7, 0, 0, 0, 7, 7, 0, 8, 9, 9, 0, 9, 2, 0, 0, 0, 9, 1, 2] (.b [0, 14, 14, 7, 0, 0, 0, 0, 7, 0, 0, 0, 7, 7, 0, 8, 10, 10, 0, 10, 0, 0, 0, 10, 14, 7, 0, 0, 0, 0, 7, 0, 0, 0, 7, 7, 0, 8, 10, 10, 0, 10, 0, 10, 10, 10, 15, 0, 15, 0, 15, 0, 15, 10, 10, 15, 15, 17, 0, 14, 14, 7, 0, 0, 0, 0, 7, 0, 0, 0, 7, 7, 0, 8, 11, 11, 0, 11, 0, 18, 0, 18, 0, 18, 2, 8, 18, 18, 11, 2] (.b [0, 18, 18, 20, 0, 14, 7, 0, 0, 0, 0, 7, 0, 0, 0, 7, 7, 0, 8, 14, 9, 9, 0, 9, 2, 2, 9, 0, 0, 9, 1, 0, 9, 9, 9, 0, 0, 2, 6, 1, 13, 13, 12, 21, 12, 0, 12, 2, 7, 21, 12, 21, 0, 1, 1, 0, 1, 2, 3, 4, 5, 6, 7, 8, 9, 10, 11, 21] .n [18, 18, 14, 14, 14, 14, 0, 0, 2, 5, 0, 0, 0, 0, 2, 4, 2] (.b [0, 18, 0, 18, 2, 8, 18, 18, 11, 2] (.b [0, 18, 18, 20, 0, 14, 7, 0, 0, 0, 0, 7, 0, 0, 0, 7, 7, 0, 8, 14, 9, 9, 0, 9, 2, 2, 9, 0, 0, 9, 1, 0, 9, 9, 9, 0, 0, 2, 6, 1, 13, 13, 12, 21, 12, 0, 12, 2, 7, 21, 12, 21, 0, 1, 1, 0, 1, 2, 3, 4, 5, 6, 7, 8, 9, 10, 11, 21] .n [18, 18, 14, 14, 14, 14, 0, 0, 2, 5, 0, 0, 0, 0, 2, 4, 2] (.b [0, 18, 0, 18, 2, 8, 18, 18, 11, 2] (.b [0, 18, 18, 20, 0, 14, 7, 0, 0, 0, 0, 7, 0, 0, 0, 7, 7, 0, 8, 14, 9, 9, 0, 9, 2, 2, 9, 0, 0, 9, 1, 0, 9, 9, 9, 0, 0, 2, 6, 1, 13, 13, 12, 21, 12, 0, 12, 2, 7, 21, 12, 21, 0, 1, 1, 0, 1, 2, 3, 4, 5, 6, 7, 8, 9, 10, 11, 21] .n [18, 18, 14, 14, 14, 14, 0, 0, 2, 5, 0, 0, 0, 0, 2, 4, 2] (.b [0, 18, 0, 18, 2, 8, 18, 18, 11, 0, 0, 18, 18, 20, 0, 14, 7, 0, 0, 0, 0, 7, 0, 0, 0, 7, 7, 0, 8, 14, 9, 9, 0, 9, 2, 2, 9, 0, 0, 9, 1, 0, 9, 9, 9, 0, 0, 2, 6, 1, 13, 13, 12, 21, 12, 0, 12, 2, 7, 21, 12, 21, 0, 1, 1, 0, 1, 2, 3, 4, 5, 6, 7, 8, 9, 10, 11, 21] .n [14, 7, 0, 0, 0, 0, 7, 0, 0, 0, 7, 7, 0, 8, 14, 9, 9, 0, 9, 2, 2, 9, 0, 0, 9, 1, 0, 9, 9, 9, 0, 0, 2, 6, 0, 13, 1, 1, 0, 1, 2, 3, 4, 5, 6, 7, 8, 9, 10, 11] .n)) [14, 7, 0, 0, 0, 0, 7, 0, 0, 0, 7, 7, 0, 8, 14, 9, 9, 0, 9, 2, 2, 9, 0, 0, 9, 1, 0, 9, 9, 9, 0, 0, 2, 6, 0, 13, 1, 1, 0, 1, 2, 3, 4, 5, 6, 7, 8, 9, 10, 11] .n)) [14, 7, 0, 0, 0, 0, 7, 0, 0, 0, 7, 7, 0, 8, 14, 9, 9, 0, 9, 2, 2, 9, 0, 0, 9, 1, 0, 9, 9, 9, 0, 0, 2, 6, 0, 13, 1, 1, 0, 1, 2, 3, 4, 5, 6, 7, 8, 9, 10, 11] .n)) [9, 9, 9, 1, 14, 7, 0, 0, 0, 0, 7, 0, 0, 0, 7, 7, 0, 8, 14, 9, 9, 9, 0, 9, 2, 1, 0, 0, 9, 1, 1, 9, 9, 9, 1, 0, 0, 2, 6, 2] (.b [13, 1, 1, 0, 1, 2, 3, 4, 5, 6, 7, 8, 9, 10, 11] .n [13, 13, 12, 15, 12, 0, 12, 2, 7, 15, 12, 15, 0, 1, 1, 0, 1, 2, 3, 4, 5, 6, 7, 8, 9, 10, 11, 15] .n))), ρ⟩ (leafS F)
noncomputable def v_rn1f (w : World) (x T : Nat) (L : LV) (V : RV) (u5 : Nat) (el : Value) (k : Nat) (es : Array DictEntry) (ks : List Value) (F : KF PySem.Fin) (ρ : Stream) : VT := rdTurn w L { V with so := (sNil false) } u5 k es ks F (rdFr w L {V with so := (sNil false)} u5 (L.kp + 214) el) ((x + 214) + 2) T ((ρ 1).n + 214) (ρ 2).n (rdDirs w L { V with so := (sNil false) } u5 k es ks F ((ρ 0).n) ((ρ 1).n + 214) (ρ 2).n 9 9 3 0)
theorem e_rn1f (w : World) (x T : Nat) (L : LV) (V : RV) (u5 : Nat) (el : Value) (k : Nat) (es : Array DictEntry) (ks : List Value) (F : KF PySem.Fin) (ρ : Stream) (b0 : Bool) : EqV (q_rn1f ((w.withFollow "set-order" false).withFollow "special-get-raises" b0) w x T L V u5 el k es ks F ρ) (v_rn1f w x T L V u5 el k es ks F ρ) := by unfold EqV; cases b0 <;> kernel_rfl
theorem k_rn1f (w : World) (x T : Nat) (L : LV) (V : RV) (u5 : Nat) (el : Value) (k : Nat) (es : Array DictEntry) (ks : List Value) (h0 : w.params.followText "set-order" = false) (F : KF PySem.Fin) (ρ : Stream) : EqV (q_rn1f w w x T L V u5 el k es ks F ρ) (v_rn1f w x T L V u5 el k es ks F ρ) := by
  have e := e_rn1f w x T L V u5 el k es ks F ρ
  rw [wf_eq h0] at e
  exact row1 (P := fun W => EqV (q_rn1f W w x T L V u5 el k es ks F ρ) (v_rn1f w x T L V u5 el k es ks F ρ)) "special-get-raises" e
noncomputable def q_rn0f (W : World) (w : World) (x T : Nat) (L : LV) (V : RV) (k : Nat) (es : Array DictEntry) (ks : List Value) (F : KF PySem.Fin) (ρ : Stream) : VT := (ex ⟨PR, W.params⟩ (mkZ w [zMN]) 2200).s PySem.Fin 25 (zden (rdLp w V)) [2, 0, 2, 2, 8, 2, 2, 3, 2] ⟨[V.lo + 214, V.it + 214, V.ps + 214, L.fn + 214, L.co + 214, L.ce + 214, L.ins + 214, L.idt + 214, L.ig + 214, L.ms + 214, L.ds + 214, L.kp + 214], [(rdF5 w L V (L.kp + 214)), itO (V.ps + 214) k, lstA V.items V.ep, lFn w (L.ce + 214) (L.co + 214) L.ct, lCode L.t0 L.t1 L.t2 L.r1 L.r2 L.r3 L.r4 L.r5 L.u L.u', lCell (L.ins + 214), iInst (L.idt + 214), iDict w L.s0 L.s1 L.s2 (L.ms + 214) (L.ds + 214) (L.ig + 214), dObj es L.ep, (sNil false), lst V.dirs L.dep, lst ks L.kep], (x + 214), 0, T, 0, (.b [0, 2, 2, 14, 0, 1, 2, 3, 4, 5, 6, 7, 8, 9, 10, 11] .n [2, 2, 1, 1, 1, 1, 1, 4, 1, 4, 5, 13, 13, 13, 13, 0, 6, 7, 0, 0, 0, 7, 0, 0, 0, 7, 0, 0, 0, 0, 7, 8, 13, 0, 13, 0, 3, 0, 1, 0, 1, 0, 0, 14, 14, 14, 14, 14, 14, 0, 14, 14, 7, 0, 0, 0, 0, 7, 0, 0, 0, 7, 7, 0, 8, 9, 9, 0, 9, 2, 0, 0, 0, 9, 1, 2] (.b [0, 14, 14, 7, 0, 0, 0, 0, 7, 0, 0, 0, 7, 7, 0, 8, 10, 10, 0, 10, 0, 0, 0, 10, 14, 7, 0, 0, 0, 0, 7, 0, 0, 0, 7, 7, 0, 8, 10, 10, 0, 10, 0, 10, 10, 10, 15, 0, 15, 0, 15, 0, 15, 10, 10, 15, 15, 17, 0, 14, 14, 7, 0, 0, 0, 0, 7, 0, 0, 0, 7, 7, 0, 8, 11, 11, 0, 11, 0, 18, 0, 18, 0, 18, 2, 8, 18, 18, 11, 2] (.b [0, 18, 18, 20, 0, 14, 7, 0, 0, 0, 0, 7, 0, 0, 0, 7, 7, 0, 8, 14, 9, 9, 0, 9, 2, 2, 9, 0, 0, 9, 1, 0, 9, 9, 9, 0, 0, 2, 6, 1, 13, 13, 12, 21, 12, 0, 12, 2, 7, 21, 12, 21, 0, 1, 1, 0, 1, 2, 3, 4, 5, 6, 7, 8, 9, 10, 11, 21] .n [18, 18, 14, 14, 14, 14, 0, 0, 2, 5, 0, 0, 0, 0, 2, 4, 2] (.b [0, 18, 0, 18, 2, 8, 18, 18, 11, 2] (.b [0, 18, 18, 20, 0, 14, 7, 0, 0, 0, 0, 7, 0, 0, 0, 7, 7, 0, 8, 14, 9, 9, 0, 9, 2, 2, 9, 0, 0, 9, 1, 0, 9, 9, 9, 0, 0, 2, 6, 1, 13, 13, 12, 21, 12, 0, 12, 2, 7, 21, 12, 21, 0, 1, 1, 0, 1, 2, 3, 4, 5, 6, 7, 8, 9, 10, 11, 21] .n [18, 18, 14, 14, 14, 14, 0, 0, 2, 5, 0, 0, 0, 0, 2, 4, 2] (.b [0, 18, 0, 18, 2, 8, 18, 18, 11, 2] (.b [0, 18, 18, 20, 0, 14, 7, 0, 0, 0, 0, 7, 0, 0, 0, 7, 7, 0, 8, 14, 9, 9, 0, 9, 2, 2, 9, 0, 0, 9, 1, 0, 9, 9, 9, 0, 0, 2, 6, 1, 13, 13, 12, 21, 12, 0, 12, 2, 7, 21, 12, 21, 0, 1, 1, 0, 1, 2, 3, 4, 5, 6, 7, 8, 9, 10, 11, 21] .n [18, 18, 14, 14, 14, 14, 0, 0, 2, 5, 0, 0, 0, 0, 2, 4, 2] (.b [0, 18, 0, 18, 2, 8, 18, 18, 11, 0, 0, 18, 18, 20, 0, 14, 7, 0, 0, 0, 0, 7, 0, 0, 0, 7, 7, 0, 8, 14, 9, 9, 0, 9, 2, 2, 9, 0, 0, 9, 1, 0, 9, 9, 9, 0, 0, 2, 6, 1, 13, 13, 12, 21, 12, 0, 12, 2, 7, 21, 12, 21, 0, 1, 1, 0, 1, 2, 3, 4, 5, 6, 7, 8, 9, 10, 11, 21] .n [14, 7, 0, 0, 0, 0, 7, 0, 0, 0, 7, 7, 0, 8, 14, 9, 9, 0, 9, 2, 2, 9, 0, 0, 9, 1, 0, 9, 9, 9, 0, 0, 2, 6, 0, 13, 1, 1, 0, 1, 2, 3, 4, 5, 6, 7, 8, 9, 10, 11] .n)) [14, 7, 0, 0, 0, 0, 7, 0, 0, 0, 7, 7, 0, 8, 14, 9, 9, 0, 9, 2, 2, 9, 0, 0, 9, 1, 0, 9, 9, 9, 0, 0, 2, 6, 0, 13, 1, 1, 0, 1, 2, 3, 4, 5, 6, 7, 8, 9, 10, 11] .n)) [14, 7, 0, 0, 0, 0, 7, 0, 0, 0, 7, 7, 0, 8, 14, 9, 9, 0, 9, 2, 2, 9, 0, 0, 9, 1, 0, 9, 9, 9, 0, 0, 2, 6, 0, 13, 1, 1, 0, 1, 2, 3, 4, 5, 6, 7, 8, 9, 10, 11] .n)) [9, 9, 9, 1, 14, 7, 0, 0, 0, 0, 7, 0, 0, 0, 7, 7, 0, 8, 14, 9, 9, 9, 0, 9, 2, 1, 0, 0, 9, 1, 1, 9, 9, 9, 1, 0, 0, 2, 6, 2] (.b [13, 1, 1, 0, 1, 2, 3, 4, 5, 6, 7, 8, 9, 10, 11] .n [13, 13, 12, 15, 12, 0, 12, 2, 7, 15, 12, 15, 0, 1, 1, 0, 1, 2, 3, 4, 5, 6, 7, 8, 9, 10, 11, 15] .n))), ρ⟩ (leafS F)
noncomputable def v_rn0f (w : World) (x T : Nat) (L : LV) (V : RV) (k : Nat) (es : Array DictEntry) (ks : List Value) (F : KF PySem.Fin) (ρ : Stream) : VT := rdTurn w L { V with so := (sNil false) } T k es ks F (rdF5 w L {V with so := (sNil false)} (L.kp + 214)) ((x + 214) + 2) T ((ρ 1).n + 214) (ρ 2).n (rdDirs w L { V with so := (sNil false) } T k es ks F ((ρ 0).n) ((ρ 1).n + 214) (ρ 2).n 9 9 3 0)
theorem e_rn0f (w : World) (x T : Nat) (L : LV) (V : RV) (k : Nat) (es : Array DictEntry) (ks : List Value) (F : KF PySem.Fin) (ρ : Stream) (b0 : Bool) : EqV (q_rn0f ((w.withFollow "set-order" false).withFollow "special-get-raises" b0) w x T L V k es ks F ρ) (v_rn0f w x T L V k es ks F ρ) := by unfold EqV; cases b0 <;> kernel_rfl
theorem k_rn0f (w : World) (x T : Nat) (L : LV) (V : RV) (k : Nat) (es : Array DictEntry) (ks : List Value) (h0 : w.params.followText "set-order" = false) (F : KF PySem.Fin) (ρ : Stream) : EqV (q_rn0f w w x T L V k es ks F ρ) (v_rn0f w x T L V k es ks F ρ) := by
  have e := e_rn0f w x T L V k es ks F ρ
  rw [wf_eq h0] at e
  exact row1 (P := fun W => EqV (q_rn0f W w x T L V k es ks F ρ) (v_rn0f w x T L V k es ks F ρ)) "special-get-raises" e
end Mine
-- F3
set_option maxHeartbeats 0
namespace Mine
noncomputable def q_rbl (W : World) (w : World) (x T : Nat) (lo : Nat) (F : KF Flow) (ρ : Stream) : VT := (ex ⟨PR, W.params⟩ (mkZ w []) 60).c 3 (.block (forE (rdFor w)) (rdEnv w lo)) [0] ⟨[], [], (x + 214), 0, T, 0, .n, ρ⟩ (leafC F)
noncomputable def v_rbl (w : World) (x T : Nat) (lo : Nat) (F : KF Flow) (ρ : Stream) : VT := (.leaf (F (Except.ok PySem.Flow.next) (x + 214) T []))
theorem e_rbl (w : World) (x T : Nat) (lo : Nat) (F : KF Flow) (ρ : Stream) (b0 : Bool) : EqV (q_rbl (w.withFollow "special-get-raises" b0) w x T lo F ρ) (v_rbl w x T lo F ρ) := by unfold EqV; cases b0 <;> kernel_rfl
theorem k_rbl (w : World) (x T : Nat) (lo : Nat) (F : KF Flow) (ρ : Stream) : EqV (q_rbl w w x T lo F ρ) (v_rbl w x T lo F ρ) := by
  have e := e_rbl w x T lo F ρ
  exact row1 (P := fun W => EqV (q_rbl W w x T lo F ρ) (v_rbl w x T lo F ρ)) "special-get-raises" e
theorem kk_st (P : Params) : (KK P cStatics).isSome = true := by kernel_rfl
structure Bs (w : World) (h : Heap) (D : List Nat) : Prop where
  K : KOk (KK w.params) h D
  L : h.NoLimit
  B : 214 ≤ h.objs.size
theorem Bs.st {w : World} {h : Heap} {D : List Nat} (b : Bs w h D) : cStatics ∉ D := by
  have := kk_st w.params
  obtain ⟨o, e⟩ := Option.isSome_iff_exists.mp this
  exact (b.K _ _ e).2
theorem Bs.step {w : World} {h h' : Heap} {D : List Nat} {n : Nat} {l : List (Nat × Obj)} (b : Bs w h D) (E : End h h' D n l) : Bs w h' (l.map (·.1)) where
  K := fun a o e => ⟨E.keep a o (b.K a o e).1 (b.K a o e).2, fun m => by
    obtain ⟨p, hp, rfl⟩ := List.mem_map.mp m
    rcases (E.at' p hp).2.2 with q | q
    · exact (b.K _ o e).2 q
    · have lt : (p.1 : Nat) < h.objs.size := Heap.lt_size (b.K _ o e).1
      exact absurd lt (Nat.not_lt.mpr q)⟩
  L := b.L.at fun o e => E.keep _ _ e b.st
  B := by rw [E.size]; exact Nat.le_trans b.B E.ge
theorem Bs.sub {w : World} {h : Heap} {D D' : List Nat} (b : Bs w h D) (hs : ∀ a ∈ D', a ∈ D) : Bs w h D' := ⟨fun a o e => ⟨(b.K a o e).1, fun m => (b.K a o e).2 (hs a m)⟩, b.L, b.B⟩
theorem Bs.rn {w : World} {s : Shared} {sums : List (Code → Option Summ)} {need : Nat} {ads : List Nat} {obs : List Obj} (b : Bs w s.heap ads) (hZ : SumsOk w sums need) (hat : At s.heap ads obs) (hn : ads.Nodup) : Rn w (mkZ w sums) need ads obs s :=
  rn_of hZ b.K b.L b.B b.st hat hn
theorem End.toAt {h h' : Heap} {D : List Nat} {n : Nat} : ∀ {l : List (Nat × Obj)}, End h h' D n l → At h' (l.map (·.1)) (l.map (·.2))
  | [], _ => trivial
  | p :: l, E => ⟨(E.at' p (.head _)).1, End.toAt (l := l) ⟨E.size, E.ge, E.keep, fun q hq => E.at' q (.tail _ hq), (List.nodup_cons.mp E.nd).2⟩⟩
noncomputable def rdA11 (L : LV) (V : RV) : List Nat := [V.lo + 214, V.it + 214, V.ps + 214, L.fn + 214, L.co + 214, L.ce + 214, L.ins + 214, L.idt + 214, L.ig + 214, L.ms + 214, L.ds + 214]
noncomputable def rdAds (L : LV) (V : RV) (kp : Nat) : List Nat := [V.lo + 214, V.it + 214, V.ps + 214, L.fn + 214, L.co + 214, L.ce + 214, L.ins + 214, L.idt + 214, L.ig + 214, L.ms + 214, L.ds + 214, kp + 214]
noncomputable def rdObs (w : World) (L : LV) (V : RV) (fr it' : Obj) (es : Array DictEntry) (ep : Nat) (ks : List Value) (kep : Nat) : List Obj := [fr, it', lstA V.items V.ep, lFn w (L.ce + 214) (L.co + 214) L.ct, lCode L.t0 L.t1 L.t2 L.r1 L.r2 L.r3 L.r4 L.r5 L.u L.u', lCell (L.ins + 214), iInst (L.idt + 214), iDict w L.s0 L.s1 L.s2 (L.ms + 214) (L.ds + 214) (L.ig + 214), dObj es ep, V.so, lst V.dirs L.dep, lst ks kep]
noncomputable def SoV (w : World) (L : LV) : Option Str → Obj → Prop
  | some md, so => md = L.md ∧ okMod L.md ∧ ∃ j, so = sOne w L (tbl (w.params.followText "set-order") j)
  | none, so => so = sNil (w.params.followText "set-order")
section
variable {w : World} {L : LV} {V : RV} {u5 k : Nat} {es : Array DictEntry} {ks : List Value} {F : KF Fin} {kn : List (Str × Int)} {mo : Option Str} {dl : List (Str × Tok)} {fr : Obj} {n0 t0 : Nat}
structure RdAsk (w : World) (L : LV) (V : RV) (k : Nat) (es : Array DictEntry) (ks : List Value) (F : KF Fin) (kn : List (Str × Int)) (mo : Option Str) (dl : List (Str × Tok)) (fr : Obj) (n0 t0 : Nat) : Prop where
  E : V.q k = none → F (.ok (.again (.block (forE (rdFor w)) (rdEnv w (V.lo + 214))))) n0 t0 (rdPl w L V fr { cls := .type "list_iterator", data := .fields #[.none, .int (k : Nat) 0] } (L.kp + 214) es L.ep ⟨ks⟩ L.kep [])
  q : V.q k = none ∨ ∃ p : Str × Tok, V.q k = some (.str p.1 p.2) ∧ isPth p.1 = true ∧ ∀ u5, Nx w L V u5 k ks F (stepV mo (dl.map (·.1)) kn p.1).1 (stepV mo (dl.map (·.1)) kn p.1).2
  D : DRep es.toList kn
  hs : kn.length ≤ 1000
  hk : ks.length ≤ 1000
  hd : V.dirs = dvals dl
  ok : ∀ d ∈ dl, okDir d.1
  hl : dl.length ≤ 3
theorem RdAsk.top (a : RdAsk w L V k es ks F kn mo dl fr n0 t0) {N T : Nat} {un : VT} (hun : vlook kn (mnOf (V.p k)) = none → Nx w L V u5 k ks F (kn ++ [(mnOf (V.p k), hitOf mo (dl.map (·.1)) (V.p k))]) (hitOf mo (dl.map (·.1)) (V.p k)) → un.Holds) : (rdTurn w L V u5 k es ks F fr n0 t0 N T un).Holds := by
  rcases a.q with hq | ⟨p, hq, hp, H⟩
  · refine ⟨fun _ => chain_h ?_ (a.E hq), fun q => absurd (show false = true from (by rw [hq] at q; exact q)) Bool.false_ne_true⟩
    rw [hq]
    rfl
  · exact rdTurn_h hq hp a.D a.hk (H u5) hun
end
theorem quiet_lp (w : World) (V : RV) : (rdLp w V).quiet = true := by kernel_rfl
theorem quiet_bl (w : World) (lo : Nat) : (Code.block (forE (rdFor w)) (rdEnv w lo)).quiet = true := by kernel_rfl
section
variable {w : World} {A : Around} {s : Shared} {R : Result → Shared → Prop} {L : LV} {V : RV} {k : Nat} {es : Array DictEntry} {ks : List Value} {kn : List (Str × Int)} {mo : Option Str} {dl : List (Str × Tok)} {fr : Obj}
theorem rd_turn (ha : A.handled = none) (hd : A.depth + 180 < recursionLimit) (hu : A.units + 360 < cLine) (b : Bs w s.heap (rdAds L V L.kp)) (hat : At s.heap (rdAds L V L.kp) (rdObs w L V fr (itO (V.ps + 214) k) es L.ep ks L.kep)) (hn : (rdAds L V L.kp).Nodup) (hso : SoV w L mo V.so)
    (hfr : fr = rdF5 w L V (L.kp + 214) ∨ ∃ u5 el, fr = rdFr w L V u5 (L.kp + 214) el) (ask : RdAsk w L V k es ks (endF s (rdAds L V L.kp) (TurnEnd w A R)) kn mo dl fr (s.heap.objs.size + 2) s.toks) : codeAny (model PR w) A (rdLp w V) R s := by
  obtain ⟨x, hx⟩ : ∃ x, s.heap.objs.size = x + 214 := ⟨s.heap.objs.size - 214, by have := b.B; omega⟩
  rw [hx] at ask
  have rm : Room 50 A (25 + 1) := ⟨ha, by omega, by omega⟩
  have z1 : SumsOk w [zMN] 50 := sums_cons (zMN_ok w) (Nat.le_refl _) sums_nil
  cases mo with
  | none =>
    have hV : { V with so := sNil (w.params.followText "set-order") } = V := by rw [← (show V.so = _ from hso)]
    have hat' := hat
    unfold rdObs at hat'
    rw [show V.so = _ from hso] at hat'
    cases hg : w.params.followText "set-order" with
    | true =>
      rw [hg] at hat' hV
      rcases hfr with rfl | ⟨u5, el, rfl⟩
      · refine run_turn (V := v_rn0t w x s.toks L V k es ks) (b.rn z1 hat' hn) rm hx rfl (k_rn0t w x s.toks L V k es ks hg) fun ρ => ?_
        unfold v_rn0t
        rw [hV]
        exact ask.top fun hv nx => rdNil_h ask.hd ask.ok ask.hl ask.D hv ask.hs ask.hk nx
      · refine run_turn (V := v_rn1t w x s.toks L V u5 el k es ks) (b.rn z1 hat' hn) rm hx rfl (k_rn1t w x s.toks L V u5 el k es ks hg) fun ρ => ?_
        unfold v_rn1t
        rw [hV]
        exact ask.top fun hv nx => rdNil_h ask.hd ask.ok ask.hl ask.D hv ask.hs ask.hk nx
    | false =>
      rw [hg] at hat' hV
      rcases hfr with rfl | ⟨u5, el, rfl⟩
      · refine run_turn (V := v_rn0f w x s.toks L V k es ks) (b.rn z1 hat' hn) rm hx rfl (k_rn0f w x s.toks L V k es ks hg) fun ρ => ?_
        unfold v_rn0f
        rw [hV]
        exact ask.top fun hv nx => rdNil_h ask.hd ask.ok ask.hl ask.D hv ask.hs ask.hk nx
      · refine run_turn (V := v_rn1f w x s.toks L V u5 el k es ks) (b.rn z1 hat' hn) rm hx rfl (k_rn1f w x s.toks L V u5 el k es ks hg) fun ρ => ?_
        unfold v_rn1f
        rw [hV]
        exact ask.top fun hv nx => rdNil_h ask.hd ask.ok ask.hl ask.D hv ask.hs ask.hk nx
  | some md =>
    obtain ⟨rfl, hm, j, hj⟩ := hso
    have hV : { V with so := sOne w L (tbl (w.params.followText "set-order") j) } = V := by rw [← hj]
    have hat' := hat
    unfold rdObs at hat'
    rw [hj] at hat'
    cases hg : w.params.followText "set-order" with
    | true =>
      rw [hg] at hat' hV
      have z2 : SumsOk w [zMN, zSC w L.md L.tm (tbl true j)] 50 := sums_cons (zMN_ok w) (Nat.le_refl _) (sums_cons (zSC_ok w _ _ _) (by decide) sums_nil)
      rcases hfr with rfl | ⟨u5, el, rfl⟩
      · refine run_turn (V := v_rt0t w x s.toks L V k es ks j) (b.rn z2 hat' hn) rm hx rfl (k_rt0t w x s.toks L V k es ks j hg) fun ρ => ?_
        unfold v_rt0t
        rw [hV]
        exact ask.top fun hv nx => rdMod_h ask.hd ask.ok ask.hl hm rfl rfl ask.D hv ask.hs ask.hk nx
      · refine run_turn (V := v_rt1t w x s.toks L V u5 el k es ks j) (b.rn z2 hat' hn) rm hx rfl (k_rt1t w x s.toks L V u5 el k es ks j hg) fun ρ => ?_
        unfold v_rt1t
        rw [hV]
        exact ask.top fun hv nx => rdMod_h ask.hd ask.ok ask.hl hm rfl rfl ask.D hv ask.hs ask.hk nx
    | false =>
      rw [hg] at hat' hV
      have z2 : SumsOk w [zMN, zSC w L.md L.tm (tbl false j)] 50 := sums_cons (zMN_ok w) (Nat.le_refl _) (sums_cons (zSC_ok w _ _ _) (by decide) sums_nil)
      have hj' : ([(decide (j < Int.toNat (Nat.cast (j + 1))), true)].all fun e => e.1 == e.2) = true := by simp
      rcases hfr with rfl | ⟨u5, el, rfl⟩
      · refine run_turn (V := v_rt0f w x s.toks L V k es ks j) (b.rn z2 hat' hn) rm hx rfl (k_rt0f w x s.toks L V k es ks j hg) fun ρ => ?_
        unfold v_rt0f
        rw [hV]
        exact ask.top fun hv nx => rdMod_h ask.hd ask.ok ask.hl hm rfl hj' ask.D hv ask.hs ask.hk nx
      · refine run_turn (V := v_rt1f w x s.toks L V u5 el k es ks j) (b.rn z2 hat' hn) rm hx rfl (k_rt1f w x s.toks L V u5 el k es ks j hg) fun ρ => ?_
        unfold v_rt1f
        rw [hV]
        exact ask.top fun hv nx => rdMod_h ask.hd ask.ok ask.hl hm rfl hj' ask.D hv ask.hs ask.hk nx
end
section
variable {w : World} {A : Around}
theorem bl_spec {s : Shared} {R : Result → Shared → Prop} {lo : Nat} {D : List Nat} (ha : A.handled = none) (hd : A.depth + 20 < recursionLimit) (hu : A.units + 40 < cLine) (b : Bs w s.heap D)
    (h : ∀ h', (∀ b o, s.heap.get? b = some o → h'.get? b = some o) → h'.objs.size = s.heap.objs.size → R (.ok .next) ⟨h', s.gens, s.drawn, s.toks, s.os⟩) : codeAny (model PR w) A (.block (forE (rdFor w)) (rdEnv w lo)) R s := by
  obtain ⟨x, hx⟩ : ∃ x, s.heap.objs.size = x + 214 := ⟨s.heap.objs.size - 214, by have := b.B; omega⟩
  refine run_code (V := v_rbl w x s.toks lo) ((b.sub (D' := []) (by simp)).rn (need := 0) sums_nil (obs := []) trivial List.nodup_nil) (dp := 3) ⟨ha, by omega, by omega⟩ hx (k_rbl w x s.toks lo) fun ρ => ?_
  intro h' E
  exact h h' (fun b o e => E.keep b o e (by simp)) (by rw [E.size, hx])
end
theorem q_of {V : RV} {pl : List (Str × Tok)} (hi : V.items = ⟨dvals pl⟩) (k : Nat) : V.q k = (pl[k]?).map fun d => .str d.1 d.2 := by
  unfold RV.q
  rw [hi]
  exact dvals_get pl k
noncomputable def RdPost (w : World) (R : Result → Shared → Prop) (s : Shared) (L : LV) (V : RV) (ks : List Value) (out : List (Str × Tok)) : Prop :=
  ∀ h' t' u5 el it' kp' es' ep' kep', (∀ b o, s.heap.get? b = some o → b ∉ rdAds L V L.kp → h'.get? b = some o) → s.heap.objs.size ≤ h'.objs.size → Bs w h' (rdAds L V kp') → At h' (rdAds L V kp') (rdObs w L V (rdFr w L V u5 (kp' + 214) el) it' es' ep' (ks ++ dvals out) kep') →
    (rdAds L V kp').Nodup → (out = [] → kp' = L.kp ∧ kep' = L.kep) → (out ≠ [] → s.heap.objs.size ≤ kp' + 214 ∧ h'.get? (L.kp + 214) = some (lst ks L.kep)) → R (.ok .next) ⟨h', s.gens, s.drawn, t', s.os⟩
theorem sub13 {a1 a2 a3 a4 a5 a6 a7 a8 a9 b1 b2 o k : Nat} : List.Sublist [a1, a2, a3, a4, a5, a6, a7, a8, a9, b1, b2, k] [a1, a2, a3, a4, a5, a6, a7, a8, a9, b1, b2, o, k] := by
  iterate 11 apply List.Sublist.cons_cons
  exact .cons _ (.refl _)
section
variable {w : World} {A : Around} {R : Result → Shared → Prop} {V : RV} {mo : Option Str} {dl pl : List (Str × Tok)}
theorem rd_next {s : Shared} {L : LV} {k : Nat} {ks : List Value} {kn kn' : List (Str × Int)} {v : Int} {p : Str × Tok} {ps : List (Str × Tok)} (hq : V.q k = some (.str p.1 p.2)) (b : Bs w s.heap (rdAds L V L.kp)) (u5 : Nat)
    (hps : foldV mo (dl.map (·.1)) kn (p :: ps) = (if v = 0 then [p] else []) ++ foldV mo (dl.map (·.1)) kn' ps)
    (next : ∀ (s' : Shared) (L' : LV) (es' : Array DictEntry) (ks' : List Value), s'.gens = s.gens → s'.drawn = s.drawn → s'.os = s.os → L' = { L with kp := L'.kp, ep := L'.ep, kep := L'.kep } → Bs w s'.heap (rdAds L' V L'.kp) → At s'.heap (rdAds L' V L'.kp) (rdObs w L' V (rdFr w L' V u5 (L'.kp + 214) (V.pv k)) (itO (V.ps + 214) (k + 1)) es' L'.ep ks' L'.kep) →
      (rdAds L' V L'.kp).Nodup → DRep es'.toList kn' → ks'.length ≤ ks.length + 1 → RdPost w R s' L' V ks' (foldV mo (dl.map (·.1)) kn' ps) → codeAny (model PR w) A (rdLp w V) R s')
    (hR : RdPost w R s L V ks (foldV mo (dl.map (·.1)) kn (p :: ps))) : Nx w L V u5 k ks (endF s (rdAds L V L.kp) (TurnEnd w A R)) kn' v := by
  refine ⟨fun hv n t es' ep' D' h' E => ⟨quiet_lp w V, ?_⟩, fun hv n t kp es' ep' D' h' E => ⟨quiet_lp w V, ?_⟩⟩
  · refine next ⟨h', s.gens, s.drawn, t, s.os⟩ { L with ep := ep' } es' ks rfl rfl rfl rfl (b.step E) E.toAt E.nd D' (Nat.le_succ _) ?_
    intro h2 t2 u2 el2 it2 kp2 es2 ep2 kep2 keep sz b2 at2 nd e1 e2
    rw [hps, if_neg hv, List.nil_append] at hR
    exact hR h2 t2 u2 el2 it2 kp2 es2 ep2 kep2 (fun b o e m => keep b o (E.keep b o e m) m) (by have := E.ge; have := E.size; exact Nat.le_trans (by rw [E.size]; exact E.ge) sz) b2 at2 nd e1 fun h => by
      have := e2 h
      exact ⟨Nat.le_trans (by show s.heap.objs.size ≤ h'.objs.size; rw [E.size]; exact E.ge) this.1, this.2⟩
  · have nd := E.nd
    have hkp : s.heap.objs.size ≤ kp := by
      rcases (E.at' (kp, _) (List.mem_append_right _ (.tail _ (.head _)))).2.2 with q | q
      · exfalso
        have nd' : (rdAds L V L.kp ++ [kp]).Nodup := nd
        exact (List.nodup_append.mp nd').2.2 kp q kp (.head _) rfl
      · exact q
    obtain ⟨kp', rfl⟩ : ∃ kp', kp = kp' + 214 := ⟨kp - 214, by have := b.B; omega⟩
    obtain ⟨c1, c2, c3, c4, c5, c6, c7, c8, c9, d1, d2, d0, d3, _⟩ := E.toAt
    have bs := (b.step E).sub (D' := rdAds L V kp') fun a m => sub13.subset m
    have ep : V.pv k = .str p.1 p.2 := by unfold RV.pv; rw [hq]; rfl
    have ek : lstA ((Array.mk ks) ++ #[V.pv k]) 0 = lst (ks ++ [.str p.1 p.2]) 0 := by rw [ep]; simp [lstA, lst]
    refine next ⟨h', s.gens, s.drawn, t, s.os⟩ { L with kp := kp', ep := ep', kep := 0 } es' (ks ++ [.str p.1 p.2]) rfl rfl rfl rfl bs ⟨c1, c2, c3, c4, c5, c6, c7, c8, c9, d1, d2, ek ▸ d3, trivial⟩ (nd.sublist sub13) D' (by simp) ?_
    intro h2 t2 u2 el2 it2 kp2 es2 ep2 kep2 keep sz b2 at2 nd2 e1 e2
    rw [hps, if_pos hv] at hR
    have ge : s.heap.objs.size ≤ h'.objs.size := by rw [E.size]; exact E.ge
    refine hR h2 t2 u2 el2 it2 kp2 es2 ep2 kep2 (fun b o e m => keep b o (E.keep b o e m) fun m2 => ?_) (Nat.le_trans ge sz) b2 ?_ nd2 (fun h => by simp at h) fun _ => ?_
    · have lt : (b : Nat) < s.heap.objs.size := Heap.lt_size e
      rcases List.mem_append.mp (show b ∈ rdA11 L V ++ [kp' + 214] from m2) with q | q
      · exact m (show b ∈ rdA11 L V ++ [L.kp + 214] from List.mem_append_left _ q)
      · rw [List.mem_singleton.mp q] at lt
        exact absurd lt (Nat.not_lt.mpr hkp)
    · have e3 : ks ++ [Value.str p.1 p.2] ++ dvals (foldV mo (dl.map (·.1)) kn' ps) = ks ++ dvals ([p] ++ foldV mo (dl.map (·.1)) kn' ps) := by simp [dvals]
      rw [← e3]
      exact at2
    · refine ⟨?_, keep _ _ d0 fun m2 => ?_⟩
      · by_cases hf : foldV mo (dl.map (·.1)) kn' ps = []
        · rw [(e1 hf).1]; exact hkp
        · exact Nat.le_trans ge (e2 hf).1
      · have nd' : (rdA11 L V ++ ([L.kp + 214] ++ [kp' + 214])).Nodup := nd
        have n2 := List.nodup_append.mp nd'
        rcases List.mem_append.mp (show L.kp + 214 ∈ rdA11 L V ++ [kp' + 214] from m2) with q | q
        · exact n2.2.2 _ q _ (.head _) rfl
        · exact (List.nodup_cons.mp n2.2.1).1 q
theorem foldV_cons {mo : Option Str} {dirs : List Str} {kn : List (Str × Int)} {p : Str × Tok} {ps : List (Str × Tok)} : foldV mo dirs kn (p :: ps) = (if (stepV mo dirs kn p.1).2 = 0 then [p] else []) ++ foldV mo dirs (stepV mo dirs kn p.1).1 ps := rfl
theorem stepV_len {mo : Option Str} {dirs : List Str} {kn : List (Str × Int)} {p : Str} : (stepV mo dirs kn p).1.length ≤ kn.length + 1 := by
  unfold stepV
  split <;> simp
theorem soV_of {w : World} {L L' : LV} {so : Obj} (e : L' = { L with kp := L'.kp, ep := L'.ep, kep := L'.kep }) (h : SoV w L mo so) : SoV w L' mo so := by
  rw [e]
  cases mo with
  | none => exact h
  | some md => exact h
theorem rd_loop (ha : A.handled = none) (hd : A.depth + 180 < recursionLimit) (hu : A.units + 360 < cLine) (hi : V.items = ⟨dvals pl⟩) (hp : ∀ p ∈ pl, isPth p.1 = true) (hdl : V.dirs = dvals dl) (ok : ∀ d ∈ dl, okDir d.1) (hl : dl.length ≤ 3) :
    ∀ (n k : Nat) (s : Shared) (L : LV) (fr : Obj) (es : Array DictEntry) (ks : List Value) (kn : List (Str × Int)), pl.length = k + n → kn.length + n ≤ 1000 → ks.length + n ≤ 1000 → SoV w L mo V.so → Bs w s.heap (rdAds L V L.kp) → At s.heap (rdAds L V L.kp) (rdObs w L V fr (itO (V.ps + 214) k) es L.ep ks L.kep) → (rdAds L V L.kp).Nodup →
      DRep es.toList kn → ((∃ u5 el, fr = rdFr w L V u5 (L.kp + 214) el) ∨ (0 < n ∧ fr = rdF5 w L V (L.kp + 214))) → RdPost w R s L V ks (foldV mo (dl.map (·.1)) kn (pl.drop k)) → codeAny (model PR w) A (rdLp w V) R s := by
  intro n
  induction n with
  | zero =>
    intro k s L fr es ks kn hk h1 h2 hso b hat hn D hfr hR
    have hfr' : ∃ u5 el, fr = rdFr w L V u5 (L.kp + 214) el := hfr.resolve_right fun h => absurd h.1 (Nat.lt_irrefl 0)
    have e : pl[k]? = none := by simp; omega
    have e2 : pl.drop k = [] := by simp; omega
    have hq : V.q k = none := by rw [q_of hi, e]; rfl
    refine rd_turn ha hd hu b hat hn hso (.inr hfr') ⟨fun _ h' E => ⟨quiet_bl w _, ?_⟩, .inl hq, D, by omega, by omega, hdl, ok, hl⟩
    obtain ⟨u5, el, rfl⟩ := hfr'
    have b' := b.step E
    refine bl_spec (s := ⟨h', s.gens, s.drawn, s.toks, s.os⟩) ha (by omega) (by omega) b' fun h2 keep sz => ?_
    rw [e2] at hR
    have sz' : h2.objs.size = s.heap.objs.size + 2 := by rw [sz]; exact E.size
    have bs2 : Bs w h2 (rdAds L V L.kp) := ⟨fun a o e => ⟨keep a o (b'.K a o e).1, (b'.K a o e).2⟩, b'.L.at fun o e => keep _ _ e, by rw [sz']; have := b.B; omega⟩
    obtain ⟨c1, c2, c3, c4, c5, c6, c7, c8, c9, d1, d2, d3, _⟩ := E.toAt
    refine hR h2 s.toks u5 el _ L.kp es L.ep L.kep (fun b o e m => keep b o (E.keep b o e m)) (by rw [sz']; omega) bs2 ⟨keep _ _ c1, keep _ _ c2, keep _ _ c3, keep _ _ c4, keep _ _ c5, keep _ _ c6, keep _ _ c7, keep _ _ c8, keep _ _ c9, keep _ _ d1, keep _ _ d2, ?_, trivial⟩ hn (fun _ => ⟨rfl, rfl⟩) fun h => absurd rfl h
    show h2.get? (L.kp + 214) = some (lst (ks ++ dvals (foldV mo (dl.map (·.1)) kn [])) L.kep)
    rw [show ks ++ dvals (foldV mo (dl.map (·.1)) kn []) = ks from List.append_nil _]
    exact keep _ _ d3
  | succ n ih =>
    intro k s L fr es ks kn hk h1 h2 hso b hat hn D hfr hR
    have hlt : k < pl.length := by omega
    have e : pl[k]? = some pl[k] := List.getElem?_eq_getElem hlt
    have e2 : pl.drop k = pl[k] :: pl.drop (k + 1) := List.drop_eq_getElem_cons hlt
    have hq : V.q k = some (.str pl[k].1 pl[k].2) := by rw [q_of hi, e]; rfl
    rw [e2] at hR
    refine rd_turn ha hd hu b hat hn hso (hfr.elim .inr fun h => .inl h.2) ⟨fun h => absurd (hq.symm.trans h) (by simp), .inr ⟨pl[k], hq, hp _ (List.getElem_mem hlt), fun u5 => ?_⟩, D, by omega, by omega, hdl, ok, hl⟩
    refine rd_next hq b u5 foldV_cons (fun s' L' es' ks' g1 g2 g3 eL b' at' nd' D' lk hR' => ?_) hR
    have := stepV_len (mo := mo) (dirs := dl.map (·.1)) (kn := kn) (p := pl[k].1)
    exact ih (k + 1) s' L' _ es' ks' _ (by omega) (by omega) (by omega) (soV_of eL hso) b' at' nd' D' (.inl ⟨u5, _, rfl⟩) hR'
end
noncomputable def zRL (w : World) (L : LV) (V : RV) (mo : Option Str) (pl dl : List (Str × Tok)) (kn : List (Str × Int)) (es : Array DictEntry) : Summ where
  code := rdLp w V
  pre := rdAds L V L.kp
  objs := rdObs w L V (rdF5 w L V (L.kp + 214)) (itO (V.ps + 214) 0) es L.ep [] L.kep
  P := (V.items = ⟨dvals pl⟩ ∧ pl ≠ [] ∧ (∀ p ∈ pl, isPth p.1 = true)) ∧ (V.dirs = dvals dl ∧ (∀ d ∈ dl, okDir d.1) ∧ dl.length ≤ 3) ∧ SoV w L mo V.so ∧ DRep es.toList kn ∧ kn.length + pl.length ≤ 1000
  k := 8
  b := (foldV mo (dl.map (·.1)) kn pl).isEmpty
  F := fun b xs => @Bool.rec (fun _ => Out)
    ⟨.ok .next, (rdObs w L V (rdFr w L V (gx 2 xs) (gx 6 xs + 214) (gV 3 xs)) (gO 4 xs) #[] 0 [] L.kep).set 8 (gO 5 xs), [(gx 6 xs + 214, lst (dvals (foldV mo (dl.map (·.1)) kn pl)) (gx 7 xs))], gx 0 xs + 214, gx 1 xs⟩
    ⟨.ok .next, (rdObs w L V (rdFr w L V (gx 2 xs) (L.kp + 214) (gV 3 xs)) (gO 4 xs) #[] 0 [] L.kep).set 8 (gO 5 xs), [], gx 0 xs + 214, gx 1 xs⟩ b
theorem zRL_ok (w : World) (L : LV) (V : RV) (mo : Option Str) (pl dl : List (Str × Tok)) (kn : List (Str × Int)) (es : Array DictEntry) : SummOk w (zRL w L V mo pl dl kn es) 180 := by
  intro ⟨⟨hi, hne, hp⟩, ⟨hdl, ok, hl⟩, hso, D, hlen⟩ A s R ha hd hu hK hL hB hn hat h
  have h' := h
  obtain ⟨p0, ps0, e0⟩ := List.exists_cons_of_ne_nil hne
  refine rd_loop ha hd (by omega) hi hp hdl ok hl pl.length 0 s L _ es [] kn (by omega) hlen (by have := hlen; show 0 + pl.length ≤ 1000; omega) hso ⟨hK, hL, hB⟩ hat hn D (.inr ⟨by rw [e0]; exact Nat.succ_pos _, rfl⟩) ?_
  intro h2 t2 u5 el it' kp' es' ep' kep' keep sz b2 at2 nd e1 e2
  obtain ⟨c1, c2, c3, c4, c5, c6, c7, c8, c9, d1, d2, d3, _⟩ := at2
  have sz2 : h2.objs.size = h2.objs.size - 214 + 214 := by have := b2.B; omega
  by_cases hf : foldV mo (dl.map (·.1)) kn pl = []
  · obtain ⟨k1, k2⟩ := e1 hf
    have hb : (zRL w L V mo pl dl kn es).b = true := by show (foldV mo (dl.map (·.1)) kn pl).isEmpty = true; rw [hf]; rfl
    rw [hb] at h
    refine h [dn (h2.objs.size - 214), dn t2, dn u5, ⟨0, default, el⟩, ⟨0, it', default⟩, ⟨0, dObj es' ep', default⟩, dn 0, dn 0] h2 rfl ⟨sz2, Nat.le_trans sz (Nat.le_of_eq sz2), ?_, (fun y hy => nomatch hy), List.nodup_nil, keep⟩
    subst k1
    refine ⟨c1, c2, c3, c4, c5, c6, c7, c8, c9, d1, d2, ?_, trivial⟩
    rw [show foldV mo (dl.map (·.1)) kn (pl.drop 0) = [] from hf, k2] at d3
    exact d3
  · obtain ⟨k1, k2⟩ := e2 hf
    have hb : (zRL w L V mo pl dl kn es).b = false := by
      show (foldV mo (dl.map (·.1)) kn pl).isEmpty = false
      cases hh : foldV mo (dl.map (·.1)) kn pl with
      | nil => exact absurd hh hf
      | cons _ _ => rfl
    rw [hb] at h
    refine h [dn (h2.objs.size - 214), dn t2, dn u5, ⟨0, default, el⟩, ⟨0, it', default⟩, ⟨0, dObj es' ep', default⟩, dn kp', dn kep'] h2 rfl ⟨sz2, Nat.le_trans sz (Nat.le_of_eq sz2), ⟨c1, c2, c3, c4, c5, c6, c7, c8, c9, d1, d2, k2, trivial⟩, ?_, List.nodup_cons.mpr ⟨by simp, List.nodup_nil⟩, keep⟩
    intro y hy
    rw [List.mem_singleton.mp hy]
    exact ⟨d3, k1⟩
end Mine
-- X9
namespace Mine
noncomputable section
noncomputable def fmFor (w : World) : Stmt := nthS 1 (stOf (tpo w 181))
noncomputable def fmIn (w : World) : Stmt := nthS 0 (forB (fmFor w))
noncomputable def fmEnv (w : World) (lo : Nat) : Env := { scope := (fdOf (tpo w 181)).scope, locals := lo, globals := 3, cells := [], qual := Str.ofString "filemode.<locals>.", func := some 181, code := .ref 180, frame := some lo, builtins := 0 }
noncomputable def fmLoop (w : World) (lo it : Nat) : Code := .forLoop (forT (fmFor w)) (.ref it) (forB (fmFor w)) (forE (fmFor w)) (fmEnv w lo)
noncomputable def fmInL (w : World) (lo it : Nat) : Code := .forLoop (forT (fmIn w)) (.ref it) (forB (fmIn w)) (forE (fmIn w)) (fmEnv w lo)
end
end Mine
-- X10
set_option maxHeartbeats 0
namespace Mine
noncomputable section
noncomputable abbrev zAnd : Int → Int → Int := PySem.W.ZFast.zw4806658248164788318
structure FV where
  (lo it ti pm t0 mt t1 t2 t3 t4 t5 : Nat)
  m : Int
noncomputable def fmTb : Nat → Nat × List (Int × Nat × Str × Nat)
  | 1 => (151, [(256, 393, Str.ofString "r", 418)])
  | 2 => (153, [(128, 395, Str.ofString "w", 419)])
  | 3 => (157, [(2112, 420, Str.ofString "s", 421), (2048, 387, Str.ofString "S", 422), (64, 397, Str.ofString "x", 423)])
  | 4 => (159, [(32, 399, Str.ofString "r", 424)])
  | 5 => (161, [(16, 401, Str.ofString "w", 425)])
  | 6 => (165, [(1032, 426, Str.ofString "s", 427), (1024, 389, Str.ofString "S", 428), (8, 403, Str.ofString "x", 429)])
  | 7 => (167, [(4, 405, Str.ofString "r", 430)])
  | 8 => (169, [(2, 407, Str.ofString "w", 431)])
  | _ => (173, [(513, 432, Str.ofString "t", 433), (512, 391, Str.ofString "T", 434), (1, 409, Str.ofString "x", 435)])
section
variable (w : World) (x T : Nat) (V : FV) (F : KF PySem.Fin) (i : Nat) (acc : Array Value) (e : Nat)
noncomputable def fmLp : Code := fmLoop w (V.lo + 214) (V.it + 214)
noncomputable def fmF2 : Obj := loc [eo w "mode" V.t0 (.int V.m V.mt), en w "perm" V.t1 (.ref (V.pm + 214))] 2
noncomputable def fmFr (iv tv bv cv : Value) : Obj := loc [eo w "mode" V.t0 (.int V.m V.mt), en w "perm" V.t1 (.ref (V.pm + 214)), en w "index" V.t2 iv, en w "table" V.t3 tv, en w "bit" V.t4 bv, en w "char" V.t5 cv] 6
noncomputable def fmEn (V : FV) (i : Int) (ov : Value) : Obj := { cls := .type "enumerate", data := .fields #[.none, .bool false, .ref (V.ti + 214), .int i 0, .none, ov] }
noncomputable def fmTi (i : Int) : Obj := { cls := .type "tuple_iterator", data := .fields #[.ref 174, .int i 0] }
noncomputable def apO (acc : Array Value) (e : Nat) (v : Value) : Obj := lstA (acc.push v) (if ((acc.push v).size == acc.size) = true then e else e + 1)
noncomputable def fmLf (tb : Nat) (v : Value) (n t : Nat) (V' : FV) (bv cv : Value) : VT := chain [(decide (Array.size (acc.push v) > 16777217), false)]
  (.leaf (F (.ok (.again (fmLp w V))) (x + 214 + n) (T + t) [(V.lo + 214, fmFr w V' (.int i T) (.ref tb) bv cv), (V.it + 214, fmEn V (i + 1) (.ref tb)), (V.ti + 214, fmTi (i + 1)), (V.pm + 214, apO acc e v)]))
noncomputable def fmD (tb : Nat) (l : List (Int × Nat × Str × Nat)) (j : Nat) (bv cv : Value) : VT := @List.rec (Int × Nat × Str × Nat) (fun _ => Nat → Value → Value → VT)
  (fun j bv cv => chain [(false, false)] (fmLf w x T V F i acc e tb (.str (Str.ofString "-") (T + (4 + 4 * j))) (7 + 3 * j) (5 + 4 * j) V bv cv))
  (fun q _ ih j _ _ => chain [(false, false)] (.dec (zAnd V.m q.1 == q.1) (ih (j + 1) (.int q.1 q.2.1) (.str q.2.2.1 q.2.2.2)) (fmLf w x T V F i acc e tb (.str q.2.2.1 q.2.2.2) (8 + 3 * j) (7 + 4 * j) V (.int q.1 q.2.1) (.str q.2.2.1 q.2.2.2)))) l j bv cv
noncomputable def v_fm : VT := fmD w x T V F i acc e (fmTb i).1 (fmTb i).2 0 .none .none
noncomputable def fmC0 (m : Int) : List (Bool × Bool) := [(true, true), (zAnd m 61440 == 40960, false), (true, true), (zAnd m 61440 == 49152, false), (true, true), (zAnd m 61440 == 32768, false), (true, true), (zAnd m 61440 == 24576, false), (true, true), (zAnd m 61440 == 16384, true)]
noncomputable def v_fm0 : VT := chain (fmC0 V.m) (fmLf w x T V F 0 acc e 149 (.str (Str.ofString "d") 415) 25 33 { V with t2 := T + 1, t3 := T + 2, t4 := T + 3, t5 := T + 4 } (.int 16384 366) (.str (Str.ofString "d") 415))
noncomputable def v_fme (fr : Obj) (ov : Value) : VT := .leaf (F (.ok (.again (.block (forE (fmFor w)) (fmEnv w (V.lo + 214))))) (x + 214 + 2) T [(V.lo + 214, fr), (V.it + 214, fmEn V 10 ov), (V.ti + 214, { cls := .type "tuple_iterator", data := .fields #[.none, .int 10 0] }), (V.pm + 214, lstA acc e)])
end
end
end Mine
-- G1
set_option maxHeartbeats 0
namespace Mine
noncomputable def q_fm0 (W : World) (w : World) (x T : Nat) (V : FV) (acc : Array Value) (e : Nat) (F : KF PySem.Fin) (ρ : Stream) : VT := (ex ⟨PR, W.params⟩ (mkZ w []) 1500).r PySem.Fin 14 (forR 0 (forT (fmFor w)) (.ref (V.it + 214)) (forB (fmFor w)) (forE (fmFor w)) (fmEnv w (V.lo + 214))) [2, 0, 2, 0, 2, 3, 0, 3, 0, 3, 3, 0, 3, 3, 2, 2, 2, 2, 2, 2, 2, 2, 2, 2, 2, 2, 2, 2, 2, 2, 2, 5, 5, 5, 0, 5, 0, 6, 6, 0, 6, 0, 6, 6, 5, 6, 6, 6, 0, 6, 0, 6, 6, 5, 6, 6, 6, 0, 6, 0, 6, 6, 5, 6, 6, 8, 1, 1, 1, 1, 1, 0, 0, 0, 0, 0, 9, 0, 9, 0, 9, 0, 9, 9, 0, 9, 9, 9, 0, 0, 0, 0, 0, 0, 10, 10, 0, 10, 0, 10, 10, 0, 10, 10, 10, 0, 10, 0, 10, 10, 0, 10, 10, 10, 0, 10, 0, 10, 10, 0, 10, 10, 12, 1, 1, 1, 1, 1, 0, 2, 6, 1, 0, 1, 0, 1, 0, 0, 13, 13, 0, 13, 0, 0, 1, 0, 2, 6, 0, 0, 9, 0, 9, 0, 9, 9, 0, 9, 9, 9, 0, 0, 0, 0, 0, 0, 14, 14, 0, 14, 0, 14, 14, 0, 14, 14, 14, 0, 14, 0, 14, 14, 0, 14, 14, 14, 0, 14, 0, 14, 14, 0, 14, 14, 16, 1, 1, 1, 1, 1, 0, 2, 6, 1, 0, 1, 0, 1, 0, 0, 17, 17, 0, 17, 0, 0, 1, 0, 2, 6, 0, 0, 9, 0, 9, 0, 9, 9, 0, 9, 9, 9, 0, 0, 0, 0, 0, 0, 18, 18, 0, 18, 0, 18, 18, 0, 18, 18, 18, 0, 18, 0, 18, 18, 0, 18, 18, 18, 0, 18, 0, 18, 18, 0, 18, 18, 20, 1, 1, 1, 1, 1, 0, 2, 6, 1, 0, 1, 0, 1, 0, 0, 21, 21, 0, 21, 0, 0, 1, 0, 2, 6, 0, 0, 9, 0, 9, 0, 9, 9, 0, 9, 9, 9, 0, 0, 0, 0, 0, 0, 22, 22, 0, 22, 0, 22, 22, 0, 22, 22, 22, 0, 22, 0, 22, 22, 0, 22, 22, 22, 0, 22, 0, 22, 22, 0, 22, 22, 24, 1, 1, 1, 1, 1, 0, 2, 6, 1, 0, 1, 0, 1, 0, 0, 25, 25, 0, 25, 0, 0, 1, 0, 2, 6, 0, 0, 9, 0, 9, 0, 9, 9, 0, 9, 9, 9, 0, 0, 0, 0, 0, 0, 26, 26, 0, 26, 0, 26, 26, 0, 26, 26, 26, 0, 26, 0, 26, 26, 0, 26, 26, 26, 0, 26, 0, 26, 26, 0, 26, 26, 28, 1, 1, 1, 1, 1, 0, 2, 6, 1, 0, 1, 0, 1, 0, 0, 29, 29, 0, 29, 0, 0, 1, 0, 2, 6, 1, 1, 4, 4, 4, 4, 1, 0, 4, 2, 11, 4, 4, 4, 0, 0, 1, 2, 3] ⟨[V.lo + 214, V.it + 214, V.ti + 214, V.pm + 214], [fmF2 w V, fmEn V 0 .none, fmTi 0, lstA acc e], (x + 214), 0, T, 0, .n, ρ⟩ (leafS F)
noncomputable def q_fm1 (W : World) (w : World) (x T : Nat) (i : Nat) (V : FV) (acc : Array Value) (e : Nat) (iv : Value) (tv : Value) (bv : Value) (cv : Value) (ov : Value) (F : KF PySem.Fin) (ρ : Stream) : VT := (ex ⟨PR, W.params⟩ (mkZ w []) 1500).r PySem.Fin 14 (forR 0 (forT (fmFor w)) (.ref (V.it + 214)) (forB (fmFor w)) (forE (fmFor w)) (fmEnv w (V.lo + 214))) [2, 0, 2, 0, 2, 3, 0, 3, 0, 3, 3, 0, 3, 3, 2, 2, 2, 2, 2, 2, 2, 2, 2, 2, 2, 2, 2, 2, 2, 2, 2, 5, 5, 5, 0, 5, 0, 6, 6, 0, 6, 0, 6, 6, 5, 6, 6, 6, 0, 6, 0, 6, 6, 5, 6, 6, 6, 0, 6, 0, 6, 6, 5, 6, 6, 8, 1, 1, 1, 1, 1, 0, 0, 0, 0, 0, 9, 0, 9, 0, 9, 0, 9, 9, 0, 9, 9, 9, 0, 0, 0, 0, 0, 0, 10, 10, 0, 10, 0, 10, 10, 0, 10, 10, 10, 0, 10, 0, 10, 10, 0, 10, 10, 10, 0, 10, 0, 10, 10, 0, 10, 10, 12, 1, 1, 1, 1, 1, 0, 2, 6, 0, 1, 1, 0, 0, 1, 0, 2, 6, 2] ⟨[V.lo + 214, V.it + 214, V.ti + 214, V.pm + 214], [fmFr w V iv tv bv cv, fmEn V i ov, fmTi i, lstA acc e], (x + 214), 0, T, 0, (.b [0, 9, 0, 9, 0, 9, 9, 0, 9, 9, 14, 0, 1, 0, 2, 6, 0, 1, 4, 4, 4, 4, 0, 4, 2, 11, 4, 4, 4, 0, 0, 1, 2, 3] .n [1, 4, 4, 4, 4, 1, 0, 4, 2, 11, 4, 4, 4, 0, 0, 1, 2, 3] .n), ρ⟩ (leafS F)
noncomputable def q_fm3 (W : World) (w : World) (x T : Nat) (i : Nat) (V : FV) (acc : Array Value) (e : Nat) (iv : Value) (tv : Value) (bv : Value) (cv : Value) (ov : Value) (F : KF PySem.Fin) (ρ : Stream) : VT := (ex ⟨PR, W.params⟩ (mkZ w []) 1500).r PySem.Fin 14 (forR 0 (forT (fmFor w)) (.ref (V.it + 214)) (forB (fmFor w)) (forE (fmFor w)) (fmEnv w (V.lo + 214))) [2, 0, 2, 0, 2, 3, 0, 3, 0, 3, 3, 0, 3, 3, 2, 2, 2, 2, 2, 2, 2, 2, 2, 2, 2, 2, 2, 2, 2, 2, 2, 5, 5, 5, 0, 5, 0, 6, 6, 0, 6, 0, 6, 6, 5, 6, 6, 6, 0, 6, 0, 6, 6, 5, 6, 6, 6, 0, 6, 0, 6, 6, 5, 6, 6, 8, 1, 1, 1, 1, 1, 0, 0, 0, 0, 0, 9, 0, 9, 0, 9, 0, 9, 9, 0, 9, 9, 9, 0, 0, 0, 0, 0, 0, 10, 10, 0, 10, 0, 10, 10, 0, 10, 10, 10, 0, 10, 0, 10, 10, 0, 10, 10, 10, 0, 10, 0, 10, 10, 0, 10, 10, 12, 1, 1, 1, 1, 1, 0, 2, 6, 0, 1, 1, 0, 0, 1, 0, 2, 6, 2] ⟨[V.lo + 214, V.it + 214, V.ti + 214, V.pm + 214], [fmFr w V iv tv bv cv, fmEn V i ov, fmTi i, lstA acc e], (x + 214), 0, T, 0, (.b [0, 9, 0, 9, 0, 9, 9, 0, 9, 9, 9, 0, 0, 0, 0, 0, 0, 13, 13, 0, 13, 0, 13, 13, 0, 13, 13, 13, 0, 13, 0, 13, 13, 0, 13, 13, 13, 0, 13, 0, 13, 13, 0, 13, 13, 15, 1, 1, 1, 1, 1, 0, 2, 6, 0, 1, 1, 0, 0, 1, 0, 2, 6, 2] (.b [0, 9, 0, 9, 0, 9, 9, 0, 9, 9, 9, 0, 0, 0, 0, 0, 0, 16, 16, 0, 16, 0, 16, 16, 0, 16, 16, 16, 0, 16, 0, 16, 16, 0, 16, 16, 16, 0, 16, 0, 16, 16, 0, 16, 16, 18, 1, 1, 1, 1, 1, 0, 2, 6, 0, 1, 1, 0, 0, 1, 0, 2, 6, 2] (.b [0, 9, 0, 9, 0, 9, 9, 0, 9, 9, 20, 0, 1, 0, 2, 6, 0, 1, 4, 4, 4, 4, 0, 4, 2, 11, 4, 4, 4, 0, 0, 1, 2, 3] .n [1, 4, 4, 4, 4, 1, 0, 4, 2, 11, 4, 4, 4, 0, 0, 1, 2, 3] .n) [1, 4, 4, 4, 4, 1, 0, 4, 2, 11, 4, 4, 4, 0, 0, 1, 2, 3] .n) [1, 4, 4, 4, 4, 1, 0, 4, 2, 11, 4, 4, 4, 0, 0, 1, 2, 3] .n), ρ⟩ (leafS F)
noncomputable def q_fme (W : World) (w : World) (x T : Nat) (V : FV) (acc : Array Value) (e : Nat) (iv : Value) (tv : Value) (bv : Value) (cv : Value) (ov : Value) (F : KF PySem.Fin) (ρ : Stream) : VT := (ex ⟨PR, W.params⟩ (mkZ w []) 1500).r PySem.Fin 14 (forR 0 (forT (fmFor w)) (.ref (V.it + 214)) (forB (fmFor w)) (forE (fmFor w)) (fmEnv w (V.lo + 214))) [2, 0, 2, 0, 2, 3, 0, 3, 0, 3, 3, 0, 3, 3, 6, 0, 1, 2, 3] ⟨[V.lo + 214, V.it + 214, V.ti + 214, V.pm + 214], [fmFr w V iv tv bv cv, fmEn V 10 ov, fmTi 10, lstA acc e], (x + 214), 0, T, 0, .n, ρ⟩ (leafS F)
theorem k_fm0 (w : World) (x T : Nat) (V : FV) (acc : Array Value) (e : Nat) (F : KF PySem.Fin) (ρ : Stream) : EqV (q_fm0 w w x T V acc e F ρ) (v_fm0 w x T V F acc e) := row1 (P := fun W => EqV (q_fm0 W w x T V acc e F ρ) (v_fm0 w x T V F acc e)) "special-get-raises" fun b => by unfold EqV; cases b <;> kernel_rfl
theorem k_fme (w : World) (x T : Nat) (V : FV) (acc : Array Value) (e : Nat) (iv tv bv cv ov : Value) (F : KF PySem.Fin) (ρ : Stream) : EqV (q_fme w w x T V acc e iv tv bv cv ov F ρ) (v_fme w x T V F acc e (fmFr w V iv tv bv cv) ov) := row1 (P := fun W => EqV (q_fme W w x T V acc e iv tv bv cv ov F ρ) (v_fme w x T V F acc e (fmFr w V iv tv bv cv) ov)) "special-get-raises" fun b => by unfold EqV; cases b <;> kernel_rfl
theorem k_fm1 (w : World) (x T : Nat) (V : FV) (acc : Array Value) (e : Nat) (iv tv bv cv ov : Value) (F : KF PySem.Fin) (ρ : Stream) : EqV (q_fm1 w w x T 1 V acc e iv tv bv cv ov F ρ) (v_fm w x T V F 1 acc e) := row1 (P := fun W => EqV (q_fm1 W w x T 1 V acc e iv tv bv cv ov F ρ) (v_fm w x T V F 1 acc e)) "special-get-raises" fun b => by unfold EqV; cases b <;> kernel_rfl
theorem k_fm2 (w : World) (x T : Nat) (V : FV) (acc : Array Value) (e : Nat) (iv tv bv cv ov : Value) (F : KF PySem.Fin) (ρ : Stream) : EqV (q_fm1 w w x T 2 V acc e iv tv bv cv ov F ρ) (v_fm w x T V F 2 acc e) := row1 (P := fun W => EqV (q_fm1 W w x T 2 V acc e iv tv bv cv ov F ρ) (v_fm w x T V F 2 acc e)) "special-get-raises" fun b => by unfold EqV; cases b <;> kernel_rfl
theorem k_fm3 (w : World) (x T : Nat) (V : FV) (acc : Array Value) (e : Nat) (iv tv bv cv ov : Value) (F : KF PySem.Fin) (ρ : Stream) : EqV (q_fm3 w w x T 3 V acc e iv tv bv cv ov F ρ) (v_fm w x T V F 3 acc e) := row1 (P := fun W => EqV (q_fm3 W w x T 3 V acc e iv tv bv cv ov F ρ) (v_fm w x T V F 3 acc e)) "special-get-raises" fun b => by unfold EqV; cases b <;> kernel_rfl
theorem k_fm4 (w : World) (x T : Nat) (V : FV) (acc : Array Value) (e : Nat) (iv tv bv cv ov : Value) (F : KF PySem.Fin) (ρ : Stream) : EqV (q_fm1 w w x T 4 V acc e iv tv bv cv ov F ρ) (v_fm w x T V F 4 acc e) := row1 (P := fun W => EqV (q_fm1 W w x T 4 V acc e iv tv bv cv ov F ρ) (v_fm w x T V F 4 acc e)) "special-get-raises" fun b => by unfold EqV; cases b <;> kernel_rfl
theorem k_fm5 (w : World) (x T : Nat) (V : FV) (acc : Array Value) (e : Nat) (iv tv bv cv ov : Value) (F : KF PySem.Fin) (ρ : Stream) : EqV (q_fm1 w w x T 5 V acc e iv tv bv cv ov F ρ) (v_fm w x T V F 5 acc e) := row1 (P := fun W => EqV (q_fm1 W w x T 5 V acc e iv tv bv cv ov F ρ) (v_fm w x T V F 5 acc e)) "special-get-raises" fun b => by unfold EqV; cases b <;> kernel_rfl
theorem k_fm6 (w : World) (x T : Nat) (V : FV) (acc : Array Value) (e : Nat) (iv tv bv cv ov : Value) (F : KF PySem.Fin) (ρ : Stream) : EqV (q_fm3 w w x T 6 V acc e iv tv bv cv ov F ρ) (v_fm w x T V F 6 acc e) := row1 (P := fun W => EqV (q_fm3 W w x T 6 V acc e iv tv bv cv ov F ρ) (v_fm w x T V F 6 acc e)) "special-get-raises" fun b => by unfold EqV; cases b <;> kernel_rfl
theorem k_fm7 (w : World) (x T : Nat) (V : FV) (acc : Array Value) (e : Nat) (iv tv bv cv ov : Value) (F : KF PySem.Fin) (ρ : Stream) : EqV (q_fm1 w w x T 7 V acc e iv tv bv cv ov F ρ) (v_fm w x T V F 7 acc e) := row1 (P := fun W => EqV (q_fm1 W w x T 7 V acc e iv tv bv cv ov F ρ) (v_fm w x T V F 7 acc e)) "special-get-raises" fun b => by unfold EqV; cases b <;> kernel_rfl
theorem k_fm8 (w : World) (x T : Nat) (V : FV) (acc : Array Value) (e : Nat) (iv tv bv cv ov : Value) (F : KF PySem.Fin) (ρ : Stream) : EqV (q_fm1 w w x T 8 V acc e iv tv bv cv ov F ρ) (v_fm w x T V F 8 acc e) := row1 (P := fun W => EqV (q_fm1 W w x T 8 V acc e iv tv bv cv ov F ρ) (v_fm w x T V F 8 acc e)) "special-get-raises" fun b => by unfold EqV; cases b <;> kernel_rfl
theorem k_fm9 (w : World) (x T : Nat) (V : FV) (acc : Array Value) (e : Nat) (iv tv bv cv ov : Value) (F : KF PySem.Fin) (ρ : Stream) : EqV (q_fm3 w w x T 9 V acc e iv tv bv cv ov F ρ) (v_fm w x T V F 9 acc e) := row1 (P := fun W => EqV (q_fm3 W w x T 9 V acc e iv tv bv cv ov F ρ) (v_fm w x T V F 9 acc e)) "special-get-raises" fun b => by unfold EqV; cases b <;> kernel_rfl
end Mine
-- G2
namespace Mine
theorem blk_nil {w : World} {A : Around} {env : Env} {R : Result → Shared → Prop} {s : Shared} (h : R (.ok .next) s) : codeAny (model PR w) A (.block [] env) R s := by
  refine x_codeT ?_
  have e : denote treeTable (.block [] env) = pure (.done .next) := by kernel_rfl
  rw [e]
  exact wpAny_pure h
noncomputable def fmPick (m : Int) : List (Int × Nat × Str × Nat) → Str
  | [] => Str.ofString "-"
  | q :: l => bif zAnd m q.1 == q.1 then q.2.2.1 else fmPick m l
noncomputable def fmAds (V : FV) : List Nat := [V.lo + 214, V.it + 214, V.ti + 214, V.pm + 214]
noncomputable def fmObs (V : FV) (fr : Obj) (i : Int) (ov : Value) (acc : Array Value) (e : Nat) : List Obj := [fr, fmEn V i ov, fmTi i, lstA acc e]
theorem quiet_fm (w : World) (V : FV) : (fmLp w V).quiet = true := by kernel_rfl
section
variable {w : World} {A : Around} {s : Shared} {R : Result → Shared → Prop} {V : FV} {acc : Array Value} {e : Nat}
theorem fmLf_h {x T i tb n t : Nat} {v bv cv : Value} {V' : FV} {F : KF PySem.Fin} (hs : acc.size ≤ 1000) (h : F (.ok (.again (fmLp w V))) (x + 214 + n) (T + t) [(V.lo + 214, fmFr w V' (.int i T) (.ref tb) bv cv), (V.it + 214, fmEn V (i + 1) (.ref tb)), (V.ti + 214, fmTi (i + 1)), (V.pm + 214, apO acc e v)]) :
    (fmLf w x T V F i acc e tb v n t V' bv cv).Holds := by
  refine chain_h ?_ h
  have : decide (Array.size (acc.push v) > 16777217) = false := decide_eq_false (by rw [Array.size_push]; omega)
  rw [this]
  rfl
theorem fmD_h {x T i tb : Nat} {F : KF PySem.Fin} (hs : acc.size ≤ 1000) : ∀ (l : List (Int × Nat × Str × Nat)) (j : Nat) (bv cv : Value),
    (∀ u n t bv cv, F (.ok (.again (fmLp w V))) (x + 214 + n) (T + t) [(V.lo + 214, fmFr w V (.int i T) (.ref tb) bv cv), (V.it + 214, fmEn V (i + 1) (.ref tb)), (V.ti + 214, fmTi (i + 1)), (V.pm + 214, apO acc e (.str (fmPick V.m l) u))]) → (fmD w x T V F i acc e tb l j bv cv).Holds
  | [], j, bv, cv, h => by
    show (chain [(false, false)] (fmLf w x T V F i acc e tb (.str (Str.ofString "-") (T + (4 + 4 * j))) (7 + 3 * j) (5 + 4 * j) V bv cv)).Holds
    exact chain_h rfl (fmLf_h hs (h _ _ _ _ _))
  | q :: l, j, bv, cv, h => by
    show (chain [(false, false)] (.dec (zAnd V.m q.1 == q.1) (fmD w x T V F i acc e tb l (j + 1) (.int q.1 q.2.1) (.str q.2.2.1 q.2.2.2)) (fmLf w x T V F i acc e tb (.str q.2.2.1 q.2.2.2) (8 + 3 * j) (7 + 4 * j) V (.int q.1 q.2.1) (.str q.2.2.1 q.2.2.2)))).Holds
    refine chain_h rfl ⟨fun hq => fmD_h hs l (j + 1) _ _ ?_, fun hq => fmLf_h hs ?_⟩
    · intro u n t bv cv
      have z := h u n t bv cv
      unfold fmPick at z
      rw [hq] at z
      exact z
    · have z := h q.2.2.2 (8 + 3 * j) (7 + 4 * j) (.int q.1 q.2.1) (.str q.2.2.1 q.2.2.2)
      unfold fmPick at z
      rw [hq] at z
      exact z
noncomputable def FmNx (w : World) (A : Around) (R : Result → Shared → Prop) (s : Shared) (V V' : FV) (i : Nat) (acc : Array Value) (c : Str) : Prop :=
  ∀ h' t' u e' iv tv bv cv ov, (∀ b o, s.heap.get? b = some o → b ∉ fmAds V → h'.get? b = some o) → s.heap.objs.size ≤ h'.objs.size → Bs w h' (fmAds V) → At h' (fmAds V) (fmObs V (fmFr w V' iv tv bv cv) ((i + 1 : Nat) : Int) ov (acc.push (.str c u)) e') →
    codeAny (model PR w) A (fmLp w V) R ⟨h', s.gens, s.drawn, t', s.os⟩
theorem fm_end {i tb n t : Nat} {V' : FV} {x T : Nat} {c : Str} {u : Tok} {bv cv : Value} (b : Bs w s.heap (fmAds V)) (next : FmNx w A R s V V' i acc c) :
    endF s (fmAds V) (TurnEnd w A R) (.ok (.again (fmLp w V))) (x + 214 + n) (T + t) [(V.lo + 214, fmFr w V' (.int i T) (.ref tb) bv cv), (V.it + 214, fmEn V (i + 1) (.ref tb)), (V.ti + 214, fmTi (i + 1)), (V.pm + 214, apO acc e (.str c u))] := by
  intro h' E
  refine ⟨quiet_fm w V, ?_⟩
  exact next h' _ u _ _ _ _ _ _ E.keep (by rw [E.size]; exact E.ge) (b.step E) E.toAt
theorem fm_turn (ha : A.handled = none) (hd : A.depth + 100 < recursionLimit) (hu : A.units + 200 < cLine) (i : Nat) (h1 : 1 ≤ i) (h9 : i ≤ 9) {iv tv bv cv ov : Value} (b : Bs w s.heap (fmAds V)) (hn : (fmAds V).Nodup) (hs : acc.size ≤ 1000)
    (hat : At s.heap (fmAds V) (fmObs V (fmFr w V iv tv bv cv) i ov acc e)) (next : FmNx w A R s V V i acc (fmPick V.m (fmTb i).2)) : codeAny (model PR w) A (fmLp w V) R s := by
  obtain ⟨x, hx⟩ : ∃ x, s.heap.objs.size = x + 214 := ⟨s.heap.objs.size - 214, by have := b.B; omega⟩
  have rm : Room 0 A (14 + 1) := ⟨ha, by omega, by omega⟩
  have hv : ∀ ρ : Stream, (v_fm w x s.toks V (endF s (fmAds V) (TurnEnd w A R)) i acc e).Holds := fun _ => fmD_h hs _ 0 _ _ fun u n t bv cv => fm_end b next
  have rn := b.rn (need := 0) sums_nil hat hn
  have hd' : ∀ A : Around, A.units < cLine → Dn (model PR w) A (denote treeTable (fmLp w V)) (forR 0 (forT (fmFor w)) (.ref (V.it + 214)) (forB (fmFor w)) (forE (fmFor w)) (fmEnv w (V.lo + 214))) := fun A hu => dn_for hu 0 _ _ _ _ _
  match i, h1, h9, hat, hv, rn with
  | 1, _, _, hat, hv, rn => exact run_turnR rn rm hx rfl hd' (k_fm1 w x s.toks V acc e iv tv bv cv ov) hv
  | 2, _, _, hat, hv, rn => exact run_turnR rn rm hx rfl hd' (k_fm2 w x s.toks V acc e iv tv bv cv ov) hv
  | 3, _, _, hat, hv, rn => exact run_turnR rn rm hx rfl hd' (k_fm3 w x s.toks V acc e iv tv bv cv ov) hv
  | 4, _, _, hat, hv, rn => exact run_turnR rn rm hx rfl hd' (k_fm4 w x s.toks V acc e iv tv bv cv ov) hv
  | 5, _, _, hat, hv, rn => exact run_turnR rn rm hx rfl hd' (k_fm5 w x s.toks V acc e iv tv bv cv ov) hv
  | 6, _, _, hat, hv, rn => exact run_turnR rn rm hx rfl hd' (k_fm6 w x s.toks V acc e iv tv bv cv ov) hv
  | 7, _, _, hat, hv, rn => exact run_turnR rn rm hx rfl hd' (k_fm7 w x s.toks V acc e iv tv bv cv ov) hv
  | 8, _, _, hat, hv, rn => exact run_turnR rn rm hx rfl hd' (k_fm8 w x s.toks V acc e iv tv bv cv ov) hv
  | 9, _, _, hat, hv, rn => exact run_turnR rn rm hx rfl hd' (k_fm9 w x s.toks V acc e iv tv bv cv ov) hv
  | i + 10, _, h, _, _, _ => exact absurd h (by omega)
end
end Mine
-- G3
namespace Mine
noncomputable def tag : List Str → (Nat → Tok) → List (Str × Tok)
  | [], _ => []
  | s :: r, f => (s, f 0) :: tag r fun i => f (i + 1)
theorem tag_map : ∀ (l : List (Str × Tok)) (f : Nat → Tok), (∀ i (h : i < l.length), f i = (l[i]).2) → tag (l.map (·.1)) f = l
  | [], _, _ => rfl
  | p :: l, f, h => by
    have e := h 0 (by simp)
    show (p.1, f 0) :: tag (l.map (·.1)) _ = _
    rw [e, tag_map l _ fun i hi => h (i + 1) (by simpa using hi)]
    rfl
theorem tag_fst : ∀ (ss : List Str) (f : Nat → Tok), (tag ss f).map (·.1) = ss
  | [], _ => rfl
  | s :: r, f => by show s :: (tag r _).map (·.1) = _; rw [tag_fst r]
noncomputable def seqA (o : Obj) : Array Value := match o.data with
  | .seq xs _ => xs
  | _ => #[]
noncomputable def gF (k : Nat) (xs : List Dr) (i : Nat) : Tok := tokO ((seqA (gO k xs))[i]?)
noncomputable def dT (l : List (Str × Tok)) : Dr := ⟨0, lst (l.map fun p => .int 0 p.2) 0, default⟩
theorem gF_dT {xs : List Dr} {k : Nat} {l : List (Str × Tok)} (h : xs[k]? = some (dT l)) : tag (l.map (·.1)) (gF k xs) = l := by
  refine tag_map _ _ fun i hi => ?_
  unfold gF gO
  rw [nth_eq, h]
  show tokO ((Array.mk (l.map fun p => Value.int 0 p.2))[i]?) = _
  simp [hi, tokO]
noncomputable def zFo (z : Summ) : Code → Option Summ := fun c => match c with
  | .forLoop .. => some z
  | _ => none
theorem zFo_ok {w : World} {z : Summ} {need : Nat} (h : SummOk w z need) : SumOk w (zFo z) need := fun c z' e => by
  cases c <;> first | (cases e; exact h) | cases e
noncomputable def fmSs (m : Int) : Nat → Nat → List Str
  | _, 0 => []
  | i, n + 1 => fmPick m (fmTb i).2 :: fmSs m (i + 1) n
noncomputable def FmPost (w : World) (R : Result → Shared → Prop) (s : Shared) (V : FV) (acc : Array Value) (ss : List Str) : Prop :=
  ∀ h' t' t2 t3 t4 t5 iv tv bv cv it' ti' l e', (∀ b o, s.heap.get? b = some o → b ∉ fmAds V → h'.get? b = some o) → s.heap.objs.size ≤ h'.objs.size →
    At h' (fmAds V) [fmFr w { V with t2 := t2, t3 := t3, t4 := t4, t5 := t5 } iv tv bv cv, it', ti', lstA (acc ++ ⟨dvals l⟩) e'] → l.map (·.1) = ss → R (.ok .next) ⟨h', s.gens, s.drawn, t', s.os⟩
section
variable {w : World} {A : Around} {R : Result → Shared → Prop}
theorem fm_loop (ha : A.handled = none) (hd : A.depth + 100 < recursionLimit) (hu : A.units + 200 < cLine) : ∀ (n i : Nat) (V : FV) (s : Shared) (acc : Array Value) (e : Nat) (iv tv bv cv ov : Value), i + n = 10 → 1 ≤ i → Bs w s.heap (fmAds V) → (fmAds V).Nodup → acc.size ≤ i →
    At s.heap (fmAds V) (fmObs V (fmFr w V iv tv bv cv) i ov acc e) → FmPost w R s V acc (fmSs V.m i n) → codeAny (model PR w) A (fmLp w V) R s
  | 0, i, V, s, acc, e, iv, tv, bv, cv, ov, hi, h1, b, hn, hs, hat, hR => by
    have : i = 10 := by omega
    subst this
    obtain ⟨x, hx⟩ : ∃ x, s.heap.objs.size = x + 214 := ⟨s.heap.objs.size - 214, by have := b.B; omega⟩
    refine run_turnR (dp := 14) (b.rn (need := 0) sums_nil hat hn) ⟨ha, by omega, by omega⟩ hx rfl (fun A hu => dn_for hu 0 _ _ _ _ _) (k_fme w x s.toks V acc e iv tv bv cv ov) fun ρ => ?_
    intro h' E
    refine ⟨by kernel_rfl, blk_nil ?_⟩
    obtain ⟨c1, c2, c3, c4, _⟩ := E.toAt
    refine hR h' _ V.t2 V.t3 V.t4 V.t5 iv tv bv cv _ _ [] e E.keep (by rw [E.size]; exact E.ge) ⟨c1, c2, c3, ?_, trivial⟩ rfl
    show h'.get? (V.pm + 214) = some (lstA (acc ++ #[]) e)
    rw [Array.append_empty]
    exact c4
  | n + 1, i, V, s, acc, e, iv, tv, bv, cv, ov, hi, h1, b, hn, hs, hat, hR => by
    refine fm_turn ha hd hu i h1 (by omega) b hn (by omega) hat ?_
    intro h' t' u e' iv' tv' bv' cv' ov' keep sz b' at'
    refine fm_loop ha hd hu n (i + 1) V ⟨h', s.gens, s.drawn, t', s.os⟩ _ e' iv' tv' bv' cv' ov' (by omega) (by omega) b' hn (by rw [Array.size_push]; omega) at' ?_
    intro h2 t2 a2 a3 a4 a5 iv2 tv2 bv2 cv2 it2 ti2 l e2 keep2 sz2 at2 hl
    refine hR h2 t2 a2 a3 a4 a5 iv2 tv2 bv2 cv2 it2 ti2 ((fmPick V.m (fmTb i).2, u) :: l) e2 (fun b o g m => keep2 b o (keep b o g m) m) (Nat.le_trans sz sz2) ?_ (by simp [fmSs, hl])
    have ee : acc.push (.str (fmPick V.m (fmTb i).2) u) ++ ⟨dvals l⟩ = acc ++ ⟨dvals ((fmPick V.m (fmTb i).2, u) :: l)⟩ := by
      apply Array.toList_inj.mp
      simp [dvals]
    rw [← ee]
    exact at2
theorem fm_first (ha : A.handled = none) (hd : A.depth + 100 < recursionLimit) (hu : A.units + 200 < cLine) {V : FV} {s : Shared} (b : Bs w s.heap (fmAds V)) (hn : (fmAds V).Nodup) (hat : At s.heap (fmAds V) (fmObs V (fmF2 w V) 0 .none #[] 0)) (hm : (fmC0 V.m).all (fun e => e.1 == e.2) = true)
    (hR : FmPost w R s V #[] (Str.ofString "d" :: fmSs V.m 1 9)) : codeAny (model PR w) A (fmLp w V) R s := by
  obtain ⟨x, hx⟩ : ∃ x, s.heap.objs.size = x + 214 := ⟨s.heap.objs.size - 214, by have := b.B; omega⟩
  refine run_turnR (dp := 14) (b.rn (need := 0) sums_nil hat hn) ⟨ha, by omega, by omega⟩ hx rfl (fun A hu => dn_for hu 0 _ _ _ _ _) (k_fm0 w x s.toks V #[] 0) fun ρ => ?_
  refine chain_h hm (fmLf_h (by simp) ?_)
  intro h' E
  refine ⟨quiet_fm w V, ?_⟩
  refine fm_loop ha hd hu 9 1 { V with t2 := s.toks + 1, t3 := s.toks + 2, t4 := s.toks + 3, t5 := s.toks + 4 } ⟨h', s.gens, s.drawn, _, s.os⟩ _ _ _ _ _ _ _ rfl (Nat.le_refl _) (b.step E) hn (Nat.le_refl _) E.toAt ?_
  intro h2 t2 a2 a3 a4 a5 iv2 tv2 bv2 cv2 it2 ti2 l e2 keep2 sz2 at2 hl
  refine hR h2 t2 a2 a3 a4 a5 iv2 tv2 bv2 cv2 it2 ti2 ((Str.ofString "d", 415) :: l) e2 (fun b o g m => keep2 b o (E.keep b o g m) m) (Nat.le_trans (by show s.heap.objs.size ≤ h'.objs.size; rw [E.size]; exact E.ge) sz2) ?_ (by simp [hl])
  have ee : (#[] : Array Value).push (.str (Str.ofString "d") 415) ++ ⟨dvals l⟩ = #[] ++ ⟨dvals ((Str.ofString "d", 415) :: l)⟩ := by
    apply Array.toList_inj.mp
    simp [dvals]
  rw [← ee]
  exact at2
end
noncomputable def zFL (w : World) (V : FV) : Summ where
  code := fmLp w V
  pre := fmAds V
  objs := fmObs V (fmF2 w V) 0 .none #[] 0
  P := (fmC0 V.m).all (fun e => e.1 == e.2) = true
  k := 10
  b := true
  F := fun _ xs => ⟨.ok .next, [fmFr w { V with t2 := gx 0 xs, t3 := gx 1 xs, t4 := gx 2 xs, t5 := gx 3 xs } (gV 0 xs) (gV 1 xs) (gV 2 xs) (gV 3 xs), gO 4 xs, gO 5 xs, lst (dvals (tag (Str.ofString "d" :: fmSs V.m 1 9) (gF 6 xs))) (gx 7 xs)], [], gx 8 xs + 214, gx 9 xs⟩
theorem zFL_ok (w : World) (V : FV) : SummOk w (zFL w V) 100 := by
  intro hm A s R ha hd hu hK hL hB hn hat h
  refine fm_first ha hd (by omega) ⟨hK, hL, hB⟩ hn hat hm ?_
  intro h' t' a2 a3 a4 a5 iv tv bv cv it' ti' l e' keep sz at' hl
  have sz2 : h'.objs.size = h'.objs.size - 214 + 214 := by omega
  refine h [⟨a2, default, iv⟩, ⟨a3, default, tv⟩, ⟨a4, default, bv⟩, ⟨a5, default, cv⟩, ⟨0, it', default⟩, ⟨0, ti', default⟩, dT l, dn e', dn (h'.objs.size - 214), dn t'] h' rfl ⟨sz2, Nat.le_trans sz (Nat.le_of_eq sz2), ?_, (fun y hy => nomatch hy), List.nodup_nil, keep⟩
  obtain ⟨c1, c2, c3, c4, _⟩ := at'
  refine ⟨c1, c2, c3, ?_, trivial⟩
  show h'.get? (V.pm + 214) = some (lst (dvals (tag (Str.ofString "d" :: fmSs V.m 1 9) (gF 6 _))) e')
  rw [← hl, gF_dT rfl]
  rw [Array.empty_append] at c4
  exact c4
end Mine
-- G4
namespace Mine
noncomputable def epS (o : Obj) : Nat := match o.data with
  | .seq _ n => n
  | _ => 0
noncomputable def strsA (a : Array Value) : List Str := a.toList.map fun v => strO (some v)
theorem strsA_dvals (l : List (Str × Tok)) : strsA ⟨dvals l⟩ = l.map (·.1) := by
  unfold strsA dvals
  rw [List.map_map]
  rfl
noncomputable def mSR (a : Args) : Option (Str × Tok × Addr) := (arg2 a).bind fun p => (valS p.1).bind fun r0 => (valR p.2).map fun r1 => (r0.1, r0.2, r1)
theorem mSR_is {a : Args} {s : Str} {t : Tok} {d : Addr} (h : mSR a = some (s, t, d)) : a = ⟨[.str s t, .ref d], []⟩ := by
  obtain ⟨p, e0, h⟩ := Option.bind_eq_some_iff.mp h
  obtain ⟨r0, e1, h⟩ := Option.bind_eq_some_iff.mp h
  obtain ⟨r1, e2, h⟩ := Option.map_eq_some_iff.mp h
  cases h
  rw [arg2_is e0, valS_is e1, valR_is e2]
noncomputable def zJN (k : Nat) : Dyn := fun c os => (mBi "str.join" c).bind fun args => (mSR args).bind fun p => (nth k os).map fun o =>
  { code := c, pre := [p.2.2], objs := [lstA (seqA o) (epS o)], P := ∃ l, seqA o = ⟨dvals l⟩ ∧ JoinOk p.1 (l.map (·.1)) = true, k := 3, b := true, F := fun _ xs => ⟨.ok (.ret (.str (Txt.join p.1 (strsA (seqA o))) (gx 0 xs))), [lstA (seqA o) (epS o)], [], gx 1 xs + 214, gx 2 xs⟩ }
theorem zJN_ok (w : World) (k : Nat) : DynOk w (zJN k) 0 := by
  intro c os z e
  obtain ⟨args, e1, e⟩ := Option.bind_eq_some_iff.mp e
  obtain ⟨⟨sep, t, a⟩, e2, e⟩ := Option.bind_eq_some_iff.mp e
  obtain ⟨o, e3, e4⟩ := Option.map_eq_some_iff.mp e
  subst e4
  intro hP A s R ha hd hu hK hL hB hn hat h
  obtain ⟨l, hl, hok⟩ := hP
  show codeAny _ _ c R s
  rw [mBi_is e1, mSR_is e2]
  have g0 : s.heap.get? a = some (lstA (seqA o) (epS o)) := hat.1
  have hlst : s.heap.IsList a (strValues l).toArray := ⟨_, g0, rfl, epS o, by rw [hl]; rfl⟩
  have hok' := hok
  unfold JoinOk at hok
  rw [Bool.not_eq_true'] at hok
  refine codeAny_call_builtin F.slot_str_join.plain F.entry_str_join (F.slot_str_join.check _ _ _ _ _ _ _ _ (typeIs_str _ _ _) (F.args_str_join_2 _ _) (meets_str_join_list sep t a l hok _ _ _ R s ⟨hlst, post_join l ⟨joinFit_length hok, fun t' k' => ?_⟩⟩))
  have e5 : strsA (seqA o) = l.map (·.1) := by rw [hl, strsA_dvals]
  have z := h [dn t', dn (s.heap.objs.size - 214), dn k'] s.heap rfl ⟨by show _ = _ - 214 + 214; omega, by show _ ≤ _ - 214 + 214; omega, hat, (fun y hy => nomatch hy), List.nodup_nil, fun b o e _ => e⟩
  dsimp only at z
  rw [e5] at z
  exact z
end Mine
-- G5
set_option maxHeartbeats 0
namespace Mine
noncomputable section
noncomputable def fmW (x T t : Nat) (m : Int) : FV := ⟨x + 0, x + 3, x + 2, x + 1, T + 0, t, T + 1, 0, 0, 0, 0, m⟩
noncomputable def fmPO (m : Int) (ρ : Stream) : Obj := lst (dvals (tag (Str.ofString "d" :: fmSs m 1 9) (gF 6 (drawn 10 ρ)))) (ρ 7).n
noncomputable def fmS (m : Int) : Str := Txt.join (Str.ofString "") (Str.ofString "d" :: fmSs m 1 9)
end
noncomputable def q_fmc (W : World) (w : World) (x T : Nat) (m : Int) (t : Nat) (F : KF Flow) (ρ : Stream) : VT := (ex ⟨PR, W.params⟩ (mkZ w [zFo (zFL w (fmW x T t m))] [zJN 1] [sEN]) 1500).c 14 (.call (.ref 181) ⟨[.int m t], []⟩) [1, 0, 0, 1, 1, 0, 1, 1, 0, 0, 0, 0, 0, 0, 2, 31, 0, 0, 0, 0, 0, 3, 4, 4, 0, 4, 0, 4, 4, 4, 0, 4, 0, 4, 3, 0, 0, 3, 2, 1, 1, 1, 4, 0, 1, 1] ⟨[], [], (x + 214), 0, T, 0, .n, ρ⟩ (leafC F)
noncomputable def v_fmc (w : World) (x T : Nat) (m : Int) (t : Nat) (F : KF Flow) (ρ : Stream) : VT := .claim (zFL w (fmW x T t m)).P (chain [(true, true)] (.claim (∃ l, seqA (fmPO m ρ) = ⟨dvals l⟩ ∧ JoinOk (Str.ofString "") (l.map (·.1)) = true) (chain [(true, true)] (.leaf (F (.ok (.ret (.str (Txt.join (Str.ofString "") (strsA (seqA (fmPO m ρ)))) (ρ 10).n))) ((ρ 11).n + 214) (ρ 12).n [])))))
theorem e_fmc (w : World) (x T : Nat) (m : Int) (t : Nat) (F : KF Flow) (ρ : Stream) (b0 : Bool) : EqV (q_fmc (w.withFollow "special-get-raises" b0) w x T m t F ρ) (v_fmc w x T m t F ρ) := by unfold EqV; cases b0 <;> kernel_rfl
theorem k_fmc (w : World) (x T : Nat) (m : Int) (t : Nat) (F : KF Flow) (ρ : Stream) : EqV (q_fmc w w x T m t F ρ) (v_fmc w x T m t F ρ) := by
  have e := e_fmc w x T m t F ρ
  exact row1 (P := fun W => EqV (q_fmc W w x T m t F ρ) (v_fmc w x T m t F ρ)) "special-get-raises" e
theorem fmPick_len (m : Int) : ∀ l : List (Int × Nat × Str × Nat), (l.all fun q => q.2.2.1.length == 1) = true → (fmPick m l).length = 1
  | [], _ => rfl
  | q :: l, h => by
    rw [List.all_cons, Bool.and_eq_true] at h
    unfold fmPick
    cases zAnd m q.1 == q.1 with
    | true => simpa using h.1
    | false => exact fmPick_len m l h.2
theorem fmTb_len (i : Nat) : ((fmTb i).2.all fun q => q.2.2.1.length == 1) = true := by
  unfold fmTb
  split <;> rfl
theorem fmSs_len (m : Int) : ∀ n i : Nat, ∀ s ∈ fmSs m i n, s.length = 1
  | 0, _, s, h => nomatch h
  | n + 1, i, s, h => by
    unfold fmSs at h
    rcases List.mem_cons.mp h with rfl | h
    · exact fmPick_len m _ (fmTb_len i)
    · exact fmSs_len m n _ s h
theorem fmSs_count (m : Int) : ∀ n i : Nat, (fmSs m i n).length = n
  | 0, _ => rfl
  | n + 1, i => by unfold fmSs; rw [List.length_cons, fmSs_count m n]
theorem join_one : ∀ (l : List Str) (k : Nat), (∀ s ∈ l, s.length = 1) → l.foldl (fun a s => a + s.length + 0) k = k + l.length
  | [], k, _ => rfl
  | s :: l, k, h => by
    rw [List.foldl_cons, join_one l _ fun x hx => h x (.tail _ hx), h s (.head _), List.length_cons]
    omega
theorem fm_joinOk (m : Int) : JoinOk (Str.ofString "") (Str.ofString "d" :: fmSs m 1 9) = true := by
  have hl : ∀ s ∈ Str.ofString "d" :: fmSs m 1 9, s.length = 1 := fun s hs => by
    rcases List.mem_cons.mp hs with rfl | hs
    · rfl
    · exact fmSs_len m 9 1 s hs
  have e : (Str.ofString "d" :: fmSs m 1 9).toArray.foldl (fun a s => a + s.length + (Str.ofString "").length) 0 = 10 := by
    rw [List.foldl_toArray]
    refine (join_one _ 0 hl).trans ?_
    rw [List.length_cons, fmSs_count]
  unfold JoinOk
  rw [e]
  rfl
noncomputable def mI (a : Args) : Option (Int × Tok) := (arg1 a).bind fun p => (valI p).map fun r0 => (r0.1, r0.2)
theorem mI_is {a : Args} {m : Int} {t : Tok} (h : mI a = some (m, t)) : a = ⟨[.int m t], []⟩ := by
  obtain ⟨p, e0, h⟩ := Option.bind_eq_some_iff.mp h
  obtain ⟨r0, e1, h⟩ := Option.map_eq_some_iff.mp h
  cases h
  rw [arg1_is e0, valI_is e1]
noncomputable def fmOk (m : Int) : Bool := (fmC0 m).all fun e => e.1 == e.2
noncomputable def zFM : Code → Option Summ := fun c => (mFn 181 c).bind fun args => (mI args).map fun p => ⟨c, [], [], fmOk p.1 = true, 3, true, fun _ xs => outV (.str (fmS p.1) (gx 0 xs)) xs⟩
theorem zFM_ok (w : World) : SumOk w zFM 200 := by
  intro c z e
  obtain ⟨args, e1, e2⟩ := Option.bind_eq_some_iff.mp e
  obtain ⟨⟨m, t⟩, e3, e4⟩ := Option.map_eq_some_iff.mp e2
  subst e4
  intro hP A s R ha hd hu hK hL hB hn hat h
  show codeAny _ _ c R s
  rw [mFn_is e1, mI_is e3]
  obtain ⟨x, hx⟩ : ∃ x, s.heap.objs.size = x + 214 := ⟨s.heap.objs.size - 214, by omega⟩
  have rn : Rn w (mkZ w [zFo (zFL w (fmW x s.toks t m))] [zJN 1] [sEN]) 100 [] [] s := rn_ofX (sums_cons (zFo_ok (zFL_ok _ _)) (Nat.le_refl _) sums_nil) (dyns_cons (zJN_ok w 1) (by decide) dyns_nil) (fun f hf => (List.mem_singleton.mp hf) ▸ sEN_ok) hK hL hB (by simp) trivial List.nodup_nil
  refine run_code (dp := 14) (V := v_fmc w x s.toks m t) rn (room_of ha hd hu (by omega)) hx (k_fmc w x s.toks m t) fun ρ => ?_
  have el : seqA (fmPO m ρ) = ⟨dvals (tag (Str.ofString "d" :: fmSs m 1 9) (gF 6 (drawn 10 ρ)))⟩ := rfl
  refine ⟨hP, chain_h rfl ⟨⟨_, el, ?_⟩, chain_h rfl ?_⟩⟩
  · rw [tag_fst]
    exact fm_joinOk m
  · intro h' E
    have e5 : strsA (seqA (fmPO m ρ)) = Str.ofString "d" :: fmSs m 1 9 := by rw [el, strsA_dvals, tag_fst]
    rw [e5]
    exact h [dn (ρ 10).n, dn _, dn _] h' rfl (out_of_end E (by have := E.ge; omega))
end Mine
-- X11
set_option maxHeartbeats 0
namespace Mine
noncomputable section
noncomputable def lsFor (w : World) : Stmt := nthS 1 (stOf (tpo w 188))
noncomputable def lsEnv (w : World) (lo : Nat) : Env := { scope := (fdOf (tpo w 188)).scope, locals := lo, globals := 3, cells := [], qual := Str.ofString "_law_signs.<locals>.", func := some 188, code := .ref 187, frame := some lo, builtins := 0 }
noncomputable def lsLoop (w : World) (lo it : Nat) : Code := .forLoop (forT (lsFor w)) (.ref it) (forB (lsFor w)) (forE (lsFor w)) (lsEnv w lo)
structure SV where
  (lo it t0 mt t1 t2 t3 t4 : Nat)
  m : Int
noncomputable def lsB (m : Int) (e : Nat) : Int := Int.fmod (Int.fdiv m ((2 : Int) ^ e)) 2
noncomputable def lsIx (m : Int) (k : Nat) : Int := (((k % 3 : Nat) : Int) + 1) * lsB m (8 - k)
noncomputable def lsT (k : Nat) : Str := match k / 3 with
  | 0 => Str.ofString "Ss"
  | 1 => Str.ofString "Ss"
  | _ => Str.ofString "Tt"
noncomputable def lsK (s : Str) (ix : Int) (tx : Str) : List (Bool × Bool) := [(decide (ix < -9223372036854775808) || decide (ix ≥ (2 : Int) ^ 63), false), ((chO s ix).isSome, true), (tx.length == 0, false), (false, false), (decide ((tx ++ chS s ix).length > 16777216), false)]
section
variable (w : World) (x T : Nat) (V : SV) (F : KF PySem.Fin) (k : Nat) (tx : Str)
noncomputable def lsLp : Code := lsLoop w (V.lo + 214) (V.it + 214)
noncomputable def lsF2 (u : Tok) : Obj := loc [eo w "rights" V.t0 (.int V.m V.mt), en w "text" V.t1 (.str tx u)] 2
noncomputable def lsFr (u : Tok) (kv sv bv : Value) : Obj := loc [eo w "rights" V.t0 (.int V.m V.mt), en w "text" V.t1 (.str tx u), en w "k" V.t2 kv, en w "set_bit" V.t3 sv, en w "bit" V.t4 bv] 5
noncomputable def lsIt (i j : Int) : Obj := { cls := .type "range_iterator", data := .fields #[.int i 0, .int j 0, .int 1 0] }
noncomputable def lsLf (V' : SV) (s : Str) (ix : Int) (n t u : Nat) : VT := chain (lsK s ix tx) (.leaf (F (.ok (.again (lsLp w V))) (x + 214 + n) (T + t)
  [(V.lo + 214, lsFr w V' (tx ++ chS s ix) (T + u) (.int k T) (.int (lsB V.m (11 - k / 3)) (T + 17)) (.int (lsB V.m (8 - k)) (T + 8))), (V.it + 214, lsIt ((k : Int) + 1) (9 - (k : Int) - 1))]))
noncomputable def v_ls (V' : SV) : VT := @Bool.rec (fun _ => VT) (chain [(false, false)] (lsLf w x T V F k tx V' (Str.ofString "-rwx") (lsIx V.m k) 4 32 30))
  (chain [(true, true)] (.dec (lsB V.m (11 - k / 3) == 1) (lsLf w x T V F k tx V' (Str.ofString "-rwx") (lsIx V.m k) 4 33 31) (lsLf w x T V F k tx V' (lsT k) (lsB V.m (8 - k)) 5 32 30))) (Nat.beq (k % 3) 2)
noncomputable def v_lse (fr : Obj) : VT := .leaf (F (.ok (.again (.block (forE (lsFor w)) (lsEnv w (V.lo + 214))))) (x + 214 + 2) T [(V.lo + 214, fr), (V.it + 214, lsIt 9 0)])
end
end
end Mine
-- S1
set_option maxHeartbeats 0
namespace Mine
noncomputable def q_ls0 (W : World) (w : World) (x T : Nat) (V : SV) (tx : Str) (u : Nat) (F : KF PySem.Fin) (ρ : Stream) : VT := (ex ⟨PR, W.params⟩ (mkZ w [] [] [sSX, sPW, sMU, sDI, sMO]) 1500).s PySem.Fin 14 (zden (lsLp w V)) [2, 0, 2, 0, 2, 2, 2, 2, 2, 2, 2, 1, 1, 1, 1, 0, 0, 0, 2, 32, 0, 2, 34, 0, 2, 35, 1, 1, 0, 2, 34, 0, 0, 0, 2, 32, 0, 2, 34, 0, 2, 35, 3, 3, 3, 0, 3, 0, 4, 4, 0, 4, 0, 4, 4, 3, 4, 4, 4, 0, 4, 0, 4, 4, 3, 4, 4, 4, 0, 4, 0, 4, 4, 3, 4, 4, 6, 1, 1, 1, 1, 1, 0, 2, 35, 0, 2, 6, 0, 1, 1, 0, 2, 35, 0, 0, 1, 0, 2, 33, 0, 2, 31, 0, 1, 0, 2, 5, 0, 0, 0, 1, 1, 0, 1] ⟨[V.lo + 214, V.it + 214], [lsF2 w V tx u, lsIt 0 9], (x + 214), 0, T, 0, .n, ρ⟩ (leafS F)
noncomputable def q_ls1 (W : World) (w : World) (x T : Nat) (k : Nat) (V : SV) (tx : Str) (u : Nat) (kv : Value) (sv : Value) (bv : Value) (F : KF PySem.Fin) (ρ : Stream) : VT := (ex ⟨PR, W.params⟩ (mkZ w [] [] [sSX, sPW, sMU, sDI, sMO]) 1500).s PySem.Fin 14 (zden (lsLp w V)) [2, 0, 2, 0, 2, 2, 2, 2, 2, 2, 2, 1, 1, 1, 1, 0, 0, 0, 2, 32, 0, 2, 34, 0, 2, 35, 1, 1, 0, 2, 34, 0, 0, 0, 2, 32, 0, 2, 34, 0, 2, 35, 3, 3, 3, 0, 3, 0, 4, 4, 0, 4, 0, 4, 4, 3, 4, 4, 4, 0, 4, 0, 4, 4, 3, 4, 4, 4, 0, 4, 0, 4, 4, 3, 4, 4, 6, 1, 1, 1, 1, 1, 0, 2, 35, 0, 2, 6, 0, 1, 1, 0, 2, 35, 0, 0, 1, 0, 2, 33, 0, 2, 31, 0, 1, 0, 2, 5, 0, 0, 0, 1, 1, 0, 1] ⟨[V.lo + 214, V.it + 214], [lsFr w V tx u kv sv bv, lsIt k (9 - (k : Int))], (x + 214), 0, T, 0, .n, ρ⟩ (leafS F)
noncomputable def q_ls2 (W : World) (w : World) (x T : Nat) (k : Nat) (V : SV) (tx : Str) (u : Nat) (kv : Value) (sv : Value) (bv : Value) (F : KF PySem.Fin) (ρ : Stream) : VT := (ex ⟨PR, W.params⟩ (mkZ w [] [] [sSX, sPW, sMU, sDI, sMO]) 1500).s PySem.Fin 14 (zden (lsLp w V)) [2, 0, 2, 0, 2, 2, 2, 2, 2, 2, 2, 1, 1, 1, 1, 0, 0, 0, 2, 32, 0, 2, 34, 0, 2, 35, 1, 1, 0, 2, 34, 0, 0, 0, 2, 32, 0, 2, 34, 0, 2, 35, 3, 3, 3, 0, 3, 0, 4, 4, 0, 4, 0, 4, 4, 3, 4, 4, 4, 0, 4, 0, 4, 4, 3, 4, 4, 4, 0, 4, 0, 4, 4, 3, 4, 4, 6, 1, 1, 1, 1, 1, 0, 2, 35, 0, 2, 6, 1, 1, 0, 2, 6, 2] ⟨[V.lo + 214, V.it + 214], [lsFr w V tx u kv sv bv, lsIt k (9 - (k : Int))], (x + 214), 0, T, 0, (.b [1, 1, 0, 2, 35, 0, 0, 1, 0, 2, 33, 0, 2, 31, 0, 1, 0, 2, 5, 0, 0, 0, 1, 1, 0, 1] .n [1, 1, 0, 2, 34, 7, 7, 7, 0, 7, 0, 7, 0, 1, 0, 2, 31, 0, 1, 0, 2, 5, 0, 0, 0, 1, 1, 0, 1] .n), ρ⟩ (leafS F)
noncomputable def q_lse (W : World) (w : World) (x T : Nat) (V : SV) (tx : Str) (u : Nat) (kv : Value) (sv : Value) (bv : Value) (F : KF PySem.Fin) (ρ : Stream) : VT := (ex ⟨PR, W.params⟩ (mkZ w [] [] [sSX, sPW, sMU, sDI, sMO]) 1500).s PySem.Fin 14 (zden (lsLp w V)) [2, 0, 2, 0, 2, 2, 2, 4, 0, 1] ⟨[V.lo + 214, V.it + 214], [lsFr w V tx u kv sv bv, lsIt 9 0], (x + 214), 0, T, 0, .n, ρ⟩ (leafS F)
theorem k_ls0 (w : World) (x T : Nat) (V : SV) (tx : Str) (u : Nat) (F : KF PySem.Fin) (ρ : Stream) : EqV (q_ls0 w w x T V tx u F ρ) (v_ls w x T V F 0 tx { V with t2 := T + 1, t3 := T + 18, t4 := T + 19 }) := row1 (P := fun W => EqV (q_ls0 W w x T V tx u F ρ) (v_ls w x T V F 0 tx { V with t2 := T + 1, t3 := T + 18, t4 := T + 19 })) "special-get-raises" fun b => by unfold EqV; cases b <;> kernel_rfl
theorem k_lse (w : World) (x T : Nat) (V : SV) (tx : Str) (u : Nat) (kv sv bv : Value) (F : KF PySem.Fin) (ρ : Stream) : EqV (q_lse w w x T V tx u kv sv bv F ρ) (v_lse w x T V F (lsFr w V tx u kv sv bv)) := row1 (P := fun W => EqV (q_lse W w x T V tx u kv sv bv F ρ) (v_lse w x T V F (lsFr w V tx u kv sv bv))) "special-get-raises" fun b => by unfold EqV; cases b <;> kernel_rfl
theorem k_ls1 (w : World) (x T : Nat) (V : SV) (tx : Str) (u : Nat) (kv sv bv : Value) (F : KF PySem.Fin) (ρ : Stream) : EqV (q_ls1 w w x T 1 V tx u kv sv bv F ρ) (v_ls w x T V F 1 tx V) := row1 (P := fun W => EqV (q_ls1 W w x T 1 V tx u kv sv bv F ρ) (v_ls w x T V F 1 tx V)) "special-get-raises" fun b => by unfold EqV; cases b <;> kernel_rfl
theorem k_ls2 (w : World) (x T : Nat) (V : SV) (tx : Str) (u : Nat) (kv sv bv : Value) (F : KF PySem.Fin) (ρ : Stream) : EqV (q_ls2 w w x T 2 V tx u kv sv bv F ρ) (v_ls w x T V F 2 tx V) := row1 (P := fun W => EqV (q_ls2 W w x T 2 V tx u kv sv bv F ρ) (v_ls w x T V F 2 tx V)) "special-get-raises" fun b => by unfold EqV; cases b <;> kernel_rfl
theorem k_ls3 (w : World) (x T : Nat) (V : SV) (tx : Str) (u : Nat) (kv sv bv : Value) (F : KF PySem.Fin) (ρ : Stream) : EqV (q_ls1 w w x T 3 V tx u kv sv bv F ρ) (v_ls w x T V F 3 tx V) := row1 (P := fun W => EqV (q_ls1 W w x T 3 V tx u kv sv bv F ρ) (v_ls w x T V F 3 tx V)) "special-get-raises" fun b => by unfold EqV; cases b <;> kernel_rfl
theorem k_ls4 (w : World) (x T : Nat) (V : SV) (tx : Str) (u : Nat) (kv sv bv : Value) (F : KF PySem.Fin) (ρ : Stream) : EqV (q_ls1 w w x T 4 V tx u kv sv bv F ρ) (v_ls w x T V F 4 tx V) := row1 (P := fun W => EqV (q_ls1 W w x T 4 V tx u kv sv bv F ρ) (v_ls w x T V F 4 tx V)) "special-get-raises" fun b => by unfold EqV; cases b <;> kernel_rfl
theorem k_ls5 (w : World) (x T : Nat) (V : SV) (tx : Str) (u : Nat) (kv sv bv : Value) (F : KF PySem.Fin) (ρ : Stream) : EqV (q_ls2 w w x T 5 V tx u kv sv bv F ρ) (v_ls w x T V F 5 tx V) := row1 (P := fun W => EqV (q_ls2 W w x T 5 V tx u kv sv bv F ρ) (v_ls w x T V F 5 tx V)) "special-get-raises" fun b => by unfold EqV; cases b <;> kernel_rfl
theorem k_ls6 (w : World) (x T : Nat) (V : SV) (tx : Str) (u : Nat) (kv sv bv : Value) (F : KF PySem.Fin) (ρ : Stream) : EqV (q_ls1 w w x T 6 V tx u kv sv bv F ρ) (v_ls w x T V F 6 tx V) := row1 (P := fun W => EqV (q_ls1 W w x T 6 V tx u kv sv bv F ρ) (v_ls w x T V F 6 tx V)) "special-get-raises" fun b => by unfold EqV; cases b <;> kernel_rfl
theorem k_ls7 (w : World) (x T : Nat) (V : SV) (tx : Str) (u : Nat) (kv sv bv : Value) (F : KF PySem.Fin) (ρ : Stream) : EqV (q_ls1 w w x T 7 V tx u kv sv bv F ρ) (v_ls w x T V F 7 tx V) := row1 (P := fun W => EqV (q_ls1 W w x T 7 V tx u kv sv bv F ρ) (v_ls w x T V F 7 tx V)) "special-get-raises" fun b => by unfold EqV; cases b <;> kernel_rfl
theorem k_ls8 (w : World) (x T : Nat) (V : SV) (tx : Str) (u : Nat) (kv sv bv : Value) (F : KF PySem.Fin) (ρ : Stream) : EqV (q_ls2 w w x T 8 V tx u kv sv bv F ρ) (v_ls w x T V F 8 tx V) := row1 (P := fun W => EqV (q_ls2 W w x T 8 V tx u kv sv bv F ρ) (v_ls w x T V F 8 tx V)) "special-get-raises" fun b => by unfold EqV; cases b <;> kernel_rfl
end Mine
-- S2
namespace Mine
noncomputable def lsC (m : Int) (k : Nat) : Str := bif Nat.beq (k % 3) 2 && lsB m (11 - k / 3) == 1 then chS (lsT k) (lsB m (8 - k)) else chS (Str.ofString "-rwx") (lsIx m k)
noncomputable def lsFold (m : Int) (tx : Str) : Nat → Nat → Str
  | _, 0 => tx
  | k, n + 1 => lsFold m (tx ++ lsC m k) (k + 1) n
noncomputable def lsAds (V : SV) : List Nat := [V.lo + 214, V.it + 214]
theorem quiet_ls (w : World) (V : SV) : (lsLp w V).quiet = true := by kernel_rfl
theorem lsB_01 (m : Int) (e : Nat) : lsB m e = 0 ∨ lsB m e = 1 := by
  unfold lsB
  have h1 := Int.fmod_nonneg_of_pos (m.fdiv (2 ^ e)) (b := 2) (by decide)
  have h2 := Int.fmod_lt_of_pos (m.fdiv (2 ^ e)) (b := 2) (by decide)
  omega
theorem str_len_app (a b : Str) : (a ++ b).length = a.length + b.length := by
  show (a.cps ++ b.cps).size = _
  rw [Array.size_append]
  rfl
theorem chS_len (s : Str) (i : Int) : (chS s i).length = 1 := rfl
section
variable {w : World} {A : Around} {R : Result → Shared → Prop} {s : Shared} {V : SV} {tx : Str} {F : KF PySem.Fin}
theorem lsK_h {str : Str} {ix : Int} (h1 : 1 ≤ tx.length) (h2 : tx.length ≤ 100) (a : (decide (ix < -9223372036854775808) || decide (ix ≥ (2 : Int) ^ 63)) = false) (b : (chO str ix).isSome = true) : (lsK str ix tx).all (fun e => e.1 == e.2) = true := by
  have e1 : (tx.length == 0) = false := by simp; omega
  have e2 : decide ((tx ++ chS str ix).length > 16777216) = false := decide_eq_false (by rw [str_len_app, chS_len]; omega)
  simp only [lsK, List.all_cons, List.all_nil, a, b, e1, e2]
  rfl
theorem ix_rwx {m : Int} {k : Nat} : (decide (lsIx m k < -9223372036854775808) || decide (lsIx m k ≥ (2 : Int) ^ 63)) = false ∧ (chO (Str.ofString "-rwx") (lsIx m k)).isSome = true := by
  unfold lsIx
  have hk : k % 3 < 3 := Nat.mod_lt _ (by decide)
  generalize k % 3 = j at hk
  rcases lsB_01 m (8 - k) with e | e <;> rw [e] <;> match j, hk with
    | 0, _ => exact ⟨by decide +kernel, by decide +kernel⟩
    | 1, _ => exact ⟨by decide +kernel, by decide +kernel⟩
    | 2, _ => exact ⟨by decide +kernel, by decide +kernel⟩
theorem ix_st {m : Int} {k : Nat} : (decide (lsB m (8 - k) < -9223372036854775808) || decide (lsB m (8 - k) ≥ (2 : Int) ^ 63)) = false ∧ (chO (lsT k) (lsB m (8 - k))).isSome = true := by
  rcases lsB_01 m (8 - k) with e | e <;> rw [e] <;> unfold lsT <;> split <;> exact ⟨by decide +kernel, by decide +kernel⟩
noncomputable def LsNx (w : World) (A : Around) (R : Result → Shared → Prop) (s : Shared) (V V' : SV) (k : Nat) (tx : Str) : Prop :=
  ∀ h' t' u kv sv bv, (∀ b o, s.heap.get? b = some o → b ∉ lsAds V → h'.get? b = some o) → s.heap.objs.size ≤ h'.objs.size → Bs w h' (lsAds V) → At h' (lsAds V) [lsFr w V' tx u kv sv bv, lsIt ((k : Int) + 1) (9 - (k : Int) - 1)] →
    codeAny (model PR w) A (lsLp w V) R ⟨h', s.gens, s.drawn, t', s.os⟩
theorem ls_v {x k : Nat} {V' : SV} (b : Bs w s.heap (lsAds V)) (h1 : 1 ≤ tx.length) (h2 : tx.length ≤ 100) (next : LsNx w A R s V V' k (tx ++ lsC V.m k)) : (v_ls w x s.toks V (endF s (lsAds V) (TurnEnd w A R)) k tx V').Holds := by
  have lf : ∀ {str : Str} {ix : Int} {n t u : Nat}, (decide (ix < -9223372036854775808) || decide (ix ≥ (2 : Int) ^ 63)) = false ∧ (chO str ix).isSome = true → lsC V.m k = chS str ix → (lsLf w x s.toks V (endF s (lsAds V) (TurnEnd w A R)) k tx V' str ix n t u).Holds := by
    intro str ix n t u hi e
    refine chain_h (lsK_h h1 h2 hi.1 hi.2) ?_
    intro h' E
    refine ⟨quiet_ls w V, ?_⟩
    rw [e] at next
    exact next h' _ _ _ _ _ E.keep (by rw [E.size]; exact E.ge) (b.step E) E.toAt
  unfold v_ls
  unfold lsC at lf
  cases hk : Nat.beq (k % 3) 2 with
  | false =>
    rw [hk] at lf
    exact chain_h rfl (lf ix_rwx rfl)
  | true =>
    rw [hk] at lf
    refine chain_h rfl ⟨fun q => lf ix_rwx (by rw [q]; rfl), fun q => lf ix_st (by rw [q]; rfl)⟩
theorem ls_turn (ha : A.handled = none) (hd : A.depth + 100 < recursionLimit) (hu : A.units + 200 < cLine) (k : Nat) (hk1 : 1 ≤ k) (hk8 : k ≤ 8) {u : Tok} {kv sv bv : Value} (b : Bs w s.heap (lsAds V)) (hn : (lsAds V).Nodup) (h1 : 1 ≤ tx.length) (h2 : tx.length ≤ 100)
    (hat : At s.heap (lsAds V) [lsFr w V tx u kv sv bv, lsIt k (9 - (k : Int))]) (next : LsNx w A R s V V k (tx ++ lsC V.m k)) : codeAny (model PR w) A (lsLp w V) R s := by
  obtain ⟨x, hx⟩ : ∃ x, s.heap.objs.size = x + 214 := ⟨s.heap.objs.size - 214, by have := b.B; omega⟩
  have rm : Room 0 A (14 + 1) := ⟨ha, by omega, by omega⟩
  have hX : ∀ f ∈ [sSX, sPW, sMU, sDI, sMO], SbOk PR w f := all_cons sSX_ok <| all_cons sPW_ok <| all_cons sMU_ok <| all_cons sDI_ok <| all_cons sMO_ok <| fun f hf => nomatch hf
  have rn : Rn w (mkZ w [] [] [sSX, sPW, sMU, sDI, sMO]) 0 (lsAds V) [lsFr w V tx u kv sv bv, lsIt k (9 - (k : Int))] s := rn_ofX sums_nil dyns_nil hX b.K b.L b.B b.st hat hn
  have hv : ∀ ρ : Stream, (v_ls w x s.toks V (endF s (lsAds V) (TurnEnd w A R)) k tx V).Holds := fun _ => ls_v b h1 h2 next
  match k, hk1, hk8, hat, hv, rn with
  | 1, _, _, hat, hv, rn => exact run_turn rn rm hx rfl (k_ls1 w x s.toks V tx u kv sv bv) hv
  | 2, _, _, hat, hv, rn => exact run_turn rn rm hx rfl (k_ls2 w x s.toks V tx u kv sv bv) hv
  | 3, _, _, hat, hv, rn => exact run_turn rn rm hx rfl (k_ls3 w x s.toks V tx u kv sv bv) hv
  | 4, _, _, hat, hv, rn => exact run_turn rn rm hx rfl (k_ls4 w x s.toks V tx u kv sv bv) hv
  | 5, _, _, hat, hv, rn => exact run_turn rn rm hx rfl (k_ls5 w x s.toks V tx u kv sv bv) hv
  | 6, _, _, hat, hv, rn => exact run_turn rn rm hx rfl (k_ls6 w x s.toks V tx u kv sv bv) hv
  | 7, _, _, hat, hv, rn => exact run_turn rn rm hx rfl (k_ls7 w x s.toks V tx u kv sv bv) hv
  | 8, _, _, hat, hv, rn => exact run_turn rn rm hx rfl (k_ls8 w x s.toks V tx u kv sv bv) hv
  | k + 9, _, h, _, _, _ => exact absurd h (by omega)
end
noncomputable def LsPost (w : World) (R : Result → Shared → Prop) (s : Shared) (V : SV) (tx : Str) : Prop :=
  ∀ h' t' u t2 t3 t4 kv sv bv it', (∀ b o, s.heap.get? b = some o → b ∉ lsAds V → h'.get? b = some o) → s.heap.objs.size ≤ h'.objs.size → At h' (lsAds V) [lsFr w { V with t2 := t2, t3 := t3, t4 := t4 } tx u kv sv bv, it'] → R (.ok .next) ⟨h', s.gens, s.drawn, t', s.os⟩
section
variable {w : World} {A : Around} {R : Result → Shared → Prop}
theorem ls_loop (ha : A.handled = none) (hd : A.depth + 100 < recursionLimit) (hu : A.units + 200 < cLine) : ∀ (n k : Nat) (V : SV) (s : Shared) (tx : Str) (u : Tok) (kv sv bv : Value), k + n = 9 → 1 ≤ k → Bs w s.heap (lsAds V) → (lsAds V).Nodup → 1 ≤ tx.length → tx.length ≤ 1 + k →
    At s.heap (lsAds V) [lsFr w V tx u kv sv bv, lsIt k (9 - (k : Int))] → LsPost w R s V (lsFold V.m tx k n) → codeAny (model PR w) A (lsLp w V) R s
  | 0, k, V, s, tx, u, kv, sv, bv, hk, hk1, b, hn, h1, h2, hat, hR => by
    have : k = 9 := by omega
    subst this
    obtain ⟨x, hx⟩ : ∃ x, s.heap.objs.size = x + 214 := ⟨s.heap.objs.size - 214, by have := b.B; omega⟩
    have hX : ∀ f ∈ [sSX, sPW, sMU, sDI, sMO], SbOk PR w f := all_cons sSX_ok <| all_cons sPW_ok <| all_cons sMU_ok <| all_cons sDI_ok <| all_cons sMO_ok <| fun f hf => nomatch hf
    refine run_turn (dp := 14) (rn_ofX (need := 0) sums_nil dyns_nil hX b.K b.L b.B b.st hat hn) ⟨ha, by omega, by omega⟩ hx rfl (k_lse w x s.toks V tx u kv sv bv) fun ρ => ?_
    intro h' E
    exact ⟨by kernel_rfl, blk_nil (hR h' _ u V.t2 V.t3 V.t4 kv sv bv _ E.keep (by rw [E.size]; exact E.ge) E.toAt)⟩
  | n + 1, k, V, s, tx, u, kv, sv, bv, hk, hk1, b, hn, h1, h2, hat, hR => by
    refine ls_turn ha hd hu k hk1 (by omega) b hn h1 (by omega) hat ?_
    intro h' t' u' kv' sv' bv' keep sz b' at'
    have lc : (lsC V.m k).length = 1 := by
      unfold lsC
      cases (Nat.beq (k % 3) 2 && lsB V.m (11 - k / 3) == 1) <;> rfl
    have e9 : (9 : Int) - (k : Int) - 1 = 9 - ((k + 1 : Nat) : Int) := by omega
    rw [e9] at at'
    refine ls_loop ha hd hu n (k + 1) V ⟨h', s.gens, s.drawn, t', s.os⟩ _ u' kv' sv' bv' (by omega) (by omega) b' hn (by rw [str_len_app]; omega) (by rw [str_len_app, lc]; omega) at' ?_
    intro h2 t2 u2 a2 a3 a4 kv2 sv2 bv2 it2 keep2 sz2 at2
    exact hR h2 t2 u2 a2 a3 a4 kv2 sv2 bv2 it2 (fun b o g m => keep2 b o (keep b o g m) m) (Nat.le_trans sz sz2) at2
theorem lsFold_one (m : Int) (d : Str) (n : Nat) : lsFold m d 0 (n + 1) = lsFold m (d ++ lsC m 0) 1 n := rfl
theorem ls_first (ha : A.handled = none) (hd : A.depth + 100 < recursionLimit) (hu : A.units + 200 < cLine) {V : SV} {s : Shared} {u : Tok} {d : Str} (e1 : d.length = 1) (b : Bs w s.heap (lsAds V)) (hn : (lsAds V).Nodup) (hat : At s.heap (lsAds V) [lsF2 w V d u, lsIt 0 9])
    (hR : LsPost w R s V (lsFold V.m d 0 9)) : codeAny (model PR w) A (lsLp w V) R s := by
  obtain ⟨x, hx⟩ : ∃ x, s.heap.objs.size = x + 214 := ⟨s.heap.objs.size - 214, by have := b.B; omega⟩
  have hX : ∀ f ∈ [sSX, sPW, sMU, sDI, sMO], SbOk PR w f := all_cons sSX_ok <| all_cons sPW_ok <| all_cons sMU_ok <| all_cons sDI_ok <| all_cons sMO_ok <| fun f hf => nomatch hf
  rw [lsFold_one V.m d 8] at hR
  refine run_turn (dp := 14) (rn_ofX (need := 0) sums_nil dyns_nil hX b.K b.L b.B b.st hat hn) ⟨ha, by omega, by omega⟩ hx rfl (k_ls0 w x s.toks V d u) fun ρ => ?_
  refine ls_v (A := A) (R := R) b (by omega) (by omega) ?_
  intro h' t' u' kv' sv' bv' keep sz b' at'
  have lc : (lsC V.m 0).length = 1 := by
    unfold lsC
    cases (Nat.beq (0 % 3) 2 && lsB V.m (11 - 0 / 3) == 1) <;> rfl
  have l2 : (d ++ lsC V.m 0).length = 2 := by rw [str_len_app, lc, e1]
  generalize ed : d ++ lsC V.m 0 = d2 at *
  have at2 : At h' (lsAds V) [lsFr w { V with t2 := s.toks + 1, t3 := s.toks + 18, t4 := s.toks + 19 } d2 u' kv' sv' bv', lsIt ((1 : Nat) : Int) (9 - ((1 : Nat) : Int))] := at'
  refine ls_loop ha hd hu 8 1 { V with t2 := s.toks + 1, t3 := s.toks + 18, t4 := s.toks + 19 } ⟨h', s.gens, s.drawn, t', s.os⟩ d2 u' kv' sv' bv' rfl (Nat.le_refl _) b' hn (by omega) (by omega) at2 ?_
  intro h2 t2 u2 a2 a3 a4 kv2 sv2 bv2 it2 keep2 sz2 at3
  exact hR h2 t2 u2 a2 a3 a4 kv2 sv2 bv2 it2 (fun b o g m => keep2 b o (keep b o g m) m) (Nat.le_trans sz sz2) at3
end
noncomputable def zSL (w : World) (V : SV) (u : Tok) : Summ where
  code := lsLp w V
  pre := lsAds V
  objs := [lsF2 w V (Str.ofString "d") u, lsIt 0 9]
  P := True
  k := 7
  b := true
  F := fun _ xs => ⟨.ok .next, [lsFr w { V with t2 := gx 0 xs, t3 := gx 1 xs, t4 := gx 2 xs } (lsFold V.m (Str.ofString "d") 0 9) (gx 3 xs) (gV 0 xs) (gV 1 xs) (gV 2 xs), gO 4 xs], [], gx 5 xs + 214, gx 6 xs⟩
theorem zSL_ok (w : World) (V : SV) (u : Tok) : SummOk w (zSL w V u) 100 := by
  intro _ A s R ha hd hu hK hL hB hn hat h
  refine ls_first ha hd (by omega) (by decide +kernel) ⟨hK, hL, hB⟩ hn hat ?_
  intro h' t' u' a2 a3 a4 kv sv bv it' keep sz at'
  have sz2 : h'.objs.size = h'.objs.size - 214 + 214 := by omega
  exact h [⟨a2, default, kv⟩, ⟨a3, default, sv⟩, ⟨a4, default, bv⟩, dn u', ⟨0, it', default⟩, dn (h'.objs.size - 214), dn t'] h' rfl ⟨sz2, Nat.le_trans sz (Nat.le_of_eq sz2), at', (fun y hy => nomatch hy), List.nodup_nil, keep⟩
end Mine
-- S3
set_option maxHeartbeats 0
namespace Mine
noncomputable section
noncomputable def lsW (x T t : Nat) (m : Int) : SV := ⟨x + 0, x + 2, T + 0, t, T + 2, 0, 0, 0, m⟩
noncomputable def lsS (m : Int) : Str := lsFold m (Str.ofString "d") 0 9
end
noncomputable def q_lsc (W : World) (w : World) (x T : Nat) (m : Int) (t : Nat) (F : KF Flow) (ρ : Stream) : VT := (ex ⟨PR, W.params⟩ (mkZ w [zFo (zSL w (lsW x T t m) (T + 1))] [] [sSX, sPW, sMU, sDI, sMO]) 1500).c 14 (.call (.ref 188) ⟨[.int m t], []⟩) [1, 0, 0, 1, 1, 0, 1, 1, 0, 0, 0, 0, 0, 0, 2, 2, 0, 2, 0, 2, 2, 2, 0, 2, 0, 2, 2, 2, 3, 3, 0, 0, 2, 1, 1] ⟨[], [], (x + 214), 0, T, 0, .n, ρ⟩ (leafC F)
noncomputable def v_lsc (w : World) (x T : Nat) (m : Int) (t : Nat) (F : KF Flow) (ρ : Stream) : VT := .claim True (chain [(true, true)] (.leaf (F (.ok (.ret (.str (lsS m) (ρ 3).n))) ((ρ 5).n + 214) (ρ 6).n [])))
theorem e_lsc (w : World) (x T : Nat) (m : Int) (t : Nat) (F : KF Flow) (ρ : Stream) (b0 : Bool) : EqV (q_lsc (w.withFollow "special-get-raises" b0) w x T m t F ρ) (v_lsc w x T m t F ρ) := by unfold EqV; cases b0 <;> kernel_rfl
theorem k_lsc (w : World) (x T : Nat) (m : Int) (t : Nat) (F : KF Flow) (ρ : Stream) : EqV (q_lsc w w x T m t F ρ) (v_lsc w x T m t F ρ) := by
  have e := e_lsc w x T m t F ρ
  exact row1 (P := fun W => EqV (q_lsc W w x T m t F ρ) (v_lsc w x T m t F ρ)) "special-get-raises" e
noncomputable def zLS : Code → Option Summ := fun c => (mFn 188 c).bind fun args => (mI args).map fun p => ⟨c, [], [], True, 3, true, fun _ xs => outV (.str (lsS p.1) (gx 0 xs)) xs⟩
theorem zLS_ok (w : World) : SumOk w zLS 200 := by
  intro c z e
  obtain ⟨args, e1, e2⟩ := Option.bind_eq_some_iff.mp e
  obtain ⟨⟨m, t⟩, e3, e4⟩ := Option.map_eq_some_iff.mp e2
  subst e4
  intro hP A s R ha hd hu hK hL hB hn hat h
  show codeAny _ _ c R s
  rw [mFn_is e1, mI_is e3]
  obtain ⟨x, hx⟩ : ∃ x, s.heap.objs.size = x + 214 := ⟨s.heap.objs.size - 214, by omega⟩
  have hX : ∀ f ∈ [sSX, sPW, sMU, sDI, sMO], SbOk PR w f := all_cons sSX_ok <| all_cons sPW_ok <| all_cons sMU_ok <| all_cons sDI_ok <| all_cons sMO_ok <| fun f hf => nomatch hf
  have rn : Rn w (mkZ w [zFo (zSL w (lsW x s.toks t m) (s.toks + 1))] [] [sSX, sPW, sMU, sDI, sMO]) 100 [] [] s := rn_ofX (sums_cons (zFo_ok (zSL_ok _ _ _)) (Nat.le_refl _) sums_nil) dyns_nil hX hK hL hB (by simp) trivial List.nodup_nil
  refine run_code (dp := 14) (V := v_lsc w x s.toks m t) rn (room_of ha hd hu (by omega)) hx (k_lsc w x s.toks m t) fun ρ => ?_
  refine ⟨trivial, chain_h rfl ?_⟩
  intro h' E
  exact h [dn (ρ 3).n, dn _, dn _] h' rfl (out_of_end E (by have := E.ge; omega))
end Mine
-- X12
namespace Mine
noncomputable def bcQ (name qual : Str) (given : List Value) (body : List Stmt) (scope : Scope) (statics : List Str) (firstLine : Nat) (env : Env) (pos : Pos) :
    { t : Sem Value // ∀ (M : Model) (A : Around), A.depth < recursionLimit → Sim M A (buildClass name qual given [] body scope statics firstLine env pos none) t } := by
  apply Subtype.mk
  intro M A hd
  unfold buildClass
  rw [show List.lookup (Str.ofString "metaclass") ([] : List (Str × Value)) = none from rfl]
  apply Sim.bind Sim.rfl; intro _
  apply Sim.bind Sim.rfl; intro s
  apply Sim.pair (o := s); intro s1 s2
  apply Sim.list (o := s1); intro b1 b2
  apply Sim.bind Sim.rfl; intro _
  apply Sim.bind Sim.rfl; intro _
  apply Sim.thn
  apply Sim.bind Sim.rfl; intro _
  apply Sim.bind Sim.rfl; intro _
  apply Sim.els
  apply Sim.holding
  apply Sim.bind Sim.rfl; intro p
  apply Sim.opt (o := p)
  · exact Sim.rfl
  intro q
  apply Sim.bind Sim.rfl; intro ns
  apply Sim.ref (v := ns); intro na
  apply Sim.bind Sim.rfl; intro _
  apply Sim.bind Sim.rfl; intro _
  apply Sim.els
  apply Sim.holding
  apply Sim.els
  apply Sim.els
  apply Sim.bind Sim.rfl; intro _
  apply Sim.bind Sim.rfl; intro _
  apply Sim.bind Sim.rfl; intro _
  apply Sim.bind Sim.rfl; intro _
  apply Sim.bind Sim.rfl; intro _
  apply Sim.holding
  apply Sim.bind (Sim.enter hd); intro _
  exact Sim.rfl
noncomputable def exQ (n : Str) (bs : List PySem.Expr) (body : List Stmt) (sc : Scope) (ts : Option Scope) (bd : Str) (st : List Str) (po : Pos) (rest : List Stmt) (env : Env) :
    { t : Sem Flow // ∀ (M : Model) (A : Around), A.depth < recursionLimit → Sim M A (execs (.ClassDef n bs [] body [] [] sc ts bd st po :: rest) env) t } := by
  apply Subtype.mk
  intro M A hd
  rw [arm_execs_cons, arm_exec_ClassDef]
  apply Sim.bindL
  apply Sim.bind Sim.rfl; intro _
  apply Sim.bind Sim.rfl; intro _
  apply Sim.bind Sim.rfl; intro _
  apply Sim.bindL
  apply Sim.holding
  apply Sim.bind Sim.rfl; intro a
  apply Sim.bind Sim.rfl; intro _
  apply Sim.args (o := a); intro p
  apply Sim.holding
  exact (bcQ _ _ _ _ _ _ _ _ _).2 M A hd
noncomputable section
noncomputable def clT (n : Str) (bs : List PySem.Expr) (body : List Stmt) (sc : Scope) (ts : Option Scope) (bd : Str) (st : List Str) (po : Pos) (rest : List Stmt) (env : Env) : Sem PySem.Fin :=
  PySem.point >>= fun _ => ((exQ n bs body sc ts bd st po rest env).1.onRaise (leaving env)) >>= fun f => match f with | .ret v => PySem.ret v | _ => PySem.ret .none
noncomputable def clPar (s : Stmt) : Option (Str × List PySem.Expr × List Keyword × List Stmt × List PySem.Expr × List TypeParam × Scope × Option Scope × Str × List Str × Pos) := match s with
  | .ClassDef n bs ks b ds ts sc tsc bd st po => some (n, bs, ks, b, ds, ts, sc, tsc, bd, st, po)
  | _ => none
noncomputable def nilP {α : Type} (l : List α) : Option Unit := match l with
  | [] => some ()
  | _ :: _ => none
noncomputable def hdP {α : Type} (l : List α) : Option (α × List α) := match l with
  | [] => none
  | a :: r => some (a, r)
noncomputable def sCB : Sb := fun c => match c with
  | .func l env => (hdP l).bind fun h => (clPar h.1).bind fun q => (nilP q.2.2.1).bind fun _ => (nilP q.2.2.2.2.1).bind fun _ => (nilP q.2.2.2.2.2.1).map fun _ =>
    .sem (clT q.1 q.2.1 q.2.2.2.1 q.2.2.2.2.2.2.1 q.2.2.2.2.2.2.2.1 q.2.2.2.2.2.2.2.2.1 q.2.2.2.2.2.2.2.2.2.1 q.2.2.2.2.2.2.2.2.2.2 h.2 env)
  | _ => none
end
theorem nilP_is {α : Type} {l : List α} {u : Unit} (h : nilP l = some u) : l = [] := by
  cases l with
  | nil => rfl
  | cons a l => cases h
theorem hdP_is {α : Type} {l : List α} {q : α × List α} (h : hdP l = some q) : l = q.1 :: q.2 := by
  cases l with
  | nil => cases h
  | cons a l => cases h; rfl
theorem clPar_is {s : Stmt} {q : Str × List PySem.Expr × List Keyword × List Stmt × List PySem.Expr × List TypeParam × Scope × Option Scope × Str × List Str × Pos} (h : clPar s = some q) : s = .ClassDef q.1 q.2.1 q.2.2.1 q.2.2.2.1 q.2.2.2.2.1 q.2.2.2.2.2.1 q.2.2.2.2.2.2.1 q.2.2.2.2.2.2.2.1 q.2.2.2.2.2.2.2.2.1 q.2.2.2.2.2.2.2.2.2.1 q.2.2.2.2.2.2.2.2.2.2 := by
  cases s <;> cases h <;> rfl
theorem sCB_ok {prog : Program} {w : World} : SbOk prog w sCB := by
  intro c r e A hd hu
  cases c with
  | func l env =>
    obtain ⟨h, e1, e⟩ := Option.bind_eq_some_iff.mp e
    obtain ⟨q, e2, e⟩ := Option.bind_eq_some_iff.mp e
    obtain ⟨u, e3, e⟩ := Option.bind_eq_some_iff.mp e
    obtain ⟨u, e4, e⟩ := Option.bind_eq_some_iff.mp e
    obtain ⟨u, e5, e⟩ := Option.map_eq_some_iff.mp e
    rw [← e, hdP_is e1, clPar_is e2, nilP_is e3, nilP_is e4, nilP_is e5, func_eq]
    refine Dn.sim (Sim.bind Sim.rfl fun _ => Sim.bind (Sim.onRaise ((exQ _ _ _ _ _ _ _ _ _ _).2 _ _ hd)) fun f => Sim.rfl)
  | _ => cases e
noncomputable section
noncomputable def fPar : Option Stmt → Arguments | some (.FunctionDef _ a _ _ _ _ _ _ _ _) => a | _ => default
noncomputable def fBody : Option Stmt → List Stmt | some (.FunctionDef _ _ b _ _ _ _ _ _ _) => b | _ => []
noncomputable def fSc : Option Stmt → Scope | some (.FunctionDef _ _ _ _ _ _ s _ _ _) => s | _ => default
noncomputable def cBody : List Stmt → List Stmt | .ClassDef _ _ _ b _ _ _ _ _ _ _ :: _ => b | _ => []
noncomputable def mth (w : World) (j : Nat) : Option Stmt := nth j (cBody (stOf (tpo w 118)))
section
variable (w : World) (b T : Nat)
noncomputable def kCell : Obj := { cls := .type "cell", data := .cell (some (.ref 207)) }
noncomputable def kFd (j : Nat) (nm : String) (co : Nat) (cl : List (Str × Addr)) (ct : Value) : FuncData := { name := Str.ofString nm, qualname := Str.ofString "cmp_to_key.<locals>.K." ++ Str.ofString nm, params := fPar (mth w j), body := .stmts (fBody (mth w j)), scope := fSc (mth w j), globals := 3, closure := cl, defaults := .none, kwdefaults := .none, pyModule := .str (Str.ofString "law_nq0110_01") 449, code := .ref (b + co), closureTuple := ct }
noncomputable def kInit : Obj := { cls := .type "function", data := .func (kFd w b 2 "__init__" 15 [] .none) }
noncomputable def kLt : Obj := { cls := .type "function", data := .func (kFd w b 3 "__lt__" 23 [(Str.ofString "mycmp", b + 1)] (.ref (b + 17))) }
noncomputable def kCode (nm : String) (line : Int) (t u : Nat) (r1 r2 r3 r4 r5 : Nat) : Obj := { cls := .type "code", data := .fields #[.str (Str.ofString nm) (T + t), .str (Str.ofString "cmp_to_key.<locals>.K." ++ Str.ofString nm) (T + (t + 1)), .str (Str.ofString "/claim/cut.py") (T + (t + 2)), .int line 0, .int 2 0, .int 0 0, .int 0 0, .int 19 0, .ref (b + r1), .bool true, .int 181 0, .ref (b + r2), .none, .ref (b + r3), .ref (b + r4), .ref (b + r5), .int (T + u : Nat) 0, .int line 0, .str (Str.ofString "/claim/cut.py") (T + (u + 1))] }
noncomputable def kInitC : Obj := kCode b T "__init__" 128 17 22 10 11 12 13 14
noncomputable def kLtC : Obj := kCode b T "__lt__" 131 25 31 18 19 20 21 22
noncomputable def kCls : Obj := { cls := .type "type", data := .cls { name := Str.ofString "K", bases := [.type "object"], mro := [.ref (b+60), .type "object"], ns := b+59, qualname := Str.ofString "cmp_to_key.<locals>.K", hasDict := false, slotNames := [Str.ofString "obj"] }, slots := #[some (.ref (b+2)), none, some (.str (Str.ofString "K") (T+0)), some (.str (Str.ofString "cmp_to_key.<locals>.K") (T+9)), some (.builtin "object.__new__"), some (.bool false)] }
noncomputable def kMd : Obj := { cls := .type "member_descriptor", data := .fields #[.str (Str.ofString "obj") (T+73), .ref (b+60), .builtin "proto.slot", .builtin "proto.slot#set", .int 0 0] }
end
end
end Mine
-- S4
set_option maxHeartbeats 0
namespace Mine
noncomputable section
noncomputable def kNsD (w : World) (b T : Nat) : Obj := { cls := .type "dict", data := .dict #[eo w "__module__" (T+8) (.str (Str.ofString "cpy313.functools") (T+13)), eo w "__firstlineno__" (T+12) (.int 124 (T+11)), en w "__slots__" (T+16) (.ref (b+9)), en w "__init__" (T+24) (.ref (b+16)), en w "__lt__" (T+33) (.ref (b+24)), en w "__gt__" (T+42) (.ref (b+32)), en w "__eq__" (T+51) (.ref (b+40)), en w "__le__" (T+60) (.ref (b+48)), en w "__ge__" (T+69) (.ref (b+56)), en w "__hash__" (T+70) .none, eo w "__static_attributes__" (T+72) (.ref (b+57)), eo w "obj" (T+74) (.ref (b+61)), eo w "__doc__" (T+75) .none] 3 }
noncomputable def kTab (b : Nat) : Obj := { cls := .none, data := .fields #[.int 124 0, .int 4 0, .ref (b + 7)] }
noncomputable def kAll (w : World) (b T : Nat) : List (Nat × Obj) := [(b + 60, kCls b T), (b + 59, kNsD w b T), (b + 61, kMd b T), (b + 16, kInit w b), (b + 15, kInitC b T), (b + 24, kLt w b), (b + 23, kLtC b T), (b + 1, kCell)]
end
noncomputable def q_ck (W : World) (w : World) (x T : Nat) (F : KF Flow) (ρ : Stream) : VT := (ex ⟨PR, W.params⟩ (mkZ w [] [] [sCB]) 2500).c 14 (.call (.ref 118) ⟨[.ref 207], []⟩) [1, 0, 0, 3, 3, 2, 31, 0, 0, 0, 0, 0, 0, 0, 0, 5, 0, 6, 0, 1, 1, 1, 1, 0, 0, 0, 0, 6, 6, 0, 6, 6, 6, 6, 6, 6, 6, 6, 6, 0, 6, 6, 6, 6, 6, 6, 9, 8, 8, 8, 8, 0, 0, 0, 6, 6, 6, 9, 8, 8, 8, 8, 0, 0, 0, 6, 6, 6, 9, 8, 8, 8, 8, 0, 0, 0, 6, 6, 6, 9, 8, 8, 8, 8, 0, 0, 0, 6, 6, 6, 9, 8, 8, 8, 8, 0, 0, 0, 6, 6, 6, 9, 8, 8, 8, 8, 0, 0, 0, 6, 6, 6, 6, 6, 6, 6, 6, 6, 0, 0, 0, 2, 15, 4, 6, 4, 6, 6, 11, 0, 2, 14, 11, 11, 60, 60, 60, 60, 60, 61, 61, 61, 62, 62, 62, 61, 61, 61, 61, 61, 61, 61, 62, 62, 62, 62, 62, 62, 62, 61, 61, 61, 61, 61, 62, 62, 62, 62, 61, 61, 61, 61, 61, 61, 61, 11, 18, 26, 34, 42, 50, 58, 59, 63, 0, 0, 62, 0, 0, 64, 64, 0, 64, 2, 16, 62, 62, 62, 64, 64, 64, 64, 64, 64, 64, 0, 64, 2, 17, 64, 64, 64, 0, 62, 0, 0, 62, 62, 0, 65, 62, 62, 62, 62, 0, 62, 62, 0, 62, 0, 2, 2, 2, 61, 60, 62, 17, 16, 25, 24, 2, 0] ⟨[113], [tabObj #[]], (x + 214), 0, T, 0, .n, ρ⟩ (leafC F)
noncomputable def v_ck (w : World) (x T : Nat) (F : KF Flow) (ρ : Stream) : VT := .leaf (F (.ok (.ret (.ref (x + 214 + 60)))) (x + 214 + 64) (T + 78) (kAll w (x + 214) T ++ [(113, kTab (x + 214))]))
theorem e_ck (w : World) (x T : Nat) (F : KF Flow) (ρ : Stream) (b0 : Bool) : EqV (q_ck (w.withFollow "special-get-raises" b0) w x T F ρ) (v_ck w x T F ρ) := by unfold EqV; cases b0 <;> kernel_rfl
theorem k_ck (w : World) (x T : Nat) (F : KF Flow) (ρ : Stream) : EqV (q_ck w w x T F ρ) (v_ck w x T F ρ) := by
  have e := e_ck w x T F ρ
  exact row1 (P := fun W => EqV (q_ck W w x T F ρ) (v_ck w x T F ρ)) "special-get-raises" e
noncomputable def zCK (w : World) : Summ where
  code := .call (.ref 118) ⟨[.ref 207], []⟩
  pre := [113]
  objs := [tabObj #[]]
  P := True
  k := 2
  b := true
  F := fun _ xs => ⟨.ok (.ret (.ref (gx 0 xs + 214 + 60))), [kTab (gx 0 xs + 214)], kAll w (gx 0 xs + 214) (gx 1 xs), gx 0 xs + 214 + 64, gx 1 xs + 78⟩
theorem hX1 {w : World} {f : Sb} (h : SbOk PR w f) : ∀ g ∈ [f], SbOk PR w g := fun g hg => by
  rw [List.mem_singleton.mp hg]; exact h
theorem zCK_ok (w : World) : SummOk w (zCK w) 100 := by
  intro _ A s R ha hd hu hK hL hB hn hat h
  obtain ⟨x, hx⟩ : ∃ x, s.heap.objs.size = x + 214 := ⟨s.heap.objs.size - 214, by omega⟩
  have rn : Rn w (mkZ w [] [] [sCB]) 0 [113] [tabObj #[]] s := rn_ofX sums_nil dyns_nil (hX1 sCB_ok) hK hL hB (by simp [cStatics]) hat hn
  refine run_code (dp := 14) (V := v_ck w x s.toks) rn (room_of ha hd hu (by omega)) hx (k_ck w x s.toks) fun ρ => ?_
  intro h' E
  have at' := E.at'
  refine h [dn x, dn s.toks] h' rfl ⟨E.size, E.ge, ⟨(at' (113, kTab (x + 214)) (List.mem_append_right _ (.head _))).1, trivial⟩, fun y hy => ?_, ?_, E.keep⟩
  · have q := at' y (List.mem_append_left _ hy)
    refine ⟨q.1, ?_⟩
    rcases q.2.2 with e | e
    · exfalso
      have e : y.1 = 113 := List.mem_singleton.mp e
      simp only [zCK, kAll, List.mem_cons, List.not_mem_nil, or_false] at hy
      rcases hy with rfl | rfl | rfl | rfl | rfl | rfl | rfl | rfl <;> simp only [gx] at e <;> omega
    · exact e
  · have nd := E.nd
    rw [List.map_append] at nd
    exact (List.nodup_append.mp nd).1
end Mine
-- X13
set_option maxHeartbeats 0
namespace Mine
noncomputable def kInst (b d : Nat) (p : Str) (t : Tok) : Obj := { cls := .ref (b + 60), dict := some d, data := .plain, slots := #[some (.str p t)] }
end Mine
-- S5
set_option maxHeartbeats 0
namespace Mine
noncomputable section
noncomputable def slash : Str := Str.ofString "/"
noncomputable def b2i (b : Bool) : Int := @Bool.rec (fun _ => Int) 0 1 b
noncomputable def kxL (w : World) (b T0 : Nat) : List (Nat × Obj) := [(b + 214 + 60, kCls (b + 214) T0), (b + 214 + 59, kNsD w (b + 214) T0), (b + 214 + 61, kMd (b + 214) T0), (b + 214 + 16, kInit w (b + 214)), (b + 214 + 15, kInitC (b + 214) T0)]
noncomputable def ltL (w : World) (b T0 xa xb da db : Nat) (p q : Str) (t u : Nat) : List (Nat × Obj) := [(b + 214 + 60, kCls (b + 214) T0), (b + 214 + 59, kNsD w (b + 214) T0), (b + 214 + 61, kMd (b + 214) T0), (b + 214 + 24, kLt w (b + 214)), (b + 214 + 23, kLtC (b + 214) T0), (b + 214 + 1, kCell), (xa + 214, kInst (b + 214) da p t), (xb + 214, kInst (b + 214) db q u)]
noncomputable def ltD (w : World) (x T b T0 xa xb da db : Nat) (p q : Str) (t u : Nat) (F : KF Flow) (c : Int) (k : Nat) : VT := .dec (decide (c < 0)) (.leaf (F (.ok (.ret (.bool false))) (x + 214 + 2) (T + k) (ltL w b T0 xa xb da db p q t u))) (.leaf (F (.ok (.ret (.bool true))) (x + 214 + 2) (T + k) (ltL w b T0 xa xb da db p q t u)))
end
noncomputable def q_kx (W : World) (w : World) (x T : Nat) (b : Nat) (T0 : Nat) (p : Str) (t : Nat) (F : KF Flow) (ρ : Stream) : VT := (ex ⟨PR, W.params⟩ (mkZ w []) 1500).c 14 (.call (.ref (b + 214 + 60)) ⟨[.str p t], []⟩) [0, 1, 1, 0, 1, 2, 18, 1, 1, 1, 0, 1, 1, 1, 1, 1, 1, 1, 0, 1, 1, 1, 1, 1, 1, 1, 1, 1, 1, 2, 1, 1, 7, 1, 7, 1, 1, 2, 4, 1, 4, 5, 8, 8, 8, 8, 0, 8, 8, 7, 1, 1, 2, 0, 7, 1, 0, 7, 1, 7, 1, 1, 2, 3, 3, 0, 3, 2, 20, 3, 3, 7, 1, 3, 3, 0, 3, 3, 7, 1, 7, 0, 1, 2, 3, 4, 6, 5] ⟨[b + 214 + 60, b + 214 + 59, b + 214 + 61, b + 214 + 16, b + 214 + 15], [kCls (b + 214) T0, kNsD w (b + 214) T0, kMd (b + 214) T0, kInit w (b + 214), kInitC (b + 214) T0], (x + 214), 0, T, 0, .n, ρ⟩ (leafC F)
noncomputable def v_kx (w : World) (x T : Nat) (b : Nat) (T0 : Nat) (p : Str) (t : Nat) (F : KF Flow) (ρ : Stream) : VT := .leaf (F (.ok (.ret (.ref (x + 214 + 1)))) (x + 214 + 3) (T + 3) (kxL w b T0 ++ [(x + 214 + 1, kInst (b + 214) (x + 214) p t), (x + 214, { cls := .type "dict", data := .dict #[] 0 })]))
theorem e_kx (w : World) (x T : Nat) (b : Nat) (T0 : Nat) (p : Str) (t : Nat) (F : KF Flow) (ρ : Stream) (b0 : Bool) : EqV (q_kx (w.withFollow "special-get-raises" b0) w x T b T0 p t F ρ) (v_kx w x T b T0 p t F ρ) := by unfold EqV; cases b0 <;> kernel_rfl
theorem k_kx (w : World) (x T : Nat) (b : Nat) (T0 : Nat) (p : Str) (t : Nat) (F : KF Flow) (ρ : Stream) : EqV (q_kx w w x T b T0 p t F ρ) (v_kx w x T b T0 p t F ρ) := by
  have e := e_kx w x T b T0 p t F ρ
  exact row1 (P := fun W => EqV (q_kx W w x T b T0 p t F ρ) (v_kx w x T b T0 p t F ρ)) "special-get-raises" e
noncomputable def q_lt (W : World) (w : World) (x T : Nat) (b : Nat) (T0 : Nat) (xa : Nat) (xb : Nat) (da : Nat) (db : Nat) (p : Str) (q : Str) (t : Nat) (u : Nat) (F : KF Flow) (ρ : Stream) : VT := (ex ⟨PR, W.params⟩ (mkZ w []) 2500).c 14 (.call (.ref (b + 214 + 24)) ⟨[.ref (xa + 214), .ref (xb + 214)], []⟩) [1, 4, 5, 9, 9, 9, 9, 0, 6, 9, 7, 1, 1, 2, 0, 7, 1, 1, 2, 3, 3, 1, 1, 2, 0, 3, 2, 19, 3, 3, 7, 1, 3, 3, 0, 3, 3, 7, 1, 7, 9, 8, 1, 1, 2, 0, 8, 1, 1, 2, 3, 3, 1, 1, 2, 0, 3, 2, 19, 3, 3, 8, 1, 3, 3, 0, 3, 3, 8, 1, 8, 0, 1, 0, 0, 10, 10, 10, 10, 0, 10, 0, 2, 28, 10, 0, 2, 28, 0, 2, 26, 2] ⟨[b + 214 + 60, b + 214 + 59, b + 214 + 61, b + 214 + 24, b + 214 + 23, b + 214 + 1, xa + 214, xb + 214], [kCls (b + 214) T0, kNsD w (b + 214) T0, kMd (b + 214) T0, kLt w (b + 214), kLtC (b + 214) T0, kCell, kInst (b + 214) da p t, kInst (b + 214) db q u], (x + 214), 0, T, 0, (.b [10, 10, 0, 0, 10, 10, 0, 0, 0, 0, 0, 2, 24, 2] (.b [0, 1, 2, 3, 4, 5, 6, 7] .n [0, 1, 2, 3, 4, 5, 6, 7] .n) [10, 0, 2, 28, 10, 0, 2, 28, 0, 0, 0, 2, 24, 2] (.b [0, 1, 2, 3, 4, 5, 6, 7] .n [0, 1, 2, 3, 4, 5, 6, 7] .n)), ρ⟩ (leafC F)
noncomputable def v_lt (w : World) (x T : Nat) (b : Nat) (T0 : Nat) (xa : Nat) (xb : Nat) (da : Nat) (db : Nat) (p : Str) (q : Str) (t : Nat) (u : Nat) (F : KF Flow) (ρ : Stream) : VT := .dec (Txt.count p slash != Txt.count q slash) (ltD w x T b T0 xa xb da db p q t u F (b2i (decide (q.cps.toList < p.cps.toList)) - b2i (decide (p.cps.toList < q.cps.toList))) 12) (ltD w x T b T0 xa xb da db p q t u F (Txt.count q slash - Txt.count p slash) 16)
theorem e_lt (w : World) (x T : Nat) (b : Nat) (T0 : Nat) (xa : Nat) (xb : Nat) (da : Nat) (db : Nat) (p : Str) (q : Str) (t : Nat) (u : Nat) (F : KF Flow) (ρ : Stream) (b0 : Bool) : EqV (q_lt (w.withFollow "special-get-raises" b0) w x T b T0 xa xb da db p q t u F ρ) (v_lt w x T b T0 xa xb da db p q t u F ρ) := by unfold EqV; cases b0 <;> kernel_rfl
theorem k_lt (w : World) (x T : Nat) (b : Nat) (T0 : Nat) (xa : Nat) (xb : Nat) (da : Nat) (db : Nat) (p : Str) (q : Str) (t : Nat) (u : Nat) (F : KF Flow) (ρ : Stream) : EqV (q_lt w w x T b T0 xa xb da db p q t u F ρ) (v_lt w x T b T0 xa xb da db p q t u F ρ) := by
  have e := e_lt w x T b T0 xa xb da db p q t u F ρ
  exact row1 (P := fun W => EqV (q_lt W w x T b T0 xa xb da db p q t u F ρ) (v_lt w x T b T0 xa xb da db p q t u F ρ)) "special-get-raises" e
structure KAt (w : World) (h : Heap) (b T0 : Nat) : Prop where
  cls : h.get? (b + 60) = some (kCls b T0)
  ns : h.get? (b + 59) = some (kNsD w b T0)
  md : h.get? (b + 61) = some (kMd b T0)
  init : h.get? (b + 16) = some (kInit w b)
  initC : h.get? (b + 15) = some (kInitC b T0)
  lt : h.get? (b + 24) = some (kLt w b)
  ltC : h.get? (b + 23) = some (kLtC b T0)
  cell : h.get? (b + 1) = some kCell
noncomputable def Kept (h h' : Heap) : Prop := ∀ b o, h.get? b = some o → h'.get? b = some o
section
variable {w : World} {A : Around} {R : Result → Shared → Prop} {s : Shared}
theorem KAt.kept {h h' : Heap} {b T0 : Nat} (C : KAt w h b T0) (k : Kept h h') : KAt w h' b T0 := ⟨k _ _ C.cls, k _ _ C.ns, k _ _ C.md, k _ _ C.init, k _ _ C.initC, k _ _ C.lt, k _ _ C.ltC, k _ _ C.cell⟩
noncomputable def SKAt (w : World) (h : Heap) : Prop := ∀ a o, KK w.params a = some o → h.get? a = some o
theorem kept_of {h h' : Heap} {D : List Nat} {obs : List Obj} {n : Nat} {l : List (Nat × Obj)} (E : End h h' D n l) (hat : At h D obs) (hs : ∀ (j a : Nat) (o : Obj), D[j]? = some a → obs[j]? = some o → (a, o) ∈ l) : Kept h h' := fun b o e => by
  by_cases hb : b ∈ D
  · obtain ⟨j, hj⟩ := List.mem_iff_getElem?.mp hb
    have hlen := hat.len
    have hj' : j < D.length := (List.getElem?_eq_some_iff.mp hj).1
    have ho : obs[j]? = some (obs[j]'(by omega)) := List.getElem?_eq_getElem (by omega)
    have e1 := hat.get j b _ hj ho
    rw [e1] at e
    cases e
    exact (E.at' _ (hs j b _ hj ho)).1
  · exact E.keep b o e hb
noncomputable def ktB (n : Nat) : KT → Nat → Nat → Bool
  | .nil, _, _ => true
  | .node v l r, s, b => (v.isNone || decide (b < n)) && (ktB n l (2 * s) (s + b) && ktB n r (2 * s) (2 * s + b))
theorem ktB_h {n : Nat} : ∀ {t : KT} {s b i : Nat} {o : Obj}, ktB n t s b = true → t.get i = some o → s * i + b < n
  | .nil, _, _, _, _, _, e => nomatch e
  | .node v l r, s, b, i, o, h, e => by
    unfold ktB at h
    rw [Bool.and_eq_true, Bool.and_eq_true] at h
    rw [KT.get_node] at e
    by_cases h0 : i = 0
    · subst h0
      rw [if_pos rfl] at e
      subst e
      have := h.1
      simp at this
      omega
    · rw [if_neg h0] at e
      by_cases p : i % 2 = 1
      · rw [if_pos p] at e
        rw [KT.arith1 p]
        exact ktB_h h.2.1 e
      · rw [if_neg p] at e
        rw [KT.arith2 h0 p]
        exact ktB_h h.2.2 e
theorem kt_low (P : Params) : ktB 214 (ktop P) 1 0 = true := by kernel_rfl
theorem kk_low {P : Params} {a : Nat} {o : Obj} (e : KK P a = some o) : a < 214 := by
  have e2 : (ktop P).get a = some o := by
    unfold KK at e
    cases h1 : Nat.beq a 113 with
    | true => rw [h1] at e; cases e
    | false =>
      rw [h1] at e
      cases h2 : Nat.beq a 195 with
      | true => rw [h2] at e; cases e
      | false => rw [h2] at e; exact e
  have := ktB_h (kt_low P) e2
  omega
theorem kk_ok {w : World} {h : Heap} {D : List Nat} (X : SKAt w h) (hs : ∀ a ∈ D, 214 ≤ a) : KOk (KK w.params) h D := fun a o e => ⟨X a o e, fun m => by
  have lt : (a : Nat) < 214 := kk_low e
  exact absurd (hs a m) (Nat.not_le.mpr lt)⟩
theorem kx_spec {x x0 T0 t : Nat} {p : Str} (ha : A.handled = none) (hd : A.depth + 100 < recursionLimit) (hu : A.units + 200 < cLine) (hN : s.heap.objs.size = x + 214) (hL : s.heap.NoLimit) (X : SKAt w s.heap) (C : KAt w s.heap (x0 + 214) T0)
    (h : ∀ h', Kept s.heap h' → h'.get? (x + 214 + 1) = some (kInst (x0 + 214) (x + 214) p t) → (∃ o, h'.get? (x + 214) = some o) → h'.objs.size = x + 214 + 3 → R (.ok (.ret (.ref (x + 214 + 1)))) ⟨h', s.gens, s.drawn, s.toks + 3, s.os⟩) :
    codeAny (model PR w) A (.call (.ref (x0 + 214 + 60)) ⟨[.str p t], []⟩) R s := by
  have hat : At s.heap [x0 + 214 + 60, x0 + 214 + 59, x0 + 214 + 61, x0 + 214 + 16, x0 + 214 + 15] [kCls (x0 + 214) T0, kNsD w (x0 + 214) T0, kMd (x0 + 214) T0, kInit w (x0 + 214), kInitC (x0 + 214) T0] := ⟨C.cls, C.ns, C.md, C.init, C.initC, trivial⟩
  have hK : KOk (KK w.params) s.heap [x0 + 214 + 60, x0 + 214 + 59, x0 + 214 + 61, x0 + 214 + 16, x0 + 214 + 15] := kk_ok X (by intro a m; simp at m; omega)
  have hn : [x0 + 214 + 60, x0 + 214 + 59, x0 + 214 + 61, x0 + 214 + 16, x0 + 214 + 15].Nodup := by simp
  have rn : Rn w (mkZ w []) 0 _ _ s := (Bs.mk hK hL (by omega)).rn sums_nil hat hn
  refine run_code (dp := 14) (V := v_kx w x s.toks x0 T0 p t) rn (room_of ha hd (by omega) (by omega)) hN (k_kx w x s.toks x0 T0 p t) fun ρ => ?_
  intro h' E
  have hi := (E.at' (x + 214 + 1, kInst (x0 + 214) (x + 214) p t) (by simp [kxL])).1
  have hdd := (E.at' (x + 214, { cls := .type "dict", data := .dict #[] 0 }) (by simp [kxL])).1
  refine h h' (kept_of E hat fun j a o e1 e2 => List.mem_append_left _ ?_) hi ⟨_, hdd⟩ E.size
  rcases j with _ | _ | _ | _ | _ | j <;> simp at e1 e2 <;> subst e1 e2 <;> simp [kxL]
noncomputable def cmpLt (p q : Str) : Bool := if Txt.count p slash != Txt.count q slash then decide (Txt.count q slash - Txt.count p slash < 0) else decide (b2i (decide (q.cps.toList < p.cps.toList)) - b2i (decide (p.cps.toList < q.cps.toList)) < 0)
theorem lt_spec {x x0 xa xb da db T0 t u : Nat} {p q : Str} (ha : A.handled = none) (hd : A.depth + 100 < recursionLimit) (hu : A.units + 200 < cLine) (hN : s.heap.objs.size = x + 214) (hL : s.heap.NoLimit) (X : SKAt w s.heap) (C : KAt w s.heap (x0 + 214) T0)
    (I1 : s.heap.get? (xa + 214) = some (kInst (x0 + 214) da p t)) (I2 : s.heap.get? (xb + 214) = some (kInst (x0 + 214) db q u)) (ne : xa ≠ xb) (g1 : x0 + 62 ≤ xa) (g2 : x0 + 62 ≤ xb)
    (h : ∀ h' k, Kept s.heap h' → h'.objs.size = x + 214 + 2 → R (.ok (.ret (.bool (cmpLt p q)))) ⟨h', s.gens, s.drawn, s.toks + k, s.os⟩) :
    codeAny (model PR w) A (.call (.ref (x0 + 214 + 24)) ⟨[.ref (xa + 214), .ref (xb + 214)], []⟩) R s := by
  have hat : At s.heap [x0 + 214 + 60, x0 + 214 + 59, x0 + 214 + 61, x0 + 214 + 24, x0 + 214 + 23, x0 + 214 + 1, xa + 214, xb + 214] [kCls (x0 + 214) T0, kNsD w (x0 + 214) T0, kMd (x0 + 214) T0, kLt w (x0 + 214), kLtC (x0 + 214) T0, kCell, kInst (x0 + 214) da p t, kInst (x0 + 214) db q u] := ⟨C.cls, C.ns, C.md, C.lt, C.ltC, C.cell, I1, I2, trivial⟩
  have hK : KOk (KK w.params) s.heap [x0 + 214 + 60, x0 + 214 + 59, x0 + 214 + 61, x0 + 214 + 24, x0 + 214 + 23, x0 + 214 + 1, xa + 214, xb + 214] := kk_ok X (by intro a m; simp at m; rcases m with rfl | rfl | rfl | rfl | rfl | rfl | rfl | rfl <;> omega)
  have n1 : ∀ k, k < 62 → ¬ (x0 + 214 + k = xa + 214) := fun k hk => by omega
  have n2 : ∀ k, k < 62 → ¬ (x0 + 214 + k = xb + 214) := fun k hk => by omega
  have hn : [x0 + 214 + 60, x0 + 214 + 59, x0 + 214 + 61, x0 + 214 + 24, x0 + 214 + 23, x0 + 214 + 1, xa + 214, xb + 214].Nodup := by
    have := n1 60 (by decide); have := n1 59 (by decide); have := n1 61 (by decide); have := n1 24 (by decide); have := n1 23 (by decide); have := n1 1 (by decide)
    have := n2 60 (by decide); have := n2 59 (by decide); have := n2 61 (by decide); have := n2 24 (by decide); have := n2 23 (by decide); have := n2 1 (by decide)
    have hx : ¬ (xa + 214 = xb + 214) := by omega
    simp only [List.nodup_cons, List.mem_cons, List.not_mem_nil, or_false, not_or, List.nodup_nil, and_true]
    refine ⟨⟨?_, ?_, ?_, ?_, ?_, ?_, ?_⟩, ⟨?_, ?_, ?_, ?_, ?_, ?_⟩, ⟨?_, ?_, ?_, ?_, ?_⟩, ⟨?_, ?_, ?_, ?_⟩, ⟨?_, ?_, ?_⟩, ⟨?_, ?_⟩, ?_, not_false⟩ <;> first | assumption | omega
  have rn : Rn w (mkZ w []) 0 _ _ s := (Bs.mk hK hL (by omega)).rn sums_nil hat hn
  refine run_code (dp := 14) (V := v_lt w x s.toks x0 T0 xa xb da db p q t u) rn (room_of ha hd (by omega) (by omega)) hN (k_lt w x s.toks x0 T0 xa xb da db p q t u) fun ρ => ?_
  have fin : ∀ (v : Bool) (k : Nat), v = cmpLt p q → (VT.leaf (endF s [x0 + 214 + 60, x0 + 214 + 59, x0 + 214 + 61, x0 + 214 + 24, x0 + 214 + 23, x0 + 214 + 1, xa + 214, xb + 214] R (.ok (.ret (.bool v))) (x + 214 + 2) (s.toks + k) (ltL w x0 T0 xa xb da db p q t u))).Holds := by
    intro v k hv h' E
    subst hv
    refine h h' k (kept_of E hat fun j a o e1 e2 => ?_) E.size
    rcases j with _ | _ | _ | _ | _ | _ | _ | _ | j <;> simp at e1 e2 <;> subst e1 e2 <;> simp [ltL]
  have two : ∀ (c : Int) (k : Nat), decide (c < 0) = cmpLt p q → (ltD w x s.toks x0 T0 xa xb da db p q t u (endF s [x0 + 214 + 60, x0 + 214 + 59, x0 + 214 + 61, x0 + 214 + 24, x0 + 214 + 23, x0 + 214 + 1, xa + 214, xb + 214] R) c k).Holds := fun c k hc => ⟨fun e => fin _ k (e.symm.trans hc), fun e => fin _ k (e.symm.trans hc)⟩
  exact ⟨fun e => two _ _ (by unfold cmpLt; rw [e]; rfl), fun e => two _ _ (by unfold cmpLt; rw [e]; rfl)⟩
end
end Mine
-- KSRT
open PySem PySem.W PyProof.Rows
namespace Mine
namespace Srt
noncomputable def Good (n : Nat) (lt : Nat → Nat → Bool) {α : Type} : KasT α → (α → Prop) → Prop
  | .ret a, P => P a
  | .ask i j k, P => i < n ∧ j < n ∧ i ≠ j ∧ Good n lt (k (lt i j)) P
noncomputable def g (p : Array Nat) (i : Nat) : Nat := p.getD i 0
section
variable {n : Nat} {lt : Nat → Nat → Bool}
theorem Good.mono {α : Type} {P P' : α → Prop} (h : ∀ a, P a → P' a) : ∀ {t : KasT α}, Good n lt t P → Good n lt t P'
  | .ret _, z => h _ z
  | .ask _ _ _, z => ⟨z.1, z.2.1, z.2.2.1, Good.mono h z.2.2.2⟩
theorem Good.bind {α β : Type} {f : α → KasT β} {P : β → Prop} : ∀ {t : KasT α}, Good n lt t (fun a => Good n lt (f a) P) → Good n lt (t.bind f) P
  | .ret _, z => z
  | .ask _ _ _, z => ⟨z.1, z.2.1, z.2.2.1, Good.bind z.2.2.2⟩
structure Ord (lt : Nat → Nat → Bool) : Prop where
  asym : ∀ a b, lt a b = true → lt b a = false
  ntr : ∀ a b c, lt a b = false → lt b c = false → lt a c = false
theorem Ord.irr (O : Ord lt) (a : Nat) : lt a a = false := by
  cases h : lt a a with
  | false => rfl
  | true => rw [O.asym a a h] at h; cases h
structure IsP (n : Nat) (p : Array Nat) : Prop where
  size : p.size = n
  perm : p.toList.Perm (List.range n)
theorem IsP.lt' {p : Array Nat} (h : IsP n p) {i : Nat} (hi : i < n) : g p i < n := by
  have e : g p i ∈ p.toList := by
    unfold g
    rw [Array.getD, dif_pos (by rw [h.size]; exact hi)]
    exact Array.getElem_mem_toList _
  exact List.mem_range.mp (h.perm.mem_iff.mp e)
theorem IsP.ne {p : Array Nat} (h : IsP n p) {i j : Nat} (hi : i < n) (hj : j < n) (hij : i ≠ j) : g p i ≠ g p j := by
  intro e
  have nd : p.toList.Nodup := h.perm.nodup_iff.mpr List.nodup_range
  unfold g at e
  rw [Array.getD, dif_pos (by rw [h.size]; exact hi), Array.getD, dif_pos (by rw [h.size]; exact hj)] at e
  change p[i]'(by rw [h.size]; exact hi) = p[j]'(by rw [h.size]; exact hj) at e
  have hi' : i < p.toList.length := by rw [Array.length_toList, h.size]; exact hi
  have hj' : j < p.toList.length := by rw [Array.length_toList, h.size]; exact hj
  exact hij ((List.getElem_inj (h₀ := hi') (h₁ := hj') nd).mp (by simpa using e))
theorem g_eq {p : Array Nat} {i : Nat} : g p i = (p[i]?).getD 0 := by unfold g; rw [Array.getD_eq_getD_getElem?]
theorem g_rev {p : Array Nat} {i j : Nat} (hj : j ≤ p.size) (k : Nat) : g (kas_rev p i j) k = if i ≤ k ∧ k < j then g p (i + j - 1 - k) else g p k := by
  rw [g_eq, g_eq, g_eq]
  unfold kas_rev
  rw [getElem?_mirror_all hj]
  split <;> rfl
theorem IsP.rev {p : Array Nat} (h : IsP n p) (i j : Nat) : IsP n (kas_rev p i j) := ⟨(mirror_size _ _ _ _).trans h.size, (Array.perm_iff_toList_perm.mp (mirror_perm _ _ _ _)).trans h.perm⟩
theorem g_bub {p : Array Nat} {k d : Nat} (hk : k < p.size) (hd : d ≤ k) (j : Nat) : g (bubble p k d) j = if j = k - d then g p k else if k - d < j ∧ j ≤ k then g p (j - 1) else g p j := by
  rw [g_eq, g_eq, g_eq, g_eq, getElem?_bubble hk d hd]
  split
  · rfl
  · split <;> rfl
theorem IsP.bub {p : Array Nat} (h : IsP n p) (k d : Nat) : IsP n (bubble p k d) := ⟨(bubble_size _ _ _).trans h.size, (Array.perm_iff_toList_perm.mp (bubble_perm _ _ _)).trans h.perm⟩
noncomputable def Up (lt : Nat → Nat → Bool) (p : Array Nat) (m : Nat) : Prop := ∀ i j, i < j → j < m → lt (g p j) (g p i) = false
noncomputable def Dn' (lt : Nat → Nat → Bool) (p : Array Nat) (m : Nat) : Prop := ∀ i j, i < j → j < m → lt (g p i) (g p j) = false
noncomputable def Eqv (lt : Nat → Nat → Bool) (a b : Nat) : Prop := lt a b = false ∧ lt b a = false
theorem Eqv.trans (O : Ord lt) {a b c : Nat} (h : Eqv lt a b) (k : Eqv lt b c) : Eqv lt a c := ⟨O.ntr _ _ _ h.1 k.1, O.ntr _ _ _ k.2 h.2⟩
theorem Eqv.symm {a b : Nat} (h : Eqv lt a b) : Eqv lt b a := ⟨h.2, h.1⟩
theorem Eqv.refl (O : Ord lt) (a : Nat) : Eqv lt a a := ⟨O.irr a, O.irr a⟩
theorem Up.succ (O : Ord lt) {p : Array Nat} {m : Nat} (h : Up lt p m) (hm : 1 ≤ m) (z : lt (g p m) (g p (m - 1)) = false) : Up lt p (m + 1) := by
  intro i j hij hj
  by_cases e : j = m
  · subst e
    by_cases e' : i = j - 1
    · subst e'; exact z
    · exact O.ntr _ _ _ z (h i (j - 1) (by omega) (by omega))
  · exact h i j hij (by omega)
theorem Dn'.succ (O : Ord lt) {p : Array Nat} {m : Nat} (h : Dn' lt p m) (hm : 1 ≤ m) (z : lt (g p (m - 1)) (g p m) = false) : Dn' lt p (m + 1) := by
  intro i j hij hj
  by_cases e : j = m
  · subst e
    by_cases e' : i = j - 1
    · subst e'; exact z
    · exact O.ntr _ _ _ (h i (j - 1) (by omega) (by omega)) z
  · exact h i j hij (by omega)
theorem Dn'.eqv (O : Ord lt) {p p' : Array Nat} {m : Nat} (h : Dn' lt p m) (e : ∀ i, i < m → Eqv lt (g p' i) (g p i)) : Dn' lt p' m := fun i j hij hj =>
  O.ntr _ _ _ (O.ntr _ _ _ (e i (by omega)).1 (h i j hij hj)) (e j hj).2
noncomputable def Seg (lt : Nat → Nat → Bool) (p : Array Nat) (m q : Nat) : Prop := ∀ i, m - (q + 1) ≤ i → i < m → Eqv lt (g p i) (g p (m - 1))
theorem seg_rev (O : Ord lt) {p : Array Nat} {m q : Nat} (hm : m ≤ p.size) (hq : q + 1 ≤ m) (s : Seg lt p m q) (i : Nat) : Eqv lt (g (kas_rev p (m - (q + 1)) m) i) (g p i) := by
  rw [g_rev hm]
  split
  · rename_i hc
    exact Eqv.trans O (s _ (by omega) (by omega)) (Eqv.symm (s i hc.1 hc.2))
  · exact Eqv.refl O _
theorem good_asc (O : Ord lt) {p : Array Nat} (hp : IsP n p) : ∀ (f m : Nat), 1 ≤ m → m + f ≤ n → Up lt p m → Good n lt (kas_asc p f m) (fun r => m ≤ r ∧ r ≤ m + f ∧ Up lt p r ∧ (r < m + f → lt (g p r) (g p (r - 1)) = true))
  | 0, m, h1, h2, u => ⟨Nat.le_refl _, Nat.le_refl _, u, fun h => absurd h (Nat.lt_irrefl _)⟩
  | f + 1, m, h1, h2, u => by
    refine ⟨hp.lt' (by omega), hp.lt' (by omega), hp.ne (by omega) (by omega) (by omega), ?_⟩
    show Good n lt (if lt (g p m) (g p (m - 1)) = true then KasT.ret m else kas_asc p f (m + 1)) _
    split
    · rename_i hc
      exact ⟨Nat.le_refl _, by omega, u, fun _ => hc⟩
    · rename_i hc
      refine Good.mono ?_ (good_asc O hp f (m + 1) (by omega) (by omega) (u.succ O h1 (by simpa using hc)))
      intro r ⟨a, b, c, d⟩
      exact ⟨by omega, by omega, c, fun h => d (by omega)⟩
theorem good_desc (O : Ord lt) : ∀ (f : Nat) (p : Array Nat) (m q : Nat), IsP n p → q + 1 ≤ m → m + f ≤ n → Dn' lt p m → Seg lt p m q →
    Good n lt (kas_desc f p m q) (fun r => IsP n r.1 ∧ m ≤ r.2.1 ∧ r.2.1 ≤ m + f ∧ Dn' lt r.1 r.2.1 ∧ r.2.2 + 1 ≤ r.2.1 ∧ Seg lt r.1 r.2.1 r.2.2)
  | 0, p, m, q, hp, hq, h2, d, s => ⟨hp, Nat.le_refl _, Nat.le_refl _, d, hq, s⟩
  | f + 1, p, m, q, hp, hq, h2, d, s => by
    have up : ∀ {p' q'}, IsP n p' → q' + 1 ≤ m + 1 → Dn' lt p' (m + 1) → Seg lt p' (m + 1) q' → Good n lt (kas_desc f p' (m + 1) q') (fun r => IsP n r.1 ∧ m ≤ r.2.1 ∧ r.2.1 ≤ m + (f + 1) ∧ Dn' lt r.1 r.2.1 ∧ r.2.2 + 1 ≤ r.2.1 ∧ Seg lt r.1 r.2.1 r.2.2) := by
      intro p' q' a b c e
      refine Good.mono ?_ (good_desc O f p' (m + 1) q' a b (by omega) c e)
      intro r ⟨r1, r2, r3, r4, r5, r6⟩
      exact ⟨r1, by omega, by omega, r4, r5, r6⟩
    have s0 : ∀ p' : Array Nat, Seg lt p' (m + 1) 0 := fun p' i a b => by
      have : i = m := by omega
      subst this; exact Eqv.refl O _
    refine ⟨hp.lt' (by omega), hp.lt' (by omega), hp.ne (by omega) (by omega) (by omega), ?_⟩
    show Good n lt (if lt (g p m) (g p (m - 1)) = true then (if q > 0 then kas_desc f (kas_rev p (m - (q + 1)) m) (m + 1) 0 else kas_desc f p (m + 1) 0)
      else .ask (g p (m - 1)) (g p m) fun d => if d = true then .ret (p, m, q) else kas_desc f p (m + 1) (q + 1)) _
    split
    · rename_i hc
      have d1 : Dn' lt p (m + 1) := d.succ O (by omega) (O.asym _ _ hc)
      split
      · exact up (q' := 0) (hp.rev _ _) (by omega) (d1.eqv O fun i _ => seg_rev O (by rw [hp.size]; omega) hq s i) (s0 _)
      · exact up (q' := 0) hp (by omega) d1 (s0 _)
    · rename_i hc
      have hc' : lt (g p m) (g p (m - 1)) = false := by simpa using hc
      refine ⟨hp.lt' (by omega), hp.lt' (by omega), hp.ne (by omega) (by omega) (by omega), ?_⟩
      show Good n lt (if lt (g p (m - 1)) (g p m) = true then .ret (p, m, q) else kas_desc f p (m + 1) (q + 1)) _
      split
      · exact ⟨hp, Nat.le_refl _, Nat.le_add_right m (f + 1), d, hq, s⟩
      · rename_i he
        have he' : lt (g p (m - 1)) (g p m) = false := by simpa using he
        refine up (q' := q + 1) hp (by omega) (d.succ O (by omega) he') ?_
        intro i a b
        show Eqv lt (g p i) (g p (m + 1 - 1))
        rw [Nat.add_sub_cancel]
        by_cases e : i = m
        · subst e; exact Eqv.refl O _
        · exact Eqv.trans O (s i (by omega) (by omega)) ⟨he', hc'⟩
theorem up_rev {p : Array Nat} {m : Nat} (hm : m ≤ p.size) (d : Dn' lt p m) : Up lt (kas_rev p 0 m) m := by
  intro i j hij hj
  rw [g_rev hm, g_rev hm, if_pos ⟨Nat.zero_le _, hj⟩, if_pos ⟨Nat.zero_le _, by omega⟩]
  exact d _ _ (by omega) (by omega)
theorem good_tail3 (O : Ord lt) {p : Array Nat} (hp : IsP n p) {m : Nat} (h1 : 1 ≤ m) (h2 : m ≤ n) (d : Dn' lt p m) :
    Good n lt (kas_tail3 m n p) (fun r => IsP n r.2 ∧ 1 ≤ r.1 ∧ r.1 ≤ n ∧ Up lt r.2 r.1) := by
  unfold kas_tail3
  refine Good.bind (Good.mono ?_ (good_asc O (hp.rev 0 m) (n - m) m h1 (by omega) (up_rev (by rw [hp.size]; exact h2) d)))
  intro r ⟨a, b, c, _⟩
  exact ⟨hp.rev 0 m, by omega, by omega, c⟩
theorem good_descPart (O : Ord lt) {p : Array Nat} (hp : IsP n p) {m : Nat} (h2 : m + 1 ≤ n) (d : Dn' lt p (m + 1)) :
    Good n lt (kas_descPart m n p) (fun r => IsP n r.2 ∧ 1 ≤ r.1 ∧ r.1 ≤ n ∧ Up lt r.2 r.1) := by
  unfold kas_descPart
  refine Good.bind (Good.mono ?_ (good_desc O (n - (m + 1)) p (m + 1) 0 hp (by omega) (by omega) d (fun i a b => by
    have : i = m := by omega
    subst this; exact Eqv.refl O _)))
  intro r ⟨r1, r2, r3, r4, r5, r6⟩
  split
  · exact good_tail3 O (r1.rev _ _) (by omega) (by omega) (r4.eqv O fun i _ => seg_rev O (by rw [r1.size]; omega) r5 r6 i)
  · exact good_tail3 O r1 (by omega) (by omega) r4
theorem good_count (O : Ord lt) {p : Array Nat} (hp : IsP n p) (h1 : 1 ≤ n) : Good n lt (kas_count n p) (fun r => IsP n r.2 ∧ 1 ≤ r.1 ∧ r.1 ≤ n ∧ Up lt r.2 r.1) := by
  unfold kas_count
  refine Good.bind (Good.mono ?_ (good_asc O hp (n - 1) 1 (Nat.le_refl _) (by omega) (fun i j a b => by omega)))
  intro m ⟨a, b, u, z⟩
  split
  · exact ⟨hp, by omega, by omega, u⟩
  · rename_i hne
    have hlt : m < n := by
      have : m ≠ n := by simpa using hne
      omega
    have zz := z (by omega)
    split
    · refine ⟨hp.lt' (by omega), hp.lt' (by omega), hp.ne (by omega) (by omega) (by omega), ?_⟩
      show Good n lt (if lt (g p 0) (g p (m - 1)) = true then .ret (m, p) else kas_descPart m n (kas_rev p 0 m)) _
      split
      · exact ⟨hp, by omega, by omega, u⟩
      · rename_i hc
        have hc' : lt (g p 0) (g p (m - 1)) = false := by simpa using hc
        have all : ∀ i, i < m → Eqv lt (g p i) (g p (m - 1)) := by
          intro i hi
          constructor
          · by_cases e : i = 0
            · subst e; exact hc'
            · exact O.ntr _ _ _ (u 0 i (by omega) hi) hc'
          · by_cases e : i = m - 1
            · subst e; exact O.irr _
            · exact u i (m - 1) (by omega) (by omega)
        have ev : ∀ i, Eqv lt (g (kas_rev p 0 m) i) (g p i) := by
          intro i
          have hm : m ≤ p.size := by rw [hp.size]; omega
          rw [g_rev hm]
          split
          · rename_i q
            exact Eqv.trans O (all _ (by omega)) (Eqv.symm (all i q.2))
          · exact Eqv.refl O _
        refine good_descPart O (hp.rev 0 m) (by omega) ?_
        have d0 : Dn' lt p m := fun i j hij hj => (Eqv.trans O (all i (by omega)) (Eqv.symm (all j hj))).1
        exact (d0.succ O (by omega) (O.asym _ _ zz)).eqv O fun i _ => ev i
    · have : m = 1 := by omega
      subst this
      have d0 : Dn' lt p 1 := fun i j hij hj => by omega
      exact good_descPart O hp (by omega) (d0.succ O (Nat.le_refl _) (O.asym _ _ zz))
theorem good_place (O : Ord lt) {p : Array Nat} (hp : IsP n p) {k : Nat} (hk : k < n) (u : Up lt p k) : ∀ (f l r : Nat), l ≤ r → r ≤ k → r - l ≤ f → (∀ i, i < l → lt (g p k) (g p i) = false) → (∀ i, r ≤ i → i < k → lt (g p k) (g p i) = true) →
    Good n lt (kas_place p k f l r) (fun x => x ≤ k ∧ (∀ i, i < x → lt (g p k) (g p i) = false) ∧ (∀ i, x ≤ i → i < k → lt (g p k) (g p i) = true))
  | 0, l, r, h1, h2, h3, a, b => by
    have : l = r := by omega
    subst this
    exact ⟨h2, a, b⟩
  | f + 1, l, r, h1, h2, h3, a, b => by
    unfold kas_place
    split
    · have : l = r := by omega
      subst this
      exact ⟨h2, a, b⟩
    · rename_i hlr
      refine ⟨hp.lt' (by omega), hp.lt' (by omega), hp.ne (by omega) (by omega) (by omega), ?_⟩
      show Good n lt (if lt (g p k) (g p ((l + r) / 2)) = true then kas_place p k f l ((l + r) / 2) else kas_place p k f ((l + r) / 2 + 1) r) _
      split
      · rename_i hc
        refine good_place O hp hk u f l _ (by omega) (by omega) (by omega) a ?_
        intro i hi hik
        by_cases e : i = (l + r) / 2
        · subst e; exact hc
        · cases hx : lt (g p k) (g p i) with
          | true => rfl
          | false =>
            have := O.ntr _ _ _ hx (u ((l + r) / 2) i (by omega) hik)
            rw [hc] at this; cases this
      · rename_i hc
        have hc' : lt (g p k) (g p ((l + r) / 2)) = false := by simpa using hc
        refine good_place O hp hk u f _ r (by omega) h2 (by omega) ?_ b
        intro i hi
        by_cases e : i = (l + r) / 2
        · subst e; exact hc'
        · exact O.ntr _ _ _ hc' (u i ((l + r) / 2) (by omega) (by omega))
theorem good_bin (O : Ord lt) : ∀ (f : Nat) (p : Array Nat) (k : Nat), IsP n p → k + f = n → Up lt p k → Good n lt (kas_bin f p k) (fun r => IsP n r ∧ Up lt r n)
  | 0, p, k, hp, h, u => by
    have : k = n := by omega
    subst this
    exact ⟨hp, u⟩
  | f + 1, p, k, hp, h, u => by
    unfold kas_bin
    refine Good.bind (Good.mono ?_ (good_place O hp (by omega) u k 0 k (Nat.zero_le _) (Nat.le_refl _) (by omega) (fun i hi => by omega) (fun i a b => by omega)))
    intro l ⟨hl, a, b⟩
    refine good_bin O f _ (k + 1) (hp.bub _ _) (by omega) ?_
    intro i j hij hj
    have hk : k < p.size := by rw [hp.size]; omega
    rw [g_bub hk (by omega), g_bub hk (by omega)]
    have e : k - (k - l) = l := by omega
    rw [e]
    by_cases j1 : j = l
    · rw [if_pos j1, if_neg (by omega), if_neg (by omega)]
      exact a i (by omega)
    · rw [if_neg j1]
      by_cases j2 : l < j ∧ j ≤ k
      · rw [if_pos j2]
        by_cases i1 : i = l
        · rw [if_pos i1]
          exact O.asym _ _ (b (j - 1) (by omega) (by omega))
        · rw [if_neg i1]
          by_cases i2 : l < i ∧ i ≤ k
          · rw [if_pos i2]; exact u _ _ (by omega) (by omega)
          · rw [if_neg i2]; exact u _ _ (by omega) (by omega)
      · rw [if_neg j2, if_neg (by omega), if_neg (by omega)]
        exact u _ _ hij (by omega)
theorem good_sort (O : Ord lt) (h1 : 1 ≤ n) : Good n lt (kas_sort n) (fun r => IsP n r ∧ Up lt r n) := by
  unfold kas_sort
  have h0 : IsP n (List.toArray (List.range n)) := ⟨by simp, by simp⟩
  refine Good.bind (Good.mono ?_ (good_count O h0 h1))
  intro r ⟨r1, r2, r3, r4⟩
  split
  · have e : max r.1 1 = r.1 := by omega
    rw [e]
    exact good_bin O _ _ _ r1 (by omega) r4
  · have : r.1 = n := by omega
    rw [this] at r4
    exact ⟨r1, r4⟩
theorem kasWp_good {α : Type} {cmp : Nat → Nat → (Bool → Shared → Prop) → Shared → Prop} {Inv : Shared → Prop} {P : α → Prop} {Q : α → Shared → Prop}
    (hc : ∀ i j C s, i < n → j < n → i ≠ j → Inv s → (∀ s', Inv s' → C (lt i j) s') → cmp i j C s) (hQ : ∀ a s', P a → Inv s' → Q a s') : ∀ (t : KasT α) (s : Shared), Good n lt t P → Inv s → t.kasWp cmp Q s
  | .ret _, s, z, hi => hQ _ s z hi
  | .ask i j k, s, z, hi => hc i j _ s z.1 z.2.1 z.2.2.1 hi fun s' hs => kasWp_good hc hQ (k (lt i j)) s' z.2.2.2 hs
end
end Srt
end Mine
-- S6
namespace Mine
theorem list_asym {a b : List Nat} (h : a < b) : ¬ b < a := fun k => List.lt_irrefl _ (List.lt_trans h k)
theorem cmpLt_iff (p q : Str) : cmpLt p q = true ↔ (Txt.count q slash < Txt.count p slash ∨ (Txt.count p slash = Txt.count q slash ∧ p.cps.toList < q.cps.toList)) := by
  unfold cmpLt
  by_cases e : Txt.count p slash = Txt.count q slash
  · rw [e, if_neg (by simp)]
    by_cases h1 : p.cps.toList < q.cps.toList
    · have h2 := list_asym h1
      simp [h1, h2, b2i]
    · by_cases h2 : q.cps.toList < p.cps.toList
      · simp [h1, h2, b2i]
      · simp [h1, h2, b2i]
  · rw [if_pos (by simpa using e)]
    simp only [decide_eq_true_eq]
    constructor
    · intro h; left; omega
    · rintro (h | h)
      · omega
      · exact absurd h.1 e
theorem cmpLt_asym (p q : Str) (h : cmpLt p q = true) : cmpLt q p = false := by
  cases k : cmpLt q p with
  | false => rfl
  | true =>
    rw [cmpLt_iff] at h k
    rcases h with h | ⟨h, h'⟩ <;> rcases k with k | ⟨k, k'⟩
    · omega
    · omega
    · omega
    · exact absurd k' (list_asym h')
theorem cmpLt_ntr (p q r : Str) (h : cmpLt p q = false) (k : cmpLt q r = false) : cmpLt p r = false := by
  cases z : cmpLt p r with
  | false => rfl
  | true =>
    have h' : ¬ cmpLt p q = true := by rw [h]; simp
    have k' : ¬ cmpLt q r = true := by rw [k]; simp
    rw [cmpLt_iff] at h' k' z
    exfalso
    rcases z with z | ⟨z, z'⟩
    · by_cases a : Txt.count q slash < Txt.count p slash
      · exact h' (.inl a)
      · exact k' (.inl (by omega))
    · by_cases a : Txt.count q slash < Txt.count p slash
      · exact h' (.inl a)
      · by_cases b : Txt.count r slash < Txt.count q slash
        · exact k' (.inl b)
        · have e1 : Txt.count p slash = Txt.count q slash := by omega
          have e2 : Txt.count q slash = Txt.count r slash := by omega
          have n1 : ¬ p.cps.toList < q.cps.toList := fun x => h' (.inr ⟨e1, x⟩)
          have n2 : ¬ q.cps.toList < r.cps.toList := fun x => k' (.inr ⟨e2, x⟩)
          exact List.not_lt.mpr (List.le_trans (List.not_lt.mp n2) (List.not_lt.mp n1)) z'
theorem cmp_ord (f : Nat → Str) : Srt.Ord (fun i j => cmpLt (f i) (f j)) := ⟨fun _ _ => cmpLt_asym _ _, fun _ _ _ => cmpLt_ntr _ _ _⟩
noncomputable def kFrag (w : World) (b T0 : Nat) : Frag := [(b + 60, kCls b T0), (b + 59, kNsD w b T0), (b + 24, kLt w b)]
section
variable {w : World} {b T0 : Nat}
theorem kF1 : (kFrag w b T0).lookup (b + 60) = some (kCls b T0) := by simp [kFrag, List.lookup]
theorem kF2 : (kFrag w b T0).lookup (b + 59) = some (kNsD w b T0) := by
  have e1 : (b + 59 == b + 60) = false := by simp
  simp [kFrag, List.lookup, e1]
theorem kF3 : (kFrag w b T0).lookup (b + 24) = some (kLt w b) := by
  have e1 : (b + 24 == b + 60) = false := by simp
  have e2 : (b + 24 == b + 59) = false := by simp
  simp [kFrag, List.lookup, e1, e2]
theorem kFrag_in {h : Heap} (C : KAt w h b T0) : (kFrag w b T0).In h := by
  intro a o e
  unfold kFrag at e
  simp only [List.lookup] at e
  split at e
  · rename_i q
    have := eq_of_beq q; subst this; cases e; exact C.cls
  · split at e
    · rename_i q
      have := eq_of_beq q; subst this; cases e; exact C.ns
    · split at e
      · rename_i q
        have := eq_of_beq q; subst this; cases e; exact C.lt
      · cases e
theorem kFrag_ns : nsIn (kFrag w b T0) (b + 59) (Str.ofString "__lt__") = some (some (.ref (b + 24))) := by
  unfold nsIn
  rw [kF2]
  kernel_rfl!
theorem kFrag_find : findIn (kFrag w b T0) (.ref (b + 60)) (Str.ofString "__lt__") = some (some (.ref (b + 24))) := by
  unfold findIn
  dsimp only
  rw [kF1]
  show alongIn _ _ (Value.ref (b + 60) :: [Value.type "object"]) = _
  unfold alongIn
  have e : ownIn (kFrag w b T0) (Str.ofString "__lt__") (.ref (b + 60)) = some (some (.ref (b + 24))) := by
    unfold ownIn
    dsimp only
    rw [kF1]
    exact kFrag_ns
  rw [e]
theorem kFrag_fn : isFn (kFrag w b T0) (.ref (b + 24)) = true := by
  unfold isFn typeIn
  dsimp only
  rw [kF3]
  rfl
variable {A : Around} {s : Shared} {E : Value → Shared → Prop}
theorem key_lt {x x0 xa xb da db t u : Nat} {p q : Str} {C : Bool → Shared → Prop} (ha : A.handled = none) (hd : A.depth + 100 < recursionLimit) (hu : A.units + 200 < cLine) (hN : s.heap.objs.size = x + 214) (hL : s.heap.NoLimit) (X : SKAt w s.heap) (K : KAt w s.heap (x0 + 214) T0)
    (I1 : s.heap.get? (xa + 214) = some (kInst (x0 + 214) da p t)) (D1 : ∃ o, s.heap.get? da = some o) (I2 : s.heap.get? (xb + 214) = some (kInst (x0 + 214) db q u)) (ne : xa ≠ xb) (g1 : x0 + 62 ≤ xa) (g2 : x0 + 62 ≤ xb)
    (h : ∀ h' k, Kept s.heap h' → h'.objs.size = x + 214 + 2 → C (cmpLt p q) ⟨h', s.gens, s.drawn, s.toks + k, s.os⟩) :
    wpAny (model PR w) A (keyLt' oneType' (.ref (xa + 214)) (.ref (xb + 214))) C E s := by
  rw [keyLt'_oneType, oneLt'_eq]
  simp only [if_true]
  refine wpAny_bind (wpAny_cRoomFor (by omega) ?_)
  obtain ⟨od, hod⟩ := D1
  refine wpAny_bind (ifBound_K (kFrag_in K) (ox := kInst (x0 + 214) da p t) (od := some od) ⟨I1, rfl, rfl, hod⟩ kFrag_find kFrag_fn ?_)
  refine wpAny_call (lt_spec ha hd hu hN hL X K I1 I2 ne g1 g2 fun h' k hk hsz => ?_)
  exact wpAny_truthy_bool (h h' k hk hsz)
end
end Mine
-- S7
namespace Mine
structure Env0 (w : World) (h : Heap) (x0 T0 : Nat) : Prop where
  lim : h.NoLimit
  X : SKAt w h
  C : KAt w h (x0 + 214) T0
  sz : x0 + 214 + 62 ≤ h.objs.size
theorem Env0.low {w : World} {h h' : Heap} {x0 T0 : Nat} (E : Env0 w h x0 T0) (k : Kept h h') (hs : h.objs.size ≤ h'.objs.size) : Env0 w h' x0 T0 :=
  ⟨E.lim.at fun o e => k _ _ e, fun a o e => k _ _ (E.X a o e), E.C.kept k, Nat.le_trans E.sz hs⟩
noncomputable def strV (p : Str × Tok) : Value := .str p.1 p.2
noncomputable def nthT (it : List (Str × Tok)) (i : Nat) : Str × Tok := it.getD i (Str.empty, 0)
structure SI (w : World) (H h : Heap) (a kS e1 x0 T0 : Nat) (it : List (Str × Tok)) (ads : List Nat) (e : Nat) : Prop where
  keep : Kept H h
  env : Env0 w h x0 T0
  la : h.get? a = some (seqObj "list" #[] e1)
  lk : h.get? kS = some (seqObj "list" (ads.map Value.ref).toArray e)
  inst : ∀ (i x : Nat), ads[i]? = some x → ∃ d, h.get? x = some (kInst (x0 + 214) d (nthT it i).1 (nthT it i).2) ∧ kS < d ∧ ∃ o, h.get? d = some o
  gt : ∀ x ∈ ads, kS < x
  nd : ads.Nodup
section
variable {w : World} {H h h' : Heap} {a kS e1 x0 T0 : Nat} {it : List (Str × Tok)} {ads : List Nat} {e : Nat}
theorem SI.kept (I : SI w H h a kS e1 x0 T0 it ads e) (k : Kept h h') (hs : h.objs.size ≤ h'.objs.size) : SI w H h' a kS e1 x0 T0 it ads e :=
  ⟨fun b o q => k _ _ (I.keep b o q), I.env.low k hs, k _ _ I.la, k _ _ I.lk, fun i x q => by
    obtain ⟨d, h1, gd, o, h2⟩ := I.inst i x q
    exact ⟨d, k _ _ h1, gd, o, k _ _ h2⟩, I.gt, I.nd⟩
theorem SI.push (I : SI w H h a kS e1 x0 T0 it ads e) {x d : Nat} (hka : kS ≠ a) (hkH : H.objs.size ≤ kS) (hk0 : x0 + 214 + 62 ≤ kS) (hx : h.get? x = some (kInst (x0 + 214) d (nthT it ads.length).1 (nthT it ads.length).2)) (hd : ∃ o, h.get? d = some o) (gx : kS < x) (nx : x ∉ ads) (dk : kS < d) :
    ∃ e', SI w H (h.update kS (Obj.mapSeq (·.push (.ref x)))) a kS e1 x0 T0 it (ads ++ [x]) e' := by
  have s1 := Heap.SameBut.update h kS (Obj.mapSeq (·.push (Value.ref x)))
  obtain ⟨c2, hc2⟩ : ∃ c2, (h.update kS (Obj.mapSeq (·.push (Value.ref x)))).get? kS = some (seqObj "list" ((ads.map Value.ref).toArray.push (.ref x)) c2) := ⟨_, get?_update_seq I.lk (·.push (.ref x))⟩
  have sz : (h.update kS (Obj.mapSeq (·.push (Value.ref x)))).objs.size = h.objs.size := Heap.size_update ..
  have low : ∀ c, c ≠ kS → (h.update kS (Obj.mapSeq (·.push (Value.ref x)))).get? c = h.get? c := fun c hc => s1.2 c hc
  refine ⟨c2, fun b o q => ?_, ?_, ?_, ?_, ?_, ?_, ?_⟩
  · rw [low b (Nat.ne_of_lt (Nat.lt_of_lt_of_le (Heap.lt_size q) hkH))]; exact I.keep b o q
  · have g : ∀ c, c < kS → ∀ o, h.get? c = some o → (h.update kS (Obj.mapSeq (·.push (Value.ref x)))).get? c = some o := fun c hc o q => by rw [low c (by omega)]; exact q
    have E := I.env
    refine ⟨E.lim.at fun o q => g _ (by unfold cStatics; omega) o q, fun c o q => g c (by have lt : (c : Nat) < 214 := kk_low q; omega) o (E.X c o q),
      ⟨g _ (by omega) _ E.C.cls, g _ (by omega) _ E.C.ns, g _ (by omega) _ E.C.md, g _ (by omega) _ E.C.init, g _ (by omega) _ E.C.initC, g _ (by omega) _ E.C.lt, g _ (by omega) _ E.C.ltC, g _ (by omega) _ E.C.cell⟩, by rw [sz]; exact E.sz⟩
  · rw [low a (fun q => hka q.symm)]; exact I.la
  · rw [hc2]; simp
  · intro i y q
    by_cases hi : i < ads.length
    · rw [List.getElem?_append_left hi] at q
      obtain ⟨d', h1, gd, o, h2⟩ := I.inst i y q
      refine ⟨d', by rw [low y (by have := I.gt y (List.mem_of_getElem? q); omega)]; exact h1, gd, o, by rw [low d' (by omega)]; exact h2⟩
    · have : i = ads.length := by
        have := (List.getElem?_eq_some_iff.mp q).1
        simp at this; omega
      subst this
      simp at q
      subst q
      obtain ⟨o, ho⟩ := hd
      exact ⟨d, by rw [low x (by omega)]; exact hx, dk, o, by rw [low d (by omega)]; exact ho⟩
  · intro y hy
    rcases List.mem_append.mp hy with hy | hy
    · exact I.gt y hy
    · rw [List.mem_singleton.mp hy]; exact gx
  · exact List.nodup_append.mpr ⟨I.nd, by simp, fun y hy z hz q => nx (by rw [← List.mem_singleton.mp hz, ← q]; exact hy)⟩
variable {A : Around} {E : Value → Shared → Prop} {s : Shared}
theorem k_fold {n0 : Nat} (ha : A.handled = none) (hdp : A.depth + 200 < recursionLimit) (hun : A.units + 400 < cLine) (hka : kS ≠ a) (hkH : H.objs.size ≤ kS) (hk0 : x0 + 214 + 62 ≤ kS) (h64 : it.length < 64) {Q : PUnit → Shared → Prop} {onErr : Value → Value → Sem (ForInStep PUnit)}
    (I0 : SI w H s.heap a kS e1 x0 T0 it [] n0) (done : ∀ h' tk ads e, ads.length = it.length → SI w H h' a kS e1 x0 T0 it ads e → Q ⟨⟩ { s with heap := h', toks := tk }) :
    wpAny (model PR w) A (forIn (it.map strV) PUnit.unit fun x _ => do
      match ← (call (.ref (x0 + 214 + 60)) [x]).attempt with
      | .ok k => do
        Builtin.List.listUpdate (.ref kS) (·.push k)
        pure (ForInStep.yield PUnit.unit)
      | .error e => onErr x e) Q E s := by
  refine ksk_fold (fun i s' => ∃ h' tk ads e, s' = { s with heap := h', toks := tk } ∧ ads.length = i ∧ SI w H h' a kS e1 x0 T0 it ads e) (it.map strV) 0 s ⟨s.heap, s.toks, [], n0, rfl, rfl, I0⟩ ?step ?done
  case step =>
    rintro j x s' hx ⟨h1, tk, ads, e, rfl, hl, I⟩
    simp only [Nat.zero_add] at hl ⊢
    have hj : j < it.length := by
      have := (List.getElem?_eq_some_iff.mp hx).1
      simpa using this
    obtain rfl : x = strV (nthT it j) := by
      rw [List.getElem?_map] at hx
      unfold nthT
      rw [List.getD_eq_getElem?_getD]
      cases q : it[j]? with
      | none => rw [q] at hx; cases hx
      | some y => rw [q] at hx; cases hx; rfl
    have hsz := I.env.sz
    obtain ⟨y, hy⟩ : ∃ y, h1.objs.size = y + 214 := ⟨h1.objs.size - 214, by omega⟩
    have hkl : kS < h1.objs.size := Heap.lt_size I.lk
    refine wpAny_bind (wpAny_attempt (wpAny_call (kx_spec (x := y) (x0 := x0) (T0 := T0) ha (by omega) (by omega) hy I.env.lim I.env.X I.env.C fun h2 k2 hin hdd hs2 => ?_)))
    have I2 := I.kept k2 (by rw [hs2, hy]; omega)
    have hnx : y + 214 + 1 ∉ ads := fun hm => by
      obtain ⟨i, hi⟩ := List.mem_iff_getElem?.mp hm
      obtain ⟨d, q, _⟩ := I.inst i _ hi
      have : y + 214 + 1 < h1.objs.size := Heap.lt_size q
      omega
    subst hl
    obtain ⟨e', I3⟩ := I2.push hka hkH hk0 hin hdd (by rw [hy] at hkl; omega) hnx (by rw [hy] at hkl; omega)
    refine wpAny_bind (listUpdate_at I2.lk rfl ?_ (by rw [sizeLine_eq]; simp; omega) (by rw [sizeLine_eq, Array.size_push]; simp; omega))
    exact wpAny_pure ⟨rfl, _, _, _, _, rfl, by simp, I3⟩
  case done =>
    rintro s' ⟨h1, tk, ads, e, rfl, hl, I⟩
    exact done h1 tk ads e (by simpa using hl) I
end
end Mine
-- S8
namespace Mine
section
variable {w : World} {H : Heap} {a kS e1 x0 T0 : Nat} {it : List (Str × Tok)} {ads : List Nat} {e : Nat}
variable {A : Around} {E : Value → Shared → Prop} {s : Shared}
noncomputable def Sorted (it out : List (Str × Tok)) : Prop := out.Perm it ∧ out.Pairwise fun p q => cmpLt q.1 p.1 = false
noncomputable def ltI (it : List (Str × Tok)) (i j : Nat) : Bool := cmpLt (nthT it i).1 (nthT it j).1
theorem sorted_of {p : Array Nat} (hp : Srt.IsP it.length p) (hu : Srt.Up (ltI it) p it.length) : Sorted it (p.toList.map (nthT it)) := by
  constructor
  · have h1 := hp.perm.map (nthT it)
    have e : (List.range it.length).map (nthT it) = it := by
      apply List.ext_getElem?
      intro i
      rw [List.getElem?_map]
      by_cases hi : i < it.length
      · rw [List.getElem?_range hi]
        show some (nthT it i) = _
        unfold nthT
        rw [List.getD_eq_getElem?_getD, List.getElem?_eq_getElem hi]; rfl
      · rw [List.getElem?_eq_none (by simpa using hi), List.getElem?_eq_none (by simpa using hi)]; rfl
    rw [e] at h1; exact h1
  · rw [List.pairwise_map, List.pairwise_iff_getElem]
    intro i j hi hj hij
    have hj' : j < it.length := by rw [Array.length_toList, hp.size] at hj; exact hj
    have z := hu i j hij hj'
    unfold ltI at z
    have gi : ∀ k (hk : k < p.toList.length), Srt.g p k = p.toList[k] := fun k hk => by
      unfold Srt.g
      have hk' : k < p.size := by simpa using hk
      rw [Array.getD, dif_pos hk']; rfl
    rw [gi i hi, gi j hj] at z
    exact z
theorem k_end (ha : A.handled = none) (hdp : A.depth + 200 < recursionLimit) (hun : A.units + 400 < cLine) (hka : kS ≠ a) (haH : H.objs.size ≤ a) (hkH : H.objs.size ≤ kS) (hk0 : x0 + 214 + 62 ≤ kS) (h2 : 2 ≤ it.length) (h64 : it.length < 64) (hl : ads.length = it.length)
    {P : PySem.Fin → Shared → Prop} (I : SI w H s.heap a kS e1 x0 T0 it ads e)
    (h : ∀ h' tk out c, Kept H h' → Sorted it out → h'.get? a = some (seqObj "list" (out.map strV).toArray c) → P (.done (.ret .none)) { s with heap := h', toks := tk }) :
    wpAny (model PR w) A (ksk_end a false (it.map strV).toArray e1 (.ref kS) (ads.map Value.ref).toArray) P E s := by
  unfold ksk_end
  dsimp only
  have hn2 : ¬ (it.map strV).toArray.size < 2 := by simp; omega
  rw [if_neg (by simp), if_neg hn2, if_neg hn2]
  have hty : ∀ v ∈ ads.map Value.ref, Looks (model PR w) s.heap (typeOf v) (.ref (x0 + 214 + 60)) := by
    intro v hv
    obtain ⟨x, hx, rfl⟩ := List.mem_map.mp hv
    obtain ⟨i, hi⟩ := List.mem_iff_getElem?.mp hx
    obtain ⟨d, q, _, o, q2⟩ := I.inst i x hi
    exact InstAt.type (ox := kInst (x0 + 214) d (nthT it i).1 (nthT it i).2) (od := some o) ⟨q, rfl, rfl, q2⟩
  refine wpAny_bind (kas_kind (by simpa using (hl ▸ h2)) hty (by simp) (by simp) ?_)
  have hzs : ((ads.map Value.ref).toArray.zip (it.map strV).toArray).size = it.length := by simp [hl]
  have est : SortSt.mk' oneType' ((ads.map Value.ref).toArray.zip (it.map strV).toArray) #[] 7 none = kas_st oneType' ((ads.map Value.ref).toArray.zip (it.map strV).toArray) (List.toArray (List.range it.length)) := by
    have e := kas_range ((ads.map Value.ref).toArray.zip (it.map strV).toArray)
    rw [hzs] at e
    show _ = SortSt.mk' oneType' ((List.toArray (List.range it.length)).map (kas_item ((ads.map Value.ref).toArray.zip (it.map strV).toArray))) #[] 7 none
    rw [e]
  have hit : ∀ i, i < it.length → kas_item ((ads.map Value.ref).toArray.zip (it.map strV).toArray) i = (.ref (ads.getD i 0), strV (nthT it i)) := by
    intro i hi
    unfold kas_item nthT
    rw [Array.getD, dif_pos (by rw [hzs]; exact hi)]
    have hi' : i < ads.length := by omega
    simp [hi, hi', Array.getInternal]
  have run := kas_runs (prog := PR) (w := w) (A := A) (κ := oneType') (it := (ads.map Value.ref).toArray.zip (it.map strV).toArray) (n := it.length) (E := E) (s := s)
    (Q := fun _ st' s' => ∃ p : Array Nat, Srt.IsP it.length p ∧ Srt.Up (ltI it) p it.length ∧ arrOf st' = p.map (kas_item ((ads.map Value.ref).toArray.zip (it.map strV).toArray)) ∧ failedOf st' = none ∧ ∃ h' tk, s' = { s with heap := h', toks := tk } ∧ SI w H h' a kS e1 x0 T0 it ads e)
    (G := fun p s' => Srt.IsP it.length p ∧ Srt.Up (ltI it) p it.length ∧ ∃ h' tk, s' = { s with heap := h', toks := tk } ∧ SI w H h' a kS e1 x0 T0 it ads e)
    h2 h64 (fun p' st' s' a1 a2 a3 a4 => ⟨p', a4.1, a4.2.1, a2, a3, a4.2.2⟩) ?ask
  case ask =>
    refine Srt.kasWp_good (n := it.length) (lt := ltI it) (Inv := fun s' => ∃ h' tk, s' = { s with heap := h', toks := tk } ∧ SI w H h' a kS e1 x0 T0 it ads e) (P := fun p => Srt.IsP it.length p ∧ Srt.Up (ltI it) p it.length) ?_ (fun p s' a1 a2 => ⟨a1.1, a1.2, a2⟩) _ s (Srt.good_sort (cmp_ord fun i => (nthT it i).1) (by omega)) ⟨s.heap, s.toks, rfl, I⟩
    rintro i j C _ hi hj hij ⟨h1, tk, rfl, I1⟩ hC
    unfold kas_cmp
    rw [hit i hi, hit j hj]
    have gi : ∀ k, k < it.length → ads[k]? = some (ads.getD k 0) := fun k hk => by
      have : k < ads.length := by omega
      simp [this]
    obtain ⟨d1, q1, _, o1⟩ := I1.inst i _ (gi i hi)
    obtain ⟨d2, q2, _, o2⟩ := I1.inst j _ (gi j hj)
    have g1 := I1.gt _ (List.mem_of_getElem? (gi i hi))
    have g2 := I1.gt _ (List.mem_of_getElem? (gi j hj))
    obtain ⟨xa, ea⟩ : ∃ xa, ads.getD i 0 = xa + 214 := ⟨ads.getD i 0 - 214, by omega⟩
    obtain ⟨xb, eb⟩ : ∃ xb, ads.getD j 0 = xb + 214 := ⟨ads.getD j 0 - 214, by omega⟩
    rw [ea] at q1 g1 ⊢
    rw [eb] at q2 g2 ⊢
    have ne : xa ≠ xb := by
      intro q
      have h5 : ads.getD i 0 = ads.getD j 0 := by rw [ea, eb, q]
      have hi' : i < ads.length := by omega
      have hj' : j < ads.length := by omega
      exact hij ((List.getElem_inj (h₀ := hi') (h₁ := hj') I1.nd).mp (by simpa [hi', hj'] using h5))
    have hsz := I1.env.sz
    obtain ⟨y, hy⟩ : ∃ y, h1.objs.size = y + 214 := ⟨h1.objs.size - 214, by omega⟩
    refine key_lt (x := y) (x0 := x0) (T0 := T0) ha (by omega) (by omega) hy I1.env.lim I1.env.X I1.env.C q1 o1 q2 ne (by omega) (by omega) fun h3 k hk hs => ?_
    exact hC _ ⟨h3, _, rfl, I1.kept hk (by rw [hs, hy]; omega)⟩
  rw [← est] at run
  refine wpAny_bind (wpAny_mono run ?_ fun _ _ e => e)
  rintro ⟨⟨⟩, st'⟩ s' ⟨p, hp, hu, har, hfl, h1, tk, rfl, I1⟩
  dsimp only
  unfold ksk_tail
  dsimp only
  have hout : (arrOf st').map (·.2) = ((p.toList.map (nthT it)).map strV).toArray := by
    apply Array.toList_inj.mp
    rw [har, Array.map_map, Array.toList_map]
    show _ = (p.toList.map (nthT it)).map strV
    rw [List.map_map]
    refine List.map_congr_left fun i hi => ?_
    have : i < it.length := List.mem_range.mp (hp.perm.mem_iff.mp hi)
    show (kas_item _ i).2 = _
    rw [hit i this]; rfl
  have s1 := Heap.SameBut.update h1 kS (Obj.mapSeq fun _ => (#[] : Array Value))
  have na1 : (h1.update kS (Obj.mapSeq fun _ => (#[] : Array Value))).get? a = some (seqObj "list" #[] e1) := (s1.2 a (fun q => hka q.symm)).trans I1.la
  have s2 := Heap.SameBut.update (h1.update kS (Obj.mapSeq fun _ => (#[] : Array Value))) a (Obj.mapSeq fun _ => ((p.toList.map (nthT it)).map strV).toArray)
  obtain ⟨c2, hc2⟩ : ∃ c2, ((h1.update kS (Obj.mapSeq fun _ => (#[] : Array Value))).update a (Obj.mapSeq fun _ => ((p.toList.map (nthT it)).map strV).toArray)).get? a = some (seqObj "list" ((p.toList.map (nthT it)).map strV).toArray c2) := ⟨_, get?_update_seq na1 fun _ => ((p.toList.map (nthT it)).map strV).toArray⟩
  have hpl : p.toList.length = it.length := by rw [Array.length_toList, hp.size]
  rw [hout]
  refine wpAny_bind (listUpdate_at I1.lk rfl ?_ (by rw [sizeLine_eq]; simp; omega) (Nat.zero_le _))
  refine wpAny_bind (wpAny_letGo ?_)
  refine wpAny_bind (seqEpoch_at na1 rfl ?_)
  simp only [Bool.false_eq_true, if_false]
  refine wpAny_bind (listUpdate_at na1 rfl ?_ (Nat.zero_le _) (by rw [sizeLine_eq, List.size_toArray, List.length_map, List.length_map, hpl]; omega))
  rw [hfl]
  simp only [bne_self_eq_false, Bool.false_eq_true, if_false]
  refine wpAny_pure (h _ _ _ c2 (fun b o q => ?_) (sorted_of hp hu) hc2)
  have hb : b < H.objs.size := Heap.lt_size q
  have hb1 : b ≠ a := Nat.ne_of_lt (Nat.lt_of_lt_of_le hb haH)
  have hb2 : b ≠ kS := Nat.ne_of_lt (Nat.lt_of_lt_of_le hb hkH)
  rw [s2.2 b hb1, s1.2 b hb2]
  exact I1.keep b o q
end
end Mine
-- S9
namespace Mine
section
variable {w : World} {x0 T0 : Nat} {it : List (Str × Tok)} {A : Around} {E : Value → Shared → Prop} {s : Shared}
theorem k_tree {a n : Nat} {H : Heap} (ha : A.handled = none) (hdp : A.depth + 200 < recursionLimit) (hun : A.units + 400 < cLine) (h2 : 2 ≤ it.length) (h64 : it.length < 64) (V : Env0 w H x0 T0) (kH : Kept H s.heap) (haH : H.objs.size ≤ a) (ho : s.heap.get? a = some (seqObj "list" (it.map strV).toArray n))
    {P : PySem.Fin → Shared → Prop}
    (h : ∀ h' tk out c, Kept H h' → Sorted it out → h'.get? a = some (seqObj "list" (out.map strV).toArray c) → P (.done (.ret .none)) { s with heap := h', toks := tk }) :
    wpAny (model PR w) A (ksk_tree a (.ref (x0 + 214 + 60)) false) P E s := by
  have ha' : a < s.heap.objs.size := Heap.lt_size ho
  have s1 := Heap.SameBut.update s.heap a (Obj.mapSeq fun _ => (#[] : Array Value))
  obtain ⟨e1, ho1⟩ : ∃ e1, (s.heap.update a (Obj.mapSeq fun _ => (#[] : Array Value))).get? a = some (seqObj "list" #[] e1) := ⟨_, get?_update_seq ho fun _ => #[]⟩
  have hz1 : (s.heap.update a (Obj.mapSeq fun _ => (#[] : Array Value))).objs.size = s.heap.objs.size := Heap.size_update ..
  have hkS : ((s.heap.update a (Obj.mapSeq fun _ => (#[] : Array Value))).push (seqObj "tuple" (it.map strV).toArray 0)).objs.size = s.heap.objs.size + 1 := by rw [size_push', hz1]
  have k3 : Kept H (((s.heap.update a (Obj.mapSeq fun _ => (#[] : Array Value))).push (seqObj "tuple" (it.map strV).toArray 0)).push (seqObj "list" #[] 0)) := fun b o q => by
    refine Heap.get?_push_of_some _ (Heap.get?_push_of_some _ ?_)
    rw [s1.2 b (Nat.ne_of_lt (Nat.lt_of_lt_of_le (Heap.lt_size q) haH))]
    exact kH b o q
  have hsH : H.objs.size ≤ s.heap.objs.size := Nat.le_trans haH (Nat.le_of_lt ha')
  unfold ksk_tree
  refine wpAny_bind (listItems_at ho rfl ?_)
  refine wpAny_bind (listUpdate_at ho rfl ?_ (by rw [List.size_toArray, List.length_map, sizeLine_eq]; omega) (Nat.zero_le _))
  refine wpAny_bind (seqEpoch_at ho1 rfl ?_)
  refine wpAny_bind (wpAny_newTuple ?_ (by rw [sizeLine_eq]; simp; omega))
  refine wpAny_bind (wpAny_newList ?_ (Nat.zero_le _))
  refine wpAny_holding ?_
  have I0 : SI w H (((s.heap.update a (Obj.mapSeq fun _ => (#[] : Array Value))).push (seqObj "tuple" (it.map strV).toArray 0)).push (seqObj "list" #[] 0)) a (s.heap.objs.size + 1) e1 x0 T0 it [] 0 := by
    refine ⟨k3, V.low k3 (by rw [size_push', hkS]; omega), Heap.get?_push_of_some _ (Heap.get?_push_of_some _ ho1), ?_, fun i x q => by simp at q, fun x hx => by simp at hx, List.nodup_nil⟩
    rw [← hkS]; exact Heap.get?_push_size _ rfl
  unfold ksk_rest
  refine wpAny_bind (wpAny_rule ?_)
  show wpAny (model PR w) A _ P E { s with heap := ((s.heap.update a (Obj.mapSeq fun _ => (#[] : Array Value))).push (seqObj "tuple" (it.map strV).toArray 0)).push (seqObj "list" #[] 0) }
  have vsz := V.sz
  rw [hkS]
  first
    | rw [List.forIn_toArray]
    | (rw [← Array.forIn_toList]; simp only [List.toList_toArray])
  refine wpAny_bind (k_fold (s := { s with heap := ((s.heap.update a (Obj.mapSeq fun _ => (#[] : Array Value))).push (seqObj "tuple" (it.map strV).toArray 0)).push (seqObj "list" #[] 0) }) (H := H) (a := a) (kS := s.heap.objs.size + 1) (e1 := e1) (T0 := T0) ha hdp hun (by omega) (by omega) (by omega) h64 I0 ?_)
  intro h' tk ads e hl I
  refine wpAny_bind (listItems_at I.lk rfl ?_)
  exact k_end (s := { s with heap := h', toks := tk }) ha hdp hun (by omega) haH (by omega) (by omega) h2 h64 hl I h
theorem call_fn_code {id : String} {b : Builtin} {args : List Value} {kw : List (Str × Value)} {R : Result → Shared → Prop} (hk : builtinKind id = none) (hp : plainId id = true) (hb : entryFor table id = some b) (ha : argsOk id ⟨args, kw⟩)
    (hc : wpAny (model PR w) A.in1 (b ⟨args, kw⟩) (fun fin s' => ∃ v, fin = .done (.ret v) ∧ R (.ok (.ret v)) s') (fun e s' => R (.error e) s') s) : codeAny (model PR w) A (.call (.builtin id) ⟨args, kw⟩) R s := by
  refine codeAny_call_builtin hp hb ?_
  have hf := wpAny_mono hc (Q' := fun fin s' => match fin with
      | .done f => R (.ok f) s'
      | .again c' => c'.quiet = true ∧ codeAny (model PR w) A c' R s') (fun fin s' h' => by obtain ⟨v, rfl, hv⟩ := h'; exact hv) fun _ _ h' => h'
  simp only [checkBuiltinCall, hk]
  cases hsig : Manifest.signature? id with
  | none => exact wpAny_pure hf
  | some sig =>
    have ha' : Bind.checkArgs id sig ⟨args, kw⟩ = pure () := by simpa only [argsOk, hsig] using ha
    simp only [ha']
    exact wpAny_pure hf
theorem sorted_key {l : Addr} {R : Result → Shared → Prop} (ha : A.handled = none) (hdp : A.depth + 210 < recursionLimit) (hun : A.units + 420 < cLine) (h2 : 2 ≤ it.length) (h64 : it.length < 64) (V : Env0 w s.heap x0 T0) (hl : s.heap.IsList l (it.map strV).toArray)
    (h : ∀ h' tk D out c, Kept s.heap h' → s.heap.objs.size ≤ D → Sorted it out → h'.get? D = some (seqObj "list" (out.map strV).toArray c) → R (.ok (.ret (.ref D))) { s with heap := h', toks := tk }) :
    codeAny (model PR w) A (.call (.builtin "sorted") ⟨[.ref l], [(Str.ofString "key", .ref (x0 + 214 + 60))]⟩) R s := by
  refine call_fn_code kind_sorted plain_sorted entry_sorted (ksk_s1 _ _) ?_
  unfold Builtin.«sorted»
  refine wpAny_bind (m := checkCount "sorted" 1 1 _) (wpAny_pure ?_)
  refine wpAny_bind (collect_list hl ?_ (by rw [sizeLine_eq]; simp; omega))
  refine wpAny_bind (wpAny_newList ?_ (by rw [sizeLine_eq]; simp; omega))
  have hsz : ((s.heap.push (seqObj "list" #[] 0)).update s.heap.objs.size (Obj.mapSeq (· ++ (it.map strV).toArray))).objs.size = s.heap.objs.size + 1 := by
    rw [Heap.size_update, size_push']
  have hoL : (((s.heap.push (seqObj "list" #[] 0)).update s.heap.objs.size (Obj.mapSeq (· ++ (it.map strV).toArray))).push (seqObj "list" (it.map strV).toArray 0)).get? (s.heap.objs.size + 1) = some (seqObj "list" (it.map strV).toArray 0) := by
    rw [← hsz]; exact Heap.get?_push_size _ rfl
  have keep : Kept s.heap (((s.heap.push (seqObj "list" #[] 0)).update s.heap.objs.size (Obj.mapSeq (· ++ (it.map strV).toArray))).push (seqObj "list" (it.map strV).toArray 0)) := fun b o q => by
    have hlt : b < s.heap.objs.size := Heap.lt_size q
    rw [Heap.get?_push_ne _ _ _ (by rw [hsz]; exact Nat.ne_of_lt (Nat.lt_succ_of_lt hlt)), Heap.get?_update_ne _ _ _ _ (Nat.ne_of_lt hlt), Heap.get?_push_ne _ _ _ (Nat.ne_of_lt hlt)]
    exact q
  show wpAny _ _ _ _ _ { s with heap := ((s.heap.push (seqObj "list" #[] 0)).update s.heap.objs.size (Obj.mapSeq (· ++ (it.map strV).toArray))).push (seqObj "list" (it.map strV).toArray 0) }
  rw [hsz]
  refine wpAny_bind (wpAny_holding (wpAny_call_entry_kw slot_list_sort ⟨_, hoL, rfl⟩ entry_list_sort ?body (ksk_l1 _ _)))
  case body =>
    show wpAny (model PR w) A.in1.in1 (Builtin.«list.sort» ⟨[.ref (s.heap.objs.size + 1)], [(Str.ofString "key", .ref (x0 + 214 + 60))]⟩) _ _ _
    rw [ksk_t1]
    refine k_tree (H := s.heap) (s := { s with heap := ((s.heap.push (seqObj "list" #[] 0)).update s.heap.objs.size (Obj.mapSeq (· ++ (it.map strV).toArray))).push (seqObj "list" (it.map strV).toArray 0) }) ?_ ?_ ?_ h2 h64 V keep (Nat.le_succ _) hoL fun h' tk out c k' so hD => ⟨_, rfl, ?_⟩
    · exact ha
    · show A.depth + 200 < _; omega
    · first | (simp only [units_in1]; omega) | (show A.units + 400 < _; omega)
    · exact wpAny_pure ⟨_, rfl, h h' tk _ out c k' (Nat.le_succ _) so hD⟩
end
end Mine
-- X3
namespace Mine
noncomputable section
noncomputable def tabO (co : Nat) : Obj := { cls := .none, data := .fields #[.int 221 0, .int 18 0, .ref co] }
structure IgV where
  (ins idt ig ms ds s0 s1 s2 ep tm dep : Nat)
  md : Str
noncomputable def IgV.ads (I : IgV) : List Nat := [I.ins + 214, I.idt + 214, I.ig + 214, I.ms + 214, I.ds + 214]
noncomputable def IgV.obs (w : World) (I : IgV) (so : Obj) (es : Array DictEntry) (dirs : List Value) : List Obj := [iInst (I.idt + 214), iDict w I.s0 I.s1 I.s2 (I.ms + 214) (I.ds + 214) (I.ig + 214), dObj es I.ep, so, lst dirs I.dep]
noncomputable def zLp (z : Summ) : Code → Option Summ := fun c => match c with
  | .forLoop .. => some z
  | _ => none
theorem zLp_ok {w : World} {z : Summ} {need : Nat} (h : SummOk w z need) : SumOk w (zLp z) need := fun c z' e => by
  cases c <;> first | (cases e; exact h) | cases e
noncomputable def lfL0 (I : IgV) (x T : Nat) : LV := ⟨x + 9, x + 8, x + 1, I.ins, I.idt, I.ig, I.ms, I.ds, x + 10, x + 214 + 2, T + 1, T + 2, T + 3, x + 214 + 3, x + 214 + 4, x + 214 + 5, x + 214 + 6, x + 214 + 7, T + 7, T + 8, I.s0, I.s1, I.s2, I.ep, I.tm, I.dep, 0, I.md⟩
noncomputable def lfV0 (x T ps ep : Nat) (items : Array Value) (dirs : List Value) (so : Obj) : RV := ⟨x + 11, x + 12, ps, x + 10, T + 9, T + 10, T + 11, T + 12, T + 13, ep, items, dirs, so⟩
noncomputable def lfL1 (I : IgV) (x co c0 c1 c2 r1 r2 r3 r4 r5 u v : Nat) : LV := ⟨x + 3, co, x + 1, I.ins, I.idt, I.ig, I.ms, I.ds, x + 4, x + 214 + 2, c0, c1, c2, r1, r2, r3, r4, r5, u, v, I.s0, I.s1, I.s2, I.ep, I.tm, I.dep, 0, I.md⟩
noncomputable def lfV1 (x T ps ep : Nat) (items : Array Value) (dirs : List Value) (so : Obj) : RV := ⟨x + 5, x + 6, ps, x + 4, T + 1, T + 2, T + 3, T + 4, T + 5, ep, items, dirs, so⟩
end
end Mine
-- F4
set_option maxHeartbeats 0
namespace Mine
noncomputable def SoI (w : World) (md : Str) (tm : Tok) : Option Str → Obj → Prop
  | some m, so => m = md ∧ okMod md ∧ ∃ j, so = set1 (zhash w md) md tm 1 (tbl (w.params.followText "set-order") j)
  | none, so => so = sNil (w.params.followText "set-order")
noncomputable def LfOk (w : World) (md : Str) (tm : Tok) (mo : Option Str) (pl dl : List (Str × Tok)) (kn : List (Str × Int)) (so : Obj) (es : Array DictEntry) : Prop :=
  pl ≠ [] ∧ (∀ p ∈ pl, isPth p.1 = true) ∧ (∀ d ∈ dl, okDir d.1) ∧ dl.length ≤ 3 ∧ SoI w md tm mo so ∧ DRep es.toList kn ∧ kn.length + pl.length ≤ 1000
theorem At.left {h : Heap} : ∀ {as bs : List Nat} {os ps : List Obj}, At h (as ++ bs) (os ++ ps) → as.length = os.length → At h as os
  | [], _, [], _, _, _ => trivial
  | [], _, _ :: _, _, _, e => by cases e
  | _ :: _, _, [], _, _, e => by cases e
  | _ :: _, _, _ :: _, _, H, e => ⟨H.1, At.left H.2 (by simpa using e)⟩
noncomputable def lfLeaf (w : World) (I : IgV) (ps ep : Nat) (pl dl : List (Str × Tok)) (so : Obj) (F : KF Flow) (r n t : Nat) (ig : Obj) (co : Nat) (code : Obj) (l : Obj) : VT :=
  .leaf (F (.ok (.ret (.ref (r + 214)))) n t [(195, tabO (co + 214)), (ps + 214, lst (dvals pl) ep), (I.ins + 214, iInst (I.idt + 214)), (I.idt + 214, iDict w I.s0 I.s1 I.s2 (I.ms + 214) (I.ds + 214) (I.ig + 214)), (I.ig + 214, ig), (I.ms + 214, so), (I.ds + 214, lst (dvals dl) I.dep), (co + 214, code), (r + 214, l)])
noncomputable def q_lf0 (W : World) (w : World) (x T : Nat) (I : IgV) (ps : Nat) (ep : Nat) (mo : Option Str) (pl : List (Str × Tok)) (dl : List (Str × Tok)) (kn : List (Str × Int)) (so : Obj) (es : Array DictEntry) (F : KF Flow) (ρ : Stream) : VT := (ex ⟨PR, W.params⟩ (mkZ w [zLp (zRL w (lfL0 I x T) (lfV0 x T ps ep ⟨dvals pl⟩ (dvals dl) so) mo pl dl kn es)]) 900).c 14 (.call (.ref 200) ⟨[.ref (ps + 214), .ref (I.ins + 214)], []⟩) [1, 0, 0, 8, 8, 9, 9, 0, 0, 0, 1, 1, 1, 1, 0, 0, 0, 8, 0, 1, 0, 0, 0, 19, 19, 19, 19, 19, 19, 0, 0, 0, 19, 0, 0, 2, 2, 0, 2, 0, 20, 19, 19, 19, 0, 18, 0, 19, 19, 19, 19, 20, 20, 0, 20, 0, 20, 3, 0, 18, 19, 1, 16, 15, 8, 2, 3, 4, 5, 6, 17, 2] ⟨[195, ps + 214, I.ins + 214, I.idt + 214, I.ig + 214, I.ms + 214, I.ds + 214], [tabObj #[], lst (dvals pl) ep, iInst (I.idt + 214), iDict w I.s0 I.s1 I.s2 (I.ms + 214) (I.ds + 214) (I.ig + 214), dObj es I.ep, so, lst (dvals dl) I.dep], (x + 214), 0, T, 0, (.b [19, 0, 1, 2, 3, 4, 5, 6, 15, 20] .n [19, 0, 1, 2, 3, 4, 5, 6, 15, 17] .n), ρ⟩ (leafC F)
noncomputable def v_lf0 (w : World) (x T : Nat) (I : IgV) (ps : Nat) (ep : Nat) (mo : Option Str) (pl : List (Str × Tok)) (dl : List (Str × Tok)) (kn : List (Str × Int)) (so : Obj) (es : Array DictEntry) (F : KF Flow) (ρ : Stream) : VT := .claim (zRL w (lfL0 I x T) (lfV0 x T ps ep ⟨dvals pl⟩ (dvals dl) so) mo pl dl kn es).P (.dec (foldV mo (dl.map (·.1)) kn pl).isEmpty (lfLeaf w I ps ep pl dl so F (ρ 6).n ((ρ 0).n + 214) (ρ 1).n (ρ 5).o (x + 8) (lCode (T + 1) (T + 2) (T + 3) (x + 214 + 3) (x + 214 + 4) (x + 214 + 5) (x + 214 + 6) (x + 214 + 7) (T + 7) (T + 8)) (lst (dvals (foldV mo (dl.map (·.1)) kn pl)) (ρ 7).n)) (lfLeaf w I ps ep pl dl so F (x + 10) ((ρ 0).n + 214) (ρ 1).n (ρ 5).o (x + 8) (lCode (T + 1) (T + 2) (T + 3) (x + 214 + 3) (x + 214 + 4) (x + 214 + 5) (x + 214 + 6) (x + 214 + 7) (T + 7) (T + 8)) (lst [] 0)))
theorem e_lf0 (w : World) (x T : Nat) (I : IgV) (ps : Nat) (ep : Nat) (mo : Option Str) (pl : List (Str × Tok)) (dl : List (Str × Tok)) (kn : List (Str × Int)) (so : Obj) (es : Array DictEntry) (F : KF Flow) (ρ : Stream) (b0 : Bool) : EqV (q_lf0 (w.withFollow "special-get-raises" b0) w x T I ps ep mo pl dl kn so es F ρ) (v_lf0 w x T I ps ep mo pl dl kn so es F ρ) := by unfold EqV; cases b0 <;> kernel_rfl
theorem k_lf0 (w : World) (x T : Nat) (I : IgV) (ps : Nat) (ep : Nat) (mo : Option Str) (pl : List (Str × Tok)) (dl : List (Str × Tok)) (kn : List (Str × Int)) (so : Obj) (es : Array DictEntry) (F : KF Flow) (ρ : Stream) : EqV (q_lf0 w w x T I ps ep mo pl dl kn so es F ρ) (v_lf0 w x T I ps ep mo pl dl kn so es F ρ) := by
  have e := e_lf0 w x T I ps ep mo pl dl kn so es F ρ
  exact row1 (P := fun W => EqV (q_lf0 W w x T I ps ep mo pl dl kn so es F ρ) (v_lf0 w x T I ps ep mo pl dl kn so es F ρ)) "special-get-raises" e
noncomputable def q_lf1 (W : World) (w : World) (x T : Nat) (I : IgV) (ps : Nat) (ep : Nat) (mo : Option Str) (pl : List (Str × Tok)) (dl : List (Str × Tok)) (kn : List (Str × Int)) (so : Obj) (es : Array DictEntry) (co : Nat) (c0 : Nat) (c1 : Nat) (c2 : Nat) (r1 : Nat) (r2 : Nat) (r3 : Nat) (r4 : Nat) (r5 : Nat) (u : Nat) (v : Nat) (F : KF Flow) (ρ : Stream) : VT := (ex ⟨PR, W.params⟩ (mkZ w [zLp (zRL w (lfL1 I x co c0 c1 c2 r1 r2 r3 r4 r5 u v) (lfV1 x T ps ep ⟨dvals pl⟩ (dvals dl) so) mo pl dl kn es)]) 900).c 14 (.call (.ref 200) ⟨[.ref (ps + 214), .ref (I.ins + 214)], []⟩) [1, 0, 0, 9, 9, 10, 10, 0, 0, 0, 1, 0, 0, 0, 9, 0, 1, 0, 0, 0, 14, 14, 14, 14, 14, 14, 0, 0, 0, 14, 0, 0, 2, 2, 0, 2, 0, 15, 14, 14, 14, 0, 13, 0, 14, 14, 14, 14, 15, 15, 0, 15, 0, 15, 3, 0, 13, 14, 1, 11, 7, 9, 2, 3, 4, 5, 6, 12, 2] ⟨[195, ps + 214, I.ins + 214, I.idt + 214, I.ig + 214, I.ms + 214, I.ds + 214, co + 214], [tabO (co + 214), lst (dvals pl) ep, iInst (I.idt + 214), iDict w I.s0 I.s1 I.s2 (I.ms + 214) (I.ds + 214) (I.ig + 214), dObj es I.ep, so, lst (dvals dl) I.dep, lCode c0 c1 c2 r1 r2 r3 r4 r5 u v], (x + 214), 0, T, 0, (.b [14, 0, 1, 2, 3, 4, 5, 6, 7, 15] .n [14, 0, 1, 2, 3, 4, 5, 6, 7, 12] .n), ρ⟩ (leafC F)
noncomputable def v_lf1 (w : World) (x T : Nat) (I : IgV) (ps : Nat) (ep : Nat) (mo : Option Str) (pl : List (Str × Tok)) (dl : List (Str × Tok)) (kn : List (Str × Int)) (so : Obj) (es : Array DictEntry) (co : Nat) (c0 : Nat) (c1 : Nat) (c2 : Nat) (r1 : Nat) (r2 : Nat) (r3 : Nat) (r4 : Nat) (r5 : Nat) (u : Nat) (v : Nat) (F : KF Flow) (ρ : Stream) : VT := .claim (zRL w (lfL1 I x co c0 c1 c2 r1 r2 r3 r4 r5 u v) (lfV1 x T ps ep ⟨dvals pl⟩ (dvals dl) so) mo pl dl kn es).P (.dec (foldV mo (dl.map (·.1)) kn pl).isEmpty (lfLeaf w I ps ep pl dl so F (ρ 6).n ((ρ 0).n + 214) (ρ 1).n (ρ 5).o co (lCode c0 c1 c2 r1 r2 r3 r4 r5 u v) (lst (dvals (foldV mo (dl.map (·.1)) kn pl)) (ρ 7).n)) (lfLeaf w I ps ep pl dl so F (x + 4) ((ρ 0).n + 214) (ρ 1).n (ρ 5).o co (lCode c0 c1 c2 r1 r2 r3 r4 r5 u v) (lst [] 0)))
theorem e_lf1 (w : World) (x T : Nat) (I : IgV) (ps : Nat) (ep : Nat) (mo : Option Str) (pl : List (Str × Tok)) (dl : List (Str × Tok)) (kn : List (Str × Int)) (so : Obj) (es : Array DictEntry) (co : Nat) (c0 : Nat) (c1 : Nat) (c2 : Nat) (r1 : Nat) (r2 : Nat) (r3 : Nat) (r4 : Nat) (r5 : Nat) (u : Nat) (v : Nat) (F : KF Flow) (ρ : Stream) (b0 : Bool) : EqV (q_lf1 (w.withFollow "special-get-raises" b0) w x T I ps ep mo pl dl kn so es co c0 c1 c2 r1 r2 r3 r4 r5 u v F ρ) (v_lf1 w x T I ps ep mo pl dl kn so es co c0 c1 c2 r1 r2 r3 r4 r5 u v F ρ) := by unfold EqV; cases b0 <;> kernel_rfl
theorem k_lf1 (w : World) (x T : Nat) (I : IgV) (ps : Nat) (ep : Nat) (mo : Option Str) (pl : List (Str × Tok)) (dl : List (Str × Tok)) (kn : List (Str × Int)) (so : Obj) (es : Array DictEntry) (co : Nat) (c0 : Nat) (c1 : Nat) (c2 : Nat) (r1 : Nat) (r2 : Nat) (r3 : Nat) (r4 : Nat) (r5 : Nat) (u : Nat) (v : Nat) (F : KF Flow) (ρ : Stream) : EqV (q_lf1 w w x T I ps ep mo pl dl kn so es co c0 c1 c2 r1 r2 r3 r4 r5 u v F ρ) (v_lf1 w x T I ps ep mo pl dl kn so es co c0 c1 c2 r1 r2 r3 r4 r5 u v F ρ) := by
  have e := e_lf1 w x T I ps ep mo pl dl kn so es co c0 c1 c2 r1 r2 r3 r4 r5 u v F ρ
  exact row1 (P := fun W => EqV (q_lf1 W w x T I ps ep mo pl dl kn so es co c0 c1 c2 r1 r2 r3 r4 r5 u v F ρ) (v_lf1 w x T I ps ep mo pl dl kn so es co c0 c1 c2 r1 r2 r3 r4 r5 u v F ρ)) "special-get-raises" e
theorem End.out {h h' : Heap} {D : List Nat} {n t : Nat} {l new : List (Nat × Obj)} {res : Result} {post : List Obj} (E : End h h' D n l) (hB : 214 ≤ h.objs.size) (hlen : D.length = post.length) (hl : l = D.zip post ++ new) : OutGood h h' D ⟨res, post, new, (n - 214) + 214, t⟩ := by
  subst hl
  have hm : (D.zip post).map (·.1) = D := by rw [List.map_fst_zip]; omega
  have ho : (D.zip post).map (·.2) = post := by rw [List.map_snd_zip]; omega
  have nd := E.nd
  rw [List.map_append, hm, List.nodup_append] at nd
  have ge := E.ge
  refine ⟨by rw [E.size]; show n = n - 214 + 214; omega, by show h.objs.size ≤ n - 214 + 214; omega, ?_, fun y hy => ?_, nd.2.1, E.keep⟩
  · have a := E.toAt
    rw [List.map_append, List.map_append, hm, ho] at a
    exact At.left a hlen
  · have z := E.at' y (List.mem_append_right _ hy)
    refine ⟨z.1, z.2.2.resolve_left fun m => ?_⟩
    exact nd.2.2 _ m _ (List.mem_map_of_mem hy) rfl
noncomputable def zLF0 (w : World) (I : IgV) (ps ep : Nat) (mo : Option Str) (pl dl : List (Str × Tok)) (kn : List (Str × Int)) (so : Obj) (es : Array DictEntry) : Summ where
  code := .call (.ref 200) ⟨[.ref (ps + 214), .ref (I.ins + 214)], []⟩
  pre := [195, ps + 214, I.ins + 214, I.idt + 214, I.ig + 214, I.ms + 214, I.ds + 214]
  objs := [tabObj #[], lst (dvals pl) ep, iInst (I.idt + 214), iDict w I.s0 I.s1 I.s2 (I.ms + 214) (I.ds + 214) (I.ig + 214), dObj es I.ep, so, lst (dvals dl) I.dep]
  P := LfOk w I.md I.tm mo pl dl kn so es
  k := 16
  b := true
  F := fun _ xs => ⟨.ok (.ret (.ref (gx 2 xs + 214))), [tabO (gx 4 xs + 214), lst (dvals pl) ep, iInst (I.idt + 214), iDict w I.s0 I.s1 I.s2 (I.ms + 214) (I.ds + 214) (I.ig + 214), gO 5 xs, so, lst (dvals dl) I.dep],
    [(gx 4 xs + 214, lCode (gx 6 xs) (gx 7 xs) (gx 8 xs) (gx 9 xs) (gx 10 xs) (gx 11 xs) (gx 12 xs) (gx 13 xs) (gx 14 xs) (gx 15 xs)), (gx 2 xs + 214, lst (dvals (foldV mo (dl.map (·.1)) kn pl)) (gx 3 xs))], gx 0 xs + 214, gx 1 xs⟩
noncomputable def zLF1 (w : World) (I : IgV) (ps ep : Nat) (mo : Option Str) (pl dl : List (Str × Tok)) (kn : List (Str × Int)) (so : Obj) (es : Array DictEntry) (co c0 c1 c2 r1 r2 r3 r4 r5 u v : Nat) : Summ where
  code := .call (.ref 200) ⟨[.ref (ps + 214), .ref (I.ins + 214)], []⟩
  pre := [195, ps + 214, I.ins + 214, I.idt + 214, I.ig + 214, I.ms + 214, I.ds + 214, co + 214]
  objs := [tabO (co + 214), lst (dvals pl) ep, iInst (I.idt + 214), iDict w I.s0 I.s1 I.s2 (I.ms + 214) (I.ds + 214) (I.ig + 214), dObj es I.ep, so, lst (dvals dl) I.dep, lCode c0 c1 c2 r1 r2 r3 r4 r5 u v]
  P := LfOk w I.md I.tm mo pl dl kn so es
  k := 5
  b := true
  F := fun _ xs => ⟨.ok (.ret (.ref (gx 2 xs + 214))), [tabO (co + 214), lst (dvals pl) ep, iInst (I.idt + 214), iDict w I.s0 I.s1 I.s2 (I.ms + 214) (I.ds + 214) (I.ig + 214), gO 4 xs, so, lst (dvals dl) I.dep, lCode c0 c1 c2 r1 r2 r3 r4 r5 u v],
    [(gx 2 xs + 214, lst (dvals (foldV mo (dl.map (·.1)) kn pl)) (gx 3 xs))], gx 0 xs + 214, gx 1 xs⟩
section
variable {w : World} {I : IgV} {ps ep : Nat} {mo : Option Str} {pl dl : List (Str × Tok)} {kn : List (Str × Int)} {so : Obj} {es : Array DictEntry}
theorem soV_I {L : LV} (h1 : L.md = I.md) (h2 : L.tm = I.tm) (h : SoI w I.md I.tm mo so) : SoV w L mo so := by
  cases mo with
  | none => exact h
  | some md =>
    obtain ⟨a, b, j, e⟩ := h
    exact ⟨by rw [h1]; exact a, by rw [h1]; exact b, j, by unfold sOne; rw [h1, h2]; exact e⟩
theorem zLF0_ok : SummOk w (zLF0 w I ps ep mo pl dl kn so es) 250 := by
  intro ⟨hne, hp, ok, hl, hso, D, hlen⟩ A s R ha hd hu hK hL hB hn hat h
  obtain ⟨x, hx⟩ : ∃ x, s.heap.objs.size = x + 214 := ⟨s.heap.objs.size - 214, by omega⟩
  refine run_code (V := v_lf0 w x s.toks I ps ep mo pl dl kn so es) ((Bs.mk hK hL hB).rn (need := 180) (sums_cons (zLp_ok (zRL_ok _ _ _ _ _ _ _ _)) (Nat.le_refl _) sums_nil) hat hn) (dp := 14) (room_of ha hd hu (by omega)) hx (k_lf0 w x s.toks I ps ep mo pl dl kn so es) fun ρ => ?_
  refine ⟨⟨⟨rfl, hne, hp⟩, ⟨rfl, ok, hl⟩, soV_I rfl rfl hso, D, hlen⟩, ⟨fun hf => ?_, fun hf => ?_⟩⟩
  · intro h' E
    exact h [dn ((((ρ 0).n + 214) - 214)), dn _, dn _, dn _, dn (x + 8), ⟨0, _, default⟩, dn _, dn _, dn _, dn _, dn _, dn _, dn _, dn _, dn _, dn _] h' rfl (E.out hB rfl rfl)
  · intro h' E
    have e : foldV mo (dl.map (·.1)) kn pl = [] := List.isEmpty_iff.mp hf
    have el : lst [] 0 = lst (dvals (foldV mo (dl.map (·.1)) kn pl)) 0 := by rw [e]; rfl
    rw [el] at E
    exact h [dn ((((ρ 0).n + 214) - 214)), dn _, dn (x + 10), dn 0, dn (x + 8), ⟨0, _, default⟩, dn _, dn _, dn _, dn _, dn _, dn _, dn _, dn _, dn _, dn _] h' rfl (E.out hB rfl rfl)
theorem zLF1_ok {co c0 c1 c2 r1 r2 r3 r4 r5 u v : Nat} : SummOk w (zLF1 w I ps ep mo pl dl kn so es co c0 c1 c2 r1 r2 r3 r4 r5 u v) 250 := by
  intro ⟨hne, hp, ok, hl, hso, D, hlen⟩ A s R ha hd hu hK hL hB hn hat h
  obtain ⟨x, hx⟩ : ∃ x, s.heap.objs.size = x + 214 := ⟨s.heap.objs.size - 214, by omega⟩
  refine run_code (V := v_lf1 w x s.toks I ps ep mo pl dl kn so es co c0 c1 c2 r1 r2 r3 r4 r5 u v) ((Bs.mk hK hL hB).rn (need := 180) (sums_cons (zLp_ok (zRL_ok _ _ _ _ _ _ _ _)) (Nat.le_refl _) sums_nil) hat hn) (dp := 14) (room_of ha hd hu (by omega)) hx (k_lf1 w x s.toks I ps ep mo pl dl kn so es co c0 c1 c2 r1 r2 r3 r4 r5 u v) fun ρ => ?_
  refine ⟨⟨⟨rfl, hne, hp⟩, ⟨rfl, ok, hl⟩, soV_I rfl rfl hso, D, hlen⟩, ⟨fun hf => ?_, fun hf => ?_⟩⟩
  · intro h' E
    exact h [dn ((((ρ 0).n + 214) - 214)), dn _, dn _, dn _, ⟨0, _, default⟩] h' rfl (E.out hB rfl rfl)
  · intro h' E
    have e : foldV mo (dl.map (·.1)) kn pl = [] := List.isEmpty_iff.mp hf
    have el : lst [] 0 = lst (dvals (foldV mo (dl.map (·.1)) kn pl)) 0 := by rw [e]; rfl
    rw [el] at E
    exact h [dn ((((ρ 0).n + 214) - 214)), dn _, dn (x + 4), dn 0, ⟨0, _, default⟩] h' rfl (E.out hB rfl rfl)
end
end Mine
-- F5
set_option maxHeartbeats 0
namespace Mine
noncomputable def q_np0 (W : World) (w : World) (x T : Nat) (t : Nat) (F : KF Flow) (ρ : Stream) : VT := (ex ⟨PR, W.params⟩ (mkZ w []) 1600).c 16 (.call (.ref 77) ⟨[.str (Str.ofString "/a") t], []⟩) [1, 0, 0, 3, 3, 3, 3, 0, 0, 0, 3, 3, 0, 1, 0, 0, 4, 4, 4, 4, 4, 4, 4, 4, 4, 4, 0, 0, 0, 4, 0, 2, 12, 1, 0, 1, 0, 1, 0, 0, 0, 2, 6, 1, 4, 2, 2, 2, 12, 2, 0, 2, 0, 2, 0, 0, 4, 1, 1, 1, 0, 1, 0, 1, 4, 4, 0, 4, 4, 0, 1, 0, 0, 5, 5, 5, 5, 0, 0, 0, 5, 0, 0, 5, 5, 5, 0, 0, 4, 4, 4, 2, 12, 0, 0, 0, 0, 4, 0, 1, 0, 0, 6, 6, 0, 6, 6, 6, 6, 6, 6, 6, 2, 12, 0, 0, 0, 0, 0, 6, 0, 1, 0, 0, 7, 7, 0, 7, 7, 7, 7, 7, 0, 2, 9, 8, 8, 8, 8, 0, 0, 7, 0, 2, 27, 0, 7, 0, 2, 9, 9, 9, 9, 9, 0, 0, 7, 0, 2, 27, 1, 7, 7, 7, 0, 2, 9, 10, 10, 10, 10, 0, 0, 11, 11, 11, 0, 11, 0, 12, 12, 0, 12, 0, 12, 12, 11, 12, 12, 12, 0, 12, 0, 12, 12, 11, 12, 12, 12, 0, 12, 0, 12, 12, 11, 12, 12, 12, 0, 12, 0, 12, 12, 11, 12, 12, 14, 6, 6, 6, 6, 6, 6, 6, 6, 0, 0, 6, 6, 6, 6, 6, 15, 15, 0, 15, 0, 17, 0, 17, 0, 17, 2, 8, 17, 17, 15, 1, 17, 17, 6, 6, 6, 2, 12, 0, 0, 0, 0, 6, 6, 0, 2, 10, 0, 6, 6, 0, 2, 27, 1, 6, 16, 16, 16, 16, 6, 0, 16, 2, 11, 16, 16, 16, 0, 0, 17, 0, 17, 2, 8, 17, 17, 15, 0, 0, 17, 17, 19, 0, 6, 6, 6, 6, 6, 6, 0, 0, 16, 16, 0, 2, 5, 0, 0, 0, 6, 6, 6, 2, 12, 0, 0, 0, 0] ⟨[], [], (x + 214), 0, T, 0, .n, ρ⟩ (leafC F)
noncomputable def cl_np0 : List (Bool × Bool) := [(false, false), (false, false), (true, true), (false, false), (false, false), (false, false), (false, false), (false, false), (false, false), (false, false), (false, false), (false, false), (false, false), (false, false), (true, true), (false, false), (false, false), (true, true), (false, false), (false, false), (false, false), (true, true), (false, false), (false, false), (false, false), (false, false), (false, false), (false, false), (false, false), (false, false)]
noncomputable def v_np0 (w : World) (x T : Nat) (t : Nat) (F : KF Flow) (ρ : Stream) : VT := (chain (cl_np0) (.leaf (F (Except.ok (PySem.Flow.ret (Value.str (Str.ofString "/a") (T + 54)))) ((x + 214) + 19) (T + 58) [])))
theorem e_np0 (w : World) (x T : Nat) (t : Nat) (F : KF Flow) (ρ : Stream) (b0 : Bool) : EqV (q_np0 (w.withFollow "special-get-raises" b0) w x T t F ρ) (v_np0 w x T t F ρ) := by unfold EqV; cases b0 <;> kernel_rfl
theorem k_np0 (w : World) (x T : Nat) (t : Nat) (F : KF Flow) (ρ : Stream) : EqV (q_np0 w w x T t F ρ) (v_np0 w x T t F ρ) := by
  have e := e_np0 w x T t F ρ
  exact row1 (P := fun W => EqV (q_np0 W w x T t F ρ) (v_np0 w x T t F ρ)) "special-get-raises" e
noncomputable def q_np1 (W : World) (w : World) (x T : Nat) (t : Nat) (F : KF Flow) (ρ : Stream) : VT := (ex ⟨PR, W.params⟩ (mkZ w []) 1600).c 16 (.call (.ref 77) ⟨[.str (Str.ofString "/a/b") t], []⟩) [1, 0, 0, 3, 3, 3, 3, 0, 0, 0, 3, 3, 0, 1, 0, 0, 4, 4, 4, 4, 4, 4, 4, 4, 4, 4, 0, 0, 0, 4, 0, 2, 12, 1, 0, 1, 0, 1, 0, 0, 0, 2, 6, 1, 4, 2, 2, 2, 12, 2, 0, 2, 0, 2, 0, 0, 4, 1, 1, 1, 0, 1, 0, 1, 4, 4, 0, 4, 4, 0, 1, 0, 0, 5, 5, 5, 5, 0, 0, 0, 5, 0, 0, 5, 5, 5, 0, 0, 4, 4, 4, 2, 12, 0, 0, 0, 0, 4, 0, 1, 0, 0, 6, 6, 0, 6, 6, 6, 6, 6, 6, 6, 2, 12, 0, 0, 0, 0, 0, 6, 0, 1, 0, 0, 7, 7, 0, 7, 7, 7, 7, 7, 0, 2, 9, 8, 8, 8, 8, 0, 0, 7, 0, 2, 27, 0, 7, 0, 2, 9, 9, 9, 9, 9, 0, 0, 7, 0, 2, 27, 1, 7, 7, 7, 0, 2, 9, 10, 10, 10, 10, 0, 0, 11, 11, 11, 0, 11, 0, 12, 12, 0, 12, 0, 12, 12, 11, 12, 12, 12, 0, 12, 0, 12, 12, 11, 12, 12, 12, 0, 12, 0, 12, 12, 11, 12, 12, 12, 0, 12, 0, 12, 12, 11, 12, 12, 14, 6, 6, 6, 6, 6, 6, 6, 6, 0, 0, 6, 6, 6, 6, 6, 15, 15, 0, 15, 0, 17, 0, 17, 0, 17, 2, 8, 17, 17, 15, 1, 17, 17, 6, 6, 6, 2, 12, 0, 0, 0, 0, 6, 6, 0, 2, 10, 0, 6, 6, 0, 2, 27, 1, 6, 16, 16, 16, 16, 6, 0, 16, 2, 11, 16, 16, 16, 0, 0, 17, 0, 17, 2, 8, 17, 17, 15, 1, 17, 17, 6, 6, 6, 2, 12, 0, 0, 0, 0, 6, 6, 0, 2, 10, 0, 6, 6, 0, 2, 27, 1, 6, 16, 16, 16, 16, 6, 0, 16, 2, 11, 16, 16, 16, 0, 0, 17, 0, 17, 2, 8, 17, 17, 15, 0, 0, 17, 17, 19, 0, 6, 6, 6, 6, 6, 6, 0, 0, 16, 16, 0, 2, 5, 0, 0, 0, 6, 6, 6, 2, 12, 0, 0, 0, 0] ⟨[], [], (x + 214), 0, T, 0, .n, ρ⟩ (leafC F)
noncomputable def cl_np1 : List (Bool × Bool) := [(false, false), (false, false), (true, true), (false, false), (false, false), (false, false), (false, false), (false, false), (false, false), (false, false), (false, false), (false, false), (false, false), (false, false), (true, true), (false, false), (false, false), (true, true), (false, false), (false, false), (false, false), (true, true), (false, false), (true, true), (false, false), (false, false), (false, false), (true, true), (false, false), (false, false), (false, false), (false, false), (false, false), (false, false), (false, false), (false, false)]
noncomputable def v_np1 (w : World) (x T : Nat) (t : Nat) (F : KF Flow) (ρ : Stream) : VT := (chain (cl_np1) (.leaf (F (Except.ok (PySem.Flow.ret (Value.str (Str.ofString "/a/b") (T + 60)))) ((x + 214) + 19) (T + 64) [])))
theorem e_np1 (w : World) (x T : Nat) (t : Nat) (F : KF Flow) (ρ : Stream) (b0 : Bool) : EqV (q_np1 (w.withFollow "special-get-raises" b0) w x T t F ρ) (v_np1 w x T t F ρ) := by unfold EqV; cases b0 <;> kernel_rfl
theorem k_np1 (w : World) (x T : Nat) (t : Nat) (F : KF Flow) (ρ : Stream) : EqV (q_np1 w w x T t F ρ) (v_np1 w x T t F ρ) := by
  have e := e_np1 w x T t F ρ
  exact row1 (P := fun W => EqV (q_np1 W w x T t F ρ) (v_np1 w x T t F ρ)) "special-get-raises" e
noncomputable def q_np2 (W : World) (w : World) (x T : Nat) (t : Nat) (F : KF Flow) (ρ : Stream) : VT := (ex ⟨PR, W.params⟩ (mkZ w []) 1600).c 16 (.call (.ref 77) ⟨[.str (Str.ofString "/c") t], []⟩) [1, 0, 0, 3, 3, 3, 3, 0, 0, 0, 3, 3, 0, 1, 0, 0, 4, 4, 4, 4, 4, 4, 4, 4, 4, 4, 0, 0, 0, 4, 0, 2, 12, 1, 0, 1, 0, 1, 0, 0, 0, 2, 6, 1, 4, 2, 2, 2, 12, 2, 0, 2, 0, 2, 0, 0, 4, 1, 1, 1, 0, 1, 0, 1, 4, 4, 0, 4, 4, 0, 1, 0, 0, 5, 5, 5, 5, 0, 0, 0, 5, 0, 0, 5, 5, 5, 0, 0, 4, 4, 4, 2, 12, 0, 0, 0, 0, 4, 0, 1, 0, 0, 6, 6, 0, 6, 6, 6, 6, 6, 6, 6, 2, 12, 0, 0, 0, 0, 0, 6, 0, 1, 0, 0, 7, 7, 0, 7, 7, 7, 7, 7, 0, 2, 9, 8, 8, 8, 8, 0, 0, 7, 0, 2, 27, 0, 7, 0, 2, 9, 9, 9, 9, 9, 0, 0, 7, 0, 2, 27, 1, 7, 7, 7, 0, 2, 9, 10, 10, 10, 10, 0, 0, 11, 11, 11, 0, 11, 0, 12, 12, 0, 12, 0, 12, 12, 11, 12, 12, 12, 0, 12, 0, 12, 12, 11, 12, 12, 12, 0, 12, 0, 12, 12, 11, 12, 12, 12, 0, 12, 0, 12, 12, 11, 12, 12, 14, 6, 6, 6, 6, 6, 6, 6, 6, 0, 0, 6, 6, 6, 6, 6, 15, 15, 0, 15, 0, 17, 0, 17, 0, 17, 2, 8, 17, 17, 15, 1, 17, 17, 6, 6, 6, 2, 12, 0, 0, 0, 0, 6, 6, 0, 2, 10, 0, 6, 6, 0, 2, 27, 1, 6, 16, 16, 16, 16, 6, 0, 16, 2, 11, 16, 16, 16, 0, 0, 17, 0, 17, 2, 8, 17, 17, 15, 0, 0, 17, 17, 19, 0, 6, 6, 6, 6, 6, 6, 0, 0, 16, 16, 0, 2, 5, 0, 0, 0, 6, 6, 6, 2, 12, 0, 0, 0, 0] ⟨[], [], (x + 214), 0, T, 0, .n, ρ⟩ (leafC F)
noncomputable def cl_np2 : List (Bool × Bool) := [(false, false), (false, false), (true, true), (false, false), (false, false), (false, false), (false, false), (false, false), (false, false), (false, false), (false, false), (false, false), (false, false), (false, false), (true, true), (false, false), (false, false), (true, true), (false, false), (false, false), (false, false), (true, true), (false, false), (false, false), (false, false), (false, false), (false, false), (false, false), (false, false), (false, false)]
noncomputable def v_np2 (w : World) (x T : Nat) (t : Nat) (F : KF Flow) (ρ : Stream) : VT := (chain (cl_np2) (.leaf (F (Except.ok (PySem.Flow.ret (Value.str (Str.ofString "/c") (T + 54)))) ((x + 214) + 19) (T + 58) [])))
theorem e_np2 (w : World) (x T : Nat) (t : Nat) (F : KF Flow) (ρ : Stream) (b0 : Bool) : EqV (q_np2 (w.withFollow "special-get-raises" b0) w x T t F ρ) (v_np2 w x T t F ρ) := by unfold EqV; cases b0 <;> kernel_rfl
theorem k_np2 (w : World) (x T : Nat) (t : Nat) (F : KF Flow) (ρ : Stream) : EqV (q_np2 w w x T t F ρ) (v_np2 w x T t F ρ) := by
  have e := e_np2 w x T t F ρ
  exact row1 (P := fun W => EqV (q_np2 W w x T t F ρ) (v_np2 w x T t F ρ)) "special-get-raises" e
noncomputable def q_np3 (W : World) (w : World) (x T : Nat) (t : Nat) (F : KF Flow) (ρ : Stream) : VT := (ex ⟨PR, W.params⟩ (mkZ w []) 1600).c 16 (.call (.ref 77) ⟨[.str (Str.ofString "/a/") t], []⟩) [1, 0, 0, 3, 3, 3, 3, 0, 0, 0, 3, 3, 0, 1, 0, 0, 4, 4, 4, 4, 4, 4, 4, 4, 4, 4, 0, 0, 0, 4, 0, 2, 12, 1, 0, 1, 0, 1, 0, 0, 0, 2, 6, 1, 4, 2, 2, 2, 12, 2, 0, 2, 0, 2, 0, 0, 4, 1, 1, 1, 0, 1, 0, 1, 4, 4, 0, 4, 4, 0, 1, 0, 0, 5, 5, 5, 5, 0, 0, 0, 5, 0, 0, 5, 5, 5, 0, 0, 4, 4, 4, 2, 12, 0, 0, 0, 0, 4, 0, 1, 0, 0, 6, 6, 0, 6, 6, 6, 6, 6, 6, 6, 2, 12, 0, 0, 0, 0, 0, 6, 0, 1, 0, 0, 7, 7, 0, 7, 7, 7, 7, 7, 0, 2, 9, 8, 8, 8, 8, 0, 0, 7, 0, 2, 27, 0, 7, 0, 2, 9, 9, 9, 9, 9, 0, 0, 7, 0, 2, 27, 1, 7, 7, 7, 0, 2, 9, 10, 10, 10, 10, 0, 0, 11, 11, 11, 0, 11, 0, 12, 12, 0, 12, 0, 12, 12, 11, 12, 12, 12, 0, 12, 0, 12, 12, 11, 12, 12, 12, 0, 12, 0, 12, 12, 11, 12, 12, 12, 0, 12, 0, 12, 12, 11, 12, 12, 14, 6, 6, 6, 6, 6, 6, 6, 6, 0, 0, 6, 6, 6, 6, 6, 15, 15, 0, 15, 0, 17, 0, 17, 0, 17, 2, 8, 17, 17, 15, 1, 17, 17, 6, 6, 6, 2, 12, 0, 0, 0, 0, 6, 6, 0, 2, 10, 0, 6, 6, 0, 2, 27, 1, 6, 16, 16, 16, 16, 6, 0, 16, 2, 11, 16, 16, 16, 0, 0, 17, 0, 17, 2, 8, 17, 17, 15, 1, 17, 17, 6, 6, 6, 2, 12, 0, 0, 0, 0, 0, 17, 0, 17, 2, 8, 17, 17, 15, 0, 0, 17, 17, 19, 0, 6, 6, 6, 6, 6, 6, 0, 0, 16, 16, 0, 2, 5, 0, 0, 0, 6, 6, 6, 2, 12, 0, 0, 0, 0] ⟨[], [], (x + 214), 0, T, 0, .n, ρ⟩ (leafC F)
noncomputable def cl_np3 : List (Bool × Bool) := [(false, false), (false, false), (true, true), (false, false), (false, false), (false, false), (false, false), (false, false), (false, false), (false, false), (false, false), (false, false), (false, false), (false, false), (true, true), (false, false), (false, false), (true, true), (false, false), (false, false), (false, false), (true, true), (false, false), (true, true), (false, false), (false, false), (false, false), (false, false), (false, false), (false, false), (false, false), (false, false), (false, false)]
noncomputable def v_np3 (w : World) (x T : Nat) (t : Nat) (F : KF Flow) (ρ : Stream) : VT := (chain (cl_np3) (.leaf (F (Except.ok (PySem.Flow.ret (Value.str (Str.ofString "/a") (T + 59)))) ((x + 214) + 19) (T + 63) [])))
theorem e_np3 (w : World) (x T : Nat) (t : Nat) (F : KF Flow) (ρ : Stream) (b0 : Bool) : EqV (q_np3 (w.withFollow "special-get-raises" b0) w x T t F ρ) (v_np3 w x T t F ρ) := by unfold EqV; cases b0 <;> kernel_rfl
theorem k_np3 (w : World) (x T : Nat) (t : Nat) (F : KF Flow) (ρ : Stream) : EqV (q_np3 w w x T t F ρ) (v_np3 w x T t F ρ) := by
  have e := e_np3 w x T t F ρ
  exact row1 (P := fun W => EqV (q_np3 W w x T t F ρ) (v_np3 w x T t F ρ)) "special-get-raises" e
noncomputable def q_np4 (W : World) (w : World) (x T : Nat) (t : Nat) (F : KF Flow) (ρ : Stream) : VT := (ex ⟨PR, W.params⟩ (mkZ w []) 1600).c 16 (.call (.ref 77) ⟨[.str (Str.ofString "/a/b/") t], []⟩) [1, 0, 0, 3, 3, 3, 3, 0, 0, 0, 3, 3, 0, 1, 0, 0, 4, 4, 4, 4, 4, 4, 4, 4, 4, 4, 0, 0, 0, 4, 0, 2, 12, 1, 0, 1, 0, 1, 0, 0, 0, 2, 6, 1, 4, 2, 2, 2, 12, 2, 0, 2, 0, 2, 0, 0, 4, 1, 1, 1, 0, 1, 0, 1, 4, 4, 0, 4, 4, 0, 1, 0, 0, 5, 5, 5, 5, 0, 0, 0, 5, 0, 0, 5, 5, 5, 0, 0, 4, 4, 4, 2, 12, 0, 0, 0, 0, 4, 0, 1, 0, 0, 6, 6, 0, 6, 6, 6, 6, 6, 6, 6, 2, 12, 0, 0, 0, 0, 0, 6, 0, 1, 0, 0, 7, 7, 0, 7, 7, 7, 7, 7, 0, 2, 9, 8, 8, 8, 8, 0, 0, 7, 0, 2, 27, 0, 7, 0, 2, 9, 9, 9, 9, 9, 0, 0, 7, 0, 2, 27, 1, 7, 7, 7, 0, 2, 9, 10, 10, 10, 10, 0, 0, 11, 11, 11, 0, 11, 0, 12, 12, 0, 12, 0, 12, 12, 11, 12, 12, 12, 0, 12, 0, 12, 12, 11, 12, 12, 12, 0, 12, 0, 12, 12, 11, 12, 12, 12, 0, 12, 0, 12, 12, 11, 12, 12, 14, 6, 6, 6, 6, 6, 6, 6, 6, 0, 0, 6, 6, 6, 6, 6, 15, 15, 0, 15, 0, 17, 0, 17, 0, 17, 2, 8, 17, 17, 15, 1, 17, 17, 6, 6, 6, 2, 12, 0, 0, 0, 0, 6, 6, 0, 2, 10, 0, 6, 6, 0, 2, 27, 1, 6, 16, 16, 16, 16, 6, 0, 16, 2, 11, 16, 16, 16, 0, 0, 17, 0, 17, 2, 8, 17, 17, 15, 1, 17, 17, 6, 6, 6, 2, 12, 0, 0, 0, 0, 6, 6, 0, 2, 10, 0, 6, 6, 0, 2, 27, 1, 6, 16, 16, 16, 16, 6, 0, 16, 2, 11, 16, 16, 16, 0, 0, 17, 0, 17, 2, 8, 17, 17, 15, 1, 17, 17, 6, 6, 6, 2, 12, 0, 0, 0, 0, 0, 17, 0, 17, 2, 8, 17, 17, 15, 0, 0, 17, 17, 19, 0, 6, 6, 6, 6, 6, 6, 0, 0, 16, 16, 0, 2, 5, 0, 0, 0, 6, 6, 6, 2, 12, 0, 0, 0, 0] ⟨[], [], (x + 214), 0, T, 0, .n, ρ⟩ (leafC F)
noncomputable def cl_np4 : List (Bool × Bool) := [(false, false), (false, false), (true, true), (false, false), (false, false), (false, false), (false, false), (false, false), (false, false), (false, false), (false, false), (false, false), (false, false), (false, false), (true, true), (false, false), (false, false), (true, true), (false, false), (false, false), (false, false), (true, true), (false, false), (true, true), (false, false), (false, false), (false, false), (true, true), (false, false), (true, true), (false, false), (false, false), (false, false), (false, false), (false, false), (false, false), (false, false), (false, false), (false, false)]
noncomputable def v_np4 (w : World) (x T : Nat) (t : Nat) (F : KF Flow) (ρ : Stream) : VT := (chain (cl_np4) (.leaf (F (Except.ok (PySem.Flow.ret (Value.str (Str.ofString "/a/b") (T + 64)))) ((x + 214) + 19) (T + 68) [])))
theorem e_np4 (w : World) (x T : Nat) (t : Nat) (F : KF Flow) (ρ : Stream) (b0 : Bool) : EqV (q_np4 (w.withFollow "special-get-raises" b0) w x T t F ρ) (v_np4 w x T t F ρ) := by unfold EqV; cases b0 <;> kernel_rfl
theorem k_np4 (w : World) (x T : Nat) (t : Nat) (F : KF Flow) (ρ : Stream) : EqV (q_np4 w w x T t F ρ) (v_np4 w x T t F ρ) := by
  have e := e_np4 w x T t F ρ
  exact row1 (P := fun W => EqV (q_np4 W w x T t F ρ) (v_np4 w x T t F ρ)) "special-get-raises" e
noncomputable def q_np5 (W : World) (w : World) (x T : Nat) (t : Nat) (F : KF Flow) (ρ : Stream) : VT := (ex ⟨PR, W.params⟩ (mkZ w []) 1600).c 16 (.call (.ref 77) ⟨[.str (Str.ofString "/c/") t], []⟩) [1, 0, 0, 3, 3, 3, 3, 0, 0, 0, 3, 3, 0, 1, 0, 0, 4, 4, 4, 4, 4, 4, 4, 4, 4, 4, 0, 0, 0, 4, 0, 2, 12, 1, 0, 1, 0, 1, 0, 0, 0, 2, 6, 1, 4, 2, 2, 2, 12, 2, 0, 2, 0, 2, 0, 0, 4, 1, 1, 1, 0, 1, 0, 1, 4, 4, 0, 4, 4, 0, 1, 0, 0, 5, 5, 5, 5, 0, 0, 0, 5, 0, 0, 5, 5, 5, 0, 0, 4, 4, 4, 2, 12, 0, 0, 0, 0, 4, 0, 1, 0, 0, 6, 6, 0, 6, 6, 6, 6, 6, 6, 6, 2, 12, 0, 0, 0, 0, 0, 6, 0, 1, 0, 0, 7, 7, 0, 7, 7, 7, 7, 7, 0, 2, 9, 8, 8, 8, 8, 0, 0, 7, 0, 2, 27, 0, 7, 0, 2, 9, 9, 9, 9, 9, 0, 0, 7, 0, 2, 27, 1, 7, 7, 7, 0, 2, 9, 10, 10, 10, 10, 0, 0, 11, 11, 11, 0, 11, 0, 12, 12, 0, 12, 0, 12, 12, 11, 12, 12, 12, 0, 12, 0, 12, 12, 11, 12, 12, 12, 0, 12, 0, 12, 12, 11, 12, 12, 12, 0, 12, 0, 12, 12, 11, 12, 12, 14, 6, 6, 6, 6, 6, 6, 6, 6, 0, 0, 6, 6, 6, 6, 6, 15, 15, 0, 15, 0, 17, 0, 17, 0, 17, 2, 8, 17, 17, 15, 1, 17, 17, 6, 6, 6, 2, 12, 0, 0, 0, 0, 6, 6, 0, 2, 10, 0, 6, 6, 0, 2, 27, 1, 6, 16, 16, 16, 16, 6, 0, 16, 2, 11, 16, 16, 16, 0, 0, 17, 0, 17, 2, 8, 17, 17, 15, 1, 17, 17, 6, 6, 6, 2, 12, 0, 0, 0, 0, 0, 17, 0, 17, 2, 8, 17, 17, 15, 0, 0, 17, 17, 19, 0, 6, 6, 6, 6, 6, 6, 0, 0, 16, 16, 0, 2, 5, 0, 0, 0, 6, 6, 6, 2, 12, 0, 0, 0, 0] ⟨[], [], (x + 214), 0, T, 0, .n, ρ⟩ (leafC F)
noncomputable def cl_np5 : List (Bool × Bool) := [(false, false), (false, false), (true, true), (false, false), (false, false), (false, false), (false, false), (false, false), (false, false), (false, false), (false, false), (false, false), (false, false), (false, false), (true, true), (false, false), (false, false), (true, true), (false, false), (false, false), (false, false), (true, true), (false, false), (true, true), (false, false), (false, false), (false, false), (false, false), (false, false), (false, false), (false, false), (false, false), (false, false)]
noncomputable def v_np5 (w : World) (x T : Nat) (t : Nat) (F : KF Flow) (ρ : Stream) : VT := (chain (cl_np5) (.leaf (F (Except.ok (PySem.Flow.ret (Value.str (Str.ofString "/c") (T + 59)))) ((x + 214) + 19) (T + 63) [])))
theorem e_np5 (w : World) (x T : Nat) (t : Nat) (F : KF Flow) (ρ : Stream) (b0 : Bool) : EqV (q_np5 (w.withFollow "special-get-raises" b0) w x T t F ρ) (v_np5 w x T t F ρ) := by unfold EqV; cases b0 <;> kernel_rfl
theorem k_np5 (w : World) (x T : Nat) (t : Nat) (F : KF Flow) (ρ : Stream) : EqV (q_np5 w w x T t F ρ) (v_np5 w x T t F ρ) := by
  have e := e_np5 w x T t F ρ
  exact row1 (P := fun W => EqV (q_np5 W w x T t F ρ) (v_np5 w x T t F ρ)) "special-get-raises" e
noncomputable def npL : List (Str × Str) := [(Str.ofString "/a", Str.ofString "/a"), (Str.ofString "/a/b", Str.ofString "/a/b"), (Str.ofString "/c", Str.ofString "/c"), (Str.ofString "/a/", Str.ofString "/a"), (Str.ofString "/a/b/", Str.ofString "/a/b"), (Str.ofString "/c/", Str.ofString "/c")]
noncomputable def npOf (p : Str) : Str := match npL.find? (fun q => decide (q.1 = p)) with
  | some q => q.2
  | none => p
noncomputable def isNp (p : Str) : Bool := (npL.map (·.1)).contains p
noncomputable def zNP : Code → Option Summ := fun c => (mFn 77 c).bind fun args => (mS args).map fun p => ⟨c, [], [], isNp p.1 = true, 3, true, fun _ xs => outV (.str (npOf p.1) (gx 0 xs)) xs⟩
theorem zNP_ok (w : World) : SumOk w zNP 80 := by
  intro c z e
  obtain ⟨args, e1, e2⟩ := Option.bind_eq_some_iff.mp e
  obtain ⟨⟨p, t⟩, e3, e4⟩ := Option.map_eq_some_iff.mp e2
  subst e4
  intro hP A s R ha hd hu hK hL hB hn hat h
  show codeAny _ _ c R s
  rw [mFn_is e1, mS_is e3]
  obtain ⟨x, hx⟩ : ∃ x, s.heap.objs.size = x + 214 := ⟨s.heap.objs.size - 214, by omega⟩
  have hp : p ∈ npL.map (·.1) := List.contains_iff_mem.mp hP
  have fin : ∀ {n t' : Nat} {r : Str} {tk : Nat}, npOf p = r → endF s [] R (.ok (.ret (.str r tk))) n t' [] := fun e h' E => by
    subst e
    have := E.ge
    exact h [dn _, dn _, dn _] h' rfl (out_of_end E (by omega))
  have rn : Rn w (mkZ w []) 0 [] [] s := rn_of sums_nil hK hL hB (by simp) trivial List.nodup_nil
  have rm : Room 0 A 16 := room_of ha hd hu (by omega)
  simp only [npL, List.map_cons, List.map_nil, List.mem_cons, List.not_mem_nil, or_false] at hp
  rcases hp with rfl | rfl | rfl | rfl | rfl | rfl
  · exact run_code (V := v_np0 w x s.toks t) rn rm hx (k_np0 w x s.toks t) fun ρ => chain_h (by decide +kernel) (fin (by decide +kernel))
  · exact run_code (V := v_np1 w x s.toks t) rn rm hx (k_np1 w x s.toks t) fun ρ => chain_h (by decide +kernel) (fin (by decide +kernel))
  · exact run_code (V := v_np2 w x s.toks t) rn rm hx (k_np2 w x s.toks t) fun ρ => chain_h (by decide +kernel) (fin (by decide +kernel))
  · exact run_code (V := v_np3 w x s.toks t) rn rm hx (k_np3 w x s.toks t) fun ρ => chain_h (by decide +kernel) (fin (by decide +kernel))
  · exact run_code (V := v_np4 w x s.toks t) rn rm hx (k_np4 w x s.toks t) fun ρ => chain_h (by decide +kernel) (fin (by decide +kernel))
  · exact run_code (V := v_np5 w x s.toks t) rn rm hx (k_np5 w x s.toks t) fun ρ => chain_h (by decide +kernel) (fin (by decide +kernel))
end Mine
-- X4
namespace Mine
noncomputable section
noncomputable def igPl (w : World) (I : IgV) (k0 k1 : Nat) (so : Obj) (dl : List Value) : List (Nat × Obj) :=
  [(I.ins + 214, iInst (I.idt + 214)), (I.idt + 214, iDict w I.s0 I.s1 I.s2 (I.ms + 214) (I.ds + 214) (I.ig + 214)), (I.ig + 214, dObj #[en w "<string>" k0 (.int 1 k1)] 1), (I.ms + 214, so), (I.ds + 214, lst dl I.dep)]
structure IA where
  (mp dq mt e1 e2 : Nat)
  md : Str
  dirs : List Value
section
variable (w : World) (x T : Nat) (a : IA) (g : Bool) (F : KF Flow) (ρ : Stream)
noncomputable def igSo : Obj := set1 (zhash w a.md) a.md a.mt 1 (tbl g (jOf (zhash w a.md)))
noncomputable def igLf (n t ig ds s1 k s2 dep : Nat) (dl : List Value) : VT :=
  .leaf (F (.ok (.ret (.ref (x + 1 + 214)))) n t ([(a.mp + 214, lst [.str a.md a.mt] a.e1), (a.dq + 214, lst a.dirs a.e2)] ++ igPl w ⟨x + 1, x, ig, x + 3, ds, T + 7, s1, s2, 1, a.mt, dep, a.md⟩ k (k + 1) (igSo w a g) dl))
noncomputable def igAt (i : Nat) (dl : List Value) : VT := @Nat.rec (fun _ => VT) (igLf w x T a g F (x + 214 + 13) (T + 17) (x + 12) (x + 8) (T + 11) (T + 12) (T + 16) 0 dl)
  (fun j _ => igLf w x T a g F ((ρ (3 * j + 1)).n + 214 + 3) ((ρ (3 * j + 2)).n + 7) ((ρ (3 * j + 1)).n + 2) (x + 8) ((ρ (3 * j + 2)).n + 1) ((ρ (3 * j + 2)).n + 2) ((ρ (3 * j + 2)).n + 6) (j + 1) dl) i
noncomputable def igD (n i : Nat) (dl : List Value) : VT := @Nat.rec (fun _ => Nat → List Value → VT)
  (fun i dl => chain [(isStrO (getElem? (Array.mk a.dirs) i), false), ((getElem? (Array.mk a.dirs) i).isSome, false)] (igAt w x T a g F ρ i dl))
  (fun _ ih i dl => .dec (isStrO (getElem? (Array.mk a.dirs) i)) (chain [((getElem? (Array.mk a.dirs) i).isSome, false)] (igAt w x T a g F ρ i dl))
    (.claim (isNp (strO (getElem? (Array.mk a.dirs) i)) = true) (chain [(true, true), (false, false)] (ih (i + 1) (dl ++ [.str (npOf (strO (getElem? (Array.mk a.dirs) i))) (ρ (3 * i)).n]))))) n i dl
noncomputable def igV : VT := chain [(false, false), (false, false), (false, false), (true, true), (false, false), (false, false)] (.dec (Nat.beq (Array.mk a.dirs).size 0)
  (chain [(false, false), (decide (Int.ofNat (Nat.succ ((Array.mk a.dirs).size - 1)) ≥ (2 : Int) ^ 63), false)] (igD w x T a g F ρ 3 0 []))
  (chain [(false, false), (false, false)] (igLf w x T a g F (x + 214 + 9) (T + 17) (x + 8) (x + 7) (T + 11) (T + 12) (T + 16) 0 [])))
end
end
end Mine
-- F6
set_option maxHeartbeats 0
namespace Mine
noncomputable def q_igpt (W : World) (w : World) (x T : Nat) (a : IA) (g : Bool) (F : KF Flow) (ρ : Stream) : VT := (ex ⟨PR, W.params⟩ (mkZ w [zNP]) 1900).c 22 (.call (.ref 100) ⟨[.ref (a.mp + 214), .ref (a.dq + 214)], []⟩) [0, 0, 0, 0, 0, 2, 18, 0, 0, 0, 0, 0, 0, 0, 0, 0, 0, 0, 0, 0, 0, 0, 0, 0, 0, 0, 0, 0, 0, 0, 0, 0, 4, 0, 4, 0, 0, 0, 0, 1, 0, 0, 0, 5, 5, 5, 5, 5, 5, 0, 5, 1, 1, 2, 12, 1, 0, 1, 2, 30, 1, 0, 0, 0, 0, 0, 5, 0, 0, 0, 0, 6, 6, 0, 6, 6, 0, 6, 6, 1, 1, 1, 1, 1, 0, 1, 0, 7, 0, 7, 0, 7, 2, 8, 7, 7, 1, 1, 7, 7, 0, 0, 6, 6, 6, 0, 7, 0, 7, 2, 8, 7, 7, 1, 0, 0, 7, 7, 9, 5, 4, 0, 0, 0, 0, 4, 0, 0, 4, 0, 4, 0, 0, 0, 4, 0, 3, 3, 3, 5, 2, 2, 2, 12, 2, 0, 2, 2, 30, 2, 2] ⟨[a.mp + 214, a.dq + 214], [lst [.str a.md a.mt] a.e1, lst a.dirs a.e2], (x + 214), 0, T, 0, (.b [0, 0, 5, 2, 2, 0, 2, 0, 10, 0, 0, 10, 0, 10, 2, 8, 10, 10, 2, 2] (.b [0, 10, 10, 14, 12, 5, 4, 0, 0, 0, 0, 4, 0, 0, 4, 0, 4, 0, 0, 0, 4, 0, 3, 3, 3, 0, 0, 15, 15, 15, 15, 5, 4, 0, 0, 0, 0, 4, 0, 0, 4, 0, 4, 0, 0, 0, 4, 0, 3, 3, 3, 0, 1, 3, 2, 14, 5, 10] .n [10, 10, 12, 12, 0, 12, 0, 3, 0, 1, 0, 11, 2, 11, 11, 11, 11, 0, 0, 10, 0, 10, 2, 8, 10, 10, 2, 2] (.b [0, 10, 10, 14, 12, 12, 12, 5, 4, 0, 0, 0, 0, 4, 0, 0, 4, 0, 4, 0, 0, 0, 4, 0, 3, 3, 3, 0, 0, 15, 15, 15, 15, 5, 4, 0, 0, 0, 0, 4, 0, 0, 4, 0, 4, 0, 0, 0, 4, 0, 3, 3, 3, 0, 1, 3, 2, 14, 5, 10] .n [10, 10, 12, 12, 0, 12, 0, 3, 0, 1, 0, 11, 2, 11, 11, 11, 11, 0, 0, 10, 0, 10, 2, 8, 10, 10, 2, 2] (.b [0, 10, 10, 14, 12, 12, 12, 5, 4, 0, 0, 0, 0, 4, 0, 0, 4, 0, 4, 0, 0, 0, 4, 0, 3, 3, 3, 0, 0, 15, 15, 15, 15, 5, 4, 0, 0, 0, 0, 4, 0, 0, 4, 0, 4, 0, 0, 0, 4, 0, 3, 3, 3, 0, 1, 3, 2, 14, 5, 10] .n [10, 10, 12, 12, 0, 12, 0, 3, 0, 1, 0, 11, 2, 11, 11, 11, 11, 0, 0, 10, 0, 10, 2, 8, 10, 10, 2, 0, 0, 10, 10, 14, 12, 12, 12, 5, 4, 0, 0, 0, 0, 4, 0, 0, 4, 0, 4, 0, 0, 0, 4, 0, 3, 3, 3, 0, 0, 15, 15, 15, 15, 5, 4, 0, 0, 0, 0, 4, 0, 0, 4, 0, 4, 0, 0, 0, 4, 0, 3, 3, 3, 0, 1, 3, 2, 14, 5, 10] .n))) [0, 0, 5, 4, 0, 0, 0, 0, 4, 0, 0, 4, 0, 4, 0, 0, 0, 4, 0, 3, 3, 3, 0, 0, 11, 11, 11, 11, 5, 4, 0, 0, 0, 0, 4, 0, 0, 4, 0, 4, 0, 0, 0, 4, 0, 3, 3, 3, 0, 1, 3, 2, 10, 5, 9] .n), ρ⟩ (leafC F)
noncomputable def v_igpt (w : World) (x T : Nat) (a : IA) (g : Bool) (F : KF Flow) (ρ : Stream) : VT := igV w x T a g F ρ
theorem e_igpt (w : World) (x T : Nat) (a : IA) (g : Bool) (F : KF Flow) (ρ : Stream) (b0 : Bool) : EqV (q_igpt (((w.withFollow "set-order" g).withFollow "comprehension-iter-twice" true).withFollow "special-get-raises" b0) w x T a g F ρ) (v_igpt w x T a g F ρ) := by unfold EqV; cases g <;> cases b0 <;> kernel_rfl
theorem k_igpt (w : World) (x T : Nat) (a : IA) (g : Bool) (h0 : w.params.followText "set-order" = g) (h1 : w.params.followText "comprehension-iter-twice" = true) (F : KF Flow) (ρ : Stream) : EqV (q_igpt w w x T a g F ρ) (v_igpt w x T a g F ρ) := by
  have e := e_igpt w x T a g F ρ
  rw [wf_eq h0] at e
  rw [wf_eq h1] at e
  exact row1 (P := fun W => EqV (q_igpt W w x T a g F ρ) (v_igpt w x T a g F ρ)) "special-get-raises" e
noncomputable def q_igpf (W : World) (w : World) (x T : Nat) (a : IA) (g : Bool) (F : KF Flow) (ρ : Stream) : VT := (ex ⟨PR, W.params⟩ (mkZ w [zNP]) 1900).c 22 (.call (.ref 100) ⟨[.ref (a.mp + 214), .ref (a.dq + 214)], []⟩) [0, 0, 0, 0, 0, 2, 18, 0, 0, 0, 0, 0, 0, 0, 0, 0, 0, 0, 0, 0, 0, 0, 0, 0, 0, 0, 0, 0, 0, 0, 0, 0, 4, 0, 4, 0, 0, 0, 0, 1, 0, 0, 0, 5, 5, 5, 5, 5, 5, 0, 5, 1, 1, 2, 12, 1, 0, 1, 2, 30, 1, 0, 0, 0, 0, 0, 5, 0, 0, 0, 0, 6, 6, 0, 6, 6, 0, 6, 6, 1, 1, 1, 1, 1, 0, 1, 0, 7, 0, 7, 0, 7, 2, 8, 7, 7, 1, 1, 7, 7, 0, 0, 6, 6, 6, 0, 7, 0, 7, 2, 8, 7, 7, 1, 0, 0, 7, 7, 9, 5, 4, 0, 0, 0, 0, 4, 0, 0, 4, 0, 4, 0, 0, 0, 4, 0, 3, 3, 3, 5, 2, 2, 2, 12, 2, 0, 2, 2, 30, 2, 2] ⟨[a.mp + 214, a.dq + 214], [lst [.str a.md a.mt] a.e1, lst a.dirs a.e2], (x + 214), 0, T, 0, (.b [0, 0, 5, 2, 2, 0, 2, 0, 10, 0, 10, 10, 0, 10, 0, 10, 0, 10, 0, 10, 2, 8, 10, 10, 2, 2] (.b [0, 10, 10, 14, 12, 5, 4, 0, 0, 0, 0, 4, 0, 0, 4, 0, 4, 0, 0, 0, 4, 0, 3, 3, 3, 0, 0, 15, 15, 15, 15, 5, 4, 0, 0, 0, 0, 4, 0, 0, 4, 0, 4, 0, 0, 0, 4, 0, 3, 3, 3, 0, 1, 3, 2, 14, 5, 10] .n [10, 10, 12, 12, 0, 12, 0, 3, 0, 1, 0, 11, 2, 11, 11, 11, 11, 0, 0, 10, 0, 10, 2, 8, 10, 10, 2, 2] (.b [0, 10, 10, 14, 12, 12, 12, 5, 4, 0, 0, 0, 0, 4, 0, 0, 4, 0, 4, 0, 0, 0, 4, 0, 3, 3, 3, 0, 0, 15, 15, 15, 15, 5, 4, 0, 0, 0, 0, 4, 0, 0, 4, 0, 4, 0, 0, 0, 4, 0, 3, 3, 3, 0, 1, 3, 2, 14, 5, 10] .n [10, 10, 12, 12, 0, 12, 0, 3, 0, 1, 0, 11, 2, 11, 11, 11, 11, 0, 0, 10, 0, 10, 2, 8, 10, 10, 2, 2] (.b [0, 10, 10, 14, 12, 12, 12, 5, 4, 0, 0, 0, 0, 4, 0, 0, 4, 0, 4, 0, 0, 0, 4, 0, 3, 3, 3, 0, 0, 15, 15, 15, 15, 5, 4, 0, 0, 0, 0, 4, 0, 0, 4, 0, 4, 0, 0, 0, 4, 0, 3, 3, 3, 0, 1, 3, 2, 14, 5, 10] .n [10, 10, 12, 12, 0, 12, 0, 3, 0, 1, 0, 11, 2, 11, 11, 11, 11, 0, 0, 10, 0, 10, 2, 8, 10, 10, 2, 0, 0, 10, 10, 14, 12, 12, 12, 5, 4, 0, 0, 0, 0, 4, 0, 0, 4, 0, 4, 0, 0, 0, 4, 0, 3, 3, 3, 0, 0, 15, 15, 15, 15, 5, 4, 0, 0, 0, 0, 4, 0, 0, 4, 0, 4, 0, 0, 0, 4, 0, 3, 3, 3, 0, 1, 3, 2, 14, 5, 10] .n))) [0, 0, 5, 4, 0, 0, 0, 0, 4, 0, 0, 4, 0, 4, 0, 0, 0, 4, 0, 3, 3, 3, 0, 0, 11, 11, 11, 11, 5, 4, 0, 0, 0, 0, 4, 0, 0, 4, 0, 4, 0, 0, 0, 4, 0, 3, 3, 3, 0, 1, 3, 2, 10, 5, 9] .n), ρ⟩ (leafC F)
noncomputable def v_igpf (w : World) (x T : Nat) (a : IA) (g : Bool) (F : KF Flow) (ρ : Stream) : VT := igV w x T a g F ρ
theorem e_igpf (w : World) (x T : Nat) (a : IA) (g : Bool) (F : KF Flow) (ρ : Stream) (b0 : Bool) : EqV (q_igpf (((w.withFollow "set-order" g).withFollow "comprehension-iter-twice" false).withFollow "special-get-raises" b0) w x T a g F ρ) (v_igpf w x T a g F ρ) := by unfold EqV; cases g <;> cases b0 <;> kernel_rfl
theorem k_igpf (w : World) (x T : Nat) (a : IA) (g : Bool) (h0 : w.params.followText "set-order" = g) (h1 : w.params.followText "comprehension-iter-twice" = false) (F : KF Flow) (ρ : Stream) : EqV (q_igpf w w x T a g F ρ) (v_igpf w x T a g F ρ) := by
  have e := e_igpf w x T a g F ρ
  rw [wf_eq h0] at e
  rw [wf_eq h1] at e
  exact row1 (P := fun W => EqV (q_igpf W w x T a g F ρ) (v_igpf w x T a g F ρ)) "special-get-raises" e
noncomputable def q_igkt (W : World) (w : World) (x T : Nat) (a : IA) (g : Bool) (F : KF Flow) (ρ : Stream) : VT := (ex ⟨PR, W.params⟩ (mkZ w [zNP]) 1900).c 22 (.call (.ref 100) ⟨[], [(Str.ofString "modules", .ref (a.mp + 214)), (Str.ofString "dirs", .ref (a.dq + 214))]⟩) [0, 0, 0, 0, 0, 2, 18, 0, 0, 0, 0, 0, 0, 0, 0, 0, 0, 0, 0, 0, 0, 0, 0, 0, 0, 0, 0, 0, 0, 0, 0, 0, 4, 0, 4, 0, 0, 0, 0, 1, 0, 0, 0, 5, 5, 5, 5, 5, 5, 0, 5, 1, 1, 2, 12, 1, 0, 1, 2, 30, 1, 0, 0, 0, 0, 0, 5, 0, 0, 0, 0, 6, 6, 0, 6, 6, 0, 6, 6, 1, 1, 1, 1, 1, 0, 1, 0, 7, 0, 7, 0, 7, 2, 8, 7, 7, 1, 1, 7, 7, 0, 0, 6, 6, 6, 0, 7, 0, 7, 2, 8, 7, 7, 1, 0, 0, 7, 7, 9, 5, 4, 0, 0, 0, 0, 4, 0, 0, 4, 0, 4, 0, 0, 0, 4, 0, 3, 3, 3, 5, 2, 2, 2, 12, 2, 0, 2, 2, 30, 2, 2] ⟨[a.mp + 214, a.dq + 214], [lst [.str a.md a.mt] a.e1, lst a.dirs a.e2], (x + 214), 0, T, 0, (.b [0, 0, 5, 2, 2, 0, 2, 0, 10, 0, 0, 10, 0, 10, 2, 8, 10, 10, 2, 2] (.b [0, 10, 10, 14, 12, 5, 4, 0, 0, 0, 0, 4, 0, 0, 4, 0, 4, 0, 0, 0, 4, 0, 3, 3, 3, 0, 0, 15, 15, 15, 15, 5, 4, 0, 0, 0, 0, 4, 0, 0, 4, 0, 4, 0, 0, 0, 4, 0, 3, 3, 3, 0, 1, 3, 2, 14, 5, 10] .n [10, 10, 12, 12, 0, 12, 0, 3, 0, 1, 0, 11, 2, 11, 11, 11, 11, 0, 0, 10, 0, 10, 2, 8, 10, 10, 2, 2] (.b [0, 10, 10, 14, 12, 12, 12, 5, 4, 0, 0, 0, 0, 4, 0, 0, 4, 0, 4, 0, 0, 0, 4, 0, 3, 3, 3, 0, 0, 15, 15, 15, 15, 5, 4, 0, 0, 0, 0, 4, 0, 0, 4, 0, 4, 0, 0, 0, 4, 0, 3, 3, 3, 0, 1, 3, 2, 14, 5, 10] .n [10, 10, 12, 12, 0, 12, 0, 3, 0, 1, 0, 11, 2, 11, 11, 11, 11, 0, 0, 10, 0, 10, 2, 8, 10, 10, 2, 2] (.b [0, 10, 10, 14, 12, 12, 12, 5, 4, 0, 0, 0, 0, 4, 0, 0, 4, 0, 4, 0, 0, 0, 4, 0, 3, 3, 3, 0, 0, 15, 15, 15, 15, 5, 4, 0, 0, 0, 0, 4, 0, 0, 4, 0, 4, 0, 0, 0, 4, 0, 3, 3, 3, 0, 1, 3, 2, 14, 5, 10] .n [10, 10, 12, 12, 0, 12, 0, 3, 0, 1, 0, 11, 2, 11, 11, 11, 11, 0, 0, 10, 0, 10, 2, 8, 10, 10, 2, 0, 0, 10, 10, 14, 12, 12, 12, 5, 4, 0, 0, 0, 0, 4, 0, 0, 4, 0, 4, 0, 0, 0, 4, 0, 3, 3, 3, 0, 0, 15, 15, 15, 15, 5, 4, 0, 0, 0, 0, 4, 0, 0, 4, 0, 4, 0, 0, 0, 4, 0, 3, 3, 3, 0, 1, 3, 2, 14, 5, 10] .n))) [0, 0, 5, 4, 0, 0, 0, 0, 4, 0, 0, 4, 0, 4, 0, 0, 0, 4, 0, 3, 3, 3, 0, 0, 11, 11, 11, 11, 5, 4, 0, 0, 0, 0, 4, 0, 0, 4, 0, 4, 0, 0, 0, 4, 0, 3, 3, 3, 0, 1, 3, 2, 10, 5, 9] .n), ρ⟩ (leafC F)
noncomputable def v_igkt (w : World) (x T : Nat) (a : IA) (g : Bool) (F : KF Flow) (ρ : Stream) : VT := igV w x T a g F ρ
theorem e_igkt (w : World) (x T : Nat) (a : IA) (g : Bool) (F : KF Flow) (ρ : Stream) (b0 : Bool) : EqV (q_igkt (((w.withFollow "set-order" g).withFollow "comprehension-iter-twice" true).withFollow "special-get-raises" b0) w x T a g F ρ) (v_igkt w x T a g F ρ) := by unfold EqV; cases g <;> cases b0 <;> kernel_rfl
theorem k_igkt (w : World) (x T : Nat) (a : IA) (g : Bool) (h0 : w.params.followText "set-order" = g) (h1 : w.params.followText "comprehension-iter-twice" = true) (F : KF Flow) (ρ : Stream) : EqV (q_igkt w w x T a g F ρ) (v_igkt w x T a g F ρ) := by
  have e := e_igkt w x T a g F ρ
  rw [wf_eq h0] at e
  rw [wf_eq h1] at e
  exact row1 (P := fun W => EqV (q_igkt W w x T a g F ρ) (v_igkt w x T a g F ρ)) "special-get-raises" e
noncomputable def q_igkf (W : World) (w : World) (x T : Nat) (a : IA) (g : Bool) (F : KF Flow) (ρ : Stream) : VT := (ex ⟨PR, W.params⟩ (mkZ w [zNP]) 1900).c 22 (.call (.ref 100) ⟨[], [(Str.ofString "modules", .ref (a.mp + 214)), (Str.ofString "dirs", .ref (a.dq + 214))]⟩) [0, 0, 0, 0, 0, 2, 18, 0, 0, 0, 0, 0, 0, 0, 0, 0, 0, 0, 0, 0, 0, 0, 0, 0, 0, 0, 0, 0, 0, 0, 0, 0, 4, 0, 4, 0, 0, 0, 0, 1, 0, 0, 0, 5, 5, 5, 5, 5, 5, 0, 5, 1, 1, 2, 12, 1, 0, 1, 2, 30, 1, 0, 0, 0, 0, 0, 5, 0, 0, 0, 0, 6, 6, 0, 6, 6, 0, 6, 6, 1, 1, 1, 1, 1, 0, 1, 0, 7, 0, 7, 0, 7, 2, 8, 7, 7, 1, 1, 7, 7, 0, 0, 6, 6, 6, 0, 7, 0, 7, 2, 8, 7, 7, 1, 0, 0, 7, 7, 9, 5, 4, 0, 0, 0, 0, 4, 0, 0, 4, 0, 4, 0, 0, 0, 4, 0, 3, 3, 3, 5, 2, 2, 2, 12, 2, 0, 2, 2, 30, 2, 2] ⟨[a.mp + 214, a.dq + 214], [lst [.str a.md a.mt] a.e1, lst a.dirs a.e2], (x + 214), 0, T, 0, (.b [0, 0, 5, 2, 2, 0, 2, 0, 10, 0, 10, 10, 0, 10, 0, 10, 0, 10, 0, 10, 2, 8, 10, 10, 2, 2] (.b [0, 10, 10, 14, 12, 5, 4, 0, 0, 0, 0, 4, 0, 0, 4, 0, 4, 0, 0, 0, 4, 0, 3, 3, 3, 0, 0, 15, 15, 15, 15, 5, 4, 0, 0, 0, 0, 4, 0, 0, 4, 0, 4, 0, 0, 0, 4, 0, 3, 3, 3, 0, 1, 3, 2, 14, 5, 10] .n [10, 10, 12, 12, 0, 12, 0, 3, 0, 1, 0, 11, 2, 11, 11, 11, 11, 0, 0, 10, 0, 10, 2, 8, 10, 10, 2, 2] (.b [0, 10, 10, 14, 12, 12, 12, 5, 4, 0, 0, 0, 0, 4, 0, 0, 4, 0, 4, 0, 0, 0, 4, 0, 3, 3, 3, 0, 0, 15, 15, 15, 15, 5, 4, 0, 0, 0, 0, 4, 0, 0, 4, 0, 4, 0, 0, 0, 4, 0, 3, 3, 3, 0, 1, 3, 2, 14, 5, 10] .n [10, 10, 12, 12, 0, 12, 0, 3, 0, 1, 0, 11, 2, 11, 11, 11, 11, 0, 0, 10, 0, 10, 2, 8, 10, 10, 2, 2] (.b [0, 10, 10, 14, 12, 12, 12, 5, 4, 0, 0, 0, 0, 4, 0, 0, 4, 0, 4, 0, 0, 0, 4, 0, 3, 3, 3, 0, 0, 15, 15, 15, 15, 5, 4, 0, 0, 0, 0, 4, 0, 0, 4, 0, 4, 0, 0, 0, 4, 0, 3, 3, 3, 0, 1, 3, 2, 14, 5, 10] .n [10, 10, 12, 12, 0, 12, 0, 3, 0, 1, 0, 11, 2, 11, 11, 11, 11, 0, 0, 10, 0, 10, 2, 8, 10, 10, 2, 0, 0, 10, 10, 14, 12, 12, 12, 5, 4, 0, 0, 0, 0, 4, 0, 0, 4, 0, 4, 0, 0, 0, 4, 0, 3, 3, 3, 0, 0, 15, 15, 15, 15, 5, 4, 0, 0, 0, 0, 4, 0, 0, 4, 0, 4, 0, 0, 0, 4, 0, 3, 3, 3, 0, 1, 3, 2, 14, 5, 10] .n))) [0, 0, 5, 4, 0, 0, 0, 0, 4, 0, 0, 4, 0, 4, 0, 0, 0, 4, 0, 3, 3, 3, 0, 0, 11, 11, 11, 11, 5, 4, 0, 0, 0, 0, 4, 0, 0, 4, 0, 4, 0, 0, 0, 4, 0, 3, 3, 3, 0, 1, 3, 2, 10, 5, 9] .n), ρ⟩ (leafC F)
noncomputable def v_igkf (w : World) (x T : Nat) (a : IA) (g : Bool) (F : KF Flow) (ρ : Stream) : VT := igV w x T a g F ρ
theorem e_igkf (w : World) (x T : Nat) (a : IA) (g : Bool) (F : KF Flow) (ρ : Stream) (b0 : Bool) : EqV (q_igkf (((w.withFollow "set-order" g).withFollow "comprehension-iter-twice" false).withFollow "special-get-raises" b0) w x T a g F ρ) (v_igkf w x T a g F ρ) := by unfold EqV; cases g <;> cases b0 <;> kernel_rfl
theorem k_igkf (w : World) (x T : Nat) (a : IA) (g : Bool) (h0 : w.params.followText "set-order" = g) (h1 : w.params.followText "comprehension-iter-twice" = false) (F : KF Flow) (ρ : Stream) : EqV (q_igkf w w x T a g F ρ) (v_igkf w x T a g F ρ) := by
  have e := e_igkf w x T a g F ρ
  rw [wf_eq h0] at e
  rw [wf_eq h1] at e
  exact row1 (P := fun W => EqV (q_igkf W w x T a g F ρ) (v_igkf w x T a g F ρ)) "special-get-raises" e
noncomputable def q_ige (W : World) (w : World) (x T : Nat) (g : Bool) (F : KF Flow) (ρ : Stream) : VT := (ex ⟨PR, W.params⟩ (mkZ w []) 1900).c 22 (.call (.ref 100) ⟨[], []⟩) [0, 0, 0, 0, 0, 2, 18, 0, 0, 0, 0, 0, 0, 0, 0, 0, 0, 0, 0, 0, 0, 0, 0, 0, 0, 0, 0, 2, 0, 2, 0, 0, 0, 0, 1, 0, 0, 0, 3, 3, 3, 3, 3, 3, 0, 3, 0, 0, 0, 0, 0, 0, 4, 4, 0, 4, 4, 0, 4, 4, 3, 2, 0, 0, 0, 0, 2, 0, 0, 2, 0, 2, 0, 0, 0, 2, 0, 1, 1, 1, 3, 3, 2, 0, 0, 0, 0, 2, 0, 0, 2, 0, 2, 0, 0, 0, 2, 0, 1, 1, 1, 0, 0, 6, 6, 6, 6, 3, 2, 0, 0, 0, 0, 2, 0, 0, 2, 0, 2, 0, 0, 0, 2, 0, 1, 1, 1, 1, 0, 5, 3, 4] ⟨[], [], (x + 214), 0, T, 0, .n, ρ⟩ (leafC F)
noncomputable def v_ige (w : World) (x T : Nat) (g : Bool) (F : KF Flow) (ρ : Stream) : VT := .leaf (F (.ok (.ret (.ref (x + 1 + 214)))) (x + 214 + 6) (T + 12) (igPl w ⟨x + 1, x, x + 5, x + 3, x + 4, T + 4, T + 6, T + 11, 1, 0, 0, Str.empty⟩ (T + 7) (T + 8) (sNil g) []))
theorem e_ige (w : World) (x T : Nat) (g : Bool) (F : KF Flow) (ρ : Stream) (b0 : Bool) : EqV (q_ige ((w.withFollow "set-order" g).withFollow "special-get-raises" b0) w x T g F ρ) (v_ige w x T g F ρ) := by unfold EqV; cases g <;> cases b0 <;> kernel_rfl
theorem k_ige (w : World) (x T : Nat) (g : Bool) (h0 : w.params.followText "set-order" = g) (F : KF Flow) (ρ : Stream) : EqV (q_ige w w x T g F ρ) (v_ige w x T g F ρ) := by
  have e := e_ige w x T g F ρ
  rw [wf_eq h0] at e
  exact row1 (P := fun W => EqV (q_ige W w x T g F ρ) (v_ige w x T g F ρ)) "special-get-raises" e
noncomputable def igDl (dl : List (Str × Tok)) (ts : List Nat) : List (Str × Tok) := (dl.map fun d => npOf d.1).zip ts
noncomputable def igArgs (a : IA) (kw : Bool) : Args := match kw with
  | true => ⟨[], [(Str.ofString "modules", .ref (a.mp + 214)), (Str.ofString "dirs", .ref (a.dq + 214))]⟩
  | false => ⟨[.ref (a.mp + 214), .ref (a.dq + 214)], []⟩
noncomputable def zIG (w : World) (a : IA) (dl : List (Str × Tok)) (kw : Bool) : Summ where
  code := .call (.ref 100) (igArgs a kw)
  pre := [a.mp + 214, a.dq + 214]
  objs := [lst [.str a.md a.mt] a.e1, lst a.dirs a.e2]
  P := a.dirs = dvals dl ∧ (∀ d ∈ dl, isNp d.1 = true) ∧ dl.length ≤ 3
  k := 15
  b := true
  F := fun _ xs => ⟨.ok (.ret (.ref (gx 0 xs + 214))), [lst [.str a.md a.mt] a.e1, lst a.dirs a.e2], igPl w ⟨gx 0 xs, gx 1 xs, gx 2 xs, gx 3 xs, gx 4 xs, gx 5 xs, gx 6 xs, gx 7 xs, 1, a.mt, dl.length, a.md⟩ (gx 8 xs) (gx 9 xs) (igSo w a (w.params.followText "set-order")) (dvals (igDl dl [gx 12 xs, gx 13 xs, gx 14 xs])), gx 10 xs + 214, gx 11 xs⟩
noncomputable def zIE (w : World) : Summ where
  code := .call (.ref 100) ⟨[], []⟩
  pre := []
  objs := []
  P := True
  k := 12
  b := true
  F := fun _ xs => ⟨.ok (.ret (.ref (gx 0 xs + 214))), [], igPl w ⟨gx 0 xs, gx 1 xs, gx 2 xs, gx 3 xs, gx 4 xs, gx 5 xs, gx 6 xs, gx 7 xs, 1, 0, 0, Str.empty⟩ (gx 8 xs) (gx 9 xs) (sNil (w.params.followText "set-order")) [], gx 10 xs + 214, gx 11 xs⟩
section
variable {w : World} {x T : Nat} {a : IA} {g : Bool} {F : KF Flow} {ρ : Stream}
theorem igD_some {n i : Nat} {acc : List Value} {d : Str × Tok} (e : getElem? (Array.mk a.dirs) i = some (.str d.1 d.2)) (hd : isNp d.1 = true) (h : (igD w x T a g F ρ n (i + 1) (acc ++ [.str (npOf d.1) (ρ (3 * i)).n])).Holds) : (igD w x T a g F ρ (n + 1) i acc).Holds := by
  show (VT.dec (isStrO (getElem? (Array.mk a.dirs) i)) (chain [((getElem? (Array.mk a.dirs) i).isSome, false)] (igAt w x T a g F ρ i acc))
    (.claim (isNp (strO (getElem? (Array.mk a.dirs) i)) = true) (chain [(true, true), (false, false)] (igD w x T a g F ρ n (i + 1) (acc ++ [.str (npOf (strO (getElem? (Array.mk a.dirs) i))) (ρ (3 * i)).n]))))).Holds
  rw [e]
  exact ⟨fun q => absurd (show true = false from q).symm Bool.false_ne_true, fun _ => ⟨hd, chain_h rfl h⟩⟩
theorem igD_none {n i : Nat} {acc : List Value} (e : getElem? (Array.mk a.dirs) i = none) (h : (igAt w x T a g F ρ i acc).Holds) : (igD w x T a g F ρ n i acc).Holds := by
  cases n with
  | zero =>
    show (chain [(isStrO (getElem? (Array.mk a.dirs) i), false), ((getElem? (Array.mk a.dirs) i).isSome, false)] (igAt w x T a g F ρ i acc)).Holds
    rw [e]
    exact chain_h rfl h
  | succ n =>
    show (VT.dec (isStrO (getElem? (Array.mk a.dirs) i)) (chain [((getElem? (Array.mk a.dirs) i).isSome, false)] (igAt w x T a g F ρ i acc)) _).Holds
    rw [e]
    exact ⟨fun _ => chain_h rfl h, fun q => absurd (show false = true from q) Bool.false_ne_true⟩
theorem ig_h {s : Shared} {R : Result → Shared → Prop} {dl : List (Str × Tok)} (hB : 214 ≤ s.heap.objs.size) (hd : a.dirs = dvals dl) (hn : ∀ d ∈ dl, isNp d.1 = true) (hl : dl.length ≤ 3)
    (h : ∀ xs h', xs.length = 15 → OutGood s.heap h' [a.mp + 214, a.dq + 214] ((zIG w a dl true).F true xs) → R ((zIG w a dl true).F true xs).res ⟨h', s.gens, s.drawn, ((zIG w a dl true).F true xs).T, s.os⟩) (hg : w.params.followText "set-order" = g) : (igV w x T a g (endF s [a.mp + 214, a.dq + 214] R) ρ).Holds := by
  subst hg
  have lf : ∀ {n t ig ds s1 k s2 : Nat} {l : List Value}, l = dvals (igDl dl [(ρ 0).n, (ρ 3).n, (ρ 6).n]) → (igLf w x T a (w.params.followText "set-order") (endF s [a.mp + 214, a.dq + 214] R) n t ig ds s1 k s2 dl.length l).Holds := by
    intro n t ig ds s1 k s2 l e
    subst e
    intro h' E
    exact h [dn (x + 1), dn x, dn ig, dn (x + 3), dn ds, dn (T + 7), dn s1, dn s2, dn k, dn (k + 1), dn (n - 214), dn t, dn (ρ 0).n, dn (ρ 3).n, dn (ρ 6).n] h' rfl (E.out hB rfl rfl)
  have gt := dvals_get dl
  rw [← hd] at gt
  refine chain_h rfl ⟨fun q => chain_h ?_ ?_, fun q => chain_h rfl ?_⟩
  · have : decide (Int.ofNat (Nat.succ ((Array.mk a.dirs).size - 1)) ≥ (2 : Int) ^ 63) = false := by
      apply decide_eq_false
      have : (Array.mk a.dirs).size = dl.length := by rw [hd]; simp [dvals]
      rw [this]
      have : Int.ofNat (Nat.succ (dl.length - 1)) ≤ 4 := by
        show ((Nat.succ (dl.length - 1) : Nat) : Int) ≤ 4
        omega
      omega
    simp only [List.all_cons, List.all_nil, this]
    rfl
  · rcases dl with _ | ⟨d0, _ | ⟨d1, _ | ⟨d2, _ | ⟨d3, r⟩⟩⟩⟩
    · exact igD_none (gt 0) (lf rfl)
    · exact igD_some (gt 0) (hn d0 (.head _)) (igD_none (gt 1) (lf rfl))
    · exact igD_some (gt 0) (hn d0 (.head _)) (igD_some (gt 1) (hn d1 (.tail _ (.head _))) (igD_none (gt 2) (lf rfl)))
    · exact igD_some (gt 0) (hn d0 (.head _)) (igD_some (gt 1) (hn d1 (.tail _ (.head _))) (igD_some (gt 2) (hn d2 (.tail _ (.tail _ (.head _)))) (igD_none (gt 3) (lf rfl))))
    · exact absurd hl (by simp)
  · have e : dl = [] := by
      have q1 := Nat.eq_of_beq_eq_true q
      rw [hd] at q1
      have : dl.length = 0 := by simpa [dvals] using q1
      exact List.length_eq_zero_iff.mp this
    subst e
    exact lf rfl
theorem zIG_ok {dl : List (Str × Tok)} {kw : Bool} : SummOk w (zIG w a dl kw) 200 := by
  intro ⟨hd', hn', hl⟩ A s R ha hd hu hK hL hB hn hat h
  obtain ⟨x, hx⟩ : ∃ x, s.heap.objs.size = x + 214 := ⟨s.heap.objs.size - 214, by omega⟩
  have rn : Rn w (mkZ w [zNP]) 80 [a.mp + 214, a.dq + 214] [lst [.str a.md a.mt] a.e1, lst a.dirs a.e2] s := (Bs.mk hK hL hB).rn (sums_cons (zNP_ok w) (Nat.le_refl _) sums_nil) hat hn
  have rm : Room 80 A 22 := room_of ha hd hu (by omega)
  cases hg : w.params.followText "set-order" with
  | _ =>
    cases hi : w.params.followText "comprehension-iter-twice" with
    | true =>
      cases kw with
      | false => exact run_code (V := v_igpt w x s.toks a _) rn rm hx (k_igpt w x s.toks a _ hg hi) fun ρ => ig_h hB hd' hn' hl h hg
      | true => exact run_code (V := v_igkt w x s.toks a _) rn rm hx (k_igkt w x s.toks a _ hg hi) fun ρ => ig_h hB hd' hn' hl h hg
    | false =>
      cases kw with
      | false => exact run_code (V := v_igpf w x s.toks a _) rn rm hx (k_igpf w x s.toks a _ hg hi) fun ρ => ig_h hB hd' hn' hl h hg
      | true => exact run_code (V := v_igkf w x s.toks a _) rn rm hx (k_igkf w x s.toks a _ hg hi) fun ρ => ig_h hB hd' hn' hl h hg
theorem zIE_ok : SummOk w (zIE w) 120 := by
  intro _ A s R ha hd hu hK hL hB hn hat h
  obtain ⟨x, hx⟩ : ∃ x, s.heap.objs.size = x + 214 := ⟨s.heap.objs.size - 214, by omega⟩
  have rn : Rn w (mkZ w []) 0 [] [] s := (Bs.mk hK hL hB).rn sums_nil hat hn
  refine run_code (dp := 22) (V := v_ige w x s.toks (w.params.followText "set-order")) rn (room_of ha hd hu (by omega)) hx (k_ige w x s.toks _ rfl) fun ρ => ?_
  intro h' E
  exact h [dn (x + 1), dn x, dn _, dn _, dn _, dn _, dn _, dn _, dn _, dn _, dn _, dn _] h' rfl (E.out hB rfl rfl)
end
end Mine
-- F7
set_option maxHeartbeats 0
namespace Mine
noncomputable def q_sp0 (W : World) (w : World) (x T : Nat) (t : Nat) (u : Nat) (F : KF Flow) (ρ : Stream) : VT := (ex ⟨PR, W.params⟩ (mkZ w []) 900).c 8 (.call (.builtin "str.split") ⟨[.str (Str.ofString "/a/m.py") t, .str (Str.ofString "/") u], []⟩) [0, 0, 0] ⟨[], [], (x + 214), 0, T, 0, .n, ρ⟩ (leafC F)
noncomputable def v_sp0 (w : World) (x T : Nat) (t : Nat) (u : Nat) (F : KF Flow) (ρ : Stream) : VT := (.leaf (F (Except.ok (PySem.Flow.ret (Value.ref (x + 214)))) ((x + 214) + 1) (T + 3) [((x + 214), (Obj.mk (Value.type "list") none (Data.seq #[(Value.str (Str.ofString "") T), (Value.str (Str.ofString "a") (T + 1)), (Value.str (Str.ofString "m.py") (T + 2))] 0) #[]))]))
theorem e_sp0 (w : World) (x T : Nat) (t : Nat) (u : Nat) (F : KF Flow) (ρ : Stream) : EqV (q_sp0 w w x T t u F ρ) (v_sp0 w x T t u F ρ) := by unfold EqV; kernel_rfl
theorem k_sp0 (w : World) (x T : Nat) (t : Nat) (u : Nat) (F : KF Flow) (ρ : Stream) : EqV (q_sp0 w w x T t u F ρ) (v_sp0 w x T t u F ρ) := by
  have e := e_sp0 w x T t u F ρ
  exact e
noncomputable def q_sp1 (W : World) (w : World) (x T : Nat) (t : Nat) (u : Nat) (F : KF Flow) (ρ : Stream) : VT := (ex ⟨PR, W.params⟩ (mkZ w []) 900).c 8 (.call (.builtin "str.split") ⟨[.str (Str.ofString "/a/x.py") t, .str (Str.ofString "/") u], []⟩) [0, 0, 0] ⟨[], [], (x + 214), 0, T, 0, .n, ρ⟩ (leafC F)
noncomputable def v_sp1 (w : World) (x T : Nat) (t : Nat) (u : Nat) (F : KF Flow) (ρ : Stream) : VT := (.leaf (F (Except.ok (PySem.Flow.ret (Value.ref (x + 214)))) ((x + 214) + 1) (T + 3) [((x + 214), (Obj.mk (Value.type "list") none (Data.seq #[(Value.str (Str.ofString "") T), (Value.str (Str.ofString "a") (T + 1)), (Value.str (Str.ofString "x.py") (T + 2))] 0) #[]))]))
theorem e_sp1 (w : World) (x T : Nat) (t : Nat) (u : Nat) (F : KF Flow) (ρ : Stream) : EqV (q_sp1 w w x T t u F ρ) (v_sp1 w x T t u F ρ) := by unfold EqV; kernel_rfl
theorem k_sp1 (w : World) (x T : Nat) (t : Nat) (u : Nat) (F : KF Flow) (ρ : Stream) : EqV (q_sp1 w w x T t u F ρ) (v_sp1 w x T t u F ρ) := by
  have e := e_sp1 w x T t u F ρ
  exact e
noncomputable def q_sp2 (W : World) (w : World) (x T : Nat) (t : Nat) (u : Nat) (F : KF Flow) (ρ : Stream) : VT := (ex ⟨PR, W.params⟩ (mkZ w []) 900).c 8 (.call (.builtin "str.split") ⟨[.str (Str.ofString "/a/m.t.py") t, .str (Str.ofString "/") u], []⟩) [0, 0, 0] ⟨[], [], (x + 214), 0, T, 0, .n, ρ⟩ (leafC F)
noncomputable def v_sp2 (w : World) (x T : Nat) (t : Nat) (u : Nat) (F : KF Flow) (ρ : Stream) : VT := (.leaf (F (Except.ok (PySem.Flow.ret (Value.ref (x + 214)))) ((x + 214) + 1) (T + 3) [((x + 214), (Obj.mk (Value.type "list") none (Data.seq #[(Value.str (Str.ofString "") T), (Value.str (Str.ofString "a") (T + 1)), (Value.str (Str.ofString "m.t.py") (T + 2))] 0) #[]))]))
theorem e_sp2 (w : World) (x T : Nat) (t : Nat) (u : Nat) (F : KF Flow) (ρ : Stream) : EqV (q_sp2 w w x T t u F ρ) (v_sp2 w x T t u F ρ) := by unfold EqV; kernel_rfl
theorem k_sp2 (w : World) (x T : Nat) (t : Nat) (u : Nat) (F : KF Flow) (ρ : Stream) : EqV (q_sp2 w w x T t u F ρ) (v_sp2 w x T t u F ρ) := by
  have e := e_sp2 w x T t u F ρ
  exact e
noncomputable def q_sp3 (W : World) (w : World) (x T : Nat) (t : Nat) (u : Nat) (F : KF Flow) (ρ : Stream) : VT := (ex ⟨PR, W.params⟩ (mkZ w []) 900).c 8 (.call (.builtin "str.split") ⟨[.str (Str.ofString "/a/pkg.py") t, .str (Str.ofString "/") u], []⟩) [0, 0, 0] ⟨[], [], (x + 214), 0, T, 0, .n, ρ⟩ (leafC F)
noncomputable def v_sp3 (w : World) (x T : Nat) (t : Nat) (u : Nat) (F : KF Flow) (ρ : Stream) : VT := (.leaf (F (Except.ok (PySem.Flow.ret (Value.ref (x + 214)))) ((x + 214) + 1) (T + 3) [((x + 214), (Obj.mk (Value.type "list") none (Data.seq #[(Value.str (Str.ofString "") T), (Value.str (Str.ofString "a") (T + 1)), (Value.str (Str.ofString "pkg.py") (T + 2))] 0) #[]))]))
theorem e_sp3 (w : World) (x T : Nat) (t : Nat) (u : Nat) (F : KF Flow) (ρ : Stream) : EqV (q_sp3 w w x T t u F ρ) (v_sp3 w x T t u F ρ) := by unfold EqV; kernel_rfl
theorem k_sp3 (w : World) (x T : Nat) (t : Nat) (u : Nat) (F : KF Flow) (ρ : Stream) : EqV (q_sp3 w w x T t u F ρ) (v_sp3 w x T t u F ρ) := by
  have e := e_sp3 w x T t u F ρ
  exact e
noncomputable def q_sp4 (W : World) (w : World) (x T : Nat) (t : Nat) (u : Nat) (F : KF Flow) (ρ : Stream) : VT := (ex ⟨PR, W.params⟩ (mkZ w []) 900).c 8 (.call (.builtin "str.split") ⟨[.str (Str.ofString "/a/b/m.py") t, .str (Str.ofString "/") u], []⟩) [0, 0, 0] ⟨[], [], (x + 214), 0, T, 0, .n, ρ⟩ (leafC F)
noncomputable def v_sp4 (w : World) (x T : Nat) (t : Nat) (u : Nat) (F : KF Flow) (ρ : Stream) : VT := (.leaf (F (Except.ok (PySem.Flow.ret (Value.ref (x + 214)))) ((x + 214) + 1) (T + 4) [((x + 214), (Obj.mk (Value.type "list") none (Data.seq #[(Value.str (Str.ofString "") T), (Value.str (Str.ofString "a") (T + 1)), (Value.str (Str.ofString "b") (T + 2)), (Value.str (Str.ofString "m.py") (T + 3))] 0) #[]))]))
theorem e_sp4 (w : World) (x T : Nat) (t : Nat) (u : Nat) (F : KF Flow) (ρ : Stream) : EqV (q_sp4 w w x T t u F ρ) (v_sp4 w x T t u F ρ) := by unfold EqV; kernel_rfl
theorem k_sp4 (w : World) (x T : Nat) (t : Nat) (u : Nat) (F : KF Flow) (ρ : Stream) : EqV (q_sp4 w w x T t u F ρ) (v_sp4 w x T t u F ρ) := by
  have e := e_sp4 w x T t u F ρ
  exact e
noncomputable def q_sp5 (W : World) (w : World) (x T : Nat) (t : Nat) (u : Nat) (F : KF Flow) (ρ : Stream) : VT := (ex ⟨PR, W.params⟩ (mkZ w []) 900).c 8 (.call (.builtin "str.split") ⟨[.str (Str.ofString "/a/b/x.py") t, .str (Str.ofString "/") u], []⟩) [0, 0, 0] ⟨[], [], (x + 214), 0, T, 0, .n, ρ⟩ (leafC F)
noncomputable def v_sp5 (w : World) (x T : Nat) (t : Nat) (u : Nat) (F : KF Flow) (ρ : Stream) : VT := (.leaf (F (Except.ok (PySem.Flow.ret (Value.ref (x + 214)))) ((x + 214) + 1) (T + 4) [((x + 214), (Obj.mk (Value.type "list") none (Data.seq #[(Value.str (Str.ofString "") T), (Value.str (Str.ofString "a") (T + 1)), (Value.str (Str.ofString "b") (T + 2)), (Value.str (Str.ofString "x.py") (T + 3))] 0) #[]))]))
theorem e_sp5 (w : World) (x T : Nat) (t : Nat) (u : Nat) (F : KF Flow) (ρ : Stream) : EqV (q_sp5 w w x T t u F ρ) (v_sp5 w x T t u F ρ) := by unfold EqV; kernel_rfl
theorem k_sp5 (w : World) (x T : Nat) (t : Nat) (u : Nat) (F : KF Flow) (ρ : Stream) : EqV (q_sp5 w w x T t u F ρ) (v_sp5 w x T t u F ρ) := by
  have e := e_sp5 w x T t u F ρ
  exact e
noncomputable def q_sp6 (W : World) (w : World) (x T : Nat) (t : Nat) (u : Nat) (F : KF Flow) (ρ : Stream) : VT := (ex ⟨PR, W.params⟩ (mkZ w []) 900).c 8 (.call (.builtin "str.split") ⟨[.str (Str.ofString "/a/b/m.t.py") t, .str (Str.ofString "/") u], []⟩) [0, 0, 0] ⟨[], [], (x + 214), 0, T, 0, .n, ρ⟩ (leafC F)
noncomputable def v_sp6 (w : World) (x T : Nat) (t : Nat) (u : Nat) (F : KF Flow) (ρ : Stream) : VT := (.leaf (F (Except.ok (PySem.Flow.ret (Value.ref (x + 214)))) ((x + 214) + 1) (T + 4) [((x + 214), (Obj.mk (Value.type "list") none (Data.seq #[(Value.str (Str.ofString "") T), (Value.str (Str.ofString "a") (T + 1)), (Value.str (Str.ofString "b") (T + 2)), (Value.str (Str.ofString "m.t.py") (T + 3))] 0) #[]))]))
theorem e_sp6 (w : World) (x T : Nat) (t : Nat) (u : Nat) (F : KF Flow) (ρ : Stream) : EqV (q_sp6 w w x T t u F ρ) (v_sp6 w x T t u F ρ) := by unfold EqV; kernel_rfl
theorem k_sp6 (w : World) (x T : Nat) (t : Nat) (u : Nat) (F : KF Flow) (ρ : Stream) : EqV (q_sp6 w w x T t u F ρ) (v_sp6 w x T t u F ρ) := by
  have e := e_sp6 w x T t u F ρ
  exact e
noncomputable def q_sp7 (W : World) (w : World) (x T : Nat) (t : Nat) (u : Nat) (F : KF Flow) (ρ : Stream) : VT := (ex ⟨PR, W.params⟩ (mkZ w []) 900).c 8 (.call (.builtin "str.split") ⟨[.str (Str.ofString "/a/b/pkg.py") t, .str (Str.ofString "/") u], []⟩) [0, 0, 0] ⟨[], [], (x + 214), 0, T, 0, .n, ρ⟩ (leafC F)
noncomputable def v_sp7 (w : World) (x T : Nat) (t : Nat) (u : Nat) (F : KF Flow) (ρ : Stream) : VT := (.leaf (F (Except.ok (PySem.Flow.ret (Value.ref (x + 214)))) ((x + 214) + 1) (T + 4) [((x + 214), (Obj.mk (Value.type "list") none (Data.seq #[(Value.str (Str.ofString "") T), (Value.str (Str.ofString "a") (T + 1)), (Value.str (Str.ofString "b") (T + 2)), (Value.str (Str.ofString "pkg.py") (T + 3))] 0) #[]))]))
theorem e_sp7 (w : World) (x T : Nat) (t : Nat) (u : Nat) (F : KF Flow) (ρ : Stream) : EqV (q_sp7 w w x T t u F ρ) (v_sp7 w x T t u F ρ) := by unfold EqV; kernel_rfl
theorem k_sp7 (w : World) (x T : Nat) (t : Nat) (u : Nat) (F : KF Flow) (ρ : Stream) : EqV (q_sp7 w w x T t u F ρ) (v_sp7 w x T t u F ρ) := by
  have e := e_sp7 w x T t u F ρ
  exact e
noncomputable def q_sp8 (W : World) (w : World) (x T : Nat) (t : Nat) (u : Nat) (F : KF Flow) (ρ : Stream) : VT := (ex ⟨PR, W.params⟩ (mkZ w []) 900).c 8 (.call (.builtin "str.split") ⟨[.str (Str.ofString "/c/m.py") t, .str (Str.ofString "/") u], []⟩) [0, 0, 0] ⟨[], [], (x + 214), 0, T, 0, .n, ρ⟩ (leafC F)
noncomputable def v_sp8 (w : World) (x T : Nat) (t : Nat) (u : Nat) (F : KF Flow) (ρ : Stream) : VT := (.leaf (F (Except.ok (PySem.Flow.ret (Value.ref (x + 214)))) ((x + 214) + 1) (T + 3) [((x + 214), (Obj.mk (Value.type "list") none (Data.seq #[(Value.str (Str.ofString "") T), (Value.str (Str.ofString "c") (T + 1)), (Value.str (Str.ofString "m.py") (T + 2))] 0) #[]))]))
theorem e_sp8 (w : World) (x T : Nat) (t : Nat) (u : Nat) (F : KF Flow) (ρ : Stream) : EqV (q_sp8 w w x T t u F ρ) (v_sp8 w x T t u F ρ) := by unfold EqV; kernel_rfl
theorem k_sp8 (w : World) (x T : Nat) (t : Nat) (u : Nat) (F : KF Flow) (ρ : Stream) : EqV (q_sp8 w w x T t u F ρ) (v_sp8 w x T t u F ρ) := by
  have e := e_sp8 w x T t u F ρ
  exact e
noncomputable def q_sp9 (W : World) (w : World) (x T : Nat) (t : Nat) (u : Nat) (F : KF Flow) (ρ : Stream) : VT := (ex ⟨PR, W.params⟩ (mkZ w []) 900).c 8 (.call (.builtin "str.split") ⟨[.str (Str.ofString "/c/x.py") t, .str (Str.ofString "/") u], []⟩) [0, 0, 0] ⟨[], [], (x + 214), 0, T, 0, .n, ρ⟩ (leafC F)
noncomputable def v_sp9 (w : World) (x T : Nat) (t : Nat) (u : Nat) (F : KF Flow) (ρ : Stream) : VT := (.leaf (F (Except.ok (PySem.Flow.ret (Value.ref (x + 214)))) ((x + 214) + 1) (T + 3) [((x + 214), (Obj.mk (Value.type "list") none (Data.seq #[(Value.str (Str.ofString "") T), (Value.str (Str.ofString "c") (T + 1)), (Value.str (Str.ofString "x.py") (T + 2))] 0) #[]))]))
theorem e_sp9 (w : World) (x T : Nat) (t : Nat) (u : Nat) (F : KF Flow) (ρ : Stream) : EqV (q_sp9 w w x T t u F ρ) (v_sp9 w x T t u F ρ) := by unfold EqV; kernel_rfl
theorem k_sp9 (w : World) (x T : Nat) (t : Nat) (u : Nat) (F : KF Flow) (ρ : Stream) : EqV (q_sp9 w w x T t u F ρ) (v_sp9 w x T t u F ρ) := by
  have e := e_sp9 w x T t u F ρ
  exact e
noncomputable def q_sp10 (W : World) (w : World) (x T : Nat) (t : Nat) (u : Nat) (F : KF Flow) (ρ : Stream) : VT := (ex ⟨PR, W.params⟩ (mkZ w []) 900).c 8 (.call (.builtin "str.split") ⟨[.str (Str.ofString "/c/m.t.py") t, .str (Str.ofString "/") u], []⟩) [0, 0, 0] ⟨[], [], (x + 214), 0, T, 0, .n, ρ⟩ (leafC F)
noncomputable def v_sp10 (w : World) (x T : Nat) (t : Nat) (u : Nat) (F : KF Flow) (ρ : Stream) : VT := (.leaf (F (Except.ok (PySem.Flow.ret (Value.ref (x + 214)))) ((x + 214) + 1) (T + 3) [((x + 214), (Obj.mk (Value.type "list") none (Data.seq #[(Value.str (Str.ofString "") T), (Value.str (Str.ofString "c") (T + 1)), (Value.str (Str.ofString "m.t.py") (T + 2))] 0) #[]))]))
theorem e_sp10 (w : World) (x T : Nat) (t : Nat) (u : Nat) (F : KF Flow) (ρ : Stream) : EqV (q_sp10 w w x T t u F ρ) (v_sp10 w x T t u F ρ) := by unfold EqV; kernel_rfl
theorem k_sp10 (w : World) (x T : Nat) (t : Nat) (u : Nat) (F : KF Flow) (ρ : Stream) : EqV (q_sp10 w w x T t u F ρ) (v_sp10 w x T t u F ρ) := by
  have e := e_sp10 w x T t u F ρ
  exact e
noncomputable def q_sp11 (W : World) (w : World) (x T : Nat) (t : Nat) (u : Nat) (F : KF Flow) (ρ : Stream) : VT := (ex ⟨PR, W.params⟩ (mkZ w []) 900).c 8 (.call (.builtin "str.split") ⟨[.str (Str.ofString "/c/pkg.py") t, .str (Str.ofString "/") u], []⟩) [0, 0, 0] ⟨[], [], (x + 214), 0, T, 0, .n, ρ⟩ (leafC F)
noncomputable def v_sp11 (w : World) (x T : Nat) (t : Nat) (u : Nat) (F : KF Flow) (ρ : Stream) : VT := (.leaf (F (Except.ok (PySem.Flow.ret (Value.ref (x + 214)))) ((x + 214) + 1) (T + 3) [((x + 214), (Obj.mk (Value.type "list") none (Data.seq #[(Value.str (Str.ofString "") T), (Value.str (Str.ofString "c") (T + 1)), (Value.str (Str.ofString "pkg.py") (T + 2))] 0) #[]))]))
theorem e_sp11 (w : World) (x T : Nat) (t : Nat) (u : Nat) (F : KF Flow) (ρ : Stream) : EqV (q_sp11 w w x T t u F ρ) (v_sp11 w x T t u F ρ) := by unfold EqV; kernel_rfl
theorem k_sp11 (w : World) (x T : Nat) (t : Nat) (u : Nat) (F : KF Flow) (ρ : Stream) : EqV (q_sp11 w w x T t u F ρ) (v_sp11 w x T t u F ρ) := by
  have e := e_sp11 w x T t u F ρ
  exact e
noncomputable def spT : List (Str × List Str) := (List.range 3).flatMap fun i => (List.range 4).map fun j => (pathS i j, [Str.ofString ""] ++ (match i with | 0 => [Str.ofString "a"] | 1 => [Str.ofString "a", Str.ofString "b"] | _ => [Str.ofString "c"]) ++ [nameS j ++ Str.ofString ".py"])
noncomputable def spL (p : Str) : List Str := match spT.find? (fun q => decide (q.1 = p)) with
  | some q => q.2
  | none => []
noncomputable def zSP : Code → Option Summ := fun c => (mBi "str.split" c).bind fun args => (mSS args).map fun p => ⟨c, [], [], isPth p.1 = true ∧ p.2.2.1 = Str.ofString "/", 7, true, fun _ xs => ⟨.ok (.ret (.ref (gx 0 xs + 214))), [], [(gx 0 xs + 214, lst (dvals ((spL p.1).zip [gx 3 xs, gx 4 xs, gx 5 xs, gx 6 xs])) 0)], gx 1 xs + 214, gx 2 xs⟩⟩
theorem pth_cases {p : Str} (hp : isPth p = true) : p = Str.ofString "/a/m.py" ∨ p = Str.ofString "/a/x.py" ∨ p = Str.ofString "/a/m.t.py" ∨ p = Str.ofString "/a/pkg.py" ∨ p = Str.ofString "/a/b/m.py" ∨ p = Str.ofString "/a/b/x.py" ∨ p = Str.ofString "/a/b/m.t.py" ∨ p = Str.ofString "/a/b/pkg.py" ∨ p = Str.ofString "/c/m.py" ∨ p = Str.ofString "/c/x.py" ∨ p = Str.ofString "/c/m.t.py" ∨ p = Str.ofString "/c/pkg.py" := by
  have e : pathsS = [Str.ofString "/a/m.py", Str.ofString "/a/x.py", Str.ofString "/a/m.t.py", Str.ofString "/a/pkg.py", Str.ofString "/a/b/m.py", Str.ofString "/a/b/x.py", Str.ofString "/a/b/m.t.py", Str.ofString "/a/b/pkg.py", Str.ofString "/c/m.py", Str.ofString "/c/x.py", Str.ofString "/c/m.t.py", Str.ofString "/c/pkg.py"] := by decide +kernel
  have := List.contains_iff_mem.mp hp
  rw [e] at this
  simpa only [List.mem_cons, List.not_mem_nil, or_false] using this
theorem sp_eq {w : World} {x T : Nat} {t u : Tok} {p : Str} (hp : isPth p = true) : ∃ (n : Nat) (or : List Nat) (V : KF Flow → Stream → VT), (∀ F ρ, EqV ((ex ⟨PR, w.params⟩ (mkZ w []) n).c 8 (.call (.builtin "str.split") ⟨[.str p t, .str (Str.ofString "/") u], []⟩) or ⟨[], [], x + 214, 0, T, 0, .n, ρ⟩ (leafC F)) (V F ρ)) ∧
    ∀ F ρ, (∀ n t' a, F (.ok (.ret (.ref (a + 214)))) n t' [(a + 214, lst (dvals ((spL p).zip [T, T + 1, T + 2, T + 3])) 0)]) → (V F ρ).Holds := by
  rcases pth_cases hp with rfl | rfl | rfl | rfl | rfl | rfl | rfl | rfl | rfl | rfl | rfl | rfl
  · exact ⟨_, _, v_sp0 w x T t u, k_sp0 w x T t u, fun F ρ h => by
      rw [show spL _ = [Str.ofString "", Str.ofString "a", Str.ofString "m.py"] from by decide +kernel] at h
      exact h _ _ x⟩
  · exact ⟨_, _, v_sp1 w x T t u, k_sp1 w x T t u, fun F ρ h => by
      rw [show spL _ = [Str.ofString "", Str.ofString "a", Str.ofString "x.py"] from by decide +kernel] at h
      exact h _ _ x⟩
  · exact ⟨_, _, v_sp2 w x T t u, k_sp2 w x T t u, fun F ρ h => by
      rw [show spL _ = [Str.ofString "", Str.ofString "a", Str.ofString "m.t.py"] from by decide +kernel] at h
      exact h _ _ x⟩
  · exact ⟨_, _, v_sp3 w x T t u, k_sp3 w x T t u, fun F ρ h => by
      rw [show spL _ = [Str.ofString "", Str.ofString "a", Str.ofString "pkg.py"] from by decide +kernel] at h
      exact h _ _ x⟩
  · exact ⟨_, _, v_sp4 w x T t u, k_sp4 w x T t u, fun F ρ h => by
      rw [show spL _ = [Str.ofString "", Str.ofString "a", Str.ofString "b", Str.ofString "m.py"] from by decide +kernel] at h
      exact h _ _ x⟩
  · exact ⟨_, _, v_sp5 w x T t u, k_sp5 w x T t u, fun F ρ h => by
      rw [show spL _ = [Str.ofString "", Str.ofString "a", Str.ofString "b", Str.ofString "x.py"] from by decide +kernel] at h
      exact h _ _ x⟩
  · exact ⟨_, _, v_sp6 w x T t u, k_sp6 w x T t u, fun F ρ h => by
      rw [show spL _ = [Str.ofString "", Str.ofString "a", Str.ofString "b", Str.ofString "m.t.py"] from by decide +kernel] at h
      exact h _ _ x⟩
  · exact ⟨_, _, v_sp7 w x T t u, k_sp7 w x T t u, fun F ρ h => by
      rw [show spL _ = [Str.ofString "", Str.ofString "a", Str.ofString "b", Str.ofString "pkg.py"] from by decide +kernel] at h
      exact h _ _ x⟩
  · exact ⟨_, _, v_sp8 w x T t u, k_sp8 w x T t u, fun F ρ h => by
      rw [show spL _ = [Str.ofString "", Str.ofString "c", Str.ofString "m.py"] from by decide +kernel] at h
      exact h _ _ x⟩
  · exact ⟨_, _, v_sp9 w x T t u, k_sp9 w x T t u, fun F ρ h => by
      rw [show spL _ = [Str.ofString "", Str.ofString "c", Str.ofString "x.py"] from by decide +kernel] at h
      exact h _ _ x⟩
  · exact ⟨_, _, v_sp10 w x T t u, k_sp10 w x T t u, fun F ρ h => by
      rw [show spL _ = [Str.ofString "", Str.ofString "c", Str.ofString "m.t.py"] from by decide +kernel] at h
      exact h _ _ x⟩
  · exact ⟨_, _, v_sp11 w x T t u, k_sp11 w x T t u, fun F ρ h => by
      rw [show spL _ = [Str.ofString "", Str.ofString "c", Str.ofString "pkg.py"] from by decide +kernel] at h
      exact h _ _ x⟩
theorem zSP_ok (w : World) : SumOk w zSP 40 := by
  intro c z e
  obtain ⟨args, e1, e2⟩ := Option.bind_eq_some_iff.mp e
  obtain ⟨⟨p, t, q, u⟩, e3, e4⟩ := Option.map_eq_some_iff.mp e2
  rw [← e4]
  intro hP A s R ha hd hu hK hL hB hn hat h
  obtain ⟨hP, hq⟩ := hP
  have hq : q = Str.ofString "/" := hq
  subst hq
  show codeAny _ _ c R s
  rw [mBi_is e1, mSS_is e3]
  obtain ⟨x, hx⟩ : ∃ x, s.heap.objs.size = x + 214 := ⟨s.heap.objs.size - 214, by omega⟩
  have rn : Rn w (mkZ w []) 0 [] [] s := rn_of sums_nil hK hL hB (by simp) trivial List.nodup_nil
  obtain ⟨n, or, V, e, hV⟩ := sp_eq (w := w) (x := x) (T := s.toks) (t := t) (u := u) hP
  exact run_code (V := V) rn (room_of (n := 40) (dp := 8) ha hd hu (by omega)) hx e fun ρ => hV _ _ fun n t' a h' E => h [dn _, dn _, dn _, dn _, dn _, dn _, dn _] h' rfl (E.out hB rfl rfl)
end Mine
-- X5
namespace Mine
noncomputable section
noncomputable def kpEnv (w : World) (lo ce : Nat) : Env := { scope := (fdOf (tpo w 193)).scope, locals := lo, globals := 3, cells := [(Str.ofString "path", ce)], qual := Str.ofString "_law_kept.<locals>.", func := some 193, code := .ref 192, frame := some lo, builtins := 0 }
noncomputable def kpFor (w : World) : Stmt := nthS 1 (stOf (tpo w 193))
noncomputable def kpLoop (w : World) (lo ce it : Nat) : Code := .forLoop (forT (kpFor w)) (.ref it) (forB (kpFor w)) (forE (kpFor w)) (kpEnv w lo ce)
noncomputable def pCell (v : Option Value) : Obj := { cls := .type "cell", data := .cell v }
structure KV where
  (lo ce it ps cl kd t0 t1 t2 t3 t4 tm ep dep : Nat)
  md : Str
  items : Array Value
  dl : List (Str × Tok)
noncomputable def KV.q (V : KV) (k : Nat) : Option Value := getElem? V.items (Int.toNat (Nat.cast k))
noncomputable def KV.p (V : KV) (k : Nat) : Str := strO (V.q k)
noncomputable def KV.pv (V : KV) (k : Nat) : Value := .str (strO (V.q k)) (tokS (V.q k))
noncomputable def kp5 (w : World) (V : KV) (kl : Nat) : Obj := loc [eo w "paths" V.t0 (.ref (V.ps + 214)), eo w "module" V.t1 (.str V.md V.tm), eo w "closed" V.t2 (.ref (V.cl + 214)), en w "kept" V.t4 (.ref kl), en w "known" V.t3 (.ref (V.kd + 214))] 5
noncomputable def kp6 (w : World) (V : KV) (t5 kl : Nat) (nm : Value) : Obj := loc [eo w "paths" V.t0 (.ref (V.ps + 214)), eo w "module" V.t1 (.str V.md V.tm), eo w "closed" V.t2 (.ref (V.cl + 214)), en w "kept" V.t4 (.ref kl), en w "known" V.t3 (.ref (V.kd + 214)), en w "name" t5 nm] 6
noncomputable def ifB : Stmt → List Stmt | .If _ b _ _ => b | _ => []
noncomputable def asgV : Stmt → PySem.Expr | .Assign _ v _ => v | _ => default
noncomputable def boolN (n : Nat) : PySem.Expr → PySem.Expr | .BoolOp _ vs _ => (nth n vs).getD default | _ => default
noncomputable def cmpL : PySem.Expr → PySem.Expr | .Compare l _ _ _ => l | _ => default
noncomputable def lcSc : PySem.Expr → Scope | .ListComp _ _ s _ => s | _ => default
noncomputable def kcX (w : World) : PySem.Expr := cmpL (boolN 2 (asgV (nthS 0 (ifB (nthS 1 (forB (kpFor w)))))))
noncomputable def kcEnv (w : World) (lo ce lc : Nat) : Env := compEnvC (lcSc (kcX w)) [(Str.ofString "path", ce)] lc (kpEnv w lo ce)
noncomputable def zCm (z : Summ) : Code → Option Summ := fun c => match c with
  | .compStart .. => some z
  | _ => none
theorem zCm_ok {w : World} {z : Summ} {need : Nat} (h : SummOk w z need) : SumOk w (zCm z) need := fun c z' e => by
  cases c <;> first | (cases e; exact h) | cases e
end
end Mine
-- X6
namespace Mine
noncomputable section
structure KB where
  (lo it ac lc ce cl t dep : Nat)
  p : Str
  dirs : List Value
noncomputable def kcSl (p d : Str) : Str := sliceS p none (some ((Nat.cast d.length) + (1 : Int))) 1
noncomputable def kcCl (p d : Str) : List (Bool × Bool) := [(false, false), (decide ((Nat.cast d.length : Int) ≥ (2 : Int) ^ 63), false), ((1 : Int) == 1 && (sliceP p none (some ((Nat.cast d.length) + (1 : Int))) 1).length == p.length, false), (decide ((kcSl p d).length > 16777216), false), (d.length == 0, false), (false, false), (decide ((d ++ Str.ofString "/").length > 16777216), false)]
noncomputable def kcHit (p d : Str) : Bool := strEqB (kcSl p d) (d ++ Str.ofString "/")
section
variable (w : World) (x T : Nat) (C : KB) (F : KF Flow)
noncomputable def KB.at (C : KB) (i : Nat) : Option Value := getElem? (Array.mk C.dirs) i
noncomputable def kcLo (i : Nat) : Obj := @Nat.rec (fun _ => Obj) { cls := .type "dict", data := .dict #[] 0 } (fun j _ => { cls := .type "dict", data := .dict #[en w "one" T (.str (strO (C.at j)) (tokS (C.at j)))] 1 }) i
noncomputable def kcLf (i : Nat) (acc : List Value) (e : Nat) : VT := .leaf (F (.ok .next) (x + 214 + (2 + i)) (T + 8 * i)
  [(C.it + 214, { cls := .type "list_iterator", data := .fields #[.none, .int (i : Nat) 0] }), (C.ac + 214, lst acc e),
   (C.lc + 214, kcLo w T C i), (C.ce + 214, pCell (some (.str C.p C.t))), (C.cl + 214, lst C.dirs C.dep)])
noncomputable def kcD (n i : Nat) (acc : List Value) (e : Nat) : VT := @Nat.rec (fun _ => Nat → List Value → Nat → VT)
  (fun i acc e => chain [(isStrO (C.at i), false), ((C.at i).isSome, false)] (kcLf w x T C F i acc e))
  (fun _ ih i acc e => .dec (isStrO (C.at i)) (chain [((C.at i).isSome, false)] (kcLf w x T C F i acc e))
    (chain (kcCl C.p (strO (C.at i))) (.dec (kcHit C.p (strO (C.at i))) (ih (i + 1) acc e) (chain [(false, false)] (ih (i + 1) (acc ++ [.str (strO (C.at i)) (tokS (C.at i))]) (e + 1)))))) n i acc e
end
end
end Mine
-- F8
set_option maxHeartbeats 0
namespace Mine
noncomputable def q_kct (W : World) (w : World) (x T : Nat) (C : KB) (F : KF Flow) (ρ : Stream) : VT := (ex ⟨PR, W.params⟩ (mkZ w []) 1500).c 12 (.compStart (kcX w) 0 (.ref (C.it + 214)) (.ref (C.ac + 214)) (kcEnv w (C.lo + 214) (C.ce + 214) (C.lc + 214))) [0, 0, 1, 0, 1, 2, 8, 1, 1, 5, 2] ⟨[C.it + 214, C.ac + 214, C.lc + 214, C.ce + 214, C.cl + 214], [itO (C.cl + 214) 0, lst [] 0, { cls := .type "dict", data := .dict #[] 0 }, pCell (some (.str C.p C.t)), lst C.dirs C.dep], (x + 214), 0, T, 0, (.b [0, 1, 1, 7, 0, 1, 2, 3, 4] .n [1, 1, 3, 3, 4, 0, 0, 3, 0, 2, 12, 0, 0, 0, 0, 0, 0, 0, 2, 9, 6, 6, 6, 6, 0, 0, 3, 0, 2, 5, 0, 0, 0, 0, 2, 10, 2] (.b [0, 1, 0, 1, 2, 8, 1, 1, 5, 2] (.b [0, 1, 1, 8, 0, 1, 2, 3, 4] .n [1, 1, 3, 3, 4, 0, 0, 3, 0, 2, 12, 0, 0, 0, 0, 0, 0, 0, 2, 9, 7, 7, 7, 7, 0, 0, 3, 0, 2, 5, 0, 0, 0, 0, 2, 10, 2] (.b [0, 1, 0, 1, 2, 8, 1, 1, 5, 2] (.b [0, 1, 1, 9, 0, 1, 2, 3, 4] .n [1, 1, 3, 3, 4, 0, 0, 3, 0, 2, 12, 0, 0, 0, 0, 0, 0, 0, 2, 9, 8, 8, 8, 8, 0, 0, 3, 0, 2, 5, 0, 0, 0, 0, 2, 10, 2] (.b [0, 1, 0, 1, 2, 8, 1, 1, 5, 0, 0, 1, 1, 10, 0, 1, 2, 3, 4] .n [3, 0, 2, 2, 11, 2, 2, 2, 0, 0, 1, 0, 1, 2, 8, 1, 1, 5, 0, 0, 1, 1, 10, 0, 1, 2, 3, 4] .n)) [3, 0, 2, 2, 11, 2, 2, 2, 0, 0, 1, 0, 1, 2, 8, 1, 1, 5, 2] (.b [0, 1, 1, 9, 0, 1, 2, 3, 4] .n [1, 1, 3, 3, 4, 0, 0, 3, 0, 2, 12, 0, 0, 0, 0, 0, 0, 0, 2, 9, 8, 8, 8, 8, 0, 0, 3, 0, 2, 5, 0, 0, 0, 0, 2, 10, 2] (.b [0, 1, 0, 1, 2, 8, 1, 1, 5, 0, 0, 1, 1, 10, 0, 1, 2, 3, 4] .n [3, 0, 2, 2, 11, 2, 2, 2, 0, 0, 1, 0, 1, 2, 8, 1, 1, 5, 0, 0, 1, 1, 10, 0, 1, 2, 3, 4] .n)))) [3, 0, 2, 2, 11, 2, 2, 2, 0, 0, 1, 0, 1, 2, 8, 1, 1, 5, 2] (.b [0, 1, 1, 8, 0, 1, 2, 3, 4] .n [1, 1, 3, 3, 4, 0, 0, 3, 0, 2, 12, 0, 0, 0, 0, 0, 0, 0, 2, 9, 7, 7, 7, 7, 0, 0, 3, 0, 2, 5, 0, 0, 0, 0, 2, 10, 2] (.b [0, 1, 0, 1, 2, 8, 1, 1, 5, 2] (.b [0, 1, 1, 9, 0, 1, 2, 3, 4] .n [1, 1, 3, 3, 4, 0, 0, 3, 0, 2, 12, 0, 0, 0, 0, 0, 0, 0, 2, 9, 8, 8, 8, 8, 0, 0, 3, 0, 2, 5, 0, 0, 0, 0, 2, 10, 2] (.b [0, 1, 0, 1, 2, 8, 1, 1, 5, 0, 0, 1, 1, 10, 0, 1, 2, 3, 4] .n [3, 0, 2, 2, 11, 2, 2, 2, 0, 0, 1, 0, 1, 2, 8, 1, 1, 5, 0, 0, 1, 1, 10, 0, 1, 2, 3, 4] .n)) [3, 0, 2, 2, 11, 2, 2, 2, 0, 0, 1, 0, 1, 2, 8, 1, 1, 5, 2] (.b [0, 1, 1, 9, 0, 1, 2, 3, 4] .n [1, 1, 3, 3, 4, 0, 0, 3, 0, 2, 12, 0, 0, 0, 0, 0, 0, 0, 2, 9, 8, 8, 8, 8, 0, 0, 3, 0, 2, 5, 0, 0, 0, 0, 2, 10, 2] (.b [0, 1, 0, 1, 2, 8, 1, 1, 5, 0, 0, 1, 1, 10, 0, 1, 2, 3, 4] .n [3, 0, 2, 2, 11, 2, 2, 2, 0, 0, 1, 0, 1, 2, 8, 1, 1, 5, 0, 0, 1, 1, 10, 0, 1, 2, 3, 4] .n)))))), ρ⟩ (leafC F)
noncomputable def v_kct (w : World) (x T : Nat) (C : KB) (F : KF Flow) (ρ : Stream) : VT := kcD w x T C F 3 0 [] 0
theorem e_kct (w : World) (x T : Nat) (C : KB) (F : KF Flow) (ρ : Stream) (b0 : Bool) : EqV (q_kct ((w.withFollow "comprehension-iter-twice" true).withFollow "special-get-raises" b0) w x T C F ρ) (v_kct w x T C F ρ) := by unfold EqV; cases b0 <;> kernel_rfl
theorem k_kct (w : World) (x T : Nat) (C : KB) (h0 : w.params.followText "comprehension-iter-twice" = true) (F : KF Flow) (ρ : Stream) : EqV (q_kct w w x T C F ρ) (v_kct w x T C F ρ) := by
  have e := e_kct w x T C F ρ
  rw [wf_eq h0] at e
  exact row1 (P := fun W => EqV (q_kct W w x T C F ρ) (v_kct w x T C F ρ)) "special-get-raises" e
noncomputable def q_kcf (W : World) (w : World) (x T : Nat) (C : KB) (F : KF Flow) (ρ : Stream) : VT := (ex ⟨PR, W.params⟩ (mkZ w []) 1500).c 12 (.compStart (kcX w) 0 (.ref (C.it + 214)) (.ref (C.ac + 214)) (kcEnv w (C.lo + 214) (C.ce + 214) (C.lc + 214))) [0, 1, 1, 0, 1, 0, 1, 0, 1, 0, 1, 2, 8, 1, 1, 5, 2] ⟨[C.it + 214, C.ac + 214, C.lc + 214, C.ce + 214, C.cl + 214], [itO (C.cl + 214) 0, lst [] 0, { cls := .type "dict", data := .dict #[] 0 }, pCell (some (.str C.p C.t)), lst C.dirs C.dep], (x + 214), 0, T, 0, (.b [0, 1, 1, 7, 0, 1, 2, 3, 4] .n [1, 1, 3, 3, 4, 0, 0, 3, 0, 2, 12, 0, 0, 0, 0, 0, 0, 0, 2, 9, 6, 6, 6, 6, 0, 0, 3, 0, 2, 5, 0, 0, 0, 0, 2, 10, 2] (.b [0, 1, 0, 1, 2, 8, 1, 1, 5, 2] (.b [0, 1, 1, 8, 0, 1, 2, 3, 4] .n [1, 1, 3, 3, 4, 0, 0, 3, 0, 2, 12, 0, 0, 0, 0, 0, 0, 0, 2, 9, 7, 7, 7, 7, 0, 0, 3, 0, 2, 5, 0, 0, 0, 0, 2, 10, 2] (.b [0, 1, 0, 1, 2, 8, 1, 1, 5, 2] (.b [0, 1, 1, 9, 0, 1, 2, 3, 4] .n [1, 1, 3, 3, 4, 0, 0, 3, 0, 2, 12, 0, 0, 0, 0, 0, 0, 0, 2, 9, 8, 8, 8, 8, 0, 0, 3, 0, 2, 5, 0, 0, 0, 0, 2, 10, 2] (.b [0, 1, 0, 1, 2, 8, 1, 1, 5, 0, 0, 1, 1, 10, 0, 1, 2, 3, 4] .n [3, 0, 2, 2, 11, 2, 2, 2, 0, 0, 1, 0, 1, 2, 8, 1, 1, 5, 0, 0, 1, 1, 10, 0, 1, 2, 3, 4] .n)) [3, 0, 2, 2, 11, 2, 2, 2, 0, 0, 1, 0, 1, 2, 8, 1, 1, 5, 2] (.b [0, 1, 1, 9, 0, 1, 2, 3, 4] .n [1, 1, 3, 3, 4, 0, 0, 3, 0, 2, 12, 0, 0, 0, 0, 0, 0, 0, 2, 9, 8, 8, 8, 8, 0, 0, 3, 0, 2, 5, 0, 0, 0, 0, 2, 10, 2] (.b [0, 1, 0, 1, 2, 8, 1, 1, 5, 0, 0, 1, 1, 10, 0, 1, 2, 3, 4] .n [3, 0, 2, 2, 11, 2, 2, 2, 0, 0, 1, 0, 1, 2, 8, 1, 1, 5, 0, 0, 1, 1, 10, 0, 1, 2, 3, 4] .n)))) [3, 0, 2, 2, 11, 2, 2, 2, 0, 0, 1, 0, 1, 2, 8, 1, 1, 5, 2] (.b [0, 1, 1, 8, 0, 1, 2, 3, 4] .n [1, 1, 3, 3, 4, 0, 0, 3, 0, 2, 12, 0, 0, 0, 0, 0, 0, 0, 2, 9, 7, 7, 7, 7, 0, 0, 3, 0, 2, 5, 0, 0, 0, 0, 2, 10, 2] (.b [0, 1, 0, 1, 2, 8, 1, 1, 5, 2] (.b [0, 1, 1, 9, 0, 1, 2, 3, 4] .n [1, 1, 3, 3, 4, 0, 0, 3, 0, 2, 12, 0, 0, 0, 0, 0, 0, 0, 2, 9, 8, 8, 8, 8, 0, 0, 3, 0, 2, 5, 0, 0, 0, 0, 2, 10, 2] (.b [0, 1, 0, 1, 2, 8, 1, 1, 5, 0, 0, 1, 1, 10, 0, 1, 2, 3, 4] .n [3, 0, 2, 2, 11, 2, 2, 2, 0, 0, 1, 0, 1, 2, 8, 1, 1, 5, 0, 0, 1, 1, 10, 0, 1, 2, 3, 4] .n)) [3, 0, 2, 2, 11, 2, 2, 2, 0, 0, 1, 0, 1, 2, 8, 1, 1, 5, 2] (.b [0, 1, 1, 9, 0, 1, 2, 3, 4] .n [1, 1, 3, 3, 4, 0, 0, 3, 0, 2, 12, 0, 0, 0, 0, 0, 0, 0, 2, 9, 8, 8, 8, 8, 0, 0, 3, 0, 2, 5, 0, 0, 0, 0, 2, 10, 2] (.b [0, 1, 0, 1, 2, 8, 1, 1, 5, 0, 0, 1, 1, 10, 0, 1, 2, 3, 4] .n [3, 0, 2, 2, 11, 2, 2, 2, 0, 0, 1, 0, 1, 2, 8, 1, 1, 5, 0, 0, 1, 1, 10, 0, 1, 2, 3, 4] .n)))))), ρ⟩ (leafC F)
noncomputable def v_kcf (w : World) (x T : Nat) (C : KB) (F : KF Flow) (ρ : Stream) : VT := kcD w x T C F 3 0 [] 0
theorem e_kcf (w : World) (x T : Nat) (C : KB) (F : KF Flow) (ρ : Stream) (b0 : Bool) : EqV (q_kcf ((w.withFollow "comprehension-iter-twice" false).withFollow "special-get-raises" b0) w x T C F ρ) (v_kcf w x T C F ρ) := by unfold EqV; cases b0 <;> kernel_rfl
theorem k_kcf (w : World) (x T : Nat) (C : KB) (h0 : w.params.followText "comprehension-iter-twice" = false) (F : KF Flow) (ρ : Stream) : EqV (q_kcf w w x T C F ρ) (v_kcf w x T C F ρ) := by
  have e := e_kcf w x T C F ρ
  rw [wf_eq h0] at e
  exact row1 (P := fun W => EqV (q_kcf W w x T C F ρ) (v_kcf w x T C F ρ)) "special-get-raises" e
noncomputable def seqL (o : Obj) : List Value := match o.data with
  | .seq xs _ => xs.toList
  | _ => []
noncomputable def entsO (o : Obj) : Array DictEntry := match o.data with
  | .dict es _ => es
  | _ => #[]
noncomputable def epO (o : Obj) : Nat := match o.data with
  | .dict _ n => n
  | _ => 0
noncomputable def dictO (o : Obj) : Obj := { cls := .type "dict", data := .dict (entsO o) (epO o) }
noncomputable def kcOk (p d : Str) : Bool := (kcCl p d).all fun e => e.1 == e.2
noncomputable def kcNs (w : World) (z : Bool) (T : Nat) (v : Value) : Obj := @Bool.rec (fun _ => Obj) { cls := .type "dict", data := .dict #[] 0 } { cls := .type "dict", data := .dict #[en w "one" T v] 1 } z
noncomputable def zKC (w : World) (C : KB) (dl : List (Str × Tok)) (z : Bool) : Summ where
  code := .compStart (kcX w) 0 (.ref (C.it + 214)) (.ref (C.ac + 214)) (kcEnv w (C.lo + 214) (C.ce + 214) (C.lc + 214))
  pre := [C.it + 214, C.ac + 214, C.lc + 214, C.ce + 214, C.cl + 214]
  objs := [itO (C.cl + 214) 0, lst [] 0, { cls := .type "dict", data := .dict #[] 0 }, pCell (some (.str C.p C.t)), lst C.dirs C.dep]
  P := C.dirs = dvals dl ∧ (∀ d ∈ dl, kcOk C.p d.1 = true) ∧ dl.length ≤ 3 ∧ dl.isEmpty = !z
  k := 7
  b := dl.any fun d => kcHit C.p d.1
  F := fun b xs => ⟨.ok .next, [gO 0 xs, @Bool.rec (fun _ => Obj) (lst [] 0) (lst (gV 1 xs :: seqL (gO 2 xs)) (gx 3 xs)) b, kcNs w z (gx 4 xs) (gV 4 xs), pCell (some (.str C.p C.t)), lst C.dirs C.dep], [], gx 5 xs + 214, gx 6 xs⟩
section
variable {w : World} {x T : Nat} {C : KB} {F : KF Flow}
theorem kc_h {dl : List (Str × Tok)} (hd : C.dirs = dvals dl) (ok : ∀ d ∈ dl, kcOk C.p d.1 = true) (lf : ∀ i acc e, i = dl.length → ((acc = [] ∧ e = 0 ∧ (dl.any fun d => kcHit C.p d.1) = false) ∨ (acc ≠ [] ∧ (dl.any fun d => kcHit C.p d.1) = true)) → (kcLf w x T C F i acc e).Holds) :
    ∀ (n i : Nat) (acc : List Value) (e : Nat), dl.length ≤ i + n → i ≤ dl.length → ((acc = [] ∧ e = 0 ∧ ((dl.take i).any fun d => kcHit C.p d.1) = false) ∨ (acc ≠ [] ∧ ((dl.take i).any fun d => kcHit C.p d.1) = true)) → (kcD w x T C F n i acc e).Holds := by
  have gt := dvals_get dl
  rw [← hd] at gt
  have fin : ∀ i acc e, dl.length ≤ i → i ≤ dl.length → ((acc = [] ∧ e = 0 ∧ ((dl.take i).any fun d => kcHit C.p d.1) = false) ∨ (acc ≠ [] ∧ ((dl.take i).any fun d => kcHit C.p d.1) = true)) → (kcLf w x T C F i acc e).Holds := by
    intro i acc e hl hi h
    rw [List.take_of_length_le hl] at h
    exact lf i acc e (Nat.le_antisymm hi hl) h
  intro n
  induction n with
  | zero =>
    intro i acc e hl hil h
    have e1 : C.at i = none := by
      unfold KB.at
      rw [gt, List.getElem?_eq_none (by omega)]
      rfl
    show (chain [(isStrO (C.at i), false), ((C.at i).isSome, false)] (kcLf w x T C F i acc e)).Holds
    rw [e1]
    exact chain_h rfl (fin i acc e (by omega) hil h)
  | succ n ih =>
    intro i acc e hl hil h
    show (VT.dec (isStrO (C.at i)) (chain [((C.at i).isSome, false)] (kcLf w x T C F i acc e))
      (chain (kcCl C.p (strO (C.at i))) (.dec (kcHit C.p (strO (C.at i))) (kcD w x T C F n (i + 1) acc e) (chain [(false, false)] (kcD w x T C F n (i + 1) (acc ++ [.str (strO (C.at i)) (tokS (C.at i))]) (e + 1)))))).Holds
    cases hi : dl[i]? with
    | none =>
      have e1 : C.at i = none := by unfold KB.at; rw [gt, hi]; rfl
      rw [e1]
      exact ⟨fun _ => chain_h rfl (fin i acc e (List.getElem?_eq_none_iff.mp hi) hil h), fun q => absurd (show false = true from q) Bool.false_ne_true⟩
    | some d =>
      have e1 : C.at i = some (.str d.1 d.2) := by unfold KB.at; rw [gt, hi]; rfl
      rw [e1]
      have hm := List.mem_of_getElem? hi
      have hlt : i < dl.length := (List.getElem?_eq_some_iff.mp hi).1
      have et : dl.take (i + 1) = dl.take i ++ [d] := by rw [List.take_succ, hi]; rfl
      refine ⟨fun q => absurd (show true = false from q).symm Bool.false_ne_true, fun _ => chain_h (ok d hm) ⟨fun q => ih _ _ _ (by omega) (by omega) ?_, fun q => chain_h rfl (ih _ _ _ (by omega) (by omega) (.inr ⟨by simp, ?_⟩))⟩⟩
      · have q' : kcHit C.p d.1 = false := q
        rw [et, List.any_append, List.any_cons, q', List.any_nil, Bool.or_false, Bool.or_false]
        exact h
      · have q' : kcHit C.p d.1 = true := q
        rw [et, List.any_append, List.any_cons, q', Bool.true_or, Bool.or_true]
theorem zKC_ok {dl : List (Str × Tok)} {z : Bool} : SummOk w (zKC w C dl z) 60 := by
  intro ⟨hd', ok, hl, hz⟩ A s R ha hd hu hK hL hB hn hat h
  obtain ⟨x, hx⟩ : ∃ x, s.heap.objs.size = x + 214 := ⟨s.heap.objs.size - 214, by omega⟩
  have rn : Rn w (mkZ w []) 0 _ _ s := (Bs.mk hK hL hB).rn sums_nil hat hn
  have rm : Room 0 A 12 := room_of ha hd hu (by omega)
  have main : ∀ ρ : Stream, (kcD w x s.toks C (endF s [C.it + 214, C.ac + 214, C.lc + 214, C.ce + 214, C.cl + 214] R) 3 0 [] 0).Holds := fun ρ => by
    refine kc_h hd' ok (fun i acc e hi hc => ?_) 3 0 [] 0 (by omega) (by omega) (.inl ⟨rfl, rfl, rfl⟩)
    intro h' E
    obtain ⟨v, ev⟩ : ∃ v, kcLo w s.toks C i = kcNs w z s.toks v := by
      cases dl with
      | nil => cases z with
        | false => subst hi; exact ⟨.none, rfl⟩
        | true => cases hz
      | cons d r => cases z with
        | false => cases hz
        | true => subst hi; exact ⟨_, rfl⟩
    rw [ev] at E
    rcases hc with ⟨rfl, rfl, hb⟩ | ⟨hne, hb⟩
    · have hb' : (zKC w C dl z).b = false := hb
      rw [hb'] at h
      exact h [⟨0, _, default⟩, dn 0, dn 0, dn 0, ⟨s.toks, default, v⟩, dn _, dn _] h' rfl (E.out hB rfl rfl)
    · have hb' : (zKC w C dl z).b = true := hb
      rw [hb'] at h
      obtain ⟨u, r, rfl⟩ := List.exists_cons_of_ne_nil hne
      exact h [⟨0, _, default⟩, ⟨0, default, u⟩, ⟨0, lst r 0, default⟩, dn e, ⟨s.toks, default, v⟩, dn _, dn _] h' rfl (E.out hB rfl rfl)
  cases hi : w.params.followText "comprehension-iter-twice" with
  | true => exact run_code (V := v_kct w x s.toks C) rn rm hx (k_kct w x s.toks C hi) main
  | false => exact run_code (V := v_kcf w x s.toks C) rn rm hx (k_kcf w x s.toks C hi) main
end
end Mine
-- X7
namespace Mine
noncomputable section
noncomputable def mCm (c : Code) : Option (Nat × Nat × Nat) := match c with
  | .compStart _ _ (.ref it) (.ref ac) env => some (it, ac, env.locals)
  | _ => none
noncomputable def zKT (w : World) (lo ce cl t dep : Nat) (p : Str) (dl : List (Str × Tok)) (z : Bool) : Code → Option Summ := fun c => (mCm c).map fun q =>
  { code := .compStart (kcX w) 0 (.ref q.1) (.ref q.2.1) (kcEnv w (lo + 214) (ce + 214) q.2.2)
    pre := [q.1, q.2.1, q.2.2, ce + 214, cl + 214]
    objs := [itO (cl + 214) 0, lst [] 0, { cls := .type "dict", data := .dict #[] 0 }, pCell (some (.str p t)), lst (dvals dl) dep]
    P := (214 ≤ q.1 ∧ 214 ≤ q.2.1 ∧ 214 ≤ q.2.2) ∧ (∀ d ∈ dl, kcOk p d.1 = true) ∧ dl.length ≤ 3 ∧ dl.isEmpty = !z
    k := 7
    b := dl.any fun d => kcHit p d.1
    F := fun b xs => ⟨.ok .next, [gO 0 xs, @Bool.rec (fun _ => Obj) (lst [] 0) (lst (gV 1 xs :: seqL (gO 2 xs)) (gx 3 xs)) b, kcNs w z (gx 4 xs) (gV 4 xs), pCell (some (.str p t)), lst (dvals dl) dep], [], gx 5 xs + 214, gx 6 xs⟩ }
theorem zKT_ok (w : World) (lo ce cl t dep : Nat) (p : Str) (dl : List (Str × Tok)) (z : Bool) : SumOk w (zKT w lo ce cl t dep p dl z) 60 := by
  intro c z e
  obtain ⟨⟨it, ac, lc⟩, e1, e2⟩ := Option.map_eq_some_iff.mp e
  subst e2
  intro ⟨⟨h1, h2, h3⟩, ok, hl, hz⟩
  obtain ⟨it', rfl⟩ : ∃ y, it = y + 214 := ⟨it - 214, by have : 214 ≤ it := h1; omega⟩
  obtain ⟨ac', rfl⟩ : ∃ y, ac = y + 214 := ⟨ac - 214, by have : 214 ≤ ac := h2; omega⟩
  obtain ⟨lc', rfl⟩ : ∃ y, lc = y + 214 := ⟨lc - 214, by have : 214 ≤ lc := h3; omega⟩
  exact zKC_ok (w := w) (C := ⟨lo, it', ac', lc', ce, cl, t, dep, p, dvals dl⟩) (dl := dl) (z := z) ⟨rfl, ok, hl, hz⟩
end
end Mine
-- X8
namespace Mine
noncomputable section
variable (w : World) (V : KV) (k : Nat) (F : KF PySem.Fin) (ko : Nat × Obj) (ρ : Stream)
noncomputable def kpSpl (p : Str) (ts : List Nat) : List Value := dvals ((spL p).zip ts)
noncomputable def kpTs : List Nat := [(ρ 3).n, (ρ 4).n, (ρ 5).n, (ρ 6).n]
noncomputable def kpLast (p : Str) (ts : List Nat) : Option (Nat × Value) := lgetP (Int.negSucc 0) (Array.mk (kpSpl p ts))
noncomputable def kpNm (p : Str) (ts : List Nat) : Str := sliceS (strP (kpLast p ts)) none (some (-3 : Int)) 1
noncomputable def kpAll (es : Array DictEntry) : Bool := Array.all es (fun e => isExactStrKey e.key) 0 es.size
noncomputable def kpRd (es : Array DictEntry) (nm : Str) : Option Value := Option.map (fun x => x.val) (getElem? es ((kIdx es nm).getD 0))
noncomputable def kpLp : Code := kpLoop w (V.lo + 214) (V.ce + 214) (V.it + 214)
noncomputable def kpBl : Code := .block (forE (kpFor w)) (kpEnv w (V.lo + 214) (V.ce + 214))
noncomputable def kpPl (fr : Obj) (c : Option Value) (it : Obj) (es : Array DictEntry) (kdp kl : Nat) (ks : Array Value) (kep : Nat) : List (Nat × Obj) :=
  [(V.lo + 214, fr), (V.ce + 214, pCell c), (V.it + 214, it), (V.ps + 214, lstA V.items V.ep), (V.kd + 214, dObj es kdp), (kl, lstA ks kep), (V.cl + 214, lst (dvals V.dl) V.dep)]
noncomputable def kpLf (t5 : Nat) (nm : Value) (es : Array DictEntry) (kdp : Nat) (ks : Array Value) (a t : Nat) : VT :=
  .leaf (F (.ok (.again (kpLp w V))) (a + 1) t (kpPl V (kp6 w V t5 a nm) (some (V.pv k)) (itO (V.ps + 214) (k + 1)) es kdp a ks 0 ++ [ko]))
noncomputable def kpRb (rd : Option Value) (t5 : Nat) (nm : Value) (es : Array DictEntry) (kdp : Nat) (ks : Array Value) (a t : Nat) (b : Bool) : VT := @Bool.rec (fun _ => VT)
  (chain [(boolT rd, false), (boolF rd, true), (decide (Array.size (ks ++ #[V.pv k]) > 16777216), false)] (kpLf w V k F ko t5 nm es kdp (ks ++ #[V.pv k]) a t))
  (chain [(boolT rd, true), (decide (Array.size (ks ++ #[]) > 16777216), false)] (kpLf w V k F ko t5 nm es kdp (ks ++ #[]) a t)) b
noncomputable def kpSt (t5 : Nat) (nm : Str) (tn : Nat) (es : Array DictEntry) (kdp : Nat) (ks : Array Value) (a t : Nat) (b : Bool) : VT :=
  chain [(kpAll es, true), ((kIdx es nm).isSome, false), (decide (Array.size (es.push ⟨hashStr w nm, .str nm tn, .bool b⟩) > 16777217), false), (kpAll (es.push ⟨hashStr w nm, .str nm tn, .bool b⟩), true), ((kIdx (es.push ⟨hashStr w nm, .str nm tn, .bool b⟩) nm).isSome, true)]
    (kpRb w V k F ko (kpRd (es.push ⟨hashStr w nm, .str nm tn, .bool b⟩) nm) t5 (.str nm tn) (es.push ⟨hashStr w nm, .str nm tn, .bool b⟩) (kdp + 1) ks a t b)
noncomputable def kpCm (z : Bool) (t5 : Nat) (nm : Str) (tn : Nat) (es : Array DictEntry) (kdp : Nat) (ks : Array Value) : VT :=
  .claim ((214 ≤ (ρ 1).n + 214 + 2 ∧ 214 ≤ (ρ 1).n + 214 + 3 ∧ 214 ≤ (ρ 1).n + 214 + 4) ∧ (∀ d ∈ V.dl, kcOk (V.p k) d.1 = true) ∧ V.dl.length ≤ 3 ∧ V.dl.isEmpty = !z)
    (.dec (V.dl.any fun d => kcHit (V.p k) d.1) (kpSt w V k F ko t5 nm tn es kdp ks ((ρ 12).n + 214 + 4) ((ρ 13).n + 4) false) (kpSt w V k F ko t5 nm tn es kdp ks ((ρ 12).n + 214 + 4) ((ρ 13).n + 4) true))
noncomputable def kpDot : Str := V.md ++ Str.ofString "."
noncomputable def kpMd : List (Bool × Bool) := [(V.md.length == 0, false), (false, false), (decide ((kpDot V).length > 16777216), false)]
noncomputable def kpPre (nm : Str) : Str := sliceS nm none (some ((Nat.cast V.md.length) + (1 : Int))) 1
noncomputable def kpWh (nm : Str) : Bool := (1 : Int) == 1 && (sliceP nm none (some ((Nat.cast V.md.length) + (1 : Int))) 1).length == nm.length
noncomputable def kpNew (z : Bool) (t5 : Nat) (nm : Str) (tn : Nat) (es : Array DictEntry) (kdp : Nat) (ks : Array Value) (d : Nat) : VT :=
  .dec (strEqB nm V.md)
    (chain [(false, false), (decide ((Nat.cast V.md.length : Int) ≥ (2 : Int) ^ 63), false)] (.dec (kpWh V nm)
      (chain ((decide ((kpPre V nm).length > 16777216), false) :: kpMd V) (.dec (strEqB (kpPre V nm) (kpDot V)) (kpCm w V k F ko ρ z t5 nm tn es kdp ks) (kpSt w V k F ko t5 nm tn es kdp ks ((ρ 1).n + 214 + 5) ((ρ 2).n + (18 + d)) true)))
      (chain (kpMd V) (.dec (strEqB nm (kpDot V)) (kpCm w V k F ko ρ z t5 nm tn es kdp ks) (kpSt w V k F ko t5 nm tn es kdp ks ((ρ 1).n + 214 + 5) ((ρ 2).n + (17 + d)) true)))))
    (kpSt w V k F ko t5 nm tn es kdp ks ((ρ 1).n + 214 + 4) ((ρ 2).n + (11 + d)) true)
noncomputable def kpHad (t5 : Nat) (nm : Str) (tn : Nat) (es : Array DictEntry) (kdp : Nat) (ks : Array Value) (d : Nat) : VT :=
  chain [((kpRd es nm).isSome, true), (kpAll es, true), ((kIdx es nm).isSome, true)] (.dec (boolT (kpRd es nm))
    (chain [(boolF (kpRd es nm), true), (decide (Array.size (ks ++ #[V.pv k]) > 16777216), false)] (kpLf w V k F ko t5 (.str nm tn) es kdp (ks ++ #[V.pv k]) ((ρ 1).n + 214 + 4) ((ρ 2).n + (10 + d))))
    (chain [(decide (Array.size (ks ++ #[]) > 16777216), false)] (kpLf w V k F ko t5 (.str nm tn) es kdp (ks ++ #[]) ((ρ 1).n + 214 + 4) ((ρ 2).n + (10 + d)))))
noncomputable def kpTurn (fr : Obj) (c : Option Value) (n0 t0 kl kep : Nat) (z : Bool) (t5 : Nat) (es : Array DictEntry) (kdp : Nat) (ks : Array Value) (d : Nat) : VT :=
  .dec (isStrO (V.q k)) (chain [((V.q k).isSome, false)] (.leaf (F (.ok (.again (kpBl w V))) n0 t0 (kpPl V fr c { cls := .type "list_iterator", data := .fields #[.none, .int (k : Nat) 0] } es kdp (kl + 214) ks kep))))
    (.claim (isPth (V.p k) = true ∧ Str.ofString "/" = Str.ofString "/") (chain [(true, true), (isStrP (kpLast (V.p k) (kpTs ρ)), true), ((1 : Int) == 1 && (sliceP (strP (kpLast (V.p k) (kpTs ρ))) none (some (-3 : Int)) 1).length == (strP (kpLast (V.p k) (kpTs ρ))).length, false),
        (decide ((kpNm (V.p k) (kpTs ρ)).length > 16777216), false), (kpAll es, true)]
      (.dec (kIdx es (kpNm (V.p k) (kpTs ρ))).isSome (chain [(false, false)] (kpNew w V k F (kl + 214, lstA ks kep) ρ z t5 (kpNm (V.p k) (kpTs ρ)) ((ρ 2).n + 4) es kdp ks d)) (kpHad w V k F (kl + 214, lstA ks kep) ρ t5 (kpNm (V.p k) (kpTs ρ)) ((ρ 2).n + 4) es kdp ks d))))
end
end Mine
-- F9
set_option maxHeartbeats 0
namespace Mine
noncomputable def q_kp0 (W : World) (w : World) (x T : Nat) (z : Bool) (V : KV) (kl : Nat) (k : Nat) (kdp : Nat) (kep : Nat) (es : Array DictEntry) (ks : Array Value) (F : KF PySem.Fin) (ρ : Stream) : VT := (ex ⟨PR, W.params⟩ (mkZ w [zSP, (zKT w V.lo V.ce V.cl (tokS (V.q k)) V.dep (V.p k) V.dl z)]) 2500).s PySem.Fin 20 (turnX 4 (kpLoop w (V.lo + 214) (V.ce + 214) (V.it + 214))) [3, 0, 3, 2, 8, 3, 3, 4, 2] ⟨[V.lo + 214, V.ce + 214, V.it + 214, V.ps + 214, V.kd + 214, kl + 214, V.cl + 214], [kp5 w V (kl + 214), pCell none, itO (V.ps + 214) k, lstA V.items V.ep, dObj es kdp, lstA ks kep, lst (dvals V.dl) V.dep], (x + 214), 0, T, 0, (.b ([0] ++ [3, 3, 9, 0, 1, 2, 3, 4, 5, 6]) .n ([3, 3, 2, 2, 2, 3, 0, 1, 0, 0, 8, 8, 8, 0, 8, 2, 13, 8, 1] ++ ([0, 0, 0, 0, 2, 9, 9, 9, 9, 9, 0] ++ ([0] ++ ([1, 1, 1, 1, 5, 5, 0, 5, 2, 0, 0, 0, 5, 1] ++ [2])))) (.b [0, 1, 1, 0, 2, 10, 2] (.b [1, 0, 0, 1, 0, 2, 12, 0, 0, 0, 0, 0, 0, 0, 2, 9, 10, 10, 10, 10, 2] (.b ([0] ++ [1, 0, 2, 5, 0, 0, 0, 0, 2, 10, 2]) (.b [1, 7, 7, 0, 7, 0, 11, 3, 1, 10, 11, 12, 1, 6, 2] (.b ((@Bool.rec (fun _ => List Nat) [13, 12, 14, 12, 0, 12, 0, 14, 12, 14, 0, 12, 14, 12, 14, 1, 1, 5, 5, 0, 5, 2, 2, 5, 0, 0, 5, 1] [13, 13, 13, 12, 14, 12, 0, 12, 0, 14, 12, 14, 0, 12, 14, 12, 14, 1, 1, 5, 5, 0, 5, 2, 2, 5, 0, 0, 5, 1] z) ++ ([0] ++ ([5, 5, 5, 0] ++ ([1, 2, 1, 1, 5, 5, 5, 0, 5, 2, 21, 0, 0, 5, 1] ++ ([1] ++ ([5, 5, 5, 0] ++ ([1] ++ ([15, 15, 15, 0, 15, 0, 16, 16, 16, 16, 16, 15, 0, 6, 17, 6, 0, 6, 2, 7, 17, 6, 17, 0] ++ [1, 1, 0, 1, 2, 3, 4, 17, 6, 5])))))))) .n ((@Bool.rec (fun _ => List Nat) [13, 12, 14, 12, 0, 12, 0, 14, 12, 14, 1, 1, 5, 5, 0, 5, 2, 2, 5, 0, 0, 5, 1] [13, 13, 13, 12, 14, 12, 0, 12, 0, 14, 12, 14, 1, 1, 5, 5, 0, 5, 2, 2, 5, 0, 0, 5, 1] z) ++ ([0] ++ ([5, 5, 5, 0] ++ ([1, 2, 1, 1, 5, 5, 5, 0, 5, 2, 21, 0, 0, 5, 1] ++ ([1] ++ ([5, 5, 5, 1] ++ ([15, 15, 15, 0, 15, 0, 16, 16, 16, 16, 16, 15, 0, 6, 17, 6, 0, 6, 2, 7, 17, 6, 17, 0] ++ [1, 1, 0, 1, 2, 3, 4, 17, 6, 5]))))))) .n) ([1, 1, 5, 5, 0, 5, 2, 2, 5, 0, 0, 5, 1] ++ ([0] ++ ([5, 5, 5, 0] ++ ([1, 2, 1, 1, 5, 5, 5, 0, 5, 2, 21, 0, 0, 5, 1] ++ ([1] ++ ([5, 5, 5, 1] ++ ([11, 11, 11, 0, 11, 0, 12, 12, 12, 12, 12, 11, 0, 6, 13, 6, 0, 6, 2, 7, 13, 6, 13, 0] ++ [1, 1, 0, 1, 2, 3, 4, 13, 6, 5]))))))) .n) [1, 0, 2, 5, 0, 0, 0, 0, 2, 10, 2] (.b [1, 7, 7, 0, 7, 0, 11, 3, 1, 10, 11, 12, 1, 6, 2] (.b ((@Bool.rec (fun _ => List Nat) [13, 12, 14, 12, 0, 12, 0, 14, 12, 14, 0, 12, 14, 12, 14, 1, 1, 5, 5, 0, 5, 2, 2, 5, 0, 0, 5, 1] [13, 13, 13, 12, 14, 12, 0, 12, 0, 14, 12, 14, 0, 12, 14, 12, 14, 1, 1, 5, 5, 0, 5, 2, 2, 5, 0, 0, 5, 1] z) ++ ([0] ++ ([5, 5, 5, 0] ++ ([1, 2, 1, 1, 5, 5, 5, 0, 5, 2, 21, 0, 0, 5, 1] ++ ([1] ++ ([5, 5, 5, 0] ++ ([1] ++ ([15, 15, 15, 0, 15, 0, 16, 16, 16, 16, 16, 15, 0, 6, 17, 6, 0, 6, 2, 7, 17, 6, 17, 0] ++ [1, 1, 0, 1, 2, 3, 4, 17, 6, 5])))))))) .n ((@Bool.rec (fun _ => List Nat) [13, 12, 14, 12, 0, 12, 0, 14, 12, 14, 1, 1, 5, 5, 0, 5, 2, 2, 5, 0, 0, 5, 1] [13, 13, 13, 12, 14, 12, 0, 12, 0, 14, 12, 14, 1, 1, 5, 5, 0, 5, 2, 2, 5, 0, 0, 5, 1] z) ++ ([0] ++ ([5, 5, 5, 0] ++ ([1, 2, 1, 1, 5, 5, 5, 0, 5, 2, 21, 0, 0, 5, 1] ++ ([1] ++ ([5, 5, 5, 1] ++ ([15, 15, 15, 0, 15, 0, 16, 16, 16, 16, 16, 15, 0, 6, 17, 6, 0, 6, 2, 7, 17, 6, 17, 0] ++ [1, 1, 0, 1, 2, 3, 4, 17, 6, 5]))))))) .n) ([1, 1, 5, 5, 0, 5, 2, 2, 5, 0, 0, 5, 1] ++ ([0] ++ ([5, 5, 5, 0] ++ ([1, 2, 1, 1, 5, 5, 5, 0, 5, 2, 21, 0, 0, 5, 1] ++ ([1] ++ ([5, 5, 5, 1] ++ ([11, 11, 11, 0, 11, 0, 12, 12, 12, 12, 12, 11, 0, 6, 13, 6, 0, 6, 2, 7, 13, 6, 13, 0] ++ [1, 1, 0, 1, 2, 3, 4, 13, 6, 5]))))))) .n)) ([1, 1, 5, 5, 0, 5, 2, 2, 5, 0, 0, 5, 1] ++ ([0] ++ ([5, 5, 5, 0] ++ ([1, 2, 1, 1, 5, 5, 5, 0, 5, 2, 21, 0, 0, 5, 1] ++ ([1] ++ ([5, 5, 5, 1] ++ ([10, 10, 10, 0, 10, 0, 11, 11, 11, 11, 11, 10, 0, 6, 12, 6, 0, 6, 2, 7, 12, 6, 12, 0] ++ [1, 1, 0, 1, 2, 3, 4, 12, 6, 5]))))))) .n) ([5, 5, 5, 1] ++ ([1, 2, 1, 1, 5, 5, 5, 0, 5, 2, 21, 0, 0, 5, 1] ++ ([1] ++ [5, 5, 5, 2]))) (.b ([1] ++ ([10, 10, 10, 0, 10, 0, 11, 11, 11, 11, 11, 10, 0, 6, 12, 6, 0, 6, 2, 7, 12, 6, 12, 0] ++ [1, 1, 0, 1, 2, 3, 4, 12, 6, 5])) .n ([10, 10, 10, 0, 10, 0, 11, 11, 11, 11, 11, 10, 0, 6, 12, 6, 0, 6, 2, 7, 12, 6, 12, 0] ++ [1, 1, 0, 1, 2, 3, 4, 12, 6, 5]) .n))), ρ⟩ (leafS F)
noncomputable def v_kp0 (w : World) (x T : Nat) (z : Bool) (V : KV) (kl : Nat) (k : Nat) (kdp : Nat) (kep : Nat) (es : Array DictEntry) (ks : Array Value) (F : KF PySem.Fin) (ρ : Stream) : VT := kpTurn w V k F ρ (kp5 w V (kl + 214)) none (x + 214 + 2) T kl kep z ((ρ 2).n + 5) es kdp ks 0
theorem e_kp0 (w : World) (x T : Nat) (z : Bool) (V : KV) (kl : Nat) (k : Nat) (kdp : Nat) (kep : Nat) (es : Array DictEntry) (ks : Array Value) (F : KF PySem.Fin) (ρ : Stream) (b0 : Bool) : EqV (q_kp0 (w.withFollow "special-get-raises" b0) w x T z V kl k kdp kep es ks F ρ) (v_kp0 w x T z V kl k kdp kep es ks F ρ) := by unfold EqV; cases z <;> cases b0 <;> kernel_rfl
theorem k_kp0 (w : World) (x T : Nat) (z : Bool) (V : KV) (kl : Nat) (k : Nat) (kdp : Nat) (kep : Nat) (es : Array DictEntry) (ks : Array Value) (F : KF PySem.Fin) (ρ : Stream) : EqV (q_kp0 w w x T z V kl k kdp kep es ks F ρ) (v_kp0 w x T z V kl k kdp kep es ks F ρ) := by
  have e := e_kp0 w x T z V kl k kdp kep es ks F ρ
  exact row1 (P := fun W => EqV (q_kp0 W w x T z V kl k kdp kep es ks F ρ) (v_kp0 w x T z V kl k kdp kep es ks F ρ)) "special-get-raises" e
noncomputable def q_kp1 (W : World) (w : World) (x T : Nat) (z : Bool) (V : KV) (kl : Nat) (k : Nat) (kdp : Nat) (kep : Nat) (es : Array DictEntry) (ks : Array Value) (t5 : Nat) (nm : Value) (pv : Value) (F : KF PySem.Fin) (ρ : Stream) : VT := (ex ⟨PR, W.params⟩ (mkZ w [zSP, (zKT w V.lo V.ce V.cl (tokS (V.q k)) V.dep (V.p k) V.dl z)]) 2500).s PySem.Fin 20 (turnX 4 (kpLoop w (V.lo + 214) (V.ce + 214) (V.it + 214))) [3, 0, 3, 2, 8, 3, 3, 4, 2] ⟨[V.lo + 214, V.ce + 214, V.it + 214, V.ps + 214, V.kd + 214, kl + 214, V.cl + 214], [kp6 w V t5 (kl + 214) nm, pCell (some pv), itO (V.ps + 214) k, lstA V.items V.ep, dObj es kdp, lstA ks kep, lst (dvals V.dl) V.dep], (x + 214), 0, T, 0, (.b ([0] ++ [3, 3, 9, 0, 1, 2, 3, 4, 5, 6]) .n ([3, 3, 2, 2, 2, 3, 0, 1, 0, 0, 8, 8, 8, 0, 8, 2, 13, 8, 1] ++ ([0, 0, 0, 0, 2, 9, 9, 9, 9, 9, 0] ++ ([0] ++ ([1, 1, 1, 1, 5, 5, 0, 5, 2, 0, 0, 0, 5, 1] ++ [2])))) (.b [0, 1, 1, 0, 2, 10, 2] (.b [1, 0, 0, 1, 0, 2, 12, 0, 0, 0, 0, 0, 0, 0, 2, 9, 10, 10, 10, 10, 2] (.b ([0] ++ [1, 0, 2, 5, 0, 0, 0, 0, 2, 10, 2]) (.b [1, 7, 7, 0, 7, 0, 11, 3, 1, 10, 11, 12, 1, 6, 2] (.b ((@Bool.rec (fun _ => List Nat) [13, 12, 14, 12, 0, 12, 0, 14, 12, 14, 0, 12, 14, 12, 14, 1, 1, 5, 5, 0, 5, 2, 2, 5, 0, 0, 5, 1] [13, 13, 13, 12, 14, 12, 0, 12, 0, 14, 12, 14, 0, 12, 14, 12, 14, 1, 1, 5, 5, 0, 5, 2, 2, 5, 0, 0, 5, 1] z) ++ ([0] ++ ([5, 5, 5, 0] ++ ([1, 2, 1, 1, 5, 5, 5, 0, 5, 2, 21, 0, 0, 5, 1] ++ ([1] ++ ([5, 5, 5, 0] ++ ([1] ++ ([15, 15, 15, 0, 15, 0, 16, 16, 16, 16, 16, 15, 0, 6, 17, 6, 0, 6, 2, 7, 17, 6, 17, 0] ++ [1, 1, 0, 1, 2, 3, 4, 17, 6, 5])))))))) .n ((@Bool.rec (fun _ => List Nat) [13, 12, 14, 12, 0, 12, 0, 14, 12, 14, 1, 1, 5, 5, 0, 5, 2, 2, 5, 0, 0, 5, 1] [13, 13, 13, 12, 14, 12, 0, 12, 0, 14, 12, 14, 1, 1, 5, 5, 0, 5, 2, 2, 5, 0, 0, 5, 1] z) ++ ([0] ++ ([5, 5, 5, 0] ++ ([1, 2, 1, 1, 5, 5, 5, 0, 5, 2, 21, 0, 0, 5, 1] ++ ([1] ++ ([5, 5, 5, 1] ++ ([15, 15, 15, 0, 15, 0, 16, 16, 16, 16, 16, 15, 0, 6, 17, 6, 0, 6, 2, 7, 17, 6, 17, 0] ++ [1, 1, 0, 1, 2, 3, 4, 17, 6, 5]))))))) .n) ([1, 1, 5, 5, 0, 5, 2, 2, 5, 0, 0, 5, 1] ++ ([0] ++ ([5, 5, 5, 0] ++ ([1, 2, 1, 1, 5, 5, 5, 0, 5, 2, 21, 0, 0, 5, 1] ++ ([1] ++ ([5, 5, 5, 1] ++ ([11, 11, 11, 0, 11, 0, 12, 12, 12, 12, 12, 11, 0, 6, 13, 6, 0, 6, 2, 7, 13, 6, 13, 0] ++ [1, 1, 0, 1, 2, 3, 4, 13, 6, 5]))))))) .n) [1, 0, 2, 5, 0, 0, 0, 0, 2, 10, 2] (.b [1, 7, 7, 0, 7, 0, 11, 3, 1, 10, 11, 12, 1, 6, 2] (.b ((@Bool.rec (fun _ => List Nat) [13, 12, 14, 12, 0, 12, 0, 14, 12, 14, 0, 12, 14, 12, 14, 1, 1, 5, 5, 0, 5, 2, 2, 5, 0, 0, 5, 1] [13, 13, 13, 12, 14, 12, 0, 12, 0, 14, 12, 14, 0, 12, 14, 12, 14, 1, 1, 5, 5, 0, 5, 2, 2, 5, 0, 0, 5, 1] z) ++ ([0] ++ ([5, 5, 5, 0] ++ ([1, 2, 1, 1, 5, 5, 5, 0, 5, 2, 21, 0, 0, 5, 1] ++ ([1] ++ ([5, 5, 5, 0] ++ ([1] ++ ([15, 15, 15, 0, 15, 0, 16, 16, 16, 16, 16, 15, 0, 6, 17, 6, 0, 6, 2, 7, 17, 6, 17, 0] ++ [1, 1, 0, 1, 2, 3, 4, 17, 6, 5])))))))) .n ((@Bool.rec (fun _ => List Nat) [13, 12, 14, 12, 0, 12, 0, 14, 12, 14, 1, 1, 5, 5, 0, 5, 2, 2, 5, 0, 0, 5, 1] [13, 13, 13, 12, 14, 12, 0, 12, 0, 14, 12, 14, 1, 1, 5, 5, 0, 5, 2, 2, 5, 0, 0, 5, 1] z) ++ ([0] ++ ([5, 5, 5, 0] ++ ([1, 2, 1, 1, 5, 5, 5, 0, 5, 2, 21, 0, 0, 5, 1] ++ ([1] ++ ([5, 5, 5, 1] ++ ([15, 15, 15, 0, 15, 0, 16, 16, 16, 16, 16, 15, 0, 6, 17, 6, 0, 6, 2, 7, 17, 6, 17, 0] ++ [1, 1, 0, 1, 2, 3, 4, 17, 6, 5]))))))) .n) ([1, 1, 5, 5, 0, 5, 2, 2, 5, 0, 0, 5, 1] ++ ([0] ++ ([5, 5, 5, 0] ++ ([1, 2, 1, 1, 5, 5, 5, 0, 5, 2, 21, 0, 0, 5, 1] ++ ([1] ++ ([5, 5, 5, 1] ++ ([11, 11, 11, 0, 11, 0, 12, 12, 12, 12, 12, 11, 0, 6, 13, 6, 0, 6, 2, 7, 13, 6, 13, 0] ++ [1, 1, 0, 1, 2, 3, 4, 13, 6, 5]))))))) .n)) ([1, 1, 5, 5, 0, 5, 2, 2, 5, 0, 0, 5, 1] ++ ([0] ++ ([5, 5, 5, 0] ++ ([1, 2, 1, 1, 5, 5, 5, 0, 5, 2, 21, 0, 0, 5, 1] ++ ([1] ++ ([5, 5, 5, 1] ++ ([10, 10, 10, 0, 10, 0, 11, 11, 11, 11, 11, 10, 0, 6, 12, 6, 0, 6, 2, 7, 12, 6, 12, 0] ++ [1, 1, 0, 1, 2, 3, 4, 12, 6, 5]))))))) .n) ([5, 5, 5, 1] ++ ([1, 2, 1, 1, 5, 5, 5, 0, 5, 2, 21, 0, 0, 5, 1] ++ ([1] ++ [5, 5, 5, 2]))) (.b ([1] ++ ([10, 10, 10, 0, 10, 0, 11, 11, 11, 11, 11, 10, 0, 6, 12, 6, 0, 6, 2, 7, 12, 6, 12, 0] ++ [1, 1, 0, 1, 2, 3, 4, 12, 6, 5])) .n ([10, 10, 10, 0, 10, 0, 11, 11, 11, 11, 11, 10, 0, 6, 12, 6, 0, 6, 2, 7, 12, 6, 12, 0] ++ [1, 1, 0, 1, 2, 3, 4, 12, 6, 5]) .n))), ρ⟩ (leafS F)
noncomputable def v_kp1 (w : World) (x T : Nat) (z : Bool) (V : KV) (kl : Nat) (k : Nat) (kdp : Nat) (kep : Nat) (es : Array DictEntry) (ks : Array Value) (t5 : Nat) (nm : Value) (pv : Value) (F : KF PySem.Fin) (ρ : Stream) : VT := kpTurn w V k F ρ (kp6 w V t5 (kl + 214) nm) (some pv) (x + 214 + 2) T kl kep z t5 es kdp ks 0
theorem e_kp1 (w : World) (x T : Nat) (z : Bool) (V : KV) (kl : Nat) (k : Nat) (kdp : Nat) (kep : Nat) (es : Array DictEntry) (ks : Array Value) (t5 : Nat) (nm : Value) (pv : Value) (F : KF PySem.Fin) (ρ : Stream) (b0 : Bool) : EqV (q_kp1 (w.withFollow "special-get-raises" b0) w x T z V kl k kdp kep es ks t5 nm pv F ρ) (v_kp1 w x T z V kl k kdp kep es ks t5 nm pv F ρ) := by unfold EqV; cases z <;> cases b0 <;> kernel_rfl
theorem k_kp1 (w : World) (x T : Nat) (z : Bool) (V : KV) (kl : Nat) (k : Nat) (kdp : Nat) (kep : Nat) (es : Array DictEntry) (ks : Array Value) (t5 : Nat) (nm : Value) (pv : Value) (F : KF PySem.Fin) (ρ : Stream) : EqV (q_kp1 w w x T z V kl k kdp kep es ks t5 nm pv F ρ) (v_kp1 w x T z V kl k kdp kep es ks t5 nm pv F ρ) := by
  have e := e_kp1 w x T z V kl k kdp kep es ks t5 nm pv F ρ
  exact row1 (P := fun W => EqV (q_kp1 W w x T z V kl k kdp kep es ks t5 nm pv F ρ) (v_kp1 w x T z V kl k kdp kep es ks t5 nm pv F ρ)) "special-get-raises" e
end Mine
-- P2
namespace Mine
noncomputable def nmS (p : Str) : Str := kpNm p [0, 0, 0, 0]
structure NmOk (p : Str) (a b c d : Nat) : Prop where
  str : isStrP (kpLast p [a, b, c, d]) = true
  part : ((1 : Int) == 1 && (sliceP (strP (kpLast p [a, b, c, d])) none (some (-3 : Int)) 1).length == (strP (kpLast p [a, b, c, d])).length) = false
  nm : kpNm p [a, b, c, d] = nmS p
  len : (nmS p).length ≤ 10
theorem nm_ok {p : Str} (h : isPth p = true) (a b c d : Nat) : NmOk p a b c d := by
  rcases pth_cases h with h | h | h | h | h | h | h | h | h | h | h | h <;> subst h <;> exact ⟨by kernel_rfl, by kernel_rfl, by kernel_rfl, by decide +kernel⟩
noncomputable def BRep : List DictEntry → List (Str × Bool) → Prop
  | [], [] => True
  | e :: es, q :: kn => (∃ h t, e = ⟨h, .str q.1 t, .bool q.2⟩) ∧ BRep es kn
  | _, _ => False
noncomputable def blook (kn : List (Str × Bool)) (s : Str) : Option Bool := (kn.find? fun q => decide (q.1 = s)).map (·.2)
theorem BRep.len : ∀ {es : List DictEntry} {kn : List (Str × Bool)}, BRep es kn → es.length = kn.length
  | [], [], _ => rfl
  | _ :: _, _ :: _, H => by simp [BRep.len H.2]
  | [], _ :: _, H => H.elim
  | _ :: _, [], H => H.elim
theorem BRep.exact : ∀ {es : List DictEntry} {kn : List (Str × Bool)}, BRep es kn → (es.all fun e => isExactStrKey e.key) = true
  | [], [], _ => rfl
  | _ :: _, _ :: _, H => by
    obtain ⟨⟨h, t, rfl⟩, H2⟩ := H
    rw [List.all_cons, BRep.exact H2]
    rfl
  | [], _ :: _, H => H.elim
  | _ :: _, [], H => H.elim
theorem BRep.push : ∀ {es : List DictEntry} {kn : List (Str × Bool)}, BRep es kn → ∀ {h : Int} {s : Str} {t : Tok} {v : Bool}, BRep (es ++ [⟨h, .str s t, .bool v⟩]) (kn ++ [(s, v)])
  | [], [], _, _, _, _, _ => ⟨⟨_, _, rfl⟩, trivial⟩
  | _ :: _, _ :: _, H, _, _, _, _ => ⟨H.1, BRep.push H.2⟩
  | [], _ :: _, H, _, _, _, _ => H.elim
  | _ :: _, [], H, _, _, _, _ => H.elim
theorem bfind : ∀ {es : List DictEntry} {kn : List (Str × Bool)} {s : Str}, BRep es kn → match blook kn s with
    | none => es.findIdx? (·.key.isStr s) = none
    | some v => ∃ i, es.findIdx? (·.key.isStr s) = some i ∧ (es[i]?).map (·.val) = some (.bool v)
  | [], [], _, _ => rfl
  | e :: es, q :: kn, s, H => by
    obtain ⟨⟨h, t, rfl⟩, H2⟩ := H
    have ih := bfind (s := s) H2
    unfold blook at ih ⊢
    rw [List.find?_cons, List.findIdx?_cons]
    have hk : (Value.str q.1 t).isStr s = decide (q.1 = s) := rfl
    dsimp only
    rw [hk]
    cases hd : decide (q.1 = s) with
    | true => exact ⟨0, rfl, rfl⟩
    | false =>
      dsimp only
      split at ih
      · rename_i e
        rw [e]
        dsimp only
        rw [ih]
        rfl
      · rename_i v e
        rw [e]
        obtain ⟨i, e1, e2⟩ := ih
        exact ⟨i + 1, by simp [e1], by simpa using e2⟩
  | [], _ :: _, _, H => H.elim
  | _ :: _, [], _, H => H.elim
end Mine
-- P3
namespace Mine
theorem blook_none {es : Array DictEntry} {kn : List (Str × Bool)} {s : Str} (H : BRep es.toList kn) (e : blook kn s = none) : (kIdx es s).isSome = false := by
  have := bfind (s := s) H
  rw [e] at this
  rw [kIdx_list, this]
  rfl
theorem blook_some {es : Array DictEntry} {kn : List (Str × Bool)} {s : Str} {v : Bool} (H : BRep es.toList kn) (e : blook kn s = some v) : (kIdx es s).isSome = true ∧ kpRd es s = some (.bool v) := by
  have := bfind (s := s) H
  rw [e] at this
  obtain ⟨i, e1, e2⟩ := this
  have e3 : kIdx es s = some i := by rw [kIdx_list, e1]
  unfold kpRd
  rw [e3]
  exact ⟨rfl, by simpa using e2⟩
theorem kpAll_h {es : Array DictEntry} {kn : List (Str × Bool)} (H : BRep es.toList kn) : kpAll es = true := by
  obtain ⟨l⟩ := es
  have := BRep.exact H
  simpa [kpAll] using this
theorem BRep.size {es : Array DictEntry} {kn : List (Str × Bool)} (H : BRep es.toList kn) : es.size = kn.length := by
  rw [← H.len]; rfl
theorem blook_push {kn : List (Str × Bool)} {s : Str} {v : Bool} (e : blook kn s = none) : blook (kn ++ [(s, v)]) s = some v := by
  unfold blook at e ⊢
  rw [List.find?_append]
  have : kn.find? (fun q => decide (q.1 = s)) = none := by
    cases h : kn.find? (fun q => decide (q.1 = s)) with
    | none => rfl
    | some q => rw [h] at e; cases e
  rw [this]
  simp
noncomputable def keptB (V : KV) (p nm : Str) : Bool := strEqB nm V.md || (bif kpWh V nm then strEqB nm (kpDot V) else strEqB (kpPre V nm) (kpDot V)) || V.dl.any fun d => kcHit p d.1
noncomputable def stepB (V : KV) (kn : List (Str × Bool)) (p : Str) : List (Str × Bool) × Bool := match blook kn (nmS p) with
  | some v => (kn, v)
  | none => (kn ++ [(nmS p, keptB V p (nmS p))], keptB V p (nmS p))
section
variable {w : World} {V : KV} {k : Nat} {F : KF PySem.Fin} {ko : Nat × Obj} {ρ : Stream} {t5 tn kdp : Nat} {es : Array DictEntry} {ks : Array Value} {kn : List (Str × Bool)} {nm : Str}
noncomputable def NxB (w : World) (V : KV) (k : Nat) (F : KF PySem.Fin) (ko : Nat × Obj) (t5 : Nat) (nm : Value) (ks : Array Value) (kn' : List (Str × Bool)) (v : Bool) : Prop :=
  ∀ es' kdp' a t, BRep es'.toList kn' → F (.ok (.again (kpLp w V))) (a + 1) t (kpPl V (kp6 w V t5 a nm) (some (V.pv k)) (itO (V.ps + 214) (k + 1)) es' kdp' a (bif v then ks else ks.push (V.pv k)) 0 ++ [ko])
theorem kpRb_h {rd : Option Value} {a t : Nat} {b : Bool} (e : rd = some (.bool b)) (hk : ks.size ≤ 1000) (D : BRep es.toList kn) (H : NxB w V k F ko t5 (.str nm tn) ks kn b) : (kpRb w V k F ko rd t5 (.str nm tn) es kdp ks a t b).Holds := by
  subst e
  cases b with
  | false =>
    have h3 : decide (Array.size (ks ++ #[V.pv k]) > 16777216) = false := decide_eq_false (by rw [Array.size_append]; simp; omega)
    show (chain [(boolT (some (.bool false)), false), (boolF (some (.bool false)), true), (decide (Array.size (ks ++ #[V.pv k]) > 16777216), false)] (kpLf w V k F ko t5 (.str nm tn) es kdp (ks ++ #[V.pv k]) a t)).Holds
    rw [h3]
    exact chain_h rfl (H es kdp a t D)
  | true =>
    have h3 : decide (Array.size (ks ++ #[]) > 16777216) = false := decide_eq_false (by rw [Array.size_append]; simp; omega)
    show (chain [(boolT (some (.bool true)), true), (decide (Array.size (ks ++ #[]) > 16777216), false)] (kpLf w V k F ko t5 (.str nm tn) es kdp (ks ++ #[]) a t)).Holds
    rw [h3]
    refine chain_h rfl ?_
    have := H es kdp a t D
    show F _ _ _ (kpPl V _ _ _ es kdp a (ks ++ #[]) 0 ++ [ko])
    rw [Array.append_empty]
    exact this
theorem kpSt_h {a t : Nat} {b : Bool} (hn : blook kn nm = none) (hs : kn.length ≤ 1000) (hk : ks.size ≤ 1000) (D : BRep es.toList kn) (H : NxB w V k F ko t5 (.str nm tn) ks (kn ++ [(nm, b)]) b) : (kpSt w V k F ko t5 nm tn es kdp ks a t b).Holds := by
  have D2 : BRep (es.push ⟨hashStr w nm, .str nm tn, .bool b⟩).toList (kn ++ [(nm, b)]) := by rw [Array.toList_push]; exact D.push
  obtain ⟨h1, h2⟩ := blook_some D2 (blook_push hn)
  refine chain_h ?_ (kpRb_h h2 hk D2 H)
  have h3 : decide (Array.size (es.push ⟨hashStr w nm, .str nm tn, .bool b⟩) > 16777217) = false := decide_eq_false (by rw [Array.size_push, D.size]; omega)
  simp only [List.all_cons, List.all_nil, kpAll_h D, blook_none D hn, h3, kpAll_h D2, h1]
  rfl
structure KpOk (V : KV) (z : Bool) : Prop where
  md : V.md.length ≤ 10
  ne : (V.md.length == 0) = false
  n3 : V.dl.length ≤ 3
  z : V.dl.isEmpty = !z
theorem KpOk.big {z : Bool} (o : KpOk V z) : decide ((Nat.cast V.md.length : Int) ≥ (2 : Int) ^ 63) = false := decide_eq_false (by have := o.md; omega)
theorem dot_len : (kpDot V).length = V.md.length + 1 := by
  unfold kpDot
  show (V.md.cps ++ (Str.ofString ".").cps).size = _
  rw [Array.size_append]
  rfl
theorem KpOk.dot {z : Bool} (o : KpOk V z) : decide ((kpDot V).length > 16777216) = false := decide_eq_false (by rw [dot_len]; have := o.md; omega)
theorem kpMd_h {z : Bool} (o : KpOk V z) : (kpMd V).all (fun e => e.1 == e.2) = true := by
  simp only [kpMd, List.all_cons, List.all_nil, o.ne, o.dot]
  rfl
theorem kpCm_h {z : Bool} (o : KpOk V z) (ok : ∀ d ∈ V.dl, kcOk (V.p k) d.1 = true) (hn : blook kn nm = none) (hs : kn.length ≤ 1000) (hk : ks.size ≤ 1000) (D : BRep es.toList kn)
    (H : NxB w V k F ko t5 (.str nm tn) ks (kn ++ [(nm, V.dl.any fun d => kcHit (V.p k) d.1)]) (V.dl.any fun d => kcHit (V.p k) d.1)) : (kpCm w V k F ko ρ z t5 nm tn es kdp ks).Holds := by
  refine ⟨⟨⟨by omega, by omega, by omega⟩, ok, o.n3, o.z⟩, fun q => ?_, fun q => ?_⟩
  · rw [q] at H; exact kpSt_h hn hs hk D H
  · rw [q] at H; exact kpSt_h hn hs hk D H
theorem kpNew_h {z : Bool} {d : Nat} (o : KpOk V z) (ok : ∀ d ∈ V.dl, kcOk (V.p k) d.1 = true) (hp : (kpPre V nm).length ≤ 1000) (hn : blook kn nm = none) (hs : kn.length ≤ 1000) (hk : ks.size ≤ 1000) (D : BRep es.toList kn)
    (H : NxB w V k F ko t5 (.str nm tn) ks (kn ++ [(nm, keptB V (V.p k) nm)]) (keptB V (V.p k) nm)) : (kpNew w V k F ko ρ z t5 nm tn es kdp ks d).Holds := by
  unfold keptB at H
  refine ⟨fun q => ?_, fun q => ?_⟩
  · rw [q] at H
    refine chain_h (by simp only [List.all_cons, List.all_nil, o.big]; rfl) ⟨fun q2 => ?_, fun q2 => ?_⟩
    · rw [q2] at H
      have h3 : decide ((kpPre V nm).length > 16777216) = false := decide_eq_false (by omega)
      refine chain_h (by rw [List.all_cons, kpMd_h o, h3]; rfl) ⟨fun q3 => ?_, fun q3 => ?_⟩
      · simp only [cond_false, q3, Bool.false_or] at H
        exact kpCm_h o ok hn hs hk D H
      · simp only [cond_false, q3, Bool.true_or, Bool.or_true] at H
        exact kpSt_h hn hs hk D H
    · rw [q2] at H
      refine chain_h (kpMd_h o) ⟨fun q3 => ?_, fun q3 => ?_⟩
      · simp only [cond_true, q3, Bool.false_or] at H
        exact kpCm_h o ok hn hs hk D H
      · simp only [cond_true, q3, Bool.true_or, Bool.or_true] at H
        exact kpSt_h hn hs hk D H
  · rw [q] at H
    simp only [Bool.true_or] at H
    exact kpSt_h hn hs hk D H
theorem kpHad_h {d : Nat} {v : Bool} (hn : blook kn nm = some v) (hk : ks.size ≤ 1000) (D : BRep es.toList kn) (H : NxB w V k F ko t5 (.str nm tn) ks kn v) : (kpHad w V k F ko ρ t5 nm tn es kdp ks d).Holds := by
  obtain ⟨h1, h2⟩ := blook_some D hn
  have a1 : decide (Array.size (ks ++ #[V.pv k]) > 16777216) = false := decide_eq_false (by rw [Array.size_append]; simp; omega)
  have a2 : decide (Array.size (ks ++ #[]) > 16777216) = false := decide_eq_false (by rw [Array.size_append]; simp; omega)
  refine chain_h (by simp only [List.all_cons, List.all_nil, kpAll_h D, h1, h2]; rfl) ⟨fun q => ?_, fun q => ?_⟩
  · have q' : boolT (some (.bool v)) = false := h2 ▸ q
    cases v with
    | true => cases q'
    | false =>
      refine chain_h (by simp only [List.all_cons, List.all_nil, a1, h2]; rfl) ?_
      exact H es kdp _ _ D
  · have q' : boolT (some (.bool v)) = true := h2 ▸ q
    cases v with
    | false => cases q'
    | true =>
      refine chain_h (by simp only [List.all_cons, List.all_nil, a2]; rfl) ?_
      have := H es kdp ((ρ 1).n + 214 + 4) ((ρ 2).n + (10 + d)) D
      show F _ _ _ (kpPl V _ _ _ es kdp _ (ks ++ #[]) 0 ++ [ko])
      rw [Array.append_empty]
      exact this
theorem kpTurn_h {fr : Obj} {c : Option Value} {n0 t0 kl kep d : Nat} {z : Bool} (o : KpOk V z) (hs : kn.length ≤ 1000) (hk : ks.size ≤ 1000) (D : BRep es.toList kn)
    (hE : V.q k = none → F (.ok (.again (kpBl w V))) n0 t0 (kpPl V fr c { cls := .type "list_iterator", data := .fields #[.none, .int (k : Nat) 0] } es kdp (kl + 214) ks kep))
    (hq : V.q k = none ∨ ∃ p t, V.q k = some (.str p t) ∧ isPth p = true ∧ (∀ e ∈ V.dl, kcOk p e.1 = true) ∧ (kpPre V (nmS p)).length ≤ 1000 ∧ ∀ tn, NxB w V k F (kl + 214, lstA ks kep) t5 (.str (nmS p) tn) ks (stepB V kn p).1 (stepB V kn p).2) :
    (kpTurn w V k F ρ fr c n0 t0 kl kep z t5 es kdp ks d).Holds := by
  unfold kpTurn
  rcases hq with e | ⟨p, t, e, hp, ok, hl, H⟩
  · refine ⟨fun _ => chain_h (by rw [e]; rfl) (hE e), fun q => ?_⟩
    rw [e] at q
    cases q
  · have ep : V.p k = p := by unfold KV.p; rw [e]; rfl
    have N := nm_ok hp (ρ 3).n (ρ 4).n (ρ 5).n (ρ 6).n
    refine ⟨fun q => (by rw [e] at q; cases q), fun _ => ⟨⟨(by rw [ep]; exact hp), rfl⟩, ?_⟩⟩
    have en : kpNm (V.p k) (kpTs ρ) = nmS p := by rw [ep]; exact N.nm
    rw [en]
    have h1 : decide ((nmS p).length > 16777216) = false := decide_eq_false (by have := N.len; omega)
    refine chain_h ?_ ⟨fun q => ?_, fun q => ?_⟩
    · have n1 : isStrP (kpLast (V.p k) (kpTs ρ)) = true := by rw [ep]; exact N.str
      have n2 : ((1 : Int) == 1 && (sliceP (strP (kpLast (V.p k) (kpTs ρ))) none (some (-3 : Int)) 1).length == (strP (kpLast (V.p k) (kpTs ρ))).length) = false := by rw [ep]; exact N.part
      simp only [List.all_cons, List.all_nil, n1, n2, h1, kpAll_h D]
      rfl
    · cases hb : blook kn (nmS p) with
      | some v =>
        rw [(blook_some D hb).1] at q
        cases q
      | none =>
        refine chain_h rfl (kpNew_h o (by rw [ep]; exact ok) hl hb hs hk D ?_)
        have := H ((ρ 2).n + 4)
        unfold stepB at this
        rw [hb] at this
        rw [ep]
        exact this
    · cases hb : blook kn (nmS p) with
      | none =>
        rw [blook_none D hb] at q
        cases q
      | some v =>
        have := H ((ρ 2).n + 4)
        unfold stepB at this
        rw [hb] at this
        exact kpHad_h hb hk D this
end
end Mine
-- F10
namespace Mine
noncomputable def kpAds (V : KV) (kl : Nat) : List Nat := [V.lo + 214, V.ce + 214, V.it + 214, V.ps + 214, V.kd + 214, kl + 214, V.cl + 214]
noncomputable def kpObs (V : KV) (fr : Obj) (c : Option Value) (it : Obj) (es : Array DictEntry) (kdp : Nat) (ks : Array Value) (kep : Nat) : List Obj := [fr, pCell c, it, lstA V.items V.ep, dObj es kdp, lstA ks kep, lst (dvals V.dl) V.dep]
theorem quiet_kp (w : World) (V : KV) : (kpLp w V).quiet = true := by kernel_rfl
theorem quiet_kb (w : World) (V : KV) : (kpBl w V).quiet = true := by kernel_rfl
section
variable {w : World} {A : Around} {s : Shared} {R : Result → Shared → Prop} {V : KV} {k kl kdp kep : Nat} {es : Array DictEntry} {ks : Array Value} {kn : List (Str × Bool)} {z : Bool} {fr : Obj} {c : Option Value}
theorem kp_turn (ha : A.handled = none) (hd : A.depth + 180 < recursionLimit) (hu : A.units + 360 < cLine) (b : Bs w s.heap (kpAds V kl)) (hat : At s.heap (kpAds V kl) (kpObs V fr c (itO (V.ps + 214) k) es kdp ks kep)) (hn : (kpAds V kl).Nodup)
    (o : KpOk V z) (hs : kn.length ≤ 1000) (hk : ks.size ≤ 1000) (D : BRep es.toList kn)
    (hfr : (fr = kp5 w V (kl + 214) ∧ c = none) ∨ ∃ t5 nm pv, fr = kp6 w V t5 (kl + 214) nm ∧ c = some pv)
    (hE : V.q k = none → endF s (kpAds V kl) (TurnEnd w A R) (.ok (.again (kpBl w V))) (s.heap.objs.size + 2) s.toks (kpPl V fr c { cls := .type "list_iterator", data := .fields #[.none, .int (k : Nat) 0] } es kdp (kl + 214) ks kep))
    (hq : V.q k = none ∨ ∃ p t, V.q k = some (.str p t) ∧ isPth p = true ∧ (∀ e ∈ V.dl, kcOk p e.1 = true) ∧ (kpPre V (nmS p)).length ≤ 1000 ∧ ∀ t5 tn, NxB w V k (endF s (kpAds V kl) (TurnEnd w A R)) (kl + 214, lstA ks kep) t5 (.str (nmS p) tn) ks (stepB V kn p).1 (stepB V kn p).2) :
    codeAny (model PR w) A (kpLp w V) R s := by
  obtain ⟨x, hx⟩ : ∃ x, s.heap.objs.size = x + 214 := ⟨s.heap.objs.size - 214, by have := b.B; omega⟩
  rw [hx] at hE
  have rm : Room 60 A (20 + 1) := ⟨ha, by omega, by omega⟩
  have z1 : SumsOk w [zSP, zKT w V.lo V.ce V.cl (tokS (V.q k)) V.dep (V.p k) V.dl z] 60 := sums_cons (zSP_ok w) (by decide) (sums_cons (zKT_ok w _ _ _ _ _ _ _ _) (Nat.le_refl _) sums_nil)
  have hq' : ∀ t5, V.q k = none ∨ ∃ p t, V.q k = some (.str p t) ∧ isPth p = true ∧ (∀ e ∈ V.dl, kcOk p e.1 = true) ∧ (kpPre V (nmS p)).length ≤ 1000 ∧ ∀ tn, NxB w V k (endF s (kpAds V kl) (TurnEnd w A R)) (kl + 214, lstA ks kep) t5 (.str (nmS p) tn) ks (stepB V kn p).1 (stepB V kn p).2 := fun t5 => by
    rcases hq with h | ⟨p, t, h1, h2, h5, h3, h4⟩
    · exact .inl h
    · exact .inr ⟨p, t, h1, h2, h5, h3, h4 t5⟩
  rcases hfr with ⟨rfl, rfl⟩ | ⟨t5, nm, pv, rfl, rfl⟩
  · refine run_turnX (m := 4) (V := v_kp0 w x s.toks z V kl k kdp kep es ks) (b.rn z1 hat hn) rm hx rfl (k_kp0 w x s.toks z V kl k kdp kep es ks) fun ρ => ?_
    exact kpTurn_h o hs hk D hE (hq' _)
  · refine run_turnX (m := 4) (V := v_kp1 w x s.toks z V kl k kdp kep es ks t5 nm pv) (b.rn z1 hat hn) rm hx rfl (k_kp1 w x s.toks z V kl k kdp kep es ks t5 nm pv) fun ρ => ?_
    exact kpTurn_h o hs hk D hE (hq' _)
end
end Mine
-- F11
set_option maxHeartbeats 0
namespace Mine
noncomputable def q_kbl (W : World) (w : World) (x T : Nat) (V : KV) (F : KF Flow) (ρ : Stream) : VT := (ex ⟨PR, W.params⟩ (mkZ w []) 60).c 3 (kpBl w V) [0] ⟨[], [], (x + 214), 0, T, 0, .n, ρ⟩ (leafC F)
noncomputable def v_kbl (w : World) (x T : Nat) (V : KV) (F : KF Flow) (ρ : Stream) : VT := (.leaf (F (Except.ok PySem.Flow.next) (x + 214) T []))
theorem e_kbl (w : World) (x T : Nat) (V : KV) (F : KF Flow) (ρ : Stream) (b0 : Bool) : EqV (q_kbl (w.withFollow "special-get-raises" b0) w x T V F ρ) (v_kbl w x T V F ρ) := by unfold EqV; cases b0 <;> kernel_rfl
theorem k_kbl (w : World) (x T : Nat) (V : KV) (F : KF Flow) (ρ : Stream) : EqV (q_kbl w w x T V F ρ) (v_kbl w x T V F ρ) := by
  have e := e_kbl w x T V F ρ
  exact row1 (P := fun W => EqV (q_kbl W w x T V F ρ) (v_kbl w x T V F ρ)) "special-get-raises" e
noncomputable def keptF (V : KV) : List (Str × Bool) → List (Str × Tok) → List (Str × Tok)
  | _, [] => []
  | kn, p :: ps => (bif (stepB V kn p.1).2 then [] else [p]) ++ keptF V (stepB V kn p.1).1 ps
section
variable {w : World} {A : Around}
theorem kb_spec {s : Shared} {R : Result → Shared → Prop} {V : KV} {D : List Nat} (ha : A.handled = none) (hd : A.depth + 20 < recursionLimit) (hu : A.units + 40 < cLine) (b : Bs w s.heap D)
    (h : ∀ h', (∀ b o, s.heap.get? b = some o → h'.get? b = some o) → h'.objs.size = s.heap.objs.size → R (.ok .next) ⟨h', s.gens, s.drawn, s.toks, s.os⟩) : codeAny (model PR w) A (kpBl w V) R s := by
  obtain ⟨x, hx⟩ : ∃ x, s.heap.objs.size = x + 214 := ⟨s.heap.objs.size - 214, by have := b.B; omega⟩
  refine run_code (V := v_kbl w x s.toks V) ((b.sub (D' := []) (by simp)).rn (need := 0) sums_nil (obs := []) trivial List.nodup_nil) (dp := 3) ⟨ha, by omega, by omega⟩ hx (k_kbl w x s.toks V) fun ρ => ?_
  intro h' E
  exact h h' (fun b o e => E.keep b o e (by simp)) (by rw [E.size, hx])
end
noncomputable def KpPost (w : World) (R : Result → Shared → Prop) (s : Shared) (V : KV) (kl : Nat) (ks : Array Value) (kep : Nat) (emp : Prop) (out : List (Str × Tok)) : Prop :=
  ∀ h' t' t5 nm pv it' kl' es' kdp' kep', (∀ b o, s.heap.get? b = some o → b ∉ kpAds V kl → h'.get? b = some o) → s.heap.objs.size ≤ h'.objs.size → Bs w h' (kpAds V kl') → At h' (kpAds V kl') (kpObs V (kp6 w V t5 (kl' + 214) nm) (some pv) it' es' kdp' (ks ++ (Array.mk (dvals out))) kep') →
    (kpAds V kl').Nodup → ((emp ∧ kl' = kl) ∨ (s.heap.objs.size ≤ kl' + 214 ∧ h'.get? (kl + 214) = some (lstA ks kep))) → R (.ok .next) ⟨h', s.gens, s.drawn, t', s.os⟩
theorem kq_of {V : KV} {pl : List (Str × Tok)} (hi : V.items = ⟨dvals pl⟩) (k : Nat) : V.q k = (pl[k]?).map fun d => .str d.1 d.2 := by
  unfold KV.q
  rw [hi]
  exact dvals_get pl k
theorem stepB_len {V : KV} {kn : List (Str × Bool)} {p : Str} : (stepB V kn p).1.length ≤ kn.length + 1 := by
  unfold stepB
  split <;> simp
theorem sub78 {a1 a2 a3 a4 a5 a6 a7 a8 : Nat} : List.Sublist [a1, a2, a3, a4, a5, a6, a7] [a1, a2, a3, a4, a5, a6, a7, a8] := by
  iterate 7 apply List.Sublist.cons_cons
  exact .cons _ .slnil
section
variable {w : World} {A : Around} {R : Result → Shared → Prop} {V : KV} {pl : List (Str × Tok)} {z : Bool}
theorem kp_loop (ha : A.handled = none) (hd : A.depth + 180 < recursionLimit) (hu : A.units + 360 < cLine) (hi : V.items = ⟨dvals pl⟩) (hp : ∀ p ∈ pl, isPth p.1 = true ∧ (kpPre V (nmS p.1)).length ≤ 1000 ∧ ∀ e ∈ V.dl, kcOk p.1 e.1 = true) (o : KpOk V z) :
    ∀ (n k : Nat) (s : Shared) (kl : Nat) (fr : Obj) (c : Option Value) (es : Array DictEntry) (kdp : Nat) (ks : Array Value) (kep : Nat) (kn : List (Str × Bool)), pl.length = k + n → kn.length + n ≤ 1000 → ks.size + n ≤ 1000 → Bs w s.heap (kpAds V kl) →
      At s.heap (kpAds V kl) (kpObs V fr c (itO (V.ps + 214) k) es kdp ks kep) → (kpAds V kl).Nodup → BRep es.toList kn →
      ((∃ t5 nm pv, fr = kp6 w V t5 (kl + 214) nm ∧ c = some pv) ∨ (0 < n ∧ fr = kp5 w V (kl + 214) ∧ c = none)) → KpPost w R s V kl ks kep (n = 0) (keptF V kn (pl.drop k)) → codeAny (model PR w) A (kpLp w V) R s := by
  intro n
  induction n with
  | zero =>
    intro k s kl fr c es kdp ks kep kn hk h1 h2 b hat hn D hfr hR
    obtain ⟨t5, nm, pv, rfl, rfl⟩ := hfr.resolve_right fun h => absurd h.1 (Nat.lt_irrefl 0)
    have e : pl[k]? = none := by simp; omega
    have e2 : pl.drop k = [] := by simp; omega
    have hq : V.q k = none := by rw [kq_of hi, e]; rfl
    refine kp_turn ha hd hu b hat hn o (kn := kn) (by omega) (by omega) D (.inr ⟨t5, nm, pv, rfl, rfl⟩) (fun _ h' E => ⟨quiet_kb w V, ?_⟩) (.inl hq)
    have b' := b.step E
    refine kb_spec (s := ⟨h', s.gens, s.drawn, s.toks, s.os⟩) ha (by omega) (by omega) b' fun h2 keep sz => ?_
    rw [e2] at hR
    have sz' : h2.objs.size = s.heap.objs.size + 2 := by rw [sz]; exact E.size
    have bs2 : Bs w h2 (kpAds V kl) := ⟨fun a o e => ⟨keep a o (b'.K a o e).1, (b'.K a o e).2⟩, b'.L.at fun o e => keep _ _ e, by rw [sz']; have := b.B; omega⟩
    obtain ⟨c1, c2, c3, c4, c5, c6, c7, _⟩ := E.toAt
    refine hR h2 s.toks t5 nm pv _ kl es kdp kep (fun b o e m => keep b o (E.keep b o e m)) (by rw [sz']; omega) bs2 ⟨keep _ _ c1, keep _ _ c2, keep _ _ c3, keep _ _ c4, keep _ _ c5, ?_, keep _ _ c7, trivial⟩ hn (.inl ⟨rfl, rfl⟩)
    show h2.get? (kl + 214) = some (lstA (ks ++ (Array.mk (dvals (keptF V kn [])))) kep)
    rw [show ks ++ (Array.mk (dvals (keptF V kn []))) = ks from Array.append_empty]
    exact keep _ _ c6
  | succ n ih =>
    intro k s kl fr c es kdp ks kep kn hk h1 h2 b hat hn D hfr hR
    have hlt : k < pl.length := by omega
    have e : pl[k]? = some pl[k] := List.getElem?_eq_getElem hlt
    have e2 : pl.drop k = pl[k] :: pl.drop (k + 1) := List.drop_eq_getElem_cons hlt
    have hq : V.q k = some (.str pl[k].1 pl[k].2) := by rw [kq_of hi, e]; rfl
    have hpk := hp _ (List.getElem_mem hlt)
    rw [e2] at hR
    refine kp_turn ha hd hu b hat hn o (kn := kn) (by omega) (by omega) D (hfr.elim .inr fun h => .inl h.2) (fun h => absurd (hq.symm.trans h) (by simp)) (.inr ⟨pl[k].1, pl[k].2, hq, hpk.1, hpk.2.2, hpk.2.1, fun t5 tn => ?_⟩)
    intro es' kdp' a t D' h' E
    refine ⟨quiet_kp w V, ?_⟩
    have hsz : h'.objs.size = a + 1 := E.size
    have hge : s.heap.objs.size ≤ a + 1 := E.ge
    have hB := b.B
    have hb := E.at' (a, lstA (bif (stepB V kn pl[k].1).2 then ks else ks.push (V.pv k)) 0) (by simp [kpPl])
    have ha' : a ∈ kpAds V kl ∨ s.heap.objs.size ≤ a := hb.2.2
    have nd' : [V.lo + 214, V.ce + 214, V.it + 214, V.ps + 214, V.kd + 214, a, V.cl + 214, kl + 214].Nodup := E.nd
    have hal : s.heap.objs.size ≤ a := by
      rcases ha' with q | q
      · exfalso
        have nm : a ∉ [V.lo + 214, V.ce + 214, V.it + 214, V.ps + 214, V.kd + 214] ++ [V.cl + 214, kl + 214] := (List.nodup_cons.mp ((List.perm_middle (l₁ := [V.lo + 214, V.ce + 214, V.it + 214, V.ps + 214, V.kd + 214]) (a := a) (l₂ := [V.cl + 214, kl + 214])).nodup_iff.mp nd')).1
        exact nm ((((((List.Perm.swap (V.cl + 214) (kl + 214) []).cons _).cons _).cons _).cons _).cons _ |>.subset q)
      · exact q
    have nd7 : [V.lo + 214, V.ce + 214, V.it + 214, V.ps + 214, V.kd + 214, a, V.cl + 214].Nodup := nd'.sublist sub78
    have nkl : kl + 214 ∉ [V.lo + 214, V.ce + 214, V.it + 214, V.ps + 214, V.kd + 214, a, V.cl + 214] := fun m =>
      (List.nodup_append.mp (show ([V.lo + 214, V.ce + 214, V.it + 214, V.ps + 214, V.kd + 214, a, V.cl + 214] ++ [kl + 214]).Nodup from nd')).2.2 _ m _ (.head _) rfl
    have hold : h'.get? (kl + 214) = some (lstA ks kep) := (E.at' (kl + 214, lstA ks kep) (by simp [kpPl])).1
    obtain ⟨c1, c2, c3, c4, c5, c6, c7, _⟩ := E.toAt
    have b7 := (b.step E).sub (D' := [V.lo + 214, V.ce + 214, V.it + 214, V.ps + 214, V.kd + 214, a, V.cl + 214]) fun _ m => sub78.subset m
    obtain ⟨kl', rfl⟩ : ∃ y, a = y + 214 := ⟨a - 214, by omega⟩
    have epv : V.pv k = .str pl[k].1 pl[k].2 := by unfold KV.pv; rw [hq]; rfl
    have hl := stepB_len (V := V) (kn := kn) (p := pl[k].1)
    have hks : (bif (stepB V kn pl[k].1).2 then ks else ks.push (V.pv k)).size ≤ ks.size + 1 := by
      cases (stepB V kn pl[k].1).2 <;> simp
    refine ih (k + 1) ⟨h', s.gens, s.drawn, t, s.os⟩ kl' _ _ es' kdp' _ 0 _ (by omega) (by omega) (by omega) b7 ⟨c1, c2, c3, c4, c5, c6, c7, trivial⟩ nd7 D' (.inl ⟨t5, _, _, rfl, rfl⟩) ?_
    intro h3 t3 t53 nm3 pv3 it3 kl3 es3 kdp3 kep3 keep sz b3 at3 nd3 hkl
    have ge : s.heap.objs.size ≤ h'.objs.size := by rw [hsz]; exact hge
    refine hR h3 t3 t53 nm3 pv3 it3 kl3 es3 kdp3 kep3 (fun b2 o2 e m => keep b2 o2 (E.keep b2 o2 e m) fun m2 => ?_) (Nat.le_trans ge sz) b3 ?_ nd3 ?_
    · have lt : (b2 : Nat) < s.heap.objs.size := Heap.lt_size e
      have hb2 : (b2 : Nat) = kl' + 214 ∨ b2 ∈ kpAds V kl := by
        simp only [kpAds, List.mem_cons, List.not_mem_nil, or_false] at m2 ⊢
        rcases m2 with q | q | q | q | q | q | q
        · exact .inr (.inl q)
        · exact .inr (.inr (.inl q))
        · exact .inr (.inr (.inr (.inl q)))
        · exact .inr (.inr (.inr (.inr (.inl q))))
        · exact .inr (.inr (.inr (.inr (.inr (.inl q)))))
        · exact .inl q
        · exact .inr (.inr (.inr (.inr (.inr (.inr (.inr q))))))
      rcases hb2 with q | q
      · rw [q] at lt
        exact absurd lt (Nat.not_lt.mpr hal)
      · exact m q
    · have ee : (bif (stepB V kn pl[k].1).2 then ks else ks.push (V.pv k)) ++ Array.mk (dvals (keptF V (stepB V kn pl[k].1).1 (pl.drop (k + 1)))) = ks ++ Array.mk (dvals (keptF V kn (pl[k] :: pl.drop (k + 1)))) := by
        show _ = ks ++ Array.mk (dvals ((bif (stepB V kn pl[k].1).2 then [] else [pl[k]]) ++ keptF V (stepB V kn pl[k].1).1 (pl.drop (k + 1))))
        rw [epv]
        apply Array.toList_inj.mp
        cases (stepB V kn pl[k].1).2 <;> simp [dvals]
      rw [← ee]
      exact at3
    · right
      rcases hkl with ⟨_, rfl⟩ | q
      · exact ⟨hal, keep _ _ hold nkl⟩
      · exact ⟨Nat.le_trans ge q.1, keep _ _ hold nkl⟩
end
noncomputable def zKL (w : World) (V : KV) (pl : List (Str × Tok)) (kl : Nat) (z : Bool) : Summ where
  code := kpLp w V
  pre := kpAds V kl
  objs := kpObs V (kp5 w V (kl + 214)) none (itO (V.ps + 214) 0) #[] 0 #[] 0
  P := V.items = ⟨dvals pl⟩ ∧ (pl ≠ [] ∧ pl.length ≤ 1000) ∧ (∀ p ∈ pl, isPth p.1 = true ∧ (kpPre V (nmS p.1)).length ≤ 1000 ∧ ∀ e ∈ V.dl, kcOk p.1 e.1 = true) ∧ KpOk V z
  k := 9
  b := true
  F := fun _ xs => ⟨.ok .next, [kp6 w V (gx 0 xs) (gx 1 xs + 214) (gV 2 xs), pCell (some (gV 3 xs)), gO 4 xs, lstA V.items V.ep, gO 5 xs, lst [] 0, lst (dvals V.dl) V.dep], [(gx 1 xs + 214, lst (dvals (keptF V [] pl)) (gx 6 xs))], gx 7 xs + 214, gx 8 xs⟩
theorem zKL_ok (w : World) (V : KV) (pl : List (Str × Tok)) (kl : Nat) (z : Bool) : SummOk w (zKL w V pl kl z) 180 := by
  intro ⟨hi, ⟨hne, hlen⟩, hp, o⟩ A s R ha hd hu hK hL hB hn hat h
  obtain ⟨p0, ps0, e0⟩ := List.exists_cons_of_ne_nil hne
  refine kp_loop ha hd (by omega) hi hp o pl.length 0 s kl _ none #[] 0 #[] 0 [] (by omega) (by show 0 + pl.length ≤ 1000; omega) (by show 0 + pl.length ≤ 1000; omega) ⟨hK, hL, hB⟩ hat hn trivial (.inr ⟨by rw [e0]; exact Nat.succ_pos _, rfl, rfl⟩) ?_
  intro h2 t2 t5 nm pv it' kl' es' kdp' kep' keep sz b2 at2 nd hkl
  have hkl2 : s.heap.objs.size ≤ kl' + 214 ∧ h2.get? (kl + 214) = some (lstA #[] 0) := by
    rcases hkl with ⟨q, _⟩ | q
    · rw [e0] at q
      cases q
    · exact q
  obtain ⟨c1, c2, c3, c4, c5, c6, c7, _⟩ := at2
  have sz2 : h2.objs.size = h2.objs.size - 214 + 214 := by have := b2.B; omega
  refine h [dn t5, dn kl', ⟨0, default, nm⟩, ⟨0, default, pv⟩, ⟨0, it', default⟩, ⟨0, dObj es' kdp', default⟩, dn kep', dn (h2.objs.size - 214), dn t2] h2 rfl ⟨sz2, Nat.le_trans sz (Nat.le_of_eq sz2), ⟨c1, c2, c3, c4, c5, hkl2.2, c7, trivial⟩, ?_, List.nodup_cons.mpr ⟨by simp, List.nodup_nil⟩, keep⟩
  intro y hy
  rw [List.mem_singleton.mp hy]
  refine ⟨?_, hkl2.1⟩
  rw [Array.empty_append] at c6
  exact c6
end Mine
-- F12
set_option maxHeartbeats 0
namespace Mine
noncomputable section
noncomputable def kpW (x T ps cl tm ep dep : Nat) (md : Str) (pl dl : List (Str × Tok)) : KV := ⟨x + 0, x + 1, x + 8, ps, cl, x + 2, T + 0, T + 1, T + 2, T + 4, T + 3, tm, ep, dep, md, ⟨dvals pl⟩, dl⟩
noncomputable def kv0 (md : Str) (dl : List (Str × Tok)) : KV := ⟨0, 0, 0, 0, 0, 0, 0, 0, 0, 0, 0, 0, 0, 0, md, #[], dl⟩
end
noncomputable def q_kpc (W : World) (w : World) (x T : Nat) (ps : Nat) (cl : Nat) (md : Str) (tm : Nat) (pl : List (Str × Tok)) (dl : List (Str × Tok)) (ep : Nat) (dep : Nat) (z : Bool) (F : KF Flow) (ρ : Stream) : VT := (ex ⟨PR, W.params⟩ (mkZ w [zFo (zKL w (kpW x T ps cl tm ep dep md pl dl) pl (x + 3) z)]) 1500).c 14 (.call (.ref 193) ⟨[.ref (ps + 214), .str md tm, .ref (cl + 214)], []⟩) [1, 0, 0, 3, 3, 3, 3, 3, 3, 0, 7, 7, 7, 0, 7, 0, 8, 8, 0, 8, 0, 8, 8, 7, 8, 8, 8, 0, 8, 0, 8, 8, 7, 8, 8, 8, 0, 8, 0, 8, 8, 7, 8, 8, 10, 3, 3, 3, 3, 3, 1, 1, 0, 1, 0, 11, 3, 0, 2, 3, 10, 0, 4, 5, 1, 1, 3, 0, 1, 11] ⟨[ps + 214, cl + 214], [lst (dvals pl) ep, lst (dvals dl) dep], (x + 214), 0, T, 0, .n, ρ⟩ (leafC F)
noncomputable def v_kpc (w : World) (x T : Nat) (ps : Nat) (cl : Nat) (md : Str) (tm : Nat) (pl : List (Str × Tok)) (dl : List (Str × Tok)) (ep : Nat) (dep : Nat) (z : Bool) (F : KF Flow) (ρ : Stream) : VT := .claim (zKL w (kpW x T ps cl tm ep dep md pl dl) pl (x + 3) z).P (chain [(true, true)] (.leaf (F (.ok (.ret (.ref ((ρ 1).n + 214)))) ((ρ 7).n + 214) (ρ 8).n [(ps + 214, lst (dvals pl) ep), (cl + 214, lst (dvals dl) dep), ((ρ 1).n + 214, lst (dvals (keptF (kpW x T ps cl tm ep dep md pl dl) [] pl)) (ρ 6).n)])))
theorem e_kpc (w : World) (x T : Nat) (ps : Nat) (cl : Nat) (md : Str) (tm : Nat) (pl : List (Str × Tok)) (dl : List (Str × Tok)) (ep : Nat) (dep : Nat) (z : Bool) (F : KF Flow) (ρ : Stream) (b0 : Bool) : EqV (q_kpc (w.withFollow "special-get-raises" b0) w x T ps cl md tm pl dl ep dep z F ρ) (v_kpc w x T ps cl md tm pl dl ep dep z F ρ) := by unfold EqV; cases b0 <;> kernel_rfl
theorem k_kpc (w : World) (x T : Nat) (ps : Nat) (cl : Nat) (md : Str) (tm : Nat) (pl : List (Str × Tok)) (dl : List (Str × Tok)) (ep : Nat) (dep : Nat) (z : Bool) (F : KF Flow) (ρ : Stream) : EqV (q_kpc w w x T ps cl md tm pl dl ep dep z F ρ) (v_kpc w x T ps cl md tm pl dl ep dep z F ρ) := by
  have e := e_kpc w x T ps cl md tm pl dl ep dep z F ρ
  exact row1 (P := fun W => EqV (q_kpc W w x T ps cl md tm pl dl ep dep z F ρ) (v_kpc w x T ps cl md tm pl dl ep dep z F ρ)) "special-get-raises" e
theorem stepB_eq {V V' : KV} (h1 : V.md = V'.md) (h2 : V.dl = V'.dl) (kn : List (Str × Bool)) (p : Str) : stepB V kn p = stepB V' kn p := by
  have e : ∀ nm, keptB V p nm = keptB V' p nm := fun nm => by
    unfold keptB kpWh kpPre kpDot
    rw [h1, h2]
  unfold stepB
  split <;> simp only [e]
theorem keptF_eq {V V' : KV} (h1 : V.md = V'.md) (h2 : V.dl = V'.dl) : ∀ (pl : List (Str × Tok)) (kn : List (Str × Bool)), keptF V kn pl = keptF V' kn pl
  | [], _ => rfl
  | p :: ps, kn => by
    unfold keptF
    rw [stepB_eq h1 h2, keptF_eq h1 h2 ps]
noncomputable def plA (a : Array Value) : List (Str × Tok) := a.toList.map fun v => (strO (some v), tokS (some v))
theorem plA_dvals (l : List (Str × Tok)) : plA ⟨dvals l⟩ = l := by
  unfold plA dvals
  simp [Function.comp_def, strO, tokS]
noncomputable def mRSR (a : Args) : Option (Addr × Str × Tok × Addr) := (arg3 a).bind fun p => (valR p.1).bind fun r0 => (valS p.2.1).bind fun r1 => (valR p.2.2).map fun r2 => (r0, r1.1, r1.2, r2)
theorem mRSR_is {a : Args} {p q : Addr} {s : Str} {t : Tok} (h : mRSR a = some (p, s, t, q)) : a = ⟨[.ref p, .str s t, .ref q], []⟩ := by
  obtain ⟨p, e0, h⟩ := Option.bind_eq_some_iff.mp h
  obtain ⟨r0, e1, h⟩ := Option.bind_eq_some_iff.mp h
  obtain ⟨r1, e2, h⟩ := Option.bind_eq_some_iff.mp h
  obtain ⟨r2, e3, h⟩ := Option.map_eq_some_iff.mp h
  cases h
  rw [arg3_is e0, valR_is e1, valS_is e2, valR_is e3]
noncomputable def KptOk (md : Str) (pl dl : List (Str × Tok)) : Prop := (pl ≠ [] ∧ pl.length ≤ 1000) ∧ (∀ p ∈ pl, isPth p.1 = true ∧ (kpPre (kv0 md dl) (nmS p.1)).length ≤ 1000 ∧ ∀ e ∈ dl, kcOk p.1 e.1 = true) ∧ KpOk (kv0 md dl) (!dl.isEmpty)
noncomputable def zLK_r (kp kc : Nat) (c : Code) (p : Addr × Str × Tok × Addr) (po : Obj) (co : Obj) : Summ :=
  { code := c, pre := [p.1, p.2.2.2], objs := [lstA (seqA po) (epS po), lstA (seqA co) (epS co)]
    P := (214 ≤ p.1 ∧ 214 ≤ p.2.2.2) ∧ seqA po = ⟨dvals (plA (seqA po))⟩ ∧ seqA co = ⟨dvals (plA (seqA co))⟩ ∧ KptOk p.2.1 (plA (seqA po)) (plA (seqA co))
    k := 4, b := true
    F := fun _ xs => ⟨.ok (.ret (.ref (gx 0 xs + 214))), [lstA (seqA po) (epS po), lstA (seqA co) (epS co)], [(gx 0 xs + 214, lst (dvals (keptF (kv0 p.2.1 (plA (seqA co))) [] (plA (seqA po)))) (gx 1 xs))], gx 2 xs + 214, gx 3 xs⟩ }
noncomputable def zLK (kp kc : Nat) : Dyn := fun c os => (mFn 193 c).bind fun args => (mRSR args).bind fun p => (nth kp os).bind fun po => (nth kc os).map fun co => zLK_r kp kc c p po co
theorem zLK_ok (w : World) (kp kc : Nat) : DynOk w (zLK kp kc) 280 := by
  intro c os z e
  obtain ⟨args, e1, e⟩ := Option.bind_eq_some_iff.mp e
  obtain ⟨⟨ps, md, tm, cl⟩, e2, e⟩ := Option.bind_eq_some_iff.mp e
  obtain ⟨po, e3, e⟩ := Option.bind_eq_some_iff.mp e
  obtain ⟨co, e4, e5⟩ := Option.map_eq_some_iff.mp e
  rw [← e5]
  unfold zLK_r
  intro hP A s R ha hd hu hK hL hB hn hat h
  obtain ⟨⟨h1, h2⟩, hpl, hdl, hlen, hp, o⟩ := hP
  dsimp only at h1 h2
  show codeAny _ _ c R s
  rw [mFn_is e1, mRSR_is e2]
  obtain ⟨ps', rfl⟩ : ∃ y : Nat, ps = y + 214 := ⟨Nat.sub ps 214, (Nat.sub_add_cancel h1).symm⟩
  obtain ⟨cl', rfl⟩ : ∃ y : Nat, cl = y + 214 := ⟨Nat.sub cl 214, (Nat.sub_add_cancel h2).symm⟩
  dsimp only at hlen hp o h
  generalize plA (seqA po) = pl at *
  generalize plA (seqA co) = dl at *
  have g1 : s.heap.get? (ps' + 214) = some (lst (dvals pl) (epS po)) := by have := hat.1; rw [hpl] at this; exact this
  have g2 : s.heap.get? (cl' + 214) = some (lst (dvals dl) (epS co)) := by have := hat.2.1; rw [hdl] at this; exact this
  obtain ⟨x, hx⟩ : ∃ x, s.heap.objs.size = x + 214 := ⟨s.heap.objs.size - 214, by omega⟩
  have hc : cStatics ∉ [ps' + 214, cl' + 214] := fun m => by
    have := Bs.st ⟨hK, hL, hB⟩
    exact this m
  have rn : Rn w (mkZ w [zFo (zKL w (kpW x s.toks ps' cl' tm (epS po) (epS co) md pl dl) pl (x + 3) (!dl.isEmpty))]) 180 [ps' + 214, cl' + 214] [lst (dvals pl) (epS po), lst (dvals dl) (epS co)] s := rn_of (sums_cons (zFo_ok (zKL_ok _ _ _ _ _)) (Nat.le_refl _) sums_nil) hK hL hB hc ⟨g1, g2, trivial⟩ hn
  refine run_code (dp := 14) (V := v_kpc w x s.toks ps' cl' md tm pl dl (epS po) (epS co) (!dl.isEmpty)) rn (room_of ha hd hu (by omega)) hx (k_kpc w x s.toks ps' cl' md tm pl dl (epS po) (epS co) (!dl.isEmpty)) fun ρ => ?_
  refine ⟨⟨rfl, hlen, hp, ⟨o.md, o.ne, o.n3, o.z⟩⟩, chain_h rfl ?_⟩
  intro h' E
  have en : s.heap.objs.size ≤ (ρ 7).n + 214 := E.ge
  refine h [dn (ρ 1).n, dn (ρ 6).n, dn (ρ 7).n, dn (ρ 8).n] h' rfl ?_
  have ee := keptF_eq (V := kpW x s.toks ps' cl' tm (epS po) (epS co) md pl dl) (V' := kv0 md dl) rfl rfl pl []
  rw [ee] at E
  obtain ⟨c1, c2, c3, _⟩ := E.toAt
  have q3 := E.at' ((ρ 1).n + 214, lst (dvals (keptF (kv0 md dl) [] pl)) (ρ 6).n) (by simp)
  refine ⟨E.size, en, ⟨by rw [hpl]; exact c1, by rw [hdl]; exact c2, trivial⟩, ?_, List.nodup_cons.mpr ⟨by simp, List.nodup_nil⟩, E.keep⟩
  intro y hy
  rw [List.mem_singleton.mp hy]
  refine ⟨c3, ?_⟩
  rcases q3.2.2 with q | q
  · exfalso
    have nd : [ps' + 214, cl' + 214, (ρ 1).n + 214].Nodup := E.nd
    have := (List.nodup_append.mp (show ([ps' + 214, cl' + 214] ++ [(ρ 1).n + 214]).Nodup from nd)).2.2 _ q _ (.head _)
    exact this rfl
  · exact q
end Mine
-- S10
namespace Mine
noncomputable def cutN (j : Nat) : Nat → Nat := @Nat.rec (fun _ => Nat → Nat) (fun n => n) (fun _ ih n => ih (Nat.pred n)) j
theorem cutN_add : ∀ (j n : Nat), cutN j (n + j) = n
  | 0, _ => rfl
  | j + 1, n => by
    show cutN j (Nat.pred (n + (j + 1))) = n
    exact cutN_add j n
noncomputable def t0Of (o : Obj) : Nat := match (o.slots[2]? : Option (Option Value)) with
  | some (some (.str _ t)) => t
  | _ => 0
noncomputable def mKey : Args → Option (Addr × Addr)
  | ⟨[.ref l], [(n, .ref k)]⟩ => @Bool.rec (fun _ => Option (Addr × Addr)) none (some (l, k)) (strEqB n (Str.ofString "key"))
  | _ => none
theorem mKey_is {a : Args} {l k : Addr} (h : mKey a = some (l, k)) : a = ⟨[.ref l], [(Str.ofString "key", .ref k)]⟩ := by
  unfold mKey at h
  split at h
  · rename_i l' n k'
    cases hb : strEqB n (Str.ofString "key") with
    | false => rw [hb] at h; cases h
    | true =>
      rw [hb] at h
      cases h
      rw [strEqB_eq] at hb
      have := of_decide_eq_true hb
      subst this
      rfl
  · cases h
noncomputable def insB (lt : Str → Str → Bool) (s : Str) : List Str → List Str
  | [] => [s]
  | t :: l => bif lt t s then t :: insB lt s l else s :: t :: l
noncomputable def srtB (lt : Str → Str → Bool) : List Str → List Str
  | [] => []
  | s :: l => insB lt s (srtB lt l)
structure TotB (lt : Str → Str → Bool) : Prop where
  asym : ∀ a b, lt a b = true → lt b a = false
  ntr : ∀ a b c, lt a b = false → lt b c = false → lt a c = false
  tot : ∀ a b, lt a b = false → lt b a = false → a = b
theorem insB_perm (lt : Str → Str → Bool) (s : Str) : ∀ l, (insB lt s l).Perm (s :: l)
  | [] => .refl _
  | t :: l => by
    unfold insB
    cases lt t s with
    | false => exact .refl _
    | true => exact ((insB_perm lt s l).cons t).trans (.swap s t l)
theorem srtB_perm (lt : Str → Str → Bool) : ∀ l, (srtB lt l).Perm l
  | [] => .refl _
  | s :: l => (insB_perm lt s _).trans ((srtB_perm lt l).cons s)
theorem insB_pw {lt : Str → Str → Bool} (T : TotB lt) (s : Str) : ∀ l : List Str, l.Pairwise (fun a b => lt b a = false) → (insB lt s l).Pairwise (fun a b => lt b a = false)
  | [], _ => by unfold insB; simp
  | t :: l, h => by
    obtain ⟨h1, h2⟩ := List.pairwise_cons.mp h
    unfold insB
    cases ht : lt t s with
    | true =>
      refine List.pairwise_cons.mpr ⟨fun b hb => ?_, insB_pw T s l h2⟩
      rcases List.mem_cons.mp ((insB_perm lt s l).mem_iff.mp hb) with rfl | hb
      · exact T.asym _ _ ht
      · exact h1 b hb
    | false =>
      refine List.pairwise_cons.mpr ⟨fun b hb => ?_, h⟩
      rcases List.mem_cons.mp hb with rfl | hb
      · exact ht
      · exact T.ntr _ _ _ (h1 b hb) ht
theorem srtB_pw {lt : Str → Str → Bool} (T : TotB lt) : ∀ l : List Str, (srtB lt l).Pairwise (fun a b => lt b a = false)
  | [] => .nil
  | s :: l => insB_pw T s _ (srtB_pw T l)
theorem srtB_is {lt : Str → Str → Bool} (T : TotB lt) {l l' : List Str} (p : l'.Perm l) (h : l'.Pairwise fun a b => lt b a = false) : l' = srtB lt l :=
  List.Perm.eq_of_pairwise (fun a b _ _ h1 h2 => T.tot a b h2 h1) h (srtB_pw T l) (p.trans (srtB_perm lt l).symm)
theorem str_ext {a b : Str} (h : a.cps.toList = b.cps.toList) : a = b := by
  obtain ⟨⟨x⟩⟩ := a
  obtain ⟨⟨y⟩⟩ := b
  cases h
  rfl
theorem list_tot {a b : List Nat} (h1 : ¬ a < b) (h2 : ¬ b < a) : a = b := List.le_antisymm (List.not_lt.mp h2) (List.not_lt.mp h1)
theorem cmp_tot : TotB cmpLt := ⟨fun _ _ => cmpLt_asym _ _, fun _ _ _ => cmpLt_ntr _ _ _, fun a b h1 h2 => by
  have n1 : ¬ cmpLt a b = true := by rw [h1]; simp
  have n2 : ¬ cmpLt b a = true := by rw [h2]; simp
  rw [cmpLt_iff] at n1 n2
  have e : Txt.count a slash = Txt.count b slash := by
    have a1 : ¬ Txt.count b slash < Txt.count a slash := fun q => n1 (.inl q)
    have a2 : ¬ Txt.count a slash < Txt.count b slash := fun q => n2 (.inl q)
    omega
  exact str_ext (list_tot (fun q => n1 (.inr ⟨e, q⟩)) fun q => n2 (.inr ⟨e.symm, q⟩))⟩
noncomputable def zSO_r (w : World) (kp kc : Nat) (c : Code) (p : Addr × Addr) (po : Obj) (co : Obj) : Summ :=
  { code := c, pre := p.1 :: (kAll w (cutN 60 p.2) (t0Of co)).map (·.1), objs := lstA (seqA po) (epS po) :: (kAll w (cutN 60 p.2) (t0Of co)).map (·.2)
    P := (∃ x : Nat, p.2 = x + 214 + 60) ∧ seqA po = ⟨dvals (plA (seqA po))⟩ ∧ 2 ≤ (plA (seqA po)).length ∧ (plA (seqA po)).length < 64
    k := 5, b := true
    F := fun _ xs => ⟨.ok (.ret (.ref (gx 0 xs + 214))), lstA (seqA po) (epS po) :: (kAll w (cutN 60 p.2) (t0Of co)).map (·.2), [(gx 0 xs + 214, lst (dvals (tag (srtB cmpLt (strsA (seqA po))) (gF 1 xs))) (gx 2 xs))], gx 3 xs + 214, gx 4 xs⟩ }
noncomputable def zSO (w : World) (kp kc : Nat) : Dyn := fun c os => (mBi "sorted" c).bind fun args => (mKey args).bind fun p => (nth kp os).bind fun po => (nth kc os).map fun co => zSO_r w kp kc c p po co
theorem zSO_ok (w : World) (kp kc : Nat) : DynOk w (zSO w kp kc) 300 := by
  intro c os z e
  obtain ⟨args, e1, e⟩ := Option.bind_eq_some_iff.mp e
  obtain ⟨⟨l, k⟩, e2, e⟩ := Option.bind_eq_some_iff.mp e
  obtain ⟨po, e3, e⟩ := Option.bind_eq_some_iff.mp e
  obtain ⟨co, e4, e5⟩ := Option.map_eq_some_iff.mp e
  rw [← e5]
  unfold zSO_r
  intro hP A s R ha hd hu hK hL hB hn hat h
  obtain ⟨⟨x, hk⟩, hpl, h2, h64⟩ := hP
  have hk : k = x + 214 + 60 := hk
  subst hk
  show codeAny _ _ c R s
  rw [mBi_is e1, mKey_is e2]
  have ec : cutN 60 (x + 214 + 60) = x + 214 := cutN_add 60 (x + 214)
  dsimp only at hpl h2 h64 hat h
  rw [ec] at hat h
  have ess : strsA (seqA po) = (plA (seqA po)).map (·.1) := by
    conv => lhs; rw [hpl]
    rw [strsA_dvals]
  rw [ess] at h
  generalize plA (seqA po) = pl at *
  obtain ⟨g0, c1, c2, c3, c4, c5, c6, c7, c8, _⟩ := hat
  have V : Env0 w s.heap x (t0Of co) := by
    refine ⟨hL, fun a o q => (hK a o q).1, ⟨c1, c2, c3, c4, c5, c6, c7, c8⟩, ?_⟩
    have lt : x + 214 + 61 < s.heap.objs.size := Heap.lt_size c3
    omega
  have hl : s.heap.IsList l (pl.map strV).toArray := ⟨_, g0, rfl, epS po, by rw [hpl]; rfl⟩
  refine sorted_key ha (by omega) (by omega) h2 h64 V hl fun h' tk D out c kept hD so hD2 => ?_
  have hlt : D < h'.objs.size := Heap.lt_size hD2
  have es : out.map (·.1) = srtB cmpLt (pl.map (·.1)) := by
    refine srtB_is cmp_tot (so.1.map _) ?_
    rw [List.pairwise_map]
    exact so.2
  obtain ⟨y, rfl⟩ : ∃ y : Nat, D = y + 214 := ⟨Nat.sub D 214, (Nat.sub_add_cancel (Nat.le_trans hB hD)).symm⟩
  have hs2 : h'.objs.size = h'.objs.size - 214 + 214 := by omega
  refine h [dn y, dT out, dn c, dn (h'.objs.size - 214), dn tk] h' rfl ⟨hs2, ?_, ⟨kept _ _ g0, kept _ _ c1, kept _ _ c2, kept _ _ c3, kept _ _ c4, kept _ _ c5, kept _ _ c6, kept _ _ c7, kept _ _ c8, trivial⟩, ?_, List.nodup_cons.mpr ⟨by simp, List.nodup_nil⟩, fun b o q _ => kept b o q⟩
  · show s.heap.objs.size ≤ h'.objs.size - 214 + 214
    omega
  · intro q hq
    rw [List.mem_singleton.mp hq]
    refine ⟨?_, hD⟩
    show h'.get? (y + 214) = some (lst (dvals (tag (srtB cmpLt (pl.map (·.1))) (gF 1 _))) c)
    rw [← es, gF_dT rfl]
    exact hD2
end Mine
-- S11
namespace Mine
noncomputable def strLt (a b : Str) : Bool := decide (a.cps.toList < b.cps.toList)
theorem str_tot : TotB strLt where
  asym := fun a b h => decide_eq_false (list_asym (of_decide_eq_true h))
  ntr := fun a b c h k => decide_eq_false (List.not_lt.mpr (List.le_trans (List.not_lt.mp (of_decide_eq_false k)) (List.not_lt.mp (of_decide_eq_false h))))
  tot := fun a b h k => str_ext (list_tot (of_decide_eq_false h) (of_decide_eq_false k))
theorem rising_pw : ∀ (p : Str) (l : List Str), risingS p l = true → (p :: l).Pairwise (fun a b => strLt b a = false)
  | p, [], _ => List.pairwise_singleton _ _
  | p, x :: r, h => by
    have h' : (!PySem.Spec.ltCps x.cps.toList p.cps.toList && risingS x r) = true := h
    rw [Bool.and_eq_true, ltCps_eq] at h'
    have h1 : strLt x p = false := by simpa [strLt] using h'.1
    have ih := rising_pw x r h'.2
    refine List.pairwise_cons.mpr ⟨fun b hb => ?_, ih⟩
    rcases List.mem_cons.mp hb with rfl | hb
    · exact h1
    · exact str_tot.ntr _ _ _ ((List.pairwise_cons.mp ih).1 b hb) h1
theorem sortedS_pw : ∀ l : List Str, sortedS l = true → l.Pairwise (fun a b => strLt b a = false)
  | [], _ => .nil
  | x :: r, h => rising_pw x r h
theorem strsAre_out {vs : List Value} {ss : List Str} (h : StrsAre vs ss) : ∃ l : List (Str × Tok), vs = dvals l ∧ l.map (·.1) = ss := by
  induction h with
  | nil => exact ⟨[], rfl, rfl⟩
  | cons y t _ ih =>
    obtain ⟨l, h1, h2⟩ := ih
    exact ⟨(y, t) :: l, by rw [h1]; rfl, by rw [← h2]; rfl⟩
theorem strsAre_in : ∀ l : List (Str × Tok), StrsAre (dvals l) (l.map (·.1))
  | [] => .nil
  | p :: l => .cons p.1 p.2 (strsAre_in l)
section
variable {w : World} {A : Around} {s : Shared} {R : Result → Shared → Prop}
theorem sorted_plain {l : Addr} {it : List (Str × Tok)} (h64 : it.length < 64) (hl : s.heap.IsList l (dvals it).toArray)
    (h : ∀ h' (out : List (Str × Tok)) D c, Kept s.heap h' → s.heap.objs.size ≤ D → out.map (·.1) = srtB strLt (it.map (·.1)) → h'.get? D = some (lst (dvals out) c) → R (.ok (.ret (.ref D))) { s with heap := h' }) :
    codeAny (model PR w) A (.call (.builtin "sorted") ⟨[.ref l], []⟩) R s := by
  have hS := strsAre_in it
  have hlen : (dvals it).length = it.length := by unfold dvals; rw [List.length_map]
  refine call_fn_code kind_sorted plain_sorted entry_sorted (args_sorted1 _) ?_
  unfold Builtin.«sorted»
  refine wpAny_bind (m := checkCount "sorted" 1 1 _) (wpAny_pure ?_)
  refine wpAny_bind (collect_list hl ?_ (by rw [sizeLine_eq]; first | omega | (simp [hlen]; omega)))
  refine wpAny_bind (wpAny_newList ?_ (by rw [sizeLine_eq]; first | omega | (simp [hlen]; omega)))
  generalize hH1 : (s.heap.push (seqObj "list" #[] 0)).update s.heap.objs.size (Obj.mapSeq (· ++ (dvals it).toArray)) = H1
  have hsz : H1.objs.size = s.heap.objs.size + 1 := by rw [← hH1, Heap.size_update, size_push']
  have hoL : (H1.push (seqObj "list" (dvals it).toArray 0)).get? (s.heap.objs.size + 1) = some (seqObj "list" (dvals it).toArray 0) := by
    rw [← hsz]; exact Heap.get?_push_size _ rfl
  have k1 : Kept s.heap H1 := fun b o q => by
    have hlt : b < s.heap.objs.size := Heap.lt_size q
    rw [← hH1, Heap.get?_update_ne _ _ _ _ (Nat.ne_of_lt hlt), Heap.get?_push_ne _ _ _ (Nat.ne_of_lt hlt)]
    exact q
  show wpAny _ _ _ _ _ { s with heap := H1.push (seqObj "list" (dvals it).toArray 0) }
  rw [hsz]
  refine wpAny_bind (wpAny_holding (wpAny_call_entry slot_list_sort ⟨_, hoL, rfl⟩ entry_list_sort (list_sort_treeK strKind_oneLt hoL hS.keysOf (fun v₁ v₂ rest e => keyKind_strs (by rw [← e]; exact hS)) (by rw [hlen]; exact h64) fun st' a1 a2 => ⟨_, rfl, ?_⟩) (args_list_sort _)))
  obtain ⟨ss', b1, b2, b3⟩ := sorted_out_str hS a1 a2
  obtain ⟨out, c1, c2⟩ := strsAre_out b1
  obtain ⟨c, hc⟩ := sortedHeap_at (out := (arrOf st').map (·.2)) hoL
  have hso : out.map (·.1) = srtB strLt (it.map (·.1)) := by
    rw [c2]
    exact srtB_is str_tot b2 (sortedS_pw _ b3)
  refine wpAny_pure ⟨_, rfl, h _ out (s.heap.objs.size + 1) c (fun b o q => ?_) (Nat.le_succ _) hso ?_⟩
  · have hlt : b < s.heap.objs.size := Heap.lt_size q
    rw [sortedHeap_old (Nat.ne_of_lt (Nat.lt_succ_of_lt hlt)) (by rw [size_push', hsz]; exact Nat.lt_succ_of_lt (Nat.lt_succ_of_lt hlt)), Heap.get?_push_ne _ _ _ (by rw [hsz]; exact Nat.ne_of_lt (Nat.lt_succ_of_lt hlt))]
    exact k1 b o q
  · rw [hc]
    show some (seqObj "list" ((arrOf st').map (·.2)) c) = some (seqObj "list" (dvals out).toArray c)
    rw [← c1]
end
noncomputable def m1Ref : Args → Option Addr
  | ⟨[.ref l], []⟩ => some l
  | _ => none
theorem m1Ref_is {a : Args} {l : Addr} (h : m1Ref a = some l) : a = ⟨[.ref l], []⟩ := by
  unfold m1Ref at h
  split at h
  · cases h; rfl
  · cases h
noncomputable def zST_r (kp : Nat) (c : Code) (l : Addr) (po : Obj) : Summ :=
  { code := c, pre := [l], objs := [lstA (seqA po) (epS po)]
    P := seqA po = ⟨dvals (plA (seqA po))⟩ ∧ (plA (seqA po)).length < 64
    k := 5, b := true
    F := fun _ xs => ⟨.ok (.ret (.ref (gx 0 xs + 214))), [lstA (seqA po) (epS po)], [(gx 0 xs + 214, lst (dvals (tag (srtB strLt (strsA (seqA po))) (gF 1 xs))) (gx 2 xs))], gx 3 xs + 214, gx 4 xs⟩ }
noncomputable def zST (kp : Nat) : Dyn := fun c os => (mBi "sorted" c).bind fun args => (m1Ref args).bind fun l => (nth kp os).map fun po => zST_r kp c l po
theorem zST_ok (w : World) (kp : Nat) : DynOk w (zST kp) 0 := by
  intro c os z e
  obtain ⟨args, e1, e⟩ := Option.bind_eq_some_iff.mp e
  obtain ⟨l, e2, e⟩ := Option.bind_eq_some_iff.mp e
  obtain ⟨po, e3, e5⟩ := Option.map_eq_some_iff.mp e
  rw [← e5]
  unfold zST_r
  intro hP A s R ha hd hu hK hL hB hn hat h
  obtain ⟨hpl, h64⟩ := hP
  show codeAny _ _ c R s
  rw [mBi_is e1, m1Ref_is e2]
  dsimp only at hpl h64 hat h
  have ess : strsA (seqA po) = (plA (seqA po)).map (·.1) := by
    conv => lhs; rw [hpl]
    rw [strsA_dvals]
  rw [ess] at h
  generalize plA (seqA po) = pl at *
  have g0 := hat.1
  have hl : s.heap.IsList l (dvals pl).toArray := ⟨_, g0, rfl, epS po, by rw [hpl]; rfl⟩
  refine sorted_plain h64 hl fun h' out D c kept hD so hD2 => ?_
  have hlt : D < h'.objs.size := Heap.lt_size hD2
  obtain ⟨y, rfl⟩ : ∃ y : Nat, D = y + 214 := ⟨Nat.sub D 214, (Nat.sub_add_cancel (Nat.le_trans hB hD)).symm⟩
  have hs2 : h'.objs.size = h'.objs.size - 214 + 214 := by omega
  refine h [dn y, dT out, dn c, dn (h'.objs.size - 214), dn s.toks] h' rfl ⟨hs2, ?_, ⟨kept _ _ g0, trivial⟩, ?_, List.nodup_cons.mpr ⟨by simp, List.nodup_nil⟩, fun b o q _ => kept b o q⟩
  · show s.heap.objs.size ≤ h'.objs.size - 214 + 214
    omega
  · intro q hq
    rw [List.mem_singleton.mp hq]
    refine ⟨?_, hD⟩
    show h'.get? (y + 214) = some (lst (dvals (tag (srtB strLt (pl.map (·.1))) (gF 1 _))) c)
    rw [← so, gF_dT rfl]
    exact hD2
end Mine
-- X14
set_option maxHeartbeats 0
namespace Mine
noncomputable section
noncomputable def lwEnv (w : World) (lo ce : Nat) : Env := { scope := (fdOf (tpo w 212)).scope, locals := lo, globals := 3, cells := [(Str.ofString "folders", ce)], qual := Str.ofString "law.<locals>.", func := some 212, code := .ref 211, frame := some lo, builtins := 0 }
noncomputable def lwS (w : World) (i : Nat) : Stmt := nthS i (stOf (tpo w 212))
end
end Mine
-- R5
namespace Mine
open PySem.W.R (bindR onRaiseR)
noncomputable section
noncomputable def cpR (elt target iter : PySem.Expr) (ifs : List PySem.Expr) (sc : Scope) (pos : Pos) (it acc : Value) (env : Env) : RTree PySem.Fin :=
  .calm (.bind (.sem (standAt iter.pos)) fun _ => .bind (.sem (PySem.W.ZFast.zw9404975358583537561 it)) fun o => match o with
    | none => .sem (pure (.done .next))
    | some v => .bind (letR target it v) fun _ => .bind (.sem (PySem.W.ZFast.zw17772580674575903948 target env v)) fun _ =>
      .bind (.sem (forIn ifs true fun c r => if r = true then (zIt c env (zEv c env) >>= fun ok => pure (ForInStep.yield ok)) else pure (ForInStep.yield r))) fun ok => match ok with
        | true => .bind (.sem (zEv elt env >>= fun y => call (.builtin "list.append") [acc, y] >>= fun _ => pure ())) fun _ => .sem (PySem.again (.compLoop (.ListComp elt [⟨target, iter, ifs, 0⟩] sc pos) 0 it acc env))
        | false => .sem (PySem.again (.compLoop (.ListComp elt [⟨target, iter, ifs, 0⟩] sc pos) 0 it acc env)))
noncomputable def lcPar (e : PySem.Expr) : Option (PySem.Expr × List Comprehension × Scope × Pos) := match e with
  | .ListComp a g s p => some (a, g, s, p)
  | _ => none
noncomputable def isZ (n : Nat) : Option Unit := match n with
  | 0 => some ()
  | _ + 1 => none
noncomputable def isZI (n : Int) : Option Unit := match n with
  | .ofNat m => isZ m
  | .negSucc _ => none
noncomputable def gen1 (g : List Comprehension) : Option (PySem.Expr × PySem.Expr × List PySem.Expr) := match g with
  | [⟨t, i, f, a⟩] => (isZI a).map fun _ => (t, i, f)
  | _ => none
noncomputable def sCP : Sb := fun c => match c with
  | .compLoop X k it acc env => (lcPar X).bind fun q => (gen1 q.2.1).bind fun g => (isZ k).map fun _ => cpR q.1 g.1 g.2.1 g.2.2 q.2.2.1 q.2.2.2 it acc env
  | _ => none
end
section
variable {M : Model} {A : Around}
theorem cp_eq (elt target iter : PySem.Expr) (ifs : List PySem.Expr) (sc : Scope) (pos : Pos) (it acc : Value) (env : Env) : denote treeTable (.compLoop (.ListComp elt [⟨target, iter, ifs, 0⟩] sc pos) 0 it acc env) =
    (standAt iter.pos >>= fun _ => pyNext it >>= fun o => match o with
      | none => pure (.done .next)
      | some v => letOwnedTupleGo target it v >>= fun _ => assign target env v >>= fun _ =>
        (forIn ifs true fun c r => if r = true then (PySem.isTrue c env (eval c env) >>= fun ok => pure (ForInStep.yield ok)) else pure (ForInStep.yield r)) >>= fun ok =>
          if ok = true then ((eval elt env >>= fun y => call (.builtin "list.append") [acc, y] >>= fun _ => pure ()) >>= fun _ => PySem.again (.compLoop (.ListComp elt [⟨target, iter, ifs, 0⟩] sc pos) 0 it acc env))
          else PySem.again (.compLoop (.ListComp elt [⟨target, iter, ifs, 0⟩] sc pos) 0 it acc env)).onRaise (fun x => noteFrame x env >>= fun _ => theTreesLotGoes x) := by kernel_rfl
theorem dn_cp (elt target iter : PySem.Expr) (ifs : List PySem.Expr) (sc : Scope) (pos : Pos) (it acc : Value) (env : Env) : Dn M A (denote treeTable (.compLoop (.ListComp elt [⟨target, iter, ifs, 0⟩] sc pos) 0 it acc env)) (cpR elt target iter ifs sc pos it acc env) := by
  rw [cp_eq]
  unfold cpR
  simp only [zev_is, zit_is]
  rw [← PySem.W.ZFast.ze9404975358583537561, ← PySem.W.ZFast.ze17772580674575903948]
  refine Dn.calm (Dn.bind Dn.rfl fun _ => Dn.bind Dn.rfl fun o => ?_)
  cases o with
  | none => exact Dn.rfl
  | some v =>
    refine Dn.bind dn_let fun _ => Dn.bind Dn.rfl fun _ => Dn.bind Dn.rfl fun ok => ?_
    cases ok with
    | true => exact Dn.bind Dn.rfl fun _ => Dn.rfl
    | false => exact Dn.rfl
end
theorem lcPar_is {e : PySem.Expr} {q : PySem.Expr × List Comprehension × Scope × Pos} (h : lcPar e = some q) : e = .ListComp q.1 q.2.1 q.2.2.1 q.2.2.2 := by
  cases e <;> cases h <;> rfl
theorem isZ_is {n : Nat} {u : Unit} (h : isZ n = some u) : n = 0 := by
  cases n with
  | zero => rfl
  | succ n => cases h
theorem isZI_is {n : Int} {u : Unit} (h : isZI n = some u) : n = 0 := by
  cases n with
  | ofNat m => rw [isZ_is h]; rfl
  | negSucc m => cases h
theorem gen1_is {g : List Comprehension} {q : PySem.Expr × PySem.Expr × List PySem.Expr} (h : gen1 g = some q) : g = [⟨q.1, q.2.1, q.2.2, 0⟩] := by
  rcases g with _ | ⟨⟨t, i, f, a⟩, _ | ⟨y, l⟩⟩
  · cases h
  · obtain ⟨u, e1, e2⟩ := Option.map_eq_some_iff.mp h
    cases e2
    rw [isZI_is e1]
  · cases h
theorem sCP_ok {prog : Program} {w : World} : SbOk prog w sCP := by
  intro c r e A hd hu
  cases c with
  | compLoop X k it acc env =>
    obtain ⟨q, e1, e⟩ := Option.bind_eq_some_iff.mp e
    obtain ⟨g, e2, e⟩ := Option.bind_eq_some_iff.mp e
    obtain ⟨u, e3, e⟩ := Option.map_eq_some_iff.mp e
    rw [← e, lcPar_is e1, gen1_is e2, isZ_is e3]
    exact dn_cp _ _ _ _ _ _ _ _ _
  | _ => cases e
end Mine
-- S12
namespace Mine
noncomputable def eAt (l l' : List (Str × Tok)) (j : Nat) : Bool := (l[j]?.map (·.1)).getD Str.empty == (l'[j]?.map (·.1)).getD Str.empty
theorem all_eAt {l l' : List (Str × Tok)} (h : l.length = l'.length) : (List.range l.length).all (eAt l l') = decide (l.map (·.1) = l'.map (·.1)) := by
  rw [Bool.eq_iff_iff, List.all_eq_true, decide_eq_true_eq]
  constructor
  · intro H
    refine List.ext_getElem (by simp [h]) fun j h1 h2 => ?_
    have hj : j < l.length := by simpa using h1
    have hj' : j < l'.length := by simpa using h2
    have z := H j (List.mem_range.mpr hj)
    unfold eAt at z
    rw [List.getElem?_eq_getElem hj, List.getElem?_eq_getElem hj'] at z
    simpa using z
  · intro H j hj
    have hj : j < l.length := List.mem_range.mp hj
    have hj' : j < l'.length := by omega
    have z : (l.map (·.1))[j]? = (l'.map (·.1))[j]? := by rw [H]
    unfold eAt
    rw [List.getElem?_map, List.getElem?_map] at z
    rw [z]
    simp
noncomputable def lqId (ne : Bool) : String := match ne with | true => "list.__ne__" | false => "list.__eq__"
noncomputable def zLQ_r (ne : Bool) (ka kb : Nat) (c : Code) (p : Addr × Addr) (ao : Obj) (bo : Obj) : Summ :=
  { code := c, pre := [p.1, p.2], objs := [lstA (seqA ao) (epS ao), lstA (seqA bo) (epS bo)]
    P := seqA ao = ⟨dvals (plA (seqA ao))⟩ ∧ seqA bo = ⟨dvals (plA (seqA bo))⟩
    k := 2, b := decide (strsA (seqA ao) = strsA (seqA bo))
    F := fun v xs => ⟨.ok (.ret (.bool (@Bool.rec (fun _ => Bool) v (!v) ne))), [lstA (seqA ao) (epS ao), lstA (seqA bo) (epS bo)], [], gx 0 xs + 214, gx 1 xs⟩ }
noncomputable def zLQ (ne : Bool) (ka kb : Nat) : Dyn := fun c os => (mBi (lqId ne) c).bind fun args => (mRR args).bind fun p => (nth ka os).bind fun ao => (nth kb os).map fun bo => zLQ_r ne ka kb c p ao bo
theorem zLQ_ok (w : World) (ne : Bool) (ka kb : Nat) : DynOk w (zLQ ne ka kb) 0 := by
  intro c os z e
  obtain ⟨args, e1, e⟩ := Option.bind_eq_some_iff.mp e
  obtain ⟨⟨p, q⟩, e2, e⟩ := Option.bind_eq_some_iff.mp e
  obtain ⟨ao, e3, e⟩ := Option.bind_eq_some_iff.mp e
  obtain ⟨bo, e4, e5⟩ := Option.map_eq_some_iff.mp e
  rw [← e5]
  unfold zLQ_r
  intro hP A s R ha hd hu hK hL hB hn hat h
  obtain ⟨ha1, hb1⟩ := hP
  show codeAny _ _ c R s
  rw [mBi_is e1, mRR_is e2]
  dsimp only at ha1 hb1 hat h
  have es1 : strsA (seqA ao) = (plA (seqA ao)).map (·.1) := by
    conv => lhs; rw [ha1]
    rw [strsA_dvals]
  have es2 : strsA (seqA bo) = (plA (seqA bo)).map (·.1) := by
    conv => lhs; rw [hb1]
    rw [strsA_dvals]
  rw [es1, es2] at h
  generalize plA (seqA ao) = l at *
  generalize plA (seqA bo) = l' at *
  obtain ⟨g1, g2, _⟩ := hat
  have s1 : (seqA ao).size = l.length := by rw [ha1]; show (dvals l).length = _; unfold dvals; rw [List.length_map]
  have s2 : (seqA bo).size = l'.length := by rw [hb1]; show (dvals l').length = _; unfold dvals; rw [List.length_map]
  have hty : s.TypeIs (.ref p) "list" := (show s.heap.IsList p (seqA ao) from ⟨_, g1, rfl, epS ao, rfl⟩).typeIs
  have fin : R (.ok (.ret (.bool (@Bool.rec (fun _ => Bool) (decide (l.map (·.1) = l'.map (·.1))) (!(decide (l.map (·.1) = l'.map (·.1)))) ne)))) s :=
    h [dn (s.heap.objs.size - 214), dn s.toks] s.heap rfl ⟨by show _ = _ - 214 + 214; omega, by show _ ≤ _ - 214 + 214; omega, ⟨g1, g2, trivial⟩, (fun y hy => nomatch hy), List.nodup_nil, fun b o e _ => e⟩
  have he : ∀ j (h1 : j < (seqA ao).size) (h2 : j < (seqA bo).size), SeqAt.EqAt A.in1 s (seqA ao)[j] (seqA bo)[j] (eAt l l' j) := by
    intro j h1 h2
    have j1 : j < l.length := by omega
    have j2 : j < l'.length := by omega
    have v1 : (seqA ao)[j] = .str l[j].1 l[j].2 := by
      have : (seqA ao)[j]? = some (.str l[j].1 l[j].2) := by rw [ha1, dvals_get, List.getElem?_eq_getElem j1]; rfl
      rw [Array.getElem?_eq_getElem h1] at this
      exact Option.some.inj this
    have v2 : (seqA bo)[j] = .str l'[j].1 l'[j].2 := by
      have : (seqA bo)[j]? = some (.str l'[j].1 l'[j].2) := by rw [hb1, dvals_get, List.getElem?_eq_getElem j2]; rfl
      rw [Array.getElem?_eq_getElem h2] at this
      exact Option.some.inj this
    rw [v1, v2]
    have e0 : eAt l l' j = (l[j].1 == l'[j].1) := by
      unfold eAt
      rw [List.getElem?_eq_getElem j1, List.getElem?_eq_getElem j2]
      rfl
    rw [e0]
    exact SeqAt.EqAt.str_str _ _ _ _
  cases ne with
  | false =>
    by_cases hl : l.length = l'.length
    · refine codeAny_call_builtin F.slot_list_eq.plain F.entry_list_eq (F.slot_list_eq.check _ _ _ _ _ _ _ _ hty (F.args_list_eq_2 _ _) (SeqAt.list_eqAt p q (seqA ao) (seqA bo) _ _ _ _ _ _ (by omega) (eAt l l') _ _ _ R s ⟨g1, g2, he, ?_⟩))
      rw [s1, all_eAt hl]
      exact fin
    · refine codeAny_call_builtin F.slot_list_eq.plain F.entry_list_eq (F.slot_list_eq.check _ _ _ _ _ _ _ _ hty (F.args_list_eq_2 _ _) (SeqAt.list_eq_lengthsAt p q (seqA ao) (seqA bo) _ _ _ _ _ _ (by simp; omega) _ _ _ R s ⟨g1, g2, ?_⟩))
      have : decide (l.map (·.1) = l'.map (·.1)) = false := decide_eq_false fun H => hl (by simpa using congrArg List.length H)
      rw [this] at fin
      exact fin
  | true =>
    by_cases hl : l.length = l'.length
    · refine codeAny_call_builtin F.slot_list_ne.plain F.entry_list_ne (F.slot_list_ne.check _ _ _ _ _ _ _ _ hty (F.args_list_ne_2 _ _) (SeqAt.list_neAt p q (seqA ao) (seqA bo) _ _ _ _ _ _ (by omega) (eAt l l') _ _ _ R s ⟨g1, g2, he, ?_⟩))
      rw [s1, all_eAt hl]
      exact fin
    · refine codeAny_call_builtin F.slot_list_ne.plain F.entry_list_ne (F.slot_list_ne.check _ _ _ _ _ _ _ _ hty (F.args_list_ne_2 _ _) (SeqAt.list_ne_lengthsAt p q (seqA ao) (seqA bo) _ _ _ _ _ _ (by simp; omega) _ _ _ R s ⟨g1, g2, ?_⟩))
      have : decide (l.map (·.1) = l'.map (·.1)) = false := decide_eq_false fun H => hl (by simpa using congrArg List.length H)
      rw [this] at fin
      exact fin
end Mine
-- X15
set_option maxHeartbeats 0
namespace Mine
noncomputable section
noncomputable def lwR (k a : Int) : Int := Int.fmod (k + a) 4096
noncomputable def lwSG (a b c : Int) (ρ : Stream) : Obj := lst [.str (fmS (16384 + lwR 493 a)) (ρ 0).n, .str (fmS (16384 + lwR 64 b)) (ρ 3).n, .str (fmS (16384 + lwR 320 c)) (ρ 6).n] 3
noncomputable def lwSL (a b c : Int) (ρ : Stream) : Obj := lst [.str (lsS (lwR 493 a)) (ρ 9).n, .str (lsS (lwR 64 b)) (ρ 12).n, .str (lsS (lwR 320 c)) (ρ 15).n] 3
noncomputable def lwV1 (w : World) (x T lo ce fo ad t0 t1 u0 u1 u2 : Nat) (a b c : Int) (sv : Value) (F : KF Flow) (ρ : Stream) : VT :=
  chain [(false, false), (false, false), (false, false)] (.claim (fmOk (16384 + lwR 493 a) = true) (chain [(true, true), (false, false)] (.claim (fmOk (16384 + lwR 64 b) = true) (chain [(true, true), (false, false)] (.claim (fmOk (16384 + lwR 320 c) = true) (chain [(true, true), (false, false)]
    (.claim True (chain [(true, true), (false, false)] (.claim True (chain [(true, true), (false, false)] (.claim True (chain [(true, true), (false, false)]
      (.claim (seqA (lwSG a b c ρ) = ⟨dvals (plA (seqA (lwSG a b c ρ)))⟩ ∧ seqA (lwSL a b c ρ) = ⟨dvals (plA (seqA (lwSL a b c ρ)))⟩)
        (chain [(decide (strsA (seqA (lwSG a b c ρ)) = strsA (seqA (lwSL a b c ρ))), true), (zAnd (16384 + lwR 493 a) 61440 == 16384, true), (false, false), (zAnd (16384 + lwR 64 b) 61440 == 16384, true), (false, false), (zAnd (16384 + lwR 320 c) 61440 == 16384, true), (false, false), (true, true), (false, false), (false, false)]
          (.leaf (F (.ok .next) ((ρ 18).n + 214 + 13) ((ρ 19).n + 22) [(lo + 214, loc [eo w "script" t0 sv, en w "added" t1 (.ref (ad + 214)), en w "rights" (T + 18) (.ref (x + 214 + 6)), en w "signs" (ρ 8).n (.ref (x + 214 + 23))] 4), (ce + 214, pCell (some (.ref (fo + 214)))),
            (fo + 214, lst [.str (Str.ofString "/a") u0, .str (Str.ofString "/a/b") u1, .str (Str.ofString "/c") u2] 0), (x + 214 + 6, lst [.int (lwR 493 a) (T + 7), .int (lwR 64 b) (T + 12), .int (lwR 320 c) (T + 17)] 3), (x + 214 + 23, lwSG a b c ρ)]))))))))))))))))
end
end Mine
-- X16
set_option maxHeartbeats 0
namespace Mine
noncomputable section
noncomputable def slA (xs : Array Value) (lo hi : Int) : Array Value := ((sliceRange lo (max 0 (min hi (Nat.cast xs.size))) 1).filterMap (xs[·]?)).toArray
noncomputable def lwZ (xs : Array Value) (z : Nat) : Array Value := repA #[.int 0 z] (3 - (Nat.cast (slA xs 0 3).size : Int))
noncomputable def lwV0 (w : World) (x T lo ce t0 : Nat) (xs : Array Value) (ep : Nat) (F : KF Flow) (ρ : Stream) : VT :=
  chain [(decide ((slA xs 0 3).size > 16777216), false), (decide ((slA xs 0 3).size > 16777216), false), (false, false), (decide ((Nat.cast (slA xs 0 3).size : Int) ≥ (2 : Int) ^ 63), false), (Builtin.List.listFitsIndex (3 - (Nat.cast (slA xs 0 3).size : Int)), true),
    (decide (1 * (3 - (Nat.cast (slA xs 0 3).size : Int)).toNat > 16777216), false), (decide ((lwZ xs (T + 4)).size > 16777216), false), (decide ((slA xs 0 3 ++ lwZ xs (T + 4)).size > 16777216), false)]
    (.leaf (F (.ok .next) (x + 214 + 12) (T + 11) [(lo + 214, loc [eo w "script" t0 (.ref 213), en w "added" (T + 10) (.ref (x + 214 + 7))] 2), (ce + 214, pCell (some (.ref (x + 214)))), (213, lstA xs ep),
      (x + 214, lst [.str (Str.ofString "/a") T, .str (Str.ofString "/a/b") (T + 1), .str (Str.ofString "/c") (T + 2)] 0), (x + 214 + 7, lstA (slA xs 0 3 ++ lwZ xs (T + 4)) 0)]))
end
end Mine
-- X17
set_option maxHeartbeats 0
namespace Mine
noncomputable section
noncomputable def lwCl (s : Str) : Bool := !(strEqB (chS s 1) (Str.ofString "r")) || !(strHas (Str.ofString "xs") (chS s 3))
noncomputable def lwCR (lf : List Value → Nat → VT) (l : List (Value × Str)) (acc : List Value) (n : Nat) : VT := @List.rec (Value × Str) (fun _ => List Value → Nat → VT) lf
  (fun p _ ih acc n => chain [(false, false), ((chO p.2 1).isSome, true)] (.dec (!(strEqB (chS p.2 1) (Str.ofString "r")))
    (chain [(false, false), ((chO p.2 3).isSome, true)] (.dec (strHas (Str.ofString "xs") (chS p.2 3)) (chain [(false, false)] (ih (acc ++ [p.1]) (n + 3))) (ih acc (n + 3))))
    (chain [(false, false)] (ih (acc ++ [p.1]) n)))) l acc n
noncomputable def lwV2 (w : World) (x T lo ce fo sg t0 t1 t2 t3 u0 u1 u2 : Nat) (s0 s1 s2 : Str) (v0 v1 v2 ep : Nat) (sv av rv : Value) (F : KF Flow) (ρ : Stream) : VT :=
  lwCR (fun acc n => .leaf (F (.ok .next) (x + 214 + 21) (T + (16 + n)) [(lo + 214, loc [eo w "script" t0 sv, en w "added" t1 av, en w "rights" t2 rv, en w "signs" t3 (.ref (sg + 214)), en w "closed" (T + (15 + n)) (.ref (x + 214 + 5))] 5),
    (ce + 214, pCell (some (.ref (fo + 214)))), (fo + 214, lst [.str (Str.ofString "/a") u0, .str (Str.ofString "/a/b") u1, .str (Str.ofString "/c") u2] 0), (sg + 214, lst [.str s0 v0, .str s1 v1, .str s2 v2] ep), (x + 214 + 5, lst acc acc.length)]))
    [(.str (Str.ofString "/a") u0, s0), (.str (Str.ofString "/a/b") u1, s1), (.str (Str.ofString "/c") u2, s2)] [] 0
end
theorem lwCR_h {lf : List Value → Nat → VT} : ∀ (l : List (Value × Str)) (acc : List Value) (n : Nat), (∀ p ∈ l, (chO p.2 1).isSome = true ∧ (chO p.2 3).isSome = true) → (∀ n', (lf (acc ++ (l.filter fun p => lwCl p.2).map (·.1)) n').Holds) → (lwCR lf l acc n).Holds
  | [], acc, n, _, h => by
    have := h n
    rwa [List.filter_nil, List.map_nil, List.append_nil] at this
  | p :: l, acc, n, hs, h => by
    obtain ⟨h1, h3⟩ := hs p (.head _)
    have hs' : ∀ p ∈ l, (chO p.2 1).isSome = true ∧ (chO p.2 3).isSome = true := fun q hq => hs q (.tail _ hq)
    have add : lwCl p.2 = true → ∀ n, (lwCR lf l (acc ++ [p.1]) n).Holds := fun hc n => lwCR_h l _ n hs' fun n' => by
      have := h n'
      rw [List.filter_cons, hc, if_pos rfl, List.map_cons] at this
      rwa [List.append_assoc, List.singleton_append]
    have no : lwCl p.2 = false → ∀ n, (lwCR lf l acc n).Holds := fun hc n => lwCR_h l _ n hs' fun n' => by
      have := h n'
      rwa [List.filter_cons, hc, if_neg Bool.false_ne_true] at this
    refine chain_h (l := [(false, false), ((chO p.2 1).isSome, true)]) (by rw [h1]; rfl) ⟨fun q => chain_h (l := [(false, false), ((chO p.2 3).isSome, true)]) (by rw [h3]; rfl) ⟨fun q2 => chain_h rfl (add ?_ _), fun q2 => no ?_ _⟩, fun q => chain_h rfl (add ?_ _)⟩
    · unfold lwCl; rw [q2]; simp
    · unfold lwCl; rw [q, q2]; rfl
    · unfold lwCl; rw [q]; rfl
end Mine
-- X18
set_option maxHeartbeats 0
namespace Mine
noncomputable section
structure CV where
  (lo ce it ac lc li fo : Nat)
noncomputable def lcEnv (w : World) (X : PySem.Expr) (cl : List (Str × Addr)) (C : CV) : Env := compEnvC (lcSc X) cl (C.lc + 214) (lwEnv w (C.lo + 214) (C.ce + 214))
noncomputable def lcLp (w : World) (X : PySem.Expr) (cl : List (Str × Addr)) (C : CV) : Code := .compLoop X 0 (.ref (C.it + 214)) (.ref (C.ac + 214)) (lcEnv w X cl C)
noncomputable def ns0 : Obj := { cls := .type "dict", data := .dict #[] 0 }
noncomputable def ns1 (w : World) (n : String) (t : Tok) (v : Value) : Obj := { cls := .type "dict", data := .dict #[en w n t v] 1 }
noncomputable def itE (k : Nat) : Obj := { cls := .type "list_iterator", data := .fields #[.none, .int (k : Nat) 0] }
noncomputable def pcX (w : World) : PySem.Expr := asgV (lwS w 5)
noncomputable def pcC (C : CV) : List (Str × Addr) := [(Str.ofString "folders", C.ce + 214)]
end
end Mine
-- C1
namespace Mine
noncomputable def NsK (w : World) (nm : String) (k : Nat) (ns : Obj) : Prop := (k = 0 ∧ ns = ns0) ∨ (0 < k ∧ ∃ t v, ns = ns1 w nm t v)
noncomputable def lcO (it : Obj) (l : List (Str × Tok)) (ep : Nat) (ns : Obj) (its : Array Value) (lep : Nat) (ro : List Obj) : List Obj := it :: lst (dvals l) ep :: ns :: lstA its lep :: ro
noncomputable def TurnOk (w : World) (A : Around) (c : Code) (D : List Nat) (nm : String) (li : Nat) (its : Array Value) (lep : Nat) (ro : List Obj) (g : Value → List Str) : Prop :=
  ∀ (k : Nat) (v : Value) (s : Shared) (l : List (Str × Tok)) (ep : Nat) (ns : Obj) (R : Result → Shared → Prop), its[k]? = some v → l.length ≤ k → Bs w s.heap D → At s.heap D (lcO (itO li k) l ep ns its lep ro) → D.Nodup → NsK w nm k ns →
    (∀ h' t' m l' ep' ns', End s.heap h' D m (D.zip (lcO (itO li (k + 1)) l' ep' ns' its lep ro)) → NsK w nm (k + 1) ns' → l'.map (·.1) = l.map (·.1) ++ g v → l'.length ≤ k + 1 → codeAny (model PR w) A c R ⟨h', s.gens, s.drawn, t', s.os⟩) → codeAny (model PR w) A c R s
noncomputable def EndOk (w : World) (A : Around) (c : Code) (D : List Nat) (nm : String) (li : Nat) (its : Array Value) (lep : Nat) (ro : List Obj) : Prop :=
  ∀ (s : Shared) (l : List (Str × Tok)) (ep : Nat) (ns : Obj) (R : Result → Shared → Prop), l.length ≤ its.size → Bs w s.heap D → At s.heap D (lcO (itO li its.size) l ep ns its lep ro) → D.Nodup → NsK w nm its.size ns →
    (∀ h' t' m, End s.heap h' D m (D.zip (lcO (itE its.size) l ep ns its lep ro)) → R (.ok .next) ⟨h', s.gens, s.drawn, t', s.os⟩) → codeAny (model PR w) A c R s
structure OutG (h h' : Heap) (D : List Nat) (post : List Obj) : Prop where
  ge : h.objs.size ≤ h'.objs.size
  at' : At h' D post
  keep : ∀ b o, h.get? b = some o → b ∉ D → h'.get? b = some o
theorem End.outG {h h' : Heap} {D : List Nat} {n : Nat} {post : List Obj} (E : End h h' D n (D.zip post)) (hlen : D.length = post.length) : OutG h h' D post := by
  have hm : (D.zip post).map (·.1) = D := by rw [List.map_fst_zip]; omega
  have ho : (D.zip post).map (·.2) = post := by rw [List.map_snd_zip]; omega
  have a := E.toAt
  rw [hm, ho] at a
  exact ⟨by rw [E.size]; exact E.ge, a, E.keep⟩
theorem OutG.good {h h' : Heap} {D : List Nat} {post : List Obj} {t : Nat} (E : OutG h h' D post) (hB : 214 ≤ h.objs.size) : OutGood h h' D ⟨.ok .next, post, [], (h'.objs.size - 214) + 214, t⟩ :=
  ⟨by show _ = _ - 214 + 214; have := E.ge; omega, by show _ ≤ _ - 214 + 214; have := E.ge; omega, E.at', (fun y hy => nomatch hy), List.nodup_nil, E.keep⟩
section
variable {w : World} {A : Around} {c : Code} {D : List Nat} {nm : String} {li : Nat} {its : Array Value} {lep : Nat} {ro : List Obj} {g : Value → List Str}
theorem lc_loop (ht : TurnOk w A c D nm li its lep ro g) (he : EndOk w A c D nm li its lep ro) : ∀ (m k : Nat) (s : Shared) (l : List (Str × Tok)) (ep : Nat) (ns : Obj) (R : Result → Shared → Prop), its.size = k + m → l.length ≤ k → Bs w s.heap D →
    At s.heap D (lcO (itO li k) l ep ns its lep ro) → D.Nodup → NsK w nm k ns →
    (∀ h' t' l' ep' ns', OutG s.heap h' D (lcO (itE its.size) l' ep' ns' its lep ro) → NsK w nm its.size ns' → l'.map (·.1) = l.map (·.1) ++ (its.toList.drop k).flatMap g → R (.ok .next) ⟨h', s.gens, s.drawn, t', s.os⟩) → codeAny (model PR w) A c R s := by
  intro m
  induction m with
  | zero =>
    intro k s l ep ns R hk hl b hat hn hns h
    have hk : k = its.size := by omega
    subst hk
    refine he s l ep ns R hl b hat hn hns fun h' t' m E => h h' t' l ep ns (E.outG hat.len) hns ?_
    rw [List.drop_eq_nil_of_le (by simp), List.flatMap_nil, List.append_nil]
  | succ m ih =>
    intro k s l ep ns R hk hl b hat hn hns h
    have hlt : k < its.size := by omega
    refine ht k its[k] s l ep ns R (Array.getElem?_eq_getElem hlt) hl b hat hn hns fun h' t' n l' ep' ns' E hns' hl' hlen' => ?_
    have hlen : D.length = (lcO (itO li (k + 1)) l' ep' ns' its lep ro).length := hat.len
    have G := E.outG hlen
    have b' := b.step E
    have hm : (D.zip (lcO (itO li (k + 1)) l' ep' ns' its lep ro)).map (·.1) = D := by rw [List.map_fst_zip]; omega
    rw [hm] at b'
    refine ih (k + 1) ⟨h', s.gens, s.drawn, t', s.os⟩ l' ep' ns' R (by omega) hlen' b' G.at' hn hns' fun h2 t2 l2 ep2 ns2 G2 hns2 e2 => h h2 t2 l2 ep2 ns2 ⟨Nat.le_trans G.ge G2.ge, G2.at', fun b o q hb => G2.keep b o (G.keep b o q hb) hb⟩ hns2 ?_
    have e3 : its.toList.drop k = its[k] :: its.toList.drop (k + 1) := by
      rw [List.drop_eq_getElem_cons (i := k) (by simpa using hlt)]
      rfl
    rw [e2, hl', List.append_assoc, e3, List.flatMap_cons]
end
noncomputable def mCl (c : Code) : Option (Nat × Nat × Nat) := match c with
  | .compLoop _ _ (.ref it) (.ref ac) env => some (it, ac, env.locals)
  | _ => none
noncomputable def itLi (o : Obj) : Nat := match o.data with
  | .fields vs => match vs.toList with
    | .ref a :: _ => a
    | _ => 0
  | _ => 0
noncomputable section
noncomputable def nsZ (w : World) (nm : String) (z : Bool) (t : Tok) (v : Value) : Obj := @Bool.rec (fun _ => Obj) ns0 (ns1 w nm t v) z
noncomputable def zLC_r (w : World) (X : PySem.Expr) (cl : List (Str × Addr)) (lo ce : Nat) (D' : List Nat) (ro : List Obj) (nm : String) (z : Bool) (g : Value → List Str) (Pf : Array Value → Prop) (ki kl : Nat) (q : Nat × Nat × Nat) (io : Obj) (lo' : Obj) : Summ :=
  { code := .compLoop X 0 (.ref q.1) (.ref q.2.1) (compEnvC (lcSc X) cl q.2.2 (lwEnv w (lo + 214) (ce + 214)))
    pre := q.1 :: q.2.1 :: q.2.2 :: itLi io :: D'
    objs := lcO (itO (itLi io) 0) [] 0 ns0 (seqA lo') (epS lo') ro
    P := (214 ≤ q.1 ∧ 214 ≤ q.2.1 ∧ 214 ≤ q.2.2 ∧ 214 ≤ itLi io) ∧ Pf (seqA lo') ∧ (seqA lo').isEmpty = !z
    k := 6, b := true
    F := fun _ xs => ⟨.ok .next, lcO (itE (seqA lo').size) (tag ((seqA lo').toList.flatMap g) (gF 0 xs)) (gx 1 xs) (nsZ w nm z (gx 2 xs) (gV 2 xs)) (seqA lo') (epS lo') ro, [], gx 3 xs + 214, gx 4 xs⟩ }
noncomputable def zLC (w : World) (X : PySem.Expr) (cl : List (Str × Addr)) (lo ce : Nat) (D' : List Nat) (ro : List Obj) (nm : String) (z : Bool) (g : Value → List Str) (Pf : Array Value → Prop) (ki kl : Nat) : Dyn := fun c os => (mCl c).bind fun q => (nth ki os).bind fun io => (nth kl os).map fun lo' => zLC_r w X cl lo ce D' ro nm z g Pf ki kl q io lo'
end
theorem zLC_ok {w : World} {X : PySem.Expr} {cl : List (Str × Addr)} {lo ce : Nat} {D' : List Nat} {ro : List Obj} {nm : String} {z : Bool} {g : Value → List Str} {Pf : Array Value → Prop} {ki kl need : Nat}
    (H : ∀ (A : Around) (C : CV) (its : Array Value) (lep : Nat), A.handled = none → A.depth + need < recursionLimit → A.units + 2 * need < cLine → C.lo = lo → C.ce = ce → Pf its →
      TurnOk w A (lcLp w X cl C) ((C.it + 214) :: (C.ac + 214) :: (C.lc + 214) :: (C.li + 214) :: D') nm (C.li + 214) its lep ro g ∧ EndOk w A (lcLp w X cl C) ((C.it + 214) :: (C.ac + 214) :: (C.lc + 214) :: (C.li + 214) :: D') nm (C.li + 214) its lep ro) : DynOk w (zLC w X cl lo ce D' ro nm z g Pf ki kl) need := by
  intro c os zz e
  obtain ⟨⟨it, ac, lc⟩, e1, e⟩ := Option.bind_eq_some_iff.mp e
  obtain ⟨io, e2, e⟩ := Option.bind_eq_some_iff.mp e
  obtain ⟨lo', e3, e5⟩ := Option.map_eq_some_iff.mp e
  rw [← e5]
  unfold zLC_r
  intro hP A s R ha hd hu hK hL hB hn hat h
  obtain ⟨⟨h1, h2, h3, h4⟩, hp, hz⟩ := hP
  dsimp only at h1 h2 h3 h4 hp hz hK hn hat h ⊢
  generalize itLi io = li at *
  obtain ⟨it', rfl⟩ : ∃ y, it = y + 214 := ⟨it - 214, by omega⟩
  obtain ⟨ac', rfl⟩ : ∃ y, ac = y + 214 := ⟨ac - 214, by omega⟩
  obtain ⟨lc', rfl⟩ : ∃ y, lc = y + 214 := ⟨lc - 214, by omega⟩
  obtain ⟨li', rfl⟩ : ∃ y, li = y + 214 := ⟨li - 214, by omega⟩
  generalize seqA lo' = its at *
  generalize epS lo' = lep at *
  obtain ⟨ht, he⟩ := H A ⟨lo, ce, it', ac', lc', li', 0⟩ its lep ha hd hu rfl rfl hp
  refine lc_loop ht he its.size 0 s [] 0 ns0 R (by omega) (Nat.le_refl _) ⟨hK, hL, hB⟩ hat hn (.inl ⟨rfl, rfl⟩) fun h' t' l' ep' ns' G hns e => ?_
  rw [List.map_nil, List.nil_append, List.drop_zero] at e
  obtain ⟨nt, nv, en⟩ : ∃ t v, ns' = nsZ w nm z t v := by
    rcases hns with ⟨e0, rfl⟩ | ⟨h0, t, v, rfl⟩
    · cases z with
      | false => exact ⟨0, .none, rfl⟩
      | true =>
        have : its = #[] := Array.eq_empty_of_size_eq_zero e0
        rw [this] at hz
        cases hz
    · cases z with
      | true => exact ⟨t, v, rfl⟩
      | false =>
        have : its = #[] := Array.isEmpty_iff.mp (show its.isEmpty = true from hz)
        rw [this] at h0
        exact absurd h0 (Nat.lt_irrefl 0)
  subst en
  refine h [dT l', dn ep', ⟨nt, default, nv⟩, dn (h'.objs.size - 214), dn t', dn 0] h' rfl ?_
  have ee : tag (its.toList.flatMap g) (gF 0 [dT l', dn ep', ⟨nt, default, nv⟩, dn (h'.objs.size - 214), dn t', dn 0]) = l' := by
    rw [← e]; exact gF_dT rfl
  rw [ee]
  exact G.good hB
end Mine
-- X19
set_option maxHeartbeats 0
namespace Mine
noncomputable section
noncomputable def pcQ (its : Array Value) (k : Nat) : Option Value := getElem? its (Int.toNat (Nat.cast k))
noncomputable def pcI (its : Array Value) (k : Nat) : Int := intO (pcQ its k)
noncomputable def pcD (u0 u1 u2 : Nat) (i : Int) : Option Value := getElem? #[.str (Str.ofString "/a") u0, .str (Str.ofString "/a/b") u1, .str (Str.ofString "/c") u2] (Int.toNat (Int.fmod i 3))
noncomputable def pcN (T : Nat) (i : Int) : Option Value := getElem? #[.str (Str.ofString "m") (T + 5), .str (Str.ofString "x") (T + 6), .str (Str.ofString "m.t") (T + 7), .str (Str.ofString "pkg") (T + 8)] (Int.toNat (Int.fmod (Int.fdiv i 3) 4))
noncomputable def fitsI (i : Int) : Bool := decide (-9223372036854775808 ≤ i) && decide (i < (2 : Int) ^ 63)
noncomputable def pcW (d n : Str) : List (Bool × Bool) := [(d.length == 0, false), (false, false), (decide ((d ++ Str.ofString "/").length > 16777216), false)]
noncomputable def pcW2 (d n : Str) : List (Bool × Bool) := [((d ++ Str.ofString "/").length == 0, false), (n.length == 0, false), (decide (((d ++ Str.ofString "/") ++ n).length > 16777216), false), (((d ++ Str.ofString "/") ++ n).length == 0, false), (false, false), (decide ((((d ++ Str.ofString "/") ++ n) ++ Str.ofString ".py").length > 16777216), false)]
noncomputable def pcCk (T u0 u1 u2 : Nat) (i : Int) : List (Bool × Bool) := [(fitsI (Int.fmod i 3), true), (decide (0 ≤ Int.fmod i 3), true), (isStrO (pcD u0 u1 u2 i), true)] ++ (pcW (strO (pcD u0 u1 u2 i)) Str.empty ++ ([(fitsI (Int.fmod (Int.fdiv i 3) 4), true), (decide (0 ≤ Int.fmod (Int.fdiv i 3) 4), true), (isStrO (pcN T i), true)] ++ pcW2 (strO (pcD u0 u1 u2 i)) (strO (pcN T i))))
noncomputable def pcS (T u0 u1 u2 : Nat) (i : Int) : Str := ((strO (pcD u0 u1 u2 i) ++ Str.ofString "/") ++ strO (pcN T i)) ++ Str.ofString ".py"
noncomputable def pcP (T u0 u1 u2 : Nat) (i : Int) : Value := .str (pcS T u0 u1 u2 i) (T + 15)
noncomputable def pcRo (C : CV) (u0 u1 u2 : Nat) : List Obj := [pCell (some (.ref (C.fo + 214))), lst [.str (Str.ofString "/a") u0, .str (Str.ofString "/a/b") u1, .str (Str.ofString "/c") u2] 0]
noncomputable def pcAds (C : CV) : List Nat := [C.it + 214, C.ac + 214, C.lc + 214, C.li + 214, C.ce + 214, C.fo + 214]
noncomputable def pcV (w : World) (x T : Nat) (C : CV) (its : Array Value) (k : Nat) (acs : Array Value) (ep li u0 u1 u2 tx : Nat) (ns : Obj) (F : KF PySem.Fin) (ρ : Stream) : VT :=
  .dec (isIntO (pcQ its k)) (chain [((pcQ its k).isSome, false)] (.leaf (F (.ok (.done .next)) (x + 214 + 2) T ((pcAds C).zip (itE k :: lstA acs ep :: ns :: lstA its li :: pcRo C u0 u1 u2)))))
    (chain (pcCk T u0 u1 u2 (pcI its k)) (chain [(decide ((acs.push (pcP T u0 u1 u2 (pcI its k))).size > 16777217), false)] (.leaf (F (.ok (.again (lcLp w (pcX w) (pcC C) C))) (x + 214 + 1) (T + 16) ((pcAds C).zip
      (itO (C.li + 214) (k + 1) :: lstA (acs.push (pcP T u0 u1 u2 (pcI its k))) (if ((acs.push (pcP T u0 u1 u2 (pcI its k))).size == acs.size) = true then ep else ep + 1) :: ns1 w "x" tx (.int (pcI its k) (tokO (pcQ its k))) :: lstA its li :: pcRo C u0 u1 u2))))))
end
end Mine
-- L3
set_option maxHeartbeats 0
namespace Mine
noncomputable def q_pc0 (W : World) (w : World) (x T : Nat) (C : CV) (its : Array Value) (k : Nat) (acs : Array Value) (ep : Nat) (li : Nat) (u0 : Nat) (u1 : Nat) (u2 : Nat) (F : KF PySem.Fin) (ρ : Stream) : VT := (ex ⟨PR, W.params⟩ (mkZ w [] [] [sMO, sDI, sGX]) 2500).s PySem.Fin 14 (zden (lcLp w (pcX w) (pcC C) C)) [1, 0, 1, 2, 22, 1, 1, 4, 2] ⟨[C.it + 214, C.ac + 214, C.lc + 214, C.li + 214, C.ce + 214, C.fo + 214], [itO (C.li + 214) k, lstA acs ep, ns0, lstA its li, pCell (some (.ref (C.fo + 214))), lst [.str (Str.ofString "/a") u0, .str (Str.ofString "/a/b") u1, .str (Str.ofString "/c") u2] 0], (x + 214), 0, T, 0, (.b [0, 1, 1, 8, 0, 1, 2, 3, 4, 5] .n [1, 1, 3, 3, 5, 3, 0, 2, 31, 6, 6, 6, 0, 6, 2, 33, 1, 1, 6, 1, 0, 2, 5, 0, 0, 0, 3, 0, 2, 32, 0, 2, 31, 7, 7, 7, 0, 7, 2, 33, 1, 1, 7, 1, 0, 0, 2, 5, 0, 0, 0, 0, 2, 5, 0, 0, 0, 0, 2, 2, 11, 2, 2, 2, 0, 0, 1, 2, 3, 4, 5] .n), ρ⟩ (leafS F)
noncomputable def v_pc0 (w : World) (x T : Nat) (C : CV) (its : Array Value) (k : Nat) (acs : Array Value) (ep : Nat) (li : Nat) (u0 : Nat) (u1 : Nat) (u2 : Nat) (F : KF PySem.Fin) (ρ : Stream) : VT := pcV w x T C its k acs ep li u0 u1 u2 (T + 0) ns0 F ρ
theorem e_pc0 (w : World) (x T : Nat) (C : CV) (its : Array Value) (k : Nat) (acs : Array Value) (ep : Nat) (li : Nat) (u0 : Nat) (u1 : Nat) (u2 : Nat) (F : KF PySem.Fin) (ρ : Stream) (b0 : Bool) : EqV (q_pc0 (w.withFollow "special-get-raises" b0) w x T C its k acs ep li u0 u1 u2 F ρ) (v_pc0 w x T C its k acs ep li u0 u1 u2 F ρ) := by unfold EqV; cases b0 <;> kernel_rfl
theorem k_pc0 (w : World) (x T : Nat) (C : CV) (its : Array Value) (k : Nat) (acs : Array Value) (ep : Nat) (li : Nat) (u0 : Nat) (u1 : Nat) (u2 : Nat) (F : KF PySem.Fin) (ρ : Stream) : EqV (q_pc0 w w x T C its k acs ep li u0 u1 u2 F ρ) (v_pc0 w x T C its k acs ep li u0 u1 u2 F ρ) := by
  have eE := e_pc0 w x T C its k acs ep li u0 u1 u2 F ρ
  exact row1 (P := fun W => EqV (q_pc0 W w x T C its k acs ep li u0 u1 u2 F ρ) (v_pc0 w x T C its k acs ep li u0 u1 u2 F ρ)) "special-get-raises" eE
noncomputable def q_pc1 (W : World) (w : World) (x T : Nat) (C : CV) (its : Array Value) (k : Nat) (acs : Array Value) (ep : Nat) (li : Nat) (u0 : Nat) (u1 : Nat) (u2 : Nat) (tx : Nat) (xv : Value) (F : KF PySem.Fin) (ρ : Stream) : VT := (ex ⟨PR, W.params⟩ (mkZ w [] [] [sMO, sDI, sGX]) 2500).s PySem.Fin 14 (zden (lcLp w (pcX w) (pcC C) C)) [1, 0, 1, 2, 22, 1, 1, 4, 2] ⟨[C.it + 214, C.ac + 214, C.lc + 214, C.li + 214, C.ce + 214, C.fo + 214], [itO (C.li + 214) k, lstA acs ep, ns1 w "x" tx xv, lstA its li, pCell (some (.ref (C.fo + 214))), lst [.str (Str.ofString "/a") u0, .str (Str.ofString "/a/b") u1, .str (Str.ofString "/c") u2] 0], (x + 214), 0, T, 0, (.b [0, 1, 1, 8, 0, 1, 2, 3, 4, 5] .n [1, 1, 3, 3, 5, 3, 0, 2, 31, 6, 6, 6, 0, 6, 2, 33, 1, 1, 6, 1, 0, 2, 5, 0, 0, 0, 3, 0, 2, 32, 0, 2, 31, 7, 7, 7, 0, 7, 2, 33, 1, 1, 7, 1, 0, 0, 2, 5, 0, 0, 0, 0, 2, 5, 0, 0, 0, 0, 2, 2, 11, 2, 2, 2, 0, 0, 1, 2, 3, 4, 5] .n), ρ⟩ (leafS F)
noncomputable def v_pc1 (w : World) (x T : Nat) (C : CV) (its : Array Value) (k : Nat) (acs : Array Value) (ep : Nat) (li : Nat) (u0 : Nat) (u1 : Nat) (u2 : Nat) (tx : Nat) (xv : Value) (F : KF PySem.Fin) (ρ : Stream) : VT := pcV w x T C its k acs ep li u0 u1 u2 tx (ns1 w "x" tx xv) F ρ
theorem e_pc1 (w : World) (x T : Nat) (C : CV) (its : Array Value) (k : Nat) (acs : Array Value) (ep : Nat) (li : Nat) (u0 : Nat) (u1 : Nat) (u2 : Nat) (tx : Nat) (xv : Value) (F : KF PySem.Fin) (ρ : Stream) (b0 : Bool) : EqV (q_pc1 (w.withFollow "special-get-raises" b0) w x T C its k acs ep li u0 u1 u2 tx xv F ρ) (v_pc1 w x T C its k acs ep li u0 u1 u2 tx xv F ρ) := by unfold EqV; cases b0 <;> kernel_rfl
theorem k_pc1 (w : World) (x T : Nat) (C : CV) (its : Array Value) (k : Nat) (acs : Array Value) (ep : Nat) (li : Nat) (u0 : Nat) (u1 : Nat) (u2 : Nat) (tx : Nat) (xv : Value) (F : KF PySem.Fin) (ρ : Stream) : EqV (q_pc1 w w x T C its k acs ep li u0 u1 u2 tx xv F ρ) (v_pc1 w x T C its k acs ep li u0 u1 u2 tx xv F ρ) := by
  have eE := e_pc1 w x T C its k acs ep li u0 u1 u2 tx xv F ρ
  exact row1 (P := fun W => EqV (q_pc1 W w x T C its k acs ep li u0 u1 u2 tx xv F ρ) (v_pc1 w x T C its k acs ep li u0 u1 u2 tx xv F ρ)) "special-get-raises" eE
end Mine
-- C2
namespace Mine
theorem dvals_push (l : List (Str × Tok)) (s : Str) (t : Tok) : (Array.mk (dvals l)).push (.str s t) = Array.mk (dvals (l ++ [(s, t)])) := by
  apply Array.toList_inj.mp
  simp [dvals]
theorem dvals_size (l : List (Str × Tok)) : (Array.mk (dvals l)).size = l.length := by
  show (dvals l).length = _
  unfold dvals
  rw [List.length_map]
noncomputable def pcT (i : Int) : Str := pathS (Int.toNat (Int.fmod i 3)) (Int.toNat (Int.fmod (Int.fdiv i 3) 4))
theorem mod3 (i : Int) : Int.fmod i 3 = 0 ∨ Int.fmod i 3 = 1 ∨ Int.fmod i 3 = 2 := by
  have h1 := Int.fmod_nonneg_of_pos i (b := 3) (by omega)
  have h2 := Int.fmod_lt_of_pos i (b := 3) (by omega)
  omega
theorem mod4 (i : Int) : Int.fmod i 4 = 0 ∨ Int.fmod i 4 = 1 ∨ Int.fmod i 4 = 2 ∨ Int.fmod i 4 = 3 := by
  have h1 := Int.fmod_nonneg_of_pos i (b := 4) (by omega)
  have h2 := Int.fmod_lt_of_pos i (b := 4) (by omega)
  omega
theorem pc_all (T u0 u1 u2 : Nat) (i : Int) : ((pcCk T u0 u1 u2 i).all fun e => e.1 == e.2) = true ∧ pcS T u0 u1 u2 i = pcT i := by
  unfold pcS pcT pcCk pcD pcN
  rcases mod3 i with a | a | a <;> rcases mod4 (Int.fdiv i 3) with b | b | b | b <;> rw [a, b] <;> exact ⟨by kernel_rfl, by kernel_rfl⟩
noncomputable def IntsA (its : Array Value) : Prop := (∀ v ∈ its.toList, ∃ i t, v = Value.int i t) ∧ its.size ≤ 1000
noncomputable def pcG (v : Value) : List Str := [pcT (intO (some v))]
noncomputable def zPC (w : World) (lo ce fo u0 u1 u2 ki kl : Nat) : Dyn := zLC w (pcX w) [(Str.ofString "folders", ce + 214)] lo ce [ce + 214, fo + 214] [pCell (some (.ref (fo + 214))), lst [.str (Str.ofString "/a") u0, .str (Str.ofString "/a/b") u1, .str (Str.ofString "/c") u2] 0] "x" true pcG IntsA ki kl
theorem all3 {P : Sb → Prop} {a b c : Sb} (h1 : P a) (h2 : P b) (h3 : P c) : ∀ f ∈ [a, b, c], P f := fun f hf => by
  rcases List.mem_cons.mp hf with rfl | hf
  · exact h1
  · rcases List.mem_cons.mp hf with rfl | hf
    · exact h2
    · rw [List.mem_singleton.mp hf]; exact h3
theorem zPC_ok (w : World) (lo ce fo u0 u1 u2 ki kl : Nat) : DynOk w (zPC w lo ce fo u0 u1 u2 ki kl) 100 := by
  refine zLC_ok fun A C its lep ha hd hu e1 e2 hp => ?_
  subst e1 e2
  obtain ⟨hi, hsz⟩ := hp
  have hq : ∀ k v, its[k]? = some v → pcQ its k = some v := fun k v e => e
  refine ⟨?_, ?_⟩
  · intro k v s l ep ns R hv hl b hat hn hns h
    obtain ⟨i, t, rfl⟩ := hi v (by simpa using Array.mem_of_getElem? hv)
    obtain ⟨x, hx⟩ : ∃ x, s.heap.objs.size = x + 214 := ⟨s.heap.objs.size - 214, by have := b.B; omega⟩
    have hk : k < its.size := (Array.getElem?_eq_some_iff.mp hv).1
    have main : ∀ tx (F : KF PySem.Fin) ρ, (∀ tx2, F (.ok (.again (lcLp w (pcX w) (pcC C) C))) (x + 214 + 1) (s.toks + 16) ((pcAds { C with fo := fo }).zip (lcO (itO (C.li + 214) (k + 1)) (l ++ [(pcT i, s.toks + 15)]) tx2 (ns1 w "x" tx (.int i t)) its lep (pcRo { C with fo := fo } u0 u1 u2)))) →
        (pcV w x s.toks { C with fo := fo } its k ⟨dvals l⟩ ep lep u0 u1 u2 tx ns F ρ).Holds := fun tx F ρ hF => by
      have eq : pcQ its k = some (.int i t) := hv
      have eI : pcI its k = i := by unfold pcI; rw [eq]; rfl
      have eP : pcP s.toks u0 u1 u2 i = .str (pcT i) (s.toks + 15) := by unfold pcP; rw [(pc_all _ _ _ _ _).2]
      unfold pcV
      rw [eI, eq, eP, dvals_push]
      refine ⟨fun q => (by cases q), fun _ => chain_h (pc_all _ _ _ _ _).1 (chain_h ?_ ?_)⟩
      · rw [dvals_size]
        have : decide ((l ++ [(pcT i, s.toks + 15)]).length > 16777217) = false := decide_eq_false (by simp; omega)
        show ((decide _ == false) && true) = true
        rw [this]; rfl
      · exact hF _
    have rn : ∀ ns' : Obj, At s.heap (pcAds { C with fo := fo }) (itO (C.li + 214) k :: lst (dvals l) ep :: ns' :: lstA its lep :: pcRo { C with fo := fo } u0 u1 u2) → Rn w (mkZ w [] [] [sMO, sDI, sGX]) 0 (pcAds { C with fo := fo }) (itO (C.li + 214) k :: lst (dvals l) ep :: ns' :: lstA its lep :: pcRo { C with fo := fo } u0 u1 u2) s := fun ns' hat' =>
      rn_ofX sums_nil dyns_nil (all3 sMO_ok sDI_ok sGX_ok) b.K b.L b.B b.st hat' hn
    have rm : Room 0 A 15 := room_of ha hd hu (by omega)
    have fin : ∀ tx (ρ : Stream), (pcV w x s.toks { C with fo := fo } its k ⟨dvals l⟩ ep lep u0 u1 u2 tx ns (endF s (pcAds { C with fo := fo }) (TurnEnd w A R)) ρ).Holds := fun tx ρ => main tx _ ρ fun ep2 h' E =>
      ⟨rfl, h h' _ _ _ _ _ E (.inr ⟨Nat.succ_pos _, _, _, rfl⟩) (by rw [List.map_append]; rfl) (by simp; omega)⟩
    rcases hns with ⟨rfl, rfl⟩ | ⟨hk0, tx, xv, rfl⟩
    · exact run_turn (V := pcV w x s.toks { C with fo := fo } its 0 ⟨dvals l⟩ ep lep u0 u1 u2 (s.toks + 0) ns0) (rn _ hat) rm hx rfl (k_pc0 w x s.toks { C with fo := fo } its 0 ⟨dvals l⟩ ep lep u0 u1 u2) (fin _)
    · exact run_turn (V := pcV w x s.toks { C with fo := fo } its k ⟨dvals l⟩ ep lep u0 u1 u2 tx (ns1 w "x" tx xv)) (rn _ hat) rm hx rfl (k_pc1 w x s.toks { C with fo := fo } its k ⟨dvals l⟩ ep lep u0 u1 u2 tx xv) (fin _)
  · intro s l ep ns R hl b hat hn hns h
    obtain ⟨x, hx⟩ : ∃ x, s.heap.objs.size = x + 214 := ⟨s.heap.objs.size - 214, by have := b.B; omega⟩
    have rn : Rn w (mkZ w [] [] [sMO, sDI, sGX]) 0 (pcAds { C with fo := fo }) (itO (C.li + 214) its.size :: lst (dvals l) ep :: ns :: lstA its lep :: pcRo { C with fo := fo } u0 u1 u2) s :=
      rn_ofX sums_nil dyns_nil (all3 sMO_ok sDI_ok sGX_ok) b.K b.L b.B b.st hat hn
    have rm : Room 0 A 15 := room_of ha hd hu (by omega)
    have eq : pcQ its its.size = none := by unfold pcQ; simp
    have fin : ∀ tx (ρ : Stream), (pcV w x s.toks { C with fo := fo } its its.size ⟨dvals l⟩ ep lep u0 u1 u2 tx ns (endF s (pcAds { C with fo := fo }) (TurnEnd w A R)) ρ).Holds := fun tx ρ => by
      unfold pcV
      rw [eq]
      exact ⟨fun _ => chain_h rfl fun h' E => h h' _ _ E, fun q => by cases q⟩
    rcases hns with ⟨e, rfl⟩ | ⟨hk0, tx, xv, rfl⟩
    · exact run_turn (V := pcV w x s.toks { C with fo := fo } its its.size ⟨dvals l⟩ ep lep u0 u1 u2 (s.toks + 0) ns0) rn rm hx rfl (k_pc0 w x s.toks { C with fo := fo } its its.size ⟨dvals l⟩ ep lep u0 u1 u2) (fin _)
    · exact run_turn (V := pcV w x s.toks { C with fo := fo } its its.size ⟨dvals l⟩ ep lep u0 u1 u2 tx (ns1 w "x" tx xv)) rn rm hx rfl (k_pc1 w x s.toks { C with fo := fo } its its.size ⟨dvals l⟩ ep lep u0 u1 u2 tx xv) (fin _)
end Mine
-- X20
set_option maxHeartbeats 0
namespace Mine
noncomputable section
noncomputable def ifT : Stmt → PySem.Expr | .If t _ _ _ => t | _ => default
noncomputable def cmpR : PySem.Expr → PySem.Expr | .Compare _ _ (r :: _) _ => r | _ => default
noncomputable def binL : PySem.Expr → PySem.Expr | .BinOp l _ _ _ => l | _ => default
noncomputable def binR : PySem.Expr → PySem.Expr | .BinOp _ _ r _ => r | _ => default
noncomputable def callA (n : Nat) : PySem.Expr → PySem.Expr | .Call _ as _ _ => (nth n as).getD default | _ => default
noncomputable def callK (n : Nat) : PySem.Expr → PySem.Expr | .Call _ _ ks _ => ((nth n ks).map (·.value)).getD default | _ => default
noncomputable def tcX (w : World) (j : Nat) : PySem.Expr := match j with
  | 0 => cmpL (ifT (lwS w 7))
  | 1 => cmpR (ifT (lwS w 7))
  | 2 => binL (asgV (lwS w 10))
  | 3 => binR (asgV (lwS w 10))
  | _ => callK 1 (callA 1 (cmpL (boolN 1 (ifT (lwS w 11)))))
end
end Mine
-- X21
set_option maxHeartbeats 0
namespace Mine
noncomputable section
noncomputable def tcNm (j : Nat) : String := match j with
  | 4 => "one"
  | _ => "path"
section
variable (w : World) (x T : Nat) (C : CV) (j : Nat) (its : Array Value) (k : Nat) (acs : Array Value) (ep li tx : Nat) (ns : Obj) (F : KF PySem.Fin) (ρ : Stream)
noncomputable def tcAds : List Nat := [C.it + 214, C.ac + 214, C.lc + 214, C.li + 214]
noncomputable def tcLf (n t : Nat) (acs' : Array Value) (ep' : Nat) : VT := .leaf (F (.ok (.again (lcLp w (tcX w j) [] C))) n t ((tcAds C).zip [itO (C.li + 214) (k + 1), lstA acs' ep', ns1 w (tcNm j) tx (.str (strO (pcQ its k)) (tokS (pcQ its k))), lstA its li]))
noncomputable def tcPut (s : Str) (tk n t : Nat) : VT := chain [(decide ((acs.push (.str s tk)).size > 16777217), false)] (tcLf w C j its k li tx F n t (acs.push (.str s tk)) (if ((acs.push (.str s tk)).size == acs.size) = true then ep else ep + 1))
noncomputable def tcBy (d : Int) : VT := .dec (Txt.count (strO (pcQ its k)) (Str.ofString "/") == d) (tcLf w C j its k li tx F (x + 214) (T + 4) acs ep) (tcPut w C j its k acs ep li tx F (strO (pcQ its k)) (tokS (pcQ its k)) (x + 214) (T + 4))
noncomputable def tcC1 (p : Str) (ts : List Nat) : List (Bool × Bool) := [(true, true), (isStrP (kpLast p ts), true), ((1 : Int) == 1 && (sliceP (strP (kpLast p ts)) none (some (-3 : Int)) 1).length == (strP (kpLast p ts)).length, false), (decide ((kpNm p ts).length > 16777216), false)]
noncomputable def tcC4 (p : Str) : List (Bool × Bool) := [(p.length == 0, false), (false, false), (decide ((p ++ Str.ofString "/").length > 16777216), false)]
noncomputable def tcB : VT := match j with
  | 0 => .claim (isPth (strO (pcQ its k)) = true) (chain [(true, true)] (tcPut w C 0 its k acs ep li tx F (mnOf (strO (pcQ its k))) (ρ 0).n ((ρ 1).n + 214) (ρ 2).n))
  | 1 => .claim (isPth (strO (pcQ its k)) = true ∧ Str.ofString "/" = Str.ofString "/") (chain (tcC1 (strO (pcQ its k)) (kpTs ρ)) (tcPut w C 1 its k acs ep li tx F (kpNm (strO (pcQ its k)) (kpTs ρ)) ((ρ 2).n + 4) ((ρ 1).n + 214 + 1) ((ρ 2).n + 5)))
  | 2 => tcBy w x T C 2 its k acs ep li tx F 3
  | 3 => tcBy w x T C 3 its k acs ep li tx F 2
  | _ => chain (tcC4 (strO (pcQ its k))) (tcPut w C 4 its k acs ep li tx F (strO (pcQ its k) ++ Str.ofString "/") (T + 2) (x + 214) (T + 3))
noncomputable def tcV : VT := .dec (isStrO (pcQ its k)) (chain [((pcQ its k).isSome, false)] (.leaf (F (.ok (.done .next)) (x + 214 + 2) T ((tcAds C).zip [itE k, lstA acs ep, ns, lstA its li])))) (tcB w x T C j its k acs ep li tx F ρ)
end
end
end Mine
-- L4
set_option maxHeartbeats 0
namespace Mine
noncomputable def q_tc00 (W : World) (w : World) (x T : Nat) (C : CV) (its : Array Value) (k : Nat) (acs : Array Value) (ep : Nat) (li : Nat) (F : KF PySem.Fin) (ρ : Stream) : VT := (ex ⟨PR, W.params⟩ (mkZ w [zMN]) 2500).s PySem.Fin 14 (zden (lcLp w (tcX w 0) [] C)) [1, 0, 1, 2, 8, 1, 1, 4, 2] ⟨[C.it + 214, C.ac + 214, C.lc + 214, C.li + 214], [itO (C.li + 214) k, lstA acs ep, ns0, lstA its li], (x + 214), 0, T, 0, (.b [0, 1, 1, 6, 0, 1, 2, 3] .n [1, 1, 3, 3, 0, 3, 0, 3, 0, 1, 0, 2, 2, 11, 2, 2, 2, 0, 0, 1, 2, 3] .n), ρ⟩ (leafS F)
noncomputable def v_tc00 (w : World) (x T : Nat) (C : CV) (its : Array Value) (k : Nat) (acs : Array Value) (ep : Nat) (li : Nat) (F : KF PySem.Fin) (ρ : Stream) : VT := tcV w x T C 0 its k acs ep li (T + 0) ns0 F ρ
theorem e_tc00 (w : World) (x T : Nat) (C : CV) (its : Array Value) (k : Nat) (acs : Array Value) (ep : Nat) (li : Nat) (F : KF PySem.Fin) (ρ : Stream) (b0 : Bool) : EqV (q_tc00 (w.withFollow "special-get-raises" b0) w x T C its k acs ep li F ρ) (v_tc00 w x T C its k acs ep li F ρ) := by unfold EqV; cases b0 <;> kernel_rfl
theorem k_tc00 (w : World) (x T : Nat) (C : CV) (its : Array Value) (k : Nat) (acs : Array Value) (ep : Nat) (li : Nat) (F : KF PySem.Fin) (ρ : Stream) : EqV (q_tc00 w w x T C its k acs ep li F ρ) (v_tc00 w x T C its k acs ep li F ρ) := by
  have eE := e_tc00 w x T C its k acs ep li F ρ
  exact row1 (P := fun W => EqV (q_tc00 W w x T C its k acs ep li F ρ) (v_tc00 w x T C its k acs ep li F ρ)) "special-get-raises" eE
noncomputable def q_tc01 (W : World) (w : World) (x T : Nat) (C : CV) (its : Array Value) (k : Nat) (acs : Array Value) (ep : Nat) (li : Nat) (tx : Nat) (xv : Value) (F : KF PySem.Fin) (ρ : Stream) : VT := (ex ⟨PR, W.params⟩ (mkZ w [zMN]) 2500).s PySem.Fin 14 (zden (lcLp w (tcX w 0) [] C)) [1, 0, 1, 2, 8, 1, 1, 4, 2] ⟨[C.it + 214, C.ac + 214, C.lc + 214, C.li + 214], [itO (C.li + 214) k, lstA acs ep, ns1 w "path" tx xv, lstA its li], (x + 214), 0, T, 0, (.b [0, 1, 1, 6, 0, 1, 2, 3] .n [1, 1, 3, 3, 0, 3, 0, 3, 0, 1, 0, 2, 2, 11, 2, 2, 2, 0, 0, 1, 2, 3] .n), ρ⟩ (leafS F)
noncomputable def v_tc01 (w : World) (x T : Nat) (C : CV) (its : Array Value) (k : Nat) (acs : Array Value) (ep : Nat) (li : Nat) (tx : Nat) (xv : Value) (F : KF PySem.Fin) (ρ : Stream) : VT := tcV w x T C 0 its k acs ep li tx (ns1 w "path" tx xv) F ρ
theorem e_tc01 (w : World) (x T : Nat) (C : CV) (its : Array Value) (k : Nat) (acs : Array Value) (ep : Nat) (li : Nat) (tx : Nat) (xv : Value) (F : KF PySem.Fin) (ρ : Stream) (b0 : Bool) : EqV (q_tc01 (w.withFollow "special-get-raises" b0) w x T C its k acs ep li tx xv F ρ) (v_tc01 w x T C its k acs ep li tx xv F ρ) := by unfold EqV; cases b0 <;> kernel_rfl
theorem k_tc01 (w : World) (x T : Nat) (C : CV) (its : Array Value) (k : Nat) (acs : Array Value) (ep : Nat) (li : Nat) (tx : Nat) (xv : Value) (F : KF PySem.Fin) (ρ : Stream) : EqV (q_tc01 w w x T C its k acs ep li tx xv F ρ) (v_tc01 w x T C its k acs ep li tx xv F ρ) := by
  have eE := e_tc01 w x T C its k acs ep li tx xv F ρ
  exact row1 (P := fun W => EqV (q_tc01 W w x T C its k acs ep li tx xv F ρ) (v_tc01 w x T C its k acs ep li tx xv F ρ)) "special-get-raises" eE
noncomputable def q_tc10 (W : World) (w : World) (x T : Nat) (C : CV) (its : Array Value) (k : Nat) (acs : Array Value) (ep : Nat) (li : Nat) (F : KF PySem.Fin) (ρ : Stream) : VT := (ex ⟨PR, W.params⟩ (mkZ w [zSP]) 2500).s PySem.Fin 14 (zden (lcLp w (tcX w 1) [] C)) [1, 0, 1, 2, 8, 1, 1, 4, 2] ⟨[C.it + 214, C.ac + 214, C.lc + 214, C.li + 214], [itO (C.li + 214) k, lstA acs ep, ns0, lstA its li], (x + 214), 0, T, 0, (.b [0, 1, 1, 6, 0, 1, 2, 3] .n [1, 1, 3, 3, 3, 3, 0, 1, 0, 0, 5, 5, 5, 0, 5, 2, 13, 5, 1, 0, 0, 0, 0, 2, 9, 6, 6, 6, 6, 0, 0, 0, 2, 2, 11, 2, 2, 2, 0, 0, 1, 2, 3] .n), ρ⟩ (leafS F)
noncomputable def v_tc10 (w : World) (x T : Nat) (C : CV) (its : Array Value) (k : Nat) (acs : Array Value) (ep : Nat) (li : Nat) (F : KF PySem.Fin) (ρ : Stream) : VT := tcV w x T C 1 its k acs ep li (T + 0) ns0 F ρ
theorem e_tc10 (w : World) (x T : Nat) (C : CV) (its : Array Value) (k : Nat) (acs : Array Value) (ep : Nat) (li : Nat) (F : KF PySem.Fin) (ρ : Stream) (b0 : Bool) : EqV (q_tc10 (w.withFollow "special-get-raises" b0) w x T C its k acs ep li F ρ) (v_tc10 w x T C its k acs ep li F ρ) := by unfold EqV; cases b0 <;> kernel_rfl
theorem k_tc10 (w : World) (x T : Nat) (C : CV) (its : Array Value) (k : Nat) (acs : Array Value) (ep : Nat) (li : Nat) (F : KF PySem.Fin) (ρ : Stream) : EqV (q_tc10 w w x T C its k acs ep li F ρ) (v_tc10 w x T C its k acs ep li F ρ) := by
  have eE := e_tc10 w x T C its k acs ep li F ρ
  exact row1 (P := fun W => EqV (q_tc10 W w x T C its k acs ep li F ρ) (v_tc10 w x T C its k acs ep li F ρ)) "special-get-raises" eE
noncomputable def q_tc11 (W : World) (w : World) (x T : Nat) (C : CV) (its : Array Value) (k : Nat) (acs : Array Value) (ep : Nat) (li : Nat) (tx : Nat) (xv : Value) (F : KF PySem.Fin) (ρ : Stream) : VT := (ex ⟨PR, W.params⟩ (mkZ w [zSP]) 2500).s PySem.Fin 14 (zden (lcLp w (tcX w 1) [] C)) [1, 0, 1, 2, 8, 1, 1, 4, 2] ⟨[C.it + 214, C.ac + 214, C.lc + 214, C.li + 214], [itO (C.li + 214) k, lstA acs ep, ns1 w "path" tx xv, lstA its li], (x + 214), 0, T, 0, (.b [0, 1, 1, 6, 0, 1, 2, 3] .n [1, 1, 3, 3, 3, 3, 0, 1, 0, 0, 5, 5, 5, 0, 5, 2, 13, 5, 1, 0, 0, 0, 0, 2, 9, 6, 6, 6, 6, 0, 0, 0, 2, 2, 11, 2, 2, 2, 0, 0, 1, 2, 3] .n), ρ⟩ (leafS F)
noncomputable def v_tc11 (w : World) (x T : Nat) (C : CV) (its : Array Value) (k : Nat) (acs : Array Value) (ep : Nat) (li : Nat) (tx : Nat) (xv : Value) (F : KF PySem.Fin) (ρ : Stream) : VT := tcV w x T C 1 its k acs ep li tx (ns1 w "path" tx xv) F ρ
theorem e_tc11 (w : World) (x T : Nat) (C : CV) (its : Array Value) (k : Nat) (acs : Array Value) (ep : Nat) (li : Nat) (tx : Nat) (xv : Value) (F : KF PySem.Fin) (ρ : Stream) (b0 : Bool) : EqV (q_tc11 (w.withFollow "special-get-raises" b0) w x T C its k acs ep li tx xv F ρ) (v_tc11 w x T C its k acs ep li tx xv F ρ) := by unfold EqV; cases b0 <;> kernel_rfl
theorem k_tc11 (w : World) (x T : Nat) (C : CV) (its : Array Value) (k : Nat) (acs : Array Value) (ep : Nat) (li : Nat) (tx : Nat) (xv : Value) (F : KF PySem.Fin) (ρ : Stream) : EqV (q_tc11 w w x T C its k acs ep li tx xv F ρ) (v_tc11 w x T C its k acs ep li tx xv F ρ) := by
  have eE := e_tc11 w x T C its k acs ep li tx xv F ρ
  exact row1 (P := fun W => EqV (q_tc11 W w x T C its k acs ep li tx xv F ρ) (v_tc11 w x T C its k acs ep li tx xv F ρ)) "special-get-raises" eE
noncomputable def q_tc20 (W : World) (w : World) (x T : Nat) (C : CV) (its : Array Value) (k : Nat) (acs : Array Value) (ep : Nat) (li : Nat) (F : KF PySem.Fin) (ρ : Stream) : VT := (ex ⟨PR, W.params⟩ (mkZ w []) 2500).s PySem.Fin 14 (zden (lcLp w (tcX w 2) [] C)) [1, 0, 1, 2, 8, 1, 1, 4, 2] ⟨[C.it + 214, C.ac + 214, C.lc + 214, C.li + 214], [itO (C.li + 214) k, lstA acs ep, ns0, lstA its li], (x + 214), 0, T, 0, (.b [0, 1, 1, 6, 0, 1, 2, 3] .n [1, 1, 3, 3, 3, 0, 2, 28, 0, 2, 6, 2] (.b [0, 1, 2, 3] .n [3, 0, 2, 2, 11, 2, 2, 2, 0, 0, 1, 2, 3] .n)), ρ⟩ (leafS F)
noncomputable def v_tc20 (w : World) (x T : Nat) (C : CV) (its : Array Value) (k : Nat) (acs : Array Value) (ep : Nat) (li : Nat) (F : KF PySem.Fin) (ρ : Stream) : VT := tcV w x T C 2 its k acs ep li (T + 0) ns0 F ρ
theorem e_tc20 (w : World) (x T : Nat) (C : CV) (its : Array Value) (k : Nat) (acs : Array Value) (ep : Nat) (li : Nat) (F : KF PySem.Fin) (ρ : Stream) (b0 : Bool) : EqV (q_tc20 (w.withFollow "special-get-raises" b0) w x T C its k acs ep li F ρ) (v_tc20 w x T C its k acs ep li F ρ) := by unfold EqV; cases b0 <;> kernel_rfl
theorem k_tc20 (w : World) (x T : Nat) (C : CV) (its : Array Value) (k : Nat) (acs : Array Value) (ep : Nat) (li : Nat) (F : KF PySem.Fin) (ρ : Stream) : EqV (q_tc20 w w x T C its k acs ep li F ρ) (v_tc20 w x T C its k acs ep li F ρ) := by
  have eE := e_tc20 w x T C its k acs ep li F ρ
  exact row1 (P := fun W => EqV (q_tc20 W w x T C its k acs ep li F ρ) (v_tc20 w x T C its k acs ep li F ρ)) "special-get-raises" eE
noncomputable def q_tc21 (W : World) (w : World) (x T : Nat) (C : CV) (its : Array Value) (k : Nat) (acs : Array Value) (ep : Nat) (li : Nat) (tx : Nat) (xv : Value) (F : KF PySem.Fin) (ρ : Stream) : VT := (ex ⟨PR, W.params⟩ (mkZ w []) 2500).s PySem.Fin 14 (zden (lcLp w (tcX w 2) [] C)) [1, 0, 1, 2, 8, 1, 1, 4, 2] ⟨[C.it + 214, C.ac + 214, C.lc + 214, C.li + 214], [itO (C.li + 214) k, lstA acs ep, ns1 w "path" tx xv, lstA its li], (x + 214), 0, T, 0, (.b [0, 1, 1, 6, 0, 1, 2, 3] .n [1, 1, 3, 3, 3, 0, 2, 28, 0, 2, 6, 2] (.b [0, 1, 2, 3] .n [3, 0, 2, 2, 11, 2, 2, 2, 0, 0, 1, 2, 3] .n)), ρ⟩ (leafS F)
noncomputable def v_tc21 (w : World) (x T : Nat) (C : CV) (its : Array Value) (k : Nat) (acs : Array Value) (ep : Nat) (li : Nat) (tx : Nat) (xv : Value) (F : KF PySem.Fin) (ρ : Stream) : VT := tcV w x T C 2 its k acs ep li tx (ns1 w "path" tx xv) F ρ
theorem e_tc21 (w : World) (x T : Nat) (C : CV) (its : Array Value) (k : Nat) (acs : Array Value) (ep : Nat) (li : Nat) (tx : Nat) (xv : Value) (F : KF PySem.Fin) (ρ : Stream) (b0 : Bool) : EqV (q_tc21 (w.withFollow "special-get-raises" b0) w x T C its k acs ep li tx xv F ρ) (v_tc21 w x T C its k acs ep li tx xv F ρ) := by unfold EqV; cases b0 <;> kernel_rfl
theorem k_tc21 (w : World) (x T : Nat) (C : CV) (its : Array Value) (k : Nat) (acs : Array Value) (ep : Nat) (li : Nat) (tx : Nat) (xv : Value) (F : KF PySem.Fin) (ρ : Stream) : EqV (q_tc21 w w x T C its k acs ep li tx xv F ρ) (v_tc21 w x T C its k acs ep li tx xv F ρ) := by
  have eE := e_tc21 w x T C its k acs ep li tx xv F ρ
  exact row1 (P := fun W => EqV (q_tc21 W w x T C its k acs ep li tx xv F ρ) (v_tc21 w x T C its k acs ep li tx xv F ρ)) "special-get-raises" eE
noncomputable def q_tc30 (W : World) (w : World) (x T : Nat) (C : CV) (its : Array Value) (k : Nat) (acs : Array Value) (ep : Nat) (li : Nat) (F : KF PySem.Fin) (ρ : Stream) : VT := (ex ⟨PR, W.params⟩ (mkZ w []) 2500).s PySem.Fin 14 (zden (lcLp w (tcX w 3) [] C)) [1, 0, 1, 2, 8, 1, 1, 4, 2] ⟨[C.it + 214, C.ac + 214, C.lc + 214, C.li + 214], [itO (C.li + 214) k, lstA acs ep, ns0, lstA its li], (x + 214), 0, T, 0, (.b [0, 1, 1, 6, 0, 1, 2, 3] .n [1, 1, 3, 3, 3, 0, 2, 28, 0, 2, 6, 2] (.b [0, 1, 2, 3] .n [3, 0, 2, 2, 11, 2, 2, 2, 0, 0, 1, 2, 3] .n)), ρ⟩ (leafS F)
noncomputable def v_tc30 (w : World) (x T : Nat) (C : CV) (its : Array Value) (k : Nat) (acs : Array Value) (ep : Nat) (li : Nat) (F : KF PySem.Fin) (ρ : Stream) : VT := tcV w x T C 3 its k acs ep li (T + 0) ns0 F ρ
theorem e_tc30 (w : World) (x T : Nat) (C : CV) (its : Array Value) (k : Nat) (acs : Array Value) (ep : Nat) (li : Nat) (F : KF PySem.Fin) (ρ : Stream) (b0 : Bool) : EqV (q_tc30 (w.withFollow "special-get-raises" b0) w x T C its k acs ep li F ρ) (v_tc30 w x T C its k acs ep li F ρ) := by unfold EqV; cases b0 <;> kernel_rfl
theorem k_tc30 (w : World) (x T : Nat) (C : CV) (its : Array Value) (k : Nat) (acs : Array Value) (ep : Nat) (li : Nat) (F : KF PySem.Fin) (ρ : Stream) : EqV (q_tc30 w w x T C its k acs ep li F ρ) (v_tc30 w x T C its k acs ep li F ρ) := by
  have eE := e_tc30 w x T C its k acs ep li F ρ
  exact row1 (P := fun W => EqV (q_tc30 W w x T C its k acs ep li F ρ) (v_tc30 w x T C its k acs ep li F ρ)) "special-get-raises" eE
noncomputable def q_tc31 (W : World) (w : World) (x T : Nat) (C : CV) (its : Array Value) (k : Nat) (acs : Array Value) (ep : Nat) (li : Nat) (tx : Nat) (xv : Value) (F : KF PySem.Fin) (ρ : Stream) : VT := (ex ⟨PR, W.params⟩ (mkZ w []) 2500).s PySem.Fin 14 (zden (lcLp w (tcX w 3) [] C)) [1, 0, 1, 2, 8, 1, 1, 4, 2] ⟨[C.it + 214, C.ac + 214, C.lc + 214, C.li + 214], [itO (C.li + 214) k, lstA acs ep, ns1 w "path" tx xv, lstA its li], (x + 214), 0, T, 0, (.b [0, 1, 1, 6, 0, 1, 2, 3] .n [1, 1, 3, 3, 3, 0, 2, 28, 0, 2, 6, 2] (.b [0, 1, 2, 3] .n [3, 0, 2, 2, 11, 2, 2, 2, 0, 0, 1, 2, 3] .n)), ρ⟩ (leafS F)
noncomputable def v_tc31 (w : World) (x T : Nat) (C : CV) (its : Array Value) (k : Nat) (acs : Array Value) (ep : Nat) (li : Nat) (tx : Nat) (xv : Value) (F : KF PySem.Fin) (ρ : Stream) : VT := tcV w x T C 3 its k acs ep li tx (ns1 w "path" tx xv) F ρ
theorem e_tc31 (w : World) (x T : Nat) (C : CV) (its : Array Value) (k : Nat) (acs : Array Value) (ep : Nat) (li : Nat) (tx : Nat) (xv : Value) (F : KF PySem.Fin) (ρ : Stream) (b0 : Bool) : EqV (q_tc31 (w.withFollow "special-get-raises" b0) w x T C its k acs ep li tx xv F ρ) (v_tc31 w x T C its k acs ep li tx xv F ρ) := by unfold EqV; cases b0 <;> kernel_rfl
theorem k_tc31 (w : World) (x T : Nat) (C : CV) (its : Array Value) (k : Nat) (acs : Array Value) (ep : Nat) (li : Nat) (tx : Nat) (xv : Value) (F : KF PySem.Fin) (ρ : Stream) : EqV (q_tc31 w w x T C its k acs ep li tx xv F ρ) (v_tc31 w x T C its k acs ep li tx xv F ρ) := by
  have eE := e_tc31 w x T C its k acs ep li tx xv F ρ
  exact row1 (P := fun W => EqV (q_tc31 W w x T C its k acs ep li tx xv F ρ) (v_tc31 w x T C its k acs ep li tx xv F ρ)) "special-get-raises" eE
noncomputable def q_tc40 (W : World) (w : World) (x T : Nat) (C : CV) (its : Array Value) (k : Nat) (acs : Array Value) (ep : Nat) (li : Nat) (F : KF PySem.Fin) (ρ : Stream) : VT := (ex ⟨PR, W.params⟩ (mkZ w []) 2500).s PySem.Fin 14 (zden (lcLp w (tcX w 4) [] C)) [1, 0, 1, 2, 8, 1, 1, 4, 2] ⟨[C.it + 214, C.ac + 214, C.lc + 214, C.li + 214], [itO (C.li + 214) k, lstA acs ep, ns0, lstA its li], (x + 214), 0, T, 0, (.b [0, 1, 1, 6, 0, 1, 2, 3] .n [1, 1, 3, 3, 3, 0, 2, 5, 0, 0, 0, 0, 2, 2, 11, 2, 2, 2, 0, 0, 1, 2, 3] .n), ρ⟩ (leafS F)
noncomputable def v_tc40 (w : World) (x T : Nat) (C : CV) (its : Array Value) (k : Nat) (acs : Array Value) (ep : Nat) (li : Nat) (F : KF PySem.Fin) (ρ : Stream) : VT := tcV w x T C 4 its k acs ep li (T + 0) ns0 F ρ
theorem e_tc40 (w : World) (x T : Nat) (C : CV) (its : Array Value) (k : Nat) (acs : Array Value) (ep : Nat) (li : Nat) (F : KF PySem.Fin) (ρ : Stream) (b0 : Bool) : EqV (q_tc40 (w.withFollow "special-get-raises" b0) w x T C its k acs ep li F ρ) (v_tc40 w x T C its k acs ep li F ρ) := by unfold EqV; cases b0 <;> kernel_rfl
theorem k_tc40 (w : World) (x T : Nat) (C : CV) (its : Array Value) (k : Nat) (acs : Array Value) (ep : Nat) (li : Nat) (F : KF PySem.Fin) (ρ : Stream) : EqV (q_tc40 w w x T C its k acs ep li F ρ) (v_tc40 w x T C its k acs ep li F ρ) := by
  have eE := e_tc40 w x T C its k acs ep li F ρ
  exact row1 (P := fun W => EqV (q_tc40 W w x T C its k acs ep li F ρ) (v_tc40 w x T C its k acs ep li F ρ)) "special-get-raises" eE
noncomputable def q_tc41 (W : World) (w : World) (x T : Nat) (C : CV) (its : Array Value) (k : Nat) (acs : Array Value) (ep : Nat) (li : Nat) (tx : Nat) (xv : Value) (F : KF PySem.Fin) (ρ : Stream) : VT := (ex ⟨PR, W.params⟩ (mkZ w []) 2500).s PySem.Fin 14 (zden (lcLp w (tcX w 4) [] C)) [1, 0, 1, 2, 8, 1, 1, 4, 2] ⟨[C.it + 214, C.ac + 214, C.lc + 214, C.li + 214], [itO (C.li + 214) k, lstA acs ep, ns1 w "one" tx xv, lstA its li], (x + 214), 0, T, 0, (.b [0, 1, 1, 6, 0, 1, 2, 3] .n [1, 1, 3, 3, 3, 0, 2, 5, 0, 0, 0, 0, 2, 2, 11, 2, 2, 2, 0, 0, 1, 2, 3] .n), ρ⟩ (leafS F)
noncomputable def v_tc41 (w : World) (x T : Nat) (C : CV) (its : Array Value) (k : Nat) (acs : Array Value) (ep : Nat) (li : Nat) (tx : Nat) (xv : Value) (F : KF PySem.Fin) (ρ : Stream) : VT := tcV w x T C 4 its k acs ep li tx (ns1 w "one" tx xv) F ρ
theorem e_tc41 (w : World) (x T : Nat) (C : CV) (its : Array Value) (k : Nat) (acs : Array Value) (ep : Nat) (li : Nat) (tx : Nat) (xv : Value) (F : KF PySem.Fin) (ρ : Stream) (b0 : Bool) : EqV (q_tc41 (w.withFollow "special-get-raises" b0) w x T C its k acs ep li tx xv F ρ) (v_tc41 w x T C its k acs ep li tx xv F ρ) := by unfold EqV; cases b0 <;> kernel_rfl
theorem k_tc41 (w : World) (x T : Nat) (C : CV) (its : Array Value) (k : Nat) (acs : Array Value) (ep : Nat) (li : Nat) (tx : Nat) (xv : Value) (F : KF PySem.Fin) (ρ : Stream) : EqV (q_tc41 w w x T C its k acs ep li tx xv F ρ) (v_tc41 w x T C its k acs ep li tx xv F ρ) := by
  have eE := e_tc41 w x T C its k acs ep li tx xv F ρ
  exact row1 (P := fun W => EqV (q_tc41 W w x T C its k acs ep li tx xv F ρ) (v_tc41 w x T C its k acs ep li tx xv F ρ)) "special-get-raises" eE
end Mine
-- C3
namespace Mine
noncomputable def tcG (j : Nat) (v : Value) : List Str := match j with
  | 0 => [mnOf (strO (some v))]
  | 1 => [nmS (strO (some v))]
  | 2 => bif Txt.count (strO (some v)) (Str.ofString "/") == 3 then [strO (some v)] else []
  | 3 => bif Txt.count (strO (some v)) (Str.ofString "/") == 2 then [strO (some v)] else []
  | _ => [strO (some v) ++ Str.ofString "/"]
noncomputable def tcOk1 (j : Nat) (p : Str) : Prop := match j with
  | 0 => isPth p = true
  | 1 => isPth p = true
  | 2 => True
  | 3 => True
  | _ => (p.length == 0) = false ∧ decide ((p ++ Str.ofString "/").length > 16777216) = false
noncomputable def TcOk (j : Nat) (its : Array Value) : Prop := (∀ v ∈ its.toList, ∃ p t, v = Value.str p t ∧ tcOk1 j p) ∧ its.size ≤ 1000
noncomputable def tcSums (j : Nat) : List (Code → Option Summ) := match j with
  | 0 => [zMN]
  | 1 => [zSP]
  | _ => []
theorem tcSums_ok (w : World) (j : Nat) : SumsOk w (tcSums j) 50 := by
  match j with
  | 0 => exact sums_cons (zMN_ok w) (by decide) sums_nil
  | 1 => exact sums_cons (zSP_ok w) (by decide) sums_nil
  | _ + 2 => exact sums_nil
section
variable {w : World} {x T : Nat} {C : CV} {j : Nat} {its : Array Value} {k : Nat} {l : List (Str × Tok)} {ep li tx : Nat} {ns : Obj} {F : KF PySem.Fin} {ρ : Stream}
theorem tcPut_h {s : Str} {tk n t : Nat} (hl : l.length ≤ 1000) (h : ∀ ep', (tcLf w C j its k li tx F n t ⟨dvals (l ++ [(s, tk)])⟩ ep').Holds) : (tcPut w C j its k ⟨dvals l⟩ ep li tx F s tk n t).Holds := by
  unfold tcPut
  rw [dvals_push]
  refine chain_h ?_ (h _)
  rw [dvals_size]
  have : decide ((l ++ [(s, tk)]).length > 16777217) = false := decide_eq_false (by simp; omega)
  show ((decide _ == false) && true) = true
  rw [this]; rfl
theorem tcBy_h {d : Int} (hl : l.length ≤ 1000) (h : ∀ l' ep' t, l'.map (·.1) = l.map (·.1) ++ (bif Txt.count (strO (pcQ its k)) (Str.ofString "/") == d then [strO (pcQ its k)] else []) → l'.length ≤ l.length + 1 → ∀ n, (tcLf w C j its k li tx F n t ⟨dvals l'⟩ ep').Holds) : (tcBy w x T C j its k ⟨dvals l⟩ ep li tx F d).Holds := by
  unfold tcBy
  refine ⟨fun q => h l ep _ (by rw [q]; simp) (by omega) _, fun q => tcPut_h hl fun ep' => h _ ep' _ (by rw [q]; simp) (by simp) _⟩
theorem tcB_h {p : Str} {t : Tok} (hl : l.length ≤ 1000) (hq : pcQ its k = some (.str p t)) (ok : tcOk1 j p) (hj : j < 5) (h : ∀ l' ep' n t', l'.map (·.1) = l.map (·.1) ++ tcG j (.str p t) → l'.length ≤ l.length + 1 → (tcLf w C j its k li tx F n t' ⟨dvals l'⟩ ep').Holds) : (tcB w x T C j its k ⟨dvals l⟩ ep li tx F ρ).Holds := by
  have put : ∀ s tk n t', tcG j (.str p t) = [s] → (tcPut w C j its k ⟨dvals l⟩ ep li tx F s tk n t').Holds := fun s tk n t' e => tcPut_h hl fun ep' => h _ ep' _ _ (by rw [e]; simp) (by simp)
  match j, hj with
  | 0, _ =>
    unfold tcB
    rw [hq]
    exact ⟨ok, chain_h rfl (put _ _ _ _ rfl)⟩
  | 1, _ =>
    unfold tcB
    rw [hq]
    have ok : isPth p = true := ok
    have z := nm_ok ok (ρ 3).n (ρ 4).n (ρ 5).n (ρ 6).n
    have zn : kpNm p (kpTs ρ) = nmS p := z.nm
    refine ⟨⟨ok, rfl⟩, chain_h ?_ (put _ _ _ _ ?_)⟩
    · unfold tcC1
      have a1 : isStrP (kpLast p (kpTs ρ)) = true := z.str
      have a2 : ((1 : Int) == 1 && (sliceP (strP (kpLast p (kpTs ρ))) none (some (-3 : Int)) 1).length == (strP (kpLast p (kpTs ρ))).length) = false := z.part
      have a3 : decide ((kpNm p (kpTs ρ)).length > 16777216) = false := decide_eq_false (by rw [zn]; have := z.len; omega)
      show ((true == true) && ((isStrP (kpLast p (kpTs ρ)) == true) && (((1 : Int) == 1 && (sliceP (strP (kpLast p (kpTs ρ))) none (some (-3 : Int)) 1).length == (strP (kpLast p (kpTs ρ))).length) == false && (decide ((kpNm p (kpTs ρ)).length > 16777216) == false && true)))) = true
      rw [a1, a2, a3]; rfl
    · show [nmS p] = [kpNm p (kpTs ρ)]
      rw [zn]
  | 2, _ =>
    refine tcBy_h hl fun l' ep' t' e1 e2 n => h l' ep' n t' ?_ e2
    rw [hq] at e1
    exact e1
  | 3, _ =>
    refine tcBy_h hl fun l' ep' t' e1 e2 n => h l' ep' n t' ?_ e2
    rw [hq] at e1
    exact e1
  | 4, _ =>
    unfold tcB
    rw [hq]
    refine chain_h ?_ (put _ _ _ _ rfl)
    show (((p.length == 0) == false) && ((false == false) && ((decide ((p ++ Str.ofString "/").length > 16777216) == false) && true))) = true
    rw [ok.1, ok.2]; rfl
end
noncomputable def zTC (w : World) (lo ce j : Nat) (z : Bool) (ki kl : Nat) : Dyn := zLC w (tcX w j) [] lo ce [] [] (tcNm j) z (tcG j) (TcOk j) ki kl
set_option maxHeartbeats 0 in
theorem tc_run {w : World} {A : Around} {s : Shared} {R : Result → Shared → Prop} {C : CV} {j : Nat} {its : Array Value} {k : Nat} {l : List (Str × Tok)} {ep li x : Nat} {ns : Obj} (hj : j < 5) (rm : Room 50 A 15) (hx : s.heap.objs.size = x + 214)
    (b : Bs w s.heap (tcAds C)) (hat : At s.heap (tcAds C) [itO (C.li + 214) k, lst (dvals l) ep, ns, lstA its li]) (hn : (tcAds C).Nodup) (hns : NsK w (tcNm j) k ns) (h : ∀ tx ρ, (tcV w x s.toks C j its k ⟨dvals l⟩ ep li tx ns (endF s (tcAds C) (TurnEnd w A R)) ρ).Holds) : codeAny (model PR w) A (lcLp w (tcX w j) [] C) R s := by
  have rn := rn_of (tcSums_ok w j) b.K b.L b.B b.st hat hn
  obtain rfl | rfl | rfl | rfl | rfl : j = 0 ∨ j = 1 ∨ j = 2 ∨ j = 3 ∨ j = 4 := by omega
  · rcases hns with ⟨rfl, rfl⟩ | ⟨hk0, tx, xv, rfl⟩
    · exact run_turn (V := tcV w x s.toks C 0 its 0 ⟨dvals l⟩ ep li (s.toks + 0) ns0) rn rm hx rfl (k_tc00 w x s.toks C its 0 ⟨dvals l⟩ ep li) (h _)
    · exact run_turn (V := tcV w x s.toks C 0 its k ⟨dvals l⟩ ep li tx (ns1 w "path" tx xv)) rn rm hx rfl (k_tc01 w x s.toks C its k ⟨dvals l⟩ ep li tx xv) (h _)
  · rcases hns with ⟨rfl, rfl⟩ | ⟨hk0, tx, xv, rfl⟩
    · exact run_turn (V := tcV w x s.toks C 1 its 0 ⟨dvals l⟩ ep li (s.toks + 0) ns0) rn rm hx rfl (k_tc10 w x s.toks C its 0 ⟨dvals l⟩ ep li) (h _)
    · exact run_turn (V := tcV w x s.toks C 1 its k ⟨dvals l⟩ ep li tx (ns1 w "path" tx xv)) rn rm hx rfl (k_tc11 w x s.toks C its k ⟨dvals l⟩ ep li tx xv) (h _)
  · rcases hns with ⟨rfl, rfl⟩ | ⟨hk0, tx, xv, rfl⟩
    · exact run_turn (V := tcV w x s.toks C 2 its 0 ⟨dvals l⟩ ep li (s.toks + 0) ns0) rn rm hx rfl (k_tc20 w x s.toks C its 0 ⟨dvals l⟩ ep li) (h _)
    · exact run_turn (V := tcV w x s.toks C 2 its k ⟨dvals l⟩ ep li tx (ns1 w "path" tx xv)) rn rm hx rfl (k_tc21 w x s.toks C its k ⟨dvals l⟩ ep li tx xv) (h _)
  · rcases hns with ⟨rfl, rfl⟩ | ⟨hk0, tx, xv, rfl⟩
    · exact run_turn (V := tcV w x s.toks C 3 its 0 ⟨dvals l⟩ ep li (s.toks + 0) ns0) rn rm hx rfl (k_tc30 w x s.toks C its 0 ⟨dvals l⟩ ep li) (h _)
    · exact run_turn (V := tcV w x s.toks C 3 its k ⟨dvals l⟩ ep li tx (ns1 w "path" tx xv)) rn rm hx rfl (k_tc31 w x s.toks C its k ⟨dvals l⟩ ep li tx xv) (h _)
  · rcases hns with ⟨rfl, rfl⟩ | ⟨hk0, tx, xv, rfl⟩
    · exact run_turn (V := tcV w x s.toks C 4 its 0 ⟨dvals l⟩ ep li (s.toks + 0) ns0) rn rm hx rfl (k_tc40 w x s.toks C its 0 ⟨dvals l⟩ ep li) (h _)
    · exact run_turn (V := tcV w x s.toks C 4 its k ⟨dvals l⟩ ep li tx (ns1 w "one" tx xv)) rn rm hx rfl (k_tc41 w x s.toks C its k ⟨dvals l⟩ ep li tx xv) (h _)
theorem zTC_ok (w : World) (lo ce j : Nat) (z : Bool) (ki kl : Nat) (hj : j < 5) : DynOk w (zTC w lo ce j z ki kl) 130 := by
  refine zLC_ok fun A C its lep ha hd hu e1 e2 hp => ?_
  subst e1 e2
  obtain ⟨hi, hsz⟩ := hp
  refine ⟨?_, ?_⟩
  · intro k v s l ep ns R hv hl b hat hn hns h
    obtain ⟨p, t, rfl, ok⟩ := hi v (by simpa using Array.mem_of_getElem? hv)
    obtain ⟨x, hx⟩ : ∃ x, s.heap.objs.size = x + 214 := ⟨s.heap.objs.size - 214, by have := b.B; omega⟩
    have hk : k < its.size := (Array.getElem?_eq_some_iff.mp hv).1
    have eq : pcQ its k = some (.str p t) := hv
    refine tc_run hj (room_of ha hd hu (by omega)) hx b hat hn hns fun tx ρ => ?_
    unfold tcV
    refine ⟨fun q => (by rw [eq] at q; cases q), fun _ => tcB_h (by omega) eq ok hj fun l' ep' n t' e1 e2 h' E => ?_⟩
    refine ⟨rfl, h h' t' n l' ep' _ E (.inr ⟨Nat.succ_pos _, tx, _, rfl⟩) e1 (by omega)⟩
  · intro s l ep ns R hl b hat hn hns h
    obtain ⟨x, hx⟩ : ∃ x, s.heap.objs.size = x + 214 := ⟨s.heap.objs.size - 214, by have := b.B; omega⟩
    have eq : pcQ its its.size = none := by unfold pcQ; simp
    refine tc_run hj (room_of ha hd hu (by omega)) hx b hat hn hns fun tx ρ => ?_
    unfold tcV
    rw [eq]
    exact ⟨fun _ => chain_h rfl fun h' E => h h' _ _ E, fun q => by cases q⟩
end Mine
-- L2
set_option maxHeartbeats 0
namespace Mine
noncomputable def q_sct (W : World) (w : World) (x T : Nat) (lo : Nat) (ce : Nat) (fo : Nat) (sg : Nat) (t0 : Nat) (t1 : Nat) (t2 : Nat) (t3 : Nat) (u0 : Nat) (u1 : Nat) (u2 : Nat) (s0 : Str) (s1 : Str) (s2 : Str) (v0 : Nat) (v1 : Nat) (v2 : Nat) (ep : Nat) (sv : Value) (av : Value) (rv : Value) (F : KF Flow) (ρ : Stream) : VT := (ex ⟨PR, W.params⟩ (mkZ w [] [] [sSX, sGX, sCP]) 4000).s Flow 20 (stX 4 [lwS w 4] (lwEnv w (lo + 214) (ce + 214))) [0, 0, 2, 1, 0, 0, 0, 0, 3, 3, 0, 3, 0, 5, 4, 4, 0, 4, 0, 6, 9, 9, 0, 9, 0, 9, 9, 9, 0, 9, 0, 9, 0, 2, 33, 9, 0, 9, 0, 9, 9, 7, 9, 9, 9, 9, 5, 0, 5, 0, 5, 5, 3, 5, 5, 8, 8, 8, 8, 6, 0, 6, 0, 6, 6, 4, 6, 6, 8, 8, 8, 8, 8, 9, 9, 9, 9, 9, 9, 9, 12, 12, 12, 0, 12, 0, 13, 13, 0, 13, 0, 13, 13, 12, 13, 13, 13, 0, 13, 0, 13, 13, 12, 13, 13, 13, 0, 13, 0, 13, 13, 12, 13, 13, 15, 11, 11, 11, 11, 11, 0, 2, 31, 0, 1, 0, 2, 27, 2] ⟨[lo + 214, ce + 214, fo + 214, sg + 214], [loc [eo w "script" t0 sv, en w "added" t1 av, en w "rights" t2 rv, en w "signs" t3 (.ref (sg + 214))] 4, pCell (some (.ref (fo + 214))), lst [.str (Str.ofString "/a") u0, .str (Str.ofString "/a/b") u1, .str (Str.ofString "/c") u2] 0, lst [.str s0 v0, .str s1 v1, .str s2 v2] ep], (x + 214), 0, T, 0, (.b [11, 0, 2, 31, 0, 1, 0, 2, 29, 2] (.b [11, 0, 10, 2, 11, 10, 10, 10, 0, 2, 33, 9, 0, 9, 0, 9, 9, 7, 9, 9, 9, 9, 5, 0, 5, 0, 5, 5, 3, 5, 5, 8, 8, 8, 8, 6, 0, 6, 0, 6, 6, 4, 6, 6, 8, 8, 8, 8, 8, 9, 9, 9, 9, 9, 9, 9, 16, 16, 16, 0, 16, 0, 17, 17, 0, 17, 0, 17, 17, 16, 17, 17, 17, 0, 17, 0, 17, 17, 16, 17, 17, 17, 0, 17, 0, 17, 17, 16, 17, 17, 19, 11, 11, 11, 11, 11, 0, 2, 31, 0, 1, 0, 2, 27, 2] (.b [11, 0, 2, 31, 0, 1, 0, 2, 29, 2] (.b [11, 0, 10, 2, 11, 10, 10, 10, 0, 2, 33, 9, 0, 9, 0, 9, 9, 7, 9, 9, 9, 9, 5, 0, 5, 0, 5, 5, 3, 5, 5, 8, 8, 8, 8, 6, 0, 6, 0, 6, 6, 4, 6, 6, 8, 8, 8, 8, 8, 9, 9, 9, 9, 9, 9, 9, 20, 20, 20, 0, 20, 0, 21, 21, 0, 21, 0, 21, 21, 20, 21, 21, 21, 0, 21, 0, 21, 21, 20, 21, 21, 21, 0, 21, 0, 21, 21, 20, 21, 21, 23, 11, 11, 11, 11, 11, 0, 2, 31, 0, 1, 0, 2, 27, 2] (.b [11, 0, 2, 31, 0, 1, 0, 2, 29, 2] (.b [11, 0, 10, 2, 11, 10, 10, 10, 0, 2, 33, 9, 0, 9, 0, 9, 9, 7, 9, 9, 9, 9, 5, 0, 5, 0, 5, 5, 3, 5, 5, 9, 9, 25, 1, 1, 11, 11, 11, 11, 11, 11, 0, 1, 2, 3, 9] .n [2, 33, 9, 0, 9, 0, 9, 9, 7, 9, 9, 9, 9, 5, 0, 5, 0, 5, 5, 3, 5, 5, 9, 9, 25, 1, 1, 11, 11, 11, 11, 11, 11, 0, 1, 2, 3, 9] .n) [11, 0, 10, 2, 11, 10, 10, 10, 0, 2, 33, 9, 0, 9, 0, 9, 9, 7, 9, 9, 9, 9, 5, 0, 5, 0, 5, 5, 3, 5, 5, 9, 9, 25, 1, 1, 11, 11, 11, 11, 11, 11, 0, 1, 2, 3, 9] .n) [2, 33, 9, 0, 9, 0, 9, 9, 7, 9, 9, 9, 9, 5, 0, 5, 0, 5, 5, 3, 5, 5, 8, 8, 8, 8, 6, 0, 6, 0, 6, 6, 4, 6, 6, 8, 8, 8, 8, 8, 9, 9, 9, 9, 9, 9, 9, 20, 20, 20, 0, 20, 0, 21, 21, 0, 21, 0, 21, 21, 20, 21, 21, 21, 0, 21, 0, 21, 21, 20, 21, 21, 21, 0, 21, 0, 21, 21, 20, 21, 21, 23, 11, 11, 11, 11, 11, 0, 2, 31, 0, 1, 0, 2, 27, 2] (.b [11, 0, 2, 31, 0, 1, 0, 2, 29, 2] (.b [11, 0, 10, 2, 11, 10, 10, 10, 0, 2, 33, 9, 0, 9, 0, 9, 9, 7, 9, 9, 9, 9, 5, 0, 5, 0, 5, 5, 3, 5, 5, 9, 9, 25, 1, 1, 11, 11, 11, 11, 11, 11, 0, 1, 2, 3, 9] .n [2, 33, 9, 0, 9, 0, 9, 9, 7, 9, 9, 9, 9, 5, 0, 5, 0, 5, 5, 3, 5, 5, 9, 9, 25, 1, 1, 11, 11, 11, 11, 11, 11, 0, 1, 2, 3, 9] .n) [11, 0, 10, 2, 11, 10, 10, 10, 0, 2, 33, 9, 0, 9, 0, 9, 9, 7, 9, 9, 9, 9, 5, 0, 5, 0, 5, 5, 3, 5, 5, 9, 9, 25, 1, 1, 11, 11, 11, 11, 11, 11, 0, 1, 2, 3, 9] .n)) [11, 0, 10, 2, 11, 10, 10, 10, 0, 2, 33, 9, 0, 9, 0, 9, 9, 7, 9, 9, 9, 9, 5, 0, 5, 0, 5, 5, 3, 5, 5, 8, 8, 8, 8, 6, 0, 6, 0, 6, 6, 4, 6, 6, 8, 8, 8, 8, 8, 9, 9, 9, 9, 9, 9, 9, 20, 20, 20, 0, 20, 0, 21, 21, 0, 21, 0, 21, 21, 20, 21, 21, 21, 0, 21, 0, 21, 21, 20, 21, 21, 21, 0, 21, 0, 21, 21, 20, 21, 21, 23, 11, 11, 11, 11, 11, 0, 2, 31, 0, 1, 0, 2, 27, 2] (.b [11, 0, 2, 31, 0, 1, 0, 2, 29, 2] (.b [11, 0, 10, 2, 11, 10, 10, 10, 0, 2, 33, 9, 0, 9, 0, 9, 9, 7, 9, 9, 9, 9, 5, 0, 5, 0, 5, 5, 3, 5, 5, 9, 9, 25, 1, 1, 11, 11, 11, 11, 11, 11, 0, 1, 2, 3, 9] .n [2, 33, 9, 0, 9, 0, 9, 9, 7, 9, 9, 9, 9, 5, 0, 5, 0, 5, 5, 3, 5, 5, 9, 9, 25, 1, 1, 11, 11, 11, 11, 11, 11, 0, 1, 2, 3, 9] .n) [11, 0, 10, 2, 11, 10, 10, 10, 0, 2, 33, 9, 0, 9, 0, 9, 9, 7, 9, 9, 9, 9, 5, 0, 5, 0, 5, 5, 3, 5, 5, 9, 9, 25, 1, 1, 11, 11, 11, 11, 11, 11, 0, 1, 2, 3, 9] .n)) [2, 33, 9, 0, 9, 0, 9, 9, 7, 9, 9, 9, 9, 5, 0, 5, 0, 5, 5, 3, 5, 5, 8, 8, 8, 8, 6, 0, 6, 0, 6, 6, 4, 6, 6, 8, 8, 8, 8, 8, 9, 9, 9, 9, 9, 9, 9, 16, 16, 16, 0, 16, 0, 17, 17, 0, 17, 0, 17, 17, 16, 17, 17, 17, 0, 17, 0, 17, 17, 16, 17, 17, 17, 0, 17, 0, 17, 17, 16, 17, 17, 19, 11, 11, 11, 11, 11, 0, 2, 31, 0, 1, 0, 2, 27, 2] (.b [11, 0, 2, 31, 0, 1, 0, 2, 29, 2] (.b [11, 0, 10, 2, 11, 10, 10, 10, 0, 2, 33, 9, 0, 9, 0, 9, 9, 7, 9, 9, 9, 9, 5, 0, 5, 0, 5, 5, 3, 5, 5, 8, 8, 8, 8, 6, 0, 6, 0, 6, 6, 4, 6, 6, 8, 8, 8, 8, 8, 9, 9, 9, 9, 9, 9, 9, 20, 20, 20, 0, 20, 0, 21, 21, 0, 21, 0, 21, 21, 20, 21, 21, 21, 0, 21, 0, 21, 21, 20, 21, 21, 21, 0, 21, 0, 21, 21, 20, 21, 21, 23, 11, 11, 11, 11, 11, 0, 2, 31, 0, 1, 0, 2, 27, 2] (.b [11, 0, 2, 31, 0, 1, 0, 2, 29, 2] (.b [11, 0, 10, 2, 11, 10, 10, 10, 0, 2, 33, 9, 0, 9, 0, 9, 9, 7, 9, 9, 9, 9, 5, 0, 5, 0, 5, 5, 3, 5, 5, 9, 9, 25, 1, 1, 11, 11, 11, 11, 11, 11, 0, 1, 2, 3, 9] .n [2, 33, 9, 0, 9, 0, 9, 9, 7, 9, 9, 9, 9, 5, 0, 5, 0, 5, 5, 3, 5, 5, 9, 9, 25, 1, 1, 11, 11, 11, 11, 11, 11, 0, 1, 2, 3, 9] .n) [11, 0, 10, 2, 11, 10, 10, 10, 0, 2, 33, 9, 0, 9, 0, 9, 9, 7, 9, 9, 9, 9, 5, 0, 5, 0, 5, 5, 3, 5, 5, 9, 9, 25, 1, 1, 11, 11, 11, 11, 11, 11, 0, 1, 2, 3, 9] .n) [2, 33, 9, 0, 9, 0, 9, 9, 7, 9, 9, 9, 9, 5, 0, 5, 0, 5, 5, 3, 5, 5, 8, 8, 8, 8, 6, 0, 6, 0, 6, 6, 4, 6, 6, 8, 8, 8, 8, 8, 9, 9, 9, 9, 9, 9, 9, 20, 20, 20, 0, 20, 0, 21, 21, 0, 21, 0, 21, 21, 20, 21, 21, 21, 0, 21, 0, 21, 21, 20, 21, 21, 21, 0, 21, 0, 21, 21, 20, 21, 21, 23, 11, 11, 11, 11, 11, 0, 2, 31, 0, 1, 0, 2, 27, 2] (.b [11, 0, 2, 31, 0, 1, 0, 2, 29, 2] (.b [11, 0, 10, 2, 11, 10, 10, 10, 0, 2, 33, 9, 0, 9, 0, 9, 9, 7, 9, 9, 9, 9, 5, 0, 5, 0, 5, 5, 3, 5, 5, 9, 9, 25, 1, 1, 11, 11, 11, 11, 11, 11, 0, 1, 2, 3, 9] .n [2, 33, 9, 0, 9, 0, 9, 9, 7, 9, 9, 9, 9, 5, 0, 5, 0, 5, 5, 3, 5, 5, 9, 9, 25, 1, 1, 11, 11, 11, 11, 11, 11, 0, 1, 2, 3, 9] .n) [11, 0, 10, 2, 11, 10, 10, 10, 0, 2, 33, 9, 0, 9, 0, 9, 9, 7, 9, 9, 9, 9, 5, 0, 5, 0, 5, 5, 3, 5, 5, 9, 9, 25, 1, 1, 11, 11, 11, 11, 11, 11, 0, 1, 2, 3, 9] .n)) [11, 0, 10, 2, 11, 10, 10, 10, 0, 2, 33, 9, 0, 9, 0, 9, 9, 7, 9, 9, 9, 9, 5, 0, 5, 0, 5, 5, 3, 5, 5, 8, 8, 8, 8, 6, 0, 6, 0, 6, 6, 4, 6, 6, 8, 8, 8, 8, 8, 9, 9, 9, 9, 9, 9, 9, 20, 20, 20, 0, 20, 0, 21, 21, 0, 21, 0, 21, 21, 20, 21, 21, 21, 0, 21, 0, 21, 21, 20, 21, 21, 21, 0, 21, 0, 21, 21, 20, 21, 21, 23, 11, 11, 11, 11, 11, 0, 2, 31, 0, 1, 0, 2, 27, 2] (.b [11, 0, 2, 31, 0, 1, 0, 2, 29, 2] (.b [11, 0, 10, 2, 11, 10, 10, 10, 0, 2, 33, 9, 0, 9, 0, 9, 9, 7, 9, 9, 9, 9, 5, 0, 5, 0, 5, 5, 3, 5, 5, 9, 9, 25, 1, 1, 11, 11, 11, 11, 11, 11, 0, 1, 2, 3, 9] .n [2, 33, 9, 0, 9, 0, 9, 9, 7, 9, 9, 9, 9, 5, 0, 5, 0, 5, 5, 3, 5, 5, 9, 9, 25, 1, 1, 11, 11, 11, 11, 11, 11, 0, 1, 2, 3, 9] .n) [11, 0, 10, 2, 11, 10, 10, 10, 0, 2, 33, 9, 0, 9, 0, 9, 9, 7, 9, 9, 9, 9, 5, 0, 5, 0, 5, 5, 3, 5, 5, 9, 9, 25, 1, 1, 11, 11, 11, 11, 11, 11, 0, 1, 2, 3, 9] .n))) [11, 0, 10, 2, 11, 10, 10, 10, 0, 2, 33, 9, 0, 9, 0, 9, 9, 7, 9, 9, 9, 9, 5, 0, 5, 0, 5, 5, 3, 5, 5, 8, 8, 8, 8, 6, 0, 6, 0, 6, 6, 4, 6, 6, 8, 8, 8, 8, 8, 9, 9, 9, 9, 9, 9, 9, 16, 16, 16, 0, 16, 0, 17, 17, 0, 17, 0, 17, 17, 16, 17, 17, 17, 0, 17, 0, 17, 17, 16, 17, 17, 17, 0, 17, 0, 17, 17, 16, 17, 17, 19, 11, 11, 11, 11, 11, 0, 2, 31, 0, 1, 0, 2, 27, 2] (.b [11, 0, 2, 31, 0, 1, 0, 2, 29, 2] (.b [11, 0, 10, 2, 11, 10, 10, 10, 0, 2, 33, 9, 0, 9, 0, 9, 9, 7, 9, 9, 9, 9, 5, 0, 5, 0, 5, 5, 3, 5, 5, 8, 8, 8, 8, 6, 0, 6, 0, 6, 6, 4, 6, 6, 8, 8, 8, 8, 8, 9, 9, 9, 9, 9, 9, 9, 20, 20, 20, 0, 20, 0, 21, 21, 0, 21, 0, 21, 21, 20, 21, 21, 21, 0, 21, 0, 21, 21, 20, 21, 21, 21, 0, 21, 0, 21, 21, 20, 21, 21, 23, 11, 11, 11, 11, 11, 0, 2, 31, 0, 1, 0, 2, 27, 2] (.b [11, 0, 2, 31, 0, 1, 0, 2, 29, 2] (.b [11, 0, 10, 2, 11, 10, 10, 10, 0, 2, 33, 9, 0, 9, 0, 9, 9, 7, 9, 9, 9, 9, 5, 0, 5, 0, 5, 5, 3, 5, 5, 9, 9, 25, 1, 1, 11, 11, 11, 11, 11, 11, 0, 1, 2, 3, 9] .n [2, 33, 9, 0, 9, 0, 9, 9, 7, 9, 9, 9, 9, 5, 0, 5, 0, 5, 5, 3, 5, 5, 9, 9, 25, 1, 1, 11, 11, 11, 11, 11, 11, 0, 1, 2, 3, 9] .n) [11, 0, 10, 2, 11, 10, 10, 10, 0, 2, 33, 9, 0, 9, 0, 9, 9, 7, 9, 9, 9, 9, 5, 0, 5, 0, 5, 5, 3, 5, 5, 9, 9, 25, 1, 1, 11, 11, 11, 11, 11, 11, 0, 1, 2, 3, 9] .n) [2, 33, 9, 0, 9, 0, 9, 9, 7, 9, 9, 9, 9, 5, 0, 5, 0, 5, 5, 3, 5, 5, 8, 8, 8, 8, 6, 0, 6, 0, 6, 6, 4, 6, 6, 8, 8, 8, 8, 8, 9, 9, 9, 9, 9, 9, 9, 20, 20, 20, 0, 20, 0, 21, 21, 0, 21, 0, 21, 21, 20, 21, 21, 21, 0, 21, 0, 21, 21, 20, 21, 21, 21, 0, 21, 0, 21, 21, 20, 21, 21, 23, 11, 11, 11, 11, 11, 0, 2, 31, 0, 1, 0, 2, 27, 2] (.b [11, 0, 2, 31, 0, 1, 0, 2, 29, 2] (.b [11, 0, 10, 2, 11, 10, 10, 10, 0, 2, 33, 9, 0, 9, 0, 9, 9, 7, 9, 9, 9, 9, 5, 0, 5, 0, 5, 5, 3, 5, 5, 9, 9, 25, 1, 1, 11, 11, 11, 11, 11, 11, 0, 1, 2, 3, 9] .n [2, 33, 9, 0, 9, 0, 9, 9, 7, 9, 9, 9, 9, 5, 0, 5, 0, 5, 5, 3, 5, 5, 9, 9, 25, 1, 1, 11, 11, 11, 11, 11, 11, 0, 1, 2, 3, 9] .n) [11, 0, 10, 2, 11, 10, 10, 10, 0, 2, 33, 9, 0, 9, 0, 9, 9, 7, 9, 9, 9, 9, 5, 0, 5, 0, 5, 5, 3, 5, 5, 9, 9, 25, 1, 1, 11, 11, 11, 11, 11, 11, 0, 1, 2, 3, 9] .n)) [11, 0, 10, 2, 11, 10, 10, 10, 0, 2, 33, 9, 0, 9, 0, 9, 9, 7, 9, 9, 9, 9, 5, 0, 5, 0, 5, 5, 3, 5, 5, 8, 8, 8, 8, 6, 0, 6, 0, 6, 6, 4, 6, 6, 8, 8, 8, 8, 8, 9, 9, 9, 9, 9, 9, 9, 20, 20, 20, 0, 20, 0, 21, 21, 0, 21, 0, 21, 21, 20, 21, 21, 21, 0, 21, 0, 21, 21, 20, 21, 21, 21, 0, 21, 0, 21, 21, 20, 21, 21, 23, 11, 11, 11, 11, 11, 0, 2, 31, 0, 1, 0, 2, 27, 2] (.b [11, 0, 2, 31, 0, 1, 0, 2, 29, 2] (.b [11, 0, 10, 2, 11, 10, 10, 10, 0, 2, 33, 9, 0, 9, 0, 9, 9, 7, 9, 9, 9, 9, 5, 0, 5, 0, 5, 5, 3, 5, 5, 9, 9, 25, 1, 1, 11, 11, 11, 11, 11, 11, 0, 1, 2, 3, 9] .n [2, 33, 9, 0, 9, 0, 9, 9, 7, 9, 9, 9, 9, 5, 0, 5, 0, 5, 5, 3, 5, 5, 9, 9, 25, 1, 1, 11, 11, 11, 11, 11, 11, 0, 1, 2, 3, 9] .n) [11, 0, 10, 2, 11, 10, 10, 10, 0, 2, 33, 9, 0, 9, 0, 9, 9, 7, 9, 9, 9, 9, 5, 0, 5, 0, 5, 5, 3, 5, 5, 9, 9, 25, 1, 1, 11, 11, 11, 11, 11, 11, 0, 1, 2, 3, 9] .n))), ρ⟩ (leafS F)
noncomputable def v_sct (w : World) (x T : Nat) (lo : Nat) (ce : Nat) (fo : Nat) (sg : Nat) (t0 : Nat) (t1 : Nat) (t2 : Nat) (t3 : Nat) (u0 : Nat) (u1 : Nat) (u2 : Nat) (s0 : Str) (s1 : Str) (s2 : Str) (v0 : Nat) (v1 : Nat) (v2 : Nat) (ep : Nat) (sv : Value) (av : Value) (rv : Value) (F : KF Flow) (ρ : Stream) : VT := lwV2 w x T lo ce fo sg t0 t1 t2 t3 u0 u1 u2 s0 s1 s2 v0 v1 v2 ep sv av rv F ρ
theorem e_sct (w : World) (x T : Nat) (lo : Nat) (ce : Nat) (fo : Nat) (sg : Nat) (t0 : Nat) (t1 : Nat) (t2 : Nat) (t3 : Nat) (u0 : Nat) (u1 : Nat) (u2 : Nat) (s0 : Str) (s1 : Str) (s2 : Str) (v0 : Nat) (v1 : Nat) (v2 : Nat) (ep : Nat) (sv : Value) (av : Value) (rv : Value) (F : KF Flow) (ρ : Stream) (b0 : Bool) : EqV (q_sct ((w.withFollow "comprehension-iter-twice" true).withFollow "special-get-raises" b0) w x T lo ce fo sg t0 t1 t2 t3 u0 u1 u2 s0 s1 s2 v0 v1 v2 ep sv av rv F ρ) (v_sct w x T lo ce fo sg t0 t1 t2 t3 u0 u1 u2 s0 s1 s2 v0 v1 v2 ep sv av rv F ρ) := by unfold EqV; cases b0 <;> kernel_rfl
theorem k_sct (w : World) (x T : Nat) (lo : Nat) (ce : Nat) (fo : Nat) (sg : Nat) (t0 : Nat) (t1 : Nat) (t2 : Nat) (t3 : Nat) (u0 : Nat) (u1 : Nat) (u2 : Nat) (s0 : Str) (s1 : Str) (s2 : Str) (v0 : Nat) (v1 : Nat) (v2 : Nat) (ep : Nat) (sv : Value) (av : Value) (rv : Value) (h0 : w.params.followText "comprehension-iter-twice" = true) (F : KF Flow) (ρ : Stream) : EqV (q_sct w w x T lo ce fo sg t0 t1 t2 t3 u0 u1 u2 s0 s1 s2 v0 v1 v2 ep sv av rv F ρ) (v_sct w x T lo ce fo sg t0 t1 t2 t3 u0 u1 u2 s0 s1 s2 v0 v1 v2 ep sv av rv F ρ) := by
  have eE := e_sct w x T lo ce fo sg t0 t1 t2 t3 u0 u1 u2 s0 s1 s2 v0 v1 v2 ep sv av rv F ρ
  rw [wf_eq h0] at eE
  exact row1 (P := fun W => EqV (q_sct W w x T lo ce fo sg t0 t1 t2 t3 u0 u1 u2 s0 s1 s2 v0 v1 v2 ep sv av rv F ρ) (v_sct w x T lo ce fo sg t0 t1 t2 t3 u0 u1 u2 s0 s1 s2 v0 v1 v2 ep sv av rv F ρ)) "special-get-raises" eE
noncomputable def q_scf (W : World) (w : World) (x T : Nat) (lo : Nat) (ce : Nat) (fo : Nat) (sg : Nat) (t0 : Nat) (t1 : Nat) (t2 : Nat) (t3 : Nat) (u0 : Nat) (u1 : Nat) (u2 : Nat) (s0 : Str) (s1 : Str) (s2 : Str) (v0 : Nat) (v1 : Nat) (v2 : Nat) (ep : Nat) (sv : Value) (av : Value) (rv : Value) (F : KF Flow) (ρ : Stream) : VT := (ex ⟨PR, W.params⟩ (mkZ w [] [] [sSX, sGX, sCP]) 4000).s Flow 20 (stX 4 [lwS w 4] (lwEnv w (lo + 214) (ce + 214))) [0, 0, 2, 1, 0, 0, 0, 0, 3, 3, 0, 3, 0, 5, 4, 4, 0, 4, 0, 6, 9, 9, 0, 9, 0, 9, 9, 9, 0, 9, 0, 9, 0, 9, 9, 0, 9, 0, 9, 2, 33, 9, 0, 9, 0, 9, 9, 7, 9, 9, 9, 9, 5, 0, 5, 0, 5, 5, 3, 5, 5, 8, 8, 8, 8, 6, 0, 6, 0, 6, 6, 4, 6, 6, 8, 8, 8, 8, 8, 9, 9, 9, 9, 9, 9, 9, 12, 12, 12, 0, 12, 0, 13, 13, 0, 13, 0, 13, 13, 12, 13, 13, 13, 0, 13, 0, 13, 13, 12, 13, 13, 13, 0, 13, 0, 13, 13, 12, 13, 13, 15, 11, 11, 11, 11, 11, 0, 2, 31, 0, 1, 0, 2, 27, 2] ⟨[lo + 214, ce + 214, fo + 214, sg + 214], [loc [eo w "script" t0 sv, en w "added" t1 av, en w "rights" t2 rv, en w "signs" t3 (.ref (sg + 214))] 4, pCell (some (.ref (fo + 214))), lst [.str (Str.ofString "/a") u0, .str (Str.ofString "/a/b") u1, .str (Str.ofString "/c") u2] 0, lst [.str s0 v0, .str s1 v1, .str s2 v2] ep], (x + 214), 0, T, 0, (.b [11, 0, 2, 31, 0, 1, 0, 2, 29, 2] (.b [11, 0, 10, 2, 11, 10, 10, 10, 0, 2, 33, 9, 0, 9, 0, 9, 9, 7, 9, 9, 9, 9, 5, 0, 5, 0, 5, 5, 3, 5, 5, 8, 8, 8, 8, 6, 0, 6, 0, 6, 6, 4, 6, 6, 8, 8, 8, 8, 8, 9, 9, 9, 9, 9, 9, 9, 16, 16, 16, 0, 16, 0, 17, 17, 0, 17, 0, 17, 17, 16, 17, 17, 17, 0, 17, 0, 17, 17, 16, 17, 17, 17, 0, 17, 0, 17, 17, 16, 17, 17, 19, 11, 11, 11, 11, 11, 0, 2, 31, 0, 1, 0, 2, 27, 2] (.b [11, 0, 2, 31, 0, 1, 0, 2, 29, 2] (.b [11, 0, 10, 2, 11, 10, 10, 10, 0, 2, 33, 9, 0, 9, 0, 9, 9, 7, 9, 9, 9, 9, 5, 0, 5, 0, 5, 5, 3, 5, 5, 8, 8, 8, 8, 6, 0, 6, 0, 6, 6, 4, 6, 6, 8, 8, 8, 8, 8, 9, 9, 9, 9, 9, 9, 9, 20, 20, 20, 0, 20, 0, 21, 21, 0, 21, 0, 21, 21, 20, 21, 21, 21, 0, 21, 0, 21, 21, 20, 21, 21, 21, 0, 21, 0, 21, 21, 20, 21, 21, 23, 11, 11, 11, 11, 11, 0, 2, 31, 0, 1, 0, 2, 27, 2] (.b [11, 0, 2, 31, 0, 1, 0, 2, 29, 2] (.b [11, 0, 10, 2, 11, 10, 10, 10, 0, 2, 33, 9, 0, 9, 0, 9, 9, 7, 9, 9, 9, 9, 5, 0, 5, 0, 5, 5, 3, 5, 5, 9, 9, 25, 1, 1, 11, 11, 11, 11, 11, 11, 0, 1, 2, 3, 9] .n [2, 33, 9, 0, 9, 0, 9, 9, 7, 9, 9, 9, 9, 5, 0, 5, 0, 5, 5, 3, 5, 5, 9, 9, 25, 1, 1, 11, 11, 11, 11, 11, 11, 0, 1, 2, 3, 9] .n) [11, 0, 10, 2, 11, 10, 10, 10, 0, 2, 33, 9, 0, 9, 0, 9, 9, 7, 9, 9, 9, 9, 5, 0, 5, 0, 5, 5, 3, 5, 5, 9, 9, 25, 1, 1, 11, 11, 11, 11, 11, 11, 0, 1, 2, 3, 9] .n) [2, 33, 9, 0, 9, 0, 9, 9, 7, 9, 9, 9, 9, 5, 0, 5, 0, 5, 5, 3, 5, 5, 8, 8, 8, 8, 6, 0, 6, 0, 6, 6, 4, 6, 6, 8, 8, 8, 8, 8, 9, 9, 9, 9, 9, 9, 9, 20, 20, 20, 0, 20, 0, 21, 21, 0, 21, 0, 21, 21, 20, 21, 21, 21, 0, 21, 0, 21, 21, 20, 21, 21, 21, 0, 21, 0, 21, 21, 20, 21, 21, 23, 11, 11, 11, 11, 11, 0, 2, 31, 0, 1, 0, 2, 27, 2] (.b [11, 0, 2, 31, 0, 1, 0, 2, 29, 2] (.b [11, 0, 10, 2, 11, 10, 10, 10, 0, 2, 33, 9, 0, 9, 0, 9, 9, 7, 9, 9, 9, 9, 5, 0, 5, 0, 5, 5, 3, 5, 5, 9, 9, 25, 1, 1, 11, 11, 11, 11, 11, 11, 0, 1, 2, 3, 9] .n [2, 33, 9, 0, 9, 0, 9, 9, 7, 9, 9, 9, 9, 5, 0, 5, 0, 5, 5, 3, 5, 5, 9, 9, 25, 1, 1, 11, 11, 11, 11, 11, 11, 0, 1, 2, 3, 9] .n) [11, 0, 10, 2, 11, 10, 10, 10, 0, 2, 33, 9, 0, 9, 0, 9, 9, 7, 9, 9, 9, 9, 5, 0, 5, 0, 5, 5, 3, 5, 5, 9, 9, 25, 1, 1, 11, 11, 11, 11, 11, 11, 0, 1, 2, 3, 9] .n)) [11, 0, 10, 2, 11, 10, 10, 10, 0, 2, 33, 9, 0, 9, 0, 9, 9, 7, 9, 9, 9, 9, 5, 0, 5, 0, 5, 5, 3, 5, 5, 8, 8, 8, 8, 6, 0, 6, 0, 6, 6, 4, 6, 6, 8, 8, 8, 8, 8, 9, 9, 9, 9, 9, 9, 9, 20, 20, 20, 0, 20, 0, 21, 21, 0, 21, 0, 21, 21, 20, 21, 21, 21, 0, 21, 0, 21, 21, 20, 21, 21, 21, 0, 21, 0, 21, 21, 20, 21, 21, 23, 11, 11, 11, 11, 11, 0, 2, 31, 0, 1, 0, 2, 27, 2] (.b [11, 0, 2, 31, 0, 1, 0, 2, 29, 2] (.b [11, 0, 10, 2, 11, 10, 10, 10, 0, 2, 33, 9, 0, 9, 0, 9, 9, 7, 9, 9, 9, 9, 5, 0, 5, 0, 5, 5, 3, 5, 5, 9, 9, 25, 1, 1, 11, 11, 11, 11, 11, 11, 0, 1, 2, 3, 9] .n [2, 33, 9, 0, 9, 0, 9, 9, 7, 9, 9, 9, 9, 5, 0, 5, 0, 5, 5, 3, 5, 5, 9, 9, 25, 1, 1, 11, 11, 11, 11, 11, 11, 0, 1, 2, 3, 9] .n) [11, 0, 10, 2, 11, 10, 10, 10, 0, 2, 33, 9, 0, 9, 0, 9, 9, 7, 9, 9, 9, 9, 5, 0, 5, 0, 5, 5, 3, 5, 5, 9, 9, 25, 1, 1, 11, 11, 11, 11, 11, 11, 0, 1, 2, 3, 9] .n)) [2, 33, 9, 0, 9, 0, 9, 9, 7, 9, 9, 9, 9, 5, 0, 5, 0, 5, 5, 3, 5, 5, 8, 8, 8, 8, 6, 0, 6, 0, 6, 6, 4, 6, 6, 8, 8, 8, 8, 8, 9, 9, 9, 9, 9, 9, 9, 16, 16, 16, 0, 16, 0, 17, 17, 0, 17, 0, 17, 17, 16, 17, 17, 17, 0, 17, 0, 17, 17, 16, 17, 17, 17, 0, 17, 0, 17, 17, 16, 17, 17, 19, 11, 11, 11, 11, 11, 0, 2, 31, 0, 1, 0, 2, 27, 2] (.b [11, 0, 2, 31, 0, 1, 0, 2, 29, 2] (.b [11, 0, 10, 2, 11, 10, 10, 10, 0, 2, 33, 9, 0, 9, 0, 9, 9, 7, 9, 9, 9, 9, 5, 0, 5, 0, 5, 5, 3, 5, 5, 8, 8, 8, 8, 6, 0, 6, 0, 6, 6, 4, 6, 6, 8, 8, 8, 8, 8, 9, 9, 9, 9, 9, 9, 9, 20, 20, 20, 0, 20, 0, 21, 21, 0, 21, 0, 21, 21, 20, 21, 21, 21, 0, 21, 0, 21, 21, 20, 21, 21, 21, 0, 21, 0, 21, 21, 20, 21, 21, 23, 11, 11, 11, 11, 11, 0, 2, 31, 0, 1, 0, 2, 27, 2] (.b [11, 0, 2, 31, 0, 1, 0, 2, 29, 2] (.b [11, 0, 10, 2, 11, 10, 10, 10, 0, 2, 33, 9, 0, 9, 0, 9, 9, 7, 9, 9, 9, 9, 5, 0, 5, 0, 5, 5, 3, 5, 5, 9, 9, 25, 1, 1, 11, 11, 11, 11, 11, 11, 0, 1, 2, 3, 9] .n [2, 33, 9, 0, 9, 0, 9, 9, 7, 9, 9, 9, 9, 5, 0, 5, 0, 5, 5, 3, 5, 5, 9, 9, 25, 1, 1, 11, 11, 11, 11, 11, 11, 0, 1, 2, 3, 9] .n) [11, 0, 10, 2, 11, 10, 10, 10, 0, 2, 33, 9, 0, 9, 0, 9, 9, 7, 9, 9, 9, 9, 5, 0, 5, 0, 5, 5, 3, 5, 5, 9, 9, 25, 1, 1, 11, 11, 11, 11, 11, 11, 0, 1, 2, 3, 9] .n) [2, 33, 9, 0, 9, 0, 9, 9, 7, 9, 9, 9, 9, 5, 0, 5, 0, 5, 5, 3, 5, 5, 8, 8, 8, 8, 6, 0, 6, 0, 6, 6, 4, 6, 6, 8, 8, 8, 8, 8, 9, 9, 9, 9, 9, 9, 9, 20, 20, 20, 0, 20, 0, 21, 21, 0, 21, 0, 21, 21, 20, 21, 21, 21, 0, 21, 0, 21, 21, 20, 21, 21, 21, 0, 21, 0, 21, 21, 20, 21, 21, 23, 11, 11, 11, 11, 11, 0, 2, 31, 0, 1, 0, 2, 27, 2] (.b [11, 0, 2, 31, 0, 1, 0, 2, 29, 2] (.b [11, 0, 10, 2, 11, 10, 10, 10, 0, 2, 33, 9, 0, 9, 0, 9, 9, 7, 9, 9, 9, 9, 5, 0, 5, 0, 5, 5, 3, 5, 5, 9, 9, 25, 1, 1, 11, 11, 11, 11, 11, 11, 0, 1, 2, 3, 9] .n [2, 33, 9, 0, 9, 0, 9, 9, 7, 9, 9, 9, 9, 5, 0, 5, 0, 5, 5, 3, 5, 5, 9, 9, 25, 1, 1, 11, 11, 11, 11, 11, 11, 0, 1, 2, 3, 9] .n) [11, 0, 10, 2, 11, 10, 10, 10, 0, 2, 33, 9, 0, 9, 0, 9, 9, 7, 9, 9, 9, 9, 5, 0, 5, 0, 5, 5, 3, 5, 5, 9, 9, 25, 1, 1, 11, 11, 11, 11, 11, 11, 0, 1, 2, 3, 9] .n)) [11, 0, 10, 2, 11, 10, 10, 10, 0, 2, 33, 9, 0, 9, 0, 9, 9, 7, 9, 9, 9, 9, 5, 0, 5, 0, 5, 5, 3, 5, 5, 8, 8, 8, 8, 6, 0, 6, 0, 6, 6, 4, 6, 6, 8, 8, 8, 8, 8, 9, 9, 9, 9, 9, 9, 9, 20, 20, 20, 0, 20, 0, 21, 21, 0, 21, 0, 21, 21, 20, 21, 21, 21, 0, 21, 0, 21, 21, 20, 21, 21, 21, 0, 21, 0, 21, 21, 20, 21, 21, 23, 11, 11, 11, 11, 11, 0, 2, 31, 0, 1, 0, 2, 27, 2] (.b [11, 0, 2, 31, 0, 1, 0, 2, 29, 2] (.b [11, 0, 10, 2, 11, 10, 10, 10, 0, 2, 33, 9, 0, 9, 0, 9, 9, 7, 9, 9, 9, 9, 5, 0, 5, 0, 5, 5, 3, 5, 5, 9, 9, 25, 1, 1, 11, 11, 11, 11, 11, 11, 0, 1, 2, 3, 9] .n [2, 33, 9, 0, 9, 0, 9, 9, 7, 9, 9, 9, 9, 5, 0, 5, 0, 5, 5, 3, 5, 5, 9, 9, 25, 1, 1, 11, 11, 11, 11, 11, 11, 0, 1, 2, 3, 9] .n) [11, 0, 10, 2, 11, 10, 10, 10, 0, 2, 33, 9, 0, 9, 0, 9, 9, 7, 9, 9, 9, 9, 5, 0, 5, 0, 5, 5, 3, 5, 5, 9, 9, 25, 1, 1, 11, 11, 11, 11, 11, 11, 0, 1, 2, 3, 9] .n))) [11, 0, 10, 2, 11, 10, 10, 10, 0, 2, 33, 9, 0, 9, 0, 9, 9, 7, 9, 9, 9, 9, 5, 0, 5, 0, 5, 5, 3, 5, 5, 8, 8, 8, 8, 6, 0, 6, 0, 6, 6, 4, 6, 6, 8, 8, 8, 8, 8, 9, 9, 9, 9, 9, 9, 9, 16, 16, 16, 0, 16, 0, 17, 17, 0, 17, 0, 17, 17, 16, 17, 17, 17, 0, 17, 0, 17, 17, 16, 17, 17, 17, 0, 17, 0, 17, 17, 16, 17, 17, 19, 11, 11, 11, 11, 11, 0, 2, 31, 0, 1, 0, 2, 27, 2] (.b [11, 0, 2, 31, 0, 1, 0, 2, 29, 2] (.b [11, 0, 10, 2, 11, 10, 10, 10, 0, 2, 33, 9, 0, 9, 0, 9, 9, 7, 9, 9, 9, 9, 5, 0, 5, 0, 5, 5, 3, 5, 5, 8, 8, 8, 8, 6, 0, 6, 0, 6, 6, 4, 6, 6, 8, 8, 8, 8, 8, 9, 9, 9, 9, 9, 9, 9, 20, 20, 20, 0, 20, 0, 21, 21, 0, 21, 0, 21, 21, 20, 21, 21, 21, 0, 21, 0, 21, 21, 20, 21, 21, 21, 0, 21, 0, 21, 21, 20, 21, 21, 23, 11, 11, 11, 11, 11, 0, 2, 31, 0, 1, 0, 2, 27, 2] (.b [11, 0, 2, 31, 0, 1, 0, 2, 29, 2] (.b [11, 0, 10, 2, 11, 10, 10, 10, 0, 2, 33, 9, 0, 9, 0, 9, 9, 7, 9, 9, 9, 9, 5, 0, 5, 0, 5, 5, 3, 5, 5, 9, 9, 25, 1, 1, 11, 11, 11, 11, 11, 11, 0, 1, 2, 3, 9] .n [2, 33, 9, 0, 9, 0, 9, 9, 7, 9, 9, 9, 9, 5, 0, 5, 0, 5, 5, 3, 5, 5, 9, 9, 25, 1, 1, 11, 11, 11, 11, 11, 11, 0, 1, 2, 3, 9] .n) [11, 0, 10, 2, 11, 10, 10, 10, 0, 2, 33, 9, 0, 9, 0, 9, 9, 7, 9, 9, 9, 9, 5, 0, 5, 0, 5, 5, 3, 5, 5, 9, 9, 25, 1, 1, 11, 11, 11, 11, 11, 11, 0, 1, 2, 3, 9] .n) [2, 33, 9, 0, 9, 0, 9, 9, 7, 9, 9, 9, 9, 5, 0, 5, 0, 5, 5, 3, 5, 5, 8, 8, 8, 8, 6, 0, 6, 0, 6, 6, 4, 6, 6, 8, 8, 8, 8, 8, 9, 9, 9, 9, 9, 9, 9, 20, 20, 20, 0, 20, 0, 21, 21, 0, 21, 0, 21, 21, 20, 21, 21, 21, 0, 21, 0, 21, 21, 20, 21, 21, 21, 0, 21, 0, 21, 21, 20, 21, 21, 23, 11, 11, 11, 11, 11, 0, 2, 31, 0, 1, 0, 2, 27, 2] (.b [11, 0, 2, 31, 0, 1, 0, 2, 29, 2] (.b [11, 0, 10, 2, 11, 10, 10, 10, 0, 2, 33, 9, 0, 9, 0, 9, 9, 7, 9, 9, 9, 9, 5, 0, 5, 0, 5, 5, 3, 5, 5, 9, 9, 25, 1, 1, 11, 11, 11, 11, 11, 11, 0, 1, 2, 3, 9] .n [2, 33, 9, 0, 9, 0, 9, 9, 7, 9, 9, 9, 9, 5, 0, 5, 0, 5, 5, 3, 5, 5, 9, 9, 25, 1, 1, 11, 11, 11, 11, 11, 11, 0, 1, 2, 3, 9] .n) [11, 0, 10, 2, 11, 10, 10, 10, 0, 2, 33, 9, 0, 9, 0, 9, 9, 7, 9, 9, 9, 9, 5, 0, 5, 0, 5, 5, 3, 5, 5, 9, 9, 25, 1, 1, 11, 11, 11, 11, 11, 11, 0, 1, 2, 3, 9] .n)) [11, 0, 10, 2, 11, 10, 10, 10, 0, 2, 33, 9, 0, 9, 0, 9, 9, 7, 9, 9, 9, 9, 5, 0, 5, 0, 5, 5, 3, 5, 5, 8, 8, 8, 8, 6, 0, 6, 0, 6, 6, 4, 6, 6, 8, 8, 8, 8, 8, 9, 9, 9, 9, 9, 9, 9, 20, 20, 20, 0, 20, 0, 21, 21, 0, 21, 0, 21, 21, 20, 21, 21, 21, 0, 21, 0, 21, 21, 20, 21, 21, 21, 0, 21, 0, 21, 21, 20, 21, 21, 23, 11, 11, 11, 11, 11, 0, 2, 31, 0, 1, 0, 2, 27, 2] (.b [11, 0, 2, 31, 0, 1, 0, 2, 29, 2] (.b [11, 0, 10, 2, 11, 10, 10, 10, 0, 2, 33, 9, 0, 9, 0, 9, 9, 7, 9, 9, 9, 9, 5, 0, 5, 0, 5, 5, 3, 5, 5, 9, 9, 25, 1, 1, 11, 11, 11, 11, 11, 11, 0, 1, 2, 3, 9] .n [2, 33, 9, 0, 9, 0, 9, 9, 7, 9, 9, 9, 9, 5, 0, 5, 0, 5, 5, 3, 5, 5, 9, 9, 25, 1, 1, 11, 11, 11, 11, 11, 11, 0, 1, 2, 3, 9] .n) [11, 0, 10, 2, 11, 10, 10, 10, 0, 2, 33, 9, 0, 9, 0, 9, 9, 7, 9, 9, 9, 9, 5, 0, 5, 0, 5, 5, 3, 5, 5, 9, 9, 25, 1, 1, 11, 11, 11, 11, 11, 11, 0, 1, 2, 3, 9] .n))), ρ⟩ (leafS F)
noncomputable def v_scf (w : World) (x T : Nat) (lo : Nat) (ce : Nat) (fo : Nat) (sg : Nat) (t0 : Nat) (t1 : Nat) (t2 : Nat) (t3 : Nat) (u0 : Nat) (u1 : Nat) (u2 : Nat) (s0 : Str) (s1 : Str) (s2 : Str) (v0 : Nat) (v1 : Nat) (v2 : Nat) (ep : Nat) (sv : Value) (av : Value) (rv : Value) (F : KF Flow) (ρ : Stream) : VT := lwV2 w x T lo ce fo sg t0 t1 t2 t3 u0 u1 u2 s0 s1 s2 v0 v1 v2 ep sv av rv F ρ
theorem e_scf (w : World) (x T : Nat) (lo : Nat) (ce : Nat) (fo : Nat) (sg : Nat) (t0 : Nat) (t1 : Nat) (t2 : Nat) (t3 : Nat) (u0 : Nat) (u1 : Nat) (u2 : Nat) (s0 : Str) (s1 : Str) (s2 : Str) (v0 : Nat) (v1 : Nat) (v2 : Nat) (ep : Nat) (sv : Value) (av : Value) (rv : Value) (F : KF Flow) (ρ : Stream) (b0 : Bool) : EqV (q_scf ((w.withFollow "comprehension-iter-twice" false).withFollow "special-get-raises" b0) w x T lo ce fo sg t0 t1 t2 t3 u0 u1 u2 s0 s1 s2 v0 v1 v2 ep sv av rv F ρ) (v_scf w x T lo ce fo sg t0 t1 t2 t3 u0 u1 u2 s0 s1 s2 v0 v1 v2 ep sv av rv F ρ) := by unfold EqV; cases b0 <;> kernel_rfl
theorem k_scf (w : World) (x T : Nat) (lo : Nat) (ce : Nat) (fo : Nat) (sg : Nat) (t0 : Nat) (t1 : Nat) (t2 : Nat) (t3 : Nat) (u0 : Nat) (u1 : Nat) (u2 : Nat) (s0 : Str) (s1 : Str) (s2 : Str) (v0 : Nat) (v1 : Nat) (v2 : Nat) (ep : Nat) (sv : Value) (av : Value) (rv : Value) (h0 : w.params.followText "comprehension-iter-twice" = false) (F : KF Flow) (ρ : Stream) : EqV (q_scf w w x T lo ce fo sg t0 t1 t2 t3 u0 u1 u2 s0 s1 s2 v0 v1 v2 ep sv av rv F ρ) (v_scf w x T lo ce fo sg t0 t1 t2 t3 u0 u1 u2 s0 s1 s2 v0 v1 v2 ep sv av rv F ρ) := by
  have eE := e_scf w x T lo ce fo sg t0 t1 t2 t3 u0 u1 u2 s0 s1 s2 v0 v1 v2 ep sv av rv F ρ
  rw [wf_eq h0] at eE
  exact row1 (P := fun W => EqV (q_scf W w x T lo ce fo sg t0 t1 t2 t3 u0 u1 u2 s0 s1 s2 v0 v1 v2 ep sv av rv F ρ) (v_scf w x T lo ce fo sg t0 t1 t2 t3 u0 u1 u2 s0 s1 s2 v0 v1 v2 ep sv av rv F ρ)) "special-get-raises" eE
end Mine
-- L1
set_option maxHeartbeats 0
namespace Mine
noncomputable def q_sbt (W : World) (w : World) (x T : Nat) (lo : Nat) (ce : Nat) (fo : Nat) (ad : Nat) (sc : Nat) (t0 : Nat) (t1 : Nat) (u0 : Nat) (u1 : Nat) (u2 : Nat) (a : Int) (b : Int) (c : Int) (ta : Nat) (tb : Nat) (tc : Nat) (e : Nat) (sv : Value) (F : KF Flow) (ρ : Stream) : VT := (ex ⟨PR, W.params⟩ (mkZ w [zFM, zLS] [zLQ true 27 32] [sSL, sLM, sDI, sMO, sSX, sGX, sCP]) 4000).s Flow 20 (stX 4 [lwS w 1, lwS w 2, lwS w 3] (lwEnv w (lo + 214) (ce + 214))) [0, 0, 1, 0, 0, 0, 0, 5, 5, 0, 5, 0, 6, 4, 4, 0, 4, 0, 7, 10, 10, 0, 10, 0, 10, 10, 10, 0, 10, 0, 10, 0, 2, 37, 10, 0, 10, 0, 10, 10, 8, 10, 10, 10, 10, 6, 0, 6, 0, 6, 6, 5, 6, 6, 9, 9, 9, 9, 7, 0, 7, 0, 7, 7, 4, 7, 7, 9, 9, 9, 9, 9, 10, 10, 10, 10, 10, 10, 10, 13, 13, 13, 0, 13, 0, 14, 14, 0, 14, 0, 14, 14, 13, 14, 14, 14, 0, 14, 0, 14, 14, 13, 14, 14, 14, 0, 14, 0, 14, 14, 13, 14, 14, 16, 12, 12, 12, 12, 12, 12, 0, 0, 0, 2, 34, 0, 11, 2, 11, 11, 11, 11, 0, 2, 37, 10, 0, 10, 0, 10, 10, 8, 10, 10, 10, 10, 6, 0, 6, 0, 6, 6, 5, 6, 6, 9, 9, 9, 9, 7, 0, 7, 0, 7, 7, 4, 7, 7, 9, 9, 9, 9, 9, 10, 10, 10, 10, 10, 10, 10, 17, 17, 17, 0, 17, 0, 18, 18, 0, 18, 0, 18, 18, 17, 18, 18, 18, 0, 18, 0, 18, 18, 17, 18, 18, 18, 0, 18, 0, 18, 18, 17, 18, 18, 20, 12, 12, 12, 12, 12, 12, 0, 0, 0, 2, 34, 0, 11, 2, 11, 11, 11, 11, 0, 2, 37, 10, 0, 10, 0, 10, 10, 8, 10, 10, 10, 10, 6, 0, 6, 0, 6, 6, 5, 6, 6, 9, 9, 9, 9, 7, 0, 7, 0, 7, 7, 4, 7, 7, 9, 9, 9, 9, 9, 10, 10, 10, 10, 10, 10, 10, 21, 21, 21, 0, 21, 0, 22, 22, 0, 22, 0, 22, 22, 21, 22, 22, 22, 0, 22, 0, 22, 22, 21, 22, 22, 22, 0, 22, 0, 22, 22, 21, 22, 22, 24, 12, 12, 12, 12, 12, 12, 0, 0, 0, 2, 34, 0, 11, 2, 11, 11, 11, 11, 0, 2, 37, 10, 0, 10, 0, 10, 10, 8, 10, 10, 10, 10, 6, 0, 6, 0, 6, 6, 5, 6, 6, 10, 10, 26, 1, 1, 12, 12, 12, 12, 12, 12, 1, 11, 11, 0, 11, 0, 27, 0, 2, 37, 27, 0, 27, 0, 27, 27, 11, 27, 27, 29, 29, 0, 29, 0, 0, 0, 3, 0, 1, 0, 28, 2, 11, 28, 28, 28, 0, 2, 37, 27, 0, 27, 0, 27, 27, 11, 27, 27, 29, 29, 0, 29, 0, 0, 0, 3, 0, 1, 0, 28, 2, 11, 28, 28, 28, 0, 2, 37, 27, 0, 27, 0, 27, 27, 11, 27, 27, 29, 29, 0, 29, 0, 0, 0, 3, 0, 1, 0, 28, 2, 11, 28, 28, 28, 0, 2, 37, 27, 0, 27, 0, 27, 27, 11, 27, 27, 31, 1, 1, 29, 29, 29, 1, 1, 11, 11, 0, 11, 0, 32, 0, 2, 37, 32, 0, 32, 0, 32, 32, 11, 32, 32, 34, 34, 0, 34, 0, 3, 1, 1, 0, 33, 2, 11, 33, 33, 33, 0, 2, 37, 32, 0, 32, 0, 32, 32, 11, 32, 32, 34, 34, 0, 34, 0, 3, 1, 1, 0, 33, 2, 11, 33, 33, 33, 0, 2, 37, 32, 0, 32, 0, 32, 32, 11, 32, 32, 34, 34, 0, 34, 0, 3, 1, 1, 0, 33, 2, 11, 33, 33, 33, 0, 2, 37, 32, 0, 32, 0, 32, 32, 11, 32, 32, 36, 34, 34, 34, 28, 33, 28, 4, 0, 27, 32, 1, 1, 11, 11, 0, 11, 0, 37, 0, 2, 37, 37, 0, 37, 0, 37, 37, 11, 37, 37, 39, 39, 0, 39, 0, 0, 0, 1, 0, 0, 40, 40, 0, 0, 40, 0, 1, 0, 0, 41, 41, 0, 41, 0, 0, 0, 0, 2, 6, 1, 0, 38, 2, 11, 38, 38, 38, 0, 2, 37, 37, 0, 37, 0, 37, 37, 11, 37, 37, 39, 39, 0, 39, 0, 0, 0, 1, 0, 0, 42, 42, 0, 0, 42, 0, 1, 0, 0, 43, 43, 0, 43, 0, 0, 0, 0, 2, 6, 1, 0, 38, 2, 11, 38, 38, 38, 0, 2, 37, 37, 0, 37, 0, 37, 37, 11, 37, 37, 39, 39, 0, 39, 0, 0, 0, 1, 0, 0, 44, 44, 0, 0, 44, 0, 1, 0, 0, 45, 45, 0, 45, 0, 0, 0, 0, 2, 6, 1, 0, 38, 2, 11, 38, 38, 38, 0, 2, 37, 37, 0, 37, 0, 37, 37, 11, 37, 37, 47, 39, 39, 39, 48, 0, 0, 48, 48, 0, 48, 2, 32, 1, 48, 0, 0, 38, 49, 38, 0, 38, 0, 49, 38, 49, 0, 38, 49, 0, 38, 49, 0, 38, 49, 0, 38, 49, 38, 49, 0, 1, 2, 10, 27] ⟨[lo + 214, ce + 214, fo + 214, ad + 214], [loc [eo w "script" t0 sv, en w "added" t1 (.ref (ad + 214))] 2, pCell (some (.ref (fo + 214))), lst [.str (Str.ofString "/a") u0, .str (Str.ofString "/a/b") u1, .str (Str.ofString "/c") u2] 0, lst [.int a ta, .int b tb, .int c tc] e], (x + 214), 0, T, 0, .n, ρ⟩ (leafS F)
noncomputable def v_sbt (w : World) (x T : Nat) (lo : Nat) (ce : Nat) (fo : Nat) (ad : Nat) (sc : Nat) (t0 : Nat) (t1 : Nat) (u0 : Nat) (u1 : Nat) (u2 : Nat) (a : Int) (b : Int) (c : Int) (ta : Nat) (tb : Nat) (tc : Nat) (e : Nat) (sv : Value) (F : KF Flow) (ρ : Stream) : VT := lwV1 w x T lo ce fo ad t0 t1 u0 u1 u2 a b c sv F ρ
theorem e_sbt (w : World) (x T : Nat) (lo : Nat) (ce : Nat) (fo : Nat) (ad : Nat) (sc : Nat) (t0 : Nat) (t1 : Nat) (u0 : Nat) (u1 : Nat) (u2 : Nat) (a : Int) (b : Int) (c : Int) (ta : Nat) (tb : Nat) (tc : Nat) (e : Nat) (sv : Value) (F : KF Flow) (ρ : Stream) (b0 : Bool) : EqV (q_sbt ((w.withFollow "comprehension-iter-twice" true).withFollow "special-get-raises" b0) w x T lo ce fo ad sc t0 t1 u0 u1 u2 a b c ta tb tc e sv F ρ) (v_sbt w x T lo ce fo ad sc t0 t1 u0 u1 u2 a b c ta tb tc e sv F ρ) := by unfold EqV; cases b0 <;> kernel_rfl
theorem k_sbt (w : World) (x T : Nat) (lo : Nat) (ce : Nat) (fo : Nat) (ad : Nat) (sc : Nat) (t0 : Nat) (t1 : Nat) (u0 : Nat) (u1 : Nat) (u2 : Nat) (a : Int) (b : Int) (c : Int) (ta : Nat) (tb : Nat) (tc : Nat) (e : Nat) (sv : Value) (h0 : w.params.followText "comprehension-iter-twice" = true) (F : KF Flow) (ρ : Stream) : EqV (q_sbt w w x T lo ce fo ad sc t0 t1 u0 u1 u2 a b c ta tb tc e sv F ρ) (v_sbt w x T lo ce fo ad sc t0 t1 u0 u1 u2 a b c ta tb tc e sv F ρ) := by
  have eE := e_sbt w x T lo ce fo ad sc t0 t1 u0 u1 u2 a b c ta tb tc e sv F ρ
  rw [wf_eq h0] at eE
  exact row1 (P := fun W => EqV (q_sbt W w x T lo ce fo ad sc t0 t1 u0 u1 u2 a b c ta tb tc e sv F ρ) (v_sbt w x T lo ce fo ad sc t0 t1 u0 u1 u2 a b c ta tb tc e sv F ρ)) "special-get-raises" eE
noncomputable def q_sbf (W : World) (w : World) (x T : Nat) (lo : Nat) (ce : Nat) (fo : Nat) (ad : Nat) (sc : Nat) (t0 : Nat) (t1 : Nat) (u0 : Nat) (u1 : Nat) (u2 : Nat) (a : Int) (b : Int) (c : Int) (ta : Nat) (tb : Nat) (tc : Nat) (e : Nat) (sv : Value) (F : KF Flow) (ρ : Stream) : VT := (ex ⟨PR, W.params⟩ (mkZ w [zFM, zLS] [zLQ true 27 32] [sSL, sLM, sDI, sMO, sSX, sGX, sCP]) 4000).s Flow 20 (stX 4 [lwS w 1, lwS w 2, lwS w 3] (lwEnv w (lo + 214) (ce + 214))) [0, 0, 1, 0, 0, 0, 0, 5, 5, 0, 5, 0, 6, 4, 4, 0, 4, 0, 7, 10, 10, 0, 10, 0, 10, 10, 10, 0, 10, 0, 10, 0, 10, 10, 0, 10, 0, 10, 2, 37, 10, 0, 10, 0, 10, 10, 8, 10, 10, 10, 10, 6, 0, 6, 0, 6, 6, 5, 6, 6, 9, 9, 9, 9, 7, 0, 7, 0, 7, 7, 4, 7, 7, 9, 9, 9, 9, 9, 10, 10, 10, 10, 10, 10, 10, 13, 13, 13, 0, 13, 0, 14, 14, 0, 14, 0, 14, 14, 13, 14, 14, 14, 0, 14, 0, 14, 14, 13, 14, 14, 14, 0, 14, 0, 14, 14, 13, 14, 14, 16, 12, 12, 12, 12, 12, 12, 0, 0, 0, 2, 34, 0, 11, 2, 11, 11, 11, 11, 0, 2, 37, 10, 0, 10, 0, 10, 10, 8, 10, 10, 10, 10, 6, 0, 6, 0, 6, 6, 5, 6, 6, 9, 9, 9, 9, 7, 0, 7, 0, 7, 7, 4, 7, 7, 9, 9, 9, 9, 9, 10, 10, 10, 10, 10, 10, 10, 17, 17, 17, 0, 17, 0, 18, 18, 0, 18, 0, 18, 18, 17, 18, 18, 18, 0, 18, 0, 18, 18, 17, 18, 18, 18, 0, 18, 0, 18, 18, 17, 18, 18, 20, 12, 12, 12, 12, 12, 12, 0, 0, 0, 2, 34, 0, 11, 2, 11, 11, 11, 11, 0, 2, 37, 10, 0, 10, 0, 10, 10, 8, 10, 10, 10, 10, 6, 0, 6, 0, 6, 6, 5, 6, 6, 9, 9, 9, 9, 7, 0, 7, 0, 7, 7, 4, 7, 7, 9, 9, 9, 9, 9, 10, 10, 10, 10, 10, 10, 10, 21, 21, 21, 0, 21, 0, 22, 22, 0, 22, 0, 22, 22, 21, 22, 22, 22, 0, 22, 0, 22, 22, 21, 22, 22, 22, 0, 22, 0, 22, 22, 21, 22, 22, 24, 12, 12, 12, 12, 12, 12, 0, 0, 0, 2, 34, 0, 11, 2, 11, 11, 11, 11, 0, 2, 37, 10, 0, 10, 0, 10, 10, 8, 10, 10, 10, 10, 6, 0, 6, 0, 6, 6, 5, 6, 6, 10, 10, 26, 1, 1, 12, 12, 12, 12, 12, 12, 1, 11, 11, 0, 11, 0, 27, 0, 27, 27, 0, 27, 0, 27, 2, 37, 27, 0, 27, 0, 27, 27, 11, 27, 27, 29, 29, 0, 29, 0, 0, 0, 3, 0, 1, 0, 28, 2, 11, 28, 28, 28, 0, 2, 37, 27, 0, 27, 0, 27, 27, 11, 27, 27, 29, 29, 0, 29, 0, 0, 0, 3, 0, 1, 0, 28, 2, 11, 28, 28, 28, 0, 2, 37, 27, 0, 27, 0, 27, 27, 11, 27, 27, 29, 29, 0, 29, 0, 0, 0, 3, 0, 1, 0, 28, 2, 11, 28, 28, 28, 0, 2, 37, 27, 0, 27, 0, 27, 27, 11, 27, 27, 31, 1, 1, 29, 29, 29, 1, 1, 11, 11, 0, 11, 0, 32, 0, 32, 32, 0, 32, 0, 32, 2, 37, 32, 0, 32, 0, 32, 32, 11, 32, 32, 34, 34, 0, 34, 0, 3, 1, 1, 0, 33, 2, 11, 33, 33, 33, 0, 2, 37, 32, 0, 32, 0, 32, 32, 11, 32, 32, 34, 34, 0, 34, 0, 3, 1, 1, 0, 33, 2, 11, 33, 33, 33, 0, 2, 37, 32, 0, 32, 0, 32, 32, 11, 32, 32, 34, 34, 0, 34, 0, 3, 1, 1, 0, 33, 2, 11, 33, 33, 33, 0, 2, 37, 32, 0, 32, 0, 32, 32, 11, 32, 32, 36, 34, 34, 34, 28, 33, 28, 4, 0, 27, 32, 1, 1, 11, 11, 0, 11, 0, 37, 0, 37, 37, 0, 37, 0, 37, 2, 37, 37, 0, 37, 0, 37, 37, 11, 37, 37, 39, 39, 0, 39, 0, 0, 0, 1, 0, 0, 40, 40, 0, 0, 40, 0, 1, 0, 0, 41, 41, 0, 41, 0, 0, 0, 0, 2, 6, 1, 0, 38, 2, 11, 38, 38, 38, 0, 2, 37, 37, 0, 37, 0, 37, 37, 11, 37, 37, 39, 39, 0, 39, 0, 0, 0, 1, 0, 0, 42, 42, 0, 0, 42, 0, 1, 0, 0, 43, 43, 0, 43, 0, 0, 0, 0, 2, 6, 1, 0, 38, 2, 11, 38, 38, 38, 0, 2, 37, 37, 0, 37, 0, 37, 37, 11, 37, 37, 39, 39, 0, 39, 0, 0, 0, 1, 0, 0, 44, 44, 0, 0, 44, 0, 1, 0, 0, 45, 45, 0, 45, 0, 0, 0, 0, 2, 6, 1, 0, 38, 2, 11, 38, 38, 38, 0, 2, 37, 37, 0, 37, 0, 37, 37, 11, 37, 37, 47, 39, 39, 39, 48, 0, 0, 48, 48, 0, 48, 2, 32, 1, 48, 0, 0, 38, 49, 38, 0, 38, 0, 49, 38, 49, 0, 38, 49, 0, 38, 49, 0, 38, 49, 0, 38, 49, 38, 49, 0, 1, 2, 10, 27] ⟨[lo + 214, ce + 214, fo + 214, ad + 214], [loc [eo w "script" t0 sv, en w "added" t1 (.ref (ad + 214))] 2, pCell (some (.ref (fo + 214))), lst [.str (Str.ofString "/a") u0, .str (Str.ofString "/a/b") u1, .str (Str.ofString "/c") u2] 0, lst [.int a ta, .int b tb, .int c tc] e], (x + 214), 0, T, 0, .n, ρ⟩ (leafS F)
noncomputable def v_sbf (w : World) (x T : Nat) (lo : Nat) (ce : Nat) (fo : Nat) (ad : Nat) (sc : Nat) (t0 : Nat) (t1 : Nat) (u0 : Nat) (u1 : Nat) (u2 : Nat) (a : Int) (b : Int) (c : Int) (ta : Nat) (tb : Nat) (tc : Nat) (e : Nat) (sv : Value) (F : KF Flow) (ρ : Stream) : VT := lwV1 w x T lo ce fo ad t0 t1 u0 u1 u2 a b c sv F ρ
theorem e_sbf (w : World) (x T : Nat) (lo : Nat) (ce : Nat) (fo : Nat) (ad : Nat) (sc : Nat) (t0 : Nat) (t1 : Nat) (u0 : Nat) (u1 : Nat) (u2 : Nat) (a : Int) (b : Int) (c : Int) (ta : Nat) (tb : Nat) (tc : Nat) (e : Nat) (sv : Value) (F : KF Flow) (ρ : Stream) (b0 : Bool) : EqV (q_sbf ((w.withFollow "comprehension-iter-twice" false).withFollow "special-get-raises" b0) w x T lo ce fo ad sc t0 t1 u0 u1 u2 a b c ta tb tc e sv F ρ) (v_sbf w x T lo ce fo ad sc t0 t1 u0 u1 u2 a b c ta tb tc e sv F ρ) := by unfold EqV; cases b0 <;> kernel_rfl
theorem k_sbf (w : World) (x T : Nat) (lo : Nat) (ce : Nat) (fo : Nat) (ad : Nat) (sc : Nat) (t0 : Nat) (t1 : Nat) (u0 : Nat) (u1 : Nat) (u2 : Nat) (a : Int) (b : Int) (c : Int) (ta : Nat) (tb : Nat) (tc : Nat) (e : Nat) (sv : Value) (h0 : w.params.followText "comprehension-iter-twice" = false) (F : KF Flow) (ρ : Stream) : EqV (q_sbf w w x T lo ce fo ad sc t0 t1 u0 u1 u2 a b c ta tb tc e sv F ρ) (v_sbf w x T lo ce fo ad sc t0 t1 u0 u1 u2 a b c ta tb tc e sv F ρ) := by
  have eE := e_sbf w x T lo ce fo ad sc t0 t1 u0 u1 u2 a b c ta tb tc e sv F ρ
  rw [wf_eq h0] at eE
  exact row1 (P := fun W => EqV (q_sbf W w x T lo ce fo ad sc t0 t1 u0 u1 u2 a b c ta tb tc e sv F ρ) (v_sbf w x T lo ce fo ad sc t0 t1 u0 u1 u2 a b c ta tb tc e sv F ρ)) "special-get-raises" eE
end Mine
-- L0
set_option maxHeartbeats 0
namespace Mine
noncomputable def q_sa (W : World) (w : World) (x T : Nat) (lo : Nat) (ce : Nat) (t0 : Nat) (xs : Array Value) (ep : Nat) (F : KF Flow) (ρ : Stream) : VT := (ex ⟨PR, W.params⟩ (mkZ w [] [] [sSL, sLM, sDI, sMO, sSX, sGX]) 2500).s Flow 20 (stX 4 [lwS w 0] (lwEnv w (lo + 214) (ce + 214))) [1, 3, 3, 3, 0, 3, 2, 31, 5, 5, 5, 5, 5, 3, 0, 0, 0, 1, 3, 3, 3, 0, 3, 2, 31, 8, 8, 8, 8, 8, 3, 0, 0, 2, 12, 9, 0, 9, 0, 9, 0, 0, 0, 0, 7, 0, 0, 7, 7, 0, 7, 2, 32, 1, 7, 0, 0, 6, 10, 6, 0, 6, 2, 7, 10, 6, 10, 0, 12, 12, 12, 0, 12, 0, 13, 13, 0, 13, 0, 13, 13, 12, 13, 13, 13, 0, 13, 0, 13, 13, 12, 13, 13, 13, 0, 13, 0, 13, 13, 12, 13, 13, 15, 2, 2, 1, 1, 0, 1, 2, 3, 10] ⟨[lo + 214, ce + 214, 213], [loc [eo w "script" t0 (.ref 213)] 1, pCell none, lstA xs ep], (x + 214), 0, T, 0, .n, ρ⟩ (leafS F)
noncomputable def v_sa (w : World) (x T : Nat) (lo : Nat) (ce : Nat) (t0 : Nat) (xs : Array Value) (ep : Nat) (F : KF Flow) (ρ : Stream) : VT := lwV0 w x T lo ce t0 xs ep F ρ
theorem e_sa (w : World) (x T : Nat) (lo : Nat) (ce : Nat) (t0 : Nat) (xs : Array Value) (ep : Nat) (F : KF Flow) (ρ : Stream) (b0 : Bool) : EqV (q_sa (w.withFollow "special-get-raises" b0) w x T lo ce t0 xs ep F ρ) (v_sa w x T lo ce t0 xs ep F ρ) := by unfold EqV; cases b0 <;> kernel_rfl
theorem k_sa (w : World) (x T : Nat) (lo : Nat) (ce : Nat) (t0 : Nat) (xs : Array Value) (ep : Nat) (F : KF Flow) (ρ : Stream) : EqV (q_sa w w x T lo ce t0 xs ep F ρ) (v_sa w x T lo ce t0 xs ep F ρ) := by
  have eE := e_sa w x T lo ce t0 xs ep F ρ
  exact row1 (P := fun W => EqV (q_sa W w x T lo ce t0 xs ep F ρ) (v_sa w x T lo ce t0 xs ep F ρ)) "special-get-raises" eE
end Mine
-- X22
set_option maxHeartbeats 0
namespace Mine
noncomputable section
noncomputable def slB (xs : Array Value) (lo hi : Int) : Array Value := ((sliceRange (max 0 (min lo (Nat.cast xs.size))) (max 0 (min hi (Nat.cast xs.size))) 1).filterMap (xs[·]?)).toArray
noncomputable def pcIts (xs : Array Value) (T : Nat) : Array Value := slB xs 3 7 ++ #[.int 3 (T + 2), .int 1 (T + 3), .int 4 (T + 4), .int 11 (T + 5), .int 8 (T + 6), .int 0 (T + 7)]
noncomputable def pcOut (xs : Array Value) (T : Nat) (ρ : Stream) : Obj := lst (dvals (tag ((pcIts xs T).toList.flatMap pcG) (gF 0 (drawn 6 ρ)))) (ρ 1).n
noncomputable def lwV3 (w : World) (x T lo ce fo t0 t1 t2 t3 t4 u0 u1 u2 : Nat) (xs : Array Value) (ep : Nat) (av rv gv cv : Value) (F : KF Flow) (ρ : Stream) : VT :=
  let lf : String → VT := fun m => .leaf (F (.ok .next) ((ρ 3).n + 214) ((ρ 4).n + 8) [(lo + 214, loc [eo w "script" t0 (.ref 213), en w "added" t1 av, en w "rights" t2 rv, en w "signs" t3 gv, en w "closed" t4 cv, en w "paths" (ρ 4).n (.ref (x + 214 + 5)), en w "module" ((ρ 4).n + 7) (.str (Str.ofString m) ((ρ 4).n + 6))] 7),
    (ce + 214, pCell (some (.ref (fo + 214)))), (fo + 214, lst [.str (Str.ofString "/a") u0, .str (Str.ofString "/a/b") u1, .str (Str.ofString "/c") u2] 0), (213, lstA xs ep), (x + 214 + 5, pcOut xs T ρ)])
  chain [(decide ((slB xs 3 7).size > 16777216), false), (decide ((pcIts xs T).size > 16777216), false)] (.claim ((214 ≤ x + 214 + 4 ∧ 214 ≤ x + 214 + 5 ∧ 214 ≤ x + 214 + 6 ∧ 214 ≤ x + 214 + 3) ∧ IntsA (pcIts xs T) ∧ (pcIts xs T).isEmpty = !true)
    (chain [(true, true), (false, false), (decide ((Nat.cast xs.size : Int) ≥ (2 : Int) ^ 63), false)] (.dec (Int.fmod (Nat.cast xs.size) 2 == 1) (lf "pkg") (lf "m"))))
end
end Mine
-- X23
set_option maxHeartbeats 0
namespace Mine
noncomputable section
noncomputable def ρs (n : Nat) (ρ : Stream) : Stream := fun j => ρ (j + n)
noncomputable def tcO (j : Nat) (pl : List (Str × Tok)) (σ : Stream) : Obj := lst (dvals (tag ((dvals pl).flatMap (tcG j)) (gF 0 (drawn 6 σ)))) (σ 1).n
noncomputable def tcCm (j : Nat) (a pa : Nat) (pl : List (Str × Tok)) (z : Bool) : Prop := (214 ≤ a ∧ 214 ≤ a + 1 ∧ 214 ≤ a + 2 ∧ 214 ≤ pa) ∧ TcOk j ⟨dvals pl⟩ ∧ (Array.mk (dvals pl)).isEmpty = !z
noncomputable def lwF (w : World) (t0 t1 t2 t3 t4 t5 t6 pa tm : Nat) (sv av rv gv cv : Value) (md : Str) : Obj := loc [eo w "script" t0 sv, en w "added" t1 av, en w "rights" t2 rv, en w "signs" t3 gv, en w "closed" t4 cv, en w "paths" t5 (.ref (pa + 214)), en w "module" t6 (.str md tm)] 7
noncomputable def lqCm (a b : Obj) : Prop := seqA a = ⟨dvals (plA (seqA a))⟩ ∧ seqA b = ⟨dvals (plA (seqA b))⟩
noncomputable def lwV4 (w : World) (x T lo pa t0 t1 t2 t3 t4 t5 t6 : Nat) (sv av rv gv cv : Value) (md : Str) (tm : Nat) (pl : List (Str × Tok)) (pe : Nat) (F : KF Flow) (ρ : Stream) : VT :=
  .claim (tcCm 0 (x + 214) (pa + 214) pl true) (chain [(true, true)] (.claim (tcCm 1 ((ρ 3).n + 214) (pa + 214) pl true) (chain [(true, true)] (.claim (lqCm (tcO 0 pl ρ) (tcO 1 pl (ρs 6 ρ))) (chain [(decide (strsA (seqA (tcO 0 pl ρ)) = strsA (seqA (tcO 1 pl (ρs 6 ρ)))), true)]
    (.leaf (F (.ok .next) ((ρ 12).n + 214) (ρ 13).n [(lo + 214, lwF w t0 t1 t2 t3 t4 t5 t6 pa tm sv av rv gv cv md), (pa + 214, lst (dvals pl) pe)])))))))
end
end Mine
-- L6
set_option maxHeartbeats 0
namespace Mine
noncomputable def q_set (W : World) (w : World) (x T : Nat) (lo : Nat) (ce : Nat) (pa : Nat) (t0 : Nat) (t1 : Nat) (t2 : Nat) (t3 : Nat) (t4 : Nat) (t5 : Nat) (t6 : Nat) (sv : Value) (av : Value) (rv : Value) (gv : Value) (cv : Value) (md : Str) (tm : Nat) (pl : List (Str × Tok)) (pe : Nat) (F : KF Flow) (ρ : Stream) : VT := (ex ⟨PR, W.params⟩ (mkZ w [] [zTC w lo ce 0 true 2 1, zTC w lo ce 1 true 5 1, zLQ true 3 6]) 4000).s Flow 20 (stX 4 [lwS w 7] (lwEnv w (lo + 214) (ce + 214))) [1, 2, 2, 0, 2, 0, 3, 0, 4, 0, 2, 3, 4, 1, 1, 5, 5, 5, 1, 2, 2, 0, 2, 0, 6, 0, 4, 1, 5, 6, 7, 1, 1, 8, 8, 8, 4, 7, 4, 4, 2, 3, 6, 1, 0, 1] ⟨[lo + 214, pa + 214], [loc [eo w "script" t0 sv, en w "added" t1 av, en w "rights" t2 rv, en w "signs" t3 gv, en w "closed" t4 cv, en w "paths" t5 (.ref (pa + 214)), en w "module" t6 (.str md tm)] 7, lst (dvals pl) pe], (x + 214), 0, T, 0, .n, ρ⟩ (leafS F)
noncomputable def v_set (w : World) (x T : Nat) (lo : Nat) (ce : Nat) (pa : Nat) (t0 : Nat) (t1 : Nat) (t2 : Nat) (t3 : Nat) (t4 : Nat) (t5 : Nat) (t6 : Nat) (sv : Value) (av : Value) (rv : Value) (gv : Value) (cv : Value) (md : Str) (tm : Nat) (pl : List (Str × Tok)) (pe : Nat) (F : KF Flow) (ρ : Stream) : VT := lwV4 w x T lo pa t0 t1 t2 t3 t4 t5 t6 sv av rv gv cv md tm pl pe F ρ
theorem e_set (w : World) (x T : Nat) (lo : Nat) (ce : Nat) (pa : Nat) (t0 : Nat) (t1 : Nat) (t2 : Nat) (t3 : Nat) (t4 : Nat) (t5 : Nat) (t6 : Nat) (sv : Value) (av : Value) (rv : Value) (gv : Value) (cv : Value) (md : Str) (tm : Nat) (pl : List (Str × Tok)) (pe : Nat) (F : KF Flow) (ρ : Stream) (b0 : Bool) : EqV (q_set ((w.withFollow "comprehension-iter-twice" true).withFollow "special-get-raises" b0) w x T lo ce pa t0 t1 t2 t3 t4 t5 t6 sv av rv gv cv md tm pl pe F ρ) (v_set w x T lo ce pa t0 t1 t2 t3 t4 t5 t6 sv av rv gv cv md tm pl pe F ρ) := by unfold EqV; cases b0 <;> kernel_rfl
theorem k_set (w : World) (x T : Nat) (lo : Nat) (ce : Nat) (pa : Nat) (t0 : Nat) (t1 : Nat) (t2 : Nat) (t3 : Nat) (t4 : Nat) (t5 : Nat) (t6 : Nat) (sv : Value) (av : Value) (rv : Value) (gv : Value) (cv : Value) (md : Str) (tm : Nat) (pl : List (Str × Tok)) (pe : Nat) (h0 : w.params.followText "comprehension-iter-twice" = true) (F : KF Flow) (ρ : Stream) : EqV (q_set w w x T lo ce pa t0 t1 t2 t3 t4 t5 t6 sv av rv gv cv md tm pl pe F ρ) (v_set w x T lo ce pa t0 t1 t2 t3 t4 t5 t6 sv av rv gv cv md tm pl pe F ρ) := by
  have eE := e_set w x T lo ce pa t0 t1 t2 t3 t4 t5 t6 sv av rv gv cv md tm pl pe F ρ
  rw [wf_eq h0] at eE
  exact row1 (P := fun W => EqV (q_set W w x T lo ce pa t0 t1 t2 t3 t4 t5 t6 sv av rv gv cv md tm pl pe F ρ) (v_set w x T lo ce pa t0 t1 t2 t3 t4 t5 t6 sv av rv gv cv md tm pl pe F ρ)) "special-get-raises" eE
noncomputable def q_sef (W : World) (w : World) (x T : Nat) (lo : Nat) (ce : Nat) (pa : Nat) (t0 : Nat) (t1 : Nat) (t2 : Nat) (t3 : Nat) (t4 : Nat) (t5 : Nat) (t6 : Nat) (sv : Value) (av : Value) (rv : Value) (gv : Value) (cv : Value) (md : Str) (tm : Nat) (pl : List (Str × Tok)) (pe : Nat) (F : KF Flow) (ρ : Stream) : VT := (ex ⟨PR, W.params⟩ (mkZ w [] [zTC w lo ce 0 true 2 1, zTC w lo ce 1 true 5 1, zLQ true 3 6]) 4000).s Flow 20 (stX 4 [lwS w 7] (lwEnv w (lo + 214) (ce + 214))) [1, 2, 2, 0, 2, 0, 3, 0, 3, 3, 0, 3, 0, 3, 4, 0, 2, 3, 4, 1, 1, 5, 5, 5, 1, 2, 2, 0, 2, 0, 6, 0, 6, 6, 0, 6, 0, 6, 4, 1, 5, 6, 7, 1, 1, 8, 8, 8, 4, 7, 4, 4, 2, 3, 6, 1, 0, 1] ⟨[lo + 214, pa + 214], [loc [eo w "script" t0 sv, en w "added" t1 av, en w "rights" t2 rv, en w "signs" t3 gv, en w "closed" t4 cv, en w "paths" t5 (.ref (pa + 214)), en w "module" t6 (.str md tm)] 7, lst (dvals pl) pe], (x + 214), 0, T, 0, .n, ρ⟩ (leafS F)
noncomputable def v_sef (w : World) (x T : Nat) (lo : Nat) (ce : Nat) (pa : Nat) (t0 : Nat) (t1 : Nat) (t2 : Nat) (t3 : Nat) (t4 : Nat) (t5 : Nat) (t6 : Nat) (sv : Value) (av : Value) (rv : Value) (gv : Value) (cv : Value) (md : Str) (tm : Nat) (pl : List (Str × Tok)) (pe : Nat) (F : KF Flow) (ρ : Stream) : VT := lwV4 w x T lo pa t0 t1 t2 t3 t4 t5 t6 sv av rv gv cv md tm pl pe F ρ
theorem e_sef (w : World) (x T : Nat) (lo : Nat) (ce : Nat) (pa : Nat) (t0 : Nat) (t1 : Nat) (t2 : Nat) (t3 : Nat) (t4 : Nat) (t5 : Nat) (t6 : Nat) (sv : Value) (av : Value) (rv : Value) (gv : Value) (cv : Value) (md : Str) (tm : Nat) (pl : List (Str × Tok)) (pe : Nat) (F : KF Flow) (ρ : Stream) (b0 : Bool) : EqV (q_sef ((w.withFollow "comprehension-iter-twice" false).withFollow "special-get-raises" b0) w x T lo ce pa t0 t1 t2 t3 t4 t5 t6 sv av rv gv cv md tm pl pe F ρ) (v_sef w x T lo ce pa t0 t1 t2 t3 t4 t5 t6 sv av rv gv cv md tm pl pe F ρ) := by unfold EqV; cases b0 <;> kernel_rfl
theorem k_sef (w : World) (x T : Nat) (lo : Nat) (ce : Nat) (pa : Nat) (t0 : Nat) (t1 : Nat) (t2 : Nat) (t3 : Nat) (t4 : Nat) (t5 : Nat) (t6 : Nat) (sv : Value) (av : Value) (rv : Value) (gv : Value) (cv : Value) (md : Str) (tm : Nat) (pl : List (Str × Tok)) (pe : Nat) (h0 : w.params.followText "comprehension-iter-twice" = false) (F : KF Flow) (ρ : Stream) : EqV (q_sef w w x T lo ce pa t0 t1 t2 t3 t4 t5 t6 sv av rv gv cv md tm pl pe F ρ) (v_sef w x T lo ce pa t0 t1 t2 t3 t4 t5 t6 sv av rv gv cv md tm pl pe F ρ) := by
  have eE := e_sef w x T lo ce pa t0 t1 t2 t3 t4 t5 t6 sv av rv gv cv md tm pl pe F ρ
  rw [wf_eq h0] at eE
  exact row1 (P := fun W => EqV (q_sef W w x T lo ce pa t0 t1 t2 t3 t4 t5 t6 sv av rv gv cv md tm pl pe F ρ) (v_sef w x T lo ce pa t0 t1 t2 t3 t4 t5 t6 sv av rv gv cv md tm pl pe F ρ)) "special-get-raises" eE
end Mine
-- C4
namespace Mine
noncomputable def mIg (kw : Bool) (a : Args) : Option (Addr × Addr) := @Bool.rec (fun _ => Option (Addr × Addr)) (match a with | ⟨[.ref m, .ref q], []⟩ => some (m, q) | _ => none) (match a with | ⟨[], [(_, .ref m), (_, .ref q)]⟩ => some (m, q) | _ => none) kw
noncomputable def igA (kw : Bool) (m q : Addr) : Args := match kw with
  | true => ⟨[], [(Str.ofString "modules", .ref m), (Str.ofString "dirs", .ref q)]⟩
  | false => ⟨[.ref m, .ref q], []⟩
noncomputable def it0 (o : Obj) : Option Value := nth 0 (seqA o).toList
noncomputable section
noncomputable def zIGd_r (w : World) (kw : Bool) (km kq : Nat) (p : Addr × Addr) (mo : Obj) (qo : Obj) : Summ :=
  { code := .call (.ref 100) (igA kw p.1 p.2), pre := [p.1, p.2], objs := [lst [.str (strO (it0 mo)) (tokS (it0 mo))] (epS mo), lstA (seqA qo) (epS qo)]
    P := (214 ≤ p.1 ∧ 214 ≤ p.2) ∧ seqA qo = ⟨dvals (plA (seqA qo))⟩ ∧ (∀ d ∈ plA (seqA qo), isNp d.1 = true) ∧ (plA (seqA qo)).length ≤ 3
    k := 15, b := true
    F := fun _ xs => ⟨.ok (.ret (.ref (gx 0 xs + 214))), [lst [.str (strO (it0 mo)) (tokS (it0 mo))] (epS mo), lstA (seqA qo) (epS qo)], igPl w ⟨gx 0 xs, gx 1 xs, gx 2 xs, gx 3 xs, gx 4 xs, gx 5 xs, gx 6 xs, gx 7 xs, 1, tokS (it0 mo), (plA (seqA qo)).length, strO (it0 mo)⟩ (gx 8 xs) (gx 9 xs) (igSo w ⟨0, 0, tokS (it0 mo), 0, 0, strO (it0 mo), []⟩ (w.params.followText "set-order")) (dvals (igDl (plA (seqA qo)) [gx 12 xs, gx 13 xs, gx 14 xs])), gx 10 xs + 214, gx 11 xs⟩ }
noncomputable def zIGd (w : World) (kw : Bool) (km kq : Nat) : Dyn := fun c os => (mFn 100 c).bind fun args => (mIg kw args).bind fun p => (nth km os).bind fun mo => (nth kq os).map fun qo => zIGd_r w kw km kq p mo qo
noncomputable def dictA (o : Obj) : Nat := match o.dict with | some d => d | none => 0
noncomputable def enO (j : Nat) (o : Obj) : Option DictEntry := nth j (entsO o).toList
noncomputable def refE (e : Option DictEntry) : Nat := match e with | some ⟨_, _, .ref a⟩ => a | _ => 0
noncomputable def tokE (e : Option DictEntry) : Nat := match e with | some ⟨_, .str _ t, _⟩ => t | _ => 0
noncomputable def kn0 : List (Str × Int) := [(Str.ofString "<string>", 1)]
noncomputable def lfOb (w : World) (tab po io dt ig so ds : Obj) : List Obj := [tab, lstA (seqA po) (epS po), iInst (dictA io), iDict w (tokE (enO 0 dt)) (tokE (enO 1 dt)) (tokE (enO 2 dt)) (refE (enO 0 dt)) (refE (enO 1 dt)) (refE (enO 2 dt)), ig, so, lstA (seqA ds) (epS ds)]
noncomputable def lfCm (w : World) (md : Str) (tm : Tok) (mo : Option Str) (p : Addr × Addr) (po io dt ig so ds : Obj) : Prop :=
  (214 ≤ p.1 ∧ 214 ≤ p.2 ∧ 214 ≤ dictA io ∧ 214 ≤ refE (enO 2 dt) ∧ 214 ≤ refE (enO 0 dt) ∧ 214 ≤ refE (enO 1 dt)) ∧ seqA po = ⟨dvals (plA (seqA po))⟩ ∧ seqA ds = ⟨dvals (plA (seqA ds))⟩ ∧ LfOk w md tm mo (plA (seqA po)) (plA (seqA ds)) kn0 so (entsO ig)
noncomputable def lfR (mo : Option Str) (po ds : Obj) : List (Str × Tok) := foldV mo ((plA (seqA ds)).map (·.1)) kn0 (plA (seqA po))
noncomputable def zLFa_r (w : World) (md : Str) (tm : Tok) (mo : Option Str) (kps kin kdt kig kms kds : Nat) (p : Addr × Addr) (po : Obj) (io : Obj) (dt : Obj) (ig : Obj) (so : Obj) (ds : Obj) : Summ :=
  { code := .call (.ref 200) ⟨[.ref p.1, .ref p.2], []⟩
    pre := [195, p.1, p.2, dictA io, refE (enO 2 dt), refE (enO 0 dt), refE (enO 1 dt)]
    objs := lfOb w (tabObj #[]) po io dt (dObj (entsO ig) (epO ig)) so ds
    P := lfCm w md tm mo p po io dt ig so ds
    k := 16, b := true
    F := fun _ xs => ⟨.ok (.ret (.ref (gx 2 xs + 214))), lfOb w (tabO (gx 4 xs + 214)) po io dt (gO 5 xs) so ds,
      [(gx 4 xs + 214, lCode (gx 6 xs) (gx 7 xs) (gx 8 xs) (gx 9 xs) (gx 10 xs) (gx 11 xs) (gx 12 xs) (gx 13 xs) (gx 14 xs) (gx 15 xs)), (gx 2 xs + 214, lst (dvals (lfR mo po ds)) (gx 3 xs))], gx 0 xs + 214, gx 1 xs⟩ }
noncomputable def zLFa (w : World) (md : Str) (tm : Tok) (mo : Option Str) (kps kin kdt kig kms kds : Nat) : Dyn := fun c os => (mFn 200 c).bind fun args => (mRR args).bind fun p => (nth kps os).bind fun po => (nth kin os).bind fun io => (nth kdt os).bind fun dt => (nth kig os).bind fun ig => (nth kms os).bind fun so => (nth kds os).map fun ds => zLFa_r w md tm mo kps kin kdt kig kms kds p po io dt ig so ds
structure LK where
  (co c0 c1 c2 r1 r2 r3 r4 r5 u v : Nat)
noncomputable def LK.o (K : LK) : Obj := lCode K.c0 K.c1 K.c2 K.r1 K.r2 K.r3 K.r4 K.r5 K.u K.v
noncomputable def zLFb_r (w : World) (md : Str) (tm : Tok) (mo : Option Str) (K : LK) (kps kin kdt kig kms kds : Nat) (p : Addr × Addr) (po : Obj) (io : Obj) (dt : Obj) (ig : Obj) (so : Obj) (ds : Obj) : Summ :=
  { code := .call (.ref 200) ⟨[.ref p.1, .ref p.2], []⟩
    pre := [195, p.1, p.2, dictA io, refE (enO 2 dt), refE (enO 0 dt), refE (enO 1 dt), K.co + 214]
    objs := lfOb w (tabO (K.co + 214)) po io dt (dObj (entsO ig) (epO ig)) so ds ++ [K.o]
    P := lfCm w md tm mo p po io dt ig so ds
    k := 5, b := true
    F := fun _ xs => ⟨.ok (.ret (.ref (gx 2 xs + 214))), lfOb w (tabO (K.co + 214)) po io dt (gO 4 xs) so ds ++ [K.o], [(gx 2 xs + 214, lst (dvals (lfR mo po ds)) (gx 3 xs))], gx 0 xs + 214, gx 1 xs⟩ }
noncomputable def zLFb (w : World) (md : Str) (tm : Tok) (mo : Option Str) (K : LK) (kps kin kdt kig kms kds : Nat) : Dyn := fun c os => (mFn 200 c).bind fun args => (mRR args).bind fun p => (nth kps os).bind fun po => (nth kin os).bind fun io => (nth kdt os).bind fun dt => (nth kig os).bind fun ig => (nth kms os).bind fun so => (nth kds os).map fun ds => zLFb_r w md tm mo K kps kin kdt kig kms kds p po io dt ig so ds
noncomputable def zIEd (w : World) : Code → Option Summ := fun c => (mFn 100 c).map fun _ => zIE w
noncomputable def zCKd (w : World) : Code → Option Summ := fun c => (mFn 118 c).map fun _ => zCK w
end
theorem up214 {a : Nat} (h : 214 ≤ a) : ∃ y, a = y + 214 := ⟨a - 214, by omega⟩
theorem zIEd_ok (w : World) : SumOk w (zIEd w) 120 := fun c z e => by
  obtain ⟨a, _, e2⟩ := Option.map_eq_some_iff.mp e
  subst e2
  exact zIE_ok
theorem zCKd_ok (w : World) : SumOk w (zCKd w) 100 := fun c z e => by
  obtain ⟨a, _, e2⟩ := Option.map_eq_some_iff.mp e
  subst e2
  exact zCK_ok w
theorem zIGd_ok (w : World) (kw : Bool) (km kq : Nat) : DynOk w (zIGd w kw km kq) 200 := by
  intro c os z e
  obtain ⟨args, e1, e⟩ := Option.bind_eq_some_iff.mp e
  obtain ⟨⟨m, q⟩, e2, e⟩ := Option.bind_eq_some_iff.mp e
  obtain ⟨mo, e3, e⟩ := Option.bind_eq_some_iff.mp e
  obtain ⟨qo, e4, e5⟩ := Option.map_eq_some_iff.mp e
  rw [← e5]
  unfold zIGd_r
  dsimp only
  generalize plA (seqA qo) = dl
  generalize seqA qo = qa
  generalize epS qo = qe
  generalize epS mo = me
  generalize strO (it0 mo) = md
  generalize tokS (it0 mo) = mt
  rintro ⟨⟨h1, h2⟩, rfl, hnp, hl⟩
  obtain ⟨m', rfl⟩ := up214 h1
  obtain ⟨q', rfl⟩ := up214 h2
  have := zIG_ok (w := w) (a := ⟨m', q', mt, me, qe, md, dvals dl⟩) (dl := dl) (kw := kw) ⟨rfl, hnp, hl⟩
  cases kw <;> exact this
theorem zLFa_ok (w : World) (md : Str) (tm : Tok) (mo : Option Str) (kps kin kdt kig kms kds : Nat) : DynOk w (zLFa w md tm mo kps kin kdt kig kms kds) 250 := by
  intro c os z e
  obtain ⟨args, e1, e⟩ := Option.bind_eq_some_iff.mp e
  obtain ⟨⟨ps, ins⟩, e2, e⟩ := Option.bind_eq_some_iff.mp e
  obtain ⟨po, e3, e⟩ := Option.bind_eq_some_iff.mp e
  obtain ⟨io, e4, e⟩ := Option.bind_eq_some_iff.mp e
  obtain ⟨dt, e5, e⟩ := Option.bind_eq_some_iff.mp e
  obtain ⟨ig, e6, e⟩ := Option.bind_eq_some_iff.mp e
  obtain ⟨so, e7, e⟩ := Option.bind_eq_some_iff.mp e
  obtain ⟨ds, e8, e9⟩ := Option.map_eq_some_iff.mp e
  rw [← e9]
  unfold zLFa_r
  unfold lfOb lfCm lfR
  dsimp only
  generalize refE (enO 2 dt) = a2
  generalize refE (enO 0 dt) = a0
  generalize refE (enO 1 dt) = a1
  generalize tokE (enO 2 dt) = t2
  generalize tokE (enO 0 dt) = t0
  generalize tokE (enO 1 dt) = t1
  generalize dictA io = d
  generalize plA (seqA po) = pl
  generalize plA (seqA ds) = dl
  generalize seqA po = pa
  generalize seqA ds = da
  generalize epS po = pe
  generalize epS ds = de
  generalize entsO ig = es
  generalize epO ig = ee
  rintro ⟨⟨h1, h2, h3, h4, h5, h6⟩, rfl, rfl, ok⟩
  obtain ⟨ps', rfl⟩ := up214 h1
  obtain ⟨ins', rfl⟩ := up214 h2
  obtain ⟨d', rfl⟩ := up214 h3
  obtain ⟨a2', rfl⟩ := up214 h4
  obtain ⟨a0', rfl⟩ := up214 h5
  obtain ⟨a1', rfl⟩ := up214 h6
  exact zLF0_ok (w := w) (I := ⟨ins', d', a2', a0', a1', t0, t1, t2, ee, tm, de, md⟩) (ps := ps') (ep := pe) (mo := mo) (pl := pl) (dl := dl) (kn := kn0) (so := so) (es := es) ok
theorem zLFb_ok (w : World) (md : Str) (tm : Tok) (mo : Option Str) (K : LK) (kps kin kdt kig kms kds : Nat) : DynOk w (zLFb w md tm mo K kps kin kdt kig kms kds) 250 := by
  intro c os z e
  obtain ⟨args, e1, e⟩ := Option.bind_eq_some_iff.mp e
  obtain ⟨⟨ps, ins⟩, e2, e⟩ := Option.bind_eq_some_iff.mp e
  obtain ⟨po, e3, e⟩ := Option.bind_eq_some_iff.mp e
  obtain ⟨io, e4, e⟩ := Option.bind_eq_some_iff.mp e
  obtain ⟨dt, e5, e⟩ := Option.bind_eq_some_iff.mp e
  obtain ⟨ig, e6, e⟩ := Option.bind_eq_some_iff.mp e
  obtain ⟨so, e7, e⟩ := Option.bind_eq_some_iff.mp e
  obtain ⟨ds, e8, e9⟩ := Option.map_eq_some_iff.mp e
  rw [← e9]
  unfold zLFb_r
  unfold lfOb lfCm lfR
  dsimp only
  generalize refE (enO 2 dt) = a2
  generalize refE (enO 0 dt) = a0
  generalize refE (enO 1 dt) = a1
  generalize tokE (enO 2 dt) = t2
  generalize tokE (enO 0 dt) = t0
  generalize tokE (enO 1 dt) = t1
  generalize dictA io = d
  generalize plA (seqA po) = pl
  generalize plA (seqA ds) = dl
  generalize seqA po = pa
  generalize seqA ds = da
  generalize epS po = pe
  generalize epS ds = de
  generalize entsO ig = es
  generalize epO ig = ee
  rintro ⟨⟨h1, h2, h3, h4, h5, h6⟩, rfl, rfl, ok⟩
  obtain ⟨ps', rfl⟩ := up214 h1
  obtain ⟨ins', rfl⟩ := up214 h2
  obtain ⟨d', rfl⟩ := up214 h3
  obtain ⟨a2', rfl⟩ := up214 h4
  obtain ⟨a0', rfl⟩ := up214 h5
  obtain ⟨a1', rfl⟩ := up214 h6
  exact zLF1_ok (w := w) (I := ⟨ins', d', a2', a0', a1', t0, t1, t2, ee, tm, de, md⟩) (ps := ps') (ep := pe) (mo := mo) (pl := pl) (dl := dl) (kn := kn0) (so := so) (es := es) (co := K.co) ok
end Mine
-- X24
set_option maxHeartbeats 0
namespace Mine
noncomputable section
noncomputable def lfIo (σ : Stream) : Obj := iInst ((σ 1).n + 214)
noncomputable def lfDt (w : World) (σ : Stream) : Obj := iDict w (σ 5).n (σ 6).n (σ 7).n ((σ 3).n + 214) ((σ 4).n + 214) ((σ 2).n + 214)
noncomputable def lfIg (w : World) (σ : Stream) : Obj := dObj #[en w "<string>" (σ 8).n (.int 1 (σ 9).n)] 1
noncomputable def lfSo (w : World) (md : Str) (tm : Tok) : Obj := igSo w ⟨0, 0, tm, 0, 0, md, []⟩ (w.params.followText "set-order")
noncomputable def lfDs (qo : Obj) (σ : Stream) : Obj := lst (dvals (igDl (plA (seqA qo)) [(σ 12).n, (σ 13).n, (σ 14).n])) (plA (seqA qo)).length
noncomputable def igCm (m q : Addr) (qo : Obj) : Prop := (214 ≤ m ∧ 214 ≤ q) ∧ seqA qo = ⟨dvals (plA (seqA qo))⟩ ∧ (∀ d ∈ plA (seqA qo), isNp d.1 = true) ∧ (plA (seqA qo)).length ≤ 3
noncomputable def lkCm (p c : Addr) (md : Str) (po co : Obj) : Prop := (214 ≤ p ∧ 214 ≤ c) ∧ seqA po = ⟨dvals (plA (seqA po))⟩ ∧ seqA co = ⟨dvals (plA (seqA co))⟩ ∧ KptOk md (plA (seqA po)) (plA (seqA co))
noncomputable def lfOut (mo : Option Str) (po ds : Obj) (e : Nat) : Obj := lst (dvals (lfR mo po ds)) e
noncomputable def lkOut (md : Str) (po co : Obj) (e : Nat) : Obj := lst (dvals (keptF (kv0 md (plA (seqA co))) [] (plA (seqA po)))) e
noncomputable def lCk (σ : Stream) : LK := ⟨(σ 4).n, (σ 6).n, (σ 7).n, (σ 8).n, (σ 9).n, (σ 10).n, (σ 11).n, (σ 12).n, (σ 13).n, (σ 14).n, (σ 15).n⟩
noncomputable def lwV5 (w : World) (x T lo pa cl t0 t1 t2 t3 t4 t5 t6 : Nat) (sv av rv gv : Value) (md : Str) (tm : Nat) (pl : List (Str × Tok)) (pe : Nat) (dl : List (Str × Tok)) (de : Nat) (F : KF Flow) (ρ : Stream) : VT :=
  .claim (igCm (x + 214) (cl + 214) (lst (dvals dl) de)) (chain [(true, true)] (.claim (lfCm w md tm (some md) (pa + 214, (ρ 0).n + 214) (lst (dvals pl) pe) (lfIo ρ) (lfDt w ρ) (lfIg w ρ) (lfSo w md tm) (lfDs (lst (dvals dl) de) ρ)) (chain [(true, true)]
    (.claim (lkCm (pa + 214) (cl + 214) md (lst (dvals pl) pe) (lst (dvals dl) de)) (chain [(true, true)] (.claim (lqCm (lfOut (some md) (lst (dvals pl) pe) (lfDs (lst (dvals dl) de) ρ) (ρs 15 ρ 3).n) (lkOut md (lst (dvals pl) pe) (lst (dvals dl) de) (ρs 31 ρ 1).n))
      (chain [(decide (strsA (seqA (lfOut (some md) (lst (dvals pl) pe) (lfDs (lst (dvals dl) de) ρ) (ρs 15 ρ 3).n)) = strsA (seqA (lkOut md (lst (dvals pl) pe) (lst (dvals dl) de) (ρs 31 ρ 1).n))), true)]
        (.leaf (F (.ok .next) ((ρ 35).n + 214) (ρ 36).n [(lo + 214, lwF w t0 t1 t2 t3 t4 t5 t6 pa tm sv av rv gv (.ref (cl + 214)) md), (pa + 214, lst (dvals pl) pe), (cl + 214, lst (dvals dl) de), (195, tabO ((lCk (ρs 15 ρ)).co + 214)), ((lCk (ρs 15 ρ)).co + 214, (lCk (ρs 15 ρ)).o)])))))))))
end
end Mine
-- X25
set_option maxHeartbeats 0
namespace Mine
noncomputable section
noncomputable def soO (lt : Str → Str → Bool) (po : Obj) (σ : Stream) : Obj := lst (dvals (tag (srtB lt (strsA (seqA po))) (gF 1 (drawn 5 σ)))) (σ 2).n
noncomputable def tcD (j : Nat) (lo : Obj) (σ : Stream) : Obj := lst (dvals (tag ((seqA lo).toList.flatMap (tcG j)) (gF 0 (drawn 6 σ)))) (σ 1).n
noncomputable def tcCd (j : Nat) (a li : Nat) (lo : Obj) (z : Bool) : Prop := (214 ≤ a ∧ 214 ≤ a + 1 ∧ 214 ≤ a + 2 ∧ 214 ≤ li) ∧ TcOk j (seqA lo) ∧ (seqA lo).isEmpty = !z
noncomputable def lwG (w : World) (t0 t1 t2 t3 t4 t5 t6 t7 t8 pa tm : Nat) (sv av rv gv cv dv uv : Value) (md : Str) : Obj := loc [eo w "script" t0 sv, en w "added" t1 av, en w "rights" t2 rv, en w "signs" t3 gv, en w "closed" t4 cv, en w "paths" t5 (.ref (pa + 214)), en w "module" t6 (.str md tm), en w "deep" t7 dv, en w "due" t8 uv] 9
noncomputable def dueA (po : Obj) (ρ : Stream) : Array Value := seqA (tcD 2 (soO strLt po (ρs 7 ρ)) (ρs 12 ρ)) ++ seqA (tcD 3 (soO strLt po (ρs 18 ρ)) (ρs 23 ρ))
noncomputable def lwV6 (w : World) (x T lo pa t0 t1 t2 t3 t4 t5 t6 : Nat) (sv av rv gv cv : Value) (md : Str) (tm : Nat) (pl : List (Str × Tok)) (pe : Nat) (F : KF Flow) (ρ : Stream) : VT :=
  .claim True (chain [(true, true)] (.claim ((∃ y : Nat, (ρ 0).n + 214 + 60 = y + 214 + 60) ∧ seqA (lst (dvals pl) pe) = ⟨dvals (plA (seqA (lst (dvals pl) pe)))⟩ ∧ 2 ≤ (plA (seqA (lst (dvals pl) pe))).length ∧ (plA (seqA (lst (dvals pl) pe))).length < 64) (chain [(true, true)]
    (.claim (seqA (lst (dvals pl) pe) = ⟨dvals (plA (seqA (lst (dvals pl) pe)))⟩ ∧ (plA (seqA (lst (dvals pl) pe))).length < 64) (chain [(true, true)] (.claim (tcCd 2 ((ρ 10).n + 214) ((ρ 7).n + 214) (soO strLt (lst (dvals pl) pe) (ρs 7 ρ)) true) (chain [(true, true)]
      (.claim (seqA (lst (dvals pl) pe) = ⟨dvals (plA (seqA (lst (dvals pl) pe)))⟩ ∧ (plA (seqA (lst (dvals pl) pe))).length < 64) (chain [(true, true)] (.claim (tcCd 3 ((ρ 21).n + 214) ((ρ 18).n + 214) (soO strLt (lst (dvals pl) pe) (ρs 18 ρ)) true) (chain [(true, true), (decide ((dueA (lst (dvals pl) pe) ρ).size > 16777216), false)]
        (.leaf (F (.ok .next) ((ρ 26).n + 214 + 1) ((ρ 27).n + 1) [(lo + 214, lwG w t0 t1 t2 t3 t4 t5 t6 (ρ 6).n (ρ 27).n pa tm sv av rv gv cv (.ref ((ρ 2).n + 214)) (.ref ((ρ 26).n + 214)) md), (pa + 214, lst (dvals pl) pe), (113, kTab ((ρ 0).n + 214)), ((ρ 2).n + 214, soO cmpLt (lst (dvals pl) pe) (ρs 2 ρ)), ((ρ 26).n + 214, lstA (dueA (lst (dvals pl) pe) ρ) 0)])))))))))))))
end
end Mine
-- X26
set_option maxHeartbeats 0
namespace Mine
noncomputable section
noncomputable def lwV7 (w : World) (x T lo pa dp du cl t0 t1 t2 t3 t4 t5 t6 t7 t8 : Nat) (sv av rv gv : Value) (K : LK) (md : Str) (tm : Nat) (dl1 : List (Str × Tok)) (e1 : Nat) (dl2 : List (Str × Tok)) (e2 : Nat) (dl : List (Str × Tok)) (de : Nat) (z : Bool) (F : KF Flow) (ρ : Stream) : VT :=
  .claim (lqCm (lst (dvals dl1) e1) (lst (dvals dl2) e2)) (chain [(decide (strsA (seqA (lst (dvals dl1) e1)) = strsA (seqA (lst (dvals dl2) e2))), true)] (.claim (tcCd 4 ((ρ 0).n + 214 + 1) (cl + 214) (lst (dvals dl) de) z) (chain [(true, true)]
    (.claim (igCm ((ρ 0).n + 214) ((ρ 0).n + 214 + 2) (tcD 4 (lst (dvals dl) de) (ρs 2 ρ))) (chain [(true, true)]
      (.claim (lfCm w md tm (some md) (dp + 214, (ρ 8).n + 214) (lst (dvals dl1) e1) (lfIo (ρs 8 ρ)) (lfDt w (ρs 8 ρ)) (lfIg w (ρs 8 ρ)) (lfSo w md tm) (lfDs (tcD 4 (lst (dvals dl) de) (ρs 2 ρ)) (ρs 8 ρ))) (chain [(true, true)]
        (.claim (lkCm (du + 214) (cl + 214) md (lst (dvals dl2) e2) (lst (dvals dl) de)) (chain [(true, true)]
          (.claim (lqCm (lfOut (some md) (lst (dvals dl1) e1) (lfDs (tcD 4 (lst (dvals dl) de) (ρs 2 ρ)) (ρs 8 ρ)) (ρs 23 ρ 3).n) (lkOut md (lst (dvals dl2) e2) (lst (dvals dl) de) (ρs 28 ρ 1).n))
            (chain [(decide (strsA (seqA (lfOut (some md) (lst (dvals dl1) e1) (lfDs (tcD 4 (lst (dvals dl) de) (ρs 2 ρ)) (ρs 8 ρ)) (ρs 23 ρ 3).n)) = strsA (seqA (lkOut md (lst (dvals dl2) e2) (lst (dvals dl) de) (ρs 28 ρ 1).n))), true)]
              (.leaf (F (.ok .next) ((ρ 32).n + 214) (ρ 33).n [(lo + 214, lwG w t0 t1 t2 t3 t4 t5 t6 t7 t8 pa tm sv av rv gv (.ref (cl + 214)) (.ref (dp + 214)) (.ref (du + 214)) md), (195, tabO (K.co + 214)), (K.co + 214, K.o)])))))))))))))
end
end Mine
-- X27
set_option maxHeartbeats 0
namespace Mine
noncomputable section
noncomputable def lwV8 (w : World) (x T lo pa t0 t1 t2 t3 t4 t5 t6 t7 t8 : Nat) (sv av rv gv cv dv uv : Value) (K : LK) (md : Str) (tm : Nat) (pl : List (Str × Tok)) (pe : Nat) (F : KF Flow) (ρ : Stream) : VT :=
  .claim True (chain [(true, true)] (.claim (lfCm w Str.empty 0 none (pa + 214, (ρ 0).n + 214) (lst (dvals pl) pe) (lfIo ρ) (lfDt w ρ) (lfIg w ρ) (sNil (w.params.followText "set-order")) (lst [] 0)) (chain [(true, true)]
    (.claim (lqCm (lfOut none (lst (dvals pl) pe) (lst [] 0) (ρs 12 ρ 3).n) (lst (dvals pl) pe)) (chain [(decide (strsA (seqA (lfOut none (lst (dvals pl) pe) (lst [] 0) (ρs 12 ρ 3).n)) = strsA (seqA (lst (dvals pl) pe))), true)]
      (.leaf (F (.ok (.ret (.bool true))) ((ρ 17).n + 214) (ρ 18).n [(lo + 214, lwG w t0 t1 t2 t3 t4 t5 t6 t7 t8 pa tm sv av rv gv cv dv uv md), (195, tabO (K.co + 214))])))))))
end
end Mine
-- L10
set_option maxHeartbeats 0
namespace Mine
noncomputable def q_si (W : World) (w : World) (x T : Nat) (lo : Nat) (ce : Nat) (pa : Nat) (t0 : Nat) (t1 : Nat) (t2 : Nat) (t3 : Nat) (t4 : Nat) (t5 : Nat) (t6 : Nat) (sv : Value) (av : Value) (rv : Value) (gv : Value) (t7 : Nat) (t8 : Nat) (cv : Value) (dv : Value) (uv : Value) (K : LK) (md : Str) (tm : Nat) (pl : List (Str × Tok)) (pe : Nat) (F : KF Flow) (ρ : Stream) : VT := (ex ⟨PR, W.params⟩ (mkZ w [zIEd w] [zLFb w Str.empty 0 none K 1 4 5 6 7 8, zLQ false 9 1]) 4000).s Flow 20 (stX 4 [lwS w 12] (lwEnv w (lo + 214) (ce + 214))) [0, 1, 0, 0, 0, 3, 0, 1, 0, 4, 0, 2, 1, 4, 5, 6, 7, 8, 3, 1, 1, 10, 2, 10, 4, 1, 9, 1, 1, 0, 2] ⟨[lo + 214, pa + 214, 195, K.co + 214], [lwG w t0 t1 t2 t3 t4 t5 t6 t7 t8 pa tm sv av rv gv cv dv uv md, lst (dvals pl) pe, tabO (K.co + 214), K.o], (x + 214), 0, T, 0, .n, ρ⟩ (leafS F)
noncomputable def v_si (w : World) (x T : Nat) (lo : Nat) (ce : Nat) (pa : Nat) (t0 : Nat) (t1 : Nat) (t2 : Nat) (t3 : Nat) (t4 : Nat) (t5 : Nat) (t6 : Nat) (sv : Value) (av : Value) (rv : Value) (gv : Value) (t7 : Nat) (t8 : Nat) (cv : Value) (dv : Value) (uv : Value) (K : LK) (md : Str) (tm : Nat) (pl : List (Str × Tok)) (pe : Nat) (F : KF Flow) (ρ : Stream) : VT := lwV8 w x T lo pa t0 t1 t2 t3 t4 t5 t6 t7 t8 sv av rv gv cv dv uv K md tm pl pe F ρ
theorem e_si (w : World) (x T : Nat) (lo : Nat) (ce : Nat) (pa : Nat) (t0 : Nat) (t1 : Nat) (t2 : Nat) (t3 : Nat) (t4 : Nat) (t5 : Nat) (t6 : Nat) (sv : Value) (av : Value) (rv : Value) (gv : Value) (t7 : Nat) (t8 : Nat) (cv : Value) (dv : Value) (uv : Value) (K : LK) (md : Str) (tm : Nat) (pl : List (Str × Tok)) (pe : Nat) (F : KF Flow) (ρ : Stream) (b0 : Bool) : EqV (q_si (w.withFollow "special-get-raises" b0) w x T lo ce pa t0 t1 t2 t3 t4 t5 t6 sv av rv gv t7 t8 cv dv uv K md tm pl pe F ρ) (v_si w x T lo ce pa t0 t1 t2 t3 t4 t5 t6 sv av rv gv t7 t8 cv dv uv K md tm pl pe F ρ) := by unfold EqV; cases b0 <;> kernel_rfl
theorem k_si (w : World) (x T : Nat) (lo : Nat) (ce : Nat) (pa : Nat) (t0 : Nat) (t1 : Nat) (t2 : Nat) (t3 : Nat) (t4 : Nat) (t5 : Nat) (t6 : Nat) (sv : Value) (av : Value) (rv : Value) (gv : Value) (t7 : Nat) (t8 : Nat) (cv : Value) (dv : Value) (uv : Value) (K : LK) (md : Str) (tm : Nat) (pl : List (Str × Tok)) (pe : Nat) (F : KF Flow) (ρ : Stream) : EqV (q_si w w x T lo ce pa t0 t1 t2 t3 t4 t5 t6 sv av rv gv t7 t8 cv dv uv K md tm pl pe F ρ) (v_si w x T lo ce pa t0 t1 t2 t3 t4 t5 t6 sv av rv gv t7 t8 cv dv uv K md tm pl pe F ρ) := by
  have eE := e_si w x T lo ce pa t0 t1 t2 t3 t4 t5 t6 sv av rv gv t7 t8 cv dv uv K md tm pl pe F ρ
  exact row1 (P := fun W => EqV (q_si W w x T lo ce pa t0 t1 t2 t3 t4 t5 t6 sv av rv gv t7 t8 cv dv uv K md tm pl pe F ρ) (v_si w x T lo ce pa t0 t1 t2 t3 t4 t5 t6 sv av rv gv t7 t8 cv dv uv K md tm pl pe F ρ)) "special-get-raises" eE
end Mine
-- PL1
namespace Mine
theorem zand_nat (a b : Nat) : zAnd (a : Int) (b : Int) = ((a &&& b : Nat) : Int) := by kernel_rfl
theorem beq_cast (a b : Nat) : ((a : Int) == (b : Int)) = (a == b) := by
  rw [Bool.eq_iff_iff, beq_iff_eq, beq_iff_eq]; omega
theorem and_tp (m e : Nat) : m &&& 2 ^ e = (m.testBit e).toNat * 2 ^ e := by
  apply Nat.eq_of_testBit_eq
  intro i
  rw [Nat.testBit_and, Nat.testBit_two_pow]
  by_cases h : e = i
  · subst h
    cases m.testBit e <;> simp [Nat.testBit_two_pow]
  · cases m.testBit e <;> simp [h, Nat.testBit_two_pow]
theorem and_bit (m e : Nat) : (m &&& 2 ^ e == 2 ^ e) = m.testBit e := by
  rw [and_tp]
  have h : 0 < 2 ^ e := Nat.two_pow_pos e
  cases m.testBit e with
  | true => simp
  | false => simp; omega
theorem or_two {a b : Nat} {i j : Nat} (x y : Bool) (ha : a = x.toNat * 2 ^ i) (hb : b = y.toNat * 2 ^ j) (h : (2 ^ i ||| 2 ^ j == 2 ^ i ||| 2 ^ j) = true) (h1 : (0 ||| 2 ^ j == 2 ^ i ||| 2 ^ j) = false) (h2 : (2 ^ i ||| 0 == 2 ^ i ||| 2 ^ j) = false) (h3 : (0 ||| 0 == 2 ^ i ||| 2 ^ j) = false) : (a ||| b == 2 ^ i ||| 2 ^ j) = (x && y) := by
  subst ha hb
  cases x <;> cases y <;> simp only [Bool.toNat_true, Bool.toNat_false, Nat.one_mul, Nat.zero_mul] <;> assumption
section
variable (n : Nat)
theorem bit_up {e : Nat} (he : e < 14) : (16384 + n).testBit e = n.testBit e := by
  have := Nat.testBit_two_pow_add_gt (i := 14) (j := e) he n
  exact this
theorem zb {e : Nat} (he : e < 14) : (zAnd (16384 + (n : Int)) ((2 ^ e : Nat) : Int) == ((2 ^ e : Nat) : Int)) = n.testBit e := by
  have e1 : (16384 + (n : Int)) = ((16384 + n : Nat) : Int) := by omega
  rw [e1, zand_nat, beq_cast, and_bit, bit_up n he]
theorem zb2 {i j : Nat} (hi : i < 14) (hj : j < 14) (h : (2 ^ i ||| 2 ^ j == 2 ^ i ||| 2 ^ j) = true) (h1 : (0 ||| 2 ^ j == 2 ^ i ||| 2 ^ j) = false) (h2 : (2 ^ i ||| 0 == 2 ^ i ||| 2 ^ j) = false) (h3 : (0 ||| 0 == 2 ^ i ||| 2 ^ j) = false) :
    (zAnd (16384 + (n : Int)) ((2 ^ i ||| 2 ^ j : Nat) : Int) == ((2 ^ i ||| 2 ^ j : Nat) : Int)) = (n.testBit i && n.testBit j) := by
  have e1 : (16384 + (n : Int)) = ((16384 + n : Nat) : Int) := by omega
  rw [e1, zand_nat, beq_cast, Nat.and_or_distrib_left]
  refine or_two _ _ ?_ ?_ h h1 h2 h3
  · rw [and_tp, bit_up n hi]
  · rw [and_tp, bit_up n hj]
theorem lsB_bit (e : Nat) : lsB (n : Int) e = bif n.testBit e then 1 else 0 := by
  unfold lsB
  have e1 : Int.fdiv (n : Int) ((2 : Int) ^ e) = ((n / 2 ^ e : Nat) : Int) := by
    rw [Int.fdiv_eq_ediv_of_nonneg _ (Int.le_of_lt (Int.pow_pos (by decide)))]
    norm_cast
  have e2 : Int.fmod ((n / 2 ^ e : Nat) : Int) 2 = ((n / 2 ^ e % 2 : Nat) : Int) := by
    rw [Int.fmod_eq_emod_of_nonneg _ (by decide)]
    norm_cast
  rw [e1, e2, Nat.testBit_eq_decide_div_mod_eq]
  have h2 : n / 2 ^ e % 2 < 2 := Nat.mod_lt _ (by decide)
  by_cases h : n / 2 ^ e % 2 = 1
  · rw [h]; rfl
  · have h0 : n / 2 ^ e % 2 = 0 := by omega
    rw [h0]; rfl
theorem pos_r (k : Nat) (q : Int) (t1 : Nat) (c : String) (t2 : Nat) (hq : q = ((2 ^ (8 - k) : Nat) : Int)) (hk : k < 9) (h3 : Nat.beq (k % 3) 2 = false) (hc : chS (Str.ofString "-rwx") ((((k % 3 : Nat) : Int) + 1) * 1) = Str.ofString c) (h0 : chS (Str.ofString "-rwx") ((((k % 3 : Nat) : Int) + 1) * 0) = Str.ofString "-") :
    fmPick (16384 + (n : Int)) [(q, t1, Str.ofString c, t2)] = lsC (n : Int) k := by
  show (bif zAnd (16384 + (n : Int)) q == q then Str.ofString c else Str.ofString "-") = _
  subst hq
  rw [zb n (by omega)]
  unfold lsC lsIx
  rw [h3, lsB_bit n (8 - k)]
  cases n.testBit (8 - k) with
  | true => exact hc.symm
  | false => exact h0.symm
theorem pos_x (k : Nat) (q1 q2 q3 : Int) (a1 a2 a3 b1 b2 b3 : Nat) (s S : String) (hk : k < 9) (h3 : Nat.beq (k % 3) 2 = true) (h1 : q1 = ((2 ^ (11 - k / 3) ||| 2 ^ (8 - k) : Nat) : Int)) (hq2 : q2 = ((2 ^ (11 - k / 3) : Nat) : Int)) (hq3 : q3 = ((2 ^ (8 - k) : Nat) : Int))
    (z : (zAnd (16384 + (n : Int)) q1 == q1) = (n.testBit (11 - k / 3) && n.testBit (8 - k)))
    (c1 : chS (lsT k) 1 = Str.ofString s) (c0 : chS (lsT k) 0 = Str.ofString S) (hc : chS (Str.ofString "-rwx") ((((k % 3 : Nat) : Int) + 1) * 1) = Str.ofString "x") (h0 : chS (Str.ofString "-rwx") ((((k % 3 : Nat) : Int) + 1) * 0) = Str.ofString "-") :
    fmPick (16384 + (n : Int)) [(q1, a1, Str.ofString s, b1), (q2, a2, Str.ofString S, b2), (q3, a3, Str.ofString "x", b3)] = lsC (n : Int) k := by
  show (bif zAnd (16384 + (n : Int)) q1 == q1 then Str.ofString s else bif zAnd (16384 + (n : Int)) q2 == q2 then Str.ofString S else bif zAnd (16384 + (n : Int)) q3 == q3 then Str.ofString "x" else Str.ofString "-") = _
  rw [z]
  subst hq2 hq3
  rw [zb n (by omega), zb n (by omega)]
  unfold lsC lsIx
  rw [h3, lsB_bit n (11 - k / 3), lsB_bit n (8 - k)]
  cases n.testBit (11 - k / 3) with
  | true =>
    cases n.testBit (8 - k) with
    | true => exact c1.symm
    | false => exact c0.symm
  | false =>
    cases n.testBit (8 - k) with
    | true => exact hc.symm
    | false => exact h0.symm
theorem join9 (d x0 x1 x2 x3 x4 x5 x6 x7 x8 : Str) : Txt.join (Str.ofString "") [d, x0, x1, x2, x3, x4, x5, x6, x7, x8] = ((((((((d ++ x0) ++ x1) ++ x2) ++ x3) ++ x4) ++ x5) ++ x6) ++ x7) ++ x8 := by
  show Builtin.Str.glued _ _ = _
  have e0 : (Str.ofString "").cps = #[] := rfl
  simp only [Builtin.Str.glued, List.drop_succ_cons, List.drop_zero, List.foldl_cons, List.foldl_nil, List.headD_cons, e0, Array.append_empty]
  rfl
theorem sign_eq : fmS (16384 + (n : Int)) = lsS (n : Int) := by
  have p0 : fmPick (16384 + (n : Int)) (fmTb 1).2 = lsC (n : Int) 0 := pos_r n 0 _ _ "r" _ rfl (by decide) rfl (by kernel_rfl) (by kernel_rfl)
  have p1 : fmPick (16384 + (n : Int)) (fmTb 2).2 = lsC (n : Int) 1 := pos_r n 1 _ _ "w" _ rfl (by decide) rfl (by kernel_rfl) (by kernel_rfl)
  have p2 : fmPick (16384 + (n : Int)) (fmTb 3).2 = lsC (n : Int) 2 := pos_x n 2 _ _ _ _ _ _ _ _ _ "s" "S" (by decide) rfl rfl rfl rfl (zb2 n (i := 11) (j := 6) (by decide) (by decide) (by decide) (by decide) (by decide) (by decide)) (by kernel_rfl) (by kernel_rfl) (by kernel_rfl) (by kernel_rfl)
  have p3 : fmPick (16384 + (n : Int)) (fmTb 4).2 = lsC (n : Int) 3 := pos_r n 3 _ _ "r" _ rfl (by decide) rfl (by kernel_rfl) (by kernel_rfl)
  have p4 : fmPick (16384 + (n : Int)) (fmTb 5).2 = lsC (n : Int) 4 := pos_r n 4 _ _ "w" _ rfl (by decide) rfl (by kernel_rfl) (by kernel_rfl)
  have p5 : fmPick (16384 + (n : Int)) (fmTb 6).2 = lsC (n : Int) 5 := pos_x n 5 _ _ _ _ _ _ _ _ _ "s" "S" (by decide) rfl rfl rfl rfl (zb2 n (i := 10) (j := 3) (by decide) (by decide) (by decide) (by decide) (by decide) (by decide)) (by kernel_rfl) (by kernel_rfl) (by kernel_rfl) (by kernel_rfl)
  have p6 : fmPick (16384 + (n : Int)) (fmTb 7).2 = lsC (n : Int) 6 := pos_r n 6 _ _ "r" _ rfl (by decide) rfl (by kernel_rfl) (by kernel_rfl)
  have p7 : fmPick (16384 + (n : Int)) (fmTb 8).2 = lsC (n : Int) 7 := pos_r n 7 _ _ "w" _ rfl (by decide) rfl (by kernel_rfl) (by kernel_rfl)
  have p8 : fmPick (16384 + (n : Int)) (fmTb 9).2 = lsC (n : Int) 8 := pos_x n 8 _ _ _ _ _ _ _ _ _ "t" "T" (by decide) rfl rfl rfl rfl (zb2 n (i := 9) (j := 0) (by decide) (by decide) (by decide) (by decide) (by decide) (by decide)) (by kernel_rfl) (by kernel_rfl) (by kernel_rfl) (by kernel_rfl)
  have e : fmSs (16384 + (n : Int)) 1 9 = [lsC (n : Int) 0, lsC (n : Int) 1, lsC (n : Int) 2, lsC (n : Int) 3, lsC (n : Int) 4, lsC (n : Int) 5, lsC (n : Int) 6, lsC (n : Int) 7, lsC (n : Int) 8] := by
    rw [← p0, ← p1, ← p2, ← p3, ← p4, ← p5, ← p6, ← p7, ← p8]
    rfl
  unfold fmS lsS
  rw [e, join9]
  rfl
end
theorem type_all : ((List.range 4096).all fun n => Nat.beq (Nat.land (16384 + n) 61440) 16384) = true := by decide +kernel
theorem sg_type {n : Nat} (h : n < 4096) : zAnd (16384 + (n : Int)) 61440 = 16384 := by
  have e1 : (16384 + (n : Int)) = ((16384 + n : Nat) : Int) := by omega
  have e2 := List.all_eq_true.mp type_all n (List.mem_range.mpr h)
  have e3 : (16384 + n) &&& 61440 = 16384 := Nat.eq_of_beq_eq_true e2
  rw [e1, show (61440 : Int) = ((61440 : Nat) : Int) from rfl, zand_nat, e3]
  rfl
theorem sg_ok {n : Nat} (h : n < 4096) : fmOk (16384 + (n : Int)) = true := by
  unfold fmOk fmC0
  rw [sg_type h]
  decide
theorem sg_len (m : Int) : (fmS m).length = 10 := by
  unfold fmS
  have hl : ∀ s ∈ Str.ofString "d" :: fmSs m 1 9, s.length = 1 := fun s hs => by
    rcases List.mem_cons.mp hs with rfl | hs
    · rfl
    · exact fmSs_len m 9 1 s hs
  show (Builtin.Str.glued _ _).length = 10
  rw [size_glued]
  have ones : ∀ l : List Str, (∀ s ∈ l, s.length = 1) → (l.map (·.length)).sum = l.length := fun l => by
    induction l with
    | nil => intro _; rfl
    | cons a l ih =>
      intro h
      rw [List.map_cons, List.sum_cons, h a (.head _), ih fun x hx => h x (.tail _ hx), List.length_cons]
      omega
  have e0 : (Str.ofString "").length = 0 := rfl
  rw [ones _ hl, e0, List.length_cons, fmSs_count]
theorem ch_some {s : Str} {k : Nat} (h : k < s.length) : (chO s (k : Int)).isSome = true := by
  have e : seqIndex? (k : Int) s.length = some k := by
    unfold seqIndex?
    have h0 : ¬ (k : Int) < 0 := by omega
    rw [if_neg h0]
    have h1 : (0 ≤ (k : Int) && (k : Int) < (s.length : Int)) = true := by
      rw [Bool.and_eq_true, decide_eq_true_eq, decide_eq_true_eq]; omega
    simp only [h1, if_true, Int.toNat_natCast]
  unfold chO
  rw [e]
  show (s.cps[k]?).isSome = true
  rw [Array.getElem?_eq_getElem h]
  rfl
theorem lwR_nat (k a : Int) : ∃ n : Nat, n < 4096 ∧ lwR k a = (n : Int) := by
  unfold lwR
  have h1 := Int.fmod_nonneg_of_pos (k + a) (b := 4096) (by decide)
  have h2 := Int.fmod_lt_of_pos (k + a) (b := 4096) (by decide)
  exact ⟨(Int.fmod (k + a) 4096).toNat, by omega, by omega⟩
structure SgOk (m : Int) (r : Int) : Prop where
  ok : fmOk m = true
  eq : fmS m = lsS r
  ty : (zAnd m 61440 == 16384) = true
  c1 : (chO (fmS m) 1).isSome = true
  c3 : (chO (fmS m) 3).isSome = true
theorem sg_all (k a : Int) : SgOk (16384 + lwR k a) (lwR k a) := by
  obtain ⟨n, hn, e⟩ := lwR_nat k a
  rw [e]
  exact ⟨sg_ok hn, sign_eq n, by rw [sg_type hn]; rfl, ch_some (k := 1) (by rw [sg_len]; decide), ch_some (k := 3) (by rw [sg_len]; decide)⟩
end Mine
-- PL2
namespace Mine
noncomputable def dirsL : List Str := [Str.ofString "/a", Str.ofString "/a/b", Str.ofString "/c"]
noncomputable def modsL : List Str := [Str.ofString "m", Str.ofString "pkg"]
noncomputable def modF (md p : Str) : Bool := decide (mnOf p = md) || Txt.startswith (mnOf p) (md ++ Str.ofString ".")
noncomputable def modG (md p : Str) : Bool := strEqB (nmS p) md || (bif kpWh (kv0 md []) (nmS p) then strEqB (nmS p) (kpDot (kv0 md [])) else strEqB (kpPre (kv0 md []) (nmS p)) (kpDot (kv0 md [])))
theorem t_mod : (pathsS.all fun p => modsL.all fun md => modF md p == modG md p) = true := by decide +kernel
theorem t_dir : (pathsS.all fun p => dirsL.all fun d => Txt.startswith p (d ++ Str.ofString "/") == kcHit p d && kcOk p d) = true := by decide +kernel
theorem t_nm : (pathsS.all fun p => decide (mnOf p = nmS p) && !decide (nmS p = Str.ofString "<string>")) = true := by decide +kernel
theorem t_pre : (pathsS.all fun p => modsL.all fun md => decide ((kpPre (kv0 md []) (nmS p)).length ≤ 1000)) = true := by decide +kernel
theorem t_np : (dirsL.all fun d => decide (npOf d = d) && decide (npOf (d ++ Str.ofString "/") = d) && isNp d && isNp (d ++ Str.ofString "/") && !(d.length == 0) && !decide ((d ++ Str.ofString "/").length > 16777216)) = true := by decide +kernel
theorem t_md : (modsL.all fun md => !(md.length == 0) && !decide ((md ++ Str.ofString ".").length > 16777216) && decide (md.length ≤ 10)) = true := by decide +kernel
theorem t_cnt : (pathsS.all fun p => (Txt.count p (Str.ofString "/") == 2) == !(Txt.count p (Str.ofString "/") == 3)) = true := by decide +kernel
theorem all2 {α β : Type} {f : α → β → Bool} {l : List α} {m : List β} (h : (l.all fun a => m.all fun b => f a b) = true) {a : α} {b : β} (ha : a ∈ l) (hb : b ∈ m) : f a b = true := List.all_eq_true.mp (List.all_eq_true.mp h a ha) b hb
theorem pth_mem {p : Str} (h : isPth p = true) : p ∈ pathsS := List.contains_iff_mem.mp h
section
variable {md p : Str} {dl : List (Str × Tok)}
theorem hit_eq (hm : md ∈ modsL) (hd : ∀ d ∈ dl, d.1 ∈ dirsL) (hp : isPth p = true) : hitB (some md) (dl.map (·.1)) p = keptB (kv0 md dl) p (nmS p) := by
  have e1 : modF md p = modG md p := beq_iff_eq.mp (all2 t_mod (pth_mem hp) hm)
  have e2 : ((dl.map (·.1)).any fun d => Txt.startswith p (d ++ Str.ofString "/")) = dl.any fun d => kcHit p d.1 := by
    rw [List.any_map, Bool.eq_iff_iff, List.any_eq_true, List.any_eq_true]
    have e3 : ∀ d ∈ dl, Txt.startswith p (d.1 ++ Str.ofString "/") = kcHit p d.1 := fun d hd' => by
      have := all2 t_dir (pth_mem hp) (hd d hd')
      rw [Bool.and_eq_true] at this
      exact beq_iff_eq.mp this.1
    constructor
    · rintro ⟨d, h1, h2⟩; exact ⟨d, h1, (e3 d h1) ▸ h2⟩
    · rintro ⟨d, h1, h2⟩; exact ⟨d, h1, by show Txt.startswith p (d.1 ++ Str.ofString "/") = true; rw [e3 d h1]; exact h2⟩
  show (modF md p || _) = (modG md p || dl.any fun d => kcHit p d.1)
  rw [e1, e2]
theorem nm_eq (hp : isPth p = true) : mnOf p = nmS p ∧ nmS p ≠ Str.ofString "<string>" := by
  have := List.all_eq_true.mp t_nm p (pth_mem hp)
  simpa using this
end
theorem vlook_app (kn : List (Str × Int)) (s t : Str) (v : Int) : vlook (kn ++ [(s, v)]) t = (vlook kn t).or (if s = t then some v else none) := by
  unfold vlook
  rw [List.find?_append]
  cases kn.find? fun q => decide (q.1 = t) with
  | some q => rfl
  | none =>
    rw [List.find?_cons]
    by_cases h : s = t <;> simp [h]
theorem blook_app (kn : List (Str × Bool)) (s t : Str) (v : Bool) : blook (kn ++ [(s, v)]) t = (blook kn t).or (if s = t then some v else none) := by
  unfold blook
  rw [List.find?_append]
  cases kn.find? fun q => decide (q.1 = t) with
  | some q => rfl
  | none =>
    rw [List.find?_cons]
    by_cases h : s = t <;> simp [h]
noncomputable def RelK (kn : List (Str × Int)) (kb : List (Str × Bool)) : Prop := ∀ s, s ≠ Str.ofString "<string>" → vlook kn s = (blook kb s).map b2v
theorem fold_kept {md : Str} {dl : List (Str × Tok)} (hm : md ∈ modsL) (hd : ∀ d ∈ dl, d.1 ∈ dirsL) : ∀ (pl pl' : List (Str × Tok)) (kn : List (Str × Int)) (kb : List (Str × Bool)), pl.map (·.1) = pl'.map (·.1) → (∀ p ∈ pl, isPth p.1 = true) → RelK kn kb →
    (foldV (some md) (dl.map (·.1)) kn pl).map (·.1) = (keptF (kv0 md dl) kb pl').map (·.1)
  | [], [], _, _, _, _, _ => rfl
  | [], _ :: _, _, _, e, _, _ => by cases e
  | _ :: _, [], _, _, e, _, _ => by cases e
  | p :: pl, p' :: pl', kn, kb, e, hp, r => by
    rw [List.map_cons, List.map_cons, List.cons.injEq] at e
    obtain ⟨e1, e2⟩ := e
    have hpp := hp p (.head _)
    obtain ⟨n1, n2⟩ := nm_eq hpp
    have hh := hit_eq hm hd hpp
    have rs := r (nmS p.1) n2
    have hp' : ∀ q ∈ pl, isPth q.1 = true := fun q hq => hp q (.tail _ hq)
    unfold foldV keptF
    rw [List.map_append, List.map_append, ← e1]
    unfold stepV stepB
    rw [n1, rs]
    cases hb : blook kb (nmS p.1) with
    | some v =>
      show (if b2v v = 0 then [p] else []).map (·.1) ++ (foldV (some md) (dl.map (·.1)) kn pl).map (·.1) = (bif v then [] else [p']).map (·.1) ++ (keptF (kv0 md dl) kb pl').map (·.1)
      rw [fold_kept hm hd pl pl' kn kb e2 hp' r]
      cases v with
      | true => rfl
      | false => show [p.1] ++ _ = [p'.1] ++ _; rw [e1]
    | none =>
      show (if hitOf (some md) (dl.map (·.1)) p.1 = 0 then [p] else []).map (·.1) ++ (foldV (some md) (dl.map (·.1)) (kn ++ [(nmS p.1, hitOf (some md) (dl.map (·.1)) p.1)]) pl).map (·.1) = (bif keptB (kv0 md dl) p.1 (nmS p.1) then [] else [p']).map (·.1) ++ (keptF (kv0 md dl) (kb ++ [(nmS p.1, keptB (kv0 md dl) p.1 (nmS p.1))]) pl').map (·.1)
      have hv : hitOf (some md) (dl.map (·.1)) p.1 = b2v (keptB (kv0 md dl) p.1 (nmS p.1)) := by unfold hitOf; rw [hh]
      rw [hv, fold_kept hm hd pl pl' _ (kb ++ [(nmS p.1, keptB (kv0 md dl) p.1 (nmS p.1))]) e2 hp' ?_]
      · cases keptB (kv0 md dl) p.1 (nmS p.1) with
        | true => rfl
        | false => show [p.1] ++ _ = [p'.1] ++ _; rw [e1]
      · intro s hs
        rw [vlook_app, blook_app, r s hs]
        cases blook kb s with
        | some v => rfl
        | none =>
          by_cases h : nmS p.1 = s
          · simp [h]
          · simp [h]
theorem rel0 : RelK kn0 [] := by
  intro s hs
  unfold vlook kn0 blook
  have : ¬ Str.ofString "<string>" = s := fun h => hs h.symm
  simp [this]
theorem fold_none : ∀ (pl : List (Str × Tok)) (kn : List (Str × Int)), (∀ p ∈ pl, isPth p.1 = true) → (∀ s, s ≠ Str.ofString "<string>" → vlook kn s = none ∨ vlook kn s = some 0) → foldV none [] kn pl = pl
  | [], _, _, _ => rfl
  | p :: pl, kn, hp, r => by
    have hpp := hp p (.head _)
    obtain ⟨n1, n2⟩ := nm_eq hpp
    have hp' : ∀ q ∈ pl, isPth q.1 = true := fun q hq => hp q (.tail _ hq)
    unfold foldV stepV
    rw [n1]
    rcases r (nmS p.1) n2 with e | e
    · rw [e]
      show [p] ++ foldV none [] (kn ++ [(nmS p.1, 0)]) pl = p :: pl
      rw [fold_none pl _ hp' ?_]
      · rfl
      · intro s hs
        rw [vlook_app]
        rcases r s hs with e2 | e2
        · rw [e2]
          by_cases h : nmS p.1 = s
          · simp [h]
          · simp [h]
        · rw [e2]; exact .inr rfl
    · rw [e]
      show [p] ++ foldV none [] kn pl = p :: pl
      rw [fold_none pl kn hp' r]
      rfl
theorem fold_none0 {pl : List (Str × Tok)} (hp : ∀ p ∈ pl, isPth p.1 = true) : foldV none [] kn0 pl = pl := fold_none pl kn0 hp fun s hs => .inl (by
  have := rel0 s hs
  rw [this]; rfl)
end Mine
-- PL3
namespace Mine
noncomputable def isD3 (p : Str) : Bool := Txt.count p (Str.ofString "/") == 3
noncomputable def isD2 (p : Str) : Bool := Txt.count p (Str.ofString "/") == 2
theorem slash_eq : slash = Str.ofString "/" := rfl
theorem deep_due {ss : List Str} (h : ∀ p ∈ ss, isPth p = true) : srtB cmpLt ss = (srtB strLt ss).filter isD3 ++ (srtB strLt ss).filter isD2 := by
  have pm := srtB_perm strLt ss
  have hS : ∀ p ∈ srtB strLt ss, isPth p = true := fun p hp => h p (pm.mem_iff.mp hp)
  have h2 : ∀ p ∈ srtB strLt ss, isD2 p = !isD3 p := fun p hp => by
    have := List.all_eq_true.mp t_cnt p (pth_mem (hS p hp))
    exact beq_iff_eq.mp this
  have e2 : (srtB strLt ss).filter isD2 = (srtB strLt ss).filter fun p => !isD3 p := List.filter_congr h2
  symm
  refine srtB_is cmp_tot ?_ ?_
  · rw [e2]
    exact (List.filter_append_perm isD3 _).trans pm
  · have pw := srtB_pw str_tot ss
    have same : ∀ a b : Str, Txt.count a slash = Txt.count b slash → strLt b a = false → cmpLt b a = false := fun a b e q => by
      cases hc : cmpLt b a with
      | false => rfl
      | true =>
        rw [cmpLt_iff] at hc
        rcases hc with hc | ⟨_, hc⟩
        · omega
        · exact absurd hc (of_decide_eq_false q)
    refine List.pairwise_append.mpr ⟨?_, ?_, ?_⟩
    · refine (pw.filter isD3).imp_of_mem fun {a b} ha hb q => same a b ?_ q
      have x := beq_iff_eq.mp (List.mem_filter.mp ha).2
      have y := beq_iff_eq.mp (List.mem_filter.mp hb).2
      rw [slash_eq, x, y]
    · refine (pw.filter isD2).imp_of_mem fun {a b} ha hb q => same a b ?_ q
      have x := beq_iff_eq.mp (List.mem_filter.mp ha).2
      have y := beq_iff_eq.mp (List.mem_filter.mp hb).2
      rw [slash_eq, x, y]
    · intro a ha b hb
      have x : Txt.count a slash = 3 := beq_iff_eq.mp (List.mem_filter.mp ha).2
      have y : Txt.count b slash = 2 := beq_iff_eq.mp (List.mem_filter.mp hb).2
      cases hc : cmpLt b a with
      | false => rfl
      | true =>
        rw [cmpLt_iff] at hc
        omega
theorem flat_by (d : Int) (l : List (Str × Tok)) : ((dvals l).flatMap fun v => bif Txt.count (strO (some v)) (Str.ofString "/") == d then [strO (some v)] else []) = (l.map (·.1)).filter fun p => Txt.count p (Str.ofString "/") == d := by
  induction l with
  | nil => rfl
  | cons p l ih =>
    show (bif Txt.count p.1 (Str.ofString "/") == d then [p.1] else []) ++ ((dvals l).flatMap _) = _
    rw [ih, List.map_cons, List.filter_cons]
    cases Txt.count p.1 (Str.ofString "/") == d <;> rfl
theorem flat_one (f : Str → Str) (l : List (Str × Tok)) : ((dvals l).flatMap fun v => [f (strO (some v))]) = l.map fun p => f p.1 := by
  induction l with
  | nil => rfl
  | cons p l ih =>
    show [f p.1] ++ ((dvals l).flatMap _) = _
    rw [ih]; rfl
theorem tag_len (ss : List Str) (f : Nat → Tok) : (tag ss f).length = ss.length := by
  rw [← List.length_map (f := (·.1)), tag_fst]
theorem slice_go {α : Type} (xs : Array α) (a c : Nat) (h : a + c ≤ xs.size) : ((List.range c).map fun (k : Nat) => ((a : Int) + 1 * (k : Int)).toNat).filterMap (xs[·]?) = (xs.toList.drop a).take c := by
  rw [List.filterMap_map]
  induction c with
  | zero => rfl
  | succ c ih =>
    have ih := ih (by omega)
    have hlt : a + c < xs.size := by omega
    rw [List.range_succ, List.filterMap_append, ih]
    have e : ((xs[·]?) ∘ fun (k : Nat) => ((a : Int) + 1 * (k : Int)).toNat) c = some xs[a + c] := by
      show xs[((a : Int) + 1 * (c : Int)).toNat]? = _
      have : ((a : Int) + 1 * (c : Int)).toNat = a + c := by omega
      rw [this, Array.getElem?_eq_getElem hlt]
    rw [List.filterMap_cons_some e, List.filterMap_nil, List.take_add_one, List.getElem?_drop, Array.getElem?_toList, Array.getElem?_eq_getElem hlt]
    rfl
theorem range_go (a b : Nat) : sliceRange (a : Int) (b : Int) 1 = (List.range (b - a)).map fun (k : Nat) => ((a : Int) + 1 * (k : Int)).toNat := by
  unfold sliceRange
  have e : (if (1 : Int) > 0 then (if (a : Int) < (b : Int) then ((b : Int) - a + 1 - 1) / 1 else 0) else (if (a : Int) > (b : Int) then ((a : Int) - b - 1 - 1) / (-1) else 0) : Int).toNat = b - a := by
    rw [if_pos (by decide)]
    by_cases h : (a : Int) < (b : Int)
    · rw [if_pos h, Int.ediv_one]; omega
    · rw [if_neg h]; omega
  rw [← e]
theorem slA_eq (xs : Array Value) (k : Nat) : (slA xs 0 (k : Int)).toList = xs.toList.take k := by
  unfold slA
  have e : max 0 (min (k : Int) (xs.size : Int)) = ((min k xs.size : Nat) : Int) := by omega
  have e0 : (0 : Int) = ((0 : Nat) : Int) := rfl
  show ((sliceRange 0 (max 0 (min (k : Int) (xs.size : Int))) 1).filterMap (xs[·]?)) = _
  rw [e]
  conv => lhs; rw [e0]
  rw [range_go, slice_go xs 0 _ (by omega), List.drop_zero, Nat.sub_zero]
  rcases Nat.le_total k xs.size with h | h
  · rw [Nat.min_eq_left h]
  · rw [Nat.min_eq_right h, List.take_of_length_le (by simp), List.take_of_length_le (by simpa using h)]
theorem slB_eq (xs : Array Value) (a k : Nat) (hk : a ≤ k) : (slB xs (a : Int) (k : Int)).toList = (xs.toList.drop a).take (k - a) := by
  unfold slB
  have e1 : max 0 (min (a : Int) (xs.size : Int)) = ((min a xs.size : Nat) : Int) := by omega
  have e2 : max 0 (min (k : Int) (xs.size : Int)) = ((min k xs.size : Nat) : Int) := by omega
  show ((sliceRange (max 0 (min (a : Int) (xs.size : Int))) (max 0 (min (k : Int) (xs.size : Int))) 1).filterMap (xs[·]?)) = _
  rw [e1, e2, range_go, slice_go xs _ _ (by omega)]
  rcases Nat.le_total a xs.size with h | h
  · rw [Nat.min_eq_left h]
    rcases Nat.le_total k xs.size with h2 | h2
    · rw [Nat.min_eq_left h2]
    · rw [Nat.min_eq_right h2, List.take_of_length_le (by simp), List.take_of_length_le (by simp; omega)]
  · rw [Nat.min_eq_right h, List.drop_eq_nil_of_le (by simp), List.drop_eq_nil_of_le (by simpa using h)]
    simp
end Mine
-- J1
namespace Mine
open PySem.W.R (bindR onRaiseR)
structure Own (w : World) (h : Heap) (l : List (Nat × Obj)) : Prop where
  bs : Bs w h (l.map (·.1))
  get : ∀ p ∈ l, h.get? p.1 = some p.2
  nd : (l.map (·.1)).Nodup
theorem At.of {h : Heap} : ∀ {l : List (Nat × Obj)}, (∀ p ∈ l, h.get? p.1 = some p.2) → At h (l.map (·.1)) (l.map (·.2))
  | [], _ => trivial
  | p :: l, H => ⟨H p (.head _), At.of fun q hq => H q (.tail _ hq)⟩
theorem Own.at {w : World} {h : Heap} {l : List (Nat × Obj)} (o : Own w h l) : At h (l.map (·.1)) (l.map (·.2)) := At.of o.get
theorem Own.left {w : World} {h : Heap} {a b : List (Nat × Obj)} (o : Own w h (a ++ b)) : Own w h a :=
  ⟨o.bs.sub fun x m => by rw [List.map_append]; exact List.mem_append_left _ m, fun p hp => o.get p (List.mem_append_left _ hp), by have := o.nd; rw [List.map_append] at this; exact (List.nodup_append.mp this).1⟩
theorem Own.step {w : World} {h h' : Heap} {a b l : List (Nat × Obj)} {n : Nat} (o : Own w h (a ++ b)) (E : End h h' (a.map (·.1)) n l) : Own w h' (l ++ b) := by
  have nd := o.nd
  rw [List.map_append, List.nodup_append] at nd
  have old : ∀ p ∈ b, h.get? p.1 = some p.2 := fun p hp => o.get p (List.mem_append_right _ hp)
  have kp : ∀ p ∈ b, h'.get? p.1 = some p.2 := fun p hp => E.keep _ _ (old p hp) fun m => nd.2.2 _ m _ (List.mem_map_of_mem hp) rfl
  refine ⟨⟨fun c ob e => ?_, o.bs.L.at fun ob e => E.keep _ _ e fun m => o.bs.st (by rw [List.map_append]; exact List.mem_append_left _ m), by rw [E.size]; exact Nat.le_trans o.bs.B E.ge⟩, fun p hp => ?_, ?_⟩
  · obtain ⟨k1, k2⟩ := o.bs.K c ob e
    rw [List.map_append, List.mem_append, not_or] at k2
    refine ⟨E.keep _ _ k1 k2.1, fun m => ?_⟩
    rw [List.map_append] at m
    rcases List.mem_append.mp m with m | m
    · obtain ⟨p, hp, rfl⟩ := List.mem_map.mp m
      rcases (E.at' p hp).2.2 with q | q
      · exact k2.1 q
      · have lt : (p.1 : Nat) < h.objs.size := Heap.lt_size k1
        exact absurd lt (Nat.not_lt.mpr q)
    · exact k2.2 m
  · rcases List.mem_append.mp hp with hp | hp
    · exact (E.at' p hp).1
    · exact kp p hp
  · rw [List.map_append, List.nodup_append]
    refine ⟨E.nd, nd.2.1, fun x hx y hy e => ?_⟩
    subst e
    obtain ⟨p, hp, rfl⟩ := List.mem_map.mp hx
    obtain ⟨q, hq, eq⟩ := List.mem_map.mp hy
    rcases (E.at' p hp).2.2 with z | z
    · exact nd.2.2 _ z _ hy rfl
    · have lt : (q.1 : Nat) < h.objs.size := Heap.lt_size (old q hq)
      rw [eq] at lt
      exact absurd lt (Nat.not_lt.mpr z)
theorem Own.pick {w : World} {h : Heap} {l : List (Nat × Obj)} (o : Own w h l) (js : List Nat) (hj : js.Nodup) : Own w h (js.filterMap (l[·]?)) := by
  have sub : ∀ p ∈ js.filterMap (l[·]?), p ∈ l := fun p hp => by
    obtain ⟨j, _, e⟩ := List.mem_filterMap.mp hp
    exact List.mem_of_getElem? e
  refine ⟨o.bs.sub fun a m => ?_, fun p hp => o.get p (sub p hp), ?_⟩
  · obtain ⟨p, hp, rfl⟩ := List.mem_map.mp m
    exact List.mem_map_of_mem (sub p hp)
  · induction js with
    | nil => exact List.nodup_nil
    | cons j js ih =>
      obtain ⟨h1, h2⟩ := List.nodup_cons.mp hj
      have sub' : ∀ p ∈ js.filterMap (l[·]?), p ∈ l := fun p hp => by
        obtain ⟨j, _, e⟩ := List.mem_filterMap.mp hp
        exact List.mem_of_getElem? e
      cases e : l[j]? with
      | none => rw [List.filterMap_cons_none e]; exact ih h2 sub'
      | some p =>
        rw [List.filterMap_cons_some e, List.map_cons]
        refine List.nodup_cons.mpr ⟨fun m => ?_, ih h2 sub'⟩
        obtain ⟨q, hq, eq⟩ := List.mem_map.mp m
        obtain ⟨i, hi, ei⟩ := List.mem_filterMap.mp hq
        obtain ⟨l1, v1⟩ := List.getElem?_eq_some_iff.mp e
        obtain ⟨l2, v2⟩ := List.getElem?_eq_some_iff.mp ei
        have a1 : j < (l.map (·.1)).length := by rw [List.length_map]; exact l1
        have a2 : i < (l.map (·.1)).length := by rw [List.length_map]; exact l2
        have : i = j := (List.getElem_inj (h₀ := a2) (h₁ := a1) o.nd).mp (by rw [List.getElem_map, List.getElem_map, v1, v2, eq])
        exact h1 (this ▸ hi)
theorem Own.rn {w : World} {s : Shared} {a : List (Nat × Obj)} {sums : List (Code → Option Summ)} {dyn : List Dyn} {xs : List Sb} {need : Nat} (o : Own w s.heap a) (hZ : SumsOk w sums need) (hD : DynsOk w dyn need) (hX : ∀ f ∈ xs, SbOk PR w f) : Rn w (mkZ w sums dyn xs) need (a.map (·.1)) (a.map (·.2)) s :=
  rn_ofX hZ hD hX o.bs.K o.bs.L o.bs.B o.bs.st o.at o.nd
section
variable {M : Model} {A : Around} {n : Nat} {env : Env}
theorem stX_cons (st : Stmt) (l : List Stmt) : stX n (st :: l) env = (exX n st env >>= fun fl => onNext fl (stX n l env)) := by
  show bindR (exX n st env) (fun fl => onNext fl (stX n l env)) = _
  rw [bindR_is]
theorem stX_app : ∀ (l l' : List Stmt), stX n (l ++ l') env = (stX n l env >>= fun fl => onNext fl (stX n l' env))
  | [], l' => by
    show stX n l' env = ((pure .next : Sem Flow) >>= fun fl => onNext fl (stX n l' env))
    rw [pure_bind]
    rfl
  | st :: l, l' => by
    rw [List.cons_append, stX_cons, stX_app l l', stX_cons, bind_assoc]
    congr 1
    funext fl
    cases fl with
    | next => rfl
    | _ => exact (pure_bind _ _).symm
theorem seq {l l' : List Stmt} {Q : Flow → Shared → Prop} {E : Value → Shared → Prop} {s : Shared} (h : wpAny M A (stX n l env) (fun fl s' => fl = .next ∧ wpAny M A (stX n l' env) Q E s') E s) : wpAny M A (stX n (l ++ l') env) Q E s := by
  rw [stX_app]
  refine wpAny_bind (wpAny_mono h (fun fl s' z => ?_) fun _ _ z => z)
  obtain ⟨rfl, z⟩ := z
  exact z
end
theorem func_any {w : World} {A : Around} {s : Shared} {l : List Stmt} {env : Env} {R : Result → Shared → Prop} {n : Nat} (hu : (A.under (.func l env)).units < cLine) (h : wpAny (model PR w) (A.under (.func l env)) (stX n l env) (fun fl s' => ∃ v, fl = .ret v ∧ R (.ok (.ret v)) s') (fun _ _ => False) s) : codeAny (model PR w) A (.func l env) R s := by
  refine x_codeT (Sim.any (Sim.func hu n l env) ?_)
  unfold funcX
  rw [bindR_is]
  refine wpAny_bind (wpAny_point ?_)
  rw [bindR_is, onRaiseR_is]
  refine wpAny_bind (wpAny_onRaise (wpAny_mono h (fun fl s' z => ?_) fun _ _ z => z.elim))
  obtain ⟨v, rfl, z⟩ := z
  exact wpAny_pure z
end Mine
-- J2
namespace Mine
structure St (w : World) (h₀ : Heap) (pre : List Nat) (h : Heap) (l : List (Nat × Obj)) : Prop where
  own : Own w h l
  keep : ∀ b o, h₀.get? b = some o → b ∉ pre → h.get? b = some o
  ge : h₀.objs.size ≤ h.objs.size
  src : ∀ p ∈ l, p.1 ∈ pre ∨ h₀.objs.size ≤ p.1
section
variable {w : World} {h₀ h h' : Heap} {pre : List Nat}
theorem St.step {a b l : List (Nat × Obj)} {n : Nat} (o : St w h₀ pre h (a ++ b)) (E : End h h' (a.map (·.1)) n l) : St w h₀ pre h' (l ++ b) := by
  refine ⟨o.own.step E, fun c ob e m => E.keep _ _ (o.keep c ob e m) fun m2 => ?_, by rw [E.size]; exact Nat.le_trans o.ge E.ge, fun p hp => ?_⟩
  · obtain ⟨p, hp, rfl⟩ := List.mem_map.mp m2
    rcases o.src p (List.mem_append_left _ hp) with q | q
    · exact m q
    · have lt : (p.1 : Nat) < h₀.objs.size := Heap.lt_size e
      exact absurd lt (Nat.not_lt.mpr q)
  · rcases List.mem_append.mp hp with hp | hp
    · rcases (E.at' p hp).2.2 with q | q
      · obtain ⟨r, hr, e⟩ := List.mem_map.mp q
        rw [← e]
        exact o.src r (List.mem_append_left _ hr)
      · exact .inr (Nat.le_trans o.ge q)
    · exact o.src p (List.mem_append_right _ hp)
theorem St.pick {l : List (Nat × Obj)} (o : St w h₀ pre h l) (js : List Nat) (hj : js.Nodup) : St w h₀ pre h (js.filterMap (l[·]?)) :=
  ⟨o.own.pick js hj, o.keep, o.ge, fun p hp => by
    obtain ⟨j, _, e⟩ := List.mem_filterMap.mp hp
    exact o.src p (List.mem_of_getElem? e)⟩
end
theorem hz {Q : Shared → Prop} : ∀ (x : Except Value Flow) (s' : Shared), (x = .ok .next ∧ Q s') → PostX x (fun fl s' => fl = .next ∧ Q s') (fun _ _ => False) s' := by
  rintro _ _ ⟨rfl, q⟩
  exact ⟨rfl, q⟩
theorem all6 {P : Sb → Prop} {a b c d e f : Sb} (h1 : P a) (h2 : P b) (h3 : P c) (h4 : P d) (h5 : P e) (h6 : P f) : ∀ g ∈ [a, b, c, d, e, f], P g := fun g hg => by
  simp only [List.mem_cons, List.not_mem_nil, or_false] at hg
  rcases hg with rfl | rfl | rfl | rfl | rfl | rfl <;> assumption
noncomputable def LwEnds (w : World) (A : Around) (s : Shared) (l : List Stmt) (env : Env) (Q : Shared → Prop) : Prop := wpAny (model PR w) A (stX 4 l env) (fun fl s' => fl = .next ∧ Q s') (fun _ _ => False) s
noncomputable def IntL (l : List Value) : Prop := ∀ v ∈ l, ∃ i u, v = Value.int i u
theorem arr_of {xs : Array Value} {l : List Value} (h : xs.toList = l) : xs = ⟨l⟩ := by
  cases xs; cases h; rfl
section
variable {w : World} {A : Around} {s : Shared} {h₀ : Heap} {pre : List Nat} {rest : List (Nat × Obj)} {lo ce : Nat} {Q : Shared → Prop}
theorem St.x {l : List (Nat × Obj)} (o : St w h₀ pre s.heap l) : ∃ x, s.heap.objs.size = x + 214 := ⟨s.heap.objs.size - 214, by have := o.own.bs.B; omega⟩
theorem segA {t0 ep : Nat} {xs : Array Value} (rm : Room 300 A 20) (hx : IntL xs.toList)
    (o : St w h₀ pre s.heap ([(lo + 214, loc [eo w "script" t0 (.ref 213)] 1), (ce + 214, pCell none), (213, lstA xs ep)] ++ rest))
    (hq : ∀ (h' : Heap) (t' t1 fo ad u0 u1 u2 : Nat) (a b c : Int) (ta tb tc : Nat), St w h₀ pre h' ([(lo + 214, loc [eo w "script" t0 (.ref 213), en w "added" t1 (.ref (ad + 214))] 2), (ce + 214, pCell (some (.ref (fo + 214)))), (213, lstA xs ep),
      (fo + 214, lst [.str (Str.ofString "/a") u0, .str (Str.ofString "/a/b") u1, .str (Str.ofString "/c") u2] 0), (ad + 214, lst [.int a ta, .int b tb, .int c tc] 0)] ++ rest) → Q ⟨h', s.gens, s.drawn, t', s.os⟩) : LwEnds w A s [lwS w 0] (lwEnv w (lo + 214) (ce + 214)) Q := by
  obtain ⟨x, hsz⟩ := o.x
  have rn := o.own.left.rn (need := 300) sums_nil dyns_nil (all6 sSL_ok sLM_ok sDI_ok sMO_ok sSX_ok sGX_ok)
  refine run_sem (V := lwV0 w x s.toks lo ce t0 xs ep) (Z := fun r s' => r = .ok .next ∧ Q s') rn rm hsz (k_sa w x s.toks lo ce t0 xs ep) (fun ρ => ?_) hz
  have main : ∀ (l : List Value) (r : Array Value) (a b c : Int) (ta tb tc : Nat), (slA xs 0 3).toList = l → repA #[.int 0 (s.toks + 4)] (3 - ((Array.mk l).size : Int)) = r → (Array.mk l) ++ r = #[.int a ta, .int b tb, .int c tc] →
      (([(decide ((Array.mk l).size > 16777216), false), (decide ((Array.mk l).size > 16777216), false), (false, false), (decide ((Nat.cast (Array.mk l).size : Int) ≥ (2 : Int) ^ 63), false), (Builtin.List.listFitsIndex (3 - (Nat.cast (Array.mk l).size : Int)), true),
    (decide (1 * (3 - (Nat.cast (Array.mk l).size : Int)).toNat > 16777216), false), (decide (r.size > 16777216), false), (decide (((Array.mk l) ++ r).size > 16777216), false)].all fun e => e.1 == e.2) = true) →
      (lwV0 w x s.toks lo ce t0 xs ep (endF s [lo + 214, ce + 214, 213] fun r s' => r = .ok .next ∧ Q s') ρ).Holds := by
    intro l r a b c ta tb tc e1 e2 e3 hc
    have e4 := arr_of e1
    unfold lwV0 lwZ
    rw [e4, e2]
    refine chain_h hc ?_
    rw [e3]
    intro h' E
    exact ⟨rfl, hq h' _ _ _ _ _ _ _ a b c ta tb tc (o.step E)⟩
  have e0 := slA_eq xs 3
  match hl : xs.toList, hx with
  | [], _ =>
    refine main [] #[.int 0 (s.toks + 4), .int 0 (s.toks + 4), .int 0 (s.toks + 4)] 0 0 0 (s.toks + 4) (s.toks + 4) (s.toks + 4) (by rw [show (3 : Int) = ((3 : Nat) : Int) from rfl, e0, hl]; rfl) (by kernel_rfl) (by kernel_rfl) (by kernel_rfl)
  | [v0], hx =>
    obtain ⟨i, u, rfl⟩ := hx v0 (.head _)
    refine main [.int i u] #[.int 0 (s.toks + 4), .int 0 (s.toks + 4)] i 0 0 u (s.toks + 4) (s.toks + 4) (by rw [show (3 : Int) = ((3 : Nat) : Int) from rfl, e0, hl]; rfl) (by kernel_rfl) (by kernel_rfl) (by kernel_rfl)
  | [v0, v1], hx =>
    obtain ⟨i, u, rfl⟩ := hx v0 (.head _)
    obtain ⟨j, v, rfl⟩ := hx v1 (.tail _ (.head _))
    refine main [.int i u, .int j v] #[.int 0 (s.toks + 4)] i j 0 u v (s.toks + 4) (by rw [show (3 : Int) = ((3 : Nat) : Int) from rfl, e0, hl]; rfl) (by kernel_rfl) (by kernel_rfl) (by kernel_rfl)
  | v0 :: v1 :: v2 :: r, hx =>
    obtain ⟨i, u, rfl⟩ := hx v0 (.head _)
    obtain ⟨j, v, rfl⟩ := hx v1 (.tail _ (.head _))
    obtain ⟨k, z, rfl⟩ := hx v2 (.tail _ (.tail _ (.head _)))
    refine main [.int i u, .int j v, .int k z] #[] i j k u v z (by rw [show (3 : Int) = ((3 : Nat) : Int) from rfl, e0, hl]; rfl) (by kernel_rfl) (by kernel_rfl) (by kernel_rfl)
theorem segB {t0 t1 fo ad u0 u1 u2 e : Nat} {a b c : Int} {ta tb tc : Nat} {sv : Value} (rm : Room 300 A 20)
    (o : St w h₀ pre s.heap ([(lo + 214, loc [eo w "script" t0 sv, en w "added" t1 (.ref (ad + 214))] 2), (ce + 214, pCell (some (.ref (fo + 214)))), (fo + 214, lst [.str (Str.ofString "/a") u0, .str (Str.ofString "/a/b") u1, .str (Str.ofString "/c") u2] 0), (ad + 214, lst [.int a ta, .int b tb, .int c tc] e)] ++ rest))
    (hq : ∀ (h' : Heap) (t' t2 t3 ri sg : Nat) (ro : Obj) (m0 m1 m2 : Int) (v0 v1 v2 : Nat), (∃ r, SgOk m0 r) → (∃ r, SgOk m1 r) → (∃ r, SgOk m2 r) → St w h₀ pre h' ([(lo + 214, loc [eo w "script" t0 sv, en w "added" t1 (.ref (ad + 214)), en w "rights" t2 (.ref (ri + 214)), en w "signs" t3 (.ref (sg + 214))] 4), (ce + 214, pCell (some (.ref (fo + 214)))),
      (fo + 214, lst [.str (Str.ofString "/a") u0, .str (Str.ofString "/a/b") u1, .str (Str.ofString "/c") u2] 0), (ri + 214, ro), (sg + 214, lst [.str (fmS m0) v0, .str (fmS m1) v1, .str (fmS m2) v2] 3)] ++ rest) → Q ⟨h', s.gens, s.drawn, t', s.os⟩) : LwEnds w A s [lwS w 1, lwS w 2, lwS w 3] (lwEnv w (lo + 214) (ce + 214)) Q := by
  obtain ⟨x, hsz⟩ := o.x
  have hX : ∀ f ∈ [sSL, sLM, sDI, sMO, sSX, sGX, sCP], SbOk PR w f := all_cons sSL_ok <| all_cons sLM_ok <| all_cons sDI_ok <| all_cons sMO_ok <| all_cons sSX_ok <| all_cons sGX_ok <| all_cons sCP_ok <| fun f hf => nomatch hf
  have rn := o.own.left.rn (need := 300) (sums_cons (zFM_ok w) (by decide) (sums_cons (zLS_ok w) (by decide) sums_nil)) (dyns_cons (zLQ_ok w true 27 32) (by decide) dyns_nil) hX
  have s0 := sg_all 493 a
  have s1 := sg_all 64 b
  have s2 := sg_all 320 c
  have main : ∀ ρ : Stream, (lwV1 w x s.toks lo ce fo ad t0 t1 u0 u1 u2 a b c sv (endF s [lo + 214, ce + 214, fo + 214, ad + 214] fun r s' => r = .ok .next ∧ Q s') ρ).Holds := fun ρ => by
    unfold lwV1
    refine chain_h rfl ⟨s0.ok, chain_h rfl ⟨s1.ok, chain_h rfl ⟨s2.ok, chain_h rfl ⟨trivial, chain_h rfl ⟨trivial, chain_h rfl ⟨trivial, chain_h rfl ⟨⟨rfl, rfl⟩, chain_h ?_ ?_⟩⟩⟩⟩⟩⟩⟩
    · have e1 : strsA (seqA (lwSG a b c ρ)) = strsA (seqA (lwSL a b c ρ)) := by
        show [fmS (16384 + lwR 493 a), fmS (16384 + lwR 64 b), fmS (16384 + lwR 320 c)] = [lsS (lwR 493 a), lsS (lwR 64 b), lsS (lwR 320 c)]
        rw [s0.eq, s1.eq, s2.eq]
      rw [s0.ty, s1.ty, s2.ty, decide_eq_true e1]
      rfl
    · intro h' E
      exact ⟨rfl, hq h' _ _ _ (x + 6) (x + 23) _ _ _ _ _ _ _ ⟨_, s0⟩ ⟨_, s1⟩ ⟨_, s2⟩ (by
        have := o.step E
        rw [show x + 214 + 6 = x + 6 + 214 by omega, show x + 214 + 23 = x + 23 + 214 by omega] at this
        exact this)⟩
  cases hi : w.params.followText "comprehension-iter-twice" with
  | true => exact run_sem (V := lwV1 w x s.toks lo ce fo ad t0 t1 u0 u1 u2 a b c sv) (Z := fun r s' => r = .ok .next ∧ Q s') rn rm hsz (k_sbt w x s.toks lo ce fo ad 0 t0 t1 u0 u1 u2 a b c ta tb tc e sv hi) main hz
  | false => exact run_sem (V := lwV1 w x s.toks lo ce fo ad t0 t1 u0 u1 u2 a b c sv) (Z := fun r s' => r = .ok .next ∧ Q s') rn rm hsz (k_sbf w x s.toks lo ce fo ad 0 t0 t1 u0 u1 u2 a b c ta tb tc e sv hi) main hz
end
end Mine
-- L5
set_option maxHeartbeats 0
namespace Mine
noncomputable def q_sdt (W : World) (w : World) (x T : Nat) (lo : Nat) (ce : Nat) (fo : Nat) (t0 : Nat) (t1 : Nat) (t2 : Nat) (t3 : Nat) (t4 : Nat) (u0 : Nat) (u1 : Nat) (u2 : Nat) (xs : Array Value) (ep : Nat) (av : Value) (rv : Value) (gv : Value) (cv : Value) (F : KF Flow) (ρ : Stream) : VT := (ex ⟨PR, W.params⟩ (mkZ w [] [zPC w lo ce fo u0 u1 u2 8 7] [sSL, sMO, sDI, sSX, sGX]) 4000).s Flow 20 (stX 4 [lwS w 5, lwS w 6] (lwEnv w (lo + 214) (ce + 214))) [1, 4, 4, 4, 0, 4, 2, 31, 5, 5, 5, 5, 5, 4, 0, 6, 7, 6, 0, 6, 2, 7, 7, 6, 7, 0, 8, 8, 0, 8, 0, 9, 0, 4, 0, 8, 9, 10, 7, 1, 2, 1, 1, 1, 11, 11, 11, 0, 0, 1, 0, 2, 12, 4, 0, 4, 0, 4, 0, 0, 0, 2, 32, 0, 2, 6, 2] ⟨[lo + 214, ce + 214, fo + 214, 213], [loc [eo w "script" t0 (.ref 213), en w "added" t1 av, en w "rights" t2 rv, en w "signs" t3 gv, en w "closed" t4 cv] 5, pCell (some (.ref (fo + 214))), lst [.str (Str.ofString "/a") u0, .str (Str.ofString "/a/b") u1, .str (Str.ofString "/c") u2] 0, lstA xs ep], (x + 214), 0, T, 0, (.b [1, 1, 0, 1, 2, 3, 9] .n [1, 1, 0, 1, 2, 3, 9] .n), ρ⟩ (leafS F)
noncomputable def v_sdt (w : World) (x T : Nat) (lo : Nat) (ce : Nat) (fo : Nat) (t0 : Nat) (t1 : Nat) (t2 : Nat) (t3 : Nat) (t4 : Nat) (u0 : Nat) (u1 : Nat) (u2 : Nat) (xs : Array Value) (ep : Nat) (av : Value) (rv : Value) (gv : Value) (cv : Value) (F : KF Flow) (ρ : Stream) : VT := lwV3 w x T lo ce fo t0 t1 t2 t3 t4 u0 u1 u2 xs ep av rv gv cv F ρ
theorem e_sdt (w : World) (x T : Nat) (lo : Nat) (ce : Nat) (fo : Nat) (t0 : Nat) (t1 : Nat) (t2 : Nat) (t3 : Nat) (t4 : Nat) (u0 : Nat) (u1 : Nat) (u2 : Nat) (xs : Array Value) (ep : Nat) (av : Value) (rv : Value) (gv : Value) (cv : Value) (F : KF Flow) (ρ : Stream) (b0 : Bool) : EqV (q_sdt ((w.withFollow "comprehension-iter-twice" true).withFollow "special-get-raises" b0) w x T lo ce fo t0 t1 t2 t3 t4 u0 u1 u2 xs ep av rv gv cv F ρ) (v_sdt w x T lo ce fo t0 t1 t2 t3 t4 u0 u1 u2 xs ep av rv gv cv F ρ) := by unfold EqV; cases b0 <;> kernel_rfl
theorem k_sdt (w : World) (x T : Nat) (lo : Nat) (ce : Nat) (fo : Nat) (t0 : Nat) (t1 : Nat) (t2 : Nat) (t3 : Nat) (t4 : Nat) (u0 : Nat) (u1 : Nat) (u2 : Nat) (xs : Array Value) (ep : Nat) (av : Value) (rv : Value) (gv : Value) (cv : Value) (h0 : w.params.followText "comprehension-iter-twice" = true) (F : KF Flow) (ρ : Stream) : EqV (q_sdt w w x T lo ce fo t0 t1 t2 t3 t4 u0 u1 u2 xs ep av rv gv cv F ρ) (v_sdt w x T lo ce fo t0 t1 t2 t3 t4 u0 u1 u2 xs ep av rv gv cv F ρ) := by
  have eE := e_sdt w x T lo ce fo t0 t1 t2 t3 t4 u0 u1 u2 xs ep av rv gv cv F ρ
  rw [wf_eq h0] at eE
  exact row1 (P := fun W => EqV (q_sdt W w x T lo ce fo t0 t1 t2 t3 t4 u0 u1 u2 xs ep av rv gv cv F ρ) (v_sdt w x T lo ce fo t0 t1 t2 t3 t4 u0 u1 u2 xs ep av rv gv cv F ρ)) "special-get-raises" eE
noncomputable def q_sdf (W : World) (w : World) (x T : Nat) (lo : Nat) (ce : Nat) (fo : Nat) (t0 : Nat) (t1 : Nat) (t2 : Nat) (t3 : Nat) (t4 : Nat) (u0 : Nat) (u1 : Nat) (u2 : Nat) (xs : Array Value) (ep : Nat) (av : Value) (rv : Value) (gv : Value) (cv : Value) (F : KF Flow) (ρ : Stream) : VT := (ex ⟨PR, W.params⟩ (mkZ w [] [zPC w lo ce fo u0 u1 u2 8 7] [sSL, sMO, sDI, sSX, sGX]) 4000).s Flow 20 (stX 4 [lwS w 5, lwS w 6] (lwEnv w (lo + 214) (ce + 214))) [1, 4, 4, 4, 0, 4, 2, 31, 5, 5, 5, 5, 5, 4, 0, 6, 7, 6, 0, 6, 2, 7, 7, 6, 7, 0, 8, 8, 0, 8, 0, 9, 0, 9, 9, 0, 9, 0, 9, 4, 0, 8, 9, 10, 7, 1, 2, 1, 1, 1, 11, 11, 11, 0, 0, 1, 0, 2, 12, 4, 0, 4, 0, 4, 0, 0, 0, 2, 32, 0, 2, 6, 2] ⟨[lo + 214, ce + 214, fo + 214, 213], [loc [eo w "script" t0 (.ref 213), en w "added" t1 av, en w "rights" t2 rv, en w "signs" t3 gv, en w "closed" t4 cv] 5, pCell (some (.ref (fo + 214))), lst [.str (Str.ofString "/a") u0, .str (Str.ofString "/a/b") u1, .str (Str.ofString "/c") u2] 0, lstA xs ep], (x + 214), 0, T, 0, (.b [1, 1, 0, 1, 2, 3, 9] .n [1, 1, 0, 1, 2, 3, 9] .n), ρ⟩ (leafS F)
noncomputable def v_sdf (w : World) (x T : Nat) (lo : Nat) (ce : Nat) (fo : Nat) (t0 : Nat) (t1 : Nat) (t2 : Nat) (t3 : Nat) (t4 : Nat) (u0 : Nat) (u1 : Nat) (u2 : Nat) (xs : Array Value) (ep : Nat) (av : Value) (rv : Value) (gv : Value) (cv : Value) (F : KF Flow) (ρ : Stream) : VT := lwV3 w x T lo ce fo t0 t1 t2 t3 t4 u0 u1 u2 xs ep av rv gv cv F ρ
theorem e_sdf (w : World) (x T : Nat) (lo : Nat) (ce : Nat) (fo : Nat) (t0 : Nat) (t1 : Nat) (t2 : Nat) (t3 : Nat) (t4 : Nat) (u0 : Nat) (u1 : Nat) (u2 : Nat) (xs : Array Value) (ep : Nat) (av : Value) (rv : Value) (gv : Value) (cv : Value) (F : KF Flow) (ρ : Stream) (b0 : Bool) : EqV (q_sdf ((w.withFollow "comprehension-iter-twice" false).withFollow "special-get-raises" b0) w x T lo ce fo t0 t1 t2 t3 t4 u0 u1 u2 xs ep av rv gv cv F ρ) (v_sdf w x T lo ce fo t0 t1 t2 t3 t4 u0 u1 u2 xs ep av rv gv cv F ρ) := by unfold EqV; cases b0 <;> kernel_rfl
theorem k_sdf (w : World) (x T : Nat) (lo : Nat) (ce : Nat) (fo : Nat) (t0 : Nat) (t1 : Nat) (t2 : Nat) (t3 : Nat) (t4 : Nat) (u0 : Nat) (u1 : Nat) (u2 : Nat) (xs : Array Value) (ep : Nat) (av : Value) (rv : Value) (gv : Value) (cv : Value) (h0 : w.params.followText "comprehension-iter-twice" = false) (F : KF Flow) (ρ : Stream) : EqV (q_sdf w w x T lo ce fo t0 t1 t2 t3 t4 u0 u1 u2 xs ep av rv gv cv F ρ) (v_sdf w x T lo ce fo t0 t1 t2 t3 t4 u0 u1 u2 xs ep av rv gv cv F ρ) := by
  have eE := e_sdf w x T lo ce fo t0 t1 t2 t3 t4 u0 u1 u2 xs ep av rv gv cv F ρ
  rw [wf_eq h0] at eE
  exact row1 (P := fun W => EqV (q_sdf W w x T lo ce fo t0 t1 t2 t3 t4 u0 u1 u2 xs ep av rv gv cv F ρ) (v_sdf w x T lo ce fo t0 t1 t2 t3 t4 u0 u1 u2 xs ep av rv gv cv F ρ)) "special-get-raises" eE
end Mine
-- L7
set_option maxHeartbeats 0
namespace Mine
noncomputable def q_sft (W : World) (w : World) (x T : Nat) (lo : Nat) (ce : Nat) (pa : Nat) (cl : Nat) (t0 : Nat) (t1 : Nat) (t2 : Nat) (t3 : Nat) (t4 : Nat) (t5 : Nat) (t6 : Nat) (sv : Value) (av : Value) (rv : Value) (gv : Value) (md : Str) (tm : Nat) (pl : List (Str × Tok)) (pe : Nat) (dl : List (Str × Tok)) (de : Nat) (F : KF Flow) (ρ : Stream) : VT := (ex ⟨PR, W.params⟩ (mkZ w [] [zIGd w false 4 2, zLFa w md tm (some md) 1 5 6 7 8 9, zLK 1 2, zLQ true 11 12]) 4000).s Flow 20 (stX 4 [lwS w 8] (lwEnv w (lo + 214) (ce + 214))) [0, 1, 0, 1, 1, 0, 0, 4, 0, 4, 2, 1, 0, 4, 1, 3, 1, 5, 6, 7, 8, 9, 1, 0, 1, 1, 1, 0, 4, 2, 1, 2, 1, 12, 13, 12, 4, 3, 11, 12, 1, 0, 1, 2, 3, 10] ⟨[lo + 214, pa + 214, cl + 214, 195], [lwF w t0 t1 t2 t3 t4 t5 t6 pa tm sv av rv gv (.ref (cl + 214)) md, lst (dvals pl) pe, lst (dvals dl) de, tabObj #[]], (x + 214), 0, T, 0, .n, ρ⟩ (leafS F)
noncomputable def v_sft (w : World) (x T : Nat) (lo : Nat) (ce : Nat) (pa : Nat) (cl : Nat) (t0 : Nat) (t1 : Nat) (t2 : Nat) (t3 : Nat) (t4 : Nat) (t5 : Nat) (t6 : Nat) (sv : Value) (av : Value) (rv : Value) (gv : Value) (md : Str) (tm : Nat) (pl : List (Str × Tok)) (pe : Nat) (dl : List (Str × Tok)) (de : Nat) (F : KF Flow) (ρ : Stream) : VT := lwV5 w x T lo pa cl t0 t1 t2 t3 t4 t5 t6 sv av rv gv md tm pl pe dl de F ρ
theorem e_sft (w : World) (x T : Nat) (lo : Nat) (ce : Nat) (pa : Nat) (cl : Nat) (t0 : Nat) (t1 : Nat) (t2 : Nat) (t3 : Nat) (t4 : Nat) (t5 : Nat) (t6 : Nat) (sv : Value) (av : Value) (rv : Value) (gv : Value) (md : Str) (tm : Nat) (pl : List (Str × Tok)) (pe : Nat) (dl : List (Str × Tok)) (de : Nat) (F : KF Flow) (ρ : Stream) (b0 : Bool) : EqV (q_sft ((w.withFollow "comprehension-iter-twice" true).withFollow "special-get-raises" b0) w x T lo ce pa cl t0 t1 t2 t3 t4 t5 t6 sv av rv gv md tm pl pe dl de F ρ) (v_sft w x T lo ce pa cl t0 t1 t2 t3 t4 t5 t6 sv av rv gv md tm pl pe dl de F ρ) := by unfold EqV; cases b0 <;> kernel_rfl
theorem k_sft (w : World) (x T : Nat) (lo : Nat) (ce : Nat) (pa : Nat) (cl : Nat) (t0 : Nat) (t1 : Nat) (t2 : Nat) (t3 : Nat) (t4 : Nat) (t5 : Nat) (t6 : Nat) (sv : Value) (av : Value) (rv : Value) (gv : Value) (md : Str) (tm : Nat) (pl : List (Str × Tok)) (pe : Nat) (dl : List (Str × Tok)) (de : Nat) (h0 : w.params.followText "comprehension-iter-twice" = true) (F : KF Flow) (ρ : Stream) : EqV (q_sft w w x T lo ce pa cl t0 t1 t2 t3 t4 t5 t6 sv av rv gv md tm pl pe dl de F ρ) (v_sft w x T lo ce pa cl t0 t1 t2 t3 t4 t5 t6 sv av rv gv md tm pl pe dl de F ρ) := by
  have eE := e_sft w x T lo ce pa cl t0 t1 t2 t3 t4 t5 t6 sv av rv gv md tm pl pe dl de F ρ
  rw [wf_eq h0] at eE
  exact row1 (P := fun W => EqV (q_sft W w x T lo ce pa cl t0 t1 t2 t3 t4 t5 t6 sv av rv gv md tm pl pe dl de F ρ) (v_sft w x T lo ce pa cl t0 t1 t2 t3 t4 t5 t6 sv av rv gv md tm pl pe dl de F ρ)) "special-get-raises" eE
noncomputable def q_sff (W : World) (w : World) (x T : Nat) (lo : Nat) (ce : Nat) (pa : Nat) (cl : Nat) (t0 : Nat) (t1 : Nat) (t2 : Nat) (t3 : Nat) (t4 : Nat) (t5 : Nat) (t6 : Nat) (sv : Value) (av : Value) (rv : Value) (gv : Value) (md : Str) (tm : Nat) (pl : List (Str × Tok)) (pe : Nat) (dl : List (Str × Tok)) (de : Nat) (F : KF Flow) (ρ : Stream) : VT := (ex ⟨PR, W.params⟩ (mkZ w [] [zIGd w false 4 2, zLFa w md tm (some md) 1 5 6 7 8 9, zLK 1 2, zLQ true 11 12]) 4000).s Flow 20 (stX 4 [lwS w 8] (lwEnv w (lo + 214) (ce + 214))) [0, 1, 0, 1, 1, 0, 0, 4, 0, 4, 2, 1, 0, 4, 1, 3, 1, 5, 6, 7, 8, 9, 1, 0, 1, 1, 1, 0, 4, 2, 1, 2, 1, 12, 13, 12, 4, 3, 11, 12, 1, 0, 1, 2, 3, 10] ⟨[lo + 214, pa + 214, cl + 214, 195], [lwF w t0 t1 t2 t3 t4 t5 t6 pa tm sv av rv gv (.ref (cl + 214)) md, lst (dvals pl) pe, lst (dvals dl) de, tabObj #[]], (x + 214), 0, T, 0, .n, ρ⟩ (leafS F)
noncomputable def v_sff (w : World) (x T : Nat) (lo : Nat) (ce : Nat) (pa : Nat) (cl : Nat) (t0 : Nat) (t1 : Nat) (t2 : Nat) (t3 : Nat) (t4 : Nat) (t5 : Nat) (t6 : Nat) (sv : Value) (av : Value) (rv : Value) (gv : Value) (md : Str) (tm : Nat) (pl : List (Str × Tok)) (pe : Nat) (dl : List (Str × Tok)) (de : Nat) (F : KF Flow) (ρ : Stream) : VT := lwV5 w x T lo pa cl t0 t1 t2 t3 t4 t5 t6 sv av rv gv md tm pl pe dl de F ρ
theorem e_sff (w : World) (x T : Nat) (lo : Nat) (ce : Nat) (pa : Nat) (cl : Nat) (t0 : Nat) (t1 : Nat) (t2 : Nat) (t3 : Nat) (t4 : Nat) (t5 : Nat) (t6 : Nat) (sv : Value) (av : Value) (rv : Value) (gv : Value) (md : Str) (tm : Nat) (pl : List (Str × Tok)) (pe : Nat) (dl : List (Str × Tok)) (de : Nat) (F : KF Flow) (ρ : Stream) (b0 : Bool) : EqV (q_sff ((w.withFollow "comprehension-iter-twice" false).withFollow "special-get-raises" b0) w x T lo ce pa cl t0 t1 t2 t3 t4 t5 t6 sv av rv gv md tm pl pe dl de F ρ) (v_sff w x T lo ce pa cl t0 t1 t2 t3 t4 t5 t6 sv av rv gv md tm pl pe dl de F ρ) := by unfold EqV; cases b0 <;> kernel_rfl
theorem k_sff (w : World) (x T : Nat) (lo : Nat) (ce : Nat) (pa : Nat) (cl : Nat) (t0 : Nat) (t1 : Nat) (t2 : Nat) (t3 : Nat) (t4 : Nat) (t5 : Nat) (t6 : Nat) (sv : Value) (av : Value) (rv : Value) (gv : Value) (md : Str) (tm : Nat) (pl : List (Str × Tok)) (pe : Nat) (dl : List (Str × Tok)) (de : Nat) (h0 : w.params.followText "comprehension-iter-twice" = false) (F : KF Flow) (ρ : Stream) : EqV (q_sff w w x T lo ce pa cl t0 t1 t2 t3 t4 t5 t6 sv av rv gv md tm pl pe dl de F ρ) (v_sff w x T lo ce pa cl t0 t1 t2 t3 t4 t5 t6 sv av rv gv md tm pl pe dl de F ρ) := by
  have eE := e_sff w x T lo ce pa cl t0 t1 t2 t3 t4 t5 t6 sv av rv gv md tm pl pe dl de F ρ
  rw [wf_eq h0] at eE
  exact row1 (P := fun W => EqV (q_sff W w x T lo ce pa cl t0 t1 t2 t3 t4 t5 t6 sv av rv gv md tm pl pe dl de F ρ) (v_sff w x T lo ce pa cl t0 t1 t2 t3 t4 t5 t6 sv av rv gv md tm pl pe dl de F ρ)) "special-get-raises" eE
end Mine
-- L8
set_option maxHeartbeats 0
namespace Mine
noncomputable def q_sgt (W : World) (w : World) (x T : Nat) (lo : Nat) (ce : Nat) (pa : Nat) (t0 : Nat) (t1 : Nat) (t2 : Nat) (t3 : Nat) (t4 : Nat) (t5 : Nat) (t6 : Nat) (sv : Value) (av : Value) (rv : Value) (gv : Value) (cv : Value) (md : Str) (tm : Nat) (pl : List (Str × Tok)) (pe : Nat) (F : KF Flow) (ρ : Stream) : VT := (ex ⟨PR, W.params⟩ (mkZ w [zCKd w] [zSO w 1 3, zST 1, zTC w lo ce 2 true 13 12, zTC w lo ce 3 true 17 16]) 4000).s Flow 20 (stX 4 [lwS w 9, lwS w 10] (lwEnv w (lo + 214) (ce + 214))) [0, 0, 1, 0, 0, 0, 3, 0, 2, 1, 4, 0, 1, 3, 4, 5, 6, 7, 8, 9, 10, 1, 1, 1, 0, 0, 1, 4, 1, 1, 1, 13, 13, 0, 13, 0, 14, 0, 4, 2, 13, 14, 15, 12, 1, 16, 16, 16, 0, 0, 1, 4, 1, 1, 1, 17, 17, 0, 17, 0, 18, 0, 4, 3, 17, 18, 19, 16, 1, 20, 20, 20, 15, 19, 15, 0, 15, 2, 7, 19, 15, 19, 0, 1, 1, 0, 1, 2, 11, 20] ⟨[lo + 214, pa + 214, 113], [lwF w t0 t1 t2 t3 t4 t5 t6 pa tm sv av rv gv cv md, lst (dvals pl) pe, tabObj #[]], (x + 214), 0, T, 0, .n, ρ⟩ (leafS F)
noncomputable def v_sgt (w : World) (x T : Nat) (lo : Nat) (ce : Nat) (pa : Nat) (t0 : Nat) (t1 : Nat) (t2 : Nat) (t3 : Nat) (t4 : Nat) (t5 : Nat) (t6 : Nat) (sv : Value) (av : Value) (rv : Value) (gv : Value) (cv : Value) (md : Str) (tm : Nat) (pl : List (Str × Tok)) (pe : Nat) (F : KF Flow) (ρ : Stream) : VT := lwV6 w x T lo pa t0 t1 t2 t3 t4 t5 t6 sv av rv gv cv md tm pl pe F ρ
theorem e_sgt (w : World) (x T : Nat) (lo : Nat) (ce : Nat) (pa : Nat) (t0 : Nat) (t1 : Nat) (t2 : Nat) (t3 : Nat) (t4 : Nat) (t5 : Nat) (t6 : Nat) (sv : Value) (av : Value) (rv : Value) (gv : Value) (cv : Value) (md : Str) (tm : Nat) (pl : List (Str × Tok)) (pe : Nat) (F : KF Flow) (ρ : Stream) (b0 : Bool) : EqV (q_sgt ((w.withFollow "comprehension-iter-twice" true).withFollow "special-get-raises" b0) w x T lo ce pa t0 t1 t2 t3 t4 t5 t6 sv av rv gv cv md tm pl pe F ρ) (v_sgt w x T lo ce pa t0 t1 t2 t3 t4 t5 t6 sv av rv gv cv md tm pl pe F ρ) := by unfold EqV; cases b0 <;> kernel_rfl
theorem k_sgt (w : World) (x T : Nat) (lo : Nat) (ce : Nat) (pa : Nat) (t0 : Nat) (t1 : Nat) (t2 : Nat) (t3 : Nat) (t4 : Nat) (t5 : Nat) (t6 : Nat) (sv : Value) (av : Value) (rv : Value) (gv : Value) (cv : Value) (md : Str) (tm : Nat) (pl : List (Str × Tok)) (pe : Nat) (h0 : w.params.followText "comprehension-iter-twice" = true) (F : KF Flow) (ρ : Stream) : EqV (q_sgt w w x T lo ce pa t0 t1 t2 t3 t4 t5 t6 sv av rv gv cv md tm pl pe F ρ) (v_sgt w x T lo ce pa t0 t1 t2 t3 t4 t5 t6 sv av rv gv cv md tm pl pe F ρ) := by
  have eE := e_sgt w x T lo ce pa t0 t1 t2 t3 t4 t5 t6 sv av rv gv cv md tm pl pe F ρ
  rw [wf_eq h0] at eE
  exact row1 (P := fun W => EqV (q_sgt W w x T lo ce pa t0 t1 t2 t3 t4 t5 t6 sv av rv gv cv md tm pl pe F ρ) (v_sgt w x T lo ce pa t0 t1 t2 t3 t4 t5 t6 sv av rv gv cv md tm pl pe F ρ)) "special-get-raises" eE
noncomputable def q_sgf (W : World) (w : World) (x T : Nat) (lo : Nat) (ce : Nat) (pa : Nat) (t0 : Nat) (t1 : Nat) (t2 : Nat) (t3 : Nat) (t4 : Nat) (t5 : Nat) (t6 : Nat) (sv : Value) (av : Value) (rv : Value) (gv : Value) (cv : Value) (md : Str) (tm : Nat) (pl : List (Str × Tok)) (pe : Nat) (F : KF Flow) (ρ : Stream) : VT := (ex ⟨PR, W.params⟩ (mkZ w [zCKd w] [zSO w 1 3, zST 1, zTC w lo ce 2 true 13 12, zTC w lo ce 3 true 17 16]) 4000).s Flow 20 (stX 4 [lwS w 9, lwS w 10] (lwEnv w (lo + 214) (ce + 214))) [0, 0, 1, 0, 0, 0, 3, 0, 2, 1, 4, 0, 1, 3, 4, 5, 6, 7, 8, 9, 10, 1, 1, 1, 0, 0, 1, 4, 1, 1, 1, 13, 13, 0, 13, 0, 14, 0, 14, 14, 0, 14, 0, 14, 4, 2, 13, 14, 15, 12, 1, 16, 16, 16, 0, 0, 1, 4, 1, 1, 1, 17, 17, 0, 17, 0, 18, 0, 18, 18, 0, 18, 0, 18, 4, 3, 17, 18, 19, 16, 1, 20, 20, 20, 15, 19, 15, 0, 15, 2, 7, 19, 15, 19, 0, 1, 1, 0, 1, 2, 11, 20] ⟨[lo + 214, pa + 214, 113], [lwF w t0 t1 t2 t3 t4 t5 t6 pa tm sv av rv gv cv md, lst (dvals pl) pe, tabObj #[]], (x + 214), 0, T, 0, .n, ρ⟩ (leafS F)
noncomputable def v_sgf (w : World) (x T : Nat) (lo : Nat) (ce : Nat) (pa : Nat) (t0 : Nat) (t1 : Nat) (t2 : Nat) (t3 : Nat) (t4 : Nat) (t5 : Nat) (t6 : Nat) (sv : Value) (av : Value) (rv : Value) (gv : Value) (cv : Value) (md : Str) (tm : Nat) (pl : List (Str × Tok)) (pe : Nat) (F : KF Flow) (ρ : Stream) : VT := lwV6 w x T lo pa t0 t1 t2 t3 t4 t5 t6 sv av rv gv cv md tm pl pe F ρ
theorem e_sgf (w : World) (x T : Nat) (lo : Nat) (ce : Nat) (pa : Nat) (t0 : Nat) (t1 : Nat) (t2 : Nat) (t3 : Nat) (t4 : Nat) (t5 : Nat) (t6 : Nat) (sv : Value) (av : Value) (rv : Value) (gv : Value) (cv : Value) (md : Str) (tm : Nat) (pl : List (Str × Tok)) (pe : Nat) (F : KF Flow) (ρ : Stream) (b0 : Bool) : EqV (q_sgf ((w.withFollow "comprehension-iter-twice" false).withFollow "special-get-raises" b0) w x T lo ce pa t0 t1 t2 t3 t4 t5 t6 sv av rv gv cv md tm pl pe F ρ) (v_sgf w x T lo ce pa t0 t1 t2 t3 t4 t5 t6 sv av rv gv cv md tm pl pe F ρ) := by unfold EqV; cases b0 <;> kernel_rfl
theorem k_sgf (w : World) (x T : Nat) (lo : Nat) (ce : Nat) (pa : Nat) (t0 : Nat) (t1 : Nat) (t2 : Nat) (t3 : Nat) (t4 : Nat) (t5 : Nat) (t6 : Nat) (sv : Value) (av : Value) (rv : Value) (gv : Value) (cv : Value) (md : Str) (tm : Nat) (pl : List (Str × Tok)) (pe : Nat) (h0 : w.params.followText "comprehension-iter-twice" = false) (F : KF Flow) (ρ : Stream) : EqV (q_sgf w w x T lo ce pa t0 t1 t2 t3 t4 t5 t6 sv av rv gv cv md tm pl pe F ρ) (v_sgf w x T lo ce pa t0 t1 t2 t3 t4 t5 t6 sv av rv gv cv md tm pl pe F ρ) := by
  have eE := e_sgf w x T lo ce pa t0 t1 t2 t3 t4 t5 t6 sv av rv gv cv md tm pl pe F ρ
  rw [wf_eq h0] at eE
  exact row1 (P := fun W => EqV (q_sgf W w x T lo ce pa t0 t1 t2 t3 t4 t5 t6 sv av rv gv cv md tm pl pe F ρ) (v_sgf w x T lo ce pa t0 t1 t2 t3 t4 t5 t6 sv av rv gv cv md tm pl pe F ρ)) "special-get-raises" eE
end Mine
-- L9
set_option maxHeartbeats 0
namespace Mine
noncomputable def q_sht (W : World) (w : World) (x T : Nat) (lo : Nat) (ce : Nat) (pa : Nat) (dp : Nat) (du : Nat) (cl : Nat) (t0 : Nat) (t1 : Nat) (t2 : Nat) (t3 : Nat) (t4 : Nat) (t5 : Nat) (t6 : Nat) (sv : Value) (av : Value) (rv : Value) (gv : Value) (t7 : Nat) (t8 : Nat) (K : LK) (md : Str) (tm : Nat) (dl1 : List (Str × Tok)) (e1 : Nat) (dl2 : List (Str × Tok)) (e2 : Nat) (dl : List (Str × Tok)) (de : Nat) (z : Bool) (F : KF Flow) (ρ : Stream) : VT := (ex ⟨PR, W.params⟩ (mkZ w [] [zLQ true 1 2, zTC w lo ce 4 z 7 3, zIGd w true 6 8, zLFb w md tm (some md) K 1 10 11 12 13 14, zLK 2 3, zLQ true 15 16]) 4000).s Flow 20 (stX 4 [lwS w 11] (lwEnv w (lo + 214) (ce + 214))) (@Bool.rec (fun _ => List Nat) [1, 1, 2, 3, 2, 4, 0, 1, 2, 1, 0, 1, 0, 1, 1, 4, 4, 0, 4, 0, 8, 0, 4, 1, 7, 8, 9, 3, 1, 10, 0, 0, 4, 2, 6, 8, 1, 0, 4, 3, 4, 1, 10, 11, 12, 13, 14, 5, 1, 0, 1, 1, 1, 0, 4, 4, 2, 3, 1, 16, 17, 16, 4, 5, 15, 16, 1, 0, 4, 5] [1, 1, 2, 3, 2, 4, 0, 1, 2, 1, 0, 1, 0, 1, 1, 4, 4, 0, 4, 0, 8, 0, 4, 1, 7, 8, 9, 3, 1, 10, 10, 10, 0, 0, 4, 2, 6, 8, 1, 0, 4, 3, 4, 1, 10, 11, 12, 13, 14, 5, 1, 0, 1, 1, 1, 0, 4, 4, 2, 3, 1, 16, 17, 16, 4, 5, 15, 16, 1, 0, 4, 5] z) ⟨[lo + 214, dp + 214, du + 214, cl + 214, 195, K.co + 214], [lwG w t0 t1 t2 t3 t4 t5 t6 t7 t8 pa tm sv av rv gv (.ref (cl + 214)) (.ref (dp + 214)) (.ref (du + 214)) md, lst (dvals dl1) e1, lst (dvals dl2) e2, lst (dvals dl) de, tabO (K.co + 214), K.o], (x + 214), 0, T, 0, .n, ρ⟩ (leafS F)
noncomputable def v_sht (w : World) (x T : Nat) (lo : Nat) (ce : Nat) (pa : Nat) (dp : Nat) (du : Nat) (cl : Nat) (t0 : Nat) (t1 : Nat) (t2 : Nat) (t3 : Nat) (t4 : Nat) (t5 : Nat) (t6 : Nat) (sv : Value) (av : Value) (rv : Value) (gv : Value) (t7 : Nat) (t8 : Nat) (K : LK) (md : Str) (tm : Nat) (dl1 : List (Str × Tok)) (e1 : Nat) (dl2 : List (Str × Tok)) (e2 : Nat) (dl : List (Str × Tok)) (de : Nat) (z : Bool) (F : KF Flow) (ρ : Stream) : VT := lwV7 w x T lo pa dp du cl t0 t1 t2 t3 t4 t5 t6 t7 t8 sv av rv gv K md tm dl1 e1 dl2 e2 dl de z F ρ
theorem e_sht (w : World) (x T : Nat) (lo : Nat) (ce : Nat) (pa : Nat) (dp : Nat) (du : Nat) (cl : Nat) (t0 : Nat) (t1 : Nat) (t2 : Nat) (t3 : Nat) (t4 : Nat) (t5 : Nat) (t6 : Nat) (sv : Value) (av : Value) (rv : Value) (gv : Value) (t7 : Nat) (t8 : Nat) (K : LK) (md : Str) (tm : Nat) (dl1 : List (Str × Tok)) (e1 : Nat) (dl2 : List (Str × Tok)) (e2 : Nat) (dl : List (Str × Tok)) (de : Nat) (z : Bool) (F : KF Flow) (ρ : Stream) (b0 : Bool) : EqV (q_sht ((w.withFollow "comprehension-iter-twice" true).withFollow "special-get-raises" b0) w x T lo ce pa dp du cl t0 t1 t2 t3 t4 t5 t6 sv av rv gv t7 t8 K md tm dl1 e1 dl2 e2 dl de z F ρ) (v_sht w x T lo ce pa dp du cl t0 t1 t2 t3 t4 t5 t6 sv av rv gv t7 t8 K md tm dl1 e1 dl2 e2 dl de z F ρ) := by unfold EqV; cases z <;> cases b0 <;> kernel_rfl
theorem k_sht (w : World) (x T : Nat) (lo : Nat) (ce : Nat) (pa : Nat) (dp : Nat) (du : Nat) (cl : Nat) (t0 : Nat) (t1 : Nat) (t2 : Nat) (t3 : Nat) (t4 : Nat) (t5 : Nat) (t6 : Nat) (sv : Value) (av : Value) (rv : Value) (gv : Value) (t7 : Nat) (t8 : Nat) (K : LK) (md : Str) (tm : Nat) (dl1 : List (Str × Tok)) (e1 : Nat) (dl2 : List (Str × Tok)) (e2 : Nat) (dl : List (Str × Tok)) (de : Nat) (z : Bool) (h0 : w.params.followText "comprehension-iter-twice" = true) (F : KF Flow) (ρ : Stream) : EqV (q_sht w w x T lo ce pa dp du cl t0 t1 t2 t3 t4 t5 t6 sv av rv gv t7 t8 K md tm dl1 e1 dl2 e2 dl de z F ρ) (v_sht w x T lo ce pa dp du cl t0 t1 t2 t3 t4 t5 t6 sv av rv gv t7 t8 K md tm dl1 e1 dl2 e2 dl de z F ρ) := by
  have eE := e_sht w x T lo ce pa dp du cl t0 t1 t2 t3 t4 t5 t6 sv av rv gv t7 t8 K md tm dl1 e1 dl2 e2 dl de z F ρ
  rw [wf_eq h0] at eE
  exact row1 (P := fun W => EqV (q_sht W w x T lo ce pa dp du cl t0 t1 t2 t3 t4 t5 t6 sv av rv gv t7 t8 K md tm dl1 e1 dl2 e2 dl de z F ρ) (v_sht w x T lo ce pa dp du cl t0 t1 t2 t3 t4 t5 t6 sv av rv gv t7 t8 K md tm dl1 e1 dl2 e2 dl de z F ρ)) "special-get-raises" eE
noncomputable def q_shf (W : World) (w : World) (x T : Nat) (lo : Nat) (ce : Nat) (pa : Nat) (dp : Nat) (du : Nat) (cl : Nat) (t0 : Nat) (t1 : Nat) (t2 : Nat) (t3 : Nat) (t4 : Nat) (t5 : Nat) (t6 : Nat) (sv : Value) (av : Value) (rv : Value) (gv : Value) (t7 : Nat) (t8 : Nat) (K : LK) (md : Str) (tm : Nat) (dl1 : List (Str × Tok)) (e1 : Nat) (dl2 : List (Str × Tok)) (e2 : Nat) (dl : List (Str × Tok)) (de : Nat) (z : Bool) (F : KF Flow) (ρ : Stream) : VT := (ex ⟨PR, W.params⟩ (mkZ w [] [zLQ true 1 2, zTC w lo ce 4 z 7 3, zIGd w true 6 8, zLFb w md tm (some md) K 1 10 11 12 13 14, zLK 2 3, zLQ true 15 16]) 4000).s Flow 20 (stX 4 [lwS w 11] (lwEnv w (lo + 214) (ce + 214))) (@Bool.rec (fun _ => List Nat) [1, 1, 2, 3, 2, 4, 0, 1, 2, 1, 0, 1, 0, 1, 1, 4, 4, 0, 4, 0, 8, 0, 8, 8, 0, 8, 0, 8, 4, 1, 7, 8, 9, 3, 1, 10, 0, 0, 4, 2, 6, 8, 1, 0, 4, 3, 4, 1, 10, 11, 12, 13, 14, 5, 1, 0, 1, 1, 1, 0, 4, 4, 2, 3, 1, 16, 17, 16, 4, 5, 15, 16, 1, 0, 4, 5] [1, 1, 2, 3, 2, 4, 0, 1, 2, 1, 0, 1, 0, 1, 1, 4, 4, 0, 4, 0, 8, 0, 8, 8, 0, 8, 0, 8, 4, 1, 7, 8, 9, 3, 1, 10, 10, 10, 0, 0, 4, 2, 6, 8, 1, 0, 4, 3, 4, 1, 10, 11, 12, 13, 14, 5, 1, 0, 1, 1, 1, 0, 4, 4, 2, 3, 1, 16, 17, 16, 4, 5, 15, 16, 1, 0, 4, 5] z) ⟨[lo + 214, dp + 214, du + 214, cl + 214, 195, K.co + 214], [lwG w t0 t1 t2 t3 t4 t5 t6 t7 t8 pa tm sv av rv gv (.ref (cl + 214)) (.ref (dp + 214)) (.ref (du + 214)) md, lst (dvals dl1) e1, lst (dvals dl2) e2, lst (dvals dl) de, tabO (K.co + 214), K.o], (x + 214), 0, T, 0, .n, ρ⟩ (leafS F)
noncomputable def v_shf (w : World) (x T : Nat) (lo : Nat) (ce : Nat) (pa : Nat) (dp : Nat) (du : Nat) (cl : Nat) (t0 : Nat) (t1 : Nat) (t2 : Nat) (t3 : Nat) (t4 : Nat) (t5 : Nat) (t6 : Nat) (sv : Value) (av : Value) (rv : Value) (gv : Value) (t7 : Nat) (t8 : Nat) (K : LK) (md : Str) (tm : Nat) (dl1 : List (Str × Tok)) (e1 : Nat) (dl2 : List (Str × Tok)) (e2 : Nat) (dl : List (Str × Tok)) (de : Nat) (z : Bool) (F : KF Flow) (ρ : Stream) : VT := lwV7 w x T lo pa dp du cl t0 t1 t2 t3 t4 t5 t6 t7 t8 sv av rv gv K md tm dl1 e1 dl2 e2 dl de z F ρ
theorem e_shf (w : World) (x T : Nat) (lo : Nat) (ce : Nat) (pa : Nat) (dp : Nat) (du : Nat) (cl : Nat) (t0 : Nat) (t1 : Nat) (t2 : Nat) (t3 : Nat) (t4 : Nat) (t5 : Nat) (t6 : Nat) (sv : Value) (av : Value) (rv : Value) (gv : Value) (t7 : Nat) (t8 : Nat) (K : LK) (md : Str) (tm : Nat) (dl1 : List (Str × Tok)) (e1 : Nat) (dl2 : List (Str × Tok)) (e2 : Nat) (dl : List (Str × Tok)) (de : Nat) (z : Bool) (F : KF Flow) (ρ : Stream) (b0 : Bool) : EqV (q_shf ((w.withFollow "comprehension-iter-twice" false).withFollow "special-get-raises" b0) w x T lo ce pa dp du cl t0 t1 t2 t3 t4 t5 t6 sv av rv gv t7 t8 K md tm dl1 e1 dl2 e2 dl de z F ρ) (v_shf w x T lo ce pa dp du cl t0 t1 t2 t3 t4 t5 t6 sv av rv gv t7 t8 K md tm dl1 e1 dl2 e2 dl de z F ρ) := by unfold EqV; cases z <;> cases b0 <;> kernel_rfl
theorem k_shf (w : World) (x T : Nat) (lo : Nat) (ce : Nat) (pa : Nat) (dp : Nat) (du : Nat) (cl : Nat) (t0 : Nat) (t1 : Nat) (t2 : Nat) (t3 : Nat) (t4 : Nat) (t5 : Nat) (t6 : Nat) (sv : Value) (av : Value) (rv : Value) (gv : Value) (t7 : Nat) (t8 : Nat) (K : LK) (md : Str) (tm : Nat) (dl1 : List (Str × Tok)) (e1 : Nat) (dl2 : List (Str × Tok)) (e2 : Nat) (dl : List (Str × Tok)) (de : Nat) (z : Bool) (h0 : w.params.followText "comprehension-iter-twice" = false) (F : KF Flow) (ρ : Stream) : EqV (q_shf w w x T lo ce pa dp du cl t0 t1 t2 t3 t4 t5 t6 sv av rv gv t7 t8 K md tm dl1 e1 dl2 e2 dl de z F ρ) (v_shf w x T lo ce pa dp du cl t0 t1 t2 t3 t4 t5 t6 sv av rv gv t7 t8 K md tm dl1 e1 dl2 e2 dl de z F ρ) := by
  have eE := e_shf w x T lo ce pa dp du cl t0 t1 t2 t3 t4 t5 t6 sv av rv gv t7 t8 K md tm dl1 e1 dl2 e2 dl de z F ρ
  rw [wf_eq h0] at eE
  exact row1 (P := fun W => EqV (q_shf W w x T lo ce pa dp du cl t0 t1 t2 t3 t4 t5 t6 sv av rv gv t7 t8 K md tm dl1 e1 dl2 e2 dl de z F ρ) (v_shf w x T lo ce pa dp du cl t0 t1 t2 t3 t4 t5 t6 sv av rv gv t7 t8 K md tm dl1 e1 dl2 e2 dl de z F ρ)) "special-get-raises" eE
end Mine
-- J3
namespace Mine
theorem pcT_pth (i : Int) : isPth (pcT i) = true := by
  unfold pcT
  rcases mod3 i with a | a | a <;> rcases mod4 (Int.fdiv i 3) with b | b | b | b <;> rw [a, b] <;> decide +kernel
theorem flat_pc (l : List Value) : l.flatMap pcG = l.map fun v => pcT (intO (some v)) := by
  induction l with
  | nil => rfl
  | cons v l ih =>
    show [pcT (intO (some v))] ++ l.flatMap pcG = _
    rw [ih]; rfl
theorem tag_pth {ss : List Str} {f : Nat → Tok} (h : ∀ p ∈ ss, isPth p = true) : ∀ p ∈ tag ss f, isPth p.1 = true := fun p hp => by
  have : p.1 ∈ (tag ss f).map (·.1) := List.mem_map_of_mem hp
  rw [tag_fst] at this
  exact h _ this
section
variable {w : World} {A : Around} {s : Shared} {h₀ : Heap} {pre : List Nat} {rest : List (Nat × Obj)} {lo ce : Nat} {Q : Shared → Prop}
noncomputable def SgC (s : Str) : Prop := (chO s 1).isSome = true ∧ (chO s 3).isSome = true
theorem segC {t0 t1 t2 t3 fo sg u0 u1 u2 v0 v1 v2 ep : Nat} {s0 s1 s2 : Str} {sv av rv : Value} (rm : Room 300 A 20) (c0 : SgC s0) (c1 : SgC s1) (c2 : SgC s2)
    (o : St w h₀ pre s.heap ([(lo + 214, loc [eo w "script" t0 sv, en w "added" t1 av, en w "rights" t2 rv, en w "signs" t3 (.ref (sg + 214))] 4), (ce + 214, pCell (some (.ref (fo + 214)))),
      (fo + 214, lst [.str (Str.ofString "/a") u0, .str (Str.ofString "/a/b") u1, .str (Str.ofString "/c") u2] 0), (sg + 214, lst [.str s0 v0, .str s1 v1, .str s2 v2] ep)] ++ rest))
    (hq : ∀ (h' : Heap) (t' t4 cl de : Nat) (dl : List (Str × Tok)), (∀ d ∈ dl, d.1 ∈ dirsL) → dl.length ≤ 3 → St w h₀ pre h' ([(lo + 214, loc [eo w "script" t0 sv, en w "added" t1 av, en w "rights" t2 rv, en w "signs" t3 (.ref (sg + 214)), en w "closed" t4 (.ref (cl + 214))] 5), (ce + 214, pCell (some (.ref (fo + 214)))),
      (fo + 214, lst [.str (Str.ofString "/a") u0, .str (Str.ofString "/a/b") u1, .str (Str.ofString "/c") u2] 0), (sg + 214, lst [.str s0 v0, .str s1 v1, .str s2 v2] ep), (cl + 214, lst (dvals dl) de)] ++ rest) → Q ⟨h', s.gens, s.drawn, t', s.os⟩) : LwEnds w A s [lwS w 4] (lwEnv w (lo + 214) (ce + 214)) Q := by
  obtain ⟨x, hsz⟩ := o.x
  have rn := o.own.left.rn (need := 300) sums_nil dyns_nil (all3 sSX_ok sGX_ok sCP_ok)
  have main : ∀ ρ : Stream, (lwV2 w x s.toks lo ce fo sg t0 t1 t2 t3 u0 u1 u2 s0 s1 s2 v0 v1 v2 ep sv av rv (endF s [lo + 214, ce + 214, fo + 214, sg + 214] fun r s' => r = .ok .next ∧ Q s') ρ).Holds := fun ρ => by
    unfold lwV2
    refine lwCR_h _ _ _ ?_ fun n' => ?_
    · intro p hp
      simp only [List.mem_cons, List.not_mem_nil, or_false] at hp
      rcases hp with rfl | rfl | rfl
      · exact c0
      · exact c1
      · exact c2
    · intro h' E
      generalize hL : ([((Str.ofString "/a", u0), s0), ((Str.ofString "/a/b", u1), s1), ((Str.ofString "/c", u2), s2)] : List ((Str × Tok) × Str)) = L
      have hl : ([(Value.str (Str.ofString "/a") u0, s0), (.str (Str.ofString "/a/b") u1, s1), (.str (Str.ofString "/c") u2, s2)] : List (Value × Str)) = L.map fun q => (.str q.1.1 q.1.2, q.2) := by subst hL; rfl
      have hd : ([] ++ (([(Value.str (Str.ofString "/a") u0, s0), (.str (Str.ofString "/a/b") u1, s1), (.str (Str.ofString "/c") u2, s2)] : List (Value × Str)).filter fun p => lwCl p.2).map (·.1)) = dvals ((L.filter fun q => lwCl q.2).map (·.1)) := by
        rw [hl, List.filter_map, List.map_map, List.nil_append]
        unfold dvals
        rw [List.map_map]
        rfl
      rw [hd] at E
      refine ⟨rfl, hq h' _ _ (x + 5) _ _ ?_ ?_ (by
        have := o.step E
        rw [show x + 214 + 5 = x + 5 + 214 by omega] at this
        exact this)⟩
      · intro d hd
        obtain ⟨q, hq, rfl⟩ := List.mem_map.mp hd
        have hq := (List.mem_filter.mp hq).1
        subst hL
        simp only [List.mem_cons, List.not_mem_nil, or_false] at hq
        rcases hq with rfl | rfl | rfl <;> simp [dirsL]
      · rw [List.length_map]
        have := List.length_filter_le (fun q : (Str × Tok) × Str => lwCl q.2) L
        have : L.length = 3 := by subst hL; rfl
        omega
  cases hi : w.params.followText "comprehension-iter-twice" with
  | true => exact run_sem (V := lwV2 w x s.toks lo ce fo sg t0 t1 t2 t3 u0 u1 u2 s0 s1 s2 v0 v1 v2 ep sv av rv) (Z := fun r s' => r = .ok .next ∧ Q s') rn rm hsz (k_sct w x s.toks lo ce fo sg t0 t1 t2 t3 u0 u1 u2 s0 s1 s2 v0 v1 v2 ep sv av rv hi) main hz
  | false => exact run_sem (V := lwV2 w x s.toks lo ce fo sg t0 t1 t2 t3 u0 u1 u2 s0 s1 s2 v0 v1 v2 ep sv av rv) (Z := fun r s' => r = .ok .next ∧ Q s') rn rm hsz (k_scf w x s.toks lo ce fo sg t0 t1 t2 t3 u0 u1 u2 s0 s1 s2 v0 v1 v2 ep sv av rv hi) main hz
theorem segD {t0 t1 t2 t3 t4 fo u0 u1 u2 ep : Nat} {xs : Array Value} {av rv gv cv : Value} (rm : Room 300 A 20) (hx : IntL xs.toList) (hs : xs.size ≤ 1000)
    (o : St w h₀ pre s.heap ([(lo + 214, loc [eo w "script" t0 (.ref 213), en w "added" t1 av, en w "rights" t2 rv, en w "signs" t3 gv, en w "closed" t4 cv] 5), (ce + 214, pCell (some (.ref (fo + 214)))),
      (fo + 214, lst [.str (Str.ofString "/a") u0, .str (Str.ofString "/a/b") u1, .str (Str.ofString "/c") u2] 0), (213, lstA xs ep)] ++ rest))
    (hq : ∀ (h' : Heap) (t' t5 t6 pa pe tm : Nat) (md : Str) (pl : List (Str × Tok)), md ∈ modsL → (∀ p ∈ pl, isPth p.1 = true) → 2 ≤ pl.length → pl.length < 64 → St w h₀ pre h' ([(lo + 214, lwF w t0 t1 t2 t3 t4 t5 t6 pa tm (.ref 213) av rv gv cv md), (ce + 214, pCell (some (.ref (fo + 214)))),
      (fo + 214, lst [.str (Str.ofString "/a") u0, .str (Str.ofString "/a/b") u1, .str (Str.ofString "/c") u2] 0), (213, lstA xs ep), (pa + 214, lst (dvals pl) pe)] ++ rest) → Q ⟨h', s.gens, s.drawn, t', s.os⟩) : LwEnds w A s [lwS w 5, lwS w 6] (lwEnv w (lo + 214) (ce + 214)) Q := by
  obtain ⟨x, hsz⟩ := o.x
  have hX : ∀ f ∈ [sSL, sMO, sDI, sSX, sGX], SbOk PR w f := all_cons sSL_ok <| all_cons sMO_ok <| all_cons sDI_ok <| all_cons sSX_ok <| all_cons sGX_ok <| fun f hf => nomatch hf
  have rn := o.own.left.rn (need := 300) sums_nil (dyns_cons (zPC_ok w lo ce fo u0 u1 u2 8 7) (by decide) dyns_nil) hX
  have e7 : (slB xs 3 7).toList = (xs.toList.drop 3).take 4 := slB_eq xs 3 7 (by decide)
  have l7 : (slB xs 3 7).size ≤ 4 := by
    have : (slB xs 3 7).toList.length ≤ 4 := by rw [e7, List.length_take]; omega
    simpa using this
  have ei : ∀ T, (pcIts xs T).toList = (slB xs 3 7).toList ++ [.int 3 (T + 2), .int 1 (T + 3), .int 4 (T + 4), .int 11 (T + 5), .int 8 (T + 6), .int 0 (T + 7)] := fun T => by
    unfold pcIts; rw [Array.toList_append]
  have li : ∀ T, (pcIts xs T).size = (slB xs 3 7).size + 6 := fun T => by unfold pcIts; rw [Array.size_append]; rfl
  have hI : IntsA (pcIts xs s.toks) := by
    refine ⟨fun v hv => ?_, by rw [li]; omega⟩
    rw [ei] at hv
    rcases List.mem_append.mp hv with hv | hv
    · rw [e7] at hv
      exact hx v (List.mem_of_mem_drop (List.mem_of_mem_take hv))
    · simp only [List.mem_cons, List.not_mem_nil, or_false] at hv
      rcases hv with rfl | rfl | rfl | rfl | rfl | rfl <;> exact ⟨_, _, rfl⟩
  have main : ∀ ρ : Stream, (lwV3 w x s.toks lo ce fo t0 t1 t2 t3 t4 u0 u1 u2 xs ep av rv gv cv (endF s [lo + 214, ce + 214, fo + 214, 213] fun r s' => r = .ok .next ∧ Q s') ρ).Holds := fun ρ => by
    have lf : ∀ m : String, Str.ofString m ∈ modsL → ∀ h', End s.heap h' [lo + 214, ce + 214, fo + 214, 213] ((ρ 3).n + 214) [(lo + 214, loc [eo w "script" t0 (.ref 213), en w "added" t1 av, en w "rights" t2 rv, en w "signs" t3 gv, en w "closed" t4 cv, en w "paths" (ρ 4).n (.ref (x + 214 + 5)), en w "module" ((ρ 4).n + 7) (.str (Str.ofString m) ((ρ 4).n + 6))] 7),
      (ce + 214, pCell (some (.ref (fo + 214)))), (fo + 214, lst [.str (Str.ofString "/a") u0, .str (Str.ofString "/a/b") u1, .str (Str.ofString "/c") u2] 0), (213, lstA xs ep), (x + 214 + 5, pcOut xs s.toks ρ)] → Q ⟨h', s.gens, s.drawn, (ρ 4).n + 8, s.os⟩ := fun m hm h' E => by
      refine hq h' _ (ρ 4).n ((ρ 4).n + 7) (x + 5) (ρ 1).n ((ρ 4).n + 6) (Str.ofString m) (tag ((pcIts xs s.toks).toList.flatMap pcG) (gF 0 (drawn 6 ρ))) hm ?_ ?_ ?_ (by
        have := o.step E
        rw [show x + 214 + 5 = x + 5 + 214 by omega] at this
        exact this)
      · refine tag_pth fun p hp => ?_
        rw [flat_pc] at hp
        obtain ⟨v, _, rfl⟩ := List.mem_map.mp hp
        exact pcT_pth _
      · rw [tag_len, flat_pc, List.length_map]
        have := li s.toks
        show 2 ≤ (pcIts xs s.toks).toList.length
        rw [Array.length_toList]; omega
      · rw [tag_len, flat_pc, List.length_map]
        have := li s.toks
        show (pcIts xs s.toks).toList.length < 64
        rw [Array.length_toList]; omega
    unfold lwV3
    refine chain_h ?_ ⟨⟨⟨by omega, by omega, by omega, by omega⟩, hI, ?_⟩, chain_h ?_ ⟨fun _ h' E => ⟨rfl, lf "pkg" (by simp [modsL]) h' E⟩, fun _ h' E => ⟨rfl, lf "m" (by simp [modsL]) h' E⟩⟩⟩
    · rw [li]
      have a1 : decide ((slB xs 3 7).size > 16777216) = false := decide_eq_false (by omega)
      have a2 : decide ((slB xs 3 7).size + 6 > 16777216) = false := decide_eq_false (by omega)
      rw [a1, a2]; rfl
    · have : (pcIts xs s.toks).size ≠ 0 := by rw [li]; omega
      show (pcIts xs s.toks).isEmpty = false
      rw [Array.isEmpty_eq_false_iff]
      intro e
      rw [e] at this
      exact this rfl
    · have a1 : decide ((Nat.cast xs.size : Int) ≥ (2 : Int) ^ 63) = false := decide_eq_false (by omega)
      rw [a1]; rfl
  cases hi : w.params.followText "comprehension-iter-twice" with
  | true => exact run_sem (V := lwV3 w x s.toks lo ce fo t0 t1 t2 t3 t4 u0 u1 u2 xs ep av rv gv cv) (Z := fun r s' => r = .ok .next ∧ Q s') rn rm hsz (k_sdt w x s.toks lo ce fo t0 t1 t2 t3 t4 u0 u1 u2 xs ep av rv gv cv hi) main hz
  | false => exact run_sem (V := lwV3 w x s.toks lo ce fo t0 t1 t2 t3 t4 u0 u1 u2 xs ep av rv gv cv) (Z := fun r s' => r = .ok .next ∧ Q s') rn rm hsz (k_sdf w x s.toks lo ce fo t0 t1 t2 t3 t4 u0 u1 u2 xs ep av rv gv cv hi) main hz
end
end Mine
-- J4
namespace Mine
theorem plA_lst (l : List (Str × Tok)) (e : Nat) : plA (seqA (lst (dvals l) e)) = l := plA_dvals l
theorem lq_self (l : List (Str × Tok)) (e : Nat) : seqA (lst (dvals l) e) = ⟨dvals (plA (seqA (lst (dvals l) e)))⟩ := by rw [plA_lst]; rfl
theorem strs_lst (l : List (Str × Tok)) (e : Nat) : strsA (seqA (lst (dvals l) e)) = l.map (·.1) := strsA_dvals l
theorem tcOk_of {j : Nat} {l : List (Str × Tok)} (h : ∀ p ∈ l, tcOk1 j p.1) (hl : l.length ≤ 1000) : TcOk j ⟨dvals l⟩ := by
  refine ⟨fun v hv => ?_, by rw [dvals_size]; exact hl⟩
  obtain ⟨p, hp, rfl⟩ := List.mem_map.mp (show v ∈ l.map fun d => Value.str d.1 d.2 from hv)
  exact ⟨_, _, rfl, h p hp⟩
theorem ne_empty {l : List (Str × Tok)} (h : l ≠ []) : (Array.mk (dvals l)).isEmpty = false := by
  cases l with
  | nil => exact absurd rfl h
  | cons p l => rfl
theorem is_empty (l : List (Str × Tok)) : (Array.mk (dvals l)).isEmpty = l.isEmpty := by
  cases l <;> rfl
theorem igDl_fst {dl : List (Str × Tok)} {a b c : Nat} (h : dl.length ≤ 3) : (igDl dl [a, b, c]).map (·.1) = dl.map fun d => npOf d.1 := by
  unfold igDl
  rw [List.map_fst_zip]
  simpa using h
theorem mod_ok {md : Str} (h : md ∈ modsL) : okMod md ∧ md.length ≤ 10 ∧ (md.length == 0) = false := by
  have := List.all_eq_true.mp t_md md h
  simp only [Bool.and_eq_true, Bool.not_eq_true', decide_eq_true_eq] at this
  exact ⟨⟨this.1.1, this.1.2⟩, this.2, this.1.1⟩
theorem dir_ok {d : Str} (h : d ∈ dirsL) : npOf d = d ∧ npOf (d ++ Str.ofString "/") = d ∧ isNp d = true ∧ isNp (d ++ Str.ofString "/") = true ∧ okDir d ∧ (d.length == 0) = false ∧ decide ((d ++ Str.ofString "/").length > 16777216) = false := by
  have := List.all_eq_true.mp t_np d h
  simp only [Bool.and_eq_true, Bool.not_eq_true', decide_eq_true_eq] at this
  obtain ⟨⟨⟨⟨⟨h1, h2⟩, h3⟩, h4⟩, h5⟩, h6⟩ := this
  exact ⟨h1, h2, h3, h4, ⟨h5, h6⟩, h5, h6⟩
section
variable {w : World} {md : Str} {tm : Nat} {pl dq : List (Str × Tok)} {pe de pa : Nat} {σ : Stream}
theorem lf_cm (hm : md ∈ modsL) (hp : ∀ p ∈ pl, isPth p.1 = true) (hne : pl ≠ []) (hl : pl.length < 64) (hq : ∀ d ∈ dq, npOf d.1 ∈ dirsL) (hq3 : dq.length ≤ 3) : lfCm w md tm (some md) (pa + 214, (σ 0).n + 214) (lst (dvals pl) pe) (lfIo σ) (lfDt w σ) (lfIg w σ) (lfSo w md tm) (lfDs (lst (dvals dq) de) σ) := by
  refine ⟨⟨Nat.le_add_left _ _, Nat.le_add_left _ _, Nat.le_add_left _ _, Nat.le_add_left _ _, Nat.le_add_left _ _, Nat.le_add_left _ _⟩, lq_self _ _, lq_self _ _, ?_⟩
  unfold lfDs
  rw [plA_lst, plA_lst, plA_lst]
  refine ⟨hne, hp, fun d hd => ?_, ?_, ⟨rfl, (mod_ok hm).1, _, rfl⟩, ⟨⟨_, _, _, rfl⟩, trivial⟩, by show 1 + pl.length ≤ 1000; omega⟩
  · have : d.1 ∈ (igDl dq [(σ 12).n, (σ 13).n, (σ 14).n]).map (·.1) := List.mem_map_of_mem hd
    rw [igDl_fst hq3] at this
    obtain ⟨q, hq', e⟩ := List.mem_map.mp this
    rw [← e]
    exact (dir_ok (hq q hq')).2.2.2.2.1
  · rw [← List.length_map (f := (·.1)), igDl_fst hq3, List.length_map]
    exact hq3
theorem lk_cm {dl : List (Str × Tok)} {cl : Nat} (hm : md ∈ modsL) (hp : ∀ p ∈ pl, isPth p.1 = true) (hne : pl ≠ []) (hl : pl.length < 64) (hd : ∀ d ∈ dl, d.1 ∈ dirsL) (hd3 : dl.length ≤ 3) : lkCm (pa + 214) (cl + 214) md (lst (dvals pl) pe) (lst (dvals dl) de) := by
  refine ⟨⟨Nat.le_add_left _ _, Nat.le_add_left _ _⟩, lq_self _ _, lq_self _ _, ?_⟩
  rw [plA_lst, plA_lst]
  refine ⟨⟨hne, by omega⟩, fun p h => ⟨hp p h, ?_, fun d h' => ?_⟩, ⟨(mod_ok hm).2.1, (mod_ok hm).2.2, hd3, by show dl.isEmpty = !!dl.isEmpty; rw [Bool.not_not]⟩⟩
  · exact of_decide_eq_true (all2 t_pre (pth_mem (hp p h)) hm)
  · have := all2 t_dir (pth_mem (hp p h)) (hd d h')
    rw [Bool.and_eq_true] at this
    exact this.2
theorem folded_is {dl pl' : List (Str × Tok)} {e e' pe' de' : Nat} (hm : md ∈ modsL) (hp : ∀ p ∈ pl, isPth p.1 = true) (hd : ∀ d ∈ dl, d.1 ∈ dirsL) (he : pl.map (·.1) = pl'.map (·.1)) (hq : dq.map (fun d => npOf d.1) = dl.map (·.1)) (hq3 : dq.length ≤ 3) :
    strsA (seqA (lfOut (some md) (lst (dvals pl) pe) (lfDs (lst (dvals dq) de) σ) e)) = strsA (seqA (lkOut md (lst (dvals pl') pe') (lst (dvals dl) de') e')) := by
  unfold lfOut lkOut lfR lfDs
  rw [strs_lst, strs_lst, plA_lst, plA_lst, plA_lst, plA_lst, plA_lst, igDl_fst hq3, hq]
  exact fold_kept hm hd pl pl' kn0 [] he hp rel0
end
section
variable {w : World} {A : Around} {s : Shared} {h₀ : Heap} {pre : List Nat} {rest : List (Nat × Obj)} {lo ce : Nat} {Q : Shared → Prop}
theorem segE {t0 t1 t2 t3 t4 t5 t6 pa tm pe : Nat} {sv av rv gv cv : Value} {md : Str} {pl : List (Str × Tok)} (rm : Room 300 A 20) (hp : ∀ p ∈ pl, isPth p.1 = true) (hne : pl ≠ []) (hl : pl.length < 64)
    (o : St w h₀ pre s.heap ([(lo + 214, lwF w t0 t1 t2 t3 t4 t5 t6 pa tm sv av rv gv cv md), (pa + 214, lst (dvals pl) pe)] ++ rest))
    (hq : ∀ (h' : Heap) (t' : Nat), St w h₀ pre h' ([(lo + 214, lwF w t0 t1 t2 t3 t4 t5 t6 pa tm sv av rv gv cv md), (pa + 214, lst (dvals pl) pe)] ++ rest) → Q ⟨h', s.gens, s.drawn, t', s.os⟩) : LwEnds w A s [lwS w 7] (lwEnv w (lo + 214) (ce + 214)) Q := by
  obtain ⟨x, hsz⟩ := o.x
  have rn := o.own.left.rn (need := 300) (xs := []) sums_nil (dyns_cons (zTC_ok w lo ce 0 true 2 1 (by decide)) (by decide) (dyns_cons (zTC_ok w lo ce 1 true 5 1 (by decide)) (by decide) (dyns_cons (zLQ_ok w true 3 6) (by decide) dyns_nil))) (fun f hf => nomatch hf)
  have ok0 : TcOk 0 ⟨dvals pl⟩ := tcOk_of hp (by omega)
  have ok1 : TcOk 1 ⟨dvals pl⟩ := tcOk_of hp (by omega)
  have main : ∀ ρ : Stream, (lwV4 w x s.toks lo pa t0 t1 t2 t3 t4 t5 t6 sv av rv gv cv md tm pl pe (endF s [lo + 214, pa + 214] fun r s' => r = .ok .next ∧ Q s') ρ).Holds := fun ρ => by
    unfold lwV4
    refine ⟨⟨⟨by omega, by omega, by omega, by omega⟩, ok0, ne_empty hne⟩, chain_h rfl ⟨⟨⟨by omega, by omega, by omega, by omega⟩, ok1, ne_empty hne⟩, chain_h rfl ⟨⟨lq_self _ _, lq_self _ _⟩, chain_h ?_ fun h' E => ⟨rfl, hq h' _ (o.step E)⟩⟩⟩⟩
    have e1 : strsA (seqA (tcO 0 pl ρ)) = strsA (seqA (tcO 1 pl (ρs 6 ρ))) := by
      unfold tcO
      rw [strs_lst, strs_lst, tag_fst, tag_fst]
      have a : (dvals pl).flatMap (tcG 0) = pl.map fun p => mnOf p.1 := flat_one mnOf pl
      have b : (dvals pl).flatMap (tcG 1) = pl.map fun p => nmS p.1 := flat_one nmS pl
      rw [a, b]
      exact List.map_congr_left fun p h => (nm_eq (hp p h)).1
    rw [decide_eq_true e1]; rfl
  cases hi : w.params.followText "comprehension-iter-twice" with
  | true => exact run_sem (V := lwV4 w x s.toks lo pa t0 t1 t2 t3 t4 t5 t6 sv av rv gv cv md tm pl pe) (Z := fun r s' => r = .ok .next ∧ Q s') rn rm hsz (k_set w x s.toks lo ce pa t0 t1 t2 t3 t4 t5 t6 sv av rv gv cv md tm pl pe hi) main hz
  | false => exact run_sem (V := lwV4 w x s.toks lo pa t0 t1 t2 t3 t4 t5 t6 sv av rv gv cv md tm pl pe) (Z := fun r s' => r = .ok .next ∧ Q s') rn rm hsz (k_sef w x s.toks lo ce pa t0 t1 t2 t3 t4 t5 t6 sv av rv gv cv md tm pl pe hi) main hz
theorem segF {t0 t1 t2 t3 t4 t5 t6 pa cl tm pe de : Nat} {sv av rv gv : Value} {md : Str} {pl dl : List (Str × Tok)} (rm : Room 300 A 20) (hm : md ∈ modsL) (hp : ∀ p ∈ pl, isPth p.1 = true) (hne : pl ≠ []) (hl : pl.length < 64) (hd : ∀ d ∈ dl, d.1 ∈ dirsL) (hd3 : dl.length ≤ 3)
    (o : St w h₀ pre s.heap ([(lo + 214, lwF w t0 t1 t2 t3 t4 t5 t6 pa tm sv av rv gv (.ref (cl + 214)) md), (pa + 214, lst (dvals pl) pe), (cl + 214, lst (dvals dl) de), (195, tabObj #[])] ++ rest))
    (hq : ∀ (h' : Heap) (t' : Nat) (K : LK), St w h₀ pre h' ([(lo + 214, lwF w t0 t1 t2 t3 t4 t5 t6 pa tm sv av rv gv (.ref (cl + 214)) md), (pa + 214, lst (dvals pl) pe), (cl + 214, lst (dvals dl) de), (195, tabO (K.co + 214)), (K.co + 214, K.o)] ++ rest) → Q ⟨h', s.gens, s.drawn, t', s.os⟩) : LwEnds w A s [lwS w 8] (lwEnv w (lo + 214) (ce + 214)) Q := by
  obtain ⟨x, hsz⟩ := o.x
  have rn := o.own.left.rn (need := 300) (xs := []) sums_nil (dyns_cons (zIGd_ok w false 4 2) (by decide) (dyns_cons (zLFa_ok w md tm (some md) 1 5 6 7 8 9) (by decide) (dyns_cons (zLK_ok w 1 2) (by decide) (dyns_cons (zLQ_ok w true 11 12) (by decide) dyns_nil)))) (fun f hf => nomatch hf)
  have hnp : ∀ d ∈ dl, npOf d.1 = d.1 := fun d h => (dir_ok (hd d h)).1
  have main : ∀ ρ : Stream, (lwV5 w x s.toks lo pa cl t0 t1 t2 t3 t4 t5 t6 sv av rv gv md tm pl pe dl de (endF s [lo + 214, pa + 214, cl + 214, 195] fun r s' => r = .ok .next ∧ Q s') ρ).Holds := fun ρ => by
    unfold lwV5
    refine ⟨⟨⟨Nat.le_add_left _ _, Nat.le_add_left _ _⟩, lq_self _ _, ?_, ?_⟩, chain_h rfl ⟨lf_cm hm hp hne hl (fun d h => by rw [hnp d h]; exact hd d h) hd3, chain_h rfl ⟨lk_cm hm hp hne hl hd hd3, chain_h rfl ⟨⟨lq_self _ _, lq_self _ _⟩, chain_h ?_ fun h' E => ⟨rfl, hq h' _ _ (o.step E)⟩⟩⟩⟩⟩
    · rw [plA_lst]; exact fun d h => (dir_ok (hd d h)).2.2.1
    · rw [plA_lst]; exact hd3
    · rw [decide_eq_true (folded_is hm hp hd rfl (List.map_congr_left hnp) hd3)]; rfl
  cases hi : w.params.followText "comprehension-iter-twice" with
  | true => exact run_sem (V := lwV5 w x s.toks lo pa cl t0 t1 t2 t3 t4 t5 t6 sv av rv gv md tm pl pe dl de) (Z := fun r s' => r = .ok .next ∧ Q s') rn rm hsz (k_sft w x s.toks lo ce pa cl t0 t1 t2 t3 t4 t5 t6 sv av rv gv md tm pl pe dl de hi) main hz
  | false => exact run_sem (V := lwV5 w x s.toks lo pa cl t0 t1 t2 t3 t4 t5 t6 sv av rv gv md tm pl pe dl de) (Z := fun r s' => r = .ok .next ∧ Q s') rn rm hsz (k_sff w x s.toks lo ce pa cl t0 t1 t2 t3 t4 t5 t6 sv av rv gv md tm pl pe dl de hi) main hz
end
end Mine
-- J5
namespace Mine
theorem dvals_app (a b : List (Str × Tok)) : (Array.mk (dvals a)) ++ (Array.mk (dvals b)) = Array.mk (dvals (a ++ b)) := by
  apply Array.toList_inj.mp
  simp [dvals]
theorem tc2_fst (l : List (Str × Tok)) : (dvals l).flatMap (tcG 2) = (l.map (·.1)).filter isD3 := flat_by 3 l
theorem tc3_fst (l : List (Str × Tok)) : (dvals l).flatMap (tcG 3) = (l.map (·.1)).filter isD2 := flat_by 2 l
theorem tc4_fst (l : List (Str × Tok)) : (dvals l).flatMap (tcG 4) = l.map fun p => p.1 ++ Str.ofString "/" := flat_one (fun p => p ++ Str.ofString "/") l
section
variable {w : World} {A : Around} {s : Shared} {h₀ : Heap} {pre : List Nat} {rest : List (Nat × Obj)} {lo ce : Nat} {Q : Shared → Prop}
theorem segG {t0 t1 t2 t3 t4 t5 t6 pa tm pe : Nat} {sv av rv gv cv : Value} {md : Str} {pl : List (Str × Tok)} (rm : Room 300 A 20) (hp : ∀ p ∈ pl, isPth p.1 = true) (h2 : 2 ≤ pl.length) (hl : pl.length < 64)
    (o : St w h₀ pre s.heap ([(lo + 214, lwF w t0 t1 t2 t3 t4 t5 t6 pa tm sv av rv gv cv md), (pa + 214, lst (dvals pl) pe), (113, tabObj #[])] ++ rest))
    (hq : ∀ (h' : Heap) (t' t7 t8 k dp du e1 e2 : Nat) (dl1 dl2 : List (Str × Tok)), dl1.map (·.1) = dl2.map (·.1) → (∀ p ∈ dl1, isPth p.1 = true) → dl1 ≠ [] → dl1.length < 64 →
      St w h₀ pre h' ([(lo + 214, lwG w t0 t1 t2 t3 t4 t5 t6 t7 t8 pa tm sv av rv gv cv (.ref (dp + 214)) (.ref (du + 214)) md), (pa + 214, lst (dvals pl) pe), (113, kTab (k + 214)), (dp + 214, lst (dvals dl1) e1), (du + 214, lst (dvals dl2) e2)] ++ rest) → Q ⟨h', s.gens, s.drawn, t', s.os⟩) : LwEnds w A s [lwS w 9, lwS w 10] (lwEnv w (lo + 214) (ce + 214)) Q := by
  obtain ⟨x, hsz⟩ := o.x
  have rn := o.own.left.rn (need := 300) (xs := []) (sums_cons (zCKd_ok w) (by decide) sums_nil) (dyns_cons (zSO_ok w 1 3) (by decide) (dyns_cons (zST_ok w 1) (by decide) (dyns_cons (zTC_ok w lo ce 2 true 13 12 (by decide)) (by decide) (dyns_cons (zTC_ok w lo ce 3 true 17 16 (by decide)) (by decide) dyns_nil)))) (fun f hf => nomatch hf)
  have hss : ∀ p ∈ pl.map (·.1), isPth p = true := fun p h => by
    obtain ⟨q, hq, rfl⟩ := List.mem_map.mp h
    exact hp q hq
  have slen : ∀ lt : Str → Str → Bool, (srtB lt (pl.map (·.1))).length = pl.length := fun lt => by rw [(srtB_perm lt _).length_eq, List.length_map]
  have sP : ∀ (lt : Str → Str → Bool) p, p ∈ srtB lt (pl.map (·.1)) → isPth p = true := fun lt p h => hss p ((srtB_perm lt _).mem_iff.mp h)
  have tcd : ∀ (j a li : Nat) (σ : Stream), (∀ p, tcOk1 j p) → 214 ≤ a → 214 ≤ li → tcCd j a li (soO strLt (lst (dvals pl) pe) σ) true := fun j a li σ hj ha hli => by
    have e : seqA (soO strLt (lst (dvals pl) pe) σ) = ⟨dvals (tag (srtB strLt (pl.map (·.1))) (gF 1 (drawn 5 σ)))⟩ := by unfold soO; rw [strs_lst]; rfl
    unfold tcCd
    rw [e]
    refine ⟨⟨ha, by omega, by omega, hli⟩, tcOk_of (fun p _ => hj p.1) (by rw [tag_len, slen]; omega), ?_⟩
    refine ne_empty fun q => ?_
    have := congrArg List.length q
    rw [tag_len, slen] at this
    have this : pl.length = 0 := this
    omega
  have main : ∀ ρ : Stream, (lwV6 w x s.toks lo pa t0 t1 t2 t3 t4 t5 t6 sv av rv gv cv md tm pl pe (endF s [lo + 214, pa + 214, 113] fun r s' => r = .ok .next ∧ Q s') ρ).Holds := fun ρ => by
    have e3 : ∀ σ τ : Stream, seqA (tcD 2 (soO strLt (lst (dvals pl) pe) σ) τ) = ⟨dvals (tag ((srtB strLt (pl.map (·.1))).filter isD3) (gF 0 (drawn 6 τ)))⟩ := fun σ τ => by
      unfold tcD soO
      rw [strs_lst]
      show (⟨dvals (tag ((dvals _).flatMap (tcG 2)) _)⟩ : Array Value) = _
      rw [tc2_fst, tag_fst]
    have e2 : ∀ σ τ : Stream, seqA (tcD 3 (soO strLt (lst (dvals pl) pe) σ) τ) = ⟨dvals (tag ((srtB strLt (pl.map (·.1))).filter isD2) (gF 0 (drawn 6 τ)))⟩ := fun σ τ => by
      unfold tcD soO
      rw [strs_lst]
      show (⟨dvals (tag ((dvals _).flatMap (tcG 3)) _)⟩ : Array Value) = _
      rw [tc3_fst, tag_fst]
    have ed : dueA (lst (dvals pl) pe) ρ = ⟨dvals (tag ((srtB strLt (pl.map (·.1))).filter isD3) (gF 0 (drawn 6 (ρs 12 ρ))) ++ tag ((srtB strLt (pl.map (·.1))).filter isD2) (gF 0 (drawn 6 (ρs 23 ρ))))⟩ := by
      unfold dueA
      rw [e3, e2, dvals_app]
    have es : soO cmpLt (lst (dvals pl) pe) (ρs 2 ρ) = lst (dvals (tag (srtB cmpLt (pl.map (·.1))) (gF 1 (drawn 5 (ρs 2 ρ))))) (ρs 2 ρ 2).n := by unfold soO; rw [strs_lst]
    have ln : 2 ≤ (plA (seqA (lst (dvals pl) pe))).length ∧ (plA (seqA (lst (dvals pl) pe))).length < 64 := by rw [plA_lst]; exact ⟨h2, hl⟩
    unfold lwV6
    refine ⟨trivial, chain_h rfl ⟨⟨⟨_, rfl⟩, lq_self _ _, ln.1, ln.2⟩, chain_h rfl ⟨⟨lq_self _ _, ln.2⟩, chain_h rfl ⟨tcd 2 _ _ _ (fun _ => trivial) (by omega) (by omega), chain_h rfl ⟨⟨lq_self _ _, ln.2⟩, chain_h rfl ⟨tcd 3 _ _ _ (fun _ => trivial) (by omega) (by omega), chain_h ?_ ?_⟩⟩⟩⟩⟩⟩
    · have a1 : decide ((dueA (lst (dvals pl) pe) ρ).size > 16777216) = false := decide_eq_false (by
        rw [ed, dvals_size, List.length_append, tag_len, tag_len]
        have b1 := List.length_filter_le isD3 (srtB strLt (pl.map (·.1)))
        have b2 := List.length_filter_le isD2 (srtB strLt (pl.map (·.1)))
        rw [slen] at b1 b2
        omega)
      rw [a1]; rfl
    · rw [ed, es]
      intro h' E
      refine ⟨rfl, hq h' _ (ρ 6).n (ρ 27).n (ρ 0).n (ρ 2).n (ρ 26).n _ _ _ _ ?_ ?_ ?_ ?_ (o.step E)⟩
      · rw [List.map_append, tag_fst, tag_fst, tag_fst]
        exact deep_due hss
      · exact tag_pth (sP cmpLt)
      · intro q
        have := congrArg List.length q
        rw [tag_len, slen] at this
        have this : pl.length = 0 := this
        omega
      · rw [tag_len, slen]; exact hl
  cases hi : w.params.followText "comprehension-iter-twice" with
  | true => exact run_sem (V := lwV6 w x s.toks lo pa t0 t1 t2 t3 t4 t5 t6 sv av rv gv cv md tm pl pe) (Z := fun r s' => r = .ok .next ∧ Q s') rn rm hsz (k_sgt w x s.toks lo ce pa t0 t1 t2 t3 t4 t5 t6 sv av rv gv cv md tm pl pe hi) main hz
  | false => exact run_sem (V := lwV6 w x s.toks lo pa t0 t1 t2 t3 t4 t5 t6 sv av rv gv cv md tm pl pe) (Z := fun r s' => r = .ok .next ∧ Q s') rn rm hsz (k_sgf w x s.toks lo ce pa t0 t1 t2 t3 t4 t5 t6 sv av rv gv cv md tm pl pe hi) main hz
theorem segH {t0 t1 t2 t3 t4 t5 t6 t7 t8 pa dp du cl tm e1 e2 de : Nat} {sv av rv gv : Value} {K : LK} {md : Str} {dl1 dl2 dl : List (Str × Tok)} (rm : Room 300 A 20) (hm : md ∈ modsL) (he : dl1.map (·.1) = dl2.map (·.1)) (hp : ∀ p ∈ dl1, isPth p.1 = true) (hne : dl1 ≠ []) (hl : dl1.length < 64) (hd : ∀ d ∈ dl, d.1 ∈ dirsL) (hd3 : dl.length ≤ 3)
    (o : St w h₀ pre s.heap ([(lo + 214, lwG w t0 t1 t2 t3 t4 t5 t6 t7 t8 pa tm sv av rv gv (.ref (cl + 214)) (.ref (dp + 214)) (.ref (du + 214)) md), (dp + 214, lst (dvals dl1) e1), (du + 214, lst (dvals dl2) e2), (cl + 214, lst (dvals dl) de), (195, tabO (K.co + 214)), (K.co + 214, K.o)] ++ rest))
    (hq : ∀ (h' : Heap) (t' : Nat), St w h₀ pre h' ([(lo + 214, lwG w t0 t1 t2 t3 t4 t5 t6 t7 t8 pa tm sv av rv gv (.ref (cl + 214)) (.ref (dp + 214)) (.ref (du + 214)) md), (195, tabO (K.co + 214)), (K.co + 214, K.o)] ++ rest) → Q ⟨h', s.gens, s.drawn, t', s.os⟩) : LwEnds w A s [lwS w 11] (lwEnv w (lo + 214) (ce + 214)) Q := by
  obtain ⟨x, hsz⟩ := o.x
  have rn := o.own.left.rn (need := 300) (xs := []) sums_nil (dyns_cons (zLQ_ok w true 1 2) (by decide) (dyns_cons (zTC_ok w lo ce 4 (!dl.isEmpty) 7 3 (by decide)) (by decide) (dyns_cons (zIGd_ok w true 6 8) (by decide) (dyns_cons (zLFb_ok w md tm (some md) K 1 10 11 12 13 14) (by decide) (dyns_cons (zLK_ok w 2 3) (by decide) (dyns_cons (zLQ_ok w true 15 16) (by decide) dyns_nil)))))) (fun f hf => nomatch hf)
  have len : dl2.length = dl1.length := by rw [← List.length_map (f := (·.1)), ← he, List.length_map]
  have hp2 : ∀ p ∈ dl2, isPth p.1 = true := fun p h => by
    have : p.1 ∈ dl1.map (·.1) := by rw [he]; exact List.mem_map_of_mem h
    obtain ⟨q, hq, e⟩ := List.mem_map.mp this
    rw [← e]; exact hp q hq
  have hne2 : dl2 ≠ [] := fun q => hne (List.eq_nil_of_length_eq_zero (by rw [← len, q]; rfl))
  have main : ∀ ρ : Stream, (lwV7 w x s.toks lo pa dp du cl t0 t1 t2 t3 t4 t5 t6 t7 t8 sv av rv gv K md tm dl1 e1 dl2 e2 dl de (!dl.isEmpty) (endF s [lo + 214, dp + 214, du + 214, cl + 214, 195, K.co + 214] fun r s' => r = .ok .next ∧ Q s') ρ).Holds := fun ρ => by
    have eq4 : tcD 4 (lst (dvals dl) de) (ρs 2 ρ) = lst (dvals (tag (dl.map fun p => p.1 ++ Str.ofString "/") (gF 0 (drawn 6 (ρs 2 ρ))))) (ρs 2 ρ 1).n := by
      unfold tcD
      show lst (dvals (tag ((dvals dl).flatMap (tcG 4)) _)) _ = _
      rw [tc4_fst]
    generalize hdq : tag (dl.map fun p => p.1 ++ Str.ofString "/") (gF 0 (drawn 6 (ρs 2 ρ))) = dq at eq4
    have q1 : dq.map (·.1) = dl.map fun p => p.1 ++ Str.ofString "/" := by rw [← hdq, tag_fst]
    have q3 : dq.length ≤ 3 := by rw [← hdq, tag_len, List.length_map]; exact hd3
    have qm : ∀ d ∈ dq, ∃ p ∈ dl, d.1 = p.1 ++ Str.ofString "/" := fun d h => by
      have : d.1 ∈ dq.map (·.1) := List.mem_map_of_mem h
      rw [q1] at this
      obtain ⟨p, hp, e⟩ := List.mem_map.mp this
      exact ⟨p, hp, e.symm⟩
    have qn : dq.map (fun d => npOf d.1) = dl.map (·.1) := by
      have : dq.map (fun d => npOf d.1) = (dq.map (·.1)).map npOf := by rw [List.map_map]; rfl
      rw [this, q1, List.map_map]
      exact List.map_congr_left fun p h => (dir_ok (hd p h)).2.1
    unfold lwV7
    rw [eq4]
    refine ⟨⟨lq_self _ _, lq_self _ _⟩, chain_h ?_ ⟨⟨⟨by omega, by omega, by omega, by omega⟩, tcOk_of (fun p h => ⟨(dir_ok (hd p h)).2.2.2.2.2.1, (dir_ok (hd p h)).2.2.2.2.2.2⟩) (by omega), ?_⟩, chain_h rfl ⟨⟨⟨by show 214 ≤ (ρ 0).n + 214; omega, by show 214 ≤ (ρ 0).n + 214 + 2; omega⟩, lq_self _ _, ?_, ?_⟩, chain_h rfl ⟨lf_cm (σ := ρs 8 ρ) hm hp hne hl (fun d h => ?_) q3, chain_h rfl ⟨lk_cm hm hp2 hne2 (by omega) hd hd3, chain_h rfl ⟨⟨lq_self _ _, lq_self _ _⟩, chain_h ?_ fun h' E => ⟨rfl, hq h' _ (o.step E)⟩⟩⟩⟩⟩⟩⟩
    · rw [strs_lst, strs_lst, decide_eq_true he]; rfl
    · show (Array.mk (dvals dl)).isEmpty = !!dl.isEmpty
      rw [is_empty, Bool.not_not]
    · rw [plA_lst]
      intro d h
      obtain ⟨p, hp, e⟩ := qm d h
      rw [e]
      exact (dir_ok (hd p hp)).2.2.2.1
    · rw [plA_lst]; exact q3
    · obtain ⟨p, hp, e⟩ := qm d h
      rw [e, (dir_ok (hd p hp)).2.1]
      exact hd p hp
    · rw [decide_eq_true (folded_is hm hp hd he qn q3)]; rfl
  cases hi : w.params.followText "comprehension-iter-twice" with
  | true => exact run_sem (V := lwV7 w x s.toks lo pa dp du cl t0 t1 t2 t3 t4 t5 t6 t7 t8 sv av rv gv K md tm dl1 e1 dl2 e2 dl de (!dl.isEmpty)) (Z := fun r s' => r = .ok .next ∧ Q s') rn rm hsz (k_sht w x s.toks lo ce pa dp du cl t0 t1 t2 t3 t4 t5 t6 sv av rv gv t7 t8 K md tm dl1 e1 dl2 e2 dl de (!dl.isEmpty) hi) main hz
  | false => exact run_sem (V := lwV7 w x s.toks lo pa dp du cl t0 t1 t2 t3 t4 t5 t6 t7 t8 sv av rv gv K md tm dl1 e1 dl2 e2 dl de (!dl.isEmpty)) (Z := fun r s' => r = .ok .next ∧ Q s') rn rm hsz (k_shf w x s.toks lo ce pa dp du cl t0 t1 t2 t3 t4 t5 t6 sv av rv gv t7 t8 K md tm dl1 e1 dl2 e2 dl de (!dl.isEmpty) hi) main hz
theorem segI {t0 t1 t2 t3 t4 t5 t6 t7 t8 pa tm pe : Nat} {sv av rv gv cv dv uv : Value} {K : LK} {md : Str} {pl : List (Str × Tok)} (rm : Room 300 A 20) (hp : ∀ p ∈ pl, isPth p.1 = true) (hne : pl ≠ []) (hl : pl.length < 64)
    (o : St w h₀ pre s.heap ([(lo + 214, lwG w t0 t1 t2 t3 t4 t5 t6 t7 t8 pa tm sv av rv gv cv dv uv md), (pa + 214, lst (dvals pl) pe), (195, tabO (K.co + 214)), (K.co + 214, K.o)] ++ rest))
    (hq : ∀ (h' : Heap) (t' : Nat), St w h₀ pre h' ([(lo + 214, lwG w t0 t1 t2 t3 t4 t5 t6 t7 t8 pa tm sv av rv gv cv dv uv md), (195, tabO (K.co + 214))] ++ rest) → Q ⟨h', s.gens, s.drawn, t', s.os⟩) : wpAny (model PR w) A (stX 4 [lwS w 12] (lwEnv w (lo + 214) (ce + 214))) (fun fl s' => fl = .ret (.bool true) ∧ Q s') (fun _ _ => False) s := by
  obtain ⟨x, hsz⟩ := o.x
  have rn := o.own.left.rn (need := 300) (xs := []) (sums_cons (zIEd_ok w) (by decide) sums_nil) (dyns_cons (zLFb_ok w Str.empty 0 none K 1 4 5 6 7 8) (by decide) (dyns_cons (zLQ_ok w false 9 1) (by decide) dyns_nil)) (fun f hf => nomatch hf)
  refine run_sem (V := lwV8 w x s.toks lo pa t0 t1 t2 t3 t4 t5 t6 t7 t8 sv av rv gv cv dv uv K md tm pl pe) (Z := fun r s' => r = .ok (.ret (.bool true)) ∧ Q s') rn rm hsz (k_si w x s.toks lo ce pa t0 t1 t2 t3 t4 t5 t6 sv av rv gv t7 t8 cv dv uv K md tm pl pe) (fun ρ => ?_) (by rintro _ _ ⟨rfl, q⟩; exact ⟨rfl, q⟩)
  unfold lwV8
  have e0 : lst [] 0 = lst (dvals []) 0 := rfl
  refine ⟨trivial, chain_h rfl ⟨⟨⟨Nat.le_add_left _ _, Nat.le_add_left _ _, Nat.le_add_left _ _, Nat.le_add_left _ _, Nat.le_add_left _ _, Nat.le_add_left _ _⟩, lq_self _ _, rfl, ?_⟩, chain_h rfl ⟨⟨lq_self _ _, lq_self _ _⟩, chain_h ?_ fun h' E => ⟨rfl, hq h' _ (o.step E)⟩⟩⟩⟩
  · rw [plA_lst]
    exact ⟨hne, hp, (fun d hd => nomatch hd), Nat.zero_le _, rfl, ⟨⟨_, _, _, rfl⟩, trivial⟩, by show 1 + pl.length ≤ 1000; omega⟩
  · have e1 : strsA (seqA (lfOut none (lst (dvals pl) pe) (lst [] 0) (ρs 12 ρ 3).n)) = strsA (seqA (lst (dvals pl) pe)) := by
      unfold lfOut lfR
      rw [strs_lst, strs_lst, plA_lst]
      exact congrArg (List.map (·.1)) (fold_none0 hp)
    rw [decide_eq_true e1]; rfl
end
end Mine
-- J6
namespace Mine
theorem law_stmts (w : World) : stOf (tpo w 212) = [lwS w 0] ++ ([lwS w 1, lwS w 2, lwS w 3] ++ ([lwS w 4] ++ ([lwS w 5, lwS w 6] ++ ([lwS w 7] ++ ([lwS w 8] ++ ([lwS w 9, lwS w 10] ++ ([lwS w 11] ++ [lwS w 12]))))))) := by kernel_rfl
noncomputable def lwOut (w : World) (lo ce ep : Nat) (xs : Array Value) (fr : Obj) (fo co k : Nat) : List (Nat × Obj) := [(lo + 214, fr), (ce + 214, pCell (some (.ref (fo + 214)))), (213, lstA xs ep), (195, tabO (co + 214)), (113, kTab (k + 214))]
set_option maxHeartbeats 0 in
theorem law_body {w : World} {A : Around} {s : Shared} {pre : List Nat} {lo ce ep t0 : Nat} {xs : Array Value} {R : Result → Shared → Prop} (ha : A.handled = none) (hd : A.depth + 450 < recursionLimit) (hu : A.units + 900 < cLine) (hx : IntL xs.toList) (hs : xs.size ≤ 1000)
    (o : St w s.heap pre s.heap [(lo + 214, loc [eo w "script" t0 (.ref 213)] 1), (ce + 214, pCell none), (213, lstA xs ep), (195, tabObj #[]), (113, tabObj #[])])
    (h : ∀ (h' : Heap) (t' : Nat) (fr : Obj) (fo co k : Nat), St w s.heap pre h' (lwOut w lo ce ep xs fr fo co k) → R (.ok (.ret (.bool true))) ⟨h', s.gens, s.drawn, t', s.os⟩) : codeAny (model PR w) A (.func (stOf (tpo w 212)) (lwEnv w (lo + 214) (ce + 214))) R s := by
  have rm : Room 300 (A.under (.func (stOf (tpo w 212)) (lwEnv w (lo + 214) (ce + 214)))) 20 := room_under rfl (room_of (n := 450) ha hd hu (by omega))
  refine func_any (n := 4) (by have := rm.2.2; omega) ?_
  rw [law_stmts] at rm ⊢
  refine seq (segA rm hx o fun h1 q1 t1 fo ad u0 u1 u2 a b c ta tb tc o1 => ?_)
  refine seq (segB (s := ⟨h1, s.gens, s.drawn, q1, s.os⟩) rm (o1.pick [0, 1, 3, 4, 2, 5, 6] (by decide)) fun h2 q2 t2 t3 ri sg ro m0 m1 m2 v0 v1 v2 g0 g1 g2 o2 => ?_)
  obtain ⟨_, g0⟩ := g0
  obtain ⟨_, g1⟩ := g1
  obtain ⟨_, g2⟩ := g2
  refine seq (segC (s := ⟨h2, s.gens, s.drawn, q2, s.os⟩) rm ⟨g0.c1, g0.c3⟩ ⟨g1.c1, g1.c3⟩ ⟨g2.c1, g2.c3⟩ (o2.pick [0, 1, 2, 4, 5, 6, 7] (by decide)) fun h3 q3 t4 cl de dl hd hd3 o3 => ?_)
  refine seq (segD (s := ⟨h3, s.gens, s.drawn, q3, s.os⟩) rm hx hs (o3.pick [0, 1, 2, 5, 4, 6, 7] (by decide)) fun h4 q4 t5 t6 pa pe tm md pl hm hp hl2 hl o4 => ?_)
  have hne : pl ≠ [] := fun e => by rw [e] at hl2; exact absurd hl2 (by decide)
  refine seq (segE (s := ⟨h4, s.gens, s.drawn, q4, s.os⟩) rm hp hne hl (o4.pick [0, 4, 5, 6, 7, 3, 1] (by decide)) fun h5 q5 o5 => ?_)
  refine seq (segF (s := ⟨h5, s.gens, s.drawn, q5, s.os⟩) rm hm hp hne hl hd hd3 (o5.pick [0, 1, 2, 3, 4, 5, 6] (by decide)) fun h6 q6 K o6 => ?_)
  refine seq (segG (s := ⟨h6, s.gens, s.drawn, q6, s.os⟩) rm hp hl2 hl (o6.pick [0, 1, 5, 2, 3, 4, 6, 7] (by decide)) fun h7 q7 t7 t8 k dp du e1 e2 dl1 dl2 he hp1 hne1 hl1 o7 => ?_)
  refine seq (segH (s := ⟨h7, s.gens, s.drawn, q7, s.os⟩) rm hm he hp1 hne1 hl1 hd hd3 (o7.pick [0, 3, 4, 5, 6, 7, 1, 2, 8, 9] (by decide)) fun h8 q8 o8 => ?_)
  refine wpAny_mono (segI (s := ⟨h8, s.gens, s.drawn, q8, s.os⟩) (Q := fun s' => R (.ok (.ret (.bool true))) s') rm hp hne hl (o8.pick [0, 3, 1, 2, 4, 5, 6] (by decide)) fun h9 q9 o9 => ?_) (fun fl s' z => ⟨_, z.1, z.2⟩) fun _ _ z => z
  exact h h9 q9 _ fo K.co k (o9.pick [0, 4, 3, 1, 2] (by decide))
noncomputable section
noncomputable def zLW (w : World) (lo ce t0 ep : Nat) (xs : Array Value) : Summ where
  code := .func (stOf (tpo w 212)) (lwEnv w (lo + 214) (ce + 214))
  pre := [lo + 214, ce + 214, 213, 195, 113]
  objs := [loc [eo w "script" t0 (.ref 213)] 1, pCell none, lstA xs ep, tabObj #[], tabObj #[]]
  P := IntL xs.toList ∧ xs.size ≤ 1000
  k := 6
  b := true
  F := fun _ ys => ⟨.ok (.ret (.bool true)), [gO 0 ys, pCell (some (.ref (gx 1 ys + 214))), lstA xs ep, tabO (gx 2 ys + 214), kTab (gx 3 ys + 214)], [], gx 4 ys + 214, gx 5 ys⟩
noncomputable def zFu (z : Summ) : Code → Option Summ := fun c => match c with
  | .func .. => some z
  | _ => none
end
theorem zFu_ok {w : World} {z : Summ} {need : Nat} (h : SummOk w z need) : SumOk w (zFu z) need := fun c z' e => by
  cases c <;> first | (cases e; exact h) | cases e
theorem zLW_ok (w : World) (lo ce t0 ep : Nat) (xs : Array Value) : SummOk w (zLW w lo ce t0 ep xs) 450 := by
  intro ⟨hx, hs⟩ A s R ha hd hu hK hL hB hn hat h
  have own : Own w s.heap [(lo + 214, loc [eo w "script" t0 (.ref 213)] 1), (ce + 214, pCell none), (213, lstA xs ep), (195, tabObj #[]), (113, tabObj #[])] := by
    obtain ⟨g1, g2, g3, g4, g5, _⟩ := hat
    refine ⟨⟨hK, hL, hB⟩, fun p hp => ?_, hn⟩
    simp only [List.mem_cons, List.not_mem_nil, or_false] at hp
    rcases hp with rfl | rfl | rfl | rfl | rfl <;> assumption
  refine law_body (pre := [lo + 214, ce + 214, 213, 195, 113]) ha hd hu hx hs ⟨own, fun b o e _ => e, Nat.le_refl _, fun p hp => .inl (List.mem_map_of_mem hp)⟩ fun h' t' fr fo co k o => ?_
  have hB' := o.own.bs.B
  refine h [⟨0, fr, default⟩, dn fo, dn co, dn k, dn (h'.objs.size - 214), dn t'] h' rfl ⟨by show _ = _ - 214 + 214; omega, by show _ ≤ _ - 214 + 214; have := o.ge; omega, o.own.at, (fun y hy => nomatch hy), List.nodup_nil, o.keep⟩
end Mine
-- J7
set_option maxHeartbeats 0
namespace Mine
noncomputable def q_lw (W : World) (w : World) (x T : Nat) (xs : Array Value) (ep : Nat) (F : KF Flow) (ρ : Stream) : VT := (ex ⟨PR, W.params⟩ (mkZ w [zFu (zLW w (x + 0) (x + 1) T ep xs)]) 900).c 14 (.call (.ref 212) ⟨[.ref 213], []⟩) [1, 0, 0, 4, 4, 3, 0, 3, 4, 0, 1, 2, 1, 0, 1, 2] ⟨[213, 195, 113], [lstA xs ep, tabObj #[], tabObj #[]], (x + 214), 0, T, 0, .n, ρ⟩ (leafC F)
noncomputable def v_lw (w : World) (x T : Nat) (xs : Array Value) (ep : Nat) (F : KF Flow) (ρ : Stream) : VT := .claim (zLW w (x + 0) (x + 1) T ep xs).P (chain [(true, true)] (.leaf (F (.ok (.ret (.bool true))) ((ρ 4).n + 214) (ρ 5).n [(213, lstA xs ep), (195, tabO ((ρ 2).n + 214)), (113, kTab ((ρ 3).n + 214))])))
theorem e_lw (w : World) (x T : Nat) (xs : Array Value) (ep : Nat) (F : KF Flow) (ρ : Stream) (b0 : Bool) : EqV (q_lw (w.withFollow "special-get-raises" b0) w x T xs ep F ρ) (v_lw w x T xs ep F ρ) := by unfold EqV; cases b0 <;> kernel_rfl
theorem k_lw (w : World) (x T : Nat) (xs : Array Value) (ep : Nat) (F : KF Flow) (ρ : Stream) : EqV (q_lw w w x T xs ep F ρ) (v_lw w x T xs ep F ρ) := by
  have eE := e_lw w x T xs ep F ρ
  exact row1 (P := fun W => EqV (q_lw W w x T xs ep F ρ) (v_lw w x T xs ep F ρ)) "special-get-raises" eE
theorem law_call {w : World} {A : Around} {s : Shared} {ep : Nat} {xs : Array Value} {R : Result → Shared → Prop} (ha : A.handled = none) (hd : A.depth + 530 < recursionLimit) (hu : A.units + 1100 < cLine) (hx : IntL xs.toList) (hs : xs.size ≤ 1000)
    (b : Bs w s.heap [213, 195, 113]) (hat : At s.heap [213, 195, 113] [lstA xs ep, tabObj #[], tabObj #[]])
    (h : ∀ (h' : Heap) (t' co k : Nat), (∀ b o, s.heap.get? b = some o → b ≠ 195 → b ≠ 113 → h'.get? b = some o) → h'.get? 195 = some (tabO (co + 214)) → h'.get? 113 = some (kTab (k + 214)) → R (.ok (.ret (.bool true))) ⟨h', s.gens, s.drawn, t', s.os⟩) : codeAny (model PR w) A (.call (.ref 212) ⟨[.ref 213], []⟩) R s := by
  obtain ⟨x, hsz⟩ : ∃ x, s.heap.objs.size = x + 214 := ⟨s.heap.objs.size - 214, by have := b.B; omega⟩
  have rn : Rn w (mkZ w [zFu (zLW w (x + 0) (x + 1) s.toks ep xs)]) 450 [213, 195, 113] [lstA xs ep, tabObj #[], tabObj #[]] s := rn_of (sums_cons (zFu_ok (zLW_ok w _ _ _ _ _)) (Nat.le_refl _) sums_nil) b.K b.L b.B b.st hat (by decide)
  refine run_code (dp := 14) (V := v_lw w x s.toks xs ep) rn ⟨ha, by omega, by omega⟩ hsz (k_lw w x s.toks xs ep) fun ρ => ?_
  refine ⟨⟨hx, hs⟩, chain_h rfl ?_⟩
  intro h' E
  obtain ⟨c1, c2, c3, _⟩ := E.toAt
  refine h h' _ _ _ (fun b' o e n1 n2 => ?_) c2 c3
  by_cases hb : b' = 213
  · subst hb
    have e1 := hat.1
    rw [e] at e1
    cases e1
    exact c1
  · exact E.keep b' o e (by simp [hb, n1, n2])
end Mine
-- J8
namespace Mine
theorem kk_213 (P : Params) : (ktop P).get 213 = none := by kernel_rfl
theorem kk_195 (P : Params) : (ktop P).get 195 = some (tabObj #[]) := by kernel_rfl
theorem kk_113 (P : Params) : (ktop P).get 113 = some (tabObj #[]) := by kernel_rfl
noncomputable def codeTab (o : Obj) : Option Nat := match o.cls, o.data with
  | .type t, .fields vs => if t = "code" then (match (vs[11]? : Option Value) with | some (Value.ref b) => some b | _ => none) else none
  | _, _ => none
theorem codeTab_is {h : Heap} {a b : Nat} {o : Obj} (e : h.get? a = some o) (c : codeTab o = some b) : isCodeTable h b := by
  unfold codeTab at c
  split at c
  · rename_i t vs e1 e2
    split at c
    · rename_i ht
      split at c
      · rename_i b' e3
        cases c
        exact ⟨a, o, vs, e, by rw [e1, ht], e2, e3⟩
      · cases c
    · cases c
  · cases c
theorem tab_195 (P : Params) : ((ktop P).get 199).bind codeTab = some 195 := by kernel_rfl
theorem tab_113 (P : Params) : ((ktop P).get 117).bind codeTab = some 113 := by kernel_rfl
theorem law_goal {w : World} {s₁ : Shared} {c : ClaimW} {cl : Str → Option Addr} {mean : ExcName → Option Value} {args : List WData} {vs : List Value} (HT : ∀ a o, (ktop w.params).get a = some o → s₁.heap.get? a = some o) (hnl : s₁.heap.NoLimit) (hsz : s₁.heap.objs.size = 214)
    (hobj : s₁.heap.get? 213 = some { cls := .type "list", data := .seq vs.toArray }) (hI : IntL vs) (hlen : vs.length ≤ 1000) (hg : s₁.gens = #[]) (hr : ∀ cls, c.raises args cls = false) (hp : c.post args (.bool true) args = true) :
    wpAny (model PR w) callerA (PySem.call (.ref 212) [.ref 213]) (fun v s' => GoodWG c cl mean args s₁ (.ok (.ret v)) s') (fun e s' => GoodWG c cl mean args s₁ (.error e) s') s₁ := by
  have h195 := HT _ _ (kk_195 w.params)
  have h113 := HT _ _ (kk_113 w.params)
  have hK : KOk (KK w.params) s₁.heap [213, 195, 113] := by
    intro a o e
    unfold KK at e
    cases h1 : Nat.beq a 113 with
    | true => rw [h1] at e; cases e
    | false =>
      rw [h1] at e
      cases h2 : Nat.beq a 195 with
      | true => rw [h2] at e; cases e
      | false =>
        rw [h2] at e
        have e : (ktop w.params).get a = some o := e
        refine ⟨HT a o e, fun m => ?_⟩
        simp only [List.mem_cons, List.not_mem_nil, or_false] at m
        rcases m with rfl | rfl | rfl
        · rw [kk_213] at e; cases e
        · exact Nat.ne_of_beq_eq_false h2 rfl
        · exact Nat.ne_of_beq_eq_false h1 rfl
  have t195 : isCodeTable s₁.heap 195 := by
    obtain ⟨o, e1, e2⟩ := Option.bind_eq_some_iff.mp (tab_195 w.params)
    exact codeTab_is (HT _ _ e1) e2
  have t113 : isCodeTable s₁.heap 113 := by
    obtain ⟨o, e1, e2⟩ := Option.bind_eq_some_iff.mp (tab_113 w.params)
    exact codeTab_is (HT _ _ e1) e2
  refine enter_call (law_call (ep := 0) (xs := vs.toArray) rfl (by show 1 + 300 + 530 < 1000; decide) (by show 4 + 1100 < 9900; decide) (by simpa using hI) (by simpa using hlen) ⟨hK, hnl, by omega⟩ ⟨hobj, h195, h113, trivial⟩ fun h' t' co k keep k195 k113 => ?_)
  refine ⟨.inl ⟨_, _, [], rfl, hr, ReadsW.bool true, hp, fun _ => ⟨List.nodup_nil, fun _ hm => (nomatch hm)⟩⟩, ⟨fun b o e => ?_, fun b o e => ?_⟩, rfl, ?_⟩
  · by_cases n1 : b = 195
    · subst n1
      rw [h195] at e
      cases e
      exact .inr (.inl ⟨t195, rfl, #[], #[.int 221 0, .int 18 0, .ref (co + 214)], rfl, k195⟩)
    · by_cases n2 : b = 113
      · subst n2
        rw [h113] at e
        cases e
        exact .inr (.inl ⟨t113, rfl, #[], #[.int 124 0, .int 4 0, .ref (k + 214 + 7)], rfl, k113⟩)
      · exact .inl (keep b o e n1 n2)
  · by_cases n1 : b = 195
    · subst n1; exact ⟨_, k195⟩
    · by_cases n2 : b = 113
      · subst n2; exact ⟨_, k113⟩
      · exact ⟨o, keep b o e n1 n2⟩
  · show AllBare s₁.gens
    rw [hg]
    exact AllBare.empty
end Mine
-- J10
set_option maxHeartbeats 0
namespace Mine
noncomputable def zdH (c : Code) : Sem PySem.Fin := match c with
  | .body b env => denote treeTable (.body b env)
  | c => zden c
theorem zdH_eq : denote treeTable = zdH := funext fun c => by
  unfold zdH
  split
  · rfl
  · exact zden_eq _
noncomputable def topQ (p : Program) (w : World) (n₀ : Nat) (ann : Option Value) (n : Nat) (s : SharedT) (t : Thread) : Option SharedT := @Nat.rec (fun _ => SharedT → Thread → Option SharedT) (fun _ _ => none)
  (fun _ ih s t => match through t with
    | true => some s
    | false => match stepOk n₀ ann t with
      | false => none
      | true => match stepT zdH p w s t with
        | some (s', t') => ih s' t'
        | none => none) n s t
theorem topQ_of {p : Program} {w : World} {n₀ : Nat} {ann : Option Value} : ∀ {n : Nat} {s s' : SharedT} {t : Thread}, topQ p w n₀ ann n s t = some s' → topRun treeTable p w n₀ ann n s.abs t = some s'.abs
  | 0, _, _, _, h => by cases h
  | n + 1, s, s', t, h => by
    have h : (match through t with
      | true => some s
      | false => match stepOk n₀ ann t with
        | false => none
        | true => match stepT zdH p w s t with
          | some (s', t') => topQ p w n₀ ann n s' t'
          | none => none) = some s' := h
    unfold topRun
    cases h1 : through t with
    | true => rw [h1] at h; cases h; rfl
    | false =>
      rw [h1] at h
      cases h2 : stepOk n₀ ann t with
      | false => rw [h2] at h; cases h
      | true =>
        rw [h2] at h
        cases h3 : stepT zdH p w s t with
        | none => rw [h3] at h; cases h
        | some q =>
          obtain ⟨s2, t2⟩ := q
          rw [h3] at h
          have e := zdH_eq
          have h4 := stepT_spec h3
          rw [← e] at h4
          show (match step (denote treeTable) p w s.abs t with | .go s' t' => topRun treeTable p w n₀ ann n s' t' | .halt _ _ => none) = _
          rw [h4]
          exact topQ_of h
noncomputable section
noncomputable def PT : Program := PySem.Challenge.pw_nq0110_01
noncomputable def bootL (P : Params) : List Obj := [boot_o_0 P, boot_o_1 P, boot_o_2 P, boot_o_3 P, boot_o_4 P, boot_o_5 P, boot_o_6 P, boot_o_7 P, boot_o_8 P, boot_o_9 P, boot_o_10 P]
noncomputable def bootT (P : Params) : PySem.W.BT := ((bootL P).foldl (fun q o => (q.1.ins q.2 o, q.2 + 1)) (PySem.W.BT.nil, 0)).1
end
theorem boot_abs (P : Params) : absHeap (bootT P) 11 {} = boot_heap P := by kernel_rfl
noncomputable def qT : Program := view PT [47]
noncomputable def asT : List Addr := (List.range 213).filter fun a => !([78, 79, 80, 81, 82, 83, 84, 103, 104].contains a)
noncomputable def hdF (P : Params) : Frag := asT.map fun a => (a, ((ktop P).get a).getD default)
noncomputable def looseT : List Str := [Str.ofString "_wall", Str.ofString "sep", Str.ofString "_kind", Str.ofString "_fspath", Str.ofString "splitext", Str.ofString "_c_path", Str.ofString "_splitroot", Str.ofString "basename", Str.ofString "_normpath", Str.ofString "normpath", Str.ofString "_Ignore", Str.ofString "_modname", Str.ofString "cmp_to_key", Str.ofString "_initial_missing", Str.ofString "reduce", Str.ofString "S_IFMT", Str.ofString "S_IFDIR", Str.ofString "S_IFCHR", Str.ofString "S_IFBLK", Str.ofString "S_IFREG", Str.ofString "S_IFIFO", Str.ofString "S_IFLNK", Str.ofString "S_IFSOCK", Str.ofString "S_ISDIR", Str.ofString "S_ISUID", Str.ofString "S_ISGID", Str.ofString "S_ISVTX", Str.ofString "S_IRUSR", Str.ofString "S_IWUSR", Str.ofString "S_IXUSR", Str.ofString "S_IRGRP", Str.ofString "S_IWGRP", Str.ofString "S_IXGRP", Str.ofString "S_IROTH", Str.ofString "S_IWOTH", Str.ofString "S_IXOTH", Str.ofString "_filemode_table", Str.ofString "filemode", Str.ofString "_law_signs", Str.ofString "_law_kept", Str.ofString "_law_folded", Str.ofString "_law_compared"]
noncomputable def xtT (s : Shared) : Bool := recOk (RowW.records PySem.Challenge.rw_nq0110_01.row.toRowW) s
noncomputable def annT (P : Params) : Option Value := (boot_heap P).nsMap mainGlobals "__annotations__"
noncomputable def s0T (w : World) (os : OsState) : SharedT := ⟨bootT w.params, 11, {}, Array.mk [], boot_drawn, boot_toks, os⟩
noncomputable def okT (w : World) (s : Shared) : Bool := staticsOk (importedModules PT.main.body) (boot_heap w.params) s.heap && namesBound PT s.heap && gensDone s && laidKept (boot_heap w.params) s.heap
theorem look_all (w : World) (os : OsState) : (topQ PT w 11 (annT w.params) 1400 (s0T w os) (topStub PT)).map (fun s => (okT w s.abs, openSeen qT looseT (importedModules PT.main.body) xtT true s.abs, obsZ asT s.abs)) = some (true, openGood qT looseT, valZ hdF 213 491 w) := by kernel_rfl
theorem boot_sizes (w : World) : ((boot_heap w.params).isNs mainGlobals && (Array.mk ([] : List GenState)).size == 0, (boot_heap w.params).objs.size, (boot_heap w.params).nsMap mainGlobals "__annotations__") = (true, 11, annT w.params) := by kernel_rfl
theorem plainT : opening PT = plainProg PT.main.scope.names := by kernel_rfl
theorem left_all : LeftO PT qT looseT xtT (obsZ asT) (valZ hdF 213 491) 2714 := fun w => by
  obtain ⟨⟨h, gs, d, k, os⟩, e, e'⟩ := Option.map_eq_some_iff.mp (boot_open (p := PT) (N := 2714) plainT (by decide) (fun s => by kernel_rfl) w)
  obtain ⟨rfl, rfl, rfl, rfl⟩ : h = boot_heap w.params ∧ gs = Array.mk [] ∧ d = boot_drawn ∧ k = boot_toks := by simpa using e'
  obtain ⟨z1, z2, z3⟩ : _ ∧ _ ∧ _ := by simpa only [Prod.mk.injEq] using boot_sizes w
  obtain ⟨s, e1, e2⟩ := Option.map_eq_some_iff.mp (look_all w os)
  obtain ⟨l1, l2, l3⟩ : _ ∧ _ ∧ _ := by simpa only [Prod.mk.injEq] using e2
  have r := topRun_mono (2714 - 1400) _ _ _ _ (topQ_of e1)
  have es : (s0T w os).abs = ⟨boot_heap w.params, Array.mk [], boot_drawn, boot_toks, os⟩ := by
    show (⟨absHeap (bootT w.params) 11 {}, _, _, _, _⟩ : Shared) = _
    rw [boot_abs]
    rfl
  rw [es] at r
  have t : topFrom treeTable PT w 2714 ⟨boot_heap w.params, Array.mk [], boot_drawn, boot_toks, os⟩ = some s.abs := by
    unfold topFrom
    dsimp only
    rw [z1, z2, z3, r]
    show (match okT w s.abs with | true => _ | false => _) = _
    rw [l1]
  unfold openEnds
  rw [e]
  show (topFrom treeTable PT w 2714 _).map _ = _
  rw [t]
  exact congrArg some (Prod.ext l2 l3)
theorem top_kt (P : Params) : KT.of (hdF P) = ktop P := by kernel_rfl
theorem top_fa (P : Params) : nsIn (hdF P) mainGlobals (Str.ofString "law") = some (some (.ref 212)) := by kernel_rfl
theorem top_as (P : Params) : asT = (hdF P).map (·.1) := by kernel_rfl
theorem ints_l {vs : List Value} {ns : List Int} (h : IntsAre vs ns) : IntL vs ∧ vs.length = ns.length := by
  induction h with
  | nil => exact ⟨fun v hv => (nomatch hv), rfl⟩
  | cons n t _ ih =>
    refine ⟨fun v hv => ?_, by simp [ih.2]⟩
    rcases List.mem_cons.mp hv with rfl | hv
    · exact ⟨_, _, rfl⟩
    · exact ih.1 v hv
theorem kt_go {h h' : Heap} {K : Frag} {t : KT} (e : KT.of K = t) (f : AllIn h K) (k : ∀ b o, h.get? b = some o → h'.get? b = some o) : ∀ a o, t.get a = some o → h'.get? a = some o := by
  subst e
  exact fun a o q => kt_at (KT.Holds.keeps k (PySem.W.X.holds_of f)) q
theorem law_top {w : World} {s₀ s₁ : Shared} {mg : Str → Option Value} {fa : Addr} {args : List WData} {vals : List Value} {as as' : List Addr} (hk : ∀ P, as' = (hdF P).map (·.1)) (y : obsZ as' s₀ = valZ hdF 213 491 w) (hns : s₁.heap.Ns mainGlobals mg) (hnl : s₁.heap.NoLimit)
    (hmg : mg (Str.ofString "law") = some (.ref fa)) (hg : s₁.gens = #[]) (L : Laid PySem.Challenge.rw_nq0110_01.row.records w s₀ s₁ args vals as) (hpre : PySem.Challenge.rw_nq0110_01.row.claim.pre args = true) (hlay : WData.layableAll args = true)
    (hrd : ReadsAllW PySem.Challenge.rw_nq0110_01.row.records (classAt s₀.heap) s₁.heap vals args as) (hwl : WellAll w.params s₁.heap vals args) (hlo : ∀ a ∈ as, (a == sysModules) = false) :
    wpAny (model PR w) callerA (PySem.call (.ref fa) vals) (fun v s' => GoodWG PySem.Challenge.rw_nq0110_01.row.claim (classAt s₀.heap) (ExcName.means s₀.heap) args s₁ (.ok (.ret v)) s') (fun e s' => GoodWG PySem.Challenge.rw_nq0110_01.row.claim (classAt s₀.heap) (ExcName.means s₀.heap) args s₁ (.error e) s') s₁ := by
  obtain ⟨f1, KX, ZN, ZT⟩ := z_facts hk y
  have HT := kt_go (top_kt w.params) f1 L.keeps
  have e212 := mg_of (InK.keeps w s₀.heap s₁.heap KX L.keeps) hns (top_fa w.params)
  rw [hmg] at e212
  have e212 : fa = 212 := by injection e212 with e; injection e
  subst e212
  clear y f1 KX hk hns hmg
  wrow_args hpre hlay hrd hwl hlo
  have hI := ints_l ‹IntsAre _ _›
  have hlt := ‹¬ _ < _›
  obtain ⟨hat, hsz⟩ := script_at L
  rw [ZN] at hat hsz
  subst hat
  have hobj := script_obj L ‹_›
  refine law_goal HT hnl hsz hobj hI.1 (by have := hI.2; omega) hg (fun _ => rfl) (by first | kernel_rfl | wrow_post)

noncomputable def lawT : DefRec := ((defOf qT (Str.ofString "law")).map (·.1)).getD ⟨Str.empty, default, [], default, default⟩
theorem row_holds : PySem.Challenge.rw_nq0110_01.row.wellSaid = true → PySem.Challenge.rw_nq0110_01.row.Holds := fun said => by
  refine holds_openX (q := qT) (loose := looseT) (Xt := xtT) (XP := fun _ _ => True) (Yf := obsZ asT) (Ya := valZ hdF 213 491) (d := lawT) (kwd := []) (N := 2714) left_all (fun _ _ => trivial) (fun _ _ _ _ _ => trivial) (by kernel_rfl) (by kernel_rfl) (by kernel_rfl) (fun s e => recFacts_of e) (by rfl) said (by decide +kernel) ⟨rfl, rfl, rfl, rfl, rfl, by decide +kernel⟩ ?hw ?hc
  case hw => exact ⟨[ofPy (PyData.list [])], by decide +kernel, by decide +kernel⟩
  case hc =>
    intro w s₀ s₁ mg mb G y fa o pm cd doc dV kV ho hdt hcd hD hmg hg args vals as L hpre hlay hrd hwl hlo
    exact law_top top_as y G.T.g G.T.nolimit hmg hg L hpre hlay hrd hwl hlo
end Mine
theorem PySem.Challenge.cw_nq0110_01_holds : PySem.Challenge.rw_nq0110_01.Holds := by
  exact holds_law (by decide +kernel) fun said => Mine.row_holds said
