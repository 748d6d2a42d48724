import PyProof.Rows.All
import Wide.All
import OpenK.AllK
import Wide.FinOn
import PySem.Challenge.RW_rl0159_02
set_option Elab.async false

section
open PySem PySem.W PySem.Calls PyProof.Rows
set_option maxRecDepth 100000
set_option autoImplicit false
set_option linter.unusedVariables false
namespace Mine

/-! heaps -/
def Kp (h h' : Heap) : Prop := ∀ b o, h.get? b = some o → h'.get? b = some o
theorem Kp.refl (h : Heap) : Kp h h := fun _ _ e => e
theorem Kp.trans {h₁ h₂ h₃ : Heap} (x : Kp h₁ h₂) (y : Kp h₂ h₃) : Kp h₁ h₃ := fun b o e => y b o (x b o e)
theorem Kp.push (h : Heap) (o : Obj) : Kp h (h.push o) := fun _ _ e => Heap.get?_push_of_some o e

/-- all kept; frames of F up to their slots -/
def Ext (F : List Addr) (h h' : Heap) : Prop := ∀ b o, h.get? b = some o → (b ∉ F → h'.get? b = some o) ∧ ∃ sl, h'.get? b = some { o with slots := sl }
theorem Kp.ext {F : List Addr} {h h' : Heap} (x : Kp h h') : Ext F h h' := fun b o e => ⟨fun _ => x b o e, o.slots, x b o e⟩
theorem Ext.refl (F : List Addr) (h : Heap) : Ext F h h := (Kp.refl h).ext
theorem Ext.trans {F : List Addr} {h₁ h₂ h₃ : Heap} (x : Ext F h₁ h₂) (y : Ext F h₂ h₃) : Ext F h₁ h₃ := fun b o e => by
  obtain ⟨a, sl, c⟩ := x b o e
  refine ⟨fun hb => (y b o (a hb)).1 hb, ?_⟩
  obtain ⟨_, sl', c'⟩ := y b _ c
  exact ⟨sl', c'⟩
theorem Ext.some {F : List Addr} {h h' : Heap} (x : Ext F h h') {b : Addr} {o : Obj} (e : h.get? b = some o) : ∃ o', h'.get? b = some o' := by
  obtain ⟨_, sl, c⟩ := x b o e; exact ⟨_, c⟩
theorem Ext.none {F : List Addr} {h h' : Heap} (x : Ext F h h') {b : Addr} (e : h'.get? b = none) : h.get? b = none := by
  cases q : h.get? b with
  | none => rfl
  | some o => obtain ⟨o', c⟩ := x.some q; rw [e] at c; cases c
theorem Ext.ns {F : List Addr} {h h' : Heap} (x : Ext F h h') {a : Addr} {m : Str → Option Value} (hn : h.Ns a m) : h'.Ns a m := by
  obtain ⟨o, es, ep, ho, hd, r⟩ := hn
  obtain ⟨_, sl, hs⟩ := x a o ho
  exact ⟨_, es, ep, hs, hd, r⟩
theorem Ext.mono {F F' : List Addr} {h h' : Heap} (x : Ext F h h') (hF : ∀ b ∈ F, b ∈ F') : Ext F' h h' := fun b o e => ⟨fun hb => (x b o e).1 fun q => hb (hF b q), (x b o e).2⟩

/-- all kept but the places of S -/
def But (F : List Addr) (S : Addr → Prop) (h h' : Heap) : Prop := ∀ b o, ¬ S b → h.get? b = some o → (b ∉ F → h'.get? b = some o) ∧ ∃ sl, h'.get? b = some { o with slots := sl }
theorem Ext.but {F : List Addr} {S : Addr → Prop} {h h' : Heap} (x : Ext F h h') : But F S h h' := fun b o _ e => x b o e
theorem But.ext {F : List Addr} {S : Addr → Prop} {h h' : Heap} (x : But F S h h') (hS : ∀ b o, h.get? b = some o → ¬ S b) : Ext F h h' := fun b o e => x b o (hS b o e) e

/-! data in a heap -/
def listO (vs : List Value) (n : Nat) : Obj := { cls := .type "list", data := .seq vs.toArray n }
def tupO (vs : List Value) (n : Nat) : Obj := { cls := .type "tuple", data := .seq vs.toArray n }
def sPair (p : Str × Str) : PyData × PyData := (.str p.1, .str p.2)
def strVal (v : Value) (x : Str) : Prop := ∃ t, v = .str x t
/-- the values of a dict's pairs are these texts -/
inductive PairsAre : List (Str × Value) → List (Str × Str) → Prop
  | nil : PairsAre [] []
  | cons {k : Str} {v : Value} {x : Str} {r : List (Str × Value)} {q : List (Str × Str)} : strVal v x → PairsAre r q → PairsAre ((k, v) :: r) ((k, x) :: q)

mutual
inductive Rd (prog : Program) (w : World) (h : Heap) : Value → PyData → List Addr → Prop
  | none : Rd prog w h .none .none []
  | bool (b) : Rd prog w h (.bool b) (.bool b) []
  | int (i t) : Rd prog w h (.int i t) (.int i) []
  | str (x t) : Rd prog w h (.str x t) (.str x) []
  | list {a vs n xs as} : h.get? a = some (listO vs n) → RdAll prog w h vs xs as → Rd prog w h (.ref a) (.list xs) (a :: as)
  | tuple {a vs n xs as} : h.get? a = some (tupO vs n) → RdAll prog w h vs xs as → Rd prog w h (.ref a) (.tuple xs) as
  | dict {a kvs ps} : h.DictOf (strKind prog w) a kvs → PairsAre kvs ps → (a == sysModules) = false → Rd prog w h (.ref a) (.dict (ps.map sPair)) [a]
inductive RdAll (prog : Program) (w : World) (h : Heap) : List Value → List PyData → List Addr → Prop
  | nil : RdAll prog w h [] [] []
  | cons {v vs d ds as bs} : Rd prog w h v d as → RdAll prog w h vs ds bs → RdAll prog w h (v :: vs) (d :: ds) (as ++ bs)
end

section
variable {prog : Program} {w : World} {h h' : Heap}

theorem dictOf_but {F : List Addr} {S : Addr → Prop} (k : But F S h h') {a : Addr} {kvs : List (Str × Value)} (ha : ¬ S a) (hf : a ∉ F) (x : h.DictOf (strKind prog w) a kvs) : h'.DictOf (strKind prog w) a kvs := by
  obtain ⟨o, es, ep, ho, r⟩ := x
  exact ⟨o, es, ep, (k a o ha ho).1 hf, r⟩

/-- no tuple and no list stands at the places of S -/
def NoSeq (S : Addr → Prop) (h : Heap) : Prop := ∀ b o, S b → h.get? b = some o → ∀ vs n, o ≠ tupO vs n

theorem Rd.ind {M1 : Value → PyData → List Addr → Prop} {M2 : List Value → List PyData → List Addr → Prop} (h0 : M1 .none .none []) (h1 : ∀ b, M1 (.bool b) (.bool b) []) (h2 : ∀ i t, M1 (.int i t) (.int i) []) (h3 : ∀ x t, M1 (.str x t) (.str x) [])
    (h4 : ∀ a vs n xs as, h.get? a = some (listO vs n) → RdAll prog w h vs xs as → M2 vs xs as → M1 (.ref a) (.list xs) (a :: as))
    (h5 : ∀ a vs n xs as, h.get? a = some (tupO vs n) → RdAll prog w h vs xs as → M2 vs xs as → M1 (.ref a) (.tuple xs) as)
    (h6 : ∀ a kvs ps, h.DictOf (strKind prog w) a kvs → PairsAre kvs ps → (a == sysModules) = false → M1 (.ref a) (.dict (ps.map sPair)) [a])
    (h7 : M2 [] [] []) (h8 : ∀ v vs d ds as bs, Rd prog w h v d as → RdAll prog w h vs ds bs → M1 v d as → M2 vs ds bs → M2 (v :: vs) (d :: ds) (as ++ bs)) :
    (∀ {v d as}, Rd prog w h v d as → M1 v d as) ∧ ∀ {vs ds as}, RdAll prog w h vs ds as → M2 vs ds as :=
  ⟨fun r => Rd.rec (motive_1 := fun v d as _ => M1 v d as) (motive_2 := fun vs ds as _ => M2 vs ds as) h0 h1 h2 h3 (fun a b c => h4 _ _ _ _ _ a b c) (fun a b c => h5 _ _ _ _ _ a b c) (fun a b c => h6 _ _ _ a b c) h7 (fun a b c d => h8 _ _ _ _ _ _ a b c d) r,
   fun r => RdAll.rec (motive_1 := fun v d as _ => M1 v d as) (motive_2 := fun vs ds as _ => M2 vs ds as) h0 h1 h2 h3 (fun a b c => h4 _ _ _ _ _ a b c) (fun a b c => h5 _ _ _ _ _ a b c) (fun a b c => h6 _ _ _ a b c) h7 (fun a b c d => h8 _ _ _ _ _ _ a b c d) r⟩
theorem Rd.but2 {F : List Addr} {S : Addr → Prop} (k : But F S h h') (hS : NoSeq S h) (hF : NoSeq (· ∈ F) h) : (∀ {v : Value} {d : PyData} {as : List Addr}, Rd prog w h v d as → (∀ b ∈ as, ¬ S b ∧ b ∉ F) → Rd prog w h' v d as) ∧
    ∀ {vs : List Value} {ds : List PyData} {as : List Addr}, RdAll prog w h vs ds as → (∀ b ∈ as, ¬ S b ∧ b ∉ F) → RdAll prog w h' vs ds as :=
  Rd.ind (M1 := fun v d as => (∀ b ∈ as, ¬ S b ∧ b ∉ F) → Rd prog w h' v d as) (M2 := fun vs ds as => (∀ b ∈ as, ¬ S b ∧ b ∉ F) → RdAll prog w h' vs ds as)
    (fun _ => .none) (fun b _ => .bool b) (fun i t _ => .int i t) (fun x t _ => .str x t)
    (fun a vs n xs as ho _ ih ha => .list ((k _ _ (ha _ (.head _)).1 ho).1 (ha _ (.head _)).2) (ih fun b hb => ha b (.tail _ hb)))
    (fun a vs n xs as ho _ ih ha => .tuple ((k _ _ (fun q => hS _ _ q ho _ _ rfl) ho).1 fun q => hF _ _ q ho _ _ rfl) (ih ha))
    (fun a kvs ps ho r hs ha => .dict (dictOf_but k (ha _ (.head _)).1 (ha _ (.head _)).2 ho) r hs) (fun _ => .nil)
    (fun v vs d ds as bs _ _ i1 i2 ha => .cons (i1 fun b hb => ha b (List.mem_append_left _ hb)) (i2 fun b hb => ha b (List.mem_append_right _ hb)))
theorem Rd.but {F : List Addr} {S : Addr → Prop} (k : But F S h h') (hS : NoSeq S h) (hF : NoSeq (· ∈ F) h) {v : Value} {d : PyData} {as : List Addr} (r : Rd prog w h v d as) (ha : ∀ b ∈ as, ¬ S b ∧ b ∉ F) : Rd prog w h' v d as := (Rd.but2 k hS hF).1 r ha
theorem RdAll.but {F : List Addr} {S : Addr → Prop} (k : But F S h h') (hS : NoSeq S h) (hF : NoSeq (· ∈ F) h) {vs : List Value} {ds : List PyData} {as : List Addr} (r : RdAll prog w h vs ds as) (ha : ∀ b ∈ as, ¬ S b ∧ b ∉ F) : RdAll prog w h' vs ds as := (Rd.but2 k hS hF).2 r ha
theorem Rd.kp2 (k : Kp h h') : (∀ {v : Value} {d : PyData} {as : List Addr}, Rd prog w h v d as → Rd prog w h' v d as) ∧ ∀ {vs : List Value} {ds : List PyData} {as : List Addr}, RdAll prog w h vs ds as → RdAll prog w h' vs ds as :=
  Rd.ind (M1 := fun v d as => Rd prog w h' v d as) (M2 := fun vs ds as => RdAll prog w h' vs ds as) .none .bool .int .str (fun a vs n xs as ho _ ih => .list (k _ _ ho) ih) (fun a vs n xs as ho _ ih => .tuple (k _ _ ho) ih)
    (fun a kvs ps ho r hs => .dict (let ⟨o, es, ep, ho, q⟩ := ho; ⟨o, es, ep, k _ _ ho, q⟩) r hs) .nil (fun v vs d ds as bs _ _ i1 i2 => .cons i1 i2)
theorem Rd.kp (k : Kp h h') {v : Value} {d : PyData} {as : List Addr} (r : Rd prog w h v d as) : Rd prog w h' v d as := (Rd.kp2 k).1 r
theorem RdAll.kp (k : Kp h h') {vs : List Value} {ds : List PyData} {as : List Addr} (r : RdAll prog w h vs ds as) : RdAll prog w h' vs ds as := (Rd.kp2 k).2 r
end
end Mine
end

section
open PySem PySem.W PySem.Calls PyProof.Rows
set_option maxRecDepth 100000
set_option autoImplicit false
set_option linter.unusedVariables false
namespace Mine

section
variable {prog : Program} {w : World} {h h' : Heap}
theorem Rd.here2 : (∀ {v : Value} {d : PyData} {as : List Addr}, Rd prog w h v d as → ∀ b ∈ as, ∃ o, h.get? b = some o) ∧ ∀ {vs : List Value} {ds : List PyData} {as : List Addr}, RdAll prog w h vs ds as → ∀ b ∈ as, ∃ o, h.get? b = some o :=
  Rd.ind (M1 := fun v d as => ∀ b ∈ as, ∃ o, h.get? b = some o) (M2 := fun vs ds as => ∀ b ∈ as, ∃ o, h.get? b = some o) (fun _ hb => nomatch hb) (fun _ _ hb => nomatch hb) (fun _ _ _ hb => nomatch hb) (fun _ _ _ hb => nomatch hb)
    (fun a vs n xs as ho _ ih b hb => (List.mem_cons.mp hb).elim (fun e => ⟨_, e ▸ ho⟩) (ih b)) (fun a vs n xs as ho _ ih => ih)
    (fun a kvs ps ho _ _ b hb => by obtain ⟨o, _, _, ho, _⟩ := ho; exact ⟨o, List.mem_singleton.mp hb ▸ ho⟩) (fun _ hb => nomatch hb)
    (fun v vs d ds as bs _ _ i1 i2 b hb => (List.mem_append.mp hb).elim (i1 b) (i2 b))
theorem Rd.here {v : Value} {d : PyData} {as : List Addr} (r : Rd prog w h v d as) : ∀ b ∈ as, ∃ o, h.get? b = some o := Rd.here2.1 r
theorem RdAll.here {vs : List Value} {ds : List PyData} {as : List Addr} (r : RdAll prog w h vs ds as) : ∀ b ∈ as, ∃ o, h.get? b = some o := Rd.here2.2 r
/-- induction over several values -/
theorem RdAll.ind {M2 : List Value → List PyData → List Addr → Prop} (h7 : M2 [] [] []) (h8 : ∀ v vs d ds as bs, Rd prog w h v d as → RdAll prog w h vs ds bs → M2 vs ds bs → M2 (v :: vs) (d :: ds) (as ++ bs)) {vs : List Value} {ds : List PyData} {as : List Addr}
    (r : RdAll prog w h vs ds as) : M2 vs ds as :=
  (Rd.ind (M1 := fun _ _ _ => True) (M2 := M2) trivial (fun _ => trivial) (fun _ _ => trivial) (fun _ _ => trivial) (fun _ _ _ _ _ _ _ _ => trivial) (fun _ _ _ _ _ _ _ _ => trivial) (fun _ _ _ _ _ _ => trivial) h7 (fun v vs d ds as bs r q _ ih => h8 v vs d ds as bs r q ih)).2 r
theorem RdAll.length {vs : List Value} {ds : List PyData} {as : List Addr} (r : RdAll prog w h vs ds as) : vs.length = ds.length :=
  RdAll.ind (M2 := fun vs ds _ => vs.length = ds.length) rfl (fun _ _ _ _ _ _ _ _ ih => congrArg (· + 1) ih) r
theorem RdAll.append {ws : List Value} {es : List PyData} {bs : List Addr} {vs : List Value} {ds : List PyData} {as : List Addr} (r : RdAll prog w h vs ds as) (r' : RdAll prog w h ws es bs) : RdAll prog w h (vs ++ ws) (ds ++ es) (as ++ bs) :=
  RdAll.ind (M2 := fun vs ds as => RdAll prog w h (vs ++ ws) (ds ++ es) (as ++ bs)) r' (fun _ _ _ _ _ _ r _ ih => by have := RdAll.cons r ih; rwa [← List.append_assoc] at this) r
theorem RdAll.snoc {v : Value} {d : PyData} {bs : List Addr} {vs : List Value} {ds : List PyData} {as : List Addr} (r : RdAll prog w h vs ds as) (r' : Rd prog w h v d bs) : RdAll prog w h (vs ++ [v]) (ds ++ [d]) (as ++ bs) := by
  have := r.append (RdAll.cons r' .nil); rwa [List.append_nil] at this
/-- the item at a place -/
theorem RdAll.get {vs : List Value} {ds : List PyData} {as : List Addr} (r : RdAll prog w h vs ds as) : ∀ {i : Nat} {d : PyData}, ds[i]? = some d → ∃ v bs, vs[i]? = some v ∧ Rd prog w h v d bs ∧ ∀ b ∈ bs, b ∈ as :=
  RdAll.ind (M2 := fun vs ds as => ∀ {i : Nat} {d : PyData}, ds[i]? = some d → ∃ v bs, vs[i]? = some v ∧ Rd prog w h v d bs ∧ ∀ b ∈ bs, b ∈ as) (fun e => nomatch e)
    (fun v vs d ds as bs r q ih i d' e => match i with
      | 0 => ⟨v, as, rfl, Option.some.inj e ▸ r, fun b hb => List.mem_append_left _ hb⟩
      | i + 1 => let ⟨v', bs', e', r', hs⟩ := ih (i := i) e; ⟨v', bs', e', r', fun b hb => List.mem_append_right _ (hs b hb)⟩) r
/-- a part of the items, picked by any list of places -/
theorem RdAll.take_drop (i k : Nat) : ∀ {vs : List Value} {ds : List PyData} {as : List Addr}, RdAll prog w h vs ds as → ∃ bs, RdAll prog w h ((vs.drop i).take k) ((ds.drop i).take k) bs ∧ ∀ b ∈ bs, b ∈ as := by
  have tk : ∀ (k : Nat) {vs : List Value} {ds : List PyData} {as : List Addr}, RdAll prog w h vs ds as → ∃ bs, RdAll prog w h (vs.take k) (ds.take k) bs ∧ ∀ b ∈ bs, b ∈ as := by
    intro k
    induction k with
    | zero => intro vs ds as _; exact ⟨[], by simpa using RdAll.nil, fun _ hb => nomatch hb⟩
    | succ k ih =>
      intro vs ds as r
      cases r with
      | nil => exact ⟨[], by simpa using RdAll.nil, fun _ hb => nomatch hb⟩
      | cons r q =>
        obtain ⟨bs, x, y⟩ := ih q
        exact ⟨_, by simpa using RdAll.cons r x, fun b hb => (List.mem_append.mp hb).elim (fun z => List.mem_append_left _ z) fun z => List.mem_append_right _ (y b z)⟩
  induction i with
  | zero => intro vs ds as r; simpa using tk k r
  | succ i ih =>
    intro vs ds as r
    cases r with
    | nil => exact ⟨[], by simpa using RdAll.nil, fun _ hb => nomatch hb⟩
    | cons r q =>
      obtain ⟨bs, x, y⟩ := ih q
      exact ⟨bs, by simpa using x, fun b hb => List.mem_append_right _ (y b hb)⟩

/-! from my relation to the library's -/
theorem pairs_read {es : List DictEntry} {kvs : List (Str × Value)} {ps : List (Str × Str)} (hp : Pairs (strKind prog w) es kvs) : PairsAre kvs ps →
    (∃ bs, ReadsAll h (es.map (·.key)) ((ps.map sPair).map (·.1)) bs) ∧ ∃ bs, ReadsAll h (es.map (·.val)) ((ps.map sPair).map (·.2)) bs := by
  induction hp generalizing ps with
  | nil => intro q; cases q; exact ⟨⟨_, .nil⟩, ⟨_, .nil⟩⟩
  | @cons e kv es kvs h1 h2 _ ih =>
    intro q
    cases q with
    | cons hx q =>
      obtain ⟨⟨b1, r1⟩, ⟨b2, r2⟩⟩ := ih q
      obtain ⟨t, ht⟩ := Value.isStrOf_shape h1
      obtain ⟨u, hu⟩ := hx
      simp only at ht h2 hu
      refine ⟨⟨[] ++ b1, ?_⟩, ⟨[] ++ b2, ?_⟩⟩
      · show ReadsAll h (e.key :: _) (PyData.str _ :: _) _
        rw [ht]; exact .cons (.str _ _) r1
      · show ReadsAll h (e.val :: _) (PyData.str _ :: _) _
        rw [h2, hu]; exact .cons (.str _ _) r2
theorem Rd.reads {v : Value} {d : PyData} {as : List Addr} (r : Rd prog w h v d as) : ∃ bs, Reads h v d bs :=
  (Rd.ind (M1 := fun v d _ => ∃ bs, Reads h v d bs) (M2 := fun vs ds _ => ∃ bs, ReadsAll h vs ds bs) ⟨_, .none⟩ (fun b => ⟨_, .bool b⟩) (fun i t => ⟨_, .int i t⟩) (fun x t => ⟨_, .str x t⟩)
    (fun a vs n xs as ho _ ih => let ⟨bs, q⟩ := ih; ⟨_, .list ho rfl rfl q⟩) (fun a vs n xs as ho _ ih => let ⟨bs, q⟩ := ih; ⟨_, .tuple ho rfl rfl q⟩)
    (fun a kvs ps ho r _ => by
      obtain ⟨o, es, ep, ho, hx, hd, _, hp, _⟩ := ho
      obtain ⟨⟨b1, r1⟩, ⟨b2, r2⟩⟩ := pairs_read (h := h) hp r
      exact ⟨_, .dict ho hx.1 hd r1 r2⟩)
    ⟨_, .nil⟩ (fun v vs d ds as bs _ _ i1 i2 => let ⟨b1, r1⟩ := i1; let ⟨b2, r2⟩ := i2; ⟨_, .cons r1 r2⟩)).1 r

theorem Rd.str_inv {v : Value} {x : Str} {as : List Addr} (r : Rd prog w h v (.str x) as) : (∃ t, v = .str x t) ∧ as = [] := by cases r; exact ⟨⟨_, rfl⟩, rfl⟩
theorem Rd.int_inv {v : Value} {x : Int} {as : List Addr} (r : Rd prog w h v (.int x) as) : (∃ t, v = .int x t) ∧ as = [] := by cases r; exact ⟨⟨_, rfl⟩, rfl⟩
theorem Rd.bool_inv {v : Value} {x : Bool} {as : List Addr} (r : Rd prog w h v (.bool x) as) : v = .bool x ∧ as = [] := by cases r; exact ⟨rfl, rfl⟩
theorem Rd.none_inv {v : Value} {as : List Addr} (r : Rd prog w h v .none as) : v = .none ∧ as = [] := by cases r; exact ⟨rfl, rfl⟩
theorem Rd.list_inv {v : Value} {xs : List PyData} {as : List Addr} (r : Rd prog w h v (.list xs) as) : ∃ a vs n bs, v = .ref a ∧ as = a :: bs ∧ h.get? a = some (listO vs n) ∧ RdAll prog w h vs xs bs := by
  cases r with | list ho r => exact ⟨_, _, _, _, rfl, rfl, ho, r⟩
theorem Rd.tuple_inv {v : Value} {xs : List PyData} {as : List Addr} (r : Rd prog w h v (.tuple xs) as) : ∃ a vs n, v = .ref a ∧ h.get? a = some (tupO vs n) ∧ RdAll prog w h vs xs as := by
  cases r with | tuple ho r => exact ⟨_, _, _, rfl, ho, r⟩
end

/-! data that hold no list and no dict -/
mutual
def atom : PyData → Bool
  | .list _ | .dict _ => false
  | .tuple xs => atoms xs
  | _ => true
def atoms : List PyData → Bool
  | [] => true
  | d :: ds => atom d && atoms ds
end
section
variable {prog : Program} {w : World} {h : Heap}
theorem Rd.atom2 : (∀ {v : Value} {d : PyData} {as : List Addr}, Rd prog w h v d as → Mine.atom d = true → as = []) ∧ ∀ {vs : List Value} {ds : List PyData} {as : List Addr}, RdAll prog w h vs ds as → Mine.atoms ds = true → as = [] :=
  Rd.ind (M1 := fun v d as => Mine.atom d = true → as = []) (M2 := fun vs ds as => Mine.atoms ds = true → as = []) (fun _ => rfl) (fun _ _ => rfl) (fun _ _ _ => rfl) (fun _ _ _ => rfl)
    (fun a vs n xs as _ _ _ e => nomatch (show false = true from e)) (fun a vs n xs as _ _ ih e => ih e) (fun a kvs ps _ _ _ e => nomatch (show false = true from e)) (fun _ => rfl)
    (fun v vs d ds as bs _ _ i1 i2 e => by
      have e' : Mine.atom d = true ∧ Mine.atoms ds = true := (Bool.and_eq_true _ _).mp e
      rw [i1 e'.1, i2 e'.2]; rfl)
theorem Rd.atom {v : Value} {d : PyData} {as : List Addr} (r : Rd prog w h v d as) (e : Mine.atom d = true) : as = [] := Rd.atom2.1 r e
theorem RdAll.atoms {vs : List Value} {ds : List PyData} {as : List Addr} (r : RdAll prog w h vs ds as) (e : Mine.atoms ds = true) : as = [] := Rd.atom2.2 r e
end
end Mine
end

section
open PySem PySem.W PySem.Calls PyProof.Rows
set_option maxRecDepth 100000
set_option autoImplicit false
set_option linter.unusedVariables false
namespace Mine

structure Wd where
  prog : Program
  w : World
  H0 : Heap
  mg : Str → Option Value
  mb : Str → Option Value

structure Wd.Ok (D : Wd) : Prop where
  g : D.H0.Ns mainGlobals D.mg
  b : D.H0.Ns builtinsNs D.mb
  lim : D.H0.NoLimit
  blt : ∀ x : Str, x ≠ "__name__" → D.mb x = bootBuiltins x
  seer : D.H0.NoSeer
  tree : D.prog.given.tree = none

def framesOf (stk : List Env) : List Addr := stk.filterMap (·.frame)

/-- what holds of a stack's frames in every heap of the call -/
def StkOk (H0 : Heap) (stk : List Env) : Prop := ∀ e ∈ stk, e.scope.kind ≠ .module ∧ ∃ L, e.frame = some L ∧ H0.get? L = none
def FF (F : List Addr) (h : Heap) : Prop := ∀ b ∈ F, ∃ o es n, h.get? b = some o ∧ o.data = .dict es n

theorem FF.ext {F F' : List Addr} {h h' : Heap} (x : FF F h) (k : Ext F' h h') : FF F h' := fun b hb => by
  obtain ⟨o, es, n, ho, hd⟩ := x b hb
  obtain ⟨_, sl, hs⟩ := k b o ho
  exact ⟨_, es, n, hs, hd⟩
theorem FF.noSeq {F : List Addr} {h : Heap} (x : FF F h) : NoSeq (· ∈ F) h := fun b o hb ho vs n q => by
  obtain ⟨o', es, k, ho', hd⟩ := x b hb
  rw [ho] at ho'; cases ho'; rw [q] at hd; cases hd

/-- one activation: a def's body, or a comprehension within one -/
structure Act where
  D : Wd
  A : Around
  env : Env
  stk : List Env
  H1 : Heap
  args : List Addr
  n : Nat
  pinN : Option Str := none
  pinB : Addr := 0

def Act.F (a : Act) : List Addr := framesOf a.stk
abbrev Act.L (a : Act) : Addr := a.env.locals
abbrev Act.M (a : Act) : Model := model a.D.prog a.D.w
def Act.fine (a : Act) (b : Addr) : Prop := a.H1.get? b = none ∨ b ∈ a.args

structure Act.Ok (a : Act) : Prop where
  D : a.D.Ok
  frames : a.A.frames = some a.stk
  stk : StkOk a.D.H0 a.stk
  hd : a.A.handled = none
  depth : a.A.depth + a.n < 900
  units : a.A.units + 10 * a.n < 9000
  kind : a.env.scope.kind = .function
  glob : a.env.globals = mainGlobals
  blt : a.env.builtins = builtinsNs
  seer : ∀ hh, Kp a.D.H0 hh → SeerAt a.M a.A hh

structure Slot where
  d : PyData
  own : Bool
abbrev Ro := List (Str × Slot)

def isMut : PyData → Bool
  | .list _ | .dict _ => true
  | _ => false

structure Sat (a : Act) (ρ : Ro) (m : Str → Option Value) (fp : Str → List Addr) (g h : Heap) : Prop where
  top : Kp a.D.H0 h
  dom : ∀ b o, a.H1.get? b = some o → ∃ o', h.get? b = some o'
  gx : Ext a.F g h
  lnew : a.D.H0.get? a.L = none
  lg : g.get? a.L = none
  ns : h.Ns a.L m
  ff : FF a.F h
  var : ∀ x sl, ρ.lookup x = some sl → ∃ v, m x = some v ∧ Rd a.D.prog a.D.w h v sl.d (fp x)
  fpok : ∀ x sl, ρ.lookup x = some sl → ∀ b ∈ fp x, b ≠ a.L ∧ b ∉ a.F ∧ a.fine b
  own : ∀ x sl, ρ.lookup x = some sl → sl.own = true → ∃ b r, fp x = b :: r ∧ m x = some (.ref b) ∧ isMut sl.d = true ∧ g.get? b = none ∧ a.D.H0.get? b = none ∧ b ∉ r ∧
    ∀ y sl', y ≠ x → ρ.lookup y = some sl' → b ∉ fp y
  pin : ∀ x, a.pinN = some x → m x = some (.ref a.pinB)

theorem pin_ne {x y : Str} (h : (x == y) = false) : (some x : Option Str) ≠ some y := fun q => by cases q; simp at h

structure Fo (a : Act) (ρ : Ro) (fp : Str → List Addr) (h0 : Heap) (f : Nat) (as : List Addr) : Prop where
  ok : ∀ b ∈ as, b ≠ a.L ∧ b ∉ a.F ∧ a.fine b
  tl : ∀ x sl b r, ρ.lookup x = some sl → sl.own = true → fp x = b :: r → b ∉ as.tail
  cl : ∀ x sl b r, ρ.lookup x = some sl → sl.own = true → fp x = b :: r → 1 ≤ f → b ∉ as
  fr : 2 ≤ f → ∀ b ∈ as, h0.get? b = none

theorem Fo.nil {a : Act} {ρ : Ro} {fp : Str → List Addr} {h0 : Heap} (f : Nat) : Fo a ρ fp h0 f [] :=
  ⟨fun _ hb => (nomatch hb), fun _ _ _ _ _ _ _ hb => (nomatch hb), fun _ _ _ _ _ _ _ _ hb => (nomatch hb), fun _ _ hb => (nomatch hb)⟩
theorem Fo.le {a : Act} {ρ : Ro} {fp : Str → List Addr} {h0 : Heap} {f f' : Nat} {as : List Addr} (x : Fo a ρ fp h0 f as) (h : f' ≤ f) : Fo a ρ fp h0 f' as :=
  ⟨x.ok, x.tl, fun y sl b r p q e k => x.cl y sl b r p q e (Nat.le_trans k h), fun k => x.fr (Nat.le_trans k h)⟩
/-- fewer places -/
theorem Fo.sub {a : Act} {ρ : Ro} {fp : Str → List Addr} {h0 : Heap} {f : Nat} {as bs : List Addr} (x : Fo a ρ fp h0 f as) (hf : 1 ≤ f) (h : ∀ b ∈ bs, b ∈ as) : Fo a ρ fp h0 f bs :=
  ⟨fun b hb => x.ok b (h b hb), fun y sl b r p q e k => x.cl y sl b r p q e hf (h b (List.mem_of_mem_tail k)), fun y sl b r p q e _ k => x.cl y sl b r p q e hf (h b k), fun k b hb => x.fr k b (h b hb)⟩
theorem Fo.tail {a : Act} {ρ : Ro} {fp : Str → List Addr} {h0 : Heap} {f : Nat} {as bs : List Addr} (x : Fo a ρ fp h0 f as) (h : ∀ b ∈ bs, b ∈ as.tail) : Fo a ρ fp h0 1 bs :=
  ⟨fun b hb => x.ok b (List.mem_of_mem_tail (h b hb)), fun y sl b r p q e k => x.tl y sl b r p q e (h b (List.mem_of_mem_tail k)), fun y sl b r p q e _ k => x.tl y sl b r p q e (h b k), fun k => absurd k (by decide)⟩
theorem Fo.earlier {a : Act} {ρ : Ro} {fp : Str → List Addr} {F : List Addr} {h0 h1 : Heap} {f : Nat} {as : List Addr} (x : Fo a ρ fp h1 f as) (k : Ext F h0 h1) : Fo a ρ fp h0 f as :=
  ⟨x.ok, x.tl, x.cl, fun q b hb => k.none (x.fr q b hb)⟩

section
variable {a : Act} {ρ : Ro} {m : Str → Option Value} {fp : Str → List Addr} {g h h' : Heap}

theorem framesOf_new {H0 : Heap} {stk : List Env} (x : StkOk H0 stk) : ∀ b ∈ framesOf stk, H0.get? b = none := fun b hb => by
  obtain ⟨e, he, hf⟩ := List.mem_filterMap.mp hb
  obtain ⟨_, L, hL, hn⟩ := x e he
  rw [hL] at hf; cases hf; exact hn
theorem kp_of_ext {H0 : Heap} {stk : List Env} (x : StkOk H0 stk) (k : Kp H0 h) (e : Ext (framesOf stk) h h') : Kp H0 h' := fun b o hb =>
  (e b o (k b o hb)).1 fun q => by rw [framesOf_new x b q] at hb; cases hb

theorem FunFrames_of {H0 : Heap} {stk : List Env} (x : StkOk H0 stk) (f : FF (framesOf stk) h) : h.FunFrames H0 stk := by
  induction stk with
  | nil => trivial
  | cons e stk ih =>
    obtain ⟨hk, L, hL, hn⟩ := x e (.head _)
    obtain ⟨o, es, n, ho, hd⟩ := f L (List.mem_filterMap.mpr ⟨e, .head _, hL⟩)
    refine ⟨hk, ⟨L, o, hL, hn, ho, fun vs q => by rw [hd] at q; cases q⟩, ih (fun e he => x e (.tail _ he)) fun b hb => f b ?_⟩
    obtain ⟨e', he', hf⟩ := List.mem_filterMap.mp hb
    exact List.mem_filterMap.mpr ⟨e', .tail _ he', hf⟩

theorem Rd.ext {prog : Program} {w : World} {F : List Addr} (k : Ext F h h') (ff : FF F h) {v : Value} {d : PyData} {as : List Addr} (r : Rd prog w h v d as) (ha : ∀ b ∈ as, b ∉ F) : Rd prog w h' v d as :=
  r.but (S := fun _ => False) k.but (fun _ _ q => q.elim) ff.noSeq fun b hb => ⟨id, ha b hb⟩
theorem RdAll.ext {prog : Program} {w : World} {F : List Addr} (k : Ext F h h') (ff : FF F h) {v : List Value} {d : List PyData} {as : List Addr} (r : RdAll prog w h v d as) (ha : ∀ b ∈ as, b ∉ F) : RdAll prog w h' v d as :=
  r.but (S := fun _ => False) k.but (fun _ _ q => q.elim) ff.noSeq fun b hb => ⟨id, ha b hb⟩

theorem Sat.ext (O : a.Ok) (x : Sat a ρ m fp g h) (k : Ext a.F h h') : Sat a ρ m fp g h' where
  top := kp_of_ext O.stk x.top k
  dom := fun b o e => by obtain ⟨o', e'⟩ := x.dom b o e; exact k.some e'
  gx := x.gx.trans k
  lnew := x.lnew
  lg := x.lg
  ns := k.ns x.ns
  ff := x.ff.ext k
  var := fun y sl e => by
    obtain ⟨v, hv, r⟩ := x.var y sl e
    exact ⟨v, hv, r.ext k x.ff fun b hb => (x.fpok y sl e b hb).2.1⟩
  fpok := x.fpok
  own := x.own
  pin := x.pin

/-- a new place is fine -/
theorem Sat.newFine (x : Sat a ρ m fp g h) {b : Addr} (hb : h.get? b = none) : b ≠ a.L ∧ b ∉ a.F ∧ a.fine b := by
  refine ⟨fun q => ?_, fun q => ?_, .inl ?_⟩
  · obtain ⟨o, _, _, ho, _⟩ := x.ns; rw [← q, hb] at ho; cases ho
  · obtain ⟨o, _, _, ho, _⟩ := x.ff b q; rw [hb] at ho; cases ho
  · cases q : a.H1.get? b with
    | none => rfl
    | some o => obtain ⟨o', e'⟩ := x.dom b o q; rw [hb] at e'; cases e'
theorem Sat.newClean (x : Sat a ρ m fp g h) {b : Addr} (hb : h.get? b = none) {y : Str} {sl : Slot} {c : Addr} {r : List Addr} (e : ρ.lookup y = some sl) (q : fp y = c :: r) : c ≠ b := fun z => by
  obtain ⟨v, _, rd⟩ := x.var y sl e
  obtain ⟨o, ho⟩ := rd.here c (by rw [q]; exact .head _)
  rw [z, hb] at ho; cases ho

theorem Fo.new (x : Sat a ρ m fp g h) {b : Addr} (hb : h.get? b = none) {as : List Addr} {h0 : Heap} {F : List Addr} (k : Ext F h0 h) {f : Nat} (hf : 1 ≤ f) (q : Fo a ρ fp h0 f as) : Fo a ρ fp h0 f (b :: as) where
  ok := fun c hc => by
    rcases List.mem_cons.mp hc with rfl | hc
    · exact x.newFine hb
    · exact q.ok c hc
  tl := fun y sl c r e o z hc => q.cl y sl c r e o z hf hc
  cl := fun y sl c r e o z _ hc => by
    rcases List.mem_cons.mp hc with rfl | hc
    · exact x.newClean hb e z rfl
    · exact q.cl y sl c r e o z hf hc
  fr := fun k2 c hc => by
    rcases List.mem_cons.mp hc with rfl | hc
    · exact k.none hb
    · exact q.fr k2 c hc
end

structure Res (a : Act) (ρ : Ro) (m : Str → Option Value) (fp : Str → List Addr) (g h0 : Heap) (v : Value) (d : PyData) (f : Nat) (as : List Addr) (h : Heap) : Prop where
  sat : Sat a ρ m fp g h
  ext : Ext a.F h0 h
  rd : Rd a.D.prog a.D.w h v d as
  fo : Fo a ρ fp h0 f as

/-- running t gives a datum (and how new it is) of which P holds; no kept thing is changed -/
def Run (a : Act) (E : Value → Shared → Prop) (ρ : Ro) (t : Sem Value) (P : PyData → Nat → Prop) : Prop :=
  ∀ m fp g (s : Shared) (Q : Value → Shared → Prop), Sat a ρ m fp g s.heap →
    (∀ v d f as h tk, Res a ρ m fp g s.heap v d f as h → P d f → Q v { s with heap := h, toks := tk }) → wpAny a.M a.A t Q E s
abbrev Ev (a : Act) (E : Value → Shared → Prop) (ρ : Ro) (e : Expr) (P : PyData → Nat → Prop) : Prop := Run a E ρ (eval e a.env) P

/-- a truth -/
def RunB (a : Act) (E : Value → Shared → Prop) (ρ : Ro) (t : Sem Bool) (P : Bool → Prop) : Prop :=
  ∀ m fp g (s : Shared) (Q : Bool → Shared → Prop), Sat a ρ m fp g s.heap →
    (∀ b h tk, Sat a ρ m fp g h → Ext a.F s.heap h → P b → Q b { s with heap := h, toks := tk }) → wpAny a.M a.A t Q E s
abbrev EvT (a : Act) (E : Value → Shared → Prop) (ρ : Ro) (e : Expr) (P : Bool → Prop) : Prop := RunB a E ρ (isTrue e a.env (eval e a.env)) P

/-- several values -/
structure ResL (a : Act) (ρ : Ro) (m : Str → Option Value) (fp : Str → List Addr) (g h0 : Heap) (vs : List Value) (ds : List PyData) (f : Nat) (as : List Addr) (h : Heap) : Prop where
  sat : Sat a ρ m fp g h
  ext : Ext a.F h0 h
  rd : RdAll a.D.prog a.D.w h vs ds as
  ok : ∀ b ∈ as, b ≠ a.L ∧ b ∉ a.F ∧ a.fine b
  fo : 1 ≤ f → Fo a ρ fp h0 f as
def RunL (a : Act) (E : Value → Shared → Prop) (ρ : Ro) (t : Sem (List Value)) (P : List PyData → Nat → Prop) : Prop :=
  ∀ m fp g (s : Shared) (Q : List Value → Shared → Prop), Sat a ρ m fp g s.heap →
    (∀ vs ds f as h tk, ResL a ρ m fp g s.heap vs ds f as h → P ds f → Q vs { s with heap := h, toks := tk }) → wpAny a.M a.A t Q E s
abbrev EvL (a : Act) (E : Value → Shared → Prop) (ρ : Ro) (es : List Expr) (pos : Pos) (P : List PyData → Nat → Prop) : Prop := RunL a E ρ (spliced (backTo pos (starEach es a.env))) P

section
variable {a : Act} {E : Value → Shared → Prop} {ρ : Ro} {P : PyData → Nat → Prop}

theorem Run.mono {t : Sem Value} {P' : PyData → Nat → Prop} (x : Run a E ρ t P) (h : ∀ d f, P d f → P' d f) : Run a E ρ t P' :=
  fun m fp g s Q hs k => x m fp g s Q hs fun v d f as h' tk r p => k v d f as h' tk r (h d f p)
theorem RunB.mono {t : Sem Bool} {P P' : Bool → Prop} (x : RunB a E ρ t P) (h : ∀ b, P b → P' b) : RunB a E ρ t P' :=
  fun m fp g s Q hs k => x m fp g s Q hs fun b h' tk r e p => k b h' tk r e (h b p)

/-- the value itself, nothing run -/
theorem Res.val {m : Str → Option Value} {fp : Str → List Addr} {g h : Heap} {v : Value} {d : PyData} (x : Sat a ρ m fp g h) (r : Rd a.D.prog a.D.w h v d []) (f : Nat := 2) : Res a ρ m fp g h v d f [] h :=
  ⟨x, Ext.refl _ _, r, Fo.nil f⟩

theorem Ev.str {x : Str} {k : Nat} {pos : Pos} (h : P (.str x) 2) : Ev a E ρ (.Constant (.str x) k pos) P :=
  fun _ _ _ _ _ hs K => wpAny_Constant_str (K _ _ _ _ _ _ (Res.val hs (.str _ _)) h)
theorem Ev.int {i : Int} {k : Nat} {pos : Pos} (h : P (.int i) 2) : Ev a E ρ (.Constant (.int i) k pos) P :=
  fun _ _ _ _ _ hs K => wpAny_Constant_int (K _ _ _ _ _ _ (Res.val hs (.int _ _)) h)
theorem Ev.bool {b : Bool} {k : Nat} {pos : Pos} (h : P (.bool b) 2) : Ev a E ρ (.Constant (.bool b) k pos) P :=
  fun _ _ _ s _ hs K => wpAny_Constant_bool (K _ _ _ _ _ s.toks (Res.val hs (.bool _)) h)

/-- a name of the frame -/
theorem Ev.name (O : a.Ok) {x : Str} {pos : Pos} {d : PyData} {o : Bool} (hx : ρ.lookup x = some ⟨d, o⟩) (h : P d (if o then 0 else 1))
    (hl : a.env.kindOf x = some .local := by rfl) (hd : (x == ("__debug__" : Str)) = false := by decide) : Ev a E ρ (.Name x pos) P := by
  intro m fp g s Q hs K
  obtain ⟨v, hv, r⟩ := hs.var x _ hx
  refine wpAny_Name (wpAny_loadName_local O.kind hl hs.ns hv (K v d _ (fp x) s.heap s.toks ⟨hs, Ext.refl _ _, r, ?_⟩ h)) hd
  refine ⟨hs.fpok x _ hx, fun y sl b q e o' z hb => ?_, fun y sl b q e o' z k hb => ?_, fun k => ?_⟩
  · by_cases hy : x = y
    · subst hy
      obtain ⟨b', r', e1, _, _, _, _, e2, _⟩ := hs.own x sl e o'
      rw [z] at e1; cases e1
      rw [z] at hb; exact e2 hb
    · obtain ⟨b', r', e1, _, _, _, _, _, e2⟩ := hs.own y sl e o'
      rw [z] at e1; cases e1
      exact e2 x _ hy hx (List.mem_of_mem_tail hb)
  · by_cases hy : x = y
    · subst hy
      rw [hx] at e; cases e
      simp only at o'; subst o'
      simp at k
    · obtain ⟨b', r', e1, _, _, _, _, _, e2⟩ := hs.own y sl e o'
      rw [z] at e1; cases e1
      exact e2 x _ hy hx hb
  · exfalso; cases o <;> simp at k

/-- one after the other, the first value still readable -/
theorem Res.later (O : a.Ok) {m : Str → Option Value} {fp : Str → List Addr} {g h0 h1 h2 : Heap} {v : Value} {d : PyData} {f : Nat} {as : List Addr} (r : Res a ρ m fp g h0 v d f as h1) (k : Ext a.F h1 h2) : Res a ρ m fp g h0 v d f as h2 :=
  ⟨r.sat.ext O k, r.ext.trans k, r.rd.ext k r.sat.ff fun b hb => (r.fo.ok b hb).2.1, r.fo⟩
theorem Res.from {m : Str → Option Value} {fp : Str → List Addr} {g h0 h1 h2 : Heap} {v : Value} {d : PyData} {f : Nat} {as : List Addr} (r : Res a ρ m fp g h1 v d f as h2) (k : Ext a.F h0 h1) : Res a ρ m fp g h0 v d f as h2 :=
  ⟨r.sat, k.trans r.ext, r.rd, r.fo.earlier k⟩

theorem EvL.nil {pos : Pos} {P : List PyData → Nat → Prop} (h : P [] 2) : EvL a E ρ [] pos P :=
  fun _ _ _ s _ hs K => wpAny_items_nil (K _ _ _ [] _ s.toks ⟨hs, Ext.refl _ _, .nil, (fun _ hb => nomatch hb), fun _ => Fo.nil _⟩ h)
theorem EvL.cons (O : a.Ok) {e : Expr} {rest : List Expr} {pos : Pos} {P : List PyData → Nat → Prop}
    (h : Ev a E ρ e fun d f => EvL a E ρ rest pos fun ds f' => P (d :: ds) (min f f'))
    (he : starEach (e :: rest) a.env = (false, eval e a.env) :: starEach rest a.env := by rfl) : EvL a E ρ (e :: rest) pos P := by
  intro m fp g s Q hs K
  refine wpAny_items_cons (h m fp g s _ hs fun v d f as h1 tk r p => ?_) he
  refine p m fp g _ _ r.sat fun vs ds f' bs h2 tk2 r2 p2 => ?_
  have r' := r.later O r2.ext
  refine K _ _ _ _ _ _ ⟨r2.sat, r'.ext, .cons r'.rd r2.rd, fun b hb => (List.mem_append.mp hb).elim (r'.fo.ok b) (r2.ok b), fun k => ?_⟩ p2
  have k1 : 1 ≤ f := Nat.le_trans k (Nat.min_le_left _ _)
  have k2 : 1 ≤ f' := Nat.le_trans k (Nat.min_le_right _ _)
  have F2 := (r2.fo k2).earlier r.ext
  refine ⟨fun b hb => (List.mem_append.mp hb).elim (r'.fo.ok b) (r2.ok b), fun y sl b q e o z hb => ?_, fun y sl b q e o z _ hb => ?_, fun k b hb => ?_⟩
  · exact (List.mem_append.mp (List.mem_of_mem_tail hb)).elim (r'.fo.cl y sl b q e o z k1) (F2.cl y sl b q e o z k2)
  · exact (List.mem_append.mp hb).elim (r'.fo.cl y sl b q e o z k1) (F2.cl y sl b q e o z k2)
  · exact (List.mem_append.mp hb).elim (r'.fo.fr (Nat.le_trans k (Nat.min_le_left _ _)) b) (F2.fr (Nat.le_trans k (Nat.min_le_right _ _)) b)

theorem get_push_self (h : Heap) (o : Obj) (ho : o.isFreed = false := by rfl) : (h.push o).get? h.objs.size = some o := Heap.get?_push_size h ho
theorem get_size_none (h : Heap) : h.get? h.objs.size = none := by
  cases q : h.get? h.objs.size with
  | none => rfl
  | some o => exact absurd (Heap.lt_size q) (Nat.lt_irrefl _)

theorem Ev.tuple (O : a.Ok) {elts : List Expr} {k : Nat} {pos : Pos} (h : EvL a E ρ elts pos fun ds f => 1 ≤ f ∧ ds.length ≤ sizeLine ∧ P (.tuple ds) f) : Ev a E ρ (.Tuple elts k pos) P := by
  intro m fp g s Q hs K
  refine wpAny_Tuple (h m fp g s _ hs fun vs ds f as h1 tk r p => ?_)
  obtain ⟨hf, hl, p⟩ := p
  have kp : Kp h1 (h1.push (tupO vs 0)) := Kp.push _ _
  refine ⟨by rw [r.rd.length]; exact hl, K _ _ _ as _ _ ⟨r.sat.ext O kp.ext, r.ext.trans kp.ext, .tuple (get_push_self _ _) (r.rd.kp kp), r.fo hf⟩ p⟩
theorem Ev.list (O : a.Ok) {elts : List Expr} {pos : Pos} (h : EvL a E ρ elts pos fun ds f => 1 ≤ f ∧ ds.length ≤ sizeLine ∧ P (.list ds) f) : Ev a E ρ (.List elts pos) P := by
  intro m fp g s Q hs K
  refine wpAny_List (h m fp g s _ hs fun vs ds f as h1 tk r p => ?_)
  obtain ⟨hf, hl, p⟩ := p
  have kp : Kp h1 (h1.push (listO vs 0)) := Kp.push _ _
  exact ⟨by rw [r.rd.length]; exact hl, K _ _ _ _ _ _ ⟨r.sat.ext O kp.ext, r.ext.trans kp.ext, .list (get_push_self _ _) (r.rd.kp kp), Fo.new r.sat (get_size_none h1) r.ext hf (r.fo hf)⟩ p⟩
theorem Ev.ifExp {test body orelse : Expr} {pos : Pos} (h : EvT a E ρ test fun b => if b then Ev a E ρ body P else Ev a E ρ orelse P) : Ev a E ρ (.IfExp test body orelse pos) P := by
  intro m fp g s Q hs K
  refine wpAny_IfExp (h m fp g s _ hs fun b h1 tk r e p => ?_)
  cases b
  · exact p m fp g _ _ r fun v d f as h2 tk2 r2 p2 => K v d f as h2 tk2 (r2.from e) p2
  · exact p m fp g _ _ r fun v d f as h2 tk2 r2 p2 => K v d f as h2 tk2 (r2.from e) p2
end
end Mine
end

section
open PySem PySem.W PySem.Calls PyProof.Rows
set_option maxRecDepth 100000
set_option autoImplicit false
set_option linter.unusedVariables false
namespace Mine

/-! texts as lists of numbers -/
abbrev T (l : List Nat) : Str := ⟨l.toArray⟩
theorem T_eta (x : Str) : x = T x.cps.toList := by cases x; simp
theorem T_append (l m : List Nat) : T l ++ T m = T (l ++ m) := by
  show Str.mk (l.toArray ++ m.toArray) = Str.mk (l ++ m).toArray
  simp
theorem T_length (l : List Nat) : (T l).length = l.length := by simp [Str.length]
theorem T_inj {l m : List Nat} : T l = T m ↔ l = m := by
  constructor
  · intro h
    have h := congrArg (fun x => x.cps.toList) h
    simpa using h
  · rintro rfl; rfl

/-! slices -/
def clampI (i : Option Int) (dflt n : Nat) : Nat := match i with
  | none => dflt
  | some i => (max 0 (min (if i < 0 then i + n else i) (n : Int))).toNat
def pySl {α : Type} (xs : List α) (lo hi : Option Int) : List α := (xs.drop (clampI lo 0 xs.length)).take (clampI hi xs.length xs.length - clampI lo 0 xs.length)

theorem clampI_le (i : Option Int) (d n : Nat) (h : d ≤ n) : clampI i d n ≤ n := by
  cases i with
  | none => exact h
  | some i => simp only [clampI]; omega
theorem bounds_clamp (lo hi : Option Int) (n : Nat) : sliceBounds lo hi none n = ((clampI lo 0 n : Int), (clampI hi n n : Int), 1) := by
  simp only [sliceBounds, Option.getD_none, show (1 : Int) > 0 by decide, if_true]
  have e : ∀ v : Int, max 0 (min (if v < 0 then v + (n : Int) else v) (n : Int)) = ((max 0 (min (if v < 0 then v + (n : Int) else v) (n : Int))).toNat : Int) := fun v => by omega
  cases lo <;> cases hi <;> simp only [clampI] <;> (try rw [← e]) <;> (try rw [← e]) <;> rfl
theorem slicePick_py (items : Array Value) (lo hi : Option Int) : slicePick items lo hi none = (pySl items.toList lo hi).toArray := by
  unfold slicePick
  rw [bounds_clamp]
  simp only [sliceRange_one, pick_run, pySl, Array.length_toList]
theorem strSlice_clamp (lo hi : Option Int) (n : Nat) : Builtin.Str.strSliceIndices lo hi 1 n = (List.range (clampI hi n n - clampI lo 0 n)).map (clampI lo 0 n + ·) := by
  rw [← sliceRange_one]
  unfold Builtin.Str.strSliceIndices
  simp only [show (1 : Int) > 0 by decide, if_true]
  have e : ∀ v : Int, max 0 (min (if v < 0 then v + (n : Int) else v) (n : Int)) = ((max 0 (min (if v < 0 then v + (n : Int) else v) (n : Int))).toNat : Int) := fun v => by omega
  cases lo <;> cases hi <;> simp only [clampI] <;> (try rw [← e]) <;> (try rw [← e]) <;> rfl
theorem slice_T (l : List Nat) (lo hi : Option Int) : Txt.slice (T l) lo hi = T (pySl l lo hi) := by
  unfold Txt.slice
  rw [T_length, strSlice_clamp]
  have e : List.filterMap ((T l).cps[·]?) ((List.range (clampI hi l.length l.length - clampI lo 0 l.length)).map (clampI lo 0 l.length + ·)) = pySl l lo hi := by
    rw [pick_run]; simp [pySl]
  split
  · rename_i h
    simp only [List.length_map, List.length_range, Bool.and_eq_true, beq_iff_eq] at h
    have h1 := clampI_le lo 0 l.length (Nat.zero_le _)
    have h2 := clampI_le hi l.length l.length (Nat.le_refl _)
    have h3 : clampI lo 0 l.length = 0 := by omega
    have h4 : clampI hi l.length l.length = l.length := by omega
    simp [pySl, h3, h4]
  · rw [e]
theorem pySl_length {α : Type} (xs : List α) (lo hi : Option Int) : (pySl xs lo hi).length ≤ xs.length := by
  unfold pySl; rw [List.length_take, List.length_drop]; omega

/-! operators -/
def BinOk (op : Operator) (d1 d2 : PyData) (P : PyData → Nat → Prop) : Prop :=
  match op, d1, d2 with
  | .Add, .str x, .str y => x.length + y.length ≤ sizeLine ∧ P (.str (x ++ y)) 2
  | .Add, .int i, .int j => P (.int (i + j)) 2
  | .Add, .list xs, .list ys => xs.length + ys.length ≤ sizeLine ∧ P (.list (xs ++ ys)) 1
  | .Sub, .int i, .int j => P (.int (i - j)) 2
  | .Mult, .int i, .int j => IntMulOk i j ∧ P (.int (i * j)) 2
  | .Mod, .int i, .int j => j ≠ 0 ∧ P (.int (i.fmod j)) 2
  | .FloorDiv, .int i, .int j => j ≠ 0 ∧ P (.int (i.fdiv j)) 2
  | .Mult, .list xs, .int j => atoms xs = true ∧ xs ≠ [] ∧ 0 ≤ j ∧ j < 1000 ∧ xs.length ≤ 1000 ∧ P (.list (List.replicate j.toNat xs).flatten) 2
  | _, _, _ => False

section
variable {a : Act} {E : Value → Shared → Prop} {ρ : Ro} {P : PyData → Nat → Prop}

theorem Fo.append {fp : Str → List Addr} {h0 : Heap} {f : Nat} {as bs : List Addr} (x : Fo a ρ fp h0 f as) (y : Fo a ρ fp h0 f bs) (hf : 1 ≤ f) : Fo a ρ fp h0 f (as ++ bs) :=
  ⟨fun b hb => (List.mem_append.mp hb).elim (x.ok b) (y.ok b), fun z sl b r e o q hb => (List.mem_append.mp (List.mem_of_mem_tail hb)).elim (x.cl z sl b r e o q hf) (y.cl z sl b r e o q hf),
    fun z sl b r e o q _ hb => (List.mem_append.mp hb).elim (x.cl z sl b r e o q hf) (y.cl z sl b r e o q hf), fun k b hb => (List.mem_append.mp hb).elim (x.fr k b) (y.fr k b)⟩

/-- a value made without a place, nothing else changed -/
theorem Res.made {m : Str → Option Value} {fp : Str → List Addr} {g h0 h1 : Heap} {v : Value} {d : PyData} {f : Nat} {as : List Addr} {v' : Value} {d' : PyData} (r : Res a ρ m fp g h0 v d f as h1)
    (q : Rd a.D.prog a.D.w h1 v' d' []) : Res a ρ m fp g h0 v' d' 2 [] h1 := ⟨r.sat, r.ext, q, Fo.nil _⟩

/-- a new list of such items on the heap -/
theorem Res.newList (O : a.Ok) {m : Str → Option Value} {fp : Str → List Addr} {g h0 h1 : Heap} (hs : Sat a ρ m fp g h1) (k : Ext a.F h0 h1) {vs : List Value} {ds : List PyData} {as : List Addr} {f : Nat}
    (q : RdAll a.D.prog a.D.w h1 vs ds as) (fo : Fo a ρ fp h0 f as) (hf : 1 ≤ f) (n : Nat := 0) : Res a ρ m fp g h0 (.ref h1.objs.size) (.list ds) f (h1.objs.size :: as) (h1.push (listO vs n)) := by
  have kp : Kp h1 (h1.push (listO vs n)) := Kp.push _ _
  exact ⟨hs.ext O kp.ext, k.trans kp.ext, .list (get_push_self _ _) (q.kp kp), Fo.new hs (get_size_none h1) k hf fo⟩

theorem mul_flat (vs : List Value) (j : Nat) (hne : vs ≠ []) : List.foldl (fun x1 x2 => x1 ++ x2) #[] (List.replicate (if vs.toArray.isEmpty = true then 0 else j) vs.toArray) = (List.replicate j vs).flatten.toArray := by
  have : vs.toArray.isEmpty = false := by cases vs <;> simp_all
  rw [this]
  simp only [Bool.false_eq_true, if_false]
  have key : ∀ (k : Nat) (acc : List Value), List.foldl (fun x1 x2 => x1 ++ x2) acc.toArray (List.replicate k vs.toArray) = (acc ++ (List.replicate k vs).flatten).toArray := by
    intro k
    induction k with
    | zero => intro acc; simp
    | succ k ih => intro acc; simp only [List.replicate_succ, List.foldl_cons, List.flatten_cons]; rw [show acc.toArray ++ vs.toArray = (acc ++ vs).toArray by simp, ih]; simp
  have := key j []
  simpa using this
theorem RdAll.rep {prog : Program} {w : World} {h : Heap} {vs : List Value} {ds : List PyData} (r : RdAll prog w h vs ds []) : ∀ j : Nat, RdAll prog w h (List.replicate j vs).flatten (List.replicate j ds).flatten []
  | 0 => by simpa using RdAll.nil
  | j + 1 => by simpa [List.replicate_succ] using r.append (RdAll.rep r j)

theorem Ev.binop (O : a.Ok) {l r : Expr} {op : Operator} {pos : Pos} (h : Ev a E ρ l fun d1 _ => Ev a E ρ r fun d2 _ => BinOk op d1 d2 P) : Ev a E ρ (.BinOp l op r pos) P := by
  intro m fp g s Q hs K
  refine wpAny_BinOp (h m fp g s _ hs fun v1 d1 f1 as1 h1 tk1 r1 p0 => ?_)
  refine p0 m fp g _ _ r1.sat fun v2 d2 f2 as2 h2 tk2 r2 p => ?_
  have r1' := r1.later O r2.ext
  have r2' := r2.from r1.ext
  replace p : BinOk op d1 d2 P := p
  unfold BinOk at p
  split at p
  · rename_i x y
    obtain ⟨⟨t, rfl⟩, rfl⟩ := r1'.rd.str_inv
    obtain ⟨⟨u, rfl⟩, rfl⟩ := r2'.rd.str_inv
    exact SB.add (fun t' k => K _ _ _ _ h2 k (r2'.made (.str _ _)) p.2) p.1
  · rename_i i j
    obtain ⟨⟨t, rfl⟩, rfl⟩ := r1'.rd.int_inv
    obtain ⟨⟨u, rfl⟩, rfl⟩ := r2'.rd.int_inv
    exact wpAny_add_int (K _ _ _ _ h2 _ (r2'.made (.int _ _)) p)
  · rename_i xs ys
    obtain ⟨b1, vs1, n1, bs1, rfl, rfl, e1, q1⟩ := r1'.rd.list_inv
    obtain ⟨b2, vs2, n2, bs2, rfl, rfl, e2, q2⟩ := r2'.rd.list_inv
    refine PySem.P.add_list (n := n1) (n2 := n2) e1 e2 ?_ (by simpa [q1.length, q2.length] using p.1)
    have fo : Fo a ρ fp s.heap 1 (bs1 ++ bs2) := (r1'.fo.tail fun _ x => x).append (r2'.fo.tail fun _ x => x) (Nat.le_refl _)
    have := Res.newList O r2.sat r2'.ext (q1.append q2) fo (Nat.le_refl _)
    exact K _ _ _ _ _ _ (by simpa [listO] using this) p.2
  · rename_i i j
    obtain ⟨⟨t, rfl⟩, rfl⟩ := r1'.rd.int_inv
    obtain ⟨⟨u, rfl⟩, rfl⟩ := r2'.rd.int_inv
    exact PySem.P.sub_int (K _ _ _ _ h2 _ (r2'.made (.int _ _)) p)
  · rename_i i j
    obtain ⟨⟨t, rfl⟩, rfl⟩ := r1'.rd.int_inv
    obtain ⟨⟨u, rfl⟩, rfl⟩ := r2'.rd.int_inv
    exact PySem.P.mul_int (K _ _ _ _ h2 _ (r2'.made (.int _ _)) p.2) p.1
  · rename_i i j
    obtain ⟨⟨t, rfl⟩, rfl⟩ := r1'.rd.int_inv
    obtain ⟨⟨u, rfl⟩, rfl⟩ := r2'.rd.int_inv
    exact PyProof.Rows.mod_int' p.1 (K _ _ _ _ h2 _ (r2'.made (.int _ _)) p.2)
  · rename_i i j
    obtain ⟨⟨t, rfl⟩, rfl⟩ := r1'.rd.int_inv
    obtain ⟨⟨u, rfl⟩, rfl⟩ := r2'.rd.int_inv
    refine PyProof.Rows.floordiv_int p.1 (K _ _ _ _ h2 _ (r2'.made (.int _ _)) p.2) (Or.inr (PylongRoom.of (O.D.lim.keeps r2.sat.top) ?_ (O.seer _ r2.sat.top)))
    have := O.depth
    show a.A.depth + 100 < 1000
    omega
  · rename_i xs j
    obtain ⟨b1, vs1, n1, bs1, rfl, rfl, e1, q1⟩ := r1'.rd.list_inv
    obtain ⟨⟨u, rfl⟩, rfl⟩ := r2'.rd.int_inv
    obtain ⟨pa, pn, p0, p1, pl, p⟩ := p
    have hne : vs1 ≠ [] := fun q => pn (by have := q1.length; rw [q] at this; exact List.eq_nil_of_length_eq_zero this.symm)
    obtain rfl := RdAll.atoms q1 pa
    have hlen : vs1.length * j.toNat ≤ 1000 * 1000 := Nat.mul_le_mul (by rw [q1.length]; exact pl) (by omega)
    refine wpAny_binaryOp_repeat_ref (T := "list") (U := "int") (by decide) ⟨_, e1, rfl⟩ (fun s' => typeIs_int s' j u) noFill_list_mul F.fills_int_mul F.slot_int_rmul repeat_list F.slot_int_index.lookup
      (call_meets F.slot_int_rmul (typeIs_int _ j u) F.entry_int_rmul (F.args_int_rmul_2 _ _) (int___rmul___int_list j u b1 vs1.toArray n1)
        ⟨e1, rfl, ⟨_, e1, rfl⟩, call_meets F.slot_list_mul ⟨_, e1, rfl⟩ F.entry_list_mul (F.args_list_mul_2 _ _)
          (AutoListH.list___mul___list_int_3 b1 vs1.toArray n1 j u (by simp [Builtin.List.listFitsIndex]; omega) (by simp only [List.size_toArray]; omega) (by simp [Builtin.List.listTooLong, sizeLine]; omega))
          ⟨e1, ?_⟩⟩)
    rw [mul_flat vs1 j.toNat hne]
    have := Res.newList O r2.sat r2'.ext (q1.rep j.toNat) (Fo.nil 2) (by decide)
    exact K _ _ _ _ _ _ (by simpa [listO] using this) p
  · exact p.elim
end
end Mine
end

section
open PySem PySem.W PySem.Calls PyProof.Rows
set_option maxRecDepth 100000
set_option autoImplicit false
set_option linter.unusedVariables false
namespace Mine

/-! comparisons -/
def EqOk (d1 d2 : PyData) (P : Bool → Prop) : Prop :=
  match d1, d2 with
  | .str x, .str y => P (x == y)
  | .int x, .int y => P (x == y)
  | d1, d2 => SeqAt.shaped d1 = true ∧ SeqAt.shaped d2 = true ∧ P (PyData.eqv d1 d2)
def CmpOk (op : CmpOp) (d1 d2 : PyData) (P : Bool → Prop) : Prop :=
  match op, d1, d2 with
  | .Eq, d1, d2 => EqOk d1 d2 P
  | .NotEq, d1, d2 => EqOk d1 d2 fun b => P !b
  | .In, .str y, .str x => P (Txt.contains x y)
  | .NotIn, .str y, .str x => P (!Txt.contains x y)
  | .Lt, .int i, .int j => P (decide (i < j))
  | .Gt, .int i, .int j => P (decide (j < i))
  | _, _, _ => False

section
variable {a : Act} {E : Value → Shared → Prop} {ρ : Ro}

theorem str_beq (x y : Str) : (x.cps.toList == y.cps.toList) = (x == y) := by
  by_cases h : x = y
  · subst h; simp
  · have h2 : x.cps.toList ≠ y.cps.toList := fun e => h (by rw [T_eta x, T_eta y, e])
    rw [beq_eq_false_iff_ne.mpr h, beq_eq_false_iff_ne.mpr h2]

theorem cmp_val (O : a.Ok) {op : CmpOp} {v1 v2 : Value} {d1 d2 : PyData} {as1 as2 : List Addr} {s : Shared} {P : Bool → Prop} {Q : Value → Shared → Prop}
    (r1 : Rd a.D.prog a.D.w s.heap v1 d1 as1) (r2 : Rd a.D.prog a.D.w s.heap v2 d2 as2) (h : CmpOk op d1 d2 P) (K : ∀ b h tk, Kp s.heap h → P b → Q (.bool b) { s with heap := h, toks := tk }) :
    wpAny a.M a.A (compareOp op v1 v2) Q E s := by
  have hu : a.A.units + 64 < cLine := by have := O.units; show a.A.units + 64 < 9900; omega
  have k0 : ∀ b, P b → Q (.bool b) s := fun b p => K b s.heap s.toks (Kp.refl _) p
  unfold CmpOk at h
  split at h
  · unfold EqOk at h
    split at h
    · obtain ⟨⟨t, rfl⟩, rfl⟩ := r1.str_inv
      obtain ⟨⟨u, rfl⟩, rfl⟩ := r2.str_inv
      exact PySem.P.eq_str (k0 _ (by rw [str_beq]; exact h))
    · obtain ⟨⟨t, rfl⟩, rfl⟩ := r1.int_inv
      obtain ⟨⟨u, rfl⟩, rfl⟩ := r2.int_inv
      exact PyProof.Rows.eq_int (k0 _ h)
    · obtain ⟨bs1, q1⟩ := r1.reads
      obtain ⟨bs2, q2⟩ := r2.reads
      exact SeqAt.compareEq_shaped q1 q2 h.1 h.2.1 hu (k0 _ h.2.2)
  · unfold EqOk at h
    split at h
    · obtain ⟨⟨t, rfl⟩, rfl⟩ := r1.str_inv
      obtain ⟨⟨u, rfl⟩, rfl⟩ := r2.str_inv
      exact PySem.P.ne_str (k0 _ (by unfold bne; rw [str_beq]; exact h))
    · obtain ⟨⟨t, rfl⟩, rfl⟩ := r1.int_inv
      obtain ⟨⟨u, rfl⟩, rfl⟩ := r2.int_inv
      exact PyProof.Rows.ne_int (k0 _ h)
    · obtain ⟨bs1, q1⟩ := r1.reads
      obtain ⟨bs2, q2⟩ := r2.reads
      exact SeqAt.compareNe_shaped q1 q2 h.1 h.2.1 hu (k0 _ h.2.2)
  · obtain ⟨⟨t, rfl⟩, rfl⟩ := r1.str_inv
    obtain ⟨⟨u, rfl⟩, rfl⟩ := r2.str_inv
    exact SB.contains (k0 _ h)
  · obtain ⟨⟨t, rfl⟩, rfl⟩ := r1.str_inv
    obtain ⟨⟨u, rfl⟩, rfl⟩ := r2.str_inv
    exact SB.notContains (k0 _ h)
  · obtain ⟨⟨t, rfl⟩, rfl⟩ := r1.int_inv
    obtain ⟨⟨u, rfl⟩, rfl⟩ := r2.int_inv
    exact PyProof.Rows.lt_int (k0 _ h)
  · obtain ⟨⟨t, rfl⟩, rfl⟩ := r1.int_inv
    obtain ⟨⟨u, rfl⟩, rfl⟩ := r2.int_inv
    exact PyProof.Rows.gt_int (k0 _ h)
  · exact h.elim

theorem Ev.cmp (O : a.Ok) {l r : Expr} {op : CmpOp} {pos : Pos} {P : PyData → Nat → Prop} (h : Ev a E ρ l fun d1 _ => Ev a E ρ r fun d2 _ => CmpOk op d1 d2 fun b => P (.bool b) 2)
    (hm : behindInMarks op r = false := by with_unfolding_all rfl) : Ev a E ρ (.Compare l [op] [r] pos) P := by
  intro m fp g s Q hs K
  refine wpAny_Compare1 (h m fp g s _ hs fun v1 d1 f1 as1 h1 tk1 r1 p => ?_) hm
  refine p m fp g _ _ r1.sat fun v2 d2 f2 as2 h2 tk2 r2 p => ?_
  have r1' := r1.later O r2.ext
  have r2' := r2.from r1.ext
  exact cmp_val O r1'.rd r2'.rd p fun b h3 tk3 kp p => K _ _ _ _ _ _ ((r2'.later O kp.ext).made (.bool b)) p
theorem EvT.cmp (O : a.Ok) {l r : Expr} {op : CmpOp} {pos : Pos} {P : Bool → Prop} (h : Ev a E ρ l fun d1 _ => Ev a E ρ r fun d2 _ => CmpOk op d1 d2 P)
    (hm : behindInMarks op r = false := by with_unfolding_all rfl) : EvT a E ρ (.Compare l [op] [r] pos) P := by
  intro m fp g s Q hs K
  refine wpAny_isTrue_Compare1 (h m fp g s _ hs fun v1 d1 f1 as1 h1 tk1 r1 p => ?_) hm
  refine p m fp g _ _ r1.sat fun v2 d2 f2 as2 h2 tk2 r2 p => ?_
  have r1' := r1.later O r2.ext
  have r2' := r2.from r1.ext
  exact cmp_val O r1'.rd r2'.rd p fun b h3 tk3 kp p => wpAny_truthy_bool (K _ _ _ (r2'.sat.ext O kp.ext) (r2'.ext.trans kp.ext) p)

/-! truth -/
def TruthOk (d : PyData) (P : Bool → Prop) : Prop :=
  match d with
  | .bool b => P b
  | .str x => x.length ≤ sizeLine ∧ P ((x.length : Int) != 0)
  | .int i => P (i != 0)
  | .list xs => xs.length ≤ sizeLine ∧ P (!xs.isEmpty)
  | _ => False

theorem truth_val (O : a.Ok) {v : Value} {d : PyData} {as : List Addr} {s : Shared} {P : Bool → Prop} {Q : Bool → Shared → Prop}
    (r : Rd a.D.prog a.D.w s.heap v d as) (h : TruthOk d P) (K : ∀ b h tk, Kp s.heap h → P b → Q b { s with heap := h, toks := tk }) : wpAny a.M a.A (truthy v) Q E s := by
  cases d <;> simp only [TruthOk] at h
  case bool b => obtain ⟨rfl, rfl⟩ := r.bool_inv; exact wpAny_truthy_bool (K b s.heap s.toks (Kp.refl _) h)
  case int i => obtain ⟨⟨t, rfl⟩, rfl⟩ := r.int_inv; exact PySem.P.truthy_int (K _ s.heap s.toks (Kp.refl _) h)
  case str x =>
    obtain ⟨⟨t, rfl⟩, rfl⟩ := r.str_inv
    exact PySem.P.truthy_str (by have := h.1; rw [sizeLine_eq] at this; omega) (K _ s.heap _ (Kp.refl _) h.2)
  case list xs =>
    obtain ⟨b, vs, n, bs, rfl, rfl, e, q⟩ := r.list_inv
    refine wpAny_truthy_list (items := vs.toArray) ⟨_, e, rfl, n, rfl⟩ (by have := h.1; have := q.length; rw [sizeLine_eq] at *; simp; omega) (K _ s.heap _ (Kp.refl _) ?_)
    have : (!vs.toArray.isEmpty) = !xs.isEmpty := by have := q.length; cases vs <;> cases xs <;> simp_all
    rw [this]; exact h.2

/-- a test that is no comparison, no not, no and|or -/
theorem EvT.val (O : a.Ok) {e : Expr} {P : Bool → Prop} (h : Ev a E ρ e fun d _ => TruthOk d P)
    (he : isTrue e a.env (eval e a.env) = (do let v ← eval e a.env; standAt e.pos; holding [v] (truthy v)) := by rfl) : EvT a E ρ e P := by
  intro m fp g s Q hs K
  refine wpAny_isTrue_value (h m fp g s _ hs fun v d f as h1 tk1 r p => ?_) he
  exact truth_val O r.rd p fun b h2 tk2 kp p => K _ _ _ (r.sat.ext O kp.ext) (r.ext.trans kp.ext) p
theorem EvT.not {x : Expr} {pos : Pos} {P : Bool → Prop} (h : EvT a E ρ x fun b => P !b) : EvT a E ρ (.UnaryOp .Not x pos) P := by
  intro m fp g s Q hs K
  exact wpAny_isTrue_Not (h m fp g s _ hs fun b h1 tk r e p => K _ _ _ r e p)
/-- and|or in a test, item by item -/
def AllT (a : Act) (E : Value → Shared → Prop) (ρ : Ro) (op : BoolOp) : List Expr → (Bool → Prop) → Prop
  | [], P => P (op == .And)
  | x :: rest, P => EvT a E ρ x fun b => if b = (op == .And) then AllT a E ρ op rest P else P b
theorem allT_run : ∀ {op : BoolOp} {l : List Expr} {P : Bool → Prop}, AllT a E ρ op l P → RunB a E ρ (allTrue op l a.env) P
  | op, [], P, h => fun m fp g s Q hs K => by
    have : allTrue op [] a.env = pure (op == .And) := rfl
    rw [this]; exact wpAny_pure (K _ s.heap s.toks hs (Ext.refl _ _) h)
  | .And, x :: rest, P, h => fun m fp g s Q hs K => by
    refine wpAny_allTrue_And_cons (h m fp g s _ hs fun b h1 tk r e p => ?_)
    cases b
    · exact K _ _ _ r e p
    · exact allT_run p m fp g _ _ r fun b h2 tk2 r2 e2 p2 => K _ _ _ r2 (e.trans e2) p2
  | .Or, x :: rest, P, h => fun m fp g s Q hs K => by
    refine wpAny_allTrue_Or_cons (h m fp g s _ hs fun b h1 tk r e p => ?_)
    cases b
    · exact allT_run p m fp g _ _ r fun b h2 tk2 r2 e2 p2 => K _ _ _ r2 (e.trans e2) p2
    · exact K _ _ _ r e p
theorem EvT.bool {op : BoolOp} {l : List Expr} {pos : Pos} {P : Bool → Prop} (h : AllT a E ρ op l P) : EvT a E ρ (.BoolOp op l pos) P := by
  intro m fp g s Q hs K
  exact wpAny_isTrue_BoolOp (allT_run h m fp g s _ hs K)

/-- and|or as a value -/
def AllV (a : Act) (E : Value → Shared → Prop) (ρ : Ro) (op : BoolOp) : List Expr → (PyData → Nat → Prop) → Prop
  | [], _ => False
  | [x], P => Ev a E ρ x P
  | x :: y :: rest, P => Ev a E ρ x fun d f => TruthOk d fun b => if b = (op == .And) then AllV a E ρ op (y :: rest) P else P d f
theorem allV_run (O : a.Ok) {pos : Pos} : ∀ {op : BoolOp} {l : List Expr} {P : PyData → Nat → Prop}, AllV a E ρ op l P → Run a E ρ (boolOp pos op (evalEach l a.env)) P
  | _, [], _, h => h.elim
  | _, [x], _, h => h
  | op, x :: y :: rest, P, h => fun m fp g s Q hs K => by
    show wpAny _ _ (do
      let v ← eval x a.env
      standAt pos
      let t ← holding [v] (truthy v)
      match op, t with
      | .And, false | .Or, true => pure v
      | _, _ => boolOp pos op (evalEach (y :: rest) a.env)) Q E s
    refine wpAny_bind (h m fp g s _ hs fun v d f as h1 tk1 r p => wpAny_bind (wpAny_standAt (wpAny_bind (wpAny_holding (truth_val O r.rd p fun b h2 tk2 kp p => ?_)))))
    have r' := r.later O kp.ext
    cases op <;> cases b
    · exact wpAny_pure (K _ _ _ _ _ _ r' p)
    · exact allV_run O p m fp g _ _ r'.sat fun v d f as h3 tk3 r3 p3 => K _ _ _ _ _ _ (r3.from r'.ext) p3
    · exact allV_run O p m fp g _ _ r'.sat fun v d f as h3 tk3 r3 p3 => K _ _ _ _ _ _ (r3.from r'.ext) p3
    · exact wpAny_pure (K _ _ _ _ _ _ r' p)
theorem Ev.boolOp (O : a.Ok) {op : BoolOp} {l : List Expr} {pos : Pos} {P : PyData → Nat → Prop} (h : AllV a E ρ op l P) : Ev a E ρ (.BoolOp op l pos) P := by
  intro m fp g s Q hs K
  exact allV_run O h m fp g s Q hs K

/-- minus a written number -/
theorem Ev.neg (O : a.Ok) {i : Int} {k : Nat} {p pos : Pos} {P : PyData → Nat → Prop} (h : P (.int (-i)) 2) : Ev a E ρ (.UnaryOp .USub (.Constant (.int i) k p) pos) P := by
  intro m fp g s Q hs K
  refine wpAny_UnaryOp (wpAny_Constant_int ?_)
  exact PySem.P.neg_int (K _ _ _ _ s.heap _ (Res.val hs (.int _ _)) h)
theorem Ev.not (O : a.Ok) {x : Expr} {pos : Pos} {P : PyData → Nat → Prop} (h : Ev a E ρ x fun d _ => TruthOk d fun b => P (.bool !b) 2) : Ev a E ρ (.UnaryOp .Not x pos) P := by
  intro m fp g s Q hs K
  refine wpAny_UnaryOp (h m fp g s _ hs fun v d f as h1 tk r p => not_value (truth_val O r.rd p fun b h2 tk2 kp p => ?_))
  exact K _ _ _ _ _ _ ((r.later O kp.ext).made (.bool _)) p

/-! items -/
def ItemOk (d i : PyData) (P : PyData → Nat → Prop) : Prop :=
  match d, i with
  | .str x, .int i => (Txt.charAt x i).isSome = true ∧ -(2 ^ 62) ≤ i ∧ i < 2 ^ 62 ∧ P (.str (Txt.item x i)) 2
  | .list xs, .int i => -(2 ^ 62) ≤ i ∧ i < 2 ^ 62 ∧ ∃ j d, seqIndex? i xs.length = some j ∧ xs[j]? = some d ∧ P d 1
  | .tuple xs, .int i => -(2 ^ 62) ≤ i ∧ i < 2 ^ 62 ∧ ∃ j d, seqIndex? i xs.length = some j ∧ xs[j]? = some d ∧ P d 1
  | _, _ => False

theorem seqIdx {i : Int} {n j : Nat} (h : seqIndex? i n = some j) : (i < 0 → 0 ≤ i + n ∧ j = (i + n).toNat) ∧ (¬ i < 0 → i < n ∧ j = i.toNat) := by
  unfold seqIndex? at h
  by_cases h0 : i < 0
  · simp only [h0, if_true] at h
    refine ⟨fun _ => ?_, fun q => absurd h0 q⟩
    by_cases hb : (decide (0 ≤ i + (n : Int)) && decide (i + (n : Int) < n)) = true
    · rw [if_pos hb] at h
      simp only [Bool.and_eq_true, decide_eq_true_eq] at hb
      exact ⟨hb.1, (Option.some.inj h).symm⟩
    · rw [if_neg hb] at h; cases h
  · simp only [h0, if_false] at h
    refine ⟨fun q => absurd q h0, fun _ => ?_⟩
    by_cases hb : (decide (0 ≤ i) && decide (i < (n : Int))) = true
    · rw [if_pos hb] at h
      simp only [Bool.and_eq_true, decide_eq_true_eq] at hb
      exact ⟨hb.2, (Option.some.inj h).symm⟩
    · rw [if_neg hb] at h; cases h

theorem item_val (O : a.Ok) {m : Str → Option Value} {fp : Str → List Addr} {g h0 : Heap} {v1 v2 : Value} {d1 d2 : PyData} {f1 : Nat} {as1 as2 : List Addr} {s : Shared} {P : PyData → Nat → Prop} {Q : Value → Shared → Prop}
    (r1 : Res a ρ m fp g h0 v1 d1 f1 as1 s.heap) (hf : f1 = 0 → ∃ xs, d1 = .list xs) (r2 : Rd a.D.prog a.D.w s.heap v2 d2 as2) (h : ItemOk d1 d2 P)
    (K : ∀ v d f as h tk, Res a ρ m fp g h0 v d f as h → P d f → Q v { s with heap := h, toks := tk }) :
    ∃ T id, typeLookup (.type T) "__getitem__" = pure (some (.builtin id)) ∧ s.TypeIs v1 T ∧ wpAny a.M a.A (getItem v1 v2) Q E s := by
  cases d1 <;> cases d2 <;> simp only [ItemOk] at h
  case str.int x i =>
    obtain ⟨⟨t, rfl⟩, rfl⟩ := r1.rd.str_inv
    obtain ⟨⟨u, rfl⟩, rfl⟩ := r2.int_inv
    obtain ⟨h1, h2, h3, p⟩ := h
    exact SB.item (by unfold fitsSsize; simp; omega) h1 (K _ _ _ _ s.heap _ (r1.made (.str _ _)) p)
  case list.int xs i =>
    obtain ⟨b, vs, n, bs, rfl, rfl, e, q⟩ := r1.rd.list_inv
    obtain ⟨⟨u, rfl⟩, rfl⟩ := r2.int_inv
    obtain ⟨h2, h3, j, d, hj, hd, p⟩ := h
    obtain ⟨v, cs, hv, rv, hcs⟩ := q.get hd
    have hl : s.heap.IsList b vs.toArray := ⟨_, e, rfl, n, rfl⟩
    have hlen : vs.toArray.size = xs.length := by simp [q.length]
    refine ⟨"list", _, list_getitem_lookup, hl.typeIs, ?_⟩
    have fin : Q v s := K v d 1 cs s.heap s.toks ⟨r1.sat, r1.ext, rv, r1.fo.tail hcs⟩ p
    have hh := seqIdx hj
    by_cases h0 : i < 0
    · obtain ⟨hb, rfl⟩ := hh.1 h0
      exact wpAny_getItem_list_neg hl h0 (by rw [hlen]; omega) (by omega) (by rw [hlen]; simpa using hv) fin
    · obtain ⟨hb, rfl⟩ := hh.2 h0
      exact wpAny_getItem_list hl (by omega) (by omega) (by simpa using hv) fin
  case tuple.int xs i =>
    obtain ⟨b, vs, n, rfl, e, q⟩ := r1.rd.tuple_inv
    obtain ⟨⟨u, rfl⟩, rfl⟩ := r2.int_inv
    obtain ⟨h2, h3, j, d, hj, hd, p⟩ := h
    obtain ⟨v, cs, hv, rv, hcs⟩ := q.get hd
    have hf1 : 1 ≤ f1 := by
      rcases Nat.eq_zero_or_pos f1 with z | z
      · obtain ⟨ys, hy⟩ := hf z; cases hy
      · exact z
    have fin : Q v s := K v d 1 cs s.heap s.toks ⟨r1.sat, r1.ext, rv, (r1.fo.sub hf1 hcs).le hf1⟩ p
    refine ⟨"tuple", _, slot_tuple_getitem.lookup, ⟨_, e, rfl⟩, ?_⟩
    exact PySem.P.getItem_tuple (n := n) (items := vs.toArray) e (by omega) (by omega) (by simpa [q.length] using hj) (by simpa using hv) fin
end
end Mine
end

section
open PySem PySem.W PySem.Calls PyProof.Rows
set_option maxRecDepth 100000
set_option autoImplicit false
set_option linter.unusedVariables false
namespace Mine

section
variable {a : Act} {E : Value → Shared → Prop} {ρ : Ro} {P : PyData → Nat → Prop}

theorem Ev.item (O : a.Ok) {value slice : Expr} {pos : Pos} (h : Ev a E ρ value fun d1 f1 => (f1 = 0 → ∃ xs, d1 = .list xs) ∧ Ev a E ρ slice fun d2 _ => ItemOk d1 d2 P)
    (hs : ∀ o i, subscripted slice false o i = operate [o, i] (getItem o i) := by intro _ _; rfl) : Ev a E ρ (.Subscript value slice pos) P := by
  intro m fp g s Q hsat K
  refine Subscript_ (h m fp g s _ hsat fun v1 d1 f1 as1 h1 tk1 r1 p => ?_)
  refine p.2 m fp g _ _ r1.sat fun v2 d2 f2 as2 h2 tk2 r2 p2 => ?_
  obtain ⟨T, id, hl, hT, hg⟩ := item_val (s := { s with heap := h2, toks := tk2 }) (Q := Q) O (r1.later O r2.ext) p.1 r2.rd p2 (fun v d f as h tk r q => K v d f as h tk r q)
  unfold subscriptTail
  refine wpAny_bind ?_
  rw [getitemInPython_of_ne hT.not_modules]
  refine wpAny_bind (wpAny_specialOf hT hl ?_)
  refine wpAny_pure (wpAny_bind ?_)
  rw [hs]
  exact wpAny_operating (wpAny_mono hg (fun r s₃ h₃ => wpAny_bind (wpAny_letTemporaryGo (wpAny_pure h₃))) fun _ _ x => x)

def EvO (a : Act) (E : Value → Shared → Prop) (ρ : Ro) (e : Option Expr) (P : Option Int → Prop) : Prop := match e with
  | none => P none
  | some e => Ev a E ρ e fun d _ => ∃ i, d = .int i ∧ P (some i)

def SliceOk (d : PyData) (lo hi : Option Int) (P : PyData → Nat → Prop) : Prop :=
  match d with
  | .str x => x.length ≤ sizeLine ∧ P (.str (T (pySl x.cps.toList lo hi))) 2
  | .list xs => xs.length ≤ sizeLine ∧ P (.list (pySl xs lo hi)) 1
  | _ => False

/-- one end of a slice -/
theorem evO_run (O : a.Ok) {e : Option Expr} {P : Option Int → Prop} (h : EvO a E ρ e P) {m : Str → Option Value} {fp : Str → List Addr} {g : Heap} {s : Shared} {Q : Value → Shared → Prop} (hs : Sat a ρ m fp g s.heap)
    (K : ∀ v i h tk, Sat a ρ m fp g h → Ext a.F s.heap h → IsPart v i → P i → Q v { s with heap := h, toks := tk }) : wpAny a.M a.A (evalPart e a.env) Q E s := by
  cases e with
  | none => exact wpAny_pure (K _ _ s.heap s.toks hs (Ext.refl _ _) .none h)
  | some e =>
    refine h m fp g s _ hs fun v d f as h1 tk r p => ?_
    obtain ⟨i, rfl, p⟩ := p
    obtain ⟨⟨t, rfl⟩, _⟩ := r.rd.int_inv
    exact K _ _ _ _ r.sat r.ext (.int _ _) p

theorem isPart_str {v : Value} {i : Option Int} (h : IsPart v i) : ∃ l : Option (Int × Tok), v = partValue l ∧ l.map (·.1) = i := by
  cases h with
  | none => exact ⟨none, rfl, rfl⟩
  | int i t => exact ⟨some (i, t), rfl, rfl⟩

theorem Ev.slice (O : a.Ok) {value : Expr} {lo hi : Option Expr} {p pos : Pos} (h : Ev a E ρ value fun d _ => EvO a E ρ lo fun i => EvO a E ρ hi fun j => SliceOk d i j P) : Ev a E ρ (.Subscript value (.Slice lo hi none p) pos) P := by
  intro m fp g s Q hs K
  refine Subscript_ (h m fp g s _ hs fun v1 d1 f1 as1 h1 tk1 r1 p => ?_)
  refine wpAny_Slice (evO_run O p r1.sat fun vl i h2 tk2 s2 e2 pl p => ?_)
  refine evO_run O p s2 fun vu j h3 tk3 s3 e3 pu p => ?_
  show wpAny _ _ (evalPart none a.env) _ _ _
  rw [evalPart_none]
  refine wpAny_pure ?_
  have r := (r1.later O e2).later O e3
  have kp : Kp h3 (h3.push { cls := .type "slice", data := .fields #[vl, vu, .none] }) := Kp.push _ _
  have r' := r.later O kp.ext
  have fin : ∃ T id, typeLookup (.type T) "__getitem__" = pure (some (.builtin id)) ∧ ({ s with heap := h3.push { cls := .type "slice", data := .fields #[vl, vu, .none] }, toks := tk3 } : Shared).TypeIs v1 T ∧
      wpAny a.M a.A (getItem v1 (.ref h3.objs.size)) Q E { s with heap := h3.push { cls := .type "slice", data := .fields #[vl, vu, .none] }, toks := tk3 } := by
    cases d1 with
    | none | bool _ | int _ | tuple _ | dict _ => exact (show False from p).elim
    | str x =>
      change x.length ≤ sizeLine ∧ P (.str (T (pySl x.cps.toList i j))) 2 at p
      obtain ⟨⟨t, rfl⟩, rfl⟩ := r'.rd.str_inv
      obtain ⟨l, rfl, rfl⟩ := isPart_str pl
      obtain ⟨u, rfl, rfl⟩ := isPart_str pu
      refine ⟨"str", _, F.slot_str_getitem.lookup, typeIs_str _ _ _, wpAny_getItem_str_slice (l := l) (u := u) (st := none) ⟨_, get_push_self _ _, rfl, rfl⟩ rfl ?_⟩
      refine post_val_or_str ?_
      have e := slice_T x.cps.toList (l.map (·.1)) (u.map (·.1))
      rw [← T_eta x] at e
      show (Txt.slice x (l.map (·.1)) (u.map (·.1))).length ≤ sizeLine ∧ ∀ t' k, Q (.str (Txt.slice x (l.map (·.1)) (u.map (·.1))) t') _
      rw [e]
      refine ⟨?_, fun t' k => K _ _ _ _ _ k (r'.made (.str _ _)) p.2⟩
      rw [T_length]
      exact Nat.le_trans (pySl_length _ _ _) (by simpa [Str.length] using p.1)
    | list xs =>
      change xs.length ≤ sizeLine ∧ P (.list (pySl xs i j)) 1 at p
      obtain ⟨b, vs, n, bs, rfl, rfl, e, q⟩ := r'.rd.list_inv
      have hl : ({ s with heap := h3.push { cls := .type "slice", data := .fields #[vl, vu, .none] }, toks := tk3 } : Shared).heap.IsList b vs.toArray := ⟨_, e, rfl, n, rfl⟩
      refine ⟨"list", _, list_getitem_lookup, hl.typeIs, ?_⟩
      refine wpAny_getItem_list_slice (lo := i) (hi := j) (st := none) hl (Heap.IsSliceOf.new ..) pl pu .none (by simp) ?_ (by simpa [q.length] using p.1)
      rw [slicePick_py]
      obtain ⟨cs, qc, hcs⟩ := q.take_drop (clampI i 0 vs.length) (clampI j vs.length vs.length - clampI i 0 vs.length)
      have fo : Fo a ρ fp s.heap 1 cs := r'.fo.tail hcs
      have := Res.newList O r'.sat r'.ext qc fo (Nat.le_refl _)
      have e2 : pySl xs i j = (xs.drop (clampI i 0 vs.length)).take (clampI j vs.length vs.length - clampI i 0 vs.length) := by unfold pySl; rw [q.length]
      rw [e2] at p
      exact K _ _ _ _ _ _ this p.2
  obtain ⟨T, id, hl, hT, hg⟩ := fin
  unfold subscriptTail
  refine wpAny_bind ?_
  rw [getitemInPython_of_ne hT.not_modules]
  refine wpAny_bind (wpAny_specialOf hT hl ?_)
  refine wpAny_pure (wpAny_bind ?_)
  show wpAny _ _ (operate [_, v1] (getItem v1 _)) _ _ _
  exact wpAny_operating (wpAny_mono hg (fun r s₃ h₃ => wpAny_bind (wpAny_letTemporaryGo (wpAny_pure h₃))) fun _ _ x => x)
end
end Mine
end

section
open PySem PySem.W PySem.Calls PyProof.Rows
set_option maxRecDepth 100000
set_option autoImplicit false
set_option linter.unusedVariables false
namespace Mine

/-! names set -/
def Ro.set : Ro → Str → Slot → Ro
  | [], x, sl => [(x, sl)]
  | (y, s) :: r, x, sl => if y = x then (x, sl) :: r else (y, s) :: Ro.set r x sl
theorem Ro.lookup_cons (y : Str) (s : Slot) (r : Ro) (z : Str) : List.lookup z ((y, s) :: r) = if z = y then some s else List.lookup z r := by
  rw [List.lookup_cons]
  by_cases h : z = y
  · subst h; simp
  · rw [if_neg h, beq_eq_false_iff_ne.mpr h]
theorem Ro.set_lookup : ∀ (ρ : Ro) (x : Str) (sl : Slot) (z : Str), (Ro.set ρ x sl).lookup z = if z = x then some sl else ρ.lookup z
  | [], x, sl, z => by rw [Ro.set, Ro.lookup_cons]
  | (y, s) :: r, x, sl, z => by
    rw [Ro.set]
    by_cases h : y = x
    · subst h
      rw [if_pos rfl, Ro.lookup_cons, Ro.lookup_cons]
      split <;> rfl
    · rw [if_neg h, Ro.lookup_cons, Ro.set_lookup r x sl z, Ro.lookup_cons]
      by_cases hz : z = y
      · subst hz; rw [if_pos rfl, if_neg h, if_pos rfl]
      · rw [if_neg hz, if_neg hz]

/-- no mutable thing is within -/
def flat : PyData → Bool
  | .list xs => atoms xs
  | .dict _ => true
  | _ => false

section
variable {a : Act} {E : Value → Shared → Prop} {ρ : Ro}

theorem Sat.noSeqL {m : Str → Option Value} {fp : Str → List Addr} {g h : Heap} (x : Sat a ρ m fp g h) : NoSeq (· = a.L) h := fun b o hb ho vs n q => by
  obtain ⟨o', _, _, ho', hd, _⟩ := x.ns
  rw [hb, ho'] at ho; cases ho; rw [q] at hd; cases hd
theorem but_of_same {F : List Addr} {b : Addr} {h h' : Heap} (k : Heap.SameBut b h h') : But F (· = b) h h' := fun c o hc ho => by
  have : h'.get? c = some o := (k.2 c hc).trans ho
  exact ⟨fun _ => this, o.slots, this⟩

/-- a value stored under a name of the frame -/
theorem Sat.store (O : a.Ok) {m : Str → Option Value} {fp : Str → List Addr} {g h0 h1 h2 : Heap} {v : Value} {d : PyData} {f : Nat} {as : List Addr} {x : Str}
    (r : Res a ρ m fp g h0 v d f as h1) (hf : 1 ≤ f) (hn : h2.Ns a.L (fun y => if y = x then some v else m y)) (k : Heap.SameBut a.L h1 h2)
    (ow : Bool) (hown : ow = true → isMut d = true ∧ flat d = true ∧ ∀ b ∈ as, g.get? b = none ∧ a.D.H0.get? b = none ∧ ∀ z sl', z ≠ x → ρ.lookup z = some sl' → b ∉ fp z) (hp : a.pinN ≠ some x) :
    Sat a (ρ.set x ⟨d, ow⟩) (fun y => if y = x then some v else m y) (fun y => if y = x then as else fp y) g h2 := by
  have bt : But a.F (· = a.L) h1 h2 := but_of_same k
  have keepL : ∀ b o, b ≠ a.L → h1.get? b = some o → h2.get? b = some o := fun b o hb e => (k.2 b hb).trans e
  have ex : ∀ b o, h1.get? b = some o → ∃ o', h2.get? b = some o' := fun b o e => by
    by_cases hb : b = a.L
    · subst hb; obtain ⟨o', _, _, ho', _⟩ := hn; exact ⟨o', ho'⟩
    · exact ⟨o, keepL b o hb e⟩
  refine ⟨fun b o e => keepL b o (fun q => by rw [q, r.sat.lnew] at e; cases e) (r.sat.top b o e), fun b o e => ?_, fun b o e => ?_, r.sat.lnew, r.sat.lg, hn, fun b hb => ?_, fun y sl e => ?_, fun y sl e b hb => ?_, fun y sl e o => ?_, fun y e => by simp only [if_neg (fun q : y = x => hp (q ▸ e))]; exact r.sat.pin y e⟩
  · obtain ⟨o', e'⟩ := r.sat.dom b o e; exact ex b o' e'
  · have hb : b ≠ a.L := fun q => by rw [q, r.sat.lg] at e; cases e
    obtain ⟨p, sl, q⟩ := r.sat.gx b o e
    exact ⟨fun z => keepL b o hb (p z), sl, keepL b _ hb q⟩
  · by_cases hbL : b = a.L
    · subst hbL; obtain ⟨o, es, n, ho, hd, _⟩ := hn; exact ⟨o, es, n, ho, hd⟩
    · obtain ⟨o, es, n, ho, hd⟩ := r.sat.ff b hb
      exact ⟨o, es, n, keepL b o hbL ho, hd⟩
  · rw [Ro.set_lookup] at e
    by_cases hy : y = x
    · subst hy
      simp only [if_pos] at e ⊢
      cases e
      exact ⟨v, rfl, r.rd.but bt r.sat.noSeqL r.sat.ff.noSeq fun b hb => ⟨(r.fo.ok b hb).1, (r.fo.ok b hb).2.1⟩⟩
    · simp only [if_neg hy] at e ⊢
      obtain ⟨u, hu, q⟩ := r.sat.var y sl e
      exact ⟨u, hu, q.but bt r.sat.noSeqL r.sat.ff.noSeq fun b hb => ⟨(r.sat.fpok y sl e b hb).1, (r.sat.fpok y sl e b hb).2.1⟩⟩
  · rw [Ro.set_lookup] at e
    by_cases hy : y = x
    · subst hy; simp only [if_pos] at hb; exact r.fo.ok b hb
    · simp only [if_neg hy] at e hb; exact r.sat.fpok y sl e b hb
  · rw [Ro.set_lookup] at e
    by_cases hy : y = x
    · subst hy
      simp only [if_pos] at e ⊢
      cases e
      simp only at o
      obtain ⟨h1m, h2m, h3m⟩ := hown o
      have key : ∃ b, as = [b] ∧ v = .ref b := by
        cases d with
        | list xs =>
          obtain ⟨b, vs, n, bs, rfl, rfl, _, q⟩ := r.rd.list_inv
          obtain rfl := RdAll.atoms q h2m
          exact ⟨b, rfl, rfl⟩
        | dict kvs => cases r.rd; exact ⟨_, rfl, rfl⟩
        | _ => cases h1m
      obtain ⟨b, rfl, rfl⟩ := key
      obtain ⟨k1, k2, k3⟩ := h3m b (.head _)
      refine ⟨b, [], rfl, rfl, h1m, k1, k2, (fun q => nomatch q), fun z sl' hz e' => ?_⟩
      rw [Ro.set_lookup, if_neg hz] at e'
      simp only [if_neg hz]
      exact k3 z sl' hz e'
    · simp only [if_neg hy] at e ⊢
      obtain ⟨b, rr, e1, e2, e3, e4, e5, e6, e7⟩ := r.sat.own y sl e o
      refine ⟨b, rr, e1, e2, e3, e4, e5, e6, fun z sl' hz e' => ?_⟩
      rw [Ro.set_lookup] at e'
      by_cases hzx : z = x
      · subst hzx
        simp only [if_pos]
        exact r.fo.cl y sl b rr e o e1 hf
      · simp only [if_neg hzx] at e' ⊢
        exact e7 z sl' hz e'

/-! running statements -/
structure RetOk (a : Act) (ρ : Ro) (m : Str → Option Value) (fp : Str → List Addr) (g h : Heap) (v : Value) (d : PyData) (as : List Addr) : Prop where
  sat : Sat a ρ m fp g h
  rd : Rd a.D.prog a.D.w h v d as
  ok : ∀ b ∈ as, b ≠ a.L ∧ b ∉ a.F ∧ a.fine b

def RunF (a : Act) (E : Value → Shared → Prop) (ρ : Ro) (t : Sem Flow) (N : Ro → Prop) (R : Ro → PyData → Prop) (C : Ro → Prop) : Prop :=
  ∀ m fp g (s : Shared) (Q : Flow → Shared → Prop), Sat a ρ m fp g s.heap →
    (∀ ρ' m' fp' h tk, Sat a ρ' m' fp' g h → N ρ' → Q .next { s with heap := h, toks := tk }) →
    (∀ ρ' m' fp' h tk, Sat a ρ' m' fp' g h → C ρ' → Q .cont { s with heap := h, toks := tk }) →
    (∀ ρ' m' fp' v d as h tk, RetOk a ρ' m' fp' g h v d as → R ρ' d → Q (.ret v) { s with heap := h, toks := tk }) → wpAny a.M a.A t Q E s
abbrev Ex (a : Act) (E : Value → Shared → Prop) (ρ : Ro) (ss : List Stmt) (N : Ro → Prop) (R : Ro → PyData → Prop) (C : Ro → Prop) : Prop := RunF a E ρ (execs ss a.env) N R C
abbrev Ex1 (a : Act) (E : Value → Shared → Prop) (ρ : Ro) (st : Stmt) (N : Ro → Prop) (R : Ro → PyData → Prop) (C : Ro → Prop) : Prop := RunF a E ρ (exec st a.env) N R C

variable {N C : Ro → Prop} {R : Ro → PyData → Prop}

theorem RunF.mono {t : Sem Flow} {N' C' : Ro → Prop} {R' : Ro → PyData → Prop} (x : RunF a E ρ t N R C) (hN : ∀ ρ, N ρ → N' ρ) (hR : ∀ ρ d, R ρ d → R' ρ d) (hC : ∀ ρ, C ρ → C' ρ) : RunF a E ρ t N' R' C' :=
  fun m fp g s Q hs k1 k2 k3 => x m fp g s Q hs (fun ρ' m' fp' h tk q p => k1 ρ' m' fp' h tk q (hN _ p)) (fun ρ' m' fp' h tk q p => k2 ρ' m' fp' h tk q (hC _ p)) fun ρ' m' fp' v d as h tk q p => k3 ρ' m' fp' v d as h tk q (hR _ _ p)
theorem Ex.nil (h : N ρ) : Ex a E ρ [] N R C := fun m fp g s Q hs k1 _ _ => wpAny_execs_nil (k1 ρ m fp s.heap s.toks hs h)
theorem Ex.cons {st : Stmt} {rest : List Stmt} (h : Ex1 a E ρ st (fun ρ' => Ex a E ρ' rest N R C) R C) : Ex a E ρ (st :: rest) N R C := by
  intro m fp g s Q hs k1 k2 k3
  refine wpAny_execs_cons (h m fp g s _ hs (fun ρ' m' fp' h tk q p => ?_) (fun ρ' m' fp' h tk q p => k2 ρ' m' fp' h tk q p) fun ρ' m' fp' v d as h tk q p => k3 ρ' m' fp' v d as h tk q p)
  exact p m' fp' g _ _ q k1 k2 k3

/-- new places are free to own -/
theorem own_free {m : Str → Option Value} {fp : Str → List Addr} {g h0 : Heap} {as : List Addr} {x : Str} (hs0 : Sat a ρ m fp g h0) (fr : ∀ b ∈ as, h0.get? b = none) :
    ∀ b ∈ as, g.get? b = none ∧ a.D.H0.get? b = none ∧ ∀ z sl', z ≠ x → ρ.lookup z = some sl' → b ∉ fp z := fun b hb => by
  have hb0 := fr b hb
  refine ⟨hs0.gx.none hb0, ?_, fun z sl' hz e' hm => ?_⟩
  · cases q : a.D.H0.get? b with
    | none => rfl
    | some o' => rw [hs0.top b o' q] at hb0; cases hb0
  · obtain ⟨u, _, q⟩ := hs0.var z sl' e'
    obtain ⟨o', ho'⟩ := q.here b hm
    rw [hb0] at ho'; cases ho'

theorem storeName_sat (O : a.Ok) {m : Str → Option Value} {fp : Str → List Addr} {g h0 : Heap} {s : Shared} {v : Value} {d : PyData} {f : Nat} {as : List Addr} {x : Str} {Q : Unit → Shared → Prop}
    (hs0 : Sat a ρ m fp g h0) (r : Res a ρ m fp g h0 v d f as s.heap) (hf : 1 ≤ f) (ow : Bool) (hown : ow = true → isMut d = true ∧ flat d = true ∧ f = 2) (hl : a.env.kindOf x = some .local) (hp : a.pinN ≠ some x)
    (K : ∀ h tk, Sat a (ρ.set x ⟨d, ow⟩) (fun y => if y = x then some v else m y) (fun y => if y = x then as else fp y) g h → Q () { s with heap := h, toks := tk }) :
    wpAny a.M a.A (storeName a.env x v) Q E s :=
  wpAny_storeName_local hl r.sat.ns (fun h' hn hs => K h' _ (Sat.store O r hf hn hs ow (fun q => ⟨(hown q).1, (hown q).2.1, own_free hs0 (r.fo.fr (by have := (hown q).2.2; omega))⟩) hp)) (by rw [O.kind]; rfl)

/-- x = value -/
theorem Ex1.assign (O : a.Ok) {x : Str} {pos' pos : Pos} {value : Expr} (ow : Bool) (h : Ev a E ρ value fun d f => 1 ≤ f ∧ (ow = true → isMut d = true ∧ flat d = true ∧ f = 2) ∧ N (ρ.set x ⟨d, ow⟩))
    (hl : a.env.kindOf x = some .local := by rfl) (hs : swapsWith value (some (.Name x pos')) pos.line a.env = pure false := by rfl) (hp : a.pinN ≠ some x := by first | exact nofun | exact pin_ne (by rfl)) : Ex1 a E ρ (.Assign [.Name x pos'] value pos) N R C := by
  intro m fp g s Q hs0 k1 _ _
  refine wpAny_Assign_Name (h m fp g s _ hs0 fun v d f as h1 tk r p => ?_) hs
  exact storeName_sat O hs0 (s := { s with heap := h1, toks := tk }) r p.1 ow p.2.1 hl hp fun h2 tk2 q => k1 _ _ _ _ _ q p.2.2
theorem Ex1.ret (O : a.Ok) {e : Expr} {pos : Pos} (h : Ev a E ρ e fun d _ => R ρ d) : Ex1 a E ρ (.Return (some e) pos) N R C := by
  intro m fp g s Q hs0 _ _ k3
  refine wpAny_Return_some (h m fp g s _ hs0 fun v d f as h1 tk r p => k3 ρ m fp v d as h1 tk ⟨r.sat, r.rd, r.fo.ok⟩ p)
theorem Ex1.cont {pos : Pos} (h : C ρ) : Ex1 a E ρ (.Continue pos) N R C := fun m fp g s Q hs0 _ k2 _ => wpAny_Continue (k2 ρ m fp s.heap s.toks hs0 h)
theorem Ex1.ifs {test : Expr} {body orelse : List Stmt} {pos : Pos} (h : EvT a E ρ test fun b => if b then Ex a E ρ body N R C else Ex a E ρ orelse N R C) : Ex1 a E ρ (.If test body orelse pos) N R C := by
  intro m fp g s Q hs0 k1 k2 k3
  refine wpAny_If (h m fp g s _ hs0 fun b h1 tk q e p => ?_)
  cases b
  · exact p m fp g _ _ q k1 k2 k3
  · exact p m fp g _ _ q k1 k2 k3

/-- the places that this activation may change -/
def ownedOf (ρ : Ro) (fp : Str → List Addr) : List Addr := (ρ.map (·.1)).filterMap fun x => match ρ.lookup x with
  | some sl => if sl.own then (fp x).head? else none
  | none => none
theorem mem_ownedOf {ρ : Ro} {fp : Str → List Addr} {b : Addr} : b ∈ ownedOf ρ fp ↔ ∃ x sl r, ρ.lookup x = some sl ∧ sl.own = true ∧ fp x = b :: r := by
  have key : ∀ {ρ : Ro} {x : Str} {sl : Slot}, ρ.lookup x = some sl → x ∈ ρ.map (·.1) := by
    intro ρ
    induction ρ with
    | nil => intro x sl e; cases e
    | cons p r ih =>
      obtain ⟨y, s⟩ := p
      intro x sl e
      rw [Ro.lookup_cons] at e
      by_cases h : x = y
      · subst h; simp
      · rw [if_neg h] at e; simp only [List.map_cons, List.mem_cons]; exact .inr (ih e)
  unfold ownedOf
  rw [List.mem_filterMap]
  constructor
  · rintro ⟨x, _, e⟩
    cases q : ρ.lookup x with
    | none => rw [q] at e; cases e
    | some sl =>
      rw [q] at e
      simp only at e
      by_cases o : sl.own = true
      · rw [if_pos o] at e
        cases z : fp x with
        | nil => rw [z] at e; cases e
        | cons c r => rw [z] at e; cases e; exact ⟨x, sl, r, q, o, z⟩
      · rw [if_neg o] at e; cases e
  · rintro ⟨x, sl, r, q, o, z⟩
    exact ⟨x, key q, by rw [q]; simp [o, z]⟩

/-- the heap without what this activation may change, and without some cells -/
def hidC (a : Act) (ρ : Ro) (fp : Str → List Addr) (cs : List Addr) (h : Heap) : Heap := hideAll h (cs ++ a.L :: ownedOf ρ fp)
theorem hidC_get {fp : Str → List Addr} {h : Heap} {b : Addr} {cs : List Addr} {o : Obj} (e : h.get? b = some o) (h0 : b ∉ cs) (h1 : b ≠ a.L) (h2 : b ∉ ownedOf ρ fp) : (hidC a ρ fp cs h).get? b = some o :=
  hideAll_get _ e fun q => (List.mem_append.mp q).elim h0 fun q => (List.mem_cons.mp q).elim h1 h2
theorem Sat.hideC {m : Str → Option Value} {fp : Str → List Addr} {g h : Heap} {cs : List Addr} (x : Sat a ρ m fp g h) : Sat a ρ m fp (hidC a ρ fp cs h) h where
  top := x.top
  dom := x.dom
  gx := fun b o e => ⟨fun _ => of_hideAll _ e, o.slots, of_hideAll _ e⟩
  lnew := x.lnew
  lg := hideAll_none _ (List.mem_append_right _ (.head _))
  ns := x.ns
  ff := x.ff
  var := x.var
  fpok := x.fpok
  pin := x.pin
  own := fun y sl e o => by
    obtain ⟨b, r, e1, e2, e3, e4, e5, e6, e7⟩ := x.own y sl e o
    exact ⟨b, r, e1, e2, e3, hideAll_none _ (List.mem_append_right _ (.tail _ (mem_ownedOf.mpr ⟨y, sl, r, e, o, e1⟩))), e5, e6, e7⟩
theorem Sat.unhideC {ρ' : Ro} {m m' : Str → Option Value} {fp fp' : Str → List Addr} {g h h' : Heap} {cs : List Addr} (x : Sat a ρ m fp g h) (hc : ∀ c ∈ cs, g.get? c = none) (y : Sat a ρ' m' fp' (hidC a ρ fp cs h) h') : Sat a ρ' m' fp' g h' where
  top := y.top
  dom := y.dom
  gx := fun b o e => by
    have hC : b ∉ cs := fun q => by rw [hc b q] at e; cases e
    have hL : b ≠ a.L := fun q => by rw [q, x.lg] at e; cases e
    have hO : b ∉ ownedOf ρ fp := fun q => by
      obtain ⟨z, sl, r, e1, o1, z1⟩ := mem_ownedOf.mp q
      obtain ⟨b', r', f1, _, _, f2, _⟩ := x.own z sl e1 o1
      rw [z1] at f1; cases f1
      rw [f2] at e; cases e
    obtain ⟨p, sl, q⟩ := x.gx b o e
    obtain ⟨_, sl', q'⟩ := y.gx b _ (hidC_get q hC hL hO)
    exact ⟨fun z => (y.gx b o (hidC_get (p z) hC hL hO)).1 z, sl', q'⟩
  lnew := y.lnew
  lg := x.lg
  ns := y.ns
  ff := y.ff
  var := y.var
  fpok := y.fpok
  pin := y.pin
  own := fun z sl e o => by
    obtain ⟨b, r, e1, e2, e3, e4, e5, e6, e7⟩ := y.own z sl e o
    refine ⟨b, r, e1, e2, e3, ?_, e5, e6, e7⟩
    cases q : g.get? b with
    | none => rfl
    | some o' =>
      exfalso
      have hC : b ∉ cs := fun q' => by rw [hc b q'] at q; cases q
      have hL : b ≠ a.L := fun q' => by rw [q', x.lg] at q; cases q
      have hO : b ∉ ownedOf ρ fp := fun q' => by
        obtain ⟨z, sl, r, e1, o1, z1⟩ := mem_ownedOf.mp q'
        obtain ⟨b', r', f1, _, _, f2, _⟩ := x.own z sl e1 o1
        rw [z1] at f1; cases f1
        rw [f2] at q; cases q
      obtain ⟨_, sl', q'⟩ := x.gx b o' q
      rw [hidC_get q' hC hL hO] at e4; cases e4
abbrev hid (a : Act) (ρ : Ro) (fp : Str → List Addr) (h : Heap) : Heap := hidC a ρ fp [] h
theorem hid_get {fp : Str → List Addr} {h : Heap} {b : Addr} {o : Obj} (e : h.get? b = some o) (h1 : b ≠ a.L) (h2 : b ∉ ownedOf ρ fp) : (hid a ρ fp h).get? b = some o := hidC_get (cs := []) e (fun q => nomatch q) h1 h2
theorem Sat.hide {m : Str → Option Value} {fp : Str → List Addr} {g h : Heap} (x : Sat a ρ m fp g h) : Sat a ρ m fp (hid a ρ fp h) h := Sat.hideC (cs := []) x
theorem Sat.unhide {ρ' : Ro} {m m' : Str → Option Value} {fp fp' : Str → List Addr} {g h h' : Heap} (x : Sat a ρ m fp g h) (y : Sat a ρ' m' fp' (hid a ρ fp h) h') : Sat a ρ' m' fp' g h' := Sat.unhideC (cs := []) x (fun _ q => nomatch q) y
end
end Mine
end

section
open PySem PySem.W PySem.Calls PyProof.Rows
set_option maxRecDepth 100000
set_option autoImplicit false
set_option linter.unusedVariables false
namespace Mine

theorem Rd.dict_inv {prog : Program} {w : World} {h : Heap} {v : Value} {kvs : List (PyData × PyData)} {as : List Addr} (r : Rd prog w h v (.dict kvs) as) :
    ∃ b kv ps, v = .ref b ∧ as = [b] ∧ kvs = List.map sPair ps ∧ h.DictOf (strKind prog w) b kv ∧ PairsAre kv ps ∧ (b == sysModules) = false := by
  generalize e : PyData.dict kvs = d at r
  cases r <;> first | (cases e; done) | skip
  cases e
  exact ⟨_, _, _, rfl, rfl, rfl, by assumption, by assumption, by assumption⟩

section
variable {a : Act} {E : Value → Shared → Prop} {ρ : Ro} {N C : Ro → Prop} {R : Ro → PyData → Prop}

/-- the one place b of the name x was changed -/
theorem Sat.change {m : Str → Option Value} {fp : Str → List Addr} {g h1 h2 : Heap} {x : Str} {d d' : PyData} {b : Addr} {r r' : List Addr}
    (hs : Sat a ρ m fp g h1) (hx : ρ.lookup x = some ⟨d, true⟩) (hb : fp x = b :: r) (O : a.Ok) (k : But a.F (· = b) h1 h2) (o2 : Obj) (ho2 : h2.get? b = some o2)
    (hmut : isMut d' = true) (hrd : (∀ c ∈ r', c ≠ b) → NoSeq (· = b) h1 → Rd a.D.prog a.D.w h2 (.ref b) d' (b :: r'))
    (hok : ∀ c ∈ r', c ≠ a.L ∧ c ∉ a.F ∧ a.fine c) (hcl : ∀ y sl c q, ρ.lookup y = some sl → sl.own = true → fp y = c :: q → c ∉ r') :
    Sat a (ρ.set x ⟨d', true⟩) m (fun y => if y = x then b :: r' else fp y) g h2 := by
  obtain ⟨b', r0, e1, e2, e3, e4, e5, e6, e7⟩ := hs.own x _ hx rfl
  rw [hb] at e1; cases e1
  have bt : But a.F (· = b) h1 h2 := k
  have fb := hs.fpok x _ hx b (by rw [hb]; exact .head _)
  obtain ⟨v0, hv0, rd0⟩ := hs.var x _ hx
  have hmx : v0 = .ref b := by rw [e2] at hv0; cases hv0; rfl
  subst hmx
  have nsq : NoSeq (· = b) h1 := fun c o hc ho vs n q => by
    subst hc
    cases d <;> first | (cases e3; done) | skip
    · obtain ⟨b', vs', n', _, e, _, ho', _⟩ := rd0.list_inv
      cases e
      rw [ho] at ho'; cases ho'
      have z : Value.type "list" = Value.type "tuple" := congrArg Obj.cls q
      exact absurd z (by decide)
    · obtain ⟨b', kvs, ps, e, _, _, hd, _⟩ := rd0.dict_inv
      cases e
      obtain ⟨o', es, ep, ho', hx', _⟩ := hd
      rw [ho] at ho'; cases ho'
      rw [q] at hx'
      have z : Value.type "tuple" = Value.type "dict" := hx'.1
      exact absurd z (by decide)
  have hrb : ∀ c ∈ r', c ≠ b := fun c hc q => hcl x _ b r hx rfl hb (q ▸ hc)
  have neb : ∀ y sl, y ≠ x → ρ.lookup y = some sl → b ∉ fp y := fun y sl hy e => e7 y sl hy e
  refine ⟨fun c o e => (k c o (fun q => by rw [q, e5] at e; cases e) (hs.top c o e)).1 (fun q => by rw [framesOf_new O.stk c q] at e; cases e), fun c o e => ?_, fun c o e => ?_, hs.lnew, hs.lg, ?_, fun c hc => ?_, fun y sl e => ?_, fun y sl e c hc => ?_, fun y sl e o => ?_, hs.pin⟩
  · obtain ⟨o', e'⟩ := hs.dom c o e
    by_cases hc : c = b
    · subst hc; exact ⟨o2, ho2⟩
    · obtain ⟨_, sl, q⟩ := k c o' hc e'; exact ⟨_, q⟩
  · have hc : c ≠ b := fun q => by rw [q, e4] at e; cases e
    obtain ⟨p, sl, q⟩ := hs.gx c o e
    obtain ⟨_, sl', q'⟩ := k c _ hc q
    exact ⟨fun z => (k c o hc (p z)).1 z, sl', q'⟩
  · obtain ⟨oL, es, ep, hL, q⟩ := hs.ns
    obtain ⟨_, sl', q'⟩ := k _ _ (Ne.symm fb.1) hL
    exact ⟨_, es, ep, q', q⟩
  · obtain ⟨o, es, n, ho, hd⟩ := hs.ff c hc
    obtain ⟨_, sl', q'⟩ := k c o (fun q => fb.2.1 (q ▸ hc)) ho
    exact ⟨_, es, n, q', hd⟩
  · rw [Ro.set_lookup] at e
    by_cases hy : y = x
    · subst hy
      simp only [if_pos] at e ⊢
      cases e
      exact ⟨.ref b, e2, hrd hrb nsq⟩
    · simp only [if_neg hy] at e ⊢
      obtain ⟨u, hu, q⟩ := hs.var y sl e
      exact ⟨u, hu, q.but bt nsq hs.ff.noSeq fun c hc => ⟨fun z => neb y sl hy e (z ▸ hc), (hs.fpok y sl e c hc).2.1⟩⟩
  · rw [Ro.set_lookup] at e
    by_cases hy : y = x
    · subst hy
      simp only [if_pos] at hc
      rcases List.mem_cons.mp hc with rfl | hc
      · exact fb
      · exact hok c hc
    · simp only [if_neg hy] at e hc
      exact hs.fpok y sl e c hc
  · rw [Ro.set_lookup] at e
    by_cases hy : y = x
    · subst hy
      simp only [if_pos] at e ⊢
      cases e
      refine ⟨b, r', rfl, e2, hmut, e4, e5, fun q => hrb b q rfl, fun z sl' hz e' => ?_⟩
      rw [Ro.set_lookup, if_neg hz] at e'
      rw [if_neg hz]
      exact neb z sl' hz e'
    · simp only [if_neg hy] at e ⊢
      obtain ⟨c, q, f1, f2, f3, f4, f5, f6, f7⟩ := hs.own y sl e o
      refine ⟨c, q, f1, f2, f3, f4, f5, f6, fun z sl' hz e' => ?_⟩
      rw [Ro.set_lookup] at e'
      by_cases hzx : z = x
      · subst hzx
        simp only [if_pos]
        intro hc
        rcases List.mem_cons.mp hc with rfl | hc
        · exact neb y sl hy e (by rw [f1]; exact .head _)
        · exact hcl y sl c q e o f1 hc
      · simp only [if_neg hzx] at e' ⊢
        exact f7 z sl' hz e'

/-- an owned list stands at its place -/
theorem Sat.ownList {m : Str → Option Value} {fp : Str → List Addr} {g h : Heap} {x : Str} {xs : List PyData} (hs : Sat a ρ m fp g h) (hx : ρ.lookup x = some ⟨.list xs, true⟩) :
    ∃ b r vs n, fp x = b :: r ∧ m x = some (.ref b) ∧ h.get? b = some (listO vs n) ∧ RdAll a.D.prog a.D.w h vs xs r := by
  obtain ⟨b, r, e1, e2, _⟩ := hs.own x _ hx rfl
  obtain ⟨v, hv, rd⟩ := hs.var x _ hx
  rw [e2] at hv; cases hv
  rw [e1] at rd
  obtain ⟨b', vs, n, bs, e, e', ho, q⟩ := rd.list_inv
  cases e; cases e'
  exact ⟨b, r, vs, n, e1, e2, ho, q⟩

theorem kindOf_local {env : Env} {x : Str} (h : env.kindOf x = some .local) : env.kindOf x = some .local := h

/-- x.append(e) -/
theorem Ex1.append (O : a.Ok) {x : Str} {np apos cpos pos : Pos} {e : Expr} {xs : List PyData} (hx : ρ.lookup x = some ⟨.list xs, true⟩)
    (h : Ev a E ρ e fun d f => 1 ≤ f ∧ xs.length ≤ sizeLine ∧ N (ρ.set x ⟨.list (xs ++ [d]), true⟩))
    (hl : a.env.kindOf x = some .local := by rfl) (hd : (x == ("__debug__" : Str)) = false := by decide) (hi : interactive a.env = false := by rfl)
    (hline : (apos.endLine == cpos.line) = true := by rfl) (htrees : backTo cpos (starEach [e] a.env) = [(false, eval e a.env)] := by rfl) :
    Ex1 a E ρ (.Expr (.Call (.Attribute (.Name x np) "append" apos) [e] [] cpos) pos) N R C := by
  intro m fp g s Q hs k1 _ _
  obtain ⟨b, r, vs, n, e1, e2, ho, q⟩ := hs.ownList hx
  refine wpAny_Expr ?_ hi rfl
  refine wpAny_Call_append rfl (by rw [htrees]; rfl) hline htrees ?_
  refine wpAny_Name (wpAny_loadName_local O.kind hl hs.ns e2 ⟨b, vs.toArray, rfl, ⟨_, n, ho, rfl, rfl, rfl⟩, ?_⟩) hd
  refine h m fp g s _ hs fun v d f as h1 tk rr p => ?_
  obtain ⟨b', r', vs', n', f1, f2, ho', q'⟩ := rr.sat.ownList hx
  rw [e1] at f1; cases f1
  refine call_meets F.slot_list_append ⟨_, ho', rfl⟩ F.entry_list_append (F.args_list_append_2 _ _) (list_append b vs'.toArray n' v (by simpa [q'.length] using p.2.1)) ⟨ho', ?_⟩
  have up := IsL.update ho' (fun y => y.push v)
  have same : Heap.SameBut b h1 (h1.update b (Obj.mapSeq fun y => y.push v)) := Heap.SameBut.update ..
  generalize h1.update b (Obj.mapSeq fun y => y.push v) = h2 at up same ⊢
  obtain ⟨n2, up⟩ : ∃ n2, h2.get? b = some (listO (vs' ++ [v]) n2) := ⟨(if ((vs'.toArray.push v).size == vs'.toArray.size) = true then n' else n' + 1), by rw [up]; unfold listO; simp⟩
  refine k1 _ _ _ h2 tk (Sat.change rr.sat hx e1 O (but_of_same same) _ up (d' := .list (xs ++ [d])) (r' := r ++ as) rfl (fun hne nsq => ?_) (fun c hc => ?_) fun y sl c q0 ey oy fy hc => ?_) p.2.2
  · refine .list up ?_
    refine (q'.snoc rr.rd).but (but_of_same same) nsq rr.sat.ff.noSeq fun c hc => ⟨fun z => hne c hc z, ?_⟩
    rcases List.mem_append.mp hc with hc | hc
    · exact (rr.sat.fpok x _ hx c (by rw [e1]; exact .tail _ hc)).2.1
    · exact (rr.fo.ok c hc).2.1
  · rcases List.mem_append.mp hc with hc | hc
    · exact rr.sat.fpok x _ hx c (by rw [e1]; exact .tail _ hc)
    · exact rr.fo.ok c hc
  · rcases List.mem_append.mp hc with hc | hc
    · obtain ⟨c', q1, g1, _, _, _, _, g6, g7⟩ := rr.sat.own y sl ey oy
      rw [fy] at g1; cases g1
      by_cases hyx : x = y
      · subst hyx; rw [e1] at fy; cases fy; exact g6 hc
      · exact g7 x _ hyx hx (by rw [e1]; exact .tail _ hc)
    · exact rr.fo.cl y sl c q0 ey oy fy p.1 hc

/-- x op= value, a text or a number -/
theorem Ex1.aug (O : a.Ok) {x : Str} {np pos : Pos} {op : Operator} {value : Expr} {d0 : PyData} {o0 : Bool} (hx : ρ.lookup x = some ⟨d0, o0⟩)
    (h : Ev a E ρ value fun d _ => match op, d0, d with
      | .Add, .str x', .str y => x'.length + y.length ≤ sizeLine ∧ N (ρ.set x ⟨.str (x' ++ y), false⟩)
      | .Add, .int i, .int j => N (ρ.set x ⟨.int (i + j), false⟩)
      | .FloorDiv, .int i, .int j => j ≠ 0 ∧ N (ρ.set x ⟨.int (i.fdiv j), false⟩)
      | _, _, _ => False)
    (hl : a.env.kindOf x = some .local := by rfl) (hp : a.pinN ≠ some x := by first | exact nofun | exact pin_ne (by rfl)) : Ex1 a E ρ (.AugAssign (.Name x np) op value pos) N R C := by
  intro m fp g s Q hs k1 _ _
  obtain ⟨v0, hv0, rd0⟩ := hs.var x _ hx
  refine wpAny_AugAssign_Name (wpAny_loadName_local O.kind hl hs.ns hv0 (h m fp g s _ hs fun v d f as h1 tk rr p => ?_))
  have fin : ∀ {v' : Value} {d' : PyData} {tk' : Nat}, Rd a.D.prog a.D.w h1 v' d' [] → N (ρ.set x ⟨d', false⟩) →
      wpAny a.M a.A (storeName a.env x v') (fun _ => Q .next) E { s with heap := h1, toks := tk' } := fun {v' d' tk'} q p =>
    storeName_sat O hs (s := { s with heap := h1, toks := tk' }) (rr.made q) (by decide) false (by intro q; cases q) hl hp fun h2 tk2 q => k1 _ _ _ _ _ q p
  dsimp only at p
  split at p
  · obtain ⟨⟨t, rfl⟩, _⟩ := rd0.str_inv
    obtain ⟨⟨u, rfl⟩, _⟩ := rr.rd.str_inv
    exact SB.iadd (fun t' k => fin (.str _ _) p.2) p.1
  · obtain ⟨⟨t, rfl⟩, _⟩ := rd0.int_inv
    obtain ⟨⟨u, rfl⟩, _⟩ := rr.rd.int_inv
    exact wpAny_iadd_int (fin (.int _ _) p)
  · obtain ⟨⟨t, rfl⟩, _⟩ := rd0.int_inv
    obtain ⟨⟨u, rfl⟩, _⟩ := rr.rd.int_inv
    refine PyProof.Rows.ifloordiv_int p.1 (fin (.int _ _) p.2) (Or.inr (PylongRoom.of (O.D.lim.keeps rr.sat.top) ?_ (O.seer _ rr.sat.top)))
    have := O.depth
    show a.A.depth + 100 < 1000
    omega
  · exact p.elim

/-- a list's item stored, its own words known -/
theorem setItem_exact {prog : Program} {w : World} {A : Around} {E : Value → Shared → Prop} {s : Shared} {b : Addr} {vs : List Value} {n : Nat} {i : Int} {t : Tok} {v : Value} {Q : Unit → Shared → Prop}
    (ho : s.heap.get? b = some (listO vs n)) (h0 : 0 ≤ i) (hfit : i < 2 ^ 63) (hi : i < vs.length)
    (K : ∀ h n', h.get? b = some (listO (vs.set i.toNat v) n') → Heap.SameBut b s.heap h → Q () { s with heap := h }) : wpAny (model prog w) A (setItem (.ref b) (.int i t) v) Q E s := by
  have hl : s.heap.IsList b vs.toArray := ⟨_, ho, rfl, n, rfl⟩
  unfold setItem
  first | with_reducible refine wpAny_holding ?_ | skip
  refine wpAny_bind (wpAny_sequenceKey hl.typeIs (by decide) ?_)
  refine wpAny_bind (wpAny_callSpecial?_slot (name := Str.ofString "__setitem__") hl.typeIs slot_list_setitem (wpAny_call_entry slot_list_setitem hl.typeIs entry_list_setitem ?_ (args_list_setitem _ _ _)))
  show wpAny _ _ (Builtin.List.listSubscript? (.int i t) >>= _) _ _ s
  refine wpAny_bind (wpAny_listSubscript_int (fitsIndex_of h0 hfit) ?_)
  clear hfit
  obtain ⟨j, rfl⟩ := Int.eq_ofNat_of_zero_le h0
  have hj : j < vs.toArray.size := by simp; omega
  have hx' : vs.toArray[j]? = some (vs.toArray[j]) := Array.getElem?_eq_getElem hj
  show wpAny _ _ ((seqItemAt b j >>= fun r => pure (r.map (j, ·))) >>= _) _ _ s
  refine wpAny_bind (wpAny_bind (wpAny_seqItemAt ho rfl (wpAny_pure ?_)))
  rw [hx']
  show wpAny _ _ (setSeqItemAt b j v >>= _) _ _ s
  have up := IsL.update ho (·.setIfInBounds j v)
  have fin : ∀ h, h = s.heap.update b (Obj.mapSeq (·.setIfInBounds j v)) → Q () { s with heap := h } := fun h e => by
    rw [e]
    refine K _ _ (by rw [up]; simp [listO]; rfl) (Heap.SameBut.update ..)
  refine wpAny_bind (wpAny_setSeqItemAt ho rfl ?_)
  first
    | exact wpAny_bind (wpAny_pure (wpAny_pure ⟨.none, rfl, wpAny_pure (fin _ rfl)⟩))
    | exact wpAny_pure ⟨.none, rfl, wpAny_pure (fin _ rfl)⟩

theorem RdAll.set {prog : Program} {w : World} {h : Heap} {k : Int} {t : Tok} : ∀ {vs : List Value} {ds : List PyData}, RdAll prog w h vs ds [] → ∀ j, RdAll prog w h (vs.set j (.int k t)) (ds.set j (.int k)) []
  | [], _, .nil, j => by simpa using RdAll.nil
  | v :: vs, d :: ds, r, j => by
    generalize e : ([] : List Addr) = as at r
    cases r with
    | @cons _ _ _ _ as bs r q =>
      have := List.append_eq_nil_iff.mp e.symm
      obtain ⟨rfl, rfl⟩ := this
      cases j with
      | zero => simpa using RdAll.cons (.int k t) q
      | succ j => simpa using RdAll.cons r (RdAll.set q j)

/-- x[idx] += value, in a list of numbers -/
theorem Ex1.augItem (O : a.Ok) {x : Str} {np sp pos : Pos} {idx value : Expr} {xs : List PyData} (hx : ρ.lookup x = some ⟨.list xs, true⟩) (hat : atoms xs = true)
    (h : Ev a E ρ idx fun di _ => ∃ i c, di = .int i ∧ 0 ≤ i ∧ i < 2 ^ 62 ∧ xs[i.toNat]? = some (.int c) ∧ Ev a E ρ value fun dv _ => ∃ k, dv = .int k ∧ N (ρ.set x ⟨.list (xs.set i.toNat (.int (c + k))), true⟩))
    (hl : a.env.kindOf x = some .local := by rfl) (hd : (x == ("__debug__" : Str)) = false := by decide)
    (ha : ∀ ov iv new, augStore idx ov iv new = (do holding [new, ov, iv] (setItem ov iv new); release [new, ov, iv] []; pure .next) := by intro _ _ _; rfl) :
    Ex1 a E ρ (.AugAssign (.Subscript (.Name x np) idx sp) .Add value pos) N R C := by
  intro m fp g s Q hs k1 _ _
  obtain ⟨b, r, vs, n, e1, e2, ho, q⟩ := hs.ownList hx
  refine wpAny_AugAssign_Subscript_any ?_ ha
  refine wpAny_Name (wpAny_loadName_local O.kind hl hs.ns e2 ?_) hd
  refine h m fp g s _ hs fun vi di fi asi h1 tk rr p => ?_
  obtain ⟨i, c, rfl, p0, p1, hc, p⟩ := p
  obtain ⟨⟨ti, rfl⟩, rfl⟩ := rr.rd.int_inv
  obtain ⟨b', r', vs', n', f1, f2, ho', q'⟩ := rr.sat.ownList hx
  rw [e1] at f1; cases f1
  obtain rfl := RdAll.atoms q' hat
  obtain ⟨v, bs, hv, rv, _⟩ := q'.get hc
  obtain ⟨⟨tc, rfl⟩, _⟩ := rv.int_inv
  have hlt : i.toNat < vs'.length := (List.getElem?_eq_some_iff.mp hv).1
  refine wpAny_getItem_list (items := vs'.toArray) (x := .int c tc) ⟨_, ho', rfl, n', rfl⟩ p0 (by omega) (by simpa using hv) ?_
  refine p m fp g _ _ rr.sat fun vv dv fv asv h2 tk2 r2 p2 => ?_
  obtain ⟨k, rfl, pN⟩ := p2
  obtain ⟨⟨tv, rfl⟩, _⟩ := r2.rd.int_inv
  refine wpAny_iadd_int ?_
  obtain ⟨b3, r3, vs3, n3, g1, g2, ho3, q3⟩ := r2.sat.ownList hx
  rw [e1] at g1; cases g1
  have hlen : vs3.length = vs'.length := by rw [q3.length, q'.length]
  refine setItem_exact (s := { s with heap := h2, toks := tk2 + 1 }) ho3 p0 (by omega) (by omega) fun h3 n4 ho4 same => ?_
  refine k1 _ _ _ h3 _ (Sat.change r2.sat hx e1 O (but_of_same same) _ ho4 (d' := .list (xs.set i.toNat (.int (c + k)))) (r' := []) rfl (fun hne nsq => ?_) (fun c hc => nomatch hc) fun _ _ _ _ _ _ _ hc => nomatch hc) pN
  refine .list ho4 ?_
  exact (RdAll.set q3 i.toNat).but (but_of_same same) nsq r2.sat.ff.noSeq fun c hc => nomatch hc
end
end Mine
end

section
open PySem PySem.W PySem.Calls PyProof.Rows
set_option maxRecDepth 100000
set_option autoImplicit false
set_option linter.unusedVariables false
namespace Mine

/-- a target takes a datum -/
def Asg (a : Act) (E : Value → Shared → Prop) (ρ : Ro) (target : Expr) (d : PyData) (N : Ro → Prop) : Prop :=
  ∀ m fp g (s : Shared) v as (Q : Unit → Shared → Prop), Sat a ρ m fp g s.heap → Rd a.D.prog a.D.w s.heap v d as → Fo a ρ fp s.heap 1 as →
    (∀ ρ' m' fp' h tk, Sat a ρ' m' fp' g h → N ρ' → Q () { s with heap := h, toks := tk }) → wpAny a.M a.A (assign target a.env v) Q E s

def namesOf : List Expr → Option (List Str)
  | [] => some []
  | .Name x _ :: r => (namesOf r).map (x :: ·)
  | _ => none
theorem namesOf_cons {e1 : Expr} {rest : List Expr} {xs : List Str} (h : namesOf (e1 :: rest) = some xs) : ∃ x p ys, e1 = .Name x p ∧ namesOf rest = some ys ∧ xs = x :: ys := by
  cases e1 <;> first | (simp [namesOf] at h; done) | skip
  rename_i x p
  cases q : namesOf rest with
  | none => simp [namesOf, q] at h
  | some ys => simp [namesOf, q] at h; exact ⟨x, p, ys, rfl, rfl, h.symm⟩
def setAll : Ro → List Str → List PyData → Ro
  | ρ, x :: xs, d :: ds => setAll (ρ.set x ⟨d, false⟩) xs ds
  | ρ, _, _ => ρ

section
variable {a : Act} {E : Value → Shared → Prop} {ρ : Ro} {N C : Ro → Prop} {R : Ro → PyData → Prop}

theorem Asg.name (O : a.Ok) {x : Str} {pos : Pos} {d : PyData} (h : N (ρ.set x ⟨d, false⟩)) (hl : a.env.kindOf x = some .local := by rfl) (hp : a.pinN ≠ some x := by first | exact nofun | exact pin_ne (by rfl)) : Asg a E ρ (.Name x pos) d N := by
  intro m fp g s v as Q hs r fo k
  refine wpAny_assign_Name (storeName_sat O hs (f := 1) (as := as) ⟨hs, Ext.refl _ _, r, fo⟩ (Nat.le_refl _) false (by intro q; cases q) hl hp fun h2 tk2 q => k _ _ _ _ _ q h)

theorem Fo.set {fp : Str → List Addr} {h0 h1 : Heap} {as bs : List Addr} {x : Str} {d : PyData} (f : Fo a ρ fp h0 1 as) : Fo a (ρ.set x ⟨d, false⟩) (fun y => if y = x then bs else fp y) h1 1 as := by
  have key : ∀ y sl, (ρ.set x ⟨d, false⟩).lookup y = some sl → sl.own = true → y ≠ x ∧ ρ.lookup y = some sl := fun y sl e o => by
    rw [Ro.set_lookup] at e
    by_cases hy : y = x
    · subst hy; rw [if_pos rfl] at e; cases e; cases o
    · rw [if_neg hy] at e; exact ⟨hy, e⟩
  refine ⟨f.ok, fun y sl b r e o z hb => ?_, fun y sl b r e o z _ hb => ?_, fun k => absurd k (by decide)⟩
  · obtain ⟨hy, e'⟩ := key y sl e o
    rw [if_neg hy] at z
    exact f.cl y sl b r e' o z (Nat.le_refl _) (List.mem_of_mem_tail hb)
  · obtain ⟨hy, e'⟩ := key y sl e o
    rw [if_neg hy] at z
    exact f.cl y sl b r e' o z (Nat.le_refl _) hb

theorem assignNames (O : a.Ok) : ∀ {elts : List Expr} {xs : List Str} {ds : List PyData} {ρ : Ro}, namesOf elts = some xs → xs.length = ds.length → (∀ x ∈ xs, a.env.kindOf x = some .local ∧ a.pinN ≠ some x) →
    ∀ {vs : List Value} {as : List Addr} {m : Str → Option Value} {fp : Str → List Addr} {g : Heap} {s : Shared} {Q : Unit → Shared → Prop}, Sat a ρ m fp g s.heap → RdAll a.D.prog a.D.w s.heap vs ds as → Fo a ρ fp s.heap 1 as →
    (∀ m' fp' h tk, Sat a (setAll ρ xs ds) m' fp' g h → Q () { s with heap := h, toks := tk }) → wpAny a.M a.A (assignInOrder ((assignEach elts a.env).map (·.2)) vs) Q E s
  | [], _, _, ρ, e, hlen, _, vs, as, m, fp, g, s, Q, hs, r, fo, k => by
    cases e
    cases r with
    | nil => exact wpAny_pure (k m fp s.heap s.toks hs)
    | cons _ _ => simp at hlen
  | e1 :: rest, xs, ds, ρ, e, hlen, hl, vs, as, m, fp, g, s, Q, hs, r, fo, k => by
    obtain ⟨x, p, ys, rfl, q, rfl⟩ := namesOf_cons e
    cases r with
    | nil => simp at hlen
    | @cons v vs d ds as1 as2 r1 r2 =>
      show wpAny _ _ (do holding vs (assign (.Name x p) a.env v); assignInOrder ((assignEach rest a.env).map (·.2)) vs) _ _ _
      refine wpAny_bind (wpAny_holding (wpAny_assign_Name ?_))
      have f1 : Fo a ρ fp s.heap 1 as1 := fo.sub (Nat.le_refl _) fun b hb => List.mem_append_left _ hb
      have f2 : Fo a ρ fp s.heap 1 as2 := fo.sub (Nat.le_refl _) fun b hb => List.mem_append_right _ hb
      refine wpAny_storeName_local (hl x (.head _)).1 hs.ns (fun h' hn hsb => ?_) (by rw [O.kind]; rfl)
      have sat' := Sat.store O (f := 1) (as := as1) (d := d) ⟨hs, Ext.refl _ _, r1, f1⟩ (Nat.le_refl _) hn hsb false (by intro q; cases q) (hl x (.head _)).2
      have r2' := r2.but (but_of_same hsb) hs.noSeqL hs.ff.noSeq fun b hb => ⟨(f2.ok b hb).1, (f2.ok b hb).2.1⟩
      exact assignNames O q (by simpa using hlen) (fun y hy => hl y (.tail _ hy)) (s := { s with heap := h', toks := s.toks + 1 }) sat' r2' f2.set fun m' fp' h2 tk2 q => k m' fp' h2 tk2 q

theorem assignEach_len : ∀ {elts : List Expr} {xs : List Str} {env : Env}, namesOf elts = some xs → (assignEach elts env).length = xs.length ∧ (assignEach elts env).findIdx? (·.1) = none
  | [], _, _, e => by cases e; exact ⟨rfl, rfl⟩
  | e1 :: rest, xs, env, e => by
    obtain ⟨x, p, ys, rfl, q, rfl⟩ := namesOf_cons e
    obtain ⟨i1, i2⟩ := assignEach_len (env := env) q
    refine ⟨?_, ?_⟩
    · show (assignEach rest env).length + 1 = _
      rw [i1]; rfl
    · show List.findIdx? (·.1) ((false, assign (.Name x p) env) :: assignEach rest env) = none
      rw [List.findIdx?_cons, i2]; rfl

theorem Asg.tuple (O : a.Ok) {elts : List Expr} {k : Nat} {pos : Pos} {xs : List Str} {ds : List PyData} (h : N (setAll ρ xs ds)) (hn : namesOf elts = some xs) (hlen : xs.length = ds.length)
    (hl : ∀ x ∈ xs, a.env.kindOf x = some .local ∧ a.pinN ≠ some x) : Asg a E ρ (.Tuple elts k pos) (.tuple ds) N := by
  intro m fp g s v as Q hs r fo K
  obtain ⟨t, vs, n, rfl, ht, q⟩ := r.tuple_inv
  obtain ⟨l1, l2⟩ := assignEach_len (env := a.env) hn
  refine wpAny_assign_Tuple (t := t) (items := vs.toArray) O.hd ⟨_, ht, rfl, n, rfl⟩ (by rw [l1, hlen]; simp [q.length]) l2 fun h' hx => ?_
  have ex : Ext a.F s.heap h' := Kp.ext fun b o e => hx b o (Nat.ne_of_lt (Heap.lt_size e)) e
  exact assignNames O hn hlen hl (s := { s with heap := h' }) (hs.ext O ex) (q.ext ex hs.ff fun b hb => (fo.ok b hb).2.1) ⟨fo.ok, fo.tl, fo.cl, fun k => absurd k (by decide)⟩ fun m' fp' h2 tk2 z => K _ m' fp' h2 tk2 z h

/-! loops -/
structure Items (a : Act) (P : Nat → Value → Prop) (its : List PyData) (sup : List Addr) (h : Heap) : Prop where
  at_ : ∀ j v, P j v → ∃ d as, its[j]? = some d ∧ Rd a.D.prog a.D.w h v d as ∧ ∀ b ∈ as, b ∈ sup

/-- what the iterator stands on is not the activation's to change -/
structure Apart (a : Act) (ρ : Ro) (fp : Str → List Addr) (ws : List Addr) (h : Heap) : Prop where
  ok : ∀ b ∈ ws, b ≠ a.L ∧ b ∉ a.F
  here : ∀ b ∈ ws, ∃ o, h.get? b = some o
  own : ∀ b ∈ ws, b ∉ ownedOf ρ fp

/-- no list, tuple, dict at these places -/
def Foreign (ws : List Addr) (h : Heap) : Prop := ∀ b ∈ ws, ∃ o, h.get? b = some o ∧ o.cls ≠ .type "list" ∧ o.cls ≠ .type "tuple" ∧ o.cls ≠ .type "dict" ∧ ∀ es n, o.data ≠ .dict es n

theorem Foreign.noSeq {ws : List Addr} {h : Heap} (x : Foreign ws h) : NoSeq (· ∈ ws) h := fun b o hb ho vs n q => by
  obtain ⟨o', ho', _, h2, _⟩ := x b hb
  rw [ho] at ho'; cases ho'
  rw [q] at h2; exact h2 rfl
theorem Rd.foreign {prog : Program} {w : World} {ws : List Addr} {h : Heap} (x : Foreign ws h) {v : Value} {d : PyData} {as : List Addr} (r : Rd prog w h v d as) : ∀ b ∈ as, b ∉ ws :=
  (Rd.ind (M1 := fun v d as => ∀ b ∈ as, b ∉ ws) (M2 := fun vs ds as => ∀ b ∈ as, b ∉ ws) (fun _ hb => nomatch hb) (fun _ _ hb => nomatch hb) (fun _ _ _ hb => nomatch hb) (fun _ _ _ hb => nomatch hb)
    (fun a vs n xs as ho _ ih b hb => (List.mem_cons.mp hb).elim (fun e hw => by
      obtain ⟨o', ho', h1, _⟩ := x _ hw
      rw [e, ho] at ho'; cases ho'; exact h1 rfl) (ih b))
    (fun a vs n xs as ho _ ih => ih)
    (fun a kvs ps ho _ _ b hb hw => by
      obtain ⟨o', ho', _, _, h3, _⟩ := x _ hw
      obtain ⟨o, es, ep, ho, hx, _⟩ := ho
      rw [List.mem_singleton.mp hb, ho] at ho'; cases ho'; exact h3 hx.1)
    (fun _ hb => nomatch hb) (fun v vs d ds as bs _ _ i1 i2 b hb => (List.mem_append.mp hb).elim (i1 b) (i2 b))).1 r

/-- foreign new places were written -/
theorem Sat.foreign {m : Str → Option Value} {fp : Str → List Addr} {g h h' : Heap} {ws : List Addr} (x : Sat a ρ m fp g h) (fo : Foreign ws h) (k : ∀ b o, b ∉ ws → h.get? b = some o → h'.get? b = some o)
    (hnew : ∀ b ∈ ws, g.get? b = none ∧ a.D.H0.get? b = none ∧ a.H1.get? b = none ∧ b ≠ a.L ∧ b ∉ a.F) : Sat a ρ m fp g h' := by
  have bt : But a.F (· ∈ ws) h h' := fun b o hb e => ⟨fun _ => k b o hb e, o.slots, k b o hb e⟩
  refine ⟨fun b o e => k b o (fun q => by rw [(hnew b q).2.1] at e; cases e) (x.top b o e), fun b o e => ?_, fun b o e => ?_, x.lnew, x.lg, ?_, fun b hb => ?_, fun y sl e => ?_, x.fpok, x.own, x.pin⟩
  · obtain ⟨o', e'⟩ := x.dom b o e
    exact ⟨o', k b o' (fun q => by rw [(hnew b q).2.2.1] at e; cases e) e'⟩
  · have hb : b ∉ ws := fun q => by rw [(hnew b q).1] at e; cases e
    obtain ⟨p, sl, q⟩ := x.gx b o e
    exact ⟨fun z => k b o hb (p z), sl, k b _ hb q⟩
  · obtain ⟨o, es, ep, ho, r⟩ := x.ns
    exact ⟨o, es, ep, k _ _ (fun q => (hnew _ q).2.2.2.1 rfl) ho, r⟩
  · obtain ⟨o, es, n, ho, hd⟩ := x.ff b hb
    exact ⟨o, es, n, k _ _ (fun q => (hnew _ q).2.2.2.2 hb) ho, hd⟩
  · obtain ⟨v, hv, r⟩ := x.var y sl e
    exact ⟨v, hv, r.but bt fo.noSeq x.ff.noSeq fun b hb => ⟨Rd.foreign fo r b hb, (x.fpok y sl e b hb).2.1⟩⟩
end
end Mine
end

section
open PySem PySem.W PySem.Calls PyProof.Rows
set_option maxRecDepth 100000
set_option autoImplicit false
set_option linter.unusedVariables false
namespace Mine

/-- what becomes of an exception in a loop's turn -/
abbrev loopE (a : Act) (E : Value → Shared → Prop) : Value → Shared → Prop := notedBy a.M a.A a.env fun e s' => cameBackBy a.M a.A a.env E e s'

section
variable {a : Act} {E : Value → Shared → Prop} {ρ : Ro} {N C : Ro → Prop} {R : Ro → PyData → Prop}

theorem Sat.gxUp {m : Str → Option Value} {fp : Str → List Addr} {g h h' : Heap} {cs : List Addr} (x : Sat a ρ m fp g h) (hc : ∀ c ∈ cs, g.get? c = none) (y : Ext a.F (hidC a ρ fp cs h) h') : Ext a.F g h' := fun b o e => by
  have hC : b ∉ cs := fun q => by rw [hc b q] at e; cases e
  have hL : b ≠ a.L := fun q => by rw [q, x.lg] at e; cases e
  have hO : b ∉ ownedOf ρ fp := fun q => by
    obtain ⟨z, sl, r, e1, o1, z1⟩ := mem_ownedOf.mp q
    obtain ⟨b', r', f1, _, _, f2, _⟩ := x.own z sl e1 o1
    rw [z1] at f1; cases f1
    rw [f2] at e; cases e
  obtain ⟨p, sl, q⟩ := x.gx b o e
  obtain ⟨_, sl', q'⟩ := y b _ (hidC_get q hC hL hO)
  exact ⟨fun z => (y b o (hidC_get (p z) hC hL hO)).1 z, sl', q'⟩

theorem Sat.noSeqOwn {m : Str → Option Value} {fp : Str → List Addr} {g h : Heap} (x : Sat a ρ m fp g h) : NoSeq (· ∈ a.L :: ownedOf ρ fp) h := fun b o hb ho vs n q => by
  rcases List.mem_cons.mp hb with rfl | hb
  · exact x.noSeqL _ o rfl ho vs n q
  · obtain ⟨y, sl, r, e, ow, f⟩ := mem_ownedOf.mp hb
    obtain ⟨b', r', f1, f2, f3, _⟩ := x.own y sl e ow
    rw [f] at f1; cases f1
    obtain ⟨v, hv, rd⟩ := x.var y sl e
    rw [f2] at hv; cases hv
    obtain ⟨d, o'⟩ := sl
    cases d <;> first | (cases f3; done) | skip
    · obtain ⟨b2, vs2, n2, _, e2, _, ho2, _⟩ := rd.list_inv
      cases e2
      rw [ho] at ho2; cases ho2
      have z : Value.type "list" = Value.type "tuple" := congrArg Obj.cls q
      exact absurd z (by decide)
    · obtain ⟨b2, kvs, ps, e2, _, _, hd, _⟩ := rd.dict_inv
      cases e2
      obtain ⟨o2, es, ep, ho2, hx, _⟩ := hd
      rw [ho] at ho2; cases ho2
      rw [q] at hx
      have z : Value.type "tuple" = Value.type "dict" := hx.1
      exact absurd z (by decide)

theorem but_hidC {fp : Str → List Addr} {h h' : Heap} {cs : List Addr} (y : Ext a.F (hidC a ρ fp cs h) h') : But a.F (· ∈ cs ++ a.L :: ownedOf ρ fp) h h' := fun b o hb e =>
  y b o (hideAll_get _ e hb)
theorem but_hid {fp : Str → List Addr} {h h' : Heap} (y : Ext a.F (hid a ρ fp h) h') : But a.F (· ∈ a.L :: ownedOf ρ fp) h h' := but_hidC (cs := []) y
theorem Sat.noSeqOwnC {m : Str → Option Value} {fp : Str → List Addr} {g h : Heap} {cs : List Addr} (x : Sat a ρ m fp g h) (hc : ∀ c ∈ cs, ∃ u, h.IsCell c u) : NoSeq (· ∈ cs ++ a.L :: ownedOf ρ fp) h := fun b o hb ho vs n q => by
  rcases List.mem_append.mp hb with hb | hb
  · obtain ⟨u, o', ho', hd⟩ := hc b hb
    rw [ho'] at ho; cases ho; rw [q] at hd; cases hd
  · exact x.noSeqOwn b o hb ho vs n q

set_option maxHeartbeats 1000000 in
theorem loop_runX (O : a.Ok) (cs : List Addr) {target : Expr} {body : List Stmt} {I : Addr} {fpW wr sup : List Addr} {its : List PyData} {P : Nat → Value → Prop} {St : Nat → Heap → Prop}
    (W : Walks a.D.prog a.D.w a.A I fpW wr its.length P St) (fw : ∀ i h, St i h → Foreign wr h)
    (go : ∀ i (s : Shared) v d as (Q : Unit → Shared → Prop) (E' : Value → Shared → Prop), St i s.heap → Rd a.D.prog a.D.w s.heap v d as → d ∈ its → Q () s → wpAny a.M a.A (letOwnedTupleGo target (.ref I) v) Q E' s)
    (J : List PyData → Ro → Prop)
    (fin : ∀ ρ', J [] ρ' → N ρ') {m : Str → Option Value} {fp : Str → List Addr} {g : Heap} {s : Shared} {Q : Flow → Shared → Prop}
    (turn : ∀ x rest ρ', J (x :: rest) ρ' → ∀ m' fp' g' h0 tk0 v as (Q' : Flow → Shared → Prop), Sat a ρ' m' fp' g' h0 → (∀ c ∈ cs, ∃ u, h0.IsCell c u) → (∀ c ∈ cs, g'.get? c = none) → Rd a.D.prog a.D.w h0 v x as → Fo a ρ' fp' h0 1 as → (∀ h', Ext a.F g' h' → Ext a.F g h') →
      (∀ ρ2 m2 fp2 h tk, Sat a ρ2 m2 fp2 g' h → (∀ c ∈ cs, ∃ u, h.IsCell c u) → J rest ρ2 → Q' .next { s with heap := h, toks := tk } ∧ Q' .cont { s with heap := h, toks := tk }) →
      (∀ ρ2 m2 fp2 u du asu h tk, RetOk a ρ2 m2 fp2 g' h u du asu → R ρ2 du → Q' (.ret u) { s with heap := h, toks := tk }) →
      wpAny a.M a.A (PySem.assign target a.env v) (fun _ s2 => wpAny a.M a.A (execs body a.env) Q' (loopE a E) s2) (loopE a E) { s with heap := h0, toks := tk0 })
    (hs : Sat a ρ m fp g s.heap) (hst : St 0 s.heap) (hi : Items a P its sup s.heap) (ap : Apart a ρ fp (fpW ++ sup) s.heap)
    (hnew : ∀ b ∈ wr, g.get? b = none ∧ a.D.H0.get? b = none ∧ a.H1.get? b = none) (hfine : ∀ b ∈ sup, a.fine b) (hJ : J its ρ)
    (hcell : ∀ c ∈ cs, ∃ u, s.heap.IsCell c u) (hcg : ∀ c ∈ cs, g.get? c = none) (hcs : ∀ c ∈ cs, c ∉ fpW ++ sup)
    (k1 : ∀ ρ' m' fp' h tk, Sat a ρ' m' fp' g h → (∀ c ∈ cs, ∃ u, h.IsCell c u) → N ρ' → Q .next { s with heap := h, toks := tk })
    (k3 : ∀ ρ' m' fp' v d as h tk, RetOk a ρ' m' fp' g h v d as → R ρ' d → Q (.ret v) { s with heap := h, toks := tk }) :
    codeAny a.M a.A (.forLoop target (.ref I) body [] a.env) (fun r s' => match r with | .ok f => Q f s' | .error e => cameBackBy a.M a.A a.env E e s') s := by
  refine codeAny_forLoop_any
    (fun k s' => ∃ h tk ρ' m' fp' i, s' = { s with heap := h, toks := tk } ∧ Sat a ρ' m' fp' g h ∧ St i h ∧ Items a P its sup h ∧ Apart a ρ' fp' (fpW ++ sup) h ∧ J (its.drop i) ρ' ∧ i ≤ its.length ∧ k = its.length + 1 - i ∧ ∀ c ∈ cs, ∃ u, h.IsCell c u)
    ?_ (its.length + 1) ⟨s.heap, s.toks, ρ, m, fp, 0, rfl, hs, hst, hi, ap, by simpa using hJ, Nat.zero_le _, rfl, hcell⟩
  rintro k s' ⟨h, tk, ρ', m', fp', i, rfl, hs', hst', hi', ap', hJ', hle, rfl, hu⟩
  have cell1 : ∀ h1 : Heap, (∀ b o, b ∉ wr → h.get? b = some o → h1.get? b = some o) → ∀ c ∈ cs, ∃ u, h1.IsCell c u := fun h1 hk1 c hc => by
    obtain ⟨u, o, ho, hd⟩ := hu c hc
    exact ⟨u, o, hk1 c o (fun q => hcs c hc (List.mem_append_left _ (W.sub c q))) ho, hd⟩
  have hwr : ∀ b ∈ wr, g.get? b = none ∧ a.D.H0.get? b = none ∧ a.H1.get? b = none ∧ b ≠ a.L ∧ b ∉ a.F := fun b hb =>
    ⟨(hnew b hb).1, (hnew b hb).2.1, (hnew b hb).2.2, ap'.ok b (List.mem_append_left _ (W.sub b hb))⟩
  by_cases hlt : i < its.length
  · refine W.item i _ _ _ hlt hst' fun v h1 tk1 hP hst1 hk1 => ?_
    have hs1 := hs'.foreign (fw _ _ hst') hk1 hwr
    have hu1 := cell1 h1 hk1
    have bt : But a.F (· ∈ wr) h h1 := fun b o hb e => ⟨fun _ => hk1 b o hb e, o.slots, hk1 b o hb e⟩
    have hi1 : Items a P its sup h1 := ⟨fun j u hu => by
      obtain ⟨d, as, e, r, hsub⟩ := hi'.at_ j u hu
      exact ⟨d, as, e, r.but bt (fw _ _ hst').noSeq hs'.ff.noSeq fun b hb => ⟨Rd.foreign (fw _ _ hst') r b hb, (ap'.ok b (List.mem_append_right _ (hsub b hb))).2⟩, hsub⟩⟩
    have ap1 : Apart a ρ' fp' (fpW ++ sup) h1 := ⟨ap'.ok, fun b hb => by
      by_cases hw : b ∈ wr
      · obtain ⟨o, ho, _⟩ := fw _ _ hst1 b hw; exact ⟨o, ho⟩
      · obtain ⟨o, ho⟩ := ap'.here b hb; exact ⟨o, hk1 b o hw ho⟩, ap'.own⟩
    obtain ⟨d, as, hd, rd, hsub⟩ := hi1.at_ i v hP
    have hdrop : its.drop i = d :: its.drop (i + 1) := by
      rw [← List.getElem_cons_drop hlt]
      have := (List.getElem?_eq_some_iff.mp hd).2
      rw [this]
    rw [hdrop] at hJ'
    refine go (i + 1) _ v d as _ _ hst1 rd (List.mem_of_getElem? hd) ?_
    have fo : Fo a ρ' fp' h1 1 as := by
      refine ⟨fun b hb => ?_, fun y sl b r e o z hb => ?_, fun y sl b r e o z _ hb => ?_, fun k => absurd k (by decide)⟩
      · exact ⟨(ap'.ok b (List.mem_append_right _ (hsub b hb))).1, (ap'.ok b (List.mem_append_right _ (hsub b hb))).2, hfine b (hsub b hb)⟩
      · exact ap'.own b (List.mem_append_right _ (hsub b (List.mem_of_mem_tail hb))) (mem_ownedOf.mpr ⟨y, sl, r, e, o, z⟩)
      · exact ap'.own b (List.mem_append_right _ (hsub b hb)) (mem_ownedOf.mpr ⟨y, sl, r, e, o, z⟩)
    have back : ∀ ρ3 m3 fp3 h3 tk3, Sat a ρ3 m3 fp3 (hidC a ρ' fp' cs h1) h3 → (∀ c ∈ cs, ∃ u, h3.IsCell c u) → J (its.drop (i + 1)) ρ3 →
        ∃ mm, mm < its.length + 1 - i ∧ ∃ h tk ρ' m' fp' j, ({ s with heap := h3, toks := tk3 } : Shared) = { s with heap := h, toks := tk } ∧ Sat a ρ' m' fp' g h ∧ St j h ∧ Items a P its sup h ∧ Apart a ρ' fp' (fpW ++ sup) h ∧ J (its.drop j) ρ' ∧ j ≤ its.length ∧ mm = its.length + 1 - j ∧ ∀ c ∈ cs, ∃ u, h.IsCell c u := by
      intro ρ3 m3 fp3 h3 tk3 hs3 hu3 hJ3
      have inHid : ∀ b ∈ fpW ++ sup, ∀ o, h1.get? b = some o → (hidC a ρ' fp' cs h1).get? b = some o := fun b hb o ho => hidC_get ho (fun q => hcs b q hb) (ap1.ok b hb).1 (ap1.own b hb)
      refine ⟨its.length + 1 - (i + 1), by omega, h3, tk3, ρ3, m3, fp3, i + 1, rfl, hs1.unhideC hcg hs3, ?_, ⟨fun j u hu => ?_⟩, ⟨ap1.ok, fun b hb => ?_, fun b hb q => ?_⟩, hJ3, hlt, rfl, hu3⟩
      · exact W.frame _ _ _ hst1 fun b hb o ho => (hs3.gx b o (inHid b (List.mem_append_left _ hb) o ho)).1 (ap1.ok b (List.mem_append_left _ hb)).2
      · obtain ⟨d, as, e, r, hsub⟩ := hi1.at_ j u hu
        refine ⟨d, as, e, r.but (but_hidC hs3.gx) (hs1.noSeqOwnC hu1) hs1.ff.noSeq fun b hb => ⟨fun z => ?_, (ap1.ok b (List.mem_append_right _ (hsub b hb))).2⟩, hsub⟩
        rcases List.mem_append.mp z with z | z
        · exact hcs b z (List.mem_append_right _ (hsub b hb))
        rcases List.mem_cons.mp z with z | z
        · exact (ap1.ok b (List.mem_append_right _ (hsub b hb))).1 z
        · exact ap1.own b (List.mem_append_right _ (hsub b hb)) z
      · obtain ⟨o, ho⟩ := ap1.here b hb
        exact hs3.gx.some (inHid b hb o ho)
      · obtain ⟨o, ho⟩ := ap1.here b hb
        obtain ⟨y, sl, r, e, ow, z⟩ := mem_ownedOf.mp q
        obtain ⟨b', r', f1, _, _, f2, _⟩ := hs3.own y sl e ow
        rw [z] at f1; cases f1
        rw [inHid b hb o ho] at f2; cases f2
    exact turn d (its.drop (i + 1)) ρ' hJ' m' fp' (hidC a ρ' fp' cs h1) h1 tk1 v as _ hs1.hideC hu1 (fun c hc => hideAll_none _ (List.mem_append_left _ hc)) rd fo (fun h' q => hs1.gxUp hcg q)
      (fun ρ2 m2 fp2 h2 tk2 hs2 hu2 p2 => ⟨back ρ2 m2 fp2 h2 tk2 hs2 hu2 p2, back ρ2 m2 fp2 h2 tk2 hs2 hu2 p2⟩) fun ρ3 m3 fp3 u du asu h3 tk3 ro pr => k3 ρ3 m3 fp3 u du asu h3 tk3 ⟨hs1.unhideC hcg ro.sat, ro.rd, ro.ok⟩ pr
  · have hi0 : i = its.length := by omega
    subst hi0
    refine W.done _ _ _ hst' fun h1 tk1 hk1 => wpAny_execs_nil ?_
    exact k1 ρ' m' fp' h1 tk1 (hs'.foreign (fw _ _ hst') hk1 hwr) (cell1 h1 hk1) (fin ρ' (by simpa using hJ'))

theorem loop_run (O : a.Ok) {target : Expr} {body : List Stmt} {I : Addr} {fpW wr sup : List Addr} {its : List PyData} {P : Nat → Value → Prop} {St : Nat → Heap → Prop}
    (W : Walks a.D.prog a.D.w a.A I fpW wr its.length P St) (fw : ∀ i h, St i h → Foreign wr h)
    (go : ∀ i (s : Shared) v d as (Q : Unit → Shared → Prop) (E' : Value → Shared → Prop), St i s.heap → Rd a.D.prog a.D.w s.heap v d as → d ∈ its → Q () s → wpAny a.M a.A (letOwnedTupleGo target (.ref I) v) Q E' s)
    (J : List PyData → Ro → Prop)
    (turn : ∀ x rest ρ', J (x :: rest) ρ' → Asg a (loopE a E) ρ' target x fun ρ2 => Ex a (loopE a E) ρ2 body (J rest) R (J rest))
    (fin : ∀ ρ', J [] ρ' → N ρ') {m : Str → Option Value} {fp : Str → List Addr} {g : Heap} {s : Shared} {Q : Flow → Shared → Prop}
    (hs : Sat a ρ m fp g s.heap) (hst : St 0 s.heap) (hi : Items a P its sup s.heap) (ap : Apart a ρ fp (fpW ++ sup) s.heap)
    (hnew : ∀ b ∈ wr, g.get? b = none ∧ a.D.H0.get? b = none ∧ a.H1.get? b = none) (hfine : ∀ b ∈ sup, a.fine b) (hJ : J its ρ)
    (k1 : ∀ ρ' m' fp' h tk, Sat a ρ' m' fp' g h → N ρ' → Q .next { s with heap := h, toks := tk })
    (k3 : ∀ ρ' m' fp' v d as h tk, RetOk a ρ' m' fp' g h v d as → R ρ' d → Q (.ret v) { s with heap := h, toks := tk }) :
    codeAny a.M a.A (.forLoop target (.ref I) body [] a.env) (fun r s' => match r with | .ok f => Q f s' | .error e => cameBackBy a.M a.A a.env E e s') s :=
  loop_runX O [] W fw go J fin (fun x rest ρ' hJ m' fp' g' h0 tk0 v as Q' hs' _ _ rd fo _ kn kr => turn x rest ρ' hJ m' fp' g' { s with heap := h0, toks := tk0 } v as _ hs' rd fo fun ρ2 m2 fp2 h tk hs2 p2 =>
    p2 m2 fp2 g' { s with heap := h, toks := tk } Q' hs2 (fun ρ3 m3 fp3 h3 tk3 q p => (kn ρ3 m3 fp3 h3 tk3 q (fun _ z => nomatch z) p).1) (fun ρ3 m3 fp3 h3 tk3 q p => (kn ρ3 m3 fp3 h3 tk3 q (fun _ z => nomatch z) p).2) fun ρ3 m3 fp3 u du asu h3 tk3 ro pr => kr ρ3 m3 fp3 u du asu h3 tk3 ro pr)
    hs hst hi ap hnew hfine hJ (fun _ z => nomatch z) (fun _ z => nomatch z) (fun _ z => nomatch z) (fun ρ' m' fp' h tk q _ p => k1 ρ' m' fp' h tk q p) k3
end
end Mine
end

section
open PySem PySem.W PySem.Calls PyProof.Rows
set_option maxRecDepth 100000
set_option autoImplicit false
set_option linter.unusedVariables false
namespace Mine

/-- the signs of a text, each as a text -/
def signs (x : Str) : List PyData := x.cps.toList.map fun c => .str (T [c])
/-- the numbers from 0 below n -/
def upto (n : Nat) : List PyData := (List.range n).map fun (i : Nat) => PyData.int (i : Int)

section
variable {a : Act} {E : Value → Shared → Prop} {ρ : Ro} {N C : Ro → Prop} {R : Ro → PyData → Prop}

theorem foreign_of {I : Addr} {h : Heap} {o : Obj} (ho : h.get? I = some o) (h1 : o.cls ≠ .type "list") (h2 : o.cls ≠ .type "tuple") (h3 : o.cls ≠ .type "dict") (h4 : ∀ es n, o.data ≠ .dict es n) : Foreign [I] h :=
  fun b hb => by obtain rfl := List.mem_singleton.mp hb; exact ⟨o, ho, h1, h2, h3, h4⟩

theorem Sat.pushed (O : a.Ok) {m : Str → Option Value} {fp : Str → List Addr} {g h : Heap} (x : Sat a ρ m fp g h) (o : Obj) : Sat a ρ m fp g (h.push o) := x.ext O (Kp.push h o).ext

theorem Sat.newPlace (O : a.Ok) {m : Str → Option Value} {fp : Str → List Addr} {g h : Heap} (x : Sat a ρ m fp g h) {b : Addr} (hb : h.get? b = none) : g.get? b = none ∧ a.D.H0.get? b = none ∧ a.H1.get? b = none := by
  refine ⟨x.gx.none hb, ?_, ?_⟩
  · cases q : a.D.H0.get? b with
    | none => rfl
    | some o => rw [x.top b o q] at hb; cases hb
  · cases q : a.H1.get? b with
    | none => rfl
    | some o => obtain ⟨o', e⟩ := x.dom b o q; rw [hb] at e; cases e
theorem Sat.newOwn {m : Str → Option Value} {fp : Str → List Addr} {g h : Heap} (x : Sat a ρ m fp g h) {b : Addr} (hb : h.get? b = none) : b ∉ ownedOf ρ fp := fun q => by
  obtain ⟨y, sl, r, e, ow, z⟩ := mem_ownedOf.mp q
  exact x.newClean hb e z rfl

/-- the start of a loop over a datum -/
theorem Ex1.forIn (O : a.Ok) {target iter : Expr} {body : List Stmt} {pos : Pos} (J : List PyData → Ro → Prop)
    (turn : ∀ x rest ρ', J (x :: rest) ρ' → Asg a (loopE a E) ρ' target x fun ρ2 => Ex a (loopE a E) ρ2 body (J rest) R (J rest))
    (fin : ∀ ρ', J [] ρ' → N ρ')
    (h : Ev a E ρ iter fun d f => 1 ≤ f ∧ match d with
      | .list xs => ((∃ x p, target = .Name x p) ∨ ((∃ es k p, target = .Tuple es k p) ∧ ∀ d ∈ xs, ∃ ds, d = .tuple ds)) ∧ J xs ρ
      | .str x => (∃ y p, target = .Name y p) ∧ J (signs x) ρ
      | _ => False)
    (hf : ∀ x, foldedSetIterable iter a.env x = pure x := by intro _; rfl) : Ex1 a E ρ (.For target iter body [] pos) N R C := by
  intro m fp g s Q hs k1 _ k3
  refine wpAny_For (h m fp g s _ hs fun v d f as h1 tk r p => ?_) hf
  obtain ⟨hf1, p⟩ := p
  have nw := get_size_none h1
  have np := r.sat.newPlace O nw
  cases d with
  | none | bool _ | int _ | tuple _ | dict _ => exact p.elim
  | str x =>
    obtain ⟨⟨t, rfl⟩, rfl⟩ := r.rd.str_inv
    obtain ⟨⟨y, py, rfl⟩, pJ⟩ := p
    have hit : ∀ j v, SignAt x j v → ∃ d as, (signs x)[j]? = some d ∧ (∀ hh, Rd a.D.prog a.D.w hh v d as) ∧ ∀ b ∈ as, b ∈ ([] : List Addr) := by
      rintro j v ⟨c, u, hc, rfl⟩
      refine ⟨.str (T [c]), [], ?_, fun hh => .str _ _, fun b hb => nomatch hb⟩
      unfold signs
      rw [List.getElem?_map]
      have : x.cps.toList[j]? = some c := by simpa using hc
      rw [this]; rfl
    have len : (signs x).length = x.cps.size := by unfold signs; simp
    have both : ∀ ty, (∀ (A' : Around), A'.handled = none → Walks a.D.prog a.D.w A' h1.objs.size [h1.objs.size] [h1.objs.size] x.cps.size (SignAt x) (fun i h => h.IsStrIter h1.objs.size ty x t i)) →
        ty ≠ "list" → ty ≠ "tuple" → ty ≠ "dict" →
        codeAny a.M a.A (.forLoop (.Name y py) (.ref h1.objs.size) body [] a.env) (fun r s' => match r with | .ok f => Q f s' | .error e => cameBackBy a.M a.A a.env E e s')
          { s with heap := h1.push { cls := .type ty, data := .fields #[.str x t, .int 0 0] }, toks := tk } := by
      intro ty W t1 t2 t3
      refine loop_run (P := SignAt x) (St := fun i h => h.IsStrIter h1.objs.size ty x t i) (its := signs x) (sup := []) O (len ▸ W _ O.hd) (fun i h ⟨o, ho, hc, hd⟩ => ?_) (fun i s v d as Q E' _ _ _ q => wpAny_pure q) J turn fin
        (r.sat.pushed O _) ⟨_, get_push_self _ _, rfl, rfl⟩ ⟨fun j v hv => ?_⟩ ⟨fun b hb => ?_, fun b hb => ?_, fun b hb => ?_⟩ (fun b hb => ?_) (fun b hb => nomatch hb) pJ k1 k3
      · exact foreign_of ho (by rw [hc]; intro q; cases q; exact t1 rfl) (by rw [hc]; intro q; cases q; exact t2 rfl) (by rw [hc]; intro q; cases q; exact t3 rfl) (fun es n q => by rw [hd] at q; cases q)
      · obtain ⟨d, as, e, q, q'⟩ := hit j v hv
        exact ⟨d, as, e, q _, q'⟩
      · simp at hb; subst hb; exact ⟨(r.sat.newFine nw).1, (r.sat.newFine nw).2.1⟩
      · simp at hb; subst hb; exact ⟨_, get_push_self _ _⟩
      · simp at hb; subst hb; exact r.sat.newOwn nw
      · simp at hb; subst hb; exact np
    cases ha : x.cps.all (· < 128)
    · exact wpAny_pyIter_wide ha (both _ (fun A' hA => Walks.strWide hA _ x t) (by decide) (by decide) (by decide))
    · exact wpAny_pyIter_ascii ha (both _ (fun A' hA => Walks.strAscii hA _ x t) (by decide) (by decide) (by decide))
  | list xs =>
    obtain ⟨l, vs, n, bs, rfl, rfl, ho, q⟩ := r.rd.list_inv
    have hlt : l ≠ h1.objs.size := Nat.ne_of_lt (Heap.lt_size ho)
    refine wpAny_pyIter_list (items := vs.toArray) ⟨_, ho, rfl, n, rfl⟩ ?_
    have kp := Kp.push h1 { cls := .type "list_iterator", data := .fields #[.ref l, .int 0 0] }
    have len : vs.toArray.size = xs.length := by simp [q.length]
    refine loop_run (P := fun i v => vs.toArray[i]? = some v) (St := fun i h => h.IsListIter h1.objs.size l i ∧ h.IsList l vs.toArray) (its := xs) (sup := bs) O (len ▸ Walks.list O.hd h1.objs.size l hlt vs.toArray)
      (fun i h ⟨⟨o, ho, hc, hd⟩, _⟩ => ?_) (fun i s v d as Q E' st rd hd q => ?_) J turn fin (r.sat.pushed O _) ⟨⟨_, get_push_self _ _, rfl, rfl⟩, _, kp _ _ ho, rfl, n, rfl⟩ ⟨fun j v hv => ?_⟩ ⟨fun b hb => ?_, fun b hb => ?_, fun b hb => ?_⟩ (fun b hb => ?_) (fun b hb => ?_) p.2 k1 k3
    · exact foreign_of ho (by rw [hc]; decide) (by rw [hc]; decide) (by rw [hc]; decide) (fun es n q => by rw [hd] at q; cases q)
    · rcases p.1 with ⟨x, px, rfl⟩ | ⟨⟨es, k, px, rfl⟩, ht⟩
      · exact wpAny_pure q
      · obtain ⟨ds, rfl⟩ := ht d hd
        obtain ⟨t, _, _, rfl, _⟩ := rd.tuple_inv
        exact wpAny_letOwnedTupleGo_listiter st.1 q
    · have hj : j < xs.length := by rw [← q.length]; have := (Array.getElem?_eq_some_iff.mp hv).1; simpa using this
      obtain ⟨v', cs, hv', rd, hsub⟩ := q.get (i := j) (d := xs[j]) (by simp [hj])
      have : v' = v := by
        have e1 : vs[j]? = some v := by simpa using hv
        rw [hv'] at e1; exact Option.some.inj e1
      subst this
      exact ⟨xs[j], cs, by simp [hj], rd.kp kp, hsub⟩
    · simp only [List.mem_append, List.mem_cons, List.not_mem_nil, or_false] at hb
      rcases hb with (rfl | rfl) | hb
      · exact ⟨(r.sat.newFine nw).1, (r.sat.newFine nw).2.1⟩
      · exact ⟨(r.fo.ok b (.head _)).1, (r.fo.ok b (.head _)).2.1⟩
      · exact ⟨(r.fo.ok b (.tail _ hb)).1, (r.fo.ok b (.tail _ hb)).2.1⟩
    · simp only [List.mem_append, List.mem_cons, List.not_mem_nil, or_false] at hb
      rcases hb with (rfl | rfl) | hb
      · exact ⟨_, get_push_self _ _⟩
      · exact ⟨_, kp _ _ ho⟩
      · obtain ⟨o, ho⟩ := q.here b hb; exact ⟨o, kp _ _ ho⟩
    · intro hown
      obtain ⟨y, sl, rr, e, ow, z⟩ := mem_ownedOf.mp hown
      simp only [List.mem_append, List.mem_cons, List.not_mem_nil, or_false] at hb
      rcases hb with (rfl | rfl) | hb
      · exact r.sat.newClean nw e z rfl
      · exact r.fo.cl y sl _ rr e ow z hf1 (.head _)
      · exact r.fo.cl y sl _ rr e ow z hf1 (.tail _ hb)
    · simp at hb; subst hb; exact np
    · exact (r.fo.ok b (.tail _ hb)).2.2

/-- a name of the interpreter's own -/
theorem builtin_name (O : a.Ok) {x : Str} {pos : Pos} {v : Value} {m : Str → Option Value} {fp : Str → List Addr} {g : Heap} {s : Shared} {Q : Value → Shared → Prop} (hs : Sat a ρ m fp g s.heap)
    (hv : bootBuiltins x = some v) (hg : a.D.mg x = none) (hn : x ≠ "__name__") (h : Q v s)
    (hx : a.env.kindOf x = some .globalImplicit) (hd : (x == ("__debug__" : Str)) = false := by decide) : wpAny a.M a.A (eval (.Name x pos) a.env) Q E s :=
  Name_function_global O.kind hx (loadGlobal_builtin (env := a.env) (by rw [O.glob]; exact O.D.g.keeps hs.top) hg (by rw [O.blt]; exact O.D.b.keeps hs.top) ((O.D.blt x hn).trans hv) h) hd

/-- for x in range(e) -/
theorem Ex1.forRange (O : a.Ok) {x : Str} {px pn cp pos : Pos} {e : Expr} {body : List Stmt} (J : List PyData → Ro → Prop)
    (turn : ∀ y rest ρ', J (y :: rest) ρ' → Ex a (loopE a E) (ρ'.set x ⟨y, false⟩) body (J rest) R (J rest))
    (fin : ∀ ρ', J [] ρ' → N ρ')
    (h : Ev a E ρ e fun d _ => ∃ i, d = .int i ∧ 0 ≤ i ∧ i < 2 ^ 40 ∧ J (upto i.toNat) ρ)
    (hg : a.D.mg "range" = none) (hl : a.env.kindOf x = some .local := by rfl) (hp : a.pinN ≠ some x := by first | exact nofun | exact pin_ne (by rfl)) (hx : a.env.kindOf "range" = some .globalImplicit := by rfl)
    (hf : ∀ v, foldedSetIterable (.Call (.Name "range" pn) [e] [] cp) a.env v = pure v := by intro _; rfl)
    (he : starEach [e] a.env = (false, eval e a.env) :: starEach [] a.env := by rfl) : Ex1 a E ρ (.For (.Name x px) (.Call (.Name "range" pn) [e] [] cp) body [] pos) N R C := by
  intro m fp g s Q hs k1 _ k3
  refine wpAny_For (Call_ (builtin_name O hs PyProof.Rows.Boot.«range» hg (by decide) ?_ hx) ) hf
  rw [he]
  refine PySem.callWith_type (T := "range") rfl (evalArgs_plain (spliced_cons ?_))
  refine h m fp g s _ hs fun v d f as h1 tk r p => spliced_nil ?_
  obtain ⟨i, rfl, i0, i1, pJ⟩ := p
  obtain ⟨⟨t, rfl⟩, _⟩ := r.rd.int_inv
  refine call_range_1 ?_
  have kp1 := Kp.push h1 { cls := .type "range", data := .fields #[.int 0 tk, .int i t, .int 1 (tk + 1)] }
  refine wpAny_pyIter_range (IsRange.new _ _ _ _ _ _ _) (small_one (by omega) (by omega) (by omega) (by omega)) ?_
  have r1 := r.sat.pushed O { cls := .type "range", data := .fields #[.int 0 tk, .int i t, .int 1 (tk + 1)] }
  generalize h1.push { cls := .type "range", data := .fields #[.int 0 tk, .int i t, .int 1 (tk + 1)] } = h2 at r1 ⊢
  have nw := get_size_none h2
  have np := r1.newPlace O nw
  have sz : Builtin.Range.rangeSize 0 i 1 = (i.toNat : Int) := by rw [rangeSize_one]; split <;> omega
  have len : (upto i.toNat).length = i.toNat := by unfold upto; simp
  have W := Walks.range (prog := a.D.prog) (w := a.D.w) O.hd h2.objs.size 0 1 i.toNat
  replace W := W.bound
  rw [← len] at W
  refine loop_run (its := upto i.toNat) (sup := []) O W (fun i h hr => ?_) (fun i s v d as Q E' _ _ _ q => wpAny_pure q) J (fun y rest ρ' hj => Asg.name O (turn y rest ρ' hj) hl hp) fin
    (r1.pushed O _) ?_ ⟨fun j v hv => ?_⟩ ⟨fun b hb => ?_, fun b hb => ?_, fun b hb => ?_⟩ (fun b hb => ?_) (fun b hb => nomatch hb) pJ k1 k3
  · have c1 : ∀ z : String, z ≠ "range_iterator" → Value.type "range_iterator" ≠ Value.type z := fun z hz q => hz (by cases q; rfl)
    exact foreign_of hr (c1 _ (by decide)) (c1 _ (by decide)) (c1 _ (by decide)) (fun es n q => by cases q)
  · rw [len, sz]
    have e1 : (0 : Int) + ((0 : Nat) : Int) * 1 = 0 := by omega
    have e2 : ((i.toNat : Nat) : Int) - ((0 : Nat) : Int) = (i.toNat : Int) := by omega
    rw [e1, e2]
    exact get_push_self h2 { cls := .type "range_iterator", data := .fields #[rawInt 0, rawInt i.toNat, rawInt 1] }
  · obtain ⟨hj, t, rfl⟩ := hv
    refine ⟨.int (j : Int), [], ?_, ?_, fun b hb => nomatch hb⟩
    · unfold upto; rw [len] at hj; simp [hj]
    · have : (0 + (j : Int) * 1) = (j : Int) := by omega
      rw [this]; exact .int _ _
  · simp at hb; subst hb; exact ⟨(r1.newFine nw).1, (r1.newFine nw).2.1⟩
  · simp at hb; subst hb; exact ⟨_, get_push_self _ _⟩
  · simp at hb; subst hb; exact r1.newOwn nw
  · simp at hb; subst hb; exact np
end
end Mine
end

section
open PySem PySem.W PySem.Calls PyProof.Rows
set_option maxRecDepth 100000
set_option autoImplicit false
set_option linter.unusedVariables false
namespace Mine

def mkAct (D : Wd) (A : Around) (fd : FuncData) (L fa : Addr) (stk : List Env) (H1 : Heap) (args : List Addr) (n : Nat) : Act :=
  { D := D, A := A.deeper (callEnv fd L fa), env := callEnv fd L fa, stk := callEnv fd L fa :: stk, H1 := H1, args := args, n := n }

/-- what holds around a call -/
structure CallOk (D : Wd) (A : Around) (stk : List Env) (n : Nat) : Prop where
  frames : A.frames = some stk
  stk : StkOk D.H0 stk
  hd : A.handled = none
  depth : A.depth + n < 900
  units : A.units + 10 * n < 9000

/-- a def of the text, called upon such data, gives what P holds of -/
def FnAt' (D : Wd) (n : Nat) (fa : Addr) (ds : List PyData) (P : PyData → Prop) : Prop :=
  ∀ (A : Around) (stk : List Env) (E : Value → Shared → Prop) (s : Shared) (vs : List Value) (as : List Addr) (Q : Value → Shared → Prop),
    CallOk D A stk (n + 1) → Kp D.H0 s.heap → FF (framesOf stk) s.heap → RdAll D.prog D.w s.heap vs ds as → (∀ b ∈ as, b ∉ framesOf stk) →
    (∀ v d as' h tk, Kp D.H0 h → Ext (framesOf stk) s.heap h → Rd D.prog D.w h v d as' → (∀ b ∈ as', b ∉ framesOf stk ∧ (s.heap.get? b = none ∨ b ∈ as)) → P d → Q v { s with heap := h, toks := tk }) →
    wpAny (model D.prog D.w) A (call (.ref fa) vs) Q E s
structure IsFn (D : Wd) (x : Str) (fa : Addr) : Prop where
  mg : D.mg x = some (.ref fa)
  ob : ∃ o fd, D.H0.get? fa = some o ∧ o.data = .func fd
def Fn (D : Wd) (n : Nat) (x : Str) (ds : List PyData) (P : PyData → Prop) : Prop := ∃ fa, IsFn D x fa ∧ FnAt' D n fa ds P

def slots (names : List Str) (ds : List PyData) : Ro := names.zip (ds.map fun d => ⟨d, false⟩)

theorem slots_lookup : ∀ (names : List Str) (ds : List PyData) (x : Str) (sl : Slot), (slots names ds).lookup x = some sl → ∃ (i : Nat) (d : PyData), names[i]? = some x ∧ ds[i]? = some d ∧ sl = ⟨d, false⟩ ∧ ∀ j : Nat, j < i → names[j]? ≠ some x
  | [], _, _, _, e => by simp [slots] at e
  | _ :: _, [], _, _, e => by simp [slots] at e
  | n :: names, d :: ds, x, sl, e => by
    have : slots (n :: names) (d :: ds) = (n, ⟨d, false⟩) :: slots names ds := rfl
    rw [this, Ro.lookup_cons] at e
    by_cases h : x = n
    · subst h; rw [if_pos rfl] at e; cases e
      exact ⟨0, d, rfl, rfl, rfl, fun j hj => absurd hj (Nat.not_lt_zero j)⟩
    · rw [if_neg h] at e
      obtain ⟨i, d', h1, h2, h3, h4⟩ := slots_lookup names ds x sl e
      refine ⟨i + 1, d', by simpa using h1, by simpa using h2, h3, fun j hj => ?_⟩
      cases j with
      | zero => intro q; simp at q; exact h q.symm
      | succ j => simpa using h4 j (by omega)

theorem bindsLookup (names : List Str) (vs : List Value) (hnd : names.Nodup) (i : Nat) (x : Str) (v : Value) (h1 : names[i]? = some x) (h2 : vs[i]? = some v) : (names.zip vs).reverse.lookup x = some v := by
  have hmem : (x, v) ∈ (names.zip vs).reverse := by
    rw [List.mem_reverse, List.mem_iff_getElem?]
    exact ⟨i, by rw [List.getElem?_zip_eq_some]; exact ⟨h1, h2⟩⟩
  have hnd' : ((names.zip vs).reverse.map (·.1)).Nodup := by
    rw [List.map_reverse]
    have e : ∀ (names : List Str) (vs : List Value), names.Nodup → ((names.zip vs).map (·.1)).Nodup := by
      intro names
      induction names with
      | nil => intro vs _; exact .nil
      | cons n r ih =>
        intro vs hn
        cases vs with
        | nil => exact .nil
        | cons v vs =>
          rw [List.nodup_cons] at hn
          simp only [List.zip_cons_cons, List.map_cons, List.nodup_cons]
          exact ⟨fun q => hn.1 (by obtain ⟨p, hp, e⟩ := List.mem_map.mp q; exact e ▸ (List.of_mem_zip hp).1), ih vs hn.2⟩
    exact List.pairwise_reverse.mpr ((e names vs hnd).imp fun q => q.symm)
  revert hmem hnd'
  generalize (names.zip vs).reverse = l
  induction l with
  | nil => intro q _; cases q
  | cons p l ih =>
    intro hm hn
    obtain ⟨y, u⟩ := p
    simp only [List.map_cons, List.nodup_cons] at hn
    rw [List.lookup_cons]
    rcases List.mem_cons.mp hm with q | q
    · cases q; simp
    · have hxy : x ≠ y := fun z => hn.1 (z ▸ List.mem_map.mpr ⟨(x, v), q, rfl⟩)
      rw [beq_eq_false_iff_ne.mpr hxy]
      exact ih q hn.2

section
variable {a : Act} {E : Value → Shared → Prop} {ρ : Ro} {P : PyData → Nat → Prop}

theorem Ev.call (O : a.Ok) {x : Str} {np pos : Pos} {e : Expr} {rest : List Expr} {k : Nat}
    (h : EvL a E ρ (e :: rest) pos fun ds fl => ∃ P', Fn a.D k x ds P' ∧ ∀ d, P' d → (1 ≤ fl ∨ atom d = true) ∧ P d (if atom d then 2 else 1))
    (hk : k + 1 ≤ a.n := by decide) (hx : a.env.kindOf x = some .globalImplicit := by rfl) (hd : (x == ("__debug__" : Str)) = false := by decide)
    (he : starEach (e :: rest) a.env = (false, eval e a.env) :: starEach rest a.env := by rfl) (hfn : ∃ fa, IsFn a.D x fa) : Ev a E ρ (.Call (.Name x np) (e :: rest) [] pos) P := by
  intro m fp g s Q hs K
  obtain ⟨fa, hm, o, fd, ho, hdat⟩ := hfn
  refine Call_ (Name_function_global O.kind hx (loadGlobal_global (env := a.env) (by rw [O.glob]; exact O.D.g.keeps hs.top) hm ?_) hd)
  refine callWith_def hdat (h m fp g s _ hs fun vs ds fl as h1 tk r p => ⟨r.sat.top _ _ ho, ?_⟩) he
  obtain ⟨P', ⟨fa', f1, f2⟩, hP⟩ := p
  have : fa' = fa := by have := f1.mg; rw [hm] at this; cases this; rfl
  subst this
  have hdep := O.depth
  have hun := O.units
  refine f2 a.A a.stk E _ vs as Q ⟨O.frames, O.stk, O.hd, by omega, by omega⟩ r.sat.top r.sat.ff r.rd (fun b hb => (r.ok b hb).2.1) fun v d as' h2 tk2 kp ex rd hsub pd => ?_
  have sat2 := r.sat.ext O ex
  obtain ⟨hcl, pd⟩ := hP d pd
  by_cases hat : atom d = true
  · rw [if_pos hat] at pd
    obtain rfl := rd.atom hat
    exact K v d 2 [] h2 tk2 ⟨sat2, r.ext.trans ex, rd, Fo.nil 2⟩ pd
  · rw [if_neg hat] at pd
    have hfl : 1 ≤ fl := hcl.elim id fun q => absurd q hat
    have fo := r.fo hfl
    refine K v d 1 as' h2 tk2 ⟨sat2, r.ext.trans ex, rd, ⟨fun b hb => ?_, fun y sl c q e ow z hb => ?_, fun y sl c q e ow z _ hb => ?_, fun k => absurd k (by decide)⟩⟩ pd
    · rcases (hsub b hb).2 with q | q
      · exact r.sat.newFine q
      · exact r.ok b q
    · rcases (hsub c (List.mem_of_mem_tail hb)).2 with q' | q'
      · exact r.sat.newClean q' e z rfl
      · exact fo.cl y sl c q e ow z hfl q'
    · rcases (hsub c hb).2 with q' | q'
      · exact r.sat.newClean q' e z rfl
      · exact fo.cl y sl c q e ow z hfl q'
end
end Mine
end

section
open PySem PySem.W PySem.Calls PyProof.Rows
open PySem.Builtin PySem.Builtin.Str
set_option maxRecDepth 100000
set_option autoImplicit false
set_option linter.unusedVariables false
namespace Mine

section
variable {a : Act} {E : Value → Shared → Prop} {ρ : Ro} {P : PyData → Nat → Prop}

/-- o.strip() -/
theorem Ev.strip (O : a.Ok) {o : Expr} {apos pos : Pos} (h : Ev a E ρ o fun d _ => ∃ x, d = .str x ∧ x.length ≤ sizeLine ∧ P (.str (Txt.strip x)) 2)
    (hbase : attributeBase o "strip" a.env (eval o a.env) = eval o a.env := by rfl) (hline : (apos.endLine == pos.line) = true := by rfl) : Ev a E ρ (.Call (.Attribute o "strip" apos) [] [] pos) P := by
  intro m fp g s Q hs K
  refine Call_method0 hbase hline (h m fp g s _ hs fun v d f as h1 tk r p => ?_)
  obtain ⟨x, rfl, hx, p⟩ := p
  obtain ⟨⟨t, rfl⟩, rfl⟩ := r.rd.str_inv
  exact SB.strip (fun t' k => K _ _ _ _ h1 k (r.made (.str _ _)) p) hx
theorem Ev.rstrip (O : a.Ok) {o : Expr} {apos pos : Pos} (h : Ev a E ρ o fun d _ => ∃ x, d = .str x ∧ x.length ≤ sizeLine ∧ P (.str (Txt.rstrip x)) 2)
    (hbase : attributeBase o "rstrip" a.env (eval o a.env) = eval o a.env := by rfl) (hline : (apos.endLine == pos.line) = true := by rfl) : Ev a E ρ (.Call (.Attribute o "rstrip" apos) [] [] pos) P := by
  intro m fp g s Q hs K
  refine Call_method0 hbase hline (h m fp g s _ hs fun v d f as h1 tk r p => ?_)
  obtain ⟨x, rfl, hx, p⟩ := p
  obtain ⟨⟨t, rfl⟩, rfl⟩ := r.rd.str_inv
  exact SB.rstrip (fun t' k => K _ _ _ _ h1 k (r.made (.str _ _)) p) hx

theorem RdAll.texts {prog : Program} {w : World} {h : Heap} : ∀ {texts : List Str} {vs : List Value} {as : List Addr}, RdAll prog w h vs (texts.map PyData.str) as → ∃ l, vs = strValues l ∧ l.map (·.1) = texts
  | [], _, _, r => by cases r; exact ⟨[], rfl, rfl⟩
  | x :: texts, _, _, r => by
    cases r with
    | cons r q =>
      obtain ⟨⟨t, rfl⟩, _⟩ := r.str_inv
      obtain ⟨l, rfl, e⟩ := RdAll.texts q
      exact ⟨(x, t) :: l, rfl, by simp [e]⟩
theorem RdAll.ofTexts {prog : Program} {w : World} {h : Heap} : ∀ (l : List (Str × Tok)), RdAll prog w h (strValues l) ((l.map (·.1)).map PyData.str) []
  | [] => .nil
  | (x, t) :: l => by have := RdAll.cons (prog := prog) (w := w) (h := h) (.str x t) (RdAll.ofTexts l); simpa [strValues] using this

/-- sep.join(list of texts) -/
theorem Ev.join (O : a.Ok) {o e : Expr} {apos pos : Pos} (h : Ev a E ρ o fun d _ => ∃ x, d = .str x ∧ Ev a E ρ e fun d2 _ => ∃ texts : List Str, d2 = .list (texts.map PyData.str) ∧ JoinOk x texts = true ∧ P (.str (Txt.join x texts)) 2)
    (hbase : attributeBase o "join" a.env (eval o a.env) = eval o a.env := by rfl) (hline : (apos.endLine == pos.line) = true := by rfl)
    (hs1 : starEach [e] a.env = [(false, eval e a.env)] := by rfl) : Ev a E ρ (.Call (.Attribute o "join" apos) [e] [] pos) P := by
  intro m fp g s Q hs K
  refine Call_method1 hbase hs1 hline (h m fp g s _ hs fun v d f as h1 tk r p => ?_)
  obtain ⟨x, rfl, p⟩ := p
  obtain ⟨⟨t, rfl⟩, rfl⟩ := r.rd.str_inv
  refine SB.join (p m fp g _ _ r.sat fun v2 d2 f2 as2 h2 tk2 r2 p2 => ?_)
  obtain ⟨texts, rfl, hok, p2⟩ := p2
  obtain ⟨D, vs, n, bs, rfl, rfl, ho, q⟩ := r2.rd.list_inv
  obtain ⟨l, rfl, e⟩ := RdAll.texts q
  exact ⟨D, l, rfl, ⟨_, ho, rfl, n, rfl⟩, texts, e, hok, fun t' k => K _ _ _ _ h2 k ((r2.from r.ext).made (.str _ _)) p2⟩

/-- o.split(y, k), y and k written -/
theorem Ev.split (O : a.Ok) {o : Expr} {apos pos p1 p2 : Pos} {y : Str} {k : Int} {k1 k2 : Nat} (h : Ev a E ρ o fun d _ => ∃ x, d = .str x ∧ x.length + 2 ≤ sizeLine ∧ P (.list ((Txt.splitMax x y k).map PyData.str)) 2)
    (hy : (y.length == 0) = false := by rfl) (hk : (decide (k < -(2 ^ 63 : Int)) || decide (k ≥ 2 ^ 63)) = false := by decide)
    (hbase : attributeBase o "split" a.env (eval o a.env) = eval o a.env := by rfl) (hline : (apos.endLine == pos.line) = true := by rfl) :
    Ev a E ρ (.Call (.Attribute o "split" apos) [.Constant (.str y) k1 p1, .Constant (.int k) k2 p2] [] pos) P := by
  intro m fp g s Q hs K
  refine wpAny_Call_method (T := "str") (id := "str.split") hbase rfl hline F.plainAttrs_str F.slot_str_split F.type_str_split (h m fp g s _ hs fun v d f as h1 tk r p => ?_)
  obtain ⟨x, rfl, hx, p⟩ := p
  obtain ⟨⟨t, rfl⟩, rfl⟩ := r.rd.str_inv
  refine ⟨typeIs_str _ _ _, (fun _ e => nomatch e), ?_⟩
  refine Calls.callWith_builtin rfl (evalArgs_plain ?_)
  refine spliced_cons (wpAny_Constant_str (k := k1) (pos := p1) (spliced_cons (wpAny_Constant_int (k := k2) (pos := p2) (spliced_nil ?_))))
  show wpAny a.M a.A (PySem.call (.builtin "str.split") [.str x t, .str y tk, .int k (tk + 1)]) Q E { s with heap := h1, toks := tk + 1 + 1 }
  have hn : (partsBetween x (occurrences x y 0 x.length (limitOf x k)) y.length).length ≤ sizeLine := by
    have e1 := StrLaws.occ_length_le_len x y 0 x.length (limitOf x k)
    rw [length_partsBetween]; omega
  have fin : ∀ l tk', l.map (·.1) = Txt.splitMax x y k → Q (.ref h1.objs.size) { s with heap := h1.push { cls := .type "list", data := .seq (strValues l).toArray }, toks := tk' } := fun l tk' e => by
    have r2 := Res.newList O r.sat r.ext (RdAll.ofTexts l) (Fo.nil 2) (by decide)
    rw [e] at r2
    exact K _ _ _ _ _ _ r2 p
  cases h1' : (decide (x.length < y.length) || decide (strKind x < strKind y))
  · cases hf : (occurrences x y 0 x.length (limitOf x k)).isEmpty
    · refine call_meets F.slot_str_split (typeIs_str _ _ _) F.entry_str_split (F.args_str_split_3 _ _ _) (meets_str_split_sep_max x y k t _ _ hk h1' hy hf (by omega) hn) ?_
      show wants Q E _ { s with toks := _, heap := h1.push { cls := .type "list", data := .seq (strsFrom _ (partsBetween x (occurrences x y 0 x.length (limitOf x k)) y.length)).toArray } }
      rw [strsFrom_eq]
      exact fin (numbered _ _) _ ((numbered_texts _ _).trans ((if_neg (ne_true_of_eq_false h1')).trans (if_neg (ne_true_of_eq_false hf))).symm)
    · exact call_meets F.slot_str_split (typeIs_str _ _ _) F.entry_str_split (F.args_str_split_3 _ _ _) (meets_str_split_max_not_found x y k t _ _ hk h1' hy hf)
        (fin [(x, t)] _ ((if_neg (ne_true_of_eq_false h1')).trans (if_pos hf)).symm)
  · exact call_meets F.slot_str_split (typeIs_str _ _ _) F.entry_str_split (F.args_str_split_3 _ _ _) (meets_str_split_max_cannot_occur x y k t _ _ hk h1')
      (fin [(x, t)] _ (if_pos h1').symm)

/-- len(e) -/
theorem Ev.len (O : a.Ok) {np pos : Pos} {e : Expr} (h : Ev a E ρ e fun d _ => match d with
      | .str x => x.length ≤ sizeLine ∧ P (.int x.length) 2
      | .list xs => xs.length ≤ sizeLine ∧ P (.int xs.length) 2
      | _ => False)
    (hg : a.D.mg "len" = none) (hx : a.env.kindOf "len" = some .globalImplicit := by rfl)
    (he : starEach [e] a.env = (false, eval e a.env) :: starEach [] a.env := by rfl) : Ev a E ρ (.Call (.Name "len" np) [e] [] pos) P := by
  intro m fp g s Q hs K
  refine Call_ (builtin_name O hs PyProof.Rows.Boot.«len» hg (by decide) ?_ hx)
  refine PyProof.Rows.callWith_builtin1 ?_ he rfl
  rw [he]
  refine spliced_cons (h m fp g s _ hs fun v d f as h1 tk r p => spliced_nil ?_)
  cases d with
  | none | bool _ | int _ | tuple _ | dict _ => exact p.elim
  | str x =>
    obtain ⟨⟨t, rfl⟩, rfl⟩ := r.rd.str_inv
    exact PySem.P.len_str (by have := p.1; rw [sizeLine_eq] at this; omega) (K _ _ _ _ h1 _ (r.made (.int _ _)) p.2)
  | list xs =>
    obtain ⟨D, vs, n, bs, rfl, rfl, ho, q⟩ := r.rd.list_inv
    have hl : xs.length = vs.toArray.size := by simp [q.length]
    refine call_len_list (items := vs.toArray) ⟨_, ho, rfl, n, rfl⟩ (by have := p.1; rw [hl, sizeLine_eq] at this; omega) ?_
    have p2 := p.2
    rw [hl] at p2
    exact K _ _ _ _ h1 _ (r.made (.int _ _)) p2

/-- {} -/
theorem Ev.dict0 (O : a.Ok) {pos : Pos} (h : P (.dict []) 2) : Ev a E ρ (.Dict [] [] pos) P := by
  intro m fp g s Q hs K
  refine wpAny_Dict_empty ?_
  have kp := Kp.push s.heap { cls := .type "dict", data := .dict #[] }
  have nw := get_size_none s.heap
  have hb : (s.heap.objs.size == sysModules) = false := by
    refine beq_eq_false_iff_ne.mpr fun q => ?_
    obtain ⟨o, _, _, ho, _⟩ := O.D.g
    have h3 := Heap.lt_size (hs.top _ _ ho)
    rw [q] at h3
    exact absurd (h3 : (3 : Nat) < 1) (by decide)
  exact K _ _ _ _ _ s.toks ⟨hs.ext O kp.ext, kp.ext, .dict (ps := []) (Heap.DictOf.new (knd := strKind a.D.prog a.D.w) s.heap) .nil hb, Fo.new hs nw (Ext.refl a.F _) (by decide) (Fo.nil 2)⟩ h

theorem PairsAre.length {kvs : List (Str × Value)} {ps : List (Str × Str)} (h : PairsAre kvs ps) : kvs.length = ps.length := by
  induction h with
  | nil => rfl
  | cons _ _ ih => simp [ih]
end
end Mine
end

section
open PySem PySem.W PySem.Calls PyProof.Rows
set_option maxRecDepth 100000
set_option autoImplicit false
set_option linter.unusedVariables false
namespace Mine

/-- one pair put into a dict of texts -/
def dput (ps : List (Str × Str)) (k y : Str) : List (Str × Str) := if ps.any (fun p => decide (p.1 = k)) then ps.map (fun p => if p.1 = k then (p.1, y) else p) else ps ++ [(k, y)]

theorem PairsAre.any {kvs : List (Str × Value)} {ps : List (Str × Str)} (h : PairsAre kvs ps) (k : Str) : kvs.any (fun p => decide (p.1 = k)) = ps.any (fun p => decide (p.1 = k)) := by
  induction h with
  | nil => rfl
  | cons _ _ ih => simp only [List.any_cons, ih]
theorem PairsAre.over {kvs : List (Str × Value)} {ps : List (Str × Str)} (h : PairsAre kvs ps) (k y : Str) (t : Tok) : PairsAre (kvs.map (fun p => if p.1 = k then (p.1, Value.str y t) else p)) (ps.map (fun p => if p.1 = k then (p.1, y) else p)) := by
  induction h with
  | nil => exact .nil
  | @cons k' v x r q hx hr ih =>
    simp only [List.map_cons]
    by_cases e : k' = k
    · rw [if_pos e, if_pos e]; exact .cons ⟨t, rfl⟩ ih
    · rw [if_neg e, if_neg e]; exact .cons hx ih
theorem PairsAre.behind {kvs : List (Str × Value)} {ps : List (Str × Str)} (h : PairsAre kvs ps) (k y : Str) (t : Tok) : PairsAre (kvs ++ [(k, Value.str y t)]) (ps ++ [(k, y)]) := by
  induction h with
  | nil => exact .cons ⟨t, rfl⟩ .nil
  | cons hx hr ih => exact .cons hx ih
theorem PairsAre.put {kvs : List (Str × Value)} {ps : List (Str × Str)} (h : PairsAre kvs ps) (k y : Str) (t : Tok) : PairsAre (stored kvs k (.str y t)) (dput ps k y) := by
  unfold stored dput
  rw [h.any k]
  by_cases e : ps.any (fun p => decide (p.1 = k)) = true
  · rw [if_pos e, if_pos e]; exact h.over k y t
  · rw [if_neg e, if_neg e]; exact h.behind k y t

section
variable {a : Act} {E : Value → Shared → Prop} {ρ : Ro} {N C : Ro → Prop} {R : Ro → PyData → Prop}

theorem sPair_inj : ∀ {x y : List (Str × Str)}, x.map sPair = y.map sPair → x = y
  | [], [], _ => rfl
  | [], _ :: _, q => by cases q
  | _ :: _, [], q => by cases q
  | (u1, u2) :: x, (z1, z2) :: y, q => by
    simp only [List.map_cons, List.cons.injEq, sPair, Prod.mk.injEq, PyData.str.injEq] at q
    obtain ⟨⟨rfl, rfl⟩, q⟩ := q
    rw [sPair_inj q]

/-- x[key] = value, in a dict of texts -/
theorem Ex1.setItem (O : a.Ok) {x : Str} {np sp pos : Pos} {key value : Expr} {ps : List (Str × Str)} (hx : ρ.lookup x = some ⟨.dict (ps.map sPair), true⟩)
    (h : Ev a E ρ value fun dv _ => ∃ y, dv = .str y ∧ Ev a E ρ key fun dk _ => ∃ k, dk = .str k ∧ ps.length ≤ sizeLine ∧ N (ρ.set x ⟨.dict ((dput ps k y).map sPair), true⟩))
    (hl : a.env.kindOf x = some .local := by rfl) (hd : (x == ("__debug__" : Str)) = false := by decide)
    (hs' : swapsWith value (some (.Subscript (.Name x np) key sp)) pos.line a.env = pure false := by rfl) : Ex1 a E ρ (.Assign [.Subscript (.Name x np) key sp] value pos) N R C := by
  intro m fp g s Q hs k1 _ _
  refine wpAny_Assign_Subscript (h m fp g s _ hs fun v dv f as h1 tk r p => ?_) hs'
  obtain ⟨y, rfl, p⟩ := p
  obtain ⟨⟨ty, rfl⟩, _⟩ := r.rd.str_inv
  obtain ⟨b0, r0, e1, e2, _⟩ := r.sat.own x _ hx rfl
  refine wpAny_Name (wpAny_loadName_local O.kind hl r.sat.ns e2 ?_) hd
  refine p m fp g _ _ r.sat fun vk dk fk ask h2 tk2 r2 p2 => ?_
  obtain ⟨k, rfl, hlen, p2⟩ := p2
  obtain ⟨⟨tk', rfl⟩, _⟩ := r2.rd.str_inv
  obtain ⟨vb, hvb, rd⟩ := r2.sat.var x _ hx
  rw [e2] at hvb; cases hvb
  rw [e1] at rd
  obtain ⟨b, kvs, ps', e, e', eps, hdict, hp, hsm⟩ := rd.dict_inv
  cases e; cases e'
  obtain rfl := sPair_inj eps
  refine wpAny_setItem_pairs (knd := strKind a.D.prog a.D.w) (kvs := kvs) (k := k) (strKind_is _ _ _ _) hdict (fun h3 hd3 same => ?_) (by rw [hp.length]; exact hlen)
  obtain ⟨o3, es3, ep3, ho3, rest⟩ := id hd3
  refine k1 _ _ _ h3 _ (Sat.change r2.sat hx e1 O (but_of_same same) o3 ho3 (d' := .dict ((dput ps k y).map sPair)) (r' := []) rfl (fun _ _ => .dict hd3 (hp.put k y ty) hsm) (fun c hc => nomatch hc) fun _ _ _ _ _ _ _ hc => nomatch hc) p2

/-- x1, x2, .. = value, all plain -/
theorem Ex1.unpack (O : a.Ok) {elts : List Expr} {k : Nat} {tp pos : Pos} {value : Expr} {xs : List Str} (h : Ev a E ρ value fun d f => 1 ≤ f ∧ ∃ ds, d = .tuple ds ∧ xs.length = ds.length ∧ N (setAll ρ xs ds))
    (hn : namesOf elts = some xs) (hl : ∀ x ∈ xs, a.env.kindOf x = some .local ∧ a.pinN ≠ some x)
    (hs : swapsWithSole [.Tuple elts k tp] value pos.line a.env = pure false := by rfl) (hw : swappedStores [.Tuple elts k tp] value a.env = pure none := by rfl) : Ex1 a E ρ (.Assign [.Tuple elts k tp] value pos) N R C := by
  intro m fp g s Q hs0 k1 _ _
  refine Assign_Tuple (h m fp g s _ hs0 fun v d f as h1 tk r p => ?_) hs hw
  obtain ⟨hf, ds, rfl, hlen, p⟩ := p
  exact Asg.tuple (N := N) O p hn hlen hl m fp g _ v as _ r.sat r.rd ⟨r.fo.ok, r.fo.tl, fun y sl b q e ow z _ => r.fo.cl y sl b q e ow z hf, fun k => absurd k (by decide)⟩ fun ρ' m' fp' h2 tk2 q p => k1 ρ' m' fp' h2 tk2 q p

/-- x = y = value -/
theorem Ex1.assign2 (O : a.Ok) {x y : Str} {px py pos : Pos} {value : Expr} (h : Ev a E ρ value fun d f => atom d = true ∧ N ((ρ.set x ⟨d, false⟩).set y ⟨d, false⟩))
    (hl : a.env.kindOf x = some .local := by rfl) (hl2 : a.env.kindOf y = some .local := by rfl) (hp : a.pinN ≠ some x := by first | exact nofun | exact pin_ne (by rfl)) (hp2 : a.pinN ≠ some y := by first | exact nofun | exact pin_ne (by rfl))
    (hw : swappedStores [.Name x px, .Name y py] value a.env = pure none := by rfl) : Ex1 a E ρ (.Assign [.Name x px, .Name y py] value pos) N R C := by
  intro m fp g s Q hs0 k1 _ _
  refine wpAny_Assign_two (h m fp g s _ hs0 fun v d f as h1 tk r p => ?_) rfl hw
  obtain ⟨hat, p⟩ := p
  obtain rfl := r.rd.atom hat
  refine wpAny_assign_Name (storeName_sat O hs0 (s := { s with heap := h1, toks := tk }) (f := 2) (as := []) ⟨r.sat, r.ext, r.rd, Fo.nil 2⟩ (by decide) false (by intro q; cases q) hl hp fun h2 tk2 q => ?_)
  obtain ⟨v', hv', rd'⟩ := q.var x ⟨d, false⟩ (by rw [Ro.set_lookup, if_pos rfl])
  simp only [if_pos] at hv' rd'
  cases hv'
  exact wpAny_assign_Name (storeName_sat O q (s := { s with heap := h2, toks := tk2 }) (f := 2) (as := []) ⟨q, Ext.refl _ _, rd', Fo.nil 2⟩ (by decide) false (by intro q; cases q) hl2 hp2 fun h3 tk3 q3 => k1 _ _ _ _ _ q3 p)

end
end Mine
end

section
open PySem PySem.W PySem.Calls PyProof.Rows
set_option maxRecDepth 100000
set_option autoImplicit false
set_option linter.unusedVariables false
namespace Mine

/-- the tests of a comprehension's clause -/
abbrev testsOf (ifs : List Expr) (env : Env) : Sem Bool := forIn ifs true fun c r => if r = true then do let ok ← isTrue c env (eval c env); pure (ForInStep.yield ok) else pure (ForInStep.yield r)

section
variable {prog : Program} {w : World} {A : Around} {E : Value → Shared → Prop} {R : Result → Shared → Prop} {s : Shared}

theorem compLoop_turns {elt target iter : Expr} {ifs : List Expr} {scope : Scope} {pos : Pos} {it acc : Value} {env : Env} (I : Nat → Shared → Prop)
    (turn : ∀ n s, I n s → wpAny (model prog w) A (pyNext it) (fun r s₁ => match r with
      | none => R (.ok .next) s₁
      | some v => wpAny (model prog w) A (letOwnedTupleGo target it v) (fun _ s₁' => wpAny (model prog w) A (assign target env v) (fun _ s₂ =>
          wpAny (model prog w) A (testsOf ifs env) (fun ok s₃ =>
            if ok = true then wpAny (model prog w) A (eval elt env) (fun x s₄ =>
              wpAny (model prog w) A (call (.builtin "list.append") [acc, x]) (fun _ s₅ => ∃ m, m < n ∧ I m s₅) (notedBy (model prog w) A env fun e s' => R (.error e) s') s₄) (notedBy (model prog w) A env fun e s' => R (.error e) s') s₃
            else ∃ m, m < n ∧ I m s₃) (notedBy (model prog w) A env fun e s' => R (.error e) s') s₂) (notedBy (model prog w) A env fun e s' => R (.error e) s') s₁') (notedBy (model prog w) A env fun e s' => R (.error e) s') s₁) (notedBy (model prog w) A env fun e s' => R (.error e) s') s)
    (n : Nat) (h : I n s) :
    codeAny (model prog w) A (.compLoop (.ListComp elt [⟨target, iter, ifs, 0⟩] scope pos) 0 it acc env) R s := by
  refine codeAny_loop rfl I (fun n s hI => ?_) n h
  show wpAny _ A ((compTurn (.ListComp elt [⟨target, iter, ifs, 0⟩] scope pos) 0 it acc env).onRaise (fun x => do noteFrame x env; theTreesLotGoes x)) _ _ s
  refine wpAny_noted ?_
  rw [compTurn_list]
  refine wpAny_bind (wpAny_standAt (wpAny_bind (wpAny_mono (turn n s hI) (fun r s₁ h₁ => ?_) fun _ _ h' => h')))
  cases r with
  | none => exact wpAny_pure h₁
  | some v =>
    refine wpAny_bind (wpAny_mono h₁ (fun _ s₁' h₁ => ?_) fun _ _ h' => h')
    refine wpAny_bind (wpAny_mono h₁ (fun _ s₂ h₂ => wpAny_bind (wpAny_mono h₂ (fun ok s₃ h₃ => ?_) fun _ _ h' => h')) fun _ _ h' => h')
    cases ok with
    | false => exact wpAny_pure ⟨rfl, h₃⟩
    | true =>
      exact wpAny_bind (wpAny_bind (wpAny_mono h₃ (fun x s₄ h₄ => wpAny_bind (wpAny_mono h₄ (fun _ s₅ h₅ => wpAny_pure (wpAny_pure ⟨rfl, h₅⟩)) fun _ _ h' => h')) fun _ _ h' => h'))
end

theorem But.trans {F : List Addr} {S : Addr → Prop} {h1 h2 h3 : Heap} (x : But F S h1 h2) (y : But F S h2 h3) : But F S h1 h3 := fun b o hb e => by
  obtain ⟨p, sl, q⟩ := x b o hb e
  obtain ⟨_, sl', q'⟩ := y b _ hb q
  exact ⟨fun z => (y b o hb (p z)).1 z, sl', q'⟩
theorem But.mono {F : List Addr} {S S' : Addr → Prop} {h h' : Heap} (x : But F S h h') (hS : ∀ b, S b → S' b) : But F S' h h' := fun b o hb => x b o fun q => hb (hS b q)
theorem FF.but {F : List Addr} {S : Addr → Prop} {h h' : Heap} (x : FF F h) (k : But F S h h') (hS : ∀ b ∈ F, ¬ S b) : FF F h' := fun b hb => by
  obtain ⟨o, es, n, ho, hd⟩ := x b hb
  obtain ⟨_, sl, q⟩ := k b o (hS b hb) ho
  exact ⟨_, es, n, q, hd⟩

/-- the activation within a comprehension -/
def compAct (a : Act) (scope : Scope) (cl : List (Str × Addr)) (C : Addr) (H1 : Heap) (args : List Addr) : Act :=
  { D := a.D, A := a.A, env := compEnvC scope cl C a.env, stk := a.stk, H1 := H1, args := args, n := a.n }
theorem compAct_ok {a : Act} (O : a.Ok) {scope : Scope} {cl : List (Str × Addr)} {C : Addr} {H1 : Heap} {args : List Addr} (hk : scope.kind = .function) : (compAct a scope cl C H1 args).Ok :=
  ⟨O.D, O.frames, O.stk, O.hd, O.depth, O.units, hk, O.glob, O.blt, O.seer⟩

section
variable {a : Act} {E : Value → Shared → Prop} {ρ : Ro} {N C : Ro → Prop} {R : Ro → PyData → Prop} {P : PyData → Nat → Prop}

theorem Sat.apart (O : a.Ok) {S : Addr → Prop} {m : Str → Option Value} {fp : Str → List Addr} {g h h' : Heap} (x : Sat a ρ m fp g h) (k : But a.F S h h') (ns : NoSeq S h)
    (hS : ∀ b, S b → g.get? b = none ∧ a.D.H0.get? b = none ∧ b ≠ a.L ∧ b ∉ a.F ∧ (∀ y sl, ρ.lookup y = some sl → b ∉ fp y) ∧ (a.H1.get? b = none ∨ ∃ o, h'.get? b = some o)) : Sat a ρ m fp g h' := by
  refine ⟨fun b o e => (k b o (fun q => by rw [(hS b q).2.1] at e; cases e) (x.top b o e)).1 (fun q => by rw [framesOf_new O.stk b q] at e; cases e), fun b o e => ?_, fun b o e => ?_, x.lnew, x.lg, ?_,
    x.ff.but k fun b hb q => (hS b q).2.2.2.1 hb, fun y sl e => ?_, x.fpok, x.own, x.pin⟩
  · by_cases q : S b
    · rcases (hS b q).2.2.2.2.2 with z | z
      · rw [z] at e; cases e
      · exact z
    · obtain ⟨o', e'⟩ := x.dom b o e
      obtain ⟨_, sl, q'⟩ := k b o' q e'
      exact ⟨_, q'⟩
  · have hb : ¬ S b := fun q => by rw [(hS b q).1] at e; cases e
    obtain ⟨p, sl, q⟩ := x.gx b o e
    obtain ⟨_, sl', q'⟩ := k b _ hb q
    exact ⟨fun z => (k b o hb (p z)).1 z, sl', q'⟩
  · obtain ⟨o, es, ep, ho, hd, r⟩ := x.ns
    obtain ⟨_, sl, q⟩ := k _ o (fun q => (hS _ q).2.2.1 rfl) ho
    exact ⟨_, es, ep, q, hd, r⟩
  · obtain ⟨v, hv, r⟩ := x.var y sl e
    exact ⟨v, hv, r.but k ns x.ff.noSeq fun b hb => ⟨fun q => (hS b q).2.2.2.2.1 y sl e hb, (x.fpok y sl e b hb).2.1⟩⟩

theorem noSeqC {D C : Addr} {wr : List Addr} {h : Heap} {m : Str → Option Value} {vs : List Value} {n : Nat} (hn : h.Ns C m) (hD : h.get? D = some (listO vs n)) (fw : Foreign wr h) : NoSeq (· ∈ C :: D :: wr) h := fun b o hb ho us k q => by
  rcases List.mem_cons.mp hb with rfl | hb
  · obtain ⟨o', _, _, ho', hd, _⟩ := hn
    rw [ho'] at ho; cases ho; rw [q] at hd; cases hd
  · rcases List.mem_cons.mp hb with rfl | hb
    · rw [hD] at ho; cases ho
      have z : Value.type "list" = Value.type "tuple" := congrArg Obj.cls q
      exact absurd z (by decide)
    · exact fw.noSeq b o hb ho us k q

set_option maxHeartbeats 2000000 in
theorem comp_core (O : a.Ok) {elt target iter : Expr} {ifs : List Expr} {scope : Scope} {cl : List (Str × Addr)} {pos : Pos} {RR : Value → Addr → Result → Shared → Prop}
    (hcell : ∀ y ∈ scope.names, y.2 ≠ .cell) (hkind : scope.kind = .function) {I : Addr} {fpW wr sup : List Addr} {its : List PyData} {P : Nat → Value → Prop} {St : Nat → Heap → Prop}
    (W : Walks a.D.prog a.D.w a.A I fpW wr its.length P St) (fw : ∀ i h, St i h → Foreign wr h)
    (go : ∀ i (s : Shared) v d as (Q : Unit → Shared → Prop) (E' : Value → Shared → Prop), St i s.heap → Rd a.D.prog a.D.w s.heap v d as → d ∈ its → Q () s → wpAny a.M a.A (letOwnedTupleGo target (.ref I) v) Q E' s)
    (hsz : its.length ≤ sizeLine) (hsup : ∀ b ∈ sup, b ∉ wr) (p : PyData → Bool) (f : PyData → PyData)
    (turn : ∀ C H1 args, (compAct a scope cl C H1 args).Ok → ∀ x ∈ its, ∀ E', Asg (compAct a scope cl C H1 args) E' [] target x fun ρ2 =>
      RunB (compAct a scope cl C H1 args) E' ρ2 (testsOf ifs (compEnvC scope cl C a.env)) fun b => b = p x ∧ (b = true → Ev (compAct a scope cl C H1 args) E' ρ2 elt fun d _ => d = f x))
    {m : Str → Option Value} {fp : Str → List Addr} {g : Heap} {s₂ : Shared} (hs : Sat a ρ m fp g s₂.heap) (hst : St 0 s₂.heap) (hi : Items a P its sup s₂.heap)
    (hok : ∀ b ∈ fpW ++ sup, b ≠ a.L ∧ b ∉ a.F ∧ ∃ o, s₂.heap.get? b = some o)
    (wr0 : ∀ b ∈ wr, ∀ o, a.D.H0.get? b ≠ some o)
    (hRR : ∀ D C h' tk m' vs bs n, s₂.heap.get? D = none → s₂.heap.get? C = none → D ≠ C → h'.Ns C m' → h'.get? D = some (listO vs n) → RdAll a.D.prog a.D.w h' vs ((its.filter p).map f) bs →
      (∀ b ∈ bs, b ≠ C ∧ b ≠ D ∧ b ∉ a.F ∧ (s₂.heap.get? b = none ∨ b ∈ sup)) → But a.F (· ∈ wr) s₂.heap h' → RR (.ref D) C (.ok .next) { s₂ with heap := h', toks := tk }) :
    wpAny a.M a.A (newList []) (fun acc s₃ => wpAny a.M a.A (newFunctionEnv scope a.env.globals cl [] a.env.qual none .none (some a.env)) (fun cenv s₄ =>
      codeAny a.M a.A (.compStart (.ListComp elt [⟨target, iter, ifs, 0⟩] scope pos) 0 (.ref I) acc { cenv with scope := relabel scope a.env }) (RR acc cenv.locals) s₄) E s₃) E s₂ := by
  refine wpAny_newObj_type (hd := by size_fits) (wpAny_newFunctionEnv hcell (by intro y hy; simp at hy) (fun h₁ hns₁ hsb₁ => ?_) hkind)
  dsimp only at hns₁ hsb₁ ⊢
  generalize hH2 : s₂.heap.push { cls := .type "list", dict := none, data := .seq ([] : List Value).toArray } = H2 at hns₁ hsb₁ ⊢
  have hC : H2.objs.size = s₂.heap.objs.size + 1 := by rw [← hH2, Heap.size_push]
  have hDC : s₂.heap.objs.size ≠ H2.objs.size := by rw [hC]; exact Nat.ne_of_lt (Nat.lt_succ_self _)
  have old : Kp s₂.heap h₁ := fun b o e => hsb₁.extBut b o (by rw [hC]; exact Nat.ne_of_lt (Nat.lt_succ_of_lt (Heap.lt_size e))) (Heap.get?_push_of_some _ (hH2 ▸ Heap.get?_push_of_some _ e))
  have hacc : h₁.get? s₂.heap.objs.size = some (listO [] 0) := hsb₁.extBut _ _ hDC (Heap.get?_push_of_some _ (hH2 ▸ Heap.get?_push_size _ rfl))
  have Dn : s₂.heap.get? s₂.heap.objs.size = none := get_size_none _
  have Cn : s₂.heap.get? H2.objs.size = none := by
    cases e : s₂.heap.get? H2.objs.size with
    | none => rfl
    | some o' => have := Heap.lt_size e; rw [hC] at this; exact absurd (Nat.lt_of_succ_lt this) (Nat.lt_irrefl _)
  generalize eD : s₂.heap.objs.size = D at *
  generalize eC : H2.objs.size = C at *
  have hst₁ : St 0 h₁ := W.frame _ _ _ hst fun b _ o e => old b o e
  have hs1 : Sat a ρ m fp g h₁ := hs.ext O old.ext
  have ff1 : FF a.F h₁ := hs1.ff
  have FS : ∀ b ∈ a.F, ¬ b ∈ C :: D :: wr := fun b hb q => by
    obtain ⟨o, _, _, ho, _⟩ := hs.ff b hb
    rcases List.mem_cons.mp q with rfl | q
    · rw [Cn] at ho; cases ho
    · rcases List.mem_cons.mp q with rfl | q
      · rw [Dn] at ho; cases ho
      · exact (hok b (List.mem_append_left _ (W.sub b q))).2.1 hb
  have ns1 := noSeqC hns₁ hacc (fw _ _ hst₁)
  have supS : ∀ b ∈ sup, ¬ b ∈ C :: D :: wr := fun b hb q => by
    obtain ⟨o, ho⟩ := (hok b (List.mem_append_right _ hb)).2.2
    rcases List.mem_cons.mp q with rfl | q
    · rw [Cn] at ho; cases ho
    · rcases List.mem_cons.mp q with rfl | q
      · rw [Dn] at ho; cases ho
      · exact hsup b hb q
  have CF : C ∉ a.F := fun q => FS C q (.head _)
  have C0 : a.D.H0.get? C = none := by
    cases q : a.D.H0.get? C with
    | none => rfl
    | some o => rw [hs.top C o q] at Cn; cases Cn
  have Oc := compAct_ok (C := C) (cl := cl) (H1 := h₁) (args := sup) O hkind
  have loop : ∀ s₃ : Shared, s₃ = { s₂ with heap := h₁, toks := s₂.toks + ([] : List (Str × Value)).length } →
      codeAny a.M a.A (.compLoop (.ListComp elt [⟨target, iter, ifs, 0⟩] scope pos) 0 (.ref I) (.ref D) (compEnvC scope cl C a.env))
        (RR (.ref D) C) s₃ := by
    rintro s₃ rfl
    refine compLoop_turns (fun k s' => ∃ h tk m' i vs n bs, s' = { s₂ with heap := h, toks := tk } ∧ i ≤ its.length ∧ k = its.length + 1 - i ∧ St i h ∧ h.Ns C m' ∧ h.get? D = some (listO vs n) ∧
      RdAll a.D.prog a.D.w h vs (((its.take i).filter p).map f) bs ∧ (∀ b ∈ bs, b ∉ C :: D :: wr ∧ b ∉ a.F ∧ (h₁.get? b = none ∨ b ∈ sup)) ∧ But a.F (· ∈ C :: D :: wr) h₁ h) ?_ (its.length + 1)
      ⟨h₁, _, _, 0, [], 0, [], rfl, Nat.zero_le _, rfl, hst₁, hns₁, hacc, by simpa using RdAll.nil, (fun b hb => by cases hb), (Ext.refl _ _).but⟩
    rintro k s' ⟨h, tk, m', i, vs, n, bs, rfl, hle, rfl, hst', hn', hD', hr', hbs, bt⟩
    by_cases hlt : i < its.length
    · refine W.item i _ _ _ hlt hst' fun v h1 tk1 hP hst1 hk1 => ?_
      have btw : But a.F (· ∈ C :: D :: wr) h h1 := fun b o hb e => ⟨fun _ => hk1 b o (fun q => hb (.tail _ (.tail _ q))) e, o.slots, hk1 b o (fun q => hb (.tail _ (.tail _ q))) e⟩
      have bt1 := bt.trans btw
      have Dw : D ∉ wr := fun q => by
        obtain ⟨o, ho⟩ := (hok D (List.mem_append_left _ (W.sub D q))).2.2
        rw [Dn] at ho; cases ho
      have Cw : C ∉ wr := fun q => by
        obtain ⟨o, ho⟩ := (hok C (List.mem_append_left _ (W.sub C q))).2.2
        rw [Cn] at ho; cases ho
      have hn1 : h1.Ns C m' := hn'.at' fun o e => hk1 C o Cw e
      have hD1 : h1.get? D = some (listO vs n) := hk1 D _ Dw hD'
      have ff1' : FF a.F h1 := ff1.but bt1 FS
      obtain ⟨d, as, hd, rd, hsub⟩ := hi.at_ i v hP
      have rd1 : Rd a.D.prog a.D.w h1 v d as := (rd.kp old).but bt1 ns1 ff1.noSeq fun b hb => ⟨supS b (hsub b hb), (hok b (List.mem_append_right _ (hsub b hb))).2.1⟩
      have r1 : RdAll a.D.prog a.D.w h1 vs (((its.take i).filter p).map f) bs := hr'.but btw (noSeqC hn' hD' (fw _ _ hst')) (ff1.but bt FS).noSeq fun b hb => ⟨(hbs b hb).1, (hbs b hb).2.1⟩
      have exS : ∀ hh, (∃ m, hh.Ns C m) → (∃ vs n, hh.get? D = some (listO vs n)) → Foreign wr hh → ∀ b, b ∈ C :: D :: wr → ∃ o, hh.get? b = some o := fun hh x y z b hb => by
        rcases List.mem_cons.mp hb with rfl | hb
        · obtain ⟨m, o, _, _, ho, _⟩ := x; exact ⟨o, ho⟩
        · rcases List.mem_cons.mp hb with rfl | hb
          · obtain ⟨vs, n, ho⟩ := y; exact ⟨_, ho⟩
          · obtain ⟨o, ho, _⟩ := z b hb; exact ⟨o, ho⟩
      have dom1 : ∀ b o, h₁.get? b = some o → ∃ o', h1.get? b = some o' := fun b o e => by
        by_cases q : b ∈ C :: D :: wr
        · exact exS h1 ⟨_, hn1⟩ ⟨_, _, hD1⟩ (fw _ _ hst1) b q
        · obtain ⟨_, sl, q'⟩ := bt1 b o q e; exact ⟨_, q'⟩
      have top1 : Kp a.D.H0 h1 := fun b o e => (bt1 b o (fun q => by
          rcases List.mem_cons.mp q with rfl | q
          · rw [C0] at e; cases e
          · rcases List.mem_cons.mp q with rfl | q
            · have := hs.top _ _ e; rw [Dn] at this; cases this
            · exact wr0 b q o e) (hs1.top b o e)).1 fun q => by rw [framesOf_new O.stk b q] at e; cases e
      have satC : Sat (compAct a scope cl C h₁ sup) [] m' (fun _ => []) (hideAll h1 [C]) h1 := by
        refine ⟨top1, dom1, fun b o e => ⟨fun _ => of_hideAll _ e, o.slots, of_hideAll _ e⟩, C0, hideAll_none _ (.head _), hn1, ff1', (fun y sl e => by cases e), (fun y sl e => by cases e), (fun y sl e => by cases e), (fun y e => by cases e)⟩
      have finS : ∀ b ∈ as, (compAct a scope cl C h₁ sup).fine b := fun b hb => .inr (hsub b hb)
      have foC : Fo (compAct a scope cl C h₁ sup) [] (fun _ => []) h1 1 as :=
        ⟨fun b hb => ⟨fun q => supS b (hsub b hb) (by rw [q]; exact .head _), (hok b (List.mem_append_right _ (hsub b hb))).2.1, finS b hb⟩, (fun y sl b r e => by cases e), (fun y sl b r e => by cases e), (fun q => absurd q (by decide))⟩
      have hmem := List.mem_of_getElem? hd
      have htake : its.take (i + 1) = its.take i ++ [d] := by rw [List.take_add_one, hd]; rfl
      refine go (i + 1) _ v d as _ _ hst1 rd1 hmem ?_
      refine turn C h₁ sup Oc d hmem _ m' (fun _ => []) (hideAll h1 [C]) { s₂ with heap := h1, toks := tk1 } v as _ satC rd1 foC fun ρ2 m2 fp2 h2 tk2 hs2 p2 => ?_
      refine p2 m2 fp2 _ _ _ hs2 fun b h3 tk3 hs3 ex3 pb => ?_
      obtain ⟨rfl, pb⟩ := pb
      have bt2 : But a.F (· ∈ C :: D :: wr) h1 h2 := fun b o hb e => hs2.gx b o (hideAll_get _ e fun q => hb (by rcases List.mem_cons.mp q with rfl | q; exact .head _; cases q))
      have bt3 : But a.F (· ∈ C :: D :: wr) h1 h3 := bt2.trans (Ext.but ex3)
      have keep3 : ∀ b o, b ≠ C → b ∉ a.F → h1.get? b = some o → h3.get? b = some o := fun b o hb hf e => (hs3.gx b o (hideAll_get _ e fun q => hb (by rcases List.mem_cons.mp q with rfl | q; rfl; cases q))).1 hf
      have DF : D ∉ a.F := fun q => FS D q (.tail _ (.head _))
      have hst3 : St (i + 1) h3 := W.frame _ _ _ hst1 fun b hb o e => keep3 b o (fun q => by
          obtain ⟨o, ho⟩ := (hok b (List.mem_append_left _ hb)).2.2
          rw [q, Cn] at ho; cases ho) (hok b (List.mem_append_left _ hb)).2.1 e
      have hD3 : h3.get? D = some (listO vs n) := keep3 D _ hDC DF hD1
      have r3 : RdAll a.D.prog a.D.w h3 vs (((its.take i).filter p).map f) bs := r1.but bt3 (noSeqC hn1 hD1 (fw _ _ hst1)) ff1'.noSeq fun b hb => ⟨(hbs b hb).1, (hbs b hb).2.1⟩
      cases hpd : p d with
      | false =>
        simp only [Bool.false_eq_true, if_false]
        refine ⟨its.length + 1 - (i + 1), by omega, h3, tk3, m2, i + 1, vs, n, bs, rfl, hlt, rfl, hst3, hs3.ns, hD3, ?_, hbs, bt1.trans bt3⟩
        rw [htake, List.filter_append]; simpa [hpd] using r3
      | true =>
        simp only [if_true]
        refine pb hpd m2 fp2 _ _ _ hs3 fun u du fl asu h4 tk4 r pd => ?_
        obtain rfl := pd
        have ex4 : Ext a.F h3 h4 := r.ext
        have hD4 : h4.get? D = some (listO vs n) := (ex4 D _ hD3).1 DF
        have hlen : vs.toArray.size ≤ sizeLine := by
          have e1 := r3.length
          have e2 := List.length_filter_le p (its.take i)
          simp only [List.length_map] at e1
          have e3 : (its.take i).length ≤ its.length := List.length_take_le' _ _
          simp only [List.size_toArray]
          omega
        refine wpAny_list_append_plain (hsz := hlen) ⟨n, hD4⟩ fun h5 hp5 hs5 => ?_
        obtain ⟨n5, hD5⟩ := hp5
        have hD5' : h5.get? D = some (listO (vs ++ [u]) n5) := by rw [hD5]; simp [listO]
        have bt5 : But a.F (· ∈ C :: D :: wr) h4 h5 := (but_of_same hs5).mono fun b q => by rw [q]; exact .tail _ (.head _)
        have hasu : ∀ b ∈ asu, b ∉ C :: D :: wr ∧ b ∉ a.F ∧ (h₁.get? b = none ∨ b ∈ sup) := fun b hb => by
          obtain ⟨z1, z2, z3⟩ := r.fo.ok b hb
          refine ⟨fun q => ?_, z2, z3⟩
          rcases z3 with z3 | z3
          · obtain ⟨o, ho⟩ := exS h₁ ⟨_, hns₁⟩ ⟨_, _, hacc⟩ (fw _ _ hst₁) b q
            have z3' : h₁.get? b = none := z3
            rw [z3'] at ho; cases ho
          · exact supS b z3 q
        have ns4 := noSeqC r.sat.ns hD4 (fun b hb => by
          obtain ⟨o, ho, rest⟩ := fw _ _ hst3 b hb
          exact ⟨o, (ex4 b o ho).1 (hok b (List.mem_append_left _ (W.sub b hb))).2.1, rest⟩ : Foreign wr h4)
        refine ⟨its.length + 1 - (i + 1), by omega, h5, tk4, m2, i + 1, vs ++ [u], n5, bs ++ asu, rfl, hlt, rfl, ?_, ?_, hD5', ?_, fun b hb => (List.mem_append.mp hb).elim (hbs b) (hasu b), ((bt1.trans bt3).trans (Ext.but ex4)).trans bt5⟩
        · refine W.frame _ _ _ hst3 fun b hb o e => hs5.extBut b o (fun q => ?_) ((ex4 b o e).1 (hok b (List.mem_append_left _ hb)).2.1)
          obtain ⟨o, ho⟩ := (hok b (List.mem_append_left _ hb)).2.2
          rw [q, Dn] at ho; cases ho
        · exact r.sat.ns.sameBut hs5 (Ne.symm hDC)
        · rw [htake, List.filter_append]
          have q1 := (r3.ext ex4 (ff1'.but bt3 FS) fun b hb => (hbs b hb).2.1).snoc r.rd
          have q2 := q1.but bt5 ns4 r.sat.ff.noSeq fun b hb => (List.mem_append.mp hb).elim (fun z => ⟨(hbs b z).1, (hbs b z).2.1⟩) fun z => ⟨(hasu b z).1, (hasu b z).2.1⟩
          simpa [hpd] using q2
    · have hi0 : i = its.length := by omega
      subst hi0
      refine W.done _ _ _ hst' fun h1 tk1 hk1 => ?_
      have btw : But a.F (· ∈ C :: D :: wr) h h1 := fun b o hb e => ⟨fun _ => hk1 b o (fun q => hb (.tail _ (.tail _ q))) e, o.slots, hk1 b o (fun q => hb (.tail _ (.tail _ q))) e⟩
      have Dw : D ∉ wr := fun q => by
        obtain ⟨o, ho⟩ := (hok D (List.mem_append_left _ (W.sub D q))).2.2
        rw [Dn] at ho; cases ho
      have Cw : C ∉ wr := fun q => by
        obtain ⟨o, ho⟩ := (hok C (List.mem_append_left _ (W.sub C q))).2.2
        rw [Cn] at ho; cases ho
      have r1 := hr'.but btw (noSeqC hn' hD' (fw _ _ hst')) (ff1.but bt FS).noSeq fun b hb => ⟨(hbs b hb).1, (hbs b hb).2.1⟩
      refine hRR D C h1 tk1 m' vs bs n Dn Cn hDC (hn'.at' fun o e => hk1 C o Cw e) (hk1 D _ Dw hD') (by simpa using r1) (fun b hb => ?_) fun b o hb e => ?_
      · obtain ⟨z1, z2, z3⟩ := hbs b hb
        refine ⟨fun q => z1 (q ▸ .head _), fun q => z1 (q ▸ .tail _ (.head _)), z2, z3.imp (fun q => ?_) id⟩
        cases e : s₂.heap.get? b with
        | none => rfl
        | some o => rw [old b o e] at q; cases q
      · refine (bt.trans btw) b o (fun q => ?_) (old b o e)
        rcases List.mem_cons.mp q with rfl | q
        · rw [Cn] at e; cases e
        · rcases List.mem_cons.mp q with rfl | q
          · rw [Dn] at e; cases e
          · exact hb q
  exact codeAny_compStart_list (loop _ rfl) (W.self 0 _ _ _ hst₁ (loop _ rfl))
end
end Mine
end

section
open PySem PySem.W PySem.Calls PyProof.Rows
set_option maxRecDepth 100000
set_option autoImplicit false
set_option linter.unusedVariables false
namespace Mine

structure CompShape (a : Act) (scope : Scope) (cl : List (Str × Addr)) : Prop where
  clos : closureFor scope a.env = pure cl
  cell : ∀ y ∈ scope.names, y.2 ≠ .cell
  kind : scope.kind = .function
  names : ∀ y ∈ scope.names, y.2 = .local → scope.names.lookup y.1 = some .local

/-- a turn of a comprehension -/
def CompTurn (a : Act) (scope : Scope) (cl : List (Str × Addr)) (target elt : Expr) (ifs : List Expr) (p : PyData → Bool) (f : PyData → PyData) (x : PyData) : Prop :=
  ∀ C H1 args, (compAct a scope cl C H1 args).Ok → ∀ E', Asg (compAct a scope cl C H1 args) E' [] target x fun ρ2 =>
    RunB (compAct a scope cl C H1 args) E' ρ2 (testsOf ifs (compEnvC scope cl C a.env)) fun b => b = p x ∧ (b = true → Ev (compAct a scope cl C H1 args) E' ρ2 elt fun d _ => d = f x)

def TargetOk (target : Expr) (xs : List PyData) : Prop := (∃ x p, target = .Name x p) ∨ ((∃ es k p, target = .Tuple es k p) ∧ ∀ d ∈ xs, ∃ ds, d = .tuple ds)

section
variable {a : Act} {E : Value → Shared → Prop} {ρ : Ro} {N C : Ro → Prop} {R : Ro → PyData → Prop} {P : PyData → Nat → Prop}

theorem comp_list (O : a.Ok) {elt target iter : Expr} {ifs : List Expr} {scope : Scope} {cl : List (Str × Addr)} {pos : Pos} {RR : Value → Addr → Result → Shared → Prop} (sh : CompShape a scope cl)
    {p : PyData → Bool} {f : PyData → PyData} {xs : List PyData} (ht : TargetOk target xs) (hsz : xs.length ≤ sizeLine) (turn : ∀ x ∈ xs, CompTurn a scope cl target elt ifs p f x)
    {m : Str → Option Value} {fp : Str → List Addr} {g h0 : Heap} {s : Shared} {v : Value} {fl : Nat} {as : List Addr} (r : Res a ρ m fp g h0 v (.list xs) fl as s.heap)
    (hRR : ∀ D C h' tk m' bs, s.heap.get? C = none → h'.Ns C m' → Res a ρ m fp g h0 (.ref D) (.list ((xs.filter p).map f)) (if atoms ((xs.filter p).map f) then 2 else 1) (D :: bs) h' → C ∉ D :: bs →
      RR (.ref D) C (.ok .next) { s with heap := h', toks := tk }) :
    wpAny a.M a.A (pyIter v) (fun it s₂ => wpAny a.M a.A (newList []) (fun acc s₃ => wpAny a.M a.A (newFunctionEnv scope a.env.globals cl [] a.env.qual none .none (some a.env)) (fun cenv s₄ =>
      codeAny a.M a.A (.compStart (.ListComp elt [⟨target, iter, ifs, 0⟩] scope pos) 0 it acc { cenv with scope := relabel scope a.env }) (RR acc cenv.locals) s₄) E s₃) E s₂) E s := by
  obtain ⟨l, vs, n, bs, rfl, rfl, ho, q⟩ := r.rd.list_inv
  have hlt : l ≠ s.heap.objs.size := Nat.ne_of_lt (Heap.lt_size ho)
  refine wpAny_pyIter_list (items := vs.toArray) ⟨_, ho, rfl, n, rfl⟩ ?_
  have kp := Kp.push s.heap { cls := .type "list_iterator", data := .fields #[.ref l, .int 0 0] }
  have len : vs.toArray.size = xs.length := by simp [q.length]
  have nw : s.heap.get? s.heap.objs.size = none := get_size_none _
  have np := r.sat.newPlace O nw
  have here : ∀ b ∈ bs, ∃ o, s.heap.get? b = some o := q.here
  have isI : (s.heap.push { cls := .type "list_iterator", data := .fields #[.ref l, .int 0 0] }).get? s.heap.objs.size = some { cls := .type "list_iterator", data := .fields #[.ref l, .int 0 0] } := get_push_self _ _
  have satI := r.sat.pushed O { cls := .type "list_iterator", data := .fields #[.ref l, .int 0 0] }
  refine comp_core (P := fun i v => vs.toArray[i]? = some v) (St := fun i h => h.IsListIter s.heap.objs.size l i ∧ h.IsList l vs.toArray) (its := xs) (sup := bs) O sh.cell sh.kind (len ▸ Walks.list O.hd s.heap.objs.size l hlt vs.toArray)
    (fun i h ⟨⟨o, ho, hc, hd⟩, _⟩ => ?_) (fun i s' v d as Q E' st rd hd q => ?_) hsz (fun b hb hw => ?_) p f (fun C H1 args O' x hx E' => turn x hx C H1 args O' E') satI ⟨⟨_, isI, rfl, rfl⟩, _, kp _ _ ho, rfl, n, rfl⟩ ⟨fun j v hv => ?_⟩ (fun b hb => ?_) (fun b hb o e => ?_)
    fun D C h' tk m' vs' bs' n' hDn hCn hDC hnC hD rdl hbs bt => ?_
  · exact foreign_of ho (by rw [hc]; decide) (by rw [hc]; decide) (by rw [hc]; decide) (fun es n q => by rw [hd] at q; cases q)
  · rcases ht with ⟨x, px, rfl⟩ | ⟨⟨es, k, px, rfl⟩, ht⟩
    · exact wpAny_pure q
    · obtain ⟨ds, rfl⟩ := ht d hd
      obtain ⟨t, _, _, rfl, _⟩ := rd.tuple_inv
      exact wpAny_letOwnedTupleGo_listiter st.1 q
  · rw [List.mem_singleton.mp hw] at hb
    obtain ⟨o, ho⟩ := here _ hb
    rw [nw] at ho; cases ho
  · have hj : j < xs.length := by rw [← q.length]; have := (Array.getElem?_eq_some_iff.mp hv).1; simpa using this
    obtain ⟨v', cs, hv', rd, hsub⟩ := q.get (i := j) (d := xs[j]) (by simp [hj])
    have : v' = v := by
      have e1 : vs[j]? = some v := by simpa using hv
      rw [hv'] at e1; exact Option.some.inj e1
    subst this
    exact ⟨xs[j], cs, by simp [hj], rd.kp kp, hsub⟩
  · simp only [List.mem_append, List.mem_cons, List.not_mem_nil, or_false] at hb
    rcases hb with (rfl | rfl) | hb
    · exact ⟨(r.sat.newFine nw).1, (r.sat.newFine nw).2.1, _, isI⟩
    · exact ⟨(r.fo.ok _ (.head _)).1, (r.fo.ok _ (.head _)).2.1, _, kp _ _ ho⟩
    · obtain ⟨o, ho⟩ := here b hb
      exact ⟨(r.fo.ok _ (.tail _ hb)).1, (r.fo.ok _ (.tail _ hb)).2.1, o, kp _ _ ho⟩
  · rw [List.mem_singleton.mp hb] at e
    rw [np.2.1] at e; cases e
  · have fI : Foreign [s.heap.objs.size] (s.heap.push { cls := .type "list_iterator", data := .fields #[.ref l, .int 0 0] }) := fun b hb => by
      rw [List.mem_singleton.mp hb]; exact ⟨_, isI, (fun q => absurd (show Value.type "list_iterator" = Value.type "list" from q) (by decide)), (fun q => absurd (show Value.type "list_iterator" = Value.type "tuple" from q) (by decide)), (fun q => absurd (show Value.type "list_iterator" = Value.type "dict" from q) (by decide)), fun es n q => by cases q⟩
    have sat' : Sat a ρ m fp g h' := Sat.apart O satI bt fI.noSeq fun b hb => by
      obtain rfl := List.mem_singleton.mp hb
      exact ⟨np.1, np.2.1, (r.sat.newFine nw).1, (r.sat.newFine nw).2.1, (fun y sl e hm => by
        obtain ⟨u, _, rd⟩ := r.sat.var y sl e
        obtain ⟨o, ho⟩ := rd.here _ hm
        rw [nw] at ho; cases ho), .inl np.2.2⟩
    have ex : Ext a.F s.heap h' := fun b o e => bt b o (fun hb => by rw [List.mem_singleton.mp hb, nw] at e; cases e) (kp b o e)
    have old : ∀ b, (s.heap.push { cls := .type "list_iterator", data := .fields #[.ref l, .int 0 0] }).get? b = none → s.heap.get? b = none := fun b e => by
      cases z : s.heap.get? b with
      | none => rfl
      | some o => rw [kp b o z] at e; cases e
    have hDn' := old D hDn
    have hCn' := old C hCn
    have cleanB : ∀ b ∈ bs', s.heap.get? b = none ∨ b ∈ bs := fun b hb => (hbs b hb).2.2.2.imp (old b) id
    have fo0 := r.fo
    refine hRR D C h' tk m' bs' hCn' hnC ⟨sat', r.ext.trans ex, .list hD rdl, ?_⟩ fun hm => ?_
    · have main : Fo a ρ fp h0 1 (D :: bs') := by
        have key : ∀ b ∈ bs', (b ≠ a.L ∧ b ∉ a.F ∧ a.fine b) ∧ ∀ y sl c rr, ρ.lookup y = some sl → sl.own = true → fp y = c :: rr → c ≠ b := fun b hb => by
          rcases cleanB b hb with z | z
          · exact ⟨r.sat.newFine z, fun y sl c rr e ow q => r.sat.newClean z e q⟩
          · exact ⟨r.fo.ok b (.tail _ z), fun y sl c rr e ow q w => r.fo.tl y sl c rr e ow q (w ▸ z)⟩
        refine ⟨fun b hb => ?_, fun y sl c rr e ow q hb => ?_, fun y sl c rr e ow q _ hb => ?_, fun k => absurd k (by decide)⟩
        · rcases List.mem_cons.mp hb with rfl | hb
          · exact r.sat.newFine hDn'
          · exact (key b hb).1
        · exact (key c hb).2 y sl c rr e ow q rfl
        · rcases List.mem_cons.mp hb with rfl | hb
          · exact r.sat.newClean hDn' e q rfl
          · exact (key c hb).2 y sl c rr e ow q rfl
      by_cases hat : atoms ((xs.filter p).map f) = true
      · rw [if_pos hat]
        obtain rfl := rdl.atoms hat
        refine ⟨main.ok, main.tl, fun y sl c rr e ow q _ => main.cl y sl c rr e ow q (Nat.le_refl _), fun _ b hb => ?_⟩
        obtain rfl := List.mem_singleton.mp hb
        exact r.ext.none hDn'
      · rw [if_neg hat]; exact main
    · rcases List.mem_cons.mp hm with q | q
      · exact hDC q.symm
      · exact (hbs _ q).1 rfl

/-- the comprehension's own names let go -/
theorem Sat.letC (O : a.Ok) {m m' : Str → Option Value} {fp : Str → List Addr} {g h1 h' h'' : Heap} {C : Addr} {ρ1 : Ro} {m1 : Str → Option Value} {fp1 : Str → List Addr} (x : Sat a ρ m fp g h') (hn : h'.Ns C m')
    (s1 : Sat a ρ1 m1 fp1 g h1) (c1 : h1.get? C = none) (hfp : ∀ y sl, ρ.lookup y = some sl → C ∉ fp y) (k : Heap.SameBut C h' h'') : Sat a ρ m fp g h'' := by
  have ns : NoSeq (· = C) h' := fun b o hb ho vs n q => by
    subst hb
    obtain ⟨o', _, _, ho', hd, _⟩ := hn
    rw [ho'] at ho; cases ho; rw [q] at hd; cases hd
  have np := s1.newPlace O c1
  have nf := s1.newFine c1
  refine Sat.apart O x (but_of_same k) ns fun b hb => ?_
  subst hb
  exact ⟨np.1, np.2.1, nf.1, nf.2.1, hfp, .inl np.2.2⟩
theorem new_fp {m : Str → Option Value} {fp : Str → List Addr} {g h : Heap} {C : Addr} (x : Sat a ρ m fp g h) (c : h.get? C = none) : ∀ y sl, ρ.lookup y = some sl → C ∉ fp y := fun y sl e hm => by
  obtain ⟨u, _, rd⟩ := x.var y sl e
  obtain ⟨o, ho⟩ := rd.here _ hm
  rw [c] at ho; cases ho

/-- [elt for target in iter if ..] -/
theorem Ev.comp (O : a.Ok) {elt target iter : Expr} {ifs : List Expr} {scope : Scope} {cl : List (Str × Addr)} {pos : Pos} (sh : CompShape a scope cl)
    (h : Ev a E ρ iter fun d _ => ∃ xs p f, d = .list xs ∧ TargetOk target xs ∧ xs.length ≤ sizeLine ∧ (∀ x ∈ xs, CompTurn a scope cl target elt ifs p f x) ∧ P (.list ((xs.filter p).map f)) (if atoms ((xs.filter p).map f) then 2 else 1))
    (hf : ∀ x, foldedSetIterable iter a.env x = pure x := by intro _; rfl) : Ev a E ρ (.ListComp elt [⟨target, iter, ifs, 0⟩] scope pos) P := by
  intro m fp g s Q hs K
  rw [eval_ListComp]
  refine wpAny_comprehension_free (use := none) rfl hf sh.clos sh.kind sh.names (h m fp g s _ hs fun v d fl as h1 tk r pp => ?_)
  obtain ⟨xs, p, f, rfl, ht, hsz, turn, pp⟩ := pp
  refine comp_list (h0 := s.heap) (RR := fun acc C => compPost a.M a.A E none Q acc C) O sh ht hsz turn (s := { s with heap := h1, toks := tk }) r fun D C h' tk' m' bs hCn hnC r' hC => ?_
  refine ⟨m', hnC, fun h'' hs'' => K _ _ _ _ h'' tk' ⟨r'.sat.letC O hnC r.sat hCn (new_fp r.sat hCn) hs'', fun b o e => ?_, ?_, r'.fo⟩ pp⟩
  · obtain ⟨p, sl, q⟩ := r'.ext b o e
    have hb : b ≠ C := fun z => by obtain ⟨o', ho'⟩ := r.ext.some e; rw [z] at ho'; rw [show h1.get? C = none from hCn] at ho'; cases ho'
    exact ⟨fun z => (hs''.2 b hb).trans (p z), sl, (hs''.2 b hb).trans q⟩
  · refine r'.rd.but (but_of_same hs'') (fun b o hb ho vs n q => ?_) r'.sat.ff.noSeq fun b hb => ⟨fun q => hC (q ▸ hb), (r'.fo.ok b hb).2.1⟩
    subst hb
    obtain ⟨o', _, _, ho', hd, _⟩ := hnC
    rw [ho'] at ho; cases ho; rw [q] at hd; cases hd

set_option maxHeartbeats 1000000 in
/-- y = [elt for target in iter if ..] -/
theorem Ex1.assignComp (O : a.Ok) {elt target iter : Expr} {ifs : List Expr} {scope : Scope} {cl : List (Str × Addr)} {pos py spos : Pos} {y : Str} (sh : CompShape a scope cl)
    (h : Ev a E ρ iter fun d _ => ∃ xs p f, d = .list xs ∧ TargetOk target xs ∧ xs.length ≤ sizeLine ∧ (∀ x ∈ xs, CompTurn a scope cl target elt ifs p f x) ∧ N (ρ.set y ⟨.list ((xs.filter p).map f), false⟩))
    (hsw : swapsWith (.ListComp elt [⟨target, iter, ifs, 0⟩] scope pos) (some (.Name y py)) spos.line a.env = pure true) (hl : a.env.kindOf y = some .local := by rfl) (hp : a.pinN ≠ some y := by first | exact nofun | exact pin_ne (by rfl))
    (hf : ∀ x, foldedSetIterable iter a.env x = pure x := by intro _; rfl) : Ex1 a E ρ (.Assign [.Name y py] (.ListComp elt [⟨target, iter, ifs, 0⟩] scope pos) spos) N R C := by
  intro m fp g s Q hs k1 _ _
  rw [exec_Assign_Name_used _ _ _ _ hsw]
  refine wpAny_bind (wpAny_standAt (wpAny_bind ?_))
  show wpAny _ _ (do let _ ← comprehension (.ListComp elt [⟨target, iter, ifs, 0⟩] scope pos) scope a.env _ (newList []) false (eval iter a.env) (some (PySem.assign (.Name y py) a.env))) _ _ s
  refine wpAny_bind (wpAny_mono (wpAny_comprehension_free (use := some (PySem.assign (.Name y py) a.env)) (Q := fun _ s' => Q .next s') rfl hf sh.clos sh.kind sh.names ?_)
    (fun _ s' hq => wpAny_pure (wpAny_pure hq)) fun _ _ e => e)
  refine h m fp g s _ hs fun v d fl as h1 tk r pp => ?_
  obtain ⟨xs, p, f, rfl, ht, hsz, turn, pp⟩ := pp
  refine comp_list (h0 := s.heap) (RR := fun acc C => compPost a.M a.A E (some (PySem.assign (.Name y py) a.env)) (fun _ s' => Q .next s') acc C) O sh ht hsz turn (s := { s with heap := h1, toks := tk }) r fun D C h' tk' m' bs hCn hnC r' hC => ?_
  show wpAny _ _ (PySem.assign (.Name y py) a.env (.ref D)) _ _ _
  have hLC : a.L ≠ C := fun q => (r.sat.newFine hCn).1 q.symm
  refine wpAny_assign_Name (wpAny_storeName_local hl r'.sat.ns (fun h₂ hn₂ hs₂ => ?_) (by rw [O.kind]; rfl))
  refine ⟨m', hnC.sameBut hs₂ (Ne.symm hLC), fun h₃ hs₃ => ?_⟩
  have st := Sat.store O r' (by split <;> decide) hn₂ hs₂ false (by intro q; cases q) hp
  refine k1 _ _ _ h₃ _ (st.letC O (hnC.sameBut hs₂ (Ne.symm hLC)) r.sat hCn (fun z sl e hm => ?_) hs₃) pp
  rw [Ro.set_lookup] at e
  by_cases hz : z = y
  · subst hz; rw [if_pos rfl] at hm; exact hC hm
  · rw [if_neg hz] at e hm; exact new_fp r.sat hCn z sl e hm
end
end Mine
end

section
open PySem PySem.W PySem.Calls PyProof.Rows
set_option maxRecDepth 100000
set_option autoImplicit false
set_option linter.unusedVariables false
namespace Mine

section
variable {a : Act} {E : Value → Shared → Prop} {ρ : Ro} {N C : Ro → Prop} {R : Ro → PyData → Prop}

set_option maxHeartbeats 1000000 in
/-- for i, n in enumerate(list of plain data) -/
theorem Ex1.forEnum (O : a.Ok) {elts : List Expr} {k0 : Nat} {tp pn cp pos : Pos} {e : Expr} {body : List Stmt} {x y : Str} (J : Nat → Ro → Prop) (its : List PyData)
    (turn : ∀ i d ρ', its[i]? = some d → J i ρ' → Ex a (loopE a E) (setAll ρ' [x, y] [.int i, d]) body (J (i + 1)) R (J (i + 1)))
    (fin : ∀ ρ', J its.length ρ' → N ρ')
    (h : Ev a E ρ e fun d f => 1 ≤ f ∧ d = .list its ∧ atoms its = true ∧ J 0 ρ)
    (hg : a.D.mg "enumerate" = none) (hn : namesOf elts = some [x, y] := by rfl) (hl : ∀ z ∈ [x, y], a.env.kindOf z = some .local ∧ a.pinN ≠ some z) (hx : a.env.kindOf "enumerate" = some .globalImplicit := by rfl)
    (hf : ∀ v, foldedSetIterable (.Call (.Name "enumerate" pn) [e] [] cp) a.env v = pure v := by intro _; rfl)
    (he : starEach [e] a.env = (false, eval e a.env) :: starEach [] a.env := by rfl) : Ex1 a E ρ (.For (.Tuple elts k0 tp) (.Call (.Name "enumerate" pn) [e] [] cp) body [] pos) N R C := by
  intro m fp g s Q hs k1 _ k3
  refine wpAny_For (Call_ (builtin_name O hs PyProof.Rows.Boot.«enumerate» hg (by decide) ?_ hx) ) hf
  rw [he]
  refine PySem.callWith_type (T := "enumerate") rfl (evalArgs_plain (spliced_cons ?_))
  refine h m fp g s _ hs fun v d f as h1 tk r p => spliced_nil ?_
  obtain ⟨hf1, rfl, hat, pJ⟩ := p
  obtain ⟨l, vs, n, bs, rfl, rfl, ho, q⟩ := r.rd.list_inv
  obtain rfl := q.atoms hat
  have isL : h1.IsList l vs.toArray := ⟨_, ho, rfl, n, rfl⟩
  have len : vs.toArray.size = its.length := by simp [q.length]
  refine call_enumerate_list isL fun h2 en0 it0 hsz2 kp2 => ?_
  have nI : h1.get? h1.objs.size = none := get_size_none _
  have nE : h1.get? (h1.objs.size + 1) = none := by
    cases z : h1.get? (h1.objs.size + 1) with
    | none => rfl
    | some o => exact absurd (Nat.lt_of_succ_lt (Heap.lt_size z)) (Nat.lt_irrefl _)
  have hllt : l < h1.objs.size := Heap.lt_size ho
  have npI := r.sat.newPlace O nI
  have npE := r.sat.newPlace O nE
  have nfI := r.sat.newFine nI
  have nfE := r.sat.newFine nE
  refine wpAny_pyIter_enum en0 ?_
  have W := WalksT.enumerate (prog := a.D.prog) (w := a.D.w) O.hd (h1.objs.size + 1) h1.objs.size l (Nat.succ_ne_self _) (Nat.ne_of_lt (Nat.lt_succ_of_lt hllt)) (Nat.ne_of_lt hllt) vs.toArray
  have foreign : ∀ {h : Heap}, (∃ o, h.get? (h1.objs.size + 1) = some o ∧ o.cls = .type "enumerate" ∧ ∀ es n, o.data ≠ .dict es n) → (∃ i, h.IsListIter h1.objs.size l i) → Foreign [h1.objs.size + 1, h1.objs.size] h := fun {h} x y b hb => by
    rcases List.mem_cons.mp hb with rfl | hb
    · obtain ⟨o, ho, hc, hd⟩ := x
      exact ⟨o, ho, (by rw [hc]; decide), (by rw [hc]; decide), (by rw [hc]; decide), hd⟩
    · obtain rfl := List.mem_singleton.mp hb
      obtain ⟨i, o, ho, hc, hd⟩ := y
      exact ⟨o, ho, (by rw [hc]; decide), (by rw [hc]; decide), (by rw [hc]; decide), fun es n q => by rw [hd] at q; cases q⟩
  have sat2 : Sat a ρ m fp g h2 := r.sat.ext O (Kp.ext kp2)
  have ap2 : Apart a ρ fp [h1.objs.size + 1, h1.objs.size, l] h2 := by
    refine ⟨fun b hb => ?_, fun b hb => ?_, fun b hb => ?_⟩
    · simp only [List.mem_cons, List.not_mem_nil, or_false] at hb
      rcases hb with rfl | rfl | rfl
      · exact ⟨nfE.1, nfE.2.1⟩
      · exact ⟨nfI.1, nfI.2.1⟩
      · exact ⟨(r.fo.ok _ (.head _)).1, (r.fo.ok _ (.head _)).2.1⟩
    · simp only [List.mem_cons, List.not_mem_nil, or_false] at hb
      rcases hb with rfl | rfl | rfl
      · exact ⟨_, en0⟩
      · obtain ⟨o, ho, _⟩ := it0; exact ⟨o, ho⟩
      · exact ⟨_, kp2 _ _ ho⟩
    · simp only [List.mem_cons, List.not_mem_nil, or_false] at hb
      rcases hb with rfl | rfl | rfl
      · exact r.sat.newOwn nE
      · exact r.sat.newOwn nI
      · intro hm
        obtain ⟨z, sl, rr, e, ow, q⟩ := mem_ownedOf.mp hm
        exact r.fo.cl z sl _ rr e ow q hf1 (.head _)
  have hwr : ∀ b ∈ [h1.objs.size + 1, h1.objs.size], g.get? b = none ∧ a.D.H0.get? b = none ∧ a.H1.get? b = none ∧ b ≠ a.L ∧ b ∉ a.F := fun b hb => by
    rcases List.mem_cons.mp hb with rfl | hb
    · exact ⟨npE.1, npE.2.1, npE.2.2, nfE.1, nfE.2.1⟩
    · obtain rfl := List.mem_singleton.mp hb; exact ⟨npI.1, npI.2.1, npI.2.2, nfI.1, nfI.2.1⟩
  refine codeAny_forLoop_any
    (fun k s' => ∃ h tk ρ' m' fp', ∃ i : Nat, s' = { s with heap := h, toks := tk } ∧ Sat a ρ' m' fp' g h ∧ ((∃ old, IsEnum h (h1.objs.size + 1) h1.objs.size (i : Nat) old) ∧ h.IsListIter h1.objs.size l i ∧ h.IsList l vs.toArray) ∧ RdAll a.D.prog a.D.w h vs its [] ∧ Apart a ρ' fp' [h1.objs.size + 1, h1.objs.size, l] h ∧ J i ρ' ∧ i ≤ its.length ∧ k = its.length + 1 - i)
    ?_ (its.length + 1) ⟨h2, tk, ρ, m, fp, 0, rfl, sat2, ⟨⟨_, en0⟩, it0, ⟨_, kp2 _ _ ho, rfl, n, rfl⟩⟩, q.kp kp2, ap2, pJ, Nat.zero_le _, rfl⟩
  rintro k s' ⟨h, tk, ρ', m', fp', i, rfl, hs', hst', hr', ap', hJ', hle, rfl⟩
  have fo0 : Foreign [h1.objs.size + 1, h1.objs.size] h := foreign (by obtain ⟨old, e⟩ := hst'.1; exact ⟨_, e, rfl, fun es n q => by cases q⟩) ⟨i, hst'.2.1⟩
  by_cases hlt : i < its.length
  · refine W.item i _ _ _ (by rw [len]; exact hlt) hst' fun T vals h3 tk3 hP hT isT mid hk3 => ?_
    obtain ⟨t, u, hu, rfl⟩ := hP
    refine W.go elts k0 tp i T _ _ _ mid fun h4 hst4 hk4 => ?_
    have hk34 : ∀ b o, b ∉ [h1.objs.size + 1, h1.objs.size] → h.get? b = some o → h4.get? b = some o := fun b o hb e => hk4 b o hb (hk3 b o hb e)
    have isT4 : h4.IsTuple T #[.int i t, u] := isT.at fun o e => hk4 T o (W.apart _ _ _ mid) e
    obtain ⟨l1, l2⟩ := assignEach_len (env := a.env) hn
    refine wpAny_assign_Tuple (t := T) O.hd isT4 (by rw [l1]; rfl) l2 fun h5 hx5 => ?_
    have kp5 : Kp h4 h5 := fun b o e => hx5 b o (Nat.ne_of_lt (Heap.lt_size e)) e
    have hk : ∀ b o, b ∉ [h1.objs.size + 1, h1.objs.size] → h.get? b = some o → h5.get? b = some o := fun b o hb e => kp5 b o (hk34 b o hb e)
    have hs5 := hs'.foreign fo0 hk hwr
    have r5 : RdAll a.D.prog a.D.w h5 vs its [] := hr'.but (F := a.F) (S := (· ∈ [h1.objs.size + 1, h1.objs.size])) (fun b o hb e => ⟨fun _ => hk b o hb e, o.slots, hk b o hb e⟩) fo0.noSeq hs'.ff.noSeq fun b hb => nomatch hb
    obtain ⟨d, hd⟩ : ∃ d, its[i]? = some d := ⟨its[i], by simp [hlt]⟩
    obtain ⟨u', cs, hu', rdu, hcs⟩ := r5.get hd
    have : u' = u := by
      have e1 : vs[i]? = some u := by simpa using hu
      rw [hu'] at e1; exact Option.some.inj e1
    subst this
    have : cs = [] := by cases cs with | nil => rfl | cons c _ => exact nomatch hcs c (.head _)
    subst this
    have rdp : RdAll a.D.prog a.D.w h5 [.int i t, u'] [.int i, d] [] := .cons (.int i t) (.cons rdu .nil)
    have hst5 : (∃ old, IsEnum h5 (h1.objs.size + 1) h1.objs.size ((i + 1 : Nat) : Int) old) ∧ h5.IsListIter h1.objs.size l (i + 1) ∧ h5.IsList l vs.toArray := W.frame _ _ _ hst4 fun b _ o e => kp5 b o e
    have ap5 : Apart a ρ' fp' [h1.objs.size + 1, h1.objs.size, l] h5 := ⟨ap'.ok, fun b hb => by
      simp only [List.mem_cons, List.not_mem_nil, or_false] at hb
      rcases hb with rfl | rfl | rfl
      · obtain ⟨old, e⟩ := hst5.1; exact ⟨_, e⟩
      · obtain ⟨o, ho, _⟩ := hst5.2.1; exact ⟨o, ho⟩
      · obtain ⟨o, ho, _⟩ := hst5.2.2; exact ⟨o, ho⟩, ap'.own⟩
    refine assignNames (g := hid a ρ' fp' h5) O hn rfl hl (s := { s with heap := h5, toks := tk3 }) hs5.hide rdp (Fo.nil 1) fun m2 fp2 h6 tk6 hs6 => ?_
    have back : ∀ ρ3 m3 fp3 h3 tk3, Sat a ρ3 m3 fp3 (hid a ρ' fp' h5) h3 → J (i + 1) ρ3 →
        ∃ mm, mm < its.length + 1 - i ∧ ∃ h tk ρ' m' fp' j, ({ s with heap := h3, toks := tk3 } : Shared) = { s with heap := h, toks := tk } ∧ Sat a ρ' m' fp' g h ∧ ((∃ old, IsEnum h (h1.objs.size + 1) h1.objs.size (j : Nat) old) ∧ h.IsListIter h1.objs.size l j ∧ h.IsList l vs.toArray) ∧ RdAll a.D.prog a.D.w h vs its [] ∧ Apart a ρ' fp' [h1.objs.size + 1, h1.objs.size, l] h ∧ J j ρ' ∧ j ≤ its.length ∧ mm = its.length + 1 - j := by
      intro ρ3 m3 fp3 h3 tk3 hs3 hJ3
      have inHid : ∀ b ∈ [h1.objs.size + 1, h1.objs.size, l], ∀ o, h5.get? b = some o → (hid a ρ' fp' h5).get? b = some o := fun b hb o ho => hid_get ho (ap5.ok b hb).1 (ap5.own b hb)
      refine ⟨its.length + 1 - (i + 1), by omega, h3, tk3, ρ3, m3, fp3, i + 1, rfl, hs5.unhide hs3, ?_, ?_, ⟨ap5.ok, fun b hb => ?_, fun b hb q => ?_⟩, hJ3, hlt, rfl⟩
      · exact W.frame _ _ _ hst5 fun b hb o ho => (hs3.gx b o (inHid b hb o ho)).1 (ap5.ok b hb).2
      · exact r5.but (but_hid hs3.gx) hs5.noSeqOwn hs5.ff.noSeq fun b hb => nomatch hb
      · obtain ⟨o, ho⟩ := ap5.here b hb
        exact hs3.gx.some (inHid b hb o ho)
      · obtain ⟨o, ho⟩ := ap5.here b hb
        obtain ⟨y, sl, r, e, ow, z⟩ := mem_ownedOf.mp q
        obtain ⟨b', r', f1, _, _, f2, _⟩ := hs3.own y sl e ow
        rw [z] at f1; cases f1
        rw [inHid b hb o ho] at f2; cases f2
    refine turn i d ρ' hd hJ' m2 fp2 (hid a ρ' fp' h5) { s with heap := h6, toks := tk6 } _ hs6 (fun ρ3 m3 fp3 h3 tk3 hs3 p3 => back ρ3 m3 fp3 h3 tk3 hs3 p3) (fun ρ3 m3 fp3 h3 tk3 hs3 p3 => back ρ3 m3 fp3 h3 tk3 hs3 p3) fun ρ3 m3 fp3 u du asu h3 tk3 ro pr => ?_
    exact k3 ρ3 m3 fp3 u du asu h3 tk3 ⟨hs5.unhide ro.sat, ro.rd, ro.ok⟩ pr
  · have hi0 : i = its.length := by omega
    subst hi0
    refine W.done _ _ _ (by rw [len]; exact hst') fun h3 tk3 hk3 => wpAny_execs_nil ?_
    exact k1 ρ' m' fp' h3 tk3 (hs'.foreign fo0 hk3 hwr) (fin ρ' hJ')
end
end Mine
end

section
open PySem PySem.W PySem.Calls PyProof.Rows
set_option maxRecDepth 100000
set_option autoImplicit false
set_option linter.unusedVariables false
namespace Mine

section
variable {M : Model} {A : Around} {E : Value → Shared → Prop} {s : Shared}

/-- a new exception is noted in a frame -/
theorem note_first {base h : Heap} {env : Env} {outer : List Env} {L e : Addr} {X : String} {Q : Unit → Shared → Prop}
    (hfr : A.frames = some (env :: outer)) (hf : env.frame = some L) (hkb : base.StaysIn h) (hl : h.FunFrames base (env :: outer)) (hx : Heap.NewExc h s.heap e X)
    (hQ : ∀ h' a0, Heap.HeldW base (env :: outer) e (.type X) a0 L h' → s.heap.UpToSlots h' → Q () { s with heap := h' }) : wpAny M A (noteFrame (.ref e) env) Q E s := by
  obtain ⟨ob, t, he, hc, hd⟩ := hx.there
  have fresh : base.get? e = none := by
    cases hq : base.get? e with
    | none => rfl
    | some o' => have := hkb e o' hq; rw [hx.new] at this; cases this
  have hl' : s.heap.FunFrames base (env :: outer) := hl.of_keeps fun b o hb _ => ⟨o, hx.keeps b o hb, rfl⟩
  unfold noteFrame
  simp only [hf]
  refine wpAny_bind (wpAny_field he hd (x := .none) rfl ?_)
  rw [if_neg (by decide)]
  refine wpAny_entryW (a0 := t) hfr hl' hf he (fun b o q => hx.keeps b o (hkb b o q)) fresh hd (by simp) rfl fun h' hN => ?_
  obtain ⟨k1, k2, k3, k4⟩ := hN
  rw [hc] at k3
  exact hQ h' t ⟨k1, fresh, k2, k3⟩ k4

/-- out of a piece of the frame's own -/
theorem came_held {base : Heap} {env : Env} {l : List Env} {L e : Addr} {cls a0 : Value} (hf : env.frame = some L) (hh : Heap.HeldW base l e cls a0 L s.heap)
    (hQ : ∀ h', Heap.HeldW base l e cls a0 L h' → s.heap.UpToSlots h' → E (.ref e) { s with heap := h' }) : cameBackBy M A env E (.ref e) s := by
  obtain ⟨hkb, hen, hl, oe, vs, T, oT, ts, he, hcls, hd, h1, hnT, hTe, hT, hdT, h3⟩ := hh
  have hsz3 : 3 < ts.size := (Array.getElem?_eq_some_iff.mp h3).1
  have other : ∀ b, b ≠ T → (s.heap.update T (Obj.mapFields (·.setIfInBounds 3 ((some L : Option Addr).elim Value.none fun f => rawInt f)))).get? b = s.heap.get? b :=
    fun b hb => Heap.get?_update_other _ _ (Ne.symm hb)
  have noRecord : ∀ b o, s.heap.get? b = some o → (∀ vs, o.data ≠ .fields vs) → b ≠ T := fun b o hb hnf q => by
    rw [q, hT] at hb; injection hb with hb; subst hb; exact hnf ts hdT
  unfold cameBackBy
  refine wpAny_bind (wpAny_field he hd h1 ?_)
  rw [if_neg (show ¬ ((Value.ref T == Value.none) = true) from by simp)]
  rw [hf]
  unfold setFlight
  refine wpAny_bind (wpAny_field he hd h1 ?_)
  rw [if_pos (show (Value.ref T != Value.none) = true from by simp)]
  refine wpAny_setField hT hdT hsz3 (hQ _ ⟨fun b o hbo => (other b fun q => by rw [q, hnT] at hbo; cases hbo).trans (hkb b o hbo), hen, hl.of_keeps fun b o hb hnf => ⟨o, (other b (noRecord b o hb hnf)).trans hb, rfl⟩, ?_⟩
    fun b o hb hn => ⟨o.slots, (other b (noRecord b o hb hn)).trans hb⟩)
  exact ⟨oe, vs, T, _, _, (other e (Ne.symm hTe)).trans he, hcls, hd, h1, hnT, hTe, Heap.get?_update_self _ hT (Obj.isFreed_of_fields (Obj.data_mapFields hdT _)), Obj.data_mapFields hdT _, by simp [hsz3]⟩
end

section
variable {prog : Program} {w : World} {A : Around} {E : Value → Shared → Prop} {s : Shared}

theorem unpackItems_list2 {l : Addr} {x y : Value} {Q : List Value → Shared → Prop} (hh : A.handled = none) (hl : s.heap.IsList l #[x, y])
    (hQ : ∀ h', Kp s.heap h' → Q [x, y] { s with heap := h' }) : wpAny (model prog w) A (unpackItems (.ref l) 2 none) Q E s := by
  have hlt : l ≠ s.heap.objs.size := by obtain ⟨o, ho, _⟩ := hl; exact Nat.ne_of_lt (Heap.lt_size ho)
  unfold unpackItems notIterableAtAll
  refine wpAny_bind (wpAny_bind (wpAny_specialOf hl.typeIs slot_list_iter.lookup ?_))
  refine wpAny_pure ?_
  simp only [Bool.false_eq_true, if_false]
  refine wpAny_bind (wpAny_holding (wpAny_pyIter_list hl ?_))
  have kp := Kp.push s.heap { cls := .type "list_iterator", data := .fields #[.ref l, .int 0 0] }
  have isI : (s.heap.push { cls := .type "list_iterator", data := .fields #[.ref l, .int 0 0] }).get? s.heap.objs.size = some { cls := .type "list_iterator", data := .fields #[.ref l, .int 0 0] } := get_push_self _ _
  have nw : s.heap.get? s.heap.objs.size = none := get_size_none _
  have hl0 : (s.heap.push { cls := .type "list_iterator", data := .fields #[.ref l, .int 0 0] }).IsList l #[x, y] := by obtain ⟨o, ho, r⟩ := hl; exact ⟨o, kp _ _ ho, r⟩
  generalize s.heap.push { cls := .type "list_iterator", data := .fields #[.ref l, .int 0 0] } = h0 at kp isI hl0 ⊢
  have it0 : h0.IsListIter s.heap.objs.size l 0 := ⟨_, isI, rfl, rfl⟩
  refine wpAny_bind (wpAny_holding ?_)
  show wpAny _ _ (pyNext (.ref s.heap.objs.size) >>= _) _ _ _
  refine wpAny_bind (wpAny_pyNext_list_item it0 hl0 (x := x) rfl fun h1 it1 hs1 => ?_)
  have hl1 := hl0.extBut hs1.extBut hlt
  refine wpAny_bind (wpAny_holding ?_)
  show wpAny _ _ (pyNext (.ref s.heap.objs.size) >>= _) _ _ _
  refine wpAny_bind (wpAny_pyNext_list_item it1 hl1 (x := y) rfl fun h2 it2 hs2 => ?_)
  have hl2 := hl1.extBut hs2.extBut hlt
  refine wpAny_bind (wpAny_holding ?_)
  show wpAny _ _ (pure []) _ _ _
  refine wpAny_pure (wpAny_pure (wpAny_pure ?_))
  simp only [List.length_cons, List.length_nil, Nat.lt_irrefl, if_false]
  refine wpAny_bind (wpAny_holding (wpAny_pyNext_list_end hh it2 hl2 rfl fun h3 he3 => ?_))
  simp only [Option.isSome_none, Bool.false_eq_true, if_false]
  refine wpAny_pure (hQ h3 fun b o e => ?_)
  have hb : b ≠ s.heap.objs.size := fun q => by rw [q, nw] at e; cases e
  exact he3 b o hb (hs2.extBut b o hb (hs1.extBut b o hb (kp b o e)))

theorem unpackItems_list1 {l : Addr} {x : Value} {Q : List Value → Shared → Prop} (hh : A.handled = none) (hl : s.heap.IsList l #[x])
    (hE : ∀ h h' tk e, Kp s.heap h → Heap.NewExc h h' e "ValueError" → E (.ref e) { s with heap := h', toks := tk }) : wpAny (model prog w) A (unpackItems (.ref l) 2 none) Q E s := by
  have hlt : l ≠ s.heap.objs.size := by obtain ⟨o, ho, _⟩ := hl; exact Nat.ne_of_lt (Heap.lt_size ho)
  unfold unpackItems notIterableAtAll
  refine wpAny_bind (wpAny_bind (wpAny_specialOf hl.typeIs slot_list_iter.lookup ?_))
  refine wpAny_pure ?_
  simp only [Bool.false_eq_true, if_false]
  refine wpAny_bind (wpAny_holding (wpAny_pyIter_list hl ?_))
  have kp := Kp.push s.heap { cls := .type "list_iterator", data := .fields #[.ref l, .int 0 0] }
  have isI : (s.heap.push { cls := .type "list_iterator", data := .fields #[.ref l, .int 0 0] }).get? s.heap.objs.size = some { cls := .type "list_iterator", data := .fields #[.ref l, .int 0 0] } := get_push_self _ _
  have nw : s.heap.get? s.heap.objs.size = none := get_size_none _
  have hl0 : (s.heap.push { cls := .type "list_iterator", data := .fields #[.ref l, .int 0 0] }).IsList l #[x] := by obtain ⟨o, ho, r⟩ := hl; exact ⟨o, kp _ _ ho, r⟩
  generalize s.heap.push { cls := .type "list_iterator", data := .fields #[.ref l, .int 0 0] } = h0 at kp isI hl0 ⊢
  have it0 : h0.IsListIter s.heap.objs.size l 0 := ⟨_, isI, rfl, rfl⟩
  refine wpAny_bind (wpAny_holding ?_)
  show wpAny _ _ (pyNext (.ref s.heap.objs.size) >>= _) _ _ _
  refine wpAny_bind (wpAny_pyNext_list_item it0 hl0 (x := x) rfl fun h1 it1 hs1 => ?_)
  have hl1 := hl0.extBut hs1.extBut hlt
  refine wpAny_bind (wpAny_holding ?_)
  show wpAny _ _ (pyNext (.ref s.heap.objs.size) >>= _) _ _ _
  refine wpAny_bind (wpAny_pyNext_list_end hh it1 hl1 rfl fun h2 he2 => ?_)
  refine wpAny_pure (wpAny_pure ?_)
  simp only [List.length_cons, List.length_nil]
  rw [if_pos (by decide)]
  have kp2 : Kp s.heap h2 := fun b o e => by
    have hb : b ≠ s.heap.objs.size := fun q => by rw [q, nw] at e; cases e
    exact he2 b o hb (hs1.extBut b o hb (kp b o e))
  refine wpAny_bind (wpAny_rule ?_)
  refine wpAny_bind ?_
  exact wpAny_raiseErrorMade plainExc_ValueError hh (fun h' tk e hx => hE h2 h' tk e kp2 hx) (by decide)
end
end Mine
end

section
open PySem PySem.W PySem.Calls PyProof.Rows
set_option maxRecDepth 100000
set_option autoImplicit false
set_option linter.unusedVariables false
namespace Mine

theorem leaves_held {M : Model} {A : Around} {E : Value → Shared → Prop} {s : Shared} {base : Heap} {env : Env} {outer : List Env} {L e : Addr} {cls a0 : Value} {Q : Unit → Shared → Prop} (hf : env.frame = some L)
    (hh : Heap.HeldW base (env :: outer) e cls a0 L s.heap) (hQ : ∀ h', Heap.FlyingW base outer e cls a0 h' → s.heap.UpToSlots h' → Q () { s with heap := h' }) : wpAny M A (leaving env (.ref e)) Q E s := by
  unfold leaving
  refine wpAny_bind (wpAny_noteFrame_againW hf hh.2.2.2 ?_)
  refine wpAny_landsW hh fun h' hfl us => ?_
  obtain ⟨k1, k2, ⟨_, _, k3⟩, k4⟩ := hfl
  exact hQ h' ⟨k1, k2, k3, k4⟩ us

/-- a def of the text, called upon such data, gives what P holds of or raises an exception of a class of X -/
def FnR (D : Wd) (n : Nat) (x : Str) (ds : List PyData) (P : PyData → Prop) (X : String → Prop) : Prop := ∃ fa, IsFn D x fa ∧
  ∀ (A : Around) (stk : List Env) (E : Value → Shared → Prop) (s : Shared) (vs : List Value) (as : List Addr) (Q : Value → Shared → Prop),
    CallOk D A stk (n + 1) → Kp D.H0 s.heap → FF (framesOf stk) s.heap → RdAll D.prog D.w s.heap vs ds as → (∀ b ∈ as, b ∉ framesOf stk) →
    (∀ v d as' h tk, Kp D.H0 h → Ext (framesOf stk) s.heap h → Rd D.prog D.w h v d as' → (∀ b ∈ as', b ∉ framesOf stk ∧ (s.heap.get? b = none ∨ b ∈ as)) → P d → Q v { s with heap := h, toks := tk }) →
    (∀ e c a0 h tk, X c → Heap.FlyingW (hideAll s.heap (framesOf stk)) stk e (.type c) a0 h → s.heap.UpToSlots h → E (.ref e) { s with heap := h, toks := tk }) →
    wpAny (model D.prog D.w) A (call (.ref fa) vs) Q E s

theorem FnR.intro {D : Wd} (DO : D.Ok) {x : Str} {fa : Addr} {o : Obj} {fd : FuncData} {body : List Stmt} {n : Nat} {names : List Str} {ds : List PyData} {P : PyData → Prop} {X : String → Prop}
    (hm : D.mg x = some (.ref fa)) (ho : D.H0.get? fa = some o) (hd : o.data = .func fd) (hcd : D.H0.CodeRec fd.code fd.qualname) (hb : fd.body = .stmts body)
    (hbind : ∀ vs : List Value, vs.length = names.length → bindArgs fd ⟨vs, []⟩ = pure (names.zip vs)) (hlen : names.length = ds.length) (hnd : names.Nodup)
    (hloc : ∀ y ∈ names, fd.scope.names.lookup y = some .local) (hcell : ∀ y ∈ fd.scope.names, y.2 ≠ .cell) (hgl : fd.globals = mainGlobals) (hbl : fd.builtins = builtinsNs)
    (hco : fd.scope.isCoroutine = false) (hgen : fd.scope.isGenerator = false) (hk : fd.scope.kind = .function)
    (h : ∀ (A : Around) (L : Addr) (stk : List Env) (H1 : Heap) (args : List Addr), (mkAct D A fd L fa stk H1 args n).Ok → ∀ (E : Value → Shared → Prop) m fp (s1 : Shared) (Q : Flow → Shared → Prop),
      Sat (mkAct D A fd L fa stk H1 args n) (slots names ds) m fp H1 s1.heap →
      (∀ ρ' m' fp' h tk, Sat (mkAct D A fd L fa stk H1 args n) ρ' m' fp' H1 h → P .none → Q .next { s1 with heap := h, toks := tk }) →
      (∀ ρ' m' fp' v d as h tk, RetOk (mkAct D A fd L fa stk H1 args n) ρ' m' fp' H1 h v d as → P d → Q (.ret v) { s1 with heap := h, toks := tk }) →
      (∀ e c a0 h tk, X c → Heap.HeldW (hideAll H1 (framesOf (callEnv fd L fa :: stk))) (callEnv fd L fa :: stk) e (.type c) a0 L h → H1.UpToSlots h → E (.ref e) { s1 with heap := h, toks := tk }) →
      wpAny (mkAct D A fd L fa stk H1 args n).M (mkAct D A fd L fa stk H1 args n).A (execs body (mkAct D A fd L fa stk H1 args n).env) Q E s1) :
    FnR D n x ds P X := by
  refine ⟨fa, ⟨hm, o, fd, ho, hd⟩, ?_⟩
  intro A stk E s vs as Q C kp ff rd has K KE
  have hvl : vs.length = names.length := by rw [rd.length, hlen]
  have hdep := C.depth
  have hun := C.units
  refine wpAny_call (codeAny_call_def (binds := names.zip vs) (show A.depth < 1000 by omega) (kp _ _ ho) hd (DO.lim.keeps kp) (hcd.keeps kp) hb (.of_eq (hbind vs hvl)) hcell (fun p hp => hloc _ (List.of_mem_zip hp).1) (fun h0 hns hk0 => ?_) hco hgen hk)
  have Lnew : s.heap.get? s.heap.objs.size = none := get_size_none _
  have L0 : D.H0.get? s.heap.objs.size = none := by
    cases q : D.H0.get? s.heap.objs.size with
    | none => rfl
    | some o' => rw [kp _ _ q] at Lnew; cases Lnew
  have stk' : StkOk D.H0 (callEnv fd s.heap.objs.size fa :: stk) := fun e he => by
    rcases List.mem_cons.mp he with rfl | he
    · exact ⟨by show fd.scope.kind ≠ .module; rw [hk]; decide, _, rfl, L0⟩
    · exact C.stk e he
  have fr : (A.deeper (callEnv fd s.heap.objs.size fa)).frames = some (callEnv fd s.heap.objs.size fa :: stk) := Around.frames_deeper C.frames
  have O : (mkAct D A fd s.heap.objs.size fa stk s.heap as n).Ok := by
    refine ⟨DO, fr, stk', C.hd, ?_, ?_, hk, hgl, hbl, fun hh kh => ?_⟩
    · show A.depth + 1 + n < 900; omega
    · show A.units + 3 + 10 * n < 9000; omega
    · exact SeerAt.of (env := callEnv fd s.heap.objs.size fa) (l := stk) (DO.seer.keeps kh) DO.tree fr hgen hco hbl hgl
  have Fe : (mkAct D A fd s.heap.objs.size fa stk s.heap as n).F = s.heap.objs.size :: framesOf stk := rfl
  have ff0 : FF (s.heap.objs.size :: framesOf stk) h0 := fun b hb => by
    rcases List.mem_cons.mp hb with rfl | hb
    · obtain ⟨o, es, ep, ho, hd, _⟩ := hns; exact ⟨o, es, ep, ho, hd⟩
    · obtain ⟨o, es, k, ho, hd⟩ := ff b hb; exact ⟨o, es, k, hk0 b o ho, hd⟩
  have rd0 := rd.kp hk0
  -- each argument's places
  have pick : ∀ {vs : List Value} {ds : List PyData} {as : List Addr}, RdAll D.prog D.w h0 vs ds as → ∀ i d, ds[i]? = some d → ∃ v bs, vs[i]? = some v ∧ Rd D.prog D.w h0 v d bs ∧ ∀ b ∈ bs, b ∈ as := fun r i d e => r.get e
  have hfp : ∀ y, ∃ bs : List Addr, ∀ sl, (slots names ds).lookup y = some sl → ∃ v, (names.zip vs).reverse.lookup y = some v ∧ Rd D.prog D.w h0 v sl.d bs ∧ ∀ b ∈ bs, b ∈ as := fun y => by
    cases q : (slots names ds).lookup y with
    | none => exact ⟨[], fun sl e => by cases e⟩
    | some sl =>
      obtain ⟨i, d, h1, h2, rfl, _⟩ := slots_lookup names ds y sl q
      obtain ⟨v, bs, hv, r, hs⟩ := rd0.get h2
      exact ⟨bs, fun sl e => by cases e; exact ⟨v, bindsLookup names vs hnd i y v h1 hv, r, hs⟩⟩
  obtain ⟨fp, hfp⟩ := Classical.axiomOfChoice hfp
  have sat : Sat (mkAct D A fd s.heap.objs.size fa stk s.heap as n) (slots names ds) (fun y => (names.zip vs).reverse.lookup y) fp s.heap h0 := by
    refine ⟨fun b o e => hk0 b o (kp b o e), fun b o e => ⟨o, hk0 b o e⟩, Kp.ext hk0, L0, Lnew, hns, ff0, fun y sl e => ?_, fun y sl e b hb => ?_, fun y sl e ow => ?_, fun y e => by cases e⟩
    · obtain ⟨v, hv, r, _⟩ := hfp y sl e; exact ⟨v, hv, r⟩
    · obtain ⟨v, hv, r, hs⟩ := hfp y sl e
      have hbas := hs b hb
      obtain ⟨o', ho'⟩ := rd.here b hbas
      have hbL : b ≠ s.heap.objs.size := fun q => by rw [q, Lnew] at ho'; cases ho'
      refine ⟨hbL, fun q => ?_, .inr hbas⟩
      rcases List.mem_cons.mp (Fe ▸ q) with q | q
      · exact hbL q
      · exact has b hbas q
    · obtain ⟨_, _, _, _, rfl, _⟩ := slots_lookup names ds y sl e; cases ow
  have ret : ∀ ρ' m' fp' v d as' h tk, RetOk (mkAct D A fd s.heap.objs.size fa stk s.heap as n) ρ' m' fp' s.heap h v d as' → P d → Q v { s with heap := h, toks := tk } := fun ρ' m' fp' v d as' h tk r p => by
    refine K v d as' h tk r.sat.top (fun b o e => ?_) r.rd (fun b hb => ?_) p
    · obtain ⟨q1, q2⟩ := r.sat.gx b o e
      have hbL : b ≠ s.heap.objs.size := fun q => by rw [q, Lnew] at e; cases e
      exact ⟨fun z => q1 fun q => (List.mem_cons.mp (Fe ▸ q)).elim hbL z, q2⟩
    · obtain ⟨z1, z2, z3⟩ := r.ok b hb
      exact ⟨fun q => z2 (Fe ▸ List.mem_cons_of_mem _ q), z3⟩
  refine h A s.heap.objs.size stk s.heap as O _ (fun y => (names.zip vs).reverse.lookup y) fp _ _ sat (fun ρ' m' fp' h tk q p => ?_) (fun ρ' m' fp' v d as' h tk r p => ret ρ' m' fp' v d as' h tk r p) fun e c a0 h tk hX held us => ?_
  · exact ret ρ' m' fp' .none .none [] h tk ⟨q, .none, fun b hb => nomatch hb⟩ p
  · refine leaves_held (L := s.heap.objs.size) rfl held fun h' fl us' => ?_
    refine KE e c a0 h' tk hX (flyingW_base (fun b o q => ?_) fl) (us.trans us')
    have q0 := of_hideAll _ q
    refine hideAll_get _ q0 fun hm => ?_
    rcases List.mem_cons.mp hm with rfl | hm
    · rw [Lnew] at q0; cases q0
    · have z : (hideAll s.heap (framesOf stk)).get? b = none := hideAll_none _ hm
      rw [z] at q; cases q

theorem Fn.ofR {D : Wd} {n : Nat} {x : Str} {ds : List PyData} {P : PyData → Prop} (f : FnR D n x ds P fun _ => False) : Fn D n x ds P := by
  obtain ⟨fa, h1, h2⟩ := f
  exact ⟨fa, h1, fun A stk E s vs as Q C kp ff rd has K => h2 A stk E s vs as Q C kp ff rd has K fun _ _ _ _ _ hx => hx.elim⟩
theorem Fn.intro {D : Wd} (DO : D.Ok) {x : Str} {fa : Addr} {o : Obj} {fd : FuncData} {body : List Stmt} {n : Nat} {names : List Str} {ds : List PyData} {P : PyData → Prop}
    (hm : D.mg x = some (.ref fa)) (ho : D.H0.get? fa = some o) (hd : o.data = .func fd) (hcd : D.H0.CodeRec fd.code fd.qualname) (hb : fd.body = .stmts body)
    (hbind : ∀ vs : List Value, vs.length = names.length → bindArgs fd ⟨vs, []⟩ = pure (names.zip vs)) (hlen : names.length = ds.length) (hnd : names.Nodup)
    (hloc : ∀ y ∈ names, fd.scope.names.lookup y = some .local) (hcell : ∀ y ∈ fd.scope.names, y.2 ≠ .cell) (hgl : fd.globals = mainGlobals) (hbl : fd.builtins = builtinsNs)
    (hco : fd.scope.isCoroutine = false) (hgen : fd.scope.isGenerator = false) (hk : fd.scope.kind = .function)
    (h : ∀ (A : Around) (L : Addr) (stk : List Env) (H1 : Heap) (args : List Addr), (mkAct D A fd L fa stk H1 args n).Ok → ∀ E, Ex (mkAct D A fd L fa stk H1 args n) E (slots names ds) body (fun _ => P .none) (fun _ => P) (fun _ => False)) :
    Fn D n x ds P :=
  Fn.ofR (FnR.intro DO hm ho hd hcd hb hbind hlen hnd hloc hcell hgl hbl hco hgen hk fun A L stk H1 args O E m fp s1 Q hs k1 k3 _ =>
    h A L stk H1 args O E m fp H1 s1 Q hs (fun ρ' m' fp' hh tk q p => k1 ρ' m' fp' hh tk q p) (fun _ _ _ _ _ _ p => p.elim) fun ρ' m' fp' v d as hh tk r p => k3 ρ' m' fp' v d as hh tk r p)
end Mine
end

section
open PySem PySem.W PySem.Calls PyProof.Rows
set_option maxRecDepth 100000
set_option autoImplicit false
set_option linter.unusedVariables false
namespace Mine

section
variable {a : Act} {E : Value → Shared → Prop} {ρ : Ro} {N C : Ro → Prop} {R : Ro → PyData → Prop}

theorem Ex1.go {st : Stmt} (x : Ex1 a E ρ st N R C) {m : Str → Option Value} {fp : Str → List Addr} {g : Heap} {s : Shared} {Q : Flow → Shared → Prop} (hs : Sat a ρ m fp g s.heap)
    (k1 : ∀ ρ' m' fp' h tk, Sat a ρ' m' fp' g h → N ρ' → Q .next { s with heap := h, toks := tk })
    (k2 : ∀ ρ' m' fp' h tk, Sat a ρ' m' fp' g h → C ρ' → Q .cont { s with heap := h, toks := tk })
    (k3 : ∀ ρ' m' fp' v d as h tk, RetOk a ρ' m' fp' g h v d as → R ρ' d → Q (.ret v) { s with heap := h, toks := tk }) : wpAny a.M a.A (exec st a.env) Q E s := x m fp g s Q hs k1 k2 k3
theorem Ex.go {ss : List Stmt} (x : Ex a E ρ ss N R C) {m : Str → Option Value} {fp : Str → List Addr} {g : Heap} {s : Shared} {Q : Flow → Shared → Prop} (hs : Sat a ρ m fp g s.heap)
    (k1 : ∀ ρ' m' fp' h tk, Sat a ρ' m' fp' g h → N ρ' → Q .next { s with heap := h, toks := tk })
    (k2 : ∀ ρ' m' fp' h tk, Sat a ρ' m' fp' g h → C ρ' → Q .cont { s with heap := h, toks := tk })
    (k3 : ∀ ρ' m' fp' v d as h tk, RetOk a ρ' m' fp' g h v d as → R ρ' d → Q (.ret v) { s with heap := h, toks := tk }) : wpAny a.M a.A (execs ss a.env) Q E s := x m fp g s Q hs k1 k2 k3
theorem Ev.go {e : Expr} {P : PyData → Nat → Prop} (x : Ev a E ρ e P) {m : Str → Option Value} {fp : Str → List Addr} {g : Heap} {s : Shared} {Q : Value → Shared → Prop} (hs : Sat a ρ m fp g s.heap)
    (k : ∀ v d f as h tk, Res a ρ m fp g s.heap v d f as h → P d f → Q v { s with heap := h, toks := tk }) : wpAny a.M a.A (eval e a.env) Q E s := x m fp g s Q hs k
theorem Asg.go {target : Expr} {d : PyData} (x : Asg a E ρ target d N) {m : Str → Option Value} {fp : Str → List Addr} {g : Heap} {s : Shared} {v : Value} {as : List Addr} {Q : Unit → Shared → Prop} (hs : Sat a ρ m fp g s.heap) (r : Rd a.D.prog a.D.w s.heap v d as) (fo : Fo a ρ fp s.heap 1 as)
    (k : ∀ ρ' m' fp' h tk, Sat a ρ' m' fp' g h → N ρ' → Q () { s with heap := h, toks := tk }) : wpAny a.M a.A (PySem.assign target a.env v) Q E s := x m fp g s v as Q hs r fo k

theorem len_one {α : Type} : ∀ {l : List α}, l.length = 1 → ∃ a, l = [a]
  | [a], _ => ⟨a, rfl⟩
theorem len_two {α : Type} : ∀ {l : List α}, l.length = 2 → ∃ a b, l = [a, b]
  | [a, b], _ => ⟨a, b, rfl⟩
/-- x, y = a list of two -/
theorem Ex1.unpack2 (O : a.Ok) {elts : List Expr} {k : Nat} {tp pos : Pos} {value : Expr} {x y : Str} (h : Ev a E ρ value fun d f => 1 ≤ f ∧ ∃ d1 d2, d = .list [d1, d2] ∧ N (setAll ρ [x, y] [d1, d2]))
    (hn : namesOf elts = some [x, y] := by rfl) (hl : ∀ z ∈ [x, y], a.env.kindOf z = some .local ∧ a.pinN ≠ some z)
    (hs : swapsWithSole [.Tuple elts k tp] value pos.line a.env = pure false := by rfl) (hw : swappedStores [.Tuple elts k tp] value a.env = pure none := by rfl) : Ex1 a E ρ (.Assign [.Tuple elts k tp] value pos) N R C := by
  intro m fp g s Q hs0 k1 _ _
  refine Assign_Tuple (h m fp g s _ hs0 fun v d f as h1 tk r p => ?_) hs hw
  obtain ⟨hf, d1, d2, rfl, p⟩ := p
  obtain ⟨l, vs, n, bs, rfl, rfl, ho, q⟩ := r.rd.list_inv
  obtain ⟨v1, v2, rfl⟩ : ∃ v1 v2, vs = [v1, v2] := len_two q.length
  obtain ⟨l1, l2⟩ := assignEach_len (env := a.env) hn
  rw [arm_assign_Tuple]
  refine wpAny_bind (wpAny_standAt ?_)
  unfold PySem.unpack
  rw [l1, l2]
  refine wpAny_bind (wpAny_holding (unpackItems_list2 O.hd ⟨_, ho, rfl, n, rfl⟩ fun h' kp => ?_))
  have fo := r.fo.sub hf fun b hb => List.mem_cons_of_mem l hb
  exact assignNames O hn rfl hl (s := { s with heap := h', toks := tk }) (r.sat.ext O kp.ext) (q.kp kp) ⟨fo.ok, fo.tl, fun y sl b q e ow z _ => fo.cl y sl b q e ow z hf, fun k => absurd k (by decide)⟩ fun m' fp' h2 tk2 z => k1 _ m' fp' h2 tk2 z p

/-- the first exception in a loop's turn -/
theorem loop_raise (O : a.Ok) {outer : List Env} (hst : a.stk = a.env :: outer) (hf : a.env.frame = some a.L) {g h : Heap} {s' : Shared} {e : Addr} {X : String} (gx : Ext a.F g h) (ff : FF a.F h) (hx : Heap.NewExc h s'.heap e X)
    (hE : ∀ a0 h' , Heap.HeldW (hideAll g a.F) a.stk e (.type X) a0 a.L h' → g.UpToSlots h' → E (.ref e) { s' with heap := h' }) : loopE a E (.ref e) s' := by
  have so : StkOk (hideAll g a.F) a.stk := fun e' he => by
    obtain ⟨k, L, hL, _⟩ := O.stk e' he
    exact ⟨k, L, hL, hideAll_none _ (List.mem_filterMap.mpr ⟨e', he, hL⟩)⟩
  have fr := FunFrames_of so ff
  have us0 : g.UpToSlots h := fun b o e _ => (gx b o e).2
  refine note_first (outer := outer) (base := hideAll g a.F) (hst ▸ O.frames) hf (fun b o q => ?_) (hst ▸ fr) hx fun h1 a0 held us => ?_
  · have q0 := of_hideAll _ q
    exact (gx b o q0).1 fun hm => by
      have z : (hideAll g a.F).get? b = none := hideAll_none _ hm
      rw [z] at q; cases q
  · exact came_held hf held fun h2 held2 us2 => hE a0 h2 (hst ▸ held2) (((us0.trans (Heap.UpToSlots.of_keeps hx.keeps)).trans us).trans us2)

/-- for x in a list of plain data, turn by turn at its own state -/
theorem forListX (O : a.Ok) (cs : List Addr) {x : Str} {px : Pos} {iter : Expr} {body : List Stmt} {pos : Pos} {xs : List PyData} (J : List PyData → Ro → Prop) (fin : ∀ ρ', J [] ρ' → N ρ') {m : Str → Option Value} {fp : Str → List Addr} {g : Heap} {s : Shared} {Q : Flow → Shared → Prop}
    (turn : ∀ x' rest ρ', J (x' :: rest) ρ' → ∀ m' fp' g' h0 tk0 v as (Q' : Flow → Shared → Prop), Sat a ρ' m' fp' g' h0 → (∀ c ∈ cs, ∃ u, h0.IsCell c u) → (∀ c ∈ cs, g'.get? c = none) → Rd a.D.prog a.D.w h0 v x' as → Fo a ρ' fp' h0 1 as → (∀ h', Ext a.F g' h' → Ext a.F g h') →
      (∀ ρ2 m2 fp2 h tk, Sat a ρ2 m2 fp2 g' h → (∀ c ∈ cs, ∃ u, h.IsCell c u) → J rest ρ2 → Q' .next { s with heap := h, toks := tk } ∧ Q' .cont { s with heap := h, toks := tk }) →
      (∀ ρ2 m2 fp2 u du asu h tk, RetOk a ρ2 m2 fp2 g' h u du asu → R ρ2 du → Q' (.ret u) { s with heap := h, toks := tk }) →
      wpAny a.M a.A (PySem.assign (.Name x px) a.env v) (fun _ s2 => wpAny a.M a.A (execs body a.env) Q' (loopE a E) s2) (loopE a E) { s with heap := h0, toks := tk0 })
    (hs : Sat a ρ m fp g s.heap) (hcell : ∀ c ∈ cs, ∃ u, s.heap.IsCell c u) (hcg : ∀ c ∈ cs, g.get? c = none) (hcF : ∀ c ∈ cs, c ∉ a.F) (h : Ev a E ρ iter fun d f => 1 ≤ f ∧ d = .list xs ∧ atoms xs = true ∧ J xs ρ)
    (k1 : ∀ ρ' m' fp' h tk, Sat a ρ' m' fp' g h → (∀ c ∈ cs, ∃ u, h.IsCell c u) → N ρ' → Q .next { s with heap := h, toks := tk })
    (k3 : ∀ ρ' m' fp' v d as h tk, RetOk a ρ' m' fp' g h v d as → R ρ' d → Q (.ret v) { s with heap := h, toks := tk })
    (hf : ∀ x, foldedSetIterable iter a.env x = pure x := by intro _; rfl) : wpAny a.M a.A (exec (.For (.Name x px) iter body [] pos) a.env) Q E s := by
  refine wpAny_For (h m fp g s _ hs fun v d f as h1 tk r p => ?_) hf
  obtain ⟨hf1, rfl, hat, p⟩ := p
  have hcell1 : ∀ c ∈ cs, ∃ u, h1.IsCell c u := fun c hc => by
    obtain ⟨u, o, ho, hd⟩ := hcell c hc
    exact ⟨u, o, (r.ext c o ho).1 (hcF c hc), hd⟩
  have nw := get_size_none h1
  have np := r.sat.newPlace O nw
  obtain ⟨l, vs, n, bs, rfl, rfl, ho, q⟩ := r.rd.list_inv
  obtain rfl := q.atoms hat
  have hlt : l ≠ h1.objs.size := Nat.ne_of_lt (Heap.lt_size ho)
  refine wpAny_pyIter_list (items := vs.toArray) ⟨_, ho, rfl, n, rfl⟩ ?_
  have kp := Kp.push h1 { cls := .type "list_iterator", data := .fields #[.ref l, .int 0 0] }
  have len : vs.toArray.size = xs.length := by simp [q.length]
  refine loop_runX (P := fun i v => vs.toArray[i]? = some v) (St := fun i h => h.IsListIter h1.objs.size l i ∧ h.IsList l vs.toArray) (its := xs) (sup := []) (s := { s with heap := _, toks := tk }) O cs (len ▸ Walks.list O.hd h1.objs.size l hlt vs.toArray)
    (fun i h ⟨⟨o, ho, hc, hd⟩, _⟩ => ?_) (fun i s v d as Q E' st rd hd q => wpAny_pure q) J fin turn (r.sat.pushed O _) ⟨⟨_, get_push_self _ _, rfl, rfl⟩, _, kp _ _ ho, rfl, n, rfl⟩ ⟨fun j v hv => ?_⟩ ⟨fun b hb => ?_, fun b hb => ?_, fun b hb => ?_⟩ (fun b hb => ?_) (fun b hb => nomatch hb) p (fun c hc => by obtain ⟨u, o, ho, hd⟩ := hcell1 c hc; exact ⟨u, o, kp c o ho, hd⟩) hcg (fun c hc => ?_) k1 k3
  · exact foreign_of ho (by rw [hc]; decide) (by rw [hc]; decide) (by rw [hc]; decide) (fun es n q => by rw [hd] at q; cases q)
  · have hj : j < xs.length := by rw [← q.length]; have := (Array.getElem?_eq_some_iff.mp hv).1; simpa using this
    obtain ⟨v', cs, hv', rd, hsub⟩ := q.get (i := j) (d := xs[j]) (by simp [hj])
    have : v' = v := by
      have e1 : vs[j]? = some v := by simpa using hv
      rw [hv'] at e1; exact Option.some.inj e1
    subst this
    exact ⟨xs[j], cs, by simp [hj], rd.kp kp, hsub⟩
  · simp only [List.append_nil, List.mem_cons, List.not_mem_nil, or_false] at hb
    rcases hb with rfl | rfl
    · exact ⟨(r.sat.newFine nw).1, (r.sat.newFine nw).2.1⟩
    · exact ⟨(r.fo.ok _ (.head _)).1, (r.fo.ok _ (.head _)).2.1⟩
  · simp only [List.append_nil, List.mem_cons, List.not_mem_nil, or_false] at hb
    rcases hb with rfl | rfl
    · exact ⟨_, get_push_self _ _⟩
    · exact ⟨_, kp _ _ ho⟩
  · intro hown
    obtain ⟨y, sl, rr, e, ow, z⟩ := mem_ownedOf.mp hown
    simp only [List.append_nil, List.mem_cons, List.not_mem_nil, or_false] at hb
    rcases hb with rfl | rfl
    · exact r.sat.newClean nw e z rfl
    · exact r.fo.cl y sl _ rr e ow z hf1 (.head _)
  · simp at hb; subst hb; exact np
  · obtain ⟨u, o, hoc, hd⟩ := hcell1 c hc
    simp only [List.append_nil, List.mem_cons, List.not_mem_nil, or_false]
    rintro (rfl | rfl)
    · rw [nw] at hoc; cases hoc
    · rw [ho] at hoc; cases hoc; cases hd

end
end Mine
end

section
open PySem PySem.W PySem.Calls PyProof.Rows
open PySem.Builtin PySem.Builtin.Str
set_option maxRecDepth 100000
set_option autoImplicit false
set_option linter.unusedVariables false
namespace Mine

theorem ext_of_flying {F : List Addr} {h0 h : Heap} (ff : FF F h0) (st : (hideAll h0 F).StaysIn h) (us : h0.UpToSlots h) : Ext F h0 h := fun b o e => by
  by_cases hb : b ∈ F
  · obtain ⟨o', es, n, ho, hd⟩ := ff b hb
    rw [e] at ho; cases ho
    exact ⟨fun z => absurd hb z, us b o e fun vs q => by rw [hd] at q; cases q⟩
  · have := st b o (hideAll_get _ e hb)
    exact ⟨fun _ => this, o.slots, this⟩

section
variable {a : Act} {E : Value → Shared → Prop} {ρ : Ro} {N C : Ro → Prop} {R : Ro → PyData → Prop} {P : PyData → Nat → Prop}

/-- list(o.items()) at one state -/
theorem listItemsAt (O : a.Ok) {o : Expr} {np apos ip pos : Pos} {m : Str → Option Value} {fp : Str → List Addr} {g : Heap} {s : Shared} {Q : Value → Shared → Prop} (hs : Sat a ρ m fp g s.heap)
    (h : ∀ Q' : Value → Shared → Prop, (∀ v d f as h tk, Res a ρ m fp g s.heap v d f as h → (∃ ps : List (Str × Str), d = .dict (ps.map sPair) ∧ ps.length ≤ sizeLine ∧ P (.list (ps.map fun p => .tuple [.str p.1, .str p.2])) 2) → Q' v { s with heap := h, toks := tk }) → wpAny a.M a.A (eval o a.env) Q' E s)
    (K : ∀ v d f as h tk, Res a ρ m fp g s.heap v d f as h → P d f → Q v { s with heap := h, toks := tk })
    (hg : a.D.mg "list" = none) (hx : a.env.kindOf "list" = some .globalImplicit := by rfl)
    (hbase : attributeBase o "items" a.env (eval o a.env) = eval o a.env := by rfl) (hline : (apos.endLine == ip.line) = true := by rfl)
    (he : starEach [.Call (.Attribute o "items" apos) [] [] ip] a.env = [(false, eval (.Call (.Attribute o "items" apos) [] [] ip) a.env)] := by rfl) :
    wpAny a.M a.A (eval (.Call (.Name "list" np) [.Call (.Attribute o "items" apos) [] [] ip] [] pos) a.env) Q E s := by
  refine Call_ (builtin_name O hs PyProof.Rows.Boot.«list» hg (by decide) ?_ hx)
  rw [he]
  refine PySem.callWith_type (T := "list") rfl (evalArgs_plain (spliced_cons ?_))
  refine wpAny_Call_method (T := "dict") (id := "dict.items") hbase rfl hline F.plainAttrs_dict F.slot_dict_items F.type_dict_items (h _ fun v d f as h1 tk r p => ?_)
  obtain ⟨ps, rfl, hn, p⟩ := p
  obtain ⟨b, kvs, ps', rfl, rfl, e, hd, hp, hsm⟩ := r.rd.dict_inv
  have hps : ps' = ps := by
    have key : ∀ {x y : List (Str × Str)}, x.map sPair = y.map sPair → x = y := by
      intro x
      induction x with
      | nil => intro y q; cases y; rfl; cases q
      | cons u x ih =>
        intro y q
        cases y with
        | nil => cases q
        | cons z y =>
          simp only [List.map_cons, List.cons.injEq] at q
          obtain ⟨q1, q2⟩ := q
          unfold sPair at q1
          obtain ⟨u1, u2⟩ := u
          obtain ⟨z1, z2⟩ := z
          simp at q1
          obtain ⟨rfl, rfl⟩ := q1
          rw [ih q2]
    exact (key e).symm
  subst hps
  refine ⟨hd.typeIs, hd.mapOf.noDict, ?_⟩
  show wpAny _ _ (callWith ip (.builtin "dict.items") [.ref b] [] []) _ _ _
  refine method_meetsIn F.slot_dict_items F.entry_dict_items rfl (PySem.evalArgs_none ⟨rfl, hd.typeIs, F.args_dict_items_1 _, _, meets_dict_items (strKind a.D.prog a.D.w) b hsm, ⟨kvs, hd⟩, ?_⟩)
  refine spliced_nil ?_
  have kp1 := Kp.push h1 { cls := .type "dict_items", data := .fields #[.ref b] }
  have hv : (h1.push { cls := .type "dict_items", data := .fields #[.ref b] }).IsItemsView h1.objs.size b := ⟨_, get_push_self _ _, rfl, rfl⟩
  have hd2 := (hd.at fun o e => kp1 _ o e)
  obtain ⟨ep, hda⟩ := hd2.dictAt
  have r1 := r.sat.pushed O { cls := .type "dict_items", data := .fields #[.ref b] }
  have e1 := r.ext.trans (kp1.ext (F := a.F))
  generalize h1.push { cls := .type "dict_items", data := .fields #[.ref b] } = h2 at hv hda r1 e1 ⊢
  have hlen : kvs.length = ps'.length := hp.length
  refine kdx_call (s := { s with heap := h2, toks := tk }) (A := a.A) O.hd hv hda (by rw [hlen]; exact hn) fun h3 tk3 acc c tups hk hS hl hG hacc => ?_
  have items : RdAll a.D.prog a.D.w h3 acc.toList (ps'.map fun p => PyData.tuple [.str p.1, .str p.2]) [] := by
    rw [hacc]
    have key : ∀ (tups : List Addr) (kvs : List (Str × Value)) (ps : List (Str × Str)), tups.length = kvs.length → PairsAre kvs ps →
        (∀ (j : Nat) (aa : Addr), tups[j]? = some aa → ∃ key k x, kvs[j]? = some (k, x) ∧ (strKind a.D.prog a.D.w).is k key = true ∧ h3.get? aa = some { cls := .type "tuple", data := .seq #[key, x] }) →
        RdAll a.D.prog a.D.w h3 (tups.map Value.ref) (ps.map fun p => PyData.tuple [.str p.1, .str p.2]) [] := by
      intro tups
      induction tups with
      | nil => intro kvs ps hl hp _; cases kvs; cases hp; exact .nil; cases hl
      | cons t tups ih =>
        intro kvs ps hl hp hj
        cases hp with
        | nil => cases hl
        | @cons k v x r q hx hp =>
          obtain ⟨key, k', x', e1, e2, e3⟩ := hj 0 t rfl
          simp at e1
          obtain ⟨rfl, rfl⟩ := e1
          obtain ⟨tk, rfl⟩ := Value.isStrOf_shape e2
          obtain ⟨u, rfl⟩ := hx
          have one : Rd a.D.prog a.D.w h3 (.ref t) (.tuple [.str k, .str x]) [] := .tuple (vs := [.str k tk, .str x u]) (n := 0) (by rw [e3]; rfl) (.cons (.str _ _) (.cons (.str _ _) .nil))
          exact .cons one (ih r q (by simpa using hl) hp fun j aa e => by
            obtain ⟨key, k', x', e1, e2, e3⟩ := hj (j + 1) aa (by simpa using e)
            exact ⟨key, k', x', by simpa using e1, e2, e3⟩)
    exact key tups kvs ps' hl hp hG.pairs
  have nw := get_size_none h2
  have sat3 := r1.ext O (Kp.ext (F := a.F) hk)
  have fo : Fo a ρ fp s.heap 2 [h2.objs.size] := Fo.new r1 nw e1 (by decide) (Fo.nil 2)
  refine K _ _ 2 [h2.objs.size] h3 tk3 ⟨sat3, e1.trans (Kp.ext hk), ?_, fo⟩ p
  have : acc = acc.toList.toArray := by simp
  rw [this] at hS
  exact .list (vs := acc.toList) (n := c) (by rw [hS]; rfl) items

/-- list(o.items()) -/
theorem Ev.listItems (O : a.Ok) {o : Expr} {np apos ip pos : Pos} (h : Ev a E ρ o fun d _ => ∃ ps : List (Str × Str), d = .dict (ps.map sPair) ∧ ps.length ≤ sizeLine ∧ P (.list (ps.map fun p => .tuple [.str p.1, .str p.2])) 2)
    (hg : a.D.mg "list" = none) (hx : a.env.kindOf "list" = some .globalImplicit := by rfl)
    (hbase : attributeBase o "items" a.env (eval o a.env) = eval o a.env := by rfl) (hline : (apos.endLine == ip.line) = true := by rfl)
    (he : starEach [.Call (.Attribute o "items" apos) [] [] ip] a.env = [(false, eval (.Call (.Attribute o "items" apos) [] [] ip) a.env)] := by rfl) :
    Ev a E ρ (.Call (.Name "list" np) [.Call (.Attribute o "items" apos) [] [] ip] [] pos) P :=
  fun m fp g s Q hs K => listItemsAt (P := P) O hs (fun Q' k => h m fp g s Q' hs fun v d f as hh tk r p => k v d f as hh tk r p) K hg hx hbase hline he

/-- F(e) at one state, F may raise -/
theorem callRAt (O : a.Ok) {x : Str} {np pos : Pos} {e : Expr} {k : Nat} {m : Str → Option Value} {fp : Str → List Addr} {g : Heap} {s : Shared} {Q : Value → Shared → Prop} {X : String → Prop} (hs : Sat a ρ m fp g s.heap)
    (h : Ev a E ρ e fun d f => 1 ≤ f ∧ ∃ P', FnR a.D k x [d] P' X ∧ ∀ d', P' d' → P d' 1) (hfn : ∃ fa, IsFn a.D x fa)
    (K : ∀ v d f as h tk, Res a ρ m fp g s.heap v d f as h → P d f → Q v { s with heap := h, toks := tk })
    (KE : ∀ e c a0 h h1 tk, X c → Sat a ρ m fp g h1 → Ext a.F s.heap h1 → Heap.FlyingW (hideAll h1 a.F) a.stk e (.type c) a0 h → h1.UpToSlots h → E (.ref e) { s with heap := h, toks := tk })
    (hk : k + 1 ≤ a.n := by first | decide | exact Nat.le_of_ble_eq_true rfl) (hx : a.env.kindOf x = some .globalImplicit := by rfl) (hd : (x == ("__debug__" : Str)) = false := by decide)
    (he : starEach [e] a.env = (false, eval e a.env) :: starEach [] a.env := by rfl) : wpAny a.M a.A (eval (.Call (.Name x np) [e] [] pos) a.env) Q E s := by
  obtain ⟨fa, hm, o, fd, ho, hdat⟩ := hfn
  refine Call_ (Name_function_global O.kind hx (loadGlobal_global (env := a.env) (by rw [O.glob]; exact O.D.g.keeps hs.top) hm ?_) hd)
  refine callWith_def hdat (EvL.cons O (P := fun ds f => 1 ≤ f ∧ ∃ P', FnR a.D k x ds P' X ∧ ∀ d', P' d' → P d' 1) (Run.mono h fun d f ⟨h1, h2⟩ => EvL.nil ⟨by omega, h2⟩) he m fp g s _ hs fun vs ds fl as h1 tk r p => ⟨r.sat.top _ _ ho, ?_⟩) he
  obtain ⟨hfl, P', ⟨fa', f1, f2⟩, hP⟩ := p
  have : fa' = fa := by have := f1.mg; rw [hm] at this; cases this; rfl
  subst this
  have hdep := O.depth
  have hun := O.units
  refine f2 a.A a.stk E _ vs as Q ⟨O.frames, O.stk, O.hd, by omega, by omega⟩ r.sat.top r.sat.ff r.rd (fun b hb => (r.ok b hb).2.1) (fun v d as' h2 tk2 kp ex rd hsub pd => ?_) fun e c a0 h2 tk2 hX fl us => KE e c a0 h2 h1 tk2 hX r.sat r.ext fl us
  have sat2 := r.sat.ext O ex
  have fo := r.fo hfl
  refine K v d 1 as' h2 tk2 ⟨sat2, r.ext.trans ex, rd, ⟨fun b hb => ?_, fun y sl c q e ow z hb => ?_, fun y sl c q e ow z _ hb => ?_, fun k => absurd k (by decide)⟩⟩ (hP d pd)
  · rcases (hsub b hb).2 with q | q
    · exact r.sat.newFine q
    · exact r.ok b q
  · rcases (hsub c (List.mem_of_mem_tail hb)).2 with q' | q'
    · exact r.sat.newClean q' e z rfl
    · exact fo.cl y sl c q e ow z hfl q'
  · rcases (hsub c hb).2 with q' | q'
    · exact r.sat.newClean q' e z rfl
    · exact fo.cl y sl c q e ow z hfl q'

theorem index_not_value : isSubtype (.type "IndexError") (.type "ValueError") = pure false := by rw [isSubtype_type]; kernel_rfl
theorem value_value : isSubtype (.type "ValueError") (.type "ValueError") = pure true := by rw [isSubtype_type]; kernel_rfl

/-- a name of the interpreter's own, wherever it is read -/
theorem builtin_nameA (O : a.Ok) {A' : Around} {E' : Value → Shared → Prop} {x : Str} {pos : Pos} {v : Value} {s : Shared} {Q : Value → Shared → Prop} (top : Kp a.D.H0 s.heap)
    (hv : bootBuiltins x = some v) (hg : a.D.mg x = none) (hn : x ≠ "__name__") (h : Q v s)
    (hx : a.env.kindOf x = some .globalImplicit) (hd : (x == ("__debug__" : Str)) = false := by decide) : wpAny a.M A' (eval (.Name x pos) a.env) Q E' s :=
  Name_function_global O.kind hx (loadGlobal_builtin (env := a.env) (by rw [O.glob]; exact O.D.g.keeps top) hg (by rw [O.blt]; exact O.D.b.keeps top) ((O.D.blt x hn).trans hv) h) hd

/-- try: return list(F(e).items()) except ValueError: return 'ValueError' except IndexError: return 'IndexError' -/
theorem Ex1.tryRead (O : a.Ok) {outer : List Env} (hst : a.stk = a.env :: outer) (hfr : a.env.frame = some a.L) {x : Str} {e : Expr} {k : Nat} {np1 np2 cp ap ip lp rp vp1 vp2 xp1 xp2 sp1 sp2 rp1 rp2 pos : Pos} {k1' k2' : Nat}
    (h : ∀ E', Ev a E' ρ e fun d f => 1 ≤ f ∧ ∃ P', FnR a.D k x [d] P' (fun c => (c = "ValueError" ∨ c = "IndexError") ∧ R ρ (.str (Str.ofString c))) ∧
      ∀ d', P' d' → ∃ ps : List (Str × Str), d' = .dict (ps.map sPair) ∧ ps.length ≤ sizeLine ∧ R ρ (.list (ps.map fun p => .tuple [.str p.1, .str p.2]))) (hfn : ∃ fa, IsFn a.D x fa)
    (hg1 : a.D.mg "list" = none) (hg2 : a.D.mg "ValueError" = none) (hg3 : a.D.mg "IndexError" = none)
    (hl : a.env.kindOf "list" = some .globalImplicit := by rfl) (hv : a.env.kindOf "ValueError" = some .globalImplicit := by rfl) (hi : a.env.kindOf "IndexError" = some .globalImplicit := by rfl)
    (hk : k + 1 ≤ a.n := by first | decide | exact Nat.le_of_ble_eq_true rfl) (hx : a.env.kindOf x = some .globalImplicit := by rfl) (hd : (x == ("__debug__" : Str)) = false := by decide)
    (he : starEach [e] a.env = (false, eval e a.env) :: starEach [] a.env := by rfl)
    (hbase : attributeBase (.Call (.Name x np2) [e] [] cp) "items" a.env (eval (.Call (.Name x np2) [e] [] cp) a.env) = eval (.Call (.Name x np2) [e] [] cp) a.env := by rfl) (hline : (ap.endLine == ip.line) = true := by rfl)
    (he2 : starEach [.Call (.Attribute (.Call (.Name x np2) [e] [] cp) "items" ap) [] [] ip] a.env = [(false, eval (.Call (.Attribute (.Call (.Name x np2) [e] [] cp) "items" ap) [] [] ip) a.env)] := by rfl) :
    Ex1 a E ρ (.Try [.Return (some (.Call (.Name "list" np1) [.Call (.Attribute (.Call (.Name x np2) [e] [] cp) "items" ap) [] [] ip] [] lp)) rp]
      [.ExceptHandler (some (.Name "ValueError" vp1)) none [.Return (some (.Constant (.str "ValueError") k1' sp1)) rp1] xp1, .ExceptHandler (some (.Name "IndexError" vp2)) none [.Return (some (.Constant (.str "IndexError") k2' sp2)) rp2] xp2] [] [] pos) N R C := by
  intro m fp g s Q hs _ _ k3
  refine wpAny_Try_except (wpAny_execs_cons (wpAny_Return_some (listItemsAt (P := fun d _ => R ρ d) O hs (fun Q' K' => callRAt (P := fun d _ => ∃ ps : List (Str × Str), d = .dict (ps.map sPair) ∧ ps.length ≤ sizeLine ∧ R ρ (.list (ps.map fun p => .tuple [.str p.1, .str p.2]))) O hs (h _) hfn (fun v d f as h1 tk r p => K' v d f as h1 tk r p) (fun ex c a0 h2 h1 tk hX s1 e1 fl us => ?_) hk hx hd he) (fun v d f as h1 tk r p => k3 ρ m fp v d as h1 tk ⟨r.sat, r.rd, r.fo.ok⟩ p) hg1 hl hbase hline he2)))
  obtain ⟨hc, hR⟩ := hX
  have bx : ∀ {hh : Heap}, Heap.FlyingW (hideAll h1 a.F) a.stk ex (.type c) a0 hh → h1.UpToSlots hh → Sat a ρ m fp g hh := fun fl us => s1.ext O (ext_of_flying s1.ff fl.1 us)
  rw [hst] at fl bx
  refine wpAny_looks_onW (hst ▸ O.frames) hfr fl fun h4 held4 us4 => ?_
  refine wpAny_landsW held4 fun h5 fl5 us5 => ?_
  have us5' := (us.trans us4).trans us5
  have s5 := bx fl5 us5'
  obtain ⟨ob, hob, hobc⟩ := fl5.there
  rcases hc with rfl | rfl
  · refine wpAny_handleBy_builtin (X := "ValueError") (T := "ValueError") (b := true) PySem.F.isExc_ValueError PySem.F.notTuple_ValueError value_value (builtin_nameA O s5.top PyProof.Rows.Boot.«ValueError» hg2 (by decide) ⟨rfl, ⟨ob, hob, hobc⟩, ?_⟩ hv)
    refine lands_againW fl5 fun h6 fl6 us6 => ?_
    have s6 := bx fl6 (us5'.trans us6)
    exact wpAny_execs_cons (wpAny_Return_some (wpAny_Constant_str (k3 ρ m fp _ _ [] h6 _ ⟨s6, .str _ _, fun b hb => nomatch hb⟩ hR)))
  · refine wpAny_handleBy_builtin (X := "IndexError") (T := "ValueError") (b := false) PySem.F.isExc_ValueError PySem.F.notTuple_ValueError index_not_value (builtin_nameA O s5.top PyProof.Rows.Boot.«ValueError» hg2 (by decide) ⟨rfl, ⟨ob, hob, hobc⟩, ?_⟩ hv)
    refine wpAny_handleBy_builtin (X := "IndexError") (T := "IndexError") (b := true) PySem.F.isExc_IndexError PySem.F.notTuple_IndexError PySem.F.self_IndexError (builtin_nameA O s5.top PyProof.Rows.Boot.«IndexError» hg3 (by decide) ⟨rfl, ⟨ob, hob, hobc⟩, ?_⟩ hi)
    refine lands_againW fl5 fun h6 fl6 us6 => ?_
    have s6 := bx fl6 (us5'.trans us6)
    exact wpAny_execs_cons (wpAny_Return_some (wpAny_Constant_str (k3 ρ m fp _ _ [] h6 _ ⟨s6, .str _ _, fun b hb => nomatch hb⟩ hR)))
end
end Mine
end

section
open PySem PySem.W PySem.Calls PyProof.Rows
open PySem.Builtin PySem.Builtin.Str
set_option maxRecDepth 100000
set_option autoImplicit false
set_option linter.unusedVariables false
namespace Mine

abbrev sp (c : Nat) : Bool := Unicode.isSpace c
def rstripL (l : List Nat) : List Nat := (l.reverse.dropWhile sp).reverse
def stripL (l : List Nat) : List Nat := rstripL (l.dropWhile sp)

theorem drop_takeWhile_length {α : Type} (p : α → Bool) : ∀ l : List α, l.drop (l.takeWhile p).length = l.dropWhile p
  | [] => rfl
  | a :: l => by
    by_cases h : p a = true
    · rw [List.takeWhile_cons_of_pos h, List.dropWhile_cons_of_pos h]; simpa using drop_takeWhile_length p l
    · rw [List.takeWhile_cons_of_neg h, List.dropWhile_cons_of_neg h]; rfl
theorem rstripL_take (l : List Nat) : rstripL l = l.take (l.length - (l.reverse.takeWhile sp).length) := by
  unfold rstripL
  rw [← drop_takeWhile_length, List.reverse_drop, List.reverse_reverse]
  simp

theorem strSub_T (l : List Nat) (i j : Nat) : strSub (T l) i j = T ((l.drop i).take (j - i)) := by
  apply congrArg Str.mk
  apply Array.toList_inj.mp
  have := StrLaws.strSub_toList (T l) i j
  simpa using this

theorem rstrip_T (l : List Nat) : Txt.rstrip (T l) = T (rstripL l) := by
  rw [Txt.rstrip, PySem.W.stripBy_eq]
  show strSub (T l) (stripLo Unicode.isSpace false (T l)) (stripHi Unicode.isSpace true (T l) (stripLo Unicode.isSpace false (T l))) = _
  rw [strSub_T, rstripL_take]
  simp [stripLo, stripHi, Str.length]
theorem strip_T (l : List Nat) : Txt.strip (T l) = T (stripL l) := by
  rw [Txt.strip, PySem.W.stripBy_eq]
  show strSub (T l) (stripLo Unicode.isSpace true (T l)) (stripHi Unicode.isSpace true (T l) (stripLo Unicode.isSpace true (T l))) = _
  rw [strSub_T]
  unfold stripL
  rw [rstripL_take, ← drop_takeWhile_length]
  simp only [stripLo, stripHi, if_true, Str.length, List.length_drop]
  congr 1
  have e : l.toArray.size = l.length := by simp
  rw [e]
  congr 1
  show l.length - (List.takeWhile sp (List.drop (List.takeWhile sp l).length l).reverse).length - (List.takeWhile sp l).length = _
  omega

theorem contains_T (l : List Nat) (c : Nat) : Txt.contains (T l) (T [c]) = decide (c ∈ l) := by
  show (!(occurrences (T l) ⟨#[c]⟩ 0 (T l).length 1).isEmpty) = _
  rw [StrLaws.found_one]

/-- what is ahead of the first c, and what is behind it -/
def cutAt (c : Nat) (l : List Nat) : List (List Nat) := if c ∈ l then [l.takeWhile (· != c), (l.dropWhile (· != c)).drop 1] else [l]

theorem strKind_small {c : Nat} (hc : c < 256) (x : Str) : Builtin.Str.strKind (T [c]) ≤ Builtin.Str.strKind x := by
  have : Builtin.Str.strKind (T [c]) = 1 := by unfold Builtin.Str.strKind; simp [hc]
  rw [this]; unfold Builtin.Str.strKind; split <;> (try split) <;> decide

theorem takeWhile_at {c : Nat} : ∀ {l : List Nat} {i : Nat}, l[i]? = some c → (∀ k, k < i → l[k]? ≠ some c) → l.takeWhile (· != c) = l.take i
  | [], i, h, _ => by simp at h
  | k :: r, 0, h, _ => by
    have e : k = c := by simpa using h
    subst e
    rw [List.takeWhile_cons_of_neg (by simp)]; rfl
  | k :: r, i + 1, h, hn => by
    have h1 : k ≠ c := fun e => hn 0 (by omega) (by simp [e])
    rw [List.takeWhile_cons_of_pos (by simp [h1]), takeWhile_at (l := r) (i := i) (by simpa using h) fun j hj => by have := hn (j + 1) (by omega); simpa using this]
    rfl

theorem at_T (l : List Nat) (c i : Nat) : StrLaws.At (T l) (T [c]) (T l).length i ↔ l[i]? = some c := by
  have := StrLaws.subAt_one (T l) c i
  have e : (T l).cps.toList = l := by simp
  rw [e] at this
  exact this
theorem split_T {c : Nat} (hc : c < 256) (l : List Nat) : Txt.splitMax (T l) (T [c]) 1 = (cutAt c l).map T := by
  unfold Txt.splitMax
  have hlim : limitOf (T l) 1 = 1 := rfl
  rw [hlim]
  have len1 := StrLaws.occ_length_le (T l) (T [c]) 0 (T l).length 1
  have hk : decide (Builtin.Str.strKind (T l) < Builtin.Str.strKind (T [c])) = false := by
    have := strKind_small hc (T l)
    simpa using this
  rw [hk, Bool.or_false]
  rcases StrLaws.occ_head (T l) (T [c]) 1 (Nat.le_refl 1) with ⟨h0, hn⟩ | ⟨i, r, h0, hi, hn⟩
  · have hfree : c ∉ l := fun hm => by
      obtain ⟨j, hj⟩ := List.getElem?_of_mem hm
      exact hn j ((at_T l c j).mpr hj)
    rw [h0, cutAt, if_neg hfree]
    split <;> rfl
  · have hm := (at_T l c i).mp hi
    have hmem : c ∈ l := List.mem_of_getElem? hm
    have hr : r = [] := by
      rw [h0] at len1
      cases r with
      | nil => rfl
      | cons _ _ => simp at len1
    subst hr
    have hlt : i < l.length := (List.getElem?_eq_some_iff.mp hm).1
    have hlen : decide ((T l).length < (T [c]).length) = false := by
      rw [T_length, T_length]; simp; intro q; subst q; simp at hlt
    rw [hlen, h0, cutAt, if_pos hmem]
    have hno : ∀ k, k < i → l[k]? ≠ some c := fun k hk e => hn k hk ((at_T l c k).mpr e)
    rw [takeWhile_at hm hno, PyProof.Rows.dropWhile_at hm hno]
    show partsBetween (T l) [i] 1 = _
    unfold partsBetween
    simp only [List.map_cons, List.map_nil, List.cons_append, List.nil_append, List.zip_cons_cons, List.zip_nil_right, strSub_T, List.drop_one, List.tail_cons]
    have e : (T l).length - (i + 1) = (l.drop (i + 1)).length := by simp [Str.length]
    rw [e, List.take_length]
    simp
end Mine
end

section
open PySem PySem.W PySem.Calls PyProof.Rows
set_option maxRecDepth 100000
set_option autoImplicit false
set_option linter.unusedVariables false
namespace Mine

/-! the same activation, seen from a later heap -/
abbrev Act.at_ (a : Act) (H : Heap) : Act := { a with D := { a.D with H0 := H } }
theorem Wd.Ok.at_ {D : Wd} {H : Heap} (DO : D.Ok) (k : Kp D.H0 H) : Wd.Ok { D with H0 := H } := ⟨DO.g.keeps k, DO.b.keeps k, DO.lim.keeps k, DO.blt, DO.seer.keeps k, DO.tree⟩
theorem StkOk.down {H0 H : Heap} {stk : List Env} (x : StkOk H stk) (k : Kp H0 H) : StkOk H0 stk := fun e he => by
  obtain ⟨h1, L, h2, h3⟩ := x e he
  refine ⟨h1, L, h2, ?_⟩
  cases q : H0.get? L with
  | none => rfl
  | some o => rw [k _ _ q] at h3; cases h3
theorem Fn.at_ {D : Wd} {H : Heap} {n : Nat} {x : Str} {ds : List PyData} {P : PyData → Prop} (f : Fn D n x ds P) (k : Kp D.H0 H) : Fn { D with H0 := H } n x ds P := by
  obtain ⟨fa, ⟨h1, o, fd, h2, h3⟩, h⟩ := f
  refine ⟨fa, ⟨h1, o, fd, k _ _ h2, h3⟩, ?_⟩
  intro A stk E s vs as Q C kp ff rd has K
  exact h A stk E s vs as Q ⟨C.frames, C.stk.down k, C.hd, C.depth, C.units⟩ (k.trans kp) ff rd has fun v d as' hh tk q1 q2 q3 q4 q5 => K v d as' hh tk (kp_of_ext C.stk kp q2) q2 q3 q4 q5
theorem none_of_kp {H0 H : Heap} {b : Addr} (k : Kp H0 H) (h : H.get? b = none) : H0.get? b = none := by
  cases q : H0.get? b with
  | none => rfl
  | some o => rw [k _ _ q] at h; cases h

section
variable {a : Act} {E : Value → Shared → Prop} {ρ : Ro} {N C : Ro → Prop} {R : Ro → PyData → Prop} {P : PyData → Nat → Prop}

theorem Sat.down {H : Heap} {m : Str → Option Value} {fp : Str → List Addr} {g h : Heap} (k : Kp a.D.H0 H) (x : Sat (a.at_ H) ρ m fp g h) : Sat a ρ m fp g h where
  top := k.trans x.top
  dom := x.dom
  gx := x.gx
  lnew := none_of_kp k x.lnew
  lg := x.lg
  ns := x.ns
  ff := x.ff
  var := x.var
  fpok := x.fpok
  own := fun y sl e o => by
    obtain ⟨b, r, e1, e2, e3, e4, e5, e6, e7⟩ := x.own y sl e o
    exact ⟨b, r, e1, e2, e3, e4, none_of_kp k e5, e6, e7⟩
  pin := x.pin
theorem Sat.up {H : Heap} {m : Str → Option Value} {fp : Str → List Addr} {g h : Heap} (x : Sat a ρ m fp g h) (k : Kp H h) (hL : H.get? a.L = none) (ho : ∀ b ∈ ownedOf ρ fp, H.get? b = none) : Sat (a.at_ H) ρ m fp g h where
  top := k
  dom := x.dom
  gx := x.gx
  lnew := hL
  lg := x.lg
  ns := x.ns
  ff := x.ff
  var := x.var
  fpok := x.fpok
  own := fun y sl e o => by
    obtain ⟨b, r, e1, e2, e3, e4, e5, e6, e7⟩ := x.own y sl e o
    exact ⟨b, r, e1, e2, e3, e4, ho b (mem_ownedOf.mpr ⟨y, sl, r, e, o, e1⟩), e6, e7⟩
  pin := x.pin
/-- the world as it is now -/
def nowH (a : Act) (ρ : Ro) (fp : Str → List Addr) (h : Heap) : Heap := hideAll h (a.F ++ a.L :: ownedOf ρ fp)
theorem Sat.now (O : a.Ok) {m : Str → Option Value} {fp : Str → List Addr} {g h : Heap} (x : Sat a ρ m fp g h) :
    Kp a.D.H0 (nowH a ρ fp h) ∧ (a.at_ (nowH a ρ fp h)).Ok ∧ Sat (a.at_ (nowH a ρ fp h)) ρ m fp g h := by
  have k : Kp a.D.H0 (nowH a ρ fp h) := fun b o e => by
    refine hideAll_get _ (x.top b o e) fun q => ?_
    rcases List.mem_append.mp q with q | q
    · rw [framesOf_new O.stk b q] at e; cases e
    · rcases List.mem_cons.mp q with rfl | q
      · rw [x.lnew] at e; cases e
      · obtain ⟨z, sl, r, e1, o1, z1⟩ := mem_ownedOf.mp q
        obtain ⟨b', r', f1, _, _, _, f2, _⟩ := x.own z sl e1 o1
        rw [z1] at f1; cases f1
        rw [f2] at e; cases e
  have hst : StkOk (nowH a ρ fp h) a.stk := fun e he => by
    obtain ⟨h1, L, h2, h3⟩ := O.stk e he
    exact ⟨h1, L, h2, hideAll_none _ (List.mem_append_left _ (List.mem_filterMap.mpr ⟨e, he, h2⟩))⟩
  exact ⟨k, ⟨O.D.at_ k, O.frames, hst, O.hd, O.depth, O.units, O.kind, O.glob, O.blt, fun hh kh => O.seer hh (k.trans kh)⟩,
    x.up (fun b o e => of_hideAll _ e) (hideAll_none _ (List.mem_append_right _ (.head _))) fun b hb => hideAll_none _ (List.mem_append_right _ (.tail _ hb))⟩
theorem nowH_get {fp : Str → List Addr} {h : Heap} {b : Addr} {o : Obj} (e : h.get? b = some o) (h1 : b ≠ a.L) (h2 : b ∉ a.F) (h3 : b ∉ ownedOf ρ fp) : (nowH a ρ fp h).get? b = some o :=
  hideAll_get _ e fun q => (List.mem_append.mp q).elim h2 fun q => (List.mem_cons.mp q).elim h1 h3

theorem Ex.goW {H : Heap} {ss : List Stmt} (k : Kp a.D.H0 H) (x : Ex (a.at_ H) E ρ ss N R C) {m : Str → Option Value} {fp : Str → List Addr} {g : Heap} {s : Shared} {Q : Flow → Shared → Prop} (hs : Sat (a.at_ H) ρ m fp g s.heap)
    (k1 : ∀ ρ' m' fp' h tk, Sat a ρ' m' fp' g h → Kp H h → N ρ' → Q .next { s with heap := h, toks := tk })
    (k2 : ∀ ρ' m' fp' h tk, Sat a ρ' m' fp' g h → Kp H h → C ρ' → Q .cont { s with heap := h, toks := tk })
    (k3 : ∀ ρ' m' fp' v d as h tk, RetOk a ρ' m' fp' g h v d as → R ρ' d → Q (.ret v) { s with heap := h, toks := tk }) : wpAny a.M a.A (execs ss a.env) Q E s :=
  x m fp g s Q hs (fun ρ' m' fp' h tk q p => k1 ρ' m' fp' h tk (q.down k) q.top p) (fun ρ' m' fp' h tk q p => k2 ρ' m' fp' h tk (q.down k) q.top p)
    fun ρ' m' fp' v d as h tk r p => k3 ρ' m' fp' v d as h tk ⟨r.sat.down k, r.rd, r.ok⟩ p
/-- statements run, all that is not the activation's own kept -/
theorem Ex.goK {ss : List Stmt} (x : Ex a E ρ ss N R C) {m : Str → Option Value} {fp : Str → List Addr} {g : Heap} {s : Shared} {Q : Flow → Shared → Prop} (hs : Sat a ρ m fp g s.heap)
    (k1 : ∀ ρ' m' fp' h tk, Sat a ρ' m' fp' g h → Ext a.F (hid a ρ fp s.heap) h → N ρ' → Q .next { s with heap := h, toks := tk })
    (k2 : ∀ ρ' m' fp' h tk, Sat a ρ' m' fp' g h → Ext a.F (hid a ρ fp s.heap) h → C ρ' → Q .cont { s with heap := h, toks := tk })
    (k3 : ∀ ρ' m' fp' v d as h tk, RetOk a ρ' m' fp' g h v d as → R ρ' d → Q (.ret v) { s with heap := h, toks := tk }) : wpAny a.M a.A (execs ss a.env) Q E s :=
  x m fp _ s Q hs.hide (fun ρ' m' fp' h tk q p => k1 ρ' m' fp' h tk (hs.unhide q) q.gx p) (fun ρ' m' fp' h tk q p => k2 ρ' m' fp' h tk (hs.unhide q) q.gx p)
    fun ρ' m' fp' v d as h tk r p => k3 ρ' m' fp' v d as h tk ⟨hs.unhide r.sat, r.rd, r.ok⟩ p

/-! cells -/
theorem Ev.cell (O : a.Ok) {x : Str} {pos : Pos} {c : Addr} {y : Str} {t : Tok} (hv : a.D.H0.IsCell c (some (.str y t))) (h : P (.str y) 2) (hc : a.env.cells.lookup x = some c)
    (hl : a.env.kindOf x = some .cell := by rfl) (hd : (x == ("__debug__" : Str)) = false := by decide) : Ev a E ρ (.Name x pos) P := fun m fp g s Q hs K =>
  wpAny_Name (wpAny_loadName_cell O.kind hl hc (hv.keeps hs.top) (K _ _ 2 [] s.heap s.toks (Res.val hs (.str _ _)) h)) hd
/-- an item of a list that a cell holds -/
theorem Ev.cellItem (O : a.Ok) {x : Str} {p1 pos : Pos} {slice : Expr} {c b : Addr} {vs : List Value} {n : Nat} {xs : List PyData} (hv : a.D.H0.IsCell c (some (.ref b))) (hb : a.D.H0.get? b = some (listO vs n)) (hr : ∀ h : Heap, RdAll a.D.prog a.D.w h vs xs [])
    (h : Ev a E ρ slice fun d _ => ∃ (i : Int) (k : Nat) (e : PyData), d = .int i ∧ i = (k : Int) ∧ k < 1000 ∧ xs[k]? = some e ∧ P e 2) (hc : a.env.cells.lookup x = some c)
    (hl : a.env.kindOf x = some .cell := by rfl) (hd : (x == ("__debug__" : Str)) = false := by decide)
    (hs : ∀ o i, subscripted slice false o i = operate [o, i] (getItem o i) := by intro _ _; rfl) : Ev a E ρ (.Subscript (.Name x p1) slice pos) P := by
  intro m fp g s Q hsat K
  refine Subscript_ (wpAny_Name (wpAny_loadName_cell O.kind hl hc (hv.keeps hsat.top) ?_) hd)
  refine h m fp g s _ hsat fun v2 d2 f2 as2 h2 tk2 r2 p2 => ?_
  obtain ⟨i, k, e, rfl, rfl, hk, he, p2⟩ := p2
  obtain ⟨⟨u, rfl⟩, rfl⟩ := r2.rd.int_inv
  have q := hr h2
  obtain ⟨v, cs, hv', rv, hcs⟩ := q.get he
  have hlist : h2.IsList b vs.toArray := ⟨_, r2.sat.top _ _ hb, rfl, n, rfl⟩
  have hkl := (List.getElem?_eq_some_iff.mp hv').1
  obtain rfl : cs = [] := by cases cs with | nil => rfl | cons z _ => exact absurd (hcs z (.head _)) (fun q => nomatch q)
  unfold subscriptTail
  refine wpAny_bind ?_
  rw [getitemInPython_of_ne (Shared.TypeIs.not_modules (s := { s with heap := h2, toks := tk2 }) hlist.typeIs)]
  refine wpAny_bind (wpAny_specialOf (s := { s with heap := h2, toks := tk2 }) hlist.typeIs list_getitem_lookup ?_)
  refine wpAny_pure (wpAny_bind ?_)
  rw [hs]
  refine wpAny_operating (wpAny_getItem_list (s := { s with heap := h2, toks := tk2 }) hlist (by omega) (by omega) (by simpa using hv') ?_)
  exact wpAny_bind (wpAny_letTemporaryGo (wpAny_pure (K v e 2 [] h2 _ ⟨r2.sat, r2.ext, rv, Fo.nil _⟩ p2)))

/-- a cell's place is no datum's -/
theorem Rd.notCell {prog : Program} {w : World} {h : Heap} {c : Addr} {u : Option Value} (hc : h.IsCell c u) : ∀ {v : Value} {d : PyData} {as : List Addr}, Rd prog w h v d as → c ∉ as := by
  obtain ⟨o, ho, hd⟩ := hc
  intro v d as r
  · refine Rd.rec (motive_1 := fun v d as _ => c ∉ as) (motive_2 := fun vs ds as _ => c ∉ as) ?_ ?_ ?_ ?_ ?_ ?_ ?_ ?_ ?_ r
    · exact fun q => nomatch q
    · exact fun _ q => nomatch q
    · exact fun _ _ q => nomatch q
    · exact fun _ _ q => nomatch q
    · intro a vs n xs as ho' r ih q
      rcases List.mem_cons.mp q with rfl | q
      · rw [ho] at ho'; cases ho'; cases hd
      · exact ih q
    · intro a vs n xs as ho' r ih q
      exact ih q
    · intro a kvs ps hdo hp hs q
      obtain rfl := List.mem_singleton.mp q
      obtain ⟨o', es, ep, ho', _, hd', _⟩ := hdo
      rw [ho] at ho'; cases ho'; rw [hd] at hd'; cases hd'
    · exact fun q => nomatch q
    · intro v vs d ds as bs _ _ i1 i2 q
      exact (List.mem_append.mp q).elim i1 i2
theorem Sat.celled {c : Addr} {u : Option Value} {m : Str → Option Value} {fp : Str → List Addr} {g h h' : Heap} (x : Sat a ρ m fp g h) (hc : h.IsCell c u) {u' : Option Value} (hc' : h'.IsCell c u') (k : Heap.SameBut c h h')
    (hnew : g.get? c = none ∧ a.D.H0.get? c = none ∧ c ≠ a.L ∧ c ∉ a.F) (O : a.Ok) : Sat a ρ m fp g h' := by
  refine Sat.apart (S := (· = c)) O x (but_of_same k) (fun b o hb ho vs n q => ?_) fun b hb => ?_
  · subst hb
    obtain ⟨o', ho', hd⟩ := hc
    rw [ho'] at ho; cases ho; rw [q] at hd; cases hd
  · subst hb
    refine ⟨hnew.1, hnew.2.1, hnew.2.2.1, hnew.2.2.2, fun y sl e hm => ?_, .inr ?_⟩
    · obtain ⟨v, _, r⟩ := x.var y sl e
      exact Rd.notCell hc r hm
    · obtain ⟨o, ho, _⟩ := hc'; exact ⟨o, ho⟩
/-- a value put into a cell of the frame -/
theorem storeCell (O : a.Ok) {x : Str} {c : Addr} {u : Option Value} {v : Value} {m : Str → Option Value} {fp : Str → List Addr} {g : Heap} {s : Shared} {Q : Unit → Shared → Prop} (hs : Sat a ρ m fp g s.heap) (hu : s.heap.IsCell c u)
    (hnew : g.get? c = none ∧ a.D.H0.get? c = none ∧ c ≠ a.L ∧ c ∉ a.F) (hc : a.env.cells.lookup x = some c)
    (K : ∀ h', Sat a ρ m fp g h' → h'.IsCell c (some v) → Heap.SameBut c s.heap h' → Q () { s with heap := h' }) (hl : a.env.kindOf x = some .cell := by rfl) : wpAny a.M a.A (storeName a.env x v) Q E s :=
  wpAny_storeName_cell O.kind hl hc hu fun h' hv hsb => K h' (hs.celled hu hv hsb hnew O) hv hsb
/-- a cell is not the activation's own list or dict -/
theorem Sat.cellOwn {c : Addr} {u : Option Value} {m : Str → Option Value} {fp : Str → List Addr} {g h : Heap} (x : Sat a ρ m fp g h) (hc : h.IsCell c u) : c ∉ ownedOf ρ fp := fun q => by
  obtain ⟨z, sl, r, e1, o1, z1⟩ := mem_ownedOf.mp q
  obtain ⟨v, _, rd⟩ := x.var z sl e1
  exact Rd.notCell hc rd (z1 ▸ .head _)
end
end Mine
end

section
open PySem PySem.W PySem.Calls PyProof.Rows
set_option maxRecDepth 100000
set_option autoImplicit false
set_option linter.unusedVariables false
namespace Mine

section
variable {a : Act} {E : Value → Shared → Prop} {ρ : Ro} {N C : Ro → Prop} {R : Ro → PyData → Prop} {P : PyData → Nat → Prop}
/-- while, by a measure -/
theorem Ex1.while (O : a.Ok) {test : Expr} {body : List Stmt} {pos : Pos} (J : Nat → Ro → Prop)
    (turn : ∀ n ρ', J n ρ' → EvT a (loopE a E) ρ' test fun b => if b = true then Ex a (loopE a E) ρ' body (fun ρ2 => ∃ k, k < n ∧ J k ρ2) R (fun ρ2 => ∃ k, k < n ∧ J k ρ2) else N ρ')
    (n : Nat) (h : J n ρ) : Ex1 a E ρ (.While test body [] pos) N R C := by
  intro m fp g s Q hs k1 _ k3
  refine wpAny_While (codeAny_whileLoop (fun k s' => ∃ h tk ρ' m' fp', s' = { s with heap := h, toks := tk } ∧ Sat a ρ' m' fp' g h ∧ J k ρ') ?_ n ⟨s.heap, s.toks, ρ, m, fp, rfl, hs, h⟩)
  rintro k s' ⟨h, tk, ρ', m', fp', rfl, hs', hJ⟩
  refine turn k ρ' hJ m' fp' g { s with heap := h, toks := tk } _ hs' fun b h1 tk1 hs1 ex1 p => ?_
  cases b with
  | false =>
    refine wpAny_execs_nil ?_
    exact k1 ρ' m' fp' h1 tk1 hs1 (by simpa using p)
  | true =>
    have p' : Ex a (loopE a E) ρ' body (fun ρ2 => ∃ k', k' < k ∧ J k' ρ2) R (fun ρ2 => ∃ k', k' < k ∧ J k' ρ2) := by simpa using p
    exact p' m' fp' g { s with heap := h1, toks := tk1 } _ hs1 (fun ρ2 m2 fp2 h2 tk2 q ⟨k', hk, hj⟩ => ⟨k', hk, h2, tk2, ρ2, m2, fp2, rfl, q, hj⟩) (fun ρ2 m2 fp2 h2 tk2 q ⟨k', hk, hj⟩ => ⟨k', hk, h2, tk2, ρ2, m2, fp2, rfl, q, hj⟩)
      fun ρ2 m2 fp2 v d as h2 tk2 r p => k3 ρ2 m2 fp2 v d as h2 tk2 r p

/-- isinstance(e, str) -/
theorem Ev.isStr (O : a.Ok) {np np2 pos : Pos} {e : Expr} (h : Ev a E ρ e fun d _ => match d with
      | .str _ => P (.bool true) 2
      | .list _ => P (.bool false) 2
      | _ => False)
    (hg : a.D.mg "isinstance" = none) (hg2 : a.D.mg "str" = none) (hx : a.env.kindOf "isinstance" = some .globalImplicit := by rfl) (hx2 : a.env.kindOf "str" = some .globalImplicit := by rfl)
    (he : starEach [e, .Name "str" np2] a.env = (false, eval e a.env) :: starEach [.Name "str" np2] a.env := by rfl)
    (he2 : starEach [.Name "str" np2] a.env = [(false, eval (.Name "str" np2) a.env)] := by rfl) : Ev a E ρ (.Call (.Name "isinstance" np) [e, .Name "str" np2] [] pos) P := by
  intro m fp g s Q hs K
  refine Call_ (builtin_name O hs boot_isinstance hg (by decide) ?_ hx)
  refine PyProof.Rows.callWith_builtin1 ?_ he (by rw [he2]; rfl)
  rw [he, he2]
  refine spliced_cons (h m fp g s _ hs fun v d f as h1 tk r p => spliced_cons (builtin_name (s := { s with heap := h1, toks := tk }) O r.sat (v := .type "str") (by decide +kernel) hg2 (by decide) (spliced_nil ?_) hx2))
  cases d with
  | none | bool _ | int _ | tuple _ | dict _ => exact p.elim
  | str x =>
    obtain ⟨⟨t, rfl⟩, rfl⟩ := r.rd.str_inv
    exact PySem.IsiPair.str_str (K _ _ _ _ h1 _ (r.made (.bool _)) p)
  | list xs =>
    obtain ⟨D, vs, n, bs, rfl, rfl, ho, q⟩ := r.rd.list_inv
    exact PySem.IsiPair.list_str ho rfl (K _ _ _ _ h1 _ (r.made (.bool _)) p)
end

/-! defs with cells -/
def mkActC (D : Wd) (A : Around) (fd : FuncData) (L fa : Addr) (stk : List Env) (H1 : Heap) (args : List Addr) (n : Nat) : Act :=
  { D := D, A := A.deeper (callEnvC fd L fa), env := callEnvC fd L fa, stk := callEnvC fd L fa :: stk, H1 := H1, args := args, n := n }
theorem bindL_all (kindOf : Str → Option NameKind) : ∀ (binds : List (Str × Value)) (m : Str → Option Value), (∀ p ∈ binds, kindOf p.1 = some .local) → ∀ y, bindL kindOf binds m y = (binds.reverse.lookup y).or (m y)
  | [], m, _, y => by simp [bindL]
  | (n, v) :: r, m, h, y => by
    rw [bindL, if_pos (h (n, v) (.head _)), bindL_all kindOf r _ (fun p hp => h p (.tail _ hp))]
    rw [List.reverse_cons, List.lookup_append]
    cases q : List.lookup y r.reverse with
    | some z => simp
    | none =>
      by_cases hy : y = n
      · subst hy; simp
      · have : (y == n) = false := by simpa using hy
        simp [hy, List.lookup_cons, this]
theorem bindC_all (kindOf : Str → Option NameKind) : ∀ (binds : List (Str × Value)) (m : Str → Option Value), (∀ p ∈ binds, kindOf p.1 = some .local) → bindC kindOf binds m = m
  | [], m, _ => rfl
  | (n, v) :: r, m, h => by rw [bindC, if_pos (h (n, v) (.head _)), bindC_all kindOf r _ (fun p hp => h p (.tail _ hp))]

/-- the cells of a frame, not yet bound -/
structure Cells (cs : List (Str × Addr)) (L : Addr) (F : List Addr) (H0 H1 h : Heap) : Prop where
  cell : ∀ n c, cs.lookup n = some c → h.IsCell c none ∧ H1.get? c = none ∧ H0.get? c = none ∧ c ≠ L ∧ c ∉ F
  apart : cs.Pairwise fun x y => x.2 ≠ y.2

theorem Fn.introC {D : Wd} (DO : D.Ok) {x : Str} {fa : Addr} {o : Obj} {fd : FuncData} {body : List Stmt} {n : Nat} {names : List Str} {ds : List PyData} {P : PyData → Prop}
    (hm : D.mg x = some (.ref fa)) (ho : D.H0.get? fa = some o) (hd : o.data = .func fd) (hcd : D.H0.CodeRec fd.code fd.qualname) (hb : fd.body = .stmts body)
    (hbind : ∀ vs : List Value, vs.length = names.length → bindArgs fd ⟨vs, []⟩ = pure (names.zip vs)) (hlen : names.length = ds.length) (hnd : names.Nodup)
    (hloc : ∀ y ∈ names, fd.scope.names.lookup y = some .local) (hclo : fd.closure = []) (hgl : fd.globals = mainGlobals) (hbl : fd.builtins = builtinsNs)
    (hco : fd.scope.isCoroutine = false) (hgen : fd.scope.isGenerator = false) (hk : fd.scope.kind = .function)
    (h : ∀ (A : Around) (L : Addr) (stk : List Env) (H1 : Heap) (args : List Addr), (mkActC D A fd L fa stk H1 args n).Ok → ∀ (E : Value → Shared → Prop) m fp (s1 : Shared) (Q : Flow → Shared → Prop),
      Sat (mkActC D A fd L fa stk H1 args n) (slots names ds) m fp H1 s1.heap → Cells (callEnvC fd L fa).cells L (mkActC D A fd L fa stk H1 args n).F D.H0 H1 s1.heap →
      (∀ ρ' m' fp' v d as h tk, RetOk (mkActC D A fd L fa stk H1 args n) ρ' m' fp' H1 h v d as → P d → Q (.ret v) { s1 with heap := h, toks := tk }) →
      wpAny (mkActC D A fd L fa stk H1 args n).M (mkActC D A fd L fa stk H1 args n).A (execs body (mkActC D A fd L fa stk H1 args n).env) Q E s1) :
    Fn D n x ds P := by
  refine ⟨fa, ⟨hm, o, fd, ho, hd⟩, ?_⟩
  intro A stk E s vs as Q C kp ff rd has K
  have hvl : vs.length = names.length := by rw [rd.length, hlen]
  have hdep := C.depth
  have hun := C.units
  have hlocp : ∀ p ∈ names.zip vs, fd.scope.names.lookup p.1 = some .local := fun p hp => hloc _ (List.of_mem_zip hp).1
  refine wpAny_call (codeAny_call_cells (binds := names.zip vs) (show A.depth < 1000 by omega) (kp _ _ ho) hd (DO.lim.keeps kp) (hcd.keeps kp) hb (hbind vs hvl) hclo (fun p hp => .inl (hlocp p hp)) (fun s1 X => ?_) hco hgen hk)
  obtain ⟨h0, tk0, rfl, hk0⟩ := X.done
  have hlocE : ∀ p ∈ names.zip vs, (callEnvC fd s.heap.objs.size fa).kindOf p.1 = some .local := hlocp
  have hmm : (bindL (callEnvC fd s.heap.objs.size fa).kindOf (names.zip vs) fun _ => none) = fun y => (names.zip vs).reverse.lookup y := by
    funext y; rw [bindL_all _ _ _ hlocE]; cases List.lookup y (names.zip vs).reverse <;> rfl
  have hcm : (bindC (callEnvC fd s.heap.objs.size fa).kindOf (names.zip vs) fun _ => none) = fun _ => none := bindC_all _ _ _ hlocE
  rw [hmm, hcm] at X
  have hns : h0.Ns s.heap.objs.size fun y => (names.zip vs).reverse.lookup y := X.toInCall.ns
  have Lnew : s.heap.get? s.heap.objs.size = none := get_size_none _
  have new0 : ∀ b, s.heap.get? b = none → D.H0.get? b = none := fun b e => none_of_kp kp e
  have L0 := new0 _ Lnew
  have stk' : StkOk D.H0 (callEnvC fd s.heap.objs.size fa :: stk) := fun e he => by
    rcases List.mem_cons.mp he with rfl | he
    · exact ⟨by show fd.scope.kind ≠ .module; rw [hk]; decide, _, rfl, L0⟩
    · exact C.stk e he
  have fr : (A.deeper (callEnvC fd s.heap.objs.size fa)).frames = some (callEnvC fd s.heap.objs.size fa :: stk) := Around.frames_deeper C.frames
  have O : (mkActC D A fd s.heap.objs.size fa stk s.heap as n).Ok := by
    refine ⟨DO, fr, stk', C.hd, ?_, ?_, hk, hgl, hbl, fun hh kh => ?_⟩
    · show A.depth + 1 + n < 900; omega
    · show A.units + 3 + 10 * n < 9000; omega
    · exact SeerAt.of (env := callEnvC fd s.heap.objs.size fa) (l := stk) (DO.seer.keeps kh) DO.tree fr hgen hco hbl hgl
  have Fe : (mkActC D A fd s.heap.objs.size fa stk s.heap as n).F = s.heap.objs.size :: framesOf stk := rfl
  have ff0 : FF (s.heap.objs.size :: framesOf stk) h0 := fun b hb => by
    rcases List.mem_cons.mp hb with rfl | hb
    · obtain ⟨o, es, ep, ho, hd, _⟩ := hns; exact ⟨o, es, ep, ho, hd⟩
    · obtain ⟨o, es, k, ho, hd⟩ := ff b hb; exact ⟨o, es, k, hk0 b o ho, hd⟩
  have rd0 := rd.kp hk0
  have hfp : ∀ y, ∃ bs : List Addr, ∀ sl, (slots names ds).lookup y = some sl → ∃ v, (names.zip vs).reverse.lookup y = some v ∧ Rd D.prog D.w h0 v sl.d bs ∧ ∀ b ∈ bs, b ∈ as := fun y => by
    cases q : (slots names ds).lookup y with
    | none => exact ⟨[], fun sl e => by cases e⟩
    | some sl =>
      obtain ⟨i, d, h1, h2, rfl, _⟩ := slots_lookup names ds y sl q
      obtain ⟨v, bs, hv, r, hs⟩ := rd0.get h2
      exact ⟨bs, fun sl e => by cases e; exact ⟨v, bindsLookup names vs hnd i y v h1 hv, r, hs⟩⟩
  obtain ⟨fp, hfp⟩ := Classical.axiomOfChoice hfp
  have sat : Sat (mkActC D A fd s.heap.objs.size fa stk s.heap as n) (slots names ds) (fun y => (names.zip vs).reverse.lookup y) fp s.heap h0 := by
    refine ⟨fun b o e => hk0 b o (kp b o e), fun b o e => ⟨o, hk0 b o e⟩, Kp.ext hk0, L0, Lnew, hns, ff0, fun y sl e => ?_, fun y sl e b hb => ?_, fun y sl e ow => ?_, fun y e => by cases e⟩
    · obtain ⟨v, hv, r, _⟩ := hfp y sl e; exact ⟨v, hv, r⟩
    · obtain ⟨v, hv, r, hs⟩ := hfp y sl e
      have hbas := hs b hb
      obtain ⟨o', ho'⟩ := rd.here b hbas
      have hbL : b ≠ s.heap.objs.size := fun q => by rw [q, Lnew] at ho'; cases ho'
      refine ⟨hbL, fun q => ?_, .inr hbas⟩
      rcases List.mem_cons.mp (Fe ▸ q) with q | q
      · exact hbL q
      · exact has b hbas q
    · obtain ⟨_, _, _, _, rfl, _⟩ := slots_lookup names ds y sl e; cases ow
  have cells : Cells (callEnvC fd s.heap.objs.size fa).cells s.heap.objs.size (mkActC D A fd s.heap.objs.size fa stk s.heap as n).F D.H0 s.heap h0 := by
    refine ⟨fun m c e => ?_, X.apart⟩
    have habove := X.above m c (mem_of_lookup e)
    have cn : s.heap.get? c = none := by
      cases q : s.heap.get? c with
      | none => rfl
      | some o' => have := Heap.lt_size q; exact absurd (Nat.lt_trans this habove) (Nat.lt_irrefl _)
    refine ⟨X.cell m c e, cn, new0 c cn, Nat.ne_of_gt habove, fun q => ?_⟩
    rcases List.mem_cons.mp (Fe ▸ q) with q | q
    · exact Nat.ne_of_gt habove q
    · obtain ⟨o', _, _, ho', _⟩ := ff c q; rw [cn] at ho'; cases ho'
  have ret : ∀ ρ' m' fp' v d as' h tk, RetOk (mkActC D A fd s.heap.objs.size fa stk s.heap as n) ρ' m' fp' s.heap h v d as' → P d → Q v { s with heap := h, toks := tk } := fun ρ' m' fp' v d as' h tk r p => by
    refine K v d as' h tk r.sat.top (fun b o e => ?_) r.rd (fun b hb => ?_) p
    · obtain ⟨q1, q2⟩ := r.sat.gx b o e
      have hbL : b ≠ s.heap.objs.size := fun q => by rw [q, Lnew] at e; cases e
      exact ⟨fun z => q1 fun q => (List.mem_cons.mp (Fe ▸ q)).elim hbL z, q2⟩
    · obtain ⟨z1, z2, z3⟩ := r.ok b hb
      exact ⟨fun q => z2 (Fe ▸ List.mem_cons_of_mem _ q), z3⟩
  exact h A s.heap.objs.size stk s.heap as O _ (fun y => (names.zip vs).reverse.lookup y) fp { s with heap := h0, toks := tk0 } _ sat cells fun ρ' m' fp' v d as' h tk r p => ret ρ' m' fp' v d as' h tk r p
end Mine
end

section
open PySem PySem.W PySem.Calls PyProof.Rows
set_option maxRecDepth 100000
set_option autoImplicit false
set_option linter.unusedVariables false
namespace Mine

section
variable {a : Act} {E : Value → Shared → Prop} {ρ : Ro} {N C : Ro → Prop} {R : Ro → PyData → Prop} {P : PyData → Nat → Prop}

theorem upto_length (n : Nat) : (upto n).length = n := by unfold upto; simp
set_option maxHeartbeats 1000000 in
/-- [elt for x in range(e)] -/
theorem Ev.compRange (O : a.Ok) {elt e : Expr} {x : Str} {px pn cp pos : Pos} {scope : Scope} {cl : List (Str × Addr)} (sh : CompShape a scope cl)
    (h : Ev a E ρ e fun d _ => ∃ i f, d = .int i ∧ 0 ≤ i ∧ i < 5000 ∧ (∀ y ∈ upto i.toNat, CompTurn a scope cl (.Name x px) elt [] (fun _ => true) f y) ∧ P (.list ((upto i.toNat).map f)) 2)
    (hg : a.D.mg "range" = none) (hx : a.env.kindOf "range" = some .globalImplicit := by rfl)
    (hf : ∀ v, foldedSetIterable (.Call (.Name "range" pn) [e] [] cp) a.env v = pure v := by intro _; rfl)
    (he : starEach [e] a.env = (false, eval e a.env) :: starEach [] a.env := by rfl) :
    Ev a E ρ (.ListComp elt [⟨.Name x px, .Call (.Name "range" pn) [e] [] cp, [], 0⟩] scope pos) P := by
  intro m fp g s Q hs K
  rw [eval_ListComp]
  refine wpAny_comprehension_free (use := none) rfl hf sh.clos sh.kind sh.names ?_
  refine Call_ (builtin_name O hs PyProof.Rows.Boot.«range» hg (by decide) ?_ hx)
  rw [he]
  refine PySem.callWith_type (T := "range") rfl (evalArgs_plain (spliced_cons ?_))
  refine h m fp g s _ hs fun v d f as h1 tk r p => spliced_nil ?_
  obtain ⟨i, f, rfl, i0, i1, turn, pp⟩ := p
  obtain ⟨⟨t, rfl⟩, _⟩ := r.rd.int_inv
  refine call_range_1 ?_
  have kp1 := Kp.push h1 { cls := .type "range", data := .fields #[.int 0 tk, .int i t, .int 1 (tk + 1)] }
  refine wpAny_pyIter_range (IsRange.new _ _ _ _ _ _ _) (small_one (by omega) (by omega) (by omega) (by omega)) ?_
  have r1 := r.sat.pushed O { cls := .type "range", data := .fields #[.int 0 tk, .int i t, .int 1 (tk + 1)] }
  generalize h1.push { cls := .type "range", data := .fields #[.int 0 tk, .int i t, .int 1 (tk + 1)] } = h2 at r1 kp1 ⊢
  have nw := get_size_none h2
  have np := r1.newPlace O nw
  have sz : Builtin.Range.rangeSize 0 i 1 = (i.toNat : Int) := by rw [rangeSize_one]; split <;> omega
  have len := upto_length i.toNat
  have W := Walks.range (prog := a.D.prog) (w := a.D.w) O.hd h2.objs.size 0 1 i.toNat
  replace W := W.bound
  rw [← len] at W
  have kp2 := Kp.push h2 { cls := .type "range_iterator", data := .fields #[rawInt 0, rawInt (Builtin.Range.rangeSize 0 i 1), rawInt 1] }
  have isI : (h2.push { cls := .type "range_iterator", data := .fields #[rawInt 0, rawInt (Builtin.Range.rangeSize 0 i 1), rawInt 1] }).get? h2.objs.size = some { cls := .type "range_iterator", data := .fields #[rawInt 0, rawInt (Builtin.Range.rangeSize 0 i 1), rawInt 1] } := get_push_self _ _
  have satI := r1.pushed O { cls := .type "range_iterator", data := .fields #[rawInt 0, rawInt (Builtin.Range.rangeSize 0 i 1), rawInt 1] }
  have c1 : ∀ z : String, z ≠ "range_iterator" → Value.type "range_iterator" ≠ Value.type z := fun z hz q => hz (by cases q; rfl)
  refine comp_core (its := upto i.toNat) (sup := []) (RR := fun acc C => compPost a.M a.A E none Q acc C) O sh.cell sh.kind W (fun i h hr => ?_) (fun i s v d as Q E' _ _ _ q => wpAny_pure q) (by rw [len]; exact Nat.le_trans (show i.toNat ≤ 5000 by omega) (by decide)) (fun b hb => nomatch hb) (fun _ => true) f
    (fun C H1 args O' x hx E' => turn x hx C H1 args O' E') satI ?_ ⟨fun j v hv => ?_⟩ (fun b hb => ?_) (fun b hb o e => ?_)
    fun D C h' tk' m' vs' bs' n' hDn hCn hDC hnC hD rdl hbs bt => ?_
  · exact foreign_of hr (c1 _ (by decide)) (c1 _ (by decide)) (c1 _ (by decide)) (fun es n q => by cases q)
  · rw [len]
    have e1 : (0 : Int) + ((0 : Nat) : Int) * 1 = 0 := by omega
    have e2 : ((i.toNat : Nat) : Int) - ((0 : Nat) : Int) = (i.toNat : Int) := by omega
    rw [e1, e2, ← sz]
    exact isI
  · obtain ⟨hj, t, rfl⟩ := hv
    refine ⟨.int (j : Int), [], ?_, ?_, fun b hb => nomatch hb⟩
    · unfold upto; rw [len] at hj; simp [hj]
    · have : (0 + (j : Int) * 1) = (j : Int) := by omega
      rw [this]; exact .int _ _
  · simp at hb; subst hb; exact ⟨(r1.newFine nw).1, (r1.newFine nw).2.1, _, isI⟩
  · simp at hb; subst hb; rw [np.2.1] at e; cases e
  · have fI : Foreign [h2.objs.size] (h2.push { cls := .type "range_iterator", data := .fields #[rawInt 0, rawInt (Builtin.Range.rangeSize 0 i 1), rawInt 1] }) := fun b hb => by
      rw [List.mem_singleton.mp hb]; exact ⟨_, isI, c1 _ (by decide), c1 _ (by decide), c1 _ (by decide), fun es n q => by cases q⟩
    have old : ∀ b, (h2.push { cls := .type "range_iterator", data := .fields #[rawInt 0, rawInt (Builtin.Range.rangeSize 0 i 1), rawInt 1] }).get? b = none → h1.get? b = none := fun b e => none_of_kp (kp1.trans kp2) e
    have hCn1 : h1.get? C = none := old C hCn
    have hDn1 : h1.get? D = none := old D hDn
    have sat' : Sat a ρ m fp g h' := Sat.apart O satI bt fI.noSeq fun b hb => by
      obtain rfl := List.mem_singleton.mp hb
      exact ⟨np.1, np.2.1, (r1.newFine nw).1, (r1.newFine nw).2.1, (fun y sl e hm => by
        obtain ⟨u, _, rd⟩ := r1.var y sl e
        obtain ⟨o, ho⟩ := rd.here _ hm
        rw [nw] at ho; cases ho), .inl np.2.2⟩
    have ex : Ext a.F h1 h' := fun b o e => bt b o (fun hb => by rw [List.mem_singleton.mp hb] at e; rw [kp1 _ _ e] at nw; cases nw) (kp2 b o (kp1 b o e))
    rw [List.filter_eq_self.mpr fun _ _ => rfl] at rdl
    have newB : ∀ b ∈ D :: bs', h1.get? b = none := fun b hb => by
      rcases List.mem_cons.mp hb with rfl | hb
      · exact hDn1
      · rcases (hbs b hb).2.2.2 with z | z
        · exact old b z
        · cases z
    have hCD : C ∉ D :: bs' := fun q => by
      rcases List.mem_cons.mp q with q | q
      · exact hDC q.symm
      · exact (hbs _ q).1 rfl
    refine ⟨m', hnC, fun h'' hs'' => ?_⟩
    have exC : Ext a.F h1 h'' := fun b o e => by
      obtain ⟨p, sl, q⟩ := ex b o e
      have hb : b ≠ C := fun z => by rw [z, hCn1] at e; cases e
      exact ⟨fun z => (hs''.2 b hb).trans (p z), sl, (hs''.2 b hb).trans q⟩
    have nsC : NoSeq (· = C) h' := fun b o hb ho vs n q => by
      subst hb
      obtain ⟨o', _, _, ho', hd, _⟩ := hnC
      rw [ho'] at ho; cases ho; rw [q] at hd; cases hd
    have rdD : Rd a.D.prog a.D.w h' (.ref D) (.list ((upto i.toNat).map f)) (D :: bs') := .list hD rdl
    refine K _ _ 2 (D :: bs') h'' tk' ⟨sat'.letC O hnC r.sat hCn1 (new_fp r.sat hCn1) hs'', r.ext.trans exC, ?_, ?_⟩ pp
    · refine rdD.but (but_of_same hs'') nsC sat'.ff.noSeq fun b hb => ⟨fun q => hCD (q ▸ hb), (r.sat.newFine (newB b hb)).2.1⟩
    · refine ⟨fun b hb => r.sat.newFine (newB b hb), fun y sl c rr e ow q hb => r.sat.newClean (newB c (List.mem_of_mem_tail hb)) e q rfl, fun y sl c rr e ow q _ hb => r.sat.newClean (newB c hb) e q rfl, fun _ b hb => ?_⟩
      exact r.ext.none (newB b hb)
end
end Mine
end

section
open PySem PySem.W PySem.Calls PyProof.Rows
set_option maxRecDepth 100000
set_option autoImplicit false
set_option linter.unusedVariables false
namespace Mine

def defBody : Stmt → List Stmt
  | .FunctionDef _ _ body _ _ _ _ _ _ _ => body
  | _ => []
def defScope : Stmt → Scope
  | .FunctionDef _ _ _ _ _ _ scope _ _ _ => scope
  | _ => default
/-- the n-th statement of the text -/
def S2 (n : Nat) : Stmt := (PySem.Challenge.pw_rl0159_02.main.body)[n]?.getD (.Pass default)

theorem Ro.set_get (ρ : Ro) (x : Str) (sl : Slot) : (ρ.set x sl).lookup x = some sl := by rw [Ro.set_lookup, if_pos rfl]
theorem Ro.set_other {ρ : Ro} {x y : Str} {sl : Slot} {r : Option Slot} (h : (y == x) = false) (q : ρ.lookup y = r) : (ρ.set x sl).lookup y = r := by
  rw [Ro.set_lookup, if_neg (fun e => by rw [e] at h; simp at h)]; exact q

abbrev Ro.look (ρ : Ro) (x : Str) : Option Slot := ρ.lookup x

def nums (ns : List Int) : List PyData := ns.map PyData.int

/-- the sums of the numbers at each place mod k -/
def cellAdd (k : Nat) : List Int → Nat → List Int → List Int
  | cs, _, [] => cs
  | cs, i, n :: ns => cellAdd k (cs.set (i % k) ((cs[i % k]?.getD 0) + n)) (i + 1) ns
def cellsOf (k : Nat) (ns : List Int) : List Int := cellAdd k (List.replicate k 0) 0 ns
end Mine
end

section
open PySem PySem.W PySem.Calls PyProof.Rows
set_option maxRecDepth 100000
set_option autoImplicit false
set_option linter.unusedVariables false
namespace Mine

theorem nums_get {ns : List Int} {i : Nat} : (nums ns)[i]? = (ns[i]?).map PyData.int := by unfold nums; simp
theorem nums_atoms (ns : List Int) : atoms (nums ns) = true := by induction ns with | nil => rfl | cons n ns ih => simpa [nums, atoms, atom] using ih
theorem nums_set (ns : List Int) (i : Nat) (k : Int) : (nums ns).set i (.int k) = nums (ns.set i k) := by unfold nums; simp
theorem cellAdd_length (k : Nat) : ∀ (ns : List Int) (cs : List Int) (i : Nat), (cellAdd k cs i ns).length = cs.length
  | [], cs, i => rfl
  | n :: ns, cs, i => by rw [cellAdd, cellAdd_length]; simp
theorem cellAdd_snoc (k : Nat) (n : Int) : ∀ (ns cs : List Int) (i : Nat), cellAdd k cs i (ns ++ [n]) = (cellAdd k cs i ns).set ((i + ns.length) % k) (((cellAdd k cs i ns)[(i + ns.length) % k]?.getD 0) + n)
  | [], cs, i => by simp [cellAdd]
  | m :: ns, cs, i => by
    simp only [List.cons_append, cellAdd, List.length_cons]
    rw [cellAdd_snoc k n ns]
    have : i + 1 + ns.length = i + (ns.length + 1) := by omega
    rw [this]

theorem cells_ex {D : Wd} {A : Around} {fd : FuncData} {L fa : Addr} {stk : List Env} {H1 : Heap} {args : List Addr} {n : Nat} (O : (mkAct D A fd L fa stk H1 args n).Ok) (hfd : fd.scope = defScope (S2 4)) (E : Value → Shared → Prop) (ns : List Int)
    (hn : ns.length ≤ 63) (hg : D.mg "enumerate" = none) :
    Ex (mkAct D A fd L fa stk H1 args n) E (slots ["script"] [.list (nums ns)]) (defBody (S2 4)) (fun _ => False) (fun _ d => d = .list (nums (cellsOf 18 ns))) (fun _ => False) := by
  obtain ⟨name, qualname, params, body, scope, globals, closure, dv, kv, doc, pm, an, cd, ct, bt⟩ := fd
  dsimp only at hfd
  subst hfd
  refine Ex.cons (Ex1.assign O true ?_)
  (first | refine Mine.Ev.str ?_ | refine Mine.Ev.int ?_ | refine Mine.Ev.bool ?_ | refine Mine.Ev.name (by assumption) (by ((repeat' (first | exact Mine.Ro.set_get _ _ _ | refine Mine.Ro.set_other (by decide) ?_ | assumption | rfl)); done)) ?_ | refine Mine.Ev.neg (by assumption) ?_ | refine Mine.EvL.nil ?_ | refine Mine.EvL.cons (by assumption) ?_ | refine Mine.Ev.tuple (by assumption) ?_ | refine Mine.Ev.list (by assumption) ?_ | refine Mine.Ev.dict0 (by assumption) ?_ | refine Mine.Ev.binop (by assumption) ?_ | refine Mine.Ev.cmp (by assumption) ?_ | refine Mine.EvT.cmp (by assumption) ?_ | refine Mine.EvT.not ?_ | refine Mine.EvT.bool ?_ | refine Mine.Ev.boolOp (by assumption) ?_ | refine Mine.Ev.slice (by assumption) ?_ | refine Mine.Ev.item (by assumption) ?_ | refine Mine.Ev.strip (by assumption) ?_ | refine Mine.Ev.rstrip (by assumption) ?_ | refine Mine.Ev.join (by assumption) ?_ | refine Mine.Ev.split (by assumption) ?_ | refine Mine.Ev.ifExp ?_ | refine Mine.EvT.val (by assumption) ?_)
  (first | refine Mine.Ev.str ?_ | refine Mine.Ev.int ?_ | refine Mine.Ev.bool ?_ | refine Mine.Ev.name (by assumption) (by ((repeat' (first | exact Mine.Ro.set_get _ _ _ | refine Mine.Ro.set_other (by decide) ?_ | assumption | rfl)); done)) ?_ | refine Mine.Ev.neg (by assumption) ?_ | refine Mine.EvL.nil ?_ | refine Mine.EvL.cons (by assumption) ?_ | refine Mine.Ev.tuple (by assumption) ?_ | refine Mine.Ev.list (by assumption) ?_ | refine Mine.Ev.dict0 (by assumption) ?_ | refine Mine.Ev.binop (by assumption) ?_ | refine Mine.Ev.cmp (by assumption) ?_ | refine Mine.EvT.cmp (by assumption) ?_ | refine Mine.EvT.not ?_ | refine Mine.EvT.bool ?_ | refine Mine.Ev.boolOp (by assumption) ?_ | refine Mine.Ev.slice (by assumption) ?_ | refine Mine.Ev.item (by assumption) ?_ | refine Mine.Ev.strip (by assumption) ?_ | refine Mine.Ev.rstrip (by assumption) ?_ | refine Mine.Ev.join (by assumption) ?_ | refine Mine.Ev.split (by assumption) ?_ | refine Mine.Ev.ifExp ?_ | refine Mine.EvT.val (by assumption) ?_)
  (first | refine Mine.Ev.str ?_ | refine Mine.Ev.int ?_ | refine Mine.Ev.bool ?_ | refine Mine.Ev.name (by assumption) (by ((repeat' (first | exact Mine.Ro.set_get _ _ _ | refine Mine.Ro.set_other (by decide) ?_ | assumption | rfl)); done)) ?_ | refine Mine.Ev.neg (by assumption) ?_ | refine Mine.EvL.nil ?_ | refine Mine.EvL.cons (by assumption) ?_ | refine Mine.Ev.tuple (by assumption) ?_ | refine Mine.Ev.list (by assumption) ?_ | refine Mine.Ev.dict0 (by assumption) ?_ | refine Mine.Ev.binop (by assumption) ?_ | refine Mine.Ev.cmp (by assumption) ?_ | refine Mine.EvT.cmp (by assumption) ?_ | refine Mine.EvT.not ?_ | refine Mine.EvT.bool ?_ | refine Mine.Ev.boolOp (by assumption) ?_ | refine Mine.Ev.slice (by assumption) ?_ | refine Mine.Ev.item (by assumption) ?_ | refine Mine.Ev.strip (by assumption) ?_ | refine Mine.Ev.rstrip (by assumption) ?_ | refine Mine.Ev.join (by assumption) ?_ | refine Mine.Ev.split (by assumption) ?_ | refine Mine.Ev.ifExp ?_ | refine Mine.EvT.val (by assumption) ?_)
  (first | refine Mine.Ev.str ?_ | refine Mine.Ev.int ?_ | refine Mine.Ev.bool ?_ | refine Mine.Ev.name (by assumption) (by ((repeat' (first | exact Mine.Ro.set_get _ _ _ | refine Mine.Ro.set_other (by decide) ?_ | assumption | rfl)); done)) ?_ | refine Mine.Ev.neg (by assumption) ?_ | refine Mine.EvL.nil ?_ | refine Mine.EvL.cons (by assumption) ?_ | refine Mine.Ev.tuple (by assumption) ?_ | refine Mine.Ev.list (by assumption) ?_ | refine Mine.Ev.dict0 (by assumption) ?_ | refine Mine.Ev.binop (by assumption) ?_ | refine Mine.Ev.cmp (by assumption) ?_ | refine Mine.EvT.cmp (by assumption) ?_ | refine Mine.EvT.not ?_ | refine Mine.EvT.bool ?_ | refine Mine.Ev.boolOp (by assumption) ?_ | refine Mine.Ev.slice (by assumption) ?_ | refine Mine.Ev.item (by assumption) ?_ | refine Mine.Ev.strip (by assumption) ?_ | refine Mine.Ev.rstrip (by assumption) ?_ | refine Mine.Ev.join (by assumption) ?_ | refine Mine.Ev.split (by assumption) ?_ | refine Mine.Ev.ifExp ?_ | refine Mine.EvT.val (by assumption) ?_)
  (first | refine Mine.Ev.str ?_ | refine Mine.Ev.int ?_ | refine Mine.Ev.bool ?_ | refine Mine.Ev.name (by assumption) (by ((repeat' (first | exact Mine.Ro.set_get _ _ _ | refine Mine.Ro.set_other (by decide) ?_ | assumption | rfl)); done)) ?_ | refine Mine.Ev.neg (by assumption) ?_ | refine Mine.EvL.nil ?_ | refine Mine.EvL.cons (by assumption) ?_ | refine Mine.Ev.tuple (by assumption) ?_ | refine Mine.Ev.list (by assumption) ?_ | refine Mine.Ev.dict0 (by assumption) ?_ | refine Mine.Ev.binop (by assumption) ?_ | refine Mine.Ev.cmp (by assumption) ?_ | refine Mine.EvT.cmp (by assumption) ?_ | refine Mine.EvT.not ?_ | refine Mine.EvT.bool ?_ | refine Mine.Ev.boolOp (by assumption) ?_ | refine Mine.Ev.slice (by assumption) ?_ | refine Mine.Ev.item (by assumption) ?_ | refine Mine.Ev.strip (by assumption) ?_ | refine Mine.Ev.rstrip (by assumption) ?_ | refine Mine.Ev.join (by assumption) ?_ | refine Mine.Ev.split (by assumption) ?_ | refine Mine.Ev.ifExp ?_ | refine Mine.EvT.val (by assumption) ?_)
  refine ⟨by decide, by decide, ?_⟩
  (first | refine Mine.Ev.str ?_ | refine Mine.Ev.int ?_ | refine Mine.Ev.bool ?_ | refine Mine.Ev.name (by assumption) (by ((repeat' (first | exact Mine.Ro.set_get _ _ _ | refine Mine.Ro.set_other (by decide) ?_ | assumption | rfl)); done)) ?_ | refine Mine.Ev.neg (by assumption) ?_ | refine Mine.EvL.nil ?_ | refine Mine.EvL.cons (by assumption) ?_ | refine Mine.Ev.tuple (by assumption) ?_ | refine Mine.Ev.list (by assumption) ?_ | refine Mine.Ev.dict0 (by assumption) ?_ | refine Mine.Ev.binop (by assumption) ?_ | refine Mine.Ev.cmp (by assumption) ?_ | refine Mine.EvT.cmp (by assumption) ?_ | refine Mine.EvT.not ?_ | refine Mine.EvT.bool ?_ | refine Mine.Ev.boolOp (by assumption) ?_ | refine Mine.Ev.slice (by assumption) ?_ | refine Mine.Ev.item (by assumption) ?_ | refine Mine.Ev.strip (by assumption) ?_ | refine Mine.Ev.rstrip (by assumption) ?_ | refine Mine.Ev.join (by assumption) ?_ | refine Mine.Ev.split (by assumption) ?_ | refine Mine.Ev.ifExp ?_ | refine Mine.EvT.val (by assumption) ?_)
  refine ⟨by decide, by decide, by decide, by decide, by decide, by decide, fun _ => ⟨rfl, by decide, rfl⟩, ?_⟩
  refine Ex.cons (Ex1.forEnum O (fun i ρ => ρ.look "cells" = some ⟨.list (nums (cellAdd 18 (List.replicate 18 0) 0 (ns.take i))), true⟩) (nums ns) (fun i d ρ' hd hJ => ?_) (fun ρ' hJ => ?_) ?_ hg (hl := ?_))
  · obtain ⟨k, hk, rfl⟩ : ∃ k, ns[i]? = some k ∧ d = .int k := by
      rw [nums_get] at hd
      cases q : ns[i]? with
      | none => rw [q] at hd; cases hd
      | some k => rw [q] at hd; exact ⟨k, rfl, by simpa using hd.symm⟩
    have hi : i < ns.length := by have := (List.getElem?_eq_some_iff.mp hk).1; exact this
    refine Ex.cons (Ex1.augItem O (by ((repeat' (first | exact Mine.Ro.set_get _ _ _ | refine Mine.Ro.set_other (by decide) ?_ | assumption | rfl)); done)) (nums_atoms _) ?_)
    (first | refine Mine.Ev.str ?_ | refine Mine.Ev.int ?_ | refine Mine.Ev.bool ?_ | refine Mine.Ev.name (by assumption) (by ((repeat' (first | exact Mine.Ro.set_get _ _ _ | refine Mine.Ro.set_other (by decide) ?_ | assumption | rfl)); done)) ?_ | refine Mine.Ev.neg (by assumption) ?_ | refine Mine.EvL.nil ?_ | refine Mine.EvL.cons (by assumption) ?_ | refine Mine.Ev.tuple (by assumption) ?_ | refine Mine.Ev.list (by assumption) ?_ | refine Mine.Ev.dict0 (by assumption) ?_ | refine Mine.Ev.binop (by assumption) ?_ | refine Mine.Ev.cmp (by assumption) ?_ | refine Mine.EvT.cmp (by assumption) ?_ | refine Mine.EvT.not ?_ | refine Mine.EvT.bool ?_ | refine Mine.Ev.boolOp (by assumption) ?_ | refine Mine.Ev.slice (by assumption) ?_ | refine Mine.Ev.item (by assumption) ?_ | refine Mine.Ev.strip (by assumption) ?_ | refine Mine.Ev.rstrip (by assumption) ?_ | refine Mine.Ev.join (by assumption) ?_ | refine Mine.Ev.split (by assumption) ?_ | refine Mine.Ev.ifExp ?_ | refine Mine.EvT.val (by assumption) ?_)
    (first | refine Mine.Ev.str ?_ | refine Mine.Ev.int ?_ | refine Mine.Ev.bool ?_ | refine Mine.Ev.name (by assumption) (by ((repeat' (first | exact Mine.Ro.set_get _ _ _ | refine Mine.Ro.set_other (by decide) ?_ | assumption | rfl)); done)) ?_ | refine Mine.Ev.neg (by assumption) ?_ | refine Mine.EvL.nil ?_ | refine Mine.EvL.cons (by assumption) ?_ | refine Mine.Ev.tuple (by assumption) ?_ | refine Mine.Ev.list (by assumption) ?_ | refine Mine.Ev.dict0 (by assumption) ?_ | refine Mine.Ev.binop (by assumption) ?_ | refine Mine.Ev.cmp (by assumption) ?_ | refine Mine.EvT.cmp (by assumption) ?_ | refine Mine.EvT.not ?_ | refine Mine.EvT.bool ?_ | refine Mine.Ev.boolOp (by assumption) ?_ | refine Mine.Ev.slice (by assumption) ?_ | refine Mine.Ev.item (by assumption) ?_ | refine Mine.Ev.strip (by assumption) ?_ | refine Mine.Ev.rstrip (by assumption) ?_ | refine Mine.Ev.join (by assumption) ?_ | refine Mine.Ev.split (by assumption) ?_ | refine Mine.Ev.ifExp ?_ | refine Mine.EvT.val (by assumption) ?_)
    (first | refine Mine.Ev.str ?_ | refine Mine.Ev.int ?_ | refine Mine.Ev.bool ?_ | refine Mine.Ev.name (by assumption) (by ((repeat' (first | exact Mine.Ro.set_get _ _ _ | refine Mine.Ro.set_other (by decide) ?_ | assumption | rfl)); done)) ?_ | refine Mine.Ev.neg (by assumption) ?_ | refine Mine.EvL.nil ?_ | refine Mine.EvL.cons (by assumption) ?_ | refine Mine.Ev.tuple (by assumption) ?_ | refine Mine.Ev.list (by assumption) ?_ | refine Mine.Ev.dict0 (by assumption) ?_ | refine Mine.Ev.binop (by assumption) ?_ | refine Mine.Ev.cmp (by assumption) ?_ | refine Mine.EvT.cmp (by assumption) ?_ | refine Mine.EvT.not ?_ | refine Mine.EvT.bool ?_ | refine Mine.Ev.boolOp (by assumption) ?_ | refine Mine.Ev.slice (by assumption) ?_ | refine Mine.Ev.item (by assumption) ?_ | refine Mine.Ev.strip (by assumption) ?_ | refine Mine.Ev.rstrip (by assumption) ?_ | refine Mine.Ev.join (by assumption) ?_ | refine Mine.Ev.split (by assumption) ?_ | refine Mine.Ev.ifExp ?_ | refine Mine.EvT.val (by assumption) ?_)
    refine ⟨by decide, ?_⟩
    have hm : ((i : Int).fmod 18) = ((i % 18 : Nat) : Int) := by rw [Int.fmod_eq_emod_of_nonneg _ (by decide)]; rfl
    rw [hm]
    have hlt : i % 18 < 18 := Nat.mod_lt _ (by decide)
    refine ⟨_, (cellAdd 18 (List.replicate 18 0) 0 (ns.take i))[i % 18]?.getD 0, rfl, by omega, by omega, ?_, ?_⟩
    · rw [nums_get, show ((i % 18 : Nat) : Int).toNat = i % 18 from Int.toNat_natCast _]
      have : i % 18 < (cellAdd 18 (List.replicate 18 0) 0 (ns.take i)).length := by rw [cellAdd_length]; simpa using hlt
      rw [List.getElem?_eq_getElem this]; rfl
    · (first | refine Mine.Ev.str ?_ | refine Mine.Ev.int ?_ | refine Mine.Ev.bool ?_ | refine Mine.Ev.name (by assumption) (by ((repeat' (first | exact Mine.Ro.set_get _ _ _ | refine Mine.Ro.set_other (by decide) ?_ | assumption | rfl)); done)) ?_ | refine Mine.Ev.neg (by assumption) ?_ | refine Mine.EvL.nil ?_ | refine Mine.EvL.cons (by assumption) ?_ | refine Mine.Ev.tuple (by assumption) ?_ | refine Mine.Ev.list (by assumption) ?_ | refine Mine.Ev.dict0 (by assumption) ?_ | refine Mine.Ev.binop (by assumption) ?_ | refine Mine.Ev.cmp (by assumption) ?_ | refine Mine.EvT.cmp (by assumption) ?_ | refine Mine.EvT.not ?_ | refine Mine.EvT.bool ?_ | refine Mine.Ev.boolOp (by assumption) ?_ | refine Mine.Ev.slice (by assumption) ?_ | refine Mine.Ev.item (by assumption) ?_ | refine Mine.Ev.strip (by assumption) ?_ | refine Mine.Ev.rstrip (by assumption) ?_ | refine Mine.Ev.join (by assumption) ?_ | refine Mine.Ev.split (by assumption) ?_ | refine Mine.Ev.ifExp ?_ | refine Mine.EvT.val (by assumption) ?_)
      refine ⟨k, rfl, Ex.nil ?_⟩
      show (Ro.set _ _ _).lookup _ = _
      rw [Ro.set_get, show ((i % 18 : Nat) : Int).toNat = i % 18 from Int.toNat_natCast _, nums_set]
      have : ns.take (i + 1) = ns.take i ++ [k] := by rw [List.take_add_one, hk]; rfl
      rw [this, cellAdd_snoc]
      simp [List.length_take, Nat.min_eq_left (Nat.le_of_lt hi)]
  · refine Ex.cons (Ex1.ret O ?_)
    (first | refine Mine.Ev.str ?_ | refine Mine.Ev.int ?_ | refine Mine.Ev.bool ?_ | refine Mine.Ev.name (by assumption) (by ((repeat' (first | exact Mine.Ro.set_get _ _ _ | refine Mine.Ro.set_other (by decide) ?_ | assumption | rfl)); done)) ?_ | refine Mine.Ev.neg (by assumption) ?_ | refine Mine.EvL.nil ?_ | refine Mine.EvL.cons (by assumption) ?_ | refine Mine.Ev.tuple (by assumption) ?_ | refine Mine.Ev.list (by assumption) ?_ | refine Mine.Ev.dict0 (by assumption) ?_ | refine Mine.Ev.binop (by assumption) ?_ | refine Mine.Ev.cmp (by assumption) ?_ | refine Mine.EvT.cmp (by assumption) ?_ | refine Mine.EvT.not ?_ | refine Mine.EvT.bool ?_ | refine Mine.Ev.boolOp (by assumption) ?_ | refine Mine.Ev.slice (by assumption) ?_ | refine Mine.Ev.item (by assumption) ?_ | refine Mine.Ev.strip (by assumption) ?_ | refine Mine.Ev.rstrip (by assumption) ?_ | refine Mine.Ev.join (by assumption) ?_ | refine Mine.Ev.split (by assumption) ?_ | refine Mine.Ev.ifExp ?_ | refine Mine.EvT.val (by assumption) ?_)
    rw [show (nums ns).length = ns.length by unfold nums; simp, List.take_length]; rfl
  · (first | refine Mine.Ev.str ?_ | refine Mine.Ev.int ?_ | refine Mine.Ev.bool ?_ | refine Mine.Ev.name (by assumption) (by ((repeat' (first | exact Mine.Ro.set_get _ _ _ | refine Mine.Ro.set_other (by decide) ?_ | assumption | rfl)); done)) ?_ | refine Mine.Ev.neg (by assumption) ?_ | refine Mine.EvL.nil ?_ | refine Mine.EvL.cons (by assumption) ?_ | refine Mine.Ev.tuple (by assumption) ?_ | refine Mine.Ev.list (by assumption) ?_ | refine Mine.Ev.dict0 (by assumption) ?_ | refine Mine.Ev.binop (by assumption) ?_ | refine Mine.Ev.cmp (by assumption) ?_ | refine Mine.EvT.cmp (by assumption) ?_ | refine Mine.EvT.not ?_ | refine Mine.EvT.bool ?_ | refine Mine.Ev.boolOp (by assumption) ?_ | refine Mine.Ev.slice (by assumption) ?_ | refine Mine.Ev.item (by assumption) ?_ | refine Mine.Ev.strip (by assumption) ?_ | refine Mine.Ev.rstrip (by assumption) ?_ | refine Mine.Ev.join (by assumption) ?_ | refine Mine.Ev.split (by assumption) ?_ | refine Mine.Ev.ifExp ?_ | refine Mine.EvT.val (by assumption) ?_)
    refine ⟨by decide, rfl, nums_atoms _, ?_⟩
    rfl
  · intro z hz
    simp only [List.mem_cons, List.not_mem_nil, or_false] at hz
    rcases hz with rfl | rfl <;> exact ⟨rfl, nofun⟩
end Mine
end

section
open PySem PySem.W PySem.Calls PyProof.Rows
set_option maxRecDepth 100000
set_option autoImplicit false
set_option linter.unusedVariables false
namespace Mine

/-- a value without its two quotes -/
def unq (v : List Nat) : List Nat := if v.head? = some 34 ∧ v.getLast? = some 34 then pySl v (some 1) (some (-1)) else v
inductive KR
  | val (ps : List (Str × Str))
  | err (c : String)
def keqv1 (ps : List (Str × Str)) (x : List Nat) : KR := match cutAt 61 x with
  | [k, v] => if v = [] then .err "IndexError" else .val (dput ps (T k) (T (unq v)))
  | _ => .err "ValueError"
def keqv : List (Str × Str) → List (List Nat) → KR
  | ps, [] => .val ps
  | ps, x :: xs => match keqv1 ps x with
    | .val ps' => keqv ps' xs
    | .err c => .err c

def texts (xs : List (List Nat)) : List PyData := xs.map fun x => .str (T x)
theorem texts_atoms (xs : List (List Nat)) : atoms (texts xs) = true := by induction xs with | nil => rfl | cons n ns ih => simpa [texts, atoms, atom] using ih

theorem cutAt_cases (c : Nat) (l : List Nat) : cutAt c l = [l] ∨ ∃ k v, cutAt c l = [k, v] ∧ k.length ≤ l.length ∧ v.length ≤ l.length := by
  unfold cutAt
  split
  · refine .inr ⟨_, _, rfl, ?_, ?_⟩
    · exact (List.takeWhile_sublist _).length_le
    · rw [List.length_drop]
      have := (List.dropWhile_sublist (fun x => x != c) (l := l)).length_le
      omega
  · exact .inl rfl
theorem dput_length (ps : List (Str × Str)) (k y : Str) : (dput ps k y).length ≤ ps.length + 1 := by
  unfold dput; split <;> simp

theorem charAt_T0 (l : List Nat) : Txt.charAt (T l) 0 = l.head? := by
  unfold Txt.charAt
  cases l with
  | nil => rfl
  | cons a r =>
    have : seqIndex? 0 (T (a :: r)).length = some 0 := by simp [seqIndex?, Str.length]
    rw [this]; rfl
theorem charAt_Tlast (l : List Nat) : Txt.charAt (T l) (-1) = l.getLast? := by
  unfold Txt.charAt
  cases l with
  | nil => rfl
  | cons a r =>
    have : seqIndex? (-1) (T (a :: r)).length = some r.length := by
      simp [seqIndex?, Str.length]; omega
    rw [this]
    simp [List.getLast?_eq_getElem?]
theorem item_T {l : List Nat} {i : Int} {c : Nat} (h : Txt.charAt (T l) i = some c) : Txt.item (T l) i = T [c] := by
  unfold Txt.item; rw [h]; rfl
theorem T_one_beq (a b : Nat) : (T [a] == T [b]) = (a == b) := by
  rw [Bool.eq_iff_iff, beq_iff_eq, beq_iff_eq, T_inj]; simp

theorem size_small {n : Nat} (h : n ≤ 5000) : n ≤ sizeLine := Nat.le_trans h (by decide)

abbrev actOf {a : Act} (_ : a.Ok) : Act := a

theorem keqv_ex {D : Wd} {A : Around} {fd : FuncData} {L fa : Addr} {stk : List Env} {H1 : Heap} {args : List Addr} {n : Nat} (O : (mkAct D A fd L fa stk H1 args n).Ok) (hfd : fd.scope = defScope (S2 1))
    {xs : List (List Nat)} (hx : ∀ x ∈ xs, x.length ≤ 1000) (hxs : xs.length ≤ 1000) (E : Value → Shared → Prop) (m : Str → Option Value) (fp : Str → List Addr) (s1 : Shared) (Q : Flow → Shared → Prop)
    (hs : Sat (mkAct D A fd L fa stk H1 args n) (slots ["l"] [.list (texts xs)]) m fp H1 s1.heap)
    (k3 : ∀ ρ' m' fp' v d as h tk, RetOk (mkAct D A fd L fa stk H1 args n) ρ' m' fp' H1 h v d as → (∃ ps, keqv [] xs = .val ps ∧ d = .dict (ps.map sPair)) → Q (.ret v) { s1 with heap := h, toks := tk })
    (hE : ∀ e c a0 h tk, keqv [] xs = .err c → Heap.HeldW (hideAll H1 (framesOf (callEnv fd L fa :: stk))) (callEnv fd L fa :: stk) e (.type c) a0 L h → H1.UpToSlots h → E (.ref e) { s1 with heap := h, toks := tk }) :
    wpAny (mkAct D A fd L fa stk H1 args n).M (mkAct D A fd L fa stk H1 args n).A (execs (defBody (S2 1)) (mkAct D A fd L fa stk H1 args n).env) Q E s1 := by
  obtain ⟨name, qualname, params, body, scope, globals, closure, dv, kv, doc, pm, an, cd, ct, bt⟩ := fd
  dsimp only at hfd
  subst hfd
  refine wpAny_execs_cons (Ex1.go (N := fun ρ' => ρ'.look "parsed" = some ⟨.dict [], true⟩ ∧ ρ'.look "l" = some ⟨.list (texts xs), false⟩) (R := fun _ _ => False) (C := fun _ => False) (Ex1.assign O true (Ev.dict0 O ⟨by decide, fun _ => ⟨rfl, rfl, rfl⟩, by ((repeat' (first | exact Mine.Ro.set_get _ _ _ | refine Mine.Ro.set_other (by decide) ?_ | assumption | rfl)); done), by ((repeat' (first | exact Mine.Ro.set_get _ _ _ | refine Mine.Ro.set_other (by decide) ?_ | assumption | rfl)); done)⟩)) hs (fun ρ1 m1 fp1 h1 tk1 hs1 p1 => ?_) (fun _ _ _ _ _ _ p => p.elim) (fun _ _ _ _ _ _ _ _ _ p => p.elim))
  obtain ⟨p1, p2⟩ := p1
  refine wpAny_execs_cons (forListX (g := H1) (N := fun ρ' => ∃ ps, ρ'.look "parsed" = some ⟨.dict (ps.map sPair), true⟩ ∧ keqv [] xs = .val ps) (R := fun _ _ => False) (xs := texts xs) O []
    (fun rest ρ' => ∃ ps xs', rest = texts xs' ∧ ρ'.look "parsed" = some ⟨.dict (ps.map sPair), true⟩ ∧ keqv [] xs = keqv ps xs' ∧ (∀ x ∈ xs', x.length ≤ 1000) ∧ ps.length + xs'.length ≤ 1000)
    (fun ρ' ⟨ps, xs', e, h1, h2, _⟩ => ⟨ps, h1, ?_⟩) ?_ hs1 (fun _ z => nomatch z) (fun _ z => nomatch z) (fun _ z => nomatch z) ?_ (fun ρ2 m2 fp2 h2 tk2 hs2 _ p => ?_) (fun _ _ _ _ _ _ _ _ _ p => p.elim))
  · cases xs' with
    | nil => rw [h2]; rfl
    | cons _ _ => cases e
  · -- a turn
    rintro x' rest ρ' ⟨ps, xs', e, hps, hk, hlen, hsum⟩ m' fp' g' h0 tk0 v as Q' hs' _ _ rd' fo' up kn kr
    cases xs' with
    | nil => cases e
    | cons x xr =>
    obtain ⟨rfl, rfl⟩ : x' = .str (T x) ∧ rest = texts xr := by
      have := e; unfold texts at this; rw [List.map_cons] at this
      exact ⟨(List.cons.inj this).1, (List.cons.inj this).2⟩
    have hxl := hlen x (.head _)
    refine Asg.go (s := { s1 with heap := h0, toks := tk0 }) (N := fun ρ2 => ρ2.look "elt" = some ⟨.str (T x), false⟩ ∧ ρ2.look "parsed" = some ⟨.dict (ps.map sPair), true⟩) (Asg.name O ⟨by ((repeat' (first | exact Mine.Ro.set_get _ _ _ | refine Mine.Ro.set_other (by decide) ?_ | assumption | rfl)); done), by ((repeat' (first | exact Mine.Ro.set_get _ _ _ | refine Mine.Ro.set_other (by decide) ?_ | assumption | rfl)); done)⟩) hs' rd' fo' fun ρ2 m2 fp2 h2 tk2 hs2 p2 => ?_
    obtain ⟨q1, q2⟩ := p2
    have spl : ∀ {P : PyData → Nat → Prop} {E' : Value → Shared → Prop} {pos apos a1 a2 a3 : Pos} {kk1 kk2 : Nat}, P (.list ((cutAt 61 x).map fun y => .str (T y))) 2 → (apos.endLine == pos.line) = true → Ev (actOf O) E' ρ2 (.Call (.Attribute (.Name "elt" a3) "split" apos) [.Constant (.str "=") kk1 a1, .Constant (.int 1) kk2 a2] [] pos) P := by
      intro P E' pos apos a1 a2 a3 kk1 kk2 hp hline
      refine Ev.split O (Ev.name O q1 ⟨T x, rfl, ?_, ?_⟩) (hline := hline)
      · rw [T_length]; exact size_small (by omega)
      · have : Txt.splitMax (T x) (Str.ofString "=") 1 = (cutAt 61 x).map T := split_T (c := 61) (by decide) x
        rw [this, List.map_map]; exact hp
    rcases cutAt_cases 61 x with hc | ⟨k, v', hc, hkl, hvl⟩
    · -- no =
      refine wpAny_execs_cons (Assign_Tuple (Ev.go (spl (P := fun d f => d = .list [.str (T x)]) (by rw [hc]; rfl) rfl) hs2 fun v3 d3 f3 as3 h3 tk3 r3 p3 => ?_) rfl rfl)
      subst p3
      obtain ⟨l, vs, nn, bs, rfl, rfl, ho, q⟩ := r3.rd.list_inv
      obtain ⟨u, rfl⟩ : ∃ u, vs = [u] := len_one q.length
      rw [arm_assign_Tuple]
      refine wpAny_bind (wpAny_standAt ?_)
      unfold PySem.unpack
      refine wpAny_bind (wpAny_holding (unpackItems_list1 O.hd ⟨_, ho, rfl, nn, rfl⟩ fun h4 h5 tk5 ex kp hx => ?_))
      have gx : Ext _ H1 h4 := up _ ((r3.sat.gx).trans kp.ext)
      refine loop_raise (outer := stk) O rfl rfl gx (r3.sat.ff.ext kp.ext (F' := [])) hx fun a0 h6 held us => ?_
      refine hE ex "ValueError" a0 h6 _ ?_ held us
      rw [hk]
      show (match keqv1 ps x with | .val ps' => keqv ps' xr | .err c => KR.err c) = _
      rw [keqv1, hc]
    · have loc : ∀ z ∈ [("k" : Str), "v"], (actOf O).env.kindOf z = some .local ∧ (actOf O).pinN ≠ some z := by
        intro z hz
        simp only [List.mem_cons, List.not_mem_nil, or_false] at hz
        rcases hz with rfl | rfl <;> exact ⟨rfl, nofun⟩
      refine wpAny_execs_cons (Ex1.go (N := fun ρ3 => ρ3.look "k" = some ⟨.str (T k), false⟩ ∧ ρ3.look "v" = some ⟨.str (T v'), false⟩ ∧ ρ3.look "parsed" = some ⟨.dict (ps.map sPair), true⟩) (R := fun _ _ => False) (C := fun _ => False)
        (Ex1.unpack2 (x := "k") (y := "v") O (spl ⟨by decide, _, _, by rw [hc]; rfl, by ((repeat' (first | exact Mine.Ro.set_get _ _ _ | refine Mine.Ro.set_other (by decide) ?_ | assumption | rfl)); done), by ((repeat' (first | exact Mine.Ro.set_get _ _ _ | refine Mine.Ro.set_other (by decide) ?_ | assumption | rfl)); done), by ((repeat' (first | exact Mine.Ro.set_get _ _ _ | refine Mine.Ro.set_other (by decide) ?_ | assumption | rfl)); done)⟩ rfl) (hl := loc)) hs2 (fun ρ3 m3 fp3 h3 tk3 hs3 p3 => ?_) (fun _ _ _ _ _ _ p => p.elim) (fun _ _ _ _ _ _ _ _ _ p => p.elim))
      obtain ⟨z1, z2, z3⟩ := p3
      by_cases hv : v' = []
      · subst hv
        refine wpAny_execs_cons (wpAny_If (wpAny_isTrue_BoolOp (wpAny_allTrue_And_cons (wpAny_isTrue_Compare1 (Subscript_Constant (Ev.go (P := fun d _ => d = .str (T [])) (Ev.name O z2 rfl) hs3 fun v4 d4 f4 as4 h4 tk4 r4 p4 => ?_))))))
        subst p4
        obtain ⟨⟨t4, rfl⟩, _⟩ := r4.rd.str_inv
        refine wpAny_Constant_int ⟨"str", _, F.slot_str_getitem.lookup, typeIs_str _ _ _, getItem_meets (typeIs_str _ _ _) (by decide) F.slot_str_getitem F.entry_str_getitem (F.args_str_getitem_2 _ _) (raises_str_getitem (T []) 0 _ _ (by decide) rfl) ⟨O.hd, fun h5 tk5 ex hx => ?_⟩⟩
        have gx : Ext _ H1 h4 := up _ r4.sat.gx
        refine loop_raise (outer := stk) O rfl rfl gx r4.sat.ff hx fun a0 h6 held us => ?_
        refine hE ex "IndexError" a0 h6 _ ?_ held us
        rw [hk]
        show (match keqv1 ps x with | .val ps' => keqv ps' xr | .err c => KR.err c) = _
        rw [keqv1, hc]; rfl
      · refine Ex.go (N := fun ρ' => ∃ ps xs', texts xr = texts xs' ∧ ρ'.look "parsed" = some ⟨.dict (ps.map sPair), true⟩ ∧ keqv [] xs = keqv ps xs' ∧ (∀ x ∈ xs', x.length ≤ 1000) ∧ ps.length + xs'.length ≤ 1000) (R := fun _ _ => False) (C := fun _ => False) ?_ hs3 (fun ρ' m' fp' h tk q p => (kn ρ' m' fp' h tk q (fun _ z => nomatch z) p).1) (fun _ _ _ _ _ _ p => p.elim) (fun _ _ _ _ _ _ _ _ _ p => p.elim)
        have hps' : (dput ps (T k) (T (unq v'))).length + xr.length ≤ 1000 := by
          have := dput_length ps (T k) (T (unq v')); simp only [List.length_cons] at hsum; omega
        have hkk : keqv [] xs = keqv (dput ps (T k) (T (unq v'))) xr := by
          rw [hk]
          show (match keqv1 ps x with | .val ps' => keqv ps' xr | .err c => KR.err c) = _
          rw [keqv1, hc]; simp only [hv, if_false]
        have hvs : (T v').length ≤ sizeLine := by rw [T_length]; exact size_small (by omega)
        cases v' with
        | nil => exact absurd rfl hv
        | cons a0 r0 =>
        obtain ⟨cl, hcl⟩ : ∃ cl, (a0 :: r0).getLast? = some cl := ⟨_, List.getLast?_cons⟩
        have e0 : Txt.charAt (T (a0 :: r0)) 0 = some a0 := charAt_T0 _
        have el : Txt.charAt (T (a0 :: r0)) (-1) = some cl := by rw [charAt_Tlast, hcl]
        have q34 : (Str.ofString "\"") = T [34] := rfl
        refine Ex.cons (Ex1.ifs (EvT.bool ?_))
        refine EvT.cmp O (Ev.item O (Ev.name O z2 ⟨fun q => absurd q (by decide), Ev.int ⟨by rw [e0]; rfl, by decide, by decide, Ev.str ?_⟩⟩))
        show (if (Txt.item (T (a0 :: r0)) 0 == (Str.ofString "\"")) = (BoolOp.And == BoolOp.And) then _ else _)
        rw [item_T e0, q34, T_one_beq]
        by_cases h0 : a0 = 34
        · rw [if_pos (by simp [h0])]
          refine EvT.cmp O (Ev.item O (Ev.name O z2 ⟨fun q => absurd q (by decide), Ev.neg O ⟨by rw [el]; rfl, by decide, by decide, Ev.str ?_⟩⟩))
          show (if (Txt.item (T (a0 :: r0)) (-1) == (Str.ofString "\"")) = (BoolOp.And == BoolOp.And) then _ else _)
          rw [item_T el, q34, T_one_beq]
          by_cases h1 : cl = 34
          · rw [if_pos (by simp [h1])]
            have hu : unq (a0 :: r0) = pySl (a0 :: r0) (some 1) (some (-1)) := by unfold unq; rw [if_pos ⟨by simp [h0], by rw [hcl, h1]⟩]
            show Ex _ _ _ _ _ _ _
            refine Ex.cons (Ex1.assign O false (Ev.slice O (Ev.name O z2 ?_)))
            refine Ev.int ⟨1, rfl, Ev.neg O ⟨-1, rfl, hvs, by decide, (fun q => nomatch q), ?_⟩⟩
            refine Ex.nil (Ex.cons (Ex1.setItem O (by ((repeat' (first | exact Mine.Ro.set_get _ _ _ | refine Mine.Ro.set_other (by decide) ?_ | assumption | rfl)); done)) (Ev.name O (Ro.set_get _ _ _) ⟨T (unq (a0 :: r0)), ?_, Ev.name O (by ((repeat' (first | exact Mine.Ro.set_get _ _ _ | refine Mine.Ro.set_other (by decide) ?_ | assumption | rfl)); done)) ⟨T k, rfl, size_small (by omega), Ex.nil ⟨_, xr, rfl, Ro.set_get _ _ _, hkk, fun x hx => hlen x (.tail _ hx), hps'⟩⟩⟩)))
            rw [hu]
          · rw [if_neg (by simp [h1])]
            have hu : unq (a0 :: r0) = a0 :: r0 := by unfold unq; rw [if_neg fun q => h1 (by have := q.2; rw [hcl] at this; simpa using this)]
            rw [hu] at hkk hps'
            have : (cl == 34) = false := by simp [h1]
            rw [this]
            refine Ex.nil (Ex.cons (Ex1.setItem O z3 (Ev.name O z2 ⟨_, rfl, Ev.name O z1 ⟨_, rfl, size_small (by omega), Ex.nil ⟨_, xr, rfl, Ro.set_get _ _ _, hkk, fun x hx => hlen x (.tail _ hx), hps'⟩⟩⟩)))
        · rw [if_neg (by simp [h0])]
          have hu : unq (a0 :: r0) = a0 :: r0 := by unfold unq; rw [if_neg fun q => h0 (by have := q.1; simpa using this)]
          rw [hu] at hkk hps'
          have : (a0 == 34) = false := by simp [h0]
          rw [this]
          refine Ex.nil (Ex.cons (Ex1.setItem O z3 (Ev.name O z2 ⟨_, rfl, Ev.name O z1 ⟨_, rfl, size_small (by omega), Ex.nil ⟨_, xr, rfl, Ro.set_get _ _ _, hkk, fun x hx => hlen x (.tail _ hx), hps'⟩⟩⟩)))
  · refine Ev.name O p2 ⟨by decide, rfl, texts_atoms _, [], xs, rfl, p1, rfl, hx, by simpa using hxs⟩
  · obtain ⟨ps, hps, hk⟩ := p
    refine Ex.go (N := fun _ => False) (R := fun _ d => d = .dict (ps.map sPair)) (C := fun _ => False) (Ex.cons (Ex1.ret O (Ev.name O hps rfl))) hs2 (fun _ _ _ _ _ _ p => p.elim) (fun _ _ _ _ _ _ p => p.elim) fun ρ' m' fp' v d as h tk r p => k3 ρ' m' fp' v d as h tk r ⟨ps, hk, p⟩
end Mine
end

section
open PySem PySem.W PySem.Calls PyProof.Rows
set_option maxRecDepth 100000
set_option autoImplicit false
set_option linter.unusedVariables false
namespace Mine

structure PS where
  res : List (List Nat)
  part : List Nat
  esc : Bool
  quote : Bool
def pstep (s : PS) (c : Nat) : PS :=
  if s.esc then { s with part := s.part ++ [c], esc := false }
  else if s.quote then (if c = 92 then { s with esc := true } else if c = 34 then { s with quote := false, part := s.part ++ [c] } else { s with part := s.part ++ [c] })
  else if c = 44 then { s with res := s.res ++ [s.part], part := [] }
  else if c = 34 then { s with quote := true, part := s.part ++ [c] } else { s with part := s.part ++ [c] }
def pend (s : PS) : List (List Nat) := (if s.part = [] then s.res else s.res ++ [s.part]).map stripL
def httpL (l : List Nat) : List (List Nat) := pend (l.foldl pstep ⟨[], [], false, false⟩)

def PS.fits (s : PS) (k : Nat) : Prop := s.part.length + k ≤ 1000 ∧ s.res.length + k ≤ 1000 ∧ ∀ r ∈ s.res, r.length ≤ 1000
theorem PS.fits.step {s : PS} {c k : Nat} (h : s.fits (k + 1)) : (pstep s c).fits k := by
  obtain ⟨h1, h2, h3⟩ := h
  unfold pstep
  split
  · exact ⟨by simp; omega, by simp; omega, h3⟩
  · split
    · split
      · exact ⟨by simp; omega, by simp; omega, h3⟩
      · split
        · exact ⟨by simp; omega, by simp; omega, h3⟩
        · exact ⟨by simp; omega, by simp; omega, h3⟩
    · split
      · refine ⟨by simp; omega, by simp; omega, fun r hr => ?_⟩
        rcases List.mem_append.mp hr with hr | hr
        · exact h3 r hr
        · rw [List.mem_singleton.mp hr]; omega
      · split
        · exact ⟨by simp; omega, by simp; omega, h3⟩
        · exact ⟨by simp; omega, by simp; omega, h3⟩

theorem signs_T (l : List Nat) : signs (T l) = l.map fun c => .str (T [c]) := by unfold signs; simp
theorem texts_snoc (xs : List (List Nat)) (x : List Nat) : texts xs ++ [.str (T x)] = texts (xs ++ [x]) := by unfold texts; simp
theorem texts_length (xs : List (List Nat)) : (texts xs).length = xs.length := by unfold texts; simp
theorem stripL_length (l : List Nat) : (stripL l).length ≤ l.length := by
  unfold stripL rstripL
  rw [List.length_reverse]
  have h1 := (List.dropWhile_sublist sp (l := (l.dropWhile sp).reverse)).length_le
  have h2 := (List.dropWhile_sublist sp (l := l)).length_le
  simp only [List.length_reverse] at h1
  omega

/-- the state of the loop in its frame -/
def HJ (L : List Nat) (rest : List PyData) (ρ : Ro) : Prop := ∃ (l : List Nat) (st : PS), rest = l.map (fun c => PyData.str (T [c])) ∧ ρ.look "res" = some ⟨.list (texts st.res), true⟩ ∧ ρ.look "part" = some ⟨.str (T st.part), false⟩ ∧ ρ.look "escape" = some ⟨.bool st.esc, false⟩ ∧ ρ.look "quote" = some ⟨.bool st.quote, false⟩ ∧
  l.foldl pstep st = L.foldl pstep ⟨[], [], false, false⟩ ∧ st.fits l.length

theorem comp_strip (a : Act) (O : a.Ok) {scope : Scope} {px p1 p2 p3 : Pos} (hs : scope = { kind := .function, names := [(".0", .local), ("part", .local)], isGenerator := false, isCoroutine := false, more := [] }) {xs : List (List Nat)} (hx : ∀ x ∈ xs, x.length ≤ 1000) (h2 : (p1.endLine == p2.line) = true) :
    ∀ x ∈ texts xs, CompTurn a scope [] (.Name "part" px) (.Call (.Attribute (.Name "part" p3) "strip" p1) [] [] p2) [] (fun _ => true) (fun d => match d with | .str x => .str (Txt.strip x) | d => d) x := by
  subst hs
  intro d hd C H1 args O' E'
  obtain ⟨x, hx', rfl⟩ := List.mem_map.mp hd
  refine Asg.name O' ?_
  intro m fp g s Q hs K
  refine wpAny_tests_nil (K true s.heap s.toks hs (Ext.refl _ _) ⟨rfl, fun _ => ?_⟩)
  exact Ev.strip O' (Ev.name O' (Ro.set_get _ _ _) ⟨T x, rfl, by rw [T_length]; exact size_small (Nat.le_trans (hx x hx') (by decide)), rfl⟩) (hline := h2)

theorem comp_strip_ev {a : Act} (O : a.Ok) {E : Value → Shared → Prop} {ρ : Ro} {P : PyData → Nat → Prop} {px p1 p2 p3 p4 pos : Pos} {scope : Scope} {xs : List (List Nat)} {o : Bool} (hr : ρ.look "res" = some ⟨.list (texts xs), o⟩) (hx : ∀ x ∈ xs, x.length ≤ 1000) (hxs : xs.length ≤ 2000)
    (hp : P (.list (texts (xs.map stripL))) 2)
    (hs : scope = { kind := .function, names := [(".0", .local), ("part", .local)], isGenerator := false, isCoroutine := false, more := [] } := by rfl) (h2 : (p1.endLine == p2.line) = true := by rfl)
    (hl : a.env.kindOf "res" = some .local := by rfl) (hsh : CompShape a scope [] := by exact ⟨rfl, by decide, rfl, by decide⟩) :
    Ev a E ρ (.ListComp (.Call (.Attribute (.Name "part" p3) "strip" p1) [] [] p2) [⟨.Name "part" px, .Name "res" p4, [], 0⟩] scope pos) P := by
  have hm : (List.map (fun d => match d with | .str x => .str (Txt.strip x) | d => d) (List.filter (fun _ => true) (texts xs))) = texts (xs.map stripL) := by
    rw [List.filter_eq_self.mpr fun _ _ => rfl]
    unfold texts
    rw [List.map_map, List.map_map]
    refine List.map_congr_left fun x _ => ?_
    show PyData.str (Txt.strip (T x)) = PyData.str (T (stripL x))
    rw [strip_T]
  refine Ev.comp O hsh (Ev.name (d := .list (texts xs)) (o := o) O hr ⟨texts xs, _, _, rfl, .inl ⟨_, _, rfl⟩, by rw [texts_length]; exact size_small (by omega), comp_strip _ O hs hx h2, ?_⟩ hl)
  rw [hm, if_pos (texts_atoms _)]
  exact hp

theorem Ex1.augText {a : Act} {E : Value → Shared → Prop} {ρ : Ro} {N C : Ro → Prop} {R : Ro → PyData → Prop} (O : a.Ok) {x : Str} {np pos : Pos} {value : Expr} {u : List Nat} {o : Bool} (hx : ρ.lookup x = some ⟨.str (T u), o⟩)
    (h : Ev a E ρ value fun d _ => ∃ y, d = .str (T y) ∧ u.length + y.length ≤ sizeLine ∧ N (ρ.set x ⟨.str (T (u ++ y)), false⟩))
    (hl : a.env.kindOf x = some .local := by rfl) (hp : a.pinN ≠ some x := by first | exact nofun | exact pin_ne (by rfl)) : Ex1 a E ρ (.AugAssign (.Name x np) .Add value pos) N R C :=
  Ex1.aug (d0 := .str (T u)) (o0 := o) O hx (Run.mono h fun d f ⟨y, e, h1, h2⟩ => by subst e; exact ⟨by rw [T_length, T_length]; exact h1, by rw [T_append]; exact h2⟩) hl hp

theorem http_ex {D : Wd} {A : Around} {fd : FuncData} {L fa : Addr} {stk : List Env} {H1 : Heap} {args : List Addr} {n : Nat} (O : (mkAct D A fd L fa stk H1 args n).Ok) (hfd : fd.scope = defScope (S2 2)) (E : Value → Shared → Prop)
    {l : List Nat} (hl : l.length ≤ 1000) :
    Ex (mkAct D A fd L fa stk H1 args n) E (slots ["s"] [.str (T l)]) (defBody (S2 2)) (fun _ => False) (fun _ d => d = .list (texts (httpL l))) (fun _ => False) := by
  obtain ⟨name, qualname, params, body, scope, globals, closure, dv, kv, doc, pm, an, cd, ct, bt⟩ := fd
  dsimp only at hfd
  subst hfd
  have q44 : (Str.ofString ",") = T [44] := rfl
  have q34 : (Str.ofString "\"") = T [34] := rfl
  have q92 : (Str.ofString "\\") = T [92] := rfl
  refine Ex.cons (Ex1.assign O true (Ev.list O (EvL.nil ⟨by decide, by decide, by decide, fun _ => ⟨rfl, rfl, rfl⟩, ?_⟩)))
  refine Ex.cons (Ex1.assign O false (Ev.str ⟨by decide, nofun, ?_⟩))
  refine Ex.cons (Ex1.assign2 O (Ev.bool ⟨rfl, ?_⟩))
  refine Ex.cons (Ex1.forIn O (HJ l) (fun x rest ρ' hJ => ?_) (fun ρ' hJ => ?_) ?_)
  · obtain ⟨l', st, e, r1, r2, r3, r4, hf, hfit⟩ := hJ
    cases l' with
    | nil => cases e
    | cons c l' =>
    rw [List.map_cons] at e
    obtain ⟨rfl, rfl⟩ := List.cons.inj e
    have fit' := hfit.step (c := c)
    have hf' : l'.foldl pstep (pstep st c) = l.foldl pstep ⟨[], [], false, false⟩ := hf
    have hp1 : st.part.length + [c].length ≤ sizeLine := by
      have := hfit.1; simp only [List.length_cons, List.length_nil] at this ⊢; exact size_small (by omega)
    have fin : ∀ ρ2 : Ro, ρ2.look "res" = some ⟨.list (texts (pstep st c).res), true⟩ → ρ2.look "part" = some ⟨.str (T (pstep st c).part), false⟩ → ρ2.look "escape" = some ⟨.bool (pstep st c).esc, false⟩ → ρ2.look "quote" = some ⟨.bool (pstep st c).quote, false⟩ →
        HJ l (l'.map fun c => PyData.str (T [c])) ρ2 := fun ρ2 a1 a2 a3 a4 => ⟨l', _, rfl, a1, a2, a3, a4, hf', fit'⟩
    refine Asg.name O ?_
    refine Ex.cons (Ex1.ifs (EvT.val O (Ev.name O (by ((repeat' (first | exact Mine.Ro.set_get _ _ _ | refine Mine.Ro.set_other (by decide) ?_ | assumption | rfl)); done)) ?_)))
    show if st.esc = true then _ else _
    by_cases he : st.esc = true
    · rw [if_pos he]
      refine Ex.cons (Ex1.augText O (by ((repeat' (first | exact Mine.Ro.set_get _ _ _ | refine Mine.Ro.set_other (by decide) ?_ | assumption | rfl)); done)) (Ev.name (d := .str (T [c])) (o := false) O (by ((repeat' (first | exact Mine.Ro.set_get _ _ _ | refine Mine.Ro.set_other (by decide) ?_ | assumption | rfl)); done)) ⟨_, rfl, hp1, ?_⟩))
      refine Ex.cons (Ex1.assign O false (Ev.bool ⟨by decide, nofun, ?_⟩))
      refine Ex.cons (Ex1.cont (fin _ ?_ ?_ ?_ ?_))
      all_goals (unfold pstep; rw [if_pos he])
      · ((repeat' (first | exact Mine.Ro.set_get _ _ _ | refine Mine.Ro.set_other (by decide) ?_ | assumption | rfl)); done)
      · ((repeat' (first | exact Mine.Ro.set_get _ _ _ | refine Mine.Ro.set_other (by decide) ?_ | assumption | rfl)); done)
      · ((repeat' (first | exact Mine.Ro.set_get _ _ _ | refine Mine.Ro.set_other (by decide) ?_ | assumption | rfl)); done)
      · ((repeat' (first | exact Mine.Ro.set_get _ _ _ | refine Mine.Ro.set_other (by decide) ?_ | assumption | rfl)); done)
    · rw [if_neg he]
      have he' : st.esc = false := by simpa using he
      refine Ex.nil (Ex.cons (Ex1.ifs (EvT.val O (Ev.name O (by ((repeat' (first | exact Mine.Ro.set_get _ _ _ | refine Mine.Ro.set_other (by decide) ?_ | assumption | rfl)); done)) ?_))))
      show if st.quote = true then _ else _
      by_cases hq : st.quote = true
      · rw [if_pos hq]
        refine Ex.cons (Ex1.ifs (EvT.cmp O (Ev.name O (by ((repeat' (first | exact Mine.Ro.set_get _ _ _ | refine Mine.Ro.set_other (by decide) ?_ | assumption | rfl)); done)) (Ev.str ?_))))
        show if (T [c] == Str.ofString "\\") = true then _ else _
        rw [q92, T_one_beq]
        by_cases hc : c = 92
        · rw [if_pos (by simp [hc])]
          refine Ex.cons (Ex1.assign O false (Ev.bool ⟨by decide, nofun, ?_⟩))
          refine Ex.cons (Ex1.cont (fin _ ?_ ?_ ?_ ?_))
          all_goals (unfold pstep; rw [if_neg he, if_pos hq, if_pos hc]; ((repeat' (first | exact Mine.Ro.set_get _ _ _ | refine Mine.Ro.set_other (by decide) ?_ | assumption | rfl)); done))
        · rw [if_neg (by simp [hc])]
          refine Ex.cons (Ex1.ifs (EvT.cmp O (Ev.name O (by ((repeat' (first | exact Mine.Ro.set_get _ _ _ | refine Mine.Ro.set_other (by decide) ?_ | assumption | rfl)); done)) (Ev.str ?_))))
          show if (T [c] == Str.ofString "\"") = true then _ else _
          rw [q34, T_one_beq]
          by_cases hc2 : c = 34
          · rw [if_pos (by simp [hc2])]
            refine Ex.cons (Ex1.assign O false (Ev.bool ⟨by decide, nofun, ?_⟩))
            refine Ex.nil (Ex.nil (Ex.cons (Ex1.augText O (by ((repeat' (first | exact Mine.Ro.set_get _ _ _ | refine Mine.Ro.set_other (by decide) ?_ | assumption | rfl)); done)) (Ev.name (d := .str (T [c])) (o := false) O (by ((repeat' (first | exact Mine.Ro.set_get _ _ _ | refine Mine.Ro.set_other (by decide) ?_ | assumption | rfl)); done)) ⟨_, rfl, hp1, ?_⟩))))
            refine Ex.cons (Ex1.cont (fin _ ?_ ?_ ?_ ?_))
            all_goals (unfold pstep; rw [if_neg he, if_pos hq, if_neg hc, if_pos hc2])
            · ((repeat' (first | exact Mine.Ro.set_get _ _ _ | refine Mine.Ro.set_other (by decide) ?_ | assumption | rfl)); done)
            · ((repeat' (first | exact Mine.Ro.set_get _ _ _ | refine Mine.Ro.set_other (by decide) ?_ | assumption | rfl)); done)
            · ((repeat' (first | exact Mine.Ro.set_get _ _ _ | refine Mine.Ro.set_other (by decide) ?_ | assumption | rfl)); done)
            · ((repeat' (first | exact Mine.Ro.set_get _ _ _ | refine Mine.Ro.set_other (by decide) ?_ | assumption | rfl)); done)
          · rw [if_neg (by simp [hc2])]
            refine Ex.nil (Ex.nil (Ex.cons (Ex1.augText O (by ((repeat' (first | exact Mine.Ro.set_get _ _ _ | refine Mine.Ro.set_other (by decide) ?_ | assumption | rfl)); done)) (Ev.name (d := .str (T [c])) (o := false) O (by ((repeat' (first | exact Mine.Ro.set_get _ _ _ | refine Mine.Ro.set_other (by decide) ?_ | assumption | rfl)); done)) ⟨_, rfl, hp1, ?_⟩))))
            refine Ex.cons (Ex1.cont (fin _ ?_ ?_ ?_ ?_))
            all_goals (unfold pstep; rw [if_neg he, if_pos hq, if_neg hc, if_neg hc2])
            · ((repeat' (first | exact Mine.Ro.set_get _ _ _ | refine Mine.Ro.set_other (by decide) ?_ | assumption | rfl)); done)
            · ((repeat' (first | exact Mine.Ro.set_get _ _ _ | refine Mine.Ro.set_other (by decide) ?_ | assumption | rfl)); done)
            · ((repeat' (first | exact Mine.Ro.set_get _ _ _ | refine Mine.Ro.set_other (by decide) ?_ | assumption | rfl)); done)
            · ((repeat' (first | exact Mine.Ro.set_get _ _ _ | refine Mine.Ro.set_other (by decide) ?_ | assumption | rfl)); done)
      · rw [if_neg hq]
        refine Ex.nil (Ex.cons (Ex1.ifs (EvT.cmp O (Ev.name O (by ((repeat' (first | exact Mine.Ro.set_get _ _ _ | refine Mine.Ro.set_other (by decide) ?_ | assumption | rfl)); done)) (Ev.str ?_)))))
        show if (T [c] == Str.ofString ",") = true then _ else _
        rw [q44, T_one_beq]
        by_cases hc : c = 44
        · rw [if_pos (by simp [hc])]
          refine Ex.cons (Ex1.append O (by ((repeat' (first | exact Mine.Ro.set_get _ _ _ | refine Mine.Ro.set_other (by decide) ?_ | assumption | rfl)); done)) (Ev.name O (by ((repeat' (first | exact Mine.Ro.set_get _ _ _ | refine Mine.Ro.set_other (by decide) ?_ | assumption | rfl)); done)) ⟨by decide, ?_, ?_⟩))
          · rw [texts_length]; have := hfit.2.1; exact size_small (by omega)
          refine Ex.cons (Ex1.assign O false (Ev.str ⟨by decide, nofun, ?_⟩))
          refine Ex.cons (Ex1.cont (fin _ ?_ ?_ ?_ ?_))
          all_goals (unfold pstep; rw [if_neg he, if_neg hq, if_pos hc])
          · refine Ro.set_other (by decide) ?_; rw [texts_snoc]; exact Ro.set_get _ _ _
          · ((repeat' (first | exact Mine.Ro.set_get _ _ _ | refine Mine.Ro.set_other (by decide) ?_ | assumption | rfl)); done)
          · ((repeat' (first | exact Mine.Ro.set_get _ _ _ | refine Mine.Ro.set_other (by decide) ?_ | assumption | rfl)); done)
          · ((repeat' (first | exact Mine.Ro.set_get _ _ _ | refine Mine.Ro.set_other (by decide) ?_ | assumption | rfl)); done)
        · rw [if_neg (by simp [hc])]
          refine Ex.nil (Ex.cons (Ex1.ifs (EvT.cmp O (Ev.name O (by ((repeat' (first | exact Mine.Ro.set_get _ _ _ | refine Mine.Ro.set_other (by decide) ?_ | assumption | rfl)); done)) (Ev.str ?_)))))
          show if (T [c] == Str.ofString "\"") = true then _ else _
          rw [q34, T_one_beq]
          by_cases hc2 : c = 34
          · rw [if_pos (by simp [hc2])]
            refine Ex.cons (Ex1.assign O false (Ev.bool ⟨by decide, nofun, ?_⟩))
            refine Ex.nil (Ex.cons (Ex1.augText O (by ((repeat' (first | exact Mine.Ro.set_get _ _ _ | refine Mine.Ro.set_other (by decide) ?_ | assumption | rfl)); done)) (Ev.name (d := .str (T [c])) (o := false) O (by ((repeat' (first | exact Mine.Ro.set_get _ _ _ | refine Mine.Ro.set_other (by decide) ?_ | assumption | rfl)); done)) ⟨_, rfl, hp1, ?_⟩)))
            refine Ex.nil (fin _ ?_ ?_ ?_ ?_)
            all_goals (unfold pstep; rw [if_neg he, if_neg hq, if_neg hc, if_pos hc2])
            · ((repeat' (first | exact Mine.Ro.set_get _ _ _ | refine Mine.Ro.set_other (by decide) ?_ | assumption | rfl)); done)
            · ((repeat' (first | exact Mine.Ro.set_get _ _ _ | refine Mine.Ro.set_other (by decide) ?_ | assumption | rfl)); done)
            · ((repeat' (first | exact Mine.Ro.set_get _ _ _ | refine Mine.Ro.set_other (by decide) ?_ | assumption | rfl)); done)
            · ((repeat' (first | exact Mine.Ro.set_get _ _ _ | refine Mine.Ro.set_other (by decide) ?_ | assumption | rfl)); done)
          · rw [if_neg (by simp [hc2])]
            refine Ex.nil (Ex.cons (Ex1.augText O (by ((repeat' (first | exact Mine.Ro.set_get _ _ _ | refine Mine.Ro.set_other (by decide) ?_ | assumption | rfl)); done)) (Ev.name (d := .str (T [c])) (o := false) O (by ((repeat' (first | exact Mine.Ro.set_get _ _ _ | refine Mine.Ro.set_other (by decide) ?_ | assumption | rfl)); done)) ⟨_, rfl, hp1, ?_⟩)))
            refine Ex.nil (fin _ ?_ ?_ ?_ ?_)
            all_goals (unfold pstep; rw [if_neg he, if_neg hq, if_neg hc, if_neg hc2])
            · ((repeat' (first | exact Mine.Ro.set_get _ _ _ | refine Mine.Ro.set_other (by decide) ?_ | assumption | rfl)); done)
            · ((repeat' (first | exact Mine.Ro.set_get _ _ _ | refine Mine.Ro.set_other (by decide) ?_ | assumption | rfl)); done)
            · ((repeat' (first | exact Mine.Ro.set_get _ _ _ | refine Mine.Ro.set_other (by decide) ?_ | assumption | rfl)); done)
            · ((repeat' (first | exact Mine.Ro.set_get _ _ _ | refine Mine.Ro.set_other (by decide) ?_ | assumption | rfl)); done)
  · obtain ⟨l', st, e, r1, r2, r3, r4, hf, hfit⟩ := hJ
    obtain rfl : l' = [] := by cases l' with | nil => rfl | cons _ _ => cases e
    have hf' : st = l.foldl pstep ⟨[], [], false, false⟩ := hf
    refine Ex.cons (Ex1.ifs (EvT.val O (Ev.name (d := .str (T st.part)) (o := false) O (by ((repeat' (first | exact Mine.Ro.set_get _ _ _ | refine Mine.Ro.set_other (by decide) ?_ | assumption | rfl)); done)) ⟨by rw [T_length]; exact size_small (by have := hfit.1; omega), ?_⟩)))
    show if ((T st.part).length : Int) != 0 then _ else _
    by_cases hp : st.part = []
    · rw [if_neg (by rw [hp]; decide)]
      refine Ex.nil (Ex.cons (Ex1.ret O (comp_strip_ev O (xs := st.res) (o := true) (by ((repeat' (first | exact Mine.Ro.set_get _ _ _ | refine Mine.Ro.set_other (by decide) ?_ | assumption | rfl)); done)) hfit.2.2 (by have := hfit.2.1; omega) ?_)))
      unfold httpL pend; rw [← hf', if_pos hp]
    · rw [if_pos (by rw [T_length]; cases q : st.part with | nil => exact absurd q hp | cons a r => simp; omega)]
      refine Ex.cons (Ex1.append O (by ((repeat' (first | exact Mine.Ro.set_get _ _ _ | refine Mine.Ro.set_other (by decide) ?_ | assumption | rfl)); done)) (Ev.name O (by ((repeat' (first | exact Mine.Ro.set_get _ _ _ | refine Mine.Ro.set_other (by decide) ?_ | assumption | rfl)); done)) ⟨by decide, ?_, ?_⟩))
      · rw [texts_length]; have := hfit.2.1; exact size_small (by omega)
      refine Ex.nil (Ex.cons (Ex1.ret O (comp_strip_ev O (xs := st.res ++ [st.part]) (o := true) (by rw [← texts_snoc]; exact Ro.set_get _ _ _) (fun x hx => ?_) (by have := hfit.2.1; simp; omega) ?_)))
      · rcases List.mem_append.mp hx with hx | hx
        · exact hfit.2.2 x hx
        · rw [List.mem_singleton.mp hx]; have := hfit.1; omega
      · unfold httpL pend; rw [← hf', if_neg hp]
  · refine Ev.name (d := .str (T l)) (o := false) O (by ((repeat' (first | exact Mine.Ro.set_get _ _ _ | refine Mine.Ro.set_other (by decide) ?_ | assumption | rfl)); done)) ⟨by decide, ⟨_, _, rfl⟩, l, ⟨[], [], false, false⟩, signs_T l, by ((repeat' (first | exact Mine.Ro.set_get _ _ _ | refine Mine.Ro.set_other (by decide) ?_ | assumption | rfl)); done), by ((repeat' (first | exact Mine.Ro.set_get _ _ _ | refine Mine.Ro.set_other (by decide) ?_ | assumption | rfl)); done), by ((repeat' (first | exact Mine.Ro.set_get _ _ _ | refine Mine.Ro.set_other (by decide) ?_ | assumption | rfl)); done), by ((repeat' (first | exact Mine.Ro.set_get _ _ _ | refine Mine.Ro.set_other (by decide) ?_ | assumption | rfl)); done), rfl, by simpa using hl, by simpa using hl, fun r hr => nomatch hr⟩
end Mine
end

section
open PySem PySem.W PySem.Calls PyProof.Rows
open PySem.Builtin PySem.Builtin.Str
set_option maxRecDepth 100000
set_option autoImplicit false
set_option linter.unusedVariables false
namespace Mine

section
variable {a : Act} {E : Value → Shared → Prop} {ρ : Ro} {N C : Ro → Prop} {R : Ro → PyData → Prop} {P : PyData → Nat → Prop}

/-- if, the test known -/
theorem Ex1.ifB (b : Bool) {test : Expr} {body orelse : List Stmt} {pos : Pos} (h : EvT a E ρ test (· = b)) (ht : b = true → Ex a E ρ body N R C) (hf : b = false → Ex a E ρ orelse N R C) : Ex1 a E ρ (.If test body orelse pos) N R C := by
  refine Ex1.ifs (RunB.mono h fun c hc => ?_)
  subst hc
  cases c
  · exact hf rfl
  · exact ht rfl
/-- text == text -/
theorem EvT.eqText (O : a.Ok) {l r : Expr} {pos : Pos} {x y : List Nat} (hl : Ev a E ρ l fun d _ => d = .str (T x)) (hr : Ev a E ρ r fun d _ => d = .str (T y)) (hm : behindInMarks .Eq r = false := by with_unfolding_all rfl) :
    EvT a E ρ (.Compare l [.Eq] [r] pos) (· = decide (x = y)) := by
  refine EvT.cmp O (Run.mono hl fun d _ e => ?_) hm
  subst e
  refine Run.mono hr fun d _ e => ?_
  subst e
  show (T x == T y) = decide (x = y)
  rw [Bool.eq_iff_iff, beq_iff_eq, decide_eq_true_eq, T_inj]
theorem EvT.eqStr (O : a.Ok) {l r : Expr} {pos : Pos} {x y : Str} (hl : Ev a E ρ l fun d _ => d = .str x) (hr : Ev a E ρ r fun d _ => d = .str y) (hm : behindInMarks .Eq r = false := by with_unfolding_all rfl) :
    EvT a E ρ (.Compare l [.Eq] [r] pos) (· = decide (x = y)) := by
  refine EvT.cmp O (Run.mono hl fun d _ e => ?_) hm
  subst e
  refine Run.mono hr fun d _ e => ?_
  subst e
  show (x == y) = decide (x = y)
  rw [Bool.eq_iff_iff, beq_iff_eq, decide_eq_true_eq]

theorem seqIndex_lt {k n : Nat} (h : k < n) : seqIndex? (k : Int) n = some k := by
  unfold seqIndex?
  simp [show ¬ ((k : Int) < 0) by omega, h]
/-- a list's or tuple's item, from the front -/
theorem ItemOk.list {xs : List PyData} {k : Nat} {d : PyData} (h : xs[k]? = some d) (hk : k < 100000) (p : P d 1) : ItemOk (.list xs) (.int (k : Int)) P :=
  ⟨by omega, by omega, k, d, seqIndex_lt (List.getElem?_eq_some_iff.mp h).1, h, p⟩
theorem ItemOk.tuple {xs : List PyData} {k : Nat} {d : PyData} (h : xs[k]? = some d) (hk : k < 100000) (p : P d 1) : ItemOk (.tuple xs) (.int (k : Int)) P :=
  ⟨by omega, by omega, k, d, seqIndex_lt (List.getElem?_eq_some_iff.mp h).1, h, p⟩
/-- name[k] of a list -/
theorem Ev.nameItem (O : a.Ok) {x : Str} {p1 p2 pos : Pos} {k0 : Nat} {k : Nat} {xs : List PyData} {o : Bool} {d : PyData} (hx : ρ.look x = some ⟨.list xs, o⟩) (h : xs[k]? = some d) (hk : k < 100000) (p : P d 1)
    (hl : a.env.kindOf x = some .local := by rfl) (hd : (x == ("__debug__" : Str)) = false := by decide) : Ev a E ρ (.Subscript (.Name x p1) (.Constant (.int (k : Int)) k0 p2) pos) P :=
  Ev.item O (Ev.name O hx ⟨fun _ => ⟨xs, rfl⟩, Ev.int (ItemOk.list h hk p)⟩ hl hd)
end

theorem fmod_nat (i : Int) (k : Nat) (hk : 0 < k) : ∃ r : Nat, r < k ∧ i.fmod (k : Int) = (r : Int) := by
  have h0 := Int.fmod_nonneg_of_pos i (b := (k : Int)) (by omega)
  have h1 := Int.fmod_lt_of_pos i (b := (k : Int)) (by omega)
  exact ⟨(i.fmod k).toNat, by omega, by omega⟩

theorem rstripL_length (l : List Nat) : (rstripL l).length ≤ l.length := by
  unfold rstripL
  rw [List.length_reverse]
  have h1 := (List.dropWhile_sublist sp (l := l.reverse)).length_le
  simpa using h1

theorem join_T (l : List (List Nat)) : Txt.join (T []) (l.map T) = T l.flatten := by
  have key : ∀ (l : List (List Nat)) (acc : List Nat), (l.map T).foldl (fun acc p => acc ++ (T []).cps ++ p.cps) acc.toArray = (acc ++ l.flatten).toArray := by
    intro l
    induction l with
    | nil => intro acc; simp
    | cons a l ih =>
      intro acc
      rw [List.map_cons, List.foldl_cons]
      have : acc.toArray ++ (T []).cps ++ (T a).cps = (acc ++ a).toArray := by simp
      rw [this, ih]; simp
  cases l with
  | nil => rfl
  | cons a l =>
    show Str.mk (((T a :: l.map T).drop 1).foldl _ _) = _
    apply congrArg Str.mk
    have := key l a
    simpa using this
theorem joinOk_small (l : List (List Nat)) (h : ∀ x ∈ l, x.length ≤ 100) (hl : l.length ≤ 100) : JoinOk (T []) (l.map T) = true := by
  have key : ∀ (l : List (List Nat)) (acc : Nat), (∀ x ∈ l, x.length ≤ 100) → (l.map T).foldl (fun acc p => acc + p.length + (T []).length) acc ≤ acc + 100 * l.length := by
    intro l
    induction l with
    | nil => intro acc _; simp
    | cons a l ih =>
      intro acc h
      rw [List.map_cons, List.foldl_cons]
      have h2 := h a (.head _)
      refine Nat.le_trans (ih (acc + (T a).length + (T []).length) fun x hx => h x (.tail _ hx)) ?_
      rw [T_length]
      have h3 : (T []).length = 0 := rfl
      rw [h3]
      simp only [List.length_cons]
      omega
  unfold JoinOk tooLong
  rw [List.foldl_toArray]
  have := key l 0 h
  have hs : (5000 : Nat) ≤ sizeLine := by decide
  have h4 : 100 * l.length ≤ 10000 := by omega
  have hs2 : (10000 : Nat) ≤ sizeLine := by decide
  have : ¬ (List.foldl (fun acc p => acc + p.length + (T []).length) 0 (l.map T) > sizeLine) := by omega
  simpa using this

theorem nums_pySl (ns : List Int) (lo hi : Option Int) : pySl (nums ns) lo hi = nums (pySl ns lo hi) := by
  unfold pySl nums; rw [List.length_map, List.map_take, List.map_drop]
theorem nums_length (ns : List Int) : (nums ns).length = ns.length := by unfold nums; simp

theorem list4 {a0 a1 a2 a3 : PyData} {r : Nat} (hr : r < 4) (f : Nat → PyData) (h0 : a0 = f 0) (h1 : a1 = f 1) (h2 : a2 = f 2) (h3 : a3 = f 3) : [a0, a1, a2, a3][r]? = some (f r) := by
  subst h0; subst h1; subst h2; subst h3
  match r, hr with
  | 0, _ => rfl
  | 1, _ => rfl
  | 2, _ => rfl
  | 3, _ => rfl

theorem AllT.and {a : Act} {E : Value → Shared → Prop} {ρ : Ro} {x : Expr} {rest : List Expr} {bx br : Bool} (h : EvT a E ρ x (· = bx)) (h2 : bx = true → AllT a E ρ .And rest (· = br)) : AllT a E ρ .And (x :: rest) (· = (bx && br)) := by
  refine RunB.mono h fun b hb => ?_
  subst hb
  cases b
  · rw [if_neg (by decide)]; rfl
  · rw [if_pos (by decide)]; simpa using h2 rfl
theorem AllT.or {a : Act} {E : Value → Shared → Prop} {ρ : Ro} {x : Expr} {rest : List Expr} {bx br : Bool} (h : EvT a E ρ x (· = bx)) (h2 : bx = false → AllT a E ρ .Or rest (· = br)) : AllT a E ρ .Or (x :: rest) (· = (bx || br)) := by
  refine RunB.mono h fun b hb => ?_
  subst hb
  cases b
  · rw [if_pos (by decide)]; simpa using h2 rfl
  · rw [if_neg (by decide)]; rfl
theorem dropWhile_nil {α : Type} (p : α → Bool) : ∀ {l : List α}, l.dropWhile p = [] → ∀ x ∈ l, p x = true
  | [], _, _, h => nomatch h
  | a :: l, q, x, h => by
    by_cases ha : p a = true
    · rw [List.dropWhile_cons_of_pos ha] at q
      rcases List.mem_cons.mp h with rfl | h
      · exact ha
      · exact dropWhile_nil p q x h
    · rw [List.dropWhile_cons_of_neg ha] at q; cases q

/-- what is read, as a datum -/
def KR.dat : KR → PyData
  | .val ps => .list (ps.map fun p => .tuple [.str p.1, .str p.2])
  | .err c => .str (Str.ofString c)

/-! what the parser gives stays within its text -/
structure PInv (n : Nat) (S : List Nat) (st : PS) : Prop where
  part : st.part.length ≤ n
  res : st.res.length ≤ n
  each : ∀ r ∈ st.res, r.length ≤ n ∧ ∀ c ∈ r, c ∈ S
  codes : ∀ c ∈ st.part, c ∈ S
theorem PInv.step {n : Nat} {S : List Nat} {st : PS} {c : Nat} (h : PInv n S st) (hc : c ∈ S) : PInv (n + 1) S (pstep st c) := by
  obtain ⟨h1, h2, h3, h4⟩ := h
  have each' : ∀ r ∈ st.res, r.length ≤ n + 1 ∧ ∀ c ∈ r, c ∈ S := fun r hr => ⟨Nat.le_succ_of_le (h3 r hr).1, (h3 r hr).2⟩
  have add : ∀ c' ∈ st.part ++ [c], c' ∈ S := fun c' hc' => by
    rcases List.mem_append.mp hc' with q | q
    · exact h4 c' q
    · rw [List.mem_singleton.mp q]; exact hc
  have plus : PInv (n + 1) S { st with part := st.part ++ [c] } := ⟨by simp; omega, by simp; omega, each', add⟩
  unfold pstep
  split
  · exact ⟨plus.part, plus.res, plus.each, plus.codes⟩
  · split
    · split
      · exact ⟨by simp; omega, by simp; omega, each', h4⟩
      · split
        · exact ⟨plus.part, plus.res, plus.each, plus.codes⟩
        · exact plus
    · split
      · refine ⟨by simp, by simp; omega, fun r hr => ?_, fun c hc => nomatch hc⟩
        rcases List.mem_append.mp hr with q | q
        · exact each' r q
        · rw [List.mem_singleton.mp q]; exact ⟨by omega, h4⟩
      · split
        · exact ⟨plus.part, plus.res, plus.each, plus.codes⟩
        · exact plus
theorem PInv.run {S : List Nat} : ∀ (l : List Nat) {n : Nat} {st : PS}, PInv n S st → (∀ c ∈ l, c ∈ S) → PInv (n + l.length) S (l.foldl pstep st)
  | [], _, _, h, _ => h
  | c :: l, n, st, h, hl => by
    have := PInv.run l (h.step (hl c (.head _))) fun c' hc' => hl c' (.tail _ hc')
    rw [List.foldl_cons, List.length_cons, show n + (l.length + 1) = n + 1 + l.length by omega]
    exact this
theorem stripL_mem {l : List Nat} {c : Nat} (h : c ∈ stripL l) : c ∈ l := by
  unfold stripL rstripL at h
  rw [List.mem_reverse] at h
  have h1 := (List.dropWhile_sublist sp).subset h
  rw [List.mem_reverse] at h1
  exact (List.dropWhile_sublist sp).subset h1
theorem httpL_bound {l : List Nat} (hl : l.length ≤ 500) : (∀ x ∈ httpL l, x.length ≤ 500 ∧ ∀ c ∈ x, c ∈ l) ∧ (httpL l).length ≤ 501 := by
  have h := PInv.run (S := l) l (n := 0) (st := ⟨[], [], false, false⟩) ⟨by simp, by simp, by simp, by simp⟩ fun c hc => hc
  obtain ⟨h1, h2, h3, h4⟩ := h
  unfold httpL pend
  refine ⟨fun x hx => ?_, ?_⟩
  · obtain ⟨y, hy, rfl⟩ := List.mem_map.mp hx
    have hs := stripL_length y
    have key : y.length ≤ 0 + l.length ∧ ∀ c ∈ y, c ∈ l := by
      split at hy
      · exact h3 y hy
      · rcases List.mem_append.mp hy with q | q
        · exact h3 y q
        · rw [List.mem_singleton.mp q]; exact ⟨h1, h4⟩
    exact ⟨by omega, fun c hc => key.2 c (stripL_mem hc)⟩
  · rw [List.length_map]; split
    · omega
    · simp; omega

/-! sound code points -/
def Cp (l : List Nat) : Prop := ∀ c ∈ l, c < 0x110000
def CpStr (x : Str) : Prop := PyData.strOk x = true
theorem CpStr.of {l : List Nat} (h : Cp l) : CpStr (T l) := by
  unfold CpStr PyData.strOk
  rw [Array.all_eq_true]
  intro i hi
  simp only [decide_eq_true_eq]
  exact h _ (by simp)
def PsOk (ps : List (Str × Str)) : Prop := ∀ p ∈ ps, CpStr p.1 ∧ CpStr p.2
theorem PsOk.put {ps : List (Str × Str)} {k y : Str} (h : PsOk ps) (hk : CpStr k) (hy : CpStr y) : PsOk (dput ps k y) := by
  intro p hp
  unfold dput at hp
  split at hp
  · obtain ⟨q, hq, rfl⟩ := List.mem_map.mp hp
    split
    · exact ⟨(h q hq).1, hy⟩
    · exact h q hq
  · rcases List.mem_append.mp hp with q | q
    · exact h p q
    · rw [List.mem_singleton.mp q]; exact ⟨hk, hy⟩
theorem pySl_mem {l : List Nat} {lo hi : Option Int} {c : Nat} (h : c ∈ pySl l lo hi) : c ∈ l := by
  unfold pySl at h; exact List.mem_of_mem_drop (List.mem_of_mem_take h)
theorem unq_mem {l : List Nat} {c : Nat} (h : c ∈ unq l) : c ∈ l := by
  unfold unq at h
  split at h
  · exact pySl_mem h
  · exact h
theorem cutAt_mem {c0 : Nat} {l k v : List Nat} (h : cutAt c0 l = [k, v]) : (∀ c ∈ k, c ∈ l) ∧ ∀ c ∈ v, c ∈ l := by
  unfold cutAt at h
  split at h
  · simp only [List.cons.injEq, and_true] at h
    obtain ⟨rfl, rfl⟩ := h
    exact ⟨fun c hc => (List.takeWhile_sublist _).subset hc, fun c hc => (List.dropWhile_sublist _).subset (List.mem_of_mem_drop hc)⟩
  · cases h
theorem keqv_ok : ∀ (xs : List (List Nat)) {ps ps' : List (Str × Str)}, (∀ x ∈ xs, Cp x) → PsOk ps → keqv ps xs = .val ps' → PsOk ps' ∧ ps'.length ≤ ps.length + xs.length
  | [], ps, ps', _, h, e => by cases e; exact ⟨h, by simp⟩
  | x :: xs, ps, ps', hx, h, e => by
    rw [keqv] at e
    have hxx := hx x (.head _)
    cases q : keqv1 ps x with
    | err c => rw [q] at e; cases e
    | val ps1 =>
      rw [q] at e
      unfold keqv1 at q
      rcases cutAt_cases 61 x with hc | ⟨k, v, hc, _, _⟩
      · rw [hc] at q; cases q
      · rw [hc] at q
        simp only at q
        split at q
        · cases q
        · cases q
          have hm := cutAt_mem hc
          have r := keqv_ok xs (fun y hy => hx y (.tail _ hy)) (h.put (CpStr.of fun c hc => hxx c (hm.1 c hc)) (CpStr.of fun c hc => hxx c (hm.2 c (unq_mem hc)))) e
          refine ⟨r.1, ?_⟩
          have := dput_length ps (T k) (T (unq v))
          have := r.2
          simp only [List.length_cons]; omega
theorem keqv_err : ∀ (xs : List (List Nat)) {ps : List (Str × Str)} {c : String}, keqv ps xs = .err c → c = "ValueError" ∨ c = "IndexError"
  | [], ps, c, e => by cases e
  | x :: xs, ps, c, e => by
    rw [keqv] at e
    cases q : keqv1 ps x with
    | val ps1 => rw [q] at e; exact keqv_err xs e
    | err c' =>
      rw [q] at e; cases e
      unfold keqv1 at q
      rcases cutAt_cases 61 x with hc | ⟨k, v, hc, _, _⟩
      · rw [hc] at q; cases q; exact .inl rfl
      · rw [hc] at q
        simp only at q
        split at q
        · cases q; exact .inr rfl
        · cases q

/-! comparing -/
open SeqAt in
theorem shaped_texts {xs : List (List Nat)} (h : ∀ x ∈ xs, Cp x) : shaped (.list (texts xs)) = true := by
  have key : ∀ xs : List (List Nat), (∀ x ∈ xs, Cp x) → PyData.canLayAll0 (texts xs) = true ∧ PyData.depthAll (texts xs) = 0 := by
    intro xs
    induction xs with
    | nil => intro _; exact ⟨rfl, rfl⟩
    | cons x xs ih =>
      intro h
      obtain ⟨i1, i2⟩ := ih fun y hy => h y (.tail _ hy)
      have h0 : PyData.strOk (T x) = true := CpStr.of (h x (.head _))
      have e : texts (x :: xs) = .str (T x) :: texts xs := rfl
      rw [e]
      exact ⟨by simp [PyData.canLayAll0, PyData.canLay0, h0, i1], by simp [PyData.depthAll, PyData.depth, i2]⟩
  obtain ⟨k1, k2⟩ := key xs h
  unfold shaped
  simp [PyData.canLay0, PyData.depth, k1, k2]
open SeqAt in
theorem shaped_pairs {ps : List (Str × Str)} (h : PsOk ps) : shaped (.list (ps.map fun p => .tuple [.str p.1, .str p.2])) = true := by
  have key : ∀ ps : List (Str × Str), PsOk ps → PyData.canLayAll0 (ps.map fun p => .tuple [.str p.1, .str p.2]) = true ∧ PyData.depthAll (ps.map fun p => .tuple [.str p.1, .str p.2]) ≤ 1 := by
    intro ps
    induction ps with
    | nil => intro _; exact ⟨rfl, by decide⟩
    | cons p ps ih =>
      intro h
      obtain ⟨i1, i2⟩ := ih fun q hq => h q (.tail _ hq)
      obtain ⟨h1, h2⟩ := h p (.head _)
      have h1' : PyData.strOk p.1 = true := h1
      have h2' : PyData.strOk p.2 = true := h2
      rw [List.map_cons]
      refine ⟨by simp [PyData.canLayAll0, PyData.canLay0, h1', h2', i1], ?_⟩
      simp only [PyData.depthAll, PyData.depth]
      omega
  obtain ⟨k1, k2⟩ := key ps h
  unfold shaped
  simp only [PyData.canLay0, PyData.depth, k1, Bool.true_and]
  exact decide_eq_true (by omega)
mutual
theorem eqv_self : ∀ d : PyData, PyData.canLay0 d = true → PyData.eqv d d = true
  | .none, _ => by simp [PyData.eqv]
  | .bool _, _ => by simp [PyData.eqv]
  | .int _, _ => by simp [PyData.eqv]
  | .str _, _ => by simp [PyData.eqv]
  | .list xs, h => by simp only [PyData.eqv]; exact eqvAll_self xs (by simpa [PyData.canLay0] using h)
  | .tuple xs, h => by simp only [PyData.eqv]; exact eqvAll_self xs (by simpa [PyData.canLay0] using h)
  | .dict _, h => by simp [PyData.canLay0] at h
theorem eqvAll_self : ∀ ds : List PyData, PyData.canLayAll0 ds = true → PyData.eqvAll ds ds = true
  | [], _ => by simp [PyData.eqvAll]
  | d :: ds, h => by
    simp only [PyData.canLayAll0, Bool.and_eq_true] at h
    simp only [PyData.eqvAll, Bool.and_eq_true]
    exact ⟨eqv_self d h.1, eqvAll_self ds h.2⟩
end
theorem EqOk.list {xs : List PyData} {P : Bool → Prop} (h : SeqAt.shaped (.list xs) = true) (p : P true) : EqOk (.list xs) (.list xs) P :=
  ⟨h, h, by rw [eqv_self _ (SeqAt.canLay_of_shaped h)]; exact p⟩
theorem EqOk.kr {k : KR} {P : Bool → Prop} (h : ∀ ps, k = .val ps → PsOk ps) (p : P true) : EqOk k.dat k.dat P := by
  cases k with
  | val ps => exact EqOk.list (shaped_pairs (h ps rfl)) p
  | err c =>
    show P (Str.ofString c == Str.ofString c)
    rw [beq_self_eq_true]; exact p

def fullP : PyData → Bool
  | .str x => (x.length : Int) != 0
  | _ => false

def oneScope : Scope := { kind := .function, names := [(".0", .local), ("one", .local)], isGenerator := false, isCoroutine := false, more := [] }

theorem comp_one (a : Act) {px p1 p2 : Pos} (xs : List (List Nat)) (hx : ∀ x ∈ xs, x.length ≤ 1000) :
    ∀ x ∈ texts xs, CompTurn a oneScope [] (.Name "one" px) (.Name "one" p1) [.Name "one" p2] fullP id x := by
  intro d hd C H1 args O' E'
  obtain ⟨x, hx', rfl⟩ := List.mem_map.mp hd
  refine Asg.name O' ?_
  have t : EvT (compAct a oneScope [] C H1 args) E' (Ro.set [] "one" ⟨.str (T x), false⟩) (.Name "one" p2) (fun b => b = fullP (.str (T x))) :=
    EvT.val O' (Ev.name (d := .str (T x)) (o := false) O' (by ((repeat' (first | exact Mine.Ro.set_get _ _ _ | refine Mine.Ro.set_other (by decide) ?_ | assumption | rfl)); done)) ⟨by rw [T_length]; exact size_small (Nat.le_trans (hx x hx') (by decide)), rfl⟩)
  intro m fp g s Q hs K
  refine wpAny_tests_one (t m fp g s _ hs fun b h tk q e p => K b h tk q e ⟨p, fun _ => Ev.name (d := .str (T x)) (o := false) O' (by ((repeat' (first | exact Mine.Ro.set_get _ _ _ | refine Mine.Ro.set_other (by decide) ?_ | assumption | rfl)); done)) rfl⟩)
theorem filter_full (xs : List (List Nat)) : (texts xs).filter fullP = texts (xs.filter fun x => decide (x ≠ [])) := by
  induction xs with
  | nil => rfl
  | cons x xs ih =>
    have e : texts (x :: xs) = .str (T x) :: texts xs := rfl
    rw [e]
    have h : fullP (.str (T x)) = decide (x ≠ []) := by
      show ((((T x).length : Nat) : Int) != 0) = _
      rw [T_length, Bool.eq_iff_iff]
      cases x <;> simp <;> omega
    by_cases hx : x = []
    · rw [List.filter_cons_of_neg (by rw [h]; simp [hx]), List.filter_cons_of_neg (by simp [hx]), ih]
    · rw [List.filter_cons_of_pos (by rw [h]; simp [hx]), List.filter_cons_of_pos (by simp [hx]), ih]; rfl

theorem CmpOk.eq {d1 d2 : PyData} {P : Bool → Prop} (h : EqOk d1 d2 P) : CmpOk .Eq d1 d2 P := h

theorem TruthOk.of {b : Bool} {P : Bool → Prop} (h : P b) : TruthOk (.bool b) P := h

end Mine
end

section
open PySem PySem.W PySem.Calls PyProof.Rows
set_option maxRecDepth 100000
set_option autoImplicit false
set_option linter.unusedVariables false
namespace Mine

theorem CmpOk.lt {i j : Int} {P : Bool → Prop} (h : P (decide (i < j))) : CmpOk .Lt (.int i) (.int j) P := h
theorem CmpOk.gt {i j : Int} {P : Bool → Prop} (h : P (decide (j < i))) : CmpOk .Gt (.int i) (.int j) P := h
theorem CmpOk.isIn {x y : Str} {P : Bool → Prop} (h : P (Txt.contains x y)) : CmpOk .In (.str y) (.str x) P := h
theorem CmpOk.notIn {x y : Str} {P : Bool → Prop} (h : P (!Txt.contains x y)) : CmpOk .NotIn (.str y) (.str x) P := h
theorem CmpOk.ne {d1 d2 : PyData} {P : Bool → Prop} (h : EqOk d1 d2 fun b => P !b) : CmpOk .NotEq d1 d2 P := h
theorem EqOk.str {x y : Str} {P : Bool → Prop} (h : P (x == y)) : EqOk (.str x) (.str y) P := h
theorem EqOk.int {x y : Int} {P : Bool → Prop} (h : P (x == y)) : EqOk (.int x) (.int y) P := h

def readL (xs : List (List Nat)) : KR := keqv [] (xs.filter fun x => decide (x ≠ []))
def dputs (ps : List (Str × Str)) (l : List (Str × Str)) : List (Str × Str) := l.foldl (fun ps p => dput ps p.1 p.2) ps
def laidL : KR → KR → KR
  | .err c, _ => .err c
  | .val _, .err c => .err c
  | .val p, .val q => .val (dputs [] (p ++ q))
def pairDats (ps : List (Str × Str)) : List PyData := ps.map fun p => .tuple [.str p.1, .str p.2]
theorem dputs_length : ∀ (l ps : List (Str × Str)), (dputs ps l).length ≤ ps.length + l.length
  | [], ps => by simp [dputs]
  | p :: l, ps => by
    have h1 := dputs_length l (dput ps p.1 p.2)
    have h2 := dput_length ps p.1 p.2
    show (dputs (dput ps p.1 p.2) l).length ≤ _
    simp only [List.length_cons]; omega
theorem pairDats_atoms (ps : List (Str × Str)) : atoms (pairDats ps) = true := by induction ps with | nil => rfl | cons a l ih => simpa [pairDats, atoms, atom] using ih
def KR.size : KR → Nat
  | .val ps => ps.length
  | .err _ => 0

/-- _law_read -/
theorem read_ex {D : Wd} {A : Around} {fd : FuncData} {L fa : Addr} {stk : List Env} {H1 : Heap} {args : List Addr} (O : (mkAct D A fd L fa stk H1 args 1).Ok) (hfd : fd.scope = defScope (S2 6)) (E : Value → Shared → Prop)
    {xs : List (List Nat)} (hx : ∀ x ∈ xs, x.length ≤ 1000) (hxs : xs.length ≤ 1000) (hlen : ∀ ps, readL xs = .val ps → ps.length ≤ 1000) (herr : ∀ c, readL xs = .err c → c = "ValueError" ∨ c = "IndexError") (hg1 : D.mg "list" = none) (hg2 : D.mg "ValueError" = none) (hg3 : D.mg "IndexError" = none)
    (hk : FnR D 0 "parse_keqv_list" [.list (texts (xs.filter fun x => decide (x ≠ [])))] (fun d => ∃ ps, readL xs = .val ps ∧ d = .dict (ps.map sPair)) (fun c => readL xs = .err c)) :
    Ex (mkAct D A fd L fa stk H1 args 1) E (slots ["items"] [.list (texts xs)]) (defBody (S2 6)) (fun _ => False) (fun _ d => d = (readL xs).dat) (fun _ => False) := by
  obtain ⟨name, qualname, params, body, scope, globals, closure, dv, kv, doc, pm, an, cd, ct, bt⟩ := fd
  dsimp only at hfd
  subst hfd
  refine Ex.cons (Ex1.tryRead (k := 0) (outer := stk) O rfl rfl (fun E' => Ev.comp O ⟨rfl, by decide, rfl, by decide⟩ (Ev.name (d := .list (texts xs)) (o := false) O (by ((repeat' (first | exact Mine.Ro.set_get _ _ _ | refine Mine.Ro.set_other (by decide) ?_ | assumption | rfl)); done)) ⟨_, _, _, rfl, .inl ⟨_, _, rfl⟩, by rw [texts_length]; exact size_small (by omega), comp_one _ _ hx, ?_⟩)) (by obtain ⟨fa, h, _⟩ := hk; exact ⟨fa, h⟩) hg1 hg2 hg3)
  rw [filter_full, List.map_id]
  refine ⟨by split <;> decide, _, ?_, fun d' hd' => hd'⟩
  obtain ⟨fa', hf, hk⟩ := hk
  refine ⟨fa', hf, fun A stk E s vs as Q C kp ff rd has K KE => hk A stk E s vs as Q C kp ff rd has (fun v d as' h tk q1 q2 q3 q4 ⟨ps, q5, q6⟩ => K v d as' h tk q1 q2 q3 q4 ⟨ps, q6, size_small (Nat.le_trans (hlen ps q5) (by decide)), by rw [q5]; rfl⟩)
    fun e c a0 h tk hc => KE e c a0 h tk ⟨herr c hc, by rw [hc]; rfl⟩⟩

/-- _law_laid -/
def DJ (all : List (Str × Str)) (rest : List PyData) (ρ : Ro) : Prop := ∃ (l ps : List (Str × Str)), rest = pairDats l ∧ ρ.look "told" = some ⟨.dict (ps.map sPair), true⟩ ∧ dputs ps l = all ∧ ps.length + l.length ≤ 1000
theorem laid_ex {D : Wd} {A : Around} {fd : FuncData} {L fa : Addr} {stk : List Env} {H1 : Heap} {args : List Addr} (O : (mkAct D A fd L fa stk H1 args 0).Ok) (hfd : fd.scope = defScope (S2 8)) (E : Value → Shared → Prop)
    {x y : KR} (hxy : x.size + y.size ≤ 1000) (hg1 : D.mg "list" = none) (hg2 : D.mg "isinstance" = none) (hg3 : D.mg "str" = none) :
    Ex (mkAct D A fd L fa stk H1 args 0) E (slots ["first", "then"] [x.dat, y.dat]) (defBody (S2 8)) (fun _ => False) (fun _ d => d = (laidL x y).dat) (fun _ => False) := by
  obtain ⟨name, qualname, params, body, scope, globals, closure, dv, kv, doc, pm, an, cd, ct, bt⟩ := fd
  dsimp only at hfd
  subst hfd
  cases x with
  | err c =>
    refine Ex.cons (Ex1.ifB true (EvT.val O (Ev.isStr O (Ev.name (d := .str (Str.ofString c)) (o := false) O (by ((repeat' (first | exact Mine.Ro.set_get _ _ _ | refine Mine.Ro.set_other (by decide) ?_ | assumption | rfl)); done)) (TruthOk.of rfl)) hg2 hg3)) (fun _ => ?_) fun q => by cases q)
    exact Ex.cons (Ex1.ret O (Ev.name (d := .str (Str.ofString c)) (o := false) O (by ((repeat' (first | exact Mine.Ro.set_get _ _ _ | refine Mine.Ro.set_other (by decide) ?_ | assumption | rfl)); done)) rfl))
  | val p =>
    refine Ex.cons (Ex1.ifB false (EvT.val O (Ev.isStr O (Ev.name (d := .list (pairDats p)) (o := false) O (by ((repeat' (first | exact Mine.Ro.set_get _ _ _ | refine Mine.Ro.set_other (by decide) ?_ | assumption | rfl)); done)) (TruthOk.of rfl)) hg2 hg3)) (fun q => by cases q) fun _ => Ex.nil ?_)
    cases y with
    | err c =>
      refine Ex.cons (Ex1.ifB true (EvT.val O (Ev.isStr O (Ev.name (d := .str (Str.ofString c)) (o := false) O (by ((repeat' (first | exact Mine.Ro.set_get _ _ _ | refine Mine.Ro.set_other (by decide) ?_ | assumption | rfl)); done)) (TruthOk.of rfl)) hg2 hg3)) (fun _ => ?_) fun q => by cases q)
      exact Ex.cons (Ex1.ret O (Ev.name (d := .str (Str.ofString c)) (o := false) O (by ((repeat' (first | exact Mine.Ro.set_get _ _ _ | refine Mine.Ro.set_other (by decide) ?_ | assumption | rfl)); done)) rfl))
    | val q =>
      refine Ex.cons (Ex1.ifB false (EvT.val O (Ev.isStr O (Ev.name (d := .list (pairDats q)) (o := false) O (by ((repeat' (first | exact Mine.Ro.set_get _ _ _ | refine Mine.Ro.set_other (by decide) ?_ | assumption | rfl)); done)) (TruthOk.of rfl)) hg2 hg3)) (fun q => by cases q) fun _ => Ex.nil ?_)
      have hl : p.length + q.length ≤ 1000 := hxy
      refine Ex.cons (Ex1.assign O true (Ev.dict0 O ⟨by decide, fun _ => ⟨rfl, rfl, rfl⟩, ?_⟩))
      refine Ex.cons (Ex1.forIn O (DJ (dputs [] (p ++ q))) (fun x rest ρ' hJ => ?_) (fun ρ' hJ => ?_) ?_)
      · obtain ⟨l, ps, e, r1, ha, hlen⟩ := hJ
        cases l with
        | nil => cases e
        | cons z l =>
        obtain ⟨rfl, rfl⟩ := List.cons.inj (show x :: rest = (.tuple [.str z.1, .str z.2]) :: pairDats l from e)
        simp only [List.length_cons] at hlen
        refine Asg.tuple (xs := ["key", "value"]) O ?_ rfl rfl ?_
        · refine Ex.cons (Ex1.setItem O (by ((repeat' (first | exact Mine.Ro.set_get _ _ _ | refine Mine.Ro.set_other (by decide) ?_ | assumption | rfl)); done)) (Ev.name (d := .str z.2) (o := false) O (by ((repeat' (first | exact Mine.Ro.set_get _ _ _ | refine Mine.Ro.set_other (by decide) ?_ | assumption | rfl)); done)) ⟨_, rfl, Ev.name (d := .str z.1) (o := false) O (by ((repeat' (first | exact Mine.Ro.set_get _ _ _ | refine Mine.Ro.set_other (by decide) ?_ | assumption | rfl)); done)) ⟨_, rfl, size_small (by omega), ?_⟩⟩))
          refine Ex.nil ⟨l, _, rfl, Ro.set_get _ _ _, ha, ?_⟩
          have := dput_length ps z.1 z.2; omega
        · intro z hz
          simp only [List.mem_cons, List.not_mem_nil, or_false] at hz
          rcases hz with rfl | rfl <;> exact ⟨rfl, nofun⟩
      · obtain ⟨l, ps, e, r1, ha, hlen⟩ := hJ
        obtain rfl : l = [] := by cases l with | nil => rfl | cons _ _ => cases e
        refine Ex.cons (Ex1.ret O (Ev.listItems O (Ev.name O r1 ⟨ps, rfl, size_small (by omega), ?_⟩) hg1))
        show _ = (KR.val (dputs [] (p ++ q))).dat
        rw [← ha]; rfl
      · refine Ev.binop O (Ev.name (d := .list (pairDats p)) (o := false) O (by ((repeat' (first | exact Mine.Ro.set_get _ _ _ | refine Mine.Ro.set_other (by decide) ?_ | assumption | rfl)); done)) (Ev.name (d := .list (pairDats q)) (o := false) O (by ((repeat' (first | exact Mine.Ro.set_get _ _ _ | refine Mine.Ro.set_other (by decide) ?_ | assumption | rfl)); done)) ⟨?_, by decide, .inr ⟨⟨_, _, _, rfl⟩, fun d hd => ?_⟩, p ++ q, [], ?_, by ((repeat' (first | exact Mine.Ro.set_get _ _ _ | refine Mine.Ro.set_other (by decide) ?_ | assumption | rfl)); done), rfl, by simpa using hl⟩))
        · simp only [pairDats, List.length_map]; exact size_small (by omega)
        · rcases List.mem_append.mp hd with hd | hd
          · obtain ⟨s, _, rfl⟩ := List.mem_map.mp hd; exact ⟨_, rfl⟩
          · obtain ⟨s, _, rfl⟩ := List.mem_map.mp hd; exact ⟨_, rfl⟩
        · simp [pairDats]

/-- _law_simple -/
def simpleL (t : List Nat) : Bool := decide (t.length < 2) || (!decide (44 ∈ t) && (!decide (34 ∈ t) && !decide (92 ∈ t)))
theorem simple_ex {D : Wd} {A : Around} {fd : FuncData} {L fa : Addr} {stk : List Env} {H1 : Heap} {args : List Addr} (O : (mkAct D A fd L fa stk H1 args 0).Ok) (hfd : fd.scope = defScope (S2 10)) (E : Value → Shared → Prop)
    {t : List Nat} (ht : t.length ≤ 1000) (hg1 : D.mg "len" = none) :
    Ex (mkAct D A fd L fa stk H1 args 0) E (slots ["text"] [.str (T t)]) (defBody (S2 10)) (fun _ => False) (fun _ d => d = .bool (simpleL t)) (fun _ => False) := by
  obtain ⟨name, qualname, params, body, scope, globals, closure, dv, kv, doc, pm, an, cd, ct, bt⟩ := fd
  dsimp only at hfd
  subst hfd
  have q44 : (Str.ofString ",") = T [44] := rfl
  have q34 : (Str.ofString "\"") = T [34] := rfl
  have q92 : (Str.ofString "\\") = T [92] := rfl
  have hl : (T t).length ≤ sizeLine := by rw [T_length]; exact size_small (by omega)
  refine Ex.cons (Ex1.ret O (Ev.boolOp O ?_))
  refine Ev.cmp O (Ev.len O (Ev.name (d := .str (T t)) (o := false) O (by ((repeat' (first | exact Mine.Ro.set_get _ _ _ | refine Mine.Ro.set_other (by decide) ?_ | assumption | rfl)); done)) ⟨hl, Ev.int (CmpOk.lt ?_)⟩) hg1)
  have e1 : decide (((T t).length : Int) < 2) = decide (t.length < 2) := by rw [T_length]; exact decide_eq_decide.mpr (by omega)
  rw [e1]
  refine TruthOk.of ?_
  unfold simpleL
  by_cases h1 : t.length < 2
  · rw [if_neg (by simp [h1])]; simp [h1]
  · rw [if_pos (by simp [h1])]
    refine Ev.boolOp O ?_
    refine Ev.cmp O (Ev.str (Ev.name (d := .str (T t)) (o := false) O (by ((repeat' (first | exact Mine.Ro.set_get _ _ _ | refine Mine.Ro.set_other (by decide) ?_ | assumption | rfl)); done)) (CmpOk.notIn ?_)))
    rw [q44, contains_T]
    refine TruthOk.of ?_
    by_cases h2 : 44 ∈ t
    · rw [if_neg (by simp [h2])]; simp [h1, h2]
    · rw [if_pos (by simp [h2])]
      refine Ev.cmp O (Ev.str (Ev.name (d := .str (T t)) (o := false) O (by ((repeat' (first | exact Mine.Ro.set_get _ _ _ | refine Mine.Ro.set_other (by decide) ?_ | assumption | rfl)); done)) (CmpOk.notIn ?_)))
      rw [q34, contains_T]
      refine TruthOk.of ?_
      by_cases h3 : 34 ∈ t
      · rw [if_neg (by simp [h3])]; simp [h1, h3]
      · rw [if_pos (by simp [h3])]
        refine Ev.cmp O (Ev.str (Ev.name (d := .str (T t)) (o := false) O (by ((repeat' (first | exact Mine.Ro.set_get _ _ _ | refine Mine.Ro.set_other (by decide) ?_ | assumption | rfl)); done)) (CmpOk.notIn ?_)))
        rw [q92, contains_T]; simp [h1, h2, h3]
end Mine
end

section
open PySem PySem.W PySem.Calls PyProof.Rows
set_option maxRecDepth 100000
set_option autoImplicit false
set_option linter.unusedVariables false
namespace Mine

structure Ask where
  items : List (List Nat)
  inner : KR
  fin : Nat
def Ask.dat (x : Ask) : PyData := .tuple [.list (texts x.items), x.inner.dat, .int (x.fin : Int)]
def askDats (l : List Ask) : List PyData := l.map Ask.dat
def toldA (q : Nat) (t : List Nat) : Ask :=
  if q = 0 ∧ t = [44] then ⟨[[60], [62]], .val [], 0⟩
  else if q = 1 ∧ t = [92] then ⟨[[34, 62]], .val [], 2⟩
  else ⟨[(if q = 0 then [60] else [34]) ++ t ++ [62]], .val [], if q = 2 ∧ t ≠ [] then 1 else if q < 2 ∧ t = [34] then 1 - q else q⟩

section
variable {a : Act} {E : Value → Shared → Prop} {ρ : Ro} {P : PyData → Nat → Prop}
/-- int == int as a test -/
theorem EvT.eqInt (O : a.Ok) {l r : Expr} {pos : Pos} {x y : Int} (hl : Ev a E ρ l fun d _ => d = .int x) (hr : Ev a E ρ r fun d _ => d = .int y) (hm : behindInMarks .Eq r = false := by with_unfolding_all rfl) :
    EvT a E ρ (.Compare l [.Eq] [r] pos) (· = decide (x = y)) := by
  refine EvT.cmp O (Run.mono hl fun d _ e => ?_) hm
  subst e
  refine Run.mono hr fun d _ e => ?_
  subst e
  refine CmpOk.eq (EqOk.int ?_)
  rw [Bool.eq_iff_iff, beq_iff_eq, decide_eq_true_eq]
theorem EvT.neText (O : a.Ok) {l r : Expr} {pos : Pos} {x y : List Nat} (hl : Ev a E ρ l fun d _ => d = .str (T x)) (hr : Ev a E ρ r fun d _ => d = .str (T y)) (hm : behindInMarks .NotEq r = false := by with_unfolding_all rfl) :
    EvT a E ρ (.Compare l [.NotEq] [r] pos) (· = !decide (x = y)) := by
  refine EvT.cmp O (Run.mono hl fun d _ e => ?_) hm
  subst e
  refine Run.mono hr fun d _ e => ?_
  subst e
  refine CmpOk.ne (EqOk.str ?_)
  congr 1
  rw [Bool.eq_iff_iff, beq_iff_eq, decide_eq_true_eq, T_inj]
end
/-- one statement, what it leaves told, then the others -/
theorem Ex.seq {a : Act} {E : Value → Shared → Prop} {ρ : Ro} {N C : Ro → Prop} {R : Ro → PyData → Prop} {st : Stmt} {rest : List Stmt} (M : Ro → Prop) (h1 : Ex1 a E ρ st M R C) (h2 : ∀ ρ', M ρ' → Ex a E ρ' rest N R C) : Ex a E ρ (st :: rest) N R C :=
  Ex.cons (RunF.mono h1 h2 (fun _ _ h => h) fun _ h => h)

set_option maxHeartbeats 4000000 in
theorem told_ex {D : Wd} {A : Around} {fd : FuncData} {L fa : Addr} {stk : List Env} {H1 : Heap} {args : List Addr} (O : (mkAct D A fd L fa stk H1 args 0).Ok) (hfd : fd.scope = defScope (S2 11)) (E : Value → Shared → Prop)
    {q : Nat} {t : List Nat} (hq : q < 3) (ht : t.length ≤ 1000) :
    Ex (mkAct D A fd L fa stk H1 args 0) E (slots ["q", "text"] [.int (q : Int), .str (T t)]) (defBody (S2 11)) (fun _ => False) (fun _ d => d = (toldA q t).dat) (fun _ => False) := by
  obtain ⟨name, qualname, params, body, scope, globals, closure, dv, kv, doc, pm, an, cd, ct, bt⟩ := fd
  dsimp only at hfd
  subst hfd
  have q44 : (Str.ofString ",") = T [44] := rfl
  have q34 : (Str.ofString "\"") = T [34] := rfl
  have q92 : (Str.ofString "\\") = T [92] := rfl
  have hl : (T t).length ≤ sizeLine := by rw [T_length]; exact size_small (by omega)
  have qz : ∀ k : Nat, decide ((q : Int) = (k : Int)) = decide (q = k) := fun k => decide_eq_decide.mpr (by omega)
  refine Ex.cons (Ex1.ifB (decide (q = 0) && (decide (t = [44]) && true)) (EvT.bool (AllT.and (RunB.mono (EvT.eqInt O (x := (q : Int)) (y := 0) (Ev.name O (by ((repeat' (first | exact Mine.Ro.set_get _ _ _ | refine Mine.Ro.set_other (by decide) ?_ | assumption | rfl)); done)) rfl) (Ev.int rfl)) fun b h => h.trans (qz 0)) fun _ => AllT.and (EvT.eqText O (x := t) (y := [44]) (Ev.name O (by ((repeat' (first | exact Mine.Ro.set_get _ _ _ | refine Mine.Ro.set_other (by decide) ?_ | assumption | rfl)); done)) rfl) (Ev.str rfl)) fun _ => rfl)) (fun hb => ?_) fun hb => ?_)
  · have hb : q = 0 ∧ t = [44] := by simpa using hb
    refine Ex.cons (Ex1.ret O (Ev.tuple O ?_))
    (repeat (first | refine Mine.Ev.str ?_ | refine Mine.Ev.int ?_ | refine Mine.Ev.bool ?_ | refine Mine.Ev.name (by assumption) (by ((repeat' (first | exact Mine.Ro.set_get _ _ _ | refine Mine.Ro.set_other (by decide) ?_ | assumption | rfl)); done)) ?_ | refine Mine.Ev.neg (by assumption) ?_ | refine Mine.EvL.nil ?_ | refine Mine.EvL.cons (by assumption) ?_ | refine Mine.Ev.tuple (by assumption) ?_ | refine Mine.Ev.list (by assumption) ?_ | refine Mine.Ev.dict0 (by assumption) ?_ | refine Mine.Ev.binop (by assumption) ?_ | refine Mine.Ev.cmp (by assumption) ?_ | refine Mine.EvT.cmp (by assumption) ?_ | refine Mine.EvT.not ?_ | refine Mine.EvT.bool ?_ | refine Mine.Ev.boolOp (by assumption) ?_ | refine Mine.Ev.slice (by assumption) ?_ | refine Mine.Ev.item (by assumption) ?_ | refine Mine.Ev.strip (by assumption) ?_ | refine Mine.Ev.rstrip (by assumption) ?_ | refine Mine.Ev.join (by assumption) ?_ | refine Mine.Ev.split (by assumption) ?_ | refine Mine.Ev.ifExp ?_ | refine Mine.EvT.val (by assumption) ?_))
    refine ⟨by decide, (by first | decide | (simp only [List.length_cons, List.length_nil]; exact Nat.le_trans (by omega) (show 10 ≤ PySem.sizeLine by decide))), ?_⟩
    (repeat (first | refine Mine.Ev.str ?_ | refine Mine.Ev.int ?_ | refine Mine.Ev.bool ?_ | refine Mine.Ev.name (by assumption) (by ((repeat' (first | exact Mine.Ro.set_get _ _ _ | refine Mine.Ro.set_other (by decide) ?_ | assumption | rfl)); done)) ?_ | refine Mine.Ev.neg (by assumption) ?_ | refine Mine.EvL.nil ?_ | refine Mine.EvL.cons (by assumption) ?_ | refine Mine.Ev.tuple (by assumption) ?_ | refine Mine.Ev.list (by assumption) ?_ | refine Mine.Ev.dict0 (by assumption) ?_ | refine Mine.Ev.binop (by assumption) ?_ | refine Mine.Ev.cmp (by assumption) ?_ | refine Mine.EvT.cmp (by assumption) ?_ | refine Mine.EvT.not ?_ | refine Mine.EvT.bool ?_ | refine Mine.Ev.boolOp (by assumption) ?_ | refine Mine.Ev.slice (by assumption) ?_ | refine Mine.Ev.item (by assumption) ?_ | refine Mine.Ev.strip (by assumption) ?_ | refine Mine.Ev.rstrip (by assumption) ?_ | refine Mine.Ev.join (by assumption) ?_ | refine Mine.Ev.split (by assumption) ?_ | refine Mine.Ev.ifExp ?_ | refine Mine.EvT.val (by assumption) ?_))
    refine ⟨by decide, by decide, ?_⟩
    (repeat (first | refine Mine.Ev.str ?_ | refine Mine.Ev.int ?_ | refine Mine.Ev.bool ?_ | refine Mine.Ev.name (by assumption) (by ((repeat' (first | exact Mine.Ro.set_get _ _ _ | refine Mine.Ro.set_other (by decide) ?_ | assumption | rfl)); done)) ?_ | refine Mine.Ev.neg (by assumption) ?_ | refine Mine.EvL.nil ?_ | refine Mine.EvL.cons (by assumption) ?_ | refine Mine.Ev.tuple (by assumption) ?_ | refine Mine.Ev.list (by assumption) ?_ | refine Mine.Ev.dict0 (by assumption) ?_ | refine Mine.Ev.binop (by assumption) ?_ | refine Mine.Ev.cmp (by assumption) ?_ | refine Mine.EvT.cmp (by assumption) ?_ | refine Mine.EvT.not ?_ | refine Mine.EvT.bool ?_ | refine Mine.Ev.boolOp (by assumption) ?_ | refine Mine.Ev.slice (by assumption) ?_ | refine Mine.Ev.item (by assumption) ?_ | refine Mine.Ev.strip (by assumption) ?_ | refine Mine.Ev.rstrip (by assumption) ?_ | refine Mine.Ev.join (by assumption) ?_ | refine Mine.Ev.split (by assumption) ?_ | refine Mine.Ev.ifExp ?_ | refine Mine.EvT.val (by assumption) ?_))
    refine ⟨by decide, (by first | decide | (simp only [List.length_cons, List.length_nil]; exact Nat.le_trans (by omega) (show 10 ≤ PySem.sizeLine by decide))), ?_⟩
    unfold toldA; rw [if_pos hb]; rfl
  · have hb : ¬ (q = 0 ∧ t = [44]) := by simpa using hb
    refine Ex.nil (Ex.cons (Ex1.ifB (decide (q = 1) && (decide (t = [92]) && true)) (EvT.bool (AllT.and (RunB.mono (EvT.eqInt O (x := (q : Int)) (y := 1) (Ev.name O (by ((repeat' (first | exact Mine.Ro.set_get _ _ _ | refine Mine.Ro.set_other (by decide) ?_ | assumption | rfl)); done)) rfl) (Ev.int rfl)) fun b h => h.trans (qz 1)) fun _ => AllT.and (EvT.eqText O (x := t) (y := [92]) (Ev.name O (by ((repeat' (first | exact Mine.Ro.set_get _ _ _ | refine Mine.Ro.set_other (by decide) ?_ | assumption | rfl)); done)) rfl) (Ev.str rfl)) fun _ => rfl)) (fun hb2 => ?_) fun hb2 => ?_))
    · have hb2 : q = 1 ∧ t = [92] := by simpa using hb2
      refine Ex.cons (Ex1.ret O (Ev.tuple O ?_))
      (repeat (first | refine Mine.Ev.str ?_ | refine Mine.Ev.int ?_ | refine Mine.Ev.bool ?_ | refine Mine.Ev.name (by assumption) (by ((repeat' (first | exact Mine.Ro.set_get _ _ _ | refine Mine.Ro.set_other (by decide) ?_ | assumption | rfl)); done)) ?_ | refine Mine.Ev.neg (by assumption) ?_ | refine Mine.EvL.nil ?_ | refine Mine.EvL.cons (by assumption) ?_ | refine Mine.Ev.tuple (by assumption) ?_ | refine Mine.Ev.list (by assumption) ?_ | refine Mine.Ev.dict0 (by assumption) ?_ | refine Mine.Ev.binop (by assumption) ?_ | refine Mine.Ev.cmp (by assumption) ?_ | refine Mine.EvT.cmp (by assumption) ?_ | refine Mine.EvT.not ?_ | refine Mine.EvT.bool ?_ | refine Mine.Ev.boolOp (by assumption) ?_ | refine Mine.Ev.slice (by assumption) ?_ | refine Mine.Ev.item (by assumption) ?_ | refine Mine.Ev.strip (by assumption) ?_ | refine Mine.Ev.rstrip (by assumption) ?_ | refine Mine.Ev.join (by assumption) ?_ | refine Mine.Ev.split (by assumption) ?_ | refine Mine.Ev.ifExp ?_ | refine Mine.EvT.val (by assumption) ?_))
      refine ⟨by decide, (by first | decide | (simp only [List.length_cons, List.length_nil]; exact Nat.le_trans (by omega) (show 10 ≤ PySem.sizeLine by decide))), ?_⟩
      (repeat (first | refine Mine.Ev.str ?_ | refine Mine.Ev.int ?_ | refine Mine.Ev.bool ?_ | refine Mine.Ev.name (by assumption) (by ((repeat' (first | exact Mine.Ro.set_get _ _ _ | refine Mine.Ro.set_other (by decide) ?_ | assumption | rfl)); done)) ?_ | refine Mine.Ev.neg (by assumption) ?_ | refine Mine.EvL.nil ?_ | refine Mine.EvL.cons (by assumption) ?_ | refine Mine.Ev.tuple (by assumption) ?_ | refine Mine.Ev.list (by assumption) ?_ | refine Mine.Ev.dict0 (by assumption) ?_ | refine Mine.Ev.binop (by assumption) ?_ | refine Mine.Ev.cmp (by assumption) ?_ | refine Mine.EvT.cmp (by assumption) ?_ | refine Mine.EvT.not ?_ | refine Mine.EvT.bool ?_ | refine Mine.Ev.boolOp (by assumption) ?_ | refine Mine.Ev.slice (by assumption) ?_ | refine Mine.Ev.item (by assumption) ?_ | refine Mine.Ev.strip (by assumption) ?_ | refine Mine.Ev.rstrip (by assumption) ?_ | refine Mine.Ev.join (by assumption) ?_ | refine Mine.Ev.split (by assumption) ?_ | refine Mine.Ev.ifExp ?_ | refine Mine.EvT.val (by assumption) ?_))
      refine ⟨by decide, by decide, ?_⟩
      (repeat (first | refine Mine.Ev.str ?_ | refine Mine.Ev.int ?_ | refine Mine.Ev.bool ?_ | refine Mine.Ev.name (by assumption) (by ((repeat' (first | exact Mine.Ro.set_get _ _ _ | refine Mine.Ro.set_other (by decide) ?_ | assumption | rfl)); done)) ?_ | refine Mine.Ev.neg (by assumption) ?_ | refine Mine.EvL.nil ?_ | refine Mine.EvL.cons (by assumption) ?_ | refine Mine.Ev.tuple (by assumption) ?_ | refine Mine.Ev.list (by assumption) ?_ | refine Mine.Ev.dict0 (by assumption) ?_ | refine Mine.Ev.binop (by assumption) ?_ | refine Mine.Ev.cmp (by assumption) ?_ | refine Mine.EvT.cmp (by assumption) ?_ | refine Mine.EvT.not ?_ | refine Mine.EvT.bool ?_ | refine Mine.Ev.boolOp (by assumption) ?_ | refine Mine.Ev.slice (by assumption) ?_ | refine Mine.Ev.item (by assumption) ?_ | refine Mine.Ev.strip (by assumption) ?_ | refine Mine.Ev.rstrip (by assumption) ?_ | refine Mine.Ev.join (by assumption) ?_ | refine Mine.Ev.split (by assumption) ?_ | refine Mine.Ev.ifExp ?_ | refine Mine.EvT.val (by assumption) ?_))
      refine ⟨by decide, (by first | decide | (simp only [List.length_cons, List.length_nil]; exact Nat.le_trans (by omega) (show 10 ≤ PySem.sizeLine by decide))), ?_⟩
      unfold toldA; rw [if_neg hb, if_pos hb2]; rfl
    · have hb2 : ¬ (q = 1 ∧ t = [92]) := by simpa using hb2
      refine Ex.nil (Ex.cons (Ex1.assign O false (Ev.name (d := .int (q : Int)) (o := false) O (by ((repeat' (first | exact Mine.Ro.set_get _ _ _ | refine Mine.Ro.set_other (by decide) ?_ | assumption | rfl)); done)) ⟨by decide, nofun, ?_⟩)))
      have qlt : decide ((q : Int) < 2) = decide (q < 2) := decide_eq_decide.mpr (by omega)
      refine Ex.seq (fun ρ2 => ∃ e : Nat, ρ2.look "end" = some ⟨.int (e : Int), false⟩ ∧ ρ2.look "q" = some ⟨.int (q : Int), false⟩ ∧ ρ2.look "text" = some ⟨.str (T t), false⟩ ∧ e = (if q = 2 ∧ t ≠ [] then 1 else if q < 2 ∧ t = [34] then 1 - q else q)) ?_ (fun ρ2 h2 => ?_)
      · refine Ex1.ifB (decide (q = 2) && (!decide (t = []) && true)) (EvT.bool (AllT.and (RunB.mono (EvT.eqInt O (x := (q : Int)) (y := 2) (Ev.name O (by ((repeat' (first | exact Mine.Ro.set_get _ _ _ | refine Mine.Ro.set_other (by decide) ?_ | assumption | rfl)); done)) rfl) (Ev.int rfl)) fun b h => h.trans (qz 2)) fun _ => AllT.and (EvT.neText O (x := t) (y := []) (Ev.name O (by ((repeat' (first | exact Mine.Ro.set_get _ _ _ | refine Mine.Ro.set_other (by decide) ?_ | assumption | rfl)); done)) rfl) (Ev.str rfl)) fun _ => rfl)) (fun hb3 => ?_) fun hb3 => ?_
        · have hb3 : q = 2 ∧ t ≠ [] := by simpa using hb3
          exact Ex.cons (Ex1.assign O false (Ev.int ⟨by decide, nofun, Ex.nil ⟨1, by ((repeat' (first | exact Mine.Ro.set_get _ _ _ | refine Mine.Ro.set_other (by decide) ?_ | assumption | rfl)); done), by ((repeat' (first | exact Mine.Ro.set_get _ _ _ | refine Mine.Ro.set_other (by decide) ?_ | assumption | rfl)); done), by ((repeat' (first | exact Mine.Ro.set_get _ _ _ | refine Mine.Ro.set_other (by decide) ?_ | assumption | rfl)); done), by rw [if_pos hb3]⟩⟩))
        · have hb3 : ¬ (q = 2 ∧ t ≠ []) := by simpa using hb3
          refine Ex.cons (Ex1.ifB (decide (q < 2) && (decide (t = [34]) && true)) (EvT.bool (AllT.and (EvT.cmp O (Ev.name (d := .int (q : Int)) (o := false) O (by ((repeat' (first | exact Mine.Ro.set_get _ _ _ | refine Mine.Ro.set_other (by decide) ?_ | assumption | rfl)); done)) (Ev.int (CmpOk.lt qlt)))) fun _ => AllT.and (EvT.eqText O (x := t) (y := [34]) (Ev.name O (by ((repeat' (first | exact Mine.Ro.set_get _ _ _ | refine Mine.Ro.set_other (by decide) ?_ | assumption | rfl)); done)) rfl) (Ev.str rfl)) fun _ => rfl)) (fun hb4 => ?_) fun hb4 => ?_)
          · have hb4 : q < 2 ∧ t = [34] := by simpa using hb4
            refine Ex.cons (Ex1.assign O false (Ev.binop O (Ev.int (Ev.name (d := .int (q : Int)) (o := false) O (by ((repeat' (first | exact Mine.Ro.set_get _ _ _ | refine Mine.Ro.set_other (by decide) ?_ | assumption | rfl)); done)) ⟨by decide, nofun, Ex.nil (Ex.nil ⟨1 - q, ?_, by ((repeat' (first | exact Mine.Ro.set_get _ _ _ | refine Mine.Ro.set_other (by decide) ?_ | assumption | rfl)); done), by ((repeat' (first | exact Mine.Ro.set_get _ _ _ | refine Mine.Ro.set_other (by decide) ?_ | assumption | rfl)); done), by rw [if_neg hb3, if_pos hb4]⟩)⟩))))
            rw [show ((1 - q : Nat) : Int) = 1 - (q : Int) by omega]; ((repeat' (first | exact Mine.Ro.set_get _ _ _ | refine Mine.Ro.set_other (by decide) ?_ | assumption | rfl)); done)
          · have hb4 : ¬ (q < 2 ∧ t = [34]) := by simpa using hb4
            exact Ex.nil (Ex.nil ⟨q, by ((repeat' (first | exact Mine.Ro.set_get _ _ _ | refine Mine.Ro.set_other (by decide) ?_ | assumption | rfl)); done), by ((repeat' (first | exact Mine.Ro.set_get _ _ _ | refine Mine.Ro.set_other (by decide) ?_ | assumption | rfl)); done), by ((repeat' (first | exact Mine.Ro.set_get _ _ _ | refine Mine.Ro.set_other (by decide) ?_ | assumption | rfl)); done), by rw [if_neg hb3, if_neg hb4]⟩)
      · obtain ⟨e, r1, r2, r3, he⟩ := h2
        refine Ex.cons (Ex1.ret O (Ev.tuple O (EvL.cons O (Ev.list O (EvL.cons O (Ev.binop O (Ev.binop O (Ev.ifExp (RunB.mono (P := (· = !decide (q = 0))) (EvT.val O (Ev.name (d := .int (q : Int)) (o := false) O r2 ?_)) fun b hbb => ?_)))))))))
        · show ((q : Int) != 0) = !decide (q = 0)
          rw [Bool.eq_iff_iff]; simp
        · subst hbb
          have sz1 : ∀ c : Nat, (T [c]).length + (T t).length ≤ sizeLine := fun c => by rw [T_length, T_length]; exact size_small (by simp; omega)
          have sz2 : ∀ c : Nat, (T [c] ++ T t).length + (Str.ofString ">").length ≤ sizeLine := fun c => by rw [T_append, T_length, show (Str.ofString ">").length = 1 from rfl]; exact size_small (by simp; omega)
          have fin : ∀ c : Nat, [c] = (if q = 0 then [60] else [34]) → PyData.tuple [.list [.str (T [c] ++ T t ++ Str.ofString ">")], .list [], .int (e : Int)] = (toldA q t).dat := fun c hc => by
            unfold toldA; rw [if_neg hb, if_neg hb2, ← he, ← hc]
            show PyData.tuple [.list [.str (T [c] ++ T t ++ T [62])], _, _] = _
            rw [T_append, T_append]; rfl
          by_cases h0 : q = 0
          · rw [if_neg (by simp [h0])]
            exact Ev.str (Ev.name (d := .str (T t)) (o := false) O r3 ⟨sz1 60, Ev.str ⟨sz2 60, EvL.nil ⟨by decide, (by first | decide | (simp only [List.length_cons, List.length_nil]; exact Nat.le_trans (by omega) (show 10 ≤ PySem.sizeLine by decide))), EvL.cons O (Ev.list O (EvL.nil ⟨by decide, by decide, EvL.cons O (Ev.name (d := .int (e : Int)) (o := false) O r1 (EvL.nil ⟨by decide, (by first | decide | (simp only [List.length_cons, List.length_nil]; exact Nat.le_trans (by omega) (show 10 ≤ PySem.sizeLine by decide))), fin 60 (by rw [if_pos h0])⟩))⟩))⟩⟩⟩)
          · rw [if_pos (by simp [h0])]
            exact Ev.str (Ev.name (d := .str (T t)) (o := false) O r3 ⟨sz1 34, Ev.str ⟨sz2 34, EvL.nil ⟨by decide, (by first | decide | (simp only [List.length_cons, List.length_nil]; exact Nat.le_trans (by omega) (show 10 ≤ PySem.sizeLine by decide))), EvL.cons O (Ev.list O (EvL.nil ⟨by decide, by decide, EvL.cons O (Ev.name (d := .int (e : Int)) (o := false) O r1 (EvL.nil ⟨by decide, (by first | decide | (simp only [List.length_cons, List.length_nil]; exact Nat.le_trans (by omega) (show 10 ≤ PySem.sizeLine by decide))), fin 34 (by rw [if_neg h0])⟩))⟩))⟩⟩⟩)
end Mine
end

section
open PySem PySem.W PySem.Calls PyProof.Rows
set_option maxRecDepth 100000
set_option autoImplicit false
set_option linter.unusedVariables false
namespace Mine

/-! stripping -/
theorem dropWhile_all {α : Type} (p : α → Bool) : ∀ {l m : List α}, (∀ x ∈ l, p x = true) → (l ++ m).dropWhile p = m.dropWhile p
  | [], _, _ => rfl
  | a :: l, m, h => by
    rw [List.cons_append, List.dropWhile_cons_of_pos (h a (.head _))]
    exact dropWhile_all p fun x hx => h x (.tail _ hx)
theorem dropWhile_app {α : Type} (p : α → Bool) : ∀ {l m : List α} {a : α}, p a = false → (l ++ a :: m).dropWhile p = l.dropWhile p ++ a :: m
  | [], m, a, h => by rw [List.nil_append, List.dropWhile_cons_of_neg (by simp [h])]; rfl
  | b :: l, m, a, h => by
    by_cases hb : p b = true
    · rw [List.cons_append, List.dropWhile_cons_of_pos hb, List.dropWhile_cons_of_pos hb, dropWhile_app p h]
    · rw [List.cons_append, List.dropWhile_cons_of_neg hb, List.dropWhile_cons_of_neg hb]; rfl
/-- all blank, or a first sign that is not -/
theorem sp_split (l : List Nat) : (∀ c ∈ l, sp c = true) ∨ ∃ W a r, l = W ++ a :: r ∧ (∀ c ∈ W, sp c = true) ∧ sp a = false := by
  induction l with
  | nil => exact .inl fun c hc => nomatch hc
  | cons b l ih =>
    cases hb : sp b with
    | false => exact .inr ⟨[], b, l, rfl, (fun c hc => nomatch hc), hb⟩
    | true =>
      rcases ih with ih | ⟨W, a, r, rfl, hW, ha⟩
      · refine .inl fun c hc => ?_
        rcases List.mem_cons.mp hc with rfl | hc
        · exact hb
        · exact ih c hc
      · refine .inr ⟨b :: W, a, r, rfl, fun c hc => ?_, ha⟩
        rcases List.mem_cons.mp hc with rfl | hc
        · exact hb
        · exact hW c hc
theorem lstrip_blank {l : List Nat} (h : ∀ c ∈ l, sp c = true) : l.dropWhile sp = [] := by
  have := dropWhile_all sp (m := []) h
  simpa using this
theorem rstrip_blank {l : List Nat} (h : ∀ c ∈ l, sp c = true) : rstripL l = [] := by
  unfold rstripL; rw [lstrip_blank fun c hc => h c (List.mem_reverse.mp hc)]; rfl
theorem lstrip_at {W r : List Nat} {a : Nat} (hW : ∀ c ∈ W, sp c = true) (ha : sp a = false) : (W ++ a :: r).dropWhile sp = a :: r := by
  rw [dropWhile_all sp hW, List.dropWhile_cons_of_neg (by simp [ha])]
theorem rstrip_at {W r : List Nat} {a : Nat} (ha : sp a = false) : rstripL (W ++ a :: r) = W ++ a :: rstripL r := by
  unfold rstripL
  rw [List.reverse_append, List.reverse_cons, List.append_assoc]
  show ((r.reverse ++ a :: W.reverse).dropWhile sp).reverse = _
  rw [dropWhile_app sp ha]; simp
theorem rstrip_idem (l : List Nat) : rstripL (rstripL l) = rstripL l := by
  have idem : ∀ l : List Nat, (l.dropWhile sp).dropWhile sp = l.dropWhile sp := fun l => by
    rcases sp_split l with h | ⟨W, a, r, rfl, hW, ha⟩
    · rw [lstrip_blank h]; rfl
    · rw [lstrip_at hW ha, List.dropWhile_cons_of_neg (by simp [ha])]
  unfold rstripL
  rw [List.reverse_reverse, idem]
theorem rstrip_app_blank {l m : List Nat} (h : ∀ c ∈ m, sp c = true) : rstripL (l ++ m) = rstripL l := by
  unfold rstripL
  rw [List.reverse_append, dropWhile_all sp fun c hc => h c (List.mem_reverse.mp hc)]
theorem rstrip_r (x y : List Nat) : rstripL (x ++ rstripL y) = rstripL (x ++ y) := by
  rcases sp_split y with h | ⟨W, a, r, rfl, hW, ha⟩
  · rw [rstrip_blank h, List.append_nil, rstrip_app_blank h]
  · rw [rstrip_at ha, ← List.append_assoc, ← List.append_assoc, rstrip_at ha, rstrip_at ha, rstrip_idem]
theorem comm_strip (l : List Nat) : (rstripL l).dropWhile sp = rstripL (l.dropWhile sp) := by
  rcases sp_split l with h | ⟨W, a, r, rfl, hW, ha⟩
  · rw [rstrip_blank h, lstrip_blank h]; rfl
  · rw [rstrip_at ha, lstrip_at hW ha, lstrip_at hW ha]
    have := rstrip_at (W := []) (r := r) ha
    exact this.symm
theorem strip_l (x y : List Nat) : stripL (x.dropWhile sp ++ y) = stripL (x ++ y) := by
  unfold stripL
  rcases sp_split x with h | ⟨W, a, r, rfl, hW, ha⟩
  · rw [lstrip_blank h, dropWhile_all sp h]; rfl
  · rw [lstrip_at hW ha, List.append_assoc, List.cons_append, lstrip_at hW ha]
    have := lstrip_at (W := []) (r := r ++ y) (fun c hc => nomatch hc) ha
    rw [List.nil_append] at this; rw [this]
theorem strip_r (x y : List Nat) : stripL (x ++ rstripL y) = stripL (x ++ y) := by
  unfold stripL
  rw [← comm_strip, ← comm_strip, rstrip_r]
theorem strip_rstrip (x : List Nat) : stripL (rstripL x) = stripL x := by have := strip_r [] x; simpa using this
theorem strip_lstrip (x : List Nat) : stripL (x.dropWhile sp) = stripL x := by have := strip_l x []; simpa using this
theorem strip_strip (x : List Nat) : stripL (stripL x) = stripL x := by
  show stripL (rstripL (x.dropWhile sp)) = _
  rw [strip_rstrip, strip_lstrip]
/-- a first sign that is no blank -/
theorem strip_head {a : Nat} (ha : sp a = false) (r : List Nat) : stripL (a :: r) = a :: rstripL r := by
  unfold stripL
  rw [List.dropWhile_cons_of_neg (by simp [ha])]
  exact rstrip_at (W := []) ha
theorem rstrip_last {a : Nat} (ha : sp a = false) (l : List Nat) : rstripL (l ++ [a]) = l ++ [a] := by
  rw [rstrip_at ha]; rfl
/-- a last sign that is no blank -/
theorem strip_last {a : Nat} (ha : sp a = false) (l : List Nat) : stripL (l ++ [a]) = l.dropWhile sp ++ [a] := by
  unfold stripL
  rw [dropWhile_app sp ha, rstrip_last ha]

/-! cuts -/
theorem clampI_nat (k d n : Nat) : clampI (some (k : Int)) d n = min k n := by
  simp only [clampI]
  rw [if_neg (Int.not_lt.mpr (Int.natCast_nonneg k))]
  omega
theorem clampI_last (d n : Nat) : clampI (some (-1)) d n = n - 1 := by simp only [clampI]; simp; omega
theorem pySl_from {α : Type} (l : List α) (k : Nat) : pySl l (some (k : Int)) none = l.drop k := by
  unfold pySl; rw [clampI_nat]
  rcases Nat.le_total k l.length with h | h
  · rw [Nat.min_eq_left h]; exact List.take_of_length_le (Nat.le_of_eq List.length_drop)
  · rw [Nat.min_eq_right h, List.drop_eq_nil_of_le h, List.drop_eq_nil_of_le (Nat.le_refl _), List.take_nil]
theorem pySl_to {α : Type} (l : List α) (k : Nat) : pySl l none (some (k : Int)) = l.take k := by
  unfold pySl; rw [clampI_nat]
  show (l.drop 0).take (min k l.length - 0) = _
  rw [List.drop_zero, Nat.sub_zero]
  rcases Nat.le_total k l.length with h | h
  · rw [Nat.min_eq_left h]
  · rw [Nat.min_eq_right h, List.take_of_length_le h, List.take_of_length_le (Nat.le_refl _)]
theorem pySl_tail {α : Type} (l : List α) : pySl l (some 1) none = l.tail := (pySl_from l 1).trans List.drop_one
theorem pySl_first {α : Type} (l : List α) : pySl l none (some 1) = l.take 1 := pySl_to l 1
theorem pySl_init {α : Type} (l : List α) : pySl l none (some (-1)) = l.dropLast := by
  unfold pySl; rw [clampI_last]
  show (l.drop 0).take (l.length - 1 - 0) = _
  rw [List.drop_zero, Nat.sub_zero, List.dropLast_eq_take]
theorem pySl_inner {α : Type} (l : List α) : pySl l (some 1) (some (-1)) = l.tail.dropLast := by
  unfold pySl; rw [clampI_last, show clampI (some 1) 0 l.length = min 1 l.length from clampI_nat 1 0 _]
  cases l with
  | nil => rfl
  | cons a l =>
    have e : min 1 (a :: l).length = 1 := Nat.min_eq_left (Nat.succ_le_succ (Nat.zero_le _))
    rw [e, List.dropLast_eq_take]; rfl

/-! the parser, put together -/
def base (e q : Bool) : PS := ⟨[], [], e, q⟩
def jn (s u : PS) : PS := match u.res with
  | [] => ⟨s.res, s.part ++ u.part, u.esc, u.quote⟩
  | x :: xs => ⟨s.res ++ (s.part ++ x) :: xs, u.part, u.esc, u.quote⟩
theorem jn_esc (s u : PS) : (jn s u).esc = u.esc ∧ (jn s u).quote = u.quote := by unfold jn; split <;> exact ⟨rfl, rfl⟩
theorem jn_assoc (s u v : PS) : jn (jn s u) v = jn s (jn u v) := by
  obtain ⟨r1, p1, e1, q1⟩ := s
  obtain ⟨r2, p2, e2, q2⟩ := u
  obtain ⟨r3, p3, e3, q3⟩ := v
  cases r2 <;> cases r3 <;> simp [jn]
theorem step_jn (s : PS) (c : Nat) : pstep s c = jn s (pstep (base s.esc s.quote) c) := by
  obtain ⟨r, p, e, q⟩ := s
  unfold pstep base
  cases e <;> cases q <;> simp only [Bool.false_eq_true, if_false, if_true]
  · split
    · simp [jn]
    · split <;> simp [jn]
  · split
    · simp [jn]
    · split <;> simp [jn]
  · simp [jn]
  · simp [jn]
theorem run_jn : ∀ (t : List Nat) (s : PS), t.foldl pstep s = jn s (t.foldl pstep (base s.esc s.quote))
  | [], s => by obtain ⟨r, p, e, q⟩ := s; simp [jn, base]
  | c :: t, s => by
    rw [List.foldl_cons, List.foldl_cons, run_jn t (pstep s c), run_jn t (pstep (base s.esc s.quote) c), ← jn_assoc, ← step_jn]
    have h := jn_esc s (pstep (base s.esc s.quote) c)
    rw [← step_jn] at h
    rw [h.1, h.2]
/-- behind a backslash only within quotes -/
def PS.good (s : PS) : Prop := s.esc = true → s.quote = true
theorem good_step {s : PS} {c : Nat} (h : s.good) : (pstep s c).good := by
  obtain ⟨r, p, e, q⟩ := s
  unfold pstep PS.good at *
  cases e <;> cases q <;> simp_all <;> (repeat' split) <;> simp_all
theorem good_run : ∀ (t : List Nat) {s : PS}, s.good → (t.foldl pstep s).good
  | [], _, h => h
  | c :: t, _, h => good_run t (good_step h)
/-- where the text's end stands: outside, in quotes, behind a backslash -/
def PS.fin (s : PS) : Nat := if s.quote = true then (if s.esc = true then 2 else 1) else 0
def fromQ (q : Nat) : PS := base (decide (q = 2)) (decide (q ≠ 0))
def runQ (q : Nat) (t : List Nat) : PS := t.foldl pstep (fromQ q)
theorem fromQ_good (q : Nat) : (fromQ q).good := by
  unfold fromQ base PS.good; intro h
  have : q = 2 := by simpa using h
  subst this; rfl
theorem runQ_good (q : Nat) (t : List Nat) : (runQ q t).good := good_run t (fromQ_good q)
theorem fin_lt (s : PS) : s.fin < 3 := by unfold PS.fin; split <;> (try split) <;> decide
theorem from_fin {s : PS} (h : s.good) : fromQ s.fin = base s.esc s.quote := by
  obtain ⟨r, p, e, q⟩ := s
  unfold PS.good at h
  cases e <;> cases q <;> simp_all [PS.fin, fromQ]
theorem runQ_app (q : Nat) (a b : List Nat) : runQ q (a ++ b) = jn (runQ q a) (runQ (runQ q a).fin b) := by
  show (a ++ b).foldl pstep (fromQ q) = jn (runQ q a) (b.foldl pstep (fromQ (runQ q a).fin))
  rw [from_fin (runQ_good q a), List.foldl_append]
  exact run_jn b (runQ q a)
end Mine
end

section
open PySem PySem.W PySem.Calls PyProof.Rows
set_option maxRecDepth 100000
set_option autoImplicit false
set_option linter.unusedVariables false
namespace Mine

/-! reading, put together -/
/-- the pairs that are read, or the first error -/
def kvs : List (List Nat) → List (Str × Str) ⊕ String
  | [] => .inl []
  | x :: xs => match keqv1 [] x with
    | .err c => .inr c
    | .val l => match kvs xs with
      | .inl r => .inl (l ++ r)
      | .inr c => .inr c
theorem dput_nil (k v : Str) : dput [] k v = [(k, v)] := rfl
theorem keqv1_any (ps : List (Str × Str)) (x : List Nat) : (∃ k v, keqv1 [] x = .val [(k, v)] ∧ keqv1 ps x = .val (dput ps k v)) ∨ ∃ c, keqv1 [] x = .err c ∧ keqv1 ps x = .err c := by
  unfold keqv1
  rcases cutAt_cases 61 x with h | ⟨k, v, h, _⟩
  · rw [h]; exact .inr ⟨_, rfl, rfl⟩
  · rw [h]
    by_cases hv : v = []
    · exact .inr ⟨"IndexError", by simp [hv], by simp [hv]⟩
    · exact .inl ⟨T k, T (unq v), by simp [hv, dput_nil], by simp [hv]⟩
theorem keqv_kvs : ∀ (xs : List (List Nat)) (ps : List (Str × Str)), keqv ps xs = match kvs xs with
    | .inl l => .val (dputs ps l)
    | .inr c => .err c
  | [], ps => rfl
  | x :: xs, ps => by
    rcases keqv1_any ps x with ⟨k, v, h1, h2⟩ | ⟨c, h1, h2⟩
    · simp only [keqv, kvs, h1, h2]
      rw [keqv_kvs xs]
      cases kvs xs <;> rfl
    · simp only [keqv, kvs, h1, h2]
theorem kvs_app : ∀ (xs ys : List (List Nat)), kvs (xs ++ ys) = match kvs xs with
    | .inr c => .inr c
    | .inl l => match kvs ys with
      | .inr c => .inr c
      | .inl r => .inl (l ++ r)
  | [], ys => by simp only [kvs, List.nil_append]; cases kvs ys <;> rfl
  | x :: xs, ys => by
    rcases keqv1_any [] x with ⟨k, v, h1, _⟩ | ⟨c, h1, _⟩
    · simp only [List.cons_append, kvs, h1]
      rw [kvs_app xs ys]
      cases kvs xs <;> cases kvs ys <;> simp
    · simp only [List.cons_append, kvs, h1]

def keys (ps : List (Str × Str)) : List Str := ps.map (·.1)
theorem dput_new {ps : List (Str × Str)} {k v : Str} (h : k ∉ keys ps) : dput ps k v = ps ++ [(k, v)] := by
  unfold dput
  rw [if_neg]
  intro q
  obtain ⟨p, hp, e⟩ := List.any_eq_true.mp q
  exact h (List.mem_map.mpr ⟨p, hp, by simpa using e⟩)
def over (k v : Str) (ps : List (Str × Str)) : List (Str × Str) := ps.map fun p => if p.1 = k then (p.1, v) else p
theorem dput_old {ps : List (Str × Str)} {k v : Str} (h : k ∈ keys ps) : dput ps k v = over k v ps := by
  unfold dput over
  rw [if_pos]
  obtain ⟨p, hp, e⟩ := List.mem_map.mp h
  exact List.any_eq_true.mpr ⟨p, hp, by simpa using e⟩
theorem keys_over (k v : Str) (ps : List (Str × Str)) : keys (over k v ps) = keys ps := by
  unfold keys over
  rw [List.map_map]
  refine List.map_congr_left fun p _ => ?_
  simp only [Function.comp]; split <;> rfl
theorem keys_dput (ps : List (Str × Str)) (k v : Str) : keys (dput ps k v) = if k ∈ keys ps then keys ps else keys ps ++ [k] := by
  by_cases h : k ∈ keys ps
  · rw [dput_old h, keys_over, if_pos h]
  · rw [dput_new h, if_neg h]; simp [keys]
theorem nodup_dput {ps : List (Str × Str)} {k v : Str} (h : (keys ps).Nodup) : (keys (dput ps k v)).Nodup := by
  rw [keys_dput]
  split
  · exact h
  · rename_i hk
    exact List.nodup_append.mpr ⟨h, by simp, fun a ha b hb q => by rw [List.mem_singleton.mp hb] at q; exact hk (q ▸ ha)⟩
theorem nodup_dputs : ∀ (l ps : List (Str × Str)), (keys ps).Nodup → (keys (dputs ps l)).Nodup
  | [], _, h => h
  | p :: l, ps, h => nodup_dputs l (dput ps p.1 p.2) (nodup_dput h)
theorem over_none {k v : Str} {ps : List (Str × Str)} (h : k ∉ keys ps) : over k v ps = ps := by
  unfold over
  have : ∀ p ∈ ps, (if p.1 = k then (p.1, v) else p) = p := fun p hp => by
    rw [if_neg]; intro q; exact h (List.mem_map.mpr ⟨p, hp, q⟩)
  rw [List.map_congr_left this]; simp
theorem dput_comm {X : List (Str × Str)} {k v k1 w : Str} (hk : k ∈ keys X) (hne : k ≠ k1) : dput (dput X k1 w) k v = dput (dput X k v) k1 w := by
  by_cases h1 : k1 ∈ keys X
  · rw [dput_old h1, dput_old hk, dput_old (by rw [keys_over]; exact hk), dput_old (by rw [keys_over]; exact h1)]
    unfold over
    rw [List.map_map, List.map_map]
    refine List.map_congr_left fun p _ => ?_
    simp only [Function.comp]
    by_cases e : p.1 = k1
    · have e2 : p.1 ≠ k := fun q => hne (q.symm.trans e)
      have h2 : (if p.1 = k1 then (p.1, w) else p) = (p.1, w) := if_pos e
      have h3 : (if p.1 = k then (p.1, v) else p) = p := if_neg e2
      rw [h2, h3, h2]; exact if_neg e2
    · have h2 : (if p.1 = k1 then (p.1, w) else p) = p := if_neg e
      by_cases e2 : p.1 = k
      · have h3 : (if p.1 = k then (p.1, v) else p) = (p.1, v) := if_pos e2
        rw [h2, h3]; exact (if_neg e).symm
      · have h3 : (if p.1 = k then (p.1, v) else p) = p := if_neg e2
        rw [h2, h3, h2]
  · rw [dput_new h1, dput_old hk, dput_old (by simp [keys] at hk ⊢; exact .inl hk), dput_new (by rw [keys_over]; exact h1)]
    unfold over
    rw [List.map_append]
    simp [Ne.symm hne]
theorem dput_twice {X : List (Str × Str)} {k v v1 : Str} : dput (dput X k v1) k v = dput X k v := by
  by_cases hk : k ∈ keys X
  · rw [dput_old hk, dput_old hk, dput_old (by rw [keys_over]; exact hk)]
    unfold over
    rw [List.map_map]
    refine List.map_congr_left fun p _ => ?_
    simp only [Function.comp]
    by_cases e : p.1 = k <;> simp [e]
  · rw [dput_new hk, dput_new hk, dput_old (by simp [keys])]
    have : over k v (X ++ [(k, v1)]) = over k v X ++ over k v [(k, v1)] := by unfold over; rw [List.map_append]
    rw [this, over_none hk]; simp [over]
theorem mem_dput {X : List (Str × Str)} {k v k1 : Str} (h : k ∈ keys X) : k ∈ keys (dput X k1 v) := by
  rw [keys_dput]; split
  · exact h
  · exact List.mem_append_left _ h
theorem mem_dput_self {X : List (Str × Str)} {k v : Str} : k ∈ keys (dput X k v) := by
  rw [keys_dput]; split
  · assumption
  · simp
theorem dputs_late : ∀ (Q X : List (Str × Str)) (k v : Str), k ∈ keys X → k ∉ keys Q → dput (dputs X Q) k v = dputs (dput X k v) Q
  | [], _, _, _, _, _ => rfl
  | (k1, w) :: Q, X, k, v, hX, hQ => by
    simp only [keys, List.map_cons, List.mem_cons, not_or] at hQ
    show dput (dputs (dput X k1 w) Q) k v = dputs (dput (dput X k v) k1 w) Q
    rw [dputs_late Q _ k v (mem_dput hX) hQ.2, dput_comm hX hQ.1]
theorem dputs_over : ∀ (Q P : List (Str × Str)) (k v : Str), (keys Q).Nodup → k ∈ keys Q → dputs P (over k v Q) = dput (dputs P Q) k v
  | [], _, _, _, _, h => nomatch h
  | (k1, w) :: Q, P, k, v, hn, hk => by
    simp only [keys, List.map_cons, List.nodup_cons] at hn
    by_cases e : k1 = k
    · subst e
      have h1 : over k1 v ((k1, w) :: Q) = (k1, v) :: Q := by
        show (if k1 = k1 then (k1, v) else (k1, w)) :: over k1 v Q = _
        rw [if_pos rfl, over_none hn.1]
      rw [h1]
      show dputs (dput P k1 v) Q = dput (dputs (dput P k1 w) Q) k1 v
      rw [dputs_late Q _ k1 v mem_dput_self hn.1, dput_twice]
    · have h1 : over k v ((k1, w) :: Q) = (k1, w) :: over k v Q := by
        show (if k1 = k then (k1, v) else (k1, w)) :: over k v Q = _
        rw [if_neg e]
      rw [h1]
      have hk' : k ∈ keys Q := by
        rcases List.mem_cons.mp hk with q | q
        · exact absurd q.symm e
        · exact q
      exact dputs_over Q (dput P k1 w) k v hn.2 hk'
theorem dputs_snoc (P : List (Str × Str)) (Q : List (Str × Str)) (k v : Str) : dputs P (Q ++ [(k, v)]) = dput (dputs P Q) k v := by unfold dputs; rw [List.foldl_append]; rfl
theorem dputs_dput (P Q : List (Str × Str)) (k v : Str) (hn : (keys Q).Nodup) : dputs P (dput Q k v) = dput (dputs P Q) k v := by
  by_cases h : k ∈ keys Q
  · rw [dput_old h, dputs_over Q P k v hn h]
  · rw [dput_new h, dputs_snoc]
theorem dputs_dputs : ∀ (l P Q : List (Str × Str)), (keys Q).Nodup → dputs P (dputs Q l) = dputs (dputs P Q) l
  | [], _, _, _ => rfl
  | (k, v) :: l, P, Q, h => by
    show dputs P (dputs (dput Q k v) l) = dputs (dput (dputs P Q) k v) l
    rw [dputs_dputs l P _ (nodup_dput h), dputs_dput P Q k v h]
theorem dputs_app (P a b : List (Str × Str)) : dputs P (a ++ b) = dputs (dputs P a) b := by unfold dputs; rw [List.foldl_append]
theorem readL_app (xs ys : List (List Nat)) : readL (xs ++ ys) = laidL (readL xs) (readL ys) := by
  unfold readL
  rw [List.filter_append, keqv_kvs, keqv_kvs, keqv_kvs, kvs_app]
  cases kvs (xs.filter fun x => decide (x ≠ [])) with
  | inr c => rfl
  | inl l =>
    cases kvs (ys.filter fun x => decide (x ≠ [])) with
    | inr c => rfl
    | inl r =>
      show KR.val (dputs [] (l ++ r)) = KR.val (dputs [] (dputs [] l ++ dputs [] r))
      rw [dputs_app, dputs_app, dputs_dputs r _ [] List.nodup_nil, dputs_dputs l [] [] List.nodup_nil]
      rfl
theorem readL_nil : readL [] = .val [] := rfl
end Mine
end

section
open PySem PySem.W PySem.Calls PyProof.Rows
set_option maxRecDepth 100000
set_option autoImplicit false
set_option linter.unusedVariables false
namespace Mine

def frontL (q : Nat) : List Nat := match q with | 0 => [60] | 1 => [34] | _ => [34, 92]
def headQ (q : Nat) : Nat := if q = 0 then 60 else 34
def askedL (q : Nat) (t : List Nat) : Ask :=
  { items := httpL (frontL q ++ t ++ [62]), inner := readL (pySl (httpL (frontL q ++ t ++ [62])) (some 1) (some (-1))),
    fin := if (httpL (frontL q ++ t ++ [62])).length < (httpL (frontL q ++ t ++ [44, 62])).length then 0 else if (httpL (frontL q ++ t ++ [62])).length < (httpL (frontL q ++ t ++ [34, 44, 62])).length then 1 else 2 }
/-- the items that are read from a head, a text and a sign behind -/
def itemsQ (h : Nat) (s : PS) : List (List Nat) := match s.res with
  | [] => [h :: (s.part ++ [62])]
  | x :: xs => (h :: rstripL x) :: (xs.map stripL ++ [s.part.dropWhile sp ++ [62]])
theorem sp62 : sp 62 = false := by decide
theorem spHead (q : Nat) : sp (headQ q) = false := by unfold headQ; split <;> decide

theorem front_run {q : Nat} (hq : q < 3) (t : List Nat) : (frontL q ++ t).foldl pstep ⟨[], [], false, false⟩ = jn ⟨[], [headQ q], decide (q = 2), decide (q ≠ 0)⟩ (runQ q t) := by
  rw [List.foldl_append]
  have : (frontL q).foldl pstep ⟨[], [], false, false⟩ = ⟨[], [headQ q], decide (q = 2), decide (q ≠ 0)⟩ := by
    match q, hq with
    | 0, _ => rfl
    | 1, _ => rfl
    | 2, _ => rfl
  rw [this, run_jn t]; rfl
/-- the state behind the head and the text -/
def full (q : Nat) (t : List Nat) : PS := jn ⟨[], [headQ q], decide (q = 2), decide (q ≠ 0)⟩ (runQ q t)
theorem full_good (q : Nat) (t : List Nat) : (full q t).good := by
  have := runQ_good q t
  unfold PS.good at *
  unfold full
  rw [(jn_esc _ _).1, (jn_esc _ _).2]; exact this
theorem full_fin (q : Nat) (t : List Nat) : (full q t).fin = (runQ q t).fin := by
  unfold PS.fin full; rw [(jn_esc _ _).1, (jn_esc _ _).2]
theorem step62 (s : PS) : (pstep s 62).res = s.res ∧ (pstep s 62).part = s.part ++ [62] := by
  unfold pstep; (repeat' split) <;> simp_all
theorem pend62 (s : PS) : pend (pstep s 62) = (s.res ++ [s.part ++ [62]]).map stripL := by
  obtain ⟨h1, h2⟩ := step62 s
  unfold pend; rw [h1, h2, if_neg (by simp)]
theorem http_front {q : Nat} (hq : q < 3) (t u : List Nat) : httpL (frontL q ++ t ++ u) = pend (u.foldl pstep (full q t)) := by
  unfold httpL; rw [List.foldl_append, front_run hq]; rfl
theorem http_items {q : Nat} (hq : q < 3) (t : List Nat) : httpL (frontL q ++ t ++ [62]) = itemsQ (headQ q) (runQ q t) := by
  rw [http_front hq]
  show pend (pstep (full q t) 62) = _
  rw [pend62]
  unfold full jn itemsQ
  cases h : (runQ q t).res with
  | nil =>
    show [stripL (([headQ q] ++ (runQ q t).part) ++ [62])] = [headQ q :: ((runQ q t).part ++ [62])]
    rw [strip_last sp62]
    show [(headQ q :: (runQ q t).part).dropWhile sp ++ [62]] = _
    rw [List.dropWhile_cons_of_neg (by simp [spHead q])]; rfl
  | cons x xs =>
    show ([] ++ ([headQ q] ++ x) :: xs ++ [(runQ q t).part ++ [62]]).map stripL = _
    rw [List.nil_append, List.map_append, List.map_cons, List.map_cons, List.map_nil, strip_last sp62]
    show stripL (headQ q :: x) :: _ ++ _ = _
    rw [strip_head (spHead q)]; rfl
theorem items_length (h : Nat) (s : PS) : (itemsQ h s).length = s.res.length + 1 := by
  unfold itemsQ; split <;> rename_i e <;> rw [e] <;> simp
theorem pend_length62 (s : PS) : (pend (pstep s 62)).length = s.res.length + 1 := by rw [pend62]; simp
theorem full_res_length (q : Nat) (t : List Nat) : (full q t).res.length = (runQ q t).res.length := by
  unfold full jn; split <;> rename_i e <;> rw [e] <;> simp
theorem step44 {s : PS} (hg : s.good) : (pstep s 44).res.length = s.res.length + (if s.fin = 0 then 1 else 0) := by
  obtain ⟨r, p, e, q⟩ := s
  unfold PS.good at hg
  cases e <;> cases q <;> simp_all [pstep, PS.fin]
theorem step34 {s : PS} (hg : s.good) : (pstep s 34).res = s.res ∧ (pstep s 34).fin = (if s.fin = 1 then 0 else 1) ∧ (pstep s 34).good := by
  refine ⟨?_, ?_, good_step hg⟩
  · obtain ⟨r, p, e, q⟩ := s
    unfold pstep; cases e <;> cases q <;> simp
  · obtain ⟨r, p, e, q⟩ := s
    unfold PS.good at hg
    cases e <;> cases q <;> simp_all [pstep, PS.fin]
theorem asked_fin {q : Nat} (hq : q < 3) (t : List Nat) : (askedL q t).fin = (runQ q t).fin := by
  show (if (httpL (frontL q ++ t ++ [62])).length < (httpL (frontL q ++ t ++ [44, 62])).length then 0 else if (httpL (frontL q ++ t ++ [62])).length < (httpL (frontL q ++ t ++ [34, 44, 62])).length then 1 else 2) = _
  have hg := full_good q t
  have e1 : (httpL (frontL q ++ t ++ [62])).length = (full q t).res.length + 1 := by rw [http_front hq]; exact pend_length62 _
  have e2 : (httpL (frontL q ++ t ++ [44, 62])).length = (full q t).res.length + (if (full q t).fin = 0 then 1 else 0) + 1 := by
    rw [http_front hq]; show (pend (pstep (pstep (full q t) 44) 62)).length = _; rw [pend_length62, step44 hg]
  have e3 : (httpL (frontL q ++ t ++ [34, 44, 62])).length = (full q t).res.length + (if (full q t).fin = 1 then 1 else 0) + 1 := by
    rw [http_front hq]; show (pend (pstep (pstep (pstep (full q t) 34) 44) 62)).length = _
    obtain ⟨h1, h2, h3⟩ := step34 hg
    rw [pend_length62, step44 h3, h1, h2]
    by_cases q : (full q t).fin = 1 <;> simp [q]
  rw [e1, e2, e3, ← full_fin]
  have h3 := fin_lt (full q t)
  by_cases h0 : (full q t).fin = 0
  · rw [if_pos h0, if_pos (by omega), h0]
  · rw [if_neg h0, if_neg (by omega)]
    by_cases h1 : (full q t).fin = 1
    · rw [if_pos h1, if_pos (by omega), h1]
    · rw [if_neg h1, if_neg (by omega)]; omega
theorem asked_eq {q : Nat} (hq : q < 3) (t : List Nat) : askedL q t = ⟨itemsQ (headQ q) (runQ q t), readL (itemsQ (headQ q) (runQ q t)).tail.dropLast, (runQ q t).fin⟩ := by
  have h1 := asked_fin hq t
  have h2 : (askedL q t).items = itemsQ (headQ q) (runQ q t) := http_items hq t
  have h3 : (askedL q t).inner = readL (itemsQ (headQ q) (runQ q t)).tail.dropLast := by
    show readL (pySl (httpL (frontL q ++ t ++ [62])) (some 1) (some (-1))) = _
    rw [http_items hq, pySl_inner]
  cases h : askedL q t with
  | mk a b c => rw [h] at h1 h2 h3; simp only at h1 h2 h3; rw [h1, h2, h3]

/-- two readings put together -/
def seamL (x y : Ask) : List Nat := stripL (pySl (x.items[x.items.length - 1]?.getD []) none (some (-1)) ++ pySl (y.items[0]?.getD []) (some 1) none)
def glue2 (x y : Ask) : Ask :=
  { items := pySl x.items none (some (-1)) ++ [seamL x y] ++ pySl y.items (some 1) none,
    inner := if 1 < x.items.length ∧ 1 < y.items.length then laidL (laidL x.inner (readL [seamL x y])) y.inner else if 1 < y.items.length then y.inner else x.inner,
    fin := y.fin }
theorem items_tail_last (h : Nat) (s : PS) (x : List Nat) (xs : List (List Nat)) (e : s.res = x :: xs) : (itemsQ h s).tail.dropLast = xs.map stripL := by
  unfold itemsQ; rw [e]; simp
theorem glue_asked {q : Nat} (hq : q < 3) (a b : List Nat) : glue2 (askedL q a) (askedL (askedL q a).fin b) = askedL q (a ++ b) := by
  have hf := asked_fin hq a
  have hf3 : (runQ q a).fin < 3 := fin_lt _
  rw [hf, asked_eq hq a, asked_eq hf3 b, asked_eq hq (a ++ b), runQ_app]
  generalize headQ (runQ q a).fin = h'
  generalize hs : runQ q a = s
  generalize hu : runQ s.fin b = u
  have hh := spHead q
  generalize headQ q = h at *
  obtain ⟨r1, p1, e1, q1⟩ := s
  obtain ⟨r2, p2, e2, q2⟩ := u
  cases r1 with
  | nil =>
    cases r2 with
    | nil =>
      have i1 : itemsQ h ⟨[], p1, e1, q1⟩ = [h :: (p1 ++ [62])] := rfl
      have i2 : itemsQ h' ⟨[], p2, e2, q2⟩ = [h' :: (p2 ++ [62])] := rfl
      have i3 : jn ⟨[], p1, e1, q1⟩ ⟨[], p2, e2, q2⟩ = ⟨[], p1 ++ p2, e2, q2⟩ := rfl
      have i4 : itemsQ h ⟨[], p1 ++ p2, e2, q2⟩ = [h :: (p1 ++ p2 ++ [62])] := rfl
      have sm : stripL ((h :: (p1 ++ [62])).dropLast ++ (h' :: (p2 ++ [62])).tail) = h :: (p1 ++ p2 ++ [62]) := by
        rw [show h :: (p1 ++ [62]) = (h :: p1) ++ [62] from rfl, List.dropLast_concat]
        show stripL (h :: (p1 ++ (p2 ++ [62]))) = _
        rw [strip_head hh, ← List.append_assoc, rstrip_last sp62]
      rw [i3, i1, i2, i4]
      unfold glue2 seamL
      simp only [pySl_init, pySl_tail, List.length_cons, List.length_nil]
      show Ask.mk ([] ++ [stripL ((h :: (p1 ++ [62])).dropLast ++ (h' :: (p2 ++ [62])).tail)] ++ []) _ _ = _
      rw [sm]; rfl
    | cons y ys =>
      have i1 : itemsQ h ⟨[], p1, e1, q1⟩ = [h :: (p1 ++ [62])] := rfl
      have i2 : itemsQ h' ⟨y :: ys, p2, e2, q2⟩ = (h' :: rstripL y) :: (ys.map stripL ++ [p2.dropWhile sp ++ [62]]) := rfl
      have i3 : jn ⟨[], p1, e1, q1⟩ ⟨y :: ys, p2, e2, q2⟩ = ⟨(p1 ++ y) :: ys, p2, e2, q2⟩ := rfl
      have i4 : itemsQ h ⟨(p1 ++ y) :: ys, p2, e2, q2⟩ = (h :: rstripL (p1 ++ y)) :: (ys.map stripL ++ [p2.dropWhile sp ++ [62]]) := rfl
      have sm : stripL ((h :: (p1 ++ [62])).dropLast ++ (h' :: rstripL y).tail) = h :: rstripL (p1 ++ y) := by
        rw [show h :: (p1 ++ [62]) = (h :: p1) ++ [62] from rfl, List.dropLast_concat]
        show stripL ((h :: p1) ++ rstripL y) = _
        rw [strip_r]; exact strip_head hh _
      rw [i3, i1, i2, i4]
      unfold glue2 seamL
      simp only [pySl_init, pySl_tail]
      show Ask.mk ([] ++ [stripL ((h :: (p1 ++ [62])).dropLast ++ (h' :: rstripL y).tail)] ++ (ys.map stripL ++ [p2.dropWhile sp ++ [62]])) (if _ ∧ _ then _ else if 1 < (_ :: (ys.map stripL ++ [p2.dropWhile sp ++ [62]])).length then _ else _) _ = _
      rw [sm, if_neg (by simp), if_pos (by simp)]; rfl
  | cons x xs =>
    have i1 : itemsQ h ⟨x :: xs, p1, e1, q1⟩ = (h :: rstripL x) :: (xs.map stripL ++ [p1.dropWhile sp ++ [62]]) := rfl
    have l1 : ((itemsQ h ⟨x :: xs, p1, e1, q1⟩)[(itemsQ h ⟨x :: xs, p1, e1, q1⟩).length - 1]?.getD []) = p1.dropWhile sp ++ [62] := by rw [i1]; simp
    have d1 : (itemsQ h ⟨x :: xs, p1, e1, q1⟩).dropLast = (h :: rstripL x) :: xs.map stripL := by
      rw [i1, ← List.cons_append, List.dropLast_concat]
    cases r2 with
    | nil =>
      have i2 : itemsQ h' ⟨[], p2, e2, q2⟩ = [h' :: (p2 ++ [62])] := rfl
      have i3 : jn ⟨x :: xs, p1, e1, q1⟩ ⟨[], p2, e2, q2⟩ = ⟨x :: xs, p1 ++ p2, e2, q2⟩ := rfl
      have i4 : itemsQ h ⟨x :: xs, p1 ++ p2, e2, q2⟩ = (h :: rstripL x) :: (xs.map stripL ++ [(p1 ++ p2).dropWhile sp ++ [62]]) := rfl
      have sm : stripL ((p1.dropWhile sp ++ [62]).dropLast ++ (h' :: (p2 ++ [62])).tail) = (p1 ++ p2).dropWhile sp ++ [62] := by
        rw [List.dropLast_concat]
        show stripL (p1.dropWhile sp ++ (p2 ++ [62])) = _
        rw [strip_l, ← List.append_assoc, strip_last sp62]
      rw [i3]
      unfold glue2 seamL
      simp only [pySl_init, pySl_tail]
      rw [l1, d1, i2]
      show Ask.mk (_ ++ [stripL ((p1.dropWhile sp ++ [62]).dropLast ++ (h' :: (p2 ++ [62])).tail)] ++ []) (if _ ∧ 1 < 1 then _ else if 1 < 1 then _ else _) _ = _
      rw [sm, if_neg (by omega), if_neg (by omega), i4, i1]
      simp; rfl
    | cons y ys =>
      have i2 : itemsQ h' ⟨y :: ys, p2, e2, q2⟩ = (h' :: rstripL y) :: (ys.map stripL ++ [p2.dropWhile sp ++ [62]]) := rfl
      have i3 : jn ⟨x :: xs, p1, e1, q1⟩ ⟨y :: ys, p2, e2, q2⟩ = ⟨x :: xs ++ (p1 ++ y) :: ys, p2, e2, q2⟩ := rfl
      have i4 : itemsQ h ⟨x :: xs ++ (p1 ++ y) :: ys, p2, e2, q2⟩ = (h :: rstripL x) :: ((xs ++ (p1 ++ y) :: ys).map stripL ++ [p2.dropWhile sp ++ [62]]) := rfl
      have sm : stripL ((p1.dropWhile sp ++ [62]).dropLast ++ (h' :: rstripL y).tail) = stripL (p1 ++ y) := by
        rw [List.dropLast_concat]
        show stripL (p1.dropWhile sp ++ rstripL y) = _
        rw [strip_l, strip_r]
      rw [i3]
      have t1 : (itemsQ h ⟨x :: xs, p1, e1, q1⟩).tail.dropLast = xs.map stripL := items_tail_last h _ x xs rfl
      have t2 : (itemsQ h' ⟨y :: ys, p2, e2, q2⟩).tail.dropLast = ys.map stripL := items_tail_last h' _ y ys rfl
      have t3 : (itemsQ h ⟨x :: xs ++ (p1 ++ y) :: ys, p2, e2, q2⟩).tail.dropLast = (xs ++ (p1 ++ y) :: ys).map stripL := items_tail_last h _ x _ rfl
      unfold glue2 seamL
      simp only [pySl_init, pySl_tail]
      rw [t1, t2, t3, l1, d1, if_pos ⟨by rw [i1]; simp, by rw [i2]; simp⟩, i2]
      show Ask.mk (_ ++ [stripL ((p1.dropWhile sp ++ [62]).dropLast ++ (h' :: rstripL y).tail)] ++ (ys.map stripL ++ [p2.dropWhile sp ++ [62]])) (laidL (laidL _ (readL [stripL ((p1.dropWhile sp ++ [62]).dropLast ++ (h' :: rstripL y).tail)])) _) _ = _
      rw [sm, ← readL_app, ← readL_app, i4]
      simp; rfl
end Mine
end

section
open PySem PySem.W PySem.Calls PyProof.Rows
set_option maxRecDepth 100000
set_option autoImplicit false
set_option linter.unusedVariables false
namespace Mine

/-! plain texts -/
theorem plain_run : ∀ (t p : List Nat) (e q : Bool), (e = true → q = true) → (∀ c ∈ t, c ≠ 44 ∧ c ≠ 34 ∧ c ≠ 92) → t.foldl pstep ⟨[], p, e, q⟩ = ⟨[], p ++ t, e && decide (t = []), q⟩
  | [], p, e, q, _, _ => by simp
  | c :: t, p, e, q, he, h => by
    obtain ⟨h1, h2, h3⟩ := h c (.head _)
    have st : pstep ⟨[], p, e, q⟩ c = ⟨[], p ++ [c], false, q⟩ := by
      unfold pstep
      cases e <;> cases q <;> simp_all
    rw [List.foldl_cons, st, plain_run t _ _ _ (fun q => by cases q) fun c hc => h c (.tail _ hc)]
    simp
theorem asked_plain {q : Nat} (hq : q < 3) {t : List Nat} (h : ∀ c ∈ t, c ≠ 44 ∧ c ≠ 34 ∧ c ≠ 92) : toldA q t = askedL q t := by
  have hr : runQ q t = ⟨[], t, decide (q = 2) && decide (t = []), decide (q ≠ 0)⟩ := plain_run t [] _ _ (fun e => by
    have : q = 2 := by simpa using e
    subst this; rfl) h
  have n1 : t ≠ [44] := fun e => (h 44 (by rw [e]; exact .head _)).1 rfl
  have n2 : t ≠ [92] := fun e => (h 92 (by rw [e]; exact .head _)).2.2 rfl
  have n3 : t ≠ [34] := fun e => (h 34 (by rw [e]; exact .head _)).2.1 rfl
  rw [asked_eq hq, hr]
  unfold toldA
  rw [if_neg fun e => n1 e.2, if_neg fun e => n2 e.2]
  have e1 : (if q < 2 ∧ t = [34] then 1 - q else q) = q := if_neg fun e => n3 e.2
  rw [e1]
  have e2 : PS.fin ⟨[], t, decide (q = 2) && decide (t = []), decide (q ≠ 0)⟩ = if q = 2 ∧ t ≠ [] then 1 else q := by
    unfold PS.fin
    match q, hq with
    | 0, _ => simp
    | 1, _ => simp
    | 2, _ => by_cases ht : t = [] <;> simp [ht]
  rw [e2]
  have e3 : itemsQ (headQ q) ⟨[], t, decide (q = 2) && decide (t = []), decide (q ≠ 0)⟩ = [(if q = 0 then [60] else [34]) ++ t ++ [62]] := by
    show [headQ q :: (t ++ [62])] = _
    unfold headQ; by_cases hz : q = 0 <;> simp [hz]
  rw [e3]; rfl
theorem told_asked {q : Nat} (hq : q < 3) {t : List Nat} (h : simpleL t = true) : toldA q t = askedL q t := by
  by_cases hp : ∀ c ∈ t, c ≠ 44 ∧ c ≠ 34 ∧ c ≠ 92
  · exact asked_plain hq hp
  · have hl : t.length < 2 := by
      unfold simpleL at h
      simp only [Bool.or_eq_true, decide_eq_true_eq, Bool.and_eq_true, Bool.not_eq_true', decide_eq_false_iff_not] at h
      rcases h with h | ⟨h1, h2, h3⟩
      · exact h
      · exact absurd (fun c hc => ⟨fun e => h1 (e ▸ hc), fun e => h2 (e ▸ hc), fun e => h3 (e ▸ hc)⟩) hp
    match t, hl with
    | [], _ => exact absurd (fun c hc => nomatch hc) hp
    | [c], _ =>
      have hc : c = 44 ∨ c = 34 ∨ c = 92 := by
        rcases Nat.decEq c 44 with a | a <;> rcases Nat.decEq c 34 with b | b <;> rcases Nat.decEq c 92 with d | d <;> first | exact .inl a | exact .inl ‹c = 44› | exact .inr (.inl ‹c = 34›) | exact .inr (.inr ‹c = 92›) | skip
        exact absurd (fun x hx => by rw [List.mem_singleton.mp hx]; exact ⟨a, b, d⟩) hp
      rw [asked_eq hq]
      rcases hc with rfl | rfl | rfl <;> (match q, hq with
        | 0, _ => rfl
        | 1, _ => rfl
        | 2, _ => rfl)

/-! the whole -/
def toldOf (items : List (List Nat)) : List (List Nat) :=
  (pySl (pySl (items[0]?.getD []) (some 1) none :: pySl items (some 1) none) none (some (-1)) ++
    [pySl ((pySl (items[0]?.getD []) (some 1) none :: pySl items (some 1) none)[(pySl (items[0]?.getD []) (some 1) none :: pySl items (some 1) none).length - 1]?.getD []) none (some (-1))]).map stripL
theorem told_of (h : Nat) (s : PS) : toldOf (itemsQ h s) = (s.res ++ [s.part]).map stripL := by
  obtain ⟨r, p, e, q⟩ := s
  unfold toldOf
  simp only [pySl_tail, pySl_init]
  cases r with
  | nil =>
    show ([] ++ [(p ++ [62]).dropLast]).map stripL = _
    rw [List.dropLast_concat]
  | cons x xs =>
    have e1 : itemsQ h ⟨x :: xs, p, e, q⟩ = (h :: rstripL x) :: (xs.map stripL ++ [p.dropWhile sp ++ [62]]) := rfl
    have e2 : ∀ z : List Nat, (z :: (xs.map stripL ++ [p.dropWhile sp ++ [62]])).dropLast = z :: xs.map stripL := fun z => by rw [← List.cons_append, List.dropLast_concat]
    rw [e1]
    show ((rstripL x :: (xs.map stripL ++ [p.dropWhile sp ++ [62]])).dropLast ++ [((rstripL x :: (xs.map stripL ++ [p.dropWhile sp ++ [62]]))[(rstripL x :: (xs.map stripL ++ [p.dropWhile sp ++ [62]])).length - 1]?.getD []).dropLast]).map stripL = _
    have e3 : ((rstripL x :: (xs.map stripL ++ [p.dropWhile sp ++ [62]]))[(rstripL x :: (xs.map stripL ++ [p.dropWhile sp ++ [62]])).length - 1]?.getD []) = p.dropWhile sp ++ [62] := by simp
    rw [e3, e2, List.dropLast_concat, List.map_append, List.map_cons, List.map_cons, List.map_nil, strip_rstrip, strip_lstrip, List.map_map]
    have : (stripL ∘ stripL) = stripL := by funext z; exact strip_strip z
    rw [this]; simp
theorem http_whole (t : List Nat) : httpL t = (if (runQ 0 t).part = [] then (runQ 0 t).res else (runQ 0 t).res ++ [(runQ 0 t).part]).map stripL := rfl
def PS.held (s : PS) : Prop := s.quote = true → s.part ≠ []
theorem held_step {s : PS} {c : Nat} (hg : s.good) (h : s.held) : (pstep s c).held := by
  obtain ⟨r, p, e, q⟩ := s
  unfold PS.good at hg
  unfold PS.held at *
  unfold pstep
  cases e <;> cases q <;> simp_all <;> (repeat' split) <;> simp_all
theorem held_run : ∀ (t : List Nat) {s : PS}, s.good → s.held → (t.foldl pstep s).held
  | [], _, _, h => h
  | c :: t, _, hg, h => held_run t (good_step hg) (held_step hg h)
theorem part_step {s : PS} {c : Nat} (hg : s.good) (h : s.held) : (pstep s c).part = [] ↔ c = 44 ∧ s.fin = 0 := by
  obtain ⟨r, p, e, q⟩ := s
  unfold PS.good at hg
  unfold PS.held at h
  unfold pstep PS.fin
  cases e <;> cases q <;> simp_all <;> (repeat' split) <;> simp_all
theorem part_nil (t : List Nat) : (runQ 0 t).part = [] ↔ t = [] ∨ (t.getLast? = some 44 ∧ (askedL 0 t.dropLast).fin = 0) := by
  rcases List.eq_nil_or_concat t with rfl | ⟨u, c, rfl⟩
  · exact ⟨fun _ => .inl rfl, fun _ => rfl⟩
  · rw [List.concat_eq_append]
    have e1 : runQ 0 (u ++ [c]) = pstep (runQ 0 u) c := by unfold runQ; rw [List.foldl_append]; rfl
    rw [e1, part_step (runQ_good 0 u) (held_run u (fromQ_good 0) (fun q => by cases q)), asked_fin (by decide), List.dropLast_concat]
    constructor
    · rintro ⟨rfl, h⟩; exact .inr ⟨by simp, h⟩
    · rintro (h | ⟨h, h2⟩)
      · simp at h
      · exact ⟨by simpa using h, h2⟩
theorem final_read (t : List Nat) : readL (httpL t) = laidL (laidL (readL ((httpL t).take 1)) (readL (itemsQ 60 (runQ 0 t)).tail.dropLast)) (readL (if (itemsQ 60 (runQ 0 t)).length < 3 then (httpL t).tail else (httpL t).drop ((itemsQ 60 (runQ 0 t)).length - 1))) := by
  rw [← readL_app, ← readL_app]
  refine congrArg readL ?_
  rw [items_length, http_whole]
  generalize runQ 0 t = s
  obtain ⟨r, p, e, q⟩ := s
  have key : ∀ l : List (List Nat), l.take 1 ++ [] ++ l.tail = l := fun l => by cases l <;> simp
  match r with
  | [] =>
    rw [if_pos (show (PS.mk [] p e q).res.length + 1 < 3 by simp)]
    show _ = _ ++ [] ++ _
    rw [key]
  | [x] =>
    rw [if_pos (show (PS.mk [x] p e q).res.length + 1 < 3 by simp)]
    have : (itemsQ 60 ⟨[x], p, e, q⟩).tail.dropLast = [] := items_tail_last 60 _ x [] rfl
    rw [this, key]
  | x :: y :: ys =>
    rw [if_neg (show ¬ (PS.mk (x :: y :: ys) p e q).res.length + 1 < 3 by simp)]
    have : (itemsQ 60 ⟨x :: y :: ys, p, e, q⟩).tail.dropLast = (y :: ys).map stripL := items_tail_last 60 _ x _ rfl
    rw [this]
    by_cases hp : p = []
    · simp [hp]
    · simp [hp]

/-! one item -/
theorem unq_cases {v : List Nat} (hv : v ≠ []) : (unq v = v ∧ (v.head? ≠ some 34 ∨ v.getLast? ≠ some 34)) ∨ (∃ u, v = 34 :: (u ++ [34]) ∧ unq v = u) ∨ (v = [34] ∧ unq v = []) := by
  by_cases h : v.head? = some 34 ∧ v.getLast? = some 34
  · have e : unq v = v.tail.dropLast := by unfold unq; rw [if_pos h, pySl_inner]
    cases v with
    | nil => exact absurd rfl hv
    | cons a r =>
      have ha : a = 34 := by simpa using h.1
      subst ha
      rcases List.eq_nil_or_concat r with rfl | ⟨u, c, rfl⟩
      · exact .inr (.inr ⟨rfl, e⟩)
      · rw [List.concat_eq_append] at *
        have hc : c = 34 := by have := h.2; rw [← List.cons_append, List.getLast?_append] at this; simpa using this
        subst hc
        exact .inr (.inl ⟨u, rfl, by rw [e]; simp⟩)
  · refine .inl ⟨by unfold unq; rw [if_neg h], ?_⟩
    by_cases h1 : v.head? = some 34
    · exact .inr fun h2 => h ⟨h1, h2⟩
    · exact .inl h1
theorem cut_split {c : Nat} : ∀ {l : List Nat}, c ∈ l → ∃ k v, l = k ++ c :: v ∧ c ∉ k
  | a :: l, h => by
    by_cases ha : a = c
    · exact ⟨[], l, by rw [ha]; rfl, fun q => nomatch q⟩
    · have : c ∈ l := by
        rcases List.mem_cons.mp h with q | q
        · exact absurd q.symm ha
        · exact q
      obtain ⟨k, v, e, hk⟩ := cut_split this
      refine ⟨a :: k, v, by rw [e]; rfl, fun q => ?_⟩
      rcases List.mem_cons.mp q with q | q
      · exact ha q.symm
      · exact hk q
theorem cutAt_at {c : Nat} {k v : List Nat} (h : c ∉ k) : cutAt c (k ++ c :: v) = [k, v] := by
  unfold cutAt
  have hk : ∀ x ∈ k, (x != c) = true := fun x hx => by simp only [bne_iff_ne, ne_eq]; intro e; exact h (e ▸ hx)
  rw [if_pos (by simp), List.takeWhile_append_of_pos hk, dropWhile_all _ hk]
  simp
theorem one_cases {x : List Nat} (hx : x ≠ []) : (61 ∉ x ∧ readL [x] = .err "ValueError") ∨ (∃ k, x = k ++ [61] ∧ 61 ∉ k ∧ readL [x] = .err "IndexError") ∨
    ∃ k v, v ≠ [] ∧ x = k ++ 61 :: v ∧ 61 ∉ k ∧ readL [x] = .val [(T k, T (unq v))] := by
  have hf : readL [x] = keqv [] [x] := by unfold readL; rw [List.filter_cons_of_pos (by simpa using hx)]; rfl
  by_cases h : 61 ∈ x
  · obtain ⟨k, v, rfl, hk⟩ := cut_split h
    by_cases hv : v = []
    · subst hv
      exact .inr (.inl ⟨k, rfl, hk, by rw [hf]; simp [keqv, keqv1, cutAt_at hk]⟩)
    · exact .inr (.inr ⟨k, v, hv, rfl, hk, by rw [hf]; simp [keqv, keqv1, cutAt_at hk, hv, dput_nil]⟩)
  · exact .inl ⟨h, by rw [hf]; simp [keqv, keqv1, cutAt, h]⟩
end Mine
end

section
open PySem PySem.W PySem.Calls PyProof.Rows
set_option maxRecDepth 100000
set_option autoImplicit false
set_option linter.unusedVariables false
namespace Mine

section
variable {a : Act} {E : Value → Shared → Prop} {ρ : Ro} {P : PyData → Nat → Prop}
/-- text + text -/
theorem Ev.addText (O : a.Ok) {l r : Expr} {pos : Pos} {x y : List Nat} (hl : Ev a E ρ l fun d _ => d = .str (T x)) (hr : Ev a E ρ r fun d _ => d = .str (T y)) (hsz : x.length + y.length ≤ 5000) (h : P (.str (T (x ++ y))) 2) : Ev a E ρ (.BinOp l .Add r pos) P := by
  refine Ev.binop O (Run.mono hl fun d _ e => ?_)
  subst e
  refine Run.mono hr fun d _ e => ?_
  subst e
  refine ⟨by rw [T_length, T_length]; exact size_small hsz, ?_⟩
  rw [T_append]; exact h
theorem EvT.notInText (O : a.Ok) {l r : Expr} {pos : Pos} {c : Nat} {y : List Nat} (hl : Ev a E ρ l fun d _ => d = .str (T [c])) (hr : Ev a E ρ r fun d _ => d = .str (T y)) (hm : behindInMarks .NotIn r = false := by with_unfolding_all rfl) :
    EvT a E ρ (.Compare l [.NotIn] [r] pos) (· = !decide (c ∈ y)) := by
  refine EvT.cmp O (Run.mono hl fun d _ e => ?_) hm
  subst e
  refine Run.mono hr fun d _ e => ?_
  subst e
  exact CmpOk.notIn (by rw [contains_T])
theorem EvT.inText (O : a.Ok) {l r : Expr} {pos : Pos} {c : Nat} {y : List Nat} (hl : Ev a E ρ l fun d _ => d = .str (T [c])) (hr : Ev a E ρ r fun d _ => d = .str (T y)) (hm : behindInMarks .In r = false := by with_unfolding_all rfl) :
    EvT a E ρ (.Compare l [.In] [r] pos) (· = decide (c ∈ y)) := by
  refine EvT.cmp O (Run.mono hl fun d _ e => ?_) hm
  subst e
  refine Run.mono hr fun d _ e => ?_
  subst e
  exact CmpOk.isIn (by rw [contains_T])
/-- text == text, a value -/
theorem Ev.eqText (O : a.Ok) {l r : Expr} {pos : Pos} {x y : List Nat} (hl : Ev a E ρ l fun d _ => d = .str (T x)) (hr : Ev a E ρ r fun d _ => d = .str (T y)) (h : P (.bool (decide (x = y))) 2) (hm : behindInMarks .Eq r = false := by with_unfolding_all rfl) :
    Ev a E ρ (.Compare l [.Eq] [r] pos) P := by
  refine Ev.cmp O (Run.mono hl fun d _ e => ?_) hm
  subst e
  refine Run.mono hr fun d _ e => ?_
  subst e
  refine CmpOk.eq (EqOk.str ?_)
  rw [show (T x == T y) = decide (x = y) by rw [Bool.eq_iff_iff, beq_iff_eq, decide_eq_true_eq, T_inj]]; exact h
theorem Ev.neText (O : a.Ok) {l r : Expr} {pos : Pos} {x y : List Nat} (hl : Ev a E ρ l fun d _ => d = .str (T x)) (hr : Ev a E ρ r fun d _ => d = .str (T y)) (h : P (.bool (!decide (x = y))) 2) (hm : behindInMarks .NotEq r = false := by with_unfolding_all rfl) :
    Ev a E ρ (.Compare l [.NotEq] [r] pos) P := by
  refine Ev.cmp O (Run.mono hl fun d _ e => ?_) hm
  subst e
  refine Run.mono hr fun d _ e => ?_
  subst e
  refine CmpOk.ne (EqOk.str ?_)
  rw [show (T x == T y) = decide (x = y) by rw [Bool.eq_iff_iff, beq_iff_eq, decide_eq_true_eq, T_inj]]; exact h
/-- a text's sign -/
theorem Ev.signAt (O : a.Ok) {x : Str} {p1 pos : Pos} {slice : Expr} {l : List Nat} {i : Int} {c : Nat} (hx : ρ.look x = some ⟨.str (T l), false⟩) (hs : Ev a E ρ slice fun d _ => d = .int i) (hc : Txt.charAt (T l) i = some c) (hi : -(2 ^ 62) ≤ i ∧ i < 2 ^ 62) (h : P (.str (T [c])) 2)
    (hl : a.env.kindOf x = some .local := by rfl) (hd : (x == ("__debug__" : Str)) = false := by decide) (hsub : ∀ o i, subscripted slice false o i = operate [o, i] (getItem o i) := by intro _ _; rfl) : Ev a E ρ (.Subscript (.Name x p1) slice pos) P := by
  refine Ev.item O (Ev.name O hx ⟨fun q => absurd q (by decide), Run.mono hs fun d _ e => ?_⟩ hl hd) hsub
  subst e
  exact ⟨by rw [hc]; rfl, hi.1, hi.2, by rw [item_T hc]; exact h⟩
end

set_option maxHeartbeats 4000000 in
/-- _law_one -/
theorem one_ex {D : Wd} {A : Around} {fd : FuncData} {L fa : Addr} {stk : List Env} {H1 : Heap} {args : List Addr} (O : (mkAct D A fd L fa stk H1 args 2).Ok) (hfd : fd.scope = defScope (S2 7)) (E : Value → Shared → Prop)
    {x : List Nat} (hx : x ≠ []) (hlen : x.length ≤ 1000) (hg : D.mg "len" = none)
    (hread : Fn D 1 "_law_read" [.list (texts [x])] fun d => d = (readL [x]).dat) :
    Ex (mkAct D A fd L fa stk H1 args 2) E (slots ["item"] [.str (T x)]) (defBody (S2 7)) (fun _ => False) (fun _ d => d = .bool true) (fun _ => False) := by
  obtain ⟨name, qualname, params, body, scope, globals, closure, dv, kv, doc, pm, an, cd, ct, bt⟩ := fd
  dsimp only at hfd
  subst hfd
  have q61 : (Str.ofString "=") = T [61] := rfl
  have hl : (T x).length ≤ sizeLine := by rw [T_length]; exact size_small (by omega)
  refine Ex.seq (fun ρ' => ρ'.look "item" = some ⟨.str (T x), false⟩ ∧ ρ'.look "said" = some ⟨(readL [x]).dat, false⟩) (Ex1.assign O false (Ev.call (k := 1) O (EvL.cons O (Ev.list O (EvL.cons O (Ev.name (d := .str (T x)) (o := false) O (by ((repeat' (first | exact Mine.Ro.set_get _ _ _ | refine Mine.Ro.set_other (by decide) ?_ | assumption | rfl)); done)) (EvL.nil ⟨by decide, (by first | decide | (simp only [List.length_cons, List.length_nil]; exact Nat.le_trans (by omega) (show 10 ≤ PySem.sizeLine by decide))), EvL.nil ⟨_, hread, fun d hd => ?_⟩⟩))))) (hk := Nat.le_of_ble_eq_true rfl) (hfn := by obtain ⟨fa, h, _⟩ := hread; exact ⟨fa, h⟩))) (fun ρ' h => ?_)
  · subst hd
    exact ⟨.inl (by decide), by split <;> decide, nofun, by ((repeat' (first | exact Mine.Ro.set_get _ _ _ | refine Mine.Ro.set_other (by decide) ?_ | assumption | rfl)); done), by ((repeat' (first | exact Mine.Ro.set_get _ _ _ | refine Mine.Ro.set_other (by decide) ?_ | assumption | rfl)); done)⟩
  obtain ⟨r1, r2⟩ := h
  have q34 : (Str.ofString "\"") = T [34] := rfl
  rcases one_cases hx with ⟨hn, hr⟩ | ⟨k, hk, hn, hr⟩ | ⟨k, v, hv, hk, hn, hr⟩
  · rw [hr] at r2
    refine Ex.cons (Ex1.ifB (!decide (61 ∈ x)) (EvT.notInText O (c := 61) (y := x) (Ev.str rfl) (Ev.name O r1 rfl)) (fun _ => ?_) fun q => by simp [hn] at q)
    refine Ex.cons (Ex1.ret O (Ev.cmp O (Ev.name (d := .str (Str.ofString "ValueError")) (o := false) O r2 (Ev.str (CmpOk.eq (EqOk.str ?_))))))
    rw [beq_self_eq_true]
  · rw [hr] at r2
    have hin : 61 ∈ x := by rw [hk]; simp
    have hsl : T (pySl (T x).cps.toList none (some (-1))) = T k := by
      have e2 : (T x).cps.toList = x := by simp
      rw [e2, pySl_init, hk, List.dropLast_concat]
    refine Ex.cons (Ex1.ifB (!decide (61 ∈ x)) (EvT.notInText O (c := 61) (y := x) (Ev.str rfl) (Ev.name O r1 rfl)) (fun q => by simp [hin] at q) fun _ => Ex.nil ?_)
    refine Ex.cons (Ex1.ifB (!decide (61 ∈ k)) (EvT.notInText O (c := 61) (y := k) (Ev.str rfl) (Ev.slice O (Ev.name (d := .str (T x)) (o := false) O r1 (Ev.neg O ⟨-1, rfl, hl, by rw [hsl]⟩)))) (fun _ => ?_) fun q => by simp [hn] at q)
    refine Ex.cons (Ex1.ret O (Ev.cmp O (Ev.name (d := .str (Str.ofString "IndexError")) (o := false) O r2 (Ev.str (CmpOk.eq (EqOk.str ?_))))))
    rw [beq_self_eq_true]
  · rw [hr] at r2
    have r2' : ρ'.look "said" = some ⟨.list [.tuple [.str (T k), .str (T (unq v))]], false⟩ := r2
    have hin : 61 ∈ x := by rw [hk]; simp
    have hxl : x.length = k.length + (v.length + 1) := by rw [hk]; simp
    have hsl : T (pySl (T x).cps.toList none (some (-1))) = T (k ++ 61 :: v.dropLast) := by
      have e2 : (T x).cps.toList = x := by simp
      rw [e2, pySl_init, hk, List.dropLast_append_of_ne_nil (by simp), List.dropLast_cons_of_ne_nil hv]
    refine Ex.cons (Ex1.ifB (!decide (61 ∈ x)) (EvT.notInText O (c := 61) (y := x) (Ev.str rfl) (Ev.name O r1 rfl)) (fun q => by simp [hin] at q) fun _ => Ex.nil ?_)
    refine Ex.cons (Ex1.ifB (!decide (61 ∈ k ++ 61 :: v.dropLast)) (EvT.notInText O (c := 61) (y := k ++ 61 :: v.dropLast) (Ev.str rfl) (Ev.slice O (Ev.name (d := .str (T x)) (o := false) O r1 (Ev.neg O ⟨-1, rfl, hl, by rw [hsl]⟩)))) (fun q => by simp at q) fun _ => Ex.nil ?_)
    refine Ex.cons (Ex1.ifB false (EvT.cmp O (Ev.len O (Ev.name (d := .list [.tuple [.str (T k), .str (T (unq v))]]) (o := false) O r2' ⟨(by first | decide | (simp only [List.length_cons, List.length_nil]; exact Nat.le_trans (by omega) (show 10 ≤ PySem.sizeLine by decide))), Ev.int (CmpOk.ne (EqOk.int rfl))⟩) hg)) (fun q => by cases q) fun _ => Ex.nil ?_)
    have loc : ∀ z ∈ [("key" : Str), "value"], (actOf O).env.kindOf z = some .local ∧ (actOf O).pinN ≠ some z := by
      intro z hz
      simp only [List.mem_cons, List.not_mem_nil, or_false] at hz
      rcases hz with rfl | rfl <;> exact ⟨rfl, nofun⟩
    refine Ex.seq (fun ρ2 => ρ2.look "item" = some ⟨.str (T x), false⟩ ∧ ρ2.look "key" = some ⟨.str (T k), false⟩ ∧ ρ2.look "value" = some ⟨.str (T (unq v)), false⟩)
      (Ex1.unpack (xs := ["key", "value"]) O (Ev.nameItem (k := 0) O r2' rfl (by decide) ⟨by decide, _, rfl, rfl, by ((repeat' (first | exact Mine.Ro.set_get _ _ _ | refine Mine.Ro.set_other (by decide) ?_ | assumption | rfl)); done), by ((repeat' (first | exact Mine.Ro.set_get _ _ _ | refine Mine.Ro.set_other (by decide) ?_ | assumption | rfl)); done), by ((repeat' (first | exact Mine.Ro.set_get _ _ _ | refine Mine.Ro.set_other (by decide) ?_ | assumption | rfl)); done)⟩) rfl loc) (fun ρ2 h => ?_)
    obtain ⟨z1, z2, z3⟩ := h
    have hul : (unq v).length ≤ v.length := by unfold unq; split; exact pySl_length _ _ _; exact Nat.le_refl _
    refine Ex.cons (Ex1.ifB (decide (61 ∈ k)) (EvT.inText O (c := 61) (y := k) (Ev.str rfl) (Ev.name O z2 rfl)) (fun q => by simp [hn] at q) fun _ => Ex.nil ?_)
    refine Ex.cons (Ex1.ifB (decide (x = k ++ [61] ++ unq v)) (EvT.eqText O (Ev.name O z1 rfl) (Ev.addText O (x := k ++ [61]) (y := unq v) (Ev.addText O (x := k) (y := [61]) (Ev.name O z2 rfl) (Ev.str rfl) (by simp; omega) rfl) (Ev.name O z3 rfl) (by simp; omega) rfl)) (fun hq => ?_) fun hq => Ex.nil ?_)
    · have hq : x = k ++ [61] ++ unq v := by simpa using hq
      have hvu : unq v = v := by rw [hk] at hq; simpa using hq.symm
      have hends : v.head? ≠ some 34 ∨ v.getLast? ≠ some 34 := by
        rcases unq_cases hv with ⟨_, h⟩ | ⟨u, h, h2⟩ | ⟨h, h2⟩
        · exact h
        · rw [h2, h] at hvu; have := congrArg List.length hvu; simp at this; omega
        · rw [h2, h] at hvu; cases hvu
      rw [hvu] at z3
      cases v with
      | nil => exact absurd rfl hv
      | cons a0 r0 =>
      obtain ⟨cl, hcl⟩ : ∃ cl, (a0 :: r0).getLast? = some cl := ⟨_, List.getLast?_cons⟩
      have e0 : Txt.charAt (T (a0 :: r0)) 0 = some a0 := charAt_T0 _
      have el : Txt.charAt (T (a0 :: r0)) (-1) = some cl := by rw [charAt_Tlast, hcl]
      refine Ex.cons (Ex1.ret O (Ev.boolOp O ?_))
      refine Ev.neText O (x := [a0]) (y := [34]) (Ev.signAt O (l := a0 :: r0) z3 (Ev.int rfl) e0 (by decide) rfl) (Ev.str rfl) (TruthOk.of ?_)
      by_cases h0 : a0 = 34
      · rw [if_pos (by simp [h0])]
        refine Ev.neText O (x := [cl]) (y := [34]) (Ev.signAt O (l := a0 :: r0) z3 (Ev.neg O rfl) el (by decide) rfl) (Ev.str rfl) ?_
        have : cl ≠ 34 := fun e => by
          rcases hends with h | h
          · exact h (by rw [h0]; rfl)
          · exact h (by rw [hcl, e])
        simp [this]
      · rw [if_neg (by simp [h0])]; simp [h0]
    · have hq : ¬ x = k ++ [61] ++ unq v := by simpa using hq
      refine Ex.cons (Ex1.ret O (Ev.boolOp O ?_))
      refine Ev.eqText O (x := x) (y := k ++ [61, 34] ++ unq v ++ [34]) (Ev.name O z1 rfl) (Ev.addText O (x := k ++ [61, 34] ++ unq v) (y := [34]) (Ev.addText O (x := k ++ [61, 34]) (y := unq v) (Ev.addText O (x := k) (y := [61, 34]) (Ev.name O z2 rfl) (Ev.str rfl) (by simp; omega) rfl) (Ev.name O z3 rfl) (by simp; omega) rfl) (Ev.str rfl) (by simp; omega) rfl) (TruthOk.of ?_)
      rcases unq_cases hv with ⟨h, _⟩ | ⟨u, h, h2⟩ | ⟨h, h2⟩
      · rw [h] at hq; exact absurd (by rw [hk]; simp) hq
      · have : x = k ++ [61, 34] ++ unq v ++ [34] := by rw [h2, hk, h]; simp
        rw [if_neg (by rw [decide_eq_true this]; decide)]; exact congrArg PyData.bool (decide_eq_true this)
      · have hne : ¬ x = k ++ [61, 34] ++ unq v ++ [34] := fun q => by rw [hk, h2, h] at q; have := congrArg List.length q; simp at this
        rw [if_pos (by rw [decide_eq_false hne]; decide)]
        refine Ev.boolOp O ?_
        refine Ev.eqText O (x := unq v) (y := []) (Ev.name O z3 rfl) (Ev.str rfl) (TruthOk.of ?_)
        rw [if_pos (by simp [h2])]
        refine Ev.eqText O (x := x) (y := k ++ [61, 34]) (Ev.name O z1 rfl) (Ev.addText O (x := k) (y := [61, 34]) (Ev.name O z2 rfl) (Ev.str rfl) (by simp; omega) rfl) ?_
        have : x = k ++ [61, 34] := by rw [hk, h]
        simp [this]
end Mine
end

section
open PySem PySem.W PySem.Calls PyProof.Rows
set_option maxRecDepth 100000
set_option autoImplicit false
set_option linter.unusedVariables false
namespace Mine

theorem list3 {a0 a1 a2 : PyData} {r : Nat} (hr : r < 3) (f : Nat → PyData) (h0 : a0 = f 0) (h1 : a1 = f 1) (h2 : a2 = f 2) : [a0, a1, a2][r]? = some (f r) := by
  subst h0; subst h1; subst h2
  match r, hr with
  | 0, _ => rfl
  | 1, _ => rfl
  | 2, _ => rfl
theorem frontL_length (q : Nat) : (frontL q).length ≤ 2 := by unfold frontL; split <;> decide
theorem frontL_cp (q : Nat) : Cp (frontL q) := by unfold frontL Cp; split <;> decide
theorem httpL_cp {l : List Nat} (h : Cp l) (hl : l.length ≤ 500) : ∀ x ∈ httpL l, x.length ≤ 1000 ∧ Cp x := fun x hx =>
  ⟨Nat.le_trans ((httpL_bound hl).1 x hx).1 (by decide), fun c hc => h c (((httpL_bound hl).1 x hx).2 c hc)⟩
theorem pySl_texts (xs : List (List Nat)) (lo hi : Option Int) : pySl (texts xs) lo hi = texts (pySl xs lo hi) := by
  unfold pySl texts; rw [List.length_map, List.map_take, List.map_drop]

set_option maxHeartbeats 4000000 in
/-- _law_asked -/
theorem asked_ex {D : Wd} {A : Around} {fd : FuncData} {L fa : Addr} {stk : List Env} {H1 : Heap} {args : List Addr} (O : (mkAct D A fd L fa stk H1 args 2).Ok) (hfd : fd.scope = defScope (S2 9)) (E : Value → Shared → Prop)
    {q : Nat} {t : List Nat} (hq : q < 3) (ht : t.length ≤ 400) (hcp : Cp t) (hg : D.mg "len" = none)
    (hhttp : ∀ l : List Nat, l.length ≤ 1000 → Fn D 0 "parse_http_list" [.str (T l)] fun d => d = .list (texts (httpL l)))
    (hread : ∀ xs : List (List Nat), (∀ x ∈ xs, x.length ≤ 1000 ∧ Cp x) → xs.length ≤ 1000 → Fn D 1 "_law_read" [.list (texts xs)] fun d => d = (readL xs).dat) :
    Ex (mkAct D A fd L fa stk H1 args 2) E (slots ["q", "text"] [.int (q : Int), .str (T t)]) (defBody (S2 9)) (fun _ => False) (fun _ d => d = (askedL q t).dat) (fun _ => False) := by
  obtain ⟨name, qualname, params, body, scope, globals, closure, dv, kv, doc, pm, an, cd, ct, bt⟩ := fd
  dsimp only at hfd
  subst hfd
  have fl := frontL_length q
  have fcp := frontL_cp q
  have hb : ∀ u : List Nat, u.length ≤ 3 → (frontL q ++ t ++ u).length ≤ 500 := fun u hu => by simp; omega
  have cpb : ∀ u : List Nat, Cp u → Cp (frontL q ++ t ++ u) := fun u hu c hc => by
    rcases List.mem_append.mp hc with hc | hc
    · rcases List.mem_append.mp hc with hc | hc
      · exact fcp c hc
      · exact hcp c hc
    · exact hu c hc
  have http : ∀ {P : PyData → Nat → Prop} {ρ2 : Ro} {e : Expr} {p1 p2 : Pos} (u : List Nat), u.length ≤ 3 → Ev (actOf O) E ρ2 e (fun d f => d = .str (T (frontL q ++ t ++ u)) ∧ 1 ≤ f) → (∀ f, 1 ≤ f → P (.list (texts (httpL (frontL q ++ t ++ u)))) f) →
      starEach [e] (actOf O).env = (false, eval e (actOf O).env) :: starEach [] (actOf O).env → Ev (actOf O) E ρ2 (.Call (.Name "parse_http_list" p1) [e] [] p2) P := by
    intro P ρ2 e p1 p2 u hu he hp hs
    have fh := hhttp (frontL q ++ t ++ u) (Nat.le_trans (hb u hu) (by decide))
    refine Ev.call (k := 0) O (EvL.cons O (Run.mono he fun d f e' => ?_) hs) (hk := Nat.le_of_ble_eq_true rfl) (he := hs) (hfn := by obtain ⟨fa, h, _⟩ := fh; exact ⟨fa, h⟩)
    obtain ⟨rfl, hf⟩ := e'
    refine EvL.nil ⟨_, fh, fun d hd => ?_⟩
    subst hd
    exact ⟨.inl (by omega), hp _ (by split <;> decide)⟩
  have hlen : ∀ u : List Nat, u.length ≤ 3 → (texts (httpL (frontL q ++ t ++ u))).length ≤ sizeLine := fun u hu => by rw [texts_length]; exact size_small (Nat.le_trans (httpL_bound (hb u hu)).2 (by decide))
  refine Ex.seq (fun ρ' => ρ'.look "front" = some ⟨.str (T (frontL q ++ t)), false⟩) (Ex1.assign O false (Ev.addText O (x := frontL q) (y := t) (Ev.item O (Ev.list O (EvL.cons O (Ev.str (EvL.cons O (Ev.str (EvL.cons O (Ev.str (EvL.nil ⟨by decide, by decide, fun q => absurd q (by decide),
    Ev.name (d := .int (q : Int)) (o := false) O (by ((repeat' (first | exact Mine.Ro.set_get _ _ _ | refine Mine.Ro.set_other (by decide) ?_ | assumption | rfl)); done)) (ItemOk.list (k := q) (list3 hq (fun r => .str (T (frontL r))) rfl rfl rfl) (by omega) rfl)⟩))))))))) (Ev.name O (by ((repeat' (first | exact Mine.Ro.set_get _ _ _ | refine Mine.Ro.set_other (by decide) ?_ | assumption | rfl)); done)) rfl) (by omega) ⟨by decide, nofun, by ((repeat' (first | exact Mine.Ro.set_get _ _ _ | refine Mine.Ro.set_other (by decide) ?_ | assumption | rfl)); done)⟩)) (fun ρ' r1 => ?_)
  have arg : ∀ {ρ2 : Ro} {u : List Nat} {x : Str} {k : Nat} {p1 p2 p3 : Pos}, ρ2.look "front" = some ⟨.str (T (frontL q ++ t)), false⟩ → x = T u → u.length ≤ 3 → Ev (actOf O) E ρ2 (.BinOp (.Name "front" p1) .Add (.Constant (.str x) k p2) p3) (fun d f => d = .str (T (frontL q ++ t ++ u)) ∧ 1 ≤ f) := fun h1 h2 h3 =>
    Ev.addText O (x := frontL q ++ t) (Ev.name O h1 rfl) (Ev.str (by rw [h2])) (by simp; omega) ⟨rfl, by decide⟩
  refine Ex.seq (fun ρ2 => ρ2.look "front" = some ⟨.str (T (frontL q ++ t)), false⟩ ∧ ρ2.look "items" = some ⟨.list (texts (askedL q t).items), false⟩) (Ex1.assign O false (http [62] (by decide) (arg r1 rfl (by decide)) (fun f hf => ⟨hf, nofun, by ((repeat' (first | exact Mine.Ro.set_get _ _ _ | refine Mine.Ro.set_other (by decide) ?_ | assumption | rfl)); done), Ro.set_get _ _ _⟩) rfl)) (fun ρ2 h2 => ?_)
  obtain ⟨r1, r2⟩ := h2
  refine Ex.cons (Ex1.assign O false (Ev.int ⟨by decide, nofun, ?_⟩))
  have lens : ∀ u : List Nat, decide (((texts (askedL q t).items).length : Int) < ((texts (httpL (frontL q ++ t ++ u))).length : Int)) = decide ((httpL (frontL q ++ t ++ [62])).length < (httpL (frontL q ++ t ++ u)).length) := fun u => by
    rw [texts_length, texts_length]; exact decide_eq_decide.mpr (by show (((httpL (frontL q ++ t ++ [62])).length : Nat) : Int) < _ ↔ _; omega)
  refine Ex.seq (fun ρ3 => ρ3.look "items" = some ⟨.list (texts (askedL q t).items), false⟩ ∧ ρ3.look "end" = some ⟨.int ((askedL q t).fin : Int), false⟩) ?_ (fun ρ3 h3 => ?_)
  · refine Ex1.ifB (decide ((httpL (frontL q ++ t ++ [62])).length < (httpL (frontL q ++ t ++ [44, 62])).length)) (EvT.cmp O (Ev.len O (http [44, 62] (by decide) (arg (by ((repeat' (first | exact Mine.Ro.set_get _ _ _ | refine Mine.Ro.set_other (by decide) ?_ | assumption | rfl)); done)) rfl (by decide)) (fun f hf => ⟨hlen [44, 62] (by decide), Ev.len O (Ev.name (d := .list (texts (askedL q t).items)) (o := false) O (by ((repeat' (first | exact Mine.Ro.set_get _ _ _ | refine Mine.Ro.set_other (by decide) ?_ | assumption | rfl)); done)) ⟨hlen [62] (by decide), CmpOk.gt (lens _)⟩) hg⟩) rfl) hg)) (fun hc => ?_) fun hc => ?_
    · have hc := of_decide_eq_true hc
      refine Ex.cons (Ex1.assign O false (Ev.int ⟨by decide, nofun, Ex.nil ⟨by ((repeat' (first | exact Mine.Ro.set_get _ _ _ | refine Mine.Ro.set_other (by decide) ?_ | assumption | rfl)); done), ?_⟩⟩))
      rw [show (askedL q t).fin = 0 from if_pos hc]; ((repeat' (first | exact Mine.Ro.set_get _ _ _ | refine Mine.Ro.set_other (by decide) ?_ | assumption | rfl)); done)
    · have hc := of_decide_eq_false hc
      refine Ex.cons (Ex1.ifB (decide ((httpL (frontL q ++ t ++ [62])).length < (httpL (frontL q ++ t ++ [34, 44, 62])).length)) (EvT.cmp O (Ev.len O (http [34, 44, 62] (by decide) (arg (by ((repeat' (first | exact Mine.Ro.set_get _ _ _ | refine Mine.Ro.set_other (by decide) ?_ | assumption | rfl)); done)) rfl (by decide)) (fun f hf => ⟨hlen [34, 44, 62] (by decide), Ev.len O (Ev.name (d := .list (texts (askedL q t).items)) (o := false) O (by ((repeat' (first | exact Mine.Ro.set_get _ _ _ | refine Mine.Ro.set_other (by decide) ?_ | assumption | rfl)); done)) ⟨hlen [62] (by decide), CmpOk.gt (lens _)⟩) hg⟩) rfl) hg)) (fun hc2 => ?_) fun hc2 => ?_)
      · have hc2 := of_decide_eq_true hc2
        refine Ex.cons (Ex1.assign O false (Ev.int ⟨by decide, nofun, Ex.nil (Ex.nil ⟨by ((repeat' (first | exact Mine.Ro.set_get _ _ _ | refine Mine.Ro.set_other (by decide) ?_ | assumption | rfl)); done), ?_⟩)⟩))
        rw [show (askedL q t).fin = 1 from (if_neg hc).trans (if_pos hc2)]; ((repeat' (first | exact Mine.Ro.set_get _ _ _ | refine Mine.Ro.set_other (by decide) ?_ | assumption | rfl)); done)
      · have hc2 := of_decide_eq_false hc2
        refine Ex.nil (Ex.nil ⟨by ((repeat' (first | exact Mine.Ro.set_get _ _ _ | refine Mine.Ro.set_other (by decide) ?_ | assumption | rfl)); done), ?_⟩)
        rw [show (askedL q t).fin = 2 from (if_neg hc).trans (if_neg hc2)]; ((repeat' (first | exact Mine.Ro.set_get _ _ _ | refine Mine.Ro.set_other (by decide) ?_ | assumption | rfl)); done)
  · obtain ⟨r2, r3⟩ := h3
    have hin : ∀ x ∈ pySl (askedL q t).items (some 1) (some (-1)), x.length ≤ 1000 ∧ Cp x := fun x hx => by
      have hx' : x ∈ httpL (frontL q ++ t ++ [62]) := by unfold pySl at hx; exact List.mem_of_mem_drop (List.mem_of_mem_take hx)
      exact httpL_cp (cpb [62] (by unfold Cp; decide)) (hb [62] (by decide)) x hx'
    have hil : (pySl (askedL q t).items (some 1) (some (-1))).length ≤ 1000 := Nat.le_trans (pySl_length _ _ _) (Nat.le_trans (httpL_bound (hb [62] (by decide))).2 (by decide))
    have fr := hread _ hin hil
    refine Ex.cons (Ex1.ret O (Ev.tuple O (EvL.cons O (Ev.name (d := .list (texts (askedL q t).items)) (o := false) O r2 (EvL.cons O (Ev.call (k := 1) O (EvL.cons O (Ev.slice O (Ev.name (d := .list (texts (askedL q t).items)) (o := false) O r2 ?_))) (hk := Nat.le_of_ble_eq_true rfl) (hfn := by obtain ⟨fa, h, _⟩ := fr; exact ⟨fa, h⟩)))))))
    refine Ev.int ⟨1, rfl, Ev.neg O ⟨-1, rfl, hlen [62] (by decide), ?_⟩⟩
    rw [pySl_texts]
    refine EvL.nil ⟨_, fr, fun d hd => ?_⟩
    subst hd
    refine ⟨.inl (by decide), EvL.cons O (Ev.name (d := .int ((askedL q t).fin : Int)) (o := false) O r3 (EvL.nil ⟨by show 1 ≤ min 1 (min (if _ then 2 else 1) (min 1 2)); split <;> decide, (by first | decide | (simp only [List.length_cons, List.length_nil]; exact Nat.le_trans (by omega) (show 10 ≤ PySem.sizeLine by decide))), rfl⟩))⟩
end Mine
end

section
open PySem PySem.W PySem.Calls PyProof.Rows
set_option maxRecDepth 100000
set_option autoImplicit false
set_option linter.unusedVariables false
namespace Mine

structure AskOk (x : Ask) : Prop where
  some : x.items ≠ []
  few : x.items.length ≤ 400
  each : ∀ i ∈ x.items, i.length ≤ 400 ∧ Cp i
  size : x.inner.size ≤ 400
def ask0 : Ask := ⟨[], .val [], 0⟩
def gluedL (left right : List Ask) : List Ask := left.map fun x => glue2 x (right[x.fin]?.getD ask0)
theorem askDats_length (l : List Ask) : (askDats l).length = l.length := by simp [askDats]
theorem askDats_snoc (l : List Ask) (x : Ask) : askDats l ++ [x.dat] = askDats (l ++ [x]) := by simp [askDats]
theorem askDats_get {l : List Ask} {k : Nat} {x : Ask} (h : l[k]? = some x) : (askDats l)[k]? = some x.dat := by unfold askDats; simp [h]
theorem texts_get {l : List (List Nat)} {k : Nat} {x : List Nat} (h : l[k]? = some x) : (texts l)[k]? = some (.str (T x)) := by unfold texts; simp [h]
theorem keqv_size : ∀ (xs : List (List Nat)) (ps : List (Str × Str)), (keqv ps xs).size ≤ ps.length + xs.length
  | [], ps => by simp [keqv, KR.size]
  | x :: xs, ps => by
    rcases keqv1_any ps x with ⟨k, v, _, h2⟩ | ⟨c, _, h2⟩
    · simp only [keqv, h2]
      have := keqv_size xs (dput ps k v)
      have := dput_length ps k v
      simp only [List.length_cons]; omega
    · simp only [keqv, h2, KR.size]; omega
theorem readL_size (xs : List (List Nat)) : (readL xs).size ≤ xs.length := by
  have := keqv_size (xs.filter fun x => decide (x ≠ [])) []
  have := List.length_filter_le (fun x : List Nat => decide (x ≠ [])) xs
  unfold readL; simp at *; omega
theorem laidL_size (x y : KR) : (laidL x y).size ≤ x.size + y.size := by
  cases x with
  | err c => simp [laidL, KR.size]
  | val p =>
    cases y with
    | err c => simp [laidL, KR.size]
    | val q =>
      have := dputs_length (p ++ q) []
      simp only [laidL, KR.size]; simp at this; exact this
theorem last_some {α : Type} {l : List α} (h : l ≠ []) : ∃ x, l[l.length - 1]? = some x ∧ seqIndex? (-1) l.length = some (l.length - 1) := by
  have : 0 < l.length := List.length_pos_iff.mpr h
  refine ⟨l[l.length - 1], by simp [this], ?_⟩
  unfold seqIndex?
  simp; omega
theorem ItemOk.last {xs : List PyData} {d : PyData} {P : PyData → Nat → Prop} (hne : xs ≠ []) (h : xs[xs.length - 1]? = some d) (p : P d 1) : ItemOk (.list xs) (.int (-1)) P := by
  obtain ⟨_, _, h2⟩ := last_some hne
  exact ⟨by decide, by decide, _, d, h2, h, p⟩

def GJ2 (right all : List Ask) (rest : List PyData) (ρ : Ro) : Prop := ∃ (l done : List Ask), rest = askDats l ∧ ρ.look "both" = some ⟨.list (askDats done), true⟩ ∧ ρ.look "right" = some ⟨.list (askDats right), false⟩ ∧ done ++ gluedL l right = all ∧ done.length + l.length ≤ 10 ∧
  ∀ x ∈ l, AskOk x ∧ ∃ y, right[x.fin]? = some y ∧ AskOk y

set_option maxHeartbeats 4000000 in
/-- _law_glued -/
theorem glued_ex {D : Wd} {A : Around} {fd : FuncData} {L fa : Addr} {stk : List Env} {H1 : Heap} {args : List Addr} (O : (mkAct D A fd L fa stk H1 args 2).Ok) (hfd : fd.scope = defScope (S2 12)) (E : Value → Shared → Prop)
    {left right : List Ask} (hl : left.length ≤ 10) (hr : right.length ≤ 10) (hok : ∀ x ∈ left, AskOk x ∧ ∃ y, right[x.fin]? = some y ∧ AskOk y) (hg : D.mg "len" = none)
    (hread : ∀ xs : List (List Nat), (∀ x ∈ xs, x.length ≤ 1000 ∧ Cp x) → xs.length ≤ 1000 → Fn D 1 "_law_read" [.list (texts xs)] fun d => d = (readL xs).dat)
    (hlaid : ∀ x y : KR, x.size + y.size ≤ 1000 → Fn D 0 "_law_laid" [x.dat, y.dat] fun d => d = (laidL x y).dat) :
    Ex (mkAct D A fd L fa stk H1 args 2) E (slots ["left", "right"] [.list (askDats left), .list (askDats right)]) (defBody (S2 12)) (fun _ => False) (fun _ d => d = .list (askDats (gluedL left right))) (fun _ => False) := by
  obtain ⟨name, qualname, params, body, scope, globals, closure, dv, kv, doc, pm, an, cd, ct, bt⟩ := fd
  dsimp only at hfd
  subst hfd
  refine Ex.cons (Ex1.assign O true (Ev.list O (EvL.nil ⟨by decide, by decide, by decide, fun _ => ⟨rfl, rfl, rfl⟩, ?_⟩)))
  refine Ex.cons (Ex1.forIn O (GJ2 right (gluedL left right)) (fun x0 rest ρ' hJ => ?_) (fun ρ' hJ => ?_) ?_)
  · obtain ⟨l, done, e, r1, r2, ha, hlen, hs⟩ := hJ
    cases l with
    | nil => cases e
    | cons x l =>
    obtain ⟨rfl, rfl⟩ := List.cons.inj (show x0 :: rest = x.dat :: askDats l from e)
    obtain ⟨xok, y, hy, yok⟩ := hs x (.head _)
    have hf : x.fin < 10 := by have := (List.getElem?_eq_some_iff.mp hy).1; omega
    have hg2 : gluedL (x :: l) right = glue2 x y :: gluedL l right := by unfold gluedL; rw [List.map_cons, hy]; rfl
    obtain ⟨xl, hxl, _⟩ := last_some xok.some
    obtain ⟨y0, hy0⟩ : ∃ y0, y.items[0]? = some y0 := by
      cases q : y.items with
      | nil => exact absurd q yok.some
      | cons a b => exact ⟨a, rfl⟩
    have hxlm := List.mem_of_getElem? hxl
    have hy0m := List.mem_of_getElem? hy0
    obtain ⟨l1, c1⟩ := xok.each _ hxlm
    obtain ⟨l2, c2⟩ := yok.each _ hy0m
    have hseam : seamL x y = stripL (pySl xl none (some (-1)) ++ pySl y0 (some 1) none) := by unfold seamL; rw [hxl, hy0]; rfl
    have sl1 := pySl_length xl none (some (-1))
    have sl2 := pySl_length y0 (some 1) none
    have sseam : (seamL x y).length ≤ 1000 ∧ Cp (seamL x y) := by
      rw [hseam]
      refine ⟨Nat.le_trans (stripL_length _) (by simp; omega), fun c hc => ?_⟩
      rcases List.mem_append.mp (stripL_mem hc) with hc | hc
      · exact c1 c (pySl_mem hc)
      · exact c2 c (pySl_mem hc)
    have szx : (texts x.items).length ≤ sizeLine := by rw [texts_length]; exact size_small (Nat.le_trans xok.few (by decide))
    have szy : (texts y.items).length ≤ sizeLine := by rw [texts_length]; exact size_small (Nat.le_trans yok.few (by decide))
    have loc3 : ∀ (a b c : Str), (actOf O).env.kindOf a = some .local → (actOf O).env.kindOf b = some .local → (actOf O).env.kindOf c = some .local → ∀ z ∈ [a, b, c], (actOf O).env.kindOf z = some .local ∧ (actOf O).pinN ≠ some z := by
      intro a b c h1 h2 h3 z hz
      simp only [List.mem_cons, List.not_mem_nil, or_false] at hz
      rcases hz with rfl | rfl | rfl
      · exact ⟨h1, nofun⟩
      · exact ⟨h2, nofun⟩
      · exact ⟨h3, nofun⟩
    refine Asg.tuple (xs := ["items", "inner", "end"]) O ?_ rfl rfl (loc3 _ _ _ rfl rfl rfl)
    refine Ex.seq (fun ρ2 => ρ2.look "items" = some ⟨.list (texts x.items), false⟩ ∧ ρ2.look "inner" = some ⟨x.inner.dat, false⟩ ∧ ρ2.look "more" = some ⟨.list (texts y.items), false⟩ ∧ ρ2.look "deeper" = some ⟨y.inner.dat, false⟩ ∧ ρ2.look "last" = some ⟨.int (y.fin : Int), false⟩ ∧
        ρ2.look "both" = some ⟨.list (askDats done), true⟩ ∧ ρ2.look "right" = some ⟨.list (askDats right), false⟩)
      (Ex1.unpack (xs := ["more", "deeper", "last"]) O (Ev.item O (Ev.name (d := .list (askDats right)) (o := false) O (by ((repeat' (first | exact Mine.Ro.set_get _ _ _ | refine Mine.Ro.set_other (by decide) ?_ | assumption | rfl)); done)) ⟨fun q => absurd q (by decide), Ev.name (d := .int (x.fin : Int)) (o := false) O (by ((repeat' (first | exact Mine.Ro.set_get _ _ _ | refine Mine.Ro.set_other (by decide) ?_ | assumption | rfl)); done)) (ItemOk.list (k := x.fin) (askDats_get hy) (by omega) ⟨by decide, _, rfl, rfl, by ((repeat' (first | exact Mine.Ro.set_get _ _ _ | refine Mine.Ro.set_other (by decide) ?_ | assumption | rfl)); done), by ((repeat' (first | exact Mine.Ro.set_get _ _ _ | refine Mine.Ro.set_other (by decide) ?_ | assumption | rfl)); done), by ((repeat' (first | exact Mine.Ro.set_get _ _ _ | refine Mine.Ro.set_other (by decide) ?_ | assumption | rfl)); done), by ((repeat' (first | exact Mine.Ro.set_get _ _ _ | refine Mine.Ro.set_other (by decide) ?_ | assumption | rfl)); done), by ((repeat' (first | exact Mine.Ro.set_get _ _ _ | refine Mine.Ro.set_other (by decide) ?_ | assumption | rfl)); done), by ((repeat' (first | exact Mine.Ro.set_get _ _ _ | refine Mine.Ro.set_other (by decide) ?_ | assumption | rfl)); done), by ((repeat' (first | exact Mine.Ro.set_get _ _ _ | refine Mine.Ro.set_other (by decide) ?_ | assumption | rfl)); done)⟩)⟩)) rfl (loc3 _ _ _ rfl rfl rfl)) (fun ρ2 h2 => ?_)
    obtain ⟨z1, z2, z3, z4, z5, z6, z7⟩ := h2
    -- seam
    refine Ex.seq (fun ρ2 => ρ2.look "items" = some ⟨.list (texts x.items), false⟩ ∧ ρ2.look "inner" = some ⟨x.inner.dat, false⟩ ∧ ρ2.look "more" = some ⟨.list (texts y.items), false⟩ ∧ ρ2.look "deeper" = some ⟨y.inner.dat, false⟩ ∧ ρ2.look "last" = some ⟨.int (y.fin : Int), false⟩ ∧
        ρ2.look "both" = some ⟨.list (askDats done), true⟩ ∧ ρ2.look "right" = some ⟨.list (askDats right), false⟩ ∧ ρ2.look "seam" = some ⟨.str (T (seamL x y)), false⟩)
      (Ex1.assign O false (Ev.strip O (Ev.addText O (x := pySl xl none (some (-1))) (y := pySl y0 (some 1) none)
        (Ev.slice O (Ev.item O (Ev.name (d := .list (texts x.items)) (o := false) O z1 ⟨fun q => absurd q (by decide), Ev.neg O (ItemOk.last (d := .str (T xl)) (fun q => xok.some (List.map_eq_nil_iff.mp q)) (by rw [texts_length]; exact texts_get hxl) ?_)⟩)))
        (Ev.slice O (Ev.item O (Ev.name (d := .list (texts y.items)) (o := false) O z3 ⟨fun q => absurd q (by decide), Ev.int (ItemOk.list (k := 0) (texts_get hy0) (by decide) ?_)⟩))) (by omega) ⟨_, rfl, ?_, ?_⟩))) (fun ρ2 h2 => ?_)
    · exact Ev.neg O ⟨-1, rfl, by rw [T_length]; exact size_small (by omega), by simp⟩
    · exact Ev.int ⟨1, rfl, by rw [T_length]; exact size_small (by omega), by simp⟩
    · rw [T_length]; exact size_small (by simp; omega)
    · rw [strip_T, ← hseam]
      exact ⟨by decide, nofun, by ((repeat' (first | exact Mine.Ro.set_get _ _ _ | refine Mine.Ro.set_other (by decide) ?_ | assumption | rfl)); done), by ((repeat' (first | exact Mine.Ro.set_get _ _ _ | refine Mine.Ro.set_other (by decide) ?_ | assumption | rfl)); done), by ((repeat' (first | exact Mine.Ro.set_get _ _ _ | refine Mine.Ro.set_other (by decide) ?_ | assumption | rfl)); done), by ((repeat' (first | exact Mine.Ro.set_get _ _ _ | refine Mine.Ro.set_other (by decide) ?_ | assumption | rfl)); done), by ((repeat' (first | exact Mine.Ro.set_get _ _ _ | refine Mine.Ro.set_other (by decide) ?_ | assumption | rfl)); done), by ((repeat' (first | exact Mine.Ro.set_get _ _ _ | refine Mine.Ro.set_other (by decide) ?_ | assumption | rfl)); done), by ((repeat' (first | exact Mine.Ro.set_get _ _ _ | refine Mine.Ro.set_other (by decide) ?_ | assumption | rfl)); done), by ((repeat' (first | exact Mine.Ro.set_get _ _ _ | refine Mine.Ro.set_other (by decide) ?_ | assumption | rfl)); done)⟩
    obtain ⟨z1, z2, z3, z4, z5, z6, z7, z8⟩ := h2
    have gtl : ∀ l : List (List Nat), decide ((1 : Int) < ((texts l).length : Int)) = decide (1 < l.length) := fun l => by rw [texts_length]; exact decide_eq_decide.mpr (by omega)
    -- inner
    refine Ex.seq (fun ρ3 => ρ3.look "items" = some ⟨.list (texts x.items), false⟩ ∧ ρ3.look "inner" = some ⟨(glue2 x y).inner.dat, false⟩ ∧ ρ3.look "more" = some ⟨.list (texts y.items), false⟩ ∧ ρ3.look "last" = some ⟨.int (y.fin : Int), false⟩ ∧
        ρ3.look "both" = some ⟨.list (askDats done), true⟩ ∧ ρ3.look "right" = some ⟨.list (askDats right), false⟩ ∧ ρ3.look "seam" = some ⟨.str (T (seamL x y)), false⟩) ?_ (fun ρ3 h3 => ?_)
    · refine Ex1.ifB (decide (1 < x.items.length) && (decide (1 < y.items.length) && true)) (EvT.bool (AllT.and (EvT.cmp O (Ev.len O (Ev.name (d := .list (texts x.items)) (o := false) O z1 ⟨szx, Ev.int (CmpOk.gt (gtl _))⟩) hg)) fun _ =>
        AllT.and (EvT.cmp O (Ev.len O (Ev.name (d := .list (texts y.items)) (o := false) O z3 ⟨szy, Ev.int (CmpOk.gt (gtl _))⟩) hg)) fun _ => rfl)) (fun hb => ?_) fun hb => ?_
      · have hb : 1 < x.items.length ∧ 1 < y.items.length := by simpa using hb
        have fr := hread [seamL x y] (fun z hz => by rw [List.mem_singleton.mp hz]; exact sseam) (by simp)
        have s1 := readL_size [seamL x y]
        have s2 := laidL_size x.inner (readL [seamL x y])
        have s3 := xok.size
        have s4 := yok.size
        simp only [List.length_cons, List.length_nil] at s1
        have f1 := hlaid x.inner (readL [seamL x y]) (by omega)
        have f2 := hlaid (laidL x.inner (readL [seamL x y])) y.inner (by omega)
        refine Ex.cons (Ex1.assign O false (Ev.call (k := 0) O (EvL.cons O (Ev.call (k := 0) O (EvL.cons O (Ev.name (d := x.inner.dat) (o := false) O z2 (EvL.cons O (Ev.call (k := 1) O (EvL.cons O (Ev.list O (EvL.cons O (Ev.name (d := .str (T (seamL x y))) (o := false) O z8 (EvL.nil ⟨by decide, (by first | decide | (simp only [List.length_cons, List.length_nil]; exact Nat.le_trans (by omega) (show 10 ≤ PySem.sizeLine by decide))), EvL.nil ⟨_, fr, fun d hd => ?_⟩⟩)))))
          (hk := Nat.le_of_ble_eq_true rfl) (hfn := by obtain ⟨fa, h, _⟩ := fr; exact ⟨fa, h⟩))))) (hk := Nat.le_of_ble_eq_true rfl) (hfn := by obtain ⟨fa, h, _⟩ := f1; exact ⟨fa, h⟩))) (hk := Nat.le_of_ble_eq_true rfl) (hfn := by obtain ⟨fa, h, _⟩ := f2; exact ⟨fa, h⟩)))
        subst hd
        refine ⟨.inl (by decide), EvL.nil ⟨_, f1, fun d hd => ?_⟩⟩
        subst hd
        refine ⟨.inl (by show 1 ≤ min 1 (min (if _ then 2 else 1) 2); split <;> decide), EvL.cons O (Ev.name (d := y.inner.dat) (o := false) O z4 (EvL.nil ⟨_, f2, fun d hd => ?_⟩))⟩
        subst hd
        have e1 : (glue2 x y).inner = laidL (laidL x.inner (readL [seamL x y])) y.inner := if_pos hb
        refine ⟨.inl (by show 1 ≤ min (if _ then 2 else 1) (min 1 2); split <;> decide), by split <;> decide, nofun, Ex.nil ⟨by ((repeat' (first | exact Mine.Ro.set_get _ _ _ | refine Mine.Ro.set_other (by decide) ?_ | assumption | rfl)); done), ?_, by ((repeat' (first | exact Mine.Ro.set_get _ _ _ | refine Mine.Ro.set_other (by decide) ?_ | assumption | rfl)); done), by ((repeat' (first | exact Mine.Ro.set_get _ _ _ | refine Mine.Ro.set_other (by decide) ?_ | assumption | rfl)); done), by ((repeat' (first | exact Mine.Ro.set_get _ _ _ | refine Mine.Ro.set_other (by decide) ?_ | assumption | rfl)); done), by ((repeat' (first | exact Mine.Ro.set_get _ _ _ | refine Mine.Ro.set_other (by decide) ?_ | assumption | rfl)); done), by ((repeat' (first | exact Mine.Ro.set_get _ _ _ | refine Mine.Ro.set_other (by decide) ?_ | assumption | rfl)); done)⟩⟩
        rw [e1]; ((repeat' (first | exact Mine.Ro.set_get _ _ _ | refine Mine.Ro.set_other (by decide) ?_ | assumption | rfl)); done)
      · have hb : ¬ (1 < x.items.length ∧ 1 < y.items.length) := by simpa using hb
        have e0 : (glue2 x y).inner = if 1 < y.items.length then y.inner else x.inner := if_neg hb
        refine Ex.cons (Ex1.ifB (decide (1 < y.items.length)) (EvT.cmp O (Ev.len O (Ev.name (d := .list (texts y.items)) (o := false) O z3 ⟨szy, Ev.int (CmpOk.gt (gtl _))⟩) hg)) (fun hb2 => ?_) fun hb2 => ?_)
        · have hb2 := of_decide_eq_true hb2
          refine Ex.cons (Ex1.assign O false (Ev.name (d := y.inner.dat) (o := false) O z4 ⟨by decide, nofun, Ex.nil (Ex.nil ⟨by ((repeat' (first | exact Mine.Ro.set_get _ _ _ | refine Mine.Ro.set_other (by decide) ?_ | assumption | rfl)); done), ?_, by ((repeat' (first | exact Mine.Ro.set_get _ _ _ | refine Mine.Ro.set_other (by decide) ?_ | assumption | rfl)); done), by ((repeat' (first | exact Mine.Ro.set_get _ _ _ | refine Mine.Ro.set_other (by decide) ?_ | assumption | rfl)); done), by ((repeat' (first | exact Mine.Ro.set_get _ _ _ | refine Mine.Ro.set_other (by decide) ?_ | assumption | rfl)); done), by ((repeat' (first | exact Mine.Ro.set_get _ _ _ | refine Mine.Ro.set_other (by decide) ?_ | assumption | rfl)); done), by ((repeat' (first | exact Mine.Ro.set_get _ _ _ | refine Mine.Ro.set_other (by decide) ?_ | assumption | rfl)); done)⟩)⟩))
          rw [e0, if_pos hb2]; ((repeat' (first | exact Mine.Ro.set_get _ _ _ | refine Mine.Ro.set_other (by decide) ?_ | assumption | rfl)); done)
        · have hb2 := of_decide_eq_false hb2
          refine Ex.nil (Ex.nil ⟨z1, ?_, z3, z5, z6, z7, z8⟩)
          rw [e0, if_neg hb2]; exact z2
    obtain ⟨y1, y2, y3, y4, y5, y6, y7⟩ := h3
    -- append
    have i1 : (texts (pySl x.items none (some (-1)))).length ≤ 1000 := by rw [texts_length]; exact Nat.le_trans (pySl_length _ _ _) (Nat.le_trans xok.few (by decide))
    have i2 : (texts (pySl y.items (some 1) none)).length ≤ 1000 := by rw [texts_length]; exact Nat.le_trans (pySl_length _ _ _) (Nat.le_trans yok.few (by decide))
    refine Ex.cons (Ex1.append O (xs := askDats done) y5 (Ev.tuple O (EvL.cons O (Ev.binop O (Ev.binop O (Ev.slice O (Ev.name (d := .list (texts x.items)) (o := false) O y1 ?_)))))))
    refine Ev.neg O ⟨-1, rfl, szx, Ev.list O (EvL.cons O (Ev.name (d := .str (T (seamL x y))) (o := false) O y7 (EvL.nil ⟨by decide, (by first | decide | (simp only [List.length_cons, List.length_nil]; exact Nat.le_trans (by omega) (show 10 ≤ PySem.sizeLine by decide))), ?_⟩)))⟩
    rw [pySl_texts]
    refine ⟨size_small (by simp only [List.length_cons, List.length_nil]; omega), Ev.slice O (Ev.name (d := .list (texts y.items)) (o := false) O y3 ?_)⟩
    refine Ev.int ⟨1, rfl, szy, ?_⟩
    rw [pySl_texts]
    refine ⟨size_small (by simp only [List.length_append, List.length_cons, List.length_nil]; omega), EvL.cons O (Ev.name (d := (glue2 x y).inner.dat) (o := false) O y2 ?_)⟩
    refine EvL.cons O (Ev.name (d := .int (y.fin : Int)) (o := false) O y4 (EvL.nil ⟨by decide, (by first | decide | (simp only [List.length_cons, List.length_nil]; exact Nat.le_trans (by omega) (show 10 ≤ PySem.sizeLine by decide))), by decide, by rw [askDats_length]; exact size_small (by simp only [List.length_cons] at hlen; omega), Ex.nil ?_⟩))
    refine ⟨l, done ++ [glue2 x y], rfl, ?_, by ((repeat' (first | exact Mine.Ro.set_get _ _ _ | refine Mine.Ro.set_other (by decide) ?_ | assumption | rfl)); done), ?_, by simp at hlen ⊢; omega, fun z hz => hs z (.tail _ hz)⟩
    · rw [← askDats_snoc]
      have : (glue2 x y).dat = .tuple [.list (texts (pySl x.items none (some (-1))) ++ [.str (T (seamL x y))] ++ texts (pySl y.items (some 1) none)), (glue2 x y).inner.dat, .int (y.fin : Int)] := by
        show PyData.tuple [.list (texts (pySl x.items none (some (-1)) ++ [seamL x y] ++ pySl y.items (some 1) none)), _, _] = _
        unfold texts; simp; rfl
      rw [this]; exact Ro.set_get _ _ _
    · rw [← ha, hg2]; simp
  · obtain ⟨l, done, e, r1, r2, ha, hlen, hs⟩ := hJ
    obtain rfl : l = [] := by cases l with | nil => rfl | cons _ _ => cases e
    refine Ex.cons (Ex1.ret O (Ev.name (d := .list (askDats done)) (o := true) O r1 ?_))
    rw [← ha]; simp [gluedL]
  · refine Ev.name (d := .list (askDats left)) (o := false) O (by ((repeat' (first | exact Mine.Ro.set_get _ _ _ | refine Mine.Ro.set_other (by decide) ?_ | assumption | rfl)); done)) ⟨by decide, .inr ⟨⟨_, _, _, rfl⟩, fun d hd => ?_⟩, left, [], rfl, by ((repeat' (first | exact Mine.Ro.set_get _ _ _ | refine Mine.Ro.set_other (by decide) ?_ | assumption | rfl)); done), by ((repeat' (first | exact Mine.Ro.set_get _ _ _ | refine Mine.Ro.set_other (by decide) ?_ | assumption | rfl)); done), rfl, by simpa using hl, hok⟩
    obtain ⟨s, _, rfl⟩ := List.mem_map.mp hd
    exact ⟨_, rfl⟩
end Mine
end

section
open PySem PySem.W PySem.Calls PyProof.Rows
set_option maxRecDepth 100000
set_option autoImplicit false
set_option linter.unusedVariables false
namespace Mine

/-! statements of a frame whose cells may be bound -/
def CellsAt (a : Act) (cs : List Addr) (g h : Heap) : Prop := ∀ c ∈ cs, (∃ u, h.IsCell c u) ∧ g.get? c = none ∧ a.D.H0.get? c = none ∧ c ≠ a.L ∧ c ∉ a.F
def RunC (a : Act) (E : Value → Shared → Prop) (ρ : Ro) (cs : List Addr) (t : Sem Flow) (N : Ro → Prop) (R : Ro → PyData → Prop) : Prop :=
  ∀ m fp g (s : Shared) (Q : Flow → Shared → Prop), Sat a ρ m fp g s.heap → CellsAt a cs g s.heap →
    (∀ ρ' m' fp' h tk, Sat a ρ' m' fp' g h → CellsAt a cs g h → N ρ' → Q .next { s with heap := h, toks := tk }) →
    (∀ ρ' m' fp' v d as h tk, RetOk a ρ' m' fp' g h v d as → R ρ' d → Q (.ret v) { s with heap := h, toks := tk }) → wpAny a.M a.A t Q E s
abbrev ExC (a : Act) (E : Value → Shared → Prop) (ρ : Ro) (cs : List Addr) (ss : List Stmt) (N : Ro → Prop) (R : Ro → PyData → Prop) : Prop := RunC a E ρ cs (execs ss a.env) N R
abbrev ExC1 (a : Act) (E : Value → Shared → Prop) (ρ : Ro) (cs : List Addr) (st : Stmt) (N : Ro → Prop) (R : Ro → PyData → Prop) : Prop := RunC a E ρ cs (exec st a.env) N R

section
variable {a : Act} {E : Value → Shared → Prop} {ρ : Ro} {N C : Ro → Prop} {R : Ro → PyData → Prop} {P : PyData → Nat → Prop} {cs : List Addr}
theorem CellsAt.kept {m : Str → Option Value} {fp : Str → List Addr} {g h h' : Heap} (hs : Sat a ρ m fp g h) (hc : CellsAt a cs g h) (x : Ext a.F (hid a ρ fp h) h') : CellsAt a cs g h' := fun c hm => by
  obtain ⟨⟨u, hu⟩, h1, h2, h3, h4⟩ := hc c hm
  have hO := hs.cellOwn hu
  obtain ⟨o, ho, hd⟩ := hu
  exact ⟨⟨u, o, (x c o (hid_get ho h3 hO)).1 h4, hd⟩, h1, h2, h3, h4⟩
theorem RunC.of {t : Sem Flow} (x : RunF a E ρ t N R (fun _ => False)) : RunC a E ρ cs t N R := fun m fp g s Q hs hc k1 k3 =>
  x m fp _ s Q hs.hide (fun ρ' m' fp' h tk q p => k1 ρ' m' fp' h tk (hs.unhide q) (hc.kept hs q.gx) p) (fun _ _ _ _ _ _ p => p.elim) fun ρ' m' fp' v d as h tk r p => k3 ρ' m' fp' v d as h tk ⟨hs.unhide r.sat, r.rd, r.ok⟩ p
theorem ExC.cons {st : Stmt} {rest : List Stmt} (h : ExC1 a E ρ cs st (fun ρ' => ExC a E ρ' cs rest N R) R) : ExC a E ρ cs (st :: rest) N R := fun m fp g s Q hs hc k1 k3 =>
  wpAny_execs_cons (h m fp g s _ hs hc (fun ρ' m' fp' h tk q qc p => p m' fp' g { s with heap := h, toks := tk } Q q qc (fun ρ2 m2 fp2 h2 tk2 q2 qc2 p2 => k1 ρ2 m2 fp2 h2 tk2 q2 qc2 p2) fun ρ2 m2 fp2 v d as h2 tk2 r2 p2 => k3 ρ2 m2 fp2 v d as h2 tk2 r2 p2) fun ρ' m' fp' v d as h tk r p => k3 ρ' m' fp' v d as h tk r p)
theorem ExC.seq {st : Stmt} {rest : List Stmt} (M : Ro → Prop) (h1 : Ex1 a E ρ st M R (fun _ => False)) (h2 : ∀ ρ', M ρ' → ExC a E ρ' cs rest N R) : ExC a E ρ cs (st :: rest) N R :=
  ExC.cons (RunC.of (RunF.mono h1 h2 (fun _ _ h => h) fun _ h => h))
theorem now_cell {m : Str → Option Value} {fp : Str → List Addr} {g h : Heap} {c : Addr} {u : Option Value} (hs : Sat a ρ m fp g h) (hu : h.IsCell c u) (hL : c ≠ a.L) (hF : c ∉ a.F) : (nowH a ρ fp h).IsCell c u := by
  have hO := hs.cellOwn hu
  obtain ⟨o, ho, hd⟩ := hu
  exact ⟨o, nowH_get ho hL hF hO, hd⟩

/-- for x in a list of texts, x a cell -/
theorem ExC.forCell (O : a.Ok) {c : Addr} {x : Str} {px : Pos} {iter : Expr} {body rest : List Stmt} {pos : Pos} {xs : List PyData} (J : List PyData → Ro → Prop) (hstr : ∀ y r ρ', J (y :: r) ρ' → ∃ z, y = .str z)
    (turn : ∀ z r ρ', J (.str z :: r) ρ' → ∀ H t, Kp a.D.H0 H → (a.at_ H).Ok → H.IsCell c (some (.str z t)) → Ex (a.at_ H) (loopE a E) ρ' body (J r) R (J r))
    (fin : ∀ ρ', J [] ρ' → ExC a E ρ' cs rest N R)
    (h : Ev a E ρ iter fun d f => 1 ≤ f ∧ d = .list xs ∧ atoms xs = true ∧ J xs ρ) (hm : c ∈ cs) (hc : a.env.cells.lookup x = some c)
    (hl : a.env.kindOf x = some .cell := by rfl) (hf : ∀ x, foldedSetIterable iter a.env x = pure x := by intro _; rfl) : ExC a E ρ cs (.For (.Name x px) iter body [] pos :: rest) N R := by
  refine ExC.cons ?_
  intro m fp g s Q hs hcs k1 k3
  obtain ⟨hu, hg, h0, hL, hF⟩ := hcs c hm
  have hgs : ∀ c' ∈ [c], g.get? c' = none := fun c' hc' => List.mem_singleton.mp hc' ▸ hg
  refine forListX (cs := [c]) (g := hidC a ρ fp [c] s.heap) (N := fun ρ' => ExC a E ρ' cs rest N R) O J fin ?_ hs.hideC (fun c' hc' => List.mem_singleton.mp hc' ▸ hu) (fun c' hc' => hideAll_none _ (List.mem_append_left _ hc')) (fun c' hc' => List.mem_singleton.mp hc' ▸ hF) h
    (fun ρ' m' fp' hh tk q qu p => k1 ρ' m' fp' hh tk (hs.unhideC hgs q) ?_ p) (fun ρ' m' fp' v d as hh tk r p => k3 ρ' m' fp' v d as hh tk ⟨hs.unhideC hgs r.sat, r.rd, r.ok⟩ p) hf
  · intro x' r ρ' hJ m' fp' g' hp0 tk0 v as Q' hs' hus hgs' rd fo _ kn kr
    obtain ⟨u, hu'⟩ := hus c (.head _)
    obtain ⟨z, rfl⟩ := hstr x' r ρ' hJ
    obtain ⟨⟨t, rfl⟩, rfl⟩ := rd.str_inv
    refine wpAny_assign_Name (storeCell (s := { s with heap := hp0, toks := tk0 }) O hs' hu' ⟨hgs' c (.head _), h0, hL, hF⟩ hc (fun h' sat' hcell' hsb => ?_) hl)
    obtain ⟨kH, O', sat2⟩ := sat'.now O
    have HC := now_cell sat' hcell' hL hF
    have keep : ∀ {h2 : Heap}, Kp (nowH a ρ' fp' h') h2 → ∀ c' ∈ [c], ∃ u, h2.IsCell c' u := fun kp c' hc' => by rw [List.mem_singleton.mp hc']; exact ⟨_, HC.keeps kp⟩
    exact Ex.goW (s := { s with heap := h', toks := tk0 }) kH (turn z r ρ' hJ _ t kH O' HC) sat2 (fun ρ2 m2 fp2 h2 tk2 q kp p => (kn ρ2 m2 fp2 h2 tk2 q (keep kp) p).1) (fun ρ2 m2 fp2 h2 tk2 q kp p => (kn ρ2 m2 fp2 h2 tk2 q (keep kp) p).2) fun ρ2 m2 fp2 v d as h2 tk2 r p => kr ρ2 m2 fp2 v d as h2 tk2 r p
  · intro c' hm'
    obtain ⟨⟨u', hu'⟩, e1, e2, e3, e4⟩ := hcs c' hm'
    by_cases hcc : c' = c
    · subst hcc; exact ⟨qu _ (.head _), e1, e2, e3, e4⟩
    · have hO := hs.cellOwn hu'
      obtain ⟨o, ho, hd⟩ := hu'
      exact ⟨⟨u', o, (q.gx c' o (hidC_get ho (fun z => hcc (List.mem_singleton.mp z)) e3 hO)).1 e4, hd⟩, e1, e2, e3, e4⟩
/-- x = a text, x a cell; then the rest -/
theorem ExC.cellText (O : a.Ok) {c : Addr} {x : Str} {p pos : Pos} {value : Expr} {rest : List Stmt} (h : Ev a E ρ value fun d _ => ∃ z, d = .str z ∧ ∀ H t, Kp a.D.H0 H → (a.at_ H).Ok → H.IsCell c (some (.str z t)) → Ex (a.at_ H) E ρ rest (fun _ => False) R (fun _ => False))
    (hm : c ∈ cs) (hc : a.env.cells.lookup x = some c) (hl : a.env.kindOf x = some .cell := by rfl) (hsw : swapsWith value (some (.Name x p)) pos.line a.env = pure false := by rfl) : ExC a E ρ cs (.Assign [.Name x p] value pos :: rest) N R := by
  intro m fp g s Q hs hcs k1 k3
  obtain ⟨⟨u, hu⟩, hg, h0, hL, hF⟩ := hcs c hm
  refine wpAny_execs_cons (wpAny_Assign_Name (h m fp g s _ hs fun v d f as h1 tk r p => ?_) hsw)
  obtain ⟨z, rfl, p⟩ := p
  obtain ⟨⟨t, rfl⟩, rfl⟩ := r.rd.str_inv
  have hu1 : h1.IsCell c u := by obtain ⟨o, ho, hd⟩ := hu; exact ⟨o, (r.ext _ o ho).1 hF, hd⟩
  refine storeCell (s := { s with heap := h1, toks := tk }) O r.sat hu1 ⟨hg, h0, hL, hF⟩ hc (fun h' sat' hcell' hsb => ?_) hl
  obtain ⟨kH, O', sat2⟩ := sat'.now O
  exact Ex.goW (s := { s with heap := h', toks := tk }) kH (p _ t kH O' (now_cell sat' hcell' hL hF)) sat2 (fun _ _ _ _ _ _ _ p => p.elim) (fun _ _ _ _ _ _ _ p => p.elim) fun ρ' m' fp' v d as h tk r p => k3 ρ' m' fp' v d as h tk r p
theorem texts_any {prog : Program} {w : World} {h0 : Heap} {xs : List Str} {vs : List Value} {as : List Addr} (r : RdAll prog w h0 vs (xs.map PyData.str) as) (h : Heap) : RdAll prog w h vs (xs.map PyData.str) [] := by
  obtain ⟨l, rfl, el⟩ := RdAll.texts r
  rw [← el]; exact RdAll.ofTexts l
theorem strs_atoms (xs : List Str) : atoms (xs.map PyData.str) = true := by induction xs with | nil => rfl | cons a l ih => simpa [atoms, atom] using ih
/-- x = a new list of texts, x a cell; then the rest -/
theorem ExC.cellList (O : a.Ok) {c : Addr} {x : Str} {p pos : Pos} {value : Expr} {rest : List Stmt} {xs : List Str} (h : Ev a E ρ value fun d f => f = 2 ∧ d = .list (xs.map PyData.str))
    (k : ∀ H b vs n, Kp a.D.H0 H → (a.at_ H).Ok → H.IsCell c (some (.ref b)) → H.get? b = some (listO vs n) → (∀ h : Heap, RdAll a.D.prog a.D.w h vs (xs.map PyData.str) []) → Ex (a.at_ H) E ρ rest (fun _ => False) R (fun _ => False))
    (hm : c ∈ cs) (hc : a.env.cells.lookup x = some c) (hl : a.env.kindOf x = some .cell := by rfl) (hsw : swapsWith value (some (.Name x p)) pos.line a.env = pure false := by rfl) : ExC a E ρ cs (.Assign [.Name x p] value pos :: rest) N R := by
  intro m fp g s Q hs hcs k1 k3
  obtain ⟨⟨u, hu⟩, hg, h0, hL, hF⟩ := hcs c hm
  refine wpAny_execs_cons (wpAny_Assign_Name (h m fp g s _ hs fun v d f as h1 tk r p => ?_) hsw)
  obtain ⟨rfl, rfl⟩ := p
  obtain ⟨b, vs, n, bs, rfl, rfl, hb, rdl⟩ := r.rd.list_inv
  obtain rfl := rdl.atoms (strs_atoms _)
  have hu1 : h1.IsCell c u := by obtain ⟨o, ho, hd⟩ := hu; exact ⟨o, (r.ext _ o ho).1 hF, hd⟩
  refine storeCell (s := { s with heap := h1, toks := tk }) O r.sat hu1 ⟨hg, h0, hL, hF⟩ hc (fun h' sat' hcell' hsb => ?_) hl
  obtain ⟨kH, O', sat2⟩ := sat'.now O
  have hbc : b ≠ c := fun q => by
    obtain ⟨o, ho, hd⟩ := hu1
    rw [q, ho] at hb; cases hb; cases hd
  have hb' : h'.get? b = some (listO vs n) := (hsb.2 b hbc).trans hb
  obtain ⟨bL, bF, _⟩ := r.fo.ok b (.head _)
  have bO : b ∉ ownedOf ρ fp := fun q => by
    obtain ⟨y, sl, rr, e, ow, z⟩ := mem_ownedOf.mp q
    exact r.fo.cl y sl b rr e ow z (by decide) (.head _)
  exact Ex.goW (s := { s with heap := h', toks := tk }) kH (k _ b vs n kH O' (now_cell sat' hcell' hL hF) (nowH_get hb' bL bF bO) fun h => texts_any rdl h) sat2 (fun _ _ _ _ _ _ _ p => p.elim) (fun _ _ _ _ _ _ _ p => p.elim) fun ρ' m' fp' v d as h tk r p => k3 ρ' m' fp' v d as h tk r p
end
theorem Cells.at_ {D : Wd} {A : Around} {fd : FuncData} {L fa : Addr} {stk : List Env} {H1 : Heap} {args : List Addr} {n : Nat} {g h : Heap} {cs : List Addr} (hg : H1 = g) (hcs : ∀ c ∈ cs, ∃ x, (callEnvC fd L fa).cells.lookup x = some c)
    (x : Cells (callEnvC fd L fa).cells L (mkActC D A fd L fa stk H1 args n).F D.H0 H1 h) : CellsAt (mkActC D A fd L fa stk H1 args n) cs g h := fun c hc => by
  obtain ⟨y, hy⟩ := hcs c hc
  obtain ⟨h1, h2, h3, h4, h5⟩ := x.cell y c hy
  exact ⟨⟨_, h1⟩, hg ▸ h2, h3, h4, h5⟩
end Mine
end

section
open PySem PySem.W PySem.Calls PyProof.Rows
set_option maxRecDepth 100000
set_option autoImplicit false
set_option linter.unusedVariables false
namespace Mine

def signsT : List (List Nat) := [[34], [44], [97, 61], [92], [32], [97], [62], [233, 61], [9]]
def signT (c : Int) : List Nat := signsT[(c.fmod 9).toNat]?.getD []
def sizeP (k : Nat) : Nat := match k with | 0 => 2 | 1 => 0 | 2 => 1 | _ => 3
def cntP (k : Nat) : Nat := match k with | 0 => 2 | 1 => 1 | 2 => 3 | _ => 4
def ownP (cells : List Int) (p : Nat) : List Int := pySl cells (some ((4 * p + 1 : Nat) : Int)) (some ((4 * p + 5 : Nat) : Int))
def drawsP (own : List Int) : List Int := pySl own (some 1) (some (1 + (sizeP ((own[0]?.getD 0).fmod 4).toNat : Int)))
def pieceL (own : List Int) : List Nat := ((drawsP own).map signT).flatten
def countP (cells : List Int) : Nat := cntP ((cells[0]?.getD 0).fmod 4).toNat
def piecesFrom (cells : List Int) (j k : Nat) : List (List Nat) := (List.range' j k).map fun p => pieceL (ownP cells p)
def piecesL (cells : List Int) : List (List Nat) := piecesFrom cells 0 (countP cells)

theorem signs_ok : ∀ r : Fin 9, (signsT[r.1]?.getD []).length ≤ 2 ∧ ∀ c ∈ signsT[r.1]?.getD [], c < 0x110000 := by decide
theorem signs_at (r : Fin 9) : (texts signsT)[r.1]? = some (.str (T (signsT[r.1]?.getD []))) := by
  have h : r.1 < signsT.length := r.2
  unfold texts; rw [List.getElem?_map, List.getElem?_eq_getElem h]; rfl
theorem signT_len (c : Int) : (signT c).length ≤ 2 ∧ Cp (signT c) := by
  obtain ⟨r, hr, e⟩ := fmod_nat c 9 (by decide)
  have e' : c.fmod 9 = (r : Int) := e
  unfold signT; rw [e']
  exact signs_ok ⟨r, hr⟩
theorem signT_get (c : Int) : ∃ r : Nat, r < 9 ∧ c.fmod 9 = (r : Int) ∧ (texts signsT)[r]? = some (.str (T (signT c))) := by
  obtain ⟨r, hr, e⟩ := fmod_nat c 9 (by decide)
  have e' : c.fmod 9 = (r : Int) := e
  refine ⟨r, hr, e', ?_⟩
  unfold signT; rw [e']
  exact signs_at ⟨r, hr⟩
theorem ownP_length {cells : List Int} (h : cells.length = 18) {p : Nat} (hp : p < 4) : (ownP cells p).length = 4 := by
  unfold ownP pySl
  rw [List.length_take, List.length_drop, h]
  match p, hp with
  | 0, _ => decide
  | 1, _ => decide
  | 2, _ => decide
  | 3, _ => decide
theorem flat_bound : ∀ (l : List (List Nat)), (∀ x ∈ l, x.length ≤ 2 ∧ Cp x) → l.flatten.length ≤ 2 * l.length ∧ Cp l.flatten
  | [], _ => ⟨by simp, fun c hc => by simp at hc⟩
  | x :: l, h => by
    obtain ⟨h1, h2⟩ := flat_bound l fun y hy => h y (.tail _ hy)
    obtain ⟨h3, h4⟩ := h x (.head _)
    refine ⟨by rw [List.flatten_cons, List.length_append, List.length_cons]; omega, fun c hc => ?_⟩
    rw [List.flatten_cons] at hc
    rcases List.mem_append.mp hc with hc | hc
    · exact h4 c hc
    · exact h2 c hc
theorem pieceL_bound {own : List Int} (h : own.length = 4) : (pieceL own).length ≤ 8 ∧ Cp (pieceL own) := by
  unfold pieceL
  have := flat_bound ((drawsP own).map signT) (fun x hx => by obtain ⟨c, _, rfl⟩ := List.mem_map.mp hx; exact signT_len c)
  have hl : (drawsP own).length ≤ 4 := by unfold drawsP; have := pySl_length own (some 1) (some (1 + (sizeP ((own[0]?.getD 0).fmod 4).toNat : Int))); omega
  rw [List.length_map] at this
  exact ⟨by omega, this.2⟩
theorem countP_bound (cells : List Int) : 1 ≤ countP cells ∧ countP cells ≤ 4 := by unfold countP cntP; split <;> decide
theorem piecesL_bound {cells : List Int} (h : cells.length = 18) : 1 ≤ (piecesL cells).length ∧ (piecesL cells).length ≤ 4 ∧ ∀ x ∈ piecesL cells, x.length ≤ 8 ∧ Cp x := by
  obtain ⟨h1, h2⟩ := countP_bound cells
  unfold piecesL piecesFrom
  refine ⟨by simp; omega, by simp; omega, fun x hx => ?_⟩
  obtain ⟨p, hp, rfl⟩ := List.mem_map.mp hx
  have hp' := List.mem_range'_1.mp hp
  exact pieceL_bound (ownP_length h (by omega))

def signTF : PyData → PyData
  | .int i => .str (T (signT i))
  | d => d
def PJ (cells : List Int) (all : List (List Nat)) (m : Nat) (rest : List PyData) (ρ : Ro) : Prop := ∃ (j k : Nat) (done : List (List Nat)), j + k = m ∧ rest = (List.range' j k).map (fun (c : Nat) => PyData.int (c : Int)) ∧ ρ.look "pieces" = some ⟨.list (texts done), true⟩ ∧ done ++ piecesFrom cells j k = all ∧ done.length ≤ j ∧
  ρ.look "cells" = some ⟨.list (nums cells), false⟩

set_option maxHeartbeats 4000000 in
theorem pieces_ex {D : Wd} {A : Around} {fd : FuncData} {L fa : Addr} {stk : List Env} {H1 : Heap} {args : List Addr} (O : (mkActC D A fd L fa stk H1 args 0).Ok) (hfd : fd.scope = defScope (S2 5)) (E : Value → Shared → Prop)
    {cells : List Int} (hn : cells.length = 18) (hg1 : D.mg "range" = none) :
    ExC (mkActC D A fd L fa stk H1 args 0) E (slots ["cells"] [.list (nums cells)]) [L + 1] (defBody (S2 5)) (fun _ => False) (fun _ d => d = .list (texts (piecesL cells))) := by
  obtain ⟨name, qualname, params, body, scope, globals, closure, dv, kv, doc, pm, an, cd, ct, bt⟩ := fd
  dsimp only at hfd
  subst hfd
  refine ExC.cellList (c := L + 1) (xs := signsT.map T) O (Ev.list O ?_) (fun H b vs n kH O' HC HB HR => ?_) (by simp) rfl
  · (repeat (first | refine Mine.Ev.str ?_ | refine Mine.Ev.int ?_ | refine Mine.Ev.bool ?_ | refine Mine.Ev.name (by assumption) (by ((repeat' (first | exact Mine.Ro.set_get _ _ _ | refine Mine.Ro.set_other (by decide) ?_ | assumption | rfl)); done)) ?_ | refine Mine.Ev.neg (by assumption) ?_ | refine Mine.EvL.nil ?_ | refine Mine.EvL.cons (by assumption) ?_ | refine Mine.Ev.tuple (by assumption) ?_ | refine Mine.Ev.list (by assumption) ?_ | refine Mine.Ev.dict0 (by assumption) ?_ | refine Mine.Ev.binop (by assumption) ?_ | refine Mine.Ev.cmp (by assumption) ?_ | refine Mine.EvT.cmp (by assumption) ?_ | refine Mine.EvT.not ?_ | refine Mine.EvT.bool ?_ | refine Mine.Ev.boolOp (by assumption) ?_ | refine Mine.Ev.slice (by assumption) ?_ | refine Mine.Ev.item (by assumption) ?_ | refine Mine.Ev.strip (by assumption) ?_ | refine Mine.Ev.rstrip (by assumption) ?_ | refine Mine.Ev.join (by assumption) ?_ | refine Mine.Ev.split (by assumption) ?_ | refine Mine.Ev.ifExp ?_ | refine Mine.EvT.val (by assumption) ?_))
    exact ⟨by decide, by decide, rfl, rfl⟩
  obtain ⟨c0, hc0⟩ : ∃ c0, cells[0]? = some c0 := ⟨cells[0], by simp [hn]⟩
  have g0 : (nums cells)[0]? = some (.int c0) := by rw [nums_get, hc0]; rfl
  obtain ⟨r0, hr0, e0⟩ := fmod_nat c0 4 (by decide)
  have e0' : c0.fmod 4 = (r0 : Int) := e0
  have hcount : countP cells = cntP r0 := by unfold countP; rw [hc0]; show cntP (c0.fmod 4).toNat = _; rw [e0']; rfl
  have hcb := countP_bound cells
  refine Ex.cons (Ex1.assign O' true (Ev.list O' (EvL.nil ⟨by decide, by decide, by decide, fun _ => ⟨rfl, rfl, rfl⟩, ?_⟩)))
  refine Ex.cons (Ex1.forRange O' (PJ cells (piecesL cells) (countP cells)) (fun y rest ρ' hJ => ?_) (fun ρ' hJ => ?_) ?_ hg1)
  · obtain ⟨j, k, done, hjk, e, r1, ha, hlen, k1⟩ := hJ
    cases k with
    | zero => cases e
    | succ k =>
    rw [List.range'_succ, List.map_cons] at e
    obtain ⟨rfl, rfl⟩ := List.cons.inj e
    have hj : j < 4 := by omega
    have hown := ownP_length hn hj
    have hpart : piecesFrom cells j (k + 1) = pieceL (ownP cells j) :: piecesFrom cells (j + 1) k := by unfold piecesFrom; rw [List.range'_succ]; rfl
    rw [hpart] at ha
    refine Ex.seq (fun ρ2 => ρ2.look "own" = some ⟨.list (nums (ownP cells j)), false⟩ ∧ ρ2.look "pieces" = some ⟨.list (texts done), true⟩ ∧ ρ2.look "cells" = some ⟨.list (nums cells), false⟩)
      (Ex1.assign O' false (Ev.slice O' (Ev.name (d := .list (nums cells)) (o := false) O' (by ((repeat' (first | exact Mine.Ro.set_get _ _ _ | refine Mine.Ro.set_other (by decide) ?_ | assumption | rfl)); done)) ?_))) (fun ρ2 h2 => ?_)
    · refine Ev.binop O' (Ev.binop O' (Ev.int (Ev.name (d := .int (j : Int)) (o := false) O' (by ((repeat' (first | exact Mine.Ro.set_get _ _ _ | refine Mine.Ro.set_other (by decide) ?_ | assumption | rfl)); done)) ⟨IntMulOk.of_left (by decide), Ev.int ⟨_, rfl, ?_⟩⟩)))
      refine Ev.binop O' (Ev.binop O' (Ev.int (Ev.name (d := .int (j : Int)) (o := false) O' (by ((repeat' (first | exact Mine.Ro.set_get _ _ _ | refine Mine.Ro.set_other (by decide) ?_ | assumption | rfl)); done)) ⟨IntMulOk.of_left (by decide), Ev.int ⟨_, rfl, ?_⟩⟩)))
      refine ⟨by rw [nums_length, hn]; exact size_small (by decide), by decide, nofun, ?_⟩
      have eo : pySl (nums cells) (some (4 * (j : Int) + 1)) (some (4 * (j : Int) + 5)) = nums (ownP cells j) := by
        rw [nums_pySl]; unfold ownP; congr 2 <;> (congr 1)
      rw [eo]
      exact ⟨by ((repeat' (first | exact Mine.Ro.set_get _ _ _ | refine Mine.Ro.set_other (by decide) ?_ | assumption | rfl)); done), by ((repeat' (first | exact Mine.Ro.set_get _ _ _ | refine Mine.Ro.set_other (by decide) ?_ | assumption | rfl)); done), by ((repeat' (first | exact Mine.Ro.set_get _ _ _ | refine Mine.Ro.set_other (by decide) ?_ | assumption | rfl)); done)⟩
    obtain ⟨z1, z2, z3⟩ := h2
    generalize ownP cells j = own at *
    have hpb := pieceL_bound hown
    obtain ⟨n0, hn0'⟩ : ∃ n0, own[0]? = some n0 := ⟨own[0], by simp [hown]⟩
    have g1 : (nums own)[0]? = some (.int n0) := by rw [nums_get, hn0']; rfl
    obtain ⟨r2, hr2, e2⟩ := fmod_nat n0 4 (by decide)
    have e2' : n0.fmod 4 = (r2 : Int) := e2
    have hdraws : drawsP own = pySl own (some 1) (some (1 + (sizeP r2 : Int))) := by unfold drawsP; rw [hn0']; show pySl own (some 1) (some (1 + (sizeP (n0.fmod 4).toNat : Int))) = _; rw [e2']; rfl
    have hdl : (drawsP own).length ≤ 4 := by rw [hdraws]; have := pySl_length own (some 1) (some (1 + (sizeP r2 : Int))); omega
    refine Ex.seq (fun ρ2 => ρ2.look "own" = some ⟨.list (nums own), false⟩ ∧ ρ2.look "pieces" = some ⟨.list (texts done), true⟩ ∧ ρ2.look "cells" = some ⟨.list (nums cells), false⟩ ∧ ρ2.look "size" = some ⟨.int (sizeP r2 : Int), false⟩)
      (Ex1.assign O' false (Ev.item O' ?_)) (fun ρ2 h2 => ?_)
    · (repeat (first | refine Mine.Ev.str ?_ | refine Mine.Ev.int ?_ | refine Mine.Ev.bool ?_ | refine Mine.Ev.name (by assumption) (by ((repeat' (first | exact Mine.Ro.set_get _ _ _ | refine Mine.Ro.set_other (by decide) ?_ | assumption | rfl)); done)) ?_ | refine Mine.Ev.neg (by assumption) ?_ | refine Mine.EvL.nil ?_ | refine Mine.EvL.cons (by assumption) ?_ | refine Mine.Ev.tuple (by assumption) ?_ | refine Mine.Ev.list (by assumption) ?_ | refine Mine.Ev.dict0 (by assumption) ?_ | refine Mine.Ev.binop (by assumption) ?_ | refine Mine.Ev.cmp (by assumption) ?_ | refine Mine.EvT.cmp (by assumption) ?_ | refine Mine.EvT.not ?_ | refine Mine.EvT.bool ?_ | refine Mine.Ev.boolOp (by assumption) ?_ | refine Mine.Ev.slice (by assumption) ?_ | refine Mine.Ev.item (by assumption) ?_ | refine Mine.Ev.strip (by assumption) ?_ | refine Mine.Ev.rstrip (by assumption) ?_ | refine Mine.Ev.join (by assumption) ?_ | refine Mine.Ev.split (by assumption) ?_ | refine Mine.Ev.ifExp ?_ | refine Mine.EvT.val (by assumption) ?_))
      refine ⟨by decide, by decide, fun q => absurd q (by decide), Ev.binop O' (Ev.nameItem (k := 0) O' z1 g1 (by decide) (Ev.int ⟨by decide, ?_⟩))⟩
      rw [e2']
      refine ItemOk.list (k := r2) (list4 hr2 (fun r => .int (sizeP r : Int)) rfl rfl rfl rfl) (by omega) ⟨by decide, nofun, by ((repeat' (first | exact Mine.Ro.set_get _ _ _ | refine Mine.Ro.set_other (by decide) ?_ | assumption | rfl)); done), by ((repeat' (first | exact Mine.Ro.set_get _ _ _ | refine Mine.Ro.set_other (by decide) ?_ | assumption | rfl)); done), by ((repeat' (first | exact Mine.Ro.set_get _ _ _ | refine Mine.Ro.set_other (by decide) ?_ | assumption | rfl)); done), by ((repeat' (first | exact Mine.Ro.set_get _ _ _ | refine Mine.Ro.set_other (by decide) ?_ | assumption | rfl)); done)⟩
    obtain ⟨z1, z2, z3, z4⟩ := h2
    refine Ex.cons (Ex1.append O' z2 (Ev.join O' (Ev.str ⟨T [], rfl, Ev.comp O' (cl := [("signs", L + 1)]) ⟨rfl, by decide, rfl, by decide⟩ (Ev.slice O' (Ev.name (d := .list (nums own)) (o := false) O' z1 ?_))⟩)))
    refine Ev.int ⟨1, rfl, Ev.binop O' (Ev.int (Ev.name (d := .int (sizeP r2 : Int)) (o := false) O' z4 ⟨_, rfl, ?_⟩))⟩
    refine ⟨by rw [nums_length]; exact size_small (by omega), nums (drawsP own), fun _ => true, signTF, by rw [nums_pySl, ← hdraws], .inl ⟨_, _, rfl⟩, by rw [nums_length]; exact size_small (by omega), fun x hx => ?_, ?_⟩
    · obtain ⟨i, _, rfl⟩ := List.mem_map.mp hx
      intro C H1' args' O3 E'
      refine Asg.name O3 ?_
      intro m2 fp2 g2 s2 Q2 hs2 K2
      refine wpAny_tests_nil (K2 true s2.heap s2.toks hs2 (Ext.refl _ _) ⟨rfl, fun _ => ?_⟩)
      obtain ⟨r, hr, er, hget⟩ := signT_get i
      exact Ev.cellItem O3 (c := L + 1) (b := b) (xs := texts signsT) HC HB HR (Ev.binop O3 (Ev.name (d := .int i) (o := false) O3 (by ((repeat' (first | exact Mine.Ro.set_get _ _ _ | refine Mine.Ro.set_other (by decide) ?_ | assumption | rfl)); done)) (Ev.int ⟨by decide, i.fmod 9, r, _, rfl, er, by omega, hget, rfl⟩))) rfl
    · have hm : (List.map signTF (List.filter (fun _ => true) (nums (drawsP own)))) = (((drawsP own).map signT).map T).map PyData.str := by
        rw [List.filter_eq_self.mpr fun _ _ => rfl]
        unfold nums
        rw [List.map_map, List.map_map, List.map_map]; rfl
      rw [hm]
      refine ⟨_, rfl, joinOk_small _ (fun x hx => ?_) (by rw [List.length_map]; omega), by decide, by rw [texts_length]; exact size_small (by omega), Ex.nil ?_⟩
      · obtain ⟨c, _, rfl⟩ := List.mem_map.mp hx
        exact Nat.le_trans (signT_len c).1 (by decide)
      · rw [join_T]
        refine ⟨j + 1, k, done ++ [pieceL own], by omega, rfl, ?_, by rw [← ha]; simp, by simp; omega, by ((repeat' (first | exact Mine.Ro.set_get _ _ _ | refine Mine.Ro.set_other (by decide) ?_ | assumption | rfl)); done)⟩
        rw [← texts_snoc]; exact Ro.set_get _ _ _
  · obtain ⟨j, k, done, hjk, e, r1, ha, hlen, k1⟩ := hJ
    obtain rfl : k = 0 := by cases k with | zero => rfl | succ _ => cases e
    have ha : done = piecesL cells := by rw [← ha]; simp [piecesFrom]
    subst ha
    refine Ex.cons (Ex1.ret O' (Ev.name (d := .list (texts (piecesL cells))) (o := true) O' r1 rfl))
  · refine Ev.item O' ?_
    (repeat (first | refine Mine.Ev.str ?_ | refine Mine.Ev.int ?_ | refine Mine.Ev.bool ?_ | refine Mine.Ev.name (by assumption) (by ((repeat' (first | exact Mine.Ro.set_get _ _ _ | refine Mine.Ro.set_other (by decide) ?_ | assumption | rfl)); done)) ?_ | refine Mine.Ev.neg (by assumption) ?_ | refine Mine.EvL.nil ?_ | refine Mine.EvL.cons (by assumption) ?_ | refine Mine.Ev.tuple (by assumption) ?_ | refine Mine.Ev.list (by assumption) ?_ | refine Mine.Ev.dict0 (by assumption) ?_ | refine Mine.Ev.binop (by assumption) ?_ | refine Mine.Ev.cmp (by assumption) ?_ | refine Mine.EvT.cmp (by assumption) ?_ | refine Mine.EvT.not ?_ | refine Mine.EvT.bool ?_ | refine Mine.Ev.boolOp (by assumption) ?_ | refine Mine.Ev.slice (by assumption) ?_ | refine Mine.Ev.item (by assumption) ?_ | refine Mine.Ev.strip (by assumption) ?_ | refine Mine.Ev.rstrip (by assumption) ?_ | refine Mine.Ev.join (by assumption) ?_ | refine Mine.Ev.split (by assumption) ?_ | refine Mine.Ev.ifExp ?_ | refine Mine.EvT.val (by assumption) ?_))
    refine ⟨by decide, by decide, fun q => absurd q (by decide), Ev.binop O' (Ev.nameItem (k := 0) O' (by ((repeat' (first | exact Mine.Ro.set_get _ _ _ | refine Mine.Ro.set_other (by decide) ?_ | assumption | rfl)); done)) g0 (by decide) (Ev.int ⟨by decide, ?_⟩))⟩
    rw [e0']
    refine ItemOk.list (k := r0) (list4 hr0 (fun r => .int (cntP r : Int)) rfl rfl rfl rfl) (by omega) ⟨_, rfl, by omega, by rw [← hcount]; omega, 0, countP cells, [], by omega, ?_, by ((repeat' (first | exact Mine.Ro.set_get _ _ _ | refine Mine.Ro.set_other (by decide) ?_ | assumption | rfl)); done), rfl, by simp, by ((repeat' (first | exact Mine.Ro.set_get _ _ _ | refine Mine.Ro.set_other (by decide) ?_ | assumption | rfl)); done)⟩
    rw [hcount]; unfold upto; rw [List.range_eq_range']; rfl
end Mine
end

section
open PySem PySem.W PySem.Calls PyProof.Rows
set_option maxRecDepth 100000
set_option autoImplicit false
set_option linter.unusedVariables false
namespace Mine

/-! bounds -/
theorem httpL_small (l : List Nat) : (∀ x ∈ httpL l, x.length ≤ l.length ∧ ∀ c ∈ x, c ∈ l) ∧ (httpL l).length ≤ l.length + 1 := by
  have h := PInv.run (S := l) l (n := 0) (st := ⟨[], [], false, false⟩) ⟨by simp, by simp, by simp, by simp⟩ fun c hc => hc
  obtain ⟨h1, h2, h3, h4⟩ := h
  unfold httpL pend
  refine ⟨fun x hx => ?_, ?_⟩
  · obtain ⟨y, hy, rfl⟩ := List.mem_map.mp hx
    have hs := stripL_length y
    have key : y.length ≤ 0 + l.length ∧ ∀ c ∈ y, c ∈ l := by
      split at hy
      · exact h3 y hy
      · rcases List.mem_append.mp hy with q | q
        · exact h3 y q
        · rw [List.mem_singleton.mp q]; exact ⟨h1, h4⟩
    exact ⟨by omega, fun c hc => key.2 c (stripL_mem hc)⟩
  · rw [List.length_map]; split
    · omega
    · simp; omega
structure Small (t : List Nat) : Prop where
  len : t.length ≤ 100
  cp : Cp t
theorem Cp.app {a b : List Nat} (x : Cp a) (y : Cp b) : Cp (a ++ b) := fun c hc => (List.mem_append.mp hc).elim (x c) (y c)
theorem asked_items {q : Nat} {t : List Nat} (h : Small t) : (∀ i ∈ (askedL q t).items, i.length ≤ 103 ∧ Cp i) ∧ (askedL q t).items.length ≤ 104 := by
  have hl : (frontL q ++ t ++ [62]).length ≤ 103 := by have := frontL_length q; have := h.len; simp; omega
  have hc : Cp (frontL q ++ t ++ [62]) := ((frontL_cp q).app h.cp).app (by unfold Cp; decide)
  obtain ⟨h1, h2⟩ := httpL_small (frontL q ++ t ++ [62])
  exact ⟨fun i hi => ⟨Nat.le_trans (h1 i hi).1 hl, fun c hc' => hc c ((h1 i hi).2 c hc')⟩, Nat.le_trans h2 (by omega)⟩
theorem asked_ok {q : Nat} (hq : q < 3) {t : List Nat} (h : Small t) : AskOk (askedL q t) := by
  obtain ⟨h1, h2⟩ := asked_items (q := q) h
  refine ⟨?_, by omega, fun i hi => ⟨by have := (h1 i hi).1; omega, (h1 i hi).2⟩, ?_⟩
  · have e : (askedL q t).items = itemsQ (headQ q) (runQ q t) := by rw [asked_eq hq]
    intro z
    have := items_length (headQ q) (runQ q t)
    rw [← e, z] at this; simp at this
  · show (readL (pySl (askedL q t).items (some 1) (some (-1)))).size ≤ 400
    have := readL_size (pySl (askedL q t).items (some 1) (some (-1)))
    have := pySl_length (askedL q t).items (some 1) (some (-1))
    omega
def asks (t : List Nat) : List Ask := [askedL 0 t, askedL 1 t, askedL 2 t]
theorem glued_asks (a b : List Nat) : gluedL (asks a) (asks b) = asks (a ++ b) := by
  have key : ∀ q, q < 3 → glue2 (askedL q a) ((asks b)[(askedL q a).fin]?.getD ask0) = askedL q (a ++ b) := fun q hq => by
    have hf : (askedL q a).fin < 3 := by rw [asked_fin hq]; exact fin_lt _
    have : (asks b)[(askedL q a).fin]?.getD ask0 = askedL (askedL q a).fin b := by
      generalize (askedL q a).fin = k at hf
      match k, hf with
      | 0, _ => rfl
      | 1, _ => rfl
      | 2, _ => rfl
    rw [this]; exact glue_asked hq a b
  unfold gluedL
  show [glue2 (askedL 0 a) ((asks b)[(askedL 0 a).fin]?.getD ask0), glue2 (askedL 1 a) ((asks b)[(askedL 1 a).fin]?.getD ask0), glue2 (askedL 2 a) ((asks b)[(askedL 2 a).fin]?.getD ask0)] = [_, _, _]
  rw [key 0 (by decide), key 1 (by decide), key 2 (by decide)]
theorem asks_ok {a b : List Nat} (ha : Small a) (hb : Small b) : ∀ x ∈ asks a, AskOk x ∧ ∃ y, (asks b)[x.fin]? = some y ∧ AskOk y := by
  have key : ∀ q, q < 3 → AskOk (askedL q a) ∧ ∃ y, (asks b)[(askedL q a).fin]? = some y ∧ AskOk y := fun q hq => by
    have hf : (askedL q a).fin < 3 := by rw [asked_fin hq]; exact fin_lt _
    refine ⟨asked_ok hq ha, askedL (askedL q a).fin b, ?_, asked_ok hf hb⟩
    generalize (askedL q a).fin = k at hf
    match k, hf with
    | 0, _ => rfl
    | 1, _ => rfl
    | 2, _ => rfl
  intro x hx
  simp only [asks, List.mem_cons, List.not_mem_nil, or_false] at hx
  rcases hx with rfl | rfl | rfl
  · exact key 0 (by decide)
  · exact key 1 (by decide)
  · exact key 2 (by decide)

/-! readings compared -/
theorem texts_lay : ∀ {xs : List (List Nat)}, (∀ x ∈ xs, Cp x) → PyData.canLayAll0 (texts xs) = true ∧ PyData.depthAll (texts xs) = 0
  | [], _ => ⟨rfl, rfl⟩
  | x :: xs, h => by
    obtain ⟨i1, i2⟩ := texts_lay fun y hy => h y (.tail _ hy)
    have h0 : PyData.strOk (T x) = true := CpStr.of (h x (.head _))
    have e : texts (x :: xs) = .str (T x) :: texts xs := rfl
    rw [e]
    exact ⟨by simp [PyData.canLayAll0, PyData.canLay0, h0, i1], by simp [PyData.depthAll, PyData.depth, i2]⟩
theorem pairs_lay : ∀ {ps : List (Str × Str)}, PsOk ps → PyData.canLayAll0 (ps.map fun p => .tuple [.str p.1, .str p.2]) = true ∧ PyData.depthAll (ps.map fun p => .tuple [.str p.1, .str p.2]) ≤ 1
  | [], _ => ⟨rfl, by decide⟩
  | p :: ps, h => by
    obtain ⟨i1, i2⟩ := pairs_lay fun q hq => h q (.tail _ hq)
    obtain ⟨h1, h2⟩ := h p (.head _)
    have h1' : PyData.strOk p.1 = true := h1
    have h2' : PyData.strOk p.2 = true := h2
    rw [List.map_cons]
    refine ⟨by simp [PyData.canLayAll0, PyData.canLay0, h1', h2', i1], ?_⟩
    simp only [PyData.depthAll, PyData.depth]
    omega
theorem kr_lay {k : KR} (hv : ∀ ps, k = .val ps → PsOk ps) (he : ∀ c, k = .err c → c = "ValueError" ∨ c = "IndexError") : k.dat.canLay0 = true ∧ k.dat.depth ≤ 2 := by
  cases k with
  | val ps =>
    obtain ⟨h1, h2⟩ := pairs_lay (hv ps rfl)
    exact ⟨by simp [KR.dat, PyData.canLay0, h1], by simp only [KR.dat, PyData.depth]; omega⟩
  | err c =>
    rcases he c rfl with rfl | rfl
    · exact ⟨by decide +kernel, by decide +kernel⟩
    · exact ⟨by decide +kernel, by decide +kernel⟩
theorem readL_ok {xs : List (List Nat)} (h : ∀ x ∈ xs, Cp x) : (∀ ps, readL xs = .val ps → PsOk ps) ∧ ∀ c, readL xs = .err c → c = "ValueError" ∨ c = "IndexError" :=
  ⟨fun ps e => (keqv_ok _ (fun x hx => h x (List.mem_filter.mp hx).1) (by intro p hp; cases hp) e).1, fun c e => keqv_err _ e⟩
theorem ask_lay {q : Nat} {t : List Nat} (h : Small t) : (askedL q t).dat.canLay0 = true ∧ (askedL q t).dat.depth ≤ 3 := by
  obtain ⟨h1, h2⟩ := asked_items (q := q) h
  obtain ⟨t1, t2⟩ := texts_lay fun x hx => (h1 x hx).2
  have hin : ∀ x ∈ pySl (askedL q t).items (some 1) (some (-1)), Cp x := fun x hx => (h1 x (by unfold pySl at hx; exact List.mem_of_mem_drop (List.mem_of_mem_take hx))).2
  obtain ⟨r1, r2⟩ := readL_ok hin
  obtain ⟨k1, k2⟩ := kr_lay r1 r2
  have k1' : (askedL q t).inner.dat.canLay0 = true := k1
  have k2' : (askedL q t).inner.dat.depth ≤ 2 := k2
  refine ⟨by simp [Ask.dat, PyData.canLay0, PyData.canLayAll0, t1, k1'], ?_⟩
  simp only [Ask.dat, PyData.depth, PyData.depthAll, t2]
  omega
theorem asks_shaped {t : List Nat} (h : Small t) : SeqAt.shaped (.list (askDats (asks t))) = true := by
  obtain ⟨a1, a2⟩ := ask_lay (q := 0) h
  obtain ⟨b1, b2⟩ := ask_lay (q := 1) h
  obtain ⟨c1, c2⟩ := ask_lay (q := 2) h
  unfold SeqAt.shaped
  have e : askDats (asks t) = [(askedL 0 t).dat, (askedL 1 t).dat, (askedL 2 t).dat] := rfl
  rw [e]
  simp only [PyData.canLay0, PyData.canLayAll0, a1, b1, c1, Bool.true_and, Bool.and_true]
  refine decide_eq_true ?_
  simp only [PyData.depth, PyData.depthAll]
  omega

/-! the contracts that the law's own body leans on -/
structure Fns2 (D : Wd) : Prop where
  asked : ∀ q t, q < 3 → Small t → Fn D 2 "_law_asked" [.int ((q : Nat) : Int), .str (T t)] fun d => d = (askedL q t).dat
  told : ∀ q t, q < 3 → Small t → Fn D 0 "_law_told" [.int ((q : Nat) : Int), .str (T t)] fun d => d = (toldA q t).dat
  simple : ∀ t, Small t → Fn D 0 "_law_simple" [.str (T t)] fun d => d = .bool (simpleL t)
  glued : ∀ a b, Small a → Small b → Fn D 2 "_law_glued" [.list (askDats (asks a)), .list (askDats (asks b))] fun d => d = .list (askDats (asks (a ++ b)))
  read : ∀ xs : List (List Nat), (∀ x ∈ xs, x.length ≤ 1000 ∧ Cp x) → xs.length ≤ 1000 → Fn D 1 "_law_read" [.list (texts xs)] fun d => d = (readL xs).dat
  laid : ∀ x y : KR, x.size + y.size ≤ 1000 → Fn D 0 "_law_laid" [x.dat, y.dat] fun d => d = (laidL x y).dat
  one : ∀ x : List Nat, x ≠ [] → x.length ≤ 1000 → Cp x → Fn D 2 "_law_one" [.str (T x)] fun d => d = .bool true
  http : ∀ l : List Nat, l.length ≤ 1000 → Fn D 0 "parse_http_list" [.str (T l)] fun d => d = .list (texts (httpL l))
theorem Fns2.at_ {D : Wd} {H : Heap} (x : Fns2 D) (k : Kp D.H0 H) : Fns2 { D with H0 := H } :=
  ⟨fun q t h1 h2 => (x.asked q t h1 h2).at_ k, fun q t h1 h2 => (x.told q t h1 h2).at_ k, fun t h => (x.simple t h).at_ k, fun a b h1 h2 => (x.glued a b h1 h2).at_ k, fun xs h1 h2 => (x.read xs h1 h2).at_ k,
   fun a b h => (x.laid a b h).at_ k, fun a h1 h2 h3 => (x.one a h1 h2 h3).at_ k, fun l h => (x.http l h).at_ k⟩
theorem Fn.is {D : Wd} {n : Nat} {x : Str} {ds : List PyData} {P : PyData → Prop} (f : Fn D n x ds P) : ∃ fa, IsFn D x fa := by obtain ⟨fa, h, _⟩ := f; exact ⟨fa, h⟩

/-- [f(q, cell) for q in range(3)] -/
theorem comp_q {a : Act} {E : Value → Shared → Prop} {ρ : Ro} {P : PyData → Nat → Prop} (O : a.Ok) {fn cn : Str} {c : Addr} {t : List Nat} {tk : Tok} {F : Nat → Ask} {k : Nat} {px p1 p2 p3 p4 p5 p6 p7 pos : Pos} {k3 : Nat} {scope : Scope}
    (hv : a.D.H0.IsCell c (some (.str (T t) tk))) (hF : ∀ q, q < 3 → Fn a.D k fn [.int ((q : Nat) : Int), .str (T t)] fun d => d = (F q).dat) (hk : k + 1 ≤ a.n) (hg : a.D.mg "range" = none)
    (sh : CompShape a scope [(cn, c)]) (h : P (.list [(F 0).dat, (F 1).dat, (F 2).dat]) 2)
    (hsc : scope = { kind := .function, names := [(".0", .local), ("q", .local), (fn, .globalImplicit), (cn, .free)], isGenerator := false, isCoroutine := false, more := [] })
    (hd : (fn == ("__debug__" : Str)) = false) (hd2 : (cn == ("__debug__" : Str)) = false)
    (hfk : ∀ C, (compEnvC scope [(cn, c)] C a.env).kindOf fn = some .globalImplicit) (hck : ∀ C, (compEnvC scope [(cn, c)] C a.env).kindOf cn = some .cell)
    (hx : a.env.kindOf "range" = some .globalImplicit := by rfl)
    (hf : ∀ v, foldedSetIterable (.Call (.Name "range" p5) [.Constant (.int 3) k3 p6] [] p4) a.env v = pure v := by intro _; rfl) :
    Ev a E ρ (.ListComp (.Call (.Name fn p1) [.Name "q" p2, .Name cn p3] [] p7) [⟨.Name "q" px, .Call (.Name "range" p5) [.Constant (.int 3) k3 p6] [] p4, [], 0⟩] scope pos) P := by
  subst hsc
  refine Ev.compRange O sh (Ev.int ⟨3, (fun d => match d with | .int i => (F i.toNat).dat | d => d), rfl, by decide, by decide, fun y hy => ?_, h⟩) hg hx hf
  obtain ⟨q, hq, rfl⟩ : ∃ q : Nat, q < 3 ∧ y = .int (q : Int) := by
    obtain ⟨q, hq, rfl⟩ := List.mem_map.mp hy
    exact ⟨q, List.mem_range.mp hq, rfl⟩
  intro C H1 args O3 E'
  refine Asg.name O3 ?_
  intro m fp g s Q hs K
  refine wpAny_tests_nil (K true s.heap s.toks hs (Ext.refl _ _) ⟨rfl, fun _ => ?_⟩)
  have fq := hF q hq
  refine Ev.call (k := k) O3 (EvL.cons O3 (Ev.name (d := .int (q : Int)) (o := false) O3 (Ro.set_get _ _ _) (EvL.cons O3 (Ev.cell O3 hv (EvL.nil ⟨_, fq, fun d hd => ?_⟩) (by simp [compAct, compEnvC]) (hck C) hd2)))) hk (hfk C) hd (hfn := fq.is)
  subst hd
  exact ⟨.inl (by decide), rfl⟩
end Mine
end

section
open PySem PySem.W PySem.Calls PyProof.Rows
set_option maxRecDepth 100000
set_option autoImplicit false
set_option linter.unusedVariables false
namespace Mine

theorem comp_strip1 (a : Act) {px p1 p2 p3 : Pos} {xs : List (List Nat)} (hx : ∀ x ∈ xs, x.length ≤ 1000) (h2 : (p1.endLine == p2.line) = true) :
    ∀ x ∈ texts xs, CompTurn a oneScope [] (.Name "one" px) (.Call (.Attribute (.Name "one" p3) "strip" p1) [] [] p2) [] (fun _ => true) (fun d => match d with | .str x => .str (Txt.strip x) | d => d) x := by
  intro d hd C H1 args O' E'
  obtain ⟨x, hx', rfl⟩ := List.mem_map.mp hd
  refine Asg.name O' ?_
  intro m fp g s Q hs K
  refine wpAny_tests_nil (K true s.heap s.toks hs (Ext.refl _ _) ⟨rfl, fun _ => ?_⟩)
  exact Ev.strip O' (Ev.name O' (Ro.set_get _ _ _) ⟨T x, rfl, by rw [T_length]; exact size_small (Nat.le_trans (hx x hx') (by decide)), rfl⟩) (hline := h2)
theorem texts_map_strip (xs : List (List Nat)) : (List.map (fun d => match d with | .str x => .str (Txt.strip x) | d => d) (List.filter (fun _ => true) (texts xs))) = texts (xs.map stripL) := by
  rw [List.filter_eq_self.mpr fun _ _ => rfl]
  unfold texts
  rw [List.map_map, List.map_map]
  refine List.map_congr_left fun x _ => ?_
  show PyData.str (Txt.strip (T x)) = PyData.str (T (stripL x))
  rw [strip_T]
def itemScope : Scope := { kind := .function, names := [(".0", .local), ("item", .local), ("_law_one", .globalImplicit)], isGenerator := false, isCoroutine := false, more := [] }
/-- [item for item in got if item and not _law_one(item)] -/
theorem comp_bad {a : Act} (hk : 3 ≤ a.n) {px p1 p2 p3 p4 p5 p6 p7 : Pos} {xs : List (List Nat)} (hx : ∀ x ∈ xs, x.length ≤ 1000)
    (h1 : ∀ x ∈ xs, x ≠ [] → Fn a.D 2 "_law_one" [.str (T x)] fun d => d = .bool true) :
    ∀ x ∈ texts xs, CompTurn a itemScope [] (.Name "item" px) (.Name "item" p1) [.BoolOp .And [.Name "item" p2, .UnaryOp .Not (.Call (.Name "_law_one" p3) [.Name "item" p4] [] p5) p6] p7] (fun _ => false) id x := by
  intro d hd C H1 args O' E'
  obtain ⟨x, hx', rfl⟩ := List.mem_map.mp hd
  refine Asg.name O' ?_
  have t : EvT (compAct a itemScope [] C H1 args) E' (Ro.set [] "item" ⟨.str (T x), false⟩) (.BoolOp .And [.Name "item" p2, .UnaryOp .Not (.Call (.Name "_law_one" p3) [.Name "item" p4] [] p5) p6] p7) (fun b => b = (decide (x ≠ []) && (false && true))) := by
    refine EvT.bool (AllT.and (EvT.val O' (Ev.name (d := .str (T x)) (o := false) O' (by ((repeat' (first | exact Mine.Ro.set_get _ _ _ | refine Mine.Ro.set_other (by decide) ?_ | assumption | rfl)); done)) ⟨by rw [T_length]; exact size_small (Nat.le_trans (hx x hx') (by decide)), ?_⟩)) fun hne => AllT.and (EvT.not (EvT.val O' ?_)) fun _ => rfl)
    · show (((T x).length : Int) != 0) = decide (x ≠ [])
      rw [T_length, Bool.eq_iff_iff]; cases x <;> simp <;> omega
    · have f1 := h1 x hx' (by simpa using hne)
      refine Ev.call (k := 2) O' (EvL.cons O' (Ev.name (d := .str (T x)) (o := false) O' (by ((repeat' (first | exact Mine.Ro.set_get _ _ _ | refine Mine.Ro.set_other (by decide) ?_ | assumption | rfl)); done)) (EvL.nil ⟨_, f1, fun d hd => ?_⟩))) hk (hfn := f1.is)
      subst hd
      exact ⟨.inl (by decide), TruthOk.of rfl⟩
  intro m fp g s Q hs K
  refine wpAny_tests_one (t m fp g s _ hs fun b h tk q e p => K b h tk q e ⟨by rw [p]; simp, fun hb => ?_⟩)
  rw [p] at hb; simp at hb
theorem getLast_charAt (w : List Nat) {c : Nat} (h : w.getLast? = some c) : Txt.charAt (T w) (-1) = some c := by rw [charAt_Tlast, h]

set_option maxHeartbeats 1000000 in
theorem law_tail {D : Wd} {A : Around} {fd : FuncData} {L fa : Addr} {stk : List Env} {H1 H : Heap} {args : List Addr} (O : ((mkActC D A fd L fa stk H1 args 3).at_ H).Ok) (hfd : fd.scope = defScope (S2 13)) (E : Value → Shared → Prop)
    {w : List Nat} (hw : Small w) {tk : Tok} (hv : H.IsCell (L + 2) (some (.str (T w) tk))) (F : Fns2 { D with H0 := H }) (hg : D.mg "range" = none) (hg2 : D.mg "len" = none) {ρ : Ro} {o : Bool}
    (hrow : ρ.look "row" = some ⟨.list [.list (askDats (asks w))], o⟩) :
    Ex ((mkActC D A fd L fa stk H1 args 3).at_ H) E ρ ((defBody (S2 13)).drop 7) (fun _ => False) (fun _ d => d = .bool true) (fun _ => False) := by
  obtain ⟨name, qualname, params, body, scope, globals, closure, dv, kv, doc, pm, an, cd, ct, bt⟩ := fd
  dsimp only at hfd
  subst hfd
  have hwc : (actOf O).env.cells.lookup ("whole" : Str) = some (L + 2) := rfl
  have wl : (T w).length ≤ sizeLine := by rw [T_length]; exact size_small (Nat.le_trans hw.len (by decide))
  obtain ⟨it1, it2⟩ := asked_items (q := 0) hw
  have iok := asked_ok (q := 0) (by decide) hw
  have itl : ∀ xs : List (List Nat), xs.length ≤ 200 → (texts xs).length ≤ sizeLine := fun xs h => by rw [texts_length]; exact size_small (Nat.le_trans h (by decide))
  -- row[0] != [..]
  refine Ex.cons (Ex1.ifB false (EvT.cmp O (Ev.item O (Ev.name (d := .list [.list (askDats (asks w))]) (o := o) O hrow ⟨fun _ => ⟨_, rfl⟩, Ev.int (ItemOk.list (k := 0) (d := .list (askDats (asks w))) rfl (by decide) ?_)⟩))) (fun q => by cases q) fun _ => Ex.nil ?_)
  · refine comp_q (c := L + 2) (t := w) (tk := tk) (k := 2) (F := fun q => askedL q w) ?_ ?_ ?_ ?_ ?_ ?_ ?_ ?_ ?_ ?_ ?_ ?_
    · exact O
    · exact hv
    · exact fun q hq => F.asked q w hq hw
    · exact Nat.le_of_ble_eq_true rfl
    · exact hg
    · exact ⟨rfl, by decide, rfl, by decide⟩
    · exact CmpOk.ne (EqOk.list (asks_shaped hw) rfl)
    · rfl
    · decide
    · decide
    · intro C; rfl
    · intro C; rfl
  -- items, inner, end
  have loc3 : ∀ z ∈ [("items" : Str), "inner", "end"], (actOf O).env.kindOf z = some .local ∧ (actOf O).pinN ≠ some z := by
    intro z hz
    simp only [List.mem_cons, List.not_mem_nil, or_false] at hz
    rcases hz with rfl | rfl | rfl <;> exact ⟨rfl, nofun⟩
  refine Ex.seq (fun ρ2 => ρ2.look "items" = some ⟨.list (texts (askedL 0 w).items), false⟩ ∧ ρ2.look "inner" = some ⟨(askedL 0 w).inner.dat, false⟩) ?_ (fun ρ2 h2 => ?_)
  · refine Ex1.unpack (xs := ["items", "inner", "end"]) O (Ev.item O (Ev.item O (Ev.name (d := .list [.list (askDats (asks w))]) (o := o) O hrow ?_))) rfl loc3
    refine ⟨fun _ => ⟨_, rfl⟩, Ev.int (ItemOk.list (k := 0) (d := .list (askDats (asks w))) rfl (by decide) ⟨fun q => absurd q (by decide), Ev.int (ItemOk.list (k := 0) (d := (askedL 0 w).dat) rfl (by decide) ⟨by decide, _, rfl, rfl, by ((repeat' (first | exact Mine.Ro.set_get _ _ _ | refine Mine.Ro.set_other (by decide) ?_ | assumption | rfl)); done), by ((repeat' (first | exact Mine.Ro.set_get _ _ _ | refine Mine.Ro.set_other (by decide) ?_ | assumption | rfl)); done)⟩)⟩)⟩
  obtain ⟨r1, r2⟩ := h2
  generalize hits : (askedL 0 w).items = its at *
  generalize hinn : (askedL 0 w).inner = inn at *
  obtain ⟨x0, hx0⟩ : ∃ x0, its[0]? = some x0 := by
    cases q : its with
    | nil => exact absurd (hits.trans q) iok.some
    | cons a b => exact ⟨a, rfl⟩
  have hx0m := List.mem_of_getElem? hx0
  have szi := itl its (by omega)
  -- told
  refine Ex.seq (fun ρ3 => ρ3.look "items" = some ⟨.list (texts its), false⟩ ∧ ρ3.look "inner" = some ⟨inn.dat, false⟩ ∧ ρ3.look "told" = some ⟨.list (texts (pySl x0 (some 1) none :: pySl its (some 1) none)), false⟩) ?_ (fun ρ3 h3 => ?_)
  · refine Ex1.assign O false (Ev.binop O (Ev.list O (EvL.cons O (Ev.slice O (Ev.item O (Ev.name (d := .list (texts its)) (o := false) O r1 ?_))))))
    refine ⟨fun q => absurd q (by decide), Ev.int (ItemOk.list (k := 0) (texts_get hx0) (by decide) ?_)⟩
    refine Ev.int ⟨1, rfl, by rw [T_length]; exact size_small (Nat.le_trans (it1 x0 hx0m).1 (by decide)), EvL.nil ⟨by decide, (by first | decide | (simp only [List.length_cons, List.length_nil]; exact Nat.le_trans (by omega) (show 10 ≤ PySem.sizeLine by decide))), ?_⟩⟩
    refine Ev.slice O (Ev.name (d := .list (texts its)) (o := false) O r1 ?_)
    refine Ev.int ⟨1, rfl, szi, ?_⟩
    rw [pySl_texts]
    have hl1 := pySl_length its (some 1) none
    refine ⟨by rw [texts_length]; exact size_small (by simp only [List.length_cons, List.length_nil]; omega), by decide, nofun, by ((repeat' (first | exact Mine.Ro.set_get _ _ _ | refine Mine.Ro.set_other (by decide) ?_ | assumption | rfl)); done), by ((repeat' (first | exact Mine.Ro.set_get _ _ _ | refine Mine.Ro.set_other (by decide) ?_ | assumption | rfl)); done), ?_⟩
    have e : (T x0).cps.toList = x0 := by simp
    rw [e]; exact Ro.set_get _ _ _
  obtain ⟨r1, r2, r3⟩ := h3
  generalize ht0 : pySl x0 (some 1) none :: pySl its (some 1) none = t0 at *
  have t0l : t0.length ≤ 110 := by rw [← ht0]; have := pySl_length its (some 1) none; simp only [List.length_cons]; omega
  have t0m : ∀ x ∈ t0, x.length ≤ 103 := fun x hx => by
    rw [← ht0] at hx
    rcases List.mem_cons.mp hx with rfl | hx
    · exact Nat.le_trans (pySl_length _ _ _) (it1 x0 hx0m).1
    · exact (it1 x (by unfold pySl at hx; exact List.mem_of_mem_drop (List.mem_of_mem_take hx))).1
  obtain ⟨tl, htl, _⟩ := last_some (l := t0) (by rw [← ht0]; simp)
  have htlm := t0m tl (List.mem_of_getElem? htl)
  have hto : toldOf its = (pySl t0 none (some (-1)) ++ [pySl tl none (some (-1))]).map stripL := by unfold toldOf; rw [hx0]; simp only [Option.getD_some]; rw [ht0, htl]; rfl
  refine Ex.seq (fun ρ4 => ρ4.look "items" = some ⟨.list (texts its), false⟩ ∧ ρ4.look "inner" = some ⟨inn.dat, false⟩ ∧ ρ4.look "told" = some ⟨.list (texts (toldOf its)), false⟩) ?_ (fun ρ4 h4 => ?_)
  · refine Ex1.assignComp (cl := []) O ⟨rfl, by decide, rfl, by decide⟩ (Ev.binop O (Ev.slice O (Ev.name (d := .list (texts t0)) (o := false) O r3 ?_))) rfl
    refine Ev.neg O ⟨-1, rfl, itl t0 (by omega), ?_⟩
    refine Ev.list O (EvL.cons O (Ev.slice O (Ev.item O (Ev.name (d := .list (texts t0)) (o := false) O r3 ?_))))
    refine ⟨fun q => absurd q (by decide), Ev.neg O (ItemOk.last (d := .str (T tl)) (fun q => by rw [← ht0] at q; cases q) (by rw [texts_length]; exact texts_get htl) ?_)⟩
    refine Ev.neg O ⟨-1, rfl, by rw [T_length]; exact size_small (by omega), EvL.nil ⟨by decide, (by first | decide | (simp only [List.length_cons, List.length_nil]; exact Nat.le_trans (by omega) (show 10 ≤ PySem.sizeLine by decide))), ?_⟩⟩
    have e : (T tl).cps.toList = tl := by simp
    rw [e, pySl_texts]
    have hl1 := pySl_length t0 none (some (-1))
    have hl2 := pySl_length tl none (some (-1))
    refine ⟨by rw [texts_length]; exact size_small (by simp only [List.length_cons, List.length_nil]; omega), texts (pySl t0 none (some (-1)) ++ [pySl tl none (some (-1))]), fun _ => true, (fun d => match d with | .str x => .str (Txt.strip x) | d => d), by unfold texts; simp, .inl ⟨_, _, rfl⟩, itl _ (by simp only [List.length_append, List.length_cons, List.length_nil]; omega), ?_, by ((repeat' (first | exact Mine.Ro.set_get _ _ _ | refine Mine.Ro.set_other (by decide) ?_ | assumption | rfl)); done), by ((repeat' (first | exact Mine.Ro.set_get _ _ _ | refine Mine.Ro.set_other (by decide) ?_ | assumption | rfl)); done), ?_⟩
    · refine comp_strip1 _ (fun x hx => ?_) rfl
      rcases List.mem_append.mp hx with hx | hx
      · have := t0m x (by unfold pySl at hx; exact List.mem_of_mem_drop (List.mem_of_mem_take hx)); omega
      · rw [List.mem_singleton.mp hx]; omega
    · rw [hto, ← texts_map_strip]; exact Ro.set_get _ _ _
  obtain ⟨r1, r2, r3⟩ := h4
  -- what the parser gives of the whole
  have haq := asked_eq (q := 0) (by decide) w
  have hitq : its = itemsQ 60 (runQ 0 w) := by rw [← hits, haq]; rfl
  have hinq : inn = readL its.tail.dropLast := by rw [← hinn, hitq, haq]; rfl
  have hX := httpL_small w
  have Xm : ∀ x ∈ httpL w, x.length ≤ 1000 ∧ Cp x := fun x hx => ⟨Nat.le_trans (hX.1 x hx).1 (Nat.le_trans hw.len (by decide)), fun c hc => hw.cp c ((hX.1 x hx).2 c hc)⟩
  have Xl : (httpL w).length ≤ 101 := Nat.le_trans hX.2 (by have := hw.len; omega)
  have small' : Small w.dropLast := ⟨by rw [List.length_dropLast]; have := hw.len; omega, fun c hc => hw.cp c ((List.dropLast_sublist w).subset hc)⟩
  have htold : ∀ b : Bool, b = (decide (w = []) || ((decide (w.getLast? = some 44) && (decide ((askedL 0 w.dropLast).fin = 0) && true)) || false)) → (if b = true then (toldOf its).dropLast else toldOf its) = httpL w := by
    intro b hb
    rw [hitq, told_of, http_whole]
    have hp := part_nil w
    by_cases h : (runQ 0 w).part = []
    · have hbt : b = true := by
        rw [hb]
        rcases hp.mp h with h1 | ⟨h1, h2⟩
        · simp [h1]
        · simp [h1, h2]
      rw [if_pos hbt, if_pos h, List.map_append]
      simp
    · have hbf : ¬ b = true := by
        intro q
        rw [hb] at q
        apply h
        apply hp.mpr
        simpa using q
      rw [if_neg hbf, if_neg h]
  have toldl : (texts (toldOf its)).length ≤ sizeLine := by
    refine itl _ ?_
    rw [hto, List.length_map, List.length_append]
    have := pySl_length t0 none (some (-1))
    simp only [List.length_cons, List.length_nil]; omega
  refine Ex.seq (fun ρ5 => ρ5.look "items" = some ⟨.list (texts its), false⟩ ∧ ρ5.look "inner" = some ⟨inn.dat, false⟩ ∧ ρ5.look "told" = some ⟨.list (texts (httpL w)), false⟩) ?_ (fun ρ5 h5 => ?_)
  · refine Ex1.ifB (decide (w = []) || ((decide (w.getLast? = some 44) && (decide ((askedL 0 w.dropLast).fin = 0) && true)) || false)) (EvT.bool (AllT.or ?_ fun h1 => AllT.or ?_ fun _ => rfl)) (fun hb => ?_) fun hb => ?_
    · exact EvT.eqText O (x := w) (y := []) (Ev.cell O hv rfl hwc) (Ev.str rfl)
    · have hne : w ≠ [] := by simpa using h1
      obtain ⟨c, hc⟩ : ∃ c, w.getLast? = some c := by
        cases q : w.getLast? with
        | none => exact absurd (List.getLast?_eq_none_iff.mp q) hne
        | some c => exact ⟨c, rfl⟩
      have el := getLast_charAt w hc
      refine EvT.bool (AllT.and ?_ fun _ => AllT.and ?_ fun _ => rfl)
      · refine RunB.mono (EvT.eqText O (x := [c]) (y := [44]) (Ev.item O (Ev.cell O hv ⟨fun q => absurd q (by decide), Ev.neg O ⟨by rw [el]; rfl, by decide, by decide, by rw [item_T el]⟩⟩ hwc)) (Ev.str rfl)) fun b hb => ?_
        rw [hb, hc]; simp
      · have fa := F.asked 0 w.dropLast (by decide) small'
        refine RunB.mono (EvT.eqInt O (x := ((askedL 0 w.dropLast).fin : Int)) (y := 0) (Ev.item O (Ev.call (k := 2) O (EvL.cons O (Ev.int (EvL.cons O (Ev.slice O (Ev.cell O hv ?_ hwc))))) (hk := Nat.le_of_ble_eq_true rfl) (hfn := fa.is))) (Ev.int rfl)) fun b hb => ?_
        · refine Ev.neg O ⟨-1, rfl, wl, EvL.nil ⟨fun d => d = (askedL 0 w.dropLast).dat, ?_, fun d hd => ?_⟩⟩
          · have e : (T w).cps.toList = w := by simp
            rw [e, pySl_init]; exact fa
          · subst hd
            refine ⟨.inl (by decide), ⟨fun q => (by split at q <;> cases q), Ev.int (ItemOk.tuple (k := 2) (d := .int ((askedL 0 w.dropLast).fin : Int)) rfl (by decide) rfl)⟩⟩
        · rw [hb]; exact decide_eq_decide.mpr (by omega)
    · have h := htold true hb.symm
      rw [if_pos rfl] at h
      refine Ex.cons (Ex1.assign O false (Ev.slice O (Ev.name (d := .list (texts (toldOf its))) (o := false) O r3 ?_)))
      refine Ev.neg O ⟨-1, rfl, toldl, by decide, nofun, Ex.nil ⟨by ((repeat' (first | exact Mine.Ro.set_get _ _ _ | refine Mine.Ro.set_other (by decide) ?_ | assumption | rfl)); done), by ((repeat' (first | exact Mine.Ro.set_get _ _ _ | refine Mine.Ro.set_other (by decide) ?_ | assumption | rfl)); done), ?_⟩⟩
      rw [pySl_texts, pySl_init, h]; ((repeat' (first | exact Mine.Ro.set_get _ _ _ | refine Mine.Ro.set_other (by decide) ?_ | assumption | rfl)); done)
    · have h := htold false hb.symm
      rw [if_neg (by decide)] at h
      refine Ex.nil ⟨r1, r2, ?_⟩
      rw [← h]; exact r3
  obtain ⟨r1, r2, r3⟩ := h5
  have Xs : (texts (httpL w)).length ≤ sizeLine := itl _ (by omega)
  have sub : ∀ {Y : List (List Nat)}, (∀ x ∈ Y, x ∈ httpL w) → Y.length ≤ 101 → Fn { D with H0 := H } 1 "_law_read" [.list (texts Y)] fun d => d = (readL Y).dat := fun h hl => F.read _ (fun x hx => Xm x (h x hx)) (by omega)
  -- ahead
  have fA := sub (Y := (httpL w).take 1) (fun x hx => List.mem_of_mem_take hx) (by rw [List.length_take]; omega)
  refine Ex.seq (fun ρ6 => ρ6.look "items" = some ⟨.list (texts its), false⟩ ∧ ρ6.look "inner" = some ⟨inn.dat, false⟩ ∧ ρ6.look "told" = some ⟨.list (texts (httpL w)), false⟩ ∧ ρ6.look "ahead" = some ⟨(readL ((httpL w).take 1)).dat, false⟩) ?_ (fun ρ6 h6 => ?_)
  · refine Ex1.assign O false (Ev.call (k := 1) O (EvL.cons O (Ev.slice O (Ev.name (d := .list (texts (httpL w))) (o := false) O r3 ?_))) (hk := Nat.le_of_ble_eq_true rfl) (hfn := fA.is))
    refine Ev.int ⟨1, rfl, Xs, ?_⟩
    rw [pySl_texts, pySl_first]
    refine EvL.nil ⟨_, fA, fun d hd => ?_⟩
    subst hd
    exact ⟨.inl (by decide), by split <;> decide, nofun, by ((repeat' (first | exact Mine.Ro.set_get _ _ _ | refine Mine.Ro.set_other (by decide) ?_ | assumption | rfl)); done), by ((repeat' (first | exact Mine.Ro.set_get _ _ _ | refine Mine.Ro.set_other (by decide) ?_ | assumption | rfl)); done), by ((repeat' (first | exact Mine.Ro.set_get _ _ _ | refine Mine.Ro.set_other (by decide) ?_ | assumption | rfl)); done), by ((repeat' (first | exact Mine.Ro.set_get _ _ _ | refine Mine.Ro.set_other (by decide) ?_ | assumption | rfl)); done)⟩
  obtain ⟨r1, r2, r3, r4⟩ := h6
  -- behind
  have itpos : 1 ≤ its.length := by rw [hitq, items_length]; omega
  have fB := sub (Y := if its.length < 3 then (httpL w).tail else (httpL w).drop (its.length - 1)) (fun x hx => by split at hx; exact List.mem_of_mem_tail hx; exact List.mem_of_mem_drop hx) (by split <;> simp <;> omega)
  refine Ex.seq (fun ρ7 => ρ7.look "inner" = some ⟨inn.dat, false⟩ ∧ ρ7.look "told" = some ⟨.list (texts (httpL w)), false⟩ ∧ ρ7.look "ahead" = some ⟨(readL ((httpL w).take 1)).dat, false⟩ ∧ ρ7.look "behind" = some ⟨(readL (if its.length < 3 then (httpL w).tail else (httpL w).drop (its.length - 1))).dat, false⟩) ?_ (fun ρ7 h7 => ?_)
  · refine Ex1.assign O false (Ev.call (k := 1) O (EvL.cons O (Ev.ifExp (EvT.cmp O (Ev.len O (Ev.name (d := .list (texts its)) (o := false) O r1 ⟨szi, Ev.int (CmpOk.lt ?_)⟩) hg2)))) (hk := Nat.le_of_ble_eq_true rfl) (hfn := fB.is))
    have e1 : decide (((texts its).length : Int) < 3) = decide (its.length < 3) := by rw [texts_length]; exact decide_eq_decide.mpr (by omega)
    rw [e1]
    by_cases h3 : its.length < 3
    · rw [if_pos (by simpa using h3)]
      rw [if_pos h3] at fB ⊢
      refine Ev.slice O (Ev.name (d := .list (texts (httpL w))) (o := false) O r3 ?_)
      refine Ev.int ⟨1, rfl, Xs, ?_⟩
      rw [pySl_texts, pySl_tail]
      refine EvL.nil ⟨_, fB, fun d hd => ?_⟩
      subst hd
      exact ⟨.inl (by decide), by split <;> decide, nofun, by ((repeat' (first | exact Mine.Ro.set_get _ _ _ | refine Mine.Ro.set_other (by decide) ?_ | assumption | rfl)); done), by ((repeat' (first | exact Mine.Ro.set_get _ _ _ | refine Mine.Ro.set_other (by decide) ?_ | assumption | rfl)); done), by ((repeat' (first | exact Mine.Ro.set_get _ _ _ | refine Mine.Ro.set_other (by decide) ?_ | assumption | rfl)); done), by ((repeat' (first | exact Mine.Ro.set_get _ _ _ | refine Mine.Ro.set_other (by decide) ?_ | assumption | rfl)); done)⟩
    · rw [if_neg (by simpa using h3)]
      rw [if_neg h3] at fB ⊢
      refine Ev.slice O (Ev.name (d := .list (texts (httpL w))) (o := false) O r3 ?_)
      refine Ev.binop O (Ev.len O (Ev.name (d := .list (texts its)) (o := false) O r1 ⟨szi, Ev.int ⟨_, rfl, Xs, ?_⟩⟩) hg2)
      have e2 : ((texts its).length : Int) - 1 = ((its.length - 1 : Nat) : Int) := by rw [texts_length]; omega
      rw [e2, pySl_texts, pySl_from]
      refine EvL.nil ⟨_, fB, fun d hd => ?_⟩
      subst hd
      exact ⟨.inl (by decide), by split <;> decide, nofun, by ((repeat' (first | exact Mine.Ro.set_get _ _ _ | refine Mine.Ro.set_other (by decide) ?_ | assumption | rfl)); done), by ((repeat' (first | exact Mine.Ro.set_get _ _ _ | refine Mine.Ro.set_other (by decide) ?_ | assumption | rfl)); done), by ((repeat' (first | exact Mine.Ro.set_get _ _ _ | refine Mine.Ro.set_other (by decide) ?_ | assumption | rfl)); done), by ((repeat' (first | exact Mine.Ro.set_get _ _ _ | refine Mine.Ro.set_other (by decide) ?_ | assumption | rfl)); done)⟩
  obtain ⟨r2, r3, r4, r5⟩ := h7
  have hfin : readL (httpL w) = laidL (laidL (readL ((httpL w).take 1)) inn) (readL (if its.length < 3 then (httpL w).tail else (httpL w).drop (its.length - 1))) := by
    rw [hinq, hitq]; exact final_read w
  have innsz : inn.size ≤ 104 := by rw [hinq]; exact Nat.le_trans (readL_size _) (by simp; omega)
  generalize hYd : (if its.length < 3 then (httpL w).tail else (httpL w).drop (its.length - 1)) = Y at *
  have Yl : Y.length ≤ 101 := by rw [← hYd]; split <;> simp <;> omega
  have sA : (readL ((httpL w).take 1)).size ≤ 1 := Nat.le_trans (readL_size _) (by rw [List.length_take]; omega)
  have sB : (readL Y).size ≤ 101 := Nat.le_trans (readL_size _) Yl
  -- got
  have fH := F.http w (Nat.le_trans hw.len (by decide))
  refine Ex.seq (fun ρ8 => ρ8.look "inner" = some ⟨inn.dat, false⟩ ∧ ρ8.look "told" = some ⟨.list (texts (httpL w)), false⟩ ∧ ρ8.look "ahead" = some ⟨(readL ((httpL w).take 1)).dat, false⟩ ∧ ρ8.look "behind" = some ⟨(readL Y).dat, false⟩ ∧ ρ8.look "got" = some ⟨.list (texts (httpL w)), false⟩) ?_ (fun ρ8 h8 => ?_)
  · refine Ex1.assign O false (Ev.call (k := 0) O (EvL.cons O (Ev.cell O hv (EvL.nil ⟨_, fH, fun d hd => ?_⟩) hwc)) (hk := Nat.le_of_ble_eq_true rfl) (hfn := fH.is))
    subst hd
    exact ⟨.inl (by decide), by split <;> decide, nofun, by ((repeat' (first | exact Mine.Ro.set_get _ _ _ | refine Mine.Ro.set_other (by decide) ?_ | assumption | rfl)); done), by ((repeat' (first | exact Mine.Ro.set_get _ _ _ | refine Mine.Ro.set_other (by decide) ?_ | assumption | rfl)); done), by ((repeat' (first | exact Mine.Ro.set_get _ _ _ | refine Mine.Ro.set_other (by decide) ?_ | assumption | rfl)); done), by ((repeat' (first | exact Mine.Ro.set_get _ _ _ | refine Mine.Ro.set_other (by decide) ?_ | assumption | rfl)); done), by ((repeat' (first | exact Mine.Ro.set_get _ _ _ | refine Mine.Ro.set_other (by decide) ?_ | assumption | rfl)); done)⟩
  obtain ⟨r2, r3, r4, r5, r6⟩ := h8
  have fG := sub (Y := httpL w) (fun x hx => hx) Xl
  have s1 := laidL_size (readL ((httpL w).take 1)) inn
  have f1 := F.laid (readL ((httpL w).take 1)) inn (by omega)
  have f2 := F.laid (laidL (readL ((httpL w).take 1)) inn) (readL Y) (by omega)
  obtain ⟨okv, oke⟩ := readL_ok (xs := httpL w) fun x hx => (Xm x hx).2
  refine Ex.cons (Ex1.ret O (Ev.boolOp O ?_))
  refine Ev.cmp O (Ev.name (d := .list (texts (httpL w))) (o := false) O r6 (Ev.name (d := .list (texts (httpL w))) (o := false) O r3 ?_))
  refine CmpOk.eq (EqOk.list (shaped_texts fun x hx => (Xm x hx).2) (TruthOk.of ?_))
  rw [if_pos (by decide), AllV]
  refine Ev.cmp O (Ev.call (k := 1) O (EvL.cons O (Ev.name (d := .list (texts (httpL w))) (o := false) O r6 (EvL.nil ⟨_, fG, fun d hd => ?_⟩))) (hk := Nat.le_of_ble_eq_true rfl) (hfn := fG.is))
  subst hd
  refine ⟨.inl (by decide), ?_⟩
  refine Ev.call (k := 0) O (EvL.cons O (Ev.call (k := 0) O (EvL.cons O (Ev.name (d := (readL ((httpL w).take 1)).dat) (o := false) O r4 (EvL.cons O (Ev.name (d := inn.dat) (o := false) O r2 (EvL.nil ⟨_, f1, fun d hd => ?_⟩))))) (hk := Nat.le_of_ble_eq_true rfl) (hfn := f1.is))) (hk := Nat.le_of_ble_eq_true rfl) (hfn := f2.is)
  subst hd
  refine ⟨.inl (by decide), EvL.cons O (Ev.name (d := (readL Y).dat) (o := false) O r5 (EvL.nil ⟨_, f2, fun d hd => ?_⟩))⟩
  subst hd
  refine ⟨.inl (by show 1 ≤ min (if _ then 2 else 1) (min 1 2); split <;> decide), ?_⟩
  rw [← hfin]
  refine CmpOk.eq (EqOk.kr okv (TruthOk.of ?_))
  rw [if_pos (by decide), AllV]
  refine Ev.cmp O (Ev.comp (cl := []) O ⟨rfl, by decide, rfl, by decide⟩ (Ev.name (d := .list (texts (httpL w))) (o := false) O r6 ⟨texts (httpL w), fun _ => false, id, rfl, .inl ⟨_, _, rfl⟩, Xs, ?_, ?_⟩))
  · exact comp_bad (Nat.le_of_ble_eq_true rfl) (fun x hx => (Xm x hx).1) fun x hx hne => F.one x hne (Xm x hx).1 (Xm x hx).2
  · have e : (List.map id (List.filter (fun _ => false) (texts (httpL w)))) = [] := by simp
    rw [e]
    refine Ev.list O (EvL.nil ⟨by decide, by decide, CmpOk.eq (EqOk.list (by decide +kernel) rfl)⟩)
end Mine
end

section
open PySem PySem.W PySem.Calls PyProof.Rows
set_option maxRecDepth 100000
set_option autoImplicit false
set_option linter.unusedVariables false
namespace Mine

def forBody : Option Stmt → List Stmt
  | some (.For _ _ b _ _) => b
  | _ => []
def rowD (ts : List (List Nat)) : List PyData := ts.map fun t => .list (askDats (asks t))
theorem rowD_length (ts : List (List Nat)) : (rowD ts).length = ts.length := by simp [rowD]
theorem rowD_snoc (ts : List (List Nat)) (t : List Nat) : rowD ts ++ [.list (askDats (asks t))] = rowD (ts ++ [t]) := by simp [rowD]
theorem rowD_get {ts : List (List Nat)} {k : Nat} {t : List Nat} (h : ts[k]? = some t) : (rowD ts)[k]? = some (.list (askDats (asks t))) := by unfold rowD; simp [h]
theorem rowD_take (ts : List (List Nat)) (k : Nat) : pySl (rowD ts) none (some (k : Int)) = rowD (ts.take k) := by rw [pySl_to]; unfold rowD; rw [List.map_take]
theorem rowD_drop (ts : List (List Nat)) (k : Nat) : pySl (rowD ts) (some (k : Int)) none = rowD (ts.drop k) := by rw [pySl_from]; unfold rowD; rw [List.map_drop]
theorem two_at {α : Type} {l : List α} {k : Nat} (h : k + 1 < l.length) : ∃ a b, l[k]? = some a ∧ l[k + 1]? = some b ∧ l = l.take k ++ a :: b :: l.drop (k + 2) := by
  refine ⟨l[k], l[k + 1], by simp, by simp [h], ?_⟩
  rw [List.getElem_cons_drop, List.getElem_cons_drop, List.take_append_drop]
theorem small_of {ts : List (List Nat)} {t : List Nat} (h : t ∈ ts) (hw : Small ts.flatten) : Small t := by
  refine ⟨Nat.le_trans ?_ hw.len, fun c hc => hw.cp c (List.mem_flatten.mpr ⟨t, h, hc⟩)⟩
  obtain ⟨a, b, rfl⟩ := List.append_of_mem h
  simp; omega
theorem small_flat {ps : List (List Nat)} (h1 : ps.length ≤ 4) (h2 : ∀ x ∈ ps, x.length ≤ 8 ∧ Cp x) : Small ps.flatten := by
  have key : ∀ ps : List (List Nat), (∀ x ∈ ps, x.length ≤ 8 ∧ Cp x) → ps.flatten.length ≤ 8 * ps.length := by
    intro ps
    induction ps with
    | nil => intro _; simp
    | cons a l ih =>
      intro h
      have := ih fun x hx => h x (.tail _ hx)
      have := (h a (.head _)).1
      rw [List.flatten_cons, List.length_append, List.length_cons]; omega
  refine ⟨by have := key ps h2; omega, fun c hc => ?_⟩
  obtain ⟨x, hx, hc⟩ := List.mem_flatten.mp hc
  exact (h2 x hx).2 c hc

/-- the first loop's state -/
def RJ (ps : List (List Nat)) (cells : List Int) (rest : List PyData) (ρ : Ro) : Prop := ∃ (l done : List (List Nat)), rest = texts l ∧ ρ.look "row" = some ⟨.list (rowD done), true⟩ ∧ ρ.look "pieces" = some ⟨.list (texts ps), false⟩ ∧
  ρ.look "cells" = some ⟨.list (nums cells), false⟩ ∧ done ++ l = ps
/-- the second loop's state -/
def WJ (ps : List (List Nat)) (n : Nat) (ρ : Ro) : Prop := ∃ (ts : List (List Nat)) (o : Bool) (turn : Int), ts.length = n ∧ 1 ≤ n ∧ n ≤ 4 ∧ ts.flatten = ps.flatten ∧ ρ.look "row" = some ⟨.list (rowD ts), o⟩ ∧ ρ.look "turn" = some ⟨.int turn, false⟩ ∧
  ρ.look "pieces" = some ⟨.list (texts ps), false⟩

set_option maxHeartbeats 2000000 in
theorem piece_turn {D : Wd} {A : Around} {fd : FuncData} {L fa : Addr} {stk : List Env} {H1 H : Heap} {args : List Addr} (O : ((mkActC D A fd L fa stk H1 args 3).at_ H).Ok) (hfd : fd.scope = defScope (S2 13)) (E : Value → Shared → Prop)
    {ps : List (List Nat)} {cells : List Int} (hps : ps.length ≤ 4) (hsm : ∀ x ∈ ps, Small x) {p : List Nat} {r : List PyData} {tk : Tok} (hv : H.IsCell (L + 1) (some (.str (T p) tk))) (F : Fns2 { D with H0 := H }) (hg : D.mg "range" = none)
    {ρ : Ro} (hJ : RJ ps cells (.str (T p) :: r) ρ) :
    Ex ((mkActC D A fd L fa stk H1 args 3).at_ H) E ρ (forBody ((defBody (S2 13))[3]?)) (RJ ps cells r) (fun _ d => d = .bool true) (RJ ps cells r) := by
  obtain ⟨name, qualname, params, body, scope, globals, closure, dv, kv, doc, pm, an, cd, ct, bt⟩ := fd
  dsimp only at hfd
  subst hfd
  obtain ⟨l, done, e, r1, r2, r3, ha⟩ := hJ
  obtain ⟨p', l, rfl⟩ : ∃ p' l', l = p' :: l' := by cases l with | nil => cases e | cons a b => exact ⟨a, b, rfl⟩
  obtain ⟨e1, rfl⟩ := List.cons.inj (show PyData.str (T p) :: r = .str (T p') :: texts l from e)
  obtain rfl : p = p' := by have : T p = T p' := by simpa using e1
                            exact T_inj.mp this
  have hp : p ∈ ps := by rw [← ha]; simp
  have hw := hsm p hp
  have hdl : done.length ≤ 4 := by have := congrArg List.length ha; simp at this; omega
  have hwc : (actOf O).env.cells.lookup ("piece" : Str) = some (L + 1) := rfl
  refine Ex.seq (fun ρ2 => ρ2.look "row" = some ⟨.list (rowD (done ++ [p])), true⟩ ∧ ρ2.look "pieces" = some ⟨.list (texts ps), false⟩ ∧ ρ2.look "cells" = some ⟨.list (nums cells), false⟩) (Ex1.append O (xs := rowD done) r1 ?_) (fun ρ2 h2 => ?_)
  · refine comp_q (c := L + 1) (t := p) (tk := tk) (k := 2) (F := fun q => askedL q p) ?_ ?_ ?_ ?_ ?_ ?_ ?_ ?_ ?_ ?_ ?_ ?_
    · exact O
    · exact hv
    · exact fun q hq => F.asked q p hq hw
    · exact Nat.le_of_ble_eq_true rfl
    · exact hg
    · exact ⟨rfl, by decide, rfl, by decide⟩
    · refine ⟨by decide, by rw [rowD_length]; exact size_small (by omega), ?_, by ((repeat' (first | exact Mine.Ro.set_get _ _ _ | refine Mine.Ro.set_other (by decide) ?_ | assumption | rfl)); done), by ((repeat' (first | exact Mine.Ro.set_get _ _ _ | refine Mine.Ro.set_other (by decide) ?_ | assumption | rfl)); done)⟩
      rw [← rowD_snoc]; exact Ro.set_get _ _ _
    · rfl
    · decide
    · decide
    · intro C; rfl
    · intro C; rfl
  obtain ⟨z1, z2, z3⟩ := h2
  have fS := F.simple p hw
  refine Ex.cons (Ex1.ifB (simpleL p && (false && true)) (EvT.bool (AllT.and (EvT.val O ?_) fun hs => AllT.and (EvT.cmp O (Ev.item O (Ev.name (d := .list (rowD (done ++ [p]))) (o := true) O z1 ?_))) fun _ => rfl)) (fun q => by simp at q) fun _ => Ex.nil (Ex.nil ?_))
  · refine Ev.call (k := 0) O (EvL.cons O (Ev.cell O hv (EvL.nil ⟨_, fS, fun d hd => ?_⟩) hwc)) (hk := Nat.le_of_ble_eq_true rfl) (hfn := fS.is)
    subst hd
    exact ⟨.inl (by decide), TruthOk.of rfl⟩
  · refine ⟨fun _ => ⟨_, rfl⟩, Ev.neg O (ItemOk.last (d := .list (askDats (asks p))) (fun q => by have := congrArg List.length q; simp [rowD] at this) (by rw [rowD_length]; exact rowD_get (by simp)) ?_)⟩
    refine comp_q (c := L + 1) (t := p) (tk := tk) (k := 0) (F := fun q => toldA q p) ?_ ?_ ?_ ?_ ?_ ?_ ?_ ?_ ?_ ?_ ?_ ?_
    · exact O
    · exact hv
    · exact fun q hq => F.told q p hq hw
    · exact Nat.le_of_ble_eq_true rfl
    · exact hg
    · exact ⟨rfl, by decide, rfl, by decide⟩
    · have e : [(toldA 0 p).dat, (toldA 1 p).dat, (toldA 2 p).dat] = askDats (asks p) := by
        rw [told_asked (by decide) hs, told_asked (by decide) hs, told_asked (by decide) hs]; rfl
      show CmpOk .NotEq (.list (askDats (asks p))) (.list [(toldA 0 p).dat, (toldA 1 p).dat, (toldA 2 p).dat]) _
      rw [e]
      exact CmpOk.ne (EqOk.list (asks_shaped hw) rfl)
    · rfl
    · decide
    · decide
    · intro C; rfl
    · intro C; rfl
  · exact ⟨l, done ++ [p], rfl, z1, z2, z3, by rw [← ha]; simp⟩
end Mine
end

section
open PySem PySem.W PySem.Calls PyProof.Rows
set_option maxRecDepth 100000
set_option autoImplicit false
set_option linter.unusedVariables false
namespace Mine

theorem BinOk.subInt {i j : Int} {P : PyData → Nat → Prop} (h : P (.int (i - j)) 2) : BinOk .Sub (.int i) (.int j) P := h
theorem BinOk.addInt {i j : Int} {P : PyData → Nat → Prop} (h : P (.int (i + j)) 2) : BinOk .Add (.int i) (.int j) P := h
theorem BinOk.modInt {i j : Int} {P : PyData → Nat → Prop} (h0 : j ≠ 0) (h : P (.int (i.fmod j)) 2) : BinOk .Mod (.int i) (.int j) P := ⟨h0, h⟩

set_option maxHeartbeats 4000000 in
theorem law_ex {D : Wd} {A : Around} {fd : FuncData} {L fa : Addr} {stk : List Env} {H1 : Heap} {args : List Addr} (O : (mkActC D A fd L fa stk H1 args 3).Ok) (hfd : fd.scope = defScope (S2 13)) (E : Value → Shared → Prop)
    {ns : List Int} (hcells : Fn D 0 "_law_cells" [.list (nums ns)] fun d => d = .list (nums (cellsOf 18 ns)))
    (hpieces : Fn D 0 "_law_pieces" [.list (nums (cellsOf 18 ns))] fun d => d = .list (texts (piecesL (cellsOf 18 ns)))) (F : Fns2 D) (hg : D.mg "range" = none) (hg2 : D.mg "len" = none) :
    ExC (mkActC D A fd L fa stk H1 args 3) E (slots ["script"] [.list (nums ns)]) [L + 1, L + 2] (defBody (S2 13)) (fun _ => False) (fun _ d => d = .bool true) := by
  obtain ⟨name, qualname, params, body, scope, globals, closure, dv, kv, doc, pm, an, cd, ct, bt⟩ := fd
  dsimp only at hfd
  subst hfd
  have hcl : (cellsOf 18 ns).length = 18 := by unfold cellsOf; rw [cellAdd_length]; simp
  obtain ⟨pb1, pb2, pb3⟩ := piecesL_bound hcl
  generalize cellsOf 18 ns = cells at *
  generalize piecesL cells = ps at *
  have hw := small_flat pb2 pb3
  have hsm : ∀ x ∈ ps, Small x := fun x hx => small_of hx hw
  obtain ⟨c17, hc17⟩ : ∃ c, cells[17]? = some c := ⟨cells[17], by simp [hcl]⟩
  have g17 : (nums cells)[17]? = some (.int c17) := by rw [nums_get, hc17]; rfl
  refine ExC.seq (fun ρ => ρ.look "cells" = some ⟨.list (nums cells), false⟩) ?_ (fun ρ1 r1 => ?_)
  · refine Ex1.assign O false (Ev.call (k := 0) O (EvL.cons O (Ev.name (d := .list (nums ns)) (o := false) O (by ((repeat' (first | exact Mine.Ro.set_get _ _ _ | refine Mine.Ro.set_other (by decide) ?_ | assumption | rfl)); done)) (EvL.nil ⟨_, hcells, fun d hd => ?_⟩))) (hk := Nat.le_of_ble_eq_true rfl) (hfn := hcells.is))
    subst hd
    exact ⟨.inl (by decide), by split <;> decide, nofun, by ((repeat' (first | exact Mine.Ro.set_get _ _ _ | refine Mine.Ro.set_other (by decide) ?_ | assumption | rfl)); done)⟩
  refine ExC.seq (fun ρ => ρ.look "cells" = some ⟨.list (nums cells), false⟩ ∧ ρ.look "pieces" = some ⟨.list (texts ps), false⟩) ?_ (fun ρ2 h2 => ?_)
  · refine Ex1.assign O false (Ev.call (k := 0) O (EvL.cons O (Ev.name (d := .list (nums cells)) (o := false) O r1 (EvL.nil ⟨_, hpieces, fun d hd => ?_⟩))) (hk := Nat.le_of_ble_eq_true rfl) (hfn := hpieces.is))
    subst hd
    exact ⟨.inl (by decide), by split <;> decide, nofun, by ((repeat' (first | exact Mine.Ro.set_get _ _ _ | refine Mine.Ro.set_other (by decide) ?_ | assumption | rfl)); done), by ((repeat' (first | exact Mine.Ro.set_get _ _ _ | refine Mine.Ro.set_other (by decide) ?_ | assumption | rfl)); done)⟩
  obtain ⟨r1, r2⟩ := h2
  refine ExC.seq (fun ρ => ρ.look "cells" = some ⟨.list (nums cells), false⟩ ∧ ρ.look "pieces" = some ⟨.list (texts ps), false⟩ ∧ ρ.look "row" = some ⟨.list [], true⟩) ?_ (fun ρ3 h3 => ?_)
  · refine Ex1.assign O true (Ev.list O (EvL.nil ⟨by decide, by decide, by decide, fun _ => ⟨rfl, rfl, rfl⟩, by ((repeat' (first | exact Mine.Ro.set_get _ _ _ | refine Mine.Ro.set_other (by decide) ?_ | assumption | rfl)); done), by ((repeat' (first | exact Mine.Ro.set_get _ _ _ | refine Mine.Ro.set_other (by decide) ?_ | assumption | rfl)); done), by ((repeat' (first | exact Mine.Ro.set_get _ _ _ | refine Mine.Ro.set_other (by decide) ?_ | assumption | rfl)); done)⟩))
  obtain ⟨r1, r2, r3⟩ := h3
  refine ExC.forCell (c := L + 1) (xs := texts ps) O (RJ ps cells) (fun y r ρ' hJ => ?_) (fun z r ρ' hJ H t kH O' HC => ?_) (fun ρ4 hJ => ?_) ?_ (by simp) rfl
  · obtain ⟨l, done, e, _⟩ := hJ
    cases l with
    | nil => cases e
    | cons a b => exact ⟨T a, (List.cons.inj e).1⟩
  · have hz : ∃ p, z = T p := ⟨z.cps.toList, T_eta z⟩
    obtain ⟨p, rfl⟩ := hz
    exact RunF.mono (piece_turn O' rfl _ pb2 hsm HC (F.at_ kH) hg hJ) (fun _ h => h) (fun _ _ h => h) fun _ h => h
  · obtain ⟨l, done, e, r1, r2, r3, ha⟩ := hJ
    obtain rfl : l = [] := by cases l with | nil => rfl | cons _ _ => cases e
    rw [List.append_nil] at ha
    subst ha
    refine ExC.seq (fun ρ => ρ.look "row" = some ⟨.list (rowD done), true⟩ ∧ ρ.look "pieces" = some ⟨.list (texts done), false⟩ ∧ ρ.look "turn" = some ⟨.int c17, false⟩) ?_ (fun ρ5 h5 => ?_)
    · exact Ex1.assign O false (Ev.nameItem (k := 17) O r3 g17 (by decide) ⟨by decide, nofun, by ((repeat' (first | exact Mine.Ro.set_get _ _ _ | refine Mine.Ro.set_other (by decide) ?_ | assumption | rfl)); done), by ((repeat' (first | exact Mine.Ro.set_get _ _ _ | refine Mine.Ro.set_other (by decide) ?_ | assumption | rfl)); done), by ((repeat' (first | exact Mine.Ro.set_get _ _ _ | refine Mine.Ro.set_other (by decide) ?_ | assumption | rfl)); done)⟩)
    obtain ⟨r1, r2, r3⟩ := h5
    refine ExC.seq (fun ρ => ∃ o, ρ.look "row" = some ⟨.list [.list (askDats (asks done.flatten))], o⟩ ∧ ρ.look "pieces" = some ⟨.list (texts done), false⟩) ?_ (fun ρ6 h6 => ?_)
    · refine Ex1.while O (WJ done) (fun n ρ' hJ => ?_) done.length ⟨done, true, c17, rfl, pb1, pb2, rfl, r1, r3, r2⟩
      obtain ⟨ts, o, turn, hn, n1, n4, hfl, w1, w2, w3⟩ := hJ
      have szr : (rowD ts).length ≤ sizeLine := by rw [rowD_length]; exact size_small (by omega)
      have elen : ((rowD ts).length : Int) = (n : Int) := by rw [rowD_length, hn]
      refine RunB.mono (P := (· = decide (1 < n))) (EvT.cmp O (Ev.len O (Ev.name (d := .list (rowD ts)) (o := o) O w1 ⟨szr, Ev.int (CmpOk.gt ?_)⟩) hg2)) fun b hb => ?_
      · rw [elen]; exact decide_eq_decide.mpr (by omega)
      subst hb
      by_cases h1 : 1 < n
      · rw [if_pos (decide_eq_true h1)]
        obtain ⟨r, hr, er⟩ := fmod_nat turn (n - 1) (by omega)
        have eint : ((n : Int) - 1) = ((n - 1 : Nat) : Int) := by omega
        have hne : ((n - 1 : Nat) : Int) ≠ 0 := by omega
        obtain ⟨x, y, hx, hy, hsplit⟩ := two_at (l := ts) (k := r) (by omega)
        have hwf : Small ts.flatten := by rw [hfl]; exact hw
        have hxs := small_of (List.mem_of_getElem? hx) hwf
        have hys := small_of (List.mem_of_getElem? hy) hwf
        refine Ex.seq (fun ρ2 => ρ2.look "row" = some ⟨.list (rowD ts), o⟩ ∧ ρ2.look "turn" = some ⟨.int turn, false⟩ ∧ ρ2.look "pieces" = some ⟨.list (texts done), false⟩ ∧ ρ2.look "j" = some ⟨.int (r : Int), false⟩) ?_ (fun ρ2 h2 => ?_)
        · refine Ex1.assign O false (Ev.binop O (Ev.name (d := .int turn) (o := false) O w2 (Ev.binop O (Ev.len O (Ev.name (d := .list (rowD ts)) (o := o) O w1 ⟨szr, Ev.int ?_⟩) hg2))))
          refine BinOk.subInt ?_
          rw [elen, eint]
          refine BinOk.modInt hne ?_
          rw [er]
          exact ⟨by decide, nofun, by ((repeat' (first | exact Mine.Ro.set_get _ _ _ | refine Mine.Ro.set_other (by decide) ?_ | assumption | rfl)); done), by ((repeat' (first | exact Mine.Ro.set_get _ _ _ | refine Mine.Ro.set_other (by decide) ?_ | assumption | rfl)); done), by ((repeat' (first | exact Mine.Ro.set_get _ _ _ | refine Mine.Ro.set_other (by decide) ?_ | assumption | rfl)); done), by ((repeat' (first | exact Mine.Ro.set_get _ _ _ | refine Mine.Ro.set_other (by decide) ?_ | assumption | rfl)); done)⟩
        obtain ⟨w1, w2, w3, w4⟩ := h2
        refine Ex.seq (fun ρ2 => ρ2.look "row" = some ⟨.list (rowD ts), o⟩ ∧ (∃ turn', ρ2.look "turn" = some ⟨.int turn', false⟩) ∧ ρ2.look "pieces" = some ⟨.list (texts done), false⟩ ∧ ρ2.look "j" = some ⟨.int (r : Int), false⟩) ?_ (fun ρ3 h3 => ?_)
        · refine Ex1.aug (d0 := .int turn) (o0 := false) O w2 (Ev.binop O (Ev.len O (Ev.name (d := .list (rowD ts)) (o := o) O w1 ⟨szr, Ev.int ?_⟩) hg2))
          have e3 : ((rowD ts).length : Int) - 1 = ((n - 1 : Nat) : Int) := by rw [elen, eint]
          refine ⟨by rw [e3]; exact hne, by ((repeat' (first | exact Mine.Ro.set_get _ _ _ | refine Mine.Ro.set_other (by decide) ?_ | assumption | rfl)); done), ⟨_, Ro.set_get _ _ _⟩, by ((repeat' (first | exact Mine.Ro.set_get _ _ _ | refine Mine.Ro.set_other (by decide) ?_ | assumption | rfl)); done), by ((repeat' (first | exact Mine.Ro.set_get _ _ _ | refine Mine.Ro.set_other (by decide) ?_ | assumption | rfl)); done)⟩
        obtain ⟨w1, ⟨turn', w2⟩, w3, w4⟩ := h3
        have fg := F.glued x y hxs hys
        refine Ex.cons (Ex1.assign O false (Ev.binop O (Ev.binop O (Ev.slice O (Ev.name (d := .list (rowD ts)) (o := o) O w1 ?_)))))
        refine Ev.name (d := .int (r : Int)) (o := false) O w4 ⟨_, rfl, szr, ?_⟩
        rw [rowD_take]
        refine Ev.list O (EvL.cons O (Ev.call (k := 2) O (EvL.cons O (Ev.item O (Ev.name (d := .list (rowD ts)) (o := o) O w1 ?_))) (hk := Nat.le_of_ble_eq_true rfl) (hfn := fg.is)))
        refine ⟨fun _ => ⟨_, rfl⟩, Ev.name (d := .int (r : Int)) (o := false) O w4 (ItemOk.list (k := r) (rowD_get hx) (by omega) ?_)⟩
        refine EvL.cons O (Ev.item O (Ev.name (d := .list (rowD ts)) (o := o) O w1 ?_))
        refine ⟨fun _ => ⟨_, rfl⟩, Ev.binop O (Ev.name (d := .int (r : Int)) (o := false) O w4 (Ev.int ?_))⟩
        refine BinOk.addInt ?_
        rw [show (r : Int) + 1 = ((r + 1 : Nat) : Int) by omega]
        refine ItemOk.list (k := r + 1) (rowD_get hy) (by omega) (EvL.nil ⟨_, fg, fun d hd => ?_⟩)
        subst hd
        refine ⟨.inl (by decide), EvL.nil ⟨by split <;> decide, (by first | decide | (simp only [List.length_cons, List.length_nil]; exact Nat.le_trans (by omega) (show 10 ≤ PySem.sizeLine by decide))), ?_⟩⟩
        refine ⟨by rw [rowD_length, List.length_take]; exact size_small (by simp only [List.length_cons, List.length_nil]; omega), ?_⟩
        refine Ev.slice O (Ev.name (d := .list (rowD ts)) (o := o) O w1 ?_)
        refine Ev.binop O (Ev.name (d := .int (r : Int)) (o := false) O w4 (Ev.int ⟨_, rfl, szr, ?_⟩))
        rw [show (r : Int) + 2 = ((r + 2 : Nat) : Int) by omega, rowD_drop]
        have hts' : (ts.take r ++ [x ++ y] ++ ts.drop (r + 2)).length = n - 1 := by rw [List.length_append, List.length_append, List.length_take, List.length_drop]; simp only [List.length_cons, List.length_nil]; omega
        refine ⟨by rw [List.length_append, rowD_length, rowD_length, List.length_take, List.length_drop]; exact size_small (by simp only [List.length_cons, List.length_nil]; omega), by decide, nofun, Ex.nil ⟨n - 1, by omega, ts.take r ++ [x ++ y] ++ ts.drop (r + 2), false, turn', hts', by omega, by omega, ?_, ?_, by ((repeat' (first | exact Mine.Ro.set_get _ _ _ | refine Mine.Ro.set_other (by decide) ?_ | assumption | rfl)); done), by ((repeat' (first | exact Mine.Ro.set_get _ _ _ | refine Mine.Ro.set_other (by decide) ?_ | assumption | rfl)); done)⟩⟩
        · rw [← hfl]
          conv => rhs; rw [hsplit]
          simp
        · have e : rowD (ts.take r ++ [x ++ y] ++ ts.drop (r + 2)) = rowD (ts.take r) ++ [.list (askDats (asks (x ++ y)))] ++ rowD (ts.drop (r + 2)) := by simp [rowD]
          rw [e]; exact Ro.set_get _ _ _
      · rw [if_neg (by simp [h1])]
        obtain ⟨t, rfl⟩ : ∃ t, ts = [t] := by
          match ts, hn with
          | [t], _ => exact ⟨t, rfl⟩
          | [], h => simp at h; omega
          | _ :: _ :: _, h => simp at h; omega
        refine ⟨o, ?_, w3⟩
        rw [← hfl]; simpa [rowD] using w1
    obtain ⟨o, r1, r2⟩ := h6
    refine ExC.cellText (c := L + 2) O (Ev.join O (Ev.str ⟨T [], rfl, Ev.name (d := .list (texts done)) (o := false) O r2 ⟨done.map T, by unfold texts; rw [List.map_map]; rfl, joinOk_small done (fun x hx => Nat.le_trans (pb3 x hx).1 (by decide)) (by omega), T done.flatten, by rw [join_T], fun H t kH O' HC => ?_⟩⟩)) (by simp) rfl
    exact law_tail O' rfl E hw HC (F.at_ kH) hg hg2 r1
  · exact Ev.name (d := .list (texts ps)) (o := false) O r2 ⟨by decide, rfl, texts_atoms _, ps, [], rfl, by ((repeat' (first | exact Mine.Ro.set_get _ _ _ | refine Mine.Ro.set_other (by decide) ?_ | assumption | rfl)); done), r2, r1, rfl⟩
end Mine
end

section
open PySem PySem.W PySem.Calls PyProof.Rows
set_option maxRecDepth 100000
set_option autoImplicit false
set_option linter.unusedVariables false
namespace Mine

/-- this def of the text lies in the fragment -/
def DefK (K : Frag) (x : Str) (st : Stmt) (names : List Str) : Prop := ∃ fa oc od osl fd, nsIn K mainGlobals x = some (some (.ref fa)) ∧ K.lookup fa = some ⟨oc, od, .func fd, osl⟩ ∧ fd.scope = defScope st ∧ fd.body = .stmts (defBody st) ∧
  codeIn K fd.code fd.qualname = true ∧ fd.globals = mainGlobals ∧ fd.builtins = builtinsNs ∧ ∀ vs : List Value, vs.length = names.length → bindArgs fd ⟨vs, []⟩ = pure (names.zip vs)

structure ScopeOk (st : Stmt) (names : List Str) : Prop where
  nd : names.Nodup
  loc : ∀ y ∈ names, (defScope st).names.lookup y = some .local
  cell : ∀ y ∈ (defScope st).names, y.2 ≠ .cell
  co : (defScope st).isCoroutine = false
  gen : (defScope st).isGenerator = false
  kind : (defScope st).kind = .function

theorem mkFn {D : Wd} (DO : D.Ok) {K : Frag} (X : K.In D.H0) {x : Str} {st : Stmt} {names : List Str} {ds : List PyData} {n : Nat} {P : PyData → Prop} (dk : DefK K x st names) (so : ScopeOk st names) (hlen : names.length = ds.length)
    (h : ∀ (A : Around) (fd : FuncData) (L fa : Addr) (stk : List Env) (H1 : Heap) (args : List Addr), (mkAct D A fd L fa stk H1 args n).Ok → fd.scope = defScope st → ∀ E, Ex (mkAct D A fd L fa stk H1 args n) E (slots names ds) (defBody st) (fun _ => False) (fun _ => P) (fun _ => False)) :
    Fn D n x ds P := by
  obtain ⟨fa, oc, od, osl, fd, h1, h2, h3, h4, h5, h6, h7, h8⟩ := dk
  refine Fn.intro DO (mg_of X DO.g h1) (X _ _ h2) rfl (codeRec_of X h5) h4 h8 hlen so.nd (fun y hy => by rw [h3]; exact so.loc y hy) (fun y hy => so.cell y (by rw [← h3]; exact hy)) h6 h7 (by rw [h3]; exact so.co) (by rw [h3]; exact so.gen) (by rw [h3]; exact so.kind)
    fun A L stk H1 args O E => RunF.mono (h A fd L fa stk H1 args O h3 E) (fun _ q => q.elim) (fun _ _ q => q) fun _ q => q
theorem mkFnC {D : Wd} (DO : D.Ok) {K : Frag} (X : K.In D.H0) {x : Str} {st : Stmt} {names : List Str} {ds : List PyData} {n : Nat} {P : PyData → Prop} {ks : List Nat} (dk : ∃ fa oc od osl fd, nsIn K mainGlobals x = some (some (.ref fa)) ∧ K.lookup fa = some ⟨oc, od, .func fd, osl⟩ ∧ fd.scope = defScope st ∧ fd.body = .stmts (defBody st) ∧
    codeIn K fd.code fd.qualname = true ∧ fd.globals = mainGlobals ∧ fd.builtins = builtinsNs ∧ fd.closure = [] ∧ ∀ vs : List Value, vs.length = names.length → bindArgs fd ⟨vs, []⟩ = pure (names.zip vs))
    (hnd : names.Nodup) (hloc : ∀ y ∈ names, (defScope st).names.lookup y = some .local) (hco : (defScope st).isCoroutine = false) (hgen : (defScope st).isGenerator = false) (hk : (defScope st).kind = .function) (hlen : names.length = ds.length)
    (hcs : ∀ (fd : FuncData) (L fa : Addr), fd.scope = defScope st → ∀ c ∈ ks.map (L + ·), ∃ y, (callEnvC fd L fa).cells.lookup y = some c)
    (h : ∀ (A : Around) (fd : FuncData) (L fa : Addr) (stk : List Env) (H1 : Heap) (args : List Addr), (mkActC D A fd L fa stk H1 args n).Ok → fd.scope = defScope st → ∀ E, ExC (mkActC D A fd L fa stk H1 args n) E (slots names ds) (ks.map (L + ·)) (defBody st) (fun _ => False) (fun _ => P)) :
    Fn D n x ds P := by
  obtain ⟨fa, oc, od, osl, fd, h1, h2, h3, h4, h5, h6, h7, h9, h8⟩ := dk
  refine Fn.introC DO (mg_of X DO.g h1) (X _ _ h2) rfl (codeRec_of X h5) h4 h8 hlen hnd (fun y hy => by rw [h3]; exact hloc y hy) h9 h6 h7 (by rw [h3]; exact hco) (by rw [h3]; exact hgen) (by rw [h3]; exact hk)
    fun A L stk H1 args O E m fp s1 Q hs hc k3 => h A fd L fa stk H1 args O h3 E m fp H1 s1 Q hs (Cells.at_ rfl (hcs fd L fa h3) hc) (fun _ _ _ _ _ _ _ p => p.elim) fun ρ' m' fp' v d as hh tk r p => k3 ρ' m' fp' v d as hh tk r p

/-- the defs of law 2, as they lie in a fragment -/
structure Defs2 (K : Frag) : Prop where
  keqv : DefK K "parse_keqv_list" (S2 1) ["l"]
  http : DefK K "parse_http_list" (S2 2) ["s"]
  cells : DefK K "_law_cells" (S2 4) ["script"]
  pieces : ∃ fa oc od osl fd, nsIn K mainGlobals "_law_pieces" = some (some (.ref fa)) ∧ K.lookup fa = some ⟨oc, od, .func fd, osl⟩ ∧ fd.scope = defScope (S2 5) ∧ fd.body = .stmts (defBody (S2 5)) ∧
    codeIn K fd.code fd.qualname = true ∧ fd.globals = mainGlobals ∧ fd.builtins = builtinsNs ∧ fd.closure = [] ∧ ∀ vs : List Value, vs.length = [("cells" : Str)].length → bindArgs fd ⟨vs, []⟩ = pure ([("cells" : Str)].zip vs)
  read : DefK K "_law_read" (S2 6) ["items"]
  one : DefK K "_law_one" (S2 7) ["item"]
  laid : DefK K "_law_laid" (S2 8) ["first", "then"]
  asked : DefK K "_law_asked" (S2 9) ["q", "text"]
  simple : DefK K "_law_simple" (S2 10) ["text"]
  told : DefK K "_law_told" (S2 11) ["q", "text"]
  glued : DefK K "_law_glued" (S2 12) ["left", "right"]

/-- names that the text does not bind -/
structure Free2 (mg : Str → Option Value) : Prop where
  enum : mg "enumerate" = none
  range : mg "range" = none
  len : mg "len" = none
  list : mg "list" = none
  value : mg "ValueError" = none
  index : mg "IndexError" = none
  isin : mg "isinstance" = none
  str : mg "str" = none

set_option maxHeartbeats 4000000 in
theorem law2_fns {D : Wd} (DO : D.Ok) {K : Frag} (X : K.In D.H0) (dk : Defs2 K) (fr : Free2 D.mg) {ns : List Int} (hn : ns.length ≤ 63) :
    Fn D 0 "_law_cells" [.list (nums ns)] (fun d => d = .list (nums (cellsOf 18 ns))) ∧ Fn D 0 "_law_pieces" [.list (nums (cellsOf 18 ns))] (fun d => d = .list (texts (piecesL (cellsOf 18 ns)))) ∧ Fns2 D := by
  have hhttp : ∀ l : List Nat, l.length ≤ 1000 → Fn D 0 "parse_http_list" [.str (T l)] fun d => d = .list (texts (httpL l)) := fun l h1 =>
    mkFn DO X dk.http ⟨by decide, by decide, by decide, rfl, rfl, rfl⟩ rfl fun A fd L fa stk H1 args O hfd E => http_ex O hfd E h1
  have hkeqv : ∀ xs : List (List Nat), (∀ x ∈ xs, x.length ≤ 1000) → xs.length ≤ 1000 → FnR D 0 "parse_keqv_list" [.list (texts xs)] (fun d => ∃ ps, keqv [] xs = .val ps ∧ d = .dict (ps.map sPair)) (fun c => keqv [] xs = .err c) := fun xs h1' h2' => by
    obtain ⟨fa, oc, od, osl, fd, h1, h2, h3, h4, h5, h6, h7, h8⟩ := dk.keqv
    have so : ScopeOk (S2 1) ["l"] := ⟨by decide, by decide, by decide, rfl, rfl, rfl⟩
    exact FnR.intro DO (mg_of X DO.g h1) (X _ _ h2) rfl (codeRec_of X h5) h4 h8 rfl so.nd (fun y hy => by rw [h3]; exact so.loc y hy) (fun y hy => so.cell y (by rw [← h3]; exact hy)) h6 h7 (by rw [h3]; exact so.co) (by rw [h3]; exact so.gen) (by rw [h3]; exact so.kind)
      fun A L stk H1 args O E m fp s1 Q hs k1 k3 hE => keqv_ex O h3 h1' h2' E m fp s1 Q hs k3 hE
  have hread : ∀ xs : List (List Nat), (∀ x ∈ xs, x.length ≤ 1000 ∧ Cp x) → xs.length ≤ 1000 → Fn D 1 "_law_read" [.list (texts xs)] fun d => d = (readL xs).dat := fun xs h1 h2 =>
    mkFn DO X dk.read ⟨by decide, by decide, by decide, rfl, rfl, rfl⟩ rfl fun A fd L fa stk H1 args O hfd E => read_ex O hfd E (fun x hx => (h1 x hx).1) h2
      (fun ps e => by have := readL_size xs; rw [e] at this; exact Nat.le_trans this h2) (fun c e => keqv_err _ e) fr.list fr.value fr.index
      (hkeqv (xs.filter fun x => decide (x ≠ [])) (fun x hx => (h1 x (List.mem_filter.mp hx).1).1) (Nat.le_trans (List.length_filter_le _ _) h2))
  have hlaid : ∀ x y : KR, x.size + y.size ≤ 1000 → Fn D 0 "_law_laid" [x.dat, y.dat] fun d => d = (laidL x y).dat := fun x y h =>
    mkFn DO X dk.laid ⟨by decide, by decide, by decide, rfl, rfl, rfl⟩ rfl fun A fd L fa stk H1 args O hfd E => laid_ex O hfd E h fr.list fr.isin fr.str
  refine ⟨?_, ?_, ?_, ?_, ?_, ?_, hread, hlaid, ?_, hhttp⟩
  · exact mkFn DO X dk.cells ⟨by decide, by decide, by decide, rfl, rfl, rfl⟩ rfl fun A fd L fa stk H1 args O hfd E => cells_ex O hfd E ns hn fr.enum
  · refine mkFnC (ks := [1]) DO X dk.pieces (by decide) (by decide) rfl rfl rfl rfl (fun fd L fa hfd c hc => ?_) fun A fd L fa stk H1 args O hfd E => pieces_ex O hfd E (by unfold cellsOf; rw [cellAdd_length]; simp) fr.range
    rw [List.mem_singleton.mp hc]
    refine ⟨"signs", ?_⟩
    show (cellsFrom (L + 1) fd.scope.names []).lookup _ = _
    rw [hfd]; rfl
  · exact fun q t hq h => mkFn DO X dk.asked ⟨by decide, by decide, by decide, rfl, rfl, rfl⟩ rfl fun A fd L fa stk H1 args O hfd E => asked_ex O hfd E hq (Nat.le_trans h.len (by decide)) h.cp fr.len hhttp hread
  · exact fun q t hq h => mkFn DO X dk.told ⟨by decide, by decide, by decide, rfl, rfl, rfl⟩ rfl fun A fd L fa stk H1 args O hfd E => told_ex O hfd E hq (Nat.le_trans h.len (by decide))
  · exact fun t h => mkFn DO X dk.simple ⟨by decide, by decide, by decide, rfl, rfl, rfl⟩ rfl fun A fd L fa stk H1 args O hfd E => simple_ex O hfd E (Nat.le_trans h.len (by decide)) fr.len
  · exact fun a b ha hb => mkFn DO X dk.glued ⟨by decide, by decide, by decide, rfl, rfl, rfl⟩ rfl fun A fd L fa stk H1 args O hfd E => RunF.mono (glued_ex O hfd E (by simp [asks]) (by simp [asks]) (asks_ok ha hb) fr.len hread hlaid) (fun _ h => h) (fun _ d h => by rw [h, glued_asks]) fun _ h => h
  · exact fun x hx h1 h2 => mkFn DO X dk.one ⟨by decide, by decide, by decide, rfl, rfl, rfl⟩ rfl fun A fd L fa stk H1 args O hfd E => one_ex O hfd E hx h1 fr.len (hread [x] (fun y hy => by rw [List.mem_singleton.mp hy]; exact ⟨h1, h2⟩) (by simp))

set_option maxHeartbeats 2000000 in
/-- law 2's own body, where the head left it -/
theorem law2_run {prog : Program} {w : World} {s₁ : Shared} {h₁ : Heap} {mg mb : Str → Option Value} {K : Frag} {fd : FuncData} {fa l : Addr} {vs : List Value} {ns : List Int} {Q : Flow → Shared → Prop} {E : Value → Shared → Prop}
    (gg : s₁.heap.Ns mainGlobals mg) (gb : s₁.heap.Ns builtinsNs mb) (gl : s₁.heap.NoLimit) (gx : ∀ x : Str, x ≠ "__name__" → mb x = bootBuiltins x) (gs : s₁.heap.NoSeer) (gt : prog.given.tree = none)
    (X : K.In s₁.heap) (dk : Defs2 K) (fr : Free2 mg) (hn : ns.length ≤ 63) (hfd : fd.scope = defScope (S2 13)) (hgl : fd.globals = mainGlobals) (hbl : fd.builtins = builtinsNs)
    (ho : s₁.heap.get? l = some (listO vs 0)) (hI : IntsAre vs ns) (F : Fr s₁.heap s₁.heap.objs.size h₁ (bindL (callEnvC fd s₁.heap.objs.size fa).kindOf [(("script" : Str), Value.ref l)] fun _ => none))
    (hc1 : h₁.IsCell (s₁.heap.objs.size + 1) none) (hc2 : h₁.IsCell (s₁.heap.objs.size + 2) none)
    (hQ : ∀ h tk, (∀ b o, s₁.heap.get? b = some o → h.get? b = some o) → Q (.ret (.bool true)) { s₁ with heap := h, toks := tk }) (tk1 : Nat) :
    wpAny (model prog w) (callerA.deeper (callEnvC fd s₁.heap.objs.size fa)) (execs (defBody (S2 13)) (callEnvC fd s₁.heap.objs.size fa)) Q E { s₁ with heap := h₁, toks := tk1 } := by
  have DO : Wd.Ok ⟨prog, w, s₁.heap, mg, mb⟩ := ⟨gg, gb, gl, gx, gs, gt⟩
  obtain ⟨f1, f2, f3⟩ := law2_fns (D := ⟨prog, w, s₁.heap, mg, mb⟩) DO X dk fr hn
  have Ln := get_size_none s₁.heap
  have hk : (callEnvC fd s₁.heap.objs.size fa).scope.kind = .function := by show fd.scope.kind = _; rw [hfd]; rfl
  have stk' : StkOk s₁.heap [callEnvC fd s₁.heap.objs.size fa] := fun e he => by
    rw [List.mem_singleton.mp he]; exact ⟨by rw [hk]; decide, _, rfl, Ln⟩
  have fr' : (callerA.deeper (callEnvC fd s₁.heap.objs.size fa)).frames = some [callEnvC fd s₁.heap.objs.size fa] := Around.frames_deeper rfl
  have O : (mkActC ⟨prog, w, s₁.heap, mg, mb⟩ callerA fd s₁.heap.objs.size fa [] s₁.heap [l] 3).Ok := by
    refine ⟨DO, fr', stk', rfl, (by show callerA.depth + 1 + 3 < 900; decide), (by show callerA.units + 3 + 10 * 3 < 9000; decide), hk, hgl, hbl, fun hh kh => ?_⟩
    exact SeerAt.of (env := callEnvC fd s₁.heap.objs.size fa) (l := []) (DO.seer.keeps kh) DO.tree fr' (by show fd.scope.isGenerator = false; rw [hfd]; rfl) (by show fd.scope.isCoroutine = false; rw [hfd]; rfl) hbl hgl
  have rdI : ∀ {vs : List Value} {ns : List Int}, IntsAre vs ns → RdAll prog w h₁ vs (nums ns) [] := fun hi => by
    induction hi with
    | nil => exact .nil
    | cons n t _ ih => exact .cons (.int n t) ih
  have hloc : ∀ p ∈ [(("script" : Str), Value.ref l)], (callEnvC fd s₁.heap.objs.size fa).kindOf p.1 = some .local := fun p hp => by
    rw [List.mem_singleton.mp hp]; show fd.scope.names.lookup _ = _; rw [hfd]; rfl
  have hm : (bindL (callEnvC fd s₁.heap.objs.size fa).kindOf [(("script" : Str), Value.ref l)] fun _ => none) = fun x => List.lookup x [(("script" : Str), Value.ref l)] := by
    funext y; rw [bindL_all _ _ _ hloc]; show ((List.lookup y [(("script" : Str), Value.ref l)]).or none) = _; cases List.lookup y [(("script" : Str), Value.ref l)] <;> rfl
  rw [hm] at F
  have sat : Sat (mkActC ⟨prog, w, s₁.heap, mg, mb⟩ callerA fd s₁.heap.objs.size fa [] s₁.heap [l] 3) (slots ["script"] [.list (nums ns)]) (fun x => List.lookup x [(("script" : Str), Value.ref l)]) (fun _ => [l]) s₁.heap h₁ := by
    have Fe : (mkActC ⟨prog, w, s₁.heap, mg, mb⟩ callerA fd s₁.heap.objs.size fa [] s₁.heap [l] 3).F = [s₁.heap.objs.size] := rfl
    have hlL : l ≠ s₁.heap.objs.size := fun q => by rw [q, Ln] at ho; cases ho
    have slot : ∀ y sl, (slots ["script"] [.list (nums ns)]).lookup y = some sl → y = "script" ∧ sl = ⟨.list (nums ns), false⟩ := fun y sl e => by
      have e' : List.lookup y [(("script" : Str), (⟨.list (nums ns), false⟩ : Slot))] = some sl := e
      rw [Ro.lookup_cons] at e'
      by_cases h : y = "script"
      · rw [if_pos h] at e'; cases e'; exact ⟨h, rfl⟩
      · rw [if_neg h] at e'; cases e'
    refine ⟨F.keep, fun b o e => ⟨o, F.keep b o e⟩, Kp.ext F.keep, Ln, Ln, F.ns, ?_, ?_, ?_, ?_, (by intro y e; cases e)⟩
    · rw [Fe]; intro b hb
      rw [List.mem_singleton.mp hb]
      obtain ⟨o, es, ep, ho, hd, _⟩ := F.ns
      exact ⟨o, es, ep, ho, hd⟩
    · intro y sl e
      obtain ⟨rfl, rfl⟩ := slot y sl e
      exact ⟨.ref l, rfl, .list (F.keep _ _ ho) (rdI hI)⟩
    · intro y sl e b hb
      rw [List.mem_singleton.mp hb, Fe]
      exact ⟨hlL, fun q => hlL (List.mem_singleton.mp q), .inr (.head _)⟩
    · intro y sl e ow
      obtain ⟨_, rfl⟩ := slot y sl e
      cases ow
  have above : ∀ k, 0 < k → s₁.heap.get? (s₁.heap.objs.size + k) = none := fun k hk => by
    cases q : s₁.heap.get? (s₁.heap.objs.size + k) with
    | none => rfl
    | some o => have := Heap.lt_size q; exact absurd (Nat.lt_of_le_of_lt (Nat.le_add_right _ _) this) (Nat.lt_irrefl _)
  have cells : CellsAt (mkActC ⟨prog, w, s₁.heap, mg, mb⟩ callerA fd s₁.heap.objs.size fa [] s₁.heap [l] 3) [s₁.heap.objs.size + 1, s₁.heap.objs.size + 2] s₁.heap h₁ := by
    have ne : ∀ k, 0 < k → s₁.heap.objs.size + k ≠ s₁.heap.objs.size := fun k hk q => Nat.lt_irrefl _ (Nat.lt_of_lt_of_le (Nat.lt_add_of_pos_right hk) (Nat.le_of_eq q))
    intro c hc
    simp only [List.mem_cons, List.not_mem_nil, or_false] at hc
    rcases hc with rfl | rfl
    · exact ⟨⟨_, hc1⟩, above 1 (by decide), above 1 (by decide), ne 1 (by decide), fun q => ne 1 (by decide) (List.mem_singleton.mp q)⟩
    · exact ⟨⟨_, hc2⟩, above 2 (by decide), above 2 (by decide), ne 2 (by decide), fun q => ne 2 (by decide) (List.mem_singleton.mp q)⟩
  refine law_ex O hfd E f1 f2 f3 fr.range fr.len _ _ _ { s₁ with heap := h₁, toks := tk1 } Q sat cells (fun _ _ _ _ _ _ _ p => p.elim) fun ρ' m' fp' v d as h tk r p => ?_
  subst p
  obtain ⟨rfl, _⟩ := r.rd.bool_inv
  exact hQ h tk r.sat.top
end Mine
end

section
open PySem PySem.W PySem.Calls PyProof.Rows
set_option maxRecDepth 100000
set_option autoImplicit false
set_option linter.unusedVariables false
namespace Mine
theorem wellAllInts {P : Params} {h : Heap} : ∀ {ns : List Int} {vs : List Value}, WellAll P h vs (ns.map WData.int) → IntsAre vs ns
  | [], _, r => by cases r; exact .nil
  | n :: ns, _, r => by
    rw [List.map_cons] at r
    cases r with
    | cons r1 r2 => cases r1; exact .cons _ _ (wellAllInts r2)
theorem wellInts {P : Params} {h : Heap} {l : Addr} {ns : List Int} (w : Well P h (.ref l) (.list (ns.map WData.int))) : ∃ vs, h.get? l = some (listO vs 0) ∧ IntsAre vs ns := by
  cases w with
  | list ho r => exact ⟨_, ho, wellAllInts r⟩
theorem ofPyInts (ns : List Int) : ofPy (.list (ns.map PyData.int)) = .list (ns.map WData.int) := by
  have key : ∀ ns : List Int, ofPys (ns.map PyData.int) = ns.map WData.int := by
    intro ns
    induction ns with
    | nil => rfl
    | cons n ns ih => simp [ofPys, ofPy, ih]
  simp [ofPy, key]
end Mine
end

open PySem PySem.W PyProof.Rows
set_option maxRecDepth 100000 in
set_option maxHeartbeats 8000000 in
theorem PySem.Challenge.cw_rl0159_02_holds : PySem.Challenge.rw_rl0159_02.Holds := by
  (w_on; o_law; k_head; (case hw => w_witness2); (k_go0; (all_goals try k_fold)))
  rename_i w s0 s1 mg mb G Y fa o pm doc ho hg KX X V GL T B TE TW w11 w10 M w9 w8 hcd ns hs hlay0 hL1 hr1 hl2 w6 w5 l vs w2 hL ra w1 r0 hI hr hc1 hc2 K0 hD h1 tk1 F o2 o1 left right N0 X0
  rw [Mine.ofPyInts] at w1
  obtain ⟨vs', hw, hI'⟩ := Mine.wellInts w1
  have gt : (PySem.Challenge.rw_rl0159_02.row.prog).given.tree = none := rfl
  have hn : ns.length ≤ 63 := by omega
  refine Mine.law2_run (prog := PySem.Challenge.rw_rl0159_02.row.prog) (w := w) (mg := mg) (mb := mb) (l := l) (vs := vs') (ns := ns) (fa := fa)
    (fd := fnOf "law" "law" default [] (Mine.defScope (Mine.S2 13)) .none .none .none .none none (.ref w9) .none) T.g T.b T.nolimit T.builtins (T.seer ?s1) gt KX ?s2 ?s3 hn rfl rfl rfl hw hI' F ?c1 ?c2 ?s4 _
  case s1 => rfl
  case s2 =>
    constructor
    case pieces => exact ⟨_, _, _, _, _, by rfl, by rfl, by rfl, by rfl, by rfl, by rfl, by rfl, by rfl, fun vs h => match vs, h with | [v1], _ => by rfl⟩
    case laid => exact ⟨_, _, _, _, _, by rfl, by rfl, by rfl, by rfl, by rfl, by rfl, by rfl, fun vs h => match vs, h with | [v1, v2], _ => by rfl⟩
    case asked => exact ⟨_, _, _, _, _, by rfl, by rfl, by rfl, by rfl, by rfl, by rfl, by rfl, fun vs h => match vs, h with | [v1, v2], _ => by rfl⟩
    case told => exact ⟨_, _, _, _, _, by rfl, by rfl, by rfl, by rfl, by rfl, by rfl, by rfl, fun vs h => match vs, h with | [v1, v2], _ => by rfl⟩
    case glued => exact ⟨_, _, _, _, _, by rfl, by rfl, by rfl, by rfl, by rfl, by rfl, by rfl, fun vs h => match vs, h with | [v1, v2], _ => by rfl⟩
    all_goals exact ⟨_, _, _, _, _, by rfl, by rfl, by rfl, by rfl, by rfl, by rfl, by rfl, fun vs h => match vs, h with | [v1], _ => by rfl⟩
  case s3 => exact ⟨mg_none_of KX T.g (by rfl), mg_none_of KX T.g (by rfl), mg_none_of KX T.g (by rfl), mg_none_of KX T.g (by rfl), mg_none_of KX T.g (by rfl), mg_none_of KX T.g (by rfl), mg_none_of KX T.g (by rfl), mg_none_of KX T.g (by rfl)⟩
  case c1 => exact ⟨o1, (N0 _ (.tail _ (.head _))).1, right⟩
  case c2 => exact ⟨o2, (N0 _ (.head _)).1, left⟩
  case s4 =>
    intro h tk hk
    have post : ∀ a : List WData, PySem.Challenge.rw_rl0159_02.row.claim.post a (.bool true) a = true := fun a => by first | (with_unfolding_all rfl) | kernel_rfl | decide
    exact ⟨.inl ⟨.bool true, .bool true, [], rfl, fun _ => rfl, .bool true, post _, fun _ => ⟨List.nodup_nil, by intro a h; cases h⟩⟩, hk, rfl, hg⟩

