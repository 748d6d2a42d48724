import PyProof.Rows.All
import Wide.All
import OpenK.AllK
import Wide.FinOn
import PySem.Challenge.RW_rl0159_01
set_option Elab.async false

section
open PySem PySem.W PySem.Calls PyProof.Rows
set_option maxRecDepth 100000
set_option autoImplicit false
set_option linter.unusedVariables false
namespace Mine

/-! heaps -/
def Kp (h h' : Heap) : Prop := ∀ b o, h.get? b = some o → h'.get? b = some o
theorem Kp.refl (h : Heap) : Kp h h := fun _ _ e => e
theorem Kp.trans {h₁ h₂ h₃ : Heap} (x : Kp h₁ h₂) (y : Kp h₂ h₃) : Kp h₁ h₃ := fun b o e => y b o (x b o e)
theorem Kp.push (h : Heap) (o : Obj) : Kp h (h.push o) := fun _ _ e => Heap.get?_push_of_some o e

/-- all kept; frames of F up to their slots -/
def Ext (F : List Addr) (h h' : Heap) : Prop := ∀ b o, h.get? b = some o → (b ∉ F → h'.get? b = some o) ∧ ∃ sl, h'.get? b = some { o with slots := sl }
theorem Kp.ext {F : List Addr} {h h' : Heap} (x : Kp h h') : Ext F h h' := fun b o e => ⟨fun _ => x b o e, o.slots, x b o e⟩
theorem Ext.refl (F : List Addr) (h : Heap) : Ext F h h := (Kp.refl h).ext
theorem Ext.trans {F : List Addr} {h₁ h₂ h₃ : Heap} (x : Ext F h₁ h₂) (y : Ext F h₂ h₃) : Ext F h₁ h₃ := fun b o e => by
  obtain ⟨a, sl, c⟩ := x b o e
  refine ⟨fun hb => (y b o (a hb)).1 hb, ?_⟩
  obtain ⟨_, sl', c'⟩ := y b _ c
  exact ⟨sl', c'⟩
theorem Ext.some {F : List Addr} {h h' : Heap} (x : Ext F h h') {b : Addr} {o : Obj} (e : h.get? b = some o) : ∃ o', h'.get? b = some o' := by
  obtain ⟨_, sl, c⟩ := x b o e; exact ⟨_, c⟩
theorem Ext.none {F : List Addr} {h h' : Heap} (x : Ext F h h') {b : Addr} (e : h'.get? b = none) : h.get? b = none := by
  cases q : h.get? b with
  | none => rfl
  | some o => obtain ⟨o', c⟩ := x.some q; rw [e] at c; cases c
theorem Ext.ns {F : List Addr} {h h' : Heap} (x : Ext F h h') {a : Addr} {m : Str → Option Value} (hn : h.Ns a m) : h'.Ns a m := by
  obtain ⟨o, es, ep, ho, hd, r⟩ := hn
  obtain ⟨_, sl, hs⟩ := x a o ho
  exact ⟨_, es, ep, hs, hd, r⟩
theorem Ext.mono {F F' : List Addr} {h h' : Heap} (x : Ext F h h') (hF : ∀ b ∈ F, b ∈ F') : Ext F' h h' := fun b o e => ⟨fun hb => (x b o e).1 fun q => hb (hF b q), (x b o e).2⟩

/-- all kept but the places of S -/
def But (F : List Addr) (S : Addr → Prop) (h h' : Heap) : Prop := ∀ b o, ¬ S b → h.get? b = some o → (b ∉ F → h'.get? b = some o) ∧ ∃ sl, h'.get? b = some { o with slots := sl }
theorem Ext.but {F : List Addr} {S : Addr → Prop} {h h' : Heap} (x : Ext F h h') : But F S h h' := fun b o _ e => x b o e
theorem But.ext {F : List Addr} {S : Addr → Prop} {h h' : Heap} (x : But F S h h') (hS : ∀ b o, h.get? b = some o → ¬ S b) : Ext F h h' := fun b o e => x b o (hS b o e) e

/-! data in a heap -/
def listO (vs : List Value) (n : Nat) : Obj := { cls := .type "list", data := .seq vs.toArray n }
def tupO (vs : List Value) (n : Nat) : Obj := { cls := .type "tuple", data := .seq vs.toArray n }
def sPair (p : Str × Str) : PyData × PyData := (.str p.1, .str p.2)
def strVal (v : Value) (x : Str) : Prop := ∃ t, v = .str x t
/-- the values of a dict's pairs are these texts -/
inductive PairsAre : List (Str × Value) → List (Str × Str) → Prop
  | nil : PairsAre [] []
  | cons {k : Str} {v : Value} {x : Str} {r : List (Str × Value)} {q : List (Str × Str)} : strVal v x → PairsAre r q → PairsAre ((k, v) :: r) ((k, x) :: q)

mutual
inductive Rd (prog : Program) (w : World) (h : Heap) : Value → PyData → List Addr → Prop
  | none : Rd prog w h .none .none []
  | bool (b) : Rd prog w h (.bool b) (.bool b) []
  | int (i t) : Rd prog w h (.int i t) (.int i) []
  | str (x t) : Rd prog w h (.str x t) (.str x) []
  | list {a vs n xs as} : h.get? a = some (listO vs n) → RdAll prog w h vs xs as → Rd prog w h (.ref a) (.list xs) (a :: as)
  | tuple {a vs n xs as} : h.get? a = some (tupO vs n) → RdAll prog w h vs xs as → Rd prog w h (.ref a) (.tuple xs) as
  | dict {a kvs ps} : h.DictOf (strKind prog w) a kvs → PairsAre kvs ps → (a == sysModules) = false → Rd prog w h (.ref a) (.dict (ps.map sPair)) [a]
inductive RdAll (prog : Program) (w : World) (h : Heap) : List Value → List PyData → List Addr → Prop
  | nil : RdAll prog w h [] [] []
  | cons {v vs d ds as bs} : Rd prog w h v d as → RdAll prog w h vs ds bs → RdAll prog w h (v :: vs) (d :: ds) (as ++ bs)
end

section
variable {prog : Program} {w : World} {h h' : Heap}

theorem dictOf_but {F : List Addr} {S : Addr → Prop} (k : But F S h h') {a : Addr} {kvs : List (Str × Value)} (ha : ¬ S a) (hf : a ∉ F) (x : h.DictOf (strKind prog w) a kvs) : h'.DictOf (strKind prog w) a kvs := by
  obtain ⟨o, es, ep, ho, r⟩ := x
  exact ⟨o, es, ep, (k a o ha ho).1 hf, r⟩

/-- no tuple and no list stands at the places of S -/
def NoSeq (S : Addr → Prop) (h : Heap) : Prop := ∀ b o, S b → h.get? b = some o → ∀ vs n, o ≠ tupO vs n

theorem Rd.ind {M1 : Value → PyData → List Addr → Prop} {M2 : List Value → List PyData → List Addr → Prop} (h0 : M1 .none .none []) (h1 : ∀ b, M1 (.bool b) (.bool b) []) (h2 : ∀ i t, M1 (.int i t) (.int i) []) (h3 : ∀ x t, M1 (.str x t) (.str x) [])
    (h4 : ∀ a vs n xs as, h.get? a = some (listO vs n) → RdAll prog w h vs xs as → M2 vs xs as → M1 (.ref a) (.list xs) (a :: as))
    (h5 : ∀ a vs n xs as, h.get? a = some (tupO vs n) → RdAll prog w h vs xs as → M2 vs xs as → M1 (.ref a) (.tuple xs) as)
    (h6 : ∀ a kvs ps, h.DictOf (strKind prog w) a kvs → PairsAre kvs ps → (a == sysModules) = false → M1 (.ref a) (.dict (ps.map sPair)) [a])
    (h7 : M2 [] [] []) (h8 : ∀ v vs d ds as bs, Rd prog w h v d as → RdAll prog w h vs ds bs → M1 v d as → M2 vs ds bs → M2 (v :: vs) (d :: ds) (as ++ bs)) :
    (∀ {v d as}, Rd prog w h v d as → M1 v d as) ∧ ∀ {vs ds as}, RdAll prog w h vs ds as → M2 vs ds as :=
  ⟨fun r => Rd.rec (motive_1 := fun v d as _ => M1 v d as) (motive_2 := fun vs ds as _ => M2 vs ds as) h0 h1 h2 h3 (fun a b c => h4 _ _ _ _ _ a b c) (fun a b c => h5 _ _ _ _ _ a b c) (fun a b c => h6 _ _ _ a b c) h7 (fun a b c d => h8 _ _ _ _ _ _ a b c d) r,
   fun r => RdAll.rec (motive_1 := fun v d as _ => M1 v d as) (motive_2 := fun vs ds as _ => M2 vs ds as) h0 h1 h2 h3 (fun a b c => h4 _ _ _ _ _ a b c) (fun a b c => h5 _ _ _ _ _ a b c) (fun a b c => h6 _ _ _ a b c) h7 (fun a b c d => h8 _ _ _ _ _ _ a b c d) r⟩
theorem Rd.but2 {F : List Addr} {S : Addr → Prop} (k : But F S h h') (hS : NoSeq S h) (hF : NoSeq (· ∈ F) h) : (∀ {v : Value} {d : PyData} {as : List Addr}, Rd prog w h v d as → (∀ b ∈ as, ¬ S b ∧ b ∉ F) → Rd prog w h' v d as) ∧
    ∀ {vs : List Value} {ds : List PyData} {as : List Addr}, RdAll prog w h vs ds as → (∀ b ∈ as, ¬ S b ∧ b ∉ F) → RdAll prog w h' vs ds as :=
  Rd.ind (M1 := fun v d as => (∀ b ∈ as, ¬ S b ∧ b ∉ F) → Rd prog w h' v d as) (M2 := fun vs ds as => (∀ b ∈ as, ¬ S b ∧ b ∉ F) → RdAll prog w h' vs ds as)
    (fun _ => .none) (fun b _ => .bool b) (fun i t _ => .int i t) (fun x t _ => .str x t)
    (fun a vs n xs as ho _ ih ha => .list ((k _ _ (ha _ (.head _)).1 ho).1 (ha _ (.head _)).2) (ih fun b hb => ha b (.tail _ hb)))
    (fun a vs n xs as ho _ ih ha => .tuple ((k _ _ (fun q => hS _ _ q ho _ _ rfl) ho).1 fun q => hF _ _ q ho _ _ rfl) (ih ha))
    (fun a kvs ps ho r hs ha => .dict (dictOf_but k (ha _ (.head _)).1 (ha _ (.head _)).2 ho) r hs) (fun _ => .nil)
    (fun v vs d ds as bs _ _ i1 i2 ha => .cons (i1 fun b hb => ha b (List.mem_append_left _ hb)) (i2 fun b hb => ha b (List.mem_append_right _ hb)))
theorem Rd.but {F : List Addr} {S : Addr → Prop} (k : But F S h h') (hS : NoSeq S h) (hF : NoSeq (· ∈ F) h) {v : Value} {d : PyData} {as : List Addr} (r : Rd prog w h v d as) (ha : ∀ b ∈ as, ¬ S b ∧ b ∉ F) : Rd prog w h' v d as := (Rd.but2 k hS hF).1 r ha
theorem RdAll.but {F : List Addr} {S : Addr → Prop} (k : But F S h h') (hS : NoSeq S h) (hF : NoSeq (· ∈ F) h) {vs : List Value} {ds : List PyData} {as : List Addr} (r : RdAll prog w h vs ds as) (ha : ∀ b ∈ as, ¬ S b ∧ b ∉ F) : RdAll prog w h' vs ds as := (Rd.but2 k hS hF).2 r ha
theorem Rd.kp2 (k : Kp h h') : (∀ {v : Value} {d : PyData} {as : List Addr}, Rd prog w h v d as → Rd prog w h' v d as) ∧ ∀ {vs : List Value} {ds : List PyData} {as : List Addr}, RdAll prog w h vs ds as → RdAll prog w h' vs ds as :=
  Rd.ind (M1 := fun v d as => Rd prog w h' v d as) (M2 := fun vs ds as => RdAll prog w h' vs ds as) .none .bool .int .str (fun a vs n xs as ho _ ih => .list (k _ _ ho) ih) (fun a vs n xs as ho _ ih => .tuple (k _ _ ho) ih)
    (fun a kvs ps ho r hs => .dict (let ⟨o, es, ep, ho, q⟩ := ho; ⟨o, es, ep, k _ _ ho, q⟩) r hs) .nil (fun v vs d ds as bs _ _ i1 i2 => .cons i1 i2)
theorem Rd.kp (k : Kp h h') {v : Value} {d : PyData} {as : List Addr} (r : Rd prog w h v d as) : Rd prog w h' v d as := (Rd.kp2 k).1 r
theorem RdAll.kp (k : Kp h h') {vs : List Value} {ds : List PyData} {as : List Addr} (r : RdAll prog w h vs ds as) : RdAll prog w h' vs ds as := (Rd.kp2 k).2 r
end
end Mine
end

section
open PySem PySem.W PySem.Calls PyProof.Rows
set_option maxRecDepth 100000
set_option autoImplicit false
set_option linter.unusedVariables false
namespace Mine

section
variable {prog : Program} {w : World} {h h' : Heap}
theorem Rd.here2 : (∀ {v : Value} {d : PyData} {as : List Addr}, Rd prog w h v d as → ∀ b ∈ as, ∃ o, h.get? b = some o) ∧ ∀ {vs : List Value} {ds : List PyData} {as : List Addr}, RdAll prog w h vs ds as → ∀ b ∈ as, ∃ o, h.get? b = some o :=
  Rd.ind (M1 := fun v d as => ∀ b ∈ as, ∃ o, h.get? b = some o) (M2 := fun vs ds as => ∀ b ∈ as, ∃ o, h.get? b = some o) (fun _ hb => nomatch hb) (fun _ _ hb => nomatch hb) (fun _ _ _ hb => nomatch hb) (fun _ _ _ hb => nomatch hb)
    (fun a vs n xs as ho _ ih b hb => (List.mem_cons.mp hb).elim (fun e => ⟨_, e ▸ ho⟩) (ih b)) (fun a vs n xs as ho _ ih => ih)
    (fun a kvs ps ho _ _ b hb => by obtain ⟨o, _, _, ho, _⟩ := ho; exact ⟨o, List.mem_singleton.mp hb ▸ ho⟩) (fun _ hb => nomatch hb)
    (fun v vs d ds as bs _ _ i1 i2 b hb => (List.mem_append.mp hb).elim (i1 b) (i2 b))
theorem Rd.here {v : Value} {d : PyData} {as : List Addr} (r : Rd prog w h v d as) : ∀ b ∈ as, ∃ o, h.get? b = some o := Rd.here2.1 r
theorem RdAll.here {vs : List Value} {ds : List PyData} {as : List Addr} (r : RdAll prog w h vs ds as) : ∀ b ∈ as, ∃ o, h.get? b = some o := Rd.here2.2 r
/-- induction over several values -/
theorem RdAll.ind {M2 : List Value → List PyData → List Addr → Prop} (h7 : M2 [] [] []) (h8 : ∀ v vs d ds as bs, Rd prog w h v d as → RdAll prog w h vs ds bs → M2 vs ds bs → M2 (v :: vs) (d :: ds) (as ++ bs)) {vs : List Value} {ds : List PyData} {as : List Addr}
    (r : RdAll prog w h vs ds as) : M2 vs ds as :=
  (Rd.ind (M1 := fun _ _ _ => True) (M2 := M2) trivial (fun _ => trivial) (fun _ _ => trivial) (fun _ _ => trivial) (fun _ _ _ _ _ _ _ _ => trivial) (fun _ _ _ _ _ _ _ _ => trivial) (fun _ _ _ _ _ _ => trivial) h7 (fun v vs d ds as bs r q _ ih => h8 v vs d ds as bs r q ih)).2 r
theorem RdAll.length {vs : List Value} {ds : List PyData} {as : List Addr} (r : RdAll prog w h vs ds as) : vs.length = ds.length :=
  RdAll.ind (M2 := fun vs ds _ => vs.length = ds.length) rfl (fun _ _ _ _ _ _ _ _ ih => congrArg (· + 1) ih) r
theorem RdAll.append {ws : List Value} {es : List PyData} {bs : List Addr} {vs : List Value} {ds : List PyData} {as : List Addr} (r : RdAll prog w h vs ds as) (r' : RdAll prog w h ws es bs) : RdAll prog w h (vs ++ ws) (ds ++ es) (as ++ bs) :=
  RdAll.ind (M2 := fun vs ds as => RdAll prog w h (vs ++ ws) (ds ++ es) (as ++ bs)) r' (fun _ _ _ _ _ _ r _ ih => by have := RdAll.cons r ih; rwa [← List.append_assoc] at this) r
theorem RdAll.snoc {v : Value} {d : PyData} {bs : List Addr} {vs : List Value} {ds : List PyData} {as : List Addr} (r : RdAll prog w h vs ds as) (r' : Rd prog w h v d bs) : RdAll prog w h (vs ++ [v]) (ds ++ [d]) (as ++ bs) := by
  have := r.append (RdAll.cons r' .nil); rwa [List.append_nil] at this
/-- the item at a place -/
theorem RdAll.get {vs : List Value} {ds : List PyData} {as : List Addr} (r : RdAll prog w h vs ds as) : ∀ {i : Nat} {d : PyData}, ds[i]? = some d → ∃ v bs, vs[i]? = some v ∧ Rd prog w h v d bs ∧ ∀ b ∈ bs, b ∈ as :=
  RdAll.ind (M2 := fun vs ds as => ∀ {i : Nat} {d : PyData}, ds[i]? = some d → ∃ v bs, vs[i]? = some v ∧ Rd prog w h v d bs ∧ ∀ b ∈ bs, b ∈ as) (fun e => nomatch e)
    (fun v vs d ds as bs r q ih i d' e => match i with
      | 0 => ⟨v, as, rfl, Option.some.inj e ▸ r, fun b hb => List.mem_append_left _ hb⟩
      | i + 1 => let ⟨v', bs', e', r', hs⟩ := ih (i := i) e; ⟨v', bs', e', r', fun b hb => List.mem_append_right _ (hs b hb)⟩) r
/-- a part of the items, picked by any list of places -/
theorem RdAll.take_drop (i k : Nat) : ∀ {vs : List Value} {ds : List PyData} {as : List Addr}, RdAll prog w h vs ds as → ∃ bs, RdAll prog w h ((vs.drop i).take k) ((ds.drop i).take k) bs ∧ ∀ b ∈ bs, b ∈ as := by
  have tk : ∀ (k : Nat) {vs : List Value} {ds : List PyData} {as : List Addr}, RdAll prog w h vs ds as → ∃ bs, RdAll prog w h (vs.take k) (ds.take k) bs ∧ ∀ b ∈ bs, b ∈ as := by
    intro k
    induction k with
    | zero => intro vs ds as _; exact ⟨[], by simpa using RdAll.nil, fun _ hb => nomatch hb⟩
    | succ k ih =>
      intro vs ds as r
      cases r with
      | nil => exact ⟨[], by simpa using RdAll.nil, fun _ hb => nomatch hb⟩
      | cons r q =>
        obtain ⟨bs, x, y⟩ := ih q
        exact ⟨_, by simpa using RdAll.cons r x, fun b hb => (List.mem_append.mp hb).elim (fun z => List.mem_append_left _ z) fun z => List.mem_append_right _ (y b z)⟩
  induction i with
  | zero => intro vs ds as r; simpa using tk k r
  | succ i ih =>
    intro vs ds as r
    cases r with
    | nil => exact ⟨[], by simpa using RdAll.nil, fun _ hb => nomatch hb⟩
    | cons r q =>
      obtain ⟨bs, x, y⟩ := ih q
      exact ⟨bs, by simpa using x, fun b hb => List.mem_append_right _ (y b hb)⟩

/-! from my relation to the library's -/
theorem pairs_read {es : List DictEntry} {kvs : List (Str × Value)} {ps : List (Str × Str)} (hp : Pairs (strKind prog w) es kvs) : PairsAre kvs ps →
    (∃ bs, ReadsAll h (es.map (·.key)) ((ps.map sPair).map (·.1)) bs) ∧ ∃ bs, ReadsAll h (es.map (·.val)) ((ps.map sPair).map (·.2)) bs := by
  induction hp generalizing ps with
  | nil => intro q; cases q; exact ⟨⟨_, .nil⟩, ⟨_, .nil⟩⟩
  | @cons e kv es kvs h1 h2 _ ih =>
    intro q
    cases q with
    | cons hx q =>
      obtain ⟨⟨b1, r1⟩, ⟨b2, r2⟩⟩ := ih q
      obtain ⟨t, ht⟩ := Value.isStrOf_shape h1
      obtain ⟨u, hu⟩ := hx
      simp only at ht h2 hu
      refine ⟨⟨[] ++ b1, ?_⟩, ⟨[] ++ b2, ?_⟩⟩
      · show ReadsAll h (e.key :: _) (PyData.str _ :: _) _
        rw [ht]; exact .cons (.str _ _) r1
      · show ReadsAll h (e.val :: _) (PyData.str _ :: _) _
        rw [h2, hu]; exact .cons (.str _ _) r2
theorem Rd.reads {v : Value} {d : PyData} {as : List Addr} (r : Rd prog w h v d as) : ∃ bs, Reads h v d bs :=
  (Rd.ind (M1 := fun v d _ => ∃ bs, Reads h v d bs) (M2 := fun vs ds _ => ∃ bs, ReadsAll h vs ds bs) ⟨_, .none⟩ (fun b => ⟨_, .bool b⟩) (fun i t => ⟨_, .int i t⟩) (fun x t => ⟨_, .str x t⟩)
    (fun a vs n xs as ho _ ih => let ⟨bs, q⟩ := ih; ⟨_, .list ho rfl rfl q⟩) (fun a vs n xs as ho _ ih => let ⟨bs, q⟩ := ih; ⟨_, .tuple ho rfl rfl q⟩)
    (fun a kvs ps ho r _ => by
      obtain ⟨o, es, ep, ho, hx, hd, _, hp, _⟩ := ho
      obtain ⟨⟨b1, r1⟩, ⟨b2, r2⟩⟩ := pairs_read (h := h) hp r
      exact ⟨_, .dict ho hx.1 hd r1 r2⟩)
    ⟨_, .nil⟩ (fun v vs d ds as bs _ _ i1 i2 => let ⟨b1, r1⟩ := i1; let ⟨b2, r2⟩ := i2; ⟨_, .cons r1 r2⟩)).1 r

theorem Rd.str_inv {v : Value} {x : Str} {as : List Addr} (r : Rd prog w h v (.str x) as) : (∃ t, v = .str x t) ∧ as = [] := by cases r; exact ⟨⟨_, rfl⟩, rfl⟩
theorem Rd.int_inv {v : Value} {x : Int} {as : List Addr} (r : Rd prog w h v (.int x) as) : (∃ t, v = .int x t) ∧ as = [] := by cases r; exact ⟨⟨_, rfl⟩, rfl⟩
theorem Rd.bool_inv {v : Value} {x : Bool} {as : List Addr} (r : Rd prog w h v (.bool x) as) : v = .bool x ∧ as = [] := by cases r; exact ⟨rfl, rfl⟩
theorem Rd.none_inv {v : Value} {as : List Addr} (r : Rd prog w h v .none as) : v = .none ∧ as = [] := by cases r; exact ⟨rfl, rfl⟩
theorem Rd.list_inv {v : Value} {xs : List PyData} {as : List Addr} (r : Rd prog w h v (.list xs) as) : ∃ a vs n bs, v = .ref a ∧ as = a :: bs ∧ h.get? a = some (listO vs n) ∧ RdAll prog w h vs xs bs := by
  cases r with | list ho r => exact ⟨_, _, _, _, rfl, rfl, ho, r⟩
theorem Rd.tuple_inv {v : Value} {xs : List PyData} {as : List Addr} (r : Rd prog w h v (.tuple xs) as) : ∃ a vs n, v = .ref a ∧ h.get? a = some (tupO vs n) ∧ RdAll prog w h vs xs as := by
  cases r with | tuple ho r => exact ⟨_, _, _, rfl, ho, r⟩
end

/-! data that hold no list and no dict -/
mutual
def atom : PyData → Bool
  | .list _ | .dict _ => false
  | .tuple xs => atoms xs
  | _ => true
def atoms : List PyData → Bool
  | [] => true
  | d :: ds => atom d && atoms ds
end
section
variable {prog : Program} {w : World} {h : Heap}
theorem Rd.atom2 : (∀ {v : Value} {d : PyData} {as : List Addr}, Rd prog w h v d as → Mine.atom d = true → as = []) ∧ ∀ {vs : List Value} {ds : List PyData} {as : List Addr}, RdAll prog w h vs ds as → Mine.atoms ds = true → as = [] :=
  Rd.ind (M1 := fun v d as => Mine.atom d = true → as = []) (M2 := fun vs ds as => Mine.atoms ds = true → as = []) (fun _ => rfl) (fun _ _ => rfl) (fun _ _ _ => rfl) (fun _ _ _ => rfl)
    (fun a vs n xs as _ _ _ e => nomatch (show false = true from e)) (fun a vs n xs as _ _ ih e => ih e) (fun a kvs ps _ _ _ e => nomatch (show false = true from e)) (fun _ => rfl)
    (fun v vs d ds as bs _ _ i1 i2 e => by
      have e' : Mine.atom d = true ∧ Mine.atoms ds = true := (Bool.and_eq_true _ _).mp e
      rw [i1 e'.1, i2 e'.2]; rfl)
theorem Rd.atom {v : Value} {d : PyData} {as : List Addr} (r : Rd prog w h v d as) (e : Mine.atom d = true) : as = [] := Rd.atom2.1 r e
theorem RdAll.atoms {vs : List Value} {ds : List PyData} {as : List Addr} (r : RdAll prog w h vs ds as) (e : Mine.atoms ds = true) : as = [] := Rd.atom2.2 r e
end
end Mine
end

section
open PySem PySem.W PySem.Calls PyProof.Rows
set_option maxRecDepth 100000
set_option autoImplicit false
set_option linter.unusedVariables false
namespace Mine

structure Wd where
  prog : Program
  w : World
  H0 : Heap
  mg : Str → Option Value
  mb : Str → Option Value

structure Wd.Ok (D : Wd) : Prop where
  g : D.H0.Ns mainGlobals D.mg
  b : D.H0.Ns builtinsNs D.mb
  lim : D.H0.NoLimit
  blt : ∀ x : Str, x ≠ "__name__" → D.mb x = bootBuiltins x
  seer : D.H0.NoSeer
  tree : D.prog.given.tree = none

def framesOf (stk : List Env) : List Addr := stk.filterMap (·.frame)

/-- what holds of a stack's frames in every heap of the call -/
def StkOk (H0 : Heap) (stk : List Env) : Prop := ∀ e ∈ stk, e.scope.kind ≠ .module ∧ ∃ L, e.frame = some L ∧ H0.get? L = none
def FF (F : List Addr) (h : Heap) : Prop := ∀ b ∈ F, ∃ o es n, h.get? b = some o ∧ o.data = .dict es n

theorem FF.ext {F F' : List Addr} {h h' : Heap} (x : FF F h) (k : Ext F' h h') : FF F h' := fun b hb => by
  obtain ⟨o, es, n, ho, hd⟩ := x b hb
  obtain ⟨_, sl, hs⟩ := k b o ho
  exact ⟨_, es, n, hs, hd⟩
theorem FF.noSeq {F : List Addr} {h : Heap} (x : FF F h) : NoSeq (· ∈ F) h := fun b o hb ho vs n q => by
  obtain ⟨o', es, k, ho', hd⟩ := x b hb
  rw [ho] at ho'; cases ho'; rw [q] at hd; cases hd

/-- one activation: a def's body, or a comprehension within one -/
structure Act where
  D : Wd
  A : Around
  env : Env
  stk : List Env
  H1 : Heap
  args : List Addr
  n : Nat
  pinN : Option Str := none
  pinB : Addr := 0

def Act.F (a : Act) : List Addr := framesOf a.stk
abbrev Act.L (a : Act) : Addr := a.env.locals
abbrev Act.M (a : Act) : Model := model a.D.prog a.D.w
def Act.fine (a : Act) (b : Addr) : Prop := a.H1.get? b = none ∨ b ∈ a.args

structure Act.Ok (a : Act) : Prop where
  D : a.D.Ok
  frames : a.A.frames = some a.stk
  stk : StkOk a.D.H0 a.stk
  hd : a.A.handled = none
  depth : a.A.depth + a.n < 900
  units : a.A.units + 10 * a.n < 9000
  kind : a.env.scope.kind = .function
  glob : a.env.globals = mainGlobals
  blt : a.env.builtins = builtinsNs
  seer : ∀ hh, Kp a.D.H0 hh → SeerAt a.M a.A hh

structure Slot where
  d : PyData
  own : Bool
abbrev Ro := List (Str × Slot)

def isMut : PyData → Bool
  | .list _ | .dict _ => true
  | _ => false

structure Sat (a : Act) (ρ : Ro) (m : Str → Option Value) (fp : Str → List Addr) (g h : Heap) : Prop where
  top : Kp a.D.H0 h
  dom : ∀ b o, a.H1.get? b = some o → ∃ o', h.get? b = some o'
  gx : Ext a.F g h
  lnew : a.D.H0.get? a.L = none
  lg : g.get? a.L = none
  ns : h.Ns a.L m
  ff : FF a.F h
  var : ∀ x sl, ρ.lookup x = some sl → ∃ v, m x = some v ∧ Rd a.D.prog a.D.w h v sl.d (fp x)
  fpok : ∀ x sl, ρ.lookup x = some sl → ∀ b ∈ fp x, b ≠ a.L ∧ b ∉ a.F ∧ a.fine b
  own : ∀ x sl, ρ.lookup x = some sl → sl.own = true → ∃ b r, fp x = b :: r ∧ m x = some (.ref b) ∧ isMut sl.d = true ∧ g.get? b = none ∧ a.D.H0.get? b = none ∧ b ∉ r ∧
    ∀ y sl', y ≠ x → ρ.lookup y = some sl' → b ∉ fp y
  pin : ∀ x, a.pinN = some x → m x = some (.ref a.pinB)

theorem pin_ne {x y : Str} (h : (x == y) = false) : (some x : Option Str) ≠ some y := fun q => by cases q; simp at h

structure Fo (a : Act) (ρ : Ro) (fp : Str → List Addr) (h0 : Heap) (f : Nat) (as : List Addr) : Prop where
  ok : ∀ b ∈ as, b ≠ a.L ∧ b ∉ a.F ∧ a.fine b
  tl : ∀ x sl b r, ρ.lookup x = some sl → sl.own = true → fp x = b :: r → b ∉ as.tail
  cl : ∀ x sl b r, ρ.lookup x = some sl → sl.own = true → fp x = b :: r → 1 ≤ f → b ∉ as
  fr : 2 ≤ f → ∀ b ∈ as, h0.get? b = none

theorem Fo.nil {a : Act} {ρ : Ro} {fp : Str → List Addr} {h0 : Heap} (f : Nat) : Fo a ρ fp h0 f [] :=
  ⟨fun _ hb => (nomatch hb), fun _ _ _ _ _ _ _ hb => (nomatch hb), fun _ _ _ _ _ _ _ _ hb => (nomatch hb), fun _ _ hb => (nomatch hb)⟩
theorem Fo.le {a : Act} {ρ : Ro} {fp : Str → List Addr} {h0 : Heap} {f f' : Nat} {as : List Addr} (x : Fo a ρ fp h0 f as) (h : f' ≤ f) : Fo a ρ fp h0 f' as :=
  ⟨x.ok, x.tl, fun y sl b r p q e k => x.cl y sl b r p q e (Nat.le_trans k h), fun k => x.fr (Nat.le_trans k h)⟩
/-- fewer places -/
theorem Fo.sub {a : Act} {ρ : Ro} {fp : Str → List Addr} {h0 : Heap} {f : Nat} {as bs : List Addr} (x : Fo a ρ fp h0 f as) (hf : 1 ≤ f) (h : ∀ b ∈ bs, b ∈ as) : Fo a ρ fp h0 f bs :=
  ⟨fun b hb => x.ok b (h b hb), fun y sl b r p q e k => x.cl y sl b r p q e hf (h b (List.mem_of_mem_tail k)), fun y sl b r p q e _ k => x.cl y sl b r p q e hf (h b k), fun k b hb => x.fr k b (h b hb)⟩
theorem Fo.tail {a : Act} {ρ : Ro} {fp : Str → List Addr} {h0 : Heap} {f : Nat} {as bs : List Addr} (x : Fo a ρ fp h0 f as) (h : ∀ b ∈ bs, b ∈ as.tail) : Fo a ρ fp h0 1 bs :=
  ⟨fun b hb => x.ok b (List.mem_of_mem_tail (h b hb)), fun y sl b r p q e k => x.tl y sl b r p q e (h b (List.mem_of_mem_tail k)), fun y sl b r p q e _ k => x.tl y sl b r p q e (h b k), fun k => absurd k (by decide)⟩
theorem Fo.earlier {a : Act} {ρ : Ro} {fp : Str → List Addr} {F : List Addr} {h0 h1 : Heap} {f : Nat} {as : List Addr} (x : Fo a ρ fp h1 f as) (k : Ext F h0 h1) : Fo a ρ fp h0 f as :=
  ⟨x.ok, x.tl, x.cl, fun q b hb => k.none (x.fr q b hb)⟩

section
variable {a : Act} {ρ : Ro} {m : Str → Option Value} {fp : Str → List Addr} {g h h' : Heap}

theorem framesOf_new {H0 : Heap} {stk : List Env} (x : StkOk H0 stk) : ∀ b ∈ framesOf stk, H0.get? b = none := fun b hb => by
  obtain ⟨e, he, hf⟩ := List.mem_filterMap.mp hb
  obtain ⟨_, L, hL, hn⟩ := x e he
  rw [hL] at hf; cases hf; exact hn
theorem kp_of_ext {H0 : Heap} {stk : List Env} (x : StkOk H0 stk) (k : Kp H0 h) (e : Ext (framesOf stk) h h') : Kp H0 h' := fun b o hb =>
  (e b o (k b o hb)).1 fun q => by rw [framesOf_new x b q] at hb; cases hb

theorem FunFrames_of {H0 : Heap} {stk : List Env} (x : StkOk H0 stk) (f : FF (framesOf stk) h) : h.FunFrames H0 stk := by
  induction stk with
  | nil => trivial
  | cons e stk ih =>
    obtain ⟨hk, L, hL, hn⟩ := x e (.head _)
    obtain ⟨o, es, n, ho, hd⟩ := f L (List.mem_filterMap.mpr ⟨e, .head _, hL⟩)
    refine ⟨hk, ⟨L, o, hL, hn, ho, fun vs q => by rw [hd] at q; cases q⟩, ih (fun e he => x e (.tail _ he)) fun b hb => f b ?_⟩
    obtain ⟨e', he', hf⟩ := List.mem_filterMap.mp hb
    exact List.mem_filterMap.mpr ⟨e', .tail _ he', hf⟩

theorem Rd.ext {prog : Program} {w : World} {F : List Addr} (k : Ext F h h') (ff : FF F h) {v : Value} {d : PyData} {as : List Addr} (r : Rd prog w h v d as) (ha : ∀ b ∈ as, b ∉ F) : Rd prog w h' v d as :=
  r.but (S := fun _ => False) k.but (fun _ _ q => q.elim) ff.noSeq fun b hb => ⟨id, ha b hb⟩
theorem RdAll.ext {prog : Program} {w : World} {F : List Addr} (k : Ext F h h') (ff : FF F h) {v : List Value} {d : List PyData} {as : List Addr} (r : RdAll prog w h v d as) (ha : ∀ b ∈ as, b ∉ F) : RdAll prog w h' v d as :=
  r.but (S := fun _ => False) k.but (fun _ _ q => q.elim) ff.noSeq fun b hb => ⟨id, ha b hb⟩

theorem Sat.ext (O : a.Ok) (x : Sat a ρ m fp g h) (k : Ext a.F h h') : Sat a ρ m fp g h' where
  top := kp_of_ext O.stk x.top k
  dom := fun b o e => by obtain ⟨o', e'⟩ := x.dom b o e; exact k.some e'
  gx := x.gx.trans k
  lnew := x.lnew
  lg := x.lg
  ns := k.ns x.ns
  ff := x.ff.ext k
  var := fun y sl e => by
    obtain ⟨v, hv, r⟩ := x.var y sl e
    exact ⟨v, hv, r.ext k x.ff fun b hb => (x.fpok y sl e b hb).2.1⟩
  fpok := x.fpok
  own := x.own
  pin := x.pin

/-- a new place is fine -/
theorem Sat.newFine (x : Sat a ρ m fp g h) {b : Addr} (hb : h.get? b = none) : b ≠ a.L ∧ b ∉ a.F ∧ a.fine b := by
  refine ⟨fun q => ?_, fun q => ?_, .inl ?_⟩
  · obtain ⟨o, _, _, ho, _⟩ := x.ns; rw [← q, hb] at ho; cases ho
  · obtain ⟨o, _, _, ho, _⟩ := x.ff b q; rw [hb] at ho; cases ho
  · cases q : a.H1.get? b with
    | none => rfl
    | some o => obtain ⟨o', e'⟩ := x.dom b o q; rw [hb] at e'; cases e'
theorem Sat.newClean (x : Sat a ρ m fp g h) {b : Addr} (hb : h.get? b = none) {y : Str} {sl : Slot} {c : Addr} {r : List Addr} (e : ρ.lookup y = some sl) (q : fp y = c :: r) : c ≠ b := fun z => by
  obtain ⟨v, _, rd⟩ := x.var y sl e
  obtain ⟨o, ho⟩ := rd.here c (by rw [q]; exact .head _)
  rw [z, hb] at ho; cases ho

theorem Fo.new (x : Sat a ρ m fp g h) {b : Addr} (hb : h.get? b = none) {as : List Addr} {h0 : Heap} {F : List Addr} (k : Ext F h0 h) {f : Nat} (hf : 1 ≤ f) (q : Fo a ρ fp h0 f as) : Fo a ρ fp h0 f (b :: as) where
  ok := fun c hc => by
    rcases List.mem_cons.mp hc with rfl | hc
    · exact x.newFine hb
    · exact q.ok c hc
  tl := fun y sl c r e o z hc => q.cl y sl c r e o z hf hc
  cl := fun y sl c r e o z _ hc => by
    rcases List.mem_cons.mp hc with rfl | hc
    · exact x.newClean hb e z rfl
    · exact q.cl y sl c r e o z hf hc
  fr := fun k2 c hc => by
    rcases List.mem_cons.mp hc with rfl | hc
    · exact k.none hb
    · exact q.fr k2 c hc
end

structure Res (a : Act) (ρ : Ro) (m : Str → Option Value) (fp : Str → List Addr) (g h0 : Heap) (v : Value) (d : PyData) (f : Nat) (as : List Addr) (h : Heap) : Prop where
  sat : Sat a ρ m fp g h
  ext : Ext a.F h0 h
  rd : Rd a.D.prog a.D.w h v d as
  fo : Fo a ρ fp h0 f as

/-- running t gives a datum (and how new it is) of which P holds; no kept thing is changed -/
def Run (a : Act) (E : Value → Shared → Prop) (ρ : Ro) (t : Sem Value) (P : PyData → Nat → Prop) : Prop :=
  ∀ m fp g (s : Shared) (Q : Value → Shared → Prop), Sat a ρ m fp g s.heap →
    (∀ v d f as h tk, Res a ρ m fp g s.heap v d f as h → P d f → Q v { s with heap := h, toks := tk }) → wpAny a.M a.A t Q E s
abbrev Ev (a : Act) (E : Value → Shared → Prop) (ρ : Ro) (e : Expr) (P : PyData → Nat → Prop) : Prop := Run a E ρ (eval e a.env) P

/-- a truth -/
def RunB (a : Act) (E : Value → Shared → Prop) (ρ : Ro) (t : Sem Bool) (P : Bool → Prop) : Prop :=
  ∀ m fp g (s : Shared) (Q : Bool → Shared → Prop), Sat a ρ m fp g s.heap →
    (∀ b h tk, Sat a ρ m fp g h → Ext a.F s.heap h → P b → Q b { s with heap := h, toks := tk }) → wpAny a.M a.A t Q E s
abbrev EvT (a : Act) (E : Value → Shared → Prop) (ρ : Ro) (e : Expr) (P : Bool → Prop) : Prop := RunB a E ρ (isTrue e a.env (eval e a.env)) P

/-- several values -/
structure ResL (a : Act) (ρ : Ro) (m : Str → Option Value) (fp : Str → List Addr) (g h0 : Heap) (vs : List Value) (ds : List PyData) (f : Nat) (as : List Addr) (h : Heap) : Prop where
  sat : Sat a ρ m fp g h
  ext : Ext a.F h0 h
  rd : RdAll a.D.prog a.D.w h vs ds as
  ok : ∀ b ∈ as, b ≠ a.L ∧ b ∉ a.F ∧ a.fine b
  fo : 1 ≤ f → Fo a ρ fp h0 f as
def RunL (a : Act) (E : Value → Shared → Prop) (ρ : Ro) (t : Sem (List Value)) (P : List PyData → Nat → Prop) : Prop :=
  ∀ m fp g (s : Shared) (Q : List Value → Shared → Prop), Sat a ρ m fp g s.heap →
    (∀ vs ds f as h tk, ResL a ρ m fp g s.heap vs ds f as h → P ds f → Q vs { s with heap := h, toks := tk }) → wpAny a.M a.A t Q E s
abbrev EvL (a : Act) (E : Value → Shared → Prop) (ρ : Ro) (es : List Expr) (pos : Pos) (P : List PyData → Nat → Prop) : Prop := RunL a E ρ (spliced (backTo pos (starEach es a.env))) P

section
variable {a : Act} {E : Value → Shared → Prop} {ρ : Ro} {P : PyData → Nat → Prop}

theorem Run.mono {t : Sem Value} {P' : PyData → Nat → Prop} (x : Run a E ρ t P) (h : ∀ d f, P d f → P' d f) : Run a E ρ t P' :=
  fun m fp g s Q hs k => x m fp g s Q hs fun v d f as h' tk r p => k v d f as h' tk r (h d f p)
theorem RunB.mono {t : Sem Bool} {P P' : Bool → Prop} (x : RunB a E ρ t P) (h : ∀ b, P b → P' b) : RunB a E ρ t P' :=
  fun m fp g s Q hs k => x m fp g s Q hs fun b h' tk r e p => k b h' tk r e (h b p)

/-- the value itself, nothing run -/
theorem Res.val {m : Str → Option Value} {fp : Str → List Addr} {g h : Heap} {v : Value} {d : PyData} (x : Sat a ρ m fp g h) (r : Rd a.D.prog a.D.w h v d []) (f : Nat := 2) : Res a ρ m fp g h v d f [] h :=
  ⟨x, Ext.refl _ _, r, Fo.nil f⟩

theorem Ev.str {x : Str} {k : Nat} {pos : Pos} (h : P (.str x) 2) : Ev a E ρ (.Constant (.str x) k pos) P :=
  fun _ _ _ _ _ hs K => wpAny_Constant_str (K _ _ _ _ _ _ (Res.val hs (.str _ _)) h)
theorem Ev.int {i : Int} {k : Nat} {pos : Pos} (h : P (.int i) 2) : Ev a E ρ (.Constant (.int i) k pos) P :=
  fun _ _ _ _ _ hs K => wpAny_Constant_int (K _ _ _ _ _ _ (Res.val hs (.int _ _)) h)
theorem Ev.bool {b : Bool} {k : Nat} {pos : Pos} (h : P (.bool b) 2) : Ev a E ρ (.Constant (.bool b) k pos) P :=
  fun _ _ _ s _ hs K => wpAny_Constant_bool (K _ _ _ _ _ s.toks (Res.val hs (.bool _)) h)

/-- a name of the frame -/
theorem Ev.name (O : a.Ok) {x : Str} {pos : Pos} {d : PyData} {o : Bool} (hx : ρ.lookup x = some ⟨d, o⟩) (h : P d (if o then 0 else 1))
    (hl : a.env.kindOf x = some .local := by rfl) (hd : (x == ("__debug__" : Str)) = false := by decide) : Ev a E ρ (.Name x pos) P := by
  intro m fp g s Q hs K
  obtain ⟨v, hv, r⟩ := hs.var x _ hx
  refine wpAny_Name (wpAny_loadName_local O.kind hl hs.ns hv (K v d _ (fp x) s.heap s.toks ⟨hs, Ext.refl _ _, r, ?_⟩ h)) hd
  refine ⟨hs.fpok x _ hx, fun y sl b q e o' z hb => ?_, fun y sl b q e o' z k hb => ?_, fun k => ?_⟩
  · by_cases hy : x = y
    · subst hy
      obtain ⟨b', r', e1, _, _, _, _, e2, _⟩ := hs.own x sl e o'
      rw [z] at e1; cases e1
      rw [z] at hb; exact e2 hb
    · obtain ⟨b', r', e1, _, _, _, _, _, e2⟩ := hs.own y sl e o'
      rw [z] at e1; cases e1
      exact e2 x _ hy hx (List.mem_of_mem_tail hb)
  · by_cases hy : x = y
    · subst hy
      rw [hx] at e; cases e
      simp only at o'; subst o'
      simp at k
    · obtain ⟨b', r', e1, _, _, _, _, _, e2⟩ := hs.own y sl e o'
      rw [z] at e1; cases e1
      exact e2 x _ hy hx hb
  · exfalso; cases o <;> simp at k

/-- one after the other, the first value still readable -/
theorem Res.later (O : a.Ok) {m : Str → Option Value} {fp : Str → List Addr} {g h0 h1 h2 : Heap} {v : Value} {d : PyData} {f : Nat} {as : List Addr} (r : Res a ρ m fp g h0 v d f as h1) (k : Ext a.F h1 h2) : Res a ρ m fp g h0 v d f as h2 :=
  ⟨r.sat.ext O k, r.ext.trans k, r.rd.ext k r.sat.ff fun b hb => (r.fo.ok b hb).2.1, r.fo⟩
theorem Res.from {m : Str → Option Value} {fp : Str → List Addr} {g h0 h1 h2 : Heap} {v : Value} {d : PyData} {f : Nat} {as : List Addr} (r : Res a ρ m fp g h1 v d f as h2) (k : Ext a.F h0 h1) : Res a ρ m fp g h0 v d f as h2 :=
  ⟨r.sat, k.trans r.ext, r.rd, r.fo.earlier k⟩

theorem EvL.nil {pos : Pos} {P : List PyData → Nat → Prop} (h : P [] 2) : EvL a E ρ [] pos P :=
  fun _ _ _ s _ hs K => wpAny_items_nil (K _ _ _ [] _ s.toks ⟨hs, Ext.refl _ _, .nil, (fun _ hb => nomatch hb), fun _ => Fo.nil _⟩ h)
theorem EvL.cons (O : a.Ok) {e : Expr} {rest : List Expr} {pos : Pos} {P : List PyData → Nat → Prop}
    (h : Ev a E ρ e fun d f => EvL a E ρ rest pos fun ds f' => P (d :: ds) (min f f'))
    (he : starEach (e :: rest) a.env = (false, eval e a.env) :: starEach rest a.env := by rfl) : EvL a E ρ (e :: rest) pos P := by
  intro m fp g s Q hs K
  refine wpAny_items_cons (h m fp g s _ hs fun v d f as h1 tk r p => ?_) he
  refine p m fp g _ _ r.sat fun vs ds f' bs h2 tk2 r2 p2 => ?_
  have r' := r.later O r2.ext
  refine K _ _ _ _ _ _ ⟨r2.sat, r'.ext, .cons r'.rd r2.rd, fun b hb => (List.mem_append.mp hb).elim (r'.fo.ok b) (r2.ok b), fun k => ?_⟩ p2
  have k1 : 1 ≤ f := Nat.le_trans k (Nat.min_le_left _ _)
  have k2 : 1 ≤ f' := Nat.le_trans k (Nat.min_le_right _ _)
  have F2 := (r2.fo k2).earlier r.ext
  refine ⟨fun b hb => (List.mem_append.mp hb).elim (r'.fo.ok b) (r2.ok b), fun y sl b q e o z hb => ?_, fun y sl b q e o z _ hb => ?_, fun k b hb => ?_⟩
  · exact (List.mem_append.mp (List.mem_of_mem_tail hb)).elim (r'.fo.cl y sl b q e o z k1) (F2.cl y sl b q e o z k2)
  · exact (List.mem_append.mp hb).elim (r'.fo.cl y sl b q e o z k1) (F2.cl y sl b q e o z k2)
  · exact (List.mem_append.mp hb).elim (r'.fo.fr (Nat.le_trans k (Nat.min_le_left _ _)) b) (F2.fr (Nat.le_trans k (Nat.min_le_right _ _)) b)

theorem get_push_self (h : Heap) (o : Obj) (ho : o.isFreed = false := by rfl) : (h.push o).get? h.objs.size = some o := Heap.get?_push_size h ho
theorem get_size_none (h : Heap) : h.get? h.objs.size = none := by
  cases q : h.get? h.objs.size with
  | none => rfl
  | some o => exact absurd (Heap.lt_size q) (Nat.lt_irrefl _)

theorem Ev.tuple (O : a.Ok) {elts : List Expr} {k : Nat} {pos : Pos} (h : EvL a E ρ elts pos fun ds f => 1 ≤ f ∧ ds.length ≤ sizeLine ∧ P (.tuple ds) f) : Ev a E ρ (.Tuple elts k pos) P := by
  intro m fp g s Q hs K
  refine wpAny_Tuple (h m fp g s _ hs fun vs ds f as h1 tk r p => ?_)
  obtain ⟨hf, hl, p⟩ := p
  have kp : Kp h1 (h1.push (tupO vs 0)) := Kp.push _ _
  refine ⟨by rw [r.rd.length]; exact hl, K _ _ _ as _ _ ⟨r.sat.ext O kp.ext, r.ext.trans kp.ext, .tuple (get_push_self _ _) (r.rd.kp kp), r.fo hf⟩ p⟩
theorem Ev.list (O : a.Ok) {elts : List Expr} {pos : Pos} (h : EvL a E ρ elts pos fun ds f => 1 ≤ f ∧ ds.length ≤ sizeLine ∧ P (.list ds) f) : Ev a E ρ (.List elts pos) P := by
  intro m fp g s Q hs K
  refine wpAny_List (h m fp g s _ hs fun vs ds f as h1 tk r p => ?_)
  obtain ⟨hf, hl, p⟩ := p
  have kp : Kp h1 (h1.push (listO vs 0)) := Kp.push _ _
  exact ⟨by rw [r.rd.length]; exact hl, K _ _ _ _ _ _ ⟨r.sat.ext O kp.ext, r.ext.trans kp.ext, .list (get_push_self _ _) (r.rd.kp kp), Fo.new r.sat (get_size_none h1) r.ext hf (r.fo hf)⟩ p⟩
theorem Ev.ifExp {test body orelse : Expr} {pos : Pos} (h : EvT a E ρ test fun b => if b then Ev a E ρ body P else Ev a E ρ orelse P) : Ev a E ρ (.IfExp test body orelse pos) P := by
  intro m fp g s Q hs K
  refine wpAny_IfExp (h m fp g s _ hs fun b h1 tk r e p => ?_)
  cases b
  · exact p m fp g _ _ r fun v d f as h2 tk2 r2 p2 => K v d f as h2 tk2 (r2.from e) p2
  · exact p m fp g _ _ r fun v d f as h2 tk2 r2 p2 => K v d f as h2 tk2 (r2.from e) p2
end
end Mine
end

section
open PySem PySem.W PySem.Calls PyProof.Rows
set_option maxRecDepth 100000
set_option autoImplicit false
set_option linter.unusedVariables false
namespace Mine

/-! texts as lists of numbers -/
abbrev T (l : List Nat) : Str := ⟨l.toArray⟩
theorem T_eta (x : Str) : x = T x.cps.toList := by cases x; simp
theorem T_append (l m : List Nat) : T l ++ T m = T (l ++ m) := by
  show Str.mk (l.toArray ++ m.toArray) = Str.mk (l ++ m).toArray
  simp
theorem T_length (l : List Nat) : (T l).length = l.length := by simp [Str.length]
theorem T_inj {l m : List Nat} : T l = T m ↔ l = m := by
  constructor
  · intro h
    have h := congrArg (fun x => x.cps.toList) h
    simpa using h
  · rintro rfl; rfl

/-! slices -/
def clampI (i : Option Int) (dflt n : Nat) : Nat := match i with
  | none => dflt
  | some i => (max 0 (min (if i < 0 then i + n else i) (n : Int))).toNat
def pySl {α : Type} (xs : List α) (lo hi : Option Int) : List α := (xs.drop (clampI lo 0 xs.length)).take (clampI hi xs.length xs.length - clampI lo 0 xs.length)

theorem clampI_le (i : Option Int) (d n : Nat) (h : d ≤ n) : clampI i d n ≤ n := by
  cases i with
  | none => exact h
  | some i => simp only [clampI]; omega
theorem bounds_clamp (lo hi : Option Int) (n : Nat) : sliceBounds lo hi none n = ((clampI lo 0 n : Int), (clampI hi n n : Int), 1) := by
  simp only [sliceBounds, Option.getD_none, show (1 : Int) > 0 by decide, if_true]
  have e : ∀ v : Int, max 0 (min (if v < 0 then v + (n : Int) else v) (n : Int)) = ((max 0 (min (if v < 0 then v + (n : Int) else v) (n : Int))).toNat : Int) := fun v => by omega
  cases lo <;> cases hi <;> simp only [clampI] <;> (try rw [← e]) <;> (try rw [← e]) <;> rfl
theorem slicePick_py (items : Array Value) (lo hi : Option Int) : slicePick items lo hi none = (pySl items.toList lo hi).toArray := by
  unfold slicePick
  rw [bounds_clamp]
  simp only [sliceRange_one, pick_run, pySl, Array.length_toList]
theorem strSlice_clamp (lo hi : Option Int) (n : Nat) : Builtin.Str.strSliceIndices lo hi 1 n = (List.range (clampI hi n n - clampI lo 0 n)).map (clampI lo 0 n + ·) := by
  rw [← sliceRange_one]
  unfold Builtin.Str.strSliceIndices
  simp only [show (1 : Int) > 0 by decide, if_true]
  have e : ∀ v : Int, max 0 (min (if v < 0 then v + (n : Int) else v) (n : Int)) = ((max 0 (min (if v < 0 then v + (n : Int) else v) (n : Int))).toNat : Int) := fun v => by omega
  cases lo <;> cases hi <;> simp only [clampI] <;> (try rw [← e]) <;> (try rw [← e]) <;> rfl
theorem slice_T (l : List Nat) (lo hi : Option Int) : Txt.slice (T l) lo hi = T (pySl l lo hi) := by
  unfold Txt.slice
  rw [T_length, strSlice_clamp]
  have e : List.filterMap ((T l).cps[·]?) ((List.range (clampI hi l.length l.length - clampI lo 0 l.length)).map (clampI lo 0 l.length + ·)) = pySl l lo hi := by
    rw [pick_run]; simp [pySl]
  split
  · rename_i h
    simp only [List.length_map, List.length_range, Bool.and_eq_true, beq_iff_eq] at h
    have h1 := clampI_le lo 0 l.length (Nat.zero_le _)
    have h2 := clampI_le hi l.length l.length (Nat.le_refl _)
    have h3 : clampI lo 0 l.length = 0 := by omega
    have h4 : clampI hi l.length l.length = l.length := by omega
    simp [pySl, h3, h4]
  · rw [e]
theorem pySl_length {α : Type} (xs : List α) (lo hi : Option Int) : (pySl xs lo hi).length ≤ xs.length := by
  unfold pySl; rw [List.length_take, List.length_drop]; omega

/-! operators -/
def BinOk (op : Operator) (d1 d2 : PyData) (P : PyData → Nat → Prop) : Prop :=
  match op, d1, d2 with
  | .Add, .str x, .str y => x.length + y.length ≤ sizeLine ∧ P (.str (x ++ y)) 2
  | .Add, .int i, .int j => P (.int (i + j)) 2
  | .Add, .list xs, .list ys => xs.length + ys.length ≤ sizeLine ∧ P (.list (xs ++ ys)) 1
  | .Sub, .int i, .int j => P (.int (i - j)) 2
  | .Mult, .int i, .int j => IntMulOk i j ∧ P (.int (i * j)) 2
  | .Mod, .int i, .int j => j ≠ 0 ∧ P (.int (i.fmod j)) 2
  | .FloorDiv, .int i, .int j => j ≠ 0 ∧ P (.int (i.fdiv j)) 2
  | .Mult, .list xs, .int j => atoms xs = true ∧ xs ≠ [] ∧ 0 ≤ j ∧ j < 1000 ∧ xs.length ≤ 1000 ∧ P (.list (List.replicate j.toNat xs).flatten) 2
  | _, _, _ => False

section
variable {a : Act} {E : Value → Shared → Prop} {ρ : Ro} {P : PyData → Nat → Prop}

theorem Fo.append {fp : Str → List Addr} {h0 : Heap} {f : Nat} {as bs : List Addr} (x : Fo a ρ fp h0 f as) (y : Fo a ρ fp h0 f bs) (hf : 1 ≤ f) : Fo a ρ fp h0 f (as ++ bs) :=
  ⟨fun b hb => (List.mem_append.mp hb).elim (x.ok b) (y.ok b), fun z sl b r e o q hb => (List.mem_append.mp (List.mem_of_mem_tail hb)).elim (x.cl z sl b r e o q hf) (y.cl z sl b r e o q hf),
    fun z sl b r e o q _ hb => (List.mem_append.mp hb).elim (x.cl z sl b r e o q hf) (y.cl z sl b r e o q hf), fun k b hb => (List.mem_append.mp hb).elim (x.fr k b) (y.fr k b)⟩

/-- a value made without a place, nothing else changed -/
theorem Res.made {m : Str → Option Value} {fp : Str → List Addr} {g h0 h1 : Heap} {v : Value} {d : PyData} {f : Nat} {as : List Addr} {v' : Value} {d' : PyData} (r : Res a ρ m fp g h0 v d f as h1)
    (q : Rd a.D.prog a.D.w h1 v' d' []) : Res a ρ m fp g h0 v' d' 2 [] h1 := ⟨r.sat, r.ext, q, Fo.nil _⟩

/-- a new list of such items on the heap -/
theorem Res.newList (O : a.Ok) {m : Str → Option Value} {fp : Str → List Addr} {g h0 h1 : Heap} (hs : Sat a ρ m fp g h1) (k : Ext a.F h0 h1) {vs : List Value} {ds : List PyData} {as : List Addr} {f : Nat}
    (q : RdAll a.D.prog a.D.w h1 vs ds as) (fo : Fo a ρ fp h0 f as) (hf : 1 ≤ f) (n : Nat := 0) : Res a ρ m fp g h0 (.ref h1.objs.size) (.list ds) f (h1.objs.size :: as) (h1.push (listO vs n)) := by
  have kp : Kp h1 (h1.push (listO vs n)) := Kp.push _ _
  exact ⟨hs.ext O kp.ext, k.trans kp.ext, .list (get_push_self _ _) (q.kp kp), Fo.new hs (get_size_none h1) k hf fo⟩

theorem mul_flat (vs : List Value) (j : Nat) (hne : vs ≠ []) : List.foldl (fun x1 x2 => x1 ++ x2) #[] (List.replicate (if vs.toArray.isEmpty = true then 0 else j) vs.toArray) = (List.replicate j vs).flatten.toArray := by
  have : vs.toArray.isEmpty = false := by cases vs <;> simp_all
  rw [this]
  simp only [Bool.false_eq_true, if_false]
  have key : ∀ (k : Nat) (acc : List Value), List.foldl (fun x1 x2 => x1 ++ x2) acc.toArray (List.replicate k vs.toArray) = (acc ++ (List.replicate k vs).flatten).toArray := by
    intro k
    induction k with
    | zero => intro acc; simp
    | succ k ih => intro acc; simp only [List.replicate_succ, List.foldl_cons, List.flatten_cons]; rw [show acc.toArray ++ vs.toArray = (acc ++ vs).toArray by simp, ih]; simp
  have := key j []
  simpa using this
theorem RdAll.rep {prog : Program} {w : World} {h : Heap} {vs : List Value} {ds : List PyData} (r : RdAll prog w h vs ds []) : ∀ j : Nat, RdAll prog w h (List.replicate j vs).flatten (List.replicate j ds).flatten []
  | 0 => by simpa using RdAll.nil
  | j + 1 => by simpa [List.replicate_succ] using r.append (RdAll.rep r j)

theorem Ev.binop (O : a.Ok) {l r : Expr} {op : Operator} {pos : Pos} (h : Ev a E ρ l fun d1 _ => Ev a E ρ r fun d2 _ => BinOk op d1 d2 P) : Ev a E ρ (.BinOp l op r pos) P := by
  intro m fp g s Q hs K
  refine wpAny_BinOp (h m fp g s _ hs fun v1 d1 f1 as1 h1 tk1 r1 p0 => ?_)
  refine p0 m fp g _ _ r1.sat fun v2 d2 f2 as2 h2 tk2 r2 p => ?_
  have r1' := r1.later O r2.ext
  have r2' := r2.from r1.ext
  replace p : BinOk op d1 d2 P := p
  unfold BinOk at p
  split at p
  · rename_i x y
    obtain ⟨⟨t, rfl⟩, rfl⟩ := r1'.rd.str_inv
    obtain ⟨⟨u, rfl⟩, rfl⟩ := r2'.rd.str_inv
    exact SB.add (fun t' k => K _ _ _ _ h2 k (r2'.made (.str _ _)) p.2) p.1
  · rename_i i j
    obtain ⟨⟨t, rfl⟩, rfl⟩ := r1'.rd.int_inv
    obtain ⟨⟨u, rfl⟩, rfl⟩ := r2'.rd.int_inv
    exact wpAny_add_int (K _ _ _ _ h2 _ (r2'.made (.int _ _)) p)
  · rename_i xs ys
    obtain ⟨b1, vs1, n1, bs1, rfl, rfl, e1, q1⟩ := r1'.rd.list_inv
    obtain ⟨b2, vs2, n2, bs2, rfl, rfl, e2, q2⟩ := r2'.rd.list_inv
    refine PySem.P.add_list (n := n1) (n2 := n2) e1 e2 ?_ (by simpa [q1.length, q2.length] using p.1)
    have fo : Fo a ρ fp s.heap 1 (bs1 ++ bs2) := (r1'.fo.tail fun _ x => x).append (r2'.fo.tail fun _ x => x) (Nat.le_refl _)
    have := Res.newList O r2.sat r2'.ext (q1.append q2) fo (Nat.le_refl _)
    exact K _ _ _ _ _ _ (by simpa [listO] using this) p.2
  · rename_i i j
    obtain ⟨⟨t, rfl⟩, rfl⟩ := r1'.rd.int_inv
    obtain ⟨⟨u, rfl⟩, rfl⟩ := r2'.rd.int_inv
    exact PySem.P.sub_int (K _ _ _ _ h2 _ (r2'.made (.int _ _)) p)
  · rename_i i j
    obtain ⟨⟨t, rfl⟩, rfl⟩ := r1'.rd.int_inv
    obtain ⟨⟨u, rfl⟩, rfl⟩ := r2'.rd.int_inv
    exact PySem.P.mul_int (K _ _ _ _ h2 _ (r2'.made (.int _ _)) p.2) p.1
  · rename_i i j
    obtain ⟨⟨t, rfl⟩, rfl⟩ := r1'.rd.int_inv
    obtain ⟨⟨u, rfl⟩, rfl⟩ := r2'.rd.int_inv
    exact PyProof.Rows.mod_int' p.1 (K _ _ _ _ h2 _ (r2'.made (.int _ _)) p.2)
  · rename_i i j
    obtain ⟨⟨t, rfl⟩, rfl⟩ := r1'.rd.int_inv
    obtain ⟨⟨u, rfl⟩, rfl⟩ := r2'.rd.int_inv
    refine PyProof.Rows.floordiv_int p.1 (K _ _ _ _ h2 _ (r2'.made (.int _ _)) p.2) (Or.inr (PylongRoom.of (O.D.lim.keeps r2.sat.top) ?_ (O.seer _ r2.sat.top)))
    have := O.depth
    show a.A.depth + 100 < 1000
    omega
  · rename_i xs j
    obtain ⟨b1, vs1, n1, bs1, rfl, rfl, e1, q1⟩ := r1'.rd.list_inv
    obtain ⟨⟨u, rfl⟩, rfl⟩ := r2'.rd.int_inv
    obtain ⟨pa, pn, p0, p1, pl, p⟩ := p
    have hne : vs1 ≠ [] := fun q => pn (by have := q1.length; rw [q] at this; exact List.eq_nil_of_length_eq_zero this.symm)
    obtain rfl := RdAll.atoms q1 pa
    have hlen : vs1.length * j.toNat ≤ 1000 * 1000 := Nat.mul_le_mul (by rw [q1.length]; exact pl) (by omega)
    refine wpAny_binaryOp_repeat_ref (T := "list") (U := "int") (by decide) ⟨_, e1, rfl⟩ (fun s' => typeIs_int s' j u) noFill_list_mul F.fills_int_mul F.slot_int_rmul repeat_list F.slot_int_index.lookup
      (call_meets F.slot_int_rmul (typeIs_int _ j u) F.entry_int_rmul (F.args_int_rmul_2 _ _) (int___rmul___int_list j u b1 vs1.toArray n1)
        ⟨e1, rfl, ⟨_, e1, rfl⟩, call_meets F.slot_list_mul ⟨_, e1, rfl⟩ F.entry_list_mul (F.args_list_mul_2 _ _)
          (AutoListH.list___mul___list_int_3 b1 vs1.toArray n1 j u (by simp [Builtin.List.listFitsIndex]; omega) (by simp only [List.size_toArray]; omega) (by simp [Builtin.List.listTooLong, sizeLine]; omega))
          ⟨e1, ?_⟩⟩)
    rw [mul_flat vs1 j.toNat hne]
    have := Res.newList O r2.sat r2'.ext (q1.rep j.toNat) (Fo.nil 2) (by decide)
    exact K _ _ _ _ _ _ (by simpa [listO] using this) p
  · exact p.elim
end
end Mine
end

section
open PySem PySem.W PySem.Calls PyProof.Rows
set_option maxRecDepth 100000
set_option autoImplicit false
set_option linter.unusedVariables false
namespace Mine

/-! comparisons -/
def EqOk (d1 d2 : PyData) (P : Bool → Prop) : Prop :=
  match d1, d2 with
  | .str x, .str y => P (x == y)
  | .int x, .int y => P (x == y)
  | d1, d2 => SeqAt.shaped d1 = true ∧ SeqAt.shaped d2 = true ∧ P (PyData.eqv d1 d2)
def CmpOk (op : CmpOp) (d1 d2 : PyData) (P : Bool → Prop) : Prop :=
  match op, d1, d2 with
  | .Eq, d1, d2 => EqOk d1 d2 P
  | .NotEq, d1, d2 => EqOk d1 d2 fun b => P !b
  | .In, .str y, .str x => P (Txt.contains x y)
  | .NotIn, .str y, .str x => P (!Txt.contains x y)
  | .Lt, .int i, .int j => P (decide (i < j))
  | .Gt, .int i, .int j => P (decide (j < i))
  | _, _, _ => False

section
variable {a : Act} {E : Value → Shared → Prop} {ρ : Ro}

theorem str_beq (x y : Str) : (x.cps.toList == y.cps.toList) = (x == y) := by
  by_cases h : x = y
  · subst h; simp
  · have h2 : x.cps.toList ≠ y.cps.toList := fun e => h (by rw [T_eta x, T_eta y, e])
    rw [beq_eq_false_iff_ne.mpr h, beq_eq_false_iff_ne.mpr h2]

theorem cmp_val (O : a.Ok) {op : CmpOp} {v1 v2 : Value} {d1 d2 : PyData} {as1 as2 : List Addr} {s : Shared} {P : Bool → Prop} {Q : Value → Shared → Prop}
    (r1 : Rd a.D.prog a.D.w s.heap v1 d1 as1) (r2 : Rd a.D.prog a.D.w s.heap v2 d2 as2) (h : CmpOk op d1 d2 P) (K : ∀ b h tk, Kp s.heap h → P b → Q (.bool b) { s with heap := h, toks := tk }) :
    wpAny a.M a.A (compareOp op v1 v2) Q E s := by
  have hu : a.A.units + 64 < cLine := by have := O.units; show a.A.units + 64 < 9900; omega
  have k0 : ∀ b, P b → Q (.bool b) s := fun b p => K b s.heap s.toks (Kp.refl _) p
  unfold CmpOk at h
  split at h
  · unfold EqOk at h
    split at h
    · obtain ⟨⟨t, rfl⟩, rfl⟩ := r1.str_inv
      obtain ⟨⟨u, rfl⟩, rfl⟩ := r2.str_inv
      exact PySem.P.eq_str (k0 _ (by rw [str_beq]; exact h))
    · obtain ⟨⟨t, rfl⟩, rfl⟩ := r1.int_inv
      obtain ⟨⟨u, rfl⟩, rfl⟩ := r2.int_inv
      exact PyProof.Rows.eq_int (k0 _ h)
    · obtain ⟨bs1, q1⟩ := r1.reads
      obtain ⟨bs2, q2⟩ := r2.reads
      exact SeqAt.compareEq_shaped q1 q2 h.1 h.2.1 hu (k0 _ h.2.2)
  · unfold EqOk at h
    split at h
    · obtain ⟨⟨t, rfl⟩, rfl⟩ := r1.str_inv
      obtain ⟨⟨u, rfl⟩, rfl⟩ := r2.str_inv
      exact PySem.P.ne_str (k0 _ (by unfold bne; rw [str_beq]; exact h))
    · obtain ⟨⟨t, rfl⟩, rfl⟩ := r1.int_inv
      obtain ⟨⟨u, rfl⟩, rfl⟩ := r2.int_inv
      exact PyProof.Rows.ne_int (k0 _ h)
    · obtain ⟨bs1, q1⟩ := r1.reads
      obtain ⟨bs2, q2⟩ := r2.reads
      exact SeqAt.compareNe_shaped q1 q2 h.1 h.2.1 hu (k0 _ h.2.2)
  · obtain ⟨⟨t, rfl⟩, rfl⟩ := r1.str_inv
    obtain ⟨⟨u, rfl⟩, rfl⟩ := r2.str_inv
    exact SB.contains (k0 _ h)
  · obtain ⟨⟨t, rfl⟩, rfl⟩ := r1.str_inv
    obtain ⟨⟨u, rfl⟩, rfl⟩ := r2.str_inv
    exact SB.notContains (k0 _ h)
  · obtain ⟨⟨t, rfl⟩, rfl⟩ := r1.int_inv
    obtain ⟨⟨u, rfl⟩, rfl⟩ := r2.int_inv
    exact PyProof.Rows.lt_int (k0 _ h)
  · obtain ⟨⟨t, rfl⟩, rfl⟩ := r1.int_inv
    obtain ⟨⟨u, rfl⟩, rfl⟩ := r2.int_inv
    exact PyProof.Rows.gt_int (k0 _ h)
  · exact h.elim

theorem Ev.cmp (O : a.Ok) {l r : Expr} {op : CmpOp} {pos : Pos} {P : PyData → Nat → Prop} (h : Ev a E ρ l fun d1 _ => Ev a E ρ r fun d2 _ => CmpOk op d1 d2 fun b => P (.bool b) 2)
    (hm : behindInMarks op r = false := by with_unfolding_all rfl) : Ev a E ρ (.Compare l [op] [r] pos) P := by
  intro m fp g s Q hs K
  refine wpAny_Compare1 (h m fp g s _ hs fun v1 d1 f1 as1 h1 tk1 r1 p => ?_) hm
  refine p m fp g _ _ r1.sat fun v2 d2 f2 as2 h2 tk2 r2 p => ?_
  have r1' := r1.later O r2.ext
  have r2' := r2.from r1.ext
  exact cmp_val O r1'.rd r2'.rd p fun b h3 tk3 kp p => K _ _ _ _ _ _ ((r2'.later O kp.ext).made (.bool b)) p
theorem EvT.cmp (O : a.Ok) {l r : Expr} {op : CmpOp} {pos : Pos} {P : Bool → Prop} (h : Ev a E ρ l fun d1 _ => Ev a E ρ r fun d2 _ => CmpOk op d1 d2 P)
    (hm : behindInMarks op r = false := by with_unfolding_all rfl) : EvT a E ρ (.Compare l [op] [r] pos) P := by
  intro m fp g s Q hs K
  refine wpAny_isTrue_Compare1 (h m fp g s _ hs fun v1 d1 f1 as1 h1 tk1 r1 p => ?_) hm
  refine p m fp g _ _ r1.sat fun v2 d2 f2 as2 h2 tk2 r2 p => ?_
  have r1' := r1.later O r2.ext
  have r2' := r2.from r1.ext
  exact cmp_val O r1'.rd r2'.rd p fun b h3 tk3 kp p => wpAny_truthy_bool (K _ _ _ (r2'.sat.ext O kp.ext) (r2'.ext.trans kp.ext) p)

/-! truth -/
def TruthOk (d : PyData) (P : Bool → Prop) : Prop :=
  match d with
  | .bool b => P b
  | .str x => x.length ≤ sizeLine ∧ P ((x.length : Int) != 0)
  | .int i => P (i != 0)
  | .list xs => xs.length ≤ sizeLine ∧ P (!xs.isEmpty)
  | _ => False

theorem truth_val (O : a.Ok) {v : Value} {d : PyData} {as : List Addr} {s : Shared} {P : Bool → Prop} {Q : Bool → Shared → Prop}
    (r : Rd a.D.prog a.D.w s.heap v d as) (h : TruthOk d P) (K : ∀ b h tk, Kp s.heap h → P b → Q b { s with heap := h, toks := tk }) : wpAny a.M a.A (truthy v) Q E s := by
  cases d <;> simp only [TruthOk] at h
  case bool b => obtain ⟨rfl, rfl⟩ := r.bool_inv; exact wpAny_truthy_bool (K b s.heap s.toks (Kp.refl _) h)
  case int i => obtain ⟨⟨t, rfl⟩, rfl⟩ := r.int_inv; exact PySem.P.truthy_int (K _ s.heap s.toks (Kp.refl _) h)
  case str x =>
    obtain ⟨⟨t, rfl⟩, rfl⟩ := r.str_inv
    exact PySem.P.truthy_str (by have := h.1; rw [sizeLine_eq] at this; omega) (K _ s.heap _ (Kp.refl _) h.2)
  case list xs =>
    obtain ⟨b, vs, n, bs, rfl, rfl, e, q⟩ := r.list_inv
    refine wpAny_truthy_list (items := vs.toArray) ⟨_, e, rfl, n, rfl⟩ (by have := h.1; have := q.length; rw [sizeLine_eq] at *; simp; omega) (K _ s.heap _ (Kp.refl _) ?_)
    have : (!vs.toArray.isEmpty) = !xs.isEmpty := by have := q.length; cases vs <;> cases xs <;> simp_all
    rw [this]; exact h.2

/-- a test that is no comparison, no not, no and|or -/
theorem EvT.val (O : a.Ok) {e : Expr} {P : Bool → Prop} (h : Ev a E ρ e fun d _ => TruthOk d P)
    (he : isTrue e a.env (eval e a.env) = (do let v ← eval e a.env; standAt e.pos; holding [v] (truthy v)) := by rfl) : EvT a E ρ e P := by
  intro m fp g s Q hs K
  refine wpAny_isTrue_value (h m fp g s _ hs fun v d f as h1 tk1 r p => ?_) he
  exact truth_val O r.rd p fun b h2 tk2 kp p => K _ _ _ (r.sat.ext O kp.ext) (r.ext.trans kp.ext) p
theorem EvT.not {x : Expr} {pos : Pos} {P : Bool → Prop} (h : EvT a E ρ x fun b => P !b) : EvT a E ρ (.UnaryOp .Not x pos) P := by
  intro m fp g s Q hs K
  exact wpAny_isTrue_Not (h m fp g s _ hs fun b h1 tk r e p => K _ _ _ r e p)
/-- and|or in a test, item by item -/
def AllT (a : Act) (E : Value → Shared → Prop) (ρ : Ro) (op : BoolOp) : List Expr → (Bool → Prop) → Prop
  | [], P => P (op == .And)
  | x :: rest, P => EvT a E ρ x fun b => if b = (op == .And) then AllT a E ρ op rest P else P b
theorem allT_run : ∀ {op : BoolOp} {l : List Expr} {P : Bool → Prop}, AllT a E ρ op l P → RunB a E ρ (allTrue op l a.env) P
  | op, [], P, h => fun m fp g s Q hs K => by
    have : allTrue op [] a.env = pure (op == .And) := rfl
    rw [this]; exact wpAny_pure (K _ s.heap s.toks hs (Ext.refl _ _) h)
  | .And, x :: rest, P, h => fun m fp g s Q hs K => by
    refine wpAny_allTrue_And_cons (h m fp g s _ hs fun b h1 tk r e p => ?_)
    cases b
    · exact K _ _ _ r e p
    · exact allT_run p m fp g _ _ r fun b h2 tk2 r2 e2 p2 => K _ _ _ r2 (e.trans e2) p2
  | .Or, x :: rest, P, h => fun m fp g s Q hs K => by
    refine wpAny_allTrue_Or_cons (h m fp g s _ hs fun b h1 tk r e p => ?_)
    cases b
    · exact allT_run p m fp g _ _ r fun b h2 tk2 r2 e2 p2 => K _ _ _ r2 (e.trans e2) p2
    · exact K _ _ _ r e p
theorem EvT.bool {op : BoolOp} {l : List Expr} {pos : Pos} {P : Bool → Prop} (h : AllT a E ρ op l P) : EvT a E ρ (.BoolOp op l pos) P := by
  intro m fp g s Q hs K
  exact wpAny_isTrue_BoolOp (allT_run h m fp g s _ hs K)

/-- and|or as a value -/
def AllV (a : Act) (E : Value → Shared → Prop) (ρ : Ro) (op : BoolOp) : List Expr → (PyData → Nat → Prop) → Prop
  | [], _ => False
  | [x], P => Ev a E ρ x P
  | x :: y :: rest, P => Ev a E ρ x fun d f => TruthOk d fun b => if b = (op == .And) then AllV a E ρ op (y :: rest) P else P d f
theorem allV_run (O : a.Ok) {pos : Pos} : ∀ {op : BoolOp} {l : List Expr} {P : PyData → Nat → Prop}, AllV a E ρ op l P → Run a E ρ (boolOp pos op (evalEach l a.env)) P
  | _, [], _, h => h.elim
  | _, [x], _, h => h
  | op, x :: y :: rest, P, h => fun m fp g s Q hs K => by
    show wpAny _ _ (do
      let v ← eval x a.env
      standAt pos
      let t ← holding [v] (truthy v)
      match op, t with
      | .And, false | .Or, true => pure v
      | _, _ => boolOp pos op (evalEach (y :: rest) a.env)) Q E s
    refine wpAny_bind (h m fp g s _ hs fun v d f as h1 tk1 r p => wpAny_bind (wpAny_standAt (wpAny_bind (wpAny_holding (truth_val O r.rd p fun b h2 tk2 kp p => ?_)))))
    have r' := r.later O kp.ext
    cases op <;> cases b
    · exact wpAny_pure (K _ _ _ _ _ _ r' p)
    · exact allV_run O p m fp g _ _ r'.sat fun v d f as h3 tk3 r3 p3 => K _ _ _ _ _ _ (r3.from r'.ext) p3
    · exact allV_run O p m fp g _ _ r'.sat fun v d f as h3 tk3 r3 p3 => K _ _ _ _ _ _ (r3.from r'.ext) p3
    · exact wpAny_pure (K _ _ _ _ _ _ r' p)
theorem Ev.boolOp (O : a.Ok) {op : BoolOp} {l : List Expr} {pos : Pos} {P : PyData → Nat → Prop} (h : AllV a E ρ op l P) : Ev a E ρ (.BoolOp op l pos) P := by
  intro m fp g s Q hs K
  exact allV_run O h m fp g s Q hs K

/-- minus a written number -/
theorem Ev.neg (O : a.Ok) {i : Int} {k : Nat} {p pos : Pos} {P : PyData → Nat → Prop} (h : P (.int (-i)) 2) : Ev a E ρ (.UnaryOp .USub (.Constant (.int i) k p) pos) P := by
  intro m fp g s Q hs K
  refine wpAny_UnaryOp (wpAny_Constant_int ?_)
  exact PySem.P.neg_int (K _ _ _ _ s.heap _ (Res.val hs (.int _ _)) h)
theorem Ev.not (O : a.Ok) {x : Expr} {pos : Pos} {P : PyData → Nat → Prop} (h : Ev a E ρ x fun d _ => TruthOk d fun b => P (.bool !b) 2) : Ev a E ρ (.UnaryOp .Not x pos) P := by
  intro m fp g s Q hs K
  refine wpAny_UnaryOp (h m fp g s _ hs fun v d f as h1 tk r p => not_value (truth_val O r.rd p fun b h2 tk2 kp p => ?_))
  exact K _ _ _ _ _ _ ((r.later O kp.ext).made (.bool _)) p

/-! items -/
def ItemOk (d i : PyData) (P : PyData → Nat → Prop) : Prop :=
  match d, i with
  | .str x, .int i => (Txt.charAt x i).isSome = true ∧ -(2 ^ 62) ≤ i ∧ i < 2 ^ 62 ∧ P (.str (Txt.item x i)) 2
  | .list xs, .int i => -(2 ^ 62) ≤ i ∧ i < 2 ^ 62 ∧ ∃ j d, seqIndex? i xs.length = some j ∧ xs[j]? = some d ∧ P d 1
  | .tuple xs, .int i => -(2 ^ 62) ≤ i ∧ i < 2 ^ 62 ∧ ∃ j d, seqIndex? i xs.length = some j ∧ xs[j]? = some d ∧ P d 1
  | _, _ => False

theorem seqIdx {i : Int} {n j : Nat} (h : seqIndex? i n = some j) : (i < 0 → 0 ≤ i + n ∧ j = (i + n).toNat) ∧ (¬ i < 0 → i < n ∧ j = i.toNat) := by
  unfold seqIndex? at h
  by_cases h0 : i < 0
  · simp only [h0, if_true] at h
    refine ⟨fun _ => ?_, fun q => absurd h0 q⟩
    by_cases hb : (decide (0 ≤ i + (n : Int)) && decide (i + (n : Int) < n)) = true
    · rw [if_pos hb] at h
      simp only [Bool.and_eq_true, decide_eq_true_eq] at hb
      exact ⟨hb.1, (Option.some.inj h).symm⟩
    · rw [if_neg hb] at h; cases h
  · simp only [h0, if_false] at h
    refine ⟨fun q => absurd q h0, fun _ => ?_⟩
    by_cases hb : (decide (0 ≤ i) && decide (i < (n : Int))) = true
    · rw [if_pos hb] at h
      simp only [Bool.and_eq_true, decide_eq_true_eq] at hb
      exact ⟨hb.2, (Option.some.inj h).symm⟩
    · rw [if_neg hb] at h; cases h

theorem item_val (O : a.Ok) {m : Str → Option Value} {fp : Str → List Addr} {g h0 : Heap} {v1 v2 : Value} {d1 d2 : PyData} {f1 : Nat} {as1 as2 : List Addr} {s : Shared} {P : PyData → Nat → Prop} {Q : Value → Shared → Prop}
    (r1 : Res a ρ m fp g h0 v1 d1 f1 as1 s.heap) (hf : f1 = 0 → ∃ xs, d1 = .list xs) (r2 : Rd a.D.prog a.D.w s.heap v2 d2 as2) (h : ItemOk d1 d2 P)
    (K : ∀ v d f as h tk, Res a ρ m fp g h0 v d f as h → P d f → Q v { s with heap := h, toks := tk }) :
    ∃ T id, typeLookup (.type T) "__getitem__" = pure (some (.builtin id)) ∧ s.TypeIs v1 T ∧ wpAny a.M a.A (getItem v1 v2) Q E s := by
  cases d1 <;> cases d2 <;> simp only [ItemOk] at h
  case str.int x i =>
    obtain ⟨⟨t, rfl⟩, rfl⟩ := r1.rd.str_inv
    obtain ⟨⟨u, rfl⟩, rfl⟩ := r2.int_inv
    obtain ⟨h1, h2, h3, p⟩ := h
    exact SB.item (by unfold fitsSsize; simp; omega) h1 (K _ _ _ _ s.heap _ (r1.made (.str _ _)) p)
  case list.int xs i =>
    obtain ⟨b, vs, n, bs, rfl, rfl, e, q⟩ := r1.rd.list_inv
    obtain ⟨⟨u, rfl⟩, rfl⟩ := r2.int_inv
    obtain ⟨h2, h3, j, d, hj, hd, p⟩ := h
    obtain ⟨v, cs, hv, rv, hcs⟩ := q.get hd
    have hl : s.heap.IsList b vs.toArray := ⟨_, e, rfl, n, rfl⟩
    have hlen : vs.toArray.size = xs.length := by simp [q.length]
    refine ⟨"list", _, list_getitem_lookup, hl.typeIs, ?_⟩
    have fin : Q v s := K v d 1 cs s.heap s.toks ⟨r1.sat, r1.ext, rv, r1.fo.tail hcs⟩ p
    have hh := seqIdx hj
    by_cases h0 : i < 0
    · obtain ⟨hb, rfl⟩ := hh.1 h0
      exact wpAny_getItem_list_neg hl h0 (by rw [hlen]; omega) (by omega) (by rw [hlen]; simpa using hv) fin
    · obtain ⟨hb, rfl⟩ := hh.2 h0
      exact wpAny_getItem_list hl (by omega) (by omega) (by simpa using hv) fin
  case tuple.int xs i =>
    obtain ⟨b, vs, n, rfl, e, q⟩ := r1.rd.tuple_inv
    obtain ⟨⟨u, rfl⟩, rfl⟩ := r2.int_inv
    obtain ⟨h2, h3, j, d, hj, hd, p⟩ := h
    obtain ⟨v, cs, hv, rv, hcs⟩ := q.get hd
    have hf1 : 1 ≤ f1 := by
      rcases Nat.eq_zero_or_pos f1 with z | z
      · obtain ⟨ys, hy⟩ := hf z; cases hy
      · exact z
    have fin : Q v s := K v d 1 cs s.heap s.toks ⟨r1.sat, r1.ext, rv, (r1.fo.sub hf1 hcs).le hf1⟩ p
    refine ⟨"tuple", _, slot_tuple_getitem.lookup, ⟨_, e, rfl⟩, ?_⟩
    exact PySem.P.getItem_tuple (n := n) (items := vs.toArray) e (by omega) (by omega) (by simpa [q.length] using hj) (by simpa using hv) fin
end
end Mine
end

section
open PySem PySem.W PySem.Calls PyProof.Rows
set_option maxRecDepth 100000
set_option autoImplicit false
set_option linter.unusedVariables false
namespace Mine

section
variable {a : Act} {E : Value → Shared → Prop} {ρ : Ro} {P : PyData → Nat → Prop}

theorem Ev.item (O : a.Ok) {value slice : Expr} {pos : Pos} (h : Ev a E ρ value fun d1 f1 => (f1 = 0 → ∃ xs, d1 = .list xs) ∧ Ev a E ρ slice fun d2 _ => ItemOk d1 d2 P)
    (hs : ∀ o i, subscripted slice false o i = operate [o, i] (getItem o i) := by intro _ _; rfl) : Ev a E ρ (.Subscript value slice pos) P := by
  intro m fp g s Q hsat K
  refine Subscript_ (h m fp g s _ hsat fun v1 d1 f1 as1 h1 tk1 r1 p => ?_)
  refine p.2 m fp g _ _ r1.sat fun v2 d2 f2 as2 h2 tk2 r2 p2 => ?_
  obtain ⟨T, id, hl, hT, hg⟩ := item_val (s := { s with heap := h2, toks := tk2 }) (Q := Q) O (r1.later O r2.ext) p.1 r2.rd p2 (fun v d f as h tk r q => K v d f as h tk r q)
  unfold subscriptTail
  refine wpAny_bind ?_
  rw [getitemInPython_of_ne hT.not_modules]
  refine wpAny_bind (wpAny_specialOf hT hl ?_)
  refine wpAny_pure (wpAny_bind ?_)
  rw [hs]
  exact wpAny_operating (wpAny_mono hg (fun r s₃ h₃ => wpAny_bind (wpAny_letTemporaryGo (wpAny_pure h₃))) fun _ _ x => x)

def EvO (a : Act) (E : Value → Shared → Prop) (ρ : Ro) (e : Option Expr) (P : Option Int → Prop) : Prop := match e with
  | none => P none
  | some e => Ev a E ρ e fun d _ => ∃ i, d = .int i ∧ P (some i)

def SliceOk (d : PyData) (lo hi : Option Int) (P : PyData → Nat → Prop) : Prop :=
  match d with
  | .str x => x.length ≤ sizeLine ∧ P (.str (T (pySl x.cps.toList lo hi))) 2
  | .list xs => xs.length ≤ sizeLine ∧ P (.list (pySl xs lo hi)) 1
  | _ => False

/-- one end of a slice -/
theorem evO_run (O : a.Ok) {e : Option Expr} {P : Option Int → Prop} (h : EvO a E ρ e P) {m : Str → Option Value} {fp : Str → List Addr} {g : Heap} {s : Shared} {Q : Value → Shared → Prop} (hs : Sat a ρ m fp g s.heap)
    (K : ∀ v i h tk, Sat a ρ m fp g h → Ext a.F s.heap h → IsPart v i → P i → Q v { s with heap := h, toks := tk }) : wpAny a.M a.A (evalPart e a.env) Q E s := by
  cases e with
  | none => exact wpAny_pure (K _ _ s.heap s.toks hs (Ext.refl _ _) .none h)
  | some e =>
    refine h m fp g s _ hs fun v d f as h1 tk r p => ?_
    obtain ⟨i, rfl, p⟩ := p
    obtain ⟨⟨t, rfl⟩, _⟩ := r.rd.int_inv
    exact K _ _ _ _ r.sat r.ext (.int _ _) p

theorem isPart_str {v : Value} {i : Option Int} (h : IsPart v i) : ∃ l : Option (Int × Tok), v = partValue l ∧ l.map (·.1) = i := by
  cases h with
  | none => exact ⟨none, rfl, rfl⟩
  | int i t => exact ⟨some (i, t), rfl, rfl⟩

theorem Ev.slice (O : a.Ok) {value : Expr} {lo hi : Option Expr} {p pos : Pos} (h : Ev a E ρ value fun d _ => EvO a E ρ lo fun i => EvO a E ρ hi fun j => SliceOk d i j P) : Ev a E ρ (.Subscript value (.Slice lo hi none p) pos) P := by
  intro m fp g s Q hs K
  refine Subscript_ (h m fp g s _ hs fun v1 d1 f1 as1 h1 tk1 r1 p => ?_)
  refine wpAny_Slice (evO_run O p r1.sat fun vl i h2 tk2 s2 e2 pl p => ?_)
  refine evO_run O p s2 fun vu j h3 tk3 s3 e3 pu p => ?_
  show wpAny _ _ (evalPart none a.env) _ _ _
  rw [evalPart_none]
  refine wpAny_pure ?_
  have r := (r1.later O e2).later O e3
  have kp : Kp h3 (h3.push { cls := .type "slice", data := .fields #[vl, vu, .none] }) := Kp.push _ _
  have r' := r.later O kp.ext
  have fin : ∃ T id, typeLookup (.type T) "__getitem__" = pure (some (.builtin id)) ∧ ({ s with heap := h3.push { cls := .type "slice", data := .fields #[vl, vu, .none] }, toks := tk3 } : Shared).TypeIs v1 T ∧
      wpAny a.M a.A (getItem v1 (.ref h3.objs.size)) Q E { s with heap := h3.push { cls := .type "slice", data := .fields #[vl, vu, .none] }, toks := tk3 } := by
    cases d1 with
    | none | bool _ | int _ | tuple _ | dict _ => exact (show False from p).elim
    | str x =>
      change x.length ≤ sizeLine ∧ P (.str (T (pySl x.cps.toList i j))) 2 at p
      obtain ⟨⟨t, rfl⟩, rfl⟩ := r'.rd.str_inv
      obtain ⟨l, rfl, rfl⟩ := isPart_str pl
      obtain ⟨u, rfl, rfl⟩ := isPart_str pu
      refine ⟨"str", _, F.slot_str_getitem.lookup, typeIs_str _ _ _, wpAny_getItem_str_slice (l := l) (u := u) (st := none) ⟨_, get_push_self _ _, rfl, rfl⟩ rfl ?_⟩
      refine post_val_or_str ?_
      have e := slice_T x.cps.toList (l.map (·.1)) (u.map (·.1))
      rw [← T_eta x] at e
      show (Txt.slice x (l.map (·.1)) (u.map (·.1))).length ≤ sizeLine ∧ ∀ t' k, Q (.str (Txt.slice x (l.map (·.1)) (u.map (·.1))) t') _
      rw [e]
      refine ⟨?_, fun t' k => K _ _ _ _ _ k (r'.made (.str _ _)) p.2⟩
      rw [T_length]
      exact Nat.le_trans (pySl_length _ _ _) (by simpa [Str.length] using p.1)
    | list xs =>
      change xs.length ≤ sizeLine ∧ P (.list (pySl xs i j)) 1 at p
      obtain ⟨b, vs, n, bs, rfl, rfl, e, q⟩ := r'.rd.list_inv
      have hl : ({ s with heap := h3.push { cls := .type "slice", data := .fields #[vl, vu, .none] }, toks := tk3 } : Shared).heap.IsList b vs.toArray := ⟨_, e, rfl, n, rfl⟩
      refine ⟨"list", _, list_getitem_lookup, hl.typeIs, ?_⟩
      refine wpAny_getItem_list_slice (lo := i) (hi := j) (st := none) hl (Heap.IsSliceOf.new ..) pl pu .none (by simp) ?_ (by simpa [q.length] using p.1)
      rw [slicePick_py]
      obtain ⟨cs, qc, hcs⟩ := q.take_drop (clampI i 0 vs.length) (clampI j vs.length vs.length - clampI i 0 vs.length)
      have fo : Fo a ρ fp s.heap 1 cs := r'.fo.tail hcs
      have := Res.newList O r'.sat r'.ext qc fo (Nat.le_refl _)
      have e2 : pySl xs i j = (xs.drop (clampI i 0 vs.length)).take (clampI j vs.length vs.length - clampI i 0 vs.length) := by unfold pySl; rw [q.length]
      rw [e2] at p
      exact K _ _ _ _ _ _ this p.2
  obtain ⟨T, id, hl, hT, hg⟩ := fin
  unfold subscriptTail
  refine wpAny_bind ?_
  rw [getitemInPython_of_ne hT.not_modules]
  refine wpAny_bind (wpAny_specialOf hT hl ?_)
  refine wpAny_pure (wpAny_bind ?_)
  show wpAny _ _ (operate [_, v1] (getItem v1 _)) _ _ _
  exact wpAny_operating (wpAny_mono hg (fun r s₃ h₃ => wpAny_bind (wpAny_letTemporaryGo (wpAny_pure h₃))) fun _ _ x => x)
end
end Mine
end

section
open PySem PySem.W PySem.Calls PyProof.Rows
set_option maxRecDepth 100000
set_option autoImplicit false
set_option linter.unusedVariables false
namespace Mine

/-! names set -/
def Ro.set : Ro → Str → Slot → Ro
  | [], x, sl => [(x, sl)]
  | (y, s) :: r, x, sl => if y = x then (x, sl) :: r else (y, s) :: Ro.set r x sl
theorem Ro.lookup_cons (y : Str) (s : Slot) (r : Ro) (z : Str) : List.lookup z ((y, s) :: r) = if z = y then some s else List.lookup z r := by
  rw [List.lookup_cons]
  by_cases h : z = y
  · subst h; simp
  · rw [if_neg h, beq_eq_false_iff_ne.mpr h]
theorem Ro.set_lookup : ∀ (ρ : Ro) (x : Str) (sl : Slot) (z : Str), (Ro.set ρ x sl).lookup z = if z = x then some sl else ρ.lookup z
  | [], x, sl, z => by rw [Ro.set, Ro.lookup_cons]
  | (y, s) :: r, x, sl, z => by
    rw [Ro.set]
    by_cases h : y = x
    · subst h
      rw [if_pos rfl, Ro.lookup_cons, Ro.lookup_cons]
      split <;> rfl
    · rw [if_neg h, Ro.lookup_cons, Ro.set_lookup r x sl z, Ro.lookup_cons]
      by_cases hz : z = y
      · subst hz; rw [if_pos rfl, if_neg h, if_pos rfl]
      · rw [if_neg hz, if_neg hz]

/-- no mutable thing is within -/
def flat : PyData → Bool
  | .list xs => atoms xs
  | .dict _ => true
  | _ => false

section
variable {a : Act} {E : Value → Shared → Prop} {ρ : Ro}

theorem Sat.noSeqL {m : Str → Option Value} {fp : Str → List Addr} {g h : Heap} (x : Sat a ρ m fp g h) : NoSeq (· = a.L) h := fun b o hb ho vs n q => by
  obtain ⟨o', _, _, ho', hd, _⟩ := x.ns
  rw [hb, ho'] at ho; cases ho; rw [q] at hd; cases hd
theorem but_of_same {F : List Addr} {b : Addr} {h h' : Heap} (k : Heap.SameBut b h h') : But F (· = b) h h' := fun c o hc ho => by
  have : h'.get? c = some o := (k.2 c hc).trans ho
  exact ⟨fun _ => this, o.slots, this⟩

/-- a value stored under a name of the frame -/
theorem Sat.store (O : a.Ok) {m : Str → Option Value} {fp : Str → List Addr} {g h0 h1 h2 : Heap} {v : Value} {d : PyData} {f : Nat} {as : List Addr} {x : Str}
    (r : Res a ρ m fp g h0 v d f as h1) (hf : 1 ≤ f) (hn : h2.Ns a.L (fun y => if y = x then some v else m y)) (k : Heap.SameBut a.L h1 h2)
    (ow : Bool) (hown : ow = true → isMut d = true ∧ flat d = true ∧ ∀ b ∈ as, g.get? b = none ∧ a.D.H0.get? b = none ∧ ∀ z sl', z ≠ x → ρ.lookup z = some sl' → b ∉ fp z) (hp : a.pinN ≠ some x) :
    Sat a (ρ.set x ⟨d, ow⟩) (fun y => if y = x then some v else m y) (fun y => if y = x then as else fp y) g h2 := by
  have bt : But a.F (· = a.L) h1 h2 := but_of_same k
  have keepL : ∀ b o, b ≠ a.L → h1.get? b = some o → h2.get? b = some o := fun b o hb e => (k.2 b hb).trans e
  have ex : ∀ b o, h1.get? b = some o → ∃ o', h2.get? b = some o' := fun b o e => by
    by_cases hb : b = a.L
    · subst hb; obtain ⟨o', _, _, ho', _⟩ := hn; exact ⟨o', ho'⟩
    · exact ⟨o, keepL b o hb e⟩
  refine ⟨fun b o e => keepL b o (fun q => by rw [q, r.sat.lnew] at e; cases e) (r.sat.top b o e), fun b o e => ?_, fun b o e => ?_, r.sat.lnew, r.sat.lg, hn, fun b hb => ?_, fun y sl e => ?_, fun y sl e b hb => ?_, fun y sl e o => ?_, fun y e => by simp only [if_neg (fun q : y = x => hp (q ▸ e))]; exact r.sat.pin y e⟩
  · obtain ⟨o', e'⟩ := r.sat.dom b o e; exact ex b o' e'
  · have hb : b ≠ a.L := fun q => by rw [q, r.sat.lg] at e; cases e
    obtain ⟨p, sl, q⟩ := r.sat.gx b o e
    exact ⟨fun z => keepL b o hb (p z), sl, keepL b _ hb q⟩
  · by_cases hbL : b = a.L
    · subst hbL; obtain ⟨o, es, n, ho, hd, _⟩ := hn; exact ⟨o, es, n, ho, hd⟩
    · obtain ⟨o, es, n, ho, hd⟩ := r.sat.ff b hb
      exact ⟨o, es, n, keepL b o hbL ho, hd⟩
  · rw [Ro.set_lookup] at e
    by_cases hy : y = x
    · subst hy
      simp only [if_pos] at e ⊢
      cases e
      exact ⟨v, rfl, r.rd.but bt r.sat.noSeqL r.sat.ff.noSeq fun b hb => ⟨(r.fo.ok b hb).1, (r.fo.ok b hb).2.1⟩⟩
    · simp only [if_neg hy] at e ⊢
      obtain ⟨u, hu, q⟩ := r.sat.var y sl e
      exact ⟨u, hu, q.but bt r.sat.noSeqL r.sat.ff.noSeq fun b hb => ⟨(r.sat.fpok y sl e b hb).1, (r.sat.fpok y sl e b hb).2.1⟩⟩
  · rw [Ro.set_lookup] at e
    by_cases hy : y = x
    · subst hy; simp only [if_pos] at hb; exact r.fo.ok b hb
    · simp only [if_neg hy] at e hb; exact r.sat.fpok y sl e b hb
  · rw [Ro.set_lookup] at e
    by_cases hy : y = x
    · subst hy
      simp only [if_pos] at e ⊢
      cases e
      simp only at o
      obtain ⟨h1m, h2m, h3m⟩ := hown o
      have key : ∃ b, as = [b] ∧ v = .ref b := by
        cases d with
        | list xs =>
          obtain ⟨b, vs, n, bs, rfl, rfl, _, q⟩ := r.rd.list_inv
          obtain rfl := RdAll.atoms q h2m
          exact ⟨b, rfl, rfl⟩
        | dict kvs => cases r.rd; exact ⟨_, rfl, rfl⟩
        | _ => cases h1m
      obtain ⟨b, rfl, rfl⟩ := key
      obtain ⟨k1, k2, k3⟩ := h3m b (.head _)
      refine ⟨b, [], rfl, rfl, h1m, k1, k2, (fun q => nomatch q), fun z sl' hz e' => ?_⟩
      rw [Ro.set_lookup, if_neg hz] at e'
      simp only [if_neg hz]
      exact k3 z sl' hz e'
    · simp only [if_neg hy] at e ⊢
      obtain ⟨b, rr, e1, e2, e3, e4, e5, e6, e7⟩ := r.sat.own y sl e o
      refine ⟨b, rr, e1, e2, e3, e4, e5, e6, fun z sl' hz e' => ?_⟩
      rw [Ro.set_lookup] at e'
      by_cases hzx : z = x
      · subst hzx
        simp only [if_pos]
        exact r.fo.cl y sl b rr e o e1 hf
      · simp only [if_neg hzx] at e' ⊢
        exact e7 z sl' hz e'

/-! running statements -/
structure RetOk (a : Act) (ρ : Ro) (m : Str → Option Value) (fp : Str → List Addr) (g h : Heap) (v : Value) (d : PyData) (as : List Addr) : Prop where
  sat : Sat a ρ m fp g h
  rd : Rd a.D.prog a.D.w h v d as
  ok : ∀ b ∈ as, b ≠ a.L ∧ b ∉ a.F ∧ a.fine b

def RunF (a : Act) (E : Value → Shared → Prop) (ρ : Ro) (t : Sem Flow) (N : Ro → Prop) (R : Ro → PyData → Prop) (C : Ro → Prop) : Prop :=
  ∀ m fp g (s : Shared) (Q : Flow → Shared → Prop), Sat a ρ m fp g s.heap →
    (∀ ρ' m' fp' h tk, Sat a ρ' m' fp' g h → N ρ' → Q .next { s with heap := h, toks := tk }) →
    (∀ ρ' m' fp' h tk, Sat a ρ' m' fp' g h → C ρ' → Q .cont { s with heap := h, toks := tk }) →
    (∀ ρ' m' fp' v d as h tk, RetOk a ρ' m' fp' g h v d as → R ρ' d → Q (.ret v) { s with heap := h, toks := tk }) → wpAny a.M a.A t Q E s
abbrev Ex (a : Act) (E : Value → Shared → Prop) (ρ : Ro) (ss : List Stmt) (N : Ro → Prop) (R : Ro → PyData → Prop) (C : Ro → Prop) : Prop := RunF a E ρ (execs ss a.env) N R C
abbrev Ex1 (a : Act) (E : Value → Shared → Prop) (ρ : Ro) (st : Stmt) (N : Ro → Prop) (R : Ro → PyData → Prop) (C : Ro → Prop) : Prop := RunF a E ρ (exec st a.env) N R C

variable {N C : Ro → Prop} {R : Ro → PyData → Prop}

theorem RunF.mono {t : Sem Flow} {N' C' : Ro → Prop} {R' : Ro → PyData → Prop} (x : RunF a E ρ t N R C) (hN : ∀ ρ, N ρ → N' ρ) (hR : ∀ ρ d, R ρ d → R' ρ d) (hC : ∀ ρ, C ρ → C' ρ) : RunF a E ρ t N' R' C' :=
  fun m fp g s Q hs k1 k2 k3 => x m fp g s Q hs (fun ρ' m' fp' h tk q p => k1 ρ' m' fp' h tk q (hN _ p)) (fun ρ' m' fp' h tk q p => k2 ρ' m' fp' h tk q (hC _ p)) fun ρ' m' fp' v d as h tk q p => k3 ρ' m' fp' v d as h tk q (hR _ _ p)
theorem Ex.nil (h : N ρ) : Ex a E ρ [] N R C := fun m fp g s Q hs k1 _ _ => wpAny_execs_nil (k1 ρ m fp s.heap s.toks hs h)
theorem Ex.cons {st : Stmt} {rest : List Stmt} (h : Ex1 a E ρ st (fun ρ' => Ex a E ρ' rest N R C) R C) : Ex a E ρ (st :: rest) N R C := by
  intro m fp g s Q hs k1 k2 k3
  refine wpAny_execs_cons (h m fp g s _ hs (fun ρ' m' fp' h tk q p => ?_) (fun ρ' m' fp' h tk q p => k2 ρ' m' fp' h tk q p) fun ρ' m' fp' v d as h tk q p => k3 ρ' m' fp' v d as h tk q p)
  exact p m' fp' g _ _ q k1 k2 k3

/-- new places are free to own -/
theorem own_free {m : Str → Option Value} {fp : Str → List Addr} {g h0 : Heap} {as : List Addr} {x : Str} (hs0 : Sat a ρ m fp g h0) (fr : ∀ b ∈ as, h0.get? b = none) :
    ∀ b ∈ as, g.get? b = none ∧ a.D.H0.get? b = none ∧ ∀ z sl', z ≠ x → ρ.lookup z = some sl' → b ∉ fp z := fun b hb => by
  have hb0 := fr b hb
  refine ⟨hs0.gx.none hb0, ?_, fun z sl' hz e' hm => ?_⟩
  · cases q : a.D.H0.get? b with
    | none => rfl
    | some o' => rw [hs0.top b o' q] at hb0; cases hb0
  · obtain ⟨u, _, q⟩ := hs0.var z sl' e'
    obtain ⟨o', ho'⟩ := q.here b hm
    rw [hb0] at ho'; cases ho'

theorem storeName_sat (O : a.Ok) {m : Str → Option Value} {fp : Str → List Addr} {g h0 : Heap} {s : Shared} {v : Value} {d : PyData} {f : Nat} {as : List Addr} {x : Str} {Q : Unit → Shared → Prop}
    (hs0 : Sat a ρ m fp g h0) (r : Res a ρ m fp g h0 v d f as s.heap) (hf : 1 ≤ f) (ow : Bool) (hown : ow = true → isMut d = true ∧ flat d = true ∧ f = 2) (hl : a.env.kindOf x = some .local) (hp : a.pinN ≠ some x)
    (K : ∀ h tk, Sat a (ρ.set x ⟨d, ow⟩) (fun y => if y = x then some v else m y) (fun y => if y = x then as else fp y) g h → Q () { s with heap := h, toks := tk }) :
    wpAny a.M a.A (storeName a.env x v) Q E s :=
  wpAny_storeName_local hl r.sat.ns (fun h' hn hs => K h' _ (Sat.store O r hf hn hs ow (fun q => ⟨(hown q).1, (hown q).2.1, own_free hs0 (r.fo.fr (by have := (hown q).2.2; omega))⟩) hp)) (by rw [O.kind]; rfl)

/-- x = value -/
theorem Ex1.assign (O : a.Ok) {x : Str} {pos' pos : Pos} {value : Expr} (ow : Bool) (h : Ev a E ρ value fun d f => 1 ≤ f ∧ (ow = true → isMut d = true ∧ flat d = true ∧ f = 2) ∧ N (ρ.set x ⟨d, ow⟩))
    (hl : a.env.kindOf x = some .local := by rfl) (hs : swapsWith value (some (.Name x pos')) pos.line a.env = pure false := by rfl) (hp : a.pinN ≠ some x := by first | exact nofun | exact pin_ne (by rfl)) : Ex1 a E ρ (.Assign [.Name x pos'] value pos) N R C := by
  intro m fp g s Q hs0 k1 _ _
  refine wpAny_Assign_Name (h m fp g s _ hs0 fun v d f as h1 tk r p => ?_) hs
  exact storeName_sat O hs0 (s := { s with heap := h1, toks := tk }) r p.1 ow p.2.1 hl hp fun h2 tk2 q => k1 _ _ _ _ _ q p.2.2
theorem Ex1.ret (O : a.Ok) {e : Expr} {pos : Pos} (h : Ev a E ρ e fun d _ => R ρ d) : Ex1 a E ρ (.Return (some e) pos) N R C := by
  intro m fp g s Q hs0 _ _ k3
  refine wpAny_Return_some (h m fp g s _ hs0 fun v d f as h1 tk r p => k3 ρ m fp v d as h1 tk ⟨r.sat, r.rd, r.fo.ok⟩ p)
theorem Ex1.cont {pos : Pos} (h : C ρ) : Ex1 a E ρ (.Continue pos) N R C := fun m fp g s Q hs0 _ k2 _ => wpAny_Continue (k2 ρ m fp s.heap s.toks hs0 h)
theorem Ex1.ifs {test : Expr} {body orelse : List Stmt} {pos : Pos} (h : EvT a E ρ test fun b => if b then Ex a E ρ body N R C else Ex a E ρ orelse N R C) : Ex1 a E ρ (.If test body orelse pos) N R C := by
  intro m fp g s Q hs0 k1 k2 k3
  refine wpAny_If (h m fp g s _ hs0 fun b h1 tk q e p => ?_)
  cases b
  · exact p m fp g _ _ q k1 k2 k3
  · exact p m fp g _ _ q k1 k2 k3

/-- the places that this activation may change -/
def ownedOf (ρ : Ro) (fp : Str → List Addr) : List Addr := (ρ.map (·.1)).filterMap fun x => match ρ.lookup x with
  | some sl => if sl.own then (fp x).head? else none
  | none => none
theorem mem_ownedOf {ρ : Ro} {fp : Str → List Addr} {b : Addr} : b ∈ ownedOf ρ fp ↔ ∃ x sl r, ρ.lookup x = some sl ∧ sl.own = true ∧ fp x = b :: r := by
  have key : ∀ {ρ : Ro} {x : Str} {sl : Slot}, ρ.lookup x = some sl → x ∈ ρ.map (·.1) := by
    intro ρ
    induction ρ with
    | nil => intro x sl e; cases e
    | cons p r ih =>
      obtain ⟨y, s⟩ := p
      intro x sl e
      rw [Ro.lookup_cons] at e
      by_cases h : x = y
      · subst h; simp
      · rw [if_neg h] at e; simp only [List.map_cons, List.mem_cons]; exact .inr (ih e)
  unfold ownedOf
  rw [List.mem_filterMap]
  constructor
  · rintro ⟨x, _, e⟩
    cases q : ρ.lookup x with
    | none => rw [q] at e; cases e
    | some sl =>
      rw [q] at e
      simp only at e
      by_cases o : sl.own = true
      · rw [if_pos o] at e
        cases z : fp x with
        | nil => rw [z] at e; cases e
        | cons c r => rw [z] at e; cases e; exact ⟨x, sl, r, q, o, z⟩
      · rw [if_neg o] at e; cases e
  · rintro ⟨x, sl, r, q, o, z⟩
    exact ⟨x, key q, by rw [q]; simp [o, z]⟩

/-- the heap without what this activation may change, and without some cells -/
def hidC (a : Act) (ρ : Ro) (fp : Str → List Addr) (cs : List Addr) (h : Heap) : Heap := hideAll h (cs ++ a.L :: ownedOf ρ fp)
theorem hidC_get {fp : Str → List Addr} {h : Heap} {b : Addr} {cs : List Addr} {o : Obj} (e : h.get? b = some o) (h0 : b ∉ cs) (h1 : b ≠ a.L) (h2 : b ∉ ownedOf ρ fp) : (hidC a ρ fp cs h).get? b = some o :=
  hideAll_get _ e fun q => (List.mem_append.mp q).elim h0 fun q => (List.mem_cons.mp q).elim h1 h2
theorem Sat.hideC {m : Str → Option Value} {fp : Str → List Addr} {g h : Heap} {cs : List Addr} (x : Sat a ρ m fp g h) : Sat a ρ m fp (hidC a ρ fp cs h) h where
  top := x.top
  dom := x.dom
  gx := fun b o e => ⟨fun _ => of_hideAll _ e, o.slots, of_hideAll _ e⟩
  lnew := x.lnew
  lg := hideAll_none _ (List.mem_append_right _ (.head _))
  ns := x.ns
  ff := x.ff
  var := x.var
  fpok := x.fpok
  pin := x.pin
  own := fun y sl e o => by
    obtain ⟨b, r, e1, e2, e3, e4, e5, e6, e7⟩ := x.own y sl e o
    exact ⟨b, r, e1, e2, e3, hideAll_none _ (List.mem_append_right _ (.tail _ (mem_ownedOf.mpr ⟨y, sl, r, e, o, e1⟩))), e5, e6, e7⟩
theorem Sat.unhideC {ρ' : Ro} {m m' : Str → Option Value} {fp fp' : Str → List Addr} {g h h' : Heap} {cs : List Addr} (x : Sat a ρ m fp g h) (hc : ∀ c ∈ cs, g.get? c = none) (y : Sat a ρ' m' fp' (hidC a ρ fp cs h) h') : Sat a ρ' m' fp' g h' where
  top := y.top
  dom := y.dom
  gx := fun b o e => by
    have hC : b ∉ cs := fun q => by rw [hc b q] at e; cases e
    have hL : b ≠ a.L := fun q => by rw [q, x.lg] at e; cases e
    have hO : b ∉ ownedOf ρ fp := fun q => by
      obtain ⟨z, sl, r, e1, o1, z1⟩ := mem_ownedOf.mp q
      obtain ⟨b', r', f1, _, _, f2, _⟩ := x.own z sl e1 o1
      rw [z1] at f1; cases f1
      rw [f2] at e; cases e
    obtain ⟨p, sl, q⟩ := x.gx b o e
    obtain ⟨_, sl', q'⟩ := y.gx b _ (hidC_get q hC hL hO)
    exact ⟨fun z => (y.gx b o (hidC_get (p z) hC hL hO)).1 z, sl', q'⟩
  lnew := y.lnew
  lg := x.lg
  ns := y.ns
  ff := y.ff
  var := y.var
  fpok := y.fpok
  pin := y.pin
  own := fun z sl e o => by
    obtain ⟨b, r, e1, e2, e3, e4, e5, e6, e7⟩ := y.own z sl e o
    refine ⟨b, r, e1, e2, e3, ?_, e5, e6, e7⟩
    cases q : g.get? b with
    | none => rfl
    | some o' =>
      exfalso
      have hC : b ∉ cs := fun q' => by rw [hc b q'] at q; cases q
      have hL : b ≠ a.L := fun q' => by rw [q', x.lg] at q; cases q
      have hO : b ∉ ownedOf ρ fp := fun q' => by
        obtain ⟨z, sl, r, e1, o1, z1⟩ := mem_ownedOf.mp q'
        obtain ⟨b', r', f1, _, _, f2, _⟩ := x.own z sl e1 o1
        rw [z1] at f1; cases f1
        rw [f2] at q; cases q
      obtain ⟨_, sl', q'⟩ := x.gx b o' q
      rw [hidC_get q' hC hL hO] at e4; cases e4
abbrev hid (a : Act) (ρ : Ro) (fp : Str → List Addr) (h : Heap) : Heap := hidC a ρ fp [] h
theorem hid_get {fp : Str → List Addr} {h : Heap} {b : Addr} {o : Obj} (e : h.get? b = some o) (h1 : b ≠ a.L) (h2 : b ∉ ownedOf ρ fp) : (hid a ρ fp h).get? b = some o := hidC_get (cs := []) e (fun q => nomatch q) h1 h2
theorem Sat.hide {m : Str → Option Value} {fp : Str → List Addr} {g h : Heap} (x : Sat a ρ m fp g h) : Sat a ρ m fp (hid a ρ fp h) h := Sat.hideC (cs := []) x
theorem Sat.unhide {ρ' : Ro} {m m' : Str → Option Value} {fp fp' : Str → List Addr} {g h h' : Heap} (x : Sat a ρ m fp g h) (y : Sat a ρ' m' fp' (hid a ρ fp h) h') : Sat a ρ' m' fp' g h' := Sat.unhideC (cs := []) x (fun _ q => nomatch q) y
end
end Mine
end

section
open PySem PySem.W PySem.Calls PyProof.Rows
set_option maxRecDepth 100000
set_option autoImplicit false
set_option linter.unusedVariables false
namespace Mine

theorem Rd.dict_inv {prog : Program} {w : World} {h : Heap} {v : Value} {kvs : List (PyData × PyData)} {as : List Addr} (r : Rd prog w h v (.dict kvs) as) :
    ∃ b kv ps, v = .ref b ∧ as = [b] ∧ kvs = List.map sPair ps ∧ h.DictOf (strKind prog w) b kv ∧ PairsAre kv ps ∧ (b == sysModules) = false := by
  generalize e : PyData.dict kvs = d at r
  cases r <;> first | (cases e; done) | skip
  cases e
  exact ⟨_, _, _, rfl, rfl, rfl, by assumption, by assumption, by assumption⟩

section
variable {a : Act} {E : Value → Shared → Prop} {ρ : Ro} {N C : Ro → Prop} {R : Ro → PyData → Prop}

/-- the one place b of the name x was changed -/
theorem Sat.change {m : Str → Option Value} {fp : Str → List Addr} {g h1 h2 : Heap} {x : Str} {d d' : PyData} {b : Addr} {r r' : List Addr}
    (hs : Sat a ρ m fp g h1) (hx : ρ.lookup x = some ⟨d, true⟩) (hb : fp x = b :: r) (O : a.Ok) (k : But a.F (· = b) h1 h2) (o2 : Obj) (ho2 : h2.get? b = some o2)
    (hmut : isMut d' = true) (hrd : (∀ c ∈ r', c ≠ b) → NoSeq (· = b) h1 → Rd a.D.prog a.D.w h2 (.ref b) d' (b :: r'))
    (hok : ∀ c ∈ r', c ≠ a.L ∧ c ∉ a.F ∧ a.fine c) (hcl : ∀ y sl c q, ρ.lookup y = some sl → sl.own = true → fp y = c :: q → c ∉ r') :
    Sat a (ρ.set x ⟨d', true⟩) m (fun y => if y = x then b :: r' else fp y) g h2 := by
  obtain ⟨b', r0, e1, e2, e3, e4, e5, e6, e7⟩ := hs.own x _ hx rfl
  rw [hb] at e1; cases e1
  have bt : But a.F (· = b) h1 h2 := k
  have fb := hs.fpok x _ hx b (by rw [hb]; exact .head _)
  obtain ⟨v0, hv0, rd0⟩ := hs.var x _ hx
  have hmx : v0 = .ref b := by rw [e2] at hv0; cases hv0; rfl
  subst hmx
  have nsq : NoSeq (· = b) h1 := fun c o hc ho vs n q => by
    subst hc
    cases d <;> first | (cases e3; done) | skip
    · obtain ⟨b', vs', n', _, e, _, ho', _⟩ := rd0.list_inv
      cases e
      rw [ho] at ho'; cases ho'
      have z : Value.type "list" = Value.type "tuple" := congrArg Obj.cls q
      exact absurd z (by decide)
    · obtain ⟨b', kvs, ps, e, _, _, hd, _⟩ := rd0.dict_inv
      cases e
      obtain ⟨o', es, ep, ho', hx', _⟩ := hd
      rw [ho] at ho'; cases ho'
      rw [q] at hx'
      have z : Value.type "tuple" = Value.type "dict" := hx'.1
      exact absurd z (by decide)
  have hrb : ∀ c ∈ r', c ≠ b := fun c hc q => hcl x _ b r hx rfl hb (q ▸ hc)
  have neb : ∀ y sl, y ≠ x → ρ.lookup y = some sl → b ∉ fp y := fun y sl hy e => e7 y sl hy e
  refine ⟨fun c o e => (k c o (fun q => by rw [q, e5] at e; cases e) (hs.top c o e)).1 (fun q => by rw [framesOf_new O.stk c q] at e; cases e), fun c o e => ?_, fun c o e => ?_, hs.lnew, hs.lg, ?_, fun c hc => ?_, fun y sl e => ?_, fun y sl e c hc => ?_, fun y sl e o => ?_, hs.pin⟩
  · obtain ⟨o', e'⟩ := hs.dom c o e
    by_cases hc : c = b
    · subst hc; exact ⟨o2, ho2⟩
    · obtain ⟨_, sl, q⟩ := k c o' hc e'; exact ⟨_, q⟩
  · have hc : c ≠ b := fun q => by rw [q, e4] at e; cases e
    obtain ⟨p, sl, q⟩ := hs.gx c o e
    obtain ⟨_, sl', q'⟩ := k c _ hc q
    exact ⟨fun z => (k c o hc (p z)).1 z, sl', q'⟩
  · obtain ⟨oL, es, ep, hL, q⟩ := hs.ns
    obtain ⟨_, sl', q'⟩ := k _ _ (Ne.symm fb.1) hL
    exact ⟨_, es, ep, q', q⟩
  · obtain ⟨o, es, n, ho, hd⟩ := hs.ff c hc
    obtain ⟨_, sl', q'⟩ := k c o (fun q => fb.2.1 (q ▸ hc)) ho
    exact ⟨_, es, n, q', hd⟩
  · rw [Ro.set_lookup] at e
    by_cases hy : y = x
    · subst hy
      simp only [if_pos] at e ⊢
      cases e
      exact ⟨.ref b, e2, hrd hrb nsq⟩
    · simp only [if_neg hy] at e ⊢
      obtain ⟨u, hu, q⟩ := hs.var y sl e
      exact ⟨u, hu, q.but bt nsq hs.ff.noSeq fun c hc => ⟨fun z => neb y sl hy e (z ▸ hc), (hs.fpok y sl e c hc).2.1⟩⟩
  · rw [Ro.set_lookup] at e
    by_cases hy : y = x
    · subst hy
      simp only [if_pos] at hc
      rcases List.mem_cons.mp hc with rfl | hc
      · exact fb
      · exact hok c hc
    · simp only [if_neg hy] at e hc
      exact hs.fpok y sl e c hc
  · rw [Ro.set_lookup] at e
    by_cases hy : y = x
    · subst hy
      simp only [if_pos] at e ⊢
      cases e
      refine ⟨b, r', rfl, e2, hmut, e4, e5, fun q => hrb b q rfl, fun z sl' hz e' => ?_⟩
      rw [Ro.set_lookup, if_neg hz] at e'
      rw [if_neg hz]
      exact neb z sl' hz e'
    · simp only [if_neg hy] at e ⊢
      obtain ⟨c, q, f1, f2, f3, f4, f5, f6, f7⟩ := hs.own y sl e o
      refine ⟨c, q, f1, f2, f3, f4, f5, f6, fun z sl' hz e' => ?_⟩
      rw [Ro.set_lookup] at e'
      by_cases hzx : z = x
      · subst hzx
        simp only [if_pos]
        intro hc
        rcases List.mem_cons.mp hc with rfl | hc
        · exact neb y sl hy e (by rw [f1]; exact .head _)
        · exact hcl y sl c q e o f1 hc
      · simp only [if_neg hzx] at e' ⊢
        exact f7 z sl' hz e'

/-- an owned list stands at its place -/
theorem Sat.ownList {m : Str → Option Value} {fp : Str → List Addr} {g h : Heap} {x : Str} {xs : List PyData} (hs : Sat a ρ m fp g h) (hx : ρ.lookup x = some ⟨.list xs, true⟩) :
    ∃ b r vs n, fp x = b :: r ∧ m x = some (.ref b) ∧ h.get? b = some (listO vs n) ∧ RdAll a.D.prog a.D.w h vs xs r := by
  obtain ⟨b, r, e1, e2, _⟩ := hs.own x _ hx rfl
  obtain ⟨v, hv, rd⟩ := hs.var x _ hx
  rw [e2] at hv; cases hv
  rw [e1] at rd
  obtain ⟨b', vs, n, bs, e, e', ho, q⟩ := rd.list_inv
  cases e; cases e'
  exact ⟨b, r, vs, n, e1, e2, ho, q⟩

theorem kindOf_local {env : Env} {x : Str} (h : env.kindOf x = some .local) : env.kindOf x = some .local := h

/-- x.append(e) -/
theorem Ex1.append (O : a.Ok) {x : Str} {np apos cpos pos : Pos} {e : Expr} {xs : List PyData} (hx : ρ.lookup x = some ⟨.list xs, true⟩)
    (h : Ev a E ρ e fun d f => 1 ≤ f ∧ xs.length ≤ sizeLine ∧ N (ρ.set x ⟨.list (xs ++ [d]), true⟩))
    (hl : a.env.kindOf x = some .local := by rfl) (hd : (x == ("__debug__" : Str)) = false := by decide) (hi : interactive a.env = false := by rfl)
    (hline : (apos.endLine == cpos.line) = true := by rfl) (htrees : backTo cpos (starEach [e] a.env) = [(false, eval e a.env)] := by rfl) :
    Ex1 a E ρ (.Expr (.Call (.Attribute (.Name x np) "append" apos) [e] [] cpos) pos) N R C := by
  intro m fp g s Q hs k1 _ _
  obtain ⟨b, r, vs, n, e1, e2, ho, q⟩ := hs.ownList hx
  refine wpAny_Expr ?_ hi rfl
  refine wpAny_Call_append rfl (by rw [htrees]; rfl) hline htrees ?_
  refine wpAny_Name (wpAny_loadName_local O.kind hl hs.ns e2 ⟨b, vs.toArray, rfl, ⟨_, n, ho, rfl, rfl, rfl⟩, ?_⟩) hd
  refine h m fp g s _ hs fun v d f as h1 tk rr p => ?_
  obtain ⟨b', r', vs', n', f1, f2, ho', q'⟩ := rr.sat.ownList hx
  rw [e1] at f1; cases f1
  refine call_meets F.slot_list_append ⟨_, ho', rfl⟩ F.entry_list_append (F.args_list_append_2 _ _) (list_append b vs'.toArray n' v (by simpa [q'.length] using p.2.1)) ⟨ho', ?_⟩
  have up := IsL.update ho' (fun y => y.push v)
  have same : Heap.SameBut b h1 (h1.update b (Obj.mapSeq fun y => y.push v)) := Heap.SameBut.update ..
  generalize h1.update b (Obj.mapSeq fun y => y.push v) = h2 at up same ⊢
  obtain ⟨n2, up⟩ : ∃ n2, h2.get? b = some (listO (vs' ++ [v]) n2) := ⟨(if ((vs'.toArray.push v).size == vs'.toArray.size) = true then n' else n' + 1), by rw [up]; unfold listO; simp⟩
  refine k1 _ _ _ h2 tk (Sat.change rr.sat hx e1 O (but_of_same same) _ up (d' := .list (xs ++ [d])) (r' := r ++ as) rfl (fun hne nsq => ?_) (fun c hc => ?_) fun y sl c q0 ey oy fy hc => ?_) p.2.2
  · refine .list up ?_
    refine (q'.snoc rr.rd).but (but_of_same same) nsq rr.sat.ff.noSeq fun c hc => ⟨fun z => hne c hc z, ?_⟩
    rcases List.mem_append.mp hc with hc | hc
    · exact (rr.sat.fpok x _ hx c (by rw [e1]; exact .tail _ hc)).2.1
    · exact (rr.fo.ok c hc).2.1
  · rcases List.mem_append.mp hc with hc | hc
    · exact rr.sat.fpok x _ hx c (by rw [e1]; exact .tail _ hc)
    · exact rr.fo.ok c hc
  · rcases List.mem_append.mp hc with hc | hc
    · obtain ⟨c', q1, g1, _, _, _, _, g6, g7⟩ := rr.sat.own y sl ey oy
      rw [fy] at g1; cases g1
      by_cases hyx : x = y
      · subst hyx; rw [e1] at fy; cases fy; exact g6 hc
      · exact g7 x _ hyx hx (by rw [e1]; exact .tail _ hc)
    · exact rr.fo.cl y sl c q0 ey oy fy p.1 hc

/-- x op= value, a text or a number -/
theorem Ex1.aug (O : a.Ok) {x : Str} {np pos : Pos} {op : Operator} {value : Expr} {d0 : PyData} {o0 : Bool} (hx : ρ.lookup x = some ⟨d0, o0⟩)
    (h : Ev a E ρ value fun d _ => match op, d0, d with
      | .Add, .str x', .str y => x'.length + y.length ≤ sizeLine ∧ N (ρ.set x ⟨.str (x' ++ y), false⟩)
      | .Add, .int i, .int j => N (ρ.set x ⟨.int (i + j), false⟩)
      | .FloorDiv, .int i, .int j => j ≠ 0 ∧ N (ρ.set x ⟨.int (i.fdiv j), false⟩)
      | _, _, _ => False)
    (hl : a.env.kindOf x = some .local := by rfl) (hp : a.pinN ≠ some x := by first | exact nofun | exact pin_ne (by rfl)) : Ex1 a E ρ (.AugAssign (.Name x np) op value pos) N R C := by
  intro m fp g s Q hs k1 _ _
  obtain ⟨v0, hv0, rd0⟩ := hs.var x _ hx
  refine wpAny_AugAssign_Name (wpAny_loadName_local O.kind hl hs.ns hv0 (h m fp g s _ hs fun v d f as h1 tk rr p => ?_))
  have fin : ∀ {v' : Value} {d' : PyData} {tk' : Nat}, Rd a.D.prog a.D.w h1 v' d' [] → N (ρ.set x ⟨d', false⟩) →
      wpAny a.M a.A (storeName a.env x v') (fun _ => Q .next) E { s with heap := h1, toks := tk' } := fun {v' d' tk'} q p =>
    storeName_sat O hs (s := { s with heap := h1, toks := tk' }) (rr.made q) (by decide) false (by intro q; cases q) hl hp fun h2 tk2 q => k1 _ _ _ _ _ q p
  dsimp only at p
  split at p
  · obtain ⟨⟨t, rfl⟩, _⟩ := rd0.str_inv
    obtain ⟨⟨u, rfl⟩, _⟩ := rr.rd.str_inv
    exact SB.iadd (fun t' k => fin (.str _ _) p.2) p.1
  · obtain ⟨⟨t, rfl⟩, _⟩ := rd0.int_inv
    obtain ⟨⟨u, rfl⟩, _⟩ := rr.rd.int_inv
    exact wpAny_iadd_int (fin (.int _ _) p)
  · obtain ⟨⟨t, rfl⟩, _⟩ := rd0.int_inv
    obtain ⟨⟨u, rfl⟩, _⟩ := rr.rd.int_inv
    refine PyProof.Rows.ifloordiv_int p.1 (fin (.int _ _) p.2) (Or.inr (PylongRoom.of (O.D.lim.keeps rr.sat.top) ?_ (O.seer _ rr.sat.top)))
    have := O.depth
    show a.A.depth + 100 < 1000
    omega
  · exact p.elim

/-- a list's item stored, its own words known -/
theorem setItem_exact {prog : Program} {w : World} {A : Around} {E : Value → Shared → Prop} {s : Shared} {b : Addr} {vs : List Value} {n : Nat} {i : Int} {t : Tok} {v : Value} {Q : Unit → Shared → Prop}
    (ho : s.heap.get? b = some (listO vs n)) (h0 : 0 ≤ i) (hfit : i < 2 ^ 63) (hi : i < vs.length)
    (K : ∀ h n', h.get? b = some (listO (vs.set i.toNat v) n') → Heap.SameBut b s.heap h → Q () { s with heap := h }) : wpAny (model prog w) A (setItem (.ref b) (.int i t) v) Q E s := by
  have hl : s.heap.IsList b vs.toArray := ⟨_, ho, rfl, n, rfl⟩
  unfold setItem
  first | with_reducible refine wpAny_holding ?_ | skip
  refine wpAny_bind (wpAny_sequenceKey hl.typeIs (by decide) ?_)
  refine wpAny_bind (wpAny_callSpecial?_slot (name := Str.ofString "__setitem__") hl.typeIs slot_list_setitem (wpAny_call_entry slot_list_setitem hl.typeIs entry_list_setitem ?_ (args_list_setitem _ _ _)))
  show wpAny _ _ (Builtin.List.listSubscript? (.int i t) >>= _) _ _ s
  refine wpAny_bind (wpAny_listSubscript_int (fitsIndex_of h0 hfit) ?_)
  clear hfit
  obtain ⟨j, rfl⟩ := Int.eq_ofNat_of_zero_le h0
  have hj : j < vs.toArray.size := by simp; omega
  have hx' : vs.toArray[j]? = some (vs.toArray[j]) := Array.getElem?_eq_getElem hj
  show wpAny _ _ ((seqItemAt b j >>= fun r => pure (r.map (j, ·))) >>= _) _ _ s
  refine wpAny_bind (wpAny_bind (wpAny_seqItemAt ho rfl (wpAny_pure ?_)))
  rw [hx']
  show wpAny _ _ (setSeqItemAt b j v >>= _) _ _ s
  have up := IsL.update ho (·.setIfInBounds j v)
  have fin : ∀ h, h = s.heap.update b (Obj.mapSeq (·.setIfInBounds j v)) → Q () { s with heap := h } := fun h e => by
    rw [e]
    refine K _ _ (by rw [up]; simp [listO]; rfl) (Heap.SameBut.update ..)
  refine wpAny_bind (wpAny_setSeqItemAt ho rfl ?_)
  first
    | exact wpAny_bind (wpAny_pure (wpAny_pure ⟨.none, rfl, wpAny_pure (fin _ rfl)⟩))
    | exact wpAny_pure ⟨.none, rfl, wpAny_pure (fin _ rfl)⟩

theorem RdAll.set {prog : Program} {w : World} {h : Heap} {k : Int} {t : Tok} : ∀ {vs : List Value} {ds : List PyData}, RdAll prog w h vs ds [] → ∀ j, RdAll prog w h (vs.set j (.int k t)) (ds.set j (.int k)) []
  | [], _, .nil, j => by simpa using RdAll.nil
  | v :: vs, d :: ds, r, j => by
    generalize e : ([] : List Addr) = as at r
    cases r with
    | @cons _ _ _ _ as bs r q =>
      have := List.append_eq_nil_iff.mp e.symm
      obtain ⟨rfl, rfl⟩ := this
      cases j with
      | zero => simpa using RdAll.cons (.int k t) q
      | succ j => simpa using RdAll.cons r (RdAll.set q j)

/-- x[idx] += value, in a list of numbers -/
theorem Ex1.augItem (O : a.Ok) {x : Str} {np sp pos : Pos} {idx value : Expr} {xs : List PyData} (hx : ρ.lookup x = some ⟨.list xs, true⟩) (hat : atoms xs = true)
    (h : Ev a E ρ idx fun di _ => ∃ i c, di = .int i ∧ 0 ≤ i ∧ i < 2 ^ 62 ∧ xs[i.toNat]? = some (.int c) ∧ Ev a E ρ value fun dv _ => ∃ k, dv = .int k ∧ N (ρ.set x ⟨.list (xs.set i.toNat (.int (c + k))), true⟩))
    (hl : a.env.kindOf x = some .local := by rfl) (hd : (x == ("__debug__" : Str)) = false := by decide)
    (ha : ∀ ov iv new, augStore idx ov iv new = (do holding [new, ov, iv] (setItem ov iv new); release [new, ov, iv] []; pure .next) := by intro _ _ _; rfl) :
    Ex1 a E ρ (.AugAssign (.Subscript (.Name x np) idx sp) .Add value pos) N R C := by
  intro m fp g s Q hs k1 _ _
  obtain ⟨b, r, vs, n, e1, e2, ho, q⟩ := hs.ownList hx
  refine wpAny_AugAssign_Subscript_any ?_ ha
  refine wpAny_Name (wpAny_loadName_local O.kind hl hs.ns e2 ?_) hd
  refine h m fp g s _ hs fun vi di fi asi h1 tk rr p => ?_
  obtain ⟨i, c, rfl, p0, p1, hc, p⟩ := p
  obtain ⟨⟨ti, rfl⟩, rfl⟩ := rr.rd.int_inv
  obtain ⟨b', r', vs', n', f1, f2, ho', q'⟩ := rr.sat.ownList hx
  rw [e1] at f1; cases f1
  obtain rfl := RdAll.atoms q' hat
  obtain ⟨v, bs, hv, rv, _⟩ := q'.get hc
  obtain ⟨⟨tc, rfl⟩, _⟩ := rv.int_inv
  have hlt : i.toNat < vs'.length := (List.getElem?_eq_some_iff.mp hv).1
  refine wpAny_getItem_list (items := vs'.toArray) (x := .int c tc) ⟨_, ho', rfl, n', rfl⟩ p0 (by omega) (by simpa using hv) ?_
  refine p m fp g _ _ rr.sat fun vv dv fv asv h2 tk2 r2 p2 => ?_
  obtain ⟨k, rfl, pN⟩ := p2
  obtain ⟨⟨tv, rfl⟩, _⟩ := r2.rd.int_inv
  refine wpAny_iadd_int ?_
  obtain ⟨b3, r3, vs3, n3, g1, g2, ho3, q3⟩ := r2.sat.ownList hx
  rw [e1] at g1; cases g1
  have hlen : vs3.length = vs'.length := by rw [q3.length, q'.length]
  refine setItem_exact (s := { s with heap := h2, toks := tk2 + 1 }) ho3 p0 (by omega) (by omega) fun h3 n4 ho4 same => ?_
  refine k1 _ _ _ h3 _ (Sat.change r2.sat hx e1 O (but_of_same same) _ ho4 (d' := .list (xs.set i.toNat (.int (c + k)))) (r' := []) rfl (fun hne nsq => ?_) (fun c hc => nomatch hc) fun _ _ _ _ _ _ _ hc => nomatch hc) pN
  refine .list ho4 ?_
  exact (RdAll.set q3 i.toNat).but (but_of_same same) nsq r2.sat.ff.noSeq fun c hc => nomatch hc
end
end Mine
end

section
open PySem PySem.W PySem.Calls PyProof.Rows
set_option maxRecDepth 100000
set_option autoImplicit false
set_option linter.unusedVariables false
namespace Mine

/-- a target takes a datum -/
def Asg (a : Act) (E : Value → Shared → Prop) (ρ : Ro) (target : Expr) (d : PyData) (N : Ro → Prop) : Prop :=
  ∀ m fp g (s : Shared) v as (Q : Unit → Shared → Prop), Sat a ρ m fp g s.heap → Rd a.D.prog a.D.w s.heap v d as → Fo a ρ fp s.heap 1 as →
    (∀ ρ' m' fp' h tk, Sat a ρ' m' fp' g h → N ρ' → Q () { s with heap := h, toks := tk }) → wpAny a.M a.A (assign target a.env v) Q E s

def namesOf : List Expr → Option (List Str)
  | [] => some []
  | .Name x _ :: r => (namesOf r).map (x :: ·)
  | _ => none
theorem namesOf_cons {e1 : Expr} {rest : List Expr} {xs : List Str} (h : namesOf (e1 :: rest) = some xs) : ∃ x p ys, e1 = .Name x p ∧ namesOf rest = some ys ∧ xs = x :: ys := by
  cases e1 <;> first | (simp [namesOf] at h; done) | skip
  rename_i x p
  cases q : namesOf rest with
  | none => simp [namesOf, q] at h
  | some ys => simp [namesOf, q] at h; exact ⟨x, p, ys, rfl, rfl, h.symm⟩
def setAll : Ro → List Str → List PyData → Ro
  | ρ, x :: xs, d :: ds => setAll (ρ.set x ⟨d, false⟩) xs ds
  | ρ, _, _ => ρ

section
variable {a : Act} {E : Value → Shared → Prop} {ρ : Ro} {N C : Ro → Prop} {R : Ro → PyData → Prop}

theorem Asg.name (O : a.Ok) {x : Str} {pos : Pos} {d : PyData} (h : N (ρ.set x ⟨d, false⟩)) (hl : a.env.kindOf x = some .local := by rfl) (hp : a.pinN ≠ some x := by first | exact nofun | exact pin_ne (by rfl)) : Asg a E ρ (.Name x pos) d N := by
  intro m fp g s v as Q hs r fo k
  refine wpAny_assign_Name (storeName_sat O hs (f := 1) (as := as) ⟨hs, Ext.refl _ _, r, fo⟩ (Nat.le_refl _) false (by intro q; cases q) hl hp fun h2 tk2 q => k _ _ _ _ _ q h)

theorem Fo.set {fp : Str → List Addr} {h0 h1 : Heap} {as bs : List Addr} {x : Str} {d : PyData} (f : Fo a ρ fp h0 1 as) : Fo a (ρ.set x ⟨d, false⟩) (fun y => if y = x then bs else fp y) h1 1 as := by
  have key : ∀ y sl, (ρ.set x ⟨d, false⟩).lookup y = some sl → sl.own = true → y ≠ x ∧ ρ.lookup y = some sl := fun y sl e o => by
    rw [Ro.set_lookup] at e
    by_cases hy : y = x
    · subst hy; rw [if_pos rfl] at e; cases e; cases o
    · rw [if_neg hy] at e; exact ⟨hy, e⟩
  refine ⟨f.ok, fun y sl b r e o z hb => ?_, fun y sl b r e o z _ hb => ?_, fun k => absurd k (by decide)⟩
  · obtain ⟨hy, e'⟩ := key y sl e o
    rw [if_neg hy] at z
    exact f.cl y sl b r e' o z (Nat.le_refl _) (List.mem_of_mem_tail hb)
  · obtain ⟨hy, e'⟩ := key y sl e o
    rw [if_neg hy] at z
    exact f.cl y sl b r e' o z (Nat.le_refl _) hb

theorem assignNames (O : a.Ok) : ∀ {elts : List Expr} {xs : List Str} {ds : List PyData} {ρ : Ro}, namesOf elts = some xs → xs.length = ds.length → (∀ x ∈ xs, a.env.kindOf x = some .local ∧ a.pinN ≠ some x) →
    ∀ {vs : List Value} {as : List Addr} {m : Str → Option Value} {fp : Str → List Addr} {g : Heap} {s : Shared} {Q : Unit → Shared → Prop}, Sat a ρ m fp g s.heap → RdAll a.D.prog a.D.w s.heap vs ds as → Fo a ρ fp s.heap 1 as →
    (∀ m' fp' h tk, Sat a (setAll ρ xs ds) m' fp' g h → Q () { s with heap := h, toks := tk }) → wpAny a.M a.A (assignInOrder ((assignEach elts a.env).map (·.2)) vs) Q E s
  | [], _, _, ρ, e, hlen, _, vs, as, m, fp, g, s, Q, hs, r, fo, k => by
    cases e
    cases r with
    | nil => exact wpAny_pure (k m fp s.heap s.toks hs)
    | cons _ _ => simp at hlen
  | e1 :: rest, xs, ds, ρ, e, hlen, hl, vs, as, m, fp, g, s, Q, hs, r, fo, k => by
    obtain ⟨x, p, ys, rfl, q, rfl⟩ := namesOf_cons e
    cases r with
    | nil => simp at hlen
    | @cons v vs d ds as1 as2 r1 r2 =>
      show wpAny _ _ (do holding vs (assign (.Name x p) a.env v); assignInOrder ((assignEach rest a.env).map (·.2)) vs) _ _ _
      refine wpAny_bind (wpAny_holding (wpAny_assign_Name ?_))
      have f1 : Fo a ρ fp s.heap 1 as1 := fo.sub (Nat.le_refl _) fun b hb => List.mem_append_left _ hb
      have f2 : Fo a ρ fp s.heap 1 as2 := fo.sub (Nat.le_refl _) fun b hb => List.mem_append_right _ hb
      refine wpAny_storeName_local (hl x (.head _)).1 hs.ns (fun h' hn hsb => ?_) (by rw [O.kind]; rfl)
      have sat' := Sat.store O (f := 1) (as := as1) (d := d) ⟨hs, Ext.refl _ _, r1, f1⟩ (Nat.le_refl _) hn hsb false (by intro q; cases q) (hl x (.head _)).2
      have r2' := r2.but (but_of_same hsb) hs.noSeqL hs.ff.noSeq fun b hb => ⟨(f2.ok b hb).1, (f2.ok b hb).2.1⟩
      exact assignNames O q (by simpa using hlen) (fun y hy => hl y (.tail _ hy)) (s := { s with heap := h', toks := s.toks + 1 }) sat' r2' f2.set fun m' fp' h2 tk2 q => k m' fp' h2 tk2 q

theorem assignEach_len : ∀ {elts : List Expr} {xs : List Str} {env : Env}, namesOf elts = some xs → (assignEach elts env).length = xs.length ∧ (assignEach elts env).findIdx? (·.1) = none
  | [], _, _, e => by cases e; exact ⟨rfl, rfl⟩
  | e1 :: rest, xs, env, e => by
    obtain ⟨x, p, ys, rfl, q, rfl⟩ := namesOf_cons e
    obtain ⟨i1, i2⟩ := assignEach_len (env := env) q
    refine ⟨?_, ?_⟩
    · show (assignEach rest env).length + 1 = _
      rw [i1]; rfl
    · show List.findIdx? (·.1) ((false, assign (.Name x p) env) :: assignEach rest env) = none
      rw [List.findIdx?_cons, i2]; rfl

theorem Asg.tuple (O : a.Ok) {elts : List Expr} {k : Nat} {pos : Pos} {xs : List Str} {ds : List PyData} (h : N (setAll ρ xs ds)) (hn : namesOf elts = some xs) (hlen : xs.length = ds.length)
    (hl : ∀ x ∈ xs, a.env.kindOf x = some .local ∧ a.pinN ≠ some x) : Asg a E ρ (.Tuple elts k pos) (.tuple ds) N := by
  intro m fp g s v as Q hs r fo K
  obtain ⟨t, vs, n, rfl, ht, q⟩ := r.tuple_inv
  obtain ⟨l1, l2⟩ := assignEach_len (env := a.env) hn
  refine wpAny_assign_Tuple (t := t) (items := vs.toArray) O.hd ⟨_, ht, rfl, n, rfl⟩ (by rw [l1, hlen]; simp [q.length]) l2 fun h' hx => ?_
  have ex : Ext a.F s.heap h' := Kp.ext fun b o e => hx b o (Nat.ne_of_lt (Heap.lt_size e)) e
  exact assignNames O hn hlen hl (s := { s with heap := h' }) (hs.ext O ex) (q.ext ex hs.ff fun b hb => (fo.ok b hb).2.1) ⟨fo.ok, fo.tl, fo.cl, fun k => absurd k (by decide)⟩ fun m' fp' h2 tk2 z => K _ m' fp' h2 tk2 z h

/-! loops -/
structure Items (a : Act) (P : Nat → Value → Prop) (its : List PyData) (sup : List Addr) (h : Heap) : Prop where
  at_ : ∀ j v, P j v → ∃ d as, its[j]? = some d ∧ Rd a.D.prog a.D.w h v d as ∧ ∀ b ∈ as, b ∈ sup

/-- what the iterator stands on is not the activation's to change -/
structure Apart (a : Act) (ρ : Ro) (fp : Str → List Addr) (ws : List Addr) (h : Heap) : Prop where
  ok : ∀ b ∈ ws, b ≠ a.L ∧ b ∉ a.F
  here : ∀ b ∈ ws, ∃ o, h.get? b = some o
  own : ∀ b ∈ ws, b ∉ ownedOf ρ fp

/-- no list, tuple, dict at these places -/
def Foreign (ws : List Addr) (h : Heap) : Prop := ∀ b ∈ ws, ∃ o, h.get? b = some o ∧ o.cls ≠ .type "list" ∧ o.cls ≠ .type "tuple" ∧ o.cls ≠ .type "dict" ∧ ∀ es n, o.data ≠ .dict es n

theorem Foreign.noSeq {ws : List Addr} {h : Heap} (x : Foreign ws h) : NoSeq (· ∈ ws) h := fun b o hb ho vs n q => by
  obtain ⟨o', ho', _, h2, _⟩ := x b hb
  rw [ho] at ho'; cases ho'
  rw [q] at h2; exact h2 rfl
theorem Rd.foreign {prog : Program} {w : World} {ws : List Addr} {h : Heap} (x : Foreign ws h) {v : Value} {d : PyData} {as : List Addr} (r : Rd prog w h v d as) : ∀ b ∈ as, b ∉ ws :=
  (Rd.ind (M1 := fun v d as => ∀ b ∈ as, b ∉ ws) (M2 := fun vs ds as => ∀ b ∈ as, b ∉ ws) (fun _ hb => nomatch hb) (fun _ _ hb => nomatch hb) (fun _ _ _ hb => nomatch hb) (fun _ _ _ hb => nomatch hb)
    (fun a vs n xs as ho _ ih b hb => (List.mem_cons.mp hb).elim (fun e hw => by
      obtain ⟨o', ho', h1, _⟩ := x _ hw
      rw [e, ho] at ho'; cases ho'; exact h1 rfl) (ih b))
    (fun a vs n xs as ho _ ih => ih)
    (fun a kvs ps ho _ _ b hb hw => by
      obtain ⟨o', ho', _, _, h3, _⟩ := x _ hw
      obtain ⟨o, es, ep, ho, hx, _⟩ := ho
      rw [List.mem_singleton.mp hb, ho] at ho'; cases ho'; exact h3 hx.1)
    (fun _ hb => nomatch hb) (fun v vs d ds as bs _ _ i1 i2 b hb => (List.mem_append.mp hb).elim (i1 b) (i2 b))).1 r

/-- foreign new places were written -/
theorem Sat.foreign {m : Str → Option Value} {fp : Str → List Addr} {g h h' : Heap} {ws : List Addr} (x : Sat a ρ m fp g h) (fo : Foreign ws h) (k : ∀ b o, b ∉ ws → h.get? b = some o → h'.get? b = some o)
    (hnew : ∀ b ∈ ws, g.get? b = none ∧ a.D.H0.get? b = none ∧ a.H1.get? b = none ∧ b ≠ a.L ∧ b ∉ a.F) : Sat a ρ m fp g h' := by
  have bt : But a.F (· ∈ ws) h h' := fun b o hb e => ⟨fun _ => k b o hb e, o.slots, k b o hb e⟩
  refine ⟨fun b o e => k b o (fun q => by rw [(hnew b q).2.1] at e; cases e) (x.top b o e), fun b o e => ?_, fun b o e => ?_, x.lnew, x.lg, ?_, fun b hb => ?_, fun y sl e => ?_, x.fpok, x.own, x.pin⟩
  · obtain ⟨o', e'⟩ := x.dom b o e
    exact ⟨o', k b o' (fun q => by rw [(hnew b q).2.2.1] at e; cases e) e'⟩
  · have hb : b ∉ ws := fun q => by rw [(hnew b q).1] at e; cases e
    obtain ⟨p, sl, q⟩ := x.gx b o e
    exact ⟨fun z => k b o hb (p z), sl, k b _ hb q⟩
  · obtain ⟨o, es, ep, ho, r⟩ := x.ns
    exact ⟨o, es, ep, k _ _ (fun q => (hnew _ q).2.2.2.1 rfl) ho, r⟩
  · obtain ⟨o, es, n, ho, hd⟩ := x.ff b hb
    exact ⟨o, es, n, k _ _ (fun q => (hnew _ q).2.2.2.2 hb) ho, hd⟩
  · obtain ⟨v, hv, r⟩ := x.var y sl e
    exact ⟨v, hv, r.but bt fo.noSeq x.ff.noSeq fun b hb => ⟨Rd.foreign fo r b hb, (x.fpok y sl e b hb).2.1⟩⟩
end
end Mine
end

section
open PySem PySem.W PySem.Calls PyProof.Rows
set_option maxRecDepth 100000
set_option autoImplicit false
set_option linter.unusedVariables false
namespace Mine

/-- what becomes of an exception in a loop's turn -/
abbrev loopE (a : Act) (E : Value → Shared → Prop) : Value → Shared → Prop := notedBy a.M a.A a.env fun e s' => cameBackBy a.M a.A a.env E e s'

section
variable {a : Act} {E : Value → Shared → Prop} {ρ : Ro} {N C : Ro → Prop} {R : Ro → PyData → Prop}

theorem Sat.gxUp {m : Str → Option Value} {fp : Str → List Addr} {g h h' : Heap} {cs : List Addr} (x : Sat a ρ m fp g h) (hc : ∀ c ∈ cs, g.get? c = none) (y : Ext a.F (hidC a ρ fp cs h) h') : Ext a.F g h' := fun b o e => by
  have hC : b ∉ cs := fun q => by rw [hc b q] at e; cases e
  have hL : b ≠ a.L := fun q => by rw [q, x.lg] at e; cases e
  have hO : b ∉ ownedOf ρ fp := fun q => by
    obtain ⟨z, sl, r, e1, o1, z1⟩ := mem_ownedOf.mp q
    obtain ⟨b', r', f1, _, _, f2, _⟩ := x.own z sl e1 o1
    rw [z1] at f1; cases f1
    rw [f2] at e; cases e
  obtain ⟨p, sl, q⟩ := x.gx b o e
  obtain ⟨_, sl', q'⟩ := y b _ (hidC_get q hC hL hO)
  exact ⟨fun z => (y b o (hidC_get (p z) hC hL hO)).1 z, sl', q'⟩

theorem Sat.noSeqOwn {m : Str → Option Value} {fp : Str → List Addr} {g h : Heap} (x : Sat a ρ m fp g h) : NoSeq (· ∈ a.L :: ownedOf ρ fp) h := fun b o hb ho vs n q => by
  rcases List.mem_cons.mp hb with rfl | hb
  · exact x.noSeqL _ o rfl ho vs n q
  · obtain ⟨y, sl, r, e, ow, f⟩ := mem_ownedOf.mp hb
    obtain ⟨b', r', f1, f2, f3, _⟩ := x.own y sl e ow
    rw [f] at f1; cases f1
    obtain ⟨v, hv, rd⟩ := x.var y sl e
    rw [f2] at hv; cases hv
    obtain ⟨d, o'⟩ := sl
    cases d <;> first | (cases f3; done) | skip
    · obtain ⟨b2, vs2, n2, _, e2, _, ho2, _⟩ := rd.list_inv
      cases e2
      rw [ho] at ho2; cases ho2
      have z : Value.type "list" = Value.type "tuple" := congrArg Obj.cls q
      exact absurd z (by decide)
    · obtain ⟨b2, kvs, ps, e2, _, _, hd, _⟩ := rd.dict_inv
      cases e2
      obtain ⟨o2, es, ep, ho2, hx, _⟩ := hd
      rw [ho] at ho2; cases ho2
      rw [q] at hx
      have z : Value.type "tuple" = Value.type "dict" := hx.1
      exact absurd z (by decide)

theorem but_hidC {fp : Str → List Addr} {h h' : Heap} {cs : List Addr} (y : Ext a.F (hidC a ρ fp cs h) h') : But a.F (· ∈ cs ++ a.L :: ownedOf ρ fp) h h' := fun b o hb e =>
  y b o (hideAll_get _ e hb)
theorem but_hid {fp : Str → List Addr} {h h' : Heap} (y : Ext a.F (hid a ρ fp h) h') : But a.F (· ∈ a.L :: ownedOf ρ fp) h h' := but_hidC (cs := []) y
theorem Sat.noSeqOwnC {m : Str → Option Value} {fp : Str → List Addr} {g h : Heap} {cs : List Addr} (x : Sat a ρ m fp g h) (hc : ∀ c ∈ cs, ∃ u, h.IsCell c u) : NoSeq (· ∈ cs ++ a.L :: ownedOf ρ fp) h := fun b o hb ho vs n q => by
  rcases List.mem_append.mp hb with hb | hb
  · obtain ⟨u, o', ho', hd⟩ := hc b hb
    rw [ho'] at ho; cases ho; rw [q] at hd; cases hd
  · exact x.noSeqOwn b o hb ho vs n q

set_option maxHeartbeats 1000000 in
theorem loop_runX (O : a.Ok) (cs : List Addr) {target : Expr} {body : List Stmt} {I : Addr} {fpW wr sup : List Addr} {its : List PyData} {P : Nat → Value → Prop} {St : Nat → Heap → Prop}
    (W : Walks a.D.prog a.D.w a.A I fpW wr its.length P St) (fw : ∀ i h, St i h → Foreign wr h)
    (go : ∀ i (s : Shared) v d as (Q : Unit → Shared → Prop) (E' : Value → Shared → Prop), St i s.heap → Rd a.D.prog a.D.w s.heap v d as → d ∈ its → Q () s → wpAny a.M a.A (letOwnedTupleGo target (.ref I) v) Q E' s)
    (J : List PyData → Ro → Prop)
    (fin : ∀ ρ', J [] ρ' → N ρ') {m : Str → Option Value} {fp : Str → List Addr} {g : Heap} {s : Shared} {Q : Flow → Shared → Prop}
    (turn : ∀ x rest ρ', J (x :: rest) ρ' → ∀ m' fp' g' h0 tk0 v as (Q' : Flow → Shared → Prop), Sat a ρ' m' fp' g' h0 → (∀ c ∈ cs, ∃ u, h0.IsCell c u) → (∀ c ∈ cs, g'.get? c = none) → Rd a.D.prog a.D.w h0 v x as → Fo a ρ' fp' h0 1 as → (∀ h', Ext a.F g' h' → Ext a.F g h') →
      (∀ ρ2 m2 fp2 h tk, Sat a ρ2 m2 fp2 g' h → (∀ c ∈ cs, ∃ u, h.IsCell c u) → J rest ρ2 → Q' .next { s with heap := h, toks := tk } ∧ Q' .cont { s with heap := h, toks := tk }) →
      (∀ ρ2 m2 fp2 u du asu h tk, RetOk a ρ2 m2 fp2 g' h u du asu → R ρ2 du → Q' (.ret u) { s with heap := h, toks := tk }) →
      wpAny a.M a.A (PySem.assign target a.env v) (fun _ s2 => wpAny a.M a.A (execs body a.env) Q' (loopE a E) s2) (loopE a E) { s with heap := h0, toks := tk0 })
    (hs : Sat a ρ m fp g s.heap) (hst : St 0 s.heap) (hi : Items a P its sup s.heap) (ap : Apart a ρ fp (fpW ++ sup) s.heap)
    (hnew : ∀ b ∈ wr, g.get? b = none ∧ a.D.H0.get? b = none ∧ a.H1.get? b = none) (hfine : ∀ b ∈ sup, a.fine b) (hJ : J its ρ)
    (hcell : ∀ c ∈ cs, ∃ u, s.heap.IsCell c u) (hcg : ∀ c ∈ cs, g.get? c = none) (hcs : ∀ c ∈ cs, c ∉ fpW ++ sup)
    (k1 : ∀ ρ' m' fp' h tk, Sat a ρ' m' fp' g h → (∀ c ∈ cs, ∃ u, h.IsCell c u) → N ρ' → Q .next { s with heap := h, toks := tk })
    (k3 : ∀ ρ' m' fp' v d as h tk, RetOk a ρ' m' fp' g h v d as → R ρ' d → Q (.ret v) { s with heap := h, toks := tk }) :
    codeAny a.M a.A (.forLoop target (.ref I) body [] a.env) (fun r s' => match r with | .ok f => Q f s' | .error e => cameBackBy a.M a.A a.env E e s') s := by
  refine codeAny_forLoop_any
    (fun k s' => ∃ h tk ρ' m' fp' i, s' = { s with heap := h, toks := tk } ∧ Sat a ρ' m' fp' g h ∧ St i h ∧ Items a P its sup h ∧ Apart a ρ' fp' (fpW ++ sup) h ∧ J (its.drop i) ρ' ∧ i ≤ its.length ∧ k = its.length + 1 - i ∧ ∀ c ∈ cs, ∃ u, h.IsCell c u)
    ?_ (its.length + 1) ⟨s.heap, s.toks, ρ, m, fp, 0, rfl, hs, hst, hi, ap, by simpa using hJ, Nat.zero_le _, rfl, hcell⟩
  rintro k s' ⟨h, tk, ρ', m', fp', i, rfl, hs', hst', hi', ap', hJ', hle, rfl, hu⟩
  have cell1 : ∀ h1 : Heap, (∀ b o, b ∉ wr → h.get? b = some o → h1.get? b = some o) → ∀ c ∈ cs, ∃ u, h1.IsCell c u := fun h1 hk1 c hc => by
    obtain ⟨u, o, ho, hd⟩ := hu c hc
    exact ⟨u, o, hk1 c o (fun q => hcs c hc (List.mem_append_left _ (W.sub c q))) ho, hd⟩
  have hwr : ∀ b ∈ wr, g.get? b = none ∧ a.D.H0.get? b = none ∧ a.H1.get? b = none ∧ b ≠ a.L ∧ b ∉ a.F := fun b hb =>
    ⟨(hnew b hb).1, (hnew b hb).2.1, (hnew b hb).2.2, ap'.ok b (List.mem_append_left _ (W.sub b hb))⟩
  by_cases hlt : i < its.length
  · refine W.item i _ _ _ hlt hst' fun v h1 tk1 hP hst1 hk1 => ?_
    have hs1 := hs'.foreign (fw _ _ hst') hk1 hwr
    have hu1 := cell1 h1 hk1
    have bt : But a.F (· ∈ wr) h h1 := fun b o hb e => ⟨fun _ => hk1 b o hb e, o.slots, hk1 b o hb e⟩
    have hi1 : Items a P its sup h1 := ⟨fun j u hu => by
      obtain ⟨d, as, e, r, hsub⟩ := hi'.at_ j u hu
      exact ⟨d, as, e, r.but bt (fw _ _ hst').noSeq hs'.ff.noSeq fun b hb => ⟨Rd.foreign (fw _ _ hst') r b hb, (ap'.ok b (List.mem_append_right _ (hsub b hb))).2⟩, hsub⟩⟩
    have ap1 : Apart a ρ' fp' (fpW ++ sup) h1 := ⟨ap'.ok, fun b hb => by
      by_cases hw : b ∈ wr
      · obtain ⟨o, ho, _⟩ := fw _ _ hst1 b hw; exact ⟨o, ho⟩
      · obtain ⟨o, ho⟩ := ap'.here b hb; exact ⟨o, hk1 b o hw ho⟩, ap'.own⟩
    obtain ⟨d, as, hd, rd, hsub⟩ := hi1.at_ i v hP
    have hdrop : its.drop i = d :: its.drop (i + 1) := by
      rw [← List.getElem_cons_drop hlt]
      have := (List.getElem?_eq_some_iff.mp hd).2
      rw [this]
    rw [hdrop] at hJ'
    refine go (i + 1) _ v d as _ _ hst1 rd (List.mem_of_getElem? hd) ?_
    have fo : Fo a ρ' fp' h1 1 as := by
      refine ⟨fun b hb => ?_, fun y sl b r e o z hb => ?_, fun y sl b r e o z _ hb => ?_, fun k => absurd k (by decide)⟩
      · exact ⟨(ap'.ok b (List.mem_append_right _ (hsub b hb))).1, (ap'.ok b (List.mem_append_right _ (hsub b hb))).2, hfine b (hsub b hb)⟩
      · exact ap'.own b (List.mem_append_right _ (hsub b (List.mem_of_mem_tail hb))) (mem_ownedOf.mpr ⟨y, sl, r, e, o, z⟩)
      · exact ap'.own b (List.mem_append_right _ (hsub b hb)) (mem_ownedOf.mpr ⟨y, sl, r, e, o, z⟩)
    have back : ∀ ρ3 m3 fp3 h3 tk3, Sat a ρ3 m3 fp3 (hidC a ρ' fp' cs h1) h3 → (∀ c ∈ cs, ∃ u, h3.IsCell c u) → J (its.drop (i + 1)) ρ3 →
        ∃ mm, mm < its.length + 1 - i ∧ ∃ h tk ρ' m' fp' j, ({ s with heap := h3, toks := tk3 } : Shared) = { s with heap := h, toks := tk } ∧ Sat a ρ' m' fp' g h ∧ St j h ∧ Items a P its sup h ∧ Apart a ρ' fp' (fpW ++ sup) h ∧ J (its.drop j) ρ' ∧ j ≤ its.length ∧ mm = its.length + 1 - j ∧ ∀ c ∈ cs, ∃ u, h.IsCell c u := by
      intro ρ3 m3 fp3 h3 tk3 hs3 hu3 hJ3
      have inHid : ∀ b ∈ fpW ++ sup, ∀ o, h1.get? b = some o → (hidC a ρ' fp' cs h1).get? b = some o := fun b hb o ho => hidC_get ho (fun q => hcs b q hb) (ap1.ok b hb).1 (ap1.own b hb)
      refine ⟨its.length + 1 - (i + 1), by omega, h3, tk3, ρ3, m3, fp3, i + 1, rfl, hs1.unhideC hcg hs3, ?_, ⟨fun j u hu => ?_⟩, ⟨ap1.ok, fun b hb => ?_, fun b hb q => ?_⟩, hJ3, hlt, rfl, hu3⟩
      · exact W.frame _ _ _ hst1 fun b hb o ho => (hs3.gx b o (inHid b (List.mem_append_left _ hb) o ho)).1 (ap1.ok b (List.mem_append_left _ hb)).2
      · obtain ⟨d, as, e, r, hsub⟩ := hi1.at_ j u hu
        refine ⟨d, as, e, r.but (but_hidC hs3.gx) (hs1.noSeqOwnC hu1) hs1.ff.noSeq fun b hb => ⟨fun z => ?_, (ap1.ok b (List.mem_append_right _ (hsub b hb))).2⟩, hsub⟩
        rcases List.mem_append.mp z with z | z
        · exact hcs b z (List.mem_append_right _ (hsub b hb))
        rcases List.mem_cons.mp z with z | z
        · exact (ap1.ok b (List.mem_append_right _ (hsub b hb))).1 z
        · exact ap1.own b (List.mem_append_right _ (hsub b hb)) z
      · obtain ⟨o, ho⟩ := ap1.here b hb
        exact hs3.gx.some (inHid b hb o ho)
      · obtain ⟨o, ho⟩ := ap1.here b hb
        obtain ⟨y, sl, r, e, ow, z⟩ := mem_ownedOf.mp q
        obtain ⟨b', r', f1, _, _, f2, _⟩ := hs3.own y sl e ow
        rw [z] at f1; cases f1
        rw [inHid b hb o ho] at f2; cases f2
    exact turn d (its.drop (i + 1)) ρ' hJ' m' fp' (hidC a ρ' fp' cs h1) h1 tk1 v as _ hs1.hideC hu1 (fun c hc => hideAll_none _ (List.mem_append_left _ hc)) rd fo (fun h' q => hs1.gxUp hcg q)
      (fun ρ2 m2 fp2 h2 tk2 hs2 hu2 p2 => ⟨back ρ2 m2 fp2 h2 tk2 hs2 hu2 p2, back ρ2 m2 fp2 h2 tk2 hs2 hu2 p2⟩) fun ρ3 m3 fp3 u du asu h3 tk3 ro pr => k3 ρ3 m3 fp3 u du asu h3 tk3 ⟨hs1.unhideC hcg ro.sat, ro.rd, ro.ok⟩ pr
  · have hi0 : i = its.length := by omega
    subst hi0
    refine W.done _ _ _ hst' fun h1 tk1 hk1 => wpAny_execs_nil ?_
    exact k1 ρ' m' fp' h1 tk1 (hs'.foreign (fw _ _ hst') hk1 hwr) (cell1 h1 hk1) (fin ρ' (by simpa using hJ'))

theorem loop_run (O : a.Ok) {target : Expr} {body : List Stmt} {I : Addr} {fpW wr sup : List Addr} {its : List PyData} {P : Nat → Value → Prop} {St : Nat → Heap → Prop}
    (W : Walks a.D.prog a.D.w a.A I fpW wr its.length P St) (fw : ∀ i h, St i h → Foreign wr h)
    (go : ∀ i (s : Shared) v d as (Q : Unit → Shared → Prop) (E' : Value → Shared → Prop), St i s.heap → Rd a.D.prog a.D.w s.heap v d as → d ∈ its → Q () s → wpAny a.M a.A (letOwnedTupleGo target (.ref I) v) Q E' s)
    (J : List PyData → Ro → Prop)
    (turn : ∀ x rest ρ', J (x :: rest) ρ' → Asg a (loopE a E) ρ' target x fun ρ2 => Ex a (loopE a E) ρ2 body (J rest) R (J rest))
    (fin : ∀ ρ', J [] ρ' → N ρ') {m : Str → Option Value} {fp : Str → List Addr} {g : Heap} {s : Shared} {Q : Flow → Shared → Prop}
    (hs : Sat a ρ m fp g s.heap) (hst : St 0 s.heap) (hi : Items a P its sup s.heap) (ap : Apart a ρ fp (fpW ++ sup) s.heap)
    (hnew : ∀ b ∈ wr, g.get? b = none ∧ a.D.H0.get? b = none ∧ a.H1.get? b = none) (hfine : ∀ b ∈ sup, a.fine b) (hJ : J its ρ)
    (k1 : ∀ ρ' m' fp' h tk, Sat a ρ' m' fp' g h → N ρ' → Q .next { s with heap := h, toks := tk })
    (k3 : ∀ ρ' m' fp' v d as h tk, RetOk a ρ' m' fp' g h v d as → R ρ' d → Q (.ret v) { s with heap := h, toks := tk }) :
    codeAny a.M a.A (.forLoop target (.ref I) body [] a.env) (fun r s' => match r with | .ok f => Q f s' | .error e => cameBackBy a.M a.A a.env E e s') s :=
  loop_runX O [] W fw go J fin (fun x rest ρ' hJ m' fp' g' h0 tk0 v as Q' hs' _ _ rd fo _ kn kr => turn x rest ρ' hJ m' fp' g' { s with heap := h0, toks := tk0 } v as _ hs' rd fo fun ρ2 m2 fp2 h tk hs2 p2 =>
    p2 m2 fp2 g' { s with heap := h, toks := tk } Q' hs2 (fun ρ3 m3 fp3 h3 tk3 q p => (kn ρ3 m3 fp3 h3 tk3 q (fun _ z => nomatch z) p).1) (fun ρ3 m3 fp3 h3 tk3 q p => (kn ρ3 m3 fp3 h3 tk3 q (fun _ z => nomatch z) p).2) fun ρ3 m3 fp3 u du asu h3 tk3 ro pr => kr ρ3 m3 fp3 u du asu h3 tk3 ro pr)
    hs hst hi ap hnew hfine hJ (fun _ z => nomatch z) (fun _ z => nomatch z) (fun _ z => nomatch z) (fun ρ' m' fp' h tk q _ p => k1 ρ' m' fp' h tk q p) k3
end
end Mine
end

section
open PySem PySem.W PySem.Calls PyProof.Rows
set_option maxRecDepth 100000
set_option autoImplicit false
set_option linter.unusedVariables false
namespace Mine

/-- the signs of a text, each as a text -/
def signs (x : Str) : List PyData := x.cps.toList.map fun c => .str (T [c])
/-- the numbers from 0 below n -/
def upto (n : Nat) : List PyData := (List.range n).map fun (i : Nat) => PyData.int (i : Int)

section
variable {a : Act} {E : Value → Shared → Prop} {ρ : Ro} {N C : Ro → Prop} {R : Ro → PyData → Prop}

theorem foreign_of {I : Addr} {h : Heap} {o : Obj} (ho : h.get? I = some o) (h1 : o.cls ≠ .type "list") (h2 : o.cls ≠ .type "tuple") (h3 : o.cls ≠ .type "dict") (h4 : ∀ es n, o.data ≠ .dict es n) : Foreign [I] h :=
  fun b hb => by obtain rfl := List.mem_singleton.mp hb; exact ⟨o, ho, h1, h2, h3, h4⟩

theorem Sat.pushed (O : a.Ok) {m : Str → Option Value} {fp : Str → List Addr} {g h : Heap} (x : Sat a ρ m fp g h) (o : Obj) : Sat a ρ m fp g (h.push o) := x.ext O (Kp.push h o).ext

theorem Sat.newPlace (O : a.Ok) {m : Str → Option Value} {fp : Str → List Addr} {g h : Heap} (x : Sat a ρ m fp g h) {b : Addr} (hb : h.get? b = none) : g.get? b = none ∧ a.D.H0.get? b = none ∧ a.H1.get? b = none := by
  refine ⟨x.gx.none hb, ?_, ?_⟩
  · cases q : a.D.H0.get? b with
    | none => rfl
    | some o => rw [x.top b o q] at hb; cases hb
  · cases q : a.H1.get? b with
    | none => rfl
    | some o => obtain ⟨o', e⟩ := x.dom b o q; rw [hb] at e; cases e
theorem Sat.newOwn {m : Str → Option Value} {fp : Str → List Addr} {g h : Heap} (x : Sat a ρ m fp g h) {b : Addr} (hb : h.get? b = none) : b ∉ ownedOf ρ fp := fun q => by
  obtain ⟨y, sl, r, e, ow, z⟩ := mem_ownedOf.mp q
  exact x.newClean hb e z rfl

/-- the start of a loop over a datum -/
theorem Ex1.forIn (O : a.Ok) {target iter : Expr} {body : List Stmt} {pos : Pos} (J : List PyData → Ro → Prop)
    (turn : ∀ x rest ρ', J (x :: rest) ρ' → Asg a (loopE a E) ρ' target x fun ρ2 => Ex a (loopE a E) ρ2 body (J rest) R (J rest))
    (fin : ∀ ρ', J [] ρ' → N ρ')
    (h : Ev a E ρ iter fun d f => 1 ≤ f ∧ match d with
      | .list xs => ((∃ x p, target = .Name x p) ∨ ((∃ es k p, target = .Tuple es k p) ∧ ∀ d ∈ xs, ∃ ds, d = .tuple ds)) ∧ J xs ρ
      | .str x => (∃ y p, target = .Name y p) ∧ J (signs x) ρ
      | _ => False)
    (hf : ∀ x, foldedSetIterable iter a.env x = pure x := by intro _; rfl) : Ex1 a E ρ (.For target iter body [] pos) N R C := by
  intro m fp g s Q hs k1 _ k3
  refine wpAny_For (h m fp g s _ hs fun v d f as h1 tk r p => ?_) hf
  obtain ⟨hf1, p⟩ := p
  have nw := get_size_none h1
  have np := r.sat.newPlace O nw
  cases d with
  | none | bool _ | int _ | tuple _ | dict _ => exact p.elim
  | str x =>
    obtain ⟨⟨t, rfl⟩, rfl⟩ := r.rd.str_inv
    obtain ⟨⟨y, py, rfl⟩, pJ⟩ := p
    have hit : ∀ j v, SignAt x j v → ∃ d as, (signs x)[j]? = some d ∧ (∀ hh, Rd a.D.prog a.D.w hh v d as) ∧ ∀ b ∈ as, b ∈ ([] : List Addr) := by
      rintro j v ⟨c, u, hc, rfl⟩
      refine ⟨.str (T [c]), [], ?_, fun hh => .str _ _, fun b hb => nomatch hb⟩
      unfold signs
      rw [List.getElem?_map]
      have : x.cps.toList[j]? = some c := by simpa using hc
      rw [this]; rfl
    have len : (signs x).length = x.cps.size := by unfold signs; simp
    have both : ∀ ty, (∀ (A' : Around), A'.handled = none → Walks a.D.prog a.D.w A' h1.objs.size [h1.objs.size] [h1.objs.size] x.cps.size (SignAt x) (fun i h => h.IsStrIter h1.objs.size ty x t i)) →
        ty ≠ "list" → ty ≠ "tuple" → ty ≠ "dict" →
        codeAny a.M a.A (.forLoop (.Name y py) (.ref h1.objs.size) body [] a.env) (fun r s' => match r with | .ok f => Q f s' | .error e => cameBackBy a.M a.A a.env E e s')
          { s with heap := h1.push { cls := .type ty, data := .fields #[.str x t, .int 0 0] }, toks := tk } := by
      intro ty W t1 t2 t3
      refine loop_run (P := SignAt x) (St := fun i h => h.IsStrIter h1.objs.size ty x t i) (its := signs x) (sup := []) O (len ▸ W _ O.hd) (fun i h ⟨o, ho, hc, hd⟩ => ?_) (fun i s v d as Q E' _ _ _ q => wpAny_pure q) J turn fin
        (r.sat.pushed O _) ⟨_, get_push_self _ _, rfl, rfl⟩ ⟨fun j v hv => ?_⟩ ⟨fun b hb => ?_, fun b hb => ?_, fun b hb => ?_⟩ (fun b hb => ?_) (fun b hb => nomatch hb) pJ k1 k3
      · exact foreign_of ho (by rw [hc]; intro q; cases q; exact t1 rfl) (by rw [hc]; intro q; cases q; exact t2 rfl) (by rw [hc]; intro q; cases q; exact t3 rfl) (fun es n q => by rw [hd] at q; cases q)
      · obtain ⟨d, as, e, q, q'⟩ := hit j v hv
        exact ⟨d, as, e, q _, q'⟩
      · simp at hb; subst hb; exact ⟨(r.sat.newFine nw).1, (r.sat.newFine nw).2.1⟩
      · simp at hb; subst hb; exact ⟨_, get_push_self _ _⟩
      · simp at hb; subst hb; exact r.sat.newOwn nw
      · simp at hb; subst hb; exact np
    cases ha : x.cps.all (· < 128)
    · exact wpAny_pyIter_wide ha (both _ (fun A' hA => Walks.strWide hA _ x t) (by decide) (by decide) (by decide))
    · exact wpAny_pyIter_ascii ha (both _ (fun A' hA => Walks.strAscii hA _ x t) (by decide) (by decide) (by decide))
  | list xs =>
    obtain ⟨l, vs, n, bs, rfl, rfl, ho, q⟩ := r.rd.list_inv
    have hlt : l ≠ h1.objs.size := Nat.ne_of_lt (Heap.lt_size ho)
    refine wpAny_pyIter_list (items := vs.toArray) ⟨_, ho, rfl, n, rfl⟩ ?_
    have kp := Kp.push h1 { cls := .type "list_iterator", data := .fields #[.ref l, .int 0 0] }
    have len : vs.toArray.size = xs.length := by simp [q.length]
    refine loop_run (P := fun i v => vs.toArray[i]? = some v) (St := fun i h => h.IsListIter h1.objs.size l i ∧ h.IsList l vs.toArray) (its := xs) (sup := bs) O (len ▸ Walks.list O.hd h1.objs.size l hlt vs.toArray)
      (fun i h ⟨⟨o, ho, hc, hd⟩, _⟩ => ?_) (fun i s v d as Q E' st rd hd q => ?_) J turn fin (r.sat.pushed O _) ⟨⟨_, get_push_self _ _, rfl, rfl⟩, _, kp _ _ ho, rfl, n, rfl⟩ ⟨fun j v hv => ?_⟩ ⟨fun b hb => ?_, fun b hb => ?_, fun b hb => ?_⟩ (fun b hb => ?_) (fun b hb => ?_) p.2 k1 k3
    · exact foreign_of ho (by rw [hc]; decide) (by rw [hc]; decide) (by rw [hc]; decide) (fun es n q => by rw [hd] at q; cases q)
    · rcases p.1 with ⟨x, px, rfl⟩ | ⟨⟨es, k, px, rfl⟩, ht⟩
      · exact wpAny_pure q
      · obtain ⟨ds, rfl⟩ := ht d hd
        obtain ⟨t, _, _, rfl, _⟩ := rd.tuple_inv
        exact wpAny_letOwnedTupleGo_listiter st.1 q
    · have hj : j < xs.length := by rw [← q.length]; have := (Array.getElem?_eq_some_iff.mp hv).1; simpa using this
      obtain ⟨v', cs, hv', rd, hsub⟩ := q.get (i := j) (d := xs[j]) (by simp [hj])
      have : v' = v := by
        have e1 : vs[j]? = some v := by simpa using hv
        rw [hv'] at e1; exact Option.some.inj e1
      subst this
      exact ⟨xs[j], cs, by simp [hj], rd.kp kp, hsub⟩
    · simp only [List.mem_append, List.mem_cons, List.not_mem_nil, or_false] at hb
      rcases hb with (rfl | rfl) | hb
      · exact ⟨(r.sat.newFine nw).1, (r.sat.newFine nw).2.1⟩
      · exact ⟨(r.fo.ok b (.head _)).1, (r.fo.ok b (.head _)).2.1⟩
      · exact ⟨(r.fo.ok b (.tail _ hb)).1, (r.fo.ok b (.tail _ hb)).2.1⟩
    · simp only [List.mem_append, List.mem_cons, List.not_mem_nil, or_false] at hb
      rcases hb with (rfl | rfl) | hb
      · exact ⟨_, get_push_self _ _⟩
      · exact ⟨_, kp _ _ ho⟩
      · obtain ⟨o, ho⟩ := q.here b hb; exact ⟨o, kp _ _ ho⟩
    · intro hown
      obtain ⟨y, sl, rr, e, ow, z⟩ := mem_ownedOf.mp hown
      simp only [List.mem_append, List.mem_cons, List.not_mem_nil, or_false] at hb
      rcases hb with (rfl | rfl) | hb
      · exact r.sat.newClean nw e z rfl
      · exact r.fo.cl y sl _ rr e ow z hf1 (.head _)
      · exact r.fo.cl y sl _ rr e ow z hf1 (.tail _ hb)
    · simp at hb; subst hb; exact np
    · exact (r.fo.ok b (.tail _ hb)).2.2

/-- a name of the interpreter's own -/
theorem builtin_name (O : a.Ok) {x : Str} {pos : Pos} {v : Value} {m : Str → Option Value} {fp : Str → List Addr} {g : Heap} {s : Shared} {Q : Value → Shared → Prop} (hs : Sat a ρ m fp g s.heap)
    (hv : bootBuiltins x = some v) (hg : a.D.mg x = none) (hn : x ≠ "__name__") (h : Q v s)
    (hx : a.env.kindOf x = some .globalImplicit) (hd : (x == ("__debug__" : Str)) = false := by decide) : wpAny a.M a.A (eval (.Name x pos) a.env) Q E s :=
  Name_function_global O.kind hx (loadGlobal_builtin (env := a.env) (by rw [O.glob]; exact O.D.g.keeps hs.top) hg (by rw [O.blt]; exact O.D.b.keeps hs.top) ((O.D.blt x hn).trans hv) h) hd

/-- for x in range(e) -/
theorem Ex1.forRange (O : a.Ok) {x : Str} {px pn cp pos : Pos} {e : Expr} {body : List Stmt} (J : List PyData → Ro → Prop)
    (turn : ∀ y rest ρ', J (y :: rest) ρ' → Ex a (loopE a E) (ρ'.set x ⟨y, false⟩) body (J rest) R (J rest))
    (fin : ∀ ρ', J [] ρ' → N ρ')
    (h : Ev a E ρ e fun d _ => ∃ i, d = .int i ∧ 0 ≤ i ∧ i < 2 ^ 40 ∧ J (upto i.toNat) ρ)
    (hg : a.D.mg "range" = none) (hl : a.env.kindOf x = some .local := by rfl) (hp : a.pinN ≠ some x := by first | exact nofun | exact pin_ne (by rfl)) (hx : a.env.kindOf "range" = some .globalImplicit := by rfl)
    (hf : ∀ v, foldedSetIterable (.Call (.Name "range" pn) [e] [] cp) a.env v = pure v := by intro _; rfl)
    (he : starEach [e] a.env = (false, eval e a.env) :: starEach [] a.env := by rfl) : Ex1 a E ρ (.For (.Name x px) (.Call (.Name "range" pn) [e] [] cp) body [] pos) N R C := by
  intro m fp g s Q hs k1 _ k3
  refine wpAny_For (Call_ (builtin_name O hs PyProof.Rows.Boot.«range» hg (by decide) ?_ hx) ) hf
  rw [he]
  refine PySem.callWith_type (T := "range") rfl (evalArgs_plain (spliced_cons ?_))
  refine h m fp g s _ hs fun v d f as h1 tk r p => spliced_nil ?_
  obtain ⟨i, rfl, i0, i1, pJ⟩ := p
  obtain ⟨⟨t, rfl⟩, _⟩ := r.rd.int_inv
  refine call_range_1 ?_
  have kp1 := Kp.push h1 { cls := .type "range", data := .fields #[.int 0 tk, .int i t, .int 1 (tk + 1)] }
  refine wpAny_pyIter_range (IsRange.new _ _ _ _ _ _ _) (small_one (by omega) (by omega) (by omega) (by omega)) ?_
  have r1 := r.sat.pushed O { cls := .type "range", data := .fields #[.int 0 tk, .int i t, .int 1 (tk + 1)] }
  generalize h1.push { cls := .type "range", data := .fields #[.int 0 tk, .int i t, .int 1 (tk + 1)] } = h2 at r1 ⊢
  have nw := get_size_none h2
  have np := r1.newPlace O nw
  have sz : Builtin.Range.rangeSize 0 i 1 = (i.toNat : Int) := by rw [rangeSize_one]; split <;> omega
  have len : (upto i.toNat).length = i.toNat := by unfold upto; simp
  have W := Walks.range (prog := a.D.prog) (w := a.D.w) O.hd h2.objs.size 0 1 i.toNat
  replace W := W.bound
  rw [← len] at W
  refine loop_run (its := upto i.toNat) (sup := []) O W (fun i h hr => ?_) (fun i s v d as Q E' _ _ _ q => wpAny_pure q) J (fun y rest ρ' hj => Asg.name O (turn y rest ρ' hj) hl hp) fin
    (r1.pushed O _) ?_ ⟨fun j v hv => ?_⟩ ⟨fun b hb => ?_, fun b hb => ?_, fun b hb => ?_⟩ (fun b hb => ?_) (fun b hb => nomatch hb) pJ k1 k3
  · have c1 : ∀ z : String, z ≠ "range_iterator" → Value.type "range_iterator" ≠ Value.type z := fun z hz q => hz (by cases q; rfl)
    exact foreign_of hr (c1 _ (by decide)) (c1 _ (by decide)) (c1 _ (by decide)) (fun es n q => by cases q)
  · rw [len, sz]
    have e1 : (0 : Int) + ((0 : Nat) : Int) * 1 = 0 := by omega
    have e2 : ((i.toNat : Nat) : Int) - ((0 : Nat) : Int) = (i.toNat : Int) := by omega
    rw [e1, e2]
    exact get_push_self h2 { cls := .type "range_iterator", data := .fields #[rawInt 0, rawInt i.toNat, rawInt 1] }
  · obtain ⟨hj, t, rfl⟩ := hv
    refine ⟨.int (j : Int), [], ?_, ?_, fun b hb => nomatch hb⟩
    · unfold upto; rw [len] at hj; simp [hj]
    · have : (0 + (j : Int) * 1) = (j : Int) := by omega
      rw [this]; exact .int _ _
  · simp at hb; subst hb; exact ⟨(r1.newFine nw).1, (r1.newFine nw).2.1⟩
  · simp at hb; subst hb; exact ⟨_, get_push_self _ _⟩
  · simp at hb; subst hb; exact r1.newOwn nw
  · simp at hb; subst hb; exact np
end
end Mine
end

section
open PySem PySem.W PySem.Calls PyProof.Rows
set_option maxRecDepth 100000
set_option autoImplicit false
set_option linter.unusedVariables false
namespace Mine

def mkAct (D : Wd) (A : Around) (fd : FuncData) (L fa : Addr) (stk : List Env) (H1 : Heap) (args : List Addr) (n : Nat) : Act :=
  { D := D, A := A.deeper (callEnv fd L fa), env := callEnv fd L fa, stk := callEnv fd L fa :: stk, H1 := H1, args := args, n := n }

/-- what holds around a call -/
structure CallOk (D : Wd) (A : Around) (stk : List Env) (n : Nat) : Prop where
  frames : A.frames = some stk
  stk : StkOk D.H0 stk
  hd : A.handled = none
  depth : A.depth + n < 900
  units : A.units + 10 * n < 9000

/-- a def of the text, called upon such data, gives what P holds of -/
def FnAt' (D : Wd) (n : Nat) (fa : Addr) (ds : List PyData) (P : PyData → Prop) : Prop :=
  ∀ (A : Around) (stk : List Env) (E : Value → Shared → Prop) (s : Shared) (vs : List Value) (as : List Addr) (Q : Value → Shared → Prop),
    CallOk D A stk (n + 1) → Kp D.H0 s.heap → FF (framesOf stk) s.heap → RdAll D.prog D.w s.heap vs ds as → (∀ b ∈ as, b ∉ framesOf stk) →
    (∀ v d as' h tk, Kp D.H0 h → Ext (framesOf stk) s.heap h → Rd D.prog D.w h v d as' → (∀ b ∈ as', b ∉ framesOf stk ∧ (s.heap.get? b = none ∨ b ∈ as)) → P d → Q v { s with heap := h, toks := tk }) →
    wpAny (model D.prog D.w) A (call (.ref fa) vs) Q E s
structure IsFn (D : Wd) (x : Str) (fa : Addr) : Prop where
  mg : D.mg x = some (.ref fa)
  ob : ∃ o fd, D.H0.get? fa = some o ∧ o.data = .func fd
def Fn (D : Wd) (n : Nat) (x : Str) (ds : List PyData) (P : PyData → Prop) : Prop := ∃ fa, IsFn D x fa ∧ FnAt' D n fa ds P

def slots (names : List Str) (ds : List PyData) : Ro := names.zip (ds.map fun d => ⟨d, false⟩)

theorem slots_lookup : ∀ (names : List Str) (ds : List PyData) (x : Str) (sl : Slot), (slots names ds).lookup x = some sl → ∃ (i : Nat) (d : PyData), names[i]? = some x ∧ ds[i]? = some d ∧ sl = ⟨d, false⟩ ∧ ∀ j : Nat, j < i → names[j]? ≠ some x
  | [], _, _, _, e => by simp [slots] at e
  | _ :: _, [], _, _, e => by simp [slots] at e
  | n :: names, d :: ds, x, sl, e => by
    have : slots (n :: names) (d :: ds) = (n, ⟨d, false⟩) :: slots names ds := rfl
    rw [this, Ro.lookup_cons] at e
    by_cases h : x = n
    · subst h; rw [if_pos rfl] at e; cases e
      exact ⟨0, d, rfl, rfl, rfl, fun j hj => absurd hj (Nat.not_lt_zero j)⟩
    · rw [if_neg h] at e
      obtain ⟨i, d', h1, h2, h3, h4⟩ := slots_lookup names ds x sl e
      refine ⟨i + 1, d', by simpa using h1, by simpa using h2, h3, fun j hj => ?_⟩
      cases j with
      | zero => intro q; simp at q; exact h q.symm
      | succ j => simpa using h4 j (by omega)

theorem bindsLookup (names : List Str) (vs : List Value) (hnd : names.Nodup) (i : Nat) (x : Str) (v : Value) (h1 : names[i]? = some x) (h2 : vs[i]? = some v) : (names.zip vs).reverse.lookup x = some v := by
  have hmem : (x, v) ∈ (names.zip vs).reverse := by
    rw [List.mem_reverse, List.mem_iff_getElem?]
    exact ⟨i, by rw [List.getElem?_zip_eq_some]; exact ⟨h1, h2⟩⟩
  have hnd' : ((names.zip vs).reverse.map (·.1)).Nodup := by
    rw [List.map_reverse]
    have e : ∀ (names : List Str) (vs : List Value), names.Nodup → ((names.zip vs).map (·.1)).Nodup := by
      intro names
      induction names with
      | nil => intro vs _; exact .nil
      | cons n r ih =>
        intro vs hn
        cases vs with
        | nil => exact .nil
        | cons v vs =>
          rw [List.nodup_cons] at hn
          simp only [List.zip_cons_cons, List.map_cons, List.nodup_cons]
          exact ⟨fun q => hn.1 (by obtain ⟨p, hp, e⟩ := List.mem_map.mp q; exact e ▸ (List.of_mem_zip hp).1), ih vs hn.2⟩
    exact List.pairwise_reverse.mpr ((e names vs hnd).imp fun q => q.symm)
  revert hmem hnd'
  generalize (names.zip vs).reverse = l
  induction l with
  | nil => intro q _; cases q
  | cons p l ih =>
    intro hm hn
    obtain ⟨y, u⟩ := p
    simp only [List.map_cons, List.nodup_cons] at hn
    rw [List.lookup_cons]
    rcases List.mem_cons.mp hm with q | q
    · cases q; simp
    · have hxy : x ≠ y := fun z => hn.1 (z ▸ List.mem_map.mpr ⟨(x, v), q, rfl⟩)
      rw [beq_eq_false_iff_ne.mpr hxy]
      exact ih q hn.2

section
variable {a : Act} {E : Value → Shared → Prop} {ρ : Ro} {P : PyData → Nat → Prop}

theorem Ev.call (O : a.Ok) {x : Str} {np pos : Pos} {e : Expr} {rest : List Expr} {k : Nat}
    (h : EvL a E ρ (e :: rest) pos fun ds fl => ∃ P', Fn a.D k x ds P' ∧ ∀ d, P' d → (1 ≤ fl ∨ atom d = true) ∧ P d (if atom d then 2 else 1))
    (hk : k + 1 ≤ a.n := by decide) (hx : a.env.kindOf x = some .globalImplicit := by rfl) (hd : (x == ("__debug__" : Str)) = false := by decide)
    (he : starEach (e :: rest) a.env = (false, eval e a.env) :: starEach rest a.env := by rfl) (hfn : ∃ fa, IsFn a.D x fa) : Ev a E ρ (.Call (.Name x np) (e :: rest) [] pos) P := by
  intro m fp g s Q hs K
  obtain ⟨fa, hm, o, fd, ho, hdat⟩ := hfn
  refine Call_ (Name_function_global O.kind hx (loadGlobal_global (env := a.env) (by rw [O.glob]; exact O.D.g.keeps hs.top) hm ?_) hd)
  refine callWith_def hdat (h m fp g s _ hs fun vs ds fl as h1 tk r p => ⟨r.sat.top _ _ ho, ?_⟩) he
  obtain ⟨P', ⟨fa', f1, f2⟩, hP⟩ := p
  have : fa' = fa := by have := f1.mg; rw [hm] at this; cases this; rfl
  subst this
  have hdep := O.depth
  have hun := O.units
  refine f2 a.A a.stk E _ vs as Q ⟨O.frames, O.stk, O.hd, by omega, by omega⟩ r.sat.top r.sat.ff r.rd (fun b hb => (r.ok b hb).2.1) fun v d as' h2 tk2 kp ex rd hsub pd => ?_
  have sat2 := r.sat.ext O ex
  obtain ⟨hcl, pd⟩ := hP d pd
  by_cases hat : atom d = true
  · rw [if_pos hat] at pd
    obtain rfl := rd.atom hat
    exact K v d 2 [] h2 tk2 ⟨sat2, r.ext.trans ex, rd, Fo.nil 2⟩ pd
  · rw [if_neg hat] at pd
    have hfl : 1 ≤ fl := hcl.elim id fun q => absurd q hat
    have fo := r.fo hfl
    refine K v d 1 as' h2 tk2 ⟨sat2, r.ext.trans ex, rd, ⟨fun b hb => ?_, fun y sl c q e ow z hb => ?_, fun y sl c q e ow z _ hb => ?_, fun k => absurd k (by decide)⟩⟩ pd
    · rcases (hsub b hb).2 with q | q
      · exact r.sat.newFine q
      · exact r.ok b q
    · rcases (hsub c (List.mem_of_mem_tail hb)).2 with q' | q'
      · exact r.sat.newClean q' e z rfl
      · exact fo.cl y sl c q e ow z hfl q'
    · rcases (hsub c hb).2 with q' | q'
      · exact r.sat.newClean q' e z rfl
      · exact fo.cl y sl c q e ow z hfl q'
end
end Mine
end

section
open PySem PySem.W PySem.Calls PyProof.Rows
set_option maxRecDepth 100000
set_option autoImplicit false
set_option linter.unusedVariables false
namespace Mine

def mkActIO (D : Wd) (A : Around) (fd : FuncData) (L fa : Addr) (stk : List Env) (H1 : Heap) (args : List Addr) (n : Nat) (pn : Str) (pb : Addr) : Act :=
  { D := D, A := A.deeper (callEnv fd L fa), env := callEnv fd L fa, stk := callEnv fd L fa :: stk, H1 := H1, args := args, n := n, pinN := some pn, pinB := pb }

/-- a def whose first argument is a list of plain data that it may change -/
def FnIO (D : Wd) (n : Nat) (x : Str) (xs ds : List PyData) (P : PyData → List PyData → Prop) : Prop :=
  ∃ fa, IsFn D x fa ∧ ∀ (A : Around) (stk : List Env) (E : Value → Shared → Prop) (s : Shared) (b : Addr) (vs0 : List Value) (n0 : Nat) (vs : List Value) (as : List Addr) (Q : Value → Shared → Prop),
    CallOk D A stk (n + 1) → Kp D.H0 s.heap → FF (framesOf stk) s.heap → s.heap.get? b = some (listO vs0 n0) → RdAll D.prog D.w s.heap vs0 xs [] → RdAll D.prog D.w s.heap vs ds as →
    (∀ c ∈ as, c ∉ framesOf stk ∧ c ≠ b) → b ∉ framesOf stk → D.H0.get? b = none →
    (∀ v d h tk vs1 n1 xs', Kp D.H0 h → But (framesOf stk) (· = b) s.heap h → h.get? b = some (listO vs1 n1) → RdAll D.prog D.w h vs1 xs' [] → atoms xs' = true → Rd D.prog D.w h v d [] → P d xs' → Q v { s with heap := h, toks := tk }) →
    wpAny (model D.prog D.w) A (call (.ref fa) (.ref b :: vs)) Q E s

theorem FnIO.intro {D : Wd} (DO : D.Ok) {x : Str} {fa : Addr} {o : Obj} {fd : FuncData} {body : List Stmt} {n : Nat} {pn : Str} {names : List Str} {xs ds : List PyData} {P : PyData → List PyData → Prop}
    (hm : D.mg x = some (.ref fa)) (ho : D.H0.get? fa = some o) (hd : o.data = .func fd) (hcd : D.H0.CodeRec fd.code fd.qualname) (hb : fd.body = .stmts body)
    (hbind : ∀ vs : List Value, vs.length = (pn :: names).length → bindArgs fd ⟨vs, []⟩ = pure ((pn :: names).zip vs)) (hlen : names.length = ds.length) (hnd : (pn :: names).Nodup)
    (hloc : ∀ y ∈ pn :: names, fd.scope.names.lookup y = some .local) (hcell : ∀ y ∈ fd.scope.names, y.2 ≠ .cell) (hgl : fd.globals = mainGlobals) (hbl : fd.builtins = builtinsNs)
    (hco : fd.scope.isCoroutine = false) (hgen : fd.scope.isGenerator = false) (hk : fd.scope.kind = .function)
    (h : ∀ (A : Around) (L : Addr) (stk : List Env) (H1 : Heap) (args : List Addr) (pb : Addr), Act.Ok (mkActIO D A fd L fa stk H1 args n pn pb) → ∀ E, Ex (mkActIO D A fd L fa stk H1 args n pn pb) E ((pn, ⟨.list xs, true⟩) :: slots names ds) body
      (fun ρ' => ∃ xs', ρ'.lookup pn = some ⟨.list xs', true⟩ ∧ atoms xs' = true ∧ P .none xs') (fun ρ' d => ∃ xs', ρ'.lookup pn = some ⟨.list xs', true⟩ ∧ atoms xs' = true ∧ atom d = true ∧ P d xs') (fun _ => False)) :
    FnIO D n x xs ds P := by
  refine ⟨fa, ⟨hm, o, fd, ho, hd⟩, ?_⟩
  intro A stk E s b vs0 n0 vs as Q C kp ff hob rd0 rd has hbF hb0 K
  have hvl : (Value.ref b :: vs).length = (pn :: names).length := by simp [rd.length, hlen]
  have hdep := C.depth
  have hun := C.units
  refine wpAny_call (codeAny_call_def (binds := (pn :: names).zip (.ref b :: vs)) (show A.depth < 1000 by omega) (kp _ _ ho) hd (DO.lim.keeps kp) (hcd.keeps kp) hb (.of_eq (hbind _ hvl)) hcell (fun p hp => hloc _ (List.of_mem_zip hp).1) (fun h0 hns hk0 => ?_) hco hgen hk)
  have Lnew : s.heap.get? s.heap.objs.size = none := get_size_none _
  have L0 : D.H0.get? s.heap.objs.size = none := by
    cases q : D.H0.get? s.heap.objs.size with
    | none => rfl
    | some o' => rw [kp _ _ q] at Lnew; cases Lnew
  have hbL : b ≠ s.heap.objs.size := fun q => by rw [q, Lnew] at hob; cases hob
  have stk' : StkOk D.H0 (callEnv fd s.heap.objs.size fa :: stk) := fun e he => by
    rcases List.mem_cons.mp he with rfl | he
    · exact ⟨by show fd.scope.kind ≠ .module; rw [hk]; decide, _, rfl, L0⟩
    · exact C.stk e he
  have fr : (A.deeper (callEnv fd s.heap.objs.size fa)).frames = some (callEnv fd s.heap.objs.size fa :: stk) := Around.frames_deeper C.frames
  have O : Act.Ok (mkActIO D A fd s.heap.objs.size fa stk s.heap (b :: as) n pn b) := by
    refine ⟨DO, fr, stk', C.hd, ?_, ?_, hk, hgl, hbl, fun hh kh => ?_⟩
    · show A.depth + 1 + n < 900; omega
    · show A.units + 3 + 10 * n < 9000; omega
    · exact SeerAt.of (env := callEnv fd s.heap.objs.size fa) (l := stk) (DO.seer.keeps kh) DO.tree fr hgen hco hbl hgl
  have Fe : Act.F (mkActIO D A fd s.heap.objs.size fa stk s.heap (b :: as) n pn b) = s.heap.objs.size :: framesOf stk := rfl
  have ff0 : FF (s.heap.objs.size :: framesOf stk) h0 := fun c hc => by
    rcases List.mem_cons.mp hc with rfl | hc
    · obtain ⟨o, es, ep, ho, hd, _⟩ := hns; exact ⟨o, es, ep, ho, hd⟩
    · obtain ⟨o, es, k, ho, hd⟩ := ff c hc; exact ⟨o, es, k, hk0 c o ho, hd⟩
  have rdv := rd.kp hk0
  have hfp : ∀ y, ∃ bs : List Addr, ∀ sl, (slots names ds).lookup y = some sl → ∃ v, ((pn :: names).zip (Value.ref b :: vs)).reverse.lookup y = some v ∧ Rd D.prog D.w h0 v sl.d bs ∧ ∀ c ∈ bs, c ∈ as := fun y => by
    cases q : (slots names ds).lookup y with
    | none => exact ⟨[], fun sl e => by cases e⟩
    | some sl =>
      obtain ⟨i, d, h1, h2, rfl, _⟩ := slots_lookup names ds y sl q
      obtain ⟨v, bs, hv, r, hs⟩ := rdv.get h2
      exact ⟨bs, fun sl e => by cases e; exact ⟨v, bindsLookup (pn :: names) (.ref b :: vs) hnd (i + 1) y v (by simpa using h1) (by simpa using hv), r, hs⟩⟩
  obtain ⟨fp, hfp⟩ := Classical.axiomOfChoice hfp
  have key : ∀ y sl, ((pn, (⟨.list xs, true⟩ : Slot)) :: slots names ds).lookup y = some sl → (y = pn ∧ sl = ⟨.list xs, true⟩) ∨ (y ≠ pn ∧ (slots names ds).lookup y = some sl) := fun y sl e => by
    rw [Ro.lookup_cons] at e
    by_cases hy : y = pn
    · rw [if_pos hy] at e; cases e; exact .inl ⟨hy, rfl⟩
    · rw [if_neg hy] at e; exact .inr ⟨hy, e⟩
  have fine : ∀ c, c ∈ b :: as → c ≠ s.heap.objs.size ∧ c ∉ s.heap.objs.size :: framesOf stk := fun c hc => by
    have h1 : c ≠ s.heap.objs.size := by
      rcases List.mem_cons.mp hc with rfl | hc
      · exact hbL
      · obtain ⟨o', ho'⟩ := rd.here c hc
        intro q; rw [q, Lnew] at ho'; cases ho'
    refine ⟨h1, fun q => ?_⟩
    rcases List.mem_cons.mp q with q | q
    · exact h1 q
    · rcases List.mem_cons.mp hc with rfl | hc
      · exact hbF q
      · exact (has c hc).1 q
  have hidb : (hideAll s.heap [b]).get? b = none := hideAll_none _ (.head _)
  have sat : Sat (mkActIO D A fd s.heap.objs.size fa stk s.heap (b :: as) n pn b) ((pn, ⟨.list xs, true⟩) :: slots names ds) (fun y => ((pn :: names).zip (Value.ref b :: vs)).reverse.lookup y) (fun y => if y = pn then [b] else fp y) (hideAll s.heap [b]) h0 := by
    have hpn : ((pn :: names).zip (Value.ref b :: vs)).reverse.lookup pn = some (.ref b) := bindsLookup (pn :: names) (.ref b :: vs) hnd 0 pn _ rfl rfl
    refine ⟨fun c o e => hk0 c o (kp c o e), fun c o e => ⟨o, hk0 c o e⟩, Kp.ext fun c o e => hk0 c o (of_hideAll _ e), L0, ?_, hns, ff0, fun y sl e => ?_, fun y sl e c hc => ?_, fun y sl e ow => ?_, fun y e => by cases e; exact hpn⟩
    · cases q : (hideAll s.heap [b]).get? s.heap.objs.size with
      | none => exact q
      | some o' => have := of_hideAll _ q; rw [Lnew] at this; cases this
    · rcases key y sl e with ⟨rfl, rfl⟩ | ⟨hy, e⟩
      · refine ⟨.ref b, hpn, ?_⟩
        simp only [if_pos]
        exact .list (hk0 _ _ hob) (rd0.kp hk0)
      · simp only [if_neg hy]
        obtain ⟨v, hv, r, _⟩ := hfp y sl e; exact ⟨v, hv, r⟩
    · have hc' : c ∈ b :: as := by
        rcases key y sl e with ⟨rfl, rfl⟩ | ⟨hy, e⟩
        · simp only [if_pos] at hc; rw [List.mem_singleton] at hc; rw [hc]; exact .head _
        · simp only [if_neg hy] at hc
          obtain ⟨v, hv, r, hs⟩ := hfp y sl e; exact .tail _ (hs c hc)
      exact ⟨(fine c hc').1, (fine c hc').2, .inr hc'⟩
    · rcases key y sl e with ⟨rfl, rfl⟩ | ⟨hy, e⟩
      · refine ⟨b, [], by simp, hpn, rfl, hidb, hb0, fun q => (nomatch q), fun z sl' hz e' q => ?_⟩
        rw [if_neg hz] at q
        rcases key z sl' e' with ⟨hz', _⟩ | ⟨_, e'⟩
        · exact hz hz'
        · obtain ⟨v, hv, r, hs⟩ := hfp z sl' e'
          exact (has b (hs b q)).2 rfl
      · obtain ⟨_, _, _, _, rfl, _⟩ := slots_lookup names ds y sl e; cases ow
  have ret : ∀ ρ' m' fp' v d as' h tk, Sat (mkActIO D A fd s.heap.objs.size fa stk s.heap (b :: as) n pn b) ρ' m' fp' (hideAll s.heap [b]) h → Rd D.prog D.w h v d as' → atom d = true →
      (∃ xs', ρ'.lookup pn = some ⟨.list xs', true⟩ ∧ atoms xs' = true ∧ P d xs') → Q v { s with heap := h, toks := tk } := by
    intro ρ' m' fp' v d as' h tk sat' rdv' hat ⟨xs', hx', hxs, p⟩
    obtain rfl := rdv'.atom hat
    obtain ⟨b', r', vs1, n1, e1, e2, ho1, rd1⟩ := sat'.ownList hx'
    have hbb : b' = b := by
      have := sat'.pin pn rfl
      rw [e2] at this; exact Value.ref.inj (Option.some.inj this)
    subst hbb
    obtain rfl := RdAll.atoms rd1 hxs
    refine K v d h tk vs1 n1 xs' sat'.top (fun c o hc e => ?_) ho1 rd1 hxs rdv' p
    have hcL : c ≠ s.heap.objs.size := fun q => by rw [q, Lnew] at e; cases e
    obtain ⟨z1, z2⟩ := sat'.gx c o (hideAll_get _ e fun q => hc (List.mem_singleton.mp q))
    exact ⟨fun z => z1 fun q => (List.mem_cons.mp (Fe ▸ q)).elim hcL z, z2⟩
  refine h A s.heap.objs.size stk s.heap (b :: as) b O _ _ _ (hideAll s.heap [b]) _ _ sat (fun ρ' m' fp' h tk q p => ?_) (fun ρ' m' fp' h tk q p => p.elim) fun ρ' m' fp' v d as' h tk r p => ?_
  · exact ret ρ' m' fp' .none .none [] h tk q .none rfl p
  · obtain ⟨xs', p1, p2, p3, p4⟩ := p
    exact ret ρ' m' fp' v d as' h tk r.sat r.rd p3 ⟨xs', p1, p2, p4⟩

section
variable {a : Act} {E : Value → Shared → Prop} {ρ : Ro} {N C : Ro → Prop} {R : Ro → PyData → Prop}

theorem callIO (O : a.Ok) {x y : Str} {np yp cp : Pos} {e : Expr} {rest : List Expr} {k : Nat} {xs : List PyData} (hy : ρ.lookup y = some ⟨.list xs, true⟩) (hat : atoms xs = true)
    {m : Str → Option Value} {fp : Str → List Addr} {g : Heap} {s : Shared} {Q : Value → Shared → Prop} (hs : Sat a ρ m fp g s.heap) {M' : PyData → Ro → Prop}
    (h : EvL a E ρ (e :: rest) cp fun ds fl => 1 ≤ fl ∧ ∃ P', FnIO a.D k x xs ds P' ∧ ∀ d xs', P' d xs' → M' d (ρ.set y ⟨.list xs', true⟩))
    (hk : k + 1 ≤ a.n) (hx : a.env.kindOf x = some .globalImplicit) (hl : a.env.kindOf y = some .local) (hd : (x == ("__debug__" : Str)) = false) (hd2 : (y == ("__debug__" : Str)) = false)
    (he0 : starEach (.Name y yp :: e :: rest) a.env = (false, eval (.Name y yp) a.env) :: starEach (e :: rest) a.env)
    (he : starEach (e :: rest) a.env = (false, eval e a.env) :: starEach rest a.env) (hfn : ∃ fa, IsFn a.D x fa)
    (K : ∀ v d ρ' m' fp' h2 tk, Sat a ρ' m' fp' g h2 → Rd a.D.prog a.D.w h2 v d [] → M' d ρ' → Q v { s with heap := h2, toks := tk }) : wpAny a.M a.A (eval (.Call (.Name x np) (.Name y yp :: e :: rest) [] cp) a.env) Q E s := by
  obtain ⟨fa, hm, o, fd, ho, hdat⟩ := hfn
  obtain ⟨b, r, vs0, n0, e1, e2, hb, q⟩ := hs.ownList hy
  obtain rfl := RdAll.atoms q hat
  refine Call_ (Name_function_global O.kind hx (loadGlobal_global (env := a.env) (by rw [O.glob]; exact O.D.g.keeps hs.top) hm ?_) hd)
  refine callWith_def (o := o) hdat ?_ he0
  rw [he0]
  refine spliced_cons (wpAny_Name (wpAny_loadName_local O.kind hl hs.ns e2 ?_) hd2)
  refine h m fp g s _ hs fun vs ds fl as h1 tk rr p => ⟨rr.sat.top _ _ ho, ?_⟩
  obtain ⟨hfl, P', ⟨fa', f1, f2⟩, hP⟩ := p
  have : fa' = fa := by have := f1.mg; rw [hm] at this; cases this; rfl
  subst this
  have hdep := O.depth
  have hun := O.units
  obtain ⟨b', r', vs1, n1, g1, g2, hb1, q1⟩ := rr.sat.ownList hy
  rw [e1] at g1; cases g1
  have fb := rr.sat.fpok y _ hy b (by rw [e1]; exact .head _)
  obtain ⟨b', r', k1, _, _, k4, k5, _⟩ := rr.sat.own y _ hy rfl
  rw [e1] at k1; cases k1
  have fo := rr.fo hfl
  refine f2 a.A a.stk E _ b vs1 n1 vs as Q ⟨O.frames, O.stk, O.hd, by omega, by omega⟩ rr.sat.top rr.sat.ff hb1 q1 rr.rd (fun c hc => ⟨(rr.ok c hc).2.1, fun z => fo.cl y _ b [] hy rfl e1 hfl (z ▸ hc)⟩) fb.2.1 k5 ?_
  intro v d h2 tk2 vs2 n2 xs' kp bt hb2 q2 hat2 rdv pd
  refine K v d _ _ _ h2 tk2 (Sat.change rr.sat hy e1 O bt _ hb2 (d' := .list xs') (r' := []) rfl (fun _ _ => .list hb2 q2) (fun c hc => nomatch hc) fun _ _ _ _ _ _ _ hc => nomatch hc) rdv (hP d xs' pd)

/-- f(y, ..) as a statement, f gives None -/
theorem Ex1.callIO (O : a.Ok) {x y : Str} {np yp cp pos : Pos} {e : Expr} {rest : List Expr} {k : Nat} {xs : List PyData} (hy : ρ.lookup y = some ⟨.list xs, true⟩) (hat : atoms xs = true)
    (h : EvL a E ρ (e :: rest) cp fun ds fl => 1 ≤ fl ∧ ∃ P', FnIO a.D k x xs ds P' ∧ ∀ d xs', P' d xs' → d = .none ∧ N (ρ.set y ⟨.list xs', true⟩))
    (hfn : ∃ fa, IsFn a.D x fa)
    (hk : k + 1 ≤ a.n := by decide) (hx : a.env.kindOf x = some .globalImplicit := by rfl) (hl : a.env.kindOf y = some .local := by rfl) (hd : (x == ("__debug__" : Str)) = false := by decide) (hd2 : (y == ("__debug__" : Str)) = false := by decide)
    (he0 : starEach (.Name y yp :: e :: rest) a.env = (false, eval (.Name y yp) a.env) :: starEach (e :: rest) a.env := by rfl)
    (he : starEach (e :: rest) a.env = (false, eval e a.env) :: starEach rest a.env := by rfl) (hi : interactive a.env = false := by rfl) :
    Ex1 a E ρ (.Expr (.Call (.Name x np) (.Name y yp :: e :: rest) [] cp) pos) N R C := by
  intro m fp g s Q hs k1 _ _
  refine wpAny_Expr (Mine.callIO O hy hat hs (M' := fun d ρ' => d = .none ∧ N ρ') h hk hx hl hd hd2 he0 he hfn fun v d ρ' m' fp' h2 tk sat rd p => ?_) hi rfl
  obtain ⟨rfl, p⟩ := p
  obtain ⟨rfl, _⟩ := rd.none_inv
  exact k1 ρ' m' fp' h2 tk sat p
/-- z = f(y, ..) -/
theorem Ex1.assignIO (O : a.Ok) {x y z : Str} {zp np yp cp pos : Pos} {e : Expr} {rest : List Expr} {k : Nat} {xs : List PyData} (hy : ρ.lookup y = some ⟨.list xs, true⟩) (hat : atoms xs = true)
    (h : EvL a E ρ (e :: rest) cp fun ds fl => 1 ≤ fl ∧ ∃ P', FnIO a.D k x xs ds P' ∧ ∀ d xs', P' d xs' → N ((ρ.set y ⟨.list xs', true⟩).set z ⟨d, false⟩))
    (hfn : ∃ fa, IsFn a.D x fa)
    (hk : k + 1 ≤ a.n := by decide) (hx : a.env.kindOf x = some .globalImplicit := by rfl) (hl : a.env.kindOf y = some .local := by rfl) (hz : a.env.kindOf z = some .local := by rfl)
    (hd : (x == ("__debug__" : Str)) = false := by decide) (hd2 : (y == ("__debug__" : Str)) = false := by decide)
    (he0 : starEach (.Name y yp :: e :: rest) a.env = (false, eval (.Name y yp) a.env) :: starEach (e :: rest) a.env := by rfl)
    (he : starEach (e :: rest) a.env = (false, eval e a.env) :: starEach rest a.env := by rfl) (hp : a.pinN ≠ some z := by first | exact nofun | exact pin_ne (by rfl))
    (hs' : swapsWith (.Call (.Name x np) (.Name y yp :: e :: rest) [] cp) (some (.Name z zp)) pos.line a.env = pure false := by rfl) :
    Ex1 a E ρ (.Assign [.Name z zp] (.Call (.Name x np) (.Name y yp :: e :: rest) [] cp) pos) N R C := by
  intro m fp g s Q hs k1 _ _
  refine wpAny_Assign_Name (Mine.callIO O hy hat hs (M' := fun d ρ' => N (ρ'.set z ⟨d, false⟩)) h hk hx hl hd hd2 he0 he hfn fun v d ρ' m' fp' h2 tk sat rd p => ?_) hs'
  exact storeName_sat O sat (s := { s with heap := h2, toks := tk }) (Res.val sat rd) (by decide) false (by intro q; cases q) hz hp fun h3 tk3 q => k1 _ _ _ _ _ q p
end
end Mine
end

section
open PySem PySem.W PySem.Calls PyProof.Rows
open PySem.Builtin PySem.Builtin.Str
set_option maxRecDepth 100000
set_option autoImplicit false
set_option linter.unusedVariables false
namespace Mine

section
variable {a : Act} {E : Value → Shared → Prop} {ρ : Ro} {P : PyData → Nat → Prop}

/-- o.strip() -/
theorem Ev.strip (O : a.Ok) {o : Expr} {apos pos : Pos} (h : Ev a E ρ o fun d _ => ∃ x, d = .str x ∧ x.length ≤ sizeLine ∧ P (.str (Txt.strip x)) 2)
    (hbase : attributeBase o "strip" a.env (eval o a.env) = eval o a.env := by rfl) (hline : (apos.endLine == pos.line) = true := by rfl) : Ev a E ρ (.Call (.Attribute o "strip" apos) [] [] pos) P := by
  intro m fp g s Q hs K
  refine Call_method0 hbase hline (h m fp g s _ hs fun v d f as h1 tk r p => ?_)
  obtain ⟨x, rfl, hx, p⟩ := p
  obtain ⟨⟨t, rfl⟩, rfl⟩ := r.rd.str_inv
  exact SB.strip (fun t' k => K _ _ _ _ h1 k (r.made (.str _ _)) p) hx
theorem Ev.rstrip (O : a.Ok) {o : Expr} {apos pos : Pos} (h : Ev a E ρ o fun d _ => ∃ x, d = .str x ∧ x.length ≤ sizeLine ∧ P (.str (Txt.rstrip x)) 2)
    (hbase : attributeBase o "rstrip" a.env (eval o a.env) = eval o a.env := by rfl) (hline : (apos.endLine == pos.line) = true := by rfl) : Ev a E ρ (.Call (.Attribute o "rstrip" apos) [] [] pos) P := by
  intro m fp g s Q hs K
  refine Call_method0 hbase hline (h m fp g s _ hs fun v d f as h1 tk r p => ?_)
  obtain ⟨x, rfl, hx, p⟩ := p
  obtain ⟨⟨t, rfl⟩, rfl⟩ := r.rd.str_inv
  exact SB.rstrip (fun t' k => K _ _ _ _ h1 k (r.made (.str _ _)) p) hx

theorem RdAll.texts {prog : Program} {w : World} {h : Heap} : ∀ {texts : List Str} {vs : List Value} {as : List Addr}, RdAll prog w h vs (texts.map PyData.str) as → ∃ l, vs = strValues l ∧ l.map (·.1) = texts
  | [], _, _, r => by cases r; exact ⟨[], rfl, rfl⟩
  | x :: texts, _, _, r => by
    cases r with
    | cons r q =>
      obtain ⟨⟨t, rfl⟩, _⟩ := r.str_inv
      obtain ⟨l, rfl, e⟩ := RdAll.texts q
      exact ⟨(x, t) :: l, rfl, by simp [e]⟩
theorem RdAll.ofTexts {prog : Program} {w : World} {h : Heap} : ∀ (l : List (Str × Tok)), RdAll prog w h (strValues l) ((l.map (·.1)).map PyData.str) []
  | [] => .nil
  | (x, t) :: l => by have := RdAll.cons (prog := prog) (w := w) (h := h) (.str x t) (RdAll.ofTexts l); simpa [strValues] using this

/-- sep.join(list of texts) -/
theorem Ev.join (O : a.Ok) {o e : Expr} {apos pos : Pos} (h : Ev a E ρ o fun d _ => ∃ x, d = .str x ∧ Ev a E ρ e fun d2 _ => ∃ texts : List Str, d2 = .list (texts.map PyData.str) ∧ JoinOk x texts = true ∧ P (.str (Txt.join x texts)) 2)
    (hbase : attributeBase o "join" a.env (eval o a.env) = eval o a.env := by rfl) (hline : (apos.endLine == pos.line) = true := by rfl)
    (hs1 : starEach [e] a.env = [(false, eval e a.env)] := by rfl) : Ev a E ρ (.Call (.Attribute o "join" apos) [e] [] pos) P := by
  intro m fp g s Q hs K
  refine Call_method1 hbase hs1 hline (h m fp g s _ hs fun v d f as h1 tk r p => ?_)
  obtain ⟨x, rfl, p⟩ := p
  obtain ⟨⟨t, rfl⟩, rfl⟩ := r.rd.str_inv
  refine SB.join (p m fp g _ _ r.sat fun v2 d2 f2 as2 h2 tk2 r2 p2 => ?_)
  obtain ⟨texts, rfl, hok, p2⟩ := p2
  obtain ⟨D, vs, n, bs, rfl, rfl, ho, q⟩ := r2.rd.list_inv
  obtain ⟨l, rfl, e⟩ := RdAll.texts q
  exact ⟨D, l, rfl, ⟨_, ho, rfl, n, rfl⟩, texts, e, hok, fun t' k => K _ _ _ _ h2 k ((r2.from r.ext).made (.str _ _)) p2⟩

/-- o.split(y, k), y and k written -/
theorem Ev.split (O : a.Ok) {o : Expr} {apos pos p1 p2 : Pos} {y : Str} {k : Int} {k1 k2 : Nat} (h : Ev a E ρ o fun d _ => ∃ x, d = .str x ∧ x.length + 2 ≤ sizeLine ∧ P (.list ((Txt.splitMax x y k).map PyData.str)) 2)
    (hy : (y.length == 0) = false := by rfl) (hk : (decide (k < -(2 ^ 63 : Int)) || decide (k ≥ 2 ^ 63)) = false := by decide)
    (hbase : attributeBase o "split" a.env (eval o a.env) = eval o a.env := by rfl) (hline : (apos.endLine == pos.line) = true := by rfl) :
    Ev a E ρ (.Call (.Attribute o "split" apos) [.Constant (.str y) k1 p1, .Constant (.int k) k2 p2] [] pos) P := by
  intro m fp g s Q hs K
  refine wpAny_Call_method (T := "str") (id := "str.split") hbase rfl hline F.plainAttrs_str F.slot_str_split F.type_str_split (h m fp g s _ hs fun v d f as h1 tk r p => ?_)
  obtain ⟨x, rfl, hx, p⟩ := p
  obtain ⟨⟨t, rfl⟩, rfl⟩ := r.rd.str_inv
  refine ⟨typeIs_str _ _ _, (fun _ e => nomatch e), ?_⟩
  refine Calls.callWith_builtin rfl (evalArgs_plain ?_)
  refine spliced_cons (wpAny_Constant_str (k := k1) (pos := p1) (spliced_cons (wpAny_Constant_int (k := k2) (pos := p2) (spliced_nil ?_))))
  show wpAny a.M a.A (PySem.call (.builtin "str.split") [.str x t, .str y tk, .int k (tk + 1)]) Q E { s with heap := h1, toks := tk + 1 + 1 }
  have hn : (partsBetween x (occurrences x y 0 x.length (limitOf x k)) y.length).length ≤ sizeLine := by
    have e1 := StrLaws.occ_length_le_len x y 0 x.length (limitOf x k)
    rw [length_partsBetween]; omega
  have fin : ∀ l tk', l.map (·.1) = Txt.splitMax x y k → Q (.ref h1.objs.size) { s with heap := h1.push { cls := .type "list", data := .seq (strValues l).toArray }, toks := tk' } := fun l tk' e => by
    have r2 := Res.newList O r.sat r.ext (RdAll.ofTexts l) (Fo.nil 2) (by decide)
    rw [e] at r2
    exact K _ _ _ _ _ _ r2 p
  cases h1' : (decide (x.length < y.length) || decide (strKind x < strKind y))
  · cases hf : (occurrences x y 0 x.length (limitOf x k)).isEmpty
    · refine call_meets F.slot_str_split (typeIs_str _ _ _) F.entry_str_split (F.args_str_split_3 _ _ _) (meets_str_split_sep_max x y k t _ _ hk h1' hy hf (by omega) hn) ?_
      show wants Q E _ { s with toks := _, heap := h1.push { cls := .type "list", data := .seq (strsFrom _ (partsBetween x (occurrences x y 0 x.length (limitOf x k)) y.length)).toArray } }
      rw [strsFrom_eq]
      exact fin (numbered _ _) _ ((numbered_texts _ _).trans ((if_neg (ne_true_of_eq_false h1')).trans (if_neg (ne_true_of_eq_false hf))).symm)
    · exact call_meets F.slot_str_split (typeIs_str _ _ _) F.entry_str_split (F.args_str_split_3 _ _ _) (meets_str_split_max_not_found x y k t _ _ hk h1' hy hf)
        (fin [(x, t)] _ ((if_neg (ne_true_of_eq_false h1')).trans (if_pos hf)).symm)
  · exact call_meets F.slot_str_split (typeIs_str _ _ _) F.entry_str_split (F.args_str_split_3 _ _ _) (meets_str_split_max_cannot_occur x y k t _ _ hk h1')
      (fin [(x, t)] _ (if_pos h1').symm)

/-- len(e) -/
theorem Ev.len (O : a.Ok) {np pos : Pos} {e : Expr} (h : Ev a E ρ e fun d _ => match d with
      | .str x => x.length ≤ sizeLine ∧ P (.int x.length) 2
      | .list xs => xs.length ≤ sizeLine ∧ P (.int xs.length) 2
      | _ => False)
    (hg : a.D.mg "len" = none) (hx : a.env.kindOf "len" = some .globalImplicit := by rfl)
    (he : starEach [e] a.env = (false, eval e a.env) :: starEach [] a.env := by rfl) : Ev a E ρ (.Call (.Name "len" np) [e] [] pos) P := by
  intro m fp g s Q hs K
  refine Call_ (builtin_name O hs PyProof.Rows.Boot.«len» hg (by decide) ?_ hx)
  refine PyProof.Rows.callWith_builtin1 ?_ he rfl
  rw [he]
  refine spliced_cons (h m fp g s _ hs fun v d f as h1 tk r p => spliced_nil ?_)
  cases d with
  | none | bool _ | int _ | tuple _ | dict _ => exact p.elim
  | str x =>
    obtain ⟨⟨t, rfl⟩, rfl⟩ := r.rd.str_inv
    exact PySem.P.len_str (by have := p.1; rw [sizeLine_eq] at this; omega) (K _ _ _ _ h1 _ (r.made (.int _ _)) p.2)
  | list xs =>
    obtain ⟨D, vs, n, bs, rfl, rfl, ho, q⟩ := r.rd.list_inv
    have hl : xs.length = vs.toArray.size := by simp [q.length]
    refine call_len_list (items := vs.toArray) ⟨_, ho, rfl, n, rfl⟩ (by have := p.1; rw [hl, sizeLine_eq] at this; omega) ?_
    have p2 := p.2
    rw [hl] at p2
    exact K _ _ _ _ h1 _ (r.made (.int _ _)) p2

/-- {} -/
theorem Ev.dict0 (O : a.Ok) {pos : Pos} (h : P (.dict []) 2) : Ev a E ρ (.Dict [] [] pos) P := by
  intro m fp g s Q hs K
  refine wpAny_Dict_empty ?_
  have kp := Kp.push s.heap { cls := .type "dict", data := .dict #[] }
  have nw := get_size_none s.heap
  have hb : (s.heap.objs.size == sysModules) = false := by
    refine beq_eq_false_iff_ne.mpr fun q => ?_
    obtain ⟨o, _, _, ho, _⟩ := O.D.g
    have h3 := Heap.lt_size (hs.top _ _ ho)
    rw [q] at h3
    exact absurd (h3 : (3 : Nat) < 1) (by decide)
  exact K _ _ _ _ _ s.toks ⟨hs.ext O kp.ext, kp.ext, .dict (ps := []) (Heap.DictOf.new (knd := strKind a.D.prog a.D.w) s.heap) .nil hb, Fo.new hs nw (Ext.refl a.F _) (by decide) (Fo.nil 2)⟩ h

theorem PairsAre.length {kvs : List (Str × Value)} {ps : List (Str × Str)} (h : PairsAre kvs ps) : kvs.length = ps.length := by
  induction h with
  | nil => rfl
  | cons _ _ ih => simp [ih]
end
end Mine
end

section
open PySem PySem.W PySem.Calls PyProof.Rows
set_option maxRecDepth 100000
set_option autoImplicit false
set_option linter.unusedVariables false
namespace Mine

/-- one pair put into a dict of texts -/
def dput (ps : List (Str × Str)) (k y : Str) : List (Str × Str) := if ps.any (fun p => decide (p.1 = k)) then ps.map (fun p => if p.1 = k then (p.1, y) else p) else ps ++ [(k, y)]

theorem PairsAre.any {kvs : List (Str × Value)} {ps : List (Str × Str)} (h : PairsAre kvs ps) (k : Str) : kvs.any (fun p => decide (p.1 = k)) = ps.any (fun p => decide (p.1 = k)) := by
  induction h with
  | nil => rfl
  | cons _ _ ih => simp only [List.any_cons, ih]
theorem PairsAre.over {kvs : List (Str × Value)} {ps : List (Str × Str)} (h : PairsAre kvs ps) (k y : Str) (t : Tok) : PairsAre (kvs.map (fun p => if p.1 = k then (p.1, Value.str y t) else p)) (ps.map (fun p => if p.1 = k then (p.1, y) else p)) := by
  induction h with
  | nil => exact .nil
  | @cons k' v x r q hx hr ih =>
    simp only [List.map_cons]
    by_cases e : k' = k
    · rw [if_pos e, if_pos e]; exact .cons ⟨t, rfl⟩ ih
    · rw [if_neg e, if_neg e]; exact .cons hx ih
theorem PairsAre.behind {kvs : List (Str × Value)} {ps : List (Str × Str)} (h : PairsAre kvs ps) (k y : Str) (t : Tok) : PairsAre (kvs ++ [(k, Value.str y t)]) (ps ++ [(k, y)]) := by
  induction h with
  | nil => exact .cons ⟨t, rfl⟩ .nil
  | cons hx hr ih => exact .cons hx ih
theorem PairsAre.put {kvs : List (Str × Value)} {ps : List (Str × Str)} (h : PairsAre kvs ps) (k y : Str) (t : Tok) : PairsAre (stored kvs k (.str y t)) (dput ps k y) := by
  unfold stored dput
  rw [h.any k]
  by_cases e : ps.any (fun p => decide (p.1 = k)) = true
  · rw [if_pos e, if_pos e]; exact h.over k y t
  · rw [if_neg e, if_neg e]; exact h.behind k y t

section
variable {a : Act} {E : Value → Shared → Prop} {ρ : Ro} {N C : Ro → Prop} {R : Ro → PyData → Prop}

theorem sPair_inj : ∀ {x y : List (Str × Str)}, x.map sPair = y.map sPair → x = y
  | [], [], _ => rfl
  | [], _ :: _, q => by cases q
  | _ :: _, [], q => by cases q
  | (u1, u2) :: x, (z1, z2) :: y, q => by
    simp only [List.map_cons, List.cons.injEq, sPair, Prod.mk.injEq, PyData.str.injEq] at q
    obtain ⟨⟨rfl, rfl⟩, q⟩ := q
    rw [sPair_inj q]

/-- x[key] = value, in a dict of texts -/
theorem Ex1.setItem (O : a.Ok) {x : Str} {np sp pos : Pos} {key value : Expr} {ps : List (Str × Str)} (hx : ρ.lookup x = some ⟨.dict (ps.map sPair), true⟩)
    (h : Ev a E ρ value fun dv _ => ∃ y, dv = .str y ∧ Ev a E ρ key fun dk _ => ∃ k, dk = .str k ∧ ps.length ≤ sizeLine ∧ N (ρ.set x ⟨.dict ((dput ps k y).map sPair), true⟩))
    (hl : a.env.kindOf x = some .local := by rfl) (hd : (x == ("__debug__" : Str)) = false := by decide)
    (hs' : swapsWith value (some (.Subscript (.Name x np) key sp)) pos.line a.env = pure false := by rfl) : Ex1 a E ρ (.Assign [.Subscript (.Name x np) key sp] value pos) N R C := by
  intro m fp g s Q hs k1 _ _
  refine wpAny_Assign_Subscript (h m fp g s _ hs fun v dv f as h1 tk r p => ?_) hs'
  obtain ⟨y, rfl, p⟩ := p
  obtain ⟨⟨ty, rfl⟩, _⟩ := r.rd.str_inv
  obtain ⟨b0, r0, e1, e2, _⟩ := r.sat.own x _ hx rfl
  refine wpAny_Name (wpAny_loadName_local O.kind hl r.sat.ns e2 ?_) hd
  refine p m fp g _ _ r.sat fun vk dk fk ask h2 tk2 r2 p2 => ?_
  obtain ⟨k, rfl, hlen, p2⟩ := p2
  obtain ⟨⟨tk', rfl⟩, _⟩ := r2.rd.str_inv
  obtain ⟨vb, hvb, rd⟩ := r2.sat.var x _ hx
  rw [e2] at hvb; cases hvb
  rw [e1] at rd
  obtain ⟨b, kvs, ps', e, e', eps, hdict, hp, hsm⟩ := rd.dict_inv
  cases e; cases e'
  obtain rfl := sPair_inj eps
  refine wpAny_setItem_pairs (knd := strKind a.D.prog a.D.w) (kvs := kvs) (k := k) (strKind_is _ _ _ _) hdict (fun h3 hd3 same => ?_) (by rw [hp.length]; exact hlen)
  obtain ⟨o3, es3, ep3, ho3, rest⟩ := id hd3
  refine k1 _ _ _ h3 _ (Sat.change r2.sat hx e1 O (but_of_same same) o3 ho3 (d' := .dict ((dput ps k y).map sPair)) (r' := []) rfl (fun _ _ => .dict hd3 (hp.put k y ty) hsm) (fun c hc => nomatch hc) fun _ _ _ _ _ _ _ hc => nomatch hc) p2

/-- x1, x2, .. = value, all plain -/
theorem Ex1.unpack (O : a.Ok) {elts : List Expr} {k : Nat} {tp pos : Pos} {value : Expr} {xs : List Str} (h : Ev a E ρ value fun d f => 1 ≤ f ∧ ∃ ds, d = .tuple ds ∧ xs.length = ds.length ∧ N (setAll ρ xs ds))
    (hn : namesOf elts = some xs) (hl : ∀ x ∈ xs, a.env.kindOf x = some .local ∧ a.pinN ≠ some x)
    (hs : swapsWithSole [.Tuple elts k tp] value pos.line a.env = pure false := by rfl) (hw : swappedStores [.Tuple elts k tp] value a.env = pure none := by rfl) : Ex1 a E ρ (.Assign [.Tuple elts k tp] value pos) N R C := by
  intro m fp g s Q hs0 k1 _ _
  refine Assign_Tuple (h m fp g s _ hs0 fun v d f as h1 tk r p => ?_) hs hw
  obtain ⟨hf, ds, rfl, hlen, p⟩ := p
  exact Asg.tuple (N := N) O p hn hlen hl m fp g _ v as _ r.sat r.rd ⟨r.fo.ok, r.fo.tl, fun y sl b q e ow z _ => r.fo.cl y sl b q e ow z hf, fun k => absurd k (by decide)⟩ fun ρ' m' fp' h2 tk2 q p => k1 ρ' m' fp' h2 tk2 q p

/-- x = y = value -/
theorem Ex1.assign2 (O : a.Ok) {x y : Str} {px py pos : Pos} {value : Expr} (h : Ev a E ρ value fun d f => atom d = true ∧ N ((ρ.set x ⟨d, false⟩).set y ⟨d, false⟩))
    (hl : a.env.kindOf x = some .local := by rfl) (hl2 : a.env.kindOf y = some .local := by rfl) (hp : a.pinN ≠ some x := by first | exact nofun | exact pin_ne (by rfl)) (hp2 : a.pinN ≠ some y := by first | exact nofun | exact pin_ne (by rfl))
    (hw : swappedStores [.Name x px, .Name y py] value a.env = pure none := by rfl) : Ex1 a E ρ (.Assign [.Name x px, .Name y py] value pos) N R C := by
  intro m fp g s Q hs0 k1 _ _
  refine wpAny_Assign_two (h m fp g s _ hs0 fun v d f as h1 tk r p => ?_) rfl hw
  obtain ⟨hat, p⟩ := p
  obtain rfl := r.rd.atom hat
  refine wpAny_assign_Name (storeName_sat O hs0 (s := { s with heap := h1, toks := tk }) (f := 2) (as := []) ⟨r.sat, r.ext, r.rd, Fo.nil 2⟩ (by decide) false (by intro q; cases q) hl hp fun h2 tk2 q => ?_)
  obtain ⟨v', hv', rd'⟩ := q.var x ⟨d, false⟩ (by rw [Ro.set_lookup, if_pos rfl])
  simp only [if_pos] at hv' rd'
  cases hv'
  exact wpAny_assign_Name (storeName_sat O q (s := { s with heap := h2, toks := tk2 }) (f := 2) (as := []) ⟨q, Ext.refl _ _, rd', Fo.nil 2⟩ (by decide) false (by intro q; cases q) hl2 hp2 fun h3 tk3 q3 => k1 _ _ _ _ _ q3 p)

def setAllOwn : Ro → List Str → List PyData → Ro
  | ρ, [x], [d] => ρ.set x ⟨d, true⟩
  | ρ, x :: xs, d :: ds => setAllOwn (ρ.set x ⟨d, false⟩) xs ds
  | ρ, _, _ => ρ

theorem assignNamesOwn (O : a.Ok) {b : Addr} {dl : PyData} (hmut : isMut dl = true) (hflat : flat dl = true) : ∀ {elts : List Expr} {xs : List Str} {ds : List PyData} {ρ : Ro}, namesOf elts = some xs → xs.length = ds.length + 1 → atoms ds = true →
    (∀ x ∈ xs, a.env.kindOf x = some .local ∧ a.pinN ≠ some x) →
    ∀ {vs : List Value} {m : Str → Option Value} {fp : Str → List Addr} {g : Heap} {s : Shared} {Q : Unit → Shared → Prop}, Sat a ρ m fp g s.heap → RdAll a.D.prog a.D.w s.heap vs (ds ++ [dl]) [b] → Fo a ρ fp s.heap 1 [b] →
    g.get? b = none → a.D.H0.get? b = none → (∀ z sl, ρ.lookup z = some sl → b ∉ fp z) →
    (∀ m' fp' h tk, Sat a (setAllOwn ρ xs (ds ++ [dl])) m' fp' g h → Q () { s with heap := h, toks := tk }) → wpAny a.M a.A (assignInOrder ((assignEach elts a.env).map (·.2)) vs) Q E s
  | [], _, _, ρ, e, hlen, _, _, vs, m, fp, g, s, Q, hs, r, fo, _, _, _, k => by cases e; simp at hlen
  | e1 :: rest, xs, ds, ρ, e, hlen, hat, hl, vs, m, fp, g, s, Q, hs, r, fo, hg, h0, hfree, k => by
    obtain ⟨x, p, ys, rfl, q, rfl⟩ := namesOf_cons e
    cases ds with
    | nil =>
      obtain rfl : ys = [] := by cases ys; rfl; simp at hlen
      have hr : rest = [] := by
        cases rest with
        | nil => rfl
        | cons e2 r2 => obtain ⟨_, _, _, _, _, z⟩ := namesOf_cons q; cases z
      subst hr
      generalize eb : [b] = bs at r
      cases r with
      | @cons v vs _ _ as1 as2 r1 r2 =>
        cases r2
        have hb1 : as1 = [b] := by simpa using eb.symm
        subst hb1
        show wpAny _ _ (do holding [] (assign (.Name x p) a.env v); assignInOrder ((assignEach [] a.env).map (·.2)) []) _ _ _
        refine wpAny_bind (wpAny_holding (wpAny_assign_Name ?_))
        refine wpAny_storeName_local (hl x (.head _)).1 hs.ns (fun h' hn hsb => ?_) (by rw [O.kind]; rfl)
        refine wpAny_pure (k _ _ h' _ (Sat.store O (f := 1) (as := [b]) (d := dl) ⟨hs, Ext.refl _ _, r1, fo⟩ (Nat.le_refl _) hn hsb true (fun _ => ⟨hmut, hflat, fun c hc => ?_⟩) (hl x (.head _)).2))
        obtain rfl := List.mem_singleton.mp hc
        exact ⟨hg, h0, fun z sl _ e => hfree z sl e⟩
    | cons d ds =>
      have hat' : atom d = true ∧ atoms ds = true := by simpa [atoms] using hat
      generalize eb : [b] = bs at r
      cases r with
      | @cons v vs _ _ as1 as2 r1 r2 =>
        obtain rfl := r1.atom hat'.1
        have hb2 : as2 = [b] := by simpa using eb.symm
        subst hb2
        show wpAny _ _ (do holding vs (assign (.Name x p) a.env v); assignInOrder ((assignEach rest a.env).map (·.2)) vs) _ _ _
        refine wpAny_bind (wpAny_holding (wpAny_assign_Name ?_))
        refine wpAny_storeName_local (hl x (.head _)).1 hs.ns (fun h' hn hsb => ?_) (by rw [O.kind]; rfl)
        have sat' := Sat.store O (f := 1) (as := []) (d := d) ⟨hs, Ext.refl _ _, r1, Fo.nil 1⟩ (Nat.le_refl _) hn hsb false (by intro q; cases q) (hl x (.head _)).2
        have r2' := r2.but (but_of_same hsb) hs.noSeqL hs.ff.noSeq fun c hc => ⟨(fo.ok c hc).1, (fo.ok c hc).2.1⟩
        have e3 : setAllOwn ρ (x :: ys) (d :: ds ++ [dl]) = setAllOwn (ρ.set x ⟨d, false⟩) ys (ds ++ [dl]) := by
          cases ys with
          | nil => simp at hlen
          | cons y ys => cases ds <;> rfl
        rw [e3] at k
        refine assignNamesOwn O hmut hflat q (by simpa using hlen) hat'.2 (fun y hy => hl y (.tail _ hy)) (s := { s with heap := h', toks := s.toks + 1 }) sat' r2' fo.set hg h0 (fun z sl e' => ?_) fun m' fp' h2 tk2 q => k m' fp' h2 tk2 q
        rw [Ro.set_lookup] at e'
        by_cases hz : z = x
        · simp [hz]
        · rw [if_neg hz] at e'; simp only [if_neg hz]; exact hfree z sl e'

/-- x1, .., xn = value, the last a new list or dict that this def owns, the others plain -/
theorem Ex1.unpackOwn (O : a.Ok) {elts : List Expr} {k : Nat} {tp pos : Pos} {value : Expr} {xs : List Str}
    (h : Ev a E ρ value fun d f => f = 2 ∧ ∃ ds dl, d = .tuple (ds ++ [dl]) ∧ isMut dl = true ∧ flat dl = true ∧ atoms ds = true ∧ xs.length = ds.length + 1 ∧ N (setAllOwn ρ xs (ds ++ [dl])))
    (hn : namesOf elts = some xs) (hl : ∀ x ∈ xs, a.env.kindOf x = some .local ∧ a.pinN ≠ some x)
    (hs : swapsWithSole [.Tuple elts k tp] value pos.line a.env = pure false := by rfl) (hw : swappedStores [.Tuple elts k tp] value a.env = pure none := by rfl) : Ex1 a E ρ (.Assign [.Tuple elts k tp] value pos) N R C := by
  intro m fp g s Q hs0 k1 _ _
  refine Assign_Tuple (h m fp g s _ hs0 fun v d f as h1 tk r p => ?_) hs hw
  obtain ⟨rfl, ds, dl, rfl, hmut, hflat, hat, hlen, p⟩ := p
  obtain ⟨t, vs, n, rfl, ht, q⟩ := r.rd.tuple_inv
  obtain ⟨l1, l2⟩ := assignEach_len (env := a.env) hn
  refine wpAny_assign_Tuple (t := t) (items := vs.toArray) O.hd ⟨_, ht, rfl, n, rfl⟩ (by rw [l1, hlen]; simp [q.length]) l2 fun h' hx => ?_
  have ex : Ext a.F h1 h' := Kp.ext fun b o e => hx b o (Nat.ne_of_lt (Heap.lt_size e)) e
  -- the one place
  have one : ∀ {ds : List PyData} {vs : List Value} {as : List Addr}, RdAll a.D.prog a.D.w h1 vs (ds ++ [dl]) as → atoms ds = true → ∃ b, as = [b] := by
    intro ds
    induction ds with
    | nil =>
      intro vs as r _
      cases r with
      | cons r1 r2 =>
        cases r2
        cases dl with
        | list xs =>
          obtain ⟨b, vs, n, bs, rfl, rfl, _, q⟩ := r1.list_inv
          obtain rfl := RdAll.atoms q hflat
          exact ⟨b, rfl⟩
        | dict kvs => obtain ⟨b, _, _, _, rfl, _⟩ := r1.dict_inv; exact ⟨b, rfl⟩
        | _ => cases hmut
    | cons d ds ih =>
      intro vs as r hat
      have hat' : atom d = true ∧ atoms ds = true := by simpa [atoms] using hat
      cases r with
      | cons r1 r2 =>
        obtain rfl := r1.atom hat'.1
        obtain ⟨b, rfl⟩ := ih r2 hat'.2
        exact ⟨b, rfl⟩
  obtain ⟨b, rfl⟩ := one q hat
  have nb := r.fo.fr (Nat.le_refl _) b (.head _)
  have np := hs0.newPlace O nb
  refine assignNamesOwn O hmut hflat hn hlen hat hl (s := { s with heap := h', toks := tk }) (r.sat.ext O ex) (q.ext ex r.sat.ff fun c hc => (r.fo.ok c hc).2.1) ⟨r.fo.ok, r.fo.tl, fun y sl c q e ow z _ => r.fo.cl y sl c q e ow z (by decide), fun k => absurd k (by decide)⟩ np.1 np.2.1
    (fun z sl e hm => ?_) fun m' fp' h2 tk2 z => k1 _ m' fp' h2 tk2 z p
  obtain ⟨u, _, rd⟩ := hs0.var z sl e
  obtain ⟨o, ho⟩ := rd.here b hm
  rw [nb] at ho; cases ho
end
end Mine
end

section
open PySem PySem.W PySem.Calls PyProof.Rows
set_option maxRecDepth 100000
set_option autoImplicit false
set_option linter.unusedVariables false
namespace Mine

/-- the tests of a comprehension's clause -/
abbrev testsOf (ifs : List Expr) (env : Env) : Sem Bool := forIn ifs true fun c r => if r = true then do let ok ← isTrue c env (eval c env); pure (ForInStep.yield ok) else pure (ForInStep.yield r)

section
variable {prog : Program} {w : World} {A : Around} {E : Value → Shared → Prop} {R : Result → Shared → Prop} {s : Shared}

theorem compLoop_turns {elt target iter : Expr} {ifs : List Expr} {scope : Scope} {pos : Pos} {it acc : Value} {env : Env} (I : Nat → Shared → Prop)
    (turn : ∀ n s, I n s → wpAny (model prog w) A (pyNext it) (fun r s₁ => match r with
      | none => R (.ok .next) s₁
      | some v => wpAny (model prog w) A (letOwnedTupleGo target it v) (fun _ s₁' => wpAny (model prog w) A (assign target env v) (fun _ s₂ =>
          wpAny (model prog w) A (testsOf ifs env) (fun ok s₃ =>
            if ok = true then wpAny (model prog w) A (eval elt env) (fun x s₄ =>
              wpAny (model prog w) A (call (.builtin "list.append") [acc, x]) (fun _ s₅ => ∃ m, m < n ∧ I m s₅) (notedBy (model prog w) A env fun e s' => R (.error e) s') s₄) (notedBy (model prog w) A env fun e s' => R (.error e) s') s₃
            else ∃ m, m < n ∧ I m s₃) (notedBy (model prog w) A env fun e s' => R (.error e) s') s₂) (notedBy (model prog w) A env fun e s' => R (.error e) s') s₁') (notedBy (model prog w) A env fun e s' => R (.error e) s') s₁) (notedBy (model prog w) A env fun e s' => R (.error e) s') s)
    (n : Nat) (h : I n s) :
    codeAny (model prog w) A (.compLoop (.ListComp elt [⟨target, iter, ifs, 0⟩] scope pos) 0 it acc env) R s := by
  refine codeAny_loop rfl I (fun n s hI => ?_) n h
  show wpAny _ A ((compTurn (.ListComp elt [⟨target, iter, ifs, 0⟩] scope pos) 0 it acc env).onRaise (fun x => do noteFrame x env; theTreesLotGoes x)) _ _ s
  refine wpAny_noted ?_
  rw [compTurn_list]
  refine wpAny_bind (wpAny_standAt (wpAny_bind (wpAny_mono (turn n s hI) (fun r s₁ h₁ => ?_) fun _ _ h' => h')))
  cases r with
  | none => exact wpAny_pure h₁
  | some v =>
    refine wpAny_bind (wpAny_mono h₁ (fun _ s₁' h₁ => ?_) fun _ _ h' => h')
    refine wpAny_bind (wpAny_mono h₁ (fun _ s₂ h₂ => wpAny_bind (wpAny_mono h₂ (fun ok s₃ h₃ => ?_) fun _ _ h' => h')) fun _ _ h' => h')
    cases ok with
    | false => exact wpAny_pure ⟨rfl, h₃⟩
    | true =>
      exact wpAny_bind (wpAny_bind (wpAny_mono h₃ (fun x s₄ h₄ => wpAny_bind (wpAny_mono h₄ (fun _ s₅ h₅ => wpAny_pure (wpAny_pure ⟨rfl, h₅⟩)) fun _ _ h' => h')) fun _ _ h' => h'))
end

theorem But.trans {F : List Addr} {S : Addr → Prop} {h1 h2 h3 : Heap} (x : But F S h1 h2) (y : But F S h2 h3) : But F S h1 h3 := fun b o hb e => by
  obtain ⟨p, sl, q⟩ := x b o hb e
  obtain ⟨_, sl', q'⟩ := y b _ hb q
  exact ⟨fun z => (y b o hb (p z)).1 z, sl', q'⟩
theorem But.mono {F : List Addr} {S S' : Addr → Prop} {h h' : Heap} (x : But F S h h') (hS : ∀ b, S b → S' b) : But F S' h h' := fun b o hb => x b o fun q => hb (hS b q)
theorem FF.but {F : List Addr} {S : Addr → Prop} {h h' : Heap} (x : FF F h) (k : But F S h h') (hS : ∀ b ∈ F, ¬ S b) : FF F h' := fun b hb => by
  obtain ⟨o, es, n, ho, hd⟩ := x b hb
  obtain ⟨_, sl, q⟩ := k b o (hS b hb) ho
  exact ⟨_, es, n, q, hd⟩

/-- the activation within a comprehension -/
def compAct (a : Act) (scope : Scope) (cl : List (Str × Addr)) (C : Addr) (H1 : Heap) (args : List Addr) : Act :=
  { D := a.D, A := a.A, env := compEnvC scope cl C a.env, stk := a.stk, H1 := H1, args := args, n := a.n }
theorem compAct_ok {a : Act} (O : a.Ok) {scope : Scope} {cl : List (Str × Addr)} {C : Addr} {H1 : Heap} {args : List Addr} (hk : scope.kind = .function) : (compAct a scope cl C H1 args).Ok :=
  ⟨O.D, O.frames, O.stk, O.hd, O.depth, O.units, hk, O.glob, O.blt, O.seer⟩

section
variable {a : Act} {E : Value → Shared → Prop} {ρ : Ro} {N C : Ro → Prop} {R : Ro → PyData → Prop} {P : PyData → Nat → Prop}

theorem Sat.apart (O : a.Ok) {S : Addr → Prop} {m : Str → Option Value} {fp : Str → List Addr} {g h h' : Heap} (x : Sat a ρ m fp g h) (k : But a.F S h h') (ns : NoSeq S h)
    (hS : ∀ b, S b → g.get? b = none ∧ a.D.H0.get? b = none ∧ b ≠ a.L ∧ b ∉ a.F ∧ (∀ y sl, ρ.lookup y = some sl → b ∉ fp y) ∧ (a.H1.get? b = none ∨ ∃ o, h'.get? b = some o)) : Sat a ρ m fp g h' := by
  refine ⟨fun b o e => (k b o (fun q => by rw [(hS b q).2.1] at e; cases e) (x.top b o e)).1 (fun q => by rw [framesOf_new O.stk b q] at e; cases e), fun b o e => ?_, fun b o e => ?_, x.lnew, x.lg, ?_,
    x.ff.but k fun b hb q => (hS b q).2.2.2.1 hb, fun y sl e => ?_, x.fpok, x.own, x.pin⟩
  · by_cases q : S b
    · rcases (hS b q).2.2.2.2.2 with z | z
      · rw [z] at e; cases e
      · exact z
    · obtain ⟨o', e'⟩ := x.dom b o e
      obtain ⟨_, sl, q'⟩ := k b o' q e'
      exact ⟨_, q'⟩
  · have hb : ¬ S b := fun q => by rw [(hS b q).1] at e; cases e
    obtain ⟨p, sl, q⟩ := x.gx b o e
    obtain ⟨_, sl', q'⟩ := k b _ hb q
    exact ⟨fun z => (k b o hb (p z)).1 z, sl', q'⟩
  · obtain ⟨o, es, ep, ho, hd, r⟩ := x.ns
    obtain ⟨_, sl, q⟩ := k _ o (fun q => (hS _ q).2.2.1 rfl) ho
    exact ⟨_, es, ep, q, hd, r⟩
  · obtain ⟨v, hv, r⟩ := x.var y sl e
    exact ⟨v, hv, r.but k ns x.ff.noSeq fun b hb => ⟨fun q => (hS b q).2.2.2.2.1 y sl e hb, (x.fpok y sl e b hb).2.1⟩⟩

theorem noSeqC {D C : Addr} {wr : List Addr} {h : Heap} {m : Str → Option Value} {vs : List Value} {n : Nat} (hn : h.Ns C m) (hD : h.get? D = some (listO vs n)) (fw : Foreign wr h) : NoSeq (· ∈ C :: D :: wr) h := fun b o hb ho us k q => by
  rcases List.mem_cons.mp hb with rfl | hb
  · obtain ⟨o', _, _, ho', hd, _⟩ := hn
    rw [ho'] at ho; cases ho; rw [q] at hd; cases hd
  · rcases List.mem_cons.mp hb with rfl | hb
    · rw [hD] at ho; cases ho
      have z : Value.type "list" = Value.type "tuple" := congrArg Obj.cls q
      exact absurd z (by decide)
    · exact fw.noSeq b o hb ho us k q

set_option maxHeartbeats 2000000 in
theorem comp_core (O : a.Ok) {elt target iter : Expr} {ifs : List Expr} {scope : Scope} {cl : List (Str × Addr)} {pos : Pos} {RR : Value → Addr → Result → Shared → Prop}
    (hcell : ∀ y ∈ scope.names, y.2 ≠ .cell) (hkind : scope.kind = .function) {I : Addr} {fpW wr sup : List Addr} {its : List PyData} {P : Nat → Value → Prop} {St : Nat → Heap → Prop}
    (W : Walks a.D.prog a.D.w a.A I fpW wr its.length P St) (fw : ∀ i h, St i h → Foreign wr h)
    (go : ∀ i (s : Shared) v d as (Q : Unit → Shared → Prop) (E' : Value → Shared → Prop), St i s.heap → Rd a.D.prog a.D.w s.heap v d as → d ∈ its → Q () s → wpAny a.M a.A (letOwnedTupleGo target (.ref I) v) Q E' s)
    (hsz : its.length ≤ sizeLine) (hsup : ∀ b ∈ sup, b ∉ wr) (p : PyData → Bool) (f : PyData → PyData)
    (turn : ∀ C H1 args, (compAct a scope cl C H1 args).Ok → ∀ x ∈ its, ∀ E', Asg (compAct a scope cl C H1 args) E' [] target x fun ρ2 =>
      RunB (compAct a scope cl C H1 args) E' ρ2 (testsOf ifs (compEnvC scope cl C a.env)) fun b => b = p x ∧ (b = true → Ev (compAct a scope cl C H1 args) E' ρ2 elt fun d _ => d = f x))
    {m : Str → Option Value} {fp : Str → List Addr} {g : Heap} {s₂ : Shared} (hs : Sat a ρ m fp g s₂.heap) (hst : St 0 s₂.heap) (hi : Items a P its sup s₂.heap)
    (hok : ∀ b ∈ fpW ++ sup, b ≠ a.L ∧ b ∉ a.F ∧ ∃ o, s₂.heap.get? b = some o)
    (wr0 : ∀ b ∈ wr, ∀ o, a.D.H0.get? b ≠ some o)
    (hRR : ∀ D C h' tk m' vs bs n, s₂.heap.get? D = none → s₂.heap.get? C = none → D ≠ C → h'.Ns C m' → h'.get? D = some (listO vs n) → RdAll a.D.prog a.D.w h' vs ((its.filter p).map f) bs →
      (∀ b ∈ bs, b ≠ C ∧ b ≠ D ∧ b ∉ a.F ∧ (s₂.heap.get? b = none ∨ b ∈ sup)) → But a.F (· ∈ wr) s₂.heap h' → RR (.ref D) C (.ok .next) { s₂ with heap := h', toks := tk }) :
    wpAny a.M a.A (newList []) (fun acc s₃ => wpAny a.M a.A (newFunctionEnv scope a.env.globals cl [] a.env.qual none .none (some a.env)) (fun cenv s₄ =>
      codeAny a.M a.A (.compStart (.ListComp elt [⟨target, iter, ifs, 0⟩] scope pos) 0 (.ref I) acc { cenv with scope := relabel scope a.env }) (RR acc cenv.locals) s₄) E s₃) E s₂ := by
  refine wpAny_newObj_type (hd := by size_fits) (wpAny_newFunctionEnv hcell (by intro y hy; simp at hy) (fun h₁ hns₁ hsb₁ => ?_) hkind)
  dsimp only at hns₁ hsb₁ ⊢
  generalize hH2 : s₂.heap.push { cls := .type "list", dict := none, data := .seq ([] : List Value).toArray } = H2 at hns₁ hsb₁ ⊢
  have hC : H2.objs.size = s₂.heap.objs.size + 1 := by rw [← hH2, Heap.size_push]
  have hDC : s₂.heap.objs.size ≠ H2.objs.size := by rw [hC]; exact Nat.ne_of_lt (Nat.lt_succ_self _)
  have old : Kp s₂.heap h₁ := fun b o e => hsb₁.extBut b o (by rw [hC]; exact Nat.ne_of_lt (Nat.lt_succ_of_lt (Heap.lt_size e))) (Heap.get?_push_of_some _ (hH2 ▸ Heap.get?_push_of_some _ e))
  have hacc : h₁.get? s₂.heap.objs.size = some (listO [] 0) := hsb₁.extBut _ _ hDC (Heap.get?_push_of_some _ (hH2 ▸ Heap.get?_push_size _ rfl))
  have Dn : s₂.heap.get? s₂.heap.objs.size = none := get_size_none _
  have Cn : s₂.heap.get? H2.objs.size = none := by
    cases e : s₂.heap.get? H2.objs.size with
    | none => rfl
    | some o' => have := Heap.lt_size e; rw [hC] at this; exact absurd (Nat.lt_of_succ_lt this) (Nat.lt_irrefl _)
  generalize eD : s₂.heap.objs.size = D at *
  generalize eC : H2.objs.size = C at *
  have hst₁ : St 0 h₁ := W.frame _ _ _ hst fun b _ o e => old b o e
  have hs1 : Sat a ρ m fp g h₁ := hs.ext O old.ext
  have ff1 : FF a.F h₁ := hs1.ff
  have FS : ∀ b ∈ a.F, ¬ b ∈ C :: D :: wr := fun b hb q => by
    obtain ⟨o, _, _, ho, _⟩ := hs.ff b hb
    rcases List.mem_cons.mp q with rfl | q
    · rw [Cn] at ho; cases ho
    · rcases List.mem_cons.mp q with rfl | q
      · rw [Dn] at ho; cases ho
      · exact (hok b (List.mem_append_left _ (W.sub b q))).2.1 hb
  have ns1 := noSeqC hns₁ hacc (fw _ _ hst₁)
  have supS : ∀ b ∈ sup, ¬ b ∈ C :: D :: wr := fun b hb q => by
    obtain ⟨o, ho⟩ := (hok b (List.mem_append_right _ hb)).2.2
    rcases List.mem_cons.mp q with rfl | q
    · rw [Cn] at ho; cases ho
    · rcases List.mem_cons.mp q with rfl | q
      · rw [Dn] at ho; cases ho
      · exact hsup b hb q
  have CF : C ∉ a.F := fun q => FS C q (.head _)
  have C0 : a.D.H0.get? C = none := by
    cases q : a.D.H0.get? C with
    | none => rfl
    | some o => rw [hs.top C o q] at Cn; cases Cn
  have Oc := compAct_ok (C := C) (cl := cl) (H1 := h₁) (args := sup) O hkind
  have loop : ∀ s₃ : Shared, s₃ = { s₂ with heap := h₁, toks := s₂.toks + ([] : List (Str × Value)).length } →
      codeAny a.M a.A (.compLoop (.ListComp elt [⟨target, iter, ifs, 0⟩] scope pos) 0 (.ref I) (.ref D) (compEnvC scope cl C a.env))
        (RR (.ref D) C) s₃ := by
    rintro s₃ rfl
    refine compLoop_turns (fun k s' => ∃ h tk m' i vs n bs, s' = { s₂ with heap := h, toks := tk } ∧ i ≤ its.length ∧ k = its.length + 1 - i ∧ St i h ∧ h.Ns C m' ∧ h.get? D = some (listO vs n) ∧
      RdAll a.D.prog a.D.w h vs (((its.take i).filter p).map f) bs ∧ (∀ b ∈ bs, b ∉ C :: D :: wr ∧ b ∉ a.F ∧ (h₁.get? b = none ∨ b ∈ sup)) ∧ But a.F (· ∈ C :: D :: wr) h₁ h) ?_ (its.length + 1)
      ⟨h₁, _, _, 0, [], 0, [], rfl, Nat.zero_le _, rfl, hst₁, hns₁, hacc, by simpa using RdAll.nil, (fun b hb => by cases hb), (Ext.refl _ _).but⟩
    rintro k s' ⟨h, tk, m', i, vs, n, bs, rfl, hle, rfl, hst', hn', hD', hr', hbs, bt⟩
    by_cases hlt : i < its.length
    · refine W.item i _ _ _ hlt hst' fun v h1 tk1 hP hst1 hk1 => ?_
      have btw : But a.F (· ∈ C :: D :: wr) h h1 := fun b o hb e => ⟨fun _ => hk1 b o (fun q => hb (.tail _ (.tail _ q))) e, o.slots, hk1 b o (fun q => hb (.tail _ (.tail _ q))) e⟩
      have bt1 := bt.trans btw
      have Dw : D ∉ wr := fun q => by
        obtain ⟨o, ho⟩ := (hok D (List.mem_append_left _ (W.sub D q))).2.2
        rw [Dn] at ho; cases ho
      have Cw : C ∉ wr := fun q => by
        obtain ⟨o, ho⟩ := (hok C (List.mem_append_left _ (W.sub C q))).2.2
        rw [Cn] at ho; cases ho
      have hn1 : h1.Ns C m' := hn'.at' fun o e => hk1 C o Cw e
      have hD1 : h1.get? D = some (listO vs n) := hk1 D _ Dw hD'
      have ff1' : FF a.F h1 := ff1.but bt1 FS
      obtain ⟨d, as, hd, rd, hsub⟩ := hi.at_ i v hP
      have rd1 : Rd a.D.prog a.D.w h1 v d as := (rd.kp old).but bt1 ns1 ff1.noSeq fun b hb => ⟨supS b (hsub b hb), (hok b (List.mem_append_right _ (hsub b hb))).2.1⟩
      have r1 : RdAll a.D.prog a.D.w h1 vs (((its.take i).filter p).map f) bs := hr'.but btw (noSeqC hn' hD' (fw _ _ hst')) (ff1.but bt FS).noSeq fun b hb => ⟨(hbs b hb).1, (hbs b hb).2.1⟩
      have exS : ∀ hh, (∃ m, hh.Ns C m) → (∃ vs n, hh.get? D = some (listO vs n)) → Foreign wr hh → ∀ b, b ∈ C :: D :: wr → ∃ o, hh.get? b = some o := fun hh x y z b hb => by
        rcases List.mem_cons.mp hb with rfl | hb
        · obtain ⟨m, o, _, _, ho, _⟩ := x; exact ⟨o, ho⟩
        · rcases List.mem_cons.mp hb with rfl | hb
          · obtain ⟨vs, n, ho⟩ := y; exact ⟨_, ho⟩
          · obtain ⟨o, ho, _⟩ := z b hb; exact ⟨o, ho⟩
      have dom1 : ∀ b o, h₁.get? b = some o → ∃ o', h1.get? b = some o' := fun b o e => by
        by_cases q : b ∈ C :: D :: wr
        · exact exS h1 ⟨_, hn1⟩ ⟨_, _, hD1⟩ (fw _ _ hst1) b q
        · obtain ⟨_, sl, q'⟩ := bt1 b o q e; exact ⟨_, q'⟩
      have top1 : Kp a.D.H0 h1 := fun b o e => (bt1 b o (fun q => by
          rcases List.mem_cons.mp q with rfl | q
          · rw [C0] at e; cases e
          · rcases List.mem_cons.mp q with rfl | q
            · have := hs.top _ _ e; rw [Dn] at this; cases this
            · exact wr0 b q o e) (hs1.top b o e)).1 fun q => by rw [framesOf_new O.stk b q] at e; cases e
      have satC : Sat (compAct a scope cl C h₁ sup) [] m' (fun _ => []) (hideAll h1 [C]) h1 := by
        refine ⟨top1, dom1, fun b o e => ⟨fun _ => of_hideAll _ e, o.slots, of_hideAll _ e⟩, C0, hideAll_none _ (.head _), hn1, ff1', (fun y sl e => by cases e), (fun y sl e => by cases e), (fun y sl e => by cases e), (fun y e => by cases e)⟩
      have finS : ∀ b ∈ as, (compAct a scope cl C h₁ sup).fine b := fun b hb => .inr (hsub b hb)
      have foC : Fo (compAct a scope cl C h₁ sup) [] (fun _ => []) h1 1 as :=
        ⟨fun b hb => ⟨fun q => supS b (hsub b hb) (by rw [q]; exact .head _), (hok b (List.mem_append_right _ (hsub b hb))).2.1, finS b hb⟩, (fun y sl b r e => by cases e), (fun y sl b r e => by cases e), (fun q => absurd q (by decide))⟩
      have hmem := List.mem_of_getElem? hd
      have htake : its.take (i + 1) = its.take i ++ [d] := by rw [List.take_add_one, hd]; rfl
      refine go (i + 1) _ v d as _ _ hst1 rd1 hmem ?_
      refine turn C h₁ sup Oc d hmem _ m' (fun _ => []) (hideAll h1 [C]) { s₂ with heap := h1, toks := tk1 } v as _ satC rd1 foC fun ρ2 m2 fp2 h2 tk2 hs2 p2 => ?_
      refine p2 m2 fp2 _ _ _ hs2 fun b h3 tk3 hs3 ex3 pb => ?_
      obtain ⟨rfl, pb⟩ := pb
      have bt2 : But a.F (· ∈ C :: D :: wr) h1 h2 := fun b o hb e => hs2.gx b o (hideAll_get _ e fun q => hb (by rcases List.mem_cons.mp q with rfl | q; exact .head _; cases q))
      have bt3 : But a.F (· ∈ C :: D :: wr) h1 h3 := bt2.trans (Ext.but ex3)
      have keep3 : ∀ b o, b ≠ C → b ∉ a.F → h1.get? b = some o → h3.get? b = some o := fun b o hb hf e => (hs3.gx b o (hideAll_get _ e fun q => hb (by rcases List.mem_cons.mp q with rfl | q; rfl; cases q))).1 hf
      have DF : D ∉ a.F := fun q => FS D q (.tail _ (.head _))
      have hst3 : St (i + 1) h3 := W.frame _ _ _ hst1 fun b hb o e => keep3 b o (fun q => by
          obtain ⟨o, ho⟩ := (hok b (List.mem_append_left _ hb)).2.2
          rw [q, Cn] at ho; cases ho) (hok b (List.mem_append_left _ hb)).2.1 e
      have hD3 : h3.get? D = some (listO vs n) := keep3 D _ hDC DF hD1
      have r3 : RdAll a.D.prog a.D.w h3 vs (((its.take i).filter p).map f) bs := r1.but bt3 (noSeqC hn1 hD1 (fw _ _ hst1)) ff1'.noSeq fun b hb => ⟨(hbs b hb).1, (hbs b hb).2.1⟩
      cases hpd : p d with
      | false =>
        simp only [Bool.false_eq_true, if_false]
        refine ⟨its.length + 1 - (i + 1), by omega, h3, tk3, m2, i + 1, vs, n, bs, rfl, hlt, rfl, hst3, hs3.ns, hD3, ?_, hbs, bt1.trans bt3⟩
        rw [htake, List.filter_append]; simpa [hpd] using r3
      | true =>
        simp only [if_true]
        refine pb hpd m2 fp2 _ _ _ hs3 fun u du fl asu h4 tk4 r pd => ?_
        obtain rfl := pd
        have ex4 : Ext a.F h3 h4 := r.ext
        have hD4 : h4.get? D = some (listO vs n) := (ex4 D _ hD3).1 DF
        have hlen : vs.toArray.size ≤ sizeLine := by
          have e1 := r3.length
          have e2 := List.length_filter_le p (its.take i)
          simp only [List.length_map] at e1
          have e3 : (its.take i).length ≤ its.length := List.length_take_le' _ _
          simp only [List.size_toArray]
          omega
        refine wpAny_list_append_plain (hsz := hlen) ⟨n, hD4⟩ fun h5 hp5 hs5 => ?_
        obtain ⟨n5, hD5⟩ := hp5
        have hD5' : h5.get? D = some (listO (vs ++ [u]) n5) := by rw [hD5]; simp [listO]
        have bt5 : But a.F (· ∈ C :: D :: wr) h4 h5 := (but_of_same hs5).mono fun b q => by rw [q]; exact .tail _ (.head _)
        have hasu : ∀ b ∈ asu, b ∉ C :: D :: wr ∧ b ∉ a.F ∧ (h₁.get? b = none ∨ b ∈ sup) := fun b hb => by
          obtain ⟨z1, z2, z3⟩ := r.fo.ok b hb
          refine ⟨fun q => ?_, z2, z3⟩
          rcases z3 with z3 | z3
          · obtain ⟨o, ho⟩ := exS h₁ ⟨_, hns₁⟩ ⟨_, _, hacc⟩ (fw _ _ hst₁) b q
            have z3' : h₁.get? b = none := z3
            rw [z3'] at ho; cases ho
          · exact supS b z3 q
        have ns4 := noSeqC r.sat.ns hD4 (fun b hb => by
          obtain ⟨o, ho, rest⟩ := fw _ _ hst3 b hb
          exact ⟨o, (ex4 b o ho).1 (hok b (List.mem_append_left _ (W.sub b hb))).2.1, rest⟩ : Foreign wr h4)
        refine ⟨its.length + 1 - (i + 1), by omega, h5, tk4, m2, i + 1, vs ++ [u], n5, bs ++ asu, rfl, hlt, rfl, ?_, ?_, hD5', ?_, fun b hb => (List.mem_append.mp hb).elim (hbs b) (hasu b), ((bt1.trans bt3).trans (Ext.but ex4)).trans bt5⟩
        · refine W.frame _ _ _ hst3 fun b hb o e => hs5.extBut b o (fun q => ?_) ((ex4 b o e).1 (hok b (List.mem_append_left _ hb)).2.1)
          obtain ⟨o, ho⟩ := (hok b (List.mem_append_left _ hb)).2.2
          rw [q, Dn] at ho; cases ho
        · exact r.sat.ns.sameBut hs5 (Ne.symm hDC)
        · rw [htake, List.filter_append]
          have q1 := (r3.ext ex4 (ff1'.but bt3 FS) fun b hb => (hbs b hb).2.1).snoc r.rd
          have q2 := q1.but bt5 ns4 r.sat.ff.noSeq fun b hb => (List.mem_append.mp hb).elim (fun z => ⟨(hbs b z).1, (hbs b z).2.1⟩) fun z => ⟨(hasu b z).1, (hasu b z).2.1⟩
          simpa [hpd] using q2
    · have hi0 : i = its.length := by omega
      subst hi0
      refine W.done _ _ _ hst' fun h1 tk1 hk1 => ?_
      have btw : But a.F (· ∈ C :: D :: wr) h h1 := fun b o hb e => ⟨fun _ => hk1 b o (fun q => hb (.tail _ (.tail _ q))) e, o.slots, hk1 b o (fun q => hb (.tail _ (.tail _ q))) e⟩
      have Dw : D ∉ wr := fun q => by
        obtain ⟨o, ho⟩ := (hok D (List.mem_append_left _ (W.sub D q))).2.2
        rw [Dn] at ho; cases ho
      have Cw : C ∉ wr := fun q => by
        obtain ⟨o, ho⟩ := (hok C (List.mem_append_left _ (W.sub C q))).2.2
        rw [Cn] at ho; cases ho
      have r1 := hr'.but btw (noSeqC hn' hD' (fw _ _ hst')) (ff1.but bt FS).noSeq fun b hb => ⟨(hbs b hb).1, (hbs b hb).2.1⟩
      refine hRR D C h1 tk1 m' vs bs n Dn Cn hDC (hn'.at' fun o e => hk1 C o Cw e) (hk1 D _ Dw hD') (by simpa using r1) (fun b hb => ?_) fun b o hb e => ?_
      · obtain ⟨z1, z2, z3⟩ := hbs b hb
        refine ⟨fun q => z1 (q ▸ .head _), fun q => z1 (q ▸ .tail _ (.head _)), z2, z3.imp (fun q => ?_) id⟩
        cases e : s₂.heap.get? b with
        | none => rfl
        | some o => rw [old b o e] at q; cases q
      · refine (bt.trans btw) b o (fun q => ?_) (old b o e)
        rcases List.mem_cons.mp q with rfl | q
        · rw [Cn] at e; cases e
        · rcases List.mem_cons.mp q with rfl | q
          · rw [Dn] at e; cases e
          · exact hb q
  exact codeAny_compStart_list (loop _ rfl) (W.self 0 _ _ _ hst₁ (loop _ rfl))
end
end Mine
end

section
open PySem PySem.W PySem.Calls PyProof.Rows
set_option maxRecDepth 100000
set_option autoImplicit false
set_option linter.unusedVariables false
namespace Mine

structure CompShape (a : Act) (scope : Scope) (cl : List (Str × Addr)) : Prop where
  clos : closureFor scope a.env = pure cl
  cell : ∀ y ∈ scope.names, y.2 ≠ .cell
  kind : scope.kind = .function
  names : ∀ y ∈ scope.names, y.2 = .local → scope.names.lookup y.1 = some .local

/-- a turn of a comprehension -/
def CompTurn (a : Act) (scope : Scope) (cl : List (Str × Addr)) (target elt : Expr) (ifs : List Expr) (p : PyData → Bool) (f : PyData → PyData) (x : PyData) : Prop :=
  ∀ C H1 args, (compAct a scope cl C H1 args).Ok → ∀ E', Asg (compAct a scope cl C H1 args) E' [] target x fun ρ2 =>
    RunB (compAct a scope cl C H1 args) E' ρ2 (testsOf ifs (compEnvC scope cl C a.env)) fun b => b = p x ∧ (b = true → Ev (compAct a scope cl C H1 args) E' ρ2 elt fun d _ => d = f x)

def TargetOk (target : Expr) (xs : List PyData) : Prop := (∃ x p, target = .Name x p) ∨ ((∃ es k p, target = .Tuple es k p) ∧ ∀ d ∈ xs, ∃ ds, d = .tuple ds)

section
variable {a : Act} {E : Value → Shared → Prop} {ρ : Ro} {N C : Ro → Prop} {R : Ro → PyData → Prop} {P : PyData → Nat → Prop}

theorem comp_list (O : a.Ok) {elt target iter : Expr} {ifs : List Expr} {scope : Scope} {cl : List (Str × Addr)} {pos : Pos} {RR : Value → Addr → Result → Shared → Prop} (sh : CompShape a scope cl)
    {p : PyData → Bool} {f : PyData → PyData} {xs : List PyData} (ht : TargetOk target xs) (hsz : xs.length ≤ sizeLine) (turn : ∀ x ∈ xs, CompTurn a scope cl target elt ifs p f x)
    {m : Str → Option Value} {fp : Str → List Addr} {g h0 : Heap} {s : Shared} {v : Value} {fl : Nat} {as : List Addr} (r : Res a ρ m fp g h0 v (.list xs) fl as s.heap)
    (hRR : ∀ D C h' tk m' bs, s.heap.get? C = none → h'.Ns C m' → Res a ρ m fp g h0 (.ref D) (.list ((xs.filter p).map f)) (if atoms ((xs.filter p).map f) then 2 else 1) (D :: bs) h' → C ∉ D :: bs →
      RR (.ref D) C (.ok .next) { s with heap := h', toks := tk }) :
    wpAny a.M a.A (pyIter v) (fun it s₂ => wpAny a.M a.A (newList []) (fun acc s₃ => wpAny a.M a.A (newFunctionEnv scope a.env.globals cl [] a.env.qual none .none (some a.env)) (fun cenv s₄ =>
      codeAny a.M a.A (.compStart (.ListComp elt [⟨target, iter, ifs, 0⟩] scope pos) 0 it acc { cenv with scope := relabel scope a.env }) (RR acc cenv.locals) s₄) E s₃) E s₂) E s := by
  obtain ⟨l, vs, n, bs, rfl, rfl, ho, q⟩ := r.rd.list_inv
  have hlt : l ≠ s.heap.objs.size := Nat.ne_of_lt (Heap.lt_size ho)
  refine wpAny_pyIter_list (items := vs.toArray) ⟨_, ho, rfl, n, rfl⟩ ?_
  have kp := Kp.push s.heap { cls := .type "list_iterator", data := .fields #[.ref l, .int 0 0] }
  have len : vs.toArray.size = xs.length := by simp [q.length]
  have nw : s.heap.get? s.heap.objs.size = none := get_size_none _
  have np := r.sat.newPlace O nw
  have here : ∀ b ∈ bs, ∃ o, s.heap.get? b = some o := q.here
  have isI : (s.heap.push { cls := .type "list_iterator", data := .fields #[.ref l, .int 0 0] }).get? s.heap.objs.size = some { cls := .type "list_iterator", data := .fields #[.ref l, .int 0 0] } := get_push_self _ _
  have satI := r.sat.pushed O { cls := .type "list_iterator", data := .fields #[.ref l, .int 0 0] }
  refine comp_core (P := fun i v => vs.toArray[i]? = some v) (St := fun i h => h.IsListIter s.heap.objs.size l i ∧ h.IsList l vs.toArray) (its := xs) (sup := bs) O sh.cell sh.kind (len ▸ Walks.list O.hd s.heap.objs.size l hlt vs.toArray)
    (fun i h ⟨⟨o, ho, hc, hd⟩, _⟩ => ?_) (fun i s' v d as Q E' st rd hd q => ?_) hsz (fun b hb hw => ?_) p f (fun C H1 args O' x hx E' => turn x hx C H1 args O' E') satI ⟨⟨_, isI, rfl, rfl⟩, _, kp _ _ ho, rfl, n, rfl⟩ ⟨fun j v hv => ?_⟩ (fun b hb => ?_) (fun b hb o e => ?_)
    fun D C h' tk m' vs' bs' n' hDn hCn hDC hnC hD rdl hbs bt => ?_
  · exact foreign_of ho (by rw [hc]; decide) (by rw [hc]; decide) (by rw [hc]; decide) (fun es n q => by rw [hd] at q; cases q)
  · rcases ht with ⟨x, px, rfl⟩ | ⟨⟨es, k, px, rfl⟩, ht⟩
    · exact wpAny_pure q
    · obtain ⟨ds, rfl⟩ := ht d hd
      obtain ⟨t, _, _, rfl, _⟩ := rd.tuple_inv
      exact wpAny_letOwnedTupleGo_listiter st.1 q
  · rw [List.mem_singleton.mp hw] at hb
    obtain ⟨o, ho⟩ := here _ hb
    rw [nw] at ho; cases ho
  · have hj : j < xs.length := by rw [← q.length]; have := (Array.getElem?_eq_some_iff.mp hv).1; simpa using this
    obtain ⟨v', cs, hv', rd, hsub⟩ := q.get (i := j) (d := xs[j]) (by simp [hj])
    have : v' = v := by
      have e1 : vs[j]? = some v := by simpa using hv
      rw [hv'] at e1; exact Option.some.inj e1
    subst this
    exact ⟨xs[j], cs, by simp [hj], rd.kp kp, hsub⟩
  · simp only [List.mem_append, List.mem_cons, List.not_mem_nil, or_false] at hb
    rcases hb with (rfl | rfl) | hb
    · exact ⟨(r.sat.newFine nw).1, (r.sat.newFine nw).2.1, _, isI⟩
    · exact ⟨(r.fo.ok _ (.head _)).1, (r.fo.ok _ (.head _)).2.1, _, kp _ _ ho⟩
    · obtain ⟨o, ho⟩ := here b hb
      exact ⟨(r.fo.ok _ (.tail _ hb)).1, (r.fo.ok _ (.tail _ hb)).2.1, o, kp _ _ ho⟩
  · rw [List.mem_singleton.mp hb] at e
    rw [np.2.1] at e; cases e
  · have fI : Foreign [s.heap.objs.size] (s.heap.push { cls := .type "list_iterator", data := .fields #[.ref l, .int 0 0] }) := fun b hb => by
      rw [List.mem_singleton.mp hb]; exact ⟨_, isI, (fun q => absurd (show Value.type "list_iterator" = Value.type "list" from q) (by decide)), (fun q => absurd (show Value.type "list_iterator" = Value.type "tuple" from q) (by decide)), (fun q => absurd (show Value.type "list_iterator" = Value.type "dict" from q) (by decide)), fun es n q => by cases q⟩
    have sat' : Sat a ρ m fp g h' := Sat.apart O satI bt fI.noSeq fun b hb => by
      obtain rfl := List.mem_singleton.mp hb
      exact ⟨np.1, np.2.1, (r.sat.newFine nw).1, (r.sat.newFine nw).2.1, (fun y sl e hm => by
        obtain ⟨u, _, rd⟩ := r.sat.var y sl e
        obtain ⟨o, ho⟩ := rd.here _ hm
        rw [nw] at ho; cases ho), .inl np.2.2⟩
    have ex : Ext a.F s.heap h' := fun b o e => bt b o (fun hb => by rw [List.mem_singleton.mp hb, nw] at e; cases e) (kp b o e)
    have old : ∀ b, (s.heap.push { cls := .type "list_iterator", data := .fields #[.ref l, .int 0 0] }).get? b = none → s.heap.get? b = none := fun b e => by
      cases z : s.heap.get? b with
      | none => rfl
      | some o => rw [kp b o z] at e; cases e
    have hDn' := old D hDn
    have hCn' := old C hCn
    have cleanB : ∀ b ∈ bs', s.heap.get? b = none ∨ b ∈ bs := fun b hb => (hbs b hb).2.2.2.imp (old b) id
    have fo0 := r.fo
    refine hRR D C h' tk m' bs' hCn' hnC ⟨sat', r.ext.trans ex, .list hD rdl, ?_⟩ fun hm => ?_
    · have main : Fo a ρ fp h0 1 (D :: bs') := by
        have key : ∀ b ∈ bs', (b ≠ a.L ∧ b ∉ a.F ∧ a.fine b) ∧ ∀ y sl c rr, ρ.lookup y = some sl → sl.own = true → fp y = c :: rr → c ≠ b := fun b hb => by
          rcases cleanB b hb with z | z
          · exact ⟨r.sat.newFine z, fun y sl c rr e ow q => r.sat.newClean z e q⟩
          · exact ⟨r.fo.ok b (.tail _ z), fun y sl c rr e ow q w => r.fo.tl y sl c rr e ow q (w ▸ z)⟩
        refine ⟨fun b hb => ?_, fun y sl c rr e ow q hb => ?_, fun y sl c rr e ow q _ hb => ?_, fun k => absurd k (by decide)⟩
        · rcases List.mem_cons.mp hb with rfl | hb
          · exact r.sat.newFine hDn'
          · exact (key b hb).1
        · exact (key c hb).2 y sl c rr e ow q rfl
        · rcases List.mem_cons.mp hb with rfl | hb
          · exact r.sat.newClean hDn' e q rfl
          · exact (key c hb).2 y sl c rr e ow q rfl
      by_cases hat : atoms ((xs.filter p).map f) = true
      · rw [if_pos hat]
        obtain rfl := rdl.atoms hat
        refine ⟨main.ok, main.tl, fun y sl c rr e ow q _ => main.cl y sl c rr e ow q (Nat.le_refl _), fun _ b hb => ?_⟩
        obtain rfl := List.mem_singleton.mp hb
        exact r.ext.none hDn'
      · rw [if_neg hat]; exact main
    · rcases List.mem_cons.mp hm with q | q
      · exact hDC q.symm
      · exact (hbs _ q).1 rfl

/-- the comprehension's own names let go -/
theorem Sat.letC (O : a.Ok) {m m' : Str → Option Value} {fp : Str → List Addr} {g h1 h' h'' : Heap} {C : Addr} {ρ1 : Ro} {m1 : Str → Option Value} {fp1 : Str → List Addr} (x : Sat a ρ m fp g h') (hn : h'.Ns C m')
    (s1 : Sat a ρ1 m1 fp1 g h1) (c1 : h1.get? C = none) (hfp : ∀ y sl, ρ.lookup y = some sl → C ∉ fp y) (k : Heap.SameBut C h' h'') : Sat a ρ m fp g h'' := by
  have ns : NoSeq (· = C) h' := fun b o hb ho vs n q => by
    subst hb
    obtain ⟨o', _, _, ho', hd, _⟩ := hn
    rw [ho'] at ho; cases ho; rw [q] at hd; cases hd
  have np := s1.newPlace O c1
  have nf := s1.newFine c1
  refine Sat.apart O x (but_of_same k) ns fun b hb => ?_
  subst hb
  exact ⟨np.1, np.2.1, nf.1, nf.2.1, hfp, .inl np.2.2⟩
theorem new_fp {m : Str → Option Value} {fp : Str → List Addr} {g h : Heap} {C : Addr} (x : Sat a ρ m fp g h) (c : h.get? C = none) : ∀ y sl, ρ.lookup y = some sl → C ∉ fp y := fun y sl e hm => by
  obtain ⟨u, _, rd⟩ := x.var y sl e
  obtain ⟨o, ho⟩ := rd.here _ hm
  rw [c] at ho; cases ho

/-- [elt for target in iter if ..] -/
theorem Ev.comp (O : a.Ok) {elt target iter : Expr} {ifs : List Expr} {scope : Scope} {cl : List (Str × Addr)} {pos : Pos} (sh : CompShape a scope cl)
    (h : Ev a E ρ iter fun d _ => ∃ xs p f, d = .list xs ∧ TargetOk target xs ∧ xs.length ≤ sizeLine ∧ (∀ x ∈ xs, CompTurn a scope cl target elt ifs p f x) ∧ P (.list ((xs.filter p).map f)) (if atoms ((xs.filter p).map f) then 2 else 1))
    (hf : ∀ x, foldedSetIterable iter a.env x = pure x := by intro _; rfl) : Ev a E ρ (.ListComp elt [⟨target, iter, ifs, 0⟩] scope pos) P := by
  intro m fp g s Q hs K
  rw [eval_ListComp]
  refine wpAny_comprehension_free (use := none) rfl hf sh.clos sh.kind sh.names (h m fp g s _ hs fun v d fl as h1 tk r pp => ?_)
  obtain ⟨xs, p, f, rfl, ht, hsz, turn, pp⟩ := pp
  refine comp_list (h0 := s.heap) (RR := fun acc C => compPost a.M a.A E none Q acc C) O sh ht hsz turn (s := { s with heap := h1, toks := tk }) r fun D C h' tk' m' bs hCn hnC r' hC => ?_
  refine ⟨m', hnC, fun h'' hs'' => K _ _ _ _ h'' tk' ⟨r'.sat.letC O hnC r.sat hCn (new_fp r.sat hCn) hs'', fun b o e => ?_, ?_, r'.fo⟩ pp⟩
  · obtain ⟨p, sl, q⟩ := r'.ext b o e
    have hb : b ≠ C := fun z => by obtain ⟨o', ho'⟩ := r.ext.some e; rw [z] at ho'; rw [show h1.get? C = none from hCn] at ho'; cases ho'
    exact ⟨fun z => (hs''.2 b hb).trans (p z), sl, (hs''.2 b hb).trans q⟩
  · refine r'.rd.but (but_of_same hs'') (fun b o hb ho vs n q => ?_) r'.sat.ff.noSeq fun b hb => ⟨fun q => hC (q ▸ hb), (r'.fo.ok b hb).2.1⟩
    subst hb
    obtain ⟨o', _, _, ho', hd, _⟩ := hnC
    rw [ho'] at ho; cases ho; rw [q] at hd; cases hd

set_option maxHeartbeats 1000000 in
/-- y = [elt for target in iter if ..] -/
theorem Ex1.assignComp (O : a.Ok) {elt target iter : Expr} {ifs : List Expr} {scope : Scope} {cl : List (Str × Addr)} {pos py spos : Pos} {y : Str} (sh : CompShape a scope cl)
    (h : Ev a E ρ iter fun d _ => ∃ xs p f, d = .list xs ∧ TargetOk target xs ∧ xs.length ≤ sizeLine ∧ (∀ x ∈ xs, CompTurn a scope cl target elt ifs p f x) ∧ N (ρ.set y ⟨.list ((xs.filter p).map f), false⟩))
    (hsw : swapsWith (.ListComp elt [⟨target, iter, ifs, 0⟩] scope pos) (some (.Name y py)) spos.line a.env = pure true) (hl : a.env.kindOf y = some .local := by rfl) (hp : a.pinN ≠ some y := by first | exact nofun | exact pin_ne (by rfl))
    (hf : ∀ x, foldedSetIterable iter a.env x = pure x := by intro _; rfl) : Ex1 a E ρ (.Assign [.Name y py] (.ListComp elt [⟨target, iter, ifs, 0⟩] scope pos) spos) N R C := by
  intro m fp g s Q hs k1 _ _
  rw [exec_Assign_Name_used _ _ _ _ hsw]
  refine wpAny_bind (wpAny_standAt (wpAny_bind ?_))
  show wpAny _ _ (do let _ ← comprehension (.ListComp elt [⟨target, iter, ifs, 0⟩] scope pos) scope a.env _ (newList []) false (eval iter a.env) (some (PySem.assign (.Name y py) a.env))) _ _ s
  refine wpAny_bind (wpAny_mono (wpAny_comprehension_free (use := some (PySem.assign (.Name y py) a.env)) (Q := fun _ s' => Q .next s') rfl hf sh.clos sh.kind sh.names ?_)
    (fun _ s' hq => wpAny_pure (wpAny_pure hq)) fun _ _ e => e)
  refine h m fp g s _ hs fun v d fl as h1 tk r pp => ?_
  obtain ⟨xs, p, f, rfl, ht, hsz, turn, pp⟩ := pp
  refine comp_list (h0 := s.heap) (RR := fun acc C => compPost a.M a.A E (some (PySem.assign (.Name y py) a.env)) (fun _ s' => Q .next s') acc C) O sh ht hsz turn (s := { s with heap := h1, toks := tk }) r fun D C h' tk' m' bs hCn hnC r' hC => ?_
  show wpAny _ _ (PySem.assign (.Name y py) a.env (.ref D)) _ _ _
  have hLC : a.L ≠ C := fun q => (r.sat.newFine hCn).1 q.symm
  refine wpAny_assign_Name (wpAny_storeName_local hl r'.sat.ns (fun h₂ hn₂ hs₂ => ?_) (by rw [O.kind]; rfl))
  refine ⟨m', hnC.sameBut hs₂ (Ne.symm hLC), fun h₃ hs₃ => ?_⟩
  have st := Sat.store O r' (by split <;> decide) hn₂ hs₂ false (by intro q; cases q) hp
  refine k1 _ _ _ h₃ _ (st.letC O (hnC.sameBut hs₂ (Ne.symm hLC)) r.sat hCn (fun z sl e hm => ?_) hs₃) pp
  rw [Ro.set_lookup] at e
  by_cases hz : z = y
  · subst hz; rw [if_pos rfl] at hm; exact hC hm
  · rw [if_neg hz] at e hm; exact new_fp r.sat hCn z sl e hm
end
end Mine
end

section
open PySem PySem.W PySem.Calls PyProof.Rows
set_option maxRecDepth 100000
set_option autoImplicit false
set_option linter.unusedVariables false
namespace Mine

section
variable {a : Act} {E : Value → Shared → Prop} {ρ : Ro} {N C : Ro → Prop} {R : Ro → PyData → Prop}

set_option maxHeartbeats 1000000 in
/-- for i, n in enumerate(list of plain data) -/
theorem Ex1.forEnum (O : a.Ok) {elts : List Expr} {k0 : Nat} {tp pn cp pos : Pos} {e : Expr} {body : List Stmt} {x y : Str} (J : Nat → Ro → Prop) (its : List PyData)
    (turn : ∀ i d ρ', its[i]? = some d → J i ρ' → Ex a (loopE a E) (setAll ρ' [x, y] [.int i, d]) body (J (i + 1)) R (J (i + 1)))
    (fin : ∀ ρ', J its.length ρ' → N ρ')
    (h : Ev a E ρ e fun d f => 1 ≤ f ∧ d = .list its ∧ atoms its = true ∧ J 0 ρ)
    (hg : a.D.mg "enumerate" = none) (hn : namesOf elts = some [x, y] := by rfl) (hl : ∀ z ∈ [x, y], a.env.kindOf z = some .local ∧ a.pinN ≠ some z) (hx : a.env.kindOf "enumerate" = some .globalImplicit := by rfl)
    (hf : ∀ v, foldedSetIterable (.Call (.Name "enumerate" pn) [e] [] cp) a.env v = pure v := by intro _; rfl)
    (he : starEach [e] a.env = (false, eval e a.env) :: starEach [] a.env := by rfl) : Ex1 a E ρ (.For (.Tuple elts k0 tp) (.Call (.Name "enumerate" pn) [e] [] cp) body [] pos) N R C := by
  intro m fp g s Q hs k1 _ k3
  refine wpAny_For (Call_ (builtin_name O hs PyProof.Rows.Boot.«enumerate» hg (by decide) ?_ hx) ) hf
  rw [he]
  refine PySem.callWith_type (T := "enumerate") rfl (evalArgs_plain (spliced_cons ?_))
  refine h m fp g s _ hs fun v d f as h1 tk r p => spliced_nil ?_
  obtain ⟨hf1, rfl, hat, pJ⟩ := p
  obtain ⟨l, vs, n, bs, rfl, rfl, ho, q⟩ := r.rd.list_inv
  obtain rfl := q.atoms hat
  have isL : h1.IsList l vs.toArray := ⟨_, ho, rfl, n, rfl⟩
  have len : vs.toArray.size = its.length := by simp [q.length]
  refine call_enumerate_list isL fun h2 en0 it0 hsz2 kp2 => ?_
  have nI : h1.get? h1.objs.size = none := get_size_none _
  have nE : h1.get? (h1.objs.size + 1) = none := by
    cases z : h1.get? (h1.objs.size + 1) with
    | none => rfl
    | some o => exact absurd (Nat.lt_of_succ_lt (Heap.lt_size z)) (Nat.lt_irrefl _)
  have hllt : l < h1.objs.size := Heap.lt_size ho
  have npI := r.sat.newPlace O nI
  have npE := r.sat.newPlace O nE
  have nfI := r.sat.newFine nI
  have nfE := r.sat.newFine nE
  refine wpAny_pyIter_enum en0 ?_
  have W := WalksT.enumerate (prog := a.D.prog) (w := a.D.w) O.hd (h1.objs.size + 1) h1.objs.size l (Nat.succ_ne_self _) (Nat.ne_of_lt (Nat.lt_succ_of_lt hllt)) (Nat.ne_of_lt hllt) vs.toArray
  have foreign : ∀ {h : Heap}, (∃ o, h.get? (h1.objs.size + 1) = some o ∧ o.cls = .type "enumerate" ∧ ∀ es n, o.data ≠ .dict es n) → (∃ i, h.IsListIter h1.objs.size l i) → Foreign [h1.objs.size + 1, h1.objs.size] h := fun {h} x y b hb => by
    rcases List.mem_cons.mp hb with rfl | hb
    · obtain ⟨o, ho, hc, hd⟩ := x
      exact ⟨o, ho, (by rw [hc]; decide), (by rw [hc]; decide), (by rw [hc]; decide), hd⟩
    · obtain rfl := List.mem_singleton.mp hb
      obtain ⟨i, o, ho, hc, hd⟩ := y
      exact ⟨o, ho, (by rw [hc]; decide), (by rw [hc]; decide), (by rw [hc]; decide), fun es n q => by rw [hd] at q; cases q⟩
  have sat2 : Sat a ρ m fp g h2 := r.sat.ext O (Kp.ext kp2)
  have ap2 : Apart a ρ fp [h1.objs.size + 1, h1.objs.size, l] h2 := by
    refine ⟨fun b hb => ?_, fun b hb => ?_, fun b hb => ?_⟩
    · simp only [List.mem_cons, List.not_mem_nil, or_false] at hb
      rcases hb with rfl | rfl | rfl
      · exact ⟨nfE.1, nfE.2.1⟩
      · exact ⟨nfI.1, nfI.2.1⟩
      · exact ⟨(r.fo.ok _ (.head _)).1, (r.fo.ok _ (.head _)).2.1⟩
    · simp only [List.mem_cons, List.not_mem_nil, or_false] at hb
      rcases hb with rfl | rfl | rfl
      · exact ⟨_, en0⟩
      · obtain ⟨o, ho, _⟩ := it0; exact ⟨o, ho⟩
      · exact ⟨_, kp2 _ _ ho⟩
    · simp only [List.mem_cons, List.not_mem_nil, or_false] at hb
      rcases hb with rfl | rfl | rfl
      · exact r.sat.newOwn nE
      · exact r.sat.newOwn nI
      · intro hm
        obtain ⟨z, sl, rr, e, ow, q⟩ := mem_ownedOf.mp hm
        exact r.fo.cl z sl _ rr e ow q hf1 (.head _)
  have hwr : ∀ b ∈ [h1.objs.size + 1, h1.objs.size], g.get? b = none ∧ a.D.H0.get? b = none ∧ a.H1.get? b = none ∧ b ≠ a.L ∧ b ∉ a.F := fun b hb => by
    rcases List.mem_cons.mp hb with rfl | hb
    · exact ⟨npE.1, npE.2.1, npE.2.2, nfE.1, nfE.2.1⟩
    · obtain rfl := List.mem_singleton.mp hb; exact ⟨npI.1, npI.2.1, npI.2.2, nfI.1, nfI.2.1⟩
  refine codeAny_forLoop_any
    (fun k s' => ∃ h tk ρ' m' fp', ∃ i : Nat, s' = { s with heap := h, toks := tk } ∧ Sat a ρ' m' fp' g h ∧ ((∃ old, IsEnum h (h1.objs.size + 1) h1.objs.size (i : Nat) old) ∧ h.IsListIter h1.objs.size l i ∧ h.IsList l vs.toArray) ∧ RdAll a.D.prog a.D.w h vs its [] ∧ Apart a ρ' fp' [h1.objs.size + 1, h1.objs.size, l] h ∧ J i ρ' ∧ i ≤ its.length ∧ k = its.length + 1 - i)
    ?_ (its.length + 1) ⟨h2, tk, ρ, m, fp, 0, rfl, sat2, ⟨⟨_, en0⟩, it0, ⟨_, kp2 _ _ ho, rfl, n, rfl⟩⟩, q.kp kp2, ap2, pJ, Nat.zero_le _, rfl⟩
  rintro k s' ⟨h, tk, ρ', m', fp', i, rfl, hs', hst', hr', ap', hJ', hle, rfl⟩
  have fo0 : Foreign [h1.objs.size + 1, h1.objs.size] h := foreign (by obtain ⟨old, e⟩ := hst'.1; exact ⟨_, e, rfl, fun es n q => by cases q⟩) ⟨i, hst'.2.1⟩
  by_cases hlt : i < its.length
  · refine W.item i _ _ _ (by rw [len]; exact hlt) hst' fun T vals h3 tk3 hP hT isT mid hk3 => ?_
    obtain ⟨t, u, hu, rfl⟩ := hP
    refine W.go elts k0 tp i T _ _ _ mid fun h4 hst4 hk4 => ?_
    have hk34 : ∀ b o, b ∉ [h1.objs.size + 1, h1.objs.size] → h.get? b = some o → h4.get? b = some o := fun b o hb e => hk4 b o hb (hk3 b o hb e)
    have isT4 : h4.IsTuple T #[.int i t, u] := isT.at fun o e => hk4 T o (W.apart _ _ _ mid) e
    obtain ⟨l1, l2⟩ := assignEach_len (env := a.env) hn
    refine wpAny_assign_Tuple (t := T) O.hd isT4 (by rw [l1]; rfl) l2 fun h5 hx5 => ?_
    have kp5 : Kp h4 h5 := fun b o e => hx5 b o (Nat.ne_of_lt (Heap.lt_size e)) e
    have hk : ∀ b o, b ∉ [h1.objs.size + 1, h1.objs.size] → h.get? b = some o → h5.get? b = some o := fun b o hb e => kp5 b o (hk34 b o hb e)
    have hs5 := hs'.foreign fo0 hk hwr
    have r5 : RdAll a.D.prog a.D.w h5 vs its [] := hr'.but (F := a.F) (S := (· ∈ [h1.objs.size + 1, h1.objs.size])) (fun b o hb e => ⟨fun _ => hk b o hb e, o.slots, hk b o hb e⟩) fo0.noSeq hs'.ff.noSeq fun b hb => nomatch hb
    obtain ⟨d, hd⟩ : ∃ d, its[i]? = some d := ⟨its[i], by simp [hlt]⟩
    obtain ⟨u', cs, hu', rdu, hcs⟩ := r5.get hd
    have : u' = u := by
      have e1 : vs[i]? = some u := by simpa using hu
      rw [hu'] at e1; exact Option.some.inj e1
    subst this
    have : cs = [] := by cases cs with | nil => rfl | cons c _ => exact nomatch hcs c (.head _)
    subst this
    have rdp : RdAll a.D.prog a.D.w h5 [.int i t, u'] [.int i, d] [] := .cons (.int i t) (.cons rdu .nil)
    have hst5 : (∃ old, IsEnum h5 (h1.objs.size + 1) h1.objs.size ((i + 1 : Nat) : Int) old) ∧ h5.IsListIter h1.objs.size l (i + 1) ∧ h5.IsList l vs.toArray := W.frame _ _ _ hst4 fun b _ o e => kp5 b o e
    have ap5 : Apart a ρ' fp' [h1.objs.size + 1, h1.objs.size, l] h5 := ⟨ap'.ok, fun b hb => by
      simp only [List.mem_cons, List.not_mem_nil, or_false] at hb
      rcases hb with rfl | rfl | rfl
      · obtain ⟨old, e⟩ := hst5.1; exact ⟨_, e⟩
      · obtain ⟨o, ho, _⟩ := hst5.2.1; exact ⟨o, ho⟩
      · obtain ⟨o, ho, _⟩ := hst5.2.2; exact ⟨o, ho⟩, ap'.own⟩
    refine assignNames (g := hid a ρ' fp' h5) O hn rfl hl (s := { s with heap := h5, toks := tk3 }) hs5.hide rdp (Fo.nil 1) fun m2 fp2 h6 tk6 hs6 => ?_
    have back : ∀ ρ3 m3 fp3 h3 tk3, Sat a ρ3 m3 fp3 (hid a ρ' fp' h5) h3 → J (i + 1) ρ3 →
        ∃ mm, mm < its.length + 1 - i ∧ ∃ h tk ρ' m' fp' j, ({ s with heap := h3, toks := tk3 } : Shared) = { s with heap := h, toks := tk } ∧ Sat a ρ' m' fp' g h ∧ ((∃ old, IsEnum h (h1.objs.size + 1) h1.objs.size (j : Nat) old) ∧ h.IsListIter h1.objs.size l j ∧ h.IsList l vs.toArray) ∧ RdAll a.D.prog a.D.w h vs its [] ∧ Apart a ρ' fp' [h1.objs.size + 1, h1.objs.size, l] h ∧ J j ρ' ∧ j ≤ its.length ∧ mm = its.length + 1 - j := by
      intro ρ3 m3 fp3 h3 tk3 hs3 hJ3
      have inHid : ∀ b ∈ [h1.objs.size + 1, h1.objs.size, l], ∀ o, h5.get? b = some o → (hid a ρ' fp' h5).get? b = some o := fun b hb o ho => hid_get ho (ap5.ok b hb).1 (ap5.own b hb)
      refine ⟨its.length + 1 - (i + 1), by omega, h3, tk3, ρ3, m3, fp3, i + 1, rfl, hs5.unhide hs3, ?_, ?_, ⟨ap5.ok, fun b hb => ?_, fun b hb q => ?_⟩, hJ3, hlt, rfl⟩
      · exact W.frame _ _ _ hst5 fun b hb o ho => (hs3.gx b o (inHid b hb o ho)).1 (ap5.ok b hb).2
      · exact r5.but (but_hid hs3.gx) hs5.noSeqOwn hs5.ff.noSeq fun b hb => nomatch hb
      · obtain ⟨o, ho⟩ := ap5.here b hb
        exact hs3.gx.some (inHid b hb o ho)
      · obtain ⟨o, ho⟩ := ap5.here b hb
        obtain ⟨y, sl, r, e, ow, z⟩ := mem_ownedOf.mp q
        obtain ⟨b', r', f1, _, _, f2, _⟩ := hs3.own y sl e ow
        rw [z] at f1; cases f1
        rw [inHid b hb o ho] at f2; cases f2
    refine turn i d ρ' hd hJ' m2 fp2 (hid a ρ' fp' h5) { s with heap := h6, toks := tk6 } _ hs6 (fun ρ3 m3 fp3 h3 tk3 hs3 p3 => back ρ3 m3 fp3 h3 tk3 hs3 p3) (fun ρ3 m3 fp3 h3 tk3 hs3 p3 => back ρ3 m3 fp3 h3 tk3 hs3 p3) fun ρ3 m3 fp3 u du asu h3 tk3 ro pr => ?_
    exact k3 ρ3 m3 fp3 u du asu h3 tk3 ⟨hs5.unhide ro.sat, ro.rd, ro.ok⟩ pr
  · have hi0 : i = its.length := by omega
    subst hi0
    refine W.done _ _ _ (by rw [len]; exact hst') fun h3 tk3 hk3 => wpAny_execs_nil ?_
    exact k1 ρ' m' fp' h3 tk3 (hs'.foreign fo0 hk3 hwr) (fin ρ' hJ')
end
end Mine
end

section
open PySem PySem.W PySem.Calls PyProof.Rows
set_option maxRecDepth 100000
set_option autoImplicit false
set_option linter.unusedVariables false
namespace Mine

section
variable {M : Model} {A : Around} {E : Value → Shared → Prop} {s : Shared}

/-- a new exception is noted in a frame -/
theorem note_first {base h : Heap} {env : Env} {outer : List Env} {L e : Addr} {X : String} {Q : Unit → Shared → Prop}
    (hfr : A.frames = some (env :: outer)) (hf : env.frame = some L) (hkb : base.StaysIn h) (hl : h.FunFrames base (env :: outer)) (hx : Heap.NewExc h s.heap e X)
    (hQ : ∀ h' a0, Heap.HeldW base (env :: outer) e (.type X) a0 L h' → s.heap.UpToSlots h' → Q () { s with heap := h' }) : wpAny M A (noteFrame (.ref e) env) Q E s := by
  obtain ⟨ob, t, he, hc, hd⟩ := hx.there
  have fresh : base.get? e = none := by
    cases hq : base.get? e with
    | none => rfl
    | some o' => have := hkb e o' hq; rw [hx.new] at this; cases this
  have hl' : s.heap.FunFrames base (env :: outer) := hl.of_keeps fun b o hb _ => ⟨o, hx.keeps b o hb, rfl⟩
  unfold noteFrame
  simp only [hf]
  refine wpAny_bind (wpAny_field he hd (x := .none) rfl ?_)
  rw [if_neg (by decide)]
  refine wpAny_entryW (a0 := t) hfr hl' hf he (fun b o q => hx.keeps b o (hkb b o q)) fresh hd (by simp) rfl fun h' hN => ?_
  obtain ⟨k1, k2, k3, k4⟩ := hN
  rw [hc] at k3
  exact hQ h' t ⟨k1, fresh, k2, k3⟩ k4

/-- out of a piece of the frame's own -/
theorem came_held {base : Heap} {env : Env} {l : List Env} {L e : Addr} {cls a0 : Value} (hf : env.frame = some L) (hh : Heap.HeldW base l e cls a0 L s.heap)
    (hQ : ∀ h', Heap.HeldW base l e cls a0 L h' → s.heap.UpToSlots h' → E (.ref e) { s with heap := h' }) : cameBackBy M A env E (.ref e) s := by
  obtain ⟨hkb, hen, hl, oe, vs, T, oT, ts, he, hcls, hd, h1, hnT, hTe, hT, hdT, h3⟩ := hh
  have hsz3 : 3 < ts.size := (Array.getElem?_eq_some_iff.mp h3).1
  have other : ∀ b, b ≠ T → (s.heap.update T (Obj.mapFields (·.setIfInBounds 3 ((some L : Option Addr).elim Value.none fun f => rawInt f)))).get? b = s.heap.get? b :=
    fun b hb => Heap.get?_update_other _ _ (Ne.symm hb)
  have noRecord : ∀ b o, s.heap.get? b = some o → (∀ vs, o.data ≠ .fields vs) → b ≠ T := fun b o hb hnf q => by
    rw [q, hT] at hb; injection hb with hb; subst hb; exact hnf ts hdT
  unfold cameBackBy
  refine wpAny_bind (wpAny_field he hd h1 ?_)
  rw [if_neg (show ¬ ((Value.ref T == Value.none) = true) from by simp)]
  rw [hf]
  unfold setFlight
  refine wpAny_bind (wpAny_field he hd h1 ?_)
  rw [if_pos (show (Value.ref T != Value.none) = true from by simp)]
  refine wpAny_setField hT hdT hsz3 (hQ _ ⟨fun b o hbo => (other b fun q => by rw [q, hnT] at hbo; cases hbo).trans (hkb b o hbo), hen, hl.of_keeps fun b o hb hnf => ⟨o, (other b (noRecord b o hb hnf)).trans hb, rfl⟩, ?_⟩
    fun b o hb hn => ⟨o.slots, (other b (noRecord b o hb hn)).trans hb⟩)
  exact ⟨oe, vs, T, _, _, (other e (Ne.symm hTe)).trans he, hcls, hd, h1, hnT, hTe, Heap.get?_update_self _ hT (Obj.isFreed_of_fields (Obj.data_mapFields hdT _)), Obj.data_mapFields hdT _, by simp [hsz3]⟩
end

section
variable {prog : Program} {w : World} {A : Around} {E : Value → Shared → Prop} {s : Shared}

theorem unpackItems_list2 {l : Addr} {x y : Value} {Q : List Value → Shared → Prop} (hh : A.handled = none) (hl : s.heap.IsList l #[x, y])
    (hQ : ∀ h', Kp s.heap h' → Q [x, y] { s with heap := h' }) : wpAny (model prog w) A (unpackItems (.ref l) 2 none) Q E s := by
  have hlt : l ≠ s.heap.objs.size := by obtain ⟨o, ho, _⟩ := hl; exact Nat.ne_of_lt (Heap.lt_size ho)
  unfold unpackItems notIterableAtAll
  refine wpAny_bind (wpAny_bind (wpAny_specialOf hl.typeIs slot_list_iter.lookup ?_))
  refine wpAny_pure ?_
  simp only [Bool.false_eq_true, if_false]
  refine wpAny_bind (wpAny_holding (wpAny_pyIter_list hl ?_))
  have kp := Kp.push s.heap { cls := .type "list_iterator", data := .fields #[.ref l, .int 0 0] }
  have isI : (s.heap.push { cls := .type "list_iterator", data := .fields #[.ref l, .int 0 0] }).get? s.heap.objs.size = some { cls := .type "list_iterator", data := .fields #[.ref l, .int 0 0] } := get_push_self _ _
  have nw : s.heap.get? s.heap.objs.size = none := get_size_none _
  have hl0 : (s.heap.push { cls := .type "list_iterator", data := .fields #[.ref l, .int 0 0] }).IsList l #[x, y] := by obtain ⟨o, ho, r⟩ := hl; exact ⟨o, kp _ _ ho, r⟩
  generalize s.heap.push { cls := .type "list_iterator", data := .fields #[.ref l, .int 0 0] } = h0 at kp isI hl0 ⊢
  have it0 : h0.IsListIter s.heap.objs.size l 0 := ⟨_, isI, rfl, rfl⟩
  refine wpAny_bind (wpAny_holding ?_)
  show wpAny _ _ (pyNext (.ref s.heap.objs.size) >>= _) _ _ _
  refine wpAny_bind (wpAny_pyNext_list_item it0 hl0 (x := x) rfl fun h1 it1 hs1 => ?_)
  have hl1 := hl0.extBut hs1.extBut hlt
  refine wpAny_bind (wpAny_holding ?_)
  show wpAny _ _ (pyNext (.ref s.heap.objs.size) >>= _) _ _ _
  refine wpAny_bind (wpAny_pyNext_list_item it1 hl1 (x := y) rfl fun h2 it2 hs2 => ?_)
  have hl2 := hl1.extBut hs2.extBut hlt
  refine wpAny_bind (wpAny_holding ?_)
  show wpAny _ _ (pure []) _ _ _
  refine wpAny_pure (wpAny_pure (wpAny_pure ?_))
  simp only [List.length_cons, List.length_nil, Nat.lt_irrefl, if_false]
  refine wpAny_bind (wpAny_holding (wpAny_pyNext_list_end hh it2 hl2 rfl fun h3 he3 => ?_))
  simp only [Option.isSome_none, Bool.false_eq_true, if_false]
  refine wpAny_pure (hQ h3 fun b o e => ?_)
  have hb : b ≠ s.heap.objs.size := fun q => by rw [q, nw] at e; cases e
  exact he3 b o hb (hs2.extBut b o hb (hs1.extBut b o hb (kp b o e)))

theorem unpackItems_list1 {l : Addr} {x : Value} {Q : List Value → Shared → Prop} (hh : A.handled = none) (hl : s.heap.IsList l #[x])
    (hE : ∀ h h' tk e, Kp s.heap h → Heap.NewExc h h' e "ValueError" → E (.ref e) { s with heap := h', toks := tk }) : wpAny (model prog w) A (unpackItems (.ref l) 2 none) Q E s := by
  have hlt : l ≠ s.heap.objs.size := by obtain ⟨o, ho, _⟩ := hl; exact Nat.ne_of_lt (Heap.lt_size ho)
  unfold unpackItems notIterableAtAll
  refine wpAny_bind (wpAny_bind (wpAny_specialOf hl.typeIs slot_list_iter.lookup ?_))
  refine wpAny_pure ?_
  simp only [Bool.false_eq_true, if_false]
  refine wpAny_bind (wpAny_holding (wpAny_pyIter_list hl ?_))
  have kp := Kp.push s.heap { cls := .type "list_iterator", data := .fields #[.ref l, .int 0 0] }
  have isI : (s.heap.push { cls := .type "list_iterator", data := .fields #[.ref l, .int 0 0] }).get? s.heap.objs.size = some { cls := .type "list_iterator", data := .fields #[.ref l, .int 0 0] } := get_push_self _ _
  have nw : s.heap.get? s.heap.objs.size = none := get_size_none _
  have hl0 : (s.heap.push { cls := .type "list_iterator", data := .fields #[.ref l, .int 0 0] }).IsList l #[x] := by obtain ⟨o, ho, r⟩ := hl; exact ⟨o, kp _ _ ho, r⟩
  generalize s.heap.push { cls := .type "list_iterator", data := .fields #[.ref l, .int 0 0] } = h0 at kp isI hl0 ⊢
  have it0 : h0.IsListIter s.heap.objs.size l 0 := ⟨_, isI, rfl, rfl⟩
  refine wpAny_bind (wpAny_holding ?_)
  show wpAny _ _ (pyNext (.ref s.heap.objs.size) >>= _) _ _ _
  refine wpAny_bind (wpAny_pyNext_list_item it0 hl0 (x := x) rfl fun h1 it1 hs1 => ?_)
  have hl1 := hl0.extBut hs1.extBut hlt
  refine wpAny_bind (wpAny_holding ?_)
  show wpAny _ _ (pyNext (.ref s.heap.objs.size) >>= _) _ _ _
  refine wpAny_bind (wpAny_pyNext_list_end hh it1 hl1 rfl fun h2 he2 => ?_)
  refine wpAny_pure (wpAny_pure ?_)
  simp only [List.length_cons, List.length_nil]
  rw [if_pos (by decide)]
  have kp2 : Kp s.heap h2 := fun b o e => by
    have hb : b ≠ s.heap.objs.size := fun q => by rw [q, nw] at e; cases e
    exact he2 b o hb (hs1.extBut b o hb (kp b o e))
  refine wpAny_bind (wpAny_rule ?_)
  refine wpAny_bind ?_
  exact wpAny_raiseErrorMade plainExc_ValueError hh (fun h' tk e hx => hE h2 h' tk e kp2 hx) (by decide)
end
end Mine
end

section

end

section
open PySem PySem.W PySem.Calls PyProof.Rows
set_option maxRecDepth 100000
set_option autoImplicit false
set_option linter.unusedVariables false
namespace Mine

theorem leaves_held {M : Model} {A : Around} {E : Value → Shared → Prop} {s : Shared} {base : Heap} {env : Env} {outer : List Env} {L e : Addr} {cls a0 : Value} {Q : Unit → Shared → Prop} (hf : env.frame = some L)
    (hh : Heap.HeldW base (env :: outer) e cls a0 L s.heap) (hQ : ∀ h', Heap.FlyingW base outer e cls a0 h' → s.heap.UpToSlots h' → Q () { s with heap := h' }) : wpAny M A (leaving env (.ref e)) Q E s := by
  unfold leaving
  refine wpAny_bind (wpAny_noteFrame_againW hf hh.2.2.2 ?_)
  refine wpAny_landsW hh fun h' hfl us => ?_
  obtain ⟨k1, k2, ⟨_, _, k3⟩, k4⟩ := hfl
  exact hQ h' ⟨k1, k2, k3, k4⟩ us

/-- a def of the text, called upon such data, gives what P holds of or raises an exception of a class of X -/
def FnR (D : Wd) (n : Nat) (x : Str) (ds : List PyData) (P : PyData → Prop) (X : String → Prop) : Prop := ∃ fa, IsFn D x fa ∧
  ∀ (A : Around) (stk : List Env) (E : Value → Shared → Prop) (s : Shared) (vs : List Value) (as : List Addr) (Q : Value → Shared → Prop),
    CallOk D A stk (n + 1) → Kp D.H0 s.heap → FF (framesOf stk) s.heap → RdAll D.prog D.w s.heap vs ds as → (∀ b ∈ as, b ∉ framesOf stk) →
    (∀ v d as' h tk, Kp D.H0 h → Ext (framesOf stk) s.heap h → Rd D.prog D.w h v d as' → (∀ b ∈ as', b ∉ framesOf stk ∧ (s.heap.get? b = none ∨ b ∈ as)) → P d → Q v { s with heap := h, toks := tk }) →
    (∀ e c a0 h tk, X c → Heap.FlyingW (hideAll s.heap (framesOf stk)) stk e (.type c) a0 h → s.heap.UpToSlots h → E (.ref e) { s with heap := h, toks := tk }) →
    wpAny (model D.prog D.w) A (call (.ref fa) vs) Q E s

theorem FnR.intro {D : Wd} (DO : D.Ok) {x : Str} {fa : Addr} {o : Obj} {fd : FuncData} {body : List Stmt} {n : Nat} {names : List Str} {ds : List PyData} {P : PyData → Prop} {X : String → Prop}
    (hm : D.mg x = some (.ref fa)) (ho : D.H0.get? fa = some o) (hd : o.data = .func fd) (hcd : D.H0.CodeRec fd.code fd.qualname) (hb : fd.body = .stmts body)
    (hbind : ∀ vs : List Value, vs.length = names.length → bindArgs fd ⟨vs, []⟩ = pure (names.zip vs)) (hlen : names.length = ds.length) (hnd : names.Nodup)
    (hloc : ∀ y ∈ names, fd.scope.names.lookup y = some .local) (hcell : ∀ y ∈ fd.scope.names, y.2 ≠ .cell) (hgl : fd.globals = mainGlobals) (hbl : fd.builtins = builtinsNs)
    (hco : fd.scope.isCoroutine = false) (hgen : fd.scope.isGenerator = false) (hk : fd.scope.kind = .function)
    (h : ∀ (A : Around) (L : Addr) (stk : List Env) (H1 : Heap) (args : List Addr), (mkAct D A fd L fa stk H1 args n).Ok → ∀ (E : Value → Shared → Prop) m fp (s1 : Shared) (Q : Flow → Shared → Prop),
      Sat (mkAct D A fd L fa stk H1 args n) (slots names ds) m fp H1 s1.heap →
      (∀ ρ' m' fp' h tk, Sat (mkAct D A fd L fa stk H1 args n) ρ' m' fp' H1 h → P .none → Q .next { s1 with heap := h, toks := tk }) →
      (∀ ρ' m' fp' v d as h tk, RetOk (mkAct D A fd L fa stk H1 args n) ρ' m' fp' H1 h v d as → P d → Q (.ret v) { s1 with heap := h, toks := tk }) →
      (∀ e c a0 h tk, X c → Heap.HeldW (hideAll H1 (framesOf (callEnv fd L fa :: stk))) (callEnv fd L fa :: stk) e (.type c) a0 L h → H1.UpToSlots h → E (.ref e) { s1 with heap := h, toks := tk }) →
      wpAny (mkAct D A fd L fa stk H1 args n).M (mkAct D A fd L fa stk H1 args n).A (execs body (mkAct D A fd L fa stk H1 args n).env) Q E s1) :
    FnR D n x ds P X := by
  refine ⟨fa, ⟨hm, o, fd, ho, hd⟩, ?_⟩
  intro A stk E s vs as Q C kp ff rd has K KE
  have hvl : vs.length = names.length := by rw [rd.length, hlen]
  have hdep := C.depth
  have hun := C.units
  refine wpAny_call (codeAny_call_def (binds := names.zip vs) (show A.depth < 1000 by omega) (kp _ _ ho) hd (DO.lim.keeps kp) (hcd.keeps kp) hb (.of_eq (hbind vs hvl)) hcell (fun p hp => hloc _ (List.of_mem_zip hp).1) (fun h0 hns hk0 => ?_) hco hgen hk)
  have Lnew : s.heap.get? s.heap.objs.size = none := get_size_none _
  have L0 : D.H0.get? s.heap.objs.size = none := by
    cases q : D.H0.get? s.heap.objs.size with
    | none => rfl
    | some o' => rw [kp _ _ q] at Lnew; cases Lnew
  have stk' : StkOk D.H0 (callEnv fd s.heap.objs.size fa :: stk) := fun e he => by
    rcases List.mem_cons.mp he with rfl | he
    · exact ⟨by show fd.scope.kind ≠ .module; rw [hk]; decide, _, rfl, L0⟩
    · exact C.stk e he
  have fr : (A.deeper (callEnv fd s.heap.objs.size fa)).frames = some (callEnv fd s.heap.objs.size fa :: stk) := Around.frames_deeper C.frames
  have O : (mkAct D A fd s.heap.objs.size fa stk s.heap as n).Ok := by
    refine ⟨DO, fr, stk', C.hd, ?_, ?_, hk, hgl, hbl, fun hh kh => ?_⟩
    · show A.depth + 1 + n < 900; omega
    · show A.units + 3 + 10 * n < 9000; omega
    · exact SeerAt.of (env := callEnv fd s.heap.objs.size fa) (l := stk) (DO.seer.keeps kh) DO.tree fr hgen hco hbl hgl
  have Fe : (mkAct D A fd s.heap.objs.size fa stk s.heap as n).F = s.heap.objs.size :: framesOf stk := rfl
  have ff0 : FF (s.heap.objs.size :: framesOf stk) h0 := fun b hb => by
    rcases List.mem_cons.mp hb with rfl | hb
    · obtain ⟨o, es, ep, ho, hd, _⟩ := hns; exact ⟨o, es, ep, ho, hd⟩
    · obtain ⟨o, es, k, ho, hd⟩ := ff b hb; exact ⟨o, es, k, hk0 b o ho, hd⟩
  have rd0 := rd.kp hk0
  -- each argument's places
  have pick : ∀ {vs : List Value} {ds : List PyData} {as : List Addr}, RdAll D.prog D.w h0 vs ds as → ∀ i d, ds[i]? = some d → ∃ v bs, vs[i]? = some v ∧ Rd D.prog D.w h0 v d bs ∧ ∀ b ∈ bs, b ∈ as := fun r i d e => r.get e
  have hfp : ∀ y, ∃ bs : List Addr, ∀ sl, (slots names ds).lookup y = some sl → ∃ v, (names.zip vs).reverse.lookup y = some v ∧ Rd D.prog D.w h0 v sl.d bs ∧ ∀ b ∈ bs, b ∈ as := fun y => by
    cases q : (slots names ds).lookup y with
    | none => exact ⟨[], fun sl e => by cases e⟩
    | some sl =>
      obtain ⟨i, d, h1, h2, rfl, _⟩ := slots_lookup names ds y sl q
      obtain ⟨v, bs, hv, r, hs⟩ := rd0.get h2
      exact ⟨bs, fun sl e => by cases e; exact ⟨v, bindsLookup names vs hnd i y v h1 hv, r, hs⟩⟩
  obtain ⟨fp, hfp⟩ := Classical.axiomOfChoice hfp
  have sat : Sat (mkAct D A fd s.heap.objs.size fa stk s.heap as n) (slots names ds) (fun y => (names.zip vs).reverse.lookup y) fp s.heap h0 := by
    refine ⟨fun b o e => hk0 b o (kp b o e), fun b o e => ⟨o, hk0 b o e⟩, Kp.ext hk0, L0, Lnew, hns, ff0, fun y sl e => ?_, fun y sl e b hb => ?_, fun y sl e ow => ?_, fun y e => by cases e⟩
    · obtain ⟨v, hv, r, _⟩ := hfp y sl e; exact ⟨v, hv, r⟩
    · obtain ⟨v, hv, r, hs⟩ := hfp y sl e
      have hbas := hs b hb
      obtain ⟨o', ho'⟩ := rd.here b hbas
      have hbL : b ≠ s.heap.objs.size := fun q => by rw [q, Lnew] at ho'; cases ho'
      refine ⟨hbL, fun q => ?_, .inr hbas⟩
      rcases List.mem_cons.mp (Fe ▸ q) with q | q
      · exact hbL q
      · exact has b hbas q
    · obtain ⟨_, _, _, _, rfl, _⟩ := slots_lookup names ds y sl e; cases ow
  have ret : ∀ ρ' m' fp' v d as' h tk, RetOk (mkAct D A fd s.heap.objs.size fa stk s.heap as n) ρ' m' fp' s.heap h v d as' → P d → Q v { s with heap := h, toks := tk } := fun ρ' m' fp' v d as' h tk r p => by
    refine K v d as' h tk r.sat.top (fun b o e => ?_) r.rd (fun b hb => ?_) p
    · obtain ⟨q1, q2⟩ := r.sat.gx b o e
      have hbL : b ≠ s.heap.objs.size := fun q => by rw [q, Lnew] at e; cases e
      exact ⟨fun z => q1 fun q => (List.mem_cons.mp (Fe ▸ q)).elim hbL z, q2⟩
    · obtain ⟨z1, z2, z3⟩ := r.ok b hb
      exact ⟨fun q => z2 (Fe ▸ List.mem_cons_of_mem _ q), z3⟩
  refine h A s.heap.objs.size stk s.heap as O _ (fun y => (names.zip vs).reverse.lookup y) fp _ _ sat (fun ρ' m' fp' h tk q p => ?_) (fun ρ' m' fp' v d as' h tk r p => ret ρ' m' fp' v d as' h tk r p) fun e c a0 h tk hX held us => ?_
  · exact ret ρ' m' fp' .none .none [] h tk ⟨q, .none, fun b hb => nomatch hb⟩ p
  · refine leaves_held (L := s.heap.objs.size) rfl held fun h' fl us' => ?_
    refine KE e c a0 h' tk hX (flyingW_base (fun b o q => ?_) fl) (us.trans us')
    have q0 := of_hideAll _ q
    refine hideAll_get _ q0 fun hm => ?_
    rcases List.mem_cons.mp hm with rfl | hm
    · rw [Lnew] at q0; cases q0
    · have z : (hideAll s.heap (framesOf stk)).get? b = none := hideAll_none _ hm
      rw [z] at q; cases q

theorem Fn.ofR {D : Wd} {n : Nat} {x : Str} {ds : List PyData} {P : PyData → Prop} (f : FnR D n x ds P fun _ => False) : Fn D n x ds P := by
  obtain ⟨fa, h1, h2⟩ := f
  exact ⟨fa, h1, fun A stk E s vs as Q C kp ff rd has K => h2 A stk E s vs as Q C kp ff rd has K fun _ _ _ _ _ hx => hx.elim⟩
theorem Fn.intro {D : Wd} (DO : D.Ok) {x : Str} {fa : Addr} {o : Obj} {fd : FuncData} {body : List Stmt} {n : Nat} {names : List Str} {ds : List PyData} {P : PyData → Prop}
    (hm : D.mg x = some (.ref fa)) (ho : D.H0.get? fa = some o) (hd : o.data = .func fd) (hcd : D.H0.CodeRec fd.code fd.qualname) (hb : fd.body = .stmts body)
    (hbind : ∀ vs : List Value, vs.length = names.length → bindArgs fd ⟨vs, []⟩ = pure (names.zip vs)) (hlen : names.length = ds.length) (hnd : names.Nodup)
    (hloc : ∀ y ∈ names, fd.scope.names.lookup y = some .local) (hcell : ∀ y ∈ fd.scope.names, y.2 ≠ .cell) (hgl : fd.globals = mainGlobals) (hbl : fd.builtins = builtinsNs)
    (hco : fd.scope.isCoroutine = false) (hgen : fd.scope.isGenerator = false) (hk : fd.scope.kind = .function)
    (h : ∀ (A : Around) (L : Addr) (stk : List Env) (H1 : Heap) (args : List Addr), (mkAct D A fd L fa stk H1 args n).Ok → ∀ E, Ex (mkAct D A fd L fa stk H1 args n) E (slots names ds) body (fun _ => P .none) (fun _ => P) (fun _ => False)) :
    Fn D n x ds P :=
  Fn.ofR (FnR.intro DO hm ho hd hcd hb hbind hlen hnd hloc hcell hgl hbl hco hgen hk fun A L stk H1 args O E m fp s1 Q hs k1 k3 _ =>
    h A L stk H1 args O E m fp H1 s1 Q hs (fun ρ' m' fp' hh tk q p => k1 ρ' m' fp' hh tk q p) (fun _ _ _ _ _ _ p => p.elim) fun ρ' m' fp' v d as hh tk r p => k3 ρ' m' fp' v d as hh tk r p)
end Mine
end

section
open PySem PySem.W PySem.Calls PyProof.Rows
set_option maxRecDepth 100000
set_option autoImplicit false
set_option linter.unusedVariables false
namespace Mine

section
variable {a : Act} {E : Value → Shared → Prop} {ρ : Ro} {N C : Ro → Prop} {R : Ro → PyData → Prop}

theorem Ex1.go {st : Stmt} (x : Ex1 a E ρ st N R C) {m : Str → Option Value} {fp : Str → List Addr} {g : Heap} {s : Shared} {Q : Flow → Shared → Prop} (hs : Sat a ρ m fp g s.heap)
    (k1 : ∀ ρ' m' fp' h tk, Sat a ρ' m' fp' g h → N ρ' → Q .next { s with heap := h, toks := tk })
    (k2 : ∀ ρ' m' fp' h tk, Sat a ρ' m' fp' g h → C ρ' → Q .cont { s with heap := h, toks := tk })
    (k3 : ∀ ρ' m' fp' v d as h tk, RetOk a ρ' m' fp' g h v d as → R ρ' d → Q (.ret v) { s with heap := h, toks := tk }) : wpAny a.M a.A (exec st a.env) Q E s := x m fp g s Q hs k1 k2 k3
theorem Ex.go {ss : List Stmt} (x : Ex a E ρ ss N R C) {m : Str → Option Value} {fp : Str → List Addr} {g : Heap} {s : Shared} {Q : Flow → Shared → Prop} (hs : Sat a ρ m fp g s.heap)
    (k1 : ∀ ρ' m' fp' h tk, Sat a ρ' m' fp' g h → N ρ' → Q .next { s with heap := h, toks := tk })
    (k2 : ∀ ρ' m' fp' h tk, Sat a ρ' m' fp' g h → C ρ' → Q .cont { s with heap := h, toks := tk })
    (k3 : ∀ ρ' m' fp' v d as h tk, RetOk a ρ' m' fp' g h v d as → R ρ' d → Q (.ret v) { s with heap := h, toks := tk }) : wpAny a.M a.A (execs ss a.env) Q E s := x m fp g s Q hs k1 k2 k3
theorem Ev.go {e : Expr} {P : PyData → Nat → Prop} (x : Ev a E ρ e P) {m : Str → Option Value} {fp : Str → List Addr} {g : Heap} {s : Shared} {Q : Value → Shared → Prop} (hs : Sat a ρ m fp g s.heap)
    (k : ∀ v d f as h tk, Res a ρ m fp g s.heap v d f as h → P d f → Q v { s with heap := h, toks := tk }) : wpAny a.M a.A (eval e a.env) Q E s := x m fp g s Q hs k
theorem Asg.go {target : Expr} {d : PyData} (x : Asg a E ρ target d N) {m : Str → Option Value} {fp : Str → List Addr} {g : Heap} {s : Shared} {v : Value} {as : List Addr} {Q : Unit → Shared → Prop} (hs : Sat a ρ m fp g s.heap) (r : Rd a.D.prog a.D.w s.heap v d as) (fo : Fo a ρ fp s.heap 1 as)
    (k : ∀ ρ' m' fp' h tk, Sat a ρ' m' fp' g h → N ρ' → Q () { s with heap := h, toks := tk }) : wpAny a.M a.A (PySem.assign target a.env v) Q E s := x m fp g s v as Q hs r fo k

theorem len_one {α : Type} : ∀ {l : List α}, l.length = 1 → ∃ a, l = [a]
  | [a], _ => ⟨a, rfl⟩
theorem len_two {α : Type} : ∀ {l : List α}, l.length = 2 → ∃ a b, l = [a, b]
  | [a, b], _ => ⟨a, b, rfl⟩
/-- x, y = a list of two -/
theorem Ex1.unpack2 (O : a.Ok) {elts : List Expr} {k : Nat} {tp pos : Pos} {value : Expr} {x y : Str} (h : Ev a E ρ value fun d f => 1 ≤ f ∧ ∃ d1 d2, d = .list [d1, d2] ∧ N (setAll ρ [x, y] [d1, d2]))
    (hn : namesOf elts = some [x, y] := by rfl) (hl : ∀ z ∈ [x, y], a.env.kindOf z = some .local ∧ a.pinN ≠ some z)
    (hs : swapsWithSole [.Tuple elts k tp] value pos.line a.env = pure false := by rfl) (hw : swappedStores [.Tuple elts k tp] value a.env = pure none := by rfl) : Ex1 a E ρ (.Assign [.Tuple elts k tp] value pos) N R C := by
  intro m fp g s Q hs0 k1 _ _
  refine Assign_Tuple (h m fp g s _ hs0 fun v d f as h1 tk r p => ?_) hs hw
  obtain ⟨hf, d1, d2, rfl, p⟩ := p
  obtain ⟨l, vs, n, bs, rfl, rfl, ho, q⟩ := r.rd.list_inv
  obtain ⟨v1, v2, rfl⟩ : ∃ v1 v2, vs = [v1, v2] := len_two q.length
  obtain ⟨l1, l2⟩ := assignEach_len (env := a.env) hn
  rw [arm_assign_Tuple]
  refine wpAny_bind (wpAny_standAt ?_)
  unfold PySem.unpack
  rw [l1, l2]
  refine wpAny_bind (wpAny_holding (unpackItems_list2 O.hd ⟨_, ho, rfl, n, rfl⟩ fun h' kp => ?_))
  have fo := r.fo.sub hf fun b hb => List.mem_cons_of_mem l hb
  exact assignNames O hn rfl hl (s := { s with heap := h', toks := tk }) (r.sat.ext O kp.ext) (q.kp kp) ⟨fo.ok, fo.tl, fun y sl b q e ow z _ => fo.cl y sl b q e ow z hf, fun k => absurd k (by decide)⟩ fun m' fp' h2 tk2 z => k1 _ m' fp' h2 tk2 z p

/-- the first exception in a loop's turn -/
theorem loop_raise (O : a.Ok) {outer : List Env} (hst : a.stk = a.env :: outer) (hf : a.env.frame = some a.L) {g h : Heap} {s' : Shared} {e : Addr} {X : String} (gx : Ext a.F g h) (ff : FF a.F h) (hx : Heap.NewExc h s'.heap e X)
    (hE : ∀ a0 h' , Heap.HeldW (hideAll g a.F) a.stk e (.type X) a0 a.L h' → g.UpToSlots h' → E (.ref e) { s' with heap := h' }) : loopE a E (.ref e) s' := by
  have so : StkOk (hideAll g a.F) a.stk := fun e' he => by
    obtain ⟨k, L, hL, _⟩ := O.stk e' he
    exact ⟨k, L, hL, hideAll_none _ (List.mem_filterMap.mpr ⟨e', he, hL⟩)⟩
  have fr := FunFrames_of so ff
  have us0 : g.UpToSlots h := fun b o e _ => (gx b o e).2
  refine note_first (outer := outer) (base := hideAll g a.F) (hst ▸ O.frames) hf (fun b o q => ?_) (hst ▸ fr) hx fun h1 a0 held us => ?_
  · have q0 := of_hideAll _ q
    exact (gx b o q0).1 fun hm => by
      have z : (hideAll g a.F).get? b = none := hideAll_none _ hm
      rw [z] at q; cases q
  · exact came_held hf held fun h2 held2 us2 => hE a0 h2 (hst ▸ held2) (((us0.trans (Heap.UpToSlots.of_keeps hx.keeps)).trans us).trans us2)

/-- for x in a list of plain data, turn by turn at its own state -/
theorem forListX (O : a.Ok) (cs : List Addr) {x : Str} {px : Pos} {iter : Expr} {body : List Stmt} {pos : Pos} {xs : List PyData} (J : List PyData → Ro → Prop) (fin : ∀ ρ', J [] ρ' → N ρ') {m : Str → Option Value} {fp : Str → List Addr} {g : Heap} {s : Shared} {Q : Flow → Shared → Prop}
    (turn : ∀ x' rest ρ', J (x' :: rest) ρ' → ∀ m' fp' g' h0 tk0 v as (Q' : Flow → Shared → Prop), Sat a ρ' m' fp' g' h0 → (∀ c ∈ cs, ∃ u, h0.IsCell c u) → (∀ c ∈ cs, g'.get? c = none) → Rd a.D.prog a.D.w h0 v x' as → Fo a ρ' fp' h0 1 as → (∀ h', Ext a.F g' h' → Ext a.F g h') →
      (∀ ρ2 m2 fp2 h tk, Sat a ρ2 m2 fp2 g' h → (∀ c ∈ cs, ∃ u, h.IsCell c u) → J rest ρ2 → Q' .next { s with heap := h, toks := tk } ∧ Q' .cont { s with heap := h, toks := tk }) →
      (∀ ρ2 m2 fp2 u du asu h tk, RetOk a ρ2 m2 fp2 g' h u du asu → R ρ2 du → Q' (.ret u) { s with heap := h, toks := tk }) →
      wpAny a.M a.A (PySem.assign (.Name x px) a.env v) (fun _ s2 => wpAny a.M a.A (execs body a.env) Q' (loopE a E) s2) (loopE a E) { s with heap := h0, toks := tk0 })
    (hs : Sat a ρ m fp g s.heap) (hcell : ∀ c ∈ cs, ∃ u, s.heap.IsCell c u) (hcg : ∀ c ∈ cs, g.get? c = none) (hcF : ∀ c ∈ cs, c ∉ a.F) (h : Ev a E ρ iter fun d f => 1 ≤ f ∧ d = .list xs ∧ atoms xs = true ∧ J xs ρ)
    (k1 : ∀ ρ' m' fp' h tk, Sat a ρ' m' fp' g h → (∀ c ∈ cs, ∃ u, h.IsCell c u) → N ρ' → Q .next { s with heap := h, toks := tk })
    (k3 : ∀ ρ' m' fp' v d as h tk, RetOk a ρ' m' fp' g h v d as → R ρ' d → Q (.ret v) { s with heap := h, toks := tk })
    (hf : ∀ x, foldedSetIterable iter a.env x = pure x := by intro _; rfl) : wpAny a.M a.A (exec (.For (.Name x px) iter body [] pos) a.env) Q E s := by
  refine wpAny_For (h m fp g s _ hs fun v d f as h1 tk r p => ?_) hf
  obtain ⟨hf1, rfl, hat, p⟩ := p
  have hcell1 : ∀ c ∈ cs, ∃ u, h1.IsCell c u := fun c hc => by
    obtain ⟨u, o, ho, hd⟩ := hcell c hc
    exact ⟨u, o, (r.ext c o ho).1 (hcF c hc), hd⟩
  have nw := get_size_none h1
  have np := r.sat.newPlace O nw
  obtain ⟨l, vs, n, bs, rfl, rfl, ho, q⟩ := r.rd.list_inv
  obtain rfl := q.atoms hat
  have hlt : l ≠ h1.objs.size := Nat.ne_of_lt (Heap.lt_size ho)
  refine wpAny_pyIter_list (items := vs.toArray) ⟨_, ho, rfl, n, rfl⟩ ?_
  have kp := Kp.push h1 { cls := .type "list_iterator", data := .fields #[.ref l, .int 0 0] }
  have len : vs.toArray.size = xs.length := by simp [q.length]
  refine loop_runX (P := fun i v => vs.toArray[i]? = some v) (St := fun i h => h.IsListIter h1.objs.size l i ∧ h.IsList l vs.toArray) (its := xs) (sup := []) (s := { s with heap := _, toks := tk }) O cs (len ▸ Walks.list O.hd h1.objs.size l hlt vs.toArray)
    (fun i h ⟨⟨o, ho, hc, hd⟩, _⟩ => ?_) (fun i s v d as Q E' st rd hd q => wpAny_pure q) J fin turn (r.sat.pushed O _) ⟨⟨_, get_push_self _ _, rfl, rfl⟩, _, kp _ _ ho, rfl, n, rfl⟩ ⟨fun j v hv => ?_⟩ ⟨fun b hb => ?_, fun b hb => ?_, fun b hb => ?_⟩ (fun b hb => ?_) (fun b hb => nomatch hb) p (fun c hc => by obtain ⟨u, o, ho, hd⟩ := hcell1 c hc; exact ⟨u, o, kp c o ho, hd⟩) hcg (fun c hc => ?_) k1 k3
  · exact foreign_of ho (by rw [hc]; decide) (by rw [hc]; decide) (by rw [hc]; decide) (fun es n q => by rw [hd] at q; cases q)
  · have hj : j < xs.length := by rw [← q.length]; have := (Array.getElem?_eq_some_iff.mp hv).1; simpa using this
    obtain ⟨v', cs, hv', rd, hsub⟩ := q.get (i := j) (d := xs[j]) (by simp [hj])
    have : v' = v := by
      have e1 : vs[j]? = some v := by simpa using hv
      rw [hv'] at e1; exact Option.some.inj e1
    subst this
    exact ⟨xs[j], cs, by simp [hj], rd.kp kp, hsub⟩
  · simp only [List.append_nil, List.mem_cons, List.not_mem_nil, or_false] at hb
    rcases hb with rfl | rfl
    · exact ⟨(r.sat.newFine nw).1, (r.sat.newFine nw).2.1⟩
    · exact ⟨(r.fo.ok _ (.head _)).1, (r.fo.ok _ (.head _)).2.1⟩
  · simp only [List.append_nil, List.mem_cons, List.not_mem_nil, or_false] at hb
    rcases hb with rfl | rfl
    · exact ⟨_, get_push_self _ _⟩
    · exact ⟨_, kp _ _ ho⟩
  · intro hown
    obtain ⟨y, sl, rr, e, ow, z⟩ := mem_ownedOf.mp hown
    simp only [List.append_nil, List.mem_cons, List.not_mem_nil, or_false] at hb
    rcases hb with rfl | rfl
    · exact r.sat.newClean nw e z rfl
    · exact r.fo.cl y sl _ rr e ow z hf1 (.head _)
  · simp at hb; subst hb; exact np
  · obtain ⟨u, o, hoc, hd⟩ := hcell1 c hc
    simp only [List.append_nil, List.mem_cons, List.not_mem_nil, or_false]
    rintro (rfl | rfl)
    · rw [nw] at hoc; cases hoc
    · rw [ho] at hoc; cases hoc; cases hd

end
end Mine
end

section
open PySem PySem.W PySem.Calls PyProof.Rows
open PySem.Builtin PySem.Builtin.Str
set_option maxRecDepth 100000
set_option autoImplicit false
set_option linter.unusedVariables false
namespace Mine

theorem ext_of_flying {F : List Addr} {h0 h : Heap} (ff : FF F h0) (st : (hideAll h0 F).StaysIn h) (us : h0.UpToSlots h) : Ext F h0 h := fun b o e => by
  by_cases hb : b ∈ F
  · obtain ⟨o', es, n, ho, hd⟩ := ff b hb
    rw [e] at ho; cases ho
    exact ⟨fun z => absurd hb z, us b o e fun vs q => by rw [hd] at q; cases q⟩
  · have := st b o (hideAll_get _ e hb)
    exact ⟨fun _ => this, o.slots, this⟩

section
variable {a : Act} {E : Value → Shared → Prop} {ρ : Ro} {N C : Ro → Prop} {R : Ro → PyData → Prop} {P : PyData → Nat → Prop}

/-- list(o.items()) at one state -/
theorem listItemsAt (O : a.Ok) {o : Expr} {np apos ip pos : Pos} {m : Str → Option Value} {fp : Str → List Addr} {g : Heap} {s : Shared} {Q : Value → Shared → Prop} (hs : Sat a ρ m fp g s.heap)
    (h : ∀ Q' : Value → Shared → Prop, (∀ v d f as h tk, Res a ρ m fp g s.heap v d f as h → (∃ ps : List (Str × Str), d = .dict (ps.map sPair) ∧ ps.length ≤ sizeLine ∧ P (.list (ps.map fun p => .tuple [.str p.1, .str p.2])) 2) → Q' v { s with heap := h, toks := tk }) → wpAny a.M a.A (eval o a.env) Q' E s)
    (K : ∀ v d f as h tk, Res a ρ m fp g s.heap v d f as h → P d f → Q v { s with heap := h, toks := tk })
    (hg : a.D.mg "list" = none) (hx : a.env.kindOf "list" = some .globalImplicit := by rfl)
    (hbase : attributeBase o "items" a.env (eval o a.env) = eval o a.env := by rfl) (hline : (apos.endLine == ip.line) = true := by rfl)
    (he : starEach [.Call (.Attribute o "items" apos) [] [] ip] a.env = [(false, eval (.Call (.Attribute o "items" apos) [] [] ip) a.env)] := by rfl) :
    wpAny a.M a.A (eval (.Call (.Name "list" np) [.Call (.Attribute o "items" apos) [] [] ip] [] pos) a.env) Q E s := by
  refine Call_ (builtin_name O hs PyProof.Rows.Boot.«list» hg (by decide) ?_ hx)
  rw [he]
  refine PySem.callWith_type (T := "list") rfl (evalArgs_plain (spliced_cons ?_))
  refine wpAny_Call_method (T := "dict") (id := "dict.items") hbase rfl hline F.plainAttrs_dict F.slot_dict_items F.type_dict_items (h _ fun v d f as h1 tk r p => ?_)
  obtain ⟨ps, rfl, hn, p⟩ := p
  obtain ⟨b, kvs, ps', rfl, rfl, e, hd, hp, hsm⟩ := r.rd.dict_inv
  have hps : ps' = ps := by
    have key : ∀ {x y : List (Str × Str)}, x.map sPair = y.map sPair → x = y := by
      intro x
      induction x with
      | nil => intro y q; cases y; rfl; cases q
      | cons u x ih =>
        intro y q
        cases y with
        | nil => cases q
        | cons z y =>
          simp only [List.map_cons, List.cons.injEq] at q
          obtain ⟨q1, q2⟩ := q
          unfold sPair at q1
          obtain ⟨u1, u2⟩ := u
          obtain ⟨z1, z2⟩ := z
          simp at q1
          obtain ⟨rfl, rfl⟩ := q1
          rw [ih q2]
    exact (key e).symm
  subst hps
  refine ⟨hd.typeIs, hd.mapOf.noDict, ?_⟩
  show wpAny _ _ (callWith ip (.builtin "dict.items") [.ref b] [] []) _ _ _
  refine method_meetsIn F.slot_dict_items F.entry_dict_items rfl (PySem.evalArgs_none ⟨rfl, hd.typeIs, F.args_dict_items_1 _, _, meets_dict_items (strKind a.D.prog a.D.w) b hsm, ⟨kvs, hd⟩, ?_⟩)
  refine spliced_nil ?_
  have kp1 := Kp.push h1 { cls := .type "dict_items", data := .fields #[.ref b] }
  have hv : (h1.push { cls := .type "dict_items", data := .fields #[.ref b] }).IsItemsView h1.objs.size b := ⟨_, get_push_self _ _, rfl, rfl⟩
  have hd2 := (hd.at fun o e => kp1 _ o e)
  obtain ⟨ep, hda⟩ := hd2.dictAt
  have r1 := r.sat.pushed O { cls := .type "dict_items", data := .fields #[.ref b] }
  have e1 := r.ext.trans (kp1.ext (F := a.F))
  generalize h1.push { cls := .type "dict_items", data := .fields #[.ref b] } = h2 at hv hda r1 e1 ⊢
  have hlen : kvs.length = ps'.length := hp.length
  refine kdx_call (s := { s with heap := h2, toks := tk }) (A := a.A) O.hd hv hda (by rw [hlen]; exact hn) fun h3 tk3 acc c tups hk hS hl hG hacc => ?_
  have items : RdAll a.D.prog a.D.w h3 acc.toList (ps'.map fun p => PyData.tuple [.str p.1, .str p.2]) [] := by
    rw [hacc]
    have key : ∀ (tups : List Addr) (kvs : List (Str × Value)) (ps : List (Str × Str)), tups.length = kvs.length → PairsAre kvs ps →
        (∀ (j : Nat) (aa : Addr), tups[j]? = some aa → ∃ key k x, kvs[j]? = some (k, x) ∧ (strKind a.D.prog a.D.w).is k key = true ∧ h3.get? aa = some { cls := .type "tuple", data := .seq #[key, x] }) →
        RdAll a.D.prog a.D.w h3 (tups.map Value.ref) (ps.map fun p => PyData.tuple [.str p.1, .str p.2]) [] := by
      intro tups
      induction tups with
      | nil => intro kvs ps hl hp _; cases kvs; cases hp; exact .nil; cases hl
      | cons t tups ih =>
        intro kvs ps hl hp hj
        cases hp with
        | nil => cases hl
        | @cons k v x r q hx hp =>
          obtain ⟨key, k', x', e1, e2, e3⟩ := hj 0 t rfl
          simp at e1
          obtain ⟨rfl, rfl⟩ := e1
          obtain ⟨tk, rfl⟩ := Value.isStrOf_shape e2
          obtain ⟨u, rfl⟩ := hx
          have one : Rd a.D.prog a.D.w h3 (.ref t) (.tuple [.str k, .str x]) [] := .tuple (vs := [.str k tk, .str x u]) (n := 0) (by rw [e3]; rfl) (.cons (.str _ _) (.cons (.str _ _) .nil))
          exact .cons one (ih r q (by simpa using hl) hp fun j aa e => by
            obtain ⟨key, k', x', e1, e2, e3⟩ := hj (j + 1) aa (by simpa using e)
            exact ⟨key, k', x', by simpa using e1, e2, e3⟩)
    exact key tups kvs ps' hl hp hG.pairs
  have nw := get_size_none h2
  have sat3 := r1.ext O (Kp.ext (F := a.F) hk)
  have fo : Fo a ρ fp s.heap 2 [h2.objs.size] := Fo.new r1 nw e1 (by decide) (Fo.nil 2)
  refine K _ _ 2 [h2.objs.size] h3 tk3 ⟨sat3, e1.trans (Kp.ext hk), ?_, fo⟩ p
  have : acc = acc.toList.toArray := by simp
  rw [this] at hS
  exact .list (vs := acc.toList) (n := c) (by rw [hS]; rfl) items

/-- list(o.items()) -/
theorem Ev.listItems (O : a.Ok) {o : Expr} {np apos ip pos : Pos} (h : Ev a E ρ o fun d _ => ∃ ps : List (Str × Str), d = .dict (ps.map sPair) ∧ ps.length ≤ sizeLine ∧ P (.list (ps.map fun p => .tuple [.str p.1, .str p.2])) 2)
    (hg : a.D.mg "list" = none) (hx : a.env.kindOf "list" = some .globalImplicit := by rfl)
    (hbase : attributeBase o "items" a.env (eval o a.env) = eval o a.env := by rfl) (hline : (apos.endLine == ip.line) = true := by rfl)
    (he : starEach [.Call (.Attribute o "items" apos) [] [] ip] a.env = [(false, eval (.Call (.Attribute o "items" apos) [] [] ip) a.env)] := by rfl) :
    Ev a E ρ (.Call (.Name "list" np) [.Call (.Attribute o "items" apos) [] [] ip] [] pos) P :=
  fun m fp g s Q hs K => listItemsAt (P := P) O hs (fun Q' k => h m fp g s Q' hs fun v d f as hh tk r p => k v d f as hh tk r p) K hg hx hbase hline he

/-- F(e) at one state, F may raise -/
theorem callRAt (O : a.Ok) {x : Str} {np pos : Pos} {e : Expr} {k : Nat} {m : Str → Option Value} {fp : Str → List Addr} {g : Heap} {s : Shared} {Q : Value → Shared → Prop} {X : String → Prop} (hs : Sat a ρ m fp g s.heap)
    (h : Ev a E ρ e fun d f => 1 ≤ f ∧ ∃ P', FnR a.D k x [d] P' X ∧ ∀ d', P' d' → P d' 1) (hfn : ∃ fa, IsFn a.D x fa)
    (K : ∀ v d f as h tk, Res a ρ m fp g s.heap v d f as h → P d f → Q v { s with heap := h, toks := tk })
    (KE : ∀ e c a0 h h1 tk, X c → Sat a ρ m fp g h1 → Ext a.F s.heap h1 → Heap.FlyingW (hideAll h1 a.F) a.stk e (.type c) a0 h → h1.UpToSlots h → E (.ref e) { s with heap := h, toks := tk })
    (hk : k + 1 ≤ a.n := by first | decide | exact Nat.le_of_ble_eq_true rfl) (hx : a.env.kindOf x = some .globalImplicit := by rfl) (hd : (x == ("__debug__" : Str)) = false := by decide)
    (he : starEach [e] a.env = (false, eval e a.env) :: starEach [] a.env := by rfl) : wpAny a.M a.A (eval (.Call (.Name x np) [e] [] pos) a.env) Q E s := by
  obtain ⟨fa, hm, o, fd, ho, hdat⟩ := hfn
  refine Call_ (Name_function_global O.kind hx (loadGlobal_global (env := a.env) (by rw [O.glob]; exact O.D.g.keeps hs.top) hm ?_) hd)
  refine callWith_def hdat (EvL.cons O (P := fun ds f => 1 ≤ f ∧ ∃ P', FnR a.D k x ds P' X ∧ ∀ d', P' d' → P d' 1) (Run.mono h fun d f ⟨h1, h2⟩ => EvL.nil ⟨by omega, h2⟩) he m fp g s _ hs fun vs ds fl as h1 tk r p => ⟨r.sat.top _ _ ho, ?_⟩) he
  obtain ⟨hfl, P', ⟨fa', f1, f2⟩, hP⟩ := p
  have : fa' = fa := by have := f1.mg; rw [hm] at this; cases this; rfl
  subst this
  have hdep := O.depth
  have hun := O.units
  refine f2 a.A a.stk E _ vs as Q ⟨O.frames, O.stk, O.hd, by omega, by omega⟩ r.sat.top r.sat.ff r.rd (fun b hb => (r.ok b hb).2.1) (fun v d as' h2 tk2 kp ex rd hsub pd => ?_) fun e c a0 h2 tk2 hX fl us => KE e c a0 h2 h1 tk2 hX r.sat r.ext fl us
  have sat2 := r.sat.ext O ex
  have fo := r.fo hfl
  refine K v d 1 as' h2 tk2 ⟨sat2, r.ext.trans ex, rd, ⟨fun b hb => ?_, fun y sl c q e ow z hb => ?_, fun y sl c q e ow z _ hb => ?_, fun k => absurd k (by decide)⟩⟩ (hP d pd)
  · rcases (hsub b hb).2 with q | q
    · exact r.sat.newFine q
    · exact r.ok b q
  · rcases (hsub c (List.mem_of_mem_tail hb)).2 with q' | q'
    · exact r.sat.newClean q' e z rfl
    · exact fo.cl y sl c q e ow z hfl q'
  · rcases (hsub c hb).2 with q' | q'
    · exact r.sat.newClean q' e z rfl
    · exact fo.cl y sl c q e ow z hfl q'

theorem index_not_value : isSubtype (.type "IndexError") (.type "ValueError") = pure false := by rw [isSubtype_type]; kernel_rfl
theorem value_value : isSubtype (.type "ValueError") (.type "ValueError") = pure true := by rw [isSubtype_type]; kernel_rfl

/-- a name of the interpreter's own, wherever it is read -/
theorem builtin_nameA (O : a.Ok) {A' : Around} {E' : Value → Shared → Prop} {x : Str} {pos : Pos} {v : Value} {s : Shared} {Q : Value → Shared → Prop} (top : Kp a.D.H0 s.heap)
    (hv : bootBuiltins x = some v) (hg : a.D.mg x = none) (hn : x ≠ "__name__") (h : Q v s)
    (hx : a.env.kindOf x = some .globalImplicit) (hd : (x == ("__debug__" : Str)) = false := by decide) : wpAny a.M A' (eval (.Name x pos) a.env) Q E' s :=
  Name_function_global O.kind hx (loadGlobal_builtin (env := a.env) (by rw [O.glob]; exact O.D.g.keeps top) hg (by rw [O.blt]; exact O.D.b.keeps top) ((O.D.blt x hn).trans hv) h) hd

/-- try: return list(F(e).items()) except ValueError: return 'ValueError' except IndexError: return 'IndexError' -/
theorem Ex1.tryRead (O : a.Ok) {outer : List Env} (hst : a.stk = a.env :: outer) (hfr : a.env.frame = some a.L) {x : Str} {e : Expr} {k : Nat} {np1 np2 cp ap ip lp rp vp1 vp2 xp1 xp2 sp1 sp2 rp1 rp2 pos : Pos} {k1' k2' : Nat}
    (h : ∀ E', Ev a E' ρ e fun d f => 1 ≤ f ∧ ∃ P', FnR a.D k x [d] P' (fun c => (c = "ValueError" ∨ c = "IndexError") ∧ R ρ (.str (Str.ofString c))) ∧
      ∀ d', P' d' → ∃ ps : List (Str × Str), d' = .dict (ps.map sPair) ∧ ps.length ≤ sizeLine ∧ R ρ (.list (ps.map fun p => .tuple [.str p.1, .str p.2]))) (hfn : ∃ fa, IsFn a.D x fa)
    (hg1 : a.D.mg "list" = none) (hg2 : a.D.mg "ValueError" = none) (hg3 : a.D.mg "IndexError" = none)
    (hl : a.env.kindOf "list" = some .globalImplicit := by rfl) (hv : a.env.kindOf "ValueError" = some .globalImplicit := by rfl) (hi : a.env.kindOf "IndexError" = some .globalImplicit := by rfl)
    (hk : k + 1 ≤ a.n := by first | decide | exact Nat.le_of_ble_eq_true rfl) (hx : a.env.kindOf x = some .globalImplicit := by rfl) (hd : (x == ("__debug__" : Str)) = false := by decide)
    (he : starEach [e] a.env = (false, eval e a.env) :: starEach [] a.env := by rfl)
    (hbase : attributeBase (.Call (.Name x np2) [e] [] cp) "items" a.env (eval (.Call (.Name x np2) [e] [] cp) a.env) = eval (.Call (.Name x np2) [e] [] cp) a.env := by rfl) (hline : (ap.endLine == ip.line) = true := by rfl)
    (he2 : starEach [.Call (.Attribute (.Call (.Name x np2) [e] [] cp) "items" ap) [] [] ip] a.env = [(false, eval (.Call (.Attribute (.Call (.Name x np2) [e] [] cp) "items" ap) [] [] ip) a.env)] := by rfl) :
    Ex1 a E ρ (.Try [.Return (some (.Call (.Name "list" np1) [.Call (.Attribute (.Call (.Name x np2) [e] [] cp) "items" ap) [] [] ip] [] lp)) rp]
      [.ExceptHandler (some (.Name "ValueError" vp1)) none [.Return (some (.Constant (.str "ValueError") k1' sp1)) rp1] xp1, .ExceptHandler (some (.Name "IndexError" vp2)) none [.Return (some (.Constant (.str "IndexError") k2' sp2)) rp2] xp2] [] [] pos) N R C := by
  intro m fp g s Q hs _ _ k3
  refine wpAny_Try_except (wpAny_execs_cons (wpAny_Return_some (listItemsAt (P := fun d _ => R ρ d) O hs (fun Q' K' => callRAt (P := fun d _ => ∃ ps : List (Str × Str), d = .dict (ps.map sPair) ∧ ps.length ≤ sizeLine ∧ R ρ (.list (ps.map fun p => .tuple [.str p.1, .str p.2]))) O hs (h _) hfn (fun v d f as h1 tk r p => K' v d f as h1 tk r p) (fun ex c a0 h2 h1 tk hX s1 e1 fl us => ?_) hk hx hd he) (fun v d f as h1 tk r p => k3 ρ m fp v d as h1 tk ⟨r.sat, r.rd, r.fo.ok⟩ p) hg1 hl hbase hline he2)))
  obtain ⟨hc, hR⟩ := hX
  have bx : ∀ {hh : Heap}, Heap.FlyingW (hideAll h1 a.F) a.stk ex (.type c) a0 hh → h1.UpToSlots hh → Sat a ρ m fp g hh := fun fl us => s1.ext O (ext_of_flying s1.ff fl.1 us)
  rw [hst] at fl bx
  refine wpAny_looks_onW (hst ▸ O.frames) hfr fl fun h4 held4 us4 => ?_
  refine wpAny_landsW held4 fun h5 fl5 us5 => ?_
  have us5' := (us.trans us4).trans us5
  have s5 := bx fl5 us5'
  obtain ⟨ob, hob, hobc⟩ := fl5.there
  rcases hc with rfl | rfl
  · refine wpAny_handleBy_builtin (X := "ValueError") (T := "ValueError") (b := true) PySem.F.isExc_ValueError PySem.F.notTuple_ValueError value_value (builtin_nameA O s5.top PyProof.Rows.Boot.«ValueError» hg2 (by decide) ⟨rfl, ⟨ob, hob, hobc⟩, ?_⟩ hv)
    refine lands_againW fl5 fun h6 fl6 us6 => ?_
    have s6 := bx fl6 (us5'.trans us6)
    exact wpAny_execs_cons (wpAny_Return_some (wpAny_Constant_str (k3 ρ m fp _ _ [] h6 _ ⟨s6, .str _ _, fun b hb => nomatch hb⟩ hR)))
  · refine wpAny_handleBy_builtin (X := "IndexError") (T := "ValueError") (b := false) PySem.F.isExc_ValueError PySem.F.notTuple_ValueError index_not_value (builtin_nameA O s5.top PyProof.Rows.Boot.«ValueError» hg2 (by decide) ⟨rfl, ⟨ob, hob, hobc⟩, ?_⟩ hv)
    refine wpAny_handleBy_builtin (X := "IndexError") (T := "IndexError") (b := true) PySem.F.isExc_IndexError PySem.F.notTuple_IndexError PySem.F.self_IndexError (builtin_nameA O s5.top PyProof.Rows.Boot.«IndexError» hg3 (by decide) ⟨rfl, ⟨ob, hob, hobc⟩, ?_⟩ hi)
    refine lands_againW fl5 fun h6 fl6 us6 => ?_
    have s6 := bx fl6 (us5'.trans us6)
    exact wpAny_execs_cons (wpAny_Return_some (wpAny_Constant_str (k3 ρ m fp _ _ [] h6 _ ⟨s6, .str _ _, fun b hb => nomatch hb⟩ hR)))
end
end Mine
end

section
open PySem PySem.W PySem.Calls PyProof.Rows
open PySem.Builtin PySem.Builtin.Str
set_option maxRecDepth 100000
set_option autoImplicit false
set_option linter.unusedVariables false
namespace Mine

abbrev sp (c : Nat) : Bool := Unicode.isSpace c
def rstripL (l : List Nat) : List Nat := (l.reverse.dropWhile sp).reverse
def stripL (l : List Nat) : List Nat := rstripL (l.dropWhile sp)

theorem drop_takeWhile_length {α : Type} (p : α → Bool) : ∀ l : List α, l.drop (l.takeWhile p).length = l.dropWhile p
  | [] => rfl
  | a :: l => by
    by_cases h : p a = true
    · rw [List.takeWhile_cons_of_pos h, List.dropWhile_cons_of_pos h]; simpa using drop_takeWhile_length p l
    · rw [List.takeWhile_cons_of_neg h, List.dropWhile_cons_of_neg h]; rfl
theorem rstripL_take (l : List Nat) : rstripL l = l.take (l.length - (l.reverse.takeWhile sp).length) := by
  unfold rstripL
  rw [← drop_takeWhile_length, List.reverse_drop, List.reverse_reverse]
  simp

theorem strSub_T (l : List Nat) (i j : Nat) : strSub (T l) i j = T ((l.drop i).take (j - i)) := by
  apply congrArg Str.mk
  apply Array.toList_inj.mp
  have := StrLaws.strSub_toList (T l) i j
  simpa using this

theorem rstrip_T (l : List Nat) : Txt.rstrip (T l) = T (rstripL l) := by
  rw [Txt.rstrip, PySem.W.stripBy_eq]
  show strSub (T l) (stripLo Unicode.isSpace false (T l)) (stripHi Unicode.isSpace true (T l) (stripLo Unicode.isSpace false (T l))) = _
  rw [strSub_T, rstripL_take]
  simp [stripLo, stripHi, Str.length]
theorem strip_T (l : List Nat) : Txt.strip (T l) = T (stripL l) := by
  rw [Txt.strip, PySem.W.stripBy_eq]
  show strSub (T l) (stripLo Unicode.isSpace true (T l)) (stripHi Unicode.isSpace true (T l) (stripLo Unicode.isSpace true (T l))) = _
  rw [strSub_T]
  unfold stripL
  rw [rstripL_take, ← drop_takeWhile_length]
  simp only [stripLo, stripHi, if_true, Str.length, List.length_drop]
  congr 1
  have e : l.toArray.size = l.length := by simp
  rw [e]
  congr 1
  show l.length - (List.takeWhile sp (List.drop (List.takeWhile sp l).length l).reverse).length - (List.takeWhile sp l).length = _
  omega

theorem contains_T (l : List Nat) (c : Nat) : Txt.contains (T l) (T [c]) = decide (c ∈ l) := by
  show (!(occurrences (T l) ⟨#[c]⟩ 0 (T l).length 1).isEmpty) = _
  rw [StrLaws.found_one]

/-- what is ahead of the first c, and what is behind it -/
def cutAt (c : Nat) (l : List Nat) : List (List Nat) := if c ∈ l then [l.takeWhile (· != c), (l.dropWhile (· != c)).drop 1] else [l]

theorem strKind_small {c : Nat} (hc : c < 256) (x : Str) : Builtin.Str.strKind (T [c]) ≤ Builtin.Str.strKind x := by
  have : Builtin.Str.strKind (T [c]) = 1 := by unfold Builtin.Str.strKind; simp [hc]
  rw [this]; unfold Builtin.Str.strKind; split <;> (try split) <;> decide

theorem takeWhile_at {c : Nat} : ∀ {l : List Nat} {i : Nat}, l[i]? = some c → (∀ k, k < i → l[k]? ≠ some c) → l.takeWhile (· != c) = l.take i
  | [], i, h, _ => by simp at h
  | k :: r, 0, h, _ => by
    have e : k = c := by simpa using h
    subst e
    rw [List.takeWhile_cons_of_neg (by simp)]; rfl
  | k :: r, i + 1, h, hn => by
    have h1 : k ≠ c := fun e => hn 0 (by omega) (by simp [e])
    rw [List.takeWhile_cons_of_pos (by simp [h1]), takeWhile_at (l := r) (i := i) (by simpa using h) fun j hj => by have := hn (j + 1) (by omega); simpa using this]
    rfl

theorem at_T (l : List Nat) (c i : Nat) : StrLaws.At (T l) (T [c]) (T l).length i ↔ l[i]? = some c := by
  have := StrLaws.subAt_one (T l) c i
  have e : (T l).cps.toList = l := by simp
  rw [e] at this
  exact this
theorem split_T {c : Nat} (hc : c < 256) (l : List Nat) : Txt.splitMax (T l) (T [c]) 1 = (cutAt c l).map T := by
  unfold Txt.splitMax
  have hlim : limitOf (T l) 1 = 1 := rfl
  rw [hlim]
  have len1 := StrLaws.occ_length_le (T l) (T [c]) 0 (T l).length 1
  have hk : decide (Builtin.Str.strKind (T l) < Builtin.Str.strKind (T [c])) = false := by
    have := strKind_small hc (T l)
    simpa using this
  rw [hk, Bool.or_false]
  rcases StrLaws.occ_head (T l) (T [c]) 1 (Nat.le_refl 1) with ⟨h0, hn⟩ | ⟨i, r, h0, hi, hn⟩
  · have hfree : c ∉ l := fun hm => by
      obtain ⟨j, hj⟩ := List.getElem?_of_mem hm
      exact hn j ((at_T l c j).mpr hj)
    rw [h0, cutAt, if_neg hfree]
    split <;> rfl
  · have hm := (at_T l c i).mp hi
    have hmem : c ∈ l := List.mem_of_getElem? hm
    have hr : r = [] := by
      rw [h0] at len1
      cases r with
      | nil => rfl
      | cons _ _ => simp at len1
    subst hr
    have hlt : i < l.length := (List.getElem?_eq_some_iff.mp hm).1
    have hlen : decide ((T l).length < (T [c]).length) = false := by
      rw [T_length, T_length]; simp; intro q; subst q; simp at hlt
    rw [hlen, h0, cutAt, if_pos hmem]
    have hno : ∀ k, k < i → l[k]? ≠ some c := fun k hk e => hn k hk ((at_T l c k).mpr e)
    rw [takeWhile_at hm hno, PyProof.Rows.dropWhile_at hm hno]
    show partsBetween (T l) [i] 1 = _
    unfold partsBetween
    simp only [List.map_cons, List.map_nil, List.cons_append, List.nil_append, List.zip_cons_cons, List.zip_nil_right, strSub_T, List.drop_one, List.tail_cons]
    have e : (T l).length - (i + 1) = (l.drop (i + 1)).length := by simp [Str.length]
    rw [e, List.take_length]
    simp
end Mine
end

section
open PySem PySem.W PySem.Calls PyProof.Rows
set_option maxRecDepth 100000
set_option autoImplicit false
set_option linter.unusedVariables false
namespace Mine

def defBody : Stmt → List Stmt
  | .FunctionDef _ _ body _ _ _ _ _ _ _ => body
  | _ => []
def defScope : Stmt → Scope
  | .FunctionDef _ _ _ _ _ _ scope _ _ _ => scope
  | _ => default
/-- the n-th statement of the text -/
def S1 (n : Nat) : Stmt := (PySem.Challenge.pw_rl0159_01.main.body)[n]?.getD (.Pass default)

theorem Ro.set_get (ρ : Ro) (x : Str) (sl : Slot) : (ρ.set x sl).lookup x = some sl := by rw [Ro.set_lookup, if_pos rfl]
theorem Ro.set_other {ρ : Ro} {x y : Str} {sl : Slot} {r : Option Slot} (h : (y == x) = false) (q : ρ.lookup y = r) : (ρ.set x sl).lookup y = r := by
  rw [Ro.set_lookup, if_neg (fun e => by rw [e] at h; simp at h)]; exact q

abbrev Ro.look (ρ : Ro) (x : Str) : Option Slot := ρ.lookup x

def nums (ns : List Int) : List PyData := ns.map PyData.int

/-- the sums of the numbers at each place mod k -/
def cellAdd (k : Nat) : List Int → Nat → List Int → List Int
  | cs, _, [] => cs
  | cs, i, n :: ns => cellAdd k (cs.set (i % k) ((cs[i % k]?.getD 0) + n)) (i + 1) ns
def cellsOf (k : Nat) (ns : List Int) : List Int := cellAdd k (List.replicate k 0) 0 ns
end Mine
end

section
open PySem PySem.W PySem.Calls PyProof.Rows
set_option maxRecDepth 100000
set_option autoImplicit false
set_option linter.unusedVariables false
namespace Mine

theorem nums_get {ns : List Int} {i : Nat} : (nums ns)[i]? = (ns[i]?).map PyData.int := by unfold nums; simp
theorem nums_atoms (ns : List Int) : atoms (nums ns) = true := by induction ns with | nil => rfl | cons n ns ih => simpa [nums, atoms, atom] using ih
theorem nums_set (ns : List Int) (i : Nat) (k : Int) : (nums ns).set i (.int k) = nums (ns.set i k) := by unfold nums; simp
theorem cellAdd_length (k : Nat) : ∀ (ns : List Int) (cs : List Int) (i : Nat), (cellAdd k cs i ns).length = cs.length
  | [], cs, i => rfl
  | n :: ns, cs, i => by rw [cellAdd, cellAdd_length]; simp
theorem cellAdd_snoc (k : Nat) (n : Int) : ∀ (ns cs : List Int) (i : Nat), cellAdd k cs i (ns ++ [n]) = (cellAdd k cs i ns).set ((i + ns.length) % k) (((cellAdd k cs i ns)[(i + ns.length) % k]?.getD 0) + n)
  | [], cs, i => by simp [cellAdd]
  | m :: ns, cs, i => by
    simp only [List.cons_append, cellAdd, List.length_cons]
    rw [cellAdd_snoc k n ns]
    have : i + 1 + ns.length = i + (ns.length + 1) := by omega
    rw [this]

theorem cells_ex {D : Wd} {A : Around} {fd : FuncData} {L fa : Addr} {stk : List Env} {H1 : Heap} {args : List Addr} {n : Nat} (O : (mkAct D A fd L fa stk H1 args n).Ok) (hfd : fd.scope = defScope (S1 4)) (E : Value → Shared → Prop) (ns : List Int)
    (hn : ns.length ≤ 63) (hg : D.mg "enumerate" = none) :
    Ex (mkAct D A fd L fa stk H1 args n) E (slots ["script"] [.list (nums ns)]) (defBody (S1 4)) (fun _ => False) (fun _ d => d = .list (nums (cellsOf 19 ns))) (fun _ => False) := by
  obtain ⟨name, qualname, params, body, scope, globals, closure, dv, kv, doc, pm, an, cd, ct, bt⟩ := fd
  dsimp only at hfd
  subst hfd
  refine Ex.cons (Ex1.assign O true ?_)
  (first | refine Mine.Ev.str ?_ | refine Mine.Ev.int ?_ | refine Mine.Ev.bool ?_ | refine Mine.Ev.name (by assumption) (by ((repeat' (first | exact Mine.Ro.set_get _ _ _ | refine Mine.Ro.set_other (by decide) ?_ | assumption | rfl)); done)) ?_ | refine Mine.Ev.neg (by assumption) ?_ | refine Mine.EvL.nil ?_ | refine Mine.EvL.cons (by assumption) ?_ | refine Mine.Ev.tuple (by assumption) ?_ | refine Mine.Ev.list (by assumption) ?_ | refine Mine.Ev.dict0 (by assumption) ?_ | refine Mine.Ev.binop (by assumption) ?_ | refine Mine.Ev.cmp (by assumption) ?_ | refine Mine.EvT.cmp (by assumption) ?_ | refine Mine.EvT.not ?_ | refine Mine.EvT.bool ?_ | refine Mine.Ev.boolOp (by assumption) ?_ | refine Mine.Ev.slice (by assumption) ?_ | refine Mine.Ev.item (by assumption) ?_ | refine Mine.Ev.strip (by assumption) ?_ | refine Mine.Ev.rstrip (by assumption) ?_ | refine Mine.Ev.join (by assumption) ?_ | refine Mine.Ev.split (by assumption) ?_ | refine Mine.Ev.ifExp ?_ | refine Mine.EvT.val (by assumption) ?_)
  (first | refine Mine.Ev.str ?_ | refine Mine.Ev.int ?_ | refine Mine.Ev.bool ?_ | refine Mine.Ev.name (by assumption) (by ((repeat' (first | exact Mine.Ro.set_get _ _ _ | refine Mine.Ro.set_other (by decide) ?_ | assumption | rfl)); done)) ?_ | refine Mine.Ev.neg (by assumption) ?_ | refine Mine.EvL.nil ?_ | refine Mine.EvL.cons (by assumption) ?_ | refine Mine.Ev.tuple (by assumption) ?_ | refine Mine.Ev.list (by assumption) ?_ | refine Mine.Ev.dict0 (by assumption) ?_ | refine Mine.Ev.binop (by assumption) ?_ | refine Mine.Ev.cmp (by assumption) ?_ | refine Mine.EvT.cmp (by assumption) ?_ | refine Mine.EvT.not ?_ | refine Mine.EvT.bool ?_ | refine Mine.Ev.boolOp (by assumption) ?_ | refine Mine.Ev.slice (by assumption) ?_ | refine Mine.Ev.item (by assumption) ?_ | refine Mine.Ev.strip (by assumption) ?_ | refine Mine.Ev.rstrip (by assumption) ?_ | refine Mine.Ev.join (by assumption) ?_ | refine Mine.Ev.split (by assumption) ?_ | refine Mine.Ev.ifExp ?_ | refine Mine.EvT.val (by assumption) ?_)
  (first | refine Mine.Ev.str ?_ | refine Mine.Ev.int ?_ | refine Mine.Ev.bool ?_ | refine Mine.Ev.name (by assumption) (by ((repeat' (first | exact Mine.Ro.set_get _ _ _ | refine Mine.Ro.set_other (by decide) ?_ | assumption | rfl)); done)) ?_ | refine Mine.Ev.neg (by assumption) ?_ | refine Mine.EvL.nil ?_ | refine Mine.EvL.cons (by assumption) ?_ | refine Mine.Ev.tuple (by assumption) ?_ | refine Mine.Ev.list (by assumption) ?_ | refine Mine.Ev.dict0 (by assumption) ?_ | refine Mine.Ev.binop (by assumption) ?_ | refine Mine.Ev.cmp (by assumption) ?_ | refine Mine.EvT.cmp (by assumption) ?_ | refine Mine.EvT.not ?_ | refine Mine.EvT.bool ?_ | refine Mine.Ev.boolOp (by assumption) ?_ | refine Mine.Ev.slice (by assumption) ?_ | refine Mine.Ev.item (by assumption) ?_ | refine Mine.Ev.strip (by assumption) ?_ | refine Mine.Ev.rstrip (by assumption) ?_ | refine Mine.Ev.join (by assumption) ?_ | refine Mine.Ev.split (by assumption) ?_ | refine Mine.Ev.ifExp ?_ | refine Mine.EvT.val (by assumption) ?_)
  (first | refine Mine.Ev.str ?_ | refine Mine.Ev.int ?_ | refine Mine.Ev.bool ?_ | refine Mine.Ev.name (by assumption) (by ((repeat' (first | exact Mine.Ro.set_get _ _ _ | refine Mine.Ro.set_other (by decide) ?_ | assumption | rfl)); done)) ?_ | refine Mine.Ev.neg (by assumption) ?_ | refine Mine.EvL.nil ?_ | refine Mine.EvL.cons (by assumption) ?_ | refine Mine.Ev.tuple (by assumption) ?_ | refine Mine.Ev.list (by assumption) ?_ | refine Mine.Ev.dict0 (by assumption) ?_ | refine Mine.Ev.binop (by assumption) ?_ | refine Mine.Ev.cmp (by assumption) ?_ | refine Mine.EvT.cmp (by assumption) ?_ | refine Mine.EvT.not ?_ | refine Mine.EvT.bool ?_ | refine Mine.Ev.boolOp (by assumption) ?_ | refine Mine.Ev.slice (by assumption) ?_ | refine Mine.Ev.item (by assumption) ?_ | refine Mine.Ev.strip (by assumption) ?_ | refine Mine.Ev.rstrip (by assumption) ?_ | refine Mine.Ev.join (by assumption) ?_ | refine Mine.Ev.split (by assumption) ?_ | refine Mine.Ev.ifExp ?_ | refine Mine.EvT.val (by assumption) ?_)
  (first | refine Mine.Ev.str ?_ | refine Mine.Ev.int ?_ | refine Mine.Ev.bool ?_ | refine Mine.Ev.name (by assumption) (by ((repeat' (first | exact Mine.Ro.set_get _ _ _ | refine Mine.Ro.set_other (by decide) ?_ | assumption | rfl)); done)) ?_ | refine Mine.Ev.neg (by assumption) ?_ | refine Mine.EvL.nil ?_ | refine Mine.EvL.cons (by assumption) ?_ | refine Mine.Ev.tuple (by assumption) ?_ | refine Mine.Ev.list (by assumption) ?_ | refine Mine.Ev.dict0 (by assumption) ?_ | refine Mine.Ev.binop (by assumption) ?_ | refine Mine.Ev.cmp (by assumption) ?_ | refine Mine.EvT.cmp (by assumption) ?_ | refine Mine.EvT.not ?_ | refine Mine.EvT.bool ?_ | refine Mine.Ev.boolOp (by assumption) ?_ | refine Mine.Ev.slice (by assumption) ?_ | refine Mine.Ev.item (by assumption) ?_ | refine Mine.Ev.strip (by assumption) ?_ | refine Mine.Ev.rstrip (by assumption) ?_ | refine Mine.Ev.join (by assumption) ?_ | refine Mine.Ev.split (by assumption) ?_ | refine Mine.Ev.ifExp ?_ | refine Mine.EvT.val (by assumption) ?_)
  refine ⟨by decide, by decide, ?_⟩
  (first | refine Mine.Ev.str ?_ | refine Mine.Ev.int ?_ | refine Mine.Ev.bool ?_ | refine Mine.Ev.name (by assumption) (by ((repeat' (first | exact Mine.Ro.set_get _ _ _ | refine Mine.Ro.set_other (by decide) ?_ | assumption | rfl)); done)) ?_ | refine Mine.Ev.neg (by assumption) ?_ | refine Mine.EvL.nil ?_ | refine Mine.EvL.cons (by assumption) ?_ | refine Mine.Ev.tuple (by assumption) ?_ | refine Mine.Ev.list (by assumption) ?_ | refine Mine.Ev.dict0 (by assumption) ?_ | refine Mine.Ev.binop (by assumption) ?_ | refine Mine.Ev.cmp (by assumption) ?_ | refine Mine.EvT.cmp (by assumption) ?_ | refine Mine.EvT.not ?_ | refine Mine.EvT.bool ?_ | refine Mine.Ev.boolOp (by assumption) ?_ | refine Mine.Ev.slice (by assumption) ?_ | refine Mine.Ev.item (by assumption) ?_ | refine Mine.Ev.strip (by assumption) ?_ | refine Mine.Ev.rstrip (by assumption) ?_ | refine Mine.Ev.join (by assumption) ?_ | refine Mine.Ev.split (by assumption) ?_ | refine Mine.Ev.ifExp ?_ | refine Mine.EvT.val (by assumption) ?_)
  refine ⟨by decide, by decide, by decide, by decide, by decide, by decide, fun _ => ⟨rfl, by decide, rfl⟩, ?_⟩
  refine Ex.cons (Ex1.forEnum O (fun i ρ => ρ.look "cells" = some ⟨.list (nums (cellAdd 19 (List.replicate 19 0) 0 (ns.take i))), true⟩) (nums ns) (fun i d ρ' hd hJ => ?_) (fun ρ' hJ => ?_) ?_ hg (hl := ?_))
  · obtain ⟨k, hk, rfl⟩ : ∃ k, ns[i]? = some k ∧ d = .int k := by
      rw [nums_get] at hd
      cases q : ns[i]? with
      | none => rw [q] at hd; cases hd
      | some k => rw [q] at hd; exact ⟨k, rfl, by simpa using hd.symm⟩
    have hi : i < ns.length := by have := (List.getElem?_eq_some_iff.mp hk).1; exact this
    refine Ex.cons (Ex1.augItem O (by ((repeat' (first | exact Mine.Ro.set_get _ _ _ | refine Mine.Ro.set_other (by decide) ?_ | assumption | rfl)); done)) (nums_atoms _) ?_)
    (first | refine Mine.Ev.str ?_ | refine Mine.Ev.int ?_ | refine Mine.Ev.bool ?_ | refine Mine.Ev.name (by assumption) (by ((repeat' (first | exact Mine.Ro.set_get _ _ _ | refine Mine.Ro.set_other (by decide) ?_ | assumption | rfl)); done)) ?_ | refine Mine.Ev.neg (by assumption) ?_ | refine Mine.EvL.nil ?_ | refine Mine.EvL.cons (by assumption) ?_ | refine Mine.Ev.tuple (by assumption) ?_ | refine Mine.Ev.list (by assumption) ?_ | refine Mine.Ev.dict0 (by assumption) ?_ | refine Mine.Ev.binop (by assumption) ?_ | refine Mine.Ev.cmp (by assumption) ?_ | refine Mine.EvT.cmp (by assumption) ?_ | refine Mine.EvT.not ?_ | refine Mine.EvT.bool ?_ | refine Mine.Ev.boolOp (by assumption) ?_ | refine Mine.Ev.slice (by assumption) ?_ | refine Mine.Ev.item (by assumption) ?_ | refine Mine.Ev.strip (by assumption) ?_ | refine Mine.Ev.rstrip (by assumption) ?_ | refine Mine.Ev.join (by assumption) ?_ | refine Mine.Ev.split (by assumption) ?_ | refine Mine.Ev.ifExp ?_ | refine Mine.EvT.val (by assumption) ?_)
    (first | refine Mine.Ev.str ?_ | refine Mine.Ev.int ?_ | refine Mine.Ev.bool ?_ | refine Mine.Ev.name (by assumption) (by ((repeat' (first | exact Mine.Ro.set_get _ _ _ | refine Mine.Ro.set_other (by decide) ?_ | assumption | rfl)); done)) ?_ | refine Mine.Ev.neg (by assumption) ?_ | refine Mine.EvL.nil ?_ | refine Mine.EvL.cons (by assumption) ?_ | refine Mine.Ev.tuple (by assumption) ?_ | refine Mine.Ev.list (by assumption) ?_ | refine Mine.Ev.dict0 (by assumption) ?_ | refine Mine.Ev.binop (by assumption) ?_ | refine Mine.Ev.cmp (by assumption) ?_ | refine Mine.EvT.cmp (by assumption) ?_ | refine Mine.EvT.not ?_ | refine Mine.EvT.bool ?_ | refine Mine.Ev.boolOp (by assumption) ?_ | refine Mine.Ev.slice (by assumption) ?_ | refine Mine.Ev.item (by assumption) ?_ | refine Mine.Ev.strip (by assumption) ?_ | refine Mine.Ev.rstrip (by assumption) ?_ | refine Mine.Ev.join (by assumption) ?_ | refine Mine.Ev.split (by assumption) ?_ | refine Mine.Ev.ifExp ?_ | refine Mine.EvT.val (by assumption) ?_)
    (first | refine Mine.Ev.str ?_ | refine Mine.Ev.int ?_ | refine Mine.Ev.bool ?_ | refine Mine.Ev.name (by assumption) (by ((repeat' (first | exact Mine.Ro.set_get _ _ _ | refine Mine.Ro.set_other (by decide) ?_ | assumption | rfl)); done)) ?_ | refine Mine.Ev.neg (by assumption) ?_ | refine Mine.EvL.nil ?_ | refine Mine.EvL.cons (by assumption) ?_ | refine Mine.Ev.tuple (by assumption) ?_ | refine Mine.Ev.list (by assumption) ?_ | refine Mine.Ev.dict0 (by assumption) ?_ | refine Mine.Ev.binop (by assumption) ?_ | refine Mine.Ev.cmp (by assumption) ?_ | refine Mine.EvT.cmp (by assumption) ?_ | refine Mine.EvT.not ?_ | refine Mine.EvT.bool ?_ | refine Mine.Ev.boolOp (by assumption) ?_ | refine Mine.Ev.slice (by assumption) ?_ | refine Mine.Ev.item (by assumption) ?_ | refine Mine.Ev.strip (by assumption) ?_ | refine Mine.Ev.rstrip (by assumption) ?_ | refine Mine.Ev.join (by assumption) ?_ | refine Mine.Ev.split (by assumption) ?_ | refine Mine.Ev.ifExp ?_ | refine Mine.EvT.val (by assumption) ?_)
    refine ⟨by decide, ?_⟩
    have hm : ((i : Int).fmod 19) = ((i % 19 : Nat) : Int) := by rw [Int.fmod_eq_emod_of_nonneg _ (by decide)]; rfl
    rw [hm]
    have hlt : i % 19 < 19 := Nat.mod_lt _ (by decide)
    refine ⟨_, (cellAdd 19 (List.replicate 19 0) 0 (ns.take i))[i % 19]?.getD 0, rfl, by omega, by omega, ?_, ?_⟩
    · rw [nums_get, show ((i % 19 : Nat) : Int).toNat = i % 19 from Int.toNat_natCast _]
      have : i % 19 < (cellAdd 19 (List.replicate 19 0) 0 (ns.take i)).length := by rw [cellAdd_length]; simpa using hlt
      rw [List.getElem?_eq_getElem this]; rfl
    · (first | refine Mine.Ev.str ?_ | refine Mine.Ev.int ?_ | refine Mine.Ev.bool ?_ | refine Mine.Ev.name (by assumption) (by ((repeat' (first | exact Mine.Ro.set_get _ _ _ | refine Mine.Ro.set_other (by decide) ?_ | assumption | rfl)); done)) ?_ | refine Mine.Ev.neg (by assumption) ?_ | refine Mine.EvL.nil ?_ | refine Mine.EvL.cons (by assumption) ?_ | refine Mine.Ev.tuple (by assumption) ?_ | refine Mine.Ev.list (by assumption) ?_ | refine Mine.Ev.dict0 (by assumption) ?_ | refine Mine.Ev.binop (by assumption) ?_ | refine Mine.Ev.cmp (by assumption) ?_ | refine Mine.EvT.cmp (by assumption) ?_ | refine Mine.EvT.not ?_ | refine Mine.EvT.bool ?_ | refine Mine.Ev.boolOp (by assumption) ?_ | refine Mine.Ev.slice (by assumption) ?_ | refine Mine.Ev.item (by assumption) ?_ | refine Mine.Ev.strip (by assumption) ?_ | refine Mine.Ev.rstrip (by assumption) ?_ | refine Mine.Ev.join (by assumption) ?_ | refine Mine.Ev.split (by assumption) ?_ | refine Mine.Ev.ifExp ?_ | refine Mine.EvT.val (by assumption) ?_)
      refine ⟨k, rfl, Ex.nil ?_⟩
      show (Ro.set _ _ _).lookup _ = _
      rw [Ro.set_get, show ((i % 19 : Nat) : Int).toNat = i % 19 from Int.toNat_natCast _, nums_set]
      have : ns.take (i + 1) = ns.take i ++ [k] := by rw [List.take_add_one, hk]; rfl
      rw [this, cellAdd_snoc]
      simp [List.length_take, Nat.min_eq_left (Nat.le_of_lt hi)]
  · refine Ex.cons (Ex1.ret O ?_)
    (first | refine Mine.Ev.str ?_ | refine Mine.Ev.int ?_ | refine Mine.Ev.bool ?_ | refine Mine.Ev.name (by assumption) (by ((repeat' (first | exact Mine.Ro.set_get _ _ _ | refine Mine.Ro.set_other (by decide) ?_ | assumption | rfl)); done)) ?_ | refine Mine.Ev.neg (by assumption) ?_ | refine Mine.EvL.nil ?_ | refine Mine.EvL.cons (by assumption) ?_ | refine Mine.Ev.tuple (by assumption) ?_ | refine Mine.Ev.list (by assumption) ?_ | refine Mine.Ev.dict0 (by assumption) ?_ | refine Mine.Ev.binop (by assumption) ?_ | refine Mine.Ev.cmp (by assumption) ?_ | refine Mine.EvT.cmp (by assumption) ?_ | refine Mine.EvT.not ?_ | refine Mine.EvT.bool ?_ | refine Mine.Ev.boolOp (by assumption) ?_ | refine Mine.Ev.slice (by assumption) ?_ | refine Mine.Ev.item (by assumption) ?_ | refine Mine.Ev.strip (by assumption) ?_ | refine Mine.Ev.rstrip (by assumption) ?_ | refine Mine.Ev.join (by assumption) ?_ | refine Mine.Ev.split (by assumption) ?_ | refine Mine.Ev.ifExp ?_ | refine Mine.EvT.val (by assumption) ?_)
    rw [show (nums ns).length = ns.length by unfold nums; simp, List.take_length]; rfl
  · (first | refine Mine.Ev.str ?_ | refine Mine.Ev.int ?_ | refine Mine.Ev.bool ?_ | refine Mine.Ev.name (by assumption) (by ((repeat' (first | exact Mine.Ro.set_get _ _ _ | refine Mine.Ro.set_other (by decide) ?_ | assumption | rfl)); done)) ?_ | refine Mine.Ev.neg (by assumption) ?_ | refine Mine.EvL.nil ?_ | refine Mine.EvL.cons (by assumption) ?_ | refine Mine.Ev.tuple (by assumption) ?_ | refine Mine.Ev.list (by assumption) ?_ | refine Mine.Ev.dict0 (by assumption) ?_ | refine Mine.Ev.binop (by assumption) ?_ | refine Mine.Ev.cmp (by assumption) ?_ | refine Mine.EvT.cmp (by assumption) ?_ | refine Mine.EvT.not ?_ | refine Mine.EvT.bool ?_ | refine Mine.Ev.boolOp (by assumption) ?_ | refine Mine.Ev.slice (by assumption) ?_ | refine Mine.Ev.item (by assumption) ?_ | refine Mine.Ev.strip (by assumption) ?_ | refine Mine.Ev.rstrip (by assumption) ?_ | refine Mine.Ev.join (by assumption) ?_ | refine Mine.Ev.split (by assumption) ?_ | refine Mine.Ev.ifExp ?_ | refine Mine.EvT.val (by assumption) ?_)
    refine ⟨by decide, rfl, nums_atoms _, ?_⟩
    rfl
  · intro z hz
    simp only [List.mem_cons, List.not_mem_nil, or_false] at hz
    rcases hz with rfl | rfl <;> exact ⟨rfl, nofun⟩
end Mine
end

section
open PySem PySem.W PySem.Calls PyProof.Rows
set_option maxRecDepth 100000
set_option autoImplicit false
set_option linter.unusedVariables false
namespace Mine

/-- a value without its two quotes -/
def unq (v : List Nat) : List Nat := if v.head? = some 34 ∧ v.getLast? = some 34 then pySl v (some 1) (some (-1)) else v
inductive KR
  | val (ps : List (Str × Str))
  | err (c : String)
def keqv1 (ps : List (Str × Str)) (x : List Nat) : KR := match cutAt 61 x with
  | [k, v] => if v = [] then .err "IndexError" else .val (dput ps (T k) (T (unq v)))
  | _ => .err "ValueError"
def keqv : List (Str × Str) → List (List Nat) → KR
  | ps, [] => .val ps
  | ps, x :: xs => match keqv1 ps x with
    | .val ps' => keqv ps' xs
    | .err c => .err c

def texts (xs : List (List Nat)) : List PyData := xs.map fun x => .str (T x)
theorem texts_atoms (xs : List (List Nat)) : atoms (texts xs) = true := by induction xs with | nil => rfl | cons n ns ih => simpa [texts, atoms, atom] using ih

theorem cutAt_cases (c : Nat) (l : List Nat) : cutAt c l = [l] ∨ ∃ k v, cutAt c l = [k, v] ∧ k.length ≤ l.length ∧ v.length ≤ l.length := by
  unfold cutAt
  split
  · refine .inr ⟨_, _, rfl, ?_, ?_⟩
    · exact (List.takeWhile_sublist _).length_le
    · rw [List.length_drop]
      have := (List.dropWhile_sublist (fun x => x != c) (l := l)).length_le
      omega
  · exact .inl rfl
theorem dput_length (ps : List (Str × Str)) (k y : Str) : (dput ps k y).length ≤ ps.length + 1 := by
  unfold dput; split <;> simp

theorem charAt_T0 (l : List Nat) : Txt.charAt (T l) 0 = l.head? := by
  unfold Txt.charAt
  cases l with
  | nil => rfl
  | cons a r =>
    have : seqIndex? 0 (T (a :: r)).length = some 0 := by simp [seqIndex?, Str.length]
    rw [this]; rfl
theorem charAt_Tlast (l : List Nat) : Txt.charAt (T l) (-1) = l.getLast? := by
  unfold Txt.charAt
  cases l with
  | nil => rfl
  | cons a r =>
    have : seqIndex? (-1) (T (a :: r)).length = some r.length := by
      simp [seqIndex?, Str.length]; omega
    rw [this]
    simp [List.getLast?_eq_getElem?]
theorem item_T {l : List Nat} {i : Int} {c : Nat} (h : Txt.charAt (T l) i = some c) : Txt.item (T l) i = T [c] := by
  unfold Txt.item; rw [h]; rfl
theorem T_one_beq (a b : Nat) : (T [a] == T [b]) = (a == b) := by
  rw [Bool.eq_iff_iff, beq_iff_eq, beq_iff_eq, T_inj]; simp

theorem size_small {n : Nat} (h : n ≤ 5000) : n ≤ sizeLine := Nat.le_trans h (by decide)

abbrev actOf {a : Act} (_ : a.Ok) : Act := a

theorem keqv_ex {D : Wd} {A : Around} {fd : FuncData} {L fa : Addr} {stk : List Env} {H1 : Heap} {args : List Addr} {n : Nat} (O : (mkAct D A fd L fa stk H1 args n).Ok) (hfd : fd.scope = defScope (S1 1))
    {xs : List (List Nat)} (hx : ∀ x ∈ xs, x.length ≤ 1000) (hxs : xs.length ≤ 1000) (E : Value → Shared → Prop) (m : Str → Option Value) (fp : Str → List Addr) (s1 : Shared) (Q : Flow → Shared → Prop)
    (hs : Sat (mkAct D A fd L fa stk H1 args n) (slots ["l"] [.list (texts xs)]) m fp H1 s1.heap)
    (k3 : ∀ ρ' m' fp' v d as h tk, RetOk (mkAct D A fd L fa stk H1 args n) ρ' m' fp' H1 h v d as → (∃ ps, keqv [] xs = .val ps ∧ d = .dict (ps.map sPair)) → Q (.ret v) { s1 with heap := h, toks := tk })
    (hE : ∀ e c a0 h tk, keqv [] xs = .err c → Heap.HeldW (hideAll H1 (framesOf (callEnv fd L fa :: stk))) (callEnv fd L fa :: stk) e (.type c) a0 L h → H1.UpToSlots h → E (.ref e) { s1 with heap := h, toks := tk }) :
    wpAny (mkAct D A fd L fa stk H1 args n).M (mkAct D A fd L fa stk H1 args n).A (execs (defBody (S1 1)) (mkAct D A fd L fa stk H1 args n).env) Q E s1 := by
  obtain ⟨name, qualname, params, body, scope, globals, closure, dv, kv, doc, pm, an, cd, ct, bt⟩ := fd
  dsimp only at hfd
  subst hfd
  refine wpAny_execs_cons (Ex1.go (N := fun ρ' => ρ'.look "parsed" = some ⟨.dict [], true⟩ ∧ ρ'.look "l" = some ⟨.list (texts xs), false⟩) (R := fun _ _ => False) (C := fun _ => False) (Ex1.assign O true (Ev.dict0 O ⟨by decide, fun _ => ⟨rfl, rfl, rfl⟩, by ((repeat' (first | exact Mine.Ro.set_get _ _ _ | refine Mine.Ro.set_other (by decide) ?_ | assumption | rfl)); done), by ((repeat' (first | exact Mine.Ro.set_get _ _ _ | refine Mine.Ro.set_other (by decide) ?_ | assumption | rfl)); done)⟩)) hs (fun ρ1 m1 fp1 h1 tk1 hs1 p1 => ?_) (fun _ _ _ _ _ _ p => p.elim) (fun _ _ _ _ _ _ _ _ _ p => p.elim))
  obtain ⟨p1, p2⟩ := p1
  refine wpAny_execs_cons (forListX (g := H1) (N := fun ρ' => ∃ ps, ρ'.look "parsed" = some ⟨.dict (ps.map sPair), true⟩ ∧ keqv [] xs = .val ps) (R := fun _ _ => False) (xs := texts xs) O []
    (fun rest ρ' => ∃ ps xs', rest = texts xs' ∧ ρ'.look "parsed" = some ⟨.dict (ps.map sPair), true⟩ ∧ keqv [] xs = keqv ps xs' ∧ (∀ x ∈ xs', x.length ≤ 1000) ∧ ps.length + xs'.length ≤ 1000)
    (fun ρ' ⟨ps, xs', e, h1, h2, _⟩ => ⟨ps, h1, ?_⟩) ?_ hs1 (fun _ z => nomatch z) (fun _ z => nomatch z) (fun _ z => nomatch z) ?_ (fun ρ2 m2 fp2 h2 tk2 hs2 _ p => ?_) (fun _ _ _ _ _ _ _ _ _ p => p.elim))
  · cases xs' with
    | nil => rw [h2]; rfl
    | cons _ _ => cases e
  · -- a turn
    rintro x' rest ρ' ⟨ps, xs', e, hps, hk, hlen, hsum⟩ m' fp' g' h0 tk0 v as Q' hs' _ _ rd' fo' up kn kr
    cases xs' with
    | nil => cases e
    | cons x xr =>
    obtain ⟨rfl, rfl⟩ : x' = .str (T x) ∧ rest = texts xr := by
      have := e; unfold texts at this; rw [List.map_cons] at this
      exact ⟨(List.cons.inj this).1, (List.cons.inj this).2⟩
    have hxl := hlen x (.head _)
    refine Asg.go (s := { s1 with heap := h0, toks := tk0 }) (N := fun ρ2 => ρ2.look "elt" = some ⟨.str (T x), false⟩ ∧ ρ2.look "parsed" = some ⟨.dict (ps.map sPair), true⟩) (Asg.name O ⟨by ((repeat' (first | exact Mine.Ro.set_get _ _ _ | refine Mine.Ro.set_other (by decide) ?_ | assumption | rfl)); done), by ((repeat' (first | exact Mine.Ro.set_get _ _ _ | refine Mine.Ro.set_other (by decide) ?_ | assumption | rfl)); done)⟩) hs' rd' fo' fun ρ2 m2 fp2 h2 tk2 hs2 p2 => ?_
    obtain ⟨q1, q2⟩ := p2
    have spl : ∀ {P : PyData → Nat → Prop} {E' : Value → Shared → Prop} {pos apos a1 a2 a3 : Pos} {kk1 kk2 : Nat}, P (.list ((cutAt 61 x).map fun y => .str (T y))) 2 → (apos.endLine == pos.line) = true → Ev (actOf O) E' ρ2 (.Call (.Attribute (.Name "elt" a3) "split" apos) [.Constant (.str "=") kk1 a1, .Constant (.int 1) kk2 a2] [] pos) P := by
      intro P E' pos apos a1 a2 a3 kk1 kk2 hp hline
      refine Ev.split O (Ev.name O q1 ⟨T x, rfl, ?_, ?_⟩) (hline := hline)
      · rw [T_length]; exact size_small (by omega)
      · have : Txt.splitMax (T x) (Str.ofString "=") 1 = (cutAt 61 x).map T := split_T (c := 61) (by decide) x
        rw [this, List.map_map]; exact hp
    rcases cutAt_cases 61 x with hc | ⟨k, v', hc, hkl, hvl⟩
    · -- no =
      refine wpAny_execs_cons (Assign_Tuple (Ev.go (spl (P := fun d f => d = .list [.str (T x)]) (by rw [hc]; rfl) rfl) hs2 fun v3 d3 f3 as3 h3 tk3 r3 p3 => ?_) rfl rfl)
      subst p3
      obtain ⟨l, vs, nn, bs, rfl, rfl, ho, q⟩ := r3.rd.list_inv
      obtain ⟨u, rfl⟩ : ∃ u, vs = [u] := len_one q.length
      rw [arm_assign_Tuple]
      refine wpAny_bind (wpAny_standAt ?_)
      unfold PySem.unpack
      refine wpAny_bind (wpAny_holding (unpackItems_list1 O.hd ⟨_, ho, rfl, nn, rfl⟩ fun h4 h5 tk5 ex kp hx => ?_))
      have gx : Ext _ H1 h4 := up _ ((r3.sat.gx).trans kp.ext)
      refine loop_raise (outer := stk) O rfl rfl gx (r3.sat.ff.ext kp.ext (F' := [])) hx fun a0 h6 held us => ?_
      refine hE ex "ValueError" a0 h6 _ ?_ held us
      rw [hk]
      show (match keqv1 ps x with | .val ps' => keqv ps' xr | .err c => KR.err c) = _
      rw [keqv1, hc]
    · have loc : ∀ z ∈ [("k" : Str), "v"], (actOf O).env.kindOf z = some .local ∧ (actOf O).pinN ≠ some z := by
        intro z hz
        simp only [List.mem_cons, List.not_mem_nil, or_false] at hz
        rcases hz with rfl | rfl <;> exact ⟨rfl, nofun⟩
      refine wpAny_execs_cons (Ex1.go (N := fun ρ3 => ρ3.look "k" = some ⟨.str (T k), false⟩ ∧ ρ3.look "v" = some ⟨.str (T v'), false⟩ ∧ ρ3.look "parsed" = some ⟨.dict (ps.map sPair), true⟩) (R := fun _ _ => False) (C := fun _ => False)
        (Ex1.unpack2 (x := "k") (y := "v") O (spl ⟨by decide, _, _, by rw [hc]; rfl, by ((repeat' (first | exact Mine.Ro.set_get _ _ _ | refine Mine.Ro.set_other (by decide) ?_ | assumption | rfl)); done), by ((repeat' (first | exact Mine.Ro.set_get _ _ _ | refine Mine.Ro.set_other (by decide) ?_ | assumption | rfl)); done), by ((repeat' (first | exact Mine.Ro.set_get _ _ _ | refine Mine.Ro.set_other (by decide) ?_ | assumption | rfl)); done)⟩ rfl) (hl := loc)) hs2 (fun ρ3 m3 fp3 h3 tk3 hs3 p3 => ?_) (fun _ _ _ _ _ _ p => p.elim) (fun _ _ _ _ _ _ _ _ _ p => p.elim))
      obtain ⟨z1, z2, z3⟩ := p3
      by_cases hv : v' = []
      · subst hv
        refine wpAny_execs_cons (wpAny_If (wpAny_isTrue_BoolOp (wpAny_allTrue_And_cons (wpAny_isTrue_Compare1 (Subscript_Constant (Ev.go (P := fun d _ => d = .str (T [])) (Ev.name O z2 rfl) hs3 fun v4 d4 f4 as4 h4 tk4 r4 p4 => ?_))))))
        subst p4
        obtain ⟨⟨t4, rfl⟩, _⟩ := r4.rd.str_inv
        refine wpAny_Constant_int ⟨"str", _, F.slot_str_getitem.lookup, typeIs_str _ _ _, getItem_meets (typeIs_str _ _ _) (by decide) F.slot_str_getitem F.entry_str_getitem (F.args_str_getitem_2 _ _) (raises_str_getitem (T []) 0 _ _ (by decide) rfl) ⟨O.hd, fun h5 tk5 ex hx => ?_⟩⟩
        have gx : Ext _ H1 h4 := up _ r4.sat.gx
        refine loop_raise (outer := stk) O rfl rfl gx r4.sat.ff hx fun a0 h6 held us => ?_
        refine hE ex "IndexError" a0 h6 _ ?_ held us
        rw [hk]
        show (match keqv1 ps x with | .val ps' => keqv ps' xr | .err c => KR.err c) = _
        rw [keqv1, hc]; rfl
      · refine Ex.go (N := fun ρ' => ∃ ps xs', texts xr = texts xs' ∧ ρ'.look "parsed" = some ⟨.dict (ps.map sPair), true⟩ ∧ keqv [] xs = keqv ps xs' ∧ (∀ x ∈ xs', x.length ≤ 1000) ∧ ps.length + xs'.length ≤ 1000) (R := fun _ _ => False) (C := fun _ => False) ?_ hs3 (fun ρ' m' fp' h tk q p => (kn ρ' m' fp' h tk q (fun _ z => nomatch z) p).1) (fun _ _ _ _ _ _ p => p.elim) (fun _ _ _ _ _ _ _ _ _ p => p.elim)
        have hps' : (dput ps (T k) (T (unq v'))).length + xr.length ≤ 1000 := by
          have := dput_length ps (T k) (T (unq v')); simp only [List.length_cons] at hsum; omega
        have hkk : keqv [] xs = keqv (dput ps (T k) (T (unq v'))) xr := by
          rw [hk]
          show (match keqv1 ps x with | .val ps' => keqv ps' xr | .err c => KR.err c) = _
          rw [keqv1, hc]; simp only [hv, if_false]
        have hvs : (T v').length ≤ sizeLine := by rw [T_length]; exact size_small (by omega)
        cases v' with
        | nil => exact absurd rfl hv
        | cons a0 r0 =>
        obtain ⟨cl, hcl⟩ : ∃ cl, (a0 :: r0).getLast? = some cl := ⟨_, List.getLast?_cons⟩
        have e0 : Txt.charAt (T (a0 :: r0)) 0 = some a0 := charAt_T0 _
        have el : Txt.charAt (T (a0 :: r0)) (-1) = some cl := by rw [charAt_Tlast, hcl]
        have q34 : (Str.ofString "\"") = T [34] := rfl
        refine Ex.cons (Ex1.ifs (EvT.bool ?_))
        refine EvT.cmp O (Ev.item O (Ev.name O z2 ⟨fun q => absurd q (by decide), Ev.int ⟨by rw [e0]; rfl, by decide, by decide, Ev.str ?_⟩⟩))
        show (if (Txt.item (T (a0 :: r0)) 0 == (Str.ofString "\"")) = (BoolOp.And == BoolOp.And) then _ else _)
        rw [item_T e0, q34, T_one_beq]
        by_cases h0 : a0 = 34
        · rw [if_pos (by simp [h0])]
          refine EvT.cmp O (Ev.item O (Ev.name O z2 ⟨fun q => absurd q (by decide), Ev.neg O ⟨by rw [el]; rfl, by decide, by decide, Ev.str ?_⟩⟩))
          show (if (Txt.item (T (a0 :: r0)) (-1) == (Str.ofString "\"")) = (BoolOp.And == BoolOp.And) then _ else _)
          rw [item_T el, q34, T_one_beq]
          by_cases h1 : cl = 34
          · rw [if_pos (by simp [h1])]
            have hu : unq (a0 :: r0) = pySl (a0 :: r0) (some 1) (some (-1)) := by unfold unq; rw [if_pos ⟨by simp [h0], by rw [hcl, h1]⟩]
            show Ex _ _ _ _ _ _ _
            refine Ex.cons (Ex1.assign O false (Ev.slice O (Ev.name O z2 ?_)))
            refine Ev.int ⟨1, rfl, Ev.neg O ⟨-1, rfl, hvs, by decide, (fun q => nomatch q), ?_⟩⟩
            refine Ex.nil (Ex.cons (Ex1.setItem O (by ((repeat' (first | exact Mine.Ro.set_get _ _ _ | refine Mine.Ro.set_other (by decide) ?_ | assumption | rfl)); done)) (Ev.name O (Ro.set_get _ _ _) ⟨T (unq (a0 :: r0)), ?_, Ev.name O (by ((repeat' (first | exact Mine.Ro.set_get _ _ _ | refine Mine.Ro.set_other (by decide) ?_ | assumption | rfl)); done)) ⟨T k, rfl, size_small (by omega), Ex.nil ⟨_, xr, rfl, Ro.set_get _ _ _, hkk, fun x hx => hlen x (.tail _ hx), hps'⟩⟩⟩)))
            rw [hu]
          · rw [if_neg (by simp [h1])]
            have hu : unq (a0 :: r0) = a0 :: r0 := by unfold unq; rw [if_neg fun q => h1 (by have := q.2; rw [hcl] at this; simpa using this)]
            rw [hu] at hkk hps'
            have : (cl == 34) = false := by simp [h1]
            rw [this]
            refine Ex.nil (Ex.cons (Ex1.setItem O z3 (Ev.name O z2 ⟨_, rfl, Ev.name O z1 ⟨_, rfl, size_small (by omega), Ex.nil ⟨_, xr, rfl, Ro.set_get _ _ _, hkk, fun x hx => hlen x (.tail _ hx), hps'⟩⟩⟩)))
        · rw [if_neg (by simp [h0])]
          have hu : unq (a0 :: r0) = a0 :: r0 := by unfold unq; rw [if_neg fun q => h0 (by have := q.1; simpa using this)]
          rw [hu] at hkk hps'
          have : (a0 == 34) = false := by simp [h0]
          rw [this]
          refine Ex.nil (Ex.cons (Ex1.setItem O z3 (Ev.name O z2 ⟨_, rfl, Ev.name O z1 ⟨_, rfl, size_small (by omega), Ex.nil ⟨_, xr, rfl, Ro.set_get _ _ _, hkk, fun x hx => hlen x (.tail _ hx), hps'⟩⟩⟩)))
  · refine Ev.name O p2 ⟨by decide, rfl, texts_atoms _, [], xs, rfl, p1, rfl, hx, by simpa using hxs⟩
  · obtain ⟨ps, hps, hk⟩ := p
    refine Ex.go (N := fun _ => False) (R := fun _ d => d = .dict (ps.map sPair)) (C := fun _ => False) (Ex.cons (Ex1.ret O (Ev.name O hps rfl))) hs2 (fun _ _ _ _ _ _ p => p.elim) (fun _ _ _ _ _ _ p => p.elim) fun ρ' m' fp' v d as h tk r p => k3 ρ' m' fp' v d as h tk r ⟨ps, hk, p⟩
end Mine
end

section
open PySem PySem.W PySem.Calls PyProof.Rows
set_option maxRecDepth 100000
set_option autoImplicit false
set_option linter.unusedVariables false
namespace Mine

structure PS where
  res : List (List Nat)
  part : List Nat
  esc : Bool
  quote : Bool
def pstep (s : PS) (c : Nat) : PS :=
  if s.esc then { s with part := s.part ++ [c], esc := false }
  else if s.quote then (if c = 92 then { s with esc := true } else if c = 34 then { s with quote := false, part := s.part ++ [c] } else { s with part := s.part ++ [c] })
  else if c = 44 then { s with res := s.res ++ [s.part], part := [] }
  else if c = 34 then { s with quote := true, part := s.part ++ [c] } else { s with part := s.part ++ [c] }
def pend (s : PS) : List (List Nat) := (if s.part = [] then s.res else s.res ++ [s.part]).map stripL
def httpL (l : List Nat) : List (List Nat) := pend (l.foldl pstep ⟨[], [], false, false⟩)

def PS.fits (s : PS) (k : Nat) : Prop := s.part.length + k ≤ 1000 ∧ s.res.length + k ≤ 1000 ∧ ∀ r ∈ s.res, r.length ≤ 1000
theorem PS.fits.step {s : PS} {c k : Nat} (h : s.fits (k + 1)) : (pstep s c).fits k := by
  obtain ⟨h1, h2, h3⟩ := h
  unfold pstep
  split
  · exact ⟨by simp; omega, by simp; omega, h3⟩
  · split
    · split
      · exact ⟨by simp; omega, by simp; omega, h3⟩
      · split
        · exact ⟨by simp; omega, by simp; omega, h3⟩
        · exact ⟨by simp; omega, by simp; omega, h3⟩
    · split
      · refine ⟨by simp; omega, by simp; omega, fun r hr => ?_⟩
        rcases List.mem_append.mp hr with hr | hr
        · exact h3 r hr
        · rw [List.mem_singleton.mp hr]; omega
      · split
        · exact ⟨by simp; omega, by simp; omega, h3⟩
        · exact ⟨by simp; omega, by simp; omega, h3⟩

theorem signs_T (l : List Nat) : signs (T l) = l.map fun c => .str (T [c]) := by unfold signs; simp
theorem texts_snoc (xs : List (List Nat)) (x : List Nat) : texts xs ++ [.str (T x)] = texts (xs ++ [x]) := by unfold texts; simp
theorem texts_length (xs : List (List Nat)) : (texts xs).length = xs.length := by unfold texts; simp
theorem stripL_length (l : List Nat) : (stripL l).length ≤ l.length := by
  unfold stripL rstripL
  rw [List.length_reverse]
  have h1 := (List.dropWhile_sublist sp (l := (l.dropWhile sp).reverse)).length_le
  have h2 := (List.dropWhile_sublist sp (l := l)).length_le
  simp only [List.length_reverse] at h1
  omega

/-- the state of the loop in its frame -/
def HJ (L : List Nat) (rest : List PyData) (ρ : Ro) : Prop := ∃ (l : List Nat) (st : PS), rest = l.map (fun c => PyData.str (T [c])) ∧ ρ.look "res" = some ⟨.list (texts st.res), true⟩ ∧ ρ.look "part" = some ⟨.str (T st.part), false⟩ ∧ ρ.look "escape" = some ⟨.bool st.esc, false⟩ ∧ ρ.look "quote" = some ⟨.bool st.quote, false⟩ ∧
  l.foldl pstep st = L.foldl pstep ⟨[], [], false, false⟩ ∧ st.fits l.length

theorem comp_strip (a : Act) (O : a.Ok) {scope : Scope} {px p1 p2 p3 : Pos} (hs : scope = { kind := .function, names := [(".0", .local), ("part", .local)], isGenerator := false, isCoroutine := false, more := [] }) {xs : List (List Nat)} (hx : ∀ x ∈ xs, x.length ≤ 1000) (h2 : (p1.endLine == p2.line) = true) :
    ∀ x ∈ texts xs, CompTurn a scope [] (.Name "part" px) (.Call (.Attribute (.Name "part" p3) "strip" p1) [] [] p2) [] (fun _ => true) (fun d => match d with | .str x => .str (Txt.strip x) | d => d) x := by
  subst hs
  intro d hd C H1 args O' E'
  obtain ⟨x, hx', rfl⟩ := List.mem_map.mp hd
  refine Asg.name O' ?_
  intro m fp g s Q hs K
  refine wpAny_tests_nil (K true s.heap s.toks hs (Ext.refl _ _) ⟨rfl, fun _ => ?_⟩)
  exact Ev.strip O' (Ev.name O' (Ro.set_get _ _ _) ⟨T x, rfl, by rw [T_length]; exact size_small (Nat.le_trans (hx x hx') (by decide)), rfl⟩) (hline := h2)

theorem comp_strip_ev {a : Act} (O : a.Ok) {E : Value → Shared → Prop} {ρ : Ro} {P : PyData → Nat → Prop} {px p1 p2 p3 p4 pos : Pos} {scope : Scope} {xs : List (List Nat)} {o : Bool} (hr : ρ.look "res" = some ⟨.list (texts xs), o⟩) (hx : ∀ x ∈ xs, x.length ≤ 1000) (hxs : xs.length ≤ 2000)
    (hp : P (.list (texts (xs.map stripL))) 2)
    (hs : scope = { kind := .function, names := [(".0", .local), ("part", .local)], isGenerator := false, isCoroutine := false, more := [] } := by rfl) (h2 : (p1.endLine == p2.line) = true := by rfl)
    (hl : a.env.kindOf "res" = some .local := by rfl) (hsh : CompShape a scope [] := by exact ⟨rfl, by decide, rfl, by decide⟩) :
    Ev a E ρ (.ListComp (.Call (.Attribute (.Name "part" p3) "strip" p1) [] [] p2) [⟨.Name "part" px, .Name "res" p4, [], 0⟩] scope pos) P := by
  have hm : (List.map (fun d => match d with | .str x => .str (Txt.strip x) | d => d) (List.filter (fun _ => true) (texts xs))) = texts (xs.map stripL) := by
    rw [List.filter_eq_self.mpr fun _ _ => rfl]
    unfold texts
    rw [List.map_map, List.map_map]
    refine List.map_congr_left fun x _ => ?_
    show PyData.str (Txt.strip (T x)) = PyData.str (T (stripL x))
    rw [strip_T]
  refine Ev.comp O hsh (Ev.name (d := .list (texts xs)) (o := o) O hr ⟨texts xs, _, _, rfl, .inl ⟨_, _, rfl⟩, by rw [texts_length]; exact size_small (by omega), comp_strip _ O hs hx h2, ?_⟩ hl)
  rw [hm, if_pos (texts_atoms _)]
  exact hp

theorem Ex1.augText {a : Act} {E : Value → Shared → Prop} {ρ : Ro} {N C : Ro → Prop} {R : Ro → PyData → Prop} (O : a.Ok) {x : Str} {np pos : Pos} {value : Expr} {u : List Nat} {o : Bool} (hx : ρ.lookup x = some ⟨.str (T u), o⟩)
    (h : Ev a E ρ value fun d _ => ∃ y, d = .str (T y) ∧ u.length + y.length ≤ sizeLine ∧ N (ρ.set x ⟨.str (T (u ++ y)), false⟩))
    (hl : a.env.kindOf x = some .local := by rfl) (hp : a.pinN ≠ some x := by first | exact nofun | exact pin_ne (by rfl)) : Ex1 a E ρ (.AugAssign (.Name x np) .Add value pos) N R C :=
  Ex1.aug (d0 := .str (T u)) (o0 := o) O hx (Run.mono h fun d f ⟨y, e, h1, h2⟩ => by subst e; exact ⟨by rw [T_length, T_length]; exact h1, by rw [T_append]; exact h2⟩) hl hp

theorem http_ex {D : Wd} {A : Around} {fd : FuncData} {L fa : Addr} {stk : List Env} {H1 : Heap} {args : List Addr} {n : Nat} (O : (mkAct D A fd L fa stk H1 args n).Ok) (hfd : fd.scope = defScope (S1 2)) (E : Value → Shared → Prop)
    {l : List Nat} (hl : l.length ≤ 1000) :
    Ex (mkAct D A fd L fa stk H1 args n) E (slots ["s"] [.str (T l)]) (defBody (S1 2)) (fun _ => False) (fun _ d => d = .list (texts (httpL l))) (fun _ => False) := by
  obtain ⟨name, qualname, params, body, scope, globals, closure, dv, kv, doc, pm, an, cd, ct, bt⟩ := fd
  dsimp only at hfd
  subst hfd
  have q44 : (Str.ofString ",") = T [44] := rfl
  have q34 : (Str.ofString "\"") = T [34] := rfl
  have q92 : (Str.ofString "\\") = T [92] := rfl
  refine Ex.cons (Ex1.assign O true (Ev.list O (EvL.nil ⟨by decide, by decide, by decide, fun _ => ⟨rfl, rfl, rfl⟩, ?_⟩)))
  refine Ex.cons (Ex1.assign O false (Ev.str ⟨by decide, nofun, ?_⟩))
  refine Ex.cons (Ex1.assign2 O (Ev.bool ⟨rfl, ?_⟩))
  refine Ex.cons (Ex1.forIn O (HJ l) (fun x rest ρ' hJ => ?_) (fun ρ' hJ => ?_) ?_)
  · obtain ⟨l', st, e, r1, r2, r3, r4, hf, hfit⟩ := hJ
    cases l' with
    | nil => cases e
    | cons c l' =>
    rw [List.map_cons] at e
    obtain ⟨rfl, rfl⟩ := List.cons.inj e
    have fit' := hfit.step (c := c)
    have hf' : l'.foldl pstep (pstep st c) = l.foldl pstep ⟨[], [], false, false⟩ := hf
    have hp1 : st.part.length + [c].length ≤ sizeLine := by
      have := hfit.1; simp only [List.length_cons, List.length_nil] at this ⊢; exact size_small (by omega)
    have fin : ∀ ρ2 : Ro, ρ2.look "res" = some ⟨.list (texts (pstep st c).res), true⟩ → ρ2.look "part" = some ⟨.str (T (pstep st c).part), false⟩ → ρ2.look "escape" = some ⟨.bool (pstep st c).esc, false⟩ → ρ2.look "quote" = some ⟨.bool (pstep st c).quote, false⟩ →
        HJ l (l'.map fun c => PyData.str (T [c])) ρ2 := fun ρ2 a1 a2 a3 a4 => ⟨l', _, rfl, a1, a2, a3, a4, hf', fit'⟩
    refine Asg.name O ?_
    refine Ex.cons (Ex1.ifs (EvT.val O (Ev.name O (by ((repeat' (first | exact Mine.Ro.set_get _ _ _ | refine Mine.Ro.set_other (by decide) ?_ | assumption | rfl)); done)) ?_)))
    show if st.esc = true then _ else _
    by_cases he : st.esc = true
    · rw [if_pos he]
      refine Ex.cons (Ex1.augText O (by ((repeat' (first | exact Mine.Ro.set_get _ _ _ | refine Mine.Ro.set_other (by decide) ?_ | assumption | rfl)); done)) (Ev.name (d := .str (T [c])) (o := false) O (by ((repeat' (first | exact Mine.Ro.set_get _ _ _ | refine Mine.Ro.set_other (by decide) ?_ | assumption | rfl)); done)) ⟨_, rfl, hp1, ?_⟩))
      refine Ex.cons (Ex1.assign O false (Ev.bool ⟨by decide, nofun, ?_⟩))
      refine Ex.cons (Ex1.cont (fin _ ?_ ?_ ?_ ?_))
      all_goals (unfold pstep; rw [if_pos he])
      · ((repeat' (first | exact Mine.Ro.set_get _ _ _ | refine Mine.Ro.set_other (by decide) ?_ | assumption | rfl)); done)
      · ((repeat' (first | exact Mine.Ro.set_get _ _ _ | refine Mine.Ro.set_other (by decide) ?_ | assumption | rfl)); done)
      · ((repeat' (first | exact Mine.Ro.set_get _ _ _ | refine Mine.Ro.set_other (by decide) ?_ | assumption | rfl)); done)
      · ((repeat' (first | exact Mine.Ro.set_get _ _ _ | refine Mine.Ro.set_other (by decide) ?_ | assumption | rfl)); done)
    · rw [if_neg he]
      have he' : st.esc = false := by simpa using he
      refine Ex.nil (Ex.cons (Ex1.ifs (EvT.val O (Ev.name O (by ((repeat' (first | exact Mine.Ro.set_get _ _ _ | refine Mine.Ro.set_other (by decide) ?_ | assumption | rfl)); done)) ?_))))
      show if st.quote = true then _ else _
      by_cases hq : st.quote = true
      · rw [if_pos hq]
        refine Ex.cons (Ex1.ifs (EvT.cmp O (Ev.name O (by ((repeat' (first | exact Mine.Ro.set_get _ _ _ | refine Mine.Ro.set_other (by decide) ?_ | assumption | rfl)); done)) (Ev.str ?_))))
        show if (T [c] == Str.ofString "\\") = true then _ else _
        rw [q92, T_one_beq]
        by_cases hc : c = 92
        · rw [if_pos (by simp [hc])]
          refine Ex.cons (Ex1.assign O false (Ev.bool ⟨by decide, nofun, ?_⟩))
          refine Ex.cons (Ex1.cont (fin _ ?_ ?_ ?_ ?_))
          all_goals (unfold pstep; rw [if_neg he, if_pos hq, if_pos hc]; ((repeat' (first | exact Mine.Ro.set_get _ _ _ | refine Mine.Ro.set_other (by decide) ?_ | assumption | rfl)); done))
        · rw [if_neg (by simp [hc])]
          refine Ex.cons (Ex1.ifs (EvT.cmp O (Ev.name O (by ((repeat' (first | exact Mine.Ro.set_get _ _ _ | refine Mine.Ro.set_other (by decide) ?_ | assumption | rfl)); done)) (Ev.str ?_))))
          show if (T [c] == Str.ofString "\"") = true then _ else _
          rw [q34, T_one_beq]
          by_cases hc2 : c = 34
          · rw [if_pos (by simp [hc2])]
            refine Ex.cons (Ex1.assign O false (Ev.bool ⟨by decide, nofun, ?_⟩))
            refine Ex.nil (Ex.nil (Ex.cons (Ex1.augText O (by ((repeat' (first | exact Mine.Ro.set_get _ _ _ | refine Mine.Ro.set_other (by decide) ?_ | assumption | rfl)); done)) (Ev.name (d := .str (T [c])) (o := false) O (by ((repeat' (first | exact Mine.Ro.set_get _ _ _ | refine Mine.Ro.set_other (by decide) ?_ | assumption | rfl)); done)) ⟨_, rfl, hp1, ?_⟩))))
            refine Ex.cons (Ex1.cont (fin _ ?_ ?_ ?_ ?_))
            all_goals (unfold pstep; rw [if_neg he, if_pos hq, if_neg hc, if_pos hc2])
            · ((repeat' (first | exact Mine.Ro.set_get _ _ _ | refine Mine.Ro.set_other (by decide) ?_ | assumption | rfl)); done)
            · ((repeat' (first | exact Mine.Ro.set_get _ _ _ | refine Mine.Ro.set_other (by decide) ?_ | assumption | rfl)); done)
            · ((repeat' (first | exact Mine.Ro.set_get _ _ _ | refine Mine.Ro.set_other (by decide) ?_ | assumption | rfl)); done)
            · ((repeat' (first | exact Mine.Ro.set_get _ _ _ | refine Mine.Ro.set_other (by decide) ?_ | assumption | rfl)); done)
          · rw [if_neg (by simp [hc2])]
            refine Ex.nil (Ex.nil (Ex.cons (Ex1.augText O (by ((repeat' (first | exact Mine.Ro.set_get _ _ _ | refine Mine.Ro.set_other (by decide) ?_ | assumption | rfl)); done)) (Ev.name (d := .str (T [c])) (o := false) O (by ((repeat' (first | exact Mine.Ro.set_get _ _ _ | refine Mine.Ro.set_other (by decide) ?_ | assumption | rfl)); done)) ⟨_, rfl, hp1, ?_⟩))))
            refine Ex.cons (Ex1.cont (fin _ ?_ ?_ ?_ ?_))
            all_goals (unfold pstep; rw [if_neg he, if_pos hq, if_neg hc, if_neg hc2])
            · ((repeat' (first | exact Mine.Ro.set_get _ _ _ | refine Mine.Ro.set_other (by decide) ?_ | assumption | rfl)); done)
            · ((repeat' (first | exact Mine.Ro.set_get _ _ _ | refine Mine.Ro.set_other (by decide) ?_ | assumption | rfl)); done)
            · ((repeat' (first | exact Mine.Ro.set_get _ _ _ | refine Mine.Ro.set_other (by decide) ?_ | assumption | rfl)); done)
            · ((repeat' (first | exact Mine.Ro.set_get _ _ _ | refine Mine.Ro.set_other (by decide) ?_ | assumption | rfl)); done)
      · rw [if_neg hq]
        refine Ex.nil (Ex.cons (Ex1.ifs (EvT.cmp O (Ev.name O (by ((repeat' (first | exact Mine.Ro.set_get _ _ _ | refine Mine.Ro.set_other (by decide) ?_ | assumption | rfl)); done)) (Ev.str ?_)))))
        show if (T [c] == Str.ofString ",") = true then _ else _
        rw [q44, T_one_beq]
        by_cases hc : c = 44
        · rw [if_pos (by simp [hc])]
          refine Ex.cons (Ex1.append O (by ((repeat' (first | exact Mine.Ro.set_get _ _ _ | refine Mine.Ro.set_other (by decide) ?_ | assumption | rfl)); done)) (Ev.name O (by ((repeat' (first | exact Mine.Ro.set_get _ _ _ | refine Mine.Ro.set_other (by decide) ?_ | assumption | rfl)); done)) ⟨by decide, ?_, ?_⟩))
          · rw [texts_length]; have := hfit.2.1; exact size_small (by omega)
          refine Ex.cons (Ex1.assign O false (Ev.str ⟨by decide, nofun, ?_⟩))
          refine Ex.cons (Ex1.cont (fin _ ?_ ?_ ?_ ?_))
          all_goals (unfold pstep; rw [if_neg he, if_neg hq, if_pos hc])
          · refine Ro.set_other (by decide) ?_; rw [texts_snoc]; exact Ro.set_get _ _ _
          · ((repeat' (first | exact Mine.Ro.set_get _ _ _ | refine Mine.Ro.set_other (by decide) ?_ | assumption | rfl)); done)
          · ((repeat' (first | exact Mine.Ro.set_get _ _ _ | refine Mine.Ro.set_other (by decide) ?_ | assumption | rfl)); done)
          · ((repeat' (first | exact Mine.Ro.set_get _ _ _ | refine Mine.Ro.set_other (by decide) ?_ | assumption | rfl)); done)
        · rw [if_neg (by simp [hc])]
          refine Ex.nil (Ex.cons (Ex1.ifs (EvT.cmp O (Ev.name O (by ((repeat' (first | exact Mine.Ro.set_get _ _ _ | refine Mine.Ro.set_other (by decide) ?_ | assumption | rfl)); done)) (Ev.str ?_)))))
          show if (T [c] == Str.ofString "\"") = true then _ else _
          rw [q34, T_one_beq]
          by_cases hc2 : c = 34
          · rw [if_pos (by simp [hc2])]
            refine Ex.cons (Ex1.assign O false (Ev.bool ⟨by decide, nofun, ?_⟩))
            refine Ex.nil (Ex.cons (Ex1.augText O (by ((repeat' (first | exact Mine.Ro.set_get _ _ _ | refine Mine.Ro.set_other (by decide) ?_ | assumption | rfl)); done)) (Ev.name (d := .str (T [c])) (o := false) O (by ((repeat' (first | exact Mine.Ro.set_get _ _ _ | refine Mine.Ro.set_other (by decide) ?_ | assumption | rfl)); done)) ⟨_, rfl, hp1, ?_⟩)))
            refine Ex.nil (fin _ ?_ ?_ ?_ ?_)
            all_goals (unfold pstep; rw [if_neg he, if_neg hq, if_neg hc, if_pos hc2])
            · ((repeat' (first | exact Mine.Ro.set_get _ _ _ | refine Mine.Ro.set_other (by decide) ?_ | assumption | rfl)); done)
            · ((repeat' (first | exact Mine.Ro.set_get _ _ _ | refine Mine.Ro.set_other (by decide) ?_ | assumption | rfl)); done)
            · ((repeat' (first | exact Mine.Ro.set_get _ _ _ | refine Mine.Ro.set_other (by decide) ?_ | assumption | rfl)); done)
            · ((repeat' (first | exact Mine.Ro.set_get _ _ _ | refine Mine.Ro.set_other (by decide) ?_ | assumption | rfl)); done)
          · rw [if_neg (by simp [hc2])]
            refine Ex.nil (Ex.cons (Ex1.augText O (by ((repeat' (first | exact Mine.Ro.set_get _ _ _ | refine Mine.Ro.set_other (by decide) ?_ | assumption | rfl)); done)) (Ev.name (d := .str (T [c])) (o := false) O (by ((repeat' (first | exact Mine.Ro.set_get _ _ _ | refine Mine.Ro.set_other (by decide) ?_ | assumption | rfl)); done)) ⟨_, rfl, hp1, ?_⟩)))
            refine Ex.nil (fin _ ?_ ?_ ?_ ?_)
            all_goals (unfold pstep; rw [if_neg he, if_neg hq, if_neg hc, if_neg hc2])
            · ((repeat' (first | exact Mine.Ro.set_get _ _ _ | refine Mine.Ro.set_other (by decide) ?_ | assumption | rfl)); done)
            · ((repeat' (first | exact Mine.Ro.set_get _ _ _ | refine Mine.Ro.set_other (by decide) ?_ | assumption | rfl)); done)
            · ((repeat' (first | exact Mine.Ro.set_get _ _ _ | refine Mine.Ro.set_other (by decide) ?_ | assumption | rfl)); done)
            · ((repeat' (first | exact Mine.Ro.set_get _ _ _ | refine Mine.Ro.set_other (by decide) ?_ | assumption | rfl)); done)
  · obtain ⟨l', st, e, r1, r2, r3, r4, hf, hfit⟩ := hJ
    obtain rfl : l' = [] := by cases l' with | nil => rfl | cons _ _ => cases e
    have hf' : st = l.foldl pstep ⟨[], [], false, false⟩ := hf
    refine Ex.cons (Ex1.ifs (EvT.val O (Ev.name (d := .str (T st.part)) (o := false) O (by ((repeat' (first | exact Mine.Ro.set_get _ _ _ | refine Mine.Ro.set_other (by decide) ?_ | assumption | rfl)); done)) ⟨by rw [T_length]; exact size_small (by have := hfit.1; omega), ?_⟩)))
    show if ((T st.part).length : Int) != 0 then _ else _
    by_cases hp : st.part = []
    · rw [if_neg (by rw [hp]; decide)]
      refine Ex.nil (Ex.cons (Ex1.ret O (comp_strip_ev O (xs := st.res) (o := true) (by ((repeat' (first | exact Mine.Ro.set_get _ _ _ | refine Mine.Ro.set_other (by decide) ?_ | assumption | rfl)); done)) hfit.2.2 (by have := hfit.2.1; omega) ?_)))
      unfold httpL pend; rw [← hf', if_pos hp]
    · rw [if_pos (by rw [T_length]; cases q : st.part with | nil => exact absurd q hp | cons a r => simp; omega)]
      refine Ex.cons (Ex1.append O (by ((repeat' (first | exact Mine.Ro.set_get _ _ _ | refine Mine.Ro.set_other (by decide) ?_ | assumption | rfl)); done)) (Ev.name O (by ((repeat' (first | exact Mine.Ro.set_get _ _ _ | refine Mine.Ro.set_other (by decide) ?_ | assumption | rfl)); done)) ⟨by decide, ?_, ?_⟩))
      · rw [texts_length]; have := hfit.2.1; exact size_small (by omega)
      refine Ex.nil (Ex.cons (Ex1.ret O (comp_strip_ev O (xs := st.res ++ [st.part]) (o := true) (by rw [← texts_snoc]; exact Ro.set_get _ _ _) (fun x hx => ?_) (by have := hfit.2.1; simp; omega) ?_)))
      · rcases List.mem_append.mp hx with hx | hx
        · exact hfit.2.2 x hx
        · rw [List.mem_singleton.mp hx]; have := hfit.1; omega
      · unfold httpL pend; rw [← hf', if_neg hp]
  · refine Ev.name (d := .str (T l)) (o := false) O (by ((repeat' (first | exact Mine.Ro.set_get _ _ _ | refine Mine.Ro.set_other (by decide) ?_ | assumption | rfl)); done)) ⟨by decide, ⟨_, _, rfl⟩, l, ⟨[], [], false, false⟩, signs_T l, by ((repeat' (first | exact Mine.Ro.set_get _ _ _ | refine Mine.Ro.set_other (by decide) ?_ | assumption | rfl)); done), by ((repeat' (first | exact Mine.Ro.set_get _ _ _ | refine Mine.Ro.set_other (by decide) ?_ | assumption | rfl)); done), by ((repeat' (first | exact Mine.Ro.set_get _ _ _ | refine Mine.Ro.set_other (by decide) ?_ | assumption | rfl)); done), by ((repeat' (first | exact Mine.Ro.set_get _ _ _ | refine Mine.Ro.set_other (by decide) ?_ | assumption | rfl)); done), rfl, by simpa using hl, by simpa using hl, fun r hr => nomatch hr⟩
end Mine
end

section
open PySem PySem.W PySem.Calls PyProof.Rows
set_option maxRecDepth 100000
set_option autoImplicit false
set_option linter.unusedVariables false
namespace Mine

/-- what the writer says of a part -/
structure Say where
  k : Str
  key : List Nat
  val : List Nat
def Say.dat (s : Say) : PyData := .tuple [.str s.k, .str (T s.key), .str (T s.val)]
structure Stp where
  c : List Nat
  mark : List Nat
  says : Say
  ends : Bool
def Stp.dat (s : Stp) : PyData := .tuple [.str (T s.c), .str (T s.mark), s.says.dat, .bool s.ends]
def dats (l : List Stp) : List PyData := l.map Stp.dat
theorem dats_atoms (l : List Stp) : atoms (dats l) = true := by induction l with | nil => rfl | cons a l ih => simpa [dats, atoms, atom, Stp.dat, Say.dat] using ih
theorem dats_snoc (l : List Stp) (s : Stp) : dats l ++ [s.dat] = dats (l ++ [s]) := by simp [dats]
theorem dats_length (l : List Stp) : (dats l).length = l.length := by simp [dats]

def sayNone : Say := ⟨"none", [], []⟩
def sayWhite : Say := ⟨"white", [], []⟩
def gapL : List Nat → Say → List Stp
  | [], _ => []
  | c :: cs, s => if c = 44 then ⟨[44], [], sayNone, true⟩ :: gapL cs sayNone
    else if s.k = "none" then ⟨[c], [c], sayWhite, false⟩ :: gapL cs sayWhite else ⟨[c], [c], s, false⟩ :: gapL cs s

section
variable {a : Act} {E : Value → Shared → Prop} {ρ : Ro} {N C : Ro → Prop} {R : Ro → PyData → Prop} {P : PyData → Nat → Prop}

/-- if, the test known -/
theorem Ex1.ifB (b : Bool) {test : Expr} {body orelse : List Stmt} {pos : Pos} (h : EvT a E ρ test (· = b)) (ht : b = true → Ex a E ρ body N R C) (hf : b = false → Ex a E ρ orelse N R C) : Ex1 a E ρ (.If test body orelse pos) N R C := by
  refine Ex1.ifs (RunB.mono h fun c hc => ?_)
  subst hc
  cases c
  · exact hf rfl
  · exact ht rfl
/-- text == text -/
theorem EvT.eqText (O : a.Ok) {l r : Expr} {pos : Pos} {x y : List Nat} (hl : Ev a E ρ l fun d _ => d = .str (T x)) (hr : Ev a E ρ r fun d _ => d = .str (T y)) (hm : behindInMarks .Eq r = false := by with_unfolding_all rfl) :
    EvT a E ρ (.Compare l [.Eq] [r] pos) (· = decide (x = y)) := by
  refine EvT.cmp O (Run.mono hl fun d _ e => ?_) hm
  subst e
  refine Run.mono hr fun d _ e => ?_
  subst e
  show (T x == T y) = decide (x = y)
  rw [Bool.eq_iff_iff, beq_iff_eq, decide_eq_true_eq, T_inj]
theorem EvT.eqStr (O : a.Ok) {l r : Expr} {pos : Pos} {x y : Str} (hl : Ev a E ρ l fun d _ => d = .str x) (hr : Ev a E ρ r fun d _ => d = .str y) (hm : behindInMarks .Eq r = false := by with_unfolding_all rfl) :
    EvT a E ρ (.Compare l [.Eq] [r] pos) (· = decide (x = y)) := by
  refine EvT.cmp O (Run.mono hl fun d _ e => ?_) hm
  subst e
  refine Run.mono hr fun d _ e => ?_
  subst e
  show (x == y) = decide (x = y)
  rw [Bool.eq_iff_iff, beq_iff_eq, decide_eq_true_eq]

theorem seqIndex_lt {k n : Nat} (h : k < n) : seqIndex? (k : Int) n = some k := by
  unfold seqIndex?
  simp [show ¬ ((k : Int) < 0) by omega, h]
/-- a list's or tuple's item, from the front -/
theorem ItemOk.list {xs : List PyData} {k : Nat} {d : PyData} (h : xs[k]? = some d) (hk : k < 100000) (p : P d 1) : ItemOk (.list xs) (.int (k : Int)) P :=
  ⟨by omega, by omega, k, d, seqIndex_lt (List.getElem?_eq_some_iff.mp h).1, h, p⟩
theorem ItemOk.tuple {xs : List PyData} {k : Nat} {d : PyData} (h : xs[k]? = some d) (hk : k < 100000) (p : P d 1) : ItemOk (.tuple xs) (.int (k : Int)) P :=
  ⟨by omega, by omega, k, d, seqIndex_lt (List.getElem?_eq_some_iff.mp h).1, h, p⟩
/-- name[k] of a list -/
theorem Ev.nameItem (O : a.Ok) {x : Str} {p1 p2 pos : Pos} {k0 : Nat} {k : Nat} {xs : List PyData} {o : Bool} {d : PyData} (hx : ρ.look x = some ⟨.list xs, o⟩) (h : xs[k]? = some d) (hk : k < 100000) (p : P d 1)
    (hl : a.env.kindOf x = some .local := by rfl) (hd : (x == ("__debug__" : Str)) = false := by decide) : Ev a E ρ (.Subscript (.Name x p1) (.Constant (.int (k : Int)) k0 p2) pos) P :=
  Ev.item O (Ev.name O hx ⟨fun _ => ⟨xs, rfl⟩, Ev.int (ItemOk.list h hk p)⟩ hl hd)
end

def GJ (xs : List Stp) (all : List Stp) (rest : List PyData) (ρ : Ro) : Prop := ∃ (l : List Nat) (done : List Stp) (s : Say), rest = l.map (fun c => PyData.str (T [c])) ∧ ρ.look "steps" = some ⟨.list (dats (xs ++ done)), true⟩ ∧ ρ.look "says" = some ⟨s.dat, false⟩ ∧
  done ++ gapL l s = all ∧ (xs ++ done).length + l.length ≤ 1000

theorem gap_ex {D : Wd} {A : Around} {fd : FuncData} {L fa pb : Addr} {stk : List Env} {H1 : Heap} {args : List Addr} {n : Nat} (O : (mkActIO D A fd L fa stk H1 args n "steps" pb).Ok) (hfd : fd.scope = defScope (S1 5)) (E : Value → Shared → Prop)
    {xs : List Stp} {l : List Nat} {s : Say} (hl : xs.length + l.length ≤ 1000) :
    Ex (mkActIO D A fd L fa stk H1 args n "steps" pb) E (("steps", ⟨.list (dats xs), true⟩) :: slots ["signs", "says"] [.str (T l), s.dat]) (defBody (S1 5))
      (fun ρ' => ∃ xs', ρ'.look "steps" = some ⟨.list xs', true⟩ ∧ atoms xs' = true ∧ xs' = dats (xs ++ gapL l s)) (fun _ _ => False) (fun _ => False) := by
  obtain ⟨name, qualname, params, body, scope, globals, closure, dv, kv, doc, pm, an, cd, ct, bt⟩ := fd
  dsimp only at hfd
  subst hfd
  have q44 : (Str.ofString ",") = T [44] := rfl
  refine Ex.cons (Ex1.forIn O (GJ xs (gapL l s)) (fun x rest ρ' hJ => ?_) (fun ρ' hJ => ?_) ?_)
  · obtain ⟨l', done, s', e, r1, r2, ha, hlen⟩ := hJ
    cases l' with
    | nil => cases e
    | cons c l' =>
    rw [List.map_cons] at e
    obtain ⟨rfl, rfl⟩ := List.cons.inj e
    have sz : (dats (xs ++ done)).length ≤ sizeLine := by rw [dats_length]; exact size_small (by simp only [List.length_cons] at hlen; omega)
    have fin : ∀ (ρ2 : Ro) (st : Stp) (s2 : Say), ρ2.look "steps" = some ⟨.list (dats (xs ++ done) ++ [st.dat]), true⟩ → ρ2.look "says" = some ⟨s2.dat, false⟩ → gapL (c :: l') s' = st :: gapL l' s2 → GJ xs (gapL l s) (l'.map fun c => PyData.str (T [c])) ρ2 := fun ρ2 st s2 a1 a2 a3 => by
      refine ⟨l', done ++ [st], s2, rfl, ?_, a2, ?_, ?_⟩
      · rw [a1, dats_snoc, List.append_assoc]
      · rw [← ha, a3, List.append_assoc]; rfl
      · simp only [List.length_cons, List.length_append, List.length_nil] at hlen ⊢; omega
    refine Asg.name O ?_
    refine Ex.cons (Ex1.ifB (decide (c = 44)) ?_ (fun hc => ?_) fun hc => ?_)
    · exact EvT.eqText O (x := [c]) (y := [44]) (Ev.name O (by ((repeat' (first | exact Mine.Ro.set_get _ _ _ | refine Mine.Ro.set_other (by decide) ?_ | assumption | rfl)); done)) rfl) (Ev.str rfl) |>.mono fun b h => by rw [h]; simp
    · have hc : c = 44 := by simpa using hc
      subst hc
      refine Ex.cons (Ex1.assign O false ?_)
      (repeat (first | refine Mine.Ev.str ?_ | refine Mine.Ev.int ?_ | refine Mine.Ev.bool ?_ | refine Mine.Ev.name (by assumption) (by ((repeat' (first | exact Mine.Ro.set_get _ _ _ | refine Mine.Ro.set_other (by decide) ?_ | assumption | rfl)); done)) ?_ | refine Mine.Ev.neg (by assumption) ?_ | refine Mine.EvL.nil ?_ | refine Mine.EvL.cons (by assumption) ?_ | refine Mine.Ev.tuple (by assumption) ?_ | refine Mine.Ev.list (by assumption) ?_ | refine Mine.Ev.dict0 (by assumption) ?_ | refine Mine.Ev.binop (by assumption) ?_ | refine Mine.Ev.cmp (by assumption) ?_ | refine Mine.EvT.cmp (by assumption) ?_ | refine Mine.EvT.not ?_ | refine Mine.EvT.bool ?_ | refine Mine.Ev.boolOp (by assumption) ?_ | refine Mine.Ev.slice (by assumption) ?_ | refine Mine.Ev.item (by assumption) ?_ | refine Mine.Ev.strip (by assumption) ?_ | refine Mine.Ev.rstrip (by assumption) ?_ | refine Mine.Ev.join (by assumption) ?_ | refine Mine.Ev.split (by assumption) ?_ | refine Mine.Ev.ifExp ?_ | refine Mine.EvT.val (by assumption) ?_))
      refine ⟨by decide, by decide, by decide, nofun, ?_⟩
      refine Ex.cons (Ex1.append O (by ((repeat' (first | exact Mine.Ro.set_get _ _ _ | refine Mine.Ro.set_other (by decide) ?_ | assumption | rfl)); done)) ?_)
      (repeat (first | refine Mine.Ev.str ?_ | refine Mine.Ev.int ?_ | refine Mine.Ev.bool ?_ | refine Mine.Ev.name (by assumption) (by ((repeat' (first | exact Mine.Ro.set_get _ _ _ | refine Mine.Ro.set_other (by decide) ?_ | assumption | rfl)); done)) ?_ | refine Mine.Ev.neg (by assumption) ?_ | refine Mine.EvL.nil ?_ | refine Mine.EvL.cons (by assumption) ?_ | refine Mine.Ev.tuple (by assumption) ?_ | refine Mine.Ev.list (by assumption) ?_ | refine Mine.Ev.dict0 (by assumption) ?_ | refine Mine.Ev.binop (by assumption) ?_ | refine Mine.Ev.cmp (by assumption) ?_ | refine Mine.EvT.cmp (by assumption) ?_ | refine Mine.EvT.not ?_ | refine Mine.EvT.bool ?_ | refine Mine.Ev.boolOp (by assumption) ?_ | refine Mine.Ev.slice (by assumption) ?_ | refine Mine.Ev.item (by assumption) ?_ | refine Mine.Ev.strip (by assumption) ?_ | refine Mine.Ev.rstrip (by assumption) ?_ | refine Mine.Ev.join (by assumption) ?_ | refine Mine.Ev.split (by assumption) ?_ | refine Mine.Ev.ifExp ?_ | refine Mine.EvT.val (by assumption) ?_))
      refine ⟨by decide, by simp; exact size_small (by decide), by decide, sz, ?_⟩
      exact Ex.nil (Ex.nil (fin _ ⟨[44], [], sayNone, true⟩ sayNone (by ((repeat' (first | exact Mine.Ro.set_get _ _ _ | refine Mine.Ro.set_other (by decide) ?_ | assumption | rfl)); done)) (by ((repeat' (first | exact Mine.Ro.set_get _ _ _ | refine Mine.Ro.set_other (by decide) ?_ | assumption | rfl)); done)) (by rw [gapL, if_pos rfl])))
    · have hc : ¬ c = 44 := by simpa using hc
      refine Ex.cons (Ex1.ifB (decide (s'.k = "none")) ?_ (fun hk => ?_) fun hk => ?_)
      · exact EvT.eqStr O (x := s'.k) (y := "none") (Ev.item O (Ev.name O (by ((repeat' (first | exact Mine.Ro.set_get _ _ _ | refine Mine.Ro.set_other (by decide) ?_ | assumption | rfl)); done)) ⟨fun q => absurd q (by decide), Ev.int (ItemOk.tuple (k := 0) (d := .str s'.k) rfl (by decide) rfl)⟩)) (Ev.str rfl)
      · have hk : s'.k = "none" := by simpa using hk
        refine Ex.cons (Ex1.assign O false ?_)
        (repeat (first | refine Mine.Ev.str ?_ | refine Mine.Ev.int ?_ | refine Mine.Ev.bool ?_ | refine Mine.Ev.name (by assumption) (by ((repeat' (first | exact Mine.Ro.set_get _ _ _ | refine Mine.Ro.set_other (by decide) ?_ | assumption | rfl)); done)) ?_ | refine Mine.Ev.neg (by assumption) ?_ | refine Mine.EvL.nil ?_ | refine Mine.EvL.cons (by assumption) ?_ | refine Mine.Ev.tuple (by assumption) ?_ | refine Mine.Ev.list (by assumption) ?_ | refine Mine.Ev.dict0 (by assumption) ?_ | refine Mine.Ev.binop (by assumption) ?_ | refine Mine.Ev.cmp (by assumption) ?_ | refine Mine.EvT.cmp (by assumption) ?_ | refine Mine.EvT.not ?_ | refine Mine.EvT.bool ?_ | refine Mine.Ev.boolOp (by assumption) ?_ | refine Mine.Ev.slice (by assumption) ?_ | refine Mine.Ev.item (by assumption) ?_ | refine Mine.Ev.strip (by assumption) ?_ | refine Mine.Ev.rstrip (by assumption) ?_ | refine Mine.Ev.join (by assumption) ?_ | refine Mine.Ev.split (by assumption) ?_ | refine Mine.Ev.ifExp ?_ | refine Mine.EvT.val (by assumption) ?_))
        refine ⟨by decide, by decide, by decide, nofun, ?_⟩
        refine Ex.nil (Ex.cons (Ex1.append O (by ((repeat' (first | exact Mine.Ro.set_get _ _ _ | refine Mine.Ro.set_other (by decide) ?_ | assumption | rfl)); done)) ?_))
        (repeat (first | refine Mine.Ev.str ?_ | refine Mine.Ev.int ?_ | refine Mine.Ev.bool ?_ | refine Mine.Ev.name (by assumption) (by ((repeat' (first | exact Mine.Ro.set_get _ _ _ | refine Mine.Ro.set_other (by decide) ?_ | assumption | rfl)); done)) ?_ | refine Mine.Ev.neg (by assumption) ?_ | refine Mine.EvL.nil ?_ | refine Mine.EvL.cons (by assumption) ?_ | refine Mine.Ev.tuple (by assumption) ?_ | refine Mine.Ev.list (by assumption) ?_ | refine Mine.Ev.dict0 (by assumption) ?_ | refine Mine.Ev.binop (by assumption) ?_ | refine Mine.Ev.cmp (by assumption) ?_ | refine Mine.EvT.cmp (by assumption) ?_ | refine Mine.EvT.not ?_ | refine Mine.EvT.bool ?_ | refine Mine.Ev.boolOp (by assumption) ?_ | refine Mine.Ev.slice (by assumption) ?_ | refine Mine.Ev.item (by assumption) ?_ | refine Mine.Ev.strip (by assumption) ?_ | refine Mine.Ev.rstrip (by assumption) ?_ | refine Mine.Ev.join (by assumption) ?_ | refine Mine.Ev.split (by assumption) ?_ | refine Mine.Ev.ifExp ?_ | refine Mine.EvT.val (by assumption) ?_))
        refine ⟨by decide, by simp; exact size_small (by decide), by decide, sz, ?_⟩
        exact Ex.nil (Ex.nil (fin _ ⟨[c], [c], sayWhite, false⟩ sayWhite (by ((repeat' (first | exact Mine.Ro.set_get _ _ _ | refine Mine.Ro.set_other (by decide) ?_ | assumption | rfl)); done)) (by ((repeat' (first | exact Mine.Ro.set_get _ _ _ | refine Mine.Ro.set_other (by decide) ?_ | assumption | rfl)); done)) (by rw [gapL, if_neg hc, if_pos hk])))
      · have hk : ¬ s'.k = "none" := by simpa using hk
        refine Ex.nil (Ex.cons (Ex1.append O (by ((repeat' (first | exact Mine.Ro.set_get _ _ _ | refine Mine.Ro.set_other (by decide) ?_ | assumption | rfl)); done)) ?_))
        (repeat (first | refine Mine.Ev.str ?_ | refine Mine.Ev.int ?_ | refine Mine.Ev.bool ?_ | refine Mine.Ev.name (by assumption) (by ((repeat' (first | exact Mine.Ro.set_get _ _ _ | refine Mine.Ro.set_other (by decide) ?_ | assumption | rfl)); done)) ?_ | refine Mine.Ev.neg (by assumption) ?_ | refine Mine.EvL.nil ?_ | refine Mine.EvL.cons (by assumption) ?_ | refine Mine.Ev.tuple (by assumption) ?_ | refine Mine.Ev.list (by assumption) ?_ | refine Mine.Ev.dict0 (by assumption) ?_ | refine Mine.Ev.binop (by assumption) ?_ | refine Mine.Ev.cmp (by assumption) ?_ | refine Mine.EvT.cmp (by assumption) ?_ | refine Mine.EvT.not ?_ | refine Mine.EvT.bool ?_ | refine Mine.Ev.boolOp (by assumption) ?_ | refine Mine.Ev.slice (by assumption) ?_ | refine Mine.Ev.item (by assumption) ?_ | refine Mine.Ev.strip (by assumption) ?_ | refine Mine.Ev.rstrip (by assumption) ?_ | refine Mine.Ev.join (by assumption) ?_ | refine Mine.Ev.split (by assumption) ?_ | refine Mine.Ev.ifExp ?_ | refine Mine.EvT.val (by assumption) ?_))
        refine ⟨by decide, by simp; exact size_small (by decide), by decide, sz, ?_⟩
        exact Ex.nil (Ex.nil (fin _ ⟨[c], [c], s', false⟩ s' (by ((repeat' (first | exact Mine.Ro.set_get _ _ _ | refine Mine.Ro.set_other (by decide) ?_ | assumption | rfl)); done)) (by ((repeat' (first | exact Mine.Ro.set_get _ _ _ | refine Mine.Ro.set_other (by decide) ?_ | assumption | rfl)); done)) (by rw [gapL, if_neg hc, if_neg hk])))
  · obtain ⟨l', done, s', e, r1, r2, ha, hlen⟩ := hJ
    obtain rfl : l' = [] := by cases l' with | nil => rfl | cons _ _ => cases e
    refine Ex.nil ⟨_, r1, dats_atoms _, ?_⟩
    rw [← ha]; simp [gapL]
  · exact Ev.name (d := .str (T l)) (o := false) O (by ((repeat' (first | exact Mine.Ro.set_get _ _ _ | refine Mine.Ro.set_other (by decide) ?_ | assumption | rfl)); done)) ⟨by decide, ⟨_, _, rfl⟩, l, [], s, signs_T l, by rw [List.append_nil]; ((repeat' (first | exact Mine.Ro.set_get _ _ _ | refine Mine.Ro.set_other (by decide) ?_ | assumption | rfl)); done), by ((repeat' (first | exact Mine.Ro.set_get _ _ _ | refine Mine.Ro.set_other (by decide) ?_ | assumption | rfl)); done), rfl, by rw [List.append_nil]; exact hl⟩
end Mine
end

section
open PySem PySem.W PySem.Calls PyProof.Rows
set_option maxRecDepth 100000
set_option autoImplicit false
set_option linter.unusedVariables false
namespace Mine

def halfL (seen : List Nat) : List Nat := if (rstripL seen).getLast? = some 34 then pySl (rstripL seen) (some 1) (some (-1)) else rstripL seen

theorem rstripL_length (l : List Nat) : (rstripL l).length ≤ l.length := by
  unfold rstripL
  rw [List.length_reverse]
  have h1 := (List.dropWhile_sublist sp (l := l.reverse)).length_le
  simpa using h1

theorem half_ex {D : Wd} {A : Around} {fd : FuncData} {L fa : Addr} {stk : List Env} {H1 : Heap} {args : List Addr} {n : Nat} (O : (mkAct D A fd L fa stk H1 args n).Ok) (hfd : fd.scope = defScope (S1 6)) (E : Value → Shared → Prop)
    {l : List Nat} (hl : l.length ≤ 1000) (hr : rstripL l ≠ []) :
    Ex (mkAct D A fd L fa stk H1 args n) E (slots ["seen"] [.str (T l)]) (defBody (S1 6)) (fun _ => False) (fun _ d => d = .str (T (halfL l))) (fun _ => False) := by
  obtain ⟨name, qualname, params, body, scope, globals, closure, dv, kv, doc, pm, an, cd, ct, bt⟩ := fd
  dsimp only at hfd
  subst hfd
  have q34 : (Str.ofString "\"") = T [34] := rfl
  have hlen := rstripL_length l
  refine Ex.cons (Ex1.assign O false (Ev.rstrip O (Ev.name (d := .str (T l)) (o := false) O (by ((repeat' (first | exact Mine.Ro.set_get _ _ _ | refine Mine.Ro.set_other (by decide) ?_ | assumption | rfl)); done)) ⟨T l, rfl, by rw [T_length]; exact size_small (by omega), by decide, nofun, ?_⟩)))
  rw [rstrip_T]
  obtain ⟨c, hc⟩ : ∃ c, (rstripL l).getLast? = some c := by
    cases q : (rstripL l).getLast? with
    | none => exact absurd (List.getLast?_eq_none_iff.mp q) hr
    | some c => exact ⟨c, rfl⟩
  have el : Txt.charAt (T (rstripL l)) (-1) = some c := by rw [charAt_Tlast, hc]
  refine Ex.cons (Ex1.ret O (Ev.ifExp (RunB.mono (P := (· = decide (c = 34))) ?_ fun b hb => ?_)))
  · refine RunB.mono (EvT.eqText O (x := [c]) (y := [34]) (Ev.item O (Ev.name (d := .str (T (rstripL l))) (o := false) O (by ((repeat' (first | exact Mine.Ro.set_get _ _ _ | refine Mine.Ro.set_other (by decide) ?_ | assumption | rfl)); done)) ⟨fun q => absurd q (by decide), Ev.neg O ⟨by rw [el]; rfl, by decide, by decide, by rw [item_T el]⟩⟩)) (Ev.str rfl)) fun b h => by rw [h]; simp
  · subst hb
    by_cases h : c = 34
    · rw [if_pos (by simpa using h)]
      refine Ev.slice O (Ev.name (d := .str (T (rstripL l))) (o := false) O (by ((repeat' (first | exact Mine.Ro.set_get _ _ _ | refine Mine.Ro.set_other (by decide) ?_ | assumption | rfl)); done)) (Ev.int ⟨1, rfl, Ev.neg O ⟨-1, rfl, by rw [T_length]; exact size_small (by omega), ?_⟩⟩))
      unfold halfL; rw [if_pos (by rw [hc, h])]
    · rw [if_neg (by simpa using h)]
      refine Ev.name (d := .str (T (rstripL l))) (o := false) O (by ((repeat' (first | exact Mine.Ro.set_get _ _ _ | refine Mine.Ro.set_other (by decide) ?_ | assumption | rfl)); done)) ?_
      unfold halfL; rw [if_neg (by rw [hc]; simpa using h)]

/-! one item of the header -/
def alpha : List Nat := [34, 97, 44, 92, 32, 61, 39, 233]
def keyOf (k : Nat) : List Nat := match k with | 0 => [97] | 1 => [] | 2 => [92] | _ => [233]
def sizeOf4 (k : Nat) : Nat := match k with | 0 => 2 | 1 => 0 | 2 => 1 | _ => 3
def signOf (c : Int) : Nat := alpha[(c.fmod 8).toNat]?.getD 0
def itemKey (own : List Int) : List Nat := keyOf ((own[0]?.getD 0).fmod 4).toNat
def itemSize (own : List Int) : Nat := sizeOf4 ((own[1]?.getD 0).fmod 4).toNat
def itemRaw (own : List Int) : List Nat := (pySl own (some 2) (some (2 + (itemSize own : Int)))).map signOf
def itemWay (own : List Int) : Int := ((own[1]?.getD 0).fdiv 4).fmod 3

def pairSay (key val : List Nat) : Say := ⟨"pair", key, val⟩
def wordL (key : List Nat) : List Stp := key.map fun c => ⟨[c], [c], ⟨"word", [], []⟩, false⟩
def bareL (key : List Nat) : List Nat → List Nat → List Stp
  | _, [] => []
  | pre, c :: cs => ⟨[c], [c], pairSay key (rstripL (pre ++ [c])), false⟩ :: bareL key (pre ++ [c]) cs
def quoL (way : Int) (key : List Nat) : List Nat → List Nat → List Stp
  | _, [] => []
  | seen, c :: cs => (if way = 1 ∨ c = 34 ∨ c = 92 then [⟨[92], [], pairSay key (halfL seen), false⟩] else []) ++ ⟨[c], [c], pairSay key (halfL (seen ++ [c])), false⟩ :: quoL way key (seen ++ [c]) cs
def bareOk (way : Int) (raw : List Nat) : Bool := decide (way = 2) && (decide (raw ≠ []) && (decide (raw = stripL raw) && (!decide (44 ∈ raw) && (!decide (34 ∈ raw) && true))))
def itemL (own : List Int) : List Stp :=
  wordL (itemKey own) ++ [⟨[61], [61], ⟨"bald", [], []⟩, false⟩] ++
  (if bareOk (itemWay own) (itemRaw own) then bareL (itemKey own) [] (itemRaw own)
   else [⟨[34], [34], pairSay (itemKey own) [], false⟩] ++ quoL (itemWay own) (itemKey own) [34] (itemRaw own) ++ [⟨[34], [34], pairSay (itemKey own) (itemRaw own), false⟩])

theorem fmod_nat (i : Int) (k : Nat) (hk : 0 < k) : ∃ r : Nat, r < k ∧ i.fmod (k : Int) = (r : Int) := by
  have h0 := Int.fmod_nonneg_of_pos i (b := (k : Int)) (by omega)
  have h1 := Int.fmod_lt_of_pos i (b := (k : Int)) (by omega)
  exact ⟨(i.fmod k).toNat, by omega, by omega⟩
end Mine
end

section
open PySem PySem.W PySem.Calls PyProof.Rows
open PySem.Builtin PySem.Builtin.Str
set_option maxRecDepth 100000
set_option autoImplicit false
set_option linter.unusedVariables false
namespace Mine

theorem join_T (l : List (List Nat)) : Txt.join (T []) (l.map T) = T l.flatten := by
  have key : ∀ (l : List (List Nat)) (acc : List Nat), (l.map T).foldl (fun acc p => acc ++ (T []).cps ++ p.cps) acc.toArray = (acc ++ l.flatten).toArray := by
    intro l
    induction l with
    | nil => intro acc; simp
    | cons a l ih =>
      intro acc
      rw [List.map_cons, List.foldl_cons]
      have : acc.toArray ++ (T []).cps ++ (T a).cps = (acc ++ a).toArray := by simp
      rw [this, ih]; simp
  cases l with
  | nil => rfl
  | cons a l =>
    show Str.mk (((T a :: l.map T).drop 1).foldl _ _) = _
    apply congrArg Str.mk
    have := key l a
    simpa using this
theorem joinOk_small (l : List (List Nat)) (h : ∀ x ∈ l, x.length ≤ 100) (hl : l.length ≤ 100) : JoinOk (T []) (l.map T) = true := by
  have key : ∀ (l : List (List Nat)) (acc : Nat), (∀ x ∈ l, x.length ≤ 100) → (l.map T).foldl (fun acc p => acc + p.length + (T []).length) acc ≤ acc + 100 * l.length := by
    intro l
    induction l with
    | nil => intro acc _; simp
    | cons a l ih =>
      intro acc h
      rw [List.map_cons, List.foldl_cons]
      have h2 := h a (.head _)
      refine Nat.le_trans (ih (acc + (T a).length + (T []).length) fun x hx => h x (.tail _ hx)) ?_
      rw [T_length]
      have h3 : (T []).length = 0 := rfl
      rw [h3]
      simp only [List.length_cons]
      omega
  unfold JoinOk tooLong
  rw [List.foldl_toArray]
  have := key l 0 h
  have hs : (5000 : Nat) ≤ sizeLine := by decide
  have h4 : 100 * l.length ≤ 10000 := by omega
  have hs2 : (10000 : Nat) ≤ sizeLine := by decide
  have : ¬ (List.foldl (fun acc p => acc + p.length + (T []).length) 0 (l.map T) > sizeLine) := by omega
  simpa using this

theorem nums_pySl (ns : List Int) (lo hi : Option Int) : pySl (nums ns) lo hi = nums (pySl ns lo hi) := by
  unfold pySl nums; rw [List.length_map, List.map_take, List.map_drop]
theorem nums_length (ns : List Int) : (nums ns).length = ns.length := by unfold nums; simp

theorem signOf_charAt (c : Int) : Txt.charAt (T alpha) (c.fmod 8) = some (signOf c) := by
  obtain ⟨r, hr, e⟩ := fmod_nat c 8 (by decide)
  have e' : c.fmod 8 = (r : Int) := e
  unfold signOf
  rw [e']
  unfold Txt.charAt
  have : (T alpha).length = 8 := rfl
  rw [this, seqIndex_lt hr]
  have hr' : r < alpha.length := hr
  simp [hr']

def signF : PyData → PyData
  | .int i => .str (T [signOf i])
  | d => d
theorem comp_signs (a : Act) (O : a.Ok) {scope : Scope} {px p1 p2 p3 p4 pos : Pos} {k1 k2 : Nat} (hs : scope = { kind := .function, names := [(".0", .local), ("c", .local)], isGenerator := false, isCoroutine := false, more := [] }) (ns : List Int) :
    ∀ x ∈ nums ns, CompTurn a scope [] (.Name "c" px) (.Subscript (.Constant (.str "\"a,\\ ='é") k1 p1) (.BinOp (.Name "c" p2) .Mod (.Constant (.int 8) k2 p3) p4) pos) [] (fun _ => true) signF x := by
  subst hs
  intro d hd C H1 args O' E'
  obtain ⟨i, hi, rfl⟩ := List.mem_map.mp hd
  refine Asg.name O' ?_
  intro m fp g s Q hs K
  refine wpAny_tests_nil (K true s.heap s.toks hs (Ext.refl _ _) ⟨rfl, fun _ => ?_⟩)
  have e := signOf_charAt i
  refine Ev.item O' (Ev.str ⟨fun q => absurd q (by decide), Ev.binop O' (Ev.name O' (Ro.set_get _ _ _) (Ev.int ⟨by decide, ?_⟩))⟩)
  obtain ⟨r, hr, er⟩ := fmod_nat i 8 (by decide)
  have er' : i.fmod 8 = (r : Int) := er
  have q : (Str.ofString "\"a,\\ ='é") = T alpha := rfl
  refine ⟨by rw [q, e]; rfl, by rw [er']; omega, by rw [er']; omega, ?_⟩
  rw [q, item_T e]; rfl

/-- what stays through the loops of the item -/
def IK (key raw : List Nat) (way : Int) (ρ : Ro) : Prop := ρ.look "key" = some ⟨.str (T key), false⟩ ∧ ρ.look "raw" = some ⟨.str (T raw), false⟩ ∧ ρ.look "way" = some ⟨.int way, false⟩
def IJ1 (key raw : List Nat) (way : Int) (xs all : List Stp) (rest : List PyData) (ρ : Ro) : Prop := ∃ (l : List Nat) (done : List Stp), rest = l.map (fun c => PyData.str (T [c])) ∧ ρ.look "steps" = some ⟨.list (dats (xs ++ done)), true⟩ ∧ done ++ wordL l = all ∧ (xs ++ done).length + l.length ≤ 1000 ∧ IK key raw way ρ
def IJ2 (key raw : List Nat) (way : Int) (xs all : List Stp) (rest : List PyData) (ρ : Ro) : Prop := ∃ (pre l : List Nat) (done : List Stp), rest = (List.range' pre.length l.length).map (fun (c : Nat) => PyData.int (c : Int)) ∧ raw = pre ++ l ∧ ρ.look "steps" = some ⟨.list (dats (xs ++ done)), true⟩ ∧ done ++ bareL key pre l = all ∧ (xs ++ done).length + l.length ≤ 1000 ∧ IK key raw way ρ
def IJ3 (key raw : List Nat) (way : Int) (xs all : List Stp) (rest : List PyData) (ρ : Ro) : Prop := ∃ (seen l : List Nat) (done : List Stp), rest = l.map (fun c => PyData.str (T [c])) ∧ ρ.look "seen" = some ⟨.str (T seen), false⟩ ∧ seen.head? = some 34 ∧ seen.length + l.length ≤ 500 ∧
  ρ.look "steps" = some ⟨.list (dats (xs ++ done)), true⟩ ∧ done ++ quoL way key seen l = all ∧ (xs ++ done).length + 2 * l.length ≤ 990 ∧ IK key raw way ρ

theorem list4 {a0 a1 a2 a3 : PyData} {r : Nat} (hr : r < 4) (f : Nat → PyData) (h0 : a0 = f 0) (h1 : a1 = f 1) (h2 : a2 = f 2) (h3 : a3 = f 3) : [a0, a1, a2, a3][r]? = some (f r) := by
  subst h0; subst h1; subst h2; subst h3
  match r, hr with
  | 0, _ => rfl
  | 1, _ => rfl
  | 2, _ => rfl
  | 3, _ => rfl

theorem AllT.and {a : Act} {E : Value → Shared → Prop} {ρ : Ro} {x : Expr} {rest : List Expr} {bx br : Bool} (h : EvT a E ρ x (· = bx)) (h2 : bx = true → AllT a E ρ .And rest (· = br)) : AllT a E ρ .And (x :: rest) (· = (bx && br)) := by
  refine RunB.mono h fun b hb => ?_
  subst hb
  cases b
  · rw [if_neg (by decide)]; rfl
  · rw [if_pos (by decide)]; simpa using h2 rfl
theorem AllT.or {a : Act} {E : Value → Shared → Prop} {ρ : Ro} {x : Expr} {rest : List Expr} {bx br : Bool} (h : EvT a E ρ x (· = bx)) (h2 : bx = false → AllT a E ρ .Or rest (· = br)) : AllT a E ρ .Or (x :: rest) (· = (bx || br)) := by
  refine RunB.mono h fun b hb => ?_
  subst hb
  cases b
  · rw [if_pos (by decide)]; simpa using h2 rfl
  · rw [if_neg (by decide)]; rfl
theorem dropWhile_nil {α : Type} (p : α → Bool) : ∀ {l : List α}, l.dropWhile p = [] → ∀ x ∈ l, p x = true
  | [], _, _, h => nomatch h
  | a :: l, q, x, h => by
    by_cases ha : p a = true
    · rw [List.dropWhile_cons_of_pos ha] at q
      rcases List.mem_cons.mp h with rfl | h
      · exact ha
      · exact dropWhile_nil p q x h
    · rw [List.dropWhile_cons_of_neg ha] at q; cases q
theorem rstripL_cons34 (l : List Nat) : rstripL (34 :: l) ≠ [] := by
  unfold rstripL
  intro q
  have q' : (List.dropWhile sp (34 :: l).reverse) = [] := by simpa using q
  have h := dropWhile_nil sp q' 34 (by simp)
  exact absurd h (by decide)
end Mine
end

section
open PySem PySem.W PySem.Calls PyProof.Rows
set_option maxRecDepth 100000
set_option autoImplicit false
set_option linter.unusedVariables false
namespace Mine

theorem charAt_nat (l : List Nat) (k : Nat) : Txt.charAt (T l) (k : Int) = l[k]? := by
  unfold Txt.charAt
  rw [T_length]
  by_cases h : k < l.length
  · rw [seqIndex_lt h]; simp
  · have : seqIndex? (k : Int) l.length = none := by
      unfold seqIndex?
      simp [show ¬ ((k : Int) < 0) by omega, h]
    rw [this]; simp at h; simp [h]
theorem pySl_take (l : List Nat) (k : Nat) (h : k ≤ l.length) : pySl l none (some (k : Int)) = l.take k := by
  have : clampI (some (k : Int)) l.length l.length = k := by simp only [clampI]; omega
  unfold pySl; rw [this]; simp [clampI]

set_option maxHeartbeats 4000000 in
theorem item_ex {D : Wd} {A : Around} {fd : FuncData} {L fa pb : Addr} {stk : List Env} {H1 : Heap} {args : List Addr} (O : (mkActIO D A fd L fa stk H1 args 1 "steps" pb).Ok) (hfd : fd.scope = defScope (S1 7)) (E : Value → Shared → Prop)
    {xs : List Stp} {ns : List Int} (hn : ns.length = 6) (hx : xs.length ≤ 500) (hg1 : D.mg "range" = none) (hg2 : D.mg "len" = none)
    (hhalf : ∀ l : List Nat, l.length ≤ 1000 → rstripL l ≠ [] → Fn D 0 "_law_half" [.str (T l)] fun d => d = .str (T (halfL l))) :
    Ex (mkActIO D A fd L fa stk H1 args 1 "steps" pb) E (("steps", ⟨.list (dats xs), true⟩) :: slots ["own"] [.list (nums ns)]) (defBody (S1 7)) (fun _ => False)
      (fun ρ' d => ∃ xs', ρ'.look "steps" = some ⟨.list xs', true⟩ ∧ atoms xs' = true ∧ d = (pairSay (itemKey ns) (itemRaw ns)).dat ∧ xs' = dats (xs ++ itemL ns)) (fun _ => False) := by
  obtain ⟨name, qualname, params, body, scope, globals, closure, dv, kv, doc, pm, an, cd, ct, bt⟩ := fd
  dsimp only at hfd
  subst hfd
  obtain ⟨n0, n1, n2, n3, n4, n5, rfl⟩ : ∃ n0 n1 n2 n3 n4 n5, ns = [n0, n1, n2, n3, n4, n5] := by
    match ns, hn with
    | [n0, n1, n2, n3, n4, n5], _ => exact ⟨_, _, _, _, _, _, rfl⟩
  generalize hns : [n0, n1, n2, n3, n4, n5] = ns at *
  have g0 : (nums ns)[0]? = some (.int n0) := by rw [← hns]; rfl
  have g1 : (nums ns)[1]? = some (.int n1) := by rw [← hns]; rfl
  obtain ⟨r0, hr0, e0⟩ := fmod_nat n0 4 (by decide)
  obtain ⟨r1, hr1, e1⟩ := fmod_nat n1 4 (by decide)
  have e0' : n0.fmod 4 = (r0 : Int) := e0
  have e1' : n1.fmod 4 = (r1 : Int) := e1
  have hkey : itemKey ns = keyOf r0 := by unfold itemKey; rw [← hns]; show keyOf (n0.fmod 4).toNat = _; rw [e0']; rfl
  have hsize : itemSize ns = sizeOf4 r1 := by unfold itemSize; rw [← hns]; show sizeOf4 (n1.fmod 4).toNat = _; rw [e1']; rfl
  have hway : itemWay ns = (n1.fdiv 4).fmod 3 := by unfold itemWay; rw [← hns]; rfl
  have hrawlen : (itemRaw ns).length ≤ 6 := by
    unfold itemRaw; rw [List.length_map]; have := pySl_length ns (some 2) (some (2 + (itemSize ns : Int))); rw [← hns] at this ⊢; exact this
  have hkeylen : (keyOf r0).length ≤ 1 := by unfold keyOf; split <;> decide
  -- key
  refine Ex.cons (Ex1.assign O false (Ev.item O ?_))
  (repeat (first | refine Mine.Ev.str ?_ | refine Mine.Ev.int ?_ | refine Mine.Ev.bool ?_ | refine Mine.Ev.name (by assumption) (by ((repeat' (first | exact Mine.Ro.set_get _ _ _ | refine Mine.Ro.set_other (by decide) ?_ | assumption | rfl)); done)) ?_ | refine Mine.Ev.neg (by assumption) ?_ | refine Mine.EvL.nil ?_ | refine Mine.EvL.cons (by assumption) ?_ | refine Mine.Ev.tuple (by assumption) ?_ | refine Mine.Ev.list (by assumption) ?_ | refine Mine.Ev.dict0 (by assumption) ?_ | refine Mine.Ev.binop (by assumption) ?_ | refine Mine.Ev.cmp (by assumption) ?_ | refine Mine.EvT.cmp (by assumption) ?_ | refine Mine.EvT.not ?_ | refine Mine.EvT.bool ?_ | refine Mine.Ev.boolOp (by assumption) ?_ | refine Mine.Ev.slice (by assumption) ?_ | refine Mine.Ev.item (by assumption) ?_ | refine Mine.Ev.strip (by assumption) ?_ | refine Mine.Ev.rstrip (by assumption) ?_ | refine Mine.Ev.join (by assumption) ?_ | refine Mine.Ev.split (by assumption) ?_ | refine Mine.Ev.ifExp ?_ | refine Mine.EvT.val (by assumption) ?_))
  refine ⟨by decide, by decide, fun q => absurd q (by decide), Ev.binop O (Ev.nameItem (k := 0) O (by ((repeat' (first | exact Mine.Ro.set_get _ _ _ | refine Mine.Ro.set_other (by decide) ?_ | assumption | rfl)); done)) g0 (by decide) (Ev.int ⟨by decide, ?_⟩))⟩
  rw [e0']
  refine ItemOk.list (k := r0) (list4 hr0 (fun r => .str (T (keyOf r))) rfl rfl rfl rfl) (by omega) ⟨by decide, nofun, ?_⟩
  -- size
  refine Ex.cons (Ex1.assign O false (Ev.item O ?_))
  (repeat (first | refine Mine.Ev.str ?_ | refine Mine.Ev.int ?_ | refine Mine.Ev.bool ?_ | refine Mine.Ev.name (by assumption) (by ((repeat' (first | exact Mine.Ro.set_get _ _ _ | refine Mine.Ro.set_other (by decide) ?_ | assumption | rfl)); done)) ?_ | refine Mine.Ev.neg (by assumption) ?_ | refine Mine.EvL.nil ?_ | refine Mine.EvL.cons (by assumption) ?_ | refine Mine.Ev.tuple (by assumption) ?_ | refine Mine.Ev.list (by assumption) ?_ | refine Mine.Ev.dict0 (by assumption) ?_ | refine Mine.Ev.binop (by assumption) ?_ | refine Mine.Ev.cmp (by assumption) ?_ | refine Mine.EvT.cmp (by assumption) ?_ | refine Mine.EvT.not ?_ | refine Mine.EvT.bool ?_ | refine Mine.Ev.boolOp (by assumption) ?_ | refine Mine.Ev.slice (by assumption) ?_ | refine Mine.Ev.item (by assumption) ?_ | refine Mine.Ev.strip (by assumption) ?_ | refine Mine.Ev.rstrip (by assumption) ?_ | refine Mine.Ev.join (by assumption) ?_ | refine Mine.Ev.split (by assumption) ?_ | refine Mine.Ev.ifExp ?_ | refine Mine.EvT.val (by assumption) ?_))
  refine ⟨by decide, by decide, fun q => absurd q (by decide), Ev.binop O (Ev.nameItem (k := 1) O (by ((repeat' (first | exact Mine.Ro.set_get _ _ _ | refine Mine.Ro.set_other (by decide) ?_ | assumption | rfl)); done)) g1 (by decide) (Ev.int ⟨by decide, ?_⟩))⟩
  rw [e1']
  refine ItemOk.list (k := r1) (list4 hr1 (fun r => .int (sizeOf4 r : Int)) rfl rfl rfl rfl) (by omega) ⟨by decide, nofun, ?_⟩
  -- raw
  refine Ex.cons (Ex1.assign O false (Ev.join O (Ev.str ⟨T [], rfl, Ev.comp O ⟨rfl, by decide, rfl, by decide⟩ (Ev.slice O (Ev.name (d := .list (nums ns)) (o := false) O (by ((repeat' (first | exact Mine.Ro.set_get _ _ _ | refine Mine.Ro.set_other (by decide) ?_ | assumption | rfl)); done)) ?_))⟩)))
  refine Ev.int ⟨2, rfl, Ev.binop O (Ev.int (Ev.name (d := .int (sizeOf4 r1 : Int)) (o := false) O (by ((repeat' (first | exact Mine.Ro.set_get _ _ _ | refine Mine.Ro.set_other (by decide) ?_ | assumption | rfl)); done)) ⟨_, rfl, ?_⟩))⟩
  refine ⟨by rw [nums_length, hn]; exact size_small (by decide), nums (pySl ns (some 2) (some (2 + (sizeOf4 r1 : Int)))), _, _, by rw [nums_pySl], .inl ⟨_, _, rfl⟩, ?_, comp_signs _ O rfl _, ?_⟩
  · rw [nums_length]; have := pySl_length ns (some 2) (some (2 + (sizeOf4 r1 : Int))); exact size_small (by omega)
  have hm : (List.map signF (List.filter (fun _ => true) (nums (pySl ns (some 2) (some (2 + (sizeOf4 r1 : Int))))))) = ((itemRaw ns).map fun c => T [c]).map PyData.str := by
    rw [List.filter_eq_self.mpr fun _ _ => rfl]
    unfold nums itemRaw
    rw [hsize, List.map_map, List.map_map, List.map_map]
    rfl
  rw [hm]
  have hjoin : Txt.join (T []) ((itemRaw ns).map fun c => T [c]) = T (itemRaw ns) := by
    have := join_T ((itemRaw ns).map fun c => [c])
    rw [List.map_map] at this
    have q : ∀ l : List Nat, (l.map fun c => [c]).flatten = l := fun l => by induction l with | nil => rfl | cons a l ih => simp [ih]
    rw [q] at this
    exact this
  refine ⟨_, rfl, ?_, by decide, nofun, ?_⟩
  · have := joinOk_small ((itemRaw ns).map fun c => [c]) (fun x hx => by obtain ⟨c, _, rfl⟩ := List.mem_map.mp hx; simp) (by rw [List.length_map]; omega)
    rw [List.map_map] at this; exact this
  rw [hjoin]
  -- way
  refine Ex.cons (Ex1.assign O false (Ev.binop O (Ev.binop O (Ev.nameItem (k := 1) O (by ((repeat' (first | exact Mine.Ro.set_get _ _ _ | refine Mine.Ro.set_other (by decide) ?_ | assumption | rfl)); done)) g1 (by decide) (Ev.int ⟨by decide, Ev.int ⟨by decide, by decide, nofun, ?_⟩⟩)))))
  rw [← hway, ← hkey]
  rw [← hkey] at hkeylen
  unfold itemL
  generalize itemKey ns = key at *
  generalize itemRaw ns = raw at *
  generalize itemWay ns = way at *
  -- the key's letters
  refine Ex.cons (Ex1.forIn O (IJ1 key raw way xs (wordL key)) (fun x rest ρ' hJ => ?_) (fun ρ' hJ => ?_) ?_)
  · obtain ⟨l', done, e, r1, ha, hlen, k1, k2, k3⟩ := hJ
    cases l' with
    | nil => cases e
    | cons c l' =>
    rw [List.map_cons] at e
    obtain ⟨rfl, rfl⟩ := List.cons.inj e
    have sz : (dats (xs ++ done)).length ≤ sizeLine := by rw [dats_length]; exact size_small (by simp only [List.length_cons] at hlen; omega)
    refine Asg.name O ?_
    refine Ex.cons (Ex1.append O (by ((repeat' (first | exact Mine.Ro.set_get _ _ _ | refine Mine.Ro.set_other (by decide) ?_ | assumption | rfl)); done)) ?_)
    ((repeat (first | refine Mine.Ev.str ?_ | refine Mine.Ev.int ?_ | refine Mine.Ev.bool ?_ | refine Mine.Ev.name (by assumption) (by ((repeat' (first | exact Mine.Ro.set_get _ _ _ | refine Mine.Ro.set_other (by decide) ?_ | assumption | rfl)); done)) ?_ | refine Mine.Ev.neg (by assumption) ?_ | refine Mine.EvL.nil ?_ | refine Mine.EvL.cons (by assumption) ?_ | refine Mine.Ev.tuple (by assumption) ?_ | refine Mine.Ev.list (by assumption) ?_ | refine Mine.Ev.dict0 (by assumption) ?_ | refine Mine.Ev.binop (by assumption) ?_ | refine Mine.Ev.cmp (by assumption) ?_ | refine Mine.EvT.cmp (by assumption) ?_ | refine Mine.EvT.not ?_ | refine Mine.EvT.bool ?_ | refine Mine.Ev.boolOp (by assumption) ?_ | refine Mine.Ev.slice (by assumption) ?_ | refine Mine.Ev.item (by assumption) ?_ | refine Mine.Ev.strip (by assumption) ?_ | refine Mine.Ev.rstrip (by assumption) ?_ | refine Mine.Ev.join (by assumption) ?_ | refine Mine.Ev.split (by assumption) ?_ | refine Mine.Ev.ifExp ?_ | refine Mine.EvT.val (by assumption) ?_)); refine ⟨by decide, (by first | decide | (simp only [List.length_cons, List.length_nil]; exact Nat.le_trans (by omega) (show 10 ≤ PySem.sizeLine by decide))), ?_⟩; (repeat (first | refine Mine.Ev.str ?_ | refine Mine.Ev.int ?_ | refine Mine.Ev.bool ?_ | refine Mine.Ev.name (by assumption) (by ((repeat' (first | exact Mine.Ro.set_get _ _ _ | refine Mine.Ro.set_other (by decide) ?_ | assumption | rfl)); done)) ?_ | refine Mine.Ev.neg (by assumption) ?_ | refine Mine.EvL.nil ?_ | refine Mine.EvL.cons (by assumption) ?_ | refine Mine.Ev.tuple (by assumption) ?_ | refine Mine.Ev.list (by assumption) ?_ | refine Mine.Ev.dict0 (by assumption) ?_ | refine Mine.Ev.binop (by assumption) ?_ | refine Mine.Ev.cmp (by assumption) ?_ | refine Mine.EvT.cmp (by assumption) ?_ | refine Mine.EvT.not ?_ | refine Mine.EvT.bool ?_ | refine Mine.Ev.boolOp (by assumption) ?_ | refine Mine.Ev.slice (by assumption) ?_ | refine Mine.Ev.item (by assumption) ?_ | refine Mine.Ev.strip (by assumption) ?_ | refine Mine.Ev.rstrip (by assumption) ?_ | refine Mine.Ev.join (by assumption) ?_ | refine Mine.Ev.split (by assumption) ?_ | refine Mine.Ev.ifExp ?_ | refine Mine.EvT.val (by assumption) ?_)))
    refine ⟨by decide, (by first | decide | (simp only [List.length_cons, List.length_nil]; exact Nat.le_trans (by omega) (show 10 ≤ PySem.sizeLine by decide))), by decide, sz, Ex.nil ⟨l', done ++ [⟨[c], [c], ⟨"word", [], []⟩, false⟩], rfl, ?_, ?_, ?_, by ((repeat' (first | exact Mine.Ro.set_get _ _ _ | refine Mine.Ro.set_other (by decide) ?_ | assumption | rfl)); done), by ((repeat' (first | exact Mine.Ro.set_get _ _ _ | refine Mine.Ro.set_other (by decide) ?_ | assumption | rfl)); done), by ((repeat' (first | exact Mine.Ro.set_get _ _ _ | refine Mine.Ro.set_other (by decide) ?_ | assumption | rfl)); done)⟩⟩
    · rw [← List.append_assoc, ← dats_snoc]; exact Ro.set_get _ _ _
    · rw [← ha, List.append_assoc]; rfl
    · simp only [List.length_cons, List.length_append, List.length_nil] at hlen ⊢; omega
  · obtain ⟨l', done, e, r1, ha, hlen, k1, k2, k3⟩ := hJ
    obtain rfl : l' = [] := by cases l' with | nil => rfl | cons _ _ => cases e
    have ha : done = wordL key := by rw [← ha]; simp [wordL]
    subst ha
    have hwl : (wordL key).length ≤ 1 := by unfold wordL; rw [List.length_map]; exact hkeylen
    have sz : ∀ ys : List Stp, ys.length ≤ 1000 → (dats ys).length ≤ sizeLine := fun ys h => by rw [dats_length]; exact size_small (by omega)
    refine Ex.cons (Ex1.append O r1 ?_)
    ((repeat (first | refine Mine.Ev.str ?_ | refine Mine.Ev.int ?_ | refine Mine.Ev.bool ?_ | refine Mine.Ev.name (by assumption) (by ((repeat' (first | exact Mine.Ro.set_get _ _ _ | refine Mine.Ro.set_other (by decide) ?_ | assumption | rfl)); done)) ?_ | refine Mine.Ev.neg (by assumption) ?_ | refine Mine.EvL.nil ?_ | refine Mine.EvL.cons (by assumption) ?_ | refine Mine.Ev.tuple (by assumption) ?_ | refine Mine.Ev.list (by assumption) ?_ | refine Mine.Ev.dict0 (by assumption) ?_ | refine Mine.Ev.binop (by assumption) ?_ | refine Mine.Ev.cmp (by assumption) ?_ | refine Mine.EvT.cmp (by assumption) ?_ | refine Mine.EvT.not ?_ | refine Mine.EvT.bool ?_ | refine Mine.Ev.boolOp (by assumption) ?_ | refine Mine.Ev.slice (by assumption) ?_ | refine Mine.Ev.item (by assumption) ?_ | refine Mine.Ev.strip (by assumption) ?_ | refine Mine.Ev.rstrip (by assumption) ?_ | refine Mine.Ev.join (by assumption) ?_ | refine Mine.Ev.split (by assumption) ?_ | refine Mine.Ev.ifExp ?_ | refine Mine.EvT.val (by assumption) ?_)); refine ⟨by decide, (by first | decide | (simp only [List.length_cons, List.length_nil]; exact Nat.le_trans (by omega) (show 10 ≤ PySem.sizeLine by decide))), ?_⟩; (repeat (first | refine Mine.Ev.str ?_ | refine Mine.Ev.int ?_ | refine Mine.Ev.bool ?_ | refine Mine.Ev.name (by assumption) (by ((repeat' (first | exact Mine.Ro.set_get _ _ _ | refine Mine.Ro.set_other (by decide) ?_ | assumption | rfl)); done)) ?_ | refine Mine.Ev.neg (by assumption) ?_ | refine Mine.EvL.nil ?_ | refine Mine.EvL.cons (by assumption) ?_ | refine Mine.Ev.tuple (by assumption) ?_ | refine Mine.Ev.list (by assumption) ?_ | refine Mine.Ev.dict0 (by assumption) ?_ | refine Mine.Ev.binop (by assumption) ?_ | refine Mine.Ev.cmp (by assumption) ?_ | refine Mine.EvT.cmp (by assumption) ?_ | refine Mine.EvT.not ?_ | refine Mine.EvT.bool ?_ | refine Mine.Ev.boolOp (by assumption) ?_ | refine Mine.Ev.slice (by assumption) ?_ | refine Mine.Ev.item (by assumption) ?_ | refine Mine.Ev.strip (by assumption) ?_ | refine Mine.Ev.rstrip (by assumption) ?_ | refine Mine.Ev.join (by assumption) ?_ | refine Mine.Ev.split (by assumption) ?_ | refine Mine.Ev.ifExp ?_ | refine Mine.EvT.val (by assumption) ?_)))
    refine ⟨by decide, (by first | decide | (simp only [List.length_cons, List.length_nil]; exact Nat.le_trans (by omega) (show 10 ≤ PySem.sizeLine by decide))), by decide, sz _ (by simp; omega), ?_⟩
    have e1 : dats (xs ++ wordL key) ++ [PyData.tuple [.str (Str.ofString "="), .str (Str.ofString "="), .tuple [.str (Str.ofString "bald"), .str (Str.ofString ""), .str (Str.ofString "")], .bool false]] = dats (xs ++ (wordL key ++ [⟨[61], [61], ⟨"bald", [], []⟩, false⟩])) := by
      rw [← List.append_assoc, ← dats_snoc]; rfl
    rw [e1]
    have hbl : (wordL key ++ [(⟨[61], [61], ⟨"bald", [], []⟩, false⟩ : Stp)]).length ≤ 2 := by simp; omega
    generalize hbase : wordL key ++ [(⟨[61], [61], ⟨"bald", [], []⟩, false⟩ : Stp)] = base at *
    have q44 : (Str.ofString ",") = T [44] := rfl
    have q34 : (Str.ofString "\"") = T [34] := rfl
    have qe : (Str.ofString "") = T [] := rfl
    have q92 : (Str.ofString "\"\\") = T [34, 92] := rfl
    have rl : (T raw).length ≤ sizeLine := by rw [T_length]; exact size_small (by omega)
    refine Ex.cons (Ex1.ifB (bareOk way raw) ?_ (fun hb => ?_) fun hb => ?_)
    · refine EvT.bool (AllT.and ?_ fun _ => AllT.and ?_ fun _ => AllT.and ?_ fun _ => AllT.and ?_ fun _ => AllT.and ?_ fun _ => rfl)
      · refine EvT.cmp O (Ev.name (d := .int way) (o := false) O (by ((repeat' (first | exact Mine.Ro.set_get _ _ _ | refine Mine.Ro.set_other (by decide) ?_ | assumption | rfl)); done)) (Ev.int ?_))
        show (way == 2) = decide (way = 2)
        rw [Bool.eq_iff_iff]; simp
      · refine EvT.cmp O (Ev.name (d := .str (T raw)) (o := false) O (by ((repeat' (first | exact Mine.Ro.set_get _ _ _ | refine Mine.Ro.set_other (by decide) ?_ | assumption | rfl)); done)) (Ev.str ?_))
        show (!(T raw == Str.ofString "")) = decide (raw ≠ [])
        rw [qe, Bool.eq_iff_iff]; simp
      · exact EvT.eqText O (Ev.name O (by ((repeat' (first | exact Mine.Ro.set_get _ _ _ | refine Mine.Ro.set_other (by decide) ?_ | assumption | rfl)); done)) rfl) (Ev.strip O (Ev.name (d := .str (T raw)) (o := false) O (by ((repeat' (first | exact Mine.Ro.set_get _ _ _ | refine Mine.Ro.set_other (by decide) ?_ | assumption | rfl)); done)) ⟨_, rfl, rl, by rw [strip_T]⟩))
      · refine EvT.cmp O (Ev.str (Ev.name (d := .str (T raw)) (o := false) O (by ((repeat' (first | exact Mine.Ro.set_get _ _ _ | refine Mine.Ro.set_other (by decide) ?_ | assumption | rfl)); done)) ?_))
        show (!Txt.contains (T raw) (Str.ofString ",")) = _
        rw [q44, contains_T]
      · refine EvT.cmp O (Ev.str (Ev.name (d := .str (T raw)) (o := false) O (by ((repeat' (first | exact Mine.Ro.set_get _ _ _ | refine Mine.Ro.set_other (by decide) ?_ | assumption | rfl)); done)) ?_))
        show (!Txt.contains (T raw) (Str.ofString "\"")) = _
        rw [q34, contains_T]
    · -- bare
      rw [if_pos hb]
      refine Ex.cons (Ex1.forRange O (IJ2 key raw way (xs ++ base) (bareL key [] raw)) (fun y rest ρ' hJ => ?_) (fun ρ' hJ => ?_) ?_ hg1)
      · obtain ⟨pre, l', done, e, hraw, r1, ha, hlen, k1, k2, k3⟩ := hJ
        cases l' with
        | nil => cases e
        | cons c l' =>
        rw [List.length_cons, List.range'_succ, List.map_cons] at e
        obtain ⟨rfl, rfl⟩ := List.cons.inj e
        have hc : Txt.charAt (T raw) (pre.length : Int) = some c := by rw [charAt_nat, hraw]; simp
        have hpl : pre.length + 1 ≤ raw.length := by rw [hraw]; simp
        have item : ∀ {P : PyData → Nat → Prop} {E' : Value → Shared → Prop} {ρ2 : Ro} {p1 p2 p3 : Pos}, ρ2.look "raw" = some ⟨.str (T raw), false⟩ → ρ2.look "i" = some ⟨.int (pre.length : Int), false⟩ → P (.str (T [c])) 2 → Ev (actOf O) E' ρ2 (.Subscript (.Name "raw" p1) (.Name "i" p2) p3) P := by
          intro P E' ρ2 p1 p2 p3 a1 a2 a3
          exact Ev.item O (Ev.name (d := .str (T raw)) (o := false) O a1 ⟨fun q => absurd q (by decide), Ev.name O a2 ⟨by rw [hc]; rfl, by omega, by omega, by rw [item_T hc]; exact a3⟩⟩)
        refine Ex.cons (Ex1.append O (by ((repeat' (first | exact Mine.Ro.set_get _ _ _ | refine Mine.Ro.set_other (by decide) ?_ | assumption | rfl)); done)) (Ev.tuple O (EvL.cons O (item (by ((repeat' (first | exact Mine.Ro.set_get _ _ _ | refine Mine.Ro.set_other (by decide) ?_ | assumption | rfl)); done)) (by ((repeat' (first | exact Mine.Ro.set_get _ _ _ | refine Mine.Ro.set_other (by decide) ?_ | assumption | rfl)); done)) (EvL.cons O (item (by ((repeat' (first | exact Mine.Ro.set_get _ _ _ | refine Mine.Ro.set_other (by decide) ?_ | assumption | rfl)); done)) (by ((repeat' (first | exact Mine.Ro.set_get _ _ _ | refine Mine.Ro.set_other (by decide) ?_ | assumption | rfl)); done)) (EvL.cons O (Ev.tuple O ?_))))))))
        refine EvL.cons O (Ev.str (EvL.cons O (Ev.name O (by ((repeat' (first | exact Mine.Ro.set_get _ _ _ | refine Mine.Ro.set_other (by decide) ?_ | assumption | rfl)); done)) (EvL.cons O (Ev.rstrip O (Ev.slice O (Ev.name (d := .str (T raw)) (o := false) O (by ((repeat' (first | exact Mine.Ro.set_get _ _ _ | refine Mine.Ro.set_other (by decide) ?_ | assumption | rfl)); done)) ?_)))))))
        refine Ev.binop O (Ev.name (d := .int (pre.length : Int)) (o := false) O (by ((repeat' (first | exact Mine.Ro.set_get _ _ _ | refine Mine.Ro.set_other (by decide) ?_ | assumption | rfl)); done)) (Ev.int ⟨_, rfl, rl, _, rfl, ?_, ?_⟩))
        · rw [T_length]; have := pySl_length (T raw).cps.toList none (some ((pre.length : Int) + 1)); have e2 : (T raw).cps.toList.length = raw.length := by simp
          exact size_small (by omega)
        have hsl : Txt.rstrip (T (pySl (T raw).cps.toList none (some ((pre.length : Int) + 1)))) = T (rstripL (pre ++ [c])) := by
          rw [rstrip_T]
          have e2 : (T raw).cps.toList = raw := by simp
          rw [e2, show (pre.length : Int) + 1 = ((pre.length + 1 : Nat) : Int) by omega, pySl_take raw _ hpl, hraw]
          simp [List.take_append, List.take_of_length_le]
        rw [hsl]
        refine EvL.nil ⟨by decide, (by first | decide | (simp only [List.length_cons, List.length_nil]; exact Nat.le_trans (by omega) (show 10 ≤ PySem.sizeLine by decide))), EvL.cons O (Ev.bool (EvL.nil ⟨by decide, (by first | decide | (simp only [List.length_cons, List.length_nil]; exact Nat.le_trans (by omega) (show 10 ≤ PySem.sizeLine by decide))), by decide, sz _ (by simp only [List.length_cons] at hlen; omega), ?_⟩))⟩
        refine Ex.nil ⟨pre ++ [c], l', done ++ [⟨[c], [c], pairSay key (rstripL (pre ++ [c])), false⟩], ?_, by rw [hraw]; simp, ?_, ?_, ?_, by ((repeat' (first | exact Mine.Ro.set_get _ _ _ | refine Mine.Ro.set_other (by decide) ?_ | assumption | rfl)); done), by ((repeat' (first | exact Mine.Ro.set_get _ _ _ | refine Mine.Ro.set_other (by decide) ?_ | assumption | rfl)); done), by ((repeat' (first | exact Mine.Ro.set_get _ _ _ | refine Mine.Ro.set_other (by decide) ?_ | assumption | rfl)); done)⟩
        · rw [List.length_append]; rfl
        · rw [← List.append_assoc, ← dats_snoc]; exact Ro.set_get _ _ _
        · rw [← ha, List.append_assoc]; rfl
        · simp only [List.length_cons, List.length_append, List.length_nil] at hlen ⊢; omega
      · obtain ⟨pre, l', done, e, hraw, r1, ha, hlen, k1, k2, k3⟩ := hJ
        obtain rfl : l' = [] := by cases l' with | nil => rfl | cons _ _ => cases e
        have ha : done = bareL key [] raw := by rw [← ha]; simp [bareL]
        subst ha
        refine Ex.cons (Ex1.ret O (Ev.tuple O ?_))
        (repeat (first | refine Mine.Ev.str ?_ | refine Mine.Ev.int ?_ | refine Mine.Ev.bool ?_ | refine Mine.Ev.name (by assumption) (by ((repeat' (first | exact Mine.Ro.set_get _ _ _ | refine Mine.Ro.set_other (by decide) ?_ | assumption | rfl)); done)) ?_ | refine Mine.Ev.neg (by assumption) ?_ | refine Mine.EvL.nil ?_ | refine Mine.EvL.cons (by assumption) ?_ | refine Mine.Ev.tuple (by assumption) ?_ | refine Mine.Ev.list (by assumption) ?_ | refine Mine.Ev.dict0 (by assumption) ?_ | refine Mine.Ev.binop (by assumption) ?_ | refine Mine.Ev.cmp (by assumption) ?_ | refine Mine.EvT.cmp (by assumption) ?_ | refine Mine.EvT.not ?_ | refine Mine.EvT.bool ?_ | refine Mine.Ev.boolOp (by assumption) ?_ | refine Mine.Ev.slice (by assumption) ?_ | refine Mine.Ev.item (by assumption) ?_ | refine Mine.Ev.strip (by assumption) ?_ | refine Mine.Ev.rstrip (by assumption) ?_ | refine Mine.Ev.join (by assumption) ?_ | refine Mine.Ev.split (by assumption) ?_ | refine Mine.Ev.ifExp ?_ | refine Mine.EvT.val (by assumption) ?_))
        refine ⟨by decide, (by first | decide | (simp only [List.length_cons, List.length_nil]; exact Nat.le_trans (by omega) (show 10 ≤ PySem.sizeLine by decide))), _, r1, dats_atoms _, rfl, by rw [List.append_assoc]⟩
      · refine Ev.len O (Ev.name (d := .str (T raw)) (o := false) O (by ((repeat' (first | exact Mine.Ro.set_get _ _ _ | refine Mine.Ro.set_other (by decide) ?_ | assumption | rfl)); done)) ⟨rl, _, rfl, by omega, by rw [T_length]; omega, [], raw, [], ?_, rfl, ?_, rfl, by simp; omega, by ((repeat' (first | exact Mine.Ro.set_get _ _ _ | refine Mine.Ro.set_other (by decide) ?_ | assumption | rfl)); done), by ((repeat' (first | exact Mine.Ro.set_get _ _ _ | refine Mine.Ro.set_other (by decide) ?_ | assumption | rfl)); done), by ((repeat' (first | exact Mine.Ro.set_get _ _ _ | refine Mine.Ro.set_other (by decide) ?_ | assumption | rfl)); done)⟩) hg2
        · unfold upto; rw [T_length, List.range_eq_range']; rfl
        · rw [List.append_nil]; ((repeat' (first | exact Mine.Ro.set_get _ _ _ | refine Mine.Ro.set_other (by decide) ?_ | assumption | rfl)); done)
    · -- quoted
      rw [if_neg (by rw [hb]; decide)]
      refine Ex.nil (Ex.cons (Ex1.assign O false (Ev.str ⟨by decide, nofun, ?_⟩)))
      refine Ex.cons (Ex1.append O (by ((repeat' (first | exact Mine.Ro.set_get _ _ _ | refine Mine.Ro.set_other (by decide) ?_ | assumption | rfl)); done)) ?_)
      ((repeat (first | refine Mine.Ev.str ?_ | refine Mine.Ev.int ?_ | refine Mine.Ev.bool ?_ | refine Mine.Ev.name (by assumption) (by ((repeat' (first | exact Mine.Ro.set_get _ _ _ | refine Mine.Ro.set_other (by decide) ?_ | assumption | rfl)); done)) ?_ | refine Mine.Ev.neg (by assumption) ?_ | refine Mine.EvL.nil ?_ | refine Mine.EvL.cons (by assumption) ?_ | refine Mine.Ev.tuple (by assumption) ?_ | refine Mine.Ev.list (by assumption) ?_ | refine Mine.Ev.dict0 (by assumption) ?_ | refine Mine.Ev.binop (by assumption) ?_ | refine Mine.Ev.cmp (by assumption) ?_ | refine Mine.EvT.cmp (by assumption) ?_ | refine Mine.EvT.not ?_ | refine Mine.EvT.bool ?_ | refine Mine.Ev.boolOp (by assumption) ?_ | refine Mine.Ev.slice (by assumption) ?_ | refine Mine.Ev.item (by assumption) ?_ | refine Mine.Ev.strip (by assumption) ?_ | refine Mine.Ev.rstrip (by assumption) ?_ | refine Mine.Ev.join (by assumption) ?_ | refine Mine.Ev.split (by assumption) ?_ | refine Mine.Ev.ifExp ?_ | refine Mine.EvT.val (by assumption) ?_)); refine ⟨by decide, (by first | decide | (simp only [List.length_cons, List.length_nil]; exact Nat.le_trans (by omega) (show 10 ≤ PySem.sizeLine by decide))), ?_⟩; (repeat (first | refine Mine.Ev.str ?_ | refine Mine.Ev.int ?_ | refine Mine.Ev.bool ?_ | refine Mine.Ev.name (by assumption) (by ((repeat' (first | exact Mine.Ro.set_get _ _ _ | refine Mine.Ro.set_other (by decide) ?_ | assumption | rfl)); done)) ?_ | refine Mine.Ev.neg (by assumption) ?_ | refine Mine.EvL.nil ?_ | refine Mine.EvL.cons (by assumption) ?_ | refine Mine.Ev.tuple (by assumption) ?_ | refine Mine.Ev.list (by assumption) ?_ | refine Mine.Ev.dict0 (by assumption) ?_ | refine Mine.Ev.binop (by assumption) ?_ | refine Mine.Ev.cmp (by assumption) ?_ | refine Mine.EvT.cmp (by assumption) ?_ | refine Mine.EvT.not ?_ | refine Mine.EvT.bool ?_ | refine Mine.Ev.boolOp (by assumption) ?_ | refine Mine.Ev.slice (by assumption) ?_ | refine Mine.Ev.item (by assumption) ?_ | refine Mine.Ev.strip (by assumption) ?_ | refine Mine.Ev.rstrip (by assumption) ?_ | refine Mine.Ev.join (by assumption) ?_ | refine Mine.Ev.split (by assumption) ?_ | refine Mine.Ev.ifExp ?_ | refine Mine.EvT.val (by assumption) ?_)))
      refine ⟨by decide, (by first | decide | (simp only [List.length_cons, List.length_nil]; exact Nat.le_trans (by omega) (show 10 ≤ PySem.sizeLine by decide))), by decide, sz _ (by simp; omega), ?_⟩
      have e2 : dats (xs ++ base) ++ [PyData.tuple [.str (Str.ofString "\""), .str (Str.ofString "\""), .tuple [.str (Str.ofString "pair"), .str (T key), .str (Str.ofString "")], .bool false]] = dats (xs ++ base ++ [⟨[34], [34], pairSay key [], false⟩]) := by
        rw [← dats_snoc]; rfl
      rw [e2]
      refine Ex.cons (Ex1.forIn O (IJ3 key raw way (xs ++ base ++ [⟨[34], [34], pairSay key [], false⟩]) (quoL way key [34] raw)) (fun x rest ρ' hJ => ?_) (fun ρ' hJ => ?_) ?_)
      · obtain ⟨seen, l', done, e, rs, h34, hsl, r1, ha, hlen, k1, k2, k3⟩ := hJ
        cases l' with
        | nil => cases e
        | cons c l' =>
        rw [List.map_cons] at e
        obtain ⟨rfl, rfl⟩ := List.cons.inj e
        simp only [List.length_cons] at hlen hsl
        obtain ⟨seen', rfl⟩ : ∃ seen', seen = 34 :: seen' := by
          cases seen with
          | nil => cases h34
          | cons a r => simp at h34; exact ⟨r, by rw [h34]⟩
        have hs2 : seen'.length + l'.length ≤ 498 := by simp at hsl; omega
        have half : ∀ {P : PyData → Nat → Prop} {E' : Value → Shared → Prop} {ρ2 : Ro} {p1 p2 p3 : Pos} {l : List Nat}, ρ2.look "seen" = some ⟨.str (T (34 :: l)), false⟩ → l.length ≤ 900 → P (.str (T (halfL (34 :: l)))) 2 → Ev (actOf O) E' ρ2 (.Call (.Name "_law_half" p1) [.Name "seen" p2] [] p3) P := by
          intro P E' ρ2 p1 p2 p3 l a1 a2 a3
          have hfn := hhalf (34 :: l) (by simp; omega) (rstripL_cons34 l)
          exact Ev.call O (EvL.cons O (Ev.name O a1 (EvL.nil ⟨_, hfn, fun d hd => by subst hd; exact ⟨.inr rfl, a3⟩⟩))) (hk := Nat.le_of_ble_eq_true rfl) (hfn := by obtain ⟨fa, h, _⟩ := hfn; exact ⟨fa, h⟩)
        refine Asg.name O ?_
        refine Ex.cons (Ex1.ifB (decide (way = 1 ∨ c = 34 ∨ c = 92)) ?_ (fun hw => ?_) fun hw => ?_)
        · skip
          refine RunB.mono (P := (· = (decide (way = 1) || (decide (c ∈ [34, 92]) || false)))) (EvT.bool (AllT.or ?_ fun _ => AllT.or ?_ fun _ => rfl)) fun b h => ?_
          · refine EvT.cmp O (Ev.name (d := .int way) (o := false) O (by ((repeat' (first | exact Mine.Ro.set_get _ _ _ | refine Mine.Ro.set_other (by decide) ?_ | assumption | rfl)); done)) (Ev.int ?_))
            show (way == 1) = decide (way = 1)
            rw [Bool.eq_iff_iff]; simp
          · refine EvT.cmp O (Ev.name (d := .str (T [c])) (o := false) O (by ((repeat' (first | exact Mine.Ro.set_get _ _ _ | refine Mine.Ro.set_other (by decide) ?_ | assumption | rfl)); done)) (Ev.str ?_))
            show Txt.contains (Str.ofString "\"\\") (T [c]) = _
            rw [q92, contains_T]
          · rw [h, Bool.eq_iff_iff]; simp
        · have hw : way = 1 ∨ c = 34 ∨ c = 92 := by simpa using hw
          refine Ex.cons (Ex1.append O (by ((repeat' (first | exact Mine.Ro.set_get _ _ _ | refine Mine.Ro.set_other (by decide) ?_ | assumption | rfl)); done)) (Ev.tuple O (EvL.cons O (Ev.str (EvL.cons O (Ev.str (EvL.cons O (Ev.tuple O (EvL.cons O (Ev.str (EvL.cons O (Ev.name O (by ((repeat' (first | exact Mine.Ro.set_get _ _ _ | refine Mine.Ro.set_other (by decide) ?_ | assumption | rfl)); done)) (EvL.cons O (half (by ((repeat' (first | exact Mine.Ro.set_get _ _ _ | refine Mine.Ro.set_other (by decide) ?_ | assumption | rfl)); done)) (by omega) ?_))))))))))))))
          refine EvL.nil ⟨by decide, (by first | decide | (simp only [List.length_cons, List.length_nil]; exact Nat.le_trans (by omega) (show 10 ≤ PySem.sizeLine by decide))), EvL.cons O (Ev.bool (EvL.nil ⟨by decide, (by first | decide | (simp only [List.length_cons, List.length_nil]; exact Nat.le_trans (by omega) (show 10 ≤ PySem.sizeLine by decide))), by decide, sz _ (by simp at hlen ⊢; omega), ?_⟩))⟩
          refine Ex.nil (Ex.cons (Ex1.augText O (u := 34 :: seen') (o := false) (by ((repeat' (first | exact Mine.Ro.set_get _ _ _ | refine Mine.Ro.set_other (by decide) ?_ | assumption | rfl)); done)) (Ev.name O (by ((repeat' (first | exact Mine.Ro.set_get _ _ _ | refine Mine.Ro.set_other (by decide) ?_ | assumption | rfl)); done)) ⟨[c], rfl, size_small (by simp; omega), ?_⟩)))
          refine Ex.cons (Ex1.append O (by ((repeat' (first | exact Mine.Ro.set_get _ _ _ | refine Mine.Ro.set_other (by decide) ?_ | assumption | rfl)); done)) (Ev.tuple O (EvL.cons O (Ev.name O (by ((repeat' (first | exact Mine.Ro.set_get _ _ _ | refine Mine.Ro.set_other (by decide) ?_ | assumption | rfl)); done)) (EvL.cons O (Ev.name O (by ((repeat' (first | exact Mine.Ro.set_get _ _ _ | refine Mine.Ro.set_other (by decide) ?_ | assumption | rfl)); done)) (EvL.cons O (Ev.tuple O (EvL.cons O (Ev.str (EvL.cons O (Ev.name O (by ((repeat' (first | exact Mine.Ro.set_get _ _ _ | refine Mine.Ro.set_other (by decide) ?_ | assumption | rfl)); done)) (EvL.cons O (half (l := seen' ++ [c]) (by ((repeat' (first | exact Mine.Ro.set_get _ _ _ | refine Mine.Ro.set_other (by decide) ?_ | assumption | rfl)); done)) (by simp; omega) ?_))))))))))))))
          refine EvL.nil ⟨by decide, (by first | decide | (simp only [List.length_cons, List.length_nil]; exact Nat.le_trans (by omega) (show 10 ≤ PySem.sizeLine by decide))), EvL.cons O (Ev.bool (EvL.nil ⟨by decide, (by first | decide | (simp only [List.length_cons, List.length_nil]; exact Nat.le_trans (by omega) (show 10 ≤ PySem.sizeLine by decide))), by decide, ?_, ?_⟩))⟩
          · rw [List.length_append, dats_length]; exact size_small (by simp at hlen ⊢; omega)
          refine Ex.nil ⟨34 :: (seen' ++ [c]), l', done ++ [⟨[92], [], pairSay key (halfL (34 :: seen')), false⟩, ⟨[c], [c], pairSay key (halfL (34 :: (seen' ++ [c]))), false⟩], rfl, by ((repeat' (first | exact Mine.Ro.set_get _ _ _ | refine Mine.Ro.set_other (by decide) ?_ | assumption | rfl)); done), rfl, by simp at hsl ⊢; omega, ?_, ?_, ?_, by ((repeat' (first | exact Mine.Ro.set_get _ _ _ | refine Mine.Ro.set_other (by decide) ?_ | assumption | rfl)); done), by ((repeat' (first | exact Mine.Ro.set_get _ _ _ | refine Mine.Ro.set_other (by decide) ?_ | assumption | rfl)); done), by ((repeat' (first | exact Mine.Ro.set_get _ _ _ | refine Mine.Ro.set_other (by decide) ?_ | assumption | rfl)); done)⟩
          · rw [show ∀ (z : List Stp) (u v : Stp), z ++ (done ++ [u, v]) = z ++ done ++ [u] ++ [v] from fun z u v => by simp, ← dats_snoc, ← dats_snoc]; exact Ro.set_get _ _ _
          · rw [← ha, quoL, if_pos hw]; simp
          · simp at hlen ⊢; omega
        · have hw : ¬ (way = 1 ∨ c = 34 ∨ c = 92) := by simpa using hw
          refine Ex.nil (Ex.cons (Ex1.augText O (u := 34 :: seen') (o := false) (by ((repeat' (first | exact Mine.Ro.set_get _ _ _ | refine Mine.Ro.set_other (by decide) ?_ | assumption | rfl)); done)) (Ev.name O (by ((repeat' (first | exact Mine.Ro.set_get _ _ _ | refine Mine.Ro.set_other (by decide) ?_ | assumption | rfl)); done)) ⟨[c], rfl, size_small (by simp; omega), ?_⟩)))
          refine Ex.cons (Ex1.append O (by ((repeat' (first | exact Mine.Ro.set_get _ _ _ | refine Mine.Ro.set_other (by decide) ?_ | assumption | rfl)); done)) (Ev.tuple O (EvL.cons O (Ev.name O (by ((repeat' (first | exact Mine.Ro.set_get _ _ _ | refine Mine.Ro.set_other (by decide) ?_ | assumption | rfl)); done)) (EvL.cons O (Ev.name O (by ((repeat' (first | exact Mine.Ro.set_get _ _ _ | refine Mine.Ro.set_other (by decide) ?_ | assumption | rfl)); done)) (EvL.cons O (Ev.tuple O (EvL.cons O (Ev.str (EvL.cons O (Ev.name O (by ((repeat' (first | exact Mine.Ro.set_get _ _ _ | refine Mine.Ro.set_other (by decide) ?_ | assumption | rfl)); done)) (EvL.cons O (half (l := seen' ++ [c]) (by ((repeat' (first | exact Mine.Ro.set_get _ _ _ | refine Mine.Ro.set_other (by decide) ?_ | assumption | rfl)); done)) (by simp; omega) ?_))))))))))))))
          refine EvL.nil ⟨by decide, (by first | decide | (simp only [List.length_cons, List.length_nil]; exact Nat.le_trans (by omega) (show 10 ≤ PySem.sizeLine by decide))), EvL.cons O (Ev.bool (EvL.nil ⟨by decide, (by first | decide | (simp only [List.length_cons, List.length_nil]; exact Nat.le_trans (by omega) (show 10 ≤ PySem.sizeLine by decide))), by decide, sz _ (by simp at hlen ⊢; omega), ?_⟩))⟩
          refine Ex.nil ⟨34 :: (seen' ++ [c]), l', done ++ [⟨[c], [c], pairSay key (halfL (34 :: (seen' ++ [c]))), false⟩], rfl, by ((repeat' (first | exact Mine.Ro.set_get _ _ _ | refine Mine.Ro.set_other (by decide) ?_ | assumption | rfl)); done), rfl, by simp at hsl ⊢; omega, ?_, ?_, ?_, by ((repeat' (first | exact Mine.Ro.set_get _ _ _ | refine Mine.Ro.set_other (by decide) ?_ | assumption | rfl)); done), by ((repeat' (first | exact Mine.Ro.set_get _ _ _ | refine Mine.Ro.set_other (by decide) ?_ | assumption | rfl)); done), by ((repeat' (first | exact Mine.Ro.set_get _ _ _ | refine Mine.Ro.set_other (by decide) ?_ | assumption | rfl)); done)⟩
          · rw [← List.append_assoc, ← dats_snoc]; exact Ro.set_get _ _ _
          · rw [← ha, quoL, if_neg hw]; simp
          · simp at hlen ⊢; omega
      · obtain ⟨seen, l', done, e, rs, h34, hsl, r1, ha, hlen, k1, k2, k3⟩ := hJ
        obtain rfl : l' = [] := by cases l' with | nil => rfl | cons _ _ => cases e
        have ha : done = quoL way key [34] raw := by rw [← ha]; simp [quoL]
        subst ha
        refine Ex.cons (Ex1.append O (by ((repeat' (first | exact Mine.Ro.set_get _ _ _ | refine Mine.Ro.set_other (by decide) ?_ | assumption | rfl)); done)) ?_)
        ((repeat (first | refine Mine.Ev.str ?_ | refine Mine.Ev.int ?_ | refine Mine.Ev.bool ?_ | refine Mine.Ev.name (by assumption) (by ((repeat' (first | exact Mine.Ro.set_get _ _ _ | refine Mine.Ro.set_other (by decide) ?_ | assumption | rfl)); done)) ?_ | refine Mine.Ev.neg (by assumption) ?_ | refine Mine.EvL.nil ?_ | refine Mine.EvL.cons (by assumption) ?_ | refine Mine.Ev.tuple (by assumption) ?_ | refine Mine.Ev.list (by assumption) ?_ | refine Mine.Ev.dict0 (by assumption) ?_ | refine Mine.Ev.binop (by assumption) ?_ | refine Mine.Ev.cmp (by assumption) ?_ | refine Mine.EvT.cmp (by assumption) ?_ | refine Mine.EvT.not ?_ | refine Mine.EvT.bool ?_ | refine Mine.Ev.boolOp (by assumption) ?_ | refine Mine.Ev.slice (by assumption) ?_ | refine Mine.Ev.item (by assumption) ?_ | refine Mine.Ev.strip (by assumption) ?_ | refine Mine.Ev.rstrip (by assumption) ?_ | refine Mine.Ev.join (by assumption) ?_ | refine Mine.Ev.split (by assumption) ?_ | refine Mine.Ev.ifExp ?_ | refine Mine.EvT.val (by assumption) ?_)); refine ⟨by decide, (by first | decide | (simp only [List.length_cons, List.length_nil]; exact Nat.le_trans (by omega) (show 10 ≤ PySem.sizeLine by decide))), ?_⟩; (repeat (first | refine Mine.Ev.str ?_ | refine Mine.Ev.int ?_ | refine Mine.Ev.bool ?_ | refine Mine.Ev.name (by assumption) (by ((repeat' (first | exact Mine.Ro.set_get _ _ _ | refine Mine.Ro.set_other (by decide) ?_ | assumption | rfl)); done)) ?_ | refine Mine.Ev.neg (by assumption) ?_ | refine Mine.EvL.nil ?_ | refine Mine.EvL.cons (by assumption) ?_ | refine Mine.Ev.tuple (by assumption) ?_ | refine Mine.Ev.list (by assumption) ?_ | refine Mine.Ev.dict0 (by assumption) ?_ | refine Mine.Ev.binop (by assumption) ?_ | refine Mine.Ev.cmp (by assumption) ?_ | refine Mine.EvT.cmp (by assumption) ?_ | refine Mine.EvT.not ?_ | refine Mine.EvT.bool ?_ | refine Mine.Ev.boolOp (by assumption) ?_ | refine Mine.Ev.slice (by assumption) ?_ | refine Mine.Ev.item (by assumption) ?_ | refine Mine.Ev.strip (by assumption) ?_ | refine Mine.Ev.rstrip (by assumption) ?_ | refine Mine.Ev.join (by assumption) ?_ | refine Mine.Ev.split (by assumption) ?_ | refine Mine.Ev.ifExp ?_ | refine Mine.EvT.val (by assumption) ?_)))
        refine ⟨by decide, (by first | decide | (simp only [List.length_cons, List.length_nil]; exact Nat.le_trans (by omega) (show 10 ≤ PySem.sizeLine by decide))), by decide, sz _ (by simp at hlen ⊢; omega), ?_⟩
        refine Ex.cons (Ex1.ret O (Ev.tuple O ?_))
        (repeat (first | refine Mine.Ev.str ?_ | refine Mine.Ev.int ?_ | refine Mine.Ev.bool ?_ | refine Mine.Ev.name (by assumption) (by ((repeat' (first | exact Mine.Ro.set_get _ _ _ | refine Mine.Ro.set_other (by decide) ?_ | assumption | rfl)); done)) ?_ | refine Mine.Ev.neg (by assumption) ?_ | refine Mine.EvL.nil ?_ | refine Mine.EvL.cons (by assumption) ?_ | refine Mine.Ev.tuple (by assumption) ?_ | refine Mine.Ev.list (by assumption) ?_ | refine Mine.Ev.dict0 (by assumption) ?_ | refine Mine.Ev.binop (by assumption) ?_ | refine Mine.Ev.cmp (by assumption) ?_ | refine Mine.EvT.cmp (by assumption) ?_ | refine Mine.EvT.not ?_ | refine Mine.EvT.bool ?_ | refine Mine.Ev.boolOp (by assumption) ?_ | refine Mine.Ev.slice (by assumption) ?_ | refine Mine.Ev.item (by assumption) ?_ | refine Mine.Ev.strip (by assumption) ?_ | refine Mine.Ev.rstrip (by assumption) ?_ | refine Mine.Ev.join (by assumption) ?_ | refine Mine.Ev.split (by assumption) ?_ | refine Mine.Ev.ifExp ?_ | refine Mine.EvT.val (by assumption) ?_))
        refine ⟨by decide, (by first | decide | (simp only [List.length_cons, List.length_nil]; exact Nat.le_trans (by omega) (show 10 ≤ PySem.sizeLine by decide))), _, Ro.set_get _ _ _, ?_, rfl, ?_⟩
        · have := dats_atoms (xs ++ base ++ [⟨[34], [34], pairSay key [], false⟩] ++ quoL way key [34] raw ++ [⟨[34], [34], pairSay key raw, false⟩])
          rw [← dats_snoc] at this; exact this
        · show dats (xs ++ base ++ [⟨[34], [34], pairSay key [], false⟩] ++ quoL way key [34] raw) ++ [Stp.dat ⟨[34], [34], pairSay key raw, false⟩] = _
          rw [dats_snoc]; simp
      · refine Ev.name (d := .str (T raw)) (o := false) O (by ((repeat' (first | exact Mine.Ro.set_get _ _ _ | refine Mine.Ro.set_other (by decide) ?_ | assumption | rfl)); done)) ⟨by decide, ⟨_, _, rfl⟩, [34], raw, [], signs_T raw, by ((repeat' (first | exact Mine.Ro.set_get _ _ _ | refine Mine.Ro.set_other (by decide) ?_ | assumption | rfl)); done), rfl, by simp; omega, by rw [List.append_nil]; ((repeat' (first | exact Mine.Ro.set_get _ _ _ | refine Mine.Ro.set_other (by decide) ?_ | assumption | rfl)); done), rfl, by simp; omega, by ((repeat' (first | exact Mine.Ro.set_get _ _ _ | refine Mine.Ro.set_other (by decide) ?_ | assumption | rfl)); done), by ((repeat' (first | exact Mine.Ro.set_get _ _ _ | refine Mine.Ro.set_other (by decide) ?_ | assumption | rfl)); done), by ((repeat' (first | exact Mine.Ro.set_get _ _ _ | refine Mine.Ro.set_other (by decide) ?_ | assumption | rfl)); done)⟩
  · refine Ev.name (d := .str (T key)) (o := false) O (by ((repeat' (first | exact Mine.Ro.set_get _ _ _ | refine Mine.Ro.set_other (by decide) ?_ | assumption | rfl)); done)) ⟨by decide, ⟨_, _, rfl⟩, key, [], signs_T key, by rw [List.append_nil]; ((repeat' (first | exact Mine.Ro.set_get _ _ _ | refine Mine.Ro.set_other (by decide) ?_ | assumption | rfl)); done), rfl, by simp; omega, by ((repeat' (first | exact Mine.Ro.set_get _ _ _ | refine Mine.Ro.set_other (by decide) ?_ | assumption | rfl)); done), by ((repeat' (first | exact Mine.Ro.set_get _ _ _ | refine Mine.Ro.set_other (by decide) ?_ | assumption | rfl)); done), by ((repeat' (first | exact Mine.Ro.set_get _ _ _ | refine Mine.Ro.set_other (by decide) ?_ | assumption | rfl)); done)⟩
end Mine
end

section
open PySem PySem.W PySem.Calls PyProof.Rows
set_option maxRecDepth 100000
set_option autoImplicit false
set_option linter.unusedVariables false
namespace Mine

def headGap (k : Nat) : List Nat := match k with | 0 => [] | 1 => [32] | 2 => [44] | _ => [32, 44]
def tailGap (k : Nat) : List Nat := match k with | 0 => [44] | 1 => [44, 32] | 2 => [32, 44] | 3 => [44, 44] | _ => [44, 9]
def ownOf (cells : List Int) (j : Nat) : List Int := pySl cells (some ((6 * j + 1 : Nat) : Int)) (some ((6 * j + 7 : Nat) : Int))
def partL (own : List Int) : List Stp := itemL own ++ gapL (tailGap ((own[5]?.getD 0).fmod 5).toNat) (pairSay (itemKey own) (itemRaw own))
def partsL (cells : List Int) : Nat → Nat → List Stp
  | _, 0 => []
  | j, k + 1 => partL (ownOf cells j) ++ partsL cells (j + 1) k
def headerL (cells : List Int) : List Stp := gapL (headGap (((cells[0]?.getD 0).fdiv 3).fmod 4).toNat) sayNone ++ partsL cells 0 (((cells[0]?.getD 0).fmod 3).toNat + 1)

theorem gapL_length : ∀ (l : List Nat) (s : Say), (gapL l s).length = l.length
  | [], _ => rfl
  | c :: cs, s => by unfold gapL; split <;> (try split) <;> simp [gapL_length cs]
theorem bareL_length (key : List Nat) : ∀ (l pre : List Nat), (bareL key pre l).length = l.length
  | [], _ => rfl
  | c :: cs, pre => by simp [bareL, bareL_length key cs]
theorem quoL_length (way : Int) (key : List Nat) : ∀ (l seen : List Nat), (quoL way key seen l).length ≤ 2 * l.length
  | [], _ => Nat.zero_le _
  | c :: cs, seen => by
    have := quoL_length way key cs (seen ++ [c])
    unfold quoL; split <;> simp <;> omega
theorem itemL_length {own : List Int} (h : own.length = 6) : (itemL own).length ≤ 18 := by
  have hr : (itemRaw own).length ≤ 6 := by
    unfold itemRaw; rw [List.length_map]; have := pySl_length own (some 2) (some (2 + (itemSize own : Int))); omega
  have hk : (wordL (itemKey own)).length ≤ 1 := by unfold wordL itemKey keyOf; rw [List.length_map]; split <;> decide
  unfold itemL
  split
  · simp [bareL_length]; omega
  · have := quoL_length (itemWay own) (itemKey own) (itemRaw own) [34]
    simp; omega
theorem tailGap_length (k : Nat) : (tailGap k).length ≤ 2 := by unfold tailGap; split <;> decide
theorem headGap_length (k : Nat) : (headGap k).length ≤ 2 := by unfold headGap; split <;> decide
theorem ownOf_length {cells : List Int} (h : cells.length = 19) {j : Nat} (hj : j ≤ 2) : (ownOf cells j).length = 6 := by
  unfold ownOf pySl
  rw [List.length_take, List.length_drop, h]
  match j, hj with
  | 0, _ => decide
  | 1, _ => decide
  | 2, _ => decide
theorem list5 {a0 a1 a2 a3 a4 : PyData} {r : Nat} (hr : r < 5) (f : Nat → PyData) (h0 : a0 = f 0) (h1 : a1 = f 1) (h2 : a2 = f 2) (h3 : a3 = f 3) (h4 : a4 = f 4) : [a0, a1, a2, a3, a4][r]? = some (f r) := by
  subst h0; subst h1; subst h2; subst h3; subst h4
  match r, hr with
  | 0, _ => rfl
  | 1, _ => rfl
  | 2, _ => rfl
  | 3, _ => rfl
  | 4, _ => rfl

def KJ (cells : List Int) (m : Nat) (all : List Stp) (rest : List PyData) (ρ : Ro) : Prop := ∃ (j k : Nat) (done : List Stp), j + k = m ∧ rest = (List.range' j k).map (fun (c : Nat) => PyData.int (c : Int)) ∧ ρ.look "steps" = some ⟨.list (dats done), true⟩ ∧ done ++ partsL cells j k = all ∧ done.length ≤ 2 + 20 * j ∧
  ρ.look "cells" = some ⟨.list (nums cells), false⟩

set_option maxHeartbeats 4000000 in
theorem header_ex {D : Wd} {A : Around} {fd : FuncData} {L fa : Addr} {stk : List Env} {H1 : Heap} {args : List Addr} (O : (mkAct D A fd L fa stk H1 args 2).Ok) (hfd : fd.scope = defScope (S1 8)) (E : Value → Shared → Prop)
    {cells : List Int} (hn : cells.length = 19) (hg1 : D.mg "range" = none)
    (hgap : ∀ (xs : List Stp) (l : List Nat) (s : Say), xs.length + l.length ≤ 1000 → FnIO D 0 "_law_gap" (dats xs) [.str (T l), s.dat] fun d xs' => d = .none ∧ xs' = dats (xs ++ gapL l s))
    (hitem : ∀ (xs : List Stp) (ns : List Int), ns.length = 6 → xs.length ≤ 500 → FnIO D 1 "_law_item" (dats xs) [.list (nums ns)] fun d xs' => d = (pairSay (itemKey ns) (itemRaw ns)).dat ∧ xs' = dats (xs ++ itemL ns)) :
    Ex (mkAct D A fd L fa stk H1 args 2) E (slots ["cells"] [.list (nums cells)]) (defBody (S1 8)) (fun _ => False) (fun _ d => d = .list (dats (headerL cells))) (fun _ => False) := by
  obtain ⟨name, qualname, params, body, scope, globals, closure, dv, kv, doc, pm, an, cd, ct, bt⟩ := fd
  dsimp only at hfd
  subst hfd
  obtain ⟨c0, hc0⟩ : ∃ c0, cells[0]? = some c0 := ⟨cells[0], by simp [hn]⟩
  have g0 : (nums cells)[0]? = some (.int c0) := by rw [nums_get, hc0]; rfl
  obtain ⟨r0, hr0, e0⟩ := fmod_nat (c0.fdiv 3) 4 (by decide)
  obtain ⟨r1, hr1, e1⟩ := fmod_nat c0 3 (by decide)
  have e0' : (c0.fdiv 3).fmod 4 = (r0 : Int) := e0
  have e1' : c0.fmod 3 = (r1 : Int) := e1
  have hall : headerL cells = gapL (headGap r0) sayNone ++ partsL cells 0 (r1 + 1) := by
    unfold headerL; rw [hc0]; show gapL (headGap ((c0.fdiv 3).fmod 4).toNat) sayNone ++ partsL cells 0 ((c0.fmod 3).toNat + 1) = _; rw [e0', e1']; rfl
  have fg := fun (xs : List Stp) (l : List Nat) (s : Say) (h : xs.length + l.length ≤ 1000) => hgap xs l s h
  refine Ex.cons (Ex1.assign O true (Ev.list O (EvL.nil ⟨by decide, by decide, by decide, fun _ => ⟨rfl, rfl, rfl⟩, ?_⟩)))
  refine Ex.cons (Ex1.callIO (k := 0) O (xs := dats []) (by ((repeat' (first | exact Mine.Ro.set_get _ _ _ | refine Mine.Ro.set_other (by decide) ?_ | assumption | rfl)); done)) rfl (EvL.cons O (Ev.item O ?_)) (by obtain ⟨fa, h, _⟩ := hgap [] [] sayNone (by decide); exact ⟨fa, h⟩) (hk := Nat.le_of_ble_eq_true rfl))
  (repeat (first | refine Mine.Ev.str ?_ | refine Mine.Ev.int ?_ | refine Mine.Ev.bool ?_ | refine Mine.Ev.name (by assumption) (by ((repeat' (first | exact Mine.Ro.set_get _ _ _ | refine Mine.Ro.set_other (by decide) ?_ | assumption | rfl)); done)) ?_ | refine Mine.Ev.neg (by assumption) ?_ | refine Mine.EvL.nil ?_ | refine Mine.EvL.cons (by assumption) ?_ | refine Mine.Ev.tuple (by assumption) ?_ | refine Mine.Ev.list (by assumption) ?_ | refine Mine.Ev.dict0 (by assumption) ?_ | refine Mine.Ev.binop (by assumption) ?_ | refine Mine.Ev.cmp (by assumption) ?_ | refine Mine.EvT.cmp (by assumption) ?_ | refine Mine.EvT.not ?_ | refine Mine.EvT.bool ?_ | refine Mine.Ev.boolOp (by assumption) ?_ | refine Mine.Ev.slice (by assumption) ?_ | refine Mine.Ev.item (by assumption) ?_ | refine Mine.Ev.strip (by assumption) ?_ | refine Mine.Ev.rstrip (by assumption) ?_ | refine Mine.Ev.join (by assumption) ?_ | refine Mine.Ev.split (by assumption) ?_ | refine Mine.Ev.ifExp ?_ | refine Mine.EvT.val (by assumption) ?_))
  refine ⟨by decide, by decide, fun q => absurd q (by decide), Ev.binop O (Ev.binop O (Ev.nameItem (k := 0) O (by ((repeat' (first | exact Mine.Ro.set_get _ _ _ | refine Mine.Ro.set_other (by decide) ?_ | assumption | rfl)); done)) g0 (by decide) (Ev.int ⟨by decide, Ev.int ⟨by decide, ?_⟩⟩)))⟩
  rw [e0']
  refine ItemOk.list (k := r0) (list4 hr0 (fun r => .str (T (headGap r))) rfl rfl rfl rfl) (by omega) (EvL.cons O (Ev.tuple O ?_))
  ((repeat (first | refine Mine.Ev.str ?_ | refine Mine.Ev.int ?_ | refine Mine.Ev.bool ?_ | refine Mine.Ev.name (by assumption) (by ((repeat' (first | exact Mine.Ro.set_get _ _ _ | refine Mine.Ro.set_other (by decide) ?_ | assumption | rfl)); done)) ?_ | refine Mine.Ev.neg (by assumption) ?_ | refine Mine.EvL.nil ?_ | refine Mine.EvL.cons (by assumption) ?_ | refine Mine.Ev.tuple (by assumption) ?_ | refine Mine.Ev.list (by assumption) ?_ | refine Mine.Ev.dict0 (by assumption) ?_ | refine Mine.Ev.binop (by assumption) ?_ | refine Mine.Ev.cmp (by assumption) ?_ | refine Mine.EvT.cmp (by assumption) ?_ | refine Mine.EvT.not ?_ | refine Mine.EvT.bool ?_ | refine Mine.Ev.boolOp (by assumption) ?_ | refine Mine.Ev.slice (by assumption) ?_ | refine Mine.Ev.item (by assumption) ?_ | refine Mine.Ev.strip (by assumption) ?_ | refine Mine.Ev.rstrip (by assumption) ?_ | refine Mine.Ev.join (by assumption) ?_ | refine Mine.Ev.split (by assumption) ?_ | refine Mine.Ev.ifExp ?_ | refine Mine.EvT.val (by assumption) ?_)); refine ⟨by decide, (by first | decide | (simp only [List.length_cons, List.length_nil]; exact Nat.le_trans (by omega) (show 10 ≤ PySem.sizeLine by decide))), ?_⟩; (repeat (first | refine Mine.Ev.str ?_ | refine Mine.Ev.int ?_ | refine Mine.Ev.bool ?_ | refine Mine.Ev.name (by assumption) (by ((repeat' (first | exact Mine.Ro.set_get _ _ _ | refine Mine.Ro.set_other (by decide) ?_ | assumption | rfl)); done)) ?_ | refine Mine.Ev.neg (by assumption) ?_ | refine Mine.EvL.nil ?_ | refine Mine.EvL.cons (by assumption) ?_ | refine Mine.Ev.tuple (by assumption) ?_ | refine Mine.Ev.list (by assumption) ?_ | refine Mine.Ev.dict0 (by assumption) ?_ | refine Mine.Ev.binop (by assumption) ?_ | refine Mine.Ev.cmp (by assumption) ?_ | refine Mine.EvT.cmp (by assumption) ?_ | refine Mine.EvT.not ?_ | refine Mine.EvT.bool ?_ | refine Mine.Ev.boolOp (by assumption) ?_ | refine Mine.Ev.slice (by assumption) ?_ | refine Mine.Ev.item (by assumption) ?_ | refine Mine.Ev.strip (by assumption) ?_ | refine Mine.Ev.rstrip (by assumption) ?_ | refine Mine.Ev.join (by assumption) ?_ | refine Mine.Ev.split (by assumption) ?_ | refine Mine.Ev.ifExp ?_ | refine Mine.EvT.val (by assumption) ?_)))
  have hg0 := headGap_length r0
  refine ⟨by decide, _, hgap [] (headGap r0) sayNone (by simp; omega), fun d xs' p => ⟨p.1, ?_⟩⟩
  obtain ⟨_, rfl⟩ := p
  rw [List.nil_append]
  refine Ex.cons (Ex1.forRange O (KJ cells (r1 + 1) (headerL cells)) (fun y rest ρ' hJ => ?_) (fun ρ' hJ => ?_) ?_ hg1)
  · obtain ⟨j, k, done, hjk, e, r1', ha, hlen, k1⟩ := hJ
    cases k with
    | zero => cases e
    | succ k =>
    rw [List.range'_succ, List.map_cons] at e
    obtain ⟨rfl, rfl⟩ := List.cons.inj e
    have hj : j ≤ 2 := by omega
    have hown := ownOf_length hn hj
    refine Ex.cons (Ex1.assign O false (Ev.slice O (Ev.name (d := .list (nums cells)) (o := false) O (by ((repeat' (first | exact Mine.Ro.set_get _ _ _ | refine Mine.Ro.set_other (by decide) ?_ | assumption | rfl)); done)) ?_)))
    refine Ev.binop O (Ev.binop O (Ev.int (Ev.name (d := .int (j : Int)) (o := false) O (by ((repeat' (first | exact Mine.Ro.set_get _ _ _ | refine Mine.Ro.set_other (by decide) ?_ | assumption | rfl)); done)) ⟨IntMulOk.of_left (by decide), Ev.int ⟨_, rfl, ?_⟩⟩)))
    refine Ev.binop O (Ev.binop O (Ev.int (Ev.name (d := .int (j : Int)) (o := false) O (by ((repeat' (first | exact Mine.Ro.set_get _ _ _ | refine Mine.Ro.set_other (by decide) ?_ | assumption | rfl)); done)) ⟨IntMulOk.of_left (by decide), Ev.int ⟨_, rfl, ?_⟩⟩)))
    refine ⟨by rw [nums_length, hn]; exact size_small (by decide), by decide, nofun, ?_⟩
    have eo : pySl (nums cells) (some (6 * (j : Int) + 1)) (some (6 * (j : Int) + 7)) = nums (ownOf cells j) := by
      rw [nums_pySl]; unfold ownOf; congr 2 <;> (congr 1)
    rw [eo]
    have hpart : partsL cells j (k + 1) = partL (ownOf cells j) ++ partsL cells (j + 1) k := rfl
    rw [hpart] at ha
    unfold partL at ha
    generalize ownOf cells j = own at *
    have hil := itemL_length hown
    obtain ⟨c5, hc5⟩ : ∃ c5, own[5]? = some c5 := ⟨own[5], by simp [hown]⟩
    have g5 : (nums own)[5]? = some (.int c5) := by rw [nums_get, hc5]; rfl
    obtain ⟨r5, hr5, e5⟩ := fmod_nat c5 5 (by decide)
    have e5' : c5.fmod 5 = (r5 : Int) := e5
    have hta : (tailGap ((own[5]?.getD 0).fmod 5).toNat) = tailGap r5 := by rw [hc5]; show tailGap (c5.fmod 5).toNat = _; rw [e5']; rfl
    rw [hta] at ha
    have htl := tailGap_length r5
    refine Ex.cons (Ex1.assignIO (k := 1) O (xs := dats done) (by ((repeat' (first | exact Mine.Ro.set_get _ _ _ | refine Mine.Ro.set_other (by decide) ?_ | assumption | rfl)); done)) (dats_atoms _) (EvL.cons O (Ev.name (d := .list (nums own)) (o := false) O (by ((repeat' (first | exact Mine.Ro.set_get _ _ _ | refine Mine.Ro.set_other (by decide) ?_ | assumption | rfl)); done)) (EvL.nil ⟨by decide, _, hitem done own hown (by omega), fun d xs' p => ?_⟩))) (by obtain ⟨fa, h, _⟩ := hitem [] own hown (by decide); exact ⟨fa, h⟩) (hk := Nat.le_of_ble_eq_true rfl))
    obtain ⟨rfl, rfl⟩ := p
    refine Ex.cons (Ex1.callIO (k := 0) O (xs := dats (done ++ itemL own)) (by ((repeat' (first | exact Mine.Ro.set_get _ _ _ | refine Mine.Ro.set_other (by decide) ?_ | assumption | rfl)); done)) (dats_atoms _) (EvL.cons O (Ev.item O ?_)) (by obtain ⟨fa, h, _⟩ := hgap [] [] sayNone (by decide); exact ⟨fa, h⟩) (hk := Nat.le_of_ble_eq_true rfl))
    (repeat (first | refine Mine.Ev.str ?_ | refine Mine.Ev.int ?_ | refine Mine.Ev.bool ?_ | refine Mine.Ev.name (by assumption) (by ((repeat' (first | exact Mine.Ro.set_get _ _ _ | refine Mine.Ro.set_other (by decide) ?_ | assumption | rfl)); done)) ?_ | refine Mine.Ev.neg (by assumption) ?_ | refine Mine.EvL.nil ?_ | refine Mine.EvL.cons (by assumption) ?_ | refine Mine.Ev.tuple (by assumption) ?_ | refine Mine.Ev.list (by assumption) ?_ | refine Mine.Ev.dict0 (by assumption) ?_ | refine Mine.Ev.binop (by assumption) ?_ | refine Mine.Ev.cmp (by assumption) ?_ | refine Mine.EvT.cmp (by assumption) ?_ | refine Mine.EvT.not ?_ | refine Mine.EvT.bool ?_ | refine Mine.Ev.boolOp (by assumption) ?_ | refine Mine.Ev.slice (by assumption) ?_ | refine Mine.Ev.item (by assumption) ?_ | refine Mine.Ev.strip (by assumption) ?_ | refine Mine.Ev.rstrip (by assumption) ?_ | refine Mine.Ev.join (by assumption) ?_ | refine Mine.Ev.split (by assumption) ?_ | refine Mine.Ev.ifExp ?_ | refine Mine.EvT.val (by assumption) ?_))
    refine ⟨by decide, by decide, fun q => absurd q (by decide), Ev.binop O (Ev.nameItem (k := 5) O (by ((repeat' (first | exact Mine.Ro.set_get _ _ _ | refine Mine.Ro.set_other (by decide) ?_ | assumption | rfl)); done)) g5 (by decide) (Ev.int ⟨by decide, ?_⟩))⟩
    rw [e5']
    refine ItemOk.list (k := r5) (list5 hr5 (fun r => .str (T (tailGap r))) rfl rfl rfl rfl rfl) (by omega) (EvL.cons O (Ev.name (d := (pairSay (itemKey own) (itemRaw own)).dat) (o := false) O (by ((repeat' (first | exact Mine.Ro.set_get _ _ _ | refine Mine.Ro.set_other (by decide) ?_ | assumption | rfl)); done)) ?_))
    refine EvL.nil ⟨by decide, _, hgap (done ++ itemL own) (tailGap r5) (pairSay (itemKey own) (itemRaw own)) (by simp; omega), fun d xs' p => ⟨p.1, ?_⟩⟩
    obtain ⟨_, rfl⟩ := p
    refine Ex.nil ⟨j + 1, k, _, by omega, rfl, Ro.set_get _ _ _, by rw [← ha]; simp, ?_, by ((repeat' (first | exact Mine.Ro.set_get _ _ _ | refine Mine.Ro.set_other (by decide) ?_ | assumption | rfl)); done)⟩
    simp [gapL_length]; omega
  · obtain ⟨j, k, done, hjk, e, r1', ha, hlen, k1⟩ := hJ
    obtain rfl : k = 0 := by cases k with | zero => rfl | succ _ => cases e
    have ha : done = headerL cells := by rw [← ha]; simp [partsL]
    subst ha
    refine Ex.cons (Ex1.ret O (Ev.name (d := .list (dats (headerL cells))) (o := true) O r1' rfl))
  · refine Ev.binop O (Ev.binop O (Ev.nameItem (k := 0) O (by ((repeat' (first | exact Mine.Ro.set_get _ _ _ | refine Mine.Ro.set_other (by decide) ?_ | assumption | rfl)); done)) g0 (by decide) (Ev.int ⟨by decide, Ev.int ⟨_, rfl, ?_⟩⟩)))
    rw [e1']
    refine ⟨by omega, by omega, 0, r1 + 1, gapL (headGap r0) sayNone, by omega, ?_, by ((repeat' (first | exact Mine.Ro.set_get _ _ _ | refine Mine.Ro.set_other (by decide) ?_ | assumption | rfl)); done), by rw [hall], by rw [gapL_length]; omega, by ((repeat' (first | exact Mine.Ro.set_get _ _ _ | refine Mine.Ro.set_other (by decide) ?_ | assumption | rfl)); done)⟩
    unfold upto; rw [List.range_eq_range', show ((r1 : Int) + 1).toNat = r1 + 1 by omega]
end Mine
end

section
open PySem PySem.W PySem.Calls PyProof.Rows
set_option maxRecDepth 100000
set_option autoImplicit false
set_option linter.unusedVariables false
namespace Mine

/-- what is read, as a datum -/
def KR.dat : KR → PyData
  | .val ps => .list (ps.map fun p => .tuple [.str p.1, .str p.2])
  | .err c => .str (Str.ofString c)

def toldL (strict : Bool) : List (Str × Str) → List Say → KR
  | ps, [] => .val ps
  | ps, s :: ss => if s.k = "pair" then toldL strict (dput ps (T s.key) (T s.val)) ss
    else if s.k = "bald" then .err "IndexError" else if s.k = "word" ∨ strict = true then .err "ValueError" else toldL strict ps ss
def sayDats (l : List Say) : List PyData := l.map Say.dat

theorem read_ex {D : Wd} {A : Around} {fd : FuncData} {L fa : Addr} {stk : List Env} {H1 : Heap} {args : List Addr} (O : (mkAct D A fd L fa stk H1 args 1).Ok) (hfd : fd.scope = defScope (S1 9)) (E : Value → Shared → Prop)
    {xs : List (List Nat)} (hlen : ∀ ps, keqv [] xs = .val ps → ps.length ≤ 1000) (herr : ∀ c, keqv [] xs = .err c → c = "ValueError" ∨ c = "IndexError") (hg1 : D.mg "list" = none) (hg2 : D.mg "ValueError" = none) (hg3 : D.mg "IndexError" = none)
    (hk : FnR D 0 "parse_keqv_list" [.list (texts xs)] (fun d => ∃ ps, keqv [] xs = .val ps ∧ d = .dict (ps.map sPair)) (fun c => keqv [] xs = .err c)) :
    Ex (mkAct D A fd L fa stk H1 args 1) E (slots ["items"] [.list (texts xs)]) (defBody (S1 9)) (fun _ => False) (fun _ d => d = (keqv [] xs).dat) (fun _ => False) := by
  obtain ⟨name, qualname, params, body, scope, globals, closure, dv, kv, doc, pm, an, cd, ct, bt⟩ := fd
  dsimp only at hfd
  subst hfd
  refine Ex.cons (Ex1.tryRead (k := 0) (outer := stk) O rfl rfl (fun E' => Ev.name (d := .list (texts xs)) (o := false) O (by ((repeat' (first | exact Mine.Ro.set_get _ _ _ | refine Mine.Ro.set_other (by decide) ?_ | assumption | rfl)); done)) ⟨by decide, _, ?_, fun d' hd' => hd'⟩) (by obtain ⟨fa, h, _⟩ := hk; exact ⟨fa, h⟩) hg1 hg2 hg3)
  obtain ⟨fa', hf, hk⟩ := hk
  refine ⟨fa', hf, fun A stk E s vs as Q C kp ff rd has K KE => hk A stk E s vs as Q C kp ff rd has (fun v d as' h tk q1 q2 q3 q4 ⟨ps, q5, q6⟩ => K v d as' h tk q1 q2 q3 q4 ⟨ps, q6, size_small (Nat.le_trans (hlen ps q5) (by decide)), by rw [q5]; rfl⟩)
    fun e c a0 h tk hc => KE e c a0 h tk ⟨herr c hc, by rw [hc]; rfl⟩⟩

def LJ (strict : Bool) (all : KR) (rest : List PyData) (ρ : Ro) : Prop := ∃ (ss : List Say) (ps : List (Str × Str)), rest = sayDats ss ∧ ρ.look "told" = some ⟨.dict (ps.map sPair), true⟩ ∧ ρ.look "strict" = some ⟨.bool strict, false⟩ ∧ toldL strict ps ss = all ∧ ps.length + ss.length ≤ 1000

theorem told_ex {D : Wd} {A : Around} {fd : FuncData} {L fa : Addr} {stk : List Env} {H1 : Heap} {args : List Addr} (O : (mkAct D A fd L fa stk H1 args 0).Ok) (hfd : fd.scope = defScope (S1 10)) (E : Value → Shared → Prop)
    {ss : List Say} {strict : Bool} (hss : ss.length ≤ 1000) (hg1 : D.mg "list" = none) :
    Ex (mkAct D A fd L fa stk H1 args 0) E (slots ["sayings", "strict"] [.list (sayDats ss), .bool strict]) (defBody (S1 10)) (fun _ => False) (fun _ d => d = (toldL strict [] ss).dat) (fun _ => False) := by
  obtain ⟨name, qualname, params, body, scope, globals, closure, dv, kv, doc, pm, an, cd, ct, bt⟩ := fd
  dsimp only at hfd
  subst hfd
  refine Ex.cons (Ex1.assign O true (Ev.dict0 O ⟨by decide, fun _ => ⟨rfl, rfl, rfl⟩, ?_⟩))
  refine Ex.cons (Ex1.forIn O (LJ strict (toldL strict [] ss)) (fun x rest ρ' hJ => ?_) (fun ρ' hJ => ?_) ?_)
  · obtain ⟨ss', ps, e, r1, r2, ha, hlen⟩ := hJ
    cases ss' with
    | nil => cases e
    | cons s ss' =>
    obtain ⟨rfl, rfl⟩ := List.cons.inj (show x :: rest = s.dat :: sayDats ss' from e)
    simp only [List.length_cons] at hlen
    refine Asg.tuple (xs := ["kind", "key", "value"]) O ?_ rfl rfl ?_
    · refine Ex.cons (Ex1.ifB (decide (s.k = "pair")) (EvT.eqStr O (x := s.k) (y := "pair") (Ev.name O (by ((repeat' (first | exact Mine.Ro.set_get _ _ _ | refine Mine.Ro.set_other (by decide) ?_ | assumption | rfl)); done)) rfl) (Ev.str rfl)) (fun hp => ?_) fun hp => ?_)
      · have hp : s.k = "pair" := by simpa using hp
        refine Ex.cons (Ex1.setItem O (by ((repeat' (first | exact Mine.Ro.set_get _ _ _ | refine Mine.Ro.set_other (by decide) ?_ | assumption | rfl)); done)) (Ev.name (d := .str (T s.val)) (o := false) O (by ((repeat' (first | exact Mine.Ro.set_get _ _ _ | refine Mine.Ro.set_other (by decide) ?_ | assumption | rfl)); done)) ⟨_, rfl, Ev.name (d := .str (T s.key)) (o := false) O (by ((repeat' (first | exact Mine.Ro.set_get _ _ _ | refine Mine.Ro.set_other (by decide) ?_ | assumption | rfl)); done)) ⟨_, rfl, size_small (by omega), ?_⟩⟩))
        refine Ex.nil (Ex.nil ⟨ss', _, rfl, Ro.set_get _ _ _, by ((repeat' (first | exact Mine.Ro.set_get _ _ _ | refine Mine.Ro.set_other (by decide) ?_ | assumption | rfl)); done), by rw [← ha, toldL, if_pos hp], ?_⟩)
        have := dput_length ps (T s.key) (T s.val); omega
      · have hp : ¬ s.k = "pair" := by simpa using hp
        refine Ex.cons (Ex1.ifB (decide (s.k = "bald")) (EvT.eqStr O (x := s.k) (y := "bald") (Ev.name O (by ((repeat' (first | exact Mine.Ro.set_get _ _ _ | refine Mine.Ro.set_other (by decide) ?_ | assumption | rfl)); done)) rfl) (Ev.str rfl)) (fun hb => ?_) fun hb => ?_)
        · have hb : s.k = "bald" := by simpa using hb
          exact Ex.cons (Ex1.ret O (Ev.str (by rw [← ha, toldL, if_neg hp, if_pos hb]; rfl)))
        · have hb : ¬ s.k = "bald" := by simpa using hb
          refine Ex.cons (Ex1.ifB (decide (s.k = "word") || (strict || false)) (EvT.bool (AllT.or (EvT.eqStr O (x := s.k) (y := "word") (Ev.name O (by ((repeat' (first | exact Mine.Ro.set_get _ _ _ | refine Mine.Ro.set_other (by decide) ?_ | assumption | rfl)); done)) rfl) (Ev.str rfl)) fun _ => AllT.or (EvT.val O (Ev.name (d := .bool strict) (o := false) O (by ((repeat' (first | exact Mine.Ro.set_get _ _ _ | refine Mine.Ro.set_other (by decide) ?_ | assumption | rfl)); done)) rfl)) fun _ => rfl)) (fun hw => ?_) fun hw => ?_)
          · have hw : s.k = "word" ∨ strict = true := by simpa using hw
            exact Ex.cons (Ex1.ret O (Ev.str (by rw [← ha, toldL, if_neg hp, if_neg hb, if_pos hw]; rfl)))
          · have hw : ¬ (s.k = "word" ∨ strict = true) := by simpa using hw
            exact Ex.nil (Ex.nil (Ex.nil (Ex.nil ⟨ss', ps, rfl, by ((repeat' (first | exact Mine.Ro.set_get _ _ _ | refine Mine.Ro.set_other (by decide) ?_ | assumption | rfl)); done), by ((repeat' (first | exact Mine.Ro.set_get _ _ _ | refine Mine.Ro.set_other (by decide) ?_ | assumption | rfl)); done), by rw [← ha, toldL, if_neg hp, if_neg hb, if_neg hw], by omega⟩)))
    · intro z hz
      simp only [List.mem_cons, List.not_mem_nil, or_false] at hz
      rcases hz with rfl | rfl | rfl <;> exact ⟨rfl, nofun⟩
  · obtain ⟨ss', ps, e, r1, r2, ha, hlen⟩ := hJ
    obtain rfl : ss' = [] := by cases ss' with | nil => rfl | cons _ _ => cases e
    refine Ex.cons (Ex1.ret O (Ev.listItems O (Ev.name (d := .dict (ps.map sPair)) (o := true) O r1 ⟨ps, rfl, size_small (by omega), ?_⟩) hg1))
    rw [← ha]; rfl
  · refine Ev.name (d := .list (sayDats ss)) (o := false) O (by ((repeat' (first | exact Mine.Ro.set_get _ _ _ | refine Mine.Ro.set_other (by decide) ?_ | assumption | rfl)); done)) ⟨by decide, .inr ⟨⟨_, _, _, rfl⟩, fun d hd => ?_⟩, ss, [], rfl, by ((repeat' (first | exact Mine.Ro.set_get _ _ _ | refine Mine.Ro.set_other (by decide) ?_ | assumption | rfl)); done), by ((repeat' (first | exact Mine.Ro.set_get _ _ _ | refine Mine.Ro.set_other (by decide) ?_ | assumption | rfl)); done), rfl, by simpa using hss⟩
    obtain ⟨s, _, rfl⟩ := List.mem_map.mp hd
    exact ⟨_, rfl⟩
end Mine
end

section
open PySem PySem.W PySem.Calls PyProof.Rows
set_option maxRecDepth 100000
set_option autoImplicit false
set_option linter.unusedVariables false
namespace Mine

/-! what the parser gives stays within its text -/
structure PInv (n : Nat) (S : List Nat) (st : PS) : Prop where
  part : st.part.length ≤ n
  res : st.res.length ≤ n
  each : ∀ r ∈ st.res, r.length ≤ n ∧ ∀ c ∈ r, c ∈ S
  codes : ∀ c ∈ st.part, c ∈ S
theorem PInv.step {n : Nat} {S : List Nat} {st : PS} {c : Nat} (h : PInv n S st) (hc : c ∈ S) : PInv (n + 1) S (pstep st c) := by
  obtain ⟨h1, h2, h3, h4⟩ := h
  have each' : ∀ r ∈ st.res, r.length ≤ n + 1 ∧ ∀ c ∈ r, c ∈ S := fun r hr => ⟨Nat.le_succ_of_le (h3 r hr).1, (h3 r hr).2⟩
  have add : ∀ c' ∈ st.part ++ [c], c' ∈ S := fun c' hc' => by
    rcases List.mem_append.mp hc' with q | q
    · exact h4 c' q
    · rw [List.mem_singleton.mp q]; exact hc
  have plus : PInv (n + 1) S { st with part := st.part ++ [c] } := ⟨by simp; omega, by simp; omega, each', add⟩
  unfold pstep
  split
  · exact ⟨plus.part, plus.res, plus.each, plus.codes⟩
  · split
    · split
      · exact ⟨by simp; omega, by simp; omega, each', h4⟩
      · split
        · exact ⟨plus.part, plus.res, plus.each, plus.codes⟩
        · exact plus
    · split
      · refine ⟨by simp, by simp; omega, fun r hr => ?_, fun c hc => nomatch hc⟩
        rcases List.mem_append.mp hr with q | q
        · exact each' r q
        · rw [List.mem_singleton.mp q]; exact ⟨by omega, h4⟩
      · split
        · exact ⟨plus.part, plus.res, plus.each, plus.codes⟩
        · exact plus
theorem PInv.run {S : List Nat} : ∀ (l : List Nat) {n : Nat} {st : PS}, PInv n S st → (∀ c ∈ l, c ∈ S) → PInv (n + l.length) S (l.foldl pstep st)
  | [], _, _, h, _ => h
  | c :: l, n, st, h, hl => by
    have := PInv.run l (h.step (hl c (.head _))) fun c' hc' => hl c' (.tail _ hc')
    rw [List.foldl_cons, List.length_cons, show n + (l.length + 1) = n + 1 + l.length by omega]
    exact this
theorem stripL_mem {l : List Nat} {c : Nat} (h : c ∈ stripL l) : c ∈ l := by
  unfold stripL rstripL at h
  rw [List.mem_reverse] at h
  have h1 := (List.dropWhile_sublist sp).subset h
  rw [List.mem_reverse] at h1
  exact (List.dropWhile_sublist sp).subset h1
theorem httpL_bound {l : List Nat} (hl : l.length ≤ 500) : (∀ x ∈ httpL l, x.length ≤ 500 ∧ ∀ c ∈ x, c ∈ l) ∧ (httpL l).length ≤ 501 := by
  have h := PInv.run (S := l) l (n := 0) (st := ⟨[], [], false, false⟩) ⟨by simp, by simp, by simp, by simp⟩ fun c hc => hc
  obtain ⟨h1, h2, h3, h4⟩ := h
  unfold httpL pend
  refine ⟨fun x hx => ?_, ?_⟩
  · obtain ⟨y, hy, rfl⟩ := List.mem_map.mp hx
    have hs := stripL_length y
    have key : y.length ≤ 0 + l.length ∧ ∀ c ∈ y, c ∈ l := by
      split at hy
      · exact h3 y hy
      · rcases List.mem_append.mp hy with q | q
        · exact h3 y q
        · rw [List.mem_singleton.mp q]; exact ⟨h1, h4⟩
    exact ⟨by omega, fun c hc => key.2 c (stripL_mem hc)⟩
  · rw [List.length_map]; split
    · omega
    · simp; omega

/-! sound code points -/
def Cp (l : List Nat) : Prop := ∀ c ∈ l, c < 0x110000
def CpStr (x : Str) : Prop := PyData.strOk x = true
theorem CpStr.of {l : List Nat} (h : Cp l) : CpStr (T l) := by
  unfold CpStr PyData.strOk
  rw [Array.all_eq_true]
  intro i hi
  simp only [decide_eq_true_eq]
  exact h _ (by simp)
def PsOk (ps : List (Str × Str)) : Prop := ∀ p ∈ ps, CpStr p.1 ∧ CpStr p.2
theorem PsOk.put {ps : List (Str × Str)} {k y : Str} (h : PsOk ps) (hk : CpStr k) (hy : CpStr y) : PsOk (dput ps k y) := by
  intro p hp
  unfold dput at hp
  split at hp
  · obtain ⟨q, hq, rfl⟩ := List.mem_map.mp hp
    split
    · exact ⟨(h q hq).1, hy⟩
    · exact h q hq
  · rcases List.mem_append.mp hp with q | q
    · exact h p q
    · rw [List.mem_singleton.mp q]; exact ⟨hk, hy⟩
theorem pySl_mem {l : List Nat} {lo hi : Option Int} {c : Nat} (h : c ∈ pySl l lo hi) : c ∈ l := by
  unfold pySl at h; exact List.mem_of_mem_drop (List.mem_of_mem_take h)
theorem unq_mem {l : List Nat} {c : Nat} (h : c ∈ unq l) : c ∈ l := by
  unfold unq at h
  split at h
  · exact pySl_mem h
  · exact h
theorem cutAt_mem {c0 : Nat} {l k v : List Nat} (h : cutAt c0 l = [k, v]) : (∀ c ∈ k, c ∈ l) ∧ ∀ c ∈ v, c ∈ l := by
  unfold cutAt at h
  split at h
  · simp only [List.cons.injEq, and_true] at h
    obtain ⟨rfl, rfl⟩ := h
    exact ⟨fun c hc => (List.takeWhile_sublist _).subset hc, fun c hc => (List.dropWhile_sublist _).subset (List.mem_of_mem_drop hc)⟩
  · cases h
theorem keqv_ok : ∀ (xs : List (List Nat)) {ps ps' : List (Str × Str)}, (∀ x ∈ xs, Cp x) → PsOk ps → keqv ps xs = .val ps' → PsOk ps' ∧ ps'.length ≤ ps.length + xs.length
  | [], ps, ps', _, h, e => by cases e; exact ⟨h, by simp⟩
  | x :: xs, ps, ps', hx, h, e => by
    rw [keqv] at e
    have hxx := hx x (.head _)
    cases q : keqv1 ps x with
    | err c => rw [q] at e; cases e
    | val ps1 =>
      rw [q] at e
      unfold keqv1 at q
      rcases cutAt_cases 61 x with hc | ⟨k, v, hc, _, _⟩
      · rw [hc] at q; cases q
      · rw [hc] at q
        simp only at q
        split at q
        · cases q
        · cases q
          have hm := cutAt_mem hc
          have r := keqv_ok xs (fun y hy => hx y (.tail _ hy)) (h.put (CpStr.of fun c hc => hxx c (hm.1 c hc)) (CpStr.of fun c hc => hxx c (hm.2 c (unq_mem hc)))) e
          refine ⟨r.1, ?_⟩
          have := dput_length ps (T k) (T (unq v))
          have := r.2
          simp only [List.length_cons]; omega
theorem keqv_err : ∀ (xs : List (List Nat)) {ps : List (Str × Str)} {c : String}, keqv ps xs = .err c → c = "ValueError" ∨ c = "IndexError"
  | [], ps, c, e => by cases e
  | x :: xs, ps, c, e => by
    rw [keqv] at e
    cases q : keqv1 ps x with
    | val ps1 => rw [q] at e; exact keqv_err xs e
    | err c' =>
      rw [q] at e; cases e
      unfold keqv1 at q
      rcases cutAt_cases 61 x with hc | ⟨k, v, hc, _, _⟩
      · rw [hc] at q; cases q; exact .inl rfl
      · rw [hc] at q
        simp only at q
        split at q
        · cases q; exact .inr rfl
        · cases q

/-! comparing -/
open SeqAt in
theorem shaped_texts {xs : List (List Nat)} (h : ∀ x ∈ xs, Cp x) : shaped (.list (texts xs)) = true := by
  have key : ∀ xs : List (List Nat), (∀ x ∈ xs, Cp x) → PyData.canLayAll0 (texts xs) = true ∧ PyData.depthAll (texts xs) = 0 := by
    intro xs
    induction xs with
    | nil => intro _; exact ⟨rfl, rfl⟩
    | cons x xs ih =>
      intro h
      obtain ⟨i1, i2⟩ := ih fun y hy => h y (.tail _ hy)
      have h0 : PyData.strOk (T x) = true := CpStr.of (h x (.head _))
      have e : texts (x :: xs) = .str (T x) :: texts xs := rfl
      rw [e]
      exact ⟨by simp [PyData.canLayAll0, PyData.canLay0, h0, i1], by simp [PyData.depthAll, PyData.depth, i2]⟩
  obtain ⟨k1, k2⟩ := key xs h
  unfold shaped
  simp [PyData.canLay0, PyData.depth, k1, k2]
open SeqAt in
theorem shaped_pairs {ps : List (Str × Str)} (h : PsOk ps) : shaped (.list (ps.map fun p => .tuple [.str p.1, .str p.2])) = true := by
  have key : ∀ ps : List (Str × Str), PsOk ps → PyData.canLayAll0 (ps.map fun p => .tuple [.str p.1, .str p.2]) = true ∧ PyData.depthAll (ps.map fun p => .tuple [.str p.1, .str p.2]) ≤ 1 := by
    intro ps
    induction ps with
    | nil => intro _; exact ⟨rfl, by decide⟩
    | cons p ps ih =>
      intro h
      obtain ⟨i1, i2⟩ := ih fun q hq => h q (.tail _ hq)
      obtain ⟨h1, h2⟩ := h p (.head _)
      have h1' : PyData.strOk p.1 = true := h1
      have h2' : PyData.strOk p.2 = true := h2
      rw [List.map_cons]
      refine ⟨by simp [PyData.canLayAll0, PyData.canLay0, h1', h2', i1], ?_⟩
      simp only [PyData.depthAll, PyData.depth]
      omega
  obtain ⟨k1, k2⟩ := key ps h
  unfold shaped
  simp only [PyData.canLay0, PyData.depth, k1, Bool.true_and]
  exact decide_eq_true (by omega)
mutual
theorem eqv_self : ∀ d : PyData, PyData.canLay0 d = true → PyData.eqv d d = true
  | .none, _ => by simp [PyData.eqv]
  | .bool _, _ => by simp [PyData.eqv]
  | .int _, _ => by simp [PyData.eqv]
  | .str _, _ => by simp [PyData.eqv]
  | .list xs, h => by simp only [PyData.eqv]; exact eqvAll_self xs (by simpa [PyData.canLay0] using h)
  | .tuple xs, h => by simp only [PyData.eqv]; exact eqvAll_self xs (by simpa [PyData.canLay0] using h)
  | .dict _, h => by simp [PyData.canLay0] at h
theorem eqvAll_self : ∀ ds : List PyData, PyData.canLayAll0 ds = true → PyData.eqvAll ds ds = true
  | [], _ => by simp [PyData.eqvAll]
  | d :: ds, h => by
    simp only [PyData.canLayAll0, Bool.and_eq_true] at h
    simp only [PyData.eqvAll, Bool.and_eq_true]
    exact ⟨eqv_self d h.1, eqvAll_self ds h.2⟩
end
theorem EqOk.list {xs : List PyData} {P : Bool → Prop} (h : SeqAt.shaped (.list xs) = true) (p : P true) : EqOk (.list xs) (.list xs) P :=
  ⟨h, h, by rw [eqv_self _ (SeqAt.canLay_of_shaped h)]; exact p⟩
theorem EqOk.kr {k : KR} {P : Bool → Prop} (h : ∀ ps, k = .val ps → PsOk ps) (p : P true) : EqOk k.dat k.dat P := by
  cases k with
  | val ps => exact EqOk.list (shaped_pairs (h ps rfl)) p
  | err c =>
    show P (Str.ofString c == Str.ofString c)
    rw [beq_self_eq_true]; exact p
end Mine
end

section
open PySem PySem.W PySem.Calls PyProof.Rows
set_option maxRecDepth 100000
set_option autoImplicit false
set_option linter.unusedVariables false
namespace Mine

abbrev Part := List Nat × Say
def partDat (p : Part) : PyData := .tuple [.str (T p.1), p.2.dat]
def partDats (l : List Part) : List PyData := l.map partDat
theorem partDats_atoms (l : List Part) : atoms (partDats l) = true := by induction l with | nil => rfl | cons a l ih => simpa [partDats, atoms, atom, partDat, Say.dat] using ih
theorem partDats_snoc (l : List Part) (s : Part) : partDats l ++ [partDat s] = partDats (l ++ [s]) := by simp [partDats]
theorem partDats_length (l : List Part) : (partDats l).length = l.length := by simp [partDats]
def partsOf (done : List Part) (shown : List Nat) (says : Say) : List Part := if shown = [] then done else done ++ [(shown, says)]

def saysOf (l : List Part) : List Say := l.map (·.2)
theorem saysOf_length (l : List Part) : (saysOf l).length = l.length := by simp [saysOf]

def saidF : PyData → PyData
  | .tuple [_, y] => y
  | d => d
def seenF : PyData → PyData
  | .tuple [.str x, _] => .str (Txt.strip x)
  | d => d
def fullP : PyData → Bool
  | .str x => (x.length : Int) != 0
  | _ => false

def seenScope : Scope := { kind := .function, names := [(".0", .local), ("seen", .local), ("said", .local)], isGenerator := false, isCoroutine := false, more := [] }
def oneScope : Scope := { kind := .function, names := [(".0", .local), ("one", .local)], isGenerator := false, isCoroutine := false, more := [] }

theorem comp_said (a : Act) {px px1 px2 p3 : Pos} {k0 : Nat} (ps : List Part) :
    ∀ x ∈ partDats ps, CompTurn a seenScope [] (.Tuple [.Name "seen" px1, .Name "said" px2] k0 px) (.Name "said" p3) [] (fun _ => true) saidF x := by
  intro d hd C H1 args O' E'
  obtain ⟨p, hp, rfl⟩ := List.mem_map.mp hd
  refine Asg.tuple (xs := ["seen", "said"]) O' ?_ rfl rfl ?_
  · intro m fp g s Q hs K
    exact wpAny_tests_nil (K true s.heap s.toks hs (Ext.refl _ _) ⟨rfl, fun _ => Ev.name (d := p.2.dat) (o := false) O' (by ((repeat' (first | exact Mine.Ro.set_get _ _ _ | refine Mine.Ro.set_other (by decide) ?_ | assumption | rfl)); done)) rfl⟩)
  · intro z hz
    simp only [List.mem_cons, List.not_mem_nil, or_false] at hz
    rcases hz with rfl | rfl <;> exact ⟨rfl, nofun⟩
theorem comp_seen (a : Act) {px px1 px2 p1 p2 p3 : Pos} {k0 : Nat} (ps : List Part) (hps : ∀ p ∈ ps, p.1.length ≤ 1000) (hline : (p1.endLine == p2.line) = true) :
    ∀ x ∈ partDats ps, CompTurn a seenScope [] (.Tuple [.Name "seen" px1, .Name "said" px2] k0 px) (.Call (.Attribute (.Name "seen" p3) "strip" p1) [] [] p2) [] (fun _ => true) seenF x := by
  intro d hd C H1 args O' E'
  obtain ⟨p, hp, rfl⟩ := List.mem_map.mp hd
  refine Asg.tuple (xs := ["seen", "said"]) O' ?_ rfl rfl ?_
  · intro m fp g s Q hs K
    exact wpAny_tests_nil (K true s.heap s.toks hs (Ext.refl _ _) ⟨rfl, fun _ => Ev.strip O' (Ev.name (d := .str (T p.1)) (o := false) O' (by ((repeat' (first | exact Mine.Ro.set_get _ _ _ | refine Mine.Ro.set_other (by decide) ?_ | assumption | rfl)); done)) ⟨_, rfl, by rw [T_length]; exact size_small (Nat.le_trans (hps p hp) (by decide)), rfl⟩) (hline := hline)⟩)
  · intro z hz
    simp only [List.mem_cons, List.not_mem_nil, or_false] at hz
    rcases hz with rfl | rfl <;> exact ⟨rfl, nofun⟩
theorem comp_one (a : Act) {px p1 p2 : Pos} (xs : List (List Nat)) (hx : ∀ x ∈ xs, x.length ≤ 1000) :
    ∀ x ∈ texts xs, CompTurn a oneScope [] (.Name "one" px) (.Name "one" p1) [.Name "one" p2] fullP id x := by
  intro d hd C H1 args O' E'
  obtain ⟨x, hx', rfl⟩ := List.mem_map.mp hd
  refine Asg.name O' ?_
  have t : EvT (compAct a oneScope [] C H1 args) E' (Ro.set [] "one" ⟨.str (T x), false⟩) (.Name "one" p2) (fun b => b = fullP (.str (T x))) :=
    EvT.val O' (Ev.name (d := .str (T x)) (o := false) O' (by ((repeat' (first | exact Mine.Ro.set_get _ _ _ | refine Mine.Ro.set_other (by decide) ?_ | assumption | rfl)); done)) ⟨by rw [T_length]; exact size_small (Nat.le_trans (hx x hx') (by decide)), rfl⟩)
  intro m fp g s Q hs K
  refine wpAny_tests_one (t m fp g s _ hs fun b h tk q e p => K b h tk q e ⟨p, fun _ => Ev.name (d := .str (T x)) (o := false) O' (by ((repeat' (first | exact Mine.Ro.set_get _ _ _ | refine Mine.Ro.set_other (by decide) ?_ | assumption | rfl)); done)) rfl⟩)
theorem filter_full (xs : List (List Nat)) : (texts xs).filter fullP = texts (xs.filter fun x => decide (x ≠ [])) := by
  induction xs with
  | nil => rfl
  | cons x xs ih =>
    have e : texts (x :: xs) = .str (T x) :: texts xs := rfl
    rw [e]
    have h : fullP (.str (T x)) = decide (x ≠ []) := by
      show ((((T x).length : Nat) : Int) != 0) = _
      rw [T_length, Bool.eq_iff_iff]
      cases x <;> simp <;> omega
    by_cases hx : x = []
    · rw [List.filter_cons_of_neg (by rw [h]; simp [hx]), List.filter_cons_of_neg (by simp [hx]), ih]
    · rw [List.filter_cons_of_pos (by rw [h]; simp [hx]), List.filter_cons_of_pos (by simp [hx]), ih]; rfl

theorem CmpOk.eq {d1 d2 : PyData} {P : Bool → Prop} (h : EqOk d1 d2 P) : CmpOk .Eq d1 d2 P := h

theorem TruthOk.of {b : Bool} {P : Bool → Prop} (h : P b) : TruthOk (.bool b) P := h

structure CutOk (text : List Nat) (done : List Part) (shown : List Nat) (says : Say) : Prop where
  len : text.length ≤ 500
  codes : Cp text
  parts : httpL text = (partsOf done shown says).map fun p => stripL p.1
  lens : ∀ p ∈ partsOf done shown says, p.1.length ≤ 1000
  strict : keqv [] (httpL text) = toldL true [] (saysOf (partsOf done shown says))
  loose : keqv [] ((httpL text).filter fun x => decide (x ≠ [])) = toldL false [] (saysOf (partsOf done shown says))

set_option maxHeartbeats 4000000 in
theorem cut_ex {D : Wd} {A : Around} {fd : FuncData} {L fa : Addr} {stk : List Env} {H1 : Heap} {args : List Addr} (O : (mkAct D A fd L fa stk H1 args 2).Ok) (hfd : fd.scope = defScope (S1 11)) (E : Value → Shared → Prop)
    {text : List Nat} {done : List Part} {shown : List Nat} {says : Say} (h : CutOk text done shown says)
    (hhttp : ∀ l : List Nat, l.length ≤ 1000 → Fn D 0 "parse_http_list" [.str (T l)] fun d => d = .list (texts (httpL l)))
    (hread : ∀ xs : List (List Nat), (∀ x ∈ xs, x.length ≤ 1000 ∧ Cp x) → xs.length ≤ 1000 → Fn D 1 "_law_read" [.list (texts xs)] fun d => d = (keqv [] xs).dat)
    (htold : ∀ (ss : List Say) (strict : Bool), ss.length ≤ 1000 → Fn D 0 "_law_told" [.list (sayDats ss), .bool strict] fun d => d = (toldL strict [] ss).dat) :
    Ex (mkAct D A fd L fa stk H1 args 2) E (slots ["text", "done", "shown", "says"] [.str (T text), .list (partDats done), .str (T shown), says.dat]) (defBody (S1 11)) (fun _ => False) (fun _ d => d = .bool true) (fun _ => False) := by
  obtain ⟨name, qualname, params, body, scope, globals, closure, dv, kv, doc, pm, an, cd, ct, bt⟩ := fd
  dsimp only at hfd
  subst hfd
  obtain ⟨hlen, hcp, hparts, hlens, hstrict, hloose⟩ := h
  obtain ⟨b1, b2⟩ := httpL_bound hlen
  have hb : ∀ x ∈ httpL text, x.length ≤ 1000 ∧ Cp x := fun x hx => ⟨Nat.le_trans (b1 x hx).1 (by decide), fun c hc => hcp c ((b1 x hx).2 c hc)⟩
  have hbl : (httpL text).length ≤ 1000 := by omega
  have hpl : (partsOf done shown says).length ≤ 1000 := by have := congrArg List.length hparts; rw [List.length_map] at this; omega
  have hdl : done.length ≤ 1000 := by
    unfold partsOf at hpl; split at hpl
    · omega
    · simp at hpl; omega
  have hsl : (T shown).length ≤ sizeLine := by
    rw [T_length]
    by_cases q : shown = []
    · rw [q]; decide
    · have := hlens (shown, says) (by unfold partsOf; rw [if_neg q]; simp)
      exact size_small (Nat.le_trans this (by decide))
  -- parts
  refine Ex.cons (Ex1.assign O false (Ev.ifExp (RunB.mono (P := (· = decide (shown ≠ []))) (EvT.val O (Ev.name (d := .str (T shown)) (o := false) O (by ((repeat' (first | exact Mine.Ro.set_get _ _ _ | refine Mine.Ro.set_other (by decide) ?_ | assumption | rfl)); done)) ⟨hsl, ?_⟩)) fun b hbb => ?_)))
  · show (((T shown).length : Int) != 0) = decide (shown ≠ [])
    rw [T_length, Bool.eq_iff_iff]; cases shown <;> simp <;> omega
  suffices key : ∀ ρ : Ro, ρ.look "parts" = some ⟨.list (partDats (partsOf done shown says)), false⟩ → ρ.look "text" = some ⟨.str (T text), false⟩ → Ex (actOf O) E ρ ((defBody (S1 11)).drop 1) (fun _ => False) (fun _ d => d = .bool true) (fun _ => False) by
    subst hbb
    by_cases hs : shown = []
    · rw [if_neg (by simp [hs])]
      refine Ev.name (d := .list (partDats done)) (o := false) O (by ((repeat' (first | exact Mine.Ro.set_get _ _ _ | refine Mine.Ro.set_other (by decide) ?_ | assumption | rfl)); done)) ⟨by decide, nofun, key _ ?_ (by ((repeat' (first | exact Mine.Ro.set_get _ _ _ | refine Mine.Ro.set_other (by decide) ?_ | assumption | rfl)); done))⟩
      unfold partsOf; rw [if_pos hs]; exact Ro.set_get _ _ _
    · rw [if_pos (by simp [hs])]
      refine Ev.binop O (Ev.name (d := .list (partDats done)) (o := false) O (by ((repeat' (first | exact Mine.Ro.set_get _ _ _ | refine Mine.Ro.set_other (by decide) ?_ | assumption | rfl)); done)) (Ev.list O ?_))
      ((repeat (first | refine Mine.Ev.str ?_ | refine Mine.Ev.int ?_ | refine Mine.Ev.bool ?_ | refine Mine.Ev.name (by assumption) (by ((repeat' (first | exact Mine.Ro.set_get _ _ _ | refine Mine.Ro.set_other (by decide) ?_ | assumption | rfl)); done)) ?_ | refine Mine.Ev.neg (by assumption) ?_ | refine Mine.EvL.nil ?_ | refine Mine.EvL.cons (by assumption) ?_ | refine Mine.Ev.tuple (by assumption) ?_ | refine Mine.Ev.list (by assumption) ?_ | refine Mine.Ev.dict0 (by assumption) ?_ | refine Mine.Ev.binop (by assumption) ?_ | refine Mine.Ev.cmp (by assumption) ?_ | refine Mine.EvT.cmp (by assumption) ?_ | refine Mine.EvT.not ?_ | refine Mine.EvT.bool ?_ | refine Mine.Ev.boolOp (by assumption) ?_ | refine Mine.Ev.slice (by assumption) ?_ | refine Mine.Ev.item (by assumption) ?_ | refine Mine.Ev.strip (by assumption) ?_ | refine Mine.Ev.rstrip (by assumption) ?_ | refine Mine.Ev.join (by assumption) ?_ | refine Mine.Ev.split (by assumption) ?_ | refine Mine.Ev.ifExp ?_ | refine Mine.EvT.val (by assumption) ?_)); refine ⟨by decide, (by first | decide | (simp only [List.length_cons, List.length_nil]; exact Nat.le_trans (by omega) (show 10 ≤ PySem.sizeLine by decide))), ?_⟩; (repeat (first | refine Mine.Ev.str ?_ | refine Mine.Ev.int ?_ | refine Mine.Ev.bool ?_ | refine Mine.Ev.name (by assumption) (by ((repeat' (first | exact Mine.Ro.set_get _ _ _ | refine Mine.Ro.set_other (by decide) ?_ | assumption | rfl)); done)) ?_ | refine Mine.Ev.neg (by assumption) ?_ | refine Mine.EvL.nil ?_ | refine Mine.EvL.cons (by assumption) ?_ | refine Mine.Ev.tuple (by assumption) ?_ | refine Mine.Ev.list (by assumption) ?_ | refine Mine.Ev.dict0 (by assumption) ?_ | refine Mine.Ev.binop (by assumption) ?_ | refine Mine.Ev.cmp (by assumption) ?_ | refine Mine.EvT.cmp (by assumption) ?_ | refine Mine.EvT.not ?_ | refine Mine.EvT.bool ?_ | refine Mine.Ev.boolOp (by assumption) ?_ | refine Mine.Ev.slice (by assumption) ?_ | refine Mine.Ev.item (by assumption) ?_ | refine Mine.Ev.strip (by assumption) ?_ | refine Mine.Ev.rstrip (by assumption) ?_ | refine Mine.Ev.join (by assumption) ?_ | refine Mine.Ev.split (by assumption) ?_ | refine Mine.Ev.ifExp ?_ | refine Mine.EvT.val (by assumption) ?_)))
      refine ⟨by decide, (by first | decide | (simp only [List.length_cons, List.length_nil]; exact Nat.le_trans (by omega) (show 10 ≤ PySem.sizeLine by decide))), ?_, by decide, nofun, key _ ?_ (by ((repeat' (first | exact Mine.Ro.set_get _ _ _ | refine Mine.Ro.set_other (by decide) ?_ | assumption | rfl)); done))⟩
      · rw [partDats_length]; exact size_small (by simp; omega)
      · unfold partsOf; rw [if_neg hs, ← partDats_snoc]; exact Ro.set_get _ _ _
  intro ρ r1 r2
  refine Ex.cons (Ex1.assignComp O ⟨rfl, by decide, rfl, by decide⟩ (Ev.name (d := .list (partDats (partsOf done shown says))) (o := false) O r1 ⟨_, _, _, rfl, .inr ⟨⟨_, _, _, rfl⟩, fun d hd => ?_⟩, by rw [partDats_length]; exact size_small (by omega), comp_said _ _, ?_⟩) rfl)
  · obtain ⟨p, _, rfl⟩ := List.mem_map.mp hd; exact ⟨_, rfl⟩
  have e1 : List.map saidF (List.filter (fun _ => true) (partDats (partsOf done shown says))) = sayDats (saysOf (partsOf done shown says)) := by
    rw [List.filter_eq_self.mpr fun _ _ => rfl]; unfold partDats sayDats saysOf; rw [List.map_map, List.map_map]; rfl
  rw [e1]
  have fh := hhttp text (by omega)
  refine Ex.cons (Ex1.assign O false (Ev.call (k := 0) O (EvL.cons O (Ev.name (d := .str (T text)) (o := false) O (by ((repeat' (first | exact Mine.Ro.set_get _ _ _ | refine Mine.Ro.set_other (by decide) ?_ | assumption | rfl)); done)) (EvL.nil ⟨_, fh, fun d hd => ?_⟩))) (hk := Nat.le_of_ble_eq_true rfl) (hfn := by obtain ⟨fa, h, _⟩ := fh; exact ⟨fa, h⟩)))
  subst hd
  refine ⟨.inl (by decide), by split <;> decide, nofun, ?_⟩
  have fr1 := hread (httpL text) hb hbl
  have fr2 := hread ((httpL text).filter fun x => decide (x ≠ [])) (fun x hx => hb x (List.mem_filter.mp hx).1) (Nat.le_trans (List.length_filter_le _ _) hbl)
  have ft1 := htold (saysOf (partsOf done shown says)) true (by rw [saysOf_length]; exact hpl)
  have ft2 := htold (saysOf (partsOf done shown says)) false (by rw [saysOf_length]; exact hpl)
  have ok1 : ∀ ps, keqv [] (httpL text) = .val ps → PsOk ps := fun ps e => (keqv_ok _ (fun x hx => (hb x hx).2) (by intro p hp; cases hp) e).1
  have ok2 : ∀ ps, keqv [] ((httpL text).filter fun x => decide (x ≠ [])) = .val ps → PsOk ps := fun ps e => (keqv_ok _ (fun x hx => (hb x (List.mem_filter.mp hx).1).2) (by intro p hp; cases hp) e).1
  refine Ex.cons (Ex1.ret O (Ev.boolOp O ?_))
  refine Ev.cmp O (Ev.name (d := .list (texts (httpL text))) (o := false) O (by ((repeat' (first | exact Mine.Ro.set_get _ _ _ | refine Mine.Ro.set_other (by decide) ?_ | assumption | rfl)); done)) (Ev.comp O ⟨rfl, by decide, rfl, by decide⟩ (Ev.name (d := .list (partDats (partsOf done shown says))) (o := false) O (by ((repeat' (first | exact Mine.Ro.set_get _ _ _ | refine Mine.Ro.set_other (by decide) ?_ | assumption | rfl)); done)) ⟨_, _, _, rfl, .inr ⟨⟨_, _, _, rfl⟩, fun d hd => ?_⟩, by rw [partDats_length]; exact size_small (by omega), comp_seen _ _ hlens rfl, ?_⟩)))
  · obtain ⟨p, _, rfl⟩ := List.mem_map.mp hd; exact ⟨_, rfl⟩
  have e2 : List.map seenF (List.filter (fun _ => true) (partDats (partsOf done shown says))) = texts (httpL text) := by
    rw [List.filter_eq_self.mpr fun _ _ => rfl, hparts]; unfold partDats texts; rw [List.map_map, List.map_map]
    refine List.map_congr_left fun p _ => ?_
    show PyData.str (Txt.strip (T p.1)) = PyData.str (T (stripL p.1))
    rw [strip_T]
  rw [e2]
  refine CmpOk.eq (EqOk.list (shaped_texts fun x hx => (hb x hx).2) ?_)
  refine TruthOk.of ?_
  rw [if_pos (by decide), AllV]
  refine Ev.cmp O (Ev.call (k := 1) O (EvL.cons O (Ev.name (d := .list (texts (httpL text))) (o := false) O (by ((repeat' (first | exact Mine.Ro.set_get _ _ _ | refine Mine.Ro.set_other (by decide) ?_ | assumption | rfl)); done)) (EvL.nil ⟨_, fr1, fun d hd => ⟨.inl (by decide), ?_⟩⟩))) (hk := Nat.le_of_ble_eq_true rfl) (hfn := by obtain ⟨fa, h, _⟩ := fr1; exact ⟨fa, h⟩))
  subst hd
  refine Ev.call (k := 0) O (EvL.cons O (Ev.name (d := .list (sayDats (saysOf (partsOf done shown says)))) (o := false) O (by ((repeat' (first | exact Mine.Ro.set_get _ _ _ | refine Mine.Ro.set_other (by decide) ?_ | assumption | rfl)); done)) (EvL.cons O (Ev.bool (EvL.nil ⟨_, ft1, fun d hd => ⟨.inl (by decide), ?_⟩⟩))))) (hk := Nat.le_of_ble_eq_true rfl) (hfn := by obtain ⟨fa, h, _⟩ := ft1; exact ⟨fa, h⟩)
  subst hd
  rw [← hstrict]
  refine CmpOk.eq (EqOk.kr ok1 ?_)
  refine TruthOk.of ?_
  rw [if_pos (by decide), AllV]
  refine Ev.cmp O (Ev.call (k := 1) O (EvL.cons O (Ev.comp O ⟨rfl, by decide, rfl, by decide⟩ (Ev.name (d := .list (texts (httpL text))) (o := false) O (by ((repeat' (first | exact Mine.Ro.set_get _ _ _ | refine Mine.Ro.set_other (by decide) ?_ | assumption | rfl)); done)) ⟨_, _, _, rfl, .inl ⟨_, _, rfl⟩, by rw [texts_length]; exact size_small (by omega), comp_one _ _ (fun x hx => (hb x hx).1), ?_⟩)) ) (hk := Nat.le_of_ble_eq_true rfl) (hfn := by obtain ⟨fa, h, _⟩ := fr1; exact ⟨fa, h⟩))
  rw [filter_full, List.map_id]
  refine EvL.nil ⟨_, fr2, fun d hd => ⟨.inl (by rw [if_pos (texts_atoms _)]; decide), ?_⟩⟩
  subst hd
  refine Ev.call (k := 0) O (EvL.cons O (Ev.name (d := .list (sayDats (saysOf (partsOf done shown says)))) (o := false) O (by ((repeat' (first | exact Mine.Ro.set_get _ _ _ | refine Mine.Ro.set_other (by decide) ?_ | assumption | rfl)); done)) (EvL.cons O (Ev.bool (EvL.nil ⟨_, ft2, fun d hd => ⟨.inl (by decide), ?_⟩⟩))))) (hk := Nat.le_of_ble_eq_true rfl) (hfn := by obtain ⟨fa, h, _⟩ := ft2; exact ⟨fa, h⟩)
  subst hd
  rw [← hloose]
  exact CmpOk.eq (EqOk.kr ok2 rfl)
end Mine
end

section
open PySem PySem.W PySem.Calls PyProof.Rows
set_option maxRecDepth 100000
set_option autoImplicit false
set_option linter.unusedVariables false
namespace Mine

def forBody : Option Stmt → List Stmt
  | some (.For _ _ b _ _) => b
  | _ => []

structure LS where
  text : List Nat
  done : List Part
  shown : List Nat
  says : Say
def lstep (st : LS) (s : Stp) : LS :=
  { text := st.text ++ s.c, done := if s.ends then st.done ++ [(st.shown, st.says)] else st.done, shown := if s.ends then [] else st.shown ++ s.mark, says := s.says }
def LS.ok (st : LS) : Prop := CutOk st.text st.done st.shown st.says
def AllCut : LS → List Stp → Prop
  | _, [] => True
  | st, s :: r => (lstep st s).ok ∧ AllCut (lstep st s) r
def LS0 : LS := ⟨[], [], [], sayNone⟩

theorem LS.ok.small {st : LS} (h : st.ok) : st.done.length ≤ 1000 ∧ st.shown.length ≤ 1000 ∧ st.text.length ≤ 500 := by
  obtain ⟨hlen, hcp, hparts, hlens, _⟩ := h
  obtain ⟨b1, b2⟩ := httpL_bound hlen
  have hpl : (partsOf st.done st.shown st.says).length ≤ 501 := by have := congrArg List.length hparts; rw [List.length_map] at this; omega
  refine ⟨?_, ?_, hlen⟩
  · unfold partsOf at hpl; split at hpl
    · omega
    · simp at hpl; omega
  · by_cases q : st.shown = []
    · rw [q]; decide
    · exact hlens (st.shown, st.says) (by unfold partsOf; rw [if_neg q]; simp)

def LawJ (rest : List PyData) (ρ : Ro) : Prop := ∃ (st : LS) (r : List Stp), rest = dats r ∧ st.ok ∧ AllCut st r ∧ (∀ s ∈ r, s.c.length ≤ 100 ∧ s.mark.length ≤ 100) ∧ ρ.look "text" = some ⟨.str (T st.text), false⟩ ∧ ρ.look "shown" = some ⟨.str (T st.shown), false⟩ ∧ ρ.look "says" = some ⟨st.says.dat, false⟩ ∧
  ρ.look "done" = some ⟨.list (partDats st.done), true⟩ ∧ ρ.look "good" = some ⟨.bool true, false⟩

set_option maxHeartbeats 4000000 in
theorem law_ex {D : Wd} {A : Around} {fd : FuncData} {L fa : Addr} {stk : List Env} {H1 : Heap} {args : List Addr} (O : (mkAct D A fd L fa stk H1 args 3).Ok) (hfd : fd.scope = defScope (S1 12)) (E : Value → Shared → Prop)
    {ns : List Int} (hn : ns.length ≤ 63) (h0 : LS0.ok) (hall : AllCut LS0 (headerL (cellsOf 19 ns))) (hsm : ∀ s ∈ headerL (cellsOf 19 ns), s.c.length ≤ 100 ∧ s.mark.length ≤ 100)
    (hcells : Fn D 0 "_law_cells" [.list (nums ns)] fun d => d = .list (nums (cellsOf 19 ns)))
    (hheader : Fn D 2 "_law_header" [.list (nums (cellsOf 19 ns))] fun d => d = .list (dats (headerL (cellsOf 19 ns))))
    (hcut : ∀ st : LS, st.ok → Fn D 2 "_law_cut" [.str (T st.text), .list (partDats st.done), .str (T st.shown), st.says.dat] fun d => d = .bool true) :
    Ex (mkAct D A fd L fa stk H1 args 3) E (slots ["script"] [.list (nums ns)]) (defBody (S1 12)) (fun _ => False) (fun _ d => d = .bool true) (fun _ => False) := by
  obtain ⟨name, qualname, params, body, scope, globals, closure, dv, kv, doc, pm, an, cd, ct, bt⟩ := fd
  dsimp only at hfd
  subst hfd
  have cut : ∀ {P : PyData → Nat → Prop} {E' : Value → Shared → Prop} {ρ2 : Ro} {p1 p2 p3 p4 p5 p6 : Pos} (st : LS), st.ok → ρ2.look "text" = some ⟨.str (T st.text), false⟩ → ρ2.look "shown" = some ⟨.str (T st.shown), false⟩ → ρ2.look "says" = some ⟨st.says.dat, false⟩ → ρ2.look "done" = some ⟨.list (partDats st.done), true⟩ → P (.bool true) 2 →
      Ev (actOf O) E' ρ2 (.Call (.Name "_law_cut" p1) [.Name "text" p2, .Name "done" p3, .Name "shown" p4, .Name "says" p5] [] p6) P := by
    intro P E' ρ2 p1 p2 p3 p4 p5 p6 st hst a1 a2 a3 a4 hp
    have hc := hcut st hst
    exact Ev.call (k := 2) O (EvL.cons O (Ev.name O a1 (EvL.cons O (Ev.name O a4 (EvL.cons O (Ev.name O a2 (EvL.cons O (Ev.name O a3 (EvL.nil ⟨_, hc, fun d hd => by subst hd; exact ⟨.inr rfl, hp⟩⟩))))))))) (hk := Nat.le_of_ble_eq_true rfl) (hfn := by obtain ⟨fa, h, _⟩ := hc; exact ⟨fa, h⟩)
  refine Ex.cons (Ex1.unpackOwn (xs := ["text", "shown", "says", "done"]) O (Ev.tuple O ?_) rfl ?_)
  · ((repeat (first | refine Mine.Ev.str ?_ | refine Mine.Ev.int ?_ | refine Mine.Ev.bool ?_ | refine Mine.Ev.name (by assumption) (by ((repeat' (first | exact Mine.Ro.set_get _ _ _ | refine Mine.Ro.set_other (by decide) ?_ | assumption | rfl)); done)) ?_ | refine Mine.Ev.neg (by assumption) ?_ | refine Mine.EvL.nil ?_ | refine Mine.EvL.cons (by assumption) ?_ | refine Mine.Ev.tuple (by assumption) ?_ | refine Mine.Ev.list (by assumption) ?_ | refine Mine.Ev.dict0 (by assumption) ?_ | refine Mine.Ev.binop (by assumption) ?_ | refine Mine.Ev.cmp (by assumption) ?_ | refine Mine.EvT.cmp (by assumption) ?_ | refine Mine.EvT.not ?_ | refine Mine.EvT.bool ?_ | refine Mine.Ev.boolOp (by assumption) ?_ | refine Mine.Ev.slice (by assumption) ?_ | refine Mine.Ev.item (by assumption) ?_ | refine Mine.Ev.strip (by assumption) ?_ | refine Mine.Ev.rstrip (by assumption) ?_ | refine Mine.Ev.join (by assumption) ?_ | refine Mine.Ev.split (by assumption) ?_ | refine Mine.Ev.ifExp ?_ | refine Mine.EvT.val (by assumption) ?_)); refine ⟨by decide, (by first | decide | (simp only [List.length_cons, List.length_nil]; exact Nat.le_trans (by omega) (show 10 ≤ PySem.sizeLine by decide))), ?_⟩; (repeat (first | refine Mine.Ev.str ?_ | refine Mine.Ev.int ?_ | refine Mine.Ev.bool ?_ | refine Mine.Ev.name (by assumption) (by ((repeat' (first | exact Mine.Ro.set_get _ _ _ | refine Mine.Ro.set_other (by decide) ?_ | assumption | rfl)); done)) ?_ | refine Mine.Ev.neg (by assumption) ?_ | refine Mine.EvL.nil ?_ | refine Mine.EvL.cons (by assumption) ?_ | refine Mine.Ev.tuple (by assumption) ?_ | refine Mine.Ev.list (by assumption) ?_ | refine Mine.Ev.dict0 (by assumption) ?_ | refine Mine.Ev.binop (by assumption) ?_ | refine Mine.Ev.cmp (by assumption) ?_ | refine Mine.EvT.cmp (by assumption) ?_ | refine Mine.EvT.not ?_ | refine Mine.EvT.bool ?_ | refine Mine.Ev.boolOp (by assumption) ?_ | refine Mine.Ev.slice (by assumption) ?_ | refine Mine.Ev.item (by assumption) ?_ | refine Mine.Ev.strip (by assumption) ?_ | refine Mine.Ev.rstrip (by assumption) ?_ | refine Mine.Ev.join (by assumption) ?_ | refine Mine.Ev.split (by assumption) ?_ | refine Mine.Ev.ifExp ?_ | refine Mine.EvT.val (by assumption) ?_)))
    refine ⟨by decide, by decide, EvL.nil ⟨by decide, (by first | decide | (simp only [List.length_cons, List.length_nil]; exact Nat.le_trans (by omega) (show 10 ≤ PySem.sizeLine by decide))), by decide, [.str (T []), .str (T []), sayNone.dat], .list [], rfl, rfl, rfl, rfl, rfl, ?_⟩⟩
    refine Ex.cons (Ex1.assign O false (cut LS0 h0 (by ((repeat' (first | exact Mine.Ro.set_get _ _ _ | refine Mine.Ro.set_other (by decide) ?_ | assumption | rfl)); done)) (by ((repeat' (first | exact Mine.Ro.set_get _ _ _ | refine Mine.Ro.set_other (by decide) ?_ | assumption | rfl)); done)) (by ((repeat' (first | exact Mine.Ro.set_get _ _ _ | refine Mine.Ro.set_other (by decide) ?_ | assumption | rfl)); done)) (by ((repeat' (first | exact Mine.Ro.set_get _ _ _ | refine Mine.Ro.set_other (by decide) ?_ | assumption | rfl)); done)) ⟨by decide, nofun, ?_⟩))
    refine Ex.cons (Ex1.forIn O LawJ (fun x rest ρ' hJ => ?_) (fun ρ' hJ => ?_) ?_)
    · obtain ⟨st, r, e, hok, hal, hss, r1, r2, r3, r4, r5⟩ := hJ
      cases r with
      | nil => cases e
      | cons s r =>
      obtain ⟨rfl, rfl⟩ := List.cons.inj (show x :: rest = s.dat :: dats r from e)
      obtain ⟨hok', hal'⟩ := hal
      obtain ⟨k1, k2, k3⟩ := hok.small
      obtain ⟨c1, c2⟩ := hss s (.head _)
      have rest' : ∀ ρ2 : Ro, ρ2.look "text" = some ⟨.str (T (lstep st s).text), false⟩ → ρ2.look "shown" = some ⟨.str (T (lstep st s).shown), false⟩ → ρ2.look "done" = some ⟨.list (partDats (lstep st s).done), true⟩ → ρ2.look "now" = some ⟨s.says.dat, false⟩ → ρ2.look "good" = some ⟨.bool true, false⟩ →
          Ex (actOf O) (loopE (actOf O) E) ρ2 ((forBody ((defBody (S1 12))[2]?)).drop 2) (LawJ (dats r)) (fun _ d => d = .bool true) (LawJ (dats r)) := by
        intro ρ2 a1 a2 a3 a4 a5
        refine Ex.cons (Ex1.assign O false (Ev.name (d := s.says.dat) (o := false) O a4 ⟨by decide, nofun, ?_⟩))
        refine Ex.cons (Ex1.assign O false (Ev.boolOp O (cut (lstep st s) hok' (by ((repeat' (first | exact Mine.Ro.set_get _ _ _ | refine Mine.Ro.set_other (by decide) ?_ | assumption | rfl)); done)) (by ((repeat' (first | exact Mine.Ro.set_get _ _ _ | refine Mine.Ro.set_other (by decide) ?_ | assumption | rfl)); done)) (by ((repeat' (first | exact Mine.Ro.set_get _ _ _ | refine Mine.Ro.set_other (by decide) ?_ | assumption | rfl)); done)) (by ((repeat' (first | exact Mine.Ro.set_get _ _ _ | refine Mine.Ro.set_other (by decide) ?_ | assumption | rfl)); done)) (TruthOk.of ?_))))
        rw [if_pos (by decide), AllV]
        refine Ev.name (d := .bool true) (o := false) O (by ((repeat' (first | exact Mine.Ro.set_get _ _ _ | refine Mine.Ro.set_other (by decide) ?_ | assumption | rfl)); done)) ⟨by decide, nofun, Ex.nil ⟨lstep st s, r, rfl, hok', hal', fun s' hs' => hss s' (.tail _ hs'), by ((repeat' (first | exact Mine.Ro.set_get _ _ _ | refine Mine.Ro.set_other (by decide) ?_ | assumption | rfl)); done), by ((repeat' (first | exact Mine.Ro.set_get _ _ _ | refine Mine.Ro.set_other (by decide) ?_ | assumption | rfl)); done), by ((repeat' (first | exact Mine.Ro.set_get _ _ _ | refine Mine.Ro.set_other (by decide) ?_ | assumption | rfl)); done), by ((repeat' (first | exact Mine.Ro.set_get _ _ _ | refine Mine.Ro.set_other (by decide) ?_ | assumption | rfl)); done), by ((repeat' (first | exact Mine.Ro.set_get _ _ _ | refine Mine.Ro.set_other (by decide) ?_ | assumption | rfl)); done)⟩⟩
      refine Asg.tuple (xs := ["c", "mark", "now", "ends"]) O ?_ rfl rfl ?_
      · refine Ex.cons (Ex1.augText O (u := st.text) (o := false) (by ((repeat' (first | exact Mine.Ro.set_get _ _ _ | refine Mine.Ro.set_other (by decide) ?_ | assumption | rfl)); done)) (Ev.name (d := .str (T s.c)) (o := false) O (by ((repeat' (first | exact Mine.Ro.set_get _ _ _ | refine Mine.Ro.set_other (by decide) ?_ | assumption | rfl)); done)) ⟨_, rfl, size_small (by omega), ?_⟩))
        refine Ex.cons (Ex1.ifB s.ends (EvT.val O (Ev.name (d := .bool s.ends) (o := false) O (by ((repeat' (first | exact Mine.Ro.set_get _ _ _ | refine Mine.Ro.set_other (by decide) ?_ | assumption | rfl)); done)) rfl)) (fun he => ?_) fun he => ?_)
        · refine Ex.cons (Ex1.append O (xs := partDats st.done) (by ((repeat' (first | exact Mine.Ro.set_get _ _ _ | refine Mine.Ro.set_other (by decide) ?_ | assumption | rfl)); done)) ?_)
          (repeat (first | refine Mine.Ev.str ?_ | refine Mine.Ev.int ?_ | refine Mine.Ev.bool ?_ | refine Mine.Ev.name (by assumption) (by ((repeat' (first | exact Mine.Ro.set_get _ _ _ | refine Mine.Ro.set_other (by decide) ?_ | assumption | rfl)); done)) ?_ | refine Mine.Ev.neg (by assumption) ?_ | refine Mine.EvL.nil ?_ | refine Mine.EvL.cons (by assumption) ?_ | refine Mine.Ev.tuple (by assumption) ?_ | refine Mine.Ev.list (by assumption) ?_ | refine Mine.Ev.dict0 (by assumption) ?_ | refine Mine.Ev.binop (by assumption) ?_ | refine Mine.Ev.cmp (by assumption) ?_ | refine Mine.EvT.cmp (by assumption) ?_ | refine Mine.EvT.not ?_ | refine Mine.EvT.bool ?_ | refine Mine.Ev.boolOp (by assumption) ?_ | refine Mine.Ev.slice (by assumption) ?_ | refine Mine.Ev.item (by assumption) ?_ | refine Mine.Ev.strip (by assumption) ?_ | refine Mine.Ev.rstrip (by assumption) ?_ | refine Mine.Ev.join (by assumption) ?_ | refine Mine.Ev.split (by assumption) ?_ | refine Mine.Ev.ifExp ?_ | refine Mine.EvT.val (by assumption) ?_))
          refine ⟨by decide, (by first | decide | (simp only [List.length_cons, List.length_nil]; exact Nat.le_trans (by omega) (show 10 ≤ PySem.sizeLine by decide))), by decide, by rw [partDats_length]; exact size_small (by omega), ?_⟩
          refine Ex.cons (Ex1.assign O false (Ev.str ⟨by decide, nofun, Ex.nil (rest' _ (by unfold lstep; ((repeat' (first | exact Mine.Ro.set_get _ _ _ | refine Mine.Ro.set_other (by decide) ?_ | assumption | rfl)); done)) ?_ ?_ (by ((repeat' (first | exact Mine.Ro.set_get _ _ _ | refine Mine.Ro.set_other (by decide) ?_ | assumption | rfl)); done)) (by ((repeat' (first | exact Mine.Ro.set_get _ _ _ | refine Mine.Ro.set_other (by decide) ?_ | assumption | rfl)); done)))⟩))
          · rw [show (lstep st s).shown = [] from if_pos he]; ((repeat' (first | exact Mine.Ro.set_get _ _ _ | refine Mine.Ro.set_other (by decide) ?_ | assumption | rfl)); done)
          · unfold lstep; rw [if_pos he, ← partDats_snoc]; ((repeat' (first | exact Mine.Ro.set_get _ _ _ | refine Mine.Ro.set_other (by decide) ?_ | assumption | rfl)); done)
        · have he' : ¬ s.ends = true := by rw [he]; decide
          refine Ex.cons (Ex1.augText O (u := st.shown) (o := false) (by ((repeat' (first | exact Mine.Ro.set_get _ _ _ | refine Mine.Ro.set_other (by decide) ?_ | assumption | rfl)); done)) (Ev.name (d := .str (T s.mark)) (o := false) O (by ((repeat' (first | exact Mine.Ro.set_get _ _ _ | refine Mine.Ro.set_other (by decide) ?_ | assumption | rfl)); done)) ⟨_, rfl, size_small (by omega), Ex.nil (rest' _ (by unfold lstep; ((repeat' (first | exact Mine.Ro.set_get _ _ _ | refine Mine.Ro.set_other (by decide) ?_ | assumption | rfl)); done)) ?_ ?_ (by ((repeat' (first | exact Mine.Ro.set_get _ _ _ | refine Mine.Ro.set_other (by decide) ?_ | assumption | rfl)); done)) (by ((repeat' (first | exact Mine.Ro.set_get _ _ _ | refine Mine.Ro.set_other (by decide) ?_ | assumption | rfl)); done)))⟩))
          · rw [show (lstep st s).shown = st.shown ++ s.mark from if_neg he']; ((repeat' (first | exact Mine.Ro.set_get _ _ _ | refine Mine.Ro.set_other (by decide) ?_ | assumption | rfl)); done)
          · unfold lstep; rw [if_neg he']; ((repeat' (first | exact Mine.Ro.set_get _ _ _ | refine Mine.Ro.set_other (by decide) ?_ | assumption | rfl)); done)
      · intro z hz
        simp only [List.mem_cons, List.not_mem_nil, or_false] at hz
        rcases hz with rfl | rfl | rfl | rfl <;> exact ⟨rfl, nofun⟩
    · obtain ⟨st, r, e, hok, hal, hss, r1, r2, r3, r4, r5⟩ := hJ
      exact Ex.cons (Ex1.ret O (Ev.name (d := .bool true) (o := false) O r5 rfl))
    · refine Ev.call (k := 2) O (EvL.cons O (Ev.call (k := 0) O (EvL.cons O (Ev.name (d := .list (nums ns)) (o := false) O (by ((repeat' (first | exact Mine.Ro.set_get _ _ _ | refine Mine.Ro.set_other (by decide) ?_ | assumption | rfl)); done)) (EvL.nil ⟨_, hcells, fun d hd => ?_⟩))) (hk := Nat.le_of_ble_eq_true rfl) (hfn := by obtain ⟨fa, h, _⟩ := hcells; exact ⟨fa, h⟩))) (hk := Nat.le_of_ble_eq_true rfl) (hfn := by obtain ⟨fa, h, _⟩ := hheader; exact ⟨fa, h⟩)
      subst hd
      refine ⟨.inl (by decide), EvL.nil ⟨_, hheader, fun d hd => ?_⟩⟩
      subst hd
      refine ⟨.inl (by simp [atom]), by split <;> decide, .inr ⟨⟨_, _, _, rfl⟩, fun d hd => ?_⟩, LS0, _, rfl, h0, hall, hsm, by ((repeat' (first | exact Mine.Ro.set_get _ _ _ | refine Mine.Ro.set_other (by decide) ?_ | assumption | rfl)); done), by ((repeat' (first | exact Mine.Ro.set_get _ _ _ | refine Mine.Ro.set_other (by decide) ?_ | assumption | rfl)); done), by ((repeat' (first | exact Mine.Ro.set_get _ _ _ | refine Mine.Ro.set_other (by decide) ?_ | assumption | rfl)); done), by ((repeat' (first | exact Mine.Ro.set_get _ _ _ | refine Mine.Ro.set_other (by decide) ?_ | assumption | rfl)); done), by ((repeat' (first | exact Mine.Ro.set_get _ _ _ | refine Mine.Ro.set_other (by decide) ?_ | assumption | rfl)); done)⟩
      obtain ⟨s, _, rfl⟩ := List.mem_map.mp hd
      exact ⟨_, rfl⟩
  · intro z hz
    simp only [List.mem_cons, List.not_mem_nil, or_false] at hz
    rcases hz with rfl | rfl | rfl | rfl <;> exact ⟨rfl, nofun⟩
end Mine
end

section
open PySem PySem.W PySem.Calls PyProof.Rows
set_option maxRecDepth 100000
set_option autoImplicit false
set_option linter.unusedVariables false
namespace Mine

/-! stripping -/
theorem dropWhile_all {α : Type} (p : α → Bool) : ∀ {l m : List α}, (∀ x ∈ l, p x = true) → (l ++ m).dropWhile p = m.dropWhile p
  | [], _, _ => rfl
  | a :: l, m, h => by
    rw [List.cons_append, List.dropWhile_cons_of_pos (h a (.head _))]
    exact dropWhile_all p fun x hx => h x (.tail _ hx)
theorem strip_front {W x : List Nat} (h : ∀ c ∈ W, sp c = true) : stripL (W ++ x) = stripL x := by
  unfold stripL; rw [dropWhile_all sp h]
theorem rstrip_sp {x : List Nat} {c : Nat} (h : sp c = true) : rstripL (x ++ [c]) = rstripL x := by
  unfold rstripL; rw [List.reverse_append]
  show (List.dropWhile sp (c :: x.reverse)).reverse = _
  rw [List.dropWhile_cons_of_pos h]
theorem rstrip_end {x : List Nat} {c : Nat} (h : sp c = false) : rstripL (x ++ [c]) = x ++ [c] := by
  unfold rstripL; rw [List.reverse_append]
  show (List.dropWhile sp (c :: x.reverse)).reverse = _
  rw [List.dropWhile_cons_of_neg (by simp [h])]; simp
theorem rstrip_app {a v : List Nat} {b : Nat} (h : sp b = false) : rstripL (a ++ b :: v) = a ++ b :: rstripL v := by
  unfold rstripL
  rw [List.reverse_append, List.reverse_cons, List.append_assoc]
  have key : ∀ (u w : List Nat), (u ++ b :: w).dropWhile sp = (u.dropWhile sp) ++ b :: w ∨ ((u.dropWhile sp) = [] ∧ (u ++ b :: w).dropWhile sp = b :: w) := by
    intro u w
    induction u with
    | nil => right; exact ⟨rfl, by rw [List.nil_append, List.dropWhile_cons_of_neg (by simp [h])]⟩
    | cons c u ih =>
      by_cases hc : sp c = true
      · rw [List.cons_append, List.dropWhile_cons_of_pos hc, List.dropWhile_cons_of_pos hc]; exact ih
      · left; rw [List.cons_append, List.dropWhile_cons_of_neg hc, List.dropWhile_cons_of_neg hc]; rfl
  rcases key v.reverse a.reverse with e | ⟨e1, e2⟩
  · show ((v.reverse ++ b :: a.reverse).dropWhile sp).reverse = _
    rw [e]; simp
  · show ((v.reverse ++ b :: a.reverse).dropWhile sp).reverse = _
    rw [e2, e1]; simp
theorem dropWhile_head {α : Type} (p : α → Bool) {a : α} {l : List α} (h : p a = false) : (a :: l).dropWhile p = a :: l := List.dropWhile_cons_of_neg (by simp [h])
theorem strip_spaces {x : List Nat} (h : ∀ c ∈ x, sp c = true) : stripL x = [] := by
  have := strip_front (x := []) h
  rw [List.append_nil] at this
  rw [this]; rfl
theorem strip_back {x : List Nat} {c : Nat} (h : sp c = true) : stripL (x ++ [c]) = stripL x := by
  by_cases hx : ∀ d ∈ x, sp d = true
  · rw [strip_spaces hx, strip_spaces fun d hd => by
      rcases List.mem_append.mp hd with q | q
      · exact hx d q
      · rw [List.mem_singleton.mp q]; exact h]
  · unfold stripL
    have : (x ++ [c]).dropWhile sp = x.dropWhile sp ++ [c] := by
      induction x with
      | nil => exact absurd (fun d hd => nomatch hd) hx
      | cons a x ih =>
        by_cases ha : sp a = true
        · rw [List.cons_append, List.dropWhile_cons_of_pos ha, List.dropWhile_cons_of_pos ha]
          exact ih fun q => hx fun d hd => (List.mem_cons.mp hd).elim (fun e => e ▸ ha) (q d)
        · rw [List.cons_append, List.dropWhile_cons_of_neg ha, List.dropWhile_cons_of_neg ha]; rfl
    rw [this, rstrip_sp h]
theorem cutAt_at {c : Nat} {k v : List Nat} (h : c ∉ k) : cutAt c (k ++ c :: v) = [k, v] := by
  unfold cutAt
  rw [if_pos (by simp)]
  have key : ∀ k : List Nat, c ∉ k → (k ++ c :: v).takeWhile (· != c) = k ∧ (k ++ c :: v).dropWhile (· != c) = c :: v := by
    intro k
    induction k with
    | nil => intro _; exact ⟨List.takeWhile_cons_of_neg (by simp), List.dropWhile_cons_of_neg (by simp)⟩
    | cons a k ih =>
      intro h
      have ha : (a != c) = true := by simp; exact fun e => h (e ▸ .head _)
      obtain ⟨i1, i2⟩ := ih fun q => h (.tail _ q)
      rw [List.cons_append, List.takeWhile_cons_of_pos (p := (· != c)) ha, List.dropWhile_cons_of_pos (p := (· != c)) ha, i1, i2]
      exact ⟨rfl, rfl⟩
  rw [(key k h).1, (key k h).2]; rfl
theorem cutAt_no {c : Nat} {x : List Nat} (h : c ∉ x) : cutAt c x = [x] := by unfold cutAt; rw [if_neg h]

/-! what is said of a part fits it -/
inductive Fit : List Nat → Say → Prop
  | blank {s : Say} : s.k = "none" ∨ s.k = "white" → Fit [] s
  | word {x : List Nat} {s : Say} : s.k = "word" → x ≠ [] → 61 ∉ x → Fit x s
  | bald {k : List Nat} {s : Say} : s.k = "bald" → 61 ∉ k → Fit (k ++ [61]) s
  | pair {k v : List Nat} {s : Say} : s.k = "pair" → 61 ∉ k → v ≠ [] → s.key = k → s.val = unq v → Fit (k ++ 61 :: v) s

theorem ne_kind {s : Say} {a b : Str} (h : s.k = a) (hab : (a == b) = false) : ¬ s.k = b := fun q => by rw [← h, q] at hab; simp at hab
theorem read_told : ∀ (l : List Part) (ps : List (Str × Str)), (∀ p ∈ l, Fit (stripL p.1) p.2) → keqv ps (l.map fun p => stripL p.1) = toldL true ps (saysOf l)
  | [], _, _ => rfl
  | p :: l, ps, h => by
    have hp := h p (.head _)
    have ih := fun ps => read_told l ps fun q hq => h q (.tail _ hq)
    show keqv ps (stripL p.1 :: l.map fun p => stripL p.1) = toldL true ps (p.2 :: saysOf l)
    rw [keqv, toldL]
    generalize stripL p.1 = x at hp
    cases hp with
    | blank hk =>
      have h1 : ¬ p.2.k = "pair" := by rcases hk with hk | hk <;> exact ne_kind hk (by decide)
      have h2 : ¬ p.2.k = "bald" := by rcases hk with hk | hk <;> exact ne_kind hk (by decide)
      rw [if_neg h1, if_neg h2, if_pos (.inr rfl), keqv1, cutAt_no (by simp)]
    | word hk hx hn =>
      rw [if_neg (ne_kind hk (by decide)), if_neg (ne_kind hk (by decide)), if_pos (.inl hk), keqv1, cutAt_no hn]
    | @bald k _ hk hn =>
      rw [if_neg (ne_kind hk (by decide)), if_pos hk, keqv1, show k ++ [61] = k ++ 61 :: [] from rfl, cutAt_at hn]; rfl
    | @pair k v _ hk hn hv e1 e2 =>
      rw [if_pos hk, keqv1, cutAt_at hn, e1, e2]
      simp only [hv, if_false]
      exact ih _
theorem read_told_loose : ∀ (l : List Part) (ps : List (Str × Str)), (∀ p ∈ l, Fit (stripL p.1) p.2) → keqv ps ((l.map fun p => stripL p.1).filter fun x => decide (x ≠ [])) = toldL false ps (saysOf l)
  | [], _, _ => rfl
  | p :: l, ps, h => by
    have hp := h p (.head _)
    have ih := fun ps => read_told_loose l ps fun q hq => h q (.tail _ hq)
    show keqv ps ((stripL p.1 :: l.map fun p => stripL p.1).filter fun x => decide (x ≠ [])) = toldL false ps (p.2 :: saysOf l)
    rw [toldL]
    generalize stripL p.1 = x at hp
    cases hp with
    | blank hk =>
      have h1 : ¬ p.2.k = "pair" := by rcases hk with hk | hk <;> exact ne_kind hk (by decide)
      have h2 : ¬ p.2.k = "bald" := by rcases hk with hk | hk <;> exact ne_kind hk (by decide)
      have h3 : ¬ (p.2.k = "word" ∨ false = true) := by
        rintro (q | q)
        · rcases hk with hk | hk <;> exact ne_kind hk (by decide) q
        · cases q
      rw [if_neg h1, if_neg h2, if_neg h3, List.filter_cons_of_neg (by simp)]
      exact ih ps
    | word hk hx hn =>
      rw [List.filter_cons_of_pos (by simpa using hx), keqv, if_neg (ne_kind hk (by decide)), if_neg (ne_kind hk (by decide)), if_pos (.inl hk), keqv1, cutAt_no hn]
    | @bald k _ hk hn =>
      rw [List.filter_cons_of_pos (by simp), keqv, if_neg (ne_kind hk (by decide)), if_pos hk, keqv1, show k ++ [61] = k ++ 61 :: [] from rfl, cutAt_at hn]; rfl
    | @pair k v _ hk hn hv e1 e2 =>
      rw [List.filter_cons_of_pos (by simp), keqv, if_pos hk, keqv1, cutAt_at hn, e1, e2]
      simp only [hv, if_false]
      exact ih _

/-! the states of the writer -/
structure Inv (st : LS) (e q : Bool) : Prop where
  run : st.text.foldl pstep ⟨[], [], false, false⟩ = ⟨st.done.map (·.1), st.shown, e, q⟩
  done : ∀ p ∈ st.done, Fit (stripL p.1) p.2
  now : Fit (stripL st.shown) st.says
  codes : Cp st.text
theorem Inv.ok {st : LS} {e q : Bool} (h : Inv st e q) (hlen : st.text.length ≤ 500) : st.ok := by
  have fits : ∀ p ∈ partsOf st.done st.shown st.says, Fit (stripL p.1) p.2 := fun p hp => by
    unfold partsOf at hp
    split at hp
    · exact h.done p hp
    · rcases List.mem_append.mp hp with z | z
      · exact h.done p z
      · rw [List.mem_singleton.mp z]; exact h.now
  have hparts : httpL st.text = (partsOf st.done st.shown st.says).map fun p => stripL p.1 := by
    unfold httpL pend partsOf
    rw [h.run]
    show (if st.shown = [] then st.done.map (·.1) else st.done.map (·.1) ++ [st.shown]).map stripL = _
    split
    · rw [List.map_map]; rfl
    · rw [List.map_append, List.map_append, List.map_map]; rfl
  have pin := PInv.run (S := st.text) st.text (n := 0) (st := ⟨[], [], false, false⟩) ⟨by simp, by simp, by simp, by simp⟩ fun c hc => hc
  rw [h.run] at pin
  refine ⟨hlen, h.codes, hparts, fun p hp => ?_, ?_, ?_⟩
  · unfold partsOf at hp
    have a : ∀ p ∈ st.done, p.1.length ≤ 1000 := fun p hp => Nat.le_trans (pin.each p.1 (List.mem_map.mpr ⟨p, hp, rfl⟩)).1 (by omega)
    split at hp
    · exact a p hp
    · rcases List.mem_append.mp hp with z | z
      · exact a p z
      · rw [List.mem_singleton.mp z]; have := pin.part; show st.shown.length ≤ 1000; simp at this; omega
  · rw [hparts]; exact read_told _ _ fits
  · rw [hparts]; exact read_told_loose _ _ fits
end Mine
end

section
open PySem PySem.W PySem.Calls PyProof.Rows
set_option maxRecDepth 100000
set_option autoImplicit false
set_option linter.unusedVariables false
namespace Mine

/-- after each step the state is sound; e, q at the end -/
def Goes : LS → Bool → Bool → List Stp → (LS → Bool → Bool → Prop) → Prop
  | st, e, q, [], P => P st e q
  | st, _, _, s :: r, P => ∃ e' q', Inv (lstep st s) e' q' ∧ Goes (lstep st s) e' q' r P
theorem Goes.append {P : LS → Bool → Bool → Prop} : ∀ {a b : List Stp} {st : LS} {e q : Bool}, Goes st e q a (fun st' e' q' => Goes st' e' q' b P) → Goes st e q (a ++ b) P
  | [], _, _, _, _, h => h
  | s :: a, b, st, e, q, h => by
    obtain ⟨e', q', h1, h2⟩ := h
    exact ⟨e', q', h1, Goes.append h2⟩
theorem Goes.mono {P P' : LS → Bool → Bool → Prop} (hP : ∀ st e q, P st e q → P' st e q) : ∀ {a : List Stp} {st : LS} {e q : Bool}, Goes st e q a P → Goes st e q a P'
  | [], _, _, _, h => hP _ _ _ h
  | s :: a, st, e, q, h => by
    obtain ⟨e', q', h1, h2⟩ := h
    exact ⟨e', q', h1, Goes.mono hP h2⟩
theorem Goes.all {P : LS → Bool → Bool → Prop} : ∀ {a : List Stp} {st : LS} {e q : Bool}, Goes st e q a P → (∀ s ∈ a, s.c.length = 1) → st.text.length + a.length ≤ 500 → AllCut st a
  | [], _, _, _, _, _, _ => trivial
  | s :: a, st, e, q, h, hc, hlen => by
    obtain ⟨e', q', h1, h2⟩ := h
    have c1 := hc s (.head _)
    have l1 : (lstep st s).text.length = st.text.length + 1 := by simp [lstep, c1]
    simp only [List.length_cons] at hlen
    exact ⟨h1.ok (by omega), Goes.all h2 (fun s' hs' => hc s' (.tail _ hs')) (by omega)⟩

/-- a step that ends no part -/
theorem Inv.next {st : LS} {e q e' q' : Bool} {s : Stp} {c : Nat} (h : Inv st e q) (hc : s.c = [c]) (he : s.ends = false) (hcp : c < 0x110000)
    (hp : ∀ r p, pstep ⟨r, p, e, q⟩ c = ⟨r, p ++ s.mark, e', q'⟩) (hf : Fit (stripL (st.shown ++ s.mark)) s.says) : Inv (lstep st s) e' q' := by
  refine ⟨?_, ?_, ?_, ?_⟩
  · unfold lstep; simp only [he, Bool.false_eq_true, if_false, hc, List.foldl_append, h.run, List.foldl_cons, List.foldl_nil, hp]
  · unfold lstep; simp only [he, Bool.false_eq_true, if_false]; exact h.done
  · unfold lstep; simp only [he, Bool.false_eq_true, if_false]; exact hf
  · unfold lstep; intro d hd
    rcases List.mem_append.mp hd with z | z
    · exact h.codes d z
    · rw [hc] at z; rw [List.mem_singleton.mp z]; exact hcp
/-- a comma that ends a part -/
theorem Inv.comma {st : LS} {s : Stp} (h : Inv st false false) (hc : s.c = [44]) (he : s.ends = true) (hs : s.says = sayNone) : Inv (lstep st s) false false ∧ (lstep st s).shown = [] ∧ (lstep st s).says = sayNone := by
  refine ⟨⟨?_, ?_, ?_, ?_⟩, by simp [lstep, he], by simp [lstep, hs]⟩
  · unfold lstep; simp only [he, if_true, hc, List.foldl_append, h.run, List.foldl_cons, List.foldl_nil]
    show PS.mk _ _ _ _ = _
    rw [List.map_append]; rfl
  · unfold lstep; simp only [he, if_true]
    intro p hp
    rcases List.mem_append.mp hp with z | z
    · exact h.done p z
    · rw [List.mem_singleton.mp z]; exact h.now
  · unfold lstep; simp only [he, if_true, hs]; exact .blank (.inl rfl)
  · unfold lstep; intro d hd
    rcases List.mem_append.mp hd with z | z
    · exact h.codes d z
    · rw [hc] at z; rw [List.mem_singleton.mp z]; decide

theorem plain_out {r : List (List Nat)} {p : List Nat} {c : Nat} (h1 : c ≠ 44) (h2 : c ≠ 34) : pstep ⟨r, p, false, false⟩ c = ⟨r, p ++ [c], false, false⟩ := by
  unfold pstep; simp [h1, h2]
theorem open_q {r : List (List Nat)} {p : List Nat} : pstep ⟨r, p, false, false⟩ 34 = ⟨r, p ++ [34], false, true⟩ := rfl
theorem plain_in {r : List (List Nat)} {p : List Nat} {c : Nat} (h1 : c ≠ 92) (h2 : c ≠ 34) : pstep ⟨r, p, false, true⟩ c = ⟨r, p ++ [c], false, true⟩ := by
  unfold pstep; simp [h1, h2]
theorem esc_in {r : List (List Nat)} {p : List Nat} : pstep ⟨r, p, false, true⟩ 92 = ⟨r, p ++ [], true, true⟩ := by unfold pstep; simp
theorem escaped {r : List (List Nat)} {p : List Nat} {c : Nat} : pstep ⟨r, p, true, true⟩ c = ⟨r, p ++ [c], false, true⟩ := rfl
theorem close_q {r : List (List Nat)} {p : List Nat} : pstep ⟨r, p, false, true⟩ 34 = ⟨r, p ++ [34], false, false⟩ := rfl

def AllSp (l : List Nat) : Prop := ∀ c ∈ l, sp c = true
theorem gap_goes : ∀ (l : List Nat) (st : LS), Inv st false false → (∀ c ∈ l, c = 44 ∨ c = 32 ∨ c = 9) → Goes st false false (gapL l st.says) fun st' e q => e = false ∧ q = false ∧ Inv st' false false ∧ (AllSp st.shown ∨ 44 ∈ l → AllSp st'.shown)
  | [], st, h, _ => ⟨rfl, rfl, h, fun q => q.elim id fun z => nomatch z⟩
  | c :: cs, st, h, hl => by
    by_cases hc : c = 44
    · subst hc
      have e : gapL (44 :: cs) st.says = ⟨[44], [], sayNone, true⟩ :: gapL cs sayNone := by rw [gapL, if_pos rfl]
      rw [e]
      obtain ⟨i1, i2, i3⟩ := h.comma (s := ⟨[44], [], sayNone, true⟩) rfl rfl rfl
      refine ⟨false, false, i1, ?_⟩
      have := gap_goes cs _ i1 fun d hd => hl d (.tail _ hd)
      rw [i3] at this
      refine Goes.mono (fun st' e q ⟨a1, a2, a3, a4⟩ => ⟨a1, a2, a3, fun _ => a4 (.inl ?_)⟩) this
      rw [i2]; intro d hd; cases hd
    · have hs : c = 32 ∨ c = 9 := (hl c (.head _)).resolve_left hc
      have hsp : sp c = true := by rcases hs with rfl | rfl <;> decide
      have h34 : c ≠ 34 := by rcases hs with rfl | rfl <;> decide
      have hcp : c < 0x110000 := by rcases hs with rfl | rfl <;> decide
      have step : ∀ s : Say, Fit (stripL st.shown) s → gapL (c :: cs) st.says = ⟨[c], [c], s, false⟩ :: gapL cs s → Goes st false false (gapL (c :: cs) st.says) fun st' e q => e = false ∧ q = false ∧ Inv st' false false ∧ (AllSp st.shown ∨ 44 ∈ c :: cs → AllSp st'.shown) := fun s hf e => by
        rw [e]
        have i1 := h.next (s := ⟨[c], [c], s, false⟩) (c := c) rfl rfl hcp (fun r p => plain_out hc h34) (by rw [strip_back hsp]; exact hf)
        refine ⟨false, false, i1, ?_⟩
        have := gap_goes cs _ i1 fun d hd => hl d (.tail _ hd)
        have e3 : (lstep st ⟨[c], [c], s, false⟩).says = s := rfl
        rw [e3] at this
        refine Goes.mono (fun st' e q ⟨a1, a2, a3, a4⟩ => ⟨a1, a2, a3, fun z => a4 ?_⟩) this
        rcases z with z | z
        · left
          show AllSp (st.shown ++ [c])
          intro d hd
          rcases List.mem_append.mp hd with w | w
          · exact z d w
          · rw [List.mem_singleton.mp w]; exact hsp
        · right
          rcases List.mem_cons.mp z with w | w
          · exact absurd w.symm hc
          · exact w
      by_cases hk : st.says.k = "none"
      · refine step sayWhite ?_ (by rw [gapL, if_neg hc, if_pos hk])
        have := h.now
        generalize stripL st.shown = x at this
        cases this with
        | blank _ => exact .blank (.inr rfl)
        | word q => exact absurd q (ne_kind hk (by decide))
        | bald q => exact absurd q (ne_kind hk (by decide))
        | pair q => exact absurd q (ne_kind hk (by decide))
      · exact step st.says h.now (by rw [gapL, if_neg hc, if_neg hk])
end Mine
end

section
open PySem PySem.W PySem.Calls PyProof.Rows
set_option maxRecDepth 100000
set_option autoImplicit false
set_option linter.unusedVariables false
namespace Mine

structure KeyOk (key : List Nat) : Prop where
  len : key.length ≤ 1
  each : ∀ c ∈ key, sp c = false ∧ c ≠ 61 ∧ c ≠ 44 ∧ c ≠ 34 ∧ c < 0x110000
theorem keyOf_ok (k : Nat) : KeyOk (keyOf k) := by
  unfold keyOf
  split
  · exact ⟨by decide, fun c hc => by rw [List.mem_singleton.mp hc]; exact ⟨by decide, by decide, by decide, by decide, by decide⟩⟩
  · exact ⟨by decide, fun c hc => nomatch hc⟩
  · exact ⟨by decide, fun c hc => by rw [List.mem_singleton.mp hc]; exact ⟨by decide, by decide, by decide, by decide, by decide⟩⟩
  · exact ⟨by decide, fun c hc => by rw [List.mem_singleton.mp hc]; exact ⟨by decide, by decide, by decide, by decide, by decide⟩⟩
theorem KeyOk.no61 {key : List Nat} (h : KeyOk key) : 61 ∉ key := fun q => (h.each 61 q).2.1 rfl
theorem sp61 : sp 61 = false := by decide
theorem sp34 : sp 34 = false := by decide
theorem KeyOk.head {key : List Nat} (h : KeyOk key) (v : List Nat) : (key ++ 61 :: v).dropWhile sp = key ++ 61 :: v := by
  cases key with
  | nil => exact dropWhile_head sp sp61
  | cons c r => exact dropWhile_head sp (h.each c (.head _)).1
theorem pairStrip {W key v : List Nat} (hW : AllSp W) (h : KeyOk key) : stripL (W ++ (key ++ 61 :: v)) = key ++ 61 :: rstripL v := by
  rw [strip_front hW]; unfold stripL; rw [h.head, rstrip_app sp61]

theorem signOf_lt (c : Int) : signOf c < 0x110000 := by
  have h := signOf_charAt c
  obtain ⟨r, hr, e⟩ := fmod_nat c 8 (by decide)
  have e' : c.fmod 8 = (r : Int) := e
  unfold signOf; rw [e']
  match r, hr with
  | 0, _ => decide
  | 1, _ => decide
  | 2, _ => decide
  | 3, _ => decide
  | 4, _ => decide
  | 5, _ => decide
  | 6, _ => decide
  | 7, _ => decide
theorem raw_lt (own : List Int) : ∀ c ∈ itemRaw own, c < 0x110000 := fun c hc => by
  unfold itemRaw at hc
  obtain ⟨i, _, rfl⟩ := List.mem_map.mp hc
  exact signOf_lt i

theorem unq_plain {v : List Nat} {h : Nat} {t : List Nat} (e : v = h :: t) (h34 : h ≠ 34) : unq v = v := by
  unfold unq; rw [if_neg fun q => h34 (by have := q.1; rw [e] at this; simpa using this)]
theorem half_unq (x : List Nat) : halfL (34 :: x) = unq (rstripL (34 :: x)) := by
  have e : rstripL (34 :: x) = 34 :: rstripL x := rstrip_app (a := []) sp34
  unfold halfL unq
  rw [e]
  by_cases h : (34 :: rstripL x).getLast? = some 34
  · rw [if_pos h, if_pos ⟨rfl, h⟩]
  · rw [if_neg h, if_neg fun q => h q.2]
theorem rstrip34 (x : List Nat) : rstripL (34 :: x) ≠ [] := rstripL_cons34 x

theorem bare_goes {W key : List Nat} (hW : AllSp W) (hk : KeyOk key) {h : Nat} (hh : sp h = false) (h34 : h ≠ 34) : ∀ (cs pre : List Nat) (st : LS), Inv st false false → st.shown = W ++ (key ++ 61 :: pre) →
    (∃ t, pre ++ cs = h :: t) → (∀ c ∈ cs, c ≠ 34 ∧ c ≠ 44 ∧ c < 0x110000) → cs ≠ [] →
    Goes st false false (bareL key pre cs) fun st' e q => e = false ∧ q = false ∧ Inv st' false false ∧ st'.says = pairSay key (rstripL (pre ++ cs))
  | [], _, _, _, _, _, _, hne => absurd rfl hne
  | c :: cs, pre, st, hi, hs, ht, hc, _ => by
    obtain ⟨c1, c2, c3⟩ := hc c (.head _)
    have hv : ∃ t', pre ++ [c] = h :: t' := by
      obtain ⟨t, et⟩ := ht
      cases pre with
      | nil => exact ⟨[], by simp at et; rw [et.1]; rfl⟩
      | cons a r => simp at et; exact ⟨r ++ [c], by rw [et.1]; rfl⟩
    obtain ⟨t', et'⟩ := hv
    have ev : rstripL (pre ++ [c]) = h :: rstripL t' := by rw [et']; exact rstrip_app (a := []) hh
    have i1 := hi.next (s := ⟨[c], [c], pairSay key (rstripL (pre ++ [c])), false⟩) (c := c) rfl rfl c3 (fun r p => plain_out c2 c1) (by
      show Fit (stripL (st.shown ++ [c])) _
      rw [hs, List.append_assoc, List.append_assoc]
      show Fit (stripL (W ++ (key ++ 61 :: (pre ++ [c])))) _
      rw [pairStrip hW hk]
      exact .pair rfl hk.no61 (by rw [ev]; simp) rfl (by rw [unq_plain ev h34]; rfl))
    refine ⟨false, false, i1, ?_⟩
    by_cases he : cs = []
    · subst he
      exact ⟨rfl, rfl, i1, rfl⟩
    · have := bare_goes hW hk hh h34 cs (pre ++ [c]) _ i1 (by show st.shown ++ [c] = _; rw [hs, List.append_assoc, List.append_assoc]; rfl) (by simpa using ht) (fun d hd => hc d (.tail _ hd)) he
      simpa using this

theorem quo_goes {W key : List Nat} {way : Int} (hW : AllSp W) (hk : KeyOk key) : ∀ (cs seen : List Nat) (st : LS), Inv st false true → st.shown = W ++ (key ++ 61 :: 34 :: seen) → (∀ c ∈ cs, c < 0x110000) →
    Goes st false true (quoL way key (34 :: seen) cs) fun st' e q => e = false ∧ q = true ∧ Inv st' false true ∧ st'.shown = W ++ (key ++ 61 :: 34 :: (seen ++ cs))
  | [], seen, st, hi, hs, _ => ⟨rfl, rfl, hi, by rw [hs, List.append_nil]⟩
  | c :: cs, seen, st, hi, hs, hc => by
    have fit : ∀ x : List Nat, Fit (stripL (W ++ (key ++ 61 :: 34 :: x))) (pairSay key (halfL (34 :: x))) := fun x => by
      rw [pairStrip hW hk]
      exact .pair rfl hk.no61 (rstrip34 x) rfl (half_unq x)
    have hs' : st.shown ++ [c] = W ++ (key ++ 61 :: 34 :: (seen ++ [c])) := by rw [hs]; simp
    have c3 := hc c (.head _)
    have more : ∀ st2 : LS, Inv st2 false true → st2.shown = W ++ (key ++ 61 :: 34 :: (seen ++ [c])) → Goes st2 false true (quoL way key (34 :: (seen ++ [c])) cs) fun st' e q => e = false ∧ q = true ∧ Inv st' false true ∧ st'.shown = W ++ (key ++ 61 :: 34 :: (seen ++ c :: cs)) := fun st2 h2 e2 => by
      have := quo_goes (way := way) hW hk cs (seen ++ [c]) st2 h2 e2 fun d hd => hc d (.tail _ hd)
      simpa using this
    by_cases hw : way = 1 ∨ c = 34 ∨ c = 92
    · have e : quoL way key (34 :: seen) (c :: cs) = ⟨[92], [], pairSay key (halfL (34 :: seen)), false⟩ :: ⟨[c], [c], pairSay key (halfL (34 :: (seen ++ [c]))), false⟩ :: quoL way key (34 :: (seen ++ [c])) cs := by
        rw [quoL, if_pos hw]; rfl
      rw [e]
      have i1 := hi.next (s := ⟨[92], [], pairSay key (halfL (34 :: seen)), false⟩) (c := 92) (e' := true) (q' := true) rfl rfl (by decide) (fun r p => esc_in) (by rw [List.append_nil, hs]; exact fit seen)
      have s1 : (lstep st ⟨[92], [], pairSay key (halfL (34 :: seen)), false⟩).shown = st.shown := by show st.shown ++ [] = _; simp
      have i2 := i1.next (s := ⟨[c], [c], pairSay key (halfL (34 :: (seen ++ [c]))), false⟩) (c := c) (e' := false) (q' := true) rfl rfl c3 (fun r p => escaped) (by rw [s1]; show Fit (stripL (st.shown ++ [c])) _; rw [hs']; exact fit _)
      refine ⟨true, true, i1, false, true, i2, more _ i2 ?_⟩
      show (lstep st _).shown ++ [c] = _
      rw [s1, hs']
    · have e : quoL way key (34 :: seen) (c :: cs) = ⟨[c], [c], pairSay key (halfL (34 :: (seen ++ [c]))), false⟩ :: quoL way key (34 :: (seen ++ [c])) cs := by
        rw [quoL, if_neg hw]; rfl
      rw [e]
      have i2 := hi.next (s := ⟨[c], [c], pairSay key (halfL (34 :: (seen ++ [c]))), false⟩) (c := c) (e' := false) (q' := true) rfl rfl c3 (fun r p => plain_in (fun z => hw (.inr (.inr z))) (fun z => hw (.inr (.inl z)))) (by show Fit (stripL (st.shown ++ [c])) _; rw [hs']; exact fit _)
      exact ⟨false, true, i2, more _ i2 hs'⟩

theorem pySl_mid (raw : List Nat) : pySl (34 :: (raw ++ [34])) (some 1) (some (-1)) = raw := by
  have e1 : clampI (some 1) 0 (34 :: (raw ++ [34])).length = 1 := by simp only [clampI, List.length_cons, List.length_append, List.length_nil]; omega
  have e2 : clampI (some (-1)) (34 :: (raw ++ [34])).length (34 :: (raw ++ [34])).length = raw.length + 1 := by simp only [clampI, List.length_cons, List.length_append, List.length_nil]; omega
  unfold pySl
  rw [e1, e2]
  simp

theorem item_goes (own : List Int) (st : LS) (hi : Inv st false false) (hW : AllSp st.shown) :
    Goes st false false (itemL own) fun st' e q => e = false ∧ q = false ∧ Inv st' false false ∧ st'.says = pairSay (itemKey own) (itemRaw own) := by
  have hk : KeyOk (itemKey own) := keyOf_ok _
  have hraw := raw_lt own
  unfold itemL
  generalize itemKey own = key at *
  generalize itemRaw own = raw at *
  generalize itemWay own = way at *
  generalize hWd : st.shown = W at *
  -- the key
  have word : Goes st false false (wordL key) fun st' e q => e = false ∧ q = false ∧ Inv st' false false ∧ st'.shown = W ++ key := by
    match key, hk with
    | [], _ => exact ⟨rfl, rfl, hi, by rw [hWd, List.append_nil]⟩
    | [c], hk =>
      obtain ⟨k1, k2, k3, k4, k5⟩ := hk.each c (.head _)
      have i1 := hi.next (s := ⟨[c], [c], ⟨"word", [], []⟩, false⟩) (c := c) rfl rfl k5 (fun r p => plain_out k3 k4) (by
        show Fit (stripL (st.shown ++ [c])) _
        rw [hWd, strip_front hW]
        have : stripL [c] = [c] := by unfold stripL; rw [dropWhile_head sp k1]; exact rstrip_end (x := []) k1
        rw [this]
        exact .word rfl (by simp) (by simp; exact fun z => k2 z.symm))
      exact ⟨false, false, i1, rfl, rfl, i1, by show st.shown ++ [c] = _; rw [hWd]⟩
    | _ :: _ :: _, hk => exact absurd hk.len (by simp)
  rw [List.append_assoc]
  refine Goes.append (Goes.mono (fun st1 e q ⟨a1, a2, i1, s1⟩ => ?_) word)
  subst a1; subst a2
  -- the equals sign
  have i2 := i1.next (s := ⟨[61], [61], ⟨"bald", [], []⟩, false⟩) (c := 61) rfl rfl (by decide) (fun r p => plain_out (by decide) (by decide)) (by
    show Fit (stripL (st1.shown ++ [61])) _
    rw [s1, List.append_assoc]
    show Fit (stripL (W ++ (key ++ 61 :: []))) _
    rw [pairStrip hW hk]
    exact .bald rfl hk.no61)
  have s2 : (lstep st1 ⟨[61], [61], ⟨"bald", [], []⟩, false⟩).shown = W ++ (key ++ 61 :: []) := by show st1.shown ++ [61] = _; rw [s1, List.append_assoc]
  refine ⟨false, false, i2, ?_⟩
  show Goes _ false false (if bareOk way raw = true then bareL key [] raw else _) _
  by_cases hb : bareOk way raw = true
  · rw [if_pos hb]
    unfold bareOk at hb
    simp only [Bool.and_eq_true, decide_eq_true_eq, Bool.not_eq_true', decide_eq_false_iff_not, and_true] at hb
    obtain ⟨hw, hne, hst, h44, h34⟩ := hb
    obtain ⟨h, t, hr⟩ : ∃ h t, raw = h :: t := by cases raw with | nil => exact absurd rfl hne | cons h t => exact ⟨h, t, rfl⟩
    have hsp : sp h = false := by
      cases q : sp h with
      | false => rfl
      | true =>
        exfalso
        have : (stripL raw).length < raw.length := by
          rw [hr]
          unfold stripL
          rw [List.dropWhile_cons_of_pos q]
          have h1 := rstripL_length (t.dropWhile sp)
          have h2 := (List.dropWhile_sublist sp (l := t)).length_le
          simp only [List.length_cons]; omega
        rw [← hst] at this; exact Nat.lt_irrefl _ this
    have hrs : rstripL raw = raw := by
      have : stripL raw = rstripL raw := by unfold stripL; rw [hr, dropWhile_head sp hsp]
      rw [← this]; exact hst.symm
    have := bare_goes hW hk hsp (fun z => h34 (by rw [hr, z]; exact .head _)) raw [] _ i2 s2 ⟨t, by rw [hr]; rfl⟩ (fun c hc => ⟨fun z => h34 (z ▸ hc), fun z => h44 (z ▸ hc), hraw c hc⟩) hne
    rw [List.nil_append, hrs] at this
    exact this
  · rw [if_neg hb, List.append_assoc]
    have fit : ∀ x : List Nat, Fit (stripL (W ++ (key ++ 61 :: 34 :: x))) (pairSay key (halfL (34 :: x))) := fun x => by
      rw [pairStrip hW hk]
      exact .pair rfl hk.no61 (rstrip34 x) rfl (half_unq x)
    have e0 : halfL [34] = [] := by decide
    have i3 := i2.next (s := ⟨[34], [34], pairSay key [], false⟩) (c := 34) (e' := false) (q' := true) rfl rfl (by decide) (fun r p => open_q) (by
      show Fit (stripL ((lstep st1 _).shown ++ [34])) _
      rw [s2, List.append_assoc, List.append_assoc]
      have := fit []
      rw [e0] at this
      exact this)
    refine ⟨false, true, i3, ?_⟩
    have s3 : (lstep (lstep st1 ⟨[61], [61], ⟨"bald", [], []⟩, false⟩) ⟨[34], [34], pairSay key [], false⟩).shown = W ++ (key ++ 61 :: 34 :: []) := by
      show (lstep st1 _).shown ++ [34] = _
      rw [s2, List.append_assoc, List.append_assoc]; rfl
    show Goes _ false true (quoL way key [34] raw ++ [⟨[34], [34], pairSay key raw, false⟩]) _
    refine Goes.append (Goes.mono (fun st4 e q ⟨a1, a2, i4, s4⟩ => ?_) (quo_goes (way := way) hW hk raw [] _ i3 s3 hraw))
    subst a1; subst a2
    rw [List.nil_append] at s4
    have i5 := i4.next (s := ⟨[34], [34], pairSay key raw, false⟩) (c := 34) (e' := false) (q' := false) rfl rfl (by decide) (fun r p => close_q) (by
      show Fit (stripL (st4.shown ++ [34])) _
      rw [s4, List.append_assoc, List.append_assoc]
      show Fit (stripL (W ++ (key ++ 61 :: (34 :: (raw ++ [34]))))) _
      rw [pairStrip hW hk]
      have er : rstripL (34 :: (raw ++ [34])) = 34 :: (raw ++ [34]) := rstrip_end (x := 34 :: raw) sp34
      rw [er]
      refine .pair rfl hk.no61 (by simp) rfl ?_
      unfold unq
      rw [if_pos ⟨rfl, by simp [List.getLast?_cons, List.getLast?_append]⟩, pySl_mid]
      rfl)
    exact ⟨false, false, i5, rfl, rfl, i5, rfl⟩
end Mine
end

section
open PySem PySem.W PySem.Calls PyProof.Rows
set_option maxRecDepth 100000
set_option autoImplicit false
set_option linter.unusedVariables false
namespace Mine

theorem tailGap_ok (k : Nat) : (∀ c ∈ tailGap k, c = 44 ∨ c = 32 ∨ c = 9) ∧ 44 ∈ tailGap k := by
  unfold tailGap; split <;> exact ⟨by decide, by decide⟩
theorem headGap_ok (k : Nat) : ∀ c ∈ headGap k, c = 44 ∨ c = 32 ∨ c = 9 := by
  unfold headGap; split <;> decide
theorem part_goes (own : List Int) (st : LS) (hi : Inv st false false) (hW : AllSp st.shown) :
    Goes st false false (partL own) fun st' e q => e = false ∧ q = false ∧ Inv st' false false ∧ AllSp st'.shown := by
  unfold partL
  refine Goes.append (Goes.mono (fun st1 e q ⟨a1, a2, i1, s1⟩ => ?_) (item_goes own st hi hW))
  subst a1; subst a2
  rw [← s1]
  obtain ⟨t1, t2⟩ := tailGap_ok ((own[5]?.getD 0).fmod 5).toNat
  exact Goes.mono (fun st2 e q ⟨b1, b2, i2, s2⟩ => ⟨b1, b2, i2, s2 (.inr t2)⟩) (gap_goes _ st1 i1 t1)
theorem parts_goes (cells : List Int) : ∀ (k j : Nat) (st : LS), Inv st false false → AllSp st.shown → Goes st false false (partsL cells j k) fun st' e q => True
  | 0, _, _, _, _ => trivial
  | k + 1, j, st, hi, hW => by
    show Goes st false false (partL (ownOf cells j) ++ partsL cells (j + 1) k) _
    refine Goes.append (Goes.mono (fun st1 e q ⟨a1, a2, i1, s1⟩ => ?_) (part_goes (ownOf cells j) st hi hW))
    subst a1; subst a2
    exact parts_goes cells k (j + 1) st1 i1 s1
theorem inv0 : Inv LS0 false false := ⟨rfl, (by intro p hp; cases hp), Fit.blank (.inl rfl), (by intro c hc; cases hc)⟩
theorem header_goes (cells : List Int) : Goes LS0 false false (headerL cells) fun st' e q => True := by
  unfold headerL
  refine Goes.append (Goes.mono (fun st1 e q ⟨a1, a2, i1, s1⟩ => ?_) (gap_goes _ LS0 inv0 (headGap_ok _)))
  subst a1; subst a2
  exact parts_goes cells _ _ st1 i1 (s1 (.inl (by intro c hc; cases hc)))

/-- each step of the header is one sign, and its mark one sign or none -/
def One (l : List Stp) : Prop := ∀ s ∈ l, s.c.length = 1 ∧ s.mark.length ≤ 1
theorem One.append {a b : List Stp} (x : One a) (y : One b) : One (a ++ b) := fun s hs => (List.mem_append.mp hs).elim (x s) (y s)
theorem One.cons {s : Stp} {b : List Stp} (x : s.c.length = 1 ∧ s.mark.length ≤ 1) (y : One b) : One (s :: b) := fun s' hs => (List.mem_cons.mp hs).elim (fun e => e ▸ x) (y s')
theorem One.nil : One [] := fun s hs => nomatch hs
theorem gap_one : ∀ (l : List Nat) (s : Say), One (gapL l s)
  | [], _ => One.nil
  | c :: cs, s => by
    unfold gapL
    split
    · exact One.cons ⟨rfl, by decide⟩ (gap_one cs _)
    · split
      · exact One.cons ⟨rfl, by simp⟩ (gap_one cs _)
      · exact One.cons ⟨rfl, by simp⟩ (gap_one cs _)
theorem bare_one (key : List Nat) : ∀ (l pre : List Nat), One (bareL key pre l)
  | [], _ => One.nil
  | c :: cs, pre => One.cons ⟨rfl, by simp⟩ (bare_one key cs _)
theorem quo_one (way : Int) (key : List Nat) : ∀ (l seen : List Nat), One (quoL way key seen l)
  | [], _ => One.nil
  | c :: cs, seen => by
    unfold quoL
    refine One.append ?_ (One.cons ⟨rfl, by simp⟩ (quo_one way key cs _))
    split
    · exact One.cons ⟨rfl, by simp⟩ One.nil
    · exact One.nil
theorem item_one (own : List Int) : One (itemL own) := by
  unfold itemL
  refine One.append (One.append ?_ (One.cons ⟨rfl, by simp⟩ One.nil)) ?_
  · intro s hs
    obtain ⟨c, _, rfl⟩ := List.mem_map.mp hs
    exact ⟨rfl, by simp⟩
  · split
    · exact bare_one _ _ _
    · exact One.append (One.append (One.cons ⟨rfl, by simp⟩ One.nil) (quo_one _ _ _ _)) (One.cons ⟨rfl, by simp⟩ One.nil)
theorem parts_one (cells : List Int) : ∀ (k j : Nat), One (partsL cells j k)
  | 0, _ => One.nil
  | k + 1, j => One.append (One.append (item_one _) (gap_one _ _)) (parts_one cells k (j + 1))
theorem header_one (cells : List Int) : One (headerL cells) := One.append (gap_one _ _) (parts_one _ _ _)
theorem parts_length {cells : List Int} (h : cells.length = 19) : ∀ (k j : Nat), j + k ≤ 3 → (partsL cells j k).length ≤ 20 * k
  | 0, _, _ => Nat.zero_le _
  | k + 1, j, hj => by
    have h1 := itemL_length (ownOf_length h (j := j) (by omega))
    have h2 := tailGap_length (((ownOf cells j)[5]?.getD 0).fmod 5).toNat
    have h3 := parts_length h k (j + 1) (by omega)
    show (partL (ownOf cells j) ++ partsL cells (j + 1) k).length ≤ _
    unfold partL
    rw [List.length_append, List.length_append, gapL_length]
    omega
theorem header_length {cells : List Int} (h : cells.length = 19) : (headerL cells).length ≤ 70 := by
  unfold headerL
  have h1 := headGap_length (((cells[0]?.getD 0).fdiv 3).fmod 4).toNat
  obtain ⟨r, hr, e⟩ := fmod_nat (cells[0]?.getD 0) 3 (by decide)
  have e' : (cells[0]?.getD 0).fmod 3 = (r : Int) := e
  have h2 := parts_length h (r + 1) 0 (by omega)
  rw [List.length_append, gapL_length, e']
  show _ + (partsL cells 0 (r + 1)).length ≤ 70
  omega
theorem cellsOf_length (ns : List Int) : (cellsOf 19 ns).length = 19 := by unfold cellsOf; rw [cellAdd_length]; simp

/-- what law 1 says, with no program in sight -/
theorem law1_plain (ns : List Int) : LS0.ok ∧ AllCut LS0 (headerL (cellsOf 19 ns)) ∧ ∀ s ∈ headerL (cellsOf 19 ns), s.c.length ≤ 100 ∧ s.mark.length ≤ 100 := by
  have one := header_one (cellsOf 19 ns)
  have len := header_length (cellsOf_length ns)
  refine ⟨inv0.ok (by decide), (header_goes _).all (fun s hs => (one s hs).1) ?_, fun s hs => ?_⟩
  · show 0 + _ ≤ 500; omega
  · have := one s hs; omega
end Mine
end

section
open PySem PySem.W PySem.Calls PyProof.Rows
set_option maxRecDepth 100000
set_option autoImplicit false
set_option linter.unusedVariables false
namespace Mine

/-- this def of the text lies in the fragment -/
def DefK (K : Frag) (x : Str) (st : Stmt) (names : List Str) : Prop := ∃ fa oc od osl fd, nsIn K mainGlobals x = some (some (.ref fa)) ∧ K.lookup fa = some ⟨oc, od, .func fd, osl⟩ ∧ fd.scope = defScope st ∧ fd.body = .stmts (defBody st) ∧
  codeIn K fd.code fd.qualname = true ∧ fd.globals = mainGlobals ∧ fd.builtins = builtinsNs ∧ ∀ vs : List Value, vs.length = names.length → bindArgs fd ⟨vs, []⟩ = pure (names.zip vs)

structure ScopeOk (st : Stmt) (names : List Str) : Prop where
  nd : names.Nodup
  loc : ∀ y ∈ names, (defScope st).names.lookup y = some .local
  cell : ∀ y ∈ (defScope st).names, y.2 ≠ .cell
  co : (defScope st).isCoroutine = false
  gen : (defScope st).isGenerator = false
  kind : (defScope st).kind = .function

theorem mkFn {D : Wd} (DO : D.Ok) {K : Frag} (X : K.In D.H0) {x : Str} {st : Stmt} {names : List Str} {ds : List PyData} {n : Nat} {P : PyData → Prop} (dk : DefK K x st names) (so : ScopeOk st names) (hlen : names.length = ds.length)
    (h : ∀ (A : Around) (fd : FuncData) (L fa : Addr) (stk : List Env) (H1 : Heap) (args : List Addr), (mkAct D A fd L fa stk H1 args n).Ok → fd.scope = defScope st → ∀ E, Ex (mkAct D A fd L fa stk H1 args n) E (slots names ds) (defBody st) (fun _ => False) (fun _ => P) (fun _ => False)) :
    Fn D n x ds P := by
  obtain ⟨fa, oc, od, osl, fd, h1, h2, h3, h4, h5, h6, h7, h8⟩ := dk
  refine Fn.intro DO (mg_of X DO.g h1) (X _ _ h2) rfl (codeRec_of X h5) h4 h8 hlen so.nd (fun y hy => by rw [h3]; exact so.loc y hy) (fun y hy => so.cell y (by rw [← h3]; exact hy)) h6 h7 (by rw [h3]; exact so.co) (by rw [h3]; exact so.gen) (by rw [h3]; exact so.kind)
    fun A L stk H1 args O E => RunF.mono (h A fd L fa stk H1 args O h3 E) (fun _ q => q.elim) (fun _ _ q => q) fun _ q => q
theorem mkFnIO {D : Wd} (DO : D.Ok) {K : Frag} (X : K.In D.H0) {x : Str} {st : Stmt} {pn : Str} {names : List Str} {xs ds : List PyData} {n : Nat} {P : PyData → List PyData → Prop} (dk : DefK K x st (pn :: names)) (so : ScopeOk st (pn :: names)) (hlen : names.length = ds.length)
    (h : ∀ (A : Around) (fd : FuncData) (L fa : Addr) (stk : List Env) (H1 : Heap) (args : List Addr) (pb : Addr), (mkActIO D A fd L fa stk H1 args n pn pb).Ok → fd.scope = defScope st → ∀ E, Ex (mkActIO D A fd L fa stk H1 args n pn pb) E ((pn, ⟨.list xs, true⟩) :: slots names ds) (defBody st)
      (fun ρ' => ∃ xs', ρ'.lookup pn = some ⟨.list xs', true⟩ ∧ atoms xs' = true ∧ P .none xs') (fun ρ' d => ∃ xs', ρ'.lookup pn = some ⟨.list xs', true⟩ ∧ atoms xs' = true ∧ atom d = true ∧ P d xs') (fun _ => False)) :
    FnIO D n x xs ds P := by
  obtain ⟨fa, oc, od, osl, fd, h1, h2, h3, h4, h5, h6, h7, h8⟩ := dk
  exact FnIO.intro DO (mg_of X DO.g h1) (X _ _ h2) rfl (codeRec_of X h5) h4 h8 hlen so.nd (fun y hy => by rw [h3]; exact so.loc y hy) (fun y hy => so.cell y (by rw [← h3]; exact hy)) h6 h7 (by rw [h3]; exact so.co) (by rw [h3]; exact so.gen) (by rw [h3]; exact so.kind)
    fun A L stk H1 args pb O E => h A fd L fa stk H1 args pb O h3 E

/-- the defs of law 1, as they lie in a fragment -/
structure Defs1 (K : Frag) : Prop where
  keqv : DefK K "parse_keqv_list" (S1 1) ["l"]
  http : DefK K "parse_http_list" (S1 2) ["s"]
  cells : DefK K "_law_cells" (S1 4) ["script"]
  gap : DefK K "_law_gap" (S1 5) ["steps", "signs", "says"]
  half : DefK K "_law_half" (S1 6) ["seen"]
  item : DefK K "_law_item" (S1 7) ["steps", "own"]
  header : DefK K "_law_header" (S1 8) ["cells"]
  read : DefK K "_law_read" (S1 9) ["items"]
  told : DefK K "_law_told" (S1 10) ["sayings", "strict"]
  cut : DefK K "_law_cut" (S1 11) ["text", "done", "shown", "says"]

/-- names that the text does not bind -/
structure Free1 (mg : Str → Option Value) : Prop where
  enum : mg "enumerate" = none
  range : mg "range" = none
  len : mg "len" = none
  list : mg "list" = none
  value : mg "ValueError" = none
  index : mg "IndexError" = none

theorem law1_fns {D : Wd} (DO : D.Ok) {K : Frag} (X : K.In D.H0) (dk : Defs1 K) (fr : Free1 D.mg) {ns : List Int} (hn : ns.length ≤ 63) :
    Fn D 0 "_law_cells" [.list (nums ns)] (fun d => d = .list (nums (cellsOf 19 ns))) ∧ Fn D 2 "_law_header" [.list (nums (cellsOf 19 ns))] (fun d => d = .list (dats (headerL (cellsOf 19 ns)))) ∧
    ∀ st : LS, st.ok → Fn D 2 "_law_cut" [.str (T st.text), .list (partDats st.done), .str (T st.shown), st.says.dat] fun d => d = .bool true := by
  have hhalf : ∀ l : List Nat, l.length ≤ 1000 → rstripL l ≠ [] → Fn D 0 "_law_half" [.str (T l)] fun d => d = .str (T (halfL l)) := fun l h1 h2 =>
    mkFn DO X dk.half ⟨by decide, by decide, by decide, rfl, rfl, rfl⟩ rfl fun A fd L fa stk H1 args O hfd E => half_ex O hfd E h1 h2
  have hgap : ∀ (xs : List Stp) (l : List Nat) (s : Say), xs.length + l.length ≤ 1000 → FnIO D 0 "_law_gap" (dats xs) [.str (T l), s.dat] fun d xs' => d = .none ∧ xs' = dats (xs ++ gapL l s) := fun xs l s h1 =>
    mkFnIO DO X dk.gap ⟨by decide, by decide, by decide, rfl, rfl, rfl⟩ rfl fun A fd L fa stk H1 args pb O hfd E => RunF.mono (gap_ex O hfd E h1) (fun ρ' ⟨xs', a1, a2, a3⟩ => ⟨xs', a1, a2, rfl, a3⟩) (fun _ _ q => q.elim) fun _ q => q
  have hitem : ∀ (xs : List Stp) (ns : List Int), ns.length = 6 → xs.length ≤ 500 → FnIO D 1 "_law_item" (dats xs) [.list (nums ns)] fun d xs' => d = (pairSay (itemKey ns) (itemRaw ns)).dat ∧ xs' = dats (xs ++ itemL ns) := fun xs ns h1 h2 =>
    mkFnIO DO X dk.item ⟨by decide, by decide, by decide, rfl, rfl, rfl⟩ rfl fun A fd L fa stk H1 args pb O hfd E => RunF.mono (item_ex O hfd E h1 h2 fr.range fr.len hhalf) (fun _ q => q.elim) (fun ρ' d ⟨xs', a1, a2, a3, a4⟩ => ⟨xs', a1, a2, by rw [a3]; rfl, a3, a4⟩) fun _ q => q
  have hhttp : ∀ l : List Nat, l.length ≤ 1000 → Fn D 0 "parse_http_list" [.str (T l)] fun d => d = .list (texts (httpL l)) := fun l h1 =>
    mkFn DO X dk.http ⟨by decide, by decide, by decide, rfl, rfl, rfl⟩ rfl fun A fd L fa stk H1 args O hfd E => http_ex O hfd E h1
  have hkeqv : ∀ xs : List (List Nat), (∀ x ∈ xs, x.length ≤ 1000) → xs.length ≤ 1000 → FnR D 0 "parse_keqv_list" [.list (texts xs)] (fun d => ∃ ps, keqv [] xs = .val ps ∧ d = .dict (ps.map sPair)) (fun c => keqv [] xs = .err c) := fun xs h1' h2' => by
    obtain ⟨fa, oc, od, osl, fd, h1, h2, h3, h4, h5, h6, h7, h8⟩ := dk.keqv
    have so : ScopeOk (S1 1) ["l"] := ⟨by decide, by decide, by decide, rfl, rfl, rfl⟩
    exact FnR.intro DO (mg_of X DO.g h1) (X _ _ h2) rfl (codeRec_of X h5) h4 h8 rfl so.nd (fun y hy => by rw [h3]; exact so.loc y hy) (fun y hy => so.cell y (by rw [← h3]; exact hy)) h6 h7 (by rw [h3]; exact so.co) (by rw [h3]; exact so.gen) (by rw [h3]; exact so.kind)
      fun A L stk H1 args O E m fp s1 Q hs k1 k3 hE => keqv_ex O h3 h1' h2' E m fp s1 Q hs k3 hE
  have hread : ∀ xs : List (List Nat), (∀ x ∈ xs, x.length ≤ 1000 ∧ Cp x) → xs.length ≤ 1000 → Fn D 1 "_law_read" [.list (texts xs)] fun d => d = (keqv [] xs).dat := fun xs h1 h2 =>
    mkFn DO X dk.read ⟨by decide, by decide, by decide, rfl, rfl, rfl⟩ rfl fun A fd L fa stk H1 args O hfd E => read_ex O hfd E (fun ps e => Nat.le_trans (keqv_ok xs (fun x hx => (h1 x hx).2) (by intro p hp; cases hp) e).2 (by simpa using h2)) (fun c e => keqv_err xs e) fr.list fr.value fr.index (hkeqv xs (fun x hx => (h1 x hx).1) h2)
  have htold : ∀ (ss : List Say) (strict : Bool), ss.length ≤ 1000 → Fn D 0 "_law_told" [.list (sayDats ss), .bool strict] fun d => d = (toldL strict [] ss).dat := fun ss strict h1 =>
    mkFn DO X dk.told ⟨by decide, by decide, by decide, rfl, rfl, rfl⟩ rfl fun A fd L fa stk H1 args O hfd E => told_ex O hfd E h1 fr.list
  refine ⟨?_, ?_, fun st hst => ?_⟩
  · exact mkFn DO X dk.cells ⟨by decide, by decide, by decide, rfl, rfl, rfl⟩ rfl fun A fd L fa stk H1 args O hfd E => cells_ex O hfd E ns hn fr.enum
  · exact mkFn DO X dk.header ⟨by decide, by decide, by decide, rfl, rfl, rfl⟩ rfl fun A fd L fa stk H1 args O hfd E => header_ex O hfd E (cellsOf_length ns) fr.range hgap hitem
  · exact mkFn DO X dk.cut ⟨by decide, by decide, by decide, rfl, rfl, rfl⟩ rfl fun A fd L fa stk H1 args O hfd E => cut_ex O hfd E hst hhttp hread htold

set_option maxHeartbeats 2000000 in
/-- law 1's own body, where the head left it -/
theorem law1_run {prog : Program} {w : World} {s₁ : Shared} {h₁ : Heap} {mg mb : Str → Option Value} {K : Frag} {fd : FuncData} {fa l : Addr} {vs : List Value} {ns : List Int} {Q : Flow → Shared → Prop} {E : Value → Shared → Prop}
    (gg : s₁.heap.Ns mainGlobals mg) (gb : s₁.heap.Ns builtinsNs mb) (gl : s₁.heap.NoLimit) (gx : ∀ x : Str, x ≠ "__name__" → mb x = bootBuiltins x) (gs : s₁.heap.NoSeer) (gt : prog.given.tree = none)
    (X : K.In s₁.heap) (dk : Defs1 K) (fr : Free1 mg) (hn : ns.length ≤ 63) (hfd : fd.scope = defScope (S1 12)) (hgl : fd.globals = mainGlobals) (hbl : fd.builtins = builtinsNs)
    (ho : s₁.heap.get? l = some (listO vs 0)) (hI : IntsAre vs ns) (F : Fr s₁.heap s₁.heap.objs.size h₁ fun x => List.lookup x [(("script" : Str), Value.ref l)])
    (hQ : ∀ h tk, (∀ b o, s₁.heap.get? b = some o → h.get? b = some o) → Q (.ret (.bool true)) { s₁ with heap := h, toks := tk }) (tk1 : Nat) :
    wpAny (model prog w) (callerA.deeper (callEnv fd s₁.heap.objs.size fa)) (execs (defBody (S1 12)) (callEnv fd s₁.heap.objs.size fa)) Q E { s₁ with heap := h₁, toks := tk1 } := by
  have DO : Wd.Ok ⟨prog, w, s₁.heap, mg, mb⟩ := ⟨gg, gb, gl, gx, gs, gt⟩
  obtain ⟨f1, f2, f3⟩ := law1_fns (D := ⟨prog, w, s₁.heap, mg, mb⟩) DO X dk fr hn
  obtain ⟨p1, p2, p3⟩ := law1_plain ns
  have Ln := get_size_none s₁.heap
  have hk : (callEnv fd s₁.heap.objs.size fa).scope.kind = .function := by show fd.scope.kind = _; rw [hfd]; rfl
  have stk' : StkOk s₁.heap [callEnv fd s₁.heap.objs.size fa] := fun e he => by
    rw [List.mem_singleton.mp he]; exact ⟨by rw [hk]; decide, _, rfl, Ln⟩
  have fr' : (callerA.deeper (callEnv fd s₁.heap.objs.size fa)).frames = some [callEnv fd s₁.heap.objs.size fa] := Around.frames_deeper rfl
  have O : (mkAct ⟨prog, w, s₁.heap, mg, mb⟩ callerA fd s₁.heap.objs.size fa [] s₁.heap [l] 3).Ok := by
    refine ⟨DO, fr', stk', rfl, (by show callerA.depth + 1 + 3 < 900; decide), (by show callerA.units + 3 + 10 * 3 < 9000; decide), hk, hgl, hbl, fun hh kh => ?_⟩
    exact SeerAt.of (env := callEnv fd s₁.heap.objs.size fa) (l := []) (DO.seer.keeps kh) DO.tree fr' (by show fd.scope.isGenerator = false; rw [hfd]; rfl) (by show fd.scope.isCoroutine = false; rw [hfd]; rfl) hbl hgl
  have rdI : ∀ {vs : List Value} {ns : List Int}, IntsAre vs ns → RdAll prog w h₁ vs (nums ns) [] := fun hi => by
    induction hi with
    | nil => exact .nil
    | cons n t _ ih => exact .cons (.int n t) ih
  have sat : Sat (mkAct ⟨prog, w, s₁.heap, mg, mb⟩ callerA fd s₁.heap.objs.size fa [] s₁.heap [l] 3) (slots ["script"] [.list (nums ns)]) (fun x => List.lookup x [(("script" : Str), Value.ref l)]) (fun _ => [l]) s₁.heap h₁ := by
    have Fe : (mkAct ⟨prog, w, s₁.heap, mg, mb⟩ callerA fd s₁.heap.objs.size fa [] s₁.heap [l] 3).F = [s₁.heap.objs.size] := rfl
    have hlL : l ≠ s₁.heap.objs.size := fun q => by rw [q, Ln] at ho; cases ho
    have slot : ∀ y sl, (slots ["script"] [.list (nums ns)]).lookup y = some sl → y = "script" ∧ sl = ⟨.list (nums ns), false⟩ := fun y sl e => by
      have e' : List.lookup y [(("script" : Str), (⟨.list (nums ns), false⟩ : Slot))] = some sl := e
      rw [Ro.lookup_cons] at e'
      by_cases h : y = "script"
      · rw [if_pos h] at e'; cases e'; exact ⟨h, rfl⟩
      · rw [if_neg h] at e'; cases e'
    refine ⟨F.keep, fun b o e => ⟨o, F.keep b o e⟩, Kp.ext F.keep, Ln, Ln, F.ns, ?_, ?_, ?_, ?_, (by intro y e; cases e)⟩
    · rw [Fe]; intro b hb
      rw [List.mem_singleton.mp hb]
      obtain ⟨o, es, ep, ho, hd, _⟩ := F.ns
      exact ⟨o, es, ep, ho, hd⟩
    · intro y sl e
      obtain ⟨rfl, rfl⟩ := slot y sl e
      exact ⟨.ref l, rfl, .list (F.keep _ _ ho) (rdI hI)⟩
    · intro y sl e b hb
      rw [List.mem_singleton.mp hb, Fe]
      exact ⟨hlL, fun q => hlL (List.mem_singleton.mp q), .inr (.head _)⟩
    · intro y sl e ow
      obtain ⟨_, rfl⟩ := slot y sl e
      cases ow
  exact Ex.go (law_ex O hfd E hn p1 p2 p3 f1 f2 f3) sat (fun _ _ _ _ _ _ q => q.elim) (fun _ _ _ _ _ _ q => q.elim) fun ρ' m' fp' v d as h tk r p => by
    subst p
    obtain ⟨rfl, _⟩ := r.rd.bool_inv
    exact hQ h tk r.sat.top
end Mine
end

section
open PySem PySem.W PySem.Calls PyProof.Rows
set_option maxRecDepth 100000
set_option autoImplicit false
set_option linter.unusedVariables false
namespace Mine
theorem wellAllInts {P : Params} {h : Heap} : ∀ {ns : List Int} {vs : List Value}, WellAll P h vs (ns.map WData.int) → IntsAre vs ns
  | [], _, r => by cases r; exact .nil
  | n :: ns, _, r => by
    rw [List.map_cons] at r
    cases r with
    | cons r1 r2 => cases r1; exact .cons _ _ (wellAllInts r2)
theorem wellInts {P : Params} {h : Heap} {l : Addr} {ns : List Int} (w : Well P h (.ref l) (.list (ns.map WData.int))) : ∃ vs, h.get? l = some (listO vs 0) ∧ IntsAre vs ns := by
  cases w with
  | list ho r => exact ⟨_, ho, wellAllInts r⟩
theorem ofPyInts (ns : List Int) : ofPy (.list (ns.map PyData.int)) = .list (ns.map WData.int) := by
  have key : ∀ ns : List Int, ofPys (ns.map PyData.int) = ns.map WData.int := by
    intro ns
    induction ns with
    | nil => rfl
    | cons n ns ih => simp [ofPys, ofPy, ih]
  simp [ofPy, key]
end Mine
end

open PySem PySem.W PyProof.Rows
set_option maxRecDepth 100000 in
set_option maxHeartbeats 8000000 in
theorem PySem.Challenge.cw_rl0159_01_holds : PySem.Challenge.rw_rl0159_01.Holds := by
  (w_on; o_law; k_head; (case hw => w_witness2); (k_go0; (all_goals try k_fold)))
  rename_i w s0 s1 mg mb G Y fa o pm doc kV ho hg KX X V GL T B TE TW w9 w8 M w7 w6 hcd ns hs hlay0 hL1 hr1 hl2 w4 w3 l vs w0 hL ra w1 r0 hI hr hc1 hc2 K0 hD h1 F N0
  rw [Mine.ofPyInts] at w1
  obtain ⟨vs', hw, hI'⟩ := Mine.wellInts w1
  have gt : (PySem.Challenge.rw_rl0159_01.row.prog).given.tree = none := rfl
  have hn : ns.length ≤ 63 := by omega
  refine Mine.law1_run (prog := PySem.Challenge.rw_rl0159_01.row.prog) (w := w) (mg := mg) (mb := mb) (l := l) (vs := vs') (ns := ns) (fa := fa)
    (fd := fnOf "law" "law" default [] (Mine.defScope (Mine.S1 12)) .none .none .none .none none (.ref w7) .none) T.g T.b T.nolimit T.builtins (T.seer ?s1) gt KX ?s2 ?s3 hn rfl rfl rfl hw hI' F ?s4 _
  case s1 => rfl
  case s2 =>
    constructor
    case gap => exact ⟨_, _, _, _, _, by rfl, by rfl, by rfl, by rfl, by rfl, by rfl, by rfl, fun vs h => match vs, h with | [v1, v2, v3], _ => by rfl⟩
    case item => exact ⟨_, _, _, _, _, by rfl, by rfl, by rfl, by rfl, by rfl, by rfl, by rfl, fun vs h => match vs, h with | [v1, v2], _ => by rfl⟩
    case told => exact ⟨_, _, _, _, _, by rfl, by rfl, by rfl, by rfl, by rfl, by rfl, by rfl, fun vs h => match vs, h with | [v1, v2], _ => by rfl⟩
    case cut => exact ⟨_, _, _, _, _, by rfl, by rfl, by rfl, by rfl, by rfl, by rfl, by rfl, fun vs h => match vs, h with | [v1, v2, v3, v4], _ => by rfl⟩
    all_goals exact ⟨_, _, _, _, _, by rfl, by rfl, by rfl, by rfl, by rfl, by rfl, by rfl, fun vs h => match vs, h with | [v1], _ => by rfl⟩
  case s3 => exact ⟨mg_none_of KX T.g (by rfl), mg_none_of KX T.g (by rfl), mg_none_of KX T.g (by rfl), mg_none_of KX T.g (by rfl), mg_none_of KX T.g (by rfl), mg_none_of KX T.g (by rfl)⟩
  case s4 =>
    intro h tk hk
    have post : ∀ a : List WData, PySem.Challenge.rw_rl0159_01.row.claim.post a (.bool true) a = true := fun a => by first | (with_unfolding_all rfl) | kernel_rfl | decide
    exact ⟨.inl ⟨.bool true, .bool true, [], rfl, fun _ => rfl, .bool true, post _, fun _ => ⟨List.nodup_nil, by intro a h; cases h⟩⟩, hk, rfl, hg⟩

