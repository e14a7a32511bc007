import PyProof.Rows.All
import Wide.All
import OpenK.AllK
import Wide.FinOn
import PySem.Challenge.RW_ta0085_01
set_option Elab.async false
set_option linter.unusedVariables false
set_option genSizeOf false
set_option linter.unusedSectionVars false
section
open PySem PySem.W PyProof.Rows
set_option maxRecDepth 10000
namespace Mine
inductive D where
  | none
  | bool (b : Bool)
  | int (i : Int)
  | str (s : Str)
  | tup (ds : List D)
  | lst (ds : List D)
  | obj (fs : List (Str × D))
  | fn (k : String)
  deriving Inhabited
theorem noE {α : Type _} {x : α} {P : Prop} (h : none = some x) : P := by cases h
theorem ffE {P : Prop} (h : false = true) : P := Bool.noConfusion h
theorem bindE {α β : Type _} {P : Prop} {o : Option α} {f : α -> Option β} {y : β} (h : o.bind f = some y) (k : ∀ x, o = some x -> f x = some y -> P) : P := by
  cases o with
  | none => exact noE h
  | some x => exact k x rfl h
theorem mapE {α β : Type _} {P : Prop} {o : Option α} {f : α -> β} {y : β} (h : o.map f = some y) (k : ∀ x, o = some x -> f x = y -> P) : P := by
  cases o with
  | none => exact noE h
  | some x => exact k x rfl (Option.some.inj h)
theorem ifE {α : Type _} {c : Prop} [Decidable c] {x y : α} {P : Prop} (h : (if c then some x else none) = some y) (k : c -> x = y -> P) : P := by
  by_cases hc : c
  · rw [if_pos hc] at h; exact k hc (Option.some.inj h)
  · rw [if_neg hc] at h; exact noE h
theorem iteE {α : Type _} {c : Prop} [Decidable c] {x y z : α} {P : Prop} (h : (if c then x else y) = z) (k1 : c -> x = z -> P) (k2 : ¬ c -> y = z -> P) : P := by
  by_cases hc : c
  · rw [if_pos hc] at h; exact k1 hc h
  · rw [if_neg hc] at h; exact k2 hc h
theorem andE {a b : Bool} {P : Prop} (h : (a && b) = true) (k : a = true -> b = true -> P) : P := by
  cases a
  · exact ffE h
  · exact k rfl h
noncomputable def D.gI : D -> Option Int
  | .int i => some i
  | _ => Option.none
noncomputable def D.gS : D -> Option Str
  | .str s => some s
  | _ => Option.none
theorem zd8 {d : D} {i : Int} (h : d.gI = some i) : d = .int i := by cases d <;> first | exact noE h | (cases h; rfl)
theorem zgo {d : D} {i : Str} (h : d.gS = some i) : d = .str i := by cases d <;> first | exact noE h | (cases h; rfl)
noncomputable def D.gB : D -> Option Bool
  | .bool b => some b
  | _ => Option.none
noncomputable def D.gL : D -> Option (List D)
  | .lst ds => some ds
  | _ => Option.none
noncomputable def D.gLT : D -> Option (List D)
  | .lst ds => some ds
  | .tup ds => some ds
  | _ => Option.none
noncomputable def D.gF : D -> Option String
  | .fn k => some k
  | _ => Option.none
noncomputable def D.gO : D -> Option (List (Str × D))
  | .obj fs => some fs
  | _ => Option.none
theorem zkV {d : D} {i : Bool} (h : d.gB = some i) : d = .bool i := by cases d <;> first | exact noE h | (cases h; rfl)
theorem zp5 {d : D} {i : String} (h : d.gF = some i) : d = .fn i := by cases d <;> first | exact noE h | (cases h; rfl)
theorem zpS {d : D} {i : List (Str × D)} (h : d.gO = some i) : d = .obj i := by cases d <;> first | exact noE h | (cases h; rfl)
theorem znx {d : D} {i : List D} (h : d.gL = some i) : d = .lst i := by cases d <;> first | exact noE h | (cases h; rfl)
theorem zl4 {d : D} {i : List D} (h : d.gLT = some i) : d = .lst i ∨ d = .tup i := by cases d <;> first | exact noE h | (cases h; exact .inl rfl) | (cases h; exact .inr rfl)
noncomputable def D.gT : D -> Option (List D)
  | .tup ds => some ds
  | _ => Option.none
theorem zp8 {d : D} {i : List D} (h : d.gT = some i) : d = .tup i := by cases d <;> first | exact noE h | (cases h; rfl)
noncomputable def D.gN : D -> Bool
  | .none => true
  | _ => false
mutual
noncomputable def D.eqb : D -> D -> Bool
  | .none => D.gN
  | .bool a => λ e => e.gB.elim false (a == ·)
  | .int a => λ e => e.gI.elim false (a == ·)
  | .str a => λ e => e.gS.elim false (a == ·)
  | .tup a => λ e => e.gT.elim false (D.eqbs a)
  | .lst a => λ e => e.gL.elim false (D.eqbs a)
  | .obj _ => λ _ => false
  | .fn _ => λ _ => false
termination_by structural d => d
noncomputable def D.eqbs : List D -> List D -> Bool
  | [] => List.isEmpty
  | a :: as => λ es => es.head?.elim false λ b => D.eqb a b && D.eqbs as es.tail
termination_by structural ds => ds
end
mutual
noncomputable def D.toPy : D -> PyData
  | .none => .none
  | .bool b => .bool b
  | .int i => .int i
  | .str x => .str x
  | .tup ds => .tuple (D.toPys ds)
  | .lst ds => .list (D.toPys ds)
  | .obj _ | .fn _ => .none
noncomputable def D.toPys : List D -> List PyData
  | [] => []
  | d :: ds => D.toPy d :: D.toPys ds
end
noncomputable def D.shB (s : List D -> Bool) : D -> Bool
  | .int _ => true
  | .str x => PyData.strOk x
  | .tup ds => s ds
  | .lst ds => s ds
  | _ => false
noncomputable def D.sh : Nat -> D -> Bool
  | 0 => D.shB λ _ => false
  | n + 1 => D.shB λ ds => ds.all (D.sh n)
theorem shN {P : Prop} {n : Nat} {d : D} (h0 : ∀ s, D.shB s d = false) (h : d.sh n = true) : P := by cases n <;> exact ffE ((h0 _).symm.trans h)
theorem shT {P : Prop} {n : Nat} {ds : List D} (h : (D.tup ds).sh n = true) (k : ∀ m, ds.all (D.sh m) = true -> P) : P := by
  cases n with
  | zero => exact ffE h
  | succ n => exact k n h
theorem shL {P : Prop} {n : Nat} {ds : List D} (h : (D.lst ds).sh n = true) (k : ∀ m, ds.all (D.sh m) = true -> P) : P := by
  cases n with
  | zero => exact ffE h
  | succ n => exact k n h
theorem layB {n : Nat} {s : List D -> Bool} (hs : ∀ ds, s ds = true -> PyData.canLayAll0 (D.toPys ds) = true /\ PyData.depthAll (D.toPys ds) + 1 ≤ n) (d : D) (h : D.shB s d = true) : d.toPy.canLay0 = true /\ d.toPy.depth ≤ n := by
  cases d <;> first | exact ffE h | skip
  · exact ⟨rfl, Nat.zero_le _⟩
  · exact ⟨h, Nat.zero_le _⟩
  · have q := hs _ h
    exact ⟨q.1, q.2⟩
  · have q := hs _ h
    exact ⟨q.1, q.2⟩
theorem zj2 {n : Nat} {f : D -> Bool} (ih : ∀ d : D, f d = true -> d.toPy.canLay0 = true /\ d.toPy.depth ≤ n) : ∀ ds : List D, ds.all f = true -> PyData.canLayAll0 (D.toPys ds) = true /\ PyData.depthAll (D.toPys ds) + 1 ≤ n + 1
  | [], _ => by simp [D.toPys, PyData.canLayAll0, PyData.depthAll]
  | d :: ds, h => andE h λ h1 h2 => by
    have a1 := ih d h1
    have a2 := zj2 ih ds h2
    simp only [D.toPys, PyData.canLayAll0, PyData.depthAll, a1.1, a2.1, Bool.and_self, true_and]
    have b1 := a1.2
    have b2 := a2.2
    lia
theorem zh0 : ∀ (n : Nat) (d : D), d.sh n = true -> d.toPy.canLay0 = true /\ d.toPy.depth ≤ n
  | 0 => layB λ _ h => ffE h
  | n + 1 => layB (zj2 (zh0 n))
theorem eqvB {s : List D -> Bool} (hs : ∀ ds es, s ds = true -> s es = true -> PyData.eqvAll (D.toPys ds) (D.toPys es) = D.eqbs ds es) (d e : D) (h : D.shB s d = true) (k : D.shB s e = true) : PyData.eqv d.toPy e.toPy = D.eqb d e := by
  cases d <;> first | exact ffE h | skip
  · cases e <;> first | exact ffE k | rfl
  · cases e <;> first | exact ffE k | rfl
  · cases e <;> first | exact ffE k | exact hs _ _ h k | rfl
  · cases e <;> first | exact ffE k | exact hs _ _ h k | rfl
theorem zko {f : D -> Bool} (ih : ∀ d e : D, f d = true -> f e = true -> PyData.eqv d.toPy e.toPy = D.eqb d e) : ∀ ds es : List D, ds.all f = true -> es.all f = true -> PyData.eqvAll (D.toPys ds) (D.toPys es) = D.eqbs ds es
  | [], [], _, _ => rfl
  | [], _ :: _, _, _ => rfl
  | _ :: _, [], _, _ => rfl
  | d :: ds, e :: es, h, k => andE h λ h1 h2 => andE k λ k1 k2 => (congr (congrArg and (ih d e h1 k1)) (zko ih ds es h2 k2) : (PyData.eqv d.toPy e.toPy && PyData.eqvAll (D.toPys ds) (D.toPys es)) = (D.eqb d e && D.eqbs ds es))
theorem zhA : ∀ (n : Nat) (d e : D), d.sh n = true -> e.sh n = true -> PyData.eqv d.toPy e.toPy = D.eqb d e
  | 0 => eqvB λ _ _ h => ffE h
  | n + 1 => eqvB (zko (zhA n))
noncomputable def wsF : List Str := ["raw", "n", "nt", "norm", "is_simple"]
section
variable (gv : String -> Option Value) (h : Heap) (V : Addr -> Prop)
mutual
inductive Rep : Value -> D -> Prop
  | none : Rep .none .none
  | bool (b : Bool) : Rep (.bool b) (.bool b)
  | int (i : Int) (t : Tok) : Rep (.int i t) (.int i)
  | str (x : Str) (t : Tok) : Rep (.str x t) (.str x)
  | tup {a : Addr} {o : Obj} {vs : Array Value} {n : Nat} {ds : List D} : ¬ V a -> h.get? a = some o -> o.cls = .type "tuple" -> o.data = .seq vs n -> RepAll vs.toList ds -> Rep (.ref a) (.tup ds)
  | lst {a : Addr} {o : Obj} {vs : Array Value} {n : Nat} {ds : List D} : ¬ V a -> h.get? a = some o -> o.cls = .type "list" -> o.dict = none -> o.data = .seq vs n -> RepAll vs.toList ds -> Rep (.ref a) (.lst ds)
  | obj {a C dx : Addr} {es : List DictEntry} {n : Nat} {fs : List (Str × D)} : ¬ V a -> ¬ V dx -> h.get? a = some (instObj C dx) -> h.get? dx = some (dictOf es n) -> gv "Whitespace" = some (.ref C) -> fs.map (·.1) = wsF -> RepFs es fs -> Rep (.ref a) (.obj fs)
  | fn {k : String} {v : Value} : gv k = some v -> Rep v (.fn k)
inductive RepAll : List Value -> List D -> Prop
  | nil : RepAll [] []
  | cons {v : Value} {vs : List Value} {d : D} {ds : List D} : Rep v d -> RepAll vs ds -> RepAll (v :: vs) (d :: ds)
inductive RepFs : List DictEntry -> List (Str × D) -> Prop
  | nil : RepFs [] []
  | cons {k : Int} {x : Str} {t : Tok} {v : Value} {d : D} {es : List DictEntry} {fs : List (Str × D)} : Rep v d -> RepFs es fs -> RepFs (⟨k, .str x t, v⟩ :: es) ((x, d) :: fs)
end
end
section
variable {gv : String -> Option Value} {h h' : Heap} {V V' : Addr -> Prop}
variable (hk : ∀ a o, ¬ V a -> h.get? a = some o -> h'.get? a = some o /\ ¬ V' a) in
include hk in
theorem Rep.mono {v : Value} {d : D} (r : Rep gv h V v d) : Rep gv h' V' v d :=
  Rep.rec (motive_1 := λ v d _ => Rep gv h' V' v d) (motive_2 := λ vs ds _ => RepAll gv h' V' vs ds) (motive_3 := λ es fs _ => RepFs gv h' V' es fs)
    .none (λ b => .bool b) (λ i t => .int i t) (λ x t => .str x t) (λ h1 h2 h3 h4 _ r => .tup (hk _ _ h1 h2).2 (hk _ _ h1 h2).1 h3 h4 r) (λ h1 h2 h3 h0 h4 _ r => .lst (hk _ _ h1 h2).2 (hk _ _ h1 h2).1 h3 h0 h4 r)
    (λ h1 h2 h3 h4 h5 h6 _ r => .obj (hk _ _ h1 h3).2 (hk _ _ h2 h4).2 (hk _ _ h1 h3).1 (hk _ _ h2 h4).1 h5 h6 r) (λ e => .fn e) .nil (λ _ _ a b => .cons a b) .nil (λ _ _ a b => .cons a b) r
theorem RepAll.ind {P : List Value -> List D -> Prop} (h0 : P [] []) (h1 : ∀ {v vs d ds}, Rep gv h V v d -> RepAll gv h V vs ds -> P vs ds -> P (v :: vs) (d :: ds)) {vs : List Value} {ds : List D} (r : RepAll gv h V vs ds) : P vs ds :=
  RepAll.rec (motive_1 := λ _ _ _ => True) (motive_2 := λ vs ds _ => P vs ds) (motive_3 := λ _ _ _ => True) trivial (λ _ => trivial) (λ _ _ => trivial) (λ _ _ => trivial) (λ _ _ _ _ _ _ => trivial) (λ _ _ _ _ _ _ _ => trivial)
    (λ _ _ _ _ _ _ _ _ => trivial) (λ _ => trivial) h0 (λ a b _ ih => h1 a b ih) trivial (λ _ _ _ _ => trivial) r
theorem RepFs.ind {P : List DictEntry -> List (Str × D) -> Prop} (h0 : P [] []) (h1 : ∀ {k x t v d es fs}, Rep gv h V v d -> RepFs gv h V es fs -> P es fs -> P (⟨k, .str x t, v⟩ :: es) ((x, d) :: fs)) {es : List DictEntry} {fs : List (Str × D)} (r : RepFs gv h V es fs) : P es fs :=
  RepFs.rec (motive_1 := λ _ _ _ => True) (motive_2 := λ _ _ _ => True) (motive_3 := λ es fs _ => P es fs) trivial (λ _ => trivial) (λ _ _ => trivial) (λ _ _ => trivial) (λ _ _ _ _ _ _ => trivial) (λ _ _ _ _ _ _ _ => trivial)
    (λ _ _ _ _ _ _ _ _ => trivial) (λ _ => trivial) trivial (λ _ _ _ _ => trivial) h0 (λ a b _ ih => h1 a b ih) r
theorem RepAll.mono (hk : ∀ a o, ¬ V a -> h.get? a = some o -> h'.get? a = some o /\ ¬ V' a) {vs : List Value} {ds : List D} (r : RepAll gv h V vs ds) : RepAll gv h' V' vs ds := r.ind .nil λ a _ ih => .cons (a.mono hk) ih
theorem RepFs.mono (hk : ∀ a o, ¬ V a -> h.get? a = some o -> h'.get? a = some o /\ ¬ V' a) {es : List DictEntry} {fs : List (Str × D)} (r : RepFs gv h V es fs) : RepFs gv h' V' es fs := r.ind .nil λ a _ ih => .cons (a.mono hk) ih
theorem RepAll.length {vs : List Value} {ds : List D} (r : RepAll gv h V vs ds) : vs.length = ds.length := r.ind (P := λ vs ds => vs.length = ds.length) rfl λ _ _ ih => congrArg (· + 1) ih
theorem RepAll.append {vs ws : List Value} {ds es : List D} (r : RepAll gv h V vs ds) (q : RepAll gv h V ws es) : RepAll gv h V (vs ++ ws) (ds ++ es) := r.ind (P := λ vs ds => RepAll gv h V (vs ++ ws) (ds ++ es)) q λ a _ ih => .cons a ih
theorem RepAll.get {vs : List Value} {ds : List D} (r : RepAll gv h V vs ds) {k : Nat} {d : D} (e : ds[k]? = some d) : ∃ v, vs[k]? = some v /\ Rep gv h V v d :=
  r.ind (P := λ vs ds => ∀ k d, ds[k]? = some d -> ∃ v, vs[k]? = some v /\ Rep gv h V v d) (λ k d e => noE (List.getElem?_nil.symm.trans e)) (λ {v vs d' ds} a _ ih k => Nat.casesOn k (λ d e => ⟨v, rfl, Option.some.inj e ▸ a⟩) λ k d e => ih k d e) k d e
theorem RepAll.drop {vs : List Value} {ds : List D} (r : RepAll gv h V vs ds) (k : Nat) : RepAll gv h V (vs.drop k) (ds.drop k) :=
  r.ind (P := λ vs ds => ∀ k, RepAll gv h V (vs.drop k) (ds.drop k)) (λ k => by rw [List.drop_nil, List.drop_nil]; exact .nil) (λ a b ih k => Nat.casesOn k (.cons a b) ih) k
theorem RepAll.take {vs : List Value} {ds : List D} (r : RepAll gv h V vs ds) (k : Nat) : RepAll gv h V (vs.take k) (ds.take k) :=
  r.ind (P := λ vs ds => ∀ k, RepAll gv h V (vs.take k) (ds.take k)) (λ k => by rw [List.take_nil, List.take_nil]; exact .nil) (λ a _ ih k => Nat.casesOn k .nil λ k => .cons a (ih k)) k
theorem RepAll.set {vs : List Value} {ds : List D} (r : RepAll gv h V vs ds) {k : Nat} {v : Value} {d : D} (q : Rep gv h V v d) : RepAll gv h V (vs.set k v) (ds.set k d) :=
  r.ind (P := λ vs ds => ∀ k, RepAll gv h V (vs.set k v) (ds.set k d)) (λ _ => .nil) (λ a b ih k => Nat.casesOn k (.cons q b) λ k => .cons a (ih k)) k
noncomputable def LstAt (gv : String -> Option Value) (h : Heap) (V : Addr -> Prop) (v : Value) (ds : List D) : Prop := ∃ a vs, v = .ref a /\ h.IsList a vs /\ RepAll gv h V vs.toList ds
noncomputable def TupAt (gv : String -> Option Value) (h : Heap) (V : Addr -> Prop) (v : Value) (ds : List D) : Prop := ∃ a vs, v = .ref a /\ h.IsTuple a vs /\ RepAll gv h V vs.toList ds
noncomputable def RepX (gv : String -> Option Value) (h : Heap) (V : Addr -> Prop) (v : Value) : D -> Prop
  | .none => v = .none
  | .bool b => v = .bool b
  | .int i => ∃ t, v = .int i t
  | .str x => ∃ t, v = .str x t
  | .tup ds => TupAt gv h V v ds
  | .lst ds => ∃ a vs, v = .ref a /\ PlainL h a vs /\ RepAll gv h V vs.toList ds
  | .obj fs => ∃ a C dx es n, v = .ref a /\ ¬ V a /\ ¬ V dx /\ h.get? a = some (instObj C dx) /\ h.get? dx = some (dictOf es n) /\ gv "Whitespace" = some (.ref C) /\ fs.map (·.1) = wsF /\ RepFs gv h V es fs
  | .fn k => gv k = some v
theorem Rep.inv {v : Value} {d : D} (r : Rep gv h V v d) : RepX gv h V v d :=
  Rep.casesOn (motive_1 := λ v d _ => RepX gv h V v d) r rfl (λ _ => rfl) (λ _ t => ⟨t, rfl⟩) (λ _ t => ⟨t, rfl⟩) (λ _ h2 h3 h4 h5 => ⟨_, _, rfl, ⟨_, h2, h3, _, h4⟩, h5⟩) (λ _ h2 h3 h0 h4 h5 => ⟨_, _, rfl, ⟨_, _, h2, h3, h0, h4⟩, h5⟩)
    (λ h1 h2 h3 h4 h5 h6 h7 => ⟨_, _, _, _, _, rfl, h1, h2, h3, h4, h5, h6, h7⟩) (λ e => e)
theorem Rep.lst_plain {v : Value} {ds : List D} (r : Rep gv h V v (.lst ds)) : ∃ a vs, v = .ref a /\ PlainL h a vs /\ RepAll gv h V vs.toList ds := r.inv
theorem Rep.lstAt {v : Value} {ds : List D} (r : Rep gv h V v (.lst ds)) : LstAt gv h V v ds := by
  obtain ⟨a, vs, e, ⟨o, n, h2, h3, _, h4⟩, h5⟩ := r.inv
  exact ⟨_, _, e, ⟨_, h2, h3, _, h4⟩, h5⟩
theorem Rep.tupAt {v : Value} {ds : List D} (r : Rep gv h V v (.tup ds)) : TupAt gv h V v ds := r.inv
theorem Rep.int_inv {v : Value} {i : Int} (r : Rep gv h V v (.int i)) : ∃ t, v = .int i t := r.inv
theorem Rep.bool_inv {v : Value} {i : Bool} (r : Rep gv h V v (.bool i)) : v = .bool i := r.inv
theorem Rep.str_inv {v : Value} {i : Str} (r : Rep gv h V v (.str i)) : ∃ t, v = .str i t := r.inv
theorem Rep.none_inv {v : Value} (r : Rep gv h V v .none) : v = .none := r.inv
theorem Rep.fn_inv {v : Value} {k : String} (r : Rep gv h V v (.fn k)) : gv k = some v := r.inv
theorem zjr {vs : List Value} {ds : List D} (r : RepAll gv h V vs ds) : (∀ {v d}, Rep gv h V v d -> ∀ n, d.sh n = true -> ∃ as, Reads h v d.toPy as) -> ∀ n, ds.all (D.sh n) = true -> ∃ as, ReadsAll h vs (D.toPys ds) as := λ f =>
  r.ind (P := λ vs ds => ∀ n, ds.all (D.sh n) = true -> ∃ as, ReadsAll h vs (D.toPys ds) as) (λ _ _ => ⟨_, ReadsAll.nil⟩) λ a _ ih n hk => andE hk λ x y => (f a n x).elim λ _ p => (ih n y).elim λ _ q => ⟨_, ReadsAll.cons p q⟩
theorem Rep.reads {v : Value} {d : D} (n : Nat) (r : Rep gv h V v d) (hk : d.sh n = true) : ∃ as, Reads h v d.toPy as :=
  Rep.rec (motive_1 := λ v d _ => ∀ n, d.sh n = true -> ∃ as, Reads h v d.toPy as) (motive_2 := λ vs ds _ => ∀ n, ds.all (D.sh n) = true -> ∃ as, ReadsAll h vs (D.toPys ds) as) (motive_3 := λ _ _ _ => True)
    (λ n => shN λ _ => rfl) (λ _ n => shN λ _ => rfl) (λ i t _ _ => ⟨_, Reads.int i t⟩) (λ x t _ _ => ⟨_, Reads.str x t⟩) (λ _ h2 h3 h4 _ ih n hk => shT hk λ m hm => (ih m hm).elim λ _ q => ⟨_, .tuple h2 h3 h4 q⟩)
    (λ _ h2 h3 _ h4 _ ih n hk => shL hk λ m hm => (ih m hm).elim λ _ q => ⟨_, .list h2 h3 h4 q⟩) (λ _ _ _ _ _ _ _ _ n => shN λ _ => rfl) (λ _ n => shN λ _ => rfl)
    (λ _ _ => ⟨_, ReadsAll.nil⟩) (λ _ _ a b n hk => andE hk λ x y => (a n x).elim λ _ p => (b n y).elim λ _ q => ⟨_, ReadsAll.cons p q⟩) trivial (λ _ _ _ _ => trivial) r n hk
theorem RepAll.reads {vs : List Value} {ds : List D} (n : Nat) (r : RepAll gv h V vs ds) (hk : ∀ d ∈ ds, d.sh n = true) : ∃ as, ReadsAll h vs (D.toPys ds) as :=
  zjr r (λ r n => r.reads n) n (List.all_eq_true.mpr hk)
end
theorem gone {h : Heap} {a : Addr} {o : Obj} {P : Prop} (x : h.get? a = none) (y : h.get? a = some o) : P := noE (x.symm.trans y)
noncomputable def Al (V : Addr -> Prop) (h : Heap) : Prop := ∀ a, V a -> ∃ o, h.get? a = some o
theorem zaj (s : Shared) : Keeps s s := ⟨_, _, rfl, λ _ _ e => e⟩
theorem zah (s : Shared) (k : Nat) : Keeps s { s with toks := k } := ⟨_, _, rfl, λ _ _ e => e⟩
theorem zaW {a b c : Shared} (x : Keeps a b) (y : Keeps b c) : Keeps a c := by
  obtain ⟨h1, t1, rfl, k1⟩ := x
  obtain ⟨h2, t2, rfl, k2⟩ := y
  exact ⟨h2, t2, rfl, λ b o e => k2 b o (k1 b o e)⟩
theorem zai (s : Shared) (o : Obj) : Keeps s { s with heap := s.heap.push o } := ⟨_, _, rfl, λ _ _ e => Heap.get?_push_of_some _ e⟩
theorem zac {a b : Shared} (x : Keeps a b) : ∀ c o, a.heap.get? c = some o -> b.heap.get? c = some o := by
  obtain ⟨h1, t1, rfl, k1⟩ := x; exact k1
theorem Al.keeps {V : Addr -> Prop} {a b : Shared} (x : Al V a.heap) (k : Keeps a b) : Al V b.heap := λ c hc => (x c hc).imp λ o e => zac k c o e
theorem Al.fresh {V : Addr -> Prop} {h : Heap} (x : Al V h) {a : Addr} (e : h.get? a = none) : ¬ V a := λ hv => by
  obtain ⟨o, q⟩ := x a hv; rw [e] at q; cases q
theorem zav (h : Heap) : h.get? h.objs.size = none := by
  cases e : h.get? h.objs.size with
  | none => rfl
  | some o => exact absurd (Heap.lt_size e) (Nat.lt_irrefl _)
section
variable {gv : String -> Option Value} {V : Addr -> Prop} {a b : Shared}
theorem Rep.keeps {v : Value} {d : D} (r : Rep gv a.heap V v d) (k : Keeps a b) : Rep gv b.heap V v d := r.mono λ _ _ hv e => ⟨zac k _ _ e, hv⟩
theorem RepAll.keeps {v : List Value} {d : List D} (r : RepAll gv a.heap V v d) (k : Keeps a b) : RepAll gv b.heap V v d := r.mono λ _ _ hv e => ⟨zac k _ _ e, hv⟩
theorem LstAt.keeps {v : Value} {d : List D} (r : LstAt gv a.heap V v d) (k : Keeps a b) : LstAt gv b.heap V v d := by
  obtain ⟨l, vs, e, ⟨o, ho, r1⟩, r2⟩ := r
  exact ⟨l, vs, e, ⟨o, zac k _ _ ho, r1⟩, r2.keeps k⟩
theorem TupAt.keeps {v : Value} {d : List D} (r : TupAt gv a.heap V v d) (k : Keeps a b) : TupAt gv b.heap V v d := by
  obtain ⟨l, vs, e, ⟨o, ho, r1⟩, r2⟩ := r
  exact ⟨l, vs, e, ⟨o, zac k _ _ ho, r1⟩, r2.keeps k⟩
end
noncomputable def Gets (gv : String -> Option Value) (V : Addr -> Prop) (s : Shared) (d : D) (Q : Value -> Shared -> Prop) : Prop := ∀ v s', Keeps s s' -> Rep gv s'.heap V v d -> Q v s'
noncomputable def small (i : Int) : Bool := decide (-(2 ^ 29) ≤ i) && decide (i ≤ 2 ^ 29)
theorem small_iff {i : Int} : small i = true ↔ -(2 ^ 29) ≤ i /\ i ≤ 2 ^ 29 := by simp [small]
theorem zcX {i : Int} (h : small i = true) : Builtin.Int.intBits i ≤ 31 := by
  have := small_iff.mp h
  unfold Builtin.Int.intBits
  split
  · lia
  · rename_i h0
    have h0' : i.natAbs ≠ 0 := by simpa using h0
    have : i.natAbs.log2 < 30 := (Nat.log2_lt h0').mpr (by lia)
    lia
theorem zh1 {i : Int} (h : small i = true) : i.natAbs < 2 ^ 30 := by
  have := small_iff.mp h
  lia
theorem zgU {a b : Int} (h : small a = true) : IntMulOk a b := by
  unfold IntMulOk
  have := zcX h
  simp [shortFactorBits]
  intro h; lia
noncomputable def intP : Operator -> Int -> Int -> Option D
  | .Add, a, b => some (.int (a + b))
  | .Sub, a, b => some (.int (a - b))
  | .Mult, a, b => if small a then some (.int (a * b)) else none
  | .FloorDiv, a, b => if b ≠ 0 /\ small b = true then some (.int (a.fdiv b)) else none
  | .Mod, a, b => if b ≠ 0 then some (.int (a.fmod b)) else none
  | .Pow, a, b => if 0 ≤ b /\ b ≤ 64 /\ small a = true then some (.int (a ^ b.toNat)) else none
  | _, _, _ => none
noncomputable def strP : Operator -> Str -> D -> Option D
  | .Add, a, y => y.gS.bind λ b => if a.length + b.length ≤ 2 ^ 20 then some (.str (a ++ b)) else none
  | .Mult, a, y => y.gI.bind λ n => if a.length ≤ 1000 /\ n ≤ 1000 /\ -1000 ≤ n then some (.str (Txt.mul a n)) else none
  | _, _, _ => none
noncomputable def binP (op : Operator) (x y : D) : Option D :=
  match x with
  | .int a => y.gI.bind λ b => intP op a b
  | .str a => strP op a y
  | _ => none
section
variable {prog : Program} {w : World} {A : Around} {E : Value -> Shared -> Prop} {s : Shared} {gv : String -> Option Value} {V : Addr -> Prop} {Q : Value -> Shared -> Prop}
theorem zek {l b : Addr} {vs ws : Array Value} (hl : s.heap.IsList l vs) (hb : s.heap.IsList b ws)
    (h : Q (.ref s.heap.objs.size) { s with heap := s.heap.push { cls := .type "list", data := .seq (vs ++ ws) } })
    (hsz : vs.size + ws.size ≤ sizeLine) : wpAny (model prog w) A (binaryOp .Add (.ref l) (.ref b)) Q E s := by
  obtain ⟨⟨cls, dd, data, sl⟩, ho, hc, n, hd⟩ := id hl
  obtain ⟨⟨cls2, dd2, data2, sl2⟩, ho2, hc2, n2, hd2⟩ := id hb
  simp only at hc hd hc2 hd2
  subst hc hd hc2 hd2
  exact concat_meets ⟨_, ho, rfl⟩ ⟨_, ho2, rfl⟩ noFill_list_add seq_list_add PySem.F.slot_list_add PySem.F.entry_list_add (PySem.F.args_list_add_2 _ _) (list_addW l b vs ws n n2 dd dd2 sl sl2 hsz) ⟨ho, ho2, h⟩
theorem ziT {l : Addr} {items : Array Value} {k : Nat} {x : Int} {u : Tok}
    (hl : s.heap.get? l = some { cls := .type "list", dict := none, data := .seq items k, slots := #[] })
    (hlo : -(2 ^ 63 : Int) ≤ x) (hhi : x < 2 ^ 63) (hsz : items.size * x.toNat ≤ 2 ^ 24)
    (h : Q (.ref s.heap.objs.size) { s with heap := s.heap.push { cls := .type "list", data := .seq (List.foldl (λ x1 x2 => x1 ++ x2) #[] (List.replicate (if items.isEmpty = true then 0 else x.toNat) items)) } }) :
    wpAny (model prog w) A (binaryOp .Mult (.ref l) (.int x u)) Q E s :=
  wpAny_binaryOp_repeat_ref (T := "list") (U := "int") (by decide) ⟨_, hl, rfl⟩ (λ s' => typeIs_int s' x u) noFill_list_mul F.fills_int_mul F.slot_int_rmul repeat_list F.slot_int_index.lookup
    (call_meets F.slot_int_rmul (typeIs_int s x u) F.entry_int_rmul (F.args_int_rmul_2 _ _) (int___rmul___int_list x u l items k)
      ⟨hl, rfl, ⟨_, hl, rfl⟩, call_meets F.slot_list_mul ⟨_, hl, rfl⟩ F.entry_list_mul (F.args_list_mul_2 _ _)
        (AutoListH.list___mul___list_int_3 l items k x u (by simp [Builtin.List.listFitsIndex]; lia) (by lia) (by simp [Builtin.List.listTooLong, sizeLine]; lia))
        ⟨hl, h⟩⟩)
theorem zcz {s : Shared} {vs : Array Value} {ds : List D} (al : Al V s.heap) (r : RepAll gv s.heap V vs.toList ds) :
    Rep gv (s.heap.push { cls := .type "list", data := .seq vs }) V (.ref s.heap.objs.size) (.lst ds) :=
  .lst (al.fresh (zav _)) (Heap.get?_push_size _ rfl) rfl rfl rfl (r.mono λ _ _ hv e => ⟨Heap.get?_push_of_some _ e, hv⟩)
theorem zfn {s : Shared} {vs : Array Value} {ds : List D} (al : Al V s.heap) (r : RepAll gv s.heap V vs.toList ds) :
    Rep gv (s.heap.push { cls := .type "tuple", data := .seq vs }) V (.ref s.heap.objs.size) (.tup ds) :=
  .tup (al.fresh (zav _)) (Heap.get?_push_size _ rfl) rfl rfl (r.mono λ _ _ hv e => ⟨Heap.get?_push_of_some _ e, hv⟩)
theorem zjN {a b : Value} {ds es : List D} (al : Al V s.heap) (ha : LstAt gv s.heap V a ds) (hb : LstAt gv s.heap V b es) (hsz : ds.length + es.length ≤ 2 ^ 20) (G : Gets gv V s (.lst (ds ++ es)) Q) :
    wpAny (model prog w) A (binaryOp .Add a b) Q E s := by
  obtain ⟨l, vs, rfl, h1, r1⟩ := ha
  obtain ⟨k, ws, rfl, h2, r2⟩ := hb
  refine zek h1 h2 (G _ _ (zai _ _) (zcz al (by rw [Array.toList_append]; exact r1.append r2))) ?_
  have e1 := r1.length
  have e2 := r2.length
  rw [Array.length_toList] at e1 e2
  rw [sizeLine_eq]; lia
theorem zkR {x : Str} {n : Int} (h1 : x.length ≤ 1000) (h2 : n ≤ 1000) (h3 : -1000 ≤ n) : MulOk x n := by
  refine ⟨by simp; lia, λ h1 _ => ?_, λ h1 _ => ?_⟩
  · intro h2
    have h3 : (1000 : Int) ≤ (2 ^ 63 - 1) / n := (Int.le_ediv_iff_mul_le (by lia)).mpr (by lia)
    lia
  · have : x.length * n.toNat ≤ 1000 * 1000 := Nat.mul_le_mul (by lia) (by lia)
    simp [Builtin.Str.tooLong, sizeLine_eq]; lia
theorem zpd {op : Operator} {a b : Int} {t u : Tok} {d : D} (e : intP op a b = some d) (G : Gets gv V s d Q) : wpAny (model prog w) A (binaryOp op (.int a t) (.int b u)) Q E s := by
  cases op <;> first | exact noE e | skip
  · cases e; exact wpAny_add_int (G _ _ (zah _ _) (.int _ _))
  · cases e; exact sub_int' (G _ _ (zah _ _) (.int _ _))
  · refine ifE e λ hs e => ?_
    subst e; exact PyProof.Rows.mul_int (G _ _ (zah _ _) (.int _ _)) (zgU hs)
  · refine ifE e λ hs e => ?_
    subst e; exact mod_int' hs (G _ _ (zah _ _) (.int _ _))
  · refine ifE e λ hs e => ?_
    subst e
    refine pow_int hs.1 ?_ (G _ _ (zah _ _) (.int _ _))
    exact Int.le_trans (Int.mul_le_mul (Int.ofNat_le.mpr (zcX hs.2.2)) hs.2.1 hs.1 (by decide)) (by decide)
  · refine ifE e λ hs e => ?_
    subst e; exact floordiv_int hs.1 (G _ _ (zah _ _) (.int _ _)) (Or.inl (PyProof.noPylong_small (zh1 hs.2)))
theorem zo7 {op : Operator} {a : Str} {y d : D} {t : Tok} {v : Value} (hv : Rep gv s.heap V v y) (e : strP op a y = some d) (G : Gets gv V s d Q) : wpAny (model prog w) A (binaryOp op (.str a t) v) Q E s := by
  cases op <;> first | exact noE e | skip
  · refine bindE e λ b hb e => ifE e λ hs e => ?_
    subst e
    obtain ⟨u, rfl⟩ := (zgo hb ▸ hv).str_inv
    exact PyProof.Rows.add_str (λ t' tk => G _ _ (zah _ _) (.str _ _)) (by rw [sizeLine_eq]; lia)
  · refine bindE e λ n hb e => ifE e λ hs e => ?_
    subst e
    obtain ⟨u, rfl⟩ := (zd8 hb ▸ hv).int_inv
    refine SB.mul (zkR hs.1 hs.2.1 hs.2.2) (λ t' tk => G _ _ (zah _ _) (.str _ _))
theorem znC {op : Operator} {a b : Value} {da db d : D} (ha : Rep gv s.heap V a da) (hb : Rep gv s.heap V b db) (e : binP op da db = some d) (G : Gets gv V s d Q) :
    wpAny (model prog w) A (binaryOp op a b) Q E s := by
  cases da <;> first | exact noE e | skip
  · obtain ⟨t, rfl⟩ := ha.int_inv
    refine bindE e λ j hj e => ?_
    obtain ⟨u, rfl⟩ := (zd8 hj ▸ hb).int_inv
    exact zpd e G
  · obtain ⟨t, rfl⟩ := ha.str_inv
    exact zo7 hb e G
end
noncomputable def Kp (s s' : Shared) : Prop := Keeps s s' /\ s.toks ≤ s'.toks
theorem za4 (s : Shared) : Kp s s := ⟨zaj s, Nat.le_refl _⟩
theorem zae {a b c : Shared} (x : Kp a b) (y : Kp b c) : Kp a c := ⟨zaW x.1 y.1, Nat.le_trans x.2 y.2⟩
noncomputable def Runs {α : Type} (M : Model) (A : Around) (s : Shared) (t : Sem α) (P : α -> Shared -> Prop) : Prop :=
  ∀ (Q : α -> Shared -> Prop) (E : Value -> Shared -> Prop), (∀ v s', Kp s s' -> P v s' -> Q v s') -> wpAny M A t Q E s
section
variable {α β : Type} {M : Model} {A : Around} {s : Shared} {t : Sem α} {P : α -> Shared -> Prop}
theorem zam (h : ∀ (Q : α -> Shared -> Prop) (E : Value -> Shared -> Prop), (∀ v s', Keeps s s' -> P v s' -> Q v s') -> wpAny M A t Q E s) : Runs M A s t P :=
  λ Q E hQ => wpAny_with_toks (Nat.le_refl _) (h _ _ λ v s' k p hle => hQ v s' ⟨k, hle⟩ p)
theorem zfI {a : α} (h : P a s) : Runs M A s (pure a) P := λ Q E hQ => wpAny_pure (hQ _ _ (za4 s) h)
theorem Runs.mono {P' : α -> Shared -> Prop} (h : Runs M A s t P) (hp : ∀ v s', Kp s s' -> P v s' -> P' v s') : Runs M A s t P' :=
  λ Q E hQ => h Q E λ v s' k p => hQ v s' k (hp v s' k p)
theorem Runs.bind {f : α -> Sem β} {P' : β -> Shared -> Prop} (h : Runs M A s t P) (hf : ∀ v s', Kp s s' -> P v s' -> Runs M A s' (f v) P') : Runs M A s (t >>= f) P' :=
  λ Q E hQ => wpAny_bind (h _ _ λ v s' k p => hf v s' k p _ _ λ u s'' k' p' => hQ u s'' (zae k k') p')
end
inductive R where
  | d (x : D)
  | l (ds : List D)
noncomputable def R.asD : R -> Option D
  | .d x => some x
  | .l _ => none
theorem zev {r : R} {d : D} (h : r.asD = some d) : r = .d d := by cases r <;> first | exact noE h | (cases h; rfl)
noncomputable def R.asL : R -> Option (List D)
  | .l ds => some ds
  | .d x => x.gL
noncomputable def R.items : R -> Option (List D)
  | .l ds => some ds
  | .d x => x.gLT
noncomputable def R.on {α : Type} (f : D -> Option α) (r : R) : Option α := r.asD.bind f
noncomputable def RepR (gv : String -> Option Value) (h : Heap) (V : Addr -> Prop) (v : Value) : R -> Prop
  | .d x => Rep gv h V v x
  | .l ds => LstAt gv h V v ds
section
variable {gv : String -> Option Value} {h : Heap} {V : Addr -> Prop} {v : Value} {r : R}
theorem RepR.asL {ds : List D} (x : RepR gv h V v r) (e : r.asL = some ds) : LstAt gv h V v ds := by
  cases r with
  | l es => cases e; exact x
  | d y => exact Rep.lstAt (znx e ▸ x)
theorem RepR.items {ds : List D} (x : RepR gv h V v r) (e : r.items = some ds) : LstAt gv h V v ds ∨ TupAt gv h V v ds := by
  cases r with
  | l es => cases e; exact .inl x
  | d y =>
    rcases zl4 e with rfl | rfl
    · exact .inl (Rep.lstAt x)
    · exact .inr (Rep.tupAt x)
theorem RepR.asD {d : D} (x : RepR gv h V v r) (e : r.asD = some d) : Rep gv h V v d := by cases zev e; exact x
theorem RepR.vI {i : Int} (x : RepR gv h V v r) (e : r.on D.gI = some i) : ∃ t, v = .int i t := bindE e λ _ h e => (zd8 e ▸ x.asD h).int_inv
theorem RepR.vS {i : Str} (x : RepR gv h V v r) (e : r.on D.gS = some i) : ∃ t, v = .str i t := bindE e λ _ h e => (zgo e ▸ x.asD h).str_inv
theorem RepR.vB {i : Bool} (x : RepR gv h V v r) (e : r.on D.gB = some i) : v = .bool i := bindE e λ _ h e => (zkV e ▸ x.asD h).bool_inv
theorem RepR.vF {i : String} (x : RepR gv h V v r) (e : r.on D.gF = some i) : gv i = some v := bindE e λ _ h e => (zp5 e ▸ x.asD h).fn_inv
theorem RepR.vL {ds : List D} (x : RepR gv h V v r) (e : r.on D.gL = some ds) : Rep gv h V v (.lst ds) := bindE e λ _ h e => znx e ▸ x.asD h
theorem RepR.vO {fs : List (Str × D)} (x : RepR gv h V v r) (e : r.on D.gO = some fs) : Rep gv h V v (.obj fs) := bindE e λ _ h e => zpS e ▸ x.asD h
end
theorem RepR.keeps {gv : String -> Option Value} {V : Addr -> Prop} {a b : Shared} {v : Value} {r : R} (x : RepR gv a.heap V v r) (k : Keeps a b) : RepR gv b.heap V v r := by
  cases r with
  | d x' => exact Rep.keeps x k
  | l ds => exact LstAt.keeps x k
noncomputable def TabIs (prog : Program) (w : World) (gv : String -> Option Value) (tok : Str -> Option Int) (h : Heap) : Prop :=
  ∃ a f, gv "EXACT_TOKEN_TYPES" = some (.ref a) /\ (a == sysModules) = false /\ Heap.MapOf (strKind prog w) h a f /\
    ∀ x, match tok x with | some i => ∃ t, f x = some (.int i t) | none => f x = none
theorem TabIs.keeps {prog : Program} {w : World} {gv : String -> Option Value} {tok : Str -> Option Int} {a b : Shared} (x : TabIs prog w gv tok a.heap) (k : Keeps a b) : TabIs prog w gv tok b.heap := by
  obtain ⟨c, f, e1, e2, ⟨o, es, ep, h1, h2⟩, e4⟩ := x
  exact ⟨c, f, e1, e2, ⟨o, es, ep, zac k _ _ h1, h2⟩, e4⟩
structure Rm (A : Around) : Prop where
  handled : A.handled = none
  units : A.units + 400 < cLine
noncomputable def ordP : CmpOp -> Int -> Int -> Option Bool
  | .Lt, a, b => some (decide (a < b))
  | .LtE, a, b => some (decide (a ≤ b))
  | .Gt, a, b => some (decide (b < a))
  | .GtE, a, b => some (decide (b ≤ a))
  | _, _, _ => none
noncomputable def inL (x : D) (ds : List D) : Option Bool := if x.sh 7 = true /\ ds.all (D.sh 7) = true then some (ds.any λ y => D.eqb y x) else none
noncomputable def inD (tok : Str -> Option Int) (x : D) : D -> Option Bool
  | .str t => x.gS.map λ y => Txt.contains t y
  | .fn k => x.gS.bind λ y => if k = "EXACT_TOKEN_TYPES" then some (tok y).isSome else none
  | _ => none
noncomputable def inP (tok : Str -> Option Int) (x : D) (r : R) : Option Bool := match r.items with
  | some ds => inL x ds
  | none => r.asD.bind (inD tok x)
noncomputable def R.isFn (r : R) : Bool := (r.on D.gF).isSome
noncomputable def eqP (n : Bool) (x y : R) : Option D := x.asD.bind λ a => y.asD.bind λ b => if a.sh 8 = true /\ b.sh 8 = true then some (.bool (n ^^ D.eqb a b)) else none
noncomputable def isP (n : Bool) (x y : R) : Option D := (x.on D.gB).bind λ a => (y.on D.gB).map λ b => .bool (n ^^ (a == b))
noncomputable def cmpP (tok : Str -> Option Int) (op : CmpOp) (x y : R) : Option D := match op with
  | .Eq => eqP false x y
  | .NotEq => eqP true x y
  | .Is => isP false x y
  | .IsNot => isP true x y
  | .In => x.asD.bind λ a => (inP tok a y).map .bool
  | .NotIn => if y.isFn = true then none else x.asD.bind λ a => (inP tok a y).map λ b => .bool (!b)
  | op => (x.on D.gI).bind λ a => (y.on D.gI).bind λ b => (ordP op a b).map .bool
section
variable {prog : Program} {w : World} {A : Around} {s : Shared} {gv : String -> Option Value} {V : Addr -> Prop} {tok : Str -> Option Int}
theorem zcO {n : Nat} {d : D} (h : d.sh n = true) (hn : n ≤ 64) : SeqAt.shaped d.toPy = true := by
  have l := zh0 n d h
  unfold SeqAt.shaped
  rw [l.1, Bool.true_and]
  exact decide_eq_true (Nat.le_trans l.2 hn)
theorem zkj {n : Nat} {x : D} (hx : x.sh n = true) : ∀ {ds : List D}, (∀ d ∈ ds, d.sh n = true) -> ((D.toPys ds).any λ y => PyData.eqv y x.toPy) = ds.any λ y => D.eqb y x
  | [], _ => rfl
  | d :: ds, h => by
    rw [D.toPys, List.any_cons, List.any_cons, zkj hx (λ e he => h e (.tail _ he)), zhA n d x (h d (.head _)) hx]
theorem zfE {n : Nat} : ∀ {ds : List D}, (∀ d ∈ ds, d.sh n = true) -> PyData.canLayAll0 (D.toPys ds) = true /\ PyData.depthAll (D.toPys ds) ≤ n
  | [], _ => by simp [D.toPys, PyData.canLayAll0, PyData.depthAll]
  | d :: ds, h => by
    have h1 := zh0 n d (h d (.head _))
    have h2 := zfE λ e he => h e (.tail _ he)
    simp only [D.toPys, PyData.canLayAll0, PyData.depthAll, h1.1, h2.1, Bool.and_self, true_and]
    have a1 := h1.2
    have a2 := h2.2
    lia
theorem zob {E : Value -> Shared -> Prop} {Q : Value -> Shared -> Prop} {x c : Value} {dx : D} {ds : List D} (rm : Rm A) (rx : Rep gv s.heap V x dx) (hc : LstAt gv s.heap V c ds ∨ TupAt gv s.heap V c ds) (h1 : dx.sh 7 = true) (h2 : ds.all (D.sh 7) = true) {neg : Bool}
    (h : Q (.bool (neg ^^ ds.any λ y => D.eqb y dx)) s) : wpAny (model prog w) A (compareOp (if neg then .NotIn else .In) x c) Q E s := by
  have h2' : ∀ d ∈ ds, d.sh 7 = true := by simpa using h2
  obtain ⟨bs, qx⟩ := rx.reads 7 h1
  have l := zfE h2'
  have lx := zh0 7 dx h1
  have room : A.units + 1 + min (PyData.depthAll (D.toPys ds)) dx.toPy.depth < cLine := by
    have := rm.units
    have := Nat.min_le_left (PyData.depthAll (D.toPys ds)) dx.toPy.depth
    lia
  rw [<- zkj h1 h2'] at h
  rcases hc with ⟨a, vs, rfl, ⟨o, e1, e2, n, e3⟩, r⟩ | ⟨a, vs, rfl, ⟨o, e1, e2, n, e3⟩, r⟩
  · obtain ⟨as, q⟩ := r.reads 7 h2'
    cases neg
    · exact SeqAt.in_list_reads (.list e1 e2 e3 q) qx l.1 lx.1 room (by simpa using h)
    · exact SeqAt.notIn_list_reads (.list e1 e2 e3 q) qx l.1 lx.1 room (by simpa using h)
  · obtain ⟨as, q⟩ := r.reads 7 h2'
    cases neg
    · exact SeqAt.in_tuple_reads (.tuple e1 e2 e3 q) qx l.1 lx.1 room (by simpa using h)
    · exact SeqAt.notIn_tuple_reads (.tuple e1 e2 e3 q) qx l.1 lx.1 room (by simpa using h)
theorem zoU {E : Value -> Shared -> Prop} {Q : Value -> Shared -> Prop} {y : Str} {t : Tok} {c : Value} (T : TabIs prog w gv tok s.heap) (hc : gv "EXACT_TOKEN_TYPES" = some c) (h : ∀ k, Q (.bool (tok y).isSome) { s with toks := k }) :
    wpAny (model prog w) A (compareOp .In (.str y t) c) Q E s := by
  obtain ⟨a, f, e1, e2, e3, e4⟩ := T
  rw [e1] at hc; cases hc
  refine wpAny_in_of (strKind_is prog w y t) e2 e3 ?_
  have q := e4 y
  have e : (f y).isSome = (tok y).isSome := by
    cases hq : tok y with
    | none => rw [hq] at q; rw [q]; rfl
    | some i => rw [hq] at q; obtain ⟨u, q⟩ := q; rw [q]; rfl
  rw [e]; exact h _
theorem ziR {x c : Value} {dx : D} {r : R} {b : Bool} (rm : Rm A) (T : TabIs prog w gv tok s.heap) (rx : Rep gv s.heap V x dx) (rc : RepR gv s.heap V c r) (e : inP tok dx r = some b) (n : Bool) (hn : n = true -> r.isFn = false) :
    Runs (model prog w) A s (compareOp (if n then .NotIn else .In) x c) λ v _ => v = .bool (n ^^ b) := by
  refine zam λ Q E hQ => ?_
  unfold inP at e
  cases hi : r.items with
  | some ds =>
    rw [hi] at e
    refine ifE e λ hs e => ?_
    subst e
    exact zob rm rx (rc.items hi) hs.1 hs.2 (hQ _ _ (zaj s) rfl)
  | none =>
    rw [hi] at e
    refine bindE e λ c' hc e => ?_
    have rc' := rc.asD hc
    cases zev hc
    cases c' with
    | str t0 =>
      refine mapE e λ y hy e => ?_
      obtain ⟨t, rfl⟩ := (zgo hy ▸ rx).str_inv
      obtain ⟨u, rfl⟩ := rc'.str_inv
      subst e
      cases n
      · exact SB.contains (hQ _ _ (zaj s) (by rw [Bool.false_xor]))
      · exact SB.notContains (hQ _ _ (zaj s) (by rw [Bool.true_xor]))
    | fn k =>
      have e : (dx.gS.bind λ y => if k = "EXACT_TOKEN_TYPES" then some (tok y).isSome else none) = some b := e
      refine bindE e λ y hy e => ifE e λ hk e' => ?_
      obtain ⟨t, rfl⟩ := (zgo hy ▸ rx).str_inv
      cases n
      · subst hk e'
        exact zoU T rc'.fn_inv λ k => hQ _ _ (zah s k) (by rw [Bool.false_xor])
      · exact ffE (hn rfl).symm
    | _ => exact noE e
theorem zmI {a b : Value} {x y : D} (rm : Rm A) (ra : Rep gv s.heap V a x) (rb : Rep gv s.heap V b y) (h1 : x.sh 8 = true) (h2 : y.sh 8 = true) :
    Runs (model prog w) A s (compareOp .Eq a b) λ v _ => v = .bool (D.eqb x y) := by
  refine zam λ Q E hQ => ?_
  obtain ⟨as, qa⟩ := ra.reads 8 h1
  obtain ⟨bs, qb⟩ := rb.reads 8 h2
  exact eq_dataH qa qb (zcO h1 (by decide)) (zcO h2 (by decide)) (by have := rm.units; lia) (by rw [zhA 8 x y h1 h2]; exact hQ _ _ (zaj s) rfl)
theorem znk {a b : Value} {x y : D} (rm : Rm A) (ra : Rep gv s.heap V a x) (rb : Rep gv s.heap V b y) (h1 : x.sh 8 = true) (h2 : y.sh 8 = true) :
    Runs (model prog w) A s (compareOp .NotEq a b) λ v _ => v = .bool (!D.eqb x y) := by
  refine zam λ Q E hQ => ?_
  obtain ⟨as, qa⟩ := ra.reads 8 h1
  obtain ⟨bs, qb⟩ := rb.reads 8 h2
  exact ne_dataH qa qb (zcO h1 (by decide)) (zcO h2 (by decide)) (by have := rm.units; lia) (by rw [zhA 8 x y h1 h2]; exact hQ _ _ (zaj s) rfl)
theorem zlm {op : CmpOp} {a b : Int} {t u : Tok} {c : Bool} (e : ordP op a b = some c) : Runs (model prog w) A s (compareOp op (.int a t) (.int b u)) λ v _ => v = .bool c := by
  refine zam λ Q E hQ => ?_
  unfold ordP at e
  split at e
  · cases e; exact PyProof.Rows.lt_int (hQ _ _ (zaj s) rfl)
  · cases e; exact PyProof.Rows.le_int (hQ _ _ (zaj s) rfl)
  · cases e; exact PyProof.Rows.gt_int (hQ _ _ (zaj s) rfl)
  · cases e; exact PyProof.Rows.ge_int (hQ _ _ (zaj s) rfl)
  · cases e
theorem zll {op : CmpOp} {a b : Value} {x y : R} {d : D} (rm : Rm A) (T : TabIs prog w gv tok s.heap) (ra : RepR gv s.heap V a x) (rb : RepR gv s.heap V b y) (e : cmpP tok op x y = some d) :
    Runs (model prog w) A s (compareOp op a b) λ v s' => ∃ c, d = .bool c /\ v = .bool c := by
  have ord : ((x.on D.gI).bind λ a => (y.on D.gI).bind λ b => (ordP op a b).map D.bool) = some d -> Runs (model prog w) A s (compareOp op a b) λ v s' => ∃ c, d = .bool c /\ v = .bool c := λ e => by
    refine bindE e λ i hi e => bindE e λ j hj e => mapE e λ c hc e => ?_
    obtain ⟨t, rfl⟩ := ra.vI hi
    obtain ⟨u, rfl⟩ := rb.vI hj
    exact (zlm hc).mono λ v s' _ q => ⟨_, e.symm, q⟩
  cases op <;> first | exact ord e | skip
  · refine bindE e λ i hi e => bindE e λ j hj e => ifE e λ h e => ?_
    exact (zmI rm (ra.asD hi) (rb.asD hj) h.1 h.2).mono λ v s' _ q => ⟨_, e.symm, q.trans (by rw [Bool.false_xor])⟩
  · refine bindE e λ i hi e => bindE e λ j hj e => ifE e λ h e => ?_
    exact (znk rm (ra.asD hi) (rb.asD hj) h.1 h.2).mono λ v s' _ q => ⟨_, e.symm, q.trans (by rw [Bool.true_xor])⟩
  · refine bindE e λ i hi e => mapE e λ j hj e => ?_
    cases ra.vB hi
    cases rb.vB hj
    exact zam λ Q E hQ => is_bool (hQ _ _ (zaj s) ⟨_, e.symm, by rw [Bool.false_xor]⟩)
  · refine bindE e λ i hi e => mapE e λ j hj e => ?_
    cases ra.vB hi
    cases rb.vB hj
    exact zam λ Q E hQ => isnot_bool (hQ _ _ (zaj s) ⟨_, e.symm, by rw [Bool.true_xor]; rfl⟩)
  · refine bindE e λ i hi e => mapE e λ c hc e => ?_
    exact (ziR rm T (ra.asD hi) rb hc false λ h => ffE h).mono λ v s' _ q => ⟨_, e.symm, q.trans (by rw [Bool.false_xor])⟩
  · by_cases hf : y.isFn = true
    · exact noE ((if_pos hf).symm.trans e)
    · refine bindE ((if_neg hf).symm.trans e) λ i hi e => mapE e λ c hc e => ?_
      exact (ziR rm T (ra.asD hi) rb hc true λ _ => eq_false_of_ne_true hf).mono λ v s' _ q => ⟨_, e.symm, q.trans (by rw [Bool.true_xor])⟩
end
noncomputable def idx (ds : List D) (k : Int) : Option D := if 0 ≤ k then ds[k.toNat]? else if 0 ≤ k + ds.length then ds[(k + ds.length).toNat]? else none
noncomputable def subP (tok : Str -> Option Int) (r : R) : D -> Option D
  | .int k => if small k = true then r.items.bind λ ds => idx ds k else none
  | .str x => (r.on D.gF).bind λ k => if k = "EXACT_TOKEN_TYPES" then (tok x).map .int else none
  | _ => none
section
variable {prog : Program} {w : World} {A : Around} {s : Shared} {gv : String -> Option Value} {V : Addr -> Prop} {tok : Str -> Option Int}
theorem zb4 (slice : Expr) (o i : Value) : ∃ ops, subscripted slice false o i = operate ops (getItem o i) := by
  unfold subscripted
  split
  · exact ⟨_, rfl⟩
  · contradiction
  · exact ⟨_, rfl⟩
theorem zcx {value slice : Expr} {o i : Value} {T id : String} {P : Value -> Shared -> Prop} (hT : s.TypeIs o T) (hl : typeLookup (.type T) (Str.ofString "__getitem__") = pure (some (.builtin id)))
    (h : Runs (model prog w) A s (getItem o i) P) : Runs (model prog w) A s (subscriptTail value slice o i) P := λ Q E hQ => by
  obtain ⟨ops, e⟩ := zb4 slice o i
  exact tail_any hT hl (h Q E hQ) e
theorem zft {value slice : Expr} {o : Value} {ds : List D} {k : Int} {u : Tok} {d : D} (ho : LstAt gv s.heap V o ds) (hs : small k = true) (e : idx ds k = some d) :
    Runs (model prog w) A s (subscriptTail value slice o (.int k u)) λ v s' => Rep gv s'.heap V v d := by
  obtain ⟨l, vs, rfl, hl, r⟩ := ho
  have hb := small_iff.mp hs
  have len := r.length
  rw [Array.length_toList] at len
  refine zcx hl.typeIs slot_list_getitem.lookup (zam λ Q E hQ => ?_)
  unfold idx at e
  by_cases h0 : 0 ≤ k
  · rw [if_pos h0] at e
    obtain ⟨v, e1, e2⟩ := r.get e
    exact wpAny_getItem_list hl h0 (by lia) (by simpa using e1) (hQ _ _ (zaj s) e2)
  · rw [if_neg h0] at e
    by_cases h1 : 0 ≤ k + ds.length
    · rw [if_pos h1] at e
      obtain ⟨v, e1, e2⟩ := r.get e
      exact wpAny_getItem_list_neg hl (by lia) (by lia) (by lia) (by rw [len]; simpa using e1) (hQ _ _ (zaj s) e2)
    · exact noE ((if_neg h1).symm.trans e)
theorem ze2 {value slice : Expr} {o : Value} {ds : List D} {k : Int} {u : Tok} {d : D} (ho : TupAt gv s.heap V o ds) (hs : small k = true) (e : idx ds k = some d) :
    Runs (model prog w) A s (subscriptTail value slice o (.int k u)) λ v s' => Rep gv s'.heap V v d := by
  obtain ⟨l, vs, rfl, hl, r⟩ := ho
  have hb := small_iff.mp hs
  have len := r.length
  rw [Array.length_toList] at len
  refine zcx (T := "tuple") (by obtain ⟨o, h1, h2, _⟩ := hl; exact ⟨o, h1, h2⟩) slot_tuple_getitem.lookup (zam λ Q E hQ => ?_)
  have key : ∃ j : Nat, seqIndex? k vs.size = some j /\ ds[j]? = some d := by
    unfold idx at e
    unfold seqIndex?
    split at e
    · rename_i h0
      have hlt : k.toNat < ds.length := (List.getElem?_eq_some_iff.mp e).1
      refine ⟨k.toNat, ?_, e⟩
      simp only [if_neg (by lia : ¬ k < 0)]
      rw [if_pos (by simp; lia)]
    · split at e
      · rename_i h0 h1
        have hlt := (List.getElem?_eq_some_iff.mp e).1
        refine ⟨(k + ds.length).toNat, ?_, e⟩
        simp only [if_pos (by lia : k < 0), len]
        rw [if_pos (by simp; lia)]
      · cases e
  obtain ⟨j, e0, e⟩ := key
  obtain ⟨v, e1, e2⟩ := r.get e
  exact getItem_tuple hl (by lia) (by lia) e0 (by simpa using e1) (hQ _ _ (zaj s) e2)
theorem zeR {value slice : Expr} {o : Value} {x : Str} {t : Tok} {i : Int} (T : TabIs prog w gv tok s.heap) (ho : gv "EXACT_TOKEN_TYPES" = some o) (e : tok x = some i) :
    Runs (model prog w) A s (subscriptTail value slice o (.str x t)) λ v s' => Rep gv s'.heap V v (.int i) := by
  obtain ⟨a, f, e1, e2, e3, e4⟩ := T
  rw [e1] at ho; cases ho
  have q := e4 x
  rw [e] at q
  obtain ⟨u, q⟩ := q
  exact zcx e3.typeIs slot_dict_getitem.lookup (zam λ Q E hQ => wpAny_getItem_of (strKind_is prog w x t) e3 q (hQ _ _ (zah s _) (.int _ _)))
theorem zk0 {value slice : Expr} {o i : Value} {r : R} {di d : D} (T : TabIs prog w gv tok s.heap) (ho : RepR gv s.heap V o r) (hi : Rep gv s.heap V i di) (e : subP tok r di = some d) :
    Runs (model prog w) A s (subscriptTail value slice o i) λ v s' => Rep gv s'.heap V v d := by
  cases di with
  | int k =>
    obtain ⟨t, rfl⟩ := hi.int_inv
    by_cases hs : small k = true
    · refine bindE ((if_pos hs).symm.trans e) λ ds hds e => ?_
      exact (ho.items hds).elim (λ h => zft h hs e) λ h => ze2 h hs e
    · exact noE ((if_neg hs).symm.trans e)
  | str x =>
    obtain ⟨t, rfl⟩ := hi.str_inv
    refine bindE e λ k hk e => ?_
    by_cases h : k = "EXACT_TOKEN_TYPES"
    · refine mapE ((if_pos h).symm.trans e) λ j hj e => ?_
      subst e
      subst h
      exact zeR T (ho.vF hk) hj
    · exact noE ((if_neg h).symm.trans e)
  | _ => exact noE e
noncomputable def zbY (ds : List D) (lo hi st : Option Int) : List D :=
  (sliceRange (sliceBounds lo hi st ds.length).1 (sliceBounds lo hi st ds.length).2.1 (sliceBounds lo hi st ds.length).2.2).filterMap (ds[·]?)
noncomputable def partP : D -> Option (Option Int)
  | .none => some none
  | .int i => some (some i)
  | _ => none
theorem zg1 {h : Heap} {v : Value} {d : D} {p : Option Int} (r : Rep gv h V v d) (e : partP d = some p) : IsPart v p := by
  cases d with
  | none => cases e; rw [r.none_inv]; exact .none
  | int i => cases e; obtain ⟨t, rfl⟩ := r.int_inv; exact .int _ _
  | _ => exact noE e
theorem RepAll.places {h : Heap} {vs : List Value} {ds : List D} (r : RepAll gv h V vs ds) : ∀ ks : List Nat, RepAll gv h V (ks.filterMap (vs[·]?)) (ks.filterMap (ds[·]?))
  | [] => .nil
  | k :: ks => by
    rw [List.filterMap_cons, List.filterMap_cons]
    cases e : ds[k]? with
    | none =>
      have : vs[k]? = none := by
        rw [List.getElem?_eq_none_iff] at e ⊢
        rw [r.length]; exact e
      rw [this]; exact r.places ks
    | some d =>
      obtain ⟨v, e1, e2⟩ := r.get e
      rw [e1]; exact .cons e2 (r.places ks)
theorem RepAll.slice {h : Heap} {vs : Array Value} {ds : List D} (r : RepAll gv h V vs.toList ds) (lo hi st : Option Int) : RepAll gv h V (slicePick vs lo hi st).toList (zbY ds lo hi st) := by
  have len := r.length
  rw [Array.length_toList] at len
  unfold slicePick zbY
  rw [len]
  simpa using r.places _
end
noncomputable def zaL : List D -> Option (List Int)
  | [] => some []
  | d :: ds => d.gI.bind λ i => (zaL ds).map (i :: ·)
noncomputable def ins (a : Int) : List Int -> List Int
  | [] => [a]
  | b :: l => if a ≤ b then a :: b :: l else b :: ins a l
noncomputable def isort : List Int -> List Int
  | [] => []
  | a :: l => ins a (isort l)
theorem zfq (a : Int) : ∀ l : List Int, (ins a l).Perm (a :: l)
  | [] => .refl _
  | b :: l => by
    unfold ins
    split
    · exact .refl _
    · exact ((zfq a l).cons b).trans (.swap a b l)
theorem zeG : ∀ l : List Int, (isort l).Perm l
  | [] => .refl _
  | a :: l => (zfq a (isort l)).trans ((zeG l).cons a)
theorem zeo {a : Int} : ∀ {l : List Int}, l.Pairwise (· ≤ ·) -> (ins a l).Pairwise (· ≤ ·)
  | [], _ => by simp [ins]
  | b :: l, h => by
    unfold ins
    rw [List.pairwise_cons] at h
    split
    · rename_i hab
      rw [List.pairwise_cons]
      refine ⟨λ c hc => ?_, List.pairwise_cons.mpr h⟩
      rcases List.mem_cons.mp hc with rfl | hc
      · exact hab
      · exact Int.le_trans hab (h.1 c hc)
    · rename_i hab
      rw [List.pairwise_cons]
      refine ⟨λ c hc => ?_, zeo h.2⟩
      rcases List.mem_cons.mp ((zfq a l).mem_iff.mp hc) with rfl | hc
      · lia
      · exact h.1 c hc
theorem zc8 : ∀ l : List Int, (isort l).Pairwise (· ≤ ·)
  | [] => .nil
  | a :: l => zeo (zc8 l)
noncomputable def maxL (a : Int) (l : List Int) : Int := l.foldl (λ x y => if y > x then y else x) a
noncomputable def minL (a : Int) (l : List Int) : Int := l.foldl (λ x y => if y < x then y else x) a
noncomputable def one1 : List R -> Option R
  | [r] => some r
  | _ => none
noncomputable def two2 : List R -> Option (R × R)
  | [r, q] => some (r, q)
  | _ => none
noncomputable def lenP (rs : List R) : Option D := (one1 rs).bind λ r => match r.items with
  | some ds => if ds.length ≤ 2 ^ 20 then some (.int ds.length) else none
  | none => (r.on D.gS).bind λ x => if x.length ≤ 2 ^ 20 then some (.int x.length) else none
noncomputable def headP (f : Int -> List Int -> Int) (r : R) : Option D := (r.on D.gL).bind λ ds => (zaL ds).bind λ ns => match ns with
  | [] => none
  | a :: l => some (.int (f a l))
noncomputable def maxP (rs : List R) : Option D := match two2 rs with
  | some q => (q.1.on D.gI).bind λ a => (q.2.on D.gI).map λ b => .int (if b > a then b else a)
  | none => (one1 rs).bind (headP maxL)
noncomputable def sumP (rs : List R) : Option D := (one1 rs).bind λ r => (r.on D.gL).bind λ ds => (zaL ds).map λ l => .int l.sum
noncomputable def zgR (rs : List R) : Option D := (one1 rs).bind λ r => (r.on D.gL).bind λ ds => (zaL ds).bind λ l => if l.length < 64 then some (.lst ((isort l).map .int)) else none
noncomputable def zgN (rs : List R) : Option D := (two2 rs).bind λ q => (q.1.on D.gI).bind λ a => (q.2.on D.gI).bind λ b => if b ≠ 0 /\ small b = true then some (.tup [.int (a.fdiv b), .int (a.fmod b)]) else none
noncomputable def zkw (rs : List R) : Option D := (one1 rs).bind λ r => r.asL.bind λ ds => if ds.length ≤ 2 ^ 20 then some (.tup ds) else none
noncomputable def callP (n : String) (rs : List R) : Option D :=
  if n = "len" then lenP rs else if n = "max" then maxP rs else if n = "min" then (one1 rs).bind (headP minL) else if n = "sum" then sumP rs else if n = "sorted" then zgR rs else if n = "divmod" then zgN rs else if n = "tuple" then zkw rs else none
noncomputable def biVal : String -> Value
  | "tuple" => .type "tuple"
  | n => .builtin n
section
variable {prog : Program} {w : World} {A : Around} {s : Shared} {gv : String -> Option Value} {V : Addr -> Prop} {h : Heap}
theorem zf4 : ∀ {ds : List D} {ns : List Int}, zaL ds = some ns -> ds = ns.map .int
  | [], ns, e => by cases e; rfl
  | d :: ds, ns, e => bindE (show (d.gI.bind λ i => (zaL ds).map (i :: ·)) = some ns from e) λ i hi e => mapE e λ l hl e => by
    subst e
    rw [List.map_cons, <- zf4 hl, zd8 hi]
theorem zbd : ∀ ns : List Int, zaL (ns.map .int) = some ns
  | [] => rfl
  | n :: ns => by show (zaL (ns.map D.int)).map (n :: ·) = _; rw [zbd ns]; rfl
theorem RepAll.ints {vs : List Value} {ns : List Int} (r : RepAll gv h V vs (ns.map .int)) : IntsAre vs ns := by
  induction ns generalizing vs with
  | nil => cases r; exact .nil
  | cons n ns ih =>
    cases r with
    | cons a b => obtain ⟨t, rfl⟩ := a.int_inv; exact .cons n t (ih b)
theorem zd4 {vs : List Value} {ns : List Int} (r : IntsAre vs ns) : RepAll gv h V vs (ns.map .int) := by
  induction r with
  | nil => exact .nil
  | cons n t _ ih => exact .cons (.int n t) ih
theorem zbt {v : Value} {ds : List D} {ns : List Int} (x : LstAt gv h V v ds) (e : zaL ds = some ns) : ∃ a vs, v = .ref a /\ h.IsList a vs /\ IntsAre vs.toList ns := by
  obtain ⟨a, vs, e1, e2, r⟩ := x
  rw [zf4 e] at r
  exact ⟨a, vs, e1, e2, r.ints⟩
theorem zaN {vs : List Value} {ns : List Int} (r : IntsAre vs ns) : ∀ {i : Nat} {v : Value}, vs[i]? = some v -> ∃ t, v = .int (ns.getD i 0) t := by
  induction r with
  | nil => intro i v e; simp at e
  | cons n t _ ih =>
    intro i v e
    cases i with
    | zero => simp at e; exact ⟨t, by simp [e]⟩
    | succ i => simpa using ih (by simpa using e)
theorem zjz (ns : List Int) : preSum (λ i => ns.getD i 0) ns.length = ns.sum := by
  have key : ∀ k, k ≤ ns.length -> preSum (λ i => ns.getD i 0) k = (ns.take k).sum := by
    intro k
    induction k with
    | zero => intro _; simp [preSum]
    | succ k ih =>
      intro hk
      rw [preSum, ih (by lia), List.take_add_one, List.sum_append]
      congr 1
      have : ns[k]? = some (ns[k]'(by lia)) := List.getElem?_eq_getElem (by lia)
      rw [this, List.getD_eq_getElem?_getD, this]; simp
  rw [key _ (Nat.le_refl _), List.take_length]
theorem zjF (f : Int -> Int -> Int) (bt : Int -> Int -> Bool) (hf : ∀ x y, f x y = if bt y x then y else x) (a : Int) (l : List Int) :
    (a :: l).getD (argBest (λ i j => bt ((a :: l).getD i 0) ((a :: l).getD j 0)) l.length) 0 = l.foldl f a := by
  have key : ∀ k, k ≤ l.length -> (a :: l).getD (argBest (λ i j => bt ((a :: l).getD i 0) ((a :: l).getD j 0)) k) 0 = (l.take k).foldl f a := by
    intro k
    induction k with
    | zero => intro _; simp [argBest]
    | succ k ih =>
      intro hk
      have e : l[k]? = some (l[k]'(by lia)) := List.getElem?_eq_getElem (by lia)
      have e2 : (a :: l).getD (k + 1) 0 = l[k]'(by lia) := by rw [List.getD_eq_getElem?_getD]; simp [e]
      rw [List.take_add_one, List.foldl_append, <- ih (by lia), e]
      simp only [Option.toList, List.foldl_cons, List.foldl_nil]
      rw [hf, argBest]
      simp only [e2]
      split
      · rw [e2]
      · rfl
  rw [key _ (Nat.le_refl _), List.take_length]
theorem zcs {wr : List Addr} {s₂ s' : Shared} (m : Moved wr (λ a b => b = a) s₂ s') (k : Keeps s s₂) (hw : ∀ b ∈ wr, s.heap.get? b = none) : Keeps s s' := by
  obtain ⟨h₂, t₂, rfl, k₂⟩ := k
  obtain ⟨m1, m2, m3, m4, m5⟩ := m
  obtain ⟨h', g', d', t', o'⟩ := s'
  simp only at m1 m2 m3 m4 m5
  subst m2 m3 m4
  exact ⟨h', t', rfl, λ b o e => m1 b o (λ hb => by rw [hw b hb] at e; cases e) (k₂ b o e)⟩
theorem zdw {l : Addr} {vs : Array Value} (hh : A.handled = none) (hl : s.heap.IsList l vs) {Q : Value -> Shared -> Prop} {E : Value -> Shared -> Prop}
    (h : ∀ St, WalksS prog w A s.heap.objs.size [s.heap.objs.size, l] [s.heap.objs.size] (λ a b => b = a) vs.size (λ i v => vs[i]? = some v) St ->
      St 0 { s with heap := s.heap.push { cls := .type "list_iterator", data := .fields #[.ref l, .int 0 0] } } ->
      Q (.ref s.heap.objs.size) { s with heap := s.heap.push { cls := .type "list_iterator", data := .fields #[.ref l, .int 0 0] } }) :
    wpAny (model prog w) A (pyIter (.ref l)) Q E s := by
  have hlt : l < s.heap.objs.size := by obtain ⟨o, e, _⟩ := hl; exact Heap.lt_size e
  exact wpAny_pyIter_list hl (h _ (Walks.list hh _ l (Nat.ne_of_lt hlt) vs).toS ⟨⟨_, Heap.get?_push_size _ rfl, rfl, rfl⟩, hl.push _⟩)
theorem zou {v : Value} {ds : List D} {ns : List Int} (rm : Rm A) (x : LstAt gv s.heap V v ds) (e : zaL ds = some ns) :
    Runs (model prog w) A s (call (.builtin "sum") [v]) λ v _ => ∃ t, v = .int ns.sum t := by
  obtain ⟨a, vs, rfl, hl, hi⟩ := zbt x e
  have hlt : a < s.heap.objs.size := by obtain ⟨o, e, _⟩ := hl; exact Heap.lt_size e
  have len := hi.length
  rw [Array.length_toList] at len
  refine zam λ Q E hQ => call_sum_walkAnyS (zdw (A := A.in1) (show A.in1.handled = none from rm.handled) hl λ St W st => ?_)
  refine ⟨_, _, _, _, _, _, _, λ i => ns.getD i 0, rfl, W, st, ?_, λ i v e => ?_, λ s' t' m => ?_⟩
  · intro b hb
    show b < (s.heap.push _).objs.size
    rw [Heap.size_push]
    rcases List.mem_cons.mp hb with rfl | hb
    · exact Nat.lt_succ_self _
    · rw [List.mem_singleton.mp hb]; exact Nat.lt_succ_of_lt hlt
  · exact zaN hi (by simpa using e)
  · refine hQ _ _ (zcs m (zai s _) λ b hb => by rw [List.mem_singleton.mp hb]; exact zav _) ⟨t', ?_⟩
    rw [len, zjz]
theorem znM {v : Value} {ds : List D} {a : Int} {l : List Int} (rm : Rm A) (x : LstAt gv s.heap V v ds) (e : zaL ds = some (a :: l)) :
    Runs (model prog w) A s (call (.builtin "max") [v]) λ v _ => ∃ t, v = .int (maxL a l) t := by
  obtain ⟨p, vs, rfl, hl, hi⟩ := zbt x e
  have hlt : p < s.heap.objs.size := by obtain ⟨o, e, _⟩ := hl; exact Heap.lt_size e
  have len := hi.length
  rw [Array.length_toList] at len
  refine zam λ Q E hQ => call_max_walkS (zdw (A := A.in1) (show A.in1.handled = none from rm.handled) hl λ St W st => ?_)
  refine ⟨_, _, _, _, _, _, _, λ i j => decide ((a :: l).getD i 0 > (a :: l).getD j 0), rfl, W, st, ?_, by rw [len]; simp, ?_, λ v s' hv m => ?_⟩
  · intro b hb
    show b < (s.heap.push _).objs.size
    rw [Heap.size_push]
    rcases List.mem_cons.mp hb with rfl | hb
    · exact Nat.lt_succ_self _
    · rw [List.mem_singleton.mp hb]; exact Nat.lt_succ_of_lt hlt
  · intro i j vi vj s Q E hi' hj' hq
    obtain ⟨t, rfl⟩ := zaN hi (by simpa using hi')
    obtain ⟨u, rfl⟩ := zaN hi (by simpa using hj')
    exact PyProof.Rows.gt_int hq
  · obtain ⟨t, rfl⟩ := zaN hi (by rw [Array.getElem?_toList]; exact hv)
    refine hQ _ _ (zcs m (zai s _) λ b hb => by rw [List.mem_singleton.mp hb]; exact zav _) ⟨t, ?_⟩
    have := zjF (λ x y => if y > x then y else x) (λ x y => decide (x > y)) (λ x y => by simp) a l
    rw [len]
    simp only [List.length_cons, Nat.add_sub_cancel]
    rw [this]; rfl
theorem znZ {v : Value} {ds : List D} {a : Int} {l : List Int} (rm : Rm A) (x : LstAt gv s.heap V v ds) (e : zaL ds = some (a :: l)) :
    Runs (model prog w) A s (call (.builtin "min") [v]) λ v _ => ∃ t, v = .int (minL a l) t := by
  obtain ⟨p, vs, rfl, hl, hi⟩ := zbt x e
  have hlt : p < s.heap.objs.size := by obtain ⟨o, e, _⟩ := hl; exact Heap.lt_size e
  have len := hi.length
  rw [Array.length_toList] at len
  refine zam λ Q E hQ => call_min_walkS (zdw (A := A.in1) (show A.in1.handled = none from rm.handled) hl λ St W st => ?_)
  refine ⟨_, _, _, _, _, _, _, λ i j => decide ((a :: l).getD i 0 < (a :: l).getD j 0), rfl, W, st, ?_, by rw [len]; simp, ?_, λ v s' hv m => ?_⟩
  · intro b hb
    show b < (s.heap.push _).objs.size
    rw [Heap.size_push]
    rcases List.mem_cons.mp hb with rfl | hb
    · exact Nat.lt_succ_self _
    · rw [List.mem_singleton.mp hb]; exact Nat.lt_succ_of_lt hlt
  · intro i j vi vj s Q E hi' hj' hq
    obtain ⟨t, rfl⟩ := zaN hi (by simpa using hi')
    obtain ⟨u, rfl⟩ := zaN hi (by simpa using hj')
    exact PyProof.Rows.lt_int hq
  · obtain ⟨t, rfl⟩ := zaN hi (by rw [Array.getElem?_toList]; exact hv)
    refine hQ _ _ (zcs m (zai s _) λ b hb => by rw [List.mem_singleton.mp hb]; exact zav _) ⟨t, ?_⟩
    have := zjF (λ x y => if y < x then y else x) (λ x y => decide (x < y)) (λ x y => by simp) a l
    rw [len]
    simp only [List.length_cons, Nat.add_sub_cancel]
    rw [this]; rfl
theorem zjn {v : Value} {ds : List D} {ns : List Int} (al : Al V s.heap) (x : LstAt gv s.heap V v ds) (e : zaL ds = some ns) (h64 : ns.length < 64) :
    Runs (model prog w) A s (call (.builtin "sorted") [v]) λ v s' => Rep gv s'.heap V v (.lst ((isort ns).map .int)) := by
  obtain ⟨p, vs, rfl, hl, hi⟩ := zbt x e
  have len := hi.length
  refine zam λ Q E hQ => sorted_ints (vs := vs.toList) hl hi (by rw [len]; exact h64) λ out ns' ho hp hs => ?_
  have e' : ns' = isort ns := List.Perm.eq_of_pairwise (le := (· ≤ ·)) (λ a b _ _ h1 h2 => Int.le_antisymm h1 h2) hs (zc8 ns) (hp.trans (zeG ns).symm)
  subst e'
  obtain ⟨k, hk⟩ := sortedAll_at s.heap vs.toList out
  have ks : Keeps s { s with heap := sortedAll s.heap vs.toList out } := ⟨_, _, rfl, λ b o e => sortedAll_old e⟩
  refine hQ _ _ ks (.lst (al.fresh ?_) hk rfl rfl rfl (zd4 ho))
  cases q : s.heap.get? (s.heap.objs.size + 1) with
  | none => rfl
  | some o => exact absurd (Nat.lt_trans (Nat.lt_succ_self _) (Heap.lt_size q)) (Nat.lt_irrefl _)
theorem zoB {v : Value} {ds : List D} (x : LstAt gv s.heap V v ds ∨ TupAt gv s.heap V v ds) (hsz : ds.length ≤ 2 ^ 20) :
    Runs (model prog w) A s (call (.builtin "len") [v]) λ v _ => ∃ t, v = .int ds.length t := by
  refine zam λ Q E hQ => ?_
  rcases x with ⟨p, vs, rfl, hl, r⟩ | ⟨p, vs, rfl, hl, r⟩
  · have len := r.length
    rw [Array.length_toList] at len
    exact len_list hl (by lia) (hQ _ _ (zah s _) ⟨_, by rw [len]⟩)
  · have len := r.length
    rw [Array.length_toList] at len
    exact len_tuple hl (by lia) (hQ _ _ (zah s _) ⟨_, by rw [len]⟩)
theorem zkJ {v : Value} {ds : List D} (al : Al V s.heap) (x : LstAt gv s.heap V v ds) (hsz : ds.length ≤ 2 ^ 20) :
    Runs (model prog w) A s (call (.type "tuple") [v]) λ v s' => Rep gv s'.heap V v (.tup ds) := by
  obtain ⟨p, vs, rfl, hl, r⟩ := x
  have len := r.length
  rw [Array.length_toList] at len
  refine zam λ Q E hQ => call_tuple_list hl (λ h' hk => ?_) (by rw [sizeLine_eq]; lia)
  have k1 : Keeps s { s with heap := h' } := ⟨_, _, rfl, hk⟩
  exact hQ _ _ (zaW k1 (zai { s with heap := h' } _)) (zfn (s := { s with heap := h' }) (al.keeps k1) (r.keeps k1))
theorem zl6 {rs : List R} {r : R} (e : one1 rs = some r) : rs = [r] := by
  cases rs with
  | nil => exact noE e
  | cons q l => cases l with
    | nil => cases e; rfl
    | cons _ _ => exact noE e
theorem zoX {rs : List R} {q : R × R} (e : two2 rs = some q) : rs = [q.1, q.2] := by
  cases rs with
  | nil => exact noE e
  | cons a l => cases l with
    | nil => exact noE e
    | cons b l => cases l with
      | nil => cases e; rfl
      | cons _ _ => exact noE e
theorem zeB {vs : List Value} {rs : List R} {r : R} (hv : ∀ i : Nat, ∀ r, rs[i]? = some r -> ∃ v, vs[i]? = some v /\ RepR gv s.heap V v r) (hlen : vs.length = rs.length) (e : one1 rs = some r) : ∃ v, vs = [v] /\ RepR gv s.heap V v r := by
  rw [zl6 e] at hv hlen
  obtain ⟨v, e1, e2⟩ := hv 0 _ rfl
  obtain ⟨u, rfl⟩ := List.length_eq_one_iff.mp hlen
  cases e1; exact ⟨_, rfl, e2⟩
theorem zlW {vs : List Value} {rs : List R} {q : R × R} (hv : ∀ i : Nat, ∀ r, rs[i]? = some r -> ∃ v, vs[i]? = some v /\ RepR gv s.heap V v r) (hlen : vs.length = rs.length) (e : two2 rs = some q) : ∃ v u, vs = [v, u] /\ RepR gv s.heap V v q.1 /\ RepR gv s.heap V u q.2 := by
  rw [zoX e] at hv hlen
  obtain ⟨v, e1, e2⟩ := hv 0 _ rfl
  obtain ⟨u, e3, e4⟩ := hv 1 _ rfl
  obtain ⟨v', l, rfl⟩ := List.exists_cons_of_length_eq_add_one hlen
  obtain ⟨u', rfl⟩ := List.length_eq_one_iff.mp (Nat.succ.inj hlen)
  cases e1; cases e3; exact ⟨_, _, rfl, e2, e4⟩
theorem ziD {n : Int} {t : Sem Value} {d : D} (h : .int n = d) (hr : Runs (model prog w) A s t λ v _ => ∃ u, v = .int n u) : Runs (model prog w) A s t λ v s' => Rep gv s'.heap V v d :=
  hr.mono λ v s' _ ⟨u, hu⟩ => by rw [hu, <- h]; exact .int _ _
theorem ziM {n : String} {f : Int -> List Int -> Int} {v : Value} {r : R} {d : D} (H : ∀ {ds a l}, LstAt gv s.heap V v ds -> zaL ds = some (a :: l) -> Runs (model prog w) A s (call (.builtin n) [v]) λ v _ => ∃ t, v = .int (f a l) t)
    (hr : RepR gv s.heap V v r) (e : headP f r = some d) : Runs (model prog w) A s (call (.builtin n) [v]) λ v s' => Rep gv s'.heap V v d := by
  refine bindE e λ ds hds e => bindE e λ ns hns e => ?_
  cases ns with
  | nil => exact noE e
  | cons a l => exact ziD (Option.some.inj e) (H (Rep.lstAt (hr.vL hds)) hns)
section
variable {vs : List Value} {rs : List R} {d : D}
noncomputable def ArgOk (gv : String -> Option Value) (h : Heap) (V : Addr -> Prop) (vs : List Value) (rs : List R) : Prop := (∀ i : Nat, ∀ r, rs[i]? = some r -> ∃ v, vs[i]? = some v /\ RepR gv h V v r) /\ vs.length = rs.length
theorem zp1 (a : ArgOk gv s.heap V vs rs) (e : lenP rs = some d) : Runs (model prog w) A s (call (.builtin "len") vs) λ v s' => Rep gv s'.heap V v d :=
  bindE e λ r hr e => by
    obtain ⟨v, rfl, x⟩ := zeB a.1 a.2 hr
    cases hi : r.items with
    | some ds => rw [hi] at e; exact ifE e λ h e => ziD e (zoB (x.items hi) h)
    | none =>
      rw [hi] at e
      refine bindE e λ t ht e => ifE e λ h e => ?_
      obtain ⟨u, rfl⟩ := x.vS ht
      subst e
      exact zam λ Q E hQ => len_str (by lia) (hQ _ _ (zah s _) (.int _ _))
theorem zpT (rm : Rm A) (a : ArgOk gv s.heap V vs rs) (e : maxP rs = some d) : Runs (model prog w) A s (call (.builtin "max") vs) λ v s' => Rep gv s'.heap V v d := by
  unfold maxP at e
  cases h2 : two2 rs with
  | some q =>
    rw [h2] at e
    refine bindE e λ i hi e => mapE e λ j hj e => ?_
    obtain ⟨v, u, rfl, x, y⟩ := zlW a.1 a.2 h2
    obtain ⟨t, rfl⟩ := x.vI hi
    obtain ⟨t', rfl⟩ := y.vI hj
    subst e
    refine zam λ Q E hQ => max_two_ints rm.handled λ h' tk hk => hQ _ _ ⟨h', tk, rfl, hk⟩ ?_
    split <;> exact .int _ _
  | none =>
    rw [h2] at e
    refine bindE e λ r hr e => ?_
    obtain ⟨v, rfl, x⟩ := zeB a.1 a.2 hr
    exact ziM (znM rm) x e
theorem zpM (rm : Rm A) (a : ArgOk gv s.heap V vs rs) (e : (one1 rs).bind (headP minL) = some d) : Runs (model prog w) A s (call (.builtin "min") vs) λ v s' => Rep gv s'.heap V v d :=
  bindE e λ r hr e => by
    obtain ⟨v, rfl, x⟩ := zeB a.1 a.2 hr
    exact ziM (znZ rm) x e
theorem zpY (rm : Rm A) (a : ArgOk gv s.heap V vs rs) (e : sumP rs = some d) : Runs (model prog w) A s (call (.builtin "sum") vs) λ v s' => Rep gv s'.heap V v d :=
  bindE e λ r hr e => bindE e λ ds hds e => mapE e λ l hl e => by
    obtain ⟨v, rfl, x⟩ := zeB a.1 a.2 hr
    exact ziD e (zou rm (Rep.lstAt (x.vL hds)) hl)
theorem zkS (al : Al V s.heap) (a : ArgOk gv s.heap V vs rs) (e : zgR rs = some d) : Runs (model prog w) A s (call (.builtin "sorted") vs) λ v s' => Rep gv s'.heap V v d :=
  bindE e λ r hr e => bindE e λ ds hds e => bindE e λ l hl e => ifE e λ h e => by
    obtain ⟨v, rfl, x⟩ := zeB a.1 a.2 hr
    subst e
    exact zjn al (Rep.lstAt (x.vL hds)) hl h
theorem zlh (al : Al V s.heap) (a : ArgOk gv s.heap V vs rs) (e : zgN rs = some d) : Runs (model prog w) A s (call (.builtin "divmod") vs) λ v s' => Rep gv s'.heap V v d :=
  bindE e λ q h2 e => bindE e λ i hi e => bindE e λ j hj e => ifE e λ hs e => by
    obtain ⟨v, u, rfl, x, y⟩ := zlW a.1 a.2 h2
    obtain ⟨t, rfl⟩ := x.vI hi
    obtain ⟨t', rfl⟩ := y.vI hj
    subst e
    refine zam λ Q E hQ => divmod_int hs.1 (hQ _ _ (zaW (zai s _) (zah _ _)) ?_) (Or.inl (PyProof.noPylong_small (zh1 hs.2)))
    exact zfn al (.cons (.int _ _) (.cons (.int _ _) .nil))
theorem znj (al : Al V s.heap) (a : ArgOk gv s.heap V vs rs) (e : zkw rs = some d) : Runs (model prog w) A s (call (.type "tuple") vs) λ v s' => Rep gv s'.heap V v d :=
  bindE e λ r hr e => bindE e λ ds hds e => ifE e λ h e => by
    obtain ⟨v, rfl, x⟩ := zeB a.1 a.2 hr
    subst e
    exact zkJ al (x.asL hds) h
theorem znq {n : String} (rm : Rm A) (al : Al V s.heap) (a : ArgOk gv s.heap V vs rs) (e : callP n rs = some d) : Runs (model prog w) A s (call (biVal n) vs) λ v s' => Rep gv s'.heap V v d :=
  iteE e (λ h e => h ▸ zp1 a e) λ _ e => iteE e (λ h e => h ▸ zpT rm a e) λ _ e => iteE e (λ h e => h ▸ zpM rm a e) λ _ e => iteE e (λ h e => h ▸ zpY rm a e) λ _ e => iteE e (λ h e => h ▸ zkS al a e) λ _ e => iteE e (λ h e => h ▸ zlh al a e) λ _ e => iteE e (λ h e => h ▸ znj al a e) λ _ e => noE e
end
end
inductive B where
  | fz (d : D)
  | own (ds : List D)
noncomputable def B.toR : B -> R
  | .fz d => .d d
  | .own ds => .l ds
abbrev PEnv := Str -> Option B
noncomputable def set (σ : PEnv) (x : Str) (b : B) : PEnv := λ y => if y = x then some b else σ y
set_option genInjectivity false in
structure Cx where
  prog : Program
  w : World
  h₀ : Heap
  gv : String -> Option Value
  γ : Str -> Option D
  tok : Str -> Option Int
  mg : Str -> Option Value
  mb : Str -> Option Value
structure Cx.Ok (C : Cx) : Prop where
  g : C.h₀.Ns mainGlobals C.mg
  b : C.h₀.Ns builtinsNs C.mb
  tab : ∃ a f, C.gv "EXACT_TOKEN_TYPES" = some (.ref a) /\ (a == sysModules) = false /\ Heap.MapOf (strKind C.prog C.w) C.h₀ a f /\
    ∀ x, match C.tok x with | some i => ∃ t, f x = some (.int i t) | none => f x = none
  γok : ∀ x d, C.γ x = some d -> ∃ v, (C.mg x = some v ∨ (C.mg x = none /\ C.mb x = some v)) /\ ∀ h V, Rep C.gv h V v d
noncomputable def Gl (C : Cx) (V : Addr -> Prop) (h : Heap) : Prop := ∀ a o, C.h₀.get? a = some o -> h.get? a = some o /\ ¬ V a
theorem Gl.keep {C : Cx} {V : Addr -> Prop} {h : Heap} (g : Gl C V h) : ∀ a o, C.h₀.get? a = some o -> h.get? a = some o := λ a o e => (g a o e).1
theorem Gl.keeps {C : Cx} {V : Addr -> Prop} {a b : Shared} (g : Gl C V a.heap) (k : Keeps a b) : Gl C V b.heap := λ c o e => ⟨zac k _ _ (g c o e).1, (g c o e).2⟩
theorem Gl.tab {C : Cx} {V : Addr -> Prop} {h : Heap} (K : C.Ok) (g : Gl C V h) : TabIs C.prog C.w C.gv C.tok h := by
  obtain ⟨c, f, e1, e2, ⟨o, es, ep, h1, h2⟩, e4⟩ := K.tab
  exact ⟨c, f, e1, e2, ⟨o, es, ep, g.keep _ _ h1, h2⟩, e4⟩
noncomputable def Chg (Z : Addr -> Prop) (h h' : Heap) : Prop := ∀ a o, ¬ Z a -> h.get? a = some o -> h'.get? a = some o
theorem Gl.chg {C : Cx} {V : Addr -> Prop} {h h' : Heap} (g : Gl C V h) (k : Chg V h h') : Gl C V h' := λ c o e => ⟨k _ _ (g c o e).2 (g c o e).1, (g c o e).2⟩
noncomputable def Up (V V' : Addr -> Prop) (h h' : Heap) : Prop := ∀ a o, ¬ V a -> h.get? a = some o -> h'.get? a = some o /\ ¬ V' a
theorem Chg.up {V : Addr -> Prop} {h h' : Heap} (k : Chg V h h') : Up V V h h' := λ a o n e => ⟨k a o n e, n⟩
theorem zdp {V : Addr -> Prop} {a b : Shared} (k : Keeps a b) : Up V V a.heap b.heap := λ _ _ n e => ⟨zac k _ _ e, n⟩
theorem zbu {V Z : Addr -> Prop} {a b : Shared} (k : Keeps a b) (hz : ∀ c, Z c -> a.heap.get? c = none) : Up V (λ c => V c ∨ Z c) a.heap b.heap :=
  λ c o n e => ⟨zac k _ _ e, λ h => h.elim n λ z => gone (hz c z) e⟩
theorem zbz {h h' : Heap} {c : Addr} {v : Option Value} (x : h.IsCell c v) (e : ∀ o, h.get? c = some o -> h'.get? c = some o) : h'.IsCell c v := let ⟨o, ho, r⟩ := x; ⟨o, e _ ho, r⟩
theorem zjy {h h' : Heap} {c : Addr} {m : Str -> Option Value} (x : h.Ns c m) (e : ∀ o, h.get? c = some o -> h'.get? c = some o) : h'.Ns c m := let ⟨o, a, b, ho, r⟩ := x; ⟨o, a, b, e _ ho, r⟩
theorem zcG {h h' : Heap} {c : Addr} {vs : Array Value} (x : PlainL h c vs) (e : ∀ o, h.get? c = some o -> h'.get? c = some o) : PlainL h' c vs := let ⟨o, n, ho, r⟩ := x; ⟨o, n, e _ ho, r⟩
theorem zfB {h h' : Heap} {l : Addr} {vs : Array Value} (x : h.IsList l vs) (hk : ∀ b o, h.get? b = some o -> h'.get? b = some o) : h'.IsList l vs := let ⟨o, e, r⟩ := x; ⟨o, hk _ _ e, r⟩
inductive Look (h : Heap) (env : Env) (x : Str) (v : Value) : Prop
  | loc {m : Str -> Option Value} : env.kindOf x = some .local -> h.Ns env.locals m -> m x = some v -> Look h env x v
  | cel {c : Addr} : (env.kindOf x = some .cell ∨ (env.kindOf x = some .free /\ (x == ("__classdict__" : Str)) = false)) -> env.cells.lookup x = some c -> h.IsCell c (some v) -> Look h env x v
noncomputable def Fr (env : Env) (a : Addr) : Prop := a = env.locals ∨ ∃ y, env.cells.lookup y = some a
theorem Look.at {h h' : Heap} {env : Env} {x : Str} {v : Value} (l : Look h env x v) (e : ∀ a, Fr env a -> ∀ o, h.get? a = some o -> h'.get? a = some o) : Look h' env x v := by
  cases l with
  | loc a b c => exact .loc a (zjy b λ o q => e _ (.inl rfl) o q) c
  | cel a b c => exact .cel a b (zbz c λ o q => e _ (.inr ⟨x, b⟩) o q)
theorem Look.keeps {a b : Shared} {env : Env} {x : Str} {v : Value} (l : Look a.heap env x v) (k : Keeps a b) : Look b.heap env x v := l.at λ _ _ _ e => zac k _ _ e
theorem zaw {h : Heap} {env : Env} {x : Str} {v v' : Value} (a : Look h env x v) (b : Look h env x v') : v = v' := by
  cases a with
  | loc a1 a2 a3 => cases b with
    | loc b1 b2 b3 => rw [a2.agree b2 x, b3] at a3; exact (Option.some.inj a3).symm
    | cel b1 _ _ => rcases b1 with b1 | ⟨b1, _⟩ <;> exact NameKind.noConfusion (Option.some.inj (a1.symm.trans b1))
  | cel a1 a2 a3 => cases b with
    | loc b1 b2 b3 => rcases a1 with a1 | ⟨a1, _⟩ <;> exact NameKind.noConfusion (Option.some.inj (b1.symm.trans a1))
    | cel b1 b2 b3 =>
      rw [a2] at b2; cases b2
      obtain ⟨o, e1, e2⟩ := a3
      obtain ⟨o', e3, e4⟩ := b3
      rw [e1] at e3; cases e3; rw [e2] at e4; cases e4; rfl
abbrev Names := List (Str × NameKind)
noncomputable def locOk (sc : Names) (x : Str) : Bool := sc.lookup x == some .local || sc.lookup x == some .cell
theorem zdu {sc : Names} {x : Str} (h : locOk sc x = true) : sc.lookup x = some .local ∨ sc.lookup x = some .cell :=
  (Bool.or_eq_true_iff.mp h).imp eq_of_beq eq_of_beq
structure Fm (env : Env) (sc : Names) (V : Addr -> Prop) (h : Heap) : Prop where
  kind : env.scope.kind = .function
  rel : ∀ x k, sc.lookup x = some k -> env.kindOf x = some k ∨ (k = .free /\ env.kindOf x = some .cell)
  glob : env.globals = mainGlobals
  blt : env.builtins = builtinsNs
  ns : ∃ m, h.Ns env.locals m
  cel : ∀ x, sc.lookup x = some .cell ∨ sc.lookup x = some .free -> ∃ c v, env.cells.lookup x = some c /\ h.IsCell c v
  fr : ∀ a, Fr env a -> V a
  inj : ∀ x y c, env.cells.lookup x = some c -> env.cells.lookup y = some c -> x = y
theorem Fm.at {env : Env} {sc : Names} {V V' : Addr -> Prop} {h h' : Heap} (F : Fm env sc V h) (hv : ∀ a, Fr env a -> V' a) (e : ∀ a, Fr env a -> ∀ o, h.get? a = some o -> h'.get? a = some o) : Fm env sc V' h' :=
  ⟨F.kind, F.rel, F.glob, F.blt, F.ns.imp λ m x => zjy x λ o q => e _ (.inl rfl) o q, λ x hx => let ⟨c, v, e1, e2⟩ := F.cel x hx; ⟨c, v, e1, zbz e2 λ o q => e _ (.inr ⟨x, e1⟩) o q⟩, hv, F.inj⟩
noncomputable def BindV (gv : String -> Option Value) (h : Heap) (V : Addr -> Prop) (v : Value) : B -> Prop
  | .fz d => Rep gv h V v d
  | .own ds => ∃ l vs, v = .ref l /\ PlainL h l vs /\ RepAll gv h V vs.toList ds
theorem BindV.mono {gv : String -> Option Value} {h h' : Heap} {V V' : Addr -> Prop} {v : Value} {b : B} (q : BindV gv h V v b) (hk : Up V V' h h') (hl : ∀ ds l, b = .own ds -> v = .ref l -> ∀ o, h.get? l = some o -> h'.get? l = some o) : BindV gv h' V' v b := by
  cases b with
  | fz d => exact Rep.mono hk q
  | own ds => obtain ⟨l, vs, e, p, r⟩ := q; exact ⟨l, vs, e, zcG p (hl ds l rfl e), r.mono hk⟩
theorem BindV.keeps {gv : String -> Option Value} {V : Addr -> Prop} {a b : Shared} {v : Value} {bd : B} (q : BindV gv a.heap V v bd) (k : Keeps a b) : BindV gv b.heap V v bd := q.mono (zdp k) λ _ _ _ _ _ e => zac k _ _ e
theorem BindV.toR {gv : String -> Option Value} {h : Heap} {V : Addr -> Prop} {v : Value} {b : B} (q : BindV gv h V v b) : RepR gv h V v b.toR := by
  cases b with
  | fz d => exact q
  | own ds => obtain ⟨l, vs, e, p, r⟩ := q; exact ⟨l, vs, e, p.isList, r⟩
noncomputable def EnvOk (gv : String -> Option Value) (h : Heap) (V : Addr -> Prop) (env : Env) (σ : PEnv) : Prop := ∀ x b, σ x = some b -> ∃ v, Look h env x v /\ BindV gv h V v b
theorem zfK {M : Model} {A : Around} {E : Value -> Shared -> Prop} {s : Shared} {env : Env} {x : Str} {v : Value} {Q : Value -> Shared -> Prop} (hk : env.scope.kind = .function) (l : Look s.heap env x v) (h : Q v s) : wpAny M A (loadName env x) Q E s := by
  cases l with
  | loc a b c => exact wpAny_loadName_local hk a b c h
  | cel a b c =>
    rcases a with a | ⟨a, a'⟩
    · exact wpAny_loadName_cell hk a b c h
    · exact wpAny_loadName_free hk a b c h a'
structure St (C : Cx) (A : Around) (env : Env) (sc : Names) (V : Addr -> Prop) (σ : PEnv) (s : Shared) : Prop where
  gl : Gl C V s.heap
  al : Al V s.heap
  fm : Fm env sc V s.heap
  ev : EnvOk C.gv s.heap V env σ
  tk : 1 ≤ s.toks
structure Mv (Z : Addr -> Prop) (s s' : Shared) : Prop where
  same : ∃ h' tk, s' = { s with heap := h', toks := tk }
  toks : s.toks ≤ s'.toks
  chg : Chg Z s.heap s'.heap
  live : ∀ a o, s.heap.get? a = some o -> ∃ o', s'.heap.get? a = some o'
theorem Kp.mv {Z : Addr -> Prop} {s s' : Shared} (k : Kp s s') : Mv Z s s' :=
  ⟨let ⟨h, t, e, _⟩ := k.1; ⟨h, t, e⟩, k.2, λ a o _ e => zac k.1 a o e, λ a o e => ⟨o, zac k.1 a o e⟩⟩
theorem Mv.refl {Z : Addr -> Prop} (s : Shared) : Mv Z s s := (za4 s).mv
theorem Mv.trans {Z : Addr -> Prop} {a b c : Shared} (x : Mv Z a b) (y : Mv Z b c) : Mv Z a c := by
  obtain ⟨⟨h1, t1, rfl⟩, x2, x3, x4⟩ := x
  obtain ⟨⟨h2, t2, rfl⟩, y2, y3, y4⟩ := y
  exact ⟨⟨h2, t2, rfl⟩, Nat.le_trans x2 y2, λ a o z e => y3 a o z (x3 a o z e), λ a o e => let ⟨o', e'⟩ := x4 a o e; y4 a o' e'⟩
theorem Mv.mono {Z Z' : Addr -> Prop} {s s' : Shared} (x : Mv Z s s') (h : ∀ a, Z a -> Z' a) : Mv Z' s s' := ⟨x.same, x.toks, λ a o z e => x.chg a o (λ q => z (h a q)) e, x.live⟩
theorem Mv.al {Z V : Addr -> Prop} {s s' : Shared} (x : Mv Z s s') (al : Al V s.heap) : Al V s'.heap := λ a ha => let ⟨o, e⟩ := al a ha; x.live a o e
theorem Mv.kp {Z : Addr -> Prop} {s s' : Shared} (x : Mv Z s s') (h : ∀ a o, s.heap.get? a = some o -> ¬ Z a) : Kp s s' :=
  ⟨let ⟨h', t, e⟩ := x.same; ⟨h', t, e, λ b o q => by have := x.chg b o (h b o q) q; rw [e] at this; exact this⟩, x.toks⟩
theorem Mv.no {W : Addr -> Prop} {s s' : Shared} (m : Mv W s s') {a : Addr} (h : s'.heap.get? a = none) : s.heap.get? a = none := by
  cases q : s.heap.get? a with
  | none => rfl
  | some o => obtain ⟨o', q'⟩ := m.live a o q; exact gone h q'
theorem Kp.no {s s' : Shared} (k : Kp s s') {a : Addr} (h : s'.heap.get? a = none) : s.heap.get? a = none := (k.mv (Z := λ _ => False)).no h
theorem zbv {z : Addr} {Z : Addr -> Prop} {s : Shared} {h' : Heap} {tk : Nat} (hs : Heap.SameBut z s.heap h') (hz : Z z) (hl : ∃ o, h'.get? z = some o) (ht : s.toks ≤ tk) : Mv Z s { s with heap := h', toks := tk } :=
  ⟨⟨h', tk, rfl⟩, ht, λ a o na e => (hs.2 a (λ q => na (q ▸ hz))).trans e, λ a o e => by
    by_cases q : a = z
    · subst q; exact hl
    · exact ⟨o, (hs.2 a q).trans e⟩⟩
theorem zbO {h : Heap} {L l : Addr} {m : Str -> Option Value} {vs : Array Value} (n : h.Ns L m) (x : h.IsList l vs) : l ≠ L := by
  rintro rfl
  obtain ⟨o, es, ep, h1, h2, _⟩ := n
  obtain ⟨o', h3, _, k, h4⟩ := x
  rw [h1] at h3; cases h3; exact Data.noConfusion (h2.symm.trans h4)
theorem zbD {h : Heap} {c l : Addr} {v : Option Value} {vs : Array Value} (n : h.IsCell c v) (x : h.IsList l vs) : l ≠ c := by
  rintro rfl
  obtain ⟨o, h1, h2⟩ := n
  obtain ⟨o', h3, _, k, h4⟩ := x
  rw [h1] at h3; cases h3; exact Data.noConfusion (h2.symm.trans h4)
theorem zbH {h : Heap} {L c : Addr} {m : Str -> Option Value} {v : Option Value} (n : h.Ns L m) (x : h.IsCell c v) : c ≠ L := by
  rintro rfl
  obtain ⟨o, es, ep, h1, h2, _⟩ := n
  obtain ⟨o', h3, h4⟩ := x
  rw [h1] at h3; cases h3; exact Data.noConfusion (h2.symm.trans h4)
theorem zgT {h : Heap} {L : Addr} {m : Str -> Option Value} (n : h.Ns L m) : ∃ o, h.get? L = some o := let ⟨o, _, _, e, _⟩ := n; ⟨o, e⟩
theorem zdS {h : Heap} {c : Addr} {v : Option Value} (n : h.IsCell c v) : ∃ o, h.get? c = some o := let ⟨o, e, _⟩ := n; ⟨o, e⟩
theorem zaV {h : Heap} {c : Addr} {vs : Array Value} (n : PlainL h c vs) : ∃ o, h.get? c = some o := let ⟨o, _, e, _⟩ := n; ⟨o, e⟩
section
variable {C : Cx} {A : Around} {env : Env} {sc : Names} {V : Addr -> Prop} {τ : PEnv} {s : Shared} {M : Model}
noncomputable def zqa (τ : PEnv) (h : Heap) (env : Env) (Z : Addr -> Prop) : Prop := ∀ x ds, τ x = some (.own ds) -> ∀ l, Look h env x (.ref l) -> ¬ Z l
theorem Fm.notFr {h : Heap} {l : Addr} {vs : Array Value} (F : Fm env sc V h) (hl : h.IsList l vs) : l ≠ env.locals /\ ∀ y, (sc.lookup y = some .cell ∨ sc.lookup y = some .free) -> env.cells.lookup y ≠ some l := by
  refine ⟨?_, λ y hy e => ?_⟩
  · obtain ⟨m, hm⟩ := F.ns; exact zbO hm hl
  · obtain ⟨c, v, e1, e2⟩ := F.cel y hy
    rw [e] at e1; cases e1; exact zbD e2 hl rfl
theorem St.move {V' : Addr -> Prop} {s' : Shared} (S : St C A env sc V τ s) (up : Up V V' s.heap s'.heap) (hfr : ∀ a, Fr env a -> V' a /\ ∀ o, s.heap.get? a = some o -> s'.heap.get? a = some o)
    (hown : ∀ x ds, τ x = some (.own ds) -> ∀ l, Look s.heap env x (.ref l) -> ∀ o, s.heap.get? l = some o -> s'.heap.get? l = some o) (al : Al V' s'.heap) (ht : s.toks ≤ s'.toks) : St C A env sc V' τ s' :=
  ⟨λ a o e => up a o (S.gl a o e).2 (S.gl a o e).1, al, S.fm.at (λ a h => (hfr a h).1) λ a h => (hfr a h).2, λ x b hx =>
    let ⟨v, q1, q2⟩ := S.ev x b hx
    ⟨v, q1.at λ a h => (hfr a h).2, q2.mono up λ ds l e1 e2 => hown x ds (e1 ▸ hx) l (e2 ▸ q1)⟩, Nat.le_trans S.tk ht⟩
theorem St.keeps {s' : Shared} (x : St C A env sc V τ s) (k : Kp s s') : St C A env sc V τ s' :=
  x.move (zdp k.1) (λ a h => ⟨x.fm.fr a h, λ _ e => zac k.1 _ _ e⟩) (λ _ _ _ _ _ _ e => zac k.1 _ _ e) (x.al.keeps k.1) k.2
theorem St.vol {Z : Addr -> Prop} {s' : Shared} (S : St C A env sc V τ s) (k : Kp s s') (hz : ∀ a, Z a -> s.heap.get? a = none) (hl : ∀ a, Z a -> ∃ o, s'.heap.get? a = some o) : St C A env sc (λ a => V a ∨ Z a) τ s' :=
  S.move (zbu k.1 hz) (λ a h => ⟨.inl (S.fm.fr a h), λ _ e => zac k.1 _ _ e⟩) (λ _ _ _ _ _ _ e => zac k.1 _ _ e) (λ a h => h.elim (S.al.keeps k.1 a) (hl a)) k.2
theorem St.weak {τ' : PEnv} (S : St C A env sc V τ s) (h : ∀ x b, τ' x = some b -> τ x = some b) : St C A env sc V τ' s := ⟨S.gl, S.al, S.fm, λ x b hx => S.ev x b (h x b hx), S.tk⟩
noncomputable def Wr (env : Env) (sc : Names) (a : Addr) : Prop := a = env.locals ∨ ∃ y, sc.lookup y = some .cell /\ env.cells.lookup y = some a
theorem zgf {x : Str} {v : Value} {b : B} {Q : Unit -> Shared -> Prop} {E : Value -> Shared -> Prop} (S : St C A env sc V τ s) (hx : locOk sc x = true) (r : BindV C.gv s.heap V v b)
    (hQ : ∀ s', Mv (Wr env sc) s s' -> St C A env sc V (set τ x b) s' -> Look s'.heap env x v -> (∀ y u, y ≠ x -> Look s.heap env y u -> Look s'.heap env y u) -> (∀ u c, BindV C.gv s.heap V u c -> BindV C.gv s'.heap V u c) -> Q () s') : wpAny M A (storeName env x v) Q E s := by
  obtain ⟨m₀, hm₀⟩ := S.fm.ns
  have kd : ∀ {k : NameKind}, k ≠ .free -> sc.lookup x = some k -> env.kindOf x = some k := λ n h => (S.fm.rel x _ h).elim id λ h => absurd h.1 n
  have fin : ∀ (z : Addr) s', Mv (Wr env sc) s s' -> V z -> (∀ a o, a ≠ z -> s.heap.get? a = some o -> s'.heap.get? a = some o) -> (∀ l vs, s.heap.IsList l vs -> l ≠ z) -> (∃ m, s'.heap.Ns env.locals m) -> (∀ y, sc.lookup y = some .cell ∨ sc.lookup y = some .free -> ∃ c v, env.cells.lookup y = some c /\ s'.heap.IsCell c v) ->
      Look s'.heap env x v -> (∀ y u, y ≠ x -> Look s.heap env y u -> Look s'.heap env y u) -> Q () s' := λ z s' mv hz hch hl h1 h2 h3 h4 => by
    have up : Up V V s.heap s'.heap := λ a o na e => ⟨hch a o (λ q => na (q ▸ hz)) e, na⟩
    have bv : ∀ u c, BindV C.gv s.heap V u c -> BindV C.gv s'.heap V u c := λ u c q => by
      cases c with
      | fz d => exact Rep.mono up q
      | own ds => obtain ⟨l, vs, e, p, r⟩ := q; exact ⟨l, vs, e, zcG p λ o e => hch l o (hl l vs p.isList) e, r.mono up⟩
    refine hQ s' mv ⟨λ a o e => up a o (S.gl a o e).2 (S.gl a o e).1, mv.al S.al, ⟨S.fm.kind, S.fm.rel, S.fm.glob, S.fm.blt, h1, h2, S.fm.fr, S.fm.inj⟩, λ y c hy => ?_, Nat.le_trans S.tk mv.toks⟩ h3 h4 bv
    by_cases e : y = x
    · subst e
      rw [set, if_pos rfl] at hy
      exact ⟨v, h3, Option.some.inj hy ▸ bv v b r⟩
    · rw [set, if_neg e] at hy
      obtain ⟨u, q1, q2⟩ := S.ev y c hy
      exact ⟨u, h4 y u e q1, bv u c q2⟩
  rcases zdu hx with hx | hx
  · have hk := kd (by decide) hx
    refine wpAny_storeName_local hk hm₀ (λ h' hn hs => ?_) (by rw [S.fm.kind]; rfl)
    refine fin env.locals _ (zbv hs (.inl rfl) (zgT hn) (Nat.le_succ _)) (S.fm.fr _ (.inl rfl)) (λ a o na e => (hs.2 a na).trans e) (λ l vs hl => zbO hm₀ hl) ⟨_, hn⟩ (λ y hy => ?_) (.loc hk hn (if_pos rfl)) λ y u hy l => ?_
    · obtain ⟨c, u, e1, e2⟩ := S.fm.cel y hy
      exact ⟨c, u, e1, e2.sameBut hs (zbH hm₀ e2)⟩
    · cases l with
      | loc a b c => exact .loc a hn ((if_neg hy).trans ((b.agree hm₀ y).symm.trans c))
      | cel a b c => exact .cel a b (c.sameBut hs (zbH hm₀ c))
  · have hk := kd (by decide) hx
    obtain ⟨c, v₀, hc, hv₀⟩ := S.fm.cel x (.inl hx)
    refine wpAny_storeName_cell S.fm.kind hk hc hv₀ λ h' hcell hs => ?_
    have hs' : Heap.SameBut c s.heap h' := hs
    refine fin c _ (zbv (tk := s.toks) hs (.inr ⟨x, hx, hc⟩) (zdS hcell) (Nat.le_refl _)) (S.fm.fr c (.inr ⟨x, hc⟩)) (λ a o na e => (hs'.2 a na).trans e) (λ l vs hl => zbD hv₀ hl) ⟨m₀, hm₀.sameBut hs (Ne.symm (zbH hm₀ hv₀))⟩ (λ y hy => ?_) (.cel (.inl hk) hc hcell) λ y u hy l => ?_
    · obtain ⟨c', u, e1, e2⟩ := S.fm.cel y hy
      by_cases q : c' = c
      · exact ⟨c, _, q ▸ e1, hcell⟩
      · exact ⟨c', u, e1, e2.sameBut hs q⟩
    · cases l with
      | loc a b d => exact .loc a (b.sameBut hs (Ne.symm (zbH b hv₀))) d
      | cel a b d => exact .cel a b (d.sameBut hs λ q => hy (S.fm.inj _ _ c (q ▸ b) hc))
end
structure MvD (Z : Addr -> Prop) (s s' : Shared) : Prop where
  same : ∃ h' tk, s' = { s with heap := h', toks := tk }
  toks : s.toks ≤ s'.toks
  chg : Chg Z s.heap s'.heap
structure Wk (prog : Program) (w : World) (A : Around) (gv : String -> Option Value) (V : Addr -> Prop) (target : Expr) (I : Addr) (Z fp : Addr -> Prop) (items : List D) (Sn : Nat -> Heap -> Prop) : Prop where
  zfp : ∀ a, Z a -> fp a
  frame : ∀ i h h', Sn i h -> (∀ a, (fp a ∨ ¬ V a) -> ∀ o, h.get? a = some o -> h'.get? a = some o) -> Sn i h'
  item : ∀ i d (s : Shared) (Q : Value -> Shared -> Prop) (E : Value -> Shared -> Prop), items[i]? = some d -> Sn i s.heap -> Al V s.heap ->
    (∀ v s', Mv Z s s' -> Sn (i + 1) s'.heap -> Rep gv s'.heap V v d -> Q v s') ->
    wpAny (model prog w) A (pyNext (.ref I)) (λ r s₁ => match r with | none => False | some v => wpAny (model prog w) A (letOwnedTupleGo target (.ref I) v) (λ _ s₂ => Q v s₂) E s₁) E s
  done : ∀ (s : Shared) (Q : Shared -> Prop) (E : Value -> Shared -> Prop), Sn items.length s.heap -> (∀ s', MvD Z s s' -> Q s') -> wpAny (model prog w) A (pyNext (.ref I)) (λ r s' => r = none /\ Q s') E s
  self : ∀ i (s : Shared) (Q : Value -> Shared -> Prop) (E : Value -> Shared -> Prop), Sn i s.heap -> Q (.ref I) s -> wpAny (model prog w) A (pyIter (.ref I)) Q E s
  nl : ∀ i h a vs, Sn i h -> Z a -> ¬ Heap.IsList h a vs
noncomputable def Itr (prog : Program) (w : World) (A : Around) (gv : String -> Option Value) (V : Addr -> Prop) (target : Expr) (fz : Prop) (items : List D) (s : Shared) (it : Value) (s₂ : Shared) : Prop :=
  ∃ (I : Addr) (Z fp : Addr -> Prop) (core : Nat -> Heap -> Prop) (inv : (Addr -> Prop) -> Heap -> Prop), it = .ref I /\ Kp s s₂ /\ (∀ a, Z a -> s.heap.get? a = none /\ ∃ o, s₂.heap.get? a = some o) /\ (∀ a, fp a -> ∃ o, s₂.heap.get? a = some o) /\ (fz -> ∀ a, fp a -> Z a) /\ core 0 s₂.heap /\
    ∀ V' : Addr -> Prop, (∀ a, V a -> V' a) -> (∀ a, V' a -> V a ∨ s.heap.get? a = none) -> inv V' s₂.heap /\ (∀ h h', inv V' h -> (∀ a, ¬ (V' a ∨ Z a) -> ∀ o, h.get? a = some o -> h'.get? a = some o) -> inv V' h') /\
      Wk prog w A gv (λ a => V' a ∨ Z a) target I Z fp items (λ i h => core i h /\ inv V' h)
noncomputable def tgtOk : Expr -> Bool
  | .Name .. | .Tuple .. => true
  | _ => false
section
variable {prog : Program} {w : World} {A : Around} {gv : String -> Option Value} {V : Addr -> Prop} {s : Shared} {M : Model}
theorem zgy {target : Expr} {I : Addr} {v : Value} {Q : Unit -> Shared -> Prop} {E : Value -> Shared -> Prop} {o : Obj} {cls : String} {vs : Array Value} (ht : tgtOk target = true) (ho : s.heap.get? I = some o) (hc : o.cls = .type cls)
    (hd : o.data = .fields vs) (hn : (["enumerate", "zip", "dict_itemiterator", "dict_reverseitemiterator", "odict_iterator", "itertools.zip_longest", "itertools.pairwise"] : List String).contains cls = false) (h : Q () s) : wpAny M A (letOwnedTupleGo target (.ref I) v) Q E s := by
  cases target <;> try (simp [tgtOk] at ht; done)
  · exact wpAny_pure h
  · cases v <;> try exact wpAny_pure h
    unfold letOwnedTupleGo
    refine wpAny_bind (wpAny_load ho ?_)
    rw [hc, hd]
    dsimp only
    rw [hn]
    exact wpAny_pure h
theorem ziu {I : Addr} {h' : Heap} {tk : Nat} (k : ∀ b o, b ∉ [I] -> s.heap.get? b = some o -> h'.get? b = some o) (hl : ∃ o, h'.get? I = some o) (ht : s.toks ≤ tk) : Mv (λ a => a = I) s { s with heap := h', toks := tk } :=
  ⟨⟨h', tk, rfl⟩, ht, λ a o na e => k a o (by simpa using na) e, λ a o e => by
    by_cases q : a = I
    · subst q; exact hl
    · exact ⟨o, k a o (by simpa using q) e⟩⟩
theorem zkG {I : Addr} {fp : Addr -> Prop} {fpl : List Addr} {n : Nat} {P : Nat -> Value -> Prop} {St : Nat -> Heap -> Prop} {target : Expr} {items : List D} {cls : String}
    (W : Walks prog w A I fpl [I] n P St) (ht : tgtOk target = true) (hI : fp I)
    (hcls : ∀ i h, St i h -> ∃ o vs, h.get? I = some o /\ o.cls = .type cls /\ o.data = .fields vs)
    (hn : (["enumerate", "zip", "dict_itemiterator", "dict_reverseitemiterator", "odict_iterator", "itertools.zip_longest", "itertools.pairwise"] : List String).contains cls = false)
    (hlen : items.length = n) (Inv : Heap -> Prop) (hinv : ∀ h h', Inv h -> (∀ a, ¬ (V a ∨ a = I) -> ∀ o, h.get? a = some o -> h'.get? a = some o) -> Inv h')
    (hfp : ∀ b ∈ fpl, fp b ∨ ¬ (V b ∨ b = I))
    (hlive : ∀ h, Inv h -> ∀ i, St i h -> True)
    (hP : ∀ i v d h, P i v -> items[i]? = some d -> Inv h -> Rep gv h (λ a => V a ∨ a = I) v d) (hcl : cls ≠ "list" := by decide) :
    Wk prog w A gv (λ a => V a ∨ a = I) target I (λ a => a = I) fp items (λ i h => St i h /\ Inv h) where
  zfp := λ a ha => ha ▸ hI
  frame := λ i h h' st hk => ⟨W.frame i h h' st.1 λ b hb o e => hk b (hfp b hb) o e, hinv h h' st.2 λ a ha o e => hk a (.inr ha) o e⟩
  item := λ i d s Q E hd st al hQ => by
    have hi : i < n := by rw [<- hlen]; exact (List.getElem?_eq_some_iff.mp hd).1
    refine wpAny_with_toks (Nat.le_refl _) (W.item i s _ _ hi st.1 λ v h' tk hPv st' hk htk => ?_)
    obtain ⟨o, vs, h1, h2, h3⟩ := hcls _ _ st'
    have hk' : ∀ b, ¬ (V b ∨ b = I) -> ∀ o, s.heap.get? b = some o -> h'.get? b = some o := λ b hb o e => hk b o (by simpa using λ q => hb (.inr q)) e
    have inv' := hinv s.heap h' st.2 hk'
    exact zgy ht h1 h2 h3 hn (hQ v _ (ziu hk ⟨o, h1⟩ htk) ⟨st', inv'⟩ (hP i v d h' hPv hd inv'))
  done := λ s Q E st hQ => by
    have st' := st.1
    rw [hlen] at st'
    refine wpAny_with_toks (Nat.le_refl _) (W.done s _ _ st' λ h' tk hk htk => ?_)
    exact ⟨rfl, hQ _ ⟨⟨h', tk, rfl⟩, htk, λ a o na e => hk a o (by simpa using na) e⟩⟩
  self := λ i s Q E st hQ => W.self i s Q E st.1 hQ
  nl := λ i h a vs st ha hl => by
    subst ha
    obtain ⟨o, _, h1, h2, _⟩ := hcls i h st.1
    obtain ⟨o', h3, h4, _⟩ := hl
    rw [h1] at h3; cases h3; rw [h2] at h4; cases h4; exact hcl rfl
theorem zaP (s : Shared) (o : Obj) (hf : o.isFreed = false) : ∃ o', (s.heap.push o).get? s.heap.objs.size = some o' := ⟨o, Heap.get?_push_size _ hf⟩
theorem zdd {V' : Addr -> Prop} {vs : List Value} {ds : List D} (e2 : ∀ a, V' a -> V a ∨ s.heap.get? a = none) (r : RepAll gv s.heap V vs ds) (o : Obj) : RepAll gv (s.heap.push o) (λ a => V' a ∨ a = s.heap.objs.size) vs ds :=
  r.mono λ a o' na e => ⟨Heap.get?_push_of_some _ e, λ h => h.elim (λ h => (e2 a h).elim na λ z => by rw [z] at e; cases e) λ h => by subst h; rw [zav] at e; cases e⟩
theorem zkX {v : Value} {ds : List D} {target : Expr} {fz : Prop} {Q : Value -> Shared -> Prop} {E : Value -> Shared -> Prop} (rm : Rm A) (al : Al V s.heap) (ht : tgtOk target = true) (x : LstAt gv s.heap V v ds) (hfz : fz -> ∀ a, v = .ref a -> ¬ V a)
    (hQ : ∀ it s₂, Itr prog w A gv V target fz ds s it s₂ -> Q it s₂) : wpAny (model prog w) A (pyIter v) Q E s := by
  obtain ⟨ax, vs, rfl, hl, r⟩ := x
  have hlt : ax < s.heap.objs.size := by obtain ⟨o, e, _⟩ := hl; exact Heap.lt_size e
  have hne : ax ≠ s.heap.objs.size := Nat.ne_of_lt hlt
  have len := r.length
  rw [Array.length_toList] at len
  refine wpAny_pyIter_list hl (hQ _ _ ⟨s.heap.objs.size, λ a => a = s.heap.objs.size, λ a => a = s.heap.objs.size ∨ (a = ax /\ V a), _, λ V' h => RepAll gv h (λ a => V' a ∨ a = s.heap.objs.size) vs.toList ds, rfl, ⟨zai s _, Nat.le_refl _⟩, ?_, ?_, ?_, ?_, λ V' e1 e2 => ⟨zdd e2 r _, λ h h' hr hk => hr.mono λ a o na e => ⟨hk a na o e, na⟩,
    zkG (Walks.list rm.handled s.heap.objs.size ax hne vs) ht (.inl rfl) (cls := "list_iterator") ?_ (by decide) len.symm (λ h => RepAll gv h (λ a => V' a ∨ a = s.heap.objs.size) vs.toList ds) ?_ ?_ (λ _ _ _ _ => trivial) ?_⟩⟩)
  · rintro a rfl; exact ⟨zav _, zaP s _ rfl⟩
  · rintro a (rfl | ⟨rfl, _⟩)
    · exact zaP s _ rfl
    · obtain ⟨o, e, _⟩ := hl; exact ⟨o, Heap.get?_push_of_some _ e⟩
  · intro z a ha
    rcases ha with ha | ⟨rfl, hv⟩
    · exact ha
    · exact absurd hv (hfz z _ rfl)
  · exact ⟨⟨_, Heap.get?_push_size _ rfl, rfl, rfl⟩, hl.push _⟩
  · rintro i h ⟨⟨o, e1, e2, e3⟩, _⟩; exact ⟨o, _, e1, e2, e3⟩
  · intro h h' hr hk; exact hr.mono λ a o na e => ⟨hk a na o e, na⟩
  · intro b hb
    rcases List.mem_cons.mp hb with rfl | hb
    · exact .inl (.inl rfl)
    · rw [List.mem_singleton.mp hb]
      by_cases hv : V ax
      · exact .inl (.inr ⟨rfl, hv⟩)
      · refine .inr λ h => h.elim (λ h => (e2 _ h).elim hv λ z => ?_) hne
        obtain ⟨o, e, _⟩ := hl
        rw [z] at e; cases e
  · intro i v d h hv hd hr
    obtain ⟨u, e1, e2⟩ := hr.get hd
    rw [Array.getElem?_toList] at e1
    have hv' : vs[i]? = some v := hv
    rw [hv'] at e1; cases e1; exact e2
theorem zjE {v : Value} {ds : List D} {target : Expr} {fz : Prop} {Q : Value -> Shared -> Prop} {E : Value -> Shared -> Prop} (rm : Rm A) (al : Al V s.heap) (ht : tgtOk target = true) (x : Rep gv s.heap V v (.tup ds))
    (hQ : ∀ it s₂, Itr prog w A gv V target fz ds s it s₂ -> Q it s₂) : wpAny (model prog w) A (pyIter v) Q E s := by
  have x' := x
  obtain ⟨ax, vs, rfl, hl, r⟩ := x.tupAt
  have hv : ¬ V ax := by cases x' with | tup h => exact h
  have hlt : ax < s.heap.objs.size := by obtain ⟨o, e, _⟩ := hl; exact Heap.lt_size e
  have hne : ax ≠ s.heap.objs.size := Nat.ne_of_lt hlt
  have len := r.length
  rw [Array.length_toList] at len
  refine wpAny_pyIter_tuple hl (hQ _ _ ⟨s.heap.objs.size, λ a => a = s.heap.objs.size, λ a => a = s.heap.objs.size, _, λ V' h => RepAll gv h (λ a => V' a ∨ a = s.heap.objs.size) vs.toList ds, rfl, ⟨zai s _, Nat.le_refl _⟩, ?_, ?_, λ _ a ha => ha, ?_, λ V' e1 e2 => ⟨zdd e2 r _, λ h h' hr hk => hr.mono λ a o na e => ⟨hk a na o e, na⟩,
    zkG (fp := λ a => a = s.heap.objs.size) (Walks.tuple rm.handled s.heap.objs.size ax hne vs) ht rfl (cls := "tuple_iterator") ?_ (by decide) len.symm (λ h => RepAll gv h (λ a => V' a ∨ a = s.heap.objs.size) vs.toList ds) ?_ ?_ (λ _ _ _ _ => trivial) ?_⟩⟩)
  · rintro a rfl; exact ⟨zav _, zaP s _ rfl⟩
  · rintro a rfl; exact zaP s _ rfl
  · exact ⟨⟨_, Heap.get?_push_size _ rfl, rfl, rfl⟩, hl.push _⟩
  · rintro i h ⟨⟨o, e1, e2, e3⟩, _⟩; exact ⟨o, _, e1, e2, e3⟩
  · intro h h' hr hk; exact hr.mono λ a o na e => ⟨hk a na o e, na⟩
  · intro b hb
    rcases List.mem_cons.mp hb with rfl | hb
    · exact .inl rfl
    · rw [List.mem_singleton.mp hb]
      refine .inr λ h => h.elim (λ h => (e2 _ h).elim hv λ z => ?_) hne
      obtain ⟨o, e, _⟩ := hl
      rw [z] at e; cases e
  · intro i v d h hv hd hr
    obtain ⟨u, e1, e2⟩ := hr.get hd
    rw [Array.getElem?_toList] at e1
    have hv' : vs[i]? = some v := hv
    rw [hv'] at e1; cases e1; exact e2
noncomputable def signs (x : Str) : List D := x.cps.toList.map λ c => .str ⟨#[c]⟩
theorem zka {x : Str} {t : Tok} {target : Expr} {fz : Prop} {Q : Value -> Shared -> Prop} {E : Value -> Shared -> Prop} (rm : Rm A) (al : Al V s.heap) (ht : ∃ y p, target = .Name y p)
    (hQ : ∀ it s₂, Itr prog w A gv V target fz (signs x) s it s₂ -> Q it s₂) : wpAny (model prog w) A (pyIter (.str x t)) Q E s := by
  obtain ⟨y, p, rfl⟩ := ht
  have key : ∀ {cls : String} (hcl : cls ≠ "list") (_ : (["enumerate", "zip", "dict_itemiterator", "dict_reverseitemiterator", "odict_iterator", "itertools.zip_longest", "itertools.pairwise"] : List String).contains cls = false)
      (W : Walks prog w A s.heap.objs.size [s.heap.objs.size] [s.heap.objs.size] x.cps.size (SignAt x) (λ i h => h.IsStrIter s.heap.objs.size cls x t i)),
      Q (.ref s.heap.objs.size) { s with heap := s.heap.push { cls := .type cls, data := .fields #[.str x t, .int 0 0] } } := by
    intro cls hcl hc W
    refine hQ _ _ ⟨s.heap.objs.size, λ a => a = s.heap.objs.size, λ a => a = s.heap.objs.size, _, λ V' h => True, rfl, ⟨zai s _, Nat.le_refl _⟩, ?_, ?_, λ _ a ha => ha, ?_, λ V' e1 e2 => ⟨trivial, λ _ _ _ _ => trivial,
      zkG (fp := λ a => a = s.heap.objs.size) W rfl rfl (cls := cls) ?_ hc (by simp [signs]) (λ h => True) (λ _ _ _ _ => trivial) ?_ (λ _ _ _ _ => trivial) ?_ hcl⟩⟩
    · rintro a rfl; exact ⟨zav _, zaP s _ rfl⟩
    · rintro a rfl; exact zaP s _ rfl
    · exact ⟨_, Heap.get?_push_size _ rfl, rfl, rfl⟩
    · rintro i h ⟨o, e1, e2, e3⟩; exact ⟨o, _, e1, e2, e3⟩
    · intro b hb; rw [List.mem_singleton.mp hb]; exact .inl rfl
    · rintro i v d h ⟨c, u, e1, rfl⟩ hd _
      have e : d = .str ⟨#[c]⟩ := by
        simp only [signs, List.getElem?_map, Array.getElem?_toList, e1, Option.map_some, Option.some.injEq] at hd
        exact hd.symm
      rw [e]; exact .str _ _
  cases ha : x.cps.all (· < 128)
  · exact wpAny_pyIter_wide ha (key (by decide) (by decide) (Walks.strWide rm.handled _ x t))
  · exact wpAny_pyIter_ascii ha (key (by decide) (by decide) (Walks.strAscii rm.handled _ x t))
noncomputable def zeJ (a b : Int) : List D := (List.range (if a < b then b - a else 0).toNat).map λ i => .int (a + (i : Nat))
theorem zjW {r : Addr} {a b : Int} {t u v : Tok} {target : Expr} {fz : Prop} {Q : Value -> Shared -> Prop} {E : Value -> Shared -> Prop} (rm : Rm A) (al : Al V s.heap) (ht : tgtOk target = true) (x : IsRange s.heap r a b 1 t u v) (ha : small a = true) (hb : small b = true)
    (hQ : ∀ it s₂, Itr prog w A gv V target fz (zeJ a b) s it s₂ -> Q it s₂) : wpAny (model prog w) A (pyIter (.ref r)) Q E s := by
  have ha' := small_iff.mp ha
  have hb' := small_iff.mp hb
  have hsm : Builtin.Range.small a b 1 = true := small_one (by lia) (by lia) (by lia) (by lia)
  have hn : Builtin.Range.rangeSize a b 1 = (((if a < b then b - a else 0).toNat : Nat) : Int) := by rw [rangeSize_one]; split <;> lia
  refine wpAny_pyIter_range x hsm (hQ _ _ ⟨s.heap.objs.size, λ a => a = s.heap.objs.size, λ a => a = s.heap.objs.size, _, λ V' h => True, rfl, ⟨zai s _, Nat.le_refl _⟩, ?_, ?_, λ _ a ha => ha, ?_, λ V' e1 e2 => ⟨trivial, λ _ _ _ _ => trivial,
    zkG (fp := λ a => a = s.heap.objs.size) (Walks.range rm.handled s.heap.objs.size a 1 (if a < b then b - a else 0).toNat) ht rfl (cls := "range_iterator") ?_ (by decide) (by simp [zeJ]) (λ h => True) (λ _ _ _ _ => trivial) ?_ (λ _ _ _ _ => trivial) ?_⟩⟩)
  · rintro a rfl; exact ⟨zav _, zaP s _ rfl⟩
  · rintro a rfl; exact zaP s _ rfl
  · show IsRangeIter _ _ _ _ _
    rw [hn, Int.natCast_zero, Int.zero_mul, Int.add_zero, Int.sub_zero]
    exact Heap.get?_push_size s.heap rfl
  · intro i h hst; exact ⟨_, _, hst, rfl, rfl⟩
  · intro b hb; rw [List.mem_singleton.mp hb]; exact .inl rfl
  · rintro i v d h ⟨t, rfl⟩ hd _
    have e : d = .int (a + (i : Nat)) := by
      obtain ⟨h1, rfl⟩ := List.getElem?_eq_some_iff.mp hd
      simp [zeJ]
    rw [e, Int.mul_one]; exact .int _ _
end
end Mine
end
section
open PySem PySem.W PyProof.Rows
open PySem.AutoSeq1 (wpAny_loadPart')
set_option maxRecDepth 100000
namespace Mine
structure Inner (prog : Program) (w : World) (A : Around) (it : Addr) (fp : Addr -> Prop) (vs : Array Value) (Nx : Nat -> Heap -> Prop) : Prop where
  frame : ∀ i h h', Nx i h -> (∀ b, fp b -> ∀ o, h.get? b = some o -> h'.get? b = some o) -> Nx i h'
  live : ∀ i h, Nx i h -> ∃ o, h.get? it = some o
  nl : ∀ i h, Nx i h -> ∀ o, h.get? it = some o -> o.cls ≠ .type "list"
  next : ∀ i x (s : Shared) (Q : Value -> Shared -> Prop) (E : Value -> Shared -> Prop), Nx i s.heap -> vs[i]? = some x ->
    (∀ h', Nx (i + 1) h' -> Heap.SameBut it s.heap h' -> Q x { s with heap := h' }) -> wpAny (model prog w) A (Builtin.SmallTypes.nextOf (.ref it)) Q E s
  done : ∀ (s : Shared) (Q : Value -> Shared -> Prop) (E : Value -> Shared -> Prop), Nx vs.size s.heap ->
    (∀ h' e, Heap.ExtBut it s.heap h' -> (∃ o, h'.get? e = some o /\ o.cls = .type "StopIteration") -> E (.ref e) { s with heap := h' }) -> wpAny (model prog w) A (Builtin.SmallTypes.nextOf (.ref it)) Q E s
section
variable {prog : Program} {w : World} {A : Around} {s : Shared}
theorem ziv (hh : A.handled = none) (it l : Addr) (hne : l ≠ it) (vs : Array Value) : Inner prog w A it (λ a => a = it ∨ a = l) vs (λ i h => h.IsListIter it l i /\ h.IsList l vs) where
  frame := λ i h h' st hk => ⟨st.1.at λ o e => hk it (.inl rfl) o e, st.2.at λ o e => hk l (.inr rfl) o e⟩
  live := λ i h st => let ⟨o, e, _⟩ := st.1; ⟨o, e⟩
  nl := λ i h st o e hc => by
    obtain ⟨o', e', h1, _⟩ := st.1
    rw [e] at e'; cases e'; rw [h1] at hc; exact absurd hc (by decide)
  next := λ i x s Q E st hx hQ => wpAny_nextOf_list_item st.1 st.2 hx λ h' hit hs => hQ h' ⟨hit, st.2.extBut hs.extBut hne⟩ hs
  done := λ s Q E st hE => wpAny_nextOf_list_end hh st.1 st.2 (by simp) hE
theorem zim {it t : Addr} {i : Nat} {vs : Array Value} {x : Value} {Q : Value -> Shared -> Prop} {E : Value -> Shared -> Prop} (hit : s.heap.IsTupleIter it t i) (ht : s.heap.IsTuple t vs) (hx : vs[i]? = some x)
    (hQ : ∀ h', h'.IsTupleIter it t (i + 1) -> Heap.SameBut it s.heap h' -> Q x { s with heap := h' }) : wpAny (model prog w) A (Builtin.SmallTypes.nextOf (.ref it)) Q E s := by
  obtain ⟨o, ho, hc, hd⟩ := id hit
  obtain ⟨ot, hot, _, n, hdt⟩ := ht
  unfold Builtin.SmallTypes.nextOf
  refine wpAny_bind (wpAny_callSpecial?_slot (name := Str.ofString "__next__") hit.typeIs F.slot_tuple_iterator_next
    (wpAny_call_entry F.slot_tuple_iterator_next hit.typeIs F.entry_tuple_iterator_next ?_ (F.args_tuple_iterator_next_1 _)))
  show wpAny _ _ (field (.ref it) 0 >>= _) _ _ s
  refine wpAny_bind (wpAny_field ho hd (x := .ref t) rfl ?_)
  show wpAny _ _ (if (Value.ref t == Value.none) = true then _ else _) _ _ s
  rw [if_neg (show ¬ ((Value.ref t == Value.none) = true) from Bool.false_ne_true)]
  show wpAny _ _ (field (.ref it) 1 >>= _) _ _ s
  refine wpAny_bind (wpAny_field ho hd (x := .int i 0) rfl ?_)
  show wpAny _ _ (seqItems? (.ref t) >>= _) _ _ s
  refine wpAny_bind (wpAny_seqItems hot hdt ?_)
  simp only [Int.toNat_natCast, hx]
  refine wpAny_bind (wpAny_setField ho hd (by simp) (wpAny_pure ⟨x, rfl, wpAny_pure (hQ _ ?_ (Heap.SameBut.update ..))⟩))
  exact ⟨_, Heap.get?_update_self _ ho (Obj.isFreed_of_fields (Obj.data_mapFields hd _)), (Obj.cls_mapFields ..).trans hc, by
    rw [Obj.data_mapFields hd]; simp [rawInt]⟩
theorem zeg {it t : Addr} {i : Nat} {vs : Array Value} {Q : Value -> Shared -> Prop} {E : Value -> Shared -> Prop} (hh : A.handled = none) (hit : s.heap.IsTupleIter it t i) (ht : s.heap.IsTuple t vs) (hx : vs[i]? = none)
    (hE : ∀ h' e, Heap.ExtBut it s.heap h' -> (∃ o, h'.get? e = some o /\ o.cls = .type "StopIteration") -> E (.ref e) { s with heap := h' }) : wpAny (model prog w) A (Builtin.SmallTypes.nextOf (.ref it)) Q E s := by
  obtain ⟨o, ho, hc, hd⟩ := id hit
  obtain ⟨ot, hot, _, n, hdt⟩ := ht
  unfold Builtin.SmallTypes.nextOf
  refine wpAny_bind (wpAny_callSpecial?_slot (name := Str.ofString "__next__") hit.typeIs F.slot_tuple_iterator_next
    (wpAny_call_entry F.slot_tuple_iterator_next hit.typeIs F.entry_tuple_iterator_next ?_ (F.args_tuple_iterator_next_1 _)))
  show wpAny _ _ (field (.ref it) 0 >>= _) _ _ s
  refine wpAny_bind (wpAny_field ho hd (x := .ref t) rfl ?_)
  show wpAny _ _ (if (Value.ref t == Value.none) = true then _ else _) _ _ s
  rw [if_neg (show ¬ ((Value.ref t == Value.none) = true) from Bool.false_ne_true)]
  show wpAny _ _ (field (.ref it) 1 >>= _) _ _ s
  refine wpAny_bind (wpAny_field ho hd (x := .int i 0) rfl ?_)
  show wpAny _ _ (seqItems? (.ref t) >>= _) _ _ s
  refine wpAny_bind (wpAny_seqItems hot hdt ?_)
  simp only [Int.toNat_natCast, hx]
  refine wpAny_bind (wpAny_rule (wpAny_bind (wpAny_setField ho hd (by simp) ?_)))
  show wpAny _ _ (newExc (.type "StopIteration") [] >>= _) _ _ _
  refine wpAny_bind ?_
  simp only [newExc, newTuple]
  refine wpAny_bind (wpAny_newObj_type ?_ (by size_fits))
  refine wpAny_bind (m := firstArgMember _ _) (wpAny_of_eq (a := Value.none) (by first | rfl | (simp only [firstArgMember]; rfl)) ?_)
  refine wpAny_newObj_type ?_ (by size_fits)
  simp only [raiseNew]
  refine wpAny_bind (wpAny_handled ?_)
  first | rw [show A.in1.handled = none from hh] | rw [hh]
  refine wpAny_bind (wpAny_pure (wpAny_throw ?_))
  exact hE _ _ (((Heap.SameBut.update ..).extBut.push _).push _) ⟨_, Heap.get?_push_size _ rfl, rfl⟩
theorem zfh {h h' : Heap} {a : Addr} {vs : Array Value} (x : h.IsTuple a vs) (e : ∀ o, h.get? a = some o -> h'.get? a = some o) : h'.IsTuple a vs := let ⟨o, ho, r⟩ := x; ⟨o, e _ ho, r⟩
theorem zf7 {h h' : Heap} {a t : Addr} {i : Nat} (x : h.IsTupleIter a t i) (e : ∀ o, h.get? a = some o -> h'.get? a = some o) : h'.IsTupleIter a t i := let ⟨o, ho, r⟩ := x; ⟨o, e _ ho, r⟩
theorem zj0 (hh : A.handled = none) (it l : Addr) (hne : l ≠ it) (vs : Array Value) : Inner prog w A it (λ a => a = it ∨ a = l) vs (λ i h => h.IsTupleIter it l i /\ h.IsTuple l vs) where
  frame := λ i h h' st hk => ⟨zf7 st.1 λ o e => hk it (.inl rfl) o e, zfh st.2 λ o e => hk l (.inr rfl) o e⟩
  live := λ i h st => let ⟨o, e, _⟩ := st.1; ⟨o, e⟩
  nl := λ i h st o e hc => by
    obtain ⟨o', e', h1, _⟩ := st.1
    rw [e] at e'; cases e'; rw [h1] at hc; exact absurd hc (by decide)
  next := λ i x s Q E st hx hQ => zim st.1 st.2 hx λ h' hit hs => hQ h' ⟨hit, zfh st.2 λ o e => hs.extBut _ _ hne e⟩ hs
  done := λ s Q E st hE => zeg hh st.1 st.2 (by simp) hE
theorem zec (l : Addr) (items : Array Value) (n : Nat) (dct : Option Addr) (sl : Array (Option Value)) :
    Meets (Builtin.«enumerate.__new__» ⟨[.type "enumerate", .ref l], []⟩) (λ _ R s => s.heap.get? l = some { cls := .type "tuple", dict := dct, data := .seq items n, slots := sl } /\
      R (.ok (.ret (.ref (s.heap.push { cls := .type "tuple_iterator", data := .fields #[.ref l, .int 0 0] }).objs.size)))
        { s with heap := (s.heap.push { cls := .type "tuple_iterator", data := .fields #[.ref l, .int 0 0] }).push { cls := .type "enumerate", data := .fields #[.none, .bool false, .ref s.heap.objs.size, rawInt 0, .none, .none] } }) :=
  .of_wp λ prog w A R s h => by
    obtain ⟨hp, g, d, tk, os⟩ := s; obtain ⟨hl, h⟩ := h
    have hsub := sub_enumerate
    have hL : Heap.IsTuple (Shared.heap ⟨hp, g, d, tk, os⟩) l items := ⟨_, hl, rfl, n, rfl⟩
    wp_walk using wpAny_loadPart' hl
    refine wpAny_stack_any λ st => wpAny_pure ?_
    split
    · rename_i c _ _ _ _ _
      cases (c == Value.type "enumerate")
      · wp_walk using wpAny_loadPart' hl, wpAny_pyIter_tuple hL
        exact ⟨_, rfl, h⟩
      · wp_walk using wpAny_loadPart' hl, wpAny_pyIter_tuple hL
        exact ⟨_, rfl, h⟩
    · wp_walk using wpAny_loadPart' hl, wpAny_pyIter_tuple hL
      exact ⟨_, rfl, h⟩
theorem ze7 {l : Addr} {items : Array Value} {Q : Value -> Shared -> Prop} {E : Value -> Shared -> Prop} (hL : s.heap.IsTuple l items)
    (h : ∀ h', IsEnum h' (s.heap.objs.size + 1) s.heap.objs.size 0 .none -> h'.IsTupleIter s.heap.objs.size l 0 -> h'.objs.size = s.heap.objs.size + 2 ->
      (∀ b o, s.heap.get? b = some o -> h'.get? b = some o) -> Q (.ref (s.heap.objs.size + 1)) { s with heap := h' }) :
    wpAny (model prog w) A (call (.type "enumerate") [.ref l]) Q E s := by
  obtain ⟨⟨c, dct, dt, sl⟩, hl, hc, n, hd⟩ := hL
  replace hc : c = .type "tuple" := hc
  replace hd : dt = .seq items n := hd
  subst hc hd
  refine callType_new F.called_enumerate (by decide) (F.typeCall_enumerate_1 _) (F.newCall_enumerate_1 _) (λ obj => F.args_object_init_2 obj _) F.entry_enumerate_new
    (zec l items n dct sl) ⟨hl, ?_⟩
  have hz : (s.heap.push { cls := .type "tuple_iterator", data := .fields #[.ref l, .int 0 0] }).objs.size = s.heap.objs.size + 1 := Heap.size_push ..
  show _ /\ _
  rw [hz]
  have he : IsEnum ((s.heap.push { cls := .type "tuple_iterator", data := .fields #[.ref l, .int 0 0] }).push
      { cls := .type "enumerate", data := .fields #[.none, .bool false, .ref s.heap.objs.size, rawInt 0, .none, .none] }) (s.heap.objs.size + 1) s.heap.objs.size 0 .none := by
    have := Heap.get?_push_size (s.heap.push { cls := .type "tuple_iterator", data := .fields #[.ref l, .int 0 0] })
      (o := { cls := .type "enumerate", data := .fields #[.none, .bool false, .ref s.heap.objs.size, rawInt 0, .none, .none] }) rfl
    rw [hz] at this; exact this
  exact ⟨⟨_, he, rfl⟩, h _ he ⟨_, Heap.get?_push_of_some _ (Heap.get?_push_size _ rfl), rfl, rfl⟩ (by rw [Heap.size_push, hz]) λ b o x => Heap.get?_push_of_some _ (Heap.get?_push_of_some _ x)⟩
theorem zjH {e it : Addr} {i : Nat} {x old : Value} {fp : Addr -> Prop} {vs : Array Value} {Nx : Nat -> Heap -> Prop} {Q : Option Value -> Shared -> Prop} {E : Value -> Shared -> Prop} (I : Inner prog w A.in1 it fp vs Nx)
    (he : IsEnum s.heap e it i old) (hn : Nx i s.heap) (hx : vs[i]? = some x) (hne : e ≠ it) (hfe : ¬ fp e)
    (hQ : ∀ h', IsEnumOut h' e it ((i : Int) + 1) x s.heap.objs.size -> Nx (i + 1) h' ->
      h'.get? s.heap.objs.size = some { cls := .type "tuple", data := .seq #[.int i s.toks, x] } ->
      (∀ b o, b ≠ e -> b ≠ it -> s.heap.get? b = some o -> h'.get? b = some o) -> Q (some (.ref s.heap.objs.size)) { s with heap := h', toks := s.toks + 1 }) :
    wpAny (model prog w) A (pyNext (.ref e)) Q E s := by
  have hT : s.TypeIs (.ref e) "enumerate" := ⟨_, he, rfl⟩
  unfold pyNext
  refine wpAny_bind (wpAny_attempt (wpAny_callSpecial?_slot (name := Str.ofString "__next__") hT F.slot_enumerate_next
    (wpAny_call_entry F.slot_enumerate_next hT F.entry_enumerate_next ?_ (F.args_enumerate_next_1 _))))
  clear hT
  obtain ⟨hp, g, d, tk, os⟩ := s
  show wpAny _ _ (field (.ref e) 2 >>= _) _ _ _
  refine wpAny_bind (wpAny_field he rfl (x := .ref it) rfl ?_)
  refine wpAny_bind (I.next i x _ _ _ hn hx λ h₁ hn₁ hs₁ => ?_)
  replace hs₁ : Heap.SameBut it hp h₁ := hs₁
  have he₁ : IsEnum h₁ e it i old := (hs₁.2 e hne).trans he
  show wpAny _ _ (field (.ref e) 3 >>= _) _ _ ⟨h₁, g, d, tk, os⟩
  refine wpAny_bind (wpAny_field he₁ rfl (x := rawInt i) rfl ?_)
  show wpAny _ _ (field (.ref e) 4 >>= _) _ _ ⟨h₁, g, d, tk, os⟩
  refine wpAny_bind (wpAny_field he₁ rfl (x := .none) rfl ?_)
  show wpAny _ _ (mkInt i >>= _) _ _ ⟨h₁, g, d, tk, os⟩
  refine wpAny_bind (wpAny_mkInt ?_)
  show wpAny _ _ (setField (.ref e) 3 (rawInt ((i : Int) + 1)) >>= _) _ _ ⟨h₁, g, d, tk + 1, os⟩
  refine wpAny_bind (wpAny_setField_rec he₁ (by simp) λ h₂ he₂ hs₂ => ?_)
  replace hs₂ : Heap.SameBut e h₁ h₂ := hs₂
  replace he₂ : IsEnum h₂ e it ((i : Int) + 1) old := he₂
  show wpAny _ _ (setField (.ref e) 4 .none >>= _) _ _ ⟨h₂, g, d, tk + 1, os⟩
  refine wpAny_bind (wpAny_setField_rec he₂ (by simp) λ h₃ he₃ hs₃ => ?_)
  replace hs₃ : Heap.SameBut e h₂ h₃ := hs₃
  replace he₃ : IsEnum h₃ e it ((i : Int) + 1) old := he₃
  show wpAny _ _ (newTuple [.int i tk, x] >>= _) _ _ ⟨h₃, g, d, tk + 1, os⟩
  refine wpAny_bind (wpAny_newTuple ?_)
  have he₄ : IsEnum (h₃.push { cls := .type "tuple", data := .seq #[.int i tk, x] }) e it ((i : Int) + 1) old := Heap.get?_push_of_some _ he₃
  generalize hh₄ : h₃.push { cls := .type "tuple", data := .seq #[.int i tk, x] } = h₄ at he₄
  have hsz : h₃.objs.size = hp.objs.size := by rw [hs₃.1, hs₂.1, hs₁.1]
  have hel : e < hp.objs.size := Heap.lt_size he
  have ht₄ : h₄.get? hp.objs.size = some { cls := .type "tuple", data := .seq #[.int i tk, x] } := by rw [<- hh₄, <- hsz]; exact Heap.get?_push_size _ rfl
  have hk₄ : ∀ b o, b ≠ e -> b ≠ it -> hp.get? b = some o -> h₄.get? b = some o := λ b o hbe hbi hb => by
    rw [<- hh₄]; exact Heap.get?_push_of_some _ (hs₃.extBut b o hbe (hs₂.extBut b o hbe (hs₁.extBut b o hbi hb)))
  have up : ∀ b, fp b -> ∀ o, h₁.get? b = some o -> h₄.get? b = some o := λ b hb o q => by
    have hbe : b ≠ e := λ r => hfe (r ▸ hb)
    rw [<- hh₄]; exact Heap.get?_push_of_some _ (hs₃.extBut b o hbe (hs₂.extBut b o hbe q))
  have hn₄ : Nx (i + 1) h₄ := I.frame _ _ _ hn₁ up
  show wpAny _ _ (Builtin.SmallTypes.ownedTupleIsFree (.ref e) >>= _) _ _ ⟨h₄, g, d, tk + 1, os⟩
  rw [hsz]
  clear hh₄ he₃ hs₃ he₂ hs₂ he₁ hs₁ hn₁ hsz up
  refine wpAny_bind ?_
  unfold Builtin.SmallTypes.ownedTupleIsFree
  refine wpAny_bind (wpAny_field he₄ rfl (x := .none) rfl (wpAny_pure ?_))
  simp only [if_true]
  refine wpAny_bind (wpAny_rule ?_)
  refine wpAny_bind (wpAny_field he₄ rfl (x := old) rfl ?_)
  refine wpAny_bind (wpAny_setField_rec he₄ (by simp) λ h₅ he₅ hs₅ => ?_)
  replace hs₅ : Heap.SameBut e h₄ h₅ := hs₅
  replace he₅ : IsEnum h₅ e it ((i : Int) + 1) x := he₅
  show wpAny _ _ (Builtin.SmallTypes.ownedTupleHandOut (.ref e) (.ref hp.objs.size) >>= _) _ _ ⟨h₅, g, d, tk + 1, os⟩
  refine wpAny_bind ?_
  unfold Builtin.SmallTypes.ownedTupleHandOut
  refine wpAny_bind (wpAny_setField_rec he₅ (by simp) λ h₆ he₆ hs₆ => ?_)
  replace hs₆ : Heap.SameBut e h₅ h₆ := hs₆
  replace he₆ : IsEnumOut h₆ e it ((i : Int) + 1) x hp.objs.size := he₆
  refine wpAny_setField_rec he₆ (by simp) λ h₇ he₇ hs₇ => ?_
  replace hs₇ : Heap.SameBut e h₆ h₇ := hs₇
  replace he₇ : IsEnumOut h₇ e it ((i : Int) + 1) x hp.objs.size := he₇
  have k₇ : ∀ b o, b ≠ e -> h₄.get? b = some o -> h₇.get? b = some o := λ b o hb q => hs₇.extBut b o hb (hs₆.extBut b o hb (hs₅.extBut b o hb q))
  refine wpAny_bind (wpAny_letGo (wpAny_pure ⟨_, rfl, wpAny_pure (hQ h₇ he₇ ?_ ?_ ?_)⟩))
  · exact I.frame _ _ _ hn₄ λ b hb o q => k₇ b o (λ r => hfe (r ▸ hb)) q
  · exact k₇ _ _ (Nat.ne_of_gt hel) ht₄
  · exact λ b o hbe hbi hb => k₇ b o hbe (hk₄ b o hbe hbi hb)
theorem zkB {e it : Addr} {old : Value} {fp : Addr -> Prop} {vs : Array Value} {Nx : Nat -> Heap -> Prop} {Q : Option Value -> Shared -> Prop} {E : Value -> Shared -> Prop} (I : Inner prog w A.in1 it fp vs Nx)
    {j : Int} (he : IsEnum s.heap e it j old) (hn : Nx vs.size s.heap)
    (hQ : ∀ h', Heap.ExtBut it s.heap h' -> Q none { s with heap := h' }) : wpAny (model prog w) A (pyNext (.ref e)) Q E s := by
  have hT : s.TypeIs (.ref e) "enumerate" := ⟨_, he, rfl⟩
  unfold pyNext
  refine wpAny_bind (wpAny_attempt (wpAny_callSpecial?_slot (name := Str.ofString "__next__") hT F.slot_enumerate_next
    (wpAny_call_entry F.slot_enumerate_next hT F.entry_enumerate_next ?_ (F.args_enumerate_next_1 _))))
  show wpAny _ _ (field (.ref e) 2 >>= _) _ _ _
  refine wpAny_bind (wpAny_field he rfl (x := .ref it) rfl ?_)
  refine wpAny_bind (I.done _ _ _ hn λ h' x he' hx' => ?_)
  obtain ⟨o, ho, hc⟩ := hx'
  refine wpAny_bind (wpAny_isInstance (T := "StopIteration") (b := true) ⟨o, ho, hc⟩ isSubtype_stop ?_)
  exact wpAny_pure (hQ _ he')
end
end Mine
end
section
open PySem PySem.W PyProof.Rows
set_option maxRecDepth 10000
namespace Mine
noncomputable def enumF : Nat -> List D -> List D
  | _, [] => []
  | k, d :: ds => .tup [.int k, d] :: enumF (k + 1) ds
theorem zfQ : ∀ {ds : List D} {k i : Nat} {e : D}, (enumF k ds)[i]? = some e -> ∃ d, ds[i]? = some d /\ e = .tup [.int ((k + i : Nat) : Int), d]
  | [], k, i, e, h => by simp [enumF] at h
  | d :: ds, k, i, e, h => by
    cases i with
    | zero => simp [enumF] at h; exact ⟨d, rfl, h ▸ rfl⟩
    | succ i =>
      rw [enumF, List.getElem?_cons_succ] at h
      obtain ⟨d', h1, h2⟩ := zfQ h
      refine ⟨d', by simpa using h1, ?_⟩
      rw [h2]; congr 3; lia
theorem zfW : ∀ (ds : List D) (k : Nat), (enumF k ds).length = ds.length
  | [], _ => rfl
  | _ :: ds, k => by rw [enumF, List.length_cons, List.length_cons, zfW ds]
section
variable {prog : Program} {w : World} {A : Around} {gv : String -> Option Value} {V : Addr -> Prop} {s : Shared}
theorem ziL {e it ax : Addr} {vs : Array Value} {ds : List D} {Nx : Nat -> Heap -> Prop} {es : List Expr} {k : Nat} {p : Pos} (I : Inner prog w A.in1 it (λ a => a = it ∨ a = ax) vs Nx) (hei : e ≠ it) (hea : e ≠ ax) (hia : it ≠ ax) (hlen : vs.size = ds.length) {U : Addr -> Prop} (hU : V ax -> U ax) :
    Wk prog w A gv (λ a => V a ∨ (a = e ∨ a = it)) (.Tuple es k p) e (λ a => a = e ∨ a = it) (λ a => (a = e ∨ a = it) ∨ (a = ax /\ U a)) (enumF 0 ds)
      (λ i h => ((∃ old, IsEnum h e it i old) /\ Nx i h) /\ RepAll gv h (λ a => V a ∨ (a = e ∨ a = it)) vs.toList ds) where
  zfp := λ a ha => .inl ha
  frame := λ i h h' ⟨⟨⟨old, h1⟩, h2⟩, h3⟩ hk => by
    refine ⟨⟨⟨old, hk e (.inl (.inl (.inl rfl))) _ h1⟩, I.frame i h h' h2 λ b hb o q => ?_⟩, h3.mono λ a o na q => ⟨hk a (.inr na) o q, na⟩⟩
    rcases hb with rfl | rfl
    · exact hk b (.inl (.inl (.inr rfl))) o q
    · by_cases hv : V b
      · exact hk b (.inl (.inr ⟨rfl, hU hv⟩)) o q
      · exact hk b (.inr λ h => h.elim hv λ h => h.elim (λ h => hea h.symm) λ h => hia h.symm) o q
  item := λ i d s Q E hd ⟨⟨⟨old, h1⟩, h2⟩, h3⟩ al hQ => by
    obtain ⟨x, hx, rfl⟩ := zfQ hd
    obtain ⟨v, e1, e2⟩ := h3.get hx
    rw [Array.getElem?_toList] at e1
    have hfe : ¬ (e = it ∨ e = ax) := λ h => h.elim hei hea
    obtain ⟨oi, hoi⟩ := I.live _ _ h2
    have hlt : e < s.heap.objs.size := Heap.lt_size h1
    have hlti : it < s.heap.objs.size := Heap.lt_size hoi
    refine zjH I h1 h2 e1 hei hfe λ h' g1 g2 g3 g4 => ?_
    refine wpAny_letOwnedTupleGo_enum g1 λ h'' g5 g6 => ?_
    replace g6 : Heap.SameBut e h' h'' := g6
    obtain ⟨oi', hoi'⟩ := I.live _ _ g2
    have up : ∀ b o, b ≠ e -> b ≠ it -> s.heap.get? b = some o -> h''.get? b = some o := λ b o b1 b2 q => g6.extBut b o b1 (g4 b o b1 b2 q)
    refine hQ _ _ ⟨⟨h'', _, rfl⟩, Nat.le_succ _, λ a o na q => up a o (λ r => na (.inl r)) (λ r => na (.inr r)) q, λ a o q => ?_⟩ ⟨⟨⟨_, by simpa using g5⟩, I.frame _ _ _ g2 λ b hb o q => g6.extBut b o (λ r => hfe (r ▸ hb)) q⟩, ?_⟩ ?_
    · by_cases a1 : a = e
      · subst a1; exact ⟨_, g5⟩
      · by_cases a2 : a = it
        · subst a2; exact ⟨oi', g6.extBut _ _ a1 hoi'⟩
        · exact ⟨o, up a o a1 a2 q⟩
    · exact h3.mono λ a o na q => ⟨up a o (λ r => na (.inr (.inl r))) (λ r => na (.inr (.inr r))) q, na⟩
    · refine .tup (λ h => ?_) (g6.extBut _ _ (Nat.ne_of_gt hlt) g3) rfl rfl (.cons (by rw [Nat.zero_add]; exact .int _ _) (.cons (e2.mono λ a o na q => ⟨up a o (λ r => na (.inr (.inl r))) (λ r => na (.inr (.inr r))) q, na⟩) .nil))
      rcases al _ h with ⟨o, q⟩
      rw [zav] at q; cases q
  done := λ s Q E ⟨⟨⟨old, h1⟩, h2⟩, h3⟩ hQ => by
    rw [zfW, <- hlen] at h1 h2
    refine zkB I h1 h2 λ h' hx => ⟨rfl, hQ _ ⟨⟨h', s.toks, rfl⟩, Nat.le_refl _, λ a o na q => hx a o (λ r => na (.inr r)) q⟩⟩
  self := λ i s Q E ⟨⟨⟨old, h1⟩, _⟩, _⟩ hQ => wpAny_pyIter_enum h1 hQ
  nl := λ i h a vs' ⟨⟨⟨old, h1⟩, h2⟩, _⟩ ha hl => by
    obtain ⟨o', h3, h4, _⟩ := hl
    rcases ha with rfl | rfl
    · rw [h1] at h3; cases h3; exact absurd (show Value.type "enumerate" = Value.type "list" from h4) (by decide)
    · exact I.nl _ _ h2 o' h3 h4
theorem zf0 {v : Value} {ds : List D} {es : List Expr} {k : Nat} {p : Pos} {fz : Prop} {Q : Value -> Shared -> Prop} {E : Value -> Shared -> Prop} (rm : Rm A) (al : Al V s.heap) (x : LstAt gv s.heap V v ds) (hfz : fz -> ∀ a, v = .ref a -> ¬ V a)
    (hQ : ∀ it s₂, Itr prog w A gv V (.Tuple es k p) fz (enumF 0 ds) s it s₂ -> Q it s₂) : wpAny (model prog w) A (call (.type "enumerate") [v]) (λ x s₁ => wpAny (model prog w) A (pyIter x) Q E s₁) E s := by
  obtain ⟨ax, vs, rfl, hl, r⟩ := x
  have hlt : ax < s.heap.objs.size := by obtain ⟨o, e, _⟩ := hl; exact Heap.lt_size e
  have len := r.length
  rw [Array.length_toList] at len
  refine call_enumerate_list hl λ h' g1 g2 g3 g4 => wpAny_pyIter_enum g1 (hQ _ _ ⟨s.heap.objs.size + 1, λ a => a = s.heap.objs.size + 1 ∨ a = s.heap.objs.size, λ a => (a = s.heap.objs.size + 1 ∨ a = s.heap.objs.size) ∨ (a = ax /\ V a), _, λ V' h => RepAll gv h (λ a => V' a ∨ (a = s.heap.objs.size + 1 ∨ a = s.heap.objs.size)) vs.toList ds, rfl, ⟨⟨h', s.toks, rfl, g4⟩, Nat.le_refl _⟩, ?_, ?_, ?_, ?_, λ V' e1 e2 => ⟨?_, λ h h' hr hk => hr.mono λ a o na e => ⟨hk a na o e, na⟩,
    ziL (vs := vs) (ds := ds) (ax := ax) (V := V') (U := V) (ziv (show A.in1.handled = none from rm.handled) s.heap.objs.size ax (Nat.ne_of_lt hlt) vs) (Nat.succ_ne_self _) (Nat.ne_of_gt (Nat.lt_succ_of_lt hlt)) (Nat.ne_of_gt hlt) len λ h => (e2 _ h).resolve_right λ z => by obtain ⟨o, q, _⟩ := hl; rw [z] at q; cases q⟩⟩)
  · rintro a (rfl | rfl)
    · refine ⟨?_, _, g1⟩
      cases q : s.heap.get? (s.heap.objs.size + 1) with
      | none => rfl
      | some o => exact absurd (Nat.lt_trans (Nat.lt_succ_self _) (Heap.lt_size q)) (Nat.lt_irrefl _)
    · exact ⟨zav _, let ⟨o, q, _⟩ := g2; ⟨o, q⟩⟩
  · rintro a ((rfl | rfl) | ⟨rfl, _⟩)
    · exact ⟨_, g1⟩
    · exact let ⟨o, q, _⟩ := g2; ⟨o, q⟩
    · exact let ⟨o, q, _⟩ := hl; ⟨o, g4 _ _ q⟩
  · intro z a ha
    rcases ha with ha | ⟨rfl, hv⟩
    · exact ha
    · exact absurd hv (hfz z _ rfl)
  · exact ⟨⟨_, g1⟩, ⟨g2, zfB hl g4⟩⟩
  · refine r.mono λ a o na q => ⟨g4 _ _ q, ?_⟩
    rintro (h | h | h)
    · exact (e2 a h).elim na λ z => by rw [z] at q; cases q
    · have := Heap.lt_size q; subst h; exact absurd (Nat.lt_trans (Nat.lt_succ_self _) this) (Nat.lt_irrefl _)
    · have := Heap.lt_size q; subst h; exact absurd this (Nat.lt_irrefl _)
theorem zgd {v : Value} {ds : List D} {es : List Expr} {k : Nat} {p : Pos} {fz : Prop} {Q : Value -> Shared -> Prop} {E : Value -> Shared -> Prop} (rm : Rm A) (al : Al V s.heap) (x : Rep gv s.heap V v (.tup ds))
    (hQ : ∀ it s₂, Itr prog w A gv V (.Tuple es k p) fz (enumF 0 ds) s it s₂ -> Q it s₂) : wpAny (model prog w) A (call (.type "enumerate") [v]) (λ x s₁ => wpAny (model prog w) A (pyIter x) Q E s₁) E s := by
  have x' := x
  obtain ⟨ax, vs, rfl, hl, r⟩ := x.tupAt
  have hv : ¬ V ax := by cases x' with | tup h => exact h
  have hlt : ax < s.heap.objs.size := by obtain ⟨o, e, _⟩ := hl; exact Heap.lt_size e
  have len := r.length
  rw [Array.length_toList] at len
  refine ze7 hl λ h' g1 g2 g3 g4 => wpAny_pyIter_enum g1 (hQ _ _ ⟨s.heap.objs.size + 1, λ a => a = s.heap.objs.size + 1 ∨ a = s.heap.objs.size, λ a => (a = s.heap.objs.size + 1 ∨ a = s.heap.objs.size) ∨ (a = ax /\ V a), _, λ V' h => RepAll gv h (λ a => V' a ∨ (a = s.heap.objs.size + 1 ∨ a = s.heap.objs.size)) vs.toList ds, rfl, ⟨⟨h', s.toks, rfl, g4⟩, Nat.le_refl _⟩, ?_, ?_, ?_, ?_, λ V' e1 e2 => ⟨?_, λ h h' hr hk => hr.mono λ a o na e => ⟨hk a na o e, na⟩,
    ziL (vs := vs) (ds := ds) (ax := ax) (V := V') (U := V) (zj0 (show A.in1.handled = none from rm.handled) s.heap.objs.size ax (Nat.ne_of_lt hlt) vs) (Nat.succ_ne_self _) (Nat.ne_of_gt (Nat.lt_succ_of_lt hlt)) (Nat.ne_of_gt hlt) len λ h => (e2 _ h).resolve_right λ z => by obtain ⟨o, q, _⟩ := hl; rw [z] at q; cases q⟩⟩)
  · rintro a (rfl | rfl)
    · refine ⟨?_, _, g1⟩
      cases q : s.heap.get? (s.heap.objs.size + 1) with
      | none => rfl
      | some o => exact absurd (Nat.lt_trans (Nat.lt_succ_self _) (Heap.lt_size q)) (Nat.lt_irrefl _)
    · exact ⟨zav _, let ⟨o, q, _⟩ := g2; ⟨o, q⟩⟩
  · rintro a ((rfl | rfl) | ⟨rfl, _⟩)
    · exact ⟨_, g1⟩
    · exact let ⟨o, q, _⟩ := g2; ⟨o, q⟩
    · exact let ⟨o, q, _⟩ := hl; ⟨o, g4 _ _ q⟩
  · intro z a ha
    rcases ha with ha | ⟨rfl, hv'⟩
    · exact ha
    · exact absurd hv' hv
  · exact ⟨⟨_, g1⟩, ⟨g2, zfh hl λ o q => g4 _ _ q⟩⟩
  · refine r.mono λ a o na q => ⟨g4 _ _ q, ?_⟩
    rintro (h | h | h)
    · exact (e2 a h).elim na λ z => by rw [z] at q; cases q
    · have := Heap.lt_size q; subst h; exact absurd (Nat.lt_trans (Nat.lt_succ_self _) this) (Nat.lt_irrefl _)
    · have := Heap.lt_size q; subst h; exact absurd this (Nat.lt_irrefl _)
end
noncomputable def zel : List D -> Option (List Str)
  | [] => some []
  | d :: ds => d.gS.bind λ i => (zel ds).map (i :: ·)
noncomputable def joinP (x : Str) (ys : List Str) : Option D := if (ys.map (·.length)).sum + ys.length * x.length ≤ 2 ^ 20 then some (.str (Txt.join x ys)) else none
noncomputable def zhL (x y : Str) : Option D :=
  if (decide (x.length < y.length) || decide (Builtin.Str.strKind x < Builtin.Str.strKind y)) = false /\ (y.length == 0) = false /\ (Builtin.Str.occurrences x y 0 x.length (x.length + 1)).isEmpty = false /\ x.length ≤ 2 ^ 20 /\
      (Builtin.Str.partsBetween x (Builtin.Str.occurrences x y 0 x.length (x.length + 1)) y.length).length ≤ 2 ^ 20 then
    some (.lst ((Builtin.Str.partsBetween x (Builtin.Str.occurrences x y 0 x.length (x.length + 1)) y.length).map .str)) else none
noncomputable def ziJ (ns : List Int) (k : Int) : Option D := if (PyData.list (ns.map PyData.int)).layable0 = true /\ k ∈ ns then some (.int (ns.idxOf k)) else none
noncomputable def replP (x y z : Str) : Option D := if (y == z) = false /\ x.length + (x.length + 1) * z.length ≤ 2 ^ 20 then some (.str (Txt.replace x y z)) else none
section
variable {prog : Program} {w : World} {A : Around} {gv : String -> Option Value} {V : Addr -> Prop} {s : Shared} {h : Heap}
theorem zfz : ∀ {ds : List D} {ys : List Str}, zel ds = some ys -> ds = ys.map .str
  | [], _, e => by cases e; rfl
  | d :: ds, ys, e => bindE (show (d.gS.bind λ i => (zel ds).map (i :: ·)) = some ys from e) λ i hi e => mapE e λ l hl e => by
    subst e
    rw [List.map_cons, <- zfz hl, zgo hi]
theorem RepAll.strs {vs : List Value} {ys : List Str} (r : RepAll gv h V vs (ys.map .str)) : StrsAre vs ys := by
  induction ys generalizing vs with
  | nil => cases r; exact .nil
  | cons n ns ih =>
    cases r with
    | cons a b => obtain ⟨t, rfl⟩ := a.str_inv; exact .cons n t (ih b)
theorem zm6 {x : Str} {t : Tok} {v : Value} {ds : List D} {ys : List Str} {d : D} (hl : LstAt gv s.heap V v ds) (hy : zel ds = some ys) (e : joinP x ys = some d) :
    Runs (model prog w) A s (call (.builtin "str.join") [.str x t, v]) λ v s' => Rep gv s'.heap V v d := by
  obtain ⟨a, vs, rfl, h1, r⟩ := hl
  rw [zfz hy] at r
  unfold joinP at e
  split at e
  · cases e
    exact zam λ Q E hQ => join_list h1 r.strs (by lia) λ t' k => hQ _ _ (zah s k) (.str _ _)
  · cases e
theorem zbT : ∀ (ys : List Str) (k : Nat), RepAll gv h V (strsFrom k ys) (ys.map .str)
  | [], _ => .nil
  | y :: ys, k => .cons (.str _ _) (zbT ys (k + 1))
theorem zli {x y : Str} {t u : Tok} {d : D} (al : Al V s.heap) (e : zhL x y = some d) : Runs (model prog w) A s (call (.builtin "str.split") [.str x t, .str y u]) λ v s' => Rep gv s'.heap V v d := by
  unfold zhL at e
  split at e
  · rename_i hc
    cases e
    refine zam λ Q E hQ => call_meets F.slot_str_split (typeIs_str _ _ _) F.entry_str_split (F.args_str_split_2 _ _) (meets_str_split_sep x y t u hc.1 hc.2.1 hc.2.2.1 (by rw [sizeLine_eq]; lia) (by rw [sizeLine_eq]; lia)) ?_
    exact hQ _ _ (zaW (zai s _) (zah _ _)) (zcz al (zbT _ _))
  · cases e
theorem zkE {v : Value} {ds : List D} {ns : List Int} {k : Int} {t : Tok} {d : D} (hl : LstAt gv s.heap V v ds) (hn : zaL ds = some ns) (e : ziJ ns k = some d) :
    Runs (model prog w) A s (call (.builtin "list.index") [v, .int k t]) λ v s' => Rep gv s'.heap V v d := by
  obtain ⟨a, vs, rfl, h1, hi⟩ := zbt hl hn
  unfold ziJ at e
  split at e
  · rename_i hc
    cases e
    exact zam λ Q E hQ => index_list_ints (vs := vs.toList) h1 hi hc.1 hc.2 (hQ _ _ (zah s _) (.int _ _))
  · cases e
theorem zmm {x y z : Str} {t u v : Tok} {d : D} (hu : u ≠ 0) (hv : v ≠ 0) (huv : u ≠ v) (e : replP x y z = some d) :
    Runs (model prog w) A s (call (.builtin "str.replace") [.str x t, .str y u, .str z v]) λ v s' => Rep gv s'.heap V v d := by
  unfold replP at e
  split at e
  · rename_i hc
    cases e
    exact zam λ Q E hQ => SC.replace hu hv huv hc.1 (by lia) λ t' k => hQ _ _ (zah s k) (.str _ _)
  · cases e
theorem zdb {K : Type} [DecidableEq K] (k : K) (v : Value) (x : K) : ∀ kvs : List (K × Value), ((kvs.map λ kv => if kv.1 = k then (kv.1, v) else kv).find? λ kv => kv.1 = x).map (·.2) =
    if x = k then (if kvs.any (λ kv => kv.1 = k) then some v else none) else (kvs.find? λ kv => kv.1 = x).map (·.2)
  | [] => by simp
  | (a, b) :: r => by
    have ih := zdb k v x r
    by_cases h1 : a = k
    · subst h1
      by_cases h2 : a = x
      · subst h2; simp
      · simp only [List.map_cons, if_true, List.find?_cons, h2, decide_false] at ih ⊢
        rw [ih, if_neg (Ne.symm h2), if_neg (Ne.symm h2)]
    · simp only [List.map_cons, h1, if_false, List.find?_cons, List.any_cons, decide_false, Bool.false_or] at ih ⊢
      by_cases h2 : a = x
      · subst h2; simp [h1]
      · simp only [h2, decide_false]
        exact ih
theorem zd7 {K : Type} [DecidableEq K] (kvs : List (K × Value)) (k : K) (v : Value) (x : K) : valueAt (stored kvs k v) x = if x = k then some v else valueAt kvs x := by
  unfold stored valueAt
  split
  · rename_i h
    rw [zdb k v x kvs, h]; simp
  · rename_i h
    rw [List.find?_append]
    by_cases hx : x = k
    · subst hx
      have : (kvs.find? λ kv => kv.1 = x) = none := by
        rw [List.find?_eq_none]; intro y hy hh
        exact h (List.any_eq_true.mpr ⟨y, hy, hh⟩)
      rw [this]; simp
    · have hx' : ¬ k = x := λ e => hx e.symm
      simp [hx, hx']
noncomputable def zhj {K : Type} (f : D -> Option K) : List (D × D) -> Option (List (K × D))
  | [] => some []
  | q :: r => (f q.1).bind λ k => (zhj f r).map ((k, q.2) :: ·)
noncomputable def lastP {K : Type} [DecidableEq K] : List (K × D) -> K -> D -> D
  | [], _, d => d
  | (k, v) :: r, x, d => lastP r x (if x = k then v else d)
noncomputable def dgetP (kvs : List (D × D)) (x d : D) : Option D :=
  match x with
  | .str k => (zhj D.gS kvs).map λ l => lastP l k d
  | .int k => (zhj D.gI kvs).map λ l => lastP l k d
  | _ => none
inductive KRep {K : Type} (is : K -> Value -> Prop) (gv : String -> Option Value) (h : Heap) (V : Addr -> Prop) : List (Value × Value) -> List (K × D) -> Prop
  | nil : KRep is gv h V [] []
  | cons {k : K} {kv v : Value} {d : D} {ps : List (Value × Value)} {qs : List (K × D)} : is k kv -> Rep gv h V v d -> KRep is gv h V ps qs -> KRep is gv h V ((kv, v) :: ps) ((k, d) :: qs)
theorem zeq {K : Type} [DecidableEq K] {knd : PySem.KeyKind prog w K} {ps : List (Value × Value)} {qs : List (K × D)} (r : KRep (λ k v => knd.is k v = true) gv h V ps qs) :
    ∃ kvs, Carries knd ps kvs /\ kvs.length = qs.length /\ ∀ (acc : List (K × Value)) (x : K) (dv : Value) (dd : D), Rep gv h V ((valueAt acc x).getD dv) dd -> Rep gv h V ((valueAt (merged acc kvs) x).getD dv) (lastP qs x dd) := by
  induction r with
  | nil => exact ⟨[], trivial, rfl, λ acc x dv dd q => by simpa [merged, lastP] using q⟩
  | @cons k kv v d ps qs h1 h2 h3 ih =>
    obtain ⟨kvs, c, l, f⟩ := ih
    refine ⟨(k, v) :: kvs, ⟨h1, rfl, c⟩, by simp [l], λ acc x dv dd q => ?_⟩
    rw [lastP]
    refine f (stored acc k v) x dv _ ?_
    rw [zd7]
    split
    · exact h2
    · exact q
end
end Mine
end
section
open PySem PySem.W PyProof.Rows
set_option maxRecDepth 10000
set_option genSizeOf false
namespace Mine
set_option genInjectivity false in
inductive Pt where
  | nm (x : Nat)
  | tp (ps : List Pt)
  deriving Inhabited
set_option genInjectivity false in
inductive T where
  | cst (d : D)
  | var (i : Nat)
  | all_ (op : BoolOp) (es : List T)
  | not_ (a : T)
  | neg (a : T)
  | ite (c a b : T)
  | bin (op : Operator) (a b : T)
  | lmul (es : List T) (b : T)
  | lst (es : List T)
  | tup (es : List T)
  | cmp (op : CmpOp) (a b : T)
  | call (f : T) (args : List T)
  | meth (m : String) (o : T) (args : List T)
  | repl (o : T) (y z : Str)
  | dget (ks vs : List T) (a b : T)
  | fld (o : T) (n : Str)
  | sub (o i : T)
  | slc (o lo hi st : T)
  | rng (a b : T)
  | rng1 (b : T)
  | enm (a : T)
  | pln (a : T)
  | lc (p : Pt) (it ifs body : T) (frees : List Nat)
  | gen (p : Pt) (it ifs body : T)
  | yld (e : T)
  deriving Inhabited
abbrev Sg := List (Nat × B)
mutual
noncomputable def pb : Pt -> D -> Sg -> Option Sg
  | .nm x, d, σ => some ((x, .fz d) :: σ)
  | .tp ps, d, σ => d.gT.bind λ ds => pbs ps ds σ
noncomputable def pbs : List Pt -> List D -> Sg -> Option Sg
  | [], ds, σ => if ds.isEmpty = true then some σ else none
  | p :: ps, ds, σ => ds.head?.bind λ d => (pb p d σ).bind (pbs ps ds.tail)
end
noncomputable def allD : List R -> Option (List D)
  | [] => some []
  | r :: rs => r.asD.bind λ x => (allD rs).map (x :: ·)
noncomputable def zki : Operator -> Bool
  | .Add => true
  | _ => false
noncomputable def addL (op : Operator) (a b : R) : Option (List D × List D) := if zki op = true then a.asL.bind λ x => b.asL.map λ y => (x, y) else none
noncomputable def binR (op : Operator) (a b : R) : Option R := match addL op a b with
  | some q => if q.1.length + q.2.length ≤ 2 ^ 20 then some (.d (.lst (q.1 ++ q.2))) else none
  | none => a.asD.bind λ x => b.asD.bind λ y => (binP op x y).map .d
noncomputable def isBi (k : String) : Bool := (["len", "max", "min", "sum", "sorted", "divmod", "tuple"] : List String).contains k
noncomputable def isMe (m : String) : Bool := (["equal", "not_equal_witness", "indent_level", "longest_run_of_spaces"] : List String).contains m
noncomputable def joinM (o : R) (rs : List R) : Option D := (o.on D.gS).bind λ x => (one1 rs).bind λ r => r.asL.bind λ ds => (zel ds).bind (joinP x)
noncomputable def zje (o : R) (rs : List R) : Option D := (o.on D.gS).bind λ x => (one1 rs).bind λ r => (r.on D.gS).bind (zhL x)
noncomputable def zjB (o : R) (rs : List R) : Option D := (o.on D.gL).bind λ ds => (one1 rs).bind λ r => (r.on D.gI).bind λ k => (zaL ds).bind λ ns => ziJ ns k
noncomputable def methP (Φ : String -> List D -> Option D) (m : String) (o : R) (rs : List R) : Option D :=
  if m = "join" then joinM o rs else if m = "split" then zje o rs else if m = "index" then zjB o rs else if isMe m = true then (o.on D.gO).bind λ fs => (allD rs).bind λ ds => Φ m (.obj fs :: ds) else none
noncomputable def callF (Φ : String -> List D -> Option D) (f : R) (rs : List R) : Option D := (f.on D.gF).bind λ k => if isBi k = true then callP k rs else (allD rs).bind (Φ k)
noncomputable def fldD (n : Str) : D -> Option D
  | .obj fs => fs.lookup n
  | .fn k => if k = "Whitespace" then (if n = ("S" : Str) then some (.str " ") else if n = ("T" : Str) then some (.str "\t") else none) else none
  | _ => none
noncomputable def fldP (o : R) (n : Str) : Option D := o.asD.bind (fldD n)
noncomputable def slcS (x : Str) (l h k : Option Int) : Option D := if k = none then l.bind λ i => h.bind λ j => if x.length ≤ 2 ^ 20 then some (.str (Txt.slice x (some i) (some j))) else none else none
noncomputable def slcP (o : R) (lo hi st : D) : Option D := (partP lo).bind λ l => (partP hi).bind λ h => (partP st).bind λ k => match o.asL with
  | some ds => if k ≠ some 0 /\ ds.length ≤ 2 ^ 20 then some (.lst (zbY ds l h k)) else none
  | none => (o.on D.gS).bind λ x => slcS x l h k
noncomputable def flatO (f : D -> Option (List D)) : List D -> Option (List D)
  | [] => some []
  | d :: ds => (f d).bind λ xs => (flatO f ds).map (xs ++ ·)
noncomputable def repL (ds : List D) : Nat -> List D
  | 0 => []
  | n + 1 => ds ++ repL ds n
noncomputable def R.isOwn : R -> Bool
  | .l _ => true
  | .d _ => false
noncomputable def isTup : Pt -> Bool
  | .tp _ => true
  | .nm _ => false
noncomputable def ze8 (p : Pt) (r : R) : Option (List D) := match r.items with
  | some ds => some ds
  | none => if isTup p = true then none else (r.on D.gS).map signs
noncomputable def rngP (a b : Int) : Option (List D) := if small a = true /\ small b = true then some (zeJ a b) else none
noncomputable def zipD : List D -> List D -> List (D × D)
  | k :: ks, v :: vs => (k, v) :: zipD ks vs
  | _, _ => []
noncomputable def stops : BoolOp -> Bool -> Bool
  | .And, b => !b
  | .Or, b => b
noncomputable def isAnd : BoolOp -> Bool
  | .And => true
  | .Or => false
noncomputable def lim (ds : List D) : Option R := if ds.length ≤ 2 ^ 20 then some (.d (.lst ds)) else none
variable (tok : Str -> Option Int) (Φ : String -> List D -> Option D)
mutual
noncomputable def pe : T -> Sg -> Option R
  | .cst d, _ => some (.d d)
  | .var i, σ => (σ.lookup i).map B.toR
  | .all_ op es, σ => (pall op es σ).map λ b => .d (.bool b)
  | .not_ a, σ => ((pe a σ).bind (R.on D.gB)).map λ b => .d (.bool (!b))
  | .neg a, σ => ((pe a σ).bind (R.on D.gI)).map λ i => .d (.int (-i))
  | .ite c a b, σ => ((pe c σ).bind (R.on D.gB)).bind λ t => bif t then pe a σ else pe b σ
  | .bin op a b, σ => (pe a σ).bind λ x => (pe b σ).bind λ y => binR op x y
  | .lmul es b, σ => ((pes es σ).bind allD).bind λ ds => ((pe b σ).bind (R.on D.gI)).bind λ n => if ds.length * n.toNat ≤ 2 ^ 20 /\ small n = true then some (.d (.lst (repL ds n.toNat))) else none
  | .lst es, σ => ((pes es σ).bind allD).map λ ds => .d (.lst ds)
  | .tup es, σ => ((pes es σ).bind allD).map λ ds => .d (.tup ds)
  | .cmp op a b, σ => (pe a σ).bind λ x => (pe b σ).bind λ y => (cmpP tok op x y).map .d
  | .call f args, σ => (pe f σ).bind λ g => (pes args σ).bind λ rs => (callF Φ g rs).map .d
  | .meth m o args, σ => (pe o σ).bind λ r => (pes args σ).bind λ rs => (methP Φ m r rs).map .d
  | .repl o y z, σ => ((pe o σ).bind (R.on D.gS)).bind λ x => (replP x y z).map .d
  | .dget ks vs a b, σ => ((pes ks σ).bind allD).bind λ k => ((pes vs σ).bind allD).bind λ v => ((pe a σ).bind R.asD).bind λ x => ((pe b σ).bind R.asD).bind λ d => (dgetP (zipD k v) x d).map .d
  | .fld o n, σ => (pe o σ).bind λ r => (fldP r n).map .d
  | .sub o i, σ => (pe o σ).bind λ r => ((pe i σ).bind R.asD).bind λ d => (subP tok r d).map .d
  | .slc o lo hi st, σ => (pe o σ).bind λ r => ((pe lo σ).bind R.asD).bind λ l => ((pe hi σ).bind R.asD).bind λ h => ((pe st σ).bind R.asD).bind λ k => (slcP r l h k).map .d
  | .lc p it ifs body frees, σ => (pit false it p σ).bind λ items =>
      (flatO (λ d => (pb p d (σ.filter λ q => frees.contains q.1)).bind λ τ => ((pe ifs τ).bind (R.on D.gB)).bind λ t => bif t then pgen body τ else some []) items).bind lim
  | .rng _ _, _ | .rng1 _, _ | .enm _, _ | .pln _, _ | .gen .., _ | .yld _, _ => none
termination_by structural t => t
noncomputable def pes : List T -> Sg -> Option (List R)
  | [], _ => some []
  | e :: es, σ => (pe e σ).bind λ r => (pes es σ).map (r :: ·)
termination_by structural t => t
noncomputable def pall : BoolOp -> List T -> Sg -> Option Bool
  | op, [], _ => some (isAnd op)
  | op, e :: es, σ => ((pe e σ).bind (R.on D.gB)).bind λ b => bif stops op b then some b else pall op es σ
termination_by structural _ t => t
noncomputable def pit (fz : Bool) : T -> Pt -> Sg -> Option (List D)
  | .rng a b, _, σ => ((pe a σ).bind (R.on D.gI)).bind λ x => ((pe b σ).bind (R.on D.gI)).bind λ y => rngP x y
  | .rng1 b, _, σ => ((pe b σ).bind (R.on D.gI)).bind λ y => rngP 0 y
  | .enm a, p, σ => if isTup p = true then (pe a σ).bind λ r => if fz = true /\ r.isOwn = true then none else r.items.map (enumF 0) else none
  | .pln e, p, σ => (pe e σ).bind λ r => if fz = true /\ r.isOwn = true then none else ze8 p r
  | _, _, _ => none
termination_by structural t => t
noncomputable def pgen : T -> Sg -> Option (List D)
  | .gen p it ifs body, σ => (pit true it p σ).bind λ items =>
      flatO (λ d => (pb p d σ).bind λ τ => ((pe ifs τ).bind (R.on D.gB)).bind λ t => bif t then pgen body τ else some []) items
  | .yld e, σ => ((pe e σ).bind R.asD).map ([·])
  | _, _ => none
termination_by structural t => t
end
end Mine
end
section
open PySem PySem.W PyProof.Rows
set_option maxRecDepth 10000
namespace Mine
noncomputable def g1 : Expr -> Expr
  | .BinOp x _ _ _ | .UnaryOp _ x _ | .IfExp x _ _ _ | .Compare x _ _ _ | .Call x _ _ _ | .Attribute x _ _ | .Subscript x _ _ | .ListComp x _ _ _ => x
  | e => e
noncomputable def g2 : Expr -> Expr
  | .BinOp _ _ x _ | .IfExp _ x _ _ | .Subscript _ x _ => x
  | e => e
noncomputable def g3 : Expr -> Expr
  | .IfExp _ _ x _ => x
  | e => e
noncomputable def gl : Expr -> List Expr
  | .BoolOp _ x _ | .List x _ | .Tuple x _ _ | .Call _ x _ _ | .Compare _ _ x _ | .Dict _ x _ => x
  | _ => []
noncomputable def gk : Expr -> List Expr
  | .Dict x _ _ => x.filterMap id
  | _ => []
noncomputable def gs : Expr -> Str
  | .Name x _ | .Attribute _ x _ => x
  | _ => Str.empty
noncomputable def gc : Expr -> Nat
  | .Tuple _ k _ | .Constant _ k _ => k
  | _ => 0
noncomputable def gO : Expr -> Option Expr × Option Expr × Option Expr
  | .Slice a b c _ => (a, b, c)
  | _ => (none, none, none)
noncomputable def gG : Expr -> List Comprehension
  | .ListComp _ x _ _ => x
  | _ => []
noncomputable def gS : Expr -> Scope
  | .ListComp _ _ x _ => x
  | _ => default
noncomputable def isNm : Expr -> Bool
  | .Name .. => true
  | _ => false
noncomputable def h0 (e : Expr) : Expr := (gl e).headD e
noncomputable def h1 (e : Expr) : Expr := (gl e).tail.headD e
noncomputable def hd (l : List Expr) : Expr := l.headD default
noncomputable def hc (l : List Comprehension) : Comprehension := l.headD default
noncomputable def cof : D -> Const
  | .bool b => .bool b
  | .int i => .int i
  | .str s => .str s
  | _ => .none
mutual
noncomputable def bP : Pt -> Expr -> Expr
  | .nm _, e => .Name (gs e) e.pos
  | .tp ps, e => .Tuple (bPs ps (gl e)) (gc e) e.pos
noncomputable def bPs : List Pt -> List Expr -> List Expr
  | [], _ => []
  | p :: ps, es => bP p (hd es) :: bPs ps es.tail
end
mutual
noncomputable def bE : T -> Expr -> Expr
  | .cst d, e => bif isNm e then .Name (gs e) e.pos else .Constant (cof d) (gc e) e.pos
  | .var _, e => .Name (gs e) e.pos
  | .all_ op es, e => .BoolOp op (bEs es (gl e)) e.pos
  | .not_ a, e => .UnaryOp .Not (bE a (g1 e)) e.pos
  | .neg a, e => .UnaryOp .USub (bE a (g1 e)) e.pos
  | .ite c a b, e => .IfExp (bE c (g1 e)) (bE a (g2 e)) (bE b (g3 e)) e.pos
  | .bin op a b, e => .BinOp (bE a (g1 e)) op (bE b (g2 e)) e.pos
  | .lmul es b, e => .BinOp (.List (bEs es (gl (g1 e))) (g1 e).pos) .Mult (bE b (g2 e)) e.pos
  | .lst es, e => .List (bEs es (gl e)) e.pos
  | .tup es, e => .Tuple (bEs es (gl e)) (gc e) e.pos
  | .cmp op a b, e => .Compare (bE a (g1 e)) [op] [bE b (h0 e)] e.pos
  | .call _ args, e => .Call (.Name (gs (g1 e)) (g1 e).pos) (bEs args (gl e)) [] e.pos
  | .meth m o args, e => .Call (.Attribute (bE o (g1 (g1 e))) (Str.ofString m) (g1 e).pos) (bEs args (gl e)) [] e.pos
  | .repl o y z, e => .Call (.Attribute (bE o (g1 (g1 e))) "replace" (g1 e).pos) [.Constant (.str y) (gc (h0 e)) (h0 e).pos, .Constant (.str z) (gc (h1 e)) (h1 e).pos] [] e.pos
  | .dget ks vs a b, e => .Call (.Attribute (.Dict ((bEs ks (gk (g1 (g1 e)))).map some) (bEs vs (gl (g1 (g1 e)))) (g1 (g1 e)).pos) "get" (g1 e).pos) [bE a (h0 e), bE b (h1 e)] [] e.pos
  | .fld _ n, e => .Attribute (.Name (gs (g1 e)) (g1 e).pos) n e.pos
  | .sub o i, e => .Subscript (bE o (g1 e)) (bE i (g2 e)) e.pos
  | .slc o lo hi st, e => .Subscript (bE o (g1 e)) (.Slice ((gO (g2 e)).1.map (bE lo)) ((gO (g2 e)).2.1.map (bE hi)) ((gO (g2 e)).2.2.map (bE st)) (g2 e).pos) e.pos
  | .lc p it ifs body _, e => .ListComp (bY body (g1 e)) (⟨bP p (hc (gG e)).target, bE it (hc (gG e)).iter, bF ifs (hc (gG e)).ifs, 0⟩ :: bG body (gG e).tail) (gS e) e.pos
  | .rng a b, e => .Call (.Name (gs (g1 e)) (g1 e).pos) [bE a (h0 e), bE b (h1 e)] [] e.pos
  | .rng1 b, e => .Call (.Name (gs (g1 e)) (g1 e).pos) [bE b (h0 e)] [] e.pos
  | .enm a, e => .Call (.Name (gs (g1 e)) (g1 e).pos) [bE a (h0 e)] [] e.pos
  | .pln a, e => bE a e
  | .gen .., e | .yld _, e => e
termination_by structural t => t
noncomputable def bEs : List T -> List Expr -> List Expr
  | [], _ => []
  | t :: ts, es => bE t (hd es) :: bEs ts es.tail
termination_by structural t => t
noncomputable def bF : T -> List Expr -> List Expr
  | .all_ _ f, es => bEs f es
  | _, _ => []
termination_by structural t => t
noncomputable def bG : T -> List Comprehension -> List Comprehension
  | .gen p it ifs b, gs => ⟨bP p (hc gs).target, bE it (hc gs).iter, bF ifs (hc gs).ifs, 0⟩ :: bG b gs.tail
  | _, _ => []
termination_by structural t => t
noncomputable def bY : T -> Expr -> Expr
  | .gen _ _ _ b, e => bY b e
  | .yld t, e => bE t e
  | _, e => e
termination_by structural t => t
end
noncomputable def nmI : List Str -> Str -> Option Nat
  | [], _ => none
  | y :: r, x => if x = y then some 0 else (nmI r x).map (· + 1)
noncomputable def frees (nt : List Str) (sc : Names) : List Nat := sc.filterMap λ p => if p.2 == .free then nmI nt p.1 else none
noncomputable def zc6 (sc : Names) (s : Scope) : Bool :=
  s.kind == .function && s.names.all λ p => (s.names.lookup p.1 == some p.2) && (p.2 != .free || ((sc.lookup p.1 == some .cell || sc.lookup p.1 == some .free) && !(p.1 == ("__classdict__" : Str))))
mutual
noncomputable def ixP : Pt -> List Nat
  | .nm i => [i]
  | .tp ps => ixPs ps
noncomputable def ixPs : List Pt -> List Nat
  | [] => []
  | p :: ps => ixP p ++ ixPs ps
end
noncomputable def ixG : T -> List Nat
  | .gen p _ _ b => ixP p ++ ixG b
  | _ => []
noncomputable def gEq : Option D -> D -> Bool
  | some (.fn a), .fn b => a == b
  | some (.int a), .int b => a == b
  | _, _ => false
noncomputable def kA : D -> Bool
  | .none | .bool _ | .int _ | .str _ => true
  | _ => false
noncomputable def isN : T -> Bool
  | .cst .none => true
  | _ => false
noncomputable def kO (w : Expr -> Bool) (b : Bool) : Option Expr -> Bool
  | some e => w e
  | none => b
noncomputable def bad0 : T -> Bool
  | .call _ [] => true
  | _ => false
section
variable (γ : Str -> Option D) (nt : List Str)
noncomputable def kG (sc : Names) (x : Str) (d : D) : Bool := sc.lookup x == some .globalImplicit && !(x == ("__debug__" : Str)) && gEq (γ x) d
noncomputable def kL (x : Str) (i : Nat) : Bool := !(x == ("__debug__" : Str)) && nmI nt x == some i
noncomputable def kN : T -> Names -> Expr -> Bool
  | .cst d, sc, e => kG γ sc (gs e) d
  | .var i, _, e => kL nt (gs e) i
  | _, _, _ => false
mutual
noncomputable def kP : Pt -> Names -> Expr -> Bool
  | .nm i, sc, e => locOk sc (gs e) && nmI nt (gs e) == some i
  | .tp ps, sc, e => kPs ps sc (gl e)
noncomputable def kPs : List Pt -> Names -> List Expr -> Bool
  | [], _, _ => true
  | p :: ps, sc, es => kP p sc (hd es) && kPs ps sc es.tail
end
mutual
noncomputable def kE : T -> Names -> Expr -> Bool
  | .cst d, sc, e => bif isNm e then kG γ sc (gs e) d else kA d
  | .var i, _, e => kL nt (gs e) i
  | .all_ _ es, sc, e => !es.isEmpty && kEs es sc (gl e)
  | .neg a, sc, e => kE a sc (g1 e)
  | .ite c a b, sc, e => kT c sc (g1 e) (kE c sc (g1 e)) && (kE a sc (g2 e) && kE b sc (g3 e))
  | .bin _ a b, sc, e => kE a sc (g1 e) && kE b sc (g2 e)
  | .lmul es b, sc, e => Nat.ble es.length 1000 && (kEs es sc (gl (g1 e)) && kE b sc (g2 e))
  | .lst es, sc, e => Nat.ble es.length 1000 && kEs es sc (gl e)
  | .tup es, sc, e => Nat.ble es.length 1000 && kEs es sc (gl e)
  | .cmp _ a b, sc, e => kE a sc (g1 e) && kE b sc (h0 e)
  | .call f args, sc, e => kN γ nt f sc (g1 e) && kEs args sc (gl e)
  | .meth m o args, sc, e => (!bad0 o && Nat.blt args.length 29 && (g1 e).pos.endLine == e.pos.line) && (kE o sc (g1 (g1 e)) && kEs args sc (gl e))
  | .repl o _ _, sc, e => (!bad0 o && (g1 e).pos.endLine == e.pos.line) && kE o sc (g1 (g1 e))
  | .dget ks vs a b, sc, e => (ks.length == vs.length && Nat.blt 0 ks.length && Nat.ble ks.length 15 && (g1 e).pos.endLine == e.pos.line) && ((kEs ks sc (gk (g1 (g1 e))) && kEs vs sc (gl (g1 (g1 e)))) && (kE a sc (h0 e) && kE b sc (h1 e)))
  | .fld o _, sc, e => kN γ nt o sc (g1 e)
  | .sub o i, sc, e => kE o sc (g1 e) && kE i sc (g2 e)
  | .slc o lo hi st, sc, e => kE o sc (g1 e) && (kO (kE lo sc) (isN lo) (gO (g2 e)).1 && (kO (kE hi sc) (isN hi) (gO (g2 e)).2.1 && kO (kE st sc) (isN st) (gO (g2 e)).2.2))
  | .lc p it ifs body fr, sc, e => (zc6 sc (gS e) && decide (fr = frees nt (gS e).names) && decide (ixP p ++ ixG body).Nodup && ((ixP p ++ ixG body).all λ i => !fr.contains i)) &&
      (kP nt p (gS e).names (hc (gG e)).target && (kI it sc (hc (gG e)).iter && (kF ifs (gS e).names (hc (gG e)).ifs && kC body (gS e).names (gG e).tail (g1 e))))
  | .not_ _, _, _ | .rng .., _, _ | .rng1 _, _, _ | .enm _, _, _ | .pln _, _, _ | .gen .., _, _ | .yld _, _, _ => false
termination_by structural t => t
noncomputable def kEs : List T -> Names -> List Expr -> Bool
  | [], _, _ => true
  | t :: ts, sc, es => kE t sc (hd es) && kEs ts sc es.tail
termination_by structural t => t
noncomputable def kT : T -> Names -> Expr -> Bool -> Bool
  | .not_ a, sc, e, _ => kT a sc (g1 e) (kE a sc (g1 e))
  | .all_ _ ts, sc, e, _ => kTs ts sc (gl e)
  | .ite .., _, _, _ => false
  | _, _, _, w => w
termination_by structural t => t
noncomputable def kTs : List T -> Names -> List Expr -> Bool
  | [], _, _ => true
  | t :: ts, sc, es => kT t sc (hd es) (kE t sc (hd es)) && kTs ts sc es.tail
termination_by structural t => t
noncomputable def kF : T -> Names -> List Expr -> Bool
  | .all_ op f, sc, es => isAnd op && kTs f sc es
  | _, _, _ => false
termination_by structural t => t
noncomputable def kI : T -> Names -> Expr -> Bool
  | .rng a b, sc, e => kG γ sc (gs (g1 e)) (.fn "range") && (kE a sc (h0 e) && kE b sc (h1 e))
  | .rng1 b, sc, e => kG γ sc (gs (g1 e)) (.fn "range") && kE b sc (h0 e)
  | .enm a, sc, e => kG γ sc (gs (g1 e)) (.fn "enumerate") && kE a sc (h0 e)
  | .pln a, sc, e => kE a sc e
  | _, _, _ => false
termination_by structural t => t
noncomputable def kC : T -> Names -> List Comprehension -> Expr -> Bool
  | .yld t, sc, _, e => kE t sc e
  | .gen p it ifs b, sc, gs, e => kP nt p sc (hc gs).target && (kI it sc (hc gs).iter && (kF ifs sc (hc gs).ifs && kC b sc gs.tail e))
  | _, _, _, _ => false
termination_by structural t => t
end
end
theorem zgw : ∀ {nt : List Str} {x : Str} {i : Nat}, nmI nt x = some i -> nt[i]? = some x
  | [], _, _, h => noE h
  | y :: r, x, i, h => by
    unfold nmI at h
    by_cases e : x = y
    · rw [if_pos e] at h; cases h; rw [e]; rfl
    · rw [if_neg e] at h
      exact mapE h λ j hj e => by rw [<- e]; exact List.getElem?_cons_succ.trans (zgw hj)
theorem zc5 {nt : List Str} {x y : Str} {i : Nat} (h : nmI nt x = some i) (h' : nmI nt y = some i) : x = y := Option.some.inj ((zgw h).symm.trans (zgw h'))
noncomputable def pv (nt : List Str) (σ : Sg) : PEnv := λ x => (nmI nt x).bind λ i => σ.lookup i
theorem zbB {nt : List Str} {x : Str} {i : Nat} {b : B} {σ : Sg} (h : nmI nt x = some i) : pv nt ((i, b) :: σ) = set (pv nt σ) x b := by
  funext y
  unfold pv set
  by_cases e : y = x
  · subst e; simp [h]
  · rw [if_neg e]
    cases hy : nmI nt y with
    | none => simp only [hy]; rfl
    | some j =>
      have : (j == i) = false := beq_eq_false_iff_ne.mpr λ q => e (zc5 hy (q ▸ h))
      simp [hy, List.lookup_cons, this]
noncomputable def PhiOk (C : Cx) (Φ : String -> List D -> Option D) (A : Around) : Prop :=
  (∀ ds, Φ "EXACT_TOKEN_TYPES" ds = none) /\ ∀ k ds d, Φ k ds = some d -> isBi k = false -> ∀ {s : Shared} {V : Addr -> Prop} {fv : Value} {vs : List Value}, C.gv k = some fv -> Gl C V s.heap -> Al V s.heap -> 1 ≤ s.toks -> RepAll C.gv s.heap V vs ds ->
    Runs (model C.prog C.w) A s (call fv vs) λ v s' => Rep C.gv s'.heap V v d
structure Cx.Obj (C : Cx) : Prop where
  bi : ∀ k, isBi k = true -> C.gv k = some (biVal k)
  rng : C.gv "range" = some (.type "range")
  enm : C.gv "enumerate" = some (.type "enumerate")
  cw : ∀ k fv, C.gv k = some fv -> isBi k = false -> k ≠ "EXACT_TOKEN_TYPES" -> ∀ {A : Around} {E : Value -> Shared -> Prop} {s : Shared} {pos : Pos} {first : List Value} {args : List (Bool × Sem Value)} {Q : Value -> Shared -> Prop}, args.any (·.1) = false ->
    wpAny (model C.prog C.w) A (evalArgs fv true args []) (λ a s₁ => (∀ b o, C.h₀.get? b = some o -> s₁.heap.get? b = some o) /\ wpAny (model C.prog C.w) A (call fv (first ++ a.pos) a.kw) Q E s₁) E s -> wpAny (model C.prog C.w) A (callWith pos fv first args []) Q E s
  gm : ∀ m, isMe m = true -> ∃ fv, C.gv m = some fv /\ ∀ {A : Around} {E : Value -> Shared -> Prop} {s : Shared} {V : Addr -> Prop} {v : Value} {fs : List (Str × D)} {pl : Sem Bool} {Q : Value × List Value -> Shared -> Prop},
    Gl C V s.heap -> Rep C.gv s.heap V v (.obj fs) -> Q (fv, [v]) s -> wpAny (model C.prog C.w) A (getMethod v (Str.ofString m) pl) Q E s
  fld : ∀ {A : Around} {E : Value -> Shared -> Prop} {s : Shared} {V : Addr -> Prop} {v : Value} {fs : List (Str × D)} {n : Str} {d : D} {Q : Value -> Shared -> Prop},
    Gl C V s.heap -> Rep C.gv s.heap V v (.obj fs) -> fs.lookup n = some d -> (∀ u tk, Rep C.gv s.heap V u d -> Q u { s with toks := tk }) -> wpAny (model C.prog C.w) A (getAttr v n true) Q E s
  cls : ∀ {A : Around} {E : Value -> Shared -> Prop} {s : Shared} {V : Addr -> Prop} {v : Value} {n : Str} {d : D} {Q : Value -> Shared -> Prop},
    Gl C V s.heap -> C.gv "Whitespace" = some v -> fldD n (.fn "Whitespace") = some d -> (∀ u tk, Rep C.gv s.heap V u d -> Q u { s with toks := tk }) -> wpAny (model C.prog C.w) A (getAttr v n true) Q E s
inductive RepRs (gv : String -> Option Value) (h : Heap) (V : Addr -> Prop) : List Value -> List R -> Prop
  | nil : RepRs gv h V [] []
  | cons {v : Value} {vs : List Value} {r : R} {rs : List R} : RepR gv h V v r -> RepRs gv h V vs rs -> RepRs gv h V (v :: vs) (r :: rs)
section
variable {gv : String -> Option Value} {h : Heap} {V : Addr -> Prop}
theorem RepRs.get {vs : List Value} {rs : List R} (x : RepRs gv h V vs rs) : ∀ (i : Nat) (r : R), rs[i]? = some r -> ∃ v, vs[i]? = some v /\ RepR gv h V v r := by
  induction x with
  | nil => intro i r e; exact noE e
  | cons a _ ih =>
    intro i r e
    cases i with
    | zero => cases e; exact ⟨_, rfl, a⟩
    | succ i => exact ih i r e
theorem RepRs.length {vs : List Value} {rs : List R} (x : RepRs gv h V vs rs) : vs.length = rs.length := by
  induction x with
  | nil => rfl
  | cons _ _ ih => exact congrArg Nat.succ ih
theorem RepRs.all {vs : List Value} {rs : List R} (x : RepRs gv h V vs rs) : ∀ {ds : List D}, allD rs = some ds -> RepAll gv h V vs ds := by
  induction x with
  | nil => intro ds e; cases e; exact .nil
  | cons a _ ih => exact λ e => bindE e λ y hy e => mapE e λ l hl e => e ▸ .cons (a.asD hy) (ih hl)
end
section
variable (C : Cx) (nt : List Str) (Φ : String -> List D -> Option D) (A : Around)
noncomputable def PE (t : T) : Prop := ∀ {sc : Names} {e : Expr} {env : Env} {V : Addr -> Prop} {σ : Sg} {s : Shared} {r : R}, kE C.γ nt t sc e = true -> St C A env sc V (pv nt σ) s -> pe C.tok Φ t σ = some r ->
  Runs (model C.prog C.w) A s (eval (bE t e) env) λ v s' => RepR C.gv s'.heap V v r
noncomputable def PT (t : T) : Prop := ∀ {sc : Names} {e : Expr} {env : Env} {V : Addr -> Prop} {σ : Sg} {s : Shared} {b : Bool}, kT C.γ nt t sc e (kE C.γ nt t sc e) = true -> St C A env sc V (pv nt σ) s -> (pe C.tok Φ t σ).bind (R.on D.gB) = some b ->
  Runs (model C.prog C.w) A s (isTrue (bE t e) env (eval (bE t e) env)) λ v _ => v = b
end
section
variable {C : Cx} {nt : List Str} {Φ : String -> List D -> Option D} {A : Around}
variable {sc : Names} {env : Env} {V : Addr -> Prop} {σ : Sg} {s : Shared}
theorem zcl {γ : Str -> Option D} {t : T} {e : Expr} {es : List Expr} (h : kE γ nt t sc e = true) : starEach (bE t e :: es) env = (false, eval (bE t e) env) :: starEach es env := by
  cases t with
  | cst d => show starEach ((bif isNm e then _ else _) :: es) env = (false, eval (bif isNm e then _ else _) env) :: _; cases isNm e <;> rfl
  | not_ | rng | rng1 | enm | pln | gen | yld => exact ffE h
  | _ => rfl
theorem zgp {γ : Str -> Option D} : ∀ {ts : List T} {es : List Expr}, kEs γ nt ts sc es = true -> starEach (bEs ts es) env = (bEs ts es).map λ e => (false, eval e env)
  | [], _, _ => rfl
  | t :: ts, es, h => andE h λ h1 h2 => (zcl h1).trans (congrArg _ (zgp h2))
theorem zjs {γ : Str -> Option D} {pos : Pos} {ts : List T} {es : List Expr} (h : kEs γ nt ts sc es = true) : backTo pos (starEach (bEs ts es) env) = (bEs ts es).map λ e => (false, eval e env) := by
  rw [zgp h]
  unfold backTo
  rw [List.map_map]
  rfl
theorem zbI {es : List Expr} : (es.map λ e => (false, eval e env)).any (·.1) = false := by
  induction es with
  | nil => rfl
  | cons e es ih => exact ih
theorem zdW : ∀ {ts : List T} {es : List Expr}, (bEs ts es).length = ts.length
  | [], _ => rfl
  | _ :: ts, es => congrArg Nat.succ (zdW (ts := ts))
theorem zgQ : ∀ {ts : List T}, (∀ t ∈ ts, PE C nt Φ A t) -> ∀ {es : List Expr} {s : Shared} {rs : List R}, kEs C.γ nt ts sc es = true -> St C A env sc V (pv nt σ) s -> pes C.tok Φ ts σ = some rs ->
    Runs (model C.prog C.w) A s (spliced ((bEs ts es).map λ e => (false, eval e env))) λ vs s' => RepRs C.gv s'.heap V vs rs
  | [], _, es, s, rs, h, S, e => by cases e; exact zfI .nil
  | t :: ts, ih, es, s, rs, h, S, e => andE h λ h1 h2 => bindE e λ r e1 e => mapE e λ rs' e2 e => λ Q E hQ => by
    subst e
    refine Calls.spliced_cons (ih t (.head _) h1 S e1 _ _ λ v s₁ k₁ q₁ => ?_)
    exact zgQ (λ y hy => ih y (.tail _ hy)) h2 (S.keeps k₁) e2 _ _ λ vs s₂ k₂ q₂ => hQ _ _ (zae k₁ k₂) (.cons (RepR.keeps q₁ k₂.1) q₂)
theorem zaX {ts : List T} {es : List Expr} {f : Value} (ih : ∀ t ∈ ts, PE C nt Φ A t) {rs : List R} (h : kEs C.γ nt ts sc es = true) (S : St C A env sc V (pv nt σ) s) (e : pes C.tok Φ ts σ = some rs) :
    Runs (model C.prog C.w) A s (evalArgs f true ((bEs ts es).map λ e => (false, eval e env)) []) λ a s' => a.kw = [] /\ RepRs C.gv s'.heap V a.pos rs := λ Q E hQ => by
  have r := zgQ ih h S e (λ vs s' => Q ⟨vs, []⟩ s') E λ vs s' k q => hQ _ _ k ⟨rfl, q⟩
  cases ts with
  | nil => exact evalArgs_empty (hQ _ _ (za4 s) ⟨rfl, by cases e; exact .nil⟩)
  | cons x es => exact Calls.evalArgs_plain r
end
theorem znV {o : Option D} {d : D} (h : gEq o d = true) : o = some d := by
  cases o with
  | none => exact ffE h
  | some c => cases c with
    | int a => cases d with
      | int b => rw [eq_of_beq (show (a == b) = true from h)]
      | _ => exact ffE h
    | fn a => cases d with
      | fn b => rw [eq_of_beq (show (a == b) = true from h)]
      | _ => exact ffE h
    | _ => exact ffE h
theorem zdj {b : Bool} (h : (!b) = true) : b = false := by cases b; rfl; exact ffE h
section
variable {C : Cx} {nt : List Str} {Φ : String -> List D -> Option D} {A : Around}
variable {sc : Names} {env : Env} {V : Addr -> Prop} {σ : Sg} {s : Shared}
theorem zlI {x : Str} {pos : Pos} {i : Nat} {r : R} (h : kL nt x i = true) (S : St C A env sc V (pv nt σ) s) (e : (σ.lookup i).map B.toR = some r) :
    Runs (model C.prog C.w) A s (eval (.Name x pos) env) λ v s' => RepR C.gv s'.heap V v r :=
  andE h λ h1 h2 => mapE e λ b hb e => zam λ Q E hQ => by
    subst e
    obtain ⟨v, q1, q2⟩ := S.ev x b (by rw [pv, eq_of_beq h2]; exact hb)
    exact wpAny_Name (zfK S.fm.kind q1 (hQ _ _ (zaj s) q2.toR)) (zdj h1)
theorem ziO {x : Str} {pos : Pos} {d : D} (K : C.Ok) (h : kG C.γ sc x d = true) (S : St C A env sc V (pv nt σ) s) :
    Runs (model C.prog C.w) A s (eval (.Name x pos) env) λ v s' => Rep C.gv s'.heap V v d :=
  andE h λ h h3 => andE h λ h1 h2 => zam λ Q E hQ => by
    refine wpAny_Name ?_ (zdj h2)
    have hkn : env.kindOf x = some .globalImplicit := (S.fm.rel x _ (eq_of_beq h1)).elim id λ h => NameKind.noConfusion h.1
    obtain ⟨v, hv, hr⟩ := K.γok x d (znV h3)
    rw [loadName_read S.fm.kind hkn]
    have g1 : s.heap.Ns env.globals C.mg := by rw [S.fm.glob]; exact K.g.keeps S.gl.keep
    have b1 : s.heap.Ns env.builtins C.mb := by rw [S.fm.blt]; exact K.b.keeps S.gl.keep
    rcases hv with hv | ⟨hv, hv'⟩
    · exact Calls.loadGlobal_global g1 hv (hQ _ _ (zaj s) (hr _ _))
    · exact Calls.loadGlobal_builtin g1 hv b1 hv' (hQ _ _ (zaj s) (hr _ _))
theorem zjP {t : T} {e : Expr} {r : R} (K : C.Ok) (h : kN C.γ nt t sc e = true) (S : St C A env sc V (pv nt σ) s) (ev : pe C.tok Φ t σ = some r) :
    Runs (model C.prog C.w) A s (eval (.Name (gs e) e.pos) env) λ v s' => RepR C.gv s'.heap V v r := by
  cases t with
  | cst d => cases ev; exact ziO K h S
  | var i => exact zlI h S ev
  | _ => exact ffE h
theorem zo5 (d : D) (K : C.Ok) : PE C nt Φ A (.cst d) := λ {sc e env V σ s r} h S ev => by
  cases ev
  show Runs _ _ _ (eval (bif isNm e then _ else _) env) _
  have h : (bif isNm e then kG C.γ sc (gs e) d else kA d) = true := h
  cases hn : isNm e with
  | true => rw [hn] at h; exact ziO K h S
  | false =>
    rw [hn] at h
    refine zam λ Q E hQ => ?_
    cases d with
    | none => exact wpAny_Constant_none (hQ _ _ (zaj s) .none)
    | bool b => exact wpAny_Constant_bool (hQ _ _ (zaj s) (.bool b))
    | int i => exact wpAny_Constant_int (hQ _ _ (zah s _) (.int i _))
    | str x => exact wpAny_Constant_str (hQ _ _ (zah s _) (.str x _))
    | _ => exact ffE h
theorem zkg {op : Operator} {x y : R} {q : List D × List D} (h : addL op x y = some q) : op = .Add /\ x.asL = some q.1 /\ y.asL = some q.2 := by
  unfold addL at h
  by_cases ho : zki op = true
  · rw [if_pos ho] at h
    refine bindE h λ a ha h => mapE h λ b hb h => ?_
    subst h
    cases op with
    | Add => exact ⟨rfl, ha, hb⟩
    | _ => exact ffE ho
  · exact noE ((if_neg ho).symm.trans h)
theorem zmY {op : Operator} {a b : Value} {x y r : R} (al : Al V s.heap) (ha : RepR C.gv s.heap V a x) (hb : RepR C.gv s.heap V b y) (e : binR op x y = some r) :
    Runs (model C.prog C.w) A s (binaryOp op a b) λ v s' => RepR C.gv s'.heap V v r := by
  unfold binR at e
  cases hq : addL op x y with
  | some q =>
    rw [hq] at e
    obtain ⟨rfl, h1, h2⟩ := zkg hq
    refine ifE e λ h e => ?_
    subst e
    exact zam λ Q E hQ => zjN al (ha.asL h1) (hb.asL h2) h λ v s' k q => hQ v s' k q
  | none =>
    rw [hq] at e
    exact bindE e λ x' hx e => bindE e λ y' hy e => mapE e λ d hd e => by
      subst e
      exact zam λ Q E hQ => znC (ha.asD hx) (hb.asD hy) hd λ v s' k q => hQ v s' k q
theorem zps {op : Operator} {a b : T} (h1 : PE C nt Φ A a) (h2 : PE C nt Φ A b) : PE C nt Φ A (.bin op a b) := λ {sc e env V σ s r} h S ev =>
  andE h λ k1 k2 => bindE ev λ x e1 ev => bindE ev λ y e2 ev => λ Q E hQ =>
    wpAny_BinOp (h1 k1 S e1 _ _ λ u s₁ k₁ q₁ => h2 k2 (S.keeps k₁) e2 _ _ λ v s₂ k₂ q₂ =>
      zmY ((S.keeps k₁).keeps k₂).al (RepR.keeps q₁ k₂.1) q₂ ev _ _ λ z s₃ k₃ q₃ => hQ _ _ (zae (zae k₁ k₂) k₃) q₃)
theorem onE {α : Type} {f : D -> Option α} {o : Option R} {x : α} {P : Prop} (h : o.bind (R.on f) = some x) (k : ∀ d, o = some (.d d) -> f d = some x -> P) : P :=
  bindE h λ r hr h => bindE h λ d hd h => k d (zev hd ▸ hr) h
theorem znG {a : T} (h1 : PE C nt Φ A a) : PE C nt Φ A (.neg a) := λ {sc e env V σ s r} h S ev =>
  mapE ev λ i e1 ev => onE e1 λ d e1 hd => λ Q E hQ => wpAny_UnaryOp (h1 h S e1 _ _ λ u s₁ k₁ q₁ => by
    subst ev
    obtain ⟨t, rfl⟩ := (zd8 hd ▸ q₁ : Rep C.gv s₁.heap V u (.int i)).int_inv
    exact (zam (P := λ v s' => RepR C.gv s'.heap V v (.d (.int (-i)))) λ Q E hQ => PyProof.Rows.neg_int (hQ _ _ (zah s₁ _) (.int _ _))) _ _ λ z s₃ k₃ q₃ => hQ _ _ (zae k₁ k₃) q₃)
theorem zow {c a b : T} (h1 : PT C nt Φ A c) (h2 : PE C nt Φ A a) (h3 : PE C nt Φ A b) : PE C nt Φ A (.ite c a b) := λ {sc e env V σ s r} h S ev =>
  andE h λ k1 h => andE h λ k2 k3 => bindE ev λ t e1 ev => λ Q E hQ => wpAny_IfExp (h1 k1 S e1 _ _ λ v s₁ k₁ q₁ => by
    subst q₁
    cases v with
    | true => exact h2 k2 (S.keeps k₁) ev _ _ λ z s₃ k₃ q₃ => hQ _ _ (zae k₁ k₃) q₃
    | false => exact h3 k3 (S.keeps k₁) ev _ _ λ z s₃ k₃ q₃ => hQ _ _ (zae k₁ k₃) q₃)
theorem zjp {tok : Str -> Option Int} : ∀ {ts : List T} {rs : List R}, pes tok Φ ts σ = some rs -> rs.length = ts.length
  | [], rs, h => by cases h; rfl
  | e :: es, rs, h => bindE h λ r _ h => mapE h λ rs' h2 h => by subst h; exact congrArg Nat.succ (zjp h2)
theorem zdr {ts : List T} {es : List Expr} {ds : List D} {pos : Pos} (ih : ∀ t ∈ ts, PE C nt Φ A t) (hs : Nat.ble ts.length 1000 = true) (h : kEs C.γ nt ts sc es = true) (S : St C A env sc V (pv nt σ) s) (e : (pes C.tok Φ ts σ).bind allD = some ds) :
    Runs (model C.prog C.w) A s (spliced (backTo pos (starEach (bEs ts es) env))) λ vs s' => RepAll C.gv s'.heap V vs ds /\ vs.length ≤ sizeLine := bindE e λ rs hrs hds => by
  rw [zjs h]
  refine (zgQ ih h S hrs).mono λ vs s' k q => ⟨q.all hds, ?_⟩
  rw [q.length, zjp hrs, sizeLine_eq]
  exact Nat.le_trans (Nat.le_of_ble_eq_true hs) (by decide)
theorem zmH {ts : List T} (ih : ∀ t ∈ ts, PE C nt Φ A t) : PE C nt Φ A (.lst ts) := λ {sc e env V σ s r} h S ev =>
  andE h λ k1 k2 => mapE ev λ ds hds ev => λ Q E hQ => wpAny_List (zdr ih k1 k2 S hds _ _ λ vs s₁ k₁ q₁ => ⟨q₁.2, by
    subst ev
    exact hQ _ _ (zae k₁ ⟨zai s₁ _, Nat.le_refl _⟩) (zcz (S.keeps k₁).al q₁.1)⟩)
theorem zk2 {ts : List T} (ih : ∀ t ∈ ts, PE C nt Φ A t) : PE C nt Φ A (.tup ts) := λ {sc e env V σ s r} h S ev =>
  andE h λ k1 k2 => mapE ev λ ds hds ev => λ Q E hQ => wpAny_Tuple (zdr ih k1 k2 S hds _ _ λ vs s₁ k₁ q₁ => ⟨q₁.2, by
    subst ev
    exact hQ _ _ (zae k₁ ⟨zai s₁ _, Nat.le_refl _⟩) (zfn (S.keeps k₁).al q₁.1)⟩)
theorem zhf : ∀ (l : List (Array Value)) (acc : Array Value), (List.foldl (λ a b => a ++ b) acc l).toList = acc.toList ++ (l.map Array.toList).flatten
  | [], acc => by simp
  | y :: l, acc => by rw [List.foldl_cons, zhf l]; simp
theorem zhN {gv : String -> Option Value} {h : Heap} {vs : List Value} {ds : List D} (r : RepAll gv h V vs ds) : ∀ n : Nat, RepAll gv h V ((List.replicate n vs).flatten) (repL ds n)
  | 0 => .nil
  | n + 1 => by rw [List.replicate_succ, List.flatten_cons, repL]; exact r.append (zhN r n)
theorem zny {gv : String -> Option Value} {h : Heap} {vs : List Value} {ds : List D} (r : RepAll gv h V vs ds) (n : Nat) :
    RepAll gv h V (List.foldl (λ x1 x2 => x1 ++ x2) #[] (List.replicate (if vs.toArray.isEmpty = true then 0 else n) vs.toArray)).toList (repL ds n) := by
  rw [zhf, List.map_replicate, Array.toList_empty, List.nil_append, List.toList_toArray]
  cases r with
  | nil =>
    have e2 : ∀ k, repL ([] : List D) k = [] := λ k => by induction k with | zero => rfl | succ k ih => exact ih
    rw [e2]; exact .nil
  | cons a b => exact zhN (.cons a b) n
theorem znb {ts : List T} {b : T} (ih : ∀ t ∈ ts, PE C nt Φ A t) (h2 : PE C nt Φ A b) : PE C nt Φ A (.lmul ts b) := λ {sc e env V σ s r} h S ev =>
  andE h λ hs h => andE h λ k1 k2 => bindE ev λ ds hds ev => bindE ev λ n hn ev => ifE ev λ hc ev => onE hn λ dn hn hdn => λ Q E hQ => by
    refine wpAny_BinOp (wpAny_List (zdr ih hs k1 S hds _ _ λ vs s₁ k₁ q₁ => ⟨q₁.2, ?_⟩))
    have k₂ : Kp s₁ { s₁ with heap := s₁.heap.push { cls := .type "list", data := .seq vs.toArray } } := ⟨zai s₁ _, Nat.le_refl _⟩
    have S₂ := (S.keeps k₁).keeps k₂
    refine h2 k2 S₂ hn _ _ λ u s₃ k₃ q₃ => ?_
    obtain ⟨t, rfl⟩ := (zd8 hdn ▸ q₃ : Rep C.gv s₃.heap V u (.int n)).int_inv
    have hobj : s₃.heap.get? s₁.heap.objs.size = some { cls := .type "list", dict := none, data := .seq vs.toArray, slots := #[] } := zac k₃.1 _ _ (Heap.get?_push_size _ rfl)
    have hsm := small_iff.mp hc.2
    have lv := q₁.1.length
    subst ev
    refine ziT hobj (by lia) (by lia) ?_ ?_
    · rw [List.size_toArray, lv]; exact Nat.le_trans hc.1 (by decide)
    · exact hQ _ _ (zae (zae (zae k₁ k₂) k₃) ⟨zai s₃ _, Nat.le_refl _⟩) (zcz (S₂.keeps k₃).al (zny ((q₁.1.keeps k₂.1).keeps k₃.1) n.toNat))
theorem zg8 {γ : Str -> Option D} {op : CmpOp} {t : T} {e : Expr} (h : kE γ nt t sc e = true) : behindInMarks op (bE t e) = false := by
  cases t with
  | cst d => show behindInMarks op (bif isNm e then _ else _) = false; cases isNm e <;> cases op <;> rfl
  | not_ | rng | rng1 | enm | pln | gen | yld => exact ffE h
  | _ => cases op <;> rfl
theorem zl7 {op : CmpOp} {a b : T} {e : Expr} {r : R} (K : C.Ok) (rm : Rm A) (h1 : PE C nt Φ A a) (h2 : PE C nt Φ A b) (h : kE C.γ nt (.cmp op a b) sc e = true) (S : St C A env sc V (pv nt σ) s) (ev : pe C.tok Φ (.cmp op a b) σ = some r) {Q E : Value -> Shared -> Prop}
    (hQ : ∀ c s', r = .d (.bool c) -> Kp s s' -> Q (.bool c) s') : wpAny (model C.prog C.w) A (eval (bE a (g1 e)) env) (λ u s₁ => wpAny (model C.prog C.w) A (eval (bE b (h0 e)) env) (λ v s₂ => wpAny (model C.prog C.w) A (compareOp op u v) Q E s₂) E s₁) E s :=
  andE h λ k1 k2 => bindE ev λ x e1 ev => bindE ev λ y e2 ev => mapE ev λ d hd ev =>
    h1 k1 S e1 _ _ λ u s₁ k₁ q₁ => h2 k2 (S.keeps k₁) e2 _ _ λ v s₂ k₂ q₂ => by
      refine zll rm (((S.keeps k₁).keeps k₂).gl.tab K) (RepR.keeps q₁ k₂.1) q₂ hd _ _ λ z s₃ k₃ ⟨c', hc, q₃⟩ => ?_
      rw [q₃]
      exact hQ c' s₃ (by rw [<- ev, hc]) (zae (zae k₁ k₂) k₃)
theorem zoH {op : CmpOp} {a b : T} (K : C.Ok) (rm : Rm A) (h1 : PE C nt Φ A a) (h2 : PE C nt Φ A b) : PE C nt Φ A (.cmp op a b) := λ {sc e env V σ s r} h S ev Q E hQ =>
  andE h λ _ k2 => wpAny_Compare1 (zl7 K rm h1 h2 h S ev λ c s' hr k => hQ _ _ k (by rw [hr]; exact .bool c)) (zg8 k2)
theorem znE {op : CmpOp} {a b : T} (K : C.Ok) (rm : Rm A) (h1 : PE C nt Φ A a) (h2 : PE C nt Φ A b) : PT C nt Φ A (.cmp op a b) := λ {sc e env V σ s r} h S ev Q E hQ =>
  andE h λ _ k2 => onE ev λ d ev hd => wpAny_isTrue_Compare1 (zl7 K rm h1 h2 h S ev λ c s' hr k => by
    cases hr; cases hd; exact wpAny_truthy_bool (hQ _ _ k rfl)) (zg8 k2)
end
section
variable {C : Cx} {nt : List Str} {Φ : String -> List D -> Option D} {A : Around}
variable {sc : Names} {env : Env} {V : Addr -> Prop} {σ : Sg} {s : Shared}
theorem zgB {k : String} {pos : Pos} {first : List Value} {args : List (Bool × Sem Value)} {M : Model} {E : Value -> Shared -> Prop} {Q : Value -> Shared -> Prop} (hplain : args.any (·.1) = false)
    (h : wpAny M A (evalArgs (biVal k) true args []) (λ a s₁ => wpAny M A (call (biVal k) (first ++ a.pos) a.kw) Q E s₁) E s) : wpAny M A (callWith pos (biVal k) first args []) Q E s := by
  by_cases hk : k = "tuple"
  · subst hk; exact PySem.callWith_type hplain h
  · have : biVal k = .builtin k := by
      unfold biVal
      split
      · exact absurd rfl hk
      · rfl
    rw [this] at h ⊢
    exact Calls.callWith_builtin hplain h
theorem zns {f : T} {args : List T} (K : C.Ok) (O : C.Obj) (rm : Rm A) (P : PhiOk C Φ A) (ih : ∀ t ∈ args, PE C nt Φ A t) : PE C nt Φ A (.call f args) := λ {sc e env V σ s r} h S ev =>
  andE h λ hf ha => bindE ev λ g e1 ev => bindE ev λ rs e2 ev => mapE ev λ d e3 ev => bindE e3 λ k hg e3 => λ Q E hQ => by
    subst ev
    refine wpAny_Call_ofName (zjP K hf S e1 _ _ λ fv s₁ k₁ q₁ => ?_)
    show wpAny _ _ (callWith e.pos fv [] (backTo e.pos (starEach (bEs args (gl e)) env)) []) _ _ _
    rw [zjs ha]
    have S₁ := S.keeps k₁
    have hk := q₁.vF hg
    by_cases hb : isBi k = true
    · rw [O.bi k hb] at hk
      cases hk
      refine zgB zbI (zaX ih ha S₁ e2 _ _ λ a s₂ k₂ q₂ => ?_)
      rw [q₂.1]
      exact znq rm (S₁.keeps k₂).al ⟨q₂.2.get, q₂.2.length⟩ ((if_pos hb).symm.trans e3) _ _ λ v s₃ k₃ q₃ => hQ _ _ (zae (zae k₁ k₂) k₃) q₃
    · refine bindE ((if_neg hb).symm.trans e3) λ ds e4 e5 => ?_
      refine O.cw k fv hk (eq_false_of_ne_true hb) (λ hne => noE ((P.1 ds).symm.trans (hne ▸ e5))) zbI (zaX ih ha S₁ e2 _ _ λ a s₂ k₂ q₂ => ⟨(S₁.keeps k₂).gl.keep, ?_⟩)
      rw [q₂.1]
      have S₂ := S₁.keeps k₂
      exact P.2 k ds d e5 (eq_false_of_ne_true hb) hk S₂.gl S₂.al S₂.tk (q₂.2.all e4) _ _ λ v s₃ k₃ q₃ => hQ _ _ (zae (zae k₁ k₂) k₃) q₃
theorem zlz {γ : Str -> Option D} {o : T} {e : Expr} {m : Str} {whole : Sem Value} (h : kE γ nt o sc e = true) (hb : bad0 o = false) : attributeBase (bE o e) m env whole = whole := by
  cases o with
  | cst d => show attributeBase (bif isNm e then _ else _) m env whole = whole; cases isNm e <;> rfl
  | call f args => cases args with
    | nil => exact ffE hb.symm
    | cons => rfl
  | not_ | rng | rng1 | enm | pln | gen | yld => exact ffE h
  | _ => rfl
theorem zgl {M : Model} {o : Expr} {m : Str} {ap pos : Pos} {args : List Expr} {Q E : Value -> Shared -> Prop} (hl : (ap.endLine == pos.line) = true) (hbase : ∀ whole, attributeBase o m env whole = whole) (hn : args.length < 29) (hs : starEach args env = args.map λ e => (false, eval e env))
    (h : wpAny M A (eval o env) (λ ov s₁ => ∀ pl, wpAny M A (getMethod ov m pl) (λ fx s₂ => wpAny M A (callWith pos fx.1 fx.2 (args.map λ e => (false, eval e env)) []) Q E s₂) E s₁) E s) :
    wpAny M A (eval (.Call (.Attribute o m ap) args [] pos) env) Q E s := by
  have hbk : backTo pos (starEach args env) = args.map λ e => (false, eval e env) := by
    rw [hs]
    unfold backTo
    rw [List.map_map]; rfl
  rw [arm_eval_Call, hbase]
  refine wpAny_bind (wpAny_mono h (λ ov s₁ h₁ => ?_) λ _ _ e => e)
  refine wpAny_bind (wpAny_standAt ?_)
  have hform : methodCallForm (args.length + ([] : List Keyword).length) (args.map λ e => (false, eval e env)) (backToKw pos (keywordEach [] env)) = true := by
    unfold methodCallForm
    rw [show ((args.map λ e => (false, eval e env)).all λ x => !x.1) = true by rw [List.all_map]; exact List.all_eq_true.mpr λ _ _ => rfl]
    show (true && true && decide (args.length + 0 + 0 < 30)) = true
    simp; lia
  have hpos : methodCallPos true o env ap pos = pure pos := by unfold methodCallPos; simp [hl]
  unfold methodCall
  rw [hbk, hform]
  refine wpAny_bind (wpAny_holding (wpAny_mono (h₁ _) (λ fx s₂ h₂ => ?_) λ _ _ e => e))
  exact wpAny_bind (wpAny_of_eq hpos h₂)
theorem one_pos {a : Args} {rs : List R} {r : R} {h : Heap} (q : a.kw = [] /\ RepRs C.gv h V a.pos rs) (e : one1 rs = some r) : ∃ v, a = ⟨[v], []⟩ /\ RepR C.gv h V v r := by
  obtain ⟨p, kw⟩ := a
  obtain ⟨rfl, q⟩ := q
  rw [zl6 e] at q
  cases q with
  | cons x y => cases y; exact ⟨_, rfl, x⟩
noncomputable def MCall (C : Cx) (A : Around) (s : Shared) (ov : Value) (m : String) (pl : Sem Bool) (pos : Pos) (as : List (Bool × Sem Value)) (P : Value -> Shared -> Prop) : Prop :=
  ∀ (Q E : Value -> Shared -> Prop), (∀ v s', Kp s s' -> P v s' -> Q v s') -> wpAny (model C.prog C.w) A (getMethod ov (Str.ofString m) pl) (λ fx s₂ => wpAny (model C.prog C.w) A (callWith pos fx.1 fx.2 as []) Q E s₂) E s
section
variable {args : List T} {es : List Expr} {rs : List R} {g : R} {ov : Value} {d : D} {pl : Sem Bool} {pos : Pos}
theorem zo4 (ih : ∀ t ∈ args, PE C nt Φ A t) (ha : kEs C.γ nt args sc es = true) (S : St C A env sc V (pv nt σ) s) (e2 : pes C.tok Φ args σ = some rs) (q : RepR C.gv s.heap V ov g) (e : joinM g rs = some d) :
    MCall C A s ov "join" pl pos ((bEs args es).map λ e => (false, eval e env)) λ v s' => Rep C.gv s'.heap V v d := λ Q E hQ =>
  bindE e λ y hy e => bindE e λ r hr e => bindE e λ ds e4 e => bindE e λ ys e5 e => by
    obtain ⟨t, rfl⟩ := q.vS hy
    refine GM.join (Calls.callWith_builtin zbI (zaX ih ha S e2 _ _ λ a s₂ k₂ q₂ => ?_))
    obtain ⟨v, rfl, x⟩ := one_pos q₂ hr
    exact zm6 (x.asL e4) e5 e _ _ λ v s₃ k₃ q₃ => hQ _ _ (zae k₂ k₃) q₃
theorem zmx (ih : ∀ t ∈ args, PE C nt Φ A t) (ha : kEs C.γ nt args sc es = true) (S : St C A env sc V (pv nt σ) s) (e2 : pes C.tok Φ args σ = some rs) (q : RepR C.gv s.heap V ov g) (e : zje g rs = some d) :
    MCall C A s ov "split" pl pos ((bEs args es).map λ e => (false, eval e env)) λ v s' => Rep C.gv s'.heap V v d := λ Q E hQ =>
  bindE e λ y hy e => bindE e λ r hr e => bindE e λ z hz e => by
    obtain ⟨t, rfl⟩ := q.vS hy
    refine GM.split (Calls.callWith_builtin zbI (zaX ih ha S e2 _ _ λ a s₂ k₂ q₂ => ?_))
    obtain ⟨v, rfl, x⟩ := one_pos q₂ hr
    obtain ⟨t', rfl⟩ := x.vS hz
    exact zli (S.keeps k₂).al e _ _ λ v s₃ k₃ q₃ => hQ _ _ (zae k₂ k₃) q₃
theorem zmL (ih : ∀ t ∈ args, PE C nt Φ A t) (ha : kEs C.γ nt args sc es = true) (S : St C A env sc V (pv nt σ) s) (e2 : pes C.tok Φ args σ = some rs) (q : RepR C.gv s.heap V ov g) (e : zjB g rs = some d) :
    MCall C A s ov "index" pl pos ((bEs args es).map λ e => (false, eval e env)) λ v s' => Rep C.gv s'.heap V v d := λ Q E hQ =>
  bindE e λ ds hds e => bindE e λ r hr e => bindE e λ k hk e => bindE e λ ns e5 e => by
    have q' := q.vL hds
    obtain ⟨l, vs, rfl, hp, _⟩ := Rep.lst_plain q'
    obtain ⟨ob, n, ho', hc, hd, _⟩ := id hp
    refine getMethod_builtin hp.isList.typeIs F.plainAttrs_list F.slot_list_index F.type_list_index (λ a ha => by cases ha; exact ⟨_, ho', hd⟩) ?_
    refine Calls.callWith_builtin zbI (zaX ih ha S e2 _ _ λ a s₂ k₂ q₂ => ?_)
    obtain ⟨v, rfl, x⟩ := one_pos q₂ hr
    obtain ⟨t', rfl⟩ := x.vI hk
    exact zkE ((Rep.lstAt q').keeps k₂.1) e5 e _ _ λ v s₃ k₃ q₃ => hQ _ _ (zae k₂ k₃) q₃
theorem zmQ {m : String} (hm : isMe m = true) : isBi m = false /\ m ≠ "EXACT_TOKEN_TYPES" := by
  have : m = "equal" ∨ m = "not_equal_witness" ∨ m = "indent_level" ∨ m = "longest_run_of_spaces" := by simpa [isMe] using hm
  rcases this with rfl | rfl | rfl | rfl <;> exact ⟨by decide, by decide⟩
theorem zpC {m : String} (O : C.Obj) (P : PhiOk C Φ A) (ih : ∀ t ∈ args, PE C nt Φ A t) (ha : kEs C.γ nt args sc es = true) (S : St C A env sc V (pv nt σ) s) (e2 : pes C.tok Φ args σ = some rs) (q : RepR C.gv s.heap V ov g) (hm : isMe m = true) (e : ((g.on D.gO).bind λ fs => (allD rs).bind λ ds => Φ m (.obj fs :: ds)) = some d) :
    MCall C A s ov m pl pos ((bEs args es).map λ e => (false, eval e env)) λ v s' => Rep C.gv s'.heap V v d := λ Q E hQ =>
  bindE e λ fs hfs e => bindE e λ ds e4 e5 => by
    have q' := q.vO hfs
    obtain ⟨fv, hfv, hg⟩ := O.gm m hm
    have nb := zmQ hm
    refine hg S.gl q' (O.cw m fv hfv nb.1 nb.2 zbI (zaX ih ha S e2 _ _ λ a s₂ k₂ q₂ => ⟨(S.keeps k₂).gl.keep, ?_⟩))
    rw [q₂.1]
    have S₂ := S.keeps k₂
    exact P.2 m _ d e5 nb.1 hfv S₂.gl S₂.al S₂.tk (.cons (Rep.keeps q' k₂.1) (q₂.2.all e4)) _ _ λ v s₃ k₃ q₃ => hQ _ _ (zae k₂ k₃) q₃
theorem zpP {m : String} (O : C.Obj) (P : PhiOk C Φ A) (ih : ∀ t ∈ args, PE C nt Φ A t) (ha : kEs C.γ nt args sc es = true) (S : St C A env sc V (pv nt σ) s) (e2 : pes C.tok Φ args σ = some rs) (q : RepR C.gv s.heap V ov g) (e : methP Φ m g rs = some d) :
    MCall C A s ov m pl pos ((bEs args es).map λ e => (false, eval e env)) λ v s' => Rep C.gv s'.heap V v d :=
  iteE e (λ hm e => hm ▸ zo4 ih ha S e2 q e) λ _ e => iteE e (λ hm e => hm ▸ zmx ih ha S e2 q e) λ _ e => iteE e (λ hm e => hm ▸ zmL ih ha S e2 q e) λ _ e => iteE e (λ hm e => zpC O P ih ha S e2 q hm e) λ _ e => noE e
end
theorem znl {m : String} {o : T} {args : List T} (O : C.Obj) (P : PhiOk C Φ A) (ho : PE C nt Φ A o) (ih : ∀ t ∈ args, PE C nt Φ A t) : PE C nt Φ A (.meth m o args) := λ {sc e env V σ s r} h S ev =>
  andE h λ hc h => andE h λ hk ha => andE hc λ hc hl => andE hc λ hb hn => bindE ev λ g e1 ev => bindE ev λ rs e2 ev => mapE ev λ d e3 ev => λ Q E hQ =>
    zgl hl (λ _ => zlz hk (zdj hb)) (by rw [zdW]; exact Nat.le_of_ble_eq_true hn) (zgp ha) (ho hk S e1 _ _ λ ov s₁ k₁ q₁ pl =>
      zpP O P ih ha (S.keeps k₁) e2 q₁ e3 _ _ λ v s₃ k₃ q₃ => hQ _ _ (zae k₁ k₃) (by rw [<- ev]; exact q₃))
theorem zmA {o : T} {y z : Str} (ho : PE C nt Φ A o) : PE C nt Φ A (.repl o y z) := λ {sc e env V σ s r} h S ev =>
  andE h λ hc hk => andE hc λ hb hl => bindE ev λ x e1 ev => mapE ev λ d e3 ev => onE e1 λ dx e1 hx => λ Q E hQ => by
    subst ev
    refine zgl hl (λ _ => zlz hk (zdj hb)) (by decide : 2 < 29) rfl (ho hk S e1 _ _ λ ov s₁ k₁ q₁ pl => ?_)
    have S₁ := S.keeps k₁
    obtain ⟨t, rfl⟩ := (zgo hx ▸ q₁ : Rep C.gv s₁.heap V ov (.str x)).str_inv
    refine GM.replace (Calls.callWith_builtin rfl ?_)
    refine Calls.evalArgs_plain (Calls.spliced_cons ?_)
    refine wpAny_Constant_str (Calls.spliced_cons (wpAny_Constant_str (Calls.spliced_nil ?_)))
    have ht := S₁.tk
    have k₂ : Kp s₁ { s₁ with toks := s₁.toks + 1 + 1 } := ⟨zah _ _, Nat.le_trans (Nat.le_succ _) (Nat.le_succ _)⟩
    exact zmm (Nat.ne_of_gt ht) (Nat.succ_ne_zero _) (Nat.ne_of_lt (Nat.lt_succ_self _)) e3 _ _ λ v s₃ k₃ q₃ => hQ _ _ (zae (zae k₁ k₂) k₃) q₃
theorem zod {o : T} {n : Str} (K : C.Ok) (O : C.Obj) : PE C nt Φ A (.fld o n) := λ {sc e env V σ s r} h S ev =>
  bindE ev λ g e1 ev => mapE ev λ d e3 ev => bindE e3 λ dx hx e3 => λ Q E hQ => by
    subst ev
    refine Attribute_any_ (zjP K h S e1 _ _ λ ov s₁ k₁ q₁ => ?_)
    have S₁ := S.keeps k₁
    have x := q₁.asD hx
    have fin : ∀ u tk, s₁.toks ≤ tk -> Rep C.gv s₁.heap V u d -> Q u { s₁ with toks := tk } := λ u tk ht q => hQ u _ (zae k₁ ⟨zah _ _, ht⟩) q
    refine wpAny_with_toks (Nat.le_refl _) ?_
    cases dx with
    | obj fs => exact O.fld S₁.gl x e3 λ u tk q ht => fin u tk ht q
    | fn k =>
      by_cases hk : k = "Whitespace"
      · subst hk
        exact O.cls S₁.gl x.fn_inv e3 λ u tk q ht => fin u tk ht q
      · exact noE ((if_neg hk).symm.trans e3)
    | _ => exact noE e3
end
section
variable {C : Cx} {nt : List Str} {Φ : String -> List D -> Option D} {A : Around}
variable {sc : Names} {env : Env} {V : Addr -> Prop} {σ : Sg} {s : Shared}
theorem zih {M : Model} {pos : Pos} {op : BoolOp} {x y : Sem Value} {rest : List (Sem Value)} {Q E : Value -> Shared -> Prop}
    (h : wpAny M A x (λ v s₁ => ∃ b, v = .bool b /\ (stops op b = true -> Q (.bool b) s₁) /\ (stops op b = false -> wpAny M A (boolOp pos op (y :: rest)) Q E s₁)) E s) : wpAny M A (boolOp pos op (x :: y :: rest)) Q E s := by
  rw [boolOp]
  · refine wpAny_bind (wpAny_mono h (λ v s₁ h₁ => wpAny_bind (wpAny_standAt (wpAny_bind (wpAny_holding ?_)))) λ _ _ e => e)
    obtain ⟨b, rfl, h₁, h₂⟩ := h₁
    refine wpAny_truthy_bool ?_
    cases op <;> cases b <;> first | exact h₂ rfl | exact wpAny_pure (h₁ rfl)
  · intro h; cases h
theorem zhP {op : BoolOp} {pos : Pos} : ∀ {ts : List T}, ts ≠ [] -> (∀ t ∈ ts, PE C nt Φ A t) -> ∀ {es : List Expr} {s : Shared} {b : Bool}, kEs C.γ nt ts sc es = true -> St C A env sc V (pv nt σ) s -> pall C.tok Φ op ts σ = some b ->
    Runs (model C.prog C.w) A s (boolOp pos op (evalEach (bEs ts es) env)) λ v _ => v = .bool b
  | [], h, _, _, _, _, _, _, _ => absurd rfl h
  | [t], _, ih, es, s, b, h, S, e => andE h λ h1 _ => bindE e λ b' kb kr => onE kb λ d kb hd => λ Q E hQ => by
    have key : b' = b := by
      revert kr
      cases op <;> cases b' <;> exact λ kr => Option.some.inj kr
    exact ih t (.head _) h1 S kb _ _ λ v s' k q => hQ v s' k (by rw [<- key]; exact (zkV hd ▸ q : Rep C.gv s'.heap V v (.bool b')).bool_inv)
  | t :: u :: ts, _, ih, es, s, b, h, S, e => andE h λ h1 h2 => bindE e λ b' kb kr => onE kb λ d kb hd => λ Q E hQ =>
    zih (ih t (.head _) h1 S kb _ _ λ v s₁ k₁ q₁ => ⟨b', (zkV hd ▸ q₁ : Rep C.gv s₁.heap V v (.bool b')).bool_inv,
      λ hc => by rw [hc] at kr; exact hQ _ _ k₁ (by rw [Option.some.inj kr]),
      λ hc => by
        rw [hc] at kr
        exact zhP (ts := u :: ts) (λ h => nomatch h) (λ z hz => ih z (.tail _ hz)) h2 (S.keeps k₁) kr _ _ λ v s₂ k₂ q₂ => hQ _ _ (zae k₁ k₂) q₂⟩)
theorem zoJ {op : BoolOp} {ts : List T} (ih : ∀ t ∈ ts, PE C nt Φ A t) : PE C nt Φ A (.all_ op ts) := λ {sc e env V σ s r} h S ev =>
  andE h λ hne h => mapE ev λ b e1 ev => by
    subst ev
    show Runs _ _ _ (eval (.BoolOp op (bEs ts (gl e)) e.pos) env) _
    rw [arm_eval_BoolOp]
    exact (zhP (λ q => by rw [q] at hne; exact ffE hne) ih h S e1).mono λ v s' k q => by rw [q]; exact .bool b
theorem zgj {op : BoolOp} : ∀ {ts : List T}, (∀ t ∈ ts, PT C nt Φ A t) -> ∀ {es : List Expr} {s : Shared} {b : Bool}, kTs C.γ nt ts sc es = true -> St C A env sc V (pv nt σ) s -> pall C.tok Φ op ts σ = some b ->
    Runs (model C.prog C.w) A s (allTrue op (bEs ts es) env) λ v _ => v = b
  | [], _, es, s, b, h, S, e => λ Q E hQ => by
    cases e
    cases op
    · exact wpAny_allTrue_And_nil (hQ _ _ (za4 s) rfl)
    · exact wpAny_allTrue_Or_nil (hQ _ _ (za4 s) rfl)
  | t :: ts, ih, es, s, b, h, S, e => andE h λ h1 h2 => bindE e λ b' kb kr => λ Q E hQ => by
    have nx : ∀ {v s₁}, Kp s s₁ -> v = b' -> (stops op v = true -> v = b) /\ (stops op v = false -> wpAny (model C.prog C.w) A (allTrue op (bEs ts es.tail) env) Q E s₁) := λ {v s₁} k₁ q₁ => by
      subst q₁
      refine ⟨λ hc => ?_, λ hc => ?_⟩
      · rw [hc] at kr; exact Option.some.inj kr
      · rw [hc] at kr
        exact zgj (λ z hz => ih z (.tail _ hz)) h2 (S.keeps k₁) kr _ _ λ v s₂ k₂ q₂ => hQ _ _ (zae k₁ k₂) q₂
    cases op
    · refine wpAny_allTrue_And_cons (ih t (.head _) h1 S kb _ _ λ v s₁ k₁ q₁ => ?_)
      cases v
      · exact hQ _ _ k₁ ((nx k₁ q₁).1 rfl)
      · exact (nx k₁ q₁).2 rfl
    · refine wpAny_allTrue_Or_cons (ih t (.head _) h1 S kb _ _ λ v s₁ k₁ q₁ => ?_)
      cases v
      · exact (nx k₁ q₁).2 rfl
      · exact hQ _ _ k₁ ((nx k₁ q₁).1 rfl)
theorem znL {op : BoolOp} {ts : List T} (ih : ∀ t ∈ ts, PT C nt Φ A t) : PT C nt Φ A (.all_ op ts) := λ {sc e env V σ s b} h S ev Q E hQ =>
  onE ev λ d ev hd => mapE ev λ b' e1 ev => by
    cases ev; cases hd
    exact wpAny_isTrue_BoolOp (zgj ih h S e1 Q E hQ)
theorem zoP {a : T} (ih : PT C nt Φ A a) : PT C nt Φ A (.not_ a) := λ {sc e env V σ s b} h S ev Q E hQ =>
  onE ev λ d ev hd => mapE ev λ b' e1 ev => by
    cases ev; cases hd
    exact wpAny_isTrue_Not (ih h S e1 _ _ λ v s₁ k₁ q₁ => hQ _ _ k₁ (by rw [q₁]))
theorem zkU {t : T} (ih : PE C nt Φ A t) (he : ∀ sc e env whole, kE C.γ nt t sc e = true -> isTrue (bE t e) env whole = (do let v <- whole; standAt (bE t e).pos; holding [v] (truthy v))) (hc : ∀ sc e w, kT C.γ nt t sc e w = w) : PT C nt Φ A t := λ {sc e env V σ s b} h S ev Q E hQ => by
  rw [hc] at h
  exact onE ev λ d ev hd => wpAny_isTrue_value (ih h S ev _ _ λ v s₁ k₁ q₁ => by
    rw [(zkV hd ▸ q₁ : Rep C.gv s₁.heap V v (.bool b)).bool_inv]; exact wpAny_truthy_bool (hQ _ _ k₁ rfl)) (he sc e env _ h)
theorem zo2 {o i : T} (K : C.Ok) (hv : PE C nt Φ A o) (hi : PE C nt Φ A i) : PE C nt Φ A (.sub o i) := λ {sc e env V σ s r} h S ev =>
  andE h λ k1 k2 => bindE ev λ g e1 ev => bindE ev λ d e2 ev => mapE ev λ u e3 ev => bindE e2 λ q e2 hd => λ Q E hQ => by
    subst ev
    refine Subscript_ (hv k1 S e1 _ _ λ o s₁ k₁ q₁ => hi k2 (S.keeps k₁) e2 _ _ λ w s₂ k₂ q₂ => ?_)
    exact zk0 (((S.keeps k₁).keeps k₂).gl.tab K) (RepR.keeps q₁ k₂.1) (q₂.asD hd) e3 _ _ λ z s₃ k₃ q₃ => hQ _ _ (zae (zae k₁ k₂) k₃) q₃
theorem zof {t : T} (h : isN t = true) : t = .cst .none := by
  cases t with
  | cst c => cases c with
    | none => rfl
    | _ => exact ffE h
  | _ => exact ffE h
theorem zkd {t : T} {o : Option Expr} {d : D} (ih : PE C nt Φ A t) (h : kO (kE C.γ nt t sc) (isN t) o = true) (S : St C A env sc V (pv nt σ) s) (e : (pe C.tok Φ t σ).bind R.asD = some d) :
    Runs (model C.prog C.w) A s (valueOrNone (evalOpt (o.map (bE t)) env)) λ v s' => Rep C.gv s'.heap V v d := by
  cases o with
  | none => rw [zof h] at e; cases e; exact zfI .none
  | some x => exact bindE e λ q e1 e2 => (ih h S e1).mono λ v s' k q => q.asD e2
theorem zjd {prog : Program} {w : World} {gv : String -> Option Value} {value slice : Expr} {o vl vu vk : Value} {ds : List D} {lo hi st : Option Int} (al : Al V s.heap) (ho : LstAt gv s.heap V o ds) (pl : IsPart vl lo) (pu : IsPart vu hi) (pk : IsPart vk st) (h0 : st ≠ some 0) (hsz : ds.length ≤ 2 ^ 20)
    (Q : Value -> Shared -> Prop) (E : Value -> Shared -> Prop) (hQ : ∀ v s', Kp s s' -> Rep gv s'.heap V v (.lst (zbY ds lo hi st)) -> Q v s') :
    wpAny (model prog w) A (subscriptTail value slice o (.ref s.heap.objs.size)) Q E { s with heap := s.heap.push { cls := .type "slice", data := .fields #[vl, vu, vk] } } := by
  obtain ⟨l, vs, rfl, hl, r⟩ := ho
  have k : Kp s { s with heap := s.heap.push { cls := .type "slice", data := .fields #[vl, vu, vk] } } := ⟨zai _ _, Nat.le_refl _⟩
  have hl' : (s.heap.push { cls := .type "slice", data := .fields #[vl, vu, vk] }).IsList l vs := hl.push _
  have len := r.length
  rw [Array.length_toList] at len
  refine zcx (P := λ v s' => Rep gv s'.heap V v (.lst (zbY ds lo hi st))) hl'.typeIs list_getitem_lookup (zam λ Q E hQ => ?_) _ _ λ v s' k' q => hQ v s' (zae k k') q
  exact wpAny_getItem_list_slice hl' (Heap.IsSliceOf.new ..) pl pu pk h0 (hQ _ _ (zai _ _) (zcz (al.keeps k.1) ((r.keeps k.1).slice lo hi st))) (by rw [sizeLine_eq]; lia)
theorem zjb {prog : Program} {w : World} {gv : String -> Option Value} {value slice : Expr} {x : Str} {t ui uj : Tok} {i j : Int} (hsz : x.length ≤ 2 ^ 20)
    (Q : Value -> Shared -> Prop) (E : Value -> Shared -> Prop) (hQ : ∀ v s', Kp s s' -> Rep gv s'.heap V v (.str (Txt.slice x (some i) (some j))) -> Q v s') :
    wpAny (model prog w) A (subscriptTail value slice (.str x t) (.ref s.heap.objs.size)) Q E { s with heap := s.heap.push { cls := .type "slice", data := .fields #[.int i ui, .int j uj, .none] } } := by
  obtain ⟨ops, e⟩ := zb4 slice (.str x t) (.ref s.heap.objs.size)
  have K : KeptH λ h' => ∀ b o, s.heap.get? b = some o -> h'.get? b = some o := λ h o hp b o' e => Heap.get?_push_of_some _ (hp b o' e)
  refine wpAny_with_toks (Nat.le_refl s.toks) ?_
  have I := SBH.sliceItem_ss (prog := prog) (w := w) (A := A) (E := λ e s' => s.toks ≤ s'.toks -> E e s') (s := s) (x := x) (t := t) (i := i) (j := j) (ui := ui) (uj := uj) (Q := λ v s' => s.toks ≤ s'.toks -> Q v s') K (λ _ _ e => e) (λ h' t' k hk hle => hQ _ _ ⟨⟨h', k, rfl, hk⟩, hle⟩ (.str _ _)) (by rw [sizeLine_eq]; lia)
  obtain ⟨T, id, h1, h2, h3⟩ := I
  exact tail_any h2 h1 h3 e
theorem zhw {v : Value} {p : Option Int} {i : Int} (x : IsPart v p) (h : p = some i) : ∃ t, v = .int i t := by
  cases x with
  | none => exact noE h
  | int j t => cases h; exact ⟨_, rfl⟩
theorem zjq {v : Value} {p : Option Int} (x : IsPart v p) (h : p = none) : v = .none := by
  cases x with
  | none => rfl
  | int j t => exact noE h.symm
theorem zng {prog : Program} {w : World} {gv : String -> Option Value} {value slice : Expr} {o vl vu vk : Value} {g : R} {l u k d : D} (al : Al V s.heap) (x : RepR gv s.heap V o g) (ql : Rep gv s.heap V vl l) (qu : Rep gv s.heap V vu u) (qk : Rep gv s.heap V vk k) (e : slcP g l u k = some d)
    (Q : Value -> Shared -> Prop) (E : Value -> Shared -> Prop) (hQ : ∀ v s', Kp s s' -> Rep gv s'.heap V v d -> Q v s') :
    wpAny (model prog w) A (subscriptTail value slice o (.ref s.heap.objs.size)) Q E { s with heap := s.heap.push { cls := .type "slice", data := .fields #[vl, vu, vk] } } :=
  bindE e λ lo p1 e => bindE e λ hi p2 e => bindE e λ st p3 e => by
    have pl := zg1 ql p1
    have pu := zg1 qu p2
    have pk := zg1 qk p3
    clear p1 p2 p3
    cases hl : g.asL with
    | some ds =>
      rw [hl] at e
      exact ifE e λ hc e => zjd al (x.asL hl) pl pu pk hc.1 hc.2 _ _ λ v s' k q => hQ v s' k (e ▸ q)
    | none =>
      rw [hl] at e
      refine bindE e λ y hy e => iteE e (λ hk e => bindE e λ i hi e => bindE e λ j hj e => ifE e λ hsz e => ?_) λ _ e => noE e
      obtain ⟨t, rfl⟩ := x.vS hy
      obtain ⟨ui, rfl⟩ := zhw pl hi
      obtain ⟨uj, rfl⟩ := zhw pu hj
      cases zjq pk hk
      exact zjb hsz _ _ λ v s' k q => hQ v s' k (e ▸ q)
theorem znJ {o lo hi st : T} (hv : PE C nt Φ A o) (h1 : PE C nt Φ A lo) (h2 : PE C nt Φ A hi) (h3 : PE C nt Φ A st) : PE C nt Φ A (.slc o lo hi st) := λ {sc e env V σ s r} h S ev =>
  andE h λ c0 h => andE h λ c1 h => andE h λ c2 c3 => bindE ev λ g e1 ev => bindE ev λ l e2 ev => bindE ev λ u e3 ev => bindE ev λ k e4 ev => mapE ev λ d e5 ev => λ Q E hQ => by
    refine Subscript_ (hv c0 S e1 _ _ λ o s₁ k₁ q₁ => ?_)
    have S₁ := S.keeps k₁
    rw [arm_eval_Slice]
    refine wpAny_bind (zkd h1 c1 S₁ e2 _ _ λ vl s₂ k₂ q₂ => wpAny_bind (wpAny_holding (zkd h2 c2 (S₁.keeps k₂) e3 _ _ λ vu s₃ k₃ q₃ => wpAny_bind (wpAny_holding (zkd h3 c3 ((S₁.keeps k₂).keeps k₃) e4 _ _ λ vk s₄ k₄ q₄ => wpAny_newObj_type ?_)))))
    have k34 := zae k₃ k₄
    have k14 := zae k₂ k34
    exact zng (S₁.keeps k14).al (RepR.keeps q₁ k14.1) (Rep.keeps q₂ k34.1) (Rep.keeps q₃ k₄.1) q₄ e5 _ _ λ z s₅ k₅ q₅ => hQ _ _ (zae (zae k₁ k14) k₅) (by rw [<- ev]; exact q₅)
end
section
variable {C : Cx} {nt : List Str} {Φ : String -> List D -> Option D} {A : Around}
variable {sc : Names} {env : Env} {V : Addr -> Prop} {σ : Sg} {s : Shared}
theorem Rep.vol {gv : String -> Option Value} {Z : Addr -> Prop} {s s' : Shared} {v : Value} {d : D} (r : Rep gv s.heap V v d) (k : Keeps s s') (hz : ∀ a, Z a -> s.heap.get? a = Option.none) : Rep gv s'.heap (λ a => V a ∨ Z a) v d := r.mono (zbu k hz)
theorem RepAll.vol {gv : String -> Option Value} {Z : Addr -> Prop} {s s' : Shared} {v : List Value} {d : List D} (r : RepAll gv s.heap V v d) (k : Keeps s s') (hz : ∀ a, Z a -> s.heap.get? a = Option.none) : RepAll gv s'.heap (λ a => V a ∨ Z a) v d := r.mono (zbu k hz)
theorem Rep.sub {gv : String -> Option Value} {V' : Addr -> Prop} {h : Heap} {v : Value} {d : D} (r : Rep gv h V' v d) (hz : ∀ a, V a -> V' a) : Rep gv h V v d :=
  r.mono λ a o hv e => ⟨e, λ h => hv (hz a h)⟩
theorem RepAll.sub {gv : String -> Option Value} {V' : Addr -> Prop} {h : Heap} {v : List Value} {d : List D} (r : RepAll gv h V' v d) (hz : ∀ a, V a -> V' a) : RepAll gv h V v d :=
  r.mono λ a o hv e => ⟨e, λ h => hv (hz a h)⟩
inductive PRep (gv : String -> Option Value) (h : Heap) (V : Addr -> Prop) : List (Value × Value) -> List (D × D) -> Prop
  | nil : PRep gv h V [] []
  | cons {a b : Value} {x y : D} {ps : List (Value × Value)} {qs : List (D × D)} : Rep gv h V a x -> Rep gv h V b y -> PRep gv h V ps qs -> PRep gv h V ((a, b) :: ps) ((x, y) :: qs)
theorem PRep.key {K : Type} {is : K -> Value -> Prop} {f : D -> Option K} {gv : String -> Option Value} {h : Heap} {ps : List (Value × Value)} {qs : List (D × D)} (r : PRep gv h V ps qs) (hf : ∀ {v d k}, Rep gv h V v d -> f d = some k -> is k v) : ∀ {l : List (K × D)}, zhj f qs = some l -> KRep is gv h V ps l := by
  induction r with
  | nil => intro l e; cases e; exact .nil
  | cons h1 h2 _ ih => exact λ e => bindE e λ k hk e => mapE e λ l' hl e => e ▸ .cons (hf h1 hk) h2 (ih hl)
theorem zfi {tok : Str -> Option Int} {t : T} {ts : List T} {ds : List D} {P : Prop} (h : (pes tok Φ (t :: ts) σ).bind allD = some ds) (k : ∀ x xs, pe tok Φ t σ = some (.d x) -> (pes tok Φ ts σ).bind allD = some xs -> x :: xs = ds -> P) : P :=
  bindE h λ rs h1 h2 => bindE h1 λ r e1 h1 => mapE h1 λ rs' e2 h1 => by
    subst h1
    exact bindE h2 λ x hx h2 => mapE h2 λ xs hxs h2 => k x xs (zev hx ▸ e1) (by rw [e2]; exact hxs) h2
theorem zhd {pos : Pos} : ∀ {kt vt : List T}, kt.length = vt.length -> (∀ t ∈ kt, PE C nt Φ A t) -> (∀ t ∈ vt, PE C nt Φ A t) -> ∀ {s : Shared} {V : Addr -> Prop} {ke ve : List Expr} {ks vs : List D}, kEs C.γ nt kt sc ke = true -> kEs C.γ nt vt sc ve = true -> St C A env sc V (pv nt σ) s ->
    (pes C.tok Φ kt σ).bind allD = some ks -> (pes C.tok Φ vt σ).bind allD = some vs -> Runs (model C.prog C.w) A s (evalPairs (pairTrees ((bEs kt ke).map some) (bEs vt ve) env pos)) λ ps s' => PRep C.gv s'.heap V ps (zipD ks vs)
  | [], [], _, _, _, s, V, ke, ve, ks, vs, hk, hv, S, e1, e2 => by
    cases e1
    exact λ Q E hQ => pairTrees_nil_walk (hQ _ _ (za4 s) .nil)
  | [], _ :: _, hl, _, _, _, _, _, _, _, _, _, _, _, _, _ => Nat.noConfusion hl
  | _ :: _, [], hl, _, _, _, _, _, _, _, _, _, _, _, _, _ => Nat.noConfusion hl
  | t :: kt, u :: vt, hl, ih1, ih2, s, V, ke, ve, ks, vs, hk, hv, S, e1, e2 =>
    andE hk λ h1 h2 => andE hv λ h3 h4 => zfi e1 λ x xs a1 a2 e1 => zfi e2 λ y ys b1 b2 e2 => λ Q E hQ =>
      pairTrees_cons_walk (ih1 t (.head _) h1 S a1 _ _ λ kv s₁ k₁ q₁ => ih2 u (.head _) h3 (S.keeps k₁) b1 _ _ λ vv s₂ k₂ q₂ =>
        zhd (Nat.succ.inj hl) (λ e he => ih1 e (.tail _ he)) (λ e he => ih2 e (.tail _ he)) h2 h4 ((S.keeps k₁).keeps k₂) a2 b2 _ _ λ ps s₃ k₃ q₃ =>
          hQ _ _ (zae (zae k₁ k₂) k₃) (by rw [<- e1, <- e2]; exact .cons (Rep.keeps q₁ (zae k₂ k₃).1) (Rep.keeps q₂ k₃.1) q₃))
theorem KRep.mono {gv : String -> Option Value} {V V' : Addr -> Prop} {h h' : Heap} {ps : List (Value × Value)} {K : Type} {is : K -> Value -> Prop} {qs : List (K × D)} (r : KRep is gv h V ps qs) (hm : ∀ {v d}, Rep gv h V v d -> Rep gv h' V' v d) : KRep is gv h' V' ps qs := by
  induction r with
  | nil => exact .nil
  | cons a b _ ih => exact .cons a (hm b) ih
theorem zgs {prog : Program} {w : World} {K : Type} [DecidableEq K] {knd : PySem.KeyKind prog w K} {ps : List (Value × Value)} : ∀ {xs ys : List (K × Value)}, Carries knd ps xs -> Carries knd ps ys -> xs = ys := by
  induction ps with
  | nil =>
    intro xs ys h1 h2
    cases xs with
    | nil => cases ys with
      | nil => rfl
      | cons => exact h2.elim
    | cons => exact h1.elim
  | cons p ps ih =>
    intro xs ys h1 h2
    cases xs with
    | nil => exact h1.elim
    | cons x xs => cases ys with
      | nil => exact h2.elim
      | cons y ys => exact congr (congrArg List.cons (Prod.ext (knd.inj _ _ _ h1.1 h2.1) (h1.2.1.symm.trans h2.2.1))) (ih h1.2.2 h2.2.2)
theorem zjv {K : Type} [DecidableEq K] {knd : PySem.KeyKind C.prog C.w K} (KO : C.Ok) {kt vt : List T} {a b : T} {p ap pos : Pos} {ke ve : List Expr} {ea eb : Expr} {ks vs : List D} {x d : D} {l : List (K × D)} {k : K}
    (hap : (ap.endLine == pos.line) = true) (hl : kt.length = vt.length) (h0 : 0 < kt.length) (h15 : kt.length ≤ 15)
    (ih1 : ∀ t ∈ kt, PE C nt Φ A t) (ih2 : ∀ t ∈ vt, PE C nt Φ A t) (iha : PE C nt Φ A a) (ihb : PE C nt Φ A b)
    (hk : kEs C.γ nt kt sc ke = true) (hv : kEs C.γ nt vt sc ve = true) (ha : kE C.γ nt a sc ea = true) (hb : kE C.γ nt b sc eb = true) (S : St C A env sc V (pv nt σ) s)
    (e1 : (pes C.tok Φ kt σ).bind allD = some ks) (e2 : (pes C.tok Φ vt σ).bind allD = some vs) (e3 : pe C.tok Φ a σ = some (.d x)) (e4 : pe C.tok Φ b σ = some (.d d))
    (hkr : ∀ {h : Heap} {V : Addr -> Prop} {ps : List (Value × Value)}, PRep C.gv h V ps (zipD ks vs) -> KRep (λ k v => knd.is k v = true) C.gv h V ps l) (hx : ∀ {h : Heap} {V : Addr -> Prop} {v : Value}, Rep C.gv h V v x -> knd.is k v = true) :
    Runs (model C.prog C.w) A s (eval (.Call (.Attribute (.Dict ((bEs kt ke).map some) (bEs vt ve) p) "get" ap) [bE a ea, bE b eb] [] pos) env) λ v s' => RepR C.gv s'.heap V v (.d (lastP l k d)) := λ Q E hQ => by
  refine zgl hap (λ _ => rfl) (by decide : 2 < 29) ((zcl ha).trans (congrArg _ (zcl hb))) ?_
  refine wpAny_Dict_walk (knd := knd) (by rw [List.all_map]; exact List.all_eq_true.mpr λ _ _ => rfl) (by rw [List.length_map, zdW, zdW, hl]) (by cases kt with
    | nil => exact absurd h0 (Nat.lt_irrefl 0)
    | cons _ _ => exact List.cons_ne_nil _ _) (by rw [List.length_map, zdW]; exact h15) ?_
  have k₀ : Kp s { s with heap := s.heap.push { cls := .type "dict", data := .dict #[] } } := ⟨zai _ _, Nat.le_refl _⟩
  have hz : ∀ c, c = s.heap.objs.size -> s.heap.get? c = none := λ c hc => by rw [hc]; exact zav _
  have S₀ := S.vol k₀ hz λ c hc => by subst hc; exact ⟨_, Heap.get?_push_size _ rfl⟩
  refine zhd hl ih1 ih2 hk hv S₀ e1 e2 _ _ λ ps s₁ k₁ q₁ => ?_
  have hD : s₁.heap.DictOf knd s.heap.objs.size [] := (Heap.DictOf.new s.heap).at λ o e => zac k₁.1 _ _ e
  obtain ⟨kvs, hc, hlen, hlast⟩ := zeq (hkr q₁)
  refine ⟨kvs, hc, hD, λ h' hm hs pl => ?_⟩
  have hne : (s.heap.objs.size == sysModules) = false := by
    obtain ⟨o, es, ep, hg, _⟩ := KO.g
    have hlt := Heap.lt_size (S.gl _ _ hg).1
    refine beq_eq_false_iff_ne.mpr λ q => ?_
    rw [q] at hlt
    exact absurd hlt (by decide)
  have kk := zae k₀ k₁
  have hcne : ∀ {c o}, s.heap.get? c = some o -> c ≠ s.heap.objs.size := λ e q => gone (q ▸ zav _) e
  have k₂ : Kp s { s₁ with heap := h', toks := s₁.toks + ps.length } := by
    obtain ⟨h₁, t₁, e₁, f₁⟩ := kk.1
    exact ⟨⟨h', s₁.toks + ps.length, by rw [e₁], λ c o e => (hs.2 c (hcne e)).trans (zac kk.1 _ _ e)⟩, Nat.le_trans kk.2 (Nat.le_add_right _ _)⟩
  have hrep : ∀ {v : Value} {y : D}, Rep C.gv s₁.heap (λ c => V c ∨ c = s.heap.objs.size) v y -> Rep C.gv h' V v y := λ r =>
    r.mono λ c o hv e => ⟨(hs.2 c (λ q => hv (.inr q))).trans e, λ h => hv (.inl h)⟩
  have S₂ := S.keeps k₂
  refine getMethod_builtin (s := { s₁ with heap := h', toks := s₁.toks + ps.length }) hm.typeIs F.plainAttrs_dict F.slot_dict_get F.type_dict_get hm.mapOf.noDict ?_
  refine Calls.callWith_builtin zbI ?_
  refine Calls.evalArgs_plain (Calls.spliced_cons (iha ha S₂ e3 _ _ λ av s₃ k₃ q₃ => Calls.spliced_cons (ihb hb (S₂.keeps k₃) e4 _ _ λ bv s₄ k₄ q₄ => Calls.spliced_nil ?_)))
  have k24 := zae k₃ k₄
  have hm₄ : s₄.heap.DictOf knd s.heap.objs.size (merged [] kvs) := hm.at λ o e => zac k24.1 _ _ e
  refine call_meetsIn (s := s₄) PySem.F.slot_dict_get hm₄.typeIs PySem.F.entry_dict_get (PySem.F.args_dict_get_3 _ _ _) (meets_dict_get_default knd _ (hx q₃) hne bv) ⟨_, hm₄.mapOf, ?_⟩
  have kend : Kp s₄ { s₄ with toks := s₄.toks + 1 } := ⟨zah _ _, Nat.le_succ _⟩
  obtain ⟨kvs', hc', _, hlast'⟩ := zeq (KRep.mono (hkr q₁) (λ {v d} r => Rep.keeps (a := { s₁ with heap := h', toks := s₁.toks + ps.length }) (hrep r) k24.1))
  have hlast₂ := hlast' [] k bv d (show Rep C.gv s₄.heap V bv d from q₄)
  rw [zgs hc' hc] at hlast₂
  exact hQ _ _ (zae (zae k₂ k24) kend) hlast₂
theorem zmw {ks vs : List T} {a b : T} (KO : C.Ok) (ih1 : ∀ t ∈ ks, PE C nt Φ A t) (ih2 : ∀ t ∈ vs, PE C nt Φ A t) (iha : PE C nt Φ A a) (ihb : PE C nt Φ A b) : PE C nt Φ A (.dget ks vs a b) := λ {sc e env V σ s r} h S ev =>
  andE h λ hc h => andE hc λ hc hl => andE hc λ hc h15 => andE hc λ hlen h0 => andE h λ hkv hab => andE hkv λ hk hv => andE hab λ ha hb =>
    bindE ev λ kd e1 ev => bindE ev λ vd e2 ev => bindE ev λ x e3 ev => bindE ev λ d e4 ev => mapE ev λ u e5 ev => bindE e3 λ x' e3 hx => bindE e4 λ d' e4 hd => by
      subst ev
      cases zev hx
      cases zev hd
      cases x with
      | str k =>
        refine mapE e5 λ l hl' e5 => ?_
        subst e5
        refine zjv (knd := strKind C.prog C.w) KO hl (eq_of_beq hlen) (Nat.le_of_ble_eq_true h0) (Nat.le_of_ble_eq_true h15) ih1 ih2 iha ihb hk hv ha hb S e1 e2 e3 e4 (λ r => r.key (λ r h => ?_) hl') λ r => ?_
        · obtain ⟨t, rfl⟩ := (zgo h ▸ r).str_inv; exact strKind_is _ _ _ _
        · obtain ⟨t, rfl⟩ := Rep.str_inv r; exact strKind_is _ _ _ _
      | int k =>
        refine mapE e5 λ l hl' e5 => ?_
        subst e5
        refine zjv (knd := intKind C.prog C.w) KO hl (eq_of_beq hlen) (Nat.le_of_ble_eq_true h0) (Nat.le_of_ble_eq_true h15) ih1 ih2 iha ihb hk hv ha hb S e1 e2 e3 e4 (λ r => r.key (λ r h => ?_) hl') λ r => ?_
        · obtain ⟨t, rfl⟩ := (zd8 h ▸ r).int_inv; exact intKind_is _ _ _ _
        · obtain ⟨t, rfl⟩ := Rep.int_inv r; exact intKind_is _ _ _ _
      | _ => exact noE e5
end
section
variable (C : Cx) (nt : List Str) (Φ : String -> List D -> Option D) (A : Around)
noncomputable def PI (t : T) : Prop := ∀ {sc : Names} {e : Expr} {env : Env} {V : Addr -> Prop} {σ : Sg} {s : Shared} {p : Pt} {te : Expr} {items : List D} {fz : Bool}, kI C.γ nt t sc e = true -> St C A env sc V (pv nt σ) s -> pit C.tok Φ fz t p σ = some items -> ∀ {Q E : Value -> Shared -> Prop},
  (∀ iv s₁ s₂, Kp s s₁ -> Itr C.prog C.w A C.gv V (bP p te) (fz = true) items s₁ iv s₂ -> Q iv s₂) -> wpAny (model C.prog C.w) A (eval (bE t e) env) (λ x s₁ => wpAny (model C.prog C.w) A (pyIter x) Q E s₁) E s
end
section
variable {C : Cx} {nt : List Str} {Φ : String -> List D -> Option D} {A : Around}
variable {sc : Names} {env : Env} {V : Addr -> Prop} {σ : Sg} {s : Shared}
theorem znv {p : Pt} {e : Expr} : tgtOk (bP p e) = true := by cases p <;> rfl
theorem zmf {p : Pt} {e : Expr} (h : ¬ isTup p = true) : ∃ y q, bP p e = .Name y q := by
  cases p with
  | nm i => exact ⟨_, _, rfl⟩
  | tp ps => exact absurd rfl h
theorem zo9 {p : Pt} {e : Expr} (h : isTup p = true) : ∃ es k q, bP p e = .Tuple es k q := by
  cases p with
  | nm i => exact ffE h
  | tp ps => exact ⟨_, _, _, rfl⟩
theorem zkC {gv : String -> Option Value} {h : Heap} {v : Value} {ds : List D} (r : Rep gv h V v (.lst ds)) : ∀ a, v = .ref a -> ¬ V a := by
  intro a e
  cases r with | lst h1 => cases e; exact h1
theorem zex {gv : String -> Option Value} {h : Heap} {v : Value} {r : R} {ds : List D} {fz : Bool} (q : RepR gv h V v r) (hi : r.items = some ds) (hfz : ¬ (fz = true /\ r.isOwn = true)) : (LstAt gv h V v ds /\ (fz = true -> ∀ a, v = .ref a -> ¬ V a)) ∨ Rep gv h V v (.tup ds) := by
  cases r with
  | l es => cases hi; exact .inl ⟨q, λ h => absurd ⟨h, rfl⟩ hfz⟩
  | d x =>
    rcases zl4 hi with rfl | rfl
    · exact .inl ⟨Rep.lstAt q, λ _ => zkC q⟩
    · exact .inr q
theorem zkv {p : Pt} {te : Expr} (rm : Rm A) {r : R} {items : List D} {fz : Bool} (hfz : ¬ (fz = true /\ r.isOwn = true)) (hi : ze8 p r = some items) (al : Al V s.heap) {v : Value} (q : RepR C.gv s.heap V v r) {Q E : Value -> Shared -> Prop}
    (hQ : ∀ it s₂, Itr C.prog C.w A C.gv V (bP p te) (fz = true) items s it s₂ -> Q it s₂) : wpAny (model C.prog C.w) A (pyIter v) Q E s := by
  unfold ze8 at hi
  cases h : r.items with
  | some ds =>
    rw [h] at hi
    cases hi
    exact (zex q h hfz).elim (λ x => zkX rm al znv x.1 x.2 hQ) λ x => zjE rm al znv x hQ
  | none =>
    rw [h] at hi
    refine iteE hi (λ _ hi => noE hi) λ hn hi => mapE hi λ x hx hi => ?_
    subst hi
    obtain ⟨u, rfl⟩ := q.vS hx
    exact zka rm al (zmf hn) hQ
theorem zpo {a : T} (rm : Rm A) (ih : PE C nt Φ A a) : PI C nt Φ A (.pln a) := λ {sc e env V σ s p te items fz} h S ev {Q E} hQ =>
  bindE ev λ r e1 ev => iteE ev (λ _ ev => noE ev) λ hn ev => ih h S e1 _ _ λ v s₁ k₁ q₁ => zkv rm hn ev (S.keeps k₁).al q₁ λ iv s₂ h => hQ iv s₁ s₂ k₁ h
theorem zdM {x ty : String} {f : Str} {fp pos : Pos} {es : List Expr} (K : C.Ok) (ht : C.gv x = some (.type ty)) (h : kG C.γ sc f (.fn x) = true) (S : St C A env sc V (pv nt σ) s) (hs : starEach es env = es.map λ e => (false, eval e env)) {Q E : Value -> Shared -> Prop}
    (hQ : ∀ s₁, Kp s s₁ -> wpAny (model C.prog C.w) A (evalArgs (.type ty) true (es.map λ e => (false, eval e env)) []) (λ a s₂ => wpAny (model C.prog C.w) A (call (.type ty) a.pos a.kw) Q E s₂) E s₁) : wpAny (model C.prog C.w) A (eval (.Call (.Name f fp) es [] pos) env) Q E s := by
  refine wpAny_Call_ofName (ziO K h S _ _ λ fv s₁ k₁ q₁ => ?_)
  rw [q₁.fn_inv] at ht
  cases ht
  show wpAny _ _ (callWith pos (.type ty) [] (backTo pos (starEach es env)) []) _ _ _
  have hbk : backTo pos (starEach es env) = es.map λ e => (false, eval e env) := by
    rw [hs]
    unfold backTo
    rw [List.map_map]; rfl
  rw [hbk]
  exact PySem.callWith_type zbI (hQ s₁ k₁)
theorem zjS {p : Pt} {te : Expr} {a b : Int} {r : Addr} {u v w' : Tok} {items : List D} {fz : Bool} {s₂ : Shared} (rm : Rm A) (al : Al V s.heap) (k : Kp s s₂) (x : IsRange s₂.heap r a b 1 u v w') (h : rngP a b = some items) {Q E : Value -> Shared -> Prop}
    (hQ : ∀ iv s₁ s₂, Kp s s₁ -> Itr C.prog C.w A C.gv V (bP p te) (fz = true) items s₁ iv s₂ -> Q iv s₂) : wpAny (model C.prog C.w) A (pyIter (.ref r)) Q E s₂ :=
  ifE h λ hs h => zjW rm (al.keeps k.1) znv x hs.1 hs.2 λ iv s₃ q => hQ iv s₂ s₃ k (h ▸ q)
theorem zmE {b : T} (K : C.Ok) (O : C.Obj) (rm : Rm A) (ih : PE C nt Φ A b) : PI C nt Φ A (.rng1 b) := λ {sc e env V σ s p te items fz} h S ev {Q E} hQ =>
  andE h λ hg hb => bindE ev λ n e1 ev => onE e1 λ d e1 hd => zdM K O.rng hg S (zcl hb) λ s₁ k₁ =>
    Calls.evalArgs_plain (Calls.spliced_cons (ih hb (S.keeps k₁) e1 _ _ λ v s₂ k₂ q₂ => Calls.spliced_nil (by
      obtain ⟨u, rfl⟩ := (zd8 hd ▸ q₂ : Rep C.gv s₂.heap V v (.int n)).int_inv
      exact call_range_1 (zjS rm S.al (zae (zae k₁ k₂) ⟨zaW (zai _ _) (zah _ _), Nat.le_add_right _ 2⟩) (IsRange.new ..) ev hQ))))
theorem zpg {a b : T} (K : C.Ok) (O : C.Obj) (rm : Rm A) (iha : PE C nt Φ A a) (ihb : PE C nt Φ A b) : PI C nt Φ A (.rng a b) := λ {sc e env V σ s p te items fz} h S ev {Q E} hQ =>
  andE h λ hg h => andE h λ ha hb => bindE ev λ m e1 ev => bindE ev λ n e2 ev => onE e1 λ d e1 hd => onE e2 λ d' e2 hd' => zdM K O.rng hg S ((zcl ha).trans (congrArg _ (zcl hb))) λ s₁ k₁ =>
    Calls.evalArgs_plain (Calls.spliced_cons (iha ha (S.keeps k₁) e1 _ _ λ v s₂ k₂ q₂ => Calls.spliced_cons (ihb hb ((S.keeps k₁).keeps k₂) e2 _ _ λ v' s₃ k₃ q₃ => Calls.spliced_nil (by
      obtain ⟨u, rfl⟩ := (zd8 hd ▸ q₂ : Rep C.gv s₂.heap V v (.int m)).int_inv
      obtain ⟨u', rfl⟩ := (zd8 hd' ▸ q₃ : Rep C.gv s₃.heap V v' (.int n)).int_inv
      exact call_range_2 (zjS rm S.al (zae (zae (zae k₁ k₂) k₃) ⟨zaW (zai _ _) (zah _ _), Nat.le_add_right _ _⟩) (IsRange.new ..) ev hQ)))))
theorem zpn {a : T} (K : C.Ok) (O : C.Obj) (rm : Rm A) (ih : PE C nt Φ A a) : PI C nt Φ A (.enm a) := λ {sc e env V σ s p te items fz} h S ev {Q E} hQ =>
  andE h λ hg ha => iteE ev (λ htup ev => bindE ev λ r e1 ev => iteE ev (λ _ ev => noE ev) λ hn ev => mapE ev λ ds hds ev => by
    subst ev
    obtain ⟨es, kk, q, hte⟩ := zo9 (e := te) htup
    rw [hte] at hQ
    refine zdM K O.enm hg S (zcl ha) λ s₁ k₁ => Calls.evalArgs_plain (Calls.spliced_cons (ih ha (S.keeps k₁) e1 _ _ λ v s₂ k₂ q₂ => Calls.spliced_nil ?_))
    have k12 := zae k₁ k₂
    have fin := λ iv s₃ h => hQ iv s₂ s₃ k12 h
    exact (zex q₂ hds hn).elim (λ x => zf0 rm (S.keeps k12).al x.1 x.2 fin) λ x => zgd rm (S.keeps k12).al x fin) λ _ ev => noE ev
end
section
variable {C : Cx} {nt : List Str} {Φ : String -> List D -> Option D} {A : Around}
variable {sc : Names} {env : Env} {V : Addr -> Prop} {σ : Sg} {s : Shared}
theorem zbG (f : Str × NameKind -> List (Str × Addr) -> Sem (ForInStep (List (Str × Addr))))
    (hf : ∀ name kind cs, f (name, kind) cs = if kind == .free then (do let a <- cellOf env name; pure (.yield ((name, a) :: cs))) else pure (.yield cs)) :
    ∀ (names : Names) (acc : List (Str × Addr)), (∀ p ∈ names, p.2 = .free -> ∃ c, env.cells.lookup p.1 = some c) -> (∀ x c, acc.lookup x = some c -> env.cells.lookup x = some c) ->
      ∃ cl, forIn names acc f = pure cl /\ (∀ x c, cl.lookup x = some c -> env.cells.lookup x = some c) /\ (∀ p ∈ names, p.2 = .free -> (cl.lookup p.1).isSome = true) /\ (∀ x, (acc.lookup x).isSome = true -> (cl.lookup x).isSome = true)
  | [], acc, _, ha => ⟨acc, (by rw [List.forIn_nil]), ha, (λ p hp => nomatch hp), λ x h => h⟩
  | (n, k) :: r, acc, h, ha => by
    rw [List.forIn_cons, hf]
    by_cases hk : k = .free
    · subst hk
      obtain ⟨c, hc⟩ := h (n, .free) (.head _) rfl
      obtain ⟨cl, e1, e2, e3, e4⟩ := zbG f hf r ((n, c) :: acc) (λ p hp => h p (.tail _ hp)) λ x c' hx => by
        rw [List.lookup_cons] at hx
        cases hb : x == n with
        | true => rw [hb] at hx; cases hx; rw [beq_iff_eq.mp hb]; exact hc
        | false => rw [hb] at hx; exact ha x c' hx
      have hself : (cl.lookup n).isSome = true := e4 n (by rw [List.lookup_cons]; simp)
      refine ⟨cl, ?_, e2, λ p hp hf' => ?_, λ x hx => e4 x ?_⟩
      · rw [if_pos (by rfl)]
        unfold cellOf
        rw [hc]
        simp only [pure_bind]
        exact e1
      · cases hp with
        | head => exact hself
        | tail _ hp => exact e3 p hp hf'
      · rw [List.lookup_cons]
        cases hb : x == n with
        | true => rfl
        | false => exact hx
    · obtain ⟨cl, e1, e2, e3, e4⟩ := zbG f hf r acc (λ p hp => h p (.tail _ hp)) ha
      refine ⟨cl, ?_, e2, λ p hp hf' => ?_, e4⟩
      · rw [if_neg (by simpa using hk)]
        simp only [pure_bind]
        exact e1
      · cases hp with
        | head => exact absurd hf' hk
        | tail _ hp => exact e3 p hp hf'
theorem zii {scope : Scope} (h : ∀ p ∈ scope.names, p.2 = .free -> ∃ c, env.cells.lookup p.1 = some c) :
    ∃ cl, closureFor scope env = pure cl /\ (∀ x c, cl.lookup x = some c -> env.cells.lookup x = some c) /\ (∀ p ∈ scope.names, p.2 = .free -> (cl.lookup p.1).isSome = true) := by
  simp only [closureFor]
  obtain ⟨cl, e1, e2, e3, _⟩ := zbG (env := env) (λ x __s => if (x.snd == NameKind.free) = true then do
                  let __do_lift <- cellOf env x.fst
                  pure (ForInStep.yield ((x.fst, __do_lift) :: __s))
                else pure (ForInStep.yield __s)) (λ name kind cs => rfl) scope.names [] h (λ x c hx => by cases hx)
  refine ⟨cl, ?_, e2, e3⟩
  rw [e1]; simp
theorem zaH : ∀ (names : Names) (k : Nat) (acc : List (Str × Addr)), cellsFrom k names acc = cellsFrom k names [] ++ acc
  | [], k, acc => rfl
  | (n, kind) :: r, k, acc => by
    unfold cellsFrom
    split
    · rw [zaH r (k + 1) ((n, k) :: acc), zaH r (k + 1) [(n, k)], List.append_assoc]; rfl
    · exact zaH r k acc
theorem zb9 {α : Type} : ∀ {a b : List (Str × α)} {x : Str}, (a ++ b).lookup x = match a.lookup x with | some c => some c | none => b.lookup x
  | [], b, x => rfl
  | (n, c) :: a, b, x => by
    rw [List.cons_append, List.lookup_cons, List.lookup_cons]
    cases x == n with
    | true => rfl
    | false => exact zb9
theorem zbg : ∀ (names : Names) (k : Nat) (x : Str) (c : Addr), (x, c) ∈ cellsFrom k names [] -> ∃ kd, (x, kd) ∈ names /\ kd = .cell
  | [], k, x, c, h => by cases h
  | (n, kind) :: r, k, x, c, h => by
    unfold cellsFrom at h
    split at h
    · rename_i hk
      rw [zaH, List.mem_append] at h
      rcases h with h | h
      · obtain ⟨kd, h1, h2⟩ := zbg r _ x c h; exact ⟨kd, .tail _ h1, h2⟩
      · rw [List.mem_singleton] at h; cases h; exact ⟨kind, .head _, by simpa using hk⟩
    · obtain ⟨kd, h1, h2⟩ := zbg r _ x c h; exact ⟨kd, .tail _ h1, h2⟩
theorem zaE : ∀ (names : Names) (k : Nat) (x : Str), (x, .cell) ∈ names -> ∃ c, (cellsFrom k names []).lookup x = some c
  | [], k, x, h => by cases h
  | (n, kind) :: r, k, x, h => by
    unfold cellsFrom
    by_cases hr : (x, .cell) ∈ r
    · split
      · obtain ⟨c, hc⟩ := zaE r (k + 1) x hr
        exact ⟨c, by rw [zaH, zb9, hc]⟩
      · exact zaE r k x hr
    · cases h with
      | tail _ h => exact absurd h hr
      | head =>
        rw [if_pos (by rfl), zaH, zb9]
        cases hq : (cellsFrom (k + 1) r []).lookup n with
        | some c => exact ⟨c, rfl⟩
        | none => exact ⟨k, by show List.lookup n [(n, k)] = some k; rw [List.lookup_cons, beq_self_eq_true]⟩
theorem zck {scope : Scope} {x : Str} : (relabel scope env).names.lookup x = (scope.names.lookup x).map λ k => if (k == .free && env.scope.kind == .function && env.kindOf x == some .cell) = true then .cell else k := by
  unfold relabel
  dsimp only
  induction scope.names with
  | nil => rfl
  | cons p r ih =>
    obtain ⟨n, k⟩ := p
    rw [List.map_cons, List.lookup_cons]
    cases hb : x == n with
    | true =>
      have := beq_iff_eq.mp hb
      subst this
      dsimp only
      by_cases hc : (k == .free && env.scope.kind == .function && env.kindOf x == some .cell) = true
      · rw [if_pos hc, List.lookup_cons, hb]
        show some NameKind.cell = some (if _ then NameKind.cell else k)
        rw [if_pos hc]
      · rw [if_neg hc, List.lookup_cons, hb]
        show some k = some (if _ then NameKind.cell else k)
        rw [if_neg hc]
    | false =>
      dsimp only
      by_cases hc : (k == .free && env.scope.kind == .function && env.kindOf n == some .cell) = true
      · rw [if_pos hc, List.lookup_cons, hb]; exact ih
      · rw [if_neg hc, List.lookup_cons, hb]; exact ih
theorem zdH {scope : Scope} (h : zc6 sc scope = true) : scope.kind = .function /\ ∀ p ∈ scope.names, scope.names.lookup p.1 = some p.2 /\ (p.2 = .free -> (sc.lookup p.1 = some .cell ∨ sc.lookup p.1 = some .free) /\ (p.1 == ("__classdict__" : Str)) = false) := by
  unfold zc6 at h
  rw [Bool.and_eq_true] at h
  refine ⟨by simpa using h.1, λ p hp => ?_⟩
  have := List.all_eq_true.mp h.2 p hp
  simp only [Bool.and_eq_true, Bool.or_eq_true, beq_iff_eq, bne_iff_ne, ne_eq, Bool.not_eq_true'] at this
  obtain ⟨h1, h2⟩ := this
  refine ⟨h1, λ hf => ?_⟩
  rcases h2 with h2 | h2
  · exact absurd hf h2
  · exact h2
noncomputable def zc7 (scope : Scope) (env : Env) (L : Addr) (cells : List (Str × Addr)) : Env :=
  { scope := relabel scope env, locals := L, globals := env.globals, cells := cells, qual := env.qual, func := none, code := env.code, frame := env.frame, builtins := env.builtins }
noncomputable def NewA (scope : Scope) (L : Nat) (a : Addr) : Prop := a = L ∨ ∃ n, (n, a) ∈ cellsFrom (L + 1) scope.names []
theorem zkT {τ : PEnv} {scope : Scope} (S : St C A env sc V τ s) (hok : zc6 sc scope = true) {cl : List (Str × Addr)} (c1 : ∀ x c, cl.lookup x = some c -> env.cells.lookup x = some c) (c2 : ∀ p ∈ scope.names, p.2 = .free -> (cl.lookup p.1).isSome = true)
    {M : Model} {E : Value -> Shared -> Prop} {Q : Env -> Shared -> Prop}
    (hQ : ∀ cells s' e, ({ e with scope := relabel scope env } : Env) = zc7 scope env s.heap.objs.size cells -> e.locals = s.heap.objs.size -> Kp s s' -> (∀ a, NewA scope s.heap.objs.size a -> s.heap.get? a = none /\ ∃ o, s'.heap.get? a = some o) ->
      Fm (zc7 scope env s.heap.objs.size cells) scope.names (λ a => V a ∨ NewA scope s.heap.objs.size a) s'.heap -> (∀ x c, cl.lookup x = some c -> scope.names.lookup x = some .free -> cells.lookup x = some c) -> (∀ y c, scope.names.lookup y = some .cell -> cells.lookup y = some c -> NewA scope s.heap.objs.size c) -> Q e s') :
    wpAny M A (newFunctionEnv scope env.globals cl [] env.qual none .none (some env)) Q E s := by
  obtain ⟨hk, hn⟩ := zdH hok
  simp only [newFunctionEnv, Option.isSome_some, if_true]
  refine wpAny_bind (wpAny_alloc ?_)
  refine wpAny_bind (wpAny_layCells _ (λ name kind cells => by cases hkc : kind == NameKind.cell <;> simp [hkc]) _ _ _ _ ?_)
  have ok := cellsFrom_ok scope.names (s.heap.push { cls := .type "dict", data := .dict #[] }) (s.heap.objs.size + 1) [] ⟨λ _ _ hm => (nomatch hm), List.Pairwise.nil⟩ (by rw [Heap.size_push]; exact Nat.le_refl _)
  rw [Heap.size_push] at ok
  rw [show ({ s with heap := s.heap.push { cls := .type "dict", data := .dict #[] } } : Shared).heap.objs.size = s.heap.objs.size + 1 from Heap.size_push ..]
  rw [List.forIn_nil]
  refine wpAny_bind (wpAny_pure (wpAny_pure ?_))
  have kp : Kp s { s with heap := pushCells (s.heap.push { cls := .type "dict", data := .dict #[] }) scope.names } := ⟨⟨_, s.toks, rfl, λ b o e => pushCells_keeps _ _ b o (Heap.get?_push_of_some _ e)⟩, Nat.le_refl _⟩
  have hNs : (pushCells (s.heap.push { cls := .type "dict", data := .dict #[] }) scope.names).Ns s.heap.objs.size (λ _ => none) := (Heap.Ns.new s.heap (.type "dict")).keeps (pushCells_keeps _ _)
  have fresh : ∀ a, s.heap.objs.size ≤ a -> s.heap.get? a = none := λ a ha => by
    cases e : s.heap.get? a with
    | none => rfl
    | some o => exact absurd (Heap.lt_size e) (Nat.not_lt.mpr ha)
  have first : ∀ {x c}, (cellsFrom (s.heap.objs.size + 1) scope.names []).lookup x = some c -> scope.names.lookup x = some .cell := λ {x c} h => by
    obtain ⟨kd, h1, rfl⟩ := zbg _ _ _ _ (mem_of_lookup h)
    exact (hn _ h1).1
  have look : ∀ x, (cellsFrom (s.heap.objs.size + 1) scope.names cl).lookup x = match (cellsFrom (s.heap.objs.size + 1) scope.names []).lookup x with | some c => some c | none => cl.lookup x := λ x => by rw [zaH, zb9]; cases (cellsFrom (s.heap.objs.size + 1) scope.names []).lookup x <;> rfl
  refine hQ (cellsFrom (s.heap.objs.size + 1) scope.names cl) _ _ rfl rfl kp ?_ ⟨?_, ?_, ?_, ?_, ?_, ?_, ?_, ?_⟩ ?_ ?_
  · rintro a (rfl | ⟨n, hm⟩)
    · obtain ⟨o, _, _, e, _⟩ := hNs; exact ⟨fresh _ (Nat.le_refl _), o, e⟩
    · have q := ok.empty n a hm
      obtain ⟨o, e, _⟩ := q.1
      exact ⟨fresh _ (Nat.le_trans (Nat.le_succ _) q.2), o, e⟩
  · exact hk
  · intro x k hx
    show (relabel scope env).names.lookup x = some k ∨ _
    rw [zck, hx]
    show (some (if (k == .free && env.scope.kind == .function && env.kindOf x == some .cell) = true then NameKind.cell else k) = some k) ∨ _
    split
    · rename_i hc
      simp only [Bool.and_eq_true, beq_iff_eq] at hc
      right
      refine ⟨hc.1.1, ?_⟩
      show (relabel scope env).names.lookup x = some .cell
      rw [zck, hx]
      simp [hc.1.1, hc.1.2, hc.2]
    · exact .inl rfl
  · exact S.fm.glob
  · exact S.fm.blt
  · exact ⟨_, hNs⟩
  · rintro x (hx | hx)
    · obtain ⟨c, hc⟩ := zaE scope.names (s.heap.objs.size + 1) x (mem_of_lookup hx)
      refine ⟨c, none, ?_, (ok.empty x c (mem_of_lookup hc)).1⟩
      show (cellsFrom (s.heap.objs.size + 1) scope.names cl).lookup x = some c
      rw [look, hc]
    · have hm := mem_of_lookup hx
      have hf := (hn _ hm).2 rfl
      obtain ⟨c, hc⟩ := Option.isSome_iff_exists.mp (c2 _ hm rfl)
      have he := c1 _ _ hc
      obtain ⟨c', v, e1, e2⟩ := S.fm.cel x hf.1
      have : c' = c := by
        have he' : env.cells.lookup x = some c := he
        rw [he'] at e1; cases e1; rfl
      subst this
      refine ⟨c', v, ?_, e2.keeps (zac kp.1)⟩
      show (cellsFrom (s.heap.objs.size + 1) scope.names cl).lookup x = some c'
      rw [look]
      cases hq : (cellsFrom (s.heap.objs.size + 1) scope.names []).lookup x with
      | none => exact hc
      | some c'' => have := first hq; rw [hx] at this; cases this
  · rintro c (rfl | ⟨x, hc⟩)
    · exact .inr (.inl rfl)
    have hc' : (cellsFrom (s.heap.objs.size + 1) scope.names cl).lookup x = some c := hc
    rw [look] at hc'
    cases hq : (cellsFrom (s.heap.objs.size + 1) scope.names []).lookup x with
    | some c'' => rw [hq] at hc'; cases hc'; exact .inr (.inr ⟨x, mem_of_lookup hq⟩)
    | none => rw [hq] at hc'; exact .inl (S.fm.fr c (.inr ⟨x, c1 x c hc'⟩))
  · intro x y c hx hy
    have hx' : (cellsFrom (s.heap.objs.size + 1) scope.names cl).lookup x = some c := hx
    have hy' : (cellsFrom (s.heap.objs.size + 1) scope.names cl).lookup y = some c := hy
    rw [look] at hx' hy'
    have old : ∀ {x c}, cl.lookup x = some c -> c < s.heap.objs.size := λ {x c} h => by
      obtain ⟨o, e⟩ := S.al c (S.fm.fr c (.inr ⟨x, c1 x c h⟩))
      exact Heap.lt_size e
    cases hq : (cellsFrom (s.heap.objs.size + 1) scope.names []).lookup x with
    | some c' =>
      rw [hq] at hx'; cases hx'
      cases hr : (cellsFrom (s.heap.objs.size + 1) scope.names []).lookup y with
      | some c'' => rw [hr] at hy'; cases hy'; exact name_of_addr ok.apart (mem_of_lookup hq) (mem_of_lookup hr)
      | none =>
        rw [hr] at hy'
        exact absurd (old hy') (Nat.not_lt.mpr (Nat.le_of_succ_le (ok.empty x c (mem_of_lookup hq)).2))
    | none =>
      rw [hq] at hx'
      cases hr : (cellsFrom (s.heap.objs.size + 1) scope.names []).lookup y with
      | some c'' =>
        rw [hr] at hy'; cases hy'
        exact absurd (old hx') (Nat.not_lt.mpr (Nat.le_of_succ_le (ok.empty y c (mem_of_lookup hr)).2))
      | none => rw [hr] at hy'; exact S.fm.inj x y c (c1 x c hx') (c1 y c hy')
  · intro x c hc hx
    rw [look]
    cases hq : (cellsFrom (s.heap.objs.size + 1) scope.names []).lookup x with
    | none => exact hc
    | some c'' => have := first hq; rw [hx] at this; cases this
  · intro y c hy hc
    obtain ⟨c', hc'⟩ := zaE scope.names (s.heap.objs.size + 1) y (mem_of_lookup hy)
    rw [look, hc'] at hc
    cases hc
    exact .inr ⟨y, mem_of_lookup hc'⟩
end
section
variable {C : Cx} {nt : List Str} {Φ : String -> List D -> Option D} {A : Around}
variable {sc : Names} {env : Env} {V : Addr -> Prop}
mutual
theorem ziW : ∀ {p : Pt} {d : D} {σ τ : Sg}, pb p d σ = some τ -> ∀ i, i ∉ ixP p -> τ.lookup i = σ.lookup i
  | .nm x, d, σ, τ, h, i, hi => by
    cases h
    rw [List.lookup_cons, beq_eq_false_iff_ne.mpr λ q => hi (List.mem_singleton.mpr q)]
  | .tp ps, d, σ, τ, h, i, hi => bindE h λ ds _ h => zjK h i hi
theorem zjK : ∀ {ps : List Pt} {ds : List D} {σ τ : Sg}, pbs ps ds σ = some τ -> ∀ i, i ∉ ixPs ps -> τ.lookup i = σ.lookup i
  | [], ds, σ, τ, h, i, hi => ifE h λ _ h => by rw [h]
  | p :: ps, ds, σ, τ, h, i, hi => bindE h λ d _ h => bindE h λ σ₁ e1 e2 =>
    (zjK e2 i λ q => hi (List.mem_append_right _ q)).trans (ziW e1 i λ q => hi (List.mem_append_left _ q))
end
mutual
theorem zoG : ∀ {p : Pt} {d : D} {σ τ : Sg}, pb p d σ = some τ -> ∀ i ds, τ.lookup i = some (.own ds) -> σ.lookup i = some (.own ds)
  | .nm x, d, σ, τ, h, i, ds, hb => by
    cases h
    rw [List.lookup_cons] at hb
    cases hq : i == x with
    | true => rw [hq] at hb; cases hb
    | false => rw [hq] at hb; exact hb
  | .tp ps, d, σ, τ, h, i, ds, hb => bindE h λ es _ h => zjh h i ds hb
theorem zjh : ∀ {ps : List Pt} {es : List D} {σ τ : Sg}, pbs ps es σ = some τ -> ∀ i ds, τ.lookup i = some (.own ds) -> σ.lookup i = some (.own ds)
  | [], es, σ, τ, h, i, ds, hb => ifE h λ _ h => by rw [h]; exact hb
  | p :: ps, es, σ, τ, h, i, ds, hb => bindE h λ d _ h => bindE h λ σ₁ e1 e2 => zoG e1 i ds (zjh e2 i ds hb)
end
theorem zky : ∀ {ps : List Pt} {ds : List D} {σ τ : Sg}, pbs ps ds σ = some τ -> ps.length = ds.length
  | [], ds, σ, τ, h => ifE h λ h _ => by rw [List.isEmpty_iff.mp h]; rfl
  | p :: ps, [], σ, τ, h => noE h
  | p :: ps, d :: ds, σ, τ, h => bindE (show (pb p d σ).bind (pbs ps ds) = some τ from h) λ σ₁ _ e2 => congrArg Nat.succ (zky e2)
theorem zfU : ∀ {ps : List Pt} {es : List Expr}, assignEach (bPs ps es) env = (bPs ps es).map λ e => (false, assign e env)
  | [], _ => rfl
  | .nm _ :: ps, es => congrArg _ (zfU (ps := ps))
  | .tp _ :: ps, es => congrArg _ (zfU (ps := ps))
theorem zkf : ∀ {ps : List Pt} {es : List Expr}, (bPs ps es).length = ps.length
  | [], _ => rfl
  | _ :: ps, es => congrArg Nat.succ (zkf (ps := ps))
structure Put (C : Cx) (A : Around) (env : Env) (sc : Names) (V W : Addr -> Prop) (I : PEnv -> Shared -> Prop) : Prop where
  keep : ∀ {τ s s'}, I τ s -> Kp s s' -> I τ s'
  put : ∀ {τ : PEnv} {s : Shared} {x : Str} {v : Value} {d : D} {Q : Unit -> Shared -> Prop} {E : Value -> Shared -> Prop}, I τ s -> locOk sc x = true -> Rep C.gv s.heap V v d ->
    (∀ s', Mv W s s' -> I (set τ x (.fz d)) s' -> (∀ u e, Rep C.gv s.heap V u e -> Rep C.gv s'.heap V u e) -> Q () s') -> wpAny (model C.prog C.w) A (storeName env x v) Q E s
variable {W : Addr -> Prop} {I : PEnv -> Shared -> Prop}
theorem zgK {h h' : Heap} {gv : String -> Option Value} (b : ∀ u e, Rep gv h V u e -> Rep gv h' V u e) : ∀ {vs : List Value} {ds : List D}, RepAll gv h V vs ds -> RepAll gv h' V vs ds
  | _, _, .nil => .nil
  | _, _, .cons r q => .cons (b _ _ r) (zgK b q)
mutual
theorem bindP (rm : Rm A) (H : Put C A env sc V W I) : ∀ (p : Pt) {e : Expr} {σ σ' : Sg} {s : Shared} {v : Value} {d : D} {Q : Unit -> Shared -> Prop} {E : Value -> Shared -> Prop}, I (pv nt σ) s -> kP nt p sc e = true -> Rep C.gv s.heap V v d -> pb p d σ = some σ' ->
    (∀ s', Mv W s s' -> I (pv nt σ') s' -> (∀ u e, Rep C.gv s.heap V u e -> Rep C.gv s'.heap V u e) -> Q () s') -> wpAny (model C.prog C.w) A (assign (bP p e) env v) Q E s
  | .nm i, e, σ, σ', s, v, d, Q, E, P, hk, r, hb, hQ => andE hk λ h1 h2 => by
    cases hb
    exact wpAny_assign_Name (H.put P h1 r λ s' m P' b => hQ s' m (by rw [zbB (eq_of_beq h2)]; exact P') b)
  | .tp ps, e, σ, σ', s, v, d, Q, E, P, hk, r, hb, hQ => bindE hb λ ds hd hb => by
    obtain ⟨t, vs, rfl, ht, rs⟩ := (zp8 hd ▸ r).tupAt
    refine wpAny_assign_Tuple rm.handled ht (by rw [zfU, List.length_map, zkf, zky hb, <- rs.length, Array.length_toList]) (by rw [zfU]; simp [List.findIdx?_eq_none_iff]) λ h' hx => ?_
    have k : Kp s { s with heap := h' } := ⟨⟨h', s.toks, rfl, λ b o e => hx b o (Nat.ne_of_lt (Heap.lt_size e)) e⟩, Nat.le_refl _⟩
    rw [zfU, List.map_map]
    exact zlS rm H ps (H.keep P k) hk (rs.keeps k.1) hb λ s₂ m₂ P₂ b => hQ s₂ (k.mv.trans m₂) P₂ λ u c q => b u c (Rep.keeps q k.1)
theorem zlS (rm : Rm A) (H : Put C A env sc V W I) : ∀ (ps : List Pt) {es : List Expr} {σ σ' : Sg} {s : Shared} {vs : List Value} {ds : List D} {Q : Unit -> Shared -> Prop} {E : Value -> Shared -> Prop}, I (pv nt σ) s -> kPs nt ps sc es = true -> RepAll C.gv s.heap V vs ds -> pbs ps ds σ = some σ' ->
    (∀ s', Mv W s s' -> I (pv nt σ') s' -> (∀ u e, Rep C.gv s.heap V u e -> Rep C.gv s'.heap V u e) -> Q () s') -> wpAny (model C.prog C.w) A (assignInOrder ((bPs ps es).map λ e => assign e env) vs) Q E s
  | [], es, σ, σ', s, vs, ds, Q, E, P, hk, r, hb, hQ => ifE hb λ h1 h2 => by
    rw [List.isEmpty_iff.mp h1] at r
    cases r
    exact wpAny_pure (hQ s (Mv.refl s) (h2 ▸ P) λ u c q => q)
  | p :: ps, es, σ, σ', s, vs, [], Q, E, P, hk, r, hb, hQ => noE hb
  | p :: ps, es, σ, σ', s, vs, d :: ds, Q, E, P, hk, r, hb, hQ => andE hk λ h1 h2 => bindE (show (pb p d σ).bind (pbs ps ds) = some σ' from hb) λ σ₁ e1 e2 => by
    cases r with
    | cons r rs =>
      show wpAny _ _ (do holding _ (assign (bP p (hd es)) env _); assignInOrder ((bPs ps es.tail).map λ e => assign e env) _) Q E s
      exact wpAny_bind (wpAny_holding (bindP rm H p P h1 r e1 λ s₁ m₁ P₁ b₁ =>
        zlS rm H ps P₁ h2 (zgK b₁ rs) e2 λ s₂ m₂ P₂ b₂ => hQ s₂ (m₁.trans m₂) P₂ λ u c q => b₂ u c (b₁ u c q)))
end
end
structure MvE (N Z : Addr -> Prop) (s s' : Shared) : Prop where
  same : ∃ h' tk, s' = { s with heap := h', toks := tk }
  toks : s.toks ≤ s'.toks
  chg : ∀ a o, ¬ N a -> ¬ Z a -> s.heap.get? a = some o -> s'.heap.get? a = some o
  live : ∀ a o, ¬ Z a -> s.heap.get? a = some o -> ∃ o', s'.heap.get? a = some o'
theorem Mv.e {N Z : Addr -> Prop} {s s' : Shared} (m : Mv N s s') : MvE N Z s s' := ⟨m.same, m.toks, λ a o n _ e => m.chg a o n e, λ a o _ e => m.live a o e⟩
theorem Mv.ez {N Z : Addr -> Prop} {s s' : Shared} (m : Mv Z s s') : MvE N Z s s' := ⟨m.same, m.toks, λ a o _ z e => m.chg a o z e, λ a o _ e => m.live a o e⟩
theorem MvD.ez {N Z : Addr -> Prop} {s s' : Shared} (m : MvD Z s s') : MvE N Z s s' := ⟨m.same, m.toks, λ a o _ z e => m.chg a o z e, λ a o z e => ⟨o, m.chg a o z e⟩⟩
theorem MvE.trans {N Z : Addr -> Prop} {a b c : Shared} (x : MvE N Z a b) (y : MvE N Z b c) : MvE N Z a c := by
  obtain ⟨⟨h1, t1, rfl⟩, x2, x3, x4⟩ := x
  obtain ⟨⟨h2, t2, rfl⟩, y2, y3, y4⟩ := y
  exact ⟨⟨h2, t2, rfl⟩, Nat.le_trans x2 y2, λ a o n z e => y3 a o n z (x3 a o n z e), λ a o z e => let ⟨o', e'⟩ := x4 a o z e; y4 a o' z e'⟩
theorem MvE.fresh {N Z : Addr -> Prop} {s s₁ s' : Shared} (k : Kp s s₁) (m : MvE N Z s₁ s') (hz : ∀ a, Z a -> s.heap.get? a = none) : Mv N s s' := by
  obtain ⟨⟨h1, t1, rfl, k1⟩, k2⟩ := k
  obtain ⟨⟨h2, t2, rfl⟩, y2, y3, y4⟩ := m
  have nz : ∀ a o, s.heap.get? a = some o -> ¬ Z a := λ a o e z => gone (hz a z) e
  exact ⟨⟨h2, t2, rfl⟩, Nat.le_trans k2 y2, λ a o n e => y3 a o n (nz a o e) (k1 a o e), λ a o e => y4 a o (nz a o e) (k1 a o e)⟩
noncomputable def OwnAt (env : Env) (N : Addr -> Prop) (D : Addr) (τ : PEnv) (h : Heap) : Prop := ∀ x ds, τ x = some (.own ds) -> ∃ c l, env.cells.lookup x = some c /\ env.kindOf x ≠ some .local /\ h.IsCell c (some (.ref l)) /\ l ≠ D /\ ¬ N c
theorem OwnAt.move {env : Env} {N : Addr -> Prop} {D : Addr} {τ : PEnv} {h h' : Heap} (o : OwnAt env N D τ h) (e : ∀ c, ¬ N c -> (∃ x, env.cells.lookup x = some c) -> ∀ o, h.get? c = some o -> h'.get? c = some o) : OwnAt env N D τ h' := λ x ds hx => by
  obtain ⟨c, l, h1, h2, h3, h4, h5⟩ := o x ds hx
  exact ⟨c, l, h1, h2, zbz h3 λ o q => e c h5 ⟨x, h1⟩ o q, h4, h5⟩
theorem OwnAt.look {env : Env} {N : Addr -> Prop} {D : Addr} {τ : PEnv} {h : Heap} (o : OwnAt env N D τ h) {x : Str} {ds : List Mine.D} (hx : τ x = some (.own ds)) {l : Addr} (hl : Look h env x (.ref l)) : l ≠ D := by
  obtain ⟨c, l', h1, h2, h3, h4, h5⟩ := o x ds hx
  have := zaw hl (.cel (by
    cases hl with
    | loc a _ _ => exact absurd a h2
    | cel a b _ => exact a) h1 h3)
  cases this; exact h4
section
variable {C : Cx} {nt : List Str} {Φ : String -> List D -> Option D} {A : Around}
variable {sc : Names} {env : Env}
structure LI (C : Cx) (A : Around) (env : Env) (sc : Names) (N : Addr -> Prop) (D : Addr) (V : Addr -> Prop) (ys : List Mine.D) (τ : PEnv) (s : Shared) : Prop where
  st : St C A env sc V τ s
  out : ∃ vs, PlainL s.heap D vs /\ RepAll C.gv s.heap V vs.toList ys
  own : OwnAt env N D τ s.heap
structure Fx (env : Env) (sc : Names) (N : Addr -> Prop) (D : Addr) : Prop where
  d : N D
  wr : ∀ a, Wr env sc a -> N a
  nd : ¬ Fr env D
variable {N : Addr -> Prop} {D : Addr} {V : Addr -> Prop} {τ : PEnv} {s : Shared} {ys : List Mine.D}
theorem LI.at {V' : Addr -> Prop} {s' : Shared} (L : LI C A env sc N D V ys τ s) (up : Up V V' s.heap s'.heap) (hfr : ∀ a, Fr env a -> V' a /\ ∀ o, s.heap.get? a = some o -> s'.heap.get? a = some o)
    (hl : ∀ l vs, s.heap.IsList l vs -> ∀ o, s.heap.get? l = some o -> s'.heap.get? l = some o) (al : Al V' s'.heap) (ht : s.toks ≤ s'.toks) : LI C A env sc N D V' ys τ s' :=
  ⟨L.st.move up hfr (λ x ds hx l lk => by
      obtain ⟨v, q1, l', vs, rfl, p, _⟩ := L.st.ev x _ hx
      cases zaw lk q1
      exact hl l vs p.isList) al ht,
    let ⟨vs, p, r⟩ := L.out; ⟨vs, zcG p (hl D vs p.isList), r.mono up⟩, L.own.move λ c _ ⟨x, h⟩ => (hfr c (.inr ⟨x, h⟩)).2⟩
theorem LI.keeps {s' : Shared} (L : LI C A env sc N D V ys τ s) (k : Kp s s') : LI C A env sc N D V ys τ s' :=
  L.at (zdp k.1) (λ a h => ⟨L.st.fm.fr a h, λ _ e => zac k.1 _ _ e⟩) (λ _ _ _ _ e => zac k.1 _ _ e) (L.st.al.keeps k.1) k.2
theorem LI.vol {Z : Addr -> Prop} {s' : Shared} (L : LI C A env sc N D V ys τ s) (k : Kp s s') (hz : ∀ a, Z a -> s.heap.get? a = none) (hl : ∀ a, Z a -> ∃ o, s'.heap.get? a = some o) : LI C A env sc N D (λ a => V a ∨ Z a) ys τ s' :=
  L.at (zbu k.1 hz) (λ a h => ⟨.inl (L.st.fm.fr a h), λ _ e => zac k.1 _ _ e⟩) (λ _ _ _ _ e => zac k.1 _ _ e) (λ a h => h.elim (L.st.al.keeps k.1 a) (hl a)) k.2
theorem LI.move {Z V' : Addr -> Prop} {s' : Shared} (L : LI C A env sc N D V ys τ s) (hz : ∀ a, Z a -> V a) (hv : ∀ a, V' a -> V a) (hfr : ∀ a, Fr env a -> V' a /\ ¬ Z a)
    (nl : ∀ a vs, Z a -> ¬ Heap.IsList s.heap a vs) (hch : ∀ a o, ¬ Z a -> s.heap.get? a = some o -> s'.heap.get? a = some o) (al : Al V' s'.heap) (ht : s.toks ≤ s'.toks) : LI C A env sc N D V' ys τ s' :=
  L.at (λ a o n e => ⟨hch a o (λ z => n (hz a z)) e, λ h => n (hv a h)⟩) (λ a h => ⟨(hfr a h).1, λ o => hch a o (hfr a h).2⟩) (λ l vs h o => hch l o λ z => nl l vs z h) al ht
theorem LI.weak {τ' : PEnv} (L : LI C A env sc N D V ys τ s) (h : ∀ x b, τ' x = some b -> τ x = some b) : LI C A env sc N D V ys τ' s := ⟨L.st.weak h, L.out, λ x ds hx => L.own x ds (h x _ hx)⟩
theorem LI.store (X : Fx env sc N D) (hNV : ∀ a, N a -> V a) : Put C A env sc V N (LI C A env sc N D V ys) where
  keep := λ L k => L.keeps k
  put := λ {τ s x v d Q E} L hx r hQ => zgf (b := .fz d) L.st hx r λ s' m S' _ _ bv => by
    have mN : Mv N s s' := m.mono X.wr
    have hch : ∀ a o, ¬ Wr env sc a -> s.heap.get? a = some o -> s'.heap.get? a = some o := m.chg
    have nW : ∀ l vs, s.heap.IsList l vs -> ¬ Wr env sc l := λ l vs hl w => w.elim (L.st.fm.notFr hl).1 λ ⟨y, h1, h2⟩ => (L.st.fm.notFr hl).2 y (.inl h1) h2
    obtain ⟨vs, p, ra⟩ := L.out
    refine hQ s' mN ⟨S', ⟨vs, zcG p λ o => hch D o (nW D vs p.isList), zgK (λ u e => bv u (.fz e)) ra⟩, λ y ds hy => ?_⟩ λ u e => bv u (.fz e)
    have hy' : τ y = some (.own ds) := by
      by_cases e : y = x
      · rw [set, if_pos e] at hy; cases hy
      · rw [set, if_neg e] at hy; exact hy
    obtain ⟨c, l, h1, h2, h3, h4, h5⟩ := L.own y ds hy'
    exact ⟨c, l, h1, h2, zbz h3 λ o => mN.chg c o h5, h4, h5⟩
theorem LI.append {v : Value} {d : Mine.D} (X : Fx env sc N D) (hNV : ∀ a, N a -> V a) (L : LI C A env sc N D V ys τ s) (r : Rep C.gv s.heap V v d) (hsz : ys.length + 1 ≤ 2 ^ 20) {Q : Value -> Shared -> Prop} {E : Value -> Shared -> Prop}
    (hQ : ∀ u s', Mv N s s' -> LI C A env sc N D V (ys ++ [d]) τ s' -> Q u s') : wpAny (model C.prog C.w) A (call (.builtin "list.append") [.ref D, v]) Q E s := by
  obtain ⟨vs, pl, ra⟩ := L.out
  have len := ra.length
  rw [Array.length_toList] at len
  refine list_append_plainL pl (λ h' pl' hs => ?_) (by rw [sizeLine_eq]; lia)
  have hch : ∀ a o, a ≠ D -> s.heap.get? a = some o -> h'.get? a = some o := λ a o na e => (hs.2 a na).trans e
  have up : Up V V s.heap h' := λ a o n e => ⟨hch a o (λ z => n (z ▸ hNV _ X.d)) e, n⟩
  have mv : Mv N s { s with heap := h' } := zbv (tk := s.toks) hs X.d (zaV pl') (Nat.le_refl _)
  refine hQ _ _ mv ⟨L.st.move up (λ a ha => ⟨L.st.fm.fr a ha, λ o => hch a o λ q => X.nd (q ▸ ha)⟩) (λ x ds hx l lk o => hch l o (L.own.look hx lk)) (mv.al L.st.al) (Nat.le_refl _), ⟨vs.push v, pl', ?_⟩, L.own.move λ c hc _ o e => mv.chg c o hc e⟩
  rw [Array.toList_push]
  exact (ra.mono up).append (.cons (r.mono up) .nil)
end
noncomputable def zhi (ifs : List Expr) (env : Env) : Sem Bool := forIn ifs true λ c r => if r = true then do let ok <- isTrue c env (eval c env); pure (ForInStep.yield ok) else pure (ForInStep.yield r)
noncomputable def tailT (elt : Expr) (gens : List Comprehension) (scope : Scope) (pos : Pos) (k : Nat) (acc : Value) (env : Env) (cont : Sem Fin) : Sem Fin := match gens[k]? with
  | some g' => do
    let x <- eval g'.iter env
    standAt g'.iter.pos
    if (g'.is_async != 0) = true then do
      let x <- foldedIterable g'.iter x
      let i <- holding [x] (if (g'.is_async != 0) = true then asyncIter x else pyIter x)
      let _ <- runOwn (.compStart (.ListComp elt gens scope pos) k i acc env) env
      cont
    else do
      let x <- foldedSetIterable g'.iter env x
      let i <- holding [x] (if (g'.is_async != 0) = true then asyncIter x else pyIter x)
      let _ <- runOwn (.compStart (.ListComp elt gens scope pos) k i acc env) env
      cont
  | none => do
    (do
      let v <- eval elt env
      let _ <- call (.builtin "list.append") [acc, v]
      pure ())
    cont
theorem zdX {elt t it : Expr} {ifs : List Expr} {gens : List Comprehension} {scope : Scope} {pos : Pos} {k : Nat} {iv acc : Value} {env : Env} (hg : gens[k]? = some ⟨t, it, ifs, 0⟩) :
    compTurn (.ListComp elt gens scope pos) k iv acc env = (standAt it.pos >>= λ _ => pyNext iv >>= λ r => match r with
      | none => pure (.done .next)
      | some v => letOwnedTupleGo t iv v >>= λ _ => assign t env v >>= λ _ => zhi ifs env >>= λ ok =>
        (if ok = true then tailT elt gens scope pos (k + 1) acc env (again (.compLoop (.ListComp elt gens scope pos) k iv acc env)) else again (.compLoop (.ListComp elt gens scope pos) k iv acc env))) := by
  unfold compTurn
  simp only [hg]
  simp only [show ((0 : Int) != 0) = false from rfl, Bool.false_eq_true, if_false]
  rfl
section
variable (C : Cx) (nt : List Str) (Φ : String -> List D -> Option D) (A : Around)
noncomputable def PF (t : T) : Prop := ∀ {sc : Names} {es : List Expr} {env : Env} {V : Addr -> Prop} {σ : Sg} {s : Shared} {b : Bool}, kF C.γ nt t sc es = true -> St C A env sc V (pv nt σ) s -> (pe C.tok Φ t σ).bind (R.on D.gB) = some b ->
  Runs (model C.prog C.w) A s (zhi (bF t es) env) λ v _ => v = b
end
section
variable {C : Cx} {nt : List Str} {Φ : String -> List D -> Option D} {A : Around}
variable {sc : Names} {env : Env} {V : Addr -> Prop} {σ : Sg} {s : Shared}
theorem zgM {ifs : List Expr} {M : Model} {Q : Bool -> Shared -> Prop} {E : Value -> Shared -> Prop} (h : Q false s) :
    wpAny M A (forIn ifs false λ c r => if r = true then do let ok <- isTrue c env (eval c env); pure (ForInStep.yield ok) else pure (ForInStep.yield r)) Q E s := by
  induction ifs with
  | nil => exact wpAny_pure h
  | cons c cs ih =>
    rw [List.forIn_cons, if_neg Bool.false_ne_true]
    exact wpAny_bind (wpAny_pure ih)
theorem zg5 : ∀ {ts : List T}, (∀ t ∈ ts, PT C nt Φ A t) -> ∀ {es : List Expr} {s : Shared} {b : Bool}, kTs C.γ nt ts sc es = true -> St C A env sc V (pv nt σ) s -> pall C.tok Φ .And ts σ = some b ->
    Runs (model C.prog C.w) A s (zhi (bEs ts es) env) λ v _ => v = b
  | [], _, es, s, b, h, S, e => λ Q E hQ => by
    cases e
    exact wpAny_pure (hQ _ _ (za4 s) rfl)
  | t :: ts, ih, es, s, b, h, S, e => andE h λ h1 h2 => bindE e λ b' kb kr => λ Q E hQ => by
    show wpAny _ _ (forIn (bE t (hd es) :: bEs ts es.tail) true _) _ _ _
    rw [List.forIn_cons, if_pos rfl]
    refine wpAny_bind (wpAny_bind (ih t (.head _) h1 S kb _ _ λ v s₁ k₁ q₁ => wpAny_pure ?_))
    subst q₁
    cases v
    · exact zgM (hQ _ _ k₁ (Option.some.inj kr))
    · exact zg5 (λ z hz => ih z (.tail _ hz)) h2 (S.keeps k₁) kr _ _ λ v s₂ k₂ q₂ => hQ _ _ (zae k₁ k₂) q₂
theorem zoo {op : BoolOp} {ts : List T} (ih : ∀ t ∈ ts, PT C nt Φ A t) : PF C nt Φ A (.all_ op ts) := λ {sc es env V σ s b} h S ev =>
  andE h λ ha h => onE ev λ d ev hd => mapE ev λ b' e1 ev => by
    cases ev; cases hd
    cases op
    · exact zg5 ih h S e1
    · exact ffE ha
noncomputable def zl9 (C : Cx) (nt : List Str) (Φ : String -> List Mine.D -> Option Mine.D) (A : Around) (env : Env) (sc : Names) (N : Addr -> Prop) (D : Addr) (elt : Expr) (gens : List Comprehension) (scope : Scope) (pos : Pos) (k : Nat) (b : T) : Prop :=
  ∀ (V : Addr -> Prop) (σ : Sg) (ys ds : List Mine.D) (s : Shared) (Q : Fin -> Shared -> Prop) (E : Value -> Shared -> Prop) (cont : Sem Fin), (∀ a, N a -> V a) -> LI C A env sc N D V ys (pv nt σ) s -> pgen C.tok Φ b σ = some ds -> (∀ i ∈ ixG b, σ.lookup i = none) -> ys.length + ds.length ≤ 2 ^ 20 ->
    (∀ s', Mv N s s' -> LI C A env sc N D V (ys ++ ds) (pv nt σ) s' -> wpAny (model C.prog C.w) A cont Q E s') -> wpAny (model C.prog C.w) A (tailT elt gens scope pos k (.ref D) env cont) Q E s
noncomputable def oneF (tok : Str -> Option Int) (Φ : String -> List Mine.D -> Option Mine.D) (p : Pt) (f : T) (b : T) (σ : Sg) (d : Mine.D) : Option (List Mine.D) := (pb p d σ).bind λ τ => ((pe tok Φ f τ).bind (R.on D.gB)).bind λ t => bif t then pgen tok Φ b τ else some []
variable {N : Addr -> Prop} {D : Addr} {ys : List Mine.D}
theorem ziP {elt te it : Expr} {fs : List Expr} {gens : List Comprehension} {scope : Scope} {pos : Pos} {k : Nat} {p : Pt} {f b : T} (rm : Rm A) (X : Fx env sc N D) (hg : gens[k]? = some ⟨bP p te, it, bF f fs, 0⟩) (hp : kP nt p sc te = true) (hf : kF C.γ nt f sc fs = true)
    (ihf : PF C nt Φ A f) (Tl : zl9 C nt Φ A env sc N D elt gens scope pos (k + 1) b) {Z fp : Addr -> Prop} {I : Addr} {items : List Mine.D} {Sn : Nat -> Heap -> Prop} (W : Wk C.prog C.w A C.gv (λ a => V a ∨ Z a) (bP p te) I Z fp items Sn) (hNV : ∀ a, N a -> V a) (hfp : ∀ a, N a -> ¬ fp a) (hVZ : ∀ a, V a -> ¬ Z a) (hfr : ∀ a, Fr env a -> V a)
    (hun : ∀ i ∈ ixP p ++ ixG b, σ.lookup i = none) (hnd : ∀ i ∈ ixG b, i ∉ ixP p) {R : Result -> Shared -> Prop} (n : Nat) :
    ∀ (i : Nat), n + i = items.length -> ∀ {ys ds : List Mine.D} {s : Shared}, flatO (oneF C.tok Φ p f b σ) (items.drop i) = some ds -> LI C A env sc N D (λ a => V a ∨ Z a) ys (pv nt σ) s -> Sn i s.heap -> ys.length + ds.length ≤ 2 ^ 20 ->
      (∀ s', MvE N Z s s' -> LI C A env sc N D V (ys ++ ds) (pv nt σ) s' -> R (.ok .next) s') -> codeAny (model C.prog C.w) A (.compLoop (.ListComp elt gens scope pos) k (.ref I) (.ref D) env) R s := by
  induction n with
  | zero =>
    intro i hn ys ds s hds L hS hsz hR
    have hi : i = items.length := (Nat.zero_add i).symm.trans hn
    subst hi
    rw [List.drop_length] at hds
    cases hds
    refine codeAny_of_tree ?_
    show wpAny _ A ((compTurn (.ListComp elt gens scope pos) k (.ref I) (.ref D) env).onRaise (λ x => do noteFrame x env; theTreesLotGoes x)) _ _ s
    refine wpAny_noted ?_
    rw [zdX hg]
    refine wpAny_bind (wpAny_standAt (wpAny_bind (wpAny_mono (W.done s (λ s' => R (.ok .next) s') _ hS λ s' m => ?_) (λ r s₁ h₁ => ?_) λ _ _ h' => h')))
    · refine hR s' m.ez ?_
      rw [List.append_nil]
      exact L.move (λ a z => .inr z) (λ a v => .inl v) (λ a h => ⟨hfr a h, hVZ a (hfr a h)⟩) (λ a vs z => W.nl _ _ a vs hS z) (λ a o z e => m.chg a o z e) (λ a v => let ⟨o, e⟩ := L.st.al a (.inl v); ⟨o, m.chg a o (hVZ a v) e⟩) m.toks
    · obtain ⟨rfl, h₁⟩ := h₁
      exact wpAny_pure h₁
  | succ n ih =>
    intro i hn ys ds s hds L hS hsz hR
    have hi : i < items.length := by lia
    rw [List.drop_eq_getElem_cons hi] at hds
    refine bindE hds λ xs hx hds => mapE hds λ zs hz hds => bindE hx λ τ hτ hx => bindE hx λ bt ht hx => ?_
    subst hds
    refine codeAny_of_tree ?_
    show wpAny _ A ((compTurn (.ListComp elt gens scope pos) k (.ref I) (.ref D) env).onRaise (λ x => do noteFrame x env; theTreesLotGoes x)) _ _ s
    refine wpAny_noted ?_
    rw [zdX hg]
    refine wpAny_bind (wpAny_standAt (wpAny_bind ?_))
    refine wpAny_mono (W.item i items[i] s (λ v s' => wpAny (model C.prog C.w) A (assign (bP p te) env v >>= λ _ => zhi (bF f fs) env >>= λ ok => (if ok = true then tailT elt gens scope pos (k + 1) (.ref D) env (again (.compLoop (.ListComp elt gens scope pos) k (.ref I) (.ref D) env)) else again (.compLoop (.ListComp elt gens scope pos) k (.ref I) (.ref D) env))) (λ fin s' => match fin with | .done f => R (.ok f) s' | .again c' => c'.quiet = true /\ codeAny (model C.prog C.w) A c' R s') (notedBy (model C.prog C.w) A env λ e s' => R (.error e) s') s') _ (List.getElem?_eq_getElem hi) hS L.st.al λ v s₁ m₁ hS₁ q₁ => ?_) (λ r s₁ h₁ => ?_) λ _ _ h' => h'
    rotate_left
    · cases r with
      | none => exact h₁.elim
      | some v => exact wpAny_bind h₁
    have L₁ := L.move (V' := λ a => V a ∨ Z a) (λ a z => .inr z) (λ a v => v) (λ a h => ⟨.inl (hfr a h), hVZ a (hfr a h)⟩) (λ a vs z => W.nl _ _ a vs hS z) m₁.chg (m₁.al L.st.al) m₁.toks
    refine wpAny_bind (bindP rm (LI.store X λ a n => .inl (hNV a n)) p L₁ hp q₁ hτ λ s₂ m₂ L₂ _ => ?_)
    refine wpAny_bind (ihf hf L₂.st ht _ _ λ v s₃ k₃ q₃ => ?_)
    subst q₃
    have L₃ := L₂.keeps k₃
    have m₁₃ : MvE N Z s s₃ := (m₁.ez.trans m₂.e).trans k₃.mv.e
    have w : ∀ x bb, pv nt σ x = some bb -> pv nt τ x = some bb := λ x bb hx => bindE hx λ j hj hx => by
      rw [pv, hj]; exact (ziW hτ j λ hm => noE ((hun j (List.mem_append_left _ hm)).symm.trans hx)).trans hx
    have next : ∀ {s' : Shared}, Mv N s₁ s' -> MvE N Z s s' -> LI C A env sc N D (λ a => V a ∨ Z a) (ys ++ xs) (pv nt τ) s' -> codeAny (model C.prog C.w) A (.compLoop (.ListComp elt gens scope pos) k (.ref I) (.ref D) env) R s' := λ {s'} m me L' =>
      ih (i + 1) (by lia) hz (L'.weak w) (W.frame _ _ _ hS₁ λ a ha o e => m.chg a o (λ na => ha.elim (hfp a na) λ hn' => hn' (.inl (hNV a na))) e) (by rw [List.length_append] at hsz ⊢; lia) λ s'' m' L'' => hR s'' (me.trans m') (by rw [List.append_assoc] at L''; exact L'')
    cases v with
    | false =>
      cases (Option.some.inj hx : [] = xs)
      refine wpAny_pure ⟨rfl, next (m₂.trans k₃.mv) m₁₃ ?_⟩
      rw [List.append_nil]; exact L₃
    | true =>
      refine Tl _ _ _ _ _ _ _ _ (λ a na => .inl (hNV a na)) L₃ hx (λ j hj => ?_) (by rw [List.length_append] at hsz; lia) λ s₄ m₄ L₄ => wpAny_pure ⟨rfl, next ((m₂.trans k₃.mv).trans m₄) (m₁₃.trans m₄.e) L₄⟩
      rw [ziW hτ j (hnd j hj)]
      exact hun j (List.mem_append_right _ hj)
theorem zdN {elt t it : Expr} {ifs : List Expr} {gens : List Comprehension} {scope : Scope} {pos : Pos} {k : Nat} {iv acc : Value} {s : Shared} {R : Result -> Shared -> Prop} (hg : gens[k]? = some ⟨t, it, ifs, 0⟩)
    (h0 : codeAny (model C.prog C.w) A (.compLoop (.ListComp elt gens scope pos) k iv acc env) R s)
    (h : wpAny (model C.prog C.w) A (pyIter iv) (λ it' s' => codeAny (model C.prog C.w) A (.compLoop (.ListComp elt gens scope pos) k it' acc env) R s') (notedBy (model C.prog C.w) A env λ x s' => R (.error x) s') s) :
    codeAny (model C.prog C.w) A (.compStart (.ListComp elt gens scope pos) k iv acc env) R s := by
  refine codeAny_of_tree ?_
  show wpAny _ _ ((compStart (.ListComp elt gens scope pos) k iv acc env).onRaise (λ x => do noteFrame x env; standAt theWindowsPlace)) _ _ s
  refine wpAny_notedAt ?_
  unfold compStart
  have hc : (clausesOf (.ListComp elt gens scope pos))[k]? = some ⟨t, it, ifs, 0⟩ := hg
  simp only [hc]
  show wpAny _ _ (ask >>= _) _ _ s
  refine wpAny_bind (wpAny_askSetting (wpAny_ite ?_))
  split
  · first
      | exact wpAny_bind (wpAny_pure (wpAny_pure (And.intro rfl h0)))
      | exact wpAny_pure (And.intro rfl h0)
  · first
      | exact wpAny_bind (wpAny_rule (wpAny_bind (wpAny_standAt (wpAny_bind (wpAny_mono h (λ it' s' h' => wpAny_pure (And.intro rfl h')) λ _ _ x => x)))))
      | (refine wpAny_bind (wpAny_rule ?_); show wpAny _ _ (standAt it.pos >>= _) _ _ s; exact wpAny_bind (wpAny_standAt (wpAny_bind (wpAny_mono h (λ it' s' h' => wpAny_pure (And.intro rfl h')) λ _ _ x => x))))
theorem zfs {α : Type} {l : List α} {k : Nat} {g : α} {gs : List α} (h : l.drop k = g :: gs) : l[k]? = some g /\ l.drop (k + 1) = gs := by
  have e : (l.drop k)[0]? = some g := by rw [h]; rfl
  rw [List.getElem?_drop] at e
  refine ⟨e, ?_⟩
  rw [<- List.tail_drop, h]; rfl
theorem ziX {γ : Str -> Option Mine.D} {t : T} {e : Expr} {x : Value} (h : kI γ nt t sc e = true) : foldedSetIterable (bE t e) env x = pure x := by
  have key : ∀ {t}, kE γ nt t sc e = true -> foldedSetIterable (bE t e) env x = pure x := λ {t} h => by
    cases t with
    | cst d => show foldedSetIterable (bif isNm e then _ else _) env x = pure x; cases isNm e <;> rfl
    | not_ | rng | rng1 | enm | pln | gen | yld => exact ffE h
    | _ => rfl
  cases t with
  | pln a => exact key (t := a) h
  | rng | rng1 | enm => rfl
  | _ => exact ffE h
noncomputable def PC (C : Cx) (nt : List Str) (Φ : String -> List Mine.D -> Option Mine.D) (A : Around) (t : T) : Prop :=
  ∀ {sc : Names} {env : Env} {N : Addr -> Prop} {D : Addr} {gens gs : List Comprehension} {e : Expr} {scope : Scope} {pos : Pos} {k : Nat}, Fx env sc N D -> kC C.γ nt t sc gs e = true -> gens.drop k = bG t gs -> (ixG t).Nodup -> zl9 C nt Φ A env sc N D (bY t e) gens scope pos k t
theorem zpe {t : T} (ih : PE C nt Φ A t) : PC C nt Φ A (.yld t) := λ {sc env N D gens gs e scope pos k} X h hd _ V σ ys ds s Q E cont hNV L ev hun hsz hQ =>
  mapE ev λ d hd' ev => bindE hd' λ r e1 e2 => by
    subst ev
    have hk : gens[k]? = none := List.getElem?_eq_none_iff.mpr (List.drop_eq_nil_iff.mp hd)
    unfold tailT
    rw [hk]
    exact wpAny_bind (wpAny_bind (ih h L.st e1 _ _ λ v s₁ k₁ q₁ => wpAny_bind ((L.keeps k₁).append X hNV (q₁.asD e2) hsz λ u s₂ m₂ L₂ => wpAny_pure (hQ s₂ (k₁.mv.trans m₂) L₂))))
theorem zoj {p : Pt} {it f b : T} (rm : Rm A) (ihI : PI C nt Φ A it) (ihf : PF C nt Φ A f) (ihb : PC C nt Φ A b) : PC C nt Φ A (.gen p it f b) := λ {sc env N D gens gs e scope pos k} X h hd hnd V σ ys ds s Q E cont hNV L ev hun hsz hQ =>
  andE h λ hp h => andE h λ hi h => andE h λ hf hb => bindE ev λ items e1 e2 => by
    obtain ⟨hg, hd'⟩ := zfs hd
    have hnd' := List.nodup_append.mp hnd
    have Tl := ihb (scope := scope) (pos := pos) X hb hd' hnd'.2.1
    unfold tailT
    rw [hg]
    show wpAny _ _ (eval (bE it (hc gs).iter) env >>= λ x => standAt (bE it (hc gs).iter).pos >>= λ _ => foldedSetIterable (bE it (hc gs).iter) env x >>= λ x => holding [x] (pyIter x) >>= λ i => runOwn (.compStart (.ListComp (bY b e) gens scope pos) k i (.ref D) env) env >>= λ _ => cont) _ _ _
    refine wpAny_bind (wpAny_mono (ihI (p := p) (te := (hc gs).target) hi L.st e1 (Q := λ iv s₂ => wpAny (model C.prog C.w) A (runOwn (.compStart (.ListComp (bY b e) gens scope pos) k iv (.ref D) env) env >>= λ _ => cont) Q E s₂) (E := E) λ iv s₁ s₂ k₁ h => ?_) (λ x s₁ h₁ => ?_) λ _ _ e => e)
    · obtain ⟨I, Z, fp, core, inv, rfl, k₂, hz, hfl, hfz, hcore, hW⟩ := h
      obtain ⟨hinv, _, W⟩ := hW V (λ a v => v) (λ a v => .inl v)
      have hS := And.intro hcore hinv
      have k₁₂ := zae k₁ k₂
      have zf : ∀ a, Z a -> s.heap.get? a = none := λ a z => k₁.no (hz a z).1
      have hVZ : ∀ a, V a -> ¬ Z a := λ a v z => let ⟨o, q⟩ := L.st.al a v; gone (zf a z) q
      have L₂ := L.vol k₁₂ zf λ a z => (hz a z).2
      have lp : ∀ (R : Result -> Shared -> Prop), (∀ s', MvE N Z s₂ s' -> LI C A env sc N D V (ys ++ ds) (pv nt σ) s' -> R (.ok .next) s') -> codeAny (model C.prog C.w) A (.compLoop (.ListComp (bY b e) gens scope pos) k (.ref I) (.ref D) env) R s₂ := λ R hR =>
        ziP rm X hg hp hf ihf Tl W hNV (λ a na hf' => hVZ a (hNV a na) (hfz rfl a hf')) hVZ L.st.fm.fr hun (λ i hi hi' => hnd'.2.2 i hi' i hi rfl) items.length 0 rfl (by rw [List.drop_zero]; exact e2) L₂ hS hsz hR
      refine wpAny_bind (wpAny_runOwn ?_)
      have fin : ∀ s', MvE N Z s₂ s' -> LI C A env sc N D V (ys ++ ds) (pv nt σ) s' -> wpAny (model C.prog C.w) A cont Q E s' := λ s' m L' => hQ s' (m.fresh k₁₂ zf) L'
      exact zdN hg (lp _ fin) (W.self 0 s₂ _ _ hS (lp _ fin))
    · refine wpAny_bind (wpAny_standAt (wpAny_bind (wpAny_of_eq (ziX hi) (wpAny_bind (wpAny_holding (wpAny_mono h₁ (λ iv s₂ h₂ => ?_) λ _ _ e => e))))))
      exact h₂
end
section
variable {C : Cx} {nt : List Str} {Φ : String -> List D -> Option D} {A : Around}
variable {sc : Names} {env : Env} {V : Addr -> Prop} {σ : Sg} {s : Shared}
theorem zbb {fr : List Nat} : ∀ {σ : Sg} {i : Nat} {b : B}, (σ.filter λ q => fr.contains q.1).lookup i = some b -> fr.contains i = true /\ σ.lookup i = some b
  | [], i, b, h => noE h
  | (j, c) :: σ, i, b, h => by
    rw [List.filter_cons] at h
    rw [List.lookup_cons]
    by_cases hc : fr.contains j = true
    · rw [if_pos hc, List.lookup_cons] at h
      cases hq : i == j with
      | true => rw [hq] at h; rw [eq_of_beq hq]; exact ⟨hc, h⟩
      | false => rw [hq] at h; exact zbb h
    · rw [if_neg hc] at h
      have ih := zbb h
      refine ⟨ih.1, ?_⟩
      cases hq : i == j with
      | true => rw [<- eq_of_beq hq] at hc; exact absurd ih.1 hc
      | false => exact ih.2
theorem zni {names : Names} {x : Str} {b : B} (h : pv nt (σ.filter λ q => (frees nt names).contains q.1) x = some b) : (x, .free) ∈ names /\ pv nt σ x = some b := bindE h λ i hq h => by
  obtain ⟨h1, h2⟩ := zbb h
  refine ⟨?_, by rw [pv, hq]; exact h2⟩
  rw [List.contains_iff_mem] at h1
  unfold frees at h1
  obtain ⟨⟨y, k⟩, hm, hy⟩ := List.mem_filterMap.mp h1
  by_cases hk : (k == NameKind.free) = true
  · cases eq_of_beq hk
    cases zc5 hq (show nmI nt y = some i from hy)
    exact hm
  · exact noE ((if_neg hk).symm.trans hy)
theorem zi7 {x : Str} (F : Fm env sc V s.heap) (hf : sc.lookup x = some .cell ∨ sc.lookup x = some .free) : env.kindOf x ≠ some .local := by
  rcases hf with h | h
  · rcases F.rel x _ h with q | ⟨q, _⟩
    · rw [q]; decide
    · cases q
  · rcases F.rel x _ h with q | ⟨_, q⟩ <;> (rw [q]; decide)
theorem zfA {h : Heap} {x : Str} {v : Value} (l : Look h env x v) (hk : env.kindOf x ≠ some .local) : ∃ c, env.cells.lookup x = some c /\ h.IsCell c (some v) := by
  cases l with
  | loc a _ _ => exact absurd a hk
  | cel _ b c => exact ⟨_, b, c⟩
theorem zjf {p : Pt} {it f body : T} {fr : List Nat} {te ie e1 : Expr} {fs : List Expr} {gs : List Comprehension} {scope : Scope} {pos ipos : Pos} {r : R} {use : Option (Value -> Sem Unit)} (rm : Rm A) (ihI : PI C nt Φ A it) (ihf : PF C nt Φ A f) (ihb : PC C nt Φ A body)
    (hok : zc6 sc scope = true) (hfr : fr = frees nt scope.names) (hnd : (ixP p ++ ixG body).Nodup) (hdj : ∀ i ∈ ixP p ++ ixG body, fr.contains i = false) (hp : kP nt p scope.names te = true) (hi : kI C.γ nt it sc ie = true) (hf : kF C.γ nt f scope.names fs = true) (hb : kC C.γ nt body scope.names gs e1 = true)
    (S : St C A env sc V (pv nt σ) s) (e : pe C.tok Φ (.lc p it f body fr) σ = some r) {Q E : Value -> Shared -> Prop}
    (hQ : ∀ ds Dl L s', r = .d (.lst ds) -> Kp s s' -> s.heap.get? L = none -> (∃ m, s'.heap.Ns L m) -> Rep C.gv s'.heap (λ a => V a ∨ a = L) (.ref Dl) (.lst ds) ->
      compPost (model C.prog C.w) A E use Q (.ref Dl) L (.ok .next) s') :
    wpAny (model C.prog C.w) A (comprehension (.ListComp (bY body e1) (⟨bP p te, bE it ie, bF f fs, 0⟩ :: bG body gs) scope pos) scope env ipos (newList []) false (eval (bE it ie) env) use) Q E s := by
  obtain ⟨hk, hn⟩ := zdH hok
  obtain ⟨cl, hcl, c1, c2⟩ := zii (env := env) (scope := scope) λ q hq hfree => let ⟨c, v, h1, _⟩ := S.fm.cel q.1 ((hn q hq).2 hfree).1; ⟨c, h1⟩
  refine bindE e λ items e1 e2 => bindE e2 λ ds e3 e4 => ifE e4 λ hsz e4 => ?_
  clear e e2
  subst e4 hfr
  refine wpAny_comprehension_free (cl := cl) rfl (λ x => ziX hi) hcl hk (λ x hx hl => by rw [(hn x hx).1, hl]) ?_
  refine ihI (fz := false) (p := p) (te := te) hi S e1 λ iv s₁ s₂ k₁ h => ?_
  obtain ⟨I, Z, fp, core, inv, rfl, k₂, hz, hfl, hfz, hcore, hW⟩ := h
  have k₁₂ := zae k₁ k₂
  refine wpAny_newObj_type ?_
  have k₃ : Kp s₂ { s₂ with heap := s₂.heap.push { cls := .type "list", data := .seq ([] : List Value).toArray } } := ⟨zai _ _, Nat.le_refl _⟩
  have hD₃ : PlainL (s₂.heap.push { cls := .type "list", data := .seq ([] : List Value).toArray }) s₂.heap.objs.size #[] := ⟨_, _, Heap.get?_push_size _ rfl, rfl, rfl, rfl⟩
  generalize hs₃ : ({ s₂ with heap := s₂.heap.push { cls := .type "list", data := .seq ([] : List Value).toArray } } : Shared) = s₃ at k₃
  have hD₃' : PlainL s₃.heap s₂.heap.objs.size #[] := hs₃ ▸ hD₃
  clear hD₃ hs₃
  generalize s₂.heap.objs.size = Dl, zav s₂.heap = hDn at *
  have k₁₃ := zae k₁₂ k₃
  have S₃ := S.keeps k₁₃
  show wpAny _ _ (newFunctionEnv scope env.globals cl [] env.qual none .none (some env)) _ _ s₃
  refine zkT S₃ hok c1 c2 λ cells s₄ e' he hL k₄ hNew F₄ hcells hcnew => ?_
  rw [he, hL]
  generalize s₃.heap.objs.size = L at *
  clear he hL hcl
  have k₀₄ := zae k₁₃ k₄
  have up₄ : ∀ b o, s.heap.get? b = some o -> s₄.heap.get? b = some o := zac k₀₄.1
  let N : Addr -> Prop := λ a => a = Dl ∨ NewA scope L a
  have nN : ∀ a, N a -> s₂.heap.get? a = none := λ a h => h.elim (λ h => h ▸ hDn) λ h => k₃.no (hNew a h).1
  have lN : ∀ a, N a -> ∃ o, s₄.heap.get? a = some o := λ a h => h.elim (λ h => by
    obtain ⟨o, q⟩ := zaV hD₃'
    exact ⟨o, zac k₄.1 _ _ (h ▸ q)⟩) λ h => (hNew a h).2
  have nZ : ∀ a, Z a -> s.heap.get? a = none := λ a z => k₁.no (hz a z).1
  have hVN : ∀ a, V a -> ¬ N a := λ a v n => let ⟨o, q⟩ := S.al a v; gone (k₁₂.no (nN a n)) q
  have hVZ : ∀ a, V a -> ¬ Z a := λ a v z => let ⟨o, q⟩ := S.al a v; gone (nZ a z) q
  have hNZ : ∀ a, N a -> ¬ Z a := λ a n z => let ⟨o, q⟩ := (hz a z).2; gone (nN a n) q
  obtain ⟨hinv, _, W⟩ := hW (λ a => V a ∨ N a) (λ a v => .inl v) (λ a h => h.imp id λ n => k₂.no (nN a n))
  have hS := And.intro hcore hinv
  have hS₄ : core 0 s₄.heap /\ inv (λ a => V a ∨ N a) s₄.heap := W.frame _ _ _ hS λ a _ o q => zac (zae k₃ k₄).1 _ _ q
  have X : Fx (zc7 scope env L cells) scope.names N Dl := by
    refine ⟨.inl rfl, ?_, ?_⟩
    · rintro a (rfl | ⟨y, hy, hyc⟩)
      · exact .inr (.inl rfl)
      · exact .inr (hcnew y a hy hyc)
    · intro h
      rcases F₄.fr _ h with h | h
      · obtain ⟨o, q⟩ := S.al _ h
        exact gone hDn (zac k₁₂.1 _ _ q)
      · obtain ⟨o, q⟩ := zaV hD₃'
        exact gone (hNew _ h).1 q
  have cellOf : ∀ x bb, pv nt (σ.filter λ q => (frees nt scope.names).contains q.1) x = some bb -> pv nt σ x = some bb /\ scope.names.lookup x = some .free /\ (x == ("__classdict__" : Str)) = false /\ env.kindOf x ≠ some .local /\ ∃ c, env.cells.lookup x = some c /\ cells.lookup x = some c := λ x bb hx => by
    obtain ⟨hm, hx'⟩ := zni hx
    obtain ⟨h1, h2⟩ := hn _ hm
    obtain ⟨h3, h4⟩ := h2 rfl
    obtain ⟨c, hc⟩ := Option.isSome_iff_exists.mp (c2 _ hm rfl)
    exact ⟨hx', h1, h4, zi7 S.fm h3, c, c1 _ _ hc, hcells _ _ hc h1⟩
  have kind4 : ∀ x, scope.names.lookup x = some .free -> (zc7 scope env L cells).kindOf x = some .free ∨ (zc7 scope env L cells).kindOf x = some .cell := λ x hx => (F₄.rel x _ hx).imp id (·.2)
  have ext : ∀ {a o}, s.heap.get? a = some o -> ¬ V a -> ¬ ((V a ∨ N a) ∨ Z a) := λ {a o} q nv h => h.elim (λ h => h.elim nv λ h => gone (k₁₂.no (nN a h)) q) λ h => gone (nZ a h) q
  have hfr' : ∀ a, Fr (zc7 scope env L cells) a -> V a ∨ N a := λ a h => (F₄.fr a h).imp id .inr
  have L4 : LI C A (zc7 scope env L cells) scope.names N Dl (λ a => (V a ∨ N a) ∨ Z a) [] (pv nt (σ.filter λ q => (frees nt scope.names).contains q.1)) s₄ := by
    refine ⟨⟨λ a o q => ?_, λ a h => ?_, F₄.at (λ a ha => .inl (hfr' a ha)) (λ _ _ _ e => e), λ x bb hx => ?_, Nat.le_trans S.tk k₀₄.2⟩, ⟨#[], hD₃'.keeps (zac k₄.1), .nil⟩, λ x ds' hx => ?_⟩
    · have := S.gl a o q
      exact ⟨up₄ _ _ this.1, ext this.1 this.2⟩
    · rcases h with (h | h) | h
      · exact S.al.keeps k₀₄.1 a h
      · exact lN a h
      · obtain ⟨o, q⟩ := (hz a h).2; exact ⟨o, zac (zae k₃ k₄).1 _ _ q⟩
    · obtain ⟨hx', h1, h2, h3, c, h4, h5⟩ := cellOf x bb hx
      obtain ⟨v, q1, q2⟩ := S.ev x bb hx'
      obtain ⟨c', q3, q4⟩ := zfA q1 h3
      rw [h4] at q3; cases q3
      exact ⟨v, .cel ((kind4 x h1).elim (λ h => .inr ⟨h, h2⟩) .inl) h5 (q4.keeps up₄), q2.mono (λ a o na q => ⟨up₄ _ _ q, ext q na⟩) λ _ l _ _ o => up₄ l o⟩
    · obtain ⟨hx', h1, h2, h3, c, h4, h5⟩ := cellOf x _ hx
      obtain ⟨v, q1, l, vs, rfl, p, _⟩ := S.ev x _ hx'
      obtain ⟨o, qo⟩ := zaV p
      obtain ⟨c', q3, q4⟩ := zfA q1 h3
      rw [h4] at q3; cases q3
      refine ⟨c, l, h5, λ h => ?_, q4.keeps up₄, λ h => gone (k₁₂.no (h ▸ hDn)) qo, λ h => ?_⟩
      · rcases kind4 x h1 with q | q <;> exact NameKind.noConfusion (Option.some.inj (h.symm.trans q))
      · obtain ⟨o', q5⟩ := zdS q4
        exact gone (k₁₂.no (nN c h)) q5
  have hnd' := List.nodup_append.mp hnd
  have hun : ∀ i ∈ ixP p ++ ixG body, (σ.filter λ q => (frees nt scope.names).contains q.1).lookup i = none := λ i hi => by
    cases hq : (σ.filter λ q => (frees nt scope.names).contains q.1).lookup i with
    | none => rfl
    | some b => exact ffE ((hdj i hi).symm.trans (zbb hq).1)
  have lp : codeAny (model C.prog C.w) A (.compLoop (.ListComp (bY body ‹_›) (⟨bP p te, bE it ie, bF f fs, 0⟩ :: bG body gs) scope pos) 0 (.ref I) (.ref Dl) (zc7 scope env L cells)) (compPost (model C.prog C.w) A E use Q (.ref Dl) L) s₄ :=
    ziP rm X rfl hp hf ihf (ihb X hb rfl hnd'.2.1) W (λ a n => .inr n) (λ a n hfp => let ⟨o, q⟩ := hfl a hfp; gone (nN a n) q) (λ a h => h.elim (hVZ a) (hNZ a)) hfr' hun (λ i hi hi' => hnd'.2.2 i hi' i hi rfl)
      items.length 0 rfl (by rw [List.drop_zero]; exact e3) L4 hS₄ (by rw [List.length_nil, Nat.zero_add]; exact hsz) λ s' m L' => by
        have mv : Mv N s s' := m.fresh k₀₄ nZ
        obtain ⟨vs, ⟨o, n, p1, p2, p3, p4⟩, ra⟩ := L'.out
        refine hQ ds Dl L s' rfl (mv.kp λ a o q n => gone (k₁₂.no (nN a n)) q) (k₁₃.no (hNew L (.inl rfl)).1) L'.st.fm.ns (.lst (λ h => ?_) p1 p2 p3 p4 (ra.sub λ a h => h.imp id λ h => .inr (.inl h)))
        rcases h with h | h
        · exact hVN _ h (.inl rfl)
        · obtain ⟨o, q⟩ := zaV hD₃'
          exact gone (hNew L (.inl rfl)).1 (h ▸ q)
  exact zdN rfl lp (W.self 0 s₄ _ _ hS₄ lp)
end
section
variable {C : Cx} {nt : List Str} {Φ : String -> List D -> Option D} {A : Around}
theorem lcE {p : Pt} {it f body : T} {fr : List Nat} {sc : Names} {e : Expr} {γ : Str -> Option D} {P : Prop} (h : kE γ nt (.lc p it f body fr) sc e = true)
    (k : zc6 sc (gS e) = true -> fr = frees nt (gS e).names -> (ixP p ++ ixG body).Nodup -> (∀ i ∈ ixP p ++ ixG body, fr.contains i = false) -> kP nt p (gS e).names (hc (gG e)).target = true -> kI γ nt it sc (hc (gG e)).iter = true -> kF γ nt f (gS e).names (hc (gG e)).ifs = true -> kC γ nt body (gS e).names (gG e).tail (g1 e) = true -> P) : P :=
  andE h λ hc h => andE hc λ hc h4 => andE hc λ hc h3 => andE hc λ h1 h2 => andE h λ h5 h => andE h λ h6 h => andE h λ h7 h8 =>
    k h1 (of_decide_eq_true h2) (of_decide_eq_true h3) (λ i hi => zdj (List.all_eq_true.mp h4 i hi)) h5 h6 h7 h8
theorem zpQ {p : Pt} {it f body : T} {fr : List Nat} (rm : Rm A) (ihI : PI C nt Φ A it) (ihf : PF C nt Φ A f) (ihb : PC C nt Φ A body) : PE C nt Φ A (.lc p it f body fr) := λ {sc e env V σ s r} h S ev Q E hQ =>
  lcE h λ h1 h2 h3 h4 h5 h6 h7 h8 => by
    show wpAny _ _ (comprehension (.ListComp (bY body (g1 e)) (⟨bP p (hc (gG e)).target, bE it (hc (gG e)).iter, bF f (hc (gG e)).ifs, 0⟩ :: bG body (gG e).tail) (gS e) e.pos) (gS e) env (bE it (hc (gG e)).iter).pos (newList []) false (eval (bE it (hc (gG e)).iter) env) none) _ _ _
    refine zjf rm ihI ihf ihb h1 h2 h3 h4 h5 h6 h7 h8 S ev λ ds Dl L s' hr k hL hNs q => ?_
    subst hr
    obtain ⟨m, hm⟩ := hNs
    refine ⟨m, hm, λ h' hs => ?_⟩
    have k' : Kp s { s' with heap := h' } := by
      obtain ⟨⟨h₁, t₁, rfl, k₁⟩, k₂⟩ := k
      exact ⟨⟨h', t₁, rfl, λ b o q => (hs.2 b λ hb => gone (hb ▸ hL) q).trans (k₁ b o q)⟩, k₂⟩
    exact hQ _ _ k' (Rep.mono (λ a o na q => ⟨(hs.2 a (λ ha => na (.inr ha))).trans q, λ h => na (.inl h)⟩) q)
structure AllP (C : Cx) (nt : List Str) (Φ : String -> List D -> Option D) (A : Around) (t : T) : Prop where
  pe : PE C nt Φ A t
  pt : PT C nt Φ A t
  pi : PI C nt Φ A t
  pf : PF C nt Φ A t
  pc : PC C nt Φ A t
theorem no_i {t : T} (h : ∀ sc e, kI C.γ nt t sc e = false) : PI C nt Φ A t := λ {sc e env V σ s p te items fz} q => ffE ((h sc e).symm.trans q)
theorem no_f {t : T} (h : ∀ sc e, kF C.γ nt t sc e = false) : PF C nt Φ A t := λ {sc es env V σ s b} q => ffE ((h sc es).symm.trans q)
theorem no_c {t : T} (h : ∀ sc gs e, kC C.γ nt t sc gs e = false) : PC C nt Φ A t := λ {sc env N D gens gs e scope pos k} _ q => ffE ((h sc gs e).symm.trans q)
theorem no_e {t : T} (h : ∀ sc e, kE C.γ nt t sc e = false) : PE C nt Φ A t := λ {sc e env V σ s r} q => ffE ((h sc e).symm.trans q)
theorem no_t {t : T} (h : ∀ sc e, kT C.γ nt t sc e (kE C.γ nt t sc e) = false) : PT C nt Φ A t := λ {sc e env V σ s r} q => ffE ((h sc e).symm.trans q)
theorem zbj {t : T} (pe : PE C nt Φ A t) (he : ∀ sc e env whole, kE C.γ nt t sc e = true -> isTrue (bE t e) env whole = (do let v <- whole; standAt (bE t e).pos; holding [v] (truthy v))) (hc : ∀ sc e w, kT C.γ nt t sc e w = w)
    (h1 : ∀ sc e, kI C.γ nt t sc e = false) (h2 : ∀ sc e, kF C.γ nt t sc e = false) (h3 : ∀ sc gs e, kC C.γ nt t sc gs e = false) : AllP C nt Φ A t := ⟨pe, zkU pe he hc, no_i h1, no_f h2, no_c h3⟩
theorem zep {t : T} (pi : PI C nt Φ A t) (pc : PC C nt Φ A t) (h0 : ∀ sc e, kE C.γ nt t sc e = false) (hc : ∀ sc e w, kT C.γ nt t sc e w = w) (h2 : ∀ sc e, kF C.γ nt t sc e = false) : AllP C nt Φ A t := ⟨no_e h0, no_t λ sc e => (hc _ _ _).trans (h0 sc e), pi, no_f h2, pc⟩
theorem allE (K : C.Ok) (O : C.Obj) (rm : Rm A) (P : PhiOk C Φ A) (t : T) : AllP C nt Φ A t := by
  refine T.rec (motive_1 := λ t => AllP C nt Φ A t) (motive_2 := λ ts => ∀ t ∈ ts, AllP C nt Φ A t) ?_ ?_ ?_ ?_ ?_ ?_ ?_ ?_ ?_ ?_ ?_ ?_ ?_ ?_ ?_ ?_ ?_ ?_ ?_ ?_ ?_ ?_ ?_ ?_ ?_ ?_ ?_ t
  · refine λ d => zbj (zo5 d K) (λ sc e env w h => ?_) (λ _ _ _ => rfl) (λ _ _ => rfl) (λ _ _ => rfl) λ _ _ _ => rfl
    show isTrue (bif isNm e then _ else _) env w = (do let v <- w; standAt (bif isNm e then _ else _ : Expr).pos; holding [v] (truthy v))
    cases isNm e <;> rfl
  · exact λ i => zbj (λ {_ _ _ _ _ _ _} h S ev => zlI h S ev) (λ _ _ _ _ _ => rfl) (λ _ _ _ => rfl) (λ _ _ => rfl) (λ _ _ => rfl) λ _ _ _ => rfl
  · exact λ op es ih => ⟨zoJ λ t h => (ih t h).pe, znL λ t h => (ih t h).pt, no_i λ _ _ => rfl, zoo λ t h => (ih t h).pt, no_c λ _ _ _ => rfl⟩
  · exact λ a ih => ⟨no_e λ _ _ => rfl, zoP ih.pt, no_i λ _ _ => rfl, no_f λ _ _ => rfl, no_c λ _ _ _ => rfl⟩
  · exact λ a ih => zbj (znG ih.pe) (λ _ _ _ _ _ => rfl) (λ _ _ _ => rfl) (λ _ _ => rfl) (λ _ _ => rfl) λ _ _ _ => rfl
  · exact λ c a b h1 h2 h3 => ⟨zow h1.pt h2.pe h3.pe, no_t λ _ _ => rfl, no_i λ _ _ => rfl, no_f λ _ _ => rfl, no_c λ _ _ _ => rfl⟩
  · exact λ op a b h1 h2 => zbj (zps h1.pe h2.pe) (λ _ _ _ _ _ => rfl) (λ _ _ _ => rfl) (λ _ _ => rfl) (λ _ _ => rfl) λ _ _ _ => rfl
  · exact λ es b h1 h2 => zbj (znb (λ t h => (h1 t h).pe) h2.pe) (λ _ _ _ _ _ => rfl) (λ _ _ _ => rfl) (λ _ _ => rfl) (λ _ _ => rfl) λ _ _ _ => rfl
  · exact λ es h1 => zbj (zmH λ t h => (h1 t h).pe) (λ _ _ _ _ _ => rfl) (λ _ _ _ => rfl) (λ _ _ => rfl) (λ _ _ => rfl) λ _ _ _ => rfl
  · exact λ es h1 => zbj (zk2 λ t h => (h1 t h).pe) (λ _ _ _ _ _ => rfl) (λ _ _ _ => rfl) (λ _ _ => rfl) (λ _ _ => rfl) λ _ _ _ => rfl
  · exact λ op a b h1 h2 => ⟨zoH K rm h1.pe h2.pe, znE K rm h1.pe h2.pe, no_i λ _ _ => rfl, no_f λ _ _ => rfl, no_c λ _ _ _ => rfl⟩
  · exact λ f args _ h2 => zbj (zns K O rm P λ t h => (h2 t h).pe) (λ _ _ _ _ _ => rfl) (λ _ _ _ => rfl) (λ _ _ => rfl) (λ _ _ => rfl) λ _ _ _ => rfl
  · exact λ m o args h1 h2 => zbj (znl O P h1.pe λ t h => (h2 t h).pe) (λ _ _ _ _ _ => rfl) (λ _ _ _ => rfl) (λ _ _ => rfl) (λ _ _ => rfl) λ _ _ _ => rfl
  · exact λ o y z h1 => zbj (zmA h1.pe) (λ _ _ _ _ _ => rfl) (λ _ _ _ => rfl) (λ _ _ => rfl) (λ _ _ => rfl) λ _ _ _ => rfl
  · exact λ ks vs a b h1 h2 h3 h4 => zbj (zmw K (λ t h => (h1 t h).pe) (λ t h => (h2 t h).pe) h3.pe h4.pe) (λ _ _ _ _ _ => rfl) (λ _ _ _ => rfl) (λ _ _ => rfl) (λ _ _ => rfl) λ _ _ _ => rfl
  · exact λ o n _ => zbj (zod K O) (λ _ _ _ _ _ => rfl) (λ _ _ _ => rfl) (λ _ _ => rfl) (λ _ _ => rfl) λ _ _ _ => rfl
  · exact λ o i h1 h2 => zbj (zo2 K h1.pe h2.pe) (λ _ _ _ _ _ => rfl) (λ _ _ _ => rfl) (λ _ _ => rfl) (λ _ _ => rfl) λ _ _ _ => rfl
  · exact λ o lo hi st h1 h2 h3 h4 => zbj (znJ h1.pe h2.pe h3.pe h4.pe) (λ _ _ _ _ _ => rfl) (λ _ _ _ => rfl) (λ _ _ => rfl) (λ _ _ => rfl) λ _ _ _ => rfl
  · exact λ a b h1 h2 => zep (zpg K O rm h1.pe h2.pe) (no_c λ _ _ _ => rfl) (λ _ _ => rfl) (λ _ _ _ => rfl) λ _ _ => rfl
  · exact λ b h1 => zep (zmE K O rm h1.pe) (no_c λ _ _ _ => rfl) (λ _ _ => rfl) (λ _ _ _ => rfl) λ _ _ => rfl
  · exact λ a h1 => zep (zpn K O rm h1.pe) (no_c λ _ _ _ => rfl) (λ _ _ => rfl) (λ _ _ _ => rfl) λ _ _ => rfl
  · exact λ a h1 => zep (zpo rm h1.pe) (no_c λ _ _ _ => rfl) (λ _ _ => rfl) (λ _ _ _ => rfl) λ _ _ => rfl
  · exact λ p it f b fr h1 h2 h3 => zbj (zpQ rm h1.pi h2.pf h3.pc) (λ _ _ _ _ _ => rfl) (λ _ _ _ => rfl) (λ _ _ => rfl) (λ _ _ => rfl) λ _ _ _ => rfl
  · exact λ p it f b h1 h2 h3 => zep (no_i λ _ _ => rfl) (zoj rm h1.pi h2.pf h3.pc) (λ _ _ => rfl) (λ _ _ _ => rfl) λ _ _ => rfl
  · exact λ e h1 => zep (no_i λ _ _ => rfl) (zpe h1.pe) (λ _ _ => rfl) (λ _ _ _ => rfl) λ _ _ => rfl
  · exact λ t h => nomatch h
  · exact λ t ts h1 h2 u h => (List.mem_cons.mp h).elim (λ h => h ▸ h1) (h2 u)
end
end Mine
end
section
open PySem PySem.W PyProof.Rows
set_option maxRecDepth 10000
set_option genSizeOf false
namespace Mine
set_option genInjectivity false in
inductive X where
  | asg (p : Pt) (e : T)
  | own (x : Nat) (e : T)
  | asgs (xs : List Nat) (os : List Bool) (es : List T)
  | mul (xs : List Nat) (e : T)
  | app (x : Nat) (e : T)
  | sto (x : Nat) (i e : T)
  | ino (p : Pt) (f : T) (a : T) (x : Nat) (c : T)
  | iff (c : T) (a b : List X)
  | whl (c : T) (b : List X)
  | fr (p : Pt) (it : T) (b : List X)
  | ret (e : T)
  | retO (x : Nat)
  | brk
  | tri (b : List X)
  deriving Inhabited
inductive Fl where
  | next
  | brk
  | ret (d : D)
inductive WhileR (c : Sg -> Option R) (B : Sg -> Fl -> Sg -> Prop) : Sg -> Fl -> Sg -> Prop
  | stop {σ : Sg} : c σ = some (.d (.bool false)) -> WhileR c B σ .next σ
  | next {σ σ₁ σ' : Sg} {fl : Fl} : c σ = some (.d (.bool true)) -> B σ .next σ₁ -> WhileR c B σ₁ fl σ' -> WhileR c B σ fl σ'
  | brk {σ σ₁ : Sg} : c σ = some (.d (.bool true)) -> B σ .brk σ₁ -> WhileR c B σ .next σ₁
  | ret {σ σ₁ : Sg} {d : D} : c σ = some (.d (.bool true)) -> B σ (.ret d) σ₁ -> WhileR c B σ (.ret d) σ₁
inductive ForR (p : Pt) (B : Sg -> Fl -> Sg -> Prop) : List D -> Sg -> Fl -> Sg -> Prop
  | nil {σ : Sg} : ForR p B [] σ .next σ
  | next {d : D} {ds : List D} {σ σ₁ σ₂ σ' : Sg} {fl : Fl} : pb p d σ = some σ₁ -> B σ₁ .next σ₂ -> ForR p B ds σ₂ fl σ' -> ForR p B (d :: ds) σ fl σ'
  | brk {d : D} {ds : List D} {σ σ₁ σ₂ : Sg} : pb p d σ = some σ₁ -> B σ₁ .brk σ₂ -> ForR p B (d :: ds) σ .next σ₂
  | ret {d x : D} {ds : List D} {σ σ₁ σ₂ : Sg} : pb p d σ = some σ₁ -> B σ₁ (.ret x) σ₂ -> ForR p B (d :: ds) σ (.ret x) σ₂
noncomputable def bndOf (o : Bool) (d : D) : Option B := bif o then d.gL.map .own else some (.fz d)
noncomputable def zhg : List Bool -> List D -> Option (List B)
  | [], ds => if ds.isEmpty = true then some [] else none
  | o :: os, ds => ds.head?.bind λ d => (bndOf o d).bind λ b => (zhg os ds.tail).map (b :: ·)
noncomputable def zdI : Option B -> Bool
  | some (.own _) => false
  | _ => true
noncomputable def zipB : List Nat -> List B -> Sg
  | x :: xs, b :: bs => (x, b) :: zipB xs bs
  | _, _ => []
noncomputable def sidx (n : Nat) (k : Int) : Option Nat := if 0 ≤ k /\ k < n then some k.toNat else none
section
variable (tok : Str -> Option Int) (Φ : String -> List D -> Option D) (Ψ : String -> List D -> Option (D × List D))
mutual
noncomputable def ev1 : X -> Sg -> Fl -> Sg -> Prop
  | .asg p e => λ σ fl σ' => fl = .next /\ ∃ d, pe tok Φ e σ = some (.d d) /\ pb p d σ = some σ'
  | .own x e => λ σ fl σ' => fl = .next /\ ∃ ds, pe tok Φ e σ = some (.d (.lst ds)) /\ σ' = (x, .own ds) :: σ
  | .asgs xs os es => λ σ fl σ' => fl = .next /\ ∃ ds bs, (pes tok Φ es σ).bind allD = some ds /\ zhg os ds = some bs /\ (xs.all λ x => zdI (σ.lookup x)) = true /\ xs.length = bs.length /\ σ' = zipB xs bs ++ σ
  | .mul xs e => λ σ fl σ' => fl = .next /\ ∃ d, pe tok Φ e σ = some (.d d) /\ σ' = zipB xs (xs.map λ _ => .fz d) ++ σ
  | .app x e => λ σ fl σ' => fl = .next /\ ∃ ds d, σ.lookup x = some (.own ds) /\ pe tok Φ e σ = some (.d d) /\ ds.length < 2 ^ 20 /\ σ' = (x, .own (ds ++ [d])) :: σ
  | .sto x i e => λ σ fl σ' => fl = .next /\ ∃ ds d k j, σ.lookup x = some (.own ds) /\ pe tok Φ e σ = some (.d d) /\ pe tok Φ i σ = some (.d (.int k)) /\ sidx ds.length k = some j /\ ds.length ≤ 2 ^ 20 /\ σ' = (x, .own (ds.set j d)) :: σ
  | .ino p f a x c => λ σ fl σ' => fl = .next /\ ∃ k da ds dc d ds', pe tok Φ f σ = some (.d (.fn k)) /\ pe tok Φ a σ = some (.d da) /\ σ.lookup x = some (.own ds) /\ pe tok Φ c σ = some (.d dc) /\ Ψ k [da, .lst ds, dc] = some (d, ds') /\ pb p d ((x, .own ds') :: σ) = some σ'
  | .iff c a b => λ σ fl σ' => ∃ v, pe tok Φ c σ = some (.d (.bool v)) /\ ((v = true /\ evs a σ fl σ') ∨ (v = false /\ evs b σ fl σ'))
  | .whl c b => WhileR (pe tok Φ c) (evs b)
  | .fr p it b => λ σ fl σ' => ∃ items, pit tok Φ true it p σ = some items /\ ForR p (evs b) items σ fl σ'
  | .ret e => λ σ fl σ' => ∃ d, pe tok Φ e σ = some (.d d) /\ fl = .ret d /\ σ' = σ
  | .retO x => λ σ fl σ' => ∃ ds, σ.lookup x = some (.own ds) /\ fl = .ret (.lst ds) /\ σ' = σ
  | .brk => λ σ fl σ' => fl = .brk /\ σ' = σ
  | .tri b => λ σ fl σ' => evs b σ fl σ' /\ ∃ d, fl = .ret d
termination_by structural x => x
noncomputable def evs : List X -> Sg -> Fl -> Sg -> Prop
  | [] => λ σ fl σ' => fl = .next /\ σ' = σ
  | x :: xs => λ σ fl σ' => (∃ σ₁, ev1 x σ .next σ₁ /\ evs xs σ₁ fl σ') ∨ (ev1 x σ fl σ' /\ match fl with | .next => False | _ => True)
termination_by structural x => x
end
end
noncomputable def sv : Stmt -> Expr
  | .Assign _ v _ | .Expr v _ | .Return (some v) _ | .If v _ _ _ | .While v _ _ _ | .For _ v _ _ _ => v
  | _ => default
noncomputable def st : Stmt -> List Expr
  | .Assign ts _ _ => ts
  | .For t _ _ _ _ => [t]
  | _ => []
noncomputable def sb : Stmt -> List Stmt
  | .If _ b _ _ | .While _ b _ _ | .For _ _ b _ _ | .Try b _ _ _ _ => b
  | _ => []
noncomputable def so : Stmt -> List Stmt
  | .If _ _ b _ => b
  | _ => []
noncomputable def sh : Stmt -> List ExceptHandler
  | .Try _ h _ _ _ => h
  | _ => []
noncomputable def h2 (e : Expr) : Expr := (gl e).tail.tail.headD e
noncomputable def hs (l : List Stmt) : Stmt := l.headD default
noncomputable def bN (e : Expr) : Expr := .Name (gs e) e.pos
noncomputable def bNs : List Nat -> List Expr -> List Expr
  | [], _ => []
  | _ :: xs, es => bN (hd es) :: bNs xs es.tail
mutual
noncomputable def bS : X -> Stmt -> Stmt
  | .asg p e, s => .Assign [bP p (hd (st s))] (bE e (sv s)) s.pos
  | .own _ e, s => .Assign [bN (hd (st s))] (bE e (sv s)) s.pos
  | .asgs xs _ es, s => .Assign [.Tuple (bNs xs (gl (hd (st s)))) (gc (hd (st s))) (hd (st s)).pos] (.Tuple (bEs es (gl (sv s))) (gc (sv s)) (sv s).pos) s.pos
  | .mul xs e, s => .Assign (bNs xs (st s)) (bE e (sv s)) s.pos
  | .app _ e, s => .Expr (.Call (.Attribute (bN (g1 (g1 (sv s)))) "append" (g1 (sv s)).pos) [bE e (h0 (sv s))] [] (sv s).pos) s.pos
  | .sto _ i e, s => .Assign [.Subscript (bN (g1 (hd (st s)))) (bE i (g2 (hd (st s)))) (hd (st s)).pos] (bE e (sv s)) s.pos
  | .ino p _ a _ c, s => .Assign [bP p (hd (st s))] (.Call (bN (g1 (sv s))) [bE a (h0 (sv s)), bN (h1 (sv s)), bE c (h2 (sv s))] [] (sv s).pos) s.pos
  | .iff c a b, s => .If (bE c (sv s)) (bSs a (sb s)) (bSs b (so s)) s.pos
  | .whl c b, s => .While (bE c (sv s)) (bSs b (sb s)) [] s.pos
  | .fr p it b, s => .For (bP p (hd (st s))) (bE it (sv s)) (bSs b (sb s)) [] s.pos
  | .ret e, s => .Return (some (bE e (sv s))) s.pos
  | .retO _, s => .Return (some (bN (sv s))) s.pos
  | .brk, s => .Break s.pos
  | .tri b, s => .Try (bSs b (sb s)) ((sh s).headD default :: (sh s).tail) [] [] s.pos
termination_by structural x => x
noncomputable def bSs : List X -> List Stmt -> List Stmt
  | [], _ => []
  | x :: xs, ss => bS x (hs ss) :: bSs xs ss.tail
termination_by structural x => x
end
noncomputable def disp : T -> Bool
  | .tup _ | .lst _ | .lc .. => true
  | _ => false
noncomputable def fre : T -> Bool
  | .lst _ => true
  | .bin op _ _ => zki op
  | _ => false
noncomputable def isL : T -> Bool
  | .lst _ => true
  | _ => false
noncomputable def osOk : List Bool -> List T -> Bool
  | [], _ => true
  | o :: os, ts => (!o || (ts.head?.elim false isL)) && osOk os ts.tail
noncomputable def two : List Nat -> Bool
  | _ :: _ :: _ => true
  | _ => false
section
variable (γ : Str -> Option D) (nt : List Str) (sc : Names)
noncomputable def kV (x : Nat) (e : Expr) : Bool := !(gs e == ("__debug__" : Str)) && nmI nt (gs e) == some x
noncomputable def kNs : List Nat -> List Expr -> Bool
  | [], _ => true
  | x :: xs, es => (locOk sc (gs (hd es)) && nmI nt (gs (hd es)) == some x) && kNs xs es.tail
mutual
noncomputable def kS : X -> Stmt -> Bool
  | .asg p e, s => (!isTup p || !disp e) && (kP nt p sc (hd (st s)) && kE γ nt e sc (sv s))
  | .own x e, s => (fre e && (locOk sc (gs (hd (st s))) && nmI nt (gs (hd (st s))) == some x)) && kE γ nt e sc (sv s)
  | .asgs xs os es, s => (((xs.length == es.length && Nat.ble es.length 1000) && (decide xs.Nodup && osOk os es)) && (!(bEs es (gl (sv s))).all (constantsAlone 8) || (bEs es (gl (sv s))).all (foldedForSure 8))) &&
      (kNs nt sc xs (gl (hd (st s))) && kEs γ nt es sc (gl (sv s)))
  | .mul xs e, s => ((two xs && decide xs.Nodup) && !disp e) && (kNs nt sc xs (st s) && kE γ nt e sc (sv s))
  | .app x e, s => ((g1 (sv s)).pos.endLine == (sv s).pos.line) && (kV nt x (g1 (g1 (sv s))) && kE γ nt e sc (h0 (sv s)))
  | .sto x i e, s => !disp e && (kV nt x (g1 (hd (st s))) && (kE γ nt i sc (g2 (hd (st s))) && kE γ nt e sc (sv s)))
  | .ino p f a x c, s => isTup p && ((kP nt p sc (hd (st s)) && kN γ nt f sc (g1 (sv s))) && (kE γ nt a sc (h0 (sv s)) && (kV nt x (h1 (sv s)) && kE γ nt c sc (h2 (sv s)))))
  | .iff c a b, s => kT γ nt c sc (sv s) (kE γ nt c sc (sv s)) && (kSs a (sb s) && kSs b (so s))
  | .whl c b, s => kT γ nt c sc (sv s) (kE γ nt c sc (sv s)) && kSs b (sb s)
  | .fr p it b, s => (kP nt p sc (hd (st s)) && kI γ nt it sc (sv s)) && kSs b (sb s)
  | .ret e, s => kE γ nt e sc (sv s)
  | .retO x, s => kV nt x (sv s)
  | .brk, _ => true
  | .tri b, s => kSs b (sb s)
termination_by structural x => x
noncomputable def kSs : List X -> List Stmt -> Bool
  | [], _ => true
  | x :: xs, ss => kS x (hs ss) && kSs xs ss.tail
termination_by structural x => x
end
end
mutual
noncomputable def rOk : X -> Bool
  | .retO _ => false
  | .iff _ a b => rOks a && rOks b
  | .whl _ a => rOks a
  | .fr _ _ a => rOks a
  | .tri a => rOks a
  | _ => true
termination_by structural x => x
noncomputable def rOks : List X -> Bool
  | [] => true
  | x :: xs => rOk x && rOks xs
termination_by structural x => x
end
end Mine
end
section
open PySem PySem.W PyProof.Rows
set_option maxRecDepth 10000
namespace Mine
set_option genInjectivity false in
structure Io where
  ad : Addr -> Prop
  lk : Str -> Value -> Prop
structure PS (C : Cx) (A : Around) (env : Env) (sc : Names) (V₀ : Addr -> Prop) (IO : Io) (V W : Addr -> Prop) (τ : PEnv) (s : Shared) : Prop where
  st : St C A env sc V τ s
  wv : ∀ a, W a -> V a
  v0 : ∀ a, V₀ a -> V a
  fr : ∀ a, Wr env sc a -> W a
  nw : ∀ a, W a -> V₀ a -> IO.ad a
  ow : ∀ x ds, τ x = some (.own ds) -> ∃ l, Look s.heap env x (.ref l) /\ W l
  ij : ∀ x y ds es l, τ x = some (.own ds) -> τ y = some (.own es) -> Look s.heap env x (.ref l) -> Look s.heap env y (.ref l) -> x = y
  io : ∀ x u, IO.lk x u -> sc.lookup x = none /\ Look s.heap env x u
noncomputable def Gr (V V' : Addr -> Prop) (s : Shared) : Prop := (∀ a, V a -> V' a) /\ ∀ a, V' a -> V a ∨ s.heap.get? a = none
theorem Gr.refl {V : Addr -> Prop} {s : Shared} : Gr V V s := ⟨λ a h => h, λ a h => .inl h⟩
theorem Gr.trans {V V₁ V₂ Z : Addr -> Prop} {s s₁ : Shared} (m : Mv Z s s₁) (x : Gr V V₁ s) (y : Gr V₁ V₂ s₁) : Gr V V₂ s :=
  ⟨λ a h => y.1 a (x.1 a h), λ a h => (y.2 a h).elim (x.2 a) λ h => .inr (m.no h)⟩
theorem Gr.more {V Z : Addr -> Prop} {s : Shared} (h : ∀ a, Z a -> s.heap.get? a = none) : Gr V (λ a => V a ∨ Z a) s := ⟨λ a h => .inl h, λ a q => q.imp id (h a)⟩
structure Nx (V W V' W' : Addr -> Prop) (s s' : Shared) : Prop where
  mv : Mv W s s'
  gv : Gr V V' s
  gw : Gr W W' s
theorem Mv.back {W W₁ : Addr -> Prop} {s s₁ s₂ : Shared} (x : Mv W s s₁) (g : Gr W W₁ s) (y : Mv W₁ s₁ s₂) : Mv W s s₂ := by
  obtain ⟨⟨h1, t1, rfl⟩, x2, x3, x4⟩ := x
  obtain ⟨⟨h2, t2, rfl⟩, y2, y3, y4⟩ := y
  exact ⟨⟨h2, t2, rfl⟩, Nat.le_trans x2 y2, λ a o n e => y3 a o (λ w => (g.2 a w).elim n λ h => gone h e) (x3 a o n e), λ a o e => let ⟨o', e'⟩ := x4 a o e; y4 a o' e'⟩
theorem Nx.trans {V W V₁ W₁ V₂ W₂ : Addr -> Prop} {s s₁ s₂ : Shared} (x : Nx V W V₁ W₁ s s₁) (y : Nx V₁ W₁ V₂ W₂ s₁ s₂) : Nx V W V₂ W₂ s s₂ := ⟨x.mv.back x.gw y.mv, x.gv.trans x.mv y.gv, x.gw.trans x.mv y.gw⟩
theorem Nx.keep {V W : Addr -> Prop} {s s' : Shared} (k : Kp s s') : Nx V W V W s s' := ⟨k.mv, Gr.refl, Gr.refl⟩
theorem zbn {V W : Addr -> Prop} {s s₁ s₂ : Shared} (k : Kp s s₁) (m : Mv W s₁ s₂) : Nx V W V W s s₂ := ⟨k.mv.trans m, Gr.refl, Gr.refl⟩
section
variable {C : Cx} {nt : List Str} {Φ : String -> List D -> Option D} {A : Around} {env : Env} {sc : Names}
variable {V₀ V W : Addr -> Prop} {IO : Io} {τ : PEnv} {s : Shared} {M : Model}
theorem PS.live (P : PS C A env sc V₀ IO V W τ s) {a : Addr} (h : V a) : ∃ o, s.heap.get? a = some o := P.st.al a h
theorem PS.lst {x : Str} {ds : List D} (P : PS C A env sc V₀ IO V W τ s) (hx : τ x = some (.own ds)) : ∃ l vs, Look s.heap env x (.ref l) /\ W l /\ PlainL s.heap l vs /\ RepAll C.gv s.heap V vs.toList ds := by
  obtain ⟨l, h, w⟩ := P.ow x ds hx
  obtain ⟨v, q1, l', vs, rfl, q2, q3⟩ := P.st.ev x _ hx
  cases zaw h q1
  exact ⟨l, vs, h, w, q2, q3⟩
theorem PS.at {V' W' : Addr -> Prop} {s' : Shared} (P : PS C A env sc V₀ IO V W τ s) (up : Up V V' s.heap s'.heap) (hfr : ∀ a, Fr env a -> V' a /\ ∀ o, s.heap.get? a = some o -> s'.heap.get? a = some o)
    (hl : ∀ l vs, s.heap.IsList l vs -> ∀ o, s.heap.get? l = some o -> s'.heap.get? l = some o) (al : Al V' s'.heap) (ht : s.toks ≤ s'.toks) (hWV : ∀ a, W' a -> V' a) (h0 : ∀ a, V₀ a -> V' a) (hw : ∀ a, W a -> W' a) (hn : ∀ a, W' a -> V₀ a -> W a) : PS C A env sc V₀ IO V' W' τ s' := by
  have lk : ∀ {x v}, Look s.heap env x v -> Look s'.heap env x v := λ l => l.at λ a h => (hfr a h).2
  have back : ∀ x ds l, τ x = some (.own ds) -> Look s'.heap env x (.ref l) -> Look s.heap env x (.ref l) := λ x ds l hx h => by
    obtain ⟨l', q, _⟩ := P.ow x ds hx
    cases zaw h (lk q); exact q
  exact ⟨P.st.move up hfr (λ x ds hx l h => by obtain ⟨l', vs, q, _, p, _⟩ := P.lst hx; cases zaw h q; exact hl l vs p.isList) al ht, hWV, h0, λ a h => hw a (P.fr a h), λ a w v => P.nw a (hn a w v) v,
    λ x ds hx => let ⟨l, h, w⟩ := P.ow x ds hx; ⟨l, lk h, hw l w⟩, λ x y ds es l hx hy lx ly => P.ij x y ds es l hx hy (back x ds l hx lx) (back y es l hy ly), λ x u h => ⟨(P.io x u h).1, lk (P.io x u h).2⟩⟩
theorem PS.keeps {s' : Shared} (P : PS C A env sc V₀ IO V W τ s) (k : Kp s s') : PS C A env sc V₀ IO V W τ s' :=
  P.at (zdp k.1) (λ a h => ⟨P.st.fm.fr a h, λ _ e => zac k.1 _ _ e⟩) (λ _ _ _ _ e => zac k.1 _ _ e) (P.st.al.keeps k.1) k.2 P.wv P.v0 (λ _ w => w) λ _ w _ => w
theorem PS.vol {Z Y : Addr -> Prop} {s' : Shared} (P : PS C A env sc V₀ IO V W τ s) (k : Kp s s') (hz : ∀ a, Z a -> s.heap.get? a = none) (hl : ∀ a, Z a -> ∃ o, s'.heap.get? a = some o) (hy : ∀ a, Y a -> Z a) :
    PS C A env sc V₀ IO (λ a => V a ∨ Z a) (λ a => W a ∨ Y a) τ s' :=
  P.at (zbu k.1 hz) (λ a h => ⟨.inl (P.st.fm.fr a h), λ _ e => zac k.1 _ _ e⟩) (λ _ _ _ _ e => zac k.1 _ _ e) (λ a h => h.elim (P.st.al.keeps k.1 a) (hl a)) k.2 (λ a h => h.imp (P.wv a) (hy a)) (λ a h => .inl (P.v0 a h)) (λ _ w => .inl w)
    λ a w v => w.elim id λ y => let ⟨o, e⟩ := P.live (P.v0 a v); gone (hz a (hy a y)) e
theorem PS.move {Z V' : Addr -> Prop} {s' : Shared} (P : PS C A env sc V₀ IO V W τ s) (hz : ∀ a, Z a -> V a) (hv : ∀ a, V' a -> V a) (hWV : ∀ a, W a -> V' a) (h0 : ∀ a, V₀ a -> V' a) (hfr : ∀ a, Fr env a -> V' a /\ ¬ Z a)
    (nl : ∀ a vs, Z a -> ¬ Heap.IsList s.heap a vs) (hch : ∀ a o, ¬ Z a -> s.heap.get? a = some o -> s'.heap.get? a = some o) (al : Al V' s'.heap) (ht : s.toks ≤ s'.toks) : PS C A env sc V₀ IO V' W τ s' :=
  P.at (λ a o n e => ⟨hch a o (λ z => n (hz a z)) e, λ h => n (hv a h)⟩) (λ a h => ⟨(hfr a h).1, λ o => hch a o (hfr a h).2⟩) (λ l vs h o => hch l o λ z => nl l vs z h) al ht hWV h0 (λ _ w => w) λ _ w _ => w
theorem PS.store {x : Str} {v : Value} {b : B} (P : PS C A env sc V₀ IO V W τ s) (hx : locOk sc x = true) (r : BindV C.gv s.heap V v b)
    (hown : ∀ ds, b = .own ds -> ∃ l, v = .ref l /\ W l /\ ∀ y es, y ≠ x -> τ y = some (.own es) -> ¬ Look s.heap env y (.ref l)) {Q : Unit -> Shared -> Prop} {E : Value -> Shared -> Prop}
    (hQ : ∀ s', Mv W s s' -> PS C A env sc V₀ IO V W (set τ x b) s' -> Look s'.heap env x v -> (∀ y u, y ≠ x -> Look s.heap env y u -> Look s'.heap env y u) -> (∀ u c, BindV C.gv s.heap V u c -> BindV C.gv s'.heap V u c) -> Q () s') : wpAny M A (storeName env x v) Q E s := by
  refine zgf P.st hx r λ s' mv S' lk lo bv => ?_
  have other : ∀ {y ds}, y ≠ x -> set τ x b y = some (.own ds) -> τ y = some (.own ds) /\ ∀ {l}, Look s'.heap env y (.ref l) -> Look s.heap env y (.ref l) := λ {y ds} ne hy => by
    rw [set, if_neg ne] at hy
    refine ⟨hy, λ {l} ly => ?_⟩
    obtain ⟨l', h1, _⟩ := P.ow y ds hy
    cases zaw ly (lo y _ ne h1)
    exact h1
  have self : ∀ {ds}, set τ x b x = some (.own ds) -> b = .own ds := λ h => by
    rw [set, if_pos rfl] at h
    exact Option.some.inj h
  have clash : ∀ {y ds es l}, y ≠ x -> set τ x b x = some (.own ds) -> Look s'.heap env x (.ref l) -> set τ x b y = some (.own es) -> Look s'.heap env y (.ref l) -> False := λ {y ds es l} ne hx lx hy ly => by
    obtain ⟨l', c1, _, c3⟩ := hown ds (self hx)
    cases c1.symm.trans (zaw lk lx)
    exact c3 y es ne (other ne hy).1 ((other ne hy).2 ly)
  refine hQ s' (mv.mono P.fr) ⟨S', P.wv, P.v0, P.fr, P.nw, λ y ds hy => ?_, λ y z ds es l hy hz ly lz => ?_, λ y u h => ⟨(P.io y u h).1, lo y u (λ e => by have := (P.io y u h).1; rw [e] at this; exact (zdu hx).elim (λ q => noE (this.symm.trans q)) λ q => noE (this.symm.trans q)) (P.io y u h).2⟩⟩ lk lo bv
  · by_cases e : y = x
    · subst e
      obtain ⟨l, h1, h2, _⟩ := hown ds (self hy)
      exact ⟨l, h1 ▸ lk, h2⟩
    · obtain ⟨l, h1, h2⟩ := P.ow y ds (other e hy).1
      exact ⟨l, lo y _ e h1, h2⟩
  · by_cases h1 : y = x
    · by_cases h2 : z = x
      · rw [h1, h2]
      · subst h1; exact (clash h2 hy ly hz lz).elim
    · by_cases h2 : z = x
      · subst h2; exact (clash h1 hz lz hy ly).elim
      · exact P.ij y z ds es l (other h1 hy).1 (other h2 hz).1 ((other h1 hy).2 ly) ((other h2 hz).2 lz)
theorem PS.put : Put C A env sc V W (PS C A env sc V₀ IO V W) where
  keep := λ P k => P.keeps k
  put := λ {τ s x v d Q E} P hx r hQ => P.store hx (b := .fz d) r (λ ds h => B.noConfusion h) λ s' m P' _ _ bv => hQ s' m P' λ u e => bv u (.fz e)
theorem PS.write {x : Str} {ds es : List D} {l : Addr} {s' : Shared} {vs : Array Value} (P : PS C A env sc V₀ IO V W τ s) (hx : τ x = some (.own ds)) (hl : Look s.heap env x (.ref l)) (hW : W l) (m : Mv (λ a => a = l) s s') (pl : PlainL s'.heap l vs) (r : RepAll C.gv s'.heap V vs.toList es) : Mv W s s' /\ PS C A env sc V₀ IO V W (set τ x (.own es)) s' := by
  obtain ⟨l₀, vs₀, q1, _, hpl, _⟩ := P.lst hx
  cases zaw hl q1
  have hch : ∀ a o, a ≠ l -> s.heap.get? a = some o -> s'.heap.get? a = some o := λ a o na e => m.chg a o na e
  have mv : Mv W s s' := m.mono λ a h => h ▸ hW
  have nf := P.st.fm.notFr hpl.isList
  have lk : ∀ {y v}, Look s.heap env y v -> Look s'.heap env y v := λ {y v} q => by
    cases q with
    | loc a b c => exact .loc a (zjy b λ o q => hch _ o (zbO b hpl.isList).symm q) c
    | cel a b c => exact .cel a b (zbz c λ o q => hch _ o (zbD c hpl.isList).symm q)
  have up : Up V V s.heap s'.heap := λ a o na e => ⟨hch a o (λ q => na (q ▸ P.wv l hW)) e, na⟩
  have own' : ∀ {y ds}, set τ x (.own es) y = some (.own ds) -> ∃ ds', τ y = some (.own ds') := λ {y ds} hy => by
    by_cases e : y = x
    · exact ⟨_, e ▸ hx⟩
    · rw [set, if_neg e] at hy; exact ⟨_, hy⟩
  have back : ∀ {y ds k}, set τ x (.own es) y = some (.own ds) -> Look s'.heap env y (.ref k) -> Look s.heap env y (.ref k) := λ {y ds k} hy q => by
    obtain ⟨ds', hy'⟩ := own' hy
    obtain ⟨k', q1, _⟩ := P.ow y ds' hy'
    cases zaw q (lk q1); exact q1
  refine ⟨mv, ⟨λ a o e => up a o (P.st.gl a o e).2 (P.st.gl a o e).1, mv.al P.st.al, ⟨P.st.fm.kind, P.st.fm.rel, P.st.fm.glob, P.st.fm.blt, ?_, λ y hy => ?_, P.st.fm.fr, P.st.fm.inj⟩, λ y b hy => ?_, Nat.le_trans P.st.tk mv.toks⟩, P.wv, P.v0, P.fr, P.nw, λ y ds' hy => ?_, λ y z d1 d2 k hy hz ly lz => ?_, λ y u h => ⟨(P.io y u h).1, lk (P.io y u h).2⟩⟩
  · obtain ⟨m, hm⟩ := P.st.fm.ns; exact ⟨m, zjy hm λ o q => hch _ o nf.1.symm q⟩
  · obtain ⟨c, v, e1, e2⟩ := P.st.fm.cel y hy
    exact ⟨c, v, e1, zbz e2 λ o q => hch _ o (λ h => nf.2 y hy (h ▸ e1)) q⟩
  · by_cases e : y = x
    · rw [set, if_pos e] at hy
      cases hy
      exact ⟨.ref l, e ▸ lk hl, l, vs, rfl, pl, r⟩
    · rw [set, if_neg e] at hy
      obtain ⟨v, q1, q2⟩ := P.st.ev y b hy
      exact ⟨v, lk q1, q2.mono up λ ds' k hb hv o => hch k o λ h => e (P.ij y x ds' ds l (hb ▸ hy) hx (h ▸ hv ▸ q1) hl)⟩
  · obtain ⟨ds'', hy'⟩ := own' hy
    obtain ⟨k, q1, q2⟩ := P.ow y ds'' hy'
    exact ⟨k, lk q1, q2⟩
  · obtain ⟨d1', hy'⟩ := own' hy
    obtain ⟨d2', hz'⟩ := own' hz
    exact P.ij y z d1' d2' k hy' hz' (back hy ly) (back hz lz)
end
noncomputable def FlOk (C : Cx) (V₀ : Addr -> Prop) (f : Flow) (fl : Fl) (s' : Shared) : Prop :=
  match fl with
  | .next => f = .next
  | .brk => f = .brk
  | .ret d => ∃ v, f = .ret v /\ Rep C.gv s'.heap V₀ v d
section
variable (C : Cx) (nt : List Str) (Φ : String -> List D -> Option D) (Ψ : String -> List D -> Option (D × List D)) (A : Around) (env : Env) (sc : Names) (V₀ : Addr -> Prop) (IO : Io)
noncomputable def PX (x : X) : Prop := ∀ {z : Stmt} {σ : Sg} {fl : Fl} {σ' : Sg} {V W : Addr -> Prop} {s : Shared} {Q : Flow -> Shared -> Prop} {E : Value -> Shared -> Prop}, kS C.γ nt sc x z = true -> ev1 C.tok Φ Ψ x σ fl σ' -> PS C A env sc V₀ IO V W (pv nt σ) s ->
  (∀ f s' V' W', Nx V W V' W' s s' -> PS C A env sc V₀ IO V' W' (pv nt σ') s' -> FlOk C V₀ f fl s' -> Q f s') -> wpAny (model C.prog C.w) A (exec (bS x z) env) Q E s
noncomputable def PXs (xs : List X) : Prop := ∀ {zs : List Stmt} {σ : Sg} {fl : Fl} {σ' : Sg} {V W : Addr -> Prop} {s : Shared} {Q : Flow -> Shared -> Prop} {E : Value -> Shared -> Prop}, kSs C.γ nt sc xs zs = true -> evs C.tok Φ Ψ xs σ fl σ' -> PS C A env sc V₀ IO V W (pv nt σ) s ->
  (∀ f s' V' W', Nx V W V' W' s s' -> PS C A env sc V₀ IO V' W' (pv nt σ') s' -> FlOk C V₀ f fl s' -> Q f s') -> wpAny (model C.prog C.w) A (execs (bSs xs zs) env) Q E s
end
section
variable {C : Cx} {nt : List Str} {Φ : String -> List D -> Option D} {A : Around} {env : Env} {sc : Names}
variable {V₀ V W : Addr -> Prop} {IO : Io} {τ : PEnv} {σ : Sg} {s : Shared}
set_option genInjectivity false in
structure It where
  i : Nat
  x : Str
  v : Value
  b : B
structure Good (C : Cx) (nt : List Str) (env : Env) (sc : Names) (V W : Addr -> Prop) (τ : PEnv) (h : Heap) (q : It) : Prop where
  loc : locOk sc q.x = true
  ix : nmI nt q.x = some q.i
  bv : BindV C.gv h V q.v q.b
  no : ∀ es, τ q.x ≠ some (.own es)
  ow : ∀ ds, q.b = .own ds -> ∃ a, q.v = .ref a /\ W a /\ ∀ y es, τ y = some (.own es) -> ¬ Look h env y (.ref a)
noncomputable def Apv (p p' : Value × B) : Prop := ∀ a ds es, p.2 = .own ds -> p'.2 = .own es -> p.1 = .ref a -> p'.1 ≠ .ref a
noncomputable def Ap (q q' : It) : Prop := q.i ≠ q'.i /\ Apv (q.v, q.b) (q'.v, q'.b)
theorem Ap.symm {q q' : It} (h : Ap q q') : Ap q' q := ⟨h.1.symm, λ a ds es h1 h2 h3 h4 => h.2 a es ds h2 h1 h4 h3⟩
noncomputable def Sts (M : Model) (A : Around) (env : Env) : List (Value -> Sem Unit) -> List It -> Prop
  | [], [] => True
  | f :: fs, q :: l => (∀ {v Q E s}, wpAny M A (storeName env q.x v) Q E s -> wpAny M A (f v) Q E s) /\ Sts M A env fs l
  | _, _ => False
theorem zgc {E : Value -> Shared -> Prop} (l : List It) : ∀ {s : Shared} {σ : Sg} {fs : List (Value -> Sem Unit)} {Q : Unit -> Shared -> Prop}, PS C A env sc V₀ IO V W (pv nt σ) s -> Sts (model C.prog C.w) A env fs l -> (∀ q ∈ l, Good C nt env sc V W (pv nt σ) s.heap q) -> l.Pairwise Ap ->
    (∀ s', Mv W s s' -> PS C A env sc V₀ IO V W (pv nt ((l.map λ q => (q.i, q.b)).reverse ++ σ)) s' -> Q () s') -> wpAny (model C.prog C.w) A (assignInOrder fs (l.map (·.v))) Q E s := by
  induction l with
  | nil =>
    intro s σ fs Q P hf _ _ hQ
    cases fs with
    | nil => exact wpAny_pure (hQ s (Mv.refl s) P)
    | cons => exact hf.elim
  | cons q l ih =>
    intro s σ fs Q P hf hg hp hQ
    cases fs with
    | nil => exact hf.elim
    | cons f fs =>
      have G := hg q (.head _)
      have hp' := List.pairwise_cons.mp hp
      show wpAny _ _ (do holding _ (f q.v); assignInOrder fs (l.map (·.v))) Q E s
      refine wpAny_bind (wpAny_holding (hf.1 (P.store G.loc G.bv (λ ds hb => let ⟨a, h1, h2, h3⟩ := G.ow ds hb; ⟨a, h1, h2, λ y es _ => h3 y es⟩) λ s₁ m₁ P₁ lk lo bv => ?_)))
      rw [<- zbB G.ix] at P₁
      refine ih P₁ hf.2 (λ q' hq' => ?_) hp'.2 λ s₂ m₂ P₂ => hQ s₂ (m₁.trans m₂) (by rw [List.map_cons, List.reverse_cons, List.append_assoc]; exact P₂)
      have G' := hg q' (.tail _ hq')
      have ap := hp'.1 q' hq'
      have hx : q'.x ≠ q.x := λ e => ap.1 (Option.some.inj ((e ▸ G.ix).symm.trans G'.ix))
      refine ⟨G'.loc, G'.ix, bv _ _ G'.bv, λ es h => G'.no es (by rw [zbB G.ix, set, if_neg hx] at h; exact h), λ ds hb => ?_⟩
      obtain ⟨a, h1, h2, h3⟩ := G'.ow ds hb
      refine ⟨a, h1, h2, λ y es hy hl => ?_⟩
      rw [zbB G.ix] at hy
      by_cases e : y = q.x
      · rw [set, if_pos e] at hy
        exact ap.2 a es ds (Option.some.inj hy) hb (zaw (e ▸ lk) hl) h1
      · rw [set, if_neg e] at hy
        obtain ⟨l', q1, _⟩ := P.ow y es hy
        cases zaw hl (lo y _ e q1)
        exact h3 y es hy q1
noncomputable def mkIt : List Nat -> List Expr -> List (Value × B) -> List It
  | x :: xs, es, p :: ps => ⟨x, gs (hd es), p.1, p.2⟩ :: mkIt xs es.tail ps
  | _, _, _ => []
theorem zi6 : ∀ {xs : List Nat} {es : List Expr} {ps : List (Value × B)}, xs.length = ps.length -> (mkIt xs es ps).map (·.v) = ps.map (·.1) /\ (mkIt xs es ps).map (λ q => (q.i, q.b)) = zipB xs (ps.map (·.2)) /\ (mkIt xs es ps).map (·.x) = (bNs xs es).map gs
  | [], _, [], _ => ⟨rfl, rfl, rfl⟩
  | x :: xs, es, p :: ps, h => let ⟨a, b, c⟩ := zi6 (es := es.tail) (Nat.succ.inj h); ⟨congrArg _ a, congrArg _ b, congrArg _ c⟩
theorem zfv {q : It} : ∀ {xs : List Nat} {es : List Expr} {ps : List (Value × B)}, q ∈ mkIt xs es ps -> kNs nt sc xs es = true -> (locOk sc q.x = true /\ nmI nt q.x = some q.i) /\ q.i ∈ xs /\ (q.v, q.b) ∈ ps
  | x :: xs, es, p :: ps, h, k => andE k λ k1 k2 => andE k1 λ k1 k1' => by
    cases h with
    | head => exact ⟨⟨k1, eq_of_beq k1'⟩, .head _, .head _⟩
    | tail _ h => have := zfv h k2; exact ⟨this.1, .tail _ this.2.1, .tail _ this.2.2⟩
theorem zjc : ∀ {xs : List Nat} {es : List Expr} {ps : List (Value × B)}, kNs nt sc xs es = true -> xs.Nodup -> ps.Pairwise Apv -> (mkIt xs es ps).Pairwise Ap
  | [], _, _, _, _, _ => .nil
  | _ :: _, _, [], _, _, _ => .nil
  | x :: xs, es, p :: ps, k, hn, hp => andE k λ _ k2 => by
    have hn' := List.nodup_cons.mp hn
    have hp' := List.pairwise_cons.mp hp
    refine .cons (λ q hq => ?_) (zjc k2 hn'.2 hp'.2)
    have := zfv hq k2
    exact ⟨λ e => hn'.1 (by rw [show x = q.i from e]; exact this.2.1), hp'.1 _ this.2.2⟩
theorem zkc {M : Model} : ∀ {xs : List Nat} {es : List Expr} {ps : List (Value × B)}, xs.length = ps.length -> Sts M A env ((bNs xs es).map λ e => assign e env) (mkIt xs es ps)
  | [], _, ps, h => by
    cases ps with
    | nil => trivial
    | cons => exact Nat.noConfusion h
  | x :: xs, es, ps, h => by
    cases ps with
    | nil => exact Nat.noConfusion h
    | cons p ps => exact ⟨λ q => wpAny_assign_Name q, zkc (Nat.succ.inj h)⟩
theorem zgb {M : Model} : ∀ {l : List It}, Sts M A env ((l.map (·.x)).map λ x v => bindName env x v) l
  | [] => trivial
  | q :: l => ⟨λ h => wpAny_bindName h, zgb⟩
theorem zcB : ∀ {xs : List Nat} {es : List Expr}, assignEach (bNs xs es) env = (bNs xs es).map λ e => (false, assign e env)
  | [], _ => rfl
  | _ :: xs, es => congrArg _ (zcB (xs := xs))
theorem zgL : ∀ {xs : List Nat} {es : List Expr}, (bNs xs es).length = xs.length
  | [], _ => rfl
  | _ :: xs, es => congrArg Nat.succ (zgL (xs := xs))
theorem zdU {l : Sg} {i : Nat} (h : i ∉ l.map (·.1)) : l.lookup i = none := by
  induction l with
  | nil => rfl
  | cons p l ih =>
    rw [List.map_cons, List.mem_cons, not_or] at h
    rw [List.lookup_cons, beq_eq_false_iff_ne.mpr h.1]
    exact ih h.2
theorem zey {l : Sg} (hn : (l.map (·.1)).Nodup) {i : Nat} {b : B} (h : (i, b) ∈ l) (σ : Sg) : (l ++ σ).lookup i = some b := by
  induction l with
  | nil => cases h
  | cons p l ih =>
    have hn' := List.nodup_cons.mp hn
    rw [List.cons_append, List.lookup_cons]
    cases h with
    | head => rw [beq_self_eq_true]
    | tail _ h =>
      have hm : i ∈ l.map (·.1) := List.mem_map_of_mem (f := (·.1)) h
      have : (i == p.1) = false := beq_eq_false_iff_ne.mpr λ e => (show p.1 ∉ l.map (·.1) from hn'.1) (e ▸ hm)
      rw [this]
      exact ih hn'.2 h
theorem zlE {l : Sg} (hn : (l.map (·.1)).Nodup) : pv nt (l.reverse ++ σ) = pv nt (l ++ σ) := by
  have hn' : (l.reverse.map (·.1)).Nodup := by rw [List.map_reverse]; exact (List.reverse_perm _).nodup_iff.mpr hn
  funext x
  unfold pv
  congr 1
  funext i
  by_cases h : i ∈ l.map (·.1)
  · obtain ⟨⟨j, b⟩, h1, rfl⟩ := List.mem_map.mp h
    rw [zey hn h1, zey hn' (List.mem_reverse.mpr h1)]
  · have h' : i ∉ l.reverse.map (·.1) := by rw [List.map_reverse, List.mem_reverse]; exact h
    rw [List.lookup_append, List.lookup_append, zdU h, zdU h']
theorem zff : ∀ {xs : List Nat} {bs : List B}, xs.length = bs.length -> (zipB xs bs).map (·.1) = xs
  | [], [], _ => rfl
  | x :: xs, b :: bs, h => congrArg _ (zff (Nat.succ.inj h))
theorem zdf {d : D} {v : Value} : ∀ (xs : List Nat) {es : List Expr} {s : Shared} {σ : Sg} {Q : Unit -> Shared -> Prop} {E : Value -> Shared -> Prop}, PS C A env sc V₀ IO V W (pv nt σ) s -> Rep C.gv s.heap V v d -> kNs nt sc xs es = true ->
    (∀ s', Mv W s s' -> PS C A env sc V₀ IO V W (pv nt ((zipB xs (xs.map λ _ => .fz d)).reverse ++ σ)) s' -> Q () s') -> wpAny (model C.prog C.w) A (assignAll v ((bNs xs es).map λ e => assign e env)) Q E s
  | [], es, s, σ, Q, E, P, r, _, hQ => wpAny_pure (hQ s (Mv.refl s) P)
  | x :: xs, es, s, σ, Q, E, P, r, k, hQ => andE k λ k1 k2 => andE k1 λ h1 h2 => by
    have go : wpAny (model C.prog C.w) A (assign (bN (hd es)) env v) (λ _ s₁ => wpAny (model C.prog C.w) A (assignAll v ((bNs xs es.tail).map λ e => assign e env)) Q E s₁) E s := by
      refine wpAny_assign_Name (PS.put.put P h1 r λ s₁ m₁ P₁ b₁ => ?_)
      rw [<- zbB (eq_of_beq h2)] at P₁
      exact zdf xs P₁ (b₁ _ _ r) k2 λ s₂ m₂ P₂ => hQ s₂ (m₁.trans m₂) (by rw [List.map_cons, zipB, List.reverse_cons, List.append_assoc]; exact P₂)
    cases xs with
    | nil => exact wpAny_assign_Name (PS.put.put P h1 r λ s₁ m₁ P₁ _ => hQ s₁ m₁ (by rw [<- zbB (eq_of_beq h2)] at P₁; exact P₁))
    | cons x2 xs =>
      show wpAny _ _ (do holding [v] (assign (bN (hd es)) env v); assignAll v ((bNs (x2 :: xs) es.tail).map λ e => assign e env)) Q E s
      exact wpAny_bind (wpAny_holding go)
end
section
variable {C : Cx} {nt : List Str} {Φ : String -> List D -> Option D} {Ψ : String -> List D -> Option (D × List D)} {A : Around} {env : Env} {sc : Names} {V₀ V W : Addr -> Prop} {IO : Io} {s : Shared} {σ : Sg}
theorem ze3 {l : Addr} {items : Array Value} {k : Int} {t : Tok} {v : Value} {Q : Unit -> Shared -> Prop} {E : Value -> Shared -> Prop} (hl : PlainL s.heap l items) (h0 : 0 ≤ k) (hfit : k < 2 ^ 63) (hn : k < items.size)
    (hQ : ∀ h', PlainL h' l (items.setIfInBounds k.toNat v) -> Heap.SameBut l s.heap h' -> Q () { s with heap := h' }) : wpAny (model C.prog C.w) A (setItem (.ref l) (.int k t) v) Q E s := by
  obtain ⟨o, ne, ho, hc, hdn, hd⟩ := id hl
  have hT := hl.isList.typeIs (s := s)
  unfold setItem
  try with_reducible refine wpAny_holding ?_
  first | refine wpAny_bind (wpAny_pure ?_) | skip
  refine wpAny_bind (wpAny_sequenceKey hT (by decide) ?_)
  refine wpAny_bind (wpAny_callSpecial?_slot (name := Str.ofString "__setitem__") hT slot_list_setitem
    (wpAny_call_entry slot_list_setitem hT entry_list_setitem ?_ (args_list_setitem _ _ _)))
  show wpAny _ _ (Builtin.List.listSubscript? (.int k t) >>= _) _ _ s
  refine wpAny_bind (wpAny_listSubscript_int (fitsIndex_of h0 hfit) ?_)
  clear hfit
  obtain ⟨j, rfl⟩ := Int.eq_ofNat_of_zero_le h0
  have hj : j < items.size := by lia
  have hx' : items[j]? = some items[j] := Array.getElem?_eq_getElem hj
  show wpAny _ _ ((seqItemAt l j >>= λ r => pure (r.map (j, ·))) >>= _) _ _ s
  refine wpAny_bind (wpAny_bind (wpAny_seqItemAt ho hd (wpAny_pure ?_)))
  rw [hx']
  show wpAny _ _ (setSeqItemAt l j v >>= _) _ _ s
  obtain ⟨n', hd'⟩ := Obj.data_mapSeq hd (·.setIfInBounds j v)
  have hfin : PlainL (s.heap.update l (Obj.mapSeq (·.setIfInBounds j v))) l (items.setIfInBounds j v) :=
    ⟨_, n', Heap.get?_update_self _ ho (Obj.isFreed_of_seq hd'), (Obj.cls_mapSeq ..).trans hc, by obtain ⟨c, d, dt, sl⟩ := o; subst hd; exact hdn, hd'⟩
  refine wpAny_bind (wpAny_setSeqItemAt ho hd ?_)
  first
    | exact wpAny_bind (wpAny_pure (wpAny_pure ⟨.none, rfl, wpAny_pure (hQ _ hfin (Heap.SameBut.update ..))⟩))
    | exact wpAny_pure ⟨.none, rfl, wpAny_pure (hQ _ hfin (Heap.SameBut.update ..))⟩
theorem zcU {x : Str} {i : Nat} {ds : List D} (hi : nmI nt x = some i) (h : σ.lookup i = some (.own ds)) : pv nt σ x = some (.own ds) := by unfold pv; rw [hi]; exact h
theorem zbs {x : Str} {np : Pos} {v : Value} {M : Model} {Q E : Value -> Shared -> Prop} (F : Fm env sc V s.heap) (l : Look s.heap env x v) (hd : (x == ("__debug__" : Str)) = false) (h : Q v s) : wpAny M A (eval (.Name x np) env) Q E s :=
  wpAny_Name (zfK F.kind l h) hd
noncomputable def lcT : T -> Bool
  | .lc .. => true
  | _ => false
theorem ziS {γ : Str -> Option D} {t : T} {e : Expr} {o : Option Expr} {n : Nat} (hk : kE γ nt t sc e = true) (h : lcT t = false) : swapsWith (bE t e) o n env = pure false := by
  cases t with
  | cst d => show swapsWith (bif isNm e then _ else _) o n env = pure false; cases isNm e <;> rfl
  | not_ | rng | rng1 | enm | pln | gen | yld => exact ffE hk
  | lc => exact ffE h.symm
  | _ => rfl
theorem zgv {γ : Str -> Option D} {t : T} {e : Expr} {o : Option Expr} {n : Nat} (hk : kE γ nt t sc e = true) (h : disp t = false) : swapsWith (bE t e) o n env = pure false := ziS hk (by cases t <;> first | rfl | exact ffE h.symm)
theorem zku {γ : Str -> Option D} {t : T} {e : Expr} {ts : List Expr} {k : Nat} {p : Pos} (hk : kE γ nt t sc e = true) (h : disp t = false) : swappedStores [.Tuple ts k p] (bE t e) env = pure none := by
  cases t with
  | cst d => show swappedStores _ (bif isNm e then _ else _) env = pure none; cases isNm e <;> rfl
  | not_ | rng | rng1 | enm | pln | gen | yld => exact ffE hk
  | lst | tup | lc => exact ffE h.symm
  | _ => rfl
theorem zj1 {vs : Array Value} {ds : List D} {τ : PEnv} {s₁ : Shared} (P : PS C A env sc V₀ IO V W τ s) (k₁ : Kp s s₁) (r : RepAll C.gv s₁.heap V vs.toList ds) :
    ∃ s₂ l, s₂ = { s₁ with heap := s₁.heap.push { cls := .type "list", data := .seq vs } } /\ s₁.heap.objs.size = l /\ s.heap.get? l = none /\ Kp s s₂ /\ PS C A env sc V₀ IO (λ a => V a ∨ a = l) (λ a => W a ∨ a = l) τ s₂ /\ Nx V W (λ a => V a ∨ a = l) (λ a => W a ∨ a = l) s s₂ /\ BindV C.gv s₂.heap (λ a => V a ∨ a = l) (.ref l) (.own ds) := by
  have hz : ∀ a, a = s₁.heap.objs.size -> s₁.heap.get? a = none := λ a h => by rw [h]; exact zav _
  have k₂ : Kp s₁ { s₁ with heap := s₁.heap.push { cls := .type "list", data := .seq vs } } := ⟨zai _ _, Nat.le_refl _⟩
  have hn : ∀ a, a = s₁.heap.objs.size -> s.heap.get? a = none := λ a h => k₁.no (hz a h)
  exact ⟨_, _, rfl, rfl, hn _ rfl, zae k₁ k₂, (P.keeps k₁).vol k₂ hz (λ a h => by subst h; exact ⟨_, Heap.get?_push_size _ rfl⟩) λ a h => h, ⟨(zae k₁ k₂).mv, Gr.more hn, Gr.more hn⟩,
    _, vs, rfl, ⟨_, _, Heap.get?_push_size _ rfl, rfl, rfl, rfl⟩, r.vol k₂.1 hz⟩
theorem zkP {op : Operator} {a b : Int} {l : List D} (h : intP op a b = some (.lst l)) : False := by
  cases op <;> first | exact noE h | exact D.noConfusion (Option.some.inj h) | exact ifE h λ _ h => D.noConfusion h
theorem zls {op : Operator} {a : Str} {y : D} {l : List D} (h : strP op a y = some (.lst l)) : False := by
  cases op <;> first | exact noE h | exact bindE h λ _ _ h => ifE h λ _ h => D.noConfusion h
theorem zk1 {op : Operator} {x y : D} {l : List D} (h : binP op x y = some (.lst l)) : False := by
  cases x with
  | int a => exact bindE h λ _ _ h => zkP h
  | str a => exact zls h
  | _ => exact noE h
theorem zez {t : T} {e : Expr} {ds : List D} (K : C.Ok) (O : C.Obj) (rm : Rm A) (Ph : PhiOk C Φ A) (ha : fre t = true) (he : kE C.γ nt t sc e = true) (S : St C A env sc V (pv nt σ) s) (hp : pe C.tok Φ t σ = some (.d (.lst ds))) {Q E : Value -> Shared -> Prop}
    (hQ : ∀ s₁ (vs : Array Value), Kp s s₁ -> RepAll C.gv s₁.heap V vs.toList ds -> Q (.ref s₁.heap.objs.size) { s₁ with heap := s₁.heap.push { cls := .type "list", data := .seq vs } }) : wpAny (model C.prog C.w) A (eval (bE t e) env) Q E s := by
  cases t with
  | lst es =>
    refine andE he λ k1 k2 => mapE hp λ ds' hds h => ?_
    cases h
    exact wpAny_List (zdr (λ t _ => (allE K O rm Ph t).pe) k1 k2 S hds _ _ λ vs s₁ k₁ q₁ => ⟨q₁.2, hQ s₁ vs.toArray k₁ q₁.1⟩)
  | bin op a b =>
    exact andE he λ k1 k2 => bindE hp λ x e1 hp => bindE hp λ y e2 hp =>
      wpAny_BinOp ((allE K O rm Ph a).pe k1 S e1 _ _ λ u s₁ k₁ q₁ => (allE K O rm Ph b).pe k2 (S.keeps k₁) e2 _ _ λ v s₂ k₂ q₂ => by
        have q₁' := RepR.keeps q₁ k₂.1
        unfold binR at hp
        cases hq : addL op x y with
        | some q =>
          rw [hq] at hp
          obtain ⟨rfl, h1, h2⟩ := zkg hq
          refine ifE hp λ hsz hp => ?_
          cases hp
          obtain ⟨l1, vs, rfl, h1, r1⟩ := q₁'.asL h1
          obtain ⟨l2, ws, rfl, h2, r2⟩ := RepR.asL q₂ h2
          have e1 := r1.length
          have e2 := r2.length
          rw [Array.length_toList] at e1 e2
          refine zek h1 h2 (hQ s₂ (vs ++ ws) (zae k₁ k₂) (by rw [Array.toList_append]; exact r1.append r2)) ?_
          rw [sizeLine_eq]; lia
        | none =>
          rw [hq] at hp
          exact bindE hp λ _ _ hp => bindE hp λ _ _ hp => mapE hp λ d hd h => (zk1 (hd.trans (congrArg some (R.d.inj h)))).elim)
  | _ => exact ffE ha
variable {Q : Flow -> Shared -> Prop} {E : Value -> Shared -> Prop} {z : Stmt} {fl : Fl} {σ' : Sg}
theorem zog {x : Nat} {t : T} (K : C.Ok) (O : C.Obj) (rm : Rm A) (Ph : PhiOk C Φ A) : PX C nt Φ Ψ A env sc V₀ IO (.own x t) := λ {z σ fl σ' V W s Q E} h ev P hQ =>
  andE h λ h hk => andE h λ hf h => andE h λ hl hi => by
    obtain ⟨rfl, ds, e1, rfl⟩ := ev
    refine wpAny_Assign_Name (zez K O rm Ph hf hk P.st e1 λ s₁ vs k₁ r => ?_) ?_
    · obtain ⟨s₂, l, h2, hl', hn, k₂, P₂, n₂, bv⟩ := zj1 P k₁ r
      rw [<- h2, hl']
      refine P₂.store hl bv (λ es _ => ⟨l, rfl, .inr rfl, λ y es' _ hy hlk => ?_⟩) λ s₃ m₃ P₃ _ _ _ => hQ .next s₃ _ _ ⟨n₂.mv.back n₂.gw m₃, n₂.gv, n₂.gw⟩ (by rw [zbB (eq_of_beq hi)]; exact P₃) rfl
      obtain ⟨l', h1, h2'⟩ := P.ow y es' hy
      cases zaw hlk (h1.keeps k₂.1)
      obtain ⟨o, q⟩ := P.live (P.wv _ h2')
      exact gone hn q
    · cases t with
      | lst | bin => rfl
      | _ => exact ffE hf
theorem zn3 {x : Nat} {t : T} (K : C.Ok) (O : C.Obj) (rm : Rm A) (Ph : PhiOk C Φ A) : PX C nt Φ Ψ A env sc V₀ IO (.app x t) := λ {z σ fl σ' V W s Q E} h ev P hQ =>
  andE h λ hl h => andE h λ hv hk => andE hv λ hd hi => by
    obtain ⟨rfl, ds, d, hx, e1, hsz, rfl⟩ := ev
    have hx' := zcU (eq_of_beq hi) hx
    have hI : interactive env = false := by unfold interactive; rw [P.st.fm.kind]; rfl
    obtain ⟨l, vs, hlk, hW, hpl, hr⟩ := P.lst hx'
    have hse : starEach [bE t (h0 (sv z))] env = [(false, eval (bE t (h0 (sv z))) env)] := zcl hk
    refine wpAny_Expr_any (wpAny_Call_append rfl (by rw [hse]; rfl) hl (by rw [hse]; rfl) (zbs P.st.fm hlk (zdj hd) ⟨l, vs, rfl, hpl, ?_⟩)) hI rfl
    refine (allE K O rm Ph t).pe hk P.st e1 _ _ λ u s₁ k₁ q₁ => ?_
    have len := hr.length
    rw [Array.length_toList] at len
    refine list_append_plainL (hpl.keeps (zac k₁.1)) (λ h' pl' hsb => ?_) (by rw [sizeLine_eq]; lia)
    have up : Up V V s₁.heap h' := λ a o na e => ⟨(hsb.2 a λ q => na (q ▸ P.wv l hW)).trans e, na⟩
    obtain ⟨m₂, P₂⟩ := (P.keeps k₁).write hx' (hlk.keeps k₁.1) hW (zbv (tk := s₁.toks) hsb rfl (zaV pl') (Nat.le_refl _)) pl' (es := ds ++ [d]) (by
      rw [Array.toList_push]
      exact ((hr.keeps k₁.1).mono up).append (.cons (Rep.mono up q₁) .nil))
    exact hQ .next _ V W (zbn k₁ m₂) (by rw [zbB (eq_of_beq hi)]; exact P₂) rfl
theorem zpr {x : Nat} {ti t : T} (K : C.Ok) (O : C.Obj) (rm : Rm A) (Ph : PhiOk C Φ A) : PX C nt Φ Ψ A env sc V₀ IO (.sto x ti t) := λ {z σ fl σ' V W s Q E} h ev P hQ =>
  andE h λ hdp h => andE h λ hv h => andE hv λ hd hi => andE h λ hki hk => by
    obtain ⟨rfl, ds, d, k, j, hx, e1, ei, hj, hsz, rfl⟩ := ev
    have hx' := zcU (eq_of_beq hi) hx
    obtain ⟨l, vs, hlk, hW, hpl, hr⟩ := P.lst hx'
    refine wpAny_Assign_Subscript ((allE K O rm Ph t).pe hk P.st e1 _ _ λ u s₁ k₁ q₁ => ?_) (zgv hk (zdj hdp))
    have P₁ := P.keeps k₁
    refine zbs P₁.st.fm (hlk.keeps k₁.1) (zdj hd) ?_
    refine (allE K O rm Ph ti).pe hki P₁.st ei _ _ λ w s₂ k₂ q₂ => ?_
    obtain ⟨u', rfl⟩ := Rep.int_inv q₂
    have k₁₂ := zae k₁ k₂
    have len := hr.length
    rw [Array.length_toList] at len
    refine ifE hj λ hk hj => ?_
    subst hj
    refine ze3 (hpl.keeps (zac k₁₂.1)) hk.1 (by lia) (by lia) λ h' pl' hsb => ?_
    have up : Up V V s₂.heap h' := λ a o na e => ⟨(hsb.2 a λ q => na (q ▸ P.wv l hW)).trans e, na⟩
    obtain ⟨m₂, P₃⟩ := (P₁.keeps k₂).write hx' (hlk.keeps k₁₂.1) hW (zbv (tk := s₂.toks) hsb rfl (zaV pl') (Nat.le_refl _)) pl' (es := ds.set k.toNat d) (by
      rw [Array.toList_setIfInBounds]
      exact ((hr.keeps k₁₂.1).mono up).set (Rep.mono up (Rep.keeps q₁ k₂.1)))
    exact hQ .next _ V W (zbn k₁₂ m₂) (by rw [zbB (eq_of_beq hi)]; exact P₃) rfl
theorem zom {xs : List Nat} {t : T} (K : C.Ok) (O : C.Obj) (rm : Rm A) (Ph : PhiOk C Φ A) : PX C nt Φ Ψ A env sc V₀ IO (.mul xs t) := λ {z σ fl σ' V W s Q E} h ev P hQ =>
  andE h λ h hk => andE h λ h hdp => andE h λ h2 hnd => andE hk λ hn hk => by
    obtain ⟨rfl, d, e1, rfl⟩ := ev
    have fin : ∀ {u s₁}, Kp s s₁ -> Rep C.gv s₁.heap V u d -> wpAny (model C.prog C.w) A (assignAll u ((bNs xs (st z)).map λ e => assign e env)) (λ _ s' => Q .next s') E s₁ := λ {u s₁} k₁ q₁ =>
      zdf xs (P.keeps k₁) q₁ hn λ s₂ m₂ P₂ => hQ .next s₂ V W (zbn k₁ m₂) (by rw [<- zlE (by rw [zff (by rw [List.length_map])]; exact of_decide_eq_true hnd)]; exact P₂) rfl
    have pt := (allE K O rm Ph t).pe hk P.st e1
    cases xs with
    | nil => exact ffE h2
    | cons x xs => cases xs with
      | nil => exact ffE h2
      | cons y xs =>
        refine wpAny_Assign_stores (pt _ _ λ u s₁ k₁ q₁ => ?_) rfl rfl
        rw [zcB, List.map_map]
        exact fin k₁ q₁
end
noncomputable def PsiOk (C : Cx) (Ψ : String -> List D -> Option (D × List D)) (A : Around) : Prop :=
  ∀ k da ds dc d ds', Ψ k [da, .lst ds, dc] = some (d, ds') -> isBi k = false /\ k ≠ "EXACT_TOKEN_TYPES" /\ ∀ {s : Shared} {V : Addr -> Prop} {fv va vc : Value} {l : Addr} {vs : Array Value}, C.gv k = some fv -> Gl C V s.heap -> Al V s.heap -> 1 ≤ s.toks ->
    Rep C.gv s.heap V va da -> Rep C.gv s.heap V vc dc -> V l -> PlainL s.heap l vs -> RepAll C.gv s.heap V vs.toList ds -> ∀ (Q E : Value -> Shared -> Prop),
    (∀ v s' vs', Mv (λ a => a = l) s s' -> PlainL s'.heap l vs' -> RepAll C.gv s'.heap V vs'.toList ds' -> Rep C.gv s'.heap V v d -> Q v s') -> wpAny (model C.prog C.w) A (call fv [va, .ref l, vc]) Q E s
section
variable {C : Cx} {nt : List Str} {Φ : String -> List D -> Option D} {Ψ : String -> List D -> Option (D × List D)} {A : Around} {env : Env} {sc : Names} {V₀ V W : Addr -> Prop} {IO : Io} {s : Shared} {σ : Sg}
theorem PS.wcong {W' : Addr -> Prop} {τ : PEnv} (P : PS C A env sc V₀ IO V W τ s) (h : ∀ a, W a ↔ W' a) : PS C A env sc V₀ IO V W' τ s := (funext λ a => propext (h a) : W = W') ▸ P
theorem zlt {i : Nat} {xn : Str} {xp pos : Pos} {p : Pt} {it f b : T} {fr : List Nat} {e : Expr} {d : D} (K : C.Ok) (O : C.Obj) (rm : Rm A) (Ph : PhiOk C Φ A) (hl : locOk sc xn = true) (hi : nmI nt xn = some i) (hk : kE C.γ nt (.lc p it f b fr) sc e = true) (hb : swapsWith (bE (.lc p it f b fr) e) (some (.Name xn xp)) pos.line env = pure true)
    (ev : pe C.tok Φ (.lc p it f b fr) σ = some (.d d)) (P : PS C A env sc V₀ IO V W (pv nt σ) s) {Q : Flow -> Shared -> Prop} {E : Value -> Shared -> Prop}
    (hQ : ∀ s', Mv W s s' -> PS C A env sc V₀ IO V W (pv nt ((i, .fz d) :: σ)) s' -> Q .next s') : wpAny (model C.prog C.w) A (exec (.Assign [.Name xn xp] (bE (.lc p it f b fr) e) pos) env) Q E s :=
  lcE hk λ h1 h2 h3 h4 h5 h6 h7 h8 => by
    rw [exec_Assign_Name_used (hs := hb)]
    refine wpAny_bind (wpAny_standAt (wpAny_bind ?_))
    show wpAny _ A (do let _ <- comprehension (.ListComp (bY b (g1 e)) (⟨bP p (hc (gG e)).target, bE it (hc (gG e)).iter, bF f (hc (gG e)).ifs, 0⟩ :: bG b (gG e).tail) (gS e) e.pos) (gS e) env (bE it (hc (gG e)).iter).pos (newList []) false (eval (bE it (hc (gG e)).iter) env) (some (assign (.Name xn xp) env))) _ _ s
    refine wpAny_bind (wpAny_mono (zjf (use := some (assign (.Name xn xp) env)) (Q := λ _ s' => Q .next s') rm (allE K O rm Ph it).pi (allE K O rm Ph f).pf (allE K O rm Ph b).pc h1 h2 h3 h4 h5 h6 h7 h8 P.st ev λ ds Dl L s' hr k hL hNs q => ?_) (λ _ s' hq => wpAny_pure (wpAny_pure hq)) λ _ _ e => e)
    cases hr
    clear ev h1 h2 h3 h4 h5 h6 h7 h8 hk hb
    obtain ⟨m, hm⟩ := hNs
    have hLz : ∀ a, a = L -> s.heap.get? a = none := λ a h => by rw [h]; exact hL
    have P₁ := P.vol (Z := λ a => a = L) (Y := λ _ => False) k hLz (λ a h => by subst h; exact zgT hm) (λ a h => h.elim)
    have hVL : ∀ a, V a -> a ≠ L := λ a h hL' => let ⟨o, q⟩ := P.live h; gone (hLz a hL') q
    show wpAny _ A (assign (.Name xn xp) env (.ref Dl)) _ _ _
    refine wpAny_assign_Name (PS.put.put P₁ hl q λ s'' m'' P'' _ => ?_)
    have hNs'' : s''.heap.Ns L m := zjy hm λ o q => m''.chg L o (λ h => h.elim (λ h => hVL L (P.wv L h) rfl) λ h => h) q
    refine ⟨m, hNs'', λ h' hs' => hQ _ ?_ ?_⟩
    · have m' : Mv W s s'' := k.mv.trans (m''.mono λ a h => h.elim id λ f => f.elim)
      obtain ⟨⟨h1, t1, e1⟩, m2, m3, m4⟩ := m'
      have nL : ∀ {a o}, s.heap.get? a = some o -> a ≠ L := λ q h => gone (hLz _ h) q
      exact ⟨⟨h', t1, by rw [e1]⟩, m2, λ a o na q => (hs'.2 a (nL q)).trans (m3 a o na q), λ a o q => let ⟨o', q'⟩ := m4 a o q; ⟨o', (hs'.2 a (nL q)).trans q'⟩⟩
    · rw [zbB hi]
      exact (P''.move (s' := { s'' with heap := h' }) (V' := V) (Z := λ a => a = L) (λ a z => .inr z) (λ a v => .inl v) (λ a w => w.elim (P.wv a) λ f => f.elim) P.v0 (λ a h => ⟨P.st.fm.fr a h, hVL a (P.st.fm.fr a h)⟩) (λ a vs h hl => by subst h; exact zbO hNs'' hl rfl) (λ a o na e => (hs'.2 a na).trans e) (λ a v => let ⟨o, q⟩ := P''.live (.inl v); ⟨o, (hs'.2 a (hVL a v)).trans q⟩) (Nat.le_refl _)).wcong λ a => ⟨λ h => h.elim id λ f => f.elim, .inl⟩
theorem zpm {p : Pt} {t : T} (K : C.Ok) (O : C.Obj) (rm : Rm A) (Ph : PhiOk C Φ A) : PX C nt Φ Ψ A env sc V₀ IO (.asg p t) := λ {z σ fl σ' V W s Q E} h ev P hQ =>
  andE h λ hdd hpk => andE hpk λ hp hk => by
    obtain ⟨rfl, d, e1, e2⟩ := ev
    have pe := (allE K O rm Ph t).pe hk P.st e1
    clear h hpk
    cases p with
    | tp ps =>
      have hdp : disp t = false := zdj (show (!disp t) = true from hdd)
      exact Assign_Tuple (pe _ _ λ u s₁ k₁ q₁ => bindP rm PS.put (.tp ps) (P.keeps k₁) hp q₁ e2 λ s₂ m₂ P₂ _ => hQ .next s₂ V W (zbn k₁ m₂) P₂ rfl) (show swapsWith (bE t (sv z)) (some (bP (.tp ps) (hd (st z)))) z.pos.line env = pure false from zgv hk hdp) (zku hk hdp)
    | nm i =>
      refine andE hp λ hl hi => ?_
      cases e2
      have plain : swapsWith (bE t (sv z)) (some (bN (hd (st z)))) z.pos.line env = pure false -> wpAny (model C.prog C.w) A (exec (.Assign [bN (hd (st z))] (bE t (sv z)) z.pos) env) Q E s := λ hs =>
        wpAny_Assign_Name (pe _ _ λ u s₁ k₁ q₁ => PS.put.put (P.keeps k₁) hl q₁ λ s₂ m₂ P₂ _ => hQ .next s₂ V W (zbn k₁ m₂) (by rw [zbB (eq_of_beq hi)]; exact P₂) rfl) hs
      cases hdp : disp t with
      | false => exact plain (zgv hk hdp)
      | true =>
        cases t with
        | lst => exact plain rfl
        | tup => exact plain rfl
        | lc p it f b fr =>
          obtain ⟨bb, hb⟩ : ∃ bb, swapsWith (bE (.lc p it f b fr) (sv z)) (some (bN (hd (st z)))) z.pos.line env = pure bb := ⟨_, rfl⟩
          cases bb with
          | false => exact plain hb
          | true => exact zlt K O rm Ph hl (eq_of_beq hi) hk hb e1 P λ s' m' P' => hQ .next s' V W ⟨m', Gr.refl, Gr.refl⟩ P' rfl
        | _ => exact ffE hdp
end
section
variable {C : Cx} {nt : List Str} {Φ : String -> List D -> Option D} {Ψ : String -> List D -> Option (D × List D)} {A : Around} {env : Env} {sc : Names} {V₀ V W : Addr -> Prop} {IO : Io} {s : Shared} {σ : Sg}
theorem zp2 {V W V' W' : Addr -> Prop} {s s' : Shared} (n : Nx V W V' W' s s') (k : Kp s s') : Up V V' s.heap s'.heap := λ a o na q => ⟨zac k.1 _ _ q, λ h => (n.gv.2 a h).elim na λ hn => gone hn q⟩
noncomputable def ItOk (C : Cx) (V W : Addr -> Prop) (s₀ s : Shared) (p : Value × B) : Prop := BindV C.gv s.heap V p.1 p.2 /\ ∀ ds, p.2 = .own ds -> ∃ a, p.1 = .ref a /\ W a /\ s₀.heap.get? a = none /\ ∃ o, s.heap.get? a = some o
theorem zna {t : T} (h : isL t = true) : fre t = true := by
  cases t with
  | lst => rfl
  | _ => exact ffE h
theorem zjA (K : C.Ok) (O : C.Obj) (rm : Rm A) (Ph : PhiOk C Φ A) (ts : List T) : ∀ {es : List Expr} {V W : Addr -> Prop} {s : Shared} {os : List Bool} {ds : List D} {bs : List B} {Q : List Value -> Shared -> Prop} {E : Value -> Shared -> Prop}, kEs C.γ nt ts sc es = true -> osOk os ts = true -> (pes C.tok Φ ts σ).bind allD = some ds -> zhg os ds = some bs ->
    PS C A env sc V₀ IO V W (pv nt σ) s -> (∀ (ps : List (Value × B)) s' V' W', ps.map (·.2) = bs -> Nx V W V' W' s s' -> Kp s s' -> PS C A env sc V₀ IO V' W' (pv nt σ) s' -> (∀ p ∈ ps, ItOk C V' W' s s' p) -> ps.Pairwise Apv -> Q (ps.map (·.1)) s') -> wpAny (model C.prog C.w) A (spliced ((bEs ts es).map λ e => (false, eval e env))) Q E s := by
  induction ts with
  | nil =>
    intro es V W s os ds bs Q E h ho e hb P hQ
    cases e
    have : bs = [] := by
      cases os with
      | nil => exact (Option.some.inj hb).symm
      | cons => exact noE hb
    subst this
    exact Calls.spliced_nil (hQ [] s V W rfl (Nx.keep (za4 s)) (za4 s) P (λ p h => nomatch h) .nil)
  | cons t ts ih =>
    intro es V W s os ds bs Q E h ho e hb P hQ
    refine andE h λ h1 h2 => zfi e λ d ds' e1 e2 e3 => ?_
    subst e3
    cases os with
    | nil => exact noE hb
    | cons o os =>
      refine andE ho λ ho1 ho2 => bindE (show (bndOf o d).bind (λ b => (zhg os ds').map (b :: ·)) = some bs from hb) λ b hb1 hb => mapE hb λ bs' hbs hb => ?_
      subst hb
      have step : ∀ {v s₁ V₁ W₁}, Nx V W V₁ W₁ s s₁ -> Kp s s₁ -> PS C A env sc V₀ IO V₁ W₁ (pv nt σ) s₁ -> ItOk C V₁ W₁ s s₁ (v, b) -> wpAny (model C.prog C.w) A (spliced ((bEs ts es.tail).map λ e => (false, eval e env))) (λ vs s' => Q (v :: vs) s') E s₁ := λ {v s₁ V₁ W₁} n₁ k₁ P₁ g => by
        refine ih h2 ho2 e2 hbs P₁ λ ps s₂ V₂ W₂ hm n₂ k₂ P₂ hi hp => hQ ((v, b) :: ps) s₂ V₂ W₂ (by rw [<- hm]; rfl) (n₁.trans n₂) (zae k₁ k₂) P₂ (λ q hq => ?_) (.cons (λ q hq a ds es h1 h2 h3 h4 => ?_) hp)
        · cases hq with
          | head => exact ⟨g.1.mono (zp2 n₂ k₂) λ _ l _ _ o => zac k₂.1 l o, λ ds hd => let ⟨a, h1, h2, h3, o, h4⟩ := g.2 ds hd; ⟨a, h1, n₂.gw.1 a h2, h3, o, zac k₂.1 _ _ h4⟩⟩
          | tail _ hq => exact ⟨(hi q hq).1, λ ds hd => let ⟨a, h1, h2, h3, h4⟩ := (hi q hq).2 ds hd; ⟨a, h1, h2, k₁.no h3, h4⟩⟩
        · obtain ⟨a', c1, _, c3, _⟩ := (hi q hq).2 es h2
          obtain ⟨a₀, d1, _, _, o, d4⟩ := g.2 ds h1
          cases c1.symm.trans h4
          cases d1.symm.trans h3
          exact gone c3 d4
      cases o with
      | false =>
        cases hb1
        exact Calls.spliced_cons ((allE K O rm Ph t).pe h1 P.st e1 _ _ λ v s₁ k₁ q₁ => step (Nx.keep k₁) k₁ (P.keeps k₁) ⟨q₁, λ ds h => B.noConfusion h⟩)
      | true =>
        refine mapE (show (d.gL).map B.own = some b from hb1) λ d0 hd0 hb2 => ?_
        subst hb2
        cases znx hd0
        have hl : isL t = true := ho1
        refine Calls.spliced_cons (zez K O rm Ph (zna hl) h1 P.st e1 λ s₁ vs₀ k₁ r => ?_)
        obtain ⟨s₂, l, h2', hl', hn, k₂, P₂, n₂, bv⟩ := zj1 P k₁ r
        rw [<- h2', hl']
        exact step n₂ k₂ P₂ ⟨bv, λ ds _ => ⟨l, rfl, .inr rfl, hn, P₂.live (.inr rfl)⟩⟩
theorem zhp (f : Expr -> Option Str) : ∀ {l : List Expr}, (∀ e ∈ l, f e = some (gs e) ∨ f e = none) -> (l.filterMap f).length ≤ l.length /\ ((l.filterMap f).length = l.length -> l.filterMap f = l.map gs)
  | [], _ => ⟨Nat.le_refl _, λ _ => rfl⟩
  | e :: es, h => by
    obtain ⟨a1, a2⟩ := zhp f λ e he => h e (.tail _ he)
    rw [List.filterMap_cons]
    rcases h e (.head _) with q | q
    · rw [q]
      exact ⟨Nat.succ_le_succ a1, λ hl => congrArg _ (a2 (Nat.succ.inj hl))⟩
    · rw [q]
      exact ⟨Nat.le_succ_of_le a1, λ hl => absurd (Nat.le_trans (Nat.le_of_eq hl.symm) a1) (Nat.not_succ_le_self _)⟩
theorem zjw {e : Expr} : ∀ {xs : List Nat} {es : List Expr}, e ∈ bNs xs es -> ∃ y p, e = .Name y p
  | [], _, h => nomatch h
  | x :: xs, es, h => (List.mem_cons.mp h).elim (λ h => ⟨_, _, h⟩) zjw
theorem zfo {xs : List Nat} {es vs : List Expr} {k k' : Nat} {p p' : Pos} (hc : (!vs.all (constantsAlone 8) || vs.all (foldedForSure 8)) = true) :
    swappedStores [.Tuple (bNs xs es) k p] (.Tuple vs k' p') env = pure none ∨ swappedStores [.Tuple (bNs xs es) k p] (.Tuple vs k' p') env = pure (some ((bNs xs es).map gs)) := by
  unfold swappedStores
  dsimp only
  generalize hg : ((bNs xs es).filterMap λ x => match x with
    | .Name id pos => if (env.kindOf id == some .local && pos.line == ((bNs xs es).head?.map (·.pos.line)).getD 0) = true then some id else none
    | _ => none) = names
  have hn : names.length = (bNs xs es).length -> names = (bNs xs es).map gs := by
    intro hl
    rw [<- hg] at hl ⊢
    refine (zhp _ λ e he => ?_).2 hl
    obtain ⟨x, p, rfl⟩ := zjw he
    by_cases h : (env.kindOf x == some .local && p.line == ((bNs xs es).head?.map (·.pos.line)).getD 0) = true
    · left; exact if_pos h
    · right; exact if_neg h
  clear hg
  split
  · exact .inl rfl
  · split
    · exact .inl rfl
    · split
      · exact .inl rfl
      · rename_i h3
        split
        · exact .inl rfl
        · rename_i h4
          split
          · rename_i h5
            rw [h5, eq_false_of_ne_true h4] at hc
            exact ffE hc
          · right
            rw [Bool.or_eq_true, not_or] at h3
            have : names.length = (bNs xs es).length := by simpa using h3.1
            rw [hn this]
theorem zb7 {test : Expr} {body : List Stmt} {R : Result -> Shared -> Prop}
    (h : wpAny (model C.prog C.w) A (isTrue test env (eval test env)) (λ b s₂ => if b = true then wpAny (model C.prog C.w) A (execs body env) (λ f s₃ => match f with
        | .next | .cont => codeAny (model C.prog C.w) A (.whileLoop test body [] env) R s₃
        | .brk => R (.ok .next) s₃
        | .ret v => R (.ok (.ret v)) s₃) (notedBy (model C.prog C.w) A env λ e s' => R (.error e) s') s₂ else R (.ok .next) s₂) (notedBy (model C.prog C.w) A env λ e s' => R (.error e) s') s) :
    codeAny (model C.prog C.w) A (.whileLoop test body [] env) R s := by
  refine codeAny_of_tree ?_
  show wpAny _ A ((whileTurn test body [] env).onRaise (λ x => do noteFrame x env; theTreesLotGoes x)) _ _ s
  refine wpAny_noted ?_
  simp only [whileTurn]
  refine wpAny_bind (wpAny_mono h (λ b s₂ h₂ => ?_) λ _ _ h' => h')
  cases b with
  | false =>
    simp only [Bool.false_eq_true, if_false] at h₂ ⊢
    exact wpAny_bind (wpAny_execs_nil (wpAny_pure h₂))
  | true =>
    simp only [if_true] at h₂ ⊢
    refine wpAny_bind (wpAny_mono h₂ (λ f s₃ h₃ => ?_) λ _ _ h' => h')
    cases f with
    | next => exact wpAny_pure ⟨rfl, h₃⟩
    | cont => exact wpAny_pure ⟨rfl, h₃⟩
    | brk => exact wpAny_pure h₃
    | ret v => exact wpAny_pure h₃
theorem zhz {target : Expr} {it : Value} {body : List Stmt} {R : Result -> Shared -> Prop}
    (h : wpAny (model C.prog C.w) A (pyNext it) (λ r s₁ => match r with
      | none => R (.ok .next) s₁
      | some v => wpAny (model C.prog C.w) A (letOwnedTupleGo target it v) (λ _ s₁' => wpAny (model C.prog C.w) A (assign target env v) (λ _ s₂ => wpAny (model C.prog C.w) A (execs body env) (λ f s₃ => match f with
            | .next | .cont => codeAny (model C.prog C.w) A (.forLoop target it body [] env) R s₃
            | .brk => R (.ok .next) s₃
            | .ret v => R (.ok (.ret v)) s₃) (notedBy (model C.prog C.w) A env λ e s' => R (.error e) s') s₂) (notedBy (model C.prog C.w) A env λ e s' => R (.error e) s') s₁') (notedBy (model C.prog C.w) A env λ e s' => R (.error e) s') s₁)
      (notedBy (model C.prog C.w) A env λ e s' => R (.error e) s') s) : codeAny (model C.prog C.w) A (.forLoop target it body [] env) R s := by
  refine codeAny_of_tree ?_
  show wpAny _ A ((forTurn target it body [] env).onRaise (λ x => do noteFrame x env; theTreesLotGoes x)) _ _ s
  refine wpAny_noted ?_
  simp only [forTurn]
  refine wpAny_bind (wpAny_standAt (wpAny_bind (wpAny_onRaise (wpAny_mono h (λ r s₁ h₁ => ?_) λ _ _ h' => wpAny_standAt h'))))
  cases r with
  | none => exact wpAny_pure ⟨rfl, codeAny_block (wpAny_execs_nil h₁)⟩
  | some v =>
    refine wpAny_bind (wpAny_mono h₁ (λ _ s₁' h₁' => ?_) λ _ _ h' => h')
    refine wpAny_bind (wpAny_mono h₁' (λ _ s₂ h₂ => wpAny_bind (wpAny_mono h₂ (λ f s₃ h₃ => ?_) λ _ _ h' => h')) λ _ _ h' => h')
    cases f with
    | next => exact wpAny_pure ⟨rfl, h₃⟩
    | cont => exact wpAny_pure ⟨rfl, h₃⟩
    | brk => exact wpAny_pure h₃
    | ret v => exact wpAny_pure h₃
theorem znm {M : Model} {l : List It} : Sts M A env ((l.map (·.x)).reverse.map λ x v => bindName env x v) l.reverse := by
  rw [<- List.map_reverse]; exact zgb
theorem zmC {xs : List Nat} {os : List Bool} {ts : List T} (K : C.Ok) (O : C.Obj) (rm : Rm A) (Ph : PhiOk C Φ A) : PX C nt Φ Ψ A env sc V₀ IO (.asgs xs os ts) := λ {z σ fl σ' V W s Q E} h ev P hQ =>
  andE h λ h hk => andE h λ h hc => andE h λ h h' => andE h λ hlen h1000 => andE h' λ hnd ho => andE hk λ hn hk => by
    obtain ⟨rfl, ds, bs, e1, e2, e3, e4, rfl⟩ := ev
    have nd := of_decide_eq_true hnd
    have evT : ∀ {Q' E' : Value -> Shared -> Prop}, (∀ (ps : List (Value × B)) s₂ V₂ W₂, ps.map (·.2) = bs -> Nx V W V₂ W₂ s s₂ -> PS C A env sc V₀ IO V₂ W₂ (pv nt σ) s₂ -> (∀ q ∈ mkIt xs (gl (hd (st z))) ps, Good C nt env sc V₂ W₂ (pv nt σ) s₂.heap q) -> (mkIt xs (gl (hd (st z))) ps).Pairwise Ap -> ∀ t, s₂.heap.IsTuple t (ps.map (·.1)).toArray -> Q' (.ref t) s₂) ->
        wpAny (model C.prog C.w) A (eval (.Tuple (bEs ts (gl (sv z))) (gc (sv z)) (sv z).pos) env) Q' E' s := λ {Q' E'} h => by
      refine wpAny_Tuple ?_
      rw [zjs hk]
      refine zjA K O rm Ph ts hk ho e1 e2 P λ ps s₁ V₁ W₁ hm n₁ k₁ P₁ hi hp => ⟨?_, ?_⟩
      · rw [sizeLine_eq, List.length_map, <- List.length_map (f := (·.2)), hm, <- e4, eq_of_beq hlen]
        exact Nat.le_trans (Nat.le_of_ble_eq_true h1000) (by decide)
      · have k₂ : Kp s₁ { s₁ with heap := s₁.heap.push { cls := .type "tuple", data := .seq (ps.map (·.1)).toArray } } := ⟨zai _ _, Nat.le_refl _⟩
        refine h ps _ V₁ W₁ hm (n₁.trans (Nx.keep k₂)) (P₁.keeps k₂) (λ q hq => ?_) (zjc hn nd hp) _ ⟨_, Heap.get?_push_size _ rfl, rfl, _, rfl⟩
        obtain ⟨⟨h1, h2⟩, h3, h4⟩ := zfv hq hn
        have g := hi _ h4
        refine ⟨h1, h2, BindV.keeps g.1 k₂.1, λ es hy => ?_, λ ds hd => ?_⟩
        · have := List.all_eq_true.mp e3 q.i h3
          rw [(bindE hy λ i hi hy => by rw [h2] at hi; cases hi; exact hy : σ.lookup q.i = some (.own es))] at this
          exact ffE this
        · obtain ⟨a, a1, a2, a3, _⟩ := g.2 ds hd
          refine ⟨a, a1, a2, λ y es hy hly => ?_⟩
          obtain ⟨l', q1, q2⟩ := P.ow y es hy
          cases zaw hly ((q1.keeps k₁.1).keeps k₂.1)
          obtain ⟨o, q⟩ := P.live (P.wv _ q2)
          exact gone a3 q
    have goodK : ∀ {s₂ s₃ : Shared} {V₂ W₂ : Addr -> Prop} {q : It}, PS C A env sc V₀ IO V₂ W₂ (pv nt σ) s₂ -> Kp s₂ s₃ -> Good C nt env sc V₂ W₂ (pv nt σ) s₂.heap q -> Good C nt env sc V₂ W₂ (pv nt σ) s₃.heap q := λ {s₂ s₃ V₂ W₂ q} P₂ k g =>
      ⟨g.loc, g.ix, g.bv.keeps k.1, g.no, λ ds hd => let ⟨a, a1, a2, a3⟩ := g.ow ds hd; ⟨a, a1, a2, λ y es hy hly => by
        obtain ⟨l', q1, _⟩ := P₂.ow y es hy
        cases zaw hly (q1.keeps k.1)
        exact a3 y es hy q1⟩⟩
    rcases zfo (env := env) (xs := xs) (es := gl (hd (st z))) (k := gc (hd (st z))) (p := (hd (st z)).pos) (k' := gc (sv z)) (p' := (sv z).pos) hc with hsw | hsw
    · refine Assign_Tuple (evT λ ps s₂ V₂ W₂ hm n₂ P₂ hg hp t ht => ?_) rfl hsw
      have hl : xs.length = ps.length := by rw [<- List.length_map (f := (·.2)) (as := ps), hm]; exact e4
      obtain ⟨m1, m2, m3⟩ := zi6 (es := gl (hd (st z))) hl
      refine wpAny_assign_Tuple rm.handled ht (by rw [zcB, List.length_map, zgL, List.size_toArray, List.length_map, hl]) (by rw [zcB]; simp [List.findIdx?_eq_none_iff]) λ h' hx' => ?_
      have k₃ : Kp s₂ { s₂ with heap := h' } := ⟨⟨h', s₂.toks, rfl, λ b o e => hx' b o (Nat.ne_of_lt (Heap.lt_size e)) e⟩, Nat.le_refl _⟩
      rw [zcB, List.map_map]
      show wpAny _ _ (assignInOrder ((bNs xs (gl (hd (st z)))).map λ e => assign e env) (ps.map (·.1))) _ _ _
      rw [<- m1]
      refine zgc _ (P₂.keeps k₃) (zkc hl) (λ q hq => goodK P₂ k₃ (hg q hq)) hp λ s₄ m₄ P₄ => hQ .next s₄ V₂ W₂ (n₂.trans (zbn k₃ m₄)) ?_ rfl
      rw [m2, hm] at P₄
      rw [<- zlE (by rw [zff e4]; exact nd)]
      exact P₄
    · refine Assign_Tuple_swapped (evT λ ps s₂ V₂ W₂ hm n₂ P₂ hg hp t ht => ?_) rfl hsw
      have hl : xs.length = ps.length := by rw [<- List.length_map (f := (·.2)) (as := ps), hm]; exact e4
      obtain ⟨m1, m2, m3⟩ := zi6 (es := gl (hd (st z))) hl
      rw [show ((bNs xs (gl (hd (st z)))).map gs).length = (ps.map (·.1)).toArray.size by rw [List.length_map, zgL, List.size_toArray, List.length_map, hl]]
      refine unpackItems_tuple rm.handled ht λ h' hx' => ?_
      have k₃ : Kp s₂ { s₂ with heap := h' } := ⟨⟨h', s₂.toks, rfl, λ b o e => hx' b o (Nat.ne_of_lt (Heap.lt_size e)) e⟩, Nat.le_refl _⟩
      show wpAny _ _ (assignInOrder (((bNs xs (gl (hd (st z)))).map gs).reverse.map λ x v => bindName env x v) (ps.map (·.1)).reverse) _ _ _
      rw [<- m1, <- m3, <- List.map_reverse (f := λ q : It => q.v)]
      refine zgc _ (P₂.keeps k₃) znm (λ q hq => goodK P₂ k₃ (hg q (List.mem_reverse.mp hq))) (List.pairwise_reverse.mpr (hp.imp Ap.symm)) λ s₄ m₄ P₄ => hQ .next s₄ V₂ W₂ (n₂.trans (zbn k₃ m₄)) ?_ rfl
      rw [List.map_reverse, List.reverse_reverse, m2, hm] at P₄
      exact P₄
end
section
variable {C : Cx} {nt : List Str} {Φ : String -> List D -> Option D} {Ψ : String -> List D -> Option (D × List D)} {A : Around} {env : Env} {sc : Names} {V₀ V W : Addr -> Prop} {IO : Io} {s : Shared} {σ : Sg}
theorem zo3 {p : Pt} {f a c : T} {x : Nat} (K : C.Ok) (O : C.Obj) (rm : Rm A) (Ph : PhiOk C Φ A) (Ps : PsiOk C Ψ A) : PX C nt Φ Ψ A env sc V₀ IO (.ino p f a x c) := λ {z σ fl σ' V W s Q E} h ev P hQ =>
  andE h λ htp h => andE h λ h h' => andE h λ hp hf => andE h' λ ha h => andE h λ hv hc => andE hv λ hdb hi => by
    obtain ⟨rfl, k, da, ds, dc, d, ds', e1, e2, e3, e4, e5, e6⟩ := ev
    have hx' := zcU (eq_of_beq hi) e3
    obtain ⟨l, vs, hlk, hW, hpl, hr⟩ := P.lst hx'
    have hse : backTo (sv z).pos (starEach [bE a (h0 (sv z)), bN (h1 (sv z)), bE c (h2 (sv z))] env) = [bE a (h0 (sv z)), bN (h1 (sv z)), bE c (h2 (sv z))].map λ e => (false, eval e env) := by
      rw [zcl ha, show starEach (bN (h1 (sv z)) :: [bE c (h2 (sv z))]) env = (false, eval (bN (h1 (sv z))) env) :: starEach [bE c (h2 (sv z))] env from rfl, zcl hc]; rfl
    have body : wpAny (model C.prog C.w) A (eval (.Call (bN (g1 (sv z))) [bE a (h0 (sv z)), bN (h1 (sv z)), bE c (h2 (sv z))] [] (sv z).pos) env) (λ u s₁ => wpAny (model C.prog C.w) A (assign (bP p (hd (st z))) env u) (λ _ s' => Q .next s') E s₁) E s := by
      refine wpAny_Call_ofName (zjP K hf P.st e1 _ _ λ fv s₁ k₁ q₁ => ?_)
      show wpAny _ _ (callWith (sv z).pos fv [] (backTo (sv z).pos (starEach [bE a (h0 (sv z)), bN (h1 (sv z)), bE c (h2 (sv z))] env)) []) _ _ _
      rw [hse]
      have hk := Rep.fn_inv q₁
      obtain ⟨hb, hne, pc⟩ := Ps k da ds dc d ds' e5
      have P₁ := P.keeps k₁
      refine O.cw k fv hk hb hne zbI (Calls.evalArgs_plain (Calls.spliced_cons ((allE K O rm Ph a).pe ha P₁.st e2 _ _ λ va s₂ k₂ q₂ => ?_)))
      have P₂ := P₁.keeps k₂
      have k₁₂ := zae k₁ k₂
      refine Calls.spliced_cons (zbs P₂.st.fm (hlk.keeps k₁₂.1) (zdj hdb) ?_)
      refine Calls.spliced_cons ((allE K O rm Ph c).pe hc P₂.st e4 _ _ λ vc s₃ k₃ q₃ => Calls.spliced_nil ?_)
      have P₃ := P₂.keeps k₃
      have k₁₃ := zae k₁₂ k₃
      refine ⟨P₃.st.gl.keep, pc hk P₃.st.gl P₃.st.al P₃.st.tk (Rep.keeps q₂ k₃.1) q₃ (P.wv l hW) (hpl.keeps (zac k₁₃.1)) (hr.keeps k₁₃.1) _ _ λ v s₄ vs' m pl' r' rv => ?_⟩
      obtain ⟨m₄, P₄⟩ := P₃.write hx' (hlk.keeps k₁₃.1) hW m pl' r'
      rw [<- zbB (eq_of_beq hi)] at P₄
      exact bindP rm PS.put p P₄ hp rv e6 λ s₅ m₅ P₅ _ => hQ .next s₅ V W (zbn k₁₃ (m₄.trans m₅)) P₅ rfl
    cases p with
    | nm => exact ffE htp
    | tp ps => exact Assign_Tuple body (show swapsWith (.Call (bN (g1 (sv z))) [bE a (h0 (sv z)), bN (h1 (sv z)), bE c (h2 (sv z))] [] (sv z).pos) (some (bP (.tp ps) (hd (st z)))) z.pos.line env = pure false from rfl) rfl
theorem zpK {c : T} {a b : List X} (hc : PT C nt Φ A c) (ha : PXs C nt Φ Ψ A env sc V₀ IO a) (hb : PXs C nt Φ Ψ A env sc V₀ IO b) : PX C nt Φ Ψ A env sc V₀ IO (.iff c a b) := λ {z σ fl σ' V W s Q E} h ev P hQ =>
  andE h λ kc h => andE h λ ka kb => by
    obtain ⟨v, e1, e2⟩ := ev
    refine wpAny_If (hc kc P.st (by rw [e1]; rfl : _ = some v) _ _ λ u s₁ k₁ q₁ => ?_)
    subst q₁
    rcases e2 with ⟨rfl, e⟩ | ⟨rfl, e⟩
    · exact ha ka e (P.keeps k₁) λ f s₂ V₂ W₂ n₂ P₂ hf => hQ f s₂ V₂ W₂ ((Nx.keep k₁).trans n₂) P₂ hf
    · exact hb kb e (P.keeps k₁) λ f s₂ V₂ W₂ n₂ P₂ hf => hQ f s₂ V₂ W₂ ((Nx.keep k₁).trans n₂) P₂ hf
theorem zkO {c : T} {b : List X} (hc : PT C nt Φ A c) (hb : PXs C nt Φ Ψ A env sc V₀ IO b) : PX C nt Φ Ψ A env sc V₀ IO (.whl c b) := λ {z σ fl σ' V W s Q E} h ev P hQ =>
  andE h λ kc kb => by
    refine wpAny_While ?_
    have key : ∀ {σ fl σ'}, WhileR (pe C.tok Φ c) (evs C.tok Φ Ψ b) σ fl σ' -> ∀ {V W : Addr -> Prop} {s : Shared} {R : Result -> Shared -> Prop}, PS C A env sc V₀ IO V W (pv nt σ) s ->
        (∀ f s' V' W', Nx V W V' W' s s' -> PS C A env sc V₀ IO V' W' (pv nt σ') s' -> FlOk C V₀ f fl s' -> R (.ok f) s') -> codeAny (model C.prog C.w) A (.whileLoop (bE c (sv z)) (bSs b (sb z)) [] env) R s := by
      intro σ fl σ' d
      induction d with
      | stop e1 =>
        intro V W s R P hR
        refine zb7 (hc kc P.st (by rw [e1]; rfl : _ = some false) _ _ λ u s₁ k₁ q₁ => ?_)
        subst q₁
        exact hR .next s₁ V W (Nx.keep k₁) (P.keeps k₁) rfl
      | next e1 e2 _ ih =>
        intro V W s R P hR
        refine zb7 (hc kc P.st (by rw [e1]; rfl : _ = some true) _ _ λ u s₁ k₁ q₁ => ?_)
        subst q₁
        exact hb kb e2 (P.keeps k₁) λ f s₂ V₂ W₂ n₂ P₂ hf => by
          cases (show f = .next from hf)
          exact ih P₂ λ f s₃ V₃ W₃ n₃ P₃ hf₃ => hR f s₃ V₃ W₃ (((Nx.keep k₁).trans n₂).trans n₃) P₃ hf₃
      | brk e1 e2 =>
        intro V W s R P hR
        refine zb7 (hc kc P.st (by rw [e1]; rfl : _ = some true) _ _ λ u s₁ k₁ q₁ => ?_)
        subst q₁
        exact hb kb e2 (P.keeps k₁) λ f s₂ V₂ W₂ n₂ P₂ hf => by
          cases (show f = .brk from hf)
          exact hR .next s₂ V₂ W₂ ((Nx.keep k₁).trans n₂) P₂ rfl
      | ret e1 e2 =>
        intro V W s R P hR
        refine zb7 (hc kc P.st (by rw [e1]; rfl : _ = some true) _ _ λ u s₁ k₁ q₁ => ?_)
        subst q₁
        exact hb kb e2 (P.keeps k₁) λ f s₂ V₂ W₂ n₂ P₂ hf => by
          obtain ⟨v, rfl, hr⟩ := hf
          exact hR (.ret v) s₂ V₂ W₂ ((Nx.keep k₁).trans n₂) P₂ ⟨v, rfl, hr⟩
    exact key ev P hQ
structure FS (C : Cx) (A : Around) (nt : List Str) (env : Env) (sc : Names) (V₀ : Addr -> Prop) (IO : Io) (V W Z : Addr -> Prop) (core : Nat -> Heap -> Prop) (inv : (Addr -> Prop) -> Heap -> Prop) (s s₁ : Shared) (j : Nat) (σ : Sg) (U Wc : Addr -> Prop) (s' : Shared) : Prop where
  zu : ∀ a, Z a -> U a
  wz : ∀ a, Wc a -> ¬ Z a
  vu : ∀ a, V a -> U a
  uv : ∀ a, U a -> V a ∨ s₁.heap.get? a = none
  no : ∀ a, s'.heap.get? a = none -> s₁.heap.get? a = none
  nx : Nx V W U Wc s s'
  ps : PS C A env sc V₀ IO U Wc (pv nt σ) s'
  co : core j s'.heap
  iv : ∀ U' : Addr -> Prop, (∀ a, U a -> U' a) -> (∀ a, U' a -> V a ∨ s₁.heap.get? a = none) -> inv U' s'.heap
theorem zhX {p : Pt} {te : Expr} {b : List X} {zs : List Stmt} {items : List D} {fl : Fl} {σ' : Sg} {s₁ s₂ : Shared} {iv : Value} {R : Result -> Shared -> Prop} (rm : Rm A) (hb : PXs C nt Φ Ψ A env sc V₀ IO b) (kb : kSs C.γ nt sc b zs = true) (hp : kP nt p sc te = true)
    (e2 : ForR p (evs C.tok Φ Ψ b) items σ fl σ') (P : PS C A env sc V₀ IO V W (pv nt σ) s) (k₁ : Kp s s₁) (hit : Itr C.prog C.w A C.gv V (bP p te) (true = true) items s₁ iv s₂)
    (hR : ∀ f s'' V' W', Nx V W V' W' s s'' -> PS C A env sc V₀ IO V' W' (pv nt σ') s'' -> FlOk C V₀ f fl s'' -> R (.ok f) s'') : codeAny (model C.prog C.w) A (.forLoop (bP p te) iv (bSs b zs) [] env) R s₂ := by
  obtain ⟨I, Z, fp, core, inv, rfl, k₂, hz, hfl, hfz, hcore, hW⟩ := hit
  have hfp : ∀ a, fp a -> Z a := hfz rfl
  have k₁₂ := zae k₁ k₂
  have nZ : ∀ a, Z a -> s.heap.get? a = none := λ a z => k₁.no (hz a z).1
  have VZ : ∀ a, V a -> ¬ Z a := λ a v z => let ⟨o, q⟩ := P.live v; gone (nZ a z) q
  have frV := P.st.fm.fr
  have turn : ∀ {d : D} {ds : List D} {j : Nat} {σ σ₁ : Sg} {U Wc : Addr -> Prop} {s' : Shared} {R : Result -> Shared -> Prop}, items.drop j = d :: ds -> pb p d σ = some σ₁ -> FS C A nt env sc V₀ IO V W Z core inv s s₁ j σ U Wc s' ->
      (∀ s₃, FS C A nt env sc V₀ IO V W Z core inv s s₁ (j + 1) σ₁ U Wc s₃ ->
        wpAny (model C.prog C.w) A (execs (bSs b zs) env) (λ f s₄ => match f with
            | .next | .cont => codeAny (model C.prog C.w) A (.forLoop (bP p te) (.ref I) (bSs b zs) [] env) R s₄
            | .brk => R (.ok .next) s₄
            | .ret v => R (.ok (.ret v)) s₄) (notedBy (model C.prog C.w) A env λ e s' => R (.error e) s') s₃) -> codeAny (model C.prog C.w) A (.forLoop (bP p te) (.ref I) (bSs b zs) [] env) R s' := by
    intro d ds j σ σ₁ U Wc s' R hj hpb F cont
    obtain ⟨hjd, _⟩ := zfs hj
    obtain ⟨_, _, Wk'⟩ := hW U F.vu F.uv
    have hS := And.intro F.co (F.iv U (λ a h => h) F.uv)
    refine zhz (wpAny_mono (Wk'.item j d s' (λ v s₁' => wpAny (model C.prog C.w) A (assign (bP p te) env v) (λ _ s₂ => wpAny (model C.prog C.w) A (execs (bSs b zs) env) (λ f s₃ => match f with
            | .next | .cont => codeAny (model C.prog C.w) A (.forLoop (bP p te) (.ref I) (bSs b zs) [] env) R s₃
            | .brk => R (.ok .next) s₃
            | .ret v => R (.ok (.ret v)) s₃) (notedBy (model C.prog C.w) A env λ e s' => R (.error e) s') s₂) (notedBy (model C.prog C.w) A env λ e s' => R (.error e) s') s₁') _ hjd hS (λ a h => h.elim (F.ps.st.al a) λ z => F.ps.st.al a (F.zu a z)) λ v s'' m hS' q => ?_) (λ r s₁ h₁ => ?_) λ _ _ h' => h')
    rotate_left
    · cases r with
      | none => exact h₁.elim
      | some v => exact h₁
    have P'' := F.ps.move (V' := U) (Z := Z) F.zu (λ a h => h) F.ps.wv F.ps.v0 (λ a ha => ⟨F.vu a (frV a ha), VZ a (frV a ha)⟩) (λ a vs z => Wk'.nl _ _ a vs hS z) m.chg (m.al F.ps.st.al) m.toks
    refine bindP rm PS.put p P'' hp (q.sub λ a h => .inl h) hpb λ s₃ m₃ P₃ _ => ?_
    refine cont s₃ ⟨F.zu, F.wz, F.vu, F.uv, λ a h => F.no a (m.no (m₃.no h)), ⟨?_, F.nx.gv, F.nx.gw⟩, P₃, ?_, λ U' h1 h2 => ?_⟩
    · obtain ⟨⟨⟨h1, t1, rfl⟩, a2, a3, a4⟩, gv, gw⟩ := F.nx
      obtain ⟨⟨h2, t2, rfl⟩, b2, b3, b4⟩ := m
      have nz : ∀ a o, s.heap.get? a = some o -> ¬ Z a := λ a o e z => gone (nZ a z) e
      exact (⟨⟨h2, t2, rfl⟩, Nat.le_trans a2 b2, λ a o n e => b3 a o (nz a o e) (a3 a o n e), λ a o e => let ⟨o', e'⟩ := a4 a o e; b4 a o' e'⟩ : Mv W s _).back gw m₃
    · exact (Wk'.frame _ _ _ hS' λ a ha o e => m₃.chg a o (λ w => ha.elim (λ f => F.wz a w (hfp a f)) λ nu => nu (.inl (P''.wv a w))) e).1
    · obtain ⟨_, hp', _⟩ := hW U' (λ a h => h1 a (F.vu a h)) h2
      exact hp' s''.heap s₃.heap (hp' s'.heap s''.heap (F.iv U' h1 h2) λ a na o e => m.chg a o (λ z => na (.inr z)) e) λ a na o e => m₃.chg a o (λ w => na (.inl (h1 a (P''.wv a w)))) e
  have key : ∀ {rest σ fl σ'}, ForR p (evs C.tok Φ Ψ b) rest σ fl σ' -> ∀ {j : Nat} {U Wc : Addr -> Prop} {s' : Shared} {R : Result -> Shared -> Prop}, j ≤ items.length -> items.drop j = rest -> FS C A nt env sc V₀ IO V W Z core inv s s₁ j σ U Wc s' ->
      (∀ f s'' V' W', Nx V W V' W' s s'' -> PS C A env sc V₀ IO V' W' (pv nt σ') s'' -> FlOk C V₀ f fl s'' -> R (.ok f) s'') -> codeAny (model C.prog C.w) A (.forLoop (bP p te) (.ref I) (bSs b zs) [] env) R s' := by
    intro rest σ fl σ' dr
    induction dr with
    | nil =>
      intro j U Wc s' R hjl hj F hR
      cases Nat.le_antisymm hjl (List.drop_eq_nil_iff.mp hj)
      obtain ⟨_, _, Wk'⟩ := hW U F.vu F.uv
      have hS := And.intro F.co (F.iv U (λ a h => h) F.uv)
      refine zhz (wpAny_mono (Wk'.done s' (λ s'' => R (.ok .next) s'') _ hS λ s'' m => ?_) (λ r s₁ h₁ => ?_) λ _ _ h' => h')
      · refine hR .next s'' (λ a => U a /\ ¬ Z a) Wc ?_ ?_ rfl
        · obtain ⟨⟨⟨h1, t1, rfl⟩, a2, a3, a4⟩, gv, gw⟩ := F.nx
          obtain ⟨⟨h2, t2, rfl⟩, b2, b3⟩ := m
          have nz : ∀ a o, s.heap.get? a = some o -> ¬ Z a := λ a o e z => gone (nZ a z) e
          exact ⟨⟨⟨h2, t2, rfl⟩, Nat.le_trans a2 b2, λ a o n e => b3 a o (nz a o e) (a3 a o n e), λ a o e => let ⟨o', e'⟩ := a4 a o e; ⟨o', b3 a o' (nz a o e) e'⟩⟩, ⟨λ a h => ⟨gv.1 a h, VZ a h⟩, λ a h => gv.2 a h.1⟩, gw⟩
        · exact F.ps.move (Z := Z) F.zu (λ a h => h.1) (λ a w => ⟨F.ps.wv a w, F.wz a w⟩) (λ a h => ⟨F.ps.v0 a h, VZ a (P.v0 a h)⟩) (λ a ha => ⟨⟨F.vu a (frV a ha), VZ a (frV a ha)⟩, VZ a (frV a ha)⟩) (λ a vs z => Wk'.nl _ _ a vs hS z) m.chg (λ a h => let ⟨o, q⟩ := F.ps.live h.1; ⟨o, m.chg a o h.2 q⟩) m.toks
      · obtain ⟨rfl, h₁⟩ := h₁; exact h₁
    | @next d ds σ σ₁ σ₂ σ' fl h1 h2 h3 ih =>
      intro j U Wc s' R hjl hj F hR
      refine turn hj h1 F λ s₃ F₃ => hb kb h2 F₃.ps λ f s₄ U₄ W₄ n₄ P₄ hf => ?_
      cases (show f = .next from hf)
      have hj1 : j + 1 ≤ items.length := by
        have := congrArg List.length hj
        rw [List.length_drop, List.length_cons] at this; lia
      obtain ⟨_, _, Wk'⟩ := hW U F.vu F.uv
      refine ih hj1 (zfs hj).2 ⟨λ a z => n₄.gv.1 a (F.zu a z), λ a w => (n₄.gw.2 a w).elim (F.wz a) λ hn z => ?_, λ a v => n₄.gv.1 a (F.vu a v), λ a h => (n₄.gv.2 a h).elim (F.uv a) λ hn => .inr (F₃.no a hn), λ a h => F₃.no a (n₄.mv.no h), F₃.nx.trans n₄, P₄, ?_, λ U' e1 e2 => ?_⟩ hR
      · obtain ⟨o, q⟩ := F₃.ps.live (F.zu a z); exact gone hn q
      · exact (Wk'.frame _ _ _ ⟨F₃.co, F₃.iv U (λ a h => h) F.uv⟩ λ a ha o e => n₄.mv.chg a o (λ w => ha.elim (λ f => F.wz a w (hfp a f)) λ nu => nu (.inl (F₃.ps.wv a w))) e).1
      · have e1' : ∀ a, U a -> U' a := λ a h => e1 a (n₄.gv.1 a h)
        obtain ⟨_, hp', _⟩ := hW U' (λ a h => e1' a (F.vu a h)) e2
        exact hp' s₃.heap s₄.heap (F₃.iv U' e1' e2) λ a na o e => n₄.mv.chg a o (λ w => na (.inl (e1' a (F₃.ps.wv a w)))) e
    | @brk d ds σ σ₁ σ₂ h1 h2 =>
      intro j U Wc s' R hjl hj F hR
      refine turn hj h1 F λ s₃ F₃ => hb kb h2 F₃.ps λ f s₄ U₄ W₄ n₄ P₄ hf => ?_
      cases (show f = .brk from hf)
      exact hR .next s₄ U₄ W₄ (F₃.nx.trans n₄) P₄ rfl
    | @ret d x ds σ σ₁ σ₂ h1 h2 =>
      intro j U Wc s' R hjl hj F hR
      refine turn hj h1 F λ s₃ F₃ => hb kb h2 F₃.ps λ f s₄ U₄ W₄ n₄ P₄ hf => ?_
      obtain ⟨v, rfl, hr⟩ := hf
      exact hR (.ret v) s₄ U₄ W₄ (F₃.nx.trans n₄) P₄ ⟨v, rfl, hr⟩
  refine key e2 (Nat.zero_le _) List.drop_zero ⟨λ a z => .inr z, λ a w => VZ a (P.wv a w), λ a v => .inl v, λ a h => h.imp id λ z => (hz a z).1, λ a h => k₂.no h, ⟨k₁₂.mv, Gr.more nZ, Gr.refl⟩, ?_, hcore, λ U' h1 h2 => (hW U' (λ a h => h1 a (.inl h)) h2).1⟩ hR
  exact (P.vol (Z := Z) (Y := λ _ => False) k₁₂ nZ (λ a z => (hz a z).2) λ a f => f.elim).wcong λ a => ⟨λ h => h.elim id λ f => f.elim, .inl⟩
theorem znD {p : Pt} {it : T} {b : List X} (rm : Rm A) (hI : PI C nt Φ A it) (hb : PXs C nt Φ Ψ A env sc V₀ IO b) : PX C nt Φ Ψ A env sc V₀ IO (.fr p it b) := λ {z σ fl σ' V W s Q E} h ev P hQ =>
  andE h λ h kb => andE h λ hp hi => by
    obtain ⟨items, e1, e2⟩ := ev
    refine wpAny_For ?_ λ x => ziX hi
    exact hI (p := p) (te := hd (st z)) (fz := true) hi P.st e1 λ iv s₁ s₂ k₁ hit => zhX rm hb kb hp e2 P k₁ hit hQ
theorem zoM {t : T} (hE : PE C nt Φ A t) : PX C nt Φ Ψ A env sc V₀ IO (.ret t) := λ {z σ fl σ' V W s Q E} h ev P hQ => by
  obtain ⟨d, e1, rfl, rfl⟩ := ev
  exact wpAny_Return_some (hE h P.st e1 _ _ λ v s₁ k₁ q₁ => hQ (.ret v) s₁ V W (Nx.keep k₁) (P.keeps k₁) ⟨v, rfl, Rep.sub q₁ P.v0⟩)
theorem znr {x : Nat} (hio : ∀ a, ¬ IO.ad a) : PX C nt Φ Ψ A env sc V₀ IO (.retO x) := λ {z σ fl σ' V W s Q E} h ev P hQ =>
  andE h λ hd hi => by
    obtain ⟨ds, e1, rfl, rfl⟩ := ev
    obtain ⟨l, vs, hlk, hW, ⟨o, n, h1, h2, h3, h4⟩, q3⟩ := P.lst (zcU (eq_of_beq hi) e1)
    exact wpAny_Return_some (zbs P.st.fm hlk (zdj hd) (hQ (.ret (.ref l)) s V W (Nx.keep (za4 s)) P ⟨_, rfl, .lst (λ h0 => hio l (P.nw l hW h0)) h1 h2 h3 h4 (q3.sub P.v0)⟩))
theorem zoI : PX C nt Φ Ψ A env sc V₀ IO .brk := λ {z σ fl σ' V W s Q E} h ev P hQ => by
  obtain ⟨rfl, rfl⟩ := ev
  exact wpAny_Break (hQ .brk s V W (Nx.keep (za4 s)) P rfl)
theorem zox {b : List X} (hb : PXs C nt Φ Ψ A env sc V₀ IO b) : PX C nt Φ Ψ A env sc V₀ IO (.tri b) := λ {z σ fl σ' V W s Q E} h ev P hQ => by
  obtain ⟨e, d, rfl⟩ := ev
  refine wpAny_Try_except (hb h e P λ f s' V' W' n' P' hf => ?_)
  have := hQ f s' V' W' n' P' hf
  obtain ⟨v, rfl, _⟩ := hf
  exact this
theorem zk4 {x : X} {xs : List X} (h1 : PX C nt Φ Ψ A env sc V₀ IO x) (h2 : PXs C nt Φ Ψ A env sc V₀ IO xs) : PXs C nt Φ Ψ A env sc V₀ IO (x :: xs) := λ {zs σ fl σ' V W s Q E} h ev P hQ =>
  andE h λ ka kb => by
    rcases ev with ⟨σ₁, e1, e2⟩ | ⟨e1, e2⟩
    · refine wpAny_execs_cons (h1 ka e1 P λ f s₁ V₁ W₁ n₁ P₁ hf => ?_)
      cases (show f = .next from hf)
      exact h2 kb e2 P₁ λ f s₂ V₂ W₂ n₂ P₂ hf₂ => hQ f s₂ V₂ W₂ (n₁.trans n₂) P₂ hf₂
    · refine wpAny_execs_cons (h1 ka e1 P λ f s₁ V₁ W₁ n₁ P₁ hf => ?_)
      have := hQ f s₁ V₁ W₁ n₁ P₁ hf
      cases fl with
      | next => exact e2.elim
      | brk => cases (show f = .brk from hf); exact this
      | ret d => obtain ⟨v, rfl, hr⟩ := hf; exact this
theorem allX0 (K : C.Ok) (O : C.Obj) (rm : Rm A) (Ph : PhiOk C Φ A) (Ps : PsiOk C Ψ A) (xs : List X) : (((∀ a, ¬ IO.ad a) ∨ rOks xs = true) -> PXs C nt Φ Ψ A env sc V₀ IO xs) /\ ∀ x ∈ xs, ((∀ a, ¬ IO.ad a) ∨ rOk x = true) -> PX C nt Φ Ψ A env sc V₀ IO x := by
  have AE : ∀ t, AllP C nt Φ A t := allE K O rm Ph
  refine X.rec_1 (motive_1 := λ x => ((∀ a, ¬ IO.ad a) ∨ rOk x = true) -> PX C nt Φ Ψ A env sc V₀ IO x) (motive_2 := λ xs => (((∀ a, ¬ IO.ad a) ∨ rOks xs = true) -> PXs C nt Φ Ψ A env sc V₀ IO xs) /\ ∀ x ∈ xs, ((∀ a, ¬ IO.ad a) ∨ rOk x = true) -> PX C nt Φ Ψ A env sc V₀ IO x) ?_ ?_ ?_ ?_ ?_ ?_ ?_ ?_ ?_ ?_ ?_ ?_ ?_ ?_ ?_ ?_ xs
  · exact λ p e _ => zpm K O rm Ph
  · exact λ x e _ => zog K O rm Ph
  · exact λ xs os es _ => zmC K O rm Ph
  · exact λ xs e _ => zom K O rm Ph
  · exact λ x e _ => zn3 K O rm Ph
  · exact λ x i e _ => zpr K O rm Ph
  · exact λ p f a x c _ => zo3 K O rm Ph Ps
  · exact λ c a b h1 h2 h => zpK (AE c).pt (h1.1 (h.imp id λ h => (Bool.and_eq_true_iff.mp h).1)) (h2.1 (h.imp id λ h => (Bool.and_eq_true_iff.mp h).2))
  · exact λ c b h1 h => zkO (AE c).pt (h1.1 h)
  · exact λ p it b h1 h => znD rm (AE it).pi (h1.1 h)
  · exact λ e _ => zoM (AE e).pe
  · exact λ x h => znr (h.elim id λ h => ffE h)
  · exact λ _ => zoI
  · exact λ b h1 h => zox (h1.1 h)
  · exact ⟨λ _ {zs σ fl σ' V W s Q E} h ev P hQ => by
      obtain ⟨rfl, rfl⟩ := ev
      exact wpAny_execs_nil (hQ _ s V W (Nx.keep (za4 s)) P rfl), λ _ h => nomatch h⟩
  · exact λ x xs h1 h2 => ⟨λ h => zk4 (h1 (h.imp id λ h => (Bool.and_eq_true_iff.mp h).1)) (h2.1 (h.imp id λ h => (Bool.and_eq_true_iff.mp h).2)), λ y h => (List.mem_cons.mp h).elim (λ h => h ▸ h1) (h2.2 y)⟩
theorem allX (K : C.Ok) (O : C.Obj) (rm : Rm A) (Ph : PhiOk C Φ A) (Ps : PsiOk C Ψ A) (xs : List X) (h : (∀ a, ¬ IO.ad a) ∨ rOks xs = true) : PXs C nt Φ Ψ A env sc V₀ IO xs := (allX0 K O rm Ph Ps xs).1 h
theorem oneX (K : C.Ok) (O : C.Obj) (rm : Rm A) (Ph : PhiOk C Φ A) (Ps : PsiOk C Ψ A) (x : X) (h : ∀ a, ¬ IO.ad a) : PX C nt Φ Ψ A env sc V₀ IO x := (allX0 K O rm Ph Ps [x]).2 x (.head _) (.inl h)
end
structure FnOk (C : Cx) (k : String) (fd : FuncData) (xs : List Str) (body : List Stmt) : Prop where
  pos : ∃ a o, C.gv k = some (.ref a) /\ C.h₀.get? a = some o /\ o.data = .func fd
  code : C.h₀.CodeRec fd.code fd.qualname
  lim : C.h₀.NoLimit
  body : fd.body = .stmts body
  glob : fd.globals = mainGlobals
  blt : fd.builtins = builtinsNs
  clo : fd.closure = []
  kind : fd.scope.kind = .function
  gen : fd.scope.isGenerator = false
  co : fd.scope.isCoroutine = false
  bind : ∀ vals : List Value, vals.length = xs.length -> bindArgs fd ⟨vals, []⟩ = pure (xs.zip vals)
  nd : xs.Nodup
  loc : ∀ x ∈ xs, fd.scope.names.lookup x = some .local ∨ fd.scope.names.lookup x = some .cell
  nofree : ∀ x, fd.scope.names.lookup x ≠ some .free
theorem zfR {kindOf : Str -> Option NameKind} : ∀ {binds : List (Str × Value)} {m : Str -> Option Value} {x : Str}, x ∉ binds.map (·.1) -> bindL kindOf binds m x = m x
  | [], _, _, _ => rfl
  | (n, v) :: r, m, x, h => by
    rw [List.map_cons, List.mem_cons, not_or] at h
    rw [bindL, zfR h.2]
    split
    · show (if x = n then some v else m x) = m x
      rw [if_neg h.1]
    · rfl
theorem zhB {kindOf : Str -> Option NameKind} : ∀ {binds : List (Str × Value)} {m : Str -> Option Value} {x : Str} {v : Value}, (binds.map (·.1)).Nodup -> (x, v) ∈ binds -> kindOf x = some .local -> bindL kindOf binds m x = some v
  | (n, u) :: r, m, x, v, hn, hm, hk => by
    rw [List.map_cons, List.nodup_cons] at hn
    rw [bindL]
    rcases List.mem_cons.mp hm with e | hm
    · cases e
      rw [zfR hn.1, if_pos hk]
      exact if_pos rfl
    · exact zhB hn.2 hm hk
theorem zf1 {kindOf : Str -> Option NameKind} : ∀ {binds : List (Str × Value)} {m : Str -> Option Value} {x : Str}, x ∉ binds.map (·.1) -> bindC kindOf binds m x = m x
  | [], _, _, _ => rfl
  | (n, v) :: r, m, x, h => by
    rw [List.map_cons, List.mem_cons, not_or] at h
    rw [bindC, zf1 h.2]
    split
    · rfl
    · show (if x = n then some v else m x) = m x
      rw [if_neg h.1]
theorem zhx {kindOf : Str -> Option NameKind} : ∀ {binds : List (Str × Value)} {m : Str -> Option Value} {x : Str} {v : Value}, (binds.map (·.1)).Nodup -> (x, v) ∈ binds -> kindOf x ≠ some .local -> bindC kindOf binds m x = some v
  | (n, u) :: r, m, x, v, hn, hm, hk => by
    rw [List.map_cons, List.nodup_cons] at hn
    rw [bindC]
    rcases List.mem_cons.mp hm with e | hm
    · cases e
      rw [zf1 hn.1, if_neg hk]
      exact if_pos rfl
    · exact zhx hn.2 hm hk
section
variable {C : Cx} {nt : List Str} {Φ : String -> List D -> Option D} {Ψ : String -> List D -> Option (D × List D)} {A : Around} {sc : Names} {V₀ : Addr -> Prop} {IO : Io} {s : Shared} {σ : Sg}
theorem zlA {k : String} {fd : FuncData} {xs : List Str} {body : List Stmt} {fv : Value} {vals : List Value} (F : FnOk C k fd xs body) (hk : C.gv k = some fv) (room : A.depth < recursionLimit) (gl : Gl C V₀ s.heap) (al : Al V₀ s.heap) (tk : 1 ≤ s.toks) (hlen : vals.length = xs.length)
    (hsc : ∀ x kd, sc.lookup x = some kd -> fd.scope.names.lookup x = some kd) (hio : ∀ a, IO.ad a -> V₀ a) (hlk : ∀ x u, IO.lk x u -> sc.lookup x = none /\ (x, u) ∈ xs.zip vals)
    (hσ : ∀ x b, pv nt σ x = some b -> ∃ v, (x, v) ∈ xs.zip vals /\ BindV C.gv s.heap V₀ v b /\ ∀ ds, b = .own ds -> ∃ l, v = .ref l /\ IO.ad l)
    (hij : ∀ x y ds es l, pv nt σ x = some (.own ds) -> pv nt σ y = some (.own es) -> (x, .ref l) ∈ xs.zip vals -> (y, .ref l) ∈ xs.zip vals -> x = y)
    {R : Result -> Shared -> Prop}
    (h : ∀ env s₁ V W E', Kp s s₁ -> (∀ a, W a -> IO.ad a ∨ s.heap.get? a = none) -> (∀ a, V a -> V₀ a ∨ s.heap.get? a = none) -> (∀ x u, (x, u) ∈ xs.zip vals -> Look s₁.heap env x u) -> (∀ b, Fr env b -> s.heap.get? b = none) -> PS C (A.deeper env) env sc V₀ IO V W (pv nt σ) s₁ ->
      wpAny (model C.prog C.w) (A.deeper env) (execs body env) (λ f s' => R (.ok (.ret (match f with | .ret v => v | _ => .none))) s') E' s₁) :
    codeAny (model C.prog C.w) A (.call fv ⟨vals, []⟩) R s := by
  obtain ⟨a, o, h1, h2, h3⟩ := F.pos
  rw [h1] at hk; cases hk
  have ho := gl.keep _ _ h2
  have hzip : (xs.zip vals).map (·.1) = xs := List.map_fst_zip (by lia)
  refine codeAny_call_function room ho h3 F.co F.gen F.body (F.code.keeps gl.keep) ?_
  rw [F.bind vals hlen, F.clo]
  refine wpAny_pure (wpAny_with_toks (Nat.le_refl _) (wpAny_newFunctionEnv_cells F.kind (λ x hx => ?_) λ env he s₁ x htk => ?_))
  · have hm : x.1 ∈ xs := hzip ▸ List.mem_map_of_mem hx
    refine (F.loc _ hm).imp id λ hc => ⟨hc, ?_⟩
    obtain ⟨c, hc'⟩ := zaE fd.scope.names (s.heap.objs.size + 1) x.1 (mem_of_lookup hc)
    rw [hc']; rfl
  · have kp : Kp s s₁ := by
      obtain ⟨h', t', e, _⟩ := x.done
      have hk := x.toInCall.keep
      subst e
      exact ⟨⟨h', t', rfl, hk⟩, htk⟩
    have fresh : ∀ a, s.heap.objs.size ≤ a -> s.heap.get? a = none := λ a ha => by
      cases e : s.heap.get? a with
      | none => rfl
      | some o => exact absurd (Heap.lt_size e) (Nat.not_lt.mpr ha)
    have hL : env.locals = s.heap.objs.size := by rw [he]; rfl
    have hcells : env.cells = cellsFrom (s.heap.objs.size + 1) fd.scope.names [] := by rw [he]; rfl
    have hkd : ∀ y, env.kindOf y = fd.scope.names.lookup y := λ y => by rw [he]; rfl
    have hapart := x.apart
    have habove := x.above
    have N : ∀ a, Fr env a -> s.heap.get? a = none := λ a ha => by
      rcases ha with rfl | ⟨y, hy⟩
      · exact fresh _ (Nat.le_of_eq hL.symm)
      · exact fresh _ (Nat.le_of_lt (hL ▸ habove y a (mem_of_lookup hy)))
    have NL : ∀ a, Fr env a -> ∃ o, s₁.heap.get? a = some o := λ a ha => by
      rcases ha with rfl | ⟨y, hy⟩
      · exact zgT x.toInCall.ns
      · exact zdS (x.cell y a hy)
    have V0N : ∀ a, V₀ a -> ¬ Fr env a := λ a hv hn => by
      obtain ⟨o, e⟩ := al a hv; exact gone (N a hn) e
    have look : ∀ y u, (y, u) ∈ xs.zip vals -> Look s₁.heap env y u := λ y u hy => by
      have hm : y ∈ xs := hzip ▸ List.mem_map_of_mem (f := (·.1)) hy
      rcases F.loc y hm with hl | hl
      · exact .loc (by rw [hkd]; exact hl) x.toInCall.ns (zhB (by rw [hzip]; exact F.nd) hy (by rw [hkd]; exact hl))
      · obtain ⟨c, hc⟩ := zaE fd.scope.names (s.heap.objs.size + 1) y (mem_of_lookup hl)
        have hc' : env.cells.lookup y = some c := by rw [hcells]; exact hc
        have := x.cell y c hc'
        rw [zhx (by rw [hzip]; exact F.nd) hy (by rw [hkd, hl]; decide)] at this
        exact .cel (.inl (by rw [hkd]; exact hl)) hc' this
    have bv : ∀ {v b}, BindV C.gv s.heap V₀ v b -> BindV C.gv s₁.heap (λ a => V₀ a ∨ Fr env a) v b := λ q => q.mono (zbu kp.1 N) λ _ l _ _ o => zac kp.1 l o
    refine ⟨(F.lim.keeps gl.keep).keeps x.toInCall.keep, codeAny_func (h env s₁ (λ a => V₀ a ∨ Fr env a) (λ a => IO.ad a ∨ Fr env a) _ kp (λ a ha => ha.imp id (N a)) (λ a ha => ha.imp id (N a)) look N ?_)⟩
    refine ⟨⟨λ b o e => ⟨zac kp.1 _ _ (gl b o e).1, λ hv => hv.elim (gl b o e).2 λ hn => ?_⟩, ?_, ⟨?_, ?_, ?_, ?_, ⟨_, x.toInCall.ns⟩, ?_, λ a h => .inr h, ?_⟩, ?_, Nat.le_trans tk kp.2⟩, λ a ha => ha.imp (hio a) id, λ a ha => .inl ha, ?_, ?_, ?_, ?_, ?_⟩
    · have := (gl b o e).1; rw [N b hn] at this; cases this
    · intro a ha
      rcases ha with ha | ha
      · obtain ⟨o, e⟩ := al a ha; exact ⟨o, zac kp.1 _ _ e⟩
      · exact NL a ha
    · rw [he]; exact F.kind
    · intro y kd hy; exact .inl (by rw [hkd]; exact hsc y kd hy)
    · rw [he]; exact F.glob
    · rw [he]; exact F.blt
    · rintro y (hy | hy)
      · obtain ⟨c, hc⟩ := zaE fd.scope.names (s.heap.objs.size + 1) y (mem_of_lookup (hsc y _ hy))
        have hc' : env.cells.lookup y = some c := by rw [hcells]; exact hc
        exact ⟨c, _, hc', x.cell y c hc'⟩
      · exact absurd (hsc y _ hy) (F.nofree y)
    · intro y z c hy hz; exact name_of_addr hapart (mem_of_lookup hy) (mem_of_lookup hz)
    · intro y b hy
      obtain ⟨v, hv, hb, _⟩ := hσ y b hy
      exact ⟨v, look y v hv, bv hb⟩
    · rintro a (rfl | ⟨y, hy, hc⟩)
      · exact .inr (.inl rfl)
      · exact .inr (.inr ⟨y, hc⟩)
    · intro a ha h0
      rcases ha with ha | ha
      · exact ha
      · exact absurd ha (V0N a h0)
    · intro y ds hy
      obtain ⟨v, hv, _, ho⟩ := hσ y _ hy
      obtain ⟨l, rfl, hl⟩ := ho ds rfl
      exact ⟨l, look y _ hv, .inl hl⟩
    · intro y z ds es l hy hz ly lz
      obtain ⟨v, hv, _, ho⟩ := hσ y _ hy
      obtain ⟨v', hv', _, ho'⟩ := hσ z _ hz
      cases zaw ly (look y _ hv)
      cases zaw lz (look z _ hv')
      exact hij y z ds es l hy hz hv hv'
    · intro y u hu
      exact ⟨(hlk y u hu).1, look y u (hlk y u hu).2⟩
theorem enter {k : String} {fd : FuncData} {xs : List Str} {body : List Stmt} {fv : Value} {vals : List Value} (F : FnOk C k fd xs body) (hk : C.gv k = some fv) (room : A.depth < recursionLimit) (gl : Gl C V₀ s.heap) (al : Al V₀ s.heap) (tk : 1 ≤ s.toks) (hlen : vals.length = xs.length)
    (hsc : ∀ x kd, sc.lookup x = some kd -> fd.scope.names.lookup x = some kd) (hio : ∀ a, IO.ad a -> V₀ a) (hlk : ∀ x u, IO.lk x u -> sc.lookup x = none /\ (x, u) ∈ xs.zip vals)
    (hσ : ∀ x b, pv nt σ x = some b -> ∃ v, (x, v) ∈ xs.zip vals /\ BindV C.gv s.heap V₀ v b /\ ∀ ds, b = .own ds -> ∃ l, v = .ref l /\ IO.ad l)
    (hij : ∀ x y ds es l, pv nt σ x = some (.own ds) -> pv nt σ y = some (.own es) -> (x, .ref l) ∈ xs.zip vals -> (y, .ref l) ∈ xs.zip vals -> x = y)
    {Q E : Value -> Shared -> Prop}
    (h : ∀ env s₁ V W E', Kp s s₁ -> (∀ a, W a -> IO.ad a ∨ s.heap.get? a = none) -> (∀ a, V a -> V₀ a ∨ s.heap.get? a = none) -> (∀ x u, (x, u) ∈ xs.zip vals -> Look s₁.heap env x u) -> (∀ b, Fr env b -> s.heap.get? b = none) -> PS C (A.deeper env) env sc V₀ IO V W (pv nt σ) s₁ ->
      wpAny (model C.prog C.w) (A.deeper env) (execs body env) (λ f s' => Q (match f with | .ret v => v | _ => .none) s') E' s₁) :
    wpAny (model C.prog C.w) A (call fv vals []) Q E s :=
  wpAny_call (zlA F hk room gl al tk hlen hsc hio hlk hσ hij h)
theorem zeI {x : Str} {xs : List Str} {is : List Nat} {P : Prop} (h : (x :: xs).mapM (nmI nt) = some is) (k : ∀ i is', nmI nt x = some i -> xs.mapM (nmI nt) = some is' -> is = i :: is' -> P) : P := by
  rw [List.mapM_cons] at h
  exact bindE h λ i hi h => bindE h λ is' hs h => k i is' hi hs (Option.some.inj h).symm
theorem zgD : ∀ {xs : List Str} {is : List Nat} {ds : List D} {x : Str} {b : B}, xs.mapM (nmI nt) = some is -> pv nt (zipB is (ds.map .fz)) x = some b -> ∃ d, b = .fz d /\ (x, d) ∈ xs.zip ds
  | [], is, ds, x, b, h, e => by
    cases (show is = [] from (Option.some.inj h).symm)
    exact bindE e λ _ _ e => noE e
  | y :: xs, is, [], x, b, h, e => zeI h λ i is' _ _ h => by
    subst h
    exact bindE e λ _ _ e => noE e
  | y :: xs, is, d :: ds, x, b, h, e => zeI h λ i is' hi hs h => by
    subst h
    rw [List.map_cons, zipB, zbB hi] at e
    by_cases hx : x = y
    · rw [set, if_pos hx] at e
      exact ⟨d, (Option.some.inj e).symm, hx ▸ .head _⟩
    · rw [set, if_neg hx] at e
      obtain ⟨d', h1, h2⟩ := zgD hs e
      exact ⟨d', h1, .tail _ h2⟩
theorem zm4 {gv : String -> Option Value} {h : Heap} {xs : List Str} {vs : List Value} {ds : List D} {x : Str} {d : D} (r : RepAll gv h V₀ vs ds) (hm : (x, d) ∈ xs.zip ds) : ∃ v, (x, v) ∈ xs.zip vs /\ Rep gv h V₀ v d := by
  induction xs generalizing vs ds with
  | nil => cases hm
  | cons y xs ih =>
    cases r with
    | nil => cases hm
    | cons a b =>
      cases hm with
      | head => exact ⟨_, .head _, a⟩
      | tail _ hm => obtain ⟨v, h1, h2⟩ := ih b hm; exact ⟨v, .tail _ h1, h2⟩
theorem zlr {k : String} {fd : FuncData} {xs : List Str} {body : List Stmt} {fv : Value} {vals : List Value} {xb : List X} {is : List Nat} {ds : List D} {d : D} {σ' : Sg} (F : FnOk C k fd xs body) (hk : C.gv k = some fv) (room : A.depth < recursionLimit) (K : C.Ok) (O : C.Obj)
    (rm : ∀ env, Rm (A.deeper env)) (Ph : ∀ env, PhiOk C Φ (A.deeper env)) (Ps : ∀ env, PsiOk C Ψ (A.deeper env))
    (hcs : (bSs xb body, kSs C.γ nt fd.scope.names xb body) = (body, true)) (his : xs.mapM (nmI nt) = some is) (hev : evs C.tok Φ Ψ xb (zipB is (ds.map .fz)) (.ret d) σ')
    (gl : Gl C V₀ s.heap) (al : Al V₀ s.heap) (tk : 1 ≤ s.toks) (hlen : ds.length = xs.length) (r : RepAll C.gv s.heap V₀ vals ds) : Runs (model C.prog C.w) A s (call fv vals) λ v s' => Rep C.gv s'.heap V₀ v d := by
  refine zam λ Q E hQ => ?_
  have hown : ∀ {x ds'}, pv nt (zipB is (ds.map .fz)) x = some (.own ds') -> False := λ h => by
    obtain ⟨_, h, _⟩ := zgD his h; exact B.noConfusion h
  refine enter (sc := fd.scope.names) (IO := ⟨λ _ => False, λ _ _ => False⟩) (nt := nt) (σ := zipB is (ds.map .fz)) F hk room gl al tk (by rw [r.length, hlen]) (λ x kd h => h) (λ a h => h.elim) (λ x u h => h.elim) (λ x b hb => ?_) (λ x y ds' es l hx _ => (hown hx).elim) λ env s₁ V W E' kp hw hv look _ P => ?_
  · obtain ⟨d', rfl, hm⟩ := zgD his hb
    obtain ⟨v, hv, hr⟩ := zm4 r hm
    exact ⟨v, hv, hr, λ ds h => B.noConfusion h⟩
  · obtain ⟨hb, hks⟩ := Prod.mk.inj hcs
    refine (congrArg (λ l => wpAny (model C.prog C.w) (A.deeper env) (execs l env) (λ f s' => Q (match f with | .ret v => v | _ => .none) s') E' s₁) hb).mp ?_
    refine allX K O (rm env) (Ph env) (Ps env) xb (.inl λ a h => h) hks hev P λ f s' V' W' n P' hf => ?_
    obtain ⟨v, rfl, hr⟩ := hf
    refine hQ v s' ?_ hr
    obtain ⟨⟨h1, t1, e1⟩, m2, m3, m4⟩ := n.mv
    obtain ⟨⟨h2, t2, e2, k2⟩, _⟩ := kp
    subst e2
    refine ⟨h1, t1, e1, λ b o e => ?_⟩
    have := m3 b o (λ hb => (hw b hb).elim id λ h => gone h e) (k2 b o e)
    rw [e1] at this; exact this
end
section
variable {C : Cx} {nt : List Str} {Φ : String -> List D -> Option D} {Ψ : String -> List D -> Option (D × List D)} {A : Around} {V : Addr -> Prop} {s : Shared}
theorem za8 {y x : Str} {kd : NameKind} : ∀ {names : Names}, (names.filter λ p => p.1 != y).lookup x = some kd -> names.lookup x = some kd /\ x ≠ y
  | [], h => by cases h
  | (z, k) :: r, h => by
    rw [List.filter_cons] at h
    split at h
    · rename_i hz
      rw [List.lookup_cons] at h ⊢
      by_cases e : x = z
      · subst e
        rw [beq_self_eq_true] at h ⊢
        exact ⟨h, by simpa using hz⟩
      · have : (x == z) = false := by simpa using e
        rw [this] at h ⊢
        exact za8 h
    · rename_i hz
      have q := za8 h
      have hz' : z = y := by simpa using hz
      refine ⟨?_, q.2⟩
      rw [List.lookup_cons]
      have : (x == z) = false := by rw [hz']; simpa using q.2
      rw [this]; exact q.1
theorem zbM {y : Str} : ∀ {names : Names}, (names.filter λ p => p.1 != y).lookup y = none
  | [] => rfl
  | (z, k) :: r => by
    rw [List.filter_cons]
    split
    · rename_i hz
      have hz' : z ≠ y := by simpa using hz
      rw [List.lookup_cons]
      have : (y == z) = false := by simpa using Ne.symm hz'
      rw [this]; exact zbM
    · exact zbM
theorem zm3 {k : String} {fd : FuncData} {x0 x1 x2 : Str} {body : List Stmt} {fv va vc : Value} {l : Addr} {vs : Array Value} {xb : List X} {i0 i1 i2 : Nat} {ds ds' : List D} {da dc d : D} {σ' : Sg} (F : FnOk C k fd [x0, x1, x2] body) (hk : C.gv k = some fv) (room : A.depth < recursionLimit) (K : C.Ok) (O : C.Obj)
    (rm : ∀ env, Rm (A.deeper env)) (Ph : ∀ env, PhiOk C Φ (A.deeper env)) (Ps : ∀ env, PsiOk C Ψ (A.deeper env)) (hr : rOks xb = true)
    (hcs : (bSs xb body, kSs C.γ nt (fd.scope.names.filter λ p => p.1 != x1) xb body) = (body, true)) (h0 : nmI nt x0 = some i0) (h1 : nmI nt x1 = some i1) (h2 : nmI nt x2 = some i2) (hev : evs C.tok Φ Ψ xb [(i0, .fz da), (i1, .own ds), (i2, .fz dc)] (.ret d) σ') (hσ' : σ'.lookup i1 = some (.own ds'))
    (gl : Gl C V s.heap) (al : Al V s.heap) (tk : 1 ≤ s.toks) (ra : Rep C.gv s.heap V va da) (rc : Rep C.gv s.heap V vc dc) (hl : V l) (pl : PlainL s.heap l vs) (r : RepAll C.gv s.heap V vs.toList ds) {Q E : Value -> Shared -> Prop}
    (hQ : ∀ v s' vs', Mv (λ a => a = l) s s' -> PlainL s'.heap l vs' -> RepAll C.gv s'.heap V vs'.toList ds' -> Rep C.gv s'.heap V v d -> Q v s') : wpAny (model C.prog C.w) A (call fv [va, .ref l, vc]) Q E s := by
  have hnd := F.nd
  have hpv : ∀ x b, pv nt [(i0, .fz da), (i1, .own ds), (i2, .fz dc)] x = some b -> (x = x0 /\ b = .fz da) ∨ (x = x1 /\ b = .own ds) ∨ (x = x2 /\ b = .fz dc) := λ x b h => by
    obtain ⟨i, hi, h'⟩ := Option.bind_eq_some_iff.mp (show (nmI nt x).bind (λ i => List.lookup i [(i0, B.fz da), (i1, B.own ds), (i2, B.fz dc)]) = some b from h)
    clear h
    by_cases e0 : i = i0
    · subst e0
      simp only [List.lookup_cons, beq_self_eq_true] at h'
      cases h'; exact .inl ⟨zc5 hi h0, rfl⟩
    · have e0' : (i == i0) = false := by simpa using e0
      by_cases e1 : i = i1
      · subst e1
        simp only [List.lookup_cons, beq_self_eq_true, e0'] at h'
        cases h'; exact .inr (.inl ⟨zc5 hi h1, rfl⟩)
      · have e1' : (i == i1) = false := by simpa using e1
        by_cases e2 : i = i2
        · subst e2
          simp only [List.lookup_cons, beq_self_eq_true, e0', e1'] at h'
          cases h'; exact .inr (.inr ⟨zc5 hi h2, rfl⟩)
        · have e2' : (i == i2) = false := by simpa using e2
          simp only [List.lookup_cons, e0', e1', e2', List.lookup_nil] at h'
          cases h'
  refine enter (sc := fd.scope.names.filter λ p => p.1 != x1) (IO := ⟨λ a => a = l, λ x u => x = x1 /\ u = .ref l⟩) (nt := nt) (σ := [(i0, .fz da), (i1, .own ds), (i2, .fz dc)]) F hk room gl al tk rfl (λ x kd h => (za8 h).1) (λ a h => by subst h; exact hl)
    (λ x u h => ⟨by rw [h.1]; exact zbM, by rw [h.1, h.2]; simp⟩) (λ x b hb => ?_) (λ x y ds1 es l' hx hy _ _ => ?_) λ env s₁ V₁ W₁ E' kp hw hv look _ P => ?_
  · rcases hpv x b hb with ⟨rfl, rfl⟩ | ⟨rfl, rfl⟩ | ⟨rfl, rfl⟩
    · exact ⟨va, by simp, ra, λ ds h => by cases h⟩
    · exact ⟨.ref l, by simp, ⟨l, vs, rfl, pl, r⟩, λ ds h => ⟨l, rfl, rfl⟩⟩
    · exact ⟨vc, by simp, rc, λ ds h => by cases h⟩
  · have a1 : x = x1 := by rcases hpv x _ hx with ⟨_, h⟩ | ⟨h, _⟩ | ⟨_, h⟩ <;> first | exact h | cases h
    have a2 : y = x1 := by rcases hpv y _ hy with ⟨_, h⟩ | ⟨h, _⟩ | ⟨_, h⟩ <;> first | exact h | cases h
    rw [a1, a2]
  · obtain ⟨hb, hks⟩ := Prod.mk.inj hcs
    refine (congrArg (λ l => wpAny (model C.prog C.w) (A.deeper env) (execs l env) (λ f s' => Q (match f with | .ret v => v | _ => .none) s') E' s₁) hb).mp ?_
    refine wpAny_with_toks (Nat.le_refl _) (allX K O (rm env) (Ph env) (Ps env) xb (.inr hr) hks hev P λ f s' V' W' n P' hf htk => ?_)
    obtain ⟨v, rfl, hr⟩ := hf
    have hx1 : pv nt σ' x1 = some (.own ds') := zcU h1 hσ'
    obtain ⟨l', vs', q1, _, q2, q3⟩ := P'.lst hx1
    cases zaw q1 (P'.io x1 (.ref l) ⟨rfl, rfl⟩).2
    refine hQ v s' vs' ?_ q2 (q3.sub P'.v0) hr
    obtain ⟨⟨h1, t1, e1⟩, m2, m3, m4⟩ := n.mv
    obtain ⟨⟨h2, t2, e2, k2⟩, k3⟩ := kp
    subst e2
    have live : ∀ a o, s.heap.get? a = some o -> ∃ o', s'.heap.get? a = some o' := λ a o e => m4 a o (k2 a o e)
    refine ⟨⟨h1, t1, e1⟩, Nat.le_trans k3 htk, λ a o na e => m3 a o (λ hb => ?_) (k2 a o e), live⟩
    rcases hw a hb with h | h
    · exact na h
    · rw [h] at e; cases e
end
structure Wsp (C : Cx) (K : Frag) (Ca fI : Addr) : Prop where
  kin : K.In C.h₀
  cls : C.gv "Whitespace" = some (.ref Ca)
  mak : makesIn K Ca = true
  ini : findIn K (.ref Ca) "__init__" = some (some (.ref fI))
  inif : typeIn K (.ref fI) = some (.type "function")
  sa : findIn K (.ref Ca) "__setattr__" = some (some (.builtin "object.__setattr__"))
  po : plainOver K Ca = true
  hd : hasDictIn K Ca = true
  tk : ∀ n ∈ wsF, takerIn K Ca n = some none
  ga : findIn K (.ref Ca) "__getattribute__" = some (some (.builtin "object.__getattribute__"))
  gk : findIn K (.ref Ca) "__getattr__" = some none
  fa : ∀ n ∈ wsF, findIn K (.ref Ca) n = some none
section
variable {C : Cx} {K : Frag} {Ca fI : Addr} {A : Around} {s : Shared} {E : Value -> Shared -> Prop} {x dx : Addr} {es : List DictEntry} {k : Nat}
theorem zkZ {name : Str} {v : Value} {es' : List DictEntry} {k' : Nat} (w : Wsp C K Ca fI) (gl : ∀ a o, C.h₀.get? a = some o -> s.heap.get? a = some o) (hx : s.heap.get? x = some (instObj Ca dx)) (hdx : s.heap.get? dx = some (dictOf es k)) (hn : name ∈ wsF) (hl : getL name es = some none)
    (e : (putL name (PyData.keyHash C.w.params name) (.str name (s.toks + 1)) v es, putN name es k) = (es', k')) (hz : es'.length ≤ 1000) {Q : Unit -> Shared -> Prop}
    (h : ∀ h', Heap.SameBut dx s.heap h' -> h'.get? dx = some (dictOf es' k') -> Q () { s with heap := h', toks := s.toks + 2 }) : wpAny (model C.prog C.w) A (setAttr (.ref x) name v) Q E s := by
  have X : K.In s.heap := λ a o e => gl a o (w.kin a o e)
  have I : InstAt s.heap x (instObj Ca dx) Ca (some (dictOf es k)) := ⟨hx, rfl, rfl, hdx⟩
  obtain ⟨e1, e2⟩ := Prod.mk.inj e
  refine set_plain X I w.sa (osa_open (s := { s with toks := s.toks + 1 }) X I w.po (w.tk name hn) λ b => ?_)
  obtain ⟨cd, hc, hd'⟩ := any_some w.hd
  refine wpAny_bind (wpAny_pure (wpAny_bind (wpAny_bind (wpAny_loadPart hx (wpAny_bind (Looks.here (s := { s with toks := s.toks + 1 }) (looks_clsIn (K := K) X hc) ?_))))))
  rw [hd']
  refine wpAny_pure (a := some dx) (wpAny_bind (wpAny_pure (wpAny_bind ?_)))
  unfold nsSet
  refine wpAny_bind (wpAny_bind (wpAny_askSetting (wpAny_pure (wpAny_bind (wpAny_mkText (wpAny_bind (wpAny_loadPart hdx ?_)))))))
  have c : (!es.toArray.any (·.key.isStr name) && es.toArray.any (·.refKey)) = false := by
    rw [<- Array.any_toList, <- Array.any_toList]
    unfold getL at hl
    split at hl
    · cases hl
    · split at hl
      · cases hl
      · rename_i z; rw [Bool.not_eq_true] at z; rw [z, Bool.and_false]
  dsimp only [dictOf]
  rw [aRefKeyMayBeTheName_at, c]
  have hu : (s.heap.update dx (Obj.putName name (PyData.keyHash C.w.params name) (.str name (s.toks + 1)) v)).get? dx = some (dictOf es' k') := by
    rw [<- e1, <- e2, <- putName_dict]
    exact Heap.get?_update_self _ hdx (by rw [putName_dict]; rfl)
  refine wpAny_updatePart hdx ?_
  refine wpAny_bind (wpAny_lookBehind hu (pastItsLine_dict (by rw [List.size_toArray, sizeLine_eq]; lia)) ?_)
  exact wpAny_pure (h _ (Heap.SameBut.update ..) hu)
theorem zhC {name : Str} {v : Value} {Q : Value -> Shared -> Prop} (w : Wsp C K Ca fI) (gl : ∀ a o, C.h₀.get? a = some o -> s.heap.get? a = some o) (hx : s.heap.get? x = some (instObj Ca dx)) (hdx : s.heap.get? dx = some (dictOf es k)) (hn : name ∈ wsF) (hl : getL name es = some (some v)) (hv : handedIn v = true)
    (h : Q v { s with toks := s.toks + 1 }) : wpAny (model C.prog C.w) A (getAttr (.ref x) name true) Q E s := by
  have X : K.In s.heap := λ a o e => gl a o (w.kin a o e)
  have I : InstAt s.heap x (instObj Ca dx) Ca (some (dictOf es k)) := ⟨hx, rfl, rfl, hdx⟩
  exact get_value X I w.ga (findObj_own w.hd (w.fa name hn) rfl hl) hv h
end
section
variable {gv : String -> Option Value} {h : Heap} {V : Addr -> Prop}
theorem zfN {x n : Str} {t : Tok} : (Value.str x t).isStr n = (x == n) := rfl
theorem zkQ {p : DictEntry -> Bool} {e : DictEntry} {l : List DictEntry} (h : p e = true) : (e :: l).find? p = some e := by rw [List.find?_cons, h]
theorem zfX {p : DictEntry -> Bool} {e : DictEntry} {l : List DictEntry} (h : p e = false) : (e :: l).find? p = l.find? p := by rw [List.find?_cons, h]
theorem zfd {n x : Str} {d : D} {l : List (Str × D)} (h : (n == x) = true) : List.lookup n ((x, d) :: l) = some d := by rw [List.lookup_cons, h]
theorem zdT {n x : Str} {d : D} {l : List (Str × D)} (h : (n == x) = false) : List.lookup n ((x, d) :: l) = l.lookup n := by rw [List.lookup_cons, h]
theorem zlb {n x : Str} {b : Bool} (h : (n == x) = b) : (x == n) = b := h ▸ Bool.beq_comm ..
theorem RepFs.any {es : List DictEntry} {fs : List (Str × D)} (r : RepFs gv h V es fs) : es.any (·.refKey) = false := r.ind (P := λ es _ => es.any (·.refKey) = false) rfl λ _ _ ih => ih
theorem RepFs.fnd {es : List DictEntry} {fs : List (Str × D)} (r : RepFs gv h V es fs) (n : Str) : (fs.lookup n = none -> es.find? (·.key.isStr n) = none) /\ ∀ d, fs.lookup n = some d -> ∃ e, es.find? (·.key.isStr n) = some e /\ Rep gv h V e.val d :=
  r.ind (P := λ es fs => (fs.lookup n = none -> es.find? (·.key.isStr n) = none) /\ ∀ d, fs.lookup n = some d -> ∃ e, es.find? (·.key.isStr n) = some e /\ Rep gv h V e.val d) ⟨λ _ => rfl, λ d e => noE e⟩ λ {k x t v d' es fs} a _ ih =>
    match hx : n == x with
    | true => ⟨λ e => noE (e.symm.trans (zfd hx)), λ d e => ⟨_, zkQ (p := (·.key.isStr n)) (zlb hx), Option.some.inj ((zfd hx).symm.trans e) ▸ a⟩⟩
    | false => ⟨λ e => (zfX (p := (·.key.isStr n)) (e := ⟨k, .str x t, v⟩) (zlb hx)).trans (ih.1 ((zdT hx).symm.trans e)), λ d e => (ih.2 d ((zdT hx).symm.trans e)).imp λ w q => ⟨(zfX (p := (·.key.isStr n)) (e := ⟨k, .str x t, v⟩) (zlb hx)).trans q.1, q.2⟩⟩
theorem RepFs.getL {es : List DictEntry} {fs : List (Str × D)} (r : RepFs gv h V es fs) (n : Str) : (fs.lookup n = none -> W.getL n es = some none) /\ ∀ d, fs.lookup n = some d -> ∃ v, W.getL n es = some (some v) /\ Rep gv h V v d := by
  unfold W.getL
  refine ⟨λ e => ?_, λ d e => ?_⟩
  · rw [(r.fnd n).1 e, r.any]; rfl
  · obtain ⟨en, h1, h2⟩ := (r.fnd n).2 d e
    rw [h1]; exact ⟨_, rfl, h2⟩
theorem RepFs.put {es : List DictEntry} {fs : List (Str × D)} (r : RepFs gv h V es fs) (n : Str) (e : fs.lookup n = none) (hs : Int) (key v : Value) (k : Nat) : putL n hs key v es = es ++ [⟨hs, key, v⟩] /\ putN n es k = k + 1 := by
  have h := r.ind (P := λ es fs => fs.lookup n = none -> putL n hs key v es = es ++ [⟨hs, key, v⟩] /\ es.any (·.key.isStr n) = false) (λ _ => ⟨rfl, rfl⟩) (λ {k' x t v' d' es fs} a _ ih q => by
    cases hx : n == x with
    | true => exact noE (q.symm.trans (zfd hx))
    | false =>
      obtain ⟨i1, i2⟩ := ih ((zdT hx).symm.trans q)
      have h2 := zlb hx
      rw [putL, zfN, h2, i1, List.any_cons, zfN, h2, i2]
      exact ⟨rfl, rfl⟩) e
  refine ⟨h.1, ?_⟩
  unfold putN
  rw [h.2]; rfl
theorem RepFs.snoc {es : List DictEntry} {fs : List (Str × D)} (r : RepFs gv h V es fs) {k : Int} {n : Str} {t : Tok} {v : Value} {d : D} (q : Rep gv h V v d) : RepFs gv h V (es ++ [⟨k, .str n t, v⟩]) (fs ++ [(n, d)]) :=
  r.ind (P := λ es fs => RepFs gv h V (es ++ [⟨k, .str n t, v⟩]) (fs ++ [(n, d)])) (.cons q .nil) λ a _ ih => .cons a ih
theorem RepFs.len {es : List DictEntry} {fs : List (Str × D)} (r : RepFs gv h V es fs) : es.length = fs.length := r.ind (P := λ es fs => es.length = fs.length) rfl λ _ _ ih => congrArg (· + 1) ih
end
section
variable {C : Cx} {K : Frag} {Ca fI : Addr} {nt : List Str} {Φ : String -> List D -> Option D} {Ψ : String -> List D -> Option (D × List D)} {A : Around} {env : Env} {sc : Names} {V₀ V W : Addr -> Prop} {IO : Io} {s0 s : Shared} {σ : Sg} {a dx : Addr} {es : List DictEntry} {k : Nat} {fs : List (Str × D)}
structure II (C : Cx) (Ca : Addr) (nt : List Str) (A : Around) (env : Env) (sc : Names) (V₀ : Addr -> Prop) (IO : Io) (s0 : Shared) (a dx : Addr) (fs : List (Str × D)) (V W : Addr -> Prop) (σ : Sg) (s : Shared) : Prop where
  ps : PS C A env sc V₀ IO V W (pv nt σ) s
  dv : V₀ dx
  nw : ∀ b, W b -> s0.heap.get? b = none
  nv : ∀ b, V b -> V₀ b ∨ s0.heap.get? b = none
  kp : ∀ b o, b ≠ dx -> s0.heap.get? b = some o -> s.heap.get? b = some o
  sm : ∃ h t, s = { s0 with heap := h, toks := t }
  tk : s0.toks ≤ s.toks
  ha : s.heap.get? a = some (instObj Ca dx)
  fl : ∃ es k, s.heap.get? dx = some (dictOf es k) /\ RepFs C.gv s.heap V es fs
  lk : IO.lk ("self" : Str) (.ref a)
  dl : ∃ o, s0.heap.get? dx = some o
  al : ∃ o, s0.heap.get? a = some o
  nc : ∀ b, Fr env b -> s0.heap.get? b = none
theorem II.step {V' W' : Addr -> Prop} {σ' : Sg} {s' : Shared} (I : II C Ca nt A env sc V₀ IO s0 a dx fs V W σ s) (n : Nx V W V' W' s s') (P : PS C A env sc V₀ IO V' W' (pv nt σ') s') : II C Ca nt A env sc V₀ IO s0 a dx fs V' W' σ' s' := by
  have live : ∀ b o, s0.heap.get? b = some o -> ∃ o', s.heap.get? b = some o' := λ b o e => by
    by_cases h : b = dx
    · subst h; obtain ⟨es, k, h1, _⟩ := I.fl; exact ⟨_, h1⟩
    · exact ⟨o, I.kp b o h e⟩
  have old : ∀ b o, s0.heap.get? b = some o -> ¬ W b := λ b o e w => by have := I.nw b w; rw [this] at e; cases e
  have back : ∀ b, s.heap.get? b = none -> s0.heap.get? b = none := λ b h => by
    cases q : s0.heap.get? b with
    | none => rfl
    | some o => obtain ⟨o', e⟩ := live b o q; rw [h] at e; cases e
  obtain ⟨od, hd⟩ := I.dl
  obtain ⟨oa, ha⟩ := I.al
  refine ⟨P, I.dv, λ b w => (n.gw.2 b w).elim (I.nw b) (back b), λ b v => (n.gv.2 b v).elim (I.nv b) λ h => .inr (back b h), λ b o h e => n.mv.chg b o (old b o e) (I.kp b o h e), ?_, Nat.le_trans I.tk n.mv.toks, n.mv.chg _ _ (old a oa ha) I.ha, ?_, I.lk, I.dl, I.al, I.nc⟩
  · obtain ⟨h, t, e⟩ := I.sm
    obtain ⟨h', t', e'⟩ := n.mv.same
    exact ⟨h', t', by rw [e', e]⟩
  · obtain ⟨es, k, h1, h2⟩ := I.fl
    refine ⟨es, k, n.mv.chg _ _ (old dx od hd) h1, h2.mono λ b o nv e => ⟨n.mv.chg b o (λ w => nv (I.ps.wv b w)) e, λ v => ?_⟩⟩
    rcases n.gv.2 b v with h | h
    · exact nv h
    · rw [h] at e; cases e
theorem zm1 {x : X} {z : Stmt} {rest : List Stmt} {σ' : Sg} {Q : Flow -> Shared -> Prop} {E : Value -> Shared -> Prop} (px : PX C nt Φ Ψ A env sc V₀ IO x) (hk : kS C.γ nt sc x z = true) (e : ev1 C.tok Φ Ψ x σ .next σ') (I : II C Ca nt A env sc V₀ IO s0 a dx fs V W σ s)
    (h : ∀ s' V' W', II C Ca nt A env sc V₀ IO s0 a dx fs V' W' σ' s' -> wpAny (model C.prog C.w) A (execs rest env) Q E s') : wpAny (model C.prog C.w) A (execs (bS x z :: rest) env) Q E s :=
  wpAny_execs_cons (px hk e I.ps λ f s' V' W' n P hf => by
    cases (show f = .next from hf)
    exact h s' V' W' (I.step n P))
noncomputable def attrB (n : Str) (t : T) (z : Stmt) : Stmt := .Assign [.Attribute (.Name "self" (g1 (hd (st z))).pos) n (hd (st z)).pos] (bE t (sv z)) z.pos
theorem zdQ {n : Str} {t : T} {z : Stmt} {d : D} {rest : List Stmt} {Q : Flow -> Shared -> Prop} {E : Value -> Shared -> Prop} (w : Wsp C K Ca fI) (hE : PE C nt Φ A t) (hk : (!lcT t && kE C.γ nt t sc (sv z)) = true) (e : pe C.tok Φ t σ = some (.d d))
    (hn : n ∈ wsF) (hf : fs.lookup n = none) (hz : fs.length ≤ 10) (I : II C Ca nt A env sc V₀ IO s0 a dx fs V W σ s)
    (h : ∀ s', II C Ca nt A env sc V₀ IO s0 a dx (fs ++ [(n, d)]) V W σ s' -> wpAny (model C.prog C.w) A (execs rest env) Q E s') : wpAny (model C.prog C.w) A (execs (attrB n t z :: rest) env) Q E s := andE hk λ hdp hk => by
  refine wpAny_execs_cons (plainObj_wpAny_Assign_Attribute (hE hk I.ps.st e _ _ λ u s₁ k₁ q₁ => ?_) (ziS hk (zdj hdp)))
  have I₁ : II C Ca nt A env sc V₀ IO s0 a dx fs V W σ s₁ := I.step (Nx.keep k₁) (I.ps.keeps k₁)
  refine zbs I₁.ps.st.fm (I₁.ps.io _ _ I₁.lk).2 rfl ?_
  refine wpAny_with_toks (Nat.le_refl _) ?_
  obtain ⟨es, k, h1, h2⟩ := I₁.fl
  obtain ⟨p1, p2⟩ := h2.put n hf (PyData.keyHash C.w.params n) (.str n (s₁.toks + 1)) u k
  refine zkZ w I₁.ps.st.gl.keep I₁.ha h1 hn ((h2.getL n).1 hf) (Prod.ext p1 p2) (by rw [List.length_append, h2.len]; simp; lia) λ h' hsb hdx htk => ?_
  have vdx : V dx := I₁.ps.v0 dx I₁.dv
  have nfr : ∀ b, Fr env b -> b ≠ dx := λ b hb hd => let ⟨od, hod⟩ := I₁.dl; gone (hd ▸ I₁.nc b hb) hod
  have live : ∀ b, V b -> ∃ o, h'.get? b = some o := λ b hb => by
    by_cases q : b = dx
    · subst q; exact ⟨_, hdx⟩
    · obtain ⟨o, ho⟩ := I₁.ps.live hb; exact ⟨o, (hsb.2 b q).trans ho⟩
  have P' : PS C A env sc V₀ IO V W (pv nt σ) { s₁ with heap := h', toks := s₁.toks + 2 } := I₁.ps.move (Z := λ b => b = dx) (λ b hb => hb ▸ vdx) (λ b hb => hb) I₁.ps.wv I₁.ps.v0 (λ b hb => ⟨I₁.ps.st.fm.fr b hb, nfr b hb⟩)
    (λ b vs hb hl => by obtain ⟨o, ho, hc, _⟩ := hl; rw [hb, h1] at ho; cases ho; exact absurd hc (by simp)) (λ b o nb e => (hsb.2 b nb).trans e) live htk
  have rmono : Up V V s₁.heap h' := λ b o nv e => ⟨(hsb.2 b λ q => nv (q ▸ vdx)).trans e, nv⟩
  refine h _ ⟨P', I₁.dv, I₁.nw, I₁.nv, λ b o nb e => (hsb.2 b nb).trans (I₁.kp b o nb e), ?_, Nat.le_trans I₁.tk htk, (hsb.2 a λ q => ?_).trans I₁.ha, ⟨_, _, hdx, (h2.mono rmono).snoc (Rep.mono rmono (show Rep C.gv s₁.heap V u d from q₁))⟩, I₁.lk, I₁.dl, I₁.al, I₁.nc⟩
  · obtain ⟨h0, t0, e0⟩ := I₁.sm
    exact ⟨h', s₁.toks + 2, by rw [e0]⟩
  · have := I₁.ha; rw [q, h1] at this; cases this
end
section
variable {C : Cx} {K : Frag} {Ca fI : Addr} {nt : List Str} {Φ : String -> List D -> Option D} {Ψ : String -> List D -> Option (D × List D)} {A : Around} {env : Env} {sc : Names} {V₀ V W : Addr -> Prop} {IO : Io} {s0 s : Shared} {σ : Sg} {a dx : Addr} {fs : List (Str × D)}
theorem zc3 {α : Type} {n : Str} : ∀ {fs : List (Str × α)}, n ∉ fs.map (·.1) -> fs.lookup n = none
  | [], _ => rfl
  | (x, d) :: r, h => by
    rw [List.map_cons, List.mem_cons, not_or] at h
    rw [List.lookup_cons]
    have : (n == x) = false := by simpa using h.1
    rw [this]; exact zc3 h.2
theorem zoa {te : Expr} {b : List X} {zs rest : List Stmt} {np ap pos : Pos} {p : Pt} {x : Str} {σ' : Sg} {Q : Flow -> Shared -> Prop} {E : Value -> Shared -> Prop} (w : Wsp C K Ca fI) (rm : Rm A) (hb : PXs C nt Φ Ψ A env sc V₀ IO b) (kb : kSs C.γ nt sc b zs = true) (hn : ¬ isTup p = true) (hp : kP nt p sc te = true)
    (e2 : ForR p (evs C.tok Φ Ψ b) (signs x) σ .next σ') (hf : fs.lookup ("raw" : Str) = some (.str x)) (I : II C Ca nt A env sc V₀ IO s0 a dx fs V W σ s)
    (h : ∀ s' V' W', II C Ca nt A env sc V₀ IO s0 a dx fs V' W' σ' s' -> wpAny (model C.prog C.w) A (execs rest env) Q E s') : wpAny (model C.prog C.w) A (execs (.For (bP p te) (.Attribute (.Name "self" np) "raw" ap) (bSs b zs) [] pos :: rest) env) Q E s := by
  refine wpAny_execs_cons (wpAny_For (Attribute_any_ (zbs I.ps.st.fm (I.ps.io _ _ I.lk).2 rfl ?_)) λ x => rfl)
  obtain ⟨es, k, h1, h2⟩ := I.fl
  obtain ⟨v, hv, hr⟩ := (h2.getL "raw").2 _ hf
  obtain ⟨tk, rfl⟩ := hr.str_inv
  refine wpAny_with_toks (Nat.le_refl _) (zhC w I.ps.st.gl.keep I.ha h1 (by simp [wsF]) hv rfl ?_)
  have k₁ : Kp s { s with toks := s.toks + 1 } := ⟨zah s _, Nat.le_succ _⟩
  refine λ _ => zka (gv := C.gv) (target := bP p te) (fz := (true = true)) rm (I.ps.keeps k₁).st.al (zmf hn) λ it s₂ hit => ?_
  refine zhX rm hb kb hp e2 I.ps k₁ hit λ f s'' V' W' n P hfl => ?_
  cases (show f = .next from hfl)
  exact h s'' V' W' (I.step n P)
set_option genInjectivity false in
structure IQ where
  iw : Nat
  x1 : X
  x2 : X
  x3 : X
  xb : List X
  p : Pt
  t1 : T
  t2 : T
  t3 : T
  t4 : T
noncomputable def zs (z : List Stmt) (i : Nat) : Stmt := z.getD i default
noncomputable def initB (q : IQ) (z : List Stmt) : List Stmt :=
  [attrB "raw" (.var q.iw) (zs z 0), bS q.x1 (zs z 1), bS q.x2 (zs z 2), bS q.x3 (zs z 3), .For (bP q.p (hd (st (zs z 4)))) (.Attribute (.Name "self" (g1 (sv (zs z 4))).pos) "raw" (sv (zs z 4)).pos) (bSs q.xb (sb (zs z 4))) [] (zs z 4).pos,
    attrB "n" q.t1 (zs z 5), attrB "nt" q.t2 (zs z 6), attrB "norm" q.t3 (zs z 7), attrB "is_simple" q.t4 (zs z 8)]
structure InitC (γ : Str -> Option D) (nt : List Str) (sc : Names) (q : IQ) (z : List Stmt) : Prop where
  body : initB q z = z
  iw : nmI nt "ws" = some q.iw
  kw : (!lcT (.var q.iw) && kE γ nt (.var q.iw) sc (sv (zs z 0))) = true
  c1 : kS γ nt sc q.x1 (zs z 1) = true
  c2 : kS γ nt sc q.x2 (zs z 2) = true
  c3 : kS γ nt sc q.x3 (zs z 3) = true
  cb : kSs γ nt sc q.xb (sb (zs z 4)) = true
  hn : ¬ isTup q.p = true
  pt : kP nt q.p sc (hd (st (zs z 4))) = true
  k1 : (!lcT q.t1 && kE γ nt q.t1 sc (sv (zs z 5))) = true
  k2 : (!lcT q.t2 && kE γ nt q.t2 sc (sv (zs z 6))) = true
  k3 : (!lcT q.t3 && kE γ nt q.t3 sc (sv (zs z 7))) = true
  k4 : (!lcT q.t4 && kE γ nt q.t4 sc (sv (zs z 8))) = true
structure InitE (tok : Str -> Option Int) (Φ : String -> List D -> Option D) (Ψ : String -> List D -> Option (D × List D)) (q : IQ) (x : Str) (σ1 σ2 σ3 σ4 : Sg) (d1 d2 d3 d4 : D) : Prop where
  e1 : ev1 tok Φ Ψ q.x1 [(q.iw, .fz (.str x))] .next σ1
  e2 : ev1 tok Φ Ψ q.x2 σ1 .next σ2
  e3 : ev1 tok Φ Ψ q.x3 σ2 .next σ3
  e4 : ForR q.p (evs tok Φ Ψ q.xb) (signs x) σ3 .next σ4
  q1 : pe tok Φ q.t1 σ4 = some (.d d1)
  q2 : pe tok Φ q.t2 σ4 = some (.d d2)
  q3 : pe tok Φ q.t3 σ4 = some (.d d3)
  q4 : pe tok Φ q.t4 σ4 = some (.d d4)
theorem zmn {fd : FuncData} {iq : IQ} {z : List Stmt} {σ1 σ2 σ3 σ4 : Sg} {x : Str} {t : Tok} {d1 d2 d3 d4 : D} {R : Result -> Shared -> Prop} (w : Wsp C K Ca fI) (F : FnOk C "__init__" fd ["self", "ws"] z) (hfI : C.gv "__init__" = some (.ref fI)) (room : A.depth < recursionLimit) (KO : C.Ok) (O : C.Obj)
    (rm : ∀ env, Rm (A.deeper env)) (Ph : ∀ env, PhiOk C Φ (A.deeper env)) (Ps : ∀ env, PsiOk C Ψ (A.deeper env))
    (IC : InitC C.γ nt (fd.scope.names.filter λ p => p.1 != "self") iq z) (IE : InitE C.tok Φ Ψ iq x σ1 σ2 σ3 σ4 d1 d2 d3 d4) (gl : Gl C V s.heap) (al : Al V s.heap) (tk : 1 ≤ s.toks)
    (ha : s.heap.get? a = some (instObj Ca dx)) (hd : s.heap.get? dx = some (dictOf [] 0)) (hna : C.h₀.get? a = none) (hnd : C.h₀.get? dx = none)
    (hR : ∀ s' es k, (∀ b o, b ≠ dx -> s.heap.get? b = some o -> s'.heap.get? b = some o) -> (∃ h t, s' = { s with heap := h, toks := t }) -> s.toks ≤ s'.toks -> s'.heap.get? a = some (instObj Ca dx) -> s'.heap.get? dx = some (dictOf es k) ->
      RepFs C.gv s'.heap (λ b => V b ∨ b = a ∨ b = dx) es [("raw", .str x), ("n", d1), ("nt", d2), ("norm", d3), ("is_simple", d4)] -> R (.ok (.ret .none)) s') :
    codeAny (model C.prog C.w) A (.call (.ref fI) ⟨[.ref a, .str x t], []⟩) R s := by
  have hσ : ∀ y b, pv nt [(iq.iw, .fz (.str x))] y = some b -> y = "ws" /\ b = .fz (.str x) := λ y b h => by
    obtain ⟨i, hi, h'⟩ := Option.bind_eq_some_iff.mp (show (nmI nt y).bind (λ i => List.lookup i [(iq.iw, B.fz (.str x))]) = some b from h)
    clear h
    by_cases e0 : i = iq.iw
    · rw [e0] at hi h'
      simp only [List.lookup_cons, beq_self_eq_true] at h'
      cases h'; exact ⟨zc5 hi IC.iw, rfl⟩
    · have e0' : (i == iq.iw) = false := by simpa using e0
      simp only [List.lookup_cons, e0', List.lookup_nil] at h'
      cases h'
  refine zlA (sc := fd.scope.names.filter λ p => p.1 != "self") (V₀ := λ b => V b ∨ b = a ∨ b = dx) (IO := ⟨λ _ => False, λ y u => y = "self" /\ u = .ref a⟩) (nt := nt) (σ := [(iq.iw, .fz (.str x))]) F hfI room
    (λ b o e => ⟨(gl b o e).1, λ h => h.elim (gl b o e).2 λ h => h.elim (λ h => by rw [h, hna] at e; cases e) λ h => by rw [h, hnd] at e; cases e⟩) ?_ tk rfl (λ x kd h => (za8 h).1) (λ a h => h.elim)
    (λ y u h => ⟨by rw [h.1]; exact zbM, by rw [h.1, h.2]; simp⟩) (λ y b hb => ?_) (λ y z ds es l hy _ _ _ => by have := (hσ y _ hy).2; cases this) λ env s₁ V₁ W₁ E' kp hw hv look N P => ?_
  · intro b hb
    rcases hb with hb | rfl | rfl
    · exact al b hb
    · exact ⟨_, ha⟩
    · exact ⟨_, hd⟩
  · obtain ⟨rfl, rfl⟩ := hσ y b hb
    exact ⟨.str x t, by simp, .str x t, λ ds h => by cases h⟩
  · have hne : a ≠ dx := λ e => by rw [e, hd] at ha; cases ha
    obtain ⟨⟨h1, t1', e1', k1⟩, k2⟩ := kp
    have I : II C Ca nt (A.deeper env) env (fd.scope.names.filter λ p => p.1 != "self") (λ b => V b ∨ b = a ∨ b = dx) ⟨λ _ => False, λ y u => y = "self" /\ u = .ref a⟩ s a dx [] V₁ W₁ [(iq.iw, .fz (.str x))] s₁ :=
      ⟨P, .inr (.inr rfl), λ b hb => (hw b hb).elim (λ f => f.elim) id, hv, λ b o _ e => by rw [e1']; exact k1 b o e, ⟨h1, t1', e1'⟩, k2, by rw [e1']; exact k1 a _ ha, ⟨[], 0, by rw [e1']; exact k1 dx _ hd, .nil⟩, ⟨rfl, rfl⟩, ⟨_, hd⟩, ⟨_, ha⟩, N⟩
    have AE : ∀ t, AllP C nt Φ (A.deeper env) t := allE KO O (rm env) (Ph env)
    have rs : ∀ x, PX C nt Φ Ψ (A.deeper env) env (fd.scope.names.filter λ p => p.1 != "self") (λ b => V b ∨ b = a ∨ b = dx) ⟨λ _ => False, λ y u => y = "self" /\ u = .ref a⟩ x := λ x => oneX KO O (rm env) (Ph env) (Ps env) x (λ a h => h)
    have rl : PXs C nt Φ Ψ (A.deeper env) env (fd.scope.names.filter λ p => p.1 != "self") (λ b => V b ∨ b = a ∨ b = dx) ⟨λ _ => False, λ y u => y = "self" /\ u = .ref a⟩ iq.xb := allX KO O (rm env) (Ph env) (Ps env) iq.xb (.inl λ a h => h)
    refine (congrArg (λ l => wpAny (model C.prog C.w) (A.deeper env) (execs l env) _ E' s₁) IC.body).mp ?_
    refine zdQ w (AE _).pe IC.kw (d := .str x) (show (List.lookup iq.iw [(iq.iw, B.fz (.str x))]).map B.toR = _ by rw [List.lookup_cons, beq_self_eq_true]; rfl) (by simp [wsF]) rfl (by simp) I λ s₂ I₂ => ?_
    refine zm1 (rs _) IC.c1 IE.e1 I₂ λ s₃ V₃ W₃ I₃ => zm1 (rs _) IC.c2 IE.e2 I₃ λ s₄ V₄ W₄ I₄ => zm1 (rs _) IC.c3 IE.e3 I₄ λ s₅ V₅ W₅ I₅ => ?_
    refine zoa w (rm env) rl IC.cb IC.hn IC.pt IE.e4 rfl I₅ λ s₆ V₆ W₆ I₆ => ?_
    refine zdQ w (AE _).pe IC.k1 IE.q1 (by simp [wsF]) (by exact zc3 (show ("n" : Str) ∉ (["raw"] : List Str) by decide)) (by simp) I₆ λ s₇ I₇ => ?_
    refine zdQ w (AE _).pe IC.k2 IE.q2 (by simp [wsF]) (by exact zc3 (show ("nt" : Str) ∉ (["raw", "n"] : List Str) by decide)) (by simp) I₇ λ s₈ I₈ => ?_
    refine zdQ w (AE _).pe IC.k3 IE.q3 (by simp [wsF]) (by exact zc3 (show ("norm" : Str) ∉ (["raw", "n", "nt"] : List Str) by decide)) (by simp) I₈ λ s₉ I₉ => ?_
    refine zdQ w (AE _).pe IC.k4 IE.q4 (by simp [wsF]) (by exact zc3 (show ("is_simple" : Str) ∉ (["raw", "n", "nt", "norm"] : List Str) by decide)) (by simp) I₉ λ s' I' => ?_
    refine wpAny_execs_nil ?_
    obtain ⟨es, k, h1, h2⟩ := I'.fl
    exact hR s' es k I'.kp I'.sm I'.tk I'.ha h1 (h2.mono λ b o nv e => ⟨e, λ h => nv (I'.ps.v0 b h)⟩)
end
structure Rom (n : Nat) (A : Around) : Prop where
  handled : A.handled = none
  depth : A.depth + 3 * n ≤ 900
  units : A.units + 20 * n ≤ 9000
theorem Rom.rm {n : Nat} {A : Around} (r : Rom n A) : Rm A := ⟨r.handled, by have := r.units; simp only [cLine]; lia⟩
theorem Rom.le {n m : Nat} {A : Around} (r : Rom n A) (h : m ≤ n) : Rom m A := ⟨r.handled, by have := r.depth; lia, by have := r.units; lia⟩
theorem Rom.deeper {n : Nat} {A : Around} (r : Rom (n + 1) A) (env : Env) : Rom n (A.deeper env) := ⟨r.handled, by have := r.depth; show A.depth + 1 + 3 * n ≤ 900; lia, by have := r.units; show A.units + 3 + 20 * n ≤ 9000; lia⟩
theorem Rom.room {n : Nat} {A : Around} (r : Rom n A) : A.depth < recursionLimit := by have := r.depth; simp only [recursionLimit]; lia
theorem Rom.make {n : Nat} {A : Around} (r : Rom (n + 1) A) (Ca : Addr) (vals : List Value) : Rom n (A.under (.builtin "type.__call__" ⟨.ref Ca :: vals, []⟩)) := by
  have hc : (Code.builtin "type.__call__" ⟨.ref Ca :: vals, []⟩).cUnits ≤ 10 := Nat.le_trans (Nat.le_of_eq (show (Code.builtin "type.__call__" ⟨.ref Ca :: vals, []⟩).cUnits = 1 from rfl)) (by decide)
  exact ⟨r.handled, by have := r.depth; rw [depth_under_kw]; lia, by have := r.units; show A.units + (Code.builtin "type.__call__" ⟨.ref Ca :: vals, []⟩).cUnits + 20 * n ≤ 9000; lia⟩
structure KFx (C : Cx) (K : Frag) (Ca fI : Addr) (mc : Value) : Prop where
  w : Wsp C K Ca fI
  bi : ∀ k, isBi k = true -> C.gv k = some (biVal k)
  rng : C.gv "range" = some (.type "range")
  enm : C.gv "enumerate" = some (.type "enumerate")
  keep : ∀ k fv, C.gv k = some fv -> isBi k = false -> k ≠ "EXACT_TOKEN_TYPES" -> keepIn K fv = true ∨ ∃ T, fv = .type T
  hand : ∀ k v, C.gv k = some v -> handedIn v = true
  gm : ∀ m, isMe m = true -> ∃ f, C.gv m = some (.ref f) /\ findIn K (.ref Ca) (Str.ofString m) = some (some (.ref f)) /\ typeIn K (.ref f) = some (.type "function") /\ Str.ofString m ∉ wsF
  rd : readsIn K Ca mc = true
  S : ∃ t, findCls K (.ref Ca) mc "S" = some (.val (.str " " t))
  T : ∃ t, findCls K (.ref Ca) mc "T" = some (.val (.str "\t" t))
section
variable {C : Cx} {K : Frag} {Ca fI : Addr} {mc : Value}
theorem zf6 (F : KFx C K Ca fI mc) {k : String} {fv : Value} (h1 : C.gv k = some fv) (h2 : isBi k = false) (h3 : k ≠ "EXACT_TOKEN_TYPES") {A : Around} {E : Value -> Shared -> Prop} {s : Shared} {pos : Pos} {first : List Value} {args : List (Bool × Sem Value)} {Q : Value -> Shared -> Prop} (hp : args.any (·.1) = false)
    (h : wpAny (model C.prog C.w) A (evalArgs fv true args []) (λ a s₁ => (∀ b o, C.h₀.get? b = some o -> s₁.heap.get? b = some o) /\ wpAny (model C.prog C.w) A (call fv (first ++ a.pos) a.kw) Q E s₁) E s) : wpAny (model C.prog C.w) A (callWith pos fv first args []) Q E s := by
  rcases F.keep k fv h1 h2 h3 with hk | ⟨T, rfl⟩
  · exact callWith_of (P := K.In) (by rw [hp]; rfl) (keeps_K hk) (wpAny_mono h (λ a s₁ x => ⟨λ b o e => x.1 b o (F.w.kin b o e), x.2⟩) λ _ _ x => x)
  · exact PySem.callWith_type hp (wpAny_mono h (λ a s₁ x => x.2) λ _ _ x => x)
theorem ziw (F : KFx C K Ca fI mc) {h : Heap} {V : Addr -> Prop} {v : Value} {d : D} (r : Rep C.gv h V v d) : handedIn v = true := by
  cases r <;> first | rfl | skip
  rename_i k e
  exact F.hand k v e
theorem zdO {α : Type} {n : Str} : ∀ {fs : List (Str × α)} {d : α}, fs.lookup n = some d -> n ∈ fs.map (·.1)
  | (x, c) :: r, d, h => by
    rw [List.lookup_cons] at h
    cases hx : n == x with
    | true => rw [List.map_cons, beq_iff_eq.mp hx]; exact .head _
    | false => rw [hx] at h; rw [List.map_cons]; exact .tail _ (zdO h)
theorem Wsp.cl (w : Wsp C K Ca fI) {a : Addr} (h : C.gv "Whitespace" = some (.ref a)) : a = Ca := Value.ref.inj (Option.some.inj (h.symm.trans w.cls))
theorem KFx.obj (F : KFx C K Ca fI mc) : C.Obj where
  bi := F.bi
  rng := F.rng
  enm := F.enm
  cw := λ k fv h1 h2 h3 {A E s pos first args Q} hp h => zf6 F h1 h2 h3 hp h
  gm := λ m hm => by
    obtain ⟨f, g1, g2, g3, g4⟩ := F.gm m hm
    refine ⟨.ref f, g1, λ {A E s V v fs pl Q} gl r hQ => ?_⟩
    obtain ⟨a, C', dx, es, n, rfl, _, _, ha, hdx, hc, hfs, rf⟩ := r.inv
    exact method_fn (K := K) (od := some (dictOf es n)) (λ b o e => gl.keep b o (F.w.kin b o e)) ⟨ha, rfl, rfl, hdx⟩ (F.w.cl hc ▸ F.w.ga) (F.w.cl hc ▸ F.w.gk) (F.w.cl hc ▸ g2) g3 (congrArg (Option.map _) ((rf.getL _).1 (zc3 (by rw [hfs]; exact g4)))) hQ
  fld := λ {A E s V v fs n d Q} gl r hl hQ => by
    obtain ⟨a, C', dx, es, k, rfl, _, _, ha, hdx, hc, hfs, rf⟩ := r.inv
    obtain ⟨u, hu, ru⟩ := (rf.getL n).2 d hl
    exact zhC F.w gl.keep (F.w.cl hc ▸ ha) hdx (hfs ▸ zdO hl) hu (ziw F ru) (hQ u _ ru)
  cls := λ {A E s V v n d Q} gl hv hl hQ => by
    have X : K.In s.heap := λ b o e => gl.keep b o (F.w.kin b o e)
    have hc : v = .ref Ca := Option.some.inj (hv.symm.trans F.w.cls)
    rw [hc]
    change (if n = ("S" : Str) then some (D.str " ") else if n = ("T" : Str) then some (D.str "\t") else none) = some d at hl
    exact iteE hl (λ hn hl => F.S.elim λ t ht => cls_value X F.rd (hn ▸ ht) rfl (hQ _ _ (Option.some.inj hl ▸ .str _ _))) λ _ hl => ifE hl λ hn hl => F.T.elim λ t ht => cls_value X F.rd (hn ▸ ht) rfl (hQ _ _ (hl ▸ .str _ _))
theorem zmF {nt : List Str} {Φ : String -> List D -> Option D} {Ψ : String -> List D -> Option (D × List D)} {A : Around} {V : Addr -> Prop} {s : Shared} {fd : FuncData} {iq : IQ} {z : List Stmt} {σ1 σ2 σ3 σ4 : Sg} {x : Str} {v : Value} {d1 d2 d3 d4 : D} {n : Nat} (KX : KFx C K Ca fI mc) (F : FnOk C "__init__" fd ["self", "ws"] z) (hfI : C.gv "__init__" = some (.ref fI)) (KO : C.Ok)
    (rom : Rom (n + 2) A) (Ph : ∀ A, Rom n A -> PhiOk C Φ A) (Ps : ∀ A, Rom n A -> PsiOk C Ψ A)
    (IC : InitC C.γ nt (fd.scope.names.filter λ p => p.1 != "self") iq z) (IE : InitE C.tok Φ Ψ iq x σ1 σ2 σ3 σ4 d1 d2 d3 d4) (gl : Gl C V s.heap) (al : Al V s.heap) (tk : 1 ≤ s.toks) (r : Rep C.gv s.heap V v (.str x)) :
    Runs (model C.prog C.w) A s (call (.ref Ca) [v]) λ u s' => Rep C.gv s'.heap V u (.obj [("raw", .str x), ("n", d1), ("nt", d2), ("norm", d3), ("is_simple", d4)]) := by
  obtain ⟨t, rfl⟩ := r.str_inv
  refine zam λ Q E hQ => ?_
  have X : K.In s.heap := λ b o e => gl.keep b o (KX.w.kin b o e)
  obtain ⟨h, g, d, tks, os⟩ := s
  refine wpAny_call (make_core (makes_of X KX.w.mak) (looks_findIn X KX.w.ini) (λ self => bind_fn X self KX.w.inif) (.inl rfl) ?_)
  have ne1 : h.get? h.objs.size = none := zav h
  have ne2 : h.get? (h.objs.size + 1) = none := by
    cases e : h.get? (h.objs.size + 1) with
    | none => rfl
    | some o => exact absurd (Heap.lt_size e) (Nat.not_lt.mpr (Nat.le_succ _))
  have k1 : ∀ b o, h.get? b = some o -> ((h.push emptyDict).push (instObj Ca h.objs.size)).get? b = some o := λ b o e => Heap.get?_push_of_some _ (Heap.get?_push_of_some _ e)
  have ha : ((h.push emptyDict).push (instObj Ca h.objs.size)).get? (h.objs.size + 1) = some (instObj Ca h.objs.size) := by
    have : ((h.push emptyDict).push (instObj Ca h.objs.size)).get? (h.push emptyDict).objs.size = some (instObj Ca h.objs.size) := Heap.get?_push_size _ rfl
    rwa [Heap.size_push] at this
  have hd : ((h.push emptyDict).push (instObj Ca h.objs.size)).get? h.objs.size = some (dictOf [] 0) := Heap.get?_push_of_some _ (Heap.get?_push_size _ rfl)
  have no : ∀ a, h.get? a = none -> C.h₀.get? a = none := λ a e => by
    cases q : C.h₀.get? a with
    | none => rfl
    | some o => have := (gl a o q).1; rw [e] at this; cases this
  have rom' := rom.make Ca [.str x t]
  refine zmn (dx := h.objs.size) (Φ := Φ) (Ψ := Ψ) (V := V) KX.w F hfI rom'.room KO KX.obj (λ env => (rom'.deeper env).rm) (λ env => Ph _ (rom'.deeper env)) (λ env => Ps _ (rom'.deeper env)) IC IE (λ b o e => ⟨k1 b o (gl b o e).1, (gl b o e).2⟩) (λ b hb => let ⟨o, e⟩ := al b hb; ⟨o, k1 b o e⟩) tk ha hd (no _ ne2) (no _ ne1) λ s' es k hkp hsm htk hfa hfd hrf => ⟨rfl, ?_⟩
  obtain ⟨h', t', rfl⟩ := hsm
  refine hQ _ _ ⟨h', t', rfl, λ b o e => hkp b o (λ q => by rw [q, ne1] at e; cases e) (k1 b o e)⟩ ?_
  refine .obj (λ hv => ?_) (λ hv => ?_) hfa hfd KX.w.cls rfl (hrf.mono λ b o nb e => ⟨e, λ hv => nb (.inl hv)⟩)
  · obtain ⟨o, e⟩ := al _ hv; rw [ne2] at e; cases e
  · obtain ⟨o, e⟩ := al _ hv; rw [ne1] at e; cases e
end
end Mine
end
section
open PySem PySem.W PyProof.Rows
set_option maxRecDepth 100000
namespace Mine
noncomputable def fd1 (n : Str) : List Stmt -> Option (Arguments × List Stmt × Scope)
  | [] => none
  | .FunctionDef nm args body _ _ _ scope _ _ _ :: r => if nm = n then some (args, body, scope) else fd1 n r
  | _ :: r => fd1 n r
noncomputable def clsB : List Stmt -> List Stmt
  | [] => []
  | .ClassDef _ _ _ cb _ _ _ _ _ _ _ :: _ => cb
  | _ :: r => clsB r
noncomputable def zm0 (n : Str) (b : List Stmt) : Option (Arguments × List Stmt × Scope) := match fd1 n b with
  | some x => some x
  | none => fd1 n (clsB b)
noncomputable def defOf (n : String) : Arguments × List Stmt × Scope := (zm0 n PySem.Challenge.pw_ta0085_01.main.body).getD (⟨[], [], none, [], [], none, []⟩, [], ⟨.module, [], false, false, []⟩)
noncomputable def fnN : List String := ["len", "max", "min", "sum", "sorted", "divmod", "tuple", "range", "enumerate", "Whitespace", "_law_depths", "_law_end", "_law_swapped", "_law_reached", "_law_row", "_law_page", "_law_read", "_law_guy", "_law_booked", "_law_second",
  "_escape_cdata", "_escape_attrib", "_escape_attrib_html", "_escape_cdata_c14n", "_escape_attrib_c14n", "ISTERMINAL", "ISNONTERMINAL", "EXACT_TOKEN_TYPES"]
noncomputable def γL : List (Str × D) := (fnN.map λ k => (Str.ofString k, D.fn k)) ++ ([("LPAR", D.int 7), ("RPAR", D.int 8), ("COMMA", D.int 12), ("NT_OFFSET", D.int 256)] : List (Str × D))
noncomputable def γ0 (x : Str) : Option D := γL.lookup x
noncomputable def zcD : List Str := (["cell", "depths", "place", "depth", "range", "divmod"] : List String).map Str.ofString
noncomputable def zbm : List X := [.own 1 (.lst [.cst (.int 0)]),
  .fr (.nm 2) (.rng1 (.cst (.int 4))) [.asg (.tp [.nm 0, .nm 3]) (.call (.cst (.fn "divmod")) [.var 0, .bin .Add (.sub (.var 1) (.neg (.cst (.int 1)))) (.cst (.int 2))]),
  .app 1 (.var 3)],
  .retO 1]
theorem zf9 : (bSs zbm (defOf "_law_depths").2.1, kSs γ0 zcD (defOf "_law_depths").2.2.names zbm (defOf "_law_depths").2.1) = ((defOf "_law_depths").2.1, true) := by kernel_rfl
noncomputable def zet : List Str := (["lines", "a", "b"] : List String).map Str.ofString
noncomputable def zcy : List X := [.asg (.nm 2) (.var 1),
  .whl (.all_ .And [.cmp .Lt (.var 2) (.cst (.int 4)), .cmp .Gt (.sub (.sub (.var 0) (.bin .Add (.var 2) (.cst (.int 1)))) (.cst (.int 0))) (.sub (.sub (.var 0) (.var 1)) (.cst (.int 0)))]) [.asg (.nm 2) (.bin .Add (.var 2) (.cst (.int 1)))],
  .ret (.var 2)]
theorem zjZ : (bSs zcy (defOf "_law_end").2.1, kSs γ0 zet (defOf "_law_end").2.2.names zcy (defOf "_law_end").2.1) = ((defOf "_law_end").2.1, true) := by kernel_rfl
noncomputable def zcq : List Str := (["lines", "made", "a", "b", "c", "range", "_law_end"] : List String).map Str.ofString
noncomputable def za9 : List X := [.own 1 (.lst []),
  .fr (.nm 2) (.rng1 (.cst (.int 4))) [.asg (.nm 3) (.bin .Add (.call (.cst (.fn "_law_end")) [.var 0, .var 2]) (.cst (.int 1))),
  .iff (.all_ .And [.cmp .Lt (.var 3) (.cst (.int 5)), .cmp .Eq (.sub (.sub (.var 0) (.var 3)) (.cst (.int 0))) (.sub (.sub (.var 0) (.var 2)) (.cst (.int 0)))]) [.asg (.nm 4) (.bin .Add (.call (.cst (.fn "_law_end")) [.var 0, .var 3]) (.cst (.int 1))),
  .app 1 (.bin .Add (.bin .Add (.bin .Add (.slc (.var 0) (.cst (.none)) (.var 2) (.cst (.none))) (.slc (.var 0) (.var 3) (.var 4) (.cst (.none)))) (.slc (.var 0) (.var 2) (.var 3) (.cst (.none)))) (.slc (.var 0) (.var 4) (.cst (.none)) (.cst (.none))))] []],
  .retO 1]
theorem zeQ : (bSs za9 (defOf "_law_swapped").2.1, kSs γ0 zcq (defOf "_law_swapped").2.2.names za9 (defOf "_law_swapped").2.1) = ((defOf "_law_swapped").2.1, true) := by kernel_rfl
noncomputable def zcj : List Str := (["lines", "reached", "place", "other", "len", "_law_swapped"] : List String).map Str.ofString
noncomputable def zba : List X := [.asgs [1, 2] [true, false] [.lst [.var 0], .cst (.int 0)],
  .whl (.cmp .Lt (.var 2) (.call (.cst (.fn "len")) [.var 1])) [.fr (.nm 3) (.pln (.call (.cst (.fn "_law_swapped")) [.sub (.var 1) (.var 2)])) [.iff (.cmp .NotIn (.var 3) (.var 1)) [.app 1 (.var 3)] []],
  .asg (.nm 2) (.bin .Add (.var 2) (.cst (.int 1)))],
  .retO 1]
theorem zfw : (bSs zba (defOf "_law_reached").2.1, kSs γ0 zcj (defOf "_law_reached").2.2.names zba (defOf "_law_reached").2.1) = ((defOf "_law_reached").2.1, true) := by kernel_rfl
noncomputable def zew : List Str := (["lines", "names", "row", "k", "range"] : List String).map Str.ofString
noncomputable def zcN : List X := [.asg (.nm 2) (.sub (.var 1) (.sub (.sub (.var 0) (.cst (.int 0))) (.cst (.int 1)))),
  .fr (.nm 3) (.rng (.cst (.int 1)) (.cst (.int 5))) [.asg (.nm 2) (.bin .Add (.bin .Add (.var 2) (.ite (.cmp .Gt (.sub (.sub (.var 0) (.var 3)) (.cst (.int 0))) (.sub (.sub (.var 0) (.bin .Sub (.var 3) (.cst (.int 1)))) (.cst (.int 0)))) (.cst (.str "(")) (.bin .Add (.bin .Mult (.cst (.str ")")) (.bin .Sub (.sub (.sub (.var 0) (.bin .Sub (.var 3) (.cst (.int 1)))) (.cst (.int 0))) (.sub (.sub (.var 0) (.var 3)) (.cst (.int 0))))) (.cst (.str ","))))) (.sub (.var 1) (.sub (.sub (.var 0) (.var 3)) (.cst (.int 1)))))],
  .ret (.bin .Add (.var 2) (.bin .Mult (.cst (.str ")")) (.sub (.sub (.var 0) (.cst (.int 4))) (.cst (.int 0)))))]
theorem ziZ : (bSs zcN (defOf "_law_row").2.1, kSs γ0 zew (defOf "_law_row").2.2.names zcN (defOf "_law_row").2.1) = ((defOf "_law_row").2.1, true) := by kernel_rfl
noncomputable def zdG : List Str := (["text", "kind", "spared", ".0", "sign"] : List String).map Str.ofString
noncomputable def zb5 : List X := [.asg (.nm 2) (.sub (.tup [.cst (.str ""), .cst (.str ""), .cst (.str ""), .cst (.str "<"), .cst (.str ">")]) (.var 1)),
  .ret (.meth "join" (.cst (.str "")) [.lc (.nm 4) (.pln (.var 0)) (.all_ .And []) (.yld (.ite (.cmp .In (.var 4) (.var 2)) (.var 4) (.dget [.cst (.str "&"), .cst (.str "<"), .cst (.str ">")] [.cst (.str "&amp;"), .cst (.str "&lt;"), .cst (.str "&gt;")] (.var 4) (.var 4)))) [2]])]
theorem ziq : (bSs zb5 (defOf "_law_page").2.1, kSs γ0 zdG (defOf "_law_page").2.2.names zb5 (defOf "_law_page").2.1) = ((defOf "_law_page").2.1, true) := by kernel_rfl
noncomputable def zdF : List Str := (["page", "numbers", "text", "lines", "depth", "place", "end", "number", "symbol", "len", "max", "EXACT_TOKEN_TYPES", "LPAR", "RPAR", "COMMA", "NT_OFFSET", "ISNONTERMINAL", "ISTERMINAL", ".0", "k"] : List String).map Str.ofString
noncomputable def zb8 : List X := [.asg (.nm 2) (.repl (.repl (.repl (.var 0) "&lt;" "<") "&gt;" ">") "&amp;" "&"),
  .asgs [3, 4, 5] [true, false, false] [.lst [], .cst (.int 0), .cst (.int 0)],
  .whl (.cmp .Lt (.var 5) (.call (.cst (.fn "len")) [.var 2])) [.asg (.nm 6) (.bin .Add (.var 5) (.call (.cst (.fn "max")) [.lc (.nm 19) (.pln (.tup [.cst (.int 1), .cst (.int 2), .cst (.int 3)])) (.all_ .And [.cmp .In (.slc (.var 2) (.var 5) (.bin .Add (.var 5) (.var 19)) (.cst (.none))) (.cst (.fn "EXACT_TOKEN_TYPES"))]) (.yld (.var 19)) [5, 2]])),
  .asg (.nm 7) (.sub (.cst (.fn "EXACT_TOKEN_TYPES")) (.slc (.var 2) (.var 5) (.var 6) (.cst (.none)))),
  .asg (.nm 8) (.ite (.cmp .In (.var 7) (.tup [.cst (.int 7), .cst (.int 8), .cst (.int 12)])) (.var 7) (.bin .Add (.cst (.int 256)) (.meth "index" (.var 1) [.var 7]))),
  .iff (.all_ .And [.call (.cst (.fn "ISNONTERMINAL")) [.var 8], .not_ (.call (.cst (.fn "ISTERMINAL")) [.var 8])]) [.app 3 (.tup [.var 4, .bin .Sub (.var 8) (.cst (.int 256))])] [.iff (.all_ .And [.call (.cst (.fn "ISTERMINAL")) [.var 8], .not_ (.call (.cst (.fn "ISNONTERMINAL")) [.var 8])]) [.asg (.nm 4) (.bin .Add (.var 4) (.ite (.cmp .Eq (.var 8) (.cst (.int 7))) (.cst (.int 1)) (.ite (.cmp .Eq (.var 8) (.cst (.int 8))) (.neg (.cst (.int 1))) (.cst (.int 0)))))] []],
  .asg (.nm 5) (.var 6)],
  .retO 3]
theorem zh5 : (bSs zb8 (defOf "_law_read").2.1, kSs γ0 zdF (defOf "_law_read").2.2.names zb8 (defOf "_law_read").2.1) = ((defOf "_law_read").2.1, true) := by kernel_rfl
noncomputable def zeA : List Str := (["runs", "behind", "Whitespace", ".0", "run"] : List String).map Str.ofString
noncomputable def zcJ : List X := [.ret (.call (.cst (.fn "Whitespace")) [.bin .Add (.meth "join" (.cst (.str "")) [.lc (.nm 4) (.pln (.var 0)) (.all_ .And []) (.yld (.bin .Add (.bin .Mult (.cst (.str " ")) (.var 4)) (.cst (.str "\t")))) []]) (.bin .Mult (.cst (.str " ")) (.var 1))])]
theorem zjl : (bSs zcJ (defOf "_law_guy").2.1, kSs γ0 zeA (defOf "_law_guy").2.2.names zcJ (defOf "_law_guy").2.1) = ((defOf "_law_guy").2.1, true) := by kernel_rfl
noncomputable def zbL : List Str := (["lines", "book", "behind", "classes", "ways", "above", "a", "kids", "guy", "count", "same", "range", "_law_guy", "enumerate", "len", ".0", "b", "min", "depth", "label", "place", "other"] : List String).map Str.ofString
noncomputable def zaO : List X := [.asgs [3, 4, 5] [true, false, false] [.lst [.cst (.int 0), .cst (.int 0), .cst (.int 0), .cst (.int 0), .cst (.int 0)], .cst (.int 1), .bin .Add (.lst [.tup [.neg (.cst (.int 1)), .var 2]]) (.var 0)],
  .fr (.nm 6) (.pln (.tup [.cst (.int 5), .cst (.int 4), .cst (.int 3), .cst (.int 2), .cst (.int 1), .cst (.int 0)])) [.asg (.nm 7) (.lc (.nm 16) (.rng (.var 6) (.cst (.int 5))) (.all_ .And [.all_ .And [.cmp .Eq (.sub (.sub (.var 0) (.var 16)) (.cst (.int 0))) (.bin .Add (.sub (.sub (.var 5) (.var 6)) (.cst (.int 0))) (.cst (.int 1))), .cmp .Gt (.call (.cst (.fn "min")) [.bin .Add (.lst [.cst (.int 9)]) (.lc (.tp [.nm 18, .nm 19]) (.pln (.slc (.var 0) (.var 6) (.var 16) (.cst (.none)))) (.all_ .And []) (.yld (.var 18)) [])]) (.sub (.sub (.var 5) (.var 6)) (.cst (.int 0)))]]) (.yld (.var 16)) [6, 5, 0]),
  .asg (.nm 8) (.call (.cst (.fn "_law_guy")) [.lc (.nm 16) (.pln (.var 7)) (.all_ .And []) (.yld (.sub (.var 3) (.var 16))) [3], .sub (.sub (.var 5) (.var 6)) (.cst (.int 1))]),
  .asg (.nm 4) (.bin .Mult (.var 4) (.sub (.tup [.cst (.int 1), .cst (.int 1), .cst (.int 2), .cst (.int 6), .cst (.int 24), .cst (.int 120)]) (.fld (.var 8) "nt"))),
  .fr (.nm 9) (.pln (.sub (.fld (.var 8) "norm") (.cst (.int 0)))) [.asg (.nm 4) (.bin .FloorDiv (.var 4) (.sub (.tup [.cst (.int 1), .cst (.int 1), .cst (.int 2), .cst (.int 6), .cst (.int 24), .cst (.int 120)]) (.var 9)))],
  .iff (.cmp .Gt (.var 6) (.cst (.int 0))) [.asg (.nm 10) (.lc (.tp [.nm 20, .nm 21]) (.enm (.var 1)) (.all_ .And [.cmp .Is (.meth "equal" (.var 21) [.var 8]) (.cst (.bool true))]) (.yld (.var 20)) [8]),
  .iff (.cmp .Eq (.var 10) (.lst [])) [.app 1 (.var 8)] [],
  .sto 3 (.bin .Sub (.var 6) (.cst (.int 1))) (.sub (.bin .Add (.var 10) (.lst [.bin .Sub (.call (.cst (.fn "len")) [.var 1]) (.cst (.int 1))])) (.cst (.int 0)))] []],
  .ret (.tup [.var 8, .var 4, .lc (.nm 16) (.pln (.var 7)) (.all_ .And []) (.yld (.sub (.var 3) (.var 16))) [3]])]
theorem zfM : (bSs zaO (defOf "_law_booked").2.1, kSs γ0 zbL ((defOf "_law_booked").2.2.names.filter λ p => p.1 != "book") zaO (defOf "_law_booked").2.1) = ((defOf "_law_booked").2.1, true) := by kernel_rfl
noncomputable def zcR : List Str := (["lines", "draw", "odd", "kind", "turn", "choice", "after", "renamed", "moved", "crossed", "range", "_law_swapped", "len", "enumerate", ".0", "k", "depth", "label"] : List String).map Str.ofString
noncomputable def zbl : List X := [.fr (.nm 4) (.rng1 (.cst (.int 3))) [.asg (.nm 5) (.bin .Add (.call (.cst (.fn "_law_swapped")) [.var 0]) (.lst [.var 0])),
  .asg (.nm 0) (.sub (.var 5) (.bin .Mod (.bin .FloorDiv (.var 1) (.bin .Pow (.cst (.int 5)) (.var 4))) (.call (.cst (.fn "len")) [.var 5])))],
  .asg (.nm 6) (.bin .Mod (.bin .Add (.var 2) (.cst (.int 1))) (.cst (.int 5))),
  .asg (.nm 7) (.lc (.tp [.nm 15, .tp [.nm 16, .nm 17]]) (.enm (.var 0)) (.all_ .And []) (.yld (.tup [.var 16, .ite (.cmp .Eq (.var 15) (.var 2)) (.bin .Sub (.cst (.int 1)) (.var 17)) (.var 17)])) [2]),
  .asg (.nm 8) (.bin .Add (.slc (.var 0) (.cst (.none)) (.cst (.int 4)) (.cst (.none))) (.lst [.tup [.bin .Mod (.bin .Add (.sub (.sub (.var 0) (.cst (.int 4))) (.cst (.int 0))) (.cst (.int 1))) (.bin .Add (.sub (.sub (.var 0) (.cst (.int 3))) (.cst (.int 0))) (.cst (.int 2))), .sub (.sub (.var 0) (.cst (.int 4))) (.cst (.int 1))]])),
  .asg (.nm 9) (.lc (.nm 15) (.rng1 (.cst (.int 5))) (.all_ .And []) (.yld (.tup [.sub (.sub (.var 0) (.var 15)) (.cst (.int 0)), .sub (.sub (.var 0) (.dget [.var 2, .var 6] [.var 6, .var 2] (.var 15) (.var 15))) (.cst (.int 1))])) [6, 0, 2]),
  .ret (.sub (.tup [.var 0, .var 7, .var 8, .var 9]) (.var 3))]
theorem zfG : (bSs zbl (defOf "_law_second").2.1, kSs γ0 zcR (defOf "_law_second").2.2.names zbl (defOf "_law_second").2.1) = ((defOf "_law_second").2.1, true) := by kernel_rfl
noncomputable def zbX : List Str := (["text", "TypeError", "AttributeError", "_raise_serialization_error"] : List String).map Str.ofString
noncomputable def zaY : List X := [.tri [.iff (.cmp .In (.cst (.str "&")) (.var 0)) [.asg (.nm 0) (.repl (.var 0) "&" "&amp;")] [],
  .iff (.cmp .In (.cst (.str "<")) (.var 0)) [.asg (.nm 0) (.repl (.var 0) "<" "&lt;")] [],
  .iff (.cmp .In (.cst (.str ">")) (.var 0)) [.asg (.nm 0) (.repl (.var 0) ">" "&gt;")] [],
  .ret (.var 0)]]
theorem zeb : (bSs zaY (defOf "_escape_cdata").2.1, kSs γ0 zbX (defOf "_escape_cdata").2.2.names zaY (defOf "_escape_cdata").2.1) = ((defOf "_escape_cdata").2.1, true) := by kernel_rfl
noncomputable def zbR : List Str := (["text", "TypeError", "AttributeError", "_raise_serialization_error"] : List String).map Str.ofString
noncomputable def zaT : List X := [.tri [.iff (.cmp .In (.cst (.str "&")) (.var 0)) [.asg (.nm 0) (.repl (.var 0) "&" "&amp;")] [],
  .iff (.cmp .In (.cst (.str "<")) (.var 0)) [.asg (.nm 0) (.repl (.var 0) "<" "&lt;")] [],
  .iff (.cmp .In (.cst (.str ">")) (.var 0)) [.asg (.nm 0) (.repl (.var 0) ">" "&gt;")] [],
  .iff (.cmp .In (.cst (.str "\"")) (.var 0)) [.asg (.nm 0) (.repl (.var 0) "\"" "&quot;")] [],
  .iff (.cmp .In (.cst (.str "\r")) (.var 0)) [.asg (.nm 0) (.repl (.var 0) "\r" "&#13;")] [],
  .iff (.cmp .In (.cst (.str "\n")) (.var 0)) [.asg (.nm 0) (.repl (.var 0) "\n" "&#10;")] [],
  .iff (.cmp .In (.cst (.str "\t")) (.var 0)) [.asg (.nm 0) (.repl (.var 0) "\t" "&#09;")] [],
  .ret (.var 0)]]
theorem zdZ : (bSs zaT (defOf "_escape_attrib").2.1, kSs γ0 zbR (defOf "_escape_attrib").2.2.names zaT (defOf "_escape_attrib").2.1) = ((defOf "_escape_attrib").2.1, true) := by kernel_rfl
noncomputable def za3 : List Str := (["text", "TypeError", "AttributeError", "_raise_serialization_error"] : List String).map Str.ofString
noncomputable def zaz : List X := [.tri [.iff (.cmp .In (.cst (.str "&")) (.var 0)) [.asg (.nm 0) (.repl (.var 0) "&" "&amp;")] [],
  .iff (.cmp .In (.cst (.str ">")) (.var 0)) [.asg (.nm 0) (.repl (.var 0) ">" "&gt;")] [],
  .iff (.cmp .In (.cst (.str "\"")) (.var 0)) [.asg (.nm 0) (.repl (.var 0) "\"" "&quot;")] [],
  .ret (.var 0)]]
theorem zcc : (bSs zaz (defOf "_escape_attrib_html").2.1, kSs γ0 za3 (defOf "_escape_attrib_html").2.2.names zaz (defOf "_escape_attrib_html").2.1) = ((defOf "_escape_attrib_html").2.1, true) := by kernel_rfl
noncomputable def za7 : List Str := (["text", "TypeError", "AttributeError", "_raise_serialization_error"] : List String).map Str.ofString
noncomputable def zaJ : List X := [.tri [.iff (.cmp .In (.cst (.str "&")) (.var 0)) [.asg (.nm 0) (.repl (.var 0) "&" "&amp;")] [],
  .iff (.cmp .In (.cst (.str "<")) (.var 0)) [.asg (.nm 0) (.repl (.var 0) "<" "&lt;")] [],
  .iff (.cmp .In (.cst (.str ">")) (.var 0)) [.asg (.nm 0) (.repl (.var 0) ">" "&gt;")] [],
  .iff (.cmp .In (.cst (.str "\r")) (.var 0)) [.asg (.nm 0) (.repl (.var 0) "\r" "&#xD;")] [],
  .ret (.var 0)]]
theorem zcv : (bSs zaJ (defOf "_escape_cdata_c14n").2.1, kSs γ0 za7 (defOf "_escape_cdata_c14n").2.2.names zaJ (defOf "_escape_cdata_c14n").2.1) = ((defOf "_escape_cdata_c14n").2.1, true) := by kernel_rfl
noncomputable def za1 : List Str := (["text", "TypeError", "AttributeError", "_raise_serialization_error"] : List String).map Str.ofString
noncomputable def zay : List X := [.tri [.iff (.cmp .In (.cst (.str "&")) (.var 0)) [.asg (.nm 0) (.repl (.var 0) "&" "&amp;")] [],
  .iff (.cmp .In (.cst (.str "<")) (.var 0)) [.asg (.nm 0) (.repl (.var 0) "<" "&lt;")] [],
  .iff (.cmp .In (.cst (.str "\"")) (.var 0)) [.asg (.nm 0) (.repl (.var 0) "\"" "&quot;")] [],
  .iff (.cmp .In (.cst (.str "\t")) (.var 0)) [.asg (.nm 0) (.repl (.var 0) "\t" "&#x9;")] [],
  .iff (.cmp .In (.cst (.str "\n")) (.var 0)) [.asg (.nm 0) (.repl (.var 0) "\n" "&#xA;")] [],
  .iff (.cmp .In (.cst (.str "\r")) (.var 0)) [.asg (.nm 0) (.repl (.var 0) "\r" "&#xD;")] [],
  .ret (.var 0)]]
theorem zce : (bSs zay (defOf "_escape_attrib_c14n").2.1, kSs γ0 za1 (defOf "_escape_attrib_c14n").2.2.names zay (defOf "_escape_attrib_c14n").2.1) = ((defOf "_escape_attrib_c14n").2.1, true) := by kernel_rfl
noncomputable def zcZ : List Str := (["x", "NT_OFFSET"] : List String).map Str.ofString
noncomputable def zb3 : List X := [.ret (.cmp .Lt (.var 0) (.cst (.int 256)))]
theorem zgi : (bSs zb3 (defOf "ISTERMINAL").2.1, kSs γ0 zcZ (defOf "ISTERMINAL").2.2.names zb3 (defOf "ISTERMINAL").2.1) = ((defOf "ISTERMINAL").2.1, true) := by kernel_rfl
noncomputable def zbQ : List Str := (["x", "NT_OFFSET"] : List String).map Str.ofString
noncomputable def zbi : List X := [.ret (.cmp .GtE (.var 0) (.cst (.int 256)))]
theorem zd2 : (bSs zbi (defOf "ISNONTERMINAL").2.1, kSs γ0 zbQ (defOf "ISNONTERMINAL").2.2.names zbi (defOf "ISNONTERMINAL").2.1) = ((defOf "ISNONTERMINAL").2.1, true) := by kernel_rfl
noncomputable def zgV : List Str := (["self", "ws", "S", "T", "count", "b", "n", "nt", "ch", "Whitespace", "len", "tuple"] : List String).map Str.ofString
noncomputable def zaQ : List Str := (["self", "count", "trailing", "max", "len"] : List String).map Str.ofString
noncomputable def zar : List X := [.asg (.tp [.nm 1, .nm 2]) (.fld (.var 0) "norm"),
  .ret (.call (.cst (.fn "max")) [.bin .Sub (.call (.cst (.fn "len")) [.var 1]) (.cst (.int 1)), .var 2])]
theorem zbE : (bSs zar (defOf "longest_run_of_spaces").2.1, kSs γ0 zaQ (defOf "longest_run_of_spaces").2.2.names zar (defOf "longest_run_of_spaces").2.1) = ((defOf "longest_run_of_spaces").2.1, true) := by kernel_rfl
noncomputable def zb0 : List Str := (["self", "tabsize", "count", "trailing", "il", "i", "range", "len"] : List String).map Str.ofString
noncomputable def zaZ : List X := [.asg (.tp [.nm 2, .nm 3]) (.fld (.var 0) "norm"),
  .asg (.nm 4) (.cst (.int 0)),
  .fr (.nm 5) (.rng (.var 1) (.call (.cst (.fn "len")) [.var 2])) [.asg (.nm 4) (.bin .Add (.var 4) (.bin .Mult (.bin .FloorDiv (.var 5) (.var 1)) (.sub (.var 2) (.var 5))))],
  .ret (.bin .Add (.var 3) (.bin .Mult (.var 1) (.bin .Add (.var 4) (.fld (.var 0) "nt"))))]
theorem zd9 : (bSs zaZ (defOf "indent_level").2.1, kSs γ0 zb0 (defOf "indent_level").2.2.names zaZ (defOf "indent_level").2.1) = ((defOf "indent_level").2.1, true) := by kernel_rfl
noncomputable def zho : List Str := (["self", "other"] : List String).map Str.ofString
noncomputable def zfe : List X := [.ret (.cmp .Eq (.fld (.var 0) "norm") (.fld (.var 1) "norm"))]
theorem zmK : (bSs zfe (defOf "equal").2.1, kSs γ0 zho (defOf "equal").2.2.names zfe (defOf "equal").2.1) = ((defOf "equal").2.1, true) := by kernel_rfl
noncomputable def za6 : List Str := (["self", "other", "n", "a", "ts", "max", "range"] : List String).map Str.ofString
noncomputable def zaI : List X := [.asg (.nm 2) (.bin .Add (.call (.cst (.fn "max")) [.meth "longest_run_of_spaces" (.var 0) [], .meth "longest_run_of_spaces" (.var 1) []]) (.cst (.int 1))),
  .own 3 (.lst []),
  .fr (.nm 4) (.rng (.cst (.int 1)) (.bin .Add (.var 2) (.cst (.int 1)))) [.iff (.cmp .NotEq (.meth "indent_level" (.var 0) [.var 4]) (.meth "indent_level" (.var 1) [.var 4])) [.app 3 (.tup [.var 4, .meth "indent_level" (.var 0) [.var 4], .meth "indent_level" (.var 1) [.var 4]])] []],
  .retO 3]
theorem zcu : (bSs zaI (defOf "not_equal_witness").2.1, kSs γ0 za6 (defOf "not_equal_witness").2.2.names zaI (defOf "not_equal_witness").2.1) = ((defOf "not_equal_witness").2.1, true) := by kernel_rfl
noncomputable def zlZ : List Str := (["script", "cells", "depths", "first", "second", "signs", "numbers", "hand", "rows", "pages", "read", "book", "reached", "behind", "one", "ways", "firsts", "two", "others", "seconds", "more", "low", "high", "bent", "beside", "guy", "runs", "last", "same", "far", "pairs", "enumerate", "_law_depths", "range", "_law_second", "_escape_cdata", "_escape_cdata_c14n", "_escape_attrib", "_escape_attrib_html", "_escape_attrib_c14n", "_law_reached", "_law_booked", "len", "min", "max", "_law_guy", "sorted", ".0", "place", "base", "sum", "x", "k", "lines", "_law_row", "number", "row", "page", "_law_read", "_law_page", "a", "b", "t", "y"] : List String).map Str.ofString
noncomputable def zjU : List X := [.asg (.nm 1) (.lc (.tp [.nm 48, .nm 49]) (.enm (.tup [.cst (.int 111), .cst (.int 1410), .cst (.int 231)])) (.all_ .And []) (.yld (.bin .Add (.var 49) (.call (.cst (.fn "sum")) [.lc (.nm 51) (.pln (.slc (.var 0) (.var 48) (.cst (.int 60)) (.cst (.int 3)))) (.all_ .And []) (.yld (.bin .Mod (.var 51) (.cst (.int 5040)))) []]))) [0]),
  .asg (.nm 2) (.call (.cst (.fn "_law_depths")) [.sub (.var 1) (.cst (.int 0))]),
  .asg (.nm 3) (.lc (.nm 52) (.rng1 (.cst (.int 5))) (.all_ .And []) (.yld (.tup [.sub (.var 2) (.var 52), .bin .Mod (.bin .FloorDiv (.sub (.var 1) (.cst (.int 1))) (.bin .Pow (.cst (.int 2)) (.var 52))) (.cst (.int 2))])) [1, 2]),
  .asg (.nm 4) (.call (.cst (.fn "_law_second")) [.var 3, .bin .Add (.sub (.var 1) (.cst (.int 0))) (.sub (.var 1) (.cst (.int 2))), .bin .Mod (.sub (.var 1) (.cst (.int 2))) (.cst (.int 5)), .bin .Mod (.bin .FloorDiv (.sub (.var 1) (.cst (.int 1))) (.cst (.int 32))) (.cst (.int 4))]),
  .asg (.nm 5) (.meth "split" (.cst (.str "+ - * / | & < > = . % { } == != <= >= ~ ^ << >> ** += -= *= /= %= &= |= ^= <<= >>= **= // //= @ @= -> ... := !")) [.cst (.str " ")]),
  .asg (.nm 6) (.lst [.bin .Add (.cst (.int 14)) (.bin .Mod (.bin .FloorDiv (.sub (.var 1) (.cst (.int 2))) (.cst (.int 5))) (.cst (.int 41))), .bin .Add (.cst (.int 14)) (.bin .Mod (.bin .Add (.bin .FloorDiv (.sub (.var 1) (.cst (.int 2))) (.cst (.int 5))) (.cst (.int 15))) (.cst (.int 41)))]),
  .asg (.nm 7) (.sub (.tup [.cst (.fn "_escape_cdata"), .cst (.fn "_escape_cdata_c14n"), .cst (.fn "_escape_attrib"), .cst (.fn "_escape_attrib_html"), .cst (.fn "_escape_attrib_c14n")]) (.bin .Mod (.sub (.var 1) (.cst (.int 2))) (.cst (.int 5)))),
  .asg (.nm 8) (.lc (.nm 53) (.pln (.tup [.var 3, .var 4])) (.all_ .And []) (.yld (.call (.cst (.fn "_law_row")) [.var 53, .lc (.nm 55) (.pln (.var 6)) (.all_ .And []) (.yld (.sub (.var 5) (.bin .Sub (.var 55) (.cst (.int 14))))) [5]])) [6, 5]),
  .asg (.nm 9) (.lc (.nm 56) (.pln (.var 8)) (.all_ .And []) (.yld (.call (.var 7) [.var 56])) [7]),
  .asg (.nm 10) (.lc (.nm 57) (.pln (.var 9)) (.all_ .And []) (.yld (.call (.cst (.fn "_law_read")) [.var 57, .var 6])) [6]),
  .iff (.all_ .Or [.cmp .NotEq (.var 9) (.lc (.nm 56) (.pln (.var 8)) (.all_ .And []) (.yld (.call (.cst (.fn "_law_page")) [.var 56, .bin .Mod (.sub (.var 1) (.cst (.int 2))) (.cst (.int 5))])) [1]), .cmp .NotEq (.var 10) (.lst [.var 3, .var 4])]) [.ret (.cst (.bool false))] [],
  .asgs [11, 12, 13] [true, false, false] [.lst [], .call (.cst (.fn "_law_reached")) [.var 3], .bin .Mod (.bin .FloorDiv (.sub (.var 1) (.cst (.int 1))) (.cst (.int 128))) (.cst (.int 5))],
  .ino (.tp [.nm 14, .nm 15, .nm 16]) (.cst (.fn "_law_booked")) (.sub (.var 10) (.cst (.int 0))) 11 (.var 13),
  .ino (.tp [.nm 17, .nm 18, .nm 19]) (.cst (.fn "_law_booked")) (.sub (.var 10) (.cst (.int 1))) 11 (.var 13),
  .iff (.cmp .NotEq (.lc (.nm 60) (.rng1 (.call (.cst (.fn "len")) [.var 11])) (.all_ .And []) (.gen (.nm 61) (.rng1 (.call (.cst (.fn "len")) [.var 11])) (.all_ .And [.cmp .IsNot (.meth "equal" (.sub (.var 11) (.var 60)) [.sub (.var 11) (.var 61)]) (.cmp .Eq (.var 60) (.var 61))]) (.yld (.tup [.var 60, .var 61]))) [11]) (.lst [])) [.ret (.cst (.bool false))] [],
  .asgs [20, 21, 22] [false, false, false] [.bin .Mod (.bin .Add (.bin .Add (.var 13) (.cst (.int 1))) (.bin .Mod (.bin .FloorDiv (.sub (.var 1) (.cst (.int 1))) (.cst (.int 640))) (.cst (.int 4)))) (.cst (.int 5)), .meth "index" (.var 19) [.call (.cst (.fn "min")) [.var 19]], .meth "index" (.var 19) [.call (.cst (.fn "max")) [.var 19]]],
  .asg (.nm 23) (.lc (.nm 52) (.rng1 (.call (.cst (.fn "len")) [.var 19])) (.all_ .And []) (.yld (.bin .Sub (.bin .Add (.sub (.var 19) (.var 52)) (.ite (.cmp .Eq (.var 52) (.var 21)) (.cst (.int 1)) (.cst (.int 0)))) (.ite (.cmp .Eq (.var 52) (.var 22)) (.cst (.int 1)) (.cst (.int 0))))) [22, 21, 19]),
  .asg (.nm 24) (.lst [.tup [.var 17, .var 19, .var 13, .cmp .In (.var 4) (.var 12)], .tup [.call (.cst (.fn "_law_guy")) [.var 19, .var 20], .var 19, .var 20, .cst (.bool false)], .tup [.call (.cst (.fn "_law_guy")) [.var 23, .var 13], .var 23, .var 13, .cmp .Eq (.call (.cst (.fn "sorted")) [.var 23]) (.call (.cst (.fn "sorted")) [.var 16])]]),
  .fr (.tp [.nm 25, .nm 26, .nm 27, .nm 28]) (.pln (.var 24)) [.asg (.nm 29) (.bin .Add (.call (.cst (.fn "max")) [.bin .Add (.bin .Add (.var 16) (.var 26)) (.lst [.var 13, .var 27])]) (.cst (.int 1))),
  .asg (.nm 30) (.lc (.nm 62) (.rng (.cst (.int 1)) (.bin .Add (.var 29) (.cst (.int 1)))) (.all_ .And []) (.yld (.tup [.var 62, .bin .Add (.bin .Mult (.var 62) (.call (.cst (.fn "sum")) [.lc (.nm 52) (.pln (.var 16)) (.all_ .And []) (.yld (.bin .Add (.bin .FloorDiv (.var 52) (.var 62)) (.cst (.int 1)))) [62]])) (.var 13), .bin .Add (.bin .Mult (.var 62) (.call (.cst (.fn "sum")) [.lc (.nm 52) (.pln (.var 26)) (.all_ .And []) (.yld (.bin .Add (.bin .FloorDiv (.var 52) (.var 62)) (.cst (.int 1)))) [62]])) (.var 27)])) [13, 16, 27, 26]),
  .iff (.all_ .Or [.cmp .IsNot (.meth "equal" (.var 14) [.var 25]) (.var 28), .cmp .IsNot (.meth "equal" (.var 25) [.var 14]) (.var 28)]) [.ret (.cst (.bool false))] [],
  .iff (.all_ .Or [.cmp .NotEq (.meth "not_equal_witness" (.var 14) [.var 25]) (.lc (.nm 51) (.pln (.var 30)) (.all_ .And [.cmp .NotEq (.sub (.var 51) (.cst (.int 1))) (.sub (.var 51) (.cst (.int 2)))]) (.yld (.var 51)) []), .cmp .NotEq (.meth "not_equal_witness" (.var 25) [.var 14]) (.lc (.tp [.nm 62, .nm 51, .nm 63]) (.pln (.var 30)) (.all_ .And [.cmp .NotEq (.var 51) (.var 63)]) (.yld (.tup [.var 62, .var 63, .var 51])) [])]) [.ret (.cst (.bool false))] []],
  .ret (.all_ .And [.cmp .Eq (.var 15) (.call (.cst (.fn "len")) [.var 12]), .cmp .Eq (.var 18) (.call (.cst (.fn "len")) [.call (.cst (.fn "_law_reached")) [.var 4]])])]
theorem zpZ : (bSs zjU (defOf "law").2.1, kSs γ0 zlZ (defOf "law").2.2.names zjU (defOf "law").2.1) = ((defOf "law").2.1, true) := by kernel_rfl
end Mine
end
section
open PySem PySem.W PyProof.Rows PySem.StrLaws Builtin.Str
set_option maxRecDepth 10000
namespace Mine
noncomputable def mk (l : List Nat) : Str := ⟨l.toArray⟩
theorem zaC (l : List Nat) : (mk l).cps.toList = l := rfl
theorem zas (l : List Nat) : (mk l).length = l.length := by simp [mk, Str.length]
theorem zlR (x : Str) : x = mk x.cps.toList := by cases x; simp [mk]
theorem zeW {x y : Str} (h : x.cps.toList = y.cps.toList) : x = y := by rw [zlR x, zlR y, h]
inductive Rp (y z : List Nat) : List Nat -> List Nat -> Prop
  | nil : Rp y z [] []
  | hit {l m : List Nat} : Rp y z l m -> Rp y z (y ++ l) (z ++ m)
  | miss {c : Nat} {l m : List Nat} : ¬ y <+: (c :: l) -> Rp y z l m -> Rp y z (c :: l) (c :: m)
theorem at_iff {x y : Str} {k : Nat} : At x y x.length k ↔ k ≤ x.length /\ y.cps.toList <+: x.cps.toList.drop k := by
  unfold At
  rw [subAt_eq, beq_iff_eq]
  have hx : x.cps.toList.length = x.length := by simp [Str.length]
  have hy : y.cps.toList.length = y.length := by simp [Str.length]
  constructor
  · rintro ⟨h1, h2⟩
    exact ⟨by lia, by rw [List.prefix_iff_eq_take, hy, h2]⟩
  · rintro ⟨h1, h2⟩
    have h3 := h2.length_le
    rw [List.length_drop, hx, hy] at h3
    exact ⟨by lia, by rw [List.prefix_iff_eq_take, hy] at h2; exact h2.symm⟩
theorem zge {y z : List Nat} {l m : List Nat} (h : Rp y z l m) : ∀ n, n ≤ l.length -> (∀ k, k < n -> ¬ y <+: l.drop k) -> ∃ m', m = l.take n ++ m' /\ Rp y z (l.drop n) m' := by
  intro n
  induction n generalizing l m with
  | zero => intro _ _; exact ⟨m, rfl, h⟩
  | succ n ih =>
    intro hn hk
    have h0 := hk 0 (Nat.succ_pos _)
    rw [List.drop_zero] at h0
    cases h with
    | nil => simp at hn
    | hit h' => exact absurd (List.prefix_append _ _) h0
    | miss hm h' =>
      obtain ⟨m', rfl, h2⟩ := ih h' (by simpa using hn) λ k hk' => by simpa using hk (k + 1) (by lia)
      exact ⟨m', by simp, by simpa using h2⟩
theorem zhJ {x y : Str} {z : List Nat} (hy : y.cps.toList ≠ []) : ∀ (cuts : List Nat) (a f : Nat) {m : List Nat}, a ≤ x.length -> ChainG x y x.length a cuts f -> (∀ k, f ≤ k -> ¬ At x y x.length k) -> Rp y.cps.toList z (x.cps.toList.drop a) m ->
    (Str.join (mk z) (partsFrom x y.length a cuts)).cps.toList = m
  | [], a, f, m, ha, hc, hn, hr => by
    have e : f = a := hc
    subst e
    obtain ⟨m', rfl, h2⟩ := zge hr (x.cps.toList.drop f).length (Nat.le_refl _) λ k hk hp => by
      rw [List.drop_drop] at hp
      refine hn (f + k) (by lia) (at_iff.mpr ⟨?_, hp⟩)
      have := hp.length_le
      rw [List.length_drop] at hk
      have hx : x.cps.toList.length = x.length := by simp [Str.length]
      lia
    have e2 : (x.cps.toList.drop f).drop (x.cps.toList.drop f).length = [] := List.drop_length
    rw [e2] at h2
    have hm' : m' = [] := by
      generalize hl : ([] : List Nat) = l at h2
      cases h2 with
      | nil => rfl
      | hit h' => exact absurd (List.append_eq_nil_iff.mp hl.symm).1 hy
      | miss _ _ => cases hl
    subst hm'
    show (strSub x f x.length).cps.toList = _
    rw [strSub_toList, List.append_nil, List.take_length]
    have hx : x.cps.toList.length = x.length := by simp [Str.length]
    rw [<- hx, <- List.length_drop, List.take_length]
  | c :: r, a, f, m, ha, hc, hn, hr => by
    obtain ⟨h1, h2, h3, h4⟩ := hc
    obtain ⟨hcl, hcp⟩ := at_iff.mp h2
    have hx : x.cps.toList.length = x.length := by simp [Str.length]
    obtain ⟨m', rfl, hr'⟩ := zge hr (c - a) (by rw [List.length_drop]; lia) λ k hk hp => by
      rw [List.drop_drop] at hp
      exact h3 (a + k) (by lia) (by lia) (at_iff.mpr ⟨by lia, hp⟩)
    rw [List.drop_drop, show a + (c - a) = c by lia] at hr'
    have hy' : y.cps.toList.length = y.length := by simp [Str.length]
    have hit : ∃ m'', m' = z ++ m'' /\ Rp y.cps.toList z (x.cps.toList.drop (c + y.length)) m'' := by
      generalize hl : x.cps.toList.drop c = l at hr' hcp
      cases hr' with
      | nil => exact absurd (List.prefix_nil.mp hcp) hy
      | hit h' =>
        refine ⟨_, rfl, ?_⟩
        rw [<- List.drop_drop, hl, <- hy', List.drop_left]; exact h'
      | miss hm _ => exact absurd hcp hm
    obtain ⟨m'', rfl, hr''⟩ := hit
    have hle : c + y.length ≤ x.length := h2.1
    have ih := zhJ hy r (c + y.length) f hle h4 hn hr''
    obtain ⟨p, q, hpq⟩ := partsFrom_ne x y.length (c + y.length) r
    show (Str.join (mk z) (strSub x a c :: partsFrom x y.length (c + y.length) r)).cps.toList = _
    rw [hpq] at ih ⊢
    show (strSub x a c ++ mk z ++ Str.join (mk z) (p :: q)).cps.toList = _
    simp only [Str.cps_append, Array.toList_append]
    rw [ih, strSub_toList, zaC, List.append_assoc]
theorem zk8 {x y : Str} {z m : List Nat} (hy : y.cps.toList ≠ []) (h : Rp y.cps.toList z x.cps.toList m) : Txt.replace x y (mk z) = mk m := by
  have hw : 1 ≤ y.length := by
    cases e : y.cps.toList with
    | nil => exact absurd e hy
    | cons a b => have : y.cps.toList.length = y.length := by simp [Str.length]
                  rw [<- this, e]; simp
  obtain ⟨f, h1, h2⟩ := occ_tight x y hw
  have key := zhJ (x := x) (z := z) hy _ 0 f (Nat.zero_le _) h1 h2 (by rw [List.drop_zero]; exact h)
  have h10 : (y.length == 0) = false := by simp; lia
  apply zeW
  rw [zaC]
  unfold Txt.replace
  rw [h10, Bool.false_and, Bool.or_false]
  cases he : (occurrences x y 0 x.length (x.length + 1)).isEmpty
  · rw [if_neg Bool.false_ne_true, glued_eq_join, partsBetween_eq]
    exact key
  · rw [if_pos rfl]
    rw [List.isEmpty_iff.mp he] at key
    have : (Str.join (mk z) [strSub x 0 x.length]).cps.toList = m := key
    rw [<- this]
    show _ = (strSub x 0 x.length).cps.toList
    rw [strSub_toList, List.drop_zero, Nat.sub_zero]
    have hx : x.cps.toList.length = x.length := by simp [Str.length]
    rw [<- hx, List.take_length]
noncomputable def esc (c : Nat) (z : List Nat) (l : List Nat) : List Nat := l.flatMap λ d => if d = c then z else [d]
theorem zlN (c : Nat) (z : List Nat) : ∀ l : List Nat, Rp [c] z l (esc c z l)
  | [] => .nil
  | d :: l => by
    have ih := zlN c z l
    unfold esc at ih ⊢
    rw [List.flatMap_cons]
    by_cases h : d = c
    · rw [if_pos h, h]; exact .hit ih
    · rw [if_neg h]
      exact .miss (λ hp => h (by obtain ⟨t, ht⟩ := hp; simp at ht; exact ht.1.symm)) ih
theorem zgZ (c : Nat) (z l : List Nat) : Txt.replace (mk l) (mk [c]) (mk z) = mk (esc c z l) := zk8 (by simp [mk]) (by rw [zaC, zaC]; exact zlN c z l)
theorem zfj {c : Nat} {z : List Nat} : ∀ {l : List Nat}, c ∉ l -> esc c z l = l
  | [], _ => rfl
  | d :: l, h => by
    rw [List.mem_cons, not_or] at h
    have ih := zfj (z := z) h.2
    unfold esc at ih ⊢
    rw [List.flatMap_cons, if_neg (Ne.symm h.1), ih]; rfl
theorem zc9 (l : List Nat) (c : Nat) : Txt.contains (mk l) (mk [c]) = decide (c ∈ l) := by
  have := found_one (mk l) c
  rw [zaC] at this
  exact this
section
variable {tok : Str -> Option Int} {Φ : String -> List D -> Option D} {Ψ : String -> List D -> Option (D × List D)} {σ σ₁ σ₂ σ' : Sg} {fl : Fl} {x : X} {xs : List X}
theorem zag : evs tok Φ Ψ [] σ .next σ := ⟨rfl, rfl⟩
theorem zad (h : ev1 tok Φ Ψ x σ .next σ₁) (t : evs tok Φ Ψ xs σ₁ fl σ') : evs tok Φ Ψ (x :: xs) σ fl σ' := .inl ⟨_, h, t⟩
theorem zaF {d : D} (h : ev1 tok Φ Ψ x σ (.ret d) σ') : evs tok Φ Ψ (x :: xs) σ (.ret d) σ' := .inr ⟨h, trivial⟩
theorem zjm {p : Pt} {e : T} {d : D} (h : pe tok Φ e σ = some (.d d)) (hb : pb p d σ = some σ') : ev1 tok Φ Ψ (.asg p e) σ .next σ' := ⟨rfl, d, h, hb⟩
theorem zaq {i : Nat} {e : T} {d : D} (h : pe tok Φ e σ = some (.d d)) : ev1 tok Φ Ψ (.asg (.nm i) e) σ .next ((i, .fz d) :: σ) := ⟨rfl, d, h, rfl⟩
theorem zfL {i : Nat} {e : T} {ds : List D} (h : pe tok Φ e σ = some (.d (.lst ds))) : ev1 tok Φ Ψ (.own i e) σ .next ((i, .own ds) :: σ) := ⟨rfl, ds, h, rfl⟩
theorem zej {i : Nat} {e : T} {ds : List D} {d : D} (h1 : σ.lookup i = some (.own ds)) (h : pe tok Φ e σ = some (.d d)) (hl : ds.length < 2 ^ 20) : ev1 tok Φ Ψ (.app i e) σ .next ((i, .own (ds ++ [d])) :: σ) := ⟨rfl, ds, d, h1, h, hl, rfl⟩
theorem zby {e : T} {d : D} (h : pe tok Φ e σ = some (.d d)) : ev1 tok Φ Ψ (.ret e) σ (.ret d) σ := ⟨d, h, rfl, rfl⟩
theorem zdE {i : Nat} {ds : List D} (h : σ.lookup i = some (.own ds)) : ev1 tok Φ Ψ (.retO i) σ (.ret (.lst ds)) σ := ⟨ds, h, rfl, rfl⟩
theorem zdi {c : T} {a b : List X} (h : pe tok Φ c σ = some (.d (.bool true))) (t : evs tok Φ Ψ a σ fl σ') : ev1 tok Φ Ψ (.iff c a b) σ fl σ' := ⟨true, h, .inl ⟨rfl, t⟩⟩
theorem zc0 {c : T} {a b : List X} (h : pe tok Φ c σ = some (.d (.bool false))) (t : evs tok Φ Ψ b σ fl σ') : ev1 tok Φ Ψ (.iff c a b) σ fl σ' := ⟨false, h, .inr ⟨rfl, t⟩⟩
theorem znR {b : List X} {d : D} (t : evs tok Φ Ψ b σ (.ret d) σ') : ev1 tok Φ Ψ (.tri b) σ (.ret d) σ' := ⟨t, d, rfl⟩
theorem zci {p : Pt} {it : T} {b : List X} {items : List D} (h : pit tok Φ true it p σ = some items) (t : ForR p (evs tok Φ Ψ b) items σ fl σ') : ev1 tok Φ Ψ (.fr p it b) σ fl σ' := ⟨items, h, t⟩
theorem ziA {c : T} {b : List X} (t : WhileR (pe tok Φ c) (evs tok Φ Ψ b) σ fl σ') : ev1 tok Φ Ψ (.whl c b) σ fl σ' := t
theorem zaa {i : Nat} {b : B} : List.lookup i ((i, b) :: σ) = some b := by simp [List.lookup_cons]
theorem zaf {i j : Nat} {b : B} (h : (i == j) = false) : List.lookup i ((j, b) :: σ) = σ.lookup i := by rw [List.lookup_cons, h]
theorem zal {fr : List Nat} {i : Nat} (h : fr.contains i = true) : ∀ {σ : Sg}, List.lookup i (σ.filter λ q => fr.contains q.1) = σ.lookup i
  | [] => rfl
  | (j, b) :: σ => by
    rw [List.filter_cons]
    by_cases e : i = j
    · subst e
      rw [if_pos h, zaa, zaa]
    · have e' : (i == j) = false := by simpa using e
      split
      · rw [zaf e', zaf e', zal h]
      · rw [zaf e', zal h]
theorem zga {f : D -> Option (List D)} {g : D -> List D} : ∀ {l : List D}, (∀ d ∈ l, f d = some (g d)) -> flatO f l = some (l.flatMap g)
  | [], _ => rfl
  | d :: l, h => by
    rw [flatO, h d (.head _), zga λ e he => h e (.tail _ he)]
    rfl
theorem bnd {α β : Type _} {o : Option α} {f : α -> Option β} {x : α} {y : Option β} (h : o = some x) (k : f x = y) : o.bind f = y := by rw [h]; exact k
theorem mpd {α β : Type _} {o : Option α} {f : α -> β} {x : α} {y : Option β} (h : o = some x) (k : some (f x) = y) : o.map f = y := by rw [h]; exact k
theorem q_lc {p : Pt} {it ifs body : T} {fr : List Nat} {items : List D} {g : D -> List D} (hit : pit tok Φ false it p σ = some items)
    (hg : ∀ d ∈ items, ∃ τ b, pb p d (σ.filter λ q => fr.contains q.1) = some τ /\ pe tok Φ ifs τ = some (.d (.bool b)) /\ (b = true -> pgen tok Φ body τ = some (g d)) /\ (b = false -> g d = []))
    (hl : (items.flatMap g).length ≤ 2 ^ 20) : pe tok Φ (.lc p it ifs body fr) σ = some (.d (.lst (items.flatMap g))) := by
  refine bnd hit (bnd (zga (g := g) λ d hd => ?_) (if_pos hl))
  obtain ⟨τ, b, h1, h2, h3, h4⟩ := hg d hd
  refine bnd h1 (bnd (bnd h2 rfl) ?_)
  cases b with
  | true => exact h3 rfl
  | false => exact congrArg some (h4 rfl).symm
end
theorem zhE : Str.ofString "&" = mk [38] := by decide
theorem zkF : Str.ofString "<" = mk [60] := by decide
theorem zkH : Str.ofString ">" = mk [62] := by decide
theorem zht : Str.ofString "\t" = mk [9] := by decide
noncomputable def aAmp : List Nat := [38, 97, 109, 112, 59]
noncomputable def aLt : List Nat := [38, 108, 116, 59]
noncomputable def aGt : List Nat := [38, 103, 116, 59]
theorem zjo : Str.ofString "&amp;" = mk aAmp := by decide
theorem zl1 : Str.ofString "&lt;" = mk aLt := by decide
theorem zlX : Str.ofString "&gt;" = mk aGt := by decide
noncomputable def chunk (k c : Nat) : List Nat := if c = 38 then aAmp else if c = 60 /\ k ≠ 3 then aLt else if c = 62 /\ k ≠ 4 then aGt else [c]
noncomputable def pageF (k : Nat) (l : List Nat) : List Nat := l.flatMap (chunk k)
theorem zeM (c : Nat) (z l : List Nat) : (esc c z l).length ≤ l.length * (z.length + 1) := by
  induction l with
  | nil => simp [esc]
  | cons d l ih =>
    unfold esc at ih ⊢
    rw [List.flatMap_cons, List.length_append, List.length_cons, Nat.succ_mul]
    have : (if d = c then z else [d]).length ≤ z.length + 1 := by split <;> simp
    lia
theorem zgF (c e : Nat) (z y l : List Nat) : esc c z (esc e y l) = l.flatMap λ d => esc c z (if d = e then y else [d]) := by
  unfold esc; rw [List.flatMap_assoc]
theorem zjJ (l : List Nat) : esc 62 aGt (esc 60 aLt (esc 38 aAmp l)) = pageF 0 l := by
  rw [zgF, esc, List.flatMap_assoc, pageF]
  congr 1
  funext d
  by_cases h1 : d = 38
  · subst h1; decide
  · by_cases h2 : d = 60
    · subst h2; decide
    · by_cases h3 : d = 62
      · subst h3; decide
      · simp [chunk, esc, h1, h2, h3]
theorem zix (l : List Nat) : esc 62 aGt (esc 38 aAmp l) = pageF 3 l := by
  rw [zgF, pageF]
  congr 1
  funext d
  by_cases h1 : d = 38
  · subst h1; decide
  · by_cases h3 : d = 62
    · subst h3; decide
    · simp [chunk, esc, h1, h3]
theorem zju (l : List Nat) : esc 60 aLt (esc 38 aAmp l) = pageF 4 l := by
  rw [zgF, pageF]
  congr 1
  funext d
  by_cases h1 : d = 38
  · subst h1; decide
  · by_cases h3 : d = 60
    · subst h3; decide
    · simp [chunk, esc, h1, h3]
theorem zfF (l : List Nat) : ∀ k, k < 3 -> pageF k l = pageF 0 l := by
  intro k hk
  unfold pageF
  congr 1
  funext c
  unfold chunk
  have : k ≠ 3 := by lia
  have : k ≠ 4 := by lia
  simp_all
noncomputable def ch1 (k c : Nat) : List Nat := if c = 38 then aAmp else if c = 62 /\ k ≠ 4 then aGt else [c]
noncomputable def ch2 (c : Nat) : List Nat := if c = 38 then aAmp else [c]
theorem zbk {y z l m : List Nat} {c d : Nat} {r : List Nat} (hy : y = d :: r) (h : c ≠ d) (k : Rp y z l m) : Rp y z (c :: l) (c :: m) := by
  subst hy
  exact .miss (λ hp => h (by obtain ⟨t, ht⟩ := hp; simp at ht; exact ht.1.symm)) k
theorem zgX {y z l m : List Nat} {c e f : Nat} {r : List Nat} (hy : y = c :: f :: r) (h : e ≠ f) (k : Rp y z (e :: l) (e :: m)) : Rp y z (c :: e :: l) (c :: e :: m) := by
  subst hy
  exact .miss (λ hp => h (by obtain ⟨t, ht⟩ := hp; simp at ht; exact ht.1.symm)) k
theorem zn7 (k : Nat) : ∀ l : List Nat, Rp aLt [60] (pageF k l) (l.flatMap (ch1 k))
  | [] => .nil
  | c :: l => by
    have ih := zn7 k l
    unfold pageF at ih ⊢
    rw [List.flatMap_cons, List.flatMap_cons]
    by_cases h1 : c = 38
    · subst h1
      show Rp aLt [60] (38 :: 97 :: 109 :: 112 :: 59 :: _) (38 :: 97 :: 109 :: 112 :: 59 :: _)
      exact zgX rfl (by decide) (zbk rfl (by decide) (zbk rfl (by decide) (zbk rfl (by decide) (zbk rfl (by decide) ih))))
    · by_cases h2 : c = 60 /\ k ≠ 3
      · have e1 : chunk k c = aLt := by unfold chunk; rw [if_neg h1, if_pos h2]
        have e2 : ch1 k c = [60] := by unfold ch1; rw [if_neg h1, if_neg (by rw [h2.1]; simp)]; rw [h2.1]
        rw [e1, e2]; exact .hit ih
      · by_cases h3 : c = 62 /\ k ≠ 4
        · have e1 : chunk k c = aGt := by unfold chunk; rw [if_neg h1, if_neg h2, if_pos h3]
          have e2 : ch1 k c = aGt := by unfold ch1; rw [if_neg h1, if_pos h3]
          rw [e1, e2]
          show Rp aLt [60] (38 :: 103 :: 116 :: 59 :: _) (38 :: 103 :: 116 :: 59 :: _)
          exact zgX rfl (by decide) (zbk rfl (by decide) (zbk rfl (by decide) (zbk rfl (by decide) ih)))
        · have e1 : chunk k c = [c] := by unfold chunk; rw [if_neg h1, if_neg h2, if_neg h3]
          have e2 : ch1 k c = [c] := by unfold ch1; rw [if_neg h1, if_neg h3]
          rw [e1, e2]; exact zbk rfl h1 ih
theorem zoq (k : Nat) : ∀ l : List Nat, Rp aGt [62] (l.flatMap (ch1 k)) (l.flatMap ch2)
  | [] => .nil
  | c :: l => by
    have ih := zoq k l
    rw [List.flatMap_cons, List.flatMap_cons]
    by_cases h1 : c = 38
    · subst h1
      show Rp aGt [62] (38 :: 97 :: 109 :: 112 :: 59 :: _) (38 :: 97 :: 109 :: 112 :: 59 :: _)
      exact zgX rfl (by decide) (zbk rfl (by decide) (zbk rfl (by decide) (zbk rfl (by decide) (zbk rfl (by decide) ih))))
    · by_cases h3 : c = 62 /\ k ≠ 4
      · have e1 : ch1 k c = aGt := by unfold ch1; rw [if_neg h1, if_pos h3]
        have e2 : ch2 c = [62] := by unfold ch2; rw [if_neg h1, h3.1]
        rw [e1, e2]; exact .hit ih
      · have e1 : ch1 k c = [c] := by unfold ch1; rw [if_neg h1, if_neg h3]
        have e2 : ch2 c = [c] := by unfold ch2; rw [if_neg h1]
        rw [e1, e2]; exact zbk rfl h1 ih
theorem zl3 : ∀ l : List Nat, Rp aAmp [38] (l.flatMap ch2) l
  | [] => .nil
  | c :: l => by
    have ih := zl3 l
    rw [List.flatMap_cons]
    by_cases h1 : c = 38
    · subst h1
      exact .hit ih
    · have e2 : ch2 c = [c] := by unfold ch2; rw [if_neg h1]
      rw [e2]; exact zbk rfl h1 ih
section
variable {tok : Str -> Option Int} {Φ : String -> List D -> Option D} {Ψ : String -> List D -> Option (D × List D)} {σ : Sg}
theorem q_cst {d : D} : pe tok Φ (.cst d) σ = some (.d d) := rfl
theorem zab {i : Nat} {d : D} (h : σ.lookup i = some (.fz d)) : pe tok Φ (.var i) σ = some (.d d) := mpd h rfl
theorem q_in {i : Nat} {x y : Str} (h : σ.lookup i = some (.fz (.str x))) : pe tok Φ (.cmp .In (.cst (.str y)) (.var i)) σ = some (.d (.bool (Txt.contains x y))) := bnd q_cst (bnd (zab h) rfl)
theorem zoc {i : Nat} {x y z : Str} (h : σ.lookup i = some (.fz (.str x))) (hne : (y == z) = false) (hs : x.length + (x.length + 1) * z.length ≤ 2 ^ 20) : pe tok Φ (.repl (.var i) y z) σ = some (.d (.str (Txt.replace x y z))) :=
  bnd (bnd (zab h) rfl) (mpd (if_pos ⟨hne, hs⟩) rfl)
noncomputable def iffX (y z : Str) : X := .iff (.cmp .In (.cst (.str y)) (.var 0)) [.asg (.nm 0) (.repl (.var 0) y z)] []
theorem zor {y z : Str} {c : Nat} {zl l : List Nat} (h : σ.lookup 0 = some (.fz (.str (mk l)))) (hy : y = mk [c]) (hz : z = mk zl) (hne : (y == z) = false) (hs : l.length + (l.length + 1) * zl.length ≤ 2 ^ 20) :
    ∃ σ', ev1 tok Φ Ψ (iffX y z) σ .next σ' /\ σ'.lookup 0 = some (.fz (.str (mk (esc c zl l)))) := by
  have e := q_in (tok := tok) (Φ := Φ) (y := y) h
  rw [hy, zc9] at e
  by_cases hc : c ∈ l
  · rw [decide_eq_true hc, <- hy] at e
    refine ⟨_, zdi e (zad (zaq (zoc h hne ?_)) zag), ?_⟩
    · rw [hz, zas, zas]; exact hs
    · rw [zaa, hy, hz, zgZ]
  · rw [decide_eq_false hc, <- hy] at e
    exact ⟨_, zc0 e zag, by rw [zfj hc]; exact h⟩
noncomputable def okE : List (Nat × List Nat) -> List Nat -> Prop
  | [], _ => True
  | (c, z) :: r, l => l.length + (l.length + 1) * z.length ≤ 2 ^ 20 /\ okE r (esc c z l)
noncomputable def runE : List (Nat × List Nat) -> List Nat -> List Nat
  | [], l => l
  | (c, z) :: r, l => runE r (esc c z l)
theorem zjD : ∀ (ps : List (Nat × List Nat)) (xs : List (Str × Str)) {l : List Nat} {σ : Sg}, xs = ps.map (λ p => (mk [p.1], mk p.2)) -> (ps.all λ p => decide (p.2 ≠ [p.1])) = true -> σ.lookup 0 = some (.fz (.str (mk l))) -> okE ps l ->
    ∃ σ', evs tok Φ Ψ (xs.map (λ p => iffX p.1 p.2) ++ [.ret (.var 0)]) σ (.ret (.str (mk (runE ps l)))) σ'
  | [], xs, l, σ, hx, _, h, _ => by
    subst hx
    exact ⟨σ, zaF (zby (zab h))⟩
  | (c, z) :: ps, xs, l, σ, hx, hn, h, ho => by
    subst hx
    rw [List.all_cons, Bool.and_eq_true] at hn
    have hn1 : z ≠ [c] := by simpa using hn.1
    obtain ⟨σ₁, e1, h1⟩ := zor (tok := tok) (Φ := Φ) (Ψ := Ψ) (y := mk [c]) (z := mk z) (c := c) (zl := z) h rfl rfl (by
      rw [beq_eq_false_iff_ne]; intro e; apply hn1
      have := congrArg (λ s : Str => s.cps.toList) e
      simpa [mk] using this.symm) ho.1
    obtain ⟨σ', e2⟩ := zjD ps _ rfl hn.2 h1 ho.2
    exact ⟨σ', zad e1 e2⟩
theorem zbh (ps : List (Nat × List Nat)) (xs : List (Str × Str)) {l : List Nat} {σ : Sg} (hx : xs = ps.map (λ p => (mk [p.1], mk p.2))) (hn : (ps.all λ p => decide (p.2 ≠ [p.1])) = true) (h : σ.lookup 0 = some (.fz (.str (mk l)))) (ho : okE ps l) :
    ∃ σ', evs tok Φ Ψ [.tri (xs.map (λ p => iffX p.1 p.2) ++ [.ret (.var 0)])] σ (.ret (.str (mk (runE ps l)))) σ' := by
  obtain ⟨σ', e⟩ := zjD (tok := tok) (Φ := Φ) (Ψ := Ψ) ps xs hx hn h ho
  exact ⟨σ', zaF (znR e)⟩
theorem zml {c d : Nat} {z l : List Nat} (h : d ∈ esc c z l) : d ∈ l ∨ d ∈ z := by
  unfold esc at h
  obtain ⟨e, he, hd⟩ := List.mem_flatMap.mp h
  split at hd
  · exact .inr hd
  · rw [List.mem_singleton.mp hd]; exact .inl he
noncomputable def zcp (l : List Nat) : Prop := 34 ∉ l /\ 13 ∉ l /\ 10 ∉ l /\ 9 ∉ l /\ l.length ≤ 200
noncomputable def zQuo : List Nat := [38, 113, 117, 111, 116, 59]
theorem zbF {c d : Nat} {z l : List Nat} (h : d ∉ l) (hz : d ∉ z) : d ∉ esc c z l := λ hm => (zml hm).elim h hz
theorem len1 {l : List Nat} (h : l.length ≤ 200) : (esc 38 aAmp l).length ≤ 1200 := by have := zeM 38 aAmp l; simp [aAmp] at this ⊢; lia
theorem len2 {l : List Nat} (h : l.length ≤ 200) : (esc 60 aLt (esc 38 aAmp l)).length ≤ 6000 := by have := zeM 60 aLt (esc 38 aAmp l); have := len1 h; simp [aLt] at *; lia
theorem len3 {l : List Nat} (h : l.length ≤ 200) : (esc 62 aGt (esc 60 aLt (esc 38 aAmp l))).length ≤ 30000 := by have := zeM 62 aGt (esc 60 aLt (esc 38 aAmp l)); have := len2 h; simp [aGt] at *; lia
theorem len3' {l : List Nat} (h : l.length ≤ 200) : (esc 62 aGt (esc 38 aAmp l)).length ≤ 6000 := by have := zeM 62 aGt (esc 38 aAmp l); have := len1 h; simp [aGt] at *; lia
theorem zcE : ∀ {ps : List (Nat × List Nat)} {l : List Nat}, (∀ p ∈ ps, p.1 ∉ l /\ p.2.length ≤ 6) -> l.length ≤ 30000 -> okE ps l /\ runE ps l = l
  | [], l, _, _ => ⟨trivial, rfl⟩
  | (c, z) :: ps, l, h, hl => by
    have h0 := h (c, z) (.head _)
    have e : esc c z l = l := zfj h0.1
    have ih := zcE (ps := ps) (l := l) (λ p hp => h p (.tail _ hp)) hl
    refine ⟨⟨?_, by rw [e]; exact ih.1⟩, by rw [runE, e]; exact ih.2⟩
    have : (l.length + 1) * z.length ≤ (l.length + 1) * 6 := Nat.mul_le_mul_left _ h0.2
    lia
theorem free3 {d : Nat} {l : List Nat} (h : d ∉ l) (h1 : d ∉ aAmp) (h2 : d ∉ aLt) (h3 : d ∉ aGt) : d ∉ esc 62 aGt (esc 60 aLt (esc 38 aAmp l)) := zbF (zbF (zbF h h1) h2) h3
theorem zn0 {d : Nat} {l : List Nat} (h : d ∉ l) (h1 : d ∉ aAmp) (h3 : d ∉ aGt) : d ∉ esc 62 aGt (esc 38 aAmp l) := zbF (zbF h h1) h3
theorem free2 {d : Nat} {l : List Nat} (h : d ∉ l) (h1 : d ∉ aAmp) (h3 : d ∉ aLt) : d ∉ esc 60 aLt (esc 38 aAmp l) := zbF (zbF h h1) h3
theorem ok3 {l : List Nat} {ps : List (Nat × List Nat)} (hl : l.length ≤ 200) (h : okE ps (esc 62 aGt (esc 60 aLt (esc 38 aAmp l)))) : okE ((38, aAmp) :: (60, aLt) :: (62, aGt) :: ps) l := by
  have a1 := len1 hl
  have a2 := len2 hl
  refine ⟨by simp [aAmp]; lia, by simp [aLt]; lia, by simp [aGt]; lia, h⟩
theorem ziz {l : List Nat} (h : zcp l) (hσ : σ.lookup 0 = some (.fz (.str (mk l)))) : ∃ σ', evs tok Φ Ψ zaY σ (.ret (.str (mk (pageF 0 l)))) σ' := by
  have := zbh (tok := tok) (Φ := Φ) (Ψ := Ψ) [(38, aAmp), (60, aLt), (62, aGt)] [("&", "&amp;"), ("<", "&lt;"), (">", "&gt;")] (by decide) (by decide) hσ (ok3 h.2.2.2.2 trivial)
  rw [show runE [(38, aAmp), (60, aLt), (62, aGt)] l = pageF 0 l from zjJ l] at this
  exact this
theorem zea {l : List Nat} (h : zcp l) (hσ : σ.lookup 0 = some (.fz (.str (mk l)))) : ∃ σ', evs tok Φ Ψ zaJ σ (.ret (.str (mk (pageF 1 l)))) σ' := by
  have r := zcE (ps := [(13, [38, 35, 120, 68, 59])]) (l := esc 62 aGt (esc 60 aLt (esc 38 aAmp l))) (λ p hp => by
    rw [List.mem_singleton.mp hp]; exact ⟨free3 h.2.1 (by decide) (by decide) (by decide), by decide⟩) (len3 h.2.2.2.2)
  have := zbh (tok := tok) (Φ := Φ) (Ψ := Ψ) [(38, aAmp), (60, aLt), (62, aGt), (13, [38, 35, 120, 68, 59])] [("&", "&amp;"), ("<", "&lt;"), (">", "&gt;"), ("\r", "&#xD;")] (by decide) (by decide) hσ (ok3 h.2.2.2.2 r.1)
  rw [show runE [(38, aAmp), (60, aLt), (62, aGt), (13, [38, 35, 120, 68, 59])] l = pageF 1 l from r.2.trans ((zjJ l).trans (zfF l 1 (by decide)).symm)] at this
  exact this
theorem zh7 {l : List Nat} (h : zcp l) (hσ : σ.lookup 0 = some (.fz (.str (mk l)))) : ∃ σ', evs tok Φ Ψ zaT σ (.ret (.str (mk (pageF 2 l)))) σ' := by
  have r := zcE (ps := [(34, zQuo), (13, [38, 35, 49, 51, 59]), (10, [38, 35, 49, 48, 59]), (9, [38, 35, 48, 57, 59])]) (l := esc 62 aGt (esc 60 aLt (esc 38 aAmp l))) (λ p hp => by
    simp only [List.mem_cons, List.not_mem_nil, or_false] at hp
    rcases hp with rfl | rfl | rfl | rfl
    · exact ⟨free3 h.1 (by decide) (by decide) (by decide), by decide⟩
    · exact ⟨free3 h.2.1 (by decide) (by decide) (by decide), by decide⟩
    · exact ⟨free3 h.2.2.1 (by decide) (by decide) (by decide), by decide⟩
    · exact ⟨free3 h.2.2.2.1 (by decide) (by decide) (by decide), by decide⟩) (len3 h.2.2.2.2)
  have := zbh (tok := tok) (Φ := Φ) (Ψ := Ψ) [(38, aAmp), (60, aLt), (62, aGt), (34, zQuo), (13, [38, 35, 49, 51, 59]), (10, [38, 35, 49, 48, 59]), (9, [38, 35, 48, 57, 59])]
    [("&", "&amp;"), ("<", "&lt;"), (">", "&gt;"), ("\"", "&quot;"), ("\r", "&#13;"), ("\n", "&#10;"), ("\t", "&#09;")] (by decide) (by decide) hσ (ok3 h.2.2.2.2 r.1)
  rw [show runE [(38, aAmp), (60, aLt), (62, aGt), (34, zQuo), (13, [38, 35, 49, 51, 59]), (10, [38, 35, 49, 48, 59]), (9, [38, 35, 48, 57, 59])] l = pageF 2 l from r.2.trans ((zjJ l).trans (zfF l 2 (by decide)).symm)] at this
  exact this
theorem zkM {l : List Nat} (h : zcp l) (hσ : σ.lookup 0 = some (.fz (.str (mk l)))) : ∃ σ', evs tok Φ Ψ zaz σ (.ret (.str (mk (pageF 3 l)))) σ' := by
  have r := zcE (ps := [(34, zQuo)]) (l := esc 62 aGt (esc 38 aAmp l)) (λ p hp => by
    rw [List.mem_singleton.mp hp]; exact ⟨zn0 h.1 (by decide) (by decide), by decide⟩) (Nat.le_trans (len3' h.2.2.2.2) (by decide))
  have a1 := len1 h.2.2.2.2
  have hl := h.2.2.2.2
  have := zbh (tok := tok) (Φ := Φ) (Ψ := Ψ) [(38, aAmp), (62, aGt), (34, zQuo)] [("&", "&amp;"), (">", "&gt;"), ("\"", "&quot;")] (by decide) (by decide) hσ ⟨by simp [aAmp]; lia, by simp [aGt]; lia, r.1⟩
  rw [show runE [(38, aAmp), (62, aGt), (34, zQuo)] l = pageF 3 l from r.2.trans (zix l)] at this
  exact this
theorem zdt {l : List Nat} (h : zcp l) (hσ : σ.lookup 0 = some (.fz (.str (mk l)))) : ∃ σ', evs tok Φ Ψ zay σ (.ret (.str (mk (pageF 4 l)))) σ' := by
  have a1 := len1 h.2.2.2.2
  have hl := h.2.2.2.2
  have a2 := len2 hl
  have r := zcE (ps := [(34, zQuo), (9, [38, 35, 120, 57, 59]), (10, [38, 35, 120, 65, 59]), (13, [38, 35, 120, 68, 59])]) (l := esc 60 aLt (esc 38 aAmp l)) (λ p hp => by
    simp only [List.mem_cons, List.not_mem_nil, or_false] at hp
    rcases hp with rfl | rfl | rfl | rfl
    · exact ⟨free2 h.1 (by decide) (by decide), by decide⟩
    · exact ⟨free2 h.2.2.2.1 (by decide) (by decide), by decide⟩
    · exact ⟨free2 h.2.2.1 (by decide) (by decide), by decide⟩
    · exact ⟨free2 h.2.1 (by decide) (by decide), by decide⟩) (by lia)
  have := zbh (tok := tok) (Φ := Φ) (Ψ := Ψ) [(38, aAmp), (60, aLt), (34, zQuo), (9, [38, 35, 120, 57, 59]), (10, [38, 35, 120, 65, 59]), (13, [38, 35, 120, 68, 59])]
    [("&", "&amp;"), ("<", "&lt;"), ("\"", "&quot;"), ("\t", "&#x9;"), ("\n", "&#xA;"), ("\r", "&#xD;")] (by decide) (by decide) hσ ⟨by simp [aAmp]; lia, by simp [aLt]; lia, r.1⟩
  rw [show runE [(38, aAmp), (60, aLt), (34, zQuo), (9, [38, 35, 120, 57, 59]), (10, [38, 35, 120, 65, 59]), (13, [38, 35, 120, 68, 59])] l = pageF 4 l from r.2.trans (zju l)] at this
  exact this
end
theorem zn4 {op : Operator} {x y z : D} (h : binP op x y = some z) : binR op (.d x) (.d y) = some (.d z) := by
  have e : addL op (.d x) (.d y) = none := by
    unfold addL
    cases x <;> first | exact noE h | (split <;> rfl)
  unfold binR; rw [e]
  exact mpd h rfl
section
variable {tok : Str -> Option Int} {Φ : String -> List D -> Option D} {Ψ : String -> List D -> Option (D × List D)} {σ : Sg} {a b c : T} {x y z : D} {i j k : Int} {r s : R}
theorem zcg {n : Nat} {ds : List D} (h : σ.lookup n = some (.own ds)) : pe tok Φ (.var n) σ = some (.l ds) := mpd h rfl
theorem zfD {op : Operator} (ha : pe tok Φ a σ = some (.d x)) (hb : pe tok Φ b σ = some (.d y)) (h : binP op x y = some z) : pe tok Φ (.bin op a b) σ = some (.d z) := bnd ha (bnd hb (zn4 h))
theorem zkt (ha : pe tok Φ a σ = some (.d (.int i))) (hb : pe tok Φ b σ = some (.d (.int j))) : pe tok Φ (.bin .Add a b) σ = some (.d (.int (i + j))) := zfD ha hb rfl
theorem znA (ha : pe tok Φ a σ = some (.d (.int i))) (hb : pe tok Φ b σ = some (.d (.int j))) : pe tok Φ (.bin .Sub a b) σ = some (.d (.int (i - j))) := zfD ha hb rfl
theorem zpW (ha : pe tok Φ a σ = some (.d (.int i))) (hb : pe tok Φ b σ = some (.d (.int j))) (h : small i = true) : pe tok Φ (.bin .Mult a b) σ = some (.d (.int (i * j))) := zfD ha hb (if_pos h)
theorem zoD (ha : pe tok Φ a σ = some (.d (.int i))) (hb : pe tok Φ b σ = some (.d (.int j))) (h0 : j ≠ 0) (h : small j = true) : pe tok Φ (.bin .FloorDiv a b) σ = some (.d (.int (i.fdiv j))) := zfD ha hb (if_pos ⟨h0, h⟩)
theorem znI (ha : pe tok Φ a σ = some (.d (.int i))) (hb : pe tok Φ b σ = some (.d (.int j))) (h0 : j ≠ 0) : pe tok Φ (.bin .Mod a b) σ = some (.d (.int (i.fmod j))) := zfD ha hb (if_pos h0)
theorem zpU (ha : pe tok Φ a σ = some (.d (.int i))) (hb : pe tok Φ b σ = some (.d (.int j))) (h : 0 ≤ j /\ j ≤ 64 /\ small i = true) : pe tok Φ (.bin .Pow a b) σ = some (.d (.int (i ^ j.toNat))) := zfD ha hb (if_pos h)
theorem zer {u v : Str} (ha : pe tok Φ a σ = some (.d (.str u))) (hb : pe tok Φ b σ = some (.d (.str v))) (h : u.length + v.length ≤ 2 ^ 20) : pe tok Φ (.bin .Add a b) σ = some (.d (.str (u ++ v))) := zfD ha hb (if_pos h)
theorem zhe {u : Str} (ha : pe tok Φ a σ = some (.d (.str u))) (hb : pe tok Φ b σ = some (.d (.int j))) (h : u.length ≤ 1000 /\ j ≤ 1000 /\ -1000 ≤ j) : pe tok Φ (.bin .Mult a b) σ = some (.d (.str (Txt.mul u j))) := zfD ha hb (if_pos h)
theorem zbP {ds es : List D} (ha : pe tok Φ a σ = some r) (hr : r.asL = some ds) (hb : pe tok Φ b σ = some s) (hs : s.asL = some es) (h : ds.length + es.length ≤ 2 ^ 20) : pe tok Φ (.bin .Add a b) σ = some (.d (.lst (ds ++ es))) := by
  refine bnd ha (bnd hb ?_)
  have e : addL .Add r s = some (ds, es) := (if_pos rfl).trans (bnd hr (mpd hs rfl))
  unfold binR; rw [e]; exact if_pos h
theorem zmX (ha : pe tok Φ a σ = some (.d (.int i))) : pe tok Φ (.neg a) σ = some (.d (.int (-i))) := mpd (bnd ha rfl) rfl
theorem znQ {t : Bool} (ha : pe tok Φ a σ = some (.d (.bool t))) : pe tok Φ (.not_ a) σ = some (.d (.bool (!t))) := mpd (bnd ha rfl) rfl
theorem zcH (hc : pe tok Φ c σ = some (.d (.bool true))) (ha : pe tok Φ a σ = some r) : pe tok Φ (.ite c a b) σ = some r := bnd (bnd hc rfl) ha
theorem zcC (hc : pe tok Φ c σ = some (.d (.bool false))) (hb : pe tok Φ b σ = some r) : pe tok Φ (.ite c a b) σ = some r := bnd (bnd hc rfl) hb
theorem zmD {ds : List D} {n : Nat} {d : D} (h : ds[n]? = some d) : idx ds (n : Int) = some d := by unfold idx; rw [if_pos (Int.natCast_nonneg n), Int.toNat_natCast]; exact h
theorem zlp {ds : List D} {d : D} : idx (ds ++ [d]) (-1) = some d := by
  unfold idx
  rw [if_neg (by decide), if_pos (by simp; lia)]
  have : (-1 + ((ds ++ [d]).length : Int)).toNat = ds.length := by simp; lia
  rw [this]; simp
theorem znT {ds : List D} {d : D} (ha : pe tok Φ a σ = some r) (hr : r.items = some ds) (hb : pe tok Φ b σ = some (.d (.int i))) (hs : small i = true) (h : idx ds i = some d) : pe tok Φ (.sub a b) σ = some (.d d) :=
  bnd ha (bnd (bnd hb rfl) (mpd ((if_pos hs).trans (bnd hr h)) rfl))
theorem zaS {n : Nat} (h : n ≤ 2 ^ 29) : small (n : Int) = true := small_iff.mpr ⟨by lia, by lia⟩
theorem zat {ds : List D} {d : D} {n : Nat} (ha : pe tok Φ a σ = some r) (hr : r.items = some ds) (hb : pe tok Φ b σ = some (.d (.int (n : Int)))) (hs : n ≤ 2 ^ 29) (h : ds[n]? = some d) : pe tok Φ (.sub a b) σ = some (.d d) :=
  znT ha hr hb (zaS hs) (zmD h)
theorem zcM {op : CmpOp} (ha : pe tok Φ a σ = some r) (hb : pe tok Φ b σ = some s) (h : cmpP tok op r s = some z) : pe tok Φ (.cmp op a b) σ = some (.d z) := bnd ha (bnd hb (mpd h rfl))
theorem q_lt (ha : pe tok Φ a σ = some (.d (.int i))) (hb : pe tok Φ b σ = some (.d (.int j))) : pe tok Φ (.cmp .Lt a b) σ = some (.d (.bool (decide (i < j)))) := zcM ha hb rfl
theorem q_le (ha : pe tok Φ a σ = some (.d (.int i))) (hb : pe tok Φ b σ = some (.d (.int j))) : pe tok Φ (.cmp .LtE a b) σ = some (.d (.bool (decide (i ≤ j)))) := zcM ha hb rfl
theorem q_gt (ha : pe tok Φ a σ = some (.d (.int i))) (hb : pe tok Φ b σ = some (.d (.int j))) : pe tok Φ (.cmp .Gt a b) σ = some (.d (.bool (decide (j < i)))) := zcM ha hb rfl
theorem q_ge (ha : pe tok Φ a σ = some (.d (.int i))) (hb : pe tok Φ b σ = some (.d (.int j))) : pe tok Φ (.cmp .GtE a b) σ = some (.d (.bool (decide (j ≤ i)))) := zcM ha hb rfl
theorem zlc {n : Bool} (h1 : x.sh 8 = true) (h2 : y.sh 8 = true) : eqP n (.d x) (.d y) = some (.bool (n ^^ D.eqb x y)) := if_pos ⟨h1, h2⟩
theorem zos (ha : pe tok Φ a σ = some (.d (.int i))) (hb : pe tok Φ b σ = some (.d (.int j))) : pe tok Φ (.cmp .Eq a b) σ = some (.d (.bool (decide (i = j)))) :=
  zcM ha hb ((zlc rfl rfl).trans (congrArg (λ t => some (D.bool t)) (Bool.false_xor _)))
theorem zmJ (ha : pe tok Φ a σ = some (.d (.int i))) (hb : pe tok Φ b σ = some (.d (.int j))) : pe tok Φ (.cmp .NotEq a b) σ = some (.d (.bool (decide (i ≠ j)))) :=
  zcM ha hb ((zlc rfl rfl).trans (congrArg (λ t => some (D.bool t)) ((Bool.true_xor _).trans (decide_not (p := i = j)).symm)))
theorem q_eq (ha : pe tok Φ a σ = some (.d x)) (hb : pe tok Φ b σ = some (.d y)) (h1 : x.sh 8 = true) (h2 : y.sh 8 = true) : pe tok Φ (.cmp .Eq a b) σ = some (.d (.bool (D.eqb x y))) :=
  zcM ha hb ((zlc h1 h2).trans (congrArg (λ t => some (D.bool t)) (Bool.false_xor _)))
theorem q_ne (ha : pe tok Φ a σ = some (.d x)) (hb : pe tok Φ b σ = some (.d y)) (h1 : x.sh 8 = true) (h2 : y.sh 8 = true) : pe tok Φ (.cmp .NotEq a b) σ = some (.d (.bool (!D.eqb x y))) :=
  zcM ha hb ((zlc h1 h2).trans (congrArg (λ t => some (D.bool t)) (Bool.true_xor _)))
theorem q_is {t u : Bool} (ha : pe tok Φ a σ = some (.d (.bool t))) (hb : pe tok Φ b σ = some (.d (.bool u))) : pe tok Φ (.cmp .Is a b) σ = some (.d (.bool (t == u))) := zcM ha hb (congrArg (λ t => some (D.bool t)) (Bool.false_xor _))
theorem zgG {t u : Bool} (ha : pe tok Φ a σ = some (.d (.bool t))) (hb : pe tok Φ b σ = some (.d (.bool u))) : pe tok Φ (.cmp .IsNot a b) σ = some (.d (.bool (t != u))) := zcM ha hb (congrArg (λ t => some (D.bool t)) (Bool.true_xor _))
theorem znO {ds : List D} (hr : r.items = some ds) (h1 : x.sh 7 = true) (h2 : ds.all (D.sh 7) = true) : inP tok x r = some (ds.any λ y => D.eqb y x) := by
  unfold inP; rw [hr]; exact if_pos ⟨h1, h2⟩
theorem zn5 {ds : List D} (ha : pe tok Φ a σ = some (.d x)) (hb : pe tok Φ b σ = some r) (hr : r.items = some ds) (h1 : x.sh 7 = true) (h2 : ds.all (D.sh 7) = true) : pe tok Φ (.cmp .In a b) σ = some (.d (.bool (ds.any λ y => D.eqb y x))) :=
  zcM ha hb (mpd (znO hr h1 h2) rfl)
theorem zkN {ds : List D} (ha : pe tok Φ a σ = some (.d x)) (hb : pe tok Φ b σ = some (.l ds)) (h1 : x.sh 7 = true) (h2 : ds.all (D.sh 7) = true) : pe tok Φ (.cmp .NotIn a b) σ = some (.d (.bool (!(ds.any λ y => D.eqb y x)))) :=
  zcM ha hb (mpd (znO (r := .l ds) rfl h1 h2) rfl)
theorem zmz {u v : Str} (ha : pe tok Φ a σ = some (.d (.str u))) (hb : pe tok Φ b σ = some (.d (.str v))) : pe tok Φ (.cmp .In a b) σ = some (.d (.bool (Txt.contains v u))) := zcM ha hb rfl
theorem zmM {u : Str} (ha : pe tok Φ a σ = some (.d (.str u))) : pe tok Φ (.cmp .In a (.cst (.fn "EXACT_TOKEN_TYPES"))) σ = some (.d (.bool (tok u).isSome)) := zcM ha q_cst rfl
theorem zpD {u : Str} (hb : pe tok Φ b σ = some (.d (.str u))) (h : tok u = some i) : pe tok Φ (.sub (.cst (.fn "EXACT_TOKEN_TYPES")) b) σ = some (.d (.int i)) :=
  bnd q_cst (bnd (bnd hb rfl) (mpd (mpd h rfl : (tok u).map D.int = some (.int i)) rfl))
theorem zef : pes tok Φ [] σ = some [] := rfl
theorem zak {es : List T} {rs : List R} (h : pe tok Φ a σ = some r) (t : pes tok Φ es σ = some rs) : pes tok Φ (a :: es) σ = some (r :: rs) := bnd h (mpd t rfl)
theorem zaB (h : pe tok Φ a σ = some r) : pes tok Φ [a] σ = some [r] := zak h zef
theorem zau (h : pe tok Φ a σ = some r) (h' : pe tok Φ b σ = some s) : pes tok Φ [a, b] σ = some [r, s] := zak h (zaB h')
theorem zbC : ∀ ds : List D, allD (ds.map .d) = some ds
  | [] => rfl
  | d :: ds => bnd (x := d) rfl (mpd (zbC ds) rfl)
theorem zbw {es : List T} {ds : List D} (h : pes tok Φ es σ = some (ds.map .d)) : pe tok Φ (.lst es) σ = some (.d (.lst ds)) := mpd (bnd h (zbC ds)) rfl
theorem zbc {es : List T} {ds : List D} (h : pes tok Φ es σ = some (ds.map .d)) : pe tok Φ (.tup es) σ = some (.d (.tup ds)) := mpd (bnd h (zbC ds)) rfl
theorem zkp {n : String} {ds : List D} {d : D} (hb : isBi n = false) (hf : Φ n ds = some d) : callF Φ (.d (.fn n)) (ds.map .d) = some d := bnd (x := n) rfl ((if_neg (by rw [hb]; exact Bool.false_ne_true)).trans (bnd (zbC ds) hf))
theorem zaK {n : String} {es : List T} {ds : List D} {d : D} (hb : isBi n = false) (h : pes tok Φ es σ = some (ds.map .d)) (hf : Φ n ds = some d) : pe tok Φ (.call (.cst (.fn n)) es) σ = some (.d d) := bnd q_cst (bnd h (mpd (zkp hb hf) rfl))
theorem zne {m : Nat} {n : String} {es : List T} {ds : List D} {d : D} (hv : σ.lookup m = some (.fz (.fn n))) (hb : isBi n = false) (h : pes tok Φ es σ = some (ds.map .d)) (hf : Φ n ds = some d) : pe tok Φ (.call (.var m) es) σ = some (.d d) := bnd (zab hv) (bnd h (mpd (zkp hb hf) rfl))
theorem q_bi {n : String} {es : List T} {rs : List R} {d : D} (hb : isBi n = true) (h : pes tok Φ es σ = some rs) (hf : callP n rs = some d) : pe tok Φ (.call (.cst (.fn n)) es) σ = some (.d d) := bnd q_cst (bnd h (mpd (bnd (x := n) rfl ((if_pos hb).trans hf)) rfl))
theorem callP_mx {rs : List R} : callP "max" rs = maxP rs := by
  unfold callP
  rw [if_neg (by decide +kernel), if_pos rfl]
theorem callP_mn {rs : List R} : callP "min" rs = (one1 rs).bind (headP minL) := by
  unfold callP
  rw [if_neg (by decide +kernel), if_neg (by decide +kernel), if_pos rfl]
theorem callP_sm {rs : List R} : callP "sum" rs = sumP rs := by
  unfold callP
  rw [if_neg (by decide +kernel), if_neg (by decide +kernel), if_neg (by decide +kernel), if_pos rfl]
theorem callP_st {rs : List R} : callP "sorted" rs = zgR rs := by
  unfold callP
  rw [if_neg (by decide +kernel), if_neg (by decide +kernel), if_neg (by decide +kernel), if_neg (by decide +kernel), if_pos rfl]
theorem callP_dm {rs : List R} : callP "divmod" rs = zgN rs := by
  unfold callP
  rw [if_neg (by decide +kernel), if_neg (by decide +kernel), if_neg (by decide +kernel), if_neg (by decide +kernel), if_neg (by decide +kernel), if_pos rfl]
theorem callP_tp {rs : List R} : callP "tuple" rs = zkw rs := by
  unfold callP
  rw [if_neg (by decide +kernel), if_neg (by decide +kernel), if_neg (by decide +kernel), if_neg (by decide +kernel), if_neg (by decide +kernel), if_neg (by decide +kernel), if_pos rfl]
theorem zpt {ds : List D} {l : List Int} (h : pe tok Φ a σ = some (.d (.lst ds))) (hi : zaL ds = some (i :: l)) : pe tok Φ (.call (.cst (.fn "min")) [a]) σ = some (.d (.int (minL i l))) :=
  q_bi (by decide +kernel) (zaB h) (callP_mn.trans (bnd (x := .d (.lst ds)) rfl (bnd (x := ds) rfl (bnd hi rfl))))
theorem zol {ds : List D} {l : List Int} (h : pe tok Φ a σ = some (.d (.lst ds))) (hi : zaL ds = some (i :: l)) : pe tok Φ (.call (.cst (.fn "max")) [a]) σ = some (.d (.int (maxL i l))) :=
  q_bi (by decide +kernel) (zaB h) (callP_mx.trans (show headP maxL (.d (.lst ds)) = _ from bnd (x := ds) rfl (bnd hi rfl)))
theorem zoV {ds : List D} {l : List Int} (h : pe tok Φ a σ = some (.d (.lst ds))) (hi : zaL ds = some l) : pe tok Φ (.call (.cst (.fn "sum")) [a]) σ = some (.d (.int l.sum)) :=
  q_bi (by decide +kernel) (zaB h) (callP_sm.trans (bnd (x := .d (.lst ds)) rfl (bnd (x := ds) rfl (mpd hi rfl))))
theorem zpL {ds : List D} {l : List Int} (h : pe tok Φ a σ = some (.d (.lst ds))) (hi : zaL ds = some l) (hl : l.length < 64) : pe tok Φ (.call (.cst (.fn "sorted")) [a]) σ = some (.d (.lst ((isort l).map .int))) :=
  q_bi (by decide +kernel) (zaB h) (callP_st.trans (bnd (x := .d (.lst ds)) rfl (bnd (x := ds) rfl (bnd hi (if_pos hl)))))
theorem zdl {ds : List D} (h : pe tok Φ a σ = some r) (hr : r.items = some ds) (hl : ds.length ≤ 2 ^ 20) : pe tok Φ (.call (.cst (.fn "len")) [a]) σ = some (.d (.int ds.length)) :=
  q_bi rfl (zaB h) (show lenP [r] = _ by unfold lenP; refine bnd (x := r) rfl ?_; rw [hr]; exact if_pos hl)
theorem zl8 {x : Str} (h : pe tok Φ a σ = some (.d (.str x))) (hl : x.length ≤ 2 ^ 20) : pe tok Φ (.call (.cst (.fn "len")) [a]) σ = some (.d (.int x.length)) :=
  q_bi rfl (zaB h) (show lenP [.d (.str x)] = _ from if_pos hl)
theorem zgq {n : Nat} {nm : Str} {fs : List (Str × D)} {d : D} (h : σ.lookup n = some (.fz (.obj fs))) (hd : fs.lookup nm = some d) : pe tok Φ (.fld (.var n) nm) σ = some (.d d) := bnd (zab h) (mpd (show fldP (.d (.obj fs)) nm = some d from hd) rfl)
theorem zco {m : String} {fs : List (Str × D)} {es : List T} {ds : List D} {d : D} (hm : isMe m = true) (ho : pe tok Φ a σ = some (.d (.obj fs))) (h : pes tok Φ es σ = some (ds.map .d)) (hf : Φ m (.obj fs :: ds) = some d) : pe tok Φ (.meth m a es) σ = some (.d d) := by
  refine bnd ho (bnd h (mpd ?_ rfl))
  unfold methP
  rw [if_neg (λ e => by subst e; exact ffE hm), if_neg (λ e => by subst e; exact ffE hm), if_neg (λ e => by subst e; exact ffE hm), if_pos hm]
  exact bnd (x := fs) rfl (bnd (zbC ds) hf)
theorem zem : ∀ ys : List Str, zel (ys.map .str) = some ys
  | [] => rfl
  | y :: ys => bnd (x := y) rfl (mpd (zem ys) rfl)
theorem zlF {u : Str} {ys : List Str} (ho : pe tok Φ a σ = some (.d (.str u))) (h : pe tok Φ b σ = some (.d (.lst (ys.map .str)))) (hl : (ys.map (·.length)).sum + ys.length * u.length ≤ 2 ^ 20) : pe tok Φ (.meth "join" a [b]) σ = some (.d (.str (Txt.join u ys))) :=
  bnd ho (bnd (zaB h) (mpd (show joinM (.d (.str u)) [.d (.lst (ys.map .str))] = _ from bnd (x := u) rfl (bnd (x := R.d (.lst (ys.map .str))) rfl (bnd (x := ys.map .str) rfl (bnd (zem ys) (if_pos hl))))) rfl))
theorem zfg {ns : List Int} (ho : pe tok Φ a σ = some (.d (.lst (ns.map .int)))) (h : pe tok Φ b σ = some (.d (.int i))) (hl : (PyData.list (ns.map PyData.int)).layable0 = true) (hm : i ∈ ns) : pe tok Φ (.meth "index" a [b]) σ = some (.d (.int (ns.idxOf i))) :=
  bnd ho (bnd (zaB h) (mpd (show zjB (.d (.lst (ns.map .int))) [.d (.int i)] = _ from bnd (x := ns.map .int) rfl (bnd (x := R.d (.int i)) rfl (bnd (x := i) rfl (bnd (zbd ns) (if_pos ⟨hl, hm⟩))))) rfl))
theorem zi4 {e : T} {p : Pt} {ds : List D} {fz : Bool} (h : pe tok Φ e σ = some (.d x)) (hi : ze8 p (.d x) = some ds) : pit tok Φ fz (.pln e) p σ = some ds := bnd h ((if_neg λ h => ffE h.2).trans hi)
theorem zc4 {e : T} {p : Pt} {ds : List D} (h : pe tok Φ e σ = some (.d (.lst ds))) {fz : Bool} : pit tok Φ fz (.pln e) p σ = some ds := zi4 h rfl
theorem zhs {e : T} {p : Pt} {ds : List D} (h : pe tok Φ e σ = some (.d (.tup ds))) {fz : Bool} : pit tok Φ fz (.pln e) p σ = some ds := zi4 h rfl
theorem zn1 {e : T} {ps : List Pt} {ds : List D} (h : pe tok Φ e σ = some (.l ds)) : pit tok Φ false (.enm e) (.tp ps) σ = some (enumF 0 ds) :=
  show (if true = true then (pe tok Φ e σ).bind λ r => if false = true /\ r.isOwn = true then none else r.items.map (enumF 0) else none) = _ from (if_pos rfl).trans (bnd h ((if_neg λ h => ffE (And.left h)).trans rfl))
theorem znP {e : T} {ps : List Pt} {ds : List D} {fz : Bool} (h : pe tok Φ e σ = some (.d x)) (hx : x.gLT = some ds) : pit tok Φ fz (.enm e) (.tp ps) σ = some (enumF 0 ds) :=
  show (if true = true then (pe tok Φ e σ).bind λ r => if fz = true /\ r.isOwn = true then none else r.items.map (enumF 0) else none) = _ from (if_pos rfl).trans (bnd h ((if_neg λ h => ffE (And.right h)).trans (mpd hx rfl)))
theorem zlv {e : T} {d : D} (h : pe tok Φ e σ = some (.d d)) : pgen tok Φ (.yld e) σ = some [d] := mpd (bnd h rfl) rfl
theorem zmg {ks vs : List T} {K V : List D} (hk : pes tok Φ ks σ = some (K.map .d)) (hv : pes tok Φ vs σ = some (V.map .d)) (ha : pe tok Φ a σ = some (.d x)) (hb : pe tok Φ b σ = some (.d y)) (h : dgetP (zipD K V) x y = some z) : pe tok Φ (.dget ks vs a b) σ = some (.d z) :=
  bnd (bnd hk (zbC K)) (bnd (bnd hv (zbC V)) (bnd (bnd ha rfl) (bnd (bnd hb rfl) (mpd h rfl))))
theorem zdv {op : BoolOp} {es : List T} {t : Bool} (h : pall tok Φ op es σ = some t) : pe tok Φ (.all_ op es) σ = some (.d (.bool t)) := mpd h rfl
theorem zcm : pall tok Φ .And [] σ = some true := rfl
theorem zp0 : pall tok Φ .Or [] σ = some false := rfl
theorem zf2 {es : List T} {t u : Bool} (h : pe tok Φ a σ = some (.d (.bool t))) (k : t = true -> pall tok Φ .And es σ = some u) : pall tok Φ .And (a :: es) σ = some (t && u) := by
  refine bnd (bnd h rfl) ?_
  cases t with
  | true => exact k rfl
  | false => rfl
theorem q_or {es : List T} {t u : Bool} (h : pe tok Φ a σ = some (.d (.bool t))) (k : t = false -> pall tok Φ .Or es σ = some u) : pall tok Φ .Or (a :: es) σ = some (t || u) := by
  refine bnd (bnd h rfl) ?_
  cases t with
  | true => rfl
  | false => exact k rfl
theorem zde {t u : Bool} (h : pe tok Φ a σ = some (.d (.bool t))) (k : t = true -> pe tok Φ b σ = some (.d (.bool u))) : pe tok Φ (.all_ .And [a, b]) σ = some (.d (.bool (t && u))) :=
  zdv (zf2 h λ ht => (zf2 (es := []) (u := true) (k ht) λ _ => zcm).trans (congrArg some (Bool.and_true _)))
theorem zmt {t u : Bool} (h : pe tok Φ a σ = some (.d (.bool t))) (k : t = false -> pe tok Φ b σ = some (.d (.bool u))) : pe tok Φ (.all_ .Or [a, b]) σ = some (.d (.bool (t || u))) :=
  zdv (q_or h λ ht => (q_or (es := []) (u := false) (k ht) λ _ => zp0).trans (congrArg some (Bool.or_false _)))
theorem zpF {ds : List D} {lo hi : D} {l h : Option Int} (ha : pe tok Φ a σ = some r) (hr : r.asL = some ds) (hlo : pe tok Φ b σ = some (.d lo)) (hhi : pe tok Φ c σ = some (.d hi)) (h1 : partP lo = some l) (h2 : partP hi = some h) (hl : ds.length ≤ 2 ^ 20) : pe tok Φ (.slc a b c (.cst .none)) σ = some (.d (.lst (zbY ds l h none))) := by
  refine bnd ha (bnd (bnd hlo rfl) (bnd (bnd hhi rfl) (bnd (bnd q_cst rfl) (mpd ?_ rfl))))
  refine bnd h1 (bnd h2 (bnd (x := none) rfl ?_))
  rw [hr]
  exact if_pos ⟨by simp, hl⟩
theorem zpf {u : Str} (ha : pe tok Φ a σ = some (.d (.str u))) (hlo : pe tok Φ b σ = some (.d (.int i))) (hhi : pe tok Φ c σ = some (.d (.int j))) (hl : u.length ≤ 2 ^ 20) : pe tok Φ (.slc a b c (.cst .none)) σ = some (.d (.str (Txt.slice u (some i) (some j)))) :=
  bnd ha (bnd (bnd hlo rfl) (bnd (bnd hhi rfl) (bnd (bnd q_cst rfl) (mpd (show slcP (.d (.str u)) (.int i) (.int j) .none = _ from if_pos hl) rfl))))
end
theorem zfu : ∀ ls : List (List Nat), Txt.join (mk []) (ls.map mk) = mk ls.flatten
  | [] => rfl
  | [l] => by
    show glued _ _ = _
    rw [glued_eq_join]
    show mk l = mk (l ++ [])
    rw [List.append_nil]
  | l :: m :: ls => by
    have ih := zfu (m :: ls)
    apply zeW
    have e : Txt.join (mk []) ((l :: m :: ls).map mk) = mk l ++ mk [] ++ Txt.join (mk []) ((m :: ls).map mk) := by
      show glued _ _ = mk l ++ mk [] ++ glued _ _
      rw [glued_eq_join, glued_eq_join]
      rfl
    rw [e, ih]
    simp only [Str.cps_append, Array.toList_append, zaC, List.append_nil, List.flatten_cons]
section
variable {tok : Str -> Option Int} {Φ : String -> List D -> Option D} {Ψ : String -> List D -> Option (D × List D)} {σ : Sg}
theorem zhU (l : List Nat) : signs (mk l) = l.map λ c => D.str (mk [c]) := rfl
noncomputable def za5 (k : Nat) : List Nat := if k = 3 then [60] else if k = 4 then [62] else []
theorem zit {k : Nat} (hk : k < 5) : [D.str "", .str "", .str "", .str "<", .str ">"][k]? = some (.str (mk (za5 k))) := by
  have : k = 0 ∨ k = 1 ∨ k = 2 ∨ k = 3 ∨ k = 4 := by lia
  rcases this with rfl | rfl | rfl | rfl | rfl <;> rfl
theorem zkL {c : Nat} : dgetP (zipD [D.str "&", .str "<", .str ">"] [.str "&amp;", .str "&lt;", .str "&gt;"]) (.str (mk [c])) (.str (mk [c])) = some (.str (mk (if c = 38 then aAmp else if c = 60 then aLt else if c = 62 then aGt else [c]))) := by
  have h1 : (mk [c] = Str.ofString "&") ↔ c = 38 := by rw [zhE]; constructor <;> intro h <;> simp_all [mk]
  have h2 : (mk [c] = Str.ofString "<") ↔ c = 60 := by rw [zkF]; constructor <;> intro h <;> simp_all [mk]
  have h3 : (mk [c] = Str.ofString ">") ↔ c = 62 := by rw [zkH]; constructor <;> intro h <;> simp_all [mk]
  by_cases c1 : c = 38
  · subst c1; rfl
  by_cases c2 : c = 60
  · subst c2; rfl
  by_cases c3 : c = 62
  · subst c3; rfl
  show some (lastP [(("&" : Str), D.str "&amp;"), ("<", .str "&lt;"), (">", .str "&gt;")] (mk [c]) (.str (mk [c]))) = _
  simp only [lastP]
  rw [if_neg (λ h => c3 (h3.mp h)), if_neg (λ h => c2 (h2.mp h)), if_neg (λ h => c1 (h1.mp h)), if_neg c1, if_neg c2, if_neg c3]
theorem zen {α : Type} {f : α -> Nat} {B : Nat} : ∀ {l : List α}, (∀ a ∈ l, f a ≤ B) -> (l.map f).sum ≤ l.length * B
  | [], _ => by simp
  | a :: l, h => by
    rw [List.map_cons, List.sum_cons, List.length_cons, Nat.succ_mul]
    have := h a (.head _)
    have := zen (l := l) λ b hb => h b (.tail _ hb)
    lia
theorem zfS (k c : Nat) : (chunk k c).length ≤ 5 := by
  unfold chunk
  repeat' split
  all_goals first | decide | simp
theorem zlk {l : List Nat} {k : Nat} (hk : k < 5) (hl : l.length ≤ 200) (h0 : σ.lookup 0 = some (.fz (.str (mk l)))) (h1 : σ.lookup 1 = some (.fz (.int k))) : ∃ σ', evs tok Φ Ψ zb5 σ (.ret (.str (mk (pageF k l)))) σ' := by
  have e1 : pe tok Φ (.sub (.tup [.cst (.str ""), .cst (.str ""), .cst (.str ""), .cst (.str "<"), .cst (.str ">")]) (.var 1)) σ = some (.d (.str (mk (za5 k)))) := by
    exact zat (zbc (ds := [D.str "", .str "", .str "", .str "<", .str ">"]) (zak q_cst (zak q_cst (zak q_cst (zak q_cst (zaB q_cst)))))) rfl (zab h1) (by lia) (zit hk)
  refine ⟨_, zad (zaq e1) (zaF (zby ?_))⟩
  have e6 : ((signs (mk l)).flatMap λ d => match d with | .str x => [D.str (mk (x.cps.toList.flatMap (chunk k)))] | _ => []) = ((l.map (chunk k)).map mk).map .str := by
    rw [zhU, List.flatMap_map, List.map_map, List.map_map]
    clear hl h0
    induction l with
    | nil => rfl
    | cons c l ih =>
      rw [List.flatMap_cons, List.map_cons, ih]
      show [D.str (mk ([c].flatMap (chunk k)))] ++ _ = _
      rw [List.flatMap_cons, List.flatMap_nil, List.append_nil]; rfl
  have e2 : pe tok Φ (.lc (.nm 4) (.pln (.var 0)) (.all_ .And []) (.yld (.ite (.cmp .In (.var 4) (.var 2)) (.var 4) (.dget [.cst (.str "&"), .cst (.str "<"), .cst (.str ">")] [.cst (.str "&amp;"), .cst (.str "&lt;"), .cst (.str "&gt;")] (.var 4) (.var 4)))) [2]) ((2, .fz (.str (mk (za5 k)))) :: σ)
      = some (.d (.lst ((signs (mk l)).flatMap λ d => match d with | .str x => [.str (mk (x.cps.toList.flatMap (chunk k)))] | _ => []))) := by
    refine q_lc (items := signs (mk l)) ?_ (λ d hd => ?_) ?_
    · exact zi4 (zab ((zaf rfl).trans h0)) rfl
    · rw [zhU] at hd
      obtain ⟨c, hc, rfl⟩ := List.mem_map.mp hd
      refine ⟨_, true, rfl, rfl, λ _ => ?_, λ h => by cases h⟩
      have g4 : List.lookup 4 ((4, B.fz (.str (mk [c]))) :: ((2, B.fz (.str (mk (za5 k)))) :: σ).filter λ q => [2].contains q.1) = some (.fz (.str (mk [c]))) := zaa
      have g2 : List.lookup 2 ((4, B.fz (.str (mk [c]))) :: ((2, B.fz (.str (mk (za5 k)))) :: σ).filter λ q => [2].contains q.1) = some (.fz (.str (mk (za5 k)))) := by
        rw [zaf rfl, zal rfl, zaa]
      have e3 : pe tok Φ (.cmp .In (.var 4) (.var 2)) ((4, B.fz (.str (mk [c]))) :: ((2, B.fz (.str (mk (za5 k)))) :: σ).filter λ q => [2].contains q.1) = some (.d (.bool (decide (c ∈ za5 k)))) := by
        rw [<- zc9]; exact zmz (zab g4) (zab g2)
      have key : pe tok Φ (.ite (.cmp .In (.var 4) (.var 2)) (.var 4) (.dget [.cst (.str "&"), .cst (.str "<"), .cst (.str ">")] [.cst (.str "&amp;"), .cst (.str "&lt;"), .cst (.str "&gt;")] (.var 4) (.var 4))) ((4, B.fz (.str (mk [c]))) :: ((2, B.fz (.str (mk (za5 k)))) :: σ).filter λ q => [2].contains q.1) = some (.d (.str (mk (chunk k c)))) := by
        by_cases hc : c ∈ za5 k
        · refine zcH (by rw [e3, decide_eq_true hc]) ?_
          rw [zab g4]
          unfold za5 at hc
          have : chunk k c = [c] := by
            unfold chunk
            split at hc
            · rename_i h3; rw [List.mem_singleton.mp hc, h3]; decide
            · split at hc
              · rename_i h3 h4; rw [List.mem_singleton.mp hc, h4]; decide
              · cases hc
          rw [this]
        · refine zcC (by rw [e3, decide_eq_false hc]) (zmg (K := [.str "&", .str "<", .str ">"]) (V := [.str "&amp;", .str "&lt;", .str "&gt;"]) (zak q_cst (zau q_cst q_cst)) (zak q_cst (zau q_cst q_cst)) (zab g4) (zab g4) ?_)
          rw [zkL]
          have : (if c = 38 then aAmp else if c = 60 then aLt else if c = 62 then aGt else [c]) = chunk k c := by
            unfold chunk
            unfold za5 at hc
            by_cases h1 : c = 38
            · simp [h1]
            · by_cases h2 : c = 60
              · have : k ≠ 3 := by rintro rfl; simp [h2] at hc
                simp [h2, this]
              · by_cases h3 : c = 62
                · have : k ≠ 4 := by rintro rfl; simp [h3] at hc
                  simp [h3, this]
                · simp [h1, h2, h3]
          rw [this]
      refine (zlv key).trans ?_
      show some [D.str (mk (chunk k c))] = some [D.str (mk ([c].flatMap (chunk k)))]
      rw [List.flatMap_cons, List.flatMap_nil, List.append_nil]
    · rw [e6, List.length_map, List.length_map, List.length_map]; lia
  rw [e6] at e2
  have e7 := zlF (u := "") (a := .cst (.str "")) q_cst e2 ?_
  · rw [show (Str.ofString "") = mk [] from rfl, zfu] at e7
    exact e7
  · have : ((l.map (chunk k)).map mk).map (·.length) = l.map λ c => (chunk k c).length := by
      rw [List.map_map, List.map_map]
      apply List.map_congr_left
      intro c _
      exact zas _
    rw [this]
    have h1 := zen (f := λ c => (chunk k c).length) (B := 5) (l := l) λ c _ => zfS k c
    have h2 : (Str.ofString "").length = 0 := by decide
    rw [h2, Nat.mul_zero]
    lia
end
theorem zeE {α : Type} (ds : List α) (a : Nat) : ∀ n, ((List.range n).map (a + ·)).filterMap (ds[·]?) = (ds.drop a).take n
  | 0 => by simp
  | n + 1 => by
    rw [List.range_succ, List.map_append, List.filterMap_append, zeE ds a n, List.take_add_one, List.getElem?_drop]
    congr 1
theorem zhY {n k : Nat} (h : k ≤ n) : clipAt n (k : Int) = k := by unfold clipAt; split <;> (try split) <;> lia
theorem zkm (ds : List D) (lo hi : Option Nat) (h1 : ∀ k, lo = some k -> k ≤ ds.length) (h2 : ∀ k, hi = some k -> k ≤ ds.length) :
    zbY ds (lo.map Int.ofNat) (hi.map Int.ofNat) none = (ds.drop (lo.getD 0)).take (hi.getD ds.length - lo.getD 0) := by
  unfold zbY
  rw [sliceBounds_plain]
  have e1 : (lo.map Int.ofNat).elim 0 (clipAt ds.length) = lo.getD 0 := by
    cases lo with
    | none => rfl
    | some k => exact zhY (h1 k rfl)
  have e2 : (hi.map Int.ofNat).elim ds.length (clipAt ds.length) = hi.getD ds.length := by
    cases hi with
    | none => rfl
    | some k => exact zhY (h2 k rfl)
  rw [e1, e2]
  show (sliceRange _ _ 1).filterMap _ = _
  rw [sliceRange_one, zeE]
noncomputable def optD : Option Nat -> D
  | none => .none
  | some k => .int k
theorem zhQ (o : Option Nat) : partP (optD o) = some (o.map Int.ofNat) := by cases o <;> rfl
noncomputable def ln (x : Nat) : D := .tup [.int ((x / 2 : Nat) : Int), .int ((x % 2 : Nat) : Int)]
noncomputable def ol (L : List Nat) : D := .lst (L.map ln)
noncomputable def nth : List Nat -> Nat -> Nat
  | [], _ => 0
  | x :: _, 0 => x
  | _ :: r, k + 1 => nth r k
noncomputable def dp (L : List Nat) (k : Nat) : Nat := nth L k / 2
noncomputable def lb (L : List Nat) (k : Nat) : Nat := nth L k % 2
theorem zdR : ∀ {L : List Nat} {k : Nat}, k < L.length -> L[k]? = some (nth L k)
  | [], k, h => by simp at h
  | x :: r, 0, _ => rfl
  | x :: r, k + 1, h => by
    rw [List.getElem?_cons_succ, zdR (by simpa using h)]; rfl
theorem zl5 {L : List Nat} {k : Nat} (h : k < L.length) : (L.map ln)[k]? = some (ln (nth L k)) := by rw [List.getElem?_map, zdR h]; rfl
section
variable {tok : Str -> Option Int} {Φ : String -> List D -> Option D} {Ψ : String -> List D -> Option (D × List D)} {σ : Sg} {a b c : T} {r : R}
theorem zir {ds : List D} {lo hi : Option Nat} (ha : pe tok Φ a σ = some r) (hr : r.asL = some ds) (hlo : pe tok Φ b σ = some (.d (optD lo))) (hhi : pe tok Φ c σ = some (.d (optD hi))) (hl : ds.length ≤ 2 ^ 20) (h1 : ∀ k, lo = some k -> k ≤ ds.length) (h2 : ∀ k, hi = some k -> k ≤ ds.length) :
    pe tok Φ (.slc a b c (.cst .none)) σ = some (.d (.lst ((ds.drop (lo.getD 0)).take (hi.getD ds.length - lo.getD 0)))) := by
  rw [zpF ha hr hlo hhi (zhQ lo) (zhQ hi) hl, zkm ds lo hi h1 h2]
theorem zmd {L : List Nat} {n k : Nat} (h : σ.lookup n = some (.fz (ol L))) (hk : pe tok Φ b σ = some (.d (.int (k : Int)))) (hl : k < L.length) (hs : k ≤ 1000) : pe tok Φ (.sub (.var n) b) σ = some (.d (ln (nth L k))) :=
  zat (zab h) rfl hk (by lia) (zl5 hl)
theorem zdY {L : List Nat} {n k : Nat} (h : σ.lookup n = some (.fz (ol L))) (hk : pe tok Φ b σ = some (.d (.int (k : Int)))) (hl : k < L.length) (hs : k ≤ 1000) : pe tok Φ (.sub (.sub (.var n) b) (.cst (.int 0))) σ = some (.d (.int ((dp L k : Nat) : Int))) :=
  zat (n := 0) (zmd h hk hl hs) rfl q_cst (by decide) rfl
theorem zk5 {L : List Nat} {n k : Nat} (h : σ.lookup n = some (.fz (ol L))) (hk : pe tok Φ b σ = some (.d (.int (k : Int)))) (hl : k < L.length) (hs : k ≤ 1000) : pe tok Φ (.sub (.sub (.var n) b) (.cst (.int 1))) σ = some (.d (.int ((lb L k : Nat) : Int))) :=
  zat (n := 1) (zmd h hk hl hs) rfl q_cst (by decide) rfl
theorem q_vi {n k : Nat} (h : σ.lookup n = some (.fz (.int (k : Int)))) : pe tok Φ (.var n) σ = some (.d (.int (k : Int))) := zab h
theorem zao {m n : Nat} (ha : pe tok Φ a σ = some (.d (.int (m : Int)))) (hb : pe tok Φ b σ = some (.d (.int (n : Int)))) : pe tok Φ (.bin .Add a b) σ = some (.d (.int ((m + n : Nat) : Int))) := by
  rw [zkt ha hb, Int.natCast_add]
theorem zcn {m n : Nat} (ha : pe tok Φ a σ = some (.d (.int (m : Int)))) (hb : pe tok Φ b σ = some (.d (.int (n : Int)))) (h : n ≤ m) : pe tok Φ (.bin .Sub a b) σ = some (.d (.int ((m - n : Nat) : Int))) := by
  rw [znA ha hb, Int.ofNat_sub h]
theorem zk3 {m n : Nat} (ha : pe tok Φ a σ = some (.d (.int (m : Int)))) (hb : pe tok Φ b σ = some (.d (.int (n : Int)))) : pe tok Φ (.cmp .Lt a b) σ = some (.d (.bool (decide (m < n)))) := by
  rw [q_lt ha hb, decide_eq_decide.mpr Int.ofNat_lt]
theorem zmT {m n : Nat} (ha : pe tok Φ a σ = some (.d (.int (m : Int)))) (hb : pe tok Φ b σ = some (.d (.int (n : Int)))) : pe tok Φ (.cmp .Gt a b) σ = some (.d (.bool (decide (n < m)))) := by
  rw [q_gt ha hb, decide_eq_decide.mpr Int.ofNat_lt]
theorem zd0 {m n : Nat} (ha : pe tok Φ a σ = some (.d (.int (m : Int)))) (hb : pe tok Φ b σ = some (.d (.int (n : Int)))) : pe tok Φ (.cmp .Eq a b) σ = some (.d (.bool (decide (m = n)))) := by
  rw [zos ha hb, decide_eq_decide.mpr Int.natCast_inj]
theorem q_c {n : Nat} : pe tok Φ (.cst (.int (n : Int))) σ = some (.d (.int (n : Int))) := q_cst
noncomputable def endF (L : List Nat) (a : Nat) : Nat -> Nat -> Nat
  | 0, b => b
  | n + 1, b => bif Nat.blt b 4 && Nat.blt (dp L a) (dp L (b + 1)) then endF L a n (b + 1) else b
noncomputable def zan (L : List Nat) (a : Nat) : Nat := endF L a 4 a
theorem zbo (a b : Nat) : Nat.blt a b = decide (a < b) := by
  by_cases h : a < b
  · rw [decide_eq_true h]; exact Nat.blt_eq.mpr h
  · rw [decide_eq_false h]; exact Bool.eq_false_iff.mpr λ e => h (Nat.blt_eq.mp e)
theorem ziK {L : List Nat} {a : Nat} : ∀ {n b : Nat}, b ≤ 4 -> b ≤ endF L a n b /\ endF L a n b ≤ 4
  | 0, b, h => ⟨Nat.le_refl _, h⟩
  | n + 1, b, h => by
    unfold endF
    cases hc : (Nat.blt b 4 && Nat.blt (dp L a) (dp L (b + 1))) with
    | false => exact ⟨Nat.le_refl _, h⟩
    | true =>
      rw [Bool.and_eq_true, zbo, decide_eq_true_eq] at hc
      have ih := ziK (L := L) (a := a) (n := n) (b := b + 1) (by lia)
      simp only [cond_true]
      exact ⟨by lia, ih.2⟩
theorem zm5 {L : List Nat} {k : Nat} (hL : L.length = 5) (hk : k ≤ 4) (h0 : σ.lookup 0 = some (.fz (ol L))) (h1 : σ.lookup 1 = some (.fz (.int (k : Int)))) : ∃ σ', evs tok Φ Ψ zcy σ (.ret (.int ((zan L k : Nat) : Int))) σ' := by
  have loop : ∀ (n b : Nat) (σ : Sg), 4 ≤ b + n -> b ≤ 4 -> σ.lookup 0 = some (.fz (ol L)) -> σ.lookup 1 = some (.fz (.int (k : Int))) -> σ.lookup 2 = some (.fz (.int (b : Int))) ->
      ∃ σ', WhileR (pe tok Φ (.all_ .And [.cmp .Lt (.var 2) (.cst (.int 4)), .cmp .Gt (.sub (.sub (.var 0) (.bin .Add (.var 2) (.cst (.int 1)))) (.cst (.int 0))) (.sub (.sub (.var 0) (.var 1)) (.cst (.int 0)))]))
        (evs tok Φ Ψ [.asg (.nm 2) (.bin .Add (.var 2) (.cst (.int 1)))]) σ .next σ' /\ σ'.lookup 2 = some (.fz (.int ((endF L k n b : Nat) : Int))) := by
    intro n
    induction n with
    | zero =>
      intro b σ h4 hb h0 h1 h2
      have hb4 : b = 4 := by lia
      refine ⟨σ, .stop ?_, h2⟩
      have := zde (b := .cmp .Gt (.sub (.sub (.var 0) (.bin .Add (.var 2) (.cst (.int 1)))) (.cst (.int 0))) (.sub (.sub (.var 0) (.var 1)) (.cst (.int 0)))) (u := false) (zk3 (tok := tok) (Φ := Φ) (q_vi h2) (q_c (n := 4))) (λ h => by simp at h; lia)
      rwa [Bool.and_false] at this
    | succ n ih =>
      intro b σ h4 hb h0 h1 h2
      have hc := zde (b := .cmp .Gt (.sub (.sub (.var 0) (.bin .Add (.var 2) (.cst (.int 1)))) (.cst (.int 0))) (.sub (.sub (.var 0) (.var 1)) (.cst (.int 0)))) (u := decide (dp L k < dp L (b + 1))) (zk3 (tok := tok) (Φ := Φ) (q_vi h2) (q_c (n := 4)))
        (λ h => zmT (zdY h0 (zao (q_vi h2) (q_c (n := 1))) (by simp at h; lia) (by lia)) (zdY h0 (q_vi h1) (by lia) (by lia)))
      rw [endF, zbo, zbo]
      cases hb' : (decide (b < 4) && decide (dp L k < dp L (b + 1))) with
      | false => exact ⟨σ, .stop (hb' ▸ hc), h2⟩
      | true =>
        rw [Bool.and_eq_true, decide_eq_true_eq] at hb'
        obtain ⟨σ', w, e⟩ := ih (b + 1) ((2, .fz (.int ((b + 1 : Nat) : Int))) :: σ) (by lia) (by lia) (h0) (h1) zaa
        refine ⟨σ', .next (hc.trans ?_) (zad (zaq (zao (q_vi h2) (q_c (n := 1)))) zag) w, e⟩
        rw [hb'.2, decide_eq_true hb'.1]; rfl
  obtain ⟨σ', w, e⟩ := loop 4 k ((2, .fz (.int (k : Int))) :: σ) (by lia) hk (h0) (h1) zaa
  exact ⟨σ', zad (zaq (zab h1)) (zad (ziA w) (zaF (zby (zab e))))⟩
end
theorem zhG (a b : Nat) : Int.fdiv (a : Int) (b : Int) = ((a / b : Nat) : Int) := by rw [Int.fdiv_eq_ediv_of_nonneg _ (Int.natCast_nonneg b)]; rfl
theorem zhy (a b : Nat) : Int.fmod (a : Int) (b : Int) = ((a % b : Nat) : Int) := by rw [Int.fmod_eq_emod_of_nonneg _ (Int.natCast_nonneg b)]; rfl
noncomputable def depL : Nat -> Nat -> Nat -> List Nat -> List Nat
  | 0, _, _, ds => ds
  | n + 1, c, d, ds => depL n (c / (d + 2)) (c % (d + 2)) (ds ++ [c % (d + 2)])
noncomputable def zaG (c : Nat) : List Nat := depL 4 c 0 [0]
noncomputable def il (l : List Nat) : List D := l.map λ (n : Nat) => D.int (n : Int)
section
variable {tok : Str -> Option Int} {Φ : String -> List D -> Option D} {Ψ : String -> List D -> Option (D × List D)} {σ : Sg} {a b c : T} {r : R}
theorem zbK {m n : Nat} (ha : pe tok Φ a σ = some (.d (.int (m : Int)))) (hb : pe tok Φ b σ = some (.d (.int (n : Int)))) (h0 : n ≠ 0) (h : n ≤ 2 ^ 29) : pe tok Φ (.bin .FloorDiv a b) σ = some (.d (.int ((m / n : Nat) : Int))) := by
  rw [zoD ha hb (by lia) (zaS h), zhG]
theorem zbp {m n : Nat} (ha : pe tok Φ a σ = some (.d (.int (m : Int)))) (hb : pe tok Φ b σ = some (.d (.int (n : Int)))) (h0 : n ≠ 0) : pe tok Φ (.bin .Mod a b) σ = some (.d (.int ((m % n : Nat) : Int))) := by
  rw [znI ha hb (by lia), zhy]
theorem zhR {m n : Nat} (ha : pe tok Φ a σ = some (.d (.int (m : Int)))) (hb : pe tok Φ b σ = some (.d (.int (n : Int)))) (h : m ≤ 2 ^ 29) : pe tok Φ (.bin .Mult a b) σ = some (.d (.int ((m * n : Nat) : Int))) := by
  rw [zpW ha hb (zaS h), Int.natCast_mul]
theorem zly {m n : Nat} (ha : pe tok Φ a σ = some (.d (.int (m : Int)))) (hb : pe tok Φ b σ = some (.d (.int (n : Int)))) (h : n ≤ 64) (hm : m ≤ 2 ^ 29) : pe tok Φ (.bin .Pow a b) σ = some (.d (.int ((m ^ n : Nat) : Int))) := by
  rw [zpU ha hb ⟨by lia, by lia, zaS hm⟩, Int.toNat_natCast, Int.natCast_pow]
theorem zdc {n : Nat} (hn : n ≤ 2 ^ 20) (ha : pe tok Φ a σ = some (.d (.int (n : Int)))) {fz : Bool} {p : Pt} : pit tok Φ fz (.rng1 a) p σ = some ((List.range n).map λ i => .int (i : Int)) := by
  refine bnd (bnd ha rfl) ((if_pos ⟨by decide, zaS (by lia)⟩).trans ?_)
  unfold zeJ
  have : (if (0 : Int) < (n : Int) then (n : Int) - 0 else 0).toNat = n := by split <;> lia
  rw [this]
  simp
theorem zkr {m n : Nat} (hm : m ≤ 2 ^ 20) (hn : n ≤ 2 ^ 20) (ha : pe tok Φ a σ = some (.d (.int (m : Int)))) (hb : pe tok Φ b σ = some (.d (.int (n : Int)))) {fz : Bool} {p : Pt} : pit tok Φ fz (.rng a b) p σ = some ((List.range' m (n - m)).map λ i => .int (i : Int)) := by
  refine bnd (bnd ha rfl) (bnd (bnd hb rfl) ((if_pos ⟨zaS (by lia), zaS (by lia)⟩).trans ?_))
  unfold zeJ
  have : (if (m : Int) < (n : Int) then (n : Int) - m else 0).toNat = n - m := by split <;> lia
  rw [this, List.range'_eq_map_range, List.map_map]
  congr 1
theorem zis {c : Nat} (h0 : σ.lookup 0 = some (.fz (.int (c : Int)))) : ∃ σ', evs tok Φ Ψ zbm σ (.ret (.lst (il (zaG c)))) σ' := by
  have loop : ∀ (items : List D) (c d : Nat) (ds : List Nat) (σ : Sg), σ.lookup 0 = some (.fz (.int (c : Int))) -> σ.lookup 1 = some (.own (il ds ++ [.int (d : Int)])) -> d ≤ 1000 -> ds.length + items.length ≤ 100 -> (∀ n, n < items.length + d -> True) ->
      (d + items.length ≤ 1000) -> ∃ σ', ForR (.nm 2) (evs tok Φ Ψ [.asg (.tp [.nm 0, .nm 3]) (.call (.cst (.fn "divmod")) [.var 0, .bin .Add (.sub (.var 1) (.neg (.cst (.int 1)))) (.cst (.int 2))]), .app 1 (.var 3)]) items σ .next σ' /\
        σ'.lookup 1 = some (.own (il (depL items.length c d (ds ++ [d])))) := by
    intro items
    induction items with
    | nil =>
      intro c d ds σ h0 h1 _ _ _ _
      exact ⟨σ, .nil, by rw [h1]; simp [depL, il]⟩
    | cons it items ih =>
      intro c d ds σ h0 h1 hd hl _ hdl
      have g1 : ((2, B.fz it) :: σ).lookup 1 = some (.own (il ds ++ [.int (d : Int)])) := h1
      have g0 : ((2, B.fz it) :: σ).lookup 0 = some (.fz (.int (c : Int))) := h0
      have e2 : pe tok Φ (.bin .Add (.sub (.var 1) (.neg (.cst (.int 1)))) (.cst (.int 2))) ((2, B.fz it) :: σ) = some (.d (.int ((d + 2 : Nat) : Int))) :=
        zao (znT (i := -1) (zcg g1) rfl (zmX q_cst) rfl zlp) (q_c (n := 2))
      have e3 : pe tok Φ (.call (.cst (.fn "divmod")) [.var 0, .bin .Add (.sub (.var 1) (.neg (.cst (.int 1)))) (.cst (.int 2))]) ((2, B.fz it) :: σ) = some (.d (.tup [.int ((c / (d + 2) : Nat) : Int), .int ((c % (d + 2) : Nat) : Int)])) := by
        refine q_bi (by decide +kernel) (zau (zab g0) e2) ?_
        refine callP_dm.trans (bnd (x := (.d (.int (c : Int)), .d (.int ((d + 2 : Nat) : Int)))) rfl (bnd (x := (c : Int)) rfl (bnd (x := ((d + 2 : Nat) : Int)) rfl ((if_pos ⟨by lia, zaS (by lia)⟩).trans ?_))))
        rw [zhG, zhy]
      have hm : c % (d + 2) < d + 2 := Nat.mod_lt _ (by lia)
      have g2 : List.lookup 1 ((3, B.fz (.int ((c % (d + 2) : Nat) : Int))) :: (0, B.fz (.int ((c / (d + 2) : Nat) : Int))) :: (2, B.fz it) :: σ) = some (.own (il ds ++ [.int (d : Int)])) := g1
      simp only [List.length_cons] at hl hdl
      obtain ⟨σ', f, e⟩ := ih (c / (d + 2)) (c % (d + 2)) (ds ++ [d]) ((1, .own ((il ds ++ [.int (d : Int)]) ++ [.int ((c % (d + 2) : Nat) : Int)])) :: (3, B.fz (.int ((c % (d + 2) : Nat) : Int))) :: (0, B.fz (.int ((c / (d + 2) : Nat) : Int))) :: (2, B.fz it) :: σ)
        (rfl) (by rw [zaa]; simp [il]) (by lia) (by simp; lia) (λ _ _ => trivial) (by lia)
      exact ⟨σ', .next rfl (zad (zjm e3 rfl) (zad (zej g2 (zab zaa) (by simp [il]; lia)) zag)) f, e⟩
  obtain ⟨σ', f, e⟩ := loop ((List.range 4).map λ (i : Nat) => D.int (i : Int)) c 0 [] ((1, .own [.int 0]) :: σ) (h0) zaa (by lia) (by simp) (λ _ _ => trivial) (by simp)
  exact ⟨σ', zad (zfL (zbw (ds := [.int 0]) (zaB q_cst))) (zad (zci (zdc (n := 4) (by decide) q_cst) f) (zaF (zdE e)))⟩
noncomputable def zaR (L : List Nat) (a : Nat) : List (List Nat) :=
  bif Nat.blt (zan L a + 1) 5 && Nat.beq (dp L (zan L a + 1)) (dp L a) then
    [((L.take a ++ (L.drop (zan L a + 1)).take (zan L (zan L a + 1) + 1 - (zan L a + 1))) ++ (L.drop a).take (zan L a + 1 - a)) ++ L.drop (zan L (zan L a + 1) + 1)]
  else []
noncomputable def zaU (L : List Nat) : Nat -> List (List Nat)
  | 0 => []
  | n + 1 => zaU L n ++ zaR L n
noncomputable def swaps (L : List Nat) : List (List Nat) := zaU L 4
noncomputable def ols (l : List (List Nat)) : List D := l.map ol
theorem zgS (a b : Nat) : Nat.beq a b = decide (a = b) := by
  by_cases h : a = b
  · rw [decide_eq_true h]; exact Nat.beq_eq.mpr h
  · rw [decide_eq_false h]; exact Bool.eq_false_iff.mpr λ e => h (Nat.beq_eq.mp e)
theorem zgg {L : List Nat} {a : Nat} (h : a ≤ 4) : a ≤ zan L a /\ zan L a ≤ 4 := ziK h
theorem zgz {L : List Nat} (hΦ : ∀ (L : List Nat) (k : Nat), L.length = 5 -> k ≤ 4 -> Φ "_law_end" [ol L, .int (k : Int)] = some (.int ((zan L k : Nat) : Int))) (hL : L.length = 5) (h0 : σ.lookup 0 = some (.fz (ol L))) :
    ∃ σ', evs tok Φ Ψ za9 σ (.ret (.lst (ols (swaps L)))) σ' := by
  have loop : ∀ (m n : Nat) (σ : Sg), n + m = 4 -> σ.lookup 0 = some (.fz (ol L)) -> σ.lookup 1 = some (.own (ols (zaU L n))) -> (zaU L n).length ≤ n ->
      ∃ σ', ForR (.nm 2) (evs tok Φ Ψ [.asg (.nm 3) (.bin .Add (.call (.cst (.fn "_law_end")) [.var 0, .var 2]) (.cst (.int 1))),
        .iff (.all_ .And [.cmp .Lt (.var 3) (.cst (.int 5)), .cmp .Eq (.sub (.sub (.var 0) (.var 3)) (.cst (.int 0))) (.sub (.sub (.var 0) (.var 2)) (.cst (.int 0)))]) [.asg (.nm 4) (.bin .Add (.call (.cst (.fn "_law_end")) [.var 0, .var 3]) (.cst (.int 1))),
          .app 1 (.bin .Add (.bin .Add (.bin .Add (.slc (.var 0) (.cst (.none)) (.var 2) (.cst (.none))) (.slc (.var 0) (.var 3) (.var 4) (.cst (.none)))) (.slc (.var 0) (.var 2) (.var 3) (.cst (.none)))) (.slc (.var 0) (.var 4) (.cst (.none)) (.cst (.none))))] []])
        ((List.range' n m).map λ (i : Nat) => D.int (i : Int)) σ .next σ' /\ σ'.lookup 1 = some (.own (ols (zaU L 4))) := by
    intro m
    induction m with
    | zero =>
      intro n σ hn h0 h1 _
      have : n = 4 := by lia
      subst this
      exact ⟨σ, .nil, h1⟩
    | succ m ih =>
      intro n σ hn h0 h1 hlen
      rw [List.range'_succ, List.map_cons]
      have g0 : ((2, B.fz (.int (n : Int))) :: σ).lookup 0 = some (.fz (ol L)) := h0
      have g1 : ((2, B.fz (.int (n : Int))) :: σ).lookup 1 = some (.own (ols (zaU L n))) := h1
      have hb := zgg (L := L) (a := n) (by lia)
      have e3 : pe tok Φ (.bin .Add (.call (.cst (.fn "_law_end")) [.var 0, .var 2]) (.cst (.int 1))) ((2, B.fz (.int (n : Int))) :: σ) = some (.d (.int ((zan L n + 1 : Nat) : Int))) :=
        zao (zaK (ds := [ol L, .int (n : Int)]) rfl (zau (zab g0) (zab zaa)) (hΦ L n hL (by lia))) (q_c (n := 1))
      generalize hB : zan L n + 1 = bb at e3
      have k0 : ((3, B.fz (.int (bb : Int))) :: (2, B.fz (.int (n : Int))) :: σ).lookup 0 = some (.fz (ol L)) := g0
      have k1 : ((3, B.fz (.int (bb : Int))) :: (2, B.fz (.int (n : Int))) :: σ).lookup 1 = some (.own (ols (zaU L n))) := g1
      have k2 : ((3, B.fz (.int (bb : Int))) :: (2, B.fz (.int (n : Int))) :: σ).lookup 2 = some (.fz (.int (n : Int))) := rfl
      have ec := zde (b := .cmp .Eq (.sub (.sub (.var 0) (.var 3)) (.cst (.int 0))) (.sub (.sub (.var 0) (.var 2)) (.cst (.int 0)))) (u := decide (dp L bb = dp L n)) (zk3 (tok := tok) (Φ := Φ) (q_vi (n := 3) (k := bb) (σ := (3, B.fz (.int (bb : Int))) :: (2, B.fz (.int (n : Int))) :: σ) zaa) (q_c (n := 5)))
        (λ h => zd0 (zdY k0 (q_vi zaa) (by simp at h; lia) (by lia)) (zdY k0 (q_vi k2) (by lia) (by lia)))
      have step : zaU L (n + 1) = zaU L n ++ zaR L n := rfl
      cases hc : (decide (bb < 5) && decide (dp L bb = dp L n)) with
      | false =>
        have hs : zaR L n = [] := by unfold zaR; rw [hB, zbo, zgS, hc]; rfl
        obtain ⟨σ', f, e⟩ := ih (n + 1) ((3, B.fz (.int (bb : Int))) :: (2, B.fz (.int (n : Int))) :: σ) (by lia) k0 (by rw [step, hs, List.append_nil]; exact k1) (by rw [step, hs, List.append_nil]; lia)
        exact ⟨σ', .next rfl (zad (zaq e3) (zad (zc0 (ec.trans (by rw [hc])) zag) zag)) f, e⟩
      | true =>
        have hc' := hc
        rw [Bool.and_eq_true, decide_eq_true_eq] at hc'
        have hb5 : bb ≤ 4 := by lia
        have hcl := zgg (L := L) (a := bb) hb5
        have e4 : pe tok Φ (.bin .Add (.call (.cst (.fn "_law_end")) [.var 0, .var 3]) (.cst (.int 1))) ((3, B.fz (.int (bb : Int))) :: (2, B.fz (.int (n : Int))) :: σ) = some (.d (.int ((zan L bb + 1 : Nat) : Int))) :=
          zao (zaK (ds := [ol L, .int (bb : Int)]) rfl (zau (zab k0) (zab zaa)) (hΦ L bb hL hb5)) (q_c (n := 1))
        generalize hC : zan L bb + 1 = cc at e4
        have m0 : ((4, B.fz (.int (cc : Int))) :: (3, B.fz (.int (bb : Int))) :: (2, B.fz (.int (n : Int))) :: σ).lookup 0 = some (.fz (ol L)) := k0
        have m1 : ((4, B.fz (.int (cc : Int))) :: (3, B.fz (.int (bb : Int))) :: (2, B.fz (.int (n : Int))) :: σ).lookup 1 = some (.own (ols (zaU L n))) := k1
        have m2 : ((4, B.fz (.int (cc : Int))) :: (3, B.fz (.int (bb : Int))) :: (2, B.fz (.int (n : Int))) :: σ).lookup 2 = some (.fz (.int (n : Int))) := k2
        have m3 : ((4, B.fz (.int (cc : Int))) :: (3, B.fz (.int (bb : Int))) :: (2, B.fz (.int (n : Int))) :: σ).lookup 3 = some (.fz (.int (bb : Int))) := rfl
        have hll : (L.map ln).length = 5 := by rw [List.length_map, hL]
        have s1 := zir (tok := tok) (Φ := Φ) (lo := none) (hi := some n) (b := .cst .none) (c := .var 2) (zab m0) (by rfl) q_cst (zab m2) (by rw [hll]; decide) (λ k h => by cases h) (λ k h => by cases h; rw [hll]; lia)
        have s2 := zir (tok := tok) (Φ := Φ) (lo := some bb) (hi := some cc) (b := .var 3) (c := .var 4) (zab m0) (by rfl) (zab m3) (zab zaa) (by rw [hll]; decide) (λ k h => by cases h; rw [hll]; lia) (λ k h => by cases h; rw [hll]; lia)
        have s3 := zir (tok := tok) (Φ := Φ) (lo := some n) (hi := some bb) (b := .var 2) (c := .var 3) (zab m0) (by rfl) (zab m2) (zab m3) (by rw [hll]; decide) (λ k h => by cases h; rw [hll]; lia) (λ k h => by cases h; rw [hll]; lia)
        have s4 := zir (tok := tok) (Φ := Φ) (lo := some cc) (hi := none) (b := .var 4) (c := .cst .none) (zab m0) (by rfl) (zab zaa) q_cst (by rw [hll]; decide) (λ k h => by cases h; rw [hll]; lia) (λ k h => by cases h)
        have es := zbP (zbP (zbP s1 rfl s2 rfl (by simp [hL]; lia)) rfl s3 rfl (by simp [hL]; lia)) rfl s4 rfl (by simp [hL]; lia)
        have hs : zaR L n = [((L.take n ++ (L.drop bb).take (cc - bb)) ++ (L.drop n).take (bb - n)) ++ L.drop cc] := by unfold zaR; rw [hB, zbo, zgS, hc, hC]; rfl
        have eq : D.lst (((List.take (n - 0) (List.drop 0 (L.map ln)) ++ List.take (cc - bb) (List.drop bb (L.map ln))) ++ List.take (bb - n) (List.drop n (L.map ln))) ++ List.take ((L.map ln).length - cc) (List.drop cc (L.map ln))) = ol (((L.take n ++ (L.drop bb).take (cc - bb)) ++ (L.drop n).take (bb - n)) ++ L.drop cc) := by
          unfold ol
          rw [List.drop_zero, Nat.sub_zero]
          have : List.take ((L.map ln).length - cc) (List.drop cc (L.map ln)) = List.drop cc (L.map ln) := by
            apply List.take_of_length_le
            rw [List.length_drop]; exact Nat.le_refl _
          rw [this]
          simp [List.map_append, List.map_take, List.map_drop]
        obtain ⟨σ', f, e⟩ := ih (n + 1) ((1, .own (ols (zaU L n) ++ [ol (((L.take n ++ (L.drop bb).take (cc - bb)) ++ (L.drop n).take (bb - n)) ++ L.drop cc)])) :: (4, B.fz (.int (cc : Int))) :: (3, B.fz (.int (bb : Int))) :: (2, B.fz (.int (n : Int))) :: σ) (by lia) (m0)
          (by rw [zaa, step, hs]; simp [ols]) (by rw [step, hs]; simp; lia)
        exact ⟨σ', .next rfl (zad (zaq e3) (zad (zdi (ec.trans (by rw [hc])) (zad (zaq e4) (zad (zej m1 (es.trans (by rw [<- eq]; rfl)) (by simp [ols]; lia)) zag))) zag)) f, e⟩
  obtain ⟨σ', f, e⟩ := loop 4 0 ((1, .own []) :: σ) rfl (h0) zaa (Nat.le_refl _)
  refine ⟨σ', zad (zfL (zbw (ds := []) zef)) (zad (zci (zdc (n := 4) (by decide) q_cst) ?_) (zaF (zdE e)))⟩
  rw [List.range_eq_range']
  exact f
end
theorem zpv (x n : Nat) : (ln x).sh (n + 1) = true := by cases n <;> rfl
theorem zke (L : List Nat) (n : Nat) : (ol L).sh (n + 2) = true := by
  show (L.map ln).all (D.sh (n + 1)) = true
  rw [List.all_eq_true]
  intro d hd
  obtain ⟨x, _, rfl⟩ := List.mem_map.mp hd
  exact zpv x n
theorem zlM (l : List (List Nat)) (n : Nat) : (ols l).all (D.sh (n + 2)) = true := by
  rw [List.all_eq_true]
  intro d hd
  obtain ⟨x, _, rfl⟩ := List.mem_map.mp hd
  exact zke x n
theorem eqbB {s : List D -> Bool} (hs : ∀ ds, s ds = true -> D.eqbs ds ds = true) (d : D) (h : D.shB s d = true) : D.eqb d d = true := by
  cases d <;> first | exact ffE h | exact hs _ h | exact beq_self_eq_true _
theorem zkx {f : D -> Bool} (ih : ∀ d, f d = true -> D.eqb d d = true) : ∀ ds : List D, ds.all f = true -> D.eqbs ds ds = true
  | [], _ => rfl
  | d :: ds, h => andE h λ x y => (congr (congrArg and (ih d x)) (zkx ih ds y) : (D.eqb d d && D.eqbs ds ds) = (true && true))
theorem zdn : ∀ (n : Nat) (d : D), d.sh n = true -> D.eqb d d = true
  | 0 => eqbB λ _ h => ffE h
  | n + 1 => eqbB (zkx (zdn n))
theorem zpj (x y : Nat) : D.eqb (ln x) (ln y) = decide (x = y) := by
  show (((x / 2 : Nat) : Int) == ((y / 2 : Nat) : Int) && (((x % 2 : Nat) : Int) == ((y % 2 : Nat) : Int) && true)) = _
  rw [Bool.and_true, Bool.eq_iff_iff, Bool.and_eq_true, beq_iff_eq, beq_iff_eq, decide_eq_true_iff]
  lia
theorem zjY : ∀ L M : List Nat, D.eqbs (L.map ln) (M.map ln) = decide (L = M)
  | [], [] => rfl
  | [], _ :: _ => rfl
  | _ :: _, [] => rfl
  | x :: L, y :: M => by
    show (D.eqb (ln x) (ln y) && D.eqbs (L.map ln) (M.map ln)) = _
    rw [zjY L M, zpj, Bool.eq_iff_iff, Bool.and_eq_true, decide_eq_true_iff, decide_eq_true_iff, decide_eq_true_iff, List.cons.injEq]
theorem zib {L M : List Nat} : D.eqb (ol L) (ol M) = decide (L = M) := zjY L M
theorem zi2 (l : List (List Nat)) (N : List Nat) : ((ols l).any λ y => D.eqb y (ol N)) = decide (N ∈ l) := by
  induction l with
  | nil => rfl
  | cons L l ih =>
    show (D.eqb (ol L) (ol N) || (ols l).any _) = _
    rw [ih, zib]
    by_cases h : L = N
    · simp [h]
    · simp [h, Ne.symm h]
noncomputable def za2 : List (List Nat) -> List (List Nat) -> List (List Nat)
  | acc, [] => acc
  | acc, o :: os => za2 (if o ∈ acc then acc else acc ++ [o]) os
noncomputable def bfs : Nat -> List (List Nat) -> Nat -> List (List Nat)
  | 0, acc, _ => acc
  | n + 1, acc, p => match acc[p]? with
    | some M => bfs n (za2 acc (swaps M)) (p + 1)
    | none => acc
noncomputable def zap (L : List Nat) : List (List Nat) := bfs 3000 [L] 0
theorem zcK {α : Type} [DecidableEq α] : ∀ {l m : List α}, l.Nodup -> (∀ a ∈ l, a ∈ m) -> l.length ≤ m.length
  | [], _, _, _ => Nat.zero_le _
  | a :: l, m, hn, hs => by
    rw [List.nodup_cons] at hn
    have hm := hs a (.head _)
    have := zcK (l := l) (m := m.erase a) hn.2 λ b hb => (List.mem_erase_of_ne (by rintro rfl; exact hn.1 hb)).mpr (hs b (.tail _ hb))
    rw [List.length_erase_of_mem hm] at this
    have := List.length_pos_of_mem hm
    rw [List.length_cons]; lia
structure VOk (V : List (List Nat)) : Prop where
  len : ∀ L ∈ V, L.length = 5
  cl : ∀ L ∈ V, ∀ M ∈ swaps L, M ∈ V
  sz : V.length ≤ 2000
structure AccOk (V acc : List (List Nat)) : Prop where
  nd : acc.Nodup
  sub : ∀ L ∈ acc, L ∈ V
theorem AccOk.sz {V acc : List (List Nat)} (hV : VOk V) (a : AccOk V acc) : acc.length ≤ 2000 := Nat.le_trans (zcK a.nd a.sub) hV.sz
theorem AccOk.one {V acc : List (List Nat)} {o : List Nat} (a : AccOk V acc) (ho : o ∈ V) : AccOk V (if o ∈ acc then acc else acc ++ [o]) := by
  split
  · exact a
  · rename_i h
    refine ⟨?_, λ L hL => ?_⟩
    · rw [List.nodup_append]
      refine ⟨a.nd, by simp, λ x hx y hy e => ?_⟩
      rw [List.mem_singleton.mp hy] at e
      exact h (e ▸ hx)
    · rcases List.mem_append.mp hL with h | h
      · exact a.sub L h
      · rw [List.mem_singleton.mp h]; exact ho
theorem AccOk.add {V : List (List Nat)} : ∀ {os acc : List (List Nat)}, AccOk V acc -> (∀ o ∈ os, o ∈ V) -> AccOk V (za2 acc os)
  | [], acc, a, _ => a
  | o :: os, acc, a, h => by
    rw [za2]
    exact AccOk.add (a.one (h o (.head _))) λ p hp => h p (.tail _ hp)
theorem zca : ∀ {os acc : List (List Nat)}, ∃ t, za2 acc os = acc ++ t
  | [], acc => ⟨[], by simp [za2]⟩
  | o :: os, acc => by
    obtain ⟨t, h⟩ := zca (os := os) (acc := if o ∈ acc then acc else acc ++ [o])
    rw [za2, h]
    split
    · exact ⟨t, rfl⟩
    · exact ⟨o :: t, by simp⟩
theorem zeK : ∀ {os acc : List (List Nat)}, ∀ o ∈ os, o ∈ za2 acc os
  | o' :: os, acc, o, h => by
    rw [za2]
    rcases List.mem_cons.mp h with rfl | h
    · obtain ⟨t, e⟩ := zca (os := os) (acc := if o ∈ acc then acc else acc ++ [o])
      rw [e]
      refine List.mem_append_left _ ?_
      split
      · assumption
      · simp
    · exact zeK o h
theorem zdB : ∀ {os acc : List (List Nat)} {M : List Nat}, M ∈ za2 acc os -> M ∈ acc ∨ M ∈ os
  | [], acc, M, h => .inl h
  | o :: os, acc, M, h => by
    rw [za2] at h
    rcases zdB h with h | h
    · split at h
      · exact .inl h
      · rcases List.mem_append.mp h with h | h
        · exact .inl h
        · rw [List.mem_singleton.mp h]; exact .inr (.head _)
    · exact .inr (.tail _ h)
section
variable {tok : Str -> Option Int} {Φ : String -> List D -> Option D} {Ψ : String -> List D -> Option (D × List D)} {σ : Sg} {a b c : T} {r : R}
theorem zgJ {V : List (List Nat)} {L : List Nat} (hV : VOk V) (hΦ : ∀ L : List Nat, L.length = 5 -> Φ "_law_swapped" [ol L] = some (.lst (ols (swaps L)))) (hL : L ∈ V) :
    ∃ σ', evs tok Φ Ψ zba [(0, .fz (ol L))] (.ret (.lst (ols (zap L)))) σ' := by
  have inner : ∀ (os acc : List (List Nat)) (σ : Sg) (p : Nat), AccOk V acc -> (∀ o ∈ os, o ∈ V) -> σ.lookup 1 = some (.own (ols acc)) -> σ.lookup 2 = some (.fz (.int (p : Int))) ->
      ∃ σ', ForR (.nm 3) (evs tok Φ Ψ [.iff (.cmp .NotIn (.var 3) (.var 1)) [.app 1 (.var 3)] []]) (ols os) σ .next σ' /\ σ'.lookup 1 = some (.own (ols (za2 acc os))) /\ σ'.lookup 2 = some (.fz (.int (p : Int))) := by
    intro os
    induction os with
    | nil => intro acc σ p ha hs h1 h2; exact ⟨σ, .nil, h1, h2⟩
    | cons o os ih =>
      intro acc σ p ha hs h1 h2
      have g3 : ((3, B.fz (ol o)) :: σ).lookup 3 = some (.fz (ol o)) := zaa
      have g1 : ((3, B.fz (ol o)) :: σ).lookup 1 = some (.own (ols acc)) := h1
      have g2 : ((3, B.fz (ol o)) :: σ).lookup 2 = some (.fz (.int (p : Int))) := h2
      have hc := zkN (tok := tok) (Φ := Φ) (zab g3) (zcg g1) (zke o 5) (zlM acc 5)
      rw [zi2] at hc
      have ha' := ha.one (hs o (.head _))
      by_cases hm : o ∈ acc
      · rw [if_pos hm] at ha'
        obtain ⟨σ', f, e1, e2⟩ := ih acc ((3, B.fz (ol o)) :: σ) p ha' (λ q hq => hs q (.tail _ hq)) g1 g2
        refine ⟨σ', .next rfl (zad (zc0 (hc.trans (by simp [hm])) zag) zag) f, ?_, e2⟩
        rw [za2, if_pos hm]; exact e1
      · rw [if_neg hm] at ha'
        obtain ⟨σ', f, e1, e2⟩ := ih (acc ++ [o]) ((1, .own (ols acc ++ [ol o])) :: (3, B.fz (ol o)) :: σ) p ha' (λ q hq => hs q (.tail _ hq)) (by rw [zaa]; simp [ols]) (g2)
        refine ⟨σ', .next rfl (zad (zdi (hc.trans (by simp [hm])) (zad (zej g1 (zab g3) ?_) zag)) zag) f, ?_, e2⟩
        · have := ha.sz hV; simp [ols]; lia
        · rw [za2, if_neg hm]; exact e1
  have outer : ∀ (n p : Nat) (acc : List (List Nat)) (σ : Sg), AccOk V acc -> p ≤ acc.length -> 2000 < n + p -> σ.lookup 1 = some (.own (ols acc)) -> σ.lookup 2 = some (.fz (.int (p : Int))) ->
      ∃ σ', WhileR (pe tok Φ (.cmp .Lt (.var 2) (.call (.cst (.fn "len")) [.var 1]))) (evs tok Φ Ψ [.fr (.nm 3) (.pln (.call (.cst (.fn "_law_swapped")) [.sub (.var 1) (.var 2)])) [.iff (.cmp .NotIn (.var 3) (.var 1)) [.app 1 (.var 3)] []], .asg (.nm 2) (.bin .Add (.var 2) (.cst (.int 1)))]) σ .next σ' /\
        σ'.lookup 1 = some (.own (ols (bfs n acc p))) := by
    intro n
    induction n with
    | zero => intro p acc σ ha hp hn; have := ha.sz hV; lia
    | succ n ih =>
      intro p acc σ ha hp hn h1 h2
      have hsz := ha.sz hV
      have hc : pe tok Φ (.cmp .Lt (.var 2) (.call (.cst (.fn "len")) [.var 1])) σ = some (.d (.bool (decide (p < acc.length)))) := by
        have := zk3 (tok := tok) (Φ := Φ) (q_vi h2) (zdl (zcg h1) rfl (by simp [ols]; lia))
        rw [this]; simp [ols]
      by_cases hlt : p < acc.length
      · have hget : acc[p]? = some acc[p] := List.getElem?_eq_getElem hlt
        generalize hM : acc[p] = M at hget
        have hMV : M ∈ V := ha.sub M (hM ▸ List.getElem_mem hlt)
        have e1 : pe tok Φ (.call (.cst (.fn "_law_swapped")) [.sub (.var 1) (.var 2)]) σ = some (.d (.lst (ols (swaps M)))) :=
          zaK (ds := [ol M]) rfl (zaB (zat (zcg h1) rfl (q_vi h2) (by lia) (by show (ols acc)[p]? = _; rw [ols, List.getElem?_map, hget]; rfl))) (hΦ M (hV.len M hMV))
        obtain ⟨σ₁, f, k1, k2⟩ := inner (swaps M) acc σ p ha (hV.cl M hMV) h1 h2
        obtain ⟨t, ht⟩ := zca (os := swaps M) (acc := acc)
        obtain ⟨σ', w, e⟩ := ih (p + 1) (za2 acc (swaps M)) ((2, .fz (.int ((p + 1 : Nat) : Int))) :: σ₁) (ha.add (hV.cl M hMV)) (by rw [ht]; simp; lia) (by lia) (k1) zaa
        refine ⟨σ', .next (hc.trans (by rw [decide_eq_true hlt])) (zad (zci (items := ols (swaps M)) (zc4 e1) f) (zad (zaq (zao (q_vi k2) (q_c (n := 1)))) zag)) w, ?_⟩
        rw [bfs, hget]; exact e
      · refine ⟨σ, .stop (hc.trans (by rw [decide_eq_false hlt])), ?_⟩
        have : acc[p]? = none := List.getElem?_eq_none (by lia)
        rw [bfs, this]; exact h1
  have a0 : AccOk V [L] := ⟨by simp, λ M hM => by rw [List.mem_singleton.mp hM]; exact hL⟩
  obtain ⟨σ', w, e⟩ := outer 3000 0 [L] [(1, .own [ol L]), (2, .fz (.int 0)), (0, .fz (ol L))] a0 (by simp) (by lia) rfl rfl
  have e0 : ev1 tok Φ Ψ (.asgs [1, 2] [true, false] [.lst [.var 0], .cst (.int 0)]) [(0, .fz (ol L))] .next [(1, .own [ol L]), (2, .fz (.int 0)), (0, .fz (ol L))] := by
    refine ⟨rfl, [.lst [ol L], .int 0], [.own [ol L], .fz (.int 0)], ?_, rfl, rfl, rfl, rfl⟩
    rw [zau (zbw (ds := [ol L]) (zaB (zab rfl))) q_cst]; rfl
  exact ⟨σ', zad e0 (zad (ziA w) (zaF (zdE e)))⟩
end
inductive Conn (L : List Nat) : List Nat -> Prop
  | refl : Conn L L
  | step {M N : List Nat} : Conn L M -> N ∈ swaps M -> Conn L N
structure RchOk (L : List Nat) (R : List (List Nat)) : Prop where
  nd : R.Nodup
  self : L ∈ R
  cl : ∀ M ∈ R, ∀ N ∈ swaps M, N ∈ R
  conn : ∀ M ∈ R, Conn L M
theorem Conn.trans {L M N : List Nat} (a : Conn L M) (b : Conn M N) : Conn L N := by
  induction b with
  | refl => exact a
  | step _ h ih => exact .step ih h
theorem zcL {V : List (List Nat)} {L : List Nat} (hV : VOk V) (hL : L ∈ V) : RchOk L (zap L) := by
  have key : ∀ (n p : Nat) (acc : List (List Nat)), AccOk V acc -> p ≤ acc.length -> 2000 < n + p -> L ∈ acc -> (∀ M ∈ acc, Conn L M) -> (∀ (i : Nat) M, i < p -> acc[i]? = some M -> ∀ N ∈ swaps M, N ∈ acc) -> RchOk L (bfs n acc p) := by
    intro n
    induction n with
    | zero => intro p acc ha hp hn; have := ha.sz hV; lia
    | succ n ih =>
      intro p acc ha hp hn hs hc hcl
      cases hM : acc[p]? with
      | none =>
        have hpl : acc.length ≤ p := List.getElem?_eq_none_iff.mp hM
        rw [bfs, hM]
        refine ⟨ha.nd, hs, λ M hm N hN => ?_, hc⟩
        obtain ⟨i, hi⟩ := List.mem_iff_getElem?.mp (show _ ∈ acc from hm)
        have hlt := (List.getElem?_eq_some_iff.mp hi).1
        exact hcl i _ (by lia) hi N hN
      | some M =>
        have hMm : M ∈ acc := List.mem_of_getElem? hM
        have hlt := (List.getElem?_eq_some_iff.mp hM).1
        obtain ⟨t, ht⟩ := zca (os := swaps M) (acc := acc)
        rw [bfs, hM]
        refine ih (p + 1) (za2 acc (swaps M)) (ha.add (hV.cl M (ha.sub M hMm))) (by rw [ht]; simp; lia) (by lia) (by rw [ht]; exact List.mem_append_left _ hs) (λ N hN => ?_) λ i N hi hiN K hK => ?_
        · rcases zdB hN with h | h
          · exact hc N h
          · exact .step (hc M hMm) h
        · have hilt : i < acc.length := by lia
          rw [ht, List.getElem?_append_left hilt] at hiN
          by_cases e : i = p
          · subst e
            rw [hM] at hiN; cases hiN
            exact zeK K hK
          · rw [ht]
            exact List.mem_append_left _ (hcl i N (by lia) hiN K hK)
  exact key 3000 0 [L] ⟨by simp, λ M hM => by rw [List.mem_singleton.mp hM]; exact hL⟩ (by simp) (by lia) (by simp) (λ M hM => by rw [List.mem_singleton.mp hM]; exact .refl) λ i M hi => by lia
end Mine
end
section
open PySem PySem.W PyProof.Rows PySem.StrLaws Builtin.Str
set_option maxRecDepth 100000
namespace Mine
noncomputable def blk (t : Nat) : List Nat -> List Nat
  | [] => []
  | x :: r => bif Nat.blt t (x / 2) then x :: blk t r else []
noncomputable def rst (t : Nat) : List Nat -> List Nat
  | [] => []
  | x :: r => bif Nat.blt t (x / 2) then rst t r else x :: r
noncomputable def swQ2 (x : Nat) (A : List Nat) : List Nat -> List (List Nat)
  | [] => []
  | y :: r => bif Nat.beq (y / 2) (x / 2) then [(y :: blk (y / 2) r) ++ ((x :: A) ++ rst (y / 2) r)] else []
noncomputable def swQ : List Nat -> List (List Nat)
  | [] => []
  | x :: r => swQ2 x (blk (x / 2) r) (rst (x / 2) r) ++ (swQ r).map (x :: ·)
theorem zct (t : Nat) : ∀ r, blk t r ++ rst t r = r
  | [] => rfl
  | x :: r => by
    unfold blk rst
    cases Nat.blt t (x / 2) with
    | true => show x :: (blk t r ++ rst t r) = _; rw [zct t r]
    | false => rfl
theorem zhH (t : Nat) (r : List Nat) : List.drop (blk t r).length r = rst t r := by
  have : List.drop (blk t r).length (blk t r ++ rst t r) = rst t r := List.drop_left
  rwa [zct] at this
theorem zhm (t : Nat) (r : List Nat) : List.take (blk t r).length r = blk t r := by
  have : List.take (blk t r).length (blk t r ++ rst t r) = blk t r := List.take_left
  rwa [zct] at this
theorem zcP : ∀ {L : List Nat} {a x : Nat} {r : List Nat}, L.drop a = x :: r -> nth L a = x
  | [], a, x, r, h => by simp at h
  | y :: L, 0, x, r, h => by simp at h; exact h.1
  | y :: L, a + 1, x, r, h => by rw [nth]; exact zcP (by simpa using h)
theorem zgh {L : List Nat} {a x : Nat} {r : List Nat} (h : L.drop a = x :: r) : L.drop (a + 1) = r := by rw [<- List.drop_drop, h]; rfl
theorem zhv {L : List Nat} {a : Nat} (hL : L.length = 5) : ∀ {n b : Nat}, 4 ≤ b + n -> b ≤ 4 -> endF L a n b = b + (blk (dp L a) (L.drop (b + 1))).length
  | 0, b, h, hb => by
    have : b = 4 := by lia
    subst this
    have : L.drop 5 = [] := List.drop_of_length_le (by lia)
    rw [this]; rfl
  | n + 1, b, h, hb => by
    rw [endF]
    by_cases h4 : b < 4
    · have hd : ∃ x r, L.drop (b + 1) = x :: r := by
        cases e : L.drop (b + 1) with
        | nil => have := congrArg List.length e; rw [List.length_drop, List.length_nil] at this; lia
        | cons x r => exact ⟨x, r, rfl⟩
      obtain ⟨x, r, e⟩ := hd
      have en : dp L (b + 1) = x / 2 := by unfold dp; rw [zcP e]
      rw [e, en, blk, Nat.blt_eq.mpr h4, Bool.true_and]
      cases Nat.blt (dp L a) (x / 2) with
      | true =>
        simp only [cond_true]
        rw [zhv hL (by lia) (by lia), zgh e, List.length_cons]; lia
      | false => rfl
    · have : b = 4 := by lia
      subst this
      have : L.drop 5 = [] := List.drop_of_length_le (by lia)
      rw [this]; rfl
theorem zeC {L : List Nat} {a x : Nat} {r : List Nat} (hL : L.length = 5) (h : L.drop a = x :: r) : zan L a = a + (blk (x / 2) r).length := by
  have ha : a ≤ 4 := by
    have := congrArg List.length h
    rw [List.length_drop, List.length_cons] at this; lia
  unfold zan
  rw [zhv hL (by lia) ha, zgh h]
  unfold dp; rw [zcP h]
theorem zcT {L P : List Nat} {x : Nat} {r : List Nat} (hL : L.length = 5) (e : L = P ++ x :: r) : zaR L P.length = (swQ2 x (blk (x / 2) r) (rst (x / 2) r)).map (P ++ ·) := by
  have hd : L.drop P.length = x :: r := by rw [e, List.drop_left]
  have hlen : P.length + (r.length + 1) = 5 := by rw [<- hL, e]; simp
  have h1 := zeC hL hd
  have hr := zct (x / 2) r
  have hb : L.drop (zan L P.length + 1) = rst (x / 2) r := by
    rw [h1, show P.length + (blk (x / 2) r).length + 1 = P.length + ((blk (x / 2) r).length + 1) by lia, <- List.drop_drop, hd, List.drop_succ_cons, zhH]
  have hrl : (blk (x / 2) r).length + (rst (x / 2) r).length = r.length := by rw [<- List.length_append, hr]
  have htk : L.take P.length = P := by rw [e, List.take_left]
  unfold zaR
  cases hR : rst (x / 2) r with
  | nil =>
    rw [hR] at hrl
    have : Nat.blt (zan L P.length + 1) 5 = false := by rw [zbo, decide_eq_false]; simp at hrl; lia
    rw [this]; rfl
  | cons y r2 =>
    rw [hR] at hb hrl
    have h2 := zeC hL hb
    have hr2 := zct (y / 2) r2
    have hblt : Nat.blt (zan L P.length + 1) 5 = true := by rw [zbo, decide_eq_true]; simp at hrl; lia
    have hdp : dp L (zan L P.length + 1) = y / 2 := by unfold dp; rw [zcP hb]
    have hdp0 : dp L P.length = x / 2 := by unfold dp; rw [zcP hd]
    rw [hblt, hdp, hdp0, Bool.true_and, swQ2]
    cases Nat.beq (y / 2) (x / 2) with
    | false => rfl
    | true =>
      simp only [cond_true]
      have t1 : (L.drop (zan L P.length + 1)).take (zan L (zan L P.length + 1) + 1 - (zan L P.length + 1)) = y :: blk (y / 2) r2 := by
        rw [hb, h2, show zan L P.length + 1 + (blk (y / 2) r2).length + 1 - (zan L P.length + 1) = (blk (y / 2) r2).length + 1 by lia, List.take_succ_cons, zhm]
      have t2 : (L.drop P.length).take (zan L P.length + 1 - P.length) = x :: blk (x / 2) r := by
        rw [hd, h1, show P.length + (blk (x / 2) r).length + 1 - P.length = (blk (x / 2) r).length + 1 by lia, List.take_succ_cons, zhm]
      have t3 : L.drop (zan L (zan L P.length + 1) + 1) = rst (y / 2) r2 := by
        rw [h2, show zan L P.length + 1 + (blk (y / 2) r2).length + 1 = (zan L P.length + 1) + ((blk (y / 2) r2).length + 1) by lia, <- List.drop_drop, hb, List.drop_succ_cons, zhH]
      rw [t1, t2, t3, htk]
      simp [List.append_assoc]
theorem zcW {L : List Nat} (hL : L.length = 5) : swaps L = swQ L := by
  match L, hL with
  | [a, b, c, d, e], hL =>
    have s0 := zcT (P := []) hL rfl
    have s1 := zcT (P := [a]) hL rfl
    have s2 := zcT (P := [a, b]) hL rfl
    have s3 := zcT (P := [a, b, c]) hL rfl
    show ((([] ++ zaR [a, b, c, d, e] 0) ++ zaR [a, b, c, d, e] 1) ++ zaR [a, b, c, d, e] 2) ++ zaR [a, b, c, d, e] 3 = _
    have e0 : zaR [a, b, c, d, e] 0 = _ := s0
    have e1 : zaR [a, b, c, d, e] 1 = _ := s1
    have e2 : zaR [a, b, c, d, e] 2 = _ := s2
    have e3 : zaR [a, b, c, d, e] 3 = _ := s3
    rw [e0, e1, e2, e3]
    have q5 : swQ [e] = [] := rfl
    rw [swQ, swQ, swQ, swQ, q5]
    simp only [List.map_nil, List.append_nil, List.nil_append, List.map_append, List.map_map, List.append_assoc]
    simp [Function.comp_def]
theorem zhZ {t : Nat} {B R : List Nat} (hB : blk t (B ++ R) = B ∨ ∀ z ∈ B, t < z / 2) (hR : ∀ z, R.head? = some z -> z / 2 ≤ t) : (∀ z ∈ B, t < z / 2) -> blk t (B ++ R) = B /\ rst t (B ++ R) = R := by
  intro h
  clear hB
  induction B with
  | nil =>
    cases R with
    | nil => exact ⟨rfl, rfl⟩
    | cons z R =>
      have := hR z rfl
      have hf : Nat.blt t (z / 2) = false := by rw [zbo, decide_eq_false]; lia
      show blk t (z :: R) = [] /\ rst t (z :: R) = z :: R
      unfold blk rst
      rw [hf]; exact ⟨rfl, rfl⟩
  | cons z B ih =>
    have ht : Nat.blt t (z / 2) = true := Nat.blt_eq.mpr (h z (.head _))
    obtain ⟨i1, i2⟩ := ih λ w hw => h w (.tail _ hw)
    show blk t (z :: (B ++ R)) = _ /\ rst t (z :: (B ++ R)) = _
    unfold blk rst
    rw [ht]
    exact ⟨by simp only [cond_true]; rw [i1], i2⟩
theorem zcF {t : Nat} : ∀ {r : List Nat}, ∀ z ∈ blk t r, t < z / 2
  | x :: r, z, hz => by
    unfold blk at hz
    cases hc : Nat.blt t (x / 2) with
    | true =>
      rw [hc] at hz
      rcases List.mem_cons.mp hz with rfl | hz
      · exact Nat.blt_eq.mp hc
      · exact zcF z hz
    | false => rw [hc] at hz; cases hz
theorem zhu {t : Nat} : ∀ {r : List Nat} {z : Nat}, (rst t r).head? = some z -> z / 2 ≤ t
  | [], z, h => by cases h
  | x :: r, z, h => by
    unfold rst at h
    cases hc : Nat.blt t (x / 2) with
    | true => rw [hc] at h; exact zhu h
    | false =>
      rw [hc] at h
      cases h
      rw [zbo, decide_eq_false_iff_not] at hc; lia
theorem ziV : ∀ {L M : List Nat}, M ∈ swQ L -> L ∈ swQ M
  | [], M, h => by cases h
  | x :: r, M, h => by
    rw [swQ] at h
    rcases List.mem_append.mp h with h | h
    · cases hR : rst (x / 2) r with
      | nil => rw [hR] at h; cases h
      | cons y r2 =>
        rw [hR, swQ2] at h
        cases hc : Nat.beq (y / 2) (x / 2) with
        | false => rw [hc] at h; cases h
        | true =>
          rw [hc] at h
          have hxy : y / 2 = x / 2 := Nat.beq_eq.mp hc
          simp only [cond_true, List.mem_singleton] at h
          subst h
          have hr := zct (x / 2) r
          have hr2 := zct (y / 2) r2
          show _ ∈ swQ (y :: (blk (y / 2) r2 ++ ((x :: blk (x / 2) r) ++ rst (y / 2) r2)))
          rw [swQ]
          refine List.mem_append_left _ ?_
          obtain ⟨i1, i2⟩ := zhZ (t := y / 2) (B := blk (y / 2) r2) (R := (x :: blk (x / 2) r) ++ rst (y / 2) r2) (.inr zcF) (λ z hz => by
            have : z = x := by simpa using hz.symm
            lia) zcF
          rw [i1, i2]
          show _ ∈ swQ2 y (blk (y / 2) r2) (x :: (blk (x / 2) r ++ rst (y / 2) r2))
          obtain ⟨j1, j2⟩ := zhZ (t := x / 2) (B := blk (x / 2) r) (R := rst (y / 2) r2) (.inr zcF) (λ z hz => hxy ▸ zhu hz) zcF
          have hc' : Nat.beq (x / 2) (y / 2) = true := Nat.beq_eq.mpr hxy.symm
          rw [swQ2, hc', j1, j2]
          simp only [cond_true, List.mem_singleton]
          show x :: r = (x :: blk (x / 2) r) ++ ((y :: blk (y / 2) r2) ++ rst (y / 2) r2)
          rw [List.cons_append, List.cons_append, hr2, <- hR, hr]
    · obtain ⟨N, hN, rfl⟩ := List.mem_map.mp h
      rw [swQ]
      exact List.mem_append_right _ (List.mem_map_of_mem (ziV hN))
noncomputable def insN (a : Nat) : List Nat -> List Nat
  | [] => [a]
  | b :: l => bif Nat.ble a b then a :: b :: l else b :: insN a l
noncomputable def sortN : List Nat -> List Nat
  | [] => []
  | a :: l => insN a (sortN l)
noncomputable def lc : List Nat -> Nat
  | [] => 0
  | k :: r => (k + lc r) * (k + lc r) + k + 1
noncomputable def enc (lab : Nat) (ks : List Nat) : Nat := 2 * lc ks + lab
noncomputable def cntN (k : Nat) : List Nat -> Nat
  | [] => 0
  | a :: r => bif Nat.beq a k then cntN k r + 1 else cntN k r
noncomputable def pc : List Nat -> Nat
  | [] => 1
  | k :: r => (cntN k r + 1) * pc r
noncomputable def fac : Nat -> Nat
  | 0 => 1
  | n + 1 => (n + 1) * fac n
noncomputable def pick (t : Nat) : List (Nat × Nat) -> List Nat
  | [] => []
  | (d, c) :: r => bif Nat.blt d t then [] else bif Nat.beq d t then c :: pick t r else pick t r
noncomputable def stOf : List Nat -> List (Nat × Nat)
  | [] => []
  | x :: r => (x / 2, enc (x % 2) (sortN (pick (x / 2 + 1) (stOf r)))) :: stOf r
noncomputable def top (L : List Nat) : Nat := lc (sortN (pick 0 (stOf L)))
noncomputable def stW (w : Nat) (ks : List Nat) : Nat := w * fac ks.length / pc ks
noncomputable def wysOf : List Nat -> Nat
  | [] => 1
  | x :: r => stW (wysOf r) (pick (x / 2 + 1) (stOf r))
noncomputable def wys (L : List Nat) : Nat := stW (wysOf L) (pick 0 (stOf L))
noncomputable def valid : List Nat -> Bool
  | [a, b, c, d, e] => Nat.blt a 2 && Nat.blt (b / 2) (a / 2 + 2) && Nat.blt (c / 2) (b / 2 + 2) && Nat.blt (d / 2) (c / 2 + 2) && Nat.blt (e / 2) (d / 2 + 2)
  | _ => false
noncomputable def below (x : Nat) : List Nat := List.range (2 * (x / 2 + 2))
noncomputable def zjR (a : Nat) : List (List Nat) := (below a).flatMap λ b => (below b).flatMap λ c => (below c).flatMap λ d => (below d).map λ e => [a, b, c, d, e]
noncomputable def allV : List (List Nat) := (List.range 2).flatMap zjR
noncomputable def val : List Nat -> Nat
  | [] => 0
  | x :: r => x + 16 * val r
noncomputable def can (L : List Nat) : Bool := (swQ L).all λ M => Nat.ble (val L) (val M)
noncomputable def bfsQ : Nat -> List (List Nat) -> Nat -> List (List Nat)
  | 0, acc, _ => acc
  | n + 1, acc, p => match acc[p]? with
    | some M => bfsQ n (za2 acc (swQ M)) (p + 1)
    | none => acc
noncomputable def gO2 (t n : Nat) (O : List (List Nat)) : Bool := O.all λ M => Nat.beq (top M) t && Nat.beq (wys M) n
noncomputable def gOd (K : List Nat) : Bool := gO2 (top K) (bfsQ 3000 [K] 0).length (bfsQ 3000 [K] 0)
noncomputable def gAll (L : List Nat) : Bool := (swQ L).all valid && (!can L || gOd L)
noncomputable def maskN : Nat -> List Nat -> Bool
  | _, [] => true
  | m, k :: r => !Nat.testBit m k && maskN (m ||| 2 ^ k) r
theorem zjT {x y : Nat} : y ∈ below x ↔ y / 2 < x / 2 + 2 := by
  unfold below
  rw [List.mem_range]; lia
theorem valid_iff {L : List Nat} : L ∈ allV ↔ valid L = true := by
  unfold allV zjR
  simp only [List.mem_flatMap, List.mem_map, zjT, List.mem_range]
  constructor
  · rintro ⟨a, ha, b, hb, c, hc, d, hd, e, he, rfl⟩
    simp only [valid, Bool.and_eq_true, Nat.blt_eq]
    exact ⟨⟨⟨⟨ha, hb⟩, hc⟩, hd⟩, he⟩
  · intro h
    match L, h with
    | [a, b, c, d, e], h =>
      simp only [valid, Bool.and_eq_true, Nat.blt_eq] at h
      exact ⟨a, h.1.1.1.1, b, h.1.1.1.2, c, h.1.1.2, d, h.1.2, e, h.2, rfl⟩
theorem za0 {L : List Nat} (h : valid L = true) : L.length = 5 := by
  match L, h with
  | [a, b, c, d, e], _ => rfl
theorem zkb : ∀ {l : List Nat} {m : Nat}, maskN m l = true -> (∀ k ∈ l, m.testBit k = false) /\ l.Nodup
  | [], _, _ => ⟨λ k h => (nomatch h), List.nodup_nil⟩
  | k :: r, m, h => by
    rw [maskN, Bool.and_eq_true, Bool.not_eq_true'] at h
    obtain ⟨h1, h2⟩ := zkb h.2
    refine ⟨λ j hj => ?_, List.nodup_cons.mpr ⟨λ hk => ?_, h2⟩⟩
    · rcases List.mem_cons.mp hj with rfl | hj
      · exact h.1
      · have := h1 j hj
        rw [Nat.testBit_or, Bool.or_eq_false_iff] at this
        exact this.1
    · have := h1 k hk
      rw [Nat.testBit_or, Nat.testBit_two_pow_self, Bool.or_true] at this
      cases this
theorem zcY {α β : Type} {f : α -> β} : ∀ {l : List α}, (l.map f).Nodup -> ∀ a ∈ l, ∀ b ∈ l, f a = f b -> a = b
  | [], _, a, ha, _, _, _ => (nomatch ha)
  | x :: l, h, a, ha, b, hb, e => by
    rw [List.map_cons, List.nodup_cons] at h
    rcases List.mem_cons.mp ha with ha | ha <;> rcases List.mem_cons.mp hb with hb | hb
    · rw [ha, hb]
    · exact absurd (List.mem_map_of_mem (f := f) hb) (by rw [<- e, ha]; exact h.1)
    · exact absurd (List.mem_map_of_mem (f := f) ha) (by rw [e, hb]; exact h.1)
    · exact zcY h.2 a ha b hb e
theorem ziI : ∀ {n : Nat} {acc : List (List Nat)} {p : Nat}, (∀ L ∈ acc, L ∈ allV) -> (∀ L ∈ allV, ∀ M ∈ swQ L, M ∈ allV) -> bfs n acc p = bfsQ n acc p
  | 0, acc, p, _, _ => rfl
  | n + 1, acc, p, h, hc => by
    rw [bfs, bfsQ]
    cases hM : acc[p]? with
    | none => rfl
    | some M =>
      have hV := h M (List.mem_of_getElem? hM)
      have e := zcW (za0 (valid_iff.mp hV))
      simp only [e]
      refine ziI (λ N hN => ?_) hc
      rcases zdB hN with h' | h'
      · exact h N h'
      · exact hc M hV N h'
section
variable (hG : ∀ L ∈ allV, gAll L = true) (hN : maskN 0 ((allV.filter can).map λ L => top L % 16757) = true) (h4 : allV.length = 1344)
include hG
theorem cl_V : ∀ L ∈ allV, ∀ M ∈ swQ L, M ∈ allV := λ L hL M hM => by
  have := hG L hL
  unfold gAll at this
  rw [Bool.and_eq_true, List.all_eq_true] at this
  exact valid_iff.mpr (this.1 M hM)
include h4
theorem V_ok : VOk allV := ⟨λ L hL => za0 (valid_iff.mp hL), λ L hL M hM => by
  rw [zcW (za0 (valid_iff.mp hL))] at hM
  exact cl_V hG L hL M hM, by lia⟩
theorem zma {L M : List Nat} (hL : L ∈ allV) (c : Conn L M) : M ∈ allV := by
  induction c with
  | refl => exact hL
  | step _ h ih => exact (V_ok hG h4).cl _ ih _ h
theorem zcA {L M : List Nat} (hL : L ∈ allV) (c : Conn L M) : Conn M L := by
  induction c with
  | refl => exact .refl
  | @step M N c h ih =>
    have hM := zma hG h4 hL c
    have hNV := (V_ok hG h4).cl _ hM _ h
    rw [zcW (za0 (valid_iff.mp hM))] at h
    have h' : M ∈ swaps N := by rw [zcW (za0 (valid_iff.mp hNV))]; exact ziV h
    exact Conn.trans (.step .refl h') ih
theorem zm2 : ∀ (n : Nat) {L : List Nat}, L ∈ allV -> val L ≤ n -> ∃ K, K ∈ allV /\ can K = true /\ Conn L K := by
  intro n
  induction n with
  | zero =>
    intro L hL hn
    refine ⟨L, hL, ?_, .refl⟩
    unfold can
    rw [List.all_eq_true]
    intro M hM
    exact Nat.ble_eq.mpr (by lia)
  | succ n ih =>
    intro L hL hn
    cases hc : can L with
    | true => exact ⟨L, hL, hc, .refl⟩
    | false =>
      have : ∃ M ∈ swQ L, val M < val L := by
        unfold can at hc
        rw [List.all_eq_false] at hc
        obtain ⟨M, hM, h⟩ := hc
        refine ⟨M, hM, ?_⟩
        rw [Nat.ble_eq] at h; lia
      obtain ⟨M, hM, hlt⟩ := this
      have hMV := cl_V hG L hL M hM
      obtain ⟨K, h1, h2, h3⟩ := ih hMV (by lia)
      refine ⟨K, h1, h2, Conn.trans (.step .refl ?_) h3⟩
      rw [zcW (za0 (valid_iff.mp hL))]; exact hM
theorem zdL {L M : List Nat} {R : List (List Nat)} (h : RchOk L R) (c : Conn L M) : M ∈ R := by
  induction c with
  | refl => exact h.self
  | step _ hs ih => exact h.cl _ ih _ hs
theorem zdq {L : List Nat} (hL : L ∈ allV) : ∃ K, K ∈ allV /\ can K = true /\ Conn L K /\ top L = top K /\ wys L = (zap L).length := by
  obtain ⟨K, hK, hc, c⟩ := zm2 hG h4 (val L) hL (Nat.le_refl _)
  have hV := V_ok hG h4
  have rK := zcL hV hK
  have rL := zcL hV hL
  have e : zap K = bfsQ 3000 [K] 0 := ziI (λ M hM => by rw [List.mem_singleton.mp hM]; exact hK) (cl_V hG)
  have g := hG K hK
  unfold gAll at g
  rw [hc, Bool.not_true, Bool.false_or, Bool.and_eq_true] at g
  have g2 := g.2
  unfold gOd gO2 at g2
  rw [<- e, List.all_eq_true] at g2
  have hLK := zdL hG h4 rK (zcA hG h4 hL c)
  have := g2 L hLK
  rw [Bool.and_eq_true, Nat.beq_eq, Nat.beq_eq] at this
  refine ⟨K, hK, hc, c, this.1, this.2.trans (Nat.le_antisymm ?_ ?_)⟩
  · exact zcK rK.nd λ M hM => zdL hG h4 rL (Conn.trans c (rK.conn M hM))
  · exact zcK rL.nd λ M hM => zdL hG h4 rK (Conn.trans (zcA hG h4 hL c) (rL.conn M hM))
theorem zji {L : List Nat} (hL : L ∈ allV) : (zap L).length = wys L := let ⟨_, _, _, _, _, h⟩ := zdq hG h4 hL; h.symm
include hN
theorem zjO {L M : List Nat} (hL : L ∈ allV) (hM : M ∈ allV) : M ∈ zap L ↔ top M = top L := by
  have hV := V_ok hG h4
  have rL := zcL hV hL
  obtain ⟨K, hK, kc, kL, tL, _⟩ := zdq hG h4 hL
  obtain ⟨J, hJ, jc, jM, tM, _⟩ := zdq hG h4 hM
  have inj : ∀ A ∈ allV, can A = true -> ∀ B ∈ allV, can B = true -> top A = top B -> A = B := λ A hA ca B hB cb e =>
    zcY (zkb hN).2 A (List.mem_filter.mpr ⟨hA, ca⟩) B (List.mem_filter.mpr ⟨hB, cb⟩) (by show top A % 16757 = top B % 16757; rw [e])
  constructor
  · intro h
    have c := rL.conn M h
    have rK := zcL hV hK
    obtain ⟨K', hK', kc', kM, tM', _⟩ := zdq hG h4 hM
    have cK : Conn K K' := Conn.trans (Conn.trans (zcA hG h4 hL kL) c) kM
    have e : zap K = bfsQ 3000 [K] 0 := ziI (λ M hM => by rw [List.mem_singleton.mp hM]; exact hK) (cl_V hG)
    have g := hG K hK
    unfold gAll at g
    rw [kc, Bool.not_true, Bool.false_or, Bool.and_eq_true] at g
    have g2 := g.2
    unfold gOd gO2 at g2
    rw [<- e, List.all_eq_true] at g2
    have h1 := g2 M (zdL hG h4 rK (Conn.trans (zcA hG h4 hL kL) c))
    rw [Bool.and_eq_true, Nat.beq_eq] at h1
    rw [h1.1, tL]
  · intro e
    have : J = K := inj J hJ jc K hK kc (by rw [<- tM, e, tL])
    subst this
    exact zdL hG h4 rL (Conn.trans kL (zcA hG h4 hM jM))
end
theorem zb6 : allV.length = 1344 := by decide +kernel
theorem gMask : maskN 0 ((allV.filter can).map λ L => top L % 16757) = true := by decide +kernel
theorem gr0 : ((allV.drop 0).take 96).all gAll = true := by decide +kernel
theorem gr1 : ((allV.drop 96).take 96).all gAll = true := by decide +kernel
theorem gr2 : ((allV.drop 192).take 96).all gAll = true := by decide +kernel
theorem gr3 : ((allV.drop 288).take 96).all gAll = true := by decide +kernel
theorem gr4 : ((allV.drop 384).take 96).all gAll = true := by decide +kernel
theorem gr5 : ((allV.drop 480).take 96).all gAll = true := by decide +kernel
theorem gr6 : ((allV.drop 576).take 96).all gAll = true := by decide +kernel
theorem gr7 : ((allV.drop 672).take 96).all gAll = true := by decide +kernel
theorem gr8 : ((allV.drop 768).take 96).all gAll = true := by decide +kernel
theorem gr9 : ((allV.drop 864).take 96).all gAll = true := by decide +kernel
theorem gr10 : ((allV.drop 960).take 96).all gAll = true := by decide +kernel
theorem gr11 : ((allV.drop 1056).take 96).all gAll = true := by decide +kernel
theorem gr12 : ((allV.drop 1152).take 96).all gAll = true := by decide +kernel
theorem gr13 : ((allV.drop 1248).take 96).all gAll = true := by decide +kernel
theorem zax {α : Type} {p : α -> Bool} (n k : Nat) {l : List α} (h1 : ((l.drop n).take k).all p = true) (h2 : (l.drop (n + k)).all p = true) : (l.drop n).all p = true := by
  rw [<- List.take_append_drop k (l.drop n), List.all_append, h1, List.drop_drop, h2]; rfl
theorem gAllV : ∀ L ∈ allV, gAll L = true := by
  have e : (allV.drop 1344).all gAll = true := by rw [List.drop_of_length_le (by rw [zb6]; exact Nat.le_refl _)]; rfl
  have e := zax 1248 96 gr13 e
  have e := zax 1152 96 gr12 e
  have e := zax 1056 96 gr11 e
  have e := zax 960 96 gr10 e
  have e := zax 864 96 gr9 e
  have e := zax 768 96 gr8 e
  have e := zax 672 96 gr7 e
  have e := zax 576 96 gr6 e
  have e := zax 480 96 gr5 e
  have e := zax 384 96 gr4 e
  have e := zax 288 96 gr3 e
  have e := zax 192 96 gr2 e
  have e := zax 96 96 gr1 e
  have e := zax 0 96 gr0 e
  rw [List.drop_zero] at e
  exact List.all_eq_true.mp e
theorem VOkV : VOk allV := V_ok gAllV zb6
theorem zhT {L : List Nat} (hL : valid L = true) : (zap L).length = wys L := zji gAllV zb6 (valid_iff.mpr hL)
theorem zlj {L M : List Nat} (hL : valid L = true) (hM : valid M = true) : M ∈ zap L ↔ top M = top L := zjO gAllV gMask zb6 (valid_iff.mpr hL) (valid_iff.mpr hM)
end Mine
end
section
open PySem PySem.W PyProof.Rows PySem.StrLaws Builtin.Str
set_option maxRecDepth 10000
namespace Mine
theorem zhr (l : List Nat) {a b : Nat} (hab : a ≤ b) (ha : a ≤ l.length) : Txt.slice (mk l) (some (a : Int)) (some (b : Int)) = mk ((l.drop a).take (b - a)) := by
  by_cases hb : b ≤ l.length
  · exact sliceText_nat (mk l) hab (by rw [zas]; exact hb)
  · have hbl : l.length ≤ b := by lia
    have e : strSliceIndices (some (a : Int)) (some (b : Int)) 1 (mk l).length = strSliceIndices (some (a : Int)) (some ((l.length : Nat) : Int)) 1 (mk l).length := by
      unfold strSliceIndices
      rw [zas]
      have e2 : max (0 : Int) (min (if (b : Int) < 0 then (b : Int) + l.length else b) l.length) = max 0 (min (if (l.length : Int) < 0 then (l.length : Int) + l.length else l.length) l.length) := by
        rw [if_neg (by lia), if_neg (by lia)]; lia
      simp only [show (1 : Int) > 0 by decide, if_true]
      rw [e2]
    have e3 : Txt.slice (mk l) (some (a : Int)) (some (b : Int)) = Txt.slice (mk l) (some (a : Int)) (some ((l.length : Nat) : Int)) := by unfold Txt.slice; rw [e]
    rw [e3]
    have := sliceText_nat (mk l) (a := a) (b := l.length) ha (by rw [zas]; exact Nat.le_refl _)
    refine Eq.trans this ?_
    show mk _ = _
    rw [zaC, List.take_of_length_le (by rw [List.length_drop]; exact Nat.le_refl _), List.take_of_length_le (by rw [List.length_drop]; lia)]
theorem zdP (a b : List Nat) : mk a ++ mk b = mk (a ++ b) := by
  apply zeW
  rw [Str.cps_append, Array.toList_append]; rfl
theorem zok (a : List Nat) (n : Nat) : Txt.mul (mk a) (n : Int) = mk (List.replicate n a).flatten := by
  apply zeW
  unfold Txt.mul
  split
  · have : n = 0 := by lia
    subst this; rfl
  · split
    · rename_i h1 h2
      rw [Bool.or_eq_true, beq_iff_eq, beq_iff_eq] at h2
      rcases h2 with h2 | h2
      · have : n = 1 := by lia
        subst this; simp [mk]
      · rw [zas] at h2
        have : a = [] := List.length_eq_zero_iff.mp h2
        subst this
        simp [mk]
    · rw [Int.toNat_natCast]
      show (List.foldl (λ x1 x2 => x1 ++ x2) #[] (List.replicate n (mk a).cps)).toList = _
      have key : ∀ (k : Nat) (acc : Array Nat), (List.foldl (λ x1 x2 => x1 ++ x2) acc (List.replicate k (mk a).cps)).toList = acc.toList ++ (List.replicate k a).flatten := by
        intro k
        induction k with
        | zero => intro acc; simp
        | succ k ih => intro acc; rw [List.replicate_succ, List.foldl_cons, ih, Array.toList_append, List.replicate_succ, List.flatten_cons, List.append_assoc]; rfl
      rw [key]; rfl
theorem zaD (c n : Nat) : Txt.mul (mk [c]) (n : Int) = mk (List.replicate n c) := by
  rw [zok]
  congr 1
  induction n with
  | zero => rfl
  | succ n ih => rw [List.replicate_succ, List.flatten_cons, ih, List.replicate_succ]; rfl
noncomputable def nmT (n0 n1 : List Nat) (l : Nat) : List Nat := if l = 0 then n0 else n1
noncomputable def sepF (d e : Nat) : List Nat := if d < e then [40] else List.replicate (d - e) 41 ++ [44]
noncomputable def rowTo (L n0 n1 : List Nat) : Nat -> List Nat
  | 0 => nmT n0 n1 (lb L 0)
  | k + 1 => (rowTo L n0 n1 k ++ sepF (dp L k) (dp L (k + 1))) ++ nmT n0 n1 (lb L (k + 1))
noncomputable def rowF (L n0 n1 : List Nat) : List Nat := rowTo L n0 n1 4 ++ List.replicate (dp L 4) 41
theorem zpO : Str.ofString "(" = mk [40] := by decide
theorem zld : Str.ofString ")" = mk [41] := by decide
theorem zpp : Str.ofString "," = mk [44] := by decide
structure Out (L : List Nat) : Prop where
  len : L.length = 5
  dp4 : ∀ k, dp L k ≤ 4
theorem zbJ {L : List Nat} (h : valid L = true) : L.length = 5 /\ dp L 0 = 0 /\ (∀ k, k < 4 -> dp L (k + 1) ≤ dp L k + 1) := by
  match L, h with
  | [a, b, c, d, e], h =>
    simp only [valid, Bool.and_eq_true, Nat.blt_eq] at h
    refine ⟨rfl, ?_, λ k hk => ?_⟩
    · show a / 2 = 0; lia
    · match k, hk with
      | 0, _ => show b / 2 ≤ a / 2 + 1; lia
      | 1, _ => show c / 2 ≤ b / 2 + 1; lia
      | 2, _ => show d / 2 ≤ c / 2 + 1; lia
      | 3, _ => show e / 2 ≤ d / 2 + 1; lia
theorem zj3 : ∀ {L : List Nat} {k : Nat}, L.length ≤ k -> nth L k = 0
  | [], _, _ => rfl
  | x :: L, 0, h => by simp at h
  | x :: L, k + 1, h => by rw [nth]; exact zj3 (by simpa using h)
theorem zbq {L : List Nat} (h : valid L = true) : Out L := by
  obtain ⟨h1, h2, h3⟩ := zbJ h
  refine ⟨h1, λ k => ?_⟩
  by_cases hk : k < 5
  · have a1 : dp L 1 ≤ dp L 0 + 1 := h3 0 (by decide)
    have a2 : dp L 2 ≤ dp L 1 + 1 := h3 1 (by decide)
    have a3 : dp L 3 ≤ dp L 2 + 1 := h3 2 (by decide)
    have a4 : dp L 4 ≤ dp L 3 + 1 := h3 3 (by decide)
    have : k = 0 ∨ k = 1 ∨ k = 2 ∨ k = 3 ∨ k = 4 := by lia
    rcases this with rfl | rfl | rfl | rfl | rfl <;> lia
  · unfold dp; rw [zj3 (by lia)]; decide
theorem zgu {n0 n1 : List Nat} (h0 : n0.length ≤ 3) (h1 : n1.length ≤ 3) (l : Nat) : (nmT n0 n1 l).length ≤ 3 := by unfold nmT; split <;> assumption
theorem zhn {d e : Nat} (h : d ≤ 4) : (sepF d e).length ≤ 5 := by unfold sepF; split <;> simp; lia
theorem zbZ {L n0 n1 : List Nat} (h0 : n0.length ≤ 3) (h1 : n1.length ≤ 3) (hd : ∀ k, dp L k ≤ 4) : ∀ k, (rowTo L n0 n1 k).length ≤ 3 + 8 * k
  | 0 => zgu h0 h1 _
  | k + 1 => by
    have := zbZ h0 h1 hd k
    have a := zhn (e := dp L (k + 1)) (hd k)
    have b := zgu h0 h1 (lb L (k + 1))
    rw [rowTo, List.length_append, List.length_append]; lia
section
variable {tok : Str -> Option Int} {Φ : String -> List D -> Option D} {Ψ : String -> List D -> Option (D × List D)} {σ : Sg} {a b c : T} {r : R}
theorem zcI (L : List Nat) (k : Nat) : lb L k < 2 := Nat.mod_lt _ (by decide)
theorem zmb {n0 n1 : List Nat} {m l : Nat} (h : σ.lookup m = some (.fz (.lst [.str (mk n0), .str (mk n1)]))) (hb : pe tok Φ b σ = some (.d (.int (l : Int)))) (hl : l < 2) : pe tok Φ (.sub (.var m) b) σ = some (.d (.str (mk (nmT n0 n1 l)))) := by
  refine zat (zab h) rfl hb (by lia) ?_
  have : l = 0 ∨ l = 1 := by lia
  rcases this with rfl | rfl <;> rfl
theorem zmN {L n0 n1 : List Nat} (hL : Out L) (hn0 : n0.length ≤ 3) (hn1 : n1.length ≤ 3) : ∃ σ', evs tok Φ Ψ zcN [(0, .fz (ol L)), (1, .fz (.lst [.str (mk n0), .str (mk n1)]))] (.ret (.str (mk (rowF L n0 n1)))) σ' := by
  have loop : ∀ (m k : Nat) (σ : Sg), k + m = 4 -> σ.lookup 0 = some (.fz (ol L)) -> σ.lookup 1 = some (.fz (.lst [.str (mk n0), .str (mk n1)])) -> σ.lookup 2 = some (.fz (.str (mk (rowTo L n0 n1 k)))) ->
      ∃ σ', ForR (.nm 3) (evs tok Φ Ψ [.asg (.nm 2) (.bin .Add (.bin .Add (.var 2) (.ite (.cmp .Gt (.sub (.sub (.var 0) (.var 3)) (.cst (.int 0))) (.sub (.sub (.var 0) (.bin .Sub (.var 3) (.cst (.int 1)))) (.cst (.int 0)))) (.cst (.str "(")) (.bin .Add (.bin .Mult (.cst (.str ")")) (.bin .Sub (.sub (.sub (.var 0) (.bin .Sub (.var 3) (.cst (.int 1)))) (.cst (.int 0))) (.sub (.sub (.var 0) (.var 3)) (.cst (.int 0))))) (.cst (.str ","))))) (.sub (.var 1) (.sub (.sub (.var 0) (.var 3)) (.cst (.int 1)))))])
        ((List.range' (k + 1) m).map λ (i : Nat) => D.int (i : Int)) σ .next σ' /\ σ'.lookup 0 = some (.fz (ol L)) /\ σ'.lookup 2 = some (.fz (.str (mk (rowTo L n0 n1 4)))) := by
    intro m
    induction m with
    | zero =>
      intro k σ hk h0 h1 h2
      have : k = 4 := by lia
      subst this
      exact ⟨σ, .nil, h0, h2⟩
    | succ m ih =>
      intro k σ hk h0 h1 h2
      rw [List.range'_succ, List.map_cons]
      have g0 : ((3, B.fz (.int ((k + 1 : Nat) : Int))) :: σ).lookup 0 = some (.fz (ol L)) := h0
      have g1 : ((3, B.fz (.int ((k + 1 : Nat) : Int))) :: σ).lookup 1 = some (.fz (.lst [.str (mk n0), .str (mk n1)])) := h1
      have g2 : ((3, B.fz (.int ((k + 1 : Nat) : Int))) :: σ).lookup 2 = some (.fz (.str (mk (rowTo L n0 n1 k)))) := h2
      have g3 : ((3, B.fz (.int ((k + 1 : Nat) : Int))) :: σ).lookup 3 = some (.fz (.int ((k + 1 : Nat) : Int))) := zaa
      have hlen := hL.len
      have d1 := zdY (tok := tok) (Φ := Φ) g0 (q_vi g3) (by lia) (by lia)
      have d0 := zdY (tok := tok) (Φ := Φ) (k := k) g0 (zcn (q_vi g3) (q_c (n := 1)) (by lia)) (by lia) (by lia)
      have l1 := zk5 (tok := tok) (Φ := Φ) g0 (q_vi g3) (by lia) (by lia)
      have hd := hL.dp4 k
      have hd1 := hL.dp4 (k + 1)
      have sep : pe tok Φ (.ite (.cmp .Gt (.sub (.sub (.var 0) (.var 3)) (.cst (.int 0))) (.sub (.sub (.var 0) (.bin .Sub (.var 3) (.cst (.int 1)))) (.cst (.int 0)))) (.cst (.str "(")) (.bin .Add (.bin .Mult (.cst (.str ")")) (.bin .Sub (.sub (.sub (.var 0) (.bin .Sub (.var 3) (.cst (.int 1)))) (.cst (.int 0))) (.sub (.sub (.var 0) (.var 3)) (.cst (.int 0))))) (.cst (.str ",")))) ((3, B.fz (.int ((k + 1 : Nat) : Int))) :: σ)
          = some (.d (.str (mk (sepF (dp L k) (dp L (k + 1)))))) := by
        have hc := zmT d1 d0
        by_cases hlt : dp L k < dp L (k + 1)
        · rw [decide_eq_true hlt] at hc
          refine zcH hc (q_cst.trans ?_)
          rw [sepF, if_pos hlt, zpO]
        · rw [decide_eq_false hlt] at hc
          refine zcC hc ((zer (zhe (q_cst (d := .str ")")) (zcn d0 d1 (by lia)) ⟨by decide, by lia, by lia⟩) (q_cst (d := .str ",")) ?_).trans ?_)
          · rw [zld, zaD, zpp, zas, zas, List.length_replicate]; simp; lia
          · rw [zld, zaD, zpp, zdP, sepF, if_neg hlt]
      have hrl := zbZ hn0 hn1 hL.dp4 k
      have hsl := zhn (e := dp L (k + 1)) hd
      have hnl := zgu hn0 hn1 (lb L (k + 1))
      have e := zer (zer (zab g2) sep (by rw [zas, zas]; lia)) (zmb g1 l1 (zcI _ _)) (by rw [zdP, zas, zas, List.length_append]; lia)
      rw [zdP, zdP] at e
      obtain ⟨σ', f, e0, e2⟩ := ih (k + 1) ((2, .fz (.str (mk (rowTo L n0 n1 (k + 1))))) :: (3, B.fz (.int ((k + 1 : Nat) : Int))) :: σ) (by lia) (g0) (g1) zaa
      exact ⟨σ', .next rfl (zad (zaq e) zag) f, e0, e2⟩
  have i0 : List.lookup 0 [(0, B.fz (ol L)), (1, .fz (.lst [.str (mk n0), .str (mk n1)]))] = some (.fz (ol L)) := rfl
  have i1 : List.lookup 1 [(0, B.fz (ol L)), (1, .fz (.lst [.str (mk n0), .str (mk n1)]))] = some (.fz (.lst [.str (mk n0), .str (mk n1)])) := rfl
  have hlen := hL.len
  have e0 := zmb (tok := tok) (Φ := Φ) i1 (zk5 i0 (q_c (n := 0)) (by lia) (by lia)) (zcI _ _)
  obtain ⟨σ', f, k0, k2⟩ := loop 4 0 ((2, .fz (.str (mk (rowTo L n0 n1 0)))) :: [(0, .fz (ol L)), (1, .fz (.lst [.str (mk n0), .str (mk n1)]))]) rfl (i0) (i1) zaa
  have hrl := zbZ hn0 hn1 hL.dp4 4
  have hd := hL.dp4 4
  have er := zer (zab k2) (zhe (tok := tok) (Φ := Φ) (q_cst (d := .str ")")) (zdY k0 (q_c (n := 4)) (by lia) (by lia)) ⟨by decide, by lia, by lia⟩) (by rw [zld, zaD, zas, zas, List.length_replicate]; lia)
  refine ⟨σ', zad (zaq e0) (zad (zci (zkr (m := 1) (n := 5) (by decide) (by decide) q_cst q_cst) f) (zaF (zby (er.trans ?_))))⟩
  rw [zld, zaD, zdP]; rfl
end
inductive Tk where
  | op
  | cl
  | co
  | nm (l : Nat)
noncomputable def Tk.tx (n0 n1 : List Nat) : Tk -> List Nat
  | .op => [40]
  | .cl => [41]
  | .co => [44]
  | .nm l => nmT n0 n1 l
noncomputable def Tk.punct : Tk -> Bool
  | .nm _ => false
  | _ => true
noncomputable def rdT : List Tk -> Int -> List D
  | [], _ => []
  | .op :: r, d => rdT r (d + 1)
  | .cl :: r, d => rdT r (d + -1)
  | .co :: r, d => rdT r (d + 0)
  | .nm l :: r, d => .tup [.int d, .int (l : Int)] :: rdT r d
noncomputable def okT : List Tk -> Prop
  | [] => True
  | .nm l :: r => l < 2 /\ (∀ t, r.head? = some t -> t.punct = true) /\ okT r
  | _ :: r => okT r
structure TokOk (tok : Str -> Option Int) (n0 n1 : List Nat) (i0 i1 : Nat) : Prop where
  op : tok (mk [40]) = some 7
  cl : tok (mk [41]) = some 8
  co : tok (mk [44]) = some 12
  t0 : tok (mk n0) = some (i0 : Int)
  t1 : tok (mk n1) = some (i1 : Int)
  far : ∀ y : List Nat, 2 ≤ y.length -> (40 ∈ y ∨ 41 ∈ y ∨ 44 ∈ y) -> tok (mk y) = none
  l0 : 1 ≤ n0.length /\ n0.length ≤ 3
  l1 : 1 ≤ n1.length /\ n1.length ≤ 3
  r0 : 14 ≤ i0 /\ i0 ≤ 54
  r1 : 14 ≤ i1 /\ i1 ≤ 54
  ne : i0 ≠ i1
theorem zpi (s1 s2 s3 e : Bool) (m : Nat) (hm : 1 ≤ m /\ m ≤ 3) (h1 : m = 1 -> s1 = true /\ s2 = e /\ s3 = e) (h2 : m = 2 -> s2 = true /\ s3 = e) (h3 : m = 3 -> s3 = true) :
    callP "max" [.d (.lst ((if s1 = true then [D.int 1] else []) ++ ((if s2 = true then [D.int 2] else []) ++ (if s3 = true then [D.int 3] else []))))] = some (.int ((if e = true then 3 else m : Nat) : Int)) := by
  have : m = 1 ∨ m = 2 ∨ m = 3 := by lia
  rcases this with rfl | rfl | rfl
  · obtain ⟨a, b, c⟩ := h1 rfl
    rw [a, b, c]
    cases e <;> rfl
  · obtain ⟨a, b⟩ := h2 rfl
    rw [a, b]
    cases s1 <;> cases e <;> rfl
  · have a := h3 rfl
    rw [a]
    cases s1 <;> cases s2 <;> cases e <;> rfl
theorem log2_lt {n : Nat} (h : n < 2 ^ 30) : n.log2 ≤ 30 := by
  by_cases h0 : n = 0
  · subst h0; decide
  · exact Nat.le_of_lt ((Nat.log2_lt h0).mpr h)
theorem zhM {ns : List Int} (h : ∀ i ∈ ns, i.natAbs < 2 ^ 30) (hl : ns.length ≤ 1000) : (PyData.list (ns.map PyData.int)).layable0 = true := by
  have a1 : PyData.canLayAll0 (ns.map PyData.int) = true := by
    clear h hl
    induction ns with
    | nil => rfl
    | cons i ns ih => rw [List.map_cons, PyData.canLayAll0, ih]; rfl
  have a2 : PyData.depthAll (ns.map PyData.int) = 0 := by
    clear h hl a1
    induction ns with
    | nil => rfl
    | cons i ns ih => rw [List.map_cons, PyData.depthAll, ih]; rfl
  have a3 : PyData.weightAll (ns.map PyData.int) ≤ ns.length * 40 := by
    clear hl a1 a2
    induction ns with
    | nil => simp [PyData.weightAll]
    | cons i ns ih =>
      rw [List.map_cons, PyData.weightAll, List.length_cons, Nat.succ_mul]
      have := ih λ j hj => h j (.tail _ hj)
      have h1 : PyData.weight (.int i) ≤ 31 := by
        rw [PyData.weight]
        split
        · lia
        · have := log2_lt (h i (.head _)); lia
      lia
  unfold PyData.layable0
  rw [Bool.and_eq_true, Bool.and_eq_true]
  refine ⟨⟨by rw [PyData.canLay0]; exact a1, decide_eq_true ?_⟩, decide_eq_true ?_⟩
  · rw [PyData.depth, a2]; decide
  · rw [PyData.weight]
    refine Nat.le_trans a3 ?_
    lia
theorem zeD {tok : Str -> Option Int} {n0 n1 : List Nat} {i0 i1 : Nat} (K : TokOk tok n0 n1 i0 i1) (t : Tk) : 1 ≤ (t.tx n0 n1).length /\ (t.tx n0 n1).length ≤ 3 := by
  cases t with
  | nm l =>
    show 1 ≤ (nmT n0 n1 l).length /\ (nmT n0 n1 l).length ≤ 3
    unfold nmT; split
    · exact K.l0
    · exact K.l1
  | _ => show 1 ≤ 1 /\ 1 ≤ 3; decide
noncomputable def Tk.num (i0 i1 : Nat) : Tk -> Nat
  | .op => 7
  | .cl => 8
  | .co => 12
  | .nm l => if l = 0 then i0 else i1
theorem ziC {tok : Str -> Option Int} {n0 n1 : List Nat} {i0 i1 : Nat} (K : TokOk tok n0 n1 i0 i1) (t : Tk) : tok (mk (t.tx n0 n1)) = some ((t.num i0 i1 : Nat) : Int) := by
  cases t with
  | nm l =>
    show tok (mk (nmT n0 n1 l)) = some (((if l = 0 then i0 else i1 : Nat) : Nat) : Int)
    unfold nmT; split
    · exact K.t0
    · exact K.t1
  | op => exact K.op
  | cl => exact K.cl
  | co => exact K.co
section
variable {tok : Str -> Option Int} {Φ : String -> List D -> Option D} {Ψ : String -> List D -> Option (D × List D)} {σ : Sg} {n0 n1 : List Nat} {i0 i1 : Nat}
noncomputable def cmpT : T := .lc (.nm 19) (.pln (.tup [.cst (.int 1), .cst (.int 2), .cst (.int 3)])) (.all_ .And [.cmp .In (.slc (.var 2) (.var 5) (.bin .Add (.var 5) (.var 19)) (.cst (.none))) (.cst (.fn "EXACT_TOKEN_TYPES"))]) (.yld (.var 19)) [5, 2]
theorem flat3 {g : D -> List D} (a b c : D) : ([a, b, c] : List D).flatMap g = g a ++ (g b ++ g c) := by simp
theorem zk7 (K : TokOk tok n0 n1 i0 i1) {T : List Nat} {t : Tk} {rest : List Nat} {p : Nat} (hT : T.length ≤ 2000) (hp : T.drop p = t.tx n0 n1 ++ rest) (ht : t.punct = false -> ∀ c, rest.head? = some c -> c = 40 ∨ c = 41 ∨ c = 44)
    (h2 : σ.lookup 2 = some (.fz (.str (mk T)))) (h5 : σ.lookup 5 = some (.fz (.int (p : Int)))) :
    pe tok Φ (.call (.cst (.fn "max")) [cmpT]) σ = some (.d (.int ((if rest = [] then 3 else (t.tx n0 n1).length : Nat) : Int))) := by
  have hpl : p ≤ T.length := by
    by_cases h : p ≤ T.length
    · exact h
    · rw [List.drop_of_length_le (by lia)] at hp
      have := (zeD K t).1
      have := congrArg List.length hp
      rw [List.length_append, List.length_nil] at this; lia
  let S : Nat -> Bool := λ k => (tok (mk ((T.drop p).take k))).isSome
  have hlc : pe tok Φ cmpT σ = some (.d (.lst (([.int 1, .int 2, .int 3] : List D).flatMap λ d => match d with | .int k => if S k.toNat = true then [d] else [] | _ => []))) := by
    refine q_lc (items := [.int 1, .int 2, .int 3]) ?_ (λ d hd => ?_) ?_
    · exact zhs (zbc (ds := [.int 1, .int 2, .int 3]) (zak q_cst (zak q_cst (zaB q_cst))))
    · have one : ∀ k : Nat, d = .int (k : Int) -> ∃ τ b, pb (.nm 19) d (σ.filter λ q => [5, 2].contains q.1) = some τ /\ pe tok Φ (.all_ .And [.cmp .In (.slc (.var 2) (.var 5) (.bin .Add (.var 5) (.var 19)) (.cst (.none))) (.cst (.fn "EXACT_TOKEN_TYPES"))]) τ = some (.d (.bool b)) /\
          (b = true -> pgen tok Φ (.yld (.var 19)) τ = some (match d with | .int k => if S k.toNat = true then [d] else [] | _ => [])) /\ (b = false -> (match d with | .int k => if S k.toNat = true then [d] else [] | _ => []) = []) := by
        rintro k rfl
        have g19 : List.lookup 19 ((19, B.fz (.int (k : Int))) :: σ.filter λ q => [5, 2].contains q.1) = some (.fz (.int (k : Int))) := zaa
        have g2 : List.lookup 2 ((19, B.fz (.int (k : Int))) :: σ.filter λ q => [5, 2].contains q.1) = some (.fz (.str (mk T))) := (zal rfl).trans (h2)
        have g5 : List.lookup 5 ((19, B.fz (.int (k : Int))) :: σ.filter λ q => [5, 2].contains q.1) = some (.fz (.int (p : Int))) := (zal rfl).trans (h5)
        have e := zmM (tok := tok) (Φ := Φ) (zpf (zab g2) (q_vi g5) (zao (q_vi g5) (q_vi g19)) (by rw [zas]; lia))
        rw [zhr T (by lia) hpl, Nat.add_sub_cancel_left] at e
        have ea := zdv (zf2 (es := []) (u := true) e λ _ => zcm)
        rw [Bool.and_true] at ea
        refine ⟨_, S k, rfl, ea, λ hb => ?_, λ hb => ?_⟩
        · refine (zlv (zab g19)).trans ?_
          show some [D.int (k : Int)] = some (if S ((k : Int).toNat) = true then [D.int (k : Int)] else [])
          rw [Int.toNat_natCast, if_pos hb]
        · show (if S ((k : Int).toNat) = true then [D.int (k : Int)] else []) = []
          rw [Int.toNat_natCast, if_neg (by rw [hb]; decide)]
      simp only [List.mem_cons, List.not_mem_nil, or_false] at hd
      rcases hd with rfl | rfl | rfl
      · exact one 1 rfl
      · exact one 2 rfl
      · exact one 3 rfl
    · rw [flat3]
      have : ∀ d : D, (match d with | .int k => if S k.toNat = true then [d] else [] | _ => ([] : List D)).length ≤ 1 := by
        intro d; split
        · split <;> simp
        · simp
      rw [List.length_append, List.length_append]
      have a1 := this (.int 1)
      have a2 := this (.int 2)
      have a3 := this (.int 3)
      lia
  refine q_bi rfl (zaB hlc) ?_
  rw [flat3]
  have hm := zeD K t
  have htk : ∀ k, (t.tx n0 n1).length ≤ k -> (T.drop p).take k = t.tx n0 n1 ++ rest.take (k - (t.tx n0 n1).length) := λ k hk => by rw [hp, List.take_append, List.take_of_length_le hk]
  have sm : S (t.tx n0 n1).length = true := by
    show (tok (mk _)).isSome = true
    rw [htk _ (Nat.le_refl _), Nat.sub_self, List.take_zero, List.append_nil, ziC K t]; rfl
  have sk : ∀ k, (t.tx n0 n1).length < k -> S k = decide (rest = []) := λ k hk => by
    show (tok (mk _)).isSome = _
    rw [htk k (Nat.le_of_lt hk)]
    cases rest with
    | nil => rw [List.take_nil, List.append_nil, ziC K t]; rfl
    | cons c r =>
      have e : (c :: r).take (k - (t.tx n0 n1).length) = c :: r.take (k - (t.tx n0 n1).length - 1) := by
        cases hj : k - (t.tx n0 n1).length with
        | zero => lia
        | succ j => simp
      rw [e, K.far _ (by simp; lia) ?_]
      · simp
      · cases hpc : t.punct with
        | false =>
          have := ht hpc c rfl
          rcases this with rfl | rfl | rfl <;> simp
        | true => cases t <;> simp [Tk.tx, Tk.punct] at hpc ⊢
  have key := zpi (S 1) (S 2) (S 3) (decide (rest = [])) (t.tx n0 n1).length hm
    (λ h => ⟨h ▸ sm, sk 2 (by lia), sk 3 (by lia)⟩) (λ h => ⟨h ▸ sm, sk 3 (by lia)⟩) (λ h => h ▸ sm)
  refine Eq.trans key ?_
  congr 3
  by_cases h : rest = [] <;> simp [h]
end
section
variable {tok : Str -> Option Int} {Φ : String -> List D -> Option D} {Ψ : String -> List D -> Option (D × List D)} {σ : Sg} {n0 n1 : List Nat} {i0 i1 : Nat}
structure RdSt (σ : Sg) (T : List Nat) (i0 i1 : Nat) (lines : List D) (d : Int) (p : Nat) : Prop where
  nums : σ.lookup 1 = some (.fz (.lst [.int (i0 : Int), .int (i1 : Int)]))
  text : σ.lookup 2 = some (.fz (.str (mk T)))
  lines : σ.lookup 3 = some (.own lines)
  depth : σ.lookup 4 = some (.fz (.int d))
  place : σ.lookup 5 = some (.fz (.int (p : Int)))
noncomputable def Tk.sym : Tk -> Nat
  | .op => 7
  | .cl => 8
  | .co => 12
  | .nm l => 256 + l
noncomputable def Tk.lines (t : Tk) (lines : List D) (d : Int) : List D := match t with
  | .nm l => lines ++ [.tup [.int d, .int (l : Int)]]
  | _ => lines
noncomputable def Tk.dep (t : Tk) (d : Int) : Int := match t with
  | .op => d + 1
  | .cl => d + -1
  | .co => d + 0
  | .nm _ => d
noncomputable def zhc : List X := [.asg (.nm 6) (.bin .Add (.var 5) (.call (.cst (.fn "max")) [cmpT])),
  .asg (.nm 7) (.sub (.cst (.fn "EXACT_TOKEN_TYPES")) (.slc (.var 2) (.var 5) (.var 6) (.cst (.none)))),
  .asg (.nm 8) (.ite (.cmp .In (.var 7) (.tup [.cst (.int 7), .cst (.int 8), .cst (.int 12)])) (.var 7) (.bin .Add (.cst (.int 256)) (.meth "index" (.var 1) [.var 7]))),
  .iff (.all_ .And [.call (.cst (.fn "ISNONTERMINAL")) [.var 8], .not_ (.call (.cst (.fn "ISTERMINAL")) [.var 8])]) [.app 3 (.tup [.var 4, .bin .Sub (.var 8) (.cst (.int 256))])] [.iff (.all_ .And [.call (.cst (.fn "ISTERMINAL")) [.var 8], .not_ (.call (.cst (.fn "ISNONTERMINAL")) [.var 8])]) [.asg (.nm 4) (.bin .Add (.var 4) (.ite (.cmp .Eq (.var 8) (.cst (.int 7))) (.cst (.int 1)) (.ite (.cmp .Eq (.var 8) (.cst (.int 8))) (.neg (.cst (.int 1))) (.cst (.int 0)))))] []],
  .asg (.nm 5) (.var 6)]
theorem zjg (K : TokOk tok n0 n1 i0 i1) (hN : ∀ i : Int, Φ "ISNONTERMINAL" [.int i] = some (.bool (decide (256 ≤ i)))) (hT : ∀ i : Int, Φ "ISTERMINAL" [.int i] = some (.bool (decide (i < 256)))) {T : List Nat} {t : Tk} {rest : List Nat} {p : Nat} {lines : List D} {d : Int}
    (hTl : T.length ≤ 2000) (hll : lines.length ≤ 2000) (hp : T.drop p = t.tx n0 n1 ++ rest) (ht : t.punct = false -> ∀ c, rest.head? = some c -> c = 40 ∨ c = 41 ∨ c = 44) (hl : ∀ l, t = .nm l -> l < 2) (S : RdSt σ T i0 i1 lines d p) :
    ∃ σ', evs tok Φ Ψ zhc σ .next σ' /\ RdSt σ' T i0 i1 (t.lines lines d) (t.dep d) (p + if rest = [] then 3 else (t.tx n0 n1).length) := by
  have hpl : p ≤ T.length := by
    by_cases h : p ≤ T.length
    · exact h
    · rw [List.drop_of_length_le (by lia)] at hp
      have := (zeD K t).1
      have := congrArg List.length hp
      rw [List.length_append, List.length_nil] at this; lia
  have hm := zeD K t
  have e6 := zao (q_vi S.place) (zk7 (Φ := Φ) K hTl hp ht S.text S.place)
  generalize hq : (p + if rest = [] then 3 else (t.tx n0 n1).length) = q at e6
  have hpq : p ≤ q := by lia
  have cut : (T.drop p).take (q - p) = t.tx n0 n1 := by
    rw [<- hq, Nat.add_sub_cancel_left, hp]
    by_cases h : rest = []
    · rw [if_pos h, h, List.append_nil, List.take_of_length_le (by lia)]
    · rw [if_neg h, List.take_left]
  have a1 : ((6, B.fz (.int (q : Int))) :: σ).lookup 2 = some (.fz (.str (mk T))) := S.text
  have a5 : ((6, B.fz (.int (q : Int))) :: σ).lookup 5 = some (.fz (.int (p : Int))) := S.place
  have es := zpf (tok := tok) (Φ := Φ) (zab a1) (q_vi a5) (q_vi (k := q) zaa) (by rw [zas]; lia)
  rw [zhr T hpq hpl, cut] at es
  have e7 := zpD es (ziC K t)
  generalize hn : t.num i0 i1 = n at e7
  have b7 : ((7, B.fz (.int (n : Int))) :: (6, B.fz (.int (q : Int))) :: σ).lookup 7 = some (.fz (.int (n : Int))) := zaa
  have b1 : ((7, B.fz (.int (n : Int))) :: (6, B.fz (.int (q : Int))) :: σ).lookup 1 = some (.fz (.lst [.int (i0 : Int), .int (i1 : Int)])) := S.nums
  have e8 : pe tok Φ (.ite (.cmp .In (.var 7) (.tup [.cst (.int 7), .cst (.int 8), .cst (.int 12)])) (.var 7) (.bin .Add (.cst (.int 256)) (.meth "index" (.var 1) [.var 7]))) ((7, B.fz (.int (n : Int))) :: (6, B.fz (.int (q : Int))) :: σ) = some (.d (.int ((t.sym : Nat) : Int))) := by
    have ei := zn5 (tok := tok) (Φ := Φ) (zab b7) (zbc (ds := [.int 7, .int 8, .int 12]) (zak q_cst (zak q_cst (zaB q_cst)))) rfl (by rfl) (by rfl)
    have nope : ∀ k : Nat, 14 ≤ k -> (([D.int 7, .int 8, .int 12] : List D).any λ y => D.eqb y (.int (k : Int))) = false := by
      intro k hk
      show ((7 : Int) == (k : Int) || ((8 : Int) == (k : Int) || ((12 : Int) == (k : Int) || false))) = false
      simp only [Bool.or_false, Bool.or_eq_false_iff, beq_eq_false_iff_ne]
      lia
    have hns : (([D.int (i0 : Int), .int (i1 : Int)] : List D)) = ([(i0 : Int), (i1 : Int)] : List Int).map .int := rfl
    have hlay : (PyData.list (([(i0 : Int), (i1 : Int)] : List Int).map PyData.int)).layable0 = true := zhM (λ i hi => by
      have := K.r0.2; have := K.r1.2
      simp only [List.mem_cons, List.not_mem_nil, or_false] at hi
      rcases hi with rfl | rfl <;> simp <;> lia) (by simp)
    cases t with
    | op => subst hn; exact zcH (ei.trans rfl) (zab b7)
    | cl => subst hn; exact zcH (ei.trans rfl) (zab b7)
    | co => subst hn; exact zcH (ei.trans rfl) (zab b7)
    | nm l =>
      have hl2 := hl l rfl
      have : l = 0 ∨ l = 1 := by lia
      rcases this with rfl | rfl
      · have hn' : i0 = n := hn
        subst hn'
        rw [nope i0 K.r0.1] at ei
        have := zkt (q_cst (tok := tok) (Φ := Φ) (d := .int 256)) (zfg (ns := [(i0 : Int), (i1 : Int)]) (zab b1) (zab b7) hlay (by simp))
        refine zcC ei (this.trans ?_)
        simp [Tk.sym]
      · have hn' : i1 = n := hn
        subst hn'
        rw [nope i1 K.r1.1] at ei
        have := zkt (q_cst (tok := tok) (Φ := Φ) (d := .int 256)) (zfg (ns := [(i0 : Int), (i1 : Int)]) (zab b1) (zab b7) hlay (by simp))
        refine zcC ei (this.trans ?_)
        have hne : ((i0 : Int) == (i1 : Int)) = false := beq_eq_false_iff_ne.mpr (by have := K.ne; lia)
        simp [Tk.sym, List.idxOf_cons, hne]
  generalize hs : t.sym = s at e8
  generalize hσ8 : ((8, B.fz (.int (s : Int))) :: (7, B.fz (.int (n : Int))) :: (6, B.fz (.int (q : Int))) :: σ) = σ8
  have c8 : σ8.lookup 8 = some (.fz (.int (s : Int))) := by rw [<- hσ8]; exact zaa
  have c6 : σ8.lookup 6 = some (.fz (.int (q : Int))) := by rw [<- hσ8, zaf rfl, zaf rfl]; exact zaa
  have c1 : σ8.lookup 1 = some (.fz (.lst [.int (i0 : Int), .int (i1 : Int)])) := by rw [<- hσ8, zaf rfl]; exact b1
  have c2 : σ8.lookup 2 = some (.fz (.str (mk T))) := by rw [<- hσ8, zaf rfl, zaf rfl]; exact a1
  have c3 : σ8.lookup 3 = some (.own lines) := by rw [<- hσ8, zaf rfl, zaf rfl, zaf rfl]; exact S.lines
  have c4 : σ8.lookup 4 = some (.fz (.int d)) := by rw [<- hσ8, zaf rfl, zaf rfl, zaf rfl]; exact S.depth
  have eN : pe tok Φ (.call (.cst (.fn "ISNONTERMINAL")) [.var 8]) σ8 = some (.d (.bool (decide (256 ≤ (s : Int))))) := zaK (ds := [.int (s : Int)]) rfl (zaB (zab c8)) (hN _)
  have eT : pe tok Φ (.call (.cst (.fn "ISTERMINAL")) [.var 8]) σ8 = some (.d (.bool (decide ((s : Int) < 256)))) := zaK (ds := [.int (s : Int)]) rfl (zaB (zab c8)) (hT _)
  have start : ∀ {σ9 σ'}, ev1 tok Φ Ψ (.iff (.all_ .And [.call (.cst (.fn "ISNONTERMINAL")) [.var 8], .not_ (.call (.cst (.fn "ISTERMINAL")) [.var 8])]) [.app 3 (.tup [.var 4, .bin .Sub (.var 8) (.cst (.int 256))])] [.iff (.all_ .And [.call (.cst (.fn "ISTERMINAL")) [.var 8], .not_ (.call (.cst (.fn "ISNONTERMINAL")) [.var 8])]) [.asg (.nm 4) (.bin .Add (.var 4) (.ite (.cmp .Eq (.var 8) (.cst (.int 7))) (.cst (.int 1)) (.ite (.cmp .Eq (.var 8) (.cst (.int 8))) (.neg (.cst (.int 1))) (.cst (.int 0)))))] []]) σ8 .next σ9 ->
      σ9.lookup 6 = some (.fz (.int (q : Int))) -> σ' = (5, B.fz (.int (q : Int))) :: σ9 -> evs tok Φ Ψ zhc σ .next σ' := λ h9 h6 h => by
    subst h
    exact zad (zaq e6) (zad (zaq e7) (zad (zaq e8) (by rw [hσ8]; exact zad h9 (zad (zaq (zab h6)) zag))))
  have punct : t.punct = true -> (s = 7 ∨ s = 8 ∨ s = 12) -> (pe tok Φ (.ite (.cmp .Eq (.var 8) (.cst (.int 7))) (.cst (.int 1)) (.ite (.cmp .Eq (.var 8) (.cst (.int 8))) (.neg (.cst (.int 1))) (.cst (.int 0)))) σ8 = some (.d (.int (if s = 7 then 1 else if s = 8 then -1 else 0)))) ->
      ∃ σ', evs tok Φ Ψ zhc σ .next σ' /\ RdSt σ' T i0 i1 lines (d + (if s = 7 then 1 else if s = 8 then -1 else 0)) q := λ _ h hx => by
    have h1 : ¬ (256 ≤ (s : Int)) := by lia
    have h2 : (s : Int) < 256 := by lia
    rw [decide_eq_false h1] at eN
    rw [decide_eq_true h2] at eT
    have c1' := zde (b := .not_ (.call (.cst (.fn "ISTERMINAL")) [.var 8])) (u := false) eN (λ h => by cases h)
    have c2' := zde eT (λ _ => znQ eN)
    refine ⟨_, start (zc0 c1' (zad (zdi c2' (zad (zaq (zkt (zab c4) hx)) zag)) zag)) (c6) rfl, ?_⟩
    exact ⟨c1, c2, c3, rfl, zaa⟩
  cases t with
  | op =>
    have h7 : s = 7 := hs.symm
    have := punct rfl (.inl h7) (by subst h7; exact zcH (zd0 (q_vi c8) (q_c (n := 7))) q_cst)
    subst h7; exact this
  | cl =>
    have h7 : s = 8 := hs.symm
    have := punct rfl (.inr (.inl h7)) (by subst h7; exact zcC (zd0 (q_vi c8) (q_c (n := 7))) (zcH (zd0 (q_vi c8) (q_c (n := 8))) (zmX q_cst)))
    subst h7; exact this
  | co =>
    have h7 : s = 12 := hs.symm
    have := punct rfl (.inr (.inr h7)) (by subst h7; exact zcC (zd0 (q_vi c8) (q_c (n := 7))) (zcC (zd0 (q_vi c8) (q_c (n := 8))) q_cst))
    subst h7; exact this
  | nm l =>
    have h7 : s = 256 + l := hs.symm
    subst h7
    have h1 : 256 ≤ ((256 + l : Nat) : Int) := by lia
    have h2 : ¬ (((256 + l : Nat) : Int) < 256) := by lia
    rw [decide_eq_true h1] at eN
    rw [decide_eq_false h2] at eT
    have c1' := zde eN (λ _ => znQ eT)
    have et : pe tok Φ (.tup [.var 4, .bin .Sub (.var 8) (.cst (.int 256))]) σ8 = some (.d (.tup [.int d, .int (l : Int)])) := by
      have := zcn (q_vi c8) (q_c (tok := tok) (Φ := Φ) (n := 256)) (by lia)
      rw [Nat.add_sub_cancel_left] at this
      exact zbc (ds := [.int d, .int (l : Int)]) (zau (zab c4) this)
    refine ⟨_, start (zdi c1' (zad (zej c3 et (by lia)) zag)) (c6) rfl, ?_⟩
    exact ⟨c1, c2, rfl, c4, zaa⟩
theorem zfO (K : TokOk tok n0 n1 i0 i1) (hN : ∀ i : Int, Φ "ISNONTERMINAL" [.int i] = some (.bool (decide (256 ≤ i)))) (hT : ∀ i : Int, Φ "ISTERMINAL" [.int i] = some (.bool (decide (i < 256)))) {T : List Nat} (hTl : T.length ≤ 1000) : ∀ (ts : List Tk) (p : Nat) (lines : List D) (d : Int) (σ : Sg),
    okT ts -> T.drop p = ts.flatMap (Tk.tx n0 n1) -> p ≤ T.length + 3 -> lines.length + ts.length ≤ 2000 -> RdSt σ T i0 i1 lines d p -> ∃ σ', WhileR (pe tok Φ (.cmp .Lt (.var 5) (.call (.cst (.fn "len")) [.var 2]))) (evs tok Φ Ψ zhc) σ .next σ' /\ σ'.lookup 3 = some (.own (lines ++ rdT ts d))
  | [], p, lines, d, σ, _, hp, hp3, _, S => by
    have hc := q_lt (tok := tok) (Φ := Φ) (zab S.place) (zl8 (zab S.text) (by rw [zas]; lia))
    have : ¬ ((p : Int) < ((mk T).length : Int)) := by
      have := congrArg List.length hp
      rw [List.length_drop] at this
      simp at this
      rw [zas]; lia
    rw [decide_eq_false this] at hc
    exact ⟨σ, .stop hc, by rw [rdT, List.append_nil]; exact S.lines⟩
  | t :: ts, p, lines, d, σ, ho, hp, hp3, hl, S => by
    have hm := zeD K t
    rw [List.flatMap_cons] at hp
    have hlen := congrArg List.length hp
    rw [List.length_drop, List.length_append] at hlen
    have hc := q_lt (tok := tok) (Φ := Φ) (zab S.place) (zl8 (zab S.text) (by rw [zas]; lia))
    have : (p : Int) < ((mk T).length : Int) := by rw [zas]; lia
    rw [decide_eq_true this] at hc
    have hnext : okT ts /\ (∀ l, t = .nm l -> l < 2) /\ (t.punct = false -> ∀ c, (ts.flatMap (Tk.tx n0 n1)).head? = some c -> c = 40 ∨ c = 41 ∨ c = 44) := by
      cases t with
      | nm l =>
        refine ⟨ho.2.2, λ k h => by cases h; exact ho.1, λ _ c hcd => ?_⟩
        cases ts with
        | nil => cases hcd
        | cons u us =>
          have hu := ho.2.1 u rfl
          cases u with
          | nm _ => cases hu
          | op => left; simpa [Tk.tx] using hcd.symm
          | cl => right; left; simpa [Tk.tx] using hcd.symm
          | co => right; right; simpa [Tk.tx] using hcd.symm
      | _ => exact ⟨ho, (λ l h => nomatch h), λ h => nomatch h⟩
    rw [List.length_cons] at hl
    obtain ⟨σ₁, e1, S₁⟩ := zjg (Ψ := Ψ) K hN hT (by lia) (by lia) hp hnext.2.2 hnext.2.1 S
    have hdrop : T.drop (p + if ts.flatMap (Tk.tx n0 n1) = [] then 3 else (t.tx n0 n1).length) = ts.flatMap (Tk.tx n0 n1) := by
      rw [<- List.drop_drop, hp]
      by_cases h : ts.flatMap (Tk.tx n0 n1) = []
      · rw [if_pos h, h, List.append_nil, List.drop_of_length_le (by lia)]
      · rw [if_neg h, List.drop_left]
    have hll : (t.lines lines d).length ≤ lines.length + 1 := by cases t <;> simp [Tk.lines]
    obtain ⟨σ', w, e⟩ := zfO K hN hT hTl ts _ _ _ σ₁ hnext.1 hdrop (by split <;> lia) (by lia) S₁
    refine ⟨σ', .next hc e1 w, ?_⟩
    rw [e]
    cases t <;> simp [Tk.lines, Tk.dep, rdT]
end
noncomputable def sepK (d e : Nat) : List Tk := if d < e then [.op] else List.replicate (d - e) .cl ++ [.co]
noncomputable def rowR (L : List Nat) : Nat -> Nat -> List Tk
  | 0, k => .nm (lb L k) :: List.replicate (dp L k) .cl
  | n + 1, k => .nm (lb L k) :: (sepK (dp L k) (dp L (k + 1)) ++ rowR L n (k + 1))
theorem zmk (n0 n1 : List Nat) (n : Nat) : (List.replicate n Tk.cl).flatMap (Tk.tx n0 n1) = List.replicate n 41 := by
  induction n with
  | zero => rfl
  | succ n ih => rw [List.replicate_succ, List.flatMap_cons, ih, List.replicate_succ]; rfl
theorem zoC (n0 n1 : List Nat) (d e : Nat) : (sepK d e).flatMap (Tk.tx n0 n1) = sepF d e := by
  unfold sepK sepF
  split
  · rfl
  · rw [List.flatMap_append, zmk]; rfl
theorem zoe (L n0 n1 : List Nat) : (rowR L 4 0).flatMap (Tk.tx n0 n1) = rowF L n0 n1 := by
  have nm : ∀ l, Tk.tx n0 n1 (.nm l) = nmT n0 n1 l := λ l => rfl
  simp only [rowR, List.flatMap_cons, List.flatMap_append, zoC, zmk, nm, rowF, rowTo, List.append_assoc]
theorem zlH : ∀ (n : Nat), okT (List.replicate n Tk.cl)
  | 0 => trivial
  | n + 1 => zlH n
theorem zn2 {n : Nat} {t : Tk} {r : List Tk} (ht : t.punct = true) (h : okT r) : okT (List.replicate n Tk.cl ++ t :: r) := by
  induction n with
  | zero => cases t <;> first | exact h | cases ht
  | succ n ih => exact ih
theorem zlG (L : List Nat) : ∀ (n k : Nat), okT (rowR L n k)
  | 0, k => ⟨zcI L k, λ t h => by
      cases hd : dp L k with
      | zero => rw [hd] at h; cases h
      | succ m => rw [hd] at h; cases h; rfl, zlH _⟩
  | n + 1, k => by
    have ih := zlG L n (k + 1)
    refine ⟨zcI L k, ?_, ?_⟩
    · intro t h
      unfold sepK at h
      split at h
      · cases h; rfl
      · cases hd : dp L k - dp L (k + 1) with
        | zero => rw [hd] at h; cases h; rfl
        | succ m => rw [hd] at h; cases h; rfl
    · unfold sepK
      split
      · exact ih
      · rw [List.append_assoc]
        exact zn2 rfl ih
theorem zmj (n : Nat) (d : Int) (r : List Tk) : rdT (List.replicate n Tk.cl ++ r) d = rdT r (d - n) := by
  induction n generalizing d with
  | zero => simp
  | succ n ih =>
    rw [List.replicate_succ, List.cons_append, rdT, ih]
    congr 1; lia
theorem znK {d e : Nat} (h : e ≤ d + 1) (r : List Tk) : rdT (sepK d e ++ r) (d : Int) = rdT r (e : Int) := by
  unfold sepK
  split
  · show rdT r ((d : Int) + 1) = _
    congr 1; lia
  · rw [List.append_assoc, zmj]
    show rdT r (_ + 0) = _
    congr 1; lia
theorem zlP {L : List Nat} (h : ∀ k, k < 4 -> dp L (k + 1) ≤ dp L k + 1) : ∀ (n k : Nat), k + n = 4 -> rdT (rowR L n k) (dp L k : Int) = (List.range' k (n + 1)).map λ (i : Nat) => ln (nth L i)
  | 0, k, _ => by
    rw [rowR, rdT]
    have := zmj (dp L k) (dp L k) []
    rw [List.append_nil] at this
    rw [this]; rfl
  | n + 1, k, hk => by
    rw [rowR, rdT, znK (h k (by lia)), zlP h n (k + 1) (by lia)]
    rfl
theorem znp {L : List Nat} (hL : L.length = 5) : ((List.range' 0 5).map λ (i : Nat) => ln (nth L i)) = L.map ln := by
  match L, hL with
  | [a, b, c, d, e], _ => rfl
theorem zoz {L : List Nat} (h : valid L = true) : rdT (rowR L 4 0) 0 = L.map ln := by
  obtain ⟨h1, h2, h3⟩ := zbJ h
  have := zlP h3 4 0 rfl
  rw [h2] at this
  exact this.trans (znp h1)
theorem zlO {tok : Str -> Option Int} {n0 n1 : List Nat} {i0 i1 : Nat} (K : TokOk tok n0 n1 i0 i1) : ∀ ts : List Tk, ts.length ≤ (ts.flatMap (Tk.tx n0 n1)).length
  | [] => Nat.le_refl _
  | t :: ts => by
    have := zlO K ts
    have := (zeD K t).1
    rw [List.flatMap_cons, List.length_append, List.length_cons]; lia
theorem zfc {f : Nat -> List Nat} {B : Nat} (h : ∀ c, (f c).length ≤ B) (l : List Nat) : (l.flatMap f).length ≤ l.length * B := by
  rw [List.length_flatMap]
  exact zen λ c _ => h c
theorem zm7 (k c : Nat) : (ch1 k c).length ≤ 5 := by
  unfold ch1
  repeat' split
  all_goals first | decide | simp
theorem znz (c : Nat) : (ch2 c).length ≤ 5 := by unfold ch2; split <;> first | decide | simp
section
variable {tok : Str -> Option Int} {Φ : String -> List D -> Option D} {Ψ : String -> List D -> Option (D × List D)} {σ : Sg} {n0 n1 : List Nat} {i0 i1 : Nat} {a : T}
theorem zgP {x y z : Str} (h : pe tok Φ a σ = some (.d (.str x))) (hne : (y == z) = false) (hs : x.length + (x.length + 1) * z.length ≤ 2 ^ 20) : pe tok Φ (.repl a y z) σ = some (.d (.str (Txt.replace x y z))) := bnd (bnd h rfl) (mpd (if_pos ⟨hne, hs⟩) rfl)
theorem zlo (K : TokOk tok n0 n1 i0 i1) (hN : ∀ i : Int, Φ "ISNONTERMINAL" [.int i] = some (.bool (decide (256 ≤ i)))) (hT : ∀ i : Int, Φ "ISTERMINAL" [.int i] = some (.bool (decide (i < 256)))) {L : List Nat} {k : Nat} (hL : valid L = true) :
    ∃ σ', evs tok Φ Ψ zb8 [(0, .fz (.str (mk (pageF k (rowF L n0 n1))))), (1, .fz (.lst [.int (i0 : Int), .int (i1 : Int)]))] (.ret (ol L)) σ' := by
  have hO := zbq hL
  have hrow : (rowF L n0 n1).length ≤ 39 := by
    have := zbZ K.l0.2 K.l1.2 hO.dp4 4
    have := hO.dp4 4
    unfold rowF
    rw [List.length_append, List.length_replicate]; lia
  generalize hr : rowF L n0 n1 = row at *
  have l0 := zfc (zfS k) row
  have l1 := zfc (zm7 k) row
  have l2 := zfc znz row
  have e1 : Txt.replace (mk (pageF k row)) (mk aLt) (mk [60]) = mk (row.flatMap (ch1 k)) := zk8 (by simp [mk, aLt]) (by rw [zaC, zaC]; exact zn7 k row)
  have e2 : Txt.replace (mk (row.flatMap (ch1 k))) (mk aGt) (mk [62]) = mk (row.flatMap ch2) := zk8 (by simp [mk, aGt]) (by rw [zaC, zaC]; exact zoq k row)
  have e3 : Txt.replace (mk (row.flatMap ch2)) (mk aAmp) (mk [38]) = mk row := zk8 (by simp [mk, aAmp]) (by rw [zaC, zaC]; exact zl3 row)
  have et : pe tok Φ (.repl (.repl (.repl (.var 0) "&lt;" "<") "&gt;" ">") "&amp;" "&") [(0, .fz (.str (mk (pageF k row)))), (1, .fz (.lst [.int (i0 : Int), .int (i1 : Int)]))] = some (.d (.str (mk row))) := by
    have h1 := zgP (tok := tok) (Φ := Φ) (a := .var 0) (σ := [(0, .fz (.str (mk (pageF k row)))), (1, .fz (.lst [.int (i0 : Int), .int (i1 : Int)]))]) (y := "&lt;") (z := "<") (zab rfl) (by decide) (by
      rw [zas, zkF, zas]; unfold pageF; simp only [List.length_cons, List.length_nil]; lia)
    rw [zl1, zkF, e1] at h1
    have h2 := zgP (y := "&gt;") (z := ">") h1 (by decide) (by rw [zas, zkH, zas]; simp only [List.length_cons, List.length_nil]; lia)
    rw [zlX, zkH, e2] at h2
    have h3 := zgP (y := "&amp;") (z := "&") h2 (by decide) (by rw [zas, zhE, zas]; simp only [List.length_cons, List.length_nil]; lia)
    rw [zjo, zhE, e3] at h3
    rw [zl1, zkF, zlX, zkH, zjo, zhE]
    exact h3
  generalize hσ1 : ((2, B.fz (.str (mk row))) :: [(0, .fz (.str (mk (pageF k row)))), (1, .fz (.lst [.int (i0 : Int), .int (i1 : Int)]))] : Sg) = σ1
  have ea : ev1 tok Φ Ψ (.asgs [3, 4, 5] [true, false, false] [.lst [], .cst (.int 0), .cst (.int 0)]) σ1 .next ((3, .own []) :: (4, .fz (.int 0)) :: (5, .fz (.int 0)) :: σ1) := by
    refine ⟨rfl, [.lst [], .int 0, .int 0], [.own [], .fz (.int 0), .fz (.int 0)], ?_, rfl, ?_, rfl, rfl⟩
    · rw [zak (zbw (ds := []) zef) (zau q_cst q_cst)]; rfl
    · rw [<- hσ1]; rfl
  have htx := zoe L n0 n1
  rw [hr] at htx
  have htl := zlO K (rowR L 4 0)
  rw [htx] at htl
  obtain ⟨σ', w, e⟩ := zfO (Ψ := Ψ) K hN hT (T := row) (by lia) (rowR L 4 0) 0 [] 0 ((3, .own []) :: (4, .fz (.int 0)) :: (5, .fz (.int 0)) :: σ1) (zlG L 4 0) (by rw [List.drop_zero, htx]) (Nat.zero_le _) (by simp; lia)
    ⟨by rw [<- hσ1]; rfl, by rw [<- hσ1]; rfl, rfl, rfl, rfl⟩
  rw [List.nil_append, zoz hL] at e
  exact ⟨σ', zad (zaq et) (by rw [hσ1]; exact zad ea (zad (ziA w) (zaF (zdE e))))⟩
noncomputable def zbV (l : List Nat) : Prop := ∀ c ∈ l, c ≠ 34 /\ c ≠ 13 /\ c ≠ 10 /\ c ≠ 9
theorem zcS {a b : List Nat} (h : zbV a) (k : zbV b) : zbV (a ++ b) := λ c hc => (List.mem_append.mp hc).elim (h c) (k c)
theorem ziY {L : List Nat} (h0 : zbV n0) (h1 : zbV n1) (l0 : n0.length ≤ 3) (l1 : n1.length ≤ 3) (hO : Out L) : zcp (rowF L n0 n1) := by
  have nm : ∀ l, zbV (nmT n0 n1 l) := λ l => by unfold nmT; split <;> assumption
  have rep : ∀ n, zbV (List.replicate n 41) := λ n c hc => by rw [List.eq_of_mem_replicate hc]; decide
  have sep : ∀ d e, zbV (sepF d e) := λ d e => by
    unfold sepF; split
    · intro c hc; rw [List.mem_singleton.mp hc]; decide
    · exact zcS (rep _) λ c hc => by rw [List.mem_singleton.mp hc]; decide
  have to : ∀ k, zbV (rowTo L n0 n1 k) := by
    intro k
    induction k with
    | zero => exact nm _
    | succ k ih => exact zcS (zcS ih (sep _ _)) (nm _)
  have hc : zbV (rowF L n0 n1) := zcS (to 4) (rep _)
  have := zbZ l0 l1 hO.dp4 4
  have := hO.dp4 4
  refine ⟨λ h => (hc _ h).1 rfl, λ h => (hc _ h).2.1 rfl, λ h => (hc _ h).2.2.1 rfl, λ h => (hc _ h).2.2.2 rfl, ?_⟩
  unfold rowF
  rw [List.length_append, List.length_replicate]; lia
end
noncomputable def bump (cs : List Nat) (r : Nat) : List Nat := (cs ++ List.replicate (r + 1 - cs.length) 0).set r (nth (cs ++ List.replicate (r + 1 - cs.length) 0) r + 1)
structure Ws where
  cs : List Nat
  b : Nat
  n : Nat
  nt : Nat
noncomputable def Ws.step (w : Ws) (c : Nat) : Ws := if c = 32 then ⟨w.cs, w.b + 1, w.n + 1, w.nt⟩ else ⟨bump w.cs w.b, 0, w.n + 1, w.nt + 1⟩
noncomputable def Ws.run (w : Ws) (l : List Nat) : Ws := l.foldl Ws.step w
theorem zfZ {cs : List Nat} {k : Nat} (h : k < cs.length) : (il cs)[k]? = some (.int ((nth cs k : Nat) : Int)) := by
  unfold il
  rw [List.getElem?_map, zdR h]; rfl
theorem zaA (cs : List Nat) : (il cs).length = cs.length := by simp [il]
theorem zgk : ∀ n : Nat, repL [D.int 0] n = il (List.replicate n 0)
  | 0 => rfl
  | n + 1 => by rw [repL, zgk n, List.replicate_succ]; rfl
theorem zfk (cs : List Nat) (r : Nat) : (bump cs r).length = max cs.length (r + 1) := by unfold bump; simp; lia
noncomputable def zi8 : List X := [.iff (.cmp .Eq (.var 8) (.var 2)) [.asg (.nm 6) (.bin .Add (.var 6) (.cst (.int 1))),
  .asg (.nm 5) (.bin .Add (.var 5) (.cst (.int 1)))] [.iff (.cmp .Eq (.var 8) (.var 3)) [.asg (.nm 6) (.bin .Add (.var 6) (.cst (.int 1))),
  .asg (.nm 7) (.bin .Add (.var 7) (.cst (.int 1))),
  .iff (.cmp .GtE (.var 5) (.call (.cst (.fn "len")) [.var 4])) [.own 4 (.bin .Add (.var 4) (.lmul [.cst (.int 0)] (.bin .Add (.bin .Sub (.var 5) (.call (.cst (.fn "len")) [.var 4])) (.cst (.int 1)))))] [],
  .sto 4 (.var 5) (.bin .Add (.sub (.var 4) (.var 5)) (.cst (.int 1))),
  .asg (.nm 5) (.cst (.int 0))] [.brk]]]
section
variable {tok : Str -> Option Int} {Φ : String -> List D -> Option D} {Ψ : String -> List D -> Option (D × List D)} {σ : Sg}
structure WSt (σ : Sg) (w : Ws) : Prop where
  S : σ.lookup 2 = some (.fz (.str " "))
  T : σ.lookup 3 = some (.fz (.str "\t"))
  cs : σ.lookup 4 = some (.own (il w.cs))
  b : σ.lookup 5 = some (.fz (.int (w.b : Int)))
  n : σ.lookup 6 = some (.fz (.int (w.n : Int)))
  nt : σ.lookup 7 = some (.fz (.int (w.nt : Int)))
theorem zgY : Str.ofString " " = mk [32] := by decide
theorem zhD (c d : Nat) : D.eqb (.str (mk [c])) (.str (mk [d])) = decide (c = d) := by
  show (mk [c] == mk [d]) = _
  by_cases h : c = d
  · subst h; simp
  · rw [decide_eq_false h, beq_eq_false_iff_ne]
    intro e
    have := congrArg (λ s : Str => s.cps.toList) e
    simp [mk] at this
    exact h this
theorem zjQ {c : Nat} (h : c = 32 ∨ c = 9) : (D.str (mk [c])).sh 8 = true := by rcases h with rfl | rfl <;> decide +kernel
theorem zmP {w : Ws} {c : Nat} (hc : c = 32 ∨ c = 9) (S : WSt σ w) (hb : w.b ≤ 10000) (hl : w.cs.length ≤ 10000) (h8 : σ.lookup 8 = some (.fz (.str (mk [c])))) : ∃ σ', evs tok Φ Ψ zi8 σ .next σ' /\ WSt σ' (w.step c) := by
  have e1 := q_eq (tok := tok) (Φ := Φ) (zab h8) (zab S.S) (zjQ hc) (by decide +kernel)
  rw [zgY, zhD] at e1
  rcases hc with rfl | rfl
  · refine ⟨_, zad (zdi e1 (zad (zaq (zao (q_vi S.n) (q_c (n := 1)))) (zad (zaq (zao (q_vi (S.b)) (q_c (n := 1)))) zag))) zag, ?_⟩
    exact ⟨S.S, S.T, S.cs, zaa, rfl, S.nt⟩
  · have e2 := q_eq (tok := tok) (Φ := Φ) (zab h8) (zab S.T) (zjQ (.inr rfl)) (by decide +kernel)
    rw [zht, zhD] at e2
    generalize hσ7 : ((7, B.fz (.int ((w.nt + 1 : Nat) : Int))) :: (6, B.fz (.int ((w.n + 1 : Nat) : Int))) :: σ : Sg) = σ7
    have c2 : σ7.lookup 2 = some (.fz (.str " ")) := by rw [<- hσ7, zaf rfl, zaf rfl]; exact S.S
    have c3 : σ7.lookup 3 = some (.fz (.str "\t")) := by rw [<- hσ7, zaf rfl, zaf rfl]; exact S.T
    have c4 : σ7.lookup 4 = some (.own (il w.cs)) := by rw [<- hσ7, zaf rfl, zaf rfl]; exact S.cs
    have c5 : σ7.lookup 5 = some (.fz (.int (w.b : Int))) := by rw [<- hσ7, zaf rfl, zaf rfl]; exact S.b
    have c6 : σ7.lookup 6 = some (.fz (.int ((w.n + 1 : Nat) : Int))) := by rw [<- hσ7, zaf rfl]; exact zaa
    have c7 : σ7.lookup 7 = some (.fz (.int ((w.nt + 1 : Nat) : Int))) := by rw [<- hσ7]; exact zaa
    have hlen : pe tok Φ (.call (.cst (.fn "len")) [.var 4]) σ7 = some (.d (.int ((w.cs.length : Nat) : Int))) := by
      have := zdl (tok := tok) (Φ := Φ) (zcg c4) rfl (by rw [zaA]; lia)
      rw [zaA] at this; exact this
    have grow : ∃ σ8, ev1 tok Φ Ψ (.iff (.cmp .GtE (.var 5) (.call (.cst (.fn "len")) [.var 4])) [.own 4 (.bin .Add (.var 4) (.lmul [.cst (.int 0)] (.bin .Add (.bin .Sub (.var 5) (.call (.cst (.fn "len")) [.var 4])) (.cst (.int 1)))))] []) σ7 .next σ8 /\
        σ8.lookup 4 = some (.own (il (w.cs ++ List.replicate (w.b + 1 - w.cs.length) 0))) /\ ∀ i, (i == 4) = false -> σ8.lookup i = σ7.lookup i := by
      have hcnd := q_ge (q_vi c5) hlen
      by_cases h : w.cs.length ≤ w.b
      · rw [decide_eq_true (by lia)] at hcnd
        have hn : pe tok Φ (.bin .Add (.bin .Sub (.var 5) (.call (.cst (.fn "len")) [.var 4])) (.cst (.int 1))) σ7 = some (.d (.int ((w.b - w.cs.length + 1 : Nat) : Int))) := zao (zcn (q_vi c5) hlen h) (q_c (n := 1))
        have hm : pe tok Φ (.lmul [.cst (.int 0)] (.bin .Add (.bin .Sub (.var 5) (.call (.cst (.fn "len")) [.var 4])) (.cst (.int 1)))) σ7 = some (.d (.lst (il (List.replicate (w.b - w.cs.length + 1) 0)))) := by
          refine bnd (bnd (zaB q_cst) rfl) (bnd (bnd hn rfl) ((if_pos ⟨by rw [Int.toNat_natCast]; simp; lia, zaS (by lia)⟩).trans ?_))
          rw [Int.toNat_natCast, zgk]
        have ha := zbP (zcg c4) rfl hm rfl (by rw [zaA, zaA, List.length_replicate]; lia)
        refine ⟨_, zdi hcnd (zad (zfL ha) zag), ?_, λ i hi => zaf hi⟩
        rw [zaa, show w.b + 1 - w.cs.length = w.b - w.cs.length + 1 by lia]
        simp [il]
      · rw [decide_eq_false (by lia)] at hcnd
        refine ⟨_, zc0 hcnd zag, ?_, λ i hi => rfl⟩
        rw [c4, show w.b + 1 - w.cs.length = 0 by lia]; simp
    obtain ⟨σ8, eg, g4, gi⟩ := grow
    generalize hcs : w.cs ++ List.replicate (w.b + 1 - w.cs.length) 0 = cs at g4
    have hcl : w.b < cs.length /\ cs.length ≤ 20002 := by rw [<- hcs]; simp; lia
    have g5 : σ8.lookup 5 = some (.fz (.int (w.b : Int))) := by rw [gi 5 rfl]; exact c5
    have es := zao (zat (zcg g4) rfl (q_vi g5) (by lia) (zfZ hcl.1)) (q_c (tok := tok) (Φ := Φ) (n := 1))
    have esto : ev1 tok Φ Ψ (.sto 4 (.var 5) (.bin .Add (.sub (.var 4) (.var 5)) (.cst (.int 1)))) σ8 .next ((4, .own ((il cs).set w.b (.int ((nth cs w.b + 1 : Nat) : Int)))) :: σ8) := by
      refine ⟨rfl, il cs, _, (w.b : Int), w.b, g4, es, q_vi g5, ?_, by rw [zaA]; lia, rfl⟩
      unfold sidx
      rw [if_pos ⟨by lia, by rw [zaA]; lia⟩, Int.toNat_natCast]
    refine ⟨_, zad (zc0 e1 (zad (zdi e2 (zad (zaq (zao (q_vi S.n) (q_c (n := 1)))) (zad (zaq (zao (q_vi (S.nt)) (q_c (n := 1)))) (by rw [hσ7]; exact zad eg (zad esto (zad (zaq (q_cst (d := .int 0))) zag)))))) zag)) zag, ?_⟩
    refine ⟨by rw [zaf rfl, zaf rfl, gi 2 rfl]; exact c2, by rw [zaf rfl, zaf rfl, gi 3 rfl]; exact c3, ?_, zaa, by rw [zaf rfl, zaf rfl, gi 6 rfl]; exact c6, by rw [zaf rfl, zaf rfl, gi 7 rfl]; exact c7⟩
    rw [zaf rfl, zaa]
    show _ = some (B.own (il (bump w.cs w.b)))
    unfold bump
    rw [hcs]
    simp [il, List.map_set]
theorem zjx : ∀ (l : List Nat) (w : Ws) (σ : Sg), (∀ c ∈ l, c = 32 ∨ c = 9) -> WSt σ w -> w.b + l.length ≤ 5000 -> w.cs.length + l.length ≤ 5000 -> w.cs.length + w.b + l.length ≤ 5000 -> ∃ σ', ForR (.nm 8) (evs tok Φ Ψ zi8) (signs (mk l)) σ .next σ' /\ WSt σ' (w.run l)
  | [], w, σ, _, S, _, _, _ => ⟨σ, .nil, S⟩
  | c :: l, w, σ, hc, S, h1, h2, h3 => by
    rw [List.length_cons] at h1 h2 h3
    have S' : WSt ((8, .fz (.str (mk [c]))) :: σ) w := ⟨S.S, S.T, S.cs, S.b, S.n, S.nt⟩
    obtain ⟨σ₁, e, S₁⟩ := zmP (tok := tok) (Φ := Φ) (Ψ := Ψ) (hc c (.head _)) S' (by lia) (by lia) zaa
    have hb : (w.step c).b ≤ w.b + 1 /\ (w.step c).cs.length + (w.step c).b ≤ w.cs.length + w.b + 1 /\ (w.step c).cs.length ≤ w.cs.length + w.b + 1 := by
      unfold Ws.step
      split
      · exact ⟨Nat.le_refl _, by simp only; lia, by simp only; lia⟩
      · simp only [zfk]; lia
    obtain ⟨σ', f, S₂⟩ := zjx l (w.step c) σ₁ (λ d hd => hc d (.tail _ hd)) S₁ (by lia) (by lia) (by lia)
    exact ⟨σ', .next rfl e f, S₂⟩
end
end Mine
end
section
open PySem PySem.W PyProof.Rows PySem.StrLaws Builtin.Str
set_option maxRecDepth 100000
namespace Mine
noncomputable def runT (r : Nat) : List Nat := List.replicate r 32 ++ [9]
noncomputable def guyT (runs : List Nat) (behind : Nat) : List Nat := runs.flatMap runT ++ List.replicate behind 32
noncomputable def cnt (runs : List Nat) : List Nat := runs.foldl bump []
noncomputable def gF (cs : List Nat) (raw : List Nat) (b nt : Nat) : List (Str × D) :=
  [("raw", .str (mk raw)), ("n", .int ((raw.length : Nat) : Int)), ("nt", .int (nt : Int)), ("norm", .tup [.tup (il cs), .int (b : Int)]), ("is_simple", .bool (decide (cs.length ≤ 1)))]
noncomputable def gD (runs : List Nat) (behind : Nat) : D := .obj (gF (cnt runs) (guyT runs behind) behind runs.length)
theorem zeL (cs : List Nat) (n nt : Nat) : ∀ (r b : Nat), (⟨cs, b, n, nt⟩ : Ws).run (List.replicate r 32) = ⟨cs, b + r, n + r, nt⟩ := by
  intro r
  induction r generalizing n with
  | zero => intro b; rfl
  | succ r ih =>
    intro b
    rw [List.replicate_succ]
    show (Ws.step ⟨cs, b, n, nt⟩ 32).run _ = _
    have : Ws.step ⟨cs, b, n, nt⟩ 32 = ⟨cs, b + 1, n + 1, nt⟩ := rfl
    rw [this, ih]
    congr 1 <;> lia
theorem zgC (w : Ws) (a b : List Nat) : w.run (a ++ b) = (w.run a).run b := List.foldl_append
theorem zmS (cs : List Nat) (n nt r : Nat) : (⟨cs, 0, n, nt⟩ : Ws).run (runT r) = ⟨bump cs r, 0, n + r + 1, nt + 1⟩ := by
  unfold runT
  rw [zgC, zeL, Nat.zero_add]
  rfl
theorem zg7 : ∀ (runs : List Nat) (cs : List Nat) (n nt : Nat), (⟨cs, 0, n, nt⟩ : Ws).run (runs.flatMap runT) = ⟨runs.foldl bump cs, 0, n + (runs.flatMap runT).length, nt + runs.length⟩
  | [], cs, n, nt => rfl
  | r :: runs, cs, n, nt => by
    rw [List.flatMap_cons, zgC, zmS, zg7 runs, List.foldl_cons]
    congr 1
    · rw [List.length_append]; simp [runT]; lia
    · simp; lia
theorem zmR (runs : List Nat) (behind : Nat) : (⟨[], 0, 0, 0⟩ : Ws).run (guyT runs behind) = ⟨cnt runs, behind, (guyT runs behind).length, runs.length⟩ := by
  unfold guyT
  rw [zgC, zg7, zeL, List.length_append, List.length_replicate]
  simp [cnt]
theorem ziG (runs : List Nat) (behind : Nat) : ∀ c ∈ guyT runs behind, c = 32 ∨ c = 9 := by
  intro c hc
  unfold guyT at hc
  rcases List.mem_append.mp hc with h | h
  · obtain ⟨r, _, h⟩ := List.mem_flatMap.mp h
    rcases List.mem_append.mp h with h | h
    · exact .inl (List.eq_of_mem_replicate h)
    · exact .inr (List.mem_singleton.mp h)
  · exact .inl (List.eq_of_mem_replicate h)
theorem zgt {runs : List Nat} {behind B : Nat} (h : ∀ r ∈ runs, r ≤ B) : (guyT runs behind).length ≤ runs.length * (B + 1) + behind := by
  unfold guyT
  rw [List.length_append, List.length_replicate, List.length_flatMap]
  have := zen (f := λ r => (runT r).length) (B := B + 1) (l := runs) λ r hr => by simp [runT]; exact h r hr
  lia
noncomputable def iq0 : IQ := ⟨1, .asgs [2, 3] [false, false] [.fld (.cst (.fn "Whitespace")) "S", .fld (.cst (.fn "Whitespace")) "T"], .own 4 (.lst []), .mul [5, 6, 7] (.cst (.int 0)), zi8, .nm 8, .var 6, .var 7,
  .tup [.call (.cst (.fn "tuple")) [.var 4], .var 5], .cmp .LtE (.call (.cst (.fn "len")) [.var 4]) (.cst (.int 1))⟩
theorem ic0 : InitC γ0 zgV ((defOf "__init__").2.2.names.filter λ p => p.1 != "self") iq0 (defOf "__init__").2.1 where
  body := by kernel_rfl
  iw := by kernel_rfl
  kw := by kernel_rfl
  c1 := by kernel_rfl
  c2 := by kernel_rfl
  c3 := by kernel_rfl
  cb := by kernel_rfl
  hn := ffE
  pt := by kernel_rfl
  k1 := by kernel_rfl
  k2 := by kernel_rfl
  k3 := by kernel_rfl
  k4 := by kernel_rfl
section
variable {tok : Str -> Option Int} {Φ : String -> List D -> Option D} {Ψ : String -> List D -> Option (D × List D)} {σ : Sg}
theorem zmp {raw : List Nat} {w : Ws} (hr : (⟨[], 0, 0, 0⟩ : Ws).run raw = w) (hc : ∀ c ∈ raw, c = 32 ∨ c = 9) (hl : raw.length ≤ 4000) (hn : w.n = raw.length) :
    ∃ σ1 σ2 σ3 σ4, InitE tok Φ Ψ iq0 (mk raw) σ1 σ2 σ3 σ4 (.int ((raw.length : Nat) : Int)) (.int (w.nt : Int)) (.tup [.tup (il w.cs), .int (w.b : Int)]) (.bool (decide (w.cs.length ≤ 1))) := by
  have S0 : WSt [(5, .fz (.int 0)), (6, .fz (.int 0)), (7, .fz (.int 0)), (4, .own []), (2, .fz (.str " ")), (3, .fz (.str "\t")), (1, .fz (.str (mk raw)))] ⟨[], 0, 0, 0⟩ := ⟨rfl, rfl, rfl, rfl, rfl, rfl⟩
  obtain ⟨σ4, f, S⟩ := zjx (tok := tok) (Φ := Φ) (Ψ := Ψ) raw _ _ hc S0 (by simp; lia) (by simp; lia) (by simp; lia)
  rw [hr] at S
  have key : ∀ (l : List Nat) (v : Ws), (v.run l).cs.length + (v.run l).b ≤ v.cs.length + v.b + l.length := by
    intro l
    induction l with
    | nil => intro v; exact Nat.le_refl _
    | cons c l ih =>
      intro v
      have h1 := ih (v.step c)
      have h2 : (v.step c).cs.length + (v.step c).b ≤ v.cs.length + v.b + 1 := by
        unfold Ws.step
        split
        · simp only; lia
        · simp only [zfk]; lia
      show ((v.step c).run l).cs.length + _ ≤ _
      rw [List.length_cons]
      have : ((v.step c).run l).b = (v.run (c :: l)).b := rfl
      lia
  have hcl : w.cs.length ≤ 4000 := by have := key raw ⟨[], 0, 0, 0⟩; rw [hr] at this; simp at this; lia
  have hlen : pe tok Φ (.call (.cst (.fn "len")) [.var 4]) σ4 = some (.d (.int ((w.cs.length : Nat) : Int))) := by
    have := zdl (tok := tok) (Φ := Φ) (zcg S.cs) rfl (by rw [zaA]; lia)
    rw [zaA] at this; exact this
  refine ⟨[(2, .fz (.str " ")), (3, .fz (.str "\t")), (1, .fz (.str (mk raw)))], [(4, .own []), (2, .fz (.str " ")), (3, .fz (.str "\t")), (1, .fz (.str (mk raw)))], [(5, .fz (.int 0)), (6, .fz (.int 0)), (7, .fz (.int 0)), (4, .own []), (2, .fz (.str " ")), (3, .fz (.str "\t")), (1, .fz (.str (mk raw)))], σ4, ?_, ?_, ?_, f, ?_, ?_, ?_, ?_⟩
  · refine ⟨rfl, [.str " ", .str "\t"], [.fz (.str " "), .fz (.str "\t")], ?_, rfl, rfl, rfl, rfl⟩
    have f1 : pe tok Φ (.fld (.cst (.fn "Whitespace")) "S") [(1, .fz (.str (mk raw)))] = some (.d (.str " ")) := bnd q_cst rfl
    have f2 : pe tok Φ (.fld (.cst (.fn "Whitespace")) "T") [(1, .fz (.str (mk raw)))] = some (.d (.str "\t")) := bnd q_cst rfl
    show (pes tok Φ [.fld (.cst (.fn "Whitespace")) "S", .fld (.cst (.fn "Whitespace")) "T"] [(1, .fz (.str (mk raw)))]).bind allD = _
    rw [zau f1 f2]; rfl
  · exact zfL (zbw (ds := []) zef)
  · exact ⟨rfl, .int 0, q_cst, rfl⟩
  · rw [<- hn]; exact zab S.n
  · exact zab S.nt
  · refine zbc (ds := [.tup (il w.cs), .int (w.b : Int)]) (zau (q_bi (by decide +kernel) (zaB (zcg S.cs)) ?_) (zab S.b))
    exact callP_tp.trans (if_pos (by rw [zaA]; lia))
  · refine (q_le hlen q_cst).trans ?_
    congr 3
    apply decide_eq_decide.mpr
    lia
theorem zmB {runs : List Nat} {behind : Nat} (hW : ∀ raw : List Nat, raw = guyT runs behind -> Φ "Whitespace" [.str (mk raw)] = some (gD runs behind)) (hr : ∀ r ∈ runs, r ≤ 100) (hl : runs.length ≤ 20) (hb : behind ≤ 100) :
    ∃ σ', evs tok Φ Ψ zcJ [(0, .fz (.lst (il runs))), (1, .fz (.int (behind : Int)))] (.ret (gD runs behind)) σ' := by
  have e1 : pe tok Φ (.lc (.nm 4) (.pln (.var 0)) (.all_ .And []) (.yld (.bin .Add (.bin .Mult (.cst (.str " ")) (.var 4)) (.cst (.str "\t")))) []) [(0, .fz (.lst (il runs))), (1, .fz (.int (behind : Int)))] = some (.d (.lst ((runs.map λ r => mk (runT r)).map .str))) := by
    have := q_lc (tok := tok) (Φ := Φ) (p := .nm 4) (it := .pln (.var 0)) (ifs := .all_ .And []) (body := .yld (.bin .Add (.bin .Mult (.cst (.str " ")) (.var 4)) (.cst (.str "\t")))) (fr := []) (σ := [(0, .fz (.lst (il runs))), (1, .fz (.int (behind : Int)))])
      (items := il runs) (g := λ d => match d with | .int i => [.str (mk (runT i.toNat))] | _ => []) (zc4 (zab rfl)) (λ d hd => by
        obtain ⟨r, hrm, rfl⟩ := List.mem_map.mp hd
        refine ⟨_, true, rfl, zdv zcm, λ _ => ?_, λ h => by cases h⟩
        have g4 : List.lookup 4 ((4, B.fz (.int (r : Int))) :: ([(0, B.fz (.lst (il runs))), (1, .fz (.int (behind : Int)))] : Sg).filter λ q => ([] : List Nat).contains q.1) = some (.fz (.int (r : Int))) := zaa
        have hr' := hr r hrm
        have e := zer (tok := tok) (Φ := Φ) (zhe (q_cst (d := .str " ")) (q_vi g4) ⟨by decide, by lia, by lia⟩) (q_cst (d := .str "\t")) (by rw [zgY, zaD, zht, zas, zas, List.length_replicate]; simp; lia)
        rw [zgY, zaD, zht, zdP] at e
        rw [zgY, zht]
        refine (zlv e).trans ?_
        show some [D.str (mk (List.replicate r 32 ++ [9]))] = some [D.str (mk (runT ((r : Int).toNat)))]
        rw [Int.toNat_natCast]; rfl) (by
        rw [List.length_flatMap]
        have := zen (f := λ d : D => (match d with | .int i => [D.str (mk (runT i.toNat))] | _ => ([] : List D)).length) (B := 1) (l := il runs) λ d _ => by split <;> simp
        rw [zaA] at this; lia)
    rw [this]
    congr 3
    unfold il
    rw [List.flatMap_map, List.map_map]
    clear this hr hl hW
    induction runs with
    | nil => rfl
    | cons r runs ih => rw [List.flatMap_cons, List.map_cons, ih]; simp
  have e2 := zlF (u := "") (a := .cst (.str "")) q_cst e1 (by
    have h1 : ((runs.map λ r => mk (runT r)).map (·.length)) = runs.map λ r => (runT r).length := by rw [List.map_map]; apply List.map_congr_left; intro r _; exact zas _
    have h2 := zen (f := λ r => (runT r).length) (B := 101) (l := runs) λ r hrm => by have := hr r hrm; simp [runT]; lia
    have h3 : (Str.ofString "").length = 0 := by decide
    rw [h1, h3, Nat.mul_zero]; lia)
  have hj : Txt.join (Str.ofString "") (runs.map λ r => mk (runT r)) = mk (runs.flatMap runT) := by
    have := zfu (runs.map runT)
    rw [List.map_map] at this
    rw [List.flatMap_def]
    exact this
  rw [hj] at e2
  have hgl := zgt (behind := behind) hr
  have e3 := zer e2 (zhe (q_cst (d := .str " ")) (q_vi (n := 1) (k := behind) rfl) ⟨by decide, by lia, by lia⟩) (by
    rw [zgY, zaD, zas, zas, List.length_replicate]
    have := zgt (behind := 0) hr
    rw [guyT, List.length_append] at this
    lia)
  rw [zgY, zaD, zdP] at e3
  refine ⟨_, zaF (zby (zaK (ds := [.str (mk (guyT runs behind))]) rfl (zaB ?_) (hW _ rfl)))⟩
  rw [zgY]; exact e3
end
end Mine
end
section
open PySem PySem.W PyProof.Rows PySem.StrLaws Builtin.Str
set_option maxRecDepth 10000
namespace Mine
noncomputable def longN (cs : List Nat) (b : Nat) : Nat := max (cs.length - 1) b
noncomputable def indF (cs : List Nat) (b nt ts : Nat) : Nat := b + ts * ((List.range' ts (cs.length - ts)).foldl (λ a i => a + i / ts * nth cs i) 0 + nt)
noncomputable def witF (cs1 : List Nat) (b1 m1 : Nat) (cs2 : List Nat) (b2 m2 : Nat) : List D :=
  (List.range' 1 (max (longN cs1 b1) (longN cs2 b2) + 1)).flatMap λ ts => if indF cs1 b1 m1 ts = indF cs2 b2 m2 ts then [] else [.tup [.int (ts : Int), .int ((indF cs1 b1 m1 ts : Nat) : Int), .int ((indF cs2 b2 m2 ts : Nat) : Int)]]
theorem zfT (cs raw : List Nat) (b nt : Nat) : (gF cs raw b nt).lookup ("norm" : Str) = some (.tup [.tup (il cs), .int (b : Int)]) := by rfl
theorem g_nt (cs raw : List Nat) (b nt : Nat) : (gF cs raw b nt).lookup ("nt" : Str) = some (.int (nt : Int)) := by rfl
theorem zmq (a b : Nat) : (if (b : Int) > (a : Int) then (b : Int) else (a : Int)) = ((max a b : Nat) : Int) := by split <;> lia
theorem zj6 : ∀ (a b : List Nat), D.eqbs (il a) (il b) = decide (a = b)
  | [], [] => by rfl
  | [], _ :: _ => by rfl
  | _ :: _, [] => by rfl
  | x :: a, y :: b => by
    show (D.eqb (.int (x : Int)) (.int (y : Int)) && D.eqbs (il a) (il b)) = _
    rw [zj6 a b]
    show (((x : Int) == (y : Int)) && _) = _
    by_cases h : x = y
    · subst h; simp
    · have : ((x : Int) == (y : Int)) = false := beq_eq_false_iff_ne.mpr (by lia)
      simp [this, h]
theorem zlq (c1 c2 : List Nat) (b1 b2 : Nat) : D.eqb (.tup [.tup (il c1), .int (b1 : Int)]) (.tup [.tup (il c2), .int (b2 : Int)]) = decide (c1 = c2 /\ b1 = b2) := by
  show (D.eqbs (il c1) (il c2) && (((b1 : Int) == (b2 : Int)) && true)) = _
  rw [zj6, Bool.and_true]
  by_cases h : b1 = b2
  · subst h; simp
  · have : ((b1 : Int) == (b2 : Int)) = false := beq_eq_false_iff_ne.mpr (by lia)
    simp [this, h]
theorem zmu (c : List Nat) (n : Nat) : (il c).all (D.sh n) = true := by
  rw [List.all_eq_true]
  intro d hd
  obtain ⟨x, _, rfl⟩ := List.mem_map.mp hd
  cases n <;> rfl
theorem ziy (c : List Nat) (b : Nat) : (D.tup [.tup (il c), .int (b : Int)]).sh 8 = true := by
  show ((il c).all (D.sh 6) && true) = true
  rw [zmu]; rfl
section
variable {tok : Str -> Option Int} {Φ : String -> List D -> Option D} {Ψ : String -> List D -> Option (D × List D)} {σ : Sg}
variable {cs raw cs' raw' : List Nat} {b nt b' nt' : Nat}
theorem zie (hl : cs.length ≤ 10000) : ∃ σ', evs tok Φ Ψ zar [(0, .fz (.obj (gF cs raw b nt)))] (.ret (.int ((longN cs b : Nat) : Int))) σ' := by
  have e1 := zgq (tok := tok) (Φ := Φ) (n := 0) (σ := [(0, .fz (.obj (gF cs raw b nt)))]) (nm := "norm") rfl (zfT cs raw b nt)
  have e2 : pe tok Φ (.call (.cst (.fn "max")) [.bin .Sub (.call (.cst (.fn "len")) [.var 1]) (.cst (.int 1)), .var 2]) [(2, .fz (.int (b : Int))), (1, .fz (.tup (il cs))), (0, .fz (.obj (gF cs raw b nt)))] = some (.d (.int ((longN cs b : Nat) : Int))) := by
    have hlen := zdl (tok := tok) (Φ := Φ) (a := .var 1) (σ := [(2, .fz (.int (b : Int))), (1, .fz (.tup (il cs))), (0, .fz (.obj (gF cs raw b nt)))]) (zab rfl) rfl (by rw [zaA]; lia)
    rw [zaA] at hlen
    refine q_bi rfl (zau (znA hlen q_cst) (zab rfl)) ?_
    refine (show callP "max" [.d (.int _), .d (.int _)] = some (.int (if _ > _ then _ else _)) from rfl).trans ?_
    congr 2
    unfold longN
    split <;> lia
  exact ⟨_, zad (zjm e1 rfl) (zaF (zby e2))⟩
theorem zkl {ts : Nat} (hl : cs.length ≤ 10000) (h1 : 1 ≤ ts) (h2 : ts ≤ 10000) : ∃ σ', evs tok Φ Ψ zaZ [(0, .fz (.obj (gF cs raw b nt))), (1, .fz (.int (ts : Int)))] (.ret (.int ((indF cs b nt ts : Nat) : Int))) σ' := by
  have e1 := zgq (tok := tok) (Φ := Φ) (n := 0) (σ := [(0, .fz (.obj (gF cs raw b nt))), (1, .fz (.int (ts : Int)))]) (nm := "norm") rfl (zfT cs raw b nt)
  have loop : ∀ (l : List Nat) (acc : Nat) (σ : Sg), (∀ i ∈ l, i < cs.length) -> σ.lookup 0 = some (.fz (.obj (gF cs raw b nt))) -> σ.lookup 1 = some (.fz (.int (ts : Int))) -> σ.lookup 2 = some (.fz (.tup (il cs))) -> σ.lookup 3 = some (.fz (.int (b : Int))) -> σ.lookup 4 = some (.fz (.int (acc : Int))) ->
      ∃ σ', ForR (.nm 5) (evs tok Φ Ψ [.asg (.nm 4) (.bin .Add (.var 4) (.bin .Mult (.bin .FloorDiv (.var 5) (.var 1)) (.sub (.var 2) (.var 5))))]) (l.map λ (i : Nat) => D.int (i : Int)) σ .next σ' /\ σ'.lookup 0 = some (.fz (.obj (gF cs raw b nt))) /\ σ'.lookup 1 = some (.fz (.int (ts : Int))) /\ σ'.lookup 3 = some (.fz (.int (b : Int))) /\ σ'.lookup 4 = some (.fz (.int ((l.foldl (λ a i => a + i / ts * nth cs i) acc : Nat) : Int))) := by
    intro l
    induction l with
    | nil => intro acc σ _ g0 g1 g2 g3 g4; exact ⟨σ, .nil, g0, g1, g3, g4⟩
    | cons i l ih =>
      intro acc σ hi g0 g1 g2 g3 g4
      have hil := hi i (.head _)
      have hdiv : i / ts ≤ i := Nat.div_le_self i ts
      have e : pe tok Φ (.bin .Add (.var 4) (.bin .Mult (.bin .FloorDiv (.var 5) (.var 1)) (.sub (.var 2) (.var 5)))) ((5, .fz (.int (i : Int))) :: σ) = some (.d (.int ((acc + i / ts * nth cs i : Nat) : Int))) :=
        zao (q_vi (g4)) (zhR (zbK (q_vi zaa) (q_vi (g1)) (by lia) (by lia)) (zat (zab (g2)) rfl (q_vi zaa) (by lia) (zfZ hil)) (by lia))
      obtain ⟨σ', f, k⟩ := ih (acc + i / ts * nth cs i) ((4, .fz (.int ((acc + i / ts * nth cs i : Nat) : Int))) :: (5, .fz (.int (i : Int))) :: σ) (λ j hj => hi j (.tail _ hj)) (g0) (g1) (g2) (g3) zaa
      exact ⟨σ', .next rfl (zad (zaq e) zag) f, k⟩
  obtain ⟨σ', f, k0, k1, k3, k4⟩ := loop (List.range' ts (cs.length - ts)) 0 [(4, .fz (.int 0)), (3, .fz (.int (b : Int))), (2, .fz (.tup (il cs))), (0, .fz (.obj (gF cs raw b nt))), (1, .fz (.int (ts : Int)))] (λ i hi => by rw [List.mem_range'_1] at hi; lia) rfl rfl rfl rfl rfl
  have hlen := zdl (tok := tok) (Φ := Φ) (a := .var 2) (σ := [(4, .fz (.int 0)), (3, .fz (.int (b : Int))), (2, .fz (.tup (il cs))), (0, .fz (.obj (gF cs raw b nt))), (1, .fz (.int (ts : Int)))]) (zab rfl) rfl (by rw [zaA]; lia)
  rw [zaA] at hlen
  have er := zao (q_vi k3) (zhR (q_vi k1) (zao (q_vi k4) (zgq (tok := tok) (Φ := Φ) (nm := "nt") k0 (g_nt cs raw b nt))) (by lia))
  exact ⟨σ', zad (zjm e1 rfl) (zad (zaq q_cst) (zad (zci (zkr (m := ts) (n := cs.length) (by lia) (by lia) (q_vi (n := 1) (k := ts) rfl) hlen) f) (zaF (zby er))))⟩
theorem zkW : ∃ σ', evs tok Φ Ψ zfe [(0, .fz (.obj (gF cs raw b nt))), (1, .fz (.obj (gF cs' raw' b' nt')))] (.ret (.bool (decide (cs = cs' /\ b = b')))) σ' := by
  have e1 := zgq (tok := tok) (Φ := Φ) (n := 0) (σ := [(0, .fz (.obj (gF cs raw b nt))), (1, .fz (.obj (gF cs' raw' b' nt')))]) (nm := "norm") rfl (zfT cs raw b nt)
  have e2 := zgq (tok := tok) (Φ := Φ) (n := 1) (σ := [(0, .fz (.obj (gF cs raw b nt))), (1, .fz (.obj (gF cs' raw' b' nt')))]) (nm := "norm") rfl (zfT cs' raw' b' nt')
  have e := q_eq e1 e2 (ziy cs b) (ziy cs' b')
  rw [zlq] at e
  exact ⟨_, zaF (zby e)⟩
theorem zio (hl : cs.length ≤ 5000) (hl' : cs'.length ≤ 5000) (hb : b ≤ 5000) (hb' : b' ≤ 5000)
    (hL : ∀ cs raw b nt, cs.length ≤ 5000 -> Φ "longest_run_of_spaces" [.obj (gF cs raw b nt)] = some (.int ((longN cs b : Nat) : Int))) (hI : ∀ cs raw b nt (ts : Nat), cs.length ≤ 5000 -> 1 ≤ ts -> ts ≤ 10000 -> Φ "indent_level" [.obj (gF cs raw b nt), .int (ts : Int)] = some (.int ((indF cs b nt ts : Nat) : Int))) :
    ∃ σ', evs tok Φ Ψ zaI [(0, .fz (.obj (gF cs raw b nt))), (1, .fz (.obj (gF cs' raw' b' nt')))] (.ret (.lst (witF cs b nt cs' b' nt'))) σ' := by
  have nm : isMe "longest_run_of_spaces" = true := by decide +kernel
  have nm2 : isMe "indent_level" = true := by decide +kernel
  have l1 : pe tok Φ (.meth "longest_run_of_spaces" (.var 0) []) [(0, .fz (.obj (gF cs raw b nt))), (1, .fz (.obj (gF cs' raw' b' nt')))] = _ := zco (ds := []) nm (zab rfl) zef (hL cs raw b nt hl)
  have l2 : pe tok Φ (.meth "longest_run_of_spaces" (.var 1) []) [(0, .fz (.obj (gF cs raw b nt))), (1, .fz (.obj (gF cs' raw' b' nt')))] = _ := zco (ds := []) nm (zab rfl) zef (hL cs' raw' b' nt' hl')
  have hmax : pe tok Φ (.call (.cst (.fn "max")) [.meth "longest_run_of_spaces" (.var 0) [], .meth "longest_run_of_spaces" (.var 1) []]) [(0, .fz (.obj (gF cs raw b nt))), (1, .fz (.obj (gF cs' raw' b' nt')))] = some (.d (.int ((max (longN cs b) (longN cs' b') : Nat) : Int))) := by
    refine q_bi rfl (zau l1 l2) ?_
    refine (show callP "max" [.d (.int _), .d (.int _)] = some (.int (if _ > _ then _ else _)) from rfl).trans ?_
    rw [zmq]
  have en := zao hmax (q_c (n := 1))
  have hlong : max (longN cs b) (longN cs' b') ≤ 5000 := by unfold longN; lia
  generalize hN : max (longN cs b) (longN cs' b') + 1 = n at en
  have loop : ∀ (l : List Nat) (acc : List D) (σ : Sg), (∀ t ∈ l, 1 ≤ t /\ t ≤ 10000) -> acc.length + l.length ≤ 20000 -> σ.lookup 0 = some (.fz (.obj (gF cs raw b nt))) -> σ.lookup 1 = some (.fz (.obj (gF cs' raw' b' nt'))) -> σ.lookup 3 = some (.own acc) ->
      ∃ σ', ForR (.nm 4) (evs tok Φ Ψ [.iff (.cmp .NotEq (.meth "indent_level" (.var 0) [.var 4]) (.meth "indent_level" (.var 1) [.var 4])) [.app 3 (.tup [.var 4, .meth "indent_level" (.var 0) [.var 4], .meth "indent_level" (.var 1) [.var 4]])] []]) (l.map λ (i : Nat) => D.int (i : Int)) σ .next σ' /\
        σ'.lookup 3 = some (.own (acc ++ l.flatMap λ ts => if indF cs b nt ts = indF cs' b' nt' ts then [] else [.tup [.int (ts : Int), .int ((indF cs b nt ts : Nat) : Int), .int ((indF cs' b' nt' ts : Nat) : Int)]])) := by
    intro l
    induction l with
    | nil => intro acc σ _ _ g0 g1 g3; exact ⟨σ, .nil, by rw [List.flatMap_nil, List.append_nil]; exact g3⟩
    | cons t l ih =>
      intro acc σ ht ha g0 g1 g3
      have h1 := ht t (.head _)
      rw [List.length_cons] at ha
      have k0 : ((4, B.fz (.int (t : Int))) :: σ).lookup 0 = some (.fz (.obj (gF cs raw b nt))) := g0
      have k1 : ((4, B.fz (.int (t : Int))) :: σ).lookup 1 = some (.fz (.obj (gF cs' raw' b' nt'))) := g1
      have k3 : ((4, B.fz (.int (t : Int))) :: σ).lookup 3 = some (.own acc) := g3
      have i0 : pe tok Φ (.meth "indent_level" (.var 0) [.var 4]) ((4, B.fz (.int (t : Int))) :: σ) = _ := zco (ds := [.int (t : Int)]) nm2 (zab k0) (zaB (zab zaa)) (hI cs raw b nt t hl h1.1 h1.2)
      have i1 : pe tok Φ (.meth "indent_level" (.var 1) [.var 4]) ((4, B.fz (.int (t : Int))) :: σ) = _ := zco (ds := [.int (t : Int)]) nm2 (zab k1) (zaB (zab zaa)) (hI cs' raw' b' nt' t hl' h1.1 h1.2)
      have ec := zmJ i0 i1
      rw [List.flatMap_cons]
      by_cases h : indF cs b nt t = indF cs' b' nt' t
      · rw [decide_eq_false (by rw [h]; simp)] at ec
        obtain ⟨σ', f, e⟩ := ih acc ((4, B.fz (.int (t : Int))) :: σ) (λ j hj => ht j (.tail _ hj)) (by lia) k0 k1 k3
        exact ⟨σ', .next rfl (zad (zc0 ec zag) zag) f, by rw [if_pos h, List.nil_append]; exact e⟩
      · rw [decide_eq_true (by lia)] at ec
        have et := zbc (ds := [.int (t : Int), .int ((indF cs b nt t : Nat) : Int), .int ((indF cs' b' nt' t : Nat) : Int)]) (zak (zab zaa) (zau i0 i1))
        obtain ⟨σ', f, e⟩ := ih (acc ++ [.tup [.int (t : Int), .int ((indF cs b nt t : Nat) : Int), .int ((indF cs' b' nt' t : Nat) : Int)]]) ((3, .own (acc ++ [.tup [.int (t : Int), .int ((indF cs b nt t : Nat) : Int), .int ((indF cs' b' nt' t : Nat) : Int)]])) :: (4, B.fz (.int (t : Int))) :: σ)
          (λ j hj => ht j (.tail _ hj)) (by simp; lia) (k0) (k1) zaa
        exact ⟨σ', .next rfl (zad (zdi ec (zad (zej k3 et (by lia)) zag)) zag) f, by rw [if_neg h, <- List.append_assoc]; exact e⟩
  obtain ⟨σ', f, e⟩ := loop (List.range' 1 n) [] [(3, .own []), (2, .fz (.int (n : Int))), (0, .fz (.obj (gF cs raw b nt))), (1, .fz (.obj (gF cs' raw' b' nt')))] (λ t ht => by rw [List.mem_range'_1] at ht; lia) (by simp; lia) rfl rfl rfl
  rw [List.nil_append] at e
  have hr := zkr (tok := tok) (Φ := Φ) (m := 1) (n := n + 1) (fz := true) (p := .nm 4) (by lia) (by lia) (q_c (σ := [(3, .own []), (2, .fz (.int (n : Int))), (0, .fz (.obj (gF cs raw b nt))), (1, .fz (.obj (gF cs' raw' b' nt')))])) (zao (q_vi (n := 2) rfl) (q_c (n := 1)))
  rw [Nat.add_sub_cancel] at hr
  refine ⟨σ', zad (zaq en) (zad (zfL (zbw (ds := []) zef)) (zad (zci hr f) (zaF (zdE ?_))))⟩
  unfold witF
  rw [hN]; exact e
end
noncomputable def Same (a b : List Nat) : Prop := ∀ k, cntN k a = cntN k b
theorem zbf (k a : Nat) (r : List Nat) : cntN k (a :: r) = (if a = k then 1 else 0) + cntN k r := by
  rw [cntN]
  by_cases h : a = k
  · rw [if_pos h, h, Nat.beq_refl]; show cntN k r + 1 = _; lia
  · have : Nat.beq a k = false := by rw [<- Bool.not_eq_true, Nat.beq_eq]; exact h
    rw [if_neg h, this]; show cntN k r = _; lia
theorem zbe (k : Nat) : ∀ r : List Nat, cntN k r = r.count k
  | [] => rfl
  | a :: r => by
    rw [zbf, List.count_cons, zbe k r]
    by_cases h : a = k
    · subst h; simp; lia
    · have : (a == k) = false := by simpa using h
      rw [if_neg h, this]; simp
theorem same_perm {a b : List Nat} : Same a b ↔ a.Perm b := by
  rw [List.perm_iff_count]
  exact forall_congr' λ k => by rw [zbe, zbe]
theorem zf5 (a : Nat) : ∀ l : List Nat, (insN a l).Perm (a :: l)
  | [] => .refl _
  | b :: l => by
    rw [insN]
    cases Nat.ble a b with
    | true => exact .refl _
    | false => exact ((zf5 a l).cons b).trans (.swap a b l)
theorem zc1 : ∀ l : List Nat, (sortN l).Perm l
  | [] => .refl _
  | a :: l => (zf5 a (sortN l)).trans ((zc1 l).cons a)
theorem zfY (a b : Nat) : ∀ l : List Nat, insN a (insN b l) = insN b (insN a l)
  | [] => by
    show (bif Nat.ble a b then [a, b] else [b, a]) = (bif Nat.ble b a then [b, a] else [a, b])
    rcases Nat.lt_trichotomy a b with h | h | h
    · have h1 : Nat.ble a b = true := Nat.ble_eq.mpr (by lia)
      have h2 : Nat.ble b a = false := by rw [<- Bool.not_eq_true, Nat.ble_eq]; lia
      rw [h1, h2]; rfl
    · subst h; rfl
    · have h1 : Nat.ble b a = true := Nat.ble_eq.mpr (by lia)
      have h2 : Nat.ble a b = false := by rw [<- Bool.not_eq_true, Nat.ble_eq]; lia
      rw [h1, h2]; rfl
  | c :: l => by
    have ih := zfY a b l
    by_cases ha : a ≤ c <;> by_cases hb : b ≤ c
    · have h1 : Nat.ble a c = true := Nat.ble_eq.mpr ha
      have h2 : Nat.ble b c = true := Nat.ble_eq.mpr hb
      have e1 : insN a (c :: l) = a :: c :: l := by rw [insN, h1]; rfl
      have e2 : insN b (c :: l) = b :: c :: l := by rw [insN, h2]; rfl
      rw [e1, e2]
      show (bif Nat.ble a b then a :: b :: c :: l else b :: insN a (c :: l)) = (bif Nat.ble b a then b :: a :: c :: l else a :: insN b (c :: l))
      rw [e1, e2]
      rcases Nat.lt_trichotomy a b with h | h | h
      · have h1 : Nat.ble a b = true := Nat.ble_eq.mpr (by lia)
        have h2 : Nat.ble b a = false := by rw [<- Bool.not_eq_true, Nat.ble_eq]; lia
        rw [h1, h2]; rfl
      · subst h; rfl
      · have h1 : Nat.ble b a = true := Nat.ble_eq.mpr (by lia)
        have h2 : Nat.ble a b = false := by rw [<- Bool.not_eq_true, Nat.ble_eq]; lia
        rw [h1, h2]; rfl
    · have h1 : Nat.ble a c = true := Nat.ble_eq.mpr ha
      have h2 : Nat.ble b c = false := by rw [<- Bool.not_eq_true, Nat.ble_eq]; lia
      have h3 : Nat.ble b a = false := by rw [<- Bool.not_eq_true, Nat.ble_eq]; lia
      have e1 : insN a (c :: l) = a :: c :: l := by rw [insN, h1]; rfl
      have e2 : insN b (c :: l) = c :: insN b l := by rw [insN, h2]; rfl
      have e3 : insN a (c :: insN b l) = a :: c :: insN b l := by rw [insN, h1]; rfl
      have e4 : insN b (a :: c :: l) = a :: insN b (c :: l) := by rw [insN, h3]; rfl
      rw [e1, e2, e3, e4, e2]
    · have h1 : Nat.ble b c = true := Nat.ble_eq.mpr hb
      have h2 : Nat.ble a c = false := by rw [<- Bool.not_eq_true, Nat.ble_eq]; lia
      have h3 : Nat.ble a b = false := by rw [<- Bool.not_eq_true, Nat.ble_eq]; lia
      have e1 : insN b (c :: l) = b :: c :: l := by rw [insN, h1]; rfl
      have e2 : insN a (c :: l) = c :: insN a l := by rw [insN, h2]; rfl
      have e3 : insN b (c :: insN a l) = b :: c :: insN a l := by rw [insN, h1]; rfl
      have e4 : insN a (b :: c :: l) = b :: insN a (c :: l) := by rw [insN, h3]; rfl
      rw [e1, e2, e3, e4, e2]
    · have h1 : Nat.ble a c = false := by rw [<- Bool.not_eq_true, Nat.ble_eq]; lia
      have h2 : Nat.ble b c = false := by rw [<- Bool.not_eq_true, Nat.ble_eq]; lia
      have e : ∀ (x : Nat) (m : List Nat), Nat.ble x c = false -> insN x (c :: m) = c :: insN x m := λ x m h => by rw [insN, h]; rfl
      rw [e _ _ h2, e _ _ h1, e _ _ h1, e _ _ h2, ih]
theorem zjX {a b : List Nat} (h : a.Perm b) : sortN a = sortN b := by
  induction h with
  | nil => rfl
  | cons x _ ih => rw [sortN, sortN, ih]
  | swap x y l => rw [sortN, sortN, sortN, sortN, zfY]
  | trans _ _ h1 h2 => exact h1.trans h2
theorem zdJ {a b : List Nat} : Same a b ↔ sortN a = sortN b :=
  ⟨λ h => zjX (same_perm.mp h), λ h => same_perm.mpr ((zc1 a).symm.trans (h ▸ zc1 b))⟩
theorem zeY : ∀ (l : List Nat) (i k v : Nat), i < l.length -> nth (l.set i v) k = if k = i then v else nth l k
  | [], i, k, v, h => by simp at h
  | x :: l, 0, 0, v, h => rfl
  | x :: l, 0, k + 1, v, h => by rw [if_neg (by lia)]; rfl
  | x :: l, i + 1, 0, v, h => by rw [if_neg (by lia)]; rfl
  | x :: l, i + 1, k + 1, v, h => by
    show nth (l.set i v) k = _
    rw [zeY l i k v (by simpa using h)]
    by_cases e : k = i
    · subst e; simp
    · rw [if_neg e, if_neg (by lia)]; rfl
theorem zeN : ∀ (l : List Nat) (n k : Nat), nth (l ++ List.replicate n 0) k = nth l k
  | [], n, k => by
    rw [List.nil_append]
    show nth (List.replicate n 0) k = 0
    induction n generalizing k with
    | zero => rfl
    | succ n ih => cases k with
      | zero => rfl
      | succ k => exact ih k
  | x :: l, n, 0 => rfl
  | x :: l, n, k + 1 => zeN l n k
theorem zla (cs : List Nat) (r k : Nat) : nth (bump cs r) k = (if r = k then 1 else 0) + nth cs k := by
  unfold bump
  rw [zeY _ _ _ _ (by simp; lia), zeN, zeN]
  by_cases h : r = k
  · subst h; simp; lia
  · rw [if_neg (λ e => h e.symm), if_neg h, Nat.zero_add]
theorem zhF : ∀ (r cs : List Nat) (k : Nat), nth (r.foldl bump cs) k = nth cs k + cntN k r
  | [], cs, k => rfl
  | a :: r, cs, k => by rw [List.foldl_cons, zhF r, zla, zbf]; lia
theorem zcw (r : List Nat) (k : Nat) : nth (cnt r) k = cntN k r := by
  unfold cnt; rw [zhF]; show 0 + _ = _; lia
theorem zhl : ∀ (r cs : List Nat) (n : Nat), (r.foldl bump cs).length ≤ n ↔ cs.length ≤ n /\ ∀ k ∈ r, k < n
  | [], cs, n => by simp
  | a :: r, cs, n => by
    rw [List.foldl_cons, zhl r, zfk]
    simp only [List.mem_cons, forall_eq_or_imp]
    constructor
    · rintro ⟨h1, h2⟩; exact ⟨by lia, by lia, h2⟩
    · rintro ⟨h1, h2, h3⟩; exact ⟨by lia, h3⟩
theorem zd1 (r : List Nat) (n : Nat) : (cnt r).length ≤ n ↔ ∀ k ∈ r, k < n := by
  unfold cnt; rw [zhl]; simp
theorem zj9 : ∀ {a b : List Nat}, a.length = b.length -> (∀ k, nth a k = nth b k) -> a = b
  | [], [], _, _ => rfl
  | [], _ :: _, h, _ => by simp at h
  | _ :: _, [], h, _ => by simp at h
  | x :: a, y :: b, h, e => by
    have e0 : x = y := e 0
    rw [e0, zj9 (a := a) (b := b) (by simpa using h) λ k => e (k + 1)]
theorem zgH {a b : List Nat} : cnt a = cnt b ↔ Same a b := by
  constructor
  · intro h k
    rw [<- zcw, <- zcw, h]
  · intro h
    have p := same_perm.mp h
    refine zj9 ?_ λ k => by rw [zcw, zcw]; exact h k
    have e : ∀ n, (cnt a).length ≤ n ↔ (cnt b).length ≤ n := λ n => by
      rw [zd1, zd1]
      exact forall_congr' λ k => by rw [p.mem_iff]
    exact Nat.le_antisymm ((e _).mpr (Nat.le_refl _)) ((e _).mp (Nat.le_refl _))
theorem zfx {φ : Nat -> Nat} {N : Nat} (hφ : ∀ x y, x < N -> y < N -> φ x = φ y -> x = y) {x : Nat} (hx : x < N) : ∀ {a : List Nat}, (∀ y ∈ a, y < N) -> cntN (φ x) (a.map φ) = cntN x a
  | [], _ => rfl
  | y :: a, h => by
    rw [List.map_cons, zbf, zbf, zfx hφ hx λ z hz => h z (.tail _ hz)]
    by_cases e : y = x
    · rw [if_pos e, if_pos (by rw [e])]
    · rw [if_neg e, if_neg λ e' => e (hφ y x (h y (.head _)) hx e')]
theorem zgW {x : Nat} : ∀ {a : List Nat}, (∀ y ∈ a, y ≠ x) -> cntN x a = 0
  | [], _ => rfl
  | y :: a, h => by rw [zbf, if_neg (h y (.head _)), zgW λ z hz => h z (.tail _ hz)]
theorem zg9 {φ : Nat -> Nat} {N : Nat} (hφ : ∀ x y, x < N -> y < N -> φ x = φ y -> x = y) {a b : List Nat} (ha : ∀ y ∈ a, y < N) (hb : ∀ y ∈ b, y < N) : Same (a.map φ) (b.map φ) ↔ Same a b := by
  constructor
  · intro h k
    by_cases hk : k < N
    · rw [<- zfx hφ hk ha, <- zfx hφ hk hb]; exact h _
    · rw [zgW (a := a) λ y hy e => hk (by rw [<- e]; exact ha y hy), zgW (a := b) λ y hy e => hk (by rw [<- e]; exact hb y hy)]
  · intro h
    exact same_perm.mpr ((same_perm.mp h).map φ)
theorem zlD {φ : Nat -> Nat} {N : Nat} (hφ : ∀ x y, x < N -> y < N -> φ x = φ y -> x = y) : ∀ {a : List Nat}, (∀ y ∈ a, y < N) -> pc (a.map φ) = pc a
  | [], _ => rfl
  | y :: a, h => by
    rw [List.map_cons, pc, pc, zlD hφ λ z hz => h z (.tail _ hz), zfx hφ (h y (.head _)) λ z hz => h z (.tail _ hz)]
noncomputable def prF (cs : List Nat) : Nat := cs.foldr (λ c p => fac c * p) 1
theorem zno (a b : List Nat) : prF (a ++ b) = prF a * prF b := by
  induction a with
  | nil => show _ = 1 * _; rw [Nat.one_mul]; rfl
  | cons x a ih => show fac x * prF (a ++ b) = fac x * prF a * prF b; rw [ih, Nat.mul_assoc]
theorem zln (n : Nat) : prF (List.replicate n 0) = 1 := by
  induction n with
  | zero => rfl
  | succ n ih => rw [List.replicate_succ]; show 1 * prF _ = 1; rw [ih]
theorem zjt : ∀ (l : List Nat) (i : Nat), i < l.length -> prF (l.set i (nth l i + 1)) = (nth l i + 1) * prF l
  | [], i, h => by simp at h
  | x :: l, 0, h => by
    show fac (x + 1) * prF l = (x + 1) * (fac x * prF l)
    rw [fac, Nat.mul_assoc]
  | x :: l, i + 1, h => by
    show fac x * prF (l.set i (nth l i + 1)) = (nth l i + 1) * (fac x * prF l)
    rw [zjt l i (by simpa using h), Nat.mul_left_comm]
theorem zle (cs : List Nat) (r : Nat) : prF (bump cs r) = (nth cs r + 1) * prF cs := by
  unfold bump
  rw [zjt _ _ (by simp; lia), zno, zln, Nat.mul_one, zeN]
theorem zi1 (k : Nat) : ∀ r : List Nat, pc (r ++ [k]) = (cntN k r + 1) * pc r
  | [] => rfl
  | x :: r => by
    have hc : ∀ (y : Nat) (a : List Nat), cntN y (a ++ [k]) = cntN y a + if k = y then 1 else 0 := λ y a => by
      rw [zbe, zbe, List.count_append]
      by_cases h : k = y
      · subst h; simp
      · have : (k == y) = false := by simpa using h
        rw [if_neg h, List.count_cons, this]; simp
    rw [List.cons_append, pc, pc, zi1 k r, hc, zbf]
    by_cases h : k = x
    · subst h; rw [if_pos rfl]; simp only [Nat.mul_left_comm, Nat.add_comm 1]
    · rw [if_neg h, if_neg (λ e => h e.symm)]
      simp only [Nat.mul_left_comm, Nat.zero_add, Nat.add_zero]
theorem znf (r : List Nat) : prF (cnt r) = pc r := by
  have key : ∀ l : List Nat, prF (cnt l.reverse) = pc l.reverse := by
    intro l
    induction l with
    | nil => rfl
    | cons x l ih =>
      rw [List.reverse_cons, zi1, <- ih, <- zcw, <- zle]
      unfold cnt
      rw [List.foldl_append]; rfl
  have := key r.reverse
  rwa [List.reverse_reverse] at this
theorem divs : ∀ (cs : List Nat) (w : Nat), cs.foldl (λ w c => w / fac c) w = w / prF cs
  | [], w => by show w = w / 1; rw [Nat.div_one]
  | c :: cs, w => by
    rw [List.foldl_cons, divs cs, Nat.div_div_eq_div_mul]; rfl
theorem zmo (w : Nat) (r : List Nat) : (cnt r).foldl (λ w c => w / fac c) (w * fac r.length) = stW w r := by
  rw [divs, znf]; rfl
theorem zi0 : ∀ {a b : List Nat}, lc a = lc b -> a = b
  | [], [], _ => rfl
  | [], k :: r, h => by rw [lc, lc] at h; lia
  | k :: r, [], h => by rw [lc, lc] at h; lia
  | k :: r, j :: s, h => by
    rw [lc, lc] at h
    have key : ∀ {x y k j : Nat}, k ≤ x -> j ≤ y -> x * x + k = y * y + j -> x = y /\ k = j := λ {x y k j} hk hj e => by
      rcases Nat.lt_trichotomy x y with h | h | h
      · have : (x + 1) * (x + 1) ≤ y * y := Nat.mul_le_mul h h
        have e2 : (x + 1) * (x + 1) = x * x + 2 * x + 1 := by rw [Nat.add_mul, Nat.mul_add]; lia
        lia
      · subst h; exact ⟨rfl, by lia⟩
      · have : (y + 1) * (y + 1) ≤ x * x := Nat.mul_le_mul h h
        have e2 : (y + 1) * (y + 1) = y * y + 2 * y + 1 := by rw [Nat.add_mul, Nat.mul_add]; lia
        lia
    obtain ⟨h1, h2⟩ := key (x := k + lc r) (y := j + lc s) (k := k) (j := j) (by lia) (by lia) (by lia)
    subst h2
    rw [zi0 (a := r) (b := s) (by lia)]
theorem zmO {l m : Nat} {a b : List Nat} (hl : l < 2) (hm : m < 2) (h : enc l a = enc m b) : l = m /\ a = b := by
  unfold enc at h
  exact ⟨by lia, zi0 (by lia)⟩
noncomputable def sm (f : Nat -> Nat) : List Nat -> Nat
  | [] => 0
  | x :: l => f x + sm f l
theorem zhb (f : Nat -> Nat) : ∀ (l : List Nat) (a : Nat), l.foldl (λ a i => a + f i) a = a + sm f l
  | [], a => rfl
  | x :: l, a => by rw [List.foldl_cons, zhb f l, sm]; lia
theorem ziE (f g : Nat -> Nat) : ∀ l : List Nat, sm (λ x => f x + g x) l = sm f l + sm g l
  | [] => rfl
  | x :: l => by simp only [sm]; rw [ziE f g l]; lia
theorem zjM {f : Nat -> Nat} : ∀ {l : List Nat}, (∀ x ∈ l, f x = 0) -> sm f l = 0
  | [], _ => rfl
  | x :: l, h => by rw [sm, h x (.head _), zjM λ y hy => h y (.tail _ hy)]
theorem zlL (v k : Nat) : ∀ (n s : Nat), sm (λ i => i / v * if k = i then 1 else 0) (List.range' s n) = if s ≤ k /\ k < s + n then k / v else 0
  | 0, s => by rw [if_neg (by lia)]; rfl
  | n + 1, s => by
    rw [List.range'_succ, sm, zlL v k n (s + 1)]
    by_cases h : k = s
    · subst h; rw [if_pos rfl, if_neg (by lia), if_pos (by lia)]; lia
    · rw [if_neg h]
      by_cases h2 : s ≤ k /\ k < s + (n + 1)
      · rw [if_pos h2, if_pos (by lia)]; lia
      · rw [if_neg h2, if_neg (by lia), Nat.mul_zero]
theorem zfm {f g : Nat -> Nat} : ∀ {l : List Nat}, (∀ x ∈ l, f x = g x) -> sm f l = sm g l
  | [], _ => rfl
  | x :: l, h => by rw [sm, sm, h x (.head _), zfm λ y hy => h y (.tail _ hy)]
theorem zlC {t n : Nat} (ht : 1 ≤ t) : ∀ {r : List Nat}, (∀ k ∈ r, k < n) -> sm (λ i => i / t * cntN i r) (List.range' t (n - t)) = sm (λ k => k / t) r
  | [], _ => zjM λ x _ => by show x / t * 0 = 0; rw [Nat.mul_zero]
  | k :: r, h => by
    have e : sm (λ i => i / t * cntN i (k :: r)) (List.range' t (n - t)) = sm (λ i => i / t * (if k = i then 1 else 0) + i / t * cntN i r) (List.range' t (n - t)) := zfm λ x _ => by rw [zbf, Nat.mul_add]
    rw [e, ziE, zlL, zlC ht λ y hy => h y (.tail _ hy), sm]
    have hk := h k (.head _)
    by_cases h2 : t ≤ k
    · rw [if_pos (by lia)]
    · rw [if_neg (by lia), Nat.div_eq_of_lt (by lia)]
theorem zhI (c : Nat) : ∀ l : List Nat, sm (λ _ => c) l = c * l.length
  | [] => rfl
  | x :: l => by rw [sm, zhI c l, List.length_cons, Nat.mul_succ]; lia
theorem zks (runs : List Nat) (b : Nat) {t : Nat} (ht : 1 ≤ t) : indF (cnt runs) b runs.length t = t * sm (λ k => k / t + 1) runs + b := by
  unfold indF
  have e : ∀ l : List Nat, l.foldl (λ a i => a + i / t * nth (cnt runs) i) 0 = sm (λ i => i / t * cntN i runs) l := λ l => by
    rw [zhb λ i => i / t * nth (cnt runs) i, Nat.zero_add]
    exact zfm λ x _ => by rw [zcw]
  rw [e, zlC ht ((zd1 runs _).mp (Nat.le_refl _)), ziE, zhI, Nat.one_mul, Nat.add_comm]
section
variable {tok : Str -> Option Int} {Φ : String -> List D -> Option D} {Ψ : String -> List D -> Option (D × List D)} {σ : Sg} {a b c : T} {r : R}
theorem zc2 {α : Type} {f : D -> Option (List D)} {u : α -> D} {g : α -> List D} : ∀ {l : List α}, (∀ x ∈ l, f (u x) = some (g x)) -> flatO f (l.map u) = some (l.flatMap g)
  | [], _ => rfl
  | d :: l, h => by
    rw [List.map_cons, flatO, h d (.head _), zc2 λ e he => h e (.tail _ he)]
    rfl
theorem znH {α : Type} {p : Pt} {it ifs body : T} {fr : List Nat} {l : List α} {u : α -> D} {g : α -> List D} (hit : pit tok Φ false it p σ = some (l.map u))
    (hg : ∀ x ∈ l, ∃ τ b, pb p (u x) (σ.filter λ q => fr.contains q.1) = some τ /\ pe tok Φ ifs τ = some (.d (.bool b)) /\ (b = true -> pgen tok Φ body τ = some (g x)) /\ (b = false -> g x = []))
    (hl : (l.flatMap g).length ≤ 2 ^ 20) : pe tok Φ (.lc p it ifs body fr) σ = some (.d (.lst (l.flatMap g))) := by
  refine bnd hit (bnd (zc2 (g := g) λ d hd => ?_) (if_pos hl))
  obtain ⟨τ, b, h1, h2, h3, h4⟩ := hg d hd
  refine bnd h1 (bnd (bnd h2 rfl) ?_)
  cases b with
  | true => exact h3 rfl
  | false => exact congrArg some (h4 rfl).symm
theorem zbN {α : Type} (c : α -> Bool) (f : α -> D) : ∀ l : List α, (l.flatMap λ x => if c x = true then [f x] else []) = (l.filter c).map f
  | [] => rfl
  | x :: l => by
    rw [List.flatMap_cons, List.filter_cons, zbN c f l]
    cases c x <;> rfl
theorem zjL {α : Type} {p : Pt} {it ifs e : T} {fr : List Nat} {l : List α} {u : α -> D} {s : α -> Bool} {f : α -> D} (hit : pit tok Φ false it p σ = some (l.map u))
    (hg : ∀ x ∈ l, ∃ τ, pb p (u x) (σ.filter λ q => fr.contains q.1) = some τ /\ pe tok Φ ifs τ = some (.d (.bool (s x))) /\ (s x = true -> pe tok Φ e τ = some (.d (f x))))
    (hl : l.length ≤ 2 ^ 20) : pe tok Φ (.lc p it ifs (.yld e) fr) σ = some (.d (.lst ((l.filter s).map f))) := by
  have := znH (tok := tok) (Φ := Φ) (σ := σ) (p := p) (it := it) (ifs := ifs) (body := .yld e) (fr := fr) (g := λ x => if s x = true then [f x] else []) hit (λ x hx => by
    obtain ⟨τ, h1, h2, h3⟩ := hg x hx
    exact ⟨τ, s x, h1, h2, λ h => by rw [if_pos h]; exact zlv (h3 h), λ h => by rw [h]; rfl⟩) (by
    rw [zbN, List.length_map]; exact Nat.le_trans (List.length_filter_le _ _) hl)
  rw [zbN] at this
  exact this
theorem zcr {α : Type} {p : Pt} {it e : T} {fr : List Nat} {l : List α} {u : α -> D} {f : α -> D} (hit : pit tok Φ false it p σ = some (l.map u))
    (hg : ∀ x ∈ l, ∃ τ, pb p (u x) (σ.filter λ q => fr.contains q.1) = some τ /\ pe tok Φ e τ = some (.d (f x)))
    (hl : l.length ≤ 2 ^ 20) : pe tok Φ (.lc p it (.all_ .And []) (.yld e) fr) σ = some (.d (.lst (l.map f))) := by
  have := zjL (tok := tok) (Φ := Φ) (σ := σ) (p := p) (it := it) (ifs := .all_ .And []) (e := e) (fr := fr) (s := λ _ => true) (f := f) hit (λ x hx => by
    obtain ⟨τ, h1, h2⟩ := hg x hx
    exact ⟨τ, h1, zdv zcm, λ _ => h2⟩) hl
  rw [List.filter_eq_self.mpr λ _ _ => rfl] at this
  exact this
end
noncomputable def tF (L : List Nat) (a : Nat) : Nat := if a = 0 then 0 else dp L (a - 1) + 1
noncomputable def labF (L : List Nat) (behind a : Nat) : Nat := if a = 0 then behind else lb L (a - 1)
noncomputable def kidsG (L : List Nat) (t : Nat) : Nat -> Nat -> List Nat
  | _, 0 => []
  | a, n + 1 => if dp L a < t then [] else if dp L a = t then a :: kidsG L t (a + 1) n else kidsG L t (a + 1) n
noncomputable def kidP (L : List Nat) (t a b : Nat) : Bool := decide (dp L b = t) && (((L.drop a).take (b - a)).all λ x => decide (t ≤ x / 2))
theorem zdo : ∀ {L : List Nat} {a : Nat}, a < L.length -> L.drop a = nth L a :: L.drop (a + 1)
  | [], a, h => by simp at h
  | x :: r, 0, _ => rfl
  | x :: r, a + 1, h => zdo (L := r) (by simpa using h)
theorem zjV {L : List Nat} (t : Nat) : ∀ (n a : Nat), a + n = L.length -> (List.range' a n).filter (kidP L t a) = kidsG L t a n
  | 0, a, h => rfl
  | n + 1, a, h => by
    have hd := zdo (L := L) (a := a) (by lia)
    have rest : (List.range' (a + 1) n).filter (kidP L t a) = if t ≤ dp L a then kidsG L t (a + 1) n else [] := by
      by_cases ht : t ≤ dp L a
      · rw [if_pos ht, <- zjV t n (a + 1) (by lia)]
        refine List.filter_congr λ b hb => ?_
        rw [List.mem_range'_1] at hb
        unfold kidP
        rw [hd, show b - a = (b - (a + 1)) + 1 from by lia, List.take_succ_cons, List.all_cons]
        have : decide (t ≤ nth L a / 2) = true := decide_eq_true ht
        rw [this, Bool.true_and]
      · rw [if_neg ht]
        refine List.filter_eq_nil_iff.mpr λ b hb => ?_
        rw [List.mem_range'_1] at hb
        unfold kidP
        rw [hd, show b - a = (b - (a + 1)) + 1 from by lia, List.take_succ_cons, List.all_cons]
        have : decide (t ≤ nth L a / 2) = false := decide_eq_false ht
        rw [this, Bool.false_and, Bool.and_false]; exact Bool.false_ne_true
    rw [List.range'_succ, List.filter_cons, rest, kidsG]
    have e : kidP L t a a = decide (dp L a = t) := by unfold kidP; rw [Nat.sub_self, List.take_zero]; exact Bool.and_true _
    rw [e]
    by_cases h1 : dp L a < t
    · rw [if_pos h1, if_neg (show ¬ t ≤ dp L a by lia), decide_eq_false (show ¬ dp L a = t by lia)]; rfl
    · rw [if_neg h1, if_pos (show t ≤ dp L a by lia)]
      by_cases h2 : dp L a = t
      · rw [if_pos h2, decide_eq_true h2]; rfl
      · rw [if_neg h2, decide_eq_false h2]; rfl
noncomputable def codeF (L : List Nat) (k : Nat) : Nat := enc (lb L k) (sortN (pick (dp L k + 1) (stOf (L.drop (k + 1)))))
theorem znh {L : List Nat} {a : Nat} (h : a < L.length) : stOf (L.drop a) = (dp L a, codeF L a) :: stOf (L.drop (a + 1)) := by rw [zdo h, stOf]; rfl
theorem zfP {L : List Nat} (t : Nat) : ∀ (n a : Nat), a + n = L.length -> pick t (stOf (L.drop a)) = (kidsG L t a n).map (codeF L)
  | 0, a, h => by rw [List.drop_of_length_le (by lia)]; rfl
  | n + 1, a, h => by
    rw [znh (by lia), pick, kidsG, zfP t n (a + 1) (by lia), zbo, zgS]
    by_cases h1 : dp L a < t
    · rw [if_pos h1, decide_eq_true h1]; rfl
    · rw [if_neg h1, decide_eq_false h1]
      by_cases h2 : dp L a = t
      · rw [if_pos h2, decide_eq_true h2]; rfl
      · rw [if_neg h2, decide_eq_false h2]; rfl
theorem zdA {L : List Nat} {t : Nat} : ∀ {n a : Nat}, ∀ b ∈ kidsG L t a n, a ≤ b /\ b < a + n
  | 0, a, b, h => by cases h
  | n + 1, a, b, h => by
    rw [kidsG] at h
    split at h
    · cases h
    · split at h
      · rcases List.mem_cons.mp h with rfl | h
        · lia
        · have := zdA b h; lia
      · have := zdA b h; lia
theorem zds {L : List Nat} {t : Nat} : ∀ {n a : Nat}, (kidsG L t a n).length ≤ n
  | 0, a => Nat.le_refl _
  | n + 1, a => by
    rw [kidsG]
    have := zds (L := L) (t := t) (n := n) (a := a + 1)
    split
    · simp
    · split
      · rw [List.length_cons]; lia
      · lia
theorem zj7 {x : Int} : ∀ (l : List Int) (a : Int), x < minL a l ↔ x < a /\ ∀ y ∈ l, x < y
  | [], a => by show x < a ↔ _; simp
  | y :: l, a => by
    show x < minL (if y < a then y else a) l ↔ _
    rw [zj7 l]
    simp only [List.mem_cons, forall_eq_or_imp]
    constructor
    · rintro ⟨h1, h2⟩
      split at h1 <;> exact ⟨by lia, by lia, h2⟩
    · rintro ⟨h1, h2, h3⟩
      refine ⟨?_, h3⟩
      split <;> lia
section
variable {tok : Str -> Option Int} {Φ : String -> List D -> Option D} {Ψ : String -> List D -> Option (D × List D)} {σ : Sg} {a b c : T} {r : R}
noncomputable def abvD (L : List Nat) (behind : Nat) : D := .lst (.tup [.int (-1), .int (behind : Int)] :: L.map ln)
theorem zkh {L : List Nat} {behind a : Nat} (h : a ≤ L.length) : ((D.tup [.int (-1), .int (behind : Int)] :: L.map ln)[a]?) = some (.tup [.int ((tF L a : Nat) - 1 : Int), .int ((labF L behind a : Nat) : Int)]) := by
  cases a with
  | zero => rfl
  | succ a =>
    rw [List.getElem?_cons_succ, zl5 (by lia)]
    show some (D.tup [.int ((dp L a : Nat) : Int), .int ((lb L a : Nat) : Int)]) = some (D.tup [.int (((dp L a + 1 : Nat) : Int) - 1), .int ((lb L a : Nat) : Int)])
    congr 4
    rw [Int.natCast_add]; show _ = _ + 1 - 1; lia
theorem zpq {L : List Nat} {behind k n : Nat} (h : σ.lookup n = some (.fz (abvD L behind))) (hk : pe tok Φ b σ = some (.d (.int (k : Int)))) (hl : k ≤ L.length) (hs : k ≤ 1000) :
    pe tok Φ (.sub (.sub (.var n) b) (.cst (.int 0))) σ = some (.d (.int ((tF L k : Nat) - 1 : Int))) /\ pe tok Φ (.sub (.sub (.var n) b) (.cst (.int 1))) σ = some (.d (.int ((labF L behind k : Nat) : Int))) :=
  ⟨zat (n := 0) (zat (zab h) rfl hk (by lia) (zkh hl)) rfl q_cst (by decide) rfl, zat (n := 1) (zat (zab h) rfl hk (by lia) (zkh hl)) rfl q_cst (by decide) rfl⟩
noncomputable def kidsX : T := .lc (.nm 16) (.rng (.var 6) (.cst (.int 5))) (.all_ .And [.all_ .And [.cmp .Eq (.sub (.sub (.var 0) (.var 16)) (.cst (.int 0))) (.bin .Add (.sub (.sub (.var 5) (.var 6)) (.cst (.int 0))) (.cst (.int 1))), .cmp .Gt (.call (.cst (.fn "min")) [.bin .Add (.lst [.cst (.int 9)]) (.lc (.tp [.nm 18, .nm 19]) (.pln (.slc (.var 0) (.var 6) (.var 16) (.cst (.none)))) (.all_ .And []) (.yld (.var 18)) [])]) (.sub (.sub (.var 5) (.var 6)) (.cst (.int 0)))]]) (.yld (.var 16)) [6, 5, 0]
theorem zmr {L : List Nat} {behind k : Nat} (hL : L.length = 5) (hd : ∀ i, dp L i ≤ 4) (hk : k ≤ 5) (h0 : σ.lookup 0 = some (.fz (ol L))) (h5 : σ.lookup 5 = some (.fz (abvD L behind))) (h6 : σ.lookup 6 = some (.fz (.int (k : Int)))) :
    pe tok Φ kidsX σ = some (.d (.lst (il (kidsG L (tF L k) k (5 - k))))) := by
  have ht : tF L k ≤ 5 := by unfold tF; split; lia; have := hd (k - 1); lia
  have e := zjL (tok := tok) (Φ := Φ) (σ := σ) (p := .nm 16) (it := .rng (.var 6) (.cst (.int 5)))
    (ifs := .all_ .And [.all_ .And [.cmp .Eq (.sub (.sub (.var 0) (.var 16)) (.cst (.int 0))) (.bin .Add (.sub (.sub (.var 5) (.var 6)) (.cst (.int 0))) (.cst (.int 1))), .cmp .Gt (.call (.cst (.fn "min")) [.bin .Add (.lst [.cst (.int 9)]) (.lc (.tp [.nm 18, .nm 19]) (.pln (.slc (.var 0) (.var 6) (.var 16) (.cst (.none)))) (.all_ .And []) (.yld (.var 18)) [])]) (.sub (.sub (.var 5) (.var 6)) (.cst (.int 0)))]])
    (e := .var 16) (fr := [6, 5, 0]) (s := kidP L (tF L k) k) (f := λ (i : Nat) => D.int (i : Int)) (zkr (m := k) (n := 5) (by lia) (by lia) (q_vi h6) q_cst) (λ b hb => by
      rw [List.mem_range'_1] at hb
      refine ⟨_, rfl, ?_, λ _ => zab zaa⟩
      have g0 : List.lookup 0 ((16, B.fz (.int (b : Int))) :: σ.filter λ q => [6, 5, 0].contains q.1) = some (.fz (ol L)) := (zal rfl).trans (h0)
      have g5 : List.lookup 5 ((16, B.fz (.int (b : Int))) :: σ.filter λ q => [6, 5, 0].contains q.1) = some (.fz (abvD L behind)) := (zal rfl).trans (h5)
      have g6 : List.lookup 6 ((16, B.fz (.int (b : Int))) :: σ.filter λ q => [6, 5, 0].contains q.1) = some (.fz (.int (k : Int))) := (zal rfl).trans (h6)
      have g16 : List.lookup 16 ((16, B.fz (.int (b : Int))) :: σ.filter λ q => [6, 5, 0].contains q.1) = some (.fz (.int (b : Int))) := zaa
      generalize ((16, B.fz (.int (b : Int))) :: σ.filter λ q => [6, 5, 0].contains q.1) = τ at g0 g5 g6 g16
      obtain ⟨a0, a1⟩ := zpq (tok := tok) (Φ := Φ) g5 (q_vi g6) (by lia) (by lia)
      have e1 := zos (zdY (tok := tok) (Φ := Φ) g0 (q_vi g16) (by lia) (by lia)) (zkt a0 (q_cst (d := .int 1)))
      have es := zir (tok := tok) (Φ := Φ) (lo := some k) (hi := some b) (zab g0) rfl (q_vi g6) (q_vi g16) (by rw [List.length_map]; lia) (λ j hj => by cases hj; rw [List.length_map]; lia) (λ j hj => by cases hj; rw [List.length_map]; lia)
      have em := zcr (tok := tok) (Φ := Φ) (σ := τ) (p := .tp [.nm 18, .nm 19]) (it := .pln (.slc (.var 0) (.var 6) (.var 16) (.cst .none))) (e := .var 18) (fr := []) (l := (L.drop k).take (b - k)) (u := ln) (f := λ x => .int ((x / 2 : Nat) : Int)) (by
        rw [zc4 es]
        show some (((L.map ln).drop k).take (b - k)) = _
        rw [<- List.map_drop, <- List.map_take]) (λ x hx => ⟨_, rfl, zab (rfl)⟩) (by rw [List.length_take, List.length_drop]; lia)
      have ea := zbP (zbw (ds := [.int 9]) (zaB (q_cst (tok := tok) (Φ := Φ) (σ := τ)))) rfl em rfl (by rw [List.length_map, List.length_take, List.length_drop]; simp; lia)
      have emin := zpt ea (i := 9) (l := ((L.drop k).take (b - k)).map λ x => ((x / 2 : Nat) : Int)) (by
        have := zbd (9 :: (((L.drop k).take (b - k)).map λ x => ((x / 2 : Nat) : Int)))
        rw [List.map_cons, List.map_map] at this
        exact this)
      have eg := q_gt emin a0
      refine (zdv (zf2 (zde e1 λ _ => eg) λ _ => zcm)).trans ?_
      congr 3
      rw [Bool.and_true]
      unfold kidP
      congr 1
      · exact decide_eq_decide.mpr (by lia)
      · rw [Bool.eq_iff_iff, decide_eq_true_iff, zj7, List.all_eq_true]
        constructor
        · rintro ⟨_, h⟩ x hx
          have := h _ (List.mem_map_of_mem (f := λ x => ((x / 2 : Nat) : Int)) hx)
          exact decide_eq_true (by lia)
        · intro h
          refine ⟨by lia, λ y hy => ?_⟩
          obtain ⟨x, hx, rfl⟩ := List.mem_map.mp hy
          have := of_decide_eq_true (h x hx)
          show _ < ((x / 2 : Nat) : Int)
          lia) (by simp; lia)
  rw [zjV _ _ _ (by lia)] at e
  exact e
end
abbrev En := List Nat × Nat
noncomputable def gd (x : En) : D := gD x.1 x.2
noncomputable def en {α : Type} : Nat -> List α -> List (Nat × α)
  | _, [] => []
  | k, x :: r => (k, x) :: en (k + 1) r
theorem zgx {α : Type} (u : α -> D) : ∀ (l : List α) (k : Nat), enumF k (l.map u) = (en k l).map λ p => .tup [.int (p.1 : Int), u p.2]
  | [], k => rfl
  | x :: l, k => by rw [List.map_cons, enumF, zgx u l (k + 1)]; rfl
theorem zhh {α : Type} : ∀ (l : List α) (k : Nat), (en k l).length = l.length
  | [], k => rfl
  | x :: l, k => by rw [en, List.length_cons, List.length_cons, zhh l]
theorem en_mem {α : Type} {p : Nat × α} : ∀ {l : List α} {k : Nat}, p ∈ en k l ↔ k ≤ p.1 /\ l[p.1 - k]? = some p.2
  | [], k => by simp [en]
  | x :: l, k => by
    rw [en, List.mem_cons, en_mem (l := l)]
    obtain ⟨i, y⟩ := p
    simp only [Prod.mk.injEq]
    constructor
    · rintro (⟨rfl, rfl⟩ | ⟨h1, h2⟩)
      · exact ⟨Nat.le_refl _, by rw [Nat.sub_self]; rfl⟩
      · refine ⟨by lia, ?_⟩
        rw [show i - k = (i - (k + 1)) + 1 from by lia, List.getElem?_cons_succ]; exact h2
    · rintro ⟨h1, h2⟩
      by_cases e : i = k
      · subst e
        rw [Nat.sub_self] at h2
        exact .inl ⟨rfl, (Option.some.inj h2).symm⟩
      · refine .inr ⟨by lia, ?_⟩
        rw [show i - k = (i - (k + 1)) + 1 from by lia, List.getElem?_cons_succ] at h2; exact h2
noncomputable def eqE (x y : En) : Bool := decide (cnt x.1 = cnt y.1 /\ x.2 = y.2)
noncomputable def sameF (bk : List En) (x : En) : List Nat := ((en 0 bk).filter λ p => eqE p.2 x).map (·.1)
noncomputable def ziQ (bk : List En) (x : En) (bk' : List En) (p : Nat) : Prop := (sameF bk x = [] /\ bk' = bk ++ [x] /\ p = bk.length) ∨ (∃ r, sameF bk x = p :: r /\ bk' = bk)
noncomputable def runsF (L cl : List Nat) (a : Nat) : List Nat := (kidsG L (tF L a) a (5 - a)).map (nth cl)
theorem ziN {c : Nat} : ∀ {l : List Nat}, c ∈ l -> ∃ k, nth l k = c
  | x :: l, h => by
    rcases List.mem_cons.mp h with rfl | h
    · exact ⟨0, rfl⟩
    · obtain ⟨k, e⟩ := ziN h; exact ⟨k + 1, e⟩
theorem zoN {r : List Nat} : ∀ c ∈ cnt r, c ≤ r.length := λ c hc => by
  obtain ⟨k, rfl⟩ := ziN hc
  rw [zcw, zbe]; exact List.count_le_length
theorem zg6 {L cl : List Nat} {a : Nat} : (runsF L cl a).length ≤ 5 := by
  unfold runsF; rw [List.length_map]; have := zds (L := L) (t := tF L a) (n := 5 - a) (a := a); lia
section
variable {tok : Str -> Option Int} {Φ : String -> List D -> Option D} {Ψ : String -> List D -> Option (D × List D)} {σ : Sg} {a b c : T} {r : R}
noncomputable def facX (e : T) : T := .sub (.tup [.cst (.int 1), .cst (.int 1), .cst (.int 2), .cst (.int 6), .cst (.int 24), .cst (.int 120)]) e
theorem znX {n : Nat} (h : pe tok Φ a σ = some (.d (.int (n : Int)))) (hn : n ≤ 5) : pe tok Φ (facX a) σ = some (.d (.int ((fac n : Nat) : Int))) := by
  refine zat (zbc (ds := [.int 1, .int 1, .int 2, .int 6, .int 24, .int 120]) (zak q_cst (zak q_cst (zak q_cst (zak q_cst (zau q_cst q_cst)))))) rfl h (by lia) ?_
  rcases (by lia : n = 0 ∨ n = 1 ∨ n = 2 ∨ n = 3 ∨ n = 4 ∨ n = 5) with rfl | rfl | rfl | rfl | rfl | rfl <;> rfl
theorem zkq : ∀ n, 0 < fac n
  | 0 => Nat.one_pos
  | n + 1 => Nat.mul_pos (Nat.succ_pos n) (zkq n)
theorem znB {n : Nat} (hn : n ≤ 5) : fac n ≤ 120 := by
  rcases (by lia : n = 0 ∨ n = 1 ∨ n = 2 ∨ n = 3 ∨ n = 4 ∨ n = 5) with rfl | rfl | rfl | rfl | rfl | rfl <;> decide
noncomputable def ziB : List X := [.asg (.nm 4) (.bin .FloorDiv (.var 4) (facX (.var 9)))]
theorem zhV : ∀ (cs : List Nat) (w : Nat) (σ : Sg), (∀ c ∈ cs, c ≤ 5) -> σ.lookup 4 = some (.fz (.int (w : Int))) ->
    ∃ σ', ForR (.nm 9) (evs tok Φ Ψ ziB) (il cs) σ .next σ' /\ σ'.lookup 4 = some (.fz (.int ((cs.foldl (λ w c => w / fac c) w : Nat) : Int))) /\ ∀ i, (i == 4) = false -> (i == 9) = false -> σ'.lookup i = σ.lookup i
  | [], w, σ, _, h => ⟨σ, .nil, h, λ _ _ _ => rfl⟩
  | c :: cs, w, σ, hc, h => by
    have h5 := hc c (.head _)
    have := zkq c
    have := znB h5
    have e := zbK (tok := tok) (Φ := Φ) (σ := (9, .fz (.int (c : Int))) :: σ) (q_vi (n := 4) (k := w) (h)) (znX (q_vi zaa) h5) (by lia) (by lia)
    obtain ⟨σ', f, k, t⟩ := zhV cs (w / fac c) ((4, .fz (.int ((w / fac c : Nat) : Int))) :: (9, .fz (.int (c : Int))) :: σ) (λ d hd => hc d (.tail _ hd)) zaa
    exact ⟨σ', .next rfl (zad (zaq e) zag) f, k, λ i h4 h9 => by rw [t i h4 h9, zaf h4, zaf h9]⟩
structure Bk (σ : Sg) (L : List Nat) (behind : Nat) (bk : List En) (cl : List Nat) (w : Nat) : Prop where
  li : σ.lookup 0 = some (.fz (ol L))
  bo : σ.lookup 1 = some (.own (bk.map gd))
  cl : σ.lookup 3 = some (.own (il cl))
  wy : σ.lookup 4 = some (.fz (.int (w : Int)))
  ab : σ.lookup 5 = some (.fz (abvD L behind))
noncomputable def runsX : T := .lc (.nm 16) (.pln (.var 7)) (.all_ .And []) (.yld (.sub (.var 3) (.var 16))) [3]
theorem zj5 {cl ks : List Nat} (h3 : σ.lookup 3 = some (.own (il cl))) (h7 : σ.lookup 7 = some (.fz (.lst (il ks)))) (hk : ∀ k ∈ ks, k < cl.length) (hl : cl.length ≤ 1000) (hn : ks.length ≤ 1000) :
    pe tok Φ runsX σ = some (.d (.lst (il (ks.map (nth cl))))) := by
  have := zcr (tok := tok) (Φ := Φ) (σ := σ) (p := .nm 16) (it := .pln (.var 7)) (e := .sub (.var 3) (.var 16)) (fr := [3]) (l := ks) (u := λ (i : Nat) => D.int (i : Int)) (f := λ k => .int ((nth cl k : Nat) : Int)) (zc4 (zab h7))
    (λ k hkk => ⟨_, rfl, zat (zcg ((zal rfl).trans (h3))) rfl (q_vi zaa) (by have := hk k hkk; lia) (zfZ (hk k hkk))⟩) (by lia)
  unfold il
  rw [List.map_map]
  exact this
noncomputable def zhW : List X := [.asg (.nm 7) kidsX,
  .asg (.nm 8) (.call (.cst (.fn "_law_guy")) [runsX, .sub (.sub (.var 5) (.var 6)) (.cst (.int 1))]),
  .asg (.nm 4) (.bin .Mult (.var 4) (facX (.fld (.var 8) "nt"))),
  .fr (.nm 9) (.pln (.sub (.fld (.var 8) "norm") (.cst (.int 0)))) ziB,
  .iff (.cmp .Gt (.var 6) (.cst (.int 0))) [.asg (.nm 10) (.lc (.tp [.nm 20, .nm 21]) (.enm (.var 1)) (.all_ .And [.cmp .Is (.meth "equal" (.var 21) [.var 8]) (.cst (.bool true))]) (.yld (.var 20)) [8]),
  .iff (.cmp .Eq (.var 10) (.lst [])) [.app 1 (.var 8)] [],
  .sto 3 (.bin .Sub (.var 6) (.cst (.int 1))) (.sub (.bin .Add (.var 10) (.lst [.bin .Sub (.call (.cst (.fn "len")) [.var 1]) (.cst (.int 1))])) (.cst (.int 0)))] []]
theorem zlB (a b : List Nat) : il a ++ il b = il (a ++ b) := by unfold il; rw [List.map_append]
theorem zme (a : List Nat) (i v : Nat) : (il a).set i (.int (v : Int)) = il (a.set i v) := by unfold il; rw [List.map_set]
theorem zfC {L cl : List Nat} {behind w k : Nat} {bk : List En} (hG : ∀ (runs : List Nat) (lab : Nat), (∀ r ∈ runs, r ≤ 100) -> runs.length ≤ 20 -> lab ≤ 100 -> Φ "_law_guy" [.lst (il runs), .int (lab : Int)] = some (gD runs lab))
    (hE : ∀ (x y : List Nat) (b c : Nat), Φ "equal" [gD x b, gD y c] = some (.bool (decide (cnt x = cnt y /\ b = c)))) (hL : L.length = 5) (hd : ∀ i, dp L i ≤ 4) (hk : k ≤ 5) (hb : behind ≤ 100) (hcl : cl.length = 5) (hc : ∀ i, nth cl i ≤ 100) (hbk : bk.length ≤ 100) (hw : w ≤ 2 ^ 29)
    (B : Bk σ L behind bk cl w) (h6 : σ.lookup 6 = some (.fz (.int (k : Int)))) :
    ∃ σ' bk' cl', evs tok Φ Ψ zhW σ .next σ' /\ Bk σ' L behind bk' cl' (stW w (runsF L cl k)) /\ σ'.lookup 7 = some (.fz (.lst (il (kidsG L (tF L k) k (5 - k))))) /\ σ'.lookup 8 = some (.fz (gD (runsF L cl k) (labF L behind k))) /\
      ((k = 0 /\ bk' = bk /\ cl' = cl) ∨ (0 < k /\ ∃ p, ziQ bk (runsF L cl k, labF L behind k) bk' p /\ cl' = cl.set (k - 1) p)) := by
  have hlab : labF L behind k ≤ 100 := by unfold labF; split; lia; have := zcI L (k - 1); lia
  have hrl := zg6 (L := L) (cl := cl) (a := k)
  have hkl := zds (L := L) (t := tF L k) (n := 5 - k) (a := k)
  have e7 := zmr (tok := tok) (Φ := Φ) hL hd hk B.li B.ab h6
  have er := zj5 (tok := tok) (Φ := Φ) (σ := (7, .fz (.lst (il (kidsG L (tF L k) k (5 - k))))) :: σ) (cl := cl) (ks := kidsG L (tF L k) k (5 - k)) (B.cl) zaa (λ j hj => by have := zdA j hj; lia) (by lia) (by lia)
  have ea := (zpq (tok := tok) (Φ := Φ) (L := L) (behind := behind) (n := 5) (k := k) (σ := (7, .fz (.lst (il (kidsG L (tF L k) k (5 - k))))) :: σ) (B.ab) (q_vi (n := 6) (k := k) (h6)) (by lia) (by lia)).2
  have e8 := zaK (tok := tok) (Φ := Φ) (n := "_law_guy") (ds := [.lst (il (runsF L cl k)), .int ((labF L behind k : Nat) : Int)]) rfl (zau er ea) (hG _ _ (λ r hr => by
    obtain ⟨j, _, rfl⟩ := List.mem_map.mp hr; exact hc j) (by lia) hlab)
  have e4 := zhR (tok := tok) (Φ := Φ) (σ := (8, .fz (gD (runsF L cl k) (labF L behind k))) :: (7, .fz (.lst (il (kidsG L (tF L k) k (5 - k))))) :: σ) (q_vi (n := 4) (k := w) (B.wy))
    (znX (zgq (nm := "nt") (n := 8) zaa (g_nt _ _ _ _)) (by lia)) hw
  obtain ⟨σ3, f3, k4, t3⟩ := zhV (tok := tok) (Φ := Φ) (Ψ := Ψ) (cnt (runsF L cl k)) (w * fac (runsF L cl k).length) ((4, .fz (.int ((w * fac (runsF L cl k).length : Nat) : Int))) :: (8, .fz (gD (runsF L cl k) (labF L behind k))) :: (7, .fz (.lst (il (kidsG L (tF L k) k (5 - k))))) :: σ) (λ c hc => by have := zoN c hc; lia) zaa
  rw [zmo] at k4
  have e9 : pe tok Φ (.sub (.fld (.var 8) "norm") (.cst (.int 0))) ((4, .fz (.int ((w * fac (runsF L cl k).length : Nat) : Int))) :: (8, .fz (gD (runsF L cl k) (labF L behind k))) :: (7, .fz (.lst (il (kidsG L (tF L k) k (5 - k))))) :: σ) = some (.d (.tup (il (cnt (runsF L cl k))))) :=
    zat (n := 0) (zgq (nm := "norm") (n := 8) (rfl) (zfT _ _ _ _)) rfl q_cst (by decide) rfl
  have g0 : σ3.lookup 0 = some (.fz (ol L)) := by rw [t3 0 rfl rfl, zaf rfl, zaf rfl, zaf rfl]; exact B.li
  have g1 : σ3.lookup 1 = some (.own (bk.map gd)) := by rw [t3 1 rfl rfl, zaf rfl, zaf rfl, zaf rfl]; exact B.bo
  have g3 : σ3.lookup 3 = some (.own (il cl)) := by rw [t3 3 rfl rfl, zaf rfl, zaf rfl, zaf rfl]; exact B.cl
  have g5 : σ3.lookup 5 = some (.fz (abvD L behind)) := by rw [t3 5 rfl rfl, zaf rfl, zaf rfl, zaf rfl]; exact B.ab
  have g6 : σ3.lookup 6 = some (.fz (.int (k : Int))) := by rw [t3 6 rfl rfl, zaf rfl, zaf rfl, zaf rfl]; exact h6
  have g7 : σ3.lookup 7 = some (.fz (.lst (il (kidsG L (tF L k) k (5 - k))))) := by rw [t3 7 rfl rfl, zaf rfl, zaf rfl]; exact zaa
  have g8 : σ3.lookup 8 = some (.fz (gD (runsF L cl k) (labF L behind k))) := by rw [t3 8 rfl rfl, zaf rfl]; exact zaa
  have ec := zmT (tok := tok) (Φ := Φ) (q_vi g6) (q_c (n := 0))
  have head : ∀ {σ'}, ev1 tok Φ Ψ (.iff (.cmp .Gt (.var 6) (.cst (.int 0))) [.asg (.nm 10) (.lc (.tp [.nm 20, .nm 21]) (.enm (.var 1)) (.all_ .And [.cmp .Is (.meth "equal" (.var 21) [.var 8]) (.cst (.bool true))]) (.yld (.var 20)) [8]),
      .iff (.cmp .Eq (.var 10) (.lst [])) [.app 1 (.var 8)] [],
      .sto 3 (.bin .Sub (.var 6) (.cst (.int 1))) (.sub (.bin .Add (.var 10) (.lst [.bin .Sub (.call (.cst (.fn "len")) [.var 1]) (.cst (.int 1))])) (.cst (.int 0)))] []) σ3 .next σ' -> evs tok Φ Ψ zhW σ .next σ' := λ {σ'} h =>
    zad (zaq e7) (zad (zaq e8) (zad (zaq e4) (zad (zci (zhs e9) f3) (zad h zag))))
  by_cases h0 : k = 0
  · rw [decide_eq_false (by lia)] at ec
    exact ⟨σ3, bk, cl, head (zc0 ec zag), ⟨g0, g1, g3, k4, g5⟩, g7, g8, .inl ⟨h0, rfl, rfl⟩⟩
  · rw [decide_eq_true (by lia)] at ec
    have e10 := zjL (tok := tok) (Φ := Φ) (σ := σ3) (p := .tp [.nm 20, .nm 21]) (it := .enm (.var 1)) (ifs := .all_ .And [.cmp .Is (.meth "equal" (.var 21) [.var 8]) (.cst (.bool true))]) (e := .var 20) (fr := [8]) (l := en 0 bk) (u := λ p => .tup [.int (p.1 : Int), gd p.2])
      (s := λ p => eqE p.2 (runsF L cl k, labF L behind k)) (f := λ p => .int (p.1 : Int)) (by
        rw [zn1 (zcg g1)]
        rw [zgx]) (λ p hp => by
        refine ⟨_, rfl, ?_, λ _ => zab (rfl)⟩
        have m : pe tok Φ (.meth "equal" (.var 21) [.var 8]) ((21, .fz (gd p.2)) :: (20, .fz (.int (p.1 : Int))) :: σ3.filter λ q => [8].contains q.1) = _ :=
          zco (ds := [gD (runsF L cl k) (labF L behind k)]) (by decide +kernel) (zab zaa) (zaB (zab ((zal rfl).trans (g8)))) (hE p.2.1 _ p.2.2 _)
        refine (zdv (zf2 (q_is m (q_cst (d := .bool true))) λ _ => zcm)).trans ?_
        congr 3
        rw [Bool.and_true]
        unfold eqE
        cases decide (cnt p.2.1 = cnt (runsF L cl k) /\ p.2.2 = labF L behind k) <;> rfl) (by rw [zhh]; lia)
    have esame : ((en 0 bk).filter λ p => eqE p.2 (runsF L cl k, labF L behind k)).map (λ p => D.int (p.1 : Int)) = il (sameF bk (runsF L cl k, labF L behind k)) := by
      unfold sameF il; rw [List.map_map]; rfl
    rw [esame] at e10
    have eq := q_eq (tok := tok) (Φ := Φ) (σ := (10, .fz (.lst (il (sameF bk (runsF L cl k, labF L behind k))))) :: σ3) (zab (i := 10) zaa) (zbw (ds := []) zef) (by
      show (il _).all (D.sh 7) = true; exact zmu _ _) rfl
    have hs : (sameF bk (runsF L cl k, labF L behind k)).length ≤ bk.length := by
      unfold sameF; rw [List.length_map]; exact Nat.le_trans (List.length_filter_le _ _) (by rw [zhh]; exact Nat.le_refl _)
    cases hsf : sameF bk (runsF L cl k, labF L behind k) with
    | nil =>
      rw [hsf] at e10 eq
      have g1' : List.lookup 1 ((10, Mine.B.fz (.lst (il []))) :: σ3) = some (.own (bk.map gd)) := g1
      have ap := zej (tok := tok) (Φ := Φ) (Ψ := Ψ) (e := .var 8) g1' (zab (g8)) (by rw [List.length_map]; lia)
      have el := zdl (tok := tok) (Φ := Φ) (a := .var 1) (σ := (1, .own (bk.map gd ++ [gD (runsF L cl k) (labF L behind k)])) :: (10, .fz (.lst (il []))) :: σ3) (zcg zaa) rfl (by simp; lia)
      rw [List.length_append, List.length_map] at el
      have ei := zcn el (q_c (n := 1)) (by simp)
      have el2 := zbP (tok := tok) (Φ := Φ) (σ := (1, .own (bk.map gd ++ [gD (runsF L cl k) (labF L behind k)])) :: (10, .fz (.lst (il []))) :: σ3) (zab (i := 10) (rfl)) (ds := il []) rfl (zbw (ds := [_]) (zaB ei)) rfl (by rw [zaA, List.length_singleton]; exact Nat.le_of_ble_eq_true rfl)
      have ev := zat (n := 0) el2 rfl q_cst (by decide) rfl
      refine ⟨_, bk ++ [(runsF L cl k, labF L behind k)], cl.set (k - 1) bk.length, head (zdi ec (zad (zaq e10) (zad (zdi eq (zad ap zag)) (zad (σ₁ := (3, .own ((il cl).set (k - 1) (.int (bk.length : Int)))) :: (1, .own (bk.map gd ++ [gD (runsF L cl k) (labF L behind k)])) :: (10, .fz (.lst (il []))) :: σ3) ⟨rfl, il cl, _, ((k - 1 : Nat) : Int), k - 1, g3, ev, zcn (q_vi (n := 6) (k := k) (g6)) (q_c (n := 1)) (by lia), ?_, by rw [zaA]; lia, rfl⟩ zag)))), ⟨?_, ?_, ?_, ?_, ?_⟩, ?_, ?_, .inr ⟨by lia, bk.length, .inl ⟨hsf, rfl, rfl⟩, rfl⟩⟩
      · unfold sidx; rw [if_pos ⟨by lia, by rw [zaA]; lia⟩, Int.toNat_natCast]
      · rw [zaf rfl, zaf rfl, zaf rfl]; exact g0
      · rw [zaf rfl, zaa, List.map_append]; rfl
      · rw [zaa, zme]
      · rw [zaf rfl, zaf rfl, zaf rfl]; exact k4
      · rw [zaf rfl, zaf rfl, zaf rfl]; exact g5
      · rw [zaf rfl, zaf rfl, zaf rfl]; exact g7
      · rw [zaf rfl, zaf rfl, zaf rfl]; exact g8
    | cons p rs =>
      rw [hsf] at e10 eq hs
      have el := zdl (tok := tok) (Φ := Φ) (a := .var 1) (σ := (10, .fz (.lst (il (p :: rs)))) :: σ3) (zcg (g1)) rfl (by simp; lia)
      have ei := znA el (q_cst (d := .int 1))
      have el2 := zbP (tok := tok) (Φ := Φ) (σ := (10, .fz (.lst (il (p :: rs)))) :: σ3) (zab (i := 10) zaa) (ds := il (p :: rs)) rfl (zbw (ds := [_]) (zaB ei)) rfl (by rw [zaA]; simp at hs ⊢; lia)
      have ev := zat (n := 0) el2 rfl q_cst (by decide) rfl
      refine ⟨_, bk, cl.set (k - 1) p, head (zdi ec (zad (zaq e10) (zad (zc0 eq zag) (zad (σ₁ := (3, .own ((il cl).set (k - 1) (.int (p : Int)))) :: (10, .fz (.lst (il (p :: rs)))) :: σ3) ⟨rfl, il cl, _, ((k - 1 : Nat) : Int), k - 1, g3, ev, zcn (q_vi (n := 6) (k := k) (g6)) (q_c (n := 1)) (by lia), ?_, by rw [zaA]; lia, rfl⟩ zag)))), ⟨?_, ?_, ?_, ?_, ?_⟩, ?_, ?_, .inr ⟨by lia, p, .inr ⟨rs, hsf, rfl⟩, rfl⟩⟩
      · unfold sidx; rw [if_pos ⟨by lia, by rw [zaA]; lia⟩, Int.toNat_natCast]
      · rw [zaf rfl, zaf rfl]; exact g0
      · rw [zaf rfl, zaf rfl]; exact g1
      · rw [zaa, zme]
      · rw [zaf rfl, zaf rfl]; exact k4
      · rw [zaf rfl, zaf rfl]; exact g5
      · rw [zaf rfl, zaf rfl]; exact g7
      · rw [zaf rfl, zaf rfl]; exact g8
end
end Mine
end
section
open PySem PySem.W PyProof.Rows PySem.StrLaws Builtin.Str
set_option maxRecDepth 100000
namespace Mine
structure BkOk (bk : List En) (φ : Nat -> Nat) : Prop where
  ent : ∀ (i : Nat) x, bk[i]? = some x -> (∀ r ∈ x.1, r < i) /\ x.2 < 2 /\ φ i = enc x.2 (sortN (x.1.map φ))
  inj : ∀ i j, i < bk.length -> j < bk.length -> φ i = φ j -> i = j
theorem zg2 {bk : List En} {φ : Nat -> Nat} (B : BkOk bk φ) {x y : En} {i : Nat} (hx : ∀ r ∈ x.1, r < bk.length) (hx2 : x.2 < 2) (hi : bk[i]? = some y) : eqE y x = true ↔ φ i = enc x.2 (sortN (x.1.map φ)) := by
  obtain ⟨h1, h2, h3⟩ := B.ent i y hi
  have hlt : i < bk.length := (List.getElem?_eq_some_iff.mp hi).1
  unfold eqE
  rw [decide_eq_true_iff, zgH, h3, <- zg9 B.inj (λ r hr => Nat.lt_trans (h1 r hr) hlt) hx, zdJ]
  constructor
  · rintro ⟨e1, e2⟩; rw [e1, e2]
  · intro e
    obtain ⟨e1, e2⟩ := zmO h2 hx2 e
    exact ⟨e2, e1⟩
theorem same_mem {bk : List En} {x : En} {p : Nat} : p ∈ sameF bk x ↔ ∃ y, bk[p]? = some y /\ eqE y x = true := by
  unfold sameF
  rw [List.mem_map]
  constructor
  · rintro ⟨⟨i, y⟩, h, rfl⟩
    obtain ⟨h1, h2⟩ := List.mem_filter.mp h
    obtain ⟨_, h3⟩ := en_mem.mp h1
    exact ⟨y, h3, h2⟩
  · rintro ⟨y, h1, h2⟩
    exact ⟨(p, y), List.mem_filter.mpr ⟨en_mem.mpr ⟨Nat.zero_le _, h1⟩, h2⟩, rfl⟩
theorem zmZ {bk bk' : List En} {φ : Nat -> Nat} {x : En} {p : Nat} (B : BkOk bk φ) (hx : ∀ r ∈ x.1, r < bk.length) (hx2 : x.2 < 2) (h : ziQ bk x bk' p) :
    ∃ φ', BkOk bk' φ' /\ (∀ i, i < bk.length -> φ' i = φ i) /\ bk.length ≤ bk'.length /\ bk'.length ≤ bk.length + 1 /\ p < bk'.length /\ φ' p = enc x.2 (sortN (x.1.map φ)) := by
  rcases h with ⟨h1, rfl, rfl⟩ | ⟨r, h1, rfl⟩
  · have agree : ∀ i, i < bk.length -> (λ i => if i = bk.length then enc x.2 (sortN (x.1.map φ)) else φ i) i = φ i := λ i hi => if_neg (by lia)
    have self : (λ i => if i = bk.length then enc x.2 (sortN (x.1.map φ)) else φ i) bk.length = enc x.2 (sortN (x.1.map φ)) := if_pos rfl
    generalize (λ i => if i = bk.length then enc x.2 (sortN (x.1.map φ)) else φ i) = ψ at agree self
    have no : ∀ i, i < bk.length -> φ i ≠ enc x.2 (sortN (x.1.map φ)) := λ i hi e => by
      have hy : bk[i]? = some bk[i] := List.getElem?_eq_getElem hi
      have := same_mem.mpr ⟨_, hy, (zg2 B hx hx2 hy).mpr e⟩
      rw [h1] at this; cases this
    have mapφ : ∀ (l : List Nat), (∀ r ∈ l, r < bk.length) -> l.map ψ = l.map φ := λ l hl => List.map_congr_left λ r hr => agree r (hl r hr)
    refine ⟨ψ, ⟨λ i y hi => ?_, λ i j hi hj e => ?_⟩, agree, by simp, by simp, by simp, self⟩
    · by_cases hlt : i < bk.length
      · rw [List.getElem?_append_left hlt] at hi
        obtain ⟨e1, e2, e3⟩ := B.ent i y hi
        exact ⟨e1, e2, by rw [agree i hlt, e3, mapφ _ λ r hr => Nat.lt_trans (e1 r hr) hlt]⟩
      · rw [List.getElem?_append_right (by lia)] at hi
        have : i = bk.length := by
          have := (List.getElem?_eq_some_iff.mp hi).1
          simp at this; lia
        subst this
        rw [Nat.sub_self] at hi
        cases hi
        exact ⟨hx, hx2, by rw [self, mapφ _ hx]⟩
    · rw [List.length_append, List.length_singleton] at hi hj
      by_cases h2 : i < bk.length <;> by_cases h3 : j < bk.length
      · rw [agree i h2, agree j h3] at e; exact B.inj i j h2 h3 e
      · have : j = bk.length := by lia
        subst this; rw [agree i h2, self] at e; exact absurd e (no i h2)
      · have : i = bk.length := by lia
        subst this; rw [agree j h3, self] at e; exact absurd e.symm (no j h3)
      · lia
  · have hp : p ∈ sameF bk' x := by rw [h1]; exact .head _
    obtain ⟨y, hy, e⟩ := same_mem.mp hp
    exact ⟨φ, B, λ _ _ => rfl, Nat.le_refl _, Nat.le_succ _, (List.getElem?_eq_some_iff.mp hy).1, (zg2 B hx hx2 hy).mp e⟩
theorem zik : (allV.all λ L => (List.range 6).all λ a => Nat.ble (wysOf (L.drop a)) 1000) = true := by decide +kernel
theorem zlT {L : List Nat} (h : valid L = true) {a : Nat} (ha : a ≤ 5) : wysOf (L.drop a) ≤ 1000 := by
  have := List.all_eq_true.mp (List.all_eq_true.mp zik L (valid_iff.mpr h)) a (List.mem_range.mpr (by lia))
  exact Nat.ble_eq.mp this
theorem zj8 {φ : Nat -> Nat} {N w : Nat} (hφ : ∀ x y, x < N -> y < N -> φ x = φ y -> x = y) {a : List Nat} (ha : ∀ y ∈ a, y < N) : stW w (a.map φ) = stW w a := by
  unfold stW; rw [zlD hφ ha, List.length_map]
structure BInv (L : List Nat) (behind n0 : Nat) (φ0 : Nat -> Nat) (k : Nat) (bk : List En) (cl : List Nat) (φ : Nat -> Nat) : Prop where
  ok : BkOk bk φ
  old : ∀ i, i < n0 -> φ i = φ0 i
  base : n0 ≤ bk.length
  up : bk.length ≤ n0 + (5 - k)
  len : cl.length = 5
  le : ∀ i, nth cl i ≤ bk.length
  set : ∀ j, k ≤ j -> j < 5 -> nth cl j < bk.length /\ φ (nth cl j) = codeF L j
theorem BInv.runs {L : List Nat} {behind n0 k : Nat} {φ0 φ : Nat -> Nat} {bk : List En} {cl : List Nat} (I : BInv L behind n0 φ0 k bk cl φ) (hL : L.length = 5) (hk : k ≤ 5) :
    (∀ r ∈ runsF L cl k, r < bk.length) /\ (runsF L cl k).map φ = pick (tF L k) (stOf (L.drop k)) := by
  have hin : ∀ b ∈ kidsG L (tF L k) k (5 - k), k ≤ b /\ b < 5 := λ b hb => by have := zdA b hb; lia
  constructor
  · intro r hr
    obtain ⟨j, hj, rfl⟩ := List.mem_map.mp hr
    exact (I.set j (hin j hj).1 (hin j hj).2).1
  · rw [zfP (tF L k) (5 - k) k (by lia)]
    unfold runsF
    rw [List.map_map]
    exact List.map_congr_left λ j hj => (I.set j (hin j hj).1 (hin j hj).2).2
theorem BInv.step {L : List Nat} {behind n0 k p : Nat} {φ0 φ : Nat -> Nat} {bk bk' : List En} {cl : List Nat} (I : BInv L behind n0 φ0 (k + 1) bk cl φ) (hL : L.length = 5) (hk : k + 1 ≤ 5) (hs : ziQ bk (runsF L cl (k + 1), labF L behind (k + 1)) bk' p) :
    ∃ φ', BInv L behind n0 φ0 k bk' (cl.set k p) φ' := by
  obtain ⟨h1, h2⟩ := I.runs hL hk
  have hlab : labF L behind (k + 1) = lb L k := rfl
  obtain ⟨φ', o, ag, l1, l2, hp, e⟩ := zmZ (x := (runsF L cl (k + 1), labF L behind (k + 1))) I.ok h1 (by rw [hlab]; exact zcI L k) hs
  have hlen := I.len
  have up := I.up
  have n0' := I.base
  refine ⟨φ', o, λ i hi => by rw [ag i (by lia)]; exact I.old i hi, by lia, by lia, by rw [List.length_set]; exact hlen, λ i => ?_, λ j h3 h4 => ?_⟩
  · rw [zeY _ _ _ _ (by lia)]
    split
    · lia
    · have := I.le i; lia
  · rw [zeY _ _ _ _ (by lia)]
    by_cases hj : j = k
    · subst hj
      rw [if_pos rfl]
      refine ⟨hp, ?_⟩
      rw [e, h2]; rfl
    · rw [if_neg hj]
      have := I.set j (by lia) h4
      exact ⟨by lia, by rw [ag _ this.1]; exact this.2⟩
section
variable {tok : Str -> Option Int} {Φ : String -> List D -> Option D} {Ψ : String -> List D -> Option (D × List D)} {σ : Sg}
theorem Bk.push {L : List Nat} {behind w : Nat} {bk : List En} {cl : List Nat} (B : Bk σ L behind bk cl w) (d : Mine.B) : Bk ((6, d) :: σ) L behind bk cl w :=
  ⟨B.li, B.bo, B.cl, B.wy, B.ab⟩
variable (hG : ∀ (runs : List Nat) (lab : Nat), (∀ r ∈ runs, r ≤ 100) -> runs.length ≤ 20 -> lab ≤ 100 -> Φ "_law_guy" [.lst (il runs), .int (lab : Int)] = some (gD runs lab))
    (hE : ∀ (x y : List Nat) (b c : Nat), Φ "equal" [gD x b, gD y c] = some (.bool (decide (cnt x = cnt y /\ b = c))))
include hG hE
theorem zcQ {L cl : List Nat} {behind n0 k : Nat} {φ0 φ : Nat -> Nat} {bk : List En} (hV : valid L = true) (hb : behind ≤ 100) (hn : n0 ≤ 50) (hk : k + 1 ≤ 5) (I : BInv L behind n0 φ0 (k + 1) bk cl φ) (B : Bk σ L behind bk cl (wysOf (L.drop (k + 1)))) :
    ∃ σ' bk' cl' φ', evs tok Φ Ψ zhW ((6, .fz (.int ((k + 1 : Nat) : Int))) :: σ) .next σ' /\ BInv L behind n0 φ0 k bk' cl' φ' /\ Bk σ' L behind bk' cl' (wysOf (L.drop k)) := by
  obtain ⟨hL, _, _⟩ := zbJ hV
  have hO := zbq hV
  have hu := I.up
  have hw := zlT hV hk
  obtain ⟨h1, h2⟩ := I.runs hL hk
  obtain ⟨σ', bk', cl', e, B', _, _, hh⟩ := zfC (tok := tok) (Ψ := Ψ) hG hE hL hO.dp4 hk hb I.len (λ i => by have := I.le i; lia) (by lia) (by lia) (B.push (.fz (.int ((k + 1 : Nat) : Int)))) zaa
  rcases hh with ⟨h0, _⟩ | ⟨_, p, hs, rfl⟩
  · lia
  · obtain ⟨φ', I'⟩ := I.step hL hk hs
    refine ⟨σ', bk', cl.set k p, φ', e, I', ?_⟩
    have : wysOf (L.drop k) = stW (wysOf (L.drop (k + 1))) (runsF L cl (k + 1)) := by
      rw [zdo (by lia : k < L.length), wysOf, <- zj8 I.ok.inj h1, h2]; rfl
    rw [this]
    exact B'
theorem zh9 {L : List Nat} {behind : Nat} {bk : List En} {φ : Nat -> Nat} (hV : valid L = true) (hb : behind ≤ 100) (hbk : BkOk bk φ) (hn : bk.length ≤ 50) :
    ∃ σ' runs bk' φ', evs tok Φ Ψ zaO [(0, .fz (ol L)), (1, .own (bk.map gd)), (2, .fz (.int (behind : Int)))] (.ret (.tup [gD runs behind, .int ((wys L : Nat) : Int), .lst (il runs)])) σ' /\ σ'.lookup 1 = some (.own (bk'.map gd)) /\
      BkOk bk' φ' /\ (∀ i, i < bk.length -> φ' i = φ i) /\ bk.length ≤ bk'.length /\ bk'.length ≤ bk.length + 5 /\ (∀ r ∈ runs, r < bk'.length) /\ sortN (runs.map φ') = sortN (pick 0 (stOf L)) /\ runs.length ≤ 5 /\ runs ≠ [] := by
  obtain ⟨hL, h00, _⟩ := zbJ hV
  have hO := zbq hV
  have ea : pe tok Φ (.bin .Add (.lst [.tup [.neg (.cst (.int 1)), .var 2]]) (.var 0)) [(0, .fz (ol L)), (1, .own (bk.map gd)), (2, .fz (.int (behind : Int)))] = some (.d (abvD L behind)) :=
    zbP (zbw (ds := [.tup [.int (-1), .int (behind : Int)]]) (zaB (zbc (ds := [.int (-1), .int (behind : Int)]) (zau (zmX q_cst) (zab rfl))))) rfl (zab (d := ol L) rfl) rfl (by rw [List.length_map]; simp; lia)
  have e0 : ev1 tok Φ Ψ (.asgs [3, 4, 5] [true, false, false] [.lst [.cst (.int 0), .cst (.int 0), .cst (.int 0), .cst (.int 0), .cst (.int 0)], .cst (.int 1), .bin .Add (.lst [.tup [.neg (.cst (.int 1)), .var 2]]) (.var 0)]) [(0, .fz (ol L)), (1, .own (bk.map gd)), (2, .fz (.int (behind : Int)))] .next
      [(3, .own (il [0, 0, 0, 0, 0])), (4, .fz (.int ((1 : Nat) : Int))), (5, .fz (abvD L behind)), (0, .fz (ol L)), (1, .own (bk.map gd)), (2, .fz (.int (behind : Int)))] :=
    ⟨rfl, [.lst (il [0, 0, 0, 0, 0]), .int 1, abvD L behind], [.own (il [0, 0, 0, 0, 0]), .fz (.int 1), .fz (abvD L behind)], by
      rw [zak (zbw (ds := [.int 0, .int 0, .int 0, .int 0, .int 0]) (zak q_cst (zak q_cst (zak q_cst (zau q_cst q_cst))))) (zau (q_cst (d := .int 1)) ea)]; rfl, rfl, rfl, rfl, rfl⟩
  have B5 : Bk [(3, .own (il [0, 0, 0, 0, 0])), (4, .fz (.int ((1 : Nat) : Int))), (5, .fz (abvD L behind)), (0, .fz (ol L)), (1, .own (bk.map gd)), (2, .fz (.int (behind : Int)))] L behind bk [0, 0, 0, 0, 0] (wysOf (L.drop 5)) :=
    ⟨rfl, rfl, rfl, by rw [List.drop_of_length_le (by lia)]; rfl, rfl⟩
  have I5 : BInv L behind bk.length φ 5 bk [0, 0, 0, 0, 0] φ := ⟨hbk, λ _ _ => rfl, Nat.le_refl _, by lia, rfl, λ i => by
    have : nth [0, 0, 0, 0, 0] i = 0 := by
      match i with
      | 0 | 1 | 2 | 3 | 4 => rfl
      | _ + 5 => rfl
    lia, λ j h1 h2 => by lia⟩
  obtain ⟨σ4, bk4, cl4, φ4, e4, I4, B4⟩ := zcQ (tok := tok) (Ψ := Ψ) hG hE hV hb hn (by lia) I5 B5
  obtain ⟨σ3, bk3, cl3, φ3, e3, I3, B3⟩ := zcQ (tok := tok) (Ψ := Ψ) hG hE hV hb hn (by lia) I4 B4
  obtain ⟨σ2, bk2, cl2, φ2, e2, I2, B2⟩ := zcQ (tok := tok) (Ψ := Ψ) hG hE hV hb hn (by lia) I3 B3
  obtain ⟨σ1, bk1, cl1, φ1, e1, I1, B1⟩ := zcQ (tok := tok) (Ψ := Ψ) hG hE hV hb hn (by lia) I2 B2
  obtain ⟨σz, bkz, clz, φz, ez, Iz, Bz⟩ := zcQ (tok := tok) (Ψ := Ψ) hG hE hV hb hn (by lia) I1 B1
  have up := Iz.up
  have hw := zlT hV (Nat.zero_le 5)
  obtain ⟨h1, h2⟩ := Iz.runs hL (Nat.zero_le 5)
  obtain ⟨σ', bk', cl', e, B', k7, k8, hh⟩ := zfC (tok := tok) (Ψ := Ψ) hG hE hL hO.dp4 (Nat.zero_le 5) hb Iz.len (λ i => by have := Iz.le i; lia) (by lia) (by lia) (Bz.push (.fz (.int ((0 : Nat) : Int)))) zaa
  rcases hh with ⟨_, rfl, rfl⟩ | ⟨h0, _⟩
  · have hkl := zds (L := L) (t := tF L 0) (n := 5 - 0) (a := 0)
    have er := zj5 (tok := tok) (Φ := Φ) (σ := σ') (cl := cl') (ks := kidsG L (tF L 0) 0 (5 - 0)) B'.cl k7 (λ j hj => by have := zdA j hj; rw [Iz.len]; lia) (by rw [Iz.len]; lia) (by lia)
    have hwy : stW (wysOf (L.drop 0)) (runsF L cl' 0) = wys L := by
      rw [<- zj8 Iz.ok.inj h1, h2, List.drop_zero]; rfl
    have k4 := B'.wy
    rw [hwy] at k4
    have loop : ForR (.nm 6) (evs tok Φ Ψ zhW) [.int 5, .int 4, .int 3, .int 2, .int 1, .int 0] [(3, .own (il [0, 0, 0, 0, 0])), (4, .fz (.int ((1 : Nat) : Int))), (5, .fz (abvD L behind)), (0, .fz (ol L)), (1, .own (bk.map gd)), (2, .fz (.int (behind : Int)))] .next σ' :=
      .next rfl e4 (.next rfl e3 (.next rfl e2 (.next rfl e1 (.next rfl ez (.next rfl e .nil)))))
    refine ⟨σ', runsF L cl' 0, bk', φz, zad e0 (zad (zci (zhs (zbc (ds := [.int 5, .int 4, .int 3, .int 2, .int 1, .int 0]) (zak q_cst (zak q_cst (zak q_cst (zak q_cst (zau q_cst q_cst))))))) loop) (zaF (zby (zbc (ds := [gD (runsF L cl' 0) behind, .int ((wys L : Nat) : Int), .lst (il (runsF L cl' 0))]) (zak (zab k8) (zau (zab k4) er)))))),
      B'.bo, Iz.ok, λ i hi => Iz.old i hi, Iz.base, Iz.up, h1, by rw [h2, List.drop_zero]; rfl, zg6, ?_⟩
    intro hnil
    have := congrArg List.length hnil
    unfold runsF at this
    rw [List.length_map] at this
    have hk0 : kidsG L (tF L 0) 0 5 = 0 :: kidsG L (tF L 0) 1 4 := by
      rw [kidsG, if_neg (by rw [h00]; exact Nat.not_lt_zero _), if_pos (by rw [h00]; rfl)]
    rw [hk0] at this
    simp at this
  · lia
end
end Mine
end
section
open PySem PySem.W PyProof.Rows PySem.StrLaws Builtin.Str
set_option maxRecDepth 10000
namespace Mine
theorem zh4 (L : List Nat) (n : Nat) : (zaR L n).length ≤ 1 := by
  unfold zaR
  cases hc : (Nat.blt (zan L n + 1) 5 && Nat.beq (dp L (zan L n + 1)) (dp L n)) <;> simp
theorem zi3 (L : List Nat) : (swaps L).length ≤ 4 := by
  have : ∀ n, (zaU L n).length ≤ n := by
    intro n
    induction n with
    | zero => exact Nat.le_refl _
    | succ n ih =>
      show (zaU L n ++ zaR L n).length ≤ n + 1
      rw [List.length_append]
      have := zh4 L n
      lia
  exact this 4
theorem zkD (o a k : Int) : dgetP (zipD [D.int o, .int a] [.int a, .int o]) (.int k) (.int k) = some (.int (if k = a then o else if k = o then a else k)) := by
  show some (if k = a then D.int o else if k = o then D.int a else D.int k) = _
  split
  · rfl
  · split <;> rfl
noncomputable def flip1 (odd : Nat) (L : List Nat) : List Nat := (en 0 L).map λ p => 2 * (p.2 / 2) + if p.1 = odd then 1 - p.2 % 2 else p.2 % 2
noncomputable def move1 (L : List Nat) : List Nat := L.take 4 ++ [2 * ((dp L 4 + 1) % (dp L 3 + 2)) + lb L 4]
noncomputable def zdC (odd after k : Nat) : Nat := if k = after then odd else if k = odd then after else k
noncomputable def zeF (odd after : Nat) (L : List Nat) : List Nat := (List.range 5).map λ k => 2 * dp L k + lb L (zdC odd after k)
theorem ziF {d l : Nat} (hl : l < 2) : ln (2 * d + l) = .tup [.int (d : Int), .int (l : Int)] := by
  unfold ln
  rw [show (2 * d + l) / 2 = d from by lia, show (2 * d + l) % 2 = l from by lia]
theorem half {d l : Nat} (hl : l < 2) : (2 * d + l) / 2 = d := by rw [Nat.add_comm, Nat.add_mul_div_left _ _ (by decide), Nat.div_eq_of_lt hl, Nat.zero_add]
theorem zfH {c : Prop} [Decidable c] {a b : Nat} (ha : a < 2) (hb : b < 2) : (if c then a else b) < 2 := by split <;> assumption
theorem m2 (x : Nat) : x % 2 < 2 := Nat.mod_lt _ (by decide)
theorem om2 {x : Nat} : 1 - x % 2 < 2 := Nat.lt_of_le_of_lt (Nat.sub_le _ _) (by decide)
theorem valid5 {a b c d e : Nat} : valid [a, b, c, d, e] = true ↔ a < 2 /\ b / 2 < a / 2 + 2 /\ c / 2 < b / 2 + 2 /\ d / 2 < c / 2 + 2 /\ e / 2 < d / 2 + 2 := by
  simp only [valid, Bool.and_eq_true, Nat.blt_eq, and_assoc]
theorem ze1 {p q r s t a b c d e : Nat} (h0 : p = 0) (h1 : q < p + 2) (h2 : r < q + 2) (h3 : s < r + 2) (h4 : t < s + 2) (ha : a < 2) (hb : b < 2) (hc : c < 2) (hd : d < 2) (he : e < 2) : valid [2 * p + a, 2 * q + b, 2 * r + c, 2 * s + d, 2 * t + e] = true := by
  subst h0
  refine valid5.mpr ⟨by rw [Nat.mul_zero, Nat.zero_add]; exact ha, ?_⟩
  rw [half ha, half hb, half hc, half hd, half he]
  exact ⟨h1, h2, h3, h4⟩
theorem zin {odd : Nat} {L : List Nat} (h : valid L = true) : valid (flip1 odd L) = true := by
  match L, h with
  | [a, b, c, d, e], h =>
    obtain ⟨h0, h1, h2, h3, h4⟩ := valid5.mp h
    exact ze1 (Nat.div_eq_of_lt h0) h1 h2 h3 h4 (zfH om2 (m2 _)) (zfH om2 (m2 _)) (zfH om2 (m2 _)) (zfH om2 (m2 _)) (zfH om2 (m2 _))
theorem zia {L : List Nat} (h : valid L = true) : valid (move1 L) = true := by
  match L, h with
  | [a, b, c, d, e], h =>
    obtain ⟨h0, h1, h2, h3, h4⟩ := valid5.mp h
    have hm : (dp [a, b, c, d, e] 4 + 1) % (d / 2 + 2) < d / 2 + 2 := Nat.mod_lt _ (Nat.succ_pos _)
    show valid [a, b, c, d, 2 * ((dp [a, b, c, d, e] 4 + 1) % (d / 2 + 2)) + lb [a, b, c, d, e] 4] = true
    rw [valid5, half (zcI _ 4)]
    exact ⟨h0, h1, h2, h3, hm⟩
theorem zg3 {L : List Nat} {odd after : Nat} (h : valid L = true) : valid (zeF odd after L) = true := by
  match L, h with
  | [a, b, c, d, e], h =>
    obtain ⟨h0, h1, h2, h3, h4⟩ := valid5.mp h
    exact ze1 (Nat.div_eq_of_lt h0) h1 h2 h3 h4 (zcI _ _) (zcI _ _) (zcI _ _) (zcI _ _) (zcI _ _)
section
variable {tok : Str -> Option Int} {Φ : String -> List D -> Option D} {Ψ : String -> List D -> Option (D × List D)} {σ : Sg} {a b c : T} {r : R}
theorem zic {L : List Nat} {draw odd kind : Nat} (hS : ∀ L : List Nat, L.length = 5 -> Φ "_law_swapped" [ol L] = some (.lst (ols (swaps L)))) (hV : valid L = true) (ho : odd < 5) (hk : kind < 4) :
    ∃ σ' M, valid M = true /\ evs tok Φ Ψ zbl [(0, .fz (ol L)), (1, .fz (.int (draw : Int))), (2, .fz (.int (odd : Int))), (3, .fz (.int (kind : Int)))] (.ret (ol M)) σ' := by
  have loop : ∀ (l : List Nat) (L : List Nat) (σ : Sg), (∀ t ∈ l, t < 3) -> valid L = true -> σ.lookup 0 = some (.fz (ol L)) -> σ.lookup 1 = some (.fz (.int (draw : Int))) -> σ.lookup 2 = some (.fz (.int (odd : Int))) -> σ.lookup 3 = some (.fz (.int (kind : Int))) ->
      ∃ σ' L', ForR (.nm 4) (evs tok Φ Ψ [.asg (.nm 5) (.bin .Add (.call (.cst (.fn "_law_swapped")) [.var 0]) (.lst [.var 0])),
        .asg (.nm 0) (.sub (.var 5) (.bin .Mod (.bin .FloorDiv (.var 1) (.bin .Pow (.cst (.int 5)) (.var 4))) (.call (.cst (.fn "len")) [.var 5])))]) (l.map λ (i : Nat) => D.int (i : Int)) σ .next σ' /\ valid L' = true /\
        σ'.lookup 0 = some (.fz (ol L')) /\ σ'.lookup 2 = some (.fz (.int (odd : Int))) /\ σ'.lookup 3 = some (.fz (.int (kind : Int))) := by
    intro l
    induction l with
    | nil => intro L σ _ hV g0 g1 g2 g3; exact ⟨σ, L, .nil, hV, g0, g2, g3⟩
    | cons t l ih =>
      intro L σ ht hV g0 g1 g2 g3
      have h5 := za0 hV
      have ht3 := ht t (.head _)
      have hsl := zi3 L
      have e5 := zbP (tok := tok) (Φ := Φ) (σ := (4, .fz (.int (t : Int))) :: σ) (zaK (n := "_law_swapped") (ds := [ol L]) rfl (zaB (zab (i := 0) (g0))) (hS L h5)) rfl (zbw (ds := [ol L]) (zaB (zab (i := 0) (g0)))) rfl (by unfold ols; rw [List.length_map, List.length_singleton]; lia)
      have ech : ols (swaps L) ++ [ol L] = ols (swaps L ++ [L]) := by unfold ols; rw [List.map_append]; rfl
      rw [ech] at e5
      have hlen : (swaps L ++ [L]).length ≠ 0 := by simp
      have hpow : 5 ^ t ≠ 0 /\ 5 ^ t ≤ 2 ^ 29 := by rcases (by lia : t = 0 ∨ t = 1 ∨ t = 2) with rfl | rfl | rfl <;> decide
      have el := zdl (tok := tok) (Φ := Φ) (a := .var 5) (σ := (5, .fz (.lst (ols (swaps L ++ [L])))) :: (4, .fz (.int (t : Int))) :: σ) (zab zaa) rfl (by unfold ols; rw [List.length_map, List.length_append, List.length_singleton]; lia)
      rw [show (ols (swaps L ++ [L])).length = (swaps L ++ [L]).length from by unfold ols; rw [List.length_map]] at el
      have ei := zbp (zbK (tok := tok) (Φ := Φ) (σ := (5, .fz (.lst (ols (swaps L ++ [L])))) :: (4, .fz (.int (t : Int))) :: σ) (q_vi (n := 1) (k := draw) (g1)) (zly (q_c (n := 5)) (q_vi (n := 4) (k := t) (rfl)) (by lia) (by decide)) hpow.1 hpow.2) el hlen
      have hlt := Nat.mod_lt (draw / 5 ^ t) (Nat.pos_of_ne_zero hlen)
      generalize draw / 5 ^ t % (swaps L ++ [L]).length = j at ei hlt
      have hj : (swaps L ++ [L])[j]? = some (swaps L ++ [L])[j] := List.getElem?_eq_getElem hlt
      have hv : valid (swaps L ++ [L])[j] = true := by
        have hm : (swaps L ++ [L])[j] ∈ swaps L ++ [L] := List.getElem_mem _
        rcases List.mem_append.mp hm with h | h
        · exact valid_iff.mp (VOkV.cl L (valid_iff.mpr hV) _ h)
        · rw [List.mem_singleton.mp h]; exact hV
      generalize (swaps L ++ [L])[j] = N at hj hv
      have ev := zat (tok := tok) (Φ := Φ) (a := .var 5) (σ := (5, .fz (.lst (ols (swaps L ++ [L])))) :: (4, .fz (.int (t : Int))) :: σ) (zab zaa) rfl ei (by rw [List.length_append, List.length_singleton] at hlt; lia) (d := ol N) (by unfold ols; rw [List.getElem?_map, hj]; rfl)
      obtain ⟨σ', L', f, k⟩ := ih N ((0, .fz (ol N)) :: (5, .fz (.lst (ols (swaps L ++ [L])))) :: (4, .fz (.int (t : Int))) :: σ) (λ u hu => ht u (.tail _ hu)) hv zaa (g1) (g2) (g3)
      exact ⟨σ', L', .next rfl (zad (zaq e5) (zad (zaq ev) zag)) f, k⟩
  obtain ⟨σ1, M, f, hM, g0, g2, g3⟩ := loop (List.range 3) L [(0, .fz (ol L)), (1, .fz (.int (draw : Int))), (2, .fz (.int (odd : Int))), (3, .fz (.int (kind : Int)))] (λ t ht => List.mem_range.mp ht) hV rfl rfl rfl rfl
  have hM5 := za0 hM
  have e6 := zbp (zao (tok := tok) (Φ := Φ) (q_vi g2) (q_c (n := 1))) (q_c (n := 5)) (by decide)
  have haft := Nat.mod_lt (odd + 1) (show 0 < 5 by decide)
  generalize (odd + 1) % 5 = after at e6 haft
  have e7 : pe tok Φ (.lc (.tp [.nm 15, .tp [.nm 16, .nm 17]]) (.enm (.var 0)) (.all_ .And []) (.yld (.tup [.var 16, .ite (.cmp .Eq (.var 15) (.var 2)) (.bin .Sub (.cst (.int 1)) (.var 17)) (.var 17)])) [2]) ((6, .fz (.int (after : Int))) :: σ1) = some (.d (ol (flip1 odd M))) := by
    have := zcr (tok := tok) (Φ := Φ) (σ := (6, .fz (.int (after : Int))) :: σ1) (p := .tp [.nm 15, .tp [.nm 16, .nm 17]]) (it := .enm (.var 0)) (e := .tup [.var 16, .ite (.cmp .Eq (.var 15) (.var 2)) (.bin .Sub (.cst (.int 1)) (.var 17)) (.var 17)]) (fr := [2]) (l := en 0 M) (u := λ p => .tup [.int (p.1 : Int), ln p.2])
      (f := λ p => ln (2 * (p.2 / 2) + if p.1 = odd then 1 - p.2 % 2 else p.2 % 2)) (by
        rw [znP (zab (i := 0) (d := ol M) ((zaf rfl).trans g0)) (ds := M.map ln) rfl]
        rw [zgx]) (λ p hp => by
        refine ⟨_, rfl, ?_⟩
        have hlt : p.2 % 2 < 2 := Nat.mod_lt _ (by decide)
        have k15 : List.lookup 15 ((17, B.fz (.int ((p.2 % 2 : Nat) : Int))) :: (16, .fz (.int ((p.2 / 2 : Nat) : Int))) :: (15, .fz (.int (p.1 : Int))) :: ((6, B.fz (.int (after : Int))) :: σ1).filter λ q => [2].contains q.1) = some (.fz (.int (p.1 : Int))) := rfl
        have k2 : List.lookup 2 ((17, B.fz (.int ((p.2 % 2 : Nat) : Int))) :: (16, .fz (.int ((p.2 / 2 : Nat) : Int))) :: (15, .fz (.int (p.1 : Int))) :: ((6, B.fz (.int (after : Int))) :: σ1).filter λ q => [2].contains q.1) = some (.fz (.int (odd : Int))) := by rw [zaf rfl, zaf rfl, zaf rfl, zal rfl, zaf rfl]; exact g2
        have ec := zd0 (tok := tok) (Φ := Φ) (q_vi k15) (q_vi k2)
        have e16 : pe tok Φ (.var 16) ((17, B.fz (.int ((p.2 % 2 : Nat) : Int))) :: (16, .fz (.int ((p.2 / 2 : Nat) : Int))) :: (15, .fz (.int (p.1 : Int))) :: ((6, B.fz (.int (after : Int))) :: σ1).filter λ q => [2].contains q.1) = some (.d (.int ((p.2 / 2 : Nat) : Int))) := zab (rfl)
        show pe tok Φ _ ((17, B.fz (.int ((p.2 % 2 : Nat) : Int))) :: (16, .fz (.int ((p.2 / 2 : Nat) : Int))) :: (15, .fz (.int (p.1 : Int))) :: ((6, B.fz (.int (after : Int))) :: σ1).filter λ q => [2].contains q.1) = _
        by_cases h : p.1 = odd
        · rw [decide_eq_true h] at ec
          rw [if_pos h, ziF (by lia)]
          exact zbc (ds := [.int ((p.2 / 2 : Nat) : Int), .int ((1 - p.2 % 2 : Nat) : Int)]) (zau e16 (zcH ec (zcn (q_c (n := 1)) (q_vi zaa) (by lia))))
        · rw [decide_eq_false h] at ec
          rw [if_neg h, ziF hlt]
          exact zbc (ds := [.int ((p.2 / 2 : Nat) : Int), .int ((p.2 % 2 : Nat) : Int)]) (zau e16 (zcC ec (q_vi zaa)))) (by rw [zhh]; lia)
    rw [this]
    unfold ol flip1
    rw [List.map_map]; rfl
  have e8 : pe tok Φ (.bin .Add (.slc (.var 0) (.cst (.none)) (.cst (.int 4)) (.cst (.none))) (.lst [.tup [.bin .Mod (.bin .Add (.sub (.sub (.var 0) (.cst (.int 4))) (.cst (.int 0))) (.cst (.int 1))) (.bin .Add (.sub (.sub (.var 0) (.cst (.int 3))) (.cst (.int 0))) (.cst (.int 2))), .sub (.sub (.var 0) (.cst (.int 4))) (.cst (.int 1))]])) ((7, .fz (ol (flip1 odd M))) :: (6, .fz (.int (after : Int))) :: σ1) = some (.d (ol (move1 M))) := by
    have g : List.lookup 0 ((7, B.fz (ol (flip1 odd M))) :: (6, .fz (.int (after : Int))) :: σ1) = some (.fz (ol M)) := g0
    have es := zir (tok := tok) (Φ := Φ) (lo := none) (hi := some 4) (zab g) rfl q_cst q_cst (by rw [List.length_map]; lia) (λ j hj => by cases hj) (λ j hj => by cases hj; rw [List.length_map]; lia)
    have em := zbp (zao (zdY (tok := tok) (Φ := Φ) g (q_c (n := 4)) (by lia) (by lia)) (q_c (n := 1))) (zao (zdY g (q_c (n := 3)) (by lia) (by lia)) (q_c (n := 2))) (by lia)
    have et := zbw (ds := [.tup [.int (((dp M 4 + 1) % (dp M 3 + 2) : Nat) : Int), .int ((lb M 4 : Nat) : Int)]]) (zaB (zbc (ds := [.int (((dp M 4 + 1) % (dp M 3 + 2) : Nat) : Int), .int ((lb M 4 : Nat) : Int)]) (zau em (zk5 (tok := tok) (Φ := Φ) g (q_c (n := 4)) (by lia) (by lia)))))
    refine (zbP es rfl et rfl (by simp; lia)).trans ?_
    unfold ol move1
    rw [List.map_append, List.map_take, List.map_singleton, ziF (zcI M 4)]
    rfl
  have e9 : pe tok Φ (.lc (.nm 15) (.rng1 (.cst (.int 5))) (.all_ .And []) (.yld (.tup [.sub (.sub (.var 0) (.var 15)) (.cst (.int 0)), .sub (.sub (.var 0) (.dget [.var 2, .var 6] [.var 6, .var 2] (.var 15) (.var 15))) (.cst (.int 1))])) [6, 0, 2]) ((8, .fz (ol (move1 M))) :: (7, .fz (ol (flip1 odd M))) :: (6, .fz (.int (after : Int))) :: σ1) = some (.d (ol (zeF odd after M))) := by
    have := zcr (tok := tok) (Φ := Φ) (σ := (8, .fz (ol (move1 M))) :: (7, .fz (ol (flip1 odd M))) :: (6, .fz (.int (after : Int))) :: σ1) (p := .nm 15) (it := .rng1 (.cst (.int 5))) (e := .tup [.sub (.sub (.var 0) (.var 15)) (.cst (.int 0)), .sub (.sub (.var 0) (.dget [.var 2, .var 6] [.var 6, .var 2] (.var 15) (.var 15))) (.cst (.int 1))]) (fr := [6, 0, 2]) (l := List.range 5) (u := λ (i : Nat) => D.int (i : Int))
      (f := λ k => ln (2 * dp M k + lb M (zdC odd after k))) (zdc (by decide) (q_c (n := 5))) (λ k hk => by
        rw [List.mem_range] at hk
        refine ⟨_, rfl, ?_⟩
        have k0 : List.lookup 0 ((15, B.fz (.int (k : Int))) :: ((8, B.fz (ol (move1 M))) :: (7, .fz (ol (flip1 odd M))) :: (6, .fz (.int (after : Int))) :: σ1).filter λ q => [6, 0, 2].contains q.1) = some (.fz (ol M)) := by rw [zaf rfl, zal rfl, zaf rfl, zaf rfl, zaf rfl]; exact g0
        have k2 : List.lookup 2 ((15, B.fz (.int (k : Int))) :: ((8, B.fz (ol (move1 M))) :: (7, .fz (ol (flip1 odd M))) :: (6, .fz (.int (after : Int))) :: σ1).filter λ q => [6, 0, 2].contains q.1) = some (.fz (.int (odd : Int))) := by rw [zaf rfl, zal rfl, zaf rfl, zaf rfl, zaf rfl]; exact g2
        have k6 : List.lookup 6 ((15, B.fz (.int (k : Int))) :: ((8, B.fz (ol (move1 M))) :: (7, .fz (ol (flip1 odd M))) :: (6, .fz (.int (after : Int))) :: σ1).filter λ q => [6, 0, 2].contains q.1) = some (.fz (.int (after : Int))) := by rw [zaf rfl, zal rfl, zaf rfl, zaf rfl]; exact zaa
        have k15 : List.lookup 15 ((15, B.fz (.int (k : Int))) :: ((8, B.fz (ol (move1 M))) :: (7, .fz (ol (flip1 odd M))) :: (6, .fz (.int (after : Int))) :: σ1).filter λ q => [6, 0, 2].contains q.1) = some (.fz (.int (k : Int))) := zaa
        generalize ((15, B.fz (.int (k : Int))) :: ((8, B.fz (ol (move1 M))) :: (7, .fz (ol (flip1 odd M))) :: (6, .fz (.int (after : Int))) :: σ1).filter λ q => [6, 0, 2].contains q.1) = τ at k0 k2 k6 k15
        have ed : pe tok Φ (.dget [.var 2, .var 6] [.var 6, .var 2] (.var 15) (.var 15)) τ = some (.d (.int ((zdC odd after k : Nat) : Int))) := by
          refine zmg (K := [.int (odd : Int), .int (after : Int)]) (V := [.int (after : Int), .int (odd : Int)]) (zau (zab k2) (zab k6)) (zau (zab k6) (zab k2)) (zab k15) (zab k15) ((zkD _ _ _).trans ?_)
          unfold zdC
          congr 2
          split <;> split <;> (try split) <;> (try split) <;> lia
        have hc : zdC odd after k < 5 := by unfold zdC; split; exact ho; split; exact haft; exact hk
        rw [ziF (zcI M _)]
        exact zbc (ds := [.int ((dp M k : Nat) : Int), .int ((lb M (zdC odd after k) : Nat) : Int)]) (zau (zdY k0 (q_vi k15) (by lia) (by lia)) (zk5 k0 ed (by lia) (by lia)))) (by simp)
    rw [this]
    unfold ol zeF
    rw [List.map_map]; rfl
  have hR : ∃ N, valid N = true /\ ([ol M, ol (flip1 odd M), ol (move1 M), ol (zeF odd after M)])[kind]? = some (ol N) := by
    rcases (by lia : kind = 0 ∨ kind = 1 ∨ kind = 2 ∨ kind = 3) with rfl | rfl | rfl | rfl
    · exact ⟨M, hM, rfl⟩
    · exact ⟨_, zin hM, rfl⟩
    · exact ⟨_, zia hM, rfl⟩
    · exact ⟨_, zg3 hM, rfl⟩
  obtain ⟨N, hN, hi⟩ := hR
  have er := zat (tok := tok) (Φ := Φ) (σ := (9, .fz (ol (zeF odd after M))) :: (8, .fz (ol (move1 M))) :: (7, .fz (ol (flip1 odd M))) :: (6, .fz (.int (after : Int))) :: σ1) (zbc (es := [.var 0, .var 7, .var 8, .var 9]) (ds := [ol M, ol (flip1 odd M), ol (move1 M), ol (zeF odd after M)])
    (zak (zab (g0)) (zak (zab (rfl)) (zau (zab (rfl)) (zab zaa))))) rfl (q_vi (n := 3) (k := kind) (g3)) (by lia) hi
  exact ⟨_, N, hN, zad (zci (zdc (n := 3) (by decide) q_cst) f) (zad (zaq e6) (zad (zaq e7) (zad (zaq e8) (zad (zaq e9) (zaF (zby er))))))⟩
end
end Mine
end
section
open PySem PySem.W PyProof.Rows PySem.StrLaws Builtin.Str
set_option maxRecDepth 100000
namespace Mine
noncomputable def lx0 : X := .asg (.nm 1) (.lc (.tp [.nm 48, .nm 49]) (.enm (.tup [.cst (.int 111), .cst (.int 1410), .cst (.int 231)])) (.all_ .And []) (.yld (.bin .Add (.var 49) (.call (.cst (.fn "sum")) [.lc (.nm 51) (.pln (.slc (.var 0) (.var 48) (.cst (.int 60)) (.cst (.int 3)))) (.all_ .And []) (.yld (.bin .Mod (.var 51) (.cst (.int 5040)))) []]))) [0])
noncomputable def lx1 : X := .asg (.nm 2) (.call (.cst (.fn "_law_depths")) [.sub (.var 1) (.cst (.int 0))])
noncomputable def lx2 : X := .asg (.nm 3) (.lc (.nm 52) (.rng1 (.cst (.int 5))) (.all_ .And []) (.yld (.tup [.sub (.var 2) (.var 52), .bin .Mod (.bin .FloorDiv (.sub (.var 1) (.cst (.int 1))) (.bin .Pow (.cst (.int 2)) (.var 52))) (.cst (.int 2))])) [1, 2])
noncomputable def lx3 : X := .asg (.nm 4) (.call (.cst (.fn "_law_second")) [.var 3, .bin .Add (.sub (.var 1) (.cst (.int 0))) (.sub (.var 1) (.cst (.int 2))), .bin .Mod (.sub (.var 1) (.cst (.int 2))) (.cst (.int 5)), .bin .Mod (.bin .FloorDiv (.sub (.var 1) (.cst (.int 1))) (.cst (.int 32))) (.cst (.int 4))])
noncomputable def lx4 : X := .asg (.nm 5) (.meth "split" (.cst (.str "+ - * / | & < > = . % { } == != <= >= ~ ^ << >> ** += -= *= /= %= &= |= ^= <<= >>= **= // //= @ @= -> ... := !")) [.cst (.str " ")])
noncomputable def lx5 : X := .asg (.nm 6) (.lst [.bin .Add (.cst (.int 14)) (.bin .Mod (.bin .FloorDiv (.sub (.var 1) (.cst (.int 2))) (.cst (.int 5))) (.cst (.int 41))), .bin .Add (.cst (.int 14)) (.bin .Mod (.bin .Add (.bin .FloorDiv (.sub (.var 1) (.cst (.int 2))) (.cst (.int 5))) (.cst (.int 15))) (.cst (.int 41)))])
noncomputable def lx6 : X := .asg (.nm 7) (.sub (.tup [.cst (.fn "_escape_cdata"), .cst (.fn "_escape_cdata_c14n"), .cst (.fn "_escape_attrib"), .cst (.fn "_escape_attrib_html"), .cst (.fn "_escape_attrib_c14n")]) (.bin .Mod (.sub (.var 1) (.cst (.int 2))) (.cst (.int 5))))
noncomputable def lx7 : X := .asg (.nm 8) (.lc (.nm 53) (.pln (.tup [.var 3, .var 4])) (.all_ .And []) (.yld (.call (.cst (.fn "_law_row")) [.var 53, .lc (.nm 55) (.pln (.var 6)) (.all_ .And []) (.yld (.sub (.var 5) (.bin .Sub (.var 55) (.cst (.int 14))))) [5]])) [6, 5])
noncomputable def lx8 : X := .asg (.nm 9) (.lc (.nm 56) (.pln (.var 8)) (.all_ .And []) (.yld (.call (.var 7) [.var 56])) [7])
noncomputable def lx9 : X := .asg (.nm 10) (.lc (.nm 57) (.pln (.var 9)) (.all_ .And []) (.yld (.call (.cst (.fn "_law_read")) [.var 57, .var 6])) [6])
noncomputable def lx10 : X := .iff (.all_ .Or [.cmp .NotEq (.var 9) (.lc (.nm 56) (.pln (.var 8)) (.all_ .And []) (.yld (.call (.cst (.fn "_law_page")) [.var 56, .bin .Mod (.sub (.var 1) (.cst (.int 2))) (.cst (.int 5))])) [1]), .cmp .NotEq (.var 10) (.lst [.var 3, .var 4])]) [.ret (.cst (.bool false))] []
noncomputable def lx11 : X := .asgs [11, 12, 13] [true, false, false] [.lst [], .call (.cst (.fn "_law_reached")) [.var 3], .bin .Mod (.bin .FloorDiv (.sub (.var 1) (.cst (.int 1))) (.cst (.int 128))) (.cst (.int 5))]
noncomputable def lx12 : X := .ino (.tp [.nm 14, .nm 15, .nm 16]) (.cst (.fn "_law_booked")) (.sub (.var 10) (.cst (.int 0))) 11 (.var 13)
noncomputable def lx13 : X := .ino (.tp [.nm 17, .nm 18, .nm 19]) (.cst (.fn "_law_booked")) (.sub (.var 10) (.cst (.int 1))) 11 (.var 13)
noncomputable def lx14 : X := .iff (.cmp .NotEq (.lc (.nm 60) (.rng1 (.call (.cst (.fn "len")) [.var 11])) (.all_ .And []) (.gen (.nm 61) (.rng1 (.call (.cst (.fn "len")) [.var 11])) (.all_ .And [.cmp .IsNot (.meth "equal" (.sub (.var 11) (.var 60)) [.sub (.var 11) (.var 61)]) (.cmp .Eq (.var 60) (.var 61))]) (.yld (.tup [.var 60, .var 61]))) [11]) (.lst [])) [.ret (.cst (.bool false))] []
noncomputable def lx15 : X := .asgs [20, 21, 22] [false, false, false] [.bin .Mod (.bin .Add (.bin .Add (.var 13) (.cst (.int 1))) (.bin .Mod (.bin .FloorDiv (.sub (.var 1) (.cst (.int 1))) (.cst (.int 640))) (.cst (.int 4)))) (.cst (.int 5)), .meth "index" (.var 19) [.call (.cst (.fn "min")) [.var 19]], .meth "index" (.var 19) [.call (.cst (.fn "max")) [.var 19]]]
noncomputable def lx16 : X := .asg (.nm 23) (.lc (.nm 52) (.rng1 (.call (.cst (.fn "len")) [.var 19])) (.all_ .And []) (.yld (.bin .Sub (.bin .Add (.sub (.var 19) (.var 52)) (.ite (.cmp .Eq (.var 52) (.var 21)) (.cst (.int 1)) (.cst (.int 0)))) (.ite (.cmp .Eq (.var 52) (.var 22)) (.cst (.int 1)) (.cst (.int 0))))) [22, 21, 19])
noncomputable def lx17 : X := .asg (.nm 24) (.lst [.tup [.var 17, .var 19, .var 13, .cmp .In (.var 4) (.var 12)], .tup [.call (.cst (.fn "_law_guy")) [.var 19, .var 20], .var 19, .var 20, .cst (.bool false)], .tup [.call (.cst (.fn "_law_guy")) [.var 23, .var 13], .var 23, .var 13, .cmp .Eq (.call (.cst (.fn "sorted")) [.var 23]) (.call (.cst (.fn "sorted")) [.var 16])]])
noncomputable def lx18 : X := .fr (.tp [.nm 25, .nm 26, .nm 27, .nm 28]) (.pln (.var 24)) [.asg (.nm 29) (.bin .Add (.call (.cst (.fn "max")) [.bin .Add (.bin .Add (.var 16) (.var 26)) (.lst [.var 13, .var 27])]) (.cst (.int 1))),   .asg (.nm 30) (.lc (.nm 62) (.rng (.cst (.int 1)) (.bin .Add (.var 29) (.cst (.int 1)))) (.all_ .And []) (.yld (.tup [.var 62, .bin .Add (.bin .Mult (.var 62) (.call (.cst (.fn "sum")) [.lc (.nm 52) (.pln (.var 16)) (.all_ .And []) (.yld (.bin .Add (.bin .FloorDiv (.var 52) (.var 62)) (.cst (.int 1)))) [62]])) (.var 13), .bin .Add (.bin .Mult (.var 62) (.call (.cst (.fn "sum")) [.lc (.nm 52) (.pln (.var 26)) (.all_ .And []) (.yld (.bin .Add (.bin .FloorDiv (.var 52) (.var 62)) (.cst (.int 1)))) [62]])) (.var 27)])) [13, 16, 27, 26]),   .iff (.all_ .Or [.cmp .IsNot (.meth "equal" (.var 14) [.var 25]) (.var 28), .cmp .IsNot (.meth "equal" (.var 25) [.var 14]) (.var 28)]) [.ret (.cst (.bool false))] [],   .iff (.all_ .Or [.cmp .NotEq (.meth "not_equal_witness" (.var 14) [.var 25]) (.lc (.nm 51) (.pln (.var 30)) (.all_ .And [.cmp .NotEq (.sub (.var 51) (.cst (.int 1))) (.sub (.var 51) (.cst (.int 2)))]) (.yld (.var 51)) []), .cmp .NotEq (.meth "not_equal_witness" (.var 25) [.var 14]) (.lc (.tp [.nm 62, .nm 51, .nm 63]) (.pln (.var 30)) (.all_ .And [.cmp .NotEq (.var 51) (.var 63)]) (.yld (.tup [.var 62, .var 63, .var 51])) [])]) [.ret (.cst (.bool false))] []]
noncomputable def lx19 : X := .ret (.all_ .And [.cmp .Eq (.var 15) (.call (.cst (.fn "len")) [.var 12]), .cmp .Eq (.var 18) (.call (.cst (.fn "len")) [.call (.cst (.fn "_law_reached")) [.var 4]])])
theorem zoF : zjU = [lx0, lx1, lx2, lx3, lx4, lx5, lx6, lx7, lx8, lx9, lx10, lx11, lx12, lx13, lx14, lx15, lx16, lx17, lx18, lx19] := rfl
theorem zon {a b : Int} (h : b ≤ 63) (ha : 0 ≤ a) : (sliceRange a b 3).length ≤ 22 := by
  unfold sliceRange
  rw [List.length_map, List.length_range]
  split <;> lia
theorem zpa (xs : List Int) (p : Nat) (hx : xs.length ≤ 63) : ∃ ys : List Int, zbY (xs.map .int) (some (p : Int)) (some 60) (some 3) = ys.map .int /\ ys.length ≤ 22 := by
  refine ⟨(sliceRange (sliceBounds (some (p : Int)) (some 60) (some 3) (xs.map D.int).length).1 (sliceBounds (some (p : Int)) (some 60) (some 3) (xs.map D.int).length).2.1 (sliceBounds (some (p : Int)) (some 60) (some 3) (xs.map D.int).length).2.2).filterMap (xs[·]?), ?_, ?_⟩
  · unfold zbY
    rw [List.map_filterMap]
    congr 1
    funext i
    rw [List.getElem?_map]
  · refine Nat.le_trans (List.length_filterMap_le _ _) ?_
    have hn : (((xs.map D.int).length : Nat) : Int) ≤ 63 := by rw [List.length_map]; lia
    exact zon (a := max 0 (min (if (p : Int) < 0 then _ else _) _)) (b := max 0 (min (if (60 : Int) < 0 then _ else _) _)) (Int.max_le.mpr ⟨by decide, Int.le_trans (Int.min_le_right _ _) hn⟩) (Int.le_max_left _ _)
theorem zhS : ∀ ys : List Int, ∃ s : Nat, (ys.map λ i => i.fmod 5040).sum = (s : Int) /\ s ≤ ys.length * 5040
  | [] => ⟨0, rfl, Nat.le_refl _⟩
  | y :: ys => by
    obtain ⟨s, e, h⟩ := zhS ys
    have h1 : 0 ≤ y.fmod 5040 := Int.fmod_nonneg_of_pos y (by decide)
    have h2 : y.fmod 5040 < 5040 := Int.fmod_lt_of_pos y (by decide)
    refine ⟨(y.fmod 5040).toNat + s, ?_, ?_⟩
    · rw [List.map_cons, List.sum_cons, e]; lia
    · rw [List.length_cons]; lia
section
variable {tok : Str -> Option Int} {Φ : String -> List D -> Option D} {Ψ : String -> List D -> Option (D × List D)} {σ : Sg} {a b c : T} {r : R}
theorem zpE {ds : List D} {i j : Int} (ha : pe tok Φ a σ = some (.d (.lst ds))) (hlo : pe tok Φ b σ = some (.d (.int i))) (hhi : pe tok Φ c σ = some (.d (.int j))) (hl : ds.length ≤ 2 ^ 20) : pe tok Φ (.slc a b c (.cst (.int 3))) σ = some (.d (.lst (zbY ds (some i) (some j) (some 3)))) := by
  refine bnd ha (bnd (bnd hlo rfl) (bnd (bnd hhi rfl) (bnd (bnd q_cst rfl) (mpd ?_ rfl))))
  exact bnd (x := some i) rfl (bnd (x := some j) rfl (bnd (x := some 3) rfl (show (if _ then _ else _) = _ from if_pos ⟨by decide, hl⟩)))
theorem zpH {xs : List Int} (hx : xs.length ≤ 63) (h0 : σ.lookup 0 = some (.fz (.lst (xs.map .int)))) : ∃ c0 c1 c2 : Nat, c0 ≤ 2 ^ 20 /\ c1 ≤ 2 ^ 20 /\ c2 ≤ 2 ^ 20 /\ ev1 tok Φ Ψ lx0 σ .next ((1, .fz (.lst (il [c0, c1, c2]))) :: σ) := by
  have sums : ∀ p : Nat, ∃ s : Nat, s ≤ 200000 /\ ∀ τ : Sg, τ.lookup 0 = some (.fz (.lst (xs.map .int))) -> τ.lookup 48 = some (.fz (.int (p : Int))) ->
      pe tok Φ (.call (.cst (.fn "sum")) [.lc (.nm 51) (.pln (.slc (.var 0) (.var 48) (.cst (.int 60)) (.cst (.int 3)))) (.all_ .And []) (.yld (.bin .Mod (.var 51) (.cst (.int 5040)))) []]) τ = some (.d (.int (s : Int))) := by
    intro p
    obtain ⟨ys, e, hy⟩ := zpa xs p hx
    obtain ⟨s, es, hs⟩ := zhS ys
    refine ⟨s, by lia, λ τ t0 t48 => ?_⟩
    have sl := zpE (tok := tok) (Φ := Φ) (b := .var 48) (c := .cst (.int 60)) (zab t0) (q_vi t48) q_cst (by rw [List.length_map]; lia)
    rw [e] at sl
    have := zbd (ys.map λ i => i.fmod 5040)
    rw [List.map_map] at this
    rw [<- es]
    exact zoV (zcr (l := ys) (u := .int) (f := λ i => .int (i.fmod 5040)) (zc4 sl) (λ y _ => ⟨_, rfl, znI (zab zaa) q_cst (by decide)⟩) (by lia)) this
  obtain ⟨s0, l0, e0⟩ := sums 0
  obtain ⟨s1, l1, e1⟩ := sums 1
  obtain ⟨s2, l2, e2⟩ := sums 2
  refine ⟨111 + s0, 1410 + s1, 231 + s2, by lia, by lia, by lia, zaq ?_⟩
  refine zcr (tok := tok) (Φ := Φ) (l := [(0, 111, s0), (1, 1410, s1), (2, 231, s2)]) (u := λ (p : Nat × Nat × Nat) => .tup [.int (p.1 : Int), .int (p.2.1 : Int)]) (f := λ p => .int ((p.2.1 + p.2.2 : Nat) : Int)) ?_ (λ p hp => ?_) (Nat.le_of_ble_eq_true rfl)
  · exact znP (zbc (ds := [.int 111, .int 1410, .int 231]) (zak q_cst (zau q_cst q_cst))) rfl
  · refine ⟨_, rfl, zao (q_vi zaa) ?_⟩
    simp only [List.mem_cons, List.not_mem_nil, or_false] at hp
    rcases hp with rfl | rfl | rfl
    · exact e0 _ ((zal rfl).trans (h0)) (rfl)
    · exact e1 _ ((zal rfl).trans (h0)) (rfl)
    · exact e2 _ ((zal rfl).trans (h0)) (rfl)
theorem zja {c0 c1 c2 : Nat} (h : σ.lookup 1 = some (.fz (.lst (il [c0, c1, c2])))) : pe tok Φ (.sub (.var 1) (.cst (.int 0))) σ = some (.d (.int (c0 : Int))) := zat (n := 0) (zab h) rfl q_cst (by decide) rfl
theorem zfy {c0 c1 c2 : Nat} (h : σ.lookup 1 = some (.fz (.lst (il [c0, c1, c2])))) : pe tok Φ (.sub (.var 1) (.cst (.int 1))) σ = some (.d (.int (c1 : Int))) := zat (n := 1) (zab h) rfl q_cst (by decide) rfl
theorem zdD {c0 c1 c2 : Nat} (h : σ.lookup 1 = some (.fz (.lst (il [c0, c1, c2])))) : pe tok Φ (.sub (.var 1) (.cst (.int 2))) σ = some (.d (.int (c2 : Int))) := zat (n := 2) (zab h) rfl q_cst (by decide) rfl
noncomputable def zd6 (c0 c1 : Nat) : List Nat := (List.range 5).map λ k => 2 * nth (zaG c0) k + c1 / 2 ^ k % 2
theorem zdy (c0 c1 : Nat) : valid (zd6 c0 c1) = true := by
  have b : ∀ k, c1 / 2 ^ k % 2 < 2 := λ k => Nat.mod_lt _ (by decide)
  exact ze1 (p := 0) (q := c0 % (0 + 2)) (r := c0 / (0 + 2) % (c0 % (0 + 2) + 2)) (s := c0 / (0 + 2) / (c0 % (0 + 2) + 2) % (c0 / (0 + 2) % (c0 % (0 + 2) + 2) + 2))
    (t := c0 / (0 + 2) / (c0 % (0 + 2) + 2) / (c0 / (0 + 2) % (c0 % (0 + 2) + 2) + 2) % (c0 / (0 + 2) / (c0 % (0 + 2) + 2) % (c0 / (0 + 2) % (c0 % (0 + 2) + 2) + 2) + 2))
    rfl (Nat.mod_lt _ (Nat.succ_pos _)) (Nat.mod_lt _ (Nat.succ_pos _)) (Nat.mod_lt _ (Nat.succ_pos _)) (Nat.mod_lt _ (Nat.succ_pos _)) (b 0) (b 1) (b 2) (b 3) (b 4)
theorem zpN {c0 c1 c2 : Nat} (hD : ∀ c : Nat, Φ "_law_depths" [.int (c : Int)] = some (.lst (il (zaG c)))) (h1 : σ.lookup 1 = some (.fz (.lst (il [c0, c1, c2])))) : ev1 tok Φ Ψ lx1 σ .next ((2, .fz (.lst (il (zaG c0)))) :: σ) :=
  zaq (zaK (ds := [.int (c0 : Int)]) rfl (zaB (zja h1)) (hD c0))
theorem zp9 {c0 c1 c2 : Nat} (h1 : σ.lookup 1 = some (.fz (.lst (il [c0, c1, c2])))) (h2 : σ.lookup 2 = some (.fz (.lst (il (zaG c0))))) : ev1 tok Φ Ψ lx2 σ .next ((3, .fz (ol (zd6 c0 c1))) :: σ) := by
  refine zaq ((zcr (l := List.range 5) (u := λ (i : Nat) => .int (i : Int)) (f := λ k => ln (2 * nth (zaG c0) k + c1 / 2 ^ k % 2)) (zdc (by decide) (q_c (n := 5))) (λ k hk => ?_) (by simp)).trans ?_)
  · rw [List.mem_range] at hk
    refine ⟨_, rfl, ?_⟩
    rw [ziF (Nat.mod_lt _ (by decide))]
    have hp : 2 ^ k ≤ 2 ^ 29 := Nat.pow_le_pow_right (by decide) (by lia)
    exact zbc (ds := [.int ((nth (zaG c0) k : Nat) : Int), .int ((c1 / 2 ^ k % 2 : Nat) : Int)]) (zau (zat (zab (i := 2) ((zal rfl).trans (h2))) rfl (q_vi zaa) (by lia) (zfZ (by exact hk)))
      (zbp (zbK (zfy ((zal rfl).trans (h1))) (zly (q_c (n := 2)) (q_vi zaa) (by lia) (by decide)) (Nat.ne_of_gt (Nat.pow_pos (by decide))) hp) (q_c (n := 2)) (by decide)))
  · unfold ol zd6; rw [List.map_map]; rfl
theorem zp3 {c0 c1 c2 : Nat} (hS : ∀ (L : List Nat) (draw odd kind : Nat), valid L = true -> odd < 5 -> kind < 4 -> ∃ M, valid M = true /\ Φ "_law_second" [ol L, .int (draw : Int), .int (odd : Int), .int (kind : Int)] = some (ol M))
    (h1 : σ.lookup 1 = some (.fz (.lst (il [c0, c1, c2])))) (h3 : σ.lookup 3 = some (.fz (ol (zd6 c0 c1)))) : ∃ M, valid M = true /\ ev1 tok Φ Ψ lx3 σ .next ((4, .fz (ol M)) :: σ) := by
  obtain ⟨M, hM, e⟩ := hS (zd6 c0 c1) (c0 + c2) (c2 % 5) (c1 / 32 % 4) (zdy c0 c1) (Nat.mod_lt _ (by decide)) (Nat.mod_lt _ (by decide))
  exact ⟨M, hM, zaq (zaK (ds := [ol (zd6 c0 c1), .int ((c0 + c2 : Nat) : Int), .int ((c2 % 5 : Nat) : Int), .int ((c1 / 32 % 4 : Nat) : Int)]) rfl
    (zak (zab h3) (zak (zao (zja h1) (zdD h1)) (zau (zbp (zdD h1) (q_c (n := 5)) (by decide)) (zbp (zbK (zfy h1) (q_c (n := 32)) (by decide) (by decide)) (q_c (n := 4)) (by decide))))) e)⟩
noncomputable def sgs : List (List Nat) := [[43], [45], [42], [47], [124], [38], [60], [62], [61], [46], [37], [123], [125], [61, 61], [33, 61], [60, 61], [62, 61], [126], [94], [60, 60], [62, 62], [42, 42], [43, 61], [45, 61], [42, 61], [47, 61], [37, 61], [38, 61], [124, 61], [94, 61], [60, 60, 61], [62, 62, 61], [42, 42, 61], [47, 47], [47, 47, 61], [64], [64, 61], [45, 62], [46, 46, 46], [58, 61], [33]]
theorem zi5 : zhL "+ - * / | & < > = . % { } == != <= >= ~ ^ << >> ** += -= *= /= %= &= |= ^= <<= >>= **= // //= @ @= -> ... := !" " " = some (.lst (sgs.map λ s => .str (mk s))) := by kernel_rfl
theorem zpA : ev1 tok Φ Ψ lx4 σ .next ((5, .fz (.lst (sgs.map λ s => .str (mk s)))) :: σ) := by
  refine zaq ?_
  exact bnd q_cst (bnd (zaB q_cst) (mpd (show zje (.d (.str _)) [.d (.str _)] = _ from zi5) rfl))
theorem zpx {c0 c1 c2 : Nat} (h1 : σ.lookup 1 = some (.fz (.lst (il [c0, c1, c2])))) : ev1 tok Φ Ψ lx5 σ .next ((6, .fz (.lst (il [14 + c2 / 5 % 41, 14 + (c2 / 5 + 15) % 41]))) :: σ) := by
  have e := zbK (tok := tok) (Φ := Φ) (zdD h1) (q_c (n := 5)) (by decide) (by decide)
  exact zaq (zbw (ds := il [14 + c2 / 5 % 41, 14 + (c2 / 5 + 15) % 41]) (zau (zao (q_c (n := 14)) (zbp e (q_c (n := 41)) (by decide))) (zao (q_c (n := 14)) (zbp (zao e (q_c (n := 15))) (q_c (n := 41)) (by decide)))))
noncomputable def handN (k : Nat) : String := if k = 0 then "_escape_cdata" else if k = 1 then "_escape_cdata_c14n" else if k = 2 then "_escape_attrib" else if k = 3 then "_escape_attrib_html" else "_escape_attrib_c14n"
theorem zpz {c0 c1 c2 : Nat} (h1 : σ.lookup 1 = some (.fz (.lst (il [c0, c1, c2])))) : ev1 tok Φ Ψ lx6 σ .next ((7, .fz (.fn (handN (c2 % 5)))) :: σ) := by
  have hlt := Nat.mod_lt c2 (show 0 < 5 by decide)
  have e := zbp (tok := tok) (Φ := Φ) (zdD h1) (q_c (n := 5)) (by decide)
  generalize c2 % 5 = k at e hlt
  refine zaq (zat (zbc (ds := [.fn "_escape_cdata", .fn "_escape_cdata_c14n", .fn "_escape_attrib", .fn "_escape_attrib_html", .fn "_escape_attrib_c14n"]) (zak q_cst (zak q_cst (zak q_cst (zau q_cst q_cst))))) rfl e (by lia) ?_)
  rcases (by lia : k = 0 ∨ k = 1 ∨ k = 2 ∨ k = 3 ∨ k = 4) with rfl | rfl | rfl | rfl | rfl <;> rfl
end
theorem zlK {l : List Nat} (h : ∀ c ∈ l, c < 200) (n : Nat) : (D.str (mk l)).sh n = true := by
  have : PyData.strOk (mk l) = true := by
    unfold PyData.strOk mk
    rw [List.all_toArray, List.all_eq_true]
    intro c hc
    exact decide_eq_true (Nat.lt_trans (h c hc) (by decide))
  cases n <;> exact this
theorem zmi {L n0 n1 : List Nat} (h0 : ∀ c ∈ n0, c < 200) (h1 : ∀ c ∈ n1, c < 200) : ∀ c ∈ rowF L n0 n1, c < 200 := by
  have hn : ∀ l, ∀ c ∈ nmT n0 n1 l, c < 200 := λ l => by unfold nmT; split <;> assumption
  have hs : ∀ d e, ∀ c ∈ sepF d e, c < 200 := λ d e c hc => by
    unfold sepF at hc
    split at hc
    · rw [List.mem_singleton.mp hc]; decide
    · rcases List.mem_append.mp hc with h | h
      · rw [(List.mem_replicate.mp h).2]; decide
      · rw [List.mem_singleton.mp h]; decide
  have hr : ∀ k, ∀ c ∈ rowTo L n0 n1 k, c < 200 := by
    intro k
    induction k with
    | zero => exact hn _
    | succ k ih =>
      intro c hc
      unfold rowTo at hc
      rcases List.mem_append.mp hc with h | h
      · rcases List.mem_append.mp h with h | h
        · exact ih c h
        · exact hs _ _ c h
      · exact hn _ c h
  intro c hc
  unfold rowF at hc
  rcases List.mem_append.mp hc with h | h
  · exact hr 4 c h
  · rw [(List.mem_replicate.mp h).2]; decide
theorem zj4 {l : List Nat} (h : ∀ c ∈ l, c < 200) (k : Nat) : ∀ c ∈ pageF k l, c < 200 := by
  intro c hc
  unfold pageF at hc
  obtain ⟨d, hd, hc⟩ := List.mem_flatMap.mp hc
  have hd' := h d hd
  have ha : ∀ c ∈ aAmp, c < 200 := by decide
  have hl : ∀ c ∈ aLt, c < 200 := by decide
  have hg : ∀ c ∈ aGt, c < 200 := by decide
  have h1 : ∀ c ∈ [d], c < 200 := λ c hc => by rw [List.mem_singleton.mp hc]; exact hd'
  unfold chunk at hc
  (repeat' split at hc) <;> first | exact ha c hc | exact hl c hc | exact hg c hc | exact h1 c hc
noncomputable def sg (j : Nat) : List Nat := sgs.getD j []
theorem zn9 {j : Nat} (h : j < 41) : (sgs.map λ s => D.str (mk s))[j]? = some (.str (mk (sg j))) := by
  have : sgs[j]? = some (sg j) := by
    unfold sg
    have hl : j < sgs.length := h
    rw [List.getD_eq_getElem?_getD, List.getElem?_eq_getElem hl]; rfl
  rw [List.getElem?_map, this]; rfl
theorem zes : ∀ j, j < 41 -> (∀ c ∈ sg j, c < 200) /\ zbV (sg j) := by
  have : ∀ s ∈ sgs, (∀ c ∈ s, c < 200) /\ ∀ c ∈ s, c ≠ 34 /\ c ≠ 13 /\ c ≠ 10 /\ c ≠ 9 := by decide
  intro j hj
  have hl : j < sgs.length := hj
  have hm : sg j ∈ sgs := by
    unfold sg
    rw [List.getD_eq_getElem?_getD, List.getElem?_eq_getElem hl]; exact List.getElem_mem hl
  exact this _ hm
section
variable {tok : Str -> Option Int} {Φ : String -> List D -> Option D} {Ψ : String -> List D -> Option (D × List D)} {σ : Sg} {a b c : T} {r : R}
variable {L1 L2 : List Nat} {j0 j1 k : Nat}
theorem zp4 (hR : ∀ (L n0 n1 : List Nat), Out L -> n0.length ≤ 3 -> n1.length ≤ 3 -> Φ "_law_row" [ol L, .lst [.str (mk n0), .str (mk n1)]] = some (.str (mk (rowF L n0 n1)))) (v1 : valid L1 = true) (v2 : valid L2 = true) (K : TokOk tok (sg j0) (sg j1) (14 + j0) (14 + j1)) (l0 : j0 < 41) (l1 : j1 < 41)
    (h3 : σ.lookup 3 = some (.fz (ol L1))) (h4 : σ.lookup 4 = some (.fz (ol L2))) (h5 : σ.lookup 5 = some (.fz (.lst (sgs.map λ s => .str (mk s))))) (h6 : σ.lookup 6 = some (.fz (.lst (il [14 + j0, 14 + j1])))) :
    ev1 tok Φ Ψ lx7 σ .next ((8, .fz (.lst ([L1, L2].map λ L => .str (mk (rowF L (sg j0) (sg j1)))))) :: σ) := by
  refine zaq (zcr (l := [L1, L2]) (u := ol) (f := λ L => .str (mk (rowF L (sg j0) (sg j1)))) (zhs (zbc (ds := [ol L1, ol L2]) (zau (zab h3) (zab h4)))) (λ L hL => ⟨_, rfl, ?_⟩) (Nat.le_of_ble_eq_true rfl))
  have hO : Out L := by
    rcases List.mem_cons.mp hL with rfl | hL
    · exact zbq v1
    · rw [List.mem_singleton.mp hL]; exact zbq v2
  refine zaK (ds := [ol L, .lst [.str (mk (sg j0)), .str (mk (sg j1))]]) rfl (zau (zab zaa) ?_) (hR L _ _ hO K.l0.2 K.l1.2)
  refine zcr (l := [j0, j1]) (u := λ j => .int ((14 + j : Nat) : Int)) (f := λ j => .str (mk (sg j))) (zc4 (zab (by rw [zaf rfl, zal rfl]; exact h6))) (λ j hj => ⟨_, rfl, ?_⟩) (Nat.le_of_ble_eq_true rfl)
  have hj' : j < 41 := by
    rcases List.mem_cons.mp hj with rfl | hj
    · exact l0
    · rw [List.mem_singleton.mp hj]; exact l1
  have e := zcn (tok := tok) (Φ := Φ) (q_vi (n := 55) (k := 14 + j) (σ := (55, B.fz (.int ((14 + j : Nat) : Int))) :: List.filter (λ q => [5].contains q.1) ((53, B.fz (ol L)) :: List.filter (λ q => [6, 5].contains q.1) σ)) zaa) (q_c (n := 14)) (by lia)
  rw [Nat.add_sub_cancel_left] at e
  exact zat (zab (i := 5) (by rw [zaf rfl, zal rfl, zaf rfl, zal rfl]; exact h5)) rfl e (by lia) (zn9 hj')
theorem zlQ (K : TokOk tok (sg j0) (sg j1) (14 + j0) (14 + j1)) (l0 : j0 < 41) (l1 : j1 < 41) {L : List Nat} (v : valid L = true) : zcp (rowF L (sg j0) (sg j1)) := ziY (zes j0 l0).2 (zes j1 l1).2 K.l0.2 K.l1.2 (zbq v)
theorem zpV (hH : ∀ (k : Nat) (l : List Nat), k < 5 -> zcp l -> Φ (handN k) [.str (mk l)] = some (.str (mk (pageF k l)))) (hk : k < 5) (v1 : valid L1 = true) (v2 : valid L2 = true) (K : TokOk tok (sg j0) (sg j1) (14 + j0) (14 + j1)) (l0 : j0 < 41) (l1 : j1 < 41)
    (h7 : σ.lookup 7 = some (.fz (.fn (handN k)))) (h8 : σ.lookup 8 = some (.fz (.lst ([L1, L2].map λ L => .str (mk (rowF L (sg j0) (sg j1))))))) :
    ev1 tok Φ Ψ lx8 σ .next ((9, .fz (.lst ([L1, L2].map λ L => .str (mk (pageF k (rowF L (sg j0) (sg j1))))))) :: σ) := by
  refine zaq (zcr (l := [L1, L2]) (u := λ L => .str (mk (rowF L (sg j0) (sg j1)))) (f := λ L => .str (mk (pageF k (rowF L (sg j0) (sg j1))))) (zc4 (zab h8)) (λ L hL => ⟨_, rfl, ?_⟩) (Nat.le_of_ble_eq_true rfl))
  have v : valid L = true := by
    rcases List.mem_cons.mp hL with rfl | hL
    · exact v1
    · rw [List.mem_singleton.mp hL]; exact v2
  refine zne (ds := [.str (mk (rowF L (sg j0) (sg j1)))]) (by rw [zaf rfl, zal rfl]; exact h7) ?_ (zaB (zab zaa)) (hH k _ hk (zlQ K l0 l1 v))
  rcases (by lia : k = 0 ∨ k = 1 ∨ k = 2 ∨ k = 3 ∨ k = 4) with rfl | rfl | rfl | rfl | rfl <;> rfl
theorem zpX (hT : ∀ (L n0 n1 : List Nat) (i0 i1 k : Nat), TokOk tok n0 n1 i0 i1 -> valid L = true -> Φ "_law_read" [.str (mk (pageF k (rowF L n0 n1))), .lst [.int (i0 : Int), .int (i1 : Int)]] = some (ol L)) (v1 : valid L1 = true) (v2 : valid L2 = true) (K : TokOk tok (sg j0) (sg j1) (14 + j0) (14 + j1))
    (h6 : σ.lookup 6 = some (.fz (.lst (il [14 + j0, 14 + j1])))) (h9 : σ.lookup 9 = some (.fz (.lst ([L1, L2].map λ L => .str (mk (pageF k (rowF L (sg j0) (sg j1)))))))) :
    ev1 tok Φ Ψ lx9 σ .next ((10, .fz (.lst ([L1, L2].map ol))) :: σ) := by
  refine zaq (zcr (l := [L1, L2]) (u := λ L => .str (mk (pageF k (rowF L (sg j0) (sg j1))))) (f := ol) (zc4 (zab h9)) (λ L hL => ⟨_, rfl, ?_⟩) (Nat.le_of_ble_eq_true rfl))
  have v : valid L = true := by
    rcases List.mem_cons.mp hL with rfl | hL
    · exact v1
    · rw [List.mem_singleton.mp hL]; exact v2
  exact zaK (ds := [.str (mk (pageF k (rowF L (sg j0) (sg j1)))), .lst [.int ((14 + j0 : Nat) : Int), .int ((14 + j1 : Nat) : Int)]]) rfl (zau (zab zaa) (zab (by rw [zaf rfl, zal rfl]; exact h6))) (hT L _ _ _ _ k K v)
theorem zoY {c0 c1 c2 : Nat} (hP : ∀ (k : Nat) (l : List Nat), k < 5 -> l.length ≤ 200 -> Φ "_law_page" [.str (mk l), .int (k : Int)] = some (.str (mk (pageF k l)))) (hk : c2 % 5 = k) (v1 : valid L1 = true) (v2 : valid L2 = true) (K : TokOk tok (sg j0) (sg j1) (14 + j0) (14 + j1)) (l0 : j0 < 41) (l1 : j1 < 41)
    (h1 : σ.lookup 1 = some (.fz (.lst (il [c0, c1, c2])))) (h3 : σ.lookup 3 = some (.fz (ol L1))) (h4 : σ.lookup 4 = some (.fz (ol L2))) (h8 : σ.lookup 8 = some (.fz (.lst ([L1, L2].map λ L => .str (mk (rowF L (sg j0) (sg j1)))))))
    (h9 : σ.lookup 9 = some (.fz (.lst ([L1, L2].map λ L => .str (mk (pageF k (rowF L (sg j0) (sg j1)))))))) (h10 : σ.lookup 10 = some (.fz (.lst ([L1, L2].map ol)))) : ev1 tok Φ Ψ lx10 σ .next σ := by
  have hk5 : k < 5 := by rw [<- hk]; exact Nat.mod_lt _ (by decide)
  refine zc0 ((zmt (t := false) (u := false) ?_ λ _ => ?_).trans rfl) zag
  · have e : pe tok Φ (.lc (.nm 56) (.pln (.var 8)) (.all_ .And []) (.yld (.call (.cst (.fn "_law_page")) [.var 56, .bin .Mod (.sub (.var 1) (.cst (.int 2))) (.cst (.int 5))])) [1]) σ = some (.d (.lst ([L1, L2].map λ L => .str (mk (pageF k (rowF L (sg j0) (sg j1))))))) := by
      refine zcr (l := [L1, L2]) (u := λ L => .str (mk (rowF L (sg j0) (sg j1)))) (f := λ L => .str (mk (pageF k (rowF L (sg j0) (sg j1))))) (zc4 (zab h8)) (λ L hL => ⟨_, rfl, ?_⟩) (Nat.le_of_ble_eq_true rfl)
      have v : valid L = true := by
        rcases List.mem_cons.mp hL with rfl | hL
        · exact v1
        · rw [List.mem_singleton.mp hL]; exact v2
      have em := zbp (tok := tok) (Φ := Φ) (zdD (σ := (56, B.fz (.str (mk (rowF L (sg j0) (sg j1))))) :: List.filter (λ q => [1].contains q.1) σ) (by rw [zaf rfl, zal rfl]; exact h1)) (q_c (n := 5)) (by decide)
      rw [hk] at em
      exact zaK (ds := [.str (mk (rowF L (sg j0) (sg j1))), .int (k : Int)]) rfl (zau (zab zaa) em) (hP k _ hk5 (zlQ K l0 l1 v).2.2.2.2)
    have hs : (D.lst ([L1, L2].map λ L => .str (mk (pageF k (rowF L (sg j0) (sg j1)))))).sh 8 = true := by
      show (_ && (_ && true)) = true
      rw [zlK (zj4 (zmi (zes j0 l0).1 (zes j1 l1).1) k), zlK (zj4 (zmi (zes j0 l0).1 (zes j1 l1).1) k)]; rfl
    refine (q_ne (zab h9) e hs hs).trans ?_
    have : D.eqb (D.lst ([L1, L2].map λ L => .str (mk (pageF k (rowF L (sg j0) (sg j1)))))) (D.lst ([L1, L2].map λ L => .str (mk (pageF k (rowF L (sg j0) (sg j1)))))) = true := zdn 8 _ hs
    rw [this]; rfl
  · have hs : (D.lst ([L1, L2].map ol)).sh 8 = true := by
      show ((ol L1).sh 7 && ((ol L2).sh 7 && true)) = true
      rw [zke, zke]; rfl
    refine (q_ne (zab h10) (zbw (ds := [L1, L2].map ol) (zau (zab h3) (zab h4))) hs hs).trans ?_
    have : D.eqb (D.lst ([L1, L2].map ol)) (D.lst ([L1, L2].map ol)) = true := zdn 8 _ hs
    rw [this]; rfl
theorem zn8 {c0 c1 c2 : Nat} (hA : ∀ L : List Nat, valid L = true -> Φ "_law_reached" [ol L] = some (.lst (ols (zap L)))) (v1 : valid L1 = true) (h1 : σ.lookup 1 = some (.fz (.lst (il [c0, c1, c2])))) (h3 : σ.lookup 3 = some (.fz (ol L1))) (n11 : σ.lookup 11 = none) (n12 : σ.lookup 12 = none) (n13 : σ.lookup 13 = none) :
    ev1 tok Φ Ψ lx11 σ .next ((11, .own []) :: (12, .fz (.lst (ols (zap L1)))) :: (13, .fz (.int ((c1 / 128 % 5 : Nat) : Int))) :: σ) := by
  refine ⟨rfl, [.lst [], .lst (ols (zap L1)), .int ((c1 / 128 % 5 : Nat) : Int)], [.own [], .fz (.lst (ols (zap L1))), .fz (.int ((c1 / 128 % 5 : Nat) : Int))], ?_, rfl, ?_, rfl, rfl⟩
  · have e := zak (tok := tok) (Φ := Φ) (zbw (ds := []) zef) (zau (zaK (ds := [ol L1]) rfl (zaB (zab h3)) (hA L1 v1)) (zbp (zbK (zfy h1) (q_c (n := 128)) (by decide) (by decide)) (q_c (n := 5)) (by decide)))
    exact congrArg (λ o : Option (List R) => o.bind allD) e
  · show (zdI (σ.lookup 11) && (zdI (σ.lookup 12) && (zdI (σ.lookup 13) && true))) = true
    rw [n11, n12, n13]; rfl
theorem zoL {behind : Nat} {bs bs' : List D} {d0 d1 d2 : D} (hB : Ψ "_law_booked" [ol L1, .lst bs, .int (behind : Int)] = some (.tup [d0, d1, d2], bs')) (h10 : σ.lookup 10 = some (.fz (.lst ([L1, L2].map ol)))) (h11 : σ.lookup 11 = some (.own bs)) (h13 : σ.lookup 13 = some (.fz (.int (behind : Int)))) :
    ev1 tok Φ Ψ lx12 σ .next ((16, .fz d2) :: (15, .fz d1) :: (14, .fz d0) :: (11, .own bs') :: σ) :=
  ⟨rfl, "_law_booked", ol L1, bs, .int (behind : Int), _, bs', q_cst, zat (n := 0) (zab h10) rfl q_cst (by decide) rfl, h11, zab h13, hB, rfl⟩
theorem znU {behind : Nat} {bs bs' : List D} {d0 d1 d2 : D} (hB : Ψ "_law_booked" [ol L2, .lst bs, .int (behind : Int)] = some (.tup [d0, d1, d2], bs')) (h10 : σ.lookup 10 = some (.fz (.lst ([L1, L2].map ol)))) (h11 : σ.lookup 11 = some (.own bs)) (h13 : σ.lookup 13 = some (.fz (.int (behind : Int)))) :
    ev1 tok Φ Ψ lx13 σ .next ((19, .fz d2) :: (18, .fz d1) :: (17, .fz d0) :: (11, .own bs') :: σ) :=
  ⟨rfl, "_law_booked", ol L2, bs, .int (behind : Int), _, bs', q_cst, zat (n := 1) (zab h10) rfl q_cst (by decide) rfl, h11, zab h13, hB, rfl⟩
theorem zp6 {α : Type} {p : Pt} {it ifs e : T} {l : List α} {u : α -> D} (hit : pit tok Φ true it p σ = some (l.map u)) (hg : ∀ x ∈ l, ∃ τ, pb p (u x) σ = some τ /\ pe tok Φ ifs τ = some (.d (.bool false))) : pgen tok Φ (.gen p it ifs e) σ = some [] := by
  refine bnd hit ?_
  have flat0 : ∀ l : List α, (l.flatMap λ _ => ([] : List D)) = [] := λ l => by induction l with
    | nil => rfl
    | cons x l ih => rw [List.flatMap_cons, ih]; rfl
  rw [zc2 (g := λ _ => []) λ x hx => ?_]
  · rw [flat0]
  · obtain ⟨τ, h1, h2⟩ := hg x hx
    exact bnd h1 (bnd (bnd h2 rfl) rfl)
theorem zo6 {bk : List En} {φ : Nat -> Nat} (hE : ∀ (x y : List Nat) (b c : Nat), Φ "equal" [gD x b, gD y c] = some (.bool (decide (cnt x = cnt y /\ b = c)))) (Bo : BkOk bk φ) (hl : bk.length ≤ 1000) (h11 : σ.lookup 11 = some (.own (bk.map gd))) : ev1 tok Φ Ψ lx14 σ .next σ := by
  have hlen : ∀ τ : Sg, τ.lookup 11 = some (.own (bk.map gd)) -> pe tok Φ (.call (.cst (.fn "len")) [.var 11]) τ = some (.d (.int ((bk.length : Nat) : Int))) := λ τ h => by
    have := zdl (tok := tok) (Φ := Φ) (a := .var 11) (zcg h) rfl (by rw [List.length_map]; lia)
    rwa [List.length_map] at this
  have flat0 : ∀ l : List Nat, (l.flatMap λ _ => ([] : List D)) = [] := λ l => by induction l with
    | nil => rfl
    | cons x l ih => rw [List.flatMap_cons, ih]; rfl
  have e := znH (tok := tok) (Φ := Φ) (σ := σ) (p := .nm 60) (it := .rng1 (.call (.cst (.fn "len")) [.var 11])) (ifs := .all_ .And [])
    (body := .gen (.nm 61) (.rng1 (.call (.cst (.fn "len")) [.var 11])) (.all_ .And [.cmp .IsNot (.meth "equal" (.sub (.var 11) (.var 60)) [.sub (.var 11) (.var 61)]) (.cmp .Eq (.var 60) (.var 61))]) (.yld (.tup [.var 60, .var 61]))) (fr := [11])
    (l := List.range bk.length) (u := λ (i : Nat) => .int (i : Int)) (g := λ _ => []) (zdc (by lia) (hlen σ h11)) (λ i hi => by
      rw [List.mem_range] at hi
      have t11 : List.lookup 11 ((60, B.fz (.int (i : Int))) :: List.filter (λ q => [11].contains q.1) σ) = some (.own (bk.map gd)) := by rw [zaf rfl, zal rfl]; exact h11
      refine ⟨_, true, rfl, zdv zcm, λ _ => ?_, λ h => by cases h⟩
      refine zp6 (l := List.range bk.length) (u := λ (i : Nat) => .int (i : Int)) (zdc (by lia) (hlen _ t11)) λ j hj => ⟨_, rfl, ?_⟩
      rw [List.mem_range] at hj
      have hi' : bk[i]? = some bk[i] := List.getElem?_eq_getElem hi
      have hj' : bk[j]? = some bk[j] := List.getElem?_eq_getElem hj
      have s11 : List.lookup 11 ((61, B.fz (.int (j : Int))) :: (60, B.fz (.int (i : Int))) :: List.filter (λ q => [11].contains q.1) σ) = some (.own (bk.map gd)) := t11
      have s60 : List.lookup 60 ((61, B.fz (.int (j : Int))) :: (60, B.fz (.int (i : Int))) :: List.filter (λ q => [11].contains q.1) σ) = some (.fz (.int (i : Int))) := rfl
      have gi := zat (tok := tok) (Φ := Φ) (zcg s11) rfl (q_vi s60) (by lia) (d := gd bk[i]) (by rw [List.getElem?_map, hi']; rfl)
      have gj := zat (tok := tok) (Φ := Φ) (zcg s11) rfl (q_vi zaa) (by lia) (d := gd bk[j]) (by rw [List.getElem?_map, hj']; rfl)
      have m := zco (m := "equal") (ds := [gd bk[j]]) (by decide +kernel) gi (zaB gj) (hE bk[i].1 bk[j].1 bk[i].2 bk[j].2)
      refine (zdv (zf2 (zgG m (zd0 (q_vi s60) (q_vi zaa))) λ _ => zcm)).trans ?_
      obtain ⟨x1, x2, x3⟩ := Bo.ent j _ hj'
      have key : (cnt bk[i].1 = cnt bk[j].1 /\ bk[i].2 = bk[j].2) ↔ i = j := by
        have := zg2 Bo (x := bk[j]) (λ r hr => Nat.lt_trans (x1 r hr) hj) x2 hi'
        rw [<- x3] at this
        unfold eqE at this
        rw [decide_eq_true_iff] at this
        rw [this]
        exact ⟨λ e => Bo.inj i j hi hj e, λ e => by rw [e]⟩
      rw [decide_eq_decide.mpr key]
      cases decide (i = j) <;> rfl) (by rw [flat0]; exact Nat.zero_le _)
  rw [flat0] at e
  exact zc0 (q_ne e (zbw (ds := []) zef) rfl rfl) zag
end
theorem zgr {x : Int} : ∀ (l : List Int) (a : Int), maxL a l ≤ x ↔ a ≤ x /\ ∀ y ∈ l, y ≤ x
  | [], a => by show a ≤ x ↔ _; simp
  | y :: l, a => by
    show maxL (if y > a then y else a) l ≤ x ↔ _
    rw [zgr l]
    simp only [List.mem_cons, forall_eq_or_imp]
    constructor
    · rintro ⟨h1, h2⟩
      split at h1 <;> exact ⟨by lia, by lia, h2⟩
    · rintro ⟨h1, h2, h3⟩
      refine ⟨?_, h3⟩
      split <;> lia
theorem zeS : ∀ (l : List Int) (a : Int), maxL a l ∈ a :: l
  | [], a => .head _
  | y :: l, a => by
    show maxL (if y > a then y else a) l ∈ _
    have := zeS l (if y > a then y else a)
    rcases List.mem_cons.mp this with h | h
    · rw [h]; split
      · exact .tail _ (.head _)
      · exact .head _
    · exact .tail _ (.tail _ h)
theorem zfa : ∀ (l : List Int) (a : Int), minL a l ∈ a :: l
  | [], a => .head _
  | y :: l, a => by
    show minL (if y < a then y else a) l ∈ _
    have := zfa l (if y < a then y else a)
    rcases List.mem_cons.mp this with h | h
    · rw [h]; split
      · exact .tail _ (.head _)
      · exact .head _
    · exact .tail _ (.tail _ h)
theorem zlU (a : Nat) : ∀ l : List Nat, ins (a : Int) (l.map λ (n : Nat) => (n : Int)) = (insN a l).map λ (n : Nat) => (n : Int)
  | [] => rfl
  | b :: l => by
    rw [List.map_cons, ins, insN]
    by_cases h : a ≤ b
    · rw [if_pos (by lia), Nat.ble_eq.mpr h]; rfl
    · have : Nat.ble a b = false := by rw [<- Bool.not_eq_true, Nat.ble_eq]; exact h
      rw [if_neg (by lia), this, zlU a l]; rfl
theorem zhq : ∀ l : List Nat, isort (l.map λ (n : Nat) => (n : Int)) = (sortN l).map λ (n : Nat) => (n : Int)
  | [] => rfl
  | a :: l => by rw [List.map_cons, isort, zhq l, zlU]; rfl
theorem zfr (l : List Nat) : zaL (il l) = some (l.map λ (n : Nat) => (n : Int)) := by
  have := zbd (l.map λ (n : Nat) => (n : Int))
  rw [List.map_map] at this
  exact this
theorem zmh (f : Nat -> Nat) : ∀ l : List Nat, (l.map λ k => ((f k : Nat) : Int)).sum = ((sm f l : Nat) : Int)
  | [] => rfl
  | k :: l => by rw [List.map_cons, List.sum_cons, zmh f l, sm]; lia
theorem zgn (r : List Nat) (b x : Nat) : longN (cnt r) b ≤ x ↔ (∀ k ∈ r, k ≤ x) /\ b ≤ x := by
  unfold longN
  rw [Nat.max_le]
  have : (cnt r).length - 1 ≤ x ↔ (cnt r).length ≤ x + 1 := by lia
  rw [this, zd1]
  exact and_congr (forall_congr' λ k => forall_congr' λ _ => Nat.lt_succ_iff) Iff.rfl
theorem zpb (f r : List Nat) (b c : Nat) : ∃ a l, (f ++ r ++ [b, c]).map (λ (n : Nat) => (n : Int)) = a :: l /\ maxL a l = ((max (longN (cnt f) b) (longN (cnt r) c) : Nat) : Int) := by
  cases h : (f ++ r ++ [b, c]).map (λ (n : Nat) => (n : Int)) with
  | nil => simp at h
  | cons a l =>
    refine ⟨a, l, rfl, ?_⟩
    have key : ∀ x : Nat, maxL a l ≤ (x : Int) ↔ max (longN (cnt f) b) (longN (cnt r) c) ≤ x := λ x => by
      rw [zgr, Nat.max_le, zgn, zgn]
      have : (a ≤ (x : Int) /\ ∀ y ∈ l, y ≤ (x : Int)) ↔ ∀ y ∈ (f ++ r ++ [b, c]).map (λ (n : Nat) => (n : Int)), y ≤ (x : Int) := by rw [h]; simp
      rw [this]
      simp only [List.mem_map, forall_exists_index, and_imp, forall_apply_eq_imp_iff₂, List.mem_append, List.mem_cons, List.not_mem_nil, or_false]
      constructor
      · intro g
        exact ⟨⟨λ k hk => by have := g k (.inl (.inl hk)); lia, by have := g b (.inr (.inl rfl)); lia⟩, λ k hk => by have := g k (.inl (.inr hk)); lia, by have := g c (.inr (.inr rfl)); lia⟩
      · rintro ⟨⟨g1, g2⟩, g3, g4⟩ k ((hk | hk) | (rfl | rfl))
        · have := g1 k hk; lia
        · have := g3 k hk; lia
        · lia
        · lia
    have hm := zeS l a
    rw [<- h] at hm
    obtain ⟨n, _, hn⟩ := List.mem_map.mp hm
    have k1 := (key n).mp (by lia)
    have k2 := (key _).mpr (Nat.le_refl _)
    have hn' : maxL a l = (n : Int) := hn.symm
    lia
noncomputable def wl (l : List Nat) (a b : Nat -> Nat) : List D := (l.filter λ t => decide (a t ≠ b t)).map λ (t : Nat) => D.tup [.int (t : Int), .int ((a t : Nat) : Int), .int ((b t : Nat) : Int)]
noncomputable def lv (runs : List Nat) (b t : Nat) : Nat := t * sm (λ k => k / t + 1) runs + b
theorem zl2 (f r : List Nat) (b c : Nat) : witF (cnt f) b f.length (cnt r) c r.length = wl (List.range' 1 (max (longN (cnt f) b) (longN (cnt r) c) + 1)) (lv f b) (lv r c) := by
  unfold witF wl
  rw [<- zbN]
  have : ∀ (n s : Nat), 1 ≤ s -> ((List.range' s n).flatMap λ ts => if indF (cnt f) b f.length ts = indF (cnt r) c r.length ts then ([] : List D) else [.tup [.int (ts : Int), .int ((indF (cnt f) b f.length ts : Nat) : Int), .int ((indF (cnt r) c r.length ts : Nat) : Int)]]) =
      (List.range' s n).flatMap λ (t : Nat) => if decide (lv f b t ≠ lv r c t) = true then [D.tup [.int (t : Int), .int ((lv f b t : Nat) : Int), .int ((lv r c t : Nat) : Int)]] else [] := by
    intro n
    induction n with
    | zero => intro s _; rfl
    | succ n ih =>
      intro s hs
      rw [List.range'_succ, List.flatMap_cons, List.flatMap_cons, ih (s + 1) (by lia), zks f b hs, zks r c hs]
      congr 1
      show (if lv f b s = lv r c s then _ else _) = _
      by_cases h : lv f b s = lv r c s
      · rw [if_pos h, if_neg (by simpa using h)]
      · rw [if_neg h, if_pos (by simpa using h)]; rfl
  exact this _ 1 (Nat.le_refl _)
theorem zjk (l : List Nat) (a b : Nat -> Nat) : (D.lst (wl l a b)).sh 8 = true := by
  show (wl l a b).all (D.sh 7) = true
  rw [List.all_eq_true]
  intro d hd
  obtain ⟨t, _, rfl⟩ := List.mem_map.mp hd
  rfl
theorem zoh (l : List Nat) (a b : Nat -> Nat) : D.eqb (.lst (wl l a b)) (.lst (wl l a b)) = true := zdn 8 _ (zjk l a b)
section
variable {tok : Str -> Option Int} {Φ : String -> List D -> Option D} {Ψ : String -> List D -> Option (D × List D)} {σ : Sg} {a b c : T} {r : R}
noncomputable def lvX (n : Nat) (e : T) : T := .bin .Add (.bin .Mult (.var 62) (.call (.cst (.fn "sum")) [.lc (.nm 52) (.pln (.var n)) (.all_ .And []) (.yld (.bin .Add (.bin .FloorDiv (.var 52) (.var 62)) (.cst (.int 1)))) [62]])) e
theorem znS {runs : List Nat} {bb t n : Nat} (hn : σ.lookup n = some (.fz (.lst (il runs)))) (ht : σ.lookup 62 = some (.fz (.int (t : Int)))) (h1 : 1 ≤ t) (h2 : t ≤ 2 ^ 20) (hr : runs.length ≤ 1000) (hb : pe tok Φ b σ = some (.d (.int (bb : Int)))) :
    pe tok Φ (lvX n b) σ = some (.d (.int ((lv runs bb t : Nat) : Int))) := by
  refine zao (zhR (q_vi ht) ((zoV (zcr (l := runs) (u := λ (i : Nat) => .int (i : Int)) (f := λ k => .int ((k / t + 1 : Nat) : Int)) (zc4 (zab hn)) (λ k _ => ⟨_, rfl, ?_⟩) (by lia)) ((congrArg zaL (List.map_map (f := λ (k : Nat) => ((k / t + 1 : Nat) : Int)) (g := D.int) (l := runs)).symm).trans (zbd _))).trans ?_) (by lia)) hb
  · exact zao (zbK (q_vi zaa) (q_vi ((zal rfl).trans (ht))) (by lia) (by lia)) (q_c (n := 1))
  · rw [zmh]
noncomputable def zg0 : List X := [.asg (.nm 29) (.bin .Add (.call (.cst (.fn "max")) [.bin .Add (.bin .Add (.var 16) (.var 26)) (.lst [.var 13, .var 27])]) (.cst (.int 1))),
  .asg (.nm 30) (.lc (.nm 62) (.rng (.cst (.int 1)) (.bin .Add (.var 29) (.cst (.int 1)))) (.all_ .And []) (.yld (.tup [.var 62, lvX 16 (.var 13), lvX 26 (.var 27)])) [13, 16, 27, 26]),
  .iff (.all_ .Or [.cmp .IsNot (.meth "equal" (.var 14) [.var 25]) (.var 28), .cmp .IsNot (.meth "equal" (.var 25) [.var 14]) (.var 28)]) [.ret (.cst (.bool false))] [],
  .iff (.all_ .Or [.cmp .NotEq (.meth "not_equal_witness" (.var 14) [.var 25]) (.lc (.nm 51) (.pln (.var 30)) (.all_ .And [.cmp .NotEq (.sub (.var 51) (.cst (.int 1))) (.sub (.var 51) (.cst (.int 2)))]) (.yld (.var 51)) []), .cmp .NotEq (.meth "not_equal_witness" (.var 25) [.var 14]) (.lc (.tp [.nm 62, .nm 51, .nm 63]) (.pln (.var 30)) (.all_ .And [.cmp .NotEq (.var 51) (.var 63)]) (.yld (.tup [.var 62, .var 63, .var 51])) [])]) [.ret (.cst (.bool false))] []]
theorem zm9 : lx18 = .fr (.tp [.nm 25, .nm 26, .nm 27, .nm 28]) (.pln (.var 24)) zg0 := rfl
noncomputable def Sml (l : List Nat) (b : Nat) : Prop := l.length ≤ 20 /\ (∀ k ∈ l, k ≤ 100) /\ b ≤ 100
theorem Sml.long {l : List Nat} {b : Nat} (h : Sml l b) : longN (cnt l) b ≤ 100 := (zgn l b 100).mpr ⟨h.2.1, h.2.2⟩
variable (hE : ∀ (x y : List Nat) (b c : Nat), Φ "equal" [gD x b, gD y c] = some (.bool (decide (cnt x = cnt y /\ b = c))))
    (hW : ∀ (x y : List Nat) (b c : Nat), Sml x b -> Sml y c -> Φ "not_equal_witness" [gD x b, gD y c] = some (.lst (witF (cnt x) b x.length (cnt y) c y.length)))
include hE hW
theorem zeU {f rs : List Nat} {bh la : Nat} {same : Bool} (hf : Sml f bh) (hr : Sml rs la) (hs : same = decide (cnt f = cnt rs /\ bh = la)) (h13 : σ.lookup 13 = some (.fz (.int (bh : Int)))) (h14 : σ.lookup 14 = some (.fz (gD f bh))) (h16 : σ.lookup 16 = some (.fz (.lst (il f)))) :
    ∃ σ', evs tok Φ Ψ zg0 ((28, .fz (.bool same)) :: (27, .fz (.int (la : Int))) :: (26, .fz (.lst (il rs))) :: (25, .fz (gD rs la)) :: σ) .next σ' /\ ∀ i, i < 25 -> σ'.lookup i = σ.lookup i := by
  have k13 : List.lookup 13 ((28, B.fz (.bool same)) :: (27, .fz (.int (la : Int))) :: (26, .fz (.lst (il rs))) :: (25, .fz (gD rs la)) :: σ) = some (.fz (.int (bh : Int))) := h13
  have k14 : List.lookup 14 ((28, B.fz (.bool same)) :: (27, .fz (.int (la : Int))) :: (26, .fz (.lst (il rs))) :: (25, .fz (gD rs la)) :: σ) = some (.fz (gD f bh)) := h14
  have k16 : List.lookup 16 ((28, B.fz (.bool same)) :: (27, .fz (.int (la : Int))) :: (26, .fz (.lst (il rs))) :: (25, .fz (gD rs la)) :: σ) = some (.fz (.lst (il f))) := h16
  have k25 : List.lookup 25 ((28, B.fz (.bool same)) :: (27, .fz (.int (la : Int))) :: (26, .fz (.lst (il rs))) :: (25, .fz (gD rs la)) :: σ) = some (.fz (gD rs la)) := rfl
  have k26 : List.lookup 26 ((28, B.fz (.bool same)) :: (27, .fz (.int (la : Int))) :: (26, .fz (.lst (il rs))) :: (25, .fz (gD rs la)) :: σ) = some (.fz (.lst (il rs))) := rfl
  have k27 : List.lookup 27 ((28, B.fz (.bool same)) :: (27, .fz (.int (la : Int))) :: (26, .fz (.lst (il rs))) :: (25, .fz (gD rs la)) :: σ) = some (.fz (.int (la : Int))) := rfl
  have k28 : List.lookup 28 ((28, B.fz (.bool same)) :: (27, .fz (.int (la : Int))) :: (26, .fz (.lst (il rs))) :: (25, .fz (gD rs la)) :: σ) = some (.fz (.bool same)) := zaa
  have keep : ∀ i, i < 25 -> List.lookup i ((28, B.fz (.bool same)) :: (27, .fz (.int (la : Int))) :: (26, .fz (.lst (il rs))) :: (25, .fz (gD rs la)) :: σ) = σ.lookup i := λ i hi => by
    rw [zaf (by simp; lia), zaf (by simp; lia), zaf (by simp; lia), zaf (by simp; lia)]
  generalize ((28, B.fz (.bool same)) :: (27, .fz (.int (la : Int))) :: (26, .fz (.lst (il rs))) :: (25, .fz (gD rs la)) :: σ) = τ at *
  have hfl := hf.long
  have hrl := hr.long
  have hfl1 := hf.1
  have hrl1 := hr.1
  have e29 : pe tok Φ (.bin .Add (.call (.cst (.fn "max")) [.bin .Add (.bin .Add (.var 16) (.var 26)) (.lst [.var 13, .var 27])]) (.cst (.int 1))) τ = some (.d (.int ((max (longN (cnt f) bh) (longN (cnt rs) la) + 1 : Nat) : Int))) := by
    obtain ⟨x, l, e1, e2⟩ := zpb f rs bh la
    refine zao ((zol (i := x) (l := l) (zbP (zbP (zab k16) rfl (zab k26) rfl (by rw [zaA, zaA]; lia)) rfl (zbw (ds := il [bh, la]) (zau (zab k13) (zab k27))) rfl (by rw [List.length_append, zaA, zaA, zaA]; simp; lia)) (by rw [zlB, zlB, zfr, e1])).trans (by rw [e2])) (q_c (n := 1))
  have hfar : max (longN (cnt f) bh) (longN (cnt rs) la) + 1 ≤ 101 := by lia
  have wf : witF (cnt f) bh f.length (cnt rs) la rs.length = wl (List.range' 1 (max (longN (cnt f) bh) (longN (cnt rs) la) + 1)) (lv f bh) (lv rs la) := zl2 f rs bh la
  have wb : witF (cnt rs) la rs.length (cnt f) bh f.length = wl (List.range' 1 (max (longN (cnt f) bh) (longN (cnt rs) la) + 1)) (lv rs la) (lv f bh) := by rw [zl2, Nat.max_comm]
  generalize max (longN (cnt f) bh) (longN (cnt rs) la) + 1 = far at e29 wf wb hfar
  have e30 : pe tok Φ (.lc (.nm 62) (.rng (.cst (.int 1)) (.bin .Add (.var 29) (.cst (.int 1)))) (.all_ .And []) (.yld (.tup [.var 62, lvX 16 (.var 13), lvX 26 (.var 27)])) [13, 16, 27, 26]) ((29, .fz (.int (far : Int))) :: τ) =
      some (.d (.lst ((List.range' 1 far).map λ (t : Nat) => D.tup [.int (t : Int), .int ((lv f bh t : Nat) : Int), .int ((lv rs la t : Nat) : Int)]))) := by
    have hr := zkr (tok := tok) (Φ := Φ) (σ := (29, .fz (.int (far : Int))) :: τ) (m := 1) (n := far + 1) (fz := false) (p := .nm 62) (by lia) (by lia) q_cst (zao (q_vi zaa) (q_c (n := 1)))
    rw [Nat.add_sub_cancel] at hr
    refine zcr (l := List.range' 1 far) (u := λ (i : Nat) => .int (i : Int)) (f := λ (t : Nat) => D.tup [.int (t : Int), .int ((lv f bh t : Nat) : Int), .int ((lv rs la t : Nat) : Int)]) hr (λ t ht => ⟨_, rfl, ?_⟩) (by simp; lia)
    rw [List.mem_range'_1] at ht
    have t62 : List.lookup 62 ((62, B.fz (.int (t : Int))) :: List.filter (λ q => [13, 16, 27, 26].contains q.1) ((29, .fz (.int (far : Int))) :: τ)) = some (.fz (.int (t : Int))) := zaa
    refine zbc (ds := [.int (t : Int), .int ((lv f bh t : Nat) : Int), .int ((lv rs la t : Nat) : Int)]) (zak (q_vi t62) (zau (znS ?_ t62 (by lia) (by lia) (by lia) (q_vi ?_)) (znS ?_ t62 (by lia) (by lia) (by lia) (q_vi ?_))))
    · rw [zaf rfl, zal rfl, zaf rfl]; exact k16
    · rw [zaf rfl, zal rfl, zaf rfl]; exact k13
    · rw [zaf rfl, zal rfl, zaf rfl]; exact k26
    · rw [zaf rfl, zal rfl, zaf rfl]; exact k27
  have m30 : List.lookup 30 ((30, B.fz (.lst ((List.range' 1 far).map λ (t : Nat) => D.tup [.int (t : Int), .int ((lv f bh t : Nat) : Int), .int ((lv rs la t : Nat) : Int)]))) :: (29, .fz (.int (far : Int))) :: τ) = some (.fz (.lst ((List.range' 1 far).map λ (t : Nat) => D.tup [.int (t : Int), .int ((lv f bh t : Nat) : Int), .int ((lv rs la t : Nat) : Int)]))) := zaa
  have m14 : List.lookup 14 ((30, B.fz (.lst ((List.range' 1 far).map λ (t : Nat) => D.tup [.int (t : Int), .int ((lv f bh t : Nat) : Int), .int ((lv rs la t : Nat) : Int)]))) :: (29, .fz (.int (far : Int))) :: τ) = some (.fz (gD f bh)) := k14
  have m25 : List.lookup 25 ((30, B.fz (.lst ((List.range' 1 far).map λ (t : Nat) => D.tup [.int (t : Int), .int ((lv f bh t : Nat) : Int), .int ((lv rs la t : Nat) : Int)]))) :: (29, .fz (.int (far : Int))) :: τ) = some (.fz (gD rs la)) := k25
  have m28 : List.lookup 28 ((30, B.fz (.lst ((List.range' 1 far).map λ (t : Nat) => D.tup [.int (t : Int), .int ((lv f bh t : Nat) : Int), .int ((lv rs la t : Nat) : Int)]))) :: (29, .fz (.int (far : Int))) :: τ) = some (.fz (.bool same)) := k28
  refine ⟨(30, .fz (.lst ((List.range' 1 far).map λ (t : Nat) => D.tup [.int (t : Int), .int ((lv f bh t : Nat) : Int), .int ((lv rs la t : Nat) : Int)]))) :: (29, .fz (.int (far : Int))) :: τ, zad (zaq e29) (zad (zaq e30) ?_), λ i hi => by rw [zaf (by simp; lia), zaf (by simp; lia)]; exact keep i hi⟩
  generalize hω : ((30, B.fz (.lst ((List.range' 1 far).map λ (t : Nat) => D.tup [.int (t : Int), .int ((lv f bh t : Nat) : Int), .int ((lv rs la t : Nat) : Int)]))) :: (29, .fz (.int (far : Int))) :: τ) = ω at m30 m14 m25 m28 ⊢
  have q1 := zco (tok := tok) (m := "equal") (ds := [gD rs la]) (by decide +kernel) (zab m14) (zaB (zab m25)) (hE f rs bh la)
  have q2 := zco (tok := tok) (m := "equal") (ds := [gD f bh]) (by decide +kernel) (zab m25) (zaB (zab m14)) (hE rs f la bh)
  have w1 := zco (tok := tok) (m := "not_equal_witness") (ds := [gD rs la]) (by decide +kernel) (zab m14) (zaB (zab m25)) (hW f rs bh la hf hr)
  have w2 := zco (tok := tok) (m := "not_equal_witness") (ds := [gD f bh]) (by decide +kernel) (zab m25) (zaB (zab m14)) (hW rs f la bh hr hf)
  rw [wf] at w1
  rw [wb] at w2
  have c1 : pe tok Φ (.all_ .Or [.cmp .IsNot (.meth "equal" (.var 14) [.var 25]) (.var 28), .cmp .IsNot (.meth "equal" (.var 25) [.var 14]) (.var 28)]) ω = some (.d (.bool false)) := by
    have h1 := zgG q1 (zab m28)
    have h2 := zgG q2 (zab m28)
    have s1 : (decide (cnt f = cnt rs /\ bh = la) != same) = false := by rw [hs]; cases decide (cnt f = cnt rs /\ bh = la) <;> rfl
    have s2 : (decide (cnt rs = cnt f /\ la = bh) != same) = false := by
      rw [hs, show decide (cnt rs = cnt f /\ la = bh) = decide (cnt f = cnt rs /\ bh = la) from decide_eq_decide.mpr ⟨λ h => ⟨h.1.symm, h.2.symm⟩, λ h => ⟨h.1.symm, h.2.symm⟩⟩]
      cases decide (cnt f = cnt rs /\ bh = la) <;> rfl
    rw [s1] at h1
    rw [s2] at h2
    exact zmt h1 λ _ => h2
  have p1 : pe tok Φ (.lc (.nm 51) (.pln (.var 30)) (.all_ .And [.cmp .NotEq (.sub (.var 51) (.cst (.int 1))) (.sub (.var 51) (.cst (.int 2)))]) (.yld (.var 51)) []) ω = some (.d (.lst (wl (List.range' 1 far) (lv f bh) (lv rs la)))) := by
    refine zjL (l := List.range' 1 far) (u := λ (t : Nat) => D.tup [.int (t : Int), .int ((lv f bh t : Nat) : Int), .int ((lv rs la t : Nat) : Int)]) (s := λ t => decide (lv f bh t ≠ lv rs la t)) (f := λ (t : Nat) => D.tup [.int (t : Int), .int ((lv f bh t : Nat) : Int), .int ((lv rs la t : Nat) : Int)]) (zc4 (zab m30)) (λ t ht => ⟨_, rfl, ?_, λ _ => zab zaa⟩) (by simp; lia)
    refine (zdv (zf2 (zmJ (zat (n := 1) (zab zaa) rfl q_cst (by decide) rfl) (zat (n := 2) (zab zaa) rfl q_cst (by decide) rfl)) λ _ => zcm)).trans ?_
    rw [Bool.and_true, show decide (((lv f bh t : Nat) : Int) ≠ ((lv rs la t : Nat) : Int)) = decide (lv f bh t ≠ lv rs la t) from decide_eq_decide.mpr (by lia)]
  have p2 : pe tok Φ (.lc (.tp [.nm 62, .nm 51, .nm 63]) (.pln (.var 30)) (.all_ .And [.cmp .NotEq (.var 51) (.var 63)]) (.yld (.tup [.var 62, .var 63, .var 51])) []) ω = some (.d (.lst (wl (List.range' 1 far) (lv rs la) (lv f bh)))) := by
    refine zjL (l := List.range' 1 far) (u := λ (t : Nat) => D.tup [.int (t : Int), .int ((lv f bh t : Nat) : Int), .int ((lv rs la t : Nat) : Int)]) (s := λ t => decide (lv rs la t ≠ lv f bh t)) (f := λ (t : Nat) => D.tup [.int (t : Int), .int ((lv rs la t : Nat) : Int), .int ((lv f bh t : Nat) : Int)]) (zc4 (zab m30)) (λ t ht => ⟨_, rfl, ?_, λ _ => ?_⟩) (by simp; lia)
    · refine (zdv (zf2 (zmJ (q_vi (n := 51) (rfl)) (q_vi (n := 63) zaa)) λ _ => zcm)).trans ?_
      rw [Bool.and_true, show decide (((lv f bh t : Nat) : Int) ≠ ((lv rs la t : Nat) : Int)) = decide (lv rs la t ≠ lv f bh t) from decide_eq_decide.mpr (by lia)]
    · exact zbc (ds := [.int (t : Int), .int ((lv rs la t : Nat) : Int), .int ((lv f bh t : Nat) : Int)]) (zak (zab (i := 62) (rfl)) (zau (zab (i := 63) zaa) (zab (i := 51) (rfl))))
  have n1 := q_ne w1 p1 (zjk _ _ _) (zjk _ _ _)
  have n2 := q_ne w2 p2 (zjk _ _ _) (zjk _ _ _)
  rw [zoh] at n1 n2
  exact zad (zc0 c1 zag) (zad (zc0 (zmt n1 λ _ => n2) zag) zag)
end
noncomputable def bentF (s : List Nat) (low high : Nat) : List Nat := (List.range s.length).map λ k => nth s k + (if k = low then 1 else 0) - (if k = high then 1 else 0)
theorem zil {l : List Nat} {i v : Nat} (h : l[i]? = some v) : nth l i = v := by
  have hl := (List.getElem?_eq_some_iff.mp h).1
  have := zdR hl
  rw [h] at this
  exact (Option.some.inj this).symm
theorem zlx {s : List Nat} {m : Int} (h : m ∈ s.map λ (n : Nat) => (n : Int)) : ((s.map λ (n : Nat) => (n : Int)).idxOf m) < s.length /\ ((nth s ((s.map λ (n : Nat) => (n : Int)).idxOf m) : Nat) : Int) = m := by
  have h1 : (s.map λ (n : Nat) => (n : Int)).idxOf m < (s.map λ (n : Nat) => (n : Int)).length := List.idxOf_lt_length_of_mem h
  have h2 := List.getElem_idxOf h1
  rw [List.length_map] at h1
  refine ⟨h1, ?_⟩
  rw [List.getElem_map] at h2
  rw [zil (List.getElem?_eq_getElem h1)]
  exact h2
section
variable {tok : Str -> Option Int} {Φ : String -> List D -> Option D} {Ψ : String -> List D -> Option (D × List D)} {σ : Sg} {a b c : T} {r : R}
theorem zoi {c0 c1 c2 bh : Nat} {s : List Nat} (hs : s ≠ []) (hl : s.length ≤ 20) (hm : ∀ k ∈ s, k ≤ 100) (h1 : σ.lookup 1 = some (.fz (.lst (il [c0, c1, c2])))) (h13 : σ.lookup 13 = some (.fz (.int (bh : Int)))) (h19 : σ.lookup 19 = some (.fz (.lst (il s)))) (n20 : σ.lookup 20 = none) (n21 : σ.lookup 21 = none) (n22 : σ.lookup 22 = none) :
    ∃ low high : Nat, (low = high ∨ 1 ≤ nth s high) /\ low < s.length /\ high < s.length /\ ev1 tok Φ Ψ lx15 σ .next ((20, .fz (.int (((bh + 1 + c1 / 640 % 4) % 5 : Nat) : Int))) :: (21, .fz (.int (low : Int))) :: (22, .fz (.int (high : Int))) :: σ) := by
  obtain ⟨x, l, e⟩ : ∃ x l, s.map (λ (n : Nat) => (n : Int)) = x :: l := by
    cases s with
    | nil => exact absurd rfl hs
    | cons x l => exact ⟨_, _, rfl⟩
  have hmin := zfa l x
  have hmax := zeS l x
  rw [<- e] at hmin hmax
  obtain ⟨a1, a2⟩ := zlx hmin
  obtain ⟨b1, b2⟩ := zlx hmax
  have hle : minL x l ≤ maxL x l := by
    have := (zgr (x := maxL x l) l x).mp (Int.le_refl _)
    rcases List.mem_cons.mp (zfa l x) with h | h
    · rw [h]; exact this.1
    · exact this.2 _ h
  have hlay : (PyData.list ((s.map λ (n : Nat) => (n : Int)).map PyData.int)).layable0 = true := zhM (λ i hi => by
    obtain ⟨n, hn, rfl⟩ := List.mem_map.mp hi
    have := hm n hn
    lia) (by rw [List.length_map]; lia)
  have eil : il s = (s.map λ (n : Nat) => (n : Int)).map .int := by unfold il; rw [List.map_map]; rfl
  have h19' : σ.lookup 19 = some (.fz (.lst ((s.map λ (n : Nat) => (n : Int)).map .int))) := by rw [<- eil]; exact h19
  have emin := zpt (zab (tok := tok) (Φ := Φ) h19) ((zfr s).trans (congrArg some e))
  have emax := zol (zab (tok := tok) (Φ := Φ) h19) ((zfr s).trans (congrArg some e))
  have i1 := zfg (zab h19') emin hlay hmin
  have i2 := zfg (zab h19') emax hlay hmax
  have em := zbp (zao (zao (q_vi (tok := tok) (Φ := Φ) h13) (q_c (n := 1))) (zbp (zbK (zfy h1) (q_c (n := 640)) (by decide) (by decide)) (q_c (n := 4)) (by decide))) (q_c (n := 5)) (by decide)
  refine ⟨_, _, ?_, a1, b1, rfl, [_, _, _], [_, _, _], congrArg (λ o : Option (List R) => o.bind allD) (zak em (zau i1 i2)), rfl, ?_, rfl, rfl⟩
  · by_cases h : minL x l = maxL x l
    · left; rw [h]
    · right; lia
  · show (zdI (σ.lookup 20) && (zdI (σ.lookup 21) && (zdI (σ.lookup 22) && true))) = true
    rw [n20, n21, n22]; rfl
theorem znF {m n k j : Nat} (h1 : σ.lookup m = some (.fz (.int (k : Int)))) (h2 : σ.lookup n = some (.fz (.int (j : Int)))) : pe tok Φ (.ite (.cmp .Eq (.var m) (.var n)) (.cst (.int 1)) (.cst (.int 0))) σ = some (.d (.int ((if k = j then 1 else 0 : Nat) : Int))) := by
  have e := zd0 (tok := tok) (Φ := Φ) (q_vi h1) (q_vi h2)
  by_cases h : k = j
  · rw [decide_eq_true h] at e; rw [if_pos h]; exact zcH e (q_c (n := 1))
  · rw [decide_eq_false h] at e; rw [if_neg h]; exact zcC e (q_c (n := 0))
theorem zoE {low high : Nat} {s : List Nat} (hl : s.length ≤ 20) (ho : low = high ∨ 1 ≤ nth s high) (h19 : σ.lookup 19 = some (.fz (.lst (il s)))) (h21 : σ.lookup 21 = some (.fz (.int (low : Int)))) (h22 : σ.lookup 22 = some (.fz (.int (high : Int)))) :
    ev1 tok Φ Ψ lx16 σ .next ((23, .fz (.lst (il (bentF s low high)))) :: σ) := by
  have hlen := zdl (tok := tok) (Φ := Φ) (a := .var 19) (zab h19) rfl (by rw [zaA]; lia)
  rw [zaA] at hlen
  refine zaq ((zcr (l := List.range s.length) (u := λ (i : Nat) => .int (i : Int)) (f := λ k => .int ((nth s k + (if k = low then 1 else 0) - (if k = high then 1 else 0) : Nat) : Int)) (zdc (by lia) hlen) (λ k hk => ⟨_, rfl, ?_⟩) (by simp; lia)).trans ?_)
  · rw [List.mem_range] at hk
    refine zcn (zao (zat (zab (i := 19) ((zal rfl).trans (h19))) rfl (q_vi zaa) (by lia) (zfZ hk)) (znF zaa ((zal rfl).trans (h21)))) (znF zaa ((zal rfl).trans (h22))) ?_
    by_cases h : k = high
    · subst h
      rw [if_pos rfl]
      rcases ho with rfl | ho
      · rw [if_pos rfl]; lia
      · lia
    · rw [if_neg h]; lia
  · unfold il bentF; rw [List.map_map]; rfl
theorem zij {s : List Nat} {low high : Nat} (hl : s.length ≤ 20) (hm : ∀ k ∈ s, k ≤ 90) : (bentF s low high).length ≤ 20 /\ ∀ k ∈ bentF s low high, k ≤ 100 := by
  constructor
  · unfold bentF; rw [List.length_map, List.length_range]; exact hl
  · intro k hk
    unfold bentF at hk
    obtain ⟨i, hi, rfl⟩ := List.mem_map.mp hk
    rw [List.mem_range] at hi
    have := hm (nth s i) (List.mem_of_getElem? (zdR hi))
    have h1 : (if i = low then 1 else 0) ≤ 1 := by split <;> lia
    lia
noncomputable def tri (f : List Nat) (s : List Nat) (b : Nat) (same : Bool) : D := .tup [gD s b, .lst (il s), .int (b : Int), .bool same]
theorem zo1 {L1 L2 f s be : List Nat} {bh more : Nat} (hG : ∀ (runs : List Nat) (lab : Nat), (∀ r ∈ runs, r ≤ 100) -> runs.length ≤ 20 -> lab ≤ 100 -> Φ "_law_guy" [.lst (il runs), .int (lab : Int)] = some (gD runs lab)) (hf : f.length ≤ 20) (hs : Sml s bh) (hs2 : more ≤ 100) (hb : Sml be bh)
    (h4 : σ.lookup 4 = some (.fz (ol L2))) (h12 : σ.lookup 12 = some (.fz (.lst (ols (zap L1))))) (h13 : σ.lookup 13 = some (.fz (.int (bh : Int)))) (h16 : σ.lookup 16 = some (.fz (.lst (il f)))) (h17 : σ.lookup 17 = some (.fz (gD s bh))) (h19 : σ.lookup 19 = some (.fz (.lst (il s)))) (h20 : σ.lookup 20 = some (.fz (.int (more : Int)))) (h23 : σ.lookup 23 = some (.fz (.lst (il be)))) :
    ev1 tok Φ Ψ lx17 σ .next ((24, .fz (.lst [tri f s bh (decide (L2 ∈ zap L1)), tri f s more false, tri f be bh (decide (sortN be = sortN f))])) :: σ) := by
  have m := zn5 (tok := tok) (Φ := Φ) (zab h4) (zab h12) rfl (zke L2 5) (zlM _ 5)
  rw [zi2] at m
  have t1 := zbc (ds := [gD s bh, .lst (il s), .int (bh : Int), .bool (decide (L2 ∈ zap L1))]) (zak (zab h17) (zak (zab h19) (zau (zab h13) m)))
  have g2 := zaK (tok := tok) (n := "_law_guy") (ds := [.lst (il s), .int (more : Int)]) rfl (zau (zab h19) (zab h20)) (hG s more hs.2.1 hs.1 hs2)
  have t2 := zbc (ds := [gD s more, .lst (il s), .int (more : Int), .bool false]) (zak g2 (zak (zab h19) (zau (zab h20) q_cst)))
  have g3 := zaK (tok := tok) (n := "_law_guy") (ds := [.lst (il be), .int (bh : Int)]) rfl (zau (zab h23) (zab h13)) (hG be bh hb.2.1 hb.1 hb.2.2)
  have so : ∀ {v : Nat} {l : List Nat}, σ.lookup v = some (.fz (.lst (il l))) -> l.length ≤ 20 -> pe tok Φ (.call (.cst (.fn "sorted")) [.var v]) σ = some (.d (.lst (il (sortN l)))) := λ {v l} h hl => by
    refine (zpL (zab h) (zfr l) (by rw [List.length_map]; lia)).trans ?_
    rw [zhq, List.map_map]
    rfl
  have lsh : ∀ l : List Nat, (D.lst (il l)).sh 8 = true := λ l => by show (il l).all (D.sh 7) = true; exact zmu l 7
  have es := q_eq (so h23 hb.1) (so h16 hf) (lsh _) (lsh _)
  have eb : D.eqb (.lst (il (sortN be))) (.lst (il (sortN f))) = decide (sortN be = sortN f) := zj6 _ _
  rw [eb] at es
  have t3 := zbc (ds := [gD be bh, .lst (il be), .int (bh : Int), .bool (decide (sortN be = sortN f))]) (zak g3 (zak (zab h23) (zau (zab h13) es)))
  exact zaq (zbw (ds := [tri f s bh (decide (L2 ∈ zap L1)), tri f s more false, tri f be bh (decide (sortN be = sortN f))]) (zak t1 (zau t2 t3)))
theorem zdK {L : List Nat} (h : valid L = true) : (zap L).length ≤ 1344 := by
  have rL := zcL VOkV (valid_iff.mpr h)
  have := zcK rL.nd λ M hM => zma gAllV zb6 (valid_iff.mpr h) (rL.conn M hM)
  rwa [zb6] at this
theorem zoW {L1 L2 : List Nat} (hA : ∀ L : List Nat, valid L = true -> Φ "_law_reached" [ol L] = some (.lst (ols (zap L)))) (v1 : valid L1 = true) (v2 : valid L2 = true) (h4 : σ.lookup 4 = some (.fz (ol L2))) (h12 : σ.lookup 12 = some (.fz (.lst (ols (zap L1))))) (h15 : σ.lookup 15 = some (.fz (.int ((wys L1 : Nat) : Int)))) (h18 : σ.lookup 18 = some (.fz (.int ((wys L2 : Nat) : Int)))) :
    ev1 tok Φ Ψ lx19 σ (.ret (.bool true)) σ := by
  have r1 := zdK v1
  have r2 := zdK v2
  have l1 := zdl (tok := tok) (Φ := Φ) (zab h12) rfl (by unfold ols; rw [List.length_map]; lia)
  have l2 := zdl (tok := tok) (Φ := Φ) (zaK (n := "_law_reached") (ds := [ol L2]) rfl (zaB (zab h4)) (hA L2 v2)) rfl (by unfold ols; rw [List.length_map]; lia)
  have e1 := zd0 (q_vi h15) l1
  have e2 := zd0 (q_vi h18) l2
  rw [decide_eq_true (by unfold ols; rw [List.length_map, zhT v1])] at e1
  rw [decide_eq_true (by unfold ols; rw [List.length_map, zhT v2])] at e2
  exact zby (zde e1 λ _ => e2)
structure LF (tok : Str -> Option Int) (Φ : String -> List D -> Option D) (Ψ : String -> List D -> Option (D × List D)) : Prop where
  dep : ∀ c : Nat, Φ "_law_depths" [.int (c : Int)] = some (.lst (il (zaG c)))
  sec : ∀ (L : List Nat) (draw odd kind : Nat), valid L = true -> odd < 5 -> kind < 4 -> ∃ M, valid M = true /\ Φ "_law_second" [ol L, .int (draw : Int), .int (odd : Int), .int (kind : Int)] = some (ol M)
  row : ∀ (L n0 n1 : List Nat), Out L -> n0.length ≤ 3 -> n1.length ≤ 3 -> Φ "_law_row" [ol L, .lst [.str (mk n0), .str (mk n1)]] = some (.str (mk (rowF L n0 n1)))
  hand : ∀ (k : Nat) (l : List Nat), k < 5 -> zcp l -> Φ (handN k) [.str (mk l)] = some (.str (mk (pageF k l)))
  page : ∀ (k : Nat) (l : List Nat), k < 5 -> l.length ≤ 200 -> Φ "_law_page" [.str (mk l), .int (k : Int)] = some (.str (mk (pageF k l)))
  read : ∀ (L n0 n1 : List Nat) (i0 i1 k : Nat), TokOk tok n0 n1 i0 i1 -> valid L = true -> Φ "_law_read" [.str (mk (pageF k (rowF L n0 n1))), .lst [.int (i0 : Int), .int (i1 : Int)]] = some (ol L)
  rea : ∀ L : List Nat, valid L = true -> Φ "_law_reached" [ol L] = some (.lst (ols (zap L)))
  guy : ∀ (runs : List Nat) (lab : Nat), (∀ r ∈ runs, r ≤ 100) -> runs.length ≤ 20 -> lab ≤ 100 -> Φ "_law_guy" [.lst (il runs), .int (lab : Int)] = some (gD runs lab)
  equ : ∀ (x y : List Nat) (b c : Nat), Φ "equal" [gD x b, gD y c] = some (.bool (decide (cnt x = cnt y /\ b = c)))
  wit : ∀ (x y : List Nat) (b c : Nat), Sml x b -> Sml y c -> Φ "not_equal_witness" [gD x b, gD y c] = some (.lst (witF (cnt x) b x.length (cnt y) c y.length))
  boo : ∀ (L : List Nat) (behind : Nat) (bk : List En) (φ : Nat -> Nat), valid L = true -> behind ≤ 100 -> BkOk bk φ -> bk.length ≤ 50 -> ∃ runs bk' φ', Ψ "_law_booked" [ol L, .lst (bk.map gd), .int (behind : Int)] = some (.tup [gD runs behind, .int ((wys L : Nat) : Int), .lst (il runs)], bk'.map gd) /\
    BkOk bk' φ' /\ (∀ i, i < bk.length -> φ' i = φ i) /\ bk.length ≤ bk'.length /\ bk'.length ≤ bk.length + 5 /\ (∀ r ∈ runs, r < bk'.length) /\ sortN (runs.map φ') = sortN (pick 0 (stOf L)) /\ runs.length ≤ 5 /\ runs ≠ []
  tk : ∀ j0 j1, j0 < 41 -> j1 < 41 -> j0 ≠ j1 -> TokOk tok (sg j0) (sg j1) (14 + j0) (14 + j1)
theorem zmG (F : LF tok Φ Ψ) {xs : List Int} (hx : xs.length ≤ 63) : ∃ σ', evs tok Φ Ψ zjU [(0, .fz (.lst (xs.map .int)))] (.ret (.bool true)) σ' := by
  obtain ⟨c0, c1, c2, _, _, _, e0⟩ := zpH (tok := tok) (Φ := Φ) (Ψ := Ψ) (σ := [(0, .fz (.lst (xs.map .int)))]) hx rfl
  have e1 := zpN (tok := tok) (Ψ := Ψ) (σ := (1, .fz (.lst (il [c0, c1, c2]))) :: [(0, .fz (.lst (xs.map .int)))]) F.dep rfl
  have e2 := zp9 (tok := tok) (Φ := Φ) (Ψ := Ψ) (c1 := c1) (c2 := c2) (σ := (2, .fz (.lst (il (zaG c0)))) :: (1, .fz (.lst (il [c0, c1, c2]))) :: [(0, .fz (.lst (xs.map .int)))]) rfl rfl
  have v1 := zdy c0 c1
  generalize hL1 : zd6 c0 c1 = L1 at e2 v1
  obtain ⟨L2, v2, e3⟩ := zp3 (tok := tok) (Ψ := Ψ) (c1 := c1) (c2 := c2) (σ := (3, .fz (ol L1)) :: (2, .fz (.lst (il (zaG c0)))) :: (1, .fz (.lst (il [c0, c1, c2]))) :: [(0, .fz (.lst (xs.map .int)))]) F.sec rfl (by rw [hL1]; rfl)
  have e4 := zpA (tok := tok) (Φ := Φ) (Ψ := Ψ) (σ := (4, .fz (ol L2)) :: (3, .fz (ol L1)) :: (2, .fz (.lst (il (zaG c0)))) :: (1, .fz (.lst (il [c0, c1, c2]))) :: [(0, .fz (.lst (xs.map .int)))])
  have hj0 := Nat.mod_lt (c2 / 5) (show 0 < 41 by decide)
  have hj1 := Nat.mod_lt (c2 / 5 + 15) (show 0 < 41 by decide)
  have hne : c2 / 5 % 41 ≠ (c2 / 5 + 15) % 41 := by lia
  have e5 := zpx (tok := tok) (Φ := Φ) (Ψ := Ψ) (c0 := c0) (c1 := c1) (c2 := c2) (σ := (5, .fz (.lst (sgs.map λ s => .str (mk s)))) :: (4, .fz (ol L2)) :: (3, .fz (ol L1)) :: (2, .fz (.lst (il (zaG c0)))) :: (1, .fz (.lst (il [c0, c1, c2]))) :: [(0, .fz (.lst (xs.map .int)))]) rfl
  generalize c2 / 5 % 41 = j0 at e5 hj0 hne
  generalize (c2 / 5 + 15) % 41 = j1 at e5 hj1 hne
  have K := F.tk j0 j1 hj0 hj1 hne
  generalize hs5 : D.lst (sgs.map λ s => .str (mk s)) = signs at e4 e5
  have e6 := zpz (tok := tok) (Φ := Φ) (Ψ := Ψ) (c0 := c0) (c1 := c1) (c2 := c2) (σ := (6, .fz (.lst (il [14 + j0, 14 + j1]))) :: (5, .fz signs) :: (4, .fz (ol L2)) :: (3, .fz (ol L1)) :: (2, .fz (.lst (il (zaG c0)))) :: (1, .fz (.lst (il [c0, c1, c2]))) :: [(0, .fz (.lst (xs.map .int)))]) rfl
  have hk := Nat.mod_lt c2 (show 0 < 5 by decide)
  generalize hkk : c2 % 5 = k at e6 hk
  have e7 := zp4 (tok := tok) (Ψ := Ψ) (σ := (7, .fz (.fn (handN k))) :: (6, .fz (.lst (il [14 + j0, 14 + j1]))) :: (5, .fz signs) :: (4, .fz (ol L2)) :: (3, .fz (ol L1)) :: (2, .fz (.lst (il (zaG c0)))) :: (1, .fz (.lst (il [c0, c1, c2]))) :: [(0, .fz (.lst (xs.map .int)))]) F.row v1 v2 K hj0 hj1 rfl rfl (by rw [hs5]; rfl) rfl
  have e8 := zpV (tok := tok) (Ψ := Ψ) (σ := (8, .fz (.lst ([L1, L2].map λ L => .str (mk (rowF L (sg j0) (sg j1)))))) :: (7, .fz (.fn (handN k))) :: (6, .fz (.lst (il [14 + j0, 14 + j1]))) :: (5, .fz signs) :: (4, .fz (ol L2)) :: (3, .fz (ol L1)) :: (2, .fz (.lst (il (zaG c0)))) :: (1, .fz (.lst (il [c0, c1, c2]))) :: [(0, .fz (.lst (xs.map .int)))]) F.hand hk v1 v2 K hj0 hj1 rfl rfl
  have e9 := zpX (tok := tok) (Ψ := Ψ) (σ := (9, .fz (.lst ([L1, L2].map λ L => .str (mk (pageF k (rowF L (sg j0) (sg j1))))))) :: (8, .fz (.lst ([L1, L2].map λ L => .str (mk (rowF L (sg j0) (sg j1)))))) :: (7, .fz (.fn (handN k))) :: (6, .fz (.lst (il [14 + j0, 14 + j1]))) :: (5, .fz signs) :: (4, .fz (ol L2)) :: (3, .fz (ol L1)) :: (2, .fz (.lst (il (zaG c0)))) :: (1, .fz (.lst (il [c0, c1, c2]))) :: [(0, .fz (.lst (xs.map .int)))]) F.read v1 v2 K rfl rfl
  have e10 := zoY (tok := tok) (Ψ := Ψ) (c0 := c0) (c1 := c1) (σ := (10, .fz (.lst ([L1, L2].map ol))) :: (9, .fz (.lst ([L1, L2].map λ L => .str (mk (pageF k (rowF L (sg j0) (sg j1))))))) :: (8, .fz (.lst ([L1, L2].map λ L => .str (mk (rowF L (sg j0) (sg j1)))))) :: (7, .fz (.fn (handN k))) :: (6, .fz (.lst (il [14 + j0, 14 + j1]))) :: (5, .fz signs) :: (4, .fz (ol L2)) :: (3, .fz (ol L1)) :: (2, .fz (.lst (il (zaG c0)))) :: (1, .fz (.lst (il [c0, c1, c2]))) :: [(0, .fz (.lst (xs.map .int)))]) F.page hkk v1 v2 K hj0 hj1 rfl rfl rfl rfl rfl rfl
  generalize hρ : ((9, B.fz (.lst ([L1, L2].map λ L => .str (mk (pageF k (rowF L (sg j0) (sg j1))))))) :: (8, .fz (.lst ([L1, L2].map λ L => .str (mk (rowF L (sg j0) (sg j1)))))) :: (7, .fz (.fn (handN k))) :: (6, .fz (.lst (il [14 + j0, 14 + j1]))) :: (5, .fz signs) :: (4, .fz (ol L2)) :: (3, .fz (ol L1)) :: (2, .fz (.lst (il (zaG c0)))) :: (1, .fz (.lst (il [c0, c1, c2]))) :: [(0, .fz (.lst (xs.map .int)))] : Sg) = ρ at e8 e9 e10
  have r1 : ρ.lookup 1 = some (.fz (.lst (il [c0, c1, c2]))) := by rw [<- hρ]; rfl
  have r3 : ρ.lookup 3 = some (.fz (ol L1)) := by rw [<- hρ]; rfl
  have r4 : ρ.lookup 4 = some (.fz (ol L2)) := by rw [<- hρ]; rfl
  have rn : ∀ i, 9 < i -> ρ.lookup i = none := λ i hi => by
    rw [<- hρ]
    simp only [List.lookup_cons, List.lookup_nil]
    have : ∀ j, j ≤ 9 -> (i == j) = false := λ j hj => by simp; lia
    rw [this 9 (by lia), this 8 (by lia), this 7 (by lia), this 6 (by lia), this 5 (by lia), this 4 (by lia), this 3 (by lia), this 2 (by lia), this 1 (by lia), this 0 (by lia)]
  have e11 := zn8 (tok := tok) (Ψ := Ψ) (c0 := c0) (c1 := c1) (c2 := c2) (σ := (10, .fz (.lst ([L1, L2].map ol))) :: ρ) F.rea v1 (r1) (r3) (rn _ (by decide)) (rn _ (by decide)) (rn _ (by decide))
  have hb := Nat.mod_lt (c1 / 128) (show 0 < 5 by decide)
  generalize c1 / 128 % 5 = bh at e11 hb
  obtain ⟨f, bk1, φ1, b1, o1, _, _, u1, g1, s1, l1, _⟩ := F.boo L1 bh [] (λ _ => 0) v1 (by lia) ⟨λ i x h => (by simp at h), λ i j h => absurd h (Nat.not_lt_zero i)⟩ (Nat.zero_le _)
  have e12 := zoL (tok := tok) (Φ := Φ) (L1 := L1) (L2 := L2) (σ := (11, .own []) :: (12, .fz (.lst (ols (zap L1)))) :: (13, .fz (.int (bh : Int))) :: (10, .fz (.lst ([L1, L2].map ol))) :: ρ) b1 rfl rfl rfl
  simp only [List.length_nil] at u1
  obtain ⟨s, bk2, φ2, b2, o2, ag, _, u2, g2, s2, l2, ne2⟩ := F.boo L2 bh bk1 φ1 v2 (by lia) o1 (by lia)
  have e13 := znU (tok := tok) (Φ := Φ) (L1 := L1) (L2 := L2) (σ := (16, .fz (.lst (il f))) :: (15, .fz (.int ((wys L1 : Nat) : Int))) :: (14, .fz (gD f bh)) :: (11, .own (bk1.map gd)) :: (11, .own []) :: (12, .fz (.lst (ols (zap L1)))) :: (13, .fz (.int (bh : Int))) :: (10, .fz (.lst ([L1, L2].map ol))) :: ρ) b2 rfl rfl rfl
  have e14 := zo6 (tok := tok) (Ψ := Ψ) (σ := (19, .fz (.lst (il s))) :: (18, .fz (.int ((wys L2 : Nat) : Int))) :: (17, .fz (gD s bh)) :: (11, .own (bk2.map gd)) :: (16, .fz (.lst (il f))) :: (15, .fz (.int ((wys L1 : Nat) : Int))) :: (14, .fz (gD f bh)) :: (11, .own (bk1.map gd)) :: (11, .own []) :: (12, .fz (.lst (ols (zap L1)))) :: (13, .fz (.int (bh : Int))) :: (10, .fz (.lst ([L1, L2].map ol))) :: ρ) F.equ o2 (by lia) rfl
  have hsm : ∀ k ∈ s, k ≤ 90 := λ k hk => by have := g2 k hk; lia
  obtain ⟨low, high, lh, _, _, e15⟩ := zoi (tok := tok) (Φ := Φ) (Ψ := Ψ) (c0 := c0) (c1 := c1) (c2 := c2) (bh := bh) (s := s) (σ := (19, .fz (.lst (il s))) :: (18, .fz (.int ((wys L2 : Nat) : Int))) :: (17, .fz (gD s bh)) :: (11, .own (bk2.map gd)) :: (16, .fz (.lst (il f))) :: (15, .fz (.int ((wys L1 : Nat) : Int))) :: (14, .fz (gD f bh)) :: (11, .own (bk1.map gd)) :: (11, .own []) :: (12, .fz (.lst (ols (zap L1)))) :: (13, .fz (.int (bh : Int))) :: (10, .fz (.lst ([L1, L2].map ol))) :: ρ)
    ne2 (by lia) (λ k hk => by have := hsm k hk; lia) r1 rfl rfl (rn 20 (by decide)) (rn 21 (by decide)) (rn 22 (by decide))
  have hmore := Nat.mod_lt (bh + 1 + c1 / 640 % 4) (show 0 < 5 by decide)
  have hmne : bh ≠ (bh + 1 + c1 / 640 % 4) % 5 := by lia
  generalize (bh + 1 + c1 / 640 % 4) % 5 = more at e15 hmore hmne
  have e16 := zoE (tok := tok) (Φ := Φ) (Ψ := Ψ) (s := s) (low := low) (high := high) (σ := (20, .fz (.int (more : Int))) :: (21, .fz (.int (low : Int))) :: (22, .fz (.int (high : Int))) :: (19, .fz (.lst (il s))) :: (18, .fz (.int ((wys L2 : Nat) : Int))) :: (17, .fz (gD s bh)) :: (11, .own (bk2.map gd)) :: (16, .fz (.lst (il f))) :: (15, .fz (.int ((wys L1 : Nat) : Int))) :: (14, .fz (gD f bh)) :: (11, .own (bk1.map gd)) :: (11, .own []) :: (12, .fz (.lst (ols (zap L1)))) :: (13, .fz (.int (bh : Int))) :: (10, .fz (.lst ([L1, L2].map ol))) :: ρ)
    (by lia) lh rfl rfl rfl
  obtain ⟨be1, be2⟩ := zij (s := s) (low := low) (high := high) (by lia) hsm
  generalize bentF s low high = be at e16 be1 be2
  have Sf : Sml f bh := ⟨by lia, λ k hk => by have := g1 k hk; lia, by lia⟩
  have Ss : Sml s bh := ⟨by lia, λ k hk => by have := hsm k hk; lia, by lia⟩
  have Sm : Sml s more := ⟨by lia, λ k hk => by have := hsm k hk; lia, by lia⟩
  have Sb : Sml be bh := ⟨be1, be2, by lia⟩
  have e17 := zo1 (tok := tok) (Φ := Φ) (Ψ := Ψ) (L1 := L1) (L2 := L2) (f := f) (s := s) (be := be) (bh := bh) (more := more) (σ := (23, .fz (.lst (il be))) :: (20, .fz (.int (more : Int))) :: (21, .fz (.int (low : Int))) :: (22, .fz (.int (high : Int))) :: (19, .fz (.lst (il s))) :: (18, .fz (.int ((wys L2 : Nat) : Int))) :: (17, .fz (gD s bh)) :: (11, .own (bk2.map gd)) :: (16, .fz (.lst (il f))) :: (15, .fz (.int ((wys L1 : Nat) : Int))) :: (14, .fz (gD f bh)) :: (11, .own (bk1.map gd)) :: (11, .own []) :: (12, .fz (.lst (ols (zap L1)))) :: (13, .fz (.int (bh : Int))) :: (10, .fz (.lst ([L1, L2].map ol))) :: ρ)
    F.guy (by lia) Ss (by lia) Sb r4 rfl rfl rfl rfl rfl rfl rfl
  have hi : ∀ k ∈ f, k < bk2.length := λ k hk => by have := g1 k hk; lia
  have hfφ : f.map φ2 = f.map φ1 := List.map_congr_left λ k hk => ag k (g1 k hk)
  have same1 : decide (L2 ∈ zap L1) = decide (cnt f = cnt s /\ bh = bh) := decide_eq_decide.mpr (by
    rw [zlj v1 v2, zgH, <- zg9 o2.inj hi g2, zdJ, hfφ, s1, s2]
    unfold top
    exact ⟨λ h => ⟨(zi0 h).symm, rfl⟩, λ h => by rw [h.1]⟩)
  have same2 : false = decide (cnt f = cnt s /\ bh = more) := (decide_eq_false λ h => hmne h.2).symm
  have same3 : decide (sortN be = sortN f) = decide (cnt f = cnt be /\ bh = bh) := decide_eq_decide.mpr (by
    rw [zgH, zdJ]
    exact ⟨λ h => ⟨h.symm, rfl⟩, λ h => h.1.symm⟩)
  generalize hω : ((24, B.fz (.lst [tri f s bh (decide (L2 ∈ zap L1)), tri f s more false, tri f be bh (decide (sortN be = sortN f))])) :: (23, .fz (.lst (il be))) :: (20, .fz (.int (more : Int))) :: (21, .fz (.int (low : Int))) :: (22, .fz (.int (high : Int))) :: (19, .fz (.lst (il s))) :: (18, .fz (.int ((wys L2 : Nat) : Int))) :: (17, .fz (gD s bh)) :: (11, .own (bk2.map gd)) :: (16, .fz (.lst (il f))) :: (15, .fz (.int ((wys L1 : Nat) : Int))) :: (14, .fz (gD f bh)) :: (11, .own (bk1.map gd)) :: (11, .own []) :: (12, .fz (.lst (ols (zap L1)))) :: (13, .fz (.int (bh : Int))) :: (10, .fz (.lst ([L1, L2].map ol))) :: ρ : Sg) = ω at e17
  have w24 : ω.lookup 24 = some (.fz (.lst [tri f s bh (decide (L2 ∈ zap L1)), tri f s more false, tri f be bh (decide (sortN be = sortN f))])) := by rw [<- hω]; rfl
  have w13 : ω.lookup 13 = some (.fz (.int (bh : Int))) := by rw [<- hω]; rfl
  have w14 : ω.lookup 14 = some (.fz (gD f bh)) := by rw [<- hω]; rfl
  have w16 : ω.lookup 16 = some (.fz (.lst (il f))) := by rw [<- hω]; rfl
  have w4 : ω.lookup 4 = some (.fz (ol L2)) := by rw [<- hω]; exact r4
  have w12 : ω.lookup 12 = some (.fz (.lst (ols (zap L1)))) := by rw [<- hω]; rfl
  have w15 : ω.lookup 15 = some (.fz (.int ((wys L1 : Nat) : Int))) := by rw [<- hω]; rfl
  have w18 : ω.lookup 18 = some (.fz (.int ((wys L2 : Nat) : Int))) := by rw [<- hω]; rfl
  obtain ⟨ω1, t1, q1⟩ := zeU (tok := tok) (Ψ := Ψ) F.equ F.wit Sf Ss same1 w13 w14 w16
  obtain ⟨ω2, t2, q2⟩ := zeU (tok := tok) (Ψ := Ψ) F.equ F.wit Sf Sm same2 ((q1 13 (by decide)).trans w13) ((q1 14 (by decide)).trans w14) ((q1 16 (by decide)).trans w16)
  obtain ⟨ω3, t3, q3⟩ := zeU (tok := tok) (Ψ := Ψ) F.equ F.wit Sf Sb same3 (((q2 13 (by decide)).trans (q1 13 (by decide))).trans w13) (((q2 14 (by decide)).trans (q1 14 (by decide))).trans w14) (((q2 16 (by decide)).trans (q1 16 (by decide))).trans w16)
  have loop : ForR (.tp [.nm 25, .nm 26, .nm 27, .nm 28]) (evs tok Φ Ψ zg0) [tri f s bh (decide (L2 ∈ zap L1)), tri f s more false, tri f be bh (decide (sortN be = sortN f))] ω .next ω3 := .next rfl t1 (.next rfl t2 (.next rfl t3 .nil))
  have e18 : ev1 tok Φ Ψ lx18 ω .next ω3 := by rw [zm9]; exact zci (zc4 (zab w24)) loop
  have back : ∀ i, i < 25 -> ω3.lookup i = ω.lookup i := λ i hi => by rw [q3 i hi, q2 i hi, q1 i hi]
  have e19 := zoW (tok := tok) (Ψ := Ψ) F.rea v1 v2 ((back 4 (by decide)).trans w4) ((back 12 (by decide)).trans w12) ((back 15 (by decide)).trans w15) ((back 18 (by decide)).trans w18)
  rw [zoF]
  exact ⟨_, zad e0 (zad e1 (zad e2 (zad e3 (zad e4 (zad e5 (zad e6 (zad e7 (zad e8 (zad e9 (zad e10 (zad e11 (zad e12 (zad e13 (zad e14 (zad e15 (zad e16 (zad e17 (zad e18 (zaF e19)))))))))))))))))))⟩
end
end Mine
end
section
open PySem PySem.W PyProof.Rows PySem.StrLaws Builtin.Str
set_option maxRecDepth 10000
namespace Mine
section
variable {tok : Str -> Option Int} {Φ : String -> List D -> Option D} {Ψ : String -> List D -> Option (D × List D)}
noncomputable def Det (B : Sg -> Fl -> Sg -> Prop) : Prop := ∀ σ fl s fl' s', B σ fl s -> B σ fl' s' -> fl = fl' /\ s = s'
theorem zaM {α : Type} {o : Option α} {a b : α} (h : o = some a) (k : o = some b) : a = b := Option.some.inj (h.symm.trans k)
theorem dd {o : Option R} {a b : D} (h : o = some (.d a)) (k : o = some (.d b)) : a = b := R.d.inj (zaM h k)
theorem dl {o : Option R} {a b : List D} (h : o = some (.d (.lst a))) (k : o = some (.d (.lst b))) : a = b := D.lst.inj (dd h k)
theorem db {o : Option R} {a b : Bool} (h : o = some (.d (.bool a))) (k : o = some (.d (.bool b))) : a = b := D.bool.inj (dd h k)
theorem bo {o : Option B} {a b : List D} (h : o = some (.own a)) (k : o = some (.own b)) : a = b := B.own.inj (zaM h k)
theorem zpk {P : Prop} (h : Fl.next = .brk) : P := Fl.noConfusion h
theorem znW {P : Prop} {d : D} (h : Fl.next = .ret d) : P := Fl.noConfusion h
theorem zoQ {P : Prop} {d : D} (h : Fl.brk = .ret d) : P := Fl.noConfusion h
noncomputable def Turn (B : Sg -> Fl -> Sg -> Prop) (W : Sg -> Fl -> Sg -> Prop) (σ : Sg) (fl : Fl) (s : Sg) : Prop := (∃ σ₁, B σ .next σ₁ /\ W σ₁ fl s) ∨ (B σ .brk s /\ fl = .next) ∨ ∃ d, B σ (.ret d) s /\ fl = .ret d
theorem zhK {B W W' : Sg -> Fl -> Sg -> Prop} (hB : Det B) {σ s s' : Sg} {fl fl' : Fl} (h : Turn B W σ fl s) (k : Turn B W' σ fl' s') (ih : ∀ σ₁, W σ₁ fl s -> W' σ₁ fl' s' -> fl = fl' /\ s = s') : fl = fl' /\ s = s' :=
  h.elim (λ h => h.elim λ x h => k.elim (λ k => k.elim λ y k => ih x h.2 ((hB _ _ _ _ _ h.1 k.1).2 ▸ k.2)) λ k => k.elim (λ k => zpk (hB _ _ _ _ _ h.1 k.1).1) λ k => k.elim λ d k => znW (hB _ _ _ _ _ h.1 k.1).1) λ h =>
  h.elim (λ h => k.elim (λ k => k.elim λ y k => zpk (hB _ _ _ _ _ k.1 h.1).1) λ k => k.elim (λ k => ⟨h.2.trans k.2.symm, (hB _ _ _ _ _ h.1 k.1).2⟩) λ k => k.elim λ d k => zoQ (hB _ _ _ _ _ h.1 k.1).1) λ h => h.elim λ c h =>
    k.elim (λ k => k.elim λ y k => znW (hB _ _ _ _ _ k.1 h.1).1) λ k => k.elim (λ k => zoQ (hB _ _ _ _ _ k.1 h.1).1) λ k => k.elim λ d k => ⟨h.2.trans ((hB _ _ _ _ _ h.1 k.1).1.trans k.2.symm), (hB _ _ _ _ _ h.1 k.1).2⟩
theorem zf8 {c : Sg -> Option R} {B : Sg -> Fl -> Sg -> Prop} {σ s : Sg} {fl : Fl} (h : WhileR c B σ fl s) : (c σ = some (.d (.bool false)) /\ fl = .next /\ s = σ) ∨ (c σ = some (.d (.bool true)) /\ Turn B (WhileR c B) σ fl s) := by
  cases h with
  | stop h => exact .inl ⟨h, rfl, rfl⟩
  | next h b w => exact .inr ⟨h, .inl ⟨_, b, w⟩⟩
  | brk h b => exact .inr ⟨h, .inr (.inl ⟨b, rfl⟩)⟩
  | ret h b => exact .inr ⟨h, .inr (.inr ⟨_, b, rfl⟩)⟩
theorem zeT {c : Sg -> Option R} {B W : Sg -> Fl -> Sg -> Prop} (hB : Det B) {σ s s' : Sg} {fl fl' : Fl} (h : c σ = some (.d (.bool true))) (t : Turn B W σ fl s) (ih : ∀ σ₁, W σ₁ fl s -> WhileR c B σ₁ fl' s' -> fl = fl' /\ s = s') (k : WhileR c B σ fl' s') : fl = fl' /\ s = s' :=
  (zf8 k).elim (λ k => ffE (db k.1 h)) λ k => zhK hB t k.2 ih
theorem zkk {c : Sg -> Option R} {B : Sg -> Fl -> Sg -> Prop} (hB : Det B) : Det (WhileR c B) := by
  intro σ fl s fl' s' h
  induction h generalizing fl' s' with
  | stop h => exact λ k => (zf8 k).elim (λ k => ⟨k.2.1.symm, k.2.2.symm⟩) λ k => ffE (db h k.1)
  | next h b w ih => exact zeT hB (W := λ x _ _ => x = _) h (.inl ⟨_, b, rfl⟩) λ x e k => ih _ _ (e ▸ k)
  | brk h b => exact zeT hB (W := λ _ _ _ => False) h (.inr (.inl ⟨b, rfl⟩)) λ _ h => h.elim
  | ret h b => exact zeT hB (W := λ _ _ _ => False) h (.inr (.inr ⟨_, b, rfl⟩)) λ _ h => h.elim
theorem ziH {p : Pt} {B : Sg -> Fl -> Sg -> Prop} {d : D} {ds : List D} {σ s : Sg} {fl : Fl} (h : ForR p B (d :: ds) σ fl s) : ∃ σ₁, pb p d σ = some σ₁ /\ Turn B (ForR p B ds) σ₁ fl s := by
  cases h with
  | next h b w => exact ⟨_, h, .inl ⟨_, b, w⟩⟩
  | brk h b => exact ⟨_, h, .inr (.inl ⟨b, rfl⟩)⟩
  | ret h b => exact ⟨_, h, .inr (.inr ⟨_, b, rfl⟩)⟩
noncomputable def ends : Fl -> Prop
  | .next => False
  | _ => True
theorem nx {C : Fl -> Prop} {fl : Fl} (e : .next = fl) (h : C fl) : C .next := e ▸ h
theorem ze6 {p : Pt} {B : Sg -> Fl -> Sg -> Prop} {σ s : Sg} {fl : Fl} (h : ForR p B [] σ fl s) : fl = .next /\ s = σ := by
  cases h; exact ⟨rfl, rfl⟩
theorem zjG {p : Pt} {B : Sg -> Fl -> Sg -> Prop} (hB : Det B) : ∀ ds : List D, Det (ForR p B ds)
  | [] => λ σ fl s fl' s' h k => ⟨(ze6 h).1.trans (ze6 k).1.symm, (ze6 h).2.trans (ze6 k).2.symm⟩
  | d :: ds => λ σ fl s fl' s' h k => (ziH h).elim λ x h => (ziH k).elim λ y k => zhK hB h.2 (zaM k.1 h.1 ▸ k.2) λ σ₁ h k => zjG hB ds _ _ _ _ _ h k
mutual
theorem ze4 : ∀ x : X, Det (ev1 tok Φ Ψ x)
  | .asg p e => λ σ fl s fl' s' h k => h.2.elim λ d hd => k.2.elim λ d' kd => ⟨h.1.trans k.1.symm, zaM hd.2 (dd kd.1 hd.1 ▸ kd.2)⟩
  | .own x e => λ σ fl s fl' s' h k => h.2.elim λ d hd => k.2.elim λ d' kd => ⟨h.1.trans k.1.symm, hd.2.trans ((congrArg (λ d => (x, B.own d) :: σ) (dl hd.1 kd.1)).trans kd.2.symm)⟩
  | .asgs xs os es => λ σ fl s fl' s' h k => h.2.elim λ d hd => hd.elim λ b hd => k.2.elim λ d' kd => kd.elim λ b' kd =>
    ⟨h.1.trans k.1.symm, hd.2.2.2.2.trans ((congrArg (λ b => zipB xs b ++ σ) (zaM hd.2.1 (zaM kd.1 hd.1 ▸ kd.2.1))).trans kd.2.2.2.2.symm)⟩
  | .mul xs e => λ σ fl s fl' s' h k => h.2.elim λ d hd => k.2.elim λ d' kd => ⟨h.1.trans k.1.symm, hd.2.trans ((congrArg (λ d => zipB xs (xs.map λ _ => .fz d) ++ σ) (dd hd.1 kd.1)).trans kd.2.symm)⟩
  | .app x e => λ σ fl s fl' s' h k => h.2.elim λ a hd => hd.elim λ d hd => k.2.elim λ a' kd => kd.elim λ d' kd =>
    ⟨h.1.trans k.1.symm, hd.2.2.2.trans ((congr (congrArg (λ a d => (x, B.own (a ++ [d])) :: σ) (bo hd.1 kd.1)) (dd hd.2.1 kd.2.1)).trans kd.2.2.2.symm)⟩
  | .sto x i e => λ σ fl s fl' s' h k => h.2.elim λ a hd => hd.elim λ d hd => hd.elim λ n hd => hd.elim λ j hd => k.2.elim λ a' kd => kd.elim λ d' kd => kd.elim λ n' kd => kd.elim λ j' kd =>
    have ea := bo kd.1 hd.1
    have en := D.int.inj (dd kd.2.2.1 hd.2.2.1)
    ⟨h.1.trans k.1.symm, hd.2.2.2.2.2.trans ((congr (congr (congrArg (λ a j d => (x, B.own (List.set a j d)) :: σ) ea.symm) (zaM hd.2.2.2.1 (en ▸ ea ▸ kd.2.2.2.1))) (dd hd.2.1 kd.2.1)).trans kd.2.2.2.2.2.symm)⟩
  | .ino p f a x c => λ σ fl s fl' s' h k => h.2.elim λ n hd => hd.elim λ da hd => hd.elim λ ds hd => hd.elim λ dc hd => hd.elim λ d hd => hd.elim λ r hd =>
    k.2.elim λ n' kd => kd.elim λ da' kd => kd.elim λ ds' kd => kd.elim λ dc' kd => kd.elim λ d' kd => kd.elim λ r' kd =>
    have e := zaM hd.2.2.2.2.1 (show Ψ n [da, .lst ds, dc] = some (d', r') from D.fn.inj (dd kd.1 hd.1) ▸ dd kd.2.1 hd.2.1 ▸ bo kd.2.2.1 hd.2.2.1 ▸ dd kd.2.2.2.1 hd.2.2.2.1 ▸ kd.2.2.2.2.1)
    ⟨h.1.trans k.1.symm, zaM hd.2.2.2.2.2 ((congr (congrArg (λ r d => pb p d ((x, .own r) :: σ)) (congrArg Prod.snd e)) (congrArg Prod.fst e)).trans kd.2.2.2.2.2)⟩
  | .iff c a b => λ σ fl s fl' s' h k => h.elim λ v h => k.elim λ v' k => have e := db h.1 k.1
    h.2.elim (λ x => k.2.elim (λ y => zbW a _ _ _ _ _ x.2 y.2) λ y => ffE ((y.1.symm.trans e.symm).trans x.1)) λ x => k.2.elim (λ y => ffE ((x.1.symm.trans e).trans y.1)) λ y => zbW b _ _ _ _ _ x.2 y.2
  | .whl c b => zkk (zbW b)
  | .fr p it b => λ σ fl s fl' s' h k => h.elim λ is h => k.elim λ is' k => zjG (zbW b) is _ _ _ _ _ h.2 (zaM k.1 h.1 ▸ k.2)
  | .ret e => λ σ fl s fl' s' h k => h.elim λ d h => k.elim λ d' k => ⟨h.2.1.trans ((congrArg Fl.ret (dd h.1 k.1)).trans k.2.1.symm), h.2.2.trans k.2.2.symm⟩
  | .retO x => λ σ fl s fl' s' h k => h.elim λ d h => k.elim λ d' k => ⟨h.2.1.trans ((congrArg (λ l => Fl.ret (.lst l)) (bo h.1 k.1)).trans k.2.1.symm), h.2.2.trans k.2.2.symm⟩
  | .brk => λ σ fl s fl' s' h k => ⟨h.1.trans k.1.symm, h.2.trans k.2.symm⟩
  | .tri b => λ σ fl s fl' s' h k => zbW b _ _ _ _ _ h.1 k.1
termination_by structural x => x
theorem zbW : ∀ xs : List X, Det (evs tok Φ Ψ xs)
  | [] => λ σ fl s fl' s' h k => ⟨h.1.trans k.1.symm, h.2.trans k.2.symm⟩
  | x :: xs => λ σ fl s fl' s' h k => h.elim (λ h => h.elim λ s1 a => k.elim (λ k => k.elim λ s2 b => zbW xs _ _ _ _ _ a.2 ((ze4 x _ _ _ _ _ b.1 a.1).2 ▸ b.2)) λ k => False.elim (nx (C := ends) (ze4 x _ _ _ _ _ a.1 k.1).1 k.2))
      λ h => k.elim (λ k => k.elim λ s2 b => False.elim (nx (C := ends) (ze4 x _ _ _ _ _ b.1 h.1).1 h.2)) λ k => ze4 x _ _ _ _ _ h.1 k.1
termination_by structural xs => xs
end
noncomputable def RunX (tok : Str -> Option Int) (Φ : String -> List D -> Option D) (n : Nat) (xb : List X) (ds : List D) (d : D) : Prop := ds.length = n /\ ∃ σ', evs tok Φ (λ _ _ => none) xb (zipB (List.range n) (ds.map .fz)) (.ret d) σ'
theorem RunX.det {n : Nat} {xb : List X} {ds : List D} {d d' : D} (h : RunX tok Φ n xb ds d) (k : RunX tok Φ n xb ds d') : d = d' := by
  obtain ⟨_, s, h⟩ := h
  obtain ⟨_, s', k⟩ := k
  have := (zbW xb _ _ _ _ _ h k).1
  cases this; rfl
open Classical in
noncomputable def the {α : Type} (P : α -> Prop) : Option α := if h : ∃ d, P d then some (choose h) else none
theorem zdV {α : Type} {P : α -> Prop} (hP : ∀ d d', P d -> P d' -> d = d') {d : α} : the P = some d ↔ P d := by
  unfold the
  by_cases hh : ∃ d, P d
  · rw [dif_pos hh]
    constructor
    · intro h; cases h; exact Classical.choose_spec hh
    · intro h; exact congrArg some (hP _ _ (Classical.choose_spec hh) h)
  · rw [dif_neg hh]
    exact ⟨λ h => (by cases h), λ h => absurd ⟨d, h⟩ hh⟩
noncomputable def ph (tok : Str -> Option Int) (T : List (String × Nat × List X)) (Φ : String -> List D -> Option D) (k : String) (ds : List D) : Option D :=
  match T.lookup k with
  | some q => the (RunX tok Φ q.1 q.2 ds)
  | none => Φ k ds
theorem zlV {T : List (String × Nat × List X)} {k : String} {q : Nat × List X} {ds : List D} {d : D} (hT : T.lookup k = some q) : ph tok T Φ k ds = some d ↔ RunX tok Φ q.1 q.2 ds d := by
  unfold ph
  rw [hT]
  exact zdV λ _ _ => RunX.det
theorem zfJ {T : List (String × Nat × List X)} {k : String} {ds : List D} (hT : T.lookup k = none) : ph tok T Φ k ds = Φ k ds := by
  unfold ph; rw [hT]
theorem zbx {T : List (String × Nat × List X)} {k : String} {n : Nat} {xb : List X} {ds : List D} {d : D} {σ' : Sg} (hT : T.lookup k = some (n, xb)) (hn : ds.length = n) (h : evs tok Φ (λ _ _ => none) xb (zipB (List.range n) (ds.map .fz)) (.ret d) σ') : ph tok T Φ k ds = some d := (zlV hT).mpr ⟨hn, _, h⟩
end
theorem zlY {a b : List Nat} (h : mk a = mk b) : a = b := congrArg (λ s : Str => s.cps.toList) h
theorem znY : ∀ (l : List Nat) (w : Ws), (w.run l).n = w.n + l.length
  | [], w => rfl
  | c :: l, w => by
    show ((w.step c).run l).n = _
    rw [znY l]
    have : (w.step c).n = w.n + 1 := by unfold Ws.step; split <;> rfl
    rw [this, List.length_cons]; lia
noncomputable def wsO (raw : List Nat) : D := .obj (gF ((⟨[], 0, 0, 0⟩ : Ws).run raw).cs raw ((⟨[], 0, 0, 0⟩ : Ws).run raw).b ((⟨[], 0, 0, 0⟩ : Ws).run raw).nt)
noncomputable def WsP (ds : List D) (d : D) : Prop := ∃ raw : List Nat, ds = [.str (mk raw)] /\ (∀ c ∈ raw, c = 32 ∨ c = 9) /\ raw.length ≤ 4000 /\ d = wsO raw
theorem zi9 {ds : List D} (d d' : D) (h : WsP ds d) (k : WsP ds d') : d = d' := by
  obtain ⟨raw, rfl, _, _, rfl⟩ := h
  obtain ⟨raw', e, _, _, rfl⟩ := k
  have : mk raw = mk raw' := by cases e; rfl
  rw [zlY this]
noncomputable def Φw (k : String) (ds : List D) : Option D := if k = "Whitespace" then the (WsP ds) else none
noncomputable def T0 : List (String × Nat × List X) := [("_law_depths", 1, zbm), ("_law_end", 2, zcy), ("_law_row", 2, zcN), ("_law_page", 2, zb5), ("_escape_cdata", 1, zaY), ("_escape_cdata_c14n", 1, zaJ), ("_escape_attrib", 1, zaT),
  ("_escape_attrib_html", 1, zaz), ("_escape_attrib_c14n", 1, zay), ("ISTERMINAL", 1, zb3), ("ISNONTERMINAL", 1, zbi), ("longest_run_of_spaces", 1, zar), ("indent_level", 2, zaZ), ("equal", 2, zfe)]
noncomputable def T1 : List (String × Nat × List X) := [("_law_swapped", 1, za9), ("_law_read", 2, zb8), ("_law_guy", 2, zcJ), ("not_equal_witness", 2, zaI)]
noncomputable def T2 : List (String × Nat × List X) := [("_law_reached", 1, zba), ("_law_second", 4, zbl)]
noncomputable def Φ0 (tok : Str -> Option Int) : String -> List D -> Option D := ph tok T0 Φw
noncomputable def Φ1 (tok : Str -> Option Int) : String -> List D -> Option D := ph tok T1 (Φ0 tok)
noncomputable def Φ2 (tok : Str -> Option Int) : String -> List D -> Option D := ph tok T2 (Φ1 tok)
noncomputable def BoP (tok : Str -> Option Int) (a : D) (bs : List D) (c : D) (r : D × List D) : Prop := ∃ σ', evs tok (Φ1 tok) (λ _ _ => none) zaO [(0, .fz a), (1, .own bs), (2, .fz c)] (.ret r.1) σ' /\ σ'.lookup 1 = some (.own r.2)
theorem ziU {tok : Str -> Option Int} {a c : D} {bs : List D} (r r' : D × List D) (h : BoP tok a bs c r) (k : BoP tok a bs c r') : r = r' := by
  obtain ⟨s, h1, h2⟩ := h
  obtain ⟨s', k1, k2⟩ := k
  obtain ⟨e, rfl⟩ := zbW _ _ _ _ _ _ h1 k1
  rw [h2] at k2
  obtain ⟨r1, r2⟩ := r
  obtain ⟨r1', r2'⟩ := r'
  cases e
  cases k2
  rfl
noncomputable def Ψ2 (tok : Str -> Option Int) (k : String) (ds : List D) : Option (D × List D) :=
  if k = "_law_booked" then (match ds with | [a, .lst bs, c] => the (BoP tok a bs c) | _ => none) else none
section
variable {tok : Str -> Option Int}
theorem f_ws (raw : List Nat) (h : ∀ c ∈ raw, c = 32 ∨ c = 9) (hl : raw.length ≤ 4000) : Φ0 tok "Whitespace" [.str (mk raw)] = some (wsO raw) := by
  unfold Φ0
  rw [zfJ rfl]
  unfold Φw
  rw [if_pos rfl]
  exact (zdV zi9).mpr ⟨raw, rfl, h, hl, rfl⟩
theorem znw (runs : List Nat) (behind : Nat) : wsO (guyT runs behind) = gD runs behind := by
  unfold wsO; rw [zmR]; rfl
theorem zlw {k : String} {ds : List D} {d : D} (hT : T1.lookup k = none) (h : Φ0 tok k ds = some d) : Φ1 tok k ds = some d := by
  unfold Φ1; rw [zfJ hT]; exact h
theorem zhk {k : String} {ds : List D} {d : D} (hT : T2.lookup k = none) (h : Φ1 tok k ds = some d) : Φ2 tok k ds = some d := by
  unfold Φ2; rw [zfJ hT]; exact h
theorem zf3 {k : String} {ds : List D} {d : D} (hT : T2.lookup k = none) (hT1 : T1.lookup k = none) (h : Φ0 tok k ds = some d) : Φ2 tok k ds = some d := zhk hT (zlw hT1 h)
theorem zn6 (c : Nat) : Φ0 tok "_law_depths" [.int (c : Int)] = some (.lst (il (zaG c))) := by
  obtain ⟨σ', h⟩ := zis (tok := tok) (Φ := Φw) (Ψ := λ _ _ => none) (σ := [(0, .fz (.int (c : Int)))]) (c := c) rfl
  exact zbx (n := 1) rfl rfl h
theorem zoO (L : List Nat) (k : Nat) (hL : L.length = 5) (hk : k ≤ 4) : Φ0 tok "_law_end" [ol L, .int (k : Int)] = some (.int ((zan L k : Nat) : Int)) := by
  obtain ⟨σ', h⟩ := zm5 (tok := tok) (Φ := Φw) (Ψ := λ _ _ => none) (σ := [(0, .fz (ol L)), (1, .fz (.int (k : Int)))]) hL hk rfl rfl
  exact zbx (n := 2) rfl rfl h
theorem zo8 (L n0 n1 : List Nat) (hO : Out L) (h0 : n0.length ≤ 3) (h1 : n1.length ≤ 3) : Φ0 tok "_law_row" [ol L, .lst [.str (mk n0), .str (mk n1)]] = some (.str (mk (rowF L n0 n1))) := by
  obtain ⟨σ', h⟩ := zmN (tok := tok) (Φ := Φw) (Ψ := λ _ _ => none) hO h0 h1
  exact zbx (n := 2) rfl rfl h
theorem zms (k : Nat) (l : List Nat) (hk : k < 5) (hl : l.length ≤ 200) : Φ0 tok "_law_page" [.str (mk l), .int (k : Int)] = some (.str (mk (pageF k l))) := by
  obtain ⟨σ', h⟩ := zlk (tok := tok) (Φ := Φw) (Ψ := λ _ _ => none) (σ := [(0, .fz (.str (mk l))), (1, .fz (.int (k : Int)))]) hk hl rfl rfl
  exact zbx (n := 2) rfl rfl h
theorem zmy (k : Nat) (l : List Nat) (hk : k < 5) (hl : zcp l) : Φ0 tok (handN k) [.str (mk l)] = some (.str (mk (pageF k l))) := by
  rcases (by lia : k = 0 ∨ k = 1 ∨ k = 2 ∨ k = 3 ∨ k = 4) with rfl | rfl | rfl | rfl | rfl
  · obtain ⟨σ', h⟩ := ziz (tok := tok) (Φ := Φw) (Ψ := λ _ _ => none) (σ := [(0, .fz (.str (mk l)))]) hl rfl
    exact zbx (n := 1) rfl rfl h
  · obtain ⟨σ', h⟩ := zea (tok := tok) (Φ := Φw) (Ψ := λ _ _ => none) (σ := [(0, .fz (.str (mk l)))]) hl rfl
    exact zbx (n := 1) rfl rfl h
  · obtain ⟨σ', h⟩ := zh7 (tok := tok) (Φ := Φw) (Ψ := λ _ _ => none) (σ := [(0, .fz (.str (mk l)))]) hl rfl
    exact zbx (n := 1) rfl rfl h
  · obtain ⟨σ', h⟩ := zkM (tok := tok) (Φ := Φw) (Ψ := λ _ _ => none) (σ := [(0, .fz (.str (mk l)))]) hl rfl
    exact zbx (n := 1) rfl rfl h
  · obtain ⟨σ', h⟩ := zdt (tok := tok) (Φ := Φw) (Ψ := λ _ _ => none) (σ := [(0, .fz (.str (mk l)))]) hl rfl
    exact zbx (n := 1) rfl rfl h
theorem f0_T (i : Int) : Φ0 tok "ISTERMINAL" [.int i] = some (.bool (decide (i < 256))) :=
  zbx (n := 1) rfl rfl (zaF (zby (q_lt (zab rfl) q_cst)))
theorem f0_N (i : Int) : Φ0 tok "ISNONTERMINAL" [.int i] = some (.bool (decide (256 ≤ i))) :=
  zbx (n := 1) rfl rfl (zaF (zby (q_ge (zab rfl) q_cst)))
theorem znc (cs raw : List Nat) (b nt : Nat) (h : cs.length ≤ 5000) : Φ0 tok "longest_run_of_spaces" [.obj (gF cs raw b nt)] = some (.int ((longN cs b : Nat) : Int)) := by
  obtain ⟨σ', h⟩ := zie (tok := tok) (Φ := Φw) (Ψ := λ _ _ => none) (cs := cs) (raw := raw) (b := b) (nt := nt) (by lia)
  exact zbx (n := 1) rfl rfl h
theorem zoA (cs raw : List Nat) (b nt ts : Nat) (h : cs.length ≤ 5000) (h1 : 1 ≤ ts) (h2 : ts ≤ 10000) : Φ0 tok "indent_level" [.obj (gF cs raw b nt), .int (ts : Int)] = some (.int ((indF cs b nt ts : Nat) : Int)) := by
  obtain ⟨σ', h⟩ := zkl (tok := tok) (Φ := Φw) (Ψ := λ _ _ => none) (cs := cs) (raw := raw) (b := b) (nt := nt) (ts := ts) (by lia) h1 h2
  exact zbx (n := 2) rfl rfl h
theorem zmc (x y : List Nat) (b c : Nat) : Φ0 tok "equal" [gD x b, gD y c] = some (.bool (decide (cnt x = cnt y /\ b = c))) := by
  obtain ⟨σ', h⟩ := zkW (tok := tok) (Φ := Φw) (Ψ := λ _ _ => none) (cs := cnt x) (raw := guyT x b) (b := b) (nt := x.length) (cs' := cnt y) (raw' := guyT y c) (b' := c) (nt' := y.length)
  exact zbx (n := 2) rfl rfl h
theorem zjC (L : List Nat) (h : L.length = 5) : Φ1 tok "_law_swapped" [ol L] = some (.lst (ols (swaps L))) := by
  obtain ⟨σ', h⟩ := zgz (tok := tok) (Ψ := λ _ _ => none) (σ := [(0, .fz (ol L))]) (zoO (tok := tok)) h rfl
  exact zbx (n := 1) rfl rfl h
theorem zmV (L n0 n1 : List Nat) (i0 i1 k : Nat) (K : TokOk tok n0 n1 i0 i1) (h : valid L = true) : Φ1 tok "_law_read" [.str (mk (pageF k (rowF L n0 n1))), .lst [.int (i0 : Int), .int (i1 : Int)]] = some (ol L) := by
  obtain ⟨σ', h⟩ := zlo (tok := tok) (Ψ := λ _ _ => none) (k := k) K (f0_N (tok := tok)) (f0_T (tok := tok)) h
  exact zbx (n := 2) rfl rfl h
theorem zlJ (runs : List Nat) (lab : Nat) (h1 : ∀ r ∈ runs, r ≤ 100) (h2 : runs.length ≤ 20) (h3 : lab ≤ 100) : Φ1 tok "_law_guy" [.lst (il runs), .int (lab : Int)] = some (gD runs lab) := by
  obtain ⟨σ', h⟩ := zmB (tok := tok) (Φ := Φ0 tok) (Ψ := λ _ _ => none) (runs := runs) (behind := lab) (λ raw e => by
    subst e
    rw [f_ws _ (ziG runs lab) (by have := zgt (behind := lab) h1; lia), znw]) h1 h2 h3
  exact zbx (n := 2) rfl rfl h
theorem zop (x y : List Nat) (b c : Nat) (hx : Sml x b) (hy : Sml y c) : Φ1 tok "not_equal_witness" [gD x b, gD y c] = some (.lst (witF (cnt x) b x.length (cnt y) c y.length)) := by
  have lx : ∀ {x b}, Sml x b -> (cnt x).length ≤ 5000 := λ {x b} h => Nat.le_trans ((zd1 x 101).mpr λ k hk => by have := h.2.1 k hk; lia) (by decide)
  obtain ⟨σ', h⟩ := zio (tok := tok) (Ψ := λ _ _ => none) (cs := cnt x) (raw := guyT x b) (b := b) (nt := x.length) (cs' := cnt y) (raw' := guyT y c) (b' := c) (nt' := y.length) (lx hx) (lx hy) (by have := hx.2.2; lia) (by have := hy.2.2; lia) (znc (tok := tok)) (zoA (tok := tok))
  exact zbx (n := 2) rfl rfl h
theorem zoy (L : List Nat) (h : valid L = true) : Φ2 tok "_law_reached" [ol L] = some (.lst (ols (zap L))) := by
  obtain ⟨σ', h⟩ := zgJ (tok := tok) (Ψ := λ _ _ => none) VOkV (zjC (tok := tok)) (valid_iff.mpr h)
  exact zbx (n := 1) rfl rfl h
theorem znN (L : List Nat) (draw odd kind : Nat) (h1 : valid L = true) (h2 : odd < 5) (h3 : kind < 4) : ∃ M, valid M = true /\ Φ2 tok "_law_second" [ol L, .int (draw : Int), .int (odd : Int), .int (kind : Int)] = some (ol M) := by
  obtain ⟨σ', M, hM, h⟩ := zic (tok := tok) (Ψ := λ _ _ => none) (draw := draw) (zjC (tok := tok)) h1 h2 h3
  exact ⟨M, hM, zbx (n := 4) rfl rfl h⟩
structure TkOk (tok : Str -> Option Int) : Prop where
  ok : ∀ j0 j1, j0 < 41 -> j1 < 41 -> j0 ≠ j1 -> TokOk tok (sg j0) (sg j1) (14 + j0) (14 + j1)
theorem zp7 (T : TkOk tok) : LF tok (Φ2 tok) (Ψ2 tok) where
  dep := λ c => zf3 rfl rfl (zn6 c)
  sec := znN
  row := λ L n0 n1 h0 h1 h2 => zf3 rfl rfl (zo8 L n0 n1 h0 h1 h2)
  hand := λ k l hk hl => zf3 (by rcases (by lia : k = 0 ∨ k = 1 ∨ k = 2 ∨ k = 3 ∨ k = 4) with rfl | rfl | rfl | rfl | rfl <;> rfl) (by rcases (by lia : k = 0 ∨ k = 1 ∨ k = 2 ∨ k = 3 ∨ k = 4) with rfl | rfl | rfl | rfl | rfl <;> rfl) (zmy k l hk hl)
  page := λ k l hk hl => zf3 rfl rfl (zms k l hk hl)
  read := λ L n0 n1 i0 i1 k K h => zhk rfl (zmV L n0 n1 i0 i1 k K h)
  rea := zoy
  guy := λ runs lab h1 h2 h3 => zhk rfl (zlJ runs lab h1 h2 h3)
  equ := λ x y b c => zf3 rfl rfl (zmc x y b c)
  wit := λ x y b c h1 h2 => zhk rfl (zop x y b c h1 h2)
  boo := λ L behind bk φ h1 h2 h3 h4 => by
    obtain ⟨σ', runs, bk', φ', h, hl, r⟩ := zh9 (tok := tok) (Φ := Φ1 tok) (Ψ := λ _ _ => none) (zlJ (tok := tok)) (λ x y b c => zlw rfl (zmc x y b c)) h1 h2 h3 h4
    refine ⟨runs, bk', φ', ?_, r⟩
    unfold Ψ2
    rw [if_pos rfl]
    exact (zdV ziU).mpr ⟨σ', h, hl⟩
  tk := T.ok
end
noncomputable def FnX (C : Cx) (k : String) (q : Nat × List X) : Prop := ∃ fd xs body nt, FnOk C k fd xs body /\ (bSs q.2 body, kSs C.γ nt fd.scope.names q.2 body) = (body, true) /\ xs.mapM (nmI nt) = some (List.range q.1) /\ xs.length = q.1
theorem zkA {C : Cx} {A : Around} : PhiOk C (λ _ _ => none) A := ⟨λ _ => rfl, λ k ds d h => by cases h⟩
theorem zeP {C : Cx} {A : Around} : PsiOk C (λ _ _ => none) A := λ k da ds dc d ds' h => by cases h
theorem zhO {C : Cx} {Φ : String -> List D -> Option D} {Ψ : String -> List D -> Option (D × List D)} {A : Around} {V : Addr -> Prop} {s : Shared} {m : Nat} {k : String} {q : Nat × List X} {fv : Value} {vs : List Value} {ds : List D} {d : D} {σ' : Sg} (K : C.Ok) (O : C.Obj) (F : FnX C k q) (hΦ : ∀ A, Rom m A -> PhiOk C Φ A) (hΨ : ∀ A, Rom m A -> PsiOk C Ψ A) (rom : Rom (m + 1) A)
    (hk : C.gv k = some fv) (hl : ds.length = q.1) (hev : evs C.tok Φ Ψ q.2 (zipB (List.range q.1) (ds.map .fz)) (.ret d) σ') (gl : Gl C V s.heap) (al : Al V s.heap) (tk : 1 ≤ s.toks) (r : RepAll C.gv s.heap V vs ds) : Runs (model C.prog C.w) A s (call fv vs) λ v s' => Rep C.gv s'.heap V v d := by
  obtain ⟨fd, xs, body, nt, F, hcs, his, hx⟩ := F
  exact zlr F hk rom.room K O (λ env => (rom.deeper env).rm) (λ env => hΦ _ (rom.deeper env)) (λ env => hΨ _ (rom.deeper env)) hcs his hev gl al tk (by rw [hl, hx]) r
theorem znt {C : Cx} {T : List (String × Nat × List X)} {Φ : String -> List D -> Option D} {m : Nat} (K : C.Ok) (O : C.Obj) (hT : ∀ k q, T.lookup k = some q -> FnX C k q) (ht : T.lookup "EXACT_TOKEN_TYPES" = none) (hΦ : ∀ A, Rom m A -> PhiOk C Φ A) : ∀ A, Rom (m + 1) A -> PhiOk C (ph C.tok T Φ) A := by
  intro A rom
  refine ⟨λ ds => by rw [zfJ ht]; exact (hΦ A (rom.le (Nat.le_succ m))).1 ds, λ k ds d h hb {s V fv vs} hk gl al tk r => ?_⟩
  cases hq : T.lookup k with
  | none =>
    rw [zfJ hq] at h
    exact (hΦ A (rom.le (Nat.le_succ m))).2 k ds d h hb hk gl al tk r
  | some q =>
    obtain ⟨hl, σ', hev⟩ := (zlV hq).mp h
    exact zhO K O (hT k q hq) hΦ (λ _ _ => zeP) rom hk hl hev gl al tk r
structure AllC (C : Cx) (K : Frag) (Ca fI : Addr) (mc : Value) : Prop where
  ok : C.Ok
  kx : KFx C K Ca fI mc
  gi : C.gv "__init__" = some (.ref fI)
  f0 : ∀ k q, T0.lookup k = some q -> FnX C k q
  f1 : ∀ k q, T1.lookup k = some q -> FnX C k q
  f2 : ∀ k q, T2.lookup k = some q -> FnX C k q
  law : FnX C "law" (1, zjU)
  ini : ∃ fd, FnOk C "__init__" fd ["self", "ws"] (defOf "__init__").2.1 /\ InitC C.γ zgV (fd.scope.names.filter λ p => p.1 != "self") iq0 (defOf "__init__").2.1
  boo : ∃ fd body, FnOk C "_law_booked" fd ["lines", "book", "behind"] body /\ (bSs zaO body, kSs C.γ zbL (fd.scope.names.filter λ p => p.1 != "book") zaO body) = (body, true)
  tk : TkOk C.tok
section
variable {C : Cx} {K : Frag} {Ca fI : Addr} {mc : Value}
theorem zpG (H : AllC C K Ca fI mc) (A : Around) (rom : Rom 2 A) : PhiOk C Φw A := by
  refine ⟨λ ds => rfl, λ k ds d h hb {s V fv vs} hk gl al tk r => ?_⟩
  unfold Φw at h
  split at h
  · rename_i hkw
    subst hkw
    obtain ⟨raw, rfl, h1, h2, rfl⟩ := (zdV zi9).mp h
    have hca := H.kx.w.cls
    rw [hk] at hca; cases hca
    obtain ⟨fd, F, IC⟩ := H.ini
    obtain ⟨σ1, σ2, σ3, σ4, IE⟩ := zmp (tok := C.tok) (Φ := λ _ _ => none) (Ψ := λ _ _ => none) (raw := raw) rfl h1 h2 (by rw [znY]; exact Nat.zero_add _)
    cases r with
    | cons a b =>
      cases b
      exact zmF (n := 0) H.kx F H.gi H.ok rom (λ _ _ => zkA) (λ _ _ => zeP) IC IE gl al tk a
  · cases h
theorem zpw (H : AllC C K Ca fI mc) (A : Around) (rom : Rom 3 A) : PhiOk C (Φ0 C.tok) A := znt H.ok H.kx.obj H.f0 rfl (zpG H) A rom
theorem zpl (H : AllC C K Ca fI mc) (A : Around) (rom : Rom 4 A) : PhiOk C (Φ1 C.tok) A := znt H.ok H.kx.obj H.f1 rfl (zpw H) A rom
theorem zpR (H : AllC C K Ca fI mc) (A : Around) (rom : Rom 5 A) : PhiOk C (Φ2 C.tok) A := znt H.ok H.kx.obj H.f2 rfl (zpl H) A rom
theorem zpJ (H : AllC C K Ca fI mc) (A : Around) (rom : Rom 5 A) : PsiOk C (Ψ2 C.tok) A := by
  intro k da ds dc d ds' h
  unfold Ψ2 at h
  split at h
  · rename_i hk
    subst hk
    obtain ⟨σ', h1, h2⟩ := (zdV ziU).mp h
    obtain ⟨fd, body, F, hcs⟩ := H.boo
    refine ⟨rfl, by decide, λ {s V fv va vc l vs} hk gl al tk ra rc hl pl r Q E hQ => ?_⟩
    exact zm3 F hk rom.room H.ok H.kx.obj (λ env => (rom.deeper env).rm) (λ env => zpl H _ (rom.deeper env)) (λ _ => zeP) rfl hcs (i0 := 0) (i1 := 1) (i2 := 2) rfl rfl rfl h1 h2 gl al tk ra rc hl pl r hQ
  · cases h
theorem zkI (H : AllC C K Ca fI mc) {A : Around} (rom : Rom 6 A) {V : Addr -> Prop} {s : Shared} {fv v : Value} {xs : List Int} (hk : C.gv "law" = some fv) (hx : xs.length ≤ 63) (gl : Gl C V s.heap) (al : Al V s.heap) (tk : 1 ≤ s.toks) (r : Rep C.gv s.heap V v (.lst (xs.map .int))) :
    Runs (model C.prog C.w) A s (call fv [v]) λ u s' => Rep C.gv s'.heap V u (.bool true) := by
  obtain ⟨σ', h⟩ := zmG (zp7 H.tk) hx
  exact zhO H.ok H.kx.obj H.law (zpR H) (zpJ H) rom hk (ds := [.lst (xs.map .int)]) rfl h gl al tk (.cons r .nil)
end
end Mine
end
section
open PySem PySem.W PyProof.Rows PySem.StrLaws Builtin.Str
set_option maxRecDepth 100000
namespace Mine
noncomputable def dFn : Data -> Option FuncData
  | .func f => some f
  | _ => none
theorem zpu {d : Data} {f : FuncData} (h : dFn d = some f) : d = .func f := by cases d <;> first | exact noE h | exact congrArg _ (Option.some.inj h)
noncomputable def fnAt (K : Frag) (a : Addr) : Option FuncData := (K.lookup a).bind λ o => dFn o.data
theorem zk6 {K : Frag} {a : Addr} {fd : FuncData} (h : fnAt K a = some fd) : ∃ o, K.lookup a = some o /\ o.data = .func fd := bindE h λ o e h => ⟨o, e, zpu h⟩
noncomputable def fnV (K : Frag) (fd : FuncData) := (fd.body, fd.scope, fd.params, fd.globals, fd.builtins, fd.closure, fd.defaults, fd.kwdefaults, codeIn K fd.code fd.qualname)
noncomputable def FnC (K : Frag) (n : String) (a : Addr) : Prop := (fnAt K a).map (fnV K) = some (.stmts (defOf n).2.1, (defOf n).2.2, (defOf n).1, mainGlobals, builtinsNs, [], Value.none, Value.none, true)
noncomputable def adr : List (String × Addr) := [("Whitespace", 83), ("EXACT_TOKEN_TYPES", 88), ("__init__", 38), ("longest_run_of_spaces", 45), ("indent_level", 52), ("equal", 59), ("not_equal_witness", 66), ("ISTERMINAL", 97), ("ISNONTERMINAL", 104), ("_escape_cdata", 118), ("_escape_attrib", 125), ("_escape_attrib_html", 132), ("_escape_cdata_c14n", 139), ("_escape_attrib_c14n", 146), ("_law_depths", 153), ("_law_end", 160), ("_law_swapped", 167), ("_law_reached", 174), ("_law_row", 181), ("_law_page", 186), ("_law_read", 191), ("_law_guy", 196), ("_law_booked", 201), ("_law_second", 206), ("law", 211)]
noncomputable def fnLst : List (String × Addr) := adr.drop 2
noncomputable def gv0 (k : String) : Option Value := if isBi k then some (biVal k) else if k = "range" then some (.type "range") else if k = "enumerate" then some (.type "enumerate") else (adr.lookup k).map .ref
noncomputable def fdW (fd : FuncData) (n : String) : FuncData := { fd with params := (defOf n).1, defaults := .none, kwdefaults := .none }
theorem zoR {fd : FuncData} {n : String} (h1 : fd.params = (defOf n).1) (h2 : fd.defaults = .none) (h3 : fd.kwdefaults = .none) : fd = fdW fd n :=
  congr (congr (congrArg (λ p d k => { fd with params := p, defaults := d, kwdefaults := k }) h1) h2) h3
noncomputable def BindF (n : String) (xs : List Str) : Prop := ∀ (fd : FuncData) (vals : List Value), vals.length = xs.length -> bindArgs (fdW fd n) ⟨vals, []⟩ = pure (xs.zip vals)
theorem len0 {α : Type} {l : List α} (h : l.length = 0) : l = [] := List.length_eq_zero_iff.mp h
theorem lenS {α : Type} {l : List α} {n : Nat} (h : l.length = n + 1) : ∃ a r, l = a :: r /\ r.length = n := List.exists_cons_of_length_eq_add_one h |>.imp λ a ⟨r, e⟩ => ⟨r, e, Nat.succ.inj (by rw [e] at h; exact h)⟩
theorem bind1 {n : String} {x : Str} (h : ∀ fd v, bindArgs (fdW fd n) ⟨[v], []⟩ = pure ([x].zip [v])) : BindF n [x] := λ fd vals hl => by
  obtain ⟨a, r, rfl, h1⟩ := lenS hl
  rw [len0 h1]; exact h fd a
theorem bind2 {n : String} {x y : Str} (h : ∀ fd v u, bindArgs (fdW fd n) ⟨[v, u], []⟩ = pure ([x, y].zip [v, u])) : BindF n [x, y] := λ fd vals hl => by
  obtain ⟨a, r, rfl, h1⟩ := lenS hl
  obtain ⟨b, r, rfl, h2⟩ := lenS h1
  rw [len0 h2]; exact h fd a b
theorem bind3 {n : String} {x y z : Str} (h : ∀ fd v u t, bindArgs (fdW fd n) ⟨[v, u, t], []⟩ = pure ([x, y, z].zip [v, u, t])) : BindF n [x, y, z] := λ fd vals hl => by
  obtain ⟨a, r, rfl, h1⟩ := lenS hl
  obtain ⟨b, r, rfl, h2⟩ := lenS h1
  obtain ⟨c, r, rfl, h3⟩ := lenS h2
  rw [len0 h3]; exact h fd a b c
theorem bind4 {n : String} {x y z q : Str} (h : ∀ fd v u t s, bindArgs (fdW fd n) ⟨[v, u, t, s], []⟩ = pure ([x, y, z, q].zip [v, u, t, s])) : BindF n [x, y, z, q] := λ fd vals hl => by
  obtain ⟨a, r, rfl, h1⟩ := lenS hl
  obtain ⟨b, r, rfl, h2⟩ := lenS h1
  obtain ⟨c, r, rfl, h3⟩ := lenS h2
  obtain ⟨d, r, rfl, h4⟩ := lenS h3
  rw [len0 h4]; exact h fd a b c d
noncomputable def stOk (n : String) (xs nt : List Str) (k : Nat) (a : Addr) : Bool :=
  (decide ((defOf n).2.2.kind = .function) && (!(defOf n).2.2.isGenerator && !(defOf n).2.2.isCoroutine)) &&
  ((decide xs.Nodup && (xs.all (locOk (defOf n).2.2.names) && (defOf n).2.2.names.all λ p => p.2 != .free)) &&
    ((decide (xs.mapM (nmI nt) = some (List.range k)) && decide (xs.length = k)) && (decide ((n, a) ∈ fnLst) && decide (gv0 n = some (.ref a)))))
theorem zoZ {b : Bool} (h : (!b) = true) : b = false := by cases b <;> first | rfl | exact ffE h
theorem zh8 {names : Names} {q : Str × NameKind -> Bool} : names.all q = true -> ∀ {x k}, names.lookup x = some k -> q (x, k) = true := λ h {x k} e => List.all_eq_true.mp h _ (mem_of_lookup e)
theorem zm8 {C : Cx} {K : Frag} {n : String} {a : Addr} {xs nt : List Str} {k : Nat} (X : K.In C.h₀) (lim : C.h₀.NoLimit) (hg : C.gv = gv0) (F : ∀ p ∈ fnLst, FnC K p.1 p.2) (S : stOk n xs nt k a = true) (B : BindF n xs) :
    ∃ fd, FnOk C n fd xs (defOf n).2.1 /\ fd.scope = (defOf n).2.2 /\ xs.mapM (nmI nt) = some (List.range k) /\ xs.length = k :=
  andE S λ S1 S2 => andE S2 λ S2 S4 => andE S1 λ k1 S1 => andE S1 λ k2 k3 => andE S2 λ k9 S6 => andE S6 λ k10 k11 => andE S4 λ S4 S7 => andE S4 λ k12 k13 => andE S7 λ k14 k15 => by
  obtain ⟨fd, h1, h2⟩ := Option.map_eq_some_iff.mp (F _ (of_decide_eq_true k14))
  obtain ⟨o, e1, e2⟩ := zk6 h1
  unfold fnV at h2
  simp only [Prod.mk.injEq] at h2
  obtain ⟨b1, b2, b3, b4, b5, b6, b7, b8, b9⟩ := h2
  have nd := of_decide_eq_true k9
  refine ⟨fd, ⟨⟨a, o, by rw [hg]; exact of_decide_eq_true k15, X _ _ e1, e2⟩, codeRec_of X b9, lim, b1, b4, b5, b6, by rw [b2]; exact of_decide_eq_true k1, by rw [b2]; exact zoZ k2, by rw [b2]; exact zoZ k3,
    λ vals hl => (zoR b3 b7 b8).symm ▸ B fd vals hl,
    nd, λ x hx => by rw [b2]; exact zdu (List.all_eq_true.mp k10 x hx), λ x hx => ?_⟩, b2, of_decide_eq_true k12, of_decide_eq_true k13⟩
  rw [b2] at hx
  have := zh8 k11 hx
  cases this
theorem znd : stOk "__init__" ["self", "ws"] zgV 2 38 = true := by kernel_rfl
theorem zmU : BindF "__init__" ["self", "ws"] := bind2 λ _ _ _ => by kernel_rfl
theorem zbr : stOk "longest_run_of_spaces" ["self"] zaQ 1 45 = true := by kernel_rfl
theorem zbA : BindF "longest_run_of_spaces" ["self"] := bind1 λ _ _ => by kernel_rfl
theorem zd5 : stOk "indent_level" ["self", "tabsize"] zb0 2 52 = true := by kernel_rfl
theorem zdz : BindF "indent_level" ["self", "tabsize"] := bind2 λ _ _ _ => by kernel_rfl
theorem zk9 : stOk "equal" ["self", "other"] zho 2 59 = true := by kernel_rfl
theorem zkY : BindF "equal" ["self", "other"] := bind2 λ _ _ _ => by kernel_rfl
theorem zch : stOk "not_equal_witness" ["self", "other"] za6 2 66 = true := by kernel_rfl
theorem zcd : BindF "not_equal_witness" ["self", "other"] := bind2 λ _ _ _ => by kernel_rfl
theorem ze9 : stOk "ISTERMINAL" ["x"] zcZ 1 97 = true := by kernel_rfl
theorem zfb : BindF "ISTERMINAL" ["x"] := bind1 λ _ _ => by kernel_rfl
theorem zdk : stOk "ISNONTERMINAL" ["x"] zbQ 1 104 = true := by kernel_rfl
theorem zdh : BindF "ISNONTERMINAL" ["x"] := bind1 λ _ _ => by kernel_rfl
theorem zdx : stOk "_escape_cdata" ["text"] zbX 1 118 = true := by kernel_rfl
theorem zd3 : BindF "_escape_cdata" ["text"] := bind1 λ _ _ => by kernel_rfl
theorem zdg : stOk "_escape_attrib" ["text"] zbR 1 125 = true := by kernel_rfl
theorem zdm : BindF "_escape_attrib" ["text"] := bind1 λ _ _ => by kernel_rfl
theorem zb2 : stOk "_escape_attrib_html" ["text"] za3 1 132 = true := by kernel_rfl
theorem zbS : BindF "_escape_attrib_html" ["text"] := bind1 λ _ _ => by kernel_rfl
theorem zcf : stOk "_escape_cdata_c14n" ["text"] za7 1 139 = true := by kernel_rfl
theorem zcb : BindF "_escape_cdata_c14n" ["text"] := bind1 λ _ _ => by kernel_rfl
theorem zbU : stOk "_escape_attrib_c14n" ["text"] za1 1 146 = true := by kernel_rfl
theorem zb1 : BindF "_escape_attrib_c14n" ["text"] := bind1 λ _ _ => by kernel_rfl
theorem zeO : stOk "_law_depths" ["cell"] zcD 1 153 = true := by kernel_rfl
theorem ze0 : BindF "_law_depths" ["cell"] := bind1 λ _ _ => by kernel_rfl
theorem zh3 : stOk "_law_end" ["lines", "a"] zet 2 160 = true := by kernel_rfl
theorem zh2 : BindF "_law_end" ["lines", "a"] := bind2 λ _ _ _ => by kernel_rfl
theorem zed : stOk "_law_swapped" ["lines"] zcq 1 167 = true := by kernel_rfl
theorem zee : BindF "_law_swapped" ["lines"] := bind1 λ _ _ => by kernel_rfl
theorem zei : stOk "_law_reached" ["lines"] zcj 1 174 = true := by kernel_rfl
theorem zeh : BindF "_law_reached" ["lines"] := bind1 λ _ _ => by kernel_rfl
theorem zh6 : stOk "_law_row" ["lines", "names"] zew 2 181 = true := by kernel_rfl
theorem zif : BindF "_law_row" ["lines", "names"] := bind2 λ _ _ _ => by kernel_rfl
theorem zgm : stOk "_law_page" ["text", "kind"] zdG 2 186 = true := by kernel_rfl
theorem zgO : BindF "_law_page" ["text", "kind"] := bind2 λ _ _ _ => by kernel_rfl
theorem zgE : stOk "_law_read" ["page", "numbers"] zdF 2 191 = true := by kernel_rfl
theorem zgI : BindF "_law_read" ["page", "numbers"] := bind2 λ _ _ _ => by kernel_rfl
theorem zig : stOk "_law_guy" ["runs", "behind"] zeA 2 196 = true := by kernel_rfl
theorem zid : BindF "_law_guy" ["runs", "behind"] := bind2 λ _ _ _ => by kernel_rfl
theorem zeX : stOk "_law_booked" ["lines", "book", "behind"] zbL 3 201 = true := by kernel_rfl
theorem zeZ : BindF "_law_booked" ["lines", "book", "behind"] := bind3 λ _ _ _ _ => by kernel_rfl
theorem zeV : stOk "_law_second" ["lines", "draw", "odd", "kind"] zcR 4 206 = true := by kernel_rfl
theorem ze5 : BindF "_law_second" ["lines", "draw", "odd", "kind"] := bind4 λ _ _ _ _ _ => by kernel_rfl
theorem zo0 : stOk "law" ["script"] zlZ 1 211 = true := by kernel_rfl
theorem zpc : BindF "law" ["script"] := bind1 λ _ _ => by kernel_rfl
noncomputable def tokN : List (List Nat × Nat) := [([33], 54), ([33, 61], 28), ([37], 24), ([37, 61], 40), ([38], 19), ([38, 61], 41), ([40], 7), ([41], 8), ([42], 16), ([42, 42], 35), ([42, 42, 61], 46), ([42, 61], 38), ([43], 14), ([43, 61], 36), ([44], 12), ([45], 15), ([45, 61], 37), ([45, 62], 51), ([46], 23), ([46, 46, 46], 52), ([47], 17), ([47, 47], 47), ([47, 47, 61], 48), ([47, 61], 39), ([58], 11), ([58, 61], 53), ([59], 13), ([60], 20), ([60, 60], 33), ([60, 60, 61], 44), ([60, 61], 29), ([61], 22), ([61, 61], 27), ([62], 21), ([62, 61], 30), ([62, 62], 34), ([62, 62, 61], 45), ([64], 49), ([64, 61], 50), ([91], 9), ([93], 10), ([94], 32), ([94, 61], 43), ([123], 25), ([124], 18), ([124, 61], 42), ([125], 26), ([126], 31)]
noncomputable def tokL : List (Str × Int) := tokN.map λ p => (mk p.1, (p.2 : Int))
noncomputable def tok0 (x : Str) : Option Int := tokL.lookup x
theorem zeH (y : List Nat) : tok0 (mk y) = (tokN.lookup y).map λ (i : Nat) => (i : Int) := by
  unfold tok0 tokL
  generalize tokN = l
  induction l with
  | nil => rfl
  | cons p l ih =>
    rw [List.map_cons, List.lookup_cons, List.lookup_cons]
    by_cases h : y = p.1
    · subst h; simp
    · have h1 : (mk y == mk p.1) = false := beq_eq_false_iff_ne.mpr λ e => h (zlY e)
      have h2 : (y == p.1) = false := beq_eq_false_iff_ne.mpr h
      rw [h1, h2]; exact ih
theorem zl0 : ∀ j, j < 41 -> tokN.lookup (sg j) = some (14 + j) /\ 1 ≤ (sg j).length /\ (sg j).length ≤ 3 := by decide +kernel
theorem zmv (y : List Nat) (hy : 2 ≤ y.length) (h : 40 ∈ y ∨ 41 ∈ y ∨ 44 ∈ y) : tokN.lookup y = none := by
  have key : ∀ p ∈ tokN, 2 ≤ p.1.length -> ¬ (40 ∈ p.1 ∨ 41 ∈ p.1 ∨ 44 ∈ p.1) := by decide +kernel
  cases e : tokN.lookup y with
  | none => rfl
  | some i =>
    have hm : (y, i) ∈ tokN := by
      generalize tokN = l at e
      induction l with
      | nil => cases e
      | cons p l ih =>
        rw [List.lookup_cons] at e
        by_cases h : y = p.1
        · have h2 : (y == p.1) = true := by rw [h]; exact beq_self_eq_true _
          rw [h2] at e
          cases e
          rw [h]; exact .head _
        · have h2 : (y == p.1) = false := beq_eq_false_iff_ne.mpr h
          rw [h2] at e
          exact .tail _ (ih e)
    exact absurd h (key _ hm hy)
theorem zpI : TkOk tok0 := ⟨λ j0 j1 h0 h1 hne => by
  obtain ⟨a1, a2, a3⟩ := zl0 j0 h0
  obtain ⟨b1, b2, b3⟩ := zl0 j1 h1
  refine ⟨by rw [zeH]; decide +kernel, by rw [zeH]; decide +kernel, by rw [zeH]; decide +kernel, by rw [zeH, a1]; rfl, by rw [zeH, b1]; rfl, λ y hy h => by rw [zeH, zmv y hy h]; rfl, ⟨a2, a3⟩, ⟨b2, b3⟩, ⟨by lia, by lia⟩, ⟨by lia, by lia⟩, by lia⟩⟩
noncomputable def vS : Value -> Option Str
  | .str s _ => some s
  | _ => none
noncomputable def vI : Value -> Option Int
  | .int s _ => some s
  | _ => none
theorem zov {v : Value} {s : Str} (h : vS v = some s) : ∃ t, v = .str s t := by cases v <;> first | exact noE h | exact ⟨_, congrArg (λ s => Value.str s _) (Option.some.inj h)⟩
theorem zot {v : Value} {s : Int} (h : vI v = some s) : ∃ t, v = .int s t := by cases v <;> first | exact noE h | exact ⟨_, congrArg (λ s => Value.int s _) (Option.some.inj h)⟩
noncomputable def rowV (e : DictEntry) : Option (Str × Int) := (vS e.key).bind λ k => (vI e.val).map λ i => (k, i)
theorem zjI {e : DictEntry} {k : Str} {i : Int} {P : Prop} (h : rowV e = some (k, i)) (f : ∀ t u, e.key = .str k t -> e.val = .int i u -> P) : P :=
  bindE h λ a ha h => mapE h λ b hb h => (zov ha).elim λ t ht => (zot hb).elim λ u hu => f t u ((Prod.mk.inj h).1 ▸ ht) ((Prod.mk.inj h).2 ▸ hu)
theorem consE {α : Type} {x : α} {l : List α} {P : Prop} (h : x :: l = []) : P := by cases h
theorem zfV : ∀ {es : List DictEntry} {l : List (Str × Int)}, es.map rowV = l.map some -> ∀ x : Str, match l.lookup x with
    | some i => ∃ t, (es.find? λ e => Value.isStrOf x e.key).map (·.val) = some (.int i t)
    | none => (es.find? λ e => Value.isStrOf x e.key).map (·.val) = none
  | [], [], _, x => rfl
  | [], _ :: _, h, x => consE h.symm
  | _ :: _, [], h, x => consE h
  | e :: es, (k, i) :: l, h, x => by
    obtain ⟨he, ht⟩ := List.cons.inj h
    have ih := zfV ht x
    refine zjI he λ t u e1 e2 => ?_
    have hs : Value.isStrOf x e.key = (x == k) := by rw [e1]; first | rfl | exact Bool.beq_comm ..
    rw [List.lookup_cons, List.find?_cons, hs]
    cases hx : x == k with
    | true => exact ⟨u, by rw [Option.map_some, e2]⟩
    | false => exact ih
theorem zg4 {P : Params} : ∀ {es : List DictEntry} {l : List (Str × Int)}, es.map rowV = l.map some -> (es.map λ e => e.hash) = (l.map λ p => PyData.keyHash P p.1) -> KeysLit P es
  | [], _, _, _ => trivial
  | e :: es, [], h, _ => consE h
  | e :: es, (k, i) :: l, h, g => zjI (List.cons.inj h).1 λ t _ e1 _ => ⟨⟨k, t, e1, (List.cons.inj g).1⟩, zg4 (List.cons.inj h).2 (List.cons.inj g).2⟩
noncomputable def dDict : Data -> Option (Array DictEntry × Nat)
  | .dict es n => some (es, n)
  | _ => none
theorem zkz {d : Data} {q : Array DictEntry × Nat} (h : dDict d = some q) : d = .dict q.1 q.2 := by cases d <;> first | exact noE h | (rw [<- Option.some.inj h])
noncomputable def tabAt (K : Frag) (a : Addr) : Option (Array DictEntry × Nat) := (K.lookup a).bind λ o => if (o.cls = .type "dict" /\ o.dict = none) /\ o.slots.size = 0 then dDict o.data else none
theorem zkn {K : Frag} {a : Addr} {es : Array DictEntry} {n : Nat} (h : tabAt K a = some (es, n)) : K.lookup a = some ⟨.type "dict", none, .dict es n, #[]⟩ :=
  bindE h λ o e h => iteE h (λ c h => e.trans (congrArg some (congr (congr (congr (congrArg Obj.mk c.1.1) c.1.2) (zkz h)) (Array.eq_empty_of_size_eq_zero c.2)))) λ _ h => noE h
noncomputable def intV (o : Option (Option Value)) : Option Int := o.bind λ v => v.bind vI
theorem zkK {o : Option (Option Value)} {i : Int} (h : intV o = some i) : ∃ t, o = some (some (.int i t)) := bindE h λ v e h => bindE h λ u e' h => (zot h).imp λ t ht => by rw [e, e', ht]
noncomputable def cfV : CFound -> Option Value
  | .val v => some v
  | _ => none
theorem zoT {c : CFound} {v : Value} (h : cfV c = some v) : c = .val v := by cases c <;> first | exact noE h | exact congrArg _ (Option.some.inj h)
noncomputable def sgnV (o : Option CFound) : Option Str := o.bind λ c => (cfV c).bind vS
theorem zha {o : Option CFound} {x : Str} (h : sgnV o = some x) : ∃ t, o = some (.val (.str x t)) := bindE h λ c e h => bindE h λ v e' h => (zov h).imp λ t ht => by rw [e, zoT e', ht]
noncomputable def biN : List String := ["len", "max", "min", "sum", "sorted", "divmod", "tuple", "range", "enumerate"]
noncomputable def usN : List String := ["Whitespace", "_law_depths", "_law_end", "_law_swapped", "_law_reached", "_law_row", "_law_page", "_law_read", "_law_guy", "_law_booked", "_law_second", "_escape_cdata", "_escape_attrib", "_escape_attrib_html", "_escape_cdata_c14n", "_escape_attrib_c14n", "ISTERMINAL", "ISNONTERMINAL", "EXACT_TOKEN_TYPES"]
noncomputable def inN : List (String × Int) := [("LPAR", 7), ("RPAR", 8), ("COMMA", 12), ("NT_OFFSET", 256)]
structure KF (P : Params) (K : Frag) : Prop where
  fn : ∀ p ∈ fnLst, FnC K p.1 p.2
  tab : ((tabAt K 88).map λ q => (q.1.toList.map rowV, q.1.toList.map λ e => e.hash)) = some (tokL.map some, tokL.map λ p => PyData.keyHash P p.1)
  us : (usN.map λ k => nsIn K mainGlobals (Str.ofString k)) = usN.map λ k => some (gv0 k)
  bu : (biN.map λ k => nsIn K mainGlobals (Str.ofString k)) = biN.map λ _ => some none
  itn : (inN.map λ p => intV (nsIn K mainGlobals (Str.ofString p.1))) = inN.map λ p => some p.2
  lw : nsIn K mainGlobals "law" = some (some (.ref 211))
  mak : makesIn K 83 = true
  ini : findIn K (.ref 83) "__init__" = some (some (.ref 38))
  inif : typeIn K (.ref 38) = some (.type "function")
  sa : findIn K (.ref 83) "__setattr__" = some (some (.builtin "object.__setattr__"))
  po : plainOver K 83 = true
  hd : hasDictIn K 83 = true
  tk : (wsF.map λ n => takerIn K 83 n) = wsF.map λ _ => some none
  ga : findIn K (.ref 83) "__getattribute__" = some (some (.builtin "object.__getattribute__"))
  gk : findIn K (.ref 83) "__getattr__" = some none
  fa : (wsF.map λ n => findIn K (.ref 83) n) = wsF.map λ _ => some none
  keep : (adr.all λ p => p.1 == "EXACT_TOKEN_TYPES" || keepIn K (.ref p.2)) = true
  m1 : findIn K (.ref 83) "longest_run_of_spaces" = some (some (.ref 45)) /\ typeIn K (.ref 45) = some (.type "function")
  m2 : findIn K (.ref 83) "indent_level" = some (some (.ref 52)) /\ typeIn K (.ref 52) = some (.type "function")
  m3 : findIn K (.ref 83) "equal" = some (some (.ref 59)) /\ typeIn K (.ref 59) = some (.type "function")
  m4 : findIn K (.ref 83) "not_equal_witness" = some (some (.ref 66)) /\ typeIn K (.ref 66) = some (.type "function")
  rd : readsIn K 83 (.type "type") = true
  S : sgnV (findCls K (.ref 83) (.type "type") "S") = some " "
  T : sgnV (findCls K (.ref 83) (.type "type") "T") = some "\t"
noncomputable def cx0 (prog : Program) (w : World) (h : Heap) (mg mb : Str -> Option Value) : Cx := { prog := prog, w := w, h₀ := h, gv := gv0, γ := γ0, tok := tok0, mg := mg, mb := mb }
theorem zcV {α β : Type} [BEq α] [LawfulBEq α] {x : α} {b : β} : ∀ {l : List (α × β)}, l.lookup x = some b -> (x, b) ∈ l
  | [], h => by cases h
  | (y, c) :: l, h => by
    rw [List.lookup_cons] at h
    cases e : x == y with
    | true => rw [e] at h; cases h; rw [eq_of_beq e]; exact .head _
    | false => rw [e] at h; exact .tail _ (zcV h)
theorem zda {α β : Type} {f g : α -> β} : ∀ {l : List α}, l.map f = l.map g -> ∀ x ∈ l, f x = g x
  | [], _, x, h => by cases h
  | y :: l, e, x, h => by
    rw [List.map_cons, List.map_cons, List.cons.injEq] at e
    rcases List.mem_cons.mp h with rfl | h
    · exact e.1
    · exact zda e.2 x h
theorem znu : ∀ k ∈ biN, bootBuiltins (Str.ofString k) = gv0 k /\ (gv0 k).isSome = true /\ Str.ofString k ≠ "__name__" := by
  intro k hk
  simp only [biN, List.mem_cons, List.not_mem_nil, or_false] at hk
  rcases hk with rfl | rfl | rfl | rfl | rfl | rfl | rfl | rfl | rfl <;> exact ⟨by kernel_rfl, rfl, by decide +kernel⟩
theorem znn : ∀ k ∈ usN, (gv0 k).isSome = true := by decide +kernel
theorem zlg {x : Str} {d : D} (h : γ0 x = some d) : (∃ k ∈ biN, x = Str.ofString k /\ d = .fn k) ∨ (∃ k ∈ usN, x = Str.ofString k /\ d = .fn k) ∨ (∃ p ∈ inN, x = Str.ofString p.1 /\ d = .int p.2) := by
  have hm := zcV h
  unfold γL at hm
  rcases List.mem_append.mp hm with hm | hm
  · obtain ⟨k, hk, e⟩ := List.mem_map.mp hm
    cases e
    have : ∀ k ∈ fnN, k ∈ biN ∨ k ∈ usN := by decide +kernel
    rcases this k hk with h | h
    · exact .inl ⟨k, h, rfl, rfl⟩
    · exact .inr (.inl ⟨k, h, rfl, rfl⟩)
  · have e : ([("LPAR", D.int 7), ("RPAR", D.int 8), ("COMMA", D.int 12), ("NT_OFFSET", D.int 256)] : List (Str × D)) = inN.map λ p => (Str.ofString p.1, D.int p.2) := rfl
    rw [e] at hm
    obtain ⟨p, hp, e⟩ := List.mem_map.mp hm
    cases e
    exact .inr (.inr ⟨p, hp, rfl, rfl⟩)
theorem zjj {k : String} {fv : Value} (h : gv0 k = some fv) (hb : isBi k = false) : (∃ T, fv = .type T) ∨ ∃ a, (k, a) ∈ adr /\ fv = .ref a := by
  unfold gv0 at h
  rw [hb] at h
  split at h
  · rename_i e; cases e
  · split at h
    · cases h; exact .inl ⟨_, rfl⟩
    · split at h
      · cases h; exact .inl ⟨_, rfl⟩
      · obtain ⟨a, e, rfl⟩ := Option.map_eq_some_iff.mp h
        exact .inr ⟨a, zcV e, rfl⟩
theorem zmW {k : String} (h : isBi k = true) : k ∈ (["len", "max", "min", "sum", "sorted", "divmod", "tuple"] : List String) := List.contains_iff_mem.mp h
section
variable {prog : Program} {w : World} {h : Heap} {mg mb : Str -> Option Value} {K : Frag}
theorem zpy (X : K.In h) (F : KF w.params K) (g : h.Ns mainGlobals mg) (b : h.Ns builtinsNs mb) (hb : ∀ x : Str, x ≠ "__name__" -> mb x = bootBuiltins x) : (cx0 prog w h mg mb).Ok where
  g := g
  b := b
  tab := by
    obtain ⟨⟨es, n⟩, e1, ee⟩ := Option.map_eq_some_iff.mp F.tab
    have e2 := congrArg Prod.fst ee
    have e3 := congrArg Prod.snd ee
    dsimp only at e2 e3
    refine ⟨88, λ k => findBy Value.isStrOf es k, rfl, by decide, mapOf_K (prog := prog) X (zkn e1) (zg4 e2 e3), λ x => ?_⟩
    have := zfV e2 x
    have eq : (es.toList.find? λ e => Value.isStrOf x e.key).map (·.val) = findBy Value.isStrOf es x := by
      unfold findBy
      rw [<- Array.find?_toList]
      try rfl
    rw [eq] at this
    exact this
  γok := λ x d hx => by
    rcases zlg hx with ⟨k, hk, rfl, rfl⟩ | ⟨k, hk, rfl, rfl⟩ | ⟨p, hp, rfl, rfl⟩
    · obtain ⟨b1, b2, b3⟩ := znu k hk
      obtain ⟨v, hv⟩ := Option.isSome_iff_exists.mp b2
      exact ⟨v, .inr ⟨ns_none_of X g (zda F.bu k hk), by show mb _ = _; rw [hb _ b3, b1, hv]⟩, λ _ _ => .fn hv⟩
    · obtain ⟨v, hv⟩ := Option.isSome_iff_exists.mp (znn k hk)
      refine ⟨v, .inl (mg_of X g ?_), λ _ _ => .fn hv⟩
      rw [zda F.us k hk, hv]
    · obtain ⟨t, ht⟩ := zkK (zda F.itn p hp)
      exact ⟨.int p.2 t, .inl (mg_of X g ht), λ _ _ => .int _ _⟩
theorem zoS (X : K.In h) (F : KF w.params K) : KFx (cx0 prog w h mg mb) K 83 38 (.type "type") where
  w := ⟨X, rfl, F.mak, F.ini, F.inif, F.sa, F.po, F.hd, zda F.tk, F.ga, F.gk, zda F.fa⟩
  bi := λ k hk => by show gv0 k = _; unfold gv0; rw [if_pos hk]
  rng := rfl
  enm := rfl
  keep := λ k fv hk hb hne => by
    rcases zjj hk hb with ⟨T, e⟩ | ⟨a, hm, rfl⟩
    · exact .inr ⟨T, e⟩
    · have := List.all_eq_true.mp F.keep _ hm
      rw [Bool.or_eq_true, beq_iff_eq] at this
      rcases this with h | h
      · exact absurd h hne
      · exact .inl h
  hand := λ k v hk => by
    cases hb : isBi k with
    | true =>
      have hk' : gv0 k = some v := hk
      unfold gv0 at hk'
      rw [if_pos hb] at hk'
      have := zmW hb
      simp only [List.mem_cons, List.not_mem_nil, or_false] at this
      rcases this with rfl | rfl | rfl | rfl | rfl | rfl | rfl <;> (cases hk'; decide +kernel)
    | false =>
      rcases zjj hk hb with ⟨T, rfl⟩ | ⟨a, hm, rfl⟩ <;> rfl
  gm := λ m hm => by
    have := List.contains_iff_mem.mp hm
    simp only [List.mem_cons, List.not_mem_nil, or_false] at this
    rcases this with rfl | rfl | rfl | rfl
    · exact ⟨59, rfl, F.m3.1, F.m3.2, by decide +kernel⟩
    · exact ⟨66, rfl, F.m4.1, F.m4.2, by decide +kernel⟩
    · exact ⟨52, rfl, F.m2.1, F.m2.2, by decide +kernel⟩
    · exact ⟨45, rfl, F.m1.1, F.m1.2, by decide +kernel⟩
  rd := F.rd
  S := zha F.S
  T := zha F.T
theorem fnx {n : String} {a : Addr} {xs : List Str} {nt : List Str} {xb : List X} {k : Nat} (X : K.In h) (lim : h.NoLimit) (F : ∀ p ∈ fnLst, FnC K p.1 p.2) (S : stOk n xs nt k a = true) (B : BindF n xs)
    (hc : (bSs xb (defOf n).2.1, kSs γ0 nt (defOf n).2.2.names xb (defOf n).2.1) = ((defOf n).2.1, true)) : FnX (cx0 prog w h mg mb) n (k, xb) := by
  obtain ⟨fd, O, e, hx, hl⟩ := zm8 (C := cx0 prog w h mg mb) X lim rfl F S B
  exact ⟨fd, xs, (defOf n).2.1, nt, O, by rw [e]; exact hc, hx, hl⟩
noncomputable def AllF {β : Type} (P : String -> β -> Prop) : List (String × β) -> Prop
  | [] => True
  | q :: l => P q.1 q.2 /\ AllF P l
theorem zfl {β : Type} {P : String -> β -> Prop} : ∀ {l : List (String × β)}, AllF P l -> ∀ k q, l.lookup k = some q -> P k q
  | [], _, _, _, h => noE h
  | (x, y) :: l, p, k, q, h => by
    rw [List.lookup_cons] at h
    cases e : k == x with
    | true => rw [e] at h; rw [eq_of_beq e]; exact Option.some.inj h ▸ p.1
    | false => rw [e] at h; exact zfl p.2 k q h
theorem zph (X : K.In h) (F : KF w.params K) (g : h.Ns mainGlobals mg) (b : h.Ns builtinsNs mb) (hb : ∀ x : Str, x ≠ "__name__" -> mb x = bootBuiltins x) (lim : h.NoLimit) : AllC (cx0 prog w h mg mb) K 83 38 (.type "type") where
  ok := zpy X F g b hb
  kx := zoS X F
  gi := rfl
  f0 := zfl (l := T0) ⟨fnx X lim F.fn zeO ze0 zf9, fnx X lim F.fn zh3 zh2 zjZ, fnx X lim F.fn zh6 zif ziZ, fnx X lim F.fn zgm zgO ziq, fnx X lim F.fn zdx zd3 zeb, fnx X lim F.fn zcf zcb zcv, fnx X lim F.fn zdg zdm zdZ, fnx X lim F.fn zb2 zbS zcc, fnx X lim F.fn zbU zb1 zce, fnx X lim F.fn ze9 zfb zgi, fnx X lim F.fn zdk zdh zd2, fnx X lim F.fn zbr zbA zbE, fnx X lim F.fn zd5 zdz zd9, fnx X lim F.fn zk9 zkY zmK, trivial⟩
  f1 := zfl (l := T1) ⟨fnx X lim F.fn zed zee zeQ, fnx X lim F.fn zgE zgI zh5, fnx X lim F.fn zig zid zjl, fnx X lim F.fn zch zcd zcu, trivial⟩
  f2 := zfl (l := T2) ⟨fnx X lim F.fn zei zeh zfw, fnx X lim F.fn zeV ze5 zfG, trivial⟩
  law := fnx X lim F.fn zo0 zpc zpZ
  ini := by
    obtain ⟨fd, O, e, _⟩ := zm8 (C := cx0 prog w h mg mb) X lim rfl F.fn znd zmU
    exact ⟨fd, O, by rw [e]; exact ic0⟩
  boo := by
    obtain ⟨fd, O, e, _⟩ := zm8 (C := cx0 prog w h mg mb) X lim rfl F.fn zeX zeZ
    exact ⟨fd, _, O, by rw [e]; exact zfM⟩
  tk := zpI
end
theorem zgA : Rom 6 callerA := ⟨rfl, by decide, by decide⟩
theorem zlu {prog : Program} {w : World} {p : Program} {loose : List Str} {mean : ExcName -> Option Value} {s : Shared} {mg mb : Str -> Option Value} {K : Frag} {fa l : Addr} {vs : List Value} {ns : List Int} (X : K.In s.heap) (F : KF w.params K) (T : Top p loose mean mg mb s.heap)
    (hmg : mg "law" = some (.ref fa)) (hL : s.heap.get? l = some { cls := .type "list", data := .seq vs.toArray }) (hI : IntsAre vs ns) (hn : ns.length ≤ 63) (tk : 1 ≤ s.toks) : Runs (model prog w) callerA s (call (.ref fa) [.ref l]) λ u s' => u = .bool true := by
  have e := mg_of X T.g F.lw
  rw [hmg] at e
  cases e
  have H := zph (prog := prog) X F T.g T.b T.builtins T.nolimit
  have r : Rep gv0 s.heap (λ _ => False) (.ref l) (.lst (ns.map .int)) := .lst (λ h => h) hL rfl rfl rfl (zd4 hI)
  have := zkI H zgA (V := λ _ => False) (s := s) (fv := .ref 211) (v := .ref l) (xs := ns) rfl hn (λ a o e => ⟨e, λ h => h⟩) (λ a h => h.elim) tk r
  exact this.mono λ v s' _ q => by cases q; rfl
theorem zlf {w : World} {p : Program} {loose : List Str} {mean mean' : ExcName -> Option Value} {cl : Str -> Option Addr} {s : Shared} {mg mb : Str -> Option Value} {K : Frag} {fa l : Addr} {vs : List Value} {ns : List Int} (X : K.In s.heap) (F : KF w.params K) (T : Top p loose mean mg mb s.heap)
    (hmg : mg "law" = some (.ref fa)) (hL : s.heap.get? l = some { cls := .type "list", data := .seq vs.toArray }) (hI : IntsAre vs ns) (hn : ¬ ((63 : Nat) : Int) < (ns.length : Int)) (tk : 1 ≤ s.toks) (hg : s.gens = #[]) {args : List WData} :
    wpAny (model PySem.Challenge.rw_ta0085_01.row.prog w) callerA (call (.ref fa) [.ref l]) (λ v s' => GoodWG PySem.Challenge.rw_ta0085_01.row.claim cl mean' args s (.ok (.ret v)) s') (λ e s' => GoodWG PySem.Challenge.rw_ta0085_01.row.claim cl mean' args s (.error e) s') s := by
  refine zlu X F T hmg hL hI (by lia) tk _ _ λ v s' k hv => ?_
  subst hv
  obtain ⟨⟨h', t', rfl, keep⟩, _⟩ := k
  refine ⟨.inl ⟨.bool true, .bool true, [], rfl, λ _ => rfl, .bool _, ?_, λ _ => ⟨.nil, λ a h => by cases h⟩⟩, ?_, rfl, AllBare.of_eq hg⟩
  · kernel_rfl
  · exact .of_keep keep
end Mine
end
section
open PySem PySem.W PyProof.Rows PySem.StrLaws Builtin.Str
set_option maxRecDepth 100000
set_option Elab.async false
namespace Mine
abbrev p0 : Program := PySem.Challenge.pw_ta0085_01
noncomputable def dE (P : Params) (l : List (String × Nat × Value)) (n : Nat) : Data := .dict (l.map λ q => ⟨PyData.keyHash P (Str.ofString q.1), .str (Str.ofString q.1) q.2.1, q.2.2⟩).toArray n
noncomputable def fnD (n q : String) (g : Addr) (m c : Value) : Data :=
  .func { name := Str.ofString n, qualname := Str.ofString q, params := (defOf n).1, body := .stmts (defOf n).2.1, scope := (defOf n).2.2, globals := g, closure := [], defaults := .none, kwdefaults := .none, pyModule := m, code := c }
noncomputable def numV : List String -> Nat -> List Value
  | [], _ => []
  | x :: r, t => .str (Str.ofString x) t :: numV r (t + 1)
noncomputable def tupO (l : List Value) : Obj := ⟨.type "tuple", none, .seq l.toArray 0, #[]⟩
noncomputable def fnO (a : Addr) (n q : String) (t : Nat) (ln ac : Int) (vs : List String) (m : Value) : List Obj :=
  [tupO [], ⟨.none, none, .fields #[], #[]⟩, tupO (numV vs (t + 3)), tupO [], ⟨.none, none, fnD n q 0 .none .none, #[]⟩,
    ⟨.type "code", none, .fields #[.str (Str.ofString n) t, .str (Str.ofString q) (t + 1), .str "/claim/cut.py" (t + 2), .int ln 0, .int ac 0, .int 0 0, .int 0 0, .int 3 0, .ref a, .bool true, .int 181 0, .ref (a + 1), .none, .ref (a + 2), .ref (a + 3), .ref (a + 4), .int (t + 3 + vs.length : Nat) 0, .int ln 0, .str "/claim/cut.py" (t + 4 + vs.length)], #[]⟩,
    ⟨.type "function", none, fnD n q 3 m (.ref (a + 5)), #[]⟩]
noncomputable def gI0 : List (String × Nat × Value) := [("LPAR", 300, (.int 7 299)), ("RPAR", 302, (.int 8 301)), ("LSQB", 304, (.int 9 303)), ("RSQB", 306, (.int 10 305)), ("COLON", 308, (.int 11 307)), ("COMMA", 310, (.int 12 309)), ("SEMI", 312, (.int 13 311)), ("PLUS", 314, (.int 14 313)), ("MINUS", 316, (.int 15 315)), ("STAR", 318, (.int 16 317)), ("SLASH", 320, (.int 17 319)), ("VBAR", 322, (.int 18 321)), ("AMPER", 324, (.int 19 323)), ("LESS", 326, (.int 20 325)), ("GREATER", 328, (.int 21 327)), ("EQUAL", 330, (.int 22 329)), ("DOT", 332, (.int 23 331)), ("PERCENT", 334, (.int 24 333)), ("LBRACE", 336, (.int 25 335)), ("RBRACE", 338, (.int 26 337)), ("EQEQUAL", 340, (.int 27 339)), ("NOTEQUAL", 342, (.int 28 341)), ("LESSEQUAL", 344, (.int 29 343)), ("GREATEREQUAL", 346, (.int 30 345)), ("TILDE", 348, (.int 31 347)), ("CIRCUMFLEX", 350, (.int 32 349)), ("LEFTSHIFT", 352, (.int 33 351)), ("RIGHTSHIFT", 354, (.int 34 353)), ("DOUBLESTAR", 356, (.int 35 355)), ("PLUSEQUAL", 358, (.int 36 357)), ("MINEQUAL", 360, (.int 37 359)), ("STAREQUAL", 362, (.int 38 361)), ("SLASHEQUAL", 364, (.int 39 363)), ("PERCENTEQUAL", 366, (.int 40 365)), ("AMPEREQUAL", 368, (.int 41 367)), ("VBAREQUAL", 370, (.int 42 369)), ("CIRCUMFLEXEQUAL", 372, (.int 43 371)), ("LEFTSHIFTEQUAL", 374, (.int 44 373)), ("RIGHTSHIFTEQUAL", 376, (.int 45 375)), ("DOUBLESTAREQUAL", 378, (.int 46 377)), ("DOUBLESLASH", 380, (.int 47 379)), ("DOUBLESLASHEQUAL", 382, (.int 48 381)), ("AT", 384, (.int 49 383)), ("ATEQUAL", 386, (.int 50 385)), ("RARROW", 388, (.int 51 387)), ("ELLIPSIS", 390, (.int 52 389)), ("COLONEQUAL", 392, (.int 53 391)), ("EXCLAMATION", 394, (.int 54 393)), ("NT_OFFSET", 396, (.int 256 395))]
noncomputable def gNs (nm : Value) (l : List (String × Nat × Value)) : List (String × Nat × Value) := [("__name__", 165, nm), ("__doc__", 166, .none), ("__package__", 167, .none), ("__loader__", 168, (.builtin "__main__.__loader__#opaque")), ("__spec__", 169, .none), ("__annotations__", 170, (.ref 6)), ("__builtins__", 171, (.ref 4)), ("__file__", 173, (.str "/claim/cut.py" 172)), ("__cached__", 174, .none), ("_wall", 193, (.ref 21)), ("Whitespace", 296, (.ref 83))] ++ l
noncomputable def objX (P : Params) (g : List (String × Nat × Value)) (n : Nat) : List Obj :=
  [boot_o_0 P,
  boot_o_1 P,
  boot_o_2 P,
  ⟨(.type "dict"), none, dE P g n, #[]⟩,
  boot_o_4 P,
  boot_o_5 P,
  boot_o_6 P,
  boot_o_7 P,
  boot_o_8 P,
  boot_o_9 P,
  boot_o_10 P,
  ⟨(.type "tuple"), none, (.seq #[] 0), #[]⟩,
  ⟨.none, none, (.fields #[(.int 1 0), (.int 0 0), (.ref 20), (.int 5 0), (.int 0 0), (.ref 27)]), #[]⟩,
  ⟨(.type "code"), none, (.fields #[(.str "<module>" 182), (.str "<module>" 183), (.str "/claim/cut.py" 184), (.int 1 0), (.int 0 0), (.int 0 0), (.int 0 0), (.int 0 0), (.ref 11), (.bool false), (.int 181 0), (.ref 12), .none, .none, .none, .none, (.int 185 0), (.int 1 0), (.str "/claim/cut.py" 186)]), #[]⟩,
  ⟨(.type "frame"), none, .plain, #[some (.ref 13), some (.ref 3), some (.ref 3), none, some (.str "__main__" 164), none, some (.ref 0)]⟩] ++
  fnO 15 "_wall" "_wall" 187 1 1 ["k"] (.str "__main__" 164) ++
  [⟨(.type "tuple"), none, (.seq #[] 0), #[]⟩,
  ⟨(.type "builtin_function_or_method"), none, (.fields #[(.builtin "type.__prepare__"), (.type "type")]), #[]⟩,
  ⟨(.type "dict"), none, (dE P [("__module__", 203, (.str "cpy313.tabnanny" 194)), ("__qualname__", 205, (.str "Whitespace" 204)), ("__firstlineno__", 207, (.int 5 206)), ("S", 211, (.str " " 209)), ("T", 212, (.str "\t" 210)), ("__init__", 227, (.ref 38)), ("longest_run_of_spaces", 236, (.ref 45)), ("indent_level", 248, (.ref 52)), ("equal", 256, (.ref 59)), ("not_equal_witness", 267, (.ref 66)), ("less", 275, (.ref 73)), ("not_less_witness", 283, (.ref 80)), ("__static_attributes__", 289, (.ref 81))] 13), #[]⟩,
  ⟨(.type "tuple"), none, (.seq #[] 0), #[]⟩,
  ⟨.none, none, (.fields #[(.int 8 0), (.int 4 0), (.ref 37), (.int 31 0), (.int 4 0), (.ref 44), (.int 35 0), (.int 4 0), (.ref 51), (.int 42 0), (.int 4 0), (.ref 58), (.int 45 0), (.int 4 0), (.ref 65), (.int 53 0), (.int 4 0), (.ref 72), (.int 56 0), (.int 4 0), (.ref 79)]), #[]⟩,
  ⟨(.type "code"), none, (.fields #[(.str "Whitespace" 198), (.str "Whitespace" 199), (.str "/claim/cut.py" 200), (.int 5 0), (.int 0 0), (.int 0 0), (.int 0 0), (.int 0 0), (.ref 25), (.bool false), (.int 181 0), (.ref 26), .none, .none, .none, .none, (.int 201 0), (.int 5 0), (.str "/claim/cut.py" 202)]), #[]⟩,
  ⟨(.type "frame"), none, .plain, #[some (.ref 27), some (.ref 3), some (.ref 24), none, some (.str "cpy313.tabnanny" 194), none, some (.ref 0)]⟩,
  ⟨(.type "str_ascii_iterator"), none, (.fields #[.none, (.int 2 0)]), #[]⟩,
  ⟨(.type "tuple"), none, (.seq #[] 0), #[]⟩,
  ⟨(.type "StopIteration"), none, (.fields #[(.ref 30), .none, .none, .none, (.bool false), .none]), #[]⟩] ++
  fnO 32 "__init__" "Whitespace.__init__" 213 8 2 ["self", "ws", "S", "T", "count", "b", "n", "nt", "ch"] (.str "cpy313.tabnanny" 194) ++
  fnO 39 "longest_run_of_spaces" "Whitespace.longest_run_of_spaces" 228 31 1 ["self", "count", "trailing"] (.str "cpy313.tabnanny" 194) ++
  fnO 46 "indent_level" "Whitespace.indent_level" 237 35 2 ["self", "tabsize", "count", "trailing", "il", "i"] (.str "cpy313.tabnanny" 194) ++
  fnO 53 "equal" "Whitespace.equal" 249 42 2 ["self", "other"] (.str "cpy313.tabnanny" 194) ++
  fnO 60 "not_equal_witness" "Whitespace.not_equal_witness" 257 45 2 ["self", "other", "n", "a", "ts"] (.str "cpy313.tabnanny" 194) ++
  fnO 67 "less" "Whitespace.less" 268 53 2 ["self", "other"] (.str "cpy313.tabnanny" 194) ++
  fnO 74 "not_less_witness" "Whitespace.not_less_witness" 276 56 2 ["self", "other"] (.str "cpy313.tabnanny" 194) ++
  [⟨(.type "tuple"), none, (.seq #[(.str "is_simple" 284), (.str "n" 285), (.str "norm" 286), (.str "nt" 287), (.str "raw" 288)] 0), #[]⟩,
  ⟨(.type "dict"), none, (dE P [("__module__", 203, (.str "cpy313.tabnanny" 194)), ("__firstlineno__", 207, (.int 5 206)), ("S", 211, (.str " " 209)), ("T", 212, (.str "\t" 210)), ("__init__", 227, (.ref 38)), ("longest_run_of_spaces", 236, (.ref 45)), ("indent_level", 248, (.ref 52)), ("equal", 256, (.ref 59)), ("not_equal_witness", 267, (.ref 66)), ("less", 275, (.ref 73)), ("not_less_witness", 283, (.ref 80)), ("__static_attributes__", 289, (.ref 81)), ("__dict__", 291, (.ref 84)), ("__weakref__", 293, (.ref 85)), ("__doc__", 294, .none)] 4), #[]⟩,
  ⟨(.type "type"), none, (.cls ⟨"Whitespace", [(.type "object")], [(.ref 83), (.type "object")], 82, "Whitespace", true, [], [], false, none, false⟩), #[none, none, some (.str "Whitespace" 196), some (.str "Whitespace" 204), some (.builtin "object.__new__"), some (.bool true)]⟩,
  ⟨(.type "getset_descriptor"), none, (.fields #[(.str "__dict__" 290), (.ref 83), (.builtin "function.__dict__"), (.builtin "function.__dict__#set")]), #[]⟩,
  ⟨(.type "getset_descriptor"), none, (.fields #[(.str "__weakref__" 292), (.ref 83), (.builtin "ExceptionGroup.__weakref__"), .none]), #[]⟩,
  ⟨(.type "super"), none, (.fields #[(.ref 83), (.ref 83), (.ref 83)]), #[]⟩,
  ⟨(.type "builtin_function_or_method"), none, (.fields #[(.builtin "object.__init_subclass__"), (.ref 83)]), #[]⟩]
noncomputable def objT (P : Params) : List Obj := [⟨(.type "dict"), none, (dE P [("!", 397, (.int 54 393)), ("!=", 399, (.int 28 341)), ("%", 401, (.int 24 333)), ("%=", 403, (.int 40 365)), ("&", 405, (.int 19 323)), ("&=", 407, (.int 41 367)), ("(", 409, (.int 7 299)), (")", 411, (.int 8 301)), ("*", 413, (.int 16 317)), ("**", 415, (.int 35 355)), ("**=", 417, (.int 46 377)), ("*=", 419, (.int 38 361)), ("+", 421, (.int 14 313)), ("+=", 423, (.int 36 357)), (",", 425, (.int 12 309)), ("-", 427, (.int 15 315)), ("-=", 429, (.int 37 359)), ("->", 431, (.int 51 387)), (".", 433, (.int 23 331)), ("...", 435, (.int 52 389)), ("/", 437, (.int 17 319)), ("//", 439, (.int 47 379)), ("//=", 441, (.int 48 381)), ("/=", 443, (.int 39 363)), (":", 445, (.int 11 307)), (":=", 447, (.int 53 391)), (";", 449, (.int 13 311)), ("<", 451, (.int 20 325)), ("<<", 453, (.int 33 351)), ("<<=", 455, (.int 44 373)), ("<=", 457, (.int 29 343)), ("=", 459, (.int 22 329)), ("==", 461, (.int 27 339)), (">", 463, (.int 21 327)), (">=", 465, (.int 30 345)), (">>", 466, (.int 34 353)), (">>=", 467, (.int 45 375)), ("@", 468, (.int 49 383)), ("@=", 469, (.int 50 385)), ("[", 470, (.int 9 303)), ("]", 471, (.int 10 305)), ("^", 472, (.int 32 349)), ("^=", 473, (.int 43 371)), ("{", 474, (.int 25 335)), ("|", 475, (.int 18 321)), ("|=", 476, (.int 42 369)), ("}", 477, (.int 26 337)), ("~", 478, (.int 31 347))] 48), #[]⟩,
  ⟨(.type "dict"), none, (dE P [("->", 431, (.int 51 387)), (".", 433, (.int 23 331)), ("...", 435, (.int 52 389)), ("/", 437, (.int 17 319)), ("//", 439, (.int 47 379)), ("//=", 441, (.int 48 381)), ("/=", 443, (.int 39 363)), (":", 445, (.int 11 307)), (":=", 447, (.int 53 391)), (";", 449, (.int 13 311)), ("<", 451, (.int 20 325)), ("<<", 453, (.int 33 351)), ("<<=", 455, (.int 44 373)), ("<=", 457, (.int 29 343)), ("=", 459, (.int 22 329)), ("==", 461, (.int 27 339)), (">", 463, (.int 21 327))] 17), #[]⟩,
  ⟨(.type "dict"), none, (dE P [(">=", 465, (.int 30 345)), (">>", 466, (.int 34 353)), (">>=", 467, (.int 45 375)), ("@", 468, (.int 49 383)), ("@=", 469, (.int 50 385)), ("[", 470, (.int 9 303)), ("]", 471, (.int 10 305)), ("^", 472, (.int 32 349)), ("^=", 473, (.int 43 371)), ("{", 474, (.int 25 335)), ("|", 475, (.int 18 321)), ("|=", 476, (.int 42 369)), ("}", 477, (.int 26 337)), ("~", 478, (.int 31 347))] 14), #[]⟩]
noncomputable def stX (l : List Obj) (k : Nat) (os : OsState) : Shared := ⟨⟨l.toArray, {}⟩, #[], boot_drawn, k, os⟩
noncomputable def sB (w : World) (os : OsState) : Shared := stX (objX w.params (gNs (.str "cpy313.tabnanny" 194) []) 11) 297 os
noncomputable def sC (w : World) (os : OsState) : Shared := stX (objX w.params (gNs (.str "cpy313.token" 297) gI0) 60) 397 os
noncomputable def sD (w : World) (os : OsState) : Shared := stX (objX w.params (gNs (.str "cpy313.token" 297) (gI0 ++ [("EXACT_TOKEN_TYPES", 493, .ref 88)])) 61 ++ objT w.params) 494 os
noncomputable def env0 : Env := { scope := p0.main.scope, locals := mainNs, globals := mainNs, cells := [], code := .ref 13, frame := some 14 }
noncomputable abbrev b0 : List Stmt := behindTheImports p0
noncomputable abbrev c0 : Code := .body b0 env0
noncomputable abbrev B0 : List Frame := [topFrame default]
abbrev posB : Pos := { line := 5, endLine := 57, col := 0, endCol := 16 }
abbrev posC : Pos := { line := 107, endLine := 107, col := 0, endCol := 9 }
abbrev posD : Pos := { line := 108, endLine := 108, col := 0, endCol := 17 }
noncomputable abbrev S0 (w : World) (os : OsState) : Shared := ⟨boot_heap w.params, #[], boot_drawn, boot_toks, os⟩
abbrev ann0 : Option Value := some (.ref 6)
noncomputable def isLaw : Stmt -> Bool
  | .FunctionDef n .. => n == ("law" : Str)
  | _ => false
noncomputable def q0 : Program := { PySem.Challenge.pw_ta0085_01 with main := { PySem.Challenge.pw_ta0085_01.main with body := PySem.Challenge.pw_ta0085_01.main.body.filter isLaw } }
noncomputable def zeu : List Str := PySem.Challenge.pw_ta0085_01.boundNames.filter λ n => n != ("law" : Str)
noncomputable def kfr (h : Heap) : Frag := (List.range 212).filterMap λ a => (h.get? a).map λ o => (a, o)
theorem zoK (h : Heap) : (kfr h).In h := λ a o e => by
  have hm := zcV e
  unfold kfr at hm
  obtain ⟨b, _, hb⟩ := List.mem_filterMap.mp hm
  obtain ⟨o', h1, h2⟩ := Option.map_eq_some_iff.mp hb
  cases h2
  exact h1
noncomputable def fdN : List Str := (["__init__", "__setattr__", "__getattribute__", "__getattr__", "longest_run_of_spaces", "indent_level", "equal", "not_equal_witness"] : List Str) ++ wsF
noncomputable def yL (K : Frag) :=
  (fnLst.map λ p => (fnAt K p.2).map (fnV K),
   (tabAt K 88).map λ q => (q.1.toList.map rowV, q.1.toList.map λ e => e.hash),
   (usN.map λ k => nsIn K mainGlobals (Str.ofString k)),
   (biN.map λ k => nsIn K mainGlobals (Str.ofString k)),
   (inN.map λ p => intV (nsIn K mainGlobals (Str.ofString p.1))),
   nsIn K mainGlobals "law",
   (fdN.map λ n => findIn K (.ref 83) n),
   ([38, 45, 52, 59, 66].map λ a => typeIn K (.ref a)),
   [makesIn K 83, plainOver K 83, hasDictIn K 83, (adr.all λ p => p.1 == "EXACT_TOKEN_TYPES" || keepIn K (.ref p.2)), readsIn K 83 (.type "type")],
   (wsF.map λ n => takerIn K 83 n),
   sgnV (findCls K (.ref 83) (.type "type") "S"),
   sgnV (findCls K (.ref 83) (.type "type") "T"))
noncomputable def yR (P : Params) :=
  (fnLst.map λ p => some (FuncBody.stmts (defOf p.1).2.1, (defOf p.1).2.2, (defOf p.1).1, mainGlobals, builtinsNs, ([] : List (Str × Addr)), Value.none, Value.none, true),
   some (tokL.map some, tokL.map λ p => PyData.keyHash P p.1),
   (usN.map λ k => some (gv0 k)),
   (biN.map λ _ => (some none : Option (Option Value))),
   (inN.map λ p => some p.2),
   (some (some (.ref 211)) : Option (Option Value)),
   ([some (some (.ref 38)), some (some (.builtin "object.__setattr__")), some (some (.builtin "object.__getattribute__")), some none, some (some (.ref 45)), some (some (.ref 52)), some (some (.ref 59)), some (some (.ref 66)), some none, some none, some none, some none, some none] : List (Option (Option Value))),
   ([38, 45, 52, 59, 66].map λ _ => some (Value.type "function")),
   [true, true, true, true, true],
   (wsF.map λ _ => (some none : Option (Option Value))),
   some (" " : Str),
   some ("\t" : Str))
noncomputable def Yf (s : Shared) := (yL (kfr s.heap), decide (1 ≤ s.toks))
noncomputable def Ya (w : World) := (yR w.params, true)
noncomputable abbrev b1 : List Stmt := b0.drop 3
noncomputable abbrev b2 : List Stmt := b1.drop 50
noncomputable abbrev b3 : List Stmt := b2.drop 1
noncomputable def seg (w : World) (n : Nat) (s : Shared) (l : List Stmt) (p : Pos) := segRun treeTable p0 w 11 ann0 1 n s (piecesOf l env0 c0 p B0)
noncomputable def run1 (w : World) (os : OsState) :=
  (topGo treeTable p0 w 11 ann0 12 (S0 w os) (topStub p0)).bind λ q => (segRun treeTable p0 w 11 ann0 1 1 q.1 (blockOf b0 env0 c0 default B0)).bind λ r =>
    (seg w 560 r.2.1 (b0.take 3) r.2.2.2).map λ z => (q.2, r.1, r.2.2.1, z)
theorem hd_f (w : World) (os : OsState) : run1 (w.withFollow "special-get-raises" false) os = some (⟨denote treeTable c0, c0, default, B0⟩, .next, c0, .next, sB (w.withFollow "special-get-raises" false) os, c0, posB) := by
  kernel_rfl
theorem hd_t (w : World) (os : OsState) : run1 (w.withFollow "special-get-raises" true) os = some (⟨denote treeTable c0, c0, default, B0⟩, .next, c0, .next, sB (w.withFollow "special-get-raises" true) os, c0, posB) := by
  kernel_rfl
theorem md (w : World) (os : OsState) : seg w 480 (sB w os) (b1.take 50) posB = some (.next, sC w os, c0, posC) := by
  kernel_rfl
theorem tb_f (w : World) (os : OsState) : seg (w.withFollow "special-get-raises" false) 1000 (sC (w.withFollow "special-get-raises" false) os) (b2.take 1) posC = some (.next, sD (w.withFollow "special-get-raises" false) os, c0, posD) := by
  kernel_rfl
theorem tb_t (w : World) (os : OsState) : seg (w.withFollow "special-get-raises" true) 1000 (sC (w.withFollow "special-get-raises" true) os) (b2.take 1) posC = some (.next, sD (w.withFollow "special-get-raises" true) os, c0, posD) := by
  kernel_rfl
theorem tl (w : World) (os : OsState) : (topRun treeTable p0 w 11 ann0 700 (sD w os) (restOf b3 env0 c0 posD B0)).map (λ s =>
    (staticsOk (importedModules p0.main.body) (boot_heap w.params) s.heap && namesBound p0 s.heap && gensDone s && laidKept (boot_heap w.params) s.heap, openSeen q0 zeu (importedModules p0.main.body) (λ s => xlAt q0 [] s && recOk [] s) true s, Yf s)) = some (true, openGood q0 zeu, Ya w) := by
  kernel_rfl
theorem both {P : World -> Prop} (f : ∀ w : World, P (w.withFollow "special-get-raises" false)) (t : ∀ w : World, P (w.withFollow "special-get-raises" true)) (w : World) : P w := by
  have e := World.withFollow_self w "special-get-raises"
  cases hb : w.params.followText "special-get-raises" <;> rw [hb] at e
  · exact e ▸ f w
  · exact e ▸ t w
theorem tops (w : World) (os : OsState) : ∃ r, topRun treeTable p0 w 11 ann0 5176 (S0 w os) (topStub p0) = some r /\ (staticsOk (importedModules p0.main.body) (boot_heap w.params) r.heap && namesBound p0 r.heap && gensDone r && laidKept (boot_heap w.params) r.heap) = true /\
    openSeen q0 zeu (importedModules p0.main.body) (λ s => xlAt q0 [] s && recOk [] s) true r = openGood q0 zeu /\ Yf r = Ya w := by
  obtain ⟨r, t1, t2⟩ := Option.map_eq_some_iff.mp (tl w os)
  obtain ⟨⟨s1, x1⟩, a1, h⟩ := Option.bind_eq_some_iff.mp (both (P := λ w => run1 w os = some (⟨denote treeTable c0, c0, default, B0⟩, .next, c0, .next, sB w os, c0, posB)) (hd_f · os) (hd_t · os) w)
  obtain ⟨⟨f1, s2, c2, p2⟩, a2, h⟩ := Option.bind_eq_some_iff.mp h
  obtain ⟨z, a3, h⟩ := Option.map_eq_some_iff.mp h
  simp only [Prod.mk.injEq] at h t2
  obtain ⟨rfl, rfl, rfl, rfl⟩ := h
  have k3 := piece_app (rest := b3) (both (P := λ w => seg w 1000 (sC w os) (b2.take 1) posC = some (.next, sD w os, c0, posD)) (tb_f · os) (tb_t · os) w) t1
  rw [List.take_append_drop] at k3
  have k4 := piece_app (rest := b2) (md w os) k3
  rw [List.take_append_drop] at k4
  have k1 := piece_app (rest := b1) a3 k4
  rw [List.take_append_drop] at k1
  have k2 := topRun_mono (5176 - (12 + (1 + (560 + (480 + (1000 + 700)))))) _ _ _ _ (go_top a1 (piece_block a2 k1))
  exact ⟨r, k2, t2.1, t2.2.1, t2.2.2⟩
theorem left0 : LeftO p0 q0 zeu (λ s => xlAt q0 [] s && recOk [] s) Yf Ya 5176 := λ w => by
  obtain ⟨⟨h, gs, d, k, os⟩, e, e'⟩ := Option.map_eq_some_iff.mp (boot_open (p := p0) (N := 5176) (by kernel_rfl) (by decide +kernel) (λ s => rfl) w)
  simp only [Prod.mk.injEq] at e'
  obtain ⟨rfl, rfl, rfl, rfl⟩ := e'
  obtain ⟨r, t, l1, l2, l3⟩ := tops w os
  have z : ((boot_heap w.params).isNs mainGlobals && (#[] : Array GenState).size == 0, (boot_heap w.params).objs.size, (boot_heap w.params).nsMap mainGlobals "__annotations__") = (true, 11, ann0) := by kernel_rfl
  simp only [Prod.mk.injEq] at z
  obtain ⟨z1, z2, z3⟩ := z
  have t' : topFrom treeTable p0 w 5176 (S0 w os) = some r := by
    unfold topFrom
    dsimp only
    rw [z1, z2, z3, t]
    show (match staticsOk (importedModules p0.main.body) (boot_heap w.params) r.heap && namesBound p0 r.heap && gensDone r && laidKept (boot_heap w.params) r.heap with | true => _ | false => _) = _
    rw [l1]
  unfold openEnds
  rw [e]
  show (topFrom treeTable p0 w 5176 _).map _ = _
  rw [t']
  exact congrArg some (Prod.ext l2 l3)
end Mine
end
section
open PySem PySem.W PyProof.Rows PySem.StrLaws Builtin.Str
set_option maxRecDepth 100000
namespace Mine
theorem zpB {s : Shared} {w : World} (y : Yf s = Ya w) : KF w.params (kfr s.heap) /\ 1 ≤ s.toks := by
  have y0 : yL (kfr s.heap) = yR w.params := congrArg Prod.fst y
  have yt : decide (1 ≤ s.toks) = true := congrArg Prod.snd y
  generalize kfr s.heap = K at y0
  unfold yL yR at y0
  simp only [Prod.mk.injEq] at y0
  obtain ⟨h1, h2, h3, h4, h5, h6, h7, h8, h9, h10, h11, h12⟩ := y0
  have fn : ∀ p ∈ fnLst, FnC K p.1 p.2 := zda h1
  have fd : ∀ {n : Str} {v : Option (Option Value)} (i : Nat), fdN[i]? = some n -> ([some (some (.ref 38)), some (some (.builtin "object.__setattr__")), some (some (.builtin "object.__getattribute__")), some none, some (some (.ref 45)), some (some (.ref 52)), some (some (.ref 59)), some (some (.ref 66)), some none, some none, some none, some none, some none] : List (Option (Option Value)))[i]? = some v -> findIn K (.ref 83) n = v := λ {n v} i hn hv => by
    have : (fdN.map λ n => findIn K (.ref 83) n)[i]? = some v := by rw [h7]; exact hv
    rw [List.getElem?_map, hn] at this
    exact Option.some.inj this
  have ty := zda h8
  simp only [List.cons.injEq, and_true] at h9
  refine ⟨?_, of_decide_eq_true yt⟩
  constructor
  case tab => exact h2
  case us => exact h3
  case bu => exact h4
  case itn => exact h5
  case lw => exact h6
  case mak => exact h9.1
  case po => exact h9.2.1
  case hd => exact h9.2.2.1
  case keep => exact h9.2.2.2.1
  case rd => exact h9.2.2.2.2
  case tk => exact h10
  case S => exact h11
  case T => exact h12
  case ini => exact fd 0 rfl rfl
  case sa => exact fd 1 rfl rfl
  case ga => exact fd 2 rfl rfl
  case gk => exact fd 3 rfl rfl
  case m1 => exact ⟨fd 4 rfl rfl, ty 45 (by decide)⟩
  case m2 => exact ⟨fd 5 rfl rfl, ty 52 (by decide)⟩
  case m3 => exact ⟨fd 6 rfl rfl, ty 59 (by decide)⟩
  case m4 => exact ⟨fd 7 rfl rfl, ty 66 (by decide)⟩
  case inif => exact ty 38 (by decide)
  case fa =>
    have : wsF.map (λ n => findIn K (.ref 83) n) = (fdN.map λ n => findIn K (.ref 83) n).drop 8 := rfl
    rw [this, h7]; rfl
  case fn => exact fn
set_option maxHeartbeats 4000000 in
theorem said0 : PySem.Challenge.rw_ta0085_01.wellSaid = true := by
  unfold OpenLaw.wellSaid
  repeat' with_reducible refine look_both ?_ ?_
  all_goals decide +kernel
theorem holds0 : PySem.Challenge.rw_ta0085_01.Holds := by
  refine holds_law said0 λ said => ?_
  refine holds_openX (q := q0) (loose := zeu) (Xt := λ s => xlAt q0 [] s && recOk (RowW.records PySem.Challenge.rw_ta0085_01.row.toRowW) s) (XP := XL q0 []) (Yf := Yf) (Ya := Ya) (N := 5176) left0 (λ s e => xl_of s (Bool.and_eq_true_iff.mp e).1) XL.keeps (by rfl) (by rfl) (by rfl) (λ s e => recFacts_of (Bool.and_eq_true_iff.mp e).2) (by rfl) said (by decide +kernel) ⟨rfl, rfl, rfl, rfl, rfl, by decide +kernel⟩ ?hw ?hc
  case hw => w_witness2
  case hc =>
    intro w s₀ s₁ mg mb G y fa o pm cd doc dV kV ho hd hcd hD hmg hg args vals as L hpre hlay hrd hwl hlo
    obtain ⟨F, tk⟩ := zpB y
    have KX : (kfr s₀.heap).In s₁.heap := λ a o e => L.keeps a o (zoK _ a o e)
    wrow_args hpre hlay hrd hwl hlo
    have htk := Nat.le_trans tk (PySem.W.X.script_toks L rfl)
    exact zlf KX F G.T hmg (PySem.W.X.script_obj L (by assumption)) (by assumption) (by assumption) htk hg
end Mine
end
section
theorem PySem.Challenge.cw_ta0085_01_holds : PySem.Challenge.rw_ta0085_01.Holds := by
  exact Mine.holds0
end
