import PyProof.Rows.All
import Wide.All
import OpenK.AllK
import Wide.FinOn
import PySem.Challenge.RW_nb0027_01
open PySem PySem.W PyProof.Rows
set_option Elab.async false
set_option maxRecDepth 100000
set_option maxHeartbeats 4000000
namespace Mine
def stOf (i : Nat) : Stmt := (PySem.Challenge.pw_nb0027_01.main.body[i]?).getD (.Pass ⟨0,0,0,0⟩)
def nmOf : Stmt → Str
  | .FunctionDef n .. => n
  | _ => Str.ofString ""
def bdOf : Stmt → List Stmt
  | .FunctionDef _ _ b .. => b
  | _ => []
def scOf : Stmt → Scope
  | .FunctionDef _ _ _ _ _ _ sc .. => sc
  | _ => { kind := .function, names := [], isGenerator := false, isCoroutine := false, more := [] }
def arOf : Stmt → Arguments
  | .FunctionDef _ a .. => a
  | _ => { posonlyargs := [], args := [], vararg := none, kwonlyargs := [], kw_defaults := [], kwarg := none, defaults := [] }
end Mine

namespace Mine
/-- every object stands as it stood -/
abbrev Ext (h h' : Heap) : Prop := ∀ b o, h.get? b = some o → h'.get? b = some o
theorem Ext.rfl (h : Heap) : Ext h h := fun _ _ e => e
theorem Ext.trans {a b c : Heap} (x : Ext a b) (y : Ext b c) : Ext a c := fun i o e => y i o (x i o e)
theorem Ext.push (h : Heap) (o : Obj) : Ext h (h.push o) := fun _ _ e => Heap.get?_push_of_some _ e
/-- every list and tuple stands as it stood -/
def SK (h h' : Heap) : Prop := ∀ b o, h.get? b = some o → (∃ xs n, o.data = .seq xs n) → h'.get? b = some o
theorem SK.rfl (h : Heap) : SK h h := fun _ _ e _ => e
theorem SK.trans {a b c : Heap} (x : SK a b) (y : SK b c) : SK a c := fun i o e q => y i o (x i o e q) q
theorem SK.of_ext {a b : Heap} (x : Ext a b) : SK a b := fun i o e _ => x i o e
/-- a change at one place that holds no list and no tuple -/
theorem SK.of_but {a b : Heap} {L : Addr} {oL : Obj} (hs : Heap.SameBut L a b) (hL : a.get? L = some oL) (hn : ∀ xs n, oL.data ≠ .seq xs n) : SK a b := fun i o e ⟨xs, n, q⟩ => by
  refine (hs.2 i ?_).trans e
  rintro rfl
  rw [hL] at e; cases e
  exact hn xs n q
theorem SK.of_ns {a b : Heap} {L : Addr} {m : Str → Option Value} (hs : Heap.SameBut L a b) (hL : a.Ns L m) : SK a b := by
  obtain ⟨o, es, ep, ho, hd, _⟩ := hL
  exact SK.of_but hs ho (fun xs n e => by rw [hd] at e; cases e)

def Rd (h : Heap) (v : Value) (d : PyData) : Prop := ∃ as, Reads h v d as
def RdAll (h : Heap) (vs : List Value) (ds : List PyData) : Prop := ∃ as, ReadsAll h vs ds as
theorem Rd.ext {h h' : Heap} {v : Value} {d : PyData} (r : Rd h v d) (x : Ext h h') : Rd h' v d := let ⟨as, r⟩ := r; ⟨as, Reads.keeps x r⟩
theorem RdAll.ext {h h' : Heap} {v : List Value} {d : List PyData} (r : RdAll h v d) (x : Ext h h') : RdAll h' v d := let ⟨as, r⟩ := r; ⟨as, ReadsAll.keeps x r⟩
mutual
theorem reads_sk {h h' : Heap} (x : SK h h') : ∀ (d : PyData) (v : Value) (as : List Addr), d.canLay0 = true → Reads h v d as → Reads h' v d as
  | .none, _, _, _, r => by cases r; exact .none
  | .bool _, _, _, _, r => by cases r; exact .bool _
  | .int _, _, _, _, r => by cases r; exact .int _ _
  | .str _, _, _, _, r => by cases r; exact .str _ _
  | .list xs, _, _, hc, r => by
    cases r with
    | list h1 h2 h3 h4 => exact .list (x _ _ h1 ⟨_, _, h3⟩) h2 h3 (readsAll_sk x xs _ _ hc h4)
  | .tuple xs, _, _, hc, r => by
    cases r with
    | tuple h1 h2 h3 h4 => exact .tuple (x _ _ h1 ⟨_, _, h3⟩) h2 h3 (readsAll_sk x xs _ _ hc h4)
  | .dict _, _, _, hc, _ => nomatch hc
theorem readsAll_sk {h h' : Heap} (x : SK h h') : ∀ (ds : List PyData) (vs : List Value) (as : List Addr), PyData.canLayAll0 ds = true → ReadsAll h vs ds as → ReadsAll h' vs ds as
  | [], _, _, _, r => by cases r; exact .nil
  | d :: ds, _, _, hc, r => by
    have hc' : d.canLay0 = true ∧ PyData.canLayAll0 ds = true := by simpa [PyData.canLayAll0] using hc
    cases r with
    | cons r1 r2 => exact .cons (reads_sk x d _ _ hc'.1 r1) (readsAll_sk x ds _ _ hc'.2 r2)
end
theorem Rd.sk {h h' : Heap} {v : Value} {d : PyData} (r : Rd h v d) (x : SK h h') (hc : d.canLay0 = true) : Rd h' v d := let ⟨as, r⟩ := r; ⟨as, reads_sk x d v as hc r⟩
theorem RdAll.sk {h h' : Heap} {v : List Value} {d : List PyData} (r : RdAll h v d) (x : SK h h') (hc : PyData.canLayAll0 d = true) : RdAll h' v d := let ⟨as, r⟩ := r; ⟨as, readsAll_sk x d v as hc r⟩

theorem RdAll.nil (h : Heap) : RdAll h [] [] := ⟨_, .nil⟩
theorem RdAll.cons {h : Heap} {v : Value} {d : PyData} {vs : List Value} {ds : List PyData} (a : Rd h v d) (b : RdAll h vs ds) : RdAll h (v :: vs) (d :: ds) := let ⟨_, a⟩ := a; let ⟨_, b⟩ := b; ⟨_, .cons a b⟩
theorem RdAll.cons_inv {h : Heap} {vs : List Value} {d : PyData} {ds : List PyData} (r : RdAll h vs (d :: ds)) : ∃ v ws, vs = v :: ws ∧ Rd h v d ∧ RdAll h ws ds := by
  obtain ⟨as, r⟩ := r
  cases r with
  | cons r1 r2 => exact ⟨_, _, rfl, ⟨_, r1⟩, ⟨_, r2⟩⟩
theorem RdAll.nil_inv {h : Heap} {vs : List Value} (r : RdAll h vs []) : vs = [] := by obtain ⟨as, r⟩ := r; cases r; rfl
theorem RdAll.length {h : Heap} {vs : List Value} {ds : List PyData} (r : RdAll h vs ds) : vs.length = ds.length := let ⟨_, r⟩ := r; SeqAt.ReadsAll.length _ _ _ r
theorem RdAll.append {h : Heap} : ∀ {vs ws : List Value} {ds es : List PyData}, RdAll h vs ds → RdAll h ws es → RdAll h (vs ++ ws) (ds ++ es)
  | vs, ws, [], es, a, b => by obtain rfl := a.nil_inv; exact b
  | vs, ws, d :: ds, es, a, b => by
    obtain ⟨v, us, rfl, a1, a2⟩ := a.cons_inv
    exact .cons a1 (RdAll.append a2 b)
theorem RdAll.take {h : Heap} : ∀ {vs : List Value} {ds : List PyData} (k : Nat), RdAll h vs ds → RdAll h (vs.take k) (ds.take k)
  | _, _, 0, _ => .nil h
  | vs, [], k + 1, a => by obtain rfl := a.nil_inv; exact .nil h
  | vs, d :: ds, k + 1, a => by
    obtain ⟨v, us, rfl, a1, a2⟩ := a.cons_inv
    exact .cons a1 (RdAll.take k a2)
theorem RdAll.drop {h : Heap} : ∀ {vs : List Value} {ds : List PyData} (k : Nat), RdAll h vs ds → RdAll h (vs.drop k) (ds.drop k)
  | _, _, 0, a => a
  | vs, [], k + 1, a => by obtain rfl := a.nil_inv; exact .nil h
  | vs, d :: ds, k + 1, a => by
    obtain ⟨v, us, rfl, a1, a2⟩ := a.cons_inv
    exact RdAll.drop k a2
theorem RdAll.get {h : Heap} : ∀ {vs : List Value} {ds : List PyData}, RdAll h vs ds → ∀ {k : Nat} {d : PyData}, ds[k]? = some d → ∃ v, vs[k]? = some v ∧ Rd h v d
  | vs, [], a, k, d, e => by simp at e
  | vs, x :: ds, a, 0, d, e => by
    obtain ⟨v, us, rfl, a1, a2⟩ := a.cons_inv
    simp at e; subst e
    exact ⟨v, rfl, a1⟩
  | vs, x :: ds, a, k + 1, d, e => by
    obtain ⟨v, us, rfl, a1, a2⟩ := a.cons_inv
    simp at e
    obtain ⟨y, e1, e2⟩ := a2.get e
    exact ⟨y, by simpa using e1, e2⟩
theorem RdAll.get' {h : Heap} {vs : List Value} {ds : List PyData} (a : RdAll h vs ds) {k : Nat} {v : Value} (e : vs[k]? = some v) : ∃ d, ds[k]? = some d ∧ Rd h v d := by
  have hk : k < ds.length := by rw [← a.length]; exact (List.getElem?_eq_some_iff.mp e).1
  obtain ⟨y, e1, e2⟩ := a.get (List.getElem?_eq_getElem hk)
  rw [e] at e1; cases e1
  exact ⟨_, List.getElem?_eq_getElem hk, e2⟩
theorem Rd.list_inv {h : Heap} {v : Value} {ds : List PyData} (r : Rd h v (.list ds)) : ∃ a vs, v = .ref a ∧ h.IsList a vs ∧ RdAll h vs.toList ds := by
  obtain ⟨as, r⟩ := r
  cases r with
  | list h1 h2 h3 h4 => exact ⟨_, _, rfl, ⟨_, h1, h2, _, h3⟩, ⟨_, h4⟩⟩
theorem Rd.tuple_inv {h : Heap} {v : Value} {ds : List PyData} (r : Rd h v (.tuple ds)) : ∃ a vs, v = .ref a ∧ h.IsTuple a vs ∧ RdAll h vs.toList ds := by
  obtain ⟨as, r⟩ := r
  cases r with
  | tuple h1 h2 h3 h4 => exact ⟨_, _, rfl, ⟨_, h1, h2, _, h3⟩, ⟨_, h4⟩⟩
theorem Rd.str_inv {h : Heap} {v : Value} {x : Str} (r : Rd h v (.str x)) : ∃ t, v = .str x t := by
  obtain ⟨as, r⟩ := r
  cases r
  exact ⟨_, rfl⟩
theorem Rd.int_inv {h : Heap} {v : Value} {x : Int} (r : Rd h v (.int x)) : ∃ t, v = .int x t := by
  obtain ⟨as, r⟩ := r
  cases r
  exact ⟨_, rfl⟩
theorem Rd.of_list {h : Heap} {a : Addr} {vs : Array Value} {ds : List PyData} (l : h.IsList a vs) (r : RdAll h vs.toList ds) : Rd h (.ref a) (.list ds) := by
  obtain ⟨o, h1, h2, n, h3⟩ := l
  obtain ⟨_, r⟩ := r
  exact ⟨_, .list h1 h2 h3 r⟩
theorem Rd.of_tuple {h : Heap} {a : Addr} {vs : Array Value} {ds : List PyData} (l : h.IsTuple a vs) (r : RdAll h vs.toList ds) : Rd h (.ref a) (.tuple ds) := by
  obtain ⟨o, h1, h2, n, h3⟩ := l
  obtain ⟨_, r⟩ := r
  exact ⟨_, .tuple h1 h2 h3 r⟩
/-- the heap without some places -/
abbrev hid (h : Heap) (X : List Addr) : Heap := hideAll h X
theorem hid_sub {h : Heap} {X : List Addr} : Ext (hid h X) h := fun _ _ e => of_hideAll X e
theorem hid_not {h : Heap} {X : List Addr} {b : Addr} {o : Obj} (e : (hid h X).get? b = some o) : b ∉ X := fun q => by rw [hideAll_none X q] at e; cases e
theorem hid_get {h : Heap} {X : List Addr} {b : Addr} {o : Obj} (e : h.get? b = some o) (n : b ∉ X) : (hid h X).get? b = some o := hideAll_get X e n
theorem hid_ext {h h' : Heap} {X : List Addr} (x : Ext h h') : Ext (hid h X) (hid h' X) := fun b o e => hid_get (x b o (hid_sub b o e)) (hid_not e)
/-- a change at hidden places is not seen -/
theorem hid_but {h h' : Heap} {X : List Addr} (x : ∀ b o, b ∉ X → h.get? b = some o → h'.get? b = some o) : Ext (hid h X) (hid h' X) := fun b o e => hid_get (x b o (hid_not e) (hid_sub b o e)) (hid_not e)
theorem hid_new {h h' : Heap} {X : List Addr} (x : Ext h h') (n : ∀ b ∈ X, h.get? b = none) : Ext h (hid h' X) := fun b o e => hid_get (x b o e) (fun q => by rw [n b q] at e; cases e)
theorem Rd.int (h : Heap) (i : Int) (t : Tok) : Rd h (.int i t) (.int i) := ⟨_, .int i t⟩
theorem Rd.str (h : Heap) (i : Str) (t : Tok) : Rd h (.str i t) (.str i) := ⟨_, .str i t⟩
theorem Rd.none (h : Heap) : Rd h .none .none := ⟨_, .none⟩
end Mine

namespace Mine

structure SeqOps (prog : Program) (w : World) (A : Around) (h₀ : Heap) (v : Value) (n : Nat) (bl : Nat → Bool) (R : Nat → Nat → Heap → Value → Prop) : Prop where
  item : ∀ (s : Shared) (i : Int) (t : Tok) (x y : Str) (px py : Pos) (Q : Value → Shared → Prop) (E : Value → Shared → Prop), Ext h₀ s.heap → 0 ≤ i → i < n →
    (∀ it tk, (∀ (s₂ : Shared) (u : Tok) (Q' : Value → Shared → Prop) (E' : Value → Shared → Prop), Ext h₀ s₂.heap → Q' (.bool (bl i.toNat)) s₂ → wpAny (model prog w) A (compareOp .Eq it (.str (Str.ofString " ") u)) Q' E' s₂) → Q it { s with toks := tk }) →
    wpAny (model prog w) A (subscriptTail (.Name x px) (.Name y py) v (.int i t)) Q E s
  len : ∀ (s : Shared) (Q : Value → Shared → Prop) (E : Value → Shared → Prop), Ext h₀ s.heap → (∀ tk t, Q (.int n t) { s with toks := tk }) → wpAny (model prog w) A (call (.builtin "len") [v]) Q E s
  slice : ∀ (s : Shared) (i j : Int) (ti tj : Tok) (x : Str) (px p : Pos) (lo hi : Expr) (Q : Value → Shared → Prop) (E : Value → Shared → Prop), Ext h₀ s.heap → 0 ≤ i → i ≤ j → j ≤ n →
    (∀ r h' tk, Ext s.heap h' → R i.toNat j.toNat h' r → Q r { s with heap := h', toks := tk }) →
    wpAny (model prog w) A (subscriptTail (.Name x px) (.Slice (some lo) (some hi) none p) v (.ref s.heap.objs.size)) Q E { s with heap := s.heap.push { cls := .type "slice", data := .fields #[.int i ti, .int j tj, .none] } }

theorem put_same {m : Str → Option Value} {x : Str} {v : Value} (h : m x = some v) : (fun z => if z = x then some v else m z) = m := by funext z; split <;> simp_all
theorem put_map2 (m : Str → Option Value) (x y : Str) (a b a' b' : Option Value) : (fun z => if z = y then b' else if z = x then a' else if z = y then b else if z = x then a else m z) = (fun z => if z = y then b' else if z = x then a' else m z) := by
  funext z; by_cases h : z = y <;> by_cases h' : z = x <;> simp [*]
abbrev m0 (v : Value) (n : Int) (t : Tok) : Str → Option Value := fun y => List.lookup y [(Str.ofString "amount", Value.int n t), (Str.ofString "s", v)]
abbrev m1 (v : Value) (n : Int) (t : Tok) (i j : Int) (t1 t2 : Tok) : Str → Option Value := fun y => if y = Str.ofString "amount" then some (.int j t2) else if y = Str.ofString "lpos" then some (.int i t1) else m0 v n t y
abbrev m2 (v : Value) (n : Int) (t : Tok) (i j : Int) (t1 t2 : Tok) (p q : Int) (t3 t4 : Tok) : Str → Option Value := fun y => if y = Str.ofString "amount" then some (.int q t4) else if y = Str.ofString "rpos" then some (.int p t3) else m1 v n t i j t1 t2 y

/-- how many blanks go: those ahead, those behind -/
def goneL (n : Int) (k1 : Nat) : Nat := if n < 0 then k1 else min n.toNat k1
def goneR (n : Int) (k1 k2 : Nat) : Nat := if n < 0 then k2 else min (n.toNat - k1) k2

theorem sp_body {prog : Program} {w : World} {A : Around} {E : Value → Shared → Prop} {s : Shared} {h₀ : Heap} {L a : Addr} {cd v : Value} {n : Int} {t : Tok} {Q : Flow → Shared → Prop}
   {len k1 k2 : Nat} {bl : Nat → Bool} {R : Nat → Nat → Heap → Value → Prop} (O : SeqOps prog w A h₀ v len bl R)
   (h1 : ∀ i, i < k1 → bl i = true) (h1' : bl k1 = false) (hk : k1 + k2 < len)
   (h2 : ∀ j, j < k2 → bl (len - 1 - j) = true) (h2' : bl (len - 1 - k2) = false)
   {mg mb : Str → Option Value} (hg : h₀.Ns mainGlobals mg) (hlen : mg (Str.ofString "len") = none) (hb : h₀.Ns builtinsNs mb) (hblen : mb (Str.ofString "len") = some (.builtin "len"))
   (F : Fr h₀ L s.heap (m0 v n t)) (hQ : ∀ r h' tk, Ext h₀ h' → R (goneL n k1) (len - goneR n k1 k2) h' r → Q (.ret r) { s with heap := h', toks := tk }) :
   wpAny (model prog w) A (execs (bdOf (stOf 1)) (envOf (Str.ofString "_strip_padding") (scOf (stOf 1)) L a cd)) Q E s := by
  have e : bdOf (stOf 1) = bdOf (stOf 1) := rfl
  conv at e => rhs; whnf
  rw [e]
  refine wpAny_execs_cons ?_
  walk1
  walk1
  walk1
  refine wpAny_execs_cons (wpAny_While ?_)
  rename_i hp1 F1
  refine codeAny_whileLoop (fun j s' => ∃ (i : Nat) (x y : Int) (h : Heap) (tk : Nat) (t1 t2 : Tok), s' = { s with heap := h, toks := tk } ∧ Fr h₀ L h (m1 v n t x y t1 t2) ∧ x = i ∧ y = n - i ∧ j = k1 - i ∧ i ≤ k1 ∧ (n < 0 ∨ (i : Int) ≤ n)) ?_ k1
    ⟨0, 0, n, _, _, s.toks, t, rfl, ?_, by omega, by omega, by omega, by omega, by omega⟩
  rotate_left
  · have q := put_same (m := fun y => if y = Str.ofString "lpos" then some (Value.int 0 s.toks) else m0 v n t y) (x := Str.ofString "amount") (v := .int n t) (by with_unfolding_all rfl)
    rw [← q] at F1
    exact F1
  have rest : ∀ (i : Nat) (x y : Int) (h : Heap) (tk : Nat) (t1 t2 : Tok), i = goneL n k1 → x = i → y = n - i → Fr h₀ L h (m1 v n t x y t1 t2) → wpAny (model prog w) A (execs ((bdOf (stOf 1)).drop 2) (envOf (Str.ofString "_strip_padding") (scOf (stOf 1)) L a cd)) Q E { s with heap := h, toks := tk } := by
    intro i x y h tk t1 t2 hi hx hy F'
    rw [e]
    dsimp only [List.drop]
    refine wpAny_execs_cons ?_
    walk1
    walk1
    walk1
    refine ld_builtin_at F' hg hlen hb hblen ?_
    walk1
    walk1
    walk1
    walk1
    refine O.len _ _ _ F'.keep fun tk' t' => ?_
    dsimp only
    walk1
    walk1
    walk1
    rename_i hp2 F2
    refine wpAny_execs_cons (wpAny_While ?_)
    refine codeAny_whileLoop (fun j' s' => ∃ (j : Nat) (p q : Int) (h : Heap) (tk : Nat) (t3 t4 : Tok), s' = { s with heap := h, toks := tk } ∧ Fr h₀ L h (m2 v n t x y t1 t2 p q t3 t4) ∧ p = len - 1 - j ∧ q = n - i - j ∧ j' = k2 - j ∧ j ≤ k2 ∧ (n < 0 ∨ (i + j : Int) ≤ n)) ?_ k2
      ⟨0, len - 1, y, _, _, tk' + 1, t2, rfl, ?_, by omega, by omega, by omega, by omega, by unfold goneL at hi; split at hi <;> omega⟩
    rotate_left
    · have q := put_same (m := fun z => if z = Str.ofString "rpos" then some (Value.int (len - 1) (tk' + 1)) else m1 v n t x y t1 t2 z) (x := Str.ofString "amount") (v := .int y t2) (by with_unfolding_all rfl)
      rw [← q] at F2
      exact F2
    have rest : ∀ (j : Nat) (p q : Int) (h : Heap) (tk : Nat) (t3 t4 : Tok), j = goneR n k1 k2 → p = len - 1 - j → Fr h₀ L h (m2 v n t x y t1 t2 p q t3 t4) → wpAny (model prog w) A (execs ((bdOf (stOf 1)).drop 4) (envOf (Str.ofString "_strip_padding") (scOf (stOf 1)) L a cd)) Q E { s with heap := h, toks := tk } := by
      intro j p q h tk t3 t4 hj hp F'
      rw [e]
      dsimp only [List.drop]
      refine wpAny_execs_cons ?_
      walk1
      walk1
      walk1
      walk1
      walk1
      walk1
      walk1
      walk1
      walk1
      walk1
      walk1
      walk1
      refine O.slice { s with heap := h, toks := _ } x (p + 1) _ _ _ _ _ _ _ _ _ F'.keep (by omega) ?_ ?_ fun r h' tk' hx' hr => ?_
      · unfold goneR at hj; unfold goneL at hi; split at hj <;> split at hi <;> omega
      · unfold goneR at hj; split at hj <;> omega
      · refine hQ r h' tk' (fun b o e => hx' b o (F'.keep b o e)) ?_
        rw [← hi, ← hj]
        rw [show x.toNat = i by omega, show (p + 1).toNat = len - j by omega] at hr
        exact hr
    rintro j' s' ⟨j, p, q, h', tk', t3, t4, rfl, F', hp, hq, hj', hj, hn⟩
    walk1
    walk1
    walk1
    walk1
    by_cases hz : q = 0
    · rw [if_neg (by simpa using hz), if_neg (by decide)]
      refine wpAny_execs_nil ?_
      dsimp only
      have := rest j p q h' tk' t3 t4 (by unfold goneR; unfold goneL at hi; rw [if_neg (by omega)] at hi ⊢; omega) hp F'
      rw [e] at this
      exact this
    · rw [if_pos (by simpa using hz)]
      walk1
      walk1
      walk1
      walk1
      walk1
      refine O.item _ _ _ _ _ _ _ _ _ F'.keep (by omega) (by omega) fun it tk' heq => ?_
      dsimp only
      walk1
      refine heq _ _ _ _ F'.keep ?_
      walk1
      rw [show p.toNat = len - 1 - j by omega]
      by_cases hik : j < k2
      · rw [h2 j hik, if_pos rfl]
        iterate 15 walk1
        rename_i F''
        dsimp only [m2] at F''
        rw [put_map2] at F''
        exact ⟨k2 - (j + 1), by omega, j + 1, _, _, _, _, _, _, rfl, F'', by omega, by omega, rfl, by omega, by omega⟩
      · obtain rfl : j = k2 := by omega
        rw [h2', if_neg (by decide)]
        walk1
        refine wpAny_execs_nil ?_
        dsimp only
        have := rest j p q h' (tk' + 1) t3 t4 (by unfold goneR; unfold goneL at hi; split at hi <;> split <;> omega) hp F'
        rw [e] at this
        exact this
  rintro j s' ⟨i, x, y, h, tk, t1, t2, rfl, F', hx, hy, hj, hi, hn⟩
  walk1
  walk1
  walk1
  walk1
  by_cases hz : y = 0
  · rw [if_neg (by simpa using hz), if_neg (by decide)]
    refine wpAny_execs_nil ?_
    dsimp only
    have := rest i x y h tk t1 t2 (by unfold goneL; rw [if_neg (by omega)]; omega) hx hy F'
    rw [e] at this
    exact this
  · rw [if_pos (by simpa using hz)]
    walk1
    walk1
    walk1
    walk1
    walk1
    refine O.item _ _ _ _ _ _ _ _ _ F'.keep (by omega) (by omega) fun it tk' heq => ?_
    dsimp only
    walk1
    refine heq _ _ _ _ F'.keep ?_
    walk1
    rw [hx, Int.toNat_natCast]
    by_cases hik : i < k1
    · rw [h1 i hik, if_pos rfl]
      iterate 15 walk1
      rename_i F''
      dsimp only [m1] at F''
      rw [put_map2] at F''
      exact ⟨k1 - (i + 1), by omega, i + 1, _, _, _, _, _, _, rfl, F'', by omega, by omega, rfl, by omega, by omega⟩
    · obtain rfl : i = k1 := by omega
      rw [h1', if_neg (by decide)]
      walk1
      refine wpAny_execs_nil ?_
      dsimp only
      have := rest i x y h (tk' + 1) t1 t2 (by unfold goneL; split <;> omega) hx hy F'
      rw [e] at this
      exact this
end Mine

namespace Mine
abbrev sp : PyData := .str (Str.ofString " ")
theorem canLay_get : ∀ {ds : List PyData}, PyData.canLayAll0 ds = true → ∀ {i : Nat} {d : PyData}, ds[i]? = some d → d.canLay0 = true ∧ d.depth ≤ PyData.depthAll ds
  | [], _, i, d, e => by simp at e
  | x :: ds, h, 0, d, e => by
    have h' : x.canLay0 = true ∧ PyData.canLayAll0 ds = true := by simpa [PyData.canLayAll0] using h
    simp at e; subst e
    exact ⟨h'.1, Nat.le_max_left _ _⟩
  | x :: ds, h, i + 1, d, e => by
    have h' : x.canLay0 = true ∧ PyData.canLayAll0 ds = true := by simpa [PyData.canLayAll0] using h
    simp at e
    have := canLay_get h'.2 e
    exact ⟨this.1, Nat.le_trans this.2 (Nat.le_max_right _ _)⟩
theorem sp_lay : sp.canLay0 = true := by decide +kernel
theorem isList_ext {h h' : Heap} {a : Addr} {vs : Array Value} (l : h.IsList a vs) (x : Ext h h') : h'.IsList a vs := let ⟨o, e, r⟩ := l; ⟨o, x _ _ e, r⟩
theorem isTup_ext {h h' : Heap} {a : Addr} {vs : Array Value} (l : IsTup h a vs) (x : Ext h h') : IsTup h' a vs := let ⟨o, e, r⟩ := l; ⟨o, x _ _ e, r⟩
theorem new_not {X : List Addr} {h₀ h : Heap} {n : Nat} (hX : ∀ x ∈ X, ∃ o, h₀.get? x = some o) (x : Ext h₀ h) (hn : h.objs.size ≤ n) : n ∉ X := fun q => by
  obtain ⟨o, e⟩ := hX n q
  exact absurd (Heap.lt_size (x _ _ e)) (Nat.not_lt.mpr hn)
section
variable {prog : Program} {w : World} {A : Around} {h₀ : Heap} {a : Addr} {vs : Array Value} {ds : List PyData}
theorem eq_sp {s : Shared} {v : Value} {d : PyData} {u : Tok} {Q E : Value → Shared → Prop} (r : Rd s.heap v d) (hc : d.canLay0 = true) (hd : d.depth ≤ 8) (hu : A.units + 64 < cLine) (h : Q (.bool (PyData.eqv d sp)) s) :
    wpAny (model prog w) A (compareOp .Eq v (.str (Str.ofString " ") u)) Q E s := by
  obtain ⟨as, r⟩ := r
  refine SeqAt.compareEq_reads r (.str _ u) hc sp_lay ?_ h
  have := Nat.min_le_left d.depth sp.depth
  omega
theorem ops_list {X : List Addr} (hX : ∀ x ∈ X, ∃ o, h₀.get? x = some o) (hl' : (hid h₀ X).IsList a vs) (r : RdAll (hid h₀ X) vs.toList ds) (hc : PyData.canLayAll0 ds = true) (hd : PyData.depthAll ds ≤ 8) (hn : ds.length ≤ 1000) (hu : A.units + 64 < cLine) :
    SeqOps prog w A h₀ (.ref a) ds.length (fun i => PyData.eqv (ds.getD i .none) sp) (fun i j h' v => Rd (hid h' X) v (.list ((ds.drop i).take (j - i)))) where
  item := by
    intro s i t x y px py Q E hx h0 hi hQ
    have hk : ds[i.toNat]? = some (ds.getD i.toNat .none) := by
      rw [List.getD_eq_getElem?_getD, List.getElem?_eq_getElem (by omega)]; rfl
    obtain ⟨v, e1, e2⟩ := r.get hk
    have hl2 := canLay_get hc hk
    refine item_list (isList_ext hl' (hid_sub.trans hx)) h0 (by omega) (by simpa using e1) (hQ v s.toks ?_)
    intro s₂ u Q' E' hx' h
    exact eq_sp (e2.ext (hid_sub.trans hx')) hl2.1 (by omega) hu h
  len := by
    intro s Q E hx hQ
    have e : vs.size = ds.length := by simpa using r.length
    refine len_list (isList_ext hl' (hid_sub.trans hx)) (by omega) ?_
    rw [e]; exact hQ _ _
  slice := by
    intro s i j ti tj x px p lo hi Q E hx h0 hij hj hQ
    have e : vs.size = ds.length := by simpa using r.length
    have hl'' := (isList_ext hl' (hid_sub.trans hx)).push { cls := .type "slice", data := .fields #[.int i ti, .int j tj, .none] }
    refine subscriptTail_ops (s := { s with heap := s.heap.push { cls := .type "slice", data := .fields #[.int i ti, .int j tj, .none] } }) (Heap.IsList.typeIs (s := { s with heap := s.heap.push { cls := .type "slice", data := .fields #[.int i ti, .int j tj, .none] } }) hl'') list_getitem_lookup
      (wpAny_getItem_list_slice hl'' (Heap.IsSliceOf.new ..) (.int i ti) (.int j tj) .none (by simp) ?_ (Nat.le_trans (by omega : vs.size ≤ 1000) (by decide))) (by with_unfolding_all rfl) (by intro _; with_unfolding_all rfl)
    have ei : i = (i.toNat : Int) := by omega
    have ej : j = (j.toNat : Int) := by omega
    rw [show slicePick vs (some i) (some j) none = ((vs.toList.drop i.toNat).take (j.toNat - i.toNat)).toArray from by
      rw [ei, ej, slicePick_run vs i.toNat j.toNat (by omega) (by omega)]; rw [← ei, ← ej]]
    refine hQ _ _ _ (fun b o e => Heap.get?_push_of_some _ (Heap.get?_push_of_some _ e)) ?_
    refine Rd.of_list ⟨_, hid_get (Heap.get?_push_size _ rfl) (new_not hX hx (by rw [Heap.size_push]; exact Nat.le_succ _)), rfl, _, rfl⟩ ?_
    exact ((r.ext (hid_ext (fun b o e => Heap.get?_push_of_some _ (Heap.get?_push_of_some _ (hx b o e))))).drop _).take _

theorem sliceApplied_both {E : Value → Shared → Prop} {s : Shared} {sl : Addr} {a b n : Nat} {u u' : Tok} {Q : Int × Int × Nat → Shared → Prop} (hs : s.heap.IsSliceOf sl (.int a u) (.int b u') .none) (hab : a ≤ b) (hb : b ≤ n) (h : Q ((a : Int), 1, b - a) s) :
    wpAny (model prog w) A (Builtin.Slice.sliceApplied (.ref sl) (pure (n : Int))) Q E s := by
  obtain ⟨os, hos, hcs, hds⟩ := id hs
  unfold Builtin.Slice.sliceApplied Builtin.Slice.sliceFields
  refine wpAny_bind (wpAny_bind (wpAny_field hos hds (x := .int a u) rfl (wpAny_bind (wpAny_field hos hds (x := .int b u') rfl (wpAny_bind (wpAny_field hos hds (x := .none) rfl (wpAny_pure ?_)))))))
  refine wpAny_bind (slicePart_none ?_)
  show wpAny _ _ (if ((1 : Int) == 0) = true then _ else _) _ _ s
  rw [if_neg (by decide)]
  refine wpAny_bind (slicePart_int (wpAny_bind (slicePart_int (wpAny_bind (wpAny_pure ?_)))))
  show wpAny _ _ (match Builtin.Slice.sliceAdjust (some (a : Int)) (some (b : Int)) 1 (n : Int) with | (lo, hi) => pure (lo, (1 : Int), Builtin.Slice.slicePlaces lo hi 1)) _ _ s
  have e1 : Builtin.Slice.sliceAdjust (some (a : Int)) (some (b : Int)) 1 (n : Int) = ((a : Int), (b : Int)) := by
    unfold Builtin.Slice.sliceAdjust
    have h1 : ¬ ((1 : Int) < 0) := by omega
    have h2 : ¬ ((a : Int) < 0) := by omega
    have h3 : ¬ ((b : Int) < 0) := by omega
    simp only [h1, h2, h3, if_false]
    congr 1 <;> omega
  have e2 : Builtin.Slice.slicePlaces (a : Int) (b : Int) 1 = b - a := by
    unfold Builtin.Slice.slicePlaces
    have h1 : (1 : Int) > 0 := by omega
    simp only [h1, if_true, Int.ediv_one]
    split <;> omega
  rw [e1]
  show wpAny _ _ (pure ((a : Int), (1 : Int), Builtin.Slice.slicePlaces (a : Int) (b : Int) 1)) _ _ s
  rw [e2]
  exact wpAny_pure h
theorem pick_both (xs : Array Value) (a k : Nat) : ((List.range k).filterMap fun (k : Nat) => xs[((a : Int) + (k : Int) * 1).toNat]?).toArray = ((xs.toList.drop a).take k).toArray := by
  have e : (fun (k : Nat) => xs[((a : Int) + (k : Int) * 1).toNat]?) = fun k => xs[a + k]? := by
    funext k
    have : ((a : Int) + (k : Int) * 1).toNat = a + k := by omega
    rw [this]
  rw [e]
  have := pick_run xs a k
  rw [List.filterMap_map] at this
  have e2 : ((fun x => xs[x]?) ∘ fun x => a + x) = fun k => xs[a + k]? := rfl
  rw [e2] at this
  rw [this]
theorem getItem_tuple_both {E : Value → Shared → Prop} {s : Shared} {t sl : Addr} {items : Array Value} {a b : Nat} {u u' : Tok} {Q : Value → Shared → Prop} (ht : IsTup s.heap t items) (hs : s.heap.IsSliceOf sl (.int a u) (.int b u') .none) (hab : a ≤ b) (hb : b ≤ items.size) (hsz : items.size ≤ sizeLine)
    (h0 : a = 0 → b = items.size → Q (.ref t) s)
    (h : Q (.ref s.heap.objs.size) { s with heap := s.heap.push { cls := .type "tuple", data := .seq ((items.toList.drop a).take (b - a)).toArray } }) : wpAny (model prog w) A (getItem (.ref t) (.ref sl)) Q E s := by
  have hdrop : sizeOk (.seq ((items.toList.drop a).take (b - a)).toArray) := by
    show ((items.toList.drop a).take (b - a)).toArray.size ≤ sizeLine
    rw [List.size_toArray, List.length_take, List.length_drop, Array.length_toList]
    omega
  obtain ⟨os, hos, hcs, hds⟩ := id hs
  have hTs : s.TypeIs (.ref sl) "slice" := ⟨os, hos, hcs⟩
  unfold getItem
  try with_reducible refine wpAny_holding ?_
  first | refine wpAny_bind (wpAny_pure ?_) | skip
  refine wpAny_bind (wpAny_sequenceKey ht.typeIs (by decide) ?_)
  refine wpAny_bind (wpAny_callSpecial?_slot (name := Str.ofString "__getitem__") ht.typeIs slot_tuple_getitem
    (wpAny_call_entry slot_tuple_getitem ht.typeIs entry_tuple_getitem ?_ (args_tuple_getitem _ _)))
  show wpAny _ _ (Builtin.Tuple.tupleItemsOf (.ref t) >>= _) _ _ s
  refine wpAny_bind (tupleItemsOf_ ht ?_)
  refine wpAny_bind (wpAny_typeOf hTs ?_)
  rw [if_pos (by decide)]
  refine wpAny_bind (sliceApplied_both hs hab hb ?_)
  dsimp only
  by_cases hw : ((a : Int) == 0 && (1 : Int) == 1 && (b - a) == items.size) = true
  · rw [if_pos hw]
    simp only [Bool.and_eq_true, beq_iff_eq] at hw
    refine wpAny_bind (wpAny_bind (wpAny_typeOf ht.typeIs (wpAny_pure ?_)))
    rw [if_pos (by decide)]
    exact wpAny_bind (wpAny_rule (wpAny_pure ⟨_, rfl, wpAny_pure (h0 (by omega) (by omega))⟩))
  · rw [if_neg hw, pick_both items a (b - a)]
    exact wpAny_bind (m := Builtin.Tuple.tupleExact _) (wpAny_newObj_type (wpAny_pure ⟨_, rfl, wpAny_pure h⟩) hdrop)
theorem ops_tuple {X : List Addr} (hX : ∀ x ∈ X, ∃ o, h₀.get? x = some o) (hl' : IsTup (hid h₀ X) a vs) (r : RdAll (hid h₀ X) vs.toList ds) (hc : PyData.canLayAll0 ds = true) (hd : PyData.depthAll ds ≤ 8) (hn : ds.length ≤ 1000) (hu : A.units + 64 < cLine) :
    SeqOps prog w A h₀ (.ref a) ds.length (fun i => PyData.eqv (ds.getD i .none) sp) (fun i j h' v => Rd (hid h' X) v (.tuple ((ds.drop i).take (j - i)))) where
  item := by
    intro s i t x y px py Q E hx h0 hi hQ
    have hk : ds[i.toNat]? = some (ds.getD i.toNat .none) := by
      rw [List.getD_eq_getElem?_getD, List.getElem?_eq_getElem (by omega)]; rfl
    obtain ⟨v, e1, e2⟩ := r.get hk
    have hl2 := canLay_get hc hk
    have e : vs.size = ds.length := by simpa using r.length
    refine item_tuple (isTup_ext hl' (hid_sub.trans hx)) (by omega) (by omega) (j := i.toNat) ?_ (by simpa using e1) (hQ v s.toks ?_)
    · unfold seqIndex?
      rw [e]
      simp only [if_neg (show ¬ i < 0 by omega)]
      rw [if_pos (by simp; omega)]
    intro s₂ u Q' E' hx' h
    exact eq_sp (e2.ext (hid_sub.trans hx')) hl2.1 (by omega) hu h
  len := by
    intro s Q E hx hQ
    have e : vs.size = ds.length := by simpa using r.length
    refine len_tuple (isTup_ext hl' (hid_sub.trans hx)) (by omega) ?_
    rw [e]; exact hQ _ _
  slice := by
    intro s i j ti tj x px p lo hi Q E hx h0 hij hj hQ
    have e : vs.size = ds.length := by simpa using r.length
    have hl'' : IsTup (s.heap.push { cls := .type "slice", data := .fields #[.int i ti, .int j tj, .none] }) a vs := isTup_ext hl' (hid_sub.trans (hx.trans (Ext.push _ _)))
    have ei : i = (i.toNat : Int) := by omega
    have ej : j = (j.toNat : Int) := by omega
    refine subscriptTail_ops (s := { s with heap := s.heap.push { cls := .type "slice", data := .fields #[.int i ti, .int j tj, .none] } }) hl''.typeIs slot_tuple_getitem.lookup
      (getItem_tuple_both hl'' (a := i.toNat) (b := j.toNat) (u := ti) (u' := tj) (by rw [← ei, ← ej]; exact Heap.IsSliceOf.new ..) (by omega) (by omega) (Nat.le_trans (by omega : vs.size ≤ 1000) (by decide)) (fun q1 q2 => ?_) ?_) (by with_unfolding_all rfl) (by intro _; with_unfolding_all rfl)
    · refine hQ _ _ _ (Ext.push _ _) ?_
      rw [q1, q2, Nat.sub_zero, List.drop_zero, e, List.take_length]
      exact (Rd.of_tuple hl' r).ext (hid_ext (hx.trans (Ext.push _ _)))
    · refine hQ _ _ _ (fun b o e => Heap.get?_push_of_some _ (Heap.get?_push_of_some _ e)) ?_
      refine Rd.of_tuple ⟨_, hid_get (Heap.get?_push_size _ rfl) (new_not hX hx (by rw [Heap.size_push]; exact Nat.le_succ _)), rfl, _, rfl⟩ ?_
      exact ((r.ext (hid_ext (fun b o e => Heap.get?_push_of_some _ (Heap.get?_push_of_some _ (hx b o e))))).drop _).take _
theorem ops_str {X : List Addr} {x : Str} {t₀ : Tok} (hn : x.length ≤ 1000) (hu : A.units + 64 < cLine) :
    SeqOps prog w A h₀ (.str x t₀) x.length (fun i => x.cps.toList.getD i 0 == 32) (fun i j h' v => Rd (hid h' X) v (.str ⟨((x.cps.toList.drop i).take (j - i)).toArray⟩)) where
  item := by
    intro s i t y z px py Q E hx h0 hi hQ
    refine item_str (fitsSsize_of (N := 9223372036854775808) (by omega) (by omega) (Int.le_refl _)) (by omega) (by omega) (fun _ => hQ _ _ ?_)
    intro s₂ u Q' E' hx' h
    have hlen : x.cps.toList.length = x.length := by simp [Str.length]
    have hk : x.cps[i.toNat]? = some (x.cps.toList.getD i.toNat 0) := by
      rw [← Array.getElem?_toList, List.getD_eq_getElem?_getD, List.getElem?_eq_getElem (by omega)]; rfl
    rw [item_meets h0 hk]
    refine PyProof.Rows.eq_str ?_
    rw [show ((⟨#[x.cps.toList.getD i.toNat 0]⟩ : Str) == Str.ofString " ") = (x.cps.toList.getD i.toNat 0 == 32) from by
      rw [show Str.ofString " " = ⟨#[32]⟩ by decide +kernel, Bool.eq_iff_iff, beq_iff_eq, beq_iff_eq]
      constructor
      · intro q; injection q with q; simpa using q
      · intro q; rw [q]]
    exact h
  len := by
    intro s Q E hx hQ
    exact len_str (by omega) (hQ _ _)
  slice := by
    intro s i j ti tj y px p lo hi Q E hx h0 hij hj hQ
    refine tail_of_ItemOn (SBH.sliceItem_ss (P := fun h => Ext s.heap h) (fun h o e => e.trans (Ext.push _ _)) (Ext.rfl _) (fun h' t' k hx' => hQ _ _ _ hx' ?_) (Nat.le_trans hn (by decide))) (by with_unfolding_all rfl) (by intro _; with_unfolding_all rfl)
    have := slice_closesL (x := x) h0 hij hj
    rw [beq_iff_eq] at this
    rw [this, show (j - i).toNat = j.toNat - i.toNat by omega]
    exact Rd.str _ _ _
end
end Mine

namespace Mine
theorem getD_app {α : Type} (l l' : List α) (d : α) (n : Nat) (h : n < l.length) : (l ++ l').getD n d = l.getD n d := by
  rw [List.getD_eq_getElem?_getD, List.getElem?_append_left h, List.getD_eq_getElem?_getD]
theorem getD_app_right {α : Type} (l l' : List α) (d : α) (n : Nat) (h : l.length ≤ n) : (l ++ l').getD n d = l'.getD (n - l.length) d := by
  rw [List.getD_eq_getElem?_getD, List.getElem?_append_right h, List.getD_eq_getElem?_getD]
section
variable {α : Type} (z : α) (mid : List α) (a b : Nat)
def pad : List α := List.replicate a z ++ (mid ++ List.replicate b z)
theorem pad_length : (pad z mid a b).length = a + (mid.length + b) := by simp [pad]
theorem pad_ahead {i : Nat} (h : i < a) (d : α) : (pad z mid a b).getD i d = z := by
  unfold pad
  rw [getD_app _ _ _ _ (by simpa using h), List.getD_eq_getElem?_getD, List.getElem?_replicate, if_pos h]; rfl
theorem pad_first (h : 1 ≤ mid.length) (d : α) : (pad z mid a b).getD a d = mid.getD 0 d := by
  unfold pad
  rw [getD_app_right _ _ _ _ (by simp), List.length_replicate, Nat.sub_self, getD_app _ _ _ _ (by omega)]
theorem pad_behind {j : Nat} (h : j < b) (d : α) : (pad z mid a b).getD (a + (mid.length + b) - 1 - j) d = z := by
  unfold pad
  rw [getD_app_right _ _ _ _ (by simp; omega), List.length_replicate, getD_app_right _ _ _ _ (by omega), List.getD_eq_getElem?_getD, List.getElem?_replicate, if_pos (by omega)]; rfl
theorem pad_last (h : 1 ≤ mid.length) (d : α) : (pad z mid a b).getD (a + (mid.length + b) - 1 - b) d = mid.getD (mid.length - 1) d := by
  unfold pad
  rw [getD_app_right _ _ _ _ (by simp; omega), List.length_replicate, getD_app _ _ _ _ (by omega)]
  congr 1; omega
theorem pad_cut {l r : Nat} (hl : l ≤ a) (hr : r ≤ b) : ((pad z mid a b).drop l).take (a + (mid.length + b) - r - l) = pad z mid (a - l) (b - r) := by
  have e : (pad z mid a b).drop l = pad z mid (a - l) (b - r) ++ List.replicate r z := by
    unfold pad
    rw [List.drop_append_of_le_length (by simpa using hl), List.drop_replicate, List.append_assoc, List.append_assoc, List.replicate_append_replicate, Nat.sub_add_cancel hr]
  rw [e, List.take_left' (by rw [pad_length]; omega)]
end
inductive Ink where
  | txt (x : Str)
  | lst (ds : List PyData)
  | tup (ds : List PyData)
/-- the row of an ink with a blanks ahead and b behind -/
def Ink.row : Ink → Nat → Nat → PyData
  | .txt x, a, b => .str ⟨(pad 32 x.cps.toList a b).toArray⟩
  | .lst ds, a, b => .list (pad sp ds a b)
  | .tup ds, a, b => .tuple (pad sp ds a b)
def goodInk (ds : List PyData) : Prop := 1 ≤ ds.length ∧ ds.length ≤ 8 ∧ PyData.eqv (ds.getD 0 .none) sp = false ∧ PyData.eqv (ds.getD (ds.length - 1) .none) sp = false ∧ PyData.canLayAll0 ds = true ∧ PyData.depthAll ds ≤ 4
def Ink.Ok : Ink → Prop
  | .txt x => 1 ≤ x.length ∧ x.length ≤ 8 ∧ x.cps.toList.getD 0 0 ≠ 32 ∧ x.cps.toList.getD (x.cps.toList.length - 1) 0 ≠ 32 ∧ x.cps.toList.all (· < 0x110000) = true
  | .lst ds => goodInk ds
  | .tup ds => goodInk ds
def Ink.len : Ink → Nat
  | .txt x => x.cps.toList.length
  | .lst ds => ds.length
  | .tup ds => ds.length
theorem Ink.Ok.len {I : Ink} (ok : I.Ok) : 1 ≤ I.len ∧ I.len ≤ 8 := by
  cases I with
  | txt x => obtain ⟨o1, o2, _⟩ := ok; simp only [Ink.len]; simp only [Str.length] at o1 o2; simp; omega
  | lst ds => exact ⟨ok.1, ok.2.1⟩
  | tup ds => exact ⟨ok.1, ok.2.1⟩
theorem canLay_append : ∀ {xs ys : List PyData}, PyData.canLayAll0 xs = true → PyData.canLayAll0 ys = true → PyData.canLayAll0 (xs ++ ys) = true
  | [], _, _, h => h
  | x :: xs, ys, h1, h2 => by
    have h' : x.canLay0 = true ∧ PyData.canLayAll0 xs = true := by simpa [PyData.canLayAll0] using h1
    simp [PyData.canLayAll0, h'.1, canLay_append h'.2 h2]
theorem canLay_rep {d : PyData} (h : d.canLay0 = true) : ∀ n, PyData.canLayAll0 (List.replicate n d) = true
  | 0 => rfl
  | n + 1 => by simp [List.replicate_succ, PyData.canLayAll0, h, canLay_rep h n]
theorem depth_append : ∀ (xs ys : List PyData), PyData.depthAll (xs ++ ys) = max (PyData.depthAll xs) (PyData.depthAll ys)
  | [], ys => by simp [PyData.depthAll]
  | x :: xs, ys => by simp only [List.cons_append, PyData.depthAll, depth_append xs ys]; omega
theorem depth_rep : ∀ n, PyData.depthAll (List.replicate n sp) ≤ 1
  | 0 => by simp [PyData.depthAll]
  | n + 1 => by
    have := depth_rep n
    simp only [List.replicate_succ, PyData.depthAll, PyData.depth]
    omega
theorem pad_lay {ds : List PyData} (h : PyData.canLayAll0 ds = true) (a b : Nat) : PyData.canLayAll0 (pad sp ds a b) = true := canLay_append (canLay_rep sp_lay a) (canLay_append h (canLay_rep sp_lay b))
theorem pad_depth {ds : List PyData} (h : PyData.depthAll ds ≤ 4) (a b : Nat) : PyData.depthAll (pad sp ds a b) ≤ 4 := by
  unfold pad
  rw [depth_append, depth_append]
  have := depth_rep a
  have := depth_rep b
  omega
theorem row_lay {I : Ink} (ok : I.Ok) (a b : Nat) : (I.row a b).canLay0 = true ∧ (I.row a b).depth ≤ 5 := by
  cases I with
  | txt x =>
    obtain ⟨_, _, _, _, h⟩ := ok
    refine ⟨?_, by simp [Ink.row, PyData.depth]⟩
    simp only [Ink.row, PyData.canLay0, PyData.strOk, List.all_toArray, pad, List.all_append, h, Bool.true_and, List.all_replicate, Bool.and_eq_true]
    constructor <;> (split <;> rfl)
  | lst ds =>
    obtain ⟨_, _, _, _, h, hd⟩ := ok
    have := pad_depth hd a b
    exact ⟨pad_lay h a b, by simp only [Ink.row, PyData.depth]; omega⟩
  | tup ds =>
    obtain ⟨_, _, _, _, h, hd⟩ := ok
    have := pad_depth hd a b
    exact ⟨pad_lay h a b, by simp only [Ink.row, PyData.depth]; omega⟩
theorem goneL_le (n : Int) (a : Nat) : goneL n a ≤ a := by unfold goneL; split <;> omega
theorem goneR_le (n : Int) (a b : Nat) : goneR n a b ≤ b := by unfold goneR; split <;> omega
section
variable {prog : Program} {w : World} {A : Around} {E : Value → Shared → Prop} {s : Shared} {h₀ : Heap} {L f : Addr} {cd v : Value} {n : Int} {t : Tok} {Q : Flow → Shared → Prop}
theorem row_ops {X : List Addr} {I : Ink} {a b : Nat} (ok : I.Ok) (ha : a ≤ 10) (hb : b ≤ 10) (hX : ∀ x ∈ X, ∃ o, h₀.get? x = some o) (r : Rd (hid h₀ X) v (I.row a b)) (hu : A.units + 64 < cLine) :
    ∃ bl R, SeqOps prog w A h₀ v (a + (I.len + b)) bl R ∧ (∀ i, i < a → bl i = true) ∧ bl a = false ∧ (∀ j, j < b → bl (a + (I.len + b) - 1 - j) = true) ∧ bl (a + (I.len + b) - 1 - b) = false ∧
      (∀ l r h' v, l ≤ a → r ≤ b → R l (a + (I.len + b) - r) h' v → Rd (hid h' X) v (I.row (a - l) (b - r))) := by
  cases I with
  | txt x =>
    obtain ⟨o1, o2, o3, o4, o5⟩ := ok
    obtain ⟨t', rfl⟩ := r.str_inv
    have hxl : x.cps.toList.length = x.length := by simp [Str.length]
    have hl : (⟨(pad 32 x.cps.toList a b).toArray⟩ : Str).length = a + (x.cps.toList.length + b) := by simp [Str.length, pad_length]
    have O := ops_str (prog := prog) (w := w) (A := A) (h₀ := h₀) (X := X) (x := ⟨(pad 32 x.cps.toList a b).toArray⟩) (t₀ := t') (by rw [hl]; omega) hu
    rw [hl] at O
    refine ⟨_, _, O, ?_, ?_, ?_, ?_, ?_⟩
    · intro i hi; simp only [pad_ahead _ _ _ _ hi]; rfl
    · simp only [pad_first 32 x.cps.toList a b (by omega) 0]; simpa using o3
    · intro j hj; simp only [Ink.len, pad_behind _ _ _ _ hj]; rfl
    · simp only [Ink.len, pad_last 32 x.cps.toList a b (by omega) 0]; simpa using o4
    · intro l r h' v l1 l2 hr
      simp only [Ink.len, pad_cut 32 x.cps.toList a b l1 l2] at hr
      exact hr
  | lst ds =>
    obtain ⟨o1, o2, o3, o4, o5, o6⟩ := ok
    obtain ⟨l, vs, rfl, hl, hr⟩ := r.list_inv
    have hd := pad_depth o6 a b
    have hpl := pad_length sp ds a b
    have O := ops_list (prog := prog) (w := w) (A := A) hX hl hr (pad_lay o5 a b) (by omega) (by omega) hu
    rw [hpl] at O
    refine ⟨_, _, O, ?_, ?_, ?_, ?_, ?_⟩
    · intro i hi; simp only [pad_ahead _ _ _ _ hi]; decide +kernel
    · simp only [pad_first sp ds a b (by omega) .none]; exact o3
    · intro j hj; simp only [Ink.len, pad_behind _ _ _ _ hj]; decide +kernel
    · simp only [Ink.len, pad_last sp ds a b (by omega) .none]; exact o4
    · intro l r h' v l1 l2 hr
      simp only [Ink.len, pad_cut sp ds a b l1 l2] at hr
      exact hr
  | tup ds =>
    obtain ⟨o1, o2, o3, o4, o5, o6⟩ := ok
    obtain ⟨l, vs, rfl, hl, hr⟩ := r.tuple_inv
    have hd := pad_depth o6 a b
    have hpl := pad_length sp ds a b
    have O := ops_tuple (prog := prog) (w := w) (A := A) hX hl hr (pad_lay o5 a b) (by omega) (by omega) hu
    rw [hpl] at O
    refine ⟨_, _, O, ?_, ?_, ?_, ?_, ?_⟩
    · intro i hi; simp only [pad_ahead _ _ _ _ hi]; decide +kernel
    · simp only [pad_first sp ds a b (by omega) .none]; exact o3
    · intro j hj; simp only [Ink.len, pad_behind _ _ _ _ hj]; decide +kernel
    · simp only [Ink.len, pad_last sp ds a b (by omega) .none]; exact o4
    · intro l r h' v l1 l2 hr
      simp only [Ink.len, pad_cut sp ds a b l1 l2] at hr
      exact hr
theorem strip_body {X : List Addr} {I : Ink} {a b : Nat} (ok : I.Ok) (ha : a ≤ 10) (hb' : b ≤ 10) (hX : ∀ x ∈ X, ∃ o, h₀.get? x = some o) (r : Rd (hid h₀ X) v (I.row a b)) (hu : A.units + 64 < cLine)
   {mg mb : Str → Option Value} (hg : h₀.Ns mainGlobals mg) (hlen : mg (Str.ofString "len") = none) (hb : h₀.Ns builtinsNs mb) (hblen : mb (Str.ofString "len") = some (.builtin "len"))
   (F : Fr h₀ L s.heap (m0 v n t)) (hQ : ∀ r h' tk, Ext h₀ h' → Rd (hid h' X) r (I.row (a - goneL n a) (b - goneR n a b)) → Q (.ret r) { s with heap := h', toks := tk }) :
   wpAny (model prog w) A (execs (bdOf (stOf 1)) (envOf (Str.ofString "_strip_padding") (scOf (stOf 1)) L f cd)) Q E s := by
  obtain ⟨bl, R, O, p1, p2, p3, p4, p5⟩ := row_ops (prog := prog) (w := w) (A := A) ok ha hb' hX r hu
  have := ok.len
  exact sp_body O p1 p2 (by omega) p3 p4 hg hlen hb hblen F fun r h' tk hx hr => hQ r h' tk hx (p5 _ _ _ _ (goneL_le n a) (goneR_le n a b) hr)
end
end Mine

namespace Mine
/-- the def number i of the text stands at f under its name -/
def FnAt (mg : Str → Option Value) (h : Heap) (i : Nat) (f : Addr) : Prop :=
  ∃ o pm cd doc, mg (nmOf (stOf i)) = some (.ref f) ∧ h.get? f = some o ∧ o.data = .func (Calls.docDef (nmOf (stOf i)) (arOf (stOf i)) (bdOf (stOf i)) (scOf (stOf i)) pm cd doc) ∧ h.CodeRec cd (nmOf (stOf i))
def used : List Str := [Str.ofString "len", Str.ofString "min", Str.ofString "max", Str.ofString "sum", Str.ofString "range", Str.ofString "list", Str.ofString "tuple", Str.ofString "dict", Str.ofString "sorted", Str.ofString "TypeError", Str.ofString "ValueError"]
structure Gd (mg mb : Str → Option Value) (h : Heap) : Prop where
  g : h.Ns mainGlobals mg
  b : h.Ns builtinsNs mb
  nolimit : h.NoLimit
  bt : ∀ x : Str, x ≠ "__name__" → mb x = bootBuiltins x
  miss : ∀ x ∈ used, mg x = none
  fn : ∀ i ∈ [1, 4, 5, 7, 8, 9, 10, 11], ∃ f, FnAt mg h i f
/-- every object stands as it stood, but the slots of the frames -/
def ExtF (fs : List Addr) (h h' : Heap) : Prop := (∀ b o, h.get? b = some o → b ∉ fs → h'.get? b = some o) ∧ (∀ b o, h.get? b = some o → ∃ sl, h'.get? b = some { o with slots := sl })
theorem ExtF.of_ext {fs : List Addr} {h h' : Heap} (x : Ext h h') : ExtF fs h h' := ⟨fun b o e _ => x b o e, fun b o e => ⟨o.slots, x b o e⟩⟩
theorem ExtF.trans {fs : List Addr} {a b c : Heap} (x : ExtF fs a b) (y : ExtF fs b c) : ExtF fs a c :=
  ⟨fun i o e n => y.1 i o (x.1 i o e n) n, fun i o e => let ⟨_, e1⟩ := x.2 i o e; let ⟨sl, e2⟩ := y.2 i _ e1; ⟨sl, e2⟩⟩
theorem ns_extF {fs : List Addr} {h h' : Heap} {L : Addr} {m : Str → Option Value} (x : ExtF fs h h') (n : h.Ns L m) : h'.Ns L m := by
  obtain ⟨o, es, ep, ho, hd, r⟩ := n
  obtain ⟨sl, e⟩ := x.2 _ _ ho
  exact ⟨_, es, ep, e, hd, r⟩
theorem Gd.ext {mg mb : Str → Option Value} {h h' : Heap} (G : Gd mg mb h) (x : Ext h h') : Gd mg mb h' where
  g := G.g.keeps x
  b := G.b.keeps x
  nolimit := G.nolimit.keeps x
  bt := G.bt
  miss := G.miss
  fn := fun i hi => let ⟨f, o, pm, cd, doc, a, b, c, d⟩ := G.fn i hi; ⟨f, o, pm, cd, doc, a, x _ _ b, c, d.keeps x⟩
theorem codeRec_extF {fs : List Addr} {h h' : Heap} {cd : Value} {q : Str} (x : ExtF fs h h') (c : h.CodeRec cd q) : h'.CodeRec cd q := by
  obtain ⟨c, o, vs, t, e1, e2, e3, e4⟩ := c
  obtain ⟨sl, q⟩ := x.2 _ _ e2
  exact ⟨c, _, vs, t, e1, q, e3, e4⟩
theorem FnAt.extF {fs : List Addr} {mg : Str → Option Value} {h h' : Heap} {i : Nat} {f : Addr} (y : FnAt mg h i f) (x : ExtF fs h h') : FnAt mg h' i f := by
  obtain ⟨o, pm, cd, doc, a, b, c, d⟩ := y
  obtain ⟨sl, q⟩ := x.2 _ _ b
  exact ⟨_, pm, cd, doc, a, q, c, codeRec_extF x d⟩
theorem Gd.extF {fs : List Addr} {mg mb : Str → Option Value} {h h' : Heap} (G : Gd mg mb h) (x : ExtF fs h h') : Gd mg mb h' where
  g := ns_extF x G.g
  b := ns_extF x G.b
  nolimit := let ⟨mc, a, b⟩ := G.nolimit; ⟨mc, ns_extF x a, b⟩
  bt := G.bt
  miss := G.miss
  fn := fun i hi => let ⟨f, y⟩ := G.fn i hi; ⟨f, y.extF x⟩
section
variable {prog : Program} {w : World} {A : Around} {E : Value → Shared → Prop} {s : Shared} {h₀ : Heap} {L a : Addr} {m mg mb : Str → Option Value} {name : Str} {scope : Scope} {cd : Value}
/-- a built-in's name in a frame of the text -/
theorem ld_bt {x : Str} {pos : Pos} {v : Value} {Q : Value → Shared → Prop} (F : Fr h₀ L s.heap m) (G : Gd mg mb h₀) (hx : x ∈ used) (hv : bootBuiltins x = some v) (hn : x ≠ "__name__") (h : Q v s)
    (hk : scope.kind = .function := by rfl) (hxk : (envOf name scope L a cd).kindOf x = some .globalImplicit := by rfl) (hd : (x == ("__debug__" : Str)) = false := by decide) :
    wpAny (model prog w) A (eval (.Name x pos) (envOf name scope L a cd)) Q E s :=
  ld_builtin_at F G.g (G.miss x hx) G.b ((G.bt x hn).trans hv) h hk hxk hd
/-- a call of a def of the text that raises nothing -/
theorem call_fn {i : Nat} {f : Addr} {args : List Value} {binds : List (Str × Value)} {Q : Value → Shared → Prop} (hf : FnAt mg s.heap i f) (hlim : s.heap.NoLimit) (hroom : A.depth < recursionLimit)
    (hbind : ∀ pm cd doc, bindArgs (Calls.docDef (nmOf (stOf i)) (arOf (stOf i)) (bdOf (stOf i)) (scOf (stOf i)) pm cd doc) ⟨args, []⟩ = pure binds)
    (hloc : (binds.all fun x => decide ((scOf (stOf i)).names.lookup x.1 = some .local)) = true)
    (h : ∀ L cd h₁, Fr s.heap L h₁ (fun x => binds.reverse.lookup x) →
      wpAny (model prog w) (A.deeper (envOf (nmOf (stOf i)) (scOf (stOf i)) L f cd)) (execs (bdOf (stOf i)) (envOf (nmOf (stOf i)) (scOf (stOf i)) L f cd))
        (fun fl s' => Q (match fl with | .ret v => v | _ => .none) s') (fun _ _ => False) { s with heap := h₁, toks := s.toks + binds.length })
    (hco : (scOf (stOf i)).isCoroutine = false := by rfl) (hgen : (scOf (stOf i)).isGenerator = false := by rfl) (hk : (scOf (stOf i)).kind = .function := by rfl)
    (hcell : ∀ x ∈ (scOf (stOf i)).names, x.2 ≠ .cell := by decide +kernel) :
    wpAny (model prog w) A (call (.ref f) args) Q E s := by
  obtain ⟨o, pm, cd, doc, _, ho, hd, hc⟩ := hf
  exact wpAny_call (call_plain_ret hroom ho hd hlim hc (hbind pm cd doc) (locs hloc) (fun h₁ F => h _ cd h₁ F) hco hgen hk hcell)
end
section
variable {prog : Program} {w : World} {A : Around} {E : Value → Shared → Prop} {s : Shared} {mg mb : Str → Option Value}
theorem strip_call {X : List Addr} {I : Ink} {a b : Nat} {f : Addr} {v : Value} {n : Int} {t : Tok} {Q : Value → Shared → Prop} (G : Gd mg mb s.heap) (hf : FnAt mg s.heap 1 f) (ok : I.Ok) (ha : a ≤ 10) (hb : b ≤ 10) (hX : ∀ x ∈ X, ∃ o, s.heap.get? x = some o) (r : Rd (hid s.heap X) v (I.row a b)) (hu : A.units + 70 < cLine) (hroom : A.depth < recursionLimit)
    (hQ : ∀ r h' tk, Ext s.heap h' → Rd (hid h' X) r (I.row (a - goneL n a) (b - goneR n a b)) → Q r { s with heap := h', toks := tk }) :
    wpAny (model prog w) A (call (.ref f) [v, .int n t]) Q E s := by
  refine call_fn (binds := [(Str.ofString "s", v), (Str.ofString "amount", .int n t)]) hf G.nolimit hroom (fun _ _ _ => by rfl) (by rfl) (fun L cd h₁ F => ?_)
  refine strip_body (t := t) ok ha hb hX r (by show A.units + 3 + 64 < cLine; omega) G.g (G.miss _ (by decide +kernel)) G.b ((G.bt _ (by decide +kernel)).trans (by decide +kernel)) F (fun r h' tk hx hr => ?_)
  exact hQ r h' tk hx hr
end
end Mine

namespace Mine
/-- what is left of a row when g blanks are gone -/
def Ink.left (I : Ink) (a b g : Nat) : PyData := I.row (a - min g a) (b - (g - a))
section
variable {prog : Program} {w : World} {A : Around} {E : Value → Shared → Prop} {s : Shared} {mg mb : Str → Option Value}
theorem left_call {X : List Addr} {I : Ink} {a b : Nat} {g : Nat} {f : Addr} {v : Value} {t t' : Tok} {Q : Value → Shared → Prop} (G : Gd mg mb s.heap) (hf : FnAt mg s.heap 9 f) (ok : I.Ok) (ha : a ≤ 10) (hb : b ≤ 10) (hg : g ≤ a + b) (hX : ∀ x ∈ X, ∃ o, s.heap.get? x = some o) (r : Rd (hid s.heap X) v (I.row a b)) (hu : A.units + 70 < cLine) (hroom : A.depth < recursionLimit) (hh : A.handled = none)
    (hQ : ∀ r h' tk, Ext s.heap h' → Rd (hid h' X) r (I.left a b g) → Q r { s with heap := h', toks := tk }) :
    wpAny (model prog w) A (call (.ref f) [v, .int a t, .int g t']) Q E s := by
  refine call_fn (binds := [(Str.ofString "row", v), (Str.ofString "ahead", .int a t), (Str.ofString "gone", .int g t')]) hf G.nolimit hroom (fun _ _ _ => by rfl) (by rfl) (fun L cd h₁ F => ?_)
  obtain ⟨bl, R, O, p1, p2, p3, p4, p5⟩ := row_ops (prog := prog) (w := w) (A := A.deeper (envOf (nmOf (stOf 9)) (scOf (stOf 9)) L f cd)) ok ha hb hX r (by show A.units + 3 + 64 < cLine; omega)
  have e : bdOf (stOf 9) = bdOf (stOf 9) := rfl
  conv at e => rhs; whnf
  rw [e]
  refine wpAny_execs_cons ?_
  walk1
  walk1
  walk1
  walk1
  walk1
  walk1
  refine ld_bt (v := .builtin "min") F G (by decide +kernel) (by decide +kernel) (by decide +kernel) ?_
  walk1
  walk1
  walk1
  walk1
  walk1
  walk1
  refine min_two_ints hh (fun h2 tk2 x2 => ?_)
  have F2 := F.grownK x2
  rw [show (if (a : Int) < g then Value.int a t else Value.int g t') = Value.int (min g a : Nat) (if (a : Int) < g then t else t') from by split <;> (congr 1; omega)]
  dsimp only
  walk1
  walk1
  walk1
  refine ld_bt (v := .builtin "len") F2 G (by decide +kernel) (by decide +kernel) (by decide +kernel) ?_
  walk1
  walk1
  walk1
  walk1
  refine O.len _ _ _ F2.keep fun tk3 t3 => ?_
  dsimp only
  walk1
  refine ld_bt (v := .builtin "max") F2 G (by decide +kernel) (by decide +kernel) (by decide +kernel) ?_
  walk1
  walk1
  walk1
  walk1
  walk1
  walk1
  walk1
  walk1
  walk1
  refine max_two_ints hh (fun h4 tk4 x4 => ?_)
  have F4 := F2.grownK x4
  rw [show (if (0 : Int) > g - a then Value.int 0 _ else Value.int (g - a) _) = Value.int (g - a : Nat) (if (0 : Int) > g - a then _ else _) from by split <;> (congr 1; omega)]
  dsimp only
  walk1
  walk1
  have hlen := ok.len
  refine O.slice { s with heap := h4, toks := _ } (min g a : Nat) ((a + (I.len + b) : Nat) - (g - a : Nat)) _ _ _ _ _ _ _ _ _ F4.keep (by omega) (by omega) (by omega) fun r h' tk' hx' hr => ?_
  refine hQ r h' tk' (fun b o e => hx' b o (F4.keep b o e)) (p5 (min g a) (g - a) _ _ (by omega) (by omega) ?_)
  rw [show ((min g a : Nat) : Int).toNat = min g a by omega, show (((a + (I.len + b) : Nat) : Int) - ((g - a : Nat) : Int)).toNat = a + (I.len + b) - (g - a) by omega] at hr
  exact hr
end
end Mine

namespace Mine
section
variable {prog : Program} {w : World} {A : Around} {E : Value → Shared → Prop} {s : Shared} {mg mb : Str → Option Value}
/-- how many blanks are gone by the amounts -/
def goneOf (ns : List Int) (total : Nat) : Nat := if ns.any (· < 0) then total else min ns.sum.toNat total
theorem gone_call {ns : List Int} {vs : List Value} {total : Nat} {l f : Addr} {t : Tok} {Q : Value → Shared → Prop} (G : Gd mg mb s.heap) (hf : FnAt mg s.heap 8 f) (hl : s.heap.IsList l vs.toArray) (hi : IntsAre vs ns) (hne : 0 < ns.length) (hsm : ∀ n ∈ ns, -100 ≤ n ∧ n ≤ 100) (hlen : ns.length ≤ 100) (hroom : A.depth < recursionLimit) (hh : A.handled = none)
    (hQ : ∀ h' tk t', Ext s.heap h' → Q (.int (goneOf ns total : Nat) t') { s with heap := h', toks := tk }) :
    wpAny (model prog w) A (call (.ref f) [.ref l, .int total t]) Q E s := by
  refine call_fn (binds := [(Str.ofString "amounts", .ref l), (Str.ofString "total", .int total t)]) hf G.nolimit hroom (fun _ _ _ => by rfl) (by rfl) (fun L cd h₁ F => ?_)
  have e : bdOf (stOf 8) = bdOf (stOf 8) := rfl
  conv at e => rhs; whnf
  rw [e]
  refine wpAny_execs_cons ?_
  walk1
  walk1
  walk1
  refine ld_bt (v := .builtin "min") F G (by decide +kernel) (by decide +kernel) (by decide +kernel) ?_
  walk1
  walk1
  walk1
  walk1
  refine min_list (s₀ := s) F hh hl hi hne (fun s2 M tk2 x2 hM1 hM2 => ?_)
  obtain ⟨h2, tk2', rfl⟩ := x2.same
  have F2 : Fr s.heap L h2 _ := ⟨x2.ns, x2.keep, x2.fresh⟩
  walk1
  walk1
  walk1
  by_cases hneg : M < 0
  · rw [if_pos (by simpa using hneg)]
    refine wpAny_execs_cons ?_
    walk1
    walk1
    have hany : ns.any (fun x => decide (x < 0)) = true := List.any_eq_true.mpr ⟨M, hM1, by simpa using hneg⟩
    have e2 : goneOf ns total = total := by unfold goneOf; rw [if_pos hany]
    have := hQ h2 (tk2' + 1) t x2.keep
    rw [e2] at this
    exact this
  · rw [if_neg (by simpa using hneg)]
    walk1
    walk1
    walk1
    walk1
    refine ld_bt (v := .builtin "min") F2 G (by decide +kernel) (by decide +kernel) (by decide +kernel) ?_
    walk1
    walk1
    walk1
    refine ld_bt (v := .builtin "sum") F2 G (by decide +kernel) (by decide +kernel) (by decide +kernel) ?_
    walk1
    walk1
    walk1
    walk1
    refine sum_listG (s₀ := s) F2 hh hl hi (fun s3 tk3 x3 => ?_)
    obtain ⟨h3, tk3', rfl⟩ := x3.same
    have F3 : Fr s.heap L h3 _ := ⟨x3.ns, x3.keep, x3.fresh⟩
    walk1
    walk1
    walk1
    refine min_two_ints hh (fun h4 tk4 x4 => ?_)
    have hany : ¬ ns.any (fun x => decide (x < 0)) = true := fun q => by
      obtain ⟨n, hn1, hn2⟩ := List.any_eq_true.mp q
      have := hM2 n hn1
      simp at hn2
      omega
    have hpos : ∀ l : List Int, (∀ n ∈ l, 0 ≤ n) → 0 ≤ l.sum := by
      intro l
      induction l with
      | nil => intro _; exact Int.le_refl 0
      | cons x l ih => intro q; have := ih fun n hn => q n (.tail _ hn); have := q x (.head _); rw [List.sum_cons]; omega
    have h0 := hpos ns fun n hn => by have := hM2 n hn; omega
    have e2 : goneOf ns total = min ns.sum.toNat total := by unfold goneOf; rw [if_neg hany]
    rw [show (if (total : Int) < ns.sum then Value.int total t else Value.int ns.sum tk3) = Value.int (goneOf ns total : Nat) (if (total : Int) < ns.sum then t else tk3) from by rw [e2]; split <;> (congr 1; omega)]
    exact hQ h4 tk4 _ (fun b o e => x4 b o (x3.keep b o e))
end
end Mine

namespace Mine
abbrev lst (ys : List Value) : Obj := LCg.lst ys
/-- one turn of a comprehension: the tests, the element; new objects alone are made -/
def Turn (prog : Program) (w : World) (A : Around) (env : Env) (elt : Expr) (x : Str) (ifs : List Expr) (scope : Scope) (cl : List (Str × Addr)) (s : Shared) (g : Heap) (n : Nat) (P : Nat → Value → Prop) (Inv : List Addr → Nat → List Value → Heap → Prop) : Prop :=
  ∀ i v ys I C D h tk m₂ (E' : Value → Shared → Prop), i < n → P i v → h.Ns C m₂ → m₂ x = some v → Ext g h → (∀ z ∈ [I, C, D], g.get? z = none ∧ ∃ o, h.get? z = some o) → Inv [I, C, D] i ys h →
    wpAny (model prog w) A (forIn ifs true fun c r => if r = true then do let ok ← isTrue c (compEnvC scope cl C env) (eval c (compEnvC scope cl C env)); pure (ForInStep.yield ok) else pure (ForInStep.yield r))
      (fun ok s₃ => ∃ h' tk', s₃ = { s with heap := h', toks := tk' } ∧ Ext h h' ∧
        if ok = true then wpAny (model prog w) A (eval elt (compEnvC scope cl C env)) (fun y s₄ => ∃ h'' tk'', s₄ = { s with heap := h'', toks := tk'' } ∧ Ext h' h'' ∧ Inv [I, C, D] (i + 1) (ys ++ [y]) h'') E' s₃
        else Inv [I, C, D] (i + 1) ys h') E' { s with heap := h, toks := tk }
def Steady (Inv : List Addr → Nat → List Value → Heap → Prop) : Prop := ∀ X i ys h h', (∀ b o, b ∉ X → h.get? b = some o → h'.get? b = some o) → Inv X i ys h → Inv X i ys h'
section
variable {prog : Program} {w : World} {A : Around} {E : Value → Shared → Prop} {s : Shared} {env : Env}
theorem lc_block {elt iter : Expr} {x : Str} {px : Pos} {ifs : List Expr} {scope : Scope} {cl : List (Str × Addr)} {pos : Pos} {I : Addr} {fp : List Addr} {n : Nat} {P : Nat → Value → Prop} {St : Nat → Heap → Prop} {g : Heap}
    {Inv : List Addr → Nat → List Value → Heap → Prop} {RR : Value → Addr → Result → Shared → Prop}
    (W : Walks prog w A I fp [I] n P St) (hsz : n ≤ sizeLine) (hIo : ∀ i h, St i h → ∃ o, h.get? I = some o)
    (hcell : ∀ y ∈ scope.names, y.2 ≠ .cell) (hkind : scope.kind = .function) (hx : scope.names.lookup x = some .local) (hst : St 0 s.heap) (hfp : ∀ b ∈ fp, b < s.heap.objs.size)
    (hg : Ext g s.heap) (hgI : g.get? I = none) (steady : Steady Inv) (h0 : ∀ C D h, (∀ z ∈ [I, C, D], g.get? z = none) → Ext g h → Inv [I, C, D] 0 [] h)
    (T : Turn prog w A env elt x ifs scope cl s g n P Inv)
    (hRR : ∀ D C h tk m' ys, Ext g h → h.Ns C m' → h.get? D = some (lst ys) → g.get? C = none → g.get? D = none → g.get? I = none → C ≠ D → ys.length ≤ n → Inv [I, C, D] n ys h → RR (.ref D) C (.ok .next) { s with heap := h, toks := tk }) :
    wpAny (model prog w) A (newList []) (fun acc s₃ => wpAny (model prog w) A (newFunctionEnv scope env.globals cl [] env.qual none .none (some env)) (fun cenv s₄ =>
      codeAny (model prog w) A (.compStart (.ListComp elt [⟨.Name x px, iter, ifs, 0⟩] scope pos) 0 (.ref I) acc { cenv with scope := relabel scope env }) (RR acc cenv.locals) s₄) E s₃) E s := by
  refine wpAny_newObj_type (wpAny_newFunctionEnv hcell (by intro y hy; simp at hy) (fun h₁ hns₁ hsb₁ => ?_) hkind)
  dsimp only at hns₁ hsb₁ ⊢
  generalize hH2 : s.heap.push { cls := .type "list", dict := none, data := .seq ([] : List Value).toArray } = H2 at hns₁ hsb₁ ⊢
  have hC : H2.objs.size = s.heap.objs.size + 1 := by rw [← hH2, Heap.size_push]
  have hDC : s.heap.objs.size ≠ H2.objs.size := by rw [hC]; exact Nat.ne_of_lt (Nat.lt_succ_self _)
  have below : ∀ b, b < s.heap.objs.size → b ≠ H2.objs.size ∧ b ≠ s.heap.objs.size := fun b hb => ⟨by rw [hC]; exact Nat.ne_of_lt (Nat.lt_succ_of_lt hb), Nat.ne_of_lt hb⟩
  have hDf : s.heap.objs.size ∉ fp := fun hm => Nat.lt_irrefl _ (hfp _ hm)
  have hCf : H2.objs.size ∉ fp := fun hm => by have := hfp _ hm; rw [hC] at this; exact Nat.lt_irrefl _ (Nat.lt_of_succ_lt this)
  have hIf : I ∈ fp := W.sub I (List.mem_singleton.mpr rfl)
  have hIlt : I < s.heap.objs.size := hfp I hIf
  have old : ∀ b o, s.heap.get? b = some o → h₁.get? b = some o := fun b o e => hsb₁.extBut b o (below b (Heap.lt_size e)).1 (Heap.get?_push_of_some _ (hH2 ▸ Heap.get?_push_of_some _ e))
  have hacc : h₁.get? s.heap.objs.size = some (lst []) := hsb₁.extBut _ _ hDC (Heap.get?_push_of_some _ (hH2 ▸ Heap.get?_push_size _ rfl))
  have hst₁ : St 0 h₁ := W.frame _ _ _ hst fun b _ o e => old b o e
  have fresh : ∀ a, s.heap.objs.size ≤ a → g.get? a = none := fun a ha => by
    cases e : g.get? a with
    | none => rfl
    | some o' => exact absurd (Heap.lt_size (hg _ _ e)) (Nat.not_lt.mpr ha)
  have hD₀ : g.get? s.heap.objs.size = none := fresh _ (Nat.le_refl _)
  have hC₀ : g.get? H2.objs.size = none := fresh _ (by rw [hC]; exact Nat.le_succ _)
  have hCI : I ≠ H2.objs.size := (below I hIlt).1
  have hDI : I ≠ s.heap.objs.size := (below I hIlt).2
  have gX : ∀ z ∈ [I, H2.objs.size, s.heap.objs.size], g.get? z = none := by
    intro z hz
    simp only [List.mem_cons, List.not_mem_nil, or_false] at hz
    rcases hz with rfl | rfl | rfl
    · exact hgI
    · exact hC₀
    · exact hD₀
  have loop : ∀ s₃ : Shared, s₃ = { s with heap := h₁, toks := s.toks + ([] : List (Str × Value)).length } →
      codeAny (model prog w) A (.compLoop (.ListComp elt [⟨.Name x px, iter, ifs, 0⟩] scope pos) 0 (.ref I) (.ref s.heap.objs.size) (compEnvC scope cl H2.objs.size env))
        (RR (.ref s.heap.objs.size) H2.objs.size) s₃ := by
    rintro s₃ rfl
    refine codeAny_compLoop_tests
      (fun k s' => ∃ h' tk i ys m', s' = { s with heap := h', toks := tk } ∧ i ≤ n ∧ k = n + 1 - i ∧ ys.length ≤ i ∧ St i h' ∧ Ext g h' ∧ h'.Ns H2.objs.size m' ∧ h'.get? s.heap.objs.size = some (lst ys) ∧ Inv [I, H2.objs.size, s.heap.objs.size] i ys h') ?_ (n + 1)
      ⟨h₁, _, 0, [], _, rfl, Nat.zero_le _, rfl, Nat.le_refl _, hst₁, fun b o e => old b o (hg b o e), hns₁, hacc, h0 _ _ _ gX (fun b o e => old b o (hg b o e))⟩
    rintro k s' ⟨h', tk, i, ys, m', rfl, hi, rfl, hyl, hst', hg', hn', hD', hI'⟩
    by_cases hlt : i < n
    · refine W.item i _ _ _ hlt hst' fun v h₂ tk₂ hPv hst₂ hk₂ => ?_
      refine wpAny_assign_Name (wpAny_storeName_local (lookup_relabel_local hx) (hn'.at' fun o e => hk₂ _ o (by simpa using Ne.symm hCI) e) (fun h₃ hn₃ hs₃ => ?_) (by simp [compEnvC, relabel, hkind]))
      have hst₃ : St (i + 1) h₃ := W.frame _ _ _ hst₂ fun b hb o e => hs₃.extBut b o (fun q => hCf (by have q' : b = H2.objs.size := q; rw [← q']; exact hb)) e
      have k₃ : ∀ b o, b ∉ [I, H2.objs.size, s.heap.objs.size] → h'.get? b = some o → h₃.get? b = some o := fun b o hb e => hs₃.extBut b o (fun q => hb (by rw [show b = H2.objs.size from q]; simp)) (hk₂ b o (fun q => hb (by rw [List.mem_singleton.mp q]; simp)) e)
      have hg₃ : Ext g h₃ := fun b o e => k₃ b o (fun q => by rw [gX b q] at e; cases e) (hg' b o e)
      have hD₃ : h₃.get? s.heap.objs.size = some (lst ys) := hs₃.extBut _ _ hDC (hk₂ _ _ (by simpa using Ne.symm hDI) hD')
      obtain ⟨oI, heI⟩ := hIo _ _ hst₃
      obtain ⟨oC, _, _, heC, _⟩ := id hn₃
      have hX₃ : ∀ z ∈ [I, H2.objs.size, s.heap.objs.size], g.get? z = none ∧ ∃ o, h₃.get? z = some o := by
        intro z hz
        refine ⟨gX z hz, ?_⟩
        simp only [List.mem_cons, List.not_mem_nil, or_false] at hz
        rcases hz with rfl | rfl | rfl
        · exact ⟨_, heI⟩
        · exact ⟨_, heC⟩
        · exact ⟨_, hD₃⟩
      refine wpAny_mono (T i v ys I H2.objs.size s.heap.objs.size h₃ _ _ _ hlt hPv hn₃ (by simp) hg₃ hX₃ (steady _ _ _ _ _ k₃ hI')) (fun ok s₃ h₄ => ?_) fun _ _ e => e
      obtain ⟨h₄, tk₄, rfl, x₄, h₄'⟩ := h₄
      cases ok with
      | false =>
        simp only [Bool.false_eq_true, if_false] at h₄' ⊢
        exact ⟨n + 1 - (i + 1), by omega, h₄, tk₄, i + 1, ys, _, rfl, hlt, rfl, by omega, W.frame _ _ _ hst₃ fun b _ o e => x₄ b o e, hg₃.trans x₄, hn₃.keeps x₄, x₄ _ _ hD₃, h₄'⟩
      | true =>
        simp only [if_true] at h₄' ⊢
        refine wpAny_mono h₄' (fun y s₄ h₅ => ?_) fun _ _ e => e
        obtain ⟨h₅, tk₅, rfl, x₅, hI₅⟩ := h₅
        have x₃₅ : Ext h₃ h₅ := x₄.trans x₅
        have hst₅ : St (i + 1) h₅ := W.frame _ _ _ hst₃ fun b _ o e => x₃₅ b o e
        refine append_at (hsz := by show ys.toArray.size ≤ sizeLine; rw [List.size_toArray]; exact Nat.le_trans (Nat.le_trans hyl hi) hsz) (x₃₅ _ _ hD₃) fun h₆ hs₆ hD₆ => ?_
        have k₆ : ∀ b o, b ∉ [I, H2.objs.size, s.heap.objs.size] → h₅.get? b = some o → h₆.get? b = some o := fun b o hb e => hs₆.extBut b o (fun q => hb (by rw [q]; simp)) e
        refine ⟨n + 1 - (i + 1), by omega, h₆, tk₅, i + 1, ys ++ [y], _, rfl, hlt, rfl, by rw [List.length_append, List.length_singleton]; omega, W.frame _ _ _ hst₅ fun b hb o e => hs₆.extBut b o (fun q => hDf (q ▸ hb)) e,
          fun b o e => k₆ b o (fun q => by rw [gX b q] at e; cases e) (x₃₅ b o (hg₃ b o e)), (hn₃.keeps x₃₅).sameBut hs₆ (Ne.symm hDC), hD₆.trans (congrArg some (LCg.lst_snoc ys y)), steady _ _ _ _ _ k₆ hI₅⟩
    · obtain rfl : i = n := Nat.le_antisymm hi (Nat.not_lt.mp hlt)
      refine W.done _ _ _ hst' fun h₂ tk₂ hk₂ => ?_
      have k₂ : ∀ b o, b ∉ [I, H2.objs.size, s.heap.objs.size] → h'.get? b = some o → h₂.get? b = some o := fun b o hb e => hk₂ b o (fun q => hb (by rw [List.mem_singleton.mp q]; simp)) e
      exact hRR _ _ h₂ tk₂ _ ys (fun b o e => k₂ b o (fun q => by rw [gX b q] at e; cases e) (hg' b o e)) (hn'.at' fun o e => hk₂ _ o (by simpa using Ne.symm hCI) e) (hk₂ _ _ (by simpa using Ne.symm hDI) hD') hC₀ hD₀ hgI (Ne.symm hDC) hyl (steady _ _ _ _ _ k₂ hI')
  exact codeAny_compStart_list (loop _ rfl) (W.self 0 _ _ _ hst₁ (loop _ rfl))
end
end Mine

namespace Mine
inductive IsSrc (h : Heap) (n : Nat) (P : Nat → Value → Prop) : Value → Prop
  | list {ax : Addr} {its : Array Value} : h.IsList ax its → n = its.size → P = (fun i v => its[i]? = some v) → IsSrc h n P (.ref ax)
  | range {r : Addr} {a b : Int} {t u v : Tok} : IsRange h r a b 1 t u v → Builtin.Range.small a b 1 = true → Builtin.Range.rangeSize a b 1 = (n : Int) → P = (fun i v => ∃ t, v = .int (a + (i : Int)) t) → IsSrc h n P (.ref r)
section
variable {prog : Program} {w : World} {A : Around} {E : Value → Shared → Prop} {s : Shared} {env : Env}
theorem src_iter {xv : Value} {n : Nat} {P : Nat → Value → Prop} {K : Value → Shared → Prop} (hh : A.handled = none) (S : IsSrc s.heap n P xv)
    (h : ∀ I fp St h₂, Walks prog w A I fp [I] n P St → (∀ i h, St i h → ∃ o, h.get? I = some o) → St 0 h₂ → (∀ b ∈ fp, b < h₂.objs.size) → Ext s.heap h₂ → s.heap.get? I = none → K (.ref I) { s with heap := h₂ }) :
    wpAny (model prog w) A (pyIter xv) K E s := by
  cases S with
  | @list ax its hl hn hP =>
    subst hn hP
    have hlt : ax < s.heap.objs.size := by obtain ⟨_, e, _⟩ := hl; exact Heap.lt_size e
    refine wpAny_pyIter_list hl ?_
    refine h _ _ _ _ (Walks.list hh s.heap.objs.size ax (Nat.ne_of_lt hlt) its) (fun i h st => by obtain ⟨o, e, _⟩ := st.1; exact ⟨o, e⟩) ⟨⟨_, Heap.get?_push_size _ rfl, rfl, rfl⟩, hl.push _⟩ (fun b hb => ?_) (Ext.push _ _) (Heap.get?_none_of_le (Nat.le_refl _))
    rw [Heap.size_push]
    rcases List.mem_cons.mp hb with rfl | hb
    · exact Nat.lt_succ_self _
    · rw [List.mem_singleton.mp hb]; exact Nat.lt_succ_of_lt hlt
  | @range r a b t u v hr hsm hn hP =>
    subst hP
    refine wpAny_pyIter_range hr hsm ?_
    refine h _ _ _ _ (LCg.range_walks hh a n) (fun i h st => ⟨_, st⟩) (by show IsRangeIter _ _ _ _ _; rw [hn]; simpa using Heap.get?_push_size _ rfl) (fun b hb => ?_) (Ext.push _ _) (Heap.get?_none_of_le (Nat.le_refl _))
    rw [List.mem_singleton.mp hb, Heap.size_push]; exact Nat.lt_succ_self _
/-- a comprehension's value -/
theorem lc_eval {elt iter : Expr} {x : Str} {px : Pos} {ifs : List Expr} {scope : Scope} {cl : List (Str × Addr)} {pos : Pos} {Q : Value → Shared → Prop} (hh : A.handled = none)
    (hclos : closureFor scope env = pure cl) (hcell : ∀ y ∈ scope.names, y.2 ≠ .cell) (hkind : scope.kind = .function)
    (hnames : ∀ y ∈ scope.names, y.2 = .local → scope.names.lookup y.1 = some .local) (hx : scope.names.lookup x = some .local)
    (h : wpAny (model prog w) A (eval iter env) (fun xv s₁ => ∃ n P Inv, IsSrc s₁.heap n P xv ∧ n ≤ sizeLine ∧ Steady Inv ∧ (∀ X h, (∀ z ∈ X, s₁.heap.get? z = none) → Ext s₁.heap h → Inv X 0 [] h) ∧
      Turn prog w A env elt x ifs scope cl s₁ s₁.heap n P Inv ∧
      (∀ D h tk ys X, Ext s₁.heap h → s₁.heap.get? D = none → h.get? D = some (lst ys) → ys.length ≤ n → Inv X n ys h → Q (.ref D) { s₁ with heap := h, toks := tk })) E s)
    (hs : ∀ x, foldedSetIterable iter env x = pure x := by intro _; rfl) :
    wpAny (model prog w) A (eval (.ListComp elt [⟨.Name x px, iter, ifs, 0⟩] scope pos) env) Q E s := by
  rw [eval_ListComp]
  refine wpAny_comprehension_free (use := none) rfl hs hclos hkind hnames (wpAny_mono h (fun xv s₁ h₁ => ?_) fun _ _ e => e)
  obtain ⟨n, P, Inv, S, hsz, st, h0, T, fin⟩ := h₁
  refine src_iter hh S fun I fp St h₂ W hIo hst hfp x₂ hI => ?_
  refine lc_block (s := { s₁ with heap := h₂ }) (g := s₁.heap) (Inv := Inv) W hsz hIo hcell hkind hx hst hfp x₂ hI st (fun C D h hz hx => h0 _ h hz hx) T ?_
  intro D C h tk m' ys hg hn hD hC₀ hD₀ hI₀ hCD hyl hInv
  refine ⟨m', hn, fun h' hs' => ?_⟩
  have hk : ∀ b o, b ≠ C → h.get? b = some o → h'.get? b = some o := fun b o hb e => hs'.extBut b o hb e
  exact fin D h' tk ys [I, C, D] (fun b o e => hk b o (fun q => by rw [q, hC₀] at e; cases e) (hg b o e)) hD₀ (hk _ _ (Ne.symm hCD) hD) hyl (st _ _ _ _ _ (fun b o hb e => hk b o (fun q => hb (by simp [q])) e) hInv)
/-- a name bound to a comprehension's value -/
theorem lc_assign {elt iter : Expr} {x y : Str} {px py : Pos} {ifs : List Expr} {scope : Scope} {cl : List (Str × Addr)} {pos spos : Pos} {Q : Flow → Shared → Prop} {m : Str → Option Value} (hh : A.handled = none)
    (hsw : swapsWith (.ListComp elt [⟨.Name x px, iter, ifs, 0⟩] scope pos) (some (.Name y py)) spos.line env = pure true)
    (hclos : closureFor scope env = pure cl) (hcell : ∀ z ∈ scope.names, z.2 ≠ .cell) (hkind : scope.kind = .function)
    (hnames : ∀ z ∈ scope.names, z.2 = .local → scope.names.lookup z.1 = some .local) (hx : scope.names.lookup x = some .local)
    (hy : env.kindOf y = some .local) (hp : (env.scope.kind == .class || (env.scope.kind == .module && env.locals != env.globals)) = false)
    (h : wpAny (model prog w) A (eval iter env) (fun xv s₁ => ∃ n P Inv, IsSrc s₁.heap n P xv ∧ n ≤ sizeLine ∧ s₁.heap.Ns env.locals m ∧ Steady Inv ∧ (∀ X h, (∀ z ∈ X, s₁.heap.get? z = none) → Ext s₁.heap h → Inv X 0 [] h) ∧
      Turn prog w A env elt x ifs scope cl s₁ s₁.heap n P Inv ∧
      (∀ D h h' tk ys X, Ext s₁.heap h → s₁.heap.get? D = none → h.get? D = some (lst ys) → ys.length ≤ n → Inv X n ys h → SK h h' → h'.Ns env.locals (fun z => if z = y then some (.ref D) else m z) →
        (∀ b o, b ≠ env.locals → s₁.heap.get? b = some o → h'.get? b = some o) → Q .next { s₁ with heap := h', toks := tk })) E s)
    (hs : ∀ x, foldedSetIterable iter env x = pure x := by intro _; rfl) :
    wpAny (model prog w) A (exec (.Assign [.Name y py] (.ListComp elt [⟨.Name x px, iter, ifs, 0⟩] scope pos) spos) env) Q E s := by
  rw [exec_Assign_Name_used _ _ _ _ hsw]
  refine wpAny_bind (wpAny_standAt (wpAny_bind ?_))
  show wpAny _ A (do let _ ← comprehension (.ListComp elt [⟨.Name x px, iter, ifs, 0⟩] scope pos) scope env _ (newList []) false (eval iter env) (some (assign (.Name y py) env))) _ _ s
  refine wpAny_bind (wpAny_mono (wpAny_comprehension_free (use := some (assign (.Name y py) env)) (Q := fun _ s' => Q .next s') rfl hs hclos hkind hnames
    (wpAny_mono h (fun xv s₁ h₁ => ?_) fun _ _ e => e)) (fun _ s' hq => wpAny_pure (wpAny_pure hq)) fun _ _ e => e)
  obtain ⟨n, P, Inv, S, hsz, hL, st, h0, T, fin⟩ := h₁
  refine src_iter hh S fun I fp St h₂ W hIo hst hfp x₂ hI => ?_
  refine lc_block (s := { s₁ with heap := h₂ }) (g := s₁.heap) (Inv := Inv) W hsz hIo hcell hkind hx hst hfp x₂ hI st (fun C D h hz hx => h0 _ h hz hx) T ?_
  intro D C h tk m' ys hg hn hD hC₀ hD₀ hI₀ hCD hyl hInv
  show wpAny _ A (assign (.Name y py) env (.ref D)) _ _ _
  have hLh : h.Ns env.locals m := hL.keeps hg
  have hCL : C ≠ env.locals := fun q => by
    obtain ⟨o, _, _, e, _⟩ := hL
    rw [← q, hC₀] at e; cases e
  refine wpAny_assign_Name (wpAny_storeName_local hy hLh (fun h₃ hn₃ hs₃ => ?_) hp)
  refine ⟨m', hn.sameBut hs₃ hCL, fun h' hs' => ?_⟩
  have hn₃' : h₃.Ns C m' := hn.sameBut hs₃ hCL
  refine fin D h h' _ ys [I, C, D] hg hD₀ hD hyl hInv ((SK.of_ns hs₃ hLh).trans (SK.of_ns hs' hn₃')) (hn₃.sameBut hs' (Ne.symm hCL)) ?_
  intro b o hb e
  exact hs'.extBut b o (fun q => by rw [q, hC₀] at e; cases e) (hs₃.extBut b o hb (hg b o e))
end
end Mine

namespace Mine
def firstsTo (ns : List Int) : Nat → List Int
  | 0 => []
  | k + 1 => firstsTo ns k ++ (if ns.getD k 0 ∈ ns.take k then [] else [ns.getD k 0])
section
variable {prog : Program} {w : World} {A : Around} {E : Value → Shared → Prop} {s : Shared} {mg mb : Str → Option Value} {env : Env} {scope : Scope} {cl : List (Str × Addr)} {C : Addr}
theorem ce_local {M : Model} {m₂ : Str → Option Value} {x : Str} {pos : Pos} {v : Value} {Q : Value → Shared → Prop} (hn : s.heap.Ns C m₂) (hv : m₂ x = some v) (h : Q v s)
    (hl : (compEnvC scope cl C env).kindOf x = some .local := by rfl) (hk : (compEnvC scope cl C env).scope.kind = .function := by rfl) (hd : (x == ("__debug__" : Str)) = false := by decide) :
    wpAny M A (eval (.Name x pos) (compEnvC scope cl C env)) Q E s := wpAny_Name (wpAny_loadName_local hk hl hn hv h) hd
theorem ce_cell {M : Model} {c : Addr} {x : Str} {pos : Pos} {v : Value} {Q : Value → Shared → Prop} (hc : s.heap.IsCell c (some v)) (h : Q v s) (hcl : (compEnvC scope cl C env).cells.lookup x = some c := by rfl)
    (hl : (compEnvC scope cl C env).kindOf x = some .cell := by rfl) (hk : (compEnvC scope cl C env).scope.kind = .function := by rfl) (hd : (x == ("__debug__" : Str)) = false := by decide) :
    wpAny M A (eval (.Name x pos) (compEnvC scope cl C env)) Q E s := wpAny_Name (wpAny_loadName_cell hk hl hcl hc h) hd
theorem cell_ext {h h' : Heap} {c : Addr} {v : Option Value} (x : h.IsCell c v) (e : Ext h h') : h'.IsCell c v := let ⟨o, a, b⟩ := x; ⟨o, e _ _ a, b⟩
/-- a built-in's name in any block of the text's -/
theorem ev_bt {x : Str} {pos : Pos} {v : Value} {Q : Value → Shared → Prop} (G : Gd mg mb s.heap) (hx : x ∈ used) (hv : bootBuiltins x = some v) (hn : x ≠ "__name__") (h : Q v s)
    (hg : env.globals = mainGlobals := by rfl) (hb : env.builtins = builtinsNs := by rfl) (hk : env.scope.kind = .function := by rfl) (hxk : env.kindOf x = some .globalImplicit := by rfl) (hd : (x == ("__debug__" : Str)) = false := by decide) :
    wpAny (model prog w) A (eval (.Name x pos) env) Q E s :=
  Calls.Name_function_global hk hxk (Calls.loadGlobal_builtin (env := env) (by rw [hg]; exact G.g) (G.miss x hx) (by rw [hb]; exact G.b) ((G.bt x hn).trans hv) h) hd
/-- the name of a def of the text in any block of the text's -/
theorem ev_fn {x : Str} {pos : Pos} {v : Value} {Q : Value → Shared → Prop} (G : Gd mg mb s.heap) (hv : mg x = some v) (h : Q v s)
    (hg : env.globals = mainGlobals := by rfl) (hk : env.scope.kind = .function := by rfl) (hxk : env.kindOf x = some .globalImplicit := by rfl) (hd : (x == ("__debug__" : Str)) = false := by decide) :
    wpAny (model prog w) A (eval (.Name x pos) env) Q E s :=
  Calls.Name_function_global hk hxk (Calls.loadGlobal_global (env := env) (by rw [hg]; exact G.g) hv h) hd
theorem ev_local {x : Str} {pos : Pos} {v : Value} {m : Str → Option Value} {Q : Value → Shared → Prop} (hn : s.heap.Ns env.locals m) (hv : m x = some v) (h : Q v s)
    (hk : env.scope.kind = .function := by rfl) (hl : env.kindOf x = some .local := by rfl) (hd : (x == ("__debug__" : Str)) = false := by decide) :
    wpAny (model prog w) A (eval (.Name x pos) env) Q E s := wpAny_Name (wpAny_loadName_local hk hl hn hv h) hd
theorem ev_cell {x : Str} {pos : Pos} {v : Value} {c : Addr} {Q : Value → Shared → Prop} (hc : s.heap.IsCell c (some v)) (h : Q v s) (hcl : env.cells.lookup x = some c := by rfl)
    (hk : env.scope.kind = .function := by rfl) (hl : env.kindOf x = some .cell := by rfl) (hd : (x == ("__debug__" : Str)) = false := by decide) :
    wpAny (model prog w) A (eval (.Name x pos) env) Q E s := wpAny_Name (wpAny_loadName_cell hk hl hcl hc h) hd
theorem slice_any {value slice : Expr} {l : Addr} {items : Array Value} {vl vu : Value} {lo hi : Option Int} {Q : Value → Shared → Prop} (hl : s.heap.IsList l items) (pl : IsPart vl lo) (pu : IsPart vu hi) (hsz : items.size ≤ sizeLine)
    (h : ∀ D h', Ext s.heap h' → s.heap.get? D = none → h'.get? D = some { cls := .type "list", data := .seq (slicePick items lo hi none) } → Q (.ref D) { s with heap := h' })
    (hs : subscripted slice false (.ref l) (.ref s.heap.objs.size) = operate [.ref s.heap.objs.size, .ref l] (getItem (.ref l) (.ref s.heap.objs.size)) := by with_unfolding_all rfl)
    (ht : ∀ r, letTemporaryGo value (.ref l) r = pure () := by intro _; with_unfolding_all rfl) :
    wpAny (model prog w) A (subscriptTail value slice (.ref l) (.ref s.heap.objs.size)) Q E { s with heap := s.heap.push { cls := .type "slice", data := .fields #[vl, vu, .none] } } := by
  refine subscriptTail_ops (Heap.IsList.typeIs (s := { s with heap := s.heap.push { cls := .type "slice", data := .fields #[vl, vu, .none] } }) (hl.push _)) list_getitem_lookup
    (wpAny_getItem_list_slice (hl.push _) (Heap.IsSliceOf.new ..) pl pu .none (by simp) ?_ hsz) hs ht
  exact h _ _ (fun b o e => Heap.get?_push_of_some _ (Heap.get?_push_of_some _ e)) (Heap.get?_none_of_le (by rw [Heap.size_push]; exact Nat.le_succ _)) (Heap.get?_push_size _ rfl)
theorem any_int (n : Int) : ∀ ns : List Int, ((ns.map PyData.int).any fun y => PyData.eqv y (.int n)) = decide (n ∈ ns)
  | [] => by simp
  | m :: ns => by
    rw [List.map_cons, List.any_cons, any_int n ns]
    simp only [PyData.eqv, List.mem_cons, Bool.decide_or]
    congr 1
    rw [Bool.eq_iff_iff, beq_iff_eq, decide_eq_true_eq]
    exact ⟨Eq.symm, Eq.symm⟩
theorem ints_lay : ∀ ns : List Int, PyData.canLayAll0 (ns.map PyData.int) = true ∧ PyData.depthAll (ns.map PyData.int) ≤ 1
  | [] => by simp [PyData.canLayAll0, PyData.depthAll]
  | n :: ns => by
    have := ints_lay ns
    simp only [List.map_cons, PyData.canLayAll0, PyData.depthAll, PyData.canLay0, PyData.depth, this.1, Bool.and_self, true_and]
    omega
theorem call_fnC {i : Nat} {f : Addr} {args : List Value} {binds : List (Str × Value)} {Q : Value → Shared → Prop} (hf : FnAt mg s.heap i f) (hlim : s.heap.NoLimit) (hroom : A.depth < recursionLimit)
    (hbind : ∀ pm cd doc, bindArgs (Calls.docDef (nmOf (stOf i)) (arOf (stOf i)) (bdOf (stOf i)) (scOf (stOf i)) pm cd doc) ⟨args, []⟩ = pure binds)
    (hkind : (binds.all fun y => (scOf (stOf i)).names.lookup y.1 == some .local || (scOf (stOf i)).names.lookup y.1 == some .cell) = true)
    (h : ∀ L cd h₁ tk, h₁.Ns L (bindL (envOfC (nmOf (stOf i)) (scOf (stOf i)) L f cd).kindOf binds fun _ => none) → Ext s.heap h₁ → s.heap.objs.size = L →
      (∀ n c, (envOfC (nmOf (stOf i)) (scOf (stOf i)) L f cd).cells.lookup n = some c → h₁.IsCell c (bindC (envOfC (nmOf (stOf i)) (scOf (stOf i)) L f cd).kindOf binds (fun _ => none) n)) →
      wpAny (model prog w) (A.deeper (envOfC (nmOf (stOf i)) (scOf (stOf i)) L f cd)) (execs (bdOf (stOf i)) (envOfC (nmOf (stOf i)) (scOf (stOf i)) L f cd))
        (fun fl s' => Q (match fl with | .ret v => v | _ => .none) s') (fun _ _ => False) { s with heap := h₁, toks := tk })
    (hco : (scOf (stOf i)).isCoroutine = false := by rfl) (hgen : (scOf (stOf i)).isGenerator = false := by rfl) (hk : (scOf (stOf i)).kind = .function := by rfl) :
    wpAny (model prog w) A (call (.ref f) args) Q E s := by
  obtain ⟨o, pm, cd, doc, _, ho, hd, hc⟩ := hf
  refine wpAny_call (codeAny_call_cells hroom ho hd hlim hc rfl (hbind pm cd doc) rfl (kindsX hkind _) (fun s₁ x => ?_) hco hgen hk)
  obtain ⟨⟨⟨h₁, tk, rfl⟩, hns, hkeep, habove⟩, hcell, _, _⟩ := x
  exact wpAny_mono (h _ cd h₁ tk hns hkeep rfl hcell) (fun _ _ y => y) (fun _ _ y => y.elim)
theorem first_call {ns : List Int} {vs : List Value} {l f : Addr} {Q : Value → Shared → Prop} (G : Gd mg mb s.heap) (hf : FnAt mg s.heap 10 f) (hl : s.heap.IsList l vs.toArray) (hi : IntsAre vs ns) (hlen : ns.length ≤ 1000) (hroom : A.depth < recursionLimit) (hh : A.handled = none) (hu : A.units + 70 < cLine)
    (hQ : ∀ D h' tk ys, Ext s.heap h' → s.heap.get? D = none → h'.get? D = some (lst ys) → IntsAre ys (firstsTo ns ns.length) → Q (.ref D) { s with heap := h', toks := tk }) :
    wpAny (model prog w) A (call (.ref f) [.ref l]) Q E s := by
  refine call_fnC (binds := [(Str.ofString "values", .ref l)]) hf G.nolimit hroom (fun _ _ _ => by rfl) (by rfl) (fun L cd h₁ tk hns hx₁ hL hcell => ?_)
  have hv : h₁.IsCell (L + 1) (some (.ref l)) := hcell (Str.ofString "values") (L + 1) (by rfl)
  have e : bdOf (stOf 10) = bdOf (stOf 10) := rfl
  conv at e => rhs; whnf
  rw [e]
  refine wpAny_execs_cons ?_
  walk1
  refine lc_eval hh (by rfl) (by decide +kernel) (by rfl) (by decide +kernel) (by rfl) ?_
  have G₁ := G.ext hx₁
  walk1
  refine ev_bt (v := .type "range") G₁ (by decide +kernel) (by decide +kernel) (by decide +kernel) ?_
  walk1
  walk1
  walk1
  refine ev_bt (v := .builtin "len") G₁ (by decide +kernel) (by decide +kernel) (by decide +kernel) ?_
  walk1
  walk1
  refine ev_cell hv ?_
  walk1
  have hle : vs.toArray.size = ns.length := by simp [hi.length]
  refine len_list (isList_ext hl hx₁) (by omega) ?_
  rw [hle]
  walk1
  refine call_range_1 ?_
  dsimp only
  have hxr : Ext h₁ (h₁.push { cls := .type "range", data := .fields #[.int 0 (tk + 1 + 1), .int (ns.length) (tk + 1), .int 1 (tk + 1 + 1 + 1)] }) := Ext.push _ _
  have hxg := hx₁.trans hxr
  refine ⟨ns.length, _, fun _ i ys _ => IntsAre ys (firstsTo ns i), .range (IsRange.new ..) (small_one (by omega) (by omega) (by omega) (by omega)) (by rw [rangeSize_one]; split <;> omega) rfl, Nat.le_trans hlen (by decide), fun _ _ _ _ _ _ x => x, fun _ _ _ _ => .nil, ?_, ?_⟩
  · intro i v ys I C D h tk' m₂ E' hin hP hn hm hx hX hInv
    obtain ⟨t', rfl⟩ := hP
    have hx' : Ext s.heap h := hxg.trans hx
    have hl' := isList_ext hl hx'
    have hcl : h.IsCell (L + 1) (some (.ref l)) := cell_ext hv (hxr.trans hx)
    refine wpAny_tests_one ?_
    walk1
    walk1
    refine ce_cell hcl ?_
    refine ce_local hn hm ?_
    have ra : RdAll h vs (ns.map .int) := ⟨_, hi.reads h⟩
    obtain ⟨vi, evi, rvi⟩ := ra.get (k := i) (d := .int (ns.getD i 0)) (by rw [List.getElem?_map, List.getD_eq_getElem?_getD, List.getElem?_eq_getElem hin]; rfl)
    obtain ⟨ti, rfl⟩ := rvi.int_inv
    rw [Int.zero_add] at hm ⊢
    refine item_listL hl' (by omega) (by omega) (by rw [Int.toNat_natCast]; exact evi) ?_
    walk1
    refine ce_cell hcl ?_
    walk1
    walk1
    walk1
    refine ce_local hn hm ?_
    walk1
    refine slice_any hl' .none (.int i t') (by rw [hle]; exact Nat.le_trans hlen (by decide)) (fun D₂ h₂ x₂ hD₂ hn₂ => ?_)
    rw [show slicePick vs.toArray none (some (i : Int)) none = (vs.take i).toArray from by rw [slicePick_upto vs.toArray i (by omega)]] at hn₂
    have r2 : Rd h₂ (.ref D₂) (.list ((ns.take i).map .int)) := by
      refine Rd.of_list ⟨_, hn₂, rfl, _, rfl⟩ ?_
      rw [List.map_take]
      exact (ra.ext x₂).take i
    obtain ⟨as₂, r2'⟩ := r2
    have hlay := ints_lay (ns.take i)
    refine SeqAt.notIn_list_reads r2' (.int _ ti) hlay.1 rfl ?_ ?_
    · have := Nat.min_le_left (PyData.depthAll ((ns.take i).map .int)) (PyData.int (ns.getD i 0)).depth
      show A.units + 3 + 1 + _ < cLine
      omega
    rw [any_int]
    walk1
    refine ⟨h₂, _, rfl, x₂, ?_⟩
    by_cases hmem : ns.getD i 0 ∈ ns.take i
    · rw [if_neg (by rw [decide_eq_true hmem]; decide)]
      show IntsAre ys (firstsTo ns (i + 1))
      rw [firstsTo, if_pos hmem, List.append_nil]
      exact hInv
    · rw [if_pos (by rw [decide_eq_false hmem]; rfl)]
      walk1
      refine ce_cell (cell_ext hcl x₂) ?_
      refine ce_local (hn.keeps x₂) hm ?_
      refine item_listL (isList_ext hl' x₂) (by omega) (by omega) (by rw [Int.toNat_natCast]; exact evi) ?_
      refine ⟨h₂, _, rfl, Ext.rfl _, ?_⟩
      show IntsAre _ (firstsTo ns (i + 1))
      rw [firstsTo, if_neg hmem]
      exact hInv.append (.cons _ _ .nil)
  · intro D h tk' ys X hx hD hy hyl hInv
    exact hQ D h _ ys (hxg.trans hx) (by
      cases q : s.heap.get? D with
      | none => rfl
      | some o => have := hxg _ _ q; rw [hD] at this; cases this) hy hInv
end
end Mine

namespace Mine
/-- no exception is handled, or one that has no context -/
def HOk (A : Around) (h : Heap) : Prop := A.handled = none ∨ ∃ e o vs, A.handled = some (.ref e) ∧ h.get? e = some o ∧ o.data = .fields vs ∧ vs[2]? = some .none
theorem HOk.ext {A : Around} {h h' : Heap} (x : HOk A h) (e : Ext h h') : HOk A h' := x.imp id fun ⟨a, o, vs, p, q, r⟩ => ⟨a, o, vs, p, e _ _ q, r⟩
theorem entry_unchain : entryFor table "proto.unchain" = some Builtin.«proto.unchain» := entryFor_of_fast (by kernel_rfl)
theorem plain_unchain : plainId "proto.unchain" = true := by decide +kernel
section
variable {prog : Program} {w : World} {A : Around} {E : Value → Shared → Prop} {s : Shared}
theorem unchain_none {v : Value} {e : Addr} {o : Obj} {vs : Array Value} {Q : Value → Shared → Prop} (he : s.heap.get? e = some o) (hd : o.data = .fields vs) (h2 : vs[2]? = some .none) (h : Q .none s) :
    wpAny (model prog w) A (runValue (.builtin "proto.unchain" ⟨[v, .ref e, .ref e, .bool false], []⟩)) Q E s := by
  refine wpAny_runValue (codeAny_builtin entry_unchain ?_)
  rw [Around.under_plainId plain_unchain _]
  show wpAny _ _ (field (.ref e) 2 >>= _) _ _ s
  refine wpAny_bind (wpAny_field he hd h2 ?_)
  rw [if_pos (by decide)]
  exact wpAny_pure h
/-- a new exception raised, whatever is handled -/
theorem raiseNew_any {α : Type} {a : Addr} {oa : Obj} {xs : Array Value} {Q : α → Shared → Prop} (H : HOk A s.heap) (ha : s.heap.get? a = some oa) (hda : oa.data = .fields xs) (hsz : 2 < xs.size)
    (hne : ∀ e, A.handled = some (.ref e) → a ≠ e)
    (h : ∀ h' c, Heap.SameBut a s.heap h' → h'.get? a = some (oa.mapFields (·.setIfInBounds 2 c)) → E (.ref a) { s with heap := h' }) (h0 : E (.ref a) s) : wpAny (model prog w) A (raiseNew (.ref a) : Sem α) Q E s := by
  rcases H with hh | ⟨e, o, vs, hh, he, hd, h2⟩
  · exact wpAny_raiseNew_none hh h0
  · have hae := hne e hh
    unfold raiseNew
    refine wpAny_bind (wpAny_handled ?_)
    rw [hh]
    dsimp only
    rw [if_pos (by simpa using Ne.symm hae)]
    refine wpAny_bind (wpAny_holding (unchain_none he hd h2 ?_))
    refine wpAny_bind (m := setField (.ref a) 2 (.ref e)) (wpAny_setField ha hda hsz (wpAny_throw (h _ (.ref e) (Heap.SameBut.update ..) (Heap.get?_update_self _ ha (Obj.isFreed_of_fields (Obj.data_mapFields hda _))))))
theorem pyNext_end {it l : Addr} {i : Nat} {items : Array Value} {Q : Option Value → Shared → Prop} (H : HOk A s.heap)
    (hit : s.heap.IsListIter it l i) (hl : s.heap.IsList l items) (hx : items[i]? = none) (hite : ∀ e, A.handled = some (.ref e) → it ≠ e)
    (hQ : ∀ h', Heap.ExtBut it s.heap h' → Q none { s with heap := h' }) : wpAny (model prog w) A (pyNext (.ref it)) Q E s := by
  obtain ⟨o, ho, hc, hd⟩ := id hit
  obtain ⟨ol, hol, _, nl, hdl⟩ := hl
  unfold pyNext
  refine wpAny_bind (wpAny_attempt (wpAny_callSpecial?_slot (name := Str.ofString "__next__") hit.typeIs slot_listiter_next
    (wpAny_call_entry slot_listiter_next hit.typeIs entry_listiter_next ?_ (args_listiter_next _))))
  show wpAny _ _ (field (.ref it) 0 >>= _) _ _ s
  refine wpAny_bind (wpAny_field ho hd (x := .ref l) rfl ?_)
  show wpAny _ _ (if (Value.ref l == Value.none) = true then _ else _) _ _ s
  rw [if_neg (show ¬ ((Value.ref l == Value.none) = true) from Bool.false_ne_true)]
  show wpAny _ _ (field (.ref it) 1 >>= _) _ _ s
  refine wpAny_bind (wpAny_field ho hd (x := .int i 0) rfl ?_)
  show wpAny _ _ (seqItems? (.ref l) >>= _) _ _ s
  refine wpAny_bind (wpAny_seqItems hol hdl ?_)
  simp only [Int.toNat_natCast, hx]
  refine wpAny_bind (wpAny_rule (wpAny_bind (wpAny_setField ho hd (by simp) ?_)))
  show wpAny _ _ (newExc (.type "StopIteration") [] >>= _) _ _ _
  refine wpAny_bind ?_
  simp only [newExc, newTuple]
  refine wpAny_bind (wpAny_newObj_type ?_ (by size_fits))
  refine wpAny_bind (m := firstArgMember _ _) (wpAny_of_eq (a := Value.none) (by first | rfl | (simp only [firstArgMember]; rfl)) ?_)
  refine wpAny_newObj_type ?_ (by size_fits)
  have H2 : HOk A.in1 (((s.heap.update it (Obj.mapFields (·.setIfInBounds 0 .none))).push { cls := .type "tuple", data := .seq ([] : List Value).toArray }).push
      { cls := .type "StopIteration", dict := none, data := .fields (#[.ref (s.heap.update it (Obj.mapFields (·.setIfInBounds 0 .none))).objs.size, .none, .none, .none, .bool false, .none] ++ ownMembersOf (.type "StopIteration") []) }) := by
    refine H.imp id fun ⟨e, oe, vs, p, q, r⟩ => ⟨e, oe, vs, p, ?_, r⟩
    refine Heap.get?_push_of_some _ (Heap.get?_push_of_some _ ?_)
    rw [Heap.get?_update_other _ _ (hite e p)]; exact q
  refine raiseNew_any H2 (Heap.get?_push_size _ rfl) rfl ?_ ?_ ?_ ?_
  · rw [Array.size_append]; simp; omega
  · rintro e he rfl
    rcases H with hh | ⟨e', oe, vs, hh, he', _⟩
    · have he2 : A.handled = _ := he
      rw [hh] at he2; cases he2
    · have he2 : A.handled = _ := he
      rw [hh] at he2
      have hlt := Heap.lt_size he'
      injection he2 with q
      injection q with q
      dsimp only at q
      rw [Heap.size_push, Heap.size_after_update] at q
      rw [q] at hlt
      exact absurd hlt (Nat.not_lt.mpr (Nat.le_succ _))
  · intro h' c hs he
    refine wpAny_bind (wpAny_isInstance (T := "StopIteration") (b := true) ⟨_, he, ?_⟩ isSubtype_stop ?_)
    · rw [Obj.cls_mapFields]
    refine wpAny_pure (hQ _ (fun b o hb e => ?_))
    refine hs.extBut b o ?_ ((((Heap.SameBut.update ..).extBut.push _).push _) b o hb e)
    have hlt := Heap.lt_size e
    rw [Heap.size_push, Heap.size_after_update]
    exact Nat.ne_of_lt (Nat.lt_succ_of_lt hlt)
  · refine wpAny_bind (wpAny_isInstance (T := "StopIteration") (b := true) ⟨_, Heap.get?_push_size _ rfl, rfl⟩ isSubtype_stop ?_)
    exact wpAny_pure (hQ _ (((Heap.SameBut.update ..).extBut.push _).push _))
end
end Mine

namespace Mine
/-- the first of each, in order -/
def dd (acc : List PyData) : List PyData → List PyData
  | [] => acc
  | d :: ds => if (acc.any fun y => PyData.eqv y d) = true then dd acc ds else dd (acc ++ [d]) ds
theorem dd_snoc (d : PyData) : ∀ (ds acc : List PyData), dd acc (ds ++ [d]) = if ((dd acc ds).any fun y => PyData.eqv y d) = true then dd acc ds else dd acc ds ++ [d]
  | [], acc => by simp [dd]
  | x :: ds, acc => by
    rw [List.cons_append, dd, dd]
    split
    · exact dd_snoc d ds acc
    · exact dd_snoc d ds (acc ++ [x])
theorem dd_lay : ∀ (ds acc : List PyData), PyData.canLayAll0 acc = true → PyData.canLayAll0 ds = true → PyData.canLayAll0 (dd acc ds) = true ∧ PyData.depthAll (dd acc ds) ≤ max (PyData.depthAll acc) (PyData.depthAll ds)
  | [], acc, h, _ => ⟨h, Nat.le_max_left _ _⟩
  | d :: ds, acc, h, h' => by
    have h2 : d.canLay0 = true ∧ PyData.canLayAll0 ds = true := by simpa [PyData.canLayAll0] using h'
    rw [dd]
    split
    · have := dd_lay ds acc h h2.2
      exact ⟨this.1, by have := this.2; simp only [PyData.depthAll]; omega⟩
    · have := dd_lay ds (acc ++ [d]) (canLay_append h (by simp [PyData.canLayAll0, h2.1])) h2.2
      refine ⟨this.1, ?_⟩
      have h3 := this.2
      rw [depth_append] at h3
      simp only [PyData.depthAll] at h3 ⊢
      omega
theorem dd_length : ∀ (ds acc : List PyData), (dd acc ds).length ≤ acc.length + ds.length
  | [], acc => Nat.le_refl _
  | d :: ds, acc => by
    rw [dd]
    split
    · have := dd_length ds acc; simp only [List.length_cons]; omega
    · have := dd_length ds (acc ++ [d]); simp only [List.length_cons, List.length_append, List.length_nil] at this ⊢; omega
theorem lay_take : ∀ (ds : List PyData) (k : Nat), PyData.canLayAll0 ds = true → PyData.canLayAll0 (ds.take k) = true ∧ PyData.depthAll (ds.take k) ≤ PyData.depthAll ds
  | ds, 0, _ => by simp [PyData.canLayAll0, PyData.depthAll]
  | [], k + 1, _ => by simp [PyData.canLayAll0]
  | d :: ds, k + 1, h => by
    have h2 : d.canLay0 = true ∧ PyData.canLayAll0 ds = true := by simpa [PyData.canLayAll0] using h
    have := lay_take ds k h2.2
    simp only [List.take_succ_cons, PyData.canLayAll0, PyData.depthAll, h2.1, this.1, Bool.and_self, true_and]
    omega
section
variable {prog : Program} {w : World} {A : Around} {E : Value → Shared → Prop} {s : Shared} {mg mb : Str → Option Value}
theorem unh_call {g : Heap} {ds : List PyData} {vs : List Value} {l f : Addr} {Q : Value → Shared → Prop} (G : Gd mg mb s.heap) (hf : FnAt mg s.heap 4 f) (hl : s.heap.IsList l vs.toArray) (hg : Ext g s.heap) (r : RdAll g vs ds) (hlay : PyData.canLayAll0 ds = true) (hdep : PyData.depthAll ds ≤ 6) (hlen : ds.length ≤ 1000) (hroom : A.depth < recursionLimit) (H : HOk A s.heap) (hu : A.units + 70 < cLine)
    (hQ : ∀ D h' tk ys k, Ext s.heap h' → s.heap.get? D = none → h'.get? D = some (listOf ys.toArray k) → RdAll g ys (dd [] ds) → Q (.ref D) { s with heap := h', toks := tk }) :
    wpAny (model prog w) A (call (.ref f) [.ref l]) Q E s := by
  refine call_fn (binds := [(Str.ofString "unhashable_params", .ref l)]) hf G.nolimit hroom (fun _ _ _ => by rfl) (by rfl) (fun L cd h₁ F => ?_)
  have e : bdOf (stOf 4) = bdOf (stOf 4) := rfl
  conv at e => rhs; whnf
  rw [e]
  refine wpAny_execs_cons ?_
  walk1
  walk1
  walk1
  refine newList_N F News.nil (fun h₂ F₂ N₂ => ?_) (by decide)
  dsimp only
  generalize hD : h₁.objs.size = D at N₂ ⊢
  refine stN F₂ N₂ (fun h₃ F₃ N₃ => ?_)
  dsimp only
  have hD3 := N₃ _ (List.mem_singleton.mpr rfl)
  obtain ⟨hD3a, hD3b, hD3c⟩ := hD3
  dsimp only at hD3a hD3b hD3c
  refine wpAny_execs_cons (wpAny_For ?_)
  walk1
  have hl3 := isList_ext hl F₃.keep
  refine wpAny_pyIter_list hl3 ?_
  generalize hIt : h₃.objs.size = it
  have hit3 : s.heap.get? it = none := by rw [← hIt]; exact next_is_new F₃
  have hitD : it ≠ D := by rw [← hIt]; exact Nat.ne_of_gt (Heap.lt_size hD3a)
  have hitL : it ≠ L := by rw [← hIt]; exact Nat.ne_of_gt F₃.ns.lt
  have hL0 : s.heap.get? L = none := Heap.get?_none_of_le F₃.above
  have hle : vs.length = ds.length := r.length
  refine codeAny_forLoop (fun n s' => ∃ (i : Nat) (ys : List Value) (k : Nat) (h : Heap) (tk : Nat) (m : Str → Option Value), s' = { s with heap := h, toks := tk } ∧ n = vs.length + 1 - i ∧ i ≤ vs.length ∧ h.IsListIter it l i ∧ Ext s.heap h ∧ h.Ns L m ∧ m (Str.ofString "new_unhashable") = some (.ref D) ∧ h.get? D = some (listOf ys.toArray k) ∧ RdAll g ys (dd [] (ds.take i)) ∧ ys.length ≤ i) ?_ (vs.length + 1)
    ⟨0, [], _, _, _, _, rfl, rfl, Nat.zero_le _, ⟨_, by rw [← hIt]; exact Heap.get?_push_size _ rfl, rfl, rfl⟩, fun b o e => Heap.get?_push_of_some _ (F₃.keep b o e), F₃.ns.push _, by with_unfolding_all rfl, Heap.get?_push_of_some _ hD3a, by simpa [dd] using RdAll.nil g, Nat.le_refl _⟩
  rintro n s' ⟨i, ys, k, h, tk, m, rfl, rfl, hi, hit, hx, hn, hm, hDh, hr, hyl⟩
  by_cases hlt : i < vs.length
  · obtain ⟨v, hv⟩ : ∃ v, vs[i]? = some v := ⟨vs[i], List.getElem?_eq_getElem hlt⟩
    refine wpAny_pyNext_list_item hit (isList_ext hl hx) (x := v) (by simpa using hv) (fun h4 hit4 hs4 => ?_)
    dsimp only
    have hn4 : h4.Ns L m := hn.sameBut hs4 (Ne.symm hitL)
    refine wpAny_assign_Name (wpAny_storeName_local (by rfl) hn4 (fun h5 hn5 hs5 => ?_) (by rfl))
    have hx5 : Ext s.heap h5 := fun b o e => hs5.extBut b o (fun q => by rw [show b = L from q, hL0] at e; cases e) (hs4.extBut b o (fun q => by rw [q, hit3] at e; cases e) (hx b o e))
    have hD5 : h5.get? D = some (listOf ys.toArray k) := hs5.extBut _ _ hD3b (hs4.extBut _ _ (Ne.symm hitD) hDh)
    have hit5 : h5.IsListIter it l (i + 1) := hit4.extBut hs5.extBut hitL
    have hm5 : (fun z => if z = Str.ofString "t" then some v else m z) (Str.ofString "new_unhashable") = some (.ref D) := by with_unfolding_all exact hm
    have ht5 : (fun z => if z = Str.ofString "t" then some v else m z) (Str.ofString "t") = some v := by simp
    obtain ⟨d, hd, rd⟩ := r.get' hv
    have hdl := canLay_get hlay hd
    refine wpAny_execs_cons ?_
    walk1
    walk1
    refine ev_local hn5 ht5 ?_
    refine ev_local hn5 hm5 ?_
    have hlt' := lay_take ds i hlay
    have hl5 := dd_lay (ds.take i) [] rfl hlt'.1
    have rD : Rd h5 (.ref D) (.list (dd [] (ds.take i))) := Rd.of_list ⟨_, hD5, rfl, _, rfl⟩ (hr.ext (hg.trans hx5))
    obtain ⟨aD, rD'⟩ := rD
    obtain ⟨ad, rd'⟩ := rd.ext (hg.trans hx5)
    have htk : ds.take (i + 1) = ds.take i ++ [d] := by simp [List.take_add_one, hd]
    refine SeqAt.notIn_list_reads rD' rd' hl5.1 hdl.1 ?_ ?_
    · have := Nat.min_le_right (PyData.depthAll (dd [] (ds.take i))) d.depth
      show A.units + 3 + 1 + _ < cLine
      omega
    walk1
    by_cases hmem : ((dd [] (ds.take i)).any fun y => PyData.eqv y d) = true
    · rw [if_neg (by rw [hmem]; decide)]
      walk1
      walk1
      refine ⟨vs.length + 1 - (i + 1), by omega, i + 1, ys, k, h5, _, _, rfl, rfl, hlt, hit5, hx5, hn5, hm5, hD5, ?_, by omega⟩
      rw [htk, dd_snoc, if_pos hmem]
      exact hr
    · rw [if_pos (by rw [Bool.not_eq_true] at hmem; rw [hmem]; rfl)]
      refine wpAny_execs_cons ?_
      walk1
      walk1
      refine ev_local hn5 hm5 ?_
      refine Calls.getMethod_list_append hD5 rfl rfl ?_
      walk1
      walk1
      refine ev_local hn5 ht5 ?_
      walk1
      refine append_at hD5 (fun h6 hs6 hD6 => ?_) (by rw [List.size_toArray]; exact Nat.le_trans (Nat.le_trans hyl (by omega : i ≤ 1000)) (by decide))
      dsimp only
      walk1
      walk1
      have hx6 : Ext s.heap h6 := fun b o e => hs6.extBut b o (fun q => by rw [q, hD3c] at e; cases e) (hx5 b o e)
      refine ⟨vs.length + 1 - (i + 1), by omega, i + 1, ys ++ [v], k + 1, h6, _, _, rfl, rfl, hlt, hit5.extBut hs6.extBut hitD, hx6, hn5.sameBut hs6 (Ne.symm hD3b), hm5, ?_, ?_, by simp; omega⟩
      · rw [hD6]; congr 2; simp
      · rw [htk, dd_snoc, if_neg hmem]
        exact hr.append (.cons rd (.nil _))
  · obtain rfl : i = vs.length := by omega
    refine pyNext_end (H.ext hx) hit (isList_ext hl hx) (by simp) (fun e he => ?_) (fun h4 hx4 => ?_)
    · rcases H with hh | ⟨e', o, _, hh, he', _⟩
      · have he2 : A.handled = _ := he
        rw [hh] at he2; cases he2
      · have he2 : A.handled = _ := he
        rw [hh] at he2; cases he2
        rintro rfl
        rw [hit3] at he'; cases he'
    · dsimp only
      walk1
      walk1
      walk1
      have hn4 : h4.Ns L m := hn.extBut hx4 (Ne.symm hitL)
      refine ev_local hn4 hm ?_
      refine hQ D h4 _ ys k (fun b o e => hx4 b o (fun q => by rw [q, hit3] at e; cases e) (hx b o e)) hD3c (hx4 _ _ (Ne.symm hitD) hDh) ?_
      rw [hle, List.take_length] at hr
      exact hr
end
end Mine

namespace Mine
section
variable {prog : Program} {w : World} {A : Around} {s : Shared} {l : Addr} {items : Array Value} {n : Nat} {x : Value} {e : Nat → Bool}
abbrev After (prog : Program) (w : World) (A : Around) (R : Result → Shared → Prop) : Fin → Shared → Prop := fun fin s' => match fin with | .done f => R (.ok f) s' | .again c' => c'.quiet = true ∧ codeAny (model prog w) A c' R s'
theorem rm_loop {R : Result → Shared → Prop} (hl : s.heap.get? l = some (listOf items n)) (he : ∀ j (hj : j < items.size), SeqAt.EqAt A.in1 s items[j] x (e j)) (hs1 : items.size ≤ sizeLine) {j : Nat} (hj : j < items.size) (hit : e j = true)
    (h : R (.ok (.ret .none)) { s with heap := s.heap.update l (Obj.mapSeq fun xs => xs.eraseIdxIfInBounds j) }) : ∀ (k i : Nat), j - i = k → i ≤ j → (∀ m, i ≤ m → m < j → e m = false) →
    wpAny (model prog w) A.in1 (Builtin.«list.remove.loop» ⟨[.ref l, x, rawInt i], []⟩) (After prog w A R) (fun e s' => R (.error e) s') s := by
  obtain ⟨hp, g, d, tk, os⟩ := s
  intro k
  induction k with
  | zero =>
    intro i hk hij hno
    obtain rfl : i = j := by omega
    wp_walk using wpAny_loadPart' hl
    have hi : items[((i : Nat) : Int).toNat]? = some items[i] := by simp [hj]
    rw [hi]
    refine wpAny_bind (he i hj prog w _ _ ?_)
    rw [hit]
    have hz' : (items.eraseIdxIfInBounds i).size ≤ sizeLine + 1 := Nat.le_trans (MeetsSeq.size_erased items _) (Nat.le_succ_of_le hs1)
    wp_walk using (wpAny_updateSeq hl rfl (hz := hs1) (_hz' := hz')), wpAny_loadPart' hl
    simpa using h
  | succ k ih =>
    intro i hk hij hno
    have hlt : i < items.size := by omega
    wp_walk using wpAny_loadPart' hl
    have hi : items[((i : Nat) : Int).toNat]? = some items[i] := by simp [hlt]
    have hc : ((i : Int) + 1) = ((i + 1 : Nat) : Int) := by push_cast; rfl
    rw [hi]
    refine wpAny_bind (he i hlt prog w _ _ ?_)
    rw [hno i (Nat.le_refl _) (by omega)]
    wp_walk
    rw [hc]
    exact ⟨plainId_quiet MeetsSeq.plain_remove_loop _, codeAny_builtin MeetsSeq.entry_remove_loop (by
      rw [Around.under_plainId MeetsSeq.plain_remove_loop _]
      exact ih (i + 1) (by omega) (by omega) (fun m h1 h2 => hno m (by omega) h2))⟩
theorem rm_loop_none {R : Result → Shared → Prop} (hl : s.heap.get? l = some (listOf items n)) (he : ∀ j (hj : j < items.size), SeqAt.EqAt A.in1 s items[j] x (e j)) (hno : ∀ j, j < items.size → e j = false) (hh : A.handled = none)
    (h : ∀ h' tk e, Heap.NewExc s.heap h' e "ValueError" → R (.error (.ref e)) { s with heap := h', toks := tk }) : ∀ (k i : Nat), items.size - i = k →
    wpAny (model prog w) A.in1 (Builtin.«list.remove.loop» ⟨[.ref l, x, rawInt i], []⟩) (After prog w A R) (fun e s' => R (.error e) s') s := by
  obtain ⟨hp, g, d, tk, os⟩ := s
  intro k
  induction k with
  | zero =>
    intro i hk
    wp_walk using wpAny_loadPart' hl
    have hi : items[((i : Nat) : Int).toNat]? = none := by simp; omega
    rw [hi]
    wp_walk
    exact_raiseError plainExc_ValueError hh h
  | succ k ih =>
    intro i hk
    have hlt : i < items.size := by omega
    wp_walk using wpAny_loadPart' hl
    have hi : items[((i : Nat) : Int).toNat]? = some items[i] := by simp [hlt]
    have hc : ((i : Int) + 1) = ((i + 1 : Nat) : Int) := by push_cast; rfl
    rw [hi]
    refine wpAny_bind (he i hlt prog w _ _ ?_)
    rw [hno i hlt]
    wp_walk
    rw [hc]
    exact ⟨plainId_quiet MeetsSeq.plain_remove_loop _, codeAny_builtin MeetsSeq.entry_remove_loop (by
      rw [Around.under_plainId MeetsSeq.plain_remove_loop _]
      exact ih (i + 1) (by omega))⟩
theorem rm_call {Q E : Value → Shared → Prop} (hl : s.heap.get? l = some (listOf items n)) (he : ∀ j (hj : j < items.size), SeqAt.EqAt A.in1 s items[j] x (e j)) (hs1 : items.size ≤ sizeLine) {j : Nat} (hj : j < items.size) (hit : e j = true) (hno : ∀ m, m < j → e m = false)
    (h : Q .none { s with heap := s.heap.update l (Obj.mapSeq fun xs => xs.eraseIdxIfInBounds j) }) : wpAny (model prog w) A (call (.builtin "list.remove") [.ref l, x]) Q E s := by
  refine wpAny_call (codeAny_call_builtin F.slot_list_remove.plain F.entry_list_remove (F.slot_list_remove.check _ _ _ _ _ _ _ _ ⟨_, hl, rfl⟩ (F.args_list_remove_2 _ _) ?_))
  obtain ⟨hp, g, d, tk, os⟩ := s
  wp_walk using wpAny_loadPart' hl
  exact ⟨plainId_quiet MeetsSeq.plain_remove_loop _, codeAny_builtin MeetsSeq.entry_remove_loop (by
    rw [Around.under_plainId MeetsSeq.plain_remove_loop _]
    exact rm_loop (R := wants Q E) hl he hs1 hj hit h _ 0 rfl (Nat.zero_le _) (fun m _ h2 => hno m h2))⟩
theorem rm_call_none {Q E : Value → Shared → Prop} (hl : s.heap.get? l = some (listOf items n)) (he : ∀ j (hj : j < items.size), SeqAt.EqAt A.in1 s items[j] x (e j)) (hno : ∀ j, j < items.size → e j = false) (hh : A.handled = none)
    (h : ∀ h' tk e, Heap.NewExc s.heap h' e "ValueError" → E (.ref e) { s with heap := h', toks := tk }) : wpAny (model prog w) A (call (.builtin "list.remove") [.ref l, x]) Q E s := by
  refine wpAny_call (codeAny_call_builtin F.slot_list_remove.plain F.entry_list_remove (F.slot_list_remove.check _ _ _ _ _ _ _ _ ⟨_, hl, rfl⟩ (F.args_list_remove_2 _ _) ?_))
  obtain ⟨hp, g, d, tk, os⟩ := s
  wp_walk using wpAny_loadPart' hl
  exact ⟨plainId_quiet MeetsSeq.plain_remove_loop _, codeAny_builtin MeetsSeq.entry_remove_loop (by
    rw [Around.under_plainId MeetsSeq.plain_remove_loop _]
    exact rm_loop_none (R := wants Q E) hl he hno hh h _ 0 rfl)⟩
end
end Mine

namespace Mine
/-- the frames on the stack lie in the heap as namespaces -/
def FrsOk (h : Heap) (l : List Env) : Prop := ∀ env ∈ l, env.scope.kind ≠ .module ∧ ∃ L o es n, env.frame = some L ∧ h.get? L = some o ∧ o.data = .dict es n
def frsOf (l : List Env) : List Addr := l.filterMap (·.frame)
theorem FrsOk.extF {fs : List Addr} {h h' : Heap} {l : List Env} (x : FrsOk h l) (e : ExtF fs h h') : FrsOk h' l := fun env hm => by
  obtain ⟨a, L, o, es, n, b, c, d⟩ := x env hm
  obtain ⟨sl, q⟩ := e.2 L o c
  exact ⟨a, L, _, es, n, b, q, d⟩
theorem FrsOk.fun {h : Heap} : ∀ {l : List Env}, FrsOk h l → h.FunFrames ⟨#[], {}⟩ l
  | [], _ => trivial
  | env :: l, x => by
    obtain ⟨a, L, o, es, n, b, c, d⟩ := x env (.head _)
    exact ⟨a, ⟨L, o, b, rfl, c, fun vs q => by rw [d] at q; cases q⟩, FrsOk.fun fun e hm => x e (.tail _ hm)⟩
/-- an exception that came up behind the heap h: all of h stands (but the frames' slots); where it flies is fl -/
structure Exc (fs : List Addr) (h h' : Heap) (e : Addr) (X : String) (fl : Value) : Prop where
  ext : ExtF fs h h'
  there : ∃ ob vs tb otb tvs, h'.get? e = some ob ∧ ob.cls = .type X ∧ ob.data = .fields vs ∧ vs[1]? = some (.ref tb) ∧ vs[2]? = some .none ∧ h'.get? tb = some otb ∧ otb.data = .fields tvs ∧ tvs[3]? = some fl ∧ tb ≠ e ∧ h.get? tb = none
  fresh : h.get? e = none
theorem Exc.isA {fs : List Addr} {h : Heap} {s : Shared} {e : Addr} {X : String} {fl : Value} (x : Exc fs h s.heap e X fl) : s.TypeIs (.ref e) X := by
  obtain ⟨ob, _, _, _, _, a, b, _⟩ := x.there
  exact ⟨ob, a, b⟩
theorem Exc.hok {fs : List Addr} {h h' : Heap} {e : Addr} {X : String} {fl : Value} (x : Exc fs h h' e X fl) {A : Around} (hA : A.handled = some (.ref e)) : HOk A h' := by
  obtain ⟨ob, vs, _, _, _, a, b, c, _, d, _⟩ := x.there
  exact .inr ⟨e, ob, vs, hA, a, c, d⟩
section
variable {M : Model} {A : Around} {E : Value → Shared → Prop} {s : Shared} {env : Env} {outer : List Env} {L e : Addr}
/-- the exception's record gets a new entry for this frame -/
theorem note_entry {oe : Obj} {vs : Array Value} {head : Value} {hadNext : Bool} {Q : Unit → Shared → Prop} (hfr : A.frames = some (env :: outer)) (hl : FrsOk s.heap (env :: outer)) (hf : env.frame = some L)
    (he : s.heap.get? e = some oe) (hd : oe.data = .fields vs) (hsz : 1 < vs.size)
    (h : ∀ h' tb otb tvs, (∀ b o, b ≠ e → s.heap.get? b = some o → b ∉ frsOf (env :: outer) → h'.get? b = some o) → (∀ b o, b ≠ e → s.heap.get? b = some o → ∃ sl, h'.get? b = some { o with slots := sl }) →
      h'.get? e = some (oe.mapFields (·.setIfInBounds 1 (.ref tb))) → s.heap.get? tb = none → tb ≠ e → h'.get? tb = some otb → otb.data = .fields tvs → tvs[3]? = some (rawInt L) → Q () { s with heap := h' }) :
    wpAny M A (do let a ← frameOf env; let pl ← entryPlaceOf L hadNext; let b ← EntryCells.newEntry head a .none (rawInt L) .none pl; setField (.ref e) 1 b) Q E s := by
  have hF := hl.fun
  have hene : e ∉ (env :: outer).filterMap (·.frame) := fun hm => by
    obtain ⟨_, o, ho, hnf⟩ := hF.mem hm
    rw [he] at ho; injection ho with ho; subst ho; exact hnf vs hd
  refine wpAny_bind (wpAny_frameOf_fun hfr hF hf fun h₁ hs₁ => ?_)
  refine wpAny_bind (wpAny_entryPlaceOf fun pl hpl => ?_)
  unfold EntryCells.newEntry newFields
  refine wpAny_bind (wpAny_newObj_type ?_ (hpl.sizeOk5 _ _ _ _ _))
  have he₁ : h₁.get? e = some oe := (hs₁.2.1 e hene).trans he
  have he₂ := Heap.get?_push_of_some (h := h₁) { cls := .type "traceback", dict := none, data := .fields ([head, .ref L, .none, rawInt L, .none] ++ (if pl.isEmpty then List.replicate 6 Value.none else pl)).toArray } he₁
  have hTe : h₁.objs.size ≠ e := Nat.ne_of_gt (Heap.lt_size he₁)
  have hd₃ := Obj.data_mapFields hd (·.setIfInBounds 1 (Value.ref h₁.objs.size))
  refine wpAny_setField he₂ hd hsz (h _ h₁.objs.size _ _ ?_ ?_ (Heap.get?_update_self _ he₂ (Obj.isFreed_of_fields hd₃)) (Heap.get?_none_of_le (by rw [hs₁.1]; exact Nat.le_refl _)) hTe ((Heap.get?_update_other _ _ (Ne.symm hTe)).trans (Heap.get?_push_size h₁ rfl)) rfl ?_)
  · intro b o hbe hb hbn
    rw [Heap.get?_update_other _ _ (Ne.symm hbe)]
    exact Heap.get?_push_of_some _ ((hs₁.2.1 b hbn).trans hb)
  · intro b o hbe hb
    obtain ⟨sl, q⟩ := hs₁.2.2 b o hb
    refine ⟨sl, ?_⟩
    rw [Heap.get?_update_other _ _ (Ne.symm hbe)]
    exact Heap.get?_push_of_some _ q
  · simp
/-- a new exception is noted in the frame where it came up -/
theorem note_fresh {h₀ : Heap} {X : String} {Q : Unit → Shared → Prop} (hfr : A.frames = some (env :: outer)) (hl : FrsOk s.heap (env :: outer)) (hf : env.frame = some L) (hx : Heap.NewExc h₀ s.heap e X)
    (h : ∀ h', Exc (frsOf (env :: outer)) h₀ h' e X (rawInt L) → Q () { s with heap := h' }) : wpAny M A (noteFrame (.ref e) env) Q E s := by
  obtain ⟨oe, t, he, hc, hd⟩ := hx.there
  unfold noteFrame
  simp only [hf]
  refine wpAny_bind (wpAny_field he hd (x := .none) rfl ?_)
  rw [if_neg (by decide)]
  refine note_entry hfr hl hf he hd (by simp) fun h' tb otb tvs k1 k2 k3 k4 k5 k6 k7 k8 => h h' ⟨⟨fun b o q n => ?_, fun b o q => ?_⟩, ⟨_, _, tb, otb, tvs, k3, ?_, Obj.data_mapFields hd _, rfl, rfl, k6, k7, k8, k5, ?_⟩, hx.new⟩
  · exact k1 b o (fun z => by rw [z, hx.new] at q; cases q) (hx.keeps b o q) n
  · exact k2 b o (fun z => by rw [z, hx.new] at q; cases q) (hx.keeps b o q)
  · rw [Obj.cls_mapFields]; exact hc
  · cases q : h₀.get? tb with
    | none => rfl
    | some o => have := hx.keeps _ _ q; rw [k4] at this; cases this
/-- an exception that a callee let go is noted in the caller's frame -/
theorem Exc.note {h₀ : Heap} {X : String} {fs : List Addr} {Q : Unit → Shared → Prop} (hfr : A.frames = some (env :: outer)) (hl : FrsOk s.heap (env :: outer)) (hf : env.frame = some L) (hfs : fs = frsOf (env :: outer)) (x : Exc fs h₀ s.heap e X .none)
    (h : ∀ h', Exc fs h₀ h' e X (rawInt L) → Q () { s with heap := h' }) : wpAny M A (noteFrame (.ref e) env) Q E s := by
  obtain ⟨xe, ⟨oe, vs, T, oT, ts, he, hc, hd, h1, h2, hT, hdT, h3, hTe, hT0⟩, hfre⟩ := x
  have hsz : 1 < vs.size := (Array.getElem?_eq_some_iff.mp h1).1
  unfold noteFrame
  simp only [hf]
  refine wpAny_bind (wpAny_field he hd h1 ?_)
  rw [if_pos (show (Value.ref T != Value.none) = true from by simp)]
  refine wpAny_bind (wpAny_field hT hdT h3 ?_)
  rw [if_neg (show ¬ ((Value.none == rawInt L) = true) from by simp [rawInt])]
  refine wpAny_bind (wpAny_setField hT hdT (Array.getElem?_eq_some_iff.mp h3).1 ?_)
  have other : ∀ b, b ≠ T → (s.heap.update T (Obj.mapFields (·.setIfInBounds 3 Value.none))).get? b = s.heap.get? b := fun b hb => Heap.get?_update_other _ _ (Ne.symm hb)
  have he' := (other e (Ne.symm hTe)).trans he
  have hl' : FrsOk (s.heap.update T (Obj.mapFields (·.setIfInBounds 3 Value.none))) (env :: outer) := fun en hm => by
    obtain ⟨a, L', o, es, n, b, c, d⟩ := hl en hm
    refine ⟨a, L', o, es, n, b, (other L' fun q => ?_).trans c, d⟩
    rw [q, hT] at c; injection c with c; subst c; rw [hdT] at d; cases d
  refine note_entry hfr hl' hf he' hd hsz fun h' tb otb tvs k1 k2 k3 k4 k5 k6 k7 k8 => h h' ⟨⟨fun b o q n => ?_, fun b o q => ?_⟩, ⟨_, _, tb, otb, tvs, k3, ?_, Obj.data_mapFields hd _, by simp [hsz], by simp [h2], k6, k7, k8, k5, ?_⟩, hfre⟩
  · have hbe : b ≠ e := fun z => by rw [z, hfre] at q; cases q
    have hbT : b ≠ T := fun z => by rw [z, hT0] at q; cases q
    exact k1 b o hbe ((other b hbT).trans (xe.1 b o q n)) (hfs ▸ n)
  · have hbe : b ≠ e := fun z => by rw [z, hfre] at q; cases q
    have hbT : b ≠ T := fun z => by rw [z, hT0] at q; cases q
    obtain ⟨sl, q2⟩ := xe.2 b o q
    obtain ⟨sl', q3⟩ := k2 b _ hbe ((other b hbT).trans q2)
    exact ⟨sl', q3⟩
  · rw [Obj.cls_mapFields]; exact hc
  · cases q : h₀.get? tb with
    | none => rfl
    | some o =>
      obtain ⟨sl, q2⟩ := xe.2 _ _ q
      have hbT : tb ≠ T := fun z => by rw [z, hT0] at q; cases q
      have q3 := (other tb hbT).trans q2
      rw [k4] at q3; cases q3
/-- an exception that flies in this frame is not noted twice -/
theorem Exc.again {h₀ : Heap} {X : String} {fs : List Addr} {Q : Unit → Shared → Prop} (hf : env.frame = some L) (x : Exc fs h₀ s.heap e X (rawInt L)) (h : Q () s) : wpAny M A (noteFrame (.ref e) env) Q E s := by
  obtain ⟨_, ⟨oe, vs, T, oT, ts, he, hc, hd, h1, h2, hT, hdT, h3, hTe, hT0⟩, _⟩ := x
  exact wpAny_noteFrame_inFlight hf he hd h1 hT hdT h3 h
/-- where it flies is set -/
theorem Exc.flight {h₀ : Heap} {X : String} {fs : List Addr} {fl : Value} {fr : Option Addr} {Q : Unit → Shared → Prop} (x : Exc fs h₀ s.heap e X fl) (h : ∀ h', Exc fs h₀ h' e X (fr.elim .none fun f => rawInt f) → Q () { s with heap := h' }) :
    wpAny M A (setFlight (.ref e) fr) Q E s := by
  obtain ⟨xe, ⟨oe, vs, T, oT, ts, he, hc, hd, h1, h2, hT, hdT, h3, hTe, hT0⟩, hfre⟩ := x
  have hsz : 3 < ts.size := (Array.getElem?_eq_some_iff.mp h3).1
  unfold setFlight
  refine wpAny_bind (wpAny_field he hd h1 ?_)
  rw [if_pos (show (Value.ref T != Value.none) = true from by simp)]
  refine wpAny_setField hT hdT hsz (h _ ?_)
  have other : ∀ b, b ≠ T → (s.heap.update T (Obj.mapFields (·.setIfInBounds 3 (fr.elim .none fun f => rawInt f)))).get? b = s.heap.get? b := fun b hb => Heap.get?_update_other _ _ (Ne.symm hb)
  refine ⟨⟨fun b o q n => ?_, fun b o q => ?_⟩, ⟨oe, vs, T, _, _, (other e (Ne.symm hTe)).trans he, hc, hd, h1, h2, Heap.get?_update_self _ hT (Obj.isFreed_of_fields (Obj.data_mapFields hdT _)), Obj.data_mapFields hdT _, by simp [hsz], hTe, hT0⟩, hfre⟩
  · exact (other b fun z => by rw [z, hT0] at q; cases q).trans (xe.1 b o q n)
  · obtain ⟨sl, q2⟩ := xe.2 b o q
    exact ⟨sl, (other b fun z => by rw [z, hT0] at q; cases q).trans q2⟩
/-- the exception comes back from a loop or a suite of the frame's own -/
theorem Exc.back {h₀ : Heap} {X : String} {fs : List Addr} {fl : Value} (hf : env.frame = some L) (x : Exc fs h₀ s.heap e X fl) (h : ∀ h', Exc fs h₀ h' e X (rawInt L) → E (.ref e) { s with heap := h' }) : cameBackBy M A env E (.ref e) s := by
  unfold cameBackBy
  obtain ⟨xe, ⟨oe, vs, T, oT, ts, he, hc, hd, h1, h2, r⟩, hfre⟩ := id x
  refine wpAny_bind (wpAny_field he hd h1 ?_)
  rw [if_neg (show ¬ ((Value.ref T == Value.none) = true) from by simp)]
  rw [hf]
  exact x.flight (fr := some L) fun h' x' => h h' x'
/-- the exception leaves the frame -/
theorem Exc.leave {h₀ : Heap} {X : String} {fs : List Addr} {Q : Unit → Shared → Prop} (hf : env.frame = some L) (x : Exc fs h₀ s.heap e X (rawInt L)) (h : ∀ h', Exc fs h₀ h' e X .none → Q () { s with heap := h' }) : wpAny M A (leaving env (.ref e)) Q E s := by
  unfold leaving
  exact wpAny_bind (x.again hf (x.flight (fr := none) fun h' x' => h h' x'))
end
end Mine

namespace Mine
def rmD (d : PyData) : List PyData → Option (List PyData)
  | [] => none
  | x :: xs => if PyData.eqv x d = true then some xs else (rmD d xs).map (x :: ·)
def cmpD : List PyData → List PyData → Bool
  | [], t => t.isEmpty
  | d :: ds, t => match rmD d t with
    | none => false
    | some t' => cmpD ds t'
theorem rmD_none {d : PyData} : ∀ {t : List PyData}, rmD d t = none → ∀ (j : Nat) x, t[j]? = some x → PyData.eqv x d = false
  | [], _, j, x, e => by simp at e
  | y :: ys, h, j, x, e => by
    unfold rmD at h
    split at h
    · cases h
    · rename_i hy
      have h' : rmD d ys = none := by simpa using h
      cases j with
      | zero => simp at e; subst e; simpa using hy
      | succ j => exact rmD_none h' j x (by simpa using e)
theorem rmD_some {d : PyData} : ∀ {t t' : List PyData}, rmD d t = some t' → ∃ (j : Nat) (x : PyData), t[j]? = some x ∧ PyData.eqv x d = true ∧ (∀ (m : Nat) y, m < j → t[m]? = some y → PyData.eqv y d = false) ∧ t' = t.eraseIdx j
  | [], _, h => by simp [rmD] at h
  | y :: ys, t', h => by
    unfold rmD at h
    split at h
    · rename_i hy
      cases h
      exact ⟨0, y, rfl, hy, fun m _ hm => absurd hm (Nat.not_lt_zero _), rfl⟩
    · rename_i hy
      cases q : rmD d ys with
      | none => rw [q] at h; cases h
      | some zs =>
        rw [q] at h
        cases h
        obtain ⟨j, x, a, b, c, e⟩ := rmD_some q
        refine ⟨j + 1, x, by simpa using a, b, fun m z hm hz => ?_, by rw [e]; rfl⟩
        cases m with
        | zero => simp at hz; subst hz; simpa using hy
        | succ m => exact c m z (by omega) (by simpa using hz)
theorem RdAll.erase {h : Heap} : ∀ {vs : List Value} {ds : List PyData} (k : Nat), RdAll h vs ds → RdAll h (vs.eraseIdx k) (ds.eraseIdx k)
  | vs, [], k, a => by obtain rfl := a.nil_inv; simpa using RdAll.nil h
  | vs, d :: ds, 0, a => by
    obtain ⟨v, us, rfl, a1, a2⟩ := a.cons_inv
    exact a2
  | vs, d :: ds, k + 1, a => by
    obtain ⟨v, us, rfl, a1, a2⟩ := a.cons_inv
    exact .cons a1 (RdAll.erase k a2)
theorem lay_erase : ∀ (ds : List PyData) (k : Nat), PyData.canLayAll0 ds = true → PyData.canLayAll0 (ds.eraseIdx k) = true ∧ PyData.depthAll (ds.eraseIdx k) ≤ PyData.depthAll ds
  | [], k, h => by simp [PyData.canLayAll0]
  | d :: ds, 0, h => by
    have h2 : d.canLay0 = true ∧ PyData.canLayAll0 ds = true := by simpa [PyData.canLayAll0] using h
    simp only [List.eraseIdx_cons_zero, PyData.depthAll, h2.2, true_and]
    omega
  | d :: ds, k + 1, h => by
    have h2 : d.canLay0 = true ∧ PyData.canLayAll0 ds = true := by simpa [PyData.canLayAll0] using h
    have := lay_erase ds k h2.2
    simp only [List.eraseIdx_cons_succ, PyData.canLayAll0, PyData.depthAll, h2.1, this.1, Bool.and_self, true_and]
    omega
theorem ExtF.shrink {fs : List Addr} {L : Addr} {h h' : Heap} (x : ExtF (L :: fs) h h') (hL : h.get? L = none) : ExtF fs h h' :=
  ⟨fun b o e n => x.1 b o e (fun q => by
    rcases List.mem_cons.mp q with q | q
    · rw [q, hL] at e; cases e
    · exact n q), x.2⟩
section
variable {prog : Program} {w : World} {A : Around} {E : Value → Shared → Prop} {s : Shared} {mg mb : Str → Option Value} {env : Env}
theorem cw_fn {i : Nat} {f : Addr} {pos : Pos} {e : Expr} {rest : List Expr} {Q : Value → Shared → Prop} (hf : FnAt mg s.heap i f)
    (h : wpAny (model prog w) A (spliced (backTo pos (starEach (e :: rest) env))) (fun vs s₁ => Ext s.heap s₁.heap ∧ wpAny (model prog w) A (call (.ref f) vs) Q E s₁) E s)
    (he : starEach (e :: rest) env = (false, eval e env) :: starEach rest env := by rfl) :
    wpAny (model prog w) A (callWith pos (.ref f) [] (backTo pos (starEach (e :: rest) env)) []) Q E s := by
  obtain ⟨o, pm, cd, doc, _, ho, hd, _⟩ := hf
  exact callWith_def_at ho hd (wpAny_mono h (fun vs s₁ h₁ => ⟨h₁.1 _ _ ho, h₁.2⟩) fun _ _ x => x) he
theorem news_add {h₀ h h' : Heap} {L D : Addr} {m : Str → Option Value} {o : Obj} {news : List (Addr × Obj)} (F : Fr h₀ L h m) (N : News h₀ L h news) (x : Ext h h') (hn : h.get? D = none) (hD : h'.get? D = some o) : News h₀ L h' ((D, o) :: news) := by
  intro p hp
  rcases List.mem_cons.mp hp with rfl | hp
  · refine ⟨hD, fun q => ?_, ?_⟩
    · obtain ⟨oL, _, _, e, _⟩ := F.ns
      dsimp only at q
      rw [← q, hn] at e; cases e
    · cases q : h₀.get? D with
      | none => rfl
      | some o' => have := F.keep _ _ q; rw [hn] at this; cases this
  · exact ⟨x _ _ (N p hp).1, (N p hp).2⟩
theorem FnAt.ext {h h' : Heap} {i : Nat} {f : Addr} (x : FnAt mg h i f) (e : Ext h h') : FnAt mg h' i f := let ⟨o, pm, cd, doc, a, b, c, d⟩ := x; ⟨o, pm, cd, doc, a, e _ _ b, c, d.keeps e⟩
theorem cmp_call {ds₁ ds₂ : List PyData} {vs₁ vs₂ : List Value} {l₁ l₂ f : Addr} {fs : List Env} {Q : Value → Shared → Prop} (G : Gd mg mb s.heap) (hf : FnAt mg s.heap 5 f) (hl₁ : s.heap.IsList l₁ vs₁.toArray) (r₁ : RdAll s.heap vs₁ ds₁) (hl₂ : s.heap.IsList l₂ vs₂.toArray) (r₂ : RdAll s.heap vs₂ ds₂)
    (hlay₁ : PyData.canLayAll0 ds₁ = true) (hdep₁ : PyData.depthAll ds₁ ≤ 6) (hlen₁ : ds₁.length ≤ 1000) (hlay₂ : PyData.canLayAll0 ds₂ = true) (hdep₂ : PyData.depthAll ds₂ ≤ 6) (hlen₂ : ds₂.length ≤ 1000)
    (hfr : A.frames = some fs) (hfo : FrsOk s.heap fs) (hroom : A.depth + 1 < recursionLimit) (hh : A.handled = none) (hu : A.units + 80 < cLine)
    (hQ : ∀ h' tk, ExtF (frsOf fs) s.heap h' → Q (.bool (cmpD (dd [] ds₁) (dd [] ds₂))) { s with heap := h', toks := tk }) :
    wpAny (model prog w) A (call (.ref f) [.ref l₁, .ref l₂]) Q E s := by
  refine call_fn (binds := [(Str.ofString "first_args", .ref l₁), (Str.ofString "second_args", .ref l₂)]) hf G.nolimit (by omega) (fun _ _ _ => by rfl) (by rfl) (fun L cd h₁ F => ?_)
  have e : bdOf (stOf 5) = bdOf (stOf 5) := rfl
  conv at e => rhs; whnf
  rw [e]
  obtain ⟨f4, hf4⟩ := G.fn 4 (by decide)
  have hf4n : mg (Str.ofString "_deduplicate_unhashable") = some (.ref f4) := hf4.choose_spec.choose_spec.choose_spec.choose_spec.1
  refine wpAny_execs_cons ?_
  walk1
  walk1
  refine ev_fn (G.ext F.keep) hf4n ?_
  refine cw_fn (hf4.ext F.keep) ?_
  walk1
  walk1
  walk1
  refine ⟨Ext.rfl _, unh_call (G.ext F.keep) (hf4.ext F.keep) (isList_ext hl₁ F.keep) F.keep r₁ hlay₁ hdep₁ hlen₁ (by show A.depth + 1 < _; omega) (.inl hh) (by show A.units + 3 + 70 < cLine; omega) (fun D₁ h₂ tk₂ ys₁ k₁ x₂ n₂ o₂ rd₂ => ?_)⟩
  dsimp only at x₂ n₂ rd₂ ⊢
  have F₂ := F.grownK x₂
  have N₂ := news_add F News.nil x₂ n₂ o₂
  refine stN F₂ N₂ (fun h₃ F₃ N₃ => ?_)
  dsimp only
  refine wpAny_execs_cons ?_
  walk1
  walk1
  refine ev_fn (G.ext F₃.keep) hf4n ?_
  refine cw_fn (hf4.ext F₃.keep) ?_
  walk1
  walk1
  walk1
  refine ⟨Ext.rfl _, unh_call (G.ext F₃.keep) (hf4.ext F₃.keep) (isList_ext hl₂ F₃.keep) F₃.keep r₂ hlay₂ hdep₂ hlen₂ (by show A.depth + 1 < _; omega) (.inl hh) (by show A.units + 3 + 70 < cLine; omega) (fun D₂ h₄ tk₄ ys₂ k₂ x₄ n₄ o₄ rd₄ => ?_)⟩
  dsimp only at x₄ n₄ rd₄ ⊢
  have F₄ := F₃.grownK x₄
  have N₄ := news_add F₃ N₃ x₄ n₄ o₄
  refine stN F₄ N₄ (fun h₅ F₅ N₅ => ?_)
  dsimp only
  refine wpAny_execs_cons ?_
  walk1
  walk1
  refine ev_bt (v := .type "list") (G.ext F₅.keep) (by decide +kernel) (by decide +kernel) (by decide +kernel) ?_
  walk1
  walk1
  walk1
  walk1
  have hlen2 : (dd [] ds₂).length ≤ 1000 := by have := dd_length ds₂ []; simp only [List.length_nil] at this; omega
  have hys2 : ys₂.length ≤ 1000 := by rw [rd₄.length]; exact hlen2
  have hlen1 : (dd [] ds₁).length ≤ 1000 := by have := dd_length ds₁ []; simp only [List.length_nil] at this; omega
  have hys1 : ys₁.length ≤ 1000 := by rw [rd₂.length]; exact hlen1
  have hD2 := N₅ _ (.head _)
  refine list_copyK F₅ N₅ ⟨_, hD2.1, rfl, _, rfl⟩ (fun T c h₆ F₆ N₆ l₆ => ?_) (by rw [List.size_toArray]; exact Nat.le_trans hys2 (by decide))
  dsimp only
  refine stN F₆ N₆ (fun h₇ F₇ N₇ => ?_)
  dsimp only
  refine wpAny_execs_cons (wpAny_Try_except ?_)
  refine wpAny_execs_cons (wpAny_For ?_)
  walk1
  have mT := N₇ (T, listOf ys₂.toArray c) (by simp)
  have m1 := N₇ (D₁, listOf ys₁.toArray k₁) (by simp)
  refine wpAny_pyIter_list (l := D₁) ⟨_, m1.1, rfl, _, rfl⟩ ?_
  generalize hIt : h₇.objs.size = it
  have hit0 : s.heap.get? it = none := by rw [← hIt]; exact next_is_new F₇
  have hitD : it ≠ D₁ := by rw [← hIt]; exact Nat.ne_of_gt (Heap.lt_size m1.1)
  have hitT : it ≠ T := by rw [← hIt]; exact Nat.ne_of_gt (Heap.lt_size mT.1)
  have hitL : it ≠ L := by rw [← hIt]; exact Nat.ne_of_gt F₇.ns.lt
  have hTD : T ≠ D₁ := Nat.ne_of_gt (l₆ (D₁, listOf ys₁.toArray k₁) (by simp))
  have hL0 : s.heap.get? L = none := Heap.get?_none_of_le F₇.above
  have lay1 := dd_lay ds₁ [] rfl hlay₁
  have lay2 := dd_lay ds₂ [] rfl hlay₂
  have hle1 : ys₁.length = (dd [] ds₁).length := rd₂.length
  refine codeAny_forLoop (fun n s' => ∃ (i : Nat) (ts : List Value) (tds : List PyData) (k : Nat) (h : Heap) (tk : Nat) (m : Str → Option Value), s' = { s with heap := h, toks := tk } ∧ n = ys₁.length + 1 - i ∧ i ≤ ys₁.length ∧ h.IsListIter it D₁ i ∧ Ext s.heap h ∧ h.Ns L m ∧ m (Str.ofString "t") = some (.ref T) ∧
      h.get? D₁ = some (listOf ys₁.toArray k₁) ∧ h.get? T = some (listOf ts.toArray k) ∧ RdAll s.heap ts tds ∧ PyData.canLayAll0 tds = true ∧ PyData.depthAll tds ≤ 6 ∧ ts.length ≤ 1000 ∧ cmpD (dd [] ds₁) (dd [] ds₂) = cmpD ((dd [] ds₁).drop i) tds) ?_ (ys₁.length + 1)
    ⟨0, ys₂, dd [] ds₂, _, _, _, _, rfl, rfl, Nat.zero_le _, ⟨_, by rw [← hIt]; exact Heap.get?_push_size _ rfl, rfl, rfl⟩, fun b o e => Heap.get?_push_of_some _ (F₇.keep b o e), F₇.ns.push _, by with_unfolding_all rfl, Heap.get?_push_of_some _ m1.1, Heap.get?_push_of_some _ mT.1, rd₄, lay2.1, by have := lay2.2; simp only [PyData.depthAll] at this; omega, hys2, by simp⟩
  rintro n s' ⟨i, ts, tds, k, h, tk, m, rfl, rfl, hi, hit, hx, hn, hm, hD1, hT, hr, layt, hdt, hlt', hc⟩
  by_cases hlt : i < ys₁.length
  · obtain ⟨v, hv⟩ : ∃ v, ys₁[i]? = some v := ⟨ys₁[i], List.getElem?_eq_getElem hlt⟩
    refine wpAny_pyNext_list_item hit (l := D₁) ⟨_, hD1, rfl, _, rfl⟩ (x := v) (by simpa using hv) (fun h4 hit4 hs4 => ?_)
    dsimp only
    have hn4 : h4.Ns L m := hn.sameBut hs4 (Ne.symm hitL)
    refine wpAny_assign_Name (wpAny_storeName_local (by rfl) hn4 (fun h5 hn5 hs5 => ?_) (by rfl))
    have hx5 : Ext s.heap h5 := fun b o e => hs5.extBut b o (fun q => by rw [show b = L from q, hL0] at e; cases e) (hs4.extBut b o (fun q => by rw [q, hit0] at e; cases e) (hx b o e))
    have hT5 : h5.get? T = some (listOf ts.toArray k) := hs5.extBut _ _ mT.2.1 (hs4.extBut _ _ (Ne.symm hitT) hT)
    have hD15 : h5.get? D₁ = some (listOf ys₁.toArray k₁) := hs5.extBut _ _ m1.2.1 (hs4.extBut _ _ (Ne.symm hitD) hD1)
    have hit5 : h5.IsListIter it D₁ (i + 1) := hit4.extBut hs5.extBut hitL
    have hm5 : (fun z => if z = Str.ofString "elem" then some v else m z) (Str.ofString "t") = some (.ref T) := by with_unfolding_all exact hm
    have ht5 : (fun z => if z = Str.ofString "elem" then some v else m z) (Str.ofString "elem") = some v := by simp
    obtain ⟨d, hd, rd⟩ := rd₂.get' hv
    have hdl := canLay_get lay1.1 hd
    have hdl2 : d.depth ≤ 6 := by have := lay1.2; simp only [PyData.depthAll] at this; omega
    have hdrop : (dd [] ds₁).drop i = d :: (dd [] ds₁).drop (i + 1) := by
      obtain ⟨hk, q⟩ := List.getElem?_eq_some_iff.mp hd
      rw [List.drop_eq_getElem_cons hk, q]
    rw [hdrop, cmpD] at hc
    refine wpAny_execs_cons ?_
    walk1
    walk1
    refine ev_local hn5 hm5 ?_
    refine getMethod_list_of PySem.F.slot_list_remove PySem.F.type_list_remove (l := T) ⟨_, hT5, rfl, _, rfl⟩ ?_ ?_
    · exact ⟨_, hT5, rfl⟩
    walk1
    walk1
    refine ev_local hn5 ht5 ?_
    walk1
    have hq : ∀ j (hj : j < ts.toArray.size), SeqAt.EqAt (A.deeper (envOf (nmOf (stOf 5)) (scOf (stOf 5)) L f cd)).in1 { s with heap := h5, toks := tk + 1 } ts.toArray[j] v (PyData.eqv (tds.getD j .none) d) := by
      intro j hj
      have hj' : j < tds.length := by rw [← hr.length]; simpa using hj
      obtain ⟨y, y1, y2⟩ := hr.get (k := j) (d := tds.getD j .none) (by rw [List.getD_eq_getElem?_getD, List.getElem?_eq_getElem hj']; rfl)
      obtain ⟨as1, ry⟩ := y2.ext hx5
      obtain ⟨as2, rv⟩ := rd.ext hx5
      have hl1 := canLay_get layt (i := j) (d := tds.getD j .none) (by rw [List.getD_eq_getElem?_getD, List.getElem?_eq_getElem hj']; rfl)
      have ey : ts.toArray[j] = y := by
        have := (List.getElem?_eq_some_iff.mp y1).2
        simpa using this
      rw [ey]
      refine SeqAt.eqAt_reads _ _ _ _ _ _ _ _ ry rv hl1.1 hdl.1 ?_
      have := Nat.min_le_left (tds.getD j .none).depth d.depth
      show A.units + 3 + 1 + _ < cLine
      omega
    cases hrm : rmD d tds with
    | some tds' =>
      rw [hrm] at hc
      obtain ⟨j, y, a1, a2, a3, a4⟩ := rmD_some hrm
      have hjl : j < tds.length := (List.getElem?_eq_some_iff.mp a1).1
      refine rm_call hT5 hq (by rw [List.size_toArray]; exact Nat.le_trans hlt' (by decide)) (j := j) (by simp [hr.length]; exact hjl) (by rw [List.getD_eq_getElem?_getD, a1]; exact a2) (fun q hq' => ?_) ?_
      · exact a3 q _ hq' (by rw [List.getD_eq_getElem?_getD, List.getElem?_eq_getElem (by omega)]; rfl)
      dsimp only
      walk1
      have hT6 : ∃ k', (h5.update T (Obj.mapSeq fun xs => xs.eraseIdxIfInBounds j)).get? T = some (listOf (ts.eraseIdx j).toArray k') := by
        have e1 : (ts.toArray.eraseIdxIfInBounds j) = (ts.eraseIdx j).toArray := by simp
        have e2 : Obj.mapSeq (fun xs => xs.eraseIdxIfInBounds j) (listOf ts.toArray k) = listOf (ts.eraseIdx j).toArray (if (ts.eraseIdx j).toArray.size == ts.toArray.size then k else k + 1) := by
          show ({ cls := .type "list", data := .seq (ts.toArray.eraseIdxIfInBounds j) (if (ts.toArray.eraseIdxIfInBounds j).size == ts.toArray.size then k else k + 1) } : Obj) = _
          rw [e1]
        exact ⟨_, (Heap.get?_update_self _ hT5 (by rw [e2]; rfl)).trans (by rw [e2])⟩
      obtain ⟨k', hT6⟩ := hT6
      have oth : ∀ b, b ≠ T → (h5.update T (Obj.mapSeq fun xs => xs.eraseIdxIfInBounds j)).get? b = h5.get? b := fun b hb => Heap.get?_update_other _ _ (Ne.symm hb)
      have lt2 := lay_erase tds j layt
      refine ⟨ys₁.length + 1 - (i + 1), by omega, i + 1, ts.eraseIdx j, tds', k', _, _, (fun z => if z = Str.ofString "elem" then some v else m z), rfl, rfl, hlt, ?_, ?_, ?_, hm5, (oth _ (Ne.symm hTD)).trans hD15, hT6, ?_, ?_, ?_, ?_, hc⟩
      · obtain ⟨oi, z1, z2⟩ := hit5
        exact ⟨oi, (oth _ hitT).trans z1, z2⟩
      · exact fun b o e => (oth b fun q => by rw [q, mT.2.2] at e; cases e).trans (hx5 b o e)
      · exact hn5.at' fun o e => (oth _ (Ne.symm mT.2.1)).trans e
      · rw [a4]; exact hr.erase j
      · rw [a4]; exact lt2.1
      · rw [a4]; have := lt2.2; omega
      · rw [List.length_eraseIdx]; split <;> omega
    | none =>
      rw [hrm] at hc
      refine rm_call_none hT5 hq (fun j hj => ?_) hh (fun h6 tk6 ex nx => ?_)
      · have hj' : j < tds.length := by rw [← hr.length]; simpa using hj
        exact rmD_none hrm j _ (by rw [List.getD_eq_getElem?_getD, List.getElem?_eq_getElem hj']; rfl)
      have hfr' : (A.deeper (envOf (nmOf (stOf 5)) (scOf (stOf 5)) L f cd)).frames = some (envOf (nmOf (stOf 5)) (scOf (stOf 5)) L f cd :: fs) := Around.frames_deeper hfr
      have hfo6 : FrsOk h6 (envOf (nmOf (stOf 5)) (scOf (stOf 5)) L f cd :: fs) := by
        intro en hen
        rcases List.mem_cons.mp hen with rfl | hen
        · obtain ⟨oL, es, ep, z1, z2, _⟩ := hn5
          exact ⟨by show (scOf (stOf 5)).kind ≠ .module; decide +kernel, L, oL, es, ep, rfl, nx.keeps _ _ z1, z2⟩
        · exact (hfo.extF (ExtF.of_ext (fs := []) (hx5.trans nx.keeps))) en hen
      refine note_fresh (L := L) hfr' hfo6 rfl nx (fun h7 x7 => ?_)
      refine x7.back (L := L) rfl (fun h8 x8 => ?_)
      dsimp only
      refine x8.again (L := L) rfl ?_
      refine x8.flight (fr := none) (fun h9 x9 => ?_)
      dsimp only [Option.elim] at x9 ⊢
      have G9 : Gd mg mb h9 := (G.ext hx5).extF x9.ext
      refine wpAny_handleBy_builtin (X := "ValueError") (T := "ValueError") (b := true) (isSubtype_of_subB (by decide +kernel)) (isSubtype_of_subB (by decide +kernel)) (isSubtype_of_subB (by decide +kernel)) ?_
      refine ev_bt (v := .type "ValueError") G9 (by decide +kernel) (by decide +kernel) (by decide +kernel) ⟨rfl, x9.isA, ?_⟩
      rw [if_pos rfl]
      refine x9.flight (fr := none) (fun h10 x10 => ?_)
      refine wpAny_execs_cons ?_
      walk1
      walk1
      have := hQ h10 tk6 (((ExtF.of_ext hx5).trans x10.ext).shrink hL0)
      rw [hc] at this
      exact this
  · obtain rfl : i = ys₁.length := by omega
    refine pyNext_end (l := D₁) (.inl hh) hit ⟨_, hD1, rfl, _, rfl⟩ (by simp) (fun e he => ?_) (fun h4 hx4 => ?_)
    · have he2 : A.handled = _ := he
      rw [hh] at he2; cases he2
    · dsimp only
      walk1
      walk1
      walk1
      walk1
      walk1
      walk1
      have hn4 : h4.Ns L m := hn.extBut hx4 (Ne.symm hitL)
      have hT4 : h4.get? T = some (listOf ts.toArray k) := hx4 _ _ (Ne.symm hitT) hT
      refine ev_local hn4 hm ?_
      refine not_value (wpAny_truthy_list (l := T) ⟨_, hT4, rfl, _, rfl⟩ ?_ ?_)
      · rw [List.size_toArray]; omega
      rw [hle1, List.drop_length, cmpD] at hc
      have := hQ h4 (tk + 1 + 1) ((ExtF.of_ext (fs := frsOf fs) (fun b o e => hx4 b o (fun q => by rw [q, hit0] at e; cases e) (hx b o e))))
      rw [hc] at this
      have e9 : (!(!ts.toArray.isEmpty)) = tds.isEmpty := by
        have := hr.length
        cases ts <;> cases tds <;> simp_all
      rw [e9]
      exact this
end
end Mine

namespace Mine
def bound : Obj := { cls := .type "builtin_function_or_method", data := .fields #[.builtin "dict.fromkeys", .type "dict"] }
theorem type_fk : typeOf (.builtin "dict.fromkeys") = pure (.type "classmethod_descriptor") := by show builtinType _ = _; rw [builtinType_eq_fast]; kernel_rfl
theorem entry_fk : entryFor table "dict.fromkeys" = some Builtin.«dict.fromkeys» := entryFor_of_tree (by kernel_rfl)
theorem entry_fkl : entryFor table "dict.fromkeys.loop" = some Builtin.«dict.fromkeys.loop» := entryFor_of_tree (by kernel_rfl)
theorem plain_fkl : plainId "dict.fromkeys.loop" = true := by decide +kernel
theorem plain_fk : plainId "dict.fromkeys" = true := by decide +kernel
theorem quiet_fk {as : Args} : (Code.builtin "dict.fromkeys" as).quiet = true := Code.quiet_builtin _ (by decide +kernel)
theorem isType_dict : isType (.type "dict") = pure true := by first | rfl | kernel_rfl | (unfold isType; rw [isSubtype_type]; kernel_rfl)
theorem sub_dict_dict : isSubtype (.type "dict") (.type "dict") = pure true := by rw [isSubtype_type]; kernel_rfl
theorem owner_fk : (kfb_private% "ownerAndName") "dict.fromkeys" = ("dict", "fromkeys") := by first | decide +kernel | kernel_rfl
section
variable {prog : Program} {w : World} {M : Model} {A : Around} {E : Value → Shared → Prop} {s : Shared}
theorem run_get {P : Fin → Shared → Prop} (h : P (.done (.ret (.ref s.heap.objs.size))) { s with heap := s.heap.push bound }) :
    wpAny M A (Builtin.«classmethod_descriptor.__get__» ⟨[.builtin "dict.fromkeys", .none, .type "dict"], []⟩) P E s := by
  unfold Builtin.«classmethod_descriptor.__get__»
  refine wpAny_bind (wpAny_of_eq (a := (.builtin "dict.fromkeys", none, some (.type "dict"))) (by first | rfl | kernel_rfl) ?_)
  simp only [owner_fk]
  refine wpAny_bind (wpAny_of_eq (a := .type "dict") rfl ?_)
  refine wpAny_bind (wpAny_of_eq (a := true) isType_dict ?_)
  refine KFB.if_not rfl ?_
  refine wpAny_bind (wpAny_of_eq (a := true) sub_dict_dict ?_)
  refine KFB.if_not rfl ?_
  exact wpAny_bind (wpAny_newObj_type (wpAny_pure h))
theorem inNil (h : Heap) : Frag.In [] h := fun _ _ e => by simp at e
theorem getm {pl : Sem Bool} {Q : Value × List Value → Shared → Prop}
    (h : Q (.ref s.heap.objs.size, []) { s with heap := s.heap.push bound, toks := s.toks + 1 }) :
    wpAny (model prog w) A (getMethod (.type "dict") (PySem.Str.ofString "fromkeys") pl) Q E s := by
  have X := inNil s.heap
  have e : findCls [] (.type "dict") (.type "type") (PySem.Str.ofString "fromkeys") = some (.get (.builtin "classmethod_descriptor.__get__") (.builtin "dict.fromkeys") .none (.type "dict")) := by kernel_rfl
  have hstub : opaqueClassAbove (.type "dict") = pure none := by unfold opaqueClassAbove; dsimp only; rw [show Manifest.isStub "dict" = false by decide +kernel]; rfl
  have ht : typeOf (.type "dict") = pure (.type "type") := by first | rfl | kernel_rfl
  have L0 : Looks (model prog w) s.heap (typeOf (.type "dict")) (.type "type") := Looks.of_pure ht
  have hg : findIn [] (.type "type") "__getattribute__" = some (some (.builtin "type.__getattribute__")) := type_tga
  unfold getMethod specialOf
  refine wpAny_bind (wpAny_bind (L0.here ((looks_findIn X hg).here ?_)))
  dsimp only
  rw [if_pos canon_tga]
  refine wpAny_bind (wpAny_mono (Q := fun v => Q (v, [])) (E := E) ?_ (fun _ _ z => wpAny_pure z) fun _ _ z => z)
  have LO : Looks (model prog w) s.heap (opaqueClassAbove (.type "dict")) none := Looks.of_pure hstub
  refine cls_open X LO L0 hg (looks_hook X (r := none) (by rfl)) (by show subIn [] _ _ = _; rfl) e ?_
  show wpAny _ _ (holding [.builtin "dict.fromkeys"] (call (.builtin "classmethod_descriptor.__get__") [.builtin "dict.fromkeys", .none, .type "dict"]) >>= fun v => ret v) _ _ _
  exact wpAny_bind (wpAny_holding (wpAny_call_entry KFB.slot_get type_fk KFB.entry_get (run_get ⟨_, rfl, wpAny_pure (wpAny_pure h)⟩) (KFB.args_get _ _ _)))
end
end Mine

namespace Mine
theorem mro_dict : mroOf (.type "dict") = pure [.type "dict", .type "object"] := by rw [mroOf_type]; kernel_rfl
theorem lookup_dict_new : typeLookup (.type "dict") "__new__" = pure (some (.builtin "dict.__new__")) := by rw [typeLookup_type, builtinLookup_eq_fast]; kernel_rfl
theorem called_dict : TypeCalled "dict" "dict.__new__" "dict.__init__" :=
  ⟨by decide +kernel, by decide +kernel, ⟨_, _, mro_dict⟩, madeBy_type mro_dict lookup_dict_new (by decide +kernel), by decide +kernel, by rw [isSubtype_type]; kernel_rfl, F.slot_dict_init⟩
theorem typeCall_dict_0 : checkTypeCall "dict" ⟨[], []⟩ = pure () := by kernel_rfl
theorem newCall_dict_0 : checkBuiltinCall "dict.__new__" ⟨[.type "dict"], []⟩ = pure () := by kernel_rfl
theorem entry_dict_new : entryFor table "dict.__new__" = some Builtin.«dict.__new__» := entryFor_of_tree (by kernel_rfl)
theorem dict_new_meets : Meets (Builtin.«dict.__new__» ⟨[.type "dict"], []⟩) (fun _ R s => R (.ok (.ret (.ref s.heap.objs.size))) { s with heap := s.heap.push { cls := .type "dict", data := .dict #[] } }) := by
  refine Meets.of_wp fun prog w A R s hs => ?_
  unfold Builtin.«dict.__new__»
  refine wpAny_bind (wpAny_of_eq (a := true) isType_dict ?_)
  refine KFB.if_not rfl ?_
  refine wpAny_bind (wpAny_of_eq (a := true) sub_dict_dict ?_)
  refine KFB.if_not rfl ?_
  refine wpAny_bind (wpAny_of_eq mro_dict ?_)
  refine KFB.if_not (by decide +kernel) ?_
  exact wpAny_bind (wpAny_newObj_type (wpAny_pure ⟨_, rfl, hs⟩))
theorem dict_init_meets (obj : Addr) : Meets (Builtin.«dict.__init__» ⟨[.ref obj], []⟩) (fun _ R s => s.TypeIs (.ref obj) "dict" ∧ R (.ok (.ret .none)) s) := by
  refine Meets.of_wp fun prog w A R s hs => ?_
  obtain ⟨hT, hq⟩ := hs
  unfold Builtin.«dict.__init__»
  unfold Builtin.Dict.selfAndRest
  refine wpAny_bind (wpAny_bind (wpAny_notOrdered_dict hT ?_))
  refine wpAny_bind (wpAny_of_eq (a := obj) rfl (wpAny_pure ?_))
  show wpAny _ _ (Builtin.Dict.addKeywords obj [] >>= fun _ => ret .none) _ _ s
  refine wpAny_bind (wpAny_of_eq (a := ()) (by first | rfl | kernel_rfl) ?_)
  exact wpAny_pure ⟨_, rfl, hq⟩
section
variable {prog : Program} {w : World} {A : Around} {E : Value → Shared → Prop} {s : Shared}
theorem call_dict_0 {Q : Value → Shared → Prop} (h : Q (.ref s.heap.objs.size) { s with heap := s.heap.push { cls := .type "dict", data := .dict #[] } }) : wpAny (model prog w) A (call (.type "dict") []) Q E s :=
  callType_meets (Q₁ := fun v s' => v = .ref s.heap.objs.size ∧ s' = { s with heap := s.heap.push { cls := .type "dict", data := .dict #[] } }) called_dict typeCall_dict_0 newCall_dict_0 entry_dict_new F.entry_dict_init dict_new_meets ⟨rfl, rfl⟩ (by
    rintro obj s₁ ⟨rfl, rfl⟩
    have hT : Shared.TypeIs { s with heap := s.heap.push { cls := .type "dict", data := .dict #[] } } (.ref s.heap.objs.size) "dict" := ⟨_, Heap.get?_push_size _ rfl, rfl⟩
    exact ⟨hT, F.args_dict_init_1 _, _, dict_init_meets _, hT, rfl, h⟩)
/-- a call of a built-in's bound method -/
theorem cw_bound {u : Addr} {pos : Pos} {env : Env} {e : Expr} {rest : List Expr} {Q : Value → Shared → Prop} (hu : s.heap.get? u = some bound)
    (h : wpAny (model prog w) A (spliced (backTo pos (starEach (e :: rest) env))) (fun vs s₁ => Ext s.heap s₁.heap ∧ wpAny (model prog w) A (call (.ref u) vs) Q E s₁) E s)
    (he : starEach (e :: rest) env = (false, eval e env) :: starEach rest env := by rfl) (hplain : (backTo pos (starEach rest env)).any (·.1) = false := by rfl) :
    wpAny (model prog w) A (callWith pos (.ref u) [] (backTo pos (starEach (e :: rest) env)) []) Q E s := by
  rw [he] at h ⊢
  have hp : (backTo pos ((false, eval e env) :: starEach rest env)).any (·.1) = false := by show (false || (backTo pos (starEach rest env)).any (·.1)) = false; rw [hplain]; rfl
  have h2 : wpAny (model prog w) A (evalArgs (.ref u) true (backTo pos ((false, eval e env) :: starEach rest env)) []) (fun x s₁ => s₁.heap.get? u = some bound ∧ wpAny (model prog w) A (call (.ref u) ([] ++ x.pos) x.kw) Q E s₁) E s := by
    refine Calls.evalArgs_plain (rest := backTo pos (starEach rest env)) (wpAny_mono h (fun vs s₁ h₁ => ⟨h₁.1 _ _ hu, h₁.2⟩) fun _ _ x => x)
  unfold callWith
  refine wpAny_bind (wpAny_holding (wpAny_mono h2 (fun x s₁ h₁ => wpAny_bind (wpAny_standAt ?_)) fun _ _ x => x))
  obtain ⟨ho, hcall⟩ := h₁
  simp only [hp, List.any_nil, Bool.or_false]
  refine wpAny_bind (m := keeperOf (.ref u)) ?_
  unfold keeperOf
  refine wpAny_bind (wpAny_load ho ?_)
  simp only [bound, show (Value.type "builtin_function_or_method" != Value.type "method") = true by decide, show (Value.type "builtin_function_or_method" == Value.type "builtin_function_or_method" || Value.type "builtin_function_or_method" == Value.type "method-wrapper") = true by decide, if_true]
  refine wpAny_pure ?_
  exact wpAny_bind (wpAny_mono hcall (fun r s₂ hr => wpAny_bind (wpAny_holding (wpAny_point (wpAny_pure hr)))) fun _ _ x => x)
theorem check_fk {v : Value} : checkBoundCall "dict.fromkeys" ⟨[.type "dict", v], []⟩ = pure () := by first | kernel_rfl | rfl
/-- dict.fromkeys of a list: up to the loop -/
theorem fk_call {x l : Addr} {items : Array Value} {Q : Value → Shared → Prop} (ho : s.heap.get? x = some bound) (hl : s.heap.IsList l items)
    (h : ∀ d it h', Ext s.heap h' → s.heap.get? d = none → s.heap.get? it = none → d ≠ it → h'.get? d = some { cls := .type "dict", data := .dict #[] } → h'.IsListIter it l 0 →
      codeAny (model prog w) A (.builtin "dict.fromkeys.loop" ⟨[.ref d, .ref it, .none], []⟩) (wants Q E) { s with heap := h' }) :
    wpAny (model prog w) A (call (.ref x) [.ref l]) Q E s := by
  refine wpAny_call (codeAny_of_tree ?_)
  show wpAny _ A.in1 (callAny (.ref x) ⟨[.ref l], []⟩) _ _ s
  simp only [callAny]
  refine wpAny_bind (wpAny_load ho ?_)
  simp only [bound, show (Value.type "builtin_function_or_method" == Value.type "method" || Value.type "builtin_function_or_method" == Value.type "builtin_function_or_method" || Value.type "builtin_function_or_method" == Value.type "method-wrapper") = true by decide, if_true]
  refine KFB.if_so (by decide) ?_
  refine wpAny_bind (wpAny_of_eq (a := ()) check_fk ?_)
  refine wpAny_bind (wpAny_pure (wpAny_pure ?_))
  refine ⟨quiet_fk, codeAny_builtin entry_fk ?_⟩
  rw [Around.under_plainId plain_fk _]
  unfold Builtin.«dict.fromkeys»
  refine wpAny_bind (wpAny_of_eq (a := true) isType_dict ?_)
  refine KFB.if_not rfl ?_
  refine wpAny_bind (wpAny_of_eq (a := true) sub_dict_dict ?_)
  refine KFB.if_not rfl ?_
  refine KFB.if_not rfl ?_
  refine wpAny_bind (wpAny_rule ?_)
  refine wpAny_bind (wpAny_pure ?_)
  refine wpAny_bind (call_dict_0 (s := s) ?_)
  refine wpAny_holding ?_
  have hl2 : (s.heap.push { cls := .type "dict", data := .dict #[] }).IsList l items := hl.push _
  have hd : Shared.TypeIs { s with heap := s.heap.push { cls := .type "dict", data := .dict #[] } } (.ref s.heap.objs.size) "dict" := ⟨_, Heap.get?_push_size _ rfl, rfl⟩
  refine wpAny_bind (wpAny_typeOf (Heap.IsList.typeIs (s := { s with heap := s.heap.push { cls := .type "dict", data := .dict #[] } }) hl2) ?_)
  refine wpAny_bind (wpAny_typeOf hd ?_)
  refine KFB.if_not (by decide) ?_
  refine wpAny_bind (wpAny_typeOf hd ?_)
  refine KFB.if_not (by decide) ?_
  refine wpAny_bind (wpAny_pyIter_list (s := { s with heap := s.heap.push { cls := .type "dict", data := .dict #[] } }) hl2 (wpAny_pure ⟨plainId_quiet plain_fkl _, ?_⟩))
  refine h _ _ _ (fun b o e => Heap.get?_push_of_some _ (Heap.get?_push_of_some _ e)) (Heap.get?_none_of_le (Nat.le_refl _)) (Heap.get?_none_of_le (by rw [Heap.size_push]; exact Nat.le_succ _)) ?_ (Heap.get?_push_of_some _ (Heap.get?_push_size _ rfl)) ⟨_, Heap.get?_push_size _ rfl, rfl, rfl⟩
  rw [Heap.size_push]; exact Nat.ne_of_lt (Nat.lt_succ_self _)
end
end Mine

namespace Mine
section
variable {prog : Program} {w : World} {A : Around} {E : Value → Shared → Prop} {s : Shared}
theorem fk_step {it l d : Addr} {i : Nat} {items : Array Value} {v : Value} {Q : Value → Shared → Prop} (hit : s.heap.IsListIter it l i) (hl : s.heap.IsList l items) (hv : items[i]? = some v)
    (hd : ∃ o, s.heap.get? d = some o ∧ o.cls = .type "dict") (hne : d ≠ it)
    (h : ∀ h', h'.IsListIter it l (i + 1) → Heap.SameBut it s.heap h' → wpAny (model prog w) A.in1 (dictSet d v .none) (fun _ s₂ => codeAny (model prog w) A (.builtin "dict.fromkeys.loop" ⟨[.ref d, .ref it, .none], []⟩) (wants Q E) s₂) E { s with heap := h' }) :
    codeAny (model prog w) A (.builtin "dict.fromkeys.loop" ⟨[.ref d, .ref it, .none], []⟩) (wants Q E) s := by
  refine codeAny_builtin entry_fkl ?_
  rw [Around.under_plainId plain_fkl _]
  unfold Builtin.«dict.fromkeys.loop»
  refine wpAny_bind (wpAny_pyNext_list_item hit hl hv (fun h' hit' hs' => ?_))
  dsimp only
  obtain ⟨o, ho, hc⟩ := hd
  have hd2 : h'.get? d = some o := hs'.extBut _ _ hne ho
  refine wpAny_bind (wpAny_typeOf (s := { s with heap := h' }) (v := .ref d) (T := "dict") (show Shared.TypeIs { s with heap := h' } (.ref d) "dict" from ⟨o, hd2, hc⟩) ?_)
  refine KFB.if_so (by decide) ?_
  refine wpAny_bind (wpAny_of_eq (a := d) rfl ?_)
  refine wpAny_bind (wpAny_holding (wpAny_mono (h h' hit' hs') (fun _ s₂ h₂ => wpAny_pure ⟨plainId_quiet plain_fkl _, h₂⟩) fun _ _ x => ?_))
  exact x
theorem fk_end {it l d : Addr} {i : Nat} {items : Array Value} {Q : Value → Shared → Prop} (hh : A.handled = none) (hit : s.heap.IsListIter it l i) (hl : s.heap.IsList l items) (hv : items[i]? = none)
    (h : ∀ h', Heap.ExtBut it s.heap h' → Q (.ref d) { s with heap := h' }) :
    codeAny (model prog w) A (.builtin "dict.fromkeys.loop" ⟨[.ref d, .ref it, .none], []⟩) (wants Q E) s := by
  refine codeAny_builtin entry_fkl ?_
  rw [Around.under_plainId plain_fkl _]
  unfold Builtin.«dict.fromkeys.loop»
  refine wpAny_bind (pyNext_end (Or.inl hh) hit hl hv (fun e q => by rw [show A.in1.handled = none from hh] at q; cases q) (fun h' hx => ?_))
  exact wpAny_pure (h h' hx)
theorem fk_loop {P : Nat → Heap → Prop} {vs : List Value} {it l d : Addr} {Q : Value → Shared → Prop} (hh : A.handled = none) (hne : d ≠ it)
    (hstep : ∀ (k : Nat) (v : Value) (s₁ : Shared) (Q₁ : Unit → Shared → Prop), vs[k]? = some v → P k s₁.heap → (∀ h' tk, Heap.SameBut d s₁.heap h' → P (k + 1) h' → Q₁ () { s₁ with heap := h', toks := tk }) → wpAny (model prog w) A.in1 (dictSet d v .none) Q₁ E s₁)
    (hPit : ∀ k h h', Heap.ExtBut it h h' → P k h → P k h') (hPl : ∀ k h, P k h → h.IsList l vs.toArray) (hPd : ∀ k h, P k h → ∃ o, h.get? d = some o ∧ o.cls = .type "dict")
    (hQ : ∀ h' tk, P vs.length h' → Q (.ref d) { s with heap := h', toks := tk }) :
    ∀ n k h tk, n = vs.length - k → k ≤ vs.length → P k h → h.IsListIter it l k → codeAny (model prog w) A (.builtin "dict.fromkeys.loop" ⟨[.ref d, .ref it, .none], []⟩) (wants Q E) { s with heap := h, toks := tk } := by
  intro n
  induction n with
  | zero =>
    intro k h tk e hk hp hit
    have : k = vs.length := by omega
    subst this
    exact fk_end hh hit (hPl _ _ hp) (by simp) (fun h' hx => hQ h' tk (hPit _ _ _ hx hp))
  | succ n ih =>
    intro k h tk e hk hp hit
    have hlt : k < vs.length := by omega
    refine fk_step (v := vs[k]) hit (hPl _ _ hp) (by simp [hlt]) (hPd _ _ hp) hne (fun h' hit' hs' => ?_)
    refine hstep k vs[k] _ _ (by simp [hlt]) (hPit _ _ _ hs'.extBut hp) (fun h2 tk2 hs2 hp2 => ?_)
    exact ih (k + 1) h2 tk2 (by omega) (by omega) hp2 (hit'.extBut hs2.extBut (Ne.symm hne))
end
end Mine

namespace Mine
/-- what may stand in a tuple that is a key -/
inductive Atom where
  | none
  | str (x : Str)
  | int (i : Int)
  deriving DecidableEq
def Atom.emb : Atom → PyData
  | .none => .none
  | .str x => .str x
  | .int i => .int i
def Atom.is : Atom → Value → Bool
  | .none, .none => true
  | .str x, .str y _ => y == x
  | .int i, .int j _ => j == i
  | _, _ => false
theorem Atom.shape {k : Atom} {v : Value} (h : k.is v = true) : (k = .none ∧ v = .none) ∨ (∃ x t, k = .str x ∧ v = .str x t) ∨ ∃ i t, k = .int i ∧ v = .int i t := by
  cases k <;> cases v <;> simp_all [Atom.is]
theorem Atom.flat {k : Atom} {v : Value} (h : k.is v = true) : PyProof.V.Flat v k.emb := by
  rcases Atom.shape h with ⟨rfl, rfl⟩ | ⟨x, t, rfl, rfl⟩ | ⟨i, t, rfl, rfl⟩
  · exact fun _ => .none
  · exact fun _ => .str _ _
  · exact fun _ => .int _ _
theorem Atom.eqv (a b : Atom) : PyData.eqv a.emb b.emb = decide (a = b) := by
  cases a <;> cases b <;> simp [Atom.emb, PyData.eqv] <;> exact Bool.beq_eq_decide_eq _ _
section
variable {prog : Program} {w : World} {A : Around} {E : Value → Shared → Prop} {s : Shared}
theorem hash_none {Q : Int → Shared → Prop} (h : Q 4238894112 { s with toks := s.toks + 1 }) : wpAny (model prog w) A (pyHash .none) Q E s := by
  have hT : s.TypeIs .none "NoneType" := rfl
  unfold pyHash
  show wpAny _ _ (pyHashByItsType .none) _ _ _
  unfold pyHashByItsType
  have hv : [Value.none].any Value.onHeap = false := rfl
  refine wpAny_bind ?_
  rw [cRoomFor, if_neg (by rw [hv]; exact Bool.false_ne_true)]; refine wpAny_pure ?_
  refine wpAny_bind (wpAny_specialOf hT F.slot_NoneType_hash.lookup ?_)
  show wpAny _ _ (if (some (Value.builtin "NoneType.__hash__") == some Value.none) = true then _ else _) Q E s
  rw [if_neg (by rw [beq_builtin_none]; exact Bool.false_ne_true)]
  refine wpAny_bind (wpAny_specialOf hT F.slot_NoneType_hash.lookup ?_)
  show wpAny _ _ (callSpecialIfBoundUnlessNone? .none "__hash__" _ >>= _) Q E s
  refine wpAny_bind (wpAny_callSpecialIfBoundUnlessNone?_slot hT F.slot_NoneType_hash
    (wpAny_call_entry F.slot_NoneType_hash hT F.entry_NoneType_hash
      (show wpAny _ _ (do ret (← mkInt 4238894112)) _ _ s from wpAny_ret_mkInt ?_) (F.args_NoneType_hash_1 _)))
  show wpAny _ _ (if (decide (-(2 : Int) ^ 63 ≤ 4238894112) && decide ((4238894112 : Int) < 2 ^ 63)) = true then _ else _) Q E _
  rw [if_pos (by decide)]
  exact wpAny_pure h
end
def atomKind (prog : Program) (w : World) : KeyKind prog w Atom where
  is := Atom.is
  hash := fun k => match k with | .none => 4238894112 | .str x => hashStr w x | .int i => hashInt i
  inj := fun v a b ha hb => by
    rcases Atom.shape ha with ⟨rfl, rfl⟩ | ⟨x, t, rfl, rfl⟩ | ⟨i, t, rfl, rfl⟩ <;> cases b <;> simp_all [Atom.is]
  byValue := fun k v h => by rcases Atom.shape h with ⟨rfl, rfl⟩ | ⟨x, t, rfl, rfl⟩ | ⟨i, t, rfl, rfl⟩ <;> rfl
  pyHash := fun hv h => by
    rcases Atom.shape hv with ⟨rfl, rfl⟩ | ⟨x, t, rfl, rfl⟩ | ⟨i, t, rfl, rfl⟩
    · exact hash_none h
    · exact wpAny_pyHash_str h
    · exact wpAny_pyHash_int h
  eqBool := fun {A E s a b u v Q} hu hv h => by
    have := keq_flat (A := A) (s := s) (Atom.flat hu) (Atom.flat hv)
    rw [Atom.eqv] at this
    exact this _ _ _ _ h
  «strs» := fun k x t v h => by
    rcases Atom.shape h with ⟨_, q⟩ | ⟨x', t', e, q⟩ | ⟨i, t', _, q⟩
    · exact Value.noConfusion q
    · injection q with q1 q2
      subst q1 e
      cases v <;> rfl
    · exact Value.noConfusion q
/-- a dict's keys, with None behind each -/
def DE (h : Heap) (d : Addr) (ks : List Value) : Prop := ∃ o es ep, h.get? d = some o ∧ o.ExactDict ∧ o.data = .dict es ep ∧ es.toList.map (fun e => (e.key, e.val)) = ks.map fun k => (k, Value.none)
theorem DE.ext {h h' : Heap} {d : Addr} {ks : List Value} (x : DE h d ks) (e : Ext h h') : DE h' d ks := let ⟨o, es, ep, a, b⟩ := x; ⟨o, es, ep, e _ _ a, b⟩
section
variable {K : Type} [DecidableEq K] (emb : K → PyData) (hE : ∀ a b, PyData.eqv (emb a) (emb b) = decide (a = b))
include hE
theorem stored_dd {kvs : List (K × Value)} {k : K} (hn : ∀ kv ∈ kvs, kv.2 = Value.none) :
    ((stored kvs k .none).map fun kv => emb kv.1) = (if ((kvs.map fun kv => emb kv.1).any fun y => PyData.eqv y (emb k)) = true then (kvs.map fun kv => emb kv.1) else (kvs.map fun kv => emb kv.1) ++ [emb k]) ∧ (∀ kv ∈ stored kvs k .none, kv.2 = Value.none) := by
  have e : ((kvs.map fun kv => emb kv.1).any fun y => PyData.eqv y (emb k)) = kvs.any (fun kv => kv.1 = k) := by
    rw [List.any_map]; congr 1; funext kv; simp [hE]
  rw [e]
  unfold stored
  by_cases hq : (kvs.any fun kv => decide (kv.1 = k)) = true
  · rw [if_pos hq, if_pos hq]
    have : kvs.map (fun kv => if kv.1 = k then (kv.1, Value.none) else kv) = kvs := by
      conv => rhs; rw [← List.map_id kvs]
      apply List.map_congr_left
      intro kv hm
      have := hn kv hm
      split
      · rw [← this]; rfl
      · rfl
    rw [this]
    exact ⟨rfl, hn⟩
  · rw [if_neg hq, if_neg hq]
    refine ⟨by simp, fun kv hm => ?_⟩
    rcases List.mem_append.mp hm with h | h
    · exact hn kv h
    · rw [List.mem_singleton.mp h]
theorem storedH_dd {xs : List (K × Addr × Value)} {k : K} {a : Addr} (hn : ∀ x ∈ xs, x.2.2 = Value.none) :
    storedH xs k a .none = (if ((xs.map fun x => emb x.1).any fun y => PyData.eqv y (emb k)) = true then xs else xs ++ [(k, a, .none)]) := by
  have e : ((xs.map fun kv => emb kv.1).any fun y => PyData.eqv y (emb k)) = (atKey xs k).isSome := by
    rw [List.any_map]
    unfold atKey
    rw [Option.isSome_map, Bool.eq_iff_iff, List.find?_isSome, List.any_eq_true]
    simp [hE]
  rw [e]
  cases hk : atKey xs k with
  | none => rw [storedH_new hk]; rfl
  | some p =>
    rw [storedH_old hk]
    show xs.map (putAt k .none) = xs
    conv => rhs; rw [← List.map_id xs]
    apply List.map_congr_left
    intro x hm
    have := hn x hm
    obtain ⟨x1, x2, x3⟩ := x
    simp only at this
    subst this
    unfold putAt
    split <;> rfl
end
end Mine

namespace Mine
def tupEmb (as : List Atom) : PyData := .tuple (as.map Atom.emb)
theorem eqvAll_atoms : ∀ as bs : List Atom, PyData.eqvAll (as.map Atom.emb) (bs.map Atom.emb) = decide (as = bs)
  | [], [] => by simp [PyData.eqvAll]
  | [], b :: bs => by simp [PyData.eqvAll]
  | a :: as, [] => by simp [PyData.eqvAll]
  | a :: as, b :: bs => by
    have := eqvAll_atoms as bs
    simp [PyData.eqvAll, Atom.eqv, this]
theorem tupEmb_eqv (as bs : List Atom) : PyData.eqv (tupEmb as) (tupEmb bs) = decide (as = bs) := by
  show PyData.eqvAll _ _ = _
  exact eqvAll_atoms as bs
theorem str_eqv (a b : Str) : PyData.eqv (.str a) (.str b) = decide (a = b) := by
  simp [PyData.eqv]; exact Bool.beq_eq_decide_eq _ _
theorem atom_of_rd {h : Heap} {v : Value} {a : Atom} (r : Rd h v a.emb) : a.is v = true := by
  obtain ⟨as, r⟩ := r
  cases a <;> cases r <;> simp [Atom.is]
section
variable {prog : Program} {w : World} {A : Around} {E : Value → Shared → Prop} {s : Shared}
theorem items_of_rd {h : Heap} : ∀ {as : List Atom} {vs : List Value}, RdAll h vs (as.map Atom.emb) → ItemsAre (atomKind prog w) as vs
  | [], vs, r => by rw [r.nil_inv]; exact .nil
  | a :: as, vs, r => by
    obtain ⟨v, ws, rfl, r1, r2⟩ := r.cons_inv
    exact .cons (atom_of_rd r1) (items_of_rd r2)
theorem key_of_rd {h : Heap} {v : Value} {as : List Atom} (r : Rd h v (tupEmb as)) : ∃ a, v = .ref a ∧ IsTupleKey (atomKind prog w) h as a := by
  obtain ⟨a, vs, rfl, ⟨o, h1, h2, n, h3⟩, r2⟩ := r.tuple_inv
  exact ⟨a, rfl, o, vs, n, h1, h2, h3, items_of_rd r2⟩
theorem pairs_out {h : Heap} {es : List DictEntry} {kvs : List (Str × Value)} (p : Pairs (strKind prog w) es kvs) (hn : ∀ kv ∈ kvs, kv.2 = Value.none) :
    ∃ ks, es.map (fun e => (e.key, e.val)) = ks.map (fun k => (k, Value.none)) ∧ RdAll h ks (kvs.map fun kv => PyData.str kv.1) := by
  induction p with
  | nil => exact ⟨[], rfl, RdAll.nil h⟩
  | @cons e kv es kvs h1 h2 _ ih =>
    obtain ⟨ks, e1, r1⟩ := ih (fun kv hm => hn kv (List.mem_cons_of_mem _ hm))
    obtain ⟨t, ht⟩ := Value.isStrOf_shape h1
    refine ⟨.str kv.1 t :: ks, ?_, RdAll.cons (Rd.str h _ _) r1⟩
    simp only [List.map_cons, e1, h2, ht, hn kv (List.mem_cons_self ..)]
theorem szl {n : Nat} (h : n ≤ 1000) : n ≤ sizeLine := Nat.le_trans h (by decide)
def Keys (ds : List PyData) : Prop := (∀ d ∈ ds, ∃ x, d = .str x) ∨ (∀ d ∈ ds, ∃ as, d = tupEmb as)
theorem fk_keys {g : Heap} {x l : Addr} {vs : List Value} {ds : List PyData} {Q : Value → Shared → Prop} (ho : s.heap.get? x = some bound) (hl : s.heap.IsList l vs.toArray) (hg : Ext g s.heap) (r : RdAll g vs ds) (hk : Keys ds)
    (hlen : ds.length ≤ 1000) (hh : A.handled = none) (hu : A.units + 10 < cLine)
    (hQ : ∀ d h' tk ks, Ext s.heap h' → s.heap.get? d = none → DE h' d ks → RdAll g ks (dd [] ds) → Q (.ref d) { s with heap := h', toks := tk }) :
    wpAny (model prog w) A (call (.ref x) [.ref l]) Q E s := by
  refine fk_call ho hl (fun d it h' hx hd hit hne hdo hito => ?_)
  have hle : vs.length = ds.length := r.length
  have tkd : ∀ (k : Nat) (y : PyData), ds[k]? = some y → ds.take (k + 1) = ds.take k ++ [y] := fun k y e => by simp [List.take_add_one, e]
  have extd : ∀ h1 h2, Ext s.heap h1 → Heap.SameBut d h1 h2 → Ext s.heap h2 := fun h1 h2 e sb b o q => sb.extBut b o (fun q2 => by rw [q2, hd] at q; cases q) (e b o q)
  have exti : ∀ h1 h2, Ext s.heap h1 → Heap.ExtBut it h1 h2 → Ext s.heap h2 := fun h1 h2 e sb b o q => sb b o (fun q2 => by rw [q2, hit] at q; cases q) (e b o q)
  rcases hk with hk | hk
  · refine fk_loop (s := s) (vs := vs) (P := fun k h => Ext s.heap h ∧ ∃ kvs, h.DictOf (strKind prog w) d kvs ∧ (kvs.map fun kv => PyData.str kv.1) = dd [] (ds.take k) ∧ (∀ kv ∈ kvs, kv.2 = Value.none) ∧ kvs.length ≤ k) hh hne ?_ ?_ ?_ ?_ ?_ vs.length 0 h' s.toks rfl (Nat.zero_le _) ⟨hx, [], ⟨_, #[], 0, hdo, ⟨rfl, rfl, rfl⟩, rfl, fun e he => by simp at he, .nil, List.nodup_nil⟩, rfl, fun _ hm => by simp at hm, Nat.le_refl _⟩ hito
    · rintro k v s₁ Q₁ hv ⟨e1, kvs, q1, q2, q3, q4⟩ hq
      obtain ⟨y, hy, ry⟩ := r.get' hv
      obtain ⟨z, rfl⟩ := hk y (List.mem_of_getElem? hy)
      obtain ⟨t, rfl⟩ := ry.str_inv
      have hk2 : k < ds.length := (List.getElem?_eq_some_iff.mp hy).1
      have hst := stored_dd PyData.str str_eqv (kvs := kvs) (k := z) q3
      refine wpAny_dictSet_pairs (knd := strKind prog w) (k := z) (by show Value.isStrOf z (.str z t) = true; simp [Value.isStrOf]) q1 (fun h2 d2 sb => hq h2 _ sb ⟨extd _ _ e1 sb, _, d2, ?_, hst.2, ?_⟩) (szl (by omega))
      · rw [hst.1, tkd k _ hy, dd_snoc, q2]
      · exact Nat.le_trans (stored_length_le _ _ _) (by omega)
    · rintro k h1 h2 sb ⟨e1, kvs, q1, q2⟩
      exact ⟨exti _ _ e1 sb, kvs, q1.extBut sb hne, q2⟩
    · rintro k h1 ⟨e1, _⟩; exact isList_ext hl e1
    · rintro k h1 ⟨e1, kvs, ⟨o, es, ep, a, b, _⟩, _⟩; exact ⟨o, a, b.1⟩
    · rintro h1 tk ⟨e1, kvs, ⟨o, es, ep, a, b, c, _, p, _⟩, q2, q3, _⟩
      obtain ⟨ks, k1, k2⟩ := pairs_out (h := g) p q3
      refine hQ d h1 tk ks e1 hd ⟨o, es, ep, a, b, c, k1⟩ ?_
      rw [q2, hle, List.take_length] at k2
      exact k2
  · refine fk_loop (s := s) (vs := vs) (P := fun k h => Ext s.heap h ∧ ∃ xs, h.DictOfH (tupleKind (atomKind prog w)) d xs ∧ (xs.map fun x => tupEmb x.1) = dd [] (ds.take k) ∧ (∀ x ∈ xs, x.2.2 = Value.none) ∧ xs.length ≤ k ∧ RdAll g (xs.map fun x => .ref x.2.1) (dd [] (ds.take k))) hh hne ?_ ?_ ?_ ?_ ?_ vs.length 0 h' s.toks rfl (Nat.zero_le _) ⟨hx, [], ⟨_, #[], 0, hdo, ⟨rfl, rfl, rfl⟩, rfl, rfl, fun e he => by simp at he, List.nodup_nil⟩, rfl, fun _ hm => by simp at hm, Nat.le_refl _, RdAll.nil g⟩ hito
    · rintro k v s₁ Q₁ hv ⟨e1, xs, q1, q2, q3, q4, q5⟩ hq
      obtain ⟨y, hy, ry⟩ := r.get' hv
      obtain ⟨z, rfl⟩ := hk y (List.mem_of_getElem? hy)
      have hk2 : k < ds.length := (List.getElem?_eq_some_iff.mp hy).1
      obtain ⟨a, rfl, hka⟩ := key_of_rd (prog := prog) (w := w) (ry.ext (hg.trans e1))
      have hst := storedH_dd tupEmb tupEmb_eqv (xs := xs) (k := z) (a := a) q3
      refine wpAny_dictSet_heap (knd := tupleKind (atomKind prog w)) (k := z) (by show A.in1.units < cLine; exact Nat.lt_of_le_of_lt (Nat.add_le_add_left (by decide : 1 ≤ 10) _) hu) hka q1 (fun h2 d2 sb => hq h2 _ sb ⟨extd _ _ e1 sb, _, d2, ?_⟩) (szl (by omega))
      rw [hst, tkd k _ hy, dd_snoc, q2]
      by_cases hq : ((dd [] (ds.take k)).any fun y => PyData.eqv y (tupEmb z)) = true
      · rw [if_pos hq, if_pos hq]; exact ⟨q2, q3, by omega, q5⟩
      · rw [if_neg hq, if_neg hq]
        refine ⟨by simp [q2], fun x hm => ?_, by simp; omega, ?_⟩
        · rcases List.mem_append.mp hm with h | h
          · exact q3 x h
          · rw [List.mem_singleton.mp h]
        · rw [List.map_append]
          exact q5.append (RdAll.cons ry (RdAll.nil g))
    · rintro k h1 h2 sb ⟨e1, xs, ⟨o, es, ep, a, b, c, e, i, n⟩, q2, q3, q4, q5⟩
      refine ⟨exti _ _ e1 sb, xs, ⟨o, es, ep, sb _ _ hne a, b, c, e, fun x hm => ?_, n⟩, q2, q3, q4, q5⟩
      obtain ⟨j, hj⟩ := List.mem_iff_getElem?.mp hm
      have hj1 : (xs.map fun x => tupEmb x.1)[j]? = some (tupEmb x.1) := by simp [hj]
      rw [q2] at hj1
      obtain ⟨v, hv1, hv2⟩ := q5.get hj1
      have : v = .ref x.2.1 := by simpa [hj] using hv1.symm
      subst this
      obtain ⟨a', ha', hka⟩ := key_of_rd (prog := prog) (w := w) (hv2.ext (hg.trans (exti _ _ e1 sb)))
      cases ha'
      exact hka
    · rintro k h1 ⟨e1, _⟩; exact isList_ext hl e1
    · rintro k h1 ⟨e1, kvs, ⟨o, es, ep, a, b, _⟩, _⟩; exact ⟨o, a, b.1⟩
    · rintro h1 tk ⟨e1, xs, ⟨o, es, ep, a, b, c, e, _⟩, q2, q3, _, q5⟩
      rw [hle, List.take_length] at q5
      refine hQ d h1 tk _ e1 hd ⟨o, es, ep, a, b, c, ?_⟩ q5
      rw [e, List.map_map, List.map_map]
      apply List.map_congr_left
      intro x hm
      simp [entryOfKey, q3 x hm]
end
end Mine

namespace Mine
theorem look_list_hash : typeLookup (.type "list") "__hash__" = pure (some .none) := by rw [typeLookup_type, builtinLookup_eq_fast]; kernel_rfl
section
variable {prog : Program} {w : World} {A : Around} {E : Value → Shared → Prop} {s : Shared}
theorem tname_list {it : Addr} {Q : String → Shared → Prop} (hT : s.TypeIs (.ref it) "list") (h : Q "list" s) : wpAny (model prog w) A (PySem.typeNameOf (.ref it)) Q E s := by
  unfold PySem.typeNameOf shownTypeOf
  refine wpAny_bind (wpAny_bind (wpAny_typeOf hT ?_))
  simp only [show (Value.type "list" == Value.type "builtin_function_or_method") = false by decide, Bool.false_eq_true, if_false]
  refine wpAny_pure ?_
  have e : typeName (.type "list") = pure "list" := by unfold typeName; rw [find?_eq_fast]; kernel_rfl
  rw [e]; exact wpAny_pure h
theorem hash_list {l : Addr} {items : Array Value} {Q : Int → Shared → Prop} (hu : A.units < cLine) (hh : A.handled = none) (hl : s.heap.IsList l items)
    (h : ∀ h' tk e, Heap.NewExc s.heap h' e "TypeError" → E (.ref e) { s with heap := h', toks := tk }) : wpAny (model prog w) A (pyHash (.ref l)) Q E s := by
  have hT := hl.typeIs
  show wpAny _ _ (pyHashByItsType (.ref l)) _ _ _
  unfold pyHashByItsType
  refine wpAny_bind (wpAny_cRoomFor_or (.inr hu) ?_)
  refine wpAny_bind (wpAny_specialOf hT look_list_hash ?_)
  refine KFB.if_so rfl ?_
  refine wpAny_bind (wpAny_rule ?_)
  refine wpAny_bind (tname_list hT ?_)
  exact wpAny_bind (wpAny_raiseErrorMade plainExc_TypeError hh h)
theorem hash_tuple_bad {a : Addr} {items : Array Value} {as : List Atom} {ys : List PyData} {rest : List PyData} {Q : Int → Shared → Prop} (hu : A.units + 4 < cLine) (hh : A.handled = none) (ht : s.heap.IsTuple a items) (r : RdAll s.heap items.toList (as.map Atom.emb ++ PyData.list ys :: rest))
    (h : ∀ h' tk e, Heap.NewExc s.heap h' e "TypeError" → E (.ref e) { s with heap := h', toks := tk }) : wpAny (model prog w) A (pyHash (.ref a)) Q E s := by
  obtain ⟨o, ho, hc, n, hd⟩ := ht
  have hT : s.TypeIs (.ref a) "tuple" := ⟨o, ho, hc⟩
  show wpAny _ _ (pyHashByItsType (.ref a)) _ _ _
  unfold pyHashByItsType
  refine wpAny_bind (wpAny_cRoomFor_or (.inr (by omega)) ?_)
  refine wpAny_bind (wpAny_specialOf hT F.slot_tuple_hash.lookup ?_)
  show wpAny _ _ (if (some (Value.builtin "tuple.__hash__") == some Value.none) = true then _ else _) Q E s
  rw [if_neg (by rw [beq_builtin_none]; exact Bool.false_ne_true)]
  refine wpAny_bind (wpAny_specialOf hT F.slot_tuple_hash.lookup ?_)
  show wpAny _ _ (callSpecialIfBoundUnlessNone? (.ref a) "__hash__" _ >>= _) Q E s
  refine wpAny_bind (wpAny_callSpecialIfBoundUnlessNone?_slot hT F.slot_tuple_hash (wpAny_call_entry F.slot_tuple_hash hT F.entry_tuple_hash ?_ (F.args_tuple_hash_1 _)))
  show wpAny _ _ (Builtin.Tuple.tupleItemsOf (.ref a) >>= _) _ _ s
  refine wpAny_bind (wpAny_tupleItemsOf ho hd ?_)
  refine wpAny_bind ?_
  rw [← Array.forIn_toList]
  refine wpAny_forIn_list _
    (fun (vs : List Value) (b : Array Int) s' => ∃ (as' : List Atom) (tk : Nat), RdAll s.heap vs (as'.map Atom.emb ++ PyData.list ys :: rest) ∧ s' = { s with toks := tk })
    _ ?_ ?_ _ _ ⟨as, s.toks, r, rfl⟩
  · rintro x vs b s' ⟨as', tk, hr, rfl⟩
    cases as' with
    | nil =>
      obtain ⟨v, ws, e, r1, r2⟩ := hr.cons_inv
      cases e
      obtain ⟨l, its, rfl, hl, _⟩ := r1.list_inv
      refine wpAny_bind (hash_list (items := its) (by show A.units + 1 < cLine; omega) hh hl ?_)
      exact fun h' tk e nx => h h' tk e nx
    | cons k ks =>
      obtain ⟨v, ws, e, r1, r2⟩ := hr.cons_inv
      cases e
      refine wpAny_bind ((atomKind prog w).pyHash (atom_of_rd r1) ?_)
      exact wpAny_pure ⟨ks, _, r2, rfl⟩
  · rintro b s' ⟨as', tk, hr, rfl⟩
    have := hr.length
    simp at this
/-- a key that cannot be hashed -/
def Bad (d : PyData) : Prop := (∃ ys, d = .list ys) ∨ ∃ as ys rest, d = .tuple (List.map Atom.emb as ++ PyData.list ys :: rest)
theorem hash_bad {v : Value} {d : PyData} {Q : Int → Shared → Prop} (hu : A.units + 4 < cLine) (hh : A.handled = none) (r : Rd s.heap v d) (hb : Bad d)
    (h : ∀ h' tk e, Heap.NewExc s.heap h' e "TypeError" → E (.ref e) { s with heap := h', toks := tk }) : wpAny (model prog w) A (pyHash v) Q E s := by
  rcases hb with ⟨ys, rfl⟩ | ⟨as, ys, rest, rfl⟩
  · obtain ⟨l, its, rfl, hl, _⟩ := r.list_inv
    exact hash_list (by omega) hh hl h
  · obtain ⟨l, its, rfl, hl, r2⟩ := r.tuple_inv
    exact hash_tuple_bad hu hh hl r2 h
theorem fk_bad {x l : Addr} {v : Value} {vs : List Value} {d : PyData} {Q : Value → Shared → Prop} (ho : s.heap.get? x = some bound) (hl : s.heap.IsList l (v :: vs).toArray) (r : Rd s.heap v d) (hb : Bad d)
    (hh : A.handled = none) (hu : A.units + 10 < cLine)
    (hE : ∀ h' tk e, Heap.NewExc s.heap h' e "TypeError" → E (.ref e) { s with heap := h', toks := tk }) :
    wpAny (model prog w) A (call (.ref x) [.ref l]) Q E s := by
  refine fk_call ho hl (fun d' it h' hx hd hit hne hdo hito => ?_)
  refine fk_step (v := v) (hito) (isList_ext hl hx) (by simp) ⟨_, hdo, rfl⟩ hne (fun h2 hit2 sb => ?_)
  have hx2 : Ext s.heap h2 := fun b o q => sb.extBut b o (fun q2 => by rw [q2, hit] at q; cases q) (hx b o q)
  unfold dictSet
  refine wpAny_holding (wpAny_bind (hash_bad (by show A.units + 1 + 4 < cLine; omega) hh (r.ext hx2) hb (fun h3 tk e nx => hE h3 tk e ⟨fun b o q => nx.keeps b o (hx2 b o q), ?_, nx.there⟩)))
  cases q : s.heap.get? e with
  | none => rfl
  | some o => have := nx.new; rw [hx2 _ _ q] at this; cases this
end
end Mine

namespace Mine
def ddFd (kd : Addr) (pm cd doc : Value) : FuncData :=
  { name := nmOf (stOf 3), qualname := nmOf (stOf 3), params := arOf (stOf 3), body := .stmts (bdOf (stOf 3)), scope := scOf (stOf 3), globals := mainGlobals, closure := [], defaults := .none, kwdefaults := .ref kd, pyModule := pm, code := cd, doc, builtins := builtinsNs }
/-- _deduplicate stands at f -/
def DdAt (mg : Str → Option Value) (h : Heap) (f : Addr) : Prop :=
  ∃ o kd pm cd doc m0, mg (Str.ofString "_deduplicate") = some (.ref f) ∧ h.get? f = some o ∧ o.data = .func (ddFd kd pm cd doc) ∧ h.CodeRec cd (nmOf (stOf 3)) ∧ h.Ns kd m0 ∧ m0 (Str.ofString "unhashable_fallback") = some (.bool false)
theorem DdAt.extF {fs : List Addr} {mg : Str → Option Value} {h h' : Heap} {f : Addr} (y : DdAt mg h f) (x : ExtF fs h h') : DdAt mg h' f := by
  obtain ⟨o, kd, pm, cd, doc, m0, a, b, c, d, e, g⟩ := y
  obtain ⟨sl, q⟩ := x.2 _ _ b
  exact ⟨_, kd, pm, cd, doc, m0, a, q, c, codeRec_extF x d, ns_extF x e, g⟩
theorem DdAt.ext {mg : Str → Option Value} {h h' : Heap} {f : Addr} (y : DdAt mg h f) (x : Ext h h') : DdAt mg h' f := y.extF (ExtF.of_ext (fs := []) x)
section
variable {prog : Program} {w : World} {A : Around} {E : Value → Shared → Prop} {s : Shared} {mg mb : Str → Option Value}
def ddKw : Bool → List (Str × Value)
  | true => [(Str.ofString "unhashable_fallback", .bool true)]
  | false => []
theorem dd_binds {kd l : Addr} {pm cd doc : Value} {m0 : Str → Option Value} (b : Bool) (hn : s.heap.Ns kd m0) (hm : m0 (Str.ofString "unhashable_fallback") = some (.bool false)) :
    BindsTo s (ddFd kd pm cd doc) ⟨[.ref l], ddKw b⟩ [(Str.ofString "params", .ref l), (Str.ofString "unhashable_fallback", .bool b)] := by
  cases b with
  | true => exact BindsTo.of_eq rfl
  | false =>
    intro M A E Q hq
    show wpAny M A (((nsGet kd (Str.ofString "unhashable_fallback") >>= _) >>= _) >>= _) Q E s
    refine wpAny_bind (wpAny_bind (wpAny_bind (wpAny_nsGet hn ?_)))
    rw [hm]
    exact wpAny_pure (wpAny_pure (wpAny_pure hq))
theorem dd_enter {f l : Addr} {b : Bool} {Q : Value → Shared → Prop} (hf : DdAt mg s.heap f) (hlim : s.heap.NoLimit) (hroom : A.depth < recursionLimit)
    (h : ∀ L cd h₁, Fr s.heap L h₁ (fun x => [(Str.ofString "params", .ref l), (Str.ofString "unhashable_fallback", .bool b)].reverse.lookup x) →
      wpAny (model prog w) (A.deeper (envOf (nmOf (stOf 3)) (scOf (stOf 3)) L f cd)) (execs (bdOf (stOf 3)) (envOf (nmOf (stOf 3)) (scOf (stOf 3)) L f cd))
        (fun fl s' => Q (match fl with | .ret v => v | _ => .none) s')
        (fun e s' => wpAny (model prog w) (A.deeper (envOf (nmOf (stOf 3)) (scOf (stOf 3)) L f cd)) (leaving (envOf (nmOf (stOf 3)) (scOf (stOf 3)) L f cd) e) (fun _ s'' => E e s'') (fun e' s'' => E e' s'') s') { s with heap := h₁, toks := s.toks + 2 }) :
    wpAny (model prog w) A (call (.ref f) [.ref l] (ddKw b)) Q E s := by
  obtain ⟨o, kd, pm, cd, doc, m0, _, ho, hd, hc, hn, hm⟩ := hf
  refine wpAny_call (codeAny_call_function hroom ho hd (by rfl) (by rfl) rfl hc ?_)
  refine dd_binds b hn hm _ _ _ _ ?_
  refine wpAny_newFunctionEnv (show ∀ x ∈ (scOf (stOf 3)).names, x.2 ≠ .cell from by decide +kernel) (show ∀ x ∈ [(Str.ofString "params", Value.ref l), (Str.ofString "unhashable_fallback", Value.bool b)], (scOf (stOf 3)).names.lookup x.1 = some .local from locs (by rfl)) (fun h₁ hns hsb => ⟨hlim.fresh _ hsb, ?_⟩) (by rfl)
  show codeAny _ _ (.func (bdOf (stOf 3)) (envOf (nmOf (stOf 3)) (scOf (stOf 3)) s.heap.objs.size f cd)) _ _
  exact codeAny_func (h _ cd h₁ ⟨hns, fun b o e => hsb.extBut b o (Nat.ne_of_lt (Heap.lt_size e)) (Heap.get?_push_of_some _ e), Nat.le_refl _⟩)
end
end Mine

namespace Mine
theorem Exc.shrink {fs : List Addr} {L : Addr} {h h' : Heap} {e : Addr} {X : String} {fl : Value} (x : Exc (L :: fs) h h' e X fl) (hL : h.get? L = none) : Exc fs h h' e X fl := ⟨x.ext.shrink hL, x.there, x.fresh⟩
theorem none_ext {h h' : Heap} {d : Addr} (x : Ext h h') (n : h'.get? d = none) : h.get? d = none := by
  cases q : h.get? d with
  | none => rfl
  | some o => rw [x _ _ q] at n; cases n
theorem none_extF {fs : List Addr} {h h' : Heap} {d : Addr} (x : ExtF fs h h') (n : h'.get? d = none) : h.get? d = none := by
  cases q : h.get? d with
  | none => rfl
  | some o => obtain ⟨sl, q2⟩ := x.2 _ _ q; rw [q2] at n; cases n
theorem isList_extF {fs : List Addr} {h h' : Heap} {l : Addr} {xs : Array Value} (x : ExtF fs h h') (y : h.IsList l xs) : h'.IsList l xs := by
  obtain ⟨o, a, b, n, c⟩ := y
  obtain ⟨sl, q⟩ := x.2 _ _ a
  exact ⟨_, q, b, n, c⟩
theorem seq_not_fr {h : Heap} {l : List Env} (hl : FrsOk h l) {b : Addr} {o : Obj} (hb : h.get? b = some o) (hs : ∃ xs n, o.data = .seq xs n) : b ∉ frsOf l := fun hm => by
  obtain ⟨en, hen, q⟩ := List.mem_filterMap.mp hm
  obtain ⟨_, L, o', es, n, c1, c2, c3⟩ := hl en hen
  rw [c1] at q; cases q
  rw [hb] at c2; cases c2
  obtain ⟨xs, m, hs⟩ := hs
  rw [c3] at hs; cases hs
theorem sk_hid {h : Heap} {l : List Env} (hl : FrsOk h l) : SK h (hid h (frsOf l)) := fun _ _ e q => hid_get e (seq_not_fr hl e q)
theorem sk_extF {h h' : Heap} {l : List Env} (hl : FrsOk h l) (x : ExtF (frsOf l) h h') : SK h h' := fun b o e q => x.1 b o e (seq_not_fr hl e q)
theorem Exc.there0 {fs : List Addr} {g h h' : Heap} {e : Addr} {X : String} {fl : Value} (x : Exc fs h h' e X fl) (hx : Ext g h) :
    ∃ ob vs tb otb tvs, h'.get? e = some ob ∧ ob.cls = .type X ∧ ob.data = .fields vs ∧ vs[1]? = some (.ref tb) ∧ vs[2]? = some .none ∧ h'.get? tb = some otb ∧ otb.data = .fields tvs ∧ tvs[3]? = some fl ∧ tb ≠ e ∧ g.get? tb = none := by
  obtain ⟨ob, vs, tb, otb, tvs, a, b, c, d, e, f, g, i, j, k⟩ := x.there
  exact ⟨ob, vs, tb, otb, tvs, a, b, c, d, e, f, g, i, j, none_ext hx k⟩
section
variable {M : Model} {A : Around} {E : Value → Shared → Prop} {s : Shared} {env : Env}
theorem raise_bare {pos : Pos} {L e : Addr} {h₀ : Heap} {X : String} {fs : List Addr} {fl : Value} {Q : Flow → Shared → Prop} (x : Exc fs h₀ s.heap e X fl) (hA : A.handled = some (.ref e)) (hf : env.frame = some L)
    (h : ∀ h', Exc fs h₀ h' e X (rawInt L) → E (.ref e) { s with heap := h' }) : wpAny M A (exec (.Raise none none pos) env) Q E s := by
  rw [arm_exec_Raise]
  show wpAny M A (do standAt pos; raiseStmt env none none) Q E s
  refine wpAny_bind (wpAny_standAt ?_)
  unfold raiseStmt
  refine wpAny_bind (wpAny_handled ?_)
  rw [hA]
  dsimp only
  refine wpAny_bind (wpAny_rule ?_)
  obtain ⟨oe, vs, T, oT, ts, he, hc, hd, h1, _⟩ := x.there
  refine wpAny_bind (wpAny_field he hd h1 ?_)
  refine KFB.if_not rfl ?_
  rw [hf]
  refine wpAny_bind (x.flight (fr := some L) (fun h' x' => ?_))
  exact wpAny_throw (h h' x')
end
section
variable {prog : Program} {w : World} {A : Around} {E : Value → Shared → Prop} {s : Shared} {mg mb : Str → Option Value}
theorem dd_good {g : Heap} {b : Bool} {ds : List PyData} {vs : List Value} {l f : Addr} {Q : Value → Shared → Prop} (G : Gd mg mb s.heap) (hf : DdAt mg s.heap f) (hl : s.heap.IsList l vs.toArray) (hg : Ext g s.heap) (r : RdAll g vs ds) (hk : Keys ds)
    (hlen : ds.length ≤ 1000) (hh : A.handled = none) (hroom : A.depth < recursionLimit) (hu : A.units + 20 < cLine)
    (hQ : ∀ d h' tk ks, Ext s.heap h' → s.heap.get? d = none → DE h' d ks → RdAll g ks (dd [] ds) → Q (.ref d) { s with heap := h', toks := tk }) :
    wpAny (model prog w) A (call (.ref f) [.ref l] (ddKw b)) Q E s := by
  refine dd_enter hf G.nolimit hroom (fun L cd h₁ F => ?_)
  have e : bdOf (stOf 3) = bdOf (stOf 3) := rfl
  conv at e => rhs; whnf
  rw [e]
  refine wpAny_execs_cons (wpAny_Try_except ?_)
  refine wpAny_execs_cons ?_
  walk1
  walk1
  refine ev_bt (v := .type "dict") (G.ext F.keep) (by decide +kernel) (by decide +kernel) (by decide +kernel) ?_
  refine getm ?_
  dsimp only
  refine cw_bound (Heap.get?_push_size _ rfl) ?_
  have hx2 : Ext s.heap (h₁.push bound) := fun b o q => Heap.get?_push_of_some _ (F.keep b o q)
  walk1
  refine ev_local (F.ns.push _) (v := .ref l) (by with_unfolding_all rfl) ?_
  walk1
  refine ⟨Ext.rfl _, fk_keys (Heap.get?_push_size _ rfl) (isList_ext hl hx2) (hg.trans hx2) r hk hlen hh (by show A.units + 3 + 10 < cLine; omega) (fun d h' tk ks x1 x2 x3 x4 => ?_)⟩
  exact hQ d h' tk ks (hx2.trans x1) (none_ext hx2 x2) x3 x4
theorem dd_bad {b : Bool} {d : PyData} {ds : List PyData} {v : Value} {vs : List Value} {l f : Addr} {fs : List Env} {Q : Value → Shared → Prop} (G : Gd mg mb s.heap) (hf : DdAt mg s.heap f) (hl : s.heap.IsList l (v :: vs).toArray) (r : RdAll s.heap (v :: vs) (d :: ds)) (hb : Bad d)
    (hlay : PyData.canLayAll0 (d :: ds) = true) (hdep : PyData.depthAll (d :: ds) ≤ 6) (hlen : (d :: ds).length ≤ 1000) (hfr : A.frames = some fs) (hfo : FrsOk s.heap fs) (hh : A.handled = none) (hroom : A.depth + 1 < recursionLimit) (hu : A.units + 90 < cLine)
    (hQ : b = true → ∀ D h' tk ys k, ExtF (frsOf fs) s.heap h' → s.heap.get? D = none → h'.get? D = some (listOf ys.toArray k) → RdAll h' ys (dd [] (d :: ds)) → Q (.ref D) { s with heap := h', toks := tk })
    (hE : b = false → ∀ e h' tk, Exc (frsOf fs) s.heap h' e "TypeError" .none → E (.ref e) { s with heap := h', toks := tk }) :
    wpAny (model prog w) A (call (.ref f) [.ref l] (ddKw b)) Q E s := by
  refine dd_enter hf G.nolimit (by omega) (fun L cd h₁ F => ?_)
  have e : bdOf (stOf 3) = bdOf (stOf 3) := rfl
  conv at e => rhs; whnf
  rw [e]
  refine wpAny_execs_cons (wpAny_Try_except ?_)
  refine wpAny_execs_cons ?_
  walk1
  walk1
  refine ev_bt (v := .type "dict") (G.ext F.keep) (by decide +kernel) (by decide +kernel) (by decide +kernel) ?_
  refine getm ?_
  dsimp only
  refine cw_bound (Heap.get?_push_size _ rfl) ?_
  have hx2 : Ext s.heap (h₁.push bound) := fun b o q => Heap.get?_push_of_some _ (F.keep b o q)
  walk1
  refine ev_local (F.ns.push _) (v := .ref l) (by with_unfolding_all rfl) ?_
  walk1
  obtain ⟨v', ws', e', rv, rvs⟩ := r.cons_inv
  cases e'
  refine ⟨Ext.rfl _, fk_bad (Heap.get?_push_size _ rfl) (isList_ext hl hx2) (rv.ext hx2) hb hh (by show A.units + 3 + 10 < cLine; omega) (fun h6 tk6 ex nx => ?_)⟩
  dsimp only at nx ⊢
  have hL0 : s.heap.get? L = none := Heap.get?_none_of_le F.above
  have nx' : Heap.NewExc s.heap h6 ex "TypeError" := ⟨fun b o q => nx.keeps b o (hx2 b o q), none_ext hx2 nx.new, nx.there⟩
  have hfr' : (A.deeper (envOf (nmOf (stOf 3)) (scOf (stOf 3)) L f cd)).frames = some (envOf (nmOf (stOf 3)) (scOf (stOf 3)) L f cd :: fs) := Around.frames_deeper hfr
  have hfo6 : FrsOk h6 (envOf (nmOf (stOf 3)) (scOf (stOf 3)) L f cd :: fs) := by
    intro en hen
    rcases List.mem_cons.mp hen with rfl | hen
    · obtain ⟨oL, es, ep, z1, z2, _⟩ := F.ns
      exact ⟨by show (scOf (stOf 3)).kind ≠ .module; decide +kernel, L, oL, es, ep, rfl, nx.keeps _ _ (Heap.get?_push_of_some _ z1), z2⟩
    · exact (hfo.extF (ExtF.of_ext (fs := []) nx'.keeps)) en hen
  have nx1 : Heap.NewExc h₁ h6 ex "TypeError" := ⟨fun b o q => nx.keeps b o (Heap.get?_push_of_some _ q), none_ext (Ext.push _ _) nx.new, nx.there⟩
  refine note_fresh (L := L) hfr' hfo6 rfl nx1 (fun h7 x7 => ?_)
  refine x7.flight (fr := none) (fun h9 x9 => ?_)
  dsimp only [Option.elim] at x9 ⊢
  have G9 : Gd mg mb h9 := (G.ext F.keep).extF x9.ext
  refine wpAny_handleBy_builtin (X := "TypeError") (T := "TypeError") (b := true) (isSubtype_of_subB (by decide +kernel)) (isSubtype_of_subB (by decide +kernel)) (isSubtype_of_subB (by decide +kernel)) ?_
  refine ev_bt (v := .type "TypeError") G9 (by decide +kernel) (by decide +kernel) (by decide +kernel) ⟨rfl, x9.isA, ?_⟩
  rw [if_pos rfl]
  refine x9.flight (fr := none) (fun h10 x10 => ?_)
  dsimp only [Option.elim] at x10 ⊢
  refine wpAny_execs_cons ?_
  walk1
  walk1
  have hn10 := ns_extF x10.ext F.ns
  walk1
  refine ev_local hn10 (v := .bool b) (by with_unfolding_all rfl) ?_
  have hfo1 : FrsOk h₁ (envOf (nmOf (stOf 3)) (scOf (stOf 3)) L f cd :: fs) := by
    intro en hen
    rcases List.mem_cons.mp hen with rfl | hen
    · obtain ⟨oL, es, ep, z1, z2, _⟩ := F.ns
      exact ⟨by show (scOf (stOf 3)).kind ≠ .module; decide +kernel, L, oL, es, ep, rfl, z1, z2⟩
    · exact (hfo.extF (ExtF.of_ext (fs := []) F.keep)) en hen
  cases b with
  | true =>
    walk1
    walk1
    walk1
    dsimp only
    refine wpAny_execs_cons ?_
    walk1
    walk1
    have G10 : Gd mg mb h10 := (G.ext F.keep).extF x10.ext
    obtain ⟨f4, hf4⟩ := G10.fn 4 (by decide)
    have hf4n : mg (Str.ofString "_deduplicate_unhashable") = some (.ref f4) := hf4.choose_spec.choose_spec.choose_spec.choose_spec.1
    refine ev_fn G10 hf4n ?_
    refine cw_fn hf4 ?_
    walk1
    refine ev_local hn10 (v := .ref l) (by with_unfolding_all rfl) ?_
    walk1
    have sk1 := sk_hid hfo1
    have eg : Ext (hid h₁ (frsOf (envOf (nmOf (stOf 3)) (scOf (stOf 3)) L f cd :: fs))) h10 := fun b o q => x10.ext.1 b o (hid_sub b o q) (hid_not q)
    have rg : RdAll (hid h₁ (frsOf (envOf (nmOf (stOf 3)) (scOf (stOf 3)) L f cd :: fs))) (v :: vs) (d :: ds) := (r.ext F.keep).sk sk1 hlay
    refine ⟨Ext.rfl _, unh_call G10 hf4 (isList_extF x10.ext (isList_ext hl F.keep)) eg rg hlay hdep hlen (by show A.depth + 1 < _; exact hroom) (x10.hok rfl) (by show A.units + 3 + 70 < cLine; omega) (fun D h' tk ys k q1 q2 q3 q4 => ?_)⟩
    have q5 : ExtF (L :: frsOf fs) s.heap h' := ((ExtF.of_ext F.keep).trans x10.ext).trans (ExtF.of_ext q1)
    refine hQ rfl D h' tk ys k (q5.shrink hL0) ?_ q3 (q4.ext (eg.trans q1))
    exact none_extF ((ExtF.of_ext F.keep).trans x10.ext) q2
  | false =>
    walk1
    walk1
    refine wpAny_execs_cons (raise_bare x10 rfl rfl (fun h11 x11 => ?_))
    refine x11.again (L := L) rfl ?_
    refine x11.back (L := L) rfl (fun h12 x12 => ?_)
    refine x12.leave (L := L) rfl (fun h13 x13 => ?_)
    exact hE rfl ex h13 tk6 (Exc.shrink ⟨(ExtF.of_ext F.keep).trans x13.ext, x13.there0 F.keep, none_ext F.keep x13.fresh⟩ hL0)
end
end Mine

namespace Mine
section
variable {prog : Program} {w : World} {A : Around} {E : Value → Shared → Prop} {s : Shared} {mg mb : Str → Option Value}
theorem cw_dd {f : Addr} {pos : Pos} {env : Env} {e : Expr} {rest : List Expr} {Q : Value → Shared → Prop} (hf : DdAt mg s.heap f)
    (h : wpAny (model prog w) A (spliced (backTo pos (starEach (e :: rest) env))) (fun vs s₁ => Ext s.heap s₁.heap ∧ wpAny (model prog w) A (call (.ref f) vs) Q E s₁) E s)
    (he : starEach (e :: rest) env = (false, eval e env) :: starEach rest env := by rfl) :
    wpAny (model prog w) A (callWith pos (.ref f) [] (backTo pos (starEach (e :: rest) env)) []) Q E s := by
  obtain ⟨o, kd, pm, cd, doc, m0, _, ho, hd, _⟩ := hf
  rw [he] at h ⊢
  refine callWith_def_kw hd ?_
  exact Calls.evalArgs_plain (rest := backTo pos (starEach rest env)) (wpAny_mono h (fun vs s₁ h₁ => ⟨h₁.1 _ _ ho, h₁.2⟩) fun _ _ x => x)
theorem bare_good {g : Heap} {ds : List PyData} {vs : List Value} {l f f3 : Addr} {Q : Value → Shared → Prop} (G : Gd mg mb s.heap) (hf : FnAt mg s.heap 11 f) (hf3 : DdAt mg s.heap f3) (hl : s.heap.IsList l vs.toArray) (hg : Ext g s.heap) (r : RdAll g vs ds) (hk : Keys ds)
    (hlen : ds.length ≤ 1000) (hh : A.handled = none) (hroom : A.depth + 1 < recursionLimit) (hu : A.units + 30 < cLine)
    (hQ : ∀ d h' tk ks, Ext s.heap h' → s.heap.get? d = none → DE h' d ks → RdAll g ks (dd [] ds) → Q (.ref d) { s with heap := h', toks := tk }) :
    wpAny (model prog w) A (call (.ref f) [.ref l]) Q E s := by
  refine call_fn (binds := [(Str.ofString "cuts", .ref l)]) hf G.nolimit (by omega) (fun _ _ _ => by rfl) (by rfl) (fun L cd h₁ F => ?_)
  have e : bdOf (stOf 11) = bdOf (stOf 11) := rfl
  conv at e => rhs; whnf
  rw [e]
  refine wpAny_execs_cons (wpAny_Try_except ?_)
  refine wpAny_execs_cons ?_
  walk1
  walk1
  have hf3n : mg (Str.ofString "_deduplicate") = some (.ref f3) := hf3.choose_spec.choose_spec.choose_spec.choose_spec.choose_spec.choose_spec.1
  refine ev_fn (G.ext F.keep) hf3n ?_
  refine cw_dd (hf3.ext F.keep) ?_
  walk1
  walk1
  walk1
  refine ⟨Ext.rfl _, dd_good (b := false) (G.ext F.keep) (hf3.ext F.keep) (isList_ext hl F.keep) (hg.trans F.keep) r hk hlen hh (by show A.depth + 1 < _; omega) (by show A.units + 3 + 20 < cLine; omega) (fun d h' tk ks x1 x2 x3 x4 => ?_)⟩
  exact hQ d h' tk ks (Ext.trans F.keep x1) (none_ext F.keep x2) x3 x4
theorem bare_bad {d : PyData} {ds : List PyData} {v : Value} {vs : List Value} {l f f3 : Addr} {fs : List Env} {Q : Value → Shared → Prop} (G : Gd mg mb s.heap) (hf : FnAt mg s.heap 11 f) (hf3 : DdAt mg s.heap f3) (hl : s.heap.IsList l (v :: vs).toArray) (r : RdAll s.heap (v :: vs) (d :: ds)) (hb : Bad d)
    (hlay : PyData.canLayAll0 (d :: ds) = true) (hdep : PyData.depthAll (d :: ds) ≤ 6) (hlen : (d :: ds).length ≤ 1000) (hfr : A.frames = some fs) (hfo : FrsOk s.heap fs) (hh : A.handled = none) (hroom : A.depth + 2 < recursionLimit) (hu : A.units + 100 < cLine)
    (hQ : ∀ h' tk, ExtF (frsOf fs) s.heap h' → Q .none { s with heap := h', toks := tk }) :
    wpAny (model prog w) A (call (.ref f) [.ref l]) Q E s := by
  refine call_fn (binds := [(Str.ofString "cuts", .ref l)]) hf G.nolimit (by omega) (fun _ _ _ => by rfl) (by rfl) (fun L cd h₁ F => ?_)
  have e : bdOf (stOf 11) = bdOf (stOf 11) := rfl
  conv at e => rhs; whnf
  rw [e]
  refine wpAny_execs_cons (wpAny_Try_except ?_)
  refine wpAny_execs_cons ?_
  walk1
  walk1
  have hf3n : mg (Str.ofString "_deduplicate") = some (.ref f3) := hf3.choose_spec.choose_spec.choose_spec.choose_spec.choose_spec.choose_spec.1
  refine ev_fn (G.ext F.keep) hf3n ?_
  refine cw_dd (hf3.ext F.keep) ?_
  walk1
  walk1
  walk1
  have hL0 : s.heap.get? L = none := Heap.get?_none_of_le F.above
  have hfr' : (A.deeper (envOf (nmOf (stOf 11)) (scOf (stOf 11)) L f cd)).frames = some (envOf (nmOf (stOf 11)) (scOf (stOf 11)) L f cd :: fs) := Around.frames_deeper hfr
  have hfo1 : FrsOk h₁ (envOf (nmOf (stOf 11)) (scOf (stOf 11)) L f cd :: fs) := by
    intro en hen
    rcases List.mem_cons.mp hen with rfl | hen
    · obtain ⟨oL, es, ep, z1, z2, _⟩ := F.ns
      exact ⟨by show (scOf (stOf 11)).kind ≠ .module; decide +kernel, L, oL, es, ep, rfl, z1, z2⟩
    · exact (hfo.extF (ExtF.of_ext (fs := []) F.keep)) en hen
  refine ⟨Ext.rfl _, dd_bad (b := false) (G.ext F.keep) (hf3.ext F.keep) (isList_ext hl F.keep) (r.ext F.keep) hb hlay hdep hlen hfr' hfo1 hh (by show A.depth + 1 + 1 < _; omega) (by show A.units + 3 + 90 < cLine; omega) (fun q => by cases q) (fun _ ex h6 tk6 x6 => ?_)⟩
  refine x6.note (L := L) hfr' (hfo1.extF x6.ext) rfl rfl (fun h7 x7 => ?_)
  refine x7.flight (fr := none) (fun h9 x9 => ?_)
  dsimp only [Option.elim] at x9 ⊢
  have G9 : Gd mg mb h9 := (G.ext F.keep).extF x9.ext
  refine wpAny_handleBy_builtin (X := "TypeError") (T := "TypeError") (b := true) (isSubtype_of_subB (by decide +kernel)) (isSubtype_of_subB (by decide +kernel)) (isSubtype_of_subB (by decide +kernel)) ?_
  refine ev_bt (v := .type "TypeError") G9 (by decide +kernel) (by decide +kernel) (by decide +kernel) ⟨rfl, x9.isA, ?_⟩
  rw [if_pos rfl]
  refine x9.flight (fr := none) (fun h10 x10 => ?_)
  dsimp only [Option.elim] at x10 ⊢
  refine wpAny_execs_cons ?_
  walk1
  walk1
  exact hQ h10 tk6 (((ExtF.of_ext F.keep).trans x10.ext).shrink hL0)
end
end Mine

namespace Mine
def txtOf : Nat → Str
  | 0 => Str.ofString "a"
  | 1 => Str.ofString "a  b"
  | 2 => Str.ofString "\t \t"
  | _ => Str.ofString "\u00a0 -7\u3000"
def thingsOf : Nat → List PyData
  | 0 => [.str (Str.ofString "a")]
  | 1 => [.str (Str.ofString ""), .str (Str.ofString " "), .str (Str.ofString " "), .str (Str.ofString "  ")]
  | 2 => [.none, .str (Str.ofString " "), .int 0]
  | _ => [.list [.str (Str.ofString " ")], .str (Str.ofString " "), .list [.str (Str.ofString "a")]]
def inkOf : Nat → Nat → Ink
  | 0, i => .txt (txtOf i)
  | 1, i => .lst (thingsOf i)
  | _, i => .tup (thingsOf i)
theorem inkOf_ok (k i : Nat) (hk : k < 3) (hi : i < 4) : (inkOf k i).Ok := by
  have hk : k = 0 ∨ k = 1 ∨ k = 2 := by omega
  have hi : i = 0 ∨ i = 1 ∨ i = 2 ∨ i = 3 := by omega
  rcases hk with rfl | rfl | rfl <;> rcases hi with rfl | rfl | rfl | rfl <;> refine ⟨?_, ?_, ?_, ?_, ?_⟩ <;> first | decide +kernel | (refine ⟨?_, ?_⟩ <;> decide +kernel)
theorem mul_sp {a : Nat} (h : a ≤ 5) : Txt.mul (Str.ofString " ") (a : Int) = ⟨(List.replicate a 32).toArray⟩ := by
  obtain rfl | rfl | rfl | rfl | rfl | rfl : a = 0 ∨ a = 1 ∨ a = 2 ∨ a = 3 ∨ a = 4 ∨ a = 5 := by omega
  all_goals decide +kernel
theorem str_pad {a b : Nat} (ha : a ≤ 5) (hb : b ≤ 5) (x : Str) : (Txt.mul (Str.ofString " ") (a : Int) ++ x) ++ Txt.mul (Str.ofString " ") (b : Int) = ⟨(pad 32 x.cps.toList a b).toArray⟩ := by
  rw [mul_sp ha, mul_sp hb]
  show Str.mk ((_ ++ x.cps) ++ _) = _
  congr 1
  apply Array.toList_inj.mp
  simp [pad]
section
variable {prog : Program} {w : World} {A : Around} {E : Value → Shared → Prop} {s : Shared}
theorem item_list' {value slice : Expr} {l : Addr} {items : Array Value} {k : Int} {u : Tok} {x : Value} {Q : Value → Shared → Prop} (hl : s.heap.IsList l items)
    (h0 : 0 ≤ k) (hfit : k < 2 ^ 63) (hx : items[k.toNat]? = some x) (h : Q x s)
    (hs : subscripted slice false (.ref l) (.int k u) = operate [.ref l, .int k u] (getItem (.ref l) (.int k u)) := by with_unfolding_all rfl) :
    wpAny (model prog w) A (subscriptTail value slice (.ref l) (.int k u)) Q E s :=
  kba_turn (value' := .Name (Str.ofString "_") ⟨0, 0, 0, 0⟩) (fun _ => rfl) (item_list hl h0 hfit hx h hs)
theorem item_str {value slice : Expr} {l : Addr} {items : Array Value} {k : Int} {u : Tok} {y : Str} {Q : Value → Shared → Prop} (hl : s.heap.IsList l items)
    (h0 : 0 ≤ k) (hfit : k < 2 ^ 63) (hx : ∃ tt, items[k.toNat]? = some (.str y tt)) (h : ∀ tt, Q (.str y tt) s)
    (hs : subscripted slice false (.ref l) (.int k u) = operate [.ref l, .int k u] (getItem (.ref l) (.int k u)) := by with_unfolding_all rfl) :
    wpAny (model prog w) A (subscriptTail value slice (.ref l) (.int k u)) Q E s :=
  let ⟨tt, hx⟩ := hx; item_list' hl h0 hfit hx (h tt) hs
end
section
variable {prog : Program} {w : World} {A : Around} {E : Value → Shared → Prop} {s : Shared} {mg mb : Str → Option Value}
theorem row_txt {i a b : Nat} {f : Addr} {tk ti ta tb : Tok} {Q : Value → Shared → Prop} (G : Gd mg mb s.heap) (hf : FnAt mg s.heap 7 f) (hi : i < 4) (ha : a ≤ 5) (hb : b ≤ 5) (hroom : A.depth < recursionLimit) (hu : A.units + 20 < cLine)
    (hQ : ∀ v h' tk, Ext s.heap h' → Rd h' v ((inkOf 0 i).row a b) → Q v { s with heap := h', toks := tk }) :
    wpAny (model prog w) A (call (.ref f) [.int 0 tk, .int i ti, .int a ta, .int b tb]) Q E s := by
  refine call_fn (binds := [(Str.ofString "kind", .int 0 tk), (Str.ofString "ink", .int i ti), (Str.ofString "ahead", .int a ta), (Str.ofString "behind", .int b tb)]) hf G.nolimit (by omega) (fun _ _ _ => by rfl) (by rfl) (fun L cd h₁ F => ?_)
  have e : bdOf (stOf 7) = bdOf (stOf 7) := rfl
  conv at e => rhs; whnf
  rw [e]
  refine wpAny_execs_cons ?_
  repeat walk1
  refine newList_N F News.nil (fun h₂ F₂ N₂ => ?_) (szl (Nat.le_of_lt (by show 4 < 1000; omega)))
  dsimp only
  generalize hD : h₁.objs.size = D at N₂ ⊢
  walk1
  refine item_str (y := txtOf i) (News.isList N₂ (.head _)) (by omega) (by omega) ?_ (fun tt => ?_)
  · obtain rfl | rfl | rfl | rfl : i = 0 ∨ i = 1 ∨ i = 2 ∨ i = 3 := by omega
    all_goals exact ⟨_, rfl⟩
  have hxl : (txtOf i).length ≤ 8 := by
    obtain rfl | rfl | rfl | rfl : i = 0 ∨ i = 1 ∨ i = 2 ∨ i = 3 := by omega
    all_goals decide +kernel
  have hal : (Txt.mul (Str.ofString " ") (a : Int)).length = a := by rw [mul_sp ha]; simp [Str.length]
  have hbl : (Txt.mul (Str.ofString " ") (b : Int)).length = b := by rw [mul_sp hb]; simp [Str.length]
  refine SB.add (fun t1 k1 => ?_) (szl (by omega))
  dsimp only
  repeat walk1
  rw [str_pad ha hb]
  exact hQ _ h₂ _ F₂.keep (Rd.str _ _ _)
theorem row_rest {h₀ : Heap} {L f D : Addr} {cd : Value} {k a b : Nat} {ds : List PyData} {vs : List Value} {vi : Value} {tk ta tb : Tok} {news : List (Addr × Obj)} {Q : Flow → Shared → Prop} (G : Gd mg mb h₀)
    (F : Fr h₀ L s.heap (fun y => if y = Str.ofString "things" then some (.ref D) else [(Str.ofString "kind", .int k tk), (Str.ofString "ink", vi), (Str.ofString "ahead", .int a ta), (Str.ofString "behind", .int b tb)].reverse.lookup y))
    (N : News h₀ L s.heap news) (hD : (D, listOf vs.toArray 0) ∈ news) (r : ∀ h', News h₀ L h' news → RdAll h' vs ds) (hds : ds.length ≤ 8)
    (hk : k = 1 ∨ k = 2) (ha : a ≤ 5) (hb : b ≤ 5)
    (hQ : ∀ v h' tk, Ext h₀ h' → Rd h' v (if k = 1 then .list (pad sp ds a b) else .tuple (pad sp ds a b)) → Q (.ret v) { s with heap := h', toks := tk }) :
    wpAny (model prog w) A (execs ((bdOf (stOf 7)).drop 2) (envOf (nmOf (stOf 7)) (scOf (stOf 7)) L f cd)) Q (fun _ _ => False) s := by
  have e : (bdOf (stOf 7)).drop 2 = (bdOf (stOf 7)).drop 2 := rfl
  conv at e => rhs; whnf
  rw [e]
  refine wpAny_execs_cons ?_
  have hvl : vs.length = ds.length := (r _ N).length
  iterate 8 walk1
  refine newList_N F N (fun h₂ F₂ N₂ => ?_) (szl (Nat.le_of_lt (by show 1 < 1000; omega)))
  dsimp only
  walk1
  refine mul_list F₂ N₂ (N₂ _ (.head _)).1 (by omega) (by omega) (by show 1 * _ ≤ _; omega) (fun h₃ F₃ N₃ => ?_)
  dsimp only
  rw [if_neg (by simp), listMul_foldl] at N₃
  walk1
  refine add_lists F₃ N₃ (vs := (List.replicate a [Value.str (Str.ofString " ") s.toks]).flatten) (ws := vs) (by simpa using News.isList N₃ (.head _)) (News.isList N₃ (.tail _ (.tail _ hD))) (fun h₄ F₄ N₄ => ?_) (szl (by simp; omega))
  dsimp only
  iterate 5 walk1
  refine newList_N F₄ N₄ (fun h₅ F₅ N₅ => ?_) (szl (Nat.le_of_lt (by show 1 < 1000; omega)))
  dsimp only
  walk1
  refine mul_list F₅ N₅ (N₅ _ (.head _)).1 (by omega) (by omega) (by show 1 * _ ≤ _; omega) (fun h₆ F₆ N₆ => ?_)
  dsimp only
  rw [if_neg (by simp), listMul_foldl] at N₆
  refine add_lists F₆ N₆ (vs := (List.replicate a [Value.str (Str.ofString " ") s.toks]).flatten ++ vs) (ws := (List.replicate b [Value.str (Str.ofString " ") (s.toks + 1)]).flatten) (News.isList N₆ (.tail _ (.tail _ (.head _)))) (by simpa using News.isList N₆ (.head _)) (fun h₇ F₇ N₇ => ?_) (szl (by simp; omega))
  dsimp only
  generalize hW : h₆.objs.size = W at N₇ ⊢
  refine stN F₇ N₇ (fun h₈ F₈ N₈ => ?_)
  dsimp only
  have rr : RdAll h₈ ((List.replicate a [Value.str (Str.ofString " ") s.toks]).flatten ++ vs ++ (List.replicate b [Value.str (Str.ofString " ") (s.toks + 1)]).flatten) (pad sp ds a b) := by
    have rp : ∀ (n : Nat) (t : Tok), RdAll h₈ (List.replicate n [Value.str (Str.ofString " ") t]).flatten (List.replicate n sp) := by
      intro n t
      induction n with
      | zero => exact RdAll.nil _
      | succ n ih => exact RdAll.cons (Rd.str _ _ _) ih
    have := ((rp a s.toks).append ((r h₈ (fun p hp => N₈ p (by simp [hp]))).append (rp b (s.toks + 1))))
    rw [List.append_assoc]
    exact this
  have wl := News.isList N₈ (.head _)
  refine wpAny_execs_cons ?_
  rcases hk with rfl | rfl
  · repeat walk1
    exact hQ _ h₈ _ F₈.keep (Rd.of_list wl rr)
  · repeat walk1
    refine ev_bt (v := .type "tuple") (G.ext F₈.keep) (by decide +kernel) (by decide +kernel) (by decide +kernel) ?_
    iterate 4 walk1
    refine call_tuple_list wl (fun h₉ x₉ => ?_) (by rw [List.size_toArray]; exact szl (by simp; omega))
    refine hQ _ _ _ (fun b o q => Heap.get?_push_of_some _ (x₉ b o (F₈.keep b o q))) (Rd.of_tuple ⟨_, Heap.get?_push_size _ rfl, rfl, _, rfl⟩ (rr.ext (fun b o q => Heap.get?_push_of_some _ (x₉ b o q))))
end
end Mine

namespace Mine
section
variable {prog : Program} {w : World} {A : Around} {E : Value → Shared → Prop} {s : Shared} {mg mb : Str → Option Value}
theorem row_seq {k i a b : Nat} {f : Addr} {tk ti ta tb : Tok} {Q : Value → Shared → Prop} (G : Gd mg mb s.heap) (hf : FnAt mg s.heap 7 f) (hk : k = 1 ∨ k = 2) (hi : i < 4) (ha : a ≤ 5) (hb : b ≤ 5) (hroom : A.depth < recursionLimit) (hu : A.units + 20 < cLine)
    (hQ : ∀ v h' tk, Ext s.heap h' → Rd h' v (if k = 1 then .list (pad sp (thingsOf i) a b) else .tuple (pad sp (thingsOf i) a b)) → Q v { s with heap := h', toks := tk }) :
    wpAny (model prog w) A (call (.ref f) [.int k tk, .int i ti, .int a ta, .int b tb]) Q E s := by
  refine call_fn (binds := [(Str.ofString "kind", .int k tk), (Str.ofString "ink", .int i ti), (Str.ofString "ahead", .int a ta), (Str.ofString "behind", .int b tb)]) hf G.nolimit (by omega) (fun _ _ _ => by rfl) (by rfl) (fun L cd h₁ F => ?_)
  have e : bdOf (stOf 7) = bdOf (stOf 7) := rfl
  conv at e => rhs; whnf
  rw [e]
  refine wpAny_execs_cons ?_
  iterate 4 walk1
  refine P.eq_int ?_
  have hk0 : ((k : Int) == 0) = false := by rcases hk with rfl | rfl <;> rfl
  rw [hk0]
  refine wpAny_truthy_bool ?_
  rw [if_neg (by decide)]
  refine wpAny_pure ?_
  dsimp only
  refine wpAny_execs_cons ?_
  iterate 3 walk1
  iterate 5 walk1
  refine newList_N F News.nil (fun h₂ F₂ N₂ => ?_) (szl (Nat.le_of_lt (by show 1 < 1000; omega)))
  dsimp only
  generalize hD1 : h₁.objs.size = D1 at N₂ ⊢
  iterate 11 walk1
  refine newList_N F₂ N₂ (fun h₃ F₃ N₃ => ?_) (szl (Nat.le_of_lt (by show 4 < 1000; omega)))
  dsimp only
  generalize hD2 : h₂.objs.size = D2 at N₃ ⊢
  iterate 9 walk1
  refine newList_N F₃ N₃ (fun h₄ F₄ N₄ => ?_) (szl (Nat.le_of_lt (by show 3 < 1000; omega)))
  dsimp only
  generalize hD3 : h₃.objs.size = D3 at N₄ ⊢
  iterate 7 walk1
  refine newList_N F₄ N₄ (fun h₅ F₅ N₅ => ?_) (szl (Nat.le_of_lt (by show 1 < 1000; omega)))
  dsimp only
  generalize hD4 : h₄.objs.size = D4 at N₅ ⊢
  iterate 7 walk1
  refine newList_N F₅ N₅ (fun h₆ F₆ N₆ => ?_) (szl (Nat.le_of_lt (by show 1 < 1000; omega)))
  dsimp only
  generalize hD5 : h₅.objs.size = D5 at N₆ ⊢
  iterate 1 walk1
  refine newList_N F₆ N₆ (fun h₇ F₇ N₇ => ?_) (szl (Nat.le_of_lt (by show 3 < 1000; omega)))
  dsimp only
  generalize hD6 : h₆.objs.size = D6 at N₇ ⊢
  iterate 1 walk1
  refine newList_N F₇ N₇ (fun h₈ F₈ N₈ => ?_) (szl (Nat.le_of_lt (by show 4 < 1000; omega)))
  dsimp only
  generalize hD7 : h₇.objs.size = D7 at N₈ ⊢
  walk1
  clear F₇ F₆ F₅ F₄ F₃ F₂ N₇ N₆ N₅ N₄ N₃ N₂
  obtain rfl | rfl | rfl | rfl : i = 0 ∨ i = 1 ∨ i = 2 ∨ i = 3 := by omega
  · refine item_list' (News.isList N₈ (.head _)) (by decide) (by decide) (by rfl) ?_
    refine stN F₈ N₈ (fun h₉ F₉ N₉ => ?_)
    dsimp only
    exact row_rest (s := { s with heap := h₉, toks := _ }) G F₉ N₉ (.tail _ (.tail _ (.tail _ (.tail _ (.tail _ (.tail _ (.head _))))))) (fun h' N' => RdAll.cons (Rd.str _ _ _) (RdAll.nil _)) (by decide) hk ha hb (fun v h' tk' x rv => hQ v h' tk' x rv)
  · refine item_list' (News.isList N₈ (.head _)) (by decide) (by decide) (by rfl) ?_
    refine stN F₈ N₈ (fun h₉ F₉ N₉ => ?_)
    dsimp only
    exact row_rest (s := { s with heap := h₉, toks := _ }) G F₉ N₉ (.tail _ (.tail _ (.tail _ (.tail _ (.tail _ (.head _)))))) (fun h' N' => RdAll.cons (Rd.str _ _ _) (RdAll.cons (Rd.str _ _ _) (RdAll.cons (Rd.str _ _ _) (RdAll.cons (Rd.str _ _ _) (RdAll.nil _))))) (by decide) hk ha hb (fun v h' tk' x rv => hQ v h' tk' x rv)
  · refine item_list' (News.isList N₈ (.head _)) (by decide) (by decide) (by rfl) ?_
    refine stN F₈ N₈ (fun h₉ F₉ N₉ => ?_)
    dsimp only
    exact row_rest (s := { s with heap := h₉, toks := _ }) G F₉ N₉ (.tail _ (.tail _ (.tail _ (.tail _ (.head _))))) (fun h' N' => RdAll.cons (Rd.none _) (RdAll.cons (Rd.str _ _ _) (RdAll.cons (Rd.int _ _ _) (RdAll.nil _)))) (by decide) hk ha hb (fun v h' tk' x rv => hQ v h' tk' x rv)
  · refine item_list' (News.isList N₈ (.head _)) (by decide) (by decide) (by rfl) ?_
    refine stN F₈ N₈ (fun h₉ F₉ N₉ => ?_)
    dsimp only
    exact row_rest (s := { s with heap := h₉, toks := _ }) G F₉ N₉ (.tail _ (.head _)) (fun h' N' => RdAll.cons (Rd.of_list (News.isList N' (.tail _ (.tail _ (.tail _ (.head _))))) (RdAll.cons (Rd.str _ _ _) (RdAll.nil _))) (RdAll.cons (Rd.str _ _ _) (RdAll.cons (Rd.of_list (News.isList N' (.tail _ (.tail _ (.head _)))) (RdAll.cons (Rd.str _ _ _) (RdAll.nil _))) (RdAll.nil _)))) (by decide) hk ha hb (fun v h' tk' x rv => hQ v h' tk' x rv)
end
end Mine

namespace Mine
section
variable {prog : Program} {w : World} {A : Around} {E : Value → Shared → Prop} {s : Shared} {mg mb : Str → Option Value}
theorem row_call {k i a b : Nat} {f : Addr} {tk ti ta tb : Tok} {Q : Value → Shared → Prop} (G : Gd mg mb s.heap) (hf : FnAt mg s.heap 7 f) (hk : k < 3) (hi : i < 4) (ha : a ≤ 5) (hb : b ≤ 5) (hroom : A.depth < recursionLimit) (hu : A.units + 20 < cLine)
    (hQ : ∀ v h' tk, Ext s.heap h' → Rd h' v ((inkOf k i).row a b) → Q v { s with heap := h', toks := tk }) :
    wpAny (model prog w) A (call (.ref f) [.int k tk, .int i ti, .int a ta, .int b tb]) Q E s := by
  obtain rfl | rfl | rfl : k = 0 ∨ k = 1 ∨ k = 2 := by omega
  · exact row_txt G hf hi ha hb hroom hu hQ
  · exact row_seq (k := 1) G hf (.inl rfl) hi ha hb hroom hu hQ
  · exact row_seq (k := 2) G hf (.inr rfl) hi ha hb hroom hu hQ
/-- which rows can be keys -/
theorem keys_of (k i : Nat) (hk : k < 3) (hi : i < 4) (h : k = 0 ∨ (k = 2 ∧ i ≠ 3)) (a b : Nat) : (∃ x, k = 0 ∧ (inkOf k i).row a b = .str x) ∨ (k = 2 ∧ ∃ as, (inkOf k i).row a b = tupEmb as) := by
  rcases h with rfl | ⟨rfl, hi3⟩
  · exact .inl ⟨_, rfl, rfl⟩
  · refine .inr ⟨rfl, ?_⟩
    have key : ∃ as : List Atom, thingsOf i = as.map Atom.emb := by
      obtain rfl | rfl | rfl : i = 0 ∨ i = 1 ∨ i = 2 := by omega
      · exact ⟨[.str (Str.ofString "a")], rfl⟩
      · exact ⟨[.str (Str.ofString ""), .str (Str.ofString " "), .str (Str.ofString " "), .str (Str.ofString "  ")], rfl⟩
      · exact ⟨[.none, .str (Str.ofString " "), .int 0], rfl⟩
    obtain ⟨as, e⟩ := key
    refine ⟨pad (Atom.str (Str.ofString " ")) as a b, ?_⟩
    show PyData.tuple (pad sp (thingsOf i) a b) = PyData.tuple _
    rw [e]
    simp [pad, Atom.emb, sp]
theorem bad_of (k i : Nat) (hk : k < 3) (hi : i < 4) (h : ¬ (k = 0 ∨ (k = 2 ∧ i ≠ 3))) (a b : Nat) : Bad ((inkOf k i).row a b) := by
  obtain rfl | rfl | rfl : k = 0 ∨ k = 1 ∨ k = 2 := by omega
  · exact absurd (.inl rfl) h
  · exact .inl ⟨_, rfl⟩
  · have : i = 3 := by
      apply Classical.byContradiction
      intro q; exact h (.inr ⟨rfl, q⟩)
    subst this
    refine .inr ⟨List.replicate a (Atom.str (Str.ofString " ")), [.str (Str.ofString " ")], [.str (Str.ofString " "), .list [.str (Str.ofString "a")]] ++ List.replicate b sp, ?_⟩
    show PyData.tuple (pad sp (thingsOf 3) a b) = _
    simp only [pad, thingsOf, List.map_replicate, Atom.emb, sp, List.cons_append, List.nil_append]
end
end Mine

namespace Mine
theorem strip1 (z : Int) (a b : Nat) : a - goneL z a = a - min (goneOf [z] (a + b)) a ∧ b - goneR z a b = b - (goneOf [z] (a + b) - a) := by
  unfold goneL goneR goneOf
  by_cases hz : z < 0
  · simp [hz] <;> omega
  · simp [hz] <;> omega
theorem strip2n (p q a b : Nat) : a - min p a - min q (a - min p a) = a - min (min (p + q) (a + b)) a ∧
    b - min (p - a) b - min (q - (a - min p a)) (b - min (p - a) b) = b - (min (p + q) (a + b) - a) := by
  rcases Nat.le_total p a with h | h
  · rw [Nat.min_eq_left h, Nat.sub_eq_zero_of_le h, Nat.zero_min, Nat.sub_zero]
    rcases Nat.le_total q (a - p) with h1 | h1
    · rw [Nat.min_eq_left h1, Nat.sub_eq_zero_of_le h1, Nat.zero_min, Nat.min_eq_left (show p + q ≤ a + b by omega), Nat.min_eq_left (show p + q ≤ a by omega)]
      constructor <;> omega
    · rw [Nat.min_eq_right h1]
      rcases Nat.le_total (p + q) (a + b) with h2 | h2
      · rw [Nat.min_eq_left h2, Nat.min_eq_right (show a ≤ p + q by omega), Nat.min_eq_left (show q - (a - p) ≤ b by omega)]
        constructor <;> omega
      · rw [Nat.min_eq_right h2, Nat.min_eq_right (show a ≤ a + b by omega), Nat.min_eq_right (show b ≤ q - (a - p) by omega)]
        constructor <;> omega
  · rw [Nat.min_eq_right h, Nat.sub_self, Nat.min_zero, Nat.sub_zero, Nat.sub_zero]
    rcases Nat.le_total (p - a) b with h1 | h1
    · rw [Nat.min_eq_left h1]
      rcases Nat.le_total (p + q) (a + b) with h2 | h2
      · rw [Nat.min_eq_left h2, Nat.min_eq_right (show a ≤ p + q by omega), Nat.min_eq_left (show q ≤ b - (p - a) by omega)]
        constructor <;> omega
      · rw [Nat.min_eq_right h2, Nat.min_eq_right (show a ≤ a + b by omega), Nat.min_eq_right (show b - (p - a) ≤ q by omega)]
        constructor <;> omega
    · rw [Nat.min_eq_right h1, Nat.sub_self, Nat.min_zero, Nat.min_eq_right (show a + b ≤ p + q by omega), Nat.min_eq_right (show a ≤ a + b by omega)]
      constructor <;> omega
theorem strip2 (x y : Int) (a b : Nat) : a - goneL x a - goneL y (a - goneL x a) = a - min (goneOf [x, y] (a + b)) a ∧
    b - goneR x a b - goneR y (a - goneL x a) (b - goneR x a b) = b - (goneOf [x, y] (a + b) - a) := by
  unfold goneL goneR goneOf
  by_cases hx : x < 0 <;> by_cases hy : y < 0
  · simp [hx, hy] <;> omega
  · simp [hx, hy] <;> omega
  · simp [hx, hy] <;> omega
  · have e : ([x, y].any fun z => decide (z < 0)) = false := by simp [hx, hy]
    have e2 : [x, y].sum.toNat = x.toNat + y.toNat := by simp; omega
    rw [if_neg hx, if_neg hx, if_neg hy, if_neg hy, if_neg (by rw [e]; exact Bool.false_ne_true), e2]
    exact strip2n _ _ _ _
theorem gone_le (ns : List Int) (t : Nat) : goneOf ns t ≤ t := by unfold goneOf; split <;> omega
theorem eqvAll_len : ∀ xs ys : List PyData, PyData.eqvAll xs ys = true → xs.length = ys.length
  | [], [], _ => rfl
  | [], _ :: _, h => by simp [PyData.eqvAll] at h
  | _ :: _, [], h => by simp [PyData.eqvAll] at h
  | x :: xs, y :: ys, h => by
    have h2 : PyData.eqv x y = true ∧ PyData.eqvAll xs ys = true := by simpa [PyData.eqvAll] using h
    simp [eqvAll_len xs ys h2.2]
theorem left_eqv {I : Ink} (ok : I.Ok) {a b g g' : Nat} (hg : g ≤ a + b) (hg' : g' ≤ a + b) : PyData.eqv (I.left a b g) (I.left a b g') = decide (g = g') := by
  by_cases h : g = g'
  · subst h
    rw [decide_eq_true rfl]
    exact SeqAt.eqv_refl _ (row_lay ok _ _).1
  · rw [decide_eq_false h]
    cases hq : PyData.eqv (I.left a b g) (I.left a b g') with
    | false => rfl
    | true =>
      exfalso
      apply h
      unfold Ink.left at hq
      cases I with
      | txt x =>
        simp only [Ink.row, PyData.eqv] at hq
        have e := congrArg (fun s : Str => s.cps.toList.length) (eq_of_beq hq)
        simp [pad] at e
        omega
      | lst ds =>
        simp only [Ink.row, PyData.eqv] at hq
        have e := eqvAll_len _ _ hq
        simp [pad] at e
        omega
      | tup ds =>
        simp only [Ink.row, PyData.eqv] at hq
        have e := eqvAll_len _ _ hq
        simp [pad] at e
        omega
/-- the first of each number -/
def fst1 (acc : List Nat) : List Nat → List Nat
  | [] => acc
  | n :: ns => if n ∈ acc then fst1 acc ns else fst1 (acc ++ [n]) ns
theorem dd_left {I : Ink} (ok : I.Ok) {a b : Nat} : ∀ (gs acc : List Nat), (∀ g ∈ gs, g ≤ a + b) → (∀ g ∈ acc, g ≤ a + b) → dd (acc.map (I.left a b)) (gs.map (I.left a b)) = (fst1 acc gs).map (I.left a b)
  | [], acc, _, _ => rfl
  | g :: gs, acc, h1, h2 => by
    have hg := h1 g (List.mem_cons_self ..)
    have e : ((acc.map (I.left a b)).any fun y => PyData.eqv y (I.left a b g)) = decide (g ∈ acc) := by
      rw [Bool.eq_iff_iff, List.any_map, List.any_eq_true, decide_eq_true_iff]
      constructor
      · rintro ⟨x, hx, q⟩
        simp only [Function.comp] at q
        rw [left_eqv ok (h2 x hx) hg, decide_eq_true_iff] at q
        exact q ▸ hx
      · intro hm
        exact ⟨g, hm, by simp only [Function.comp]; rw [left_eqv ok hg hg]; simp⟩
    rw [List.map_cons, dd, fst1, e]
    by_cases hm : g ∈ acc
    · simp only [hm, decide_true, if_true]
      exact dd_left ok gs acc (fun x hx => h1 x (List.mem_cons_of_mem _ hx)) h2
    · simp only [hm, decide_false, Bool.false_eq_true, if_false]
      have := dd_left ok gs (acc ++ [g]) (fun x hx => h1 x (List.mem_cons_of_mem _ hx)) (fun x hx => by
        rcases List.mem_append.mp hx with h | h
        · exact h2 x h
        · rw [List.mem_singleton.mp h]; exact hg)
      rw [List.map_append, List.map_cons, List.map_nil] at this
      exact this
end Mine

namespace Mine
theorem fst1_snoc (n : Nat) : ∀ (ns acc : List Nat), fst1 acc (ns ++ [n]) = if n ∈ fst1 acc ns then fst1 acc ns else fst1 acc ns ++ [n]
  | [], acc => by
    rw [List.nil_append, fst1, fst1, fst1]; split <;> rfl
  | x :: ns, acc => by
    rw [List.cons_append, fst1, fst1]
    split
    · exact fst1_snoc n ns acc
    · exact fst1_snoc n ns _
theorem fst1_mem : ∀ (ns acc : List Nat) (x : Nat), x ∈ fst1 acc ns ↔ x ∈ acc ∨ x ∈ ns
  | [], acc, x => by simp [fst1]
  | n :: ns, acc, x => by
    rw [fst1]
    split
    · rename_i h
      rw [fst1_mem ns acc x]
      constructor
      · rintro (q | q)
        · exact .inl q
        · exact .inr (.tail _ q)
      · rintro (q | q)
        · exact .inl q
        · rcases List.mem_cons.mp q with rfl | q
          · exact .inl h
          · exact .inr q
    · rw [fst1_mem ns _ x]; simp [or_assoc]
theorem fst1_nodup : ∀ (ns acc : List Nat), acc.Nodup → (fst1 acc ns).Nodup
  | [], acc, h => h
  | n :: ns, acc, h => by
    rw [fst1]
    split
    · exact fst1_nodup ns acc h
    · rename_i hn
      refine fst1_nodup ns _ ?_
      rw [List.nodup_append]
      exact ⟨h, by simp, fun x hx y hy e => by rw [List.mem_singleton.mp hy] at e; exact hn (e ▸ hx)⟩
theorem firsts_take (gs : List Nat) : ∀ k, k ≤ gs.length → firstsTo (gs.map fun n : Nat => (n : Int)) k = (fst1 [] (gs.take k)).map fun n : Nat => (n : Int)
  | 0, _ => by simp [firstsTo, fst1]
  | k + 1, h => by
    have hk : k < gs.length := h
    have ih := firsts_take gs k (by omega)
    have e1 : gs.take (k + 1) = gs.take k ++ [gs[k]] := by simp
    have e2 : (gs.map fun n : Nat => (n : Int)).getD k 0 = ((gs[k] : Nat) : Int) := by simp [List.getD_eq_getElem?_getD, hk]
    have e3 : (((gs[k] : Nat) : Int) ∈ (gs.map fun n : Nat => (n : Int)).take k) ↔ gs[k] ∈ gs.take k := by
      rw [← List.map_take]
      constructor
      · intro q
        obtain ⟨y, hy, e⟩ := List.mem_map.mp q
        have : y = gs[k] := Int.ofNat.inj e
        exact this ▸ hy
      · intro q; exact List.mem_map.mpr ⟨_, q, rfl⟩
    rw [firstsTo, e2, ih, e1, fst1_snoc]
    by_cases hm : gs[k] ∈ gs.take k
    · rw [if_pos (e3.mpr hm), if_pos ((fst1_mem _ _ _).mpr (.inr hm))]; simp
    · rw [if_neg (fun q => hm (e3.mp q)), if_neg (fun q => by
        rcases (fst1_mem _ _ _).mp q with q | q
        · simp at q
        · exact hm q)]
      simp
theorem firsts_eq (gs : List Nat) : firstsTo (gs.map fun n : Nat => (n : Int)) (gs.map fun n : Nat => (n : Int)).length = (fst1 [] gs).map fun n : Nat => (n : Int) := by
  have := firsts_take gs gs.length (Nat.le_refl _)
  rw [List.take_length] at this
  rw [List.length_map]; exact this
theorem rmD_left {I : Ink} (ok : I.Ok) {a b g : Nat} (hg : g ≤ a + b) : ∀ (Bs : List Nat), (∀ x ∈ Bs, x ≤ a + b) → rmD (I.left a b g) (Bs.map (I.left a b)) = if g ∈ Bs then some ((Bs.erase g).map (I.left a b)) else none
  | [], _ => by simp [rmD]
  | x :: Bs, h => by
    have hx := h x (List.mem_cons_self ..)
    rw [List.map_cons, rmD, left_eqv ok hx hg]
    by_cases e : x = g
    · subst e; simp
    · have e' : g ≠ x := fun q => e q.symm
      rw [rmD_left ok hg Bs (fun y hy => h y (List.mem_cons_of_mem _ hy))]
      have : (x == g) = false := by simpa using e
      by_cases hm : g ∈ Bs
      · simp [e, hm, List.erase_cons, this]
      · simp [e, e', hm]
theorem cmpD_left {I : Ink} (ok : I.Ok) {a b : Nat} : ∀ (As Bs : List Nat), (∀ x ∈ As, x ≤ a + b) → (∀ x ∈ Bs, x ≤ a + b) → (cmpD (As.map (I.left a b)) (Bs.map (I.left a b)) = true ↔ As.Perm Bs)
  | [], Bs, _, _ => by cases Bs <;> simp [cmpD]
  | g :: As, Bs, h1, h2 => by
    have hg := h1 g (List.mem_cons_self ..)
    rw [List.map_cons, cmpD, rmD_left ok hg Bs h2]
    by_cases hm : g ∈ Bs
    · rw [if_pos hm]
      dsimp only
      rw [cmpD_left ok As (Bs.erase g) (fun x hx => h1 x (List.mem_cons_of_mem _ hx)) (fun x hx => h2 x (List.mem_of_mem_erase hx)), List.cons_perm_iff_perm_erase]
      simp [hm]
    · rw [if_neg hm]
      dsimp only
      simp only [Bool.false_eq_true, false_iff]
      intro p
      exact hm (p.mem_iff.mp (List.mem_cons_self ..))
theorem sorted_eq : ∀ {us vs : List Int}, us.Pairwise (· ≤ ·) → vs.Pairwise (· ≤ ·) → us.Perm vs → us = vs
  | [], vs, _, _, p => (List.nil_perm.mp p).symm
  | u :: us, [], _, _, p => absurd p.length_eq (by simp)
  | u :: us, v :: vs, h1, h2, p => by
    have hu : v ≤ u := by
      rcases List.mem_cons.mp (p.mem_iff.mp (List.mem_cons_self ..)) with rfl | q
      · exact Int.le_refl _
      · exact (List.pairwise_cons.mp h2).1 u q
    have hv : u ≤ v := by
      rcases List.mem_cons.mp (p.mem_iff.mpr (List.mem_cons_self ..)) with rfl | q
      · exact Int.le_refl _
      · exact (List.pairwise_cons.mp h1).1 v q
    have e : u = v := Int.le_antisymm hv hu
    subst e
    rw [sorted_eq (List.pairwise_cons.mp h1).2 (List.pairwise_cons.mp h2).2 ((List.perm_cons u).mp p)]
theorem ints_perm {As Bs : List Nat} : (As.map fun n : Nat => (n : Int)).Perm (Bs.map fun n : Nat => (n : Int)) ↔ As.Perm Bs := by
  constructor
  · intro p
    have := p.map Int.toNat
    simpa [List.map_map, Function.comp_def] using this
  · intro p; exact p.map _
/-- the two comparisons say the same -/
theorem cmp_sorted {I : Ink} (ok : I.Ok) {a b : Nat} {gs hs : List Nat} {us vs : List Int} (hg : ∀ g ∈ gs, g ≤ a + b) (hh : ∀ g ∈ hs, g ≤ a + b)
    (pu : us.Perm ((fst1 [] gs).map fun n : Nat => (n : Int))) (su : us.Pairwise (· ≤ ·)) (pv : vs.Perm ((fst1 [] hs).map fun n : Nat => (n : Int))) (sv : vs.Pairwise (· ≤ ·)) :
    cmpD (dd [] (gs.map (I.left a b))) (dd [] (hs.map (I.left a b))) = decide (us = vs) ∧ cmpD (dd [] (hs.map (I.left a b))) (dd [] (gs.map (I.left a b))) = decide (us = vs) := by
  have e1 := dd_left ok gs [] hg (by simp)
  have e2 := dd_left ok hs [] hh (by simp)
  rw [List.map_nil] at e1 e2
  rw [e1, e2]
  have b1 : ∀ x ∈ fst1 [] gs, x ≤ a + b := fun x hx => by
    rcases (fst1_mem _ _ _).mp hx with q | q
    · simp at q
    · exact hg x q
  have b2 : ∀ x ∈ fst1 [] hs, x ≤ a + b := fun x hx => by
    rcases (fst1_mem _ _ _).mp hx with q | q
    · simp at q
    · exact hh x q
  have key : us = vs ↔ (fst1 [] gs).Perm (fst1 [] hs) := by
    rw [← ints_perm]
    constructor
    · rintro rfl; exact pu.symm.trans pv
    · intro p; exact sorted_eq su sv (pu.trans (p.trans pv.symm))
  constructor
  · rw [Bool.eq_iff_iff, cmpD_left ok _ _ b1 b2, decide_eq_true_iff, key]
  · rw [Bool.eq_iff_iff, cmpD_left ok _ _ b2 b1, decide_eq_true_iff, key]
    exact ⟨List.Perm.symm, List.Perm.symm⟩
/-- every amount up to one more than all -/
theorem dd_steps {I : Ink} (ok : I.Ok) {a b : Nat} : dd [] ((List.range (a + b + 2)).map fun c => I.left a b (min c (a + b))) = (List.range (a + b + 1)).map (I.left a b) := by
  have key : ∀ n, n ≤ a + b + 1 → fst1 [] ((List.range n).map fun c => min c (a + b)) = List.range n := by
    intro n
    induction n with
    | zero => intro _; rfl
    | succ n ih =>
      intro h
      rw [List.range_succ, List.map_append, List.map_cons, List.map_nil, fst1_snoc, ih (by omega), if_neg]
      · congr 2; omega
      · simp; omega
  have h2 : fst1 [] ((List.range (a + b + 2)).map fun c => min c (a + b)) = List.range (a + b + 1) := by
    rw [List.range_succ, List.map_append, List.map_cons, List.map_nil, fst1_snoc, key _ (Nat.le_refl _), if_pos]
    simp
  have := dd_left ok (a := a) (b := b) ((List.range (a + b + 2)).map fun c => min c (a + b)) [] (by simp; omega) (by simp)
  rw [List.map_nil, h2, List.map_map] at this
  exact this
end Mine

namespace Mine
/-- DE with the dict's entries and epoch in sight -/
def DEi (h : Heap) (d : Addr) (es : Array DictEntry) (ep : Nat) : Prop := ∃ o, h.get? d = some o ∧ o.ExactDict ∧ o.data = .dict es ep
theorem DEi.at {h h' : Heap} {d : Addr} {es : Array DictEntry} {ep : Nat} (x : DEi h d es ep) (e : ∀ o, h.get? d = some o → h'.get? d = some o) : DEi h' d es ep := let ⟨o, ho, r⟩ := x; ⟨o, e _ ho, r⟩
theorem DEi.typeIs {s : Shared} {d : Addr} {es : Array DictEntry} {ep : Nat} (x : DEi s.heap d es ep) : s.TypeIs (.ref d) "dict" := let ⟨o, ho, hc, _⟩ := x; ⟨o, ho, hc.1⟩
section
variable {prog : Program} {w : World} {A : Around} {E : Value → Shared → Prop} {s : Shared}
theorem de_iter {d : Addr} {es : Array DictEntry} {ep : Nat} {Q : Value → Shared → Prop} (hd : (d == sysModules) = false) (hm : DEi s.heap d es ep)
    (hQ : Q (.ref s.heap.objs.size) { s with heap := s.heap.push { cls := .type "dict_keyiterator", data := .fields #[.ref d, .int 0 0, .int es.size 0, .int ep 0] } }) :
    wpAny (model prog w) A (pyIter (.ref d)) Q E s := by
  have hT := hm.typeIs
  obtain ⟨o, ho, hc, hdat⟩ := hm
  refine wpAny_pyIter_slot hT F.slot_dict_iter (wpAny_call_entry F.slot_dict_iter hT F.entry_dict_iter ?_ (F.args_dict_iter_1 _))
  unfold Builtin.«dict.__iter__»
  refine wpAny_bind ?_
  unfold Builtin.Dict.dictSlotNone
  refine wpAny_bind (wpAny_notOrdered_dict hT ?_)
  show wpAny _ _ (pure (Value.ref d)) _ _ s
  refine wpAny_pure ?_
  show wpAny _ _ (Builtin.Dict.showsAll d >>= _) _ _ s
  unfold Builtin.Dict.showsAll
  rw [if_neg (by rw [hd]; exact Bool.false_ne_true)]
  refine wpAny_bind (wpAny_pure ?_)
  refine wpAny_bind (wpAny_dictEntries ho hdat ?_)
  refine wpAny_bind (wpAny_dictEpoch ho hdat ?_)
  refine wpAny_bind (wpAny_newObj_type (wpAny_pure ⟨_, rfl, "dict_keyiterator", _, ⟨_, Heap.get?_push_size _ rfl, rfl⟩, F.slot_dict_keyiterator_next.lookup, ?_⟩))
  simpa [rawInt] using hQ
theorem de_next {it d : Addr} {i ep : Nat} {es : Array DictEntry} {Q : Option Value → Shared → Prop} (hit : s.heap.IsKeyIter it d i es.size ep)
    (hm : DEi s.heap d es ep) (hlt' : i < es.size)
    (hQ : ∀ h', h'.IsKeyIter it d (i + 1) es.size ep → Heap.SameBut it s.heap h' → Q (some es[i].key) { s with heap := h' }) :
    wpAny (model prog w) A (pyNext (.ref it)) Q E s := by
  obtain ⟨o, ho, hc, hd⟩ := id hit
  obtain ⟨od, hod, hcd, hdd⟩ := id hm
  unfold pyNext
  refine wpAny_bind (wpAny_attempt (wpAny_callSpecial?_slot (name := Str.ofString "__next__") hit.typeIs F.slot_dict_keyiterator_next
    (wpAny_call_entry F.slot_dict_keyiterator_next hit.typeIs F.entry_dict_keyiterator_next ?_ (F.args_dict_keyiterator_next_1 _))))
  refine wpAny_bind (wpAny_pure ?_)
  refine wpAny_bind ?_
  refine wpAny_bind ?_
  refine wpAny_bind (wpAny_typeNameOfWhole_keyiter hit.typeIs (wpAny_pure ?_))
  refine wpAny_bind (wpAny_fieldsOf ho hd ?_)
  have hown : Builtin.Dict_items.ownsTuple "dict_keyiterator" = false := by decide
  simp only [hown, Bool.false_eq_true, if_false]
  show wpAny _ _ (if (Value.ref d == Value.none) = true then _ else _) _ _ s
  rw [if_neg (show ¬ ((Value.ref d == Value.none) = true) from Bool.false_ne_true)]
  refine wpAny_bind (wpAny_pure ?_)
  refine wpAny_bind (wpAny_dictEntries hod hdd ?_)
  rw [if_neg (by simp)]
  refine wpAny_bind (wpAny_pure ?_)
  refine wpAny_bind (wpAny_dictEpoch hod hdd ?_)
  rw [if_neg (by simp)]
  refine wpAny_pure ?_
  simp only [show ¬ ((i : Int) < 0) from by omega, if_false, Int.toNat_natCast, Array.getElem?_eq_getElem hlt']
  refine wpAny_bind ?_
  refine wpAny_bind (wpAny_typeNameOfWhole_keyiter hit.typeIs (wpAny_pure ?_))
  refine wpAny_bind (wpAny_isOneOf_keyiter hit.typeIs ?_)
  show wpAny _ _ (setField (.ref it) 1 (rawInt ((i : Int) + 1)) >>= _) _ _ s
  refine wpAny_bind (wpAny_setField ho hd (by simp) ?_)
  have hit' : (s.heap.update it (Obj.mapFields (·.setIfInBounds 1 (rawInt ((i : Int) + 1))))).IsKeyIter it d (i + 1) es.size ep :=
    ⟨_, Heap.get?_update_self _ ho (Obj.isFreed_of_fields (Obj.data_mapFields hd _)), (Obj.cls_mapFields ..).trans hc, by rw [Obj.data_mapFields hd]; simp [rawInt]⟩
  refine wpAny_bind (wpAny_holding ?_)
  refine wpAny_bind (wpAny_isOneOf_keyiter (s := { s with heap := s.heap.update it (Obj.mapFields (·.setIfInBounds 1 (rawInt ((i : Int) + 1)))) }) hit'.typeIs ?_)
  show wpAny _ _ (pure es[i].key) _ _ _
  exact wpAny_pure (wpAny_pure ⟨_, rfl, wpAny_pure (hQ _ hit' (Heap.SameBut.update ..))⟩)
theorem de_end {it d : Addr} {i ep : Nat} {es : Array DictEntry} {Q : Option Value → Shared → Prop} (hh : A.handled = none) (hit : s.heap.IsKeyIter it d i es.size ep)
    (hm : DEi s.heap d es ep) (hge : es.size ≤ i)
    (hQ : ∀ h', Heap.ExtBut it s.heap h' → Q none { s with heap := h' }) : wpAny (model prog w) A (pyNext (.ref it)) Q E s := by
  obtain ⟨o, ho, hc, hd⟩ := id hit
  obtain ⟨od, hod, hcd, hdd⟩ := id hm
  unfold pyNext
  refine wpAny_bind (wpAny_attempt (wpAny_callSpecial?_slot (name := Str.ofString "__next__") hit.typeIs F.slot_dict_keyiterator_next
    (wpAny_call_entry F.slot_dict_keyiterator_next hit.typeIs F.entry_dict_keyiterator_next ?_ (F.args_dict_keyiterator_next_1 _))))
  refine wpAny_bind (wpAny_pure ?_)
  refine wpAny_bind ?_
  refine wpAny_bind ?_
  refine wpAny_bind (wpAny_typeNameOfWhole_keyiter hit.typeIs (wpAny_pure ?_))
  refine wpAny_bind (wpAny_fieldsOf ho hd ?_)
  have hown : Builtin.Dict_items.ownsTuple "dict_keyiterator" = false := by decide
  simp only [hown, Bool.false_eq_true, if_false]
  show wpAny _ _ (if (Value.ref d == Value.none) = true then _ else _) _ _ s
  rw [if_neg (show ¬ ((Value.ref d == Value.none) = true) from Bool.false_ne_true)]
  refine wpAny_bind (wpAny_pure ?_)
  refine wpAny_bind (wpAny_dictEntries hod hdd ?_)
  rw [if_neg (by simp)]
  refine wpAny_bind (wpAny_pure ?_)
  refine wpAny_bind (wpAny_dictEpoch hod hdd ?_)
  rw [if_neg (by simp)]
  refine wpAny_pure ?_
  simp only [show ¬ ((i : Int) < 0) from by omega, if_false, Int.toNat_natCast, Array.getElem?_eq_none hge]
  refine wpAny_bind ?_
  refine wpAny_bind (wpAny_typeNameOfWhole_keyiter hit.typeIs (wpAny_pure ?_))
  show wpAny _ _ (setField (.ref it) 0 .none >>= _) _ _ s
  refine wpAny_bind (wpAny_setField ho hd (by simp) ?_)
  show wpAny _ _ (newExc (.type "StopIteration") [] >>= _) _ _ _
  refine wpAny_bind ?_
  simp only [newExc, newTuple]
  refine wpAny_bind (wpAny_newObj_type ?_ (by size_fits))
  refine wpAny_bind (m := firstArgMember _ _) (wpAny_of_eq (a := Value.none) (by first | rfl | (simp only [firstArgMember]; rfl)) ?_)
  refine wpAny_newObj_type ?_ (by size_fits)
  simp only [raiseNew]
  refine wpAny_bind (wpAny_handled ?_)
  rw [show A.in1.handled = none from hh]
  refine wpAny_bind (wpAny_pure (wpAny_throw ?_))
  refine wpAny_bind (wpAny_isInstance (T := "StopIteration") (b := true) ⟨_, Heap.get?_push_size _ rfl, rfl⟩ isSubtype_stop ?_)
  exact wpAny_pure (hQ _ (((Heap.SameBut.update ..).extBut.push _).push _))
theorem de_walks (hh : A.handled = none) (I d : Addr) (hne : d ≠ I) (es : Array DictEntry) (ep : Nat) :
    Walks prog w A I [I, d] [I] es.size (fun i v => ∃ e, es[i]? = some e ∧ v = e.key) (fun i h => h.IsKeyIter I d i es.size ep ∧ DEi h d es ep) where
  sub := fun b hb => by simp at hb; simp [hb]
  frame := fun _ _ _ st hk => ⟨st.1.at fun o e => hk I (by simp) o e, st.2.at fun o e => hk d (by simp) o e⟩
  item := fun i s Q E hi st hQ => by
    refine de_next st.1 st.2 hi fun h' hit' hs' => ?_
    exact hQ _ h' s.toks ⟨es[i], by simp [hi], rfl⟩ ⟨hit', st.2.at fun o e => hs'.extBut _ _ hne e⟩ fun b o hb e => hs'.extBut b o (fun h => hb (by simp [h])) e
  done := fun s Q E st hQ => de_end hh st.1 st.2 (Nat.le_refl _) fun h' he' => hQ h' s.toks fun b o hb e => he' b o (fun h => hb (by simp [h])) e
  self := fun _ _ _ _ st hQ => wpAny_pyIter_keyiter st.1 hQ
end
end Mine

namespace Mine
section
variable {prog : Program} {w : World} {A : Around} {E : Value → Shared → Prop} {s : Shared}
theorem hint_dict {d : Addr} {Q : Bool → Shared → Prop} (hT : s.TypeIs (.ref d) "dict") (h : Q false s) : wpAny (model prog w) A (Builtin.List.listLengthHint (.ref d)) Q E s := by
  unfold Builtin.List.listLengthHint
  refine wpAny_bind (wpAny_specialOf hT F.slot_dict_len.lookup ?_)
  generalize hid : ("dict.__len__" : String) = id0
  wp_delta
  rw [show splitId id0 = some ("dict", "__len__") from by subst hid; decide +kernel]
  subst hid
  refine wpAny_bind (wpAny_isInstance (T := "dict") (b := true) hT (by rw [isSubtype_type]; kernel_rfl) ?_)
  refine wpAny_ite_split (fun hab => absurd hab (by decide)) (fun _ => ?_)
  refine wpAny_ite_split (fun _ => ?_) (fun hab => absurd (by decide +kernel) hab)
  refine wpAny_bind (wpAny_typeOf hT ?_)
  exact wpAny_pure h
/-- list() of something walked by an iterator -/
theorem ext_walk {R : Result → Shared → Prop} {T : String} {x I S : Addr} {oI : Obj} {fp wr : List Addr} {n : Nat} {P : Nat → Value → Prop} {St : Nat → Heap → Prop} {c₀ : Nat} {res : Value}
    (hTl : (Value.type T == .type "list") = false) (hTt : (Value.type T == .type "tuple") = false)
    (hT : s.TypeIs (.ref x) T) (hI : I = s.heap.objs.size) (W : Walks prog w A.in1 I fp wr n P St) (hwr : ∀ b ∈ wr, b = I) (hSx : S ≠ x) (hSf : S ∉ fp) (hn : n ≤ 1000) (hS : s.heap.get? S = some { cls := .type "list", data := .seq #[] c₀ })
    (hiter : ∀ (Q : Value → Shared → Prop), Q (.ref I) { s with heap := s.heap.push oI } → wpAny (model prog w) A.in1 (pyIter (.ref x)) Q (fun e s' => R (.error e) s') s)
    (hhint : ∀ (Q : Bool → Shared → Prop), Q false { s with heap := s.heap.push oI } → wpAny (model prog w) A.in1 (Builtin.List.listLengthHint (.ref x)) Q (fun e s' => R (.error e) s') { s with heap := s.heap.push oI })
    (hst : ∀ h, (∀ b o, b ≠ S → (s.heap.push oI).get? b = some o → h.get? b = some o) → St 0 h)
    (hR : ∀ h' tk acc' c', (∀ b o, b ≠ S → s.heap.get? b = some o → h'.get? b = some o) → h'.get? S = some { cls := .type "list", dict := none, data := .seq acc' c', slots := #[] } →
      ItemsOf P acc' n → R (.ok (.ret res)) { s with heap := h', toks := tk }) :
    wpAny (model prog w) A.in1 (Builtin.List.listExtendWith (.ref S) (.ref x) res)
      (fun fin s' => match fin with | .done f => R (.ok f) s' | .again c' => c'.quiet = true ∧ codeAny (model prog w) A c' R s') (fun e s' => R (.error e) s') s := by
  have hSlt : S < s.heap.objs.size := Heap.lt_size hS
  have hSI : S ≠ s.heap.objs.size := Nat.ne_of_lt hSlt
  unfold Builtin.List.listExtendWith
  refine wpAny_bind (wpAny_typeOf hT ?_)
  have h1 : Builtin.List.listSameRef (.ref S) (.ref x) = false := by simp [Builtin.List.listSameRef, hSx]
  simp only [h1, hTl, hTt, Bool.or_false, Bool.false_eq_true, if_false]
  refine wpAny_bind (hiter _ ?_)
  refine wpAny_bind (wpAny_holding (hhint _ ?_))
  simp only [Bool.false_or]
  have hS₁ := Heap.get?_push_of_some oI hS
  have key : ∀ (h : Heap) (c₁ : Nat), (∀ b o, b ≠ S → (s.heap.push oI).get? b = some o → h.get? b = some o) → h.get? S = some { cls := .type "list", data := .seq #[] c₁ } →
      codeAny (model prog w) A (.builtin "list.extend.loop" ⟨[.ref S, .ref I, res], []⟩) R { s with heap := h } := by
    intro h c₁ oth hS₃
    refine codeAny_extend_loopS W.toS (szl hn) S hSf res n 0 _ #[] _ rfl (Nat.zero_le _) (hst _ oth) hS₃ (ItemsOf.nil _) fun s' acc' c' hm hS' hacc => ?_
    rw [Moved.eq_with hm]
    refine hR s'.heap s'.toks acc' c' (fun b o hb e => hm.heap b o (fun hmem => ?_) (oth b o hb (Heap.get?_push_of_some _ e))) hS' hacc
    rcases List.mem_cons.mp hmem with e' | hmem
    · exact hb e'
    · exact absurd (Heap.lt_size e) (by rw [hwr b hmem, hI]; exact Nat.lt_irrefl _)
  refine wpAny_ite_split (fun _ => ?_) (fun _ => wpAny_pure ⟨plainId_quiet F.plain_extend_loop _, key _ _ (fun b o _ e => e) hS₁⟩)
  refine wpAny_bind (wpAny_rule ?_)
  refine wpAny_bind ?_
  show wpAny _ _ (updateSeq S (·.push .none) >>= fun _ => updateSeq S (·.pop)) _ _ _
  refine wpAny_bind (wpAny_updateSeq hS₁ rfl ?_)
  have hS₂ := Heap.get?_update_self (Obj.mapSeq (·.push Value.none)) hS₁ rfl
  refine wpAny_updateSeq (hz := by seq_fits) hS₂ rfl ?_
  have hS₃ := Heap.get?_update_self (Obj.mapSeq (·.pop)) hS₂ rfl
  refine wpAny_pure ⟨plainId_quiet F.plain_extend_loop _, key _ _ (fun b o hb e => (Heap.get?_update_other _ _ (Ne.symm hb)).trans ((Heap.get?_update_other _ _ (Ne.symm hb)).trans e)) hS₃⟩
/-- list(x) of something walked by an iterator -/
theorem list_walk {T : String} {x I : Addr} {oI : Obj} {fp wr : List Addr} {n : Nat} {P : Nat → Value → Prop} {St : Nat → Heap → Prop} {Q : Value → Shared → Prop}
    (hfree : oI.isFreed = false) (hTl : (Value.type T == .type "list") = false) (hTt : (Value.type T == .type "tuple") = false)
    (hT : s.TypeIs (.ref x) T) (hI : I = s.heap.objs.size + 1) (W : Walks prog w A.in1.in1 I fp wr n P St) (hwr : ∀ b ∈ wr, b = I) (hSf : s.heap.objs.size ∉ fp) (hn : n ≤ 1000)
    (hiter : ∀ (s₁ : Shared) (B : Around) (Q : Value → Shared → Prop) (E : Value → Shared → Prop), (∀ b o, s.heap.get? b = some o → s₁.heap.get? b = some o) → Q (.ref s₁.heap.objs.size) { s₁ with heap := s₁.heap.push oI } → wpAny (model prog w) B (pyIter (.ref x)) Q E s₁)
    (hhint : ∀ (s₁ : Shared) (B : Around) (Q : Bool → Shared → Prop) (E : Value → Shared → Prop), (∀ b o, s.heap.get? b = some o → s₁.heap.get? b = some o) → Q false s₁ → wpAny (model prog w) B (Builtin.List.listLengthHint (.ref x)) Q E s₁)
    (hst : ∀ h, (∀ b o, s.heap.get? b = some o → h.get? b = some o) → h.get? I = some oI → St 0 h)
    (hR : ∀ h' tk acc' c', (∀ b o, s.heap.get? b = some o → h'.get? b = some o) → h'.get? s.heap.objs.size = some { cls := .type "list", dict := none, data := .seq acc' c', slots := #[] } →
      ItemsOf P acc' n → Q (.ref s.heap.objs.size) { s with heap := h', toks := tk }) :
    wpAny (model prog w) A (call (.type "list") [.ref x]) Q E s := by
  refine callType_codes (Q₁ := fun obj s₁ => obj = .ref s.heap.objs.size ∧ s₁ = { s with heap := s.heap.push { cls := .type "list", data := .seq #[] } }) F.called_list (F.typeCall_list_1 _) F.entry_list_init
    (code_list_new _ ⟨rfl, rfl⟩) fun obj s₁ h₁ => ?_
  obtain ⟨rfl, rfl⟩ := h₁
  have hS : (s.heap.push { cls := .type "list", data := .seq #[] }).get? s.heap.objs.size = some { cls := .type "list", data := .seq #[] } := Heap.get?_push_size _ rfl
  refine ⟨⟨_, hS, rfl⟩, F.args_list_init_2 _ _, ?_⟩
  show wpAny _ _ (do let old ← Builtin.List.listItems (.ref s.heap.objs.size); Builtin.List.listUpdate (.ref s.heap.objs.size) (fun _ => #[]); letGo old.toList.reverse; Builtin.List.listExtendWith (.ref s.heap.objs.size) (.ref x) .none) _ _ _
  refine wpAny_bind ?_
  unfold Builtin.List.listItems
  refine wpAny_bind (wpAny_seqItems hS rfl (wpAny_pure ?_))
  show wpAny _ _ (updateSeq s.heap.objs.size (fun _ => #[]) >>= fun _ => letGo (#[] : Array Value).toList.reverse >>= fun _ => Builtin.List.listExtendWith (.ref s.heap.objs.size) (.ref x) .none) _ _ _
  refine wpAny_bind (wpAny_updateSeq hS rfl ?_)
  have hS₂ := Heap.get?_update_self (Obj.mapSeq (fun _ => (#[] : Array Value))) hS rfl
  have ex : ∀ b o, s.heap.get? b = some o → ((s.heap.push { cls := .type "list", data := .seq #[] }).update s.heap.objs.size (Obj.mapSeq (fun _ => (#[] : Array Value)))).get? b = some o :=
    fun b o e => (Heap.get?_update_other _ _ (Nat.ne_of_gt (Heap.lt_size e))).trans (Heap.get?_push_of_some _ e)
  have hsz : ((s.heap.push { cls := .type "list", data := .seq #[] }).update s.heap.objs.size (Obj.mapSeq (fun _ => (#[] : Array Value)))).objs.size = s.heap.objs.size + 1 := by
    rw [Heap.size_update, Heap.size_push]
  obtain ⟨ox, hox, hcx⟩ := hT
  refine wpAny_bind (wpAny_letGo ?_)
  refine ext_walk (A := A.in1) (T := T) (I := I) (oI := oI) hTl hTt ⟨ox, ex _ _ hox, hcx⟩ (hI.trans hsz.symm) W hwr (Nat.ne_of_gt (Heap.lt_size hox)) hSf hn hS₂ (fun Q' hq => ?_) (fun Q' hq => ?_) (fun h hk => ?_) (fun h' tk acc' c' hk hS' hacc => ?_)
  · refine hiter _ _ _ _ ex ?_
    rw [hI, ← hsz] at hq
    exact hq
  · exact hhint _ _ _ _ (fun b o e => Heap.get?_push_of_some _ (ex b o e)) hq
  · refine hst h (fun b o e => hk b o (Nat.ne_of_lt (Heap.lt_size e)) (Heap.get?_push_of_some _ (ex b o e))) ?_
    refine hk I _ (by rw [hI]; exact Nat.succ_ne_self _) ?_
    rw [hI, ← hsz]
    exact Heap.get?_push_size _ hfree
  · exact ⟨rfl, hR h' tk acc' c' (fun b o e => hk b o (Nat.ne_of_lt (Heap.lt_size e)) (ex b o e)) hS' hacc⟩
end
end Mine

namespace Mine
theorem items_keys {es : Array DictEntry} {ks : List Value} {acc : Array Value} (he : es.toList.map (fun e => (e.key, e.val)) = ks.map fun k => (k, Value.none)) (h : ItemsOf (fun i v => ∃ e, es[i]? = some e ∧ v = e.key) acc es.size) : acc = ks.toArray := by
  have hl : es.size = ks.length := by have := congrArg List.length he; simpa using this
  apply Array.ext
  · rw [h.1, List.size_toArray]; exact hl
  · intro i h1 h2
    obtain ⟨e, e1, e2⟩ := h.2 i acc[i] (by simp [h1])
    have e3 : (es.toList.map (fun e => (e.key, e.val)))[i]? = some (e.key, e.val) := by simp [e1]
    have h3 : i < ks.length := by simpa using h2
    rw [he] at e3
    simp [h3] at e3
    rw [e2, ← e3.1]
    simp
section
variable {prog : Program} {w : World} {A : Around} {E : Value → Shared → Prop} {s : Shared}
/-- list(d) -/
theorem de_list {d : Addr} {ks : List Value} {Q : Value → Shared → Prop} (hd : (d == sysModules) = false) (hm : DE s.heap d ks) (hh : A.handled = none) (hlen : ks.length ≤ 1000)
    (hQ : ∀ h' tk c, Ext s.heap h' → h'.get? s.heap.objs.size = some (listOf ks.toArray c) → Q (.ref s.heap.objs.size) { s with heap := h', toks := tk }) :
    wpAny (model prog w) A (call (.type "list") [.ref d]) Q E s := by
  obtain ⟨o, es, ep, ho, hc, hdat, he⟩ := hm
  have hl : es.size = ks.length := by have := congrArg List.length he; simpa using this
  have hdl := Heap.lt_size ho
  have hm' : ∀ h, (∀ b o, s.heap.get? b = some o → h.get? b = some o) → DEi h d es ep := fun h e => ⟨o, e _ _ ho, hc, hdat⟩
  refine list_walk (T := "dict") (I := s.heap.objs.size + 1) (oI := { cls := .type "dict_keyiterator", data := .fields #[.ref d, .int 0 0, .int es.size 0, .int ep 0] }) rfl (by decide) (by decide) ⟨o, ho, hc.1⟩ rfl
    (de_walks (A := A.in1.in1) hh (s.heap.objs.size + 1) d (Nat.ne_of_lt (Nat.lt_succ_of_lt hdl)) es ep) (by simp) ?_ (by omega) (fun s₁ B Q' E' ex hq => de_iter hd (hm' _ ex) hq) (fun s₁ B Q' E' ex hq => hint_dict (hm' _ ex).typeIs hq)
    (fun h ex hI => ⟨⟨_, hI, rfl, rfl⟩, hm' _ ex⟩) (fun h' tk acc c ex hS hacc => ?_)
  · simp only [List.mem_cons, List.not_mem_nil, or_false, not_or]
    exact ⟨Nat.ne_of_lt (Nat.lt_succ_self _), Nat.ne_of_gt hdl⟩
  · refine hQ h' tk c ex ?_
    rw [← items_keys he hacc]
    exact hS
end
end Mine

namespace Mine
/-- the item iterator: whatever it keeps of its own -/
def ItIt (h : Heap) (it d : Addr) (i n ep : Nat) : Prop := ∃ f0 f1 ok ov, h.get? it = some { cls := .type "dict_itemiterator", dict := none, data := .fields #[f0, f1, .ref d, .int i 0, .int n 0, .int ep 0, ok, ov], slots := #[] } ∧ (f0 = .none ∨ ∃ a : Nat, f0 = rawInt a)
theorem ItIt.at {h h' : Heap} {it d : Addr} {i n ep : Nat} (x : ItIt h it d i n ep) (e : ∀ o, h.get? it = some o → h'.get? it = some o) : ItIt h' it d i n ep := let ⟨a, b, c, d, p, q⟩ := x; ⟨a, b, c, d, e _ p, q⟩
section
variable {prog : Program} {w : World} {A : Around} {E : Value → Shared → Prop} {s : Shared}
theorem alive_any {a : Addr} {Q : Option Obj → Shared → Prop} (h : Q (s.heap.get? a) s) : wpAny (model prog w) A (loadIfAlive a) Q E s := fun Γ p _ => by
  show Sem.wp _ _ (Sem.loadIfAlive a Sem.pure) _ _ _ _
  rw [Sem.wp_loadIfAlive]
  exact h
theorem pair_own {it d : Addr} {i n ep : Nat} {key val : Value} {Q : Value → Shared → Prop} (hit : ItIt s.heap it d i n ep)
    (hQ : ∀ h', ItIt h' it d i n ep → h'.get? s.heap.objs.size = some { cls := .type "tuple", data := .seq #[key, val] } → (∀ b o, b ≠ it → s.heap.get? b = some o → h'.get? b = some o) → Q (.ref s.heap.objs.size) { s with heap := h' }) :
    wpAny (model prog w) A (Builtin.Dict_items.pairFromOwner (.ref it) 6 key val) Q E s := by
  obtain ⟨f0, f1, ok, ov, ho, hf⟩ := hit
  have hil := Heap.lt_size ho
  unfold Builtin.Dict_items.pairFromOwner
  refine wpAny_bind (wpAny_newTuple ?_)
  have he₂ := Heap.get?_push_of_some { cls := .type "tuple", data := .seq #[key, val] } ho
  have ht₂ : (s.heap.push { cls := .type "tuple", data := .seq #[key, val] }).get? s.heap.objs.size = some { cls := .type "tuple", data := .seq #[key, val] } := Heap.get?_push_size _ rfl
  have free : ∀ (h₂ : Heap) (g0 g1 : Value), h₂.get? it = some { cls := .type "dict_itemiterator", dict := none, data := .fields #[g0, g1, .ref d, .int i 0, .int n 0, .int ep 0, ok, ov], slots := #[] } →
      h₂.get? s.heap.objs.size = some { cls := .type "tuple", data := .seq #[key, val] } → (∀ b o, b ≠ it → s.heap.get? b = some o → h₂.get? b = some o) →
      wpAny (model prog w) A (do let x ← field (.ref it) 6; let y ← field (.ref it) 7; setField (.ref it) 6 key; setField (.ref it) 7 val; setField (.ref it) 0 (rawInt s.heap.objs.size); setField (.ref it) 1 (.bool false); letGo [x, y] [.ref s.heap.objs.size]; pure (Value.ref s.heap.objs.size)) Q E { s with heap := h₂ } := by
    intro h₂ g0 g1 e₂ t₂ k₂
    refine wpAny_bind (wpAny_field e₂ rfl (x := ok) rfl ?_)
    refine wpAny_bind (wpAny_field e₂ rfl (x := ov) rfl ?_)
    refine wpAny_bind (wpAny_setField_rec e₂ (by simp) fun h₃ e₃ s₃ => ?_)
    refine wpAny_bind (wpAny_setField_rec e₃ (by simp) fun h₄ e₄ s₄ => ?_)
    refine wpAny_bind (wpAny_setField_rec e₄ (by simp) fun h₅ e₅ s₅ => ?_)
    refine wpAny_bind (wpAny_setField_rec e₅ (by simp) fun h₆ e₆ s₆ => ?_)
    refine wpAny_bind (wpAny_letGo (wpAny_pure ?_))
    have kk : ∀ b o, b ≠ it → h₂.get? b = some o → h₆.get? b = some o := fun b o hb e => s₆.extBut b o hb (s₅.extBut b o hb (s₄.extBut b o hb (s₃.extBut b o hb e)))
    refine hQ h₆ ⟨rawInt s.heap.objs.size, .bool false, key, val, ?_, .inr ⟨_, rfl⟩⟩ (kk _ _ (Nat.ne_of_gt hil) t₂) (fun b o hb e => kk b o hb (k₂ b o hb e))
    simpa using e₆
  refine wpAny_bind ?_
  unfold Builtin.Dict_items.ownedTupleIsFree
  refine wpAny_bind (wpAny_field he₂ rfl (x := f0) rfl ?_)
  rcases hf with rfl | ⟨a, rfl⟩
  · refine wpAny_pure ?_
    exact free _ _ _ he₂ ht₂ (fun b o _ e => Heap.get?_push_of_some _ e)
  · show wpAny _ _ (loadIfAlive (a : Int).toNat >>= _) _ _ _
    refine wpAny_bind (alive_any ?_)
    refine wpAny_ite_split (fun _ => wpAny_pure ?_) (fun _ => ?_)
    · exact free _ _ _ he₂ ht₂ (fun b o _ e => Heap.get?_push_of_some _ e)
    · refine wpAny_bind (wpAny_field he₂ rfl (x := f1) rfl ?_)
      refine wpAny_ite_split (fun _ => ?_) (fun _ => wpAny_pure ?_)
      · refine wpAny_bind (wpAny_setField_rec he₂ (by simp) fun h₃ e₃ s₃ => wpAny_pure ?_)
        refine wpAny_pure (hQ h₃ ⟨rawInt a, .bool true, ok, ov, by simpa using e₃, .inr ⟨_, rfl⟩⟩ (s₃.extBut _ _ (Nat.ne_of_gt hil) ht₂) (fun b o hb e => s₃.extBut b o hb (Heap.get?_push_of_some _ e)))
      · exact wpAny_pure (hQ _ ⟨rawInt a, f1, ok, ov, he₂, .inr ⟨_, rfl⟩⟩ ht₂ (fun b o hb e => Heap.get?_push_of_some _ e))
end
end Mine

namespace Mine
section
variable {prog : Program} {w : World} {A : Around} {E : Value → Shared → Prop} {s : Shared}
theorem di_meets (d : Addr) (hd : (d == sysModules) = false) (es : Array DictEntry) (ep : Nat) :
    MeetsIn prog w (Builtin.«dict.items» ⟨[.ref d], []⟩) (fun _ R s => DEi s.heap d es ep ∧
      R (.ok (.ret (.ref s.heap.objs.size))) { s with heap := s.heap.push { cls := .type "dict_items", data := .fields #[.ref d] } }) :=
  .of_wp fun A R s ⟨hm, h⟩ => by
    unfold Builtin.«dict.items»
    refine wpAny_bind ?_
    unfold Builtin.Dict.noArgs
    refine wpAny_bind (wpAny_notOrdered_dict hm.typeIs ?_)
    show wpAny _ _ (pure d) _ _ s
    refine wpAny_pure ?_
    show wpAny _ _ (Builtin.Dict.showsAll d >>= _) _ _ s
    unfold Builtin.Dict.showsAll
    rw [if_neg (by rw [hd]; exact Bool.false_ne_true)]
    refine wpAny_bind (wpAny_pure ?_)
    exact wpAny_bind (wpAny_newObj_type (wpAny_pure ⟨_, rfl, h⟩))
theorem di_iter {v d : Addr} {es : Array DictEntry} {ep : Nat} {Q : Value → Shared → Prop} (hv : s.heap.IsItemsView v d) (hm : DEi s.heap d es ep)
    (hQ : Q (.ref s.heap.objs.size) { s with heap := s.heap.push { cls := .type "dict_itemiterator", data := .fields #[.none, .bool false, .ref d, .int 0 0, .int es.size 0, .int ep 0, .none, .none] } }) :
    wpAny (model prog w) A (pyIter (.ref v)) Q E s := by
  obtain ⟨ov, hov, hcv, hdv⟩ := id hv
  obtain ⟨o, ho, hc, hdat⟩ := id hm
  refine wpAny_pyIter_slot hv.typeIs F.slot_dict_items_iter (wpAny_call_entry F.slot_dict_items_iter hv.typeIs F.entry_dict_items_iter ?_ (F.args_dict_items_iter_1 _))
  unfold Builtin.«dict_items.__iter__»
  refine wpAny_bind (wpAny_pure ?_)
  refine wpAny_bind ?_
  unfold Builtin.Dict_items.dictOf
  refine wpAny_bind (wpAny_field hov hdv (x := .ref d) rfl (wpAny_pure ?_))
  refine wpAny_bind ?_
  unfold Builtin.Dict_items.newIterator
  refine wpAny_bind (wpAny_dictEntries ho hdat ?_)
  refine wpAny_bind (wpAny_dictEpoch ho hdat ?_)
  have hown : Builtin.Dict_items.ownsTuple "dict_itemiterator" = true := by decide
  simp only [hown, if_true]
  refine wpAny_newObj_type (wpAny_pure ⟨_, rfl, "dict_itemiterator", _, ⟨_, Heap.get?_push_size _ rfl, rfl⟩, F.slot_dict_itemiterator_next.lookup, ?_⟩)
    (by simp only [sizeOk, Builtin.Dict_items.ownedTupleFields, List.size_toArray, List.length_append, List.length_cons, List.length_nil, sizeLine_eq]; omega)
  simpa [rawInt, Builtin.Dict_items.ownedTupleFields] using hQ
theorem di_next {it d : Addr} {i ep : Nat} {es : Array DictEntry} {Q : Option Value → Shared → Prop} (hit : ItIt s.heap it d i es.size ep) (hm : DEi s.heap d es ep) (hlt' : i < es.size)
    (hQ : ∀ h', ItIt h' it d (i + 1) es.size ep → h'.get? s.heap.objs.size = some { cls := .type "tuple", data := .seq #[es[i].key, es[i].val] } →
      (∀ b o, b ≠ it → s.heap.get? b = some o → h'.get? b = some o) → Q (some (.ref s.heap.objs.size)) { s with heap := h' }) :
    wpAny (model prog w) A (pyNext (.ref it)) Q E s := by
  obtain ⟨f0, f1, ok, ov, ho, hf⟩ := id hit
  obtain ⟨od, hod, hcd, hdd⟩ := id hm
  have hT : s.TypeIs (.ref it) "dict_itemiterator" := ⟨_, ho, rfl⟩
  unfold pyNext
  refine wpAny_bind (wpAny_attempt (wpAny_callSpecial?_slot (name := Str.ofString "__next__") hT F.slot_dict_itemiterator_next
    (wpAny_call_entry F.slot_dict_itemiterator_next hT F.entry_dict_itemiterator_next ?_ (F.args_dict_itemiterator_next_1 _))))
  refine wpAny_bind (wpAny_pure ?_)
  refine wpAny_bind ?_
  refine wpAny_bind ?_
  refine wpAny_bind (wpAny_typeNameOfWhole_itemiter hT (wpAny_pure ?_))
  refine wpAny_bind (wpAny_fieldsOf ho rfl ?_)
  have hown : Builtin.Dict_items.ownsTuple "dict_itemiterator" = true := by decide
  simp only [hown, if_true]
  show wpAny _ _ (if (Value.ref d == Value.none) = true then _ else _) _ _ _
  rw [if_neg (show ¬ ((Value.ref d == Value.none) = true) from Bool.false_ne_true)]
  refine wpAny_bind (wpAny_pure ?_)
  refine wpAny_bind (wpAny_dictEntries hod hdd ?_)
  rw [if_neg (by simp)]
  refine wpAny_bind (wpAny_pure ?_)
  refine wpAny_bind (wpAny_dictEpoch hod hdd ?_)
  rw [if_neg (by simp)]
  refine wpAny_pure ?_
  simp only [show ¬ ((i : Int) < 0) from by omega, if_false, Int.toNat_natCast, Array.getElem?_eq_getElem hlt']
  refine wpAny_bind ?_
  refine wpAny_bind (wpAny_typeNameOfWhole_itemiter hT (wpAny_pure ?_))
  refine wpAny_bind (wpAny_isOneOf_itemiter hT ?_)
  show wpAny _ _ (setField (.ref it) 3 (rawInt ((i : Int) + 1)) >>= _) _ _ s
  refine wpAny_bind (wpAny_setField_rec ho (by simp) fun h₁ he₁ hs₁ => ?_)
  have he₂ : ItIt h₁ it d (i + 1) es.size ep := by
    have e : ((i + 1 : Nat) : Int) = (i : Int) + 1 := by omega
    refine ⟨f0, f1, ok, ov, ?_, hf⟩
    rw [e]; simpa [rawInt] using he₁
  have hT₁ : Shared.TypeIs { s with heap := h₁ } (.ref it) "dict_itemiterator" := ⟨_, he₁, rfl⟩
  refine wpAny_bind (wpAny_holding ?_)
  refine wpAny_bind (wpAny_isOneOf_itemiter hT₁ ?_)
  refine wpAny_bind (wpAny_isOneOf_itemiter hT₁ ?_)
  show wpAny _ _ (Builtin.Dict_items.pairFromOwner (.ref it) 6 es[i].key es[i].val) _ _ { s with heap := h₁ }
  have hz₁ : h₁.objs.size = s.heap.objs.size := hs₁.1
  refine pair_own (s := { s with heap := h₁ }) he₂ (fun h' q1 q2 q3 => ?_)
  dsimp only at q2 q3 ⊢
  rw [hz₁] at q2 ⊢
  exact wpAny_pure ⟨_, rfl, wpAny_pure (hQ h' q1 q2 (fun b o hb e => q3 b o hb (hs₁.extBut b o hb e)))⟩
end
end Mine

namespace Mine
section
variable {prog : Program} {w : World} {A : Around} {E : Value → Shared → Prop} {s : Shared}
theorem di_end {it d : Addr} {i ep : Nat} {es : Array DictEntry} {Q : Option Value → Shared → Prop} (hh : A.handled = none) (hit : ItIt s.heap it d i es.size ep)
    (hm : DEi s.heap d es ep) (hge : es.size ≤ i)
    (hQ : ∀ h', Heap.ExtBut it s.heap h' → Q none { s with heap := h' }) : wpAny (model prog w) A (pyNext (.ref it)) Q E s := by
  obtain ⟨f0, f1, ok, ov, ho, hf⟩ := id hit
  obtain ⟨od, hod, hcd, hdd⟩ := id hm
  have hT : s.TypeIs (.ref it) "dict_itemiterator" := ⟨_, ho, rfl⟩
  unfold pyNext
  refine wpAny_bind (wpAny_attempt (wpAny_callSpecial?_slot (name := Str.ofString "__next__") hT F.slot_dict_itemiterator_next
    (wpAny_call_entry F.slot_dict_itemiterator_next hT F.entry_dict_itemiterator_next ?_ (F.args_dict_itemiterator_next_1 _))))
  refine wpAny_bind (wpAny_pure ?_)
  refine wpAny_bind ?_
  refine wpAny_bind ?_
  refine wpAny_bind (wpAny_typeNameOfWhole_itemiter hT (wpAny_pure ?_))
  refine wpAny_bind (wpAny_fieldsOf ho rfl ?_)
  have hown : Builtin.Dict_items.ownsTuple "dict_itemiterator" = true := by decide
  simp only [hown, if_true]
  show wpAny _ _ (if (Value.ref d == Value.none) = true then _ else _) _ _ s
  rw [if_neg (show ¬ ((Value.ref d == Value.none) = true) from Bool.false_ne_true)]
  refine wpAny_bind (wpAny_pure ?_)
  refine wpAny_bind (wpAny_dictEntries hod hdd ?_)
  rw [if_neg (by simp)]
  refine wpAny_bind (wpAny_pure ?_)
  refine wpAny_bind (wpAny_dictEpoch hod hdd ?_)
  rw [if_neg (by simp)]
  refine wpAny_pure ?_
  simp only [show ¬ ((i : Int) < 0) from by omega, if_false, Int.toNat_natCast, Array.getElem?_eq_none hge]
  refine wpAny_bind ?_
  refine wpAny_bind (wpAny_typeNameOfWhole_itemiter hT (wpAny_pure ?_))
  show wpAny _ _ (setField (.ref it) 2 .none >>= _) _ _ s
  refine wpAny_bind (wpAny_setField ho rfl (by simp) ?_)
  show wpAny _ _ (newExc (.type "StopIteration") [] >>= _) _ _ _
  refine wpAny_bind ?_
  simp only [newExc, newTuple]
  refine wpAny_bind (wpAny_newObj_type ?_ (by size_fits))
  refine wpAny_bind (m := firstArgMember _ _) (wpAny_of_eq (a := Value.none) (by first | rfl | (simp only [firstArgMember]; rfl)) ?_)
  refine wpAny_newObj_type ?_ (by size_fits)
  simp only [raiseNew]
  refine wpAny_bind (wpAny_handled ?_)
  rw [show A.in1.handled = none from hh]
  refine wpAny_bind (wpAny_pure (wpAny_throw ?_))
  refine wpAny_bind (wpAny_isInstance (T := "StopIteration") (b := true) ⟨_, Heap.get?_push_size _ rfl, rfl⟩ isSubtype_stop ?_)
  exact wpAny_pure (hQ _ (((Heap.SameBut.update ..).extBut.push _).push _))
theorem hint_items {d : Addr} {Q : Bool → Shared → Prop} (hT : s.TypeIs (.ref d) "dict_items") (h : Q false s) : wpAny (model prog w) A (Builtin.List.listLengthHint (.ref d)) Q E s := by
  unfold Builtin.List.listLengthHint
  refine wpAny_bind (wpAny_specialOf hT F.slot_dict_items_len.lookup ?_)
  generalize hid : ("dict_items.__len__" : String) = id0
  wp_delta
  rw [show splitId id0 = some ("dict_items", "__len__") from by subst hid; decide +kernel]
  subst hid
  refine wpAny_bind (wpAny_isInstance (T := "dict_items") (b := true) hT (by rw [isSubtype_type]; kernel_rfl) ?_)
  refine wpAny_ite_split (fun hab => absurd hab (by decide)) (fun _ => ?_)
  refine wpAny_ite_split (fun _ => ?_) (fun hab => absurd (by decide +kernel) hab)
  refine wpAny_bind (wpAny_typeOf hT ?_)
  exact wpAny_pure h
end
end Mine

namespace Mine
def pairObj (e : DictEntry) : Obj := { cls := .type "tuple", data := .seq #[e.key, e.val] }
/-- list() over the items, as far as i -/
structure Got (g : Heap) (S I d : Addr) (es : Array DictEntry) (ep i : Nat) (acc : Array Value) (h : Heap) : Prop where
  at_ : ∃ c, h.get? S = some (listOf acc c)
  it : ItIt h I d i es.size ep
  de : DEi h d es ep
  ext : ∀ b o, g.get? b = some o → b ≠ S → b ≠ I → h.get? b = some o
  size : acc.size = i
  all : ∀ (j : Nat) (e : DictEntry), j < i → es[j]? = some e → ∃ a, acc[j]? = some (.ref a) ∧ h.get? a = some (pairObj e) ∧ a ≠ S ∧ a ≠ I
section
variable {prog : Program} {w : World} {A : Around} {E : Value → Shared → Prop} {s : Shared}
theorem got_loop {g : Heap} {S I d : Addr} {es : Array DictEntry} {ep : Nat} {R : Result → Shared → Prop} {res : Value} (hh : A.handled = none) (hn : es.size ≤ 1000) (hdS : d ≠ S) (hdI : d ≠ I) (hSI : S ≠ I)
    (hR : ∀ h' acc, (∃ c, h'.get? S = some (listOf acc c)) → (∀ b o, g.get? b = some o → b ≠ S → b ≠ I → h'.get? b = some o) → acc.size = es.size →
      (∀ (j : Nat) (e : DictEntry), es[j]? = some e → ∃ a : Addr, acc[j]? = some (Value.ref a) ∧ h'.get? a = some (pairObj e)) → R (.ok (.ret res)) { s with heap := h' }) :
    ∀ (k i : Nat) (h : Heap) (acc : Array Value), es.size - i = k → i ≤ es.size → Got g S I d es ep i acc h → codeAny (model prog w) A (.builtin "list.extend.loop" ⟨[.ref S, .ref I, res], []⟩) R { s with heap := h } := by
  intro k
  induction k with
  | zero =>
    intro i h acc hk hi J
    have hin : i = es.size := by omega
    subst hin
    refine codeAny_builtin F.entry_extend_loop ?_
    rw [Around.under_plainId F.plain_extend_loop _]
    show wpAny _ A.in1 (pyNext (.ref I) >>= _) _ _ _
    refine wpAny_bind (di_end (A := A.in1) hh J.it J.de (Nat.le_refl _) fun h' hx => ?_)
    obtain ⟨c, hS⟩ := J.at_
    refine wpAny_pure (hR h' acc ⟨c, hx _ _ hSI hS⟩ (fun b o e h1 h2 => hx _ _ h2 (J.ext b o e h1 h2)) J.size (fun j e he => ?_))
    obtain ⟨a, q1, q2, q3, q4⟩ := J.all j e (Array.getElem?_eq_some_iff.mp he).1 he
    exact ⟨a, q1, hx _ _ q4 q2⟩
  | succ k ih =>
    intro i h acc hk hi J
    have hlt : i < es.size := by omega
    refine codeAny_builtin F.entry_extend_loop ?_
    rw [Around.under_plainId F.plain_extend_loop _]
    show wpAny _ A.in1 (pyNext (.ref I) >>= _) _ _ _
    obtain ⟨c, hS⟩ := J.at_
    obtain ⟨f0, f1, ok, ov, hoI, _⟩ := J.it
    refine wpAny_bind (di_next (A := A.in1) J.it J.de hlt fun h' q1 q2 q3 => ?_)
    dsimp only at q2 q3 ⊢
    have hS' := q3 S _ hSI hS
    show wpAny _ A.in1 (updateSeq S (·.push (Value.ref h.objs.size)) >>= _) _ _ _
    refine wpAny_bind (wpAny_updateSeq hS' rfl (wpAny_pure ⟨plainId_quiet F.plain_extend_loop _, ih (i + 1) _ (acc.push (.ref h.objs.size)) (by omega) hlt ?_⟩) (by rw [J.size]; exact szl (by omega)) (by show (acc.push _).size ≤ sizeLine + 1; rw [Array.size_push, J.size]; exact Nat.succ_le_succ (szl (by omega))))
    have oth : ∀ b, b ≠ S → (h'.update S (Obj.mapSeq fun x => x.push (Value.ref h.objs.size))).get? b = h'.get? b := fun b hb => Heap.get?_update_other _ _ (Ne.symm hb)
    have nS : h.objs.size ≠ S := Nat.ne_of_gt (Heap.lt_size hS)
    have nI : h.objs.size ≠ I := Nat.ne_of_gt (Heap.lt_size hoI)
    refine ⟨?_, q1.at (fun o e => (oth I (Ne.symm hSI)).trans e), J.de.at (fun o e => (oth d hdS).trans (q3 d o hdI e)), fun b o e h1 h2 => (oth b h1).trans (q3 b o h2 (J.ext b o e h1 h2)), by rw [Array.size_push, J.size], ?_⟩
    · exact ⟨_, Heap.get?_update_self _ hS' rfl⟩
    · intro j e hj he
      by_cases hji : j = i
      · subst hji
        refine ⟨h.objs.size, ?_, ?_, nS, nI⟩
        · have : j = acc.size := J.size.symm
          rw [this, Array.getElem?_push_size]
        · have e2 : es[j] = e := by
            have := Array.getElem?_eq_getElem hlt
            rw [he] at this; injection this with this; exact this.symm
          rw [oth _ nS, q2, ← e2]; rfl
      · obtain ⟨a, p1, p2, p3, p4⟩ := J.all j e (by omega) he
        refine ⟨a, ?_, (oth a p3).trans (q3 a _ p4 p2), p3, p4⟩
        rw [Array.getElem?_push, if_neg (by rw [J.size]; exact hji)]; exact p1
end
end Mine

namespace Mine
/-- the pair of a key and None -/
def pairD (d : PyData) : PyData := .tuple [d, .none]
theorem pairs_rd {h : Heap} : ∀ {ks : List Value} {ds : List PyData} {vs : List Value}, RdAll h ks ds → vs.length = ks.length → (∀ (j : Nat) (k : Value), ks[j]? = some k → ∃ a : Addr, vs[j]? = some (Value.ref a) ∧ h.get? a = some { cls := .type "tuple", data := .seq #[k, .none] }) → RdAll h vs (ds.map pairD)
  | [], ds, vs, r, hl, _ => by
    have : ds = [] := by have := r.length; cases ds <;> simp_all
    subst this
    have : vs = [] := by cases vs <;> simp_all
    subst this
    exact RdAll.nil _
  | k :: ks, ds, vs, r, hl, q => by
    cases ds with
    | nil => have := r.length; simp at this
    | cons d ds =>
      cases vs with
      | nil => simp at hl
      | cons v vs =>
        obtain ⟨k', ks', e, r1, r2⟩ := r.cons_inv
        cases e
        obtain ⟨a, q1, q2⟩ := q 0 k rfl
        have : v = .ref a := by simpa using q1
        subst this
        refine RdAll.cons (Rd.of_tuple ⟨_, q2, rfl, _, rfl⟩ (RdAll.cons r1 (RdAll.cons (Rd.none _) (RdAll.nil _)))) (pairs_rd r2 (by simpa using hl) (fun j k' e => ?_))
        exact q (j + 1) k' e
section
variable {prog : Program} {w : World} {A : Around} {E : Value → Shared → Prop} {s : Shared}
theorem di_list {v d : Addr} {ks : List Value} {Q : Value → Shared → Prop} (hv : s.heap.IsItemsView v d) (hm : DE s.heap d ks) (hh : A.handled = none) (hlen : ks.length ≤ 1000)
    (hQ : ∀ h' acc c, Ext s.heap h' → h'.get? s.heap.objs.size = some (listOf acc c) → acc.size = ks.length →
      (∀ (j : Nat) (k : Value), ks[j]? = some k → ∃ a : Addr, acc[j]? = some (Value.ref a) ∧ h'.get? a = some { cls := .type "tuple", data := .seq #[k, .none] }) → Q (.ref s.heap.objs.size) { s with heap := h' }) :
    wpAny (model prog w) A (call (.type "list") [.ref v]) Q E s := by
  obtain ⟨o, es, ep, ho, hc, hdat, he⟩ := hm
  have hl : es.size = ks.length := by have := congrArg List.length he; simpa using this
  have hm' : ∀ h, (∀ b o, s.heap.get? b = some o → h.get? b = some o) → DEi h d es ep := fun h e => ⟨o, e _ _ ho, hc, hdat⟩
  have hdl := Heap.lt_size ho
  obtain ⟨ov, hov, hcv, hdv⟩ := id hv
  have hvl := Heap.lt_size hov
  refine callType_codes (Q₁ := fun obj s₁ => obj = .ref s.heap.objs.size ∧ s₁ = { s with heap := s.heap.push { cls := .type "list", data := .seq #[] } }) F.called_list (F.typeCall_list_1 _) F.entry_list_init
    (code_list_new _ ⟨rfl, rfl⟩) fun obj s₁ h₁ => ?_
  obtain ⟨rfl, rfl⟩ := h₁
  have hS : (s.heap.push { cls := .type "list", data := .seq #[] }).get? s.heap.objs.size = some { cls := .type "list", data := .seq #[] } := Heap.get?_push_size _ rfl
  refine ⟨⟨_, hS, rfl⟩, F.args_list_init_2 _ _, ?_⟩
  show wpAny _ _ (do let old ← Builtin.List.listItems (.ref s.heap.objs.size); Builtin.List.listUpdate (.ref s.heap.objs.size) (fun _ => #[]); letGo old.toList.reverse; Builtin.List.listExtendWith (.ref s.heap.objs.size) (.ref v) .none) _ _ _
  refine wpAny_bind ?_
  unfold Builtin.List.listItems
  refine wpAny_bind (wpAny_seqItems hS rfl (wpAny_pure ?_))
  show wpAny _ _ (updateSeq s.heap.objs.size (fun _ => #[]) >>= fun _ => letGo (#[] : Array Value).toList.reverse >>= fun _ => Builtin.List.listExtendWith (.ref s.heap.objs.size) (.ref v) .none) _ _ _
  refine wpAny_bind (wpAny_updateSeq hS rfl ?_)
  have hS₂ := Heap.get?_update_self (Obj.mapSeq (fun _ => (#[] : Array Value))) hS rfl
  have ex : ∀ b o, s.heap.get? b = some o → ((s.heap.push { cls := .type "list", data := .seq #[] }).update s.heap.objs.size (Obj.mapSeq (fun _ => (#[] : Array Value)))).get? b = some o :=
    fun b o e => (Heap.get?_update_other _ _ (Nat.ne_of_gt (Heap.lt_size e))).trans (Heap.get?_push_of_some _ e)
  have hsz : ((s.heap.push { cls := .type "list", data := .seq #[] }).update s.heap.objs.size (Obj.mapSeq (fun _ => (#[] : Array Value)))).objs.size = s.heap.objs.size + 1 := by
    rw [Heap.size_update, Heap.size_push]
  refine wpAny_bind (wpAny_letGo ?_)
  generalize ((s.heap.push { cls := .type "list", data := .seq #[] }).update s.heap.objs.size (Obj.mapSeq (fun _ => (#[] : Array Value)))) = g at hS₂ ex hsz ⊢
  unfold Builtin.List.listExtendWith
  have hvT : Shared.TypeIs { s with heap := g } (.ref v) "dict_items" := ⟨ov, ex _ _ hov, hcv⟩
  refine wpAny_bind (wpAny_typeOf hvT ?_)
  have h1 : Builtin.List.listSameRef (.ref s.heap.objs.size) (.ref v) = false := by simp [Builtin.List.listSameRef]; exact Nat.ne_of_gt hvl
  simp only [h1, show (Value.type "dict_items" == Value.type "list") = false by decide, show (Value.type "dict_items" == Value.type "tuple") = false by decide, Bool.or_false, Bool.false_eq_true, if_false]
  refine wpAny_bind (di_iter (s := { s with heap := g }) ⟨ov, ex _ _ hov, hcv, hdv⟩ (hm' _ ex) ?_)
  refine wpAny_bind (wpAny_holding (hint_items ?_ ?_))
  · exact ⟨ov, Heap.get?_push_of_some _ (ex _ _ hov), hcv⟩
  simp only [Bool.false_or]
  rw [hsz]
  have key : ∀ (h : Heap) (c₁ : Nat), (∀ b o, b ≠ s.heap.objs.size → (g.push { cls := .type "dict_itemiterator", data := .fields #[.none, .bool false, .ref d, .int 0 0, .int es.size 0, .int ep 0, .none, .none] }).get? b = some o → h.get? b = some o) → h.get? s.heap.objs.size = some { cls := .type "list", data := .seq #[] c₁ } →
      codeAny (model prog w) A.in1 (.builtin "list.extend.loop" ⟨[.ref s.heap.objs.size, .ref (s.heap.objs.size + 1), .none], []⟩) (wants (fun r s₂ => r = Value.none ∧ Q (Value.ref s.heap.objs.size) s₂) E) { s with heap := h } := by
    intro h c₁ oth hS₃
    have exh : ∀ b o, s.heap.get? b = some o → h.get? b = some o := fun b o e => oth b o (Nat.ne_of_lt (Heap.lt_size e)) (Heap.get?_push_of_some _ (ex b o e))
    refine got_loop (s := s) (A := A.in1) (g := s.heap) (d := d) (es := es) (ep := ep) hh (by omega) (Nat.ne_of_lt hdl) (Nat.ne_of_lt (Nat.lt_succ_of_lt hdl)) (Nat.ne_of_lt (Nat.lt_succ_self _)) (fun h' acc q1 q2 q3 q4 => ?_) es.size 0 h #[] rfl (Nat.zero_le _)
      ⟨⟨c₁, hS₃⟩, ⟨.none, .bool false, .none, .none, oth (s.heap.objs.size + 1) _ (Nat.succ_ne_self _) (by rw [← hsz]; exact Heap.get?_push_size _ rfl), .inl rfl⟩, hm' _ exh, fun b o e _ _ => exh b o e, rfl, fun j e hj => absurd hj (Nat.not_lt_zero _)⟩
    obtain ⟨c, q1⟩ := q1
    refine ⟨rfl, hQ h' acc c (fun b o e => q2 b o e (Nat.ne_of_lt (Heap.lt_size e)) (Nat.ne_of_lt (Nat.lt_succ_of_lt (Heap.lt_size e)))) q1 (by omega) (fun j k hj => ?_)⟩
    have hj2 : j < es.size := by rw [hl]; exact (List.getElem?_eq_some_iff.mp hj).1
    obtain ⟨a, p1, p2⟩ := q4 j es[j] (Array.getElem?_eq_getElem hj2)
    refine ⟨a, p1, ?_⟩
    have e3 : (es.toList.map (fun e => (e.key, e.val)))[j]? = some (es[j].key, es[j].val) := by simp [hj2]
    rw [he] at e3
    rw [List.getElem?_map, hj] at e3
    have e4 : k = es[j].key ∧ Value.none = es[j].val := by simpa using e3
    rw [p2, pairObj, ← e4.1, ← e4.2]
  have hS₁ := Heap.get?_push_of_some { cls := .type "dict_itemiterator", data := .fields #[.none, .bool false, .ref d, .int 0 0, .int es.size 0, .int ep 0, .none, .none] } hS₂
  refine wpAny_ite_split (fun _ => ?_) (fun _ => wpAny_pure ⟨plainId_quiet F.plain_extend_loop _, key _ _ (fun b o _ e => e) hS₁⟩)
  refine wpAny_bind (wpAny_rule ?_)
  refine wpAny_bind ?_
  show wpAny _ _ (updateSeq s.heap.objs.size (·.push .none) >>= fun _ => updateSeq s.heap.objs.size (·.pop)) _ _ _
  refine wpAny_bind (wpAny_updateSeq hS₁ rfl ?_)
  have hS₄ := Heap.get?_update_self (Obj.mapSeq (·.push Value.none)) hS₁ rfl
  refine wpAny_updateSeq (hz := by seq_fits) hS₄ rfl ?_
  have hS₃ := Heap.get?_update_self (Obj.mapSeq (·.pop)) hS₄ rfl
  refine wpAny_pure ⟨plainId_quiet F.plain_extend_loop _, key _ _ (fun b o hb e => (Heap.get?_update_other _ _ (Ne.symm hb)).trans ((Heap.get?_update_other _ _ (Ne.symm hb)).trans e)) hS₃⟩
end
end Mine

namespace Mine
abbrev lawEnv (L f : Addr) (cd : Value) : Env := envOfC (nmOf (stOf 12)) (scOf (stOf 12)) L f cd
/-- the frame of the law: its names, its four cells -/
structure LF (base : Heap) (L : Addr) (m : Str → Option Value) (ca ct cr cb : Option Value) (h : Heap) : Prop where
  ns : h.Ns L m
  keep : Ext base h
  above : base.objs.size ≤ L
  ahead : h.IsCell (L + 1) ca
  total : h.IsCell (L + 1 + 1) ct
  row : h.IsCell (L + 1 + 1 + 1) cr
  bags : h.IsCell (L + 1 + 1 + 1 + 1) cb
def Go (L : Addr) (h h' : Heap) : Prop := ∀ b o, b ≠ L → h.get? b = some o → h'.get? b = some o
theorem Go.rfl {L : Addr} {h : Heap} : Go L h h := fun _ _ _ e => e
theorem Go.trans {L : Addr} {a b c : Heap} (x : Go L a b) (y : Go L b c) : Go L a c := fun i o n e => y i o n (x i o n e)
theorem Go.of_ext {L : Addr} {a b : Heap} (x : Ext a b) : Go L a b := fun i o _ e => x i o e
theorem Go.sk {L : Addr} {a b : Heap} {m : Str → Option Value} (x : Go L a b) (n : a.Ns L m) : SK a b := fun i o e q => x i o (fun k => by
  obtain ⟨ol, es, ep, z1, z2, _⟩ := n
  subst k
  rw [z1] at e; cases e
  obtain ⟨xs, n, q⟩ := q
  rw [z2] at q; cases q) e
theorem Go.of_extF {L : Addr} {a b : Heap} (x : ExtF [L] a b) : Go L a b := fun i o n e => x.1 i o e (by simpa using n)
theorem ad {a b : Nat} (h : a ≠ b) : @Ne Addr a b := h
section
variable {base h h' : Heap} {L : Addr} {m : Str → Option Value} {ca ct cr cb : Option Value}
theorem LF.fresh (F : LF base L m ca ct cr cb h) {b : Addr} (hb : L ≤ b) : base.get? b = none := Heap.get?_none_of_le (Nat.le_trans F.above hb)
theorem cell_at {h h' : Heap} {c : Addr} {v : Option Value} (x : h.IsCell c v) (e : ∀ o, h.get? c = some o → h'.get? c = some o) : h'.IsCell c v := let ⟨o, a, b⟩ := x; ⟨o, e _ a, b⟩
theorem LF.go {m' : Str → Option Value} (F : LF base L m ca ct cr cb h) (g : Go L h h') (n : h'.Ns L m') : LF base L m' ca ct cr cb h' where
  ns := n
  keep := fun b o e => g b o (fun q => by rw [q, F.fresh (Nat.le_refl _)] at e; cases e) (F.keep b o e)
  above := F.above
  ahead := cell_at F.ahead fun o e => g _ o (ad (by omega)) e
  total := cell_at F.total fun o e => g _ o (ad (by omega)) e
  row := cell_at F.row fun o e => g _ o (ad (by omega)) e
  bags := cell_at F.bags fun o e => g _ o (ad (by omega)) e
theorem LF.ext (F : LF base L m ca ct cr cb h) (x : Ext h h') : LF base L m ca ct cr cb h' := F.go (Go.of_ext x) (F.ns.keeps x)
theorem LF.extF (F : LF base L m ca ct cr cb h) (x : ExtF [L] h h') : LF base L m ca ct cr cb h' := F.go (Go.of_extF x) (ns_extF x F.ns)
theorem LF.fr (F : LF base L m ca ct cr cb h) : Fr base L h m := ⟨F.ns, F.keep, F.above⟩
theorem sk_cell {h h' : Heap} {c : Addr} {v : Option Value} (hs : Heap.SameBut c h h') (x : h.IsCell c v) : SK h h' := by
  obtain ⟨o, a, b⟩ := x
  exact SK.of_but hs a (fun xs n e => by rw [b] at e; cases e)
end
section
variable {M : Model} {A : Around} {E : Value → Shared → Prop} {s : Shared} {base : Heap} {L f : Addr} {cd : Value} {m : Str → Option Value} {ca ct cr cb : Option Value}
theorem st_local {x : Str} {v : Value} {Q : Unit → Shared → Prop} (F : LF base L m ca ct cr cb s.heap)
    (h : ∀ h', LF base L (fun z => if z = x then some v else m z) ca ct cr cb h' → Go L s.heap h' → Q () { s with heap := h', toks := s.toks + 1 }) (hk : (lawEnv L f cd).kindOf x = some .local := by rfl) :
    wpAny M A (storeName (lawEnv L f cd) x v) Q E s :=
  wpAny_storeName_local hk (show s.heap.Ns (lawEnv L f cd).locals m from F.ns) (fun h' hn hs => h h' (F.go (fun b o n e => hs.extBut b o n e) hn) (fun b o n e => hs.extBut b o n e)) (by rfl)
theorem st_ahead {v : Value} {Q : Unit → Shared → Prop} (F : LF base L m ca ct cr cb s.heap)
    (h : ∀ h', LF base L m (some v) ct cr cb h' → SK s.heap h' → Q () { s with heap := h' }) :
    wpAny M A (storeName (lawEnv L f cd) (Str.ofString "ahead") v) Q E s :=
  wpAny_storeName_cell (by rfl) (by rfl) (c := L + 1) (by rfl) F.ahead (fun h' hc hs => h h' ⟨F.ns.sameBut hs (ad (by omega)), fun b o e => hs.extBut b o (fun q => by rw [q, F.fresh (Nat.le_of_lt (by omega))] at e; cases e) (F.keep b o e), F.above, hc, F.total.sameBut hs (ad (by omega)), F.row.sameBut hs (ad (by omega)), F.bags.sameBut hs (ad (by omega))⟩ (sk_cell hs F.ahead))
theorem st_total {v : Value} {Q : Unit → Shared → Prop} (F : LF base L m ca ct cr cb s.heap)
    (h : ∀ h', LF base L m ca (some v) cr cb h' → SK s.heap h' → Q () { s with heap := h' }) :
    wpAny M A (storeName (lawEnv L f cd) (Str.ofString "total") v) Q E s :=
  wpAny_storeName_cell (by rfl) (by rfl) (c := L + 1 + 1) (by rfl) F.total (fun h' hc hs => h h' ⟨F.ns.sameBut hs (ad (by omega)), fun b o e => hs.extBut b o (fun q => by rw [q, F.fresh (Nat.le_of_lt (by omega))] at e; cases e) (F.keep b o e), F.above, F.ahead.sameBut hs (ad (by omega)), hc, F.row.sameBut hs (ad (by omega)), F.bags.sameBut hs (ad (by omega))⟩ (sk_cell hs F.total))
theorem st_row {v : Value} {Q : Unit → Shared → Prop} (F : LF base L m ca ct cr cb s.heap)
    (h : ∀ h', LF base L m ca ct (some v) cb h' → SK s.heap h' → Q () { s with heap := h' }) :
    wpAny M A (storeName (lawEnv L f cd) (Str.ofString "row") v) Q E s :=
  wpAny_storeName_cell (by rfl) (by rfl) (c := L + 1 + 1 + 1) (by rfl) F.row (fun h' hc hs => h h' ⟨F.ns.sameBut hs (ad (by omega)), fun b o e => hs.extBut b o (fun q => by rw [q, F.fresh (Nat.le_of_lt (by omega))] at e; cases e) (F.keep b o e), F.above, F.ahead.sameBut hs (ad (by omega)), F.total.sameBut hs (ad (by omega)), hc, F.bags.sameBut hs (ad (by omega))⟩ (sk_cell hs F.row))
theorem st_bags {v : Value} {Q : Unit → Shared → Prop} (F : LF base L m ca ct cr cb s.heap)
    (h : ∀ h', LF base L m ca ct cr (some v) h' → SK s.heap h' → Q () { s with heap := h' }) :
    wpAny M A (storeName (lawEnv L f cd) (Str.ofString "bags") v) Q E s :=
  wpAny_storeName_cell (by rfl) (by rfl) (c := L + 1 + 1 + 1 + 1) (by rfl) F.bags (fun h' hc hs => h h' ⟨F.ns.sameBut hs (ad (by omega)), fun b o e => hs.extBut b o (fun q => by rw [q, F.fresh (Nat.le_of_lt (by omega))] at e; cases e) (F.keep b o e), F.above, F.ahead.sameBut hs (ad (by omega)), F.total.sameBut hs (ad (by omega)), F.row.sameBut hs (ad (by omega)), hc⟩ (sk_cell hs F.bags))
end
end Mine

namespace Mine
abbrev put (m : Str → Option Value) (x : String) (v : Value) : Str → Option Value := fun z => if z = Str.ofString x then some v else m z
theorem isList_sk {h h' : Heap} {l : Addr} {xs : Array Value} (x : SK h h') (y : h.IsList l xs) : h'.IsList l xs := let ⟨o, a, b, n, c⟩ := y; ⟨o, x _ _ a ⟨_, _, c⟩, b, n, c⟩
section
variable {prog : Program} {w : World} {A : Around} {E : Value → Shared → Prop} {s : Shared} {mg mb : Str → Option Value} {base : Heap} {L f : Addr} {cd : Value}
theorem law_a {l : Addr} {vs : List Value} {ns : List Int} {Q : Flow → Shared → Prop} (m : Str → Option Value) (hm : m (Str.ofString "script") = some (.ref l)) (hl : base.IsList l vs.toArray) (hi : IntsAre vs ns) (hlen : ns.length ≤ 63)
    (F : LF base L m none none none none s.heap)
    (hK : ∀ D h' tk t, LF base L (put (put m "numbers" (.ref D)) "first" (.int (ns.headD 0) t)) none none none none h' → h'.IsList D (vs.take 10).toArray →
      wpAny (model prog w) A (execs ((bdOf (stOf 12)).drop 2) (lawEnv L f cd)) Q E { s with heap := h', toks := tk }) :
    wpAny (model prog w) A (execs (bdOf (stOf 12)) (lawEnv L f cd)) Q E s := by
  have e : bdOf (stOf 12) = bdOf (stOf 12) := rfl
  conv at e => rhs; whnf
  rw [e] at hK ⊢
  clear e
  refine wpAny_execs_cons ?_
  iterate 2 walk1
  refine ev_local F.ns hm ?_
  iterate 5 walk1
  dsimp only
  have hls : s.heap.IsList l vs.toArray := isList_ext hl F.keep
  have hvl : vs.length = ns.length := hi.length
  refine slice_any (s := { s with toks := s.toks + 1 }) hls .none (.int 10 _) (by simp; exact szl (by omega)) (fun D h1 x1 hD1 hn1 => ?_)
  rw [show slicePick vs.toArray none (some (10 : Int)) none = (vs.take 10).toArray from by rw [show (10 : Int) = ((10 : Nat) : Int) from rfl, slicePick_upto']] at hn1
  dsimp only
  refine st_local (F.ext x1) (fun h2 F2 g2 => ?_)
  dsimp only at g2 ⊢
  have hD2 : h2.IsList D (vs.take 10).toArray := ⟨_, g2 D _ (fun q => by obtain ⟨o, _, _, e, _⟩ := F.ns; rw [q] at hD1; rw [e] at hD1; cases hD1) hn1, rfl, _, rfl⟩
  refine wpAny_execs_cons ?_
  iterate 2 walk1
  refine isTrue_plain ?_
  refine ev_local F2.ns (v := .ref D) (by with_unfolding_all rfl) ?_
  refine wpAny_truthy_list hD2 (by simp; omega) ?_
  cases hns : ns with
  | nil =>
    have hvs : vs = [] := by subst hns; cases vs <;> simp_all
    rw [if_neg (by simp [hvs])]
    iterate 1 walk1
    refine st_local F2 (fun h3 F3 g3 => ?_)
    dsimp only
    exact hK D h3 _ _ (by rw [hns]; exact F3) (isList_sk (g3.sk F2.ns) hD2)
  | cons n ns' =>
    subst hns
    cases hi with
    | cons a b r =>
      rw [if_pos (by simp)]
      iterate 1 walk1
      refine ev_local F2.ns (v := .ref D) (by with_unfolding_all rfl) ?_
      iterate 1 walk1
      refine item_list' hD2 (by decide) (by decide) (by rfl) ?_
      refine st_local F2 (fun h3 F3 g3 => ?_)
      dsimp only
      exact hK D h3 _ _ F3 (isList_sk (g3.sk F2.ns) hD2)
end
end Mine

namespace Mine
def kOf (n : Int) : Nat := (n % 3).toNat
def iOf (n : Int) : Nat := (n / 108 % 4).toNat
def aOf (n : Int) : Nat := ((n / 3 + 2) % 6).toNat
def bOf (n : Int) : Nat := ((n / 18 + 1) % 6).toNat
theorem kOf_eq (n : Int) : n.fmod 3 = (kOf n : Nat) := by rw [Int.fmod_eq_emod_of_nonneg _ (by decide)]; unfold kOf; omega
theorem iOf_eq (n : Int) : (n.fdiv 108).fmod 4 = (iOf n : Nat) := by rw [Int.fmod_eq_emod_of_nonneg _ (by decide), Int.fdiv_eq_ediv_of_nonneg _ (by decide)]; unfold iOf; omega
theorem aOf_eq (n : Int) : (n.fdiv 3 + 2).fmod 6 = (aOf n : Nat) := by rw [Int.fmod_eq_emod_of_nonneg _ (by decide), Int.fdiv_eq_ediv_of_nonneg _ (by decide)]; unfold aOf; omega
theorem bOf_eq (n : Int) : (n.fdiv 18 + 1).fmod 6 = (bOf n : Nat) := by rw [Int.fmod_eq_emod_of_nonneg _ (by decide), Int.fdiv_eq_ediv_of_nonneg _ (by decide)]; unfold bOf; omega
theorem kOf_lt (n : Int) : kOf n < 3 := by unfold kOf; omega
theorem iOf_lt (n : Int) : iOf n < 4 := by unfold iOf; omega
theorem aOf_le (n : Int) : aOf n ≤ 5 := by unfold aOf; omega
theorem bOf_le (n : Int) : bOf n ≤ 5 := by unfold bOf; omega
section
variable {prog : Program} {w : World} {A : Around} {E : Value → Shared → Prop} {s : Shared} {mg mb : Str → Option Value} {base : Heap} {L f : Addr} {cd : Value}
theorem law_b {n : Int} {t : Tok} {Q : Flow → Shared → Prop} (G : Gd mg mb base) (m : Str → Option Value) (hm : m (Str.ofString "first") = some (.int n t))
    (F : LF base L m none none none none s.heap) (hroom : A.depth + 10 < recursionLimit) (hh : A.handled = none) (hu : A.units + 200 < cLine)
    (hK : ∀ h' tk t1 t2 t3 t4 t5 rv, LF base L (put (put (put m "ink" (.int (iOf n : Nat) t2)) "kind" (.int (kOf n : Nat) t1)) "behind" (.int (bOf n : Nat) t3)) (some (.int (aOf n : Nat) t4)) (some (.int (aOf n + bOf n : Nat) t5)) (some rv) none h' →
      Rd h' rv ((inkOf (kOf n) (iOf n)).row (aOf n) (bOf n)) → SK s.heap h' →
      wpAny (model prog w) A (execs ((bdOf (stOf 12)).drop 6) (lawEnv L f cd)) Q E { s with heap := h', toks := tk }) :
    wpAny (model prog w) A (execs ((bdOf (stOf 12)).drop 2) (lawEnv L f cd)) Q E s := by
  have e : bdOf (stOf 12) = bdOf (stOf 12) := rfl
  conv at e => rhs; whnf
  rw [e] at hK ⊢
  clear e
  dsimp only [List.drop] at hK ⊢
  refine wpAny_execs_cons ?_
  repeat first | walk1 | refine ev_local F.ns hm ?_
  rw [kOf_eq, iOf_eq]
  refine wpAny_newTuple ?_
  dsimp only
  refine unpackItems_tuple (items := #[.int (kOf n : Nat) _, .int (iOf n : Nat) _]) hh ⟨_, Heap.get?_push_size _ rfl, rfl, _, rfl⟩ (fun h1 x1 => ?_)
  dsimp only at x1 ⊢
  have X1 : Ext s.heap h1 := fun b o e => x1 b o (by rw [Heap.size_push]; exact Nat.ne_of_lt (Nat.lt_succ_of_lt (Heap.lt_size e))) (Heap.get?_push_of_some _ e)
  have F1 := F.ext X1
  iterate 2 walk1
  refine st_local F1 (fun h2 F2 g2 => ?_)
  dsimp only
  iterate 2 walk1
  refine st_local F2 (fun h3 F3 g3 => ?_)
  dsimp only
  iterate 1 walk1
  have S3 : SK s.heap h3 := (SK.of_ext X1).trans ((g2.sk F1.ns).trans (g3.sk F2.ns))
  clear g2 g3 F1 F2 x1 X1
  refine wpAny_execs_cons ?_
  repeat first | walk1 | refine ev_local F3.ns hm ?_
  rw [aOf_eq, bOf_eq]
  refine wpAny_newTuple ?_
  dsimp only
  refine wpAny_assign_Tuple (items := #[.int (aOf n : Nat) _, .int (bOf n : Nat) _]) hh ⟨_, Heap.get?_push_size _ rfl, rfl, _, rfl⟩ (by rfl) (by rfl) (fun h4 x4 => ?_)
  dsimp only at x4 ⊢
  have X4 : Ext h3 h4 := fun b o e => x4 b o (by rw [Heap.size_push]; exact Nat.ne_of_lt (Nat.lt_succ_of_lt (Heap.lt_size e))) (Heap.get?_push_of_some _ e)
  have F4 := F3.ext X4
  iterate 2 walk1
  refine st_ahead F4 (fun h5 F5 g5 => ?_)
  dsimp only
  iterate 2 walk1
  refine st_local F5 (fun h6 F6 g6 => ?_)
  dsimp only
  iterate 1 walk1
  have S6 : SK s.heap h6 := S3.trans ((SK.of_ext X4).trans (g5.trans (g6.sk F5.ns)))
  clear S3 g5 g6 F5 F4 x4 X4
  refine wpAny_execs_cons ?_
  iterate 2 walk1
  refine ev_cell F6.ahead ?_
  refine ev_local F6.ns (v := .int (bOf n : Nat) _) (by with_unfolding_all rfl) ?_
  walk1
  rw [show ((aOf n : Nat) : Int) + (bOf n : Nat) = ((aOf n + bOf n : Nat) : Int) from by omega]
  refine st_total F6 (fun h7 F7 g7 => ?_)
  dsimp only
  have S7 : SK s.heap h7 := S6.trans g7
  clear F3 F6 S6 g7
  refine wpAny_execs_cons ?_
  iterate 2 walk1
  have G7 := G.ext F7.keep
  obtain ⟨fr, hfr⟩ := G7.fn 7 (by decide)
  have hfrn : mg (Str.ofString "_law_row") = some (.ref fr) := hfr.choose_spec.choose_spec.choose_spec.choose_spec.1
  refine ev_fn G7 hfrn ?_
  refine cw_fn hfr ?_
  iterate 1 walk1
  refine ev_local F7.ns (v := .int (kOf n : Nat) _) (by with_unfolding_all rfl) ?_
  iterate 1 walk1
  refine ev_local F7.ns (v := .int (iOf n : Nat) _) (by with_unfolding_all rfl) ?_
  iterate 1 walk1
  refine ev_cell F7.ahead ?_
  iterate 1 walk1
  refine ev_local F7.ns (v := .int (bOf n : Nat) _) (by with_unfolding_all rfl) ?_
  iterate 1 walk1
  refine ⟨Ext.rfl _, ?_⟩
  refine row_call G7 hfr (kOf_lt n) (iOf_lt n) (aOf_le n) (bOf_le n) (by omega) (by omega) (fun rv h8 tk8 x8 r8 => ?_)
  refine st_row (F7.ext x8) (fun h9 F9 g9 => ?_)
  dsimp only at g9 ⊢
  exact hK h9 _ _ _ _ _ _ rv F9 (r8.sk g9 (row_lay (inkOf_ok _ _ (kOf_lt n) (iOf_lt n)) _ _).1) (S7.trans ((SK.of_ext x8).trans g9))
end
end Mine

namespace Mine
def BagAt (h : Heap) (B : Addr) (n : Nat) (xs : List Int) : Prop := (∃ k ys, h.get? B = some (listOf ys.toArray k) ∧ IntsAre ys xs) ∧ 0 < xs.length ∧ xs.length ≤ n ∧ ∀ x ∈ xs, -100 ≤ x ∧ x ≤ 100
/-- the three bags at b, b + 1, b + 2, the list of them at b + 3 -/
structure Bags (S h : Heap) (b n : Nat) : Prop where
  sk : SK S h
  new : S.objs.size ≤ b
  out : h.IsList (b + 3 : Nat) #[.ref (b : Nat), .ref (b + 1 : Nat), .ref (b + 2 : Nat)]
  bag : ∀ j, j < 3 → ∃ xs, BagAt h (b + j : Nat) n xs
theorem SK.but {S h h' : Heap} {c : Addr} (x : SK S h) (hc : S.get? c = none) (e : Heap.ExtBut c h h') : SK S h' := fun b o q r => e b o (fun k => by rw [k, hc] at q; cases q) (x b o q r)
theorem ne4 {L c : Nat} (h : L + 4 < c) : L ≠ c ∧ L + 1 ≠ c ∧ L + 1 + 1 ≠ c ∧ L + 1 + 1 + 1 ≠ c ∧ L + 1 + 1 + 1 + 1 ≠ c ∧ L ≤ c := by omega
theorem LF.but {base h h' : Heap} {L c : Addr} {m : Str → Option Value} {ca ct cr cb : Option Value} (F : LF base L m ca ct cr cb h) (hc : L + 4 < c) (e : Heap.ExtBut c h h') : LF base L m ca ct cr cb h' := by
  obtain ⟨n0, n1, n2, n3, n4, nl⟩ := ne4 hc
  refine ⟨F.ns.extBut e n0, fun b o q => e b o (fun k => ?_) (F.keep b o q), F.above, cell_at F.ahead fun o q => e _ o n1 q, cell_at F.total fun o q => e _ o n2 q, cell_at F.row fun o q => e _ o n3 q, cell_at F.bags fun o q => e _ o n4 q⟩
  rw [k, F.fresh nl] at q; cases q
theorem LF.room {base h : Heap} {L : Addr} {m : Str → Option Value} {ca ct cr cb : Option Value} (F : LF base L m ca ct cr cb h) : L + 4 < h.objs.size := F.bags.lt
theorem four_push (h : Heap) (o1 o2 o3 o4 : Obj) (f1 : o1.isFreed = false) (f2 : o2.isFreed = false) (f3 : o3.isFreed = false) (f4 : o4.isFreed = false) :
    Ext h ((((h.push o1).push o2).push o3).push o4) ∧ ((((h.push o1).push o2).push o3).push o4).get? h.objs.size = some o1 ∧ ((((h.push o1).push o2).push o3).push o4).get? (h.objs.size + 1) = some o2 ∧
      ((((h.push o1).push o2).push o3).push o4).get? (h.objs.size + 2) = some o3 ∧ ((((h.push o1).push o2).push o3).push o4).get? (h.objs.size + 3) = some o4 := by
  refine ⟨fun b o e => Heap.get?_push_of_some _ (Heap.get?_push_of_some _ (Heap.get?_push_of_some _ (Heap.get?_push_of_some _ e))), Heap.get?_push_of_some _ (Heap.get?_push_of_some _ (Heap.get?_push_of_some _ (Heap.get?_push_size _ f1))), Heap.get?_push_of_some _ (Heap.get?_push_of_some _ ?_), Heap.get?_push_of_some _ ?_, ?_⟩
  · have := Heap.get?_push_size (h.push o1) f2; rw [Heap.size_push] at this; exact this
  · have := Heap.get?_push_size ((h.push o1).push o2) f3; rw [Heap.size_push, Heap.size_push] at this; exact this
  · have := Heap.get?_push_size (((h.push o1).push o2).push o3) f4; rw [Heap.size_push, Heap.size_push, Heap.size_push] at this; exact this
theorem Bags.keep {S h h' : Heap} {b n : Nat} (B : Bags S h b n) (sk : SK S h') (e : ∀ j, j ≤ 3 → ∀ o, h.get? (b + j : Nat) = some o → h'.get? (b + j : Nat) = some o) : Bags S h' b n :=
  ⟨sk, B.new, let ⟨o, a, r⟩ := B.out; ⟨o, e 3 (Nat.le_refl _) _ a, r⟩, fun j hj => let ⟨xs, ⟨k, ys, q1, q2⟩, q3⟩ := B.bag j hj; ⟨xs, ⟨k, ys, e j (Nat.le_of_lt hj) _ q1, q2⟩, q3⟩⟩
theorem Bags.more {S h h' : Heap} {b n i k : Nat} {ys : List Value} {xs : List Int} {v : Int} {t : Tok} (B : Bags S h b n) (hi : i < 3) (hy : IntsAre ys xs) (hx : xs.length ≤ n ∧ ∀ x ∈ xs, -100 ≤ x ∧ x ≤ 100) (hv : -100 ≤ v ∧ v ≤ 100)
    (hs : Heap.SameBut (b + i : Nat) h h') (hg : h'.get? (b + i : Nat) = some (listOf (ys.toArray.push (.int v t)) k)) : Bags S h' b (n + 1) := by
  have hne : ∀ j, j ≠ i → @Ne Addr (b + j : Nat) (b + i : Nat) := fun j hj => ad (by omega)
  refine ⟨B.sk.but (Heap.get?_none_of_le (Nat.le_trans B.new (Nat.le_add_right _ _))) hs.extBut, B.new, let ⟨o, a, r⟩ := B.out; ⟨o, hs.extBut _ _ (hne 3 (by omega)) a, r⟩, fun j hj => ?_⟩
  by_cases q : j = i
  · subst q
    refine ⟨xs ++ [v], ⟨k, ys ++ [.int v t], ?_, hy.append (.cons _ _ .nil)⟩, by simp, by simp; exact hx.1, fun x hm => ?_⟩
    · rw [hg]; congr 2; simp
    · rcases List.mem_append.mp hm with h | h
      · exact hx.2 x h
      · rw [List.mem_singleton.mp h]; exact hv
  · obtain ⟨xs', ⟨k', ys', q1, q2⟩, q3, q4, q5⟩ := B.bag j hj
    exact ⟨xs', ⟨k', ys', hs.extBut _ _ (hne j q) q1, q2⟩, q3, Nat.le_succ_of_le q4, q5⟩
section
variable {prog : Program} {w : World} {A : Around} {E : Value → Shared → Prop} {s : Shared} {mg mb : Str → Option Value} {base : Heap} {L f : Addr} {cd : Value}
theorem law_c {D : Addr} {vs : List Value} {ks : List Int} {ca ct cr : Option Value} {Q : Flow → Shared → Prop} (m : Str → Option Value) (hm : m (Str.ofString "numbers") = some (.ref D)) (hl : s.heap.IsList D vs.toArray) (hi : IntsAre vs ks) (hlen : ks.length ≤ 10)
    (F : LF base L m ca ct cr none s.heap) (hh : A.handled = none) (hu : A.units + 200 < cLine)
    (hK : ∀ h' tk m' b, (∀ x, x ≠ Str.ofString "number" → m' x = m x) → LF base L m' ca ct cr (some (.ref (b + 3 : Nat))) h' → Bags s.heap h' b 11 →
      wpAny (model prog w) A (execs ((bdOf (stOf 12)).drop 8) (lawEnv L f cd)) Q E { s with heap := h', toks := tk }) :
    wpAny (model prog w) A (execs ((bdOf (stOf 12)).drop 6) (lawEnv L f cd)) Q E s := by
  have e : bdOf (stOf 12) = bdOf (stOf 12) := rfl
  conv at e => rhs; whnf
  rw [e] at hK ⊢
  clear e
  dsimp only [List.drop] at hK ⊢
  refine wpAny_execs_cons ?_
  repeat walk1
  refine wpAny_newList ?_
  dsimp only
  repeat walk1
  refine wpAny_newList ?_
  dsimp only
  repeat walk1
  refine wpAny_newList ?_
  dsimp only
  repeat walk1
  refine wpAny_newList ?_
  dsimp only
  simp only [Heap.size_push]
  obtain ⟨x1, p1, p2, p3, p4⟩ := four_push s.heap { cls := .type "list", data := .seq [Value.int 1 s.toks].toArray } { cls := .type "list", data := .seq [Value.int 2 (s.toks + 1)].toArray } { cls := .type "list", data := .seq [Value.int 3 (s.toks + 1 + 1)].toArray }
    { cls := .type "list", data := .seq [Value.ref s.heap.objs.size, .ref (s.heap.objs.size + 1), .ref (s.heap.objs.size + 1 + 1)].toArray } rfl rfl rfl rfl
  generalize ((((s.heap.push { cls := .type "list", data := .seq [Value.int 1 s.toks].toArray }).push { cls := .type "list", data := .seq [Value.int 2 (s.toks + 1)].toArray }).push { cls := .type "list", data := .seq [Value.int 3 (s.toks + 1 + 1)].toArray }).push
    { cls := .type "list", data := .seq [Value.ref s.heap.objs.size, .ref (s.heap.objs.size + 1), .ref (s.heap.objs.size + 1 + 1)].toArray }) = H at x1 p1 p2 p3 p4 ⊢
  generalize hb : s.heap.objs.size = b at p1 p2 p3 p4 ⊢
  refine st_bags (F.ext x1) (fun h2 F2 g2 => ?_)
  dsimp only at g2 ⊢
  have hLb : (L : Nat) + 4 < b := by rw [← hb]; exact F.room
  have B2 : Bags s.heap h2 b 1 := by
    refine ⟨(SK.of_ext x1).trans g2, Nat.le_of_eq hb, ⟨_, g2 _ _ p4 ⟨_, _, rfl⟩, rfl, _, rfl⟩, fun j hj => ?_⟩
    obtain rfl | rfl | rfl : j = 0 ∨ j = 1 ∨ j = 2 := by omega
    · exact ⟨[1], ⟨_, [_], g2 _ _ p1 ⟨_, _, rfl⟩, .cons _ _ .nil⟩, by decide, by decide, by decide⟩
    · exact ⟨[2], ⟨_, [_], g2 _ _ p2 ⟨_, _, rfl⟩, .cons _ _ .nil⟩, by decide, by decide, by decide⟩
    · exact ⟨[3], ⟨_, [_], g2 _ _ p3 ⟨_, _, rfl⟩, .cons _ _ .nil⟩, by decide, by decide, by decide⟩
  clear p1 p2 p3 p4 x1 g2
  refine wpAny_execs_cons (wpAny_For ?_)
  walk1
  refine ev_local F2.ns hm ?_
  iterate 5 walk1
  dsimp only
  have hl2 : h2.IsList D vs.toArray := isList_sk B2.sk hl
  have hvl : vs.length = ks.length := hi.length
  refine slice_any (s := { s with heap := h2, toks := _ }) hl2 (.int 1 _) .none (by simp; exact szl (by omega)) (fun l2 h3 x3 hD3 hn3 => ?_)
  rw [show slicePick vs.toArray (some (1 : Int)) none none = (vs.drop 1).toArray from by rw [show (1 : Int) = ((1 : Nat) : Int) from rfl, slicePick_from']] at hn3
  dsimp only at x3 hD3 ⊢
  obtain ⟨us, js, hus, hij, hjl⟩ : ∃ us js, vs.drop 1 = us ∧ IntsAre us js ∧ js.length ≤ 10 := by
    cases hi with
    | nil => exact ⟨[], [], rfl, .nil, by decide⟩
    | cons a b r => exact ⟨_, _, rfl, r, by simp at hlen; omega⟩
  rw [hus] at hn3
  have F3 := F2.ext x3
  have B3 : Bags s.heap h3 b 1 := ⟨B2.sk.trans (SK.of_ext x3), B2.new, isList_ext B2.out x3, fun j hj => let ⟨xs, ⟨k, ys, q1, q2⟩, q3⟩ := B2.bag j hj; ⟨xs, ⟨k, ys, x3 _ _ q1, q2⟩, q3⟩⟩
  have hlb : ∀ j, j < 3 → l2 ≠ (b + j : Nat) := fun j hj q => by
    obtain ⟨xs, ⟨k, ys, q1, _⟩, _⟩ := B2.bag j hj
    rw [q, q1] at hD3; cases hD3
  have hlL : l2 ≠ L := fun q => by obtain ⟨o, _, _, e, _⟩ := F2.ns; rw [q, e] at hD3; cases hD3
  refine wpAny_pyIter_list ⟨_, hn3, rfl, _, rfl⟩ ?_
  dsimp only
  generalize hIt : h3.objs.size = it
  have hlt3 : l2 < it := by rw [← hIt]; exact Heap.lt_size hn3
  have hitb : ∀ j, j ≤ 3 → @Ne Addr (b + j : Nat) it := fun j hj => by
    rw [← hIt]
    rcases Nat.lt_or_ge j 3 with h | h
    · obtain ⟨xs, ⟨k, ys, q1, _⟩, _⟩ := B3.bag j h
      exact Nat.ne_of_lt (Heap.lt_size q1)
    · obtain rfl : j = 3 := by omega
      obtain ⟨o, q1, _⟩ := B3.out
      exact Nat.ne_of_lt (Heap.lt_size q1)
  have hitL : L + 4 < it := by rw [← hIt]; exact F3.room
  have hitS : s.heap.get? it = none := Heap.get?_none_of_le (by
    have h0 := B3.new
    obtain ⟨o, q1, _⟩ := B3.out
    have h1 := Heap.lt_size q1
    rw [hIt] at h1
    exact Nat.le_trans h0 (Nat.le_of_lt (Nat.lt_of_le_of_lt (Nat.le_add_right _ _) h1)))
  have hule : us.length = js.length := hij.length
  refine codeAny_forLoop (fun n s' => ∃ (i : Nat) (h : Heap) (tk : Nat) (m' : Str → Option Value), s' = { s with heap := h, toks := tk } ∧ n = us.length + 1 - i ∧ i ≤ us.length ∧ h.IsListIter it l2 i ∧ h.IsList l2 us.toArray ∧ (∀ x, x ≠ Str.ofString "number" → m' x = m x) ∧ LF base L m' ca ct cr (some (.ref (b + 3 : Nat))) h ∧ Bags s.heap h b (1 + i)) ?_ (us.length + 1)
    ⟨0, _, _, m, rfl, rfl, Nat.zero_le _, ⟨_, by rw [← hIt]; exact Heap.get?_push_size _ rfl, rfl, rfl⟩, ⟨_, Heap.get?_push_of_some _ hn3, rfl, _, rfl⟩, fun _ _ => rfl, F3.ext (Ext.push _ _), B3.keep (B3.sk.trans (SK.of_ext (Ext.push _ _))) (fun j _ o q => Heap.get?_push_of_some _ q)⟩
  rintro n s' ⟨i, h, tk, m', rfl, rfl, hi', hit, hlh, hmm, Fh, Bh⟩
  by_cases hlt : i < us.length
  · obtain ⟨v, hv⟩ : ∃ v, js[i]? = some v := ⟨js[i], List.getElem?_eq_getElem (by omega)⟩
    obtain ⟨tv, hv2⟩ := hij.get i v hv
    refine wpAny_pyNext_list_item hit hlh (x := .int v tv) (by simpa using hv2) (fun h4 hit4 hs4 => ?_)
    dsimp only
    have F4 := Fh.but hitL hs4.extBut
    have B4 : Bags s.heap h4 b (1 + i) := Bh.keep (Bh.sk.but hitS hs4.extBut) (fun j hj o q => hs4.extBut _ _ (hitb j hj) q)
    refine wpAny_assign_Name (st_local F4 (fun h5 F5 g5 => ?_))
    dsimp only
    dsimp only at g5
    have sk5 := g5.sk F4.ns
    have B5 : Bags s.heap h5 b (1 + i) := B4.keep (B4.sk.trans sk5) (fun j hj o q => g5 _ _ (Nat.ne_of_gt (Nat.lt_of_lt_of_le (Nat.lt_of_le_of_lt (Nat.le_add_right _ _) hLb) (Nat.le_add_right _ _))) q)
    have hl5 : h5.IsList l2 us.toArray := isList_sk sk5 (let ⟨o, a, r⟩ := hlh; ⟨o, hs4.extBut _ _ (Nat.ne_of_lt hlt3) a, r⟩)
    have hit5 : h5.IsListIter it l2 (i + 1) := let ⟨o, a, r⟩ := hit4; ⟨o, g5 _ _ (Nat.ne_of_gt (Nat.lt_of_le_of_lt (Nat.le_add_right _ _) hitL)) a, r⟩
    have hn5 : (fun z => if z = Str.ofString "number" then some (Value.int v tv) else m' z) (Str.ofString "number") = some (.int v tv) := by simp
    clear B4 F4 hs4 hit4 hlh hit Bh Fh
    refine wpAny_execs_cons ?_
    iterate 3 walk1
    refine ev_cell F5.bags ?_
    repeat first | walk1 | refine ev_local F5.ns hn5 ?_
    rw [kOf_eq]
    have hk3 := kOf_lt v
    generalize kOf v = j at hk3 ⊢
    refine item_list' (x := .ref (b + j : Nat)) B5.out (by omega) (by omega) ?_ ?_
    · obtain rfl | rfl | rfl : j = 0 ∨ j = 1 ∨ j = 2 := by omega
      all_goals rfl
    obtain ⟨xs, ⟨k, ys, q1, q2⟩, q3, q4, q5⟩ := B5.bag j hk3
    refine Calls.getMethod_list_append q1 rfl rfl ?_
    repeat first | walk1 | refine ev_local F5.ns hn5 ?_
    refine append_at q1 (fun h6 hs6 hD6 => ?_) (by rw [List.size_toArray, q2.length]; exact szl (by omega))
    dsimp only
    iterate 1 walk1
    dsimp only
    have hjL : L + 4 < (b + j : Nat) := Nat.lt_of_lt_of_le hLb (Nat.le_add_right _ _)
    have hr : -100 ≤ (v.fdiv 3).fmod 12 - 2 ∧ (v.fdiv 3).fmod 12 - 2 ≤ 100 := by rw [Int.fmod_eq_emod_of_nonneg _ (by decide), Int.fdiv_eq_ediv_of_nonneg _ (by decide)]; omega
    refine ⟨us.length + 1 - (i + 1), by omega, i + 1, h6, _, _, rfl, rfl, hlt, hit5.extBut hs6.extBut (Ne.symm (hitb j (Nat.le_of_lt hk3))), let ⟨o, a, r⟩ := hl5; ⟨o, hs6.extBut _ _ (hlb j hk3) a, r⟩, fun x hx => ?_, F5.but hjL hs6.extBut, B5.more hk3 q2 ⟨q4, q5⟩ hr hs6 hD6⟩
    rw [if_neg hx]; exact hmm x hx
  · obtain rfl : i = us.length := by omega
    refine pyNext_end (.inl hh) hit hlh (by simp) (fun e he => ?_) (fun h4 hx4 => ?_)
    · have he2 : A.handled = _ := he
      rw [hh] at he2; cases he2
    · dsimp only
      iterate 1 walk1
      dsimp only
      have B4 : Bags s.heap h4 b (1 + us.length) := Bh.keep (Bh.sk.but hitS hx4) (fun j hj o q => hx4 _ _ (hitb j hj) q)
      exact hK h4 _ m' b hmm (Fh.but hitL hx4) ⟨B4.sk, B4.new, B4.out, fun j hj => let ⟨xs, q, q3, q4, q5⟩ := B4.bag j hj; ⟨xs, q, q3, by omega, q5⟩⟩
end
end Mine

namespace Mine
abbrev two (elt : Expr) (t1 i1 t2 i2 : Expr) (scope : Scope) (pos : Pos) : Expr := .ListComp elt [⟨t1, i1, [], 0⟩, ⟨t2, i2, [], 0⟩] scope pos
theorem turn_outer (elt t1 i1 t2 i2 : Expr) (scope : Scope) (pos : Pos) (it acc : Value) (env : Env) :
    compTurn (two elt t1 i1 t2 i2 scope pos) 0 it acc env = (standAt i1.pos >>= fun _ => pyNext it >>= fun r => match r with
      | none => pure (.done .next)
      | some v => letOwnedTupleGo t1 it v >>= fun _ => assign t1 env v >>= fun _ =>
        (eval i2 env >>= fun x => standAt i2.pos >>= fun _ => foldedSetIterable i2 env x >>= fun x => holding [x] (pyIter x) >>= fun it2 => runOwn (.compStart (two elt t1 i1 t2 i2 scope pos) 1 it2 acc env) env >>= fun _ =>
          again (.compLoop (two elt t1 i1 t2 i2 scope pos) 0 it acc env))) := by rfl
theorem turn_inner (elt t1 i1 t2 i2 : Expr) (scope : Scope) (pos : Pos) (it acc : Value) (env : Env) :
    compTurn (two elt t1 i1 t2 i2 scope pos) 1 it acc env = (standAt i2.pos >>= fun _ => pyNext it >>= fun r => match r with
      | none => pure (.done .next)
      | some v => letOwnedTupleGo t2 it v >>= fun _ => assign t2 env v >>= fun _ =>
        (eval elt env >>= fun x => call (.builtin "list.append") [acc, x] >>= fun _ => pure ()) >>= fun _ =>
          again (.compLoop (two elt t1 i1 t2 i2 scope pos) 1 it acc env)) := by rfl
section
variable {prog : Program} {w : World} {A : Around} {E : Value → Shared → Prop} {R : Result → Shared → Prop} {s : Shared} {elt t1 i1 t2 i2 : Expr} {scope : Scope} {pos : Pos} {it acc : Value} {env : Env}
theorem c2_inner (I : Nat → Shared → Prop)
    (turn : ∀ n s (E' : Value → Shared → Prop), I n s → wpAny (model prog w) A (pyNext it) (fun r s₁ => match r with
      | none => R (.ok .next) s₁
      | some v => wpAny (model prog w) A (assign t2 env v) (fun _ s₂ => wpAny (model prog w) A (eval elt env) (fun x s₃ =>
          wpAny (model prog w) A (call (.builtin "list.append") [acc, x]) (fun _ s₄ => ∃ m, m < n ∧ I m s₄) E' s₃) E' s₂) E' s₁) E' s)
    (n : Nat) (h : I n s) (ht : ∀ v, letOwnedTupleGo t2 it v = pure () := by intro _; rfl) :
    codeAny (model prog w) A (.compLoop (two elt t1 i1 t2 i2 scope pos) 1 it acc env) R s := by
  refine codeAny_loop rfl I (fun n s hI => ?_) n h
  show wpAny _ _ ((compTurn (two elt t1 i1 t2 i2 scope pos) 1 it acc env).onRaise (fun x => do noteFrame x env; theTreesLotGoes x)) _ _ s
  refine wpAny_noted ?_
  rw [turn_inner]
  refine wpAny_bind (wpAny_standAt (wpAny_bind (wpAny_mono (turn n s _ hI) (fun r s₁ h₁ => ?_) fun _ _ h' => h')))
  cases r with
  | none => exact wpAny_pure h₁
  | some v =>
    refine wpAny_bind (wpAny_of_eq (ht v) ?_)
    exact wpAny_bind (wpAny_mono h₁ (fun _ s₂ h₂ => wpAny_bind (wpAny_bind (wpAny_mono h₂ (fun x s₃ h₃ => wpAny_bind (wpAny_mono h₃
      (fun _ s₄ h₄ => wpAny_pure (wpAny_pure ⟨rfl, h₄⟩)) fun _ _ h' => h')) fun _ _ h' => h'))) fun _ _ h' => h')
theorem c2_start1
    (h0 : codeAny (model prog w) A (.compLoop (two elt t1 i1 t2 i2 scope pos) 1 it acc env) R s)
    (h : ∀ (E' : Value → Shared → Prop), wpAny (model prog w) A (pyIter it) (fun it' s' => codeAny (model prog w) A (.compLoop (two elt t1 i1 t2 i2 scope pos) 1 it' acc env) R s') E' s) :
    codeAny (model prog w) A (.compStart (two elt t1 i1 t2 i2 scope pos) 1 it acc env) R s := by
  refine codeAny_of_tree ?_
  show wpAny _ _ ((compStart (two elt t1 i1 t2 i2 scope pos) 1 it acc env).onRaise (fun x => do noteFrame x env; standAt theWindowsPlace)) _ _ s
  refine wpAny_notedAt ?_
  unfold compStart
  show wpAny _ _ (ask >>= _) _ _ s
  refine wpAny_bind (wpAny_askSetting (wpAny_ite ?_))
  split
  · first
      | exact wpAny_bind (wpAny_pure (wpAny_pure (And.intro rfl h0)))
      | exact wpAny_pure (And.intro rfl h0)
  · first
      | exact wpAny_bind (wpAny_rule (wpAny_bind (wpAny_standAt (wpAny_bind (wpAny_mono (h _) (fun it' s' h' => wpAny_pure (And.intro rfl h')) fun _ _ x => x)))))
      | (refine wpAny_bind (wpAny_rule ?_); show wpAny _ _ (standAt i2.pos >>= _) _ _ s; exact wpAny_bind (wpAny_standAt (wpAny_bind (wpAny_mono (h _) (fun it' s' h' => wpAny_pure (And.intro rfl h')) fun _ _ x => x))))
theorem c2_outer (I : Nat → Shared → Prop)
    (turn : ∀ n s (E' : Value → Shared → Prop), I n s → wpAny (model prog w) A (pyNext it) (fun r s₁ => match r with
      | none => R (.ok .next) s₁
      | some v => wpAny (model prog w) A (assign t1 env v) (fun _ s₂ => wpAny (model prog w) A (eval i2 env) (fun x s₃ =>
          wpAny (model prog w) A (pyIter x) (fun it2 s₄ => ∃ Z : Shared → Prop, (∀ R₂ : Result → Shared → Prop, (∀ s₅, Z s₅ → R₂ (.ok .next) s₅) → codeAny (model prog w) A (.compStart (two elt t1 i1 t2 i2 scope pos) 1 it2 acc env) R₂ s₄) ∧ ∀ s₅, Z s₅ → ∃ m, m < n ∧ I m s₅) E' s₃) E' s₂) E' s₁) E' s)
    (n : Nat) (h : I n s) (ht : ∀ v, letOwnedTupleGo t1 it v = pure () := by intro _; rfl) (hs : ∀ x, foldedSetIterable i2 env x = pure x := by intro _; rfl) :
    codeAny (model prog w) A (.compLoop (two elt t1 i1 t2 i2 scope pos) 0 it acc env) R s := by
  refine codeAny_loop rfl I (fun n s hI => ?_) n h
  show wpAny _ _ ((compTurn (two elt t1 i1 t2 i2 scope pos) 0 it acc env).onRaise (fun x => do noteFrame x env; theTreesLotGoes x)) _ _ s
  refine wpAny_noted ?_
  rw [turn_outer]
  refine wpAny_bind (wpAny_standAt (wpAny_bind (wpAny_mono (turn n s _ hI) (fun r s₁ h₁ => ?_) fun _ _ h' => h')))
  cases r with
  | none => exact wpAny_pure h₁
  | some v =>
    refine wpAny_bind (wpAny_of_eq (ht v) ?_)
    refine wpAny_bind (wpAny_mono h₁ (fun _ s₂ h₂ => wpAny_bind (wpAny_mono h₂ (fun x s₃ h₃ => wpAny_bind (wpAny_standAt (wpAny_bind (wpAny_of_eq (hs x) (wpAny_bind (wpAny_holding (wpAny_mono h₃ (fun it2 s₄ h₄ => ?_) fun _ _ h' => h'))))))) fun _ _ h' => h')) fun _ _ h' => h')
    obtain ⟨Z, h4, h5⟩ := h₄
    refine wpAny_bind (wpAny_runOwn (h4 _ (fun s₅ hz => ?_)))
    exact wpAny_pure ⟨rfl, h5 s₅ hz⟩
end
end Mine

namespace Mine
def wayD (p : Int × Int) : PyData := .list [.int p.1, .int p.2]
def waysOf (xs ys : List Int) : List (Int × Int) := xs.flatMap fun x => ys.map fun y => (x, y)
theorem ways_snoc (xs ys : List Int) (x : Int) : waysOf (xs ++ [x]) ys = waysOf xs ys ++ ys.map fun y => (x, y) := by simp [waysOf]
theorem ways_len (xs ys : List Int) : (waysOf xs ys).length = xs.length * ys.length := by
  induction xs with
  | nil => simp [waysOf]
  | cons x xs ih => simp only [waysOf, List.flatMap_cons, List.length_append, List.length_map, List.length_cons] at ih ⊢; rw [ih, Nat.succ_mul, Nat.add_comm]
theorem skd {h h' : Heap} {D : Addr} (x : ∀ b o, b ≠ D → h.get? b = some o → (∃ xs n, o.data = .seq xs n) → h'.get? b = some o) : SK (hid h [D]) (hid h' [D]) := fun b o e q =>
  hid_get (x b o (fun k => hid_not e (by simp [k])) (hid_sub b o e) q) (hid_not e)
theorem skd_sk {h h' : Heap} {D : Addr} (x : SK h h') : SK (hid h [D]) (hid h' [D]) := skd fun b o _ e q => x b o e q
theorem ways_lay : ∀ ps : List (Int × Int), PyData.canLayAll0 (ps.map wayD) = true ∧ PyData.depthAll (ps.map wayD) ≤ 3
  | [] => by simp [PyData.canLayAll0, PyData.depthAll]
  | p :: ps => by
    have := ways_lay ps
    simp only [List.map_cons, PyData.canLayAll0, PyData.depthAll, wayD, PyData.canLay0, PyData.depth, this.1, Bool.and_self, true_and]
    omega
section
variable {prog : Program} {w : World} {A : Around} {E : Value → Shared → Prop} {s : Shared} {mg mb : Str → Option Value} {base : Heap} {L f : Addr} {cd : Value}
theorem law_d {S : Heap} {b : Nat} {xs ys : List Int} {ca ct cr : Option Value} {Q : Flow → Shared → Prop} (m : Str → Option Value)
    (F : LF base L m ca ct cr (some (.ref (b + 3 : Nat))) s.heap) (B : Bags S s.heap b 11) (b0 : BagAt s.heap (b : Nat) 11 xs) (b1 : BagAt s.heap (b + 1 : Nat) 11 ys) (hh : A.handled = none)
    (hK : ∀ D h' tk, LF base L (put m "ways" (.ref D)) ca ct cr (some (.ref (b + 3 : Nat))) h' → Go L s.heap h' → Rd h' (.ref D) (.list ((waysOf xs ys).map wayD)) →
      wpAny (model prog w) A (execs ((bdOf (stOf 12)).drop 9) (lawEnv L f cd)) Q E { s with heap := h', toks := tk }) :
    wpAny (model prog w) A (execs ((bdOf (stOf 12)).drop 8) (lawEnv L f cd)) Q E s := by
  have e : bdOf (stOf 12) = bdOf (stOf 12) := rfl
  conv at e => rhs; whnf
  rw [e] at hK ⊢
  clear e
  dsimp only [List.drop] at hK ⊢
  obtain ⟨⟨k0, vs0, p0, i0⟩, _, l0, _⟩ := b0
  obtain ⟨⟨k1, vs1, p1, i1⟩, _, l1, _⟩ := b1
  refine wpAny_execs_cons ?_
  rw [exec_Assign_Name_used _ _ _ _ (by rfl)]
  refine wpAny_bind (wpAny_standAt (wpAny_bind ?_))
  show wpAny _ A (do let _ ← comprehension (two _ _ _ _ _ _ _) _ (lawEnv L f cd) _ (newList []) false (eval _ (lawEnv L f cd)) (some (assign (.Name (Str.ofString "ways") _) (lawEnv L f cd)))) _ _ s
  refine wpAny_bind (wpAny_mono (wpAny_comprehension_free (use := some (assign (.Name (Str.ofString "ways") _) (lawEnv L f cd))) (Q := fun _ s' => wpAny (model prog w) A (execs _ (lawEnv L f cd)) Q E s') rfl (by intro _; rfl) (cl := [(Str.ofString "bags", L + 1 + 1 + 1 + 1)]) (by rfl) (by rfl) (by decide +kernel)
    ?_) (fun _ s' hq => wpAny_pure (wpAny_pure hq)) fun _ _ e => e)
  walk1
  refine ev_cell F.bags ?_
  walk1
  refine item_list' (x := .ref (b : Nat)) B.out (by decide) (by decide) (by rfl) ?_
  refine wpAny_pyIter_list (s := { s with toks := _ }) ⟨_, p0, rfl, _, rfl⟩ ?_
  refine wpAny_newObj_type (wpAny_newFunctionEnv (by decide +kernel) (by intro y hy; simp at hy) (fun h₁ hns₁ hsb₁ => ?_) (by rfl))
  dsimp only at hns₁ hsb₁ ⊢
  simp only [Heap.size_push] at hns₁ hsb₁ ⊢
  generalize hN : s.heap.objs.size = N at hns₁ hsb₁ ⊢
  have hx1 : Ext s.heap h₁ := fun c o q => hsb₁.extBut c o (by have := Heap.lt_size q; rw [hN] at this; exact Nat.ne_of_lt (Nat.lt_of_lt_of_le this (by omega))) (Heap.get?_push_of_some _ (Heap.get?_push_of_some _ (Heap.get?_push_of_some _ q)))
  have hI1 : h₁.get? N = some { cls := .type "list_iterator", data := .fields #[.ref (b : Nat), .int 0 0] } := by
    refine hsb₁.extBut _ _ (ad (by omega)) (Heap.get?_push_of_some _ (Heap.get?_push_of_some _ ?_))
    rw [← hN]; exact Heap.get?_push_size _ rfl
  have hD1 : h₁.get? (N + 1 : Nat) = some (lst []) := by
    refine hsb₁.extBut _ _ (ad (by omega)) (Heap.get?_push_of_some _ ?_)
    have := Heap.get?_push_size (h := s.heap.push { cls := .type "list_iterator", data := .fields #[.ref (b : Nat), .int 0 0] }) (o := lst []) rfl
    rw [Heap.size_push, hN] at this
    exact this
  clear hsb₁
  have fresh : ∀ c : Nat, N ≤ c → s.heap.get? c = none := fun c hc => Heap.get?_none_of_le (by rw [hN]; exact hc)
  have old : ∀ (c : Addr) (o : Obj), s.heap.get? c = some o → c < N := fun c o q => by have := Heap.lt_size q; rw [hN] at this; exact this
  have hv0 : vs0.length = xs.length := i0.length
  have hv1 : vs1.length = ys.length := i1.length
  refine (fun loop => codeAny_compStart_list loop (wpAny_pyIter_listiter (l := (b : Nat)) (i := 0) ⟨_, hI1, rfl, rfl⟩ loop)) ?_
  show codeAny _ A (.compLoop (two _ _ _ _ _ _ _) 0 _ _ (compEnvC _ [(Str.ofString "bags", L + 1 + 1 + 1 + 1)] (N + 1 + 1 : Nat) (lawEnv L f cd))) (compPost _ _ _ _ _ _ (N + 1 + 1 : Nat)) _
  refine c2_outer (fun n s' => ∃ (i : Nat) (hc : Heap) (tk : Nat) (zs : List Value) (mC : Str → Option Value), s' = { s with heap := hc, toks := tk } ∧ i ≤ xs.length ∧ n = xs.length + 1 - i ∧ hc.IsListIter N (b : Nat) i ∧ Ext s.heap hc ∧ hc.Ns (N + 1 + 1 : Nat) mC ∧ hc.get? (N + 1 : Nat) = some (lst zs) ∧ RdAll (hid hc [N + 1]) zs ((waysOf (xs.take i) ys).map wayD)) ?_ (xs.length + 1)
    ⟨0, h₁, _, [], _, rfl, Nat.zero_le _, rfl, ⟨_, hI1, rfl, rfl⟩, hx1, hns₁, hD1, by simpa [waysOf] using RdAll.nil _⟩
  clear hns₁ hI1 hD1 hx1
  rintro n s' E' ⟨i, hc, tk, zs, mC, rfl, hi, rfl, hit, hx, hns, hD, hr⟩
  by_cases hlt : i < xs.length
  · obtain ⟨tv, hv2⟩ := i0.get i xs[i] (List.getElem?_eq_getElem hlt)
    refine wpAny_pyNext_list_item hit (items := vs0.toArray) ⟨_, hx _ _ p0, rfl, _, rfl⟩ (x := .int xs[i] tv) (by simpa using hv2) (fun h4 hit4 hs4 => ?_)
    dsimp only at hs4 ⊢
    refine wpAny_assign_Name (wpAny_storeName_local (lookup_relabel_local (by rfl)) (hns.sameBut hs4 (ad (by omega))) (fun h5 hn5 hs5 => ?_) (by rfl))
    dsimp only
    replace hs5 : Heap.SameBut (N + 1 + 1 : Nat) h4 h5 := hs5
    replace hn5 : h5.Ns (N + 1 + 1 : Nat) (fun x => if x = Str.ofString "x" then some (Value.int xs[i] tv) else mC x) := hn5
    have x5 : Ext s.heap h5 := fun c o q => hs5.extBut c o (Nat.ne_of_lt (Nat.lt_of_lt_of_le (old c o q) (by omega))) (hs4.extBut c o (Nat.ne_of_lt (old c o q)) (hx c o q))
    have hit5 : h5.IsListIter N (b : Nat) (i + 1) := hit4.extBut hs5.extBut (ad (by omega))
    have hD5 : h5.get? (N + 1 : Nat) = some (lst zs) := hs5.extBut _ _ (ad (by omega)) (hs4.extBut _ _ (ad (by omega)) hD)
    have sk5 : SK hc h5 := by
      obtain ⟨oI, a1, _, a3⟩ := hit
      exact (SK.of_but hs4 a1 (fun xs n q => by rw [a3] at q; cases q)).trans (SK.of_ns hs5 (hns.sameBut hs4 (ad (by omega))))
    have hr5 := hr.sk (skd_sk (D := (N + 1 : Nat)) sk5) (ways_lay _).1
    clear hs5 hs4 hit4 hr hD hns hx hit sk5
    walk1
    refine ce_cell (cell_ext F.bags x5) ?_
    walk1
    refine item_list' (x := .ref (b + 1 : Nat)) (isList_ext B.out x5) (by decide) (by decide) (by rfl) ?_
    refine wpAny_pyIter_list (s := { s with heap := h5, toks := _ }) (items := vs1.toArray) ⟨_, x5 _ _ p1, rfl, _, rfl⟩ ?_
    dsimp only
    generalize hIt : h5.objs.size = it
    have hit2 : (N + 1 + 1 : Nat) < it := by rw [← hIt]; exact hn5.lt
    refine ⟨fun s₅ => ∃ (hc : Heap) (tk : Nat) (zs : List Value) (mC : Str → Option Value), s₅ = { s with heap := hc, toks := tk } ∧ hc.IsListIter N (b : Nat) (i + 1) ∧ Ext s.heap hc ∧ hc.Ns (N + 1 + 1 : Nat) mC ∧ hc.get? (N + 1 : Nat) = some (lst zs) ∧ RdAll (hid hc [N + 1]) zs ((waysOf (xs.take (i + 1)) ys).map wayD), fun R₂ hR₂ => ?_, fun s₅ hz => ?_⟩
    · have hsome : (h5.push { cls := .type "list_iterator", data := .fields #[.ref (b + 1 : Nat), .int 0 0] }).get? it = some { cls := .type "list_iterator", data := .fields #[.ref (b + 1 : Nat), .int 0 0] } := by rw [← hIt]; exact Heap.get?_push_size _ rfl
      refine (fun loop => c2_start1 loop (fun E'' => wpAny_pyIter_listiter (l := (b + 1 : Nat)) (i := 0) ⟨_, hsome, rfl, rfl⟩ loop)) ?_
      refine c2_inner (fun n s' => ∃ (k : Nat) (hc : Heap) (tk : Nat) (zs : List Value) (mC : Str → Option Value), s' = { s with heap := hc, toks := tk } ∧ k ≤ ys.length ∧ n = ys.length + 1 - k ∧ hc.IsListIter it (b + 1 : Nat) k ∧ hc.IsListIter N (b : Nat) (i + 1) ∧ Ext s.heap hc ∧ hc.Ns (N + 1 + 1 : Nat) mC ∧ mC (Str.ofString "x") = some (.int xs[i] tv) ∧ hc.get? (N + 1 : Nat) = some (lst zs) ∧
          RdAll (hid hc [N + 1]) zs ((waysOf (xs.take i) ys ++ (ys.take k).map fun y => (xs[i], y)).map wayD)) ?_ (ys.length + 1)
        ⟨0, _, _, zs, _, rfl, Nat.zero_le _, rfl, ⟨_, hsome, rfl, rfl⟩, let ⟨o, a, r⟩ := hit5; ⟨o, Heap.get?_push_of_some _ a, r⟩, x5.trans (Ext.push _ _), hn5.push _, by simp, Heap.get?_push_of_some _ hD5, by simpa using hr5.ext (hid_ext (Ext.push _ _))⟩
      clear hsome hn5 hit5 hD5 hr5 x5 hIt hv2
      rintro n s' E'' ⟨k, hc, tk, zs, mC, rfl, hk, rfl, hit, hit1, hx, hns, hmx, hD, hr⟩
      have hzl : zs.length ≤ 200 := by
        have h1 := hr.length
        rw [List.length_map, List.length_append, ways_len, List.length_map, List.length_take, List.length_take] at h1
        have h2 : min i xs.length * ys.length ≤ 11 * 11 := Nat.mul_le_mul (by omega) (by omega)
        omega
      by_cases hlt2 : k < ys.length
      · obtain ⟨ty, hy2⟩ := i1.get k ys[k] (List.getElem?_eq_getElem hlt2)
        refine wpAny_pyNext_list_item hit (items := vs1.toArray) ⟨_, hx _ _ p1, rfl, _, rfl⟩ (x := .int ys[k] ty) (by simpa using hy2) (fun h4 hit4 hs4 => ?_)
        dsimp only at hs4 ⊢
        refine wpAny_assign_Name (wpAny_storeName_local (lookup_relabel_local (by rfl)) (hns.sameBut hs4 (ad (by omega))) (fun h5 hn5 hs5 => ?_) (by rfl))
        dsimp only
        replace hs5 : Heap.SameBut (N + 1 + 1 : Nat) h4 h5 := hs5
        replace hn5 : h5.Ns (N + 1 + 1 : Nat) (fun x => if x = Str.ofString "y" then some (Value.int ys[k] ty) else mC x) := hn5
        have x5 : Ext s.heap h5 := fun c o q => hs5.extBut c o (Nat.ne_of_lt (Nat.lt_of_lt_of_le (old c o q) (by omega))) (hs4.extBut c o (Nat.ne_of_lt (Nat.lt_trans (Nat.lt_of_lt_of_le (old c o q) (by omega)) hit2)) (hx c o q))
        have hit5 : h5.IsListIter it (b + 1 : Nat) (k + 1) := hit4.extBut hs5.extBut (ad (by omega))
        have hit15 : h5.IsListIter N (b : Nat) (i + 1) := (hit1.extBut hs4.extBut (ad (by omega))).extBut hs5.extBut (ad (by omega))
        have hD5 : h5.get? (N + 1 : Nat) = some (lst zs) := hs5.extBut _ _ (ad (by omega)) (hs4.extBut _ _ (ad (by omega)) hD)
        have sk5 : SK hc h5 := by
          obtain ⟨oI, a1, _, a3⟩ := hit
          exact (SK.of_but hs4 a1 (fun xs n q => by rw [a3] at q; cases q)).trans (SK.of_ns hs5 (hns.sameBut hs4 (ad (by omega))))
        have hr5 := hr.sk (skd_sk (D := (N + 1 : Nat)) sk5) (ways_lay _).1
        clear hs5 hs4 hit4 hr hD hns hx hit sk5 hit1
        walk1
        walk1
        refine ce_local hn5 (v := .int xs[i] tv) (by with_unfolding_all exact hmx) ?_
        walk1
        refine ce_local hn5 (v := .int ys[k] ty) (by simp) ?_
        walk1
        refine wpAny_newList ?_
        dsimp only
        generalize ha : h5.objs.size = a
        have hDa : (N + 1 : Nat) ≠ a := by rw [← ha]; exact Nat.ne_of_lt (Heap.lt_size hD5)
        refine append_at (Heap.get?_push_of_some _ hD5) (fun h6 hs6 hD6 => ?_) (by rw [List.size_toArray]; exact szl (by omega))
        dsimp only at hs6 hD6 ⊢
        have p6 : h6.get? a = some { cls := .type "list", data := .seq [Value.int xs[i] tv, Value.int ys[k] ty].toArray } := hs6.extBut _ _ (Ne.symm hDa) (by rw [← ha]; exact Heap.get?_push_size _ rfl)
        have k6 : ∀ (c : Addr) (o : Obj), c ≠ (N + 1 : Nat) → h5.get? c = some o → h6.get? c = some o := fun c o n q => hs6.extBut c o n (Heap.get?_push_of_some _ q)
        refine ⟨ys.length + 1 - (k + 1), by omega, k + 1, h6, _, zs ++ [.ref a], _, rfl, hlt2, rfl, hit5.at (fun o q => k6 _ _ (ad (by omega)) q), hit15.at (fun o q => k6 _ _ (ad (by omega)) q), fun c o q => k6 c o (Nat.ne_of_lt (Nat.lt_of_lt_of_le (old c o q) (by omega))) (x5 c o q), hn5.at' (fun o q => k6 _ _ (ad (by omega)) q), by with_unfolding_all exact hmx, ?_, ?_⟩
        · rw [hD6]; congr 1; exact LCg.lst_snoc zs _
        · rw [show ys.take (k + 1) = ys.take k ++ [ys[k]] by simp, List.map_append (l₁ := ys.take k), ← List.append_assoc, List.map_append]
          refine (hr5.sk (skd fun c o n q _ => k6 c o n q) (ways_lay _).1).append (.cons ?_ (.nil _))
          exact Rd.of_list ⟨_, hid_get p6 (by simpa using Ne.symm hDa), rfl, _, rfl⟩ (.cons (Rd.int _ _ _) (.cons (Rd.int _ _ _) (.nil _)))
      · obtain rfl : k = ys.length := by omega
        refine pyNext_end (.inl hh) hit (items := vs1.toArray) ⟨_, hx _ _ p1, rfl, _, rfl⟩ (by simp; omega) (fun e he => ?_) (fun h4 hx4 => ?_)
        · have he2 : A.handled = _ := he
          rw [hh] at he2; cases he2
        · dsimp only at hx4 ⊢
          refine hR₂ _ ⟨h4, tk, zs, mC, rfl, hit1.extBut hx4 (ad (by omega)), fun c o q => hx4 c o (Nat.ne_of_lt (Nat.lt_trans (Nat.lt_of_lt_of_le (old c o q) (by omega)) hit2)) (hx c o q), hns.extBut hx4 (ad (by omega)), hx4 _ _ (ad (by omega)) hD, ?_⟩
          rw [show xs.take (i + 1) = xs.take i ++ [xs[i]] by simp, ways_snoc]
          rw [List.take_length] at hr
          obtain ⟨oI, a1, _, a3⟩ := hit
          exact hr.sk (skd fun c o n q q2 => hx4 c o (fun r => by rw [r, a1] at q; cases q; obtain ⟨_, _, q2⟩ := q2; rw [a3] at q2; cases q2) q) (ways_lay _).1
    · obtain ⟨hc, tk, zs, mC, rfl, q⟩ := hz
      exact ⟨xs.length + 1 - (i + 1), by omega, i + 1, hc, tk, zs, mC, rfl, hlt, rfl, q⟩
  · obtain rfl : i = xs.length := by omega
    refine pyNext_end (.inl hh) hit (items := vs0.toArray) ⟨_, hx _ _ p0, rfl, _, rfl⟩ (by simp; omega) (fun e he => ?_) (fun h4 hx4 => ?_)
    · have he2 : A.handled = _ := he
      rw [hh] at he2; cases he2
    · dsimp only at hx4 ⊢
      show wpAny _ A (assign (.Name (Str.ofString "ways") _) (lawEnv L f cd) (.ref (N + 1 : Nat))) _ _ _
      have x4 : Ext s.heap h4 := fun c o q => hx4 c o (Nat.ne_of_lt (old c o q)) (hx c o q)
      have hLN : (L : Nat) + 4 < N := by rw [← hN]; exact F.room
      refine wpAny_assign_Name (st_local (F.ext x4) (fun h5 F5 g5 => ?_))
      dsimp only at g5 ⊢
      have n5 : h5.Ns (N + 1 + 1 : Nat) mC := (hns.extBut hx4 (ad (by omega))).at' (fun o q => g5 _ _ (Nat.ne_of_gt (Nat.lt_of_le_of_lt (Nat.le_add_right _ _) (Nat.lt_trans hLN (by omega)))) q)
      refine ⟨mC, n5, fun h6 hs6 => ?_⟩
      have hD6 : h6.get? (N + 1 : Nat) = some (lst zs) := hs6.extBut _ _ (ad (by omega)) (g5 _ _ (Nat.ne_of_gt (Nat.lt_of_le_of_lt (Nat.le_add_right _ _) (Nat.lt_trans hLN (by omega)))) (hx4 _ _ (ad (by omega)) hD))
      obtain ⟨oI, a1, _, a3⟩ := hit
      have sk6 : SK (hid hc [N + 1]) (hid h6 [N + 1]) := (skd fun c o n q q2 => hx4 c o (fun r => by rw [r, a1] at q; cases q; obtain ⟨_, _, q2⟩ := q2; rw [a3] at q2; cases q2) q).trans ((skd_sk (g5.sk (F.ext x4).ns)).trans (skd_sk (SK.of_ns hs6 n5)))
      refine hK (N + 1 : Nat) h6 _ (F5.but (Nat.lt_trans hLN (by omega)) hs6.extBut) (fun c o n q => hs6.extBut c o (Nat.ne_of_lt (Nat.lt_of_lt_of_le (old c o q) (by omega))) (g5 c o n (x4 c o q))) ?_
      rw [List.take_length] at hr
      exact Rd.of_list ⟨_, hD6, rfl, _, rfl⟩ ((hr.sk sk6 (ways_lay _).1).ext hid_sub)
end
end Mine

namespace Mine
theorem rd_steady (ds : List PyData) : Steady (fun X i ys h => RdAll (hid h X) ys (ds.take i)) := fun _ _ _ _ _ x r => r.ext (hid_but x)
/-- an element of a comprehension: what it reads -/
def Elt (prog : Program) (w : World) (A : Around) (env : Env) (elt : Expr) (x : Str) (scope : Scope) (cl : List (Str × Addr)) (s : Shared) (g : Heap) (P : Nat → Value → Prop) (ds : List PyData) : Prop :=
  ∀ i v d X C h tk m₂ (E' : Value → Shared → Prop) (Q' : Value → Shared → Prop), ds[i]? = some d → P i v → h.Ns C m₂ → m₂ x = some v → Ext g h → (∀ z ∈ X, g.get? z = none ∧ ∃ o, h.get? z = some o) →
    (∀ y h'' tk'', Ext h h'' → Rd (hid h'' X) y d → Q' y { s with heap := h'', toks := tk'' }) → wpAny (model prog w) A (eval elt (compEnvC scope cl C env)) Q' E' { s with heap := h, toks := tk }
theorem take_get {α : Type} {l : List α} {i : Nat} {x : α} (h : l[i]? = some x) : l.take (i + 1) = l.take i ++ [x] := by rw [List.take_add_one, h]; rfl
theorem Elt.turn {prog : Program} {w : World} {A : Around} {env : Env} {elt : Expr} {x : Str} {scope : Scope} {cl : List (Str × Addr)} {s : Shared} {g : Heap} {P : Nat → Value → Prop} {ds : List PyData} {n : Nat} (hn : n = ds.length)
    (T : Elt prog w A env elt x scope cl s g P ds) : Turn prog w A env elt x [] scope cl s g n P (fun X i ys h => RdAll (hid h X) ys (ds.take i)) := by
  intro i v ys I C D h tk m₂ E' hi hP hns hm hx hX hr
  obtain ⟨d, hd⟩ : ∃ d, ds[i]? = some d := ⟨ds[i]'(hn ▸ hi), List.getElem?_eq_getElem (hn ▸ hi)⟩
  refine wpAny_tests_nil ⟨h, tk, rfl, Ext.rfl _, ?_⟩
  rw [if_pos rfl]
  refine T i v d [I, C, D] C h tk m₂ E' _ hd hP hns hm hx hX (fun y h'' tk'' x'' r'' => ⟨h'', tk'', rfl, x'', ?_⟩)
  show RdAll (hid h'' [I, C, D]) (ys ++ [y]) (ds.take (i + 1))
  rw [take_get hd]
  exact (hr.ext (hid_ext x'')).append (.cons r'' (.nil _))
section
variable {prog : Program} {w : World} {A : Around} {E : Value → Shared → Prop} {s : Shared} {base : Heap} {L f : Addr} {cd : Value} {m : Str → Option Value} {ca ct cr cb : Option Value}
theorem asg {elt iter : Expr} {x : Str} {y : String} {px py : Pos} {scope : Scope} {cl : List (Str × Addr)} {pos spos : Pos} {Q : Flow → Shared → Prop} (hh : A.handled = none) (F : LF base L m ca ct cr cb s.heap)
    (h : wpAny (model prog w) A (eval iter (lawEnv L f cd)) (fun xv s₁ => ∃ n P ds, IsSrc s₁.heap n P xv ∧ n ≤ 1000 ∧ n = ds.length ∧ PyData.canLayAll0 ds = true ∧ Ext s.heap s₁.heap ∧ (∃ tk, s₁ = { s with heap := s₁.heap, toks := tk }) ∧
      Elt prog w A (lawEnv L f cd) elt x scope cl s s₁.heap P ds ∧
      (∀ D h' tk, LF base L (put m y (.ref D)) ca ct cr cb h' → Go L s.heap h' → Rd h' (.ref D) (.list ds) → Q .next { s with heap := h', toks := tk })) E s)
    (hsw : swapsWith (.ListComp elt [⟨.Name x px, iter, [], 0⟩] scope pos) (some (.Name (Str.ofString y) py)) spos.line (lawEnv L f cd) = pure true := by rfl)
    (hclos : closureFor scope (lawEnv L f cd) = pure cl := by rfl) (hcell : ∀ z ∈ scope.names, z.2 ≠ .cell := by decide +kernel) (hkind : scope.kind = .function := by rfl)
    (hnames : ∀ z ∈ scope.names, z.2 = .local → scope.names.lookup z.1 = some .local := by decide +kernel) (hx : scope.names.lookup x = some .local := by rfl)
    (hy : (lawEnv L f cd).kindOf (Str.ofString y) = some .local := by rfl)
    (hs : ∀ x, foldedSetIterable iter (lawEnv L f cd) x = pure x := by intro _; rfl) :
    wpAny (model prog w) A (exec (.Assign [.Name (Str.ofString y) py] (.ListComp elt [⟨.Name x px, iter, [], 0⟩] scope pos) spos) (lawEnv L f cd)) Q E s := by
  refine lc_assign (m := m) hh hsw hclos hcell hkind hnames hx hy (by rfl) (wpAny_mono h (fun xv s₁ h₁ => ?_) fun _ _ e => e) hs
  obtain ⟨n, P, ds, src, hn, hl, hlay, hx1, ⟨tk1, e1⟩, T, hQ⟩ := h₁
  have T' : Elt prog w A (lawEnv L f cd) elt x scope cl s₁ s₁.heap P ds := by rw [e1]; exact T
  refine ⟨n, P, _, src, szl hn, F.ns.keeps hx1, rd_steady ds, fun _ _ _ _ => by simpa using RdAll.nil _, T'.turn hl, ?_⟩
  intro D h h' tk ys X xh hD hget hlen hInv sk hns hk
  have hQ' := hQ D h' tk
  rw [e1]
  refine hQ' (F.go (fun b o n q => hk b o n (hx1 b o q)) hns) (fun b o n q => hk b o n (hx1 b o q)) ?_
  rw [hl, List.take_length] at hInv
  have hr : Rd h (.ref D) (.list ds) := Rd.of_list ⟨_, hget, rfl, _, rfl⟩ (hInv.ext hid_sub)
  exact hr.sk sk hlay
theorem cmpl {elt iter : Expr} {x : Str} {px : Pos} {scope : Scope} {cl : List (Str × Addr)} {pos : Pos} {Q : Value → Shared → Prop} (hh : A.handled = none)
    (h : wpAny (model prog w) A (eval iter (lawEnv L f cd)) (fun xv s₁ => ∃ n P ds, IsSrc s₁.heap n P xv ∧ n ≤ 1000 ∧ n = ds.length ∧ Ext s.heap s₁.heap ∧ (∃ tk, s₁ = { s with heap := s₁.heap, toks := tk }) ∧
      Elt prog w A (lawEnv L f cd) elt x scope cl s s₁.heap P ds ∧
      (∀ D h' tk, Ext s.heap h' → Rd h' (.ref D) (.list ds) → Q (.ref D) { s with heap := h', toks := tk })) E s)
    (hclos : closureFor scope (lawEnv L f cd) = pure cl := by rfl) (hcell : ∀ z ∈ scope.names, z.2 ≠ .cell := by decide +kernel) (hkind : scope.kind = .function := by rfl)
    (hnames : ∀ z ∈ scope.names, z.2 = .local → scope.names.lookup z.1 = some .local := by decide +kernel) (hx : scope.names.lookup x = some .local := by rfl)
    (hs : ∀ x, foldedSetIterable iter (lawEnv L f cd) x = pure x := by intro _; rfl) :
    wpAny (model prog w) A (eval (.ListComp elt [⟨.Name x px, iter, [], 0⟩] scope pos) (lawEnv L f cd)) Q E s := by
  refine lc_eval hh hclos hcell hkind hnames hx (wpAny_mono h (fun xv s₁ h₁ => ?_) fun _ _ e => e) hs
  obtain ⟨n, P, ds, src, hn, hl, hx1, ⟨tk1, e1⟩, T, hQ⟩ := h₁
  have T' : Elt prog w A (lawEnv L f cd) elt x scope cl s₁ s₁.heap P ds := by rw [e1]; exact T
  refine ⟨n, P, _, src, szl hn, rd_steady ds, fun _ _ _ _ => by simpa using RdAll.nil _, T'.turn hl, ?_⟩
  intro D h tk ys X xh hD hget hlen hInv
  rw [e1]
  refine hQ D h tk (hx1.trans xh) ?_
  rw [hl, List.take_length] at hInv
  exact Rd.of_list ⟨_, hget, rfl, _, rfl⟩ (hInv.ext hid_sub)
end
end Mine

namespace Mine
abbrev Ik (n : Int) : Ink := inkOf (kOf n) (iOf n)
abbrev rowD (n : Int) : PyData := (Ik n).row (aOf n) (bOf n)
def lefts (n : Int) (gs : List Nat) : List PyData := gs.map ((Ik n).left (aOf n) (bOf n))
def twG (n : Int) (xs ys : List Int) : List Nat := (waysOf xs ys).map fun p => goneOf [p.1, p.2] (aOf n + bOf n)
def onG (n : Int) (zs : List Int) : List Nat := zs.map fun z => goneOf [z] (aOf n + bOf n)
def stG (n : Int) : List Nat := (List.range (aOf n + bOf n + 2)).map fun c => min c (aOf n + bOf n)
theorem ik_ok (n : Int) : (Ik n).Ok := inkOf_ok _ _ (kOf_lt n) (iOf_lt n)
theorem row_lay' (n : Int) : (rowD n).canLay0 = true := (row_lay (ik_ok n) _ _).1
theorem lefts_lay (n : Int) : ∀ gs : List Nat, PyData.canLayAll0 (lefts n gs) = true ∧ PyData.depthAll (lefts n gs) ≤ 5
  | [] => by simp [lefts, PyData.canLayAll0, PyData.depthAll]
  | g :: gs => by
    have h1 := lefts_lay n gs
    have h2 := row_lay (ik_ok n) (aOf n - min g (aOf n)) (bOf n - (g - aOf n))
    unfold lefts at h1 ⊢
    simp only [List.map_cons, PyData.canLayAll0, PyData.depthAll, Ink.left]
    rw [h2.1, h1.1]
    refine ⟨rfl, ?_⟩
    have := h2.2
    have := h1.2
    exact Nat.max_le.mpr ⟨h2.2, h1.2⟩
theorem lefts_get {n : Int} {gs : List Nat} {i : Nat} {d : PyData} (h : (lefts n gs)[i]? = some d) : ∃ g, gs[i]? = some g ∧ d = (Ik n).left (aOf n) (bOf n) g := by
  unfold lefts at h
  rw [List.getElem?_map] at h
  cases q : gs[i]? with
  | none => rw [q] at h; cases h
  | some g => rw [q] at h; exact ⟨g, rfl, (Option.some.inj h).symm⟩
/-- what stands between the statements of the law -/
structure Lw (base : Heap) (L b : Nat) (n : Int) (rv : Value) (zs : List Int) (ta tt : Tok) (m : Str → Option Value) (h : Heap) : Prop where
  F : LF base L m (some (.int (aOf n : Nat) ta)) (some (.int (aOf n + bOf n : Nat) tt)) (some rv) (some (.ref (b + 3 : Nat))) h
  row : Rd h rv (rowD n)
  out : h.IsList (b + 3 : Nat) #[.ref (b : Nat), .ref (b + 1 : Nat), .ref (b + 2 : Nat)]
  bag : BagAt h (b + 2 : Nat) 11 zs
theorem Lw.go {base h h' : Heap} {L b : Nat} {n : Int} {rv : Value} {zs : List Int} {ta tt : Tok} {m m' : Str → Option Value} (W : Lw base L b n rv zs ta tt m h) (g : Go L h h') (hn : h'.Ns L m') : Lw base L b n rv zs ta tt m' h' :=
  have sk := g.sk W.F.ns
  ⟨W.F.go g hn, W.row.sk sk (row_lay' n), isList_sk sk W.out, let ⟨⟨k, ys, q1, q2⟩, q3⟩ := W.bag; ⟨⟨k, ys, sk _ _ q1 ⟨_, _, rfl⟩, q2⟩, q3⟩⟩
theorem Lw.ext {base h h' : Heap} {L b : Nat} {n : Int} {rv : Value} {zs : List Int} {ta tt : Tok} {m : Str → Option Value} (W : Lw base L b n rv zs ta tt m h) (x : Ext h h') : Lw base L b n rv zs ta tt m h' := W.go (Go.of_ext x) (W.F.ns.keeps x)
theorem Rd.go {base h h' : Heap} {L b : Nat} {n : Int} {rv : Value} {zs : List Int} {ta tt : Tok} {m : Str → Option Value} {v : Value} {d : PyData} (r : Rd h v d) (W : Lw base L b n rv zs ta tt m h) (g : Go L h h') (hl : d.canLay0 = true) : Rd h' v d := r.sk (g.sk W.F.ns) hl
theorem fresh_get {h h' : Heap} {X : List Addr} (hX : ∀ z ∈ X, h.get? z = none ∧ ∃ o, h'.get? z = some o) : (∀ z ∈ X, h.get? z = none) ∧ ∀ z ∈ X, ∃ o, h'.get? z = some o := ⟨fun z hz => (hX z hz).1, fun z hz => (hX z hz).2⟩
section
variable {prog : Program} {w : World} {A : Around} {E : Value → Shared → Prop} {s : Shared} {mg mb : Str → Option Value} {base : Heap} {L b : Nat} {f : Addr} {cd : Value} {n : Int} {rv : Value} {zs : List Int} {ta tt : Tok} {m : Str → Option Value}
theorem law_cuts {xs ys : List Int} {ws : Addr} {Q : Flow → Shared → Prop} (G : Gd mg mb base) (W : Lw base L b n rv zs ta tt m s.heap) (hw : m (Str.ofString "ways") = some (.ref ws)) (rw' : Rd s.heap (.ref ws) (.list ((waysOf xs ys).map wayD)))
    (hxl : xs.length ≤ 11) (hyl : ys.length ≤ 11) (hroom : A.depth + 10 < recursionLimit) (hh : A.handled = none) (hu : A.units + 200 < cLine)
    (hK : ∀ D h' tk, Lw base L b n rv zs ta tt (put m "cuts" (.ref D)) h' → Go L s.heap h' → Rd h' (.ref D) (.list (lefts n (twG n xs ys))) →
      wpAny (model prog w) A (execs ((bdOf (stOf 12)).drop 10) (lawEnv L f cd)) Q E { s with heap := h', toks := tk }) :
    wpAny (model prog w) A (execs ((bdOf (stOf 12)).drop 9) (lawEnv L f cd)) Q E s := by
  have e : bdOf (stOf 12) = bdOf (stOf 12) := rfl
  conv at e => rhs; whnf
  rw [e] at hK ⊢
  clear e
  dsimp only [List.drop] at hK ⊢
  refine wpAny_execs_cons (asg hh W.F ?_)
  refine ev_local W.F.ns hw ?_
  obtain ⟨_, vs, e, hl, ra⟩ := rw'.list_inv
  cases e
  have hlen : vs.size = (waysOf xs ys).length := by have := ra.length; simpa using this
  have hle : (waysOf xs ys).length ≤ 121 := by rw [ways_len]; exact Nat.mul_le_mul hxl hyl
  refine ⟨vs.size, _, lefts n (twG n xs ys), .list hl rfl rfl, by omega, by simp [lefts, twG, hlen], (lefts_lay n _).1, Ext.rfl _, ⟨_, rfl⟩, ?_, fun D h' tk F' g' r' => hK D h' tk (W.go g' F'.ns) g' r'⟩
  clear hK
  intro i v d X C h tk m₂ E' Q' hd hP hns hm hx hX hQ'
  obtain ⟨g, hg, rfl⟩ := lefts_get hd
  obtain ⟨p, hp, rfl⟩ : ∃ p, (waysOf xs ys)[i]? = some p ∧ g = goneOf [p.1, p.2] (aOf n + bOf n) := by
    unfold twG at hg
    rw [List.getElem?_map] at hg
    cases q : (waysOf xs ys)[i]? with
    | none => rw [q] at hg; cases hg
    | some p => rw [q] at hg; exact ⟨p, rfl, (Option.some.inj hg).symm⟩
  obtain ⟨d', hd', rd'⟩ := ra.get' (k := i) (by simpa using hP)
  rw [List.getElem?_map, hp] at hd'
  cases hd'
  obtain ⟨wa, wvs, rfl, wl, wr⟩ := rd'.list_inv
  obtain ⟨v1, l1, e1, r1, wr⟩ := wr.cons_inv
  obtain ⟨v2, l2, e2, r2, wr⟩ := wr.cons_inv
  have e3 := wr.nil_inv
  subst e3
  subst e2
  obtain ⟨t1, rfl⟩ := r1.int_inv
  obtain ⟨t2, rfl⟩ := r2.int_inv
  have ewv : wvs = #[.int p.1 t1, .int p.2 t2] := by rw [← Array.toList_inj]; exact e1
  subst ewv
  have Gh := G.ext (Ext.trans W.F.keep hx)
  obtain ⟨f1, hf1⟩ := Gh.fn 1 (by decide)
  have hf1n : mg (Str.ofString "_strip_padding") = some (.ref f1) := hf1.choose_spec.choose_spec.choose_spec.choose_spec.1
  have hX1 : ∀ z ∈ X, ∃ o, h.get? z = some o := (fresh_get hX).2
  have rr : Rd (hid h X) rv (rowD n) := W.row.ext (hid_new hx (fresh_get hX).1)
  have hwl : h.IsList wa #[.int p.1 t1, .int p.2 t2] := isList_ext wl hx
  clear hX hd hg hP rd' wl
  walk1
  refine ev_fn Gh hf1n ?_
  refine cw_fn hf1 ?_
  iterate 2 walk1
  refine ev_fn Gh hf1n ?_
  refine cw_fn hf1 ?_
  iterate 1 walk1
  refine ce_cell (cell_ext W.F.row hx) ?_
  iterate 2 walk1
  refine ce_local hns hm ?_
  iterate 1 walk1
  refine item_list' hwl (by decide) (by decide) (by rfl) ?_
  iterate 1 walk1
  refine ⟨Ext.rfl _, ?_⟩
  have ha := aOf_le n
  have hb := bOf_le n
  refine strip_call Gh hf1 (ik_ok n) (by omega) (by omega) hX1 rr (by omega) (by omega) (fun y1 h1 tk1 x1 q1 => ?_)
  iterate 2 walk1
  refine ce_local (hns.keeps x1) hm ?_
  iterate 1 walk1
  refine item_list' (isList_ext hwl x1) (by decide) (by decide) (by rfl) ?_
  iterate 1 walk1
  refine ⟨x1, ?_⟩
  have hX2 : ∀ z ∈ X, ∃ o, h1.get? z = some o := fun z hz => let ⟨o, q⟩ := hX1 z hz; ⟨o, x1 _ _ q⟩
  refine strip_call (Gh.ext x1) (hf1.extF (ExtF.of_ext (fs := []) x1)) (ik_ok n) (by omega) (by omega) hX2 q1 (by omega) (by omega) (fun y2 h2 tk2 x2 q2 => ?_)
  have e5 := strip2 p.1 p.2 (aOf n) (bOf n)
  rw [e5.1, e5.2] at q2
  exact hQ' y2 h2 tk2 (Ext.trans x1 x2) q2
end
end Mine

namespace Mine
theorem gone_nat (c t : Nat) : goneOf [(c : Int)] t = min c t := by
  unfold goneOf
  rw [if_neg (by simp)]
  simp
section
variable {prog : Program} {w : World} {A : Around} {E : Value → Shared → Prop} {s : Shared} {mg mb : Str → Option Value} {base : Heap} {L b : Nat} {f : Addr} {cd : Value} {n : Int} {rv : Value} {zs : List Int} {ta tt : Tok} {m : Str → Option Value}
theorem law_ones {Q : Flow → Shared → Prop} (G : Gd mg mb base) (W : Lw base L b n rv zs ta tt m s.heap)
    (hroom : A.depth + 10 < recursionLimit) (hh : A.handled = none) (hu : A.units + 200 < cLine)
    (hK : ∀ D h' tk, Lw base L b n rv zs ta tt (put m "ones" (.ref D)) h' → Go L s.heap h' → Rd h' (.ref D) (.list (lefts n (onG n zs))) →
      wpAny (model prog w) A (execs ((bdOf (stOf 12)).drop 11) (lawEnv L f cd)) Q E { s with heap := h', toks := tk }) :
    wpAny (model prog w) A (execs ((bdOf (stOf 12)).drop 10) (lawEnv L f cd)) Q E s := by
  have e : bdOf (stOf 12) = bdOf (stOf 12) := rfl
  conv at e => rhs; whnf
  rw [e] at hK ⊢
  clear e
  dsimp only [List.drop] at hK ⊢
  refine wpAny_execs_cons (asg hh W.F ?_)
  walk1
  refine ev_cell W.F.bags ?_
  walk1
  refine item_list' (x := .ref (b + 2 : Nat)) W.out (by decide) (by decide) (by rfl) ?_
  obtain ⟨⟨k, vs, p1, p2⟩, _, p4, _⟩ := W.bag
  have hlen : vs.length = zs.length := p2.length
  refine ⟨vs.toArray.size, _, lefts n (onG n zs), .list ⟨_, p1, rfl, _, rfl⟩ rfl rfl, by simp; omega, by simp [lefts, onG, hlen], (lefts_lay n _).1, Ext.rfl _, ⟨_, rfl⟩, ?_, fun D h' tk F' g' r' => hK D h' tk (W.go g' F'.ns) g' r'⟩
  clear hK
  intro i v d X C h tk m₂ E' Q' hd hP hns hm hx hX hQ'
  obtain ⟨g, hg, rfl⟩ := lefts_get hd
  obtain ⟨z, hz, rfl⟩ : ∃ z, zs[i]? = some z ∧ g = goneOf [z] (aOf n + bOf n) := by
    unfold onG at hg
    rw [List.getElem?_map] at hg
    cases q : zs[i]? with
    | none => rw [q] at hg; cases hg
    | some p => rw [q] at hg; exact ⟨p, rfl, (Option.some.inj hg).symm⟩
  obtain ⟨t1, hv1⟩ := p2.get i z hz
  have hv : v = .int z t1 := by
    have : vs[i]? = some v := by simpa using hP
    rw [hv1] at this; exact (Option.some.inj this).symm
  subst hv
  have Gh := G.ext (Ext.trans W.F.keep hx)
  obtain ⟨f1, hf1⟩ := Gh.fn 1 (by decide)
  have hf1n : mg (Str.ofString "_strip_padding") = some (.ref f1) := hf1.choose_spec.choose_spec.choose_spec.choose_spec.1
  have hX1 : ∀ z ∈ X, ∃ o, h.get? z = some o := (fresh_get hX).2
  have rr : Rd (hid h X) rv (rowD n) := W.row.ext (hid_new hx (fresh_get hX).1)
  clear hX hd hg hP
  walk1
  refine ev_fn Gh hf1n ?_
  refine cw_fn hf1 ?_
  iterate 1 walk1
  refine ce_cell (cell_ext W.F.row hx) ?_
  iterate 1 walk1
  refine ce_local hns hm ?_
  iterate 1 walk1
  refine ⟨Ext.rfl _, ?_⟩
  have ha := aOf_le n
  have hb := bOf_le n
  refine strip_call Gh hf1 (ik_ok n) (by omega) (by omega) hX1 rr (by omega) (by omega) (fun y1 h1 tk1 x1 q1 => ?_)
  have e5 := strip1 z (aOf n) (bOf n)
  rw [e5.1, e5.2] at q1
  exact hQ' y1 h1 tk1 x1 q1
theorem law_steps {Q : Flow → Shared → Prop} (G : Gd mg mb base) (W : Lw base L b n rv zs ta tt m s.heap)
    (hroom : A.depth + 10 < recursionLimit) (hh : A.handled = none) (hu : A.units + 200 < cLine)
    (hK : ∀ D h' tk, Lw base L b n rv zs ta tt (put m "steps" (.ref D)) h' → Go L s.heap h' → Rd h' (.ref D) (.list (lefts n (stG n))) →
      wpAny (model prog w) A (execs ((bdOf (stOf 12)).drop 12) (lawEnv L f cd)) Q E { s with heap := h', toks := tk }) :
    wpAny (model prog w) A (execs ((bdOf (stOf 12)).drop 11) (lawEnv L f cd)) Q E s := by
  have e : bdOf (stOf 12) = bdOf (stOf 12) := rfl
  conv at e => rhs; whnf
  rw [e] at hK ⊢
  clear e
  dsimp only [List.drop] at hK ⊢
  have ha := aOf_le n
  have hb := bOf_le n
  refine wpAny_execs_cons (asg hh W.F ?_)
  walk1
  refine ev_bt (v := .type "range") (G.ext W.F.keep) (by decide +kernel) (by decide +kernel) (by decide +kernel) ?_
  iterate 3 walk1
  refine ev_cell W.F.total ?_
  iterate 3 walk1
  rw [show ((aOf n + bOf n : Nat) : Int) + 2 = ((aOf n + bOf n + 2 : Nat) : Int) from by omega]
  refine call_range_1 ?_
  dsimp only
  refine ⟨aOf n + bOf n + 2, _, lefts n (stG n), .range (IsRange.new ..) (small_one (by omega) (by omega) (by omega) (by omega)) (by rw [rangeSize_one]; split <;> omega) rfl, by omega, by simp [lefts, stG], (lefts_lay n _).1, Ext.push _ _, ⟨_, rfl⟩, ?_, fun D h' tk F' g' r' => hK D h' tk (W.go g' F'.ns) g' r'⟩
  clear hK
  intro i v d X C h tk m₂ E' Q' hd hP hns hm hx hX hQ'
  obtain ⟨t1, rfl⟩ := hP
  rw [Int.zero_add] at hm
  obtain ⟨g, hg, rfl⟩ := lefts_get hd
  obtain rfl : g = goneOf [(i : Int)] (aOf n + bOf n) := by
    rw [gone_nat]
    unfold stG at hg
    rw [List.getElem?_map] at hg
    rcases Nat.lt_or_ge i (aOf n + bOf n + 2) with q | q
    · rw [List.getElem?_range q] at hg; exact (Option.some.inj hg).symm
    · rw [List.getElem?_eq_none (by simpa using q)] at hg; cases hg
  have hx0 : Ext s.heap h := Ext.trans (Ext.push _ _) hx
  have Gh := G.ext (Ext.trans W.F.keep hx0)
  obtain ⟨f1, hf1⟩ := Gh.fn 1 (by decide)
  have hf1n : mg (Str.ofString "_strip_padding") = some (.ref f1) := hf1.choose_spec.choose_spec.choose_spec.choose_spec.1
  have hX1 : ∀ z ∈ X, ∃ o, h.get? z = some o := (fresh_get hX).2
  have rr : Rd (hid h X) rv (rowD n) := W.row.ext (hid_new hx0 (fun z hz => none_ext (Ext.push _ _) ((fresh_get hX).1 z hz)))
  clear hX hd hg
  walk1
  refine ev_fn Gh hf1n ?_
  refine cw_fn hf1 ?_
  iterate 1 walk1
  refine ce_cell (cell_ext W.F.row hx0) ?_
  iterate 1 walk1
  refine ce_local hns hm ?_
  iterate 1 walk1
  refine ⟨Ext.rfl _, ?_⟩
  refine strip_call Gh hf1 (ik_ok n) (by omega) (by omega) hX1 rr (by omega) (by omega) (fun y1 h1 tk1 x1 q1 => ?_)
  have e5 := strip1 i (aOf n) (bOf n)
  rw [e5.1, e5.2] at q1
  exact hQ' y1 h1 tk1 x1 q1
end
end Mine

namespace Mine
def natsD (gs : List Nat) : List PyData := (gs.map fun g : Nat => (g : Int)).map PyData.int
theorem natsD_lay (gs : List Nat) : PyData.canLayAll0 (natsD gs) = true ∧ PyData.depthAll (natsD gs) ≤ 1 := ints_lay _
theorem natsD_get {gs : List Nat} {i : Nat} {d : PyData} (h : (natsD gs)[i]? = some d) : ∃ g, gs[i]? = some g ∧ d = .int (g : Nat) := by
  unfold natsD at h
  rw [List.getElem?_map, List.getElem?_map] at h
  cases q : gs[i]? with
  | none => rw [q] at h; cases h
  | some g => rw [q] at h; exact ⟨g, rfl, (Option.some.inj h).symm⟩
theorem ways_mem {xs ys : List Int} {p : Int × Int} (h : p ∈ waysOf xs ys) : p.1 ∈ xs ∧ p.2 ∈ ys := by
  unfold waysOf at h
  obtain ⟨x, hx, hp⟩ := List.mem_flatMap.mp h
  obtain ⟨y, hy, rfl⟩ := List.mem_map.mp hp
  exact ⟨hx, hy⟩
section
variable {prog : Program} {w : World} {A : Around} {E : Value → Shared → Prop} {s : Shared} {mg mb : Str → Option Value} {base : Heap} {L b : Nat} {f : Addr} {cd : Value} {n : Int} {rv : Value} {zs : List Int} {ta tt : Tok} {m : Str → Option Value}
theorem law_twice {xs ys : List Int} {ws : Addr} {Q : Flow → Shared → Prop} (G : Gd mg mb base) (W : Lw base L b n rv zs ta tt m s.heap) (hw : m (Str.ofString "ways") = some (.ref ws)) (rw' : Rd s.heap (.ref ws) (.list ((waysOf xs ys).map wayD)))
    (hxl : xs.length ≤ 11 ∧ ∀ x ∈ xs, -100 ≤ x ∧ x ≤ 100) (hyl : ys.length ≤ 11 ∧ ∀ x ∈ ys, -100 ≤ x ∧ x ≤ 100) (hroom : A.depth + 10 < recursionLimit) (hh : A.handled = none) (hu : A.units + 200 < cLine)
    (hK : ∀ D h' tk, Lw base L b n rv zs ta tt (put m "twice" (.ref D)) h' → Go L s.heap h' → Rd h' (.ref D) (.list (natsD (twG n xs ys))) →
      wpAny (model prog w) A (execs ((bdOf (stOf 12)).drop 13) (lawEnv L f cd)) Q E { s with heap := h', toks := tk }) :
    wpAny (model prog w) A (execs ((bdOf (stOf 12)).drop 12) (lawEnv L f cd)) Q E s := by
  have e : bdOf (stOf 12) = bdOf (stOf 12) := rfl
  conv at e => rhs; whnf
  rw [e] at hK ⊢
  clear e
  dsimp only [List.drop] at hK ⊢
  refine wpAny_execs_cons (asg hh W.F ?_)
  refine ev_local W.F.ns hw ?_
  obtain ⟨_, vs, e, hl, ra⟩ := rw'.list_inv
  cases e
  have hlen : vs.size = (waysOf xs ys).length := by have := ra.length; simpa using this
  have hle : (waysOf xs ys).length ≤ 121 := by rw [ways_len]; exact Nat.mul_le_mul hxl.1 hyl.1
  refine ⟨vs.size, _, natsD (twG n xs ys), .list hl rfl rfl, by omega, by simp [natsD, twG, hlen], (natsD_lay _).1, Ext.rfl _, ⟨_, rfl⟩, ?_, fun D h' tk F' g' r' => hK D h' tk (W.go g' F'.ns) g' r'⟩
  clear hK
  intro i v d X C h tk m₂ E' Q' hd hP hns hm hx hX hQ'
  obtain ⟨g, hg, rfl⟩ := natsD_get hd
  obtain ⟨p, hp, rfl⟩ : ∃ p, (waysOf xs ys)[i]? = some p ∧ g = goneOf [p.1, p.2] (aOf n + bOf n) := by
    unfold twG at hg
    rw [List.getElem?_map] at hg
    cases q : (waysOf xs ys)[i]? with
    | none => rw [q] at hg; cases hg
    | some p => rw [q] at hg; exact ⟨p, rfl, (Option.some.inj hg).symm⟩
  obtain ⟨d', hd', rd'⟩ := ra.get' (k := i) (by simpa using hP)
  rw [List.getElem?_map, hp] at hd'
  cases hd'
  obtain ⟨wa, wvs, rfl, wl, wr⟩ := rd'.list_inv
  obtain ⟨v1, l1, e1, r1, wr⟩ := wr.cons_inv
  obtain ⟨v2, l2, e2, r2, wr⟩ := wr.cons_inv
  have e3 := wr.nil_inv
  subst e3
  subst e2
  obtain ⟨t1, rfl⟩ := r1.int_inv
  obtain ⟨t2, rfl⟩ := r2.int_inv
  have ewv : wvs = [.int p.1 t1, .int p.2 t2].toArray := by rw [← Array.toList_inj]; exact e1
  subst ewv
  have hpm := ways_mem (List.mem_of_getElem? hp)
  have Gh := G.ext (Ext.trans W.F.keep hx)
  obtain ⟨f1, hf1⟩ := Gh.fn 8 (by decide)
  have hf1n : mg (Str.ofString "_law_gone") = some (.ref f1) := hf1.choose_spec.choose_spec.choose_spec.choose_spec.1
  have hwl : h.IsList wa [.int p.1 t1, .int p.2 t2].toArray := isList_ext wl hx
  clear hX hd hg hP rd' wl
  walk1
  refine ev_fn Gh hf1n ?_
  refine cw_fn hf1 ?_
  iterate 1 walk1
  refine ce_local hns hm ?_
  iterate 1 walk1
  refine ce_cell (cell_ext W.F.total hx) ?_
  iterate 1 walk1
  refine ⟨Ext.rfl _, ?_⟩
  refine gone_call (ns := [p.1, p.2]) Gh hf1 hwl (.cons _ _ (.cons _ _ .nil)) (by simp) (fun x hx => ?_) (by simp) (by omega) hh (fun h' tk' t' x' => hQ' _ h' tk' x' (Rd.int _ _ _))
  simp only [List.mem_cons, List.not_mem_nil, or_false] at hx
  rcases hx with rfl | rfl
  · exact hxl.2 _ hpm.1
  · exact hyl.2 _ hpm.2
theorem law_once {Q : Flow → Shared → Prop} (G : Gd mg mb base) (W : Lw base L b n rv zs ta tt m s.heap)
    (hroom : A.depth + 10 < recursionLimit) (hh : A.handled = none) (hu : A.units + 200 < cLine)
    (hK : ∀ D h' tk, Lw base L b n rv zs ta tt (put m "once" (.ref D)) h' → Go L s.heap h' → Rd h' (.ref D) (.list (natsD (onG n zs))) →
      wpAny (model prog w) A (execs ((bdOf (stOf 12)).drop 14) (lawEnv L f cd)) Q E { s with heap := h', toks := tk }) :
    wpAny (model prog w) A (execs ((bdOf (stOf 12)).drop 13) (lawEnv L f cd)) Q E s := by
  have e : bdOf (stOf 12) = bdOf (stOf 12) := rfl
  conv at e => rhs; whnf
  rw [e] at hK ⊢
  clear e
  dsimp only [List.drop] at hK ⊢
  refine wpAny_execs_cons (asg hh W.F ?_)
  walk1
  refine ev_cell W.F.bags ?_
  walk1
  refine item_list' (x := .ref (b + 2 : Nat)) W.out (by decide) (by decide) (by rfl) ?_
  obtain ⟨⟨k, vs, p1, p2⟩, _, p4, p5⟩ := W.bag
  have hlen : vs.length = zs.length := p2.length
  refine ⟨vs.toArray.size, _, natsD (onG n zs), .list ⟨_, p1, rfl, _, rfl⟩ rfl rfl, by simp; omega, by simp [natsD, onG, hlen], (natsD_lay _).1, Ext.rfl _, ⟨_, rfl⟩, ?_, fun D h' tk F' g' r' => hK D h' tk (W.go g' F'.ns) g' r'⟩
  clear hK
  intro i v d X C h tk m₂ E' Q' hd hP hns hm hx hX hQ'
  obtain ⟨g, hg, rfl⟩ := natsD_get hd
  obtain ⟨z, hz, rfl⟩ : ∃ z, zs[i]? = some z ∧ g = goneOf [z] (aOf n + bOf n) := by
    unfold onG at hg
    rw [List.getElem?_map] at hg
    cases q : zs[i]? with
    | none => rw [q] at hg; cases hg
    | some p => rw [q] at hg; exact ⟨p, rfl, (Option.some.inj hg).symm⟩
  obtain ⟨t1, hv1⟩ := p2.get i z hz
  have hv : v = .int z t1 := by
    have : vs[i]? = some v := by simpa using hP
    rw [hv1] at this; exact (Option.some.inj this).symm
  subst hv
  have hzm := List.mem_of_getElem? hz
  have Gh := G.ext (Ext.trans W.F.keep hx)
  obtain ⟨f1, hf1⟩ := Gh.fn 8 (by decide)
  have hf1n : mg (Str.ofString "_law_gone") = some (.ref f1) := hf1.choose_spec.choose_spec.choose_spec.choose_spec.1
  clear hX hd hg hP
  walk1
  refine ev_fn Gh hf1n ?_
  refine cw_fn hf1 ?_
  iterate 3 walk1
  refine ce_local hns hm ?_
  iterate 1 walk1
  refine wpAny_newList ?_
  dsimp only
  iterate 1 walk1
  refine ce_cell (cell_ext (cell_ext W.F.total hx) (Ext.push _ _)) ?_
  iterate 1 walk1
  refine ⟨Ext.push _ _, ?_⟩
  refine gone_call (ns := [z]) (vs := [.int z t1]) (Gh.ext (Ext.push _ _)) (hf1.extF (ExtF.of_ext (fs := []) (Ext.push _ _))) ⟨_, Heap.get?_push_size _ rfl, rfl, _, rfl⟩ (.cons _ _ .nil) (by simp) (fun x hx => ?_) (by simp) (by omega) hh (fun h' tk' t' x' => hQ' _ h' tk' (Ext.trans (Ext.push _ _) x') (Rd.int _ _ _))
  rw [List.mem_singleton.mp hx]
  exact p5 _ hzm
end
end Mine

namespace Mine
section
variable {prog : Program} {w : World} {A : Around} {E : Value → Shared → Prop} {s : Shared} {mg mb : Str → Option Value} {base : Heap} {L b : Nat} {f : Addr} {cd : Value} {n : Int} {rv : Value} {zs : List Int} {ta tt : Tok} {m : Str → Option Value}
theorem ne_rd {a b : Value} {d d' : PyData} {Q : Value → Shared → Prop} (ra : Rd s.heap a d) (rb : Rd s.heap b d') (hl : d.canLay0 = true) (hl' : d'.canLay0 = true) (hu : A.units + d.depth < cLine) (h : Q (.bool (!PyData.eqv d d')) s) : wpAny (model prog w) A (compareOp .NotEq a b) Q E s := by
  obtain ⟨as, ra⟩ := ra
  obtain ⟨bs, rb⟩ := rb
  exact SeqAt.rcNeAt_reads ra rb hl hl' (Nat.lt_of_le_of_lt (Nat.add_le_add_left (Nat.min_le_left _ _) _) hu) prog w E Q h
theorem ne_same {a b : Value} {d : PyData} {Q : Value → Shared → Prop} (ra : Rd s.heap a d) (rb : Rd s.heap b d) (hl : d.canLay0 = true) (hu : A.units + d.depth < cLine) (h : Q (.bool false) s) : wpAny (model prog w) A (compareOp .NotEq a b) Q E s := by
  refine ne_rd ra rb hl hl hu ?_
  rw [SeqAt.eqv_refl d hl]
  exact h
theorem law_if1 {t1 t2 t3 : Tok} {Q : Flow → Shared → Prop} (G : Gd mg mb base) (W : Lw base L b n rv zs ta tt m s.heap) (hk : m (Str.ofString "kind") = some (.int (kOf n : Nat) t1)) (hi : m (Str.ofString "ink") = some (.int (iOf n : Nat) t2)) (hbh : m (Str.ofString "behind") = some (.int (bOf n : Nat) t3))
    (hroom : A.depth + 10 < recursionLimit) (hh : A.handled = none) (hu : A.units + 200 < cLine)
    (hK : ∀ h' tk, Lw base L b n rv zs ta tt m h' → Ext s.heap h' →
      wpAny (model prog w) A (execs ((bdOf (stOf 12)).drop 15) (lawEnv L f cd)) Q E { s with heap := h', toks := tk }) :
    wpAny (model prog w) A (execs ((bdOf (stOf 12)).drop 14) (lawEnv L f cd)) Q E s := by
  have e : bdOf (stOf 12) = bdOf (stOf 12) := rfl
  conv at e => rhs; whnf
  rw [e] at hK ⊢
  clear e
  dsimp only [List.drop] at hK ⊢
  have G1 := G.ext W.F.keep
  obtain ⟨f1, hf1⟩ := G1.fn 7 (by decide)
  have hf1n : mg (Str.ofString "_law_row") = some (.ref f1) := hf1.choose_spec.choose_spec.choose_spec.choose_spec.1
  refine wpAny_execs_cons (wpAny_If ?_)
  iterate 1 walk1
  refine ev_cell W.F.row ?_
  iterate 1 walk1
  refine ev_fn G1 hf1n ?_
  refine cw_fn hf1 ?_
  iterate 1 walk1
  refine ev_local W.F.ns hk ?_
  iterate 1 walk1
  refine ev_local W.F.ns hi ?_
  iterate 1 walk1
  refine ev_cell W.F.ahead ?_
  iterate 1 walk1
  refine ev_local W.F.ns hbh ?_
  iterate 1 walk1
  refine ⟨Ext.rfl _, ?_⟩
  refine row_call G1 hf1 (kOf_lt n) (iOf_lt n) (aOf_le n) (bOf_le n) (by omega) (by omega) (fun v h1 tk1 x1 r1 => ?_)
  refine ne_same (W.row.ext x1) r1 (row_lay' n) (by have : (rowD n).depth ≤ 5 := (row_lay (ik_ok n) (aOf n) (bOf n)).2; omega) ?_
  iterate 1 walk1
  rw [if_neg Bool.false_ne_true]
  refine wpAny_pure ?_
  dsimp only
  exact hK h1 _ (W.ext x1) x1
def leftScope : Scope := { kind := .function, names := [(Str.ofString ".0", .local), (Str.ofString "gone", .local), (Str.ofString "_law_left", .globalImplicit), (Str.ofString "ahead", .free), (Str.ofString "row", .free)], isGenerator := false, isCoroutine := false, more := [] }
abbrev leftE (p1 p2 p3 p4 p5 : Pos) : Expr := .Call (.Name (Str.ofString "_law_left") p1) [.Name (Str.ofString "row") p2, .Name (Str.ofString "ahead") p3, .Name (Str.ofString "gone") p4] [] p5
theorem left_elt {g : Heap} {gs : List Nat} {P : Nat → Value → Prop} {p1 p2 p3 p4 p5 : Pos} (G : Gd mg mb base) (W : Lw base L b n rv zs ta tt m g) (hgs : ∀ x ∈ gs, x ≤ aOf n + bOf n) (hP : ∀ i v x, P i v → gs[i]? = some x → ∃ t, v = .int (x : Nat) t)
    (hroom : A.depth + 10 < recursionLimit) (hh : A.handled = none) (hu : A.units + 200 < cLine) :
    Elt prog w A (lawEnv L f cd) (leftE p1 p2 p3 p4 p5) (Str.ofString "gone") leftScope [(Str.ofString "ahead", L + 1), (Str.ofString "row", L + 1 + 1 + 1)] s g P (lefts n gs) := by
  intro i v d X C h tk m₂ E' Q' hd hPi hns hm hx hX hQ'
  obtain ⟨x, hg, rfl⟩ := lefts_get hd
  obtain ⟨t1, rfl⟩ := hP i v x hPi hg
  have hxm := hgs x (List.mem_of_getElem? hg)
  have Gh := G.ext (Ext.trans W.F.keep hx)
  obtain ⟨f1, hf1⟩ := Gh.fn 9 (by decide)
  have hf1n : mg (Str.ofString "_law_left") = some (.ref f1) := hf1.choose_spec.choose_spec.choose_spec.choose_spec.1
  have hX1 : ∀ z ∈ X, ∃ o, h.get? z = some o := (fresh_get hX).2
  have rr : Rd (hid h X) rv (rowD n) := W.row.ext (hid_new hx (fresh_get hX).1)
  clear hX hd hg hPi hP hgs
  walk1
  refine ev_fn Gh hf1n ?_
  refine cw_fn hf1 ?_
  iterate 1 walk1
  refine ce_cell (cell_ext W.F.row hx) ?_
  iterate 1 walk1
  refine ce_cell (cell_ext W.F.ahead hx) ?_
  iterate 1 walk1
  refine ce_local hns hm ?_
  iterate 1 walk1
  refine ⟨Ext.rfl _, ?_⟩
  have ha := aOf_le n
  have hb := bOf_le n
  exact left_call Gh hf1 (ik_ok n) (by omega) (by omega) hxm hX1 rr (by omega) (by omega) hh (fun y h' tk' x' r' => hQ' y h' tk' x' r')
end
end Mine

namespace Mine
theorem nats_src {h : Heap} {D : Addr} {gs : List Nat} (r : Rd h (.ref D) (.list (natsD gs))) : ∃ vs : Array Value, h.IsList D vs ∧ vs.size = gs.length ∧ IntsAre vs.toList (gs.map fun g : Nat => (g : Int)) ∧ ∀ (i : Nat) (v : Value) (x : Nat), vs[i]? = some v → gs[i]? = some x → ∃ t, v = .int (x : Nat) t := by
  obtain ⟨_, vs, e, hl, ra⟩ := r.list_inv
  cases e
  refine ⟨vs, hl, by have := ra.length; simpa [natsD] using this, ?_, fun i v x hv hx => ?_⟩
  · have key : ∀ (ns : List Int) (ws : List Value), RdAll h ws (ns.map PyData.int) → IntsAre ws ns := by
      intro ns
      induction ns with
      | nil => intro ws r; have := r.nil_inv; subst this; exact .nil
      | cons a ns ih =>
        intro ws r
        obtain ⟨v, us, rfl, r1, r2⟩ := r.cons_inv
        obtain ⟨t, rfl⟩ := r1.int_inv
        exact .cons _ _ (ih us r2)
    exact key _ _ ra
  · obtain ⟨d, hd, rd⟩ := ra.get' (k := i) (by simpa using hv)
    obtain ⟨g, hg, rfl⟩ := natsD_get hd
    rw [hx] at hg; cases hg
    exact rd.int_inv
theorem list_dep {ds : List PyData} {k : Nat} (h : PyData.depthAll ds ≤ k) : (PyData.list ds).depth ≤ k + 1 := by
  simp only [PyData.depth]; omega
theorem twG_le (n : Int) (xs ys : List Int) : ∀ x ∈ twG n xs ys, x ≤ aOf n + bOf n := fun x hx => by
  unfold twG at hx
  obtain ⟨p, _, rfl⟩ := List.mem_map.mp hx
  exact gone_le _ _
theorem onG_le (n : Int) (zs : List Int) : ∀ x ∈ onG n zs, x ≤ aOf n + bOf n := fun x hx => by
  unfold onG at hx
  obtain ⟨p, _, rfl⟩ := List.mem_map.mp hx
  exact gone_le _ _
theorem stG_le (n : Int) : ∀ x ∈ stG n, x ≤ aOf n + bOf n := fun x hx => by
  unfold stG at hx
  obtain ⟨p, _, rfl⟩ := List.mem_map.mp hx
  exact Nat.min_le_right _ _
section
variable {prog : Program} {w : World} {A : Around} {E : Value → Shared → Prop} {s : Shared} {mg mb : Str → Option Value} {base : Heap} {L b : Nat} {f : Addr} {cd : Value} {n : Int} {rv : Value} {zs : List Int} {ta tt : Tok} {m : Str → Option Value}
theorem law_if2 {gs : List Nat} {cu tw : Addr} {Q : Flow → Shared → Prop} (G : Gd mg mb base) (W : Lw base L b n rv zs ta tt m s.heap) (hc : m (Str.ofString "cuts") = some (.ref cu)) (ht : m (Str.ofString "twice") = some (.ref tw))
    (rc : Rd s.heap (.ref cu) (.list (lefts n gs))) (rt : Rd s.heap (.ref tw) (.list (natsD gs))) (hgs : ∀ x ∈ gs, x ≤ aOf n + bOf n) (hlen : gs.length ≤ 1000)
    (hroom : A.depth + 10 < recursionLimit) (hh : A.handled = none) (hu : A.units + 200 < cLine)
    (hK : ∀ h' tk, Lw base L b n rv zs ta tt m h' → Ext s.heap h' →
      wpAny (model prog w) A (execs ((bdOf (stOf 12)).drop 16) (lawEnv L f cd)) Q E { s with heap := h', toks := tk }) :
    wpAny (model prog w) A (execs ((bdOf (stOf 12)).drop 15) (lawEnv L f cd)) Q E s := by
  have e : bdOf (stOf 12) = bdOf (stOf 12) := rfl
  conv at e => rhs; whnf
  rw [e] at hK ⊢
  clear e
  dsimp only [List.drop] at hK ⊢
  refine wpAny_execs_cons (wpAny_If ?_)
  iterate 1 walk1
  refine ev_local W.F.ns hc ?_
  refine cmpl hh ?_
  refine ev_local W.F.ns ht ?_
  obtain ⟨vs, hl, hsz, hij, hP⟩ := nats_src rt
  refine ⟨vs.size, _, lefts n gs, .list hl rfl rfl, by omega, by simp [lefts, hsz], Ext.rfl _, ⟨_, rfl⟩, left_elt G W hgs hP hroom hh hu, fun D h' tk x' r' => ?_⟩
  have hlay := lefts_lay n gs
  refine ne_same (rc.ext x') r' hlay.1 (by have := list_dep hlay.2; omega) ?_
  iterate 1 walk1
  rw [if_neg Bool.false_ne_true]
  refine wpAny_pure ?_
  dsimp only
  exact hK h' _ (W.ext x') x'
theorem law_if3 {gs : List Nat} {cu tw : Addr} {Q : Flow → Shared → Prop} (G : Gd mg mb base) (W : Lw base L b n rv zs ta tt m s.heap) (hc : m (Str.ofString "ones") = some (.ref cu)) (ht : m (Str.ofString "once") = some (.ref tw))
    (rc : Rd s.heap (.ref cu) (.list (lefts n gs))) (rt : Rd s.heap (.ref tw) (.list (natsD gs))) (hgs : ∀ x ∈ gs, x ≤ aOf n + bOf n) (hlen : gs.length ≤ 1000)
    (hroom : A.depth + 10 < recursionLimit) (hh : A.handled = none) (hu : A.units + 200 < cLine)
    (hK : ∀ h' tk, Lw base L b n rv zs ta tt m h' → Ext s.heap h' →
      wpAny (model prog w) A (execs ((bdOf (stOf 12)).drop 17) (lawEnv L f cd)) Q E { s with heap := h', toks := tk }) :
    wpAny (model prog w) A (execs ((bdOf (stOf 12)).drop 16) (lawEnv L f cd)) Q E s := by
  have e : bdOf (stOf 12) = bdOf (stOf 12) := rfl
  conv at e => rhs; whnf
  rw [e] at hK ⊢
  clear e
  dsimp only [List.drop] at hK ⊢
  refine wpAny_execs_cons (wpAny_If ?_)
  iterate 1 walk1
  refine ev_local W.F.ns hc ?_
  refine cmpl hh ?_
  refine ev_local W.F.ns ht ?_
  obtain ⟨vs, hl, hsz, hij, hP⟩ := nats_src rt
  refine ⟨vs.size, _, lefts n gs, .list hl rfl rfl, by omega, by simp [lefts, hsz], Ext.rfl _, ⟨_, rfl⟩, left_elt G W hgs hP hroom hh hu, fun D h' tk x' r' => ?_⟩
  have hlay := lefts_lay n gs
  refine ne_same (rc.ext x') r' hlay.1 (by have := list_dep hlay.2; omega) ?_
  iterate 1 walk1
  rw [if_neg Bool.false_ne_true]
  refine wpAny_pure ?_
  dsimp only
  exact hK h' _ (W.ext x') x'
end
end Mine

namespace Mine
def Hk (n : Int) : Prop := kOf n = 0 ∨ (kOf n = 2 ∧ iOf n ≠ 3)
theorem lefts_keys {n : Int} (h : Hk n) (gs : List Nat) : Keys (lefts n gs) := by
  have key : ∀ d ∈ lefts n gs, (∃ x, kOf n = 0 ∧ d = .str x) ∨ (kOf n = 2 ∧ ∃ as, d = tupEmb as) := fun d hd => by
    obtain ⟨g, _, rfl⟩ := List.mem_map.mp hd
    exact keys_of _ _ (kOf_lt n) (iOf_lt n) h _ _
  rcases h with h0 | ⟨h2, _⟩
  · refine .inl fun d hd => ?_
    rcases key d hd with ⟨x, _, q⟩ | ⟨q, _⟩
    · exact ⟨x, q⟩
    · omega
  · refine .inr fun d hd => ?_
    rcases key d hd with ⟨x, q, _⟩ | ⟨_, q⟩
    · omega
    · exact q
theorem lefts_bad {n : Int} (h : ¬ Hk n) (g : Nat) : Bad ((Ik n).left (aOf n) (bOf n) g) := bad_of _ _ (kOf_lt n) (iOf_lt n) h _ _
section
variable {prog : Program} {w : World} {A : Around} {E : Value → Shared → Prop} {s : Shared} {mg mb : Str → Option Value} {base : Heap} {L b : Nat} {f : Addr} {cd : Value} {n : Int} {rv : Value} {zs : List Int} {ta tt : Tok} {m : Str → Option Value}
theorem frs_law (F : LF base L m ca ct cr cb s.heap) : FrsOk s.heap [lawEnv L f cd] := by
  intro en hen
  rw [List.mem_singleton.mp hen]
  obtain ⟨oL, es, ep, z1, z2, _⟩ := F.ns
  exact ⟨by show (scOf (stOf 12)).kind ≠ .module; decide +kernel, L, oL, es, ep, rfl, z1, z2⟩
/-- the call of _deduplicate with the fallback -/
theorem dd_law {gs : List Nat} {x f3 : Addr} {Q : Value → Shared → Prop} (G : Gd mg mb base) (hf3 : DdAt mg base f3) (W : Lw base L b n rv zs ta tt m s.heap) (r : Rd s.heap (.ref x) (.list (lefts n gs))) (hne : 0 < gs.length) (hlen : gs.length ≤ 1000)
    (hfr : A.frames = some [lawEnv L f cd]) (hroom : A.depth + 10 < recursionLimit) (hh : A.handled = none) (hu : A.units + 200 < cLine)
    (hG : Hk n → ∀ d h' tk ks, Ext s.heap h' → s.heap.get? d = none → DE h' d ks → RdAll s.heap ks (dd [] (lefts n gs)) → Q (.ref d) { s with heap := h', toks := tk })
    (hB : ¬ Hk n → ∀ D h' tk, ExtF [L] s.heap h' → Rd h' (.ref D) (.list (dd [] (lefts n gs))) → Q (.ref D) { s with heap := h', toks := tk }) :
    wpAny (model prog w) A (call (.ref f3) [.ref x] (ddKw true)) Q E s := by
  have hf := hf3.ext W.F.keep
  have Gs := G.ext W.F.keep
  obtain ⟨_, vs, e, hl, ra⟩ := r.list_inv
  cases e
  have hlay := lefts_lay n gs
  have hl' : s.heap.IsList x vs.toList.toArray := by simpa using hl
  by_cases hk : Hk n
  · exact dd_good Gs hf hl' (Ext.rfl _) ra (lefts_keys hk gs) (by simpa [lefts] using hlen) hh (by omega) (by omega) (fun d h' tk ks x1 x2 x3 x4 => hG hk d h' tk ks x1 x2 x3 x4)
  · cases hgs : gs with
    | nil => rw [hgs] at hne; simp at hne
    | cons g gs' =>
      have e2 : lefts n gs = (Ik n).left (aOf n) (bOf n) g :: lefts n gs' := by rw [hgs]; rfl
      rw [e2] at ra hlay
      obtain ⟨v, ws, e3, rv1, rvs⟩ := ra.cons_inv
      rw [e3] at hl' ra
      refine dd_bad (b := true) Gs hf hl' ra (lefts_bad hk g) hlay.1 (Nat.le_succ_of_le hlay.2) (by rw [← e2]; simpa [lefts] using hlen) hfr (frs_law W.F) hh (by omega) (by omega) (fun _ D h' tk ys k x1 x2 x3 x4 => ?_) (fun q => by cases q)
      refine hB hk D h' tk x1 (Rd.of_list ⟨_, x3, rfl, _, rfl⟩ ?_)
      rw [e2]; exact x4
/-- _deduplicate(x, unhashable_fallback=True) -/
theorem ev_dd {x : Str} {gs : List Nat} {st f3 : Addr} {p2 p3 p4 p5 p6 : Pos} {Q : Value → Shared → Prop} (G : Gd mg mb base) (hf3 : DdAt mg base f3) (W : Lw base L b n rv zs ta tt m s.heap) (hc : m x = some (.ref st)) (hx : (lawEnv L f cd).kindOf x = some .local) (hxd : (x == ("__debug__" : Str)) = false)
    (rs : Rd s.heap (.ref st) (.list (lefts n gs))) (hne : 0 < gs.length) (hlen : gs.length ≤ 1000)
    (hfr : A.frames = some [lawEnv L f cd]) (hroom : A.depth + 10 < recursionLimit) (hh : A.handled = none) (hu : A.units + 200 < cLine)
    (hG : Hk n → ∀ d h' tk ks, Ext s.heap h' → s.heap.get? d = none → DE h' d ks → RdAll s.heap ks (dd [] (lefts n gs)) → Q (.ref d) { s with heap := h', toks := tk })
    (hB : ¬ Hk n → ∀ D h' tk, ExtF [L] s.heap h' → Rd h' (.ref D) (.list (dd [] (lefts n gs))) → Q (.ref D) { s with heap := h', toks := tk }) :
    wpAny (model prog w) A (eval (.Call (.Name (Str.ofString "_deduplicate") p2) [.Name x p3] [⟨some (Str.ofString "unhashable_fallback"), .Constant (.bool true) 0 p4, p5⟩] p6) (lawEnv L f cd)) Q E s := by
  have G1 := G.ext W.F.keep
  have hf3n : mg (Str.ofString "_deduplicate") = some (.ref f3) := hf3.choose_spec.choose_spec.choose_spec.choose_spec.choose_spec.choose_spec.1
  walk1
  refine ev_fn G1 hf3n ?_
  have hf3s := hf3.ext W.F.keep
  obtain ⟨o, kd, pm, cd', doc, m0, _, ho, hd, _⟩ := id hf3s
  refine callWith_def_kw hd ?_
  iterate 2 walk1
  refine ev_local W.F.ns hc ?_ rfl hx hxd
  repeat walk1
  exact dd_law (s := s) G hf3 W rs hne hlen hfr hroom hh hu hG hB
end
end Mine

namespace Mine
section
variable {prog : Program} {w : World} {A : Around} {E : Value → Shared → Prop} {s : Shared} {mg mb : Str → Option Value} {base : Heap} {L b : Nat} {f : Addr} {cd : Value} {n : Int} {rv : Value} {zs : List Int} {ta tt : Tok} {m : Str → Option Value}
theorem dd_len (gs : List Nat) (hlen : gs.length ≤ 1000) : (dd [] (lefts n gs)).length ≤ 1000 := by
  have := dd_length (lefts n gs) []
  simp [lefts] at this ⊢
  omega
theorem not_sys {h : Heap} {d : Addr} (hsys : ∃ o, base.get? sysModules = some o) (x : Ext base h) (hd : h.get? d = none) : (d == sysModules) = false := by
  obtain ⟨o, q⟩ := hsys
  rw [beq_eq_false_iff_ne]
  rintro rfl
  rw [x _ _ q] at hd; cases hd
/-- list(_deduplicate(x, unhashable_fallback=True)) -/
theorem ev_ddlist {x : Str} {gs : List Nat} {st f3 : Addr} {p1 p2 p3 p4 p5 p6 p7 : Pos} {Q : Value → Shared → Prop} (G : Gd mg mb base) (hsys : ∃ o, base.get? sysModules = some o) (hf3 : DdAt mg base f3) (W : Lw base L b n rv zs ta tt m s.heap) (hc : m x = some (.ref st)) (hx : (lawEnv L f cd).kindOf x = some .local) (hxd : (x == ("__debug__" : Str)) = false)
    (rs : Rd s.heap (.ref st) (.list (lefts n gs))) (hne : 0 < gs.length) (hlen : gs.length ≤ 1000)
    (hfr : A.frames = some [lawEnv L f cd]) (hroom : A.depth + 10 < recursionLimit) (hh : A.handled = none) (hu : A.units + 200 < cLine)
    (hQ : ∀ R h' tk, Lw base L b n rv zs ta tt m h' → Go L s.heap h' → Rd h' (.ref R) (.list (dd [] (lefts n gs))) → Q (.ref R) { s with heap := h', toks := tk }) :
    wpAny (model prog w) A (eval (.Call (.Name (Str.ofString "list") p1) [.Call (.Name (Str.ofString "_deduplicate") p2) [.Name x p3] [⟨some (Str.ofString "unhashable_fallback"), .Constant (.bool true) 0 p4, p5⟩] p6] [] p7) (lawEnv L f cd)) Q E s := by
  have G1 := G.ext W.F.keep
  walk1
  refine ev_bt (v := .type "list") G1 (by decide +kernel) (by decide +kernel) (by decide +kernel) ?_
  iterate 2 walk1
  refine ev_dd G hf3 W hc hx hxd rs hne hlen hfr hroom hh hu (fun hk d h1 tk1 ks x1 x2 x3 x4 => ?_) (fun hk D h1 tk1 x1 r1 => ?_)
  · iterate 1 walk1
    have hkl : ks.length ≤ 1000 := by rw [x4.length]; exact dd_len gs hlen
    refine de_list (not_sys hsys W.F.keep x2) x3 hh hkl (fun h2 tk2 c x5 x6 => ?_)
    dsimp only at x5 x6 ⊢
    have x7 : Ext s.heap h2 := Ext.trans x1 x5
    exact hQ _ h2 tk2 (W.ext x7) (Go.of_ext x7) (Rd.of_list ⟨_, x6, rfl, _, rfl⟩ (by simpa using x4.ext x7))
  · iterate 1 walk1
    have g1 := Go.of_extF x1
    have W1 : Lw base L b n rv zs ta tt m h1 := W.go g1 (ns_extF x1 W.F.ns)
    obtain ⟨_, vs, e, hl, ra⟩ := r1.list_inv
    cases e
    have hsz : vs.size ≤ 1000 := by have := ra.length; have h2 := dd_len (n := n) gs hlen; simp only [Array.length_toList] at this; omega
    refine list_copyL (s := { s with heap := h1, toks := _ }) W1.F.fr hl (fun h2 F2 x2 _ hl2 => ?_) (szl hsz)
    exact hQ _ h2 _ (W1.ext x2) (g1.trans (Go.of_ext x2)) (Rd.of_list hl2 (ra.ext x2))
theorem st_lefts (n : Int) : dd [] (lefts n (stG n)) = lefts n (List.range (aOf n + bOf n + 1)) := by
  have := dd_steps (ik_ok n) (a := aOf n) (b := bOf n)
  unfold lefts stG
  rw [List.map_map]
  exact this
theorem law_if4 {st f3 : Addr} {Q : Flow → Shared → Prop} (G : Gd mg mb base) (hsys : ∃ o, base.get? sysModules = some o) (hf3 : DdAt mg base f3) (W : Lw base L b n rv zs ta tt m s.heap) (hc : m (Str.ofString "steps") = some (.ref st))
    (rs : Rd s.heap (.ref st) (.list (lefts n (stG n))))
    (hfr : A.frames = some [lawEnv L f cd]) (hroom : A.depth + 10 < recursionLimit) (hh : A.handled = none) (hu : A.units + 200 < cLine)
    (hK : ∀ h' tk, Lw base L b n rv zs ta tt m h' → Go L s.heap h' →
      wpAny (model prog w) A (execs ((bdOf (stOf 12)).drop 18) (lawEnv L f cd)) Q E { s with heap := h', toks := tk }) :
    wpAny (model prog w) A (execs ((bdOf (stOf 12)).drop 17) (lawEnv L f cd)) Q E s := by
  have e : bdOf (stOf 12) = bdOf (stOf 12) := rfl
  conv at e => rhs; whnf
  rw [e] at hK ⊢
  clear e
  dsimp only [List.drop] at hK ⊢
  have ha := aOf_le n
  have hb := bOf_le n
  refine wpAny_execs_cons (wpAny_If ?_)
  iterate 1 walk1
  refine ev_ddlist G hsys hf3 W hc (by rfl) (by decide) rs (by simp [stG]) (by simp [stG]; omega) hfr hroom hh hu (fun R h1 tk1 W1 g1 r1 => ?_)
  rw [st_lefts] at r1
  refine cmpl hh ?_
  walk1
  refine ev_bt (v := .type "range") (G.ext W1.F.keep) (by decide +kernel) (by decide +kernel) (by decide +kernel) ?_
  iterate 3 walk1
  refine ev_cell W1.F.total ?_
  iterate 3 walk1
  rw [show ((aOf n + bOf n : Nat) : Int) + 1 = ((aOf n + bOf n + 1 : Nat) : Int) from by omega]
  refine call_range_1 ?_
  dsimp only
  refine ⟨aOf n + bOf n + 1, _, lefts n (List.range (aOf n + bOf n + 1)), .range (IsRange.new ..) (small_one (by omega) (by omega) (by omega) (by omega)) (by rw [rangeSize_one]; split <;> omega) rfl, by omega, by simp [lefts], Ext.push _ _, ⟨_, rfl⟩,
    left_elt G (W1.ext (Ext.push _ _)) (fun x hx => by have := List.mem_range.mp hx; omega) (fun i v x hp hx => ?_) hroom hh hu, fun D h' tk x' r' => ?_⟩
  · obtain ⟨t, rfl⟩ := hp
    rcases Nat.lt_or_ge i (aOf n + bOf n + 1) with q | q
    · rw [List.getElem?_range q] at hx; cases hx; exact ⟨t, by rw [Int.zero_add]⟩
    · rw [List.getElem?_eq_none (by simpa using q)] at hx; cases hx
  have hlay := lefts_lay n (List.range (aOf n + bOf n + 1))
  refine ne_same (r1.ext x') r' hlay.1 (by have := list_dep hlay.2; omega) ?_
  iterate 1 walk1
  rw [if_neg Bool.false_ne_true]
  refine wpAny_pure ?_
  dsimp only
  exact hK h' _ (W1.ext x') (g1.trans (Go.of_ext x'))
end
end Mine

namespace Mine
theorem dd_lefts (n : Int) (gs : List Nat) (h : ∀ x ∈ gs, x ≤ aOf n + bOf n) : dd [] (lefts n gs) = lefts n (fst1 [] gs) := by
  have := dd_left (ik_ok n) (a := aOf n) (b := bOf n) gs [] h (by simp)
  exact this
theorem fst1_len (gs : List Nat) : (fst1 [] gs).length ≤ gs.length := by
  have key : ∀ (gs acc : List Nat), (fst1 acc gs).length ≤ acc.length + gs.length := by
    intro gs
    induction gs with
    | nil => intro acc; simp [fst1]
    | cons g gs ih =>
      intro acc
      rw [fst1]
      split
      · have := ih acc; simp; omega
      · have := ih (acc ++ [g]); simp at this ⊢; omega
  simpa using key gs []
theorem fst1_le {t : Nat} (gs : List Nat) (h : ∀ x ∈ gs, x ≤ t) : ∀ x ∈ fst1 [] gs, x ≤ t := fun x hx => by
  rcases (fst1_mem _ _ _).mp hx with q | q
  · simp at q
  · exact h x q
section
variable {prog : Program} {w : World} {A : Around} {E : Value → Shared → Prop} {s : Shared} {mg mb : Str → Option Value} {base : Heap} {L b : Nat} {f : Addr} {cd : Value} {n : Int} {rv : Value} {zs : List Int} {ta tt : Tok} {m : Str → Option Value}
/-- _law_first(x) -/
theorem ev_first {x : Str} {gs : List Nat} {tw : Addr} {p1 p2 p3 : Pos} {Q : Value → Shared → Prop} (G : Gd mg mb base) (W : Lw base L b n rv zs ta tt m s.heap) (hc : m x = some (.ref tw)) (hx : (lawEnv L f cd).kindOf x = some .local) (hxd : (x == ("__debug__" : Str)) = false)
    (rt : Rd s.heap (.ref tw) (.list (natsD gs))) (hlen : gs.length ≤ 1000) (hroom : A.depth + 10 < recursionLimit) (hh : A.handled = none) (hu : A.units + 200 < cLine)
    (hQ : ∀ D h' tk ys, Ext s.heap h' → h'.get? D = some (lst ys) → IntsAre ys ((fst1 [] gs).map fun g : Nat => (g : Int)) → Q (.ref D) { s with heap := h', toks := tk }) :
    wpAny (model prog w) A (eval (.Call (.Name (Str.ofString "_law_first") p1) [.Name x p2] [] p3) (lawEnv L f cd)) Q E s := by
  have G1 := G.ext W.F.keep
  obtain ⟨f1, hf1⟩ := G1.fn 10 (by decide)
  have hf1n : mg (Str.ofString "_law_first") = some (.ref f1) := hf1.choose_spec.choose_spec.choose_spec.choose_spec.1
  obtain ⟨vs, hl, hsz, hij, hP⟩ := nats_src rt
  walk1
  refine ev_fn G1 hf1n ?_
  refine cw_fn hf1 ?_
  iterate 1 walk1
  refine ev_local W.F.ns hc ?_ rfl hx hxd
  iterate 1 walk1
  refine ⟨Ext.rfl _, ?_⟩
  refine first_call G1 hf1 (vs := vs.toList) (by simpa using hl) hij (by simpa using hlen) (by omega) hh (by omega) (fun D h' tk ys x1 x2 x3 x4 => ?_)
  rw [firsts_eq] at x4
  exact hQ D h' tk ys x1 x3 x4
theorem law_rests {gs : List Nat} {tw : Addr} {Q : Flow → Shared → Prop} (G : Gd mg mb base) (W : Lw base L b n rv zs ta tt m s.heap) (ht : m (Str.ofString "twice") = some (.ref tw)) (rt : Rd s.heap (.ref tw) (.list (natsD gs)))
    (hgs : ∀ x ∈ gs, x ≤ aOf n + bOf n) (hlen : gs.length ≤ 1000) (hroom : A.depth + 10 < recursionLimit) (hh : A.handled = none) (hu : A.units + 200 < cLine)
    (hK : ∀ D h' tk, Lw base L b n rv zs ta tt (put m "rests" (.ref D)) h' → Go L s.heap h' → Rd h' (.ref D) (.list (lefts n (fst1 [] gs))) →
      wpAny (model prog w) A (execs ((bdOf (stOf 12)).drop 19) (lawEnv L f cd)) Q E { s with heap := h', toks := tk }) :
    wpAny (model prog w) A (execs ((bdOf (stOf 12)).drop 18) (lawEnv L f cd)) Q E s := by
  have e : bdOf (stOf 12) = bdOf (stOf 12) := rfl
  conv at e => rhs; whnf
  rw [e] at hK ⊢
  clear e
  dsimp only [List.drop] at hK ⊢
  refine wpAny_execs_cons (asg hh W.F ?_)
  refine ev_first G W ht (by rfl) (by decide) rt hlen hroom hh hu (fun D h1 tk1 ys x1 x2 x3 => ?_)
  have hyl : ys.length = (fst1 [] gs).length := by have := x3.length; simpa using this
  have hfl := fst1_len gs
  refine ⟨ys.toArray.size, _, lefts n (fst1 [] gs), .list ⟨_, x2, rfl, _, rfl⟩ rfl rfl, by simp; omega, by simp [lefts, hyl], (lefts_lay n _).1, x1, ⟨_, rfl⟩, left_elt G (W.ext x1) (fst1_le gs hgs) (fun i v x hp hx => ?_) hroom hh hu, fun D h' tk F' g' r' => hK D h' tk (W.go g' F'.ns) g' r'⟩
  obtain ⟨t, q⟩ := x3.get i (x : Nat) (by rw [List.getElem?_map, hx]; rfl)
  have : ys[i]? = some v := by simpa using hp
  rw [q] at this
  exact ⟨t, (Option.some.inj this).symm⟩
end
end Mine

namespace Mine
theorem DE.at {h h' : Heap} {d : Addr} {ks : List Value} (x : DE h d ks) (e : ∀ o, h.get? d = some o → h'.get? d = some o) : DE h' d ks := let ⟨o, es, ep, a, b⟩ := x; ⟨o, es, ep, e _ a, b⟩
theorem dd_lay' (n : Int) (gs : List Nat) (h : ∀ x ∈ gs, x ≤ aOf n + bOf n) : PyData.canLayAll0 (dd [] (lefts n gs)) = true := by rw [dd_lefts n gs h]; exact (lefts_lay n _).1
section
variable {prog : Program} {w : World} {A : Around} {E : Value → Shared → Prop} {s : Shared} {mg mb : Str → Option Value} {base : Heap} {L b : Nat} {f : Addr} {cd : Value} {n : Int} {rv : Value} {zs : List Int} {ta tt : Tok} {m : Str → Option Value}
theorem law_bl {gs : List Nat} {cu f3 : Addr} {Q : Flow → Shared → Prop} (G : Gd mg mb base) (hsys : ∃ o, base.get? sysModules = some o) (hf3 : DdAt mg base f3) (W : Lw base L b n rv zs ta tt m s.heap) (hc : m (Str.ofString "cuts") = some (.ref cu)) (rc : Rd s.heap (.ref cu) (.list (lefts n gs)))
    (hgs : ∀ x ∈ gs, x ≤ aOf n + bOf n) (hne : 0 < gs.length) (hlen : gs.length ≤ 1000) (hfr : A.frames = some [lawEnv L f cd]) (hroom : A.depth + 10 < recursionLimit) (hh : A.handled = none) (hu : A.units + 200 < cLine)
    (hG : Hk n → ∀ d1 d2 k1 k2 h' tk, Lw base L b n rv zs ta tt (put (put m "loose" (.ref d2)) "bare" (.ref d1)) h' → Go L s.heap h' → DE h' d1 k1 → DE h' d2 k2 → RdAll h' k1 (dd [] (lefts n gs)) → RdAll h' k2 (dd [] (lefts n gs)) → d1 ≠ L → d2 ≠ L → (d1 == sysModules) = false → (d2 == sysModules) = false →
      wpAny (model prog w) A (execs ((bdOf (stOf 12)).drop 20) (lawEnv L f cd)) Q E { s with heap := h', toks := tk })
    (hB : ¬ Hk n → ∀ D h' tk, Lw base L b n rv zs ta tt (put (put m "loose" (.ref D)) "bare" .none) h' → Go L s.heap h' → Rd h' (.ref D) (.list (dd [] (lefts n gs))) →
      wpAny (model prog w) A (execs ((bdOf (stOf 12)).drop 20) (lawEnv L f cd)) Q E { s with heap := h', toks := tk }) :
    wpAny (model prog w) A (execs ((bdOf (stOf 12)).drop 19) (lawEnv L f cd)) Q E s := by
  have e : bdOf (stOf 12) = bdOf (stOf 12) := rfl
  conv at e => rhs; whnf
  rw [e] at hG hB ⊢
  clear e
  dsimp only [List.drop] at hG hB ⊢
  have G1 := G.ext W.F.keep
  obtain ⟨f1, hf1⟩ := G1.fn 11 (by decide)
  have hf1n : mg (Str.ofString "_law_bare") = some (.ref f1) := hf1.choose_spec.choose_spec.choose_spec.choose_spec.1
  have hlay := lefts_lay n gs
  obtain ⟨_, vs, e, hl, ra⟩ := rc.list_inv
  cases e
  have hl' : s.heap.IsList cu vs.toList.toArray := by simpa using hl
  have hLx : ∀ (h : Heap) (d : Addr), Go L s.heap h → (∃ o, h.get? L = some o) → h.get? d = none → d ≠ L := fun h d _ q1 q2 q => by
    obtain ⟨o, q1⟩ := q1
    rw [q, q1] at q2; cases q2
  refine wpAny_execs_cons ?_
  iterate 4 walk1
  refine ev_fn G1 hf1n ?_
  refine cw_fn hf1 ?_
  iterate 1 walk1
  refine ev_local W.F.ns hc ?_
  iterate 1 walk1
  refine ⟨Ext.rfl _, ?_⟩
  by_cases hk : Hk n
  · clear hB
    refine bare_good G1 hf1 (hf3.ext W.F.keep) hl' (Ext.rfl _) ra (lefts_keys hk gs) (by simpa [lefts] using hlen) hh (by omega) (by omega) (fun d1 h1 tk1 k1 x1 x2 x3 x4 => ?_)
    iterate 1 walk1
    have W1 := W.ext x1
    refine ev_dd (s := { s with heap := h1, toks := tk1 }) G hf3 W1 hc (by rfl) (by decide) (rc.ext x1) hne hlen hfr hroom hh hu (fun _ d2 h2 tk2 k2 x5 x6 x7 x8 => ?_) (fun q => absurd hk q)
    dsimp only at x5 x6 x8 ⊢
    have W2 := W1.ext x5
    iterate 1 walk1
    refine wpAny_newTuple ?_
    dsimp only
    refine unpackItems_tuple (items := #[.ref d1, .ref d2]) hh ⟨_, Heap.get?_push_size _ rfl, rfl, _, rfl⟩ (fun h3 x9 => ?_)
    dsimp only at x9 ⊢
    have X3 : Ext h2 h3 := fun b o e => x9 b o (by rw [Heap.size_push]; exact Nat.ne_of_lt (Nat.lt_succ_of_lt (Heap.lt_size e))) (Heap.get?_push_of_some _ e)
    have W3 := W2.ext X3
    iterate 2 walk1
    refine st_local W3.F (fun h4 F4 g4 => ?_)
    dsimp only
    iterate 2 walk1
    refine st_local F4 (fun h5 F5 g5 => ?_)
    dsimp only
    iterate 1 walk1
    have g45 : Go L h3 h5 := Go.trans g4 g5
    have W5 := W3.go g45 F5.ns
    have g05 : Go L s.heap h5 := (Go.of_ext ((Ext.trans x1 x5).trans X3)).trans g45
    obtain ⟨oL, _, _, hoL, _⟩ := W.F.ns
    have n1 : d1 ≠ L := fun q => by rw [q, hoL] at x2; cases x2
    have n2 : d2 ≠ L := fun q => by rw [q, x1 _ _ hoL] at x6; cases x6
    have sk := g45.sk W3.F.ns
    exact hG hk d1 d2 k1 k2 h5 _ W5 g05 (x3.at fun o q => g45 _ _ n1 (X3 _ _ (x5 _ _ q))) (x7.at fun o q => g45 _ _ n2 (X3 _ _ q)) ((x4.ext ((Ext.trans x1 x5).trans X3)).sk sk (dd_lay' n gs hgs)) ((x8.ext (Ext.trans x5 X3)).sk sk (dd_lay' n gs hgs)) n1 n2 (not_sys hsys W.F.keep x2) (not_sys hsys W1.F.keep x6)
  · clear hG
    cases hgs' : gs with
    | nil => rw [hgs'] at hne; simp at hne
    | cons g gs' =>
      have e2 : lefts n gs = (Ik n).left (aOf n) (bOf n) g :: lefts n gs' := by rw [hgs']; rfl
      rw [e2] at ra hlay
      obtain ⟨v, ws, e3, rv1, rvs⟩ := ra.cons_inv
      rw [e3] at hl' ra
      refine bare_bad G1 hf1 (hf3.ext W.F.keep) hl' ra (lefts_bad hk g) hlay.1 (Nat.le_succ_of_le hlay.2) (by rw [← e2]; simpa [lefts] using hlen) hfr (frs_law W.F) hh (by omega) (by omega) (fun h1 tk1 x1 => ?_)
      replace x1 : ExtF [L] s.heap h1 := x1
      have g1 := Go.of_extF x1
      have W1 := W.go g1 (ns_extF x1 W.F.ns)
      iterate 1 walk1
      refine ev_dd (s := { s with heap := h1, toks := tk1 }) G hf3 W1 hc (by rfl) (by decide) (rc.go W g1 (lefts_lay n gs).1) hne hlen hfr hroom hh hu (fun q => absurd q hk) (fun _ D h2 tk2 x2 r2 => ?_)
      dsimp only at x2 r2 ⊢
      have g2 := Go.of_extF x2
      have W2 := W1.go g2 (ns_extF x2 W1.F.ns)
      iterate 1 walk1
      refine wpAny_newTuple ?_
      dsimp only
      refine unpackItems_tuple (items := #[.none, .ref D]) hh ⟨_, Heap.get?_push_size _ rfl, rfl, _, rfl⟩ (fun h3 x9 => ?_)
      dsimp only at x9 ⊢
      have X3 : Ext h2 h3 := fun b o e => x9 b o (by rw [Heap.size_push]; exact Nat.ne_of_lt (Nat.lt_succ_of_lt (Heap.lt_size e))) (Heap.get?_push_of_some _ e)
      have W3 := W2.ext X3
      iterate 2 walk1
      refine st_local W3.F (fun h4 F4 g4 => ?_)
      dsimp only
      iterate 2 walk1
      refine st_local F4 (fun h5 F5 g5 => ?_)
      dsimp only
      iterate 1 walk1
      have g45 : Go L h3 h5 := Go.trans g4 g5
      exact hB hk D h5 _ (W3.go g45 F5.ns) ((g1.trans g2).trans ((Go.of_ext X3).trans g45)) ((r2.ext X3).go W3 g45 (dd_lay' n gs hgs))
end
end Mine

namespace Mine
section
variable {prog : Program} {w : World} {A : Around} {E : Value → Shared → Prop} {s : Shared} {mg mb : Str → Option Value} {base : Heap} {L b : Nat} {f : Addr} {cd : Value} {n : Int} {rv : Value} {zs : List Int} {ta tt : Tok} {m : Str → Option Value}
theorem hk_test {t1 t2 : Tok} {p1 p2 p3 p4 p5 p6 p7 p8 p9 p10 p11 : Pos} {Q : Bool → Shared → Prop} {whole : Sem Value} (W : Lw base L b n rv zs ta tt m s.heap) (hk : m (Str.ofString "kind") = some (.int (kOf n : Nat) t1)) (hi : m (Str.ofString "ink") = some (.int (iOf n : Nat) t2))
    (hT : Hk n → ∀ tk, Q true { s with toks := tk }) (hF : ¬ Hk n → ∀ tk, Q false { s with toks := tk }) :
    wpAny (model prog w) A (PySem.isTrue (.BoolOp .Or [.Compare (.Name (Str.ofString "kind") p1) [.Eq] [.Constant (.int 0) 0 p2] p3, .BoolOp .And [.Compare (.Name (Str.ofString "kind") p4) [.Eq] [.Constant (.int 2) 0 p5] p6, .Compare (.Name (Str.ofString "ink") p7) [.NotEq] [.Constant (.int 3) 0 p8] p9] p10] p11) (lawEnv L f cd) whole) Q E s := by
  iterate 2 walk1
  refine ev_local W.F.ns hk ?_
  iterate 3 walk1
  by_cases h0 : kOf n = 0
  · rw [if_pos (by rw [h0]; rfl)]
    exact hT (.inl h0) _
  · rw [if_neg (by simp; omega)]
    iterate 3 walk1
    refine ev_local W.F.ns hk ?_
    iterate 3 walk1
    by_cases h2 : kOf n = 2
    · rw [if_pos (by rw [h2]; rfl)]
      iterate 2 walk1
      refine ev_local W.F.ns hi ?_
      iterate 3 walk1
      by_cases h3 : iOf n = 3
      · rw [if_neg (by rw [h3]; decide), if_neg Bool.false_ne_true]
        walk1
        exact hF (fun q => by rcases q with q | q <;> omega) _
      · rw [if_pos (by simp; omega)]
        walk1
        rw [if_pos rfl]
        exact hT (.inr ⟨h2, h3⟩) _
    · rw [if_neg (by simp; omega), if_neg Bool.false_ne_true]
      walk1
      exact hF (fun q => by rcases q with q | q <;> omega) _
theorem law_if5b {gs : List Nat} {t1 t2 : Tok} {D R : Addr} {Q : Flow → Shared → Prop} (W : Lw base L b n rv zs ta tt m s.heap) (hk : m (Str.ofString "kind") = some (.int (kOf n : Nat) t1)) (hi : m (Str.ofString "ink") = some (.int (iOf n : Nat) t2)) (hnk : ¬ Hk n)
    (hb : m (Str.ofString "bare") = some .none) (hl : m (Str.ofString "loose") = some (.ref D)) (hr : m (Str.ofString "rests") = some (.ref R)) (rd : Rd s.heap (.ref D) (.list (lefts n gs))) (rr : Rd s.heap (.ref R) (.list (lefts n gs)))
    (hu : A.units + 200 < cLine)
    (hK : ∀ tk, wpAny (model prog w) A (execs ((bdOf (stOf 12)).drop 21) (lawEnv L f cd)) Q E { s with toks := tk }) :
    wpAny (model prog w) A (execs ((bdOf (stOf 12)).drop 20) (lawEnv L f cd)) Q E s := by
  have e : bdOf (stOf 12) = bdOf (stOf 12) := rfl
  conv at e => rhs; whnf
  rw [e] at hK ⊢
  clear e
  dsimp only [List.drop] at hK ⊢
  refine wpAny_execs_cons (wpAny_If ?_)
  refine hk_test W hk hi (fun q => absurd q hnk) (fun _ tk => ?_)
  rw [if_neg Bool.false_ne_true]
  refine wpAny_execs_cons (wpAny_If ?_)
  iterate 2 walk1
  refine ev_local W.F.ns hb ?_
  iterate 3 walk1
  rw [if_neg Bool.false_ne_true]
  iterate 2 walk1
  refine ev_local W.F.ns hl ?_
  refine ev_local W.F.ns hr ?_
  have hlay := lefts_lay n gs
  refine ne_same rd rr hlay.1 (by have := list_dep hlay.2; omega) ?_
  iterate 1 walk1
  rw [if_neg Bool.false_ne_true]
  iterate 1 walk1
  rw [if_neg Bool.false_ne_true]
  refine wpAny_pure ?_
  dsimp only
  refine wpAny_pure ?_
  dsimp only
  exact hK _
end
end Mine

namespace Mine
section
variable {prog : Program} {w : World} {A : Around} {E : Value → Shared → Prop} {s : Shared}
theorem di_call {d : Addr} {ks : List Value} {Q : Value → Shared → Prop} (hd : (d == sysModules) = false) (hm : DE s.heap d ks) (h : Q (.ref s.heap.objs.size) { s with heap := s.heap.push { cls := .type "dict_items", data := .fields #[.ref d] } }) :
    wpAny (model prog w) A (call (.builtin "dict.items") [.ref d]) Q E s := by
  obtain ⟨o, es, ep, ho, hc, hdat, he⟩ := hm
  have hT : s.TypeIs (.ref d) "dict" := ⟨o, ho, hc.1⟩
  refine wpAny_call_entry F.slot_dict_items hT F.entry_dict_items ?_ (F.args_dict_items_1 _)
  unfold Builtin.«dict.items»
  refine wpAny_bind ?_
  unfold Builtin.Dict.noArgs
  refine wpAny_bind (wpAny_notOrdered_dict hT ?_)
  show wpAny _ _ (pure d) _ _ s
  refine wpAny_pure ?_
  show wpAny _ _ (Builtin.Dict.showsAll d >>= _) _ _ s
  unfold Builtin.Dict.showsAll
  rw [if_neg (by rw [hd]; exact Bool.false_ne_true)]
  refine wpAny_bind (wpAny_pure ?_)
  exact wpAny_bind (wpAny_newObj_type (wpAny_pure ⟨_, rfl, h⟩))
theorem di_method {d : Addr} {ks : List Value} {pl : Sem Bool} {Q : Value × List Value → Shared → Prop} (hm : DE s.heap d ks) (h : Q (.builtin "dict.items", [.ref d]) s) : wpAny (model prog w) A (getMethod (.ref d) (Str.ofString "items") pl) Q E s := by
  obtain ⟨o, es, ep, ho, hc, hdat, he⟩ := hm
  exact getMethod_builtin (T := "dict") ⟨o, ho, hc.1⟩ PySem.F.plainAttrs_dict F.slot_dict_items F.type_dict_items (fun a e => by cases e; exact ⟨o, ho, hc.2.1⟩) h
end
theorem pairs_lay : ∀ ds : List PyData, PyData.canLayAll0 ds = true → PyData.canLayAll0 (ds.map pairD) = true ∧ PyData.depthAll (ds.map pairD) ≤ PyData.depthAll ds + 2
  | [], _ => by simp [PyData.canLayAll0, PyData.depthAll]
  | d :: ds, h => by
    have h2 : d.canLay0 = true ∧ PyData.canLayAll0 ds = true := by simpa [PyData.canLayAll0] using h
    have := pairs_lay ds h2.2
    simp only [List.map_cons, PyData.canLayAll0, PyData.depthAll, pairD, PyData.canLay0, PyData.depth, this.1, h2.1, Bool.and_self, true_and]
    omega
section
variable {prog : Program} {w : World} {A : Around} {E : Value → Shared → Prop} {s : Shared} {mg mb : Str → Option Value} {base : Heap} {L b : Nat} {f : Addr} {cd : Value} {n : Int} {rv : Value} {zs : List Int} {ta tt : Tok} {m : Str → Option Value}
theorem ev_items {x : Str} {d : Addr} {ks : List Value} {ds : List PyData} {c1 c2 c3 c4 : Nat} {p1 p2 p5 : Pos} {Q : Value → Shared → Prop} (G : Gd mg mb base) (W : Lw base L b n rv zs ta tt m s.heap) (hc : m x = some (.ref d)) (hx : (lawEnv L f cd).kindOf x = some .local) (hxd : (x == ("__debug__" : Str)) = false) (hds : (d == sysModules) = false)
    (hm : DE s.heap d ks) (r : RdAll s.heap ks ds) (hlen : ds.length ≤ 1000) (hh : A.handled = none)
    (hQ : ∀ R h' tk, Ext s.heap h' → Rd h' (.ref R) (.list (ds.map pairD)) → Q (.ref R) { s with heap := h', toks := tk }) :
    wpAny (model prog w) A (eval (.Call (.Name (Str.ofString "list") p1) [.Call (.Attribute (.Name x p2) (Str.ofString "items") ⟨84, c1, 84, c2⟩) [] [] ⟨84, c3, 84, c4⟩] [] p5) (lawEnv L f cd)) Q E s := by
  have G1 := G.ext W.F.keep
  walk1
  refine ev_bt (v := .type "list") G1 (by decide +kernel) (by decide +kernel) (by decide +kernel) ?_
  iterate 3 walk1
  refine ev_local W.F.ns hc ?_ rfl hx hxd
  refine di_method hm ?_
  iterate 1 walk1
  refine di_call hds hm ?_
  iterate 1 walk1
  have hkl : ks.length = ds.length := r.length
  refine di_list ⟨_, Heap.get?_push_size _ rfl, rfl, rfl⟩ (hm.ext (Ext.push _ _)) hh (by omega) (fun h' acc c x1 x2 x3 x4 => ?_)
  dsimp only at x1 x2 ⊢
  have x5 : Ext s.heap h' := Ext.trans (Ext.push _ _) x1
  refine hQ _ h' _ x5 (Rd.of_list ⟨_, x2, rfl, _, rfl⟩ (pairs_rd (r.ext x5) (by simpa using x3) (fun j k hj => ?_)))
  obtain ⟨a, q1, q2⟩ := x4 j k hj
  exact ⟨a, by simpa using q1, q2⟩
theorem law_if5g {gs : List Nat} {t1 t2 : Tok} {d1 d2 R : Addr} {k1 k2 : List Value} {Q : Flow → Shared → Prop} (G : Gd mg mb base) (W : Lw base L b n rv zs ta tt m s.heap) (hk : m (Str.ofString "kind") = some (.int (kOf n : Nat) t1)) (hi : m (Str.ofString "ink") = some (.int (iOf n : Nat) t2)) (hyk : Hk n)
    (hb : m (Str.ofString "bare") = some (.ref d1)) (hl : m (Str.ofString "loose") = some (.ref d2)) (hr : m (Str.ofString "rests") = some (.ref R)) (rr : Rd s.heap (.ref R) (.list (lefts n gs)))
    (e1 : DE s.heap d1 k1) (e2 : DE s.heap d2 k2) (r1 : RdAll s.heap k1 (lefts n gs)) (r2 : RdAll s.heap k2 (lefts n gs)) (n1 : d1 ≠ L) (n2 : d2 ≠ L) (s1 : (d1 == sysModules) = false) (s2 : (d2 == sysModules) = false)
    (hlen : gs.length ≤ 1000) (hh : A.handled = none) (hu : A.units + 200 < cLine)
    (hK : ∀ m' h' tk, (∀ x, x ≠ Str.ofString "wanted" → m' x = m x) → Lw base L b n rv zs ta tt m' h' → Go L s.heap h' → wpAny (model prog w) A (execs ((bdOf (stOf 12)).drop 21) (lawEnv L f cd)) Q E { s with heap := h', toks := tk }) :
    wpAny (model prog w) A (execs ((bdOf (stOf 12)).drop 20) (lawEnv L f cd)) Q E s := by
  have e : bdOf (stOf 12) = bdOf (stOf 12) := rfl
  conv at e => rhs; whnf
  rw [e] at hK ⊢
  clear e
  dsimp only [List.drop] at hK ⊢
  have hlay := lefts_lay n gs
  have hplay := pairs_lay (lefts n gs) hlay.1
  refine wpAny_execs_cons (wpAny_If ?_)
  refine hk_test W hk hi (fun _ tk => ?_) (fun q => absurd hyk q)
  rw [if_pos rfl]
  refine wpAny_execs_cons (asg (s := { s with toks := tk }) hh W.F ?_)
  refine ev_local W.F.ns hr ?_
  obtain ⟨_, vs, e, hl', ra⟩ := rr.list_inv
  cases e
  have hsz : vs.size = gs.length := by have := ra.length; simpa [lefts] using this
  refine ⟨vs.size, _, (lefts n gs).map pairD, .list hl' rfl rfl, by omega, by simp [lefts, hsz], hplay.1, Ext.rfl _, ⟨_, rfl⟩, ?_, fun D h' tk' F' g' r' => ?_⟩
  · clear hK
    intro i v d X C h tk m₂ E' Q' hd hP hns hm hx hX hQ'
    rw [List.getElem?_map] at hd
    obtain ⟨d', hd', rd'⟩ := ra.get' (k := i) (by simpa using hP)
    rw [hd'] at hd
    cases hd
    iterate 2 walk1
    refine ce_local hns hm ?_
    iterate 3 walk1
    refine wpAny_newTuple ?_
    dsimp only
    have rv' : Rd (hid (h.push { cls := .type "tuple", data := .seq #[v, .none] }) X) v d' := rd'.ext (hid_new (Ext.trans hx (Ext.push _ _)) (fresh_get hX).1)
    refine hQ' _ _ _ (Ext.push _ _) (Rd.of_tuple ⟨_, hid_get (Heap.get?_push_size _ rfl) (fun q => ?_), rfl, _, rfl⟩ (.cons rv' (.cons (Rd.none _) (.nil _))))
    obtain ⟨o, q2⟩ := (hX _ q).2
    exact Nat.lt_irrefl _ (Heap.lt_size q2)
  have W' := W.go g' F'.ns
  have sk' := g'.sk W.F.ns
  have e1' := e1.at fun o q => g' _ _ n1 q
  have e2' := e2.at fun o q => g' _ _ n2 q
  have r1' := r1.sk sk' hlay.1
  have r2' := r2.sk sk' hlay.1
  dsimp only
  refine wpAny_execs_cons (wpAny_If ?_)
  iterate 2 walk1
  refine ev_local W'.F.ns (v := .ref d1) (by with_unfolding_all exact hb) ?_
  iterate 3 walk1
  rw [if_neg Bool.false_ne_true]
  iterate 2 walk1
  refine ev_items (s := { s with heap := h', toks := _ }) G W' (d := d1) (by with_unfolding_all exact hb) (by rfl) (by decide) s1 e1' r1' (by simpa [lefts] using hlen) hh (fun R1 h1 tk1 x1 q1 => ?_)
  have W1 := W'.ext x1
  refine ev_local W1.F.ns (v := .ref D) (by with_unfolding_all rfl) ?_
  refine ne_same q1 (r'.ext x1) hplay.1 (by have := list_dep hplay.2; omega) ?_
  iterate 1 walk1
  rw [if_neg Bool.false_ne_true]
  iterate 2 walk1
  refine ev_items (s := { s with heap := h1, toks := _ }) G W1 (d := d2) (by with_unfolding_all exact hl) (by rfl) (by decide) s2 (e2'.ext x1) (r2'.ext x1) (by simpa [lefts] using hlen) hh (fun R2 h2 tk2 x2 q2 => ?_)
  have W2 := W1.ext x2
  refine ev_local W2.F.ns (v := .ref D) (by with_unfolding_all rfl) ?_
  refine ne_same q2 ((r'.ext x1).ext x2) hplay.1 (by have := list_dep hplay.2; omega) ?_
  iterate 1 walk1
  rw [if_neg Bool.false_ne_true]
  iterate 1 walk1
  rw [if_neg Bool.false_ne_true]
  refine wpAny_pure ?_
  dsimp only
  refine wpAny_pure ?_
  dsimp only
  exact hK _ h2 _ (fun x hx => by simp only [put]; rw [if_neg hx]) W2 (g'.trans ((Go.of_ext x1).trans (Go.of_ext x2)))
end
end Mine

namespace Mine
theorem nodup_len : ∀ (t : Nat) (l : List Nat), l.Nodup → (∀ x ∈ l, x < t) → l.length ≤ t
  | 0, l, _, h => by
    cases l with
    | nil => simp
    | cons x l => exact absurd (h x (List.mem_cons_self ..)) (Nat.not_lt_zero _)
  | t + 1, l, hn, h => by
    have h1 : (l.erase t).Nodup := hn.erase t
    have h2 : ∀ x ∈ l.erase t, x < t := fun x hx => by
      have := h x (List.mem_of_mem_erase hx)
      have hne : x ≠ t := fun q => by
        subst q
        exact hn.not_mem_erase hx
      omega
    have h3 := nodup_len t (l.erase t) h1 h2
    have h4 := List.length_erase (a := t) (l := l)
    split at h4 <;> omega
theorem fst1_short {t : Nat} (gs : List Nat) (h : ∀ x ∈ gs, x ≤ t) : (fst1 [] gs).length ≤ t + 1 :=
  nodup_len (t + 1) _ (fst1_nodup gs [] List.nodup_nil) fun x hx => Nat.lt_succ_of_le (fst1_le gs h x hx)
theorem eqv_ints : ∀ us vs : List Int, PyData.eqvAll (us.map PyData.int) (vs.map PyData.int) = decide (us = vs)
  | [], [] => by simp [PyData.eqvAll]
  | [], _ :: _ => by simp [PyData.eqvAll]
  | _ :: _, [] => by simp [PyData.eqvAll]
  | u :: us, v :: vs => by
    simp only [List.map_cons, PyData.eqvAll, PyData.eqv, eqv_ints us vs, List.cons.injEq]
    rw [Bool.eq_iff_iff]; simp
section
variable {prog : Program} {w : World} {A : Around} {E : Value → Shared → Prop} {s : Shared} {mg mb : Str → Option Value} {base : Heap} {L b : Nat} {f : Addr} {cd : Value} {n : Int} {rv : Value} {zs : List Int} {ta tt : Tok} {m : Str → Option Value}
theorem eq_rd {a b : Value} {d d' : PyData} {Q : Value → Shared → Prop} (ra : Rd s.heap a d) (rb : Rd s.heap b d') (hl : d.canLay0 = true) (hl' : d'.canLay0 = true) (hu : A.units + d.depth < cLine) (h : Q (.bool (PyData.eqv d d')) s) : wpAny (model prog w) A (compareOp .Eq a b) Q E s := by
  obtain ⟨as, ra⟩ := ra
  obtain ⟨bs, rb⟩ := rb
  exact SeqAt.rcAt_reads ra rb hl hl' (Nat.lt_of_le_of_lt (Nat.add_le_add_left (Nat.min_le_left _ _) _) hu) prog w E Q h
/-- sorted(_law_first(x)) -/
theorem ev_sorted {x : Str} {gs : List Nat} {tw : Addr} {p1 p2 p3 p4 p5 : Pos} {Q : Value → Shared → Prop} (G : Gd mg mb base) (W : Lw base L b n rv zs ta tt m s.heap) (hc : m x = some (.ref tw)) (hx : (lawEnv L f cd).kindOf x = some .local) (hxd : (x == ("__debug__" : Str)) = false)
    (rt : Rd s.heap (.ref tw) (.list (natsD gs))) (hgs : ∀ x ∈ gs, x ≤ aOf n + bOf n) (hlen : gs.length ≤ 1000) (hroom : A.depth + 10 < recursionLimit) (hh : A.handled = none) (hu : A.units + 200 < cLine)
    (hQ : ∀ D h' tk (us : List Int), Ext s.heap h' → Rd h' (.ref D) (.list (us.map .int)) → us.Perm ((fst1 [] gs).map fun g : Nat => (g : Int)) → us.Pairwise (· ≤ ·) → Q (.ref D) { s with heap := h', toks := tk }) :
    wpAny (model prog w) A (eval (.Call (.Name (Str.ofString "sorted") p1) [.Call (.Name (Str.ofString "_law_first") p2) [.Name x p3] [] p4] [] p5) (lawEnv L f cd)) Q E s := by
  have G1 := G.ext W.F.keep
  walk1
  refine ev_bt (v := .builtin "sorted") G1 (by decide +kernel) (by decide +kernel) (by decide +kernel) ?_
  iterate 2 walk1
  refine ev_first G W hc hx hxd rt hlen hroom hh hu (fun D h1 tk1 ys x1 x2 x3 => ?_)
  iterate 1 walk1
  have hyl : ys.length = (fst1 [] gs).length := by have := x3.length; simpa using this
  have hsh := fst1_short gs hgs
  have ha := aOf_le n
  have hb := bOf_le n
  refine sorted_ints (vs := ys) ⟨_, x2, rfl, _, rfl⟩ x3 (by omega) (fun out us q1 q2 q3 => ?_)
  dsimp only
  obtain ⟨e, he⟩ := sortedAll_at h1 ys out
  have x4 : Ext s.heap (sortedAll h1 ys out) := Ext.trans x1 (fun _ _ q => sortedAll_old q)
  exact hQ _ _ _ us x4 (Rd.of_list ⟨_, he, rfl, _, rfl⟩ ⟨_, q1.reads _⟩) q2 q3
/-- _compare_args_orderless(x, y) -/
theorem ev_cmp {x y : Str} {gs hs : List Nat} {cu oe : Addr} {p1 p2 p3 p4 : Pos} {Q : Value → Shared → Prop} (G : Gd mg mb base) (W : Lw base L b n rv zs ta tt m s.heap) (hc : m x = some (.ref cu)) (ho : m y = some (.ref oe)) (hx : (lawEnv L f cd).kindOf x = some .local) (hxd : (x == ("__debug__" : Str)) = false) (hy : (lawEnv L f cd).kindOf y = some .local) (hyd : (y == ("__debug__" : Str)) = false)
    (rc : Rd s.heap (.ref cu) (.list (lefts n gs))) (ro : Rd s.heap (.ref oe) (.list (lefts n hs))) (hlen : gs.length ≤ 1000) (hlen' : hs.length ≤ 1000)
    (hfr : A.frames = some [lawEnv L f cd]) (hroom : A.depth + 10 < recursionLimit) (hh : A.handled = none) (hu : A.units + 200 < cLine)
    (hQ : ∀ h' tk, ExtF [L] s.heap h' → Q (.bool (cmpD (dd [] (lefts n gs)) (dd [] (lefts n hs)))) { s with heap := h', toks := tk }) :
    wpAny (model prog w) A (eval (.Call (.Name (Str.ofString "_compare_args_orderless") p1) [.Name x p2, .Name y p3] [] p4) (lawEnv L f cd)) Q E s := by
  have G3 := G.ext W.F.keep
  obtain ⟨f5, hf5⟩ := G3.fn 5 (by decide)
  have hf5n : mg (Str.ofString "_compare_args_orderless") = some (.ref f5) := hf5.choose_spec.choose_spec.choose_spec.choose_spec.1
  obtain ⟨_, vs, e, hl, ra⟩ := rc.list_inv
  cases e
  obtain ⟨_, us, e, hl2, rb⟩ := ro.list_inv
  cases e
  have l1 := lefts_lay n gs
  have l2 := lefts_lay n hs
  walk1
  refine ev_fn G3 hf5n ?_
  refine cw_fn hf5 ?_
  iterate 1 walk1
  refine ev_local W.F.ns hc ?_ rfl hx hxd
  iterate 1 walk1
  refine ev_local W.F.ns ho ?_ rfl hy hyd
  iterate 1 walk1
  refine ⟨Ext.rfl _, ?_⟩
  exact cmp_call G3 hf5 (vs₁ := vs.toList) (vs₂ := us.toList) (by simpa using hl) ra (by simpa using hl2) rb l1.1 (Nat.le_succ_of_le l1.2) (by simpa [lefts] using hlen) l2.1 (Nat.le_succ_of_le l2.2) (by simpa [lefts] using hlen') hfr (frs_law W.F) (by omega) hh (by omega) (fun h' tk x' => hQ h' tk x')
theorem law_end {gs hs : List Nat} {tw on cu oe : Addr} {Q : Flow → Shared → Prop} (G : Gd mg mb base) (W : Lw base L b n rv zs ta tt m s.heap) (hc : m (Str.ofString "cuts") = some (.ref cu)) (ho : m (Str.ofString "ones") = some (.ref oe)) (ht : m (Str.ofString "twice") = some (.ref tw)) (hon : m (Str.ofString "once") = some (.ref on))
    (rc : Rd s.heap (.ref cu) (.list (lefts n gs))) (ro : Rd s.heap (.ref oe) (.list (lefts n hs))) (rt : Rd s.heap (.ref tw) (.list (natsD gs))) (rn : Rd s.heap (.ref on) (.list (natsD hs)))
    (hgs : ∀ x ∈ gs, x ≤ aOf n + bOf n) (hlen : gs.length ≤ 1000) (hhs : ∀ x ∈ hs, x ≤ aOf n + bOf n) (hlen' : hs.length ≤ 1000)
    (hfr : A.frames = some [lawEnv L f cd]) (hroom : A.depth + 10 < recursionLimit) (hh : A.handled = none) (hu : A.units + 200 < cLine)
    (hK : ∀ h' tk, Ext base h' → Q (.ret (.bool true)) { s with heap := h', toks := tk }) :
    wpAny (model prog w) A (execs ((bdOf (stOf 12)).drop 21) (lawEnv L f cd)) Q E s := by
  have e : bdOf (stOf 12) = bdOf (stOf 12) := rfl
  conv at e => rhs; whnf
  rw [e] at ⊢
  clear e
  dsimp only [List.drop] at ⊢
  refine wpAny_execs_cons ?_
  iterate 2 walk1
  refine ev_sorted G W ht (by rfl) (by decide) rt hgs hlen hroom hh hu (fun D1 h1 tk1 us x1 q1 q2 q3 => ?_)
  have W1 := W.ext x1
  refine ev_sorted (s := { s with heap := h1, toks := _ }) G W1 hon (by rfl) (by decide) (rn.ext x1) hhs hlen' hroom hh hu (fun D2 h2 tk2 vs x2 q4 q5 q6 => ?_)
  have W2 := W1.ext x2
  have ui := ints_lay us
  have vi := ints_lay vs
  refine eq_rd (q1.ext x2) q4 ui.1 vi.1 (by have := list_dep ui.2; omega) ?_
  rw [show PyData.eqv (.list (us.map .int)) (.list (vs.map .int)) = decide (us = vs) from by rw [PyData.eqv]; exact eqv_ints us vs]
  obtain ⟨cs1, cs2⟩ := cmp_sorted (ik_ok n) (a := aOf n) (b := bOf n) hgs hhs q2 q3 q5 q6
  replace cs1 : cmpD (dd [] (lefts n gs)) (dd [] (lefts n hs)) = decide (us = vs) := cs1
  replace cs2 : cmpD (dd [] (lefts n hs)) (dd [] (lefts n gs)) = decide (us = vs) := cs2
  refine st_local W2.F (fun h3 F3 g3 => ?_)
  dsimp only at g3 ⊢
  have g3' : Go L s.heap h3 := (Go.of_ext (Ext.trans x1 x2)).trans g3
  have W3 := W2.go g3 F3.ns
  have rc3 := rc.go W g3' (lefts_lay n gs).1
  have ro3 := ro.go W g3' (lefts_lay n hs).1
  generalize decide (us = vs) = al at cs1 cs2 W3 F3 ⊢
  clear g3 g3' W2 W1 q1 q4 rt rn ht hon W
  refine wpAny_execs_cons ?_
  iterate 3 walk1
  refine ev_cmp (s := { s with heap := h3, toks := _ }) G W3 (x := Str.ofString "cuts") (y := Str.ofString "ones") (by with_unfolding_all exact hc) (by with_unfolding_all exact ho) (by rfl) (by decide) (by rfl) (by decide) rc3 ro3 hlen hlen' hfr hroom hh hu (fun h4 tk4 x4 => ?_)
  rw [cs1]
  have g4 := Go.of_extF x4
  have W4 := W3.go g4 (ns_extF x4 W3.F.ns)
  refine ev_local W4.F.ns (v := .bool al) (by with_unfolding_all rfl) ?_
  iterate 1 walk1
  rw [show (al == al) = true from by cases al <;> rfl]
  iterate 1 walk1
  rw [if_pos rfl]
  iterate 2 walk1
  have rc4 := rc3.go W3 g4 (lefts_lay n gs).1
  have ro4 := ro3.go W3 g4 (lefts_lay n hs).1
  refine ev_cmp (s := { s with heap := h4, toks := _ }) G W4 (x := Str.ofString "ones") (y := Str.ofString "cuts") (by with_unfolding_all exact ho) (by with_unfolding_all exact hc) (by rfl) (by decide) (by rfl) (by decide) ro4 rc4 hlen' hlen hfr hroom hh hu (fun h5 tk5 x5 => ?_)
  rw [cs2]
  have g5 := Go.of_extF x5
  have W5 := W4.go g5 (ns_extF x5 W4.F.ns)
  refine ev_local W5.F.ns (v := .bool al) (by with_unfolding_all rfl) ?_
  iterate 1 walk1
  rw [show (al == al) = true from by cases al <;> rfl]
  dsimp only
  exact hK h5 _ W5.F.keep
end
end Mine

namespace Mine
section
variable {prog : Program} {w : World} {A : Around} {E : Value → Shared → Prop} {s : Shared} {mg mb : Str → Option Value} {base : Heap} {L : Nat} {f : Addr} {cd : Value}
/-- from the bags on -/
theorem law_tail {b : Nat} {n : Int} {rv : Value} {xs ys zs : List Int} {ta tt t1 t2 t3 : Tok} {m : Str → Option Value} {ws f3 : Addr} {Q : Flow → Shared → Prop} (G : Gd mg mb base) (hsys : ∃ o, base.get? sysModules = some o) (hf3 : DdAt mg base f3)
    (W : Lw base L b n rv zs ta tt m s.heap) (hk : m (Str.ofString "kind") = some (.int (kOf n : Nat) t1)) (hi : m (Str.ofString "ink") = some (.int (iOf n : Nat) t2)) (hbh : m (Str.ofString "behind") = some (.int (bOf n : Nat) t3))
    (hw : m (Str.ofString "ways") = some (.ref ws)) (rw' : Rd s.heap (.ref ws) (.list ((waysOf xs ys).map wayD)))
    (hxl : 0 < xs.length ∧ xs.length ≤ 11 ∧ ∀ x ∈ xs, -100 ≤ x ∧ x ≤ 100) (hyl : 0 < ys.length ∧ ys.length ≤ 11 ∧ ∀ x ∈ ys, -100 ≤ x ∧ x ≤ 100)
    (hfr : A.frames = some [lawEnv L f cd]) (hroom : A.depth + 10 < recursionLimit) (hh : A.handled = none) (hu : A.units + 200 < cLine)
    (hQ : ∀ h' tk, Ext base h' → Q (.ret (.bool true)) { s with heap := h', toks := tk }) :
    wpAny (model prog w) A (execs ((bdOf (stOf 12)).drop 9) (lawEnv L f cd)) Q E s := by
  have hzl : zs.length ≤ 11 := W.bag.2.2.1
  have hwl : (waysOf xs ys).length ≤ 121 := by rw [ways_len]; exact Nat.mul_le_mul hxl.2.1 hyl.2.1
  have hwp : 0 < (waysOf xs ys).length := by rw [ways_len]; exact Nat.mul_pos hxl.1 hyl.1
  have tg := twG_le n xs ys
  have og := onG_le n zs
  have tl : (twG n xs ys).length ≤ 1000 := by unfold twG; rw [List.length_map]; omega
  have tp : 0 < (twG n xs ys).length := by unfold twG; rw [List.length_map]; exact hwp
  have ol : (onG n zs).length ≤ 1000 := by unfold onG; rw [List.length_map]; omega
  have wl := ways_lay (waysOf xs ys)
  have tly := lefts_lay n (twG n xs ys)
  have oly := lefts_lay n (onG n zs)
  have sly := lefts_lay n (stG n)
  have tny := natsD_lay (twG n xs ys)
  have ony := natsD_lay (onG n zs)
  refine law_cuts G W hw rw' hxl.2.1 hyl.2.1 hroom hh hu (fun cu h1 k1 W1 g1 rc => ?_)
  refine law_ones (s := { s with heap := h1, toks := k1 }) G W1 hroom hh hu (fun oe h2 k2 W2 g2 ro => ?_)
  replace rc := rc.go W1 g2 tly.1
  refine law_steps (s := { s with heap := h2, toks := k2 }) G W2 hroom hh hu (fun st h3 k3 W3 g3 rs => ?_)
  replace rc := rc.go W2 g3 tly.1
  replace ro := ro.go W2 g3 oly.1
  have rw3 := rw'.go W (g1.trans (g2.trans g3)) wl.1
  refine law_twice (s := { s with heap := h3, toks := k3 }) G W3 (by with_unfolding_all exact hw) rw3 hxl.2 hyl.2 hroom hh hu (fun tw h4 k4 W4 g4 rt => ?_)
  replace rc := rc.go W3 g4 tly.1
  replace ro := ro.go W3 g4 oly.1
  replace rs := rs.go W3 g4 sly.1
  refine law_once (s := { s with heap := h4, toks := k4 }) G W4 hroom hh hu (fun on h5 k5 W5 g5 rn => ?_)
  replace rc := rc.go W4 g5 tly.1
  replace ro := ro.go W4 g5 oly.1
  replace rs := rs.go W4 g5 sly.1
  replace rt := rt.go W4 g5 tny.1
  clear g1 g2 g3 g4 g5 W1 W2 W3 W4 rw3
  refine law_if1 (s := { s with heap := h5, toks := k5 }) G W5 (by with_unfolding_all exact hk) (by with_unfolding_all exact hi) (by with_unfolding_all exact hbh) hroom hh hu (fun h6 k6 W6 x6 => ?_)
  refine law_if2 (s := { s with heap := h6, toks := k6 }) G W6 (cu := cu) (tw := tw) (by with_unfolding_all rfl) (by with_unfolding_all rfl) (rc.ext x6) (rt.ext x6) tg tl hroom hh hu (fun h7 k7 W7 x7 => ?_)
  refine law_if3 (s := { s with heap := h7, toks := k7 }) G W7 (cu := oe) (tw := on) (by with_unfolding_all rfl) (by with_unfolding_all rfl) ((ro.ext x6).ext x7) ((rn.ext x6).ext x7) og ol hroom hh hu (fun h8 k8 W8 x8 => ?_)
  have x58 : Ext h5 h8 := Ext.trans x6 (Ext.trans x7 x8)
  replace rc := rc.ext x58
  replace ro := ro.ext x58
  replace rs := rs.ext x58
  replace rt := rt.ext x58
  replace rn := rn.ext x58
  clear x6 x7 x8 W5 W6 W7 x58
  refine law_if4 (s := { s with heap := h8, toks := k8 }) G hsys hf3 W8 (st := st) (by with_unfolding_all rfl) rs hfr hroom hh hu (fun h9 k9 W9 g9 => ?_)
  replace rc := rc.go W8 g9 tly.1
  replace ro := ro.go W8 g9 oly.1
  replace rt := rt.go W8 g9 tny.1
  replace rn := rn.go W8 g9 ony.1
  refine law_rests (s := { s with heap := h9, toks := k9 }) G W9 (tw := tw) (by with_unfolding_all rfl) rt tg tl hroom hh hu (fun re h10 k10 W10 g10 rr => ?_)
  replace rc := rc.go W9 g10 tly.1
  replace ro := ro.go W9 g10 oly.1
  replace rt := rt.go W9 g10 tny.1
  replace rn := rn.go W9 g10 ony.1
  clear rs W8 W9 g9 g10
  have rly := lefts_lay n (fst1 [] (twG n xs ys))
  have edd := dd_lefts n (twG n xs ys) tg
  refine law_bl (s := { s with heap := h10, toks := k10 }) G hsys hf3 W10 (cu := cu) (by with_unfolding_all rfl) rc tg tp tl hfr hroom hh hu
    (fun hyk d1 d2 q1 q2 h11 k11 W11 g11 e1 e2 r1 r2 n1 n2 s1 s2 => ?_) (fun hnk D h11 k11 W11 g11 r1 => ?_)
  · rw [edd] at r1 r2
    replace rc := rc.go W10 g11 tly.1
    replace ro := ro.go W10 g11 oly.1
    replace rt := rt.go W10 g11 tny.1
    replace rn := rn.go W10 g11 ony.1
    replace rr := rr.go W10 g11 rly.1
    have rl : (fst1 [] (twG n xs ys)).length ≤ 1000 := Nat.le_trans (fst1_len _) tl
    refine law_if5g (s := { s with heap := h11, toks := k11 }) G W11 (t1 := t1) (t2 := t2) (d1 := d1) (d2 := d2) (R := re) (by with_unfolding_all exact hk) (by with_unfolding_all exact hi) hyk (by with_unfolding_all rfl) (by with_unfolding_all rfl) (by with_unfolding_all rfl) rr e1 e2 r1 r2 n1 n2 s1 s2 rl hh hu (fun m' h12 k12 hmm W12 g12 => ?_)
    replace rc := rc.go W11 g12 tly.1
    replace ro := ro.go W11 g12 oly.1
    replace rt := rt.go W11 g12 tny.1
    replace rn := rn.go W11 g12 ony.1
    exact law_end (s := { s with heap := h12, toks := k12 }) G W12 (cu := cu) (oe := oe) (tw := tw) (on := on) ((hmm _ (by decide)).trans (by with_unfolding_all rfl)) ((hmm _ (by decide)).trans (by with_unfolding_all rfl)) ((hmm _ (by decide)).trans (by with_unfolding_all rfl)) ((hmm _ (by decide)).trans (by with_unfolding_all rfl)) rc ro rt rn tg tl og ol hfr hroom hh hu hQ
  · rw [edd] at r1
    replace rc := rc.go W10 g11 tly.1
    replace ro := ro.go W10 g11 oly.1
    replace rt := rt.go W10 g11 tny.1
    replace rn := rn.go W10 g11 ony.1
    replace rr := rr.go W10 g11 rly.1
    refine law_if5b (s := { s with heap := h11, toks := k11 }) W11 (t1 := t1) (t2 := t2) (D := D) (R := re) (by with_unfolding_all exact hk) (by with_unfolding_all exact hi) hnk (by with_unfolding_all rfl) (by with_unfolding_all rfl) (by with_unfolding_all rfl) r1 rr hu (fun k12 => ?_)
    exact law_end (s := { s with heap := h11, toks := k12 }) G W11 (cu := cu) (oe := oe) (tw := tw) (on := on) (by with_unfolding_all rfl) (by with_unfolding_all rfl) (by with_unfolding_all rfl) (by with_unfolding_all rfl) rc ro rt rn tg tl og ol hfr hroom hh hu hQ
/-- the law's body -/
theorem law_body {l f3 : Addr} {vs : List Value} {ns : List Int} {m : Str → Option Value} {Q : Flow → Shared → Prop} (G : Gd mg mb base) (hsys : ∃ o, base.get? sysModules = some o) (hf3 : DdAt mg base f3) (hm : m (Str.ofString "script") = some (.ref l)) (hl : base.IsList l vs.toArray) (hi : IntsAre vs ns) (hlen : ns.length ≤ 63)
    (F : LF base L m none none none none s.heap) (hfr : A.frames = some [lawEnv L f cd]) (hroom : A.depth + 10 < recursionLimit) (hh : A.handled = none) (hu : A.units + 200 < cLine)
    (hQ : ∀ h' tk, Ext base h' → Q (.ret (.bool true)) { s with heap := h', toks := tk }) :
    wpAny (model prog w) A (execs (bdOf (stOf 12)) (lawEnv L f cd)) Q E s := by
  refine law_a m hm hl hi hlen F (fun D h1 k1 t F1 hD => ?_)
  refine law_b (s := { s with heap := h1, toks := k1 }) G _ (n := ns.headD 0) (t := t) (by with_unfolding_all rfl) F1 hroom hh hu (fun h2 k2 t1 t2 t3 t4 t5 rv F2 r2 sk2 => ?_)
  refine law_c (s := { s with heap := h2, toks := k2 }) _ (D := D) (vs := vs.take 10) (ks := ns.take 10) (by with_unfolding_all rfl) (isList_sk sk2 hD) (hi.take 10) (by simp; omega) F2 hh hu (fun h3 k3 m3 b hmm F3 B3 => ?_)
  obtain ⟨xs, b0⟩ := B3.bag 0 (by decide)
  obtain ⟨ys, b1⟩ := B3.bag 1 (by decide)
  obtain ⟨zs, b2⟩ := B3.bag 2 (by decide)
  refine law_d (s := { s with heap := h3, toks := k3 }) m3 F3 B3 (xs := xs) (ys := ys) (by simpa using b0) b1 hh (fun ws h4 k4 F4 g4 rw' => ?_)
  have sk4 := g4.sk F3.ns
  have W : Lw base L b (ns.headD 0) rv zs t4 t5 (put m3 "ways" (.ref ws)) h4 := ⟨F4, (r2.sk B3.sk (row_lay' _)).sk sk4 (row_lay' _), isList_sk sk4 B3.out, let ⟨⟨k, vs, q1, q2⟩, q3⟩ := b2; ⟨⟨k, vs, sk4 _ _ q1 ⟨_, _, rfl⟩, q2⟩, q3⟩⟩
  have hw : ∀ x, x ≠ Str.ofString "ways" → x ≠ Str.ofString "number" → (put m3 "ways" (.ref ws)) x = _ := fun x q1 q2 => (if_neg q1).trans (hmm x q2)
  exact law_tail (s := { s with heap := h4, toks := k4 }) G hsys hf3 W (t1 := t1) (t2 := t2) (t3 := t3) ((hw _ (by decide) (by decide)).trans (by with_unfolding_all rfl)) ((hw _ (by decide) (by decide)).trans (by with_unfolding_all rfl)) ((hw _ (by decide) (by decide)).trans (by with_unfolding_all rfl)) (by with_unfolding_all rfl) rw' b0.2 b1.2 hfr hroom hh hu hQ
end
end Mine

namespace Mine
open_top hd for PySem.Challenge.rw_nb0027_01
end Mine

namespace Mine
theorem fn_of {p : Program} {loose : List Str} {mean : ExcName → Option Value} {mg mb : Str → Option Value} {h : Heap} (T : Top p loose mean mg mb h) (i j : Nat)
    (e : ((recsOf p)[j]?).map (fun d => (d.name, d.params, d.body, d.scope)) = some (nmOf (stOf i), arOf (stOf i), bdOf (stOf i), scOf (stOf i))) : ∃ f, FnAt mg h i f := by
  cases q : (recsOf p)[j]? with
  | none => rw [q] at e; cases e
  | some d =>
    rw [q] at e
    have e' := Option.some.inj e
    obtain ⟨a, o, pm, code, doc, h1, h2, h3, h4⟩ := T.fn d (List.mem_of_getElem? q)
    obtain ⟨e1, e2, e3, e4⟩ : d.name = nmOf (stOf i) ∧ d.params = arOf (stOf i) ∧ d.body = bdOf (stOf i) ∧ d.scope = scOf (stOf i) := by
      simp only [Prod.mk.injEq] at e'; exact e'
    rw [e1] at h1 h3 h4
    rw [e2, e3, e4] at h3
    exact ⟨a, o, pm, code, doc, h1, h2, h3, h4⟩
theorem top_gd {mean : ExcName → Option Value} {mg mb : Str → Option Value} {h : Heap} (T : Top hd.view_39 (looseW hd.view_39 [Str.ofString "_deduplicate"]) mean mg mb h) : Gd mg mb h where
  g := T.g
  b := T.b
  nolimit := T.nolimit
  bt := T.builtins
  miss := by
    have key : ∀ x ∈ used, x ∉ startupNames ∧ x ∉ looseW hd.view_39 [Str.ofString "_deduplicate"] ∧ x ∉ (recsOf hd.view_39).map (·.name) ∧ x ∉ (litsOf hd.view_39).map (·.1) ∧ x ∉ (clssOf hd.view_39 (looseW hd.view_39 [Str.ofString "_deduplicate"])).map (·.name) := by decide +kernel
    intro x hx
    obtain ⟨a, b, c, d, e⟩ := key x hx
    exact T.free x a b c d e
  fn := by
    intro i hi
    simp only [List.mem_cons, List.not_mem_nil, or_false] at hi
    rcases hi with rfl | rfl | rfl | rfl | rfl | rfl | rfl | rfl
    · exact fn_of T 1 0 (by kernel_rfl)
    · exact fn_of T 4 1 (by kernel_rfl)
    · exact fn_of T 5 2 (by kernel_rfl)
    · exact fn_of T 7 3 (by kernel_rfl)
    · exact fn_of T 8 4 (by kernel_rfl)
    · exact fn_of T 9 5 (by kernel_rfl)
    · exact fn_of T 10 6 (by kernel_rfl)
    · exact fn_of T 11 7 (by kernel_rfl)
theorem top_sys {mean : ExcName → Option Value} {mg mb : Str → Option Value} {h : Heap} (T : Top hd.view_39 (looseW hd.view_39 [Str.ofString "_deduplicate"]) mean mg mb h) : ∃ o, h.get? sysModules = some o := by
  obtain ⟨_, ⟨o, _, _, q, _⟩, _⟩ := (T.seer (by decide +kernel)).mods
  exact ⟨o, q⟩
end Mine

namespace Mine
theorem top_dd {P : Params} {mg : Str → Option Value} {h : Heap} (X : (hd.heap_39 P).In h) (g : h.Ns mainGlobals mg) : DdAt mg h 29 := by
  refine ⟨_, 22, _, .ref 28, _, fun n => nsFind #[{ hash := PyData.keyHash P (Str.ofString "unhashable_fallback"), key := Value.str (Str.ofString "unhashable_fallback") 201, val := Value.bool false }] n, mg_of X g (by rfl), X 29 _ (by rfl), by rfl, ⟨28, _, _, _, rfl, X 28 _ (by rfl), rfl, by rfl⟩, ⟨_, _, _, X 22 _ (by rfl), rfl, ?_, fun _ => rfl⟩, by rfl⟩
  intro e he
  simp only [List.mem_toArray, List.mem_cons, List.not_mem_nil, or_false] at he
  subst he
  exact ⟨_, _, rfl⟩
end Mine

namespace Mine
theorem cells_of {base h : Heap} {L : Addr} {m : Str → Option Value} {o1 o2 o3 o4 : Obj} {c1 c2 c3 c4 : Option Value} (F : Fr base L h m) (N : News base L h [(L + 1 + 1 + 1 + 1, o4), (L + 1 + 1 + 1, o3), (L + 1 + 1, o2), (L + 1, o1)])
    (e4 : o4.data = .cell c4) (e3 : o3.data = .cell c3) (e2 : o2.data = .cell c2) (e1 : o1.data = .cell c1) : LF base L m c1 c2 c3 c4 h where
  ns := F.ns
  keep := F.keep
  above := F.above
  ahead := ⟨o1, (N (L + 1, o1) (by simp)).1, e1⟩
  total := ⟨o2, (N (L + 1 + 1, o2) (by simp)).1, e2⟩
  row := ⟨o3, (N (L + 1 + 1 + 1, o3) (by simp)).1, e3⟩
  bags := ⟨o4, (N (L + 1 + 1 + 1 + 1, o4) (by simp)).1, e4⟩
end Mine
theorem PySem.Challenge.cw_nb0027_01_holds : PySem.Challenge.rw_nb0027_01.Holds := by
  refine Mine.hd ?_
  w_strict (k_go0
            rename_i w s₀ s₁ mg mb G Y fa o pm doc ho hg KX X V GL T B TE TW a1 o1 M c1 c2 hcd ns hs hlay0 hL1 hr1 hl2 as1 as2 l vs as3 hL ra w1 r0 hI hr hc1 hc2 K0 hD h₁ tk₁ F q3 q2 q1 q0 d3 d2 d1 d0 N0 X0
            refine Mine.law_body (Mine.top_gd T) (Mine.top_sys T) (Mine.top_dd KX T.g) (l := l) ?_ hL hI ?_ (Mine.cells_of F N0 (c4 := none) (c3 := none) (c2 := none) (c1 := none) d3 d2 d1 d0) ?_ ?_ ?_ ?_ ?_
            · with_unfolding_all rfl
            · omega
            · rfl
            · show callerA.depth + 1 + 10 < recursionLimit
              decide +kernel
            · rfl
            · show callerA.units + 3 + 200 < cLine
              decide +kernel
            · intro h' tk x
              exact ⟨.inl ⟨.bool true, .bool true, [], rfl, fun _ => rfl, .bool true, by first | wrow_post | with_unfolding_all rfl, unshared_nil⟩, x, rfl, hg⟩)
