import PyProof.Rows.All
import Wide.All
import OpenK.AllK
import Wide.FinOn
import OpenK.ZGo
import PySem.Challenge.RW_sc0111_01
section
open PySem PySem.Calls PyProof.Rows
set_option Elab.async false
set_option maxRecDepth 100000
namespace Mine

/-! data -/
inductive D where
  | none | bool (b : Bool) | int (i : Int) | str (x : List Nat) | seq (t : Bool) (xs : List D)
  | ws (count : List Int) (trail nt : Int) | ptr (a : Addr)

noncomputable abbrev Gt := Addr → Option Obj
noncomputable def Le (g g' : Gt) : Prop := ∀ b o, g b = some o → g' b = some o
theorem Le.refl (g : Gt) : Le g g := fun _ _ e => e
theorem Le.trans {a b c : Gt} (x : Le a b) (y : Le b c) : Le a c := fun _ _ e => y _ _ (x _ _ e)

/-! the code tables of the functions that hold functions: they grow -/
structure TabR where
  c : Addr
  P : Addr
  pos : Pos
  qual : Str
noncomputable def tabL : List TabR := [⟨35, 31, ⟨49, 4, 53, 74⟩, "_str_to_int_inner.<locals>.inner"⟩, ⟨63, 59, ⟨89, 4, 98, 28⟩, "_int2digits.<locals>.inner"⟩, ⟨70, 66, ⟨104, 4, 109, 55⟩, "_digits2int.<locals>.inner"⟩]
noncomputable def tbs : List Addr := [31, 59, 66]
theorem tabL_tbs : ∀ t ∈ tabL, t.P ∈ tbs := by decide
noncomputable def IsCd (h : Heap) (c : Addr) (q : Str) : Prop := ∃ o vs t, h.get? c = some o ∧ o.data = .fields vs ∧ vs[1]? = some (.str q t)
noncomputable def TabOk (h : Heap) (t : TabR) : Prop := ∃ ps, h.get? t.P = some (PySem.W.tabObj ps) ∧ TriplesOk ps.toList ∧ (codeAmong t.pos ps.toList = none ∨ ∃ c, codeAmong t.pos ps.toList = some (.ref c) ∧ IsCd h c t.qual)
noncomputable def TI (h : Heap) : Prop := (∀ t ∈ tabL, TabOk h t) ∧ ∀ a ∈ tbs, a < h.objs.size
/-- an object that is no code and no table -/
noncomputable def NC (o : Obj) : Prop := (∀ vs, o.data ≠ .fields vs) ∨ (o.cls ≠ .none ∧ ∀ vs, o.data = .fields vs → ∀ q t, vs[1]? ≠ some (.str q t))
theorem TabOk.but {h h' : Heap} {a : Addr} {t : TabR} (x : TabOk h t) (k : ∀ b o, b ≠ a → h.get? b = some o → h'.get? b = some o) (n : ∀ o, h.get? a = some o → NC o) : TabOk h' t := by
  obtain ⟨ps, e, ht, hc⟩ := x
  have hP : t.P ≠ a := fun q => by
    rcases n _ (q ▸ e) with z | z
    · exact z ps rfl
    · exact z.1 rfl
  refine ⟨ps, k _ _ hP e, ht, hc.imp id fun ⟨c, q, o, vs, u, e1, e2, e3⟩ => ⟨c, q, o, vs, u, k _ _ (fun z => ?_) e1, e2, e3⟩⟩
  rcases n _ (z ▸ e1) with y | y
  · exact y vs e2
  · exact y.2 vs e2 _ _ e3
theorem size_le {h h' : Heap} (k : ∀ a ∈ tbs, ∀ o, h.get? a = some o → ∃ o', h'.get? a = some o') (t : TI h) : ∀ a ∈ tbs, a < h'.objs.size := fun a ha => by
  have hmem : ∃ r ∈ tabL, r.P = a := by revert a; decide
  obtain ⟨r, hr, rfl⟩ := hmem
  obtain ⟨ps, e, _⟩ := t.1 r hr
  obtain ⟨o', e'⟩ := k _ ha _ e
  exact Heap.lt_size e'
theorem TI.but {h h' : Heap} {a : Addr} (x : TI h) (k : ∀ b o, b ≠ a → h.get? b = some o → h'.get? b = some o) (n : ∀ o, h.get? a = some o → NC o) : TI h' := by
  have y : ∀ t ∈ tabL, TabOk h' t := fun t ht => (x.1 t ht).but k n
  refine ⟨y, fun a ha => ?_⟩
  have hmem : ∃ r ∈ tabL, r.P = a := by clear x y; revert a; decide
  obtain ⟨r, hr, rfl⟩ := hmem
  obtain ⟨ps, e, _⟩ := y r hr
  exact Heap.lt_size e
theorem TI.raw {h h' : Heap} (x : TI h) (k : ∀ b o, h.get? b = some o → h'.get? b = some o) : TI h' := by
  have y : ∀ t ∈ tabL, TabOk h' t := fun t ht => by
    obtain ⟨ps, e, h2, hc⟩ := x.1 t ht
    exact ⟨ps, k _ _ e, h2, hc.imp id fun ⟨c, q, o, vs, u, e1, e2⟩ => ⟨c, q, o, vs, u, k _ _ e1, e2⟩⟩
  refine ⟨y, fun a ha => ?_⟩
  have hmem : ∃ r ∈ tabL, r.P = a := by clear x y; revert a; decide
  obtain ⟨r, hr, rfl⟩ := hmem
  obtain ⟨ps, e, _⟩ := y r hr
  exact Heap.lt_size e
theorem TI.same {h h' : Heap} {a : Addr} (x : TI h) (k : Heap.SameBut a h h') (n : ∀ o, h.get? a = some o → NC o) : TI h' := x.but (fun b o q e => (k.2 b q).trans e) n
theorem TI.new {h : Heap} (x : TI h) : h.objs.size ∉ tbs := fun q => Nat.lt_irrefl _ (x.2 _ q)

noncomputable def vis (H : List Addr) (h : Heap) : Gt := fun a => if a ∈ H ++ tbs then none else h.get? a
noncomputable def gt (h : Heap) : Gt := vis [] h
theorem gt_get {h : Heap} {a : Addr} {o : Obj} (e : gt h a = some o) : h.get? a = some o := by
  unfold gt vis at e; split at e
  · cases e
  · exact e
theorem gt_tb {h : Heap} {a : Addr} {o : Obj} (e : gt h a = some o) : a ∉ tbs := by
  unfold gt vis at e; split at e
  · cases e
  · rename_i q; exact q
theorem gt_of {h : Heap} {a : Addr} {o : Obj} (e : h.get? a = some o) (q : a ∉ tbs) : gt h a = some o := by
  unfold gt vis; rw [if_neg (by simpa using q)]; exact e
theorem gt_none {h : Heap} {a : Addr} (e : h.get? a = none) : gt h a = none := by
  unfold gt vis; split
  · rfl
  · exact e
noncomputable def Rw (h h' : Heap) : Prop := Le (gt h) (gt h') ∧ (TI h → TI h')
theorem Rw.refl (h : Heap) : Rw h h := ⟨Le.refl _, fun x => x⟩
theorem Rw.trans {a b c : Heap} (x : Rw a b) (y : Rw b c) : Rw a c := ⟨x.1.trans y.1, fun z => y.2 (x.2 z)⟩
theorem Rw.raw {h h' : Heap} (k : ∀ b o, h.get? b = some o → h'.get? b = some o) : Rw h h' := ⟨fun b o e => gt_of (k _ _ (gt_get e)) (gt_tb e), fun x => x.raw k⟩
theorem gt_push_size {h : Heap} {o : Obj} (t : TI h) (ho : o.isFreed = false) : gt (h.push o) h.objs.size = some o := gt_of (Heap.get?_push_size _ ho) t.new
theorem vis_gt {H : List Addr} {h : Heap} {a : Addr} {o : Obj} (e : vis H h a = some o) : gt h a = some o := by
  unfold vis at e; split at e
  · cases e
  · rename_i q; exact gt_of e fun z => q (List.mem_append_right _ z)
theorem vis_le (H : List Addr) (h : Heap) : Le (vis H h) (gt h) := fun b o e => vis_gt e
theorem vis_get {H : List Addr} {h : Heap} {a : Addr} {o : Obj} (e : vis H h a = some o) : (gt h) a = some o ∧ a ∉ H := by
  refine ⟨vis_gt e, fun z => ?_⟩
  unfold vis at e; rw [if_pos (List.mem_append_left _ z)] at e; cases e
theorem vis_of {H : List Addr} {h : Heap} {a : Addr} {o : Obj} (e : (gt h) a = some o) (q : a ∉ H) : vis H h a = some o := by
  unfold vis; rw [if_neg fun z => (List.mem_append.mp z).elim q (gt_tb e)]; exact gt_get e
theorem vis_mono {H : List Addr} {h h' : Heap} (x : Le (gt h) (gt h')) : Le (vis H h) (vis H h') := fun b o e => by
  obtain ⟨e1, e2⟩ := vis_get e
  exact vis_of (x _ _ e1) e2
theorem vis_same {H : List Addr} {h h' : Heap} {a : Addr} (x : Heap.SameBut a h h') (ha : a ∈ H) : vis H h' = vis H h := by
  funext b
  unfold vis
  by_cases q : b ∈ H ++ tbs
  · rw [if_pos q, if_pos q]
  · rw [if_neg q, if_neg q]; exact x.2 b fun e => q (e ▸ List.mem_append_left _ ha)

noncomputable def tyName (t : Bool) : String := if t then "tuple" else "list"
noncomputable def IsSq (g : Gt) (t : Bool) (a : Addr) (vs : List Value) : Prop := ∃ o n, g a = some o ∧ o.cls = .type (tyName t) ∧ o.dict = none ∧ o.data = .seq vs.toArray n ∧ o.slots = #[]
theorem IsSq.mono {g g' : Gt} {t a vs} (x : Le g g') (y : IsSq g t a vs) : IsSq g' t a vs := let ⟨o, n, e, r⟩ := y; ⟨o, n, x _ _ e, r⟩
theorem IsSq.list {h : Heap} {a vs} (y : IsSq (gt h) false a vs) : h.IsList a vs.toArray := let ⟨o, n, e, c, _, d, _⟩ := y; ⟨o, gt_get e, c, n, d⟩
theorem IsSq.tuple {h : Heap} {a vs} (y : IsSq (gt h) true a vs) : h.IsTuple a vs.toArray := let ⟨o, n, e, c, _, d, _⟩ := y; ⟨o, gt_get e, c, n, d⟩
theorem IsSq.tup {h : Heap} {a vs} (y : IsSq (gt h) true a vs) : IsTup h a vs.toArray := let ⟨o, n, e, c, _, d, _⟩ := y; ⟨o, gt_get e, c, n, d⟩
theorem IsSq.plain {h : Heap} {a vs} (y : IsSq (gt h) false a vs) : PlainL h a vs.toArray := let ⟨o, n, e, c, k, d, _⟩ := y; ⟨o, n, gt_get e, c, k, d⟩
/-- a list, exactly -/
noncomputable def PlX (h : Heap) (a : Addr) (vs : List Value) : Prop := ∃ o n, h.get? a = some o ∧ o.cls = .type "list" ∧ o.dict = none ∧ o.data = .seq vs.toArray n ∧ o.slots = #[]
theorem PlX.plain {h : Heap} {a vs} (y : PlX h a vs) : PlainL h a vs.toArray := let ⟨o, n, e, c, k, d, _⟩ := y; ⟨o, n, e, c, k, d⟩
theorem PlX.isl {h : Heap} {a vs} (y : PlX h a vs) : ∃ n, IsL h a vs.toArray n := by
  obtain ⟨o, n, e, c, k, d, z⟩ := y
  obtain ⟨oc, od, oda, osl⟩ := o
  dsimp only at c k d z
  subst c k d z
  exact ⟨n, e⟩
theorem IsSq.plx {h : Heap} {a vs} (y : IsSq (gt h) false a vs) : PlX h a vs := let ⟨o, n, e, c, k, d, z⟩ := y; ⟨o, n, gt_get e, c, k, d, z⟩
theorem IsSq.lt {h : Heap} {t a vs} (y : IsSq (gt h) t a vs) : a < h.objs.size := let ⟨_, _, e, _⟩ := y; Heap.lt_size (gt_get e)
theorem IsSq.typeIs {s : Shared} {t a vs} (y : IsSq (gt s.heap) t a vs) : s.TypeIs (.ref a) (tyName t) := let ⟨o, _, e, c, _⟩ := y; ⟨o, gt_get e, c⟩

/-! an object of the class at C: its dict's entries -/
noncomputable abbrev WsAt (C : Addr) (g : Gt) (a : Addr) (es : List DictEntry) : Prop :=
  ∃ dx n, g a = some (PySem.W.instObj C dx) ∧ g dx = some (PySem.W.dictOf es n)
noncomputable def methN : List Str := ["longest_run_of_spaces", "indent_level", "not_equal_witness"]

noncomputable def WsR (C : Addr) (g : Gt) (count : List Int) (trail nt : Int) (v : Value) : Prop := ∃ a es vn t1 ac vc tt t2, v = .ref a ∧ WsAt C g a es ∧ (∀ m ∈ methN, PySem.W.getL m es = some none) ∧
      PySem.W.getL "norm" es = some (some (.ref vn)) ∧ PySem.W.getL "nt" es = some (some (.int nt t1)) ∧ IsSq g true vn [.ref ac, .int trail t2] ∧
      IsSq g true ac vc ∧ vc = (count.zip tt).map (fun p => Value.int p.1 p.2) ∧ tt.length = count.length
theorem WsR.mono {C : Addr} {g g' : Gt} (x : Le g g') {c tr nt v} (h : WsR C g c tr nt v) : WsR C g' c tr nt v := by
  obtain ⟨a, es, vn, t1, ac, vc, tt, t2, e, ⟨dx, n, q1, q2⟩, hk, g1, g2, i1, i2, r⟩ := h
  exact ⟨a, es, vn, t1, ac, vc, tt, t2, e, ⟨dx, n, x _ _ q1, x _ _ q2⟩, hk, g1, g2, i1.mono x, i2.mono x, r⟩

mutual
noncomputable def Rep (C : Addr) (g : Gt) : D → Value → Prop
  | .none, v => v = .none
  | .bool b, v => v = .bool b
  | .int i, v => ∃ t, v = .int i t
  | .str x, v => ∃ t, v = .str ⟨x.toArray⟩ t
  | .ptr a, v => v = .ref a
  | .seq t xs, v => ∃ a vs, v = .ref a ∧ IsSq g t a vs ∧ Reps C g xs vs
  | .ws count trail nt, v => WsR C g count trail nt v
noncomputable def Reps (C : Addr) (g : Gt) : List D → List Value → Prop
  | [], vs => vs = []
  | d :: ds, vs => ∃ v r, vs = v :: r ∧ Rep C g d v ∧ Reps C g ds r
end

theorem Rep.intI {C : Addr} {g : Gt} {i v} (h : Rep C g (.int i) v) : ∃ t, v = .int i t := h
theorem Rep.boolI {C : Addr} {g : Gt} {b v} (h : Rep C g (.bool b) v) : v = .bool b := h
theorem Rep.strI {C : Addr} {g : Gt} {x v} (h : Rep C g (.str x) v) : ∃ t, v = .str ⟨x.toArray⟩ t := h
theorem Rep.ptrI {C : Addr} {g : Gt} {a v} (h : Rep C g (.ptr a) v) : v = .ref a := h
theorem Rep.wsI {C : Addr} {g : Gt} {c t n v} (h : Rep C g (.ws c t n) v) : WsR C g c t n v := h
theorem Rep.seqI {C : Addr} {g : Gt} {t xs v} (h : Rep C g (.seq t xs) v) : ∃ a vs, v = .ref a ∧ IsSq g t a vs ∧ Reps C g xs vs := h
theorem Rep.mkI {C : Addr} {g : Gt} {i t} : Rep C g (.int i) (.int i t) := ⟨t, rfl⟩
theorem Rep.mkB {C : Addr} {g : Gt} {b} : Rep C g (.bool b) (.bool b) := rfl
theorem Rep.mkS {C : Addr} {g : Gt} {x t} : Rep C g (.str x) (.str ⟨x.toArray⟩ t) := ⟨t, rfl⟩
theorem Rep.mkP {C : Addr} {g : Gt} {a} : Rep C g (.ptr a) (.ref a) := rfl
theorem Rep.mkQ {C : Addr} {g : Gt} {t xs a vs} (h : IsSq g t a vs) (r : Reps C g xs vs) : Rep C g (.seq t xs) (.ref a) := ⟨a, vs, rfl, h, r⟩
theorem Reps.nilI {C : Addr} {g : Gt} {vs} (h : Reps C g [] vs) : vs = [] := h
theorem Reps.consI {C : Addr} {g : Gt} {d ds vs} (h : Reps C g (d :: ds) vs) : ∃ v r, vs = v :: r ∧ Rep C g d v ∧ Reps C g ds r := h
theorem Reps.mkN {C : Addr} {g : Gt} : Reps C g [] [] := rfl
theorem Reps.mkC {C : Addr} {g : Gt} {d ds v r} (a : Rep C g d v) (b : Reps C g ds r) : Reps C g (d :: ds) (v :: r) := ⟨v, r, rfl, a, b⟩

mutual
theorem Rep.mono {C : Addr} {g g' : Gt} (x : Le g g') : ∀ (d : D) (v : Value), Rep C g d v → Rep C g' d v
  | .none, _, h => h
  | .bool _, _, h => h
  | .ptr _, _, h => h
  | .int _, _, h => h
  | .str _, _, h => h
  | .seq _ xs, _, h => let ⟨a, vs, e, q, r⟩ := h.seqI; ⟨a, vs, e, q.mono x, Reps.mono x xs vs r⟩
  | .ws .., _, h => WsR.mono x h
theorem Reps.mono {C : Addr} {g g' : Gt} (x : Le g g') : ∀ (ds : List D) (vs : List Value), Reps C g ds vs → Reps C g' ds vs
  | [], _, h => h
  | d :: ds, _, ⟨v, r, e, a, b⟩ => ⟨v, r, e, Rep.mono x d v a, Reps.mono x ds r b⟩
end

theorem Reps.length {C : Addr} {g : Gt} : ∀ {ds : List D} {vs : List Value}, Reps C g ds vs → vs.length = ds.length
  | [], _, h => congrArg List.length h.nilI
  | _ :: _, _, ⟨_, _, e, _, b⟩ => e ▸ congrArg Nat.succ (Reps.length b)
theorem Reps.get {C : Addr} {g : Gt} : ∀ {ds : List D} {vs : List Value} {i : Nat} {d : D}, Reps C g ds vs → ds[i]? = some d → ∃ v, vs[i]? = some v ∧ Rep C g d v
  | [], _, _, _, _, e => nomatch e
  | _ :: _, _, 0, _, ⟨v, _, q, a, _⟩, e => ⟨v, q ▸ rfl, Option.some.inj e ▸ a⟩
  | _ :: _, _, _ + 1, _, ⟨_, _, q, _, b⟩, e => let ⟨v', e', r'⟩ := Reps.get b e; ⟨v', q ▸ e', r'⟩
theorem Reps.append {C : Addr} {g : Gt} : ∀ {ds es : List D} {vs us : List Value}, Reps C g ds vs → Reps C g es us → Reps C g (ds ++ es) (vs ++ us)
  | [], _, _, _, h, k => h.nilI ▸ k
  | _ :: _, _, _, _, ⟨v, _, q, a, b⟩, k => q ▸ ⟨v, _, rfl, a, Reps.append b k⟩
theorem Reps.set {C : Addr} {g : Gt} : ∀ {ds : List D} {vs : List Value} {i : Nat} {d : D} {v : Value}, Reps C g ds vs → Rep C g d v → Reps C g (ds.set i d) (vs.set i v)
  | [], _, _, _, _, h, _ => h.nilI ▸ rfl
  | _ :: _, _, 0, _, y, ⟨_, r, q, _, b⟩, k => q ▸ ⟨y, r, rfl, k, b⟩
  | _ :: _, _, _ + 1, _, _, ⟨v, _, q, a, b⟩, k => q ▸ ⟨v, _, rfl, a, Reps.set b k⟩
theorem Reps.reverse {C : Addr} {g : Gt} : ∀ {ds : List D} {vs : List Value}, Reps C g ds vs → Reps C g ds.reverse vs.reverse
  | [], _, h => h.nilI ▸ rfl
  | d :: ds, _, ⟨v, r, q, a, b⟩ => by
    rw [q, List.reverse_cons, List.reverse_cons]
    exact (Reps.reverse b).append (.mkC a .mkN)
theorem Reps.drop {C : Addr} {g : Gt} : ∀ {ds : List D} {vs : List Value} (n : Nat), Reps C g ds vs → Reps C g (ds.drop n) (vs.drop n)
  | _, _, 0, h => h
  | [], _, n + 1, h => h.nilI ▸ rfl
  | _ :: _, _, n + 1, ⟨_, _, q, _, b⟩ => q ▸ Reps.drop n b

/-! heaps that only grow -/
noncomputable def Kp (s s' : Shared) : Prop := ∃ h t d, s' = { s with heap := h, toks := t, drawn := d } ∧ Rw s.heap h
theorem Kp.refl (s : Shared) : Kp s s := ⟨s.heap, s.toks, s.drawn, rfl, Rw.refl _⟩
theorem Kp.trans {a b c : Shared} (x : Kp a b) (y : Kp b c) : Kp a c := by
  obtain ⟨h, t, d, rfl, k⟩ := x
  obtain ⟨h', t', d', rfl, k'⟩ := y
  exact ⟨h', t', d', rfl, Rw.trans k k'⟩
theorem Kp.le {a b : Shared} (x : Kp a b) : Le (gt a.heap) (gt b.heap) := by
  obtain ⟨h, t, d, rfl, k⟩ := x; exact k.1
theorem Kp.ti {a b : Shared} (x : Kp a b) : TI a.heap → TI b.heap := by
  obtain ⟨h, t, d, rfl, k⟩ := x; exact k.2
theorem Kp.rw {a b : Shared} (x : Kp a b) : Rw a.heap b.heap := by
  obtain ⟨h, t, d, rfl, k⟩ := x; exact k
theorem Kp.of {s : Shared} {h : Heap} {t : Nat} (k : Rw s.heap h) : Kp s { s with heap := h, toks := t } := ⟨h, t, _, rfl, k⟩
theorem Kp.tok (s : Shared) (t : Nat) : Kp s { s with toks := t } := ⟨s.heap, t, _, rfl, Rw.refl _⟩
theorem Kp.dr (s : Shared) (d : Drawn) : Kp s { s with drawn := d } := ⟨s.heap, _, d, rfl, Rw.refl _⟩
theorem rw_push (h : Heap) (o : Obj) : Rw h (h.push o) := Rw.raw fun _ _ e => Heap.get?_push_of_some _ e
theorem le_push (h : Heap) (o : Obj) : Le (gt h) (gt (h.push o)) := (rw_push h o).1

theorem len_1 {l : List Value} (h : l.length = 1) : ∃ a, l = [a] := List.length_eq_one_iff.mp h
theorem len_2 {l : List Value} (h : l.length = 2) : ∃ a b, l = [a, b] := by
  cases l with
  | nil => cases h
  | cons a l => obtain ⟨b, rfl⟩ := len_1 (Nat.succ.inj h); exact ⟨a, b, rfl⟩
theorem len_3 {l : List Value} (h : l.length = 3) : ∃ a b c, l = [a, b, c] := by
  cases l with
  | nil => cases h
  | cons a l => obtain ⟨b, c, rfl⟩ := len_2 (Nat.succ.inj h); exact ⟨a, b, c, rfl⟩
theorem len_4 {l : List Value} (h : l.length = 4) : ∃ a b c d, l = [a, b, c, d] := by
  cases l with
  | nil => cases h
  | cons a l => obtain ⟨b, c, d, rfl⟩ := len_3 (Nat.succ.inj h); exact ⟨a, b, c, d, rfl⟩
theorem len_5 {l : List Value} (h : l.length = 5) : ∃ a b c d e, l = [a, b, c, d, e] := by
  cases l with
  | nil => cases h
  | cons a l => obtain ⟨b, c, d, e, rfl⟩ := len_4 (Nat.succ.inj h); exact ⟨a, b, c, d, e, rfl⟩
noncomputable abbrev E0 : Value → Shared → Prop := fun _ _ => False

end Mine
end

section
open PySem PySem.Calls PyProof.Rows
set_option Elab.async false
set_option maxRecDepth 100000
namespace Mine
theorem strLid_lt : 100000 < sizeLine := by decide
noncomputable abbrev strLid : Nat := 100000

/-- results of an operation -/
noncomputable abbrev Yl (prog : Program) (w : World) (C : Addr) (H : List Addr) (A : Around) (t : Sem Value) (s : Shared) (d : D) : Prop :=
  wpAny (model prog w) A t (fun v s' => Kp s s' ∧ Rep C (vis H s'.heap) d v) E0 s
noncomputable def BinR (o : Operator) (a b d : D) : Prop := ∀ prog w C H A s g va vb, Rep C g a va → Rep C g b vb → Yl prog w C H A (binaryOp o va vb) s d
noncomputable def UnR (o : UnaryOp) (a d : D) : Prop := ∀ prog w C H A s g va, Rep C g a va → Yl prog w C H A (unaryOp o va) s d

theorem bin_int {o : Operator} {a b r : Int} (h : ∀ prog w A s t u (Q : Value → Shared → Prop), (∀ v tk, Q (.int r v) { s with toks := tk }) → wpAny (model prog w) A (binaryOp o (.int a t) (.int b u)) Q E0 s) : BinR o (.int a) (.int b) (.int r) := by
  intro prog w C H A s g va vb ha hb
  obtain ⟨t, rfl⟩ := ha.intI
  obtain ⟨u, rfl⟩ := hb.intI
  exact h _ _ _ _ _ _ _ fun v tk => ⟨Kp.tok .., .mkI⟩
theorem bAdd {a b : Int} : BinR .Add (.int a) (.int b) (.int (a + b)) := bin_int fun _ _ _ _ _ _ _ q => P.add_int (q ..)
theorem bSub {a b : Int} : BinR .Sub (.int a) (.int b) (.int (a - b)) := bin_int fun _ _ _ _ _ _ _ q => P.sub_int (q ..)
theorem bMul {a b : Int} (h : Builtin.Int.intBits a ≤ 64 ∨ Builtin.Int.intBits b ≤ 64) : BinR .Mult (.int a) (.int b) (.int (a * b)) := bin_int fun _ _ _ _ _ _ _ q => P.mul_int (q ..) (h.elim IntMulOk.of_left IntMulOk.of_right)
theorem bDiv {a b : Int} (h : b ≠ 0) (k : b.natAbs.log2 < 9000) : BinR .FloorDiv (.int a) (.int b) (.int (a.fdiv b)) := bin_int fun _ _ _ _ _ _ _ q => floordiv_int h (q ..) (Or.inl (PyProof.noPylong_of_log2 k))
theorem bMod {a b : Int} (h : b ≠ 0) : BinR .Mod (.int a) (.int b) (.int (a.fmod b)) := bin_int fun _ _ _ _ _ _ _ q => mod_int' h (q ..)
theorem bPow {a n : Int} (h : 0 ≤ n) (k : (Builtin.Int.intBits a : Int) * n ≤ 2 ^ 27) : BinR .Pow (.int a) (.int n) (.int (a ^ n.toNat)) := bin_int fun _ _ _ _ _ _ _ q => pow_int h k (q ..)
theorem bShl {a n : Int} (h : 0 ≤ n) (k : (Builtin.Int.intBits a : Int) + n ≤ 2 ^ 27) : BinR .LShift (.int a) (.int n) (.int (a * 2 ^ n.toNat)) := bin_int fun _ _ _ _ _ _ _ q => lshift_int h k (q ..)
theorem bShr {a n : Int} (h : 0 ≤ n) : BinR .RShift (.int a) (.int n) (.int (a.fdiv (2 ^ n.toNat))) := bin_int fun _ _ _ _ _ _ _ q => rshift_int h (q ..)
theorem bXor {a b : Int} : BinR .BitXor (.int a) (.int b) (.int (Builtin.bitXor a b)) := bin_int fun _ _ _ _ _ _ _ q => xor_int (q ..)
theorem str_len (z : List Nat) : (⟨z.toArray⟩ : Str).length = z.length := List.size_toArray
theorem bCat {x y : List Nat} (h : x.length + y.length ≤ strLid) : BinR .Add (.str x) (.str y) (.str (x ++ y)) := by
  intro prog w C H A s g va vb ha hb
  obtain ⟨t, rfl⟩ := ha.strI
  obtain ⟨u, rfl⟩ := hb.strI
  refine P.add_str ?_
  by_cases h1 : ((⟨x.toArray⟩ : Str).length == 0) = true
  · rw [if_pos h1]
    have : x = [] := by rw [str_len] at h1; exact List.eq_nil_of_length_eq_zero (eq_of_beq h1)
    subst this
    exact ⟨Kp.refl s, .mkS⟩
  · rw [if_neg h1]
    by_cases h2 : ((⟨y.toArray⟩ : Str).length == 0) = true
    · rw [if_pos h2]
      have : y = [] := by rw [str_len] at h2; exact List.eq_nil_of_length_eq_zero (eq_of_beq h2)
      subst this
      rw [List.append_nil]
      exact ⟨Kp.refl s, .mkS⟩
    · rw [if_neg h2]
      have e2 : ((⟨x.toArray⟩ : Str) ++ (⟨y.toArray⟩ : Str)) = ⟨(x ++ y).toArray⟩ := by
        apply Str.ext'
        rw [Str.cps_append, List.append_toArray]
      rw [e2]
      refine ⟨?_, Kp.tok .., .mkS⟩
      rw [str_len, List.length_append]
      exact Nat.le_trans h (Nat.le_of_lt strLid_lt)
theorem foldl_app : ∀ (l : List (Array Nat)) (acc : Array Nat), (l.foldl (· ++ ·) acc).toList = acc.toList ++ (l.map Array.toList).flatten
  | [], acc => by simp
  | a :: r, acc => by rw [List.foldl_cons, foldl_app r, Array.toList_append, List.append_assoc]; rfl
theorem mulStr_eq (c : Nat) (n : Int) (h0 : 0 ≤ n) : (Txt.mul ⟨#[c]⟩ n) = ⟨(List.replicate n.toNat c).toArray⟩ := by
  apply Str.ext'
  unfold Txt.mul
  by_cases h1 : n < 1
  · have : n = 0 := by omega
    subst this
    rfl
  · rw [if_neg h1]
    by_cases h2 : (n == 1 || (⟨#[c]⟩ : Str).length == 0) = true
    · rw [if_pos h2]
      have : n = 1 := by
        rcases Bool.or_eq_true_iff.mp h2 with e | e
        · exact eq_of_beq e
        · cases e
      subst this
      rfl
    · rw [if_neg h2]
      apply Array.ext'
      rw [foldl_app]
      simp
theorem bRepS {c : Nat} {n : Int} (h0 : 0 ≤ n) (h1 : n ≤ 1000) : BinR .Mult (.str [c]) (.int n) (.str (List.replicate n.toNat c)) := by
  intro prog w C H A s g va vb ha hb
  obtain ⟨t, rfl⟩ := ha.strI
  obtain ⟨u, rfl⟩ := hb.intI
  refine SB.mul ⟨?_, ?_, ?_⟩ fun t' k => ?_
  · simp only [Bool.or_eq_false_iff, decide_eq_false_iff_not]; omega
  · intro h1 _ h3
    have h4 : (2 ^ 63 - 1 : Int) / n ≥ 1 := by
      apply (Int.le_ediv_iff_mul_le (by omega)).mpr
      omega
    have h5 : ((⟨[c].toArray⟩ : Str).length : Int) = 1 := rfl
    rw [h5] at h3
    omega
  · intro h1 _
    have : (⟨[c].toArray⟩ : Str).length * n.toNat ≤ 1 * 1000 := Nat.mul_le_mul (Nat.le_refl _) (by omega)
    simp only [Builtin.Str.tooLong, sizeLine]
    exact decide_eq_false (by omega)
  · rw [show (⟨[c].toArray⟩ : Str) = ⟨#[c]⟩ from rfl, mulStr_eq c n h0]
    exact ⟨Kp.tok s k, .mkS⟩
theorem uNeg {a : Int} : UnR .USub (.int a) (.int (-a)) := by
  intro prog w C H A s g va ha
  obtain ⟨t, rfl⟩ := ha.intI
  exact P.neg_int ⟨Kp.tok .., .mkI⟩
theorem uInv {a : Int} : UnR .Invert (.int a) (.int (Builtin.bitNot a)) := by
  intro prog w C H A s g va ha
  obtain ⟨t, rfl⟩ := ha.intI
  exact invert_int ⟨Kp.tok .., .mkI⟩

/-! comparisons -/
noncomputable def CmpR (o : CmpOp) (a b : D) (c : Bool) : Prop := ∀ prog w C A s va vb (Q : Value → Shared → Prop), Rep C (gt s.heap) a va → Rep C (gt s.heap) b vb → A.units + 64 < cLine → Q (.bool c) s → wpAny (model prog w) A (compareOp o va vb) Q E0 s
theorem cmp_int {o : CmpOp} {a b : Int} {c : Bool} (h : ∀ prog w A s t u (Q : Value → Shared → Prop), Q (.bool c) s → wpAny (model prog w) A (compareOp o (.int a t) (.int b u)) Q E0 s) : CmpR o (.int a) (.int b) c := by
  intro prog w C A s va vb Q ha hb hu q
  obtain ⟨t, rfl⟩ := ha.intI
  obtain ⟨u, rfl⟩ := hb.intI
  exact h _ _ _ _ _ _ _ q
theorem cEq {a b : Int} : CmpR .Eq (.int a) (.int b) (a == b) := cmp_int fun _ _ _ _ _ _ _ q => P.eq_int q
theorem cNe {a b : Int} : CmpR .NotEq (.int a) (.int b) (a != b) := cmp_int fun _ _ _ _ _ _ _ q => P.ne_int q
theorem cLt {a b : Int} : CmpR .Lt (.int a) (.int b) (decide (a < b)) := cmp_int fun _ _ _ _ _ _ _ q => P.lt_int q
theorem cLe {a b : Int} : CmpR .LtE (.int a) (.int b) (decide (a ≤ b)) := cmp_int fun _ _ _ _ _ _ _ q => P.le_int q
theorem cGt {a b : Int} : CmpR .Gt (.int a) (.int b) (decide (a > b)) := cmp_int fun _ _ _ _ _ _ _ q => P.gt_int q
theorem cGe {a b : Int} : CmpR .GtE (.int a) (.int b) (decide (a ≥ b)) := cmp_int fun _ _ _ _ _ _ _ q => P.ge_int q
theorem cEqS {x y : List Nat} : CmpR .Eq (.str x) (.str y) (x == y) := by
  intro prog w C A s va vb Q ha hb hu q
  obtain ⟨t, rfl⟩ := ha.strI
  obtain ⟨u, rfl⟩ := hb.strI
  exact P.eq_str q

/-! the same data are equal -/
mutual
inductive PlD : Nat → D → PyData → Prop where
  | int {n} (i : Int) : PlD n (.int i) (.int i)
  | tup {n xs ps} : PlDs n xs ps → PlD (n + 1) (.seq true xs) (.tuple ps)
  | lst {n xs ps} : PlDs n xs ps → PlD (n + 1) (.seq false xs) (.list ps)
inductive PlDs : Nat → List D → List PyData → Prop where
  | nil {n} : PlDs n [] []
  | cons {n d p xs ps} : PlD n d p → PlDs n xs ps → PlDs n (d :: xs) (p :: ps)
end
mutual
theorem PlD.lay : ∀ {n d p}, PlD n d p → p.canLay0 = true ∧ p.depth ≤ n
  | _, _, _, .int i => ⟨by simp only [PyData.canLay0], by simp only [PyData.depth]; omega⟩
  | _, _, _, .tup h => by simp only [PyData.canLay0, PyData.depth]; exact ⟨h.lay.1, by have := h.lay.2; omega⟩
  | _, _, _, .lst h => by simp only [PyData.canLay0, PyData.depth]; exact ⟨h.lay.1, by have := h.lay.2; omega⟩
theorem PlDs.lay : ∀ {n xs ps}, PlDs n xs ps → PyData.canLayAll0 ps = true ∧ PyData.depthAll ps ≤ n
  | _, _, _, .nil => ⟨by simp only [PyData.canLayAll0], by simp only [PyData.depthAll]; omega⟩
  | _, _, _, .cons a b => by simp only [PyData.canLayAll0, PyData.depthAll, a.lay.1, b.lay.1, Bool.and_self, true_and]; have := a.lay.2; have := b.lay.2; omega
end
mutual
theorem PlD.same : ∀ {n d p}, PlD n d p → PyData.eqv p p = true
  | _, _, _, .int i => by simp [PyData.eqv]
  | _, _, _, .tup h => by simp only [PyData.eqv]; exact h.same
  | _, _, _, .lst h => by simp only [PyData.eqv]; exact h.same
theorem PlDs.same : ∀ {n xs ps}, PlDs n xs ps → PyData.eqvAll ps ps = true
  | _, _, _, .nil => by simp only [PyData.eqvAll]
  | _, _, _, .cons a b => by simp only [PyData.eqvAll, a.same, b.same, Bool.and_self]
end
mutual
theorem PlD.reads {C : Addr} {h : Heap} : ∀ {n d p v}, PlD n d p → Rep C (gt h) d v → ∃ as, Reads h v p as
  | _, _, _, _, .int i, r => by obtain ⟨t, rfl⟩ := r.intI; exact ⟨[], .int i t⟩
  | _, _, _, _, .tup k, r => by
    obtain ⟨a, vs, rfl, ⟨o, m, e, c, _, dd, _⟩, r⟩ := r.seqI
    obtain ⟨as, q⟩ := k.reads r
    exact ⟨as, reads_tuple_at (gt_get e) c dd q⟩
  | _, _, _, _, .lst k, r => by
    obtain ⟨a, vs, rfl, ⟨o, m, e, c, _, dd, _⟩, r⟩ := r.seqI
    obtain ⟨as, q⟩ := k.reads r
    exact ⟨_, reads_list_at (gt_get e) c dd q⟩
theorem PlDs.reads {C : Addr} {h : Heap} : ∀ {n xs ps vs}, PlDs n xs ps → Reps C (gt h) xs vs → ∃ as, ReadsAll h vs ps as
  | _, _, _, _, .nil, r => by cases r.nilI; exact ⟨[], .nil⟩
  | _, _, _, _, .cons a b, r => by
    obtain ⟨v, r', rfl, x, y⟩ := r.consI
    obtain ⟨as, q⟩ := a.reads x
    obtain ⟨bs, p⟩ := b.reads y
    exact ⟨_, .cons q p⟩
end
theorem cNeSame {d : D} {p : PyData} (k : PlD 4 d p) : CmpR .NotEq d d false := by
  intro prog w C A s va vb Q ha hb hu q
  obtain ⟨as, ra⟩ := k.reads ha
  obtain ⟨bs, rb⟩ := k.reads hb
  have sh : SeqAt.shaped p = true := by
    unfold SeqAt.shaped
    rw [k.lay.1, Bool.true_and]
    exact decide_eq_true (Nat.le_trans k.lay.2 (by decide))
  exact ne_dataH ra rb sh sh hu (by rw [k.same]; exact q)

noncomputable def truthD : D → Option Bool
  | .bool b => some b
  | .int i => some (i != 0)
  | _ => none
theorem truth_int {C g i va} {prog : Program} {w : World} {A : Around} {s : Shared} {Q : Bool → Shared → Prop} {E : Value → Shared → Prop} (ha : Rep C g (.int i) va) (h : Q (i != 0) s) : wpAny (model prog w) A (truthy va) Q E s := by
  obtain ⟨t, rfl⟩ := ha.intI
  exact P.truthy_int h
theorem truth_bool {C g b va} {M : Model} {A : Around} {s : Shared} {Q : Bool → Shared → Prop} {E : Value → Shared → Prop} (ha : Rep C g (.bool b) va) (h : Q b s) : wpAny M A (truthy va) Q E s := by
  cases ha.boolI
  exact wpAny_truthy_bool h
end Mine
end

section
open PySem PySem.Calls PyProof.Rows
set_option Elab.async false
set_option maxRecDepth 100000
namespace Mine
noncomputable def intText (a : Int) : List Nat := (Str.ofString (toString a)).cps.toList
structure HBd (H : List Addr) (h : Heap) : Prop where
  ti : TI h
  al : ∀ b ∈ H, ∃ o, (gt h) b = some o
theorem HBd.mono {H : List Addr} {h h' : Heap} (x : HBd H h) (k : Rw h h') : HBd H h' := ⟨k.2 x.ti, fun b hb => let ⟨o, e⟩ := x.al b hb; ⟨o, k.1 _ _ e⟩⟩
theorem get_size (h : Heap) : (gt h) h.objs.size = none :=
  gt_none (Option.eq_none_iff_forall_ne_some.mpr fun _ e => absurd (Heap.lt_size e) (Nat.lt_irrefl _))
theorem get_size' {h h' : Heap} (k : Le (gt h) (gt h')) : (gt h) h'.objs.size = none :=
  Option.eq_none_iff_forall_ne_some.mpr fun _ e => absurd (Heap.lt_size (gt_get (k _ _ e))) (Nat.lt_irrefl _)
theorem isSq_push {h : Heap} (T : TI h) (t : Bool) (vs : List Value) : IsSq (gt (h.push { cls := .type (tyName t), data := .seq vs.toArray })) t h.objs.size vs :=
  ⟨_, 0, gt_push_size T rfl, rfl, rfl, rfl, rfl⟩
theorem vis_push {H : List Addr} (h : Heap) (o : Obj) : Le (vis H h) (vis H (h.push o)) := vis_mono (le_push h o)
/-- a made sequence that lies outside H -/
theorem mk_seq {C : Addr} {H : List Addr} {t : Bool} {xs : List D} {vs : List Value} {h : Heap} (HB : HBd H h) (hr : Reps C (vis H h) xs vs) :
    Rep C (vis H (h.push { cls := .type (tyName t), data := .seq vs.toArray })) (.seq t xs) (.ref h.objs.size) := by
  obtain ⟨o, n, e, r⟩ := isSq_push HB.ti t vs
  refine .mkQ ⟨o, n, vis_of e (fun q => ?_), r⟩ (hr.mono (vis_push _ _))
  obtain ⟨o', e'⟩ := HB.al _ q
  rw [get_size] at e'; cases e'

noncomputable def BiR (f : Value) (ds : List D) (d : D) : Prop := ∀ prog w C H A s vs, A.handled = none → HBd H s.heap → Reps C (vis H s.heap) ds vs → Yl prog w C H A (call f vs) s d
theorem Reps.one {C g d vs} (h : Reps C g [d] vs) : ∃ v, vs = [v] ∧ Rep C g d v := by
  obtain ⟨v, r, rfl, a, b⟩ := h.consI
  cases b.nilI
  exact ⟨v, rfl, a⟩
theorem Reps.two {C g d e vs} (h : Reps C g [d, e] vs) : ∃ v u, vs = [v, u] ∧ Rep C g d v ∧ Rep C g e u := by
  obtain ⟨v, r, rfl, a, b⟩ := h.consI
  obtain ⟨u, rfl, c⟩ := b.one
  exact ⟨v, u, rfl, a, c⟩
theorem small_63 {n : Nat} (h : n ≤ strLid) : (n : Int) < 2 ^ 63 := by have : n ≤ 100000 := h; omega
theorem biLen {t : Bool} {xs : List D} (hl : xs.length ≤ strLid) : BiR (.builtin "len") [.seq t xs] (.int xs.length) := by
  intro prog w C H A s vs hh HB hr
  obtain ⟨v, rfl, r⟩ := hr.one
  obtain ⟨a, us, rfl, hs, r⟩ := r.seqI
  have hs' := hs.mono (vis_le H s.heap)
  have hlen : us.toArray.size = xs.length := List.size_toArray.trans r.length
  rw [← hlen] at hl ⊢
  cases t with
  | true => exact len_tuple hs'.tup (small_63 hl) ⟨Kp.tok .., .mkI⟩
  | false => exact len_list hs'.list (small_63 hl) ⟨Kp.tok .., .mkI⟩
theorem biLenS {x : List Nat} (hl : x.length ≤ strLid) : BiR (.builtin "len") [.str x] (.int x.length) := by
  intro prog w C H A s vs hh HB hr
  obtain ⟨v, rfl, r⟩ := hr.one
  obtain ⟨t, rfl⟩ := r.strI
  rw [← str_len] at hl ⊢
  exact P.len_str (Int.not_le.mpr (small_63 hl)) ⟨Kp.tok .., .mkI⟩
theorem biMax {a b : Int} : BiR (.builtin "max") [.int a, .int b] (.int (if b > a then b else a)) := by
  intro prog w C H A s vs hh HB hr
  obtain ⟨v, u, rfl, ra, rb⟩ := hr.two
  obtain ⟨t, rfl⟩ := ra.intI
  obtain ⟨t', rfl⟩ := rb.intI
  refine max_two_ints hh fun h' tk k => ?_
  by_cases c : b > a
  · rw [if_pos c, if_pos c]; exact ⟨Kp.of (Rw.raw k), .mkI⟩
  · rw [if_neg c, if_neg c]; exact ⟨Kp.of (Rw.raw k), .mkI⟩
theorem biMin {a b : Int} : BiR (.builtin "min") [.int a, .int b] (.int (if b < a then b else a)) := by
  intro prog w C H A s vs hh HB hr
  obtain ⟨v, u, rfl, ra, rb⟩ := hr.two
  obtain ⟨t, rfl⟩ := ra.intI
  obtain ⟨t', rfl⟩ := rb.intI
  refine min_two_ints hh fun h' tk k => ?_
  by_cases c : b < a
  · rw [if_pos c, if_pos c]; exact ⟨Kp.of (Rw.raw k), .mkI⟩
  · rw [if_neg c, if_neg c]; exact ⟨Kp.of (Rw.raw k), .mkI⟩
theorem biAbs {a : Int} : BiR (.builtin "abs") [.int a] (.int (if a < 0 then -a else a)) := by
  intro prog w C H A s vs hh HB hr
  obtain ⟨v, rfl, r⟩ := hr.one
  obtain ⟨t, rfl⟩ := r.intI
  exact call_abs_int fun u tk => ⟨Kp.tok .., .mkI⟩
theorem biStr {a : Int} (h : a.natAbs.log2 < 1920) : BiR (.type "str") [.int a] (.str (intText a)) := by
  intro prog w C H A s vs hh HB hr
  obtain ⟨v, rfl, r⟩ := hr.one
  obtain ⟨t, rfl⟩ := r.intI
  exact P.str_of_int h ⟨Kp.tok .., _, rfl⟩
theorem biDivmod {a b : Int} (h : b ≠ 0) (k : Builtin.divisionGoesByPylong a b = false) : BiR (.builtin "divmod") [.int a, .int b] (.seq true [.int (a.fdiv b), .int (a.fmod b)]) := by
  intro prog w C H A s vs hh HB hr
  obtain ⟨v, u, rfl, ra, rb⟩ := hr.two
  obtain ⟨t, rfl⟩ := ra.intI
  obtain ⟨t', rfl⟩ := rb.intI
  exact divmod_int h ⟨Kp.of (rw_push _ _), mk_seq HB (t := true) (vs := [_, _]) (.mkC .mkI (.mkC .mkI .mkN))⟩ (Or.inl k)
theorem biTuple {xs : List D} (hl : xs.length ≤ strLid) : BiR (.type "tuple") [.seq false xs] (.seq true xs) := by
  intro prog w C H A s vs hh HB hr
  obtain ⟨v, rfl, r⟩ := hr.one
  obtain ⟨a, us, rfl, hs, r⟩ := r.seqI
  refine call_tuple_list (hs.mono (vis_le H s.heap)).list (fun h' k => ?_) (by rw [List.size_toArray, r.length]; exact Nat.le_trans hl (Nat.le_of_lt strLid_lt))
  have k1 : Rw s.heap h' := Rw.raw k
  exact ⟨Kp.of (k1.trans (rw_push _ _)), mk_seq (HB.mono k1) (t := true) (r.mono (vis_mono k1.1))⟩

/-! items -/
inductive IdxR : D → Int → D → Prop where
  | pos {t xs d} (j : Nat) : xs[j]? = some d → j < 100000 → IdxR (.seq t xs) j d
  | last {t xs d} : IdxR (.seq t (xs ++ [d])) (-1) d
  | str {x c} (j : Nat) : x[j]? = some c → j < 100000 → IdxR (.str x) j (.str [c])
theorem idx_pos {n j : Nat} (h : j < n) : seqIndex? (j : Int) n = some j := by
  unfold seqIndex?
  have h1 : ¬ ((j : Int) < 0) := by omega
  simp only [h1, if_false]
  rw [if_pos (by simp; omega)]
  simp
theorem idx_last {n : Nat} : seqIndex? (-1) (n + 1) = some n := by
  rw [seqIndex_neg (by omega) (by omega)]; congr 1; omega
theorem idx_get {C : Addr} {a d : D} {i : Int} {va : Value} {t : Tok} {g : Gt} {prog : Program} {w : World} {A : Around} {s : Shared} {Q : Value → Shared → Prop} {E : Value → Shared → Prop} (hg : Le g (gt s.heap)) (ha : Rep C g a va) (e : IdxR a i d)
    (h : ∀ v tk, Rep C g d v → Q v { s with toks := tk }) : wpAny (model prog w) A (getItem va (.int i t)) Q E s := by
  cases e with
  | @pos t xs d j hx hj =>
    obtain ⟨l, vs, rfl, hs, hr⟩ := ha.seqI
    obtain ⟨v, e3, hv⟩ := hr.get hx
    have hs' := hs.mono hg
    have hlt : j < vs.length := (List.getElem?_eq_some_iff.mp e3).1
    cases t with
    | true => exact getItem_tuple hs'.tup (by omega) (by omega) (j := j) (by rw [List.size_toArray]; exact idx_pos hlt) (by rw [List.getElem?_toArray]; exact e3) (h v s.toks hv)
    | false => exact wpAny_getItem_list hs'.list (by omega) (by omega) (by rw [Int.toNat_natCast, List.getElem?_toArray]; exact e3) (h v s.toks hv)
  | @last t xs d =>
    obtain ⟨l, vs, rfl, hs, hr⟩ := ha.seqI
    have hlen := hr.length
    rw [List.length_append] at hlen
    obtain ⟨v, e3, hv⟩ := hr.get (i := xs.length) (d := d) (by simp)
    have hs' := hs.mono hg
    have hl : vs.length = xs.length + 1 := hlen
    cases t with
    | true => exact getItem_tuple hs'.tup (by omega) (by omega) (j := xs.length) (by rw [List.size_toArray, hl]; exact idx_last) (by rw [List.getElem?_toArray]; exact e3) (h v s.toks hv)
    | false => exact wpAny_getItem_list_neg hs'.list (by omega) (by rw [List.size_toArray, hl]; omega) (by omega) (by rw [List.size_toArray, hl, List.getElem?_toArray, ← e3]; congr 1; omega) (h v s.toks hv)
  | @str x c j hx hj =>
    obtain ⟨u, rfl⟩ := ha.strI
    have hlt : j < x.length := (List.getElem?_eq_some_iff.mp hx).1
    refine P.getItem_str (c := c) (by simp only [Bool.or_eq_false_iff, decide_eq_false_iff_not]; omega) ?_ (h _ _ .mkS)
    rw [str_len, idx_pos hlt]
    simpa using hx
end Mine
end

section
open PySem PySem.Calls PyProof.Rows
set_option Elab.async false
set_option maxRecDepth 100000
namespace Mine

inductive Sl where
  | un | fr (d : D) | ow (xs : List D)
noncomputable abbrev Sc := List (Str × NameKind)
noncomputable def biL : List (Str × Value) := [("len", .builtin "len"), ("max", .builtin "max"), ("min", .builtin "min"), ("abs", .builtin "abs"), ("str", .type "str"), ("divmod", .builtin "divmod"), ("tuple", .type "tuple"), ("range", .type "range"),
  ("reversed", .type "reversed"), ("sum", .builtin "sum"), ("int", .type "int"), ("set", .type "set")]
structure Cx where
  prog : Program
  w : World
  K : PySem.W.Frag
  h0 : Heap
  C : Addr
  mg : Str → Option Value
  mb : Str → Option Value
noncomputable def tokD (c : Nat) : Option Int := match [(33, 54), (37, 24), (38, 19), (40, 7), (41, 8), (42, 16), (43, 14), (44, 12), (45, 15), (46, 23), (47, 17), (58, 11), (59, 13), (60, 20), (61, 22), (62, 21), (64, 49), (91, 9), (93, 10), (94, 32), (123, 25), (124, 18), (125, 26), (126, 31)].lookup c with
  | some i => some i
  | none => none
noncomputable def attrN : List Str := ["norm", "nt"]
structure Wd (X : Cx) : Prop where
  tb : ∀ a ∈ tbs, X.h0.get? a = none
  g : X.h0.Ns mainGlobals X.mg
  b : X.h0.Ns builtinsNs X.mb
  nl : X.h0.NoLimit
  kin : X.K.In X.h0
  bi : ∀ p ∈ biL, X.mg p.1 = none ∧ X.mb p.1 = some p.2
  hd : PySem.W.hasDictIn X.K X.C = true
  cd : ∀ t ∈ tabL, PySem.W.CodeHd X.h0 t.c t.P
  bn : ∀ t ∈ tabL, X.h0.BuiltinsAt X.mg t.P
  at_ : ∀ n ∈ attrN, PySem.W.plainGet X.K X.C n = true ∧ PySem.W.findIn X.K (.ref X.C) n = some none
  tok : ∃ a f, X.mg "EXACT_TOKEN_TYPES" = some (.ref a) ∧ X.h0.MapOf (strKind X.prog X.w) a f ∧ (a == sysModules) = false ∧
    ∀ c : Nat, match tokD c with | some i => ∃ t, f ⟨#[c]⟩ = some (.int i t) | none => f ⟨#[c]⟩ = none
/-- a function of the module, a method of the class -/
noncomputable def GFn (X : Cx) (n : Str) (a : Addr) : Prop := X.mg n = some (.ref a) ∧ ∃ o fd, X.h0.get? a = some o ∧ o.data = .func fd
noncomputable def MFn (X : Cx) (n : Str) (a : Addr) : Prop := n ∈ methN ∧ PySem.W.plainGet X.K X.C n = true ∧ PySem.W.findIn X.K (.ref X.C) n = some (some (.ref a)) ∧ PySem.W.isFn X.K (.ref a) = true ∧
    ∃ o fd, X.h0.get? a = some o ∧ o.data = .func fd

noncomputable def NsV (h : Heap) (a : Addr) (m : Str → Option Value) : Prop := h.Ns a m ∧ a ∉ tbs
noncomputable def CelV (h : Heap) (c : Addr) (v : Option Value) : Prop := h.IsCell c v ∧ c ∉ tbs
theorem NsV.at' {h h' : Heap} {a m} (x : NsV h a m) (e : ∀ o, gt h a = some o → gt h' a = some o) : NsV h' a m := ⟨x.1.at' fun o q => gt_get (e o (gt_of q x.2)), x.2⟩
theorem NsV.keeps {h h' : Heap} {a m} (x : NsV h a m) (k : Le (gt h) (gt h')) : NsV h' a m := x.at' fun o e => k _ _ e
theorem NsV.sameBut {h h' : Heap} {a b m} (x : NsV h a m) (s : Heap.SameBut b h h') (n : a ≠ b) : NsV h' a m := ⟨x.1.sameBut s n, x.2⟩
theorem CelV.at' {h h' : Heap} {a v} (x : CelV h a v) (e : ∀ o, gt h a = some o → gt h' a = some o) : CelV h' a v := let ⟨⟨o, q, r⟩, n⟩ := x; ⟨⟨o, gt_get (e o (gt_of q n)), r⟩, n⟩
theorem CelV.keeps {h h' : Heap} {a v} (x : CelV h a v) (k : Le (gt h) (gt h')) : CelV h' a v := x.at' fun o e => k _ _ e
theorem CelV.sameBut {h h' : Heap} {a b v} (x : CelV h a v) (s : Heap.SameBut b h h') (n : a ≠ b) : CelV h' a v := ⟨x.1.sameBut s n, x.2⟩
theorem nc_data {o : Obj} (h : ∀ vs, o.data ≠ .fields vs) : NC o := .inl h
theorem NsV.nc {h : Heap} {a m} (x : NsV h a m) : ∀ o, h.get? a = some o → NC o := fun o e => by
  obtain ⟨⟨o', es, ep, e1, e2, _⟩, _⟩ := x
  cases e.symm.trans e1
  exact nc_data fun vs q => nomatch e2.symm.trans q
theorem CelV.nc {h : Heap} {a v} (x : CelV h a v) : ∀ o, h.get? a = some o → NC o := fun o e => by
  obtain ⟨⟨o', e1, e2⟩, _⟩ := x
  cases e.symm.trans e1
  exact nc_data fun vs q => nomatch e2.symm.trans q
theorem NsV.al {h : Heap} {a m} (x : NsV h a m) : ∃ o, gt h a = some o := let ⟨⟨o, _, _, e, _⟩, n⟩ := x; ⟨o, gt_of e n⟩
theorem CelV.al {h : Heap} {a v} (x : CelV h a v) : ∃ o, gt h a = some o := let ⟨⟨o, e, _⟩, n⟩ := x; ⟨o, gt_of e n⟩

noncomputable def VarAt (env : Env) (h : Heap) (x : Str) (v : Value) : Prop :=
  (env.kindOf x = some .local ∧ ∃ m, NsV h env.locals m ∧ m x = some v) ∨ ((env.kindOf x = some .cell ∨ env.kindOf x = some .free) ∧ ∃ c, env.cells.lookup x = some c ∧ CelV h c (some v))
theorem VarAt.mono {env : Env} {h h' : Heap} {x : Str} {v : Value} (k : Le (gt h) (gt h')) (z : VarAt env h x v) : VarAt env h' x v :=
  z.imp (fun ⟨a, m, b, c⟩ => ⟨a, m, b.keeps k, c⟩) fun ⟨a, c, b, d⟩ => ⟨a, c, b, d.keeps k⟩
noncomputable def SlotOk (C : Addr) (H : List Addr) (G : Nat → Addr) (env : Env) (h : Heap) (i : Nat) (x : Str) : Sl → Prop
  | .un => True
  | .fr d => ∃ v, VarAt env h x v ∧ Rep C (vis H h) d v
  | .ow xs => ∃ vs, VarAt env h x (.ref (G i)) ∧ IsSq (gt h) false (G i) vs ∧ Reps C (vis H h) xs vs
theorem SlotOk.up {C : Addr} {H H' : List Addr} {G : Nat → Addr} {env : Env} {h h' : Heap} {i : Nat} {x : Str} {sl : Sl} (va : ∀ u, VarAt env h x u → VarAt env h' x u) (sq : ∀ xs vs, sl = .ow xs → IsSq (gt h) false (G i) vs → IsSq (gt h') false (G i) vs)
    (v : Le (vis H h) (vis H' h')) (z : SlotOk C H G env h i x sl) : SlotOk C H' G env h' i x sl := by
  cases sl with
  | un => trivial
  | fr d => obtain ⟨u, a, b⟩ := z; exact ⟨u, va u a, b.mono v⟩
  | ow xs => obtain ⟨vs, a, b, c⟩ := z; exact ⟨vs, va _ a, sq xs vs rfl b, c.mono v⟩
theorem SlotOk.mono {C H G env} {h h' : Heap} {i x sl} (k : Le (gt h) (gt h')) (z : SlotOk C H G env h i x sl) : SlotOk C H G env h' i x sl :=
  z.up (fun _ a => a.mono k) (fun _ _ _ b => b.mono k) (vis_mono k)

/-- what stands still in a frame: the world, the room, the names -/
structure Fx where
  X : Cx
  k : Nat
  nm : List Str
  sc : Sc
  cl : List (Str × Addr)
structure EvSt (F : Fx) (H : List Addr) (G : Nat → Addr) (env : Env) (σ : List Sl) (s : Shared) : Prop where
  kind : env.scope.kind = .function
  glb : env.globals = mainGlobals
  blt : env.builtins = builtinsNs
  gk : ∀ x, F.sc.lookup x = some .globalImplicit → env.kindOf x = some .globalImplicit
  ck : ∀ x, F.sc.lookup x = some .cell → env.kindOf x = some .cell ∧ ∃ c, env.cells.lookup x = some c
  vars : ∀ i x sl, F.nm[i]? = some x → σ[i]? = some sl → SlotOk F.X.C H G env s.heap i x sl
  nms : ∀ x ∈ F.nm, (x == ("__debug__" : Str)) = false ∧ (x == ("__classdict__" : Str)) = false
  hb : HBd H s.heap
  w0 : Le F.X.h0.get? (gt s.heap)
  tk : 1 ≤ s.toks
  W : Wd F.X
  clo : ∀ p ∈ F.cl, env.cells.lookup p.1 = some p.2 ∧ env.kindOf p.1 ≠ some .local
theorem kle {a b : Shared} (x : Kp a b) : Le (gt a.heap) (gt b.heap) := Kp.le x
theorem ktr {a b c : Shared} (x : Kp a b) (y : Kp b c) : Kp a c := Kp.trans x y
theorem w0r {h0 h : Heap} (x : Le h0.get? (gt h)) : ∀ b o, h0.get? b = some o → h.get? b = some o := fun b o e => gt_get (x b o e)
/-- grown, and no token lost -/
noncomputable def Gr (s s' : Shared) : Prop := Kp s s' ∧ s.toks ≤ s'.toks
theorem Gr.tr {a b c : Shared} (x : Gr a b) (y : Gr b c) : Gr a c := ⟨x.1.trans y.1, Nat.le_trans x.2 y.2⟩
theorem Gr.rf (s : Shared) : Gr s s := ⟨Kp.refl s, Nat.le_refl _⟩
theorem EvSt.mono {F H G env σ} {s s' : Shared} (S : EvSt F H G env σ s) (k : Gr s s') : EvSt F H G env σ s' :=
  { S with vars := fun i x sl a b => (S.vars i x sl a b).mono (kle k.1), hb := S.hb.mono k.1.rw, w0 := S.w0.trans (kle k.1), tk := Nat.le_trans S.tk k.2 }
structure Rm (k : Nat) (A : Around) : Prop where
  hh : A.handled = none
  dp : A.depth + k ≤ 900
  un : A.units + 10 * k ≤ 9000
theorem Rm.u64 {k A} (R : Rm k A) : A.units + 64 < cLine := by have := R.un; have e : cLine = 9900 := rfl; omega
noncomputable abbrev Md (X : Cx) : Model := model X.prog X.w
noncomputable abbrev Yx (X : Cx) (H : List Addr) (A : Around) (t : Sem Value) (s : Shared) (d : D) : Prop := Yl X.prog X.w X.C H A t s d
noncomputable def Ct (X : Cx) (k : Nat) (a : Addr) (ds : List D) (d : D) : Prop := ∀ A s H vals, Rm k A → Le X.h0.get? (gt s.heap) → HBd H s.heap → 1 ≤ s.toks → Reps X.C (vis H s.heap) ds vals → Yx X H A (call (.ref a) vals) s d

/-- the expression e gives d -/
noncomputable def EvS (F : Fx) (σ : List Sl) (e : Expr) (d : D) : Prop := ∀ H G env s A, EvSt F H G env σ s → Rm F.k A → Yx F.X H A (eval e env) s d
noncomputable def TsS (F : Fx) (σ : List Sl) (e : Expr) (c : Bool) : Prop := ∀ H G env s A, EvSt F H G env σ s → Rm F.k A → wpAny (Md F.X) A (isTrue e env (eval e env)) (fun b s' => Kp s s' ∧ b = c) E0 s
noncomputable def EvSs (F : Fx) (σ : List Sl) (es : List Expr) (ds : List D) : Prop := ∀ H G env s A, EvSt F H G env σ s → Rm F.k A →
  (∀ pos, backTo pos (starEach es env) = es.map fun a => (false, eval a env)) ∧ wpAny (Md F.X) A (spliced (es.map fun a => (false, eval a env))) (fun vs s' => Kp s s' ∧ Reps F.X.C (vis H s'.heap) ds vs) E0 s

section
variable {α : Type} {M : Model} {A : Around} {s : Shared} {t : Sem α} {P : α → Shared → Prop}
theorem up (h : wpAny M A t (fun v s' => Kp s s' ∧ P v s') E0 s) : wpAny M A t (fun v s' => Gr s s' ∧ P v s') E0 s :=
  wpAny_mono (wpAny_toks h) (fun _ _ q => ⟨⟨q.2.1, q.1⟩, q.2.2⟩) fun _ _ q => q.2
theorem after {s₀ : Shared} (k : Kp s₀ s) (h : wpAny M A t (fun v s' => Kp s s' ∧ P v s') E0 s) : wpAny M A t (fun v s' => Kp s₀ s' ∧ P v s') E0 s :=
  wpAny_mono h (fun _ _ q => ⟨ktr k q.1, q.2⟩) fun _ _ q => q
/-- evaluate, then go on from any grown state -/
theorem next {β : Type} {Q : α → Shared → Prop} {R : β → Shared → Prop} {f : α → Sem β} (h : wpAny M A t (fun v s' => Kp s s' ∧ P v s') E0 s) (k : ∀ v s', Gr s s' → P v s' → Q v s') : wpAny M A t Q E0 s :=
  let _ := f; let _ := R; wpAny_mono (up h) (fun v s' q => k v s' q.1 q.2) fun _ _ e => e
theorem nx {Q : α → Shared → Prop} (h : wpAny M A t (fun v s' => Kp s s' ∧ P v s') E0 s) (k : ∀ v s', Gr s s' → P v s' → Q v s') : wpAny M A t Q E0 s :=
  wpAny_mono (up h) (fun v s' q => k v s' q.1 q.2) fun _ _ e => e
end

section
variable {F : Fx} {σ : List Sl} {H : List Addr} {G : Nat → Addr} {env : Env} {s : Shared} {A : Around}
theorem EvS.go {e d} {Q : Value → Shared → Prop} (h : EvS F σ e d) (S : EvSt F H G env σ s) (R : Rm F.k A) (k : ∀ v s', Gr s s' → EvSt F H G env σ s' → Rep F.X.C (vis H s'.heap) d v → Q v s') : wpAny (Md F.X) A (eval e env) Q E0 s :=
  nx (h H G env s A S R) fun v s' g r => k v s' g (S.mono g) r
theorem TsS.go {e c} {Q : Bool → Shared → Prop} (h : TsS F σ e c) (S : EvSt F H G env σ s) (R : Rm F.k A) (k : ∀ s', Gr s s' → EvSt F H G env σ s' → Q c s') : wpAny (Md F.X) A (isTrue e env (eval e env)) Q E0 s :=
  nx (h H G env s A S R) fun v s' g r => r ▸ k s' g (S.mono g)
/-- two operands -/
theorem two {l r a b} {Q : Value → Value → Shared → Prop} (hl : EvS F σ l a) (hr : EvS F σ r b) (S : EvSt F H G env σ s) (R : Rm F.k A)
    (k : ∀ va vb s', Gr s s' → EvSt F H G env σ s' → Rep F.X.C (vis H s'.heap) a va → Rep F.X.C (vis H s'.heap) b vb → Q va vb s') :
    wpAny (Md F.X) A (eval l env) (fun va s₁ => wpAny (Md F.X) A (eval r env) (fun vb s₂ => Q va vb s₂) E0 s₁) E0 s :=
  hl.go S R fun va s₁ g₁ S₁ ra => hr.go S₁ R fun vb s₂ g₂ S₂ rb => k va vb s₂ (g₁.tr g₂) S₂ (ra.mono (vis_mono (kle g₂.1))) rb

theorem ld_name (S : EvSt F H G env σ s) {i : Nat} {x : Str} {v : Value} {p : Pos} {Q : Value → Shared → Prop} {E : Value → Shared → Prop} {M : Model} (hx : F.nm[i]? = some x) (hv : VarAt env s.heap x v) (h : Q v s) :
    wpAny M A (eval (.Name x p) env) Q E s := by
  have hn := S.nms x (List.mem_of_getElem? hx)
  refine wpAny_Name ?_ hn.1
  rcases hv with ⟨hl, m, hm, hv⟩ | ⟨hk, c, hc, hv⟩
  · exact wpAny_loadName_local S.kind hl hm.1 hv h
  · rcases hk with hk | hk
    · exact wpAny_loadName_cell S.kind hk hc hv.1 h
    · exact wpAny_loadName_free S.kind hk hc hv.1 h hn.2
theorem ld_glob (S : EvSt F H G env σ s) {x : Str} {v : Value} {p : Pos} {Q : Value → Shared → Prop} {E : Value → Shared → Prop} {M : Model} (hx : F.sc.lookup x = some .globalImplicit) (hd : (x == ("__debug__" : Str)) = false) (hv : F.X.mg x = some v) (h : Q v s) :
    wpAny M A (eval (.Name x p) env) Q E s :=
  Name_function_global S.kind (S.gk x hx) (loadGlobal_global (by rw [S.glb]; exact S.W.g.keeps (w0r S.w0)) hv h) hd
theorem ld_blt (S : EvSt F H G env σ s) {x : Str} {v : Value} {p : Pos} {Q : Value → Shared → Prop} {E : Value → Shared → Prop} {M : Model} (hx : F.sc.lookup x = some .globalImplicit) (hd : (x == ("__debug__" : Str)) = false) (hv : (x, v) ∈ biL) (h : Q v s) :
    wpAny M A (eval (.Name x p) env) Q E s :=
  Name_function_global S.kind (S.gk x hx) (loadGlobal_builtin (by rw [S.glb]; exact S.W.g.keeps (w0r S.w0)) (S.W.bi _ hv).1 (by rw [S.blt]; exact S.W.b.keeps (w0r S.w0)) (S.W.bi _ hv).2 h) hd

/-! rules -/
theorem ev_int {i k p} : EvS F σ (.Constant (.int i) k p) (.int i) := fun _ _ _ _ _ _ _ => wpAny_Constant_int ⟨Kp.tok .., .mkI⟩
theorem ev_bool {b k p} : EvS F σ (.Constant (.bool b) k p) (.bool b) := fun _ _ _ _ _ _ _ => wpAny_Constant_bool ⟨Kp.refl _, .mkB⟩
theorem ev_str {x k p} : EvS F σ (.Constant (.str x) k p) (.str x.cps.toList) := fun _ _ _ _ _ _ _ => wpAny_Constant_str ⟨Kp.tok .., _, rfl⟩
theorem ev_name {i : Nat} {x p d} (hx : F.nm[i]? = some x) (hs : σ[i]? = some (.fr d)) : EvS F σ (.Name x p) d := fun _ _ _ _ _ S _ =>
  let ⟨_, hv, hr⟩ := S.vars i x _ hx hs
  ld_name S hx hv ⟨Kp.refl _, hr⟩
theorem ev_glob {x p i t} (hx : F.sc.lookup x = some .globalImplicit) (hv : F.X.mg x = some (.int i t)) (hd : (x == ("__debug__" : Str)) = false := by rfl) : EvS F σ (.Name x p) (.int i) := fun _ _ _ _ _ S _ =>
  ld_glob S hx hd hv ⟨Kp.refl _, .mkI⟩
theorem ev_bin {l o r p a b d} (hl : EvS F σ l a) (hr : EvS F σ r b) (h : BinR o a b d) : EvS F σ (.BinOp l o r p) d := fun _ _ _ _ _ S R =>
  wpAny_BinOp (two hl hr S R fun _ _ _ g _ ra rb => after g.1 (h _ _ _ _ _ _ _ _ _ ra rb))
theorem ev_un {o x p a d} (hx : EvS F σ x a) (h : UnR o a d) : EvS F σ (.UnaryOp o x p) d := fun _ _ _ _ _ S R =>
  wpAny_UnaryOp (hx.go S R fun _ _ g _ r => after g.1 (h _ _ _ _ _ _ _ _ r))
theorem ev_cmp {l o r p a b c} (hl : EvS F σ l a) (hr : EvS F σ r b) (h : CmpR o a b c) (hm : behindInMarks o r = false := by rfl) : EvS F σ (.Compare l [o] [r] p) (.bool c) := fun _ _ _ _ _ S R =>
  wpAny_Compare1 (two hl hr S R fun _ _ _ g _ ra rb => h _ _ _ _ _ _ _ _ (ra.mono (vis_le _ _)) (rb.mono (vis_le _ _)) R.u64 ⟨g.1, .mkB⟩) hm
theorem ts_cmp {l o r p a b c} (hl : EvS F σ l a) (hr : EvS F σ r b) (h : CmpR o a b c) (hm : behindInMarks o r = false := by rfl) : TsS F σ (.Compare l [o] [r] p) c := fun _ _ _ _ _ S R =>
  wpAny_isTrue_Compare1 (two hl hr S R fun _ _ _ g _ ra rb => h _ _ _ _ _ _ _ _ (ra.mono (vis_le _ _)) (rb.mono (vis_le _ _)) R.u64 (wpAny_truthy_bool ⟨g.1, rfl⟩)) hm
theorem ev_andF {x y p} (hx : EvS F σ x (.bool false)) : EvS F σ (.BoolOp .And [x, y] p) (.bool false) := fun _ _ _ _ _ S R =>
  wpAny_And2 (hx.go S R fun _ _ g _ r => truth_bool r ⟨g.1, r⟩)
theorem ev_andT {x y p d} (hx : EvS F σ x (.bool true)) (hy : EvS F σ y d) : EvS F σ (.BoolOp .And [x, y] p) d := fun _ _ _ _ _ S R =>
  wpAny_And2 (hx.go S R fun _ _ g S₁ r => truth_bool r (after g.1 (hy _ _ _ _ _ S₁ R)))
theorem ev_orT {x y p i} (hx : EvS F σ x (.int i)) (hi : i ≠ 0) : EvS F σ (.BoolOp .Or [x, y] p) (.int i) := fun _ _ _ _ _ S R =>
  wpAny_Or2 (hx.go S R fun _ _ g _ r => truth_int r (by rw [bne_iff_ne.mpr hi]; exact ⟨g.1, r⟩))
theorem ev_orF {x y p d} (hx : EvS F σ x (.int 0)) (hy : EvS F σ y d) : EvS F σ (.BoolOp .Or [x, y] p) d := fun _ _ _ _ _ S R =>
  wpAny_Or2 (hx.go S R fun _ _ g S₁ r => truth_int r (after g.1 (hy _ _ _ _ _ S₁ R)))
theorem ts_andF {x y p} (hx : TsS F σ x false) : TsS F σ (.BoolOp .And [x, y] p) false := fun _ _ _ _ _ S R =>
  wpAny_isTrue_BoolOp (wpAny_allTrue_And_cons (hx.go S R fun _ g _ => ⟨g.1, rfl⟩))
theorem ts_andT {x y p c} (hx : TsS F σ x true) (hy : TsS F σ y c) : TsS F σ (.BoolOp .And [x, y] p) c := fun _ _ _ _ _ S R =>
  wpAny_isTrue_BoolOp (wpAny_allTrue_And_cons (hx.go S R fun _ g S₁ => wpAny_allTrue_And_cons (hy.go S₁ R fun _ g₂ _ => by
    cases c with
    | true => exact wpAny_allTrue_And_nil ⟨(g.tr g₂).1, rfl⟩
    | false => exact ⟨(g.tr g₂).1, rfl⟩)))
theorem ev_ifT {t x y p d} (ht : TsS F σ t true) (hx : EvS F σ x d) : EvS F σ (.IfExp t x y p) d := fun _ _ _ _ _ S R =>
  wpAny_IfExp (ht.go S R fun _ g S₁ => after g.1 (hx _ _ _ _ _ S₁ R))
theorem ev_ifF {t x y p d} (ht : TsS F σ t false) (hy : EvS F σ y d) : EvS F σ (.IfExp t x y p) d := fun _ _ _ _ _ S R =>
  wpAny_IfExp (ht.go S R fun _ g S₁ => after g.1 (hy _ _ _ _ _ S₁ R))
/-- a name or a call as a test -/
theorem ts_nameI {i : Nat} {x p n} (hx : F.nm[i]? = some x) (hs : σ[i]? = some (.fr (.int n))) : TsS F σ (.Name x p) (n != 0) := fun _ _ _ _ _ S R =>
  wpAny_isTrue_value (((ev_name hx hs)).go S R fun _ _ g _ r => truth_int r ⟨g.1, rfl⟩)
theorem ts_call {f as p b} (h : EvS F σ (.Call f as [] p) (.bool b)) : TsS F σ (.Call f as [] p) b := fun _ _ _ _ _ S R =>
  wpAny_isTrue_value (h.go S R fun _ _ g _ r => truth_bool r ⟨g.1, rfl⟩)
end
end Mine
end

section
open PySem PySem.Calls PyProof.Rows
set_option Elab.async false
set_option maxRecDepth 100000
namespace Mine
section
variable {F : Fx} {σ : List Sl} {H : List Addr} {G : Nat → Addr} {env : Env} {s : Shared} {A : Around}
theorem slot_str_get : typeLookup (.type "str") "__getitem__" = pure (some (.builtin "str.__getitem__")) := F.slot_str_getitem.lookup
theorem slot_list_get : typeLookup (.type "list") "__getitem__" = pure (some (.builtin "list.__getitem__")) := F.slot_list_getitem.lookup
theorem slot_tuple_get : typeLookup (.type "tuple") "__getitem__" = pure (some (.builtin "tuple.__getitem__")) := F.slot_tuple_getitem.lookup
theorem seq_slot {C g t xs v} (hg : Le g (gt s.heap)) (h : Rep C g (.seq t xs) v) : ∃ T id, s.TypeIs v T ∧ typeLookup (.type T) "__getitem__" = pure (some (.builtin id)) := by
  obtain ⟨l, vs, rfl, hs, _⟩ := h.seqI
  have q := (hs.mono hg).typeIs
  cases t with
  | true => exact ⟨_, _, q, slot_tuple_get⟩
  | false => exact ⟨_, _, q, slot_list_get⟩
theorem idx_slot {C g a i d v} (hg : Le g (gt s.heap)) (h : Rep C g a v) (e : IdxR a i d) : ∃ T id, s.TypeIs v T ∧ typeLookup (.type T) "__getitem__" = pure (some (.builtin id)) := by
  cases e with
  | pos => exact seq_slot hg h
  | last => exact seq_slot hg h
  | str => obtain ⟨t, rfl⟩ := h.strI; exact ⟨_, _, typeIs_str _ _ _, slot_str_get⟩
/-- the item's expression is no slice -/
noncomputable def PlainIx (y : Expr) : Prop := ∀ o i, subscripted y false o i = operate [o, i] (getItem o i)
theorem ev_idx {x y p a i d} (hx : EvS F σ x a) (hy : EvS F σ y (.int i)) (e : IdxR a i d) (hp : PlainIx y := by exact fun _ _ => rfl) : EvS F σ (.Subscript x y p) d := fun _ _ _ _ _ S R =>
  Subscript_ (two hx hy S R fun va vb s' g _ ra rb => by
    obtain ⟨t, rfl⟩ := rb.intI
    obtain ⟨T, id, h1, h2⟩ := idx_slot (vis_le _ _) ra e
    exact tail_any h1 h2 (idx_get (vis_le _ _) ra e fun v tk r => ⟨g.1.trans (Kp.tok ..), r⟩) (hp _ _))
theorem ev_idxO {j : Nat} {x y p q i d xs} (hx : F.nm[j]? = some x) (hs : σ[j]? = some (.ow xs)) (hy : EvS F σ y (.int i)) (e : IdxR (.seq false xs) i d) (hp : PlainIx y := by exact fun _ _ => rfl) : EvS F σ (.Subscript (.Name x q) y p) d := by
  intro H G env s A S R
  obtain ⟨vs, hv, hq, hr⟩ := S.vars j x _ hx hs
  refine Subscript_ (ld_name S hx hv (hy.go S R fun vb s₂ g _ rb => ?_))
  obtain ⟨t, rfl⟩ := rb.intI
  have hq' := hq.mono (kle g.1)
  have hr' : Reps F.X.C (vis H s₂.heap) xs vs := hr.mono (vis_mono (kle g.1))
  refine tail_any hq'.typeIs slot_list_get ?_ (hp _ _)
  cases e with
  | pos j hx hj =>
    obtain ⟨v, e3, hv⟩ := hr'.get hx
    exact wpAny_getItem_list hq'.list (by omega) (by omega) (by rw [Int.toNat_natCast, List.getElem?_toArray]; exact e3) ⟨g.1, hv⟩
  | @last _ xs d =>
    have hl : vs.length = xs.length + 1 := by rw [hr'.length, List.length_append]; rfl
    obtain ⟨v, e3, hv⟩ := hr'.get (i := xs.length) (d := d) (by simp)
    exact wpAny_getItem_list_neg hq'.list (by omega) (by rw [List.size_toArray, hl]; omega) (by omega) (by rw [List.size_toArray, hl, List.getElem?_toArray, ← e3]; congr 1; omega) ⟨g.1, hv⟩

/-! displays and arguments -/
noncomputable def isStar : Expr → Bool | .Starred .. => true | _ => false
noncomputable def NoStar (a : Expr) : Prop := ∀ as env, starEach (a :: as) env = (false, eval a env) :: starEach as env
theorem es_nil : EvSs F σ [] [] := fun _ _ _ _ _ _ _ => ⟨fun _ => rfl, spliced_nil ⟨Kp.refl _, .mkN⟩⟩
theorem es_cons {a as d ds} (ha : EvS F σ a d) (has : EvSs F σ as ds) (hn : NoStar a := by exact fun _ _ => rfl) : EvSs F σ (a :: as) (d :: ds) := fun H G env s A S R =>
  ⟨fun pos => by
    rw [hn as env]
    show (false, eval a env) :: backTo pos (starEach as env) = _
    rw [(has H G env s A S R).1 pos]; rfl,
   spliced_cons (ha.go S R fun v s₁ g S₁ rv => nx (has _ _ _ _ _ S₁ R).2 fun vs s₂ g₂ rs => ⟨(g.tr g₂).1, .mkC (rv.mono (vis_mono (kle g₂.1))) rs⟩)⟩
theorem disp {t : Bool} {ds vs s₁} (hl : ds.length ≤ strLid) (S : EvSt F H G env σ s) (k : Kp s s₁) (r : Reps F.X.C (vis H s₁.heap) ds vs) :
    vs.length ≤ sizeLine ∧ Kp s { s₁ with heap := s₁.heap.push { cls := .type (tyName t), data := .seq vs.toArray } } ∧ Rep F.X.C (vis H (s₁.heap.push { cls := .type (tyName t), data := .seq vs.toArray })) (.seq t ds) (.ref s₁.heap.objs.size) :=
  ⟨by rw [r.length]; exact Nat.le_trans hl (Nat.le_of_lt strLid_lt), k.trans (Kp.of (rw_push _ _)), mk_seq (S.hb.mono k.rw) r⟩
theorem ev_list {es p ds} (h : EvSs F σ es ds) (hl : ds.length ≤ strLid := by exact Nat.le_of_ble_eq_true rfl) : EvS F σ (.List es p) (.seq false ds) := fun H G env s A S R => by
  refine wpAny_List ?_
  rw [(h H G env s A S R).1]
  exact nx (h H G env s A S R).2 fun vs s₁ g r => disp (t := false) hl S g.1 r
theorem ev_tuple {es c p ds} (h : EvSs F σ es ds) (hl : ds.length ≤ strLid := by exact Nat.le_of_ble_eq_true rfl) : EvS F σ (.Tuple es c p) (.seq true ds) := fun H G env s A S R => by
  refine wpAny_Tuple ?_
  rw [(h H G env s A S R).1]
  exact nx (h H G env s A S R).2 fun vs s₁ g r => disp (t := true) hl S g.1 r

theorem args_ev {a as ds f pos} {P : Args → Shared → Prop} (h : EvSs F σ (a :: as) ds) (S : EvSt F H G env σ s) (R : Rm F.k A)
    (k : ∀ vs s₁, Gr s s₁ → EvSt F H G env σ s₁ → Reps F.X.C (vis H s₁.heap) ds vs → P ⟨vs, []⟩ s₁) : wpAny (Md F.X) A (evalArgs f true (backTo pos (starEach (a :: as) env)) []) P E0 s := by
  rw [(h H G env s A S R).1]
  exact evalArgs_plain (nx (h H G env s A S R).2 fun vs s₁ g r => k vs s₁ g (S.mono g) r)
theorem no_stars {as ds pos} (h : EvSs F σ as ds) (S : EvSt F H G env σ s) (R : Rm F.k A) : (backTo pos (starEach as env)).any (·.1) = false := by
  rw [(h H G env s A S R).1, List.any_eq_false]
  intro x hx
  obtain ⟨_, _, rfl⟩ := List.mem_map.mp hx
  exact Bool.false_ne_true
theorem ev_call {n a x xs p q ds d} (hf : GFn F.X n a) (he : EvSs F σ (x :: xs) ds) (hc : Ct F.X F.k a ds d) (hg : F.sc.lookup n = some .globalImplicit) (hd : (n == ("__debug__" : Str)) = false := by rfl) : EvS F σ (.Call (.Name n p) (x :: xs) [] q) d := fun H G env s A S R => by
  obtain ⟨hm, o, fd, ho, hd'⟩ := hf
  refine wpAny_Call_NameR (ld_glob S hg hd hm ?_)
  refine callWith_function_kw (o := o) (fd := fd) (args_ev he S R fun vs s₁ g S₁ r => ⟨⟨gt_get (S₁.w0 _ _ ho), hd'⟩, after g.1 (hc A s₁ H vs R S₁.w0 S₁.hb S₁.tk r)⟩)
theorem ev_bi {n f x xs p q ds d} (hb : (n, f) ∈ biL) (he : EvSs F σ (x :: xs) ds) (hc : BiR f ds d) (hg : F.sc.lookup n = some .globalImplicit) (hf : (∃ id, f = .builtin id) ∨ ∃ T, f = .type T) (hd : (n == ("__debug__" : Str)) = false := by rfl) :
    EvS F σ (.Call (.Name n p) (x :: xs) [] q) d := fun H G env s A S R => by
  refine wpAny_Call_NameR (ld_blt S hg hd hb ?_)
  have run := fun (pos : Pos) => args_ev (f := f) (pos := pos) he S R (P := fun x s₁ => wpAny (Md F.X) A (call f ([] ++ x.pos) x.kw) (fun v s' => Kp s s' ∧ Rep F.X.C (vis H s'.heap) d v) E0 s₁)
    fun vs s₁ g S₁ r => after g.1 (hc _ _ _ _ _ _ _ R.hh S₁.hb r)
  rcases hf with ⟨id, rfl⟩ | ⟨T, rfl⟩
  · exact callWith_builtin (no_stars he S R) (run _)
  · exact PySem.callWith_type (no_stars he S R) (run _)
theorem ev_lenO {j : Nat} {x p q r xs} (hx : F.nm[j]? = some x) (hs : σ[j]? = some (.ow xs)) (hl : xs.length ≤ strLid) (hg : F.sc.lookup ("len" : Str) = some .globalImplicit) : EvS F σ (.Call (.Name "len" p) [.Name x r] [] q) (.int xs.length) := fun H G env s A S R => by
  obtain ⟨vs, hv, hq, hr⟩ := S.vars j x _ hx hs
  refine wpAny_Call_NameR (ld_blt (v := .builtin "len") S hg rfl (.head _) ?_)
  refine callWith_builtin rfl (evalArgs_plain (spliced_cons (ld_name S hx hv (spliced_nil ?_))))
  have hlen : vs.toArray.size = xs.length := List.size_toArray.trans hr.length
  rw [← hlen] at hl ⊢
  exact len_list hq.list (small_63 hl) ⟨Kp.tok .., .mkI⟩

/-! methods -/
noncomputable def BaseOf (o : Expr) : Prop := ∀ name (env : Env) (whole : Sem Value), attributeBase o name env whole = whole
theorem call_meth {M : Model} {o : Expr} {name : Str} {apos pos : Pos} {args : List Expr} {Q E : Value → Shared → Prop}
    (hb : BaseOf o) (hl : (apos.endLine == pos.line) = true) (hf : (backTo pos (starEach args env)).any (·.1) = false) (hn : args.length < 20)
    (h : wpAny M A (eval o env) (fun ov s₁ => ∀ pl, wpAny M A (getMethod ov name pl) (fun p s₂ => wpAny M A (callWith pos p.1 p.2 (backTo pos (starEach args env)) []) Q E s₂) E s₁) E s) :
    wpAny M A (eval (.Call (.Attribute o name apos) args [] pos) env) Q E s := by
  rw [arm_eval_Call, hb]
  refine wpAny_bind (wpAny_mono h (fun ov s₁ h₁ => ?_) fun _ _ e => e)
  refine wpAny_bind (wpAny_standAt ?_)
  have hform : methodCallForm (args.length + ([] : List Keyword).length) (backTo pos (starEach args env)) (backToKw pos (keywordEach [] env)) = true := by
    unfold methodCallForm
    have hf' : (backTo pos (starEach args env)).all (fun x => !x.1) = true := by rw [List.all_eq_not_any_not]; simpa using hf
    rw [hf']
    show (true && true && decide (args.length + 0 + (if ([] : List (Option Str × Sem Value)).isEmpty then 0 else 1) < 30)) = true
    simp; omega
  unfold methodCall calleeOf methodCallPos
  rw [hform, hl]
  simp only [if_true, Bool.not_true, Bool.false_or]
  refine wpAny_bind (wpAny_holding (wpAny_mono (h₁ _) (fun p s₂ h₂ => ?_) fun _ _ e => e))
  exact wpAny_bind (wpAny_pure h₂)
theorem ws_method {X : Cx} (W : Wd X) {n : Str} {a : Addr} (hf : MFn X n a) {c : List Int} {t nt : Int} {v : Value} {g : Gt} {pl : Sem Bool} {Q : Value × List Value → Shared → Prop} {E : Value → Shared → Prop}
    (hg : Le g (gt s.heap)) (w0 : Le X.h0.get? (gt s.heap)) (r : Rep X.C g (.ws c t nt) v) (h : Q (.ref a, [v]) s) : wpAny (Md X) A (getMethod v n pl) Q E s := by
  obtain ⟨x, es, vn, t1, ac, vc, tt, t2, rfl, ⟨dx, n', q1, q2⟩, hk, _⟩ := r.wsI
  obtain ⟨h1, h2, h3, h4, _⟩ := hf
  refine PySem.W.method_fn (fun b o e => gt_get (w0 _ _ (W.kin b o e))) (⟨gt_get (hg _ _ q1), rfl, rfl, gt_get (hg _ _ q2)⟩ : PySem.W.InstAt s.heap x (PySem.W.instObj X.C dx) X.C (some (PySem.W.dictOf es n')))
    (PySem.W.plainGet_of h2).1 (PySem.W.plainGet_of h2).2 h3 (beq_iff_eq.mp h4) ?_ h
  show (PySem.W.lookIn n (PySem.W.dictOf es n')).map _ = _
  rw [PySem.W.lookIn_dict, hk n h1]; rfl
theorem wm_fin {n a c t nt ds d ov s₁} (hf : MFn F.X n a) (hc : Ct F.X F.k a (.ws c t nt :: ds) d) (R : Rm F.k A) (g : Gr s s₁) (rv : Rep F.X.C (vis H s₁.heap) (.ws c t nt) ov) : ∃ ob fd, ∀ vs s₂, Gr s₁ s₂ → EvSt F H G env σ s₂ → Reps F.X.C (vis H s₂.heap) ds vs →
    (s₂.heap.get? a = some ob ∧ ob.data = .func fd) ∧ wpAny (Md F.X) A (call (.ref a) ([ov] ++ vs) []) (fun v s' => Kp s s' ∧ Rep F.X.C (vis H s'.heap) d v) E0 s₂ := by
  obtain ⟨_, _, _, _, ob, fd, hob, hd⟩ := hf
  exact ⟨ob, fd, fun vs s₂ g₂ S₂ rs => ⟨⟨gt_get (S₂.w0 _ _ hob), hd⟩, after (g.tr g₂).1 (hc A s₂ H (ov :: vs) R S₂.w0 S₂.hb S₂.tk (.mkC (rv.mono (vis_mono (kle g₂.1))) rs))⟩⟩
theorem ev_wm0 {o n ap p a c t nt d} (hf : MFn F.X n a) (ho : EvS F σ o (.ws c t nt)) (hc : Ct F.X F.k a [.ws c t nt] d) (hl : (ap.endLine == p.line) = true := by rfl) (hb : BaseOf o := by exact fun _ _ _ => rfl) :
    EvS F σ (.Call (.Attribute o n ap) [] [] p) d := fun H G env s A S R => by
  refine call_meth hb hl rfl (by decide) (ho.go S R fun ov s₁ g S₁ rv pl => ?_)
  refine ws_method S.W hf (vis_le _ _) S₁.w0 rv ?_
  obtain ⟨ob, fd, fin⟩ := wm_fin (G := G) (env := env) (σ := σ) hf hc R g rv
  exact callWith_function_kw (o := ob) (fd := fd) (evalArgs_nil3 (fin [] s₁ (Gr.rf _) S₁ .mkN))
theorem ev_wm {o n ap x xs p a c t nt ds d} (hf : MFn F.X n a) (ho : EvS F σ o (.ws c t nt)) (he : EvSs F σ (x :: xs) ds) (hc : Ct F.X F.k a (.ws c t nt :: ds) d) (hl : (ap.endLine == p.line) = true := by rfl) (hb : BaseOf o := by exact fun _ _ _ => rfl) (hn : (x :: xs).length < 20 := by decide) :
    EvS F σ (.Call (.Attribute o n ap) (x :: xs) [] p) d := fun H G env s A S R => by
  refine call_meth hb hl (no_stars he S R) hn (ho.go S R fun ov s₁ g S₁ rv pl => ?_)
  refine ws_method S.W hf (vis_le _ _) S₁.w0 rv ?_
  obtain ⟨ob, fd, fin⟩ := wm_fin (G := G) (env := env) (σ := σ) hf hc R g rv
  exact callWith_function_kw (o := ob) (fd := fd) (args_ev he S₁ R fun vs s₂ g₂ S₂ r => fin vs s₂ g₂ S₂ r)
end
end Mine
end

section
open PySem PySem.Calls PyProof.Rows
set_option Elab.async false
set_option maxRecDepth 100000
namespace Mine
section
variable {F : Fx} {σ : List Sl} {H : List Addr} {G : Nat → Addr} {env : Env} {s : Shared} {A : Around}
theorem reps_ints {C : Addr} {g : Gt} : ∀ (c : List Int) (tt : List Tok), tt.length = c.length → Reps C g (c.map .int) ((c.zip tt).map fun p => Value.int p.1 p.2)
  | [], [], _ => rfl
  | _ :: c, t :: tt, h => .mkC .mkI (reps_ints c tt (Nat.succ.inj h))
theorem attr_run {i : Nat} {x n p q c t nt d} (hx : F.nm[i]? = some x) (hs : σ[i]? = some (.fr (.ws c t nt))) (hn : n ∈ attrN)
    (get : ∀ v, Rep F.X.C (vis H s.heap) (.ws c t nt) v → ∃ a es dx m val, v = .ref a ∧ (vis H s.heap) a = some (PySem.W.instObj F.X.C dx) ∧ (vis H s.heap) dx = some (PySem.W.dictOf es m) ∧ PySem.W.getL n es = some (some val) ∧ PySem.W.handedIn val = true ∧ Rep F.X.C (vis H s.heap) d val)
    (S : EvSt F H G env σ s) : Yx F.X H A (eval (.Attribute (.Name x p) n q) env) s d := by
  obtain ⟨ov, hv, hr⟩ := S.vars i x _ hx hs
  obtain ⟨a, es, dx, m, val, rfl, q1, q2, hg, hh, rd⟩ := get ov hr
  obtain ⟨h1, h2⟩ := S.W.at_ n hn
  rw [arm_eval_Attribute, show attributeBase (.Name x p) n env (eval (.Name x p) env) = eval (.Name x p) env from rfl]
  refine wpAny_bind (ld_name S hx hv (wpAny_bind (wpAny_standAt (wpAny_bind (wpAny_holding ?_)))))
  refine PySem.W.get_value (fun b o e => gt_get (S.w0 _ _ (S.W.kin b o e))) (⟨gt_get (vis_gt q1), rfl, rfl, gt_get (vis_gt q2)⟩ : PySem.W.InstAt s.heap a (PySem.W.instObj F.X.C dx) F.X.C (some (PySem.W.dictOf es m)))
    (PySem.W.plainGet_of h1).1 (PySem.W.findObj_own S.W.hd h2 rfl (by rw [PySem.W.lookIn_dict]; exact hg)) hh ?_
  exact wpAny_bind (wpAny_letTemporaryGo (wpAny_pure ⟨Kp.tok .., rd⟩))
theorem ev_norm {i : Nat} {x p q c t nt} (hx : F.nm[i]? = some x) (hs : σ[i]? = some (.fr (.ws c t nt))) : EvS F σ (.Attribute (.Name x p) "norm" q) (.seq true [.seq true (c.map .int), .int t]) := fun H G env s A S R =>
  attr_run hx hs (.head _) (fun v r => by
    obtain ⟨a, es, vn, t1, ac, vc, tt, t2, rfl, ⟨dx, n', q1, q2⟩, hk, g1, g2, i1, i2, rfl, htt⟩ := r.wsI
    exact ⟨a, es, dx, n', _, rfl, q1, q2, g1, rfl, .mkQ i1 (.mkC (.mkQ i2 (reps_ints c tt htt)) (.mkC .mkI .mkN))⟩) S
theorem ev_nt {i : Nat} {x p q c t nt} (hx : F.nm[i]? = some x) (hs : σ[i]? = some (.fr (.ws c t nt))) : EvS F σ (.Attribute (.Name x p) "nt" q) (.int nt) := fun H G env s A S R =>
  attr_run hx hs (.tail _ (.head _)) (fun v r => by
    obtain ⟨a, es, vn, t1, ac, vc, tt, t2, rfl, ⟨dx, n', q1, q2⟩, hk, g1, g2, i1, i2, rfl, htt⟩ := r.wsI
    exact ⟨a, es, dx, n', _, rfl, q1, q2, g2, rfl, .mkI⟩) S

/-! methods of ints and texts, the table of signs -/
theorem ev_bitlen {o ap p i} (ho : EvS F σ o (.int i)) (hl : (ap.endLine == p.line) = true := by rfl) (hb : BaseOf o := by exact fun _ _ _ => rfl) : EvS F σ (.Call (.Attribute o "bit_length" ap) [] [] p) (.int (Builtin.Int.intBits i)) := fun H G env s A S R => by
  refine call_meth hb hl rfl (by decide) (ho.go S R fun ov s₁ g S₁ r pl => ?_)
  obtain ⟨t, rfl⟩ := r.intI
  exact getMethod_int_bit_length (callWith_builtin rfl (evalArgs_nil3 (call_int_bit_length ⟨g.1.trans (Kp.tok ..), .mkI⟩)))
theorem mapOf_mono {prog : Program} {w : World} {h h' : Heap} {a : Addr} {f : Str → Option Value} (k : ∀ b o, h.get? b = some o → h'.get? b = some o) (x : h.MapOf (PySem.strKind prog w) a f) : h'.MapOf (PySem.strKind prog w) a f :=
  let ⟨o, es, ep, h1, r⟩ := x; ⟨o, es, ep, k _ _ h1, r⟩
theorem ev_tok {q ap y r kd p c} (hy : EvS F σ y (.str [c])) (hg : F.sc.lookup ("EXACT_TOKEN_TYPES" : Str) = some .globalImplicit) (hl : (ap.endLine == p.line) = true := by rfl) (hn : NoStar y := by exact fun _ _ => rfl) :
    EvS F σ (.Call (.Attribute (.Name "EXACT_TOKEN_TYPES" q) "get" ap) [y, .Constant (.int 1) kd r] [] p) (.int ((tokD c).getD 1)) := fun H G env s A S R => by
  obtain ⟨at', f, hm, hf, hs, htab⟩ := S.W.tok
  have hst : ∀ pos, backTo pos (starEach [y, .Constant (.int 1) kd r] env) = [(false, eval y env), (false, eval (.Constant (.int 1) kd r) env)] := fun pos => by rw [hn]; rfl
  refine call_meth (fun _ _ _ => rfl) hl (by rw [hst]; rfl) (show 2 < 20 by decide) (ld_glob S hg rfl hm ?_)
  intro pl
  have hf' := mapOf_mono (w0r S.w0) hf
  refine getMethod_builtin hf'.typeIs PySem.F.plainAttrs_dict PySem.F.slot_dict_get PySem.F.type_dict_get hf'.noDict ?_
  rw [hst]
  refine wpAny_dict_get2 (knd := PySem.strKind F.X.prog F.X.w) hs (hy.go S R fun v s₁ g S₁ rv => ?_)
  obtain ⟨t, rfl⟩ := rv.strI
  refine wpAny_Constant_int ⟨⟨[c].toArray⟩, f, strKind_is _ _ _ _, mapOf_mono (w0r S₁.w0) hf, ?_⟩
  have q := htab c
  refine ⟨g.1.trans (Kp.tok ..), ?_⟩
  cases hq : tokD c with
  | some i => rw [hq] at q; obtain ⟨t', ht'⟩ := q; exact ⟨t', by show (f ⟨#[c]⟩).getD _ = _; rw [ht']; rfl⟩
  | none => rw [hq] at q; exact ⟨_, by show (f ⟨#[c]⟩).getD _ = _; rw [q]; rfl⟩
theorem ts_tokNot {q y p c} (hy : EvS F σ y (.str [c])) (hg : F.sc.lookup ("EXACT_TOKEN_TYPES" : Str) = some .globalImplicit) : TsS F σ (.Compare y [.NotIn] [.Name "EXACT_TOKEN_TYPES" q] p) (tokD c).isNone := fun H G env s A S R => by
  obtain ⟨at', f, hm, hf, hs, htab⟩ := S.W.tok
  refine wpAny_isTrue_Compare1 (hy.go S R fun v s₁ g S₁ rv => ?_) rfl
  obtain ⟨t, rfl⟩ := rv.strI
  refine ld_glob S₁ hg rfl hm (wpAny_notIn_of (strKind_is _ _ _ _) hs (mapOf_mono (w0r S₁.w0) hf) ?_)
  have q := htab c
  refine wpAny_truthy_bool ⟨g.1.trans (Kp.tok ..), ?_⟩
  cases hq : tokD c with
  | some i => rw [hq] at q; obtain ⟨t', ht'⟩ := q; show (!(f ⟨#[c]⟩).isSome) = _; rw [ht']; rfl
  | none => rw [hq] at q; show (!(f ⟨#[c]⟩).isSome) = _; rw [q]; rfl
end
end Mine
end

section
open PySem PySem.Calls PyProof.Rows
set_option Elab.async false
set_option maxRecDepth 100000
namespace Mine
section
variable {F : Fx} {σ : List Sl} {H : List Addr} {G : Nat → Addr} {env : Env} {s : Shared} {A : Around}
theorem Reps.toArray {C : Addr} {g : Gt} {ds : List D} {vs : List Value} (h : Reps C g ds vs) : vs.toArray.size = ds.length := List.size_toArray.trans h.length
theorem cut_fin {ys : List D} {us : List Value} {s₂ : Shared} (HB : HBd H s.heap) (k₂ : Kp s s₂) (hr : Reps F.X.C (vis H s₂.heap) ys us) :
    Kp s { s₂ with heap := s₂.heap.push { cls := .type "list", data := .seq us.toArray } } ∧ Rep F.X.C (vis H (s₂.heap.push { cls := .type "list", data := .seq us.toArray })) (.seq false ys) (.ref s₂.heap.objs.size) :=
  ⟨k₂.trans (Kp.of (rw_push _ _)), mk_seq (t := false) (HB.mono k₂.rw) hr⟩
theorem ev_cutRev {x kd r q' q p xs} (hx : EvS F σ x (.seq false xs)) (hl : xs.length ≤ strLid) : EvS F σ (.Subscript x (.Slice none none (some (.UnaryOp .USub (.Constant (.int 1) kd r) q')) q) p) (.seq false xs.reverse) := fun H G env s A S R => by
  refine Subscript_ (hx.go S R fun ov s₁ g S₁ rv => ?_)
  refine wpAny_Slice ?_
  rw [evalPart_none, evalPart_some]
  refine wpAny_pure (wpAny_pure ((ev_un (F := F) (σ := σ) ev_int uNeg).go S₁ R fun iv s₂ g₂ S₂ ri => ?_))
  obtain ⟨t, rfl⟩ := ri.intI
  obtain ⟨l, vs, rfl, hs, hr⟩ := (rv.mono (vis_mono (kle g₂.1))).seqI
  have hsz := hr.toArray
  have hl2 := (hs.mono (vis_le _ _)).list
  refine tail_any (hl2.push _).typeIs slot_list_get (wpAny_getItem_list_slice (hl2.push _) (Heap.IsSliceOf.new ..) .none .none (.int _ _) (by decide) ?_ (by rw [hsz]; exact Nat.le_trans hl (Nat.le_of_lt strLid_lt))) rfl
  rw [show ((-1 : Int)) = -1 from rfl, PySem.W.krv_pick]
  exact cut_fin S.hb ((g.tr g₂).1.trans (Kp.of (t := s₂.toks) (rw_push _ _))) (hr.mono (vis_push _ _)).reverse
theorem ev_cutLast {x kd r q' q p xs d} (hx : EvS F σ x (.seq false (xs ++ [d]))) (hl : xs.length < strLid) : EvS F σ (.Subscript x (.Slice (some (.UnaryOp .USub (.Constant (.int 1) kd r) q')) none none q) p) (.seq false [d]) := fun H G env s A S R => by
  refine Subscript_ (hx.go S R fun ov s₁ g S₁ rv => ?_)
  refine wpAny_Slice ?_
  rw [evalPart_none, evalPart_some]
  refine (ev_un (F := F) (σ := σ) ev_int uNeg).go S₁ R fun iv s₂ g₂ S₂ ri => wpAny_pure (wpAny_pure ?_)
  obtain ⟨t, rfl⟩ := ri.intI
  obtain ⟨l, vs, rfl, hs, hr⟩ := (rv.mono (vis_mono (kle g₂.1))).seqI
  have hsz := hr.toArray
  have hlen : vs.length = xs.length + 1 := by rw [hr.length, List.length_append]; rfl
  have hl2 := (hs.mono (vis_le _ _)).list
  refine tail_any (hl2.push _).typeIs slot_list_get (wpAny_getItem_list_slice (hl2.push _) (Heap.IsSliceOf.new ..) (.int _ _) .none .none (by decide) ?_ (by rw [hsz, List.length_append]; exact Nat.le_trans hl (Nat.le_of_lt strLid_lt))) rfl
  have e1 : slicePick vs.toArray (some (-1)) none none = (vs.drop xs.length).toArray := by
    rw [slicePick_plain]
    have := clipAt_neg vs.toArray.size 1 (Nat.le_refl _)
    simp only [Option.elim]
    have e2 : (-1 : Int) = -((1 : Nat) : Int) := rfl
    rw [e2, this, List.size_toArray, List.take_of_length_le]
    · simp [hlen]
    · simp
  rw [show ((-1 : Int)) = -1 from rfl, e1]
  have hd := (hr.mono (vis_push (H := H) s₂.heap { cls := .type "slice", data := .fields #[.int (-1) t, .none, .none] })).drop xs.length
  rw [List.drop_left] at hd
  exact cut_fin S.hb ((g.tr g₂).1.trans (Kp.of (t := s₂.toks) (rw_push _ _))) hd
theorem ev_cutStr {x l h q p xs} {lo hi : Nat} (hx : EvS F σ x (.str xs)) (hlo : EvS F σ l (.int lo)) (hhi : EvS F σ h (.int hi)) (h1 : lo ≤ hi) (h2 : hi ≤ xs.length) (h3 : xs.length ≤ strLid) :
    EvS F σ (.Subscript x (.Slice (some l) (some h) none q) p) (.str ((xs.drop lo).take (hi - lo))) := fun H G env s A S R => by
  refine Subscript_ (hx.go S R fun ov s₁ g S₁ rv => ?_)
  obtain ⟨t, rfl⟩ := rv.strI
  refine wpAny_Slice ?_
  rw [evalPart_none, evalPart_some, evalPart_some]
  refine hlo.go S₁ R fun lv s₂ g₂ S₂ rl => ?_
  obtain ⟨u, rfl⟩ := rl.intI
  refine hhi.go S₂ R fun hv s₃ g₃ S₃ rh => wpAny_pure ?_
  obtain ⟨v, rfl⟩ := rh.intI
  refine tail_any (typeIs_str _ _ _) slot_str_get (wpAny_getItem_str_slice (l := some ((lo : Int), u)) (u := some ((hi : Int), v)) (st := none) ⟨_, Heap.get?_push_size _ rfl, rfl, rfl⟩ rfl ?_) rfl
  have sl := PySem.StrLaws.sliceText_plain (x := ⟨xs.toArray⟩) (i := (lo : Int)) (j := (hi : Int)) ⟨by omega, by omega, Int.ofNat_le.mpr h2⟩
  unfold PySem.StrLaws.sliceText at sl
  have kk := ((g.tr g₂).tr g₃).1.trans (Kp.of (s := s₃) (t := s₃.toks) (rw_push s₃.heap { cls := .type "slice", data := .fields #[.int lo u, .int hi v, .none] }))
  unfold sliceMade slicePicked
  simp only [Option.map_some, Option.map_none, Option.getD_none]
  have e3 : ((hi : Int) - (lo : Int)).toNat = hi - lo := by omega
  rw [Int.toNat_natCast, e3] at sl
  by_cases c : ((1 : Int) == 1 && (Builtin.Str.strSliceIndices (some (lo : Int)) (some (hi : Int)) 1 (⟨xs.toArray⟩ : Str).length).length == (⟨xs.toArray⟩ : Str).length) = true
  · rw [if_pos c] at sl ⊢
    exact ⟨kk, t, by rw [sl]⟩
  · rw [if_neg c] at sl ⊢
    rw [sl]
    refine ⟨?_, kk.trans (Kp.tok ..), _, rfl⟩
    rw [str_len]
    refine Nat.le_trans ?_ (Nat.le_of_lt strLid_lt)
    rw [List.length_take, List.length_drop]
    have : strLid = 100000 := rfl
    omega
end
end Mine
end

section
open PySem PySem.Calls PyProof.Rows
set_option Elab.async false
set_option maxRecDepth 100000
namespace Mine
section
variable {X : Cx} {H : List Addr} {s : Shared} {A : Around}

noncomputable def NoGo (h : Heap) (I : Addr) : Prop := ∃ o n, h.get? I = some o ∧ o.cls = .type n ∧ ["enumerate", "zip", "dict_itemiterator", "dict_reverseitemiterator", "odict_iterator", "itertools.zip_longest", "itertools.pairwise"].contains n = false ∧
  ∀ vs, o.data = .fields vs → ∀ q t, vs[1]? ≠ some (.str q t)
theorem NoGo.nc {h : Heap} {I : Addr} (x : NoGo h I) : ∀ o, h.get? I = some o → NC o := fun o e => by
  obtain ⟨o', n, e1, e2, _, e3⟩ := x
  rw [e] at e1; cases e1
  exact .inr ⟨by rw [e2]; nofun, e3⟩
theorem let_go {I : Addr} {v : Value} {target : Expr} {Q : Unit → Shared → Prop} {E : Value → Shared → Prop} (h : NoGo s.heap I) (hQ : Q () s) : wpAny (Md X) A (letOwnedTupleGo target (.ref I) v) Q E s := by
  obtain ⟨o, n, ho, hc, hn, _⟩ := h
  unfold letOwnedTupleGo
  split
  · split
    · rename_i r a he
      cases he
      refine wpAny_bind (wpAny_load ho ?_)
      rw [hc]
      split
      · rename_i e1 e2
        cases e1
        rw [hn, Bool.false_and, if_neg (by decide)]
        exact wpAny_pure hQ
      · exact wpAny_pure hQ
    · exact wpAny_pure hQ
  · split
    · rename_i r a he
      cases he
      refine wpAny_bind (wpAny_load ho ?_)
      rw [hc]
      split
      · rename_i e1 e2
        cases e1
        rw [hn, Bool.false_and, if_neg (by decide)]
        exact wpAny_pure hQ
      · exact wpAny_pure hQ
    · exact wpAny_pure hQ
  · exact wpAny_pure hQ
/-- what a loop walks over -/
structure Src (X : Cx) (H : List Addr) (A : Around) (s s₂ : Shared) (I : Addr) (items : List D) (fp : List Addr) (P : Nat → Value → Prop) (St : Nat → Heap → Prop) : Prop where
  W : Walks X.prog X.w A I fp [I] items.length P St
  st : St 0 s₂.heap
  fpo : ∀ b ∈ fp, b = I ∨ (b ∉ H ∧ ∃ o, (gt s.heap) b = some o)
  it : ∀ (i : Nat) v, i < items.length → P i v → ∃ d, items[i]? = some d ∧ Rep X.C (vis H s.heap) d v
  new : (gt s.heap) I = none
  lv : ∀ (i : Nat) h, St i h → ∃ o, h.get? I = some o
  nt : I ∉ tbs
  ng : ∀ (i : Nat) h, St i h → NoGo h I
  k : Kp s s₂
  tk : s.toks ≤ s₂.toks
  small : items.length ≤ strLid

noncomputable def itemsD : D → Option (List D)
  | .seq _ xs => if xs.length ≤ strLid then some xs else none
  | .str x => if x.length ≤ strLid then some (x.map fun c => .str [c]) else none
  | _ => none

theorem iter_value (ti : TI s.heap) {d : D} {xs : List D} {v : Value} {Q : Value → Shared → Prop} {E : Value → Shared → Prop} (hh : A.handled = none) (hr : Rep X.C (vis H s.heap) d v) (e : itemsD d = some xs)
    (h : ∀ I s₂ fp P St, Src X H A s s₂ I xs fp P St → Q (.ref I) s₂) : wpAny (Md X) A (pyIter v) Q E s := by
  unfold itemsD at e
  split at e
  · rename_i t xs'
    split at e
    · rename_i hl
      cases e
      obtain ⟨a, vs, rfl, hs, hr⟩ := hr.seqI
      have hs' := hs.mono (vis_le _ _)
      have hne : a ≠ s.heap.objs.size := Nat.ne_of_lt hs'.lt
      have hlen : vs.toArray.size = xs.length := hr.toArray
      have hnotH : a ∉ H := by obtain ⟨o, n, e, _⟩ := hs; exact (vis_get e).2
      have halive : ∃ o, (gt s.heap) a = some o := by obtain ⟨o, n, e, _⟩ := hs'; exact ⟨o, e⟩
      have hfp : ∀ b ∈ [s.heap.objs.size, a], b = s.heap.objs.size ∨ (b ∉ H ∧ ∃ o, (gt s.heap) b = some o) := by
        intro b hb
        rcases List.mem_cons.mp hb with rfl | hb
        · exact .inl rfl
        · rcases List.mem_cons.mp hb with rfl | hb
          · exact .inr ⟨hnotH, halive⟩
          · cases hb
      have hit : ∀ (i : Nat) v, i < xs.length → vs.toArray[i]? = some v → ∃ d, xs[i]? = some d ∧ Rep X.C (vis H s.heap) d v := by
        intro i v hi hv
        obtain ⟨u, hu, ru⟩ := hr.get (d := xs[i]) (i := i) (by simp [hi])
        have : u = v := by
          rw [List.getElem?_toArray] at hv
          rw [hu] at hv
          exact Option.some.inj hv
        subst this
        exact ⟨xs[i], by simp [hi], ru⟩
      cases t with
      | false =>
        refine wpAny_pyIter_list hs'.list (h _ _ _ _ _ ⟨hlen ▸ Walks.list hh s.heap.objs.size a hne vs.toArray, ⟨⟨_, Heap.get?_push_size _ rfl, rfl, rfl⟩, hs'.list.push _⟩, hfp, hit, get_size _, fun i h q => (let ⟨o, e, _⟩ := q.1; ⟨o, e⟩), ti.new, fun i h q => (let ⟨o, e, c, dq⟩ := q.1; ⟨o, _, e, c, by decide, fun vs e => by rw [dq] at e; cases e; intro q t z; simp [rawInt] at z⟩), Kp.of (t := s.toks) (rw_push _ _), Nat.le_refl _, hl⟩)
      | true =>
        refine wpAny_pyIter_tuple hs'.tuple (h _ _ _ _ _ ⟨hlen ▸ Walks.tuple hh s.heap.objs.size a hne vs.toArray, ⟨⟨_, Heap.get?_push_size _ rfl, rfl, rfl⟩, hs'.tuple.push _⟩, hfp, hit, get_size _, fun i h q => (let ⟨o, e, _⟩ := q.1; ⟨o, e⟩), ti.new, fun i h q => (let ⟨o, e, c, dq⟩ := q.1; ⟨o, _, e, c, by decide, fun vs e => by rw [dq] at e; cases e; intro q t z; simp [rawInt] at z⟩), Kp.of (t := s.toks) (rw_push _ _), Nat.le_refl _, hl⟩)
    · cases e
  · rename_i x
    split at e
    · rename_i hl
      cases e
      obtain ⟨t, rfl⟩ := hr.strI
      have hn : (⟨x.toArray⟩ : Str).cps.size = (x.map fun c => D.str [c]).length := by simp
      have key : ∀ (o : Obj) (St : Nat → Heap → Prop), Walks X.prog X.w A s.heap.objs.size [s.heap.objs.size] [s.heap.objs.size] (⟨x.toArray⟩ : Str).cps.size (SignAt ⟨x.toArray⟩) St → St 0 (s.heap.push o) → (∀ (i : Nat) h, St i h → ∃ o, h.get? s.heap.objs.size = some o) → (∀ (i : Nat) h, St i h → NoGo h s.heap.objs.size) →
          Q (.ref s.heap.objs.size) { s with heap := s.heap.push o } := by
        intro o St hW hst ho hng
        refine h _ _ _ _ _ ⟨hn ▸ hW, hst, fun b hb => .inl (by simpa using hb), ?_, get_size _, ho, ti.new, hng, Kp.of (t := s.toks) (rw_push _ _), Nat.le_refl _, by simpa using hl⟩
        intro i v _ hv
        obtain ⟨c, u, hc, rfl⟩ := hv
        refine ⟨.str [c], ?_, ⟨u, rfl⟩⟩
        have : x[i]? = some c := by simpa using hc
        simp [this]
      cases ha : (⟨x.toArray⟩ : Str).cps.all (· < 128)
      · exact wpAny_pyIter_wide ha (key _ _ (Walks.strWide hh _ _ t) ⟨_, Heap.get?_push_size _ rfl, rfl, rfl⟩ (fun i h q => let ⟨o, e, _⟩ := q; ⟨o, e⟩) fun i h q => let ⟨o, e, c, dq⟩ := q; ⟨o, _, e, c, by decide, fun vs e => by rw [dq] at e; cases e; intro q t z; simp [rawInt] at z⟩)
      · exact wpAny_pyIter_ascii ha (key _ _ (Walks.strAscii hh _ _ t) ⟨_, Heap.get?_push_size _ rfl, rfl, rfl⟩ (fun i h q => let ⟨o, e, _⟩ := q; ⟨o, e⟩) fun i h q => let ⟨o, e, c, dq⟩ := q; ⟨o, _, e, c, by decide, fun vs e => by rw [dq] at e; cases e; intro q t z; simp [rawInt] at z⟩)
    · cases e
  · cases e

theorem iter_rev (ti : TI s.heap) {xs : List D} {v : Value} {Q : Value → Shared → Prop} {E : Value → Shared → Prop} (hh : A.handled = none) (hr : Rep X.C (vis H s.heap) (.seq false xs) v) (hl : xs.length ≤ strLid)
    (h : ∀ s₁ I s₂ fp P St, Kp s s₁ → s₁.toks = s.toks → Src X H A s s₂ I xs.reverse fp P St → Q (.ref I) s₂) : wpAny (Md X) A (call (.type "reversed") [v]) (fun r s₁ => wpAny (Md X) A (pyIter r) Q E s₁) E s := by
  obtain ⟨a, vs, rfl, hs, hr⟩ := hr.seqI
  have hs' := hs.mono (vis_le _ _)
  have hne : a ≠ s.heap.objs.size := Nat.ne_of_lt hs'.lt
  have hlen : vs.toArray.size = xs.reverse.length := by rw [List.length_reverse]; exact hr.toArray
  have hnotH : a ∉ H := by obtain ⟨o, n, e, _⟩ := hs; exact (vis_get e).2
  have halive : ∃ o, (gt s.heap) a = some o := by obtain ⟨o, n, e, _⟩ := hs'; exact ⟨o, e⟩
  have hI : (s.heap.push (revObj a ((vs.toArray.size : Int) - 1))).IsRevIter s.heap.objs.size a ((vs.toArray.size : Int) - 1) := ⟨_, Heap.get?_push_size _ rfl, rfl, rfl⟩
  refine call_reversed_list hs'.list ?_
  refine wpAny_pyIter_revIter hI (h s s.heap.objs.size _ [s.heap.objs.size, a] (fun i v => vs.toArray[vs.toArray.size - 1 - i]? = some v) (fun i h => i ≤ vs.toArray.size ∧ h.IsRevIter s.heap.objs.size a ((vs.toArray.size : Int) - 1 - (i : Int)) ∧ h.IsList a vs.toArray) (Kp.refl s) rfl ⟨(by rw [← hlen]; exact Walks.listRev hh s.heap.objs.size a hne vs.toArray), ⟨Nat.zero_le _, ?_, hs'.list.push _⟩, ?_, ?_, get_size _,
    fun i h q => (let ⟨o, e, _⟩ := q.2.1; ⟨o, e⟩), ti.new, fun i h q => (let ⟨o, e, c, dq⟩ := q.2.1; ⟨o, _, e, c, by decide, fun vs e => by rw [dq] at e; cases e; intro q t z; simp [rawInt] at z⟩), Kp.of (t := s.toks) (rw_push _ _), Nat.le_refl _, by simpa using hl⟩)
  · have : (vs.toArray.size : Int) - 1 - ((0 : Nat) : Int) = (vs.toArray.size : Int) - 1 := by omega
    rw [this]; exact hI
  · intro b hb
    rcases List.mem_cons.mp hb with rfl | hb
    · exact .inl rfl
    · rcases List.mem_cons.mp hb with rfl | hb
      · exact .inr ⟨hnotH, halive⟩
      · cases hb
  · intro i u hi hu
    have hi' : i < xs.length := by simpa using hi
    have hvl : vs.length = xs.length := hr.length
    obtain ⟨u', hu', ru⟩ := hr.reverse.get (d := xs.reverse[i]) (i := i) (by simp [hi'])
    have : u' = u := by
      rw [List.getElem?_reverse (by omega)] at hu'
      rw [List.getElem?_toArray, List.size_toArray] at hu
      rw [hu] at hu'
      exact (Option.some.inj hu').symm
    subst this
    exact ⟨xs.reverse[i], by simp [hi'], ru⟩

noncomputable def rangeD (a b : Int) : List D := (List.range (b - a).toNat).map fun (i : Nat) => D.int (a + (i : Int))
theorem rangeD_len {a b : Int} : (rangeD a b).length = (b - a).toNat := by simp [rangeD]
theorem range_src (ti : TI s.heap) {a b : Int} {t u v : Tok} {r : Addr} {Q : Value → Shared → Prop} {E : Value → Shared → Prop} (hh : A.handled = none) (hr : IsRange s.heap r a b 1 t u v)
    (ha : -1000 ≤ a ∧ a ≤ 1000) (hb : b ≤ 20000) (hb' : -(2 ^ 62) ≤ b) (h : ∀ I s₂ fp P St, Src X H A s s₂ I (rangeD a b) fp P St → Q (.ref I) s₂) : wpAny (Md X) A (pyIter (.ref r)) Q E s := by
  refine wpAny_pyIter_range hr (small_one (by omega) (by omega) hb' (by omega)) ?_
  have hsz : Builtin.Range.rangeSize a b 1 = ((b - a).toNat : Int) := by rw [rangeSize_one]; split <;> omega
  have W := Walks.range (prog := X.prog) (w := X.w) hh s.heap.objs.size a 1 (rangeD a b).length
  refine h _ _ _ _ _ ⟨W, ?_, fun b hb => .inl (by simpa using hb), ?_, get_size _, fun i h q => ⟨_, q⟩, ti.new, fun i h q => ⟨_, _, q, rfl, by decide, fun vs e => by cases e; intro q t z; simp [rawInt] at z⟩, Kp.of (t := s.toks) (rw_push _ _), Nat.le_refl _, ?_⟩
  · show (s.heap.push _).get? s.heap.objs.size = _
    rw [Heap.get?_push_size _ rfl, rangeD_len, hsz]
    simp
  · intro i w hi hw
    obtain ⟨t, rfl⟩ := hw
    rw [rangeD_len] at hi
    refine ⟨.int (a + i), ?_, ⟨t, by rw [Int.mul_one]⟩⟩
    simp [rangeD, hi]
  · rw [rangeD_len]; have : strLid = 100000 := rfl; omega
end
end Mine
end

section
open PySem PySem.Calls PyProof.Rows
set_option Elab.async false
set_option maxRecDepth 100000
namespace Mine

noncomputable def closL (cells : List (Str × Addr)) : Sc → List (Str × Addr) → List (Str × Addr)
  | [], acc => acc
  | (n, k) :: r, acc => if k == .free then closL cells r ((n, (cells.lookup n).getD 0) :: acc) else closL cells r acc

theorem closureFor_eq {scope : Scope} {env : Env} (h : ∀ x ∈ scope.names, x.2 = .free → ∃ c, env.cells.lookup x.1 = some c) : closureFor scope env = pure (closL env.cells scope.names []) := by
  have key : ∀ (names : Sc) (acc : List (Str × Addr)), (∀ x ∈ names, x.2 = .free → ∃ c, env.cells.lookup x.1 = some c) →
      (forIn names acc (fun x r => match x with
        | (name, kind) => if (kind == NameKind.free) = true then (do let a ← cellOf env name; pure (ForInStep.yield ((name, a) :: r))) else pure (ForInStep.yield r)) : Sem _) = pure (closL env.cells names acc) := by
    intro names
    induction names with
    | nil => intro acc _; rfl
    | cons x r ih =>
      intro acc h
      obtain ⟨n, kd⟩ := x
      rw [List.forIn_cons]
      have ih' := fun acc => ih acc fun y hy => h y (.tail _ hy)
      by_cases hk : (kd == NameKind.free) = true
      · obtain ⟨c, hc⟩ := h (n, kd) (.head _) (by simpa using hk)
        have e1 : cellOf env n = pure c := by unfold cellOf; rw [hc]
        simp only [hk, if_true, e1, pure_bind, closL, hc, Option.getD_some]
        exact ih' _
      · simp only [hk, if_false, pure_bind, closL, Bool.false_eq_true]
        exact ih' _
  have := key scope.names [] h
  unfold closureFor
  rw [← this]
  simp only [bind_pure]

theorem closL_lookup (cells : List (Str × Addr)) (y : Str) : ∀ (names : Sc) (acc : List (Str × Addr)),
    (closL cells names acc).lookup y = if (y, NameKind.free) ∈ names then some ((cells.lookup y).getD 0) else acc.lookup y
  | [], acc => by simp [closL]
  | (n, kd) :: r, acc => by
    unfold closL
    by_cases hk : (kd == NameKind.free) = true
    · have hk' : kd = .free := by simpa using hk
      subst hk'
      rw [if_pos hk, closL_lookup cells y r]
      by_cases hy : y = n
      · subst hy
        simp [List.lookup_cons]
      · have h1 : (y == n) = false := by simpa using hy
        simp [List.lookup_cons, h1, hy]
    · have hk' : kd ≠ .free := by simpa using hk
      rw [if_neg hk, closL_lookup cells y r]
      have : ((y, NameKind.free) ∈ (n, kd) :: r) ↔ (y, NameKind.free) ∈ r := by
        simp [Ne.symm hk']
      simp only [this]

theorem lookup_mapped (g : Str → NameKind → NameKind) (x : Str) : ∀ (l : Sc), (l.map fun p => (p.1, g p.1 p.2)).lookup x = (l.lookup x).map (g x)
  | [] => rfl
  | (n, kd) :: r => by
    have ih := lookup_mapped g x r
    rw [List.map_cons]
    cases h : x == n with
    | true =>
      have e : x = n := by simpa using h
      subst e
      simp only [List.lookup_cons, h, Option.map_some]
    | false => simp only [List.lookup_cons, h]; exact ih
theorem relab_lookup {env : Env} (x : Str) (names : Sc) :
    (names.map fun (n, k) => if (k == NameKind.free && env.scope.kind == .function && env.kindOf n == some .cell) then (n, NameKind.cell) else (n, k)).lookup x =
      (names.lookup x).map fun k => if (k == NameKind.free && env.scope.kind == .function && env.kindOf x == some .cell) then NameKind.cell else k := by
  rw [← lookup_mapped (fun n k => if (k == NameKind.free && env.scope.kind == .function && env.kindOf n == some .cell) then NameKind.cell else k)]
  congr 1
  apply List.map_congr_left
  intro p _
  obtain ⟨n, k⟩ := p
  dsimp only
  split <;> rfl
theorem comp_kind {env : Env} {scope : Scope} {cl : List (Str × Addr)} {C : Addr} (x : Str) :
    (compEnvC scope cl C env).kindOf x = (scope.names.lookup x).map fun k => if (k == NameKind.free && env.scope.kind == .function && env.kindOf x == some .cell) then NameKind.cell else k :=
  relab_lookup x scope.names


noncomputable def captGo (caps : List Nat) (x : Nat) (d : D) : Nat → List Sl → List Sl
  | _, [] => []
  | j, s :: r => (if j == x then .fr d else if caps.contains j then (match s with | .fr e => .fr e | _ => .un) else .un) :: captGo caps x d (j + 1) r
theorem captGo_get (caps : List Nat) (x : Nat) (d : D) : ∀ (σ : List Sl) (j i : Nat), (captGo caps x d j σ)[i]? = (σ[i]?).map fun s =>
    if i + j == x then Sl.fr d else if caps.contains (i + j) then (match s with | .fr e => .fr e | _ => .un) else .un
  | [], _, _ => by simp [captGo]
  | s :: r, j, 0 => by simp [captGo]
  | s :: r, j, i + 1 => by
    simp only [captGo, List.getElem?_cons_succ]
    rw [captGo_get caps x d r (j + 1) i]
    have : i + (j + 1) = i + 1 + j := by omega
    rw [this]

/-- what an expression is walked over -/
noncomputable def SrcS (F : Fx) (σ : List Sl) (it : Expr) (items : List D) : Prop := (∀ env x, foldedSetIterable it env x = pure x) ∧ ∀ H G env s A, EvSt F H G env σ s → Rm F.k A →
  wpAny (Md F.X) A (eval it env) (fun xv s₁ => wpAny (Md F.X) A (pyIter xv) (fun iv s₂ => ∃ s₁ I fp P St, iv = .ref I ∧ Gr s s₁ ∧ Src F.X H A s₁ s₂ I items fp P St) E0 s₁) E0 s
noncomputable def TestsS (F : Fx) (σ : List Sl) (fs : List Expr) (b : Bool) : Prop := (fs = [] ∧ b = true) ∨ ∃ f, fs = [f] ∧ TsS F σ f b
/-- a comprehension's items, one by one -/
inductive CompR (F : Fx) (σ : D → List Sl) (l : Expr) (fs : List Expr) : List D → List D → Prop
  | nil : CompR F σ l fs [] []
  | yes {d y r out} : TestsS F (σ d) fs true → EvS F (σ d) l y → CompR F σ l fs r out → CompR F σ l fs (d :: r) (y :: out)
  | no {d r out} : TestsS F (σ d) fs false → CompR F σ l fs r out → CompR F σ l fs (d :: r) out
noncomputable abbrev Fx.inn (F : Fx) (sc : Sc) : Fx := { F with sc := sc, cl := [] }

section
variable {F : Fx} {H : List Addr} {G : Nat → Addr} {env : Env} {σ : List Sl} {s : Shared} {A : Around}
theorem rawAt {h h' : Heap} {a : Addr} (n : a ∉ tbs) (k : ∀ o, gt h a = some o → gt h' a = some o) : ∀ o, h.get? a = some o → h'.get? a = some o := fun o e => gt_get (k o (gt_of e n))
theorem gtAt {h h' : Heap} {a : Addr} (k : ∀ o, h.get? a = some o → h'.get? a = some o) : ∀ o, gt h a = some o → gt h' a = some o := fun o e => gt_of (k o (gt_get e)) (gt_tb e)
theorem Src.fnt {s₁ s₂ : Shared} {I : Addr} {items : List D} {fp : List Addr} {P : Nat → Value → Prop} {St : Nat → Heap → Prop} (Z : Src F.X H A s₁ s₂ I items fp P St) : ∀ b ∈ fp, b ∉ tbs := fun b hb => by
  rcases Z.fpo b hb with rfl | ⟨_, o, e⟩
  · exact Z.nt
  · exact gt_tb e
theorem Src.frame {s₁ s₂ : Shared} {I : Addr} {items : List D} {fp : List Addr} {P : Nat → Value → Prop} {St : Nat → Heap → Prop} (Z : Src F.X H A s₁ s₂ I items fp P St) {i : Nat} {h h' : Heap} (st : St i h) (k : ∀ b ∈ fp, ∀ o, gt h b = some o → gt h' b = some o) : St i h' :=
  Z.W.frame i h h' st fun b hb o e => gt_get (k b hb o (gt_of e (Z.fnt b hb)))
theorem Src.gtI {s₁ s₂ : Shared} {I : Addr} {items : List D} {fp : List Addr} {P : Nat → Value → Prop} {St : Nat → Heap → Prop} (Z : Src F.X H A s₁ s₂ I items fp P St) {i : Nat} {h : Heap} (st : St i h) : ∃ o, gt h I = some o := let ⟨o, e⟩ := Z.lv i h st; ⟨o, gt_of e Z.nt⟩
theorem comp_state {scope : Scope} {caps : List Nat} {x : Nat} {n : Str} {d : D} {v : Value} {C Dd I : Addr} {s₃ : Shared} {m₃ : Str → Option Value}
    (S : EvSt F H G env σ s) (hC : (gt s.heap) C = none) (hD : (gt s.heap) Dd = none) (hI : (gt s.heap) I = none)
    (hkind : scope.kind = .function) (hcell : ∀ y ∈ scope.names, y.2 ≠ .cell) (hx : F.nm[x]? = some n) (hn : scope.names.lookup n = some .local)
    (hcaps : ∀ i ∈ caps, ∃ y, F.nm[i]? = some y ∧ scope.names.lookup y = some .free) (hfree : ∀ y ∈ scope.names, y.2 = .free → F.sc.lookup y.1 = some .cell)
    (hk : ∀ b o, b ≠ C → b ≠ Dd → b ≠ I → (gt s.heap) b = some o → (gt s₃.heap) b = some o) (hns : NsV s₃.heap C m₃) (hv : m₃ n = some v)
    (hr : Rep F.X.C (vis (C :: Dd :: I :: H) s₃.heap) d v) (ti : TI s₃.heap) (aD : ∃ o, (gt s₃.heap) Dd = some o) (aI : ∃ o, (gt s₃.heap) I = some o) (tk : 1 ≤ s₃.toks) :
    EvSt (F.inn scope.names) (C :: Dd :: I :: H) G (compEnvC scope (closL env.cells scope.names []) C env) (captGo caps x d 0 σ) s₃ := by
  have ne : ∀ b o, (gt s.heap) b = some o → b ≠ C ∧ b ≠ Dd ∧ b ≠ I := fun b o e =>
    ⟨fun q => (by rw [q, hC] at e; cases e), fun q => (by rw [q, hD] at e; cases e), fun q => (by rw [q, hI] at e; cases e)⟩
  have up : Le (gt s.heap) (gt s₃.heap) := fun b o e => hk b o (ne b o e).1 (ne b o e).2.1 (ne b o e).2.2 e
  have vup : Le (vis H s.heap) (vis (C :: Dd :: I :: H) s₃.heap) := fun b o e => by
    obtain ⟨e1, e2⟩ := vis_get e
    have q := ne b o e1
    exact vis_of (up b o e1) (by simp [q.1, q.2.1, q.2.2, e2])
  refine ⟨hkind, S.glb, S.blt, fun y hy => ?_, fun y hy => ?_, fun i y sl hi hsl => ?_, S.nms, ?_, S.w0.trans up, tk, S.W, fun _ q => nomatch q⟩
  · rw [comp_kind, hy]; rfl
  · exact absurd rfl (hcell _ (mem_of_lookup hy))
  · rw [captGo_get] at hsl
    obtain ⟨s0, h0, rfl⟩ := Option.map_eq_some_iff.mp hsl
    rw [Nat.add_zero]
    by_cases hix : (i == x) = true
    · have e : i = x := by simpa using hix
      subst e
      rw [hx] at hi; cases hi
      simp only [hix, if_true]
      exact ⟨v, .inl ⟨by rw [comp_kind, hn]; rfl, m₃, hns, hv⟩, hr⟩
    · simp only [hix, Bool.false_eq_true, if_false]
      by_cases hc : caps.contains i = true
      · simp only [hc, if_true]
        obtain ⟨y', hy', hl⟩ := hcaps i (by simpa using hc)
        rw [hi] at hy'; cases hy'
        cases s0 with
        | un => trivial
        | ow => trivial
        | fr e =>
          obtain ⟨u, hu, ru⟩ := S.vars i y _ hi h0
          have hm := mem_of_lookup hl
          have hcy := S.ck y (hfree _ hm rfl)
          refine ⟨u, .inr ⟨.inl ?_, ?_⟩, ru.mono vup⟩
          · rw [comp_kind, hl]
            simp [S.kind, hcy.1]
          · rcases hu with ⟨hl', _⟩ | ⟨_, c, hc1, hc2⟩
            · rw [hcy.1] at hl'; cases hl'
            · refine ⟨c, ?_, hc2.keeps up⟩
              show (closL env.cells scope.names []).lookup y = some c
              rw [closL_lookup, if_pos hm, hc1]; rfl
      · simp only [hc, if_false, Bool.false_eq_true]
        trivial
  · refine ⟨ti, fun b hb => ?_⟩
    rcases List.mem_cons.mp hb with rfl | hb
    · exact hns.al
    · rcases List.mem_cons.mp hb with rfl | hb
      · exact aD
      · rcases List.mem_cons.mp hb with rfl | hb
        · exact aI
        · obtain ⟨o, e⟩ := S.hb.al b hb; exact ⟨o, up _ _ e⟩

end
end Mine
end

section
open PySem PySem.Calls PyProof.Rows
set_option Elab.async false
set_option maxRecDepth 100000
namespace Mine
structure ScOk (F : Fx) (caps : List Nat) (x : Nat) (n : Str) (scope : Scope) : Prop where
  kind : scope.kind = .function
  cell : ∀ y ∈ scope.names, y.2 ≠ .cell
  loc : ∀ y ∈ scope.names, y.2 = .local → scope.names.lookup y.1 = some .local
  hx : F.nm[x]? = some n
  hn : scope.names.lookup n = some .local
  caps : ∀ i ∈ caps, ∃ y, F.nm[i]? = some y ∧ scope.names.lookup y = some .free
  free : ∀ y ∈ scope.names, y.2 = .free → F.sc.lookup y.1 = some .cell
noncomputable def scOkB (nm : List Str) (sc : Sc) (caps : List Nat) (x : Nat) (n : Str) (scope : Scope) : Bool :=
  scope.kind == .function && scope.names.all (fun y => !(y.2 == .cell) && (!(y.2 == .local) || scope.names.lookup y.1 == some .local) && (!(y.2 == .free) || sc.lookup y.1 == some .cell)) &&
  nm[x]? == some n && scope.names.lookup n == some .local && caps.all (fun i => match nm[i]? with | some y => scope.names.lookup y == some .free | none => false)
theorem ScOk.of {F : Fx} {caps : List Nat} {x : Nat} {n : Str} {scope : Scope} (h : scOkB F.nm F.sc caps x n scope = true) : ScOk F caps x n scope := by
  simp only [scOkB, Bool.and_eq_true, beq_iff_eq, List.all_eq_true, Bool.or_eq_true, Bool.not_eq_true'] at h
  obtain ⟨⟨⟨⟨h1, h2⟩, h3⟩, h4⟩, h5⟩ := h
  refine ⟨h1, fun y hy q => ?_, fun y hy q => ?_, h3, h4, fun i hi => ?_, fun y hy q => ?_⟩
  · have := (h2 y hy).1.1; rw [q] at this; cases this
  · rcases (h2 y hy).1.2 with z | z
    · rw [q] at z; cases z
    · exact z
  · have := h5 i hi
    split at this
    · rename_i y hy; exact ⟨y, hy, eq_of_beq this⟩
    · cases this
  · rcases (h2 y hy).2 with z | z
    · rw [q] at z; cases z
    · exact z

section
variable {F : Fx} {H : List Addr} {G : Nat → Addr} {env : Env} {σ : List Sl} {s : Shared} {A : Around}
theorem compR_step {F' : Fx} {ss : D → List Sl} {l : Expr} {fs : List Expr} {d : D} {r out : List D} (h : CompR F' ss l fs (d :: r) out) :
    (TestsS F' (ss d) fs true ∧ ∃ y out', EvS F' (ss d) l y ∧ CompR F' ss l fs r out' ∧ out = y :: out') ∨ (TestsS F' (ss d) fs false ∧ CompR F' ss l fs r out) := by
  cases h with
  | yes a b c => exact .inl ⟨a, _, _, b, c, rfl⟩
  | no a b => exact .inr ⟨a, b⟩
/-- a comprehension's run behind i items -/
structure CInv (F : Fx) (H' : List Addr) (k₂ : Nat) (g₂ : Gt) (St : Nat → Heap → Prop) (items out : List D) (σc : D → List Sl) (sc : Sc) (l : Expr) (fs : List Expr) (I Dd C : Addr) (kk : Nat) (h' : Heap) (tk : Nat) (m' : Str → Option Value) (ys : Array Value) (outs rest : List D) (i : Nat) : Prop where
  tk : k₂ ≤ tk
  ti : TI h'
  st : St i h'
  pl : h'.PlainList Dd ys
  ns : NsV h' C m'
  out : out = outs ++ rest
  cr : CompR (F.inn sc) σc l fs (items.drop i) rest
  rp : Reps F.X.C (vis H' h') outs ys.toList
  sz : ys.size ≤ i
  le : i ≤ items.length
  kk : kk = items.length + 1 - i
  al : ∃ o, (gt h') I = some o
  kp : ∀ b o, b ≠ C → b ≠ Dd → b ≠ I → g₂ b = some o → (gt h') b = some o
theorem comp_core {x : Nat} {caps : List Nat} {l it : Expr} {n : Str} {p q pos : Pos} {fs : List Expr} {scope : Scope} {items out : List D} {use : Option (Value → Sem Unit)} {Q : Value → Shared → Prop}
    (O : ScOk F caps x n scope) (S : EvSt F H G env σ s) (R : Rm F.k A) (hs : SrcS F σ it items) (cr : CompR (F.inn scope.names) (fun d => captGo caps x d 0 σ) l fs items out)
    (fin : ∀ C Dd h2 t2 dr m', (gt s.heap) C = none → NsV h2 C m' → Kp s { s with heap := h2, toks := t2, drawn := dr } → s.toks ≤ t2 → Rep F.X.C (vis (C :: H) h2) (.seq false out) (.ref Dd) →
      compPost (Md F.X) A E0 use Q (.ref Dd) C (.ok .next) { s with heap := h2, toks := t2, drawn := dr }) :
    wpAny (Md F.X) A (comprehension (.ListComp l [⟨.Name n p, it, fs, 0⟩] scope q) scope env pos (newList []) false (eval it env) use) Q E0 s := by
  obtain ⟨hkind, hcell, hloc, hx, hn, hcaps, hfree⟩ := id O
  refine wpAny_comprehension_free (cl := closL env.cells scope.names []) rfl (hs.1 env) (closureFor_eq fun y hy hf => (S.ck y.1 (hfree y hy hf)).2) hkind hloc
    (wpAny_mono (hs.2 H G env s A S R) (fun xv s₁ h₁ => wpAny_mono h₁ (fun iv s₂ h₂ => ?_) fun _ _ e => e) fun _ _ e => e)
  obtain ⟨s₁, I, fp, P, St, rfl, ⟨k₁, t₁⟩, Z⟩ := h₂
  have S₂ : EvSt F H G env σ s₂ := S.mono ⟨ktr k₁ Z.k, Nat.le_trans t₁ Z.tk⟩
  have hIs : (gt s.heap) I = none := by
    cases q : (gt s.heap) I with
    | none => rfl
    | some o => have := kle k₁ _ _ q; rw [Z.new] at this; cases this
  -- the new list and the block's names
  refine wpAny_newObj_type (wpAny_newFunctionEnv hcell (by intro y hy; simp at hy) (fun h₁ hns₁ hsb₁ => ?_) hkind)
  dsimp only at hns₁ hsb₁ ⊢
  generalize hH2 : s₂.heap.push { cls := .type "list", dict := none, data := .seq ([] : List Value).toArray } = H2 at hns₁ hsb₁ ⊢
  have hCs : H2.objs.size = s₂.heap.objs.size + 1 := by rw [← hH2, Heap.size_push]
  have hDC : s₂.heap.objs.size ≠ H2.objs.size := by rw [hCs]; exact Nat.ne_of_lt (Nat.lt_succ_self _)
  have hD2 : (gt s₂.heap) s₂.heap.objs.size = none := get_size _
  have hC2 : (gt s₂.heap) H2.objs.size = none := by
    cases q : (gt s₂.heap) H2.objs.size with
    | none => rfl
    | some o => exact absurd (Heap.lt_size (gt_get q)) (by rw [hCs]; exact Nat.not_lt.mpr (Nat.le_succ _))
  obtain ⟨oI, hoI⟩ := Z.lv _ _ Z.st
  have hIlt := Heap.lt_size hoI
  have hID : I ≠ s₂.heap.objs.size := Nat.ne_of_lt hIlt
  have hIC : I ≠ H2.objs.size := by rw [hCs]; exact Nat.ne_of_lt (Nat.lt_succ_of_lt hIlt)
  have oldr : ∀ b o, s₂.heap.get? b = some o → h₁.get? b = some o := fun b o e =>
    hsb₁.extBut b o (by rw [hCs]; exact Nat.ne_of_lt (Nat.lt_succ_of_lt (Heap.lt_size e))) (Heap.get?_push_of_some _ (hH2 ▸ Heap.get?_push_of_some _ e))
  have old : ∀ b o, (gt s₂.heap) b = some o → (gt h₁) b = some o := (Rw.raw oldr).1
  have ti₁ : TI h₁ := S₂.hb.ti.raw oldr
  have nD : s₂.heap.objs.size ∉ tbs := S₂.hb.ti.new
  have nC : H2.objs.size ∉ tbs := fun q => by
    have := S₂.hb.ti.2 _ q
    rw [hCs] at this
    exact Nat.lt_irrefl _ (Nat.lt_of_succ_lt this)
  have hacc : h₁.PlainList s₂.heap.objs.size #[] := ⟨_, hsb₁.extBut _ _ hDC (Heap.get?_push_of_some _ (hH2 ▸ Heap.get?_push_size _ rfl))⟩
  have fpOld : ∀ b ∈ fp, b ≠ s₂.heap.objs.size ∧ b ≠ H2.objs.size := fun b hb => by
    rcases Z.fpo b hb with rfl | ⟨_, o, e⟩
    · exact ⟨hID, hIC⟩
    · have hl := Heap.lt_size (gt_get (kle Z.k _ _ e))
      exact ⟨Nat.ne_of_lt hl, by rw [hCs]; exact Nat.ne_of_lt (Nat.lt_succ_of_lt hl)⟩
  have hst₁ : St 0 h₁ := Z.frame Z.st fun b _ o e => old b o e
  generalize hDd : s₂.heap.objs.size = Dd at *
  generalize hCc : H2.objs.size = C at *
  let H' := C :: Dd :: I :: H
  have notH : ∀ b, (gt s₂.heap) b = none → b ∉ H := fun b hb hm => by obtain ⟨o, e⟩ := S₂.hb.al b hm; rw [hb] at e; cases e
  have hIH : I ∉ H := fun hm => by obtain ⟨o, e⟩ := S.hb.al I hm; rw [hIs] at e; cases e
  have loop : ∀ s₄ : Shared, s₄ = { s₂ with heap := h₁, toks := s₂.toks + ([] : List (Str × Value)).length } →
      codeAny (Md F.X) A (.compLoop (.ListComp l [⟨.Name n p, it, fs, 0⟩] scope q) 0 (.ref I) (.ref Dd) (compEnvC scope (closL env.cells scope.names []) C env))
        (compPost (Md F.X) A E0 use Q (.ref Dd) C) s₄ := by
    rintro s₄ rfl
    refine codeAny_compLoop_tests (fun kk s' => ∃ h' tk dr m' ys outs rest i, s' = { s₂ with heap := h', toks := tk, drawn := dr } ∧ CInv F H' s₂.toks (gt s₂.heap) St items out (fun d => captGo caps x d 0 σ) scope.names l fs I Dd C kk h' tk m' ys outs rest i) ?_ (items.length + 1)
      ⟨h₁, _, _, _, #[], [], out, 0, rfl, Nat.le_refl _, ti₁, hst₁, hacc, ⟨hns₁, nC⟩, rfl, cr, .mkN, Nat.zero_le _, Nat.zero_le _, rfl, Z.gtI hst₁, fun b o _ _ _ e => old b o e⟩
    rintro kk s' ⟨h', tk, dr, m', ys, outs, rest, i, rfl, htk, ti, hst, hpl, hn', hout, hrest, hreps, hys, hi, rfl, hlI, hkeep⟩
    by_cases hlt : i < items.length
    · -- one more
      let Q0 : Option Value → Shared → Prop := fun r s'' => ∃ h2 tk2 v, r = some v ∧ s'' = { s₂ with heap := h2, toks := tk2, drawn := dr } ∧ P i v ∧ St (i + 1) h2 ∧ (∀ b o, b ∉ [I] → h'.get? b = some o → h2.get? b = some o)
      have hW : wpAny (Md F.X) A (pyNext (.ref I)) Q0 E0 { s₂ with heap := h', toks := tk, drawn := dr } :=
        Z.W.item i { s₂ with heap := h', toks := tk, drawn := dr } Q0 E0 hlt hst fun v h2 tk2 hP hst2 hk2 => ⟨h2, tk2, v, rfl, rfl, hP, hst2, hk2⟩
      refine wpAny_mono (wpAny_toks hW) (fun r s'' h'' => ?_) fun _ _ q => q.2.elim
      obtain ⟨tk', h2, tk2, v, rfl, rfl, hP, hst2, hk2⟩ := h''
      dsimp only at tk' ⊢
      have up2r : ∀ b o, b ≠ I → h'.get? b = some o → h2.get? b = some o := fun b o hb e => hk2 b o (by simpa using hb) e
      have up2 : ∀ b o, b ≠ I → (gt h') b = some o → (gt h2) b = some o := fun b o hb e => gt_of (up2r b o hb (gt_get e)) (gt_tb e)
      have ti2 : TI h2 := ti.but up2r (Z.ng _ _ hst).nc
      have hn2 : NsV h2 C m' := hn'.at' fun o e => up2 _ o (Ne.symm hIC) e
      refine wpAny_assign_Name (wpAny_storeName_local (by rw [comp_kind, hn]; rfl) hn2.1 (fun h3 hn3 hs3 => ?_) (by simp [compEnvC, relabel, hkind]))
      change h3.Ns C _ at hn3
      change Heap.SameBut C h2 h3 at hs3
      have ti3 : TI h3 := ti2.same hs3 hn2.nc
      have hs3g : ∀ b o, b ≠ C → gt h2 b = some o → gt h3 b = some o := fun b o q e => gt_of (hs3.extBut b o q (gt_get e)) (gt_tb e)
      have hst3 : St (i + 1) h3 := Z.frame hst2 fun b hb o e => hs3g b o (fpOld b hb).2 e
      have keep3 : ∀ b o, b ≠ C → b ≠ Dd → b ≠ I → (gt s₂.heap) b = some o → (gt h3) b = some o := fun b o h1 h2' h3' e => hs3g b o h1 (up2 b o h3' (hkeep b o h1 h2' h3' e))
      have pl3 : h3.PlainList Dd ys := (hpl.at fun o e => up2r _ o (Ne.symm hID) e).at fun o e => hs3.extBut _ o hDC e
      have liveI : ∃ o, (gt h3) I = some o := Z.gtI hst3
      obtain ⟨d, hd, rd⟩ := Z.it i v hlt hP
      have noneD : (gt s₁.heap) Dd = none := by
        cases q : (gt s₁.heap) Dd with
        | none => rfl
        | some o => have := kle Z.k _ _ q; rw [hD2] at this; cases this
      have noneC : (gt s₁.heap) C = none := by
        cases q : (gt s₁.heap) C with
        | none => rfl
        | some o => have := kle Z.k _ _ q; rw [hC2] at this; cases this
      have vup3 : Le (vis H s₁.heap) (vis H' h3) := fun b o e => by
        obtain ⟨e1, e2⟩ := vis_get e
        have q1 : b ≠ C := fun q => by rw [q, noneC] at e1; cases e1
        have q2 : b ≠ Dd := fun q => by rw [q, noneD] at e1; cases e1
        have q3 : b ≠ I := fun q => by rw [q, Z.new] at e1; cases e1
        exact vis_of (keep3 b o q1 q2 q3 (kle Z.k _ _ e1)) (by simp [H', q1, q2, q3, e2])
      have B3 : EvSt (F.inn scope.names) H' G (compEnvC scope (closL env.cells scope.names []) C env) (captGo caps x d 0 σ) { s₂ with heap := h3, toks := tk2 + 1, drawn := dr } :=
        comp_state (S.mono ⟨k₁, t₁⟩) noneC noneD Z.new hkind hcell hx hn hcaps hfree (fun b o q1 q2 q3 e => keep3 b o q1 q2 q3 (kle Z.k _ _ e)) ⟨hn3, nC⟩ (by simp) (rd.mono vup3)
          ti3 (by obtain ⟨m, e⟩ := pl3; exact ⟨_, gt_of e nD⟩) liveI (Nat.le_trans S₂.tk (Nat.le_trans (Nat.le_trans htk tk') (Nat.le_succ _)))
      have v3 : Le (vis H' h') (vis H' h3) := fun b o e => by
        obtain ⟨e1, e2⟩ := vis_get e
        have q1 : b ≠ C := fun q => e2 (by simp [H', q])
        have q3 : b ≠ I := fun q => e2 (by simp [H', q])
        exact vis_of (hs3g b o q1 (up2 b o q3 e1)) e2
      have reps3 : Reps F.X.C (vis H' h3) outs ys.toList := hreps.mono v3
      have hdrop : items.drop i = d :: items.drop (i + 1) := by
        obtain ⟨hl, he⟩ := List.getElem?_eq_some_iff.mp hd
        rw [List.drop_eq_getElem_cons hl, he]
      rw [hdrop] at hrest
      have test : ∀ (bb : Bool) (E' : Value → Shared → Prop), TestsS (F.inn scope.names) (captGo caps x d 0 σ) fs bb →
          wpAny (Md F.X) A (forIn fs true fun c r => if r = true then do let ok ← isTrue c (compEnvC scope (closL env.cells scope.names []) C env) (eval c (compEnvC scope (closL env.cells scope.names []) C env)); pure (ForInStep.yield ok) else pure (ForInStep.yield r))
            (fun ok s3 => Gr { s₂ with heap := h3, toks := tk2 + 1, drawn := dr } s3 ∧ ok = bb) E' { s₂ with heap := h3, toks := tk2 + 1, drawn := dr } := by
        intro bb E' hb
        rcases hb with ⟨rfl, rfl⟩ | ⟨f, rfl, hf⟩
        · exact wpAny_tests_nil ⟨Gr.rf _, rfl⟩
        · exact wpAny_tests_one (wpAny_mono (up (hf _ _ _ _ _ B3 R)) (fun _ _ q => q) fun _ _ q => q.elim)
      rcases compR_step hrest with ⟨hp, y, out', hy, hro, rfl⟩ | ⟨hp, hro⟩
      · refine wpAny_mono (test true _ hp) (fun ok s4 h4 => ?_) fun _ _ q => q
        obtain ⟨g4, rfl⟩ := h4
        have ⟨k4, t4⟩ := g4
        simp only [if_true]
        refine wpAny_mono (up (hy _ _ _ _ _ (B3.mono g4) R)) (fun yv s5 h5 => ?_) fun _ _ q => q.elim
        obtain ⟨⟨k5, t5⟩, ry⟩ := h5
        clear g4
        obtain ⟨h4, tk4, d4, rfl, kk4⟩ := k4
        obtain ⟨h5, tk5, d5, rfl, kk5⟩ := k5
        dsimp only at kk4 kk5 t4 t5 ry ⊢
        have pl5 := pl3.at (rawAt nD fun o e => kk5.1 _ _ (kk4.1 _ _ e))
        have ti5 : TI h5 := kk5.2 (kk4.2 ti3)
        refine wpAny_list_append_plain pl5 (fun h6 pl6 hs6 => ?_) (by have := Z.small; have e1 : strLid = 100000 := rfl; have e2 : sizeLine = 2 ^ 24 := rfl; rw [e2]; omega)
        dsimp only at hs6
        have ti6 : TI h6 := ti5.same hs6 (fun o e => by obtain ⟨m, e'⟩ := pl5; rw [e] at e'; cases e'; exact .inl nofun)
        have hs6g : ∀ b o, b ≠ Dd → gt h5 b = some o → gt h6 b = some o := fun b o q e => gt_of (hs6.extBut b o q (gt_get e)) (gt_tb e)
        have v6 : Le (vis H' h5) (vis H' h6) := fun b o e => by
          obtain ⟨e1, e2⟩ := vis_get e
          exact vis_of (hs6g b o (fun q => e2 (by simp [H', q])) e1) e2
        have up6 : ∀ b o, b ≠ Dd → (gt h3) b = some o → (gt h6) b = some o := fun b o q e => hs6g b o q (kk5.1 _ _ (kk4.1 _ _ e))
        refine ⟨items.length + 1 - (i + 1), by omega, h6, tk5, _, _, ys.push yv, outs ++ [y], out', i + 1, rfl, by omega, ti6, Z.frame hst3 (fun b hb o e => up6 b o (fpOld b hb).1 e), pl6, NsV.at' ⟨hn3, nC⟩ (fun o e => up6 _ o (Ne.symm hDC) e), by rw [hout, List.append_assoc]; rfl, hro, ?_, by rw [Array.size_push]; omega, hlt, rfl,
          Z.gtI (Z.frame hst3 (fun b hb o e => up6 b o (fpOld b hb).1 e)), fun b o q1 q2 q3 e => up6 b o q2 (keep3 b o q1 q2 q3 e)⟩
        rw [Array.toList_push]
        refine Reps.append (reps3.mono (Le.trans (vis_mono fun b o e => kk5.1 _ _ (kk4.1 _ _ e)) v6)) ?_
        exact .mkC (ry.mono v6) .mkN
      · refine wpAny_mono (test false _ hp) (fun ok s4 h4 => ?_) fun _ _ q => q
        obtain ⟨g4, rfl⟩ := h4
        have ⟨k4, t4⟩ := g4
        simp only [Bool.false_eq_true, if_false]
        clear g4
        obtain ⟨h4, tk4, d4, rfl, kk4⟩ := k4
        dsimp only at kk4 t4 ⊢
        exact ⟨items.length + 1 - (i + 1), by omega, h4, tk4, _, _, ys, outs, rest, i + 1, rfl, by omega, kk4.2 ti3, Z.frame hst3 (fun b hb o e => kk4.1 b o e), pl3.at (rawAt nD fun o e => kk4.1 _ _ e), NsV.keeps ⟨hn3, nC⟩ kk4.1, hout, hro, reps3.mono (vis_mono kk4.1), by omega, hlt, rfl,
          Z.gtI (Z.frame hst3 (fun b hb o e => kk4.1 b o e)), fun b o q1 q2 q3 e => kk4.1 _ _ (keep3 b o q1 q2 q3 e)⟩
    · have hin : i = items.length := by omega
      subst hin
      let Q1 : Option Value → Shared → Prop := fun r s'' => ∃ h2 tk2, r = none ∧ s'' = { s₂ with heap := h2, toks := tk2, drawn := dr } ∧ (∀ b o, b ∉ [I] → h'.get? b = some o → h2.get? b = some o)
      have hW : wpAny (Md F.X) A (pyNext (.ref I)) Q1 E0 { s₂ with heap := h', toks := tk, drawn := dr } := Z.W.done _ Q1 E0 hst fun h2 tk2 hk2 => ⟨h2, tk2, rfl, rfl, hk2⟩
      refine wpAny_mono (wpAny_toks hW) (fun r s'' h'' => ?_) fun _ _ q => q.2.elim
      obtain ⟨tk', h2, tk2, rfl, rfl, hk2⟩ := h''
      dsimp only at tk' ⊢
      have up2r : ∀ b o, b ≠ I → h'.get? b = some o → h2.get? b = some o := fun b o hb e => hk2 b o (by simpa using hb) e
      have up2 : ∀ b o, b ≠ I → (gt h') b = some o → (gt h2) b = some o := fun b o hb e => gt_of (up2r b o hb (gt_get e)) (gt_tb e)
      have ti2 : TI h2 := ti.but up2r (Z.ng _ _ hst).nc
      have hr0 : rest = [] := by rw [List.drop_length] at hrest; cases hrest; rfl
      subst hr0
      rw [List.append_nil] at hout
      subst hout
      have kall : Kp s { s₂ with heap := h2, toks := tk2, drawn := dr } := by
        obtain ⟨ha, ta, da, ea, ka⟩ := ktr k₁ Z.k
        refine ⟨h2, tk2, dr, by rw [ea], fun b o e => ?_, fun _ => ti2⟩
        have e1 : (gt s₂.heap) b = some o := kle (ktr k₁ Z.k) _ _ e
        have q1 : b ≠ C := fun q => by rw [q, hC2] at e1; cases e1
        have q2 : b ≠ Dd := fun q => by rw [q, hD2] at e1; cases e1
        have q3 : b ≠ I := fun q => by rw [q, hIs] at e; cases e
        exact up2 b o q3 (hkeep b o q1 q2 q3 e1)
      have hCs' : (gt s.heap) C = none := by
        cases q : (gt s.heap) C with
        | none => rfl
        | some o => have := kle (ktr k₁ Z.k) _ _ q; rw [hC2] at this; cases this
      have htk' : s.toks ≤ tk2 := Nat.le_trans t₁ (Nat.le_trans Z.tk (Nat.le_trans htk tk'))
      have hs2 : ({ s₂ with heap := h2, toks := tk2, drawn := dr } : Shared) = { s with heap := h2, toks := tk2, drawn := dr } := by
        obtain ⟨ha, ta, da, ea, ka⟩ := ktr k₁ Z.k
        rw [ea]
      rw [hs2]
      refine fin C Dd h2 tk2 dr m' hCs' (hn'.at' (fun o e => up2 _ o (Ne.symm hIC) e)) (hs2 ▸ kall) htk' ?_
      refine .mkQ (vs := ys.toList) ?_ (hreps.mono fun b o e => ?_)
      · obtain ⟨m, e⟩ := hpl
        refine ⟨_, m, vis_of (up2 _ _ (Ne.symm hID) (gt_of e nD)) (fun hm => ?_), rfl, rfl, by simp, rfl⟩
        rcases List.mem_cons.mp hm with q | q
        · exact hDC q
        · exact notH _ hD2 q
      · obtain ⟨e1, e2⟩ := vis_get e
        have q3 : b ≠ I := fun q => e2 (by simp [H', q])
        refine vis_of (up2 b o q3 e1) (fun hm => e2 ?_)
        rcases List.mem_cons.mp hm with q | q
        · simp [H', q]
        · simp [H', q]
  exact codeAny_compStart_list (loop _ rfl) (Z.W.self 0 _ _ _ hst₁ (loop _ rfl))

theorem ev_comp {x : Nat} {caps : List Nat} {l it : Expr} {n : Str} {p q : Pos} {fs : List Expr} {scope : Scope} {items out : List D}
    (O : ScOk F caps x n scope) (hs : SrcS F σ it items) (cr : CompR (F.inn scope.names) (fun d => captGo caps x d 0 σ) l fs items out) :
    EvS F σ (.ListComp l [⟨.Name n p, it, fs, 0⟩] scope q) (.seq false out) := fun H G env s A S R => by
  rw [eval_ListComp]
  refine comp_core O S R hs cr fun C Dd h2 t2 dr m' hC hns kp tk hr => ⟨m', hns.1, fun h' hs' => ⟨?_, ?_⟩⟩
  · exact ⟨h', t2, dr, rfl, fun b o e => gt_of (hs'.extBut b o (fun q => by rw [q, hC] at e; cases e) (gt_get (kp.le _ _ e))) (gt_tb e), fun z => (kp.ti z).same hs' hns.nc⟩
  · refine hr.mono fun b o e => ?_
    obtain ⟨e1, e2⟩ := vis_get e
    exact vis_of (gt_of (hs'.extBut b o (fun q => e2 (by simp [q])) (gt_get e1)) (gt_tb e1)) fun q => e2 (by simp [q])
end
end Mine
end

section
open PySem PySem.Calls PyProof.Rows
set_option Elab.async false
set_option maxRecDepth 100000
namespace Mine
section
variable {F : Fx} {H : List Addr} {G : Nat → Addr} {env : Env} {σ : List Sl} {s : Shared} {A : Around}

/-! join -/
noncomputable def joinD (sep : List Nat) : List Nat → List Nat
  | [] => []
  | c :: r => c :: (r.map fun d => sep ++ [d]).flatten
theorem glued_eq (sep x : List Nat) : (Txt.join ⟨sep.toArray⟩ (signs ⟨x.toArray⟩)).cps.toList = joinD sep x := by
  unfold Txt.join Builtin.Str.glued signs
  have key : ∀ (l : List Nat) (acc : Array Nat), ((l.map fun n => (⟨#[n]⟩ : Str)).foldl (fun acc p => acc ++ sep.toArray ++ p.cps) acc).toList = acc.toList ++ (l.map fun d => sep ++ [d]).flatten := by
    intro l
    induction l with
    | nil => intro acc; simp
    | cons c r ih => intro acc; rw [List.map_cons, List.foldl_cons, ih]; simp
  cases x with
  | nil => simp [joinD, Str.empty]
  | cons c r =>
    show ((r.map fun n => (⟨#[n]⟩ : Str)).foldl (fun acc p => acc ++ sep.toArray ++ p.cps) #[c]).toList = _
    rw [key]; rfl
theorem ev_join {sep : Str} {kd : Nat} {y : Expr} {q ap p : Pos} {xs : List Nat} (hy : EvS F σ y (.str xs)) (h1 : xs.length ≤ 1000) (h2 : sep.cps.toList.length ≤ 1000) (hl : (ap.endLine == p.line) = true := by rfl) (hn : NoStar y := by exact fun _ _ => rfl) :
    EvS F σ (.Call (.Attribute (.Constant (.str sep) kd q) "join" ap) [y] [] p) (.str (joinD sep.cps.toList xs)) := fun H G env s A S R => by
  have hst : starEach [y] env = [(false, eval y env)] := by rw [hn]; rfl
  obtain ⟨⟨sepl⟩⟩ := sep
  refine call_meth (fun _ _ _ => rfl) hl (by rw [hst]; rfl) (show 1 < 20 by decide) (wpAny_Constant_str ?_)
  intro pl
  refine GM.join (callWith_builtin (by rw [hst]; rfl) ?_)
  rw [hst]
  refine evalArgs_plain (spliced_cons (hy.go (S.mono ⟨Kp.tok s (s.toks + 1), Nat.le_succ _⟩) R fun v s₁ g S₁ rv => spliced_nil ?_))
  obtain ⟨t, rfl⟩ := rv.strI
  refine SC.joinStr R.hh ?_ fun h' kk t' hk => ?_
  · unfold JoinOk Builtin.Str.tooLong
    rw [Bool.not_eq_true']
    refine decide_eq_false ?_
    have key : ∀ (l : List Nat) (z : Nat), ((l.map fun n => (⟨#[n]⟩ : Str)).foldl (fun acc p => acc + p.length + sepl.length) z) = z + l.length * (1 + sepl.length) := by
      intro l
      induction l with
      | nil => intro z; simp
      | cons c r ih => intro z; simp only [List.map_cons, List.foldl_cons, ih, List.length_cons]; simp [Str.length, Nat.add_mul]; omega
    have e1 : ((signs ⟨xs.toArray⟩).toArray.foldl (fun x1 x2 => x1 + x2.length + (⟨sepl.toArray⟩ : Str).length) 0) = xs.length * (1 + sepl.length) := by
      rw [List.foldl_toArray]
      have := key xs 0
      simp only [Str.length, List.size_toArray, signs] at this ⊢
      simpa using this
    have h2' : sepl.length ≤ 1000 := h2
    rw [show ((⟨{ toList := sepl }⟩ : Str)) = ⟨sepl.toArray⟩ from rfl, e1]
    have : xs.length * (1 + sepl.length) ≤ 1000 * 1001 := Nat.mul_le_mul h1 (by omega)
    unfold sizeLine
    omega
  · refine ⟨((Kp.tok s (s.toks + 1)).trans g.1).trans (Kp.of (t := kk) (Rw.raw hk)), t', ?_⟩
    have := glued_eq sepl xs
    congr 1
    apply Str.ext'
    apply Array.ext'
    rw [show ((⟨{ toList := sepl }⟩ : Str)) = ⟨sepl.toArray⟩ from rfl, this]

/-! a slice with a step, and its sum -/
noncomputable def pickD {α : Type} (xs : List α) (lo hi st : Option Int) : List α := (sliceRange (sliceBounds lo hi st xs.length).1 (sliceBounds lo hi st xs.length).2.1 (sliceBounds lo hi st xs.length).2.2).filterMap (xs[·]?)
theorem Reps.pick {C : Addr} {g : Gt} {ds : List D} {vs : List Value} (h : Reps C g ds vs) : ∀ is : List Nat, Reps C g (is.filterMap (ds[·]?)) (is.filterMap (vs[·]?))
  | [] => .mkN
  | i :: r => by
    have ih := Reps.pick h r
    cases e : ds[i]? with
    | some d =>
      obtain ⟨v, ev, rv⟩ := h.get e
      rw [List.filterMap_cons_some (b := d) e, List.filterMap_cons_some (b := v) ev]
      exact .mkC rv ih
    | none =>
      have : vs[i]? = none := by
        rw [List.getElem?_eq_none_iff] at e ⊢
        rw [h.length]; exact e
      rw [List.filterMap_cons_none e, List.filterMap_cons_none this]
      exact ih
theorem ints_items {C : Addr} {g : Gt} : ∀ {ns : List Int} {vs : List Value}, Reps C g (ns.map .int) vs → ∃ ts : List Tok, ts.length = ns.length ∧ vs = (ns.zip ts).map fun p => Value.int p.1 p.2
  | [], _, h => ⟨[], rfl, h.nilI⟩
  | n :: ns, _, h => by
    obtain ⟨v, r, rfl, a, b⟩ := h.consI
    obtain ⟨t, rfl⟩ := a.intI
    obtain ⟨ts, hl, rfl⟩ := ints_items b
    exact ⟨t :: ts, by simp [hl], rfl⟩
theorem biSum {ns : List Int} (hl : ns.length ≤ strLid) : BiR (.builtin "sum") [.seq false (ns.map .int)] (.int ns.sum) := by
  intro prog w C H A s vs hh HB hr
  obtain ⟨v, rfl, r⟩ := hr.one
  obtain ⟨a, us, rfl, hs, r⟩ := r.seqI
  obtain ⟨ts, ht, rfl⟩ := ints_items r
  have hlist := (hs.mono (vis_le H s.heap)).list
  have e0 : ((ns.zip ts).map fun p => Value.int p.1 p.2).toArray = intItems (ns.zip ts).toArray := by simp [intItems]
  rw [e0] at hlist
  refine sum_intListG hh hlist fun h' tk t' hk => ?_
  have e1 : ((ns.zip ts).toArray.toList.map (·.1)) = ns := by
    show (ns.zip ts).map (·.1) = ns
    rw [← List.unzip_fst, List.unzip_zip (by omega)]
  refine ⟨Kp.of (Rw.raw hk), ?_⟩
  rw [preSum_eq, List.take_of_length_le (by simp), e1]
  exact .mkI
theorem ev_cutStep {x l st : Expr} {q p : Pos} {xs : List D} {a b : Int} (hx : EvS F σ x (.seq false xs)) (hlo : EvS F σ l (.int a)) (hst : EvS F σ st (.int b)) (hb : b ≠ 0) (hl : xs.length ≤ strLid) :
    EvS F σ (.Subscript x (.Slice (some l) none (some st) q) p) (.seq false (pickD xs (some a) none (some b))) := fun H G env s A S R => by
  refine Subscript_ (hx.go S R fun ov s₁ g S₁ rv => ?_)
  refine wpAny_Slice ?_
  rw [evalPart_none, evalPart_some, evalPart_some]
  refine hlo.go S₁ R fun lv s₂ g₂ S₂ rl => wpAny_pure (hst.go S₂ R fun sv s₃ g₃ S₃ rs => ?_)
  obtain ⟨u, rfl⟩ := rl.intI
  obtain ⟨v, rfl⟩ := rs.intI
  obtain ⟨ad, vs, rfl, hs, hr⟩ := (rv.mono (vis_mono (kle (g₂.tr g₃).1))).seqI
  have hsz := hr.toArray
  have hl2 := (hs.mono (vis_le _ _)).list
  refine tail_any (hl2.push _).typeIs slot_list_get (wpAny_getItem_list_slice (hl2.push _) (Heap.IsSliceOf.new ..) (.int _ _) .none (.int _ _) (by simpa using hb) ?_ (by rw [hsz]; exact Nat.le_trans hl (Nat.le_of_lt strLid_lt))) rfl
  have e1 : slicePick vs.toArray (some a) none (some b) = (pickD vs (some a) none (some b)).toArray := by
    unfold slicePick pickD
    simp only [List.size_toArray, List.getElem?_toArray]
  rw [e1]
  have hd := (hr.mono (vis_push (H := H) s₃.heap { cls := .type "slice", data := .fields #[.int a u, .none, .int b v] }))
  refine cut_fin S.hb (((g.tr g₂).tr g₃).1.trans (Kp.of (t := s₃.toks) (rw_push _ _))) ?_
  unfold pickD
  rw [hr.length]
  exact hd.pick _
theorem pickD_map {α β : Type} (f : α → β) (xs : List α) (lo hi st : Option Int) : pickD (xs.map f) lo hi st = (pickD xs lo hi st).map f := by
  unfold pickD
  rw [List.length_map, List.map_filterMap]
  congr 1
  funext i
  simp

/-! what is walked over -/
theorem src_val {it d items} (h : EvS F σ it d) (e : itemsD d = some items) (hf : ∀ env x, foldedSetIterable it env x = pure x := by exact fun _ _ => rfl) : SrcS F σ it items :=
  ⟨hf, fun H G env s A S R => h.go S R fun v s₁ g S₁ r => iter_value S₁.hb.ti R.hh r e fun I s₂ fp P St Z => ⟨s₁, I, fp, P, St, rfl, g, Z⟩⟩
theorem src_list {it t xs} (h : EvS F σ it (.seq t xs)) (hl : xs.length ≤ strLid) (hf : ∀ env x, foldedSetIterable it env x = pure x := by exact fun _ _ => rfl) : SrcS F σ it xs :=
  src_val h (by simp only [itemsD, if_pos hl]) hf
theorem src_str {it x} (h : EvS F σ it (.str x)) (hl : x.length ≤ strLid) (hf : ∀ env x, foldedSetIterable it env x = pure x := by exact fun _ _ => rfl) : SrcS F σ it (x.map fun c => .str [c]) :=
  src_val h (by simp only [itemsD, if_pos hl]) hf
theorem ts_lst {x} (hn : NoStar x) (env : Env) : starEach [x] env = [(false, eval x env)] := by rw [hn]; rfl
theorem src_range1 {y p q n} (h : EvS F σ y (.int n)) (hg : F.sc.lookup ("range" : Str) = some .globalImplicit) (hn : -1000 ≤ n ∧ n ≤ 20000) (hs : NoStar y := by exact fun _ _ => rfl) : SrcS F σ (.Call (.Name "range" p) [y] [] q) (rangeD 0 n) :=
  ⟨fun _ _ => rfl, fun H G env s A S R => by
    refine wpAny_Call_NameR (ld_blt (v := .type "range") S hg rfl (by decide) ?_)
    rw [ts_lst hs]
    refine PySem.callWith_type rfl (evalArgs_plain (spliced_cons (h.go S R fun v s₁ g S₁ rv => spliced_nil ?_)))
    obtain ⟨t, rfl⟩ := rv.intI
    refine call_range_1 ?_
    refine range_src (H := H) (by exact (rw_push _ _).2 S₁.hb.ti) R.hh (IsRange.new ..) (by omega) hn.2 (by omega) fun I s₂ fp P St Z => ⟨_, I, fp, P, St, rfl, ⟨g.1.trans (Kp.of (rw_push _ _)), ?_⟩, Z⟩
    exact Nat.le_trans g.2 (Nat.le_trans (Nat.le_succ _) (Nat.le_succ _))⟩
theorem src_range2 {y z p q m n} (h : EvS F σ y (.int m)) (h' : EvS F σ z (.int n)) (hg : F.sc.lookup ("range" : Str) = some .globalImplicit) (hm : -1000 ≤ m ∧ m ≤ 1000) (hn : -1000 ≤ n ∧ n ≤ 20000) (hs : NoStar y := by exact fun _ _ => rfl) (hs' : NoStar z := by exact fun _ _ => rfl) :
    SrcS F σ (.Call (.Name "range" p) [y, z] [] q) (rangeD m n) :=
  ⟨fun _ _ => rfl, fun H G env s A S R => by
    refine wpAny_Call_NameR (ld_blt (v := .type "range") S hg rfl (by decide) ?_)
    rw [hs, ts_lst hs']
    refine PySem.callWith_type rfl (evalArgs_plain (spliced_cons (h.go S R fun v s₁ g S₁ rv => spliced_cons (h'.go S₁ R fun v' s₂ g' S₂ rv' => spliced_nil ?_))))
    obtain ⟨t, rfl⟩ := rv.intI
    obtain ⟨u, rfl⟩ := rv'.intI
    refine call_range_2 ?_
    refine range_src (H := H) (by exact (rw_push _ _).2 S₂.hb.ti) R.hh (IsRange.new ..) hm hn.2 (by omega) fun I s₂ fp P St Z => ⟨_, I, fp, P, St, rfl, ⟨(g.1.trans g'.1).trans (Kp.of (rw_push _ _)), ?_⟩, Z⟩
    exact Nat.le_trans (g.tr g').2 (Nat.le_succ _)⟩
theorem src_rev {y p q xs} (h : EvS F σ y (.seq false xs)) (hg : F.sc.lookup ("reversed" : Str) = some .globalImplicit) (hl : xs.length ≤ strLid) (hs : NoStar y := by exact fun _ _ => rfl) : SrcS F σ (.Call (.Name "reversed" p) [y] [] q) xs.reverse :=
  ⟨fun _ _ => rfl, fun H G env s A S R => by
    refine wpAny_Call_NameR (ld_blt (v := .type "reversed") S hg rfl (by decide) ?_)
    rw [ts_lst hs]
    refine PySem.callWith_type rfl (evalArgs_plain (spliced_cons (h.go S R fun v s₁ g S₁ rv => spliced_nil ?_)))
    exact iter_rev S₁.hb.ti R.hh rv hl fun _ I s₂ fp P St _ _ Z => ⟨s₁, I, fp, P, St, rfl, g, Z⟩⟩
end
end Mine
end

section
open PySem PySem.Calls PyProof.Rows
set_option Elab.async false
set_option maxRecDepth 100000
namespace Mine

structure StP (F : Fx) (Hc M : List Addr) (G : Nat → Addr) (env : Env) (σ : List Sl) (B : Gt) (s₀ s : Shared) : Prop where
  ev : EvSt F (M ++ Hc) G env σ s
  ns : ∃ m, NsV s.heap env.locals m
  lm : env.locals ∈ M
  ll : ∀ x, F.sc.lookup x = some .local → env.kindOf x = some .local
  cm : ∀ x c, env.cells.lookup x = some c → (∃ v, CelV s.heap c v) ∧ (env.kindOf x = some .cell → c ∈ M)
  ci : ∀ x y c, env.cells.lookup x = some c → env.cells.lookup y = some c → x = y
  ow : ∀ i xs, σ[i]? = some (.ow xs) → G i ∈ M ∧ G i ∉ Hc ∧ G i ≠ env.locals ∧ ∀ x c, env.cells.lookup x = some c → c ≠ G i
  oi : ∀ i j xs ys, σ[i]? = some (.ow xs) → σ[j]? = some (.ow ys) → G i = G j → i = j
  nd : F.nm.Nodup
  mf : ∀ a ∈ M, F.X.h0.get? a = none
  kp : Le B (vis M s.heap)
  sh : ∃ h t d, s = { s₀ with heap := h, toks := t, drawn := d }

theorem ns_unique {h : Heap} {a : Addr} {m m' : Str → Option Value} (x : NsV h a m) (y : NsV h a m') : m = m' := by
  obtain ⟨⟨o, es, ep, h1, h2, _, h4⟩, _⟩ := x
  obtain ⟨⟨o', es', ep', g1, g2, _, g4⟩, _⟩ := y
  rw [h1] at g1; cases g1
  rw [h2] at g2; cases g2
  funext n
  rw [← h4, ← g4]
theorem cell_ne_ns {h : Heap} {a c : Addr} {m : Str → Option Value} {v : Option Value} (x : CelV h c v) (y : NsV h a m) : c ≠ a := by
  rintro rfl
  obtain ⟨⟨o, h1, h2⟩, _⟩ := x
  obtain ⟨⟨o', es, ep, g1, g2, _⟩, _⟩ := y
  rw [h1] at g1; cases g1
  rw [h2] at g2; cases g2
theorem sq_ne_ns {h : Heap} {a c : Addr} {m : Str → Option Value} {t vs} (x : IsSq (gt h) t c vs) (y : NsV h a m) : c ≠ a := by
  rintro rfl
  obtain ⟨o, n, h1, _, _, h2, _⟩ := x
  obtain ⟨⟨o', es, ep, g1, g2, _⟩, _⟩ := y
  rw [gt_get h1] at g1; cases g1
  rw [h2] at g2; cases g2
theorem sq_ne_cell {h : Heap} {a c : Addr} {v : Option Value} {t vs} (x : IsSq (gt h) t c vs) (y : CelV h a v) : c ≠ a := by
  rintro rfl
  obtain ⟨o, n, h1, _, _, h2, _⟩ := x
  obtain ⟨⟨o', g1, g2⟩, _⟩ := y
  rw [gt_get h1] at g1; cases g1
  rw [h2] at g2; cases g2
theorem IsSq.nc {h : Heap} {a : Addr} {t vs} (x : IsSq (gt h) t a vs) : ∀ o, h.get? a = some o → NC o := fun o e => by
  obtain ⟨o', n, h1, _, _, h2, _⟩ := x
  rw [gt_get h1] at e; cases e
  exact .inl fun vs q => by rw [h2] at q; cases q

section
variable {F : Fx} {Hc M : List Addr} {G : Nat → Addr} {env : Env} {σ : List Sl} {B : Gt} {s₀ s : Shared} {A : Around}

theorem StP.mono {s' : Shared} (S : StP F Hc M G env σ B s₀ s) (k : Kp s s') (t : s.toks ≤ s'.toks) : StP F Hc M G env σ B s₀ s' :=
  ⟨S.ev.mono ⟨k, t⟩, let ⟨m, h⟩ := S.ns; ⟨m, h.keeps (kle k)⟩, S.lm, S.ll, fun x c a => let ⟨⟨v, h2⟩, h1⟩ := S.cm x c a; ⟨⟨v, h2.keeps (kle k)⟩, h1⟩, S.ci, S.ow, S.oi, S.nd, S.mf, S.kp.trans (vis_mono (kle k)),
    by obtain ⟨h, t, d, rfl⟩ := S.sh; obtain ⟨h', t', d', rfl, _⟩ := k; exact ⟨h', t', d', rfl⟩⟩

/-- one object of the frame's own is changed -/
theorem StP.touch (S : StP F Hc M G env σ B s₀ s) {a : Addr} {h' : Heap} {t : Nat} {σ' : List Sl} (ha : a ∈ M) (hs : Heap.SameBut a s.heap h') (nc : ∀ o, s.heap.get? a = some o → NC o) (ht : s.toks ≤ t) (al : ∃ o, (gt h') a = some o)
    (vars : ∀ j y sl, F.nm[j]? = some y → σ'[j]? = some sl → SlotOk F.X.C (M ++ Hc) G env h' j y sl)
    (ns : ∃ m, NsV h' env.locals m) (cm : ∀ x c, env.cells.lookup x = some c → ∃ v, CelV h' c v)
    (how : ∀ (i : Nat) (xs : List D), σ'[i]? = some (Sl.ow xs) → ∃ ys, σ[i]? = some (Sl.ow ys)) :
    StP F Hc M G env σ' B s₀ { s with heap := h', toks := t } := by
  have get : ∀ b o, b ≠ a → (gt s.heap) b = some o → (gt h') b = some o := fun b o hb e => gt_of ((hs.2 b hb).trans (gt_get e)) (gt_tb e)
  refine ⟨⟨S.ev.kind, S.ev.glb, S.ev.blt, S.ev.gk, S.ev.ck, vars, S.ev.nms, ⟨S.ev.hb.ti.same hs nc, fun b hb => ?_⟩, fun b o e => ?_, Nat.le_trans S.ev.tk ht, S.ev.W, S.ev.clo⟩, ns, S.lm, S.ll, fun x c h1 => ⟨cm x c h1, (S.cm x c h1).2⟩, S.ci, fun i xs h => ?_, fun i j xs ys h1 h2 => ?_, S.nd, S.mf, ?_, ?_⟩
  · by_cases q : b = a
    · subst q; exact al
    · obtain ⟨o, e⟩ := S.ev.hb.al b hb; exact ⟨o, get b o q e⟩
  · refine get b o (fun q => ?_) (S.ev.w0 b o e)
    rw [q, S.mf a ha] at e; cases e
  · obtain ⟨ys, e⟩ := how i xs h; exact S.ow i ys e
  · obtain ⟨_, e1⟩ := how i xs h1; obtain ⟨_, e2⟩ := how j ys h2; exact S.oi i j _ _ e1 e2
  · show Le B (vis M h'); rw [vis_same hs ha]; exact S.kp
  · obtain ⟨h, t', d, rfl⟩ := S.sh; exact ⟨h', t, d, rfl⟩

theorem nm_inj (nd : F.nm.Nodup) {i j : Nat} {x : Str} (hi : F.nm[i]? = some x) (hj : F.nm[j]? = some x) : i = j := by
  obtain ⟨h1, e1⟩ := List.getElem?_eq_some_iff.mp hi
  obtain ⟨h2, e2⟩ := List.getElem?_eq_some_iff.mp hj
  have nd' := List.pairwise_iff_getElem.mp nd
  rcases Nat.lt_trichotomy i j with q | q | q
  · exact absurd (e1.trans e2.symm) (nd' i j h1 h2 q)
  · exact q
  · exact absurd (e2.trans e1.symm) (nd' j i h2 h1 q)

/-- a name is bound -/
theorem StP.store (S : StP F Hc M G env σ B s₀ s) {i : Nat} {x : Str} {v : Value} {sl : Sl} {G' : Nat → Addr} {Q : Unit → Shared → Prop} {E : Value → Shared → Prop} {Mo : Model} (hi : F.nm[i]? = some x)
    (hk : F.sc.lookup x = some .local ∨ F.sc.lookup x = some .cell)
    (hsl : (∃ d, sl = .fr d ∧ Rep F.X.C (vis (M ++ Hc) s.heap) d v) ∨
      (∃ xs vs, sl = .ow xs ∧ v = .ref (G' i) ∧ IsSq (gt s.heap) false (G' i) vs ∧ Reps F.X.C (vis (M ++ Hc) s.heap) xs vs ∧ G' i ∈ M ∧ G' i ∉ Hc ∧ ∀ j ys, j ≠ i → σ[j]? = some (.ow ys) → G j ≠ G' i))
    (hG : ∀ j, j ≠ i → G' j = G j) (h : ∀ s', StP F Hc M G' env (σ.set i sl) B s₀ s' → (∃ a, Heap.SameBut a s.heap s'.heap ∧ ∀ o, s.heap.get? a = some o → NC o) → Q () s') :
    wpAny Mo A (storeName env x v) Q E s := by
  obtain ⟨m, hm⟩ := S.ns
  -- what any such store gives back
  have fin : ∀ (a : Addr) (h' : Heap) (t : Nat), a ∈ M → Heap.SameBut a s.heap h' → (∀ o, s.heap.get? a = some o → NC o) → s.toks ≤ t → (∃ o, (gt h') a = some o) → VarAt env h' x v → (∀ y u, y ≠ x → VarAt env s.heap y u → VarAt env h' y u) →
      (∃ m, NsV h' env.locals m) → (∀ x c, env.cells.lookup x = some c → ∃ v, CelV h' c v) → (∀ l t vs, IsSq (gt s.heap) t l vs → l ≠ a) → Q () { s with heap := h', toks := t } := by
    intro a h' t ha hs nc ht al hv hv' ns cm hsq
    have hvis : vis (M ++ Hc) h' = vis (M ++ Hc) s.heap := vis_same hs (List.mem_append_left _ ha)
    have sq : ∀ t l vs, IsSq (gt s.heap) t l vs → IsSq (gt h') t l vs := fun t l vs q => by
      have hne := hsq l t vs q
      obtain ⟨o, n, e, r⟩ := q
      exact ⟨o, n, gt_of ((hs.2 l hne).trans (gt_get e)) (gt_tb e), r⟩
    have own : ∀ j ys, j ≠ i → σ[j]? = some (.ow ys) → G j ∈ M := fun j ys _ e => (S.ow j ys e).1
    refine h _ ?_ ⟨a, hs, nc⟩
    have slot : ∀ j y s1, F.nm[j]? = some y → (σ.set i sl)[j]? = some s1 → SlotOk F.X.C (M ++ Hc) G' env h' j y s1 := by
      intro j y s1 hj he
      by_cases hij : j = i
      · subst hij
        rw [hi] at hj; cases hj
        have hlt : j < σ.length := by
          cases Nat.lt_or_ge j σ.length with
          | inl q => exact q
          | inr q => rw [List.getElem?_eq_none (by simpa using q)] at he; cases he
        rw [List.getElem?_set_self hlt] at he
        cases he
        rcases hsl with ⟨d, rfl, hr⟩ | ⟨xs, vs, rfl, rfl, hq, hr, _⟩
        · exact ⟨v, hv, by rw [hvis]; exact hr⟩
        · exact ⟨vs, hv, sq _ _ _ hq, by rw [hvis]; exact hr⟩
      · rw [List.getElem?_set_ne (Ne.symm hij)] at he
        have old := S.ev.vars j y s1 hj he
        have hyx : y ≠ x := fun q => hij (nm_inj S.nd hj (q ▸ hi))
        cases s1 with
        | un => trivial
        | fr d => obtain ⟨u, h1, h2⟩ := old; exact ⟨u, hv' y u hyx h1, by rw [hvis]; exact h2⟩
        | ow xs =>
          obtain ⟨vs, h1, h2, h3⟩ := old
          show ∃ vs, VarAt env h' y (.ref (G' j)) ∧ IsSq (gt h') false (G' j) vs ∧ Reps F.X.C (vis (M ++ Hc) h') xs vs
          rw [hG j hij, hvis]
          exact ⟨vs, hv' y _ hyx h1, sq _ _ _ h2, h3⟩
    have get : ∀ b o, b ≠ a → (gt s.heap) b = some o → (gt h') b = some o := fun b o hb e => gt_of ((hs.2 b hb).trans (gt_get e)) (gt_tb e)
    have owi : ∀ j xs, (σ.set i sl)[j]? = some (.ow xs) → (j = i ∧ sl = .ow xs) ∨ (j ≠ i ∧ σ[j]? = some (.ow xs)) := by
      intro j xs he
      by_cases hij : j = i
      · subst hij
        refine .inl ⟨rfl, ?_⟩
        have hlt : j < σ.length := by
          cases Nat.lt_or_ge j σ.length with
          | inl q => exact q
          | inr q => rw [List.getElem?_eq_none (by simpa using q)] at he; cases he
        rw [List.getElem?_set_self hlt] at he
        exact Option.some.inj he
      · rw [List.getElem?_set_ne (Ne.symm hij)] at he
        exact .inr ⟨hij, he⟩
    refine ⟨⟨S.ev.kind, S.ev.glb, S.ev.blt, S.ev.gk, S.ev.ck, slot, S.ev.nms, ⟨S.ev.hb.ti.same hs nc, fun b hb => ?_⟩, fun b o e => ?_, Nat.le_trans S.ev.tk ht, S.ev.W, S.ev.clo⟩, ns, S.lm, S.ll, fun x c h1 => ⟨cm x c h1, (S.cm x c h1).2⟩, S.ci, fun j xs he => ?_, fun j j' xs ys h1 h2 hg => ?_, S.nd, S.mf, ?_, ?_⟩
    · by_cases q : b = a
      · subst q; exact al
      · obtain ⟨o, e⟩ := S.ev.hb.al b hb; exact ⟨o, get b o q e⟩
    · refine get b o (fun q => ?_) (S.ev.w0 b o e)
      rw [q, S.mf a ha] at e; cases e
    · rcases owi j xs he with ⟨rfl, rfl⟩ | ⟨hij, he⟩
      · rcases hsl with ⟨d, q, _⟩ | ⟨xs', vs, q, rfl, hq, hr, h1, h2, _⟩
        · cases q
        · refine ⟨h1, h2, sq_ne_ns hq hm, fun y c hc => ?_⟩
          obtain ⟨⟨u, hu⟩, _⟩ := S.cm y c hc
          exact Ne.symm (sq_ne_cell hq hu)
      · rw [hG j hij]; exact S.ow j xs he
    · have a1 := owi j xs h1
      have a2 := owi j' ys h2
      clear h1 h2
      rcases a1 with ⟨q1, e1⟩ | ⟨q1, g1⟩
      · rcases a2 with ⟨q2, e2⟩ | ⟨q2, g2⟩
        · rw [q1, q2]
        · rcases hsl with ⟨d, q, _⟩ | ⟨xs', vs, q, _, hq, hr, _, _, hap⟩
          · rw [q] at e1; cases e1
          · rw [q1, hG j' q2] at hg; exact absurd hg.symm (hap j' ys q2 g2)
      · rcases a2 with ⟨q2, e2⟩ | ⟨q2, g2⟩
        · rcases hsl with ⟨d, q, _⟩ | ⟨xs', vs, q, _, hq, hr, _, _, hap⟩
          · rw [q] at e2; cases e2
          · rw [q2, hG j q1] at hg; exact absurd hg (hap j xs q1 g1)
        · rw [hG j q1, hG j' q2] at hg; exact S.oi j j' xs ys g1 g2 hg
    · show Le B (vis M h'); rw [vis_same hs ha]; exact S.kp
    · obtain ⟨h, t', d, rfl⟩ := S.sh; exact ⟨h', t, d, rfl⟩
  rcases hk with hk | hk
  · have hl := S.ll x hk
    refine wpAny_storeName_local hl hm.1 (fun h' hn'' hs' => ?_) (by rw [S.ev.kind]; rfl)
    have hn' : NsV h' env.locals _ := ⟨hn'', hm.2⟩
    refine fin env.locals h' (s.toks + 1) S.lm hs' hm.nc (Nat.le_succ _) hn'.al (.inl ⟨hl, _, hn', by simp⟩) (fun y u hy hu => ?_) ⟨_, hn'⟩ (fun x c h1 => ?_) (fun l t vs q => sq_ne_ns q hm)
    · rcases hu with ⟨h1, m₂, h2, h3⟩ | ⟨h1, c, h2, h3⟩
      · have := ns_unique h2 hm; subst this
        exact .inl ⟨h1, _, hn', by simp [hy, h3]⟩
      · exact .inr ⟨h1, c, h2, h3.sameBut hs' (cell_ne_ns h3 hm)⟩
    · obtain ⟨⟨u, hu⟩, _⟩ := S.cm x c h1
      exact ⟨u, hu.sameBut hs' (cell_ne_ns hu hm)⟩
  · obtain ⟨hl, c, hc⟩ := S.ev.ck x hk
    obtain ⟨⟨u, hu⟩, hcM'⟩ := S.cm x c hc
    have hcM := hcM' hl
    refine wpAny_storeName_cell S.ev.kind hl hc hu.1 (fun h' hv'' hs' => ?_)
    have hv' : CelV h' c (some v) := ⟨hv'', hu.2⟩
    refine fin c h' s.toks hcM hs' hu.nc (Nat.le_refl _) hv'.al (.inr ⟨.inl hl, c, hc, hv'⟩) (fun y u' hy hu' => ?_) ⟨m, hm.sameBut hs' (Ne.symm (cell_ne_ns hu hm))⟩ (fun y c' h1 => ?_) (fun l t vs q => sq_ne_cell q hu)
    · rcases hu' with ⟨h1, m₂, h2, h3⟩ | ⟨h1, c', h2, h3⟩
      · exact .inl ⟨h1, m₂, h2.sameBut hs' (Ne.symm (cell_ne_ns hu hm)), h3⟩
      · refine .inr ⟨h1, c', h2, h3.sameBut hs' fun q => hy (S.ci y x c' h2 (q ▸ hc))⟩
    · by_cases q : c' = c
      · subst q; exact ⟨_, hv'⟩
      · obtain ⟨⟨u', hu'⟩, _⟩ := S.cm y c' h1
        exact ⟨u', hu'.sameBut hs' q⟩
end
end Mine
end

section
open PySem PySem.Calls PyProof.Rows
set_option Elab.async false
set_option maxRecDepth 100000
namespace Mine
section
variable {F : Fx} {Hc M : List Addr} {G : Nat → Addr} {env : Env} {σ : List Sl} {B : Gt} {s₀ s : Shared} {A : Around}

theorem sq_of_plain {h : Heap} {a : Addr} {vs : List Value} (x : PlX h a vs) (nt : a ∉ tbs) : IsSq (gt h) false a vs := let ⟨o, n, e, c, d, q⟩ := x; ⟨o, n, gt_of e nt, c, d, q⟩
theorem IsSq.nt {h : Heap} {a : Addr} {t vs} (x : IsSq (gt h) t a vs) : a ∉ tbs := let ⟨_, _, e, _⟩ := x; gt_tb e
theorem sq_same {h h' : Heap} {t : Bool} {a b : Addr} {vs : List Value} (x : IsSq (gt h) t b vs) (hs : Heap.SameBut a h h') (hne : b ≠ a) : IsSq (gt h') t b vs :=
  let ⟨o, n, e, r⟩ := x; ⟨o, n, gt_of ((hs.2 b hne).trans (gt_get e)) (gt_tb e), r⟩
theorem set_lt {i : Nat} {sl s1 : Sl} (h : (σ.set i sl)[i]? = some s1) : s1 = sl := by
  have hlt : i < σ.length := by
    cases Nat.lt_or_ge i σ.length with
    | inl q => exact q
    | inr q => rw [List.getElem?_eq_none (by simpa using q)] at h; cases h
  rw [List.getElem?_set_self hlt] at h
  exact (Option.some.inj h).symm

/-- an own list is changed -/
theorem StP.upd (S : StP F Hc M G env σ B s₀ s) {i : Nat} {xs xs' : List D} {vs vs' : List Value} {h' : Heap} {t : Nat} (hs : σ[i]? = some (.ow xs)) (hq : IsSq (gt s.heap) false (G i) vs)
    (hpl : PlX h' (G i) vs') (same : Heap.SameBut (G i) s.heap h') (hr : Reps F.X.C (vis (M ++ Hc) s.heap) xs' vs') (ht : s.toks ≤ t) :
    StP F Hc M G env (σ.set i (.ow xs')) B s₀ { s with heap := h', toks := t } := by
  obtain ⟨hM, hHc, hloc, hcell⟩ := S.ow i xs hs
  obtain ⟨m, hm⟩ := S.ns
  have hvis : vis (M ++ Hc) h' = vis (M ++ Hc) s.heap := vis_same same (List.mem_append_left _ hM)
  have va : ∀ y u, VarAt env s.heap y u → VarAt env h' y u := by
    intro y u hu
    rcases hu with ⟨h1, m₂, h2, h3⟩ | ⟨h1, c, h2, h3⟩
    · exact .inl ⟨h1, m₂, h2.sameBut same (Ne.symm hloc), h3⟩
    · exact .inr ⟨h1, c, h2, h3.sameBut same (hcell y c h2)⟩
  refine S.touch hM same hq.nc ht (by obtain ⟨o, n, e, _⟩ := hpl; exact ⟨o, gt_of e hq.nt⟩) ?_ ⟨m, hm.sameBut same (Ne.symm hloc)⟩ (fun x c h1 => ?_) (fun j ys h => ?_)
  · intro j y s1 hj he
    by_cases hij : j = i
    · subst hij
      have := set_lt he
      subst this
      obtain ⟨vs, h1, h2, h3⟩ := S.ev.vars j y _ hj hs
      exact ⟨vs', va _ _ h1, sq_of_plain hpl hq.nt, by rw [hvis]; exact hr⟩
    · rw [List.getElem?_set_ne (Ne.symm hij)] at he
      have old := S.ev.vars j y s1 hj he
      cases s1 with
      | un => trivial
      | fr d => obtain ⟨u, h1, h2⟩ := old; exact ⟨u, va _ _ h1, by rw [hvis]; exact h2⟩
      | ow ys =>
        obtain ⟨vs, h1, h2, h3⟩ := old
        exact ⟨vs, va _ _ h1, sq_same h2 same (fun q => hij (S.oi j i ys xs he hs q)), by rw [hvis]; exact h3⟩
  · obtain ⟨⟨v, hv⟩, _⟩ := S.cm x c h1
    exact ⟨v, hv.sameBut same (hcell x c h1)⟩
  · by_cases hij : j = i
    · subst hij; exact ⟨xs, hs⟩
    · rw [List.getElem?_set_ne (Ne.symm hij)] at h; exact ⟨ys, h⟩

/-- an own list is own no more -/
theorem StP.freeze (S : StP F Hc M G env σ B s₀ s) {i : Nat} {xs : List D} (hs : σ[i]? = some (.ow xs)) :
    StP F Hc (M.filter (· ≠ G i)) G env (σ.set i (.fr (.seq false xs))) B s₀ s := by
  obtain ⟨hM, hHc, hloc, hcell⟩ := S.ow i xs hs
  have sub : ∀ a, a ∈ M.filter (· ≠ G i) → a ∈ M := fun a h => (List.mem_filter.mp h).1
  have mem : ∀ a, a ∈ M → a ≠ G i → a ∈ M.filter (· ≠ G i) := fun a h q => List.mem_filter.mpr ⟨h, by simpa using q⟩
  have vsub : ∀ L : List Addr, Le (vis (M ++ L) s.heap) (vis (M.filter (· ≠ G i) ++ L) s.heap) := fun L b o e => by
    obtain ⟨e1, e2⟩ := vis_get e
    refine vis_of e1 fun hm => e2 ?_
    rcases List.mem_append.mp hm with q | q
    · exact List.mem_append_left _ (sub _ q)
    · exact List.mem_append_right _ q
  refine ⟨⟨S.ev.kind, S.ev.glb, S.ev.blt, S.ev.gk, S.ev.ck, fun j y s1 hj he => ?_, S.ev.nms, ⟨S.ev.hb.ti, fun b hb => ?_⟩, S.ev.w0, S.ev.tk, S.ev.W, S.ev.clo⟩, S.ns, mem _ S.lm (Ne.symm hloc), S.ll,
    fun x c h => ⟨(S.cm x c h).1, fun q => mem _ ((S.cm x c h).2 q) (hcell x c h)⟩, S.ci, fun j ys h => ?_, fun j j' ys zs h1 h2 => ?_, S.nd, fun a ha => S.mf a (sub a ha), ?_, S.sh⟩
  · by_cases hij : j = i
    · subst hij
      have := set_lt he
      subst this
      obtain ⟨vs, h1, h2, h3⟩ := S.ev.vars j y _ hj hs
      refine ⟨_, h1, ?_⟩
      simp only [Rep]
      refine ⟨G j, vs, rfl, ?_, h3.mono (vsub Hc)⟩
      obtain ⟨o, n, e, r⟩ := h2
      refine ⟨o, n, vis_of e fun hm => ?_, r⟩
      rcases List.mem_append.mp hm with q | q
      · have := (List.mem_filter.mp q).2
        simp at this
      · exact hHc q
    · rw [List.getElem?_set_ne (Ne.symm hij)] at he
      have old := S.ev.vars j y s1 hj he
      cases s1 with
      | un => trivial
      | fr d => obtain ⟨u, h1, h2⟩ := old; exact ⟨u, h1, h2.mono (vsub Hc)⟩
      | ow ys => obtain ⟨vs, h1, h2, h3⟩ := old; exact ⟨vs, h1, h2, h3.mono (vsub Hc)⟩
  · rcases List.mem_append.mp hb with q | q
    · exact S.ev.hb.al b (List.mem_append_left _ (sub _ q))
    · exact S.ev.hb.al b (List.mem_append_right _ q)
  · by_cases hij : j = i
    · subst hij; have := set_lt h; cases this
    · rw [List.getElem?_set_ne (Ne.symm hij)] at h
      obtain ⟨h1, h2⟩ := S.ow j ys h
      exact ⟨mem _ h1 fun q => hij (S.oi j i ys xs h hs q), h2⟩
  · by_cases hij : j = i
    · subst hij; have := set_lt h1; cases this
    · by_cases hij' : j' = i
      · subst hij'; have := set_lt h2; cases this
      · rw [List.getElem?_set_ne (Ne.symm hij)] at h1
        rw [List.getElem?_set_ne (Ne.symm hij')] at h2
        exact S.oi j j' ys zs h1 h2
  · have := vsub []
    rw [List.append_nil, List.append_nil] at this
    exact S.kp.trans this

theorem seqIndex_cases {i : Int} {n j : Nat} (e : seqIndex? i n = some j) : (0 ≤ i ∧ j = i.toNat ∧ j < n) ∨ (i < 0 ∧ -(n : Int) ≤ i ∧ j = (i + n).toNat ∧ j < n) := by
  unfold seqIndex? at e
  by_cases h : i < 0
  · simp only [h, if_true] at e
    split at e
    · rename_i q
      simp only [Bool.and_eq_true, decide_eq_true_eq] at q
      cases e; right; omega
    · cases e
  · simp only [h, if_false] at e
    split at e
    · rename_i q
      simp only [Bool.and_eq_true, decide_eq_true_eq] at q
      cases e; left; omega
    · cases e
/-- storing into an own list -/
theorem set_plain {l : Addr} {vs : List Value} {i : Int} {j : Nat} {t : Tok} {v : Value} {Q : Unit → Shared → Prop} {E : Value → Shared → Prop} (hl : PlX s.heap l vs) (hj : seqIndex? i vs.length = some j) (hb : -100000 < i ∧ i < 100000)
    (hQ : ∀ h', PlX h' l (vs.set j v) → Heap.SameBut l s.heap h' → Q () { s with heap := h' }) :
    wpAny (Md F.X) A (setItem (.ref l) (.int i t) v) Q E s := by
  obtain ⟨o, n, ho, hc, hdn, hd, hsl⟩ := id hl
  have hl := hl.plain
  have hlt : j < vs.length := by rcases seqIndex_cases hj with h | h <;> omega
  unfold setItem
  try with_reducible refine wpAny_holding ?_
  first | refine wpAny_bind (wpAny_pure ?_) | skip
  refine wpAny_bind (wpAny_sequenceKey hl.isList.typeIs (by decide) ?_)
  refine wpAny_bind (wpAny_callSpecial?_slot (name := Str.ofString "__setitem__") hl.isList.typeIs PySem.F.slot_list_setitem
    (wpAny_call_entry PySem.F.slot_list_setitem hl.isList.typeIs PySem.F.entry_list_setitem ?_ (PySem.F.args_list_setitem_3 _ _ _)))
  have fit : Builtin.List.listFitsIndex i = true := by simp [Builtin.List.listFitsIndex]; omega
  show wpAny _ _ (Builtin.List.listSubscript? (.int i t) >>= _) _ _ s
  refine wpAny_bind (wpAny_listSubscript_int fit ?_)
  obtain ⟨n', hd'⟩ := Obj.data_mapSeq hd (·.setIfInBounds j v)
  have hfin : PlX (s.heap.update l (Obj.mapSeq (·.setIfInBounds j v))) l (vs.set j v) := by
    refine ⟨_, n', Heap.get?_update_self _ ho (Obj.isFreed_of_seq hd'), (Obj.cls_mapSeq ..).trans hc, ?_, by rw [hd']; simp, ?_⟩
    · obtain ⟨c, d, dt, sl⟩ := o
      subst hd
      exact hdn
    · obtain ⟨c, d, dt, sl⟩ := o
      subst hd
      exact hsl
  have done : Q () { s with heap := s.heap.update l (Obj.mapSeq (·.setIfInBounds j v)) } := hQ _ hfin (Heap.SameBut.update ..)
  have hx' : vs.toArray[j]? = some vs[j] := by simp [hlt]
  rcases seqIndex_cases hj with ⟨h0, h1, _⟩ | ⟨h0, h1, h2, _⟩
  · clear fit
    obtain ⟨jj, rfl⟩ := Int.eq_ofNat_of_zero_le h0
    have : j = jj := by omega
    subst this
    show wpAny _ _ ((seqItemAt l j >>= fun r => pure (r.map (j, ·))) >>= _) _ _ s
    refine wpAny_bind (wpAny_bind (wpAny_seqItemAt ho hd (wpAny_pure ?_)))
    rw [hx']
    show wpAny _ _ (setSeqItemAt l j v >>= _) _ _ s
    refine wpAny_bind (wpAny_setSeqItemAt ho hd ?_)
    first
      | exact wpAny_bind (wpAny_pure (wpAny_pure ⟨.none, rfl, wpAny_pure done⟩))
      | exact wpAny_pure ⟨.none, rfl, wpAny_pure done⟩
  · clear fit
    obtain ⟨jj, rfl⟩ : ∃ jj : Nat, i = Int.negSucc jj := by
      cases i with
      | ofNat n => exact absurd h0 (Int.not_lt.mpr (Int.ofNat_nonneg n))
      | negSucc n => exact ⟨n, rfl⟩
    show wpAny _ _ ((Builtin.List.listItems (.ref l) >>= fun xs => pure ((seqIndex? (Int.negSucc jj) xs.size).bind fun i => xs[i]?.map (i, ·))) >>= _) _ _ s
    refine wpAny_bind (wpAny_bind ?_)
    show wpAny _ _ (seqItems? (.ref l) >>= _) _ _ s
    refine wpAny_bind (wpAny_seqItems ho hd (wpAny_pure (wpAny_pure ?_)))
    rw [List.size_toArray, hj]
    simp only [Option.bind_some, hx', Option.map_some]
    show wpAny _ _ (setSeqItemAt l j v >>= _) _ _ s
    refine wpAny_bind (wpAny_setSeqItemAt ho hd ?_)
    first
      | exact wpAny_bind (wpAny_pure (wpAny_pure ⟨.none, rfl, wpAny_pure done⟩))
      | exact wpAny_pure ⟨.none, rfl, wpAny_pure done⟩

/-- unpacking -/
theorem draw_src {H : List Addr} {I : Addr} {items : List D} {fp : List Addr} {P : Nat → Value → Prop} {St : Nat → Heap → Prop} {s₁ s₂ : Shared} (Z : Src F.X H A s₁ s₂ I items fp P St) :
    ∀ (m i : Nat) (s : Shared), i + m = items.length → TI s.heap → St i s.heap → (∀ b o, b ≠ I → (gt s₂.heap) b = some o → (gt s.heap) b = some o) → (∃ h t, s = { s₂ with heap := h, toks := t }) →
      wpAny (Md F.X) A (draw (.ref I) m) (fun vs s' => Reps F.X.C (vis H s₁.heap) (items.drop i) vs ∧ TI s'.heap ∧ St items.length s'.heap ∧ (∀ b o, b ≠ I → (gt s₂.heap) b = some o → (gt s'.heap) b = some o) ∧ ∃ h t, s' = { s₂ with heap := h, toks := t }) E0 s
  | 0, i, s, he, ti, hst, hk, hs => by
    have : i = items.length := by omega
    subst this
    exact wpAny_pure ⟨by rw [List.drop_length]; exact .mkN, ti, hst, hk, hs⟩
  | m + 1, i, s, he, ti, hst, hk, hs => by
    show wpAny (Md F.X) A (pyNext (.ref I) >>= _) _ _ s
    refine wpAny_bind (Z.W.item i s _ E0 (by omega) hst fun v h' tk hP hst' hk' => ?_)
    dsimp only
    obtain ⟨hh, tt, rfl⟩ := hs
    have up : ∀ b o, b ≠ I → hh.get? b = some o → h'.get? b = some o := fun b o q e => hk' b o (by simpa using q) e
    have ih := draw_src Z m (i + 1) { ({ s₂ with heap := hh, toks := tt } : Shared) with heap := h', toks := tk } (by omega) (ti.but up (Z.ng _ _ hst).nc) hst' (fun b o q e => gt_of (up b o q (gt_get (hk b o q e))) (gt_tb e)) ⟨h', tk, rfl⟩
    refine wpAny_bind (wpAny_holding (wpAny_mono ih (fun vs s' hq => ?_) fun _ _ e => e))
    obtain ⟨d, hd, rd⟩ := Z.it i v (by omega) hP
    refine wpAny_pure ⟨?_, hq.2⟩
    obtain ⟨hl, hx⟩ := List.getElem?_eq_some_iff.mp hd
    rw [List.drop_eq_getElem_cons hl, hx]
    simp only [Reps]
    exact ⟨v, vs, rfl, rd, hq.1⟩

theorem unpack_sound {H : List Addr} {t : Bool} {xs : List D} {v : Value} {Q : List Value → Shared → Prop} (ti : TI s.heap) (hh : A.handled = none) (hl : xs.length ≤ strLid) (hr : Rep F.X.C (vis H s.heap) (.seq t xs) v)
    (h : ∀ vs s', Kp s s' → s.toks ≤ s'.toks → Reps F.X.C (vis H s'.heap) xs vs → Q vs s') : wpAny (Md F.X) A (unpackItems v xs.length none) Q E0 s := by
  suffices hw : wpAny (Md F.X) A (unpackItems v xs.length none) (fun vs s' => Kp s s' ∧ Reps F.X.C (vis H s'.heap) xs vs) E0 s from
    wpAny_mono (up hw) (fun vs s' q => h vs s' q.1.1 q.1.2 q.2) fun _ _ e => e
  have hT : ∃ T id, s.TypeIs v T ∧ typeLookup (.type T) "__iter__" = pure (some (.builtin id)) := by
    simp only [Rep] at hr
    obtain ⟨a, vs, rfl, hs, _⟩ := hr
    have q := (hs.mono (vis_le _ _)).typeIs
    cases t with
    | true => exact ⟨_, _, q, PySem.F.slot_tuple_iter.lookup⟩
    | false => exact ⟨_, _, q, PySem.F.slot_list_iter.lookup⟩
  obtain ⟨T, id, h1, h2⟩ := hT
  unfold unpackItems
  refine wpAny_bind ?_
  unfold notIterableAtAll
  refine wpAny_bind (wpAny_specialOf h1 h2 ?_)
  refine wpAny_pure ?_
  simp only [Bool.false_eq_true, if_false]
  refine wpAny_bind (wpAny_holding (iter_value ti (xs := xs) hh hr (by simp only [itemsD, if_pos hl]) fun I s₂ fp P St Z => ?_))
  refine wpAny_bind (wpAny_holding (wpAny_mono (draw_src Z xs.length 0 s₂ (by omega) (Z.k.ti ti) Z.st (fun _ _ _ e => e) ⟨s₂.heap, s₂.toks, rfl⟩) (fun vs s₃ hq => ?_) fun _ _ e => e))
  obtain ⟨hr', ti3, hst, hk, hh3, tt, rfl⟩ := hq
  rw [List.drop_zero] at hr'
  rw [if_neg (by rw [hr'.length]; exact Nat.lt_irrefl _)]
  refine wpAny_bind (wpAny_holding (Z.W.done _ _ _ hst fun h4 t4 hk4 => ?_))
  simp only [Option.isSome_none, Bool.false_eq_true, if_false]
  have up : ∀ b o, b ≠ I → hh3.get? b = some o → h4.get? b = some o := fun b o q e => hk4 b o (by simpa using q) e
  have le : Le (gt s.heap) (gt h4) := fun b o e => by
    have hb : b ≠ I := fun q => by rw [q, Z.new] at e; cases e
    exact gt_of (up b o hb (gt_get (hk b o hb (kle Z.k _ _ e)))) (gt_tb e)
  refine wpAny_pure ⟨?_, hr'.mono (vis_mono le)⟩
  obtain ⟨ha, ta, da, rfl, ka⟩ := Z.k
  exact ⟨h4, t4, da, rfl, le, fun _ => ti3.but up (Z.ng _ _ hst).nc⟩
end
end Mine
end

section
open PySem PySem.Calls PyProof.Rows
set_option Elab.async false
set_option maxRecDepth 100000
namespace Mine
section
variable {F : Fx} {Hc M : List Addr} {G : Nat → Addr} {env : Env} {σ : List Sl} {B : Gt} {s₀ s : Shared} {A : Around}

theorem StP.base {B' : Gt} (S : StP F Hc M G env σ B' s₀ s) (h : Le B B') : StP F Hc M G env σ B s₀ s :=
  ⟨S.ev, S.ns, S.lm, S.ll, S.cm, S.ci, S.ow, S.oi, S.nd, S.mf, h.trans S.kp, S.sh⟩
theorem StP.rebase (S : StP F Hc M G env σ B s₀ s) : StP F Hc M G env σ (vis M s.heap) s₀ s :=
  ⟨S.ev, S.ns, S.lm, S.ll, S.cm, S.ci, S.ow, S.oi, S.nd, S.mf, Le.refl _, S.sh⟩

theorem vis_up {M M' : List Addr} {h h' : Heap} (k : Le (vis M h) (vis M' h')) : Le (vis (M ++ Hc) h) (vis (M' ++ Hc) h') := fun b o e => by
  obtain ⟨e1, e2⟩ := vis_get e
  have e3 := k b o (vis_of e1 fun q => e2 (List.mem_append_left _ q))
  obtain ⟨e4, e5⟩ := vis_get e3
  refine vis_of e4 fun q => ?_
  rcases List.mem_append.mp q with q | q
  · exact e5 q
  · exact e2 (List.mem_append_right _ q)
theorem vis_perm {H H' : List Addr} (h : Heap) (p : ∀ a, a ∈ H ↔ a ∈ H') : vis H h = vis H' h := by
  funext b
  unfold vis
  have p' : b ∈ H ++ tbs ↔ b ∈ H' ++ tbs := by rw [List.mem_append, List.mem_append, p b]
  by_cases q : b ∈ H ++ tbs
  · rw [if_pos q, if_pos (p'.mp q)]
  · rw [if_neg q, if_neg fun x => q (p'.mpr x)]
theorem vis_sub {H H' : List Addr} (h : Heap) (p : ∀ a, a ∈ H' → a ∈ H) : Le (vis H h) (vis H' h) := fun b o e => by
  obtain ⟨e1, e2⟩ := vis_get e
  exact vis_of e1 fun q => e2 (p b q)

theorem StP.store2 (S : StP F Hc M G env σ B s₀ s) {i : Nat} {x : Str} {v : Value} {sl : Sl} {G' : Nat → Addr} {Q : Unit → Shared → Prop} {E : Value → Shared → Prop} {Mo : Model} (hi : F.nm[i]? = some x)
    (hk : F.sc.lookup x = some .local ∨ F.sc.lookup x = some .cell)
    (hsl : (∃ d, sl = .fr d ∧ Rep F.X.C (vis (M ++ Hc) s.heap) d v) ∨
      (∃ xs vs, sl = .ow xs ∧ v = .ref (G' i) ∧ IsSq (gt s.heap) false (G' i) vs ∧ Reps F.X.C (vis (M ++ Hc) s.heap) xs vs ∧ G' i ∈ M ∧ G' i ∉ Hc ∧ ∀ j ys, j ≠ i → σ[j]? = some (.ow ys) → G j ≠ G' i))
    (hG : ∀ j, j ≠ i → G' j = G j) (h : ∀ s', StP F Hc M G' env (σ.set i sl) B s₀ s' → Le (vis M s.heap) (vis M s'.heap) → Q () s') :
    wpAny Mo A (storeName env x v) Q E s :=
  S.rebase.store hi hk hsl hG fun s' S' _ => h s' (S'.base S.kp) S'.kp

/-- a new object that is no concern of the frame's -/
theorem StP.hide {I : Addr} {s' : Shared} (S : StP F Hc M G env σ B s₀ s) (hI : (gt s.heap) I = none) (k : Kp s s') (t : s.toks ≤ s'.toks) (al : ∃ o, (gt s'.heap) I = some o) :
    StP F (I :: Hc) M G env σ B s₀ s' := by
  have S' := S.mono k t
  have ne : ∀ b, (∃ o, (gt s.heap) b = some o) → b ≠ I := fun b ⟨o, e⟩ q => by rw [q, hI] at e; cases e
  have v : Le (vis (M ++ Hc) s.heap) (vis (M ++ I :: Hc) s'.heap) := fun b o e => by
    obtain ⟨e1, e2⟩ := vis_get e
    refine vis_of (kle k b o e1) fun q => ?_
    rcases List.mem_append.mp q with q | q
    · exact e2 (List.mem_append_left _ q)
    · rcases List.mem_cons.mp q with q | q
      · exact ne b ⟨o, e1⟩ q
      · exact e2 (List.mem_append_right _ q)
  refine ⟨⟨S'.ev.kind, S'.ev.glb, S'.ev.blt, S'.ev.gk, S'.ev.ck, fun j y s1 hj he => ?_, S'.ev.nms, ⟨S'.ev.hb.ti, fun b hb => ?_⟩, S'.ev.w0, S'.ev.tk, S'.ev.W, S'.ev.clo⟩, S'.ns, S'.lm, S'.ll, S'.cm, S'.ci, fun i xs h => ?_, S'.oi, S'.nd, S'.mf, S'.kp, S'.sh⟩
  · exact (S.ev.vars j y s1 hj he).up (fun u q => q.mono (kle k)) (fun _ _ _ q => q.mono (kle k)) v
  · rcases List.mem_append.mp hb with q | q
    · exact S'.ev.hb.al b (List.mem_append_left _ q)
    · rcases List.mem_cons.mp q with q | q
      · rw [q]; exact al
      · exact S'.ev.hb.al b (List.mem_append_right _ q)
  · obtain ⟨h1, h2, h3⟩ := S.ow i xs h
    refine ⟨h1, fun q => ?_, h3⟩
    rcases List.mem_cons.mp q with q | q
    · exact ne _ (S.ev.hb.al _ (List.mem_append_left _ h1)) q
    · exact h2 q

theorem StP.unhide {I : Addr} (S : StP F (I :: Hc) M G env σ B s₀ s) : StP F Hc M G env σ B s₀ s := by
  have sub : ∀ a, a ∈ M ++ Hc → a ∈ M ++ I :: Hc := fun a h => by
    rcases List.mem_append.mp h with q | q
    · exact List.mem_append_left _ q
    · exact List.mem_append_right _ (.tail _ q)
  exact ⟨⟨S.ev.kind, S.ev.glb, S.ev.blt, S.ev.gk, S.ev.ck, fun j y s1 hj he => (S.ev.vars j y s1 hj he).up (fun _ q => q) (fun _ _ _ q => q) (vis_sub _ sub), S.ev.nms, ⟨S.ev.hb.ti, fun b hb => S.ev.hb.al b (sub b hb)⟩, S.ev.w0, S.ev.tk, S.ev.W, S.ev.clo⟩,
    S.ns, S.lm, S.ll, S.cm, S.ci, fun i xs h => let ⟨h1, h2, h3⟩ := S.ow i xs h; ⟨h1, fun q => h2 (.tail _ q), h3⟩, S.oi, S.nd, S.mf, S.kp, S.sh⟩

/-- the hidden object changes -/
theorem StP.other {I : Addr} {h' : Heap} {t : Nat} (S : StP F (I :: Hc) M G env σ B s₀ s) (hM : I ∉ M) (ti : TI h') (hk : ∀ b o, b ≠ I → (gt s.heap) b = some o → (gt h') b = some o) (al : ∃ o, (gt h') I = some o)
    (hB : B I = none) (h0 : F.X.h0.get? I = none) (hc : ∀ x c, env.cells.lookup x = some c → c ≠ I) (ht : 1 ≤ t) : StP F (I :: Hc) M G env σ B s₀ { s with heap := h', toks := t } := by
  have v : ∀ L, (I ∈ L) → Le (vis L s.heap) (vis L h') := fun L hL b o e => by
    obtain ⟨e1, e2⟩ := vis_get e
    exact vis_of (hk b o (fun q => e2 (q ▸ hL)) e1) e2
  have hL : env.locals ≠ I := fun q => hM (q ▸ S.lm)
  have va : ∀ y u, VarAt env s.heap y u → VarAt env h' y u := fun y u hu => by
    rcases hu with ⟨h1, m₂, h2, h3⟩ | ⟨h1, c, h2, h3⟩
    · exact .inl ⟨h1, m₂, h2.at' (fun o e => hk _ o hL e), h3⟩
    · exact .inr ⟨h1, c, h2, h3.at' fun o e => hk c o (hc y c h2) e⟩
  refine ⟨⟨S.ev.kind, S.ev.glb, S.ev.blt, S.ev.gk, S.ev.ck, fun j y s1 hj he => (S.ev.vars j y s1 hj he).up (va y) (fun xs vs e q => ?_) (v _ (List.mem_append_right _ (.head _))), S.ev.nms, ⟨ti, fun b hb => ?_⟩, fun b o e => hk b o (fun q => by rw [q, h0] at e; cases e) (S.ev.w0 b o e), ht, S.ev.W, S.ev.clo⟩,
    let ⟨m, h⟩ := S.ns; ⟨m, h.at' fun o e => hk _ o hL e⟩, S.lm, S.ll, fun x c h => ?_, S.ci, S.ow, S.oi, S.nd, S.mf, fun b o e => ?_, by obtain ⟨h, t', d, rfl⟩ := S.sh; exact ⟨h', t, d, rfl⟩⟩
  · subst e
    obtain ⟨o, n, e, r⟩ := q
    exact ⟨o, n, hk _ o (fun q => hM (q ▸ (S.ow j xs he).1)) e, r⟩
  · by_cases q : b = I
    · rw [q]; exact al
    · obtain ⟨o, e⟩ := S.ev.hb.al b hb; exact ⟨o, hk b o q e⟩
  · obtain ⟨⟨u, e⟩, h2⟩ := S.cm x c h
    exact ⟨⟨u, e.at' fun o q => hk c o (hc x c h) q⟩, h2⟩
  · obtain ⟨e1, e2⟩ := vis_get (S.kp b o e)
    exact vis_of (hk b o (fun q => by rw [q, hB] at e; cases e) e1) e2

theorem StP.adopt {l : Addr} (S : StP F (l :: Hc) M G env σ B s₀ s) (hB : B l = none) (h0 : F.X.h0.get? l = none) : StP F Hc (l :: M) G env σ B s₀ s := by
  have p : ∀ a, a ∈ M ++ l :: Hc ↔ a ∈ l :: M ++ Hc := fun a => by simp only [List.mem_append, List.mem_cons]; rw [or_left_comm, or_assoc]
  refine ⟨⟨S.ev.kind, S.ev.glb, S.ev.blt, S.ev.gk, S.ev.ck, fun j y s1 hj he => (S.ev.vars j y s1 hj he).up (fun _ q => q) (fun _ _ _ q => q) (by rw [vis_perm _ p]; exact Le.refl _), S.ev.nms, ⟨S.ev.hb.ti, fun b hb => S.ev.hb.al b ((p b).mpr hb)⟩, S.ev.w0, S.ev.tk, S.ev.W, S.ev.clo⟩,
    S.ns, .tail _ S.lm, S.ll, fun x c h => ⟨(S.cm x c h).1, fun q => .tail _ ((S.cm x c h).2 q)⟩, S.ci, fun i xs h => let ⟨h1, h2, h3⟩ := S.ow i xs h; ⟨.tail _ h1, fun q => h2 (.tail _ q), h3⟩, S.oi, S.nd, fun a ha => ?_, fun b o e => ?_, S.sh⟩
  · rcases List.mem_cons.mp ha with q | q
    · rw [q]; exact h0
    · exact S.mf a q
  · obtain ⟨e1, e2⟩ := vis_get (S.kp b o e)
    refine vis_of e1 fun q => ?_
    rcases List.mem_cons.mp q with q | q
    · rw [q, hB] at e; cases e
    · exact e2 q

theorem StP.unB (S : StP F Hc M G env σ B s₀ s) {l : Addr} (h : (gt s.heap) l = none) : B l = none ∧ F.X.h0.get? l = none ∧ l ∉ M ∧ l ∉ Hc ∧ ∀ x c, env.cells.lookup x = some c → c ≠ l := by
  refine ⟨?_, ?_, fun q => ?_, fun q => ?_, fun x c hc q => ?_⟩
  · cases e : B l with
    | none => rfl
    | some o => have := (vis_get (S.kp _ _ e)).1; rw [h] at this; cases this
  · cases e : F.X.h0.get? l with
    | none => rfl
    | some o => have := S.ev.w0 _ _ e; rw [h] at this; cases this
  · obtain ⟨o, e⟩ := S.ev.hb.al l (List.mem_append_left _ q); rw [h] at e; cases e
  · obtain ⟨o, e⟩ := S.ev.hb.al l (List.mem_append_right _ q); rw [h] at e; cases e
  · obtain ⟨⟨u, e⟩, _⟩ := S.cm x c hc; obtain ⟨o, e⟩ := e.al; rw [q, h] at e; cases e

/-- names bound one after another -/
noncomputable def setAll : List Sl → List Nat → List D → List Sl
  | σ, x :: xs, d :: ds => setAll (σ.set x (.fr d)) xs ds
  | σ, _, _ => σ
noncomputable def storable (sc : Sc) (x : Str) : Bool := sc.lookup x == some .local || sc.lookup x == some .cell
theorem storable_spec {sc : Sc} {x : Str} (h : storable sc x = true) : sc.lookup x = some .local ∨ sc.lookup x = some .cell := by
  unfold storable at h
  rcases Bool.or_eq_true_iff.mp h with h | h
  · exact .inl (by simpa using h)
  · exact .inr (by simpa using h)
noncomputable def StoresAs (env : Env) (E : Value → Shared → Prop) (Mo : Model) (A : Around) (t : Value → Sem Unit) (x : Str) : Prop := ∀ v (Q : Unit → Shared → Prop) s, wpAny Mo A (storeName env x v) Q E s → wpAny Mo A (t v) Q E s
theorem StP.stores {E : Value → Shared → Prop} {Mo : Model} {Q : Unit → Shared → Prop} : ∀ (xs : List Nat) (ts : List (Value → Sem Unit)) (vs : List Value) (ds : List D) (σ : List Sl) (s : Shared), xs.length = ds.length → ts.length = xs.length →
    (∀ (j : Nat) (t : Value → Sem Unit) (i : Nat), ts[j]? = some t → xs[j]? = some i → ∃ x, F.nm[i]? = some x ∧ storable F.sc x = true ∧ StoresAs env E Mo A t x) →
    StP F Hc M G env σ B s₀ s → Reps F.X.C (vis (M ++ Hc) s.heap) ds vs → (∀ s', StP F Hc M G env (setAll σ xs ds) B s₀ s' → Le (vis M s.heap) (vis M s'.heap) → Q () s') → wpAny Mo A (assignInOrder ts vs) Q E s
  | [], ts, vs, ds, σ, s, h1, h2, h3, S, hr, hQ => by
    cases ds with
    | cons => simp at h1
    | nil =>
      cases ts with
      | cons => simp at h2
      | nil => simp only [Reps] at hr; subst hr; exact wpAny_assignInOrder_none (hQ s S (Le.refl _))
  | i :: xs, ts, vs, ds, σ, s, h1, h2, h3, S, hr, hQ => by
    cases ds with
    | nil => simp at h1
    | cons d ds =>
      cases ts with
      | nil => simp at h2
      | cons t ts =>
        simp only [Reps] at hr
        obtain ⟨v, r, rfl, rv, rr⟩ := hr
        obtain ⟨x, hx, hst, ht⟩ := h3 0 t i rfl rfl
        refine wpAny_assignInOrder_more (ht v _ s (S.store2 hx (storable_spec hst) (.inl ⟨d, rfl, rv⟩) (fun _ _ => rfl) fun s' S' k' => ?_))
        exact StP.stores xs ts r ds _ s' (by simpa using h1) (by simpa using h2) (fun j t i a b => h3 (j + 1) t i (by simpa using a) (by simpa using b)) S' (rr.mono (vis_up k')) fun s'' S'' k'' => hQ s'' S'' (k'.trans k'')
end
end Mine
end

section
open PySem PySem.Calls PyProof.Rows
set_option Elab.async false
set_option maxRecDepth 100000
namespace Mine
section
variable {X : Cx} {s : Shared} {A : Around}
theorem pop_plain {l : Addr} {vs : List Value} {v : Value} {Q : Value → Shared → Prop} {E : Value → Shared → Prop} (hl : PlX s.heap l (vs ++ [v])) (hz : vs.length ≤ strLid)
    (hQ : ∀ h', PlX h' l vs → Heap.SameBut l s.heap h' → Q v { s with heap := h' }) : wpAny (Md X) A (call (.builtin "list.pop") [.ref l]) Q E s := by
  obtain ⟨o, n, ho, hc, hdn, hd, hsl⟩ := id hl
  have hl := hl.plain
  refine wpAny_call_entry F.slot_list_pop hl.isList.typeIs F.entry_list_pop ?_ (F.args_list_pop_1 _)
  have hsz : (vs ++ [v]).toArray.size = vs.length + 1 := by simp
  have hk : seqIndex? (-1) (vs ++ [v]).toArray.size = some vs.length := by
    rw [hsz, seqIndex_neg (by omega) (by omega)]; congr 1; omega
  have hne : ¬ (vs ++ [v]).toArray.isEmpty = true := by simp
  have hy : (vs ++ [v]).toArray[vs.length]? = some v := by simp
  have hs1 : (vs ++ [v]).toArray.size ≤ sizeLine := by
    rw [hsz]
    have : strLid < sizeLine := by decide
    omega
  obtain ⟨n', hd'⟩ := Obj.data_mapSeq hd (·.eraseIdxIfInBounds vs.length)
  have her : ((vs ++ [v]).toArray.eraseIdxIfInBounds vs.length) = vs.toArray := by
    apply Array.ext'
    have : (vs ++ [v]).eraseIdx vs.length = vs := by rw [List.eraseIdx_append_of_length_le (Nat.le_refl _)]; simp
    rw [Array.eraseIdxIfInBounds]
    simp [this]
  have hfin : PlX (s.heap.update l (Obj.mapSeq (·.eraseIdxIfInBounds vs.length))) l vs := by
    refine ⟨_, n', Heap.get?_update_self _ ho (Obj.isFreed_of_seq hd'), (Obj.cls_mapSeq ..).trans hc, ?_, by rw [hd', her], ?_⟩
    · obtain ⟨c, d, dt, sl⟩ := o
      subst hd
      exact hdn
    · obtain ⟨c, d, dt, sl⟩ := o
      subst hd
      exact hsl
  have done : Q v { s with heap := s.heap.update l (Obj.mapSeq (·.eraseIdxIfInBounds vs.length)) } := hQ _ hfin (Heap.SameBut.update ..)
  unfold Builtin.«list.pop»
  refine wpAny_bind (wpAny_of_eq (a := (Value.ref l, [])) (by first | rfl | kernel_rfl) ?_)
  dsimp only
  refine wpAny_bind (wpAny_pure ?_)
  have hf : (!Builtin.List.listFitsIndex (-1)) = false := by decide
  simp only [hf, Bool.false_eq_true, if_false]
  refine wpAny_bind ?_
  show wpAny _ _ (seqItems? (.ref l) >>= _) _ _ s
  refine wpAny_bind (wpAny_seqItems ho hd (wpAny_pure ?_))
  rw [if_neg hne]
  simp only [hk, hy, Option.bind_some, Option.map_some]
  show wpAny _ _ (updateSeq l _ >>= _) _ _ s
  have hz' : ((vs ++ [v]).toArray.eraseIdxIfInBounds vs.length).size ≤ sizeLine + 1 := by
    rw [her, List.size_toArray]
    have : strLid < sizeLine := by decide
    omega
  refine wpAny_bind (wpAny_updateSeq ho hd (hz := hs1) (_hz' := hz') (wpAny_pure ⟨v, rfl, done⟩))

theorem app_plain {l : Addr} {vs : List Value} {x : Value} {Q : Value → Shared → Prop} {E : Value → Shared → Prop} (hl : PlX s.heap l vs) (hz : vs.length ≤ strLid)
    (hQ : ∀ h', PlX h' l (vs ++ [x]) → Heap.SameBut l s.heap h' → Q .none { s with heap := h' }) : wpAny (Md X) A (call (.builtin "list.append") [.ref l, x]) Q E s := by
  obtain ⟨o, n, ho, hc, hdn, hd, hsl⟩ := id hl
  have hl := hl.plain
  obtain ⟨n', hd'⟩ := Obj.data_mapSeq hd (·.push x)
  refine wpAny_call_entry F.slot_list_append hl.isList.typeIs F.entry_list_append ?_ (F.args_list_append_2 _ _)
  show wpAny _ _ (updateSeq l (·.push x) >>= fun _ => ret .none) _ _ s
  have hs1 : vs.toArray.size ≤ sizeLine := by
    rw [List.size_toArray]
    have : strLid < sizeLine := by decide
    omega
  refine wpAny_bind (wpAny_updateSeq ho hd (hz := hs1) (_hz' := by rw [Array.size_push]; omega) (wpAny_pure ⟨.none, rfl, hQ _ ?_ (Heap.SameBut.update ..)⟩))
  refine ⟨_, n', Heap.get?_update_self _ ho (Obj.isFreed_of_seq hd'), (Obj.cls_mapSeq ..).trans hc, ?_, by rw [hd']; simp, ?_⟩
  · obtain ⟨c, d, dt, sl⟩ := o
    subst hd
    exact hdn
  · obtain ⟨c, d, dt, sl⟩ := o
    subst hd
    exact hsl
theorem rev_plain {l : Addr} {vs : List Value} {Q : Value → Shared → Prop} {E : Value → Shared → Prop} (hl : PlX s.heap l vs) (hz : vs.length ≤ strLid)
    (hQ : ∀ h', PlX h' l vs.reverse → Heap.SameBut l s.heap h' → Q .none { s with heap := h' }) : wpAny (Md X) A (call (.builtin "list.reverse") [.ref l]) Q E s := by
  obtain ⟨o, n, ho, hc, hdn, hd, hsl⟩ := id hl
  have hl := hl.plain
  refine wpAny_call_entry F.slot_list_reverse hl.isList.typeIs F.entry_list_reverse ?_ (F.args_list_reverse_1 _)
  have hsz : vs.toArray.size = vs.length := by simp
  have hs1 : vs.toArray.size ≤ sizeLine := by
    rw [hsz]
    have : strLid < sizeLine := by decide
    omega
  obtain ⟨n', hd'⟩ := Obj.data_mapSeq hd (·.reverse)
  have hfin : PlX (s.heap.update l (Obj.mapSeq (·.reverse))) l vs.reverse := by
    refine ⟨_, n', Heap.get?_update_self _ ho (Obj.isFreed_of_seq hd'), (Obj.cls_mapSeq ..).trans hc, ?_, by rw [hd']; simp, ?_⟩
    · obtain ⟨c, d, dt, sl⟩ := o
      subst hd
      exact hdn
    · obtain ⟨c, d, dt, sl⟩ := o
      subst hd
      exact hsl
  have done : Q .none { s with heap := s.heap.update l (Obj.mapSeq (·.reverse)) } := hQ _ hfin (Heap.SameBut.update ..)
  unfold Builtin.«list.reverse»
  refine wpAny_bind (wpAny_of_eq (a := Value.ref l) (by first | rfl | kernel_rfl) ?_)
  show wpAny _ _ (updateSeq l _ >>= _) _ _ s
  have hz' : (vs.toArray.reverse).size ≤ sizeLine + 1 := by
    rw [Array.size_reverse, hsz]
    have : strLid < sizeLine := by decide
    omega
  refine wpAny_bind (wpAny_updateSeq ho hd (hz := hs1) (_hz' := hz') (wpAny_pure ⟨.none, rfl, done⟩))
end



inductive Out where
  | nx | bk | ct | rt (d : D)

section
variable {F : Fx} {Hc M : List Addr} {G : Nat → Addr} {env : Env} {σ : List Sl} {B : Gt} {s₀ s : Shared} {A : Around}
noncomputable def Fi (F : Fx) (Hc : List Addr) (env : Env) (B : Gt) (s₀ : Shared) (o : Out) (σ : List Sl) (f : Flow) (s : Shared) : Prop := match o with
  | .nx => f = .next ∧ ∃ M G, StP F Hc M G env σ B s₀ s
  | .bk => f = .brk ∧ ∃ M G, StP F Hc M G env σ B s₀ s
  | .ct => f = .cont ∧ ∃ M G, StP F Hc M G env σ B s₀ s
  | .rt d => ∃ v, f = .ret v ∧ Rep F.X.C (vis Hc s.heap) d v ∧ ∃ M G, StP F Hc M G env σ B s₀ s
/-- the statement's end -/
noncomputable def ExS (F : Fx) (σ : List Sl) (st : Stmt) (o : Out) (σ' : List Sl) : Prop := ∀ Hc M G env B s₀ s A, StP F Hc M G env σ B s₀ s → Rm F.k A → wpAny (Md F.X) A (exec st env) (Fi F Hc env B s₀ o σ') E0 s
noncomputable def ExSs (F : Fx) (σ : List Sl) (st : List Stmt) (o : Out) (σ' : List Sl) : Prop := ∀ Hc M G env B s₀ s A, StP F Hc M G env σ B s₀ s → Rm F.k A → wpAny (Md F.X) A (execs st env) (Fi F Hc env B s₀ o σ') E0 s
theorem Fi.base {B' : Gt} {o : Out} {f : Flow} (h : Fi F Hc env B' s₀ o σ f s) (k : Le B B') : Fi F Hc env B s₀ o σ f s := by
  cases o with
  | nx => obtain ⟨a, M, G, S⟩ := h; exact ⟨a, M, G, S.base k⟩
  | bk => obtain ⟨a, M, G, S⟩ := h; exact ⟨a, M, G, S.base k⟩
  | ct => obtain ⟨a, M, G, S⟩ := h; exact ⟨a, M, G, S.base k⟩
  | rt d => obtain ⟨v, a, r, M, G, S⟩ := h; exact ⟨v, a, r, M, G, S.base k⟩
theorem EvS.run {e d} {Q : Value → Shared → Prop} (h : EvS F σ e d) (S : StP F Hc M G env σ B s₀ s) (R : Rm F.k A) (k : ∀ v s', Gr s s' → StP F Hc M G env σ B s₀ s' → Rep F.X.C (vis (M ++ Hc) s'.heap) d v → Q v s') : wpAny (Md F.X) A (eval e env) Q E0 s :=
  nx (h _ _ _ _ _ S.ev R) fun v s' g r => k v s' g (S.mono g.1 g.2) r
theorem TsS.run {e c} {Q : Bool → Shared → Prop} (h : TsS F σ e c) (S : StP F Hc M G env σ B s₀ s) (R : Rm F.k A) (k : ∀ s', Gr s s' → StP F Hc M G env σ B s₀ s' → Q c s') : wpAny (Md F.X) A (isTrue e env (eval e env)) Q E0 s :=
  nx (h _ _ _ _ _ S.ev R) fun v s' g r => r ▸ k s' g (S.mono g.1 g.2)

theorem exs_nil : ExSs F σ [] .nx σ := fun _ M G _ _ _ _ _ S _ => wpAny_execs_nil ⟨rfl, M, G, S⟩
theorem exs_cons {a as o σ₁ σ'} (h : ExS F σ a .nx σ₁) (h' : ExSs F σ₁ as o σ') : ExSs F σ (a :: as) o σ' := fun _ _ _ _ _ _ _ _ S R =>
  wpAny_execs_cons (wpAny_mono (h _ _ _ _ _ _ _ _ S R) (fun f s₁ h₁ => by obtain ⟨rfl, M₁, G₁, S₁⟩ := h₁; exact h' _ _ _ _ _ _ _ _ S₁ R) fun _ _ e => e)
theorem exs_ret {a as d σ'} (h : ExS F σ a (.rt d) σ') : ExSs F σ (a :: as) (.rt d) σ' := fun _ _ _ _ _ _ _ _ S R =>
  wpAny_execs_cons (wpAny_mono (h _ _ _ _ _ _ _ _ S R) (fun f s₁ h₁ => by obtain ⟨v, rfl, h₁⟩ := h₁; exact ⟨v, rfl, h₁⟩) fun _ _ e => e)
theorem exs_bk {a as σ'} (h : ExS F σ a .bk σ') : ExSs F σ (a :: as) .bk σ' := fun _ _ _ _ _ _ _ _ S R =>
  wpAny_execs_cons (wpAny_mono (h _ _ _ _ _ _ _ _ S R) (fun f s₁ h₁ => by obtain ⟨rfl, h₁⟩ := h₁; exact ⟨rfl, h₁⟩) fun _ _ e => e)
theorem exs_ct {a as σ'} (h : ExS F σ a .ct σ') : ExSs F σ (a :: as) .ct σ' := fun _ _ _ _ _ _ _ _ S R =>
  wpAny_execs_cons (wpAny_mono (h _ _ _ _ _ _ _ _ S R) (fun f s₁ h₁ => by obtain ⟨rfl, h₁⟩ := h₁; exact ⟨rfl, h₁⟩) fun _ _ e => e)
/-- an own list is given up, no statement done -/
theorem exs_frz {as o σ' xs} (i : Nat) (hs : σ[i]? = some (.ow xs)) (h : ExSs F (σ.set i (.fr (.seq false xs))) as o σ') : ExSs F σ as o σ' := fun _ _ _ _ _ _ _ _ S R => h _ _ _ _ _ _ _ _ (S.freeze hs) R

noncomputable def NoSwap (v : Expr) : Prop := ∀ t n (env : Env), swapsWith v t n env = pure false
theorem ex_asg {i : Nat} {x p v q d} (hx : F.nm[i]? = some x) (h : EvS F σ v d) (hst : storable F.sc x = true := by rfl) (hn : NoSwap v := by exact fun _ _ _ => rfl) : ExS F σ (.Assign [.Name x p] v q) .nx (σ.set i (.fr d)) := fun _ M G _ _ _ _ _ S R =>
  wpAny_Assign_Name (h.run S R fun v s₁ g S₁ r => S₁.store2 hx (storable_spec hst) (.inl ⟨d, rfl, r⟩) (fun _ _ => rfl) fun s' S' _ => ⟨rfl, M, G, S'⟩) (hn _ _ _)
theorem ex_ret {v p d} (h : EvS F σ v d) : ExS F σ (.Return (some v) p) (.rt d) σ := fun _ M G _ _ _ _ _ S R =>
  wpAny_Return_some (h.run S R fun v s₁ g S₁ r => ⟨v, rfl, r.mono (vis_sub _ fun a q => List.mem_append_right _ q), M, G, S₁⟩)
theorem ex_brk {p} : ExS F σ (.Break p) .bk σ := fun _ M G _ _ _ _ _ S _ => wpAny_Break ⟨rfl, M, G, S⟩
theorem ex_cnt {p} : ExS F σ (.Continue p) .ct σ := fun _ M G _ _ _ _ _ S _ => wpAny_Continue ⟨rfl, M, G, S⟩
theorem ex_ifT {t a b p o σ'} (ht : TsS F σ t true) (h : ExSs F σ a o σ') : ExS F σ (.If t a b p) o σ' := fun _ _ _ _ _ _ _ _ S R =>
  wpAny_If (ht.run S R fun s' _ S' => by simp only [if_true]; exact h _ _ _ _ _ _ _ _ S' R)
theorem ex_ifF {t a b p o σ'} (ht : TsS F σ t false) (h : ExSs F σ b o σ') : ExS F σ (.If t a b p) o σ' := fun _ _ _ _ _ _ _ _ S R =>
  wpAny_If (ht.run S R fun s' _ S' => by simp only [Bool.false_eq_true, if_false]; exact h _ _ _ _ _ _ _ _ S' R)

theorem StP.own {l : Addr} {i : Nat} {x : Str} {xs : List D} {vs : List Value} {Q : Unit → Shared → Prop} {E : Value → Shared → Prop} {Mo : Model} (S : StP F (l :: Hc) M G env σ B s₀ s) (hB : B l = none) (h0 : F.X.h0.get? l = none)
    (hM : l ∉ M) (hH : l ∉ Hc) (hi : F.nm[i]? = some x) (hst : storable F.sc x = true) (hq : IsSq (gt s.heap) false l vs) (hr : Reps F.X.C (vis (M ++ l :: Hc) s.heap) xs vs)
    (h : ∀ s', StP F Hc (l :: M) (fun j => if j = i then l else G j) env (σ.set i (.ow xs)) B s₀ s' → Le (vis (l :: M) s.heap) (vis (l :: M) s'.heap) → Q () s') : wpAny Mo A (storeName env x (.ref l)) Q E s := by
  have S' := S.adopt hB h0
  have p : ∀ a, a ∈ M ++ l :: Hc ↔ a ∈ l :: M ++ Hc := fun a => by simp only [List.mem_append, List.mem_cons]; rw [or_left_comm, or_assoc]
  refine S'.store2 (G' := fun j => if j = i then l else G j) hi (storable_spec hst) (.inr ⟨xs, vs, rfl, by simp, by simpa using hq, by rw [← vis_perm _ p]; exact hr, by simp, by simpa using hH, fun j ys hj hs => ?_⟩) (fun j hj => by simp [hj]) h
  simp only [if_pos]
  intro q
  exact hM (q ▸ (S.ow j ys hs).1)

theorem eval_nil {p : Pos} {Q : Value → Shared → Prop} {E : Value → Shared → Prop} {Mo : Model} (h : Q (.ref s.heap.objs.size) { s with heap := s.heap.push { cls := .type "list", data := .seq ([] : List Value).toArray } }) : wpAny Mo A (eval (.List [] p) env) Q E s := by
  refine wpAny_List ?_
  exact spliced_nil ⟨Nat.zero_le _, h⟩
/-- a new empty list -/
theorem StP.fresh (S : StP F Hc M G env σ B s₀ s) : StP F (s.heap.objs.size :: Hc) M G env σ B s₀ { s with heap := s.heap.push { cls := .type "list", data := .seq ([] : List Value).toArray } } :=
  S.hide (get_size _) (Kp.of (t := s.toks) (rw_push _ _)) (Nat.le_refl _) ⟨_, gt_push_size S.ev.hb.ti rfl⟩


theorem ex_asgO {i : Nat} {x p pl q} (hx : F.nm[i]? = some x) (hst : storable F.sc x = true := by rfl) : ExS F σ (.Assign [.Name x p] (.List [] pl) q) .nx (σ.set i (.ow [])) := fun _ _ _ _ _ _ s _ S R => by
  obtain ⟨u1, u2, u3, u4, u5⟩ := S.unB (get_size s.heap)
  refine wpAny_Assign_Name (eval_nil ?_) rfl
  exact S.fresh.own u1 u2 u3 u4 hx hst (isSq_push S.ev.hb.ti false []) .mkN fun s' S' _ => ⟨rfl, _, _, S'⟩
theorem not_inter (S : EvSt F Hc G env σ s) : interactive env = false := by
  unfold interactive; rw [S.kind]; rfl
theorem ex_app {i : Nat} {x y ap q cp p d xs} (hx : F.nm[i]? = some x) (hs : σ[i]? = some (.ow xs)) (h : EvS F σ y d) (hlen : xs.length ≤ strLid) (hl : (ap.endLine == cp.line) = true := by rfl) (hn : NoStar y := by exact fun _ _ => rfl) :
    ExS F σ (.Expr (.Call (.Attribute (.Name x q) "append" ap) [y] [] cp) p) .nx (σ.set i (.ow (xs ++ [d]))) := fun _ M G env _ _ s _ S R => by
  obtain ⟨vs, hv, hq, hr⟩ := S.ev.vars i x _ hx hs
  have hst : starEach [y] env = [(false, eval y env)] := by rw [hn]; rfl
  refine wpAny_Expr_any (wpAny_Call_append rfl ?_ hl (by rw [hst]; rfl) (ld_name S.ev hx hv ⟨G i, vs.toArray, rfl, hq.plain, ?_⟩)) (not_inter S.ev) rfl
  · rw [hst]; rfl
  · refine h.run S R fun w s₁ g S₁ r => ?_
    have hq₁ := hq.mono (kle g.1)
    have hlv : vs.length = xs.length := hr.length
    refine app_plain hq₁.plx (by rw [hlv]; exact hlen) fun h' hp same => ?_
    exact ⟨rfl, M, G, S₁.upd (vs' := vs ++ [w]) hs hq₁ hp same ((hr.mono (vis_mono (kle g.1))).append (.mkC r .mkN)) (Nat.le_refl _)⟩
theorem ex_rev {i : Nat} {x ap q cp p xs} (hx : F.nm[i]? = some x) (hs : σ[i]? = some (.ow xs)) (hlen : xs.length ≤ strLid) (hl : (ap.endLine == cp.line) = true := by rfl) :
    ExS F σ (.Expr (.Call (.Attribute (.Name x q) "reverse" ap) [] [] cp) p) .nx (σ.set i (.ow xs.reverse)) := fun _ M G _ _ _ s _ S R => by
  obtain ⟨vs, hv, hq, hr⟩ := S.ev.vars i x _ hx hs
  have hlv : vs.length = xs.length := hr.length
  refine wpAny_Expr_any (call_meth (fun _ _ _ => rfl) hl rfl (by decide) (ld_name S.ev hx hv fun pl => ?_)) (not_inter S.ev) rfl
  obtain ⟨ob, n, e1, e2, e3, e4, _⟩ := id hq
  refine getMethod_builtin hq.typeIs PySem.F.plainAttrs_list PySem.F.slot_list_reverse PySem.F.type_list_reverse (fun a e => by cases e; exact ⟨ob, gt_get e1, e3⟩) ?_
  refine callWith_builtin rfl (evalArgs_nil3 ?_)
  refine rev_plain hq.plx (by rw [hlv]; exact hlen) fun h' hp same => ?_
  exact ⟨rfl, M, G, S.upd (vs' := vs.reverse) hs hq hp same hr.reverse (Nat.le_refl _)⟩
theorem ex_setO {i n : Nat} {x y v q sp p d xs j} (hx : F.nm[i]? = some x) (hs : σ[i]? = some (.ow xs)) (hy : EvS F σ y (.int j)) (h : EvS F σ v d) (hj : -100000 < j ∧ j < 100000) (hn : seqIndex? j xs.length = some n) (hw : NoSwap v := by exact fun _ _ _ => rfl) :
    ExS F σ (.Assign [.Subscript (.Name x q) y sp] v p) .nx (σ.set i (.ow (xs.set n d))) := fun _ M G _ _ _ s _ S R =>
  wpAny_Assign_Subscript (h.run S R fun w s₁ g S₁ r => by
    obtain ⟨vs, hv, hq, hr⟩ := S₁.ev.vars i x _ hx hs
    refine ld_name S₁.ev hx hv (hy.run S₁ R fun w2 s₂ g₂ S₂ r₂ => ?_)
    obtain ⟨u, rfl⟩ := r₂.intI
    have hlv : vs.length = xs.length := hr.length
    refine set_plain (hq.mono (kle g₂.1)).plx (by rw [hlv]; exact hn) hj fun h' hp same => ?_
    exact ⟨rfl, M, G, S₂.upd (vs' := vs.set n w) hs (hq.mono (kle g₂.1)) hp same ((hr.mono (vis_mono (kle g₂.1))).set (r.mono (vis_mono (kle g₂.1)))) (Nat.le_refl _)⟩) (hw _ _ _)

/-! unpacking -/
inductive TgS (F : Fx) : List Nat → List Expr → Prop
  | nil : TgS F [] []
  | cons {i x p xs ts} : F.nm[i]? = some x → storable F.sc x = true → TgS F xs ts → TgS F (i :: xs) (.Name x p :: ts)
theorem TgS.len {xs : List Nat} {ts : List Expr} (h : TgS F xs ts) : ts.length = xs.length := by
  induction h with
  | nil => rfl
  | cons _ _ _ ih => simp [ih]
theorem TgS.each {xs : List Nat} {ts : List Expr} (h : TgS F xs ts) : assignEach ts env = ts.map fun t => (false, assign t env) := by
  induction h with
  | nil => rfl
  | @cons i x p xs ts _ _ _ ih =>
    show (false, assign (.Name x p) env) :: assignEach ts env = _
    rw [ih]; rfl
theorem TgS.get {E : Value → Shared → Prop} {Mo : Model} {xs : List Nat} {ts : List Expr} (h : TgS F xs ts) : ∀ (j : Nat) (t : Value → Sem Unit) (i : Nat), (ts.map fun t => assign t env)[j]? = some t → xs[j]? = some i → ∃ x, F.nm[i]? = some x ∧ storable F.sc x = true ∧ StoresAs env E Mo A t x := by
  induction h with
  | nil => intro j t i a b; simp at a
  | @cons i' x p xs ts h1 h2 _ ih =>
    intro j t i a b
    cases j with
    | zero =>
      simp at a b
      subst a b
      exact ⟨x, h1, h2, fun v Q s hh => wpAny_assign_Name hh⟩
    | succ j => exact ih j t i (by simpa using a) (by simpa using b)
/-- a tuple of names takes a sequence -/
theorem assign_names {xs : List Nat} {ts : List Expr} {kk : Nat} {p : Pos} {t : Bool} {ds : List D} {v : Value} {Q : Unit → Shared → Prop} (ok : TgS F xs ts) (S : StP F Hc M G env σ B s₀ s) (R : Rm F.k A) (hl : ds.length = xs.length) (hs : ds.length ≤ strLid)
    (hr : Rep F.X.C (vis (M ++ Hc) s.heap) (.seq t ds) v) (h : ∀ s', StP F Hc M G env (setAll σ xs ds) B s₀ s' → Le (vis M s.heap) (vis M s'.heap) → Q () s') : wpAny (Md F.X) A (assign (.Tuple ts kk p) env v) Q E0 s := by
  rw [arm_assign_Tuple]
  refine wpAny_bind (wpAny_standAt ?_)
  unfold unpack
  rw [ok.each]
  have h1 : (ts.map fun t => (false, assign t env)).length = ds.length := by rw [List.length_map, ok.len, hl]
  have h2 : (ts.map fun t => (false, assign t env)).findIdx? (·.1) = none := by rw [List.findIdx?_eq_none_iff]; intro x hx; obtain ⟨t, _, rfl⟩ := List.mem_map.mp hx; rfl
  rw [h1, h2]
  refine wpAny_bind (wpAny_holding (unpack_sound S.ev.hb.ti R.hh hs hr fun vs s₁ k₁ t₁ rs => ?_))
  have h3 : ((ts.map fun t => (false, assign t env)).map (·.2)) = ts.map fun t => assign t env := by rw [List.map_map]; rfl
  rw [h3]
  exact StP.stores xs _ vs ds σ s₁ hl.symm (by rw [List.length_map, ok.len]) ok.get (S.mono k₁ t₁) rs fun s' S' k' => h s' S' ((vis_mono (kle k₁)).trans k')
noncomputable def NoStores (t v : Expr) : Prop := ∀ env : Env, swappedStores [t] v env = pure none
theorem ex_unp {xs ts v kk p q t ds} (ok : TgS F xs ts) (h : EvS F σ v (.seq t ds)) (hl : ds.length = xs.length) (hs : ds.length ≤ strLid := by exact Nat.le_of_ble_eq_true rfl) (hw : NoSwap v := by exact fun _ _ _ => rfl) (hw' : NoStores (.Tuple ts kk p) v := by exact fun _ => rfl) :
    ExS F σ (.Assign [.Tuple ts kk p] v q) .nx (setAll σ xs ds) := fun _ M G env _ _ _ _ S R =>
  wpAny_Assign_stores (h.run S R fun v s₁ g S₁ r => assign_names (kk := kk) ok S₁ R hl hs r fun s' S' _ => ⟨rfl, M, G, S'⟩) (hw (some (.Tuple ts kk p)) q.line env) (hw' env)
theorem ex_popU {i : Nat} {x ts ys kk p q ap cp r t ds xs} (hx : F.nm[i]? = some x) (hs : σ[i]? = some (.ow (xs ++ [.seq t ds]))) (ok : TgS F ys ts) (hl : ds.length = ys.length) (h1 : ds.length ≤ strLid) (h2 : xs.length ≤ strLid) (hap : (ap.endLine == cp.line) = true := by rfl)
    (hw' : NoStores (.Tuple ts kk p) (.Call (.Attribute (.Name x q) "pop" ap) [] [] cp) := by exact fun _ => rfl) :
    ExS F σ (.Assign [.Tuple ts kk p] (.Call (.Attribute (.Name x q) "pop" ap) [] [] cp) r) .nx (setAll (σ.set i (.ow xs)) ys ds) := fun Hc M G _ _ _ s _ S R => by
  obtain ⟨vs, hv, hq, hr⟩ := S.ev.vars i x _ hx hs
  have hsp : ∃ us w, vs = us ++ [w] ∧ Reps F.X.C (vis (M ++ Hc) s.heap) xs us ∧ Rep F.X.C (vis (M ++ Hc) s.heap) (.seq t ds) w := by
    have h1 := hr.reverse
    rw [List.reverse_append] at h1
    obtain ⟨w, us, e, rw_, ru⟩ := h1.consI
    refine ⟨us.reverse, w, ?_, ?_, rw_⟩
    · have := congrArg List.reverse e
      rw [List.reverse_reverse, List.reverse_cons] at this
      exact this
    · have ru' : Reps F.X.C (vis (M ++ Hc) s.heap) xs.reverse us := ru
      have := ru'.reverse
      rwa [List.reverse_reverse] at this
  obtain ⟨us, w, rfl, ru, rw_⟩ := hsp
  refine wpAny_Assign_stores (call_meth (fun _ _ _ => rfl) hap rfl (by decide) (ld_name S.ev hx hv fun pl => ?_)) rfl (hw' _)
  obtain ⟨ob, n, e1, e2, e3, e4, _⟩ := id hq
  refine getMethod_builtin hq.typeIs PySem.F.plainAttrs_list PySem.F.slot_list_pop PySem.F.type_list_pop (fun a e => by cases e; exact ⟨ob, gt_get e1, e3⟩) ?_
  refine callWith_builtin rfl (evalArgs_nil3 ?_)
  refine pop_plain hq.plx (by rw [ru.length]; exact h2) fun h' hp same => ?_
  have S₁ := S.upd (vs' := us) (t := s.toks) hs hq hp same ru (Nat.le_refl _)
  have hvis : vis (M ++ Hc) h' = vis (M ++ Hc) s.heap := vis_same same (List.mem_append_left _ (S.ow i _ hs).1)
  exact assign_names (kk := kk) ok S₁ R hl h1 (by show Rep F.X.C (vis (M ++ Hc) h') _ _; rw [hvis]; exact rw_) fun s' S' _ => ⟨rfl, M, G, S'⟩
end
end Mine
end

section
open PySem PySem.Calls PyProof.Rows
set_option Elab.async false
set_option maxRecDepth 100000
namespace Mine
section
variable {F : Fx} {Hc M : List Addr} {G : Nat → Addr} {env : Env} {σ : List Sl} {B : Gt} {s₀ s : Shared} {A : Around}

/-! while: n turns at most -/
inductive WhR (F : Fx) (t : Expr) (b : List Stmt) : Nat → List Sl → Out → List Sl → Prop
  | stop {n : Nat} {σ : List Sl} : TsS F σ t false → WhR F t b (n + 1) σ .nx σ
  | go {n : Nat} {σ σ₁ : List Sl} {o : Out} {σ' : List Sl} : TsS F σ t true → ExSs F σ b .nx σ₁ → WhR F t b n σ₁ o σ' → WhR F t b (n + 1) σ o σ'
  | ct {n : Nat} {σ σ₁ : List Sl} {o : Out} {σ' : List Sl} : TsS F σ t true → ExSs F σ b .ct σ₁ → WhR F t b n σ₁ o σ' → WhR F t b (n + 1) σ o σ'
  | bk {n : Nat} {σ σ' : List Sl} : TsS F σ t true → ExSs F σ b .bk σ' → WhR F t b (n + 1) σ .nx σ'
  | rt {n : Nat} {σ : List Sl} {d : D} {σ' : List Sl} : TsS F σ t true → ExSs F σ b (.rt d) σ' → WhR F t b (n + 1) σ (.rt d) σ'
theorem ex_while {t b p o σ'} (n : Nat) (h : WhR F t b n σ o σ') : ExS F σ (.While t b [] p) o σ' := fun Hc M G env B s₀ s A S R => by
  refine wpAny_While ?_
  refine codeAny_whileLoop (fun j s => ∃ M G σ₁, StP F Hc M G env σ₁ B s₀ s ∧ WhR F t b j σ₁ o σ') (fun j s hI => ?_) n ⟨M, G, σ, S, h⟩
  obtain ⟨M, G, σ₁, S, h⟩ := hI
  cases h with
  | stop ht => exact wpAny_mono (ht.run S R fun s' _ S' => by simp only [Bool.false_eq_true, if_false]; exact wpAny_execs_nil ⟨rfl, M, G, S'⟩) (fun _ _ q => q) fun _ _ e => e.elim
  | go ht hb h' => exact wpAny_mono (ht.run S R fun s' _ S' => by
      simp only [if_true]
      exact wpAny_mono (hb _ _ _ _ _ _ _ _ S' R) (fun f s₂ h₂ => by obtain ⟨rfl, M₂, G₂, S₂⟩ := h₂; exact ⟨_, Nat.lt_succ_self _, M₂, G₂, _, S₂, h'⟩) fun _ _ e => e.elim) (fun _ _ q => q) fun _ _ e => e.elim
  | ct ht hb h' => exact wpAny_mono (ht.run S R fun s' _ S' => by
      simp only [if_true]
      exact wpAny_mono (hb _ _ _ _ _ _ _ _ S' R) (fun f s₂ h₂ => by obtain ⟨rfl, M₂, G₂, S₂⟩ := h₂; exact ⟨_, Nat.lt_succ_self _, M₂, G₂, _, S₂, h'⟩) fun _ _ e => e.elim) (fun _ _ q => q) fun _ _ e => e.elim
  | bk ht hb => exact wpAny_mono (ht.run S R fun s' _ S' => by
      simp only [if_true]
      exact wpAny_mono (hb _ _ _ _ _ _ _ _ S' R) (fun f s₂ h₂ => by obtain ⟨rfl, M₂, G₂, S₂⟩ := h₂; exact ⟨rfl, M₂, G₂, S₂⟩) fun _ _ e => e.elim) (fun _ _ q => q) fun _ _ e => e.elim
  | rt ht hb => exact wpAny_mono (ht.run S R fun s' _ S' => by
      simp only [if_true]
      exact wpAny_mono (hb _ _ _ _ _ _ _ _ S' R) (fun f s₂ h₂ => by obtain ⟨v, rfl, h₂⟩ := h₂; exact ⟨v, rfl, h₂⟩) fun _ _ e => e.elim) (fun _ _ q => q) fun _ _ e => e.elim

/-- the hidden object is given up -/
theorem StP.drop {I : Addr} {h' : Heap} {t : Nat} (S : StP F (I :: Hc) M G env σ B s₀ s) (hM : I ∉ M) (hH : I ∉ Hc) (ti : TI h') (hk : ∀ b o, b ≠ I → (gt s.heap) b = some o → (gt h') b = some o)
    (hB : B I = none) (h0 : F.X.h0.get? I = none) (hc : ∀ x c, env.cells.lookup x = some c → c ≠ I) (ht : 1 ≤ t) : StP F Hc M G env σ B s₀ { s with heap := h', toks := t } := by
  have v : Le (vis (M ++ I :: Hc) s.heap) (vis (M ++ Hc) h') := fun b o e => by
    obtain ⟨e1, e2⟩ := vis_get e
    refine vis_of (hk b o (fun q => e2 (by simp [q])) e1) fun q => e2 ?_
    rcases List.mem_append.mp q with q | q
    · exact List.mem_append_left _ q
    · exact List.mem_append_right _ (.tail _ q)
  have hL : env.locals ≠ I := fun q => hM (q ▸ S.lm)
  have va : ∀ y u, VarAt env s.heap y u → VarAt env h' y u := fun y u hu => by
    rcases hu with ⟨h1, m₂, h2, h3⟩ | ⟨h1, c, h2, h3⟩
    · exact .inl ⟨h1, m₂, h2.at' (fun o e => hk _ o hL e), h3⟩
    · exact .inr ⟨h1, c, h2, h3.at' fun o e => hk c o (hc y c h2) e⟩
  refine ⟨⟨S.ev.kind, S.ev.glb, S.ev.blt, S.ev.gk, S.ev.ck, fun j y s1 hj he => (S.ev.vars j y s1 hj he).up (va y) (fun xs vs e q => ?_) v, S.ev.nms, ⟨ti, fun b hb => ?_⟩, fun b o e => hk b o (fun q => by rw [q, h0] at e; cases e) (S.ev.w0 b o e), ht, S.ev.W, S.ev.clo⟩,
    let ⟨m, h⟩ := S.ns; ⟨m, h.at' fun o e => hk _ o hL e⟩, S.lm, S.ll, fun x c h => ?_, S.ci, fun i xs h => let ⟨h1, h2, h3⟩ := S.ow i xs h; ⟨h1, fun q => h2 (.tail _ q), h3⟩, S.oi, S.nd, S.mf, fun b o e => ?_, by obtain ⟨h, t', d, rfl⟩ := S.sh; exact ⟨h', t, d, rfl⟩⟩
  · subst e
    obtain ⟨o, n, e, r⟩ := q
    exact ⟨o, n, hk _ o (fun q => hM (q ▸ (S.ow j xs he).1)) e, r⟩
  · have hne : b ≠ I := fun q => by
      rcases List.mem_append.mp (q ▸ hb) with z | z
      · exact hM z
      · exact hH z
    have hb' : b ∈ M ++ I :: Hc := by
      rcases List.mem_append.mp hb with q | q
      · exact List.mem_append_left _ q
      · exact List.mem_append_right _ (.tail _ q)
    obtain ⟨o, e⟩ := S.ev.hb.al b hb'; exact ⟨o, hk b o hne e⟩
  · obtain ⟨⟨u, e⟩, h2⟩ := S.cm x c h
    exact ⟨⟨u, e.at' fun o q => hk c o (hc x c h) q⟩, h2⟩
  · obtain ⟨e1, e2⟩ := vis_get (S.kp b o e)
    exact vis_of (hk b o (fun q => by rw [q, hB] at e; cases e) e1) e2


/-- a target takes an item -/
noncomputable def BindR (F : Fx) (tgt : Expr) (σ : List Sl) (d : D) (σ₂ : List Sl) : Prop := ∀ {Hc M G env B s₀ s v A} {Q : Unit → Shared → Prop}, StP F Hc M G env σ B s₀ s → Rm F.k A → Rep F.X.C (vis (M ++ Hc) s.heap) d v →
    (∀ s', StP F Hc M G env σ₂ B s₀ s' → Le (vis M s.heap) (vis M s'.heap) → Q () s') → wpAny (Md F.X) A (assign tgt env v) Q E0 s
theorem bd_name {i : Nat} {x p d} (hx : F.nm[i]? = some x) (hst : storable F.sc x = true := by rfl) : BindR F (.Name x p) σ d (σ.set i (.fr d)) := fun S _ r h =>
  wpAny_assign_Name (S.store2 hx (storable_spec hst) (.inl ⟨d, rfl, r⟩) (fun _ _ => rfl) h)
theorem bd_tup {xs ts kk p t ds} (ok : TgS F xs ts) (hl : ds.length = xs.length) (hs : ds.length ≤ strLid := by exact Nat.le_of_ble_eq_true rfl) : BindR F (.Tuple ts kk p) σ (.seq t ds) (setAll σ xs ds) := fun S R r h =>
  assign_names (kk := kk) ok S R hl hs r h
inductive ForR (F : Fx) (tgt : Expr) (b : List Stmt) : List D → List Sl → Out → List Sl → Prop
  | nil {σ : List Sl} : ForR F tgt b [] σ .nx σ
  | go {d : D} {ds : List D} {σ σ₂ σ₃ : List Sl} {o : Out} {σ' : List Sl} : BindR F tgt σ d σ₂ → ExSs F σ₂ b .nx σ₃ → ForR F tgt b ds σ₃ o σ' → ForR F tgt b (d :: ds) σ o σ'
  | ct {d : D} {ds : List D} {σ σ₂ σ₃ : List Sl} {o : Out} {σ' : List Sl} : BindR F tgt σ d σ₂ → ExSs F σ₂ b .ct σ₃ → ForR F tgt b ds σ₃ o σ' → ForR F tgt b (d :: ds) σ o σ'
  | bk {d : D} {ds : List D} {σ σ₂ σ' : List Sl} : BindR F tgt σ d σ₂ → ExSs F σ₂ b .bk σ' → ForR F tgt b (d :: ds) σ .nx σ'
  | rt {d : D} {ds : List D} {σ σ₂ : List Sl} {r : D} {σ' : List Sl} : BindR F tgt σ d σ₂ → ExSs F σ₂ b (.rt r) σ' → ForR F tgt b (d :: ds) σ (.rt r) σ'
theorem forR_step {tgt : Expr} {b : List Stmt} {d : D} {ds : List D} {σ σ' : List Sl} {o : Out} (h : ForR F tgt b (d :: ds) σ o σ') : ∃ σ₂ o₁ σ₃, BindR F tgt σ d σ₂ ∧ ExSs F σ₂ b o₁ σ₃ ∧ match o₁ with
    | .nx => ForR F tgt b ds σ₃ o σ' | .ct => ForR F tgt b ds σ₃ o σ' | .bk => o = .nx ∧ σ' = σ₃ | .rt r => o = .rt r ∧ σ' = σ₃ := by
  cases h with
  | go a b c => exact ⟨_, _, _, a, b, c⟩
  | ct a b c => exact ⟨_, _, _, a, b, c⟩
  | bk a b => exact ⟨_, _, _, a, b, rfl, rfl⟩
  | rt a b => exact ⟨_, _, _, a, b, rfl, rfl⟩
theorem for_loop {target : Expr} {bs : List Stmt} {I : Addr} {s₁ s₂ : Shared} {items : List D} {fp : List Addr} {P : Nat → Value → Prop} {St : Nat → Heap → Prop} {o : Out} {σ' : List Sl}
    (S : StP F Hc M G env σ B s₀ s₁) (Z : Src F.X (M ++ Hc) A s₁ s₂ I items fp P St) (R : Rm F.k A) (ev : ForR F target bs items σ o σ') :
    codeAny (Md F.X) A (.forLoop target (.ref I) bs [] env) (fun r s' => match r with | .ok f => Fi F Hc env B s₀ o σ' f s' | .error e => cameBackBy (Md F.X) A env E0 e s') s₂ := by
  obtain ⟨_, u2, u3, u4, u5⟩ := S.unB Z.new
  have hIfp : I ∈ fp := Z.W.sub I (.head _)
  let B₁ : Gt := vis M s₁.heap
  have hB₁ : B₁ I = none := by
    show vis M s₁.heap I = none
    cases e : vis M s₁.heap I with
    | none => rfl
    | some o => have := (vis_get e).1; rw [Z.new] at this; cases this
  have lo : Le B B₁ := S.kp
  have hlv : ∀ i h, St i h → ∃ o, (gt h) I = some o := fun i h st => Z.gtI st
  have Sst : StP F (I :: Hc) M G env σ B₁ s₀ s₂ := S.rebase.hide Z.new Z.k Z.tk (hlv _ _ Z.st)
  have fp0 : ∀ b ∈ fp, b ∉ M ∧ ∃ o, (gt s₂.heap) b = some o := fun b hbm => by
    rcases Z.fpo b hbm with rfl | ⟨h1, o, h2⟩
    · exact ⟨u3, hlv _ _ Z.st⟩
    · exact ⟨fun q => h1 (List.mem_append_left _ q), o, kle Z.k _ _ h2⟩
  refine codeAny_forLoop_any (fun n s => ∃ i M' G' σ₁, i ≤ items.length ∧ n = items.length - i ∧ StP F (I :: Hc) M' G' env σ₁ B₁ s₀ s ∧ St i s.heap ∧ (∀ b ∈ fp, b ∉ M' ∧ ∃ o, (gt s.heap) b = some o) ∧
    ForR F target bs (items.drop i) σ₁ o σ') (fun n s hI => ?_) items.length ⟨0, M, G, σ, Nat.zero_le _, by omega, Sst, Z.st, fp0, by rw [List.drop_zero]; exact ev⟩
  obtain ⟨i, M', G', σ₁, hi, rfl, S', st, hfp, ev'⟩ := hI
  have hIM : I ∉ M' := (hfp I hIfp).1
  by_cases hlt : i < items.length
  · let Q1 : Option Value → Shared → Prop := fun r s'' => ∃ v h2 tk2, r = some v ∧ s'' = { s with heap := h2, toks := tk2 } ∧ P i v ∧ St (i + 1) h2 ∧ (∀ b o, b ∉ [I] → s.heap.get? b = some o → h2.get? b = some o)
    have hW : wpAny (Md F.X) A (pyNext (.ref I)) Q1 E0 s := Z.W.item i s Q1 E0 hlt st fun v h2 tk2 hP hst hk => ⟨v, h2, tk2, rfl, rfl, hP, hst, hk⟩
    refine wpAny_mono (wpAny_toks hW) (fun r s'' h'' => ?_) fun _ _ q => q.2.elim
    obtain ⟨tk', v, h2, tk2, rfl, rfl, hP, hst, hk⟩ := h''
    dsimp only at tk' ⊢
    have hkr : ∀ b o, b ≠ I → s.heap.get? b = some o → h2.get? b = some o := fun b o q e => hk b o (by simpa using q) e
    have hk' : ∀ b o, b ≠ I → (gt s.heap) b = some o → (gt h2) b = some o := fun b o q e => gt_of (hkr b o q (gt_get e)) (gt_tb e)
    have ti2 : TI h2 := S'.ev.hb.ti.but hkr (Z.ng _ _ st).nc
    have S₃ : StP F (I :: Hc) M' G' env σ₁ B₁ s₀ { s with heap := h2, toks := tk2 } := S'.other hIM ti2 hk' (hlv _ _ hst) hB₁ u2 u5 (Nat.le_trans S'.ev.tk tk')
    refine let_go (Z.ng _ _ hst) ?_
    obtain ⟨d, hd, rd⟩ := Z.it i v hlt hP
    obtain ⟨hl, hdx⟩ := List.getElem?_eq_some_iff.mp hd
    rw [List.drop_eq_getElem_cons hl, hdx] at ev'
    have rd' : Rep F.X.C (vis (M' ++ I :: Hc) h2) d v := by
      refine rd.mono fun b o e => ?_
      obtain ⟨a1, a2⟩ := vis_get e
      have a3 := S₃.kp b o (vis_of a1 fun q => a2 (List.mem_append_left _ q))
      obtain ⟨a4, a5⟩ := vis_get a3
      refine vis_of a4 fun q => ?_
      rcases List.mem_append.mp q with q | q
      · exact a5 q
      · rcases List.mem_cons.mp q with q | q
        · rw [q, Z.new] at a1; cases a1
        · exact a2 (List.mem_append_right _ q)
    obtain ⟨σ₂, o₁, σ₃, eb, ebody, e2⟩ := forR_step ev'
    refine wpAny_mono (eb S₃.rebase R rd' fun s₄ S₄ _ => ?_) (fun _ s₄ h => h) fun _ _ e => e.elim
    refine wpAny_mono (ebody _ _ _ _ _ _ _ _ S₄ R) (fun f s₅ h₅ => ?_) fun _ _ e => e.elim
    have lo3 : Le B₁ (vis M' h2) := S₃.kp
    cases o₁ with
    | rt dd =>
      obtain ⟨w, rfl, r5, M₅, G₅, S₅⟩ := h₅
      obtain ⟨rfl, rfl⟩ := e2
      exact ⟨w, rfl, r5.mono (vis_sub _ fun a q => .tail _ q), M₅, G₅, (S₅.base (lo.trans lo3)).unhide⟩
    | bk =>
      obtain ⟨rfl, M₅, G₅, S₅⟩ := h₅
      obtain ⟨rfl, rfl⟩ := e2
      exact ⟨rfl, M₅, G₅, (S₅.base (lo.trans lo3)).unhide⟩
    | nx =>
      obtain ⟨rfl, M₅, G₅, S₅⟩ := h₅
      have keep : ∀ b ∈ fp, b ∉ M₅ ∧ ∀ o, (gt h2) b = some o → (gt s₅.heap) b = some o := fun b hbm => by
        obtain ⟨q1, ob, q2⟩ := hfp b hbm
        have q3 : ∃ o, (gt h2) b = some o := by
          by_cases q : b = I
          · rw [q]; exact hlv _ _ hst
          · exact ⟨ob, hk' b ob q q2⟩
        obtain ⟨o2, q3⟩ := q3
        obtain ⟨a, c⟩ := vis_get (S₅.kp b o2 (vis_of q3 q1))
        exact ⟨c, fun o e => by rw [q3] at e; cases e; exact a⟩
      refine ⟨items.length - (i + 1), by omega, i + 1, M₅, G₅, σ₃, hlt, rfl, S₅.base lo3, Z.frame hst fun b hbm o e => (keep b hbm).2 o e, fun b hbm => ⟨(keep b hbm).1, ?_⟩, e2⟩
      obtain ⟨q1, ob, q2⟩ := hfp b hbm
      by_cases q : b = I
      · obtain ⟨o, e⟩ := hlv _ _ hst; rw [q]; exact ⟨o, (keep I hIfp).2 o e⟩
      · exact ⟨ob, (keep b hbm).2 ob (hk' b ob q q2)⟩
    | ct =>
      obtain ⟨rfl, M₅, G₅, S₅⟩ := h₅
      have keep : ∀ b ∈ fp, b ∉ M₅ ∧ ∀ o, (gt h2) b = some o → (gt s₅.heap) b = some o := fun b hbm => by
        obtain ⟨q1, ob, q2⟩ := hfp b hbm
        have q3 : ∃ o, (gt h2) b = some o := by
          by_cases q : b = I
          · rw [q]; exact hlv _ _ hst
          · exact ⟨ob, hk' b ob q q2⟩
        obtain ⟨o2, q3⟩ := q3
        obtain ⟨a, c⟩ := vis_get (S₅.kp b o2 (vis_of q3 q1))
        exact ⟨c, fun o e => by rw [q3] at e; cases e; exact a⟩
      refine ⟨items.length - (i + 1), by omega, i + 1, M₅, G₅, σ₃, hlt, rfl, S₅.base lo3, Z.frame hst fun b hbm o e => (keep b hbm).2 o e, fun b hbm => ⟨(keep b hbm).1, ?_⟩, e2⟩
      obtain ⟨q1, ob, q2⟩ := hfp b hbm
      by_cases q : b = I
      · obtain ⟨o, e⟩ := hlv _ _ hst; rw [q]; exact ⟨o, (keep I hIfp).2 o e⟩
      · exact ⟨ob, (keep b hbm).2 ob (hk' b ob q q2)⟩
  · have : i = items.length := by omega
    subst this
    let Q1 : Option Value → Shared → Prop := fun r s'' => ∃ h2 tk2, r = none ∧ s'' = { s with heap := h2, toks := tk2 } ∧ (∀ b o, b ∉ [I] → s.heap.get? b = some o → h2.get? b = some o)
    have hW : wpAny (Md F.X) A (pyNext (.ref I)) Q1 E0 s := Z.W.done s Q1 E0 st fun h2 tk2 hk2 => ⟨h2, tk2, rfl, rfl, hk2⟩
    refine wpAny_mono (wpAny_toks hW) (fun r s'' h'' => ?_) fun _ _ q => q.2.elim
    obtain ⟨tk', h2, tk2, rfl, rfl, hk2⟩ := h''
    dsimp only at tk' ⊢
    rw [List.drop_length] at ev'
    cases ev'
    exact wpAny_execs_nil ⟨rfl, M', G', (S'.drop hIM u4 (S'.ev.hb.ti.but (fun b o q e => hk2 b o (by simpa using q) e) (Z.ng _ _ st).nc) (fun b o q e => gt_of (hk2 b o (by simpa using q) (gt_get e)) (gt_tb e)) hB₁ u2 u5 (Nat.le_trans S'.ev.tk tk')).base lo⟩


theorem ex_for {t it b p items o σ'} (hs : SrcS F σ it items) (h : ForR F t b items σ o σ') : ExS F σ (.For t it b [] p) o σ' := fun Hc M G env B s₀ s A S R => by
  refine wpAny_For (wpAny_mono (hs.2 _ _ _ _ _ S.ev R) (fun xv s₁ h₁ => wpAny_mono h₁ (fun iv s₂ h₂ => ?_) fun _ _ e => e) fun _ _ e => e) (hs.1 env)
  obtain ⟨s₁, I, fp, P, St, rfl, ⟨k₁, t₁⟩, Z⟩ := h₂
  exact for_loop (S.mono k₁ t₁) Z R h
end
end Mine
end

section
open PySem PySem.Calls PyProof.Rows
set_option Elab.async false
set_option maxRecDepth 100000
namespace Mine
theorem intsAre_reps {C : Addr} {g : Gt} : ∀ {ns : List Int} {vs : List Value}, Reps C g (ns.map .int) vs → IntsAre vs ns
  | [], _, h => h.nilI ▸ .nil
  | n :: ns, _, h => by
    obtain ⟨v, r, rfl, a, b⟩ := h.consI
    obtain ⟨t, rfl⟩ := a.intI
    exact .cons n t (intsAre_reps b)
theorem cIn {a : Int} {ns : List Int} : CmpR .In (.int a) (.seq false (ns.map .int)) (ns.any (· == a)) := by
  intro prog w C A s va vb Q ha hb hu q
  obtain ⟨t, rfl⟩ := ha.intI
  obtain ⟨l, vs, rfl, hs, hr⟩ := hb.seqI
  exact in_list_ints hs.list (intsAre_reps hr) q
section
variable {F : Fx} {Hc M : List Addr} {G : Nat → Addr} {env : Env} {σ : List Sl} {B : Gt} {s₀ s : Shared} {A : Around}
theorem ts_orF {x y p c} (hx : TsS F σ x false) (hy : TsS F σ y c) : TsS F σ (.BoolOp .Or [x, y] p) c := fun _ _ _ _ _ S R =>
  wpAny_isTrue_BoolOp (wpAny_allTrue_Or_cons (hx.go S R fun _ g S₁ => wpAny_allTrue_Or_cons (hy.go S₁ R fun _ g₂ _ => by
    cases c with
    | true => exact ⟨(g.tr g₂).1, rfl⟩
    | false => exact wpAny_allTrue_Or_nil ⟨(g.tr g₂).1, rfl⟩)))
theorem ts_orT {x y p} (hx : TsS F σ x true) : TsS F σ (.BoolOp .Or [x, y] p) true := fun _ _ _ _ _ S R =>
  wpAny_isTrue_BoolOp (wpAny_allTrue_Or_cons (hx.go S R fun _ g _ => ⟨g.1, rfl⟩))
theorem kind_fn {H : List Addr} (S : EvSt F H G env σ s) : env.blockKind = .function := by unfold Env.blockKind; rw [S.kind]; rfl
noncomputable def onLine (id : Str) (q1 : Pos) (q : Pos) (scope : Scope) : Bool := (q.line == q1.line) && !(scope.names.any fun (n, k) => n == id && (k == .local || k == .cell))
theorem ex_asgC {i x : Nat} {id q caps l it n p1 q1 fs scope p items out} (O : ScOk F caps x n scope) (hs : SrcS F σ it items) (cr : CompR (F.inn scope.names) (fun d => captGo caps x d 0 σ) l fs items out)
    (hi : F.nm[i]? = some id) (hl : F.sc.lookup id = some .local) (ho : onLine id q1 q scope = true := by rfl) :
    ExS F σ (.Assign [.Name id q] (.ListComp l [⟨.Name n p1, it, fs, 0⟩] scope q1) p) .nx (σ.set i (.fr (.seq false out))) := fun Hc M G env B s₀ s A S R => by
  have hsw : swapsWith (.ListComp l [⟨.Name n p1, it, fs, 0⟩] scope q1) (some (.Name id q)) p.line env = pure true := by
    unfold onLine at ho
    simp only [Bool.and_eq_true, beq_iff_eq] at ho
    show (return env.blockKind == .function && env.kindOf id == some .local && q.line == q1.line && !(scope.names.any fun (n, k) => n == id && (k == .local || k == .cell)) : Sem Bool) = pure true
    rw [kind_fn S.ev, S.ll id hl, ho.1, ho.2]
    simp
  rw [exec_Assign_Name_used _ _ _ _ hsw]
  refine wpAny_bind (wpAny_standAt (wpAny_bind ?_))
  show wpAny _ A (do let _ ← comprehension (.ListComp l [⟨.Name n p1, it, fs, 0⟩] scope q1) scope env _ (newList []) false (eval it env) (some (assign (.Name id q) env))) _ _ s
  refine wpAny_bind (wpAny_mono (comp_core (Q := fun _ s' => Fi F Hc env B s₀ .nx (σ.set i (.fr (.seq false out))) .next s') O S.ev R hs cr fun C Dd h2 t2 dr m' hC hns kp tk hr => ?_)
    (fun _ s' hq => wpAny_pure (wpAny_pure hq)) fun _ _ e => e)
  obtain ⟨u1, u2, u3, u4, u5⟩ := S.unB hC
  have hCa : ∃ ob, (gt h2) C = some ob := hns.al
  have S' := S.hide hC kp tk hCa
  have hp : ∀ a, a ∈ C :: (M ++ Hc) ↔ a ∈ M ++ C :: Hc := fun a => by simp only [List.mem_append, List.mem_cons]; rw [or_left_comm]
  refine wpAny_assign_Name (S'.store2 (sl := .fr (.seq false out)) hi (.inl hl) (.inl ⟨_, rfl, ?_⟩) (fun _ _ => rfl) fun s'' S'' k'' => ?_)
  · rw [← vis_perm _ hp]; exact hr
  · have hns2 : NsV s''.heap C m' := hns.at' fun ob e => (vis_get (k'' C ob (vis_of e u3))).1
    refine ⟨m', hns2.1, fun h' hs' => ⟨rfl, M, G, ?_⟩⟩
    exact S''.drop u3 u4 (S''.ev.hb.ti.same hs' hns2.nc) (fun b ob q e => gt_of ((hs'.2 b q).trans (gt_get e)) (gt_tb e)) u1 u2 u5 S''.ev.tk

/-- a display of a tuple whose first is a new list -/
theorem tup_eval {vs : List Expr} {kk : Nat} {p pl : Pos} {ds : List D} {Q : Value → Shared → Prop} (ie : EvSs F σ vs ds) (hlen : ds.length ≤ 100)
    (S : StP F Hc M G env σ B s₀ s) (R : Rm F.k A)
    (h : ∀ T us s₁, StP F (s.heap.objs.size :: Hc) M G env σ B s₀ s₁ → s₁.heap.IsTuple T (Value.ref s.heap.objs.size :: us).toArray → IsSq (gt s₁.heap) false s.heap.objs.size [] → Reps F.X.C (vis (M ++ s.heap.objs.size :: Hc) s₁.heap) ds us → Q (.ref T) s₁) :
    wpAny (Md F.X) A (eval (.Tuple (.List [] pl :: vs) kk p) env) Q E0 s := by
  have S₁ := S.fresh
  obtain ⟨hb, hw⟩ := ie _ _ _ _ _ S₁.ev R
  refine wpAny_Tuple ?_
  have hbt : backTo p (starEach (.List [] pl :: vs) env) = (false, eval (.List [] pl) env) :: vs.map fun a => (false, eval a env) := by
    show (false, eval (.List [] pl) env) :: backTo p (starEach vs env) = _
    rw [hb]
  rw [hbt]
  refine spliced_cons (eval_nil (nx hw fun us s₂ g₂ rs => ?_))
  have S₂ := S₁.mono g₂.1 g₂.2
  have S₃ := S₂.mono (Kp.of (t := s₂.toks) (rw_push s₂.heap { cls := .type "tuple", data := .seq (Value.ref s.heap.objs.size :: us).toArray })) (Nat.le_refl _)
  refine ⟨?_, h _ us _ S₃ ⟨_, Heap.get?_push_size _ rfl, rfl, _, rfl⟩ ?_ (rs.mono (vis_push _ _))⟩
  · have : us.length = ds.length := rs.length
    simp only [List.length_cons]
    have : (101 : Nat) ≤ sizeLine := by decide
    omega
  · exact ((isSq_push S.ev.hb.ti false []).mono (kle g₂.1)).mono (le_push _ _)

theorem ext_keeps {s : Shared} {h' : Heap} (e : Heap.ExtBut s.heap.objs.size s.heap h') : Kp s { s with heap := h' } :=
  ⟨h', s.toks, _, rfl, Rw.raw fun b o q => e b o (Nat.ne_of_lt (Heap.lt_size q)) q⟩

theorem swapped_two {id jj : Str} {q q2 pl p1 p2 : Pos} {k1 k2 : Nat} {yv : Expr} (hk : env.blockKind = .function) (h1 : env.kindOf id = some .local) (h2 : env.kindOf jj = some .local) (hline : q.line = q2.line) (hne : (id == jj) = false) (hany : ([.List [] pl, yv] : List Expr).any (fun | .Starred .. => true | _ => false) = false) :
    swappedStores [Expr.Tuple [.Name id q, .Name jj q2] k1 p1] (.Tuple [.List [] pl, yv] k2 p2) env = pure (some [id, jj]) := by
  have hall1 : ([.List [] pl, yv] : List Expr).all (foldedForSure 8) = false := rfl
  have hall2 : ([.List [] pl, yv] : List Expr).all (constantsAlone 8) = false := rfl
  have hf : ([.Name id q, .Name jj q2] : List Expr).filterMap (fun | .Name id pos => if env.kindOf id == some .local && pos.line == q.line then some id else none | _ => none) = [id, jj] := by
    simp [h1, h2, hline]
  have hne' : (jj == id) = false := by
    cases h : jj == id with
    | false => rfl
    | true =>
      have e : jj = id := by simpa using h
      rw [e] at hne; simp at hne
  have hee : ([id, jj] : List Str).eraseDups = [id, jj] := by simp [List.eraseDups_cons, hne']
  have hb : (!(([.Name id q, .Name jj q2] : List Expr).length == 2 || ([.Name id q, .Name jj q2] : List Expr).length == 3) || ([.List [] pl, yv] : List Expr).length != ([.Name id q, .Name jj q2] : List Expr).length || env.blockKind != .function) = false := by
    rw [hk]; rfl
  unfold swappedStores
  show (if (!(([.Name id q, .Name jj q2] : List Expr).length == 2 || ([.Name id q, .Name jj q2] : List Expr).length == 3) || ([.List [] pl, yv] : List Expr).length != ([.Name id q, .Name jj q2] : List Expr).length || env.blockKind != .function) = true then (pure none : Sem (Option (List Str))) else _) = _
  rw [hb, if_neg (by decide)]
  refine (if_neg (fun h => Bool.false_ne_true (hany.symm.trans h))).trans ?_
  show (if ((([.Name id q, .Name jj q2] : List Expr).filterMap (fun | .Name id pos => if env.kindOf id == some .local && pos.line == q.line then some id else none | _ => none)).length != 2 ||
      (([.Name id q, .Name jj q2] : List Expr).filterMap (fun | .Name id pos => if env.kindOf id == some .local && pos.line == q.line then some id else none | _ => none)).eraseDups.length != (([.Name id q, .Name jj q2] : List Expr).filterMap (fun | .Name id pos => if env.kindOf id == some .local && pos.line == q.line then some id else none | _ => none)).length) = true then (pure none : Sem (Option (List Str)))
    else pure (some (([.Name id q, .Name jj q2] : List Expr).filterMap (fun | .Name id pos => if env.kindOf id == some .local && pos.line == q.line then some id else none | _ => none)))) = _
  rw [hf, hee]
  rfl


/-- four targets or more, the first a new list of its own -/
theorem ex_tupO {i : Nat} {x q ts ys kk p pl vs k2 p2 r ds} (hx : F.nm[i]? = some x) (ok : TgS F ys ts) (ie : EvSs F σ vs ds) (hdl : ds.length = ys.length) (hlen : ds.length ≤ 100 := by exact Nat.le_of_ble_eq_true rfl) (hst : storable F.sc x = true := by rfl)
    (hnone : ∀ env, swappedStores [Expr.Tuple (.Name x q :: ts) kk p] (.Tuple (.List [] pl :: vs) k2 p2) env = pure none := by exact fun _ => rfl) :
    ExS F σ (.Assign [.Tuple (.Name x q :: ts) kk p] (.Tuple (.List [] pl :: vs) k2 p2) r) .nx (setAll (σ.set i (.ow [])) ys ds) := fun Hc M G env B s₀ s A S R => by
  obtain ⟨u1, u2, u3, u4, u5⟩ := S.unB (get_size s.heap)
  have hp : ∀ a, a ∈ M ++ s.heap.objs.size :: Hc ↔ a ∈ s.heap.objs.size :: M ++ Hc := fun a => by simp only [List.mem_append, List.mem_cons]; rw [or_left_comm, or_assoc]
  refine wpAny_Assign_stores (tup_eval ie hlen S R fun T us s₁ S₁ hT hq hr => ?_) rfl (hnone env)
  have hul : us.length = ds.length := hr.length
  have heach : assignEach (.Name x q :: ts) env = (.Name x q :: ts).map fun t => (false, assign t env) := TgS.each (.cons hx hst ok)
  show wpAny _ A (assign (.Tuple (.Name x q :: ts) kk p) env (.ref T)) _ _ s₁
  refine wpAny_assign_Tuple R.hh hT ?_ ?_ fun h' he => ?_
  · rw [heach, List.length_map, List.size_toArray, List.length_cons, List.length_cons, hul, ok.len, hdl]
  · rw [heach, List.findIdx?_eq_none_iff]; intro z hz; obtain ⟨t, _, rfl⟩ := List.mem_map.mp hz; rfl
  · have hrw : Rw s₁.heap h' := Rw.raw fun b o q => he b o (Nat.ne_of_lt (Heap.lt_size q)) q
    have kp : Kp s₁ { s₁ with heap := h' } := ⟨h', s₁.toks, _, rfl, hrw⟩
    have S₂ := S₁.mono kp (Nat.le_refl _)
    rw [heach]
    show wpAny _ A (assignInOrder (assign (.Name x q) env :: (ts.map fun t => (false, assign t env)).map (·.2)) (.ref s.heap.objs.size :: us)) _ _ _
    refine wpAny_assignInOrder_more (wpAny_assign_Name (S₂.own (xs := []) u1 u2 u3 u4 hx hst (hq.mono (kle kp)) .mkN fun s₃ S₃ k₃ => ?_))
    have h3 : ((ts.map fun t => (false, assign t env)).map (·.2)) = ts.map fun t => assign t env := by rw [List.map_map]; rfl
    rw [h3]
    refine StP.stores ys _ us ds _ s₃ hdl.symm (by rw [List.length_map, ok.len]) ok.get S₃ ?_ fun s₄ S₄ _ => ⟨rfl, _, _, S₄⟩
    refine Reps.mono (vis_up k₃) ds us ?_
    rw [← vis_perm _ hp]
    exact hr.mono (vis_mono (kle kp))
/-- two names on one line, the first a new list: stored in the reverse order -/
theorem ex_tupS {i j : Nat} {x y q q2 kk p pl yv k2 p2 r d} (hx : F.nm[i]? = some x) (hy : F.nm[j]? = some y) (ie : EvS F σ yv d) (hli : F.sc.lookup x = some .local) (hlj : F.sc.lookup y = some .local) (hne : (x == y) = false) (hline : q.line = q2.line := by rfl)
    (hn : NoStar yv := by exact fun _ _ => rfl) (hany : ([.List [] pl, yv] : List Expr).any (fun | .Starred .. => true | _ => false) = false := by rfl) :
    ExS F σ (.Assign [.Tuple [.Name x q, .Name y q2] kk p] (.Tuple [.List [] pl, yv] k2 p2) r) .nx ((σ.set j (.fr d)).set i (.ow [])) := fun Hc M G env B s₀ s A S R => by
  obtain ⟨u1, u2, u3, u4, u5⟩ := S.unB (get_size s.heap)
  have hsome := swapped_two (k1 := kk) (k2 := k2) (p1 := p) (p2 := p2) (q := q) (q2 := q2) (pl := pl) (kind_fn S.ev) (S.ll _ hli) (S.ll _ hlj) hline hne hany
  rw [exec_Assign_arm]
  refine wpAny_bind (wpAny_standAt ?_)
  rw [show swapsWithSole [Expr.Tuple [.Name x q, .Name y q2] kk p] (.Tuple [.List [] pl, yv] k2 p2) r.line env = pure false from rfl]
  refine wpAny_bind (wpAny_pure ?_)
  rw [if_neg (by decide)]
  refine wpAny_bind (tup_eval (es_cons ie es_nil hn) (by simp) S R fun T us s₁ S₁ hT hq hr => ?_)
  rw [hsome]
  refine wpAny_bind (wpAny_pure ?_)
  show wpAny _ A (do rule "assign.swapped-stores"; let items ← unpackItems (.ref T) 2 none; assignInOrder [bindName env y, bindName env x] items.reverse; pure Flow.next) _ _ s₁
  refine wpAny_bind (wpAny_rule ?_)
  have hul : us.length = 1 := hr.length
  have hus : (Value.ref s.heap.objs.size :: us).toArray.size = 2 := by rw [List.size_toArray, List.length_cons, hul]
  have hup := wpAny_unpackItems_tuple (prog := F.X.prog) (w := F.X.w) (E := E0) (Q := fun items s' => wpAny (Md F.X) A (do assignInOrder [bindName env y, bindName env x] items.reverse; pure Flow.next) (fun f s' => Fi F Hc env B s₀ .nx ((σ.set j (.fr d)).set i (.ow [])) f s') E0 s') R.hh hT fun h' he => ?_
  · rw [hus] at hup
    exact wpAny_bind hup
  · have hrw : Rw s₁.heap h' := Rw.raw fun b o q => he b o (Nat.ne_of_lt (Heap.lt_size q)) q
    have kp : Kp s₁ { s₁ with heap := h' } := ⟨h', s₁.toks, _, rfl, hrw⟩
    have S₂ := S₁.mono kp (Nat.le_refl _)
    obtain ⟨u, rfl, ru⟩ := hr.one
    show wpAny _ A (do assignInOrder [bindName env y, bindName env x] [u, .ref s.heap.objs.size]; pure Flow.next) _ _ _
    refine wpAny_bind (wpAny_assignInOrder_more (wpAny_bindName (S₂.store2 hy (.inl hlj) (.inl ⟨d, rfl, ru.mono (vis_mono (kle kp))⟩) (fun _ _ => rfl) fun s₃ S₃ k₃ => ?_)))
    refine wpAny_assignInOrder_more (wpAny_bindName (S₃.own (xs := []) (vs := []) u1 u2 u3 u4 hx (by simp [storable, hli]) ?_ .mkN fun s₄ S₄ k₄ => wpAny_assignInOrder_none (wpAny_pure ⟨rfl, _, _, S₄⟩)))
    obtain ⟨ob, n, e, r⟩ := hq.mono (kle kp)
    exact ⟨ob, n, (vis_get (k₃ _ ob (vis_of e u3))).1, r⟩
end
end Mine
end

section
open PySem PySem.Calls PyProof.Rows
set_option Elab.async false
set_option maxRecDepth 100000
namespace Mine

structure FnAt0 (X : Cx) (a : Addr) (fd : FuncData) (body : List Stmt) : Prop where
  ob : ∃ o, X.h0.get? a = some o ∧ o.data = .func fd
  cd : X.h0.CodeRec fd.code fd.qualname
  gl : fd.globals = mainGlobals
  bl : fd.builtins = builtinsNs
  cl : fd.closure = []
  bd : fd.body = .stmts body
  co : fd.scope.isCoroutine = false
  gen : fd.scope.isGenerator = false
  kind : fd.scope.kind = .function
structure FnAt (X : Cx) (a : Addr) (fd : FuncData) (body : List Stmt) (ps : List Str) : Prop extends FnAt0 X a fd body where
  bind : ∀ vals : List Value, vals.length = ps.length → bindArgs fd ⟨vals, []⟩ = pure (ps.zip vals)
noncomputable def CtG (X : Cx) (k : Nat) (a : Addr) (ds : List D) (P : D → Prop) : Prop := ∀ A s H vals, Rm k A → Le X.h0.get? (gt s.heap) → HBd H s.heap → 1 ≤ s.toks → Reps X.C (vis H s.heap) ds vals →
  wpAny (Md X) A (call (.ref a) vals) (fun v s' => Kp s s' ∧ ∃ d, P d ∧ Rep X.C (vis H s'.heap) d v) E0 s

noncomputable def scopeOk (nm : List Str) (ps : List Str) (names : Sc) : Bool :=
  decide nm.Nodup && nm.all (fun x => !(x == ("__debug__" : Str)) && !(x == ("__classdict__" : Str))) && ps.all (fun x => storable names x)

theorem bindL_off (kindOf : Str → Option NameKind) (x : Str) : ∀ (bs : List (Str × Value)) (m : Str → Option Value), (∀ b ∈ bs, b.1 ≠ x) → bindL kindOf bs m x = m x
  | [], m, _ => rfl
  | (n, v) :: r, m, h => by
    have hn : n ≠ x := h (n, v) (.head _)
    unfold bindL
    rw [bindL_off kindOf x r _ fun b hb => h b (.tail _ hb)]
    split
    · exact if_neg (Ne.symm hn)
    · rfl
theorem bindC_off (kindOf : Str → Option NameKind) (x : Str) : ∀ (bs : List (Str × Value)) (m : Str → Option Value), (∀ b ∈ bs, b.1 ≠ x) → bindC kindOf bs m x = m x
  | [], m, _ => rfl
  | (n, v) :: r, m, h => by
    have hn : n ≠ x := h (n, v) (.head _)
    unfold bindC
    rw [bindC_off kindOf x r _ fun b hb => h b (.tail _ hb)]
    split
    · rfl
    · exact if_neg (Ne.symm hn)
theorem bind_get (kindOf : Str → Option NameKind) : ∀ (ps : List Str) (vals : List Value) (m cm : Str → Option Value) (i : Nat) (x : Str) (v : Value), ps.Nodup → ps[i]? = some x → vals[i]? = some v →
    (kindOf x = some .local → bindL kindOf (ps.zip vals) m x = some v) ∧ (kindOf x ≠ some .local → bindC kindOf (ps.zip vals) cm x = some v)
  | [], _, _, _, i, x, v, _, h, _ => by simp at h
  | p :: ps, [], _, _, i, x, v, _, _, h => by simp at h
  | p :: ps, w :: vals, m, cm, i, x, v, nd, h, h' => by
    obtain ⟨n1, n2⟩ := List.nodup_cons.mp nd
    rw [List.zip_cons_cons]
    cases i with
    | zero =>
      simp at h h'
      subst h; subst h'
      have off : ∀ b ∈ ps.zip vals, b.1 ≠ p := fun b hb q => n1 (q ▸ (List.of_mem_zip hb).1)
      constructor
      · intro hk
        unfold bindL
        rw [bindL_off _ _ _ _ off, if_pos hk, if_pos rfl]
      · intro hk
        unfold bindC
        rw [bindC_off _ _ _ _ off, if_neg hk, if_pos rfl]
    | succ i =>
      simp at h h'
      have := fun m cm => bind_get kindOf ps vals m cm i x v n2 h h'
      constructor
      · intro hk; unfold bindL; exact (this _ cm).1 hk
      · intro hk; unfold bindC; exact (this m _).2 hk

theorem cells_lookup (x : Str) : ∀ (names : Sc) (n : Nat) (acc : List (Str × Addr)), ((x, NameKind.cell) ∈ names ∨ ∃ c, acc.lookup x = some c) → ∃ c, (cellsFrom n names acc).lookup x = some c
  | [], n, acc, h => by
    rcases h with h | h
    · cases h
    · exact h
  | (y, kd) :: r, n, acc, h => by
    unfold cellsFrom
    by_cases hk : (kd == NameKind.cell) = true
    · rw [if_pos hk]
      apply cells_lookup x r
      by_cases hy : x = y
      · subst hy; exact .inr ⟨n, by simp [List.lookup_cons]⟩
      · rcases h with h | ⟨c, h⟩
        · rcases List.mem_cons.mp h with q | q
          · exact absurd (congrArg Prod.fst q) hy
          · exact .inl q
        · have : (x == y) = false := by simpa using hy
          exact .inr ⟨c, by rw [List.lookup_cons, this]; exact h⟩
    · rw [if_neg hk]
      apply cells_lookup x r
      rcases h with h | h
      · rcases List.mem_cons.mp h with q | q
        · cases q; exact absurd rfl hk
        · exact .inl q
      · exact .inr h

section
variable {X : Cx} {F : Fx} {k : Nat} {fd : FuncData} {body : List Stmt} {ps rest : List Str} {ds : List D} {a : Addr}

theorem Rm.deep {A : Around} {env : Env} (R : Rm (k + 1) A) : Rm k (A.deeper env) := by
  obtain ⟨h1, h2, h3⟩ := R
  refine ⟨h1, ?_, ?_⟩
  · show A.depth + 1 + k ≤ 900; omega
  · show A.units + 3 + 10 * k ≤ 9000; omega

theorem entry_state {s s₁ : Shared} {H : List Addr} {vals : List Value} (W : Wd F.X) (Z : FnAt0 F.X a fd body) (hsn : F.sc = fd.scope.names) (hcl : F.cl = []) (hnm : F.nm = ps ++ rest) (hsc : scopeOk F.nm ps fd.scope.names = true) (hlen : ds.length = ps.length)
    (w0 : Le F.X.h0.get? (gt s.heap)) (HB : HBd H s.heap) (ht : 1 ≤ s₁.toks) (hr : Reps F.X.C (vis H s.heap) ds vals)
    (I : InCallC s (callEnvC fd s.heap.objs.size a).locals (bindL (callEnvC fd s.heap.objs.size a).kindOf (ps.zip vals) fun _ => none) (callEnvC fd s.heap.objs.size a).cells (bindC (callEnvC fd s.heap.objs.size a).kindOf (ps.zip vals) fun _ => none) s₁) :
    StP F H (s.heap.objs.size :: fd.scope.names.filterMap (fun x => (callEnvC fd s.heap.objs.size a).cells.lookup x.1)) (fun _ => 0) (callEnvC fd s.heap.objs.size a) (ds.map Sl.fr ++ List.replicate rest.length Sl.un) (gt s.heap) s s₁ := by
  simp only [scopeOk, Bool.and_eq_true, decide_eq_true_eq] at hsc
  obtain ⟨⟨nd, hnames⟩, hps⟩ := hsc
  have hkindOf : ∀ x, (callEnvC fd s.heap.objs.size a).kindOf x = fd.scope.names.lookup x := fun _ => rfl
  have hcells : (callEnvC fd s.heap.objs.size a).cells = cellsFrom (s.heap.objs.size + 1) fd.scope.names [] := rfl
  have hloc : (callEnvC fd s.heap.objs.size a).locals = s.heap.objs.size := rfl
  have big : ∀ b ∈ s.heap.objs.size :: fd.scope.names.filterMap (fun x => (callEnvC fd s.heap.objs.size a).cells.lookup x.1), s.heap.objs.size ≤ b := fun b hb => by
    rcases List.mem_cons.mp hb with q | q
    · exact Nat.le_of_eq q.symm
    · obtain ⟨n, _, hc⟩ := List.mem_filterMap.mp q
      exact Nat.le_of_lt (I.above n.1 b (mem_of_lookup hc))
  have notM : ∀ b o, (gt s.heap) b = some o → b ∉ s.heap.objs.size :: fd.scope.names.filterMap (fun x => (callEnvC fd s.heap.objs.size a).cells.lookup x.1) := fun b o e hb => Nat.lt_irrefl _ (Nat.lt_of_lt_of_le (Heap.lt_size (gt_get e)) (big b hb))
  have rw0 : Rw s.heap s₁.heap := Rw.raw I.toInCall.keep
  have bigT : ∀ b, s.heap.objs.size ≤ b → b ∉ tbs := fun b hb q => Nat.lt_irrefl _ (Nat.lt_of_lt_of_le (HB.ti.2 b q) hb)
  have kp : Le (gt s.heap) (vis (s.heap.objs.size :: fd.scope.names.filterMap (fun x => (callEnvC fd s.heap.objs.size a).cells.lookup x.1)) s₁.heap) := fun b o e => vis_of (rw0.1 b o e) (notM b o e)
  have vH : Le (vis H s.heap) (vis (s.heap.objs.size :: fd.scope.names.filterMap (fun x => (callEnvC fd s.heap.objs.size a).cells.lookup x.1) ++ H) s₁.heap) := fun b o e => by
    obtain ⟨e1, e2⟩ := vis_get e
    refine vis_of (rw0.1 b o e1) fun q => ?_
    rcases List.mem_append.mp q with q | q
    · exact notM b o e1 q
    · exact e2 q
  have cellAt : ∀ x c, (callEnvC fd s.heap.objs.size a).cells.lookup x = some c → CelV s₁.heap c ((bindC (callEnvC fd s.heap.objs.size a).kindOf (ps.zip vals) fun _ => none) x) := fun x c h => ⟨I.cell x c h, bigT c (Nat.le_of_lt (I.above x c (mem_of_lookup h)))⟩
  have ns1 : NsV s₁.heap (callEnvC fd s.heap.objs.size a).locals _ := ⟨I.toInCall.ns, bigT _ (Nat.le_refl _)⟩
  have slots : ∀ (i : Nat) sl, (ds.map Sl.fr ++ List.replicate rest.length Sl.un)[i]? = some sl → sl = .un ∨ ∃ d, ds[i]? = some d ∧ sl = .fr d := fun i sl h => by
    by_cases hi : i < ds.length
    · rw [List.getElem?_append_left (by simpa using hi), List.getElem?_map] at h
      obtain ⟨d, h1, h2⟩ := Option.map_eq_some_iff.mp h
      exact .inr ⟨d, h1, h2.symm⟩
    · rw [List.getElem?_append_right (by simpa using hi)] at h
      exact .inl (List.eq_of_mem_replicate (List.mem_of_getElem? h))
  have psnd : ps.Nodup := by rw [hnm] at nd; exact (List.nodup_append.mp nd).1
  refine ⟨⟨Z.kind, Z.gl, Z.bl, fun x h => (hkindOf x).trans (hsn ▸ h), fun x h => ⟨(hkindOf x).trans (hsn ▸ h), ?_⟩, fun i x sl hi hsl => ?_, fun x hx => ?_, ⟨rw0.2 HB.ti, fun b hb => ?_⟩, fun b o e => rw0.1 b o (w0 b o e), ht, W, fun p q => nomatch (hcl ▸ q)⟩,
    ⟨_, ns1⟩, .head _, fun x h => (hkindOf x).trans (hsn ▸ h), fun x c h => ⟨⟨_, cellAt x c h⟩, fun q => .tail _ (List.mem_filterMap.mpr ⟨(x, .cell), mem_of_lookup q, h⟩)⟩, fun x y c h1 h2 => name_of_addr I.apart (mem_of_lookup h1) (mem_of_lookup h2),
    fun i xs h => ?_, fun i j xs ys h => ?_, nd, fun b hb => ?_, kp, let ⟨h, t, e⟩ := I.toInCall.same; ⟨h, t, _, e⟩⟩
  · rw [hcells]
    exact cells_lookup x _ _ _ (.inl (mem_of_lookup (hsn ▸ h)))
  · rcases slots i sl hsl with rfl | ⟨d, hd, rfl⟩
    · trivial
    · have hil : i < ps.length := by
        obtain ⟨h1, _⟩ := List.getElem?_eq_some_iff.mp hd
        omega
      have hx : ps[i]? = some x := by rw [hnm, List.getElem?_append_left hil] at hi; exact hi
      obtain ⟨v, hv, rv⟩ := hr.get hd
      refine ⟨v, ?_, rv.mono vH⟩
      have bg := bind_get (callEnvC fd s.heap.objs.size a).kindOf ps vals (fun _ => none) (fun _ => none) i x v psnd hx hv
      have st := storable_spec (List.all_eq_true.mp hps x (List.mem_of_getElem? hx))
      rcases st with st | st
      · exact .inl ⟨st, _, ns1, bg.1 st⟩
      · obtain ⟨c, hc⟩ := cells_lookup x fd.scope.names (s.heap.objs.size + 1) [] (.inl (mem_of_lookup st))
        refine .inr ⟨.inl st, c, hc, ?_⟩
        have := cellAt x c hc
        rw [bg.2 (by rw [hkindOf, st]; decide)] at this
        exact this
  · have := List.all_eq_true.mp hnames x hx
    simp only [Bool.and_eq_true, Bool.not_eq_true'] at this
    exact this
  · rcases List.mem_append.mp hb with q | q
    · rcases List.mem_cons.mp q with q | q
      · rw [q]; exact ns1.al
      · obtain ⟨n, _, hc⟩ := List.mem_filterMap.mp q
        exact (cellAt n.1 b hc).al
    · obtain ⟨o, e⟩ := HB.al b q; exact ⟨o, rw0.1 b o e⟩
  · rcases slots i _ h with q | ⟨d, _, q⟩ <;> cases q
  · rcases slots i _ h with q | ⟨d, _, q⟩ <;> cases q
  · cases e : F.X.h0.get? b with
    | none => rfl
    | some o => exact absurd hb (notM b o (w0 b o e))


/-- a call, its frame known -/
theorem fn_coreG {ds' dd : List D} {dv : List Value} (W : Wd F.X) (Z : FnAt0 F.X a fd body) (hds : ds' = ds ++ dd) (hdv : ∀ C g, Reps C g dd dv) (hb : ∀ (vals : List Value) (s : Shared), vals.length = ds.length → Le F.X.h0.get? (gt s.heap) → BindsTo s fd ⟨vals, []⟩ (ps.zip (vals ++ dv))) (hsn : F.sc = fd.scope.names) (hcl : F.cl = []) (hnm : F.nm = ps ++ rest) (hsc : scopeOk F.nm ps fd.scope.names = true)
    {P : D → Prop} (hlen : ds'.length = ps.length) (ev : ∀ L Hc M G B s₀ s A, StP F Hc M G (callEnvC fd L a) (ds'.map Sl.fr ++ List.replicate rest.length Sl.un) B s₀ s → Rm F.k A → wpAny (Md F.X) A (execs body (callEnvC fd L a)) (fun f s' => ∃ d, P d ∧ ∃ σ', Fi F Hc (callEnvC fd L a) B s₀ (.rt d) σ' f s') E0 s) : CtG F.X (F.k + 1) a ds P := fun A s H vals R w0 HB tk hr0 => by
  have hr : Reps F.X.C (vis H s.heap) ds' (vals ++ dv) := hds ▸ hr0.append (hdv _ _)
  obtain ⟨o, ho, hd⟩ := Z.ob
  have hps : ∀ x ∈ ps, storable fd.scope.names x = true := fun x hx => by
    simp only [scopeOk, Bool.and_eq_true] at hsc
    exact List.all_eq_true.mp hsc.2 x hx
  refine wpAny_call ?_
  refine codeAny_call_function (by have := R.dp; have : recursionLimit = 1000 := rfl; omega) (gt_get (w0 _ _ ho)) hd Z.co Z.gen Z.bd (Z.cd.keeps (w0r w0)) ?_
  refine hb vals s hr0.length w0 _ _ _ _ ?_
  rw [Z.cl]
  have hnew := wpAny_newFunctionEnv_cells (M := Md F.X) (A := A.in1) (E := fun _ _ => False) (s := s) (scope := fd.scope) (globals := fd.globals) (binds := ps.zip (vals ++ dv)) (qual := fd.qualname ++ ".<locals>.") (func := some a) (code := fd.code) (builtins := fd.builtins)
    (Q := fun env s' => env = callEnvC fd s.heap.objs.size a ∧ InCallC s (callEnvC fd s.heap.objs.size a).locals (bindL (callEnvC fd s.heap.objs.size a).kindOf (ps.zip (vals ++ dv)) fun _ => none) (callEnvC fd s.heap.objs.size a).cells (bindC (callEnvC fd s.heap.objs.size a).kindOf (ps.zip (vals ++ dv)) fun _ => none) s')
    Z.kind (fun x hx => ?_) (fun env he s' I => ?_)
  · refine wpAny_mono (wpAny_toks hnew) (fun env s₁ h₁ => ?_) fun _ _ e => e.2.elim
    obtain ⟨htk, rfl, I⟩ := h₁
    refine ⟨W.nl.keeps fun b o e => I.toInCall.keep b o (gt_get (w0 b o e)), codeAny_func ?_⟩
    have S := entry_state (rest := rest) W Z hsn hcl hnm hsc hlen w0 HB (Nat.le_trans tk htk) hr I
    refine wpAny_mono (ev _ _ _ _ _ _ _ (A.deeper (callEnvC fd s.heap.objs.size a)) S R.deep) (fun f s₂ h₂ => ?_) fun _ _ e => e.elim
    obtain ⟨d, hP, σ', v, rfl, rv, M₂, G₂, S₂⟩ := h₂
    obtain ⟨h, t, dr, rfl⟩ := S₂.sh
    exact ⟨⟨h, t, dr, rfl, S₂.kp.trans (vis_le _ _), fun _ => S₂.ev.hb.ti⟩, _, hP, rv⟩
  · have := hps x.1 (List.of_mem_zip hx).1
    rcases storable_spec this with q | q
    · exact .inl q
    · obtain ⟨c, hc⟩ := cells_lookup x.1 fd.scope.names (s.heap.objs.size + 1) [] (.inl (mem_of_lookup q))
      exact .inr ⟨q, by rw [hc]; rfl⟩
  · subst he
    exact ⟨rfl, I⟩
/-- a call, its frame known -/
theorem fn_core (W : Wd F.X) (Z : FnAt F.X a fd body ps) (hsn : F.sc = fd.scope.names) (hcl : F.cl = []) (hnm : F.nm = ps ++ rest) (hsc : scopeOk F.nm ps fd.scope.names = true)
    {d : D} (hlen : ds.length = ps.length) (ev : ∀ L Hc M G B s₀ s A, StP F Hc M G (callEnvC fd L a) (ds.map Sl.fr ++ List.replicate rest.length Sl.un) B s₀ s → Rm F.k A → wpAny (Md F.X) A (execs body (callEnvC fd L a)) (fun f s' => ∃ σ', Fi F Hc (callEnvC fd L a) B s₀ (.rt d) σ' f s') E0 s) : Ct F.X (F.k + 1) a ds d := fun A s H vals R w0 HB tk hr => by
  have h := fn_coreG (dd := []) (dv := []) (P := fun x => x = d) W Z.toFnAt0 (List.append_nil ds).symm (fun _ _ => .mkN) (fun vals s hl _ => BindsTo.of_eq (by rw [List.append_nil]; exact Z.bind vals (hl.trans hlen))) hsn hcl hnm hsc hlen (fun L Hc M G B s₀ s A S R => wpAny_mono (ev L Hc M G B s₀ s A S R) (fun _ _ h => ⟨d, rfl, h⟩) fun _ _ e => e) A s H vals R w0 HB tk hr
  exact wpAny_mono h (fun v s' ⟨k, d', e, r⟩ => ⟨k, e ▸ r⟩) fun _ _ e => e
/-- a function of the module's, from its body's derivation -/
theorem fn_run (W : Wd F.X) (Z : FnAt F.X a fd body ps) (hsn : F.sc = fd.scope.names) (hcl : F.cl = []) (hnm : F.nm = ps ++ rest) (hsc : scopeOk F.nm ps fd.scope.names = true)
    {d : D} {σ' : List Sl} (hlen : ds.length = ps.length) (ev : ExSs F (ds.map Sl.fr ++ List.replicate rest.length Sl.un) body (.rt d) σ') : Ct F.X (F.k + 1) a ds d :=
  fn_core W Z hsn hcl hnm hsc hlen fun _ _ _ _ _ _ _ _ S R => wpAny_mono (ev _ _ _ _ _ _ _ _ S R) (fun _ _ h => ⟨σ', h⟩) fun _ _ e => e
end
end Mine
end

section
set_option Elab.async false
namespace Mine
noncomputable def fo (b : Int) : Int → List Int → Int
  | P, [] => P
  | P, d :: r => fo b (P * b + d) r
theorem fo_app (b : Int) : ∀ (l m : List Int) (P : Int), fo b P (l ++ m) = fo b (fo b P l) m
  | [], _, _ => rfl
  | _ :: l, m, _ => fo_app b l m _
theorem fo_shift (b : Int) : ∀ (l : List Int) (P : Int), fo b P l = P * b ^ l.length + fo b 0 l
  | [], P => by simp [fo]
  | d :: l, P => by
    show fo b (P * b + d) l = P * b ^ (l.length + 1) + fo b (0 * b + d) l
    rw [fo_shift b l (P * b + d), fo_shift b l (0 * b + d), Int.zero_mul, Int.zero_add, Int.add_mul, Int.pow_succ, Int.mul_comm (b ^ l.length) b, Int.mul_assoc]
    omega
noncomputable def dg (b : Int) : Nat → Int → List Int
  | 0, _ => []
  | m + 1, a => a % b :: dg b m (a / b)
theorem dg_len (b : Int) : ∀ (m : Nat) (a : Int), (dg b m a).length = m
  | 0, _ => rfl
  | m + 1, a => by simp [dg, dg_len b m]
theorem dg_mem {b : Int} (hb : 0 < b) : ∀ (m : Nat) (a : Int), ∀ d ∈ dg b m a, 0 ≤ d ∧ d < b
  | 0, _, d, h => nomatch h
  | m + 1, a, d, h => by
    rcases List.mem_cons.mp h with rfl | h
    · exact ⟨Int.emod_nonneg _ (by omega), Int.emod_lt_of_pos _ hb⟩
    · exact dg_mem hb m _ d h
theorem dg_fo {b : Int} (hb : 0 < b) : ∀ (m : Nat) (a : Int), 0 ≤ a → a < b ^ m → fo b 0 (dg b m a).reverse = a
  | 0, a, h0, h1 => by simp at h1; simp [dg, fo]; omega
  | m + 1, a, h0, h1 => by
    rw [dg, List.reverse_cons, fo_app, dg_fo hb m (a / b) (Int.ediv_nonneg h0 (by omega)) (by
      rw [Int.pow_succ] at h1
      exact Int.ediv_lt_of_lt_mul hb h1)]
    show a / b * b + a % b = a
    have := Int.ediv_mul_add_emod a b
    exact this
theorem dg_split {b : Int} (hb : 0 < b) : ∀ (i j : Nat) (x : Int), dg b (i + j) x = dg b i (x % b ^ i) ++ dg b j (x / b ^ i)
  | 0, j, x => by simp [dg]
  | i + 1, j, x => by
    have e1 : i + 1 + j = (i + j) + 1 := by omega
    rw [e1, dg, dg, dg_split hb i j (x / b), List.cons_append]
    have hp : 0 < b ^ i := Int.pow_pos hb
    have e2 : x % b ^ (i + 1) % b = x % b := by
      rw [Int.pow_succ]
      exact Int.emod_emod_of_dvd x (Int.dvd_mul_left ..)
    have e3 : x / b / b ^ i = x / b ^ (i + 1) := by
      rw [Int.ediv_ediv_of_nonneg (by omega), Int.pow_succ, Int.mul_comm]
    have e4 : x % b ^ (i + 1) / b = x / b % b ^ i := by
      have h1 := Int.mul_ediv_add_emod x (b ^ (i + 1))
      have h2 := Int.mul_ediv_add_emod (x / b) (b ^ i)
      rw [e3] at h2
      have h3 : x % b ^ (i + 1) = x - b ^ (i + 1) * (x / b ^ (i + 1)) := by omega
      rw [h3, Int.pow_succ]
      have h4 : x - b ^ i * b * (x / (b ^ i * b)) = x + b * (-(b ^ i * (x / (b ^ i * b)))) := by
        rw [Int.mul_neg, ← Int.mul_assoc, Int.mul_comm b (b ^ i)]; omega
      rw [h4, Int.add_mul_ediv_left _ _ (by omega)]
      rw [Int.pow_succ] at h2
      omega
    rw [e2, e3, e4]
/-- the quotient's figures, from the top -/
noncomputable def qd (b c : Int) : Int → List Int → List Int
  | _, [] => []
  | P, d :: r => ((P % c) * b + d) / c :: qd b c (P * b + d) r
theorem qd_fo {b c : Int} (hc : 0 < c) : ∀ (l : List Int) (P : Int), fo b (P / c) (qd b c P l) = fo b P l / c
  | [], _ => rfl
  | d :: l, P => by
    show fo b (P / c * b + (P % c * b + d) / c) (qd b c (P * b + d) l) = fo b (P * b + d) l / c
    have h := Int.mul_ediv_add_emod P c
    have e : P / c * b + (P % c * b + d) / c = (P * b + d) / c := by
      have e1 : P * b + d = (P % c * b + d) + c * (P / c * b) := by
        have : P * b = (c * (P / c) + P % c) * b := by rw [h]
        rw [this, Int.add_mul, Int.mul_assoc]; omega
      rw [e1, Int.add_mul_ediv_left _ _ (by omega)]; omega
    rw [e]
    exact qd_fo hc l _
theorem qd_len (b c : Int) : ∀ (l : List Int) (P : Int), (qd b c P l).length = l.length
  | [], _ => rfl
  | _ :: l, _ => congrArg Nat.succ (qd_len b c l _)
theorem mod_step {b c : Int} (P d : Int) : (P % c * b + d) % c = (P * b + d) % c := by
  have e1 : P * b + d = (P % c * b + d) + c * (P / c * b) := by
    have h := Int.mul_ediv_add_emod P c
    have : P * b = (c * (P / c) + P % c) * b := by rw [h]
    rw [this, Int.add_mul, Int.mul_assoc]; omega
  rw [e1, Int.add_mul_emod_self_left]
theorem fo_mono {b : Int} (hb : 0 < b) : ∀ (l : List Int) (P : Int), 0 ≤ P → (∀ d ∈ l, 0 ≤ d) → P ≤ fo b P l
  | [], P, _, _ => Int.le_refl _
  | d :: l, P, h, hd => by
    have h0 := hd d (.head _)
    have h1 : P ≤ P * b := by
      have := Int.mul_le_mul_of_nonneg_left (show (1 : Int) ≤ b by omega) h
      omega
    exact Int.le_trans (by omega) (fo_mono hb l (P * b + d) (by omega) fun x hx => hd x (.tail _ hx))
end Mine
end

section
open PySem PySem.W PyProof.Rows PySem.Challenge
set_option Elab.async false
set_option maxRecDepth 100000
set_option maxHeartbeats 0
namespace Mine
noncomputable def fnB : Stmt → Option (List Stmt)
  | .FunctionDef _ _ b _ _ _ _ _ _ _ => some b
  | _ => none
noncomputable def fnN : Stmt → Option (List (Str × NameKind))
  | .FunctionDef _ _ _ _ _ _ sc _ _ _ => some sc.names
  | _ => none
noncomputable def clB : Stmt → Option (List Stmt)
  | .ClassDef _ _ _ b _ _ _ _ _ _ _ => some b
  | _ => none
noncomputable def stI (i : Nat) : Option Stmt := pw_sc0111_01.main.body[i]?
noncomputable def meI (i : Nat) : Option Stmt := ((stI 13).bind clB).bind fun b => b[i]?
noncomputable def nsI (i k : Nat) : Option Stmt := ((stI i).bind fnB).bind fun b => b[k]?
noncomputable def bdPow : List Stmt := by
  refine Subtype.val (p := fun x => (stI 2).bind fnB = some x) ⟨?_, ?_⟩
  rotate_left
  exact rfl
noncomputable def nnPow : List (Str × NameKind) := by
  refine Subtype.val (p := fun x => (stI 2).bind fnN = some x) ⟨?_, ?_⟩
  rotate_left
  exact rfl
noncomputable def bdStr : List Stmt := by
  refine Subtype.val (p := fun x => (stI 3).bind fnB = some x) ⟨?_, ?_⟩
  rotate_left
  exact rfl
noncomputable def nnStr : List (Str × NameKind) := by
  refine Subtype.val (p := fun x => (stI 3).bind fnN = some x) ⟨?_, ?_⟩
  rotate_left
  exact rfl
noncomputable def bdIfs : List Stmt := by
  refine Subtype.val (p := fun x => (stI 4).bind fnB = some x) ⟨?_, ?_⟩
  rotate_left
  exact rfl
noncomputable def nnIfs : List (Str × NameKind) := by
  refine Subtype.val (p := fun x => (stI 4).bind fnN = some x) ⟨?_, ?_⟩
  rotate_left
  exact rfl
noncomputable def bdDiv2 : List Stmt := by
  refine Subtype.val (p := fun x => (stI 6).bind fnB = some x) ⟨?_, ?_⟩
  rotate_left
  exact rfl
noncomputable def nnDiv2 : List (Str × NameKind) := by
  refine Subtype.val (p := fun x => (stI 6).bind fnN = some x) ⟨?_, ?_⟩
  rotate_left
  exact rfl
noncomputable def bdI2d : List Stmt := by
  refine Subtype.val (p := fun x => (stI 8).bind fnB = some x) ⟨?_, ?_⟩
  rotate_left
  exact rfl
noncomputable def nnI2d : List (Str × NameKind) := by
  refine Subtype.val (p := fun x => (stI 8).bind fnN = some x) ⟨?_, ?_⟩
  rotate_left
  exact rfl
noncomputable def bdD2i : List Stmt := by
  refine Subtype.val (p := fun x => (stI 9).bind fnB = some x) ⟨?_, ?_⟩
  rotate_left
  exact rfl
noncomputable def nnD2i : List (Str × NameKind) := by
  refine Subtype.val (p := fun x => (stI 9).bind fnN = some x) ⟨?_, ?_⟩
  rotate_left
  exact rfl
noncomputable def bdPos : List Stmt := by
  refine Subtype.val (p := fun x => (stI 10).bind fnB = some x) ⟨?_, ?_⟩
  rotate_left
  exact rfl
noncomputable def nnPos : List (Str × NameKind) := by
  refine Subtype.val (p := fun x => (stI 10).bind fnN = some x) ⟨?_, ?_⟩
  rotate_left
  exact rfl
noncomputable def bdDm : List Stmt := by
  refine Subtype.val (p := fun x => (stI 11).bind fnB = some x) ⟨?_, ?_⟩
  rotate_left
  exact rfl
noncomputable def nnDm : List (Str × NameKind) := by
  refine Subtype.val (p := fun x => (stI 11).bind fnN = some x) ⟨?_, ?_⟩
  rotate_left
  exact rfl
noncomputable def bdEof : List Stmt := by
  refine Subtype.val (p := fun x => (stI 65).bind fnB = some x) ⟨?_, ?_⟩
  rotate_left
  exact rfl
noncomputable def nnEof : List (Str × NameKind) := by
  refine Subtype.val (p := fun x => (stI 65).bind fnN = some x) ⟨?_, ?_⟩
  rotate_left
  exact rfl
noncomputable def bdLead : List Stmt := by
  refine Subtype.val (p := fun x => (stI 67).bind fnB = some x) ⟨?_, ?_⟩
  rotate_left
  exact rfl
noncomputable def nnLead : List (Str × NameKind) := by
  refine Subtype.val (p := fun x => (stI 67).bind fnN = some x) ⟨?_, ?_⟩
  rotate_left
  exact rfl
noncomputable def bdStops : List Stmt := by
  refine Subtype.val (p := fun x => (stI 68).bind fnB = some x) ⟨?_, ?_⟩
  rotate_left
  exact rfl
noncomputable def nnStops : List (Str × NameKind) := by
  refine Subtype.val (p := fun x => (stI 68).bind fnN = some x) ⟨?_, ?_⟩
  rotate_left
  exact rfl
noncomputable def bdRef : List Stmt := by
  refine Subtype.val (p := fun x => (stI 69).bind fnB = some x) ⟨?_, ?_⟩
  rotate_left
  exact rfl
noncomputable def nnRef : List (Str × NameKind) := by
  refine Subtype.val (p := fun x => (stI 69).bind fnN = some x) ⟨?_, ?_⟩
  rotate_left
  exact rfl
noncomputable def bdDvd : List Stmt := by
  refine Subtype.val (p := fun x => (stI 70).bind fnB = some x) ⟨?_, ?_⟩
  rotate_left
  exact rfl
noncomputable def nnDvd : List (Str × NameKind) := by
  refine Subtype.val (p := fun x => (stI 70).bind fnN = some x) ⟨?_, ?_⟩
  rotate_left
  exact rfl
noncomputable def bdNum : List Stmt := by
  refine Subtype.val (p := fun x => (stI 71).bind fnB = some x) ⟨?_, ?_⟩
  rotate_left
  exact rfl
noncomputable def nnNum : List (Str × NameKind) := by
  refine Subtype.val (p := fun x => (stI 71).bind fnN = some x) ⟨?_, ?_⟩
  rotate_left
  exact rfl
noncomputable def bdText : List Stmt := by
  refine Subtype.val (p := fun x => (stI 72).bind fnB = some x) ⟨?_, ?_⟩
  rotate_left
  exact rfl
noncomputable def nnText : List (Str × NameKind) := by
  refine Subtype.val (p := fun x => (stI 72).bind fnN = some x) ⟨?_, ?_⟩
  rotate_left
  exact rfl
noncomputable def bdVal : List Stmt := by
  refine Subtype.val (p := fun x => (stI 73).bind fnB = some x) ⟨?_, ?_⟩
  rotate_left
  exact rfl
noncomputable def nnVal : List (Str × NameKind) := by
  refine Subtype.val (p := fun x => (stI 73).bind fnN = some x) ⟨?_, ?_⟩
  rotate_left
  exact rfl
noncomputable def bdLaw : List Stmt := by
  refine Subtype.val (p := fun x => (stI 74).bind fnB = some x) ⟨?_, ?_⟩
  rotate_left
  exact rfl
noncomputable def nnLaw : List (Str × NameKind) := by
  refine Subtype.val (p := fun x => (stI 74).bind fnN = some x) ⟨?_, ?_⟩
  rotate_left
  exact rfl
noncomputable def bdInit : List Stmt := by
  refine Subtype.val (p := fun x => (meI 1).bind fnB = some x) ⟨?_, ?_⟩
  rotate_left
  exact rfl
noncomputable def nnInit : List (Str × NameKind) := by
  refine Subtype.val (p := fun x => (meI 1).bind fnN = some x) ⟨?_, ?_⟩
  rotate_left
  exact rfl
noncomputable def bdLong : List Stmt := by
  refine Subtype.val (p := fun x => (meI 2).bind fnB = some x) ⟨?_, ?_⟩
  rotate_left
  exact rfl
noncomputable def nnLong : List (Str × NameKind) := by
  refine Subtype.val (p := fun x => (meI 2).bind fnN = some x) ⟨?_, ?_⟩
  rotate_left
  exact rfl
noncomputable def bdInd : List Stmt := by
  refine Subtype.val (p := fun x => (meI 3).bind fnB = some x) ⟨?_, ?_⟩
  rotate_left
  exact rfl
noncomputable def nnInd : List (Str × NameKind) := by
  refine Subtype.val (p := fun x => (meI 3).bind fnN = some x) ⟨?_, ?_⟩
  rotate_left
  exact rfl
noncomputable def bdWit : List Stmt := by
  refine Subtype.val (p := fun x => (meI 5).bind fnB = some x) ⟨?_, ?_⟩
  rotate_left
  exact rfl
noncomputable def nnWit : List (Str × NameKind) := by
  refine Subtype.val (p := fun x => (meI 5).bind fnN = some x) ⟨?_, ?_⟩
  rotate_left
  exact rfl
noncomputable def bdStrI : List Stmt := by
  refine Subtype.val (p := fun x => (nsI 3 1).bind fnB = some x) ⟨?_, ?_⟩
  rotate_left
  exact rfl
noncomputable def nnStrI : List (Str × NameKind) := by
  refine Subtype.val (p := fun x => (nsI 3 1).bind fnN = some x) ⟨?_, ?_⟩
  rotate_left
  exact rfl
noncomputable def bdI2dI : List Stmt := by
  refine Subtype.val (p := fun x => (nsI 8 1).bind fnB = some x) ⟨?_, ?_⟩
  rotate_left
  exact rfl
noncomputable def nnI2dI : List (Str × NameKind) := by
  refine Subtype.val (p := fun x => (nsI 8 1).bind fnN = some x) ⟨?_, ?_⟩
  rotate_left
  exact rfl
noncomputable def bdD2iI : List Stmt := by
  refine Subtype.val (p := fun x => (nsI 9 0).bind fnB = some x) ⟨?_, ?_⟩
  rotate_left
  exact rfl
noncomputable def nnD2iI : List (Str × NameKind) := by
  refine Subtype.val (p := fun x => (nsI 9 0).bind fnN = some x) ⟨?_, ?_⟩
  rotate_left
  exact rfl
noncomputable def kids : Stmt → List Stmt
  | .If _ a b _ => a ++ b
  | .For _ _ a _ _ => a
  | .While _ a _ _ => a
  | .FunctionDef _ _ b _ _ _ _ _ _ _ => b
  | .Try b _ _ _ _ => b
  | _ => []
noncomputable def atP : List Stmt → List Nat → Option Stmt
  | _, [] => none
  | b, [i] => b[i]?
  | b, i :: r => b[i]?.bind fun s => atP (kids s) r
noncomputable def forT : Stmt → Option Expr
  | .For t _ _ _ _ => some t
  | _ => none
noncomputable def forB : Stmt → Option (List Stmt)
  | .For _ _ a _ _ => some a
  | .While _ a _ _ => some a
  | _ => none
noncomputable def whT : Stmt → Option Expr
  | .While t _ _ _ => some t
  | _ => none
noncomputable def lpInd : List Stmt := by
  refine Subtype.val (p := fun x => (atP bdInd [2]).bind forB = some x) ⟨?_, ?_⟩
  rotate_left
  exact rfl
noncomputable def tgInd : Expr := by
  refine Subtype.val (p := fun x => (atP bdInd [2]).bind forT = some x) ⟨?_, ?_⟩
  rotate_left
  exact rfl
noncomputable def lpWit : List Stmt := by
  refine Subtype.val (p := fun x => (atP bdWit [2]).bind forB = some x) ⟨?_, ?_⟩
  rotate_left
  exact rfl
noncomputable def tgWit : Expr := by
  refine Subtype.val (p := fun x => (atP bdWit [2]).bind forT = some x) ⟨?_, ?_⟩
  rotate_left
  exact rfl
noncomputable def lpInit : List Stmt := by
  refine Subtype.val (p := fun x => (atP bdInit [4]).bind forB = some x) ⟨?_, ?_⟩
  rotate_left
  exact rfl
noncomputable def tgInit : Expr := by
  refine Subtype.val (p := fun x => (atP bdInit [4]).bind forT = some x) ⟨?_, ?_⟩
  rotate_left
  exact rfl
noncomputable def lpPos : List Stmt := by
  refine Subtype.val (p := fun x => (atP bdPos [4]).bind forB = some x) ⟨?_, ?_⟩
  rotate_left
  exact rfl
noncomputable def tgPos : Expr := by
  refine Subtype.val (p := fun x => (atP bdPos [4]).bind forT = some x) ⟨?_, ?_⟩
  rotate_left
  exact rfl
noncomputable def lpStops : List Stmt := by
  refine Subtype.val (p := fun x => (atP bdStops [1]).bind forB = some x) ⟨?_, ?_⟩
  rotate_left
  exact rfl
noncomputable def twStops : Expr := by
  refine Subtype.val (p := fun x => (atP bdStops [1]).bind whT = some x) ⟨?_, ?_⟩
  rotate_left
  exact rfl
noncomputable def lpDvd : List Stmt := by
  refine Subtype.val (p := fun x => (atP bdDvd [0]).bind forB = some x) ⟨?_, ?_⟩
  rotate_left
  exact rfl
noncomputable def tgDvd : Expr := by
  refine Subtype.val (p := fun x => (atP bdDvd [0]).bind forT = some x) ⟨?_, ?_⟩
  rotate_left
  exact rfl
noncomputable def lpDvdI : List Stmt := by
  refine Subtype.val (p := fun x => (atP bdDvd [0, 0]).bind forB = some x) ⟨?_, ?_⟩
  rotate_left
  exact rfl
noncomputable def tgDvdI : Expr := by
  refine Subtype.val (p := fun x => (atP bdDvd [0, 0]).bind forT = some x) ⟨?_, ?_⟩
  rotate_left
  exact rfl
noncomputable def lpText : List Stmt := by
  refine Subtype.val (p := fun x => (atP bdText [1]).bind forB = some x) ⟨?_, ?_⟩
  rotate_left
  exact rfl
noncomputable def tgText : Expr := by
  refine Subtype.val (p := fun x => (atP bdText [1]).bind forT = some x) ⟨?_, ?_⟩
  rotate_left
  exact rfl
noncomputable def lpVal : List Stmt := by
  refine Subtype.val (p := fun x => (atP bdVal [1]).bind forB = some x) ⟨?_, ?_⟩
  rotate_left
  exact rfl
noncomputable def tgVal : Expr := by
  refine Subtype.val (p := fun x => (atP bdVal [1]).bind forT = some x) ⟨?_, ?_⟩
  rotate_left
  exact rfl
noncomputable def lpLaw : List Stmt := by
  refine Subtype.val (p := fun x => (atP bdLaw [14]).bind forB = some x) ⟨?_, ?_⟩
  rotate_left
  exact rfl
noncomputable def tgLaw : Expr := by
  refine Subtype.val (p := fun x => (atP bdLaw [14]).bind forT = some x) ⟨?_, ?_⟩
  rotate_left
  exact rfl
noncomputable def lpValI : List Stmt := by
  refine Subtype.val (p := fun x => (atP bdVal [1, 4, 1]).bind forB = some x) ⟨?_, ?_⟩
  rotate_left
  exact rfl
noncomputable def twValI : Expr := by
  refine Subtype.val (p := fun x => (atP bdVal [1, 4, 1]).bind whT = some x) ⟨?_, ?_⟩
  rotate_left
  exact rfl
end Mine
end

section
open PySem PySem.Calls PyProof.Rows
set_option Elab.async false
set_option maxRecDepth 100000
namespace Mine
section
variable {F : Fx} {σ : List Sl}
theorem EvS.cast {e d d'} (h : EvS F σ e d) (q : d = d') : EvS F σ e d' := q ▸ h
theorem TsS.cast {e c c'} (h : TsS F σ e c) (q : c = c') : TsS F σ e c' := q ▸ h
theorem ExSs.cast {b o o' σ' σ''} (h : ExSs F σ b o σ') (q : o = o') (q' : σ' = σ'') : ExSs F σ b o' σ'' := q ▸ q' ▸ h
theorem ExS.cast {b o o' σ' σ''} (h : ExS F σ b o σ') (q : o = o') (q' : σ' = σ'') : ExS F σ b o' σ'' := q ▸ q' ▸ h
theorem ev_strL {x k p} (l : List Nat) (h : x.cps.toList = l) : EvS F σ (.Constant (.str x) k p) (.str l) := h ▸ ev_str
theorem Rm.up {k k' : Nat} {A : Around} (R : Rm k' A) (h : k ≤ k') : Rm k A := ⟨R.hh, by have := R.dp; omega, by have := R.un; omega⟩
theorem Ct.up {X k k' a ds d} (h : Ct X k a ds d) (q : k ≤ k') : Ct X k' a ds d := fun A s H vals R => h A s H vals (R.up q)
theorem Ct.cast {X k a ds d d'} (h : Ct X k a ds d) (q : d = d') : Ct X k a ds d' := q ▸ h
theorem bits_small {a : Int} (h : -4611686018427387904 ≤ a ∧ a ≤ 4611686018427387904) : Builtin.Int.intBits a ≤ 64 := by
  have h2 : a.natAbs < 2 ^ 64 := by omega
  unfold Builtin.Int.intBits
  by_cases hz : a = 0
  · rw [if_pos (by simp [hz])]; omega
  · rw [if_neg (by simp [hz])]
    have := (Nat.log2_lt (by omega : a.natAbs ≠ 0)).mpr h2
    omega
theorem bMulL {a b : Int} (h : -4611686018427387904 ≤ a ∧ a ≤ 4611686018427387904) : BinR .Mult (.int a) (.int b) (.int (a * b)) := bMul (.inl (bits_small h))
theorem bMulR {a b : Int} (h : -4611686018427387904 ≤ b ∧ b ≤ 4611686018427387904) : BinR .Mult (.int a) (.int b) (.int (a * b)) := bMul (.inr (bits_small h))
theorem log2_small {b : Int} (h0 : b ≠ 0) (h : -4611686018427387904 ≤ b ∧ b ≤ 4611686018427387904) : b.natAbs.log2 < 9000 := by
  have h2 : b.natAbs < 2 ^ 64 := by omega
  have := (Nat.log2_lt (by omega : b.natAbs ≠ 0)).mpr h2
  omega
theorem bDivS {a b : Int} (h : 1 ≤ b ∧ b ≤ 4611686018427387904) : BinR .FloorDiv (.int a) (.int b) (.int (a.fdiv b)) := bDiv (by omega) (log2_small (by omega) (by omega))
theorem bModS {a b : Int} (h : 1 ≤ b) : BinR .Mod (.int a) (.int b) (.int (a.fmod b)) := bMod (by omega)
/-- a function of the module, whole -/
structure FnR (X : Cx) (n : Str) (a : Addr) (b : List Stmt) (ps : List Str) (ns : Sc) : Prop where
  g : GFn X n a
  f : ∃ fd, FnAt X a fd b ps ∧ fd.scope.names = ns
structure MeR (X : Cx) (n : Str) (a : Addr) (b : List Stmt) (ps : List Str) (ns : Sc) : Prop where
  g : MFn X n a
  f : ∃ fd, FnAt X a fd b ps ∧ fd.scope.names = ns
theorem fn_ct {X : Cx} {n : Nat} {a : Addr} {b ps ns nm} (rest : List Str) {ds : List D} {d : D} {σ' : List Sl} (W : Wd X) (h : ∃ fd, FnAt X a fd b ps ∧ fd.scope.names = ns) (k : Nat) (hk : k + 1 ≤ n) (hnm : nm = ps ++ rest) (hsc : scopeOk nm ps ns = true)
    (hlen : ds.length = ps.length) (ev : ExSs ⟨X, k, nm, ns, []⟩ (ds.map Sl.fr ++ List.replicate rest.length Sl.un) b (.rt d) σ') : Ct X n a ds d := by
  obtain ⟨fd, Z, rfl⟩ := h
  exact (fn_run (F := ⟨X, k, nm, fd.scope.names, []⟩) W Z rfl rfl hnm hsc hlen ev).up hk
end
end Mine
end

section
open PySem PySem.Calls PyProof.Rows
set_option Elab.async false
set_option maxRecDepth 100000
namespace Mine
/-- the heap without the code tables -/
noncomputable abbrev gho (h : Heap) : Heap := PySem.W.hideAll h tbs
theorem gho_get (h : Heap) : (gho h).get? = gt h := by
  funext b
  by_cases q : b ∈ tbs
  · rw [PySem.W.hideAll_none tbs q]
    unfold gt vis
    rw [if_pos (by simpa using q)]
  · unfold gt vis
    rw [if_neg (by simpa using q)]
    cases e : h.get? b with
    | some o => exact PySem.W.hideAll_get tbs e q
    | none =>
      cases e' : (gho h).get? b with
      | none => rfl
      | some o => have := PySem.W.of_hideAll tbs e'; rw [e] at this; cases this
noncomputable abbrev Cx.re (X : Cx) (h : Heap) : Cx := { X with h0 := gho h }
theorem Wd.re {X : Cx} (W : Wd X) {h : Heap} (w0 : Le X.h0.get? (gt h)) : Wd (X.re h) := by
  have k : ∀ b o, X.h0.get? b = some o → (gho h).get? b = some o := fun b o e => by rw [gho_get]; exact w0 b o e
  refine ⟨fun a ha => PySem.W.hideAll_none tbs ha, W.g.keeps k, W.b.keeps k, W.nl.keeps k, fun b o e => k b o (W.kin b o e), W.bi, W.hd, fun t ht => (W.cd t ht).keeps k, fun t ht => ?_, W.at_, ?_⟩
  · obtain ⟨bm, o, a1, a2, a3, a4, a5, a6⟩ := W.bn t ht
    exact ⟨bm, o, a1, a2, a3, a4, k _ _ a5, a6⟩
  · obtain ⟨a, f, a1, a2, a3⟩ := W.tok
    exact ⟨a, f, a1, mapOf_mono k a2, a3⟩
theorem re_w0 (X : Cx) (h : Heap) : Le (X.re h).h0.get? (gt h) := fun b o e => by
  have : (gho h).get? b = some o := e
  rw [gho_get] at this; exact this

/-! a def in a frame -/
theorem tri_one {ps : List Value} {q : Str} {t : Tok} (h : TriplesOk ps) : ps[1]? ≠ some (.str q t) := by
  match ps, h with
  | [], _ => simp
  | .int _ _ :: .int _ _ :: _ :: _, _ => simp
section
variable {F : Fx} {Hc M : List Addr} {G : Nat → Addr} {env : Env} {σ : List Sl} {B : Gt} {s₀ s : Shared} {A : Around}
theorem isCd_ne {h : Heap} {c P : Addr} {q : Str} {ps : Array Value} (x : IsCd h c q) (e : h.get? P = some (PySem.W.tabObj ps)) (t : TriplesOk ps.toList) : c ≠ P := by
  rintro rfl
  obtain ⟨o, vs, u, e1, e2, e3⟩ := x
  rw [e] at e1
  cases e1
  cases e2
  exact tri_one (q := q) (t := u) t (by simpa using e3)
theorem tabP_inj : ∀ t ∈ tabL, ∀ t' ∈ tabL, t'.P = t.P → t' = t := by
  intro t ht t' ht' e
  simp only [tabL, List.mem_cons, List.not_mem_nil, or_false] at ht ht'
  rcases ht with rfl | rfl | rfl <;> rcases ht' with rfl | rfl | rfl <;> first | rfl | (exact absurd e (by decide))
/-- the function object that a def makes -/
theorem mk_fn (S : EvSt F Hc G env σ s) {t : TabR} (ht : t ∈ tabL) (hcode : env.code = .ref t.c) {name : Str} {params : Arguments} {body : List Stmt} {scope : Scope} {clos : List (Str × Addr)} {n : Nat} (hcl : closureFor scope env = pure clos) :
    wpAny (Md F.X) A (makeFunction name t.qual params (.stmts body) scope env [] [] [] t.pos n) (fun v s' => Kp s s' ∧ ∃ doc cv ctv, v = .ref (s'.heap.objs.size - 1) ∧ (gt s.heap) (s'.heap.objs.size - 1) = none ∧
      (gt s'.heap) (s'.heap.objs.size - 1) = some { cls := .type "function", data := .func (PySem.W.fnX name t.qual params body scope clos .none .none doc ((F.X.mg "__name__").getD .none) none cv ctv) } ∧ s'.heap.CodeRec cv t.qual) E0 s := by
  have hti := S.hb.ti
  obtain ⟨ps, eP, tri, hc⟩ := hti.1 t ht
  have w0 := w0r S.w0
  have Cd := (S.W.cd t ht).keeps w0
  have bn : s.heap.BuiltinsAt F.X.mg t.P := by
    obtain ⟨bm, o, a1, a2, a3, a4, a5, a6⟩ := S.W.bn t ht
    exact ⟨bm, o, a1, a2, a3, a4, w0 _ _ a5, a6⟩
  have hg := S.W.g.keeps w0
  have hPt : t.P ∈ tbs := tabL_tbs t ht
  have fresh : ∀ (h' : Heap), s.heap.objs.size ≤ h'.objs.size → (gt s.heap) h'.objs.size = none := fun h' hle => by
    cases e : (gt s.heap) h'.objs.size with
    | none => rfl
    | some o => exact absurd (Heap.lt_size (gt_get e)) (Nat.not_lt.mpr hle)
  have nt : ∀ (h' : Heap), s.heap.objs.size ≤ h'.objs.size → h'.objs.size ∉ tbs := fun h' hle q => by
    exact absurd (hti.2 _ q) (Nat.not_lt.mpr hle)
  rcases hc with hnone | ⟨c, hsome, hcd⟩
  · refine PySem.W.makeFunction_K hcl S.glb hg hcode Cd eP tri hnone ((by decide : ∀ p ∈ tbs, mainGlobals ≠ p) _ hPt) bn fun c' ctv doc h' tk hx hge hlt hrec hP' => ?_
    have hle : s.heap.objs.size ≤ h'.objs.size := Nat.le_of_lt (Nat.lt_of_le_of_lt hge hlt)
    have hk' : ∀ b o, b ≠ t.P → s.heap.get? b = some o → (h'.push (PySem.W.fnMade name t.qual params body scope clos doc ((F.X.mg "__name__").getD .none) c' ctv)).get? b = some o := fun b o q e => Heap.get?_push_of_some _ (hx b o q e)
    have esz : (h'.push (PySem.W.fnMade name t.qual params body scope clos doc ((F.X.mg "__name__").getD .none) c' ctv)).objs.size - 1 = h'.objs.size := by rw [Heap.size_push]; omega
    have hrec' : (h'.push (PySem.W.fnMade name t.qual params body scope clos doc ((F.X.mg "__name__").getD .none) c' ctv)).CodeRec (.ref c') t.qual := hrec.push _
    have ti' : TI (h'.push (PySem.W.fnMade name t.qual params body scope clos doc ((F.X.mg "__name__").getD .none) c' ctv)) := by
      refine ⟨fun t' ht' => ?_, fun a ha => by rw [Heap.size_push]; exact Nat.lt_succ_of_lt (Nat.lt_of_lt_of_le (hti.2 a ha) hle)⟩
      by_cases q : t'.P = t.P
      · have := tabP_inj t ht t' ht' q
        subst this
        refine ⟨ps ++ #[rawInt t'.pos.line, rawInt t'.pos.col, .ref c'], Heap.get?_push_of_some _ hP', ?_, .inr ⟨c', ?_, ?_⟩⟩
        · rw [Array.toList_append]; exact TriplesOk_snoc _ _ _ _ tri
        · rw [Array.toList_append]; exact codeAmong_snoc _ tri hnone
        · obtain ⟨c1, o, vs, u, e0, e1, e2, e3⟩ := hrec'
          cases e0
          exact ⟨o, vs, u, e1, e2, e3⟩
      · obtain ⟨ps', eP', tri', hc'⟩ := hti.1 t' ht'
        exact ⟨ps', hk' _ _ q eP', tri', hc'.imp id fun ⟨c, e, hcd⟩ => by
          have hne := isCd_ne hcd eP tri
          obtain ⟨o, vs, u, e1, e2, e3⟩ := hcd
          exact ⟨c, e, o, vs, u, hk' _ _ hne e1, e2, e3⟩⟩
    have le' : Le (gt s.heap) (gt (h'.push (PySem.W.fnMade name t.qual params body scope clos doc ((F.X.mg "__name__").getD .none) c' ctv))) := fun b o e =>
      gt_of (hk' b o (fun q => gt_tb e (q ▸ hPt)) (gt_get e)) (gt_tb e)
    refine ⟨Kp.of ⟨le', fun _ => ti'⟩, doc, .ref c', ctv, ?_, ?_, ?_, hrec'⟩
    · exact congrArg Value.ref esz.symm
    · show (gt s.heap) ((h'.push _).objs.size - 1) = none
      rw [esz]; exact fresh h' hle
    · show gt (h'.push _) ((h'.push _).objs.size - 1) = _
      rw [esz]
      exact gt_of (Heap.get?_push_size _ rfl) (nt h' hle)
  · refine PySem.W.makeFunction_hit hcl S.glb hg hcode Cd eP tri hsome bn fun ctv doc h' tk hk hle => ?_
    have hk' : ∀ b o, s.heap.get? b = some o → (h'.push { cls := .type "function", data := .func (PySem.W.fnX name t.qual params body scope clos .none .none doc ((F.X.mg "__name__").getD .none) none (.ref c) ctv) }).get? b = some o := fun b o e => Heap.get?_push_of_some _ (hk b o e)
    have esz : (h'.push { cls := .type "function", data := .func (PySem.W.fnX name t.qual params body scope clos .none .none doc ((F.X.mg "__name__").getD .none) none (.ref c) ctv) }).objs.size - 1 = h'.objs.size := by rw [Heap.size_push]; omega
    refine ⟨Kp.of (Rw.raw hk'), doc, .ref c, ctv, ?_, ?_, ?_, ?_⟩
    · exact congrArg Value.ref esz.symm
    · show (gt s.heap) ((h'.push _).objs.size - 1) = none
      rw [esz]; exact fresh h' hle
    · show gt (h'.push _) ((h'.push _).objs.size - 1) = _
      rw [esz]
      exact gt_of (Heap.get?_push_size _ rfl) (nt h' hle)
    · obtain ⟨o, vs, u, e1, e2, e3⟩ := hcd
      exact ⟨c, o, vs, u, rfl, hk' _ _ e1, e2, e3⟩
end
end Mine
end

section
open PySem PySem.Calls PyProof.Rows
set_option Elab.async false
set_option maxRecDepth 100000
namespace Mine
section
variable {F : Fx} {Hc M : List Addr} {G : Nat → Addr} {env : Env} {σ : List Sl} {B : Gt} {s₀ s : Shared} {A : Around}
theorem def_run {i : Nat} {name : Str} {params : Arguments} {body : List Stmt} {scope : Scope} {t : TabR} {Q : Flow → Shared → Prop} (S : StP F Hc M G env σ B s₀ s) (ht : t ∈ tabL) (hcode : env.code = .ref t.c) (hq : qualnameIn env name name = t.qual)
    (hx : F.nm[i]? = some name) (hst : storable F.sc name = true) (hd0 : params.defaults = []) (hk0 : params.kw_defaults = []) (ha : annTrees params none env = []) (hfree : ∀ y ∈ scope.names, y.2 = .free → F.sc.lookup y.1 = some .cell)
    (h : ∀ s' a fd, StP F Hc M G env (σ.set i (.fr (.ptr a))) B s₀ s' → a ∉ M → a ∉ Hc → (∃ o, gt s'.heap a = some o ∧ o.data = .func fd) → s'.heap.CodeRec fd.code fd.qualname →
      (∃ doc pm cv ctv, fd = PySem.W.fnX name t.qual params body scope (closL env.cells scope.names []) .none .none doc pm none cv ctv) → Q .next s') :
    wpAny (Md F.X) A (exec (.FunctionDef name params body [] none [] scope none name t.pos) env) Q E0 s := by
  refine PySem.W.nestDef_K hd0 hk0 ha ?_
  rw [hq]
  refine nx (mk_fn S.ev ht hcode (closureFor_eq fun y hy hf => (S.ev.ck y.1 (hfree y hy hf)).2)) fun v s₁ g hp => ?_
  obtain ⟨doc, cv, ctv, rfl, hn, hob, hrec⟩ := hp
  obtain ⟨_, _, u3, u4, _⟩ := S.unB hn
  have S₁ := S.mono g.1 g.2
  refine S₁.rebase.store (sl := .fr (.ptr (s₁.heap.objs.size - 1))) hx (storable_spec hst) (.inl ⟨_, rfl, .mkP⟩) (fun _ _ => rfl) fun s₂ S₂ hc => ?_
  obtain ⟨ac, hsame, hnc⟩ := hc
  have k₂ : Le (vis M s₁.heap) (vis M s₂.heap) := S₂.kp
  have hob2 := (vis_get (k₂ _ _ (vis_of hob u3))).1
  refine h s₂ _ _ (S₂.base S₁.kp) u3 u4 ⟨_, hob2, rfl⟩ ?_ ⟨doc, _, cv, ctv, rfl⟩
  -- the code object is not what the store changes
  obtain ⟨c, o, vs, u, rfl, e1, e2, e3⟩ := hrec
  have hne : c ≠ ac := by
    rintro rfl
    rcases hnc o e1 with q | ⟨q1, q2⟩
    · exact q vs e2
    · exact q2 vs e2 _ _ e3
  exact ⟨c, o, vs, u, rfl, hsame.extBut c o hne e1, e2, e3⟩
end
end Mine
end

section
open PySem PySem.Calls PyProof.Rows
set_option Elab.async false
set_option maxRecDepth 100000
namespace Mine
structure FnAtC (X : Cx) (a : Addr) (fd : FuncData) (body : List Stmt) (ps : List Str) (cl : List (Str × Addr)) : Prop where
  ob : ∃ o, X.h0.get? a = some o ∧ o.data = .func fd
  cd : X.h0.CodeRec fd.code fd.qualname
  gl : fd.globals = mainGlobals
  bl : fd.builtins = builtinsNs
  cl : fd.closure = cl
  bd : fd.body = .stmts body
  bind : ∀ vals : List Value, vals.length = ps.length → bindArgs fd ⟨vals, []⟩ = pure (ps.zip vals)
  co : fd.scope.isCoroutine = false
  gen : fd.scope.isGenerator = false
  kind : fd.scope.kind = .function
  nc : ∀ x ∈ fd.scope.names, x.2 ≠ .cell
  lc : ∀ x ∈ ps, fd.scope.names.lookup x = some .local
  nd : ps.Nodup
noncomputable def envI (fd : FuncData) (L a : Addr) : Env := newEnv fd.scope L fd.globals fd.closure (fd.qualname ++ ".<locals>.") (some a) fd.code none fd.builtins
section
variable {X : Cx} {F : Fx} {fd : FuncData} {body : List Stmt} {ps : List Str} {a : Addr} {cl : List (Str × Addr)}
theorem zip_lookup : ∀ (ps : List Str) (vals : List Value) (i : Nat) (x : Str) (v : Value), ps.Nodup → ps[i]? = some x → vals[i]? = some v → (ps.zip vals).reverse.lookup x = some v := by
  have key : ∀ (ps : List Str) (vals : List Value) (i : Nat) (x : Str) (v : Value), ps.Nodup → ps[i]? = some x → vals[i]? = some v → (x, v) ∈ ps.zip vals ∧ ∀ u, (x, u) ∈ ps.zip vals → u = v := by
    intro ps
    induction ps with
    | nil => intro vals i x v _ h _; simp at h
    | cons p ps ih =>
      intro vals i x v nd h h'
      obtain ⟨n1, n2⟩ := List.nodup_cons.mp nd
      cases vals with
      | nil => simp at h'
      | cons w vals =>
        cases i with
        | zero =>
          simp at h h'
          subst h h'
          refine ⟨.head _, fun u hu => ?_⟩
          rcases List.mem_cons.mp hu with q | q
          · exact congrArg Prod.snd q
          · exact absurd (List.of_mem_zip q).1 n1
        | succ i =>
          simp at h h'
          obtain ⟨h1, h2⟩ := ih vals i x v n2 h h'
          refine ⟨.tail _ h1, fun u hu => ?_⟩
          rcases List.mem_cons.mp hu with q | q
          · cases q; exact absurd (List.mem_of_getElem? h) n1
          · exact h2 u q
  intro ps vals i x v nd h h'
  obtain ⟨h1, h2⟩ := key ps vals i x v nd h h'
  cases e : (ps.zip vals).reverse.lookup x with
  | some u =>
    have := mem_of_lookup e
    rw [h2 u (List.mem_reverse.mp this)]
  | none =>
    exfalso
    have key2 : ∀ l : List (Str × Value), l.lookup x = none → ∀ u, (x, u) ∉ l := by
      intro l
      induction l with
      | nil => intro _ u h; cases h
      | cons p l ih =>
        intro hl u hu
        obtain ⟨y, w⟩ := p
        rw [List.lookup_cons] at hl
        cases hxy : x == y with
        | true => rw [hxy] at hl; cases hl
        | false =>
          rw [hxy] at hl
          rcases List.mem_cons.mp hu with q | q
          · cases q; simp at hxy
          · exact ih hl u q
    exact key2 _ e v (List.mem_reverse.mpr h1)
/-- a call of a function with cells of an outer frame's -/
theorem call_skel (W : Wd X) (Z : FnAtC X a fd body ps cl) {A : Around} {s : Shared} {k : Nat} {vals : List Value} {Q : Value → Shared → Prop} (R : Rm (k + 1) A) (w0 : Le X.h0.get? (gt s.heap)) (hl : vals.length = ps.length)
    (h : ∀ h', h'.Ns s.heap.objs.size (fun x => (ps.zip vals).reverse.lookup x) → Heap.SameBut s.heap.objs.size (s.heap.push { cls := .type "frame", data := .dict #[] }) h' →
      wpAny (Md X) (A.deeper (envI fd s.heap.objs.size a)) (execs body (envI fd s.heap.objs.size a)) (fun f s' => Q (match f with | .ret v => v | _ => .none) s') E0 { s with heap := h', toks := s.toks + (ps.zip vals).length }) :
    wpAny (Md X) A (call (.ref a) vals) Q E0 s := by
  obtain ⟨o, ho, hd⟩ := Z.ob
  refine wpAny_call ?_
  refine codeAny_call_function (by have := R.dp; have : recursionLimit = 1000 := rfl; omega) (gt_get (w0 _ _ ho)) hd Z.co Z.gen Z.bd (Z.cd.keeps (w0r w0)) ?_
  rw [Z.bind vals hl]
  refine wpAny_pure ?_
  refine wpAny_newFunctionEnv Z.nc (fun x hx => Z.lc _ (List.of_mem_zip hx).1) (fun h' hn hs => ?_) Z.kind
  have kk : ∀ b o, s.heap.get? b = some o → h'.get? b = some o := fun b o e => hs.extBut b o (fun q => by rw [q] at e; exact Nat.lt_irrefl _ (Heap.lt_size e)) (Heap.get?_push_of_some _ e)
  refine ⟨W.nl.keeps fun b o e => kk b o (gt_get (w0 b o e)), codeAny_func ?_⟩
  exact wpAny_mono (h h' hn hs) (fun f s₂ h₂ => h₂) fun _ _ e => e.elim
/-- its frame at the entry: Mo is the outer list that it may change, if any -/
theorem entryC (W : Wd F.X) (Z : FnAtC F.X a fd body ps cl) {s : Shared} {H Mo : List Addr} {g : Addr} {vals : List Value} {ds : List D} {rest fv : List Str} {σf : List Sl} {h' : Heap} (hsn : F.sc = fd.scope.names) (hcl : F.cl = cl)
    (hnm : F.nm = ps ++ (rest ++ fv)) (hnd : F.nm.Nodup) (hnn : ∀ x ∈ F.nm, (x == ("__debug__" : Str)) = false ∧ (x == ("__classdict__" : Str)) = false) (hsl : σf.length = fv.length)
    (w0 : Le F.X.h0.get? (gt s.heap)) (HB : HBd (Mo ++ H) s.heap) (tk : 1 ≤ s.toks) (hr : Reps F.X.C (vis (Mo ++ H) s.heap) ds vals) (hlen : ds.length = ps.length)
    (hcu : ∀ p ∈ cl, cl.lookup p.1 = some p.2 ∧ fd.scope.names.lookup p.1 = some .free)
    (hci : ∀ x y c, cl.lookup x = some c → cl.lookup y = some c → x = y) (hcv : ∀ x c, cl.lookup x = some c → ∃ v, CelV s.heap c v)
    (hMo : ∀ b ∈ Mo, b = g ∧ F.X.h0.get? b = none ∧ b ∉ H)
    (hfu : ∀ (i j : Nat) xs ys, σf[i]? = some (.ow xs) → σf[j]? = some (.ow ys) → i = j)
    (hf : ∀ (j : Nat) x sl, fv[j]? = some x → σf[j]? = some sl → fd.scope.names.lookup x = some .free ∧ ∃ c v, cl.lookup x = some c ∧ CelV s.heap c (some v) ∧ match sl with
      | .un => True
      | .fr d => Rep F.X.C (vis (Mo ++ H) s.heap) d v
      | .ow xs => v = .ref g ∧ g ∈ Mo ∧ ∃ vs, IsSq (gt s.heap) false g vs ∧ Reps F.X.C (vis (Mo ++ H) s.heap) xs vs)
    (hn : h'.Ns s.heap.objs.size (fun x => (ps.zip vals).reverse.lookup x)) (hs : Heap.SameBut s.heap.objs.size (s.heap.push { cls := .type "frame", data := .dict #[] }) h') :
    StP F H (s.heap.objs.size :: Mo) (fun _ => g) (envI fd s.heap.objs.size a) (ds.map Sl.fr ++ (List.replicate rest.length Sl.un ++ σf)) (vis Mo s.heap) s { s with heap := h', toks := s.toks + (ps.zip vals).length } := by
  have kk : ∀ b o, s.heap.get? b = some o → h'.get? b = some o := fun b o e => hs.extBut b o (fun q => by rw [q] at e; exact Nat.lt_irrefl _ (Heap.lt_size e)) (Heap.get?_push_of_some _ e)
  have rw0 : Rw s.heap h' := Rw.raw kk
  have hL : s.heap.objs.size ∉ tbs := HB.ti.new
  have ns1 : NsV h' s.heap.objs.size _ := ⟨hn, hL⟩
  have fresh : ∀ b o, (gt s.heap) b = some o → b ≠ s.heap.objs.size := fun b o e q => by rw [q] at e; exact Nat.lt_irrefl _ (Heap.lt_size (gt_get e))
  have v1 : Le (vis (Mo ++ H) s.heap) (vis (s.heap.objs.size :: Mo ++ H) h') := fun b o e => by
    obtain ⟨e1, e2⟩ := vis_get e
    refine vis_of (rw0.1 b o e1) fun q => ?_
    rcases List.mem_cons.mp q with q | q
    · exact fresh b o e1 q
    · exact e2 q
  have hkind : ∀ x, (envI fd s.heap.objs.size a).kindOf x = fd.scope.names.lookup x := fun _ => rfl
  have hcells : (envI fd s.heap.objs.size a).cells = cl := Z.cl
  have hML : ∀ b ∈ Mo, b ≠ s.heap.objs.size := fun b hb => by
    obtain ⟨o, e⟩ := HB.al b (List.mem_append_left _ hb)
    exact fresh b o e
  -- a slot is a parameter, a name not bound yet, or a name of the outer frame's
  have slots : ∀ (i : Nat) x sl, F.nm[i]? = some x → (ds.map Sl.fr ++ (List.replicate rest.length Sl.un ++ σf))[i]? = some sl → (∃ d, ds[i]? = some d ∧ ps[i]? = some x ∧ sl = .fr d) ∨ sl = .un ∨ (∃ j, i = ps.length + rest.length + j ∧ fv[j]? = some x ∧ σf[j]? = some sl) := fun i x sl hi h => by
    by_cases h1 : i < ds.length
    · rw [List.getElem?_append_left (by simpa using h1), List.getElem?_map] at h
      obtain ⟨d, e1, e2⟩ := Option.map_eq_some_iff.mp h
      rw [hnm, List.getElem?_append_left (by omega)] at hi
      exact .inl ⟨d, e1, hi, e2.symm⟩
    · rw [List.getElem?_append_right (by simpa using h1), List.length_map] at h
      by_cases h2 : i - ds.length < rest.length
      · rw [List.getElem?_append_left (by simpa using h2)] at h
        exact .inr (.inl (List.eq_of_mem_replicate (List.mem_of_getElem? h)))
      · rw [List.getElem?_append_right (by simpa using h2), List.length_replicate] at h
        rw [hnm, List.getElem?_append_right (by omega), List.getElem?_append_right (by omega)] at hi
        refine .inr (.inr ⟨i - ds.length - rest.length, by omega, ?_, h⟩)
        rw [← hi]; congr 1; omega
  have ows : ∀ (i : Nat) xs, (ds.map Sl.fr ++ (List.replicate rest.length Sl.un ++ σf))[i]? = some (.ow xs) → ∃ j x, i = ps.length + rest.length + j ∧ fv[j]? = some x ∧ σf[j]? = some (.ow xs) := fun i xs h => by
    have hil : i < F.nm.length := by
      have := (List.getElem?_eq_some_iff.mp h).1
      rw [hnm]
      simp only [List.length_append, List.length_map, List.length_replicate] at this ⊢
      omega
    rcases slots i F.nm[i] _ (List.getElem?_eq_getElem hil) h with ⟨d, _, _, q⟩ | q | ⟨j, e, e1, e2⟩
    · cases q
    · cases q
    · exact ⟨j, _, e, e1, e2⟩
  refine ⟨⟨Z.kind, Z.gl, Z.bl, fun x h => (hkind x).trans (hsn ▸ h), fun x h => absurd rfl (Z.nc _ (mem_of_lookup (hsn ▸ h))), fun i x sl hi hsl => ?_, hnn, ⟨rw0.2 HB.ti, fun b hb => ?_⟩, fun b o e => rw0.1 b o (w0 b o e), Nat.le_trans tk (Nat.le_add_right _ _), W, fun p hp => ?_⟩,
    ⟨_, ns1⟩, .head _, fun x h => (hkind x).trans (hsn ▸ h), fun x c h => ?_, fun x y c h1 h2 => hci x y c (hcells ▸ h1) (hcells ▸ h2), fun i xs h => ?_, fun i j xs ys h1 h2 _ => ?_, hnd, fun b hb => ?_, fun b o e => ?_, ⟨h', _, _, rfl⟩⟩
  · rcases slots i x sl hi hsl with ⟨d, hd, hp, rfl⟩ | rfl | ⟨j, e, e1, e2⟩
    · obtain ⟨v, hv, rv⟩ := hr.get hd
      exact ⟨v, .inl ⟨(hkind x).trans (Z.lc x (List.mem_of_getElem? hp)), _, ns1, zip_lookup ps vals i x v Z.nd hp hv⟩, rv.mono v1⟩
    · trivial
    · obtain ⟨k1, c, v, k2, k3, k4⟩ := hf j x sl e1 e2
      have va : VarAt (envI fd s.heap.objs.size a) h' x v := .inr ⟨.inr ((hkind x).trans k1), c, hcells ▸ k2, k3.keeps rw0.1⟩
      cases sl with
      | un => trivial
      | fr d => exact ⟨v, va, Rep.mono v1 d v k4⟩
      | ow xs =>
        obtain ⟨rfl, hg, vs, k5, k6⟩ := k4
        exact ⟨vs, va, k5.mono rw0.1, k6.mono v1⟩
  · rcases List.mem_cons.mp hb with q | q
    · rw [q]; exact ns1.al
    · obtain ⟨o, e⟩ := HB.al b q; exact ⟨o, rw0.1 b o e⟩
  · obtain ⟨q1, q2⟩ := hcu p (hcl ▸ hp)
    exact ⟨by rw [hcells]; exact q1, fun q => by rw [hkind, q2] at q; cases q⟩
  · obtain ⟨v, e⟩ := hcv x c (hcells ▸ h)
    exact ⟨⟨v, e.keeps rw0.1⟩, fun q => absurd rfl (Z.nc _ (mem_of_lookup ((hkind x).symm.trans q)))⟩
  · obtain ⟨j, x, e, e1, e2⟩ := ows i xs h
    obtain ⟨k1, c, v, k2, k3, k4⟩ := hf j x _ e1 e2
    obtain ⟨rfl, hg, vs, k5, k6⟩ := k4
    refine ⟨.tail _ hg, (hMo g hg).2.2, hML g hg, fun y c' hc' q => ?_⟩
    obtain ⟨v', e'⟩ := hcv y c' (hcells ▸ hc')
    exact sq_ne_cell k5 e' q.symm
  · obtain ⟨j1, x1, e, e1, e2⟩ := ows i xs h1
    obtain ⟨j2, x2, e', e1', e2'⟩ := ows j ys h2
    have := hfu j1 j2 xs ys e2 e2'
    omega
  · rcases List.mem_cons.mp hb with q | q
    · rw [q]
      cases e : F.X.h0.get? s.heap.objs.size with
      | none => rfl
      | some o => exact absurd rfl (fresh _ o (w0 _ _ e))
    · exact (hMo b q).2.1
  · obtain ⟨e1, e2⟩ := vis_get e
    refine vis_of (rw0.1 b o e1) fun q => ?_
    rcases List.mem_cons.mp q with q | q
    · exact fresh b o e1 q
    · exact e2 q
/-- a call that changes nothing of the outer frame's -/
theorem fn_runC (W : Wd F.X) (Z : FnAtC F.X a fd body ps cl) {A : Around} {s : Shared} {H : List Addr} {vals : List Value} {ds : List D} {rest fv : List Str} {σf σ' : List Sl} {d : D} (hsn : F.sc = fd.scope.names) (hcl : F.cl = cl)
    (hnm : F.nm = ps ++ (rest ++ fv)) (hnd : F.nm.Nodup) (hnn : ∀ x ∈ F.nm, (x == ("__debug__" : Str)) = false ∧ (x == ("__classdict__" : Str)) = false) (hsl : σf.length = fv.length)
    (R : Rm (F.k + 1) A) (w0 : Le F.X.h0.get? (gt s.heap)) (HB : HBd H s.heap) (tk : 1 ≤ s.toks) (hr : Reps F.X.C (vis H s.heap) ds vals) (hlen : ds.length = ps.length)
    (hcu : ∀ p ∈ cl, cl.lookup p.1 = some p.2 ∧ fd.scope.names.lookup p.1 = some .free)
    (hci : ∀ x y c, cl.lookup x = some c → cl.lookup y = some c → x = y) (hcv : ∀ x c, cl.lookup x = some c → ∃ v, CelV s.heap c v)
    (hf : ∀ (j : Nat) x sl, fv[j]? = some x → σf[j]? = some sl → fd.scope.names.lookup x = some .free ∧ ∃ c v, cl.lookup x = some c ∧ CelV s.heap c (some v) ∧ ∃ d, sl = .fr d ∧ Rep F.X.C (vis H s.heap) d v)
    (ev : ExSs F (ds.map Sl.fr ++ (List.replicate rest.length Sl.un ++ σf)) body (.rt d) σ') : Yx F.X H A (call (.ref a) vals) s d := by
  have noow : ∀ (i : Nat) xs, σf[i]? ≠ some (.ow xs) := fun i xs e => by
    have hi : i < fv.length := by rw [← hsl]; exact (List.getElem?_eq_some_iff.mp e).1
    obtain ⟨_, c, v, _, _, d, q, _⟩ := hf i fv[i] _ (List.getElem?_eq_getElem hi) e
    cases q
  refine call_skel W Z R w0 (by rw [hr.length, hlen]) fun h' hn hs => ?_
  have S := entryC (Mo := []) (g := 0) W Z hsn hcl hnm hnd hnn hsl w0 HB tk hr hlen hcu hci hcv (fun b hb => nomatch hb) (fun i j xs ys e => absurd e (noow i xs)) (fun j x sl e1 e2 => by
    obtain ⟨k1, c, v, k2, k3, d, rfl, k4⟩ := hf j x sl e1 e2
    exact ⟨k1, c, v, k2, k3, k4⟩) hn hs
  refine wpAny_mono (ev _ _ _ _ _ _ _ (A.deeper (envI fd s.heap.objs.size a)) S R.deep) (fun f s₂ h₂ => ?_) fun _ _ e => e.elim
  obtain ⟨v, rfl, rv, M₂, G₂, S₂⟩ := h₂
  obtain ⟨h, t, d, rfl⟩ := S₂.sh
  exact ⟨⟨h, t, d, rfl, S₂.kp.trans (vis_le _ _), fun _ => S₂.ev.hb.ti⟩, rv⟩
end
end Mine
end

section
open PySem PySem.Calls PyProof.Rows
set_option Elab.async false
set_option maxRecDepth 100000
namespace Mine
section
variable {F : Fx} {H Hc M : List Addr} {G : Nat → Addr} {env : Env} {σ : List Sl} {B : Gt} {s₀ s : Shared} {A : Around}
noncomputable abbrev Fx.re (F : Fx) (h : Heap) : Fx := { F with X := F.X.re h }
theorem EvSt.re (S : EvSt F H G env σ s) : EvSt (F.re s.heap) H G env σ s :=
  ⟨S.kind, S.glb, S.blt, S.gk, S.ck, S.vars, S.nms, S.hb, re_w0 F.X s.heap, S.tk, S.W.re S.w0, S.clo⟩
theorem EvSt.withCl (S : EvSt F H G env σ s) {cl : List (Str × Addr)} (h : ∀ p ∈ cl, env.cells.lookup p.1 = some p.2 ∧ env.kindOf p.1 ≠ some .local) : EvSt { F with cl := cl } H G env σ s :=
  ⟨S.kind, S.glb, S.blt, S.gk, S.ck, S.vars, S.nms, S.hb, S.w0, S.tk, S.W, h⟩
theorem slot_cell (S : EvSt F H G env σ s) {i : Nat} {x : Str} {d : D} (hx : F.nm[i]? = some x) (hs : σ[i]? = some (.fr d)) (hk : F.sc.lookup x = some .cell) : ∃ c v, env.cells.lookup x = some c ∧ CelV s.heap c (some v) ∧ Rep F.X.C (vis H s.heap) d v := by
  obtain ⟨v, hv, hr⟩ := S.vars i x _ hx hs
  rcases hv with ⟨hl, _⟩ | ⟨_, c, hc, hcv⟩
  · rw [(S.ck x hk).1] at hl; cases hl
  · exact ⟨c, v, hc, hcv, hr⟩
theorem closL_mem (cells : List (Str × Addr)) : ∀ (names : Sc) (acc : List (Str × Addr)) (p : Str × Addr), p ∈ closL cells names acc → p ∈ acc ∨ ((p.1, NameKind.free) ∈ names ∧ p.2 = (cells.lookup p.1).getD 0)
  | [], acc, p, h => .inl h
  | (n, k) :: r, acc, p, h => by
    unfold closL at h
    split at h
    · rename_i q
      have hk : k = .free := by simpa using q
      subst hk
      rcases closL_mem cells r _ p h with h | ⟨h1, h2⟩
      · rcases List.mem_cons.mp h with rfl | h
        · exact .inr ⟨.head _, rfl⟩
        · exact .inl h
      · exact .inr ⟨.tail _ h1, h2⟩
    · rcases closL_mem cells r _ p h with h | ⟨h1, h2⟩
      · exact .inl h
      · exact .inr ⟨.tail _ h1, h2⟩
theorem clos_get (cells : List (Str × Addr)) (names : Sc) {y : Str} {c : Addr} (hy : (y, NameKind.free) ∈ names) (hc : cells.lookup y = some c) : (closL cells names []).lookup y = some c := by
  rw [closL_lookup, if_pos hy, hc]; rfl
theorem clos_inv (cells : List (Str × Addr)) (names : Sc) {y : Str} {c : Addr} (hfree : ∀ y, (y, NameKind.free) ∈ names → ∃ c, cells.lookup y = some c) (h : (closL cells names []).lookup y = some c) : (y, NameKind.free) ∈ names ∧ cells.lookup y = some c := by
  rw [closL_lookup] at h
  split at h
  · rename_i q
    obtain ⟨c', hc'⟩ := hfree y q
    rw [hc'] at h ⊢
    exact ⟨q, h⟩
  · cases h
theorem clos_cu (cells : List (Str × Addr)) (names : Sc) (hl : ∀ y ∈ names, y.2 = .free → names.lookup y.1 = some .free) : ∀ p ∈ closL cells names [], (closL cells names []).lookup p.1 = some p.2 ∧ names.lookup p.1 = some .free := fun p hp => by
  rcases closL_mem cells names [] p hp with h | ⟨h1, h2⟩
  · cases h
  · refine ⟨?_, hl _ h1 rfl⟩
    rw [closL_lookup, if_pos h1, h2]
theorem cell_re {X : Cx} {h : Heap} {c : Addr} {v : Value} (x : CelV h c (some v)) : ∃ o, (X.re h).h0.get? c = some o ∧ o.data = .cell (some v) := by
  obtain ⟨⟨o, e, r⟩, n⟩ := x
  exact ⟨o, by show (gho h).get? c = some o; rw [gho_get]; exact gt_of e n, r⟩
theorem codeRec_re {X : Cx} {h : Heap} {cd : Value} {q : Str} (ti : TI h) (x : h.CodeRec cd q) : (X.re h).h0.CodeRec cd q := by
  obtain ⟨c, o, vs, u, rfl, e1, e2, e3⟩ := x
  refine ⟨c, o, vs, u, rfl, ?_, e2, e3⟩
  show (gho h).get? c = some o
  rw [gho_get]
  refine gt_of e1 fun qm => ?_
  have key : ∀ c' ∈ tbs, ∃ r ∈ tabL, r.P = c' := by decide
  obtain ⟨r, hr, hP⟩ := key c qm
  obtain ⟨ps, eP, tri, _⟩ := ti.1 r hr
  exact isCd_ne ⟨o, vs, u, e1, e2, e3⟩ eP tri hP.symm
/-- the made function, in the ghost heap -/
theorem fnAtC_re {X : Cx} {h : Heap} {a : Addr} {fd : FuncData} {name qual : Str} {params : Arguments} {body : List Stmt} {scope : Scope} {cl : List (Str × Addr)} {ps : List Str} (ti : TI h) (hob : ∃ o, gt h a = some o ∧ o.data = .func fd) (hrec : h.CodeRec fd.code fd.qualname)
    (hfd : ∃ doc pm cv ctv, fd = PySem.W.fnX name qual params body scope cl .none .none doc pm none cv ctv)
    (hb : ∀ doc pm cv ctv, ∀ vals : List Value, vals.length = ps.length → bindArgs (PySem.W.fnX name qual params body scope cl .none .none doc pm none cv ctv) ⟨vals, []⟩ = pure (ps.zip vals))
    (co : scope.isCoroutine = false) (gen : scope.isGenerator = false) (kind : scope.kind = .function) (nc : ∀ x ∈ scope.names, x.2 ≠ .cell) (lc : ∀ x ∈ ps, scope.names.lookup x = some .local) (nd : ps.Nodup) :
    FnAtC (X.re h) a fd body ps cl := by
  obtain ⟨doc, pm, cv, ctv, rfl⟩ := hfd
  obtain ⟨o, ho, hd⟩ := hob
  exact ⟨⟨o, by show (gho h).get? a = some o; rw [gho_get]; exact ho, hd⟩, codeRec_re ti hrec, rfl, rfl, rfl, rfl, hb doc pm cv ctv, co, gen, kind, nc, lc, nd⟩
end
/-- a function of the module that makes one of its own -/
structure FnD (X : Cx) (n : Str) (a : Addr) (b : List Stmt) (ps : List Str) (ns : Sc) (c : Addr) (qual : Str) : Prop where
  g : GFn X n a
  f : ∃ fd, FnAt X a fd b ps ∧ fd.scope.names = ns ∧ fd.code = .ref c ∧ fd.qualname = qual
theorem fn_ctD {X : Cx} {n : Nat} {a : Addr} {b ps ns nm c qual} (rest : List Str) {ds : List D} {d : D} (W : Wd X) (h : ∃ fd, FnAt X a fd b ps ∧ fd.scope.names = ns ∧ fd.code = .ref c ∧ fd.qualname = qual) (k : Nat) (hk : k + 1 ≤ n) (hnm : nm = ps ++ rest) (hsc : scopeOk nm ps ns = true)
    (hlen : ds.length = ps.length) (ev : ∀ Hc M G env B s₀ s A, env.code = .ref c → env.qual = qual ++ ".<locals>." → (∀ x, env.kindOf x = ns.lookup x) → StP ⟨X, k, nm, ns, []⟩ Hc M G env (ds.map Sl.fr ++ List.replicate rest.length Sl.un) B s₀ s → Rm k A → wpAny (Md X) A (execs b env) (fun f s' => ∃ σ', Fi ⟨X, k, nm, ns, []⟩ Hc env B s₀ (.rt d) σ' f s') E0 s) : Ct X n a ds d := by
  obtain ⟨fd, Z, rfl, hc, hq⟩ := h
  refine (fn_core (F := ⟨X, k, nm, fd.scope.names, []⟩) W Z rfl rfl hnm hsc hlen fun L Hc M G B s₀ s A S R => ev Hc M G _ B s₀ s A hc ?_ (fun _ => rfl) S R).up hk
  show fd.qualname ++ ".<locals>." = _
  rw [hq]
end Mine
end

section
open PySem PySem.Calls PyProof.Rows
set_option Elab.async false
set_option maxRecDepth 100000
namespace Mine
section
variable {F : Fx} {H Hc M : List Addr} {G : Nat → Addr} {env : Env} {σ : List Sl} {B : Gt} {s₀ s : Shared} {A : Around}
theorem StP.updG (S : StP F Hc M G env σ B s₀ s) {j : Nat} {xs xs' : List D} {vs' : List Value} {h' : Heap} {t : Nat} (hs : σ[j]? = some (.ow xs)) (hk : Le (vis [G j] s.heap) (vis [G j] h')) (ti : TI h')
    (hq : IsSq (gt h') false (G j) vs') (hr : Reps F.X.C (vis (M ++ Hc) h') xs' vs') (ht : s.toks ≤ t) : StP F Hc M G env (σ.set j (.ow xs')) B s₀ { s with heap := h', toks := t } := by
  obtain ⟨hM, hHc, hloc, hcell⟩ := S.ow j xs hs
  obtain ⟨m, hm⟩ := S.ns
  have keep : ∀ b o, b ≠ G j → (gt s.heap) b = some o → (gt h') b = some o := fun b o hb e => (vis_get (hk b o (vis_of e (by simpa using hb)))).1
  have visK : ∀ L, G j ∈ L → Le (vis L s.heap) (vis L h') := fun L hL b o e => by
    obtain ⟨e1, e2⟩ := vis_get e
    exact vis_of (keep b o (fun q => e2 (q ▸ hL)) e1) e2
  have va : ∀ y u, VarAt env s.heap y u → VarAt env h' y u := by
    intro y u hu
    rcases hu with ⟨h1, m₂, h2, h3⟩ | ⟨h1, c, h2, h3⟩
    · exact .inl ⟨h1, m₂, h2.at' fun o e => keep _ o (Ne.symm hloc) e, h3⟩
    · exact .inr ⟨h1, c, h2, h3.at' fun o e => keep _ o (hcell y c h2) e⟩
  have owi : ∀ (i : Nat) (ys : List D), (σ.set j (.ow xs'))[i]? = some (Sl.ow ys) → ∃ zs, σ[i]? = some (Sl.ow zs) := fun i ys h => by
    by_cases hij : i = j
    · subst hij; exact ⟨xs, hs⟩
    · rw [List.getElem?_set_ne (Ne.symm hij)] at h; exact ⟨ys, h⟩
  refine ⟨⟨S.ev.kind, S.ev.glb, S.ev.blt, S.ev.gk, S.ev.ck, fun i y sl hi hsl => ?_, S.ev.nms, ⟨ti, fun b hb => ?_⟩, fun b o e => keep b o (fun q => ?_) (S.ev.w0 b o e), Nat.le_trans S.ev.tk ht, S.ev.W, S.ev.clo⟩,
    ⟨m, hm.at' fun o e => keep _ o (Ne.symm hloc) e⟩, S.lm, S.ll, fun x c h => ?_, S.ci, fun i ys h => ?_, fun i i' xs₁ ys₁ h1 h2 => ?_, S.nd, S.mf, S.kp.trans (visK M hM), ?_⟩
  · by_cases hij : i = j
    · subst hij
      have := set_lt hsl
      subst this
      obtain ⟨vs, h1, h2, h3⟩ := S.ev.vars i y _ hi hs
      exact ⟨vs', va _ _ h1, hq, hr⟩
    · rw [List.getElem?_set_ne (Ne.symm hij)] at hsl
      exact (S.ev.vars i y sl hi hsl).up (va y) (fun ys vs e q => by
        subst e
        obtain ⟨o, n, e, r⟩ := q
        exact ⟨o, n, keep _ o (fun q => hij (S.oi i j ys xs hsl hs q)) e, r⟩) (visK _ (List.mem_append_left _ hM))
  · by_cases q : b = G j
    · rw [q]; obtain ⟨o, n, e, _⟩ := hq; exact ⟨o, e⟩
    · obtain ⟨o, e⟩ := S.ev.hb.al b hb; exact ⟨o, keep b o q e⟩
  · rw [q, S.mf _ hM] at e; cases e
  · obtain ⟨⟨v, hv⟩, h2⟩ := S.cm x c h
    exact ⟨⟨v, hv.at' fun o e => keep _ o (hcell x c h) e⟩, h2⟩
  · obtain ⟨zs, e⟩ := owi i ys h; exact S.ow i zs e
  · obtain ⟨_, e1⟩ := owi i xs₁ h1; obtain ⟨_, e2⟩ := owi i' ys₁ h2; exact S.oi i i' _ _ e1 e2
  · obtain ⟨h, t', d, rfl⟩ := S.sh; exact ⟨h', t, d, rfl⟩

/-- a call that changes the list at g -/
noncomputable def CtM (X : Cx) (k : Nat) (a g : Addr) (ds : List D) (xs xs' : List D) : Prop := ∀ A s H vals vs, Rm k A → Le X.h0.get? (gt s.heap) → X.h0.get? g = none → HBd (g :: H) s.heap → g ∉ H → 1 ≤ s.toks → Reps X.C (vis (g :: H) s.heap) ds vals →
  IsSq (gt s.heap) false g vs → Reps X.C (vis (g :: H) s.heap) xs vs → wpAny (Md X) A (call (.ref a) vals) (fun v s' => v = .none ∧ (∃ h t d, s' = { s with heap := h, toks := t, drawn := d }) ∧ Le (vis [g] s.heap) (vis [g] s'.heap) ∧ TI s'.heap ∧
    ∃ vs', IsSq (gt s'.heap) false g vs' ∧ Reps X.C (vis (g :: H) s'.heap) xs' vs') E0 s
theorem CtM.up {X k k' a g ds xs xs'} (h : CtM X k a g ds xs xs') (q : k ≤ k') : CtM X k' a g ds xs xs' := fun A s H vals vs R => h A s H vals vs (R.up q)
theorem CtM.cast {X k a g ds xs xs' xs''} (h : CtM X k a g ds xs xs') (q : xs' = xs'') : CtM X k a g ds xs xs'' := q ▸ h
theorem callM_raw {h0' : Heap} {i j : Nat} {x : Str} {a : Addr} {e : Expr} {es : List Expr} {p q r : Pos} {ds xs xs' : List D} {Q : Flow → Shared → Prop} (S : StP F Hc M G env σ B s₀ s) (R : Rm F.k A)
    (SE : EvSt { F with X := { F.X with h0 := h0' } } (M ++ Hc) G env σ s) (hf : ∃ o fd, h0'.get? a = some o ∧ o.data = .func fd) (hx : F.nm[i]? = some x) (hs : σ[i]? = some (.fr (.ptr a))) (hsj : σ[j]? = some (.ow xs)) (hj : ∃ y, F.nm[j]? = some y)
    (he : EvSs { F with X := { F.X with h0 := h0' } } σ (e :: es) ds) (C : CtM { F.X with h0 := h0' } F.k a (G j) ds xs xs') (h0g : h0'.get? (G j) = none)
    (k : ∀ s', StP F Hc M G env (σ.set j (.ow xs')) B s₀ s' → Q .next s') : wpAny (Md F.X) A (exec (.Expr (.Call (.Name x p) (e :: es) [] q) r) env) Q E0 s := by
  obtain ⟨y, hy⟩ := hj
  obtain ⟨hM, hHc, _⟩ := S.ow j xs hsj
  obtain ⟨u, hv, hr⟩ := S.ev.vars i x _ hx hs
  cases hr.ptrI
  obtain ⟨o, fd, ho, hd⟩ := hf
  have pm : ∀ b, b ∈ G j :: (M ++ Hc).filter (· ≠ G j) ↔ b ∈ M ++ Hc := fun b => by
    constructor
    · intro h
      rcases List.mem_cons.mp h with h | h
      · rw [h]; exact List.mem_append_left _ hM
      · exact (List.mem_filter.mp h).1
    · intro h
      by_cases q : b = G j
      · rw [q]; exact .head _
      · exact .tail _ (List.mem_filter.mpr ⟨h, by simpa using q⟩)
  refine wpAny_Expr_any (wpAny_Call_NameR (ld_name S.ev hx hv ?_)) (not_inter S.ev) rfl
  refine callWith_function_kw (o := o) (fd := fd) (args_ev (F := { F with X := { F.X with h0 := h0' } }) he SE R fun vs s₁ g S₁ rv => ⟨⟨gt_get (S₁.w0 _ _ ho), hd⟩, ?_⟩)
  have T := S.mono g.1 g.2
  obtain ⟨us, _, hq, hrx⟩ := T.ev.vars j y _ hy hsj
  have cc := C A s₁ ((M ++ Hc).filter (· ≠ G j)) vs us R S₁.w0 h0g ⟨T.ev.hb.ti, fun b hb => T.ev.hb.al b ((pm b).mp hb)⟩ (fun q => by have := (List.mem_filter.mp q).2; simp at this) S₁.tk
    (by rw [vis_perm _ pm]; exact rv) hq (by rw [vis_perm _ pm]; exact hrx)
  refine wpAny_mono (wpAny_toks cc) (fun v s₂ h₂ => ?_) fun _ _ e => e.2.elim
  obtain ⟨tk, rfl, ⟨h, t, d, rfl⟩, k1, ti, vs', k2, k3⟩ := h₂
  exact k _ ((T.updG hsj k1 ti k2 (by rw [← vis_perm _ pm]; exact k3) tk).mono (Kp.dr _ d) (Nat.le_refl _))
theorem ex_callM {i j : Nat} {x y : Str} {a c g : Addr} {e : Expr} {es : List Expr} {p q r : Pos} {ds xs xs' : List D} (hf : ∃ o fd, F.X.h0.get? a = some o ∧ o.data = .func fd) (hx : F.nm[i]? = some x) (hs : σ[i]? = some (.fr (.ptr a))) (hy : F.nm[j]? = some y) (hsj : σ[j]? = some (.ow xs))
    (hcl : (y, c) ∈ F.cl) (hc : ∃ o, F.X.h0.get? c = some o ∧ o.data = .cell (some (.ref g))) (he : EvSs F σ (e :: es) ds) (C : CtM F.X F.k a g ds xs xs') (h0g : F.X.h0.get? g = none) :
    ExS F σ (.Expr (.Call (.Name x p) (e :: es) [] q) r) .nx (σ.set j (.ow xs')) := fun Hc M G env B s₀ s A S R => by
  have hg : G j = g := by
    obtain ⟨vs, hv, _⟩ := S.ev.vars j y _ hy hsj
    obtain ⟨q1, q2⟩ := S.ev.clo _ hcl
    rcases hv with ⟨hl, _⟩ | ⟨_, c', hc', ⟨o', e', r'⟩, _⟩
    · exact absurd hl q2
    · rw [q1] at hc'; cases hc'
      obtain ⟨o, eo, ro⟩ := hc
      have := gt_get (S.ev.w0 _ _ eo)
      rw [e'] at this; cases this
      rw [r'] at ro
      injection ro with ro; injection ro with ro; injection ro
  subst hg
  exact callM_raw (h0' := F.X.h0) S R S.ev hf hx hs hsj ⟨y, hy⟩ he C h0g fun s' S' => ⟨rfl, M, G, S'⟩
theorem ex_retN {p} : ExS F σ (.Return none p) (.rt .none) σ := fun _ M G _ _ _ _ _ S _ => wpAny_Return_none ⟨.none, rfl, rfl, M, G, S⟩
/-- a slot's list is where its cell says -/
theorem own_at (S : EvSt F H G env σ s) {j : Nat} {y : Str} {c g : Addr} {xs : List D} (hy : F.nm[j]? = some y) (hsj : σ[j]? = some (.ow xs)) (hcl : (y, c) ∈ F.cl) (hc : ∃ o, F.X.h0.get? c = some o ∧ o.data = .cell (some (.ref g))) : G j = g := by
  obtain ⟨vs, hv, _⟩ := S.vars j y _ hy hsj
  obtain ⟨q1, q2⟩ := S.clo _ hcl
  rcases hv with ⟨hl, _⟩ | ⟨_, c', hc', ⟨o', e', r'⟩, _⟩
  · exact absurd hl q2
  · rw [q1] at hc'; cases hc'
    obtain ⟨o, eo, ro⟩ := hc
    have := gt_get (S.w0 _ _ eo)
    rw [e'] at this; cases this
    rw [r'] at ro
    injection ro with ro; injection ro with ro; injection ro
/-- the ghost heap without one list -/
noncomputable abbrev gho1 (h : Heap) (g : Addr) : Heap := PySem.W.hideAll h ([g] ++ tbs)
theorem gho1_get (h : Heap) (g : Addr) : (gho1 h g).get? = vis [g] h := by
  funext b
  unfold vis
  by_cases q : b ∈ [g] ++ tbs
  · rw [PySem.W.hideAll_none _ q, if_pos q]
  · rw [if_neg q]
    cases e : h.get? b with
    | some o => exact PySem.W.hideAll_get _ e q
    | none =>
      cases e' : (gho1 h g).get? b with
      | none => rfl
      | some o => have := PySem.W.of_hideAll _ e'; rw [e] at this; cases this
noncomputable abbrev Cx.re1 (X : Cx) (h : Heap) (g : Addr) : Cx := { X with h0 := gho1 h g }
theorem Wd.re1 {X : Cx} (W : Wd X) {h : Heap} {g : Addr} (w0 : Le X.h0.get? (vis [g] h)) : Wd (X.re1 h g) := by
  have k : ∀ b o, X.h0.get? b = some o → (gho1 h g).get? b = some o := fun b o e => by rw [gho1_get]; exact w0 b o e
  refine ⟨fun a ha => PySem.W.hideAll_none _ (List.mem_append_right _ ha), W.g.keeps k, W.b.keeps k, W.nl.keeps k, fun b o e => k b o (W.kin b o e), W.bi, W.hd, fun t ht => (W.cd t ht).keeps k, fun t ht => ?_, W.at_, ?_⟩
  · obtain ⟨bm, o, a1, a2, a3, a4, a5, a6⟩ := W.bn t ht
    exact ⟨bm, o, a1, a2, a3, a4, k _ _ a5, a6⟩
  · obtain ⟨a, f, a1, a2, a3⟩ := W.tok
    exact ⟨a, f, a1, mapOf_mono k a2, a3⟩
theorem EvSt.re1 (S : EvSt F H G env σ s) {g : Addr} (h0 : F.X.h0.get? g = none) : EvSt { F with X := F.X.re1 s.heap g } H G env σ s := by
  have w1 : Le F.X.h0.get? (vis [g] s.heap) := fun b o e => vis_of (S.w0 b o e) fun q => by
    rw [List.mem_singleton.mp q, h0] at e; cases e
  exact ⟨S.kind, S.glb, S.blt, S.gk, S.ck, S.vars, S.nms, S.hb, fun b o e => by
    have : (gho1 s.heap g).get? b = some o := e
    rw [gho1_get] at this; exact vis_gt this, S.tk, S.W.re1 w1, S.clo⟩
theorem cell_re1 {X : Cx} {h : Heap} {c g : Addr} {v : Value} (x : CelV h c (some v)) (n : c ≠ g) : ∃ o, (X.re1 h g).h0.get? c = some o ∧ o.data = .cell (some v) := by
  obtain ⟨⟨o, e, r⟩, nt⟩ := x
  exact ⟨o, by show (gho1 h g).get? c = some o; rw [gho1_get]; exact vis_of (gt_of e nt) (by simpa using n), r⟩
theorem fnAtC_re1 {X : Cx} {h : Heap} {a g : Addr} {fd : FuncData} {body : List Stmt} {ps : List Str} {cl : List (Str × Addr)} {vs : List Value} (Z : FnAtC (X.re h) a fd body ps cl) (hg : IsSq (gt h) false g vs) : FnAtC (X.re1 h g) a fd body ps cl := by
  have up : ∀ b o, b ≠ g → (X.re h).h0.get? b = some o → (X.re1 h g).h0.get? b = some o := fun b o n e => by
    have e : (gho h).get? b = some o := e
    show (gho1 h g).get? b = some o
    rw [gho_get] at e
    rw [gho1_get]; exact vis_of e (by simpa using n)
  have ng : ∀ b o, (X.re h).h0.get? b = some o → (∃ fd, o.data = .func fd) ∨ (∃ vs, o.data = .fields vs) → b ≠ g := fun b o e hd q => by
    have e : (gho h).get? b = some o := e
    rw [gho_get, q] at e
    obtain ⟨o', n, e', _, _, d', _⟩ := hg
    rw [e] at e'; cases e'
    rcases hd with ⟨fd, q⟩ | ⟨vs, q⟩ <;> rw [d'] at q <;> cases q
  refine { Z with ob := ?_, cd := ?_ }
  · obtain ⟨o, e, d⟩ := Z.ob
    exact ⟨o, up _ _ (ng _ _ e (.inl ⟨_, d⟩)) e, d⟩
  · obtain ⟨c, o, vs, u, e0, e1, e2, e3⟩ := Z.cd
    exact ⟨c, o, vs, u, e0, up _ _ (ng _ _ e1 (.inr ⟨_, e2⟩)) e1, e2, e3⟩
end
end Mine
end

section
open PySem PySem.Calls PyProof.Rows
set_option Elab.async false
set_option maxRecDepth 100000
namespace Mine
noncomputable abbrev psEof : List Str := ["x"]
theorem ct_eof {X : Cx} {a : Addr} {t : Tok} (W : Wd X) (Z : FnR X "ISEOF" a bdEof psEof nnEof) (hm : X.mg "ENDMARKER" = some (.int 0 t)) {i : Int} : Ct X 1 a [.int i] (.bool (i == 0)) :=
  fn_ct [] W Z.f 0 (by decide) rfl (by kernel_rfl) rfl (exs_ret (ex_ret (ev_cmp (ev_name (i := 0) rfl rfl) (ev_glob (by kernel_rfl) hm) cEq)))
noncomputable abbrev psLong : List Str := ["self"]
theorem ct_long {X : Cx} {a : Addr} (W : Wd X) (Z : MeR X "longest_run_of_spaces" a bdLong psLong nnLong) {c : List Int} {tr nt : Int} (hc : c.length ≤ 1000) :
    Ct X 1 a [.ws c tr nt] (.int (if tr > c.length - 1 then tr else c.length - 1)) := by
  have hl : (c.map D.int).length ≤ strLid := by simp [strLid]; omega
  refine fn_ct ["count", "trailing"] W Z.f 0 (by decide) rfl (by kernel_rfl) rfl (σ' := [.fr (.ws c tr nt), .fr (.seq true (c.map .int)), .fr (.int tr)]) ?_
  refine exs_cons (σ₁ := [.fr (.ws c tr nt), .fr (.seq true (c.map .int)), .fr (.int tr)]) (ex_unp (xs := [1, 2]) (.cons rfl rfl (.cons rfl rfl .nil)) (ev_norm (i := 0) rfl rfl) rfl) (exs_ret (ex_ret ?_))
  refine EvS.cast (ev_bi (n := "max") (f := .builtin "max") (.tail _ (.head _)) (es_cons (ev_bin (ev_bi (n := "len") (f := .builtin "len") (.head _) (es_cons (ev_name (i := 1) rfl rfl) es_nil) (by first | exact biLen (by first | assumption | omega | (constructor <;> omega) | (simp only [List.length_append, List.length_cons, List.length_nil]; omega) | (simp; done) | (simp; omega)) | exact biLenS (by first | assumption | omega | (constructor <;> omega) | (simp only [List.length_append, List.length_cons, List.length_nil]; omega) | (simp; done) | (simp; omega))) (by kernel_rfl) (.inl ⟨_, rfl⟩)) ev_int bSub) (es_cons (ev_name (i := 2) rfl rfl) es_nil)) (by exact biMax) (by kernel_rfl) (.inl ⟨_, rfl⟩)) ?_
  simp
/-- the columns of the tabs -/
noncomputable def ilF (c : List Int) (ts : Int) : List Int → Int → Int
  | [], il => il
  | i :: r, il => ilF c ts r (il + i.fdiv ts * c.getD i.toNat 0)
noncomputable def ind (c : List Int) (tr nt ts : Int) : Int := tr + ts * (ilF c ts ((List.range (c.length - ts.toNat)).map fun (k : Nat) => ts + (k : Int)) 0 + nt)
noncomputable abbrev psInd : List Str := ["self", "tabsize"]
noncomputable abbrev nmInd : List Str := ["self", "tabsize", "count", "trailing", "il", "i"]
theorem ind_loop {F : Fx} {c : List Int} {ts tr nt : Int} (hF : F.nm = nmInd) (hs : F.sc = nnInd) (h1 : 1 ≤ ts ∧ ts ≤ 1000) (hc : c.length ≤ 1000) (hb : ∀ x ∈ c, -1000 ≤ x ∧ x ≤ 1000) :
    ∀ (is : List Int) (il : Int) (last : Sl), (∀ i ∈ is, 0 ≤ i ∧ i < c.length) → ∃ last', ForR F tgInd lpInd
      (is.map .int) [.fr (.ws c tr nt), .fr (.int ts), .fr (.seq true (c.map .int)), .fr (.int tr), .fr (.int il), last] .nx [.fr (.ws c tr nt), .fr (.int ts), .fr (.seq true (c.map .int)), .fr (.int tr), .fr (.int (ilF c ts is il)), last']
  | [], il, last, _ => ⟨last, .nil⟩
  | i :: r, il, last, h => by
    obtain ⟨X, k, nm, sc, cl⟩ := F
    dsimp only at hF hs
    subst hF hs
    obtain ⟨hi0, hi1⟩ := h i (.head _)
    obtain ⟨last', ih⟩ := ind_loop (F := ⟨X, k, _, _, cl⟩) rfl rfl h1 hc hb r (il + i.fdiv ts * c.getD i.toNat 0) (.fr (.int i)) fun j hj => h j (.tail _ hj)
    have hx : IdxR (.seq true (c.map .int)) i (.int (c.getD i.toNat 0)) := by
      obtain ⟨n, rfl⟩ := Int.eq_ofNat_of_zero_le hi0
      have hn : n < c.length := by omega
      exact .pos n (by simp [hn]) (by omega)
    have hv : -1000 ≤ c.getD i.toNat 0 ∧ c.getD i.toNat 0 ≤ 1000 := by
      have hn : i.toNat < c.length := by omega
      rw [List.getD_eq_getElem?_getD, List.getElem?_eq_getElem hn]
      exact hb _ (List.getElem_mem hn)
    refine ⟨last', .go (bd_name (i := 5) rfl) (exs_cons (ex_asg (i := 4) rfl (ev_bin (ev_name (i := 4) rfl rfl) (ev_bin (ev_bin (ev_name (i := 5) rfl rfl) (ev_name (i := 1) rfl rfl) (bDivS (by first | assumption | omega | (constructor <;> omega) | (simp only [List.length_append, List.length_cons, List.length_nil]; omega) | (simp; done) | (simp; omega)))) (ev_idx (ev_name (i := 2) rfl rfl) (ev_name (i := 5) rfl rfl) (by assumption)) (by first | exact bMulL (by first | assumption | omega | (constructor <;> omega) | (simp only [List.length_append, List.length_cons, List.length_nil]; omega) | (simp; done) | (simp; omega)) | exact bMulR (by first | assumption | omega | (constructor <;> omega) | (simp only [List.length_append, List.length_cons, List.length_nil]; omega) | (simp; done) | (simp; omega)) | exact bRepS (by first | assumption | omega | (constructor <;> omega) | (simp only [List.length_append, List.length_cons, List.length_nil]; omega) | (simp; done) | (simp; omega)) (by first | assumption | omega | (constructor <;> omega) | (simp only [List.length_append, List.length_cons, List.length_nil]; omega) | (simp; done) | (simp; omega)))) (by first | exact bAdd | exact bCat (by first | assumption | omega | (constructor <;> omega) | (simp only [List.length_append, List.length_cons, List.length_nil]; omega) | (simp; done) | (simp; omega))))) exs_nil) ih⟩
theorem ct_ind {X : Cx} {a : Addr} (W : Wd X) (Z : MeR X "indent_level" a bdInd psInd nnInd) {c : List Int} {tr nt ts : Int} (hc : c.length ≤ 1000) (h1 : 1 ≤ ts ∧ ts ≤ 1000) (hb : ∀ x ∈ c, -1000 ≤ x ∧ x ≤ 1000) :
    Ct X 1 a [.ws c tr nt, .int ts] (.int (ind c tr nt ts)) := by
  have hl : (c.map D.int).length ≤ strLid := by simp [strLid]; omega
  have hr : rangeD ts (c.map D.int).length = ((List.range (c.length - ts.toNat)).map fun (k : Nat) => ts + (k : Int)).map .int := by
    unfold rangeD
    rw [List.map_map, List.length_map]
    have : ((c.length : Int) - ts).toNat = c.length - ts.toNat := by omega
    rw [this]; rfl
  obtain ⟨last', L⟩ := ind_loop (F := ⟨X, 0, nmInd, nnInd, []⟩) (tr := tr) (nt := nt) rfl rfl h1 hc hb ((List.range (c.length - ts.toNat)).map fun (k : Nat) => ts + (k : Int)) 0 .un (fun i hi => by
    obtain ⟨k, hk, rfl⟩ := List.mem_map.mp hi
    have := List.mem_range.mp hk
    omega)
  refine fn_ct ["count", "trailing", "il", "i"] W Z.f 0 (by decide) rfl (by kernel_rfl) rfl (σ' := [.fr (.ws c tr nt), .fr (.int ts), .fr (.seq true (c.map .int)), .fr (.int tr), .fr (.int (ilF c ts ((List.range (c.length - ts.toNat)).map fun (k : Nat) => ts + (k : Int)) 0)), last']) ?_
  refine exs_cons (ex_unp (xs := [2, 3]) (.cons rfl rfl (.cons rfl rfl .nil)) (ev_norm (i := 0) rfl rfl) rfl) ?_
  refine exs_cons (ex_asg (i := 4) rfl ev_int) ?_
  refine exs_cons (ex_for (src_range2 (ev_name (i := 1) rfl rfl) (ev_bi (n := "len") (f := .builtin "len") (.head _) (es_cons (ev_name (i := 2) rfl rfl) es_nil) (by first | exact biLen (by first | assumption | omega | (constructor <;> omega) | (simp only [List.length_append, List.length_cons, List.length_nil]; omega) | (simp; done) | (simp; omega)) | exact biLenS (by first | assumption | omega | (constructor <;> omega) | (simp only [List.length_append, List.length_cons, List.length_nil]; omega) | (simp; done) | (simp; omega))) (by kernel_rfl) (.inl ⟨_, rfl⟩)) (by kernel_rfl) (by omega) (by simp; omega)) (by rw [hr]; exact L)) (exs_ret (ex_ret ?_))
  have hm : -4611686018427387904 ≤ ts ∧ ts ≤ 4611686018427387904 := by omega
  exact (ev_bin (ev_name (i := 3) rfl rfl) (ev_bin (ev_name (i := 1) rfl rfl) (ev_bin (ev_name (i := 4) rfl rfl) (ev_nt (i := 0) rfl rfl) (by first | exact bAdd | exact bCat (by first | assumption | omega | (constructor <;> omega) | (simp only [List.length_append, List.length_cons, List.length_nil]; omega) | (simp; done) | (simp; omega)))) (by first | exact bMulL (by first | assumption | omega | (constructor <;> omega) | (simp only [List.length_append, List.length_cons, List.length_nil]; omega) | (simp; done) | (simp; omega)) | exact bMulR (by first | assumption | omega | (constructor <;> omega) | (simp only [List.length_append, List.length_cons, List.length_nil]; omega) | (simp; done) | (simp; omega)) | exact bRepS (by first | assumption | omega | (constructor <;> omega) | (simp only [List.length_append, List.length_cons, List.length_nil]; omega) | (simp; done) | (simp; omega)) (by first | assumption | omega | (constructor <;> omega) | (simp only [List.length_append, List.length_cons, List.length_nil]; omega) | (simp; done) | (simp; omega)))) (by first | exact bAdd | exact bCat (by first | assumption | omega | (constructor <;> omega) | (simp only [List.length_append, List.length_cons, List.length_nil]; omega) | (simp; done) | (simp; omega))))
end Mine
end

section
open PySem PySem.Calls PyProof.Rows
set_option Elab.async false
set_option maxRecDepth 100000
namespace Mine
noncomputable abbrev psWit : List Str := ["self", "other"]
noncomputable abbrev nmWit : List Str := ["self", "other", "n", "a", "ts"]
noncomputable def wit (f g : Int → Int) (is : List Int) : List D := is.filterMap fun ts => if f ts = g ts then none else some (.seq true [.int ts, .int (f ts), .int (g ts)])
noncomputable def upTo (n : Int) : List Int := (List.range n.toNat).map fun (k : Nat) => 1 + (k : Int)
theorem wit_loop {X : Cx} {al ai : Addr} (W : Wd X) (Zi : MeR X "indent_level" ai bdInd psInd nnInd) {c1 c2 : List Int} {t1 n1 t2 n2 : Int} (hc1 : c1.length ≤ 1000) (hb1 : ∀ x ∈ c1, -1000 ≤ x ∧ x ≤ 1000) (hc2 : c2.length ≤ 1000) (hb2 : ∀ x ∈ c2, -1000 ≤ x ∧ x ≤ 1000) (n : Int) :
    ∀ (is : List Int) (acc : List D) (last : Sl), (∀ i ∈ is, 1 ≤ i ∧ i ≤ 1000) → acc.length + is.length ≤ 10000 → ∃ last', ForR ⟨X, 1, nmWit, nnWit, []⟩ tgWit lpWit
      (is.map .int) [.fr (.ws c1 t1 n1), .fr (.ws c2 t2 n2), .fr (.int n), .ow acc, last] .nx [.fr (.ws c1 t1 n1), .fr (.ws c2 t2 n2), .fr (.int n), .ow (acc ++ wit (ind c1 t1 n1) (ind c2 t2 n2) is), last']
  | [], acc, last, _, _ => ⟨last, by simp only [wit, List.filterMap_nil, List.append_nil]; exact .nil⟩
  | i :: r, acc, last, h, hl => by
    obtain ⟨hi0, hi1⟩ := h i (.head _)
    have hl' : acc.length ≤ strLid := by simp only [List.length_cons] at hl; have : strLid = 100000 := rfl; omega
    by_cases e : ind c1 t1 n1 i = ind c2 t2 n2 i
    · obtain ⟨last', ih⟩ := wit_loop (al := al) W Zi hc1 hb1 hc2 hb2 n r acc (.fr (.int i)) (fun j hj => h j (.tail _ hj)) (by simp only [List.length_cons] at hl; omega)
      refine ⟨last', .go (bd_name (i := 4) rfl) (exs_cons (ex_ifF (TsS.cast (ts_cmp (ev_wm Zi.g (ev_name (i := 0) rfl rfl) (es_cons (ev_name (i := 4) rfl rfl) es_nil) (by first | exact ct_ind W Zi hc1 (by omega) hb1 | exact ct_ind W Zi hc2 (by omega) hb2)) (ev_wm Zi.g (ev_name (i := 1) rfl rfl) (es_cons (ev_name (i := 4) rfl rfl) es_nil) (by first | exact ct_ind W Zi hc1 (by omega) hb1 | exact ct_ind W Zi hc2 (by omega) hb2)) cNe) (by simp [e])) exs_nil) exs_nil) ?_⟩
      have : wit (ind c1 t1 n1) (ind c2 t2 n2) (i :: r) = wit (ind c1 t1 n1) (ind c2 t2 n2) r := by simp [wit, e]
      rw [this]; exact ih
    · obtain ⟨last', ih⟩ := wit_loop (al := al) W Zi hc1 hb1 hc2 hb2 n r (acc ++ [.seq true [.int i, .int (ind c1 t1 n1 i), .int (ind c2 t2 n2 i)]]) (.fr (.int i)) (fun j hj => h j (.tail _ hj)) (by simp only [List.length_cons, List.length_append, List.length_nil] at hl ⊢; omega)
      refine ⟨last', .go (bd_name (i := 4) rfl) (exs_cons (ex_ifT (TsS.cast (ts_cmp (ev_wm Zi.g (ev_name (i := 0) rfl rfl) (es_cons (ev_name (i := 4) rfl rfl) es_nil) (by first | exact ct_ind W Zi hc1 (by omega) hb1 | exact ct_ind W Zi hc2 (by omega) hb2)) (ev_wm Zi.g (ev_name (i := 1) rfl rfl) (es_cons (ev_name (i := 4) rfl rfl) es_nil) (by first | exact ct_ind W Zi hc1 (by omega) hb1 | exact ct_ind W Zi hc2 (by omega) hb2)) cNe) (by simp [e])) (exs_cons (ex_app (i := 3) rfl rfl (ev_tuple (es_cons (ev_name (i := 4) rfl rfl) (es_cons (ev_wm Zi.g (ev_name (i := 0) rfl rfl) (es_cons (ev_name (i := 4) rfl rfl) es_nil) (by first | exact ct_ind W Zi hc1 (by omega) hb1 | exact ct_ind W Zi hc2 (by omega) hb2)) (es_cons (ev_wm Zi.g (ev_name (i := 1) rfl rfl) (es_cons (ev_name (i := 4) rfl rfl) es_nil) (by first | exact ct_ind W Zi hc1 (by omega) hb1 | exact ct_ind W Zi hc2 (by omega) hb2)) es_nil)))) hl') exs_nil)) exs_nil) ?_⟩
      have : wit (ind c1 t1 n1) (ind c2 t2 n2) (i :: r) = .seq true [.int i, .int (ind c1 t1 n1 i), .int (ind c2 t2 n2 i)] :: wit (ind c1 t1 n1) (ind c2 t2 n2) r := by simp [wit, e]
      rw [this]
      rw [List.append_assoc] at ih
      exact ih
noncomputable def lng (c : List Int) (tr : Int) : Int := if tr > c.length - 1 then tr else c.length - 1
theorem ct_wit {X : Cx} {a al ai : Addr} (W : Wd X) (Z : MeR X "not_equal_witness" a bdWit psWit nnWit) (Zl : MeR X "longest_run_of_spaces" al bdLong psLong nnLong) (Zi : MeR X "indent_level" ai bdInd psInd nnInd)
    {c1 c2 : List Int} {t1 n1 t2 n2 n : Int} (hc1 : c1.length ≤ 1000) (hb1 : ∀ x ∈ c1, -1000 ≤ x ∧ x ≤ 1000) (hc2 : c2.length ≤ 1000) (hb2 : ∀ x ∈ c2, -1000 ≤ x ∧ x ≤ 1000)
    (hn : (if lng c2 t2 > lng c1 t1 then lng c2 t2 else lng c1 t1) + 1 = n) (hn' : 0 ≤ n ∧ n ≤ 900) :
    Ct X 2 a [.ws c1 t1 n1, .ws c2 t2 n2] (.seq false (wit (ind c1 t1 n1) (ind c2 t2 n2) (upTo n))) := by
  have hr : rangeD 1 (n + 1) = (upTo n).map .int := by
    unfold rangeD upTo
    rw [List.map_map]
    have : (n + 1 - 1).toNat = n.toNat := by omega
    rw [this]; rfl
  obtain ⟨last', L⟩ := wit_loop (al := al) (t1 := t1) (n1 := n1) (t2 := t2) (n2 := n2) W Zi hc1 hb1 hc2 hb2 n (upTo n) [] .un (fun i hi => by
    obtain ⟨k, hk, rfl⟩ := List.mem_map.mp hi
    have := List.mem_range.mp hk
    omega) (by simp [upTo]; omega)
  refine fn_ct ["n", "a", "ts"] W Z.f 1 (by decide) rfl (by kernel_rfl) rfl (σ' := [.fr (.ws c1 t1 n1), .fr (.ws c2 t2 n2), .fr (.int n), .fr (.seq false (wit (ind c1 t1 n1) (ind c2 t2 n2) (upTo n))), last']) ?_
  refine exs_cons (ex_asg (i := 2) (d := .int n) rfl (EvS.cast (ev_bin (ev_bi (n := "max") (f := .builtin "max") (.tail _ (.head _)) (es_cons (ev_wm0 Zl.g (ev_name (i := 0) rfl rfl) (by first | exact ct_long W Zl hc1 | exact ct_long W Zl hc2)) (es_cons (ev_wm0 Zl.g (ev_name (i := 1) rfl rfl) (by first | exact ct_long W Zl hc1 | exact ct_long W Zl hc2)) es_nil)) (by exact biMax) (by kernel_rfl) (.inl ⟨_, rfl⟩)) ev_int (by first | exact bAdd | exact bCat (by first | assumption | omega | (constructor <;> omega) | (simp only [List.length_append, List.length_cons, List.length_nil]; omega) | (simp; done) | (simp; omega)))) ?_)) ?_
  · rw [← hn]; rfl
  refine exs_cons (ex_asgO (i := 3) rfl) ?_
  refine exs_cons (ex_for (src_range2 ev_int (ev_bin (ev_name (i := 2) rfl rfl) ev_int (by first | exact bAdd | exact bCat (by first | assumption | omega | (constructor <;> omega) | (simp only [List.length_append, List.length_cons, List.length_nil]; omega) | (simp; done) | (simp; omega)))) (by kernel_rfl) (by omega) (by omega)) (by rw [hr]; exact L)) ?_
  exact exs_frz 3 rfl (exs_ret (ex_ret (ev_name (i := 3) rfl rfl)))
end Mine
end

section
open PySem PySem.Calls PyProof.Rows
set_option Elab.async false
set_option maxRecDepth 100000
namespace Mine
theorem fdE {a b : Int} (h : 0 ≤ b) : a.fdiv b = a / b := Int.fdiv_eq_ediv_of_nonneg a h
theorem fmE {a b : Int} (h : 0 ≤ b) : a.fmod b = a % b := Int.fmod_eq_emod_of_nonneg a h
theorem log2_le {x b : Int} (hb : 0 < b) (h0 : 0 ≤ x) (h : x < 4096 * b) : x.natAbs.log2 ≤ b.natAbs.log2 + 12 := by
  by_cases hx : x.natAbs = 0
  · rw [hx]; simp
  · have h1 : b.natAbs < 2 ^ (b.natAbs.log2 + 1) := (Nat.log2_lt (by omega)).mp (Nat.lt_succ_self _)
    have h2 : x.natAbs < 4096 * b.natAbs := by omega
    have h3 : 2 ^ (b.natAbs.log2 + 13) = 4096 * 2 ^ (b.natAbs.log2 + 1) := by
      rw [show b.natAbs.log2 + 13 = (b.natAbs.log2 + 1) + 12 by omega, Nat.pow_add, Nat.mul_comm]
    have h4 : x.natAbs < 2 ^ (b.natAbs.log2 + 13) := by omega
    have := (Nat.log2_lt hx).mpr h4
    omega
theorem bits_pos {b : Int} (hb : 0 < b) : Builtin.Int.intBits b = b.natAbs.log2 + 1 := by
  unfold Builtin.Int.intBits
  rw [if_neg (by simp; omega)]
theorem bits_le {x b : Int} (hb : 0 < b) (h0 : 0 ≤ x) (h : x < 4096 * b) : Builtin.Int.intBits x ≤ Builtin.Int.intBits b + 12 := by
  rw [bits_pos hb]
  have := log2_le hb h0 h
  unfold Builtin.Int.intBits
  split <;> omega
theorem pyl {x b : Int} (hb : 0 < b) (h0 : 0 ≤ x) (h : x < 4096 * b) : Builtin.divisionGoesByPylong x b = false := by
  have hl := log2_le hb h0 h
  show (decide ((if (b == 0) = true then 0 else b.natAbs.log2 / 30 + 1) > 300) && decide ((if (x == 0) = true then 0 else x.natAbs.log2 / 30 + 1) > (if (b == 0) = true then 0 else b.natAbs.log2 / 30 + 1) + 150)) = false
  rw [if_neg (show ¬ (b == 0) = true by simp; omega)]
  rw [Bool.and_eq_false_iff]
  right
  split
  · exact decide_eq_false (by omega)
  · exact decide_eq_false (by omega)
noncomputable abbrev psDiv2 : List Str := ["a", "b", "n"]
noncomputable abbrev nmDiv2 : List Str := ["a", "b", "n"]
theorem ct_div2 {X : Cx} {a : Addr} {t : Tok} (W : Wd X) (Z : FnR X "_div2n1n" a bdDiv2 psDiv2 nnDiv2) (hm : X.mg "_DIV_LIMIT" = some (.int 4000 t)) {x b n : Int} (hb : 0 < b) (h0 : 0 ≤ x) (h : x < 4096 * b) (hn : (Builtin.Int.intBits b : Int) = n) :
    Ct X 1 a [.int x, .int b, .int n] (.seq true [.int (x / b), .int (x % b)]) := by
  have hz := bits_le hb h0 h
  have hp := pyl hb h0 h
  refine fn_ct ["pad", "half_n", "mask", "b1", "b2", "q1", "r", "q2"] W Z.f 0 (by decide) rfl (by kernel_rfl) rfl (σ' := [.fr (.int x), .fr (.int b), .fr (.int n), .un, .un, .un, .un, .un, .un, .un, .un]) ?_
  refine exs_ret (ex_ifT (TsS.cast (ts_cmp (ev_bin (ev_bitlen (ev_name (i := 0) rfl rfl)) (ev_name (i := 2) rfl rfl) bSub) (ev_glob (by kernel_rfl) hm) cLe) (decide_eq_true (by omega))) (exs_ret (ex_ret (EvS.cast (ev_bi (n := "divmod") (f := .builtin "divmod") (by decide) (es_cons (ev_name (i := 0) rfl rfl) (es_cons (ev_name (i := 1) rfl rfl) es_nil)) (biDivmod (by omega) hp) (by kernel_rfl) (.inl ⟨_, rfl⟩)) ?_))))
  rw [fdE (by omega), fmE (by omega)]
noncomputable abbrev psPos : List Str := ["a", "b"]
noncomputable abbrev nmPos : List Str := ["a", "b", "n", "a_digits", "r", "q_digits", "a_digit", "q_digit", "q"]
theorem pos_loop {X : Cx} {ad : Addr} {t : Tok} (W : Wd X) (Zd : FnR X "_div2n1n" ad bdDiv2 psDiv2 nnDiv2) (hm : X.mg "_DIV_LIMIT" = some (.int 4000 t)) {a b n : Int} (hb : 0 < b) (hn : (Builtin.Int.intBits b : Int) = n) (hN : n ≤ 4194304) (h : a < 4096 * b) (dl : List D) :
    ∀ (ds : List Int) (P : Int) (acc : List D) (s6 s7 : Sl), 0 ≤ P → (∀ d ∈ ds, 0 ≤ d ∧ d < 2 ^ n.toNat) → fo (2 ^ n.toNat) P ds ≤ a → acc.length + ds.length ≤ 1000 → ∃ s6' s7', ForR ⟨X, 110, nmPos, nnPos, []⟩ tgPos lpPos
      (ds.map .int) [.fr (.int a), .fr (.int b), .fr (.int n), .fr (.seq false dl), .fr (.int (P % b)), .ow acc, s6, s7, .un] .nx
      [.fr (.int a), .fr (.int b), .fr (.int n), .fr (.seq false dl), .fr (.int (fo (2 ^ n.toNat) P ds % b)), .ow (acc ++ (qd (2 ^ n.toNat) b P ds).map .int), s6', s7', .un]
  | [], P, acc, s6, s7, _, _, _, _ => ⟨s6, s7, by simp only [qd, List.map_nil, List.append_nil]; exact .nil⟩
  | d :: ds, P, acc, s6, s7, hP, hd, ha, hl => by
    have hbp : (0 : Int) < 2 ^ n.toNat := Int.pow_pos (by decide)
    obtain ⟨d0, d1⟩ := hd d (.head _)
    have hr0 : 0 ≤ P % b := Int.emod_nonneg _ (by omega)
    have hr1 : P % b < b := Int.emod_lt_of_pos _ hb
    have hle : P % b ≤ P := by
      have h1 := Int.mul_ediv_add_emod P b
      have h2 : 0 ≤ b * (P / b) := Int.mul_nonneg (by omega) (Int.ediv_nonneg hP (by omega))
      omega
    have hn0 : 0 ≤ P * 2 ^ n.toNat + d := by
      have := Int.mul_nonneg hP (Int.le_of_lt hbp)
      omega
    have hx0 : 0 ≤ P % b * 2 ^ n.toNat + d := by
      have := Int.mul_nonneg hr0 (Int.le_of_lt hbp)
      omega
    have hxa : P % b * 2 ^ n.toNat + d ≤ a := by
      have h1 : P % b * 2 ^ n.toNat ≤ P * 2 ^ n.toNat := Int.mul_le_mul_of_nonneg_right hle (Int.le_of_lt hbp)
      have h2 := fo_mono hbp ds (P * 2 ^ n.toNat + d) hn0 fun x hx => (hd x (.tail _ hx)).1
      have h3 : fo (2 ^ n.toNat) (P * 2 ^ n.toNat + d) ds ≤ a := ha
      omega
    have hx : P % b * 2 ^ n.toNat + d < 4096 * b := by omega
    have hbr : (Builtin.Int.intBits (P % b) : Int) + n ≤ 2 ^ 27 := by
      have := bits_le (x := P % b) hb hr0 (by omega)
      omega
    have hl' : acc.length ≤ strLid := by simp only [List.length_cons] at hl; have : strLid = 100000 := rfl; omega
    have hn' : 0 ≤ n := by omega
    obtain ⟨s6', s7', ih⟩ := pos_loop W Zd hm hb hn hN h dl ds (P * 2 ^ n.toNat + d) (acc ++ [.int ((P % b * 2 ^ n.toNat + d) / b)]) (.fr (.int d)) (.fr (.int ((P % b * 2 ^ n.toNat + d) / b))) hn0 (fun x hx => hd x (.tail _ hx)) ha (by simp only [List.length_cons, List.length_append, List.length_nil] at hl ⊢; omega)
    refine ⟨s6', s7', .go (bd_name (i := 6) rfl) (exs_cons (ex_unp (xs := [7, 4]) (.cons rfl rfl (.cons rfl rfl .nil)) (ev_call Zd.g (es_cons (ev_bin (ev_bin (ev_name (i := 4) rfl rfl) (ev_name (i := 2) rfl rfl) (bShl hn' hbr)) (ev_name (i := 6) rfl rfl) bAdd) (es_cons (ev_name (i := 1) rfl rfl) (es_cons (ev_name (i := 2) rfl rfl) es_nil))) ((ct_div2 W Zd hm hb hx0 hx hn).up (k' := 110) (by decide)) (by kernel_rfl)) rfl) (exs_cons (ex_app (i := 5) rfl rfl (ev_name (i := 7) rfl rfl) hl') exs_nil)) ?_⟩
    rw [List.append_assoc, ← mod_step] at ih
    exact ih
theorem ct_pos {X : Cx} {ap ad ai aj : Addr} {t : Tok} (W : Wd X) (Z : FnR X "_divmod_pos" ap bdPos psPos nnPos) (Zd : FnR X "_div2n1n" ad bdDiv2 psDiv2 nnDiv2) (hm : X.mg "_DIV_LIMIT" = some (.int 4000 t))
    (gi : GFn X "_int2digits" ai) (gj : GFn X "_digits2int" aj)
    (Ci : ∀ (a n : Int), 0 ≤ a → 1 ≤ n → n ≤ 4194304 → (((Builtin.Int.intBits a : Int) + n - 1) / n).toNat ≤ 30 → Ct X 110 ai [.int a, .int n] (.seq false ((dg (2 ^ n.toNat) (((Builtin.Int.intBits a : Int) + n - 1) / n).toNat a).map .int)))
    (Cj : ∀ (ds : List Int) (n : Int), 1 ≤ n → n ≤ 4194304 → ds.length ≤ 30 → (∀ d ∈ ds, 0 ≤ d ∧ d < 2 ^ n.toNat) → Ct X 110 aj [.seq false (ds.map .int), .int n] (.int (fo (2 ^ n.toNat) 0 ds.reverse)))
    {a b : Int} (hb : 0 < b) (ha : 0 ≤ a) (h : a < 4096 * b) (hN : (Builtin.Int.intBits b : Int) ≤ 4194304) : Ct X 111 ap [.int a, .int b] (.seq true [.int (a / b), .int (a % b)]) := by
  obtain ⟨n, hn⟩ : ∃ n : Int, (Builtin.Int.intBits b : Int) = n := ⟨_, rfl⟩
  have hn1 : 1 ≤ n := by rw [← hn, bits_pos hb]; omega
  have hbp : (0 : Int) < 2 ^ n.toNat := Int.pow_pos (by decide)
  have hba := bits_le hb ha h
  obtain ⟨m, hm'⟩ : ∃ m : Nat, (((Builtin.Int.intBits a : Int) + n - 1) / n).toNat = m := ⟨_, rfl⟩
  have hmle : m ≤ 30 := by
    have h1 : ((Builtin.Int.intBits a : Int) + n - 1) / n ≤ 14 := by
      refine Int.ediv_le_of_le_mul (by omega) ?_
      omega
    omega
  have hpa : a < (2 ^ n.toNat) ^ m := by
    have h1 : a.natAbs < 2 ^ Builtin.Int.intBits a := by
      unfold Builtin.Int.intBits
      split
      · rename_i q; have : a = 0 := by simpa using q
        subst this; simp
      · rename_i q; exact (Nat.log2_lt (by simpa using q)).mp (Nat.lt_succ_self _)
    have h2 : (Builtin.Int.intBits a : Int) ≤ n * m := by
      have h3 := Int.mul_ediv_add_emod ((Builtin.Int.intBits a : Int) + n - 1) n
      have h4 := Int.emod_lt_of_pos ((Builtin.Int.intBits a : Int) + n - 1) (show 0 < n by omega)
      have h5 : (m : Int) = ((Builtin.Int.intBits a : Int) + n - 1) / n := by
        rw [← hm', Int.toNat_of_nonneg (Int.ediv_nonneg (by omega) (by omega))]
      rw [h5]
      omega
    have h6 : Builtin.Int.intBits a ≤ n.toNat * m := by
      have : ((n.toNat * m : Nat) : Int) = n * m := by rw [Int.natCast_mul, Int.toNat_of_nonneg (by omega)]
      omega
    have h7 : a.natAbs < 2 ^ (n.toNat * m) := Nat.lt_of_lt_of_le h1 (Nat.pow_le_pow_right (by decide) h6)
    have h8 : ((2 : Int) ^ n.toNat) ^ m = ((2 ^ (n.toNat * m) : Nat) : Int) := by rw [← Int.pow_mul]; simp
    rw [h8]
    omega
  have hds : ∀ d ∈ (dg (2 ^ n.toNat) m a).reverse, 0 ≤ d ∧ d < 2 ^ n.toNat := fun d hd => dg_mem hbp m a d (List.mem_reverse.mp hd)
  have hfo := dg_fo hbp m a ha hpa
  obtain ⟨s6', s7', L⟩ := pos_loop W Zd hm hb hn (by omega) h ((dg (2 ^ n.toNat) m a).map .int) (dg (2 ^ n.toNat) m a).reverse 0 [] .un .un (Int.le_refl 0) hds (by rw [hfo]; exact Int.le_refl a) (by simp [dg_len]; omega)
  have hqd := qd_fo (b := 2 ^ n.toNat) hb (dg (2 ^ n.toNat) m a).reverse 0
  rw [Int.zero_ediv, hfo] at hqd
  rw [hfo, Int.zero_emod] at L
  have hql : (qd (2 ^ n.toNat) b 0 (dg (2 ^ n.toNat) m a).reverse).length = m := by rw [qd_len, List.length_reverse, dg_len]
  have hqm : ∀ d ∈ qd (2 ^ n.toNat) b 0 (dg (2 ^ n.toNat) m a).reverse, 0 ≤ d ∧ d < 2 ^ n.toNat := by
    have key : ∀ (l : List Int) (P : Int), (∀ d ∈ l, 0 ≤ d ∧ d < 2 ^ n.toNat) → ∀ x ∈ qd (2 ^ n.toNat) b P l, 0 ≤ x ∧ x < 2 ^ n.toNat := by
      intro l
      induction l with
      | nil => intro P _ x hx; cases hx
      | cons d l ih =>
        intro P hl x hx
        obtain ⟨d0, d1⟩ := hl d (.head _)
        rcases List.mem_cons.mp hx with rfl | hx
        · have hr0 : 0 ≤ P % b := Int.emod_nonneg _ (by omega)
          have hr1 : P % b < b := Int.emod_lt_of_pos _ hb
          have h1 := Int.mul_nonneg hr0 (Int.le_of_lt hbp)
          refine ⟨Int.ediv_nonneg (by omega) (by omega), Int.ediv_lt_of_lt_mul hb ?_⟩
          have h2 : (P % b + 1) * 2 ^ n.toNat ≤ b * 2 ^ n.toNat := Int.mul_le_mul_of_nonneg_right (by omega) (Int.le_of_lt hbp)
          rw [Int.add_mul, Int.one_mul] at h2
          rw [Int.mul_comm (2 ^ n.toNat) b]
          omega
        · exact ih _ (fun y hy => hl y (.tail _ hy)) x hx
    exact key _ 0 hds
  have e0 : ((qd (2 ^ n.toNat) b 0 (dg (2 ^ n.toNat) m a).reverse).map D.int).reverse = ((qd (2 ^ n.toNat) b 0 (dg (2 ^ n.toNat) m a).reverse).reverse).map D.int := (List.map_reverse ..).symm
  have hl1 : ((dg (2 ^ n.toNat) m a).map D.int).length ≤ strLid := by rw [List.length_map, dg_len]; have : strLid = 100000 := rfl; omega
  have hl2 : ((qd (2 ^ n.toNat) b 0 (dg (2 ^ n.toNat) m a).reverse).map D.int).length ≤ strLid := by rw [List.length_map, hql]; have : strLid = 100000 := rfl; omega
  refine fn_ct ["n", "a_digits", "r", "q_digits", "a_digit", "q_digit", "q"] W Z.f 110 (by decide) rfl (by kernel_rfl) rfl (σ' := [.fr (.int a), .fr (.int b), .fr (.int n), .fr (.seq false ((dg (2 ^ n.toNat) m a).map .int)), .fr (.int (a % b)), .fr (.seq false ((qd (2 ^ n.toNat) b 0 (dg (2 ^ n.toNat) m a).reverse).map D.int).reverse), s6', s7', .fr (.int (a / b))]) ?_
  refine exs_cons (ex_asg (i := 2) (d := .int n) rfl (EvS.cast (ev_bitlen (ev_name (i := 1) rfl rfl)) (by rw [hn]))) ?_
  refine exs_cons (ex_asg (i := 3) rfl (ev_call gi (es_cons (ev_name (i := 0) rfl rfl) (es_cons (ev_name (i := 2) rfl rfl) es_nil)) (hm' ▸ Ci a n ha hn1 (by omega) (by omega)) (by kernel_rfl))) ?_
  refine exs_cons (ex_asg (i := 4) rfl ev_int) (exs_cons (ex_asgO (i := 5) rfl) ?_)
  refine exs_cons (ex_for (src_rev (ev_name (i := 3) rfl rfl) (by kernel_rfl) hl1) (by rw [← List.map_reverse]; exact L)) ?_
  refine exs_cons (ex_rev (i := 5) rfl rfl hl2) (exs_frz 5 rfl ?_)
  refine exs_cons (ex_asg (i := 8) (d := .int (a / b)) rfl (EvS.cast (ev_call gj (es_cons (EvS.cast (ev_name (i := 5) rfl rfl) (by rw [List.nil_append, e0])) (es_cons (ev_name (i := 2) rfl rfl) es_nil)) (Cj _ n hn1 (by omega) (by rw [List.length_reverse, hql]; exact hmle) (fun d hd => hqm d (List.mem_reverse.mp hd))) (by kernel_rfl)) (by rw [List.reverse_reverse, hqd]))) ?_
  exact exs_ret (ex_ret (ev_tuple (es_cons (ev_name (i := 8) rfl rfl) (es_cons (ev_name (i := 4) rfl rfl) es_nil))))
end Mine
end

section
open PySem PySem.Calls PyProof.Rows
set_option Elab.async false
set_option maxRecDepth 100000
namespace Mine
noncomputable abbrev psDm : List Str := ["a", "b"]
noncomputable abbrev nmDm : List Str := ["a", "b", "q", "r"]
/-- what _divmod_pos gives -/
noncomputable abbrev CPos (X : Cx) (ap : Addr) : Prop := ∀ {a b : Int}, 0 < b → 0 ≤ a → a < 4096 * b → (Builtin.Int.intBits b : Int) ≤ 4194304 → Ct X 111 ap [.int a, .int b] (.seq true [.int (a / b), .int (a % b)])
theorem dm_pos {X : Cx} {a ap : Addr} (W : Wd X) (Z : FnR X "int_divmod" a bdDm psDm nnDm) (Zp : GFn X "_divmod_pos" ap) (Cp : CPos X ap) {b q r : Int} (hq : 0 ≤ q ∧ q ≤ 4000) (hr : 0 ≤ r ∧ r < b) (hN : (Builtin.Int.intBits b : Int) ≤ 4194304) :
    Ct X 112 a [.int (q * b + r), .int b] (.seq true [.int q, .int r]) := by
  have hb : 0 < b := by omega
  have h0 : 0 ≤ q * b := Int.mul_nonneg hq.1 (by omega)
  have h1 : q * b ≤ 4000 * b := Int.mul_le_mul_of_nonneg_right hq.2 (by omega)
  have e1 : (q * b + r) / b = q := by rw [Int.mul_comm, Int.mul_add_ediv_left _ _ (by omega), Int.ediv_eq_zero_of_lt hr.1 hr.2, Int.add_zero]
  have e2 : (q * b + r) % b = r := by rw [Int.mul_comm, Int.mul_add_emod_self_left, Int.emod_eq_of_lt hr.1 hr.2]
  have C := Cp hb (show 0 ≤ q * b + r by omega) (by omega) hN
  rw [e1, e2] at C
  refine fn_ct ["q", "r"] W Z.f 111 (by decide) rfl (by kernel_rfl) rfl (σ' := [.fr (.int (q * b + r)), .fr (.int b), .un, .un]) ?_
  refine exs_ret (ex_ifF (TsS.cast (ts_cmp (ev_name (i := 1) rfl rfl) ev_int cEq) (by simp; omega)) (exs_ret (ex_ifF (TsS.cast (ts_cmp (ev_name (i := 1) rfl rfl) ev_int cLt) (decide_eq_false (by omega))) (exs_ret (ex_ifF (TsS.cast (ts_cmp (ev_name (i := 0) rfl rfl) ev_int cLt) (decide_eq_false (by omega))) (exs_ret (ex_ret (ev_call Zp (es_cons (ev_name (i := 0) rfl rfl) (es_cons (ev_name (i := 1) rfl rfl) es_nil)) C (by kernel_rfl)))))))))
theorem dm_up {X : Cx} {a ap : Addr} (W : Wd X) (Z : FnR X "int_divmod" a bdDm psDm nnDm) (Zp : GFn X "_divmod_pos" ap) (Cp : CPos X ap) {b q r : Int} (hq : -4000 ≤ q ∧ q ≤ 4000) (hr : 0 ≤ r ∧ r < b) (hN : (Builtin.Int.intBits b : Int) ≤ 4194304) :
    Ct X 113 a [.int (q * b + r), .int b] (.seq true [.int q, .int r]) := by
  by_cases h : 0 ≤ q
  · exact (dm_pos W Z Zp Cp ⟨h, hq.2⟩ hr hN).up (by decide)
  · have hb : 0 < b := by omega
    have h1 : q * b ≤ -1 * b := Int.mul_le_mul_of_nonneg_right (by omega) (by omega)
    have ha : q * b + r < 0 := by omega
    have C := dm_pos W Z Zp Cp (b := b) (q := -q - 1) (r := b - r - 1) (by omega) (by omega) hN
    have e : (-q - 1) * b + (b - r - 1) = Builtin.bitNot (q * b + r) := by
      unfold Builtin.bitNot
      rw [Int.sub_mul, Int.neg_mul]; omega
    rw [e] at C
    refine fn_ct ["q", "r"] W Z.f 112 (by decide) rfl (by kernel_rfl) rfl (σ' := [.fr (.int (q * b + r)), .fr (.int b), .fr (.int (-q - 1)), .fr (.int (b - r - 1))]) ?_
    refine exs_ret (ex_ifF (TsS.cast (ts_cmp (ev_name (i := 1) rfl rfl) ev_int cEq) (by simp; omega)) (exs_ret (ex_ifF (TsS.cast (ts_cmp (ev_name (i := 1) rfl rfl) ev_int cLt) (decide_eq_false (by omega))) (exs_ret (ex_ifT (TsS.cast (ts_cmp (ev_name (i := 0) rfl rfl) ev_int cLt) (decide_eq_true ha))
      (exs_cons (ex_unp (xs := [2, 3]) (.cons rfl rfl (.cons rfl rfl .nil)) (ev_call Z.g (es_cons (ev_un (ev_name (i := 0) rfl rfl) uInv) (es_cons (ev_name (i := 1) rfl rfl) es_nil)) C (by kernel_rfl)) rfl) (exs_ret (ex_ret (EvS.cast (ev_tuple (es_cons (ev_un (ev_name (i := 2) rfl rfl) uInv) (es_cons (ev_bin (ev_name (i := 1) rfl rfl) (ev_un (ev_name (i := 3) rfl rfl) uInv) (by first | exact bAdd | exact bCat (by first | assumption | omega | (constructor <;> omega) | (simp only [List.length_append, List.length_cons, List.length_nil]; omega) | (simp; done) | (simp; omega)))) es_nil))) ?_)))))))))
    unfold Builtin.bitNot
    have e1 : -(-q - 1) - 1 = q := by omega
    have e2 : b + (-(b - r - 1) - 1) = r := by omega
    rw [e1, e2]
theorem intBits_neg (b : Int) : Builtin.Int.intBits (-b) = Builtin.Int.intBits b := by
  unfold Builtin.Int.intBits
  rw [Int.natAbs_neg]
  by_cases h : b = 0
  · subst h; rfl
  · rw [if_neg (by simp; omega), if_neg (by simp; omega)]
theorem ct_dm {X : Cx} {a ap : Addr} (W : Wd X) (Z : FnR X "int_divmod" a bdDm psDm nnDm) (Zp : GFn X "_divmod_pos" ap) (Cp : CPos X ap) {x b q r : Int} (hx : x = q * b + r) (hq : -4000 ≤ q ∧ q ≤ 4000) (hr : 0 ≤ r ∧ r < b ∨ b < r ∧ r ≤ 0) (hN : (Builtin.Int.intBits b : Int) ≤ 4194304) :
    Ct X 114 a [.int x, .int b] (.seq true [.int q, .int r]) := by
  subst hx
  rcases hr with hr | hr
  · exact (dm_up W Z Zp Cp hq hr hN).up (by decide)
  · have hb : b < 0 := by omega
    have C := dm_up W Z Zp Cp (b := -b) (q := q) (r := -r) hq (by omega) (by rw [intBits_neg]; exact hN)
    have e : q * -b + -r = -(q * b + r) := by rw [Int.mul_neg]; omega
    rw [e] at C
    refine fn_ct ["q", "r"] W Z.f 113 (by decide) rfl (by kernel_rfl) rfl (σ' := [.fr (.int (q * b + r)), .fr (.int b), .fr (.int q), .fr (.int (-r))]) ?_
    refine exs_ret (ex_ifF (TsS.cast (ts_cmp (ev_name (i := 1) rfl rfl) ev_int cEq) (by simp; omega)) (exs_ret (ex_ifT (TsS.cast (ts_cmp (ev_name (i := 1) rfl rfl) ev_int cLt) (decide_eq_true hb))
      (exs_cons (ex_unp (xs := [2, 3]) (.cons rfl rfl (.cons rfl rfl .nil)) (ev_call Z.g (es_cons (ev_un (ev_name (i := 0) rfl rfl) uNeg) (es_cons (ev_un (ev_name (i := 1) rfl rfl) uNeg) es_nil)) C (by kernel_rfl)) rfl) (exs_ret (ex_ret (EvS.cast (ev_tuple (es_cons (ev_name (i := 2) rfl rfl) (es_cons (ev_un (ev_name (i := 3) rfl rfl) uNeg) es_nil))) ?_)))))))
    rw [Int.neg_neg]
end Mine
end

section
open PySem PySem.Calls PyProof.Rows
set_option Elab.async false
set_option maxRecDepth 100000
namespace Mine
noncomputable def numT (a : Int) (bl : Nat) : List Nat := joinD [95, 95] (intText a) ++ List.replicate bl 32
theorem intText_len {a : Int} (h : 0 ≤ a ∧ a ≤ 9999) : (intText a).length ≤ 11 := by
  have := int_text_length_le10 (a := a) (k := 10) (by omega) (by omega)
  have e := PySem.ofString_length (toString a)
  unfold intText
  rw [show (Str.ofString (toString a)).cps.toList.length = (Str.ofString (toString a)).length from Array.length_toList, e]
  exact this
theorem joinD_len (sep : List Nat) : ∀ l : List Nat, (joinD sep l).length ≤ l.length * (sep.length + 1)
  | [] => by simp [joinD]
  | c :: r => by
    have key : ∀ l : List Nat, ((l.map fun d => sep ++ [d]).flatten).length = l.length * (sep.length + 1) := by
      intro l
      induction l with
      | nil => simp
      | cons d l ih => simp only [List.map_cons, List.flatten_cons, List.length_append, ih, List.length_cons, List.length_nil, Nat.add_mul]; omega
    simp only [joinD, List.length_cons, key, Nat.add_mul]
    omega
theorem numT_len {a : Int} {bl : Nat} (h : 0 ≤ a ∧ a ≤ 9999) (hb : bl ≤ 3) : (numT a bl).length ≤ 40 := by
  unfold numT
  have h1 := intText_len h
  have h2 := joinD_len [95, 95] (intText a)
  simp only [List.length_cons, List.length_nil] at h2
  rw [List.length_append, List.length_replicate]
  omega
noncomputable abbrev psNum : List Str := ["number", "blanks"]
theorem ct_num {X : Cx} {a : Addr} (W : Wd X) (Z : FnR X "_law_numeral" a bdNum psNum nnNum) {i : Int} {bl : Nat} (h : 0 ≤ i ∧ i ≤ 9999) (hb : bl ≤ 3) : Ct X 1 a [.int i, .int bl] (.str (numT i bl)) := by
  have h1 := intText_len h
  have hlog : i.natAbs.log2 < 1920 := by
    by_cases hz : i = 0
    · subst hz; decide
    · have := (Nat.log2_lt (show i.natAbs ≠ 0 by omega)).mpr (show i.natAbs < 2 ^ 14 by omega)
      omega
  refine fn_ct [] W Z.f 0 (by decide) rfl (by kernel_rfl) rfl (σ' := [.fr (.int i), .fr (.int bl)]) ?_
  refine exs_ret (ex_ret (EvS.cast (ev_bin (ev_join (ev_bi (n := "str") (f := .type "str") (by decide) (es_cons (ev_name (i := 0) rfl rfl) es_nil) (biStr hlog) (by kernel_rfl) (.inr ⟨_, rfl⟩)) (by omega) (Nat.le_of_ble_eq_true (by kernel_rfl))) (ev_bin (ev_strL [32] (by kernel_rfl)) (ev_name (i := 1) rfl rfl) (by first | exact bMulL (by first | assumption | omega | (constructor <;> omega) | (simp only [List.length_append, List.length_cons, List.length_nil]; omega) | (simp; done) | (simp; omega)) | exact bMulR (by first | assumption | omega | (constructor <;> omega) | (simp only [List.length_append, List.length_cons, List.length_nil]; omega) | (simp; done) | (simp; omega)) | exact bRepS (by first | assumption | omega | (constructor <;> omega) | (simp only [List.length_append, List.length_cons, List.length_nil]; omega) | (simp; done) | (simp; omega)) (by first | assumption | omega | (constructor <;> omega) | (simp only [List.length_append, List.length_cons, List.length_nil]; omega) | (simp; done) | (simp; omega)))) (bCat ?_)) ?_))
  · have := joinD_len (Str.cps (Str.ofString "__")).toList (intText i)
    have e : (Str.cps (Str.ofString "__")).toList = [95, 95] := by kernel_rfl
    rw [e] at this ⊢
    simp only [List.length_cons, List.length_nil, List.length_replicate] at this ⊢
    have : strLid = 100000 := rfl
    omega
  · have e : (Str.cps (Str.ofString "__")).toList = [95, 95] := by kernel_rfl
    rw [e]
    rfl
end Mine
end

section
open PySem PySem.Calls PyProof.Rows
set_option Elab.async false
set_option maxRecDepth 100000
namespace Mine
/-- a step of the chain -/
structure Rw4 where
  s : Int
  c : Int
  z : Int
  e : Int
noncomputable abbrev Rw4.d (r : Rw4) : D := .seq false [.int r.s, .int r.c, .int r.z, .int r.e]
noncomputable def txStep (bl : Nat) (t : List Nat) (r : Rw4) : List Nat :=
  (if r.e > 0 then [40] ++ numT 1 bl ++ (if r.s = 1 then [43] else [45]) ++ t ++ [41] else numT 1 bl) ++ [47] ++ numT r.c bl
noncomputable def tx (bl : Nat) (rows : List Rw4) : List Nat := rows.reverse.foldl (txStep bl) []
noncomputable def tfull (bl : Nat) (rows : List Rw4) (turns : Int) : List Nat :=
  [40] ++ numT (if turns < 0 then -turns else turns) bl ++ (if turns < 0 then [45] else [43]) ++ tx bl rows ++ [41]
theorem txStep_len {bl : Nat} (hb : bl ≤ 3) (t : List Nat) (r : Rw4) (h : 0 ≤ r.c ∧ r.c ≤ 9999) : (txStep bl t r).length ≤ t.length + 100 := by
  have h1 := numT_len (a := 1) (by omega) hb
  have h2 := numT_len h hb
  unfold txStep
  split
  · split <;> simp only [List.length_append, List.length_cons, List.length_nil] <;> omega
  · simp only [List.length_append, List.length_cons, List.length_nil]; omega
noncomputable abbrev psText : List Str := ["rows", "blanks", "turns"]
noncomputable abbrev nmText : List Str := ["rows", "blanks", "turns", "text", "sign", "count", "size", "after"]
theorem text_loop {X : Cx} {an : Addr} (W : Wd X) (Zn : FnR X "_law_numeral" an bdNum psNum nnNum) {bl : Nat} (hb : bl ≤ 3) (dr dt : D) :
    ∀ (rs : List Rw4) (t : List Nat) (s4 s5 s6 s7 : Sl), (∀ r ∈ rs, (r.s = 1 ∨ r.s = -1) ∧ 0 ≤ r.c ∧ r.c ≤ 9999) → t.length + rs.length * 100 ≤ 10000 → ∃ s4' s5' s6' s7', ForR ⟨X, 1, nmText, nnText, []⟩ tgText lpText
      (rs.map Rw4.d) [.fr dr, .fr (.int bl), .fr dt, .fr (.str t), s4, s5, s6, s7] .nx [.fr dr, .fr (.int bl), .fr dt, .fr (.str (rs.foldl (txStep bl) t)), s4', s5', s6', s7']
  | [], t, s4, s5, s6, s7, _, _ => ⟨s4, s5, s6, s7, .nil⟩
  | ⟨sg, c, z, e⟩ :: rs, t, s4, s5, s6, s7, h, hl => by
    obtain ⟨hs, hc⟩ := h _ (.head _)
    dsimp only at hs hc
    have hn1 := numT_len (a := 1) (by omega) hb
    have hn2 := numT_len hc hb
    have ht := txStep_len hb t ⟨sg, c, z, e⟩ hc
    simp only [List.length_cons] at hl
    have hlid : strLid = 100000 := rfl
    obtain ⟨s4', s5', s6', s7', ih⟩ := text_loop W Zn hb dr dt rs (txStep bl t ⟨sg, c, z, e⟩) (.fr (.int sg)) (.fr (.int c)) (.fr (.int z)) (.fr (.int e)) (fun r hr => h r (.tail _ hr)) (by omega)
    refine ⟨s4', s5', s6', s7', .go (d := .seq false [.int sg, .int c, .int z, .int e]) (bd_tup (xs := [4, 5, 6, 7]) (.cons rfl rfl (.cons rfl rfl (.cons rfl rfl (.cons rfl rfl .nil)))) rfl) ?_ ih⟩
    by_cases he : e > 0
    · have ets : txStep bl t ⟨sg, c, z, e⟩ = ([40] ++ numT 1 bl ++ (if sg = 1 then [43] else [45]) ++ t ++ [41]) ++ [47] ++ numT c bl := by simp [txStep, he]
      rw [ets]
      rcases hs with rfl | rfl
      · refine exs_cons (ex_ifT (σ' := [.fr dr, .fr (.int bl), .fr dt, .fr (.str ([40] ++ numT 1 bl ++ [43] ++ t ++ [41])), .fr (.int 1), .fr (.int c), .fr (.int z), .fr (.int e)]) (TsS.cast (ts_cmp (ev_name (i := 7) rfl rfl) ev_int cGt) (decide_eq_true he)) (exs_cons (ex_asg (i := 3) rfl (ev_bin (ev_bin (ev_bin (ev_bin (ev_strL [40] (by kernel_rfl)) (ev_call Zn.g (es_cons ev_int (es_cons (ev_name (i := 1) rfl rfl) es_nil)) (by first | exact ct_num W Zn (by decide) hb | exact ct_num W Zn hc hb) (by kernel_rfl)) (by first | exact bAdd | exact bCat (by first | assumption | omega | (constructor <;> omega) | (simp only [List.length_append, List.length_cons, List.length_nil]; omega) | (simp; done) | (simp; omega)))) (ev_ifT (TsS.cast (ts_cmp (ev_name (i := 4) rfl rfl) ev_int cEq) (by first | exact decide_eq_true (by omega) | exact decide_eq_false (by omega) | exact beq_iff_eq.mpr (by omega) | exact beq_eq_false_iff_ne.mpr (by omega))) (ev_strL [43] (by kernel_rfl))) (by first | exact bAdd | exact bCat (by first | assumption | omega | (constructor <;> omega) | (simp only [List.length_append, List.length_cons, List.length_nil]; omega) | (simp; done) | (simp; omega)))) (ev_name (i := 3) rfl rfl) (by first | exact bAdd | exact bCat (by first | assumption | omega | (constructor <;> omega) | (simp only [List.length_append, List.length_cons, List.length_nil]; omega) | (simp; done) | (simp; omega)))) (ev_strL [41] (by kernel_rfl)) (by first | exact bAdd | exact bCat (by first | assumption | omega | (constructor <;> omega) | (simp only [List.length_append, List.length_cons, List.length_nil]; omega) | (simp; done) | (simp; omega))))) exs_nil)) ?_
        exact exs_cons (ex_asg (i := 3) rfl (ev_bin (ev_bin (ev_name (i := 3) rfl rfl) (ev_strL [47] (by kernel_rfl)) (by first | exact bAdd | exact bCat (by first | assumption | omega | (constructor <;> omega) | (simp only [List.length_append, List.length_cons, List.length_nil]; omega) | (simp; done) | (simp; omega)))) (ev_call Zn.g (es_cons (ev_name (i := 5) rfl rfl) (es_cons (ev_name (i := 1) rfl rfl) es_nil)) (by first | exact ct_num W Zn (by decide) hb | exact ct_num W Zn hc hb) (by kernel_rfl)) (by first | exact bAdd | exact bCat (by first | assumption | omega | (constructor <;> omega) | (simp only [List.length_append, List.length_cons, List.length_nil]; omega) | (simp; done) | (simp; omega))))) exs_nil
      · refine exs_cons (ex_ifT (σ' := [.fr dr, .fr (.int bl), .fr dt, .fr (.str ([40] ++ numT 1 bl ++ [45] ++ t ++ [41])), .fr (.int (-1)), .fr (.int c), .fr (.int z), .fr (.int e)]) (TsS.cast (ts_cmp (ev_name (i := 7) rfl rfl) ev_int cGt) (decide_eq_true he)) (exs_cons (ex_asg (i := 3) rfl (ev_bin (ev_bin (ev_bin (ev_bin (ev_strL [40] (by kernel_rfl)) (ev_call Zn.g (es_cons ev_int (es_cons (ev_name (i := 1) rfl rfl) es_nil)) (by first | exact ct_num W Zn (by decide) hb | exact ct_num W Zn hc hb) (by kernel_rfl)) (by first | exact bAdd | exact bCat (by first | assumption | omega | (constructor <;> omega) | (simp only [List.length_append, List.length_cons, List.length_nil]; omega) | (simp; done) | (simp; omega)))) (ev_ifF (TsS.cast (ts_cmp (ev_name (i := 4) rfl rfl) ev_int cEq) (by first | exact decide_eq_true (by omega) | exact decide_eq_false (by omega) | exact beq_iff_eq.mpr (by omega) | exact beq_eq_false_iff_ne.mpr (by omega))) (ev_strL [45] (by kernel_rfl))) (by first | exact bAdd | exact bCat (by first | assumption | omega | (constructor <;> omega) | (simp only [List.length_append, List.length_cons, List.length_nil]; omega) | (simp; done) | (simp; omega)))) (ev_name (i := 3) rfl rfl) (by first | exact bAdd | exact bCat (by first | assumption | omega | (constructor <;> omega) | (simp only [List.length_append, List.length_cons, List.length_nil]; omega) | (simp; done) | (simp; omega)))) (ev_strL [41] (by kernel_rfl)) (by first | exact bAdd | exact bCat (by first | assumption | omega | (constructor <;> omega) | (simp only [List.length_append, List.length_cons, List.length_nil]; omega) | (simp; done) | (simp; omega))))) exs_nil)) ?_
        exact exs_cons (ex_asg (i := 3) rfl (ev_bin (ev_bin (ev_name (i := 3) rfl rfl) (ev_strL [47] (by kernel_rfl)) (by first | exact bAdd | exact bCat (by first | assumption | omega | (constructor <;> omega) | (simp only [List.length_append, List.length_cons, List.length_nil]; omega) | (simp; done) | (simp; omega)))) (ev_call Zn.g (es_cons (ev_name (i := 5) rfl rfl) (es_cons (ev_name (i := 1) rfl rfl) es_nil)) (by first | exact ct_num W Zn (by decide) hb | exact ct_num W Zn hc hb) (by kernel_rfl)) (by first | exact bAdd | exact bCat (by first | assumption | omega | (constructor <;> omega) | (simp only [List.length_append, List.length_cons, List.length_nil]; omega) | (simp; done) | (simp; omega))))) exs_nil
    · have ets : txStep bl t ⟨sg, c, z, e⟩ = numT 1 bl ++ [47] ++ numT c bl := by simp [txStep, he]
      rw [ets]
      refine exs_cons (ex_ifF (σ' := [.fr dr, .fr (.int bl), .fr dt, .fr (.str (numT 1 bl)), .fr (.int sg), .fr (.int c), .fr (.int z), .fr (.int e)]) (TsS.cast (ts_cmp (ev_name (i := 7) rfl rfl) ev_int cGt) (decide_eq_false he)) (exs_cons (ex_asg (i := 3) rfl (ev_call Zn.g (es_cons ev_int (es_cons (ev_name (i := 1) rfl rfl) es_nil)) (by first | exact ct_num W Zn (by decide) hb | exact ct_num W Zn hc hb) (by kernel_rfl))) exs_nil)) ?_
      exact exs_cons (ex_asg (i := 3) rfl (ev_bin (ev_bin (ev_name (i := 3) rfl rfl) (ev_strL [47] (by kernel_rfl)) (by first | exact bAdd | exact bCat (by first | assumption | omega | (constructor <;> omega) | (simp only [List.length_append, List.length_cons, List.length_nil]; omega) | (simp; done) | (simp; omega)))) (ev_call Zn.g (es_cons (ev_name (i := 5) rfl rfl) (es_cons (ev_name (i := 1) rfl rfl) es_nil)) (by first | exact ct_num W Zn (by decide) hb | exact ct_num W Zn hc hb) (by kernel_rfl)) (by first | exact bAdd | exact bCat (by first | assumption | omega | (constructor <;> omega) | (simp only [List.length_append, List.length_cons, List.length_nil]; omega) | (simp; done) | (simp; omega))))) exs_nil
theorem tx_len {bl : Nat} (hb : bl ≤ 3) : ∀ (rs : List Rw4) (t : List Nat), (∀ r ∈ rs, 0 ≤ r.c ∧ r.c ≤ 9999) → (rs.foldl (txStep bl) t).length ≤ t.length + rs.length * 100
  | [], t, _ => by simp
  | r :: rs, t, h => by
    have h1 := txStep_len hb t r (h r (.head _))
    have h2 := tx_len hb rs (txStep bl t r) fun x hx => h x (.tail _ hx)
    simp only [List.foldl_cons, List.length_cons]
    omega
theorem ct_text {X : Cx} {a an : Addr} (W : Wd X) (Z : FnR X "_law_text" a bdText psText nnText) (Zn : FnR X "_law_numeral" an bdNum psNum nnNum) {bl : Nat} (hb : bl ≤ 3) {rows : List Rw4} {turns : Int}
    (h : ∀ r ∈ rows, (r.s = 1 ∨ r.s = -1) ∧ 0 ≤ r.c ∧ r.c ≤ 9999) (hl : rows.length ≤ 50) (ht : -9999 ≤ turns ∧ turns ≤ 9999) :
    Ct X 2 a [.seq false (rows.map Rw4.d), .int bl, .int turns] (.str (tfull bl rows turns)) := by
  obtain ⟨s4, s5, s6, s7, L⟩ := text_loop W Zn hb (.seq false (rows.map Rw4.d)) (.int turns) rows.reverse [] .un .un .un .un (fun r hr => h r (List.mem_reverse.mp hr)) (by simp; omega)
  have hl1 : (rows.map Rw4.d).length ≤ strLid := by rw [List.length_map]; have : strLid = 100000 := rfl; omega
  have hx := tx_len hb rows.reverse [] fun r hr => (h r (List.mem_reverse.mp hr)).2
  have hx' : (tx bl rows).length ≤ 5000 := by simp only [List.length_nil, List.length_reverse, Nat.zero_add] at hx; unfold tx; omega
  have hx2 : (rows.reverse.foldl (txStep bl) []).length ≤ 5000 := hx'
  have hlid : strLid = 100000 := rfl
  refine fn_ct ["text", "sign", "count", "size", "after"] W Z.f 1 (by decide) rfl (by kernel_rfl) rfl (σ' := [.fr (.seq false (rows.map Rw4.d)), .fr (.int bl), .fr (.int turns), .fr (.str (tx bl rows)), s4, s5, s6, s7]) ?_
  refine exs_cons (ex_asg (i := 3) rfl (ev_strL [] (by kernel_rfl))) ?_
  refine exs_cons (ex_for (src_list (ev_cutRev (ev_name (i := 0) rfl rfl) hl1) (by rw [List.length_reverse]; exact hl1)) (by rw [← List.map_reverse]; exact L)) ?_
  by_cases hs : turns < 0
  · have hc : 0 ≤ -turns ∧ -turns ≤ 9999 := by omega
    have hn2 := numT_len hc hb
    have ets : tfull bl rows turns = [40] ++ numT (-turns) bl ++ [45] ++ tx bl rows ++ [41] := by simp [tfull, hs]
    rw [ets]
    exact exs_ret (ex_ret (ev_bin (ev_bin (ev_bin (ev_bin (ev_strL [40] (by kernel_rfl)) (ev_call Zn.g (es_cons (EvS.cast (ev_bi (n := "abs") (f := .builtin "abs") (.tail _ (.tail _ (.tail _ (.head _)))) (es_cons (ev_name (i := 2) rfl rfl) es_nil) (by exact biAbs) (by kernel_rfl) (.inl ⟨_, rfl⟩)) (by rw [if_pos hs])) (es_cons (ev_name (i := 1) rfl rfl) es_nil)) (ct_num W Zn hc hb) (by kernel_rfl)) (bCat (by simp only [List.length_append, List.length_cons, List.length_nil]; omega))) (ev_ifT (TsS.cast (ts_cmp (ev_name (i := 2) rfl rfl) ev_int cLt) (by first | exact decide_eq_true (by omega) | exact decide_eq_false (by omega) | exact beq_iff_eq.mpr (by omega) | exact beq_eq_false_iff_ne.mpr (by omega))) (ev_strL [45] (by kernel_rfl))) (bCat (by simp only [List.length_append, List.length_cons, List.length_nil]; omega))) (ev_name (i := 3) rfl rfl) (bCat (by simp only [List.length_append, List.length_cons, List.length_nil]; omega))) (ev_strL [41] (by kernel_rfl)) (bCat (by simp only [List.length_append, List.length_cons, List.length_nil]; omega))))
  · have hc : 0 ≤ turns ∧ turns ≤ 9999 := by omega
    have hn2 := numT_len hc hb
    have ets : tfull bl rows turns = [40] ++ numT turns bl ++ [43] ++ tx bl rows ++ [41] := by simp [tfull, hs]
    rw [ets]
    exact exs_ret (ex_ret (ev_bin (ev_bin (ev_bin (ev_bin (ev_strL [40] (by kernel_rfl)) (ev_call Zn.g (es_cons (EvS.cast (ev_bi (n := "abs") (f := .builtin "abs") (.tail _ (.tail _ (.tail _ (.head _)))) (es_cons (ev_name (i := 2) rfl rfl) es_nil) (by exact biAbs) (by kernel_rfl) (.inl ⟨_, rfl⟩)) (by rw [if_neg hs])) (es_cons (ev_name (i := 1) rfl rfl) es_nil)) (ct_num W Zn hc hb) (by kernel_rfl)) (bCat (by simp only [List.length_append, List.length_cons, List.length_nil]; omega))) (ev_ifF (TsS.cast (ts_cmp (ev_name (i := 2) rfl rfl) ev_int cLt) (by first | exact decide_eq_true (by omega) | exact decide_eq_false (by omega) | exact beq_iff_eq.mpr (by omega) | exact beq_eq_false_iff_ne.mpr (by omega))) (ev_strL [43] (by kernel_rfl))) (bCat (by simp only [List.length_append, List.length_cons, List.length_nil]; omega))) (ev_name (i := 3) rfl rfl) (bCat (by simp only [List.length_append, List.length_cons, List.length_nil]; omega))) (ev_strL [41] (by kernel_rfl)) (bCat (by simp only [List.length_append, List.length_cons, List.length_nil]; omega))))
end Mine
end

section
open PySem PySem.Calls PyProof.Rows
set_option Elab.async false
set_option maxRecDepth 100000
namespace Mine
noncomputable def stp (f1 f2 : Int → Int) (low bl picks : Int) (k : Nat) (z : Int) : Rw4 :=
  if (picks.fdiv (2 ^ k)).fmod 2 = 1 then ⟨1, (f1 z - bl).fdiv z, z, f1 z - bl - low⟩ else ⟨-1, (f2 z - bl - z).fdiv z, z, low - (f2 z - bl - z)⟩
noncomputable def chn (f1 f2 : Int → Int) (low bl picks : Int) : Nat → Nat → Int → List Rw4
  | 0, _, _ => []
  | n + 1, k, z => if z > 0 then stp f1 f2 low bl picks k z :: chn f1 f2 low bl picks n (k + 1) (stp f1 f2 low bl picks k z).e else []
noncomputable abbrev psStops : List Str := ["leads", "top", "low", "picks", "blanks"]
noncomputable abbrev nmStops : List Str := ["leads", "top", "low", "picks", "blanks", "rows", "size", "column"]
theorem stops_loop {X : Cx} {ai : Addr} (W : Wd X) (Zi : MeR X "indent_level" ai bdInd psInd nnInd) {c1 c2 : List Int} {t1 n1 t2 n2 : Int} (hc1 : c1.length ≤ 1000) (hb1 : ∀ x ∈ c1, -1000 ≤ x ∧ x ≤ 1000) (hc2 : c2.length ≤ 1000) (hb2 : ∀ x ∈ c2, -1000 ≤ x ∧ x ≤ 1000)
    {low bl picks : Int} (hlow : 0 ≤ low ∧ low ≤ 40) (H : ∀ k z, 0 < z → z ≤ low → 0 ≤ (stp (ind c1 t1 n1) (ind c2 t2 n2) low bl picks k z).e ∧ (stp (ind c1 t1 n1) (ind c2 t2 n2) low bl picks k z).e ≤ low) (dt : D) :
    ∀ (n : Nat) (acc : List Rw4) (z : Int) (s7 : Sl), (acc.length : Int) + n = low → 0 ≤ z → z ≤ low → ∃ z' s7', WhR ⟨X, 1, nmStops, nnStops, []⟩ twStops lpStops (n + 1)
      [.fr (.seq false [.ws c1 t1 n1, .ws c2 t2 n2]), .fr dt, .fr (.int low), .fr (.int picks), .fr (.int bl), .ow (acc.map Rw4.d), .fr (.int z), s7] .nx
      [.fr (.seq false [.ws c1 t1 n1, .ws c2 t2 n2]), .fr dt, .fr (.int low), .fr (.int picks), .fr (.int bl), .ow ((acc ++ chn (ind c1 t1 n1) (ind c2 t2 n2) low bl picks n acc.length z).map Rw4.d), .fr (.int z'), s7']
  | 0, acc, z, s7, hn, h0, h1 => by
    refine ⟨z, s7, ?_⟩
    have hlr : (acc.map Rw4.d).length ≤ strLid := by rw [List.length_map]; have : strLid = 100000 := rfl; omega
    have hlen : ((acc.map Rw4.d).length : Int) = low := by rw [List.length_map]; omega
    simp only [chn, List.append_nil]
    refine .stop ?_
    by_cases hz : 0 < z
    · exact ts_andT (TsS.cast (ts_cmp (ev_name (i := 6) rfl rfl) ev_int cGt) (decide_eq_true hz)) (TsS.cast (ts_cmp (ev_lenO (j := 5) rfl rfl (by first | assumption | omega | (constructor <;> omega) | (simp only [List.length_append, List.length_cons, List.length_nil]; omega) | (simp; done) | (simp; omega)) (by kernel_rfl)) (ev_name (i := 2) rfl rfl) cLt) (decide_eq_false (by omega)))
    · exact ts_andF (TsS.cast (ts_cmp (ev_name (i := 6) rfl rfl) ev_int cGt) (decide_eq_false hz))
  | n + 1, acc, z, s7, hn, h0, h1 => by
    have hlr : (acc.map Rw4.d).length ≤ strLid := by rw [List.length_map]; have : strLid = 100000 := rfl; omega
    have hlen : ((acc.map Rw4.d).length : Int) = acc.length := by rw [List.length_map]
    by_cases hz0 : 0 < z
    · have hz : 1 ≤ z ∧ z ≤ 1000 := by omega
      have hzz : 1 ≤ z ∧ z ≤ 4611686018427387904 := by omega
      have hpw : (Builtin.Int.intBits 2 : Int) * ((acc.map Rw4.d).length : Int) ≤ 2 ^ 27 := by rw [show Builtin.Int.intBits 2 = 2 by decide]; omega
      have hnn : (0 : Int) ≤ ((acc.map Rw4.d).length : Int) := by omega
      have hpt : (((acc.map Rw4.d).length : Int)).toNat = acc.length := by omega
      have hq : (1 : Int) ≤ 2 ^ (((acc.map Rw4.d).length : Int)).toNat ∧ (2 : Int) ^ (((acc.map Rw4.d).length : Int)).toNat ≤ 4611686018427387904 := by
        rw [hpt]
        have e1 : ((2 : Int) ^ acc.length) = ((2 ^ acc.length : Nat) : Int) := by simp
        have e2 : 2 ^ acc.length ≤ 2 ^ 40 := Nat.pow_le_pow_right (by decide) (by omega)
        have e3 : 0 < 2 ^ acc.length := Nat.pow_pos (by decide)
        rw [e1]
        omega
      have hch : chn (ind c1 t1 n1) (ind c2 t2 n2) low bl picks (n + 1) acc.length z = stp (ind c1 t1 n1) (ind c2 t2 n2) low bl picks acc.length z :: chn (ind c1 t1 n1) (ind c2 t2 n2) low bl picks n (acc.length + 1) (stp (ind c1 t1 n1) (ind c2 t2 n2) low bl picks acc.length z).e := by
        simp only [chn]; rw [if_pos hz0]
      obtain ⟨he0, he1⟩ := H acc.length z hz0 h1
      have ht : TsS ⟨X, 1, nmStops, nnStops, []⟩ [.fr (.seq false [.ws c1 t1 n1, .ws c2 t2 n2]), .fr dt, .fr (.int low), .fr (.int picks), .fr (.int bl), .ow (acc.map Rw4.d), .fr (.int z), s7] twStops true :=
        ts_andT (TsS.cast (ts_cmp (ev_name (i := 6) rfl rfl) ev_int cGt) (decide_eq_true hz0)) (TsS.cast (ts_cmp (ev_lenO (j := 5) rfl rfl (by first | assumption | omega | (constructor <;> omega) | (simp only [List.length_append, List.length_cons, List.length_nil]; omega) | (simp; done) | (simp; omega)) (by kernel_rfl)) (ev_name (i := 2) rfl rfl) cLt) (decide_eq_true (by omega)))
      by_cases hb : (picks.fdiv (2 ^ acc.length)).fmod 2 = 1
      · have es : stp (ind c1 t1 n1) (ind c2 t2 n2) low bl picks acc.length z = ⟨1, (ind c1 t1 n1 z - bl).fdiv z, z, ind c1 t1 n1 z - bl - low⟩ := if_pos hb
        rw [es] at hch he0 he1
        obtain ⟨z', s7', ih⟩ := stops_loop W Zi hc1 hb1 hc2 hb2 hlow H dt n (acc ++ [⟨1, (ind c1 t1 n1 z - bl).fdiv z, z, ind c1 t1 n1 z - bl - low⟩]) (ind c1 t1 n1 z - bl - low) (.fr (.int (ind c1 t1 n1 z - bl))) (by simp only [List.length_append, List.length_cons, List.length_nil]; omega) he0 he1
        refine ⟨z', s7', .go (σ₁ := [.fr (.seq false [.ws c1 t1 n1, .ws c2 t2 n2]), .fr dt, .fr (.int low), .fr (.int picks), .fr (.int bl), .ow ((acc ++ [(⟨1, (ind c1 t1 n1 z - bl).fdiv z, z, ind c1 t1 n1 z - bl - low⟩ : Rw4)]).map Rw4.d), .fr (.int (ind c1 t1 n1 z - bl - low)), .fr (.int (ind c1 t1 n1 z - bl))]) ht ?_ ?_⟩
        · rw [List.map_append]
          refine exs_cons (ex_ifT (TsS.cast (ts_cmp (ev_bin (ev_bin (ev_name (i := 3) rfl rfl) (ev_bin ev_int (ev_lenO (j := 5) rfl rfl (by first | assumption | omega | (constructor <;> omega) | (simp only [List.length_append, List.length_cons, List.length_nil]; omega) | (simp; done) | (simp; omega)) (by kernel_rfl)) (bPow (by first | assumption | omega | (constructor <;> omega) | (simp only [List.length_append, List.length_cons, List.length_nil]; omega) | (simp; done) | (simp; omega)) (by first | assumption | omega | (constructor <;> omega) | (simp only [List.length_append, List.length_cons, List.length_nil]; omega) | (simp; done) | (simp; omega)))) (bDivS (by first | assumption | omega | (constructor <;> omega) | (simp only [List.length_append, List.length_cons, List.length_nil]; omega) | (simp; done) | (simp; omega)))) ev_int (bModS (by first | assumption | omega | (constructor <;> omega) | (simp only [List.length_append, List.length_cons, List.length_nil]; omega) | (simp; done) | (simp; omega)))) ev_int cEq) (by rw [hpt]; simpa using hb)) (exs_cons (ex_asg (i := 7) rfl (ev_bin (ev_wm Zi.g (ev_idx (ev_name (i := 0) rfl rfl) ev_int (.pos 0 rfl (by decide))) (es_cons (ev_name (i := 6) rfl rfl) es_nil) (by first | exact ct_ind W Zi hc1 hz hb1 | exact ct_ind W Zi hc2 hz hb2)) (ev_name (i := 4) rfl rfl) bSub)) (exs_cons (ex_app (i := 5) rfl rfl (ev_list (es_cons ev_int (es_cons (ev_bin (ev_name (i := 7) rfl rfl) (ev_name (i := 6) rfl rfl) (bDivS (by first | assumption | omega | (constructor <;> omega) | (simp only [List.length_append, List.length_cons, List.length_nil]; omega) | (simp; done) | (simp; omega)))) (es_cons (ev_name (i := 6) rfl rfl) (es_cons (ev_bin (ev_name (i := 7) rfl rfl) (ev_name (i := 2) rfl rfl) bSub) es_nil))))) hlr) exs_nil))) ?_
          exact exs_cons (ex_asg (i := 6) rfl (ev_idx (ev_idxO (j := 5) rfl rfl (ev_un ev_int uNeg) .last) ev_int (.pos 3 rfl (by decide)))) exs_nil
        · rw [hch]
          rw [List.length_append, List.append_assoc] at ih
          exact ih
      · have es : stp (ind c1 t1 n1) (ind c2 t2 n2) low bl picks acc.length z = ⟨-1, (ind c2 t2 n2 z - bl - z).fdiv z, z, low - (ind c2 t2 n2 z - bl - z)⟩ := if_neg hb
        rw [es] at hch he0 he1
        obtain ⟨z', s7', ih⟩ := stops_loop W Zi hc1 hb1 hc2 hb2 hlow H dt n (acc ++ [⟨-1, (ind c2 t2 n2 z - bl - z).fdiv z, z, low - (ind c2 t2 n2 z - bl - z)⟩]) (low - (ind c2 t2 n2 z - bl - z)) (.fr (.int (ind c2 t2 n2 z - bl - z))) (by simp only [List.length_append, List.length_cons, List.length_nil]; omega) he0 he1
        refine ⟨z', s7', .go (σ₁ := [.fr (.seq false [.ws c1 t1 n1, .ws c2 t2 n2]), .fr dt, .fr (.int low), .fr (.int picks), .fr (.int bl), .ow ((acc ++ [(⟨-1, (ind c2 t2 n2 z - bl - z).fdiv z, z, low - (ind c2 t2 n2 z - bl - z)⟩ : Rw4)]).map Rw4.d), .fr (.int (low - (ind c2 t2 n2 z - bl - z))), .fr (.int (ind c2 t2 n2 z - bl - z))]) ht ?_ ?_⟩
        · rw [List.map_append]
          refine exs_cons (ex_ifF (TsS.cast (ts_cmp (ev_bin (ev_bin (ev_name (i := 3) rfl rfl) (ev_bin ev_int (ev_lenO (j := 5) rfl rfl (by first | assumption | omega | (constructor <;> omega) | (simp only [List.length_append, List.length_cons, List.length_nil]; omega) | (simp; done) | (simp; omega)) (by kernel_rfl)) (bPow (by first | assumption | omega | (constructor <;> omega) | (simp only [List.length_append, List.length_cons, List.length_nil]; omega) | (simp; done) | (simp; omega)) (by first | assumption | omega | (constructor <;> omega) | (simp only [List.length_append, List.length_cons, List.length_nil]; omega) | (simp; done) | (simp; omega)))) (bDivS (by first | assumption | omega | (constructor <;> omega) | (simp only [List.length_append, List.length_cons, List.length_nil]; omega) | (simp; done) | (simp; omega)))) ev_int (bModS (by first | assumption | omega | (constructor <;> omega) | (simp only [List.length_append, List.length_cons, List.length_nil]; omega) | (simp; done) | (simp; omega)))) ev_int cEq) (by rw [hpt]; simpa using hb)) (exs_cons (ex_asg (i := 7) rfl (ev_bin (ev_bin (ev_wm Zi.g (ev_idx (ev_name (i := 0) rfl rfl) ev_int (.pos 1 rfl (by decide))) (es_cons (ev_name (i := 6) rfl rfl) es_nil) (by first | exact ct_ind W Zi hc1 hz hb1 | exact ct_ind W Zi hc2 hz hb2)) (ev_name (i := 4) rfl rfl) bSub) (ev_name (i := 6) rfl rfl) bSub)) (exs_cons (ex_app (i := 5) rfl rfl (ev_list (es_cons (ev_un ev_int uNeg) (es_cons (ev_bin (ev_name (i := 7) rfl rfl) (ev_name (i := 6) rfl rfl) (bDivS (by first | assumption | omega | (constructor <;> omega) | (simp only [List.length_append, List.length_cons, List.length_nil]; omega) | (simp; done) | (simp; omega)))) (es_cons (ev_name (i := 6) rfl rfl) (es_cons (ev_bin (ev_name (i := 2) rfl rfl) (ev_name (i := 7) rfl rfl) bSub) es_nil))))) hlr) exs_nil))) ?_
          exact exs_cons (ex_asg (i := 6) rfl (ev_idx (ev_idxO (j := 5) rfl rfl (ev_un ev_int uNeg) .last) ev_int (.pos 3 rfl (by decide)))) exs_nil
        · rw [hch]
          rw [List.length_append, List.append_assoc] at ih
          exact ih
    · refine ⟨z, s7, ?_⟩
      have : chn (ind c1 t1 n1) (ind c2 t2 n2) low bl picks (n + 1) acc.length z = [] := by simp only [chn]; rw [if_neg hz0]
      rw [this, List.append_nil]
      exact .stop (ts_andF (TsS.cast (ts_cmp (ev_name (i := 6) rfl rfl) ev_int cGt) (decide_eq_false hz0)))
theorem ct_stops {X : Cx} {a ai : Addr} (W : Wd X) (Z : FnR X "_law_stops" a bdStops psStops nnStops) (Zi : MeR X "indent_level" ai bdInd psInd nnInd) {c1 c2 : List Int} {t1 n1 t2 n2 : Int} (hc1 : c1.length ≤ 1000) (hb1 : ∀ x ∈ c1, -1000 ≤ x ∧ x ≤ 1000) (hc2 : c2.length ≤ 1000) (hb2 : ∀ x ∈ c2, -1000 ≤ x ∧ x ≤ 1000)
    {low bl picks top : Int} (hlow : 0 ≤ low ∧ low ≤ 40) (H : ∀ k z, 0 < z → z ≤ low → 0 ≤ (stp (ind c1 t1 n1) (ind c2 t2 n2) low bl picks k z).e ∧ (stp (ind c1 t1 n1) (ind c2 t2 n2) low bl picks k z).e ≤ low) (ht : 0 ≤ top ∧ top ≤ low) :
    Ct X 2 a [.seq false [.ws c1 t1 n1, .ws c2 t2 n2], .int top, .int low, .int picks, .int bl] (.seq false ((chn (ind c1 t1 n1) (ind c2 t2 n2) low bl picks low.toNat 0 top).map Rw4.d)) := by
  obtain ⟨z', s7', L⟩ := stops_loop W Zi hc1 hb1 hc2 hb2 hlow H (.int top) low.toNat [] top .un (by simp; omega) ht.1 ht.2
  refine fn_ct ["rows", "size", "column"] W Z.f 1 (by decide) rfl (by kernel_rfl) rfl (σ' := [.fr (.seq false [.ws c1 t1 n1, .ws c2 t2 n2]), .fr (.int top), .fr (.int low), .fr (.int picks), .fr (.int bl), .fr (.seq false ((chn (ind c1 t1 n1) (ind c2 t2 n2) low bl picks low.toNat 0 top).map Rw4.d)), .fr (.int z'), s7']) ?_
  refine exs_cons (ex_tupS (i := 5) (j := 6) rfl rfl (ev_name (i := 1) rfl rfl) (by kernel_rfl) (by kernel_rfl) (by kernel_rfl)) (exs_cons (ex_while _ L) (exs_frz 5 rfl (exs_ret (ex_ret (ev_name (i := 5) rfl rfl)))))
end Mine
end

section
open PySem PySem.Calls PyProof.Rows
set_option Elab.async false
set_option maxRecDepth 100000
namespace Mine
noncomputable abbrev psDvd : List Str := ["rows", "low", "common", "turns"]
noncomputable abbrev nmDvd : List Str := ["rows", "low", "common", "turns", "sign", "count", "size", "after", "more"]
/-- what the chain's steps are known to be -/
structure RowOk (low : Int) (r : Rw4) : Prop where
  s : r.s = 1 ∨ r.s = -1
  z : 1 ≤ r.z ∧ r.z ≤ 1000
  c : -1000 ≤ r.c ∧ r.c ≤ 1000
  e : 0 ≤ r.e ∧ r.e < r.z
  v : r.s * (r.c * r.z - low) = r.e
theorem divd_id {s c z e low co m : Int} (hs : s = 1 ∨ s = -1) (hv : s * (c * z - low) = e) : (m * z - s * low) * co = (m - s * c) * (z * co) + e * co := by
  have h : m * z - s * low = (m - s * c) * z + e := by
    rcases hs with rfl | rfl
    · rw [Int.one_mul] at hv; rw [Int.one_mul, Int.one_mul, Int.sub_mul]; omega
    · rw [Int.neg_mul, Int.one_mul] at hv; rw [Int.neg_mul, Int.neg_mul, Int.one_mul, Int.one_mul, Int.sub_mul, Int.neg_mul]; omega
  rw [h, Int.add_mul, Int.mul_assoc]
theorem divd_r {z e co : Int} (hz : e < z) (h0 : 0 ≤ e) (hc : co ≠ 0) : 0 ≤ e * co ∧ e * co < z * co ∨ z * co < e * co ∧ e * co ≤ 0 := by
  rcases Int.lt_or_gt_of_ne hc with h | h
  · exact .inr ⟨Int.mul_lt_mul_of_neg_right hz h, Int.mul_nonpos_of_nonneg_of_nonpos h0 (by omega)⟩
  · exact .inl ⟨Int.mul_nonneg h0 (by omega), Int.mul_lt_mul_of_pos_right hz h⟩
noncomputable abbrev CDm (X : Cx) (a : Addr) : Prop := ∀ {x b q r : Int}, x = q * b + r → -4000 ≤ q ∧ q ≤ 4000 → (0 ≤ r ∧ r < b ∨ b < r ∧ r ≤ 0) → (Builtin.Int.intBits b : Int) ≤ 4194304 → Ct X 114 a [.int x, .int b] (.seq true [.int q, .int r])
theorem dvd_in {X : Cx} {am : Addr} (Zm : GFn X "int_divmod" am) (Cm : CDm X am) {low co : Int} (hco : co ≠ 0) (hlow : 0 ≤ low ∧ low ≤ 1000) (hbits : ∀ z : Int, 1 ≤ z → z ≤ 1000 → (Builtin.Int.intBits (z * co) : Int) ≤ 4194304) (dr dt : D) {s c z e : Int} (ok : RowOk low ⟨s, c, z, e⟩) :
    ∀ (ms : List Int) (s8 : Sl), (∀ m ∈ ms, -2500 ≤ m ∧ m ≤ 2500) → ∃ s8', ForR ⟨X, 120, nmDvd, nnDvd, []⟩ tgDvdI lpDvdI (ms.map .int)
      [.fr dr, .fr (.int low), .fr (.int co), .fr dt, .fr (.int s), .fr (.int c), .fr (.int z), .fr (.int e), s8] .nx [.fr dr, .fr (.int low), .fr (.int co), .fr dt, .fr (.int s), .fr (.int c), .fr (.int z), .fr (.int e), s8']
  | [], s8, _ => ⟨s8, .nil⟩
  | m :: ms, s8, h => by
    obtain ⟨hs, hz, hc, he, hv⟩ := ok
    dsimp only at hs hz hc he hv
    have hm := h m (.head _)
    obtain ⟨s8', ih⟩ := dvd_in Zm Cm hco hlow hbits dr dt ⟨hs, hz, hc, he, hv⟩ ms (.fr (.int m)) fun x hx => h x (.tail _ hx)
    have hsc : -1000 ≤ s * c ∧ s * c ≤ 1000 := by rcases hs with rfl | rfl <;> omega
    have hss : -4611686018427387904 ≤ s ∧ s ≤ 4611686018427387904 := by rcases hs with rfl | rfl <;> omega
    have hzz : -4611686018427387904 ≤ z ∧ z ≤ 4611686018427387904 := by omega
    have hee : -4611686018427387904 ≤ e ∧ e ≤ 4611686018427387904 := by omega
    have hmm : -4611686018427387904 ≤ m ∧ m ≤ 4611686018427387904 := by omega
    have hll : -4611686018427387904 ≤ m * z - s * low ∧ m * z - s * low ≤ 4611686018427387904 := by
      have h1 : m * z ≤ 2500 * 1000 := by
        by_cases q : 0 ≤ m
        · exact Int.mul_le_mul hm.2 hz.2 (by omega) (by omega)
        · have := Int.mul_nonpos_of_nonpos_of_nonneg (show m ≤ 0 by omega) (show 0 ≤ z by omega); omega
      have h2 : -(2500 * 1000) ≤ m * z := by
        have : -m * z ≤ 2500 * 1000 := by
          by_cases q : 0 ≤ -m
          · exact Int.mul_le_mul (by omega) hz.2 (by omega) (by omega)
          · have := Int.mul_nonpos_of_nonpos_of_nonneg (show -m ≤ 0 by omega) (show 0 ≤ z by omega); omega
        rw [Int.neg_mul] at this
        omega
      rcases hs with rfl | rfl <;> omega
    have C : Ct X 120 am [.int ((m * z - s * low) * co), .int (z * co)] (.seq true [.int (m - s * c), .int (e * co)]) :=
      (Cm (divd_id hs hv) (by omega) (divd_r he.2 he.1 hco) (hbits z hz.1 hz.2)).up (by decide)
    refine ⟨s8', .go (bd_name (i := 8) rfl) (exs_cons (ex_ifF (ts_cmp (ev_call Zm (es_cons (ev_bin (ev_bin (ev_bin (ev_name (i := 8) rfl rfl) (ev_name (i := 6) rfl rfl) (bMulR hzz)) (ev_bin (ev_name (i := 4) rfl rfl) (ev_name (i := 1) rfl rfl) (bMulL hss)) bSub) (ev_name (i := 2) rfl rfl) (bMulL hll)) (es_cons (ev_bin (ev_name (i := 6) rfl rfl) (ev_name (i := 2) rfl rfl) (bMulL hzz)) es_nil)) C (by kernel_rfl)) (ev_tuple (es_cons (ev_bin (ev_name (i := 8) rfl rfl) (ev_bin (ev_name (i := 4) rfl rfl) (ev_name (i := 5) rfl rfl) (bMulL hss)) bSub) (es_cons (ev_bin (ev_name (i := 7) rfl rfl) (ev_name (i := 2) rfl rfl) (bMulL hee)) es_nil))) (cNeSame (.tup (.cons (.int _) (.cons (.int _) .nil))))) exs_nil) exs_nil) ih⟩
theorem dvd_loop {X : Cx} {am : Addr} (Zm : GFn X "int_divmod" am) (Cm : CDm X am) {low co tu : Int} (hco : co ≠ 0) (hlow : 0 ≤ low ∧ low ≤ 1000) (htu : -2000 ≤ tu ∧ tu ≤ 2000) (hbits : ∀ z : Int, 1 ≤ z → z ≤ 1000 → (Builtin.Int.intBits (z * co) : Int) ≤ 4194304) (dr : D) :
    ∀ (rs : List Rw4) (s4 s5 s6 s7 s8 : Sl), (∀ r ∈ rs, RowOk low r) → ∃ s4' s5' s6' s7' s8', ForR ⟨X, 120, nmDvd, nnDvd, []⟩ tgDvd lpDvd (rs.map Rw4.d)
      [.fr dr, .fr (.int low), .fr (.int co), .fr (.int tu), s4, s5, s6, s7, s8] .nx [.fr dr, .fr (.int low), .fr (.int co), .fr (.int tu), s4', s5', s6', s7', s8']
  | [], s4, s5, s6, s7, s8, _ => ⟨s4, s5, s6, s7, s8, .nil⟩
  | ⟨s, c, z, e⟩ :: rs, s4, s5, s6, s7, s8, h => by
    have ok := h _ (.head _)
    have hs := ok.s
    have hc := ok.c
    dsimp only at hs hc
    have hsc : -1000 ≤ s * c ∧ s * c ≤ 1000 := by rcases hs with rfl | rfl <;> omega
    have hss : -4611686018427387904 ≤ s ∧ s ≤ 4611686018427387904 := by rcases hs with rfl | rfl <;> omega
    obtain ⟨s8₁, L⟩ := dvd_in Zm Cm hco hlow hbits dr (.int tu) ok [tu, s * c] s8 (fun m hm => by
      rcases List.mem_cons.mp hm with rfl | hm
      · omega
      · rcases List.mem_cons.mp hm with rfl | hm
        · omega
        · cases hm)
    obtain ⟨s4', s5', s6', s7', s8', ih⟩ := dvd_loop Zm Cm hco hlow htu hbits dr rs (.fr (.int s)) (.fr (.int c)) (.fr (.int z)) (.fr (.int e)) s8₁ fun r hr => h r (.tail _ hr)
    refine ⟨s4', s5', s6', s7', s8', .go (d := .seq false [.int s, .int c, .int z, .int e]) (bd_tup (xs := [4, 5, 6, 7]) (.cons rfl rfl (.cons rfl rfl (.cons rfl rfl (.cons rfl rfl .nil)))) rfl) (exs_cons (ex_for (src_list (ev_list (es_cons (ev_name (i := 3) rfl rfl) (es_cons (ev_bin (ev_name (i := 4) rfl rfl) (ev_name (i := 5) rfl rfl) (bMulL hss)) es_nil))) (Nat.le_of_ble_eq_true rfl)) L) exs_nil) ih⟩
end Mine
end

section
open PySem PySem.Calls PyProof.Rows
set_option Elab.async false
set_option maxRecDepth 100000
namespace Mine
inductive Tk where
  | num (a : Int)
  | op (c : Nat)
noncomputable def Tk.t (bl : Nat) : Tk → List Nat
  | .num a => numT a bl
  | .op c => [c]
structure VS where
  pile : List (Int × Int)
  v0 : Int
  v1 : Int
  num : Int
inductive VSt : VS → Tk → VS → Prop
  | numD {p v0 v1 n a} : n = 17 → 0 ≤ a → a ≤ 9999 → VSt ⟨p, v0, v1, n⟩ (.num a) ⟨p, v0, v1 * a, 1⟩
  | numN {p v0 v1 n a} : n ≠ 17 → 0 ≤ a → a ≤ 9999 → VSt ⟨p, v0, v1, n⟩ (.num a) ⟨p, a, 1, 1⟩
  | lp {p v0 v1 n} : p.length ≤ 1000 → VSt ⟨p, v0, v1, n⟩ (.op 40) ⟨p ++ [(0, 0)], v0, v1, 7⟩
  | pl {p x v0 v1 n} : VSt ⟨p ++ [x], v0, v1, n⟩ (.op 43) ⟨p ++ [(1, v0)], v0, v1, 14⟩
  | mi {p x v0 v1 n} : VSt ⟨p ++ [x], v0, v1, n⟩ (.op 45) ⟨p ++ [(-1, v0)], v0, v1, 15⟩
  | rp {p sg hd v0 v1 n} : -9999 ≤ sg → sg ≤ 9999 → -9999 ≤ hd → hd ≤ 9999 → p.length ≤ 1000 → VSt ⟨p ++ [(sg, hd)], v0, v1, n⟩ (.op 41) ⟨p, hd * v1 + sg * v0, v1, 8⟩
  | dv {p v0 v1 n} : VSt ⟨p, v0, v1, n⟩ (.op 47) ⟨p, v0, v1, 17⟩
/-- all the signs, one after another; behind a number comes none -/
inductive VRun : VS → List Tk → VS → Prop
  | nil {s} : VRun s [] s
  | cons {s t s₁ ts s'} : VSt s t s₁ → VRun s₁ ts s' → VRun s (t :: ts) s'
noncomputable def pd (x : Int × Int) : D := .seq false [.int x.1, .int x.2]
noncomputable abbrev psVal : List Str := ["text"]
noncomputable abbrev nmVal : List Str := ["text", "pile", "value", "place", "number", "turn", "before", "start", "found", "sign", "head"]
noncomputable abbrev sV (txt : List Nat) (s : VS) (place : Nat) (s5 s6 s7 s8 s9 s10 : Sl) : List Sl :=
  [.fr (.str txt), .ow (s.pile.map pd), .fr (.seq false [.int s.v0, .int s.v1]), .fr (.int place), .fr (.int s.num), s5, s6, s7, s8, s9, s10]
noncomputable abbrev FV (X : Cx) : Fx := ⟨X, 4, nmVal, nnVal, []⟩
section
variable {X : Cx} {ae ai : Addr} {t : Tok}
theorem one_more {σ : List Sl} {i : Nat} {k : Nat} {e : Expr} (h : EvS (FV X) σ e (.int (k + 1))) : EvS (FV X) σ e (.int ((k + 1 : Nat) : Int)) := h.cast (by rw [Int.natCast_succ])
theorem val_scan {txt : List Nat} (hl : txt.length ≤ 10000) (o0 : List D) (v : D) (nu : Int) (s5 s6 s7 s8 s9 s10 : Sl) : ∀ (n k : Nat), (∀ j, k ≤ j → j < k + n → ∃ c, txt[j]? = some c ∧ tokD c = none) → (k + n = txt.length ∨ ∃ c i, txt[k + n]? = some c ∧ tokD c = some i) →
    WhR (FV X) twValI lpValI (n + 1) [.fr (.str txt), .ow o0, .fr v, .fr (.int k), .fr (.int nu), s5, s6, s7, s8, s9, s10] .nx [.fr (.str txt), .ow o0, .fr v, .fr (.int ((k + n : Nat) : Int)), .fr (.int nu), s5, s6, s7, s8, s9, s10]
  | 0, k, _, he => by
    have hlid : strLid = 100000 := rfl
    refine .stop ?_
    rcases he with he | ⟨c, i, hc, hi⟩
    · exact ts_andF (TsS.cast (ts_cmp (ev_name (i := 3) rfl rfl) (ev_bi (n := "len") (f := .builtin "len") (.head _) (es_cons (ev_name (i := 0) rfl rfl) es_nil) (by first | exact biLen (by first | assumption | omega | (constructor <;> omega) | (simp only [List.length_append, List.length_cons, List.length_nil]; omega) | (simp; done) | (simp; omega)) | exact biLenS (by first | assumption | omega | (constructor <;> omega) | (simp only [List.length_append, List.length_cons, List.length_nil]; omega) | (simp; done) | (simp; omega))) (by kernel_rfl) (.inl ⟨_, rfl⟩)) cLt) (decide_eq_false (by omega)))
    · have hk : k + 0 < txt.length := (List.getElem?_eq_some_iff.mp hc).1
      exact ts_andT (TsS.cast (ts_cmp (ev_name (i := 3) rfl rfl) (ev_bi (n := "len") (f := .builtin "len") (.head _) (es_cons (ev_name (i := 0) rfl rfl) es_nil) (by first | exact biLen (by first | assumption | omega | (constructor <;> omega) | (simp only [List.length_append, List.length_cons, List.length_nil]; omega) | (simp; done) | (simp; omega)) | exact biLenS (by first | assumption | omega | (constructor <;> omega) | (simp only [List.length_append, List.length_cons, List.length_nil]; omega) | (simp; done) | (simp; omega))) (by kernel_rfl) (.inl ⟨_, rfl⟩)) cLt) (decide_eq_true (by omega))) (TsS.cast (ts_tokNot (ev_idx (ev_name (i := 0) rfl rfl) (ev_name (i := 3) rfl rfl) (.str k hc (by omega))) (by kernel_rfl)) (by rw [hi]; rfl))
  | n + 1, k, h, he => by
    have hlid : strLid = 100000 := rfl
    obtain ⟨c, hc, hi⟩ := h k (Nat.le_refl _) (by omega)
    have hk : k < txt.length := (List.getElem?_eq_some_iff.mp hc).1
    have ih := val_scan hl o0 v nu s5 s6 s7 s8 s9 s10 n (k + 1) (fun j h1 h2 => h j (by omega) (by omega)) (by rw [show k + 1 + n = k + (n + 1) by omega]; exact he)
    rw [show k + 1 + n = k + (n + 1) by omega] at ih
    refine .go (ts_andT (TsS.cast (ts_cmp (ev_name (i := 3) rfl rfl) (ev_bi (n := "len") (f := .builtin "len") (.head _) (es_cons (ev_name (i := 0) rfl rfl) es_nil) (by first | exact biLen (by first | assumption | omega | (constructor <;> omega) | (simp only [List.length_append, List.length_cons, List.length_nil]; omega) | (simp; done) | (simp; omega)) | exact biLenS (by first | assumption | omega | (constructor <;> omega) | (simp only [List.length_append, List.length_cons, List.length_nil]; omega) | (simp; done) | (simp; omega))) (by kernel_rfl) (.inl ⟨_, rfl⟩)) cLt) (decide_eq_true (by omega))) (TsS.cast (ts_tokNot (ev_idx (ev_name (i := 0) rfl rfl) (ev_name (i := 3) rfl rfl) (.str k hc (by omega))) (by kernel_rfl)) (by rw [hi]; rfl))) (exs_cons (ex_asg (i := 3) rfl (one_more (i := 0) (ev_bin (ev_name (i := 3) rfl rfl) ev_int (by first | exact bAdd | exact bCat (by first | assumption | omega | (constructor <;> omega) | (simp only [List.length_append, List.length_cons, List.length_nil]; omega) | (simp; done) | (simp; omega)))))) exs_nil) ih
/-- a turn's beginning -/
theorem val_head (W : Wd X) (Ze : FnR X "ISEOF" ae bdEof psEof nnEof) (hm : X.mg "ENDMARKER" = some (.int 0 t)) {txt : List Nat} (hl : txt.length ≤ 10000) {pl : List D} {v : D} {n i : Int} {k c : Nat} {s5 s6 s7 s8 s9 s10 : Sl} {σ' : List Sl}
    (hc : txt[k]? = some c) (hi : (tokD c).getD 1 = i) (h0 : i ≠ 0) (h : ExSs (FV X) [.fr (.str txt), .ow pl, .fr v, .fr (.int ((k + 1 : Nat) : Int)), .fr (.int i), s5, .fr (.int n), s7, s8, s9, s10] (lpVal.drop 4) .nx σ') :
    ExSs (FV X) [.fr (.str txt), .ow pl, .fr v, .fr (.int k), .fr (.int n), s5, s6, s7, s8, s9, s10] lpVal .nx σ' := by
  have hlid : strLid = 100000 := rfl
  have hlen : txt.length ≤ strLid := by omega
  have hlt : k < txt.length := (List.getElem?_eq_some_iff.mp hc).1
  refine exs_cons (ex_asg (i := 6) rfl (ev_name (i := 4) rfl rfl)) ?_
  refine exs_cons (ex_asg (i := 4) (d := .int i) rfl (EvS.cast (ev_ifT (TsS.cast (ts_cmp (ev_name (i := 3) rfl rfl) (ev_bi (n := "len") (f := .builtin "len") (.head _) (es_cons (ev_name (i := 0) rfl rfl) es_nil) (by first | exact biLen (by first | assumption | omega | (constructor <;> omega) | (simp only [List.length_append, List.length_cons, List.length_nil]; omega) | (simp; done) | (simp; omega)) | exact biLenS (by first | assumption | omega | (constructor <;> omega) | (simp only [List.length_append, List.length_cons, List.length_nil]; omega) | (simp; done) | (simp; omega))) (by kernel_rfl) (.inl ⟨_, rfl⟩)) cLt) (decide_eq_true (by omega))) (ev_tok (ev_idx (ev_name (i := 0) rfl rfl) (ev_name (i := 3) rfl rfl) (.str k hc (by omega))) (by kernel_rfl))) (by rw [hi]))) ?_
  refine exs_cons (ex_ifF (TsS.cast (ts_call (ev_call Ze.g (es_cons (ev_name (i := 4) rfl rfl) es_nil) ((ct_eof W Ze hm).up (k' := 4) (by decide)) (by kernel_rfl))) (by simpa using h0)) exs_nil) ?_
  exact exs_cons (ex_asg (i := 3) rfl (one_more (i := 0) (ev_bin (ev_name (i := 3) rfl rfl) ev_int (by first | exact bAdd | exact bCat (by first | assumption | omega | (constructor <;> omega) | (simp only [List.length_append, List.length_cons, List.length_nil]; omega) | (simp; done) | (simp; omega)))))) h
/-- what one turn does -/
theorem val_turn (W : Wd X) (Ze : FnR X "ISEOF" ae bdEof psEof nnEof) (hm : X.mg "ENDMARKER" = some (.int 0 t)) (Zi : GFn X "int_from_string" ai) {bl : Nat}
    (Ci : ∀ a : Int, 0 ≤ a → a ≤ 9999 → Ct X 4 ai [.str (numT a bl)] (.int a)) (hnum : ∀ a : Int, 0 ≤ a → a ≤ 9999 → numT a bl ≠ [] ∧ ∀ c ∈ numT a bl, tokD c = none)
    {pre rest : List Nat} {s s₁ : VS} {tk : Tk} (hl : (pre ++ tk.t bl ++ rest).length ≤ 10000) (hr : (∃ a, tk = .num a) → rest = [] ∨ ∃ c r i, rest = c :: r ∧ tokD c = some i) (h : VSt s tk s₁) (d5 : D) (s6 s7 s8 s9 s10 : Sl) :
    ∃ s6' s7' s8' s9' s10', ExSs (FV X) (sV (pre ++ tk.t bl ++ rest) s pre.length (.fr d5) s6 s7 s8 s9 s10) lpVal .nx (sV (pre ++ tk.t bl ++ rest) s₁ (pre ++ tk.t bl).length (.fr d5) s6' s7' s8' s9' s10') := by
  have hlid : strLid = 100000 := rfl
  have hop : ∀ c, (pre ++ Tk.t bl (.op c) ++ rest)[pre.length]? = some c := fun c => by simp [Tk.t]
  have e1 : ∀ c, (pre ++ Tk.t bl (.op c)).length = pre.length + 1 := fun c => by simp [Tk.t]
  cases h with
  | @lp p v0 v1 n hp =>
    have hpl : (p.map pd).length ≤ strLid := by rw [List.length_map]; omega
    rw [e1]
    refine ⟨.fr (.int n), s7, s8, s9, s10, val_head W Ze hm hl (hop 40) (i := 7) rfl (by decide) ?_⟩
    refine exs_cons (ex_ifF (TsS.cast (ts_cmp (ev_name (i := 4) rfl rfl) ev_int cEq) (by rfl)) (exs_cons (ex_ifT (TsS.cast (ts_cmp (ev_name (i := 4) rfl rfl) ev_int cEq) (by rfl)) (exs_cons (ex_app (i := 1) rfl rfl (ev_list (es_cons ev_int (es_cons ev_int es_nil))) hpl) exs_nil)) exs_nil)) ?_
    exact ExSs.cast exs_nil rfl (by simp [sV, pd])
  | @pl p x v0 v1 n =>
    rw [e1]
    have hix : seqIndex? (-1) ((p ++ [x]).map pd).length = some p.length := by rw [List.length_map, List.length_append]; exact idx_last
    refine ⟨.fr (.int n), s7, s8, s9, s10, val_head W Ze hm hl (hop 43) (i := 14) rfl (by decide) ?_⟩
    refine exs_cons (ex_ifF (TsS.cast (ts_cmp (ev_name (i := 4) rfl rfl) ev_int cEq) (by rfl)) (exs_cons (ex_ifF (TsS.cast (ts_cmp (ev_name (i := 4) rfl rfl) ev_int cEq) (by rfl)) (exs_cons (ex_ifT (TsS.cast (ts_cmp (ev_name (i := 4) rfl rfl) (ev_list (es_cons ev_int (es_cons ev_int es_nil))) (cIn (ns := [14, 15]))) (by rfl))
      (exs_cons (ex_setO (i := 1) (n := p.length) rfl rfl (ev_un ev_int uNeg) (d := pd (1, v0)) (EvS.cast (ev_list (es_cons (ev_bin ev_int (ev_bin ev_int (ev_name (i := 4) rfl rfl) (by first | exact bMulL (by first | assumption | omega | (constructor <;> omega) | (simp only [List.length_append, List.length_cons, List.length_nil]; omega) | (simp; done) | (simp; omega)) | exact bMulR (by first | assumption | omega | (constructor <;> omega) | (simp only [List.length_append, List.length_cons, List.length_nil]; omega) | (simp; done) | (simp; omega)) | exact bRepS (by first | assumption | omega | (constructor <;> omega) | (simp only [List.length_append, List.length_cons, List.length_nil]; omega) | (simp; done) | (simp; omega)) (by first | assumption | omega | (constructor <;> omega) | (simp only [List.length_append, List.length_cons, List.length_nil]; omega) | (simp; done) | (simp; omega)))) bSub) (es_cons (ev_idx (ev_name (i := 2) rfl rfl) ev_int (.pos 0 rfl (by decide))) es_nil))) (by rfl)) (by decide) hix) exs_nil)) exs_nil)) exs_nil)) ?_
    exact ExSs.cast exs_nil rfl (by simp [sV])
  | @mi p x v0 v1 n =>
    rw [e1]
    have hix : seqIndex? (-1) ((p ++ [x]).map pd).length = some p.length := by rw [List.length_map, List.length_append]; exact idx_last
    refine ⟨.fr (.int n), s7, s8, s9, s10, val_head W Ze hm hl (hop 45) (i := 15) rfl (by decide) ?_⟩
    refine exs_cons (ex_ifF (TsS.cast (ts_cmp (ev_name (i := 4) rfl rfl) ev_int cEq) (by rfl)) (exs_cons (ex_ifF (TsS.cast (ts_cmp (ev_name (i := 4) rfl rfl) ev_int cEq) (by rfl)) (exs_cons (ex_ifT (TsS.cast (ts_cmp (ev_name (i := 4) rfl rfl) (ev_list (es_cons ev_int (es_cons ev_int es_nil))) (cIn (ns := [14, 15]))) (by rfl))
      (exs_cons (ex_setO (i := 1) (n := p.length) rfl rfl (ev_un ev_int uNeg) (d := pd (-1, v0)) (EvS.cast (ev_list (es_cons (ev_bin ev_int (ev_bin ev_int (ev_name (i := 4) rfl rfl) (by first | exact bMulL (by first | assumption | omega | (constructor <;> omega) | (simp only [List.length_append, List.length_cons, List.length_nil]; omega) | (simp; done) | (simp; omega)) | exact bMulR (by first | assumption | omega | (constructor <;> omega) | (simp only [List.length_append, List.length_cons, List.length_nil]; omega) | (simp; done) | (simp; omega)) | exact bRepS (by first | assumption | omega | (constructor <;> omega) | (simp only [List.length_append, List.length_cons, List.length_nil]; omega) | (simp; done) | (simp; omega)) (by first | assumption | omega | (constructor <;> omega) | (simp only [List.length_append, List.length_cons, List.length_nil]; omega) | (simp; done) | (simp; omega)))) bSub) (es_cons (ev_idx (ev_name (i := 2) rfl rfl) ev_int (.pos 0 rfl (by decide))) es_nil))) (by rfl)) (by decide) hix) exs_nil)) exs_nil)) exs_nil)) ?_
    exact ExSs.cast exs_nil rfl (by simp [sV])
  | @rp p sg hd v0 v1 n a1 a2 b1 b2 hp =>
    rw [e1]
    have hss : -4611686018427387904 ≤ sg ∧ sg ≤ 4611686018427387904 := by omega
    have hhh : -4611686018427387904 ≤ hd ∧ hd ≤ 4611686018427387904 := by omega
    refine ⟨.fr (.int n), s7, s8, .fr (.int sg), .fr (.int hd), val_head W Ze hm hl (hop 41) (i := 8) rfl (by decide) ?_⟩
    rw [List.map_append]
    refine exs_cons (ex_ifF (TsS.cast (ts_cmp (ev_name (i := 4) rfl rfl) ev_int cEq) (by rfl)) (exs_cons (ex_ifF (TsS.cast (ts_cmp (ev_name (i := 4) rfl rfl) ev_int cEq) (by rfl)) (exs_cons (ex_ifF (TsS.cast (ts_cmp (ev_name (i := 4) rfl rfl) (ev_list (es_cons ev_int (es_cons ev_int es_nil))) (cIn (ns := [14, 15]))) (by rfl))
      (exs_cons (ex_ifT (TsS.cast (ts_cmp (ev_name (i := 4) rfl rfl) ev_int cEq) (by rfl)) (exs_cons (ex_popU (i := 1) (ys := [9, 10]) (t := false) (ds := [.int sg, .int hd]) rfl rfl (.cons rfl rfl (.cons rfl rfl .nil)) rfl (Nat.le_of_ble_eq_true rfl) (by rw [List.length_map]; omega))
        (exs_cons (ex_asg (i := 2) rfl (ev_list (es_cons (ev_bin (ev_bin (ev_name (i := 10) rfl rfl) (ev_idx (ev_name (i := 2) rfl rfl) ev_int (.pos 1 rfl (by decide))) (bMulL hhh)) (ev_bin (ev_name (i := 9) rfl rfl) (ev_idx (ev_name (i := 2) rfl rfl) ev_int (.pos 0 rfl (by decide))) (bMulL hss)) bAdd) (es_cons (ev_idx (ev_name (i := 2) rfl rfl) ev_int (.pos 1 rfl (by decide))) es_nil)))) exs_nil))) exs_nil)) exs_nil)) exs_nil)) ?_
    exact exs_nil
  | @dv p v0 v1 n =>
    rw [e1]
    refine ⟨.fr (.int n), s7, s8, s9, s10, val_head W Ze hm hl (hop 47) (i := 17) rfl (by decide) ?_⟩
    refine exs_cons (ex_ifF (TsS.cast (ts_cmp (ev_name (i := 4) rfl rfl) ev_int cEq) (by rfl)) (exs_cons (ex_ifF (TsS.cast (ts_cmp (ev_name (i := 4) rfl rfl) ev_int cEq) (by rfl)) (exs_cons (ex_ifF (TsS.cast (ts_cmp (ev_name (i := 4) rfl rfl) (ev_list (es_cons ev_int (es_cons ev_int es_nil))) (cIn (ns := [14, 15]))) (by rfl))
      (exs_cons (ex_ifF (TsS.cast (ts_cmp (ev_name (i := 4) rfl rfl) ev_int cEq) (by rfl)) exs_nil) exs_nil)) exs_nil)) exs_nil)) ?_
    exact exs_nil
  | @numD p v0 v1 n a hn h0 h1 =>
    subst hn
    have haa : -4611686018427387904 ≤ a ∧ a ≤ 4611686018427387904 := by omega
    obtain ⟨hne, hnt⟩ := hnum a h0 h1
    obtain ⟨c, r, hcr⟩ := List.exists_cons_of_ne_nil hne
    have et : (Tk.num a).t bl = c :: r := hcr
    have hcn : tokD c = none := hnt c (hcr ▸ .head _)
    have hc : (pre ++ (Tk.num a).t bl ++ rest)[pre.length]? = some c := by rw [et]; simp
    have elen : (pre ++ (Tk.num a).t bl).length = pre.length + 1 + r.length := by rw [et]; simp; omega
    have hsc : ∀ j, pre.length + 1 ≤ j → j < pre.length + 1 + r.length → ∃ x, (pre ++ (Tk.num a).t bl ++ rest)[j]? = some x ∧ tokD x = none := fun j j1 j2 => by
      obtain ⟨y, rfl⟩ : ∃ y, j = pre.length + 1 + y := ⟨j - (pre.length + 1), by omega⟩
      have hy : y < r.length := by omega
      refine ⟨r[y], ?_, hnt _ (by rw [hcr]; exact .tail _ (List.getElem_mem hy))⟩
      rw [et, List.append_assoc, List.getElem?_append_right (by omega), show pre.length + 1 + y - pre.length = y + 1 by omega, List.cons_append, List.getElem?_cons_succ, List.getElem?_append_left hy, List.getElem?_eq_getElem hy]
    have hend : pre.length + 1 + r.length = (pre ++ (Tk.num a).t bl ++ rest).length ∨ ∃ x i, (pre ++ (Tk.num a).t bl ++ rest)[pre.length + 1 + r.length]? = some x ∧ tokD x = some i := by
      rcases hr ⟨a, rfl⟩ with rfl | ⟨x, q, i, rfl, hx⟩
      · left; rw [List.append_nil, elen]
      · right
        exact ⟨x, i, by rw [← elen, List.getElem?_append_right (Nat.le_refl _)]; simp, hx⟩
    have hlo : pre.length ≤ pre.length + 1 + r.length := by omega
    have hhi : pre.length + 1 + r.length ≤ (pre ++ (Tk.num a).t bl ++ rest).length := by rw [← elen, List.length_append (bs := rest)]; omega
    have hcut : ((pre ++ (Tk.num a).t bl ++ rest).drop pre.length).take (pre.length + 1 + r.length - pre.length) = numT a bl := by
      rw [List.append_assoc, List.drop_left]
      have : pre.length + 1 + r.length - pre.length = ((Tk.num a).t bl).length := by rw [et]; simp; omega
      rw [this, List.take_left]; rfl
    have hll : (pre ++ (Tk.num a).t bl ++ rest).length ≤ strLid := by omega
    rw [elen]
    refine ⟨.fr (.int 17), .fr (.int pre.length), .fr (.int a), s9, s10, val_head W Ze hm hl hc (i := 1) (by rw [hcn]; rfl) (by decide) ?_⟩
    refine exs_cons (ex_ifT (TsS.cast (ts_cmp (ev_name (i := 4) rfl rfl) ev_int cEq) (by rfl)) (exs_cons (ex_asg (i := 7) (d := .int pre.length) rfl (EvS.cast (ev_bin (ev_name (i := 3) rfl rfl) ev_int bSub) (by congr 1; omega))) (exs_cons (ex_while _ (val_scan hl _ _ _ _ _ _ _ _ _ r.length (pre.length + 1) hsc hend))
      (exs_cons (ex_asg (i := 8) (d := .int a) rfl (ev_call Zi (es_cons (EvS.cast (ev_cutStr (ev_name (i := 0) rfl rfl) (ev_name (i := 7) rfl rfl) (ev_name (i := 3) rfl rfl) hlo hhi hll) (congrArg D.str hcut)) es_nil) (Ci a h0 h1) (by kernel_rfl))) (exs_cons (ex_asg (i := 2) rfl (ev_ifT (TsS.cast (ts_cmp (ev_name (i := 6) rfl rfl) ev_int cEq) (by rfl)) (ev_list (es_cons (ev_idx (ev_name (i := 2) rfl rfl) ev_int (.pos 0 rfl (by decide))) (es_cons (ev_bin (ev_idx (ev_name (i := 2) rfl rfl) ev_int (.pos 1 rfl (by decide))) (ev_name (i := 8) rfl rfl) (bMulR haa)) es_nil))))) exs_nil))))) ?_
    exact exs_nil
  | @numN p v0 v1 n a hn h0 h1 =>
    obtain ⟨hne, hnt⟩ := hnum a h0 h1
    obtain ⟨c, r, hcr⟩ := List.exists_cons_of_ne_nil hne
    have et : (Tk.num a).t bl = c :: r := hcr
    have hcn : tokD c = none := hnt c (hcr ▸ .head _)
    have hc : (pre ++ (Tk.num a).t bl ++ rest)[pre.length]? = some c := by rw [et]; simp
    have elen : (pre ++ (Tk.num a).t bl).length = pre.length + 1 + r.length := by rw [et]; simp; omega
    have hsc : ∀ j, pre.length + 1 ≤ j → j < pre.length + 1 + r.length → ∃ x, (pre ++ (Tk.num a).t bl ++ rest)[j]? = some x ∧ tokD x = none := fun j j1 j2 => by
      obtain ⟨y, rfl⟩ : ∃ y, j = pre.length + 1 + y := ⟨j - (pre.length + 1), by omega⟩
      have hy : y < r.length := by omega
      refine ⟨r[y], ?_, hnt _ (by rw [hcr]; exact .tail _ (List.getElem_mem hy))⟩
      rw [et, List.append_assoc, List.getElem?_append_right (by omega), show pre.length + 1 + y - pre.length = y + 1 by omega, List.cons_append, List.getElem?_cons_succ, List.getElem?_append_left hy, List.getElem?_eq_getElem hy]
    have hend : pre.length + 1 + r.length = (pre ++ (Tk.num a).t bl ++ rest).length ∨ ∃ x i, (pre ++ (Tk.num a).t bl ++ rest)[pre.length + 1 + r.length]? = some x ∧ tokD x = some i := by
      rcases hr ⟨a, rfl⟩ with rfl | ⟨x, q, i, rfl, hx⟩
      · left; rw [List.append_nil, elen]
      · right
        exact ⟨x, i, by rw [← elen, List.getElem?_append_right (Nat.le_refl _)]; simp, hx⟩
    have hlo : pre.length ≤ pre.length + 1 + r.length := by omega
    have hhi : pre.length + 1 + r.length ≤ (pre ++ (Tk.num a).t bl ++ rest).length := by rw [← elen, List.length_append (bs := rest)]; omega
    have hcut : ((pre ++ (Tk.num a).t bl ++ rest).drop pre.length).take (pre.length + 1 + r.length - pre.length) = numT a bl := by
      rw [List.append_assoc, List.drop_left]
      have : pre.length + 1 + r.length - pre.length = ((Tk.num a).t bl).length := by rw [et]; simp; omega
      rw [this, List.take_left]; rfl
    have hll : (pre ++ (Tk.num a).t bl ++ rest).length ≤ strLid := by omega
    rw [elen]
    refine ⟨.fr (.int n), .fr (.int pre.length), .fr (.int a), s9, s10, val_head W Ze hm hl hc (i := 1) (by rw [hcn]; rfl) (by decide) ?_⟩
    refine exs_cons (ex_ifT (TsS.cast (ts_cmp (ev_name (i := 4) rfl rfl) ev_int cEq) (by rfl)) (exs_cons (ex_asg (i := 7) (d := .int pre.length) rfl (EvS.cast (ev_bin (ev_name (i := 3) rfl rfl) ev_int bSub) (by congr 1; omega))) (exs_cons (ex_while _ (val_scan hl _ _ _ _ _ _ _ _ _ r.length (pre.length + 1) hsc hend))
      (exs_cons (ex_asg (i := 8) (d := .int a) rfl (ev_call Zi (es_cons (EvS.cast (ev_cutStr (ev_name (i := 0) rfl rfl) (ev_name (i := 7) rfl rfl) (ev_name (i := 3) rfl rfl) hlo hhi hll) (congrArg D.str hcut)) es_nil) (Ci a h0 h1) (by kernel_rfl))) (exs_cons (ex_asg (i := 2) rfl (ev_ifF (TsS.cast (ts_cmp (ev_name (i := 6) rfl rfl) ev_int cEq) (by simpa using hn)) (ev_list (es_cons (ev_name (i := 8) rfl rfl) (es_cons ev_int es_nil))))) exs_nil))))) ?_
    exact exs_nil
/-- a number is followed by a sign -/
noncomputable def WfT : List Tk → Prop
  | .num _ :: .num _ :: _ => False
  | _ :: r => WfT r
  | [] => True
theorem vst_op {s c s₁} (h : VSt s (.op c) s₁) : ∃ i, tokD c = some i := by cases h <;> exact ⟨_, rfl⟩
theorem wf_next {bl : Nat} {tk : Tk} {ts : List Tk} {s s' : VS} (hw : WfT (tk :: ts)) (h : VRun s ts s') : (∃ a, tk = .num a) → (ts.flatMap (Tk.t bl)) = [] ∨ ∃ c r i, (ts.flatMap (Tk.t bl)) = c :: r ∧ tokD c = some i := by
  rintro ⟨a, rfl⟩
  cases h with
  | nil => exact .inl rfl
  | @cons _ t s₁ r _ h1 h2 =>
    cases t with
    | num b => exact hw.elim
    | op c => obtain ⟨i, hi⟩ := vst_op h1; exact .inr ⟨c, r.flatMap (Tk.t bl), i, by simp [Tk.t], hi⟩
theorem wf_tail {tk : Tk} {ts : List Tk} (hw : WfT (tk :: ts)) : WfT ts := by
  cases tk with
  | op c => exact hw
  | num a =>
    cases ts with
    | nil => trivial
    | cons t r => cases t with
      | num b => exact hw.elim
      | op c => exact hw
theorem val_loop (W : Wd X) (Ze : FnR X "ISEOF" ae bdEof psEof nnEof) (hm : X.mg "ENDMARKER" = some (.int 0 t)) (Zi : GFn X "int_from_string" ai) {bl : Nat}
    (Ci : ∀ a : Int, 0 ≤ a → a ≤ 9999 → Ct X 4 ai [.str (numT a bl)] (.int a)) (hnum : ∀ a : Int, 0 ≤ a → a ≤ 9999 → numT a bl ≠ [] ∧ ∀ c ∈ numT a bl, tokD c = none) {txt : List Nat} (hl : txt.length ≤ 10000) {s' : VS} :
    ∀ (ts : List Tk) (s : VS) (pre : List Nat) (ds : List D) (s5 s6 s7 s8 s9 s10 : Sl), VRun s ts s' → WfT ts → pre ++ ts.flatMap (Tk.t bl) = txt → ts.length < ds.length → ∃ σ', ForR (FV X) tgVal lpVal ds (sV txt s pre.length s5 s6 s7 s8 s9 s10) (.rt (.seq false [.int s'.v0, .int s'.v1])) σ' := by
  intro ts
  induction ts with
  | nil =>
    intro s pre ds s5 s6 s7 s8 s9 s10 h _ he hd
    cases ds with
    | nil => exact absurd hd (by simp)
    | cons d ds =>
      cases h
      have hlid : strLid = 100000 := rfl
      have hlen : txt.length ≤ strLid := by omega
      have hp : pre.length = txt.length := by rw [← he]; simp
      refine ⟨[.fr (.str txt), .ow (s'.pile.map pd), .fr (.seq false [.int s'.v0, .int s'.v1]), .fr (.int pre.length), .fr (.int 0), .fr d, .fr (.int s'.num), s7, s8, s9, s10], .rt (bd_name (i := 5) rfl) ?_⟩
      refine exs_cons (ex_asg (i := 6) rfl (ev_name (i := 4) rfl rfl)) ?_
      refine exs_cons (ex_asg (i := 4) (d := .int 0) rfl (ev_ifF (TsS.cast (ts_cmp (ev_name (i := 3) rfl rfl) (ev_bi (n := "len") (f := .builtin "len") (.head _) (es_cons (ev_name (i := 0) rfl rfl) es_nil) (by first | exact biLen (by first | assumption | omega | (constructor <;> omega) | (simp only [List.length_append, List.length_cons, List.length_nil]; omega) | (simp; done) | (simp; omega)) | exact biLenS (by first | assumption | omega | (constructor <;> omega) | (simp only [List.length_append, List.length_cons, List.length_nil]; omega) | (simp; done) | (simp; omega))) (by kernel_rfl) (.inl ⟨_, rfl⟩)) cLt) (decide_eq_false (by omega))) ev_int)) ?_
      exact exs_ret (ex_ifT (TsS.cast (ts_call (ev_call Ze.g (es_cons (ev_name (i := 4) rfl rfl) es_nil) ((ct_eof W Ze hm).up (k' := 4) (by decide)) (by kernel_rfl))) (by rfl)) (exs_ret (ex_ret (ev_name (i := 2) rfl rfl))))
  | cons tk ts ih =>
    intro s pre ds s5 s6 s7 s8 s9 s10 h hw he hd
    cases ds with
    | nil => exact absurd hd (by simp)
    | cons d ds =>
      cases h with
      | @cons _ _ s₁ _ _ h1 h2 =>
        have e : pre ++ tk.t bl ++ ts.flatMap (Tk.t bl) = txt := by rw [← he, List.flatMap_cons, List.append_assoc]
        obtain ⟨s6', s7', s8', s9', s10', T⟩ := val_turn W Ze hm Zi Ci hnum (pre := pre) (rest := ts.flatMap (Tk.t bl)) (by rw [e]; exact hl) (wf_next hw h2) h1 d s6 s7 s8 s9 s10
        rw [e] at T
        obtain ⟨σ', L⟩ := ih s₁ (pre ++ tk.t bl) ds (.fr d) s6' s7' s8' s9' s10' h2 (wf_tail hw) e (by simpa using hd)
        exact ⟨σ', .go (bd_name (i := 5) rfl) T L⟩
theorem flat_len {bl : Nat} (hnum : ∀ a : Int, 0 ≤ a → a ≤ 9999 → numT a bl ≠ [] ∧ ∀ c ∈ numT a bl, tokD c = none) {s' : VS} : ∀ (ts : List Tk) (s : VS), VRun s ts s' → ts.length ≤ (ts.flatMap (Tk.t bl)).length
  | [], _, _ => Nat.zero_le _
  | tk :: ts, s, h => by
    cases h with
    | @cons _ _ s₁ _ _ h1 h2 =>
      have ih := flat_len hnum ts s₁ h2
      have : 1 ≤ (tk.t bl).length := by
        cases tk with
        | op c => exact Nat.le_refl _
        | num a =>
          have ha : 0 ≤ a ∧ a ≤ 9999 := by cases h1 <;> exact ⟨by assumption, by assumption⟩
          have := (hnum a ha.1 ha.2).1
          exact Nat.pos_of_ne_zero fun q => this (List.eq_nil_of_length_eq_zero q)
      rw [List.flatMap_cons, List.length_append, List.length_cons]
      omega
theorem ct_val {a : Addr} (W : Wd X) (Z : FnR X "_law_value" a bdVal psVal nnVal) (Ze : FnR X "ISEOF" ae bdEof psEof nnEof) (hm : X.mg "ENDMARKER" = some (.int 0 t)) (Zi : GFn X "int_from_string" ai) {bl : Nat}
    (Ci : ∀ a : Int, 0 ≤ a → a ≤ 9999 → Ct X 4 ai [.str (numT a bl)] (.int a)) (hnum : ∀ a : Int, 0 ≤ a → a ≤ 9999 → numT a bl ≠ [] ∧ ∀ c ∈ numT a bl, tokD c = none) {ts : List Tk} {s' : VS}
    (h : VRun ⟨[], 1, 1, 7⟩ ts s') (hw : WfT ts) (hl : (ts.flatMap (Tk.t bl)).length ≤ 10000) : Ct X 5 a [.str (ts.flatMap (Tk.t bl))] (.seq false [.int s'.v0, .int s'.v1]) := by
  have hfl := flat_len hnum ts _ h
  have hlid : strLid = 100000 := rfl
  have hlen : (ts.flatMap (Tk.t bl)).length ≤ strLid := by omega
  obtain ⟨σ', L⟩ := val_loop W Ze hm Zi Ci hnum hl ts ⟨[], 1, 1, 7⟩ [] (rangeD 0 ((ts.flatMap (Tk.t bl)).length + 1)) .un .un .un .un .un .un h hw rfl (by rw [rangeD_len]; omega)
  refine fn_ct ["pile", "value", "place", "number", "turn", "before", "start", "found", "sign", "head"] W Z.f 4 (by decide) rfl (by kernel_rfl) rfl (σ' := σ') ?_
  refine exs_cons (ex_tupO (i := 1) (ys := [2, 3, 4]) rfl (.cons rfl rfl (.cons rfl rfl (.cons rfl rfl .nil))) (es_cons (ev_list (es_cons ev_int (es_cons ev_int es_nil))) (es_cons ev_int (es_cons ev_int es_nil))) rfl (Nat.le_of_ble_eq_true rfl)) ?_
  exact exs_ret (ex_for (src_range1 (ev_bin (ev_bi (n := "len") (f := .builtin "len") (.head _) (es_cons (ev_name (i := 0) rfl rfl) es_nil) (by first | exact biLen (by first | assumption | omega | (constructor <;> omega) | (simp only [List.length_append, List.length_cons, List.length_nil]; omega) | (simp; done) | (simp; omega)) | exact biLenS (by first | assumption | omega | (constructor <;> omega) | (simp only [List.length_append, List.length_cons, List.length_nil]; omega) | (simp; done) | (simp; omega))) (by kernel_rfl) (.inl ⟨_, rfl⟩)) ev_int (by first | exact bAdd | exact bCat (by first | assumption | omega | (constructor <;> omega) | (simp only [List.length_append, List.length_cons, List.length_nil]; omega) | (simp; done) | (simp; omega)))) (by kernel_rfl) (by omega)) L)
end
end Mine
end

section
open PySem PySem.Calls PyProof.Rows
set_option Elab.async false
set_option maxRecDepth 100000
namespace Mine
/-- a cell of an outer frame's -/
noncomputable def CellH (X : Cx) (c : Addr) (v : Value) : Prop := ∃ o, X.h0.get? c = some o ∧ o.data = .cell (some v)
theorem CellH.now {X : Cx} {c : Addr} {v : Value} {h : Heap} (x : CellH X c v) (w0 : Le X.h0.get? (gt h)) : CelV h c (some v) := let ⟨o, e, r⟩ := x; ⟨⟨o, gt_get (w0 c o e), r⟩, gt_tb (w0 c o e)⟩
theorem bits_lt {q : Int} {k : Nat} (h0 : 0 ≤ q) (h : q < 2 ^ k) : Builtin.Int.intBits q ≤ k := by
  have e : ((2 : Int) ^ k) = ((2 ^ k : Nat) : Int) := by simp
  rw [e] at h
  unfold Builtin.Int.intBits
  split
  · exact Nat.zero_le _
  · rename_i hz
    have hz' : q.natAbs ≠ 0 := by simpa using hz
    have := (Nat.log2_lt hz').mpr (show q.natAbs < 2 ^ k by omega)
    omega
noncomputable def CtI (X : Cx) (k : Nat) (a : Addr) (v : Value) (dv : D) (ds : List D) (d : D) : Prop := ∀ A s H vals, Rm k A → Le X.h0.get? (gt s.heap) → HBd H s.heap → 1 ≤ s.toks → Rep X.C (vis H s.heap) dv v → Reps X.C (vis H s.heap) ds vals → Yx X H A (call (.ref a) vals) s d
theorem CtI.up {X k k' a v dv ds d} (h : CtI X k a v dv ds d) (q : k ≤ k') : CtI X k' a v dv ds d := fun A s H vals R => h A s H vals (R.up q)
theorem CtI.cast {X k a v dv ds d d'} (h : CtI X k a v dv ds d) (q : d = d') : CtI X k a v dv ds d' := q ▸ h
theorem cel_inj {h : Heap} {c : Addr} {u v : Value} (x : CelV h c (some u)) (y : CelV h c (some v)) : u = v := by
  obtain ⟨⟨o, e, r⟩, _⟩ := x
  obtain ⟨⟨o', e', r'⟩, _⟩ := y
  rw [e] at e'; cases e'
  rw [r] at r'; cases r'; rfl
section
variable {F : Fx} {σ : List Sl}
theorem ev_callI {i j : Nat} {x y : Str} {a c : Addr} {p q : Pos} {e : Expr} {es : List Expr} {v : Value} {dv d : D} {ds : List D} (hx : F.nm[i]? = some x) (hs : σ[i]? = some (.fr (.ptr a))) (hf : ∃ o fd, F.X.h0.get? a = some o ∧ o.data = .func fd)
    (hy : F.nm[j]? = some y) (hsy : σ[j]? = some (.fr dv)) (hcl : (y, c) ∈ F.cl) (hc : CellH F.X c v) (he : EvSs F σ (e :: es) ds) (C : CtI F.X F.k a v dv ds d) : EvS F σ (.Call (.Name x p) (e :: es) [] q) d := fun H G env s A S R => by
  obtain ⟨u, hv, hr⟩ := S.vars i x _ hx hs
  cases hr.ptrI
  obtain ⟨o, fd, ho, hd⟩ := hf
  refine wpAny_Call_NameR (ld_name S hx hv ?_)
  refine callWith_function_kw (o := o) (fd := fd) (args_ev he S R fun vs s₁ g S₁ r => ⟨⟨gt_get (S₁.w0 _ _ ho), hd⟩, after g.1 (C A s₁ H vs R S₁.w0 S₁.hb S₁.tk ?_ r)⟩)
  obtain ⟨u', hv', hr'⟩ := S₁.vars j y _ hy hsy
  obtain ⟨q1, q2⟩ := S₁.clo _ hcl
  rcases hv' with ⟨hl, _⟩ | ⟨_, c', hc', hcv⟩
  · exact absurd hl q2
  · rw [q1] at hc'; cases hc'
    rw [cel_inj hcv (hc.now S₁.w0)] at hr'
    exact hr'
end
noncomputable abbrev psD2iI : List Str := ["L", "R"]
noncomputable abbrev nmD2iI : List Str := ["L", "R", "mid", "shift", "digits", "inner", "n"]
/-- what _digits2int's inner is in the ghost heap -/
structure InnD (X : Cx) (a : Addr) (cl : List (Str × Addr)) (cd ci cn : Addr) (v : Value) (n : Int) : Prop where
  f : ∃ fd, FnAtC X a fd bdD2iI psD2iI cl ∧ fd.scope.names = nnD2iI
  l1 : cl.lookup ("digits" : Str) = some cd
  l2 : cl.lookup ("inner" : Str) = some ci
  l3 : cl.lookup ("n" : Str) = some cn
  cu : ∀ p ∈ cl, cl.lookup p.1 = some p.2 ∧ nnD2iI.lookup p.1 = some .free
  ij : ∀ x y c, cl.lookup x = some c → cl.lookup y = some c → x = y
  all : ∀ x c, cl.lookup x = some c → c = cd ∨ c = ci ∨ c = cn
  h1 : CellH X cd v
  h2 : CellH X ci (.ref a)
  h3 : ∃ t, CellH X cn (.int n t)
theorem d2i_in {X : Cx} (W : Wd X) {a : Addr} {cl : List (Str × Addr)} {cd ci cn : Addr} {v : Value} {n : Int} {ds : List Int} (I : InnD X a cl cd ci cn v n) (hn : 1 ≤ n ∧ n ≤ 4194304) (hds : ∀ d ∈ ds, 0 ≤ d ∧ d < 2 ^ n.toNat) (hl : ds.length ≤ 30) :
    ∀ (m k l r : Nat), m ≤ k → r = l + m → 1 ≤ m → r ≤ ds.length → CtI X (k + 1) a v (.seq false (ds.map .int)) [.int l, .int r] (.int (fo (2 ^ n.toNat) 0 ((ds.drop l).take m).reverse)) := by
  intro m
  induction m using Nat.strongRecOn with
  | _ m ih =>
  intro k l r hk hr hm hrl A s H vals R w0 HB tk hrep hvals
  obtain ⟨fd, Z, hns⟩ := I.f
  obtain ⟨t3, h3⟩ := I.h3
  obtain ⟨k, rfl⟩ : ∃ k', k = k' + 1 := ⟨k - 1, by omega⟩
  have hfn : ∃ o fd, X.h0.get? a = some o ∧ o.data = .func fd := let ⟨o, e, q⟩ := Z.ob; ⟨o, fd, e, q⟩
  have hbp : (0 : Int) < 2 ^ n.toNat := Int.pow_pos (by decide)
  have hmem : (("digits" : Str), cd) ∈ cl := mem_of_lookup I.l1
  have run := fun σ' => fn_runC (F := ⟨X, k + 1, nmD2iI, nnD2iI, cl⟩) (σ' := σ') (rest := ["mid", "shift"]) (fv := ["digits", "inner", "n"]) (σf := [.fr (.seq false (ds.map .int)), .fr (.ptr a), .fr (.int n)]) (ds := [.int l, .int r]) (vals := vals) (H := H) (A := A) (s := s) (d := .int (fo (2 ^ n.toNat) 0 ((ds.drop l).take m).reverse)) W Z hns.symm rfl rfl (show nmD2iI.Nodup from by decide +kernel) (show ∀ x ∈ nmD2iI, (x == ("__debug__" : Str)) = false ∧ (x == ("__classdict__" : Str)) = false from by decide +kernel) rfl R w0 HB tk hvals rfl (by rw [hns]; exact I.cu) I.ij
    (fun x c e => by
      rcases I.all x c e with rfl | rfl | rfl
      · exact ⟨_, I.h1.now w0⟩
      · exact ⟨_, I.h2.now w0⟩
      · exact ⟨_, h3.now w0⟩)
    (fun j x sl e1 e2 => by
      rw [hns]
      match j, e1, e2 with
      | 0, e1, e2 => cases e1; cases e2; exact ⟨by kernel_rfl, cd, v, I.l1, I.h1.now w0, _, rfl, hrep⟩
      | 1, e1, e2 => cases e1; cases e2; exact ⟨by kernel_rfl, ci, _, I.l2, I.h2.now w0, _, rfl, .mkP⟩
      | 2, e1, e2 => cases e1; cases e2; exact ⟨by kernel_rfl, cn, _, I.l3, h3.now w0, _, rfl, .mkI⟩
      | j + 3, e1, e2 => cases e1)
  by_cases h1 : m = 1
  · subst h1
    refine run [.fr (.int l), .fr (.int r), .un, .un, .fr (.seq false (ds.map .int)), .fr (.ptr a), .fr (.int n)] ?_
    have hx : IdxR (.seq false (ds.map .int)) l (.int ds[l]) := .pos l (by simp) (by omega)
    have e : ((ds.drop l).take 1) = [ds[l]] := by rw [List.drop_eq_getElem_cons (by omega)]; rfl
    rw [e]
    refine exs_ret (ex_ifT (TsS.cast (ts_cmp (ev_bin (ev_name (i := 0) rfl rfl) ev_int (by first | exact bAdd | exact bCat (by first | assumption | omega | (constructor <;> omega) | (simp only [List.length_append, List.length_cons, List.length_nil]; omega) | (simp; done) | (simp; omega)))) (ev_name (i := 1) rfl rfl) cEq) (by simp; omega)) (exs_ret (ex_ret (EvS.cast (ev_idx (ev_name (i := 4) rfl rfl) (ev_name (i := 0) rfl rfl) (by assumption)) ?_))))
    simp [fo]
  · -- split
    obtain ⟨i, hi⟩ : ∃ i : Nat, i = m / 2 := ⟨_, rfl⟩
    have hi1 : 1 ≤ i := by omega
    have hi2 : i < m := by omega
    have e2 : (2 : Int) ^ (1 : Int).toNat = 2 := rfl
    have hmid : ((l : Int) + r).fdiv (2 ^ (1 : Int).toNat) = ((l + i : Nat) : Int) := by
      rw [e2, fdE (by decide)]; omega
    have C1 := (ih i hi2 k l (l + i) (by omega) rfl hi1 (by omega)).up (show k + 1 ≤ k + 1 by omega)
    have C2 := (ih (m - i) (by omega) k (l + i) r (by omega) (by omega) (by omega) hrl).up (show k + 1 ≤ k + 1 by omega)
    obtain ⟨q1, hq1⟩ : ∃ q1, fo (2 ^ n.toNat) 0 ((ds.drop l).take i).reverse = q1 := ⟨_, rfl⟩
    obtain ⟨q2, hq2⟩ : ∃ q2, fo (2 ^ n.toNat) 0 ((ds.drop (l + i)).take (m - i)).reverse = q2 := ⟨_, rfl⟩
    rw [hq1] at C1
    rw [hq2] at C2
    have hshn : ((i : Int) * n).toNat = n.toNat * i := by
      have : (i : Int) * n = ((n.toNat * i : Nat) : Int) := by rw [Int.natCast_mul, Int.toNat_of_nonneg (by omega), Int.mul_comm]
      rw [this]; rfl
    have hfin : q2 * 2 ^ ((i : Int) * n).toNat + q1 = fo (2 ^ n.toNat) 0 ((ds.drop l).take m).reverse := by
      have e3 : (ds.drop l).take m = (ds.drop l).take i ++ (ds.drop (l + i)).take (m - i) := by
        rw [← List.drop_drop, ← List.take_add]; congr 1; omega
      have hlen : ((ds.drop l).take i).reverse.length = i := by simp; omega
      rw [e3, List.reverse_append, fo_app, hq2, fo_shift, hq1, hlen, hshn, Int.pow_mul]
    have hil : (0 : Int) ≤ (i : Int) * n := Int.mul_nonneg (by omega) (by omega)
    have hbound : ∀ (x : List Int) (P : Int), (∀ d ∈ x, 0 ≤ d ∧ d < 2 ^ n.toNat) → 0 ≤ P → 0 ≤ fo (2 ^ n.toNat) P x ∧ fo (2 ^ n.toNat) P x < (P + 1) * (2 ^ n.toNat) ^ x.length := by
      intro x
      induction x with
      | nil => intro P _ h; simp [fo]; omega
      | cons d x ihx =>
        intro P h hP
        obtain ⟨d0, d1⟩ := h d (.head _)
        have hPn : 0 ≤ P * 2 ^ n.toNat := Int.mul_nonneg hP (Int.le_of_lt hbp)
        obtain ⟨b0, b1⟩ := ihx (P * 2 ^ n.toNat + d) (fun y hy => h y (.tail _ hy)) (by omega)
        refine ⟨b0, Int.lt_of_lt_of_le b1 ?_⟩
        rw [List.length_cons, Int.pow_succ, Int.mul_comm ((2 ^ n.toNat) ^ x.length), ← Int.mul_assoc]
        refine Int.mul_le_mul_of_nonneg_right ?_ (Int.le_of_lt (Int.pow_pos hbp))
        rw [Int.add_mul, Int.one_mul]; omega
    have hq2b : (Builtin.Int.intBits q2 : Int) + (i : Int) * n ≤ 2 ^ 27 := by
      have hsub : ∀ d ∈ ((ds.drop (l + i)).take (m - i)).reverse, 0 ≤ d ∧ d < 2 ^ n.toNat := fun d hd => hds d (List.mem_of_mem_drop (List.mem_of_mem_take (List.mem_reverse.mp hd)))
      obtain ⟨b0, b1⟩ := hbound _ 0 hsub (Int.le_refl 0)
      rw [hq2] at b0 b1
      have hlen : ((ds.drop (l + i)).take (m - i)).reverse.length = m - i := by simp; omega
      rw [hlen, Int.zero_add, Int.one_mul, ← Int.pow_mul] at b1
      have hb := bits_lt b0 b1
      have h1 : ((n.toNat * (m - i) : Nat) : Int) + (i : Int) * n = n * m := by
        have : ((m - i : Nat) : Int) = (m : Int) - i := by omega
        rw [Int.natCast_mul, Int.toNat_of_nonneg (by omega), this, Int.mul_sub, Int.mul_comm (i : Int) n]; omega
      have h2 : n * m ≤ 4194304 * 30 := Int.mul_le_mul hn.2 (by omega) (by omega) (by omega)
      omega
    refine run [.fr (.int l), .fr (.int r), .fr (.int ((l + i : Nat) : Int)), .fr (.int ((i : Int) * n)), .fr (.seq false (ds.map .int)), .fr (.ptr a), .fr (.int n)] ?_
    refine exs_cons (ex_ifF (TsS.cast (ts_cmp (ev_bin (ev_name (i := 0) rfl rfl) ev_int (by first | exact bAdd | exact bCat (by first | assumption | omega | (constructor <;> omega) | (simp only [List.length_append, List.length_cons, List.length_nil]; omega) | (simp; done) | (simp; omega)))) (ev_name (i := 1) rfl rfl) cEq) (by simp; omega)) exs_nil) ?_
    refine exs_cons (ex_asg (i := 2) (d := .int ((l + i : Nat) : Int)) rfl (EvS.cast (ev_bin (ev_bin (ev_name (i := 0) rfl rfl) (ev_name (i := 1) rfl rfl) (by first | exact bAdd | exact bCat (by first | assumption | omega | (constructor <;> omega) | (simp only [List.length_append, List.length_cons, List.length_nil]; omega) | (simp; done) | (simp; omega)))) ev_int (bShr (by decide))) (congrArg D.int hmid))) ?_
    refine exs_cons (ex_asg (i := 3) (d := .int ((i : Int) * n)) rfl (EvS.cast (ev_bin (ev_bin (ev_name (i := 2) rfl rfl) (ev_name (i := 0) rfl rfl) bSub) (ev_name (i := 6) rfl rfl) (bMulL (by omega))) (by congr 1; congr 1; omega))) ?_
    exact exs_ret (ex_ret (EvS.cast (ev_bin (ev_bin (ev_callI (i := 5) (j := 4) rfl rfl hfn rfl rfl hmem I.h1 (es_cons (ev_name (i := 2) rfl rfl) (es_cons (ev_name (i := 1) rfl rfl) es_nil)) C2) (ev_name (i := 3) rfl rfl) (bShl hil hq2b)) (ev_callI (i := 5) (j := 4) rfl rfl hfn rfl rfl hmem I.h1 (es_cons (ev_name (i := 0) rfl rfl) (es_cons (ev_name (i := 2) rfl rfl) es_nil)) C1) bAdd) (congrArg D.int hfin)))
end Mine
end

section
open PySem PySem.Calls PyProof.Rows
set_option Elab.async false
set_option maxRecDepth 100000
namespace Mine
section
variable {F : Fx} {σ : List Sl}
theorem ts_nameL {i : Nat} {x p t xs} (hx : F.nm[i]? = some x) (hs : σ[i]? = some (.fr (.seq t xs))) (ht : t = false) (hl : xs.length ≤ strLid) : TsS F σ (.Name x p) (!xs.isEmpty) := fun _ _ _ _ _ S R =>
  wpAny_isTrue_value (((ev_name hx hs)).go S R fun _ _ g _ r => by
    subst ht
    obtain ⟨a, vs, rfl, hs, hr⟩ := r.seqI
    have hlen := hr.toArray
    refine wpAny_truthy_list (hs.mono (vis_le _ _)).list (by rw [hlen]; exact small_63 hl) ⟨g.1.trans (Kp.tok ..), ?_⟩
    have h2 := hr.length
    cases xs with
    | nil => cases vs with
      | nil => rfl
      | cons => simp at h2
    | cons => cases vs with
      | nil => simp at h2
      | cons => rfl)
end
theorem bind_two {name qual : Str} {params : Arguments} {body : List Stmt} {scope : Scope} {cl : List (Str × Addr)} {x y : Str} (h : ∀ doc pm cv ctv (a b : Value), bindArgs (PySem.W.fnX name qual params body scope cl .none .none doc pm none cv ctv) ⟨[a, b], []⟩ = pure [(x, a), (y, b)]) :
    ∀ doc pm cv ctv, ∀ vals : List Value, vals.length = [x, y].length → bindArgs (PySem.W.fnX name qual params body scope cl .none .none doc pm none cv ctv) ⟨vals, []⟩ = pure ([x, y].zip vals) := fun doc pm cv ctv vals hl => by
  obtain ⟨a, b, rfl⟩ := len_2 hl
  exact h doc pm cv ctv a b
noncomputable abbrev psD2i : List Str := ["digits", "n"]
noncomputable abbrev nmD2i : List Str := ["digits", "n", "inner"]
theorem ct_d2i {X : Cx} (W : Wd X) {a : Addr} (Z : FnD X "_digits2int" a bdD2i psD2i nnD2i 70 "_digits2int") {ds : List Int} {n : Int} (hn : 1 ≤ n ∧ n ≤ 4194304) (hl : ds.length ≤ 30) (hds : ∀ d ∈ ds, 0 ≤ d ∧ d < 2 ^ n.toNat) :
    Ct X 110 a [.seq false (ds.map .int), .int n] (.int (fo (2 ^ n.toNat) 0 ds.reverse)) := by
  refine fn_ctD (nm := nmD2i) ["inner"] W Z.f 100 (by decide) rfl (by kernel_rfl) rfl ?_
  intro Hc M G env B s₀ s A hcode hqual hkind S R
  have hfree : ∀ y ∈ nnD2iI, y.2 = .free → nnD2i.lookup y.1 = some .cell := by decide +kernel
  refine wpAny_execs_cons (def_run (i := 2) (t := ⟨70, 66, ⟨104, 4, 109, 55⟩, "_digits2int.<locals>.inner"⟩) S (.tail _ (.tail _ (.head _))) hcode ?_ rfl (by kernel_rfl) rfl rfl rfl hfree ?_)
  · unfold qualnameIn
    rw [hqual, hkind, if_neg (by decide +kernel)]
    kernel_rfl
  intro s' a' fd' S' hM hH hob hrec hfd
  obtain ⟨c1, v, hc1, hv1, hr1⟩ := slot_cell S'.ev (i := 0) (x := "digits") (d := .seq false (ds.map .int)) rfl rfl (by kernel_rfl)
  obtain ⟨c2, v2, hc2, hv2, hr2⟩ := slot_cell S'.ev (i := 2) (x := "inner") (d := .ptr a') rfl rfl (by kernel_rfl)
  obtain ⟨c3, v3, hc3, hv3, hr3⟩ := slot_cell S'.ev (i := 1) (x := "n") (d := .int n) rfl rfl (by kernel_rfl)
  cases hr2.ptrI
  obtain ⟨t3, rfl⟩ := hr3.intI
  have Z' := fnAtC_re (X := X) (ps := ["L", "R"]) S'.ev.hb.ti hob hrec hfd (bind_two (fun _ _ _ _ _ _ => by kernel_rfl)) rfl rfl rfl (show ∀ x ∈ nnD2iI, x.2 ≠ .cell from by decide +kernel) (show ∀ x ∈ psD2iI, nnD2iI.lookup x = some .local from by decide +kernel) (show psD2iI.Nodup from by decide +kernel)
  have hm1 : (("digits" : Str), NameKind.free) ∈ nnD2iI := by decide +kernel
  have hm2 : (("inner" : Str), NameKind.free) ∈ nnD2iI := by decide +kernel
  have hm3 : (("n" : Str), NameKind.free) ∈ nnD2iI := by decide +kernel
  have hfe : ∀ y, (y, NameKind.free) ∈ nnD2iI → ∃ c, env.cells.lookup y = some c := fun y hy => (S'.ev.ck y (hfree _ hy rfl)).2
  have I : InnD (X.re s'.heap) a' (closL env.cells nnD2iI []) c1 c2 c3 v n := by
    refine ⟨⟨fd', Z', ?_⟩, clos_get _ _ hm1 hc1, clos_get _ _ hm2 hc2, clos_get _ _ hm3 hc3, clos_cu _ _ (by decide +kernel), fun x y c h1 h2 => ?_, fun x c h => ?_, cell_re hv1, cell_re hv2, ⟨t3, cell_re hv3⟩⟩
    · obtain ⟨_, _, _, _, rfl⟩ := hfd; rfl
    · exact S'.ci x y c (clos_inv _ _ hfe h1).2 (clos_inv _ _ hfe h2).2
    · obtain ⟨h1, h2⟩ := clos_inv _ _ hfe h
      have key : ∀ p ∈ nnD2iI, p.2 = .free → p.1 = "digits" ∨ p.1 = "inner" ∨ p.1 = "n" := by decide +kernel
      rcases key _ h1 rfl with q | q | q <;> dsimp only at q <;> subst q
      · rw [hc1] at h2; cases h2; exact .inl rfl
      · rw [hc2] at h2; cases h2; exact .inr (.inl rfl)
      · rw [hc3] at h2; cases h2; exact .inr (.inr rfl)
  have W' : Wd (X.re s'.heap) := W.re S'.ev.w0
  have SE := S'.ev.re.withCl (cl := [(("digits" : Str), c1)]) (fun p hp => by
    cases List.mem_singleton.mp hp
    exact ⟨hc1, fun q => (by decide +kernel : ¬ (nnD2i.lookup ("digits" : Str) = some .local)) ((hkind _).symm.trans q)⟩)
  have hlid : (ds.map D.int).length ≤ strLid := by rw [List.length_map]; have : strLid = 100000 := rfl; omega
  have fin : ∀ {e : Expr} {p : Pos}, EvS ⟨X.re s'.heap, 100, nmD2i, nnD2i, [("digits", c1)]⟩ [.fr (.seq false (ds.map .int)), .fr (.int n), .fr (.ptr a')] e (.int (fo (2 ^ n.toNat) 0 ds.reverse)) →
      wpAny (Md X) A (execs [.Return (some e) p] env) (fun f s'' => ∃ σ', Fi ⟨X, 100, nmD2i, nnD2i, []⟩ Hc env B s₀ (.rt (.int (fo (2 ^ n.toNat) 0 ds.reverse))) σ' f s'') E0 s' := fun h =>
    wpAny_execs_cons (wpAny_Return_some (h.go SE R fun v s₁ g S₁ r => ⟨_, v, rfl, r.mono (vis_sub _ fun a q => List.mem_append_right _ q), _, _, S'.mono g.1 g.2⟩))
  refine fin ?_
  cases ds with
  | nil => exact ev_ifF (TsS.cast (ts_nameL (i := 0) rfl rfl rfl hlid) rfl) ev_int
  | cons d ds =>
    have C := ((d2i_in W' I hn hds hl (d :: ds).length (d :: ds).length 0 (d :: ds).length (Nat.le_refl _) (by omega) (by simp) (Nat.le_refl _)).up (show (d :: ds).length + 1 ≤ 100 by omega)).cast (show D.int (fo (2 ^ n.toNat) 0 (((d :: ds).drop 0).take (d :: ds).length).reverse) = .int (fo (2 ^ n.toNat) 0 (d :: ds).reverse) by rw [List.drop_zero, List.take_length])
    have hlen : (((d :: ds).map D.int).length : Int) = ((d :: ds).length : Int) := by rw [List.length_map]
    exact ev_ifT (TsS.cast (ts_nameL (i := 0) rfl rfl rfl hlid) rfl) (ev_callI (i := 2) (j := 0) rfl rfl (let ⟨o, e, q⟩ := Z'.ob; ⟨o, fd', e, q⟩) rfl rfl (y := "digits") (c := c1) (v := v) (dv := .seq false ((d :: ds).map .int)) (.head _) (cell_re hv1) (es_cons ev_int (es_cons (EvS.cast (ev_bi (n := "len") (f := .builtin "len") (.head _) (es_cons (ev_name (i := 0) rfl rfl) es_nil) (by first | exact biLen (by first | assumption | omega | (constructor <;> omega) | (simp only [List.length_append, List.length_cons, List.length_nil]; omega) | (simp; done) | (simp; omega)) | exact biLenS (by first | assumption | omega | (constructor <;> omega) | (simp only [List.length_append, List.length_cons, List.length_nil]; omega) | (simp; done) | (simp; omega))) (by kernel_rfl) (.inl ⟨_, rfl⟩)) (congrArg D.int hlen)) es_nil)) C)
end Mine
end

section
open PySem PySem.Calls PyProof.Rows
set_option Elab.async false
set_option maxRecDepth 100000
namespace Mine
theorem and_cut (x s : Nat) : x &&& ((x >>> s) <<< s) = (x >>> s) <<< s := by
  apply Nat.eq_of_testBit_eq
  intro i
  rw [Nat.testBit_and, Nat.testBit_shiftLeft, Nat.testBit_shiftRight]
  by_cases h : s ≤ i
  · have h3 : s + (i - s) = i := by omega
    simp [h, h3]
  · simp [h]
theorem xor_low {x : Int} {s : Nat} (h : 0 ≤ x) : Builtin.bitXor x (x / 2 ^ s * 2 ^ s) = x % 2 ^ s := by
  obtain ⟨n, rfl⟩ := Int.eq_ofNat_of_zero_le h
  have e1 : ((n : Int) / 2 ^ s * 2 ^ s) = (((n >>> s) <<< s : Nat) : Int) := by
    rw [Nat.shiftLeft_eq, Nat.shiftRight_eq_div_pow]; simp
  have e2 : Builtin.bitAnd (n : Int) (((n >>> s) <<< s : Nat) : Int) = (((n >>> s) <<< s : Nat) : Int) := by
    unfold Builtin.bitAnd
    simp only [Int.natCast_nonneg, decide_true, Int.toNat_natCast]
    rw [and_cut]
  rw [e1, PyProof.Rows.bitXor_and, e2]
  have e3 : ((n >>> s) <<< s) = n / 2 ^ s * 2 ^ s := by rw [Nat.shiftLeft_eq, Nat.shiftRight_eq_div_pow]
  have e4 := Nat.div_add_mod n (2 ^ s)
  have e5 : (n : Int) % 2 ^ s = ((n % 2 ^ s : Nat) : Int) := by simp
  rw [e5, e3]
  rw [Nat.mul_comm] at e4
  omega
section
variable {F : Fx} {Hc M : List Addr} {G : Nat → Addr} {env : Env} {σ : List Sl} {B : Gt} {s₀ s : Shared} {A : Around}
end
noncomputable abbrev psI2dI : List Str := ["x", "L", "R"]
noncomputable abbrev nmI2dI : List Str := ["x", "L", "R", "mid", "shift", "upper", "lower", "a_digits", "inner", "n"]
structure InnM (X : Cx) (a g : Addr) (cl : List (Str × Addr)) (ca ci cn : Addr) (n : Int) : Prop where
  f : ∃ fd, FnAtC X a fd bdI2dI psI2dI cl ∧ fd.scope.names = nnI2dI
  l1 : cl.lookup ("a_digits" : Str) = some ca
  l2 : cl.lookup ("inner" : Str) = some ci
  l3 : cl.lookup ("n" : Str) = some cn
  cu : ∀ p ∈ cl, cl.lookup p.1 = some p.2 ∧ nnI2dI.lookup p.1 = some .free
  ij : ∀ x y c, cl.lookup x = some c → cl.lookup y = some c → x = y
  all : ∀ x c, cl.lookup x = some c → c = ca ∨ c = ci ∨ c = cn
  h1 : CellH X ca (.ref g)
  h2 : CellH X ci (.ref a)
  h3 : ∃ t, CellH X cn (.int n t)
theorem i2d_in {X : Cx} (W : Wd X) {a g : Addr} {cl : List (Str × Addr)} {ca ci cn : Addr} {n : Int} (I : InnM X a g cl ca ci cn n) (hn : 1 ≤ n) (hN : n ≤ 4194304) :
    ∀ (m k l r : Nat) (x : Int) (xs : List D), m ≤ k → r = l + m → 1 ≤ m → r ≤ xs.length → xs.length ≤ 30 → 0 ≤ x → x < (2 ^ n.toNat) ^ m → CtM X (k + 1) a g [.int x, .int l, .int r] xs (xs.take l ++ (dg (2 ^ n.toNat) m x).map .int ++ xs.drop r) := by
  intro m
  induction m using Nat.strongRecOn with
  | _ m ih =>
  intro k l r x xs hk hr hm hrl hxl hx0 hx1 A s H vals vs R w0 h0g HB hgH tk hvals hq hrx
  obtain ⟨fd, Z, hns⟩ := I.f
  obtain ⟨t3, h3⟩ := I.h3
  obtain ⟨k, rfl⟩ : ∃ k', k = k' + 1 := ⟨k - 1, by omega⟩
  have hfn : ∃ o fd, X.h0.get? a = some o ∧ o.data = .func fd := let ⟨o, e, q⟩ := Z.ob; ⟨o, fd, e, q⟩
  have hbp : (0 : Int) < 2 ^ n.toNat := Int.pow_pos (by decide)
  have hmem : (("a_digits" : Str), ca) ∈ cl := mem_of_lookup I.l1
  refine call_skel W Z R w0 (by rw [hvals.length]; rfl) fun h' hn' hs' => ?_
  have S := entryC (F := ⟨X, k + 1, nmI2dI, nnI2dI, cl⟩) (Mo := [g]) (g := g) (rest := ["mid", "shift", "upper", "lower"]) (fv := ["a_digits", "inner", "n"]) (σf := [.ow xs, .fr (.ptr a), .fr (.int n)]) (ds := [.int x, .int l, .int r]) (H := H) W Z hns.symm rfl rfl
    (show nmI2dI.Nodup from by decide +kernel) (show ∀ x ∈ nmI2dI, (x == ("__debug__" : Str)) = false ∧ (x == ("__classdict__" : Str)) = false from by decide +kernel) rfl w0 HB tk hvals rfl (by rw [hns]; exact I.cu) I.ij
    (fun x c e => by
      rcases I.all x c e with rfl | rfl | rfl
      · exact ⟨_, I.h1.now w0⟩
      · exact ⟨_, I.h2.now w0⟩
      · exact ⟨_, h3.now w0⟩)
    (fun b hb => by rw [List.mem_singleton.mp hb]; exact ⟨rfl, h0g, hgH⟩)
    (fun i j xs ys e1 e2 => by
      match i, j, e1, e2 with
      | 0, 0, _, _ => rfl
      | 0, 1, _, e2 => cases e2
      | 0, 2, _, e2 => cases e2
      | 0, j + 3, _, e2 => cases e2
      | 1, _, e1, _ => cases e1
      | 2, _, e1, _ => cases e1
      | i + 3, _, e1, _ => cases e1)
    (fun j x sl e1 e2 => by
      rw [hns]
      match j, e1, e2 with
      | 0, e1, e2 => cases e1; cases e2; exact ⟨by kernel_rfl, ca, _, I.l1, I.h1.now w0, rfl, .head _, vs, hq, hrx⟩
      | 1, e1, e2 => cases e1; cases e2; exact ⟨by kernel_rfl, ci, _, I.l2, I.h2.now w0, .mkP⟩
      | 2, e1, e2 => cases e1; cases e2; exact ⟨by kernel_rfl, cn, _, I.l3, h3.now w0, .mkI⟩
      | j + 3, e1, e2 => cases e1)
    hn' hs'
  -- what a frame's end gives
  have fin : ∀ {f : Flow} {xs' : List D} {s3 s4 s5 s6 : Sl} {o : Out} {s₂ : Shared}, (o = .nx ∨ o = .rt .none) → Fi ⟨X, k + 1, nmI2dI, nnI2dI, cl⟩ H (envI fd s.heap.objs.size a) (vis [g] s.heap) s o [.fr (.int x), .fr (.int l), .fr (.int r), s3, s4, s5, s6, .ow xs', .fr (.ptr a), .fr (.int n)] f s₂ →
      (match f with | .ret v => v | _ => .none) = Value.none ∧ (∃ h t d, s₂ = { s with heap := h, toks := t, drawn := d }) ∧ Le (vis [g] s.heap) (vis [g] s₂.heap) ∧ TI s₂.heap ∧ ∃ vs', IsSq (gt s₂.heap) false g vs' ∧ Reps X.C (vis (g :: H) s₂.heap) xs' vs' := by
    intro f xs' s3 s4 s5 s6 o s₂ ho hF
    have main : ∀ {M₂ : List Addr} {G₂ : Nat → Addr}, StP ⟨X, k + 1, nmI2dI, nnI2dI, cl⟩ H M₂ G₂ (envI fd s.heap.objs.size a) [.fr (.int x), .fr (.int l), .fr (.int r), s3, s4, s5, s6, .ow xs', .fr (.ptr a), .fr (.int n)] (vis [g] s.heap) s s₂ →
        (∃ h t d, s₂ = { s with heap := h, toks := t, drawn := d }) ∧ Le (vis [g] s.heap) (vis [g] s₂.heap) ∧ TI s₂.heap ∧ ∃ vs', IsSq (gt s₂.heap) false g vs' ∧ Reps X.C (vis (g :: H) s₂.heap) xs' vs' := fun {M₂ G₂} S₂ => by
      have hG : G₂ 7 = g := own_at S₂.ev (j := 7) rfl rfl hmem I.h1
      obtain ⟨us, _, u1, u2⟩ := S₂.ev.vars 7 "a_digits" _ rfl rfl
      have hgM : g ∈ M₂ := hG ▸ (S₂.ow 7 xs' rfl).1
      refine ⟨S₂.sh, S₂.kp.trans (vis_sub _ fun b hb => by rw [List.mem_singleton.mp hb]; exact hgM), S₂.ev.hb.ti, us, hG ▸ u1, u2.mono (vis_sub _ fun b hb => ?_)⟩
      rcases List.mem_cons.mp hb with q | q
      · rw [q]; exact List.mem_append_left _ hgM
      · exact List.mem_append_right _ q
    rcases ho with rfl | rfl
    · obtain ⟨rfl, M₂, G₂, S₂⟩ := hF; exact ⟨rfl, main S₂⟩
    · obtain ⟨v, rfl, rv, M₂, G₂, S₂⟩ := hF; cases rv; exact ⟨rfl, main S₂⟩
  by_cases h1 : m = 1
  · subst h1
    have hset : xs.take l ++ (dg (2 ^ n.toNat) 1 x).map D.int ++ xs.drop r = xs.set l (.int x) := by
      have : x % 2 ^ n.toNat = x := Int.emod_eq_of_lt hx0 (by have := hx1; rwa [Int.pow_succ, Int.pow_zero, Int.one_mul] at this)
      rw [List.set_eq_take_append_cons_drop, if_pos (by omega)]
      simp [dg, this, hr]
    rw [hset]
    have hsi : seqIndex? (l : Int) xs.length = some l := idx_pos (by omega)
    have ev : ExSs ⟨X, k + 1, nmI2dI, nnI2dI, cl⟩ [.fr (.int x), .fr (.int l), .fr (.int r), .un, .un, .un, .un, .ow xs, .fr (.ptr a), .fr (.int n)] bdI2dI (.rt .none) [.fr (.int x), .fr (.int l), .fr (.int r), .un, .un, .un, .un, .ow (xs.set l (.int x)), .fr (.ptr a), .fr (.int n)] :=
      exs_ret (ex_ifT (TsS.cast (ts_cmp (ev_bin (ev_name (i := 1) rfl rfl) ev_int (by first | exact bAdd | exact bCat (by first | assumption | omega | (constructor <;> omega) | (simp only [List.length_append, List.length_cons, List.length_nil]; omega) | (simp; done) | (simp; omega)))) (ev_name (i := 2) rfl rfl) cEq) (by simp; omega)) (exs_cons (ex_setO (i := 7) (n := l) rfl rfl (ev_name (i := 1) rfl rfl) (ev_name (i := 0) rfl rfl) (by omega) hsi) (exs_ret ex_retN)))
    exact wpAny_mono (ev _ _ _ _ _ _ _ (A.deeper (envI fd s.heap.objs.size a)) S R.deep) (fun f s₂ h₂ => fin (.inr rfl) h₂) fun _ _ e => e.elim
  · obtain ⟨i, hi⟩ : ∃ i : Nat, i = m / 2 := ⟨_, rfl⟩
    have hi1 : 1 ≤ i := by omega
    have hi2 : i < m := by omega
    have e2 : (2 : Int) ^ (1 : Int).toNat = 2 := rfl
    have hmid : ((l : Int) + r).fdiv (2 ^ (1 : Int).toNat) = ((l + i : Nat) : Int) := by
      rw [e2, fdE (by decide)]; omega
    have hil : (0 : Int) ≤ (i : Int) * n := Int.mul_nonneg (by omega) (by omega)
    have hshn : ((i : Int) * n).toNat = n.toNat * i := by
      have : (i : Int) * n = ((n.toNat * i : Nat) : Int) := by rw [Int.natCast_mul, Int.toNat_of_nonneg (by omega), Int.mul_comm]
      rw [this]; rfl
    have hpw : (2 : Int) ^ ((i : Int) * n).toNat = (2 ^ n.toNat) ^ i := by rw [hshn, Int.pow_mul]
    have hpi : (0 : Int) < (2 ^ n.toNat) ^ i := Int.pow_pos hbp
    have hlow0 : 0 ≤ x % (2 ^ n.toNat) ^ i := Int.emod_nonneg _ (by omega)
    have hlow1 : x % (2 ^ n.toNat) ^ i < (2 ^ n.toNat) ^ i := Int.emod_lt_of_pos _ hpi
    have hup0 : 0 ≤ x / (2 ^ n.toNat) ^ i := Int.ediv_nonneg hx0 (by omega)
    have hup1 : x / (2 ^ n.toNat) ^ i < (2 ^ n.toNat) ^ (m - i) := by
      refine Int.ediv_lt_of_lt_mul hpi ?_
      rw [← Int.pow_add, show m - i + i = m by omega]; exact hx1
    have hxor : Builtin.bitXor x (x / (2 ^ n.toNat) ^ i * (2 ^ n.toNat) ^ i) = x % (2 ^ n.toNat) ^ i := by
      have := xor_low (s := n.toNat * i) hx0
      rw [Int.pow_mul] at this; exact this
    have hbits : (Builtin.Int.intBits (x / (2 ^ n.toNat) ^ i) : Int) + (i : Int) * n ≤ 2 ^ 27 := by
      have b1 : x / (2 ^ n.toNat) ^ i < 2 ^ (n.toNat * (m - i)) := by rw [Int.pow_mul]; exact hup1
      have hb := bits_lt hup0 b1
      have h1 : ((n.toNat * (m - i) : Nat) : Int) + (i : Int) * n = n * m := by
        have : ((m - i : Nat) : Int) = (m : Int) - i := by omega
        rw [Int.natCast_mul, Int.toNat_of_nonneg (by omega), this, Int.mul_sub, Int.mul_comm (i : Int) n]; omega
      have h2 : n * m ≤ 4194304 * 30 := Int.mul_le_mul hN (by omega) (by omega) (by omega)
      omega
    have C1 := ih i hi2 k l (l + i) (x % (2 ^ n.toNat) ^ i) xs (by omega) rfl hi1 (by omega) hxl hlow0 hlow1
    obtain ⟨ys, hys⟩ : ∃ ys, xs.take l ++ (dg (2 ^ n.toNat) i (x % (2 ^ n.toNat) ^ i)).map D.int ++ xs.drop (l + i) = ys := ⟨_, rfl⟩
    rw [hys] at C1
    have hyl : ys.length = xs.length := by
      rw [← hys]
      simp only [List.length_append, List.length_take, List.length_map, List.length_drop, dg_len]
      omega
    have C2 := ih (m - i) (by omega) k (l + i) r (x / (2 ^ n.toNat) ^ i) ys (by omega) (by omega) (by omega) (by omega) (by omega) hup0 hup1
    have hfin : ys.take (l + i) ++ (dg (2 ^ n.toNat) (m - i) (x / (2 ^ n.toNat) ^ i)).map D.int ++ ys.drop r = xs.take l ++ (dg (2 ^ n.toNat) m x).map D.int ++ xs.drop r := by
      have hl1 : (xs.take l ++ (dg (2 ^ n.toNat) i (x % (2 ^ n.toNat) ^ i)).map D.int).length = l + i := by
        simp only [List.length_append, List.length_take, List.length_map, dg_len]; omega
      have e3 : ys.take (l + i) = xs.take l ++ (dg (2 ^ n.toNat) i (x % (2 ^ n.toNat) ^ i)).map D.int := by rw [← hys, ← hl1, List.take_left]
      have e4 : ys.drop r = xs.drop r := by
        rw [← hys, show r = (xs.take l ++ (dg (2 ^ n.toNat) i (x % (2 ^ n.toNat) ^ i)).map D.int).length + (m - i) by rw [hl1]; omega, ← List.drop_drop, List.drop_left, List.drop_drop, hl1]
      have e5 := dg_split hbp i (m - i) x
      rw [show i + (m - i) = m by omega] at e5
      rw [e3, e4, e5, List.map_append]
      simp only [List.append_assoc]
    rw [hfin] at C2
    have ev : ExSs ⟨X, k + 1, nmI2dI, nnI2dI, cl⟩ [.fr (.int x), .fr (.int l), .fr (.int r), .un, .un, .un, .un, .ow xs, .fr (.ptr a), .fr (.int n)] bdI2dI .nx
        [.fr (.int x), .fr (.int l), .fr (.int r), .fr (.int ((l + i : Nat) : Int)), .fr (.int ((i : Int) * n)), .fr (.int (x / (2 ^ n.toNat) ^ i)), .fr (.int (x % (2 ^ n.toNat) ^ i)), .ow (xs.take l ++ (dg (2 ^ n.toNat) m x).map .int ++ xs.drop r), .fr (.ptr a), .fr (.int n)] := by
      refine exs_cons (ex_ifF (TsS.cast (ts_cmp (ev_bin (ev_name (i := 1) rfl rfl) ev_int (by first | exact bAdd | exact bCat (by first | assumption | omega | (constructor <;> omega) | (simp only [List.length_append, List.length_cons, List.length_nil]; omega) | (simp; done) | (simp; omega)))) (ev_name (i := 2) rfl rfl) cEq) (by simp; omega)) exs_nil) ?_
      refine exs_cons (ex_asg (i := 3) (d := .int ((l + i : Nat) : Int)) rfl (EvS.cast (ev_bin (ev_bin (ev_name (i := 1) rfl rfl) (ev_name (i := 2) rfl rfl) (by first | exact bAdd | exact bCat (by first | assumption | omega | (constructor <;> omega) | (simp only [List.length_append, List.length_cons, List.length_nil]; omega) | (simp; done) | (simp; omega)))) ev_int (bShr (by decide))) (congrArg D.int hmid))) ?_
      refine exs_cons (ex_asg (i := 4) (d := .int ((i : Int) * n)) rfl (EvS.cast (ev_bin (ev_bin (ev_name (i := 3) rfl rfl) (ev_name (i := 1) rfl rfl) bSub) (ev_name (i := 9) rfl rfl) (bMulL (by omega))) (by congr 1; congr 1; omega))) ?_
      refine exs_cons (ex_asg (i := 5) (d := .int (x / (2 ^ n.toNat) ^ i)) rfl (EvS.cast (ev_bin (ev_name (i := 0) rfl rfl) (ev_name (i := 4) rfl rfl) (bShr hil)) (by rw [hpw, fdE (by omega)]))) ?_
      refine exs_cons (ex_asg (i := 6) (d := .int (x % (2 ^ n.toNat) ^ i)) rfl (EvS.cast (ev_bin (ev_name (i := 0) rfl rfl) (ev_bin (ev_name (i := 5) rfl rfl) (ev_name (i := 4) rfl rfl) (bShl hil hbits)) bXor) (by rw [hpw, hxor]))) ?_
      exact exs_cons (ex_callM (i := 8) (j := 7) hfn rfl rfl rfl rfl hmem I.h1 (es_cons (ev_name (i := 6) rfl rfl) (es_cons (ev_name (i := 1) rfl rfl) (es_cons (ev_name (i := 3) rfl rfl) es_nil))) C1 h0g) (exs_cons (ex_callM (i := 8) (j := 7) hfn rfl rfl rfl rfl hmem I.h1 (es_cons (ev_name (i := 5) rfl rfl) (es_cons (ev_name (i := 3) rfl rfl) (es_cons (ev_name (i := 2) rfl rfl) es_nil))) C2 h0g) exs_nil)
    exact wpAny_mono (ev _ _ _ _ _ _ _ (A.deeper (envI fd s.heap.objs.size a)) S R.deep) (fun f s₂ h₂ => fin (.inl rfl) h₂) fun _ _ e => e.elim
end Mine
end

section
open PySem PySem.Calls PyProof.Rows
set_option Elab.async false
set_option maxRecDepth 100000
namespace Mine
section
variable {F : Fx} {Hc M : List Addr} {G : Nat → Addr} {env : Env} {σ : List Sl} {B : Gt} {s₀ s : Shared} {A : Around}
theorem mul_new {X : Cx} {l : Addr} {items : Array Value} {k : Nat} {x : Int} {u : Tok} {Q : Value → Shared → Prop} {E : Value → Shared → Prop} (hl : s.heap.get? l = some { cls := .type "list", dict := none, data := .seq items k, slots := #[] })
    (hlo : 0 ≤ x) (hhi : x ≤ 1000) (hne : items.isEmpty = false) (hsz : items.size ≤ 1000) (h : Q (.ref s.heap.objs.size) { s with heap := s.heap.push { cls := .type "list", data := .seq (List.foldl (fun x1 x2 => x1 ++ x2) #[] (List.replicate x.toNat items)) } }) :
    wpAny (Md X) A (binaryOp .Mult (.ref l) (.int x u)) Q E s := by
  have hm : items.size * x.toNat ≤ 1000 * 1000 := Nat.mul_le_mul hsz (by omega)
  refine wpAny_binaryOp_repeat_ref (T := "list") (U := "int") (by decide) ⟨_, hl, rfl⟩ (fun s' => typeIs_int s' x u) noFill_list_mul PySem.F.fills_int_mul PySem.F.slot_int_rmul repeat_list PySem.F.slot_int_index.lookup
    (call_meets PySem.F.slot_int_rmul (typeIs_int s x u) PySem.F.entry_int_rmul (PySem.F.args_int_rmul_2 _ _) (int___rmul___int_list x u l items k)
      ⟨hl, rfl, ⟨_, hl, rfl⟩, call_meets PySem.F.slot_list_mul ⟨_, hl, rfl⟩ PySem.F.entry_list_mul (PySem.F.args_list_mul_2 _ _)
        (AutoListH.list___mul___list_int_3 l items k x u (by simp [Builtin.List.listFitsIndex]; omega) (by omega) (by simp [Builtin.List.listTooLong, sizeLine]; omega))
        ⟨hl, ?_⟩⟩)
  rw [hne]
  exact h
theorem rep_list (v : Value) (n : Nat) : (List.foldl (fun x1 x2 => x1 ++ x2) #[] (List.replicate n #[v])) = (List.replicate n v).toArray := by
  have key : ∀ (n : Nat) (acc : Array Value), ((List.replicate n #[v]).foldl (fun x1 x2 => x1 ++ x2) acc).toList = acc.toList ++ List.replicate n v := by
    intro n
    induction n with
    | zero => intro acc; simp
    | succ n ih => intro acc; rw [List.replicate_succ, List.foldl_cons, ih]; simp [List.replicate_succ]
  apply Array.ext'
  rw [key]; simp
theorem reps_rep {C : Addr} {g : Gt} {d : D} {v : Value} (h : Rep C g d v) : ∀ n, Reps C g (List.replicate n d) (List.replicate n v)
  | 0 => .mkN
  | n + 1 => .mkC h (reps_rep h n)
theorem ex_asgRep {i : Nat} {x : Str} {p q r pl : Pos} {c e : Expr} {d : D} {n : Int} (hx : F.nm[i]? = some x) (hc : EvS F σ c d) (he : EvS F σ e (.int n)) (hn : 0 ≤ n ∧ n ≤ 1000) (hst : storable F.sc x = true := by rfl) (hs : NoStar c := by exact fun _ _ => rfl) :
    ExS F σ (.Assign [.Name x p] (.BinOp (.List [c] pl) .Mult e q) r) .nx (σ.set i (.ow (List.replicate n.toNat d))) := fun Hc M G env B s₀ s A S R => by
  refine wpAny_Assign_Name (wpAny_BinOp ((ev_list (es_cons hc es_nil hs)).run S R fun va s₁ g₁ S₁ ra => he.run S₁ R fun vb s₂ g₂ S₂ rb => ?_)) rfl
  obtain ⟨t, rfl⟩ := rb.intI
  obtain ⟨l, vs, rfl, hq, hr⟩ := (ra.mono (vis_mono (kle g₂.1))).seqI
  obtain ⟨v, rfl, rv⟩ := hr.one
  obtain ⟨k, hk⟩ := (hq.mono (vis_le _ _)).plx.isl
  refine mul_new hk hn.1 hn.2 rfl (Nat.le_of_ble_eq_true rfl) ?_
  rw [rep_list]
  obtain ⟨u1, u2, u3, u4, u5⟩ := S₂.unB (get_size s₂.heap)
  have S₃ : StP F (s₂.heap.objs.size :: Hc) M G env σ B s₀ { s₂ with heap := s₂.heap.push { cls := .type "list", data := .seq (List.replicate n.toNat v).toArray } } :=
    S₂.hide (get_size _) (Kp.of (t := s₂.toks) (rw_push _ _)) (Nat.le_refl _) ⟨_, gt_push_size S₂.ev.hb.ti rfl⟩
  refine S₃.own u1 u2 u3 u4 hx hst (isSq_push S₂.ev.hb.ti false _) (reps_rep ?_ _) fun s' S' _ => ⟨rfl, _, _, S'⟩
  refine rv.mono fun b o e => ?_
  obtain ⟨e1, e2⟩ := vis_get e
  refine vis_of (le_push _ _ b o e1) fun qm => ?_
  rcases List.mem_append.mp qm with h | h
  · exact e2 (List.mem_append_left _ h)
  · rcases List.mem_cons.mp h with h | h
    · rw [h, get_size] at e1; cases e1
    · exact e2 (List.mem_append_right _ h)
end
theorem ExS.ap {F : Fx} {σ σ' : List Sl} {st : Stmt} {o : Out} {Hc M : List Addr} {G : Nat → Addr} {env : Env} {B : Gt} {s₀ s : Shared} {A : Around} (h : ExS F σ st o σ') (S : StP F Hc M G env σ B s₀ s) (R : Rm F.k A) : wpAny (Md F.X) A (exec st env) (Fi F Hc env B s₀ o σ') E0 s := h _ _ _ _ _ _ _ _ S R
theorem bind_three {name qual : Str} {params : Arguments} {body : List Stmt} {scope : Scope} {cl : List (Str × Addr)} {x y z : Str} (h : ∀ doc pm cv ctv (a b c : Value), bindArgs (PySem.W.fnX name qual params body scope cl .none .none doc pm none cv ctv) ⟨[a, b, c], []⟩ = pure [(x, a), (y, b), (z, c)]) :
    ∀ doc pm cv ctv, ∀ vals : List Value, vals.length = [x, y, z].length → bindArgs (PySem.W.fnX name qual params body scope cl .none .none doc pm none cv ctv) ⟨vals, []⟩ = pure ([x, y, z].zip vals) := fun doc pm cv ctv vals hl => by
  obtain ⟨a, b, c, rfl⟩ := len_3 hl
  exact h doc pm cv ctv a b c
theorem pow_digs {a n : Int} {m : Nat} (ha : 0 ≤ a) (hn1 : 1 ≤ n) (hm' : (((Builtin.Int.intBits a : Int) + n - 1) / n).toNat = m) : a < (2 ^ n.toNat) ^ m := by
  have h1 : a.natAbs < 2 ^ Builtin.Int.intBits a := by
    unfold Builtin.Int.intBits
    split
    · rename_i q; have : a = 0 := by simpa using q
      subst this; simp
    · rename_i q; exact (Nat.log2_lt (by simpa using q)).mp (Nat.lt_succ_self _)
  have h2 : (Builtin.Int.intBits a : Int) ≤ n * m := by
    have h3 := Int.mul_ediv_add_emod ((Builtin.Int.intBits a : Int) + n - 1) n
    have h4 := Int.emod_lt_of_pos ((Builtin.Int.intBits a : Int) + n - 1) (show 0 < n by omega)
    have h5 : (m : Int) = ((Builtin.Int.intBits a : Int) + n - 1) / n := by
      rw [← hm', Int.toNat_of_nonneg (Int.ediv_nonneg (by omega) (by omega))]
    rw [h5]
    omega
  have h6 : Builtin.Int.intBits a ≤ n.toNat * m := by
    have : ((n.toNat * m : Nat) : Int) = n * m := by rw [Int.natCast_mul, Int.toNat_of_nonneg (by omega)]
    omega
  have h7 : a.natAbs < 2 ^ (n.toNat * m) := Nat.lt_of_lt_of_le h1 (Nat.pow_le_pow_right (by decide) h6)
  have h8 : ((2 : Int) ^ n.toNat) ^ m = ((2 ^ (n.toNat * m) : Nat) : Int) := by rw [← Int.pow_mul]; simp
  rw [h8]
  omega
noncomputable abbrev psI2d : List Str := ["a", "n"]
noncomputable abbrev nmI2d : List Str := ["a", "n", "a_digits", "inner"]
theorem ct_i2d {X : Cx} (W : Wd X) {ad : Addr} (Z : FnD X "_int2digits" ad bdI2d psI2d nnI2d 63 "_int2digits") {a n : Int} (ha : 0 ≤ a) (hn : 1 ≤ n) (hN : n ≤ 4194304) {m : Nat} (hm : (((Builtin.Int.intBits a : Int) + n - 1) / n).toNat = m) (hm30 : m ≤ 30) :
    Ct X 110 ad [.int a, .int n] (.seq false ((dg (2 ^ n.toNat) m a).map .int)) := by
  refine fn_ctD (nm := nmI2d) ["a_digits", "inner"] W Z.f 100 (by decide) rfl (by kernel_rfl) rfl ?_
  intro Hc M G env B s₀ s A hcode hqual hkind S R
  have hfree : ∀ y ∈ nnI2dI, y.2 = .free → nnI2d.lookup y.1 = some .cell := by decide +kernel
  have hdiv : ((Builtin.Int.intBits a : Int) + n - 1).fdiv n = (m : Int) := by
    rw [fdE (by omega), ← hm, Int.toNat_of_nonneg (Int.ediv_nonneg (by omega) (by omega))]
  have hn64 : 1 ≤ n ∧ n ≤ 4611686018427387904 := by omega
  refine wpAny_execs_cons (wpAny_mono (ExS.ap (F := ⟨X, 100, nmI2d, nnI2d, []⟩) (ex_asgRep (i := 2) (n := (m : Int)) rfl ev_int (EvS.cast (ev_bin (ev_bin (ev_bin (ev_bitlen (ev_name (i := 0) rfl rfl)) (ev_name (i := 1) rfl rfl) bAdd) ev_int bSub) (ev_name (i := 1) rfl rfl) (bDivS hn64)) (congrArg D.int hdiv)) (by omega)) S R) (fun f s₁ h₁ => ?_) fun _ _ e => e)
  obtain ⟨rfl, M₁, G₁, S₁⟩ := h₁
  refine wpAny_execs_cons (def_run (i := 3) (t := ⟨63, 59, ⟨89, 4, 98, 28⟩, "_int2digits.<locals>.inner"⟩) S₁ (.tail _ (.head _)) hcode ?_ rfl (by kernel_rfl) rfl rfl rfl hfree ?_)
  · unfold qualnameIn
    rw [hqual, hkind, if_neg (by decide +kernel)]
    kernel_rfl
  intro s' a' fd' S' hM hH hob hrec hfd
  -- the end
  have last : ∀ {s₂ : Shared} {p : Pos} {e : Expr} {xs : List D}, EvS ⟨X, 100, nmI2d, nnI2d, []⟩ [.fr (.int a), .fr (.int n), .fr (.seq false xs), .fr (.ptr a')] e (.seq false xs) → xs = (dg (2 ^ n.toNat) m a).map .int → StP ⟨X, 100, nmI2d, nnI2d, []⟩ Hc M₁ G₁ env [.fr (.int a), .fr (.int n), .ow xs, .fr (.ptr a')] B s₀ s₂ →
      wpAny (Md X) A (execs [.Return (some e) p] env) (fun f s'' => ∃ σ', Fi ⟨X, 100, nmI2d, nnI2d, []⟩ Hc env B s₀ (.rt (.seq false ((dg (2 ^ n.toNat) m a).map .int))) σ' f s'') E0 s₂ := fun {s₂ p e xs} he hxs T => by
    subst hxs
    exact wpAny_mono ((exs_frz (F := ⟨X, 100, nmI2d, nnI2d, []⟩) (σ := [.fr (.int a), .fr (.int n), .ow ((dg (2 ^ n.toNat) m a).map .int), .fr (.ptr a')]) (xs := (dg (2 ^ n.toNat) m a).map .int) 2 rfl (exs_ret (ex_ret he))) _ _ _ _ _ _ _ _ T R) (fun f s h => ⟨_, h⟩) fun _ _ e => e
  by_cases h0 : a = 0
  · subst h0
    have hm0 : m = 0 := by
      rw [← hm, show Builtin.Int.intBits 0 = 0 by decide]
      have : ((0 : Nat) : Int) + n - 1 = n - 1 := by omega
      rw [this, Int.ediv_eq_zero_of_lt (by omega) (by omega)]; rfl
    subst hm0
    refine wpAny_execs_cons (wpAny_mono ((ex_ifF (F := ⟨X, 100, nmI2d, nnI2d, []⟩) (TsS.cast (ts_nameI (i := 0) rfl rfl) rfl) exs_nil) _ _ _ _ _ _ _ _ S' R) (fun f s₂ h₂ => ?_) fun _ _ e => e)
    obtain ⟨rfl, M₂, G₂, S₂⟩ := h₂
    exact wpAny_mono ((exs_frz (F := ⟨X, 100, nmI2d, nnI2d, []⟩) 2 rfl (exs_ret (ex_ret (ev_name (i := 2) rfl rfl)))) _ _ _ _ _ _ _ _ S₂ R) (fun f s h => ⟨_, h⟩) fun _ _ e => e
  · have hm1 : 1 ≤ m := by
      have hb : 1 ≤ Builtin.Int.intBits a := by rw [bits_pos (by omega)]; omega
      have : 1 ≤ ((Builtin.Int.intBits a : Int) + n - 1) / n := Int.le_ediv_of_mul_le (by omega) (by omega)
      omega
    refine wpAny_execs_cons (wpAny_If ((TsS.cast (ts_nameI (F := ⟨X, 100, nmI2d, nnI2d, []⟩) (i := 0) rfl rfl) (bne_iff_ne.mpr h0)).run S' R fun s₂ g₂ S₂ => ?_))
    simp only [if_true]
    obtain ⟨us, hva, hqa, hra⟩ := S'.ev.vars 2 "a_digits" _ rfl rfl
    have hgM := (S'.ow 2 _ rfl)
    have h0g : X.h0.get? (G₁ 2) = none := S'.mf _ hgM.1
    have hca : ∃ c1, env.cells.lookup ("a_digits" : Str) = some c1 ∧ CelV s'.heap c1 (some (.ref (G₁ 2))) := by
      rcases hva with ⟨hl, _⟩ | ⟨_, c, hc, hcv⟩
      · rw [hkind] at hl; exact absurd hl (by decide +kernel)
      · exact ⟨c, hc, hcv⟩
    obtain ⟨c1, hc1, hv1⟩ := hca
    obtain ⟨c2, v2, hc2, hv2, hr2⟩ := slot_cell S'.ev (i := 3) (x := "inner") (d := .ptr a') rfl rfl (by kernel_rfl)
    obtain ⟨c3, v3, hc3, hv3, hr3⟩ := slot_cell S'.ev (i := 1) (x := "n") (d := .int n) rfl rfl (by kernel_rfl)
    cases hr2.ptrI
    obtain ⟨t3, rfl⟩ := hr3.intI
    have Z' := fnAtC_re (X := X) (ps := ["x", "L", "R"]) S'.ev.hb.ti hob hrec hfd (bind_three (fun _ _ _ _ _ _ _ => by kernel_rfl)) rfl rfl rfl (show ∀ x ∈ nnI2dI, x.2 ≠ .cell from by decide +kernel) (show ∀ x ∈ psI2dI, nnI2dI.lookup x = some .local from by decide +kernel) (show psI2dI.Nodup from by decide +kernel)
    have Z1 := fnAtC_re1 Z' hqa
    have hm1' : (("a_digits" : Str), NameKind.free) ∈ nnI2dI := by decide +kernel
    have hm2' : (("inner" : Str), NameKind.free) ∈ nnI2dI := by decide +kernel
    have hm3' : (("n" : Str), NameKind.free) ∈ nnI2dI := by decide +kernel
    have hfe : ∀ y, (y, NameKind.free) ∈ nnI2dI → ∃ c, env.cells.lookup y = some c := fun y hy => (S'.ev.ck y (hfree _ hy rfl)).2
    have ne : ∀ x c, env.cells.lookup x = some c → c ≠ G₁ 2 := hgM.2.2.2
    have I : InnM (X.re1 s'.heap (G₁ 2)) a' (G₁ 2) (closL env.cells nnI2dI []) c1 c2 c3 n := by
      refine ⟨⟨fd', Z1, ?_⟩, clos_get _ _ hm1' hc1, clos_get _ _ hm2' hc2, clos_get _ _ hm3' hc3, clos_cu _ _ (by decide +kernel), fun x y c h1 h2 => ?_, fun x c h => ?_, cell_re1 hv1 (ne _ _ hc1), cell_re1 hv2 (ne _ _ hc2), ⟨t3, cell_re1 hv3 (ne _ _ hc3)⟩⟩
      · obtain ⟨_, _, _, _, rfl⟩ := hfd; rfl
      · exact S'.ci x y c (clos_inv _ _ hfe h1).2 (clos_inv _ _ hfe h2).2
      · obtain ⟨h1, h2⟩ := clos_inv _ _ hfe h
        have key : ∀ p ∈ nnI2dI, p.2 = .free → p.1 = "a_digits" ∨ p.1 = "inner" ∨ p.1 = "n" := by decide +kernel
        rcases key _ h1 rfl with q | q | q <;> dsimp only at q <;> subst q
        · rw [hc1] at h2; cases h2; exact .inl rfl
        · rw [hc2] at h2; cases h2; exact .inr (.inl rfl)
        · rw [hc3] at h2; cases h2; exact .inr (.inr rfl)
    have w1 : Le X.h0.get? (vis [G₁ 2] s'.heap) := fun b o e => vis_of (S'.ev.w0 b o e) fun q => by
      rw [List.mem_singleton.mp q, h0g] at e; cases e
    have W1 : Wd (X.re1 s'.heap (G₁ 2)) := W.re1 w1
    have hgn : (gho1 s'.heap (G₁ 2)).get? (G₁ 2) = none := by
      rw [gho1_get]; unfold vis; rw [if_pos (by simp)]
    have SE : EvSt ⟨X.re1 s'.heap (G₁ 2), 100, nmI2d, nnI2d, []⟩ (M₁ ++ Hc) G₁ env [.fr (.int a), .fr (.int n), .ow (List.replicate m (.int 0)), .fr (.ptr a')] s₂ := (S'.ev.re1 h0g).mono g₂
    have hlr : (List.replicate m (D.int 0)).length ≤ strLid := by rw [List.length_replicate]; have : strLid = 100000 := rfl; omega
    have C := ((i2d_in W1 I hn hN m m 0 m a (List.replicate m (.int 0)) (Nat.le_refl _) (by omega) hm1 (by simp) (by simpa using hm30) ha (pow_digs ha hn hm)).up (show m + 1 ≤ 100 by omega)).cast (show _ = (dg (2 ^ n.toNat) m a).map D.int by simp)
    have hlen : ((List.replicate m (D.int 0)).length : Int) = ((m : Nat) : Int) := by rw [List.length_replicate]
    refine wpAny_execs_cons (callM_raw (F := ⟨X, 100, nmI2d, nnI2d, []⟩) (i := 3) (j := 2) S₂ R SE (let ⟨o, e, q⟩ := Z1.ob; ⟨o, fd', e, q⟩) rfl rfl rfl ⟨_, rfl⟩ (es_cons (ev_name (i := 0) rfl rfl) (es_cons ev_int (es_cons (EvS.cast (ev_lenO (j := 2) rfl rfl hlr (by kernel_rfl)) (congrArg D.int hlen)) es_nil))) C hgn fun s₃ S₃ => ?_)
    refine wpAny_execs_nil ?_
    exact last (ev_name (i := 2) rfl rfl) rfl S₃
end Mine
end

section
open PySem PySem.Calls PyProof.Rows
set_option Elab.async false
set_option maxRecDepth 100000
namespace Mine
noncomputable def rsD (xs : List Nat) : List Nat := (Txt.rstrip ⟨xs.toArray⟩).cps.toList
section
variable {F : Fx} {σ : List Sl}
theorem ev_rstrip {o : Expr} {ap p : Pos} {xs : List Nat} (ho : EvS F σ o (.str xs)) (hx : xs.length ≤ strLid) (hl : (ap.endLine == p.line) = true := by rfl) (hb : BaseOf o := by exact fun _ _ _ => rfl) :
    EvS F σ (.Call (.Attribute o "rstrip" ap) [] [] p) (.str (rsD xs)) := fun H G env s A S R => by
  refine call_meth hb hl rfl (by decide) (ho.go S R fun ov s₁ g S₁ rv pl => ?_)
  obtain ⟨t, rfl⟩ := rv.strI
  refine GM.rstrip (callWith_builtin rfl (evalArgs_nil3 ?_))
  refine SC.rstrip (fun t' k => ⟨g.1.trans (Kp.tok s₁ k), t', ?_⟩) ?_
  · unfold rsD; simp
  · have : strLid = 100000 := rfl
    have e : (⟨xs.toArray⟩ : Str).length = xs.length := by simp [Str.length]
    rw [e]; unfold sizeLine; omega
theorem ev_strike {o : Expr} {ap p p1 p2 : Pos} {c k1 k2 : _} {xs : List Nat} (ho : EvS F σ o (.str xs)) (hx : xs.length ≤ strLid) (hl : (ap.endLine == p.line) = true := by rfl) (hb : BaseOf o := by exact fun _ _ _ => rfl) :
    EvS F σ (.Call (.Attribute o "replace" ap) [.Constant (.str ⟨#[c]⟩) k1 p1, .Constant (.str ⟨#[]⟩) k2 p2] [] p) (.str (xs.filter (· != c))) := fun H G env s A S R => by
  have hst : backTo p (starEach [.Constant (.str ⟨#[c]⟩) k1 p1, .Constant (.str ⟨#[]⟩) k2 p2] env) = [(false, eval (.Constant (.str ⟨#[c]⟩) k1 p1) env), (false, eval (.Constant (.str ⟨#[]⟩) k2 p2) env)] := rfl
  refine call_meth hb hl (by rw [hst]; rfl) (show 2 < 20 by decide) (ho.go S R fun ov s₁ g S₁ rv pl => ?_)
  obtain ⟨t, rfl⟩ := rv.strI
  refine GM.replace (callWith_builtin (by rw [hst]; rfl) ?_)
  rw [hst]
  refine evalArgs_plain (spliced_cons (wpAny_Constant_str (spliced_cons (wpAny_Constant_str (spliced_nil ?_)))))
  have h1 := S₁.tk
  have e : (⟨xs.toArray⟩ : Str).length = xs.length := by simp [Str.length]
  have e2 : strLid = 100000 := rfl
  refine SC.replaceW (show s₁.toks ≠ 0 by omega) (show s₁.toks + 1 ≠ 0 by omega) (show s₁.toks ≠ s₁.toks + 1 by omega) (by simp) (by rw [e]; omega) (show 0 ≤ 14 by decide) fun t' k => ?_
  refine ⟨g.1.trans (Kp.tok s₁ k), t', ?_⟩
  have := replace_strikes ⟨xs.toArray⟩ c
  simp only at this
  rw [← this]
theorem biIntT {xs : List Nat} {n : Int} (hn : PySem.intText? ⟨xs.toArray⟩ = some n) (hl : xs.length ≤ 640) : BiR (.type "int") [.str xs] (.int n) := by
  intro prog w C H A s vs hh HB hr
  obtain ⟨v, rfl, r⟩ := hr.one
  obtain ⟨t, rfl⟩ := r.strI
  exact PySem.W.KIN.call_text hn (by simp [Str.length]; exact hl) ⟨Kp.tok .., .mkI⟩
end
theorem spD (c : Nat) (h : 48 ≤ c ∧ c ≤ 57 ∨ c = 95) : spS ⟨#[c]⟩ = false := by
  have : ∀ c, c < 100 → (48 ≤ c ∧ c ≤ 57 ∨ c = 95) → spS ⟨#[c]⟩ = false := by decide +kernel
  exact this c (by omega) h
theorem rs_num (J : List Nat) (k : Nat) (hne : J ≠ []) (hJ : ∀ c ∈ J, 48 ≤ c ∧ c ≤ 57 ∨ c = 95) : rsD (J ++ List.replicate k 32) = J := by
  have hA : ∀ c ∈ (⟨(J ++ List.replicate k 32).toArray⟩ : Str).cps.toList, c < 128 := fun c hc => by
    rcases List.mem_append.mp hc with h | h
    · have := hJ c h; omega
    · have := List.eq_of_mem_replicate h; omega
  obtain ⟨hi, h1, h2, h3, h4⟩ := rstrip_cut hA
  have hlen : (⟨(J ++ List.replicate k 32).toArray⟩ : Str).length = J.length + k := by simp [Str.length]
  have get : ∀ i, i < J.length → spS ⟨#[(⟨(J ++ List.replicate k 32).toArray⟩ : Str).cps.getD i 0]⟩ = false := fun i hi => by
    refine spD _ ?_
    have : (⟨(J ++ List.replicate k 32).toArray⟩ : Str).cps.getD i 0 = J[i] := by
      simp [List.getElem?_append_left hi, List.getElem?_eq_getElem hi]
    rw [this]; exact hJ _ (List.getElem_mem _)
  have hpos : 0 < J.length := List.length_pos_iff.mpr hne
  rw [hlen] at h1 h3
  have e1 : hi = J.length := by
    rcases Nat.lt_trichotomy hi J.length with h | h | h
    · have := h3 (J.length - 1) (by omega) (by omega)
      rw [get _ (by omega)] at this; cases this
    · exact h
    · rcases h4 with h4 | h4
      · omega
      · have : (⟨(J ++ List.replicate k 32).toArray⟩ : Str).cps.getD (hi - 1) 0 = 32 := by
          simp [List.getElem?_append_right (show J.length ≤ hi - 1 by omega), show hi - 1 - J.length < k by omega]
        rw [this] at h4
        exact absurd h4 (by decide +kernel)
  unfold rsD
  rw [h2, e1, strSub_mk]
  simp
theorem intText_dig {a : Int} (h : 0 ≤ a ∧ a ≤ 9999) : (∀ c ∈ intText a, 48 ≤ c ∧ c ≤ 57) ∧ intText a ≠ [] ∧ PySem.intText? ⟨(intText a).toArray⟩ = some a := by
  obtain ⟨m, rfl⟩ := Int.eq_ofNat_of_zero_le h.1
  refine ⟨fun c hc => ?_, fun e => ?_, ?_⟩
  · unfold intText at hc
    rw [PySem.W.KIN.signs_num] at hc
    obtain ⟨ch, hch, e⟩ := List.mem_map.mp hc
    have r := digit_range (Nat.isDigit_of_mem_toDigits (by decide) (by decide) hch)
    rw [← e]
    exact r
  · unfold intText at e
    rw [PySem.W.KIN.signs_num] at e
    have h := toDigits_len_ge 10 m
    rw [List.map_eq_nil_iff.mp e] at h
    exact absurd h (by decide)
  · have := PySem.W.KIN.num_reads (n := (m : Int)) (by omega) (by omega)
    unfold intText
    simpa using this
theorem joinD_mem (sep : List Nat) : ∀ (l : List Nat) (c : Nat), c ∈ joinD sep l → c ∈ l ∨ c ∈ sep
  | [], c, h => nomatch h
  | x :: r, c, h => by
    rcases List.mem_cons.mp h with h | h
    · exact .inl (h ▸ .head _)
    · obtain ⟨l, hl, hc⟩ := List.mem_flatten.mp h
      obtain ⟨d, hd, rfl⟩ := List.mem_map.mp hl
      rcases List.mem_append.mp hc with h | h
      · exact .inr h
      · rw [List.mem_singleton.mp h]; exact .inl (.tail _ hd)
theorem joinD_strike (T : List Nat) (hT : ∀ c ∈ T, 48 ≤ c ∧ c ≤ 57) : (joinD [95, 95] T).filter (· != 95) = T := by
  cases T with
  | nil => rfl
  | cons x r =>
    have hx := hT x (.head _)
    have key : ∀ l : List Nat, (∀ c ∈ l, 48 ≤ c ∧ c ≤ 57) → ((l.map fun d => [95, 95] ++ [d]).flatten).filter (· != 95) = l := by
      intro l
      induction l with
      | nil => intro _; rfl
      | cons d l ih =>
        intro h
        have hd := h d (.head _)
        rw [List.map_cons, List.flatten_cons, List.filter_append, ih fun c hc => h c (.tail _ hc)]
        have : (d != 95) = true := by simp; omega
        simp [this]
    unfold joinD
    rw [List.filter_cons_of_pos (by simp; omega), key r fun c hc => hT c (.tail _ hc)]
theorem joinD_ne {sep T : List Nat} (h : T ≠ []) : joinD sep T ≠ [] := by
  cases T with
  | nil => exact absurd rfl h
  | cons => exact fun e => nomatch e
theorem num_tok {a : Int} {bl : Nat} (h : 0 ≤ a ∧ a ≤ 9999) : numT a bl ≠ [] ∧ ∀ c ∈ numT a bl, tokD c = none := by
  obtain ⟨h1, h2, _⟩ := intText_dig h
  have dec : ∀ c, c < 100 → (48 ≤ c ∧ c ≤ 57 ∨ c = 95 ∨ c = 32) → tokD c = none := by decide +kernel
  refine ⟨fun e => joinD_ne h2 (List.append_eq_nil_iff.mp e).1, fun c hc => ?_⟩
  rcases List.mem_append.mp hc with q | q
  · rcases joinD_mem _ _ _ q with q | q
    · have := h1 c q; exact dec c (by omega) (by omega)
    · have : c = 95 := by simpa using q
      exact dec c (by omega) (by omega)
  · have := List.eq_of_mem_replicate q; exact dec c (by omega) (by omega)
theorem num_strip {a : Int} {bl : Nat} (h : 0 ≤ a ∧ a ≤ 9999) : (rsD (numT a bl)).filter (· != 95) = intText a := by
  obtain ⟨h1, h2, _⟩ := intText_dig h
  unfold numT
  rw [rs_num _ _ (joinD_ne h2) fun c hc => ?_, joinD_strike _ h1]
  rcases joinD_mem _ _ _ hc with q | q
  · exact .inl (h1 c q)
  · exact .inr (by simpa using q)
end Mine
end

section
open PySem PySem.Calls PyProof.Rows
set_option Elab.async false
set_option maxRecDepth 100000
namespace Mine
section
variable {prog : Program} {w : World} {A : Around} {E : Value → Shared → Prop} {s : Shared} {a : Addr}
theorem wpAny_choose {src : Source} {n : Nat} {M : Model} {Q : Nat → Shared → Prop} (hn : n ≠ 0) (h : ∀ i d, i < n → Q i { s with drawn := d }) : wpAny M A (choose src n) Q E s := fun Γ p _ => by
  unfold choose
  rw [Sem.wp_choose]
  exact ⟨hn, by rw [Sem.wp_pure]; exact h _ _ (Nat.mod_lt _ (Nat.pos_of_ne_zero hn))⟩
noncomputable def SetNo (h : Heap) (a : Addr) : Prop := ∃ o ep t, h.get? a = some o ∧ o.ExactSet ∧ o.data = .set #[] ep t ∧ t.fits 0 = true
theorem setPop_one {S : Int → Bool} {Q : Option Value → Shared → Prop} (hS : s.heap.SetOf (intKind prog w) a S 1)
    (h : ∀ k t h' d, S k = true → Heap.SameBut a s.heap h' → SetNo h' a → Q (some (.int k t)) { s with heap := h', drawn := d }) : wpAny (model prog w) A (setPop a) Q E s := by
  obtain ⟨o, es, ep, t, ho, hex, hd, hel, hmem, hsz, hf, hn⟩ := hS
  obtain ⟨l⟩ := es
  obtain ⟨e, rfl⟩ : ∃ e, l = [e] := List.length_eq_one_iff.mp hn
  obtain ⟨hh, v⟩ := e
  obtain ⟨⟨k, hk, _⟩, _⟩ := hel _ (.head _)
  obtain ⟨tk, rfl⟩ := Value.isInt_shape hk
  have hSk : S k = true := (hmem k).mpr ⟨_, .head _, hk⟩
  have hf0 := hf
  simp only [SetTable.fits, Bool.and_eq_true, beq_iff_eq, decide_eq_true_eq] at hf0
  obtain ⟨p1, p2⟩ := hf0
  have p1' : t.place.size = 1 := p1
  have hp : t.popPlace = some 0 := by
    unfold SetTable.popPlace
    rw [if_neg (by simp [Array.isEmpty, p1'])]
    dsimp only
    congr 1
    split <;> omega
  have fin : ∀ d, Q (some (.int k tk)) { s with heap := s.heap.update a (Obj.putSet (SetTable.eraseAt #[(hh, .int k tk)] 0) (t.popped 0)), drawn := d } := fun d => by
    refine h k tk _ d hSk (Heap.SameBut.update _ _ _) ?_
    have e0 : SetTable.eraseAt #[(hh, Value.int k tk)] 0 = #[] := rfl
    have hfit : (t.popped 0).fits 0 = true := by
      have hj : t.place[0]? = some t.place[0] := Array.getElem?_eq_getElem (by omega)
      have hz : (SetTable.eraseAt t.place 0).size = 0 := by simp [SetTable.eraseAt]; omega
      have hi : ∀ (xs : Array Nat) (p x : Nat), (SetTable.insertAt xs p x).size = xs.size + 1 := fun xs p x => by
        simp [SetTable.insertAt]; omega
      unfold SetTable.popped SetTable.drop
      rw [hj]
      simp only [SetTable.fits, SetTable.fill, hz, hi, Bool.and_eq_true, beq_iff_eq, decide_eq_true_eq, true_and]
      unfold SetTable.fill at p2
      omega
    obtain ⟨g1, _⟩ := SetOf_store (knd := intKind prog w) (S' := fun _ => false) (es' := #[]) (t' := t.popped 0) ho hex hd (fun e he => by simp at he) (fun k => by simp) (by decide) hfit
    rw [e0]
    exact ⟨_, _, _, g1, hex, rfl, hfit⟩
  unfold setPop
  refine wpAny_bind (wpAny_setState_of ho hd hf ?_)
  dsimp only
  rw [hp]
  dsimp only
  unfold setsByText
  refine wpAny_bind (wpAny_bind (wpAny_askSetting (wpAny_pure ?_)))
  split
  · refine wpAny_bind (wpAny_choose (show 1 ≠ 0 by decide) fun i d hi => ?_)
    obtain rfl : i = 0 := by omega
    refine wpAny_bind (wpAny_storeSet_of (s := { s with drawn := d }) ho hd (wpAny_pure (fin d)) (Nat.zero_le _))
  · refine wpAny_bind ?_
    show wpAny _ _ (if (!t.led && decide ((1 : Nat) > 1)) = true then _ else pure ()) _ _ _
    rw [if_neg (by simp)]
    refine wpAny_pure ?_
    refine wpAny_bind (wpAny_pure ?_)
    exact wpAny_bind (wpAny_storeSet_of ho hd (wpAny_pure (fin s.drawn)) (Nat.zero_le _))
theorem call_set_pop {S : Int → Bool} {Q : Value → Shared → Prop} (hS : s.heap.SetOf (intKind prog w) a S 1)
    (h : ∀ k t h' d, S k = true → Heap.SameBut a s.heap h' → SetNo h' a → Q (.int k t) { s with heap := h', drawn := d }) : wpAny (model prog w) A (call (.builtin "set.pop") [.ref a]) Q E s := by
  refine wpAny_call_entry F.slot_set_pop hS.typeIs F.entry_set_pop ?_ (F.args_set_pop_1 _)
  unfold Builtin.«set.pop» Builtin.Frozenset.noArgs Builtin.Frozenset.addrOf
  refine wpAny_bind (wpAny_pure ?_)
  refine wpAny_bind (setPop_one hS fun k t h' d q1 q2 q3 => ?_)
  exact wpAny_pure ⟨_, rfl, h k t h' d q1 q2 q3⟩
theorem method_set_pop {S : Int → Bool} {n : Nat} {pl : Sem Bool} {Q : Value × List Value → Shared → Prop} (hS : s.heap.SetOf (intKind prog w) a S n) (h : Q (.builtin "set.pop", [.ref a]) s) :
    wpAny (model prog w) A (getMethod (.ref a) "pop" pl) Q E s :=
  getMethod_builtin hS.typeIs F.plainAttrs_set F.slot_set_pop F.type_set_pop hS.noDict h
theorem noBool_set : typeLookup (.type "set") "__bool__" = pure none := by rw [typeLookup_type, builtinLookup_eq_fast]; kernel_rfl
theorem truthy_set {o : Obj} {es : Array (Int × Value)} {ep : Nat} {t : SetTable} {Q : Bool → Shared → Prop} (ho : s.heap.get? a = some o) (hex : o.ExactSet) (hd : o.data = .set es ep t) (hf : t.fits es.size = true) (hfit : (es.size : Int) < 2 ^ 63)
    (h : Q ((es.size : Int) != 0) { s with toks := s.toks + 1 + 1 }) : wpAny (model prog w) A (truthy (.ref a)) Q E s := by
  have hT : s.TypeIs (.ref a) "set" := ⟨o, ho, hex.1⟩
  have key : wpAny (model prog w) A (runValue (.builtin "len" ⟨[.ref a], []⟩)) (fun r s' => r = .int es.size (s.toks + 1) ∧ Q ((es.size : Int) != 0) s') E s := by
    refine wpAny_runValue (codeAny_builtin entry_len ?_)
    rw [Around.under_plainId plain_len _]
    exact wpAny_mono (wpAny_len_body_set (Q := fun r s' => r = .int es.size (s.toks + 1) ∧ Q ((es.size : Int) != 0) s') ho hex hd hf hfit ⟨rfl, h⟩)
      (fun fin s' h' => by obtain ⟨r, rfl, hq⟩ := h'; exact hq) fun _ _ e => e
  unfold truthy
  first
    | refine wpAny_bind (wpAny_callSpecial?_none (name := Str.ofString "__bool__") hT noBool_set ?_)
    | refine wpAny_bind (wpAny_pure (wpAny_bind (wpAny_callSpecial?_none (name := Str.ofString "__bool__") hT noBool_set ?_)))
  first
    | refine wpAny_bind (wpAny_specialOf (name := Str.ofString "__len__") hT F.slot_set_len.lookup ?_)
    | refine wpAny_bind (wpAny_pure (wpAny_bind (wpAny_specialOf (name := Str.ofString "__len__") hT F.slot_set_len.lookup ?_)))
  first
    | exact wpAny_bind (wpAny_mono key (fun r s' h' => by obtain ⟨rfl, hq⟩ := h'; exact wpAny_pure hq) fun _ _ e => e)
    | exact wpAny_bind (wpAny_pure (wpAny_bind (wpAny_mono key (fun r s' h' => by obtain ⟨rfl, hq⟩ := h'; exact wpAny_pure hq) fun _ _ e => e)))
end
end Mine
end

section
open PySem PySem.Calls PyProof.Rows
set_option Elab.async false
set_option maxRecDepth 100000
namespace Mine
section
variable {F : Fx} {Hc M : List Addr} {G : Nat → Addr} {env : Env} {σ : List Sl} {B : Gt} {s₀ s : Shared} {A : Around}
/-- an empty set, a set of one -/
noncomputable def SetE (X : Cx) (g : Gt) (a : Addr) : Prop := ∃ o, g a = some o ∧ o.SetObjOf (intKind X.prog X.w) (fun _ => false) 0
noncomputable def Set1 (X : Cx) (g : Gt) (a : Addr) (n : Int) : Prop := ∃ o S, g a = some o ∧ o.SetObjOf (intKind X.prog X.w) S 1 ∧ ∀ k, S k = true → k = n
theorem SetE.keep {X : Cx} {g g' : Gt} {a : Addr} (x : SetE X g a) (h : ∀ o, g a = some o → g' a = some o) : SetE X g' a := let ⟨o, e, r⟩ := x; ⟨o, h o e, r⟩
theorem Set1.keep {X : Cx} {g g' : Gt} {a : Addr} {n : Int} (x : Set1 X g a n) (h : ∀ o, g a = some o → g' a = some o) : Set1 X g' a n := let ⟨o, S, e, r⟩ := x; ⟨o, S, h o e, r⟩
theorem setAdd_of {prog : Program} {w : World} {A : Around} {E : Value → Shared → Prop} {s : Shared} {a : Addr} {S : Int → Bool} {n : Nat} {k : Int} {key : Value} {Q : Bool → Shared → Prop} (hkey : (intKind prog w).is k key = true) (hsc : key.scannable = true) (hS : s.heap.SetOf (intKind prog w) a S n) (hroom : n + 1 < scanBound)
    (h : ∀ h', Heap.SameBut a s.heap h' → h'.SetOf (intKind prog w) a (fun k' => S k' || decide (k' = k)) (if S k then n else n + 1) → Q (!S k) { s with heap := h', toks := s.toks + 1 }) :
    wpAny (model prog w) A (setAdd a key) Q E s := by
  unfold setAdd
  refine wpAny_holding ?_
  refine wpAny_bind ((intKind prog w).pyHash hkey ?_)
  exact wpAny_setAddHashed_of (s := { s with toks := s.toks + 1 }) hkey hsc hS hroom h
theorem main_mod {M : Model} {A : Around} {E : Value → Shared → Prop} {Q : Bool → Shared → Prop} {c : Addr} {o : Obj} {vs : _} (hc : env.code = .ref c) (ho : s.heap.get? c = some o) (hd : o.data = .fields vs) (h : ∀ b, Q b s) : wpAny M A (inMainModule env) Q E s := by
  unfold inMainModule
  try dsimp only
  rw [hc]
  split
  · exact wpAny_pure (h _)
  · refine wpAny_bind (wpAny_fieldsOf ho hd ?_)
    split
    · exact wpAny_bind (wpAny_askSetting (wpAny_pure (h _)))
    · exact wpAny_pure (h _)
theorem asg_set {i : Nat} {x : Str} {p q r cp : Pos} {Q : Flow → Shared → Prop} (S : StP F Hc M G env σ B s₀ s) (hx : F.nm[i]? = some x) (hst : storable F.sc x = true) (hg : F.sc.lookup ("set" : Str) = some .globalImplicit)
    (h : ∀ s' a, StP F Hc M G env (σ.set i (.fr (.ptr a))) B s₀ s' → Le (vis M s.heap) (vis M s'.heap) → a ∉ M → SetE F.X (gt s'.heap) a → Q .next s') :
    wpAny (Md F.X) A (exec (.Assign [.Name x p] (.Call (.Name "set" q) [] [] cp) r) env) Q E0 s := by
  refine wpAny_Assign_Name (wpAny_Call_NameR (ld_blt S.ev hg rfl (show (("set" : Str), Value.type "set") ∈ biL from by simp [biL]) ?_)) rfl
  refine PySem.callWith_type rfl (evalArgs_nil3 (call_set_0 fun led => ?_))
  obtain ⟨u1, u2, u3, u4, u5⟩ := S.unB (get_size s.heap)
  have k₁ : Kp s { s with heap := s.heap.push { cls := .type "set", dict := none, data := .set #[] 0 (.fresh 0 0 led) } } := Kp.of (t := s.toks) (rw_push s.heap _)
  refine (S.mono k₁ (Nat.le_refl _)).store2 (sl := .fr (.ptr s.heap.objs.size)) hx (storable_spec hst) (.inl ⟨_, rfl, .mkP⟩) (fun _ _ => rfl) fun s' S' k => h s' _ S' (Le.trans (vis_mono (kle k₁)) k) u3
    ⟨_, (vis_get (k _ _ (vis_of (gt_push_size S.ev.hb.ti rfl) u3))).1, setObjOf_fresh led⟩
theorem asg_dict {i : Nat} {x : Str} {p q r : Pos} {Q : Flow → Shared → Prop} (S : StP F Hc M G env σ B s₀ s) (hx : F.nm[i]? = some x) (hst : storable F.sc x = true)
    (h : ∀ s' a, StP F Hc M G env (σ.set i (.fr (.ptr a))) B s₀ s' → Le (vis M s.heap) (vis M s'.heap) → Q .next s') :
    wpAny (Md F.X) A (exec (.Assign [.Name x p] (.Dict [] [] q) r) env) Q E0 s := by
  refine wpAny_Assign_Name (wpAny_Dict_empty ?_) rfl
  have k₁ : Kp s { s with heap := s.heap.push { cls := .type "dict", data := .dict #[] } } := Kp.of (t := s.toks) (rw_push s.heap _)
  exact (S.mono k₁ (Nat.le_refl _)).store2 (sl := .fr (.ptr s.heap.objs.size)) hx (storable_spec hst) (.inl ⟨_, rfl, .mkP⟩) (fun _ _ => rfl) fun s' S' k => h s' _ S' (Le.trans (vis_mono (kle k₁)) k)
theorem asg_set1 {i : Nat} {x : Str} {p q r : Pos} {e : Expr} {n : Int} {c : Addr} {o : Obj} {vs : _} {Q : Flow → Shared → Prop} (S : StP F Hc M G env σ B s₀ s) (R : Rm F.k A) (he : EvS F σ e (.int n)) (hx : F.nm[i]? = some x) (hst : storable F.sc x = true)
    (hc : env.code = .ref c) (hoc : s.heap.get? c = some o) (hdc : o.data = .fields vs) (hns : PySem.W.kdsPlain e = true)
    (h : ∀ s' a, StP F (a :: Hc) M G env (σ.set i (.fr (.ptr a))) B s₀ s' → Le (vis M s.heap) (vis M s'.heap) → a ∉ M ∧ B a = none ∧ F.X.h0.get? a = none ∧ (gt s.heap) a = none ∧ (∀ x c, env.cells.lookup x = some c → c ≠ a) → Set1 F.X (gt s'.heap) a n → Q .next s') :
    wpAny (Md F.X) A (exec (.Assign [.Name x p] (.Set [e] 0 q) r) env) Q E0 s := by
  refine wpAny_Assign_Name ?_ rfl
  rw [arm_eval_Set]
  refine wpAny_bind (wpAny_standAt ?_)
  refine wpAny_bind (main_mod hc hoc hdc fun b => ?_)
  rw [PySem.W.kds_star [e] (by simp [hns])]
  refine PySem.W.kds_core (ts := (evalEach [e] env).map fun t => do let v ← t; standAt q; pure v) rfl rfl (Nat.le_of_ble_eq_true rfl) rfl fun led => ?_
  obtain ⟨u1, u2, u3, u4, u5⟩ := S.unB (get_size s.heap)
  have k₁ : Kp s { s with heap := s.heap.push { cls := .type "set", dict := none, data := .set #[] 0 (.fresh 0 0 led) } } := Kp.of (t := s.toks) (rw_push s.heap _)
  have g₁ := gt_push_size (o := { cls := .type "set", dict := none, data := .set #[] 0 (.fresh 0 0 led) }) S.ev.hb.ti rfl
  have S₁ := S.hide (get_size s.heap) k₁ (Nat.le_refl _) ⟨_, g₁⟩
  have nt := gt_tb g₁
  have hne := get_size s.heap
  generalize hA : s.heap.objs.size = a at *
  refine PySem.W.kds_all q [e] _ _ ?_
  show wpAny (Md F.X) A (eval e env) _ E0 _
  refine he.run S₁ R fun v s₂ g S₂ rv => ?_
  obtain ⟨t, rfl⟩ := rv.intI
  refine PySem.W.kds_fill_cons ?_
  have hS0 : s₂.heap.SetOf (intKind F.X.prog F.X.w) a (fun _ => false) 0 := (setObjOf_fresh led).setOf (gt_get (kle g.1 _ _ g₁)) (by decide)
  refine setAdd_of (k := n) (intKind_is _ _ _ _) rfl hS0 (by decide) fun h' hsb hS' => ?_
  refine PySem.W.kds_fill_nil rfl ?_
  obtain ⟨o', ho', hso'⟩ := hS'.objOf
  have hnc : ∀ o, s₂.heap.get? a = some o → NC o := fun o e => by
    rw [gt_get (kle g.1 _ _ g₁)] at e; cases e; exact nc_data fun _ q => nomatch q
  have S₃ := S₂.other (h' := h') (t := s₂.toks + 1) u3 (S₂.ev.hb.ti.same hsb hnc) (fun b o hb e => gt_of (hsb.extBut b o hb (gt_get e)) (gt_tb e)) ⟨_, gt_of ho' nt⟩ u1 u2 u5 (Nat.le_succ_of_le S₂.ev.tk)
  refine S₃.store2 (sl := .fr (.ptr a)) hx (storable_spec hst) (.inl ⟨_, rfl, .mkP⟩) (fun _ _ => rfl) fun s' S' k => h s' a S' ?_ ⟨u3, u1, u2, hne, u5⟩ ⟨o', _, (vis_get (k _ _ (vis_of (gt_of ho' nt) u3))).1, hso', fun k hk => by simpa using hk⟩
  intro b o e
  obtain ⟨e1, e2⟩ := vis_get e
  have hb : b ≠ a := fun q => by rw [q, hne] at e1; cases e1
  exact k _ _ (vis_of (gt_of (hsb.extBut b o hb (gt_get (kle g.1 _ _ (kle k₁ _ _ e1)))) (gt_tb e1)) e2)
theorem asg_pop {i j : Nat} {x y : Str} {p q ap u r : Pos} {a : Addr} {n : Int} {Q : Flow → Shared → Prop} (S : StP F (a :: Hc) M G env σ B s₀ s) (hx : F.nm[i]? = some x) (hst : storable F.sc x = true) (hy : F.nm[j]? = some y) (hs : σ[j]? = some (.fr (.ptr a)))
    (ha : a ∉ M ∧ B a = none ∧ F.X.h0.get? a = none ∧ (∀ x c, env.cells.lookup x = some c → c ≠ a)) (hS : Set1 F.X (gt s.heap) a n) (hl : (ap.endLine == q.line) = true)
    (h : ∀ s', StP F (a :: Hc) M G env (σ.set i (.fr (.int n))) B s₀ s' → (∀ b o, b ≠ a → b ∉ M → gt s.heap b = some o → gt s'.heap b = some o) → SetNo s'.heap a → Q .next s') :
    wpAny (Md F.X) A (exec (.Assign [.Name x p] (.Call (.Attribute (.Name y u) "pop" ap) [] [] q) r) env) Q E0 s := by
  obtain ⟨v, hv, hr⟩ := S.ev.vars j y _ hy hs
  cases hr.ptrI
  obtain ⟨o, Sf, ho, hso, hn⟩ := hS
  have hSO : s.heap.SetOf (intKind F.X.prog F.X.w) a Sf 1 := hso.setOf (gt_get ho) (by decide)
  have hnc : ∀ o, s.heap.get? a = some o → NC o := fun o' e => by
    rw [gt_get ho] at e; cases e; obtain ⟨_, _, _, _, hd, _⟩ := hso; exact nc_data fun _ q => nomatch hd.symm.trans q
  refine wpAny_Assign_Name (call_meth (fun _ _ _ => rfl) hl rfl (by decide) (ld_name S.ev hy hv fun pl => ?_)) rfl
  refine method_set_pop hSO (callWith_builtin rfl (evalArgs_nil3 (call_set_pop hSO fun k t h' d q1 hsb hno => ?_)))
  cases hn k q1
  obtain ⟨o', ep, tt, ho', hex, hd', hf⟩ := hno
  have hk : ∀ b o, b ≠ a → (gt s.heap) b = some o → (gt h') b = some o := fun b o hb e => gt_of (hsb.extBut b o hb (gt_get e)) (gt_tb e)
  have S₁ := (S.other (h' := h') (t := s.toks) ha.1 (S.ev.hb.ti.same hsb hnc) hk ⟨_, gt_of ho' (gt_tb ho)⟩ ha.2.1 ha.2.2.1 ha.2.2.2 S.ev.tk).mono (Kp.dr _ d) (Nat.le_refl _)
  refine S₁.store2 (sl := .fr (.int n)) hx (storable_spec hst) (.inl ⟨_, rfl, .mkI⟩) (fun _ _ => rfl) fun s' S' k => h s' S' (fun b o hb hM e => (vis_get (k _ _ (vis_of (hk b o hb e) hM))).1) ⟨o', ep, tt, gt_get (vis_get (k _ _ (vis_of (gt_of ho' (gt_tb ho)) ha.1))).1, hex, hd', hf⟩
theorem ts_setE {j : Nat} {y : Str} {p : Pos} {a : Addr} {H : List Addr} {Q : Bool → Shared → Prop} (S : EvSt F H G env σ s) (hy : F.nm[j]? = some y) (hs : σ[j]? = some (.fr (.ptr a))) (hS : SetNo s.heap a) (h : Q false { s with toks := s.toks + 1 + 1 }) : wpAny (Md F.X) A (isTrue (.Name y p) env (eval (.Name y p) env)) Q E0 s := by
  obtain ⟨v, hv, hr⟩ := S.vars j y _ hy hs
  cases hr.ptrI
  obtain ⟨o, ep, t, ho, hex, hd, hf⟩ := hS
  exact wpAny_isTrue_value (ld_name S hy hv (truthy_set ho hex hd hf (by decide) h))
theorem ts_set1 {j : Nat} {y : Str} {p : Pos} {a : Addr} {n : Int} {H : List Addr} {Q : Bool → Shared → Prop} (S : EvSt F H G env σ s) (hy : F.nm[j]? = some y) (hs : σ[j]? = some (.fr (.ptr a))) (hS : Set1 F.X (gt s.heap) a n) (h : Q true { s with toks := s.toks + 1 + 1 }) : wpAny (Md F.X) A (isTrue (.Name y p) env (eval (.Name y p) env)) Q E0 s := by
  obtain ⟨v, hv, hr⟩ := S.vars j y _ hy hs
  cases hr.ptrI
  obtain ⟨o, Sf, ho, ⟨hex, es, ep, t, hd, _, _, hn, hf⟩, _⟩ := hS
  refine wpAny_isTrue_value (ld_name S hy hv (truthy_set (gt_get ho) hex hd hf (by rw [hn]; decide) ?_))
  rw [hn]; exact h
theorem SetE.no {X : Cx} {h : Heap} {a : Addr} (x : SetE X (gt h) a) : SetNo h a := by
  obtain ⟨o, ho, hex, ⟨es⟩, ep, t, hd, _, _, hn, hf⟩ := x
  cases es with
  | nil => exact ⟨o, ep, t, gt_get ho, hex, hd, hf⟩
  | cons => cases hn
end
end Mine
end

section
open PySem PySem.Calls PyProof.Rows
set_option Elab.async false
set_option maxRecDepth 100000
namespace Mine
section
variable {F : Fx} {Hc M : List Addr} {G : Nat → Addr} {env : Env} {σ : List Sl} {B : Gt} {s₀ s : Shared} {A : Around}
theorem while_once {X : Cx} {t : Expr} {b : List Stmt} {p : Pos} {Q : Flow → Shared → Prop} (I1 I0 : Shared → Prop)
    (h1 : ∀ s, I1 s → wpAny (Md X) A (isTrue t env (eval t env)) (fun c s' => c = true ∧ wpAny (Md X) A (execs b env) (fun f s'' => f = .cont ∧ I0 s'') E0 s') E0 s)
    (h0 : ∀ s, I0 s → wpAny (Md X) A (isTrue t env (eval t env)) (fun c s' => c = false ∧ Q .next s') E0 s) (h : I1 s) : wpAny (Md X) A (exec (.While t b [] p) env) Q E0 s := by
  refine wpAny_While ?_
  refine codeAny_whileLoop (fun j s => (j = 1 ∧ I1 s) ∨ (j = 0 ∧ I0 s)) (fun j s hI => ?_) 1 (.inl ⟨rfl, h⟩)
  rcases hI with ⟨rfl, h⟩ | ⟨rfl, h⟩
  · refine wpAny_mono (h1 s h) (fun c s' q => ?_) fun _ _ e => e.elim
    obtain ⟨rfl, q⟩ := q
    simp only [if_true]
    exact wpAny_mono q (fun f s'' q => by obtain ⟨rfl, q⟩ := q; exact ⟨0, Nat.zero_lt_one, .inr ⟨rfl, q⟩⟩) fun _ _ e => e.elim
  · refine wpAny_mono (h0 s h) (fun c s' q => ?_) fun _ _ e => e.elim
    obtain ⟨rfl, q⟩ := q
    simp only [Bool.false_eq_true, if_false]
    exact wpAny_execs_nil q
theorem ts_inE {l : Expr} {j : Nat} {y : Str} {p q : Pos} {a : Addr} {n : Int} {H : List Addr} {Q : Bool → Shared → Prop} (S : EvSt F H G env σ s) (R : Rm F.k A) (hl : EvS F σ l (.int n)) (hy : F.nm[j]? = some y) (hs : σ[j]? = some (.fr (.ptr a))) (hS : SetE F.X (gt s.heap) a)
    (h : ∀ s', Gr s s' → Q false s') : wpAny (Md F.X) A (isTrue (.Compare l [.In] [.Name y q] p) env (eval (.Compare l [.In] [.Name y q] p) env)) Q E0 s := by
  refine wpAny_isTrue_Compare1 (hl.go S R fun va s₁ g S₁ ra => ?_) rfl
  obtain ⟨t, rfl⟩ := ra.intI
  obtain ⟨v, hv, hr⟩ := S₁.vars j y _ hy hs
  cases hr.ptrI
  obtain ⟨o, ho, hso⟩ := hS
  refine ld_name S₁ hy hv ?_
  refine wpAny_inSet_of (knd := intKind F.X.prog F.X.w) (k := n) (intKind_is _ _ _ _) rfl (hso.setOf (gt_get (kle g.1 _ _ ho)) (by decide)) (wpAny_truthy_bool (h _ ?_))
  exact g.tr ⟨Kp.tok _ _, Nat.le_succ _⟩
end
noncomputable abbrev psPow : List Str := ["w", "base", "more_than", "show"]
noncomputable abbrev nmPow : List Str := ["w", "base", "more_than", "show", "seen", "need", "ws", "d"]
structure FnP (X : Cx) (n : Str) (a : Addr) : Prop where
  g : GFn X n a
  f : ∃ fd, FnAt0 X a fd bdPow ∧ fd.scope.names = nnPow ∧ ∀ (vals : List Value) (s : Shared), vals.length = 3 → Le X.h0.get? (gt s.heap) → BindsTo s fd ⟨vals, []⟩ (psPow.zip (vals ++ [.bool false]))
theorem ct_pow {X : Cx} (W : Wd X) {a : Addr} (Z : FnP X "compute_powers" a) {n : Int} (hn : n ≤ 2048) : CtG X 1 a [.int n, .int 5, .int 2048] (fun d => ∃ b, d = .ptr b) := by
  obtain ⟨fd, Z0, hns, hb⟩ := Z.f
  refine fn_coreG (F := ⟨X, 0, nmPow, nnPow, []⟩) (ps := psPow) (rest := ["seen", "need", "ws", "d"]) (ds := [.int n, .int 5, .int 2048]) (ds' := [.int n, .int 5, .int 2048, .bool false]) (dd := [.bool false]) (dv := [.bool false]) W Z0 rfl (fun _ _ => .mkC .mkB .mkN) hb hns.symm rfl rfl (by rw [hns]; kernel_rfl) rfl ?_
  intro L Hc M G B s₀ s A S R
  obtain ⟨c, oc, vs, u, hc, e1, e2, e3⟩ := Z0.cd
  refine wpAny_execs_cons (asg_set (i := 4) S rfl rfl (by kernel_rfl) fun s1 a1 S1 k1 m1 z1 => ?_)
  refine wpAny_execs_cons (asg_set (i := 5) S1 rfl rfl (by kernel_rfl) fun s2 a2 S2 k2 m2 z2 => ?_)
  refine wpAny_execs_cons (asg_set1 (i := 6) S2 R (ev_name (i := 0) rfl rfl) rfl rfl hc (gt_get (S2.ev.w0 _ _ e1)) e2 rfl fun s3 a3 S3 k3 u3 z3 => ?_)
  obtain ⟨n3, b3, h3, f3, c3⟩ := u3
  have z1 : SetE X (gt s2.heap) a1 := z1.keep fun o e => (vis_get (k2 _ _ (vis_of e m1))).1
  have d1 : a1 ≠ a3 := fun q => by obtain ⟨o, e, _⟩ := z1; rw [q, f3] at e; cases e
  have d2 : a2 ≠ a3 := fun q => by obtain ⟨o, e, _⟩ := z2; rw [q, f3] at e; cases e
  have z1 : SetE X (gt s3.heap) a1 := z1.keep fun o e => (vis_get (k3 _ _ (vis_of e m1))).1
  have z2 : SetE X (gt s3.heap) a2 := z2.keep fun o e => (vis_get (k3 _ _ (vis_of e m2))).1
  refine wpAny_execs_cons (while_once
    (fun s => StP ⟨X, 0, nmPow, nnPow, []⟩ (a3 :: Hc) M G (callEnvC fd L a) [.fr (.int n), .fr (.int 5), .fr (.int 2048), .fr (.bool false), .fr (.ptr a1), .fr (.ptr a2), .fr (.ptr a3), .un] B s₀ s ∧ SetE X (gt s.heap) a1 ∧ SetE X (gt s.heap) a2 ∧ Set1 X (gt s.heap) a3 n)
    (fun s => StP ⟨X, 0, nmPow, nnPow, []⟩ (a3 :: Hc) M G (callEnvC fd L a) [.fr (.int n), .fr (.int 5), .fr (.int 2048), .fr (.bool false), .fr (.ptr a1), .fr (.ptr a2), .fr (.ptr a3), .un] B s₀ s ∧ SetE X (gt s.heap) a2 ∧ SetNo s.heap a3)
    (fun s ⟨S, z1, z2, z3⟩ => ?_) (fun s ⟨S, z2, z3⟩ => ?_) ⟨S3, z1, z2, z3⟩)
  · obtain ⟨_, _, e3', _⟩ := id z3
    refine ts_set1 (F := ⟨X, 0, nmPow, nnPow, []⟩) (j := 6) S.ev rfl rfl z3 ⟨rfl, ?_⟩
    have S := S.mono (Kp.tok s (s.toks + 1 + 1)) (Nat.le_add_right _ 2)
    refine wpAny_execs_cons (asg_pop (i := 0) (j := 6) S rfl rfl rfl rfl ⟨n3, b3, h3, c3⟩ z3 rfl fun s' S' k' z3' => ?_)
    have z1 : SetE X (gt s'.heap) a1 := z1.keep fun o e => k' _ _ d1 m1 e
    have z2 : SetE X (gt s'.heap) a2 := z2.keep fun o e => k' _ _ d2 m2 e
    refine wpAny_execs_cons (wpAny_If (wpAny_isTrue_BoolOp (wpAny_allTrue_Or_cons (ts_inE (F := ⟨X, 0, nmPow, nnPow, []⟩) (j := 4) S'.ev R (ev_name (i := 0) rfl rfl) rfl rfl z1 fun s4 g4 => ?_))))
    have S4 := S'.mono g4.1 g4.2
    refine wpAny_allTrue_Or_cons ((TsS.cast (ts_cmp (F := ⟨X, 0, nmPow, nnPow, []⟩) (ev_name (i := 0) rfl rfl) (ev_name (i := 2) rfl rfl) cLe) (show _ = true by simp; omega)).run S4 R fun s5 g5 S5 => ?_)
    simp only [if_true]
    refine wpAny_execs_cons (wpAny_Continue ⟨rfl, S5, z2.keep fun o e => kle g5.1 _ _ (kle g4.1 _ _ e), ?_⟩)
    obtain ⟨o, ep, t, q1, q2⟩ := z3'
    exact ⟨o, ep, t, gt_get (kle g5.1 _ _ (kle g4.1 _ _ (gt_of q1 (gt_tb e3')))), q2⟩
  · refine ts_setE (F := ⟨X, 0, nmPow, nnPow, []⟩) (j := 6) S.ev rfl rfl z3 ⟨rfl, ?_⟩
    have S := S.mono (Kp.tok s (s.toks + 1 + 1)) (Nat.le_add_right _ 2)
    refine wpAny_execs_cons (asg_dict (i := 7) S rfl rfl fun s4 a4 S4 k4 => ?_)
    have z2 : SetE X (gt s4.heap) a2 := z2.keep fun o e => (vis_get (k4 _ _ (vis_of e m2))).1
    refine wpAny_execs_cons (wpAny_If (wpAny_isTrue_Not (ts_setE (F := ⟨X, 0, nmPow, nnPow, []⟩) (j := 5) S4.ev rfl rfl z2.no ?_)))
    simp only [Bool.not_false, if_true]
    have S5 := S4.mono (Kp.tok s4 (s4.toks + 1 + 1)) (Nat.le_add_right _ 2)
    refine wpAny_execs_cons (wpAny_Return_some ((ev_name (F := ⟨X, 0, nmPow, nnPow, []⟩) (i := 7) rfl rfl).run S5 R fun v s6 g6 S6 r => ?_))
    exact ⟨.ptr a4, ⟨a4, rfl⟩, _, v, rfl, r.mono (vis_sub _ fun b q => List.mem_append_right _ (.tail _ q)), M, G, S6.unhide⟩
end Mine
end

section
open PySem PySem.Calls PyProof.Rows
set_option Elab.async false
set_option maxRecDepth 100000
namespace Mine
section
variable {F : Fx} {Hc M : List Addr} {G : Nat → Addr} {env : Env} {σ : List Sl} {B : Gt} {s₀ s : Shared} {A : Around}
theorem asg_callG {i : Nat} {x n : Str} {a : Addr} {y : Expr} {ys : List Expr} {p q r cp : Pos} {ds : List D} {Q : Flow → Shared → Prop} (S : StP F Hc M G env σ B s₀ s) (R : Rm F.k A) (hf : GFn F.X n a) (he : EvSs F σ (y :: ys) ds) (C : CtG F.X F.k a ds (fun d => ∃ b, d = .ptr b))
    (hg : F.sc.lookup n = some .globalImplicit) (hx : F.nm[i]? = some x) (hst : storable F.sc x = true) (hd : (n == ("__debug__" : Str)) = false)
    (h : ∀ s' b, StP F Hc M G env (σ.set i (.fr (.ptr b))) B s₀ s' → Le (vis M s.heap) (vis M s'.heap) → (∀ cd q, s.heap.CodeRec cd q → s'.heap.CodeRec cd q) → Q .next s') :
    wpAny (Md F.X) A (exec (.Assign [.Name x p] (.Call (.Name n q) (y :: ys) [] cp) r) env) Q E0 s := by
  obtain ⟨hm, o, fd, ho, hd'⟩ := hf
  refine wpAny_Assign_Name (wpAny_Call_NameR (ld_glob S.ev hg hd hm ?_)) rfl
  refine callWith_function_kw (o := o) (fd := fd) (args_ev he S.ev R fun vs s₁ g S₁ r => ⟨⟨gt_get (S₁.w0 _ _ ho), hd'⟩, ?_⟩)
  refine nx (C A s₁ _ vs R S₁.w0 S₁.hb S₁.tk r) fun v s₂ g₂ q => ?_
  obtain ⟨_, ⟨b, rfl⟩, rv⟩ := q
  cases rv.ptrI
  have S₂ := S.mono (g.tr g₂).1 (g.tr g₂).2
  refine S₂.rebase.store (sl := .fr (.ptr b)) hx (storable_spec hst) (.inl ⟨_, rfl, .mkP⟩) (fun _ _ => rfl) fun s₃ S₃ hc => ?_
  obtain ⟨ac, hsame, hnc⟩ := hc
  refine h s₃ b (S₃.base S₂.kp) (Le.trans (vis_mono (kle (g.tr g₂).1)) S₃.kp) fun cd q x => ?_
  obtain ⟨c, o, vs, u, rfl, e1, e2, e3⟩ := codeRec_re (X := F.X) S.ev.hb.ti x
  have e1 : gt s.heap c = some o := (congrFun (gho_get _) _).symm.trans e1
  have e1 := gt_get (kle (g.tr g₂).1 _ _ e1)
  have hne : c ≠ ac := by
    rintro rfl
    rcases hnc o e1 with q | ⟨q1, q2⟩
    · exact q vs e2
    · exact q2 vs e2 _ _ e3
  exact ⟨c, o, vs, u, rfl, hsame.extBut c o hne e1, e2, e3⟩
end
section
variable {F : Fx} {σ : List Sl}
theorem ev_callL {i : Nat} {x : Str} {a : Addr} {p q : Pos} {e : Expr} {es : List Expr} {d : D} {ds : List D} (hx : F.nm[i]? = some x) (hs : σ[i]? = some (.fr (.ptr a))) (hf : ∃ o fd, F.X.h0.get? a = some o ∧ o.data = .func fd)
    (he : EvSs F σ (e :: es) ds) (C : Ct F.X F.k a ds d) : EvS F σ (.Call (.Name x p) (e :: es) [] q) d := fun H G env s A S R => by
  obtain ⟨u, hv, hr⟩ := S.vars i x _ hx hs
  cases hr.ptrI
  obtain ⟨o, fd, ho, hd⟩ := hf
  refine wpAny_Call_NameR (ld_name S hx hv ?_)
  exact callWith_function_kw (o := o) (fd := fd) (args_ev he S R fun vs s₁ g S₁ r => ⟨⟨gt_get (S₁.w0 _ _ ho), hd⟩, after g.1 (C A s₁ H vs R S₁.w0 S₁.hb S₁.tk r)⟩)
end
theorem num_rs {v : Int} {bl : Nat} (hv : 0 ≤ v ∧ v ≤ 9999) : (rsD (numT v bl)).length ≤ (numT v bl).length := by
  obtain ⟨h1, h2, _⟩ := intText_dig hv
  have : rsD (numT v bl) = joinD [95, 95] (intText v) := rs_num _ _ (joinD_ne h2) fun c hc => by
    rcases joinD_mem _ _ _ hc with q | q
    · exact .inl (h1 c q)
    · exact .inr (by simpa using q)
  rw [this]
  simp [numT]
noncomputable abbrev psStrI : List Str := ["a", "b"]
noncomputable abbrev nmStrI : List Str := ["a", "b", "DIGLIM", "s"]
structure InnS (X : Cx) (a : Addr) (cl : List (Str × Addr)) (cd cs : Addr) (T : List Nat) : Prop where
  f : ∃ fd, FnAtC X a fd bdStrI psStrI cl ∧ fd.scope.names = nnStrI
  l1 : cl.lookup ("DIGLIM" : Str) = some cd
  l3 : cl.lookup ("s" : Str) = some cs
  cu : ∀ p ∈ cl, cl.lookup p.1 = some p.2 ∧ nnStrI.lookup p.1 = some .free
  ij : ∀ x y c, cl.lookup x = some c → cl.lookup y = some c → x = y
  all : ∀ x c, cl.lookup x = some c → ∃ v, CellH X c v
  h1 : ∃ t, CellH X cd (.int 2048 t)
  h3 : ∃ t, CellH X cs (.str ⟨T.toArray⟩ t)
theorem str_in {X : Cx} (W : Wd X) {a : Addr} {cl : List (Str × Addr)} {cd cs : Addr} {T : List Nat} {n : Int} (I : InnS X a cl cd cs T) (hn : PySem.intText? ⟨T.toArray⟩ = some n) (hl : T.length ≤ 640) :
    Ct X 1 a [.int ((0 : Nat) : Int), .int (T.length : Nat)] (.int n) := by
  intro A s H vals R w0 HB tk hvals
  obtain ⟨fd, Z, hns⟩ := I.f
  obtain ⟨t1, h1⟩ := I.h1
  obtain ⟨t3, h3⟩ := I.h3
  have hT : (T.drop 0).take (T.length - 0) = T := by simp
  refine fn_runC (F := ⟨X, 0, nmStrI, nnStrI, cl⟩) (σ' := [.fr (.int ((0 : Nat) : Int)), .fr (.int (T.length : Nat)), .fr (.int 2048), .fr (.str T)]) (rest := []) (fv := ["DIGLIM", "s"]) (σf := [.fr (.int 2048), .fr (.str T)]) (ds := [.int ((0 : Nat) : Int), .int (T.length : Nat)]) (d := .int n) W Z hns.symm rfl rfl (show nmStrI.Nodup from by decide +kernel) (show ∀ x ∈ nmStrI, (x == ("__debug__" : Str)) = false ∧ (x == ("__classdict__" : Str)) = false from by decide +kernel) rfl R w0 HB tk hvals rfl (by rw [hns]; exact I.cu) I.ij
    (fun x c e => let ⟨v, h⟩ := I.all x c e; ⟨_, h.now w0⟩)
    (fun j x sl e1 e2 => by
      rw [hns]
      match j, e1, e2 with
      | 0, e1, e2 => cases e1; cases e2; exact ⟨by kernel_rfl, cd, _, I.l1, h1.now w0, _, rfl, .mkI⟩
      | 1, e1, e2 => cases e1; cases e2; exact ⟨by kernel_rfl, cs, _, I.l3, h3.now w0, _, rfl, .mkS⟩
      | j + 2, e1, e2 => cases e1) ?_
  have hlid : T.length ≤ strLid := by have : strLid = 100000 := rfl; omega
  exact exs_ret (ex_ifT (TsS.cast (ts_cmp (ev_bin (ev_name (i := 1) rfl rfl) (ev_name (i := 0) rfl rfl) bSub) (ev_name (i := 2) rfl rfl) cLe) (by simp; omega)) (exs_ret (ex_ret (ev_bi (n := "int") (f := .type "int") (by simp [biL]) (es_cons (EvS.cast (ev_cutStr (xs := T) (lo := 0) (hi := T.length) (ev_name (i := 3) rfl rfl) (ev_name (i := 0) rfl rfl) (ev_name (i := 1) rfl rfl) (Nat.zero_le _) (Nat.le_refl _) hlid) (congrArg D.str hT)) es_nil) (biIntT hn hl) (by kernel_rfl) (.inr ⟨_, rfl⟩)))))
noncomputable abbrev psStr : List Str := ["s"]
noncomputable abbrev nmStr : List Str := ["s", "DIGLIM", "inner", "w5pow"]
theorem ct_str {X : Cx} (W : Wd X) {a ap : Addr} (Z : FnD X "_str_to_int_inner" a bdStr psStr nnStr 35 "_str_to_int_inner") (Zp : FnP X "compute_powers" ap) {T : List Nat} {n : Int} (hn : PySem.intText? ⟨T.toArray⟩ = some n) (hl : T.length ≤ 640) : Ct X 2 a [.str T] (.int n) := by
  refine fn_ctD (nm := nmStr) ["DIGLIM", "inner", "w5pow"] W Z.f 1 (by decide) rfl (by kernel_rfl) rfl ?_
  intro Hc M G env B s₀ s A hcode hqual hkind S R
  have hlid : T.length ≤ strLid := by have : strLid = 100000 := rfl; omega
  have hfree : ∀ y ∈ nnStrI, y.2 = .free → nnStr.lookup y.1 = some .cell := by decide +kernel
  refine wpAny_execs_cons (wpAny_mono ((ex_asg (F := ⟨X, 1, nmStr, nnStr, []⟩) (i := 1) rfl ev_int) _ _ _ _ _ _ _ _ S R) (fun f s1 h1 => ?_) fun _ _ e => e)
  obtain ⟨rfl, M, G, S⟩ := h1
  refine wpAny_execs_cons (def_run (i := 2) (t := ⟨35, 31, ⟨49, 4, 53, 74⟩, "_str_to_int_inner.<locals>.inner"⟩) S (.head _) hcode ?_ rfl (by kernel_rfl) rfl rfl rfl hfree ?_)
  · unfold qualnameIn
    rw [hqual, hkind, if_neg (by decide +kernel)]
    kernel_rfl
  intro s' a' fd' S' hM hH hob hrec hfd
  refine wpAny_execs_cons (asg_callG (i := 3) S' R Zp.g (es_cons (ev_bi (n := "len") (f := .builtin "len") (.head _) (es_cons (ev_name (i := 0) rfl rfl) es_nil) (by first | exact biLen (by first | assumption | omega | (constructor <;> omega) | (simp only [List.length_append, List.length_cons, List.length_nil]; omega) | (simp; done) | (simp; omega)) | exact biLenS (by first | assumption | omega | (constructor <;> omega) | (simp only [List.length_append, List.length_cons, List.length_nil]; omega) | (simp; done) | (simp; omega))) (by kernel_rfl) (.inl ⟨_, rfl⟩)) (es_cons ev_int (es_cons (ev_name (i := 1) rfl rfl) es_nil))) (ct_pow W Zp (by omega)) (by kernel_rfl) rfl (by kernel_rfl) rfl fun s'' b S'' k'' hcr => ?_)
  have hob : ∃ o, gt s''.heap a' = some o ∧ o.data = .func fd' := let ⟨o, e, q⟩ := hob; ⟨o, (vis_get (k'' _ _ (vis_of e hM))).1, q⟩
  have hrec := hcr _ _ hrec
  obtain ⟨c1, v, hc1, hv1, hr1⟩ := slot_cell S''.ev (i := 1) (x := "DIGLIM") (d := .int 2048) rfl rfl (by kernel_rfl)
  obtain ⟨c3, v3, hc3, hv3, hr3⟩ := slot_cell S''.ev (i := 0) (x := "s") (d := .str T) rfl rfl (by kernel_rfl)
  obtain ⟨t1, rfl⟩ := hr1.intI
  obtain ⟨t3, rfl⟩ := hr3.strI
  obtain ⟨c2, v2, hc2, hv2, hr2⟩ := slot_cell S''.ev (i := 2) (x := "inner") (d := .ptr a') rfl rfl (by kernel_rfl)
  obtain ⟨c4, v4, hc4, hv4, hr4⟩ := slot_cell S''.ev (i := 3) (x := "w5pow") (d := .ptr b) rfl rfl (by kernel_rfl)
  have Z' := fnAtC_re (X := X) (ps := psStrI) S''.ev.hb.ti hob hrec hfd (bind_two (fun _ _ _ _ _ _ => by kernel_rfl)) rfl rfl rfl (show ∀ x ∈ nnStrI, x.2 ≠ .cell from by decide +kernel) (show ∀ x ∈ psStrI, nnStrI.lookup x = some .local from by decide +kernel) (show psStrI.Nodup from by decide +kernel)
  have hm1 : (("DIGLIM" : Str), NameKind.free) ∈ nnStrI := by decide +kernel
  have hm3 : (("s" : Str), NameKind.free) ∈ nnStrI := by decide +kernel
  have hfe : ∀ y, (y, NameKind.free) ∈ nnStrI → ∃ c, env.cells.lookup y = some c := fun y hy => (S''.ev.ck y (hfree _ hy rfl)).2
  have I : InnS (X.re s''.heap) a' (closL env.cells nnStrI []) c1 c3 T := by
    refine ⟨⟨fd', Z', ?_⟩, clos_get _ _ hm1 hc1, clos_get _ _ hm3 hc3, clos_cu _ _ (by decide +kernel), fun x y c h1 h2 => ?_, fun x c h => ?_, ⟨t1, cell_re hv1⟩, ⟨t3, cell_re hv3⟩⟩
    · obtain ⟨_, _, _, _, rfl⟩ := hfd; rfl
    · exact S''.ci x y c (clos_inv _ _ hfe h1).2 (clos_inv _ _ hfe h2).2
    · obtain ⟨h1, h2⟩ := clos_inv _ _ hfe h
      have key : ∀ p ∈ nnStrI, p.2 = .free → p.1 = "DIGLIM" ∨ p.1 = "inner" ∨ p.1 = "s" ∨ p.1 = "w5pow" := by decide +kernel
      rcases key _ h1 rfl with q | q | q | q <;> dsimp only at q <;> subst q
      · rw [hc1] at h2; cases h2; exact ⟨_, cell_re hv1⟩
      · rw [hc2] at h2; cases h2; exact ⟨_, cell_re hv2⟩
      · rw [hc3] at h2; cases h2; exact ⟨_, cell_re hv3⟩
      · rw [hc4] at h2; cases h2; exact ⟨_, cell_re hv4⟩
  have W' : Wd (X.re s''.heap) := W.re S''.ev.w0
  have fin : ∀ {e : Expr} {p : Pos}, EvS ⟨X.re s''.heap, 1, nmStr, nnStr, []⟩ [.fr (.str T), .fr (.int 2048), .fr (.ptr a'), .fr (.ptr b)] e (.int n) →
      wpAny (Md X) A (execs [.Return (some e) p] env) (fun f s3 => ∃ σ', Fi ⟨X, 1, nmStr, nnStr, []⟩ Hc env B s₀ (.rt (.int n)) σ' f s3) E0 s'' := fun h =>
    wpAny_execs_cons (wpAny_Return_some (h.go S''.ev.re R fun v s₁ g S₁ r => ⟨_, v, rfl, r.mono (vis_sub _ fun a q => List.mem_append_right _ q), _, _, S''.mono g.1 g.2⟩))
  refine fin ?_
  have C := str_in W' I hn hl
  exact ev_callL (i := 2) rfl rfl (let ⟨o, e, q⟩ := Z'.ob; ⟨o, fd', e, q⟩) (es_cons ev_int (es_cons (ev_bi (n := "len") (f := .builtin "len") (.head _) (es_cons (ev_name (i := 0) rfl rfl) es_nil) (by first | exact biLen (by first | assumption | omega | (constructor <;> omega) | (simp only [List.length_append, List.length_cons, List.length_nil]; omega) | (simp; done) | (simp; omega)) | exact biLenS (by first | assumption | omega | (constructor <;> omega) | (simp only [List.length_append, List.length_cons, List.length_nil]; omega) | (simp; done) | (simp; omega))) (by kernel_rfl) (.inl ⟨_, rfl⟩)) es_nil)) C
noncomputable abbrev psIfs : List Str := ["s"]
theorem ct_ifs {X : Cx} (W : Wd X) {a as ap : Addr} (Z : FnR X "int_from_string" a bdIfs psIfs nnIfs) (Zs : FnD X "_str_to_int_inner" as bdStr psStr nnStr 35 "_str_to_int_inner") (Zp : FnP X "compute_powers" ap) {v : Int} {bl : Nat} (hv : 0 ≤ v ∧ v ≤ 9999) (hb : bl ≤ 3) :
    Ct X 3 a [.str (numT v bl)] (.int v) := by
  obtain ⟨d1, d2, d3⟩ := intText_dig hv
  have hlen := numT_len hv hb
  have hl2 := intText_len hv
  have e : strLid = 100000 := rfl
  refine fn_ct [] W Z.f 2 (by decide) rfl (by kernel_rfl) rfl (exs_cons (ex_asg (i := 0) rfl (EvS.cast (ev_strike (c := 95) (ev_rstrip (ev_name (i := 0) rfl rfl) (by omega)) ?_) (congrArg D.str (num_strip hv)))) (exs_ret (ex_ret (ev_call Zs.g (es_cons (ev_name (i := 0) rfl rfl) es_nil) (ct_str W Zs Zp d3 (by omega)) (by kernel_rfl)))))
  have := num_rs (bl := bl) hv
  omega
end Mine
end

section
open PySem PySem.Calls PyProof.Rows
set_option Elab.async false
set_option maxRecDepth 100000
namespace Mine
/-- the callers' frames -/
noncomputable abbrev frs (l : List Env) : List Addr := l.filterMap (·.frame)
noncomputable def FrOk (X : Cx) (l : List Env) (H : List Addr) (h : Heap) : Prop := ∀ e ∈ l, e.scope.kind ≠ .module ∧ ∃ L o, e.frame = some L ∧ L ∈ H ∧ X.h0.get? L = none ∧ gt h L = some o ∧ ∃ es ep, o.data = .dict es ep
/-- all but the frames' own dicts stands; those, but for their slots -/
structure Kf (Fr : List Addr) (s s' : Shared) : Prop where
  sh : ∃ h t d, s' = { s with heap := h, toks := t, drawn := d }
  ti : TI s.heap → TI s'.heap
  st : ∀ b o, gt s.heap b = some o → b ∉ Fr → gt s'.heap b = some o
  fr : ∀ b o, gt s.heap b = some o → b ∈ Fr → ∃ sl, gt s'.heap b = some { o with slots := sl }
  tk : s.toks ≤ s'.toks
theorem Kf.of {Fr : List Addr} {s s' : Shared} (k : Kp s s') (t : s.toks ≤ s'.toks) : Kf Fr s s' :=
  ⟨let ⟨h, t, d, e, _⟩ := k; ⟨h, t, d, e⟩, k.ti, fun b o e _ => kle k b o e, fun b o e _ => ⟨o.slots, kle k b o e⟩, t⟩
theorem Kf.trans {Fr : List Addr} {a b c : Shared} (x : Kf Fr a b) (y : Kf Fr b c) : Kf Fr a c := by
  refine ⟨?_, fun h => y.ti (x.ti h), fun p o e n => y.st _ _ (x.st _ _ e n) n, fun p o e n => ?_, Nat.le_trans x.tk y.tk⟩
  · obtain ⟨h, t, d, rfl⟩ := x.sh; obtain ⟨h', t', d', rfl⟩ := y.sh; exact ⟨h', t', d', rfl⟩
  · obtain ⟨sl, e1⟩ := x.fr _ _ e n; obtain ⟨sl', e2⟩ := y.fr _ _ e1 n; exact ⟨sl', e2⟩
theorem FrOk.kf {X : Cx} {l : List Env} {H H' : List Addr} {s s' : Shared} {Fr : List Addr} (x : FrOk X l H s.heap) (k : Kf Fr s s') (hH : ∀ a ∈ H, a ∈ H') : FrOk X l H' s'.heap := fun e he => by
  obtain ⟨h1, L, o, h2, h3, h4, h5, es, ep, h6⟩ := x e he
  refine ⟨h1, L, ?_⟩
  by_cases q : L ∈ Fr
  · obtain ⟨sl, e1⟩ := k.fr _ _ h5 q; exact ⟨_, h2, hH _ h3, h4, e1, es, ep, h6⟩
  · exact ⟨_, h2, hH _ h3, h4, k.st _ _ h5 q, es, ep, h6⟩
theorem FrOk.fn {X : Cx} {l : List Env} {H : List Addr} {h g : Heap} {Fr : List Addr} (x : FrOk X l H h) (hF : ∀ a ∈ frs l, a ∈ Fr) : h.FunFrames (PySem.W.hideAll g Fr) l := by
  induction l with
  | nil => trivial
  | cons e r ih =>
    obtain ⟨h1, L, o, h2, h3, h4, h5, es, ep, h6⟩ := x e (.head _)
    exact ⟨h1, ⟨L, o, h2, PySem.W.hideAll_none _ (hF L (by simp [frs, h2])), gt_get h5, fun vs q => nomatch h6.symm.trans q⟩, ih (fun e he => x e (.tail _ he)) fun a ha => hF a (by
      unfold frs at ha ⊢
      rw [List.filterMap_cons, h2]; exact .tail _ ha)⟩
theorem FrOk.mem {X : Cx} {l : List Env} {H : List Addr} {h : Heap} (x : FrOk X l H h) {a : Addr} (ha : a ∈ frs l) : a ∈ H ∧ X.h0.get? a = none ∧ ∃ o, gt h a = some o ∧ ∃ es ep, o.data = .dict es ep := by
  obtain ⟨e, he, hf⟩ := List.mem_filterMap.mp ha
  obtain ⟨_, L, o, h2, h3, h4, h5, h6⟩ := x e he
  rw [h2] at hf; cases hf
  exact ⟨h3, h4, o, h5, h6⟩
theorem TI.hide {h : Heap} {Fr : List Addr} (x : TI h) (n : ∀ a ∈ Fr, ∀ o, h.get? a = some o → NC o) : TI (PySem.W.hideAll h Fr) := by
  have y : ∀ t ∈ tabL, TabOk (PySem.W.hideAll h Fr) t := fun t ht => by
    obtain ⟨ps, e, h2, hc⟩ := x.1 t ht
    have hP : t.P ∉ Fr := fun q => by
      rcases n _ q _ e with z | z
      · exact z ps rfl
      · exact z.1 rfl
    refine ⟨ps, PySem.W.hideAll_get _ e hP, h2, hc.imp id fun ⟨c, q, o, vs, u, e1, e2, e3⟩ => ⟨c, q, o, vs, u, PySem.W.hideAll_get _ e1 (fun z => ?_), e2, e3⟩⟩
    rcases n _ z _ e1 with y | y
    · exact y vs e2
    · exact y.2 vs e2 _ _ e3
  refine ⟨y, fun a ha => ?_⟩
  have hmem : ∃ r ∈ tabL, r.P = a := by clear x y; revert a; decide
  obtain ⟨r, hr, rfl⟩ := hmem
  obtain ⟨ps, e, _⟩ := y r hr
  exact Heap.lt_size e
/-- an exception on its way -/
structure Flew (l : List Env) (T : String) (s s' : Shared) (e : Value) (ae : Addr) (a0 : Value) (base : Heap) : Prop where
  e : e = .ref ae
  sh : ∃ h t d, s' = { s with heap := h, toks := t, drawn := d }
  ti : TI base
  st : ∀ b o, gt s.heap b = some o → b ∉ frs l → base.get? b = some o
  fr : ∀ b o, gt s.heap b = some o → b ∈ frs l → ∃ sl, gt s'.heap b = some { o with slots := sl }
  fl : Heap.FlyingW base l ae (.type T) a0 s'.heap
  tk : s.toks ≤ s'.toks
noncomputable def CtR (X : Cx) (k : Nat) (a : Addr) (ds : List D) (T : String) : Prop := ∀ A s H vals l, Rm k A → A.frames = some l → FrOk X l H s.heap → Le X.h0.get? (gt s.heap) → HBd H s.heap → 1 ≤ s.toks → Reps X.C (vis H s.heap) ds vals →
  wpAny (Md X) A (call (.ref a) vals) (fun _ _ => False) (fun e s' => ∃ ae a0 base, Flew l T s s' e ae a0 base) s
noncomputable def CtF (X : Cx) (k : Nat) (a : Addr) (ds : List D) (d : D) : Prop := ∀ A s H vals l, Rm k A → A.frames = some l → FrOk X l H s.heap → Le X.h0.get? (gt s.heap) → HBd H s.heap → 1 ≤ s.toks → Reps X.C (vis H s.heap) ds vals →
  wpAny (Md X) A (call (.ref a) vals) (fun v s' => Kf (frs l) s s' ∧ Rep X.C (vis H s'.heap) d v) E0 s
section
variable {F : Fx} {H : List Addr} {G : Nat → Addr} {env : Env} {σ : List Sl} {s : Shared} {A : Around}
theorem ld_exc (S : EvSt F H G env σ s) {x : Str} {v : Value} {p : Pos} {Q : Value → Shared → Prop} {E : Value → Shared → Prop} {M : Model} (hx : F.sc.lookup x = some .globalImplicit) (hd : (x == ("__debug__" : Str)) = false) (h1 : F.X.mg x = none) (h2 : F.X.mb x = some v) (h : Q v s) :
    wpAny M A (eval (.Name x p) env) Q E s :=
  Name_function_global S.kind (S.gk x hx) (loadGlobal_builtin (by rw [S.glb]; exact S.W.g.keeps (w0r S.w0)) h1 (by rw [S.blt]; exact S.W.b.keeps (w0r S.w0)) h2 h) hd
end
theorem ct_dm0 {X : Cx} (W : Wd X) {a : Addr} (Z : FnR X "int_divmod" a bdDm psDm nnDm) (hz : X.mg "ZeroDivisionError" = none ∧ X.mb "ZeroDivisionError" = some (.type "ZeroDivisionError")) (x : Int) : CtR X 2 a [.int x, .int 0] "ZeroDivisionError" := by
  intro A s H vals l R hfr hl w0 HB tk hr
  obtain ⟨fd, Z, hns⟩ := Z.f
  obtain ⟨o, ho, hd⟩ := Z.ob
  have hsc : scopeOk nmDm psDm fd.scope.names = true := by rw [hns]; kernel_rfl
  have hps : ∀ x ∈ psDm, storable fd.scope.names x = true := fun x hx => by
    simp only [scopeOk, Bool.and_eq_true] at hsc
    exact List.all_eq_true.mp hsc.2 x hx
  refine wpAny_call ?_
  refine codeAny_call_function (by have := R.dp; have : recursionLimit = 1000 := rfl; omega) (gt_get (w0 _ _ ho)) hd Z.co Z.gen Z.bd (Z.cd.keeps (w0r w0)) ?_
  rw [Z.bind vals hr.length, Z.cl]
  refine wpAny_pure ?_
  have hnew := wpAny_newFunctionEnv_cells (M := Md X) (A := A.in1) (E := fun _ _ => False) (s := s) (scope := fd.scope) (globals := fd.globals) (binds := psDm.zip vals) (qual := fd.qualname ++ ".<locals>.") (func := some a) (code := fd.code) (builtins := fd.builtins)
    (Q := fun env s' => env = callEnvC fd s.heap.objs.size a ∧ InCallC s (callEnvC fd s.heap.objs.size a).locals (bindL (callEnvC fd s.heap.objs.size a).kindOf (psDm.zip vals) fun _ => none) (callEnvC fd s.heap.objs.size a).cells (bindC (callEnvC fd s.heap.objs.size a).kindOf (psDm.zip vals) fun _ => none) s')
    Z.kind (fun x hx => ?_) (fun env he s' I => ?_)
  · refine wpAny_mono (wpAny_toks hnew) (fun env s₁ h₁ => ?_) fun _ _ e => e.2.elim
    obtain ⟨htk, rfl, I⟩ := h₁
    refine ⟨W.nl.keeps fun b o e => I.toInCall.keep b o (gt_get (w0 b o e)), codeAny_func ?_⟩
    have S := entry_state (F := ⟨X, 1, nmDm, nnDm, []⟩) (rest := ["q", "r"]) W Z.toFnAt0 hns.symm rfl rfl hsc rfl w0 HB (Nat.le_trans tk htk) hr I
    have hnone := get_size s.heap
    generalize hM : (s.heap.objs.size :: fd.scope.names.filterMap (fun x => (callEnvC fd s.heap.objs.size a).cells.lookup x.1)) = M at S
    have hLM : s.heap.objs.size ∈ M := hM ▸ .head _
    have hA : (A.deeper (callEnvC fd s.heap.objs.size a)).frames = some (callEnvC fd s.heap.objs.size a :: l) := by show A.frames.map _ = _; rw [hfr]; rfl
    refine wpAny_execs_cons (wpAny_If (wpAny_mono ((TsS.cast (ts_cmp (ev_name (i := 1) rfl rfl) ev_int cEq) (show _ = true by simp)).run S R.deep fun s1 g1 S1 => ?_) (fun _ _ q => q) fun _ _ e => e.elim))
    simp only [if_true]
    refine wpAny_execs_cons (PyProof.Rows.Raise_classB R.deep.hh excClass_ZeroDivisionError (isSubtype_of_subB (by decide +kernel)) (ld_exc S1.ev (by kernel_rfl) rfl hz.1 hz.2 ⟨rfl, rfl⟩) fun h' ae hn => ?_)
    obtain ⟨k1, k2, k3⟩ := hn
    obtain ⟨ob, a0, ho', hcls, hdat⟩ := k3
    obtain ⟨m, ⟨ol, es, ep, l1, l2, _⟩, l4⟩ := S1.ns
    have up1 : ∀ b o, gt s.heap b = some o → gt s1.heap b = some o := fun b o e => (vis_get (S1.kp _ _ e)).1
    have hl1 : FrOk X l H s1.heap := fun e he => let ⟨h1, L, o, h2, h3, h4, h5, h6⟩ := hl e he; ⟨h1, L, o, h2, h3, h4, up1 _ _ h5, h6⟩
    have hfs : frs (callEnvC fd s.heap.objs.size a :: l) = s.heap.objs.size :: frs l := rfl
    have hfun : s1.heap.FunFrames (PySem.W.hideAll s1.heap (frs (callEnvC fd s.heap.objs.size a :: l))) (callEnvC fd s.heap.objs.size a :: l) :=
      ⟨by show fd.scope.kind ≠ .module; rw [Z.kind]; decide, ⟨_, ol, rfl, PySem.W.hideAll_none _ (hfs ▸ .head _), l1, fun vs q => nomatch l2.symm.trans q⟩, hl1.fn fun a ha => hfs ▸ .tail _ ha⟩
    have hen : (PySem.W.hideAll s1.heap (frs (callEnvC fd s.heap.objs.size a :: l))).get? ae = none := by
      cases q : (PySem.W.hideAll s1.heap (frs (callEnvC fd s.heap.objs.size a :: l))).get? ae with
      | none => rfl
      | some o => have := PySem.W.of_hideAll _ q; rw [k2] at this; cases this
    refine wpAny_leaving_firstW hA (hfun.of_keeps fun b o e _ => ⟨o, k1 _ _ e, rfl⟩) rfl ho' (fun b o e => k1 _ _ (PySem.W.of_hideAll _ e)) hen hdat rfl rfl fun hf hL => ?_
    obtain ⟨q1, ⟨_, _, q2⟩, q3, q4⟩ := hL
    refine ⟨ae, a0, _, ⟨rfl, let ⟨h, t, d, e⟩ := S1.sh; ⟨hf, t, d, by rw [e]⟩, S1.ev.hb.ti.hide fun b hb o e => ?_, fun b o e n => ?_, fun b o e n => ?_, ⟨q1, hen, q2, hcls ▸ q3⟩, Nat.le_trans htk g1.2⟩⟩
    · rw [hfs] at hb
      rcases List.mem_cons.mp hb with hb | hb
      · rw [hb] at e
        have : ol = o := Option.some.inj (l1.symm.trans e)
        subst this
        exact nc_data fun vs q => nomatch l2.symm.trans q
      · obtain ⟨_, _, o', h1, es', ep', h2⟩ := hl1.mem hb
        have : o' = o := Option.some.inj ((gt_get h1).symm.trans e)
        subst this
        exact nc_data fun vs q => nomatch h2.symm.trans q
    · refine PySem.W.hideAll_get _ (gt_get (up1 _ _ e)) fun q => ?_
      rw [hfs] at q
      rcases List.mem_cons.mp q with q | q
      · rw [q, hnone] at e; cases e
      · exact n q
    · obtain ⟨_, _, o', h1, es', ep', h2⟩ := hl.mem n
      have : o' = o := Option.some.inj (h1.symm.trans e)
      subst this
      obtain ⟨sl, e1⟩ := q4 b o' (k1 _ _ (gt_get (up1 _ _ e))) fun vs q => nomatch h2.symm.trans q
      exact ⟨sl, gt_of e1 (gt_tb e)⟩
  · have := hps x.1 (List.of_mem_zip hx).1
    rcases storable_spec this with q | q
    · exact .inl q
    · obtain ⟨c, hc⟩ := cells_lookup x.1 fd.scope.names (s.heap.objs.size + 1) [] (.inl (mem_of_lookup q))
      exact .inr ⟨q, by rw [hc]; rfl⟩
  · subst he
    exact ⟨rfl, I⟩
end Mine
end

section
open PySem PySem.Calls PyProof.Rows
set_option Elab.async false
set_option maxRecDepth 100000
namespace Mine
theorem NsV.kf {Fr : List Addr} {s s' : Shared} {a : Addr} {m : Str → Option Value} (x : NsV s.heap a m) (k : Kf Fr s s') : NsV s'.heap a m := by
  obtain ⟨⟨o, es, ep, e1, e2, e3⟩, n⟩ := x
  by_cases q : a ∈ Fr
  · obtain ⟨sl, e⟩ := k.fr _ _ (gt_of e1 n) q; exact ⟨⟨_, es, ep, gt_get e, e2, e3⟩, n⟩
  · exact ⟨⟨o, es, ep, gt_get (k.st _ _ (gt_of e1 n) q), e2, e3⟩, n⟩
noncomputable abbrev FrD (X : Cx) (Fr H : List Addr) (h : Heap) : Prop := ∀ a ∈ Fr, a ∈ H ∧ X.h0.get? a = none ∧ ∃ o, gt h a = some o ∧ ∃ es ep, o.data = .dict es ep
theorem EvSt.kf {F : Fx} {H : List Addr} {G : Nat → Addr} {env : Env} {σ : List Sl} {s s' : Shared} {Fr : List Addr} (S : EvSt F H G env σ s) (k : Kf Fr s s') (hF : FrD F.X Fr H s.heap) : EvSt F H G env σ s' := by
  have nd : ∀ a o, gt s.heap a = some o → (∀ es ep, o.data ≠ .dict es ep) → gt s'.heap a = some o := fun a o e n => k.st _ _ e fun q => by
    obtain ⟨_, _, o', e', es, ep, hd⟩ := hF a q
    rw [e] at e'; cases e'
    exact n _ _ hd
  refine { S with vars := fun i x sl hi hs => (S.vars i x sl hi hs).up (fun u hu => ?_) (fun xs vs _ hq => ?_) fun b o e => ?_, hb := ⟨k.ti S.hb.ti, fun b hb => ?_⟩, w0 := fun b o e => ?_, tk := Nat.le_trans S.tk k.tk }
  · rcases hu with ⟨h1, m, h2, h3⟩ | ⟨h1, c, h2, ⟨o, h3, h4⟩, h5⟩
    · exact .inl ⟨h1, m, h2.kf k, h3⟩
    · exact .inr ⟨h1, c, h2, ⟨o, gt_get (nd _ _ (gt_of h3 h5) fun es ep q => nomatch h4.symm.trans q), h4⟩, h5⟩
  · obtain ⟨o, n, e, c, k, d, r⟩ := hq
    exact ⟨o, n, nd _ _ e (fun es ep q => nomatch d.symm.trans q), c, k, d, r⟩
  · obtain ⟨e1, e2⟩ := vis_get e
    exact vis_of (k.st _ _ e1 fun q => e2 (hF b q).1) e2
  · obtain ⟨o, e⟩ := S.hb.al b hb
    by_cases q : b ∈ Fr
    · obtain ⟨sl, e'⟩ := k.fr _ _ e q; exact ⟨_, e'⟩
    · exact ⟨o, k.st _ _ e q⟩
  · exact k.st _ _ (S.w0 b o e) fun q => by rw [(hF b q).2.1] at e; cases e
theorem FrD.kf {X : Cx} {Fr H : List Addr} {s s' : Shared} (x : FrD X Fr H s.heap) (k : Kf Fr s s') : FrD X Fr H s'.heap := fun a ha => by
  obtain ⟨h1, h2, o, h3, es, ep, h4⟩ := x a ha
  obtain ⟨sl, e⟩ := k.fr _ _ h3 ha
  exact ⟨h1, h2, _, e, es, ep, h4⟩
section
variable {F : Fx} {a : Addr} {fd : FuncData} {body : List Stmt} {ps rest : List Str} {ds : List D} {A : Around} {s : Shared} {H : List Addr} {vals : List Value}
theorem fn_enterC {Rr : Result → Shared → Prop} (W : Wd F.X) (Z : FnAt F.X a fd body ps) (hsn : F.sc = fd.scope.names) (hcl : F.cl = []) (hnm : F.nm = ps ++ rest) (hsc : scopeOk F.nm ps fd.scope.names = true) (hlen : ds.length = ps.length)
    (R : Rm (F.k + 1) A) (w0 : Le F.X.h0.get? (gt s.heap)) (HB : HBd H s.heap) (tk : 1 ≤ s.toks) (hr : Reps F.X.C (vis H s.heap) ds vals)
    (h : ∀ s₁ M, s.toks ≤ s₁.toks → s.heap.objs.size ∈ M → (callEnvC fd s.heap.objs.size a).scope.kind = .function → StP F H M (fun _ => 0) (callEnvC fd s.heap.objs.size a) (ds.map Sl.fr ++ List.replicate rest.length Sl.un) (gt s.heap) s s₁ →
      wpAny (Md F.X) (A.deeper (callEnvC fd s.heap.objs.size a)) (execs body (callEnvC fd s.heap.objs.size a)) (fun f s' => Rr (.ok (.ret (match f with | .ret v => v | _ => .none))) s')
        (fun e s' => wpAny (Md F.X) (A.deeper (callEnvC fd s.heap.objs.size a)) (leaving (callEnvC fd s.heap.objs.size a) e) (fun _ s'' => Rr (.error e) s'') (fun e' s'' => Rr (.error e') s'') s') s₁) :
    codeAny (Md F.X) A (.call (.ref a) ⟨vals, []⟩) Rr s := by
  obtain ⟨o, ho, hd⟩ := Z.ob
  have hps : ∀ x ∈ ps, storable fd.scope.names x = true := fun x hx => by
    simp only [scopeOk, Bool.and_eq_true] at hsc
    exact List.all_eq_true.mp hsc.2 x hx
  refine codeAny_call_function (by have := R.dp; have : recursionLimit = 1000 := rfl; omega) (gt_get (w0 _ _ ho)) hd Z.co Z.gen Z.bd (Z.cd.keeps (w0r w0)) ?_
  rw [Z.bind vals (hr.length.trans hlen), Z.cl]
  refine wpAny_pure ?_
  have hnew := wpAny_newFunctionEnv_cells (M := Md F.X) (A := A.in1) (E := fun _ _ => False) (s := s) (scope := fd.scope) (globals := fd.globals) (binds := ps.zip vals) (qual := fd.qualname ++ ".<locals>.") (func := some a) (code := fd.code) (builtins := fd.builtins)
    (Q := fun env s' => env = callEnvC fd s.heap.objs.size a ∧ InCallC s (callEnvC fd s.heap.objs.size a).locals (bindL (callEnvC fd s.heap.objs.size a).kindOf (ps.zip vals) fun _ => none) (callEnvC fd s.heap.objs.size a).cells (bindC (callEnvC fd s.heap.objs.size a).kindOf (ps.zip vals) fun _ => none) s')
    Z.kind (fun x hx => ?_) (fun env he s' I => ?_)
  · refine wpAny_mono (wpAny_toks hnew) (fun env s₁ h₁ => ?_) fun _ _ e => e.2.elim
    obtain ⟨htk, rfl, I⟩ := h₁
    refine ⟨W.nl.keeps fun b o e => I.toInCall.keep b o (gt_get (w0 b o e)), codeAny_func ?_⟩
    exact h s₁ _ htk (.head _) Z.kind (entry_state (rest := rest) W Z.toFnAt0 hsn hcl hnm hsc hlen w0 HB (Nat.le_trans tk htk) hr I)
  · have := hps x.1 (List.of_mem_zip hx).1
    rcases storable_spec this with q | q
    · exact .inl q
    · obtain ⟨c, hc⟩ := cells_lookup x.1 fd.scope.names (s.heap.objs.size + 1) [] (.inl (mem_of_lookup q))
      exact .inr ⟨q, by rw [hc]; rfl⟩
  · subst he
    exact ⟨rfl, I⟩
theorem fn_enter {Q E : Value → Shared → Prop} (W : Wd F.X) (Z : FnAt F.X a fd body ps) (hsn : F.sc = fd.scope.names) (hcl : F.cl = []) (hnm : F.nm = ps ++ rest) (hsc : scopeOk F.nm ps fd.scope.names = true) (hlen : ds.length = ps.length)
    (R : Rm (F.k + 1) A) (w0 : Le F.X.h0.get? (gt s.heap)) (HB : HBd H s.heap) (tk : 1 ≤ s.toks) (hr : Reps F.X.C (vis H s.heap) ds vals)
    (h : ∀ s₁ M, s.toks ≤ s₁.toks → s.heap.objs.size ∈ M → (callEnvC fd s.heap.objs.size a).scope.kind = .function → StP F H M (fun _ => 0) (callEnvC fd s.heap.objs.size a) (ds.map Sl.fr ++ List.replicate rest.length Sl.un) (gt s.heap) s s₁ →
      wpAny (Md F.X) (A.deeper (callEnvC fd s.heap.objs.size a)) (execs body (callEnvC fd s.heap.objs.size a)) (fun f s' => Q (match f with | .ret v => v | _ => .none) s')
        (fun e s' => wpAny (Md F.X) (A.deeper (callEnvC fd s.heap.objs.size a)) (leaving (callEnvC fd s.heap.objs.size a) e) (fun _ s'' => E e s'') (fun e' s'' => E e' s'') s') s₁) :
    wpAny (Md F.X) A (call (.ref a) vals) Q E s :=
  wpAny_call (fn_enterC (rest := rest) W Z hsn hcl hnm hsc hlen R w0 HB tk hr h)
end
/-- the frames with one's own -/
theorem FrOk.push {F : Fx} {Hc M : List Addr} {G : Nat → Addr} {env : Env} {σ : List Sl} {s₀ s : Shared} {l : List Env} (x : FrOk F.X l Hc s₀.heap) (S : StP F Hc M G env σ (gt s₀.heap) s₀ s) (hk : env.scope.kind = .function) (hf : env.frame = some env.locals) : FrOk F.X (env :: l) (M ++ Hc) s.heap := fun e he => by
  rcases List.mem_cons.mp he with rfl | he
  · obtain ⟨m, ⟨o, es, ep, e1, e2, _⟩, n⟩ := S.ns
    exact ⟨by rw [hk]; decide, _, o, hf, List.mem_append_left _ S.lm, S.mf _ S.lm, gt_of e1 n, es, ep, e2⟩
  · obtain ⟨h1, L, o, h2, h3, h4, h5, h6⟩ := x e he
    exact ⟨h1, L, o, h2, List.mem_append_right _ h3, h4, (vis_get (S.kp _ _ h5)).1, h6⟩
theorem Flew.kf {l : List Env} {T : String} {s s' : Shared} {e : Value} {ae : Addr} {a0 : Value} {base hf : Heap} (f : Flew l T s s' e ae a0 base) (st : base.StaysIn hf) (u : s'.heap.UpToSlots hf) (hD : ∀ b ∈ frs l, ∃ o, gt s.heap b = some o ∧ ∃ es ep, o.data = .dict es ep) : Kf (frs l) s { s' with heap := hf } := by
  refine ⟨let ⟨h, t, d, e⟩ := f.sh; ⟨hf, t, d, by rw [e]⟩, fun _ => f.ti.raw st, fun b o e n => gt_of (st _ _ (f.st _ _ e n)) (gt_tb e), fun b o e n => ?_, f.tk⟩
  obtain ⟨o', e', es, ep, hd⟩ := hD b n
  rw [e] at e'; cases e'
  obtain ⟨sl, e1⟩ := f.fr _ _ e n
  obtain ⟨sl', e2⟩ := u _ _ (gt_get e1) fun vs q => nomatch hd.symm.trans q
  exact ⟨sl', gt_of e2 (gt_tb e)⟩
theorem Kf.pop {F : Fx} {H M : List Addr} {G : Nat → Addr} {env : Env} {σ : List Sl} {s s₂ s' : Shared} {L : Addr} {fr : List Addr} (S : StP F H M G env σ (gt s.heap) s s₂) (k : Kf (L :: fr) s₂ s') (hL : gt s.heap L = none) (t : s.toks ≤ s₂.toks) : Kf fr s s' := by
  refine ⟨?_, fun _ => k.ti S.ev.hb.ti, fun b o e n => k.st _ _ (vis_get (S.kp _ _ e)).1 fun q => ?_, fun b o e n => k.fr _ _ (vis_get (S.kp _ _ e)).1 (.tail _ n), Nat.le_trans t k.tk⟩
  · obtain ⟨h, t, d, e⟩ := S.sh; obtain ⟨h', t', d', e'⟩ := k.sh; exact ⟨h', t', d', by rw [e', e]⟩
  · rcases List.mem_cons.mp q with q | q
    · rw [q, hL] at e; cases e
    · exact n q
noncomputable abbrev psRef : List Str := ["top", "bottom"]
noncomputable abbrev nmRef : List Str := ["top", "bottom"]
theorem ct_refd {X : Cx} (W : Wd X) {a am : Addr} (Z : FnR X "_law_refused" a bdRef psRef nnRef) (Zm : FnR X "int_divmod" am bdDm psDm nnDm) (hz : X.mg "ZeroDivisionError" = none ∧ X.mb "ZeroDivisionError" = some (.type "ZeroDivisionError")) (x : Int) :
    CtF X 3 a [.int x, .int 0] (.bool true) := by
  intro A s H vals l R hfr hl w0 HB tk hr
  obtain ⟨fd, Z, hns⟩ := Z.f
  obtain ⟨hmm, om, fm, hom, hdm⟩ := Zm.g
  refine fn_enter (F := ⟨X, 2, nmRef, nnRef, []⟩) (rest := []) W Z hns.symm rfl rfl (by rw [hns]; kernel_rfl) rfl R w0 HB tk hr fun s₁ M htk hLM hkind S => ?_
  have hA : (A.deeper (callEnvC fd s.heap.objs.size a)).frames = some (callEnvC fd s.heap.objs.size a :: l) := by show A.frames.map _ = _; rw [hfr]; rfl
  have hnone := get_size s.heap
  refine wpAny_execs_cons (wpAny_Try_except (wpAny_execs_cons (wpAny_Expr_any (wpAny_Call_NameR (ld_glob S.ev (by kernel_rfl) rfl hmm ?_)) (not_inter S.ev) rfl)))
  refine callWith_function_kw (o := om) (fd := fm) (wpAny_mono (args_ev (es_cons (ev_name (i := 0) rfl rfl) (es_cons (ev_name (i := 1) rfl rfl) es_nil)) S.ev R.deep fun vs s₂ g S₂ r => ⟨⟨gt_get (S₂.w0 _ _ hom), hdm⟩, ?_⟩) (fun _ _ q => q) fun _ _ e => e.elim)
  have T := S.mono g.1 g.2
  have hl2 : FrOk X (callEnvC fd s.heap.objs.size a :: l) (M ++ H) s₂.heap := FrOk.push (F := ⟨X, 2, nmRef, nnRef, []⟩) hl T hkind rfl
  refine wpAny_mono (ct_dm0 W Zm hz x _ s₂ (M ++ H) vs _ R.deep hA hl2 S₂.w0 S₂.hb S₂.tk r) (fun _ _ e => e.elim) fun e s₃ hfl => ?_
  obtain ⟨ae, a0, base, hfl⟩ := hfl
  obtain rfl := hfl.e
  have hD : ∀ b ∈ frs (callEnvC fd s.heap.objs.size a :: l), ∃ o, gt s₂.heap b = some o ∧ ∃ es ep, o.data = .dict es ep := fun b hb => (hl2.mem hb).2.2
  refine wpAny_looks_onW hA rfl hfl.fl fun h4 held u4 => ?_
  refine wpAny_landsW held fun h5 fl5 u5 => ?_
  have k5 := hfl.kf fl5.1 (u4.trans u5) hD
  have S5 := T.ev.kf k5 (fun b hb => hl2.mem hb)
  obtain ⟨ob, hob, hcls⟩ := fl5.there
  refine wpAny_handleBy_builtin (X := "ZeroDivisionError") (T := "ZeroDivisionError") (b := true) (isSubtype_of_subB (by decide +kernel)) (isSubtype_of_subB (by decide +kernel)) (isSubtype_of_subB (by decide +kernel)) (ld_exc S5 (by kernel_rfl) rfl hz.1 hz.2 ⟨rfl, ⟨ob, hob, hcls⟩, ?_⟩)
  simp only [if_true]
  refine lands_againW fl5 fun h6 fl6 u6 => ?_
  refine wpAny_execs_cons (wpAny_Return_some (wpAny_Constant_bool ⟨?_, .mkB⟩))
  exact Kf.pop T (hfl.kf fl6.1 ((u4.trans u5).trans u6) hD) hnone (Nat.le_trans htk g.2)
end Mine
end

section
open PySem PySem.Calls PyProof.Rows
set_option Elab.async false
set_option maxRecDepth 100000
namespace Mine
section
variable {F : Fx} {H : List Addr} {G : Nat → Addr} {env : Env} {σ : List Sl} {s : Shared} {A : Around}
theorem callF {n : Str} {a : Addr} {x : Expr} {xs : List Expr} {p q : Pos} {ds : List D} {d : D} {l : List Env} {Q : Value → Shared → Prop} (S : EvSt F H G env σ s) (R : Rm F.k A) (hfr : A.frames = some l) (hl : FrOk F.X l H s.heap) (hf : GFn F.X n a) (he : EvSs F σ (x :: xs) ds) (C : CtF F.X F.k a ds d)
    (hg : F.sc.lookup n = some .globalImplicit) (k : ∀ v s', Kf (frs l) s s' → EvSt F H G env σ s' → FrOk F.X l H s'.heap → Rep F.X.C (vis H s'.heap) d v → Q v s') (hd : (n == ("__debug__" : Str)) = false := by rfl) :
    wpAny (Md F.X) A (eval (.Call (.Name n p) (x :: xs) [] q) env) Q E0 s := by
  obtain ⟨hm, o, fd, ho, hd'⟩ := hf
  refine wpAny_Call_NameR (ld_glob S hg hd hm ?_)
  refine callWith_function_kw (o := o) (fd := fd) (args_ev he S R fun vs s₁ g S₁ r => ⟨⟨gt_get (S₁.w0 _ _ ho), hd'⟩, ?_⟩)
  have k₁ : Kf (frs l) s s₁ := Kf.of g.1 g.2
  have hl₁ := hl.kf k₁ fun _ h => h
  exact wpAny_mono (C A s₁ H vs l R hfr hl₁ S₁.w0 S₁.hb S₁.tk r) (fun v s' h => k v s' (k₁.trans h.1) (S₁.kf h.1 fun a ha => hl₁.mem ha) (hl₁.kf h.1 fun _ h => h) h.2) fun _ _ e => e
theorem CtF.up {X k k' a ds d} (h : CtF X k a ds d) (q : k ≤ k') : CtF X k' a ds d := fun A s H vals l R => h A s H vals l (R.up q)
end
theorem ct_dvdF {X : Cx} {a am ar : Addr} (W : Wd X) (Z : FnR X "_law_divided" a bdDvd psDvd nnDvd) (Zm : GFn X "int_divmod" am) (Cm : CDm X am) (Zr : GFn X "_law_refused" ar) (Cr : ∀ x : Int, CtF X 120 ar [.int x, .int 0] (.bool true))
    {low co tu : Int} (hco : co ≠ 0) (hlow : 0 ≤ low ∧ low ≤ 1000) (htu : -2000 ≤ tu ∧ tu ≤ 2000) (hbits : ∀ z : Int, 1 ≤ z → z ≤ 1000 → (Builtin.Int.intBits (z * co) : Int) ≤ 4194304)
    {rs : List Rw4} {l : Rw4} (h : ∀ r ∈ rs ++ [l], RowOk low r) (hl : l.e = 0) (hn : rs.length ≤ 100) : CtF X 121 a [.seq false ((rs ++ [l]).map Rw4.d), .int low, .int co, .int tu] (.bool true) := by
  obtain ⟨s4', s5', s6', s7', s8', L⟩ := dvd_loop Zm Cm (co := co) (tu := tu) hco hlow htu hbits (.seq false ((rs ++ [l]).map Rw4.d)) (rs ++ [l]) .un .un .un .un .un h
  have hl1 : ((rs ++ [l]).map Rw4.d).length ≤ strLid := by rw [List.length_map, List.length_append]; have : strLid = 100000 := rfl; simp only [List.length_cons, List.length_nil]; omega
  have hlo : -4611686018427387904 ≤ low ∧ low ≤ 4611686018427387904 := by omega
  have hmap : (rs ++ [l]).map Rw4.d = rs.map Rw4.d ++ [l.d] := by rw [List.map_append]; rfl
  have hix : IdxR l.d 3 (.int 0) := by
    obtain ⟨s, c, z, e⟩ := l
    dsimp only at hl
    subst hl
    exact .pos 3 rfl (by decide)
  intro A s H vals fl R hfr hfl w0 HB tk hr
  obtain ⟨fd, Z, hns⟩ := Z.f
  refine fn_enter (F := ⟨X, 120, nmDvd, nnDvd, []⟩) (rest := ["sign", "count", "size", "after", "more"]) W Z hns.symm rfl rfl (by rw [hns]; kernel_rfl) rfl R w0 HB tk hr fun s₁ M htk hLM hkind S => ?_
  have hA : (A.deeper (callEnvC fd s.heap.objs.size a)).frames = some (callEnvC fd s.heap.objs.size a :: fl) := by show A.frames.map _ = _; rw [hfr]; rfl
  have hnone := get_size s.heap
  refine wpAny_execs_cons (wpAny_mono (wpAny_toks (ex_for (F := ⟨X, 120, nmDvd, nnDvd, []⟩) (src_list (ev_name (i := 0) rfl rfl) hl1) L _ _ _ _ _ _ _ _ S R.deep)) (fun f s₂ h₂ => ?_) fun _ _ e => e.2.elim)
  obtain ⟨t₂, rfl, M₂, G₂, T⟩ := h₂
  have hl2 : FrOk X (callEnvC fd s.heap.objs.size a :: fl) (M₂ ++ H) s₂.heap := FrOk.push (F := ⟨X, 120, nmDvd, nnDvd, []⟩) hfl T hkind rfl
  refine wpAny_execs_cons (wpAny_Return_some (wpAny_mono (wpAny_And2 (callF (F := ⟨X, 120, nmDvd, nnDvd, []⟩) T.ev R.deep hA hl2 Zr (es_cons (ev_bin (ev_name (i := 1) rfl rfl) (ev_name (i := 2) rfl rfl) (bMulL hlo)) (es_cons (EvS.cast (ev_bin (ev_idx (ev_idx (EvS.cast (ev_name (i := 0) rfl rfl) (congrArg (D.seq false) hmap)) (ev_un ev_int uNeg) .last) ev_int hix) (ev_name (i := 2) rfl rfl) (bMulL (by decide))) (by rw [Int.zero_mul])) es_nil)) (Cr (low * co)) (by kernel_rfl)
    fun v s₃ k₃ S₃ hl₃ r₃ => truth_bool r₃ (callF (F := ⟨X, 120, nmDvd, nnDvd, []⟩) S₃ R.deep hA hl₃ Zr (es_cons ev_int (es_cons (ev_idx (ev_idx (EvS.cast (ev_name (i := 0) rfl rfl) (congrArg (D.seq false) hmap)) (ev_un ev_int uNeg) .last) ev_int hix) es_nil)) (Cr 0) (by kernel_rfl)
      fun v s₄ k₄ S₄ hl₄ r₄ => ⟨Kf.pop T (k₃.trans k₄) hnone (Nat.le_trans htk t₂), r₄.mono (vis_sub _ fun a q => List.mem_append_right _ q)⟩))) (fun _ _ q => q) fun _ _ e => e.elim))
end Mine
end

section
open PySem PySem.Calls PyProof.Rows
set_option Elab.async false
set_option maxRecDepth 100000
namespace Mine
open PySem.W (getL putL putN instObj dictOf InstAt) in
theorem getL_put (name : Str) (h : Int) (t : Tok) (v : Value) : ∀ es : List DictEntry, getL name (putL name h (.str name t) v es) = some (some v)
  | [] => by simp [putL, getL, Value.isStr]
  | e :: r => by
    have ih := getL_put name h t v r
    unfold putL
    cases q : e.key.isStr name with
    | true => simp [getL, q]
    | false =>
      simp only [Bool.false_eq_true, if_false]
      unfold getL at ih ⊢
      rw [List.find?_cons_of_neg (by simp [q])]
      cases z : List.find? (fun x => x.key.isStr name) (putL name h (.str name t) v r) with
      | some e' => rw [z] at ih; exact ih
      | none => rw [z] at ih; dsimp only at ih; split at ih <;> cases ih
/-- all the keys are texts -/
noncomputable def StrK (es : List DictEntry) : Prop := ∀ e ∈ es, e.refKey = false
theorem strK_put {name : Str} {h : Int} {t : Tok} {v : Value} : ∀ {es : List DictEntry}, StrK es → StrK (PySem.W.putL name h (.str name t) v es)
  | [], _ => fun e he => by cases List.mem_singleton.mp he; rfl
  | e :: r, k => by
    unfold PySem.W.putL
    split
    · intro x hx
      rcases List.mem_cons.mp hx with rfl | hx
      · exact k e (.head _)
      · exact k x (.tail _ hx)
    · intro x hx
      rcases List.mem_cons.mp hx with rfl | hx
      · exact k _ (.head _)
      · exact strK_put (fun y hy => k y (.tail _ hy)) x hx
theorem getL_strK {es : List DictEntry} (k : StrK es) (name : Str) : PySem.W.getL name es = some ((es.find? (·.key.isStr name)).map (·.val)) := by
  unfold PySem.W.getL
  split
  · rename_i e he; rw [he]; rfl
  · rename_i he
    rw [he, if_neg (by rw [Bool.not_eq_true, List.any_eq_false]; exact fun e he => by rw [k e he]; exact Bool.false_ne_true)]; rfl
theorem find_put {name n' : Str} (hne : n' ≠ name) (h : Int) (t : Tok) (v : Value) : ∀ es : List DictEntry, ((PySem.W.putL name h (.str name t) v es).find? (·.key.isStr n')).map (·.val) = (es.find? (·.key.isStr n')).map (·.val)
  | [] => by
    have : (Value.str name t).isStr n' = false := by simp [Value.isStr]; exact fun e => hne e.symm
    simp [PySem.W.putL, this]
  | e :: r => by
    unfold PySem.W.putL
    cases q : e.key.isStr name with
    | true =>
      have : e.key.isStr n' = false := by
        cases hk : e.key with
        | str x t' =>
          rw [hk] at q
          simp [Value.isStr] at q ⊢
          exact fun z => hne (z ▸ q)
        | _ => rfl
      simp [this]
    | false =>
      simp only [Bool.false_eq_true, if_false]
      cases z : e.key.isStr n' with
      | true => simp [z]
      | false => rw [List.find?_cons_of_neg (by simp [z]), List.find?_cons_of_neg (by simp [z])]; exact find_put hne h t v r
theorem getL_put' {name n' : Str} (hne : n' ≠ name) {h : Int} {t : Tok} {v : Value} {es : List DictEntry} (k : StrK es) : PySem.W.getL n' (PySem.W.putL name h (.str name t) v es) = PySem.W.getL n' es := by
  rw [getL_strK k, getL_strK (strK_put k), find_put hne]
theorem putL_len (name : Str) (h : Int) (key v : Value) : ∀ es : List DictEntry, (PySem.W.putL name h key v es).length ≤ es.length + 1
  | [] => Nat.le_refl _
  | e :: r => by
    unfold PySem.W.putL
    split
    · exact Nat.le_succ _
    · exact Nat.succ_le_succ (putL_len name h key v r)
section
variable {prog : Program} {w : World} {A : Around} {E : Value → Shared → Prop} {s : Shared} {K : PySem.W.Frag} {x dx C : Addr} {es : List DictEntry} {n : Nat} {name : Str} {v : Value}
theorem set_dict {Q : Unit → Shared → Prop} (X : K.In s.heap) (hx : s.heap.get? x = some (PySem.W.instObj C dx)) (hdx : s.heap.get? dx = some (PySem.W.dictOf es n))
    (hs : PySem.W.findIn K (.ref C) "__setattr__" = some (some (.builtin "object.__setattr__"))) (hp : PySem.W.plainOver K C = true) (ht : PySem.W.takerIn K C name = some none) (hh : PySem.W.hasDictIn K C = true) (hk : StrK es) (hz : es.length ≤ 100)
    (h : ∀ h' hsh t, Heap.SameBut dx s.heap h' → h'.get? dx = some (PySem.W.dictOf (PySem.W.putL name hsh (.str name t) v es) (PySem.W.putN name es n)) → Q () { s with heap := h', toks := s.toks + 1 + 1 }) :
    wpAny (model prog w) A (setAttr (.ref x) name v) Q E s := by
  have I : PySem.W.InstAt s.heap x (PySem.W.instObj C dx) C (some (PySem.W.dictOf es n)) := ⟨hx, rfl, rfl, hdx⟩
  refine PySem.W.set_plain X I hs (PySem.W.osa_open (s := { s with toks := s.toks + 1 }) (od := some (PySem.W.dictOf es n)) X ⟨hx, rfl, rfl, hdx⟩ hp ht fun b => ?_)
  obtain ⟨cd, hc, hd'⟩ := PySem.W.any_some hh
  have D := hdx
  refine wpAny_bind (wpAny_pure (wpAny_bind (wpAny_bind (wpAny_loadPart (s := { s with toks := s.toks + 1 }) hx (wpAny_bind (PySem.W.Looks.here (s := { s with toks := s.toks + 1 }) (PySem.W.looks_clsIn X hc) ?_))))))
  rw [hd']
  refine wpAny_pure (a := some dx) (wpAny_bind (wpAny_pure (wpAny_bind ?_)))
  unfold nsSet
  refine wpAny_bind (wpAny_bind (wpAny_askSetting (wpAny_pure (wpAny_bind (wpAny_mkText (wpAny_bind (wpAny_loadPart (s := { s with toks := s.toks + 1 + 1 }) D ?_)))))))
  have c : (!es.toArray.any (·.key.isStr name) && es.toArray.any (·.refKey)) = false := by
    have : es.toArray.any (·.refKey) = false := by rw [← Array.any_toList, List.any_eq_false]; exact fun e he => by rw [hk e he]; exact Bool.false_ne_true
    rw [this, Bool.and_false]
  show wpAny (model prog w) A.in1 (if aRefKeyMayBeTheName name es.toArray = true then _ else _) _ _ _
  rw [aRefKeyMayBeTheName_at, c]
  refine wpAny_updatePart D ?_
  have hput := PySem.W.putName_dict name (PyData.keyHash w.params name) (.str name (s.toks + 1)) v es n
  have hg : (s.heap.update dx (Obj.putName name (PyData.keyHash w.params name) (.str name (s.toks + 1)) v)).get? dx = some (PySem.W.dictOf (PySem.W.putL name (PyData.keyHash w.params name) (.str name (s.toks + 1)) v es) (PySem.W.putN name es n)) := by
    rw [← hput]; exact Heap.get?_update_self _ D (by rw [hput]; rfl)
  have hl := putL_len name (PyData.keyHash w.params name) (.str name (s.toks + 1)) v es
  refine wpAny_bind (wpAny_lookBehind hg (by exact pastItsLine_dict (by rw [List.size_toArray, sizeLine_eq]; omega)) ?_)
  exact wpAny_pure (h _ _ _ (Heap.SameBut.update _ _ _) hg)
end
end Mine
end

section
open PySem PySem.Calls PyProof.Rows
set_option Elab.async false
set_option maxRecDepth 100000
namespace Mine
/-- the class's looks -/
structure Kls (X : Cx) : Prop where
  sa : PySem.W.findIn X.K (.ref X.C) "__setattr__" = some (some (.builtin "object.__setattr__"))
  po : PySem.W.plainOver X.K X.C = true
  tk : ∀ n ∈ (["raw", "n", "nt", "norm", "is_simple"] : List Str), PySem.W.takerIn X.K X.C n = some none
section
variable {F : Fx} {Hc M : List Addr} {G : Nat → Addr} {env : Env} {σ : List Sl} {B : Gt} {s₀ s : Shared} {A : Around}
theorem asg_attr {i : Nat} {y name : Str} {p q r : Pos} {e : Expr} {x dx : Addr} {es : List DictEntry} {n : Nat} {d : D} {Q : Flow → Shared → Prop} (S : StP F (dx :: Hc) M G env σ B s₀ s) (R : Rm F.k A) (he : EvS F σ e d) (hy : F.nm[i]? = some y) (hs : σ[i]? = some (.fr (.ptr x)))
    (hM : dx ∉ M ∧ B dx = none ∧ F.X.h0.get? dx = none ∧ ∀ x c, env.cells.lookup x = some c → c ≠ dx) (Z : Kls F.X) (hn : name ∈ (["raw", "n", "nt", "norm", "is_simple"] : List Str)) (hxd : x ≠ dx) (hx : gt s.heap x = some (PySem.W.instObj F.X.C dx)) (hdx : gt s.heap dx = some (PySem.W.dictOf es n)) (hk : StrK es) (hz : es.length ≤ 100)
    (hsw : swapsWith e (some (.Attribute (.Name y p) name q)) r.line env = pure false)
    (h : ∀ s' v hsh t n', StP F (dx :: Hc) M G env σ B s₀ s' → gt s'.heap x = some (PySem.W.instObj F.X.C dx) → gt s'.heap dx = some (PySem.W.dictOf (PySem.W.putL name hsh (.str name t) v es) n') → Rep F.X.C (vis (M ++ dx :: Hc) s'.heap) d v →
      (∀ b o, b ≠ dx → gt s.heap b = some o → gt s'.heap b = some o) → Q .next s') : wpAny (Md F.X) A (exec (.Assign [.Attribute (.Name y p) name q] e r) env) Q E0 s := by
  refine plainObj_wpAny_Assign_Attribute (he.run S R fun v s₁ g S₁ rv => ?_) hsw
  obtain ⟨u, hv, hr⟩ := S₁.ev.vars i y _ hy hs
  cases hr.ptrI
  refine ld_name S₁.ev hy hv ?_
  have hx1 := kle g.1 _ _ hx
  have hdx1 := kle g.1 _ _ hdx
  refine set_dict (K := F.X.K) (fun b o e => gt_get (S₁.ev.w0 _ _ (S₁.ev.W.kin b o e))) (gt_get hx1) (gt_get hdx1) Z.sa Z.po (Z.tk _ hn) S₁.ev.W.hd hk hz fun h' hsh t hsb hd' => ?_
  have hnt := gt_tb hdx1
  have hk' : ∀ b o, b ≠ dx → gt s₁.heap b = some o → gt h' b = some o := fun b o hb e => gt_of (hsb.extBut b o hb (gt_get e)) (gt_tb e)
  have hnc : ∀ o, s₁.heap.get? dx = some o → NC o := fun o e => by rw [gt_get hdx1] at e; cases e; exact nc_data fun _ q => nomatch q
  refine h _ v hsh t _ (S₁.other (h' := h') (t := s₁.toks + 1 + 1) hM.1 (S₁.ev.hb.ti.same hsb hnc) hk' ⟨_, gt_of hd' hnt⟩ hM.2.1 hM.2.2.1 hM.2.2.2 (Nat.le_trans S₁.ev.tk (Nat.le_add_right _ 2))) (hk' _ _ hxd hx1) (gt_of hd' hnt) (rv.mono fun b o e => ?_) fun b o hb e => hk' b o hb (kle g.1 _ _ e)
  obtain ⟨e1, e2⟩ := vis_get e
  exact vis_of (hk' b o (fun q => e2 (by rw [q]; simp)) e1) e2
end
end Mine
end

section
open PySem PySem.Calls PyProof.Rows
set_option Elab.async false
set_option maxRecDepth 100000
namespace Mine
theorem Rm.under {k : Nat} {A : Around} {C : Addr} {vals : List Value} (R : Rm (k + 1) A) : Rm k (A.under (.builtin "type.__call__" ⟨.ref C :: vals, []⟩)) := by
  refine ⟨R.hh, ?_, ?_⟩
  · have h := R.dp
    have e : (Code.builtin "type.__call__" ⟨.ref C :: vals, []⟩).weight = 1 := rfl
    show A.depth + _ + k ≤ 900
    rw [e]; omega
  · have h := R.un
    have e : (Code.builtin "type.__call__" ⟨.ref C :: vals, []⟩).cUnits = 1 := rfl
    show A.units + _ + 10 * k ≤ 9000
    rw [e]; omega
/-- what __init__ leaves -/
structure InitPost (X : Cx) (H : List Addr) (dx : Addr) (c : List Int) (tr nt : Int) (s s' : Shared) : Prop where
  sh : ∃ h t d, s' = { s with heap := h, toks := t, drawn := d }
  le : Le (vis [dx] s.heap) (vis [dx] s'.heap)
  ti : TI s'.heap
  ws : ∃ es n vn t, gt s'.heap dx = some (PySem.W.dictOf es n) ∧ (∀ m ∈ methN, PySem.W.getL m es = some none) ∧ PySem.W.getL "norm" es = some (some (.ref vn)) ∧ PySem.W.getL "nt" es = some (some (.int nt t)) ∧
    Rep X.C (vis (dx :: H) s'.heap) (.seq true [.seq true (c.map .int), .int tr]) (.ref vn)
noncomputable def CtInit (X : Cx) (k : Nat) (a : Addr) (d : D) (c : List Int) (tr nt : Int) : Prop := ∀ A s H x dx v Rr, Rm k A → Le X.h0.get? (gt s.heap) → X.h0.get? dx = none → HBd (dx :: H) s.heap → dx ∉ H → x ≠ dx → 1 ≤ s.toks →
  gt s.heap x = some (PySem.W.instObj X.C dx) → gt s.heap dx = some (PySem.W.dictOf [] 0) → Rep X.C (vis (dx :: H) s.heap) d v → (∀ s', InitPost X H dx c tr nt s s' → Rr (.ok (.ret .none)) s') → codeAny (Md X) A (.call (.ref a) ⟨[.ref x, v], []⟩) Rr s
/-- the class can be called -/
structure Mk (X : Cx) (fI : Addr) : Prop where
  g : X.mg "Whitespace" = some (.ref X.C)
  ok : PySem.W.makesIn X.K X.C = true
  ke : PySem.W.keepIn X.K (.ref X.C) = true
  fi : PySem.W.findIn X.K (.ref X.C) "__init__" = some (some (.ref fI))
  ty : PySem.W.typeIn X.K (.ref fI) = some (.type "function")
section
variable {F : Fx} {σ : List Sl}
theorem ints_back {C : Addr} {g : Gt} : ∀ {c : List Int} {vs : List Value}, Reps C g (c.map .int) vs → ∃ tt, vs = (c.zip tt).map (fun p => Value.int p.1 p.2) ∧ tt.length = c.length
  | [], vs, h => by cases h.nilI; exact ⟨[], rfl, rfl⟩
  | i :: c, vs, h => by
    obtain ⟨v, r, rfl, a, b⟩ := h.consI
    obtain ⟨t, rfl⟩ := a.intI
    obtain ⟨tt, rfl, hl⟩ := ints_back b
    exact ⟨t :: tt, rfl, by simp [hl]⟩
theorem ev_make {k : Nat} {fI : Addr} {e : Expr} {p q : Pos} {d : D} {c : List Int} {tr nt : Int} (Z : Mk F.X fI) (he : EvS F σ e d) (C : CtInit F.X k fI d c tr nt) (hk : F.k = k + 1) (hg : F.sc.lookup ("Whitespace" : Str) = some .globalImplicit) (hs : NoStar e := by exact fun _ _ => rfl) :
    EvS F σ (.Call (.Name "Whitespace" p) [e] [] q) (.ws c tr nt) := fun H G env s A S R => by
  refine wpAny_Call_NameR (ld_glob S hg rfl Z.g ?_)
  have hst : starEach [e] env = (false, eval e env) :: starEach [] env := by rw [hs]
  refine PySem.W.callWith_K S.W.kin Z.ke ?_ hst rfl
  rw [hst]
  refine spliced_cons (he.go S R fun v s₁ g S₁ rv => spliced_nil ?_)
  have Xin : F.X.K.In s₁.heap := fun b o e => gt_get (S₁.w0 _ _ (S₁.W.kin b o e))
  refine ⟨Xin, ?_⟩
  have hn1 := get_size s₁.heap
  have ti := S₁.hb.ti
  have gd := gt_push_size (o := PySem.W.emptyDict) ti rfl
  have ti2 := (rw_push s₁.heap PySem.W.emptyDict).2 ti
  have gx := gt_push_size (o := PySem.W.instObj F.X.C s₁.heap.objs.size) ti2 rfl
  have r2 : Rw s₁.heap ((s₁.heap.push PySem.W.emptyDict).push (PySem.W.instObj F.X.C s₁.heap.objs.size)) := Rw.trans (rw_push _ _) (rw_push _ _)
  have hsz : (s₁.heap.push PySem.W.emptyDict).objs.size = s₁.heap.objs.size + 1 := Heap.size_push _ _
  rw [hsz] at gx
  have notH : ∀ b, gt s₁.heap b = none → b ∉ H := fun b hb hm => by obtain ⟨o, e⟩ := S₁.hb.al b hm; rw [hb] at e; cases e
  have hnx : gt s₁.heap (s₁.heap.objs.size + 1) = none := by
    cases z : gt s₁.heap (s₁.heap.objs.size + 1) with
    | none => rfl
    | some o => exact absurd (Heap.lt_size (gt_get z)) (Nat.not_lt.mpr (Nat.le_succ _))
  have h0n : ∀ b, gt s₁.heap b = none → F.X.h0.get? b = none := fun b hb => by
    cases z : F.X.h0.get? b with
    | none => rfl
    | some o => have := S₁.w0 _ _ z; rw [hb] at this; cases this
  refine wpAny_call (PySem.W.make_core (h := s₁.heap) (g := s₁.gens) (d := s₁.drawn) (t := s₁.toks) (os := s₁.os) (PySem.W.makes_of Xin Z.ok) (PySem.W.looks_findIn Xin Z.fi) (fun self => PySem.W.bind_fn Xin self Z.ty) (.inl rfl) ?_)
  refine C _ { s₁ with heap := (s₁.heap.push PySem.W.emptyDict).push (PySem.W.instObj F.X.C s₁.heap.objs.size) } H (s₁.heap.objs.size + 1) s₁.heap.objs.size v _ (Rm.under (hk ▸ R)) (fun b o e => r2.1 _ _ (S₁.w0 b o e)) (h0n _ hn1)
    ⟨r2.2 ti, fun b hb => ?_⟩ (notH _ hn1) (Nat.succ_ne_self _) S₁.tk gx ((rw_push _ _).1 _ _ gd) (rv.mono fun b o e => ?_) fun s' P => ⟨rfl, ?_⟩
  · rcases List.mem_cons.mp hb with rfl | hb
    · exact ⟨_, (rw_push _ _).1 _ _ gd⟩
    · obtain ⟨o, e⟩ := S₁.hb.al b hb; exact ⟨o, r2.1 _ _ e⟩
  · obtain ⟨e1, e2⟩ := vis_get e
    refine vis_of (r2.1 _ _ e1) fun z => ?_
    rcases List.mem_cons.mp z with z | z
    · rw [z, hn1] at e1; cases e1
    · exact e2 z
  · obtain ⟨sh, le, ti', es, n, vn, t, p1, p2, p3, p4, p5⟩ := P
    have up : Le (gt s₁.heap) (gt s'.heap) := fun b o e => (vis_get (le _ _ (vis_of (r2.1 _ _ e) fun z => by rw [List.mem_singleton.mp z, hn1] at e; cases e))).1
    refine ⟨g.1.trans ?_, ?_⟩
    · obtain ⟨h, t, d, rfl⟩ := sh
      exact ⟨h, t, d, rfl, up, fun _ => ti'⟩
    · have gx' : gt s'.heap (s₁.heap.objs.size + 1) = some (PySem.W.instObj F.X.C s₁.heap.objs.size) := (vis_get (le _ _ (vis_of gx fun z => Nat.succ_ne_self _ (List.mem_singleton.mp z)))).1
      have p5 := p5.mono (vis_sub s'.heap (H := s₁.heap.objs.size :: H) (H' := H) fun a h => .tail _ h)
      obtain ⟨a1, vs, z, i1, r1⟩ := p5.seqI
      cases z
      obtain ⟨w1, w2, rfl, q1, q2⟩ := r1.two
      obtain ⟨t2, rfl⟩ := q2.intI
      obtain ⟨ac, vc, rfl, i2, r3⟩ := q1.seqI
      obtain ⟨tt, hvc, htt⟩ := ints_back r3
      exact ⟨_, es, vn, t, ac, vc, tt, t2, rfl, ⟨_, n, vis_of gx' (notH _ hnx), vis_of p1 (notH _ hn1)⟩, p2, p3, p4, i1, i2, hvc, htt⟩
end
end Mine
end

section
open PySem PySem.Calls PyProof.Rows
set_option Elab.async false
set_option maxRecDepth 100000
namespace Mine
section
variable {F : Fx} {Hc M : List Addr} {G : Nat → Addr} {env : Env} {σ : List Sl} {B : Gt} {s₀ s : Shared} {A : Around}
theorem ex_asg3 {i j k : Nat} {x y z : Str} {p1 p2 p3 r : Pos} {e : Expr} {d : D} (hx : F.nm[i]? = some x) (hy : F.nm[j]? = some y) (hz : F.nm[k]? = some z) (he : EvS F σ e d) (h1 : storable F.sc x = true) (h2 : storable F.sc y = true) (h3 : storable F.sc z = true)
    (hw : ∀ env, swappedStores [.Name x p1, .Name y p2, .Name z p3] e env = pure none) : ExS F σ (.Assign [.Name x p1, .Name y p2, .Name z p3] e r) .nx (((σ.set i (.fr d)).set j (.fr d)).set k (.fr d)) := fun Hc M G env B s₀ s A S R =>
  wpAny_Assign_three (he.run S R fun v s₁ g S₁ rv => wpAny_assign_Name (S₁.store2 hx (storable_spec h1) (.inl ⟨d, rfl, rv⟩) (fun _ _ => rfl) fun s₂ S₂ k₂ =>
    wpAny_assign_Name (S₂.store2 hy (storable_spec h2) (.inl ⟨d, rfl, rv.mono (vis_up k₂)⟩) (fun _ _ => rfl) fun s₃ S₃ k₃ =>
      wpAny_assign_Name (S₃.store2 hz (storable_spec h3) (.inl ⟨d, rfl, rv.mono ((vis_up k₂).trans (vis_up k₃))⟩) (fun _ _ => rfl) fun s₄ S₄ k₄ => ⟨rfl, _, _, S₄⟩)))) rfl (hw env)
/-- a ghost heap that holds more -/
theorem StP.gh {h0' : Heap} (S : StP F Hc M G env σ B s₀ s) (k : Le F.X.h0.get? h0'.get?) (w : Le h0'.get? (gt s.heap)) (W : Wd { F.X with h0 := h0' }) (hM : ∀ a ∈ M, h0'.get? a = none) : StP { F with X := { F.X with h0 := h0' } } Hc M G env σ B s₀ s :=
  ⟨⟨S.ev.kind, S.ev.glb, S.ev.blt, S.ev.gk, S.ev.ck, S.ev.vars, S.ev.nms, S.ev.hb, w, S.ev.tk, W, S.ev.clo⟩, S.ns, S.lm, S.ll, S.cm, S.ci, S.ow, S.oi, S.nd, hM, S.kp, S.sh⟩
theorem StP.ungh {h0' : Heap} (S : StP { F with X := { F.X with h0 := h0' } } Hc M G env σ B s₀ s) (k : Le F.X.h0.get? h0'.get?) (W : Wd F.X) : StP F Hc M G env σ B s₀ s :=
  ⟨⟨S.ev.kind, S.ev.glb, S.ev.blt, S.ev.gk, S.ev.ck, S.ev.vars, S.ev.nms, S.ev.hb, k.trans S.ev.w0, S.ev.tk, W, S.ev.clo⟩, S.ns, S.lm, S.ll, S.cm, S.ci, S.ow, S.oi, S.nd, (fun a ha => by
    cases q : F.X.h0.get? a with
    | none => rfl
    | some o => exact absurd ((show h0'.get? a = some o from k _ _ q).symm.trans (S.mf a ha)) nofun), S.kp, S.sh⟩
theorem ev_raw {i : Nat} {y name : Str} {p q : Pos} {x dx : Addr} {es : List DictEntry} {n : Nat} {T : List Nat} {t : Tok} (hy : F.nm[i]? = some y) (hs : σ[i]? = some (.fr (.ptr x))) (hx : F.X.h0.get? x = some (PySem.W.instObj F.X.C dx)) (hdx : F.X.h0.get? dx = some (PySem.W.dictOf es n))
    (hg : PySem.W.getL name es = some (some (.str ⟨T.toArray⟩ t))) (h1 : PySem.W.plainGet F.X.K F.X.C name = true) (h2 : PySem.W.findIn F.X.K (.ref F.X.C) name = some none) : EvS F σ (.Attribute (.Name y p) name q) (.str T) := fun H G env s A S R => by
  obtain ⟨ov, hv, hr⟩ := S.vars i y _ hy hs
  cases hr.ptrI
  rw [arm_eval_Attribute, show attributeBase (.Name y p) name env (eval (.Name y p) env) = eval (.Name y p) env from rfl]
  refine wpAny_bind (ld_name S hy hv (wpAny_bind (wpAny_standAt (wpAny_bind (wpAny_holding ?_)))))
  refine PySem.W.get_value (fun b o e => gt_get (S.w0 _ _ (S.W.kin b o e))) (⟨gt_get (S.w0 _ _ hx), rfl, rfl, gt_get (S.w0 _ _ hdx)⟩ : PySem.W.InstAt s.heap x (PySem.W.instObj F.X.C dx) F.X.C (some (PySem.W.dictOf es n)))
    (PySem.W.plainGet_of h1).1 (PySem.W.findObj_own S.W.hd h2 rfl (by rw [PySem.W.lookIn_dict]; exact hg)) rfl ?_
  exact wpAny_bind (wpAny_letTemporaryGo (wpAny_pure ⟨Kp.tok .., .mkS⟩))
end
theorem swapped_at {env : Env} {id jj : Str} {q q2 p1 p2 : Pos} {k1 k2 : Nat} {o1 o2 : Expr} {a1 a2 : Str} {r1 r2 : Pos} (hk : env.blockKind = .function) (h1 : env.kindOf id = some .local) (h2 : env.kindOf jj = some .local) (hline : q.line = q2.line) (hne : (id == jj) = false) :
    swappedStores [Expr.Tuple [.Name id q, .Name jj q2] k1 p1] (.Tuple [.Attribute o1 a1 r1, .Attribute o2 a2 r2] k2 p2) env = pure (some [id, jj]) := by
  have hf : ([.Name id q, .Name jj q2] : List Expr).filterMap (fun | .Name id pos => if env.kindOf id == some .local && pos.line == q.line then some id else none | _ => none) = [id, jj] := by
    simp [h1, h2, hline]
  have hne' : (jj == id) = false := by
    cases h : jj == id with
    | false => rfl
    | true =>
      have e : jj = id := by simpa using h
      rw [e] at hne; simp at hne
  have hee : ([id, jj] : List Str).eraseDups = [id, jj] := by simp [List.eraseDups_cons, hne']
  have hb : (!(([.Name id q, .Name jj q2] : List Expr).length == 2 || ([.Name id q, .Name jj q2] : List Expr).length == 3) || ([.Attribute o1 a1 r1, .Attribute o2 a2 r2] : List Expr).length != ([.Name id q, .Name jj q2] : List Expr).length || env.blockKind != .function) = false := by
    rw [hk]; rfl
  unfold swappedStores
  show (if (!(([.Name id q, .Name jj q2] : List Expr).length == 2 || ([.Name id q, .Name jj q2] : List Expr).length == 3) || ([.Attribute o1 a1 r1, .Attribute o2 a2 r2] : List Expr).length != ([.Name id q, .Name jj q2] : List Expr).length || env.blockKind != .function) = true then (pure none : Sem (Option (List Str))) else _) = _
  rw [hb, if_neg (by decide)]
  refine (if_neg (fun h => Bool.false_ne_true h)).trans ?_
  show (if ((([.Name id q, .Name jj q2] : List Expr).filterMap (fun | .Name id pos => if env.kindOf id == some .local && pos.line == q.line then some id else none | _ => none)).length != 2 ||
      (([.Name id q, .Name jj q2] : List Expr).filterMap (fun | .Name id pos => if env.kindOf id == some .local && pos.line == q.line then some id else none | _ => none)).eraseDups.length != (([.Name id q, .Name jj q2] : List Expr).filterMap (fun | .Name id pos => if env.kindOf id == some .local && pos.line == q.line then some id else none | _ => none)).length) = true then (pure none : Sem (Option (List Str)))
    else pure (some (([.Name id q, .Name jj q2] : List Expr).filterMap (fun | .Name id pos => if env.kindOf id == some .local && pos.line == q.line then some id else none | _ => none)))) = _
  rw [hf, hee]
  rfl
end Mine
end

section
open PySem PySem.Calls PyProof.Rows
set_option Elab.async false
set_option maxRecDepth 100000
namespace Mine
section
variable {F : Fx} {Hc M : List Addr} {G : Nat → Addr} {env : Env} {σ : List Sl} {B : Gt} {s₀ s : Shared} {A : Around}
/-- two names on one line, from two attributes: stored in the reverse order -/
theorem ex_tupA {i j : Nat} {x y : Str} {q q2 p p2 r : Pos} {kk k2 : Nat} {o1 o2 : Expr} {a1 a2 : Str} {r1 r2 : Pos} {d1 d2 : D} (hx : F.nm[i]? = some x) (hy : F.nm[j]? = some y) (he : EvS F σ (.Tuple [.Attribute o1 a1 r1, .Attribute o2 a2 r2] k2 p2) (.seq true [d1, d2])) (hli : F.sc.lookup x = some .local) (hlj : F.sc.lookup y = some .local) (hne : (x == y) = false) (hline : q.line = q2.line) :
    ExS F σ (.Assign [.Tuple [.Name x q, .Name y q2] kk p] (.Tuple [.Attribute o1 a1 r1, .Attribute o2 a2 r2] k2 p2) r) .nx ((σ.set j (.fr d2)).set i (.fr d1)) := fun Hc M G env B s₀ s A S R => by
  have hsome := swapped_at (k1 := kk) (k2 := k2) (p1 := p) (p2 := p2) (q := q) (q2 := q2) (o1 := o1) (o2 := o2) (a1 := a1) (a2 := a2) (r1 := r1) (r2 := r2) (kind_fn S.ev) (S.ll _ hli) (S.ll _ hlj) hline hne
  rw [exec_Assign_arm]
  refine wpAny_bind (wpAny_standAt ?_)
  rw [show swapsWithSole [Expr.Tuple [.Name x q, .Name y q2] kk p] (.Tuple [.Attribute o1 a1 r1, .Attribute o2 a2 r2] k2 p2) r.line env = pure false from rfl]
  refine wpAny_bind (wpAny_pure ?_)
  rw [if_neg (by decide)]
  refine wpAny_bind (he.run S R fun v s₁ g S₁ rv => ?_)
  obtain ⟨T, us, rfl, hq, hr⟩ := rv.seqI
  rw [hsome]
  refine wpAny_bind (wpAny_pure ?_)
  show wpAny _ A (do rule "assign.swapped-stores"; let items ← unpackItems (.ref T) 2 none; assignInOrder [bindName env y, bindName env x] items.reverse; pure Flow.next) _ _ s₁
  refine wpAny_bind (wpAny_rule ?_)
  obtain ⟨u1, u2, rfl, ra, rb⟩ := hr.two
  have hup := wpAny_unpackItems_tuple (prog := F.X.prog) (w := F.X.w) (E := E0) (Q := fun items s' => wpAny (Md F.X) A (do assignInOrder [bindName env y, bindName env x] items.reverse; pure Flow.next) (fun f s' => Fi F Hc env B s₀ .nx ((σ.set j (.fr d2)).set i (.fr d1)) f s') E0 s') R.hh (hq.mono (vis_le _ _)).tuple fun h' he => ?_
  · exact wpAny_bind hup
  · have hrw : Rw s₁.heap h' := Rw.raw fun b o q => he b o (Nat.ne_of_lt (Heap.lt_size q)) q
    have kp : Kp s₁ { s₁ with heap := h' } := ⟨h', s₁.toks, _, rfl, hrw⟩
    have S₂ := S₁.mono kp (Nat.le_refl _)
    show wpAny _ A (do assignInOrder [bindName env y, bindName env x] [u2, u1]; pure Flow.next) _ _ _
    refine wpAny_bind (wpAny_assignInOrder_more (wpAny_bindName (S₂.store2 hy (.inl hlj) (.inl ⟨d2, rfl, rb.mono (vis_mono (kle kp))⟩) (fun _ _ => rfl) fun s₃ S₃ k₃ => ?_)))
    exact wpAny_assignInOrder_more (wpAny_bindName (S₃.store2 hx (.inl hli) (.inl ⟨d1, rfl, (ra.mono (vis_mono (kle kp))).mono (vis_up k₃)⟩) (fun _ _ => rfl) fun s₄ S₄ k₄ => wpAny_assignInOrder_none (wpAny_pure ⟨rfl, _, _, S₄⟩)))
theorem ev_cls {C : Addr} {mc : Value} {n name : Str} {p q : Pos} {T : List Nat} {t : Tok} (hg : F.sc.lookup n = some .globalImplicit) (hd : (n == ("__debug__" : Str)) = false) (hm : F.X.mg n = some (.ref C)) (hr : PySem.W.readsIn F.X.K C mc = true) (ht : PySem.W.typeIn F.X.K (.ref C) = some mc)
    (e : PySem.W.findCls F.X.K (.ref C) mc name = some (.val (.str ⟨T.toArray⟩ t))) : EvS F σ (.Attribute (.Name n p) name q) (.str T) := fun H G env s A S R => by
  rw [arm_eval_Attribute, show attributeBase (.Name n p) name env (eval (.Name n p) env) = eval (.Name n p) env from rfl]
  refine wpAny_bind (ld_glob S hg hd hm (wpAny_bind (wpAny_standAt (wpAny_bind (wpAny_holding ?_)))))
  have X : F.X.K.In s.heap := fun b o e => gt_get (S.w0 _ _ (S.W.kin b o e))
  refine PySem.W.cls_value X hr e rfl ?_
  exact wpAny_bind (wpAny_letTemporaryGo (wpAny_pure ⟨Kp.tok .., .mkS⟩))
end
end Mine
end

section
open PySem PySem.Calls PyProof.Rows
set_option Elab.async false
set_option maxRecDepth 100000
namespace Mine
section
variable {F : Fx} {Hc M : List Addr} {G : Nat → Addr} {env : Env} {σ : List Sl} {B : Gt} {s₀ s : Shared} {A : Around}
theorem Reps.app {C : Addr} {g : Gt} : ∀ {as bs : List D} {us vs : List Value}, Reps C g as us → Reps C g bs vs → Reps C g (as ++ bs) (us ++ vs)
  | [], _, us, _, h, h' => by cases h.nilI; exact h'
  | _ :: _, _, _, _, ⟨_, _, q, a, b⟩, h' => q ▸ ⟨_, _, rfl, a, Reps.app b h'⟩
theorem ex_asgCat {i : Nat} {x : Str} {p q q2 q3 r pl : Pos} {c e : Expr} {d : D} {n : Int} {xs : List D} (hx : F.nm[i]? = some x) (hs : σ[i]? = some (.ow xs)) (hc : EvS F σ c d) (he : EvS F σ e (.int n)) (hn : 0 ≤ n ∧ n ≤ 1000) (hl : xs.length ≤ 1000) (hst : storable F.sc x = true) (hns : NoStar c) :
    ExS F σ (.Assign [.Name x p] (.BinOp (.Name x q2) .Add (.BinOp (.List [c] pl) .Mult e q) q3) r) .nx (σ.set i (.ow (xs ++ List.replicate n.toNat d))) := fun Hc M G env B s₀ s A S R => by
  obtain ⟨us, hv, hqu, hru⟩ := S.ev.vars i x _ hx hs
  refine wpAny_Assign_Name (wpAny_BinOp (ld_name S.ev hx hv (wpAny_BinOp ((ev_list (es_cons hc es_nil hns)).run S R fun va s₁ g₁ S₁ ra => he.run S₁ R fun vb s₂ g₂ S₂ rb => ?_)))) rfl
  obtain ⟨t, rfl⟩ := rb.intI
  obtain ⟨l, vs, rfl, hq, hr⟩ := (ra.mono (vis_mono (kle g₂.1))).seqI
  obtain ⟨v, rfl, rv⟩ := hr.one
  obtain ⟨k, hk⟩ := (hq.mono (vis_le _ _)).plx.isl
  refine mul_new hk hn.1 hn.2 rfl (Nat.le_of_ble_eq_true rfl) ?_
  rw [rep_list]
  have k₃ : Kp s₂ { s₂ with heap := s₂.heap.push { cls := .type "list", data := .seq (List.replicate n.toNat v).toArray } } := Kp.of (t := s₂.toks) (rw_push _ _)
  have g₃ := gt_push_size (o := { cls := .type "list", data := .seq (List.replicate n.toNat v).toArray }) S₂.ev.hb.ti rfl
  have kk : Kp s { s₂ with heap := s₂.heap.push { cls := .type "list", data := .seq (List.replicate n.toNat v).toArray } } := (g₁.1.trans g₂.1).trans k₃
  have S₃ := S₂.mono k₃ (Nat.le_refl _)
  obtain ⟨m, hm⟩ := (hqu.mono (kle kk)).plx.isl
  have hul : us.length = xs.length := hru.length
  refine PySem.P.add_list (items := us.toArray) (items2 := (List.replicate n.toNat v).toArray) hm (gt_get g₃) ?_ (by
    have h2 : (List.replicate n.toNat v).toArray.size = n.toNat := by simp
    have h1 : us.toArray.size = us.length := by simp
    rw [h1, h2, hul]; have : sizeLine = 16777216 := by decide
    omega)
  generalize hgen : (s₂.heap.push { cls := .type "list", data := .seq (List.replicate n.toNat v).toArray }) = h3 at *
  have happ : us.toArray ++ (List.replicate n.toNat v).toArray = (us ++ List.replicate n.toNat v).toArray := by simp
  rw [happ]
  obtain ⟨u1, u2, u3, u4, u5⟩ := S₃.unB (get_size h3)
  have S₄ : StP F (h3.objs.size :: Hc) M G env σ B s₀ { s₂ with heap := h3.push { cls := .type "list", data := .seq (us ++ List.replicate n.toNat v).toArray } } :=
    S₃.hide (get_size h3) (Kp.of (t := s₂.toks) (rw_push _ _)) (Nat.le_refl _) ⟨_, gt_push_size S₃.ev.hb.ti rfl⟩
  have up : ∀ {g : Gt}, Le g (vis (M ++ Hc) h3) → Le g (vis (M ++ h3.objs.size :: Hc) (h3.push { cls := .type "list", data := .seq (us ++ List.replicate n.toNat v).toArray })) := fun {g} hle b o e => by
    obtain ⟨e1, e2⟩ := vis_get (hle b o e)
    refine vis_of (le_push _ _ b o e1) fun qm => ?_
    rcases List.mem_append.mp qm with h | h
    · exact e2 (List.mem_append_left _ h)
    · rcases List.mem_cons.mp h with h | h
      · rw [h, get_size] at e1; cases e1
      · exact e2 (List.mem_append_right _ h)
  refine S₄.own u1 u2 u3 u4 hx hst (isSq_push S₃.ev.hb.ti false _) (Reps.app (Reps.mono (up (vis_mono (kle kk))) _ _ hru) (reps_rep (rv.mono (up (vis_mono (kle k₃)))) _)) fun s' S' _ => ⟨rfl, _, _, S'⟩
end
end Mine
end

section
open PySem PySem.Calls PyProof.Rows
set_option Elab.async false
set_option maxRecDepth 100000
namespace Mine
noncomputable abbrev psInit : List Str := ["self", "ws"]
noncomputable abbrev nmInit : List Str := ["self", "ws", "S", "T", "count", "b", "n", "nt", "ch"]
section
variable {X : Cx} {k : Nat} {s0 s1 : Sl}
noncomputable abbrev FI (X : Cx) (k : Nat) : Fx := ⟨X, k, nmInit, nnInit, []⟩
noncomputable abbrev sIn (s0 s1 : Sl) (cnt : List Int) (b n nt : Int) (ch : Sl) : List Sl := [s0, s1, .fr (.str [32]), .fr (.str [9]), .ow (cnt.map .int), .fr (.int b), .fr (.int n), .fr (.int nt), ch]
theorem init_end {c : Nat} {rest : List D} {cnt : List Int} {b n nt : Int} {ch : Sl} (h1 : c ≠ 32) (h2 : c ≠ 9) : ForR (FI X k) tgInit lpInit (.str [c] :: rest) (sIn s0 s1 cnt b n nt ch) .nx (sIn s0 s1 cnt b n nt (.fr (.str [c]))) :=
  .bk (bd_name (i := 8) rfl) (exs_bk (ex_ifF (TsS.cast (ts_cmp (ev_name (i := 8) rfl rfl) (ev_name (i := 2) rfl rfl) cEqS) (show (([c] : List Nat) == [32]) = false by simp [h1])) (exs_bk (ex_ifF (TsS.cast (ts_cmp (ev_name (i := 8) rfl rfl) (ev_name (i := 3) rfl rfl) cEqS) (show (([c] : List Nat) == [9]) = false by simp [h2])) (exs_bk ex_brk)))))
theorem init_sp {rest : List D} {cnt : List Int} {nt : Int} {σ' : List Sl} : ∀ (m : Nat) (b n : Int) (ch : Sl), (∀ ch', ForR (FI X k) tgInit lpInit rest (sIn s0 s1 cnt (b + m) (n + m) nt ch') .nx σ') → ForR (FI X k) tgInit lpInit (List.replicate m (.str [32]) ++ rest) (sIn s0 s1 cnt b n nt ch) .nx σ'
  | 0, b, n, ch, h => by
    have := h ch
    simpa using this
  | m + 1, b, n, ch, h => by
    have ih := init_sp m (b + 1) (n + 1) (.fr (.str [32])) (fun ch' => by
      have := h ch'
      have e1 : b + 1 + (m : Int) = b + ((m + 1 : Nat) : Int) := by omega
      have e2 : n + 1 + (m : Int) = n + ((m + 1 : Nat) : Int) := by omega
      rw [e1, e2]; exact this)
    refine .go (d := .str [32]) (bd_name (i := 8) rfl) (σ₃ := sIn s0 s1 cnt (b + 1) (n + 1) nt (.fr (.str [32]))) ?_ ih
    exact exs_cons (ex_ifT (TsS.cast (ts_cmp (ev_name (i := 8) rfl rfl) (ev_name (i := 2) rfl rfl) cEqS) (by simp)) (exs_cons (ex_asg (i := 6) rfl (ev_bin (ev_name (i := 6) rfl rfl) ev_int (by first | exact bAdd | exact bCat (by first | assumption | omega | (constructor <;> omega) | (simp only [List.length_append, List.length_cons, List.length_nil]; omega) | (simp; done) | (simp; omega))))) (exs_cons (ex_asg (i := 5) rfl (ev_bin (ev_name (i := 5) rfl rfl) ev_int (by first | exact bAdd | exact bCat (by first | assumption | omega | (constructor <;> omega) | (simp only [List.length_append, List.length_cons, List.length_nil]; omega) | (simp; done) | (simp; omega))))) exs_nil))) exs_nil
theorem init_tab1 {b : Nat} {n nt : Int} {rest : List D} {ch : Sl} {σ' : List Sl} (hb : b ≤ 100) (h : ForR (FI X k) tgInit lpInit rest (sIn s0 s1 (List.replicate b 0 ++ [1]) 0 (n + 1) (nt + 1) (.fr (.str [9]))) .nx σ') :
    ForR (FI X k) tgInit lpInit (.str [9] :: rest) (sIn s0 s1 [] b n nt ch) .nx σ' := by
  have e0 : ((b : Int) - ((([] : List Int).map D.int).length : Nat) + 1).toNat = b + 1 := by simp
  have e1 : (List.replicate (b + 1) (0 : Int)).map D.int = List.replicate (b + 1) (D.int 0) := List.map_replicate
  have hset : (List.replicate (b + 1) (D.int 0)).set b (.int (0 + 1)) = (List.replicate b (0 : Int) ++ [1]).map D.int := by
    rw [List.replicate_succ', List.map_append, List.map_replicate]
    rw [List.set_append_right _ _ (by simp)]
    simp
  refine .go (d := .str [9]) (bd_name (i := 8) rfl) (σ₃ := sIn s0 s1 (List.replicate b 0 ++ [1]) 0 (n + 1) (nt + 1) (.fr (.str [9]))) ?_ h
  refine exs_cons (ex_ifF (TsS.cast (ts_cmp (ev_name (i := 8) rfl rfl) (ev_name (i := 2) rfl rfl) cEqS) (show (([9] : List Nat) == [32]) = false from rfl)) (exs_cons (ex_ifT (TsS.cast (ts_cmp (ev_name (i := 8) rfl rfl) (ev_name (i := 3) rfl rfl) cEqS) (show (([9] : List Nat) == [9]) = true from rfl)) ?_) exs_nil)) exs_nil
  refine exs_cons (ex_asg (i := 6) rfl (ev_bin (ev_name (i := 6) rfl rfl) ev_int (by first | exact bAdd | exact bCat (by first | assumption | omega | (constructor <;> omega) | (simp only [List.length_append, List.length_cons, List.length_nil]; omega) | (simp; done) | (simp; omega))))) (exs_cons (ex_asg (i := 7) rfl (ev_bin (ev_name (i := 7) rfl rfl) ev_int (by first | exact bAdd | exact bCat (by first | assumption | omega | (constructor <;> omega) | (simp only [List.length_append, List.length_cons, List.length_nil]; omega) | (simp; done) | (simp; omega))))) ?_)
  refine exs_cons (ex_ifT (σ' := [s0, s1, .fr (.str [32]), .fr (.str [9]), .ow (List.replicate (b + 1) (.int 0)), .fr (.int b), .fr (.int (n + 1)), .fr (.int (nt + 1)), .fr (.str [9])]) (TsS.cast (ts_cmp (ev_name (i := 5) rfl rfl) (ev_lenO (j := 4) rfl rfl (by first | assumption | omega | (constructor <;> omega) | (simp only [List.length_append, List.length_cons, List.length_nil]; omega) | (simp; done) | (simp; omega)) (by kernel_rfl)) cGe) (show decide ((b : Int) ≥ ((([] : List Int).map D.int).length : Nat)) = true by simp)) (exs_cons (ExS.cast (ex_asgCat (i := 4) (xs := []) (c := _) (d := .int 0) (n := (b : Int) - ((([] : List Int).map D.int).length : Nat) + 1) rfl rfl ev_int (ev_bin (ev_bin (ev_name (i := 5) rfl rfl) (ev_lenO (j := 4) rfl rfl (by first | assumption | omega | (constructor <;> omega) | (simp only [List.length_append, List.length_cons, List.length_nil]; omega) | (simp; done) | (simp; omega)) (by kernel_rfl)) bSub) ev_int (by first | exact bAdd | exact bCat (by first | assumption | omega | (constructor <;> omega) | (simp only [List.length_append, List.length_cons, List.length_nil]; omega) | (simp; done) | (simp; omega)))) (by simp; omega) (by simp) rfl (fun _ _ => rfl)) rfl ?_) exs_nil)) ?_
  · rw [e0]; rfl
  have hget : (List.replicate (b + 1) (D.int 0))[b]? = some (.int 0) := by simp
  refine exs_cons (ExS.cast (ex_setO (i := 4) (n := b) rfl rfl (ev_name (i := 5) rfl rfl) (ev_bin (ev_idxO (j := 4) rfl rfl (ev_name (i := 5) rfl rfl) (.pos b hget (by omega))) ev_int bAdd) (by omega) (by simp [seqIndex?]; omega)) rfl (congrArg (fun z => [s0, s1, .fr (.str [32]), .fr (.str [9]), Sl.ow z, .fr (.int b), .fr (.int (n + 1)), .fr (.int (nt + 1)), .fr (.str [9])]) hset)) ?_
  exact exs_cons (ex_asg (i := 5) rfl ev_int) exs_nil
theorem init_tab2 {c : Int} {r : List Int} {n nt : Int} {rest : List D} {ch : Sl} {σ' : List Sl} (hl : r.length ≤ 100) (h : ForR (FI X k) tgInit lpInit rest (sIn s0 s1 ((c + 1) :: r) 0 (n + 1) (nt + 1) (.fr (.str [9]))) .nx σ') :
    ForR (FI X k) tgInit lpInit (.str [9] :: rest) (sIn s0 s1 (c :: r) 0 n nt ch) .nx σ' := by
  have hlen : (((c :: r).map D.int).length : Int) = (r.length : Int) + 1 := by simp
  refine .go (d := .str [9]) (bd_name (i := 8) rfl) (σ₃ := sIn s0 s1 ((c + 1) :: r) 0 (n + 1) (nt + 1) (.fr (.str [9]))) ?_ h
  refine exs_cons (ex_ifF (TsS.cast (ts_cmp (ev_name (i := 8) rfl rfl) (ev_name (i := 2) rfl rfl) cEqS) (show (([9] : List Nat) == [32]) = false from rfl)) (exs_cons (ex_ifT (TsS.cast (ts_cmp (ev_name (i := 8) rfl rfl) (ev_name (i := 3) rfl rfl) cEqS) (show (([9] : List Nat) == [9]) = true from rfl)) ?_) exs_nil)) exs_nil
  refine exs_cons (ex_asg (i := 6) rfl (ev_bin (ev_name (i := 6) rfl rfl) ev_int (by first | exact bAdd | exact bCat (by first | assumption | omega | (constructor <;> omega) | (simp only [List.length_append, List.length_cons, List.length_nil]; omega) | (simp; done) | (simp; omega))))) (exs_cons (ex_asg (i := 7) rfl (ev_bin (ev_name (i := 7) rfl rfl) ev_int (by first | exact bAdd | exact bCat (by first | assumption | omega | (constructor <;> omega) | (simp only [List.length_append, List.length_cons, List.length_nil]; omega) | (simp; done) | (simp; omega))))) ?_)
  refine exs_cons (ex_ifF (TsS.cast (ts_cmp (ev_name (i := 5) rfl rfl) (ev_lenO (j := 4) (xs := (c :: r).map D.int) rfl rfl (by have : strLid = 100000 := rfl; simp; omega) (by kernel_rfl)) cGe) (show decide ((0 : Int) ≥ (((c :: r).map D.int).length : Nat)) = false by rw [hlen]; first | (simp; done) | (simp; omega))) exs_nil) ?_
  refine exs_cons (ex_setO (i := 4) (n := 0) (xs := (c :: r).map D.int) rfl rfl (ev_name (i := 5) rfl rfl) (ev_bin (ev_idxO (j := 4) rfl rfl (ev_name (i := 5) rfl rfl) (.pos 0 rfl (by omega))) ev_int bAdd) (by omega) (by simp [seqIndex?])) ?_
  exact exs_cons (ex_asg (i := 5) rfl ev_int) exs_nil
end
end Mine
end

section
open PySem PySem.Calls PyProof.Rows
set_option Elab.async false
set_option maxRecDepth 100000
namespace Mine
theorem Wd.up0 {X : Cx} (W : Wd X) {h0' : Heap} (k : Le X.h0.get? h0'.get?) (nt : ∀ a ∈ tbs, h0'.get? a = none) : Wd { X with h0 := h0' } := by
  refine ⟨nt, W.g.keeps k, W.b.keeps k, W.nl.keeps k, fun b o e => k b o (W.kin b o e), W.bi, W.hd, fun t ht => (W.cd t ht).keeps k, fun t ht => ?_, W.at_, ?_⟩
  · obtain ⟨bm, o, a1, a2, a3, a4, a5, a6⟩ := W.bn t ht
    exact ⟨bm, o, a1, a2, a3, a4, k _ _ a5, a6⟩
  · obtain ⟨a, f, a1, a2, a3⟩ := W.tok
    exact ⟨a, f, a1, mapOf_mono k a2, a3⟩
/-- what __init__ reads of its class -/
structure KlsR (X : Cx) : Prop extends Kls X where
  g : X.mg "Whitespace" = some (.ref X.C)
  mc : ∃ mc, PySem.W.readsIn X.K X.C mc = true ∧ PySem.W.typeIn X.K (.ref X.C) = some mc ∧ (∃ t, PySem.W.findCls X.K (.ref X.C) mc "S" = some (.val (.str ⟨([32] : List Nat).toArray⟩ t))) ∧ ∃ t, PySem.W.findCls X.K (.ref X.C) mc "T" = some (.val (.str ⟨([9] : List Nat).toArray⟩ t))
  r1 : PySem.W.plainGet X.K X.C "raw" = true
  r2 : PySem.W.findIn X.K (.ref X.C) "raw" = some none
section
variable {X : Cx} {k : Nat}
theorem init_mid {Hc M : List Addr} {G : Nat → Addr} {env : Env} {B : Gt} {s₀ s : Shared} {A : Around} {x dx : Addr} {T : List Nat} {c : List Int} {tr n' nt : Int} {ch : Sl} {mc : Value} {tS tT : Tok} {es : List DictEntry} {n : Nat} {t : Tok} {Qf : Flow → Shared → Prop}
    (S : StP (FI X k) Hc M G env [.fr (.ptr x), .fr (.str T), .un, .un, .un, .un, .un, .un, .un] B s₀ s) (R : Rm k A) (c1 : PySem.W.readsIn X.K X.C mc = true) (c2 : PySem.W.typeIn X.K (.ref X.C) = some mc) (c3 : PySem.W.findCls X.K (.ref X.C) mc "S" = some (.val (.str ⟨([32] : List Nat).toArray⟩ tS))) (c4 : PySem.W.findCls X.K (.ref X.C) mc "T" = some (.val (.str ⟨([9] : List Nat).toArray⟩ tT)))
    (hg : X.mg "Whitespace" = some (.ref X.C)) (hx : X.h0.get? x = some (PySem.W.instObj X.C dx)) (hd : X.h0.get? dx = some (PySem.W.dictOf es n)) (h2 : PySem.W.getL "raw" es = some (some (.str ⟨T.toArray⟩ t))) (r1 : PySem.W.plainGet X.K X.C "raw" = true) (r2 : PySem.W.findIn X.K (.ref X.C) "raw" = some none) (hT : T.length ≤ 1000)
    (L : ForR (FI X k) tgInit lpInit (T.map fun c => .str [c]) (sIn (.fr (.ptr x)) (.fr (.str T)) [] 0 0 0 .un) .nx (sIn (.fr (.ptr x)) (.fr (.str T)) c tr n' nt ch))
    (K : ∀ s' M' G', StP (FI X k) Hc M' G' env (sIn (.fr (.ptr x)) (.fr (.str T)) c tr n' nt ch) B s₀ s' → wpAny (Md X) A (execs (bdInit.drop 5) env) Qf E0 s') : wpAny (Md X) A (execs (bdInit.drop 1) env) Qf E0 s := by
  have hlid : T.length ≤ strLid := by have : strLid = 100000 := rfl; omega
  refine wpAny_execs_cons (wpAny_mono ((ex_tupA (F := FI X k) (i := 2) (j := 3) (d1 := .str [32]) (d2 := .str [9]) rfl rfl (ev_tuple (es_cons (ev_cls (by kernel_rfl) rfl hg c1 c2 c3) (es_cons (ev_cls (by kernel_rfl) rfl hg c1 c2 c4) es_nil))) (by kernel_rfl) (by kernel_rfl) (by kernel_rfl) (by rfl)) _ _ _ _ _ _ _ _ S R) (fun f s4 h4 => ?_) fun _ _ e => e)
  obtain ⟨rfl, M4, G4, S4⟩ := h4
  refine wpAny_execs_cons (wpAny_mono ((ex_asgO (F := FI X k) (i := 4) rfl (by kernel_rfl)) _ _ _ _ _ _ _ _ S4 R) (fun f s5 h5 => ?_) fun _ _ e => e)
  obtain ⟨rfl, M5, G5, S5⟩ := h5
  refine wpAny_execs_cons (wpAny_mono ((ex_asg3 (F := FI X k) (i := 5) (j := 6) (k := 7) (d := .int 0) rfl rfl rfl ev_int (by kernel_rfl) (by kernel_rfl) (by kernel_rfl) (fun _ => rfl)) _ _ _ _ _ _ _ _ S5 R) (fun f s6 h6 => ?_) fun _ _ e => e)
  obtain ⟨rfl, M6, G6, S6⟩ := h6
  refine wpAny_execs_cons (wpAny_mono ((ex_for (F := FI X k) (src_str (ev_raw (i := 0) rfl rfl hx hd h2 r1 r2) hlid) L) _ _ _ _ _ _ _ _ S6 R) (fun f s7 h7 => ?_) fun _ _ e => e)
  obtain ⟨rfl, M7, G7, S7⟩ := h7
  exact K _ _ _ S7
theorem ct_init {a : Addr} {T : List Nat} {c : List Int} {tr nt : Int} (W : Wd X) (Z : ∃ fd, FnAt X a fd bdInit psInit ∧ fd.scope.names = nnInit) (Q : KlsR X) (hT : T.length ≤ 1000) (hc : c.length ≤ 1000)
    (L : ∀ h0' s0 s1, ∃ n ch, ForR (FI { X with h0 := h0' } k) tgInit lpInit (T.map fun c => .str [c]) (sIn s0 s1 [] 0 0 0 .un) .nx (sIn s0 s1 c tr n nt ch)) : CtInit X (k + 1) a (.str T) c tr nt := by
  intro A s H x dx v Rr R w0 h0d HB hdH hxd tk hx hdx rv post
  obtain ⟨fd, Z, hns⟩ := Z
  obtain ⟨mc, c1, c2, ⟨tS, c3⟩, ⟨tT, c4⟩⟩ := Q.mc
  have hlid : strLid = 100000 := rfl
  refine fn_enterC (F := FI X k) (H := dx :: H) (ds := [.ptr x, .str T]) (rest := ["S", "T", "count", "b", "n", "nt", "ch"]) W Z hns.symm rfl rfl (by rw [hns]; kernel_rfl) rfl R w0 HB tk (.mkC .mkP (.mkC rv .mkN)) fun s₁ M htk hLM hkind S => ?_
  refine wpAny_mono (E := E0) (Q := fun f s' => f = .next ∧ InitPost X H dx c tr nt s s') ?_ (fun f s' h => by obtain ⟨rfl, h⟩ := h; exact post s' h) (fun _ _ e => e.elim)
  have R' : Rm k (A.deeper (callEnvC fd s.heap.objs.size a)) := R.deep
  generalize callEnvC fd s.heap.objs.size a = env at *
  generalize A.deeper env = A' at *
  obtain ⟨hx1, _⟩ := vis_get (S.kp _ _ hx)
  obtain ⟨hd1, hdM⟩ := vis_get (S.kp _ _ hdx)
  have hcl : ∀ y c, env.cells.lookup y = some c → c ≠ dx := fun y c h q => by
    obtain ⟨⟨u, ⟨o, e1, e2⟩, _⟩, _⟩ := S.cm y c h
    rw [q, gt_get hd1] at e1; cases e1; cases e2
  have hB : vis [dx] s.heap dx = none := by unfold vis; rw [if_pos (by simp)]
  have S := S.base (B := vis [dx] s.heap) fun b o e => (vis_get e).1 |> fun e => e
  have hk0 : StrK [] := fun e he => nomatch he
  refine wpAny_execs_cons (asg_attr (F := FI X k) (i := 0) (name := "raw") S R' (ev_name (i := 1) rfl rfl) rfl rfl ⟨hdM, hB, h0d, hcl⟩ Q.toKls (by decide) hxd hx1 hd1 hk0 (by decide) rfl fun s2 v2 hs2 t2 n2 S2 hx2 hd2 rv2 k2 => ?_)
  obtain ⟨t2', rfl⟩ := rv2.strI
  have sk2 := strK_put (name := "raw") (h := hs2) (t := t2) (v := Value.str ⟨T.toArray⟩ t2') hk0
  have hg2 := getL_put "raw" hs2 t2 (Value.str ⟨T.toArray⟩ t2') []
  have ln2 := putL_len "raw" hs2 (.str "raw" t2) (Value.str ⟨T.toArray⟩ t2') []
  simp only [List.length_nil] at ln2
  have mt2 : ∀ m ∈ methN, PySem.W.getL m (PySem.W.putL "raw" hs2 (.str "raw" t2) (Value.str ⟨T.toArray⟩ t2') []) = some none := fun m hm => by
    rw [getL_put' ((by decide +kernel : ∀ m ∈ methN, m ≠ "raw") m hm) hk0]; rfl
  generalize PySem.W.putL "raw" hs2 (.str "raw" t2) (Value.str ⟨T.toArray⟩ t2') [] = es2 at *
  -- the ghost heap with the new object
  have hxM : x ∉ M := (vis_get (S2.kp _ _ (vis_of hx (by simpa using hxd)))).2
  obtain ⟨h0', hh⟩ : ∃ h, h = PySem.W.hideAll s2.heap (tbs ++ M) := ⟨_, rfl⟩
  have hin : ∀ b o, gt s2.heap b = some o → b ∉ M → h0'.get? b = some o := fun b o e n => by
    rw [hh]; exact PySem.W.hideAll_get _ (gt_get e) fun q => (List.mem_append.mp q).elim (gt_tb e) n
  have hno : ∀ b, b ∈ tbs ++ M → h0'.get? b = none := fun b hb => by rw [hh]; exact PySem.W.hideAll_none _ hb
  have hk : Le X.h0.get? h0'.get? := fun b o e => hin b o (S2.ev.w0 _ _ e) fun q => by have := S2.mf b q; rw [show X.h0.get? b = some o from e] at this; cases this
  have hw : Le h0'.get? (gt s2.heap) := fun b o e => by
    have hb : b ∉ tbs := fun q => by rw [hno b (List.mem_append_left _ q)] at e; cases e
    rw [hh] at e
    exact gt_of (PySem.W.of_hideAll _ e) hb
  have hx0 := hin _ _ hx2 hxM
  have hd0 := hin _ _ hd2 hdM
  clear hh
  have S3 := S2.gh (h0' := h0') hk hw (W.up0 hk fun a ha => hno a (List.mem_append_left _ ha)) fun a ha => hno a (List.mem_append_right _ ha)
  obtain ⟨n', ch, L'⟩ := L h0' (.fr (.ptr x)) (.fr (.str T))
  refine init_mid (X := { X with h0 := h0' }) S3 R' c1 c2 c3 c4 Q.g hx0 hd0 hg2 Q.r1 Q.r2 hT L' fun s7 M7 G7 S7 => ?_
  have hx7 := S7.ev.w0 _ _ hx0
  have hd7 := S7.ev.w0 _ _ hd0
  have hdM7 : dx ∉ M7 := fun q => by have := S7.mf _ q; rw [show h0'.get? dx = _ from hd0] at this; cases this
  have S7 := StP.ungh (F := FI X k) S7 hk W
  have S8 := S7.freeze (i := 4) (xs := c.map .int) rfl
  have hdM8 : dx ∉ M7.filter (· ≠ G7 4) := fun q => hdM7 (List.mem_filter.mp q).1
  have hcl2 : ((c.map D.int).length) ≤ strLid := by rw [List.length_map]; omega
  have hM8 : ∀ s', dx ∉ M7.filter (· ≠ G7 4) ∧ vis [dx] s.heap dx = none ∧ X.h0.get? dx = none ∧ ∀ y c, env.cells.lookup y = some c → c ≠ dx := fun _ : Shared => ⟨hdM8, hB, h0d, hcl⟩
  refine wpAny_execs_cons (asg_attr (F := FI X k) (i := 0) (name := "n") S8 R' (ev_name (i := 6) rfl rfl) rfl rfl (hM8 s7) Q.toKls (by decide) hxd hx7 hd7 sk2 (by omega) rfl fun s9 v9 hs9 t9 n9 S9 hx9 hd9 rv9 k9 => ?_)
  have sk9 := strK_put (name := "n") (h := hs9) (t := t9) (v := v9) sk2
  have ln9 := putL_len "n" hs9 (.str "n" t9) v9 es2
  have mt9 : ∀ m ∈ methN, PySem.W.getL m (PySem.W.putL "n" hs9 (.str "n" t9) v9 es2) = some none := fun m hm => by
    rw [getL_put' ((by decide +kernel : ∀ m ∈ methN, m ≠ "n") m hm) sk2]; exact mt2 m hm
  generalize PySem.W.putL "n" hs9 (.str "n" t9) v9 es2 = es9 at *
  refine wpAny_execs_cons (asg_attr (F := FI X k) (i := 0) (name := "nt") S9 R' (ev_name (i := 7) rfl rfl) rfl rfl (hM8 s9) Q.toKls (by decide) hxd hx9 hd9 sk9 (by omega) rfl fun s10 v10 hs10 t10 n10 S10 hx10 hd10 rv10 k10 => ?_)
  obtain ⟨t10', rfl⟩ := rv10.intI
  have sk10 := strK_put (name := "nt") (h := hs10) (t := t10) (v := Value.int nt t10') sk9
  have ln10 := putL_len "nt" hs10 (.str "nt" t10) (Value.int nt t10') es9
  have mt10 : ∀ m ∈ methN, PySem.W.getL m (PySem.W.putL "nt" hs10 (.str "nt" t10) (Value.int nt t10') es9) = some none := fun m hm => by
    rw [getL_put' ((by decide +kernel : ∀ m ∈ methN, m ≠ "nt") m hm) sk9]; exact mt9 m hm
  have nt10 := getL_put "nt" hs10 t10 (Value.int nt t10') es9
  generalize PySem.W.putL "nt" hs10 (.str "nt" t10) (Value.int nt t10') es9 = es10 at *
  refine wpAny_execs_cons (asg_attr (F := FI X k) (i := 0) (name := "norm") (d := .seq true [.seq true (c.map .int), .int tr]) S10 R' (ev_tuple (es_cons (ev_bi (n := "tuple") (f := .type "tuple") (by simp [biL]) (es_cons (ev_name (i := 4) rfl rfl) es_nil) (biTuple hcl2) (by kernel_rfl) (.inr ⟨_, rfl⟩)) (es_cons (ev_name (i := 5) rfl rfl) es_nil))) rfl rfl (hM8 s10) Q.toKls (by decide) hxd hx10 hd10 sk10 (by omega) rfl fun s11 v11 hs11 t11 n11 S11 hx11 hd11 rv11 k11 => ?_)
  obtain ⟨vn, us, rfl, hqn, hrn⟩ := rv11.seqI
  have sk11 := strK_put (name := "norm") (h := hs11) (t := t11) (v := Value.ref vn) sk10
  have ln11 := putL_len "norm" hs11 (.str "norm" t11) (Value.ref vn) es10
  have mt11 : ∀ m ∈ methN, PySem.W.getL m (PySem.W.putL "norm" hs11 (.str "norm" t11) (Value.ref vn) es10) = some none := fun m hm => by
    rw [getL_put' ((by decide +kernel : ∀ m ∈ methN, m ≠ "norm") m hm) sk10]; exact mt10 m hm
  have nt11 : PySem.W.getL "nt" (PySem.W.putL "norm" hs11 (.str "norm" t11) (Value.ref vn) es10) = some (some (.int nt t10')) := by
    rw [getL_put' (by decide +kernel) sk10]; exact nt10
  have nm11 := getL_put "norm" hs11 t11 (Value.ref vn) es10
  generalize PySem.W.putL "norm" hs11 (.str "norm" t11) (Value.ref vn) es10 = es11 at *
  refine wpAny_execs_cons (asg_attr (F := FI X k) (i := 0) (name := "is_simple") S11 R' (ev_cmp (ev_bi (n := "len") (f := .builtin "len") (by simp [biL]) (es_cons (ev_name (i := 4) rfl rfl) es_nil) (biLen hcl2) (by kernel_rfl) (.inl ⟨_, rfl⟩)) ev_int cLe) rfl rfl (hM8 s11) Q.toKls (by decide) hxd hx11 hd11 sk11 (by omega) rfl fun s12 v12 hs12 t12 n12 S12 hx12 hd12 rv12 k12 => ?_)
  refine wpAny_execs_nil ⟨rfl, S12.sh, fun b o e => ?_, S12.ev.hb.ti, _, n12, vn, t10', hd12, fun m hm => ?_, ?_, ?_, ?_⟩
  · obtain ⟨e1, e2⟩ := vis_get e
    exact vis_of (vis_get (S12.kp _ _ e)).1 e2
  · rw [getL_put' ((by decide +kernel : ∀ m ∈ methN, m ≠ "is_simple") m hm) sk11]; exact mt11 m hm
  · rw [getL_put' (by decide +kernel) sk11]; exact nm11
  · rw [getL_put' (by decide +kernel) sk11]; exact nt11
  · have r1 := (Rep.mkQ hqn hrn).mono (vis_sub s11.heap (H := M7.filter (· ≠ G7 4) ++ dx :: H) (H' := dx :: H) fun a h => List.mem_append_right _ h)
    refine r1.mono fun b o e => ?_
    obtain ⟨e1, e2⟩ := vis_get e
    exact vis_of (k12 _ _ (fun q => e2 (by rw [q]; exact .head _)) e1) e2
end
end Mine
end

section
open PySem PySem.Calls PyProof.Rows
set_option Elab.async false
set_option maxRecDepth 100000
namespace Mine
section
variable {X : Cx} {k : Nat} {s0 s1 : Sl}
theorem lead_loop1 {m e : Nat} (hm : m ≤ 100) : ∃ n ch, ForR (FI X k) tgInit lpInit ((List.replicate m 32 ++ ([9] ++ (List.replicate e 32 ++ [120, 32, 9]))).map fun c => D.str [c]) (sIn s0 s1 [] 0 0 0 .un) .nx (sIn s0 s1 (List.replicate m 0 ++ [1]) e n 1 ch) := by
  refine ⟨(0 : Int) + m + 1 + e, .fr (.str [120]), ?_⟩
  simp only [List.map_append, List.map_replicate, List.map_cons, List.map_nil, List.cons_append, List.nil_append]
  refine init_sp m 0 0 .un fun ch => ?_
  rw [Int.zero_add]
  refine init_tab1 hm ?_
  refine init_sp e 0 _ _ fun ch => ?_
  rw [Int.zero_add, Int.zero_add]
  exact init_end (by decide) (by decide)
theorem lead_loop2 {m e : Nat} (hm : m ≤ 90) : ∃ n ch, ForR (FI X k) tgInit lpInit ((List.replicate (m + 1) 32 ++ ([9, 9] ++ (List.replicate e 32 ++ [120, 32, 9]))).map fun c => D.str [c]) (sIn s0 s1 [] 0 0 0 .un) .nx (sIn s0 s1 (1 :: (List.replicate m 0 ++ [1])) e n 2 ch) := by
  refine ⟨(0 : Int) + (m + 1 : Nat) + 1 + 1 + e, .fr (.str [120]), ?_⟩
  simp only [List.map_append, List.map_replicate, List.map_cons, List.map_nil, List.cons_append, List.nil_append]
  refine init_sp (m + 1) 0 0 .un fun ch => ?_
  rw [Int.zero_add]
  refine init_tab1 (b := m + 1) (by omega) ?_
  rw [List.replicate_succ, List.cons_append]
  refine init_tab2 (c := 0) (r := List.replicate m 0 ++ [1]) (by simp; omega) ?_
  refine init_sp e 0 _ _ fun ch => ?_
  rw [Int.zero_add, Int.zero_add]
  exact init_end (c := 120) (by decide) (by decide)
end
noncomputable abbrev psLead : List Str := ["column", "tabs", "blanks"]
theorem lead_txt {m : Nat} {t e : Nat} : List.replicate ((m : Int)).toNat 32 ++ List.replicate ((t : Int)).toNat 9 ++ List.replicate ((e : Int)).toNat 32 ++ [120, 32, 9] = List.replicate m 32 ++ (List.replicate t 9 ++ (List.replicate e 32 ++ [120, 32, 9])) := by simp
theorem ct_lead {X : Cx} (W : Wd X) {a fI : Addr} (Z : FnR X "_law_lead" a bdLead psLead nnLead) (Zm : Mk X fI) (Zi : ∃ fd, FnAt X fI fd bdInit psInit ∧ fd.scope.names = nnInit) (Q : KlsR X) {m t e : Nat} {c : List Int} {nt : Int} (hm : m ≤ 100) (ht : t ≤ 2) (he : e ≤ 3) (hc : c.length ≤ 1000)
    (L : ∀ h0' s0 s1, ∃ n ch, ForR (FI { X with h0 := h0' } 0) tgInit lpInit ((List.replicate m 32 ++ (List.replicate t 9 ++ (List.replicate e 32 ++ [120, 32, 9]))).map fun c => D.str [c]) (sIn s0 s1 [] 0 0 0 .un) .nx (sIn s0 s1 c e n nt ch)) :
    Ct X 3 a [.int m, .int t, .int e] (.ws c e nt) := by
  have hlid : strLid = 100000 := rfl
  have C := ct_init (X := X) (k := 0) W Zi Q (by simp only [List.length_append, List.length_replicate, List.length_cons, List.length_nil]; omega) hc L
  refine fn_ct [] W Z.f 2 (by decide) rfl (by kernel_rfl) rfl (exs_ret (ex_ret (ev_make (k := 1) Zm (EvS.cast (ev_bin (ev_bin (ev_bin (ev_bin (ev_strL [32] (by kernel_rfl)) (ev_name (i := 0) rfl rfl) (by first | exact bMulL (by first | assumption | omega | (constructor <;> omega) | (simp only [List.length_append, List.length_cons, List.length_nil]; omega) | (simp; done) | (simp; omega)) | exact bMulR (by first | assumption | omega | (constructor <;> omega) | (simp only [List.length_append, List.length_cons, List.length_nil]; omega) | (simp; done) | (simp; omega)) | exact bRepS (by first | assumption | omega | (constructor <;> omega) | (simp only [List.length_append, List.length_cons, List.length_nil]; omega) | (simp; done) | (simp; omega)) (by first | assumption | omega | (constructor <;> omega) | (simp only [List.length_append, List.length_cons, List.length_nil]; omega) | (simp; done) | (simp; omega)))) (ev_bin (ev_strL [9] (by kernel_rfl)) (ev_name (i := 1) rfl rfl) (by first | exact bMulL (by first | assumption | omega | (constructor <;> omega) | (simp only [List.length_append, List.length_cons, List.length_nil]; omega) | (simp; done) | (simp; omega)) | exact bMulR (by first | assumption | omega | (constructor <;> omega) | (simp only [List.length_append, List.length_cons, List.length_nil]; omega) | (simp; done) | (simp; omega)) | exact bRepS (by first | assumption | omega | (constructor <;> omega) | (simp only [List.length_append, List.length_cons, List.length_nil]; omega) | (simp; done) | (simp; omega)) (by first | assumption | omega | (constructor <;> omega) | (simp only [List.length_append, List.length_cons, List.length_nil]; omega) | (simp; done) | (simp; omega)))) (by first | exact bAdd | exact bCat (by first | assumption | omega | (constructor <;> omega) | (simp only [List.length_append, List.length_cons, List.length_nil]; omega) | (simp; done) | (simp; omega)))) (ev_bin (ev_strL [32] (by kernel_rfl)) (ev_name (i := 2) rfl rfl) (by first | exact bMulL (by first | assumption | omega | (constructor <;> omega) | (simp only [List.length_append, List.length_cons, List.length_nil]; omega) | (simp; done) | (simp; omega)) | exact bMulR (by first | assumption | omega | (constructor <;> omega) | (simp only [List.length_append, List.length_cons, List.length_nil]; omega) | (simp; done) | (simp; omega)) | exact bRepS (by first | assumption | omega | (constructor <;> omega) | (simp only [List.length_append, List.length_cons, List.length_nil]; omega) | (simp; done) | (simp; omega)) (by first | assumption | omega | (constructor <;> omega) | (simp only [List.length_append, List.length_cons, List.length_nil]; omega) | (simp; done) | (simp; omega)))) (by first | exact bAdd | exact bCat (by first | assumption | omega | (constructor <;> omega) | (simp only [List.length_append, List.length_cons, List.length_nil]; omega) | (simp; done) | (simp; omega)))) (ev_strL [120, 32, 9] (by kernel_rfl)) (by first | exact bAdd | exact bCat (by first | assumption | omega | (constructor <;> omega) | (simp only [List.length_append, List.length_cons, List.length_nil]; omega) | (simp; done) | (simp; omega)))) (congrArg D.str lead_txt)) C rfl (by kernel_rfl))))
end Mine
end

section
open PySem PySem.Calls PyProof.Rows
set_option Elab.async false
set_option maxRecDepth 100000
namespace Mine
theorem ilF_one : ∀ m, m < 17 → ∀ s, s < 18 → 1 ≤ s → ilF (List.replicate m 0 ++ [1]) (s : Nat) ((List.range ((List.replicate m (0 : Int) ++ [1]).length - ((s : Nat) : Int).toNat)).map fun (k : Nat) => ((s : Nat) : Int) + (k : Int)) 0 = ((m / s : Nat) : Int) := by decide +kernel
theorem ilF_two : ∀ m, m < 17 → ∀ s, s < 18 → 1 ≤ s → ilF (1 :: (List.replicate m 0 ++ [1])) (s : Nat) ((List.range ((1 :: (List.replicate m (0 : Int) ++ [1])).length - ((s : Nat) : Int).toNat)).map fun (k : Nat) => ((s : Nat) : Int) + (k : Int)) 0 = (((m + 1) / s : Nat) : Int) := by decide +kernel
theorem ind_one {m s : Nat} (e : Int) (hm : m ≤ 16) (hs : 1 ≤ s ∧ s ≤ 17) : ind (List.replicate m 0 ++ [1]) e 1 s = e + s * ((m / s : Nat) + 1) := by
  unfold ind
  rw [ilF_one m (by omega) s (by omega) hs.1]
theorem ind_two {m s : Nat} (e : Int) (hm : m ≤ 16) (hs : 1 ≤ s ∧ s ≤ 17) : ind (1 :: (List.replicate m 0 ++ [1])) e 2 s = e + s * (((m + 1) / s : Nat) + 2) := by
  unfold ind
  rw [ilF_two m (by omega) s (by omega) hs.1]
/-- a step of the chain, plainly -/
noncomputable def stN (bit : Bool) (B z : Nat) : Rw4 := if bit = true then ⟨1, ((B - 1) / z + 1 : Nat), z, (z * ((B - 1) / z + 1) : Nat) - (B : Int)⟩ else ⟨-1, (B / z : Nat), z, (B : Int) - (z * (B / z) : Nat)⟩
theorem stp_eq {B z : Nat} {e picks : Int} {k : Nat} (hB : 1 ≤ B ∧ B ≤ 16) (hz : 1 ≤ z ∧ z ≤ 17) : stp (ind (List.replicate (B - 1) 0 ++ [1]) e 1) (ind (List.replicate B 0 ++ [1]) e 1) B e picks k z = stN (decide ((picks.fdiv (2 ^ k)).fmod 2 = 1)) B z := by
  unfold stp stN
  have h1 : ind (List.replicate (B - 1) 0 ++ [1]) e 1 z - e = ((z * ((B - 1) / z + 1) : Nat) : Int) := by rw [ind_one e (by omega) hz]; push_cast; omega
  have h2 : ind (List.replicate B 0 ++ [1]) e 1 z - e - z = ((z * (B / z) : Nat) : Int) := by rw [ind_one e (by omega) hz]; push_cast; rw [Int.mul_add]; omega
  rw [h1, h2]
  have f1 : (((z * ((B - 1) / z + 1) : Nat) : Int)).fdiv z = (((B - 1) / z + 1 : Nat) : Int) := by
    rw [Int.fdiv_eq_ediv_of_nonneg _ (by omega)]
    rw [← Int.natCast_ediv, Nat.mul_div_cancel_left _ (by omega)]
  have f2 : (((z * (B / z) : Nat) : Int)).fdiv z = ((B / z : Nat) : Int) := by
    rw [Int.fdiv_eq_ediv_of_nonneg _ (by omega)]
    rw [← Int.natCast_ediv, Nat.mul_div_cancel_left _ (by omega)]
  rw [f1, f2]
  simp only [decide_eq_true_eq]
set_option synthInstance.maxSize 4000 in
set_option synthInstance.maxHeartbeats 400000 in
theorem stN_all1 : ∀ B, B < 17 → ∀ z, z < 17 → 1 ≤ z → z ≤ B → ∀ j, j < 2 → ((stN (j == 1) B z).s = 1 ∨ (stN (j == 1) B z).s = -1) ∧ (stN (j == 1) B z).z = z ∧ 0 ≤ (stN (j == 1) B z).c ∧ (stN (j == 1) B z).c ≤ 100 ∧ 0 ≤ (stN (j == 1) B z).e ∧ (stN (j == 1) B z).e < z ∧ (stN (j == 1) B z).s * ((stN (j == 1) B z).c * z - B) = (stN (j == 1) B z).e := by decide +kernel
theorem stN_all (B : Nat) (hB : B < 17) (z : Nat) (hz : z < 17) (h1 : 1 ≤ z) (h2 : z ≤ B) (bit : Bool) : ((stN bit B z).s = 1 ∨ (stN bit B z).s = -1) ∧ (stN bit B z).z = z ∧ 0 ≤ (stN bit B z).c ∧ (stN bit B z).c ≤ 100 ∧ 0 ≤ (stN bit B z).e ∧ (stN bit B z).e < z ∧ (stN bit B z).s * ((stN bit B z).c * z - B) = (stN bit B z).e := by
  cases bit with
  | true => exact stN_all1 B hB z hz h1 h2 1 (by decide)
  | false => exact stN_all1 B hB z hz h1 h2 0 (by decide)
theorem stN_ok {B z : Nat} (hB : B ≤ 16) (hz : 1 ≤ z ∧ z ≤ B) (bit : Bool) : RowOk B (stN bit B z) := by
  obtain ⟨h1, h2, h3, h4, h5, h6, h7⟩ := stN_all B (by omega) z (by omega) hz.1 hz.2 bit
  exact ⟨h1, by rw [h2]; omega, by omega, by rw [h2]; exact ⟨h5, h6⟩, by rw [h2]; exact h7⟩
/-- the chain, plainly -/
noncomputable def chN (bit : Nat → Bool) (B : Nat) : Nat → Nat → Nat → List Rw4
  | 0, _, _ => []
  | n + 1, k, z => if z = 0 then [] else stN (bit k) B z :: chN bit B n (k + 1) (stN (bit k) B z).e.toNat
theorem chn_eq {B : Nat} {e picks : Int} (hB : 1 ≤ B ∧ B ≤ 16) : ∀ (n k z : Nat), z ≤ B → chn (ind (List.replicate (B - 1) 0 ++ [1]) e 1) (ind (List.replicate B 0 ++ [1]) e 1) B e picks n k z = chN (fun k => decide ((picks.fdiv (2 ^ k)).fmod 2 = 1)) B n k z
  | 0, _, _, _ => rfl
  | n + 1, k, z, hz => by
    unfold chn chN
    by_cases h0 : z = 0
    · rw [if_neg (by omega), if_pos h0]
    · obtain ⟨_, _, _, _, h5, h6, _⟩ := stN_all B (by omega) z (by omega) (by omega) hz (decide ((picks.fdiv (2 ^ k)).fmod 2 = 1))
      rw [if_pos (by omega), if_neg h0, stp_eq hB (by omega)]
      have he : (stN (decide ((picks.fdiv (2 ^ k)).fmod 2 = 1)) B z).e = (((stN (decide ((picks.fdiv (2 ^ k)).fmod 2 = 1)) B z).e.toNat : Nat) : Int) := by omega
      have ih := chn_eq (e := e) (picks := picks) hB n (k + 1) (stN (decide ((picks.fdiv (2 ^ k)).fmod 2 = 1)) B z).e.toNat (by omega)
      rw [← he] at ih
      rw [ih]
theorem chN_nil {bit : Nat → Bool} {B : Nat} : ∀ n k, chN bit B n k 0 = []
  | 0, _ => rfl
  | _ + 1, _ => rfl
theorem chN_spec {bit : Nat → Bool} {B : Nat} (hB : B ≤ 16) : ∀ n k z, 1 ≤ z → z ≤ n → z ≤ B → ∃ rs l, chN bit B n k z = rs ++ [l] ∧ l.e = 0 ∧ (∀ r ∈ rs ++ [l], RowOk B r) ∧ rs.length < z
  | 0, _, _, h1, h2, _ => by omega
  | n + 1, k, z, h1, h2, h3 => by
    obtain ⟨_, _, _, _, h5, h6, _⟩ := stN_all B (by omega) z (by omega) h1 h3 (bit k)
    have ok := stN_ok hB ⟨h1, h3⟩ (bit k)
    unfold chN
    rw [if_neg (by omega)]
    by_cases he : (stN (bit k) B z).e.toNat = 0
    · rw [he, chN_nil]
      exact ⟨[], _, rfl, by omega, fun r hr => by rw [List.mem_singleton.mp hr]; exact ok, h1⟩
    · obtain ⟨rs, l, e1, e2, e3, e4⟩ := chN_spec hB n (k + 1) (stN (bit k) B z).e.toNat (by omega) (by omega) (by omega)
      rw [e1]
      refine ⟨stN (bit k) B z :: rs, l, rfl, e2, fun r hr => ?_, by simp only [List.length_cons]; omega⟩
      rcases List.mem_cons.mp hr with rfl | hr
      · exact ok
      · exact e3 r hr
end Mine
end

section
open PySem PySem.Calls PyProof.Rows
set_option Elab.async false
set_option maxRecDepth 100000
namespace Mine
theorem stN_div {B z : Nat} (hz : 1 ≤ z) (bit : Bool) (hB : 1 ≤ B) : (stN bit B z).e = 0 ↔ B % z = 0 := by
  cases bit with
  | false =>
    show (B : Int) - (z * (B / z) : Nat) = 0 ↔ _
    have := Nat.div_add_mod B z
    omega
  | true =>
    show ((z * ((B - 1) / z + 1) : Nat) : Int) - (B : Int) = 0 ↔ _
    have h1 := Nat.div_add_mod (B - 1) z
    have h2 := Nat.mod_lt (B - 1) (show z > 0 by omega)
    rw [Nat.mul_add, Nat.mul_one]
    constructor
    · intro h
      have : B = z * ((B - 1) / z + 1) := by rw [Nat.mul_add, Nat.mul_one]; omega
      rw [this]; exact Nat.mul_mod_right _ _
    · intro h
      obtain ⟨q, hq⟩ : ∃ q, B = z * q := ⟨B / z, by have := Nat.div_add_mod B z; omega⟩
      cases q with
      | zero => rw [Nat.mul_zero] at hq; omega
      | succ q =>
        rw [Nat.mul_succ] at hq
        have h5 : (B - 1) / z = q := Nat.div_eq_of_lt_le (by rw [Nat.mul_comm]; omega) (by rw [Nat.mul_comm, Nat.mul_succ]; omega)
        rw [h5]; omega
theorem chN_div {bit : Nat → Bool} {B : Nat} (hB : 1 ≤ B ∧ B ≤ 16) : ∀ n k z, 1 ≤ z → z ≤ n → z ≤ B → ∀ rs l, chN bit B n k z = rs ++ [l] → (∀ r ∈ rs, ∃ y : Nat, r.z = (y : Int) ∧ 1 ≤ y ∧ y ≤ B ∧ B % y ≠ 0) ∧ ∃ y : Nat, l.z = (y : Int) ∧ 1 ≤ y ∧ y ≤ B ∧ B % y = 0
  | 0, _, _, h1, h2, _ => by exfalso; omega
  | n + 1, k, z, h1, h2, h3 => fun rs l e => by
    obtain ⟨_, hzz, _, _, h5, h6, _⟩ := stN_all B (by omega) z (by omega) h1 h3 (bit k)
    have hd := stN_div h1 (bit k) hB.1
    unfold chN at e
    rw [if_neg (by omega)] at e
    by_cases he : (stN (bit k) B z).e.toNat = 0
    · rw [he, chN_nil] at e
      obtain ⟨rfl, e2⟩ : rs = [] ∧ l = stN (bit k) B z := by
        cases rs with
        | nil => exact ⟨rfl, by simpa using e.symm⟩
        | cons r rs => simp at e
      refine ⟨(fun r hr => nomatch hr), z, by rw [e2, hzz], h1, h3, hd.mp (by omega)⟩
    · cases rs with
      | nil =>
        obtain ⟨rs', l', e1, _⟩ := chN_spec (bit := bit) hB.2 n (k + 1) (stN (bit k) B z).e.toNat (by omega) (by omega) (by omega)
        rw [e1] at e; simp at e
      | cons r rs =>
        obtain ⟨rfl, e'⟩ := List.cons.inj e
        obtain ⟨i1, i2⟩ := chN_div hB n (k + 1) _ (by omega) (by omega) (by omega) rs l e'
        refine ⟨fun r hr => ?_, i2⟩
        rcases List.mem_cons.mp hr with rfl | hr
        · exact ⟨z, hzz, h1, h3, fun q => he (by have := hd.mpr q; omega)⟩
        · exact i1 r hr
end Mine
end

section
open PySem PySem.Calls PyProof.Rows
set_option Elab.async false
set_option maxRecDepth 100000
namespace Mine
set_option synthInstance.maxSize 4000 in
set_option synthInstance.maxHeartbeats 400000 in
theorem lead_div : ∀ B, B < 17 → ∀ t, t < 18 → 1 ≤ B → 1 ≤ t → (B % t = 0 → t * ((B - 1) / t + 1) = B ∧ t * (B / t + 1) = B + t) ∧ (B % t ≠ 0 → (B - 1) / t = B / t) := by decide +kernel
theorem fm_congr {α β : Type} {f g : α → Option β} : ∀ {l : List α}, (∀ x ∈ l, f x = g x) → l.filterMap f = l.filterMap g
  | [], _ => rfl
  | x :: r, h => by rw [List.filterMap_cons, List.filterMap_cons, h x (.head _), fm_congr fun y hy => h y (.tail _ hy)]
theorem wit_stops {B : Nat} {e : Int} (hB : 1 ≤ B ∧ B ≤ 16) : wit (ind (List.replicate (B - 1) 0 ++ [1]) e 1) (ind (List.replicate B 0 ++ [1]) e 1) (upTo ((B : Int) + 1)) =
    ((List.range (B + 1)).filter fun k => B % (k + 1) = 0).map fun (k : Nat) => D.seq true [.int (1 + (k : Int)), .int (B + e), .int (B + (1 + (k : Int)) + e)] := by
  have hn : ((B : Int) + 1).toNat = B + 1 := by omega
  unfold wit upTo
  rw [hn, List.filterMap_map, ← List.filterMap_eq_map, ← List.filterMap_eq_filter, List.filterMap_filterMap]
  refine fm_congr fun k hk => ?_
  have hk := List.mem_range.mp hk
  obtain ⟨d1, d2⟩ := lead_div B (by omega) (k + 1) (by omega) hB.1 (by omega)
  have e1 : (1 + (k : Int)) = ((k + 1 : Nat) : Int) := by omega
  simp only [Function.comp_apply, e1]
  rw [ind_one e (by omega) (by omega), ind_one e (by omega) (by omega)]
  by_cases q : B % (k + 1) = 0
  · obtain ⟨q1, q2⟩ := d1 q
    have z1 : ((k + 1 : Nat) : Int) * (((B - 1) / (k + 1) : Nat) + 1) = B := by exact_mod_cast q1
    have z2 : ((k + 1 : Nat) : Int) * ((B / (k + 1) : Nat) + 1) = B + ((k + 1 : Nat) : Int) := by exact_mod_cast q2
    rw [z1, z2, if_neg (by omega)]
    simp [Option.guard, q]
    omega
  · rw [d2 q]
    simp [Option.guard, q]
set_option synthInstance.maxSize 4000 in
set_option synthInstance.maxHeartbeats 400000 in
theorem lead_div0 : ∀ B, B < 17 → ∀ t, t < 18 → 1 ≤ B → 1 ≤ t → B % t = 0 → (B - 1) / t + 1 = B / t := by decide +kernel
theorem wit_other {B : Nat} {e : Int} (hB : 2 ≤ B ∧ B ≤ 16) (f g : Int → Int) (hf : ∀ t : Nat, 1 ≤ t → t ≤ 17 → f t = e + t * (((B - 1) / t : Nat) + 2)) (hg : ∀ t : Nat, 1 ≤ t → t ≤ 17 → g t = e + t * ((B / t : Nat) + 1)) : wit f g (upTo ((B : Int) + 1)) =
    ((List.range (B + 1)).filter fun k => B % (k + 1) ≠ 0).map fun (k : Nat) => D.seq true [.int (1 + (k : Int)), .int ((1 + (k : Int)) * ((B / (k + 1) : Nat) + 2) + e), .int ((1 + (k : Int)) * ((B / (k + 1) : Nat) + 1) + e)] := by
  have hn : ((B : Int) + 1).toNat = B + 1 := by omega
  unfold wit upTo
  rw [hn, List.filterMap_map, ← List.filterMap_eq_map, ← List.filterMap_eq_filter, List.filterMap_filterMap]
  refine fm_congr fun k hk => ?_
  have hk := List.mem_range.mp hk
  have e1 : (1 + (k : Int)) = ((k + 1 : Nat) : Int) := by omega
  simp only [Function.comp_apply, e1]
  rw [hf (k + 1) (by omega) (by omega), hg (k + 1) (by omega) (by omega)]
  by_cases q : B % (k + 1) = 0
  · have d := lead_div0 B (by omega) (k + 1) (by omega) (by omega) (by omega) q
    have z : (((B - 1) / (k + 1) : Nat) : Int) + 2 = ((B / (k + 1) : Nat) : Int) + 1 := by omega
    rw [z]
    simp [Option.guard, q]
  · obtain ⟨_, d2⟩ := lead_div B (by omega) (k + 1) (by omega) (by omega) (by omega)
    rw [d2 q, if_neg (by
      intro h
      have h2 : ((k + 1 : Nat) : Int) * (((B / (k + 1) : Nat) : Int) + 2) = ((k + 1 : Nat) : Int) * (((B / (k + 1) : Nat) : Int) + 1) := by omega
      have := Int.eq_of_mul_eq_mul_left (by omega) h2
      omega)]
    simp [Option.guard, q, Int.add_comm]
end Mine
end

section
open PySem PySem.Calls PyProof.Rows
set_option Elab.async false
set_option maxRecDepth 100000
namespace Mine
/-- the text's signs, for a chain -/
noncomputable def tkx : List Rw4 → List Tk
  | [] => []
  | r :: rs => if r.e > 0 then .op 40 :: .num 1 :: .op (if r.s = 1 then 43 else 45) :: (tkx rs ++ [.op 41, .op 47, .num r.c]) else [.num 1, .op 47, .num r.c]
noncomputable def vlx : List Rw4 → Int × Int
  | [] => (0, 1)
  | r :: rs => if r.e > 0 then ((vlx rs).2 + r.s * (vlx rs).1, (vlx rs).2 * r.c) else (1, r.c)
theorem tx_cons (bl : Nat) (r : Rw4) (rs : List Rw4) : tx bl (r :: rs) = txStep bl (tx bl rs) r := by
  unfold tx
  rw [List.reverse_cons, List.foldl_append]
  rfl
theorem tkx_tx (bl : Nat) : ∀ rs : List Rw4, (tkx rs).flatMap (Tk.t bl) = tx bl rs
  | [] => rfl
  | r :: rs => by
    rw [tx_cons, tkx, txStep, ← tkx_tx bl rs]
    by_cases h : r.e > 0
    · rw [if_pos h, if_pos h]
      by_cases q : r.s = 1 <;> simp [q, Tk.t]
    · rw [if_neg h, if_neg h]
      simp [Tk.t]
noncomputable def tkf (rows : List Rw4) (turns : Int) : List Tk := .op 40 :: .num (if turns < 0 then -turns else turns) :: .op (if turns < 0 then 45 else 43) :: (tkx rows ++ [.op 41])
theorem tkf_tfull (bl : Nat) (rows : List Rw4) (turns : Int) : (tkf rows turns).flatMap (Tk.t bl) = tfull bl rows turns := by
  unfold tkf tfull
  rw [← tkx_tx bl rows]
  by_cases q : turns < 0 <;> simp [q, Tk.t]
theorem wf_app : ∀ {l : List Tk} {c : Nat} {r : List Tk}, WfT l → WfT r → WfT (l ++ .op c :: r)
  | [], _, _, _, h => h
  | .op _ :: l, _, _, h1, h2 => wf_app (l := l) h1 h2
  | [.num _], _, _, _, h2 => h2
  | .num _ :: .op b :: l, _, _, h1, h2 => wf_app (l := .op b :: l) h1 h2
  | .num _ :: .num _ :: _, _, _, h1, _ => h1.elim
theorem wf_tkx : ∀ rs, WfT (tkx rs)
  | [] => trivial
  | r :: rs => by
    rw [tkx]
    by_cases h : r.e > 0
    · rw [if_pos h]
      exact wf_app (l := tkx rs) (c := 41) (r := [.op 47, .num r.c]) (wf_tkx rs) (show WfT [.op 47, .num r.c] from trivial)
    · rw [if_neg h]; trivial
theorem wf_tkf (rs : List Rw4) (tu : Int) : WfT (tkf rs tu) := wf_app (l := tkx rs) (c := 41) (r := []) (wf_tkx rs) trivial
theorem vrun_app {s s₁ s' : VS} {l r : List Tk} (h : VRun s l s₁) (k : VRun s₁ r s') : VRun s (l ++ r) s' := by
  induction h with
  | nil => exact k
  | cons a _ ih => exact .cons a (ih k)
structure RwV (r : Rw4) : Prop where
  s : r.s = 1 ∨ r.s = -1
  c : 0 ≤ r.c ∧ r.c ≤ 9999
theorem vrun_tkx : ∀ (rs : List Rw4) (p : List (Int × Int)) (v0 v1 n : Int), rs ≠ [] → (∀ r ∈ rs, RwV r) → (∀ rs' l, rs = rs' ++ [l] → ¬ l.e > 0) → p.length + rs.length ≤ 1000 → n ≠ 17 → ∃ n', VRun ⟨p, v0, v1, n⟩ (tkx rs) ⟨p, (vlx rs).1, (vlx rs).2, n'⟩
  | [], _, _, _, _, h, _, _, _, _ => absurd rfl h
  | r :: rs, p, v0, v1, n, _, hv, hl, hp, hn => by
    obtain ⟨hs, hc⟩ := hv r (.head _)
    rw [tkx, vlx]
    by_cases h : r.e > 0
    · rw [if_pos h, if_pos h]
      have hne : rs ≠ [] := by
        rintro rfl
        exact hl [] r rfl h
      simp only [List.length_cons] at hp
      obtain ⟨n1, ih⟩ := vrun_tkx rs (p ++ [(r.s, 1)]) 1 1 (if r.s = 1 then 14 else 15) hne (fun x hx => hv x (.tail _ hx)) (fun rs' l e => hl (r :: rs') l (by rw [e]; rfl)) (by rw [List.length_append]; simp only [List.length_cons, List.length_nil]; omega) (by split <;> decide)
      refine ⟨1, .cons (.lp (by omega)) (.cons (.numN (by decide) (by decide) (by decide)) (.cons ?_ (vrun_app ih (.cons (.rp (by omega) (by omega) (by decide) (by decide) (by omega)) (.cons .dv (.cons ?_ .nil))))))⟩
      · rcases hs with q | q
        · rw [q]; exact .pl
        · rw [q]; exact .mi
      · have e : (1 : Int) * (vlx rs).2 + r.s * (vlx rs).1 = (vlx rs).2 + r.s * (vlx rs).1 := by rw [Int.one_mul]
        rw [e]
        exact .numD rfl hc.1 hc.2
    · rw [if_neg h, if_neg h]
      have e : r.c = 1 * r.c := (Int.one_mul _).symm
      refine ⟨1, .cons (.numN hn (by decide) (by decide)) (.cons .dv (.cons ?_ .nil))⟩
      show VSt _ _ ⟨p, 1, r.c, 1⟩
      have := VSt.numD (p := p) (v0 := 1) (v1 := 1) (n := 17) (a := r.c) rfl hc.1 hc.2
      rw [← e] at this
      exact this
/-- a chain whose sizes hang together -/
noncomputable def Lnk (B : Int) : Int → List Rw4 → Prop
  | _, [] => True
  | z, r :: rs => (r.s = 1 ∨ r.s = -1) ∧ r.z = z ∧ r.s * (r.c * z - B) = r.e ∧ Lnk B r.e rs
theorem vlx_eq {B : Int} : ∀ (rs : List Rw4) (z : Int), rs ≠ [] → Lnk B z rs → (∀ r ∈ rs, 0 ≤ r.e) → (∀ rs' l, rs = rs' ++ [l] → ¬ l.e > 0) → (vlx rs).1 * B = z * (vlx rs).2
  | [], _, h, _, _, _ => absurd rfl h
  | r :: rs, z, _, ⟨hs, _, hq, hk⟩, h0, hl => by
    have hr0 := h0 r (.head _)
    rw [vlx]
    by_cases h : r.e > 0
    · rw [if_pos h]
      have hne : rs ≠ [] := by
        rintro rfl
        exact hl [] r rfl h
      have ih := vlx_eq rs r.e hne hk (fun x hx => h0 x (.tail _ hx)) (fun rs' l e => hl (r :: rs') l (by rw [e]; rfl))
      show ((vlx rs).2 + r.s * (vlx rs).1) * B = z * ((vlx rs).2 * r.c)
      generalize (vlx rs).1 = x0 at *
      generalize (vlx rs).2 = x1 at *
      rw [Int.add_mul, Int.mul_assoc, ih, ← hq]
      rcases hs with q | q <;> rw [q]
      · rw [Int.one_mul, Int.one_mul, Int.sub_mul, Int.mul_comm B x1, Int.mul_comm r.c z, Int.mul_assoc, Int.mul_comm r.c x1]; omega
      · rw [Int.neg_mul, Int.neg_mul, Int.one_mul, Int.one_mul, Int.neg_mul, Int.neg_neg, Int.sub_mul, Int.mul_comm B x1, Int.mul_comm r.c z, Int.mul_assoc, Int.mul_comm r.c x1]; omega
    · rw [if_neg h]
      have he : r.e = 0 := by omega
      rw [he] at hq
      show 1 * B = z * r.c
      rcases hs with q | q <;> rw [q] at hq
      · rw [Int.one_mul, Int.mul_comm] at hq; rw [Int.one_mul]; omega
      · rw [Int.neg_mul, Int.one_mul, Int.mul_comm] at hq; rw [Int.one_mul]; omega
theorem told_ok {B z : Int} {rs : List Rw4} {tu : Int} (hB : 0 ≤ B) (hz : 0 ≤ z ∧ z ≤ B) (htu : -9999 ≤ tu ∧ tu ≤ 9999) (hne : rs ≠ []) (hk : Lnk B z rs) (hv : ∀ r ∈ rs, RwV r) (h0 : ∀ r ∈ rs, 0 ≤ r.e) (hl : ∀ rs' l, rs = rs' ++ [l] → ¬ l.e > 0) (hn : rs.length ≤ 900) :
    ∃ s' : VS, VRun ⟨[], 1, 1, 7⟩ (tkf rs tu) s' ∧ s'.v0 * B = (if tu * B + z < 0 then -(tu * B + z) else tu * B + z) * s'.v1 := by
  have e := vlx_eq rs z hne hk h0 hl
  obtain ⟨n1, ih⟩ := vrun_tkx rs [((if tu < 0 then -1 else 1), (if tu < 0 then -tu else tu))] (if tu < 0 then -tu else tu) 1 (if tu < 0 then 15 else 14) hne hv hl (by simp only [List.length_cons, List.length_nil]; omega) (by split <;> decide)
  refine ⟨⟨[], (if tu < 0 then -tu else tu) * (vlx rs).2 + (if tu < 0 then -1 else 1) * (vlx rs).1, (vlx rs).2, 8⟩, ?_, ?_⟩
  · refine .cons (.lp (by simp)) (.cons (.numN (by decide) (by split <;> omega) (by split <;> omega)) (.cons ?_ (vrun_app ih (.cons (.rp (p := []) ?_ ?_ ?_ ?_ (by simp)) .nil))))
    · by_cases q : tu < 0
      · simp only [if_pos q]; exact VSt.mi (p := [])
      · simp only [if_neg q]; exact VSt.pl (p := [])
    all_goals (split <;> omega)
  · show ((if tu < 0 then -tu else tu) * (vlx rs).2 + (if tu < 0 then -1 else 1) * (vlx rs).1) * B = _ * (vlx rs).2
    generalize (vlx rs).1 = x0 at *
    generalize (vlx rs).2 = x1 at *
    rw [Int.add_mul, Int.mul_assoc _ x0 B, e]
    by_cases q : tu < 0
    · have h1 : tu * B ≤ -1 * B := Int.mul_le_mul_of_nonneg_right (by omega) hB
      rw [if_pos q, if_pos q]
      by_cases q2 : tu * B + z < 0
      · rw [if_pos q2, Int.neg_mul, Int.neg_mul, Int.neg_mul, Int.neg_mul, Int.one_mul, Int.add_mul, Int.mul_assoc tu x1 B, Int.mul_comm x1 B, ← Int.mul_assoc]; omega
      · have : tu * B + z = 0 := by omega
        have hz' : z = -(tu * B) := by omega
        rw [if_neg q2, this, hz']
        rw [Int.neg_mul, Int.neg_mul, Int.neg_mul, Int.neg_mul, Int.one_mul, Int.mul_assoc tu x1 B, Int.mul_comm x1 B, ← Int.mul_assoc]; omega
    · have h1 : 0 ≤ tu * B := Int.mul_nonneg (by omega) hB
      rw [if_neg q, if_neg q, if_neg (by omega), Int.one_mul, Int.add_mul, Int.mul_assoc tu x1 B, Int.mul_comm x1 B, ← Int.mul_assoc]
end Mine
end

section
open PySem PySem.Calls PyProof.Rows
set_option Elab.async false
set_option maxRecDepth 100000
namespace Mine
noncomputable abbrev Mno (r r' : Rw4) : Prop := ¬ r'.c < r.c + (if r.s = -1 then 1 else if r'.s < 0 then r'.s else 0)
set_option synthInstance.maxSize 4000 in
set_option synthInstance.maxHeartbeats 400000 in
theorem mno_all1 : ∀ B, B < 17 → ∀ z, z < 17 → 1 ≤ z → z ≤ B → ∀ j, j < 2 → ∀ j', j' < 2 → (stN (j == 1) B z).e.toNat ≠ 0 → Mno (stN (j == 1) B z) (stN (j' == 1) B (stN (j == 1) B z).e.toNat) := by decide +kernel
theorem mno_all {B z : Nat} (hB : B ≤ 16) (h1 : 1 ≤ z) (h2 : z ≤ B) (b b' : Bool) (h : (stN b B z).e.toNat ≠ 0) : Mno (stN b B z) (stN b' B (stN b B z).e.toNat) := by
  cases b with
  | true => cases b' with
    | true => exact mno_all1 B (by omega) z (by omega) h1 h2 1 (by decide) 1 (by decide) h
    | false => exact mno_all1 B (by omega) z (by omega) h1 h2 1 (by decide) 0 (by decide) h
  | false => cases b' with
    | true => exact mno_all1 B (by omega) z (by omega) h1 h2 0 (by decide) 1 (by decide) h
    | false => exact mno_all1 B (by omega) z (by omega) h1 h2 0 (by decide) 0 (by decide) h
theorem chN_mno {bit : Nat → Bool} {B : Nat} (hB : B ≤ 16) : ∀ n k z, 1 ≤ z → z ≤ B → ∀ i r r', (chN bit B n k z)[i]? = some r → (chN bit B n k z)[i + 1]? = some r' → Mno r r'
  | 0, _, _, _, _, _, _, _, h, _ => by simp [chN] at h
  | n + 1, k, z, h1, h2, i, r, r', h, h' => by
    obtain ⟨_, _, _, _, h5, h6, _⟩ := stN_all B (by omega) z (by omega) h1 h2 (bit k)
    unfold chN at h h'
    rw [if_neg (by omega)] at h h'
    rw [List.getElem?_cons_succ] at h'
    by_cases he : (stN (bit k) B z).e.toNat = 0
    · rw [he, chN_nil] at h'; simp at h'
    · cases i with
      | zero =>
        rw [List.getElem?_cons_zero] at h
        cases Option.some.inj h
        cases n with
        | zero => simp [chN] at h'
        | succ n =>
          unfold chN at h'
          rw [if_neg he, List.getElem?_cons_zero] at h'
          cases Option.some.inj h'
          exact mno_all hB h1 h2 _ _ he
      | succ i =>
        rw [List.getElem?_cons_succ] at h
        exact chN_mno hB n (k + 1) _ (by omega) (by omega) i r r' h h'
theorem chN_lnk {bit : Nat → Bool} {B : Nat} (hB : B ≤ 16) : ∀ n k z, z ≤ B → Lnk B z (chN bit B n k z) ∧ ∀ r ∈ chN bit B n k z, RwV r ∧ 0 ≤ r.e
  | 0, _, _, _ => ⟨trivial, fun r hr => nomatch hr⟩
  | n + 1, k, z, h2 => by
    unfold chN
    by_cases h0 : z = 0
    · rw [if_pos h0]; exact ⟨trivial, fun r hr => nomatch hr⟩
    · obtain ⟨g1, g2, g3, g4, g5, g6, g7⟩ := stN_all B (by omega) z (by omega) (by omega) h2 (bit k)
      rw [if_neg h0]
      obtain ⟨i1, i2⟩ := chN_lnk (bit := bit) hB n (k + 1) (stN (bit k) B z).e.toNat (by omega)
      have he : (((stN (bit k) B z).e.toNat : Nat) : Int) = (stN (bit k) B z).e := by omega
      rw [he] at i1
      refine ⟨⟨g1, g2, g7, i1⟩, fun r hr => ?_⟩
      rcases List.mem_cons.mp hr with rfl | hr
      · exact ⟨⟨g1, by omega⟩, g5⟩
      · exact i2 r hr
/-- all that the law asks of its chain -/
structure Chn (B z : Nat) (rs : List Rw4) (l : Rw4) : Prop where
  e : l.e = 0
  ok : ∀ r ∈ rs ++ [l], RowOk B r
  n : rs.length < 16
  rv : ∀ r ∈ rs ++ [l], RwV r ∧ 0 ≤ r.e
  lnk : Lnk B z (rs ++ [l])
  mno : ∀ i r r', (rs ++ [l])[i]? = some r → (rs ++ [l])[i + 1]? = some r' → Mno r r'
  nd : ∀ r ∈ rs, ∃ y : Nat, r.z = (y : Int) ∧ 1 ≤ y ∧ y ≤ B ∧ B % y ≠ 0
  dv : ∃ y : Nat, l.z = (y : Int) ∧ 1 ≤ y ∧ y ≤ B ∧ B % y = 0
theorem chn_all {B z : Nat} {e picks : Int} (hB : 1 ≤ B ∧ B ≤ 16) (hz : 1 ≤ z ∧ z ≤ B) : ∃ rs l, chn (ind (List.replicate (B - 1) 0 ++ [1]) e 1) (ind (List.replicate B 0 ++ [1]) e 1) B e picks B 0 z = rs ++ [l] ∧ Chn B z rs l := by
  rw [chn_eq hB B 0 z hz.2]
  generalize (fun k : Nat => decide ((picks.fdiv (2 ^ k)).fmod 2 = 1)) = bit
  obtain ⟨rs, l, e1, e2, e3, e4⟩ := chN_spec (bit := bit) hB.2 B 0 z hz.1 hz.2 hz.2
  obtain ⟨d1, d2⟩ := chN_div (bit := bit) hB B 0 z hz.1 hz.2 hz.2 rs l e1
  obtain ⟨k1, k2⟩ := chN_lnk (bit := bit) hB.2 B 0 z hz.2
  have m := chN_mno (bit := bit) hB.2 B 0 z hz.1 hz.2
  rw [e1] at k1 k2 m
  exact ⟨rs, l, e1, e2, e3, by omega, k2, k1, m, d1, d2⟩
theorem Chn.told {B z : Nat} {rs : List Rw4} {l : Rw4} (c : Chn B z rs l) {tu : Int} (hz : z ≤ B) (htu : -9999 ≤ tu ∧ tu ≤ 9999) :
    ∃ s' : VS, VRun ⟨[], 1, 1, 7⟩ (tkf (rs ++ [l]) tu) s' ∧ s'.v0 * B = (if tu * B + z < 0 then -(tu * B + z) else tu * B + z) * s'.v1 :=
  told_ok (by omega) (by omega) htu (by simp) c.lnk (fun r hr => (c.rv r hr).1) (fun r hr => (c.rv r hr).2) (fun rs' l' e => by
    obtain ⟨_, q⟩ := List.append_inj' e rfl
    cases q
    rw [c.e]; decide) (by have := c.n; rw [List.length_append]; simp only [List.length_cons, List.length_nil]; omega)
end Mine
end

section
open PySem PySem.Calls PyProof.Rows
set_option Elab.async false
set_option maxRecDepth 100000
namespace Mine
section
variable {F : Fx} {σ : D → List Sl} {l : Expr} {fs : List Expr}
theorem comp_map {α : Type} {f g : α → D} : ∀ {is : List α}, (∀ i ∈ is, TestsS F (σ (f i)) fs true ∧ EvS F (σ (f i)) l (g i)) → CompR F σ l fs (is.map f) (is.map g)
  | [], _ => .nil
  | i :: _, h => .yes (h i (.head _)).1 (h i (.head _)).2 (comp_map fun j hj => h j (.tail _ hj))
theorem comp_filter {α : Type} {f g : α → D} {p : α → Bool} : ∀ {is : List α}, (∀ i ∈ is, TestsS F (σ (f i)) fs (p i) ∧ (p i = true → EvS F (σ (f i)) l (g i))) → CompR F σ l fs (is.map f) ((is.filter p).map g)
  | [], _ => .nil
  | i :: r, h => by
    obtain ⟨h1, h2⟩ := h i (.head _)
    have ih := comp_filter (f := f) (g := g) (p := p) (is := r) fun j hj => h j (.tail _ hj)
    cases q : p i with
    | true => rw [List.filter_cons_of_pos q]; rw [q] at h1; exact .yes h1 (h2 q) ih
    | false => rw [List.filter_cons_of_neg (by rw [q]; decide)]; rw [q] at h1; exact .no h1 ih
theorem CompR.cast {is is' os os' : List D} (h : CompR F σ l fs is os) (e : is = is') (e' : os = os') : CompR F σ l fs is' os' := e ▸ e' ▸ h
end
theorem SrcS.cast {F : Fx} {σ : List Sl} {it : Expr} {is is' : List D} (h : SrcS F σ it is) (e : is = is') : SrcS F σ it is' := e ▸ h
theorem plds_map {α : Type} {n : Nat} {f : α → D} {g : α → PyData} (h : ∀ a, PlD n (f a) (g a)) : ∀ l : List α, PlDs n (l.map f) (l.map g)
  | [] => .nil
  | a :: r => .cons (h a) (plds_map h r)
/-- three ints in a tuple; four in a list -/
theorem pl3 (a b c : Int) : PlD 3 (.seq true [.int a, .int b, .int c]) (.tuple [.int a, .int b, .int c]) := .tup (.cons (.int _) (.cons (.int _) (.cons (.int _) .nil)))
theorem pl4 (r : Rw4) : PlD 3 r.d (.list [.int r.s, .int r.c, .int r.z, .int r.e]) := .lst (.cons (.int _) (.cons (.int _) (.cons (.int _) (.cons (.int _) .nil))))
theorem ne3 {α : Type} (f g h : α → Int) (l : List α) : CmpR .NotEq (.seq false (l.map fun k => D.seq true [.int (f k), .int (g k), .int (h k)])) (.seq false (l.map fun k => D.seq true [.int (f k), .int (g k), .int (h k)])) false :=
  cNeSame (.lst (plds_map (fun _ => pl3 _ _ _) l))
theorem ne4 (l : List Rw4) : CmpR .NotEq (.seq false (l.map Rw4.d)) (.seq false (l.map Rw4.d)) false := cNeSame (.lst (plds_map pl4 l))

/-! a run to the end, in which the frames' own dicts may change -/
noncomputable def ExT (F : Fx) (σ : List Sl) (b : List Stmt) (d : D) : Prop := ∀ Hc M G env s₀ s A l, StP F Hc M G env σ (gt s₀.heap) s₀ s → Rm F.k A → A.frames = some (env :: l) → FrOk F.X l Hc s₀.heap → env.scope.kind = .function → env.frame = some env.locals →
  wpAny (Md F.X) A (execs b env) (fun f s' => ∃ v, f = .ret v ∧ Rep F.X.C (vis Hc s'.heap) d v ∧ ∃ M' G' σ' s₂, StP F Hc M' G' env σ' (gt s₀.heap) s₀ s₂ ∧ s.toks ≤ s₂.toks ∧ Kf (frs (env :: l)) s₂ s') E0 s
theorem ext_cons {F : Fx} {σ σ₁ : List Sl} {a : Stmt} {as : List Stmt} {d : D} (h : ExS F σ a .nx σ₁) (h' : ExT F σ₁ as d) : ExT F σ (a :: as) d := fun Hc M G env s₀ s A l S R hfr hl hk hf =>
  wpAny_execs_cons (wpAny_mono (wpAny_toks (h _ _ _ _ _ _ _ _ S R)) (fun f s₁ h₁ => by
    obtain ⟨t₁, rfl, M₁, G₁, S₁⟩ := h₁
    exact wpAny_mono (h' _ _ _ _ _ _ _ _ S₁ R hfr hl hk hf) (fun f s' ⟨v, e, r, M', G', σ', s₂, S₂, t₂, k⟩ => ⟨v, e, r, M', G', σ', s₂, S₂, Nat.le_trans t₁ t₂, k⟩) fun _ _ e => e) fun _ _ e => e.2.elim)
/-- the last line: a call that may change the frames, and what is told behind it -/
theorem ext_retF {F : Fx} {σ : List Sl} {n : Str} {a : Addr} {x y : Expr} {xs : List Expr} {p q r r2 : Pos} {ds : List D} {d : D} (hf : GFn F.X n a) (he : EvSs F σ (x :: xs) ds) (C : CtF F.X F.k a ds (.bool true)) (hg : F.sc.lookup n = some .globalImplicit) (hy : EvS F σ y d) (hd : (n == ("__debug__" : Str)) = false := by rfl) :
    ExT F σ [.Return (some (.BoolOp .And [.Call (.Name n p) (x :: xs) [] q, y] r)) r2] d := fun Hc M G env s₀ s A l S R hfr hl hk hef => by
  have hl2 : FrOk F.X (env :: l) (M ++ Hc) s.heap := FrOk.push hl S hk hef
  refine wpAny_execs_cons (wpAny_Return_some (wpAny_mono (wpAny_And2 (callF S.ev R hfr hl2 hf he C hg (fun v s₁ k₁ S₁ hl₁ r₁ => truth_bool r₁ (hy.go S₁ R fun w s₂ g₂ S₂ r₂ => ?_)) hd)) (fun _ _ q => q) fun _ _ e => e.elim))
  exact ⟨w, rfl, r₂.mono (vis_sub _ fun a q => List.mem_append_right _ q), M, G, σ, s, S, Nat.le_refl _, k₁.trans (Kf.of g₂.1 g₂.2)⟩
/-- a function whose body runs so -/
theorem fn_ctF {X : Cx} {k : Nat} {a : Addr} {b : List Stmt} {ps : List Str} {ns : Sc} {nm : List Str} (rest : List Str) {ds : List D} {d : D} (W : Wd X) (h : ∃ fd, FnAt X a fd b ps ∧ fd.scope.names = ns) (hnm : nm = ps ++ rest) (hsc : scopeOk nm ps ns = true)
    (hlen : ds.length = ps.length) (ev : ExT ⟨X, k, nm, ns, []⟩ (ds.map Sl.fr ++ List.replicate rest.length Sl.un) b d) : CtF X (k + 1) a ds d := by
  intro A s H vals fl R hfr hfl w0 HB tk hr
  obtain ⟨fd, Z, rfl⟩ := h
  refine fn_enter (F := ⟨X, k, nm, fd.scope.names, []⟩) (rest := rest) W Z rfl rfl hnm hsc hlen R w0 HB tk hr fun s₁ M htk hLM hkind S => ?_
  have hA : (A.deeper (callEnvC fd s.heap.objs.size a)).frames = some (callEnvC fd s.heap.objs.size a :: fl) := by show A.frames.map _ = _; rw [hfr]; rfl
  refine wpAny_mono (ev _ _ _ _ _ _ _ _ S R.deep hA hfl hkind rfl) (fun f s' h => ?_) fun _ _ e => e.elim
  obtain ⟨v, rfl, r, M', G', σ', s₂, S₂, t₂, kf⟩ := h
  exact ⟨Kf.pop S₂ kf (get_size s.heap) (Nat.le_trans htk t₂), r⟩
end Mine
end

section
open PySem PySem.Calls PyProof.Rows
set_option Elab.async false
set_option maxRecDepth 100000
namespace Mine
theorem pickD_len {α : Type} (xs : List α) (lo hi st : Option Int) : (pickD xs lo hi st).length ≤ xs.length := by
  have h := slicePick_size_le (xs.map fun _ => Value.none).toArray lo hi st
  have e := pickD_map (fun _ : α => Value.none) xs lo hi st
  have e2 : slicePick (xs.map fun _ => Value.none).toArray lo hi st = (pickD (xs.map fun _ => Value.none) lo hi st).toArray := by
    unfold slicePick pickD
    simp only [List.size_toArray, List.getElem?_toArray]
  rw [e2, List.size_toArray, List.size_toArray, e, List.length_map, List.length_map] at h
  exact h
noncomputable def sm (ns : List Int) (m : Nat) : Int := (pickD ns (some (m : Int)) none (some 6)).sum
noncomputable def bs (m : Nat) : Int := ([3, 6, 5, -3, 2, 1694] : List Int).getD m 0
noncomputable def su (ns : List Int) (m : Nat) : Int := sm ns m + bs m
noncomputable def dvs (B : Nat) : List Nat := (List.range B).filter fun k => decide (B % (k + 1) = 0)
noncomputable def oth (B : Nat) : List Nat := (List.range (B + 1)).filter fun k => decide (B % (k + 1) ≠ 0)
noncomputable def dvsD (B e : Nat) : List D := (dvs B).map fun (k : Nat) => D.seq true [.int (1 + (k : Int)), .int ((B : Int) + (e : Int)), .int ((B : Int) + (1 + (k : Int)) + (e : Int))]
noncomputable def othD (B e : Nat) : List D := (oth B).map fun (k : Nat) => D.seq true [.int (1 + (k : Int)), .int ((1 + (k : Int)) * (((B / (k + 1) : Nat) : Int) + 2) + (e : Int)), .int ((1 + (k : Int)) * (((B / (k + 1) : Nat) : Int) + 1) + (e : Int))]
noncomputable def othS (B e : Nat) : List D := (oth B).map fun (k : Nat) => D.seq true [.int (1 + (k : Int)), .int ((1 + (k : Int)) * (((B / (k + 1) : Nat) : Int) + 1) + (e : Int)), .int ((1 + (k : Int)) * (((B / (k + 1) : Nat) : Int) + 2) + (e : Int))]
/-- the columns of the leads -/
noncomputable abbrev cA (B : Nat) : List Int := List.replicate (B - 1) 0 ++ [1]
noncomputable abbrev cB (B : Nat) : List Int := List.replicate B 0 ++ [1]
noncomputable abbrev cT (B : Nat) : List Int := 1 :: (List.replicate (B - 2) 0 ++ [1])
theorem wit_dvs {B e : Nat} (hB : 6 ≤ B ∧ B ≤ 16) : wit (ind (cA B) e 1) (ind (cB B) e 1) (upTo ((B : Int) + 1)) = dvsD B e := by
  rw [wit_stops (e := (e : Int)) (by omega)]
  unfold dvsD dvs
  rw [List.range_succ, List.filter_append]
  have h : ([B].filter fun k => decide (B % (k + 1) = 0)) = [] := by
    have : B % (B + 1) = B := Nat.mod_eq_of_lt (by omega)
    simp only [List.filter_cons, List.filter_nil, this]
    rw [if_neg (by simp; omega)]
  rw [h, List.append_nil]
theorem ind_T {B e : Nat} (hB : 6 ≤ B ∧ B ≤ 16) : ∀ t : Nat, 1 ≤ t → t ≤ 17 → ind (cT B) e 2 t = e + t * (((B - 1) / t : Nat) + 2) := fun t h1 h2 => by
  have := ind_two (m := B - 2) (s := t) (e := (e : Int)) (by omega) ⟨h1, h2⟩
  rw [show B - 2 + 1 = B - 1 by omega] at this
  exact this
theorem ind_B {B e : Nat} (hB : 6 ≤ B ∧ B ≤ 16) : ∀ t : Nat, 1 ≤ t → t ≤ 17 → ind (cB B) e 1 t = e + t * ((B / t : Nat) + 1) := fun t h1 h2 => ind_one (m := B) (s := t) (e := (e : Int)) hB.2 ⟨h1, h2⟩
theorem wit_oth {B e : Nat} (hB : 6 ≤ B ∧ B ≤ 16) : wit (ind (cT B) e 2) (ind (cB B) e 1) (upTo ((B : Int) + 1)) = othD B e :=
  wit_other (e := (e : Int)) (by omega) _ _ (ind_T hB) (ind_B hB)
theorem wit_swap (f g : Int → Int) : ∀ (is : List Int) {α : Type} (ks : List α) (t a b : α → Int), wit f g is = ks.map (fun k => D.seq true [.int (t k), .int (a k), .int (b k)]) → wit g f is = ks.map (fun k => D.seq true [.int (t k), .int (b k), .int (a k)])
  | [], _, ks, t, a, b, h => by
    cases ks with
    | nil => rfl
    | cons k r => simp [wit] at h
  | i :: r, _, ks, t, a, b, h => by
    by_cases q : f i = g i
    · have e1 : wit f g (i :: r) = wit f g r := by simp [wit, q]
      have e2 : wit g f (i :: r) = wit g f r := by simp [wit, q]
      rw [e1] at h
      rw [e2]
      exact wit_swap f g r ks t a b h
    · have e1 : wit f g (i :: r) = .seq true [.int i, .int (f i), .int (g i)] :: wit f g r := by simp [wit, q]
      have e2 : wit g f (i :: r) = .seq true [.int i, .int (g i), .int (f i)] :: wit g f r := by simp [wit, Ne.symm q]
      rw [e1] at h
      rw [e2]
      cases ks with
      | nil => simp at h
      | cons k ks =>
        rw [List.map_cons] at h ⊢
        obtain ⟨h1, h2⟩ := List.cons.inj h
        injection h1 with _ h1
        obtain ⟨p1, h1⟩ := List.cons.inj h1
        obtain ⟨p2, h1⟩ := List.cons.inj h1
        obtain ⟨p3, _⟩ := List.cons.inj h1
        rw [p1, p2, p3, wit_swap f g r ks t a b h2]
theorem wit_otS {B e : Nat} (hB : 6 ≤ B ∧ B ≤ 16) : wit (ind (cB B) e 1) (ind (cT B) e 2) (upTo ((B : Int) + 1)) = othS B e := wit_swap _ _ _ _ _ _ _ (wit_oth hB)
theorem cA_ok (B : Nat) (hB : B ≤ 16) : (cA B).length ≤ 1000 ∧ ∀ x ∈ cA B, -1000 ≤ x ∧ x ≤ 1000 := ⟨by simp; omega, fun x hx => by
  rcases List.mem_append.mp hx with h | h
  · obtain ⟨_, rfl⟩ := List.mem_replicate.mp h; decide
  · cases List.mem_singleton.mp h; decide⟩
theorem cB_ok (B : Nat) (hB : B ≤ 16) : (cB B).length ≤ 1000 ∧ ∀ x ∈ cB B, -1000 ≤ x ∧ x ≤ 1000 := ⟨by simp; omega, fun x hx => by
  rcases List.mem_append.mp hx with h | h
  · obtain ⟨_, rfl⟩ := List.mem_replicate.mp h; decide
  · cases List.mem_singleton.mp h; decide⟩
theorem cT_ok (B : Nat) (hB : B ≤ 16) : (cT B).length ≤ 1000 ∧ ∀ x ∈ cT B, -1000 ≤ x ∧ x ≤ 1000 := ⟨by simp; omega, fun x hx => by
  rcases List.mem_cons.mp hx with rfl | hx
  · decide
  rcases List.mem_append.mp hx with h | h
  · obtain ⟨_, rfl⟩ := List.mem_replicate.mp h; decide
  · cases List.mem_singleton.mp h; decide⟩
/-- which links the law keeps -/
theorem keep_last {B z : Nat} {rs : List Rw4} {l : Rw4} (c : Chn B z rs l) : (rs ++ [l]).filter (fun r => ((dvs B).map fun (k : Nat) => 1 + (k : Int)).any (· == r.z)) = [l] := by
  have key : ∀ y : Nat, 1 ≤ y → y ≤ B → ((dvs B).map fun (k : Nat) => 1 + (k : Int)).any (· == (y : Int)) = decide (B % y = 0) := fun y h1 h2 => by
    rw [Bool.eq_iff_iff, List.any_eq_true, decide_eq_true_eq]
    constructor
    · rintro ⟨x, hx, e⟩
      obtain ⟨k, hk, rfl⟩ := List.mem_map.mp hx
      have hk := of_decide_eq_true (List.mem_filter.mp hk).2
      have : y = k + 1 := by have := eq_of_beq e; omega
      rw [this]; exact hk
    · intro h
      refine ⟨(y : Int), List.mem_map.mpr ⟨y - 1, List.mem_filter.mpr ⟨List.mem_range.mpr (by omega), decide_eq_true ?_⟩, by omega⟩, by simp⟩
      rw [show y - 1 + 1 = y by omega]; exact h
  rw [List.filter_append]
  have h1 : rs.filter (fun r => ((dvs B).map fun (k : Nat) => 1 + (k : Int)).any (· == r.z)) = [] := List.filter_eq_nil_iff.mpr fun r hr => by
    obtain ⟨y, e, a, b, d⟩ := c.nd r hr
    rw [e, key y a b]
    simpa using d
  have h2 : [l].filter (fun r => ((dvs B).map fun (k : Nat) => 1 + (k : Int)).any (· == r.z)) = [l] := by
    obtain ⟨y, e, a, b, d⟩ := c.dv
    rw [List.filter_cons_of_pos (by rw [e, key y a b]; simpa using d), List.filter_nil]
  rw [h1, h2]; rfl
set_option genInjectivity false in
set_option genSizeOfSpec false in
structure Ads where
  law : Addr
  lead : Addr
  init : Addr
  stops : Addr
  ind : Addr
  long : Addr
  wit : Addr
  num : Addr
  text : Addr
  val : Addr
  eof : Addr
  ifs : Addr
  sti : Addr
  pow : Addr
  dvd : Addr
  ref : Addr
  dm : Addr
  pos : Addr
  d2 : Addr
  i2d : Addr
  d2i : Addr
noncomputable abbrev psLaw : List Str := ["script"]
/-- all that is asked of the world -/
structure Wld (X : Cx) (a : Ads) : Prop where
  W : Wd X
  law : FnR X "law" a.law bdLaw psLaw nnLaw
  lead : FnR X "_law_lead" a.lead bdLead psLead nnLead
  mak : Mk X a.init
  init : ∃ fd, FnAt X a.init fd bdInit psInit ∧ fd.scope.names = nnInit
  kls : KlsR X
  stops : FnR X "_law_stops" a.stops bdStops psStops nnStops
  ind : MeR X "indent_level" a.ind bdInd psInd nnInd
  long : MeR X "longest_run_of_spaces" a.long bdLong psLong nnLong
  wit : MeR X "not_equal_witness" a.wit bdWit psWit nnWit
  num : FnR X "_law_numeral" a.num bdNum psNum nnNum
  text : FnR X "_law_text" a.text bdText psText nnText
  val : FnR X "_law_value" a.val bdVal psVal nnVal
  eof : FnR X "ISEOF" a.eof bdEof psEof nnEof
  em : ∃ t, X.mg "ENDMARKER" = some (.int 0 t)
  ifs : FnR X "int_from_string" a.ifs bdIfs psIfs nnIfs
  sti : FnD X "_str_to_int_inner" a.sti bdStr psStr nnStr 35 "_str_to_int_inner"
  pow : FnP X "compute_powers" a.pow
  dvd : FnR X "_law_divided" a.dvd bdDvd psDvd nnDvd
  ref : FnR X "_law_refused" a.ref bdRef psRef nnRef
  dm : FnR X "int_divmod" a.dm bdDm psDm nnDm
  pos : FnR X "_divmod_pos" a.pos bdPos psPos nnPos
  d2 : FnR X "_div2n1n" a.d2 bdDiv2 psDiv2 nnDiv2
  lim : ∃ t, X.mg "_DIV_LIMIT" = some (.int 4000 t)
  i2d : FnD X "_int2digits" a.i2d bdI2d psI2d nnI2d 63 "_int2digits"
  d2i : FnD X "_digits2int" a.d2i bdD2i psD2i nnD2i 70 "_digits2int"
  zde : X.mg "ZeroDivisionError" = none ∧ X.mb "ZeroDivisionError" = some (.type "ZeroDivisionError")
section
variable {X : Cx} {a : Ads}
theorem Wld.cDm (w : Wld X a) : CDm X a.dm := fun hx hq hr hN => by
  obtain ⟨t, hl⟩ := w.lim
  exact ct_dm w.W w.dm w.pos.g (fun hb ha h hN => ct_pos w.W w.pos w.d2 hl w.i2d.g w.d2i.g (fun x n h0 h1 h2 h3 => ct_i2d w.W w.i2d h0 h1 h2 rfl h3) (fun ds n h1 h2 h3 h4 => ct_d2i w.W w.d2i ⟨h1, h2⟩ h3 h4) hb ha h hN) hx hq hr hN
theorem Wld.cLead1 (w : Wld X a) {m e : Nat} (hm : m ≤ 100) (he : e ≤ 3) : Ct X 3 a.lead [.int m, .int 1, .int e] (.ws (List.replicate m 0 ++ [1]) e 1) :=
  ct_lead (t := 1) w.W w.lead w.mak w.init w.kls hm (by decide) he (by simp; omega) fun h0' s0 s1 => lead_loop1 hm
theorem Wld.cLead2 (w : Wld X a) {m e : Nat} (hm : m ≤ 90) (he : e ≤ 3) : Ct X 3 a.lead [.int ((m + 1 : Nat) : Int), .int 2, .int e] (.ws (1 :: (List.replicate m 0 ++ [1])) e 2) :=
  ct_lead (t := 2) w.W w.lead w.mak w.init w.kls (by omega) (by decide) he (by simp; omega) fun h0' s0 s1 => lead_loop2 hm
theorem Wld.cVal (w : Wld X a) {bl : Nat} (hb : bl ≤ 3) {ts : List Tk} {s' : VS} (h : VRun ⟨[], 1, 1, 7⟩ ts s') (hw : WfT ts) (hl : (ts.flatMap (Tk.t bl)).length ≤ 10000) : Ct X 5 a.val [.str (ts.flatMap (Tk.t bl))] (.seq false [.int s'.v0, .int s'.v1]) := by
  obtain ⟨t, hm⟩ := w.em
  exact ct_val w.W w.val w.eof hm w.ifs.g (fun v h0 h1 => (ct_ifs w.W w.ifs w.sti w.pow ⟨h0, h1⟩ hb).up (by decide)) (fun v h0 h1 => num_tok ⟨h0, h1⟩) h hw hl
theorem Wld.cDvd (w : Wld X a) {low co tu : Int} (hco : co ≠ 0) (hlow : 0 ≤ low ∧ low ≤ 1000) (htu : -2000 ≤ tu ∧ tu ≤ 2000) (hbits : ∀ z : Int, 1 ≤ z → z ≤ 1000 → (Builtin.Int.intBits (z * co) : Int) ≤ 4194304)
    {rs : List Rw4} {l : Rw4} (h : ∀ r ∈ rs ++ [l], RowOk low r) (hl : l.e = 0) (hn : rs.length ≤ 100) : CtF X 121 a.dvd [.seq false ((rs ++ [l]).map Rw4.d), .int low, .int co, .int tu] (.bool true) :=
  ct_dvdF w.W w.dvd w.dm.g w.cDm w.ref.g (fun x => (ct_refd w.W w.ref w.dm w.zde x).up (by decide)) hco hlow htu hbits h hl hn
end
end Mine
end

section
open PySem PySem.Calls PyProof.Rows
set_option Elab.async false
set_option maxRecDepth 100000
namespace Mine
noncomputable abbrev nmLaw : List Str := ["script", "base", "sums", "below", "above", "edge", "whole", "pair", "chain", "stops", "others", "taller", "m", "told", "t", "w", "link"]
noncomputable abbrev FL (X : Cx) : Fx := ⟨X, 121, nmLaw, nnLaw, []⟩
noncomputable def baseD : D := .seq false [.int 3, .int 6, .int 5, .int (-3), .int 2, .int 1694]
noncomputable def sumsD (ns : List Int) : D := .seq false [.int (su ns 0), .int (su ns 1), .int (su ns 2), .int (su ns 3), .int (su ns 4), .int (su ns 5)]
/-- the slots, line by line -/
noncomputable abbrev lS (ns : List Int) (s1 s2 s3 s4 s5 s6 s7 s8 s9 s10 s11 s12 s13 : Sl) : List Sl := [.fr (.seq false (ns.map .int)), s1, s2, s3, s4, s5, s6, s7, s8, s9, s10, s11, s12, s13, .un, .un, .un]
section
variable {X : Cx} {a : Ads}
theorem law_1 {ns : List Int} (hn : ns.length ≤ 1000) : ExS (FL X) (lS ns (.fr baseD) .un .un .un .un .un .un .un .un .un .un .un .un) (bdLaw[1]) .nx (lS ns (.fr baseD) (.fr (sumsD ns)) .un .un .un .un .un .un .un .un .un .un .un) := by
  have hlid : strLid = 100000 := rfl
  refine ex_asgC (F := FL X) (i := 2) (x := 12) (caps := [0, 1]) (items := ([0, 1, 2, 3, 4, 5] : List Nat).map fun (m : Nat) => D.int (m : Int)) (out := ([0, 1, 2, 3, 4, 5] : List Nat).map fun (m : Nat) => D.int (su ns m)) (ScOk.of (by kernel_rfl)) (SrcS.cast (src_range1 ev_int (by kernel_rfl) (by omega)) (by rfl)) (comp_map fun m hm => ⟨.inl ⟨rfl, rfl⟩, ?_⟩) rfl (by kernel_rfl)
  have hl := pickD_len ns (some (m : Int)) none (some 6)
  refine ev_bin (ev_bi (n := "sum") (f := .builtin "sum") (by decide) (es_cons (EvS.cast (ev_cutStep (ev_name (i := 0) rfl rfl) (ev_name (i := 12) rfl rfl) ev_int (by decide) (by rw [List.length_map]; omega)) (congrArg (D.seq false) (pickD_map _ _ _ _ _))) es_nil) (biSum (by omega)) (by kernel_rfl) (.inl ⟨_, rfl⟩)) (ev_idx (ev_name (i := 1) rfl rfl) (ev_name (i := 12) rfl rfl) (d := .int (bs m)) (.pos m ?_ ?_)) bAdd
  · simp only [List.mem_cons, List.not_mem_nil, or_false] at hm
    rcases hm with rfl | rfl | rfl | rfl | rfl | rfl <;> rfl
  · simp only [List.mem_cons, List.not_mem_nil, or_false] at hm
    omega
theorem fmod_t {B k : Nat} : ((B : Int).fmod (1 + (k : Int)) == 0) = decide (B % (k + 1) = 0) := by
  have e : (B : Int).fmod (1 + (k : Int)) = ((B % (k + 1) : Nat) : Int) := by
    rw [Int.fmod_eq_emod_of_nonneg _ (by omega), show (1 + (k : Int)) = ((k + 1 : Nat) : Int) by omega, Int.natCast_emod]
  rw [e, Bool.eq_iff_iff, beq_iff_eq, decide_eq_true_eq]
  omega
theorem fmod_n {B k : Nat} : ((B : Int).fmod (1 + (k : Int)) != 0) = decide (B % (k + 1) ≠ 0) := by
  rw [bne, fmod_t]
  by_cases h : B % (k + 1) = 0 <;> simp [h]
theorem fdiv_t {B k : Nat} : (B : Int).fdiv (1 + (k : Int)) = ((B / (k + 1) : Nat) : Int) := by
  rw [Int.fdiv_eq_ediv_of_nonneg _ (by omega), show (1 + (k : Int)) = ((k + 1 : Nat) : Int) by omega, Int.natCast_ediv]
/-- if stops != [..]: return False -/
theorem law_9 {ns : List Int} {B e : Nat} (hB : 6 ≤ B ∧ B ≤ 16) {s1 s2 s4 s6 s7 s8 : Sl} : ExS (FL X) (lS ns s1 s2 (.fr (.int B)) s4 (.fr (.int e)) s6 s7 s8 (.fr (.seq false (dvsD B e))) .un .un .un .un) (bdLaw[9]) .nx
    (lS ns s1 s2 (.fr (.int B)) s4 (.fr (.int e)) s6 s7 s8 (.fr (.seq false (dvsD B e))) .un .un .un .un) := by
  refine ex_ifF (ts_cmp (ev_name (i := 9) rfl rfl) (ev_comp (F := FL X) (x := 14) (caps := [3, 5]) (items := (List.range B).map fun (k : Nat) => D.int (1 + (k : Int))) (out := dvsD B e) (ScOk.of (by kernel_rfl)) (SrcS.cast (src_range2 ev_int (ev_bin (ev_name (i := 3) rfl rfl) ev_int (by first | exact bAdd | exact bCat (by first | assumption | omega | (constructor <;> omega) | (simp only [List.length_append, List.length_cons, List.length_nil]; omega) | (simp; done) | (simp; omega)))) (by kernel_rfl) (by omega) (by omega)) (by unfold rangeD; rw [show ((B : Int) + 1 - 1).toNat = B by omega])) (comp_filter fun k hk => ⟨.inr ⟨_, rfl, TsS.cast (ts_cmp (ev_bin (ev_name (i := 3) rfl rfl) (ev_name (i := 14) rfl rfl) (bModS (by first | assumption | omega | (constructor <;> omega) | (simp only [List.length_append, List.length_cons, List.length_nil]; omega) | (simp; done) | (simp; omega)))) ev_int cEq) fmod_t⟩, fun _ => (ev_tuple (es_cons (ev_name (i := 14) rfl rfl) (es_cons (ev_bin (ev_name (i := 3) rfl rfl) (ev_name (i := 5) rfl rfl) (by first | exact bAdd | exact bCat (by first | assumption | omega | (constructor <;> omega) | (simp only [List.length_append, List.length_cons, List.length_nil]; omega) | (simp; done) | (simp; omega)))) (es_cons (ev_bin (ev_bin (ev_name (i := 3) rfl rfl) (ev_name (i := 14) rfl rfl) (by first | exact bAdd | exact bCat (by first | assumption | omega | (constructor <;> omega) | (simp only [List.length_append, List.length_cons, List.length_nil]; omega) | (simp; done) | (simp; omega)))) (ev_name (i := 5) rfl rfl) (by first | exact bAdd | exact bCat (by first | assumption | omega | (constructor <;> omega) | (simp only [List.length_append, List.length_cons, List.length_nil]; omega) | (simp; done) | (simp; omega)))) es_nil))))⟩)) (ne3 _ _ _ _)) exs_nil
/-- others = [..] -/
theorem law_10 {ns : List Int} {B e : Nat} (hB : 6 ≤ B ∧ B ≤ 16) {s1 s2 s4 s6 s7 s8 s9 : Sl} : ExS (FL X) (lS ns s1 s2 (.fr (.int B)) s4 (.fr (.int e)) s6 s7 s8 s9 .un .un .un .un) (bdLaw[10]) .nx
    (lS ns s1 s2 (.fr (.int B)) s4 (.fr (.int e)) s6 s7 s8 s9 (.fr (.seq false (othD B e))) .un .un .un) := by
  refine ex_asgC (F := FL X) (i := 10) (x := 14) (caps := [3, 5]) (items := (List.range (B + 1)).map fun (k : Nat) => D.int (1 + (k : Int))) (out := othD B e) (ScOk.of (by kernel_rfl)) (SrcS.cast (src_range2 ev_int (ev_bin (ev_name (i := 3) rfl rfl) ev_int (by first | exact bAdd | exact bCat (by first | assumption | omega | (constructor <;> omega) | (simp only [List.length_append, List.length_cons, List.length_nil]; omega) | (simp; done) | (simp; omega)))) (by kernel_rfl) (by omega) (by omega)) (by unfold rangeD; rw [show ((B : Int) + 2 - 1).toNat = B + 1 by omega])) (comp_filter fun k hk => ⟨.inr ⟨_, rfl, TsS.cast (ts_cmp (ev_bin (ev_name (i := 3) rfl rfl) (ev_name (i := 14) rfl rfl) (bModS (by first | assumption | omega | (constructor <;> omega) | (simp only [List.length_append, List.length_cons, List.length_nil]; omega) | (simp; done) | (simp; omega)))) ev_int cNe) fmod_n⟩, fun _ => ?_⟩) rfl (by kernel_rfl)
  have hk := List.mem_range.mp hk
  have ht : -4611686018427387904 ≤ 1 + (k : Int) ∧ 1 + (k : Int) ≤ 4611686018427387904 := by omega
  exact EvS.cast (ev_tuple (es_cons (ev_name (i := 14) rfl rfl) (es_cons (ev_bin (ev_bin (ev_name (i := 14) rfl rfl) (ev_bin (ev_bin (ev_name (i := 3) rfl rfl) (ev_name (i := 14) rfl rfl) (bDivS (by first | assumption | omega | (constructor <;> omega) | (simp only [List.length_append, List.length_cons, List.length_nil]; omega) | (simp; done) | (simp; omega)))) ev_int (by first | exact bAdd | exact bCat (by first | assumption | omega | (constructor <;> omega) | (simp only [List.length_append, List.length_cons, List.length_nil]; omega) | (simp; done) | (simp; omega)))) (by first | exact bMulL (by first | assumption | omega | (constructor <;> omega) | (simp only [List.length_append, List.length_cons, List.length_nil]; omega) | (simp; done) | (simp; omega)) | exact bMulR (by first | assumption | omega | (constructor <;> omega) | (simp only [List.length_append, List.length_cons, List.length_nil]; omega) | (simp; done) | (simp; omega)) | exact bRepS (by first | assumption | omega | (constructor <;> omega) | (simp only [List.length_append, List.length_cons, List.length_nil]; omega) | (simp; done) | (simp; omega)) (by first | assumption | omega | (constructor <;> omega) | (simp only [List.length_append, List.length_cons, List.length_nil]; omega) | (simp; done) | (simp; omega)))) (ev_name (i := 5) rfl rfl) (by first | exact bAdd | exact bCat (by first | assumption | omega | (constructor <;> omega) | (simp only [List.length_append, List.length_cons, List.length_nil]; omega) | (simp; done) | (simp; omega)))) (es_cons (ev_bin (ev_bin (ev_name (i := 14) rfl rfl) (ev_bin (ev_bin (ev_name (i := 3) rfl rfl) (ev_name (i := 14) rfl rfl) (bDivS (by first | assumption | omega | (constructor <;> omega) | (simp only [List.length_append, List.length_cons, List.length_nil]; omega) | (simp; done) | (simp; omega)))) ev_int (by first | exact bAdd | exact bCat (by first | assumption | omega | (constructor <;> omega) | (simp only [List.length_append, List.length_cons, List.length_nil]; omega) | (simp; done) | (simp; omega)))) (by first | exact bMulL (by first | assumption | omega | (constructor <;> omega) | (simp only [List.length_append, List.length_cons, List.length_nil]; omega) | (simp; done) | (simp; omega)) | exact bMulR (by first | assumption | omega | (constructor <;> omega) | (simp only [List.length_append, List.length_cons, List.length_nil]; omega) | (simp; done) | (simp; omega)) | exact bRepS (by first | assumption | omega | (constructor <;> omega) | (simp only [List.length_append, List.length_cons, List.length_nil]; omega) | (simp; done) | (simp; omega)) (by first | assumption | omega | (constructor <;> omega) | (simp only [List.length_append, List.length_cons, List.length_nil]; omega) | (simp; done) | (simp; omega)))) (ev_name (i := 5) rfl rfl) (by first | exact bAdd | exact bCat (by first | assumption | omega | (constructor <;> omega) | (simp only [List.length_append, List.length_cons, List.length_nil]; omega) | (simp; done) | (simp; omega)))) es_nil)))) (by rw [fdiv_t])
/-- if taller's .. != others or ..: return False -/
theorem law_12 (w : Wld X a) {ns : List Int} {B e : Nat} (hB : 6 ≤ B ∧ B ≤ 16) (he : e ≤ 3) {s1 s2 s3 s4 s5 s6 s8 s9 : Sl} : ExS (FL X) (lS ns s1 s2 s3 s4 s5 s6 (.fr (.seq false [.ws (cA B) e 1, .ws (cB B) e 1])) s8 s9 (.fr (.seq false (othD B e))) (.fr (.ws (cT B) e 2)) .un .un) (bdLaw[12]) .nx
    (lS ns s1 s2 s3 s4 s5 s6 (.fr (.seq false [.ws (cA B) e 1, .ws (cB B) e 1])) s8 s9 (.fr (.seq false (othD B e))) (.fr (.ws (cT B) e 2)) .un .un) := by
  have hlid : strLid = 100000 := rfl
  obtain ⟨b1, b2⟩ := cB_ok B hB.2
  obtain ⟨t1, t2⟩ := cT_ok B hB.2
  have lB : (cB B).length = B + 1 := by simp
  have lT : (cT B).length = B := by simp; omega
  have C1 := (ct_wit (n := (B : Int) + 1) w.W w.wit w.long w.ind (c1 := cT B) (c2 := cB B) (t1 := e) (t2 := e) (n1 := 2) (n2 := 1) t1 t2 b1 b2 (by unfold lng; rw [lB, lT]; (repeat' split) <;> omega) (by omega)).cast (congrArg (D.seq false) (wit_oth (e := e) hB))
  have C2 := (ct_wit (n := (B : Int) + 1) w.W w.wit w.long w.ind (c1 := cB B) (c2 := cT B) (t1 := e) (t2 := e) (n1 := 1) (n2 := 2) b1 b2 t1 t2 (by unfold lng; rw [lB, lT]; (repeat' split) <;> omega) (by omega)).cast (congrArg (D.seq false) (wit_otS (e := e) hB))
  have hlo : (othD B e).length ≤ strLid := by
    unfold othD oth
    rw [List.length_map]
    have := List.length_filter_le (fun k => decide (B % (k + 1) ≠ 0)) (List.range (B + 1))
    rw [List.length_range] at this
    omega
  refine ex_ifF (ts_orF (ts_cmp (ev_wm w.wit.g (ev_name (i := 11) rfl rfl) (es_cons (ev_idx (ev_name (i := 7) rfl rfl) ev_int (.pos 1 rfl (by decide))) es_nil) (C1.up (k' := 121) (by decide))) (ev_name (i := 10) rfl rfl) (ne3 _ _ _ _))
    (ts_cmp (ev_wm w.wit.g (ev_idx (ev_name (i := 7) rfl rfl) ev_int (.pos 1 rfl (by decide))) (es_cons (ev_name (i := 11) rfl rfl) es_nil) (C2.up (k' := 121) (by decide))) (ev_comp (F := FL X) (x := 15) (caps := []) (items := othD B e) (out := othS B e) (ScOk.of (by kernel_rfl)) (src_list (ev_name (i := 10) rfl rfl) hlo) (comp_map fun k hk => ⟨.inl ⟨rfl, rfl⟩, (ev_tuple (es_cons (ev_idx (ev_name (i := 15) rfl rfl) ev_int (.pos 0 rfl (by decide))) (es_cons (ev_idx (ev_name (i := 15) rfl rfl) ev_int (.pos 2 rfl (by decide))) (es_cons (ev_idx (ev_name (i := 15) rfl rfl) ev_int (.pos 1 rfl (by decide))) es_nil))))⟩)) (ne3 _ _ _ _))) exs_nil
/-- if [link ..] != chain[-1:]: return False -/
theorem law_13 {ns : List Int} {B z e : Nat} (hB : 6 ≤ B ∧ B ≤ 16) {rs : List Rw4} {l : Rw4} (c : Chn B z rs l) {s1 s2 s3 s4 s5 s6 s7 s10 s11 : Sl} : ExS (FL X) (lS ns s1 s2 s3 s4 s5 s6 s7 (.fr (.seq false ((rs ++ [l]).map Rw4.d))) (.fr (.seq false (dvsD B e))) s10 s11 .un .un) (bdLaw[13]) .nx
    (lS ns s1 s2 s3 s4 s5 s6 s7 (.fr (.seq false ((rs ++ [l]).map Rw4.d))) (.fr (.seq false (dvsD B e))) s10 s11 .un .un) := by
  have hlid : strLid = 100000 := rfl
  have hn := c.n
  have hl1 : ((rs ++ [l]).map Rw4.d).length ≤ strLid := by rw [List.length_map, List.length_append]; simp only [List.length_cons, List.length_nil]; omega
  have hl2 : (rs.map Rw4.d).length < strLid := by rw [List.length_map]; omega
  have hmap : (rs ++ [l]).map Rw4.d = rs.map Rw4.d ++ [l.d] := by rw [List.map_append]; rfl
  have hld : (dvsD B e).length ≤ strLid := by
    unfold dvsD dvs
    rw [List.length_map]
    have := List.length_filter_le (fun k => decide (B % (k + 1) = 0)) (List.range B)
    rw [List.length_range] at this
    omega
  refine ex_ifF (ts_cmp (ev_comp (F := FL X) (x := 16) (caps := [9]) (items := (rs ++ [l]).map Rw4.d) (out := [l].map Rw4.d) (ScOk.of (by kernel_rfl)) (src_list (ev_name (i := 8) rfl rfl) hl1)
    (CompR.cast (comp_filter (f := Rw4.d) (g := Rw4.d) (p := fun r => ((dvs B).map fun (k : Nat) => 1 + (k : Int)).any (· == r.z)) fun r hr => ⟨.inr ⟨_, rfl, ts_cmp (ev_idx (ev_name (i := 16) rfl rfl) ev_int (.pos 2 rfl (by decide)))
      (EvS.cast (ev_comp (x := 15) (caps := []) (items := dvsD B e) (out := (dvs B).map fun (k : Nat) => D.int (1 + (k : Int))) (ScOk.of (by kernel_rfl)) (src_list (ev_name (i := 9) rfl rfl) hld) (comp_map fun k hk => ⟨.inl ⟨rfl, rfl⟩, (ev_idx (ev_name (i := 15) rfl rfl) ev_int (.pos 0 rfl (by decide)))⟩)) (by rw [List.map_map]; rfl)) cIn⟩, fun _ => ev_name (i := 16) rfl rfl⟩) rfl (congrArg (List.map Rw4.d) (keep_last c))))
    (ev_cutLast (EvS.cast (ev_name (i := 8) rfl rfl) (congrArg (D.seq false) hmap)) hl2) (ne4 [l])) exs_nil
/-- for m in range(1, len(chain)): .. -/
theorem law_14 {ns : List Int} {rows : List Rw4} (hn : rows.length ≤ 100) (hm : ∀ i r r', rows[i]? = some r → rows[i + 1]? = some r' → Mno r r') {s1 s2 s3 s4 s5 s6 s7 s9 s10 s11 : Sl} : ∀ (n k : Nat) (s12 : Sl), k + n + 1 = rows.length → ∃ s12', ForR (FL X) tgLaw lpLaw ((List.range n).map fun (i : Nat) => D.int (1 + ((k + i : Nat) : Int)))
    (lS ns s1 s2 s3 s4 s5 s6 s7 (.fr (.seq false (rows.map Rw4.d))) s9 s10 s11 s12 .un) .nx (lS ns s1 s2 s3 s4 s5 s6 s7 (.fr (.seq false (rows.map Rw4.d))) s9 s10 s11 s12' .un)
  | 0, k, s12, _ => ⟨s12, .nil⟩
  | n + 1, k, s12, h => by
    obtain ⟨s12', ih⟩ := law_14 hn hm n (k + 1) (.fr (.int (1 + (k : Int)))) (by omega)
    have e : ((List.range (n + 1)).map fun (i : Nat) => D.int (1 + ((k + i : Nat) : Int))) = .int (1 + (k : Int)) :: (List.range n).map fun (i : Nat) => D.int (1 + ((k + 1 + i : Nat) : Int)) := by
      rw [List.range_succ_eq_map, List.map_cons, List.map_map]
      congr 1
      refine List.map_congr_left fun i _ => ?_
      simp only [Function.comp_apply]
      rw [show k + i.succ = k + 1 + i by omega]
    rw [e]
    have hr : rows[k]? = some rows[k] := List.getElem?_eq_getElem (by omega)
    have hr' : rows[k + 1]? = some rows[k + 1] := List.getElem?_eq_getElem (by omega)
    have m := hm k _ _ hr hr'
    generalize rows[k] = r at *
    generalize rows[k + 1] = r' at *
    have i1 : IdxR (.seq false (rows.map Rw4.d)) (1 + (k : Int)) r'.d := by
      have : (1 + (k : Int)) = ((k + 1 : Nat) : Int) := by omega
      rw [this]
      exact .pos (k + 1) (by rw [List.getElem?_map, hr']; rfl) (by omega)
    have i0 : IdxR (.seq false (rows.map Rw4.d)) (1 + (k : Int) - 1) r.d := by
      have : (1 + (k : Int) - 1) = (k : Int) := by omega
      rw [this]
      exact .pos k (by rw [List.getElem?_map, hr]; rfl) (by omega)
    refine ⟨s12', .go (bd_name (i := 12) rfl) (exs_cons (ex_ifF (σ' := lS ns s1 s2 s3 s4 s5 s6 s7 (.fr (.seq false (rows.map Rw4.d))) s9 s10 s11 (.fr (.int (1 + (k : Int)))) .un) ?_ exs_nil) exs_nil) ih⟩
    unfold Mno at m
    by_cases q : r.s = -1
    · rw [if_pos q] at m
      exact TsS.cast (ts_cmp (ev_idx (ev_idx (ev_name (i := 8) rfl rfl) (ev_name (i := 12) rfl rfl) (by assumption)) ev_int (.pos 1 rfl (by decide))) (ev_bin (ev_idx (ev_idx (ev_name (i := 8) rfl rfl) (ev_bin (ev_name (i := 12) rfl rfl) ev_int bSub) (by assumption)) ev_int (.pos 1 rfl (by decide))) (ev_ifT (TsS.cast (ts_cmp (ev_idx (ev_idx (ev_name (i := 8) rfl rfl) (ev_bin (ev_name (i := 12) rfl rfl) ev_int bSub) (by assumption)) ev_int (.pos 0 rfl (by decide))) (ev_un ev_int uNeg) cEq) (by rw [q]; rfl)) ev_int) bAdd) cLt) (decide_eq_false m)
    · rw [if_neg q] at m
      exact TsS.cast (ts_cmp (ev_idx (ev_idx (ev_name (i := 8) rfl rfl) (ev_name (i := 12) rfl rfl) (by assumption)) ev_int (.pos 1 rfl (by decide))) (ev_bin (ev_idx (ev_idx (ev_name (i := 8) rfl rfl) (ev_bin (ev_name (i := 12) rfl rfl) ev_int bSub) (by assumption)) ev_int (.pos 1 rfl (by decide))) (ev_ifF (TsS.cast (ts_cmp (ev_idx (ev_idx (ev_name (i := 8) rfl rfl) (ev_bin (ev_name (i := 12) rfl rfl) ev_int bSub) (by assumption)) ev_int (.pos 0 rfl (by decide))) (ev_un ev_int uNeg) cEq) (by simpa using q)) (ev_bi (n := "min") (f := .builtin "min") (.tail _ (.tail _ (.head _))) (es_cons ev_int (es_cons (ev_idx (ev_idx (ev_name (i := 8) rfl rfl) (ev_name (i := 12) rfl rfl) (by assumption)) ev_int (.pos 0 rfl (by decide))) es_nil)) (by exact biMin) (by kernel_rfl) (.inl ⟨_, rfl⟩))) bAdd) cLt) (decide_eq_false m)
end
end Mine
end

section
open PySem PySem.Calls PyProof.Rows
set_option Elab.async false
set_option maxRecDepth 100000
namespace Mine
theorem tfull_len {bl : Nat} (hb : bl ≤ 3) {rows : List Rw4} {turns : Int} (h : ∀ r ∈ rows, RwV r) (hl : rows.length ≤ 50) (ht : -9999 ≤ turns ∧ turns ≤ 9999) : (tfull bl rows turns).length ≤ 10000 := by
  have hx := tx_len hb rows.reverse [] fun r hr => (h r (List.mem_reverse.mp hr)).c
  have hx' : (tx bl rows).length ≤ 5000 := by simp only [List.length_nil, List.length_reverse, Nat.zero_add] at hx; unfold tx; omega
  have h2 := numT_len (a := if turns < 0 then -turns else turns) (by split <;> omega) hb
  unfold tfull
  by_cases q : turns < 0
  · simp only [if_pos q, List.length_append, List.length_cons, List.length_nil] at h2 ⊢; omega
  · simp only [if_neg q, List.length_append, List.length_cons, List.length_nil] at h2 ⊢; omega
noncomputable def coF (ns : List Int) : Int := if su ns 3 = 0 then 1 else su ns 3
section
variable {X : Cx} {a : Ads}
theorem law_go (w : Wld X a) {ns : List Int} (hn : ns.length ≤ 1000) (hbits : ∀ z : Int, 1 ≤ z → z ≤ 1000 → (Builtin.Int.intBits (z * coF ns) : Int) ≤ 4194304)
    {B z e : Nat} {tu : Int} (hB : 6 ≤ B ∧ B ≤ 15) (eB : 6 + (su ns 0).fmod 10 = B) (hz : 1 ≤ z ∧ z ≤ B) (ez : 1 + (su ns 1).fmod B = z) (he : e ≤ 3) (ee : (su ns 4).fmod 4 = e) (htu : -2000 ≤ tu ∧ tu ≤ 2000) (etu : (su ns 5).fmod 4001 - 2000 = tu) :
    ExT (FL X) (lS ns .un .un .un .un .un .un .un .un .un .un .un .un .un) bdLaw (.bool true) := by
  have hlid : strLid = 100000 := rfl
  have hB' : 6 ≤ B ∧ B ≤ 16 := by omega
  have hBB : -4611686018427387904 ≤ (B : Int) ∧ (B : Int) ≤ 4611686018427387904 := by omega
  have hB1 : (1 : Int) ≤ (B : Int) := by omega
  have htt : -4611686018427387904 ≤ tu ∧ tu ≤ 4611686018427387904 := by omega
  obtain ⟨a1, a2⟩ := cA_ok B hB'.2
  obtain ⟨b1, b2⟩ := cB_ok B hB'.2
  have lA : (cA B).length = B := by simp; omega
  have lB : (cB B).length = B + 1 := by simp
  obtain ⟨rs, l, ec, ch⟩ := chn_all (B := B) (z := z) (e := (e : Int)) (picks := su ns 2) (by omega) hz
  have hrn := ch.n
  have hrv : ∀ r ∈ rs ++ [l], RwV r := fun r hr => (ch.rv r hr).1
  have hrl : (rs ++ [l]).length = rs.length + 1 := by simp
  have CA := w.cLead1 (m := B - 1) (e := e) (by omega) he
  have CB := w.cLead1 (m := B) (e := e) (by omega) he
  have CT := w.cLead2 (m := B - 2) (e := e) (by omega) he
  rw [show B - 2 + 1 = B - 1 by omega] at CT
  have eB1 : (B : Int) - 1 = ((B - 1 : Nat) : Int) := by omega
  have CS := ct_stops (top := z) (low := (B : Int)) (bl := (e : Int)) (picks := su ns 2) w.W w.stops w.ind (c1 := cA B) (c2 := cB B) (t1 := e) (t2 := e) (n1 := 1) (n2 := 1) a1 a2 b1 b2 (by omega) (fun k y h0 h1 => by
    obtain ⟨y, rfl⟩ : ∃ n : Nat, y = (n : Int) := ⟨y.toNat, by omega⟩
    rw [stp_eq (by omega) (by omega)]
    obtain ⟨_, _, _, _, h5, h6, _⟩ := stN_all B (by omega) y (by omega) (by omega) (by omega) (decide (((su ns 2).fdiv (2 ^ k)).fmod 2 = 1))
    omega) (by omega)
  have CS := CS.cast (congrArg (fun x => D.seq false (List.map Rw4.d x)) ec)
  have CW := (ct_wit (n := (B : Int) + 1) w.W w.wit w.long w.ind (c1 := cA B) (c2 := cB B) (t1 := e) (t2 := e) (n1 := 1) (n2 := 1) a1 a2 b1 b2 (by unfold lng; rw [lA, lB]; (repeat' split) <;> omega) (by omega)).cast (congrArg (D.seq false) (wit_dvs (e := e) hB'))
  have CX := (ct_text (bl := e) w.W w.text w.num he (rows := rs ++ [l]) (turns := tu) (fun r hr => ⟨(hrv r hr).s, (hrv r hr).c⟩) (by omega) (by omega)).cast (congrArg D.str (tkf_tfull e (rs ++ [l]) tu).symm)
  obtain ⟨v, vr, ve⟩ := ch.told (tu := tu) hz.2 (by omega)
  have CV := w.cVal he vr (wf_tkf _ _) (by rw [tkf_tfull]; exact tfull_len he hrv (by omega) (by omega))
  have CD := w.cDvd (co := coF ns) (low := (B : Int)) (tu := tu) (by unfold coF; split; decide; assumption) (by omega) htu hbits ch.ok ch.e (by omega)
  obtain ⟨s12', L⟩ := law_14 (X := X) (ns := ns) (rows := rs ++ [l]) (by omega) ch.mno (s1 := .fr baseD) (s2 := .fr (sumsD ns)) (s3 := .fr (.int B)) (s4 := .fr (.int z)) (s5 := .fr (.int e)) (s6 := .fr (.int tu)) (s7 := .fr (.seq false [.ws (cA B) e 1, .ws (cB B) e 1])) (s9 := .fr (.seq false (dvsD B e))) (s10 := .fr (.seq false (othD B e))) (s11 := .fr (.ws (cT B) e 2)) rs.length 0 .un (by omega)
  have hl1 : ((rs ++ [l]).map Rw4.d).length ≤ strLid := by rw [List.length_map]; omega
  refine ext_cons (σ₁ := lS ns (.fr baseD) .un .un .un .un .un .un .un .un .un .un .un .un) (ex_asg (F := FL X) (i := 1) rfl (ev_list (es_cons ev_int (es_cons ev_int (es_cons ev_int (es_cons (ev_un ev_int uNeg) (es_cons ev_int (es_cons ev_int es_nil)))))))) ?_
  refine ext_cons (law_1 hn) ?_
  refine ext_cons (ex_asg (F := FL X) (i := 3) (d := .int B) rfl (EvS.cast (ev_bin ev_int (ev_bin (ev_idx (ev_name (i := 2) rfl rfl) ev_int (.pos 0 rfl (by decide))) ev_int (bModS (by first | assumption | omega | (constructor <;> omega) | (simp only [List.length_append, List.length_cons, List.length_nil]; omega) | (simp; done) | (simp; omega)))) (by first | exact bAdd | exact bCat (by first | assumption | omega | (constructor <;> omega) | (simp only [List.length_append, List.length_cons, List.length_nil]; omega) | (simp; done) | (simp; omega)))) (congrArg D.int eB))) ?_
  refine ext_cons (ex_asg (F := FL X) (i := 4) (d := .int z) rfl (EvS.cast (ev_bin ev_int (ev_bin (ev_idx (ev_name (i := 2) rfl rfl) ev_int (.pos 1 rfl (by decide))) (ev_name (i := 3) rfl rfl) (bModS hB1)) bAdd) (congrArg D.int ez))) ?_
  refine ext_cons (ex_asg (F := FL X) (i := 5) (d := .int e) rfl (EvS.cast (ev_bin (ev_idx (ev_name (i := 2) rfl rfl) ev_int (.pos 4 rfl (by decide))) ev_int (bModS (by first | assumption | omega | (constructor <;> omega) | (simp only [List.length_append, List.length_cons, List.length_nil]; omega) | (simp; done) | (simp; omega)))) (congrArg D.int ee))) ?_
  refine ext_cons (ex_asg (F := FL X) (i := 6) (d := .int tu) rfl (EvS.cast (ev_bin (ev_bin (ev_idx (ev_name (i := 2) rfl rfl) ev_int (.pos 5 rfl (by decide))) ev_int (bModS (by first | assumption | omega | (constructor <;> omega) | (simp only [List.length_append, List.length_cons, List.length_nil]; omega) | (simp; done) | (simp; omega)))) ev_int bSub) (congrArg D.int etu))) ?_
  refine ext_cons (ex_asg (F := FL X) (i := 7) (d := .seq false [.ws (cA B) e 1, .ws (cB B) e 1]) rfl (ev_list (es_cons (ev_call w.lead.g (es_cons (EvS.cast (ev_bin (ev_name (i := 3) rfl rfl) ev_int bSub) (congrArg D.int eB1)) (es_cons ev_int (es_cons (ev_name (i := 5) rfl rfl) es_nil))) (CA.up (k' := 121) (by decide)) (by kernel_rfl)) (es_cons (ev_call w.lead.g (es_cons (ev_name (i := 3) rfl rfl) (es_cons ev_int (es_cons (ev_name (i := 5) rfl rfl) es_nil))) (CB.up (k' := 121) (by decide)) (by kernel_rfl)) es_nil)))) ?_
  refine ext_cons (ex_asg (F := FL X) (i := 8) (d := .seq false ((rs ++ [l]).map Rw4.d)) rfl (ev_call w.stops.g (es_cons (ev_name (i := 7) rfl rfl) (es_cons (ev_name (i := 4) rfl rfl) (es_cons (ev_name (i := 3) rfl rfl) (es_cons (ev_idx (ev_name (i := 2) rfl rfl) ev_int (.pos 2 rfl (by decide))) (es_cons (ev_name (i := 5) rfl rfl) es_nil))))) (CS.up (k' := 121) (by decide)) (by kernel_rfl))) ?_
  refine ext_cons (ex_asg (F := FL X) (i := 9) (d := .seq false (dvsD B e)) rfl (ev_wm w.wit.g (ev_idx (ev_name (i := 7) rfl rfl) ev_int (.pos 0 rfl (by decide))) (es_cons (ev_idx (ev_name (i := 7) rfl rfl) ev_int (.pos 1 rfl (by decide))) es_nil) (CW.up (k' := 121) (by decide)))) ?_
  refine ext_cons (law_9 hB') ?_
  refine ext_cons (law_10 hB') ?_
  refine ext_cons (ex_asg (F := FL X) (i := 11) (d := .ws (cT B) e 2) rfl (ev_call w.lead.g (es_cons (EvS.cast (ev_bin (ev_name (i := 3) rfl rfl) ev_int bSub) (congrArg D.int eB1)) (es_cons ev_int (es_cons (ev_name (i := 5) rfl rfl) es_nil))) (CT.up (k' := 121) (by decide)) (by kernel_rfl))) ?_
  refine ext_cons (law_12 w hB' he) ?_
  refine ext_cons (law_13 hB' ch) ?_
  refine ext_cons (ex_for (F := FL X) (SrcS.cast (src_range2 ev_int (ev_bi (n := "len") (f := .builtin "len") (.head _) (es_cons (ev_name (i := 8) rfl rfl) es_nil) (by first | exact biLen (by first | assumption | omega | (constructor <;> omega) | (simp only [List.length_append, List.length_cons, List.length_nil]; omega) | (simp; done) | (simp; omega)) | exact biLenS (by first | assumption | omega | (constructor <;> omega) | (simp only [List.length_append, List.length_cons, List.length_nil]; omega) | (simp; done) | (simp; omega))) (by kernel_rfl) (.inl ⟨_, rfl⟩)) (by kernel_rfl) (by omega) (by rw [List.length_map]; omega)) (by unfold rangeD; rw [List.length_map, show (((rs ++ [l]).length : Int) - 1).toNat = rs.length by omega]; refine List.map_congr_left fun i _ => ?_; rw [Nat.zero_add])) L) ?_
  refine ext_cons (ex_asg (F := FL X) (i := 13) (d := .seq false [.int v.v0, .int v.v1]) rfl (ev_call w.val.g (es_cons (ev_call w.text.g (es_cons (ev_name (i := 8) rfl rfl) (es_cons (ev_name (i := 5) rfl rfl) (es_cons (ev_name (i := 6) rfl rfl) es_nil))) (CX.up (k' := 121) (by decide)) (by kernel_rfl)) es_nil) (CV.up (k' := 121) (by decide)) (by kernel_rfl))) ?_
  refine ext_retF w.dvd.g (es_cons (ev_name (i := 8) rfl rfl) (es_cons (ev_name (i := 3) rfl rfl) (es_cons (d := .int (coF ns)) ?_ (es_cons (ev_name (i := 6) rfl rfl) es_nil)))) CD (by kernel_rfl) (EvS.cast (ev_cmp (ev_bin (ev_idx (ev_name (i := 13) rfl rfl) ev_int (.pos 0 rfl (by decide))) (ev_name (i := 3) rfl rfl) (bMulR hBB)) (ev_bin (ev_bi (n := "abs") (f := .builtin "abs") (.tail _ (.tail _ (.tail _ (.head _)))) (es_cons (ev_bin (ev_bin (ev_name (i := 6) rfl rfl) (ev_name (i := 3) rfl rfl) (bMulL htt)) (ev_name (i := 4) rfl rfl) bAdd) es_nil) biAbs (by kernel_rfl) (.inl ⟨_, rfl⟩)) (ev_idx (ev_name (i := 13) rfl rfl) ev_int (.pos 1 rfl (by decide))) (bMulL ?_)) cEq) (congrArg D.bool (beq_iff_eq.mpr ve)))
  · unfold coF
    by_cases q : su ns 3 = 0
    · rw [if_pos q]
      exact ev_orF (EvS.cast (ev_idx (ev_name (i := 2) rfl rfl) ev_int (.pos 3 rfl (by decide))) (congrArg D.int q)) ev_int
    · rw [if_neg q]
      exact ev_orT (ev_idx (ev_name (i := 2) rfl rfl) ev_int (.pos 3 rfl (by decide))) q
  · have h1 : tu * (B : Int) ≤ 2000 * B := Int.mul_le_mul_of_nonneg_right htu.2 (by omega)
    have h2 : -2000 * (B : Int) ≤ tu * B := Int.mul_le_mul_of_nonneg_right htu.1 (by omega)
    split <;> omega
theorem ct_law (w : Wld X a) {ns : List Int} (hn : ns.length ≤ 1000) (hbits : ∀ z : Int, 1 ≤ z → z ≤ 1000 → (Builtin.Int.intBits (z * coF ns) : Int) ≤ 4194304) : CtF X 122 a.law [.seq false (ns.map .int)] (.bool true) := by
  have f0 : (su ns 0).fmod 10 = su ns 0 % 10 := Int.fmod_eq_emod_of_nonneg _ (by decide)
  have f4 : (su ns 4).fmod 4 = su ns 4 % 4 := Int.fmod_eq_emod_of_nonneg _ (by decide)
  have f5 : (su ns 5).fmod 4001 = su ns 5 % 4001 := Int.fmod_eq_emod_of_nonneg _ (by decide)
  obtain ⟨B, eB⟩ : ∃ B : Nat, 6 + (su ns 0).fmod 10 = B := ⟨(6 + (su ns 0).fmod 10).toNat, by omega⟩
  have f1 : (su ns 1).fmod B = su ns 1 % B := Int.fmod_eq_emod_of_nonneg _ (by omega)
  have g1 := Int.emod_nonneg (su ns 1) (show (B : Int) ≠ 0 by omega)
  have g2 := Int.emod_lt_of_pos (su ns 1) (show (0 : Int) < B by omega)
  exact fn_ctF (k := 121) (nm := nmLaw) ["base", "sums", "below", "above", "edge", "whole", "pair", "chain", "stops", "others", "taller", "m", "told", "t", "w", "link"] w.W w.law.f rfl (by kernel_rfl) rfl
    (law_go w hn hbits (B := B) (z := (1 + (su ns 1).fmod B).toNat) (e := ((su ns 4).fmod 4).toNat) (by omega) eB (by omega) (by omega) (by omega) (by omega) (by omega) rfl)
end
end Mine
end

section
open PySem PySem.W PyProof.Rows PySem.Challenge
set_option Elab.async false
set_option maxRecDepth 100000
namespace Mine
noncomputable abbrev pw : Program := pw_sc0111_01
end Mine
end

section
open PySem PySem.W PyProof.Rows PySem.Challenge
set_option Elab.async false
set_option maxRecDepth 100000
set_option maxHeartbeats 0
namespace Mine
noncomputable def fnA : Stmt → Option Arguments
  | .FunctionDef _ a _ _ _ _ _ _ _ _ => some a
  | _ => none
noncomputable def arLaw : Arguments := by
  refine Subtype.val (p := fun x => (stI 74).bind fnA = some x) ⟨?_, ?_⟩
  rotate_left
  exact rfl
noncomputable def arLead : Arguments := by
  refine Subtype.val (p := fun x => (stI 67).bind fnA = some x) ⟨?_, ?_⟩
  rotate_left
  exact rfl
noncomputable def arStops : Arguments := by
  refine Subtype.val (p := fun x => (stI 68).bind fnA = some x) ⟨?_, ?_⟩
  rotate_left
  exact rfl
noncomputable def arRef : Arguments := by
  refine Subtype.val (p := fun x => (stI 69).bind fnA = some x) ⟨?_, ?_⟩
  rotate_left
  exact rfl
noncomputable def arDvd : Arguments := by
  refine Subtype.val (p := fun x => (stI 70).bind fnA = some x) ⟨?_, ?_⟩
  rotate_left
  exact rfl
noncomputable def arNum : Arguments := by
  refine Subtype.val (p := fun x => (stI 71).bind fnA = some x) ⟨?_, ?_⟩
  rotate_left
  exact rfl
noncomputable def arText : Arguments := by
  refine Subtype.val (p := fun x => (stI 72).bind fnA = some x) ⟨?_, ?_⟩
  rotate_left
  exact rfl
noncomputable def arVal : Arguments := by
  refine Subtype.val (p := fun x => (stI 73).bind fnA = some x) ⟨?_, ?_⟩
  rotate_left
  exact rfl
noncomputable def arEof : Arguments := by
  refine Subtype.val (p := fun x => (stI 65).bind fnA = some x) ⟨?_, ?_⟩
  rotate_left
  exact rfl
noncomputable def arStr : Arguments := by
  refine Subtype.val (p := fun x => (stI 3).bind fnA = some x) ⟨?_, ?_⟩
  rotate_left
  exact rfl
noncomputable def arIfs : Arguments := by
  refine Subtype.val (p := fun x => (stI 4).bind fnA = some x) ⟨?_, ?_⟩
  rotate_left
  exact rfl
noncomputable def arDiv2 : Arguments := by
  refine Subtype.val (p := fun x => (stI 6).bind fnA = some x) ⟨?_, ?_⟩
  rotate_left
  exact rfl
noncomputable def arI2d : Arguments := by
  refine Subtype.val (p := fun x => (stI 8).bind fnA = some x) ⟨?_, ?_⟩
  rotate_left
  exact rfl
noncomputable def arD2i : Arguments := by
  refine Subtype.val (p := fun x => (stI 9).bind fnA = some x) ⟨?_, ?_⟩
  rotate_left
  exact rfl
noncomputable def arPos : Arguments := by
  refine Subtype.val (p := fun x => (stI 10).bind fnA = some x) ⟨?_, ?_⟩
  rotate_left
  exact rfl
noncomputable def arDm : Arguments := by
  refine Subtype.val (p := fun x => (stI 11).bind fnA = some x) ⟨?_, ?_⟩
  rotate_left
  exact rfl
noncomputable def arInit : Arguments := by
  refine Subtype.val (p := fun x => (meI 1).bind fnA = some x) ⟨?_, ?_⟩
  rotate_left
  exact rfl
noncomputable def arLong : Arguments := by
  refine Subtype.val (p := fun x => (meI 2).bind fnA = some x) ⟨?_, ?_⟩
  rotate_left
  exact rfl
noncomputable def arInd : Arguments := by
  refine Subtype.val (p := fun x => (meI 3).bind fnA = some x) ⟨?_, ?_⟩
  rotate_left
  exact rfl
noncomputable def arWit : Arguments := by
  refine Subtype.val (p := fun x => (meI 5).bind fnA = some x) ⟨?_, ?_⟩
  rotate_left
  exact rfl
noncomputable def arPow : Arguments := by
  refine Subtype.val (p := fun x => (stI 2).bind fnA = some x) ⟨?_, ?_⟩
  rotate_left
  exact rfl
set_option genInjectivity false in
set_option genSizeOfSpec false in
structure FnO where
  qual : Str
  params : Arguments
  body : FuncBody
  names : Sc
  kind : ScopeKind
  gen : Bool
  co : Bool
  globals : Addr
  builtins : Addr
  closure : List (Str × Addr)
  dflt : Value
  code : Value
  ok : Bool
noncomputable def fnO (h : Heap) (a : Addr) : Option FnO := match h.get? a with
  | some ⟨_, _, .func fd, _⟩ => some ⟨fd.qualname, fd.params, fd.body, fd.scope.names, fd.scope.kind, fd.scope.isGenerator, fd.scope.isCoroutine, fd.globals, fd.builtins, fd.closure, fd.defaults, fd.code, h.codeRecOk fd.code fd.qualname⟩
  | _ => none
noncomputable def fnX (q : Str) (p : Arguments) (b : List Stmt) (ns : Sc) (c : Addr) (d : Value) : FnO := ⟨q, p, .stmts b, ns, .function, false, false, mainGlobals, builtinsNs, [], d, .ref c, true⟩
noncomputable def fnAs : List Addr := [215, 168, 175, 182, 189, 196, 203, 210, 161, 36, 43, 50, 64, 71, 78, 85, 102, 109, 116, 130, 29]
noncomputable def fnXs : List FnO := [fnX "law" arLaw bdLaw nnLaw 214 .none,
  fnX "_law_lead" arLead bdLead nnLead 167 .none,
  fnX "_law_stops" arStops bdStops nnStops 174 .none,
  fnX "_law_refused" arRef bdRef nnRef 181 .none,
  fnX "_law_divided" arDvd bdDvd nnDvd 188 .none,
  fnX "_law_numeral" arNum bdNum nnNum 195 .none,
  fnX "_law_text" arText bdText nnText 202 .none,
  fnX "_law_value" arVal bdVal nnVal 209 .none,
  fnX "ISEOF" arEof bdEof nnEof 160 .none,
  fnX "_str_to_int_inner" arStr bdStr nnStr 35 .none,
  fnX "int_from_string" arIfs bdIfs nnIfs 42 .none,
  fnX "_div2n1n" arDiv2 bdDiv2 nnDiv2 49 .none,
  fnX "_int2digits" arI2d bdI2d nnI2d 63 .none,
  fnX "_digits2int" arD2i bdD2i nnD2i 70 .none,
  fnX "_divmod_pos" arPos bdPos nnPos 77 .none,
  fnX "int_divmod" arDm bdDm nnDm 84 .none,
  fnX "Whitespace.__init__" arInit bdInit nnInit 101 .none,
  fnX "Whitespace.longest_run_of_spaces" arLong bdLong nnLong 108 .none,
  fnX "Whitespace.indent_level" arInd bdInd nnInd 115 .none,
  fnX "Whitespace.not_equal_witness" arWit bdWit nnWit 129 .none,
  fnX "compute_powers" arPow bdPow nnPow 28 (.ref 22)]
noncomputable def nmL : List Str := ["law", "_law_lead", "_law_stops", "_law_refused", "_law_divided", "_law_numeral", "_law_text", "_law_value", "ISEOF", "_str_to_int_inner", "int_from_string", "_div2n1n", "_int2digits", "_digits2int", "_divmod_pos", "int_divmod", "compute_powers", "Whitespace", "ZeroDivisionError", "EXACT_TOKEN_TYPES", "__builtins__"]
noncomputable def nmX : List (Option Value) := [some (.ref 215), some (.ref 168), some (.ref 175), some (.ref 182), some (.ref 189), some (.ref 196), some (.ref 203), some (.ref 210), some (.ref 161), some (.ref 36), some (.ref 43), some (.ref 50), some (.ref 64), some (.ref 71), some (.ref 78), some (.ref 85), some (.ref 29), some (.ref 147), none, some (.ref 152), some (.ref 4)]
noncomputable def tokL : List (List Nat × Int) := [([33], 54), ([33, 61], 28), ([37], 24), ([37, 61], 40), ([38], 19), ([38, 61], 41), ([40], 7), ([41], 8), ([42], 16), ([42, 42], 35), ([42, 42, 61], 46), ([42, 61], 38), ([43], 14), ([43, 61], 36), ([44], 12), ([45], 15), ([45, 61], 37), ([45, 62], 51), ([46], 23), ([46, 46, 46], 52), ([47], 17), ([47, 47], 47), ([47, 47, 61], 48), ([47, 61], 39), ([58], 11), ([58, 61], 53), ([59], 13), ([60], 20), ([60, 60], 33), ([60, 60, 61], 44), ([60, 61], 29), ([61], 22), ([61, 61], 27), ([62], 21), ([62, 61], 30), ([62, 62], 34), ([62, 62, 61], 45), ([64], 49), ([64, 61], 50), ([91], 9), ([93], 10), ([94], 32), ([94, 61], 43), ([123], 25), ([124], 18), ([124, 61], 42), ([125], 26), ([126], 31)]
noncomputable def looseL : List Str := (["_wall", "compute_powers", "_str_to_int_inner", "int_from_string", "_DIV_LIMIT", "_div2n1n", "_div3n2n", "_int2digits", "_digits2int", "_divmod_pos", "int_divmod", "Whitespace", "ENDMARKER", "LPAR", "RPAR", "LSQB", "RSQB", "COLON", "COMMA", "SEMI", "PLUS", "MINUS", "STAR", "SLASH", "VBAR", "AMPER", "LESS", "GREATER", "EQUAL", "DOT", "PERCENT", "LBRACE", "RBRACE", "EQEQUAL", "NOTEQUAL", "LESSEQUAL", "GREATEREQUAL", "TILDE", "CIRCUMFLEX", "LEFTSHIFT", "RIGHTSHIFT", "DOUBLESTAR", "PLUSEQUAL", "MINEQUAL", "STAREQUAL", "SLASHEQUAL", "PERCENTEQUAL", "AMPEREQUAL", "VBAREQUAL", "CIRCUMFLEXEQUAL", "LEFTSHIFTEQUAL", "RIGHTSHIFTEQUAL", "DOUBLESTAREQUAL", "DOUBLESLASH", "DOUBLESLASHEQUAL", "AT", "ATEQUAL", "RARROW", "ELLIPSIS", "COLONEQUAL", "EXCLAMATION", "EXACT_TOKEN_TYPES", "ISEOF", "_law_lead", "_law_stops", "_law_refused", "_law_divided", "_law_numeral", "_law_text", "_law_value"] : List String).map Str.ofString
noncomputable def intO : Option Value → Option Int
  | some (.int i _) => some i
  | _ => none
noncomputable def strO : Value → Option Str
  | .str s _ => some s
  | _ => none
noncomputable def tokO (h : Heap) : Option (Bool × List (Int × Option Str × Option Int)) := match h.get? 152 with
  | some ⟨c, d, .dict es _, sl⟩ => some (c == .type "dict" && d.isNone && sl.isEmpty, es.toList.map fun e => (e.hash, strO e.key, intO (some e.val)))
  | _ => none
noncomputable def tokX (w : World) : List (Int × Option Str × Option Int) := tokL.map fun p => ((PySem.strKind pw w).hash ⟨p.1.toArray⟩, some ⟨p.1.toArray⟩, some p.2)
noncomputable def hdB (h : Heap) (c P : Addr) : Bool := match h.get? c with
  | some o => o.cls == .type "code" && (match o.data with
    | .fields vs => vs[11]? == some (.ref P) && vs.getD 11 .none == .ref P && (match vs.getD 18 .none with | .str _ _ => true | _ => false) && (match vs.getD 7 .none with | .int _ _ => true | _ => false) &&
        (match vs.getD 9 .none with | .bool _ => true | _ => false) && (match vs.getD 10 .none with | .int _ _ => true | _ => false)
    | _ => false)
  | none => false
noncomputable def bltB (h : Heap) : Bool := match h.get? 4 with
  | some ⟨c, d, .plain, _⟩ => c == .type "module" && d == some builtinsNs
  | _ => false
noncomputable def dflO (h : Heap) : Option (Value × List Value) := match h.get? 22 with
  | some ⟨c, _, .seq vs _, _⟩ => some (c, vs.toList)
  | _ => none
noncomputable def kAs : List Addr := [2, 102, 109, 116, 130, 146, 147]
noncomputable def Ko (h : Heap) : Frag := kAs.filterMap fun a => (h.get? a).map fun o => (a, o)
noncomputable def kStr (h : Heap) (n : Str) : Option Str := match findCls (Ko h) (.ref 147) (.type "type") n with
  | some (.val (.str s _)) => some s
  | _ => none
noncomputable def fiL : List Str := ["norm", "nt", "longest_run_of_spaces", "indent_level", "not_equal_witness", "__init__", "__setattr__", "raw", "__getattribute__", "__getattr__"]
noncomputable def fiX : List (Option (Option Value)) := [some none, some none, some (some (.ref 109)), some (some (.ref 116)), some (some (.ref 130)), some (some (.ref 102)), some (some (.builtin "object.__setattr__")), some none, some (some (.builtin "object.__getattribute__")), some none]
noncomputable def tkL : List Str := ["raw", "n", "nt", "norm", "is_simple"]
set_option genInjectivity false in
set_option genSizeOfSpec false in
structure Obs where
  fns : List (Option FnO)
  nms : List (Option Value)
  numO : List (Option Int)
  bis : List (Option Value × Option Value)
  oks : List Bool
  tabs : List (Option Obj)
  tok : Option (Bool × List (Int × Option Str × Option Int))
  fi : List (Option (Option Value))
  tk : List (Option (Option Value))
  ty : List (Option Value)
  st : List (Option Str)
  dfl : Option (Value × List Value)
noncomputable def obsOf (s : Shared) : Obs where
  fns := fnAs.map (fnO s.heap)
  nms := nmL.map (s.heap.nsMap mainGlobals)
  numO := [intO (s.heap.nsMap mainGlobals "ENDMARKER"), intO (s.heap.nsMap mainGlobals "_DIV_LIMIT")]
  bis := ((("ZeroDivisionError" : Str), Value.type "ZeroDivisionError") :: biL).map fun p => (s.heap.nsMap mainGlobals p.1, s.heap.nsMap builtinsNs p.1)
  oks := [s.heap.isNs mainGlobals, s.heap.isNs builtinsNs, s.heap.noLimitOk, hdB s.heap 35 31, hdB s.heap 63 59, hdB s.heap 70 66, bltB s.heap, hasDictIn (Ko s.heap) 147, makesIn (Ko s.heap) 147, keepIn (Ko s.heap) (.ref 147), plainOver (Ko s.heap) 147, readsIn (Ko s.heap) 147 (.type "type"), Nat.ble 1 s.toks]
  tabs := tbs.map s.heap.get?
  tok := tokO s.heap
  fi := fiL.map (findIn (Ko s.heap) (.ref 147))
  tk := tkL.map (takerIn (Ko s.heap) 147)
  ty := [typeIn (Ko s.heap) (.ref 102), typeIn (Ko s.heap) (.ref 109), typeIn (Ko s.heap) (.ref 116), typeIn (Ko s.heap) (.ref 130), typeIn (Ko s.heap) (.ref 147)]
  st := [kStr s.heap "S", kStr s.heap "T"]
  dfl := dflO s.heap
noncomputable def obsX (w : World) : Obs where
  fns := fnXs.map some
  nms := nmX
  numO := [some 0, some 4000]
  bis := ((("ZeroDivisionError" : Str), Value.type "ZeroDivisionError") :: biL).map fun p => (none, some p.2)
  oks := List.replicate 13 true
  tabs := [some (tabObj #[]), some (tabObj #[]), some (tabObj #[])]
  tok := some (true, tokX w)
  fi := fiX
  tk := List.replicate 5 (some none)
  ty := [some (.type "function"), some (.type "function"), some (.type "function"), some (.type "function"), some (.type "type")]
  st := [some ⟨#[32]⟩, some ⟨#[9]⟩]
  dfl := some (.type "tuple", [.bool false])
noncomputable def qv : Program := { pw with main := { pw.main with body := [pw.main.body[74]'(by decide +kernel)] } }
end Mine
end

section
open PySem PySem.W PyProof.Rows PySem.Challenge
set_option Elab.async false
set_option maxRecDepth 100000
set_option maxHeartbeats 0
namespace Mine
noncomputable def oTu (l : List Value) : Obj := ⟨.type "tuple", none, .seq ⟨l⟩ 0, #[]⟩
noncomputable def oHi (l : List Value) : Obj := ⟨.none, none, .fields ⟨l⟩, #[]⟩
noncomputable def oCo (l : List Value) : Obj := ⟨.type "code", none, .fields ⟨l⟩, #[]⟩
noncomputable def oDi (l : List DictEntry) (n : Nat) : Obj := ⟨.type "dict", none, .dict ⟨l⟩ n, #[]⟩
noncomputable def en (P : Params) (s : Str) (k : Nat) (v : Value) : DictEntry := ⟨PyData.keyHash P s, .str s k, v⟩
noncomputable def oCd (n q : Str) (k : Nat) (line ac : Int) (a t : Nat) : Obj :=
  oCo [.str n k, .str q (k + 1), .str "/claim/cut.py" (k + 2), .int line 0, .int ac 0, .int 0 0, .int 0 0, .int 3 0, .ref a, .bool true, .int 181 0, .ref (a + 1), .none, .ref (a + 2), .ref (a + 3), .ref (a + 4), .int (.ofNat t) 0, .int line 0, .str "/claim/cut.py" (t + 1)]
noncomputable def fdO (st : Option Stmt) (q : Str) (g : Addr) (df pm cd : Value) : FuncData := match st with
  | some (.FunctionDef n a b _ _ _ sc _ _ _) => { name := n, qualname := q, params := a, body := .stmts b, scope := sc, globals := g, closure := [], defaults := df, kwdefaults := .none, pyModule := pm, code := cd }
  | _ => default
noncomputable def oHf (st : Option Stmt) (q : Str) : Obj := ⟨.none, none, .func (fdO st q 0 .none .none .none), #[]⟩
noncomputable def oFn (st : Option Stmt) (q : Str) (df pm cd : Value) : Obj := ⟨.type "function", none, .func (fdO st q 3 df pm cd), #[]⟩
noncomputable def ob13A : Obj := oCo [(.str "<module>" 182), (.str "<module>" 183), (.str "/claim/cut.py" 184), (.int 1 0), (.int 0 0), (.int 0 0), (.int 0 0), (.int 0 0), (.ref 11), (.bool false), (.int 181 0), (.ref 12), .none, .none, .none, .none, (.int 185 0), (.int 1 0), (.str "/claim/cut.py" 186)]
noncomputable def ob14A : Obj := ⟨(.type "frame"), none, .plain, ⟨[some (.ref 13), some (.ref 3), some (.ref 3), none, some (.str "__main__" 164), none, some (.ref 0)]⟩⟩
noncomputable def trA (P : Params) : BT := (.node (boot_o_0 P) (.node (boot_o_1 P) (.node (boot_o_3 P) (.node (boot_o_7 P) .nil .nil) (.node (oTu []) .nil .nil)) (.node (boot_o_5 P) (.node (boot_o_9 P) .nil .nil) (.node ob13A .nil .nil))) (.node (boot_o_2 P) (.node (boot_o_4 P) (.node (boot_o_8 P) .nil .nil) (.node (oHi []) .nil .nil)) (.node (boot_o_6 P) (.node (boot_o_10 P) .nil .nil) (.node ob14A .nil .nil))))
noncomputable def stA (w : World) (os : OsState) : SharedT := ⟨trA w.params, 15, {}, #[], {}, 187, os⟩
noncomputable abbrev poA : Pos := ⟨0, 0, 0, 0⟩
noncomputable def ob3B (P : Params) : Obj := oDi [en P "__name__" 165 (.str "cpy313.tabnanny" 314), en P "__doc__" 166 .none, en P "__package__" 167 .none, en P "__loader__" 168 (.builtin "__main__.__loader__#opaque"), en P "__spec__" 169 .none, en P "__annotations__" 170 (.ref 6), en P "__builtins__" 171 (.ref 4), en P "__file__" 173 (.str "/claim/cut.py" 172), en P "__cached__" 174 .none, en P "_wall" 193 (.ref 21), en P "compute_powers" 215 (.ref 29), en P "_str_to_int_inner" 226 (.ref 36), en P "int_from_string" 233 (.ref 43), en P "_DIV_LIMIT" 235 (.int 4000 234), en P "_div2n1n" 252 (.ref 50), en P "_div3n2n" 266 (.ref 57), en P "_int2digits" 277 (.ref 64), en P "_digits2int" 288 (.ref 71), en P "_divmod_pos" 303 (.ref 78), en P "int_divmod" 313 (.ref 85)] 20
noncomputable def ob12B : Obj := oHi [(.int 1 0), (.int 0 0), (.ref 20), (.int 5 0), (.int 0 0), (.ref 28), (.int 46 0), (.int 0 0), (.ref 35), (.int 56 0), (.int 0 0), (.ref 42), (.int 60 0), (.int 0 0), (.ref 49), (.int 76 0), (.int 0 0), (.ref 56), (.int 86 0), (.int 0 0), (.ref 63), (.int 102 0), (.int 0 0), (.ref 70), (.int 111 0), (.int 0 0), (.ref 77), (.int 122 0), (.int 0 0), (.ref 84)]
noncomputable def ob17B : Obj := oTu [(.str "k" 190)]
noncomputable def ob19B : Obj := oHf (stI 0) "_wall"
noncomputable def ob20B : Obj := oCd "_wall" "_wall" 187 1 1 15 191
noncomputable def ob21B : Obj := oFn (stI 0) "_wall" .none (.str "__main__" 164) (.ref 20)
noncomputable def ob22B : Obj := oTu [(.bool false)]
noncomputable def ob25B : Obj := oTu [(.str "w" 199), (.str "base" 200), (.str "more_than" 201), (.str "show" 202), (.str "seen" 203), (.str "need" 204), (.str "ws" 205), (.str "lo" 206), (.str "d" 207), (.str "it" 208), (.str "first" 209), (.str "this" 210), (.str "hi" 211), (.str "sq" 212)]
noncomputable def ob27B : Obj := oHf (stI 2) "compute_powers"
noncomputable def ob28B : Obj := oCd "compute_powers" "compute_powers" 196 5 4 23 213
noncomputable def ob29B : Obj := oFn (stI 2) "compute_powers" (.ref 22) (.str "cpy313._pylong" 194) (.ref 28)
noncomputable def ob32B : Obj := oTu [(.str "s" 219)]
noncomputable def ob33B : Obj := oTu [(.str "s" 220), (.str "DIGLIM" 221), (.str "inner" 222), (.str "w5pow" 223)]
noncomputable def ob34B : Obj := oHf (stI 3) "_str_to_int_inner"
noncomputable def ob35B : Obj := oCd "_str_to_int_inner" "_str_to_int_inner" 216 46 1 30 224
noncomputable def ob36B : Obj := oFn (stI 3) "_str_to_int_inner" .none (.str "cpy313._pylong" 194) (.ref 35)
noncomputable def ob39B : Obj := oTu [(.str "s" 230)]
noncomputable def ob41B : Obj := oHf (stI 4) "int_from_string"
noncomputable def ob42B : Obj := oCd "int_from_string" "int_from_string" 227 56 1 37 231
noncomputable def ob43B : Obj := oFn (stI 4) "int_from_string" .none (.str "cpy313._pylong" 194) (.ref 42)
noncomputable def ob46B : Obj := oTu [(.str "a" 239), (.str "b" 240), (.str "n" 241), (.str "pad" 242), (.str "half_n" 243), (.str "mask" 244), (.str "b1" 245), (.str "b2" 246), (.str "q1" 247), (.str "r" 248), (.str "q2" 249)]
noncomputable def ob48B : Obj := oHf (stI 6) "_div2n1n"
noncomputable def ob49B : Obj := oCd "_div2n1n" "_div2n1n" 236 60 3 44 250
noncomputable def ob50B : Obj := oFn (stI 6) "_div2n1n" .none (.str "cpy313._pylong" 194) (.ref 49)
noncomputable def ob53B : Obj := oTu [(.str "a12" 256), (.str "a3" 257), (.str "b" 258), (.str "b1" 259), (.str "b2" 260), (.str "n" 261), (.str "q" 262), (.str "r" 263)]
noncomputable def ob55B : Obj := oHf (stI 7) "_div3n2n"
noncomputable def ob56B : Obj := oCd "_div3n2n" "_div3n2n" 253 76 6 51 264
noncomputable def ob57B : Obj := oFn (stI 7) "_div3n2n" .none (.str "cpy313._pylong" 194) (.ref 56)
noncomputable def ob60B : Obj := oTu [(.str "a" 270), (.str "n" 271)]
noncomputable def ob61B : Obj := oTu [(.str "n" 272), (.str "a_digits" 273), (.str "inner" 274)]
noncomputable def ob62B : Obj := oHf (stI 8) "_int2digits"
noncomputable def ob63B : Obj := oCd "_int2digits" "_int2digits" 267 86 2 58 275
noncomputable def ob64B : Obj := oFn (stI 8) "_int2digits" .none (.str "cpy313._pylong" 194) (.ref 63)
noncomputable def ob67B : Obj := oTu [(.str "digits" 281), (.str "n" 282)]
noncomputable def ob68B : Obj := oTu [(.str "digits" 283), (.str "n" 284), (.str "inner" 285)]
noncomputable def ob69B : Obj := oHf (stI 9) "_digits2int"
noncomputable def ob70B : Obj := oCd "_digits2int" "_digits2int" 278 102 2 65 286
noncomputable def ob71B : Obj := oFn (stI 9) "_digits2int" .none (.str "cpy313._pylong" 194) (.ref 70)
noncomputable def ob74B : Obj := oTu [(.str "a" 292), (.str "b" 293), (.str "n" 294), (.str "a_digits" 295), (.str "r" 296), (.str "q_digits" 297), (.str "a_digit" 298), (.str "q_digit" 299), (.str "q" 300)]
noncomputable def ob76B : Obj := oHf (stI 10) "_divmod_pos"
noncomputable def ob77B : Obj := oCd "_divmod_pos" "_divmod_pos" 289 111 2 72 301
noncomputable def ob78B : Obj := oFn (stI 10) "_divmod_pos" .none (.str "cpy313._pylong" 194) (.ref 77)
noncomputable def ob81B : Obj := oTu [(.str "a" 307), (.str "b" 308), (.str "q" 309), (.str "r" 310)]
noncomputable def ob83B : Obj := oHf (stI 11) "int_divmod"
noncomputable def ob84B : Obj := oCd "int_divmod" "int_divmod" 304 122 2 79 311
noncomputable def ob85B : Obj := oFn (stI 11) "int_divmod" .none (.str "cpy313._pylong" 194) (.ref 84)
noncomputable def trB (P : Params) : BT := (.node (boot_o_0 P) (.node (boot_o_1 P) (.node (ob3B P) (.node (boot_o_7 P) (.node (oTu []) (.node (oHi []) (.node ob63B .nil .nil) .nil) (.node (oTu []) (.node (oTu []) .nil .nil) .nil)) (.node (oTu []) (.node ob39B (.node ob71B .nil .nil) .nil) (.node ob55B .nil .nil))) (.node (oTu []) (.node ob19B (.node ob35B (.node ob67B .nil .nil) .nil) (.node (oTu []) (.node ob83B .nil .nil) .nil)) (.node ob27B (.node ob43B (.node (oTu []) .nil .nil) .nil) (.node (oHi []) .nil .nil)))) (.node (boot_o_5 P) (.node (boot_o_9 P) (.node ob17B (.node ob33B (.node (oTu []) .nil .nil) .nil) (.node ob49B (.node ob81B .nil .nil) .nil)) (.node ob25B (.node ob41B (.node (oHi []) .nil .nil) .nil) (.node ob57B .nil .nil))) (.node ob13A (.node ob21B (.node (oTu []) (.node ob69B .nil .nil) .nil) (.node ob53B (.node ob85B .nil .nil) .nil)) (.node ob29B (.node (oHi []) (.node ob77B .nil .nil) .nil) (.node ob61B .nil .nil))))) (.node (boot_o_2 P) (.node (boot_o_4 P) (.node (boot_o_8 P) (.node (oHi []) (.node ob32B (.node ob64B .nil .nil) .nil) (.node ob48B (.node (oHi []) .nil .nil) .nil)) (.node (oHi []) (.node (oTu []) (.node (oTu []) .nil .nil) .nil) (.node ob56B .nil .nil))) (.node ob12B (.node ob20B (.node ob36B (.node ob68B .nil .nil) .nil) (.node (oHi []) (.node ob84B .nil .nil) .nil)) (.node ob28B (.node (oTu []) (.node ob76B .nil .nil) .nil) (.node ob60B .nil .nil)))) (.node (boot_o_6 P) (.node (boot_o_10 P) (.node (oTu []) (.node ob34B (.node (oHi []) .nil .nil) .nil) (.node ob50B (.node (oTu []) .nil .nil) .nil)) (.node (oTu []) (.node ob42B (.node ob74B .nil .nil) .nil) (.node (oTu []) .nil .nil))) (.node ob14A (.node ob22B (.node (oHi []) (.node ob70B .nil .nil) .nil) (.node (oTu []) .nil .nil)) (.node (oTu []) (.node ob46B (.node ob78B .nil .nil) .nil) (.node ob62B .nil .nil))))))
noncomputable def stB (w : World) (os : OsState) : SharedT := ⟨trB w.params, 86, {}, #[], {}, 316, os⟩
noncomputable abbrev poB : Pos := ⟨133, 0, 133, 8⟩
noncomputable def ob3C (P : Params) : Obj := oDi [en P "__name__" 165 (.str "cpy313.tabnanny" 314), en P "__doc__" 166 .none, en P "__package__" 167 .none, en P "__loader__" 168 (.builtin "__main__.__loader__#opaque"), en P "__spec__" 169 .none, en P "__annotations__" 170 (.ref 6), en P "__builtins__" 171 (.ref 4), en P "__file__" 173 (.str "/claim/cut.py" 172), en P "__cached__" 174 .none, en P "_wall" 193 (.ref 21), en P "compute_powers" 215 (.ref 29), en P "_str_to_int_inner" 226 (.ref 36), en P "int_from_string" 233 (.ref 43), en P "_DIV_LIMIT" 235 (.int 4000 234), en P "_div2n1n" 252 (.ref 50), en P "_div3n2n" 266 (.ref 57), en P "_int2digits" 277 (.ref 64), en P "_digits2int" 288 (.ref 71), en P "_divmod_pos" 303 (.ref 78), en P "int_divmod" 313 (.ref 85), en P "Whitespace" 416 (.ref 147)] 21
noncomputable def ob12C : Obj := oHi [(.int 1 0), (.int 0 0), (.ref 20), (.int 5 0), (.int 0 0), (.ref 28), (.int 46 0), (.int 0 0), (.ref 35), (.int 56 0), (.int 0 0), (.ref 42), (.int 60 0), (.int 0 0), (.ref 49), (.int 76 0), (.int 0 0), (.ref 56), (.int 86 0), (.int 0 0), (.ref 63), (.int 102 0), (.int 0 0), (.ref 70), (.int 111 0), (.int 0 0), (.ref 77), (.int 122 0), (.int 0 0), (.ref 84), (.int 134 0), (.int 0 0), (.ref 91)]
noncomputable def ob87C : Obj := ⟨(.type "builtin_function_or_method"), none, .fields ⟨[(.builtin "type.__prepare__"), (.type "type")]⟩, ⟨[]⟩⟩
noncomputable def ob88C (P : Params) : Obj := oDi [en P "__module__" 323 (.str "cpy313.tabnanny" 314), en P "__qualname__" 325 (.str "Whitespace" 324), en P "__firstlineno__" 327 (.int 134 326), en P "S" 331 (.str " " 329), en P "T" 332 (.str "\t" 330), en P "__init__" 347 (.ref 102), en P "longest_run_of_spaces" 356 (.ref 109), en P "indent_level" 368 (.ref 116), en P "equal" 376 (.ref 123), en P "not_equal_witness" 387 (.ref 130), en P "less" 395 (.ref 137), en P "not_less_witness" 403 (.ref 144), en P "__static_attributes__" 409 (.ref 145)] 13
noncomputable def ob90C : Obj := oHi [(.int 137 0), (.int 4 0), (.ref 101), (.int 160 0), (.int 4 0), (.ref 108), (.int 164 0), (.int 4 0), (.ref 115), (.int 171 0), (.int 4 0), (.ref 122), (.int 174 0), (.int 4 0), (.ref 129), (.int 182 0), (.int 4 0), (.ref 136), (.int 185 0), (.int 4 0), (.ref 143)]
noncomputable def ob91C : Obj := oCo [(.str "Whitespace" 318), (.str "Whitespace" 319), (.str "/claim/cut.py" 320), (.int 134 0), (.int 0 0), (.int 0 0), (.int 0 0), (.int 0 0), (.ref 89), (.bool false), (.int 181 0), (.ref 90), .none, .none, .none, .none, (.int 321 0), (.int 134 0), (.str "/claim/cut.py" 322)]
noncomputable def ob92C : Obj := ⟨(.type "frame"), none, .plain, ⟨[some (.ref 91), some (.ref 3), some (.ref 88), none, some (.str "cpy313.tabnanny" 314), none, some (.ref 0)]⟩⟩
noncomputable def ob93C : Obj := ⟨(.type "str_ascii_iterator"), none, .fields ⟨[.none, (.int 2 0)]⟩, ⟨[]⟩⟩
noncomputable def ob95C : Obj := ⟨(.type "StopIteration"), none, .fields ⟨[(.ref 94), .none, .none, .none, (.bool false), .none]⟩, ⟨[]⟩⟩
noncomputable def ob98C : Obj := oTu [(.str "self" 336), (.str "ws" 337), (.str "S" 338), (.str "T" 339), (.str "count" 340), (.str "b" 341), (.str "n" 342), (.str "nt" 343), (.str "ch" 344)]
noncomputable def ob100C : Obj := oHf (meI 1) "Whitespace.__init__"
noncomputable def ob101C : Obj := oCd "__init__" "Whitespace.__init__" 333 137 2 96 345
noncomputable def ob102C : Obj := oFn (meI 1) "Whitespace.__init__" .none (.str "cpy313.tabnanny" 314) (.ref 101)
noncomputable def ob105C : Obj := oTu [(.str "self" 351), (.str "count" 352), (.str "trailing" 353)]
noncomputable def ob107C : Obj := oHf (meI 2) "Whitespace.longest_run_of_spaces"
noncomputable def ob108C : Obj := oCd "longest_run_of_spaces" "Whitespace.longest_run_of_spaces" 348 160 1 103 354
noncomputable def ob109C : Obj := oFn (meI 2) "Whitespace.longest_run_of_spaces" .none (.str "cpy313.tabnanny" 314) (.ref 108)
noncomputable def ob112C : Obj := oTu [(.str "self" 360), (.str "tabsize" 361), (.str "count" 362), (.str "trailing" 363), (.str "il" 364), (.str "i" 365)]
noncomputable def ob114C : Obj := oHf (meI 3) "Whitespace.indent_level"
noncomputable def ob115C : Obj := oCd "indent_level" "Whitespace.indent_level" 357 164 2 110 366
noncomputable def ob116C : Obj := oFn (meI 3) "Whitespace.indent_level" .none (.str "cpy313.tabnanny" 314) (.ref 115)
noncomputable def ob119C : Obj := oTu [(.str "self" 372), (.str "other" 373)]
noncomputable def ob121C : Obj := oHf (meI 4) "Whitespace.equal"
noncomputable def ob122C : Obj := oCd "equal" "Whitespace.equal" 369 171 2 117 374
noncomputable def ob123C : Obj := oFn (meI 4) "Whitespace.equal" .none (.str "cpy313.tabnanny" 314) (.ref 122)
noncomputable def ob126C : Obj := oTu [(.str "self" 380), (.str "other" 381), (.str "n" 382), (.str "a" 383), (.str "ts" 384)]
noncomputable def ob128C : Obj := oHf (meI 5) "Whitespace.not_equal_witness"
noncomputable def ob129C : Obj := oCd "not_equal_witness" "Whitespace.not_equal_witness" 377 174 2 124 385
noncomputable def ob130C : Obj := oFn (meI 5) "Whitespace.not_equal_witness" .none (.str "cpy313.tabnanny" 314) (.ref 129)
noncomputable def ob133C : Obj := oTu [(.str "self" 391), (.str "other" 392)]
noncomputable def ob135C : Obj := oHf (meI 6) "Whitespace.less"
noncomputable def ob136C : Obj := oCd "less" "Whitespace.less" 388 182 2 131 393
noncomputable def ob137C : Obj := oFn (meI 6) "Whitespace.less" .none (.str "cpy313.tabnanny" 314) (.ref 136)
noncomputable def ob140C : Obj := oTu [(.str "self" 399), (.str "other" 400)]
noncomputable def ob142C : Obj := oHf (meI 7) "Whitespace.not_less_witness"
noncomputable def ob143C : Obj := oCd "not_less_witness" "Whitespace.not_less_witness" 396 185 2 138 401
noncomputable def ob144C : Obj := oFn (meI 7) "Whitespace.not_less_witness" .none (.str "cpy313.tabnanny" 314) (.ref 143)
noncomputable def ob145C : Obj := oTu [(.str "is_simple" 404), (.str "n" 405), (.str "norm" 406), (.str "nt" 407), (.str "raw" 408)]
noncomputable def ob146C (P : Params) : Obj := oDi [en P "__module__" 323 (.str "cpy313.tabnanny" 314), en P "__firstlineno__" 327 (.int 134 326), en P "S" 331 (.str " " 329), en P "T" 332 (.str "\t" 330), en P "__init__" 347 (.ref 102), en P "longest_run_of_spaces" 356 (.ref 109), en P "indent_level" 368 (.ref 116), en P "equal" 376 (.ref 123), en P "not_equal_witness" 387 (.ref 130), en P "less" 395 (.ref 137), en P "not_less_witness" 403 (.ref 144), en P "__static_attributes__" 409 (.ref 145), en P "__dict__" 411 (.ref 148), en P "__weakref__" 413 (.ref 149), en P "__doc__" 414 .none] 4
noncomputable def ob147C : Obj := ⟨(.type "type"), none, .cls { name := "Whitespace", bases := [(.type "object")], mro := [(.ref 147), (.type "object")], ns := 146, qualname := "Whitespace" }, ⟨[none, none, some (.str "Whitespace" 316), some (.str "Whitespace" 324), some (.builtin "object.__new__"), some (.bool true)]⟩⟩
noncomputable def ob148C : Obj := ⟨(.type "getset_descriptor"), none, .fields ⟨[(.str "__dict__" 410), (.ref 147), (.builtin "function.__dict__"), (.builtin "function.__dict__#set")]⟩, ⟨[]⟩⟩
noncomputable def ob149C : Obj := ⟨(.type "getset_descriptor"), none, .fields ⟨[(.str "__weakref__" 412), (.ref 147), (.builtin "ExceptionGroup.__weakref__"), .none]⟩, ⟨[]⟩⟩
noncomputable def ob150C : Obj := ⟨(.type "super"), none, .fields ⟨[(.ref 147), (.ref 147), (.ref 147)]⟩, ⟨[]⟩⟩
noncomputable def ob151C : Obj := ⟨(.type "builtin_function_or_method"), none, .fields ⟨[(.builtin "object.__init_subclass__"), (.ref 147)]⟩, ⟨[]⟩⟩
noncomputable def trC (P : Params) : BT := (.node (boot_o_0 P) (.node (boot_o_1 P) (.node (ob3C P) (.node (boot_o_7 P) (.node (oTu []) (.node (oHi []) (.node ob63B (.node (oTu []) .nil .nil) .nil) (.node ob95C .nil .nil)) (.node (oTu []) (.node (oTu []) (.node ob143C .nil .nil) .nil) (.node (oHi []) .nil .nil))) (.node (oTu []) (.node ob39B (.node ob71B (.node ob135C .nil .nil) .nil) (.node (oTu []) .nil .nil)) (.node ob55B (.node ob87C (.node ob151C .nil .nil) .nil) (.node ob119C .nil .nil)))) (.node (oTu []) (.node ob19B (.node ob35B (.node ob67B (.node (oTu []) .nil .nil) .nil) (.node (oTu []) .nil .nil)) (.node (oTu []) (.node ob83B (.node ob147C .nil .nil) .nil) (.node ob115C .nil .nil))) (.node ob27B (.node ob43B (.node (oTu []) (.node (oHi []) .nil .nil) .nil) (.node ob107C .nil .nil)) (.node (oHi []) (.node ob91C .nil .nil) (.node ob123C .nil .nil))))) (.node (boot_o_5 P) (.node (boot_o_9 P) (.node ob17B (.node ob33B (.node (oTu []) (.node ob129C .nil .nil) .nil) (.node (oHi []) .nil .nil)) (.node ob49B (.node ob81B (.node ob145C .nil .nil) .nil) (.node (oTu []) .nil .nil))) (.node ob25B (.node ob41B (.node (oHi []) (.node ob137C .nil .nil) .nil) (.node ob105C .nil .nil)) (.node ob57B (.node (oTu []) .nil .nil) (.node ob121C .nil .nil)))) (.node ob13A (.node ob21B (.node (oTu []) (.node ob69B (.node ob133C .nil .nil) .nil) (.node ob101C .nil .nil)) (.node ob53B (.node ob85B (.node ob149C .nil .nil) .nil) (.node (oTu []) .nil .nil))) (.node ob29B (.node (oHi []) (.node ob77B (.node (oTu []) .nil .nil) .nil) (.node ob109C .nil .nil)) (.node ob61B (.node ob93C .nil .nil) (.node (oHi []) .nil .nil)))))) (.node (boot_o_2 P) (.node (boot_o_4 P) (.node (boot_o_8 P) (.node (oHi []) (.node ob32B (.node ob64B (.node ob128C .nil .nil) .nil) (.node (oTu []) .nil .nil)) (.node ob48B (.node (oHi []) (.node ob144C .nil .nil) .nil) (.node ob112C .nil .nil))) (.node (oHi []) (.node (oTu []) (.node (oTu []) (.node ob136C .nil .nil) .nil) (.node (oHi []) .nil .nil)) (.node ob56B (.node (ob88C P) .nil .nil) (.node (oTu []) .nil .nil)))) (.node ob12C (.node ob20B (.node ob36B (.node ob68B (.node (oHi []) .nil .nil) .nil) (.node ob100C .nil .nil)) (.node (oHi []) (.node ob84B (.node ob148C .nil .nil) .nil) (.node ob116C .nil .nil))) (.node ob28B (.node (oTu []) (.node ob76B (.node ob140C .nil .nil) .nil) (.node ob108C .nil .nil)) (.node ob60B (.node ob92C .nil .nil) (.node (oTu []) .nil .nil))))) (.node (boot_o_6 P) (.node (boot_o_10 P) (.node (oTu []) (.node ob34B (.node (oHi []) (.node ob130C .nil .nil) .nil) (.node ob98C .nil .nil)) (.node ob50B (.node (oTu []) (.node (ob146C P) .nil .nil) .nil) (.node ob114C .nil .nil))) (.node (oTu []) (.node ob42B (.node ob74B (.node (oTu []) .nil .nil) .nil) (.node (oTu []) .nil .nil)) (.node (oTu []) (.node ob90C .nil .nil) (.node ob122C .nil .nil)))) (.node ob14A (.node ob22B (.node (oHi []) (.node ob70B (.node (oTu []) .nil .nil) .nil) (.node ob102C .nil .nil)) (.node (oTu []) (.node (oTu []) (.node ob150C .nil .nil) .nil) (.node (oHi []) .nil .nil))) (.node (oTu []) (.node ob46B (.node ob78B (.node ob142C .nil .nil) .nil) (.node (oTu []) .nil .nil)) (.node ob62B (.node (oTu []) .nil .nil) (.node ob126C .nil .nil)))))))
noncomputable def stC (w : World) (os : OsState) : SharedT := ⟨trC w.params, 152, {}, #[], {}, 417, os⟩
noncomputable abbrev poC : Pos := ⟨134, 0, 186, 16⟩
noncomputable def ob3D (P : Params) : Obj := oDi [en P "__name__" 165 (.str "cpy313.token" 417), en P "__doc__" 166 .none, en P "__package__" 167 .none, en P "__loader__" 168 (.builtin "__main__.__loader__#opaque"), en P "__spec__" 169 .none, en P "__annotations__" 170 (.ref 6), en P "__builtins__" 171 (.ref 4), en P "__file__" 173 (.str "/claim/cut.py" 172), en P "__cached__" 174 .none, en P "_wall" 193 (.ref 21), en P "compute_powers" 215 (.ref 29), en P "_str_to_int_inner" 226 (.ref 36), en P "int_from_string" 233 (.ref 43), en P "_DIV_LIMIT" 235 (.int 4000 234), en P "_div2n1n" 252 (.ref 50), en P "_div3n2n" 266 (.ref 57), en P "_int2digits" 277 (.ref 64), en P "_digits2int" 288 (.ref 71), en P "_divmod_pos" 303 (.ref 78), en P "int_divmod" 313 (.ref 85), en P "Whitespace" 416 (.ref 147), en P "ENDMARKER" 420 (.int 0 419), en P "LPAR" 422 (.int 7 421), en P "RPAR" 424 (.int 8 423), en P "LSQB" 426 (.int 9 425), en P "RSQB" 428 (.int 10 427), en P "COLON" 430 (.int 11 429), en P "COMMA" 432 (.int 12 431), en P "SEMI" 434 (.int 13 433), en P "PLUS" 436 (.int 14 435), en P "MINUS" 438 (.int 15 437), en P "STAR" 440 (.int 16 439), en P "SLASH" 442 (.int 17 441), en P "VBAR" 444 (.int 18 443), en P "AMPER" 446 (.int 19 445), en P "LESS" 448 (.int 20 447), en P "GREATER" 450 (.int 21 449), en P "EQUAL" 452 (.int 22 451), en P "DOT" 454 (.int 23 453), en P "PERCENT" 456 (.int 24 455), en P "LBRACE" 458 (.int 25 457), en P "RBRACE" 460 (.int 26 459), en P "EQEQUAL" 462 (.int 27 461), en P "NOTEQUAL" 464 (.int 28 463), en P "LESSEQUAL" 466 (.int 29 465), en P "GREATEREQUAL" 468 (.int 30 467), en P "TILDE" 470 (.int 31 469), en P "CIRCUMFLEX" 472 (.int 32 471), en P "LEFTSHIFT" 474 (.int 33 473), en P "RIGHTSHIFT" 476 (.int 34 475), en P "DOUBLESTAR" 478 (.int 35 477), en P "PLUSEQUAL" 480 (.int 36 479), en P "MINEQUAL" 482 (.int 37 481), en P "STAREQUAL" 484 (.int 38 483), en P "SLASHEQUAL" 486 (.int 39 485), en P "PERCENTEQUAL" 488 (.int 40 487), en P "AMPEREQUAL" 490 (.int 41 489), en P "VBAREQUAL" 492 (.int 42 491), en P "CIRCUMFLEXEQUAL" 494 (.int 43 493), en P "LEFTSHIFTEQUAL" 496 (.int 44 495), en P "RIGHTSHIFTEQUAL" 498 (.int 45 497), en P "DOUBLESTAREQUAL" 500 (.int 46 499), en P "DOUBLESLASH" 502 (.int 47 501), en P "DOUBLESLASHEQUAL" 504 (.int 48 503), en P "AT" 506 (.int 49 505), en P "ATEQUAL" 508 (.int 50 507), en P "RARROW" 510 (.int 51 509), en P "ELLIPSIS" 512 (.int 52 511), en P "COLONEQUAL" 514 (.int 53 513), en P "EXCLAMATION" 516 (.int 54 515)] 70
noncomputable def trD (P : Params) : BT := (.node (boot_o_0 P) (.node (boot_o_1 P) (.node (ob3D P) (.node (boot_o_7 P) (.node (oTu []) (.node (oHi []) (.node ob63B (.node (oTu []) .nil .nil) .nil) (.node ob95C .nil .nil)) (.node (oTu []) (.node (oTu []) (.node ob143C .nil .nil) .nil) (.node (oHi []) .nil .nil))) (.node (oTu []) (.node ob39B (.node ob71B (.node ob135C .nil .nil) .nil) (.node (oTu []) .nil .nil)) (.node ob55B (.node ob87C (.node ob151C .nil .nil) .nil) (.node ob119C .nil .nil)))) (.node (oTu []) (.node ob19B (.node ob35B (.node ob67B (.node (oTu []) .nil .nil) .nil) (.node (oTu []) .nil .nil)) (.node (oTu []) (.node ob83B (.node ob147C .nil .nil) .nil) (.node ob115C .nil .nil))) (.node ob27B (.node ob43B (.node (oTu []) (.node (oHi []) .nil .nil) .nil) (.node ob107C .nil .nil)) (.node (oHi []) (.node ob91C .nil .nil) (.node ob123C .nil .nil))))) (.node (boot_o_5 P) (.node (boot_o_9 P) (.node ob17B (.node ob33B (.node (oTu []) (.node ob129C .nil .nil) .nil) (.node (oHi []) .nil .nil)) (.node ob49B (.node ob81B (.node ob145C .nil .nil) .nil) (.node (oTu []) .nil .nil))) (.node ob25B (.node ob41B (.node (oHi []) (.node ob137C .nil .nil) .nil) (.node ob105C .nil .nil)) (.node ob57B (.node (oTu []) .nil .nil) (.node ob121C .nil .nil)))) (.node ob13A (.node ob21B (.node (oTu []) (.node ob69B (.node ob133C .nil .nil) .nil) (.node ob101C .nil .nil)) (.node ob53B (.node ob85B (.node ob149C .nil .nil) .nil) (.node (oTu []) .nil .nil))) (.node ob29B (.node (oHi []) (.node ob77B (.node (oTu []) .nil .nil) .nil) (.node ob109C .nil .nil)) (.node ob61B (.node ob93C .nil .nil) (.node (oHi []) .nil .nil)))))) (.node (boot_o_2 P) (.node (boot_o_4 P) (.node (boot_o_8 P) (.node (oHi []) (.node ob32B (.node ob64B (.node ob128C .nil .nil) .nil) (.node (oTu []) .nil .nil)) (.node ob48B (.node (oHi []) (.node ob144C .nil .nil) .nil) (.node ob112C .nil .nil))) (.node (oHi []) (.node (oTu []) (.node (oTu []) (.node ob136C .nil .nil) .nil) (.node (oHi []) .nil .nil)) (.node ob56B (.node (ob88C P) .nil .nil) (.node (oTu []) .nil .nil)))) (.node ob12C (.node ob20B (.node ob36B (.node ob68B (.node (oHi []) .nil .nil) .nil) (.node ob100C .nil .nil)) (.node (oHi []) (.node ob84B (.node ob148C .nil .nil) .nil) (.node ob116C .nil .nil))) (.node ob28B (.node (oTu []) (.node ob76B (.node ob140C .nil .nil) .nil) (.node ob108C .nil .nil)) (.node ob60B (.node ob92C .nil .nil) (.node (oTu []) .nil .nil))))) (.node (boot_o_6 P) (.node (boot_o_10 P) (.node (oTu []) (.node ob34B (.node (oHi []) (.node ob130C .nil .nil) .nil) (.node ob98C .nil .nil)) (.node ob50B (.node (oTu []) (.node (ob146C P) .nil .nil) .nil) (.node ob114C .nil .nil))) (.node (oTu []) (.node ob42B (.node ob74B (.node (oTu []) .nil .nil) .nil) (.node (oTu []) .nil .nil)) (.node (oTu []) (.node ob90C .nil .nil) (.node ob122C .nil .nil)))) (.node ob14A (.node ob22B (.node (oHi []) (.node ob70B (.node (oTu []) .nil .nil) .nil) (.node ob102C .nil .nil)) (.node (oTu []) (.node (oTu []) (.node ob150C .nil .nil) .nil) (.node (oHi []) .nil .nil))) (.node (oTu []) (.node ob46B (.node ob78B (.node ob142C .nil .nil) .nil) (.node (oTu []) .nil .nil)) (.node ob62B (.node (oTu []) .nil .nil) (.node ob126C .nil .nil)))))))
noncomputable def stD (w : World) (os : OsState) : SharedT := ⟨trD w.params, 152, {}, #[], {}, 517, os⟩
noncomputable abbrev poD : Pos := ⟨236, 0, 236, 11⟩
noncomputable def ob3E (P : Params) : Obj := oDi [en P "__name__" 165 (.str "cpy313.token" 417), en P "__doc__" 166 .none, en P "__package__" 167 .none, en P "__loader__" 168 (.builtin "__main__.__loader__#opaque"), en P "__spec__" 169 .none, en P "__annotations__" 170 (.ref 6), en P "__builtins__" 171 (.ref 4), en P "__file__" 173 (.str "/claim/cut.py" 172), en P "__cached__" 174 .none, en P "_wall" 193 (.ref 21), en P "compute_powers" 215 (.ref 29), en P "_str_to_int_inner" 226 (.ref 36), en P "int_from_string" 233 (.ref 43), en P "_DIV_LIMIT" 235 (.int 4000 234), en P "_div2n1n" 252 (.ref 50), en P "_div3n2n" 266 (.ref 57), en P "_int2digits" 277 (.ref 64), en P "_digits2int" 288 (.ref 71), en P "_divmod_pos" 303 (.ref 78), en P "int_divmod" 313 (.ref 85), en P "Whitespace" 416 (.ref 147), en P "ENDMARKER" 420 (.int 0 419), en P "LPAR" 422 (.int 7 421), en P "RPAR" 424 (.int 8 423), en P "LSQB" 426 (.int 9 425), en P "RSQB" 428 (.int 10 427), en P "COLON" 430 (.int 11 429), en P "COMMA" 432 (.int 12 431), en P "SEMI" 434 (.int 13 433), en P "PLUS" 436 (.int 14 435), en P "MINUS" 438 (.int 15 437), en P "STAR" 440 (.int 16 439), en P "SLASH" 442 (.int 17 441), en P "VBAR" 444 (.int 18 443), en P "AMPER" 446 (.int 19 445), en P "LESS" 448 (.int 20 447), en P "GREATER" 450 (.int 21 449), en P "EQUAL" 452 (.int 22 451), en P "DOT" 454 (.int 23 453), en P "PERCENT" 456 (.int 24 455), en P "LBRACE" 458 (.int 25 457), en P "RBRACE" 460 (.int 26 459), en P "EQEQUAL" 462 (.int 27 461), en P "NOTEQUAL" 464 (.int 28 463), en P "LESSEQUAL" 466 (.int 29 465), en P "GREATEREQUAL" 468 (.int 30 467), en P "TILDE" 470 (.int 31 469), en P "CIRCUMFLEX" 472 (.int 32 471), en P "LEFTSHIFT" 474 (.int 33 473), en P "RIGHTSHIFT" 476 (.int 34 475), en P "DOUBLESTAR" 478 (.int 35 477), en P "PLUSEQUAL" 480 (.int 36 479), en P "MINEQUAL" 482 (.int 37 481), en P "STAREQUAL" 484 (.int 38 483), en P "SLASHEQUAL" 486 (.int 39 485), en P "PERCENTEQUAL" 488 (.int 40 487), en P "AMPEREQUAL" 490 (.int 41 489), en P "VBAREQUAL" 492 (.int 42 491), en P "CIRCUMFLEXEQUAL" 494 (.int 43 493), en P "LEFTSHIFTEQUAL" 496 (.int 44 495), en P "RIGHTSHIFTEQUAL" 498 (.int 45 497), en P "DOUBLESTAREQUAL" 500 (.int 46 499), en P "DOUBLESLASH" 502 (.int 47 501), en P "DOUBLESLASHEQUAL" 504 (.int 48 503), en P "AT" 506 (.int 49 505), en P "ATEQUAL" 508 (.int 50 507), en P "RARROW" 510 (.int 51 509), en P "ELLIPSIS" 512 (.int 52 511), en P "COLONEQUAL" 514 (.int 53 513), en P "EXCLAMATION" 516 (.int 54 515), en P "EXACT_TOKEN_TYPES" 613 (.ref 152)] 71
noncomputable def ob152E (P : Params) : Obj := oDi [en P "!" 517 (.int 54 515), en P "!=" 519 (.int 28 463), en P "%" 521 (.int 24 455), en P "%=" 523 (.int 40 487), en P "&" 525 (.int 19 445), en P "&=" 527 (.int 41 489), en P "(" 529 (.int 7 421), en P ")" 531 (.int 8 423), en P "*" 533 (.int 16 439), en P "**" 535 (.int 35 477), en P "**=" 537 (.int 46 499), en P "*=" 539 (.int 38 483), en P "+" 541 (.int 14 435), en P "+=" 543 (.int 36 479), en P "," 545 (.int 12 431), en P "-" 547 (.int 15 437), en P "-=" 549 (.int 37 481), en P "->" 551 (.int 51 509), en P "." 553 (.int 23 453), en P "..." 555 (.int 52 511), en P "/" 557 (.int 17 441), en P "//" 559 (.int 47 501), en P "//=" 561 (.int 48 503), en P "/=" 563 (.int 39 485), en P ":" 565 (.int 11 429), en P ":=" 567 (.int 53 513), en P ";" 569 (.int 13 433), en P "<" 571 (.int 20 447), en P "<<" 573 (.int 33 473), en P "<<=" 575 (.int 44 495), en P "<=" 577 (.int 29 465), en P "=" 579 (.int 22 451), en P "==" 581 (.int 27 461), en P ">" 583 (.int 21 449), en P ">=" 585 (.int 30 467), en P ">>" 586 (.int 34 475), en P ">>=" 587 (.int 45 497), en P "@" 588 (.int 49 505), en P "@=" 589 (.int 50 507), en P "[" 590 (.int 9 425), en P "]" 591 (.int 10 427), en P "^" 592 (.int 32 471), en P "^=" 593 (.int 43 493), en P "{" 594 (.int 25 457), en P "|" 595 (.int 18 443), en P "|=" 596 (.int 42 491), en P "}" 597 (.int 26 459), en P "~" 598 (.int 31 469)] 48
noncomputable def ob153E (P : Params) : Obj := oDi [en P "->" 551 (.int 51 509), en P "." 553 (.int 23 453), en P "..." 555 (.int 52 511), en P "/" 557 (.int 17 441), en P "//" 559 (.int 47 501), en P "//=" 561 (.int 48 503), en P "/=" 563 (.int 39 485), en P ":" 565 (.int 11 429), en P ":=" 567 (.int 53 513), en P ";" 569 (.int 13 433), en P "<" 571 (.int 20 447), en P "<<" 573 (.int 33 473), en P "<<=" 575 (.int 44 495), en P "<=" 577 (.int 29 465), en P "=" 579 (.int 22 451), en P "==" 581 (.int 27 461), en P ">" 583 (.int 21 449)] 17
noncomputable def ob154E (P : Params) : Obj := oDi [en P ">=" 585 (.int 30 467), en P ">>" 586 (.int 34 475), en P ">>=" 587 (.int 45 497), en P "@" 588 (.int 49 505), en P "@=" 589 (.int 50 507), en P "[" 590 (.int 9 425), en P "]" 591 (.int 10 427), en P "^" 592 (.int 32 471), en P "^=" 593 (.int 43 493), en P "{" 594 (.int 25 457), en P "|" 595 (.int 18 443), en P "|=" 596 (.int 42 491), en P "}" 597 (.int 26 459), en P "~" 598 (.int 31 469)] 14
noncomputable def trE (P : Params) : BT := (.node (boot_o_0 P) (.node (boot_o_1 P) (.node (ob3E P) (.node (boot_o_7 P) (.node (oTu []) (.node (oHi []) (.node ob63B (.node (oTu []) .nil .nil) .nil) (.node ob95C .nil .nil)) (.node (oTu []) (.node (oTu []) (.node ob143C .nil .nil) .nil) (.node (oHi []) .nil .nil))) (.node (oTu []) (.node ob39B (.node ob71B (.node ob135C .nil .nil) .nil) (.node (oTu []) .nil .nil)) (.node ob55B (.node ob87C (.node ob151C .nil .nil) .nil) (.node ob119C .nil .nil)))) (.node (oTu []) (.node ob19B (.node ob35B (.node ob67B (.node (oTu []) .nil .nil) .nil) (.node (oTu []) .nil .nil)) (.node (oTu []) (.node ob83B (.node ob147C .nil .nil) .nil) (.node ob115C .nil .nil))) (.node ob27B (.node ob43B (.node (oTu []) (.node (oHi []) .nil .nil) .nil) (.node ob107C .nil .nil)) (.node (oHi []) (.node ob91C .nil .nil) (.node ob123C .nil .nil))))) (.node (boot_o_5 P) (.node (boot_o_9 P) (.node ob17B (.node ob33B (.node (oTu []) (.node ob129C .nil .nil) .nil) (.node (oHi []) .nil .nil)) (.node ob49B (.node ob81B (.node ob145C .nil .nil) .nil) (.node (oTu []) .nil .nil))) (.node ob25B (.node ob41B (.node (oHi []) (.node ob137C .nil .nil) .nil) (.node ob105C .nil .nil)) (.node ob57B (.node (oTu []) (.node (ob153E P) .nil .nil) .nil) (.node ob121C .nil .nil)))) (.node ob13A (.node ob21B (.node (oTu []) (.node ob69B (.node ob133C .nil .nil) .nil) (.node ob101C .nil .nil)) (.node ob53B (.node ob85B (.node ob149C .nil .nil) .nil) (.node (oTu []) .nil .nil))) (.node ob29B (.node (oHi []) (.node ob77B (.node (oTu []) .nil .nil) .nil) (.node ob109C .nil .nil)) (.node ob61B (.node ob93C .nil .nil) (.node (oHi []) .nil .nil)))))) (.node (boot_o_2 P) (.node (boot_o_4 P) (.node (boot_o_8 P) (.node (oHi []) (.node ob32B (.node ob64B (.node ob128C .nil .nil) .nil) (.node (oTu []) .nil .nil)) (.node ob48B (.node (oHi []) (.node ob144C .nil .nil) .nil) (.node ob112C .nil .nil))) (.node (oHi []) (.node (oTu []) (.node (oTu []) (.node ob136C .nil .nil) .nil) (.node (oHi []) .nil .nil)) (.node ob56B (.node (ob88C P) (.node (ob152E P) .nil .nil) .nil) (.node (oTu []) .nil .nil)))) (.node ob12C (.node ob20B (.node ob36B (.node ob68B (.node (oHi []) .nil .nil) .nil) (.node ob100C .nil .nil)) (.node (oHi []) (.node ob84B (.node ob148C .nil .nil) .nil) (.node ob116C .nil .nil))) (.node ob28B (.node (oTu []) (.node ob76B (.node ob140C .nil .nil) .nil) (.node ob108C .nil .nil)) (.node ob60B (.node ob92C .nil .nil) (.node (oTu []) .nil .nil))))) (.node (boot_o_6 P) (.node (boot_o_10 P) (.node (oTu []) (.node ob34B (.node (oHi []) (.node ob130C .nil .nil) .nil) (.node ob98C .nil .nil)) (.node ob50B (.node (oTu []) (.node (ob146C P) .nil .nil) .nil) (.node ob114C .nil .nil))) (.node (oTu []) (.node ob42B (.node ob74B (.node (oTu []) .nil .nil) .nil) (.node (oTu []) .nil .nil)) (.node (oTu []) (.node ob90C (.node (ob154E P) .nil .nil) .nil) (.node ob122C .nil .nil)))) (.node ob14A (.node ob22B (.node (oHi []) (.node ob70B (.node (oTu []) .nil .nil) .nil) (.node ob102C .nil .nil)) (.node (oTu []) (.node (oTu []) (.node ob150C .nil .nil) .nil) (.node (oHi []) .nil .nil))) (.node (oTu []) (.node ob46B (.node ob78B (.node ob142C .nil .nil) .nil) (.node (oTu []) .nil .nil)) (.node ob62B (.node (oTu []) .nil .nil) (.node ob126C .nil .nil)))))))
noncomputable def stE (w : World) (os : OsState) : SharedT := ⟨trE w.params, 155, {}, #[], {}, 614, os⟩
noncomputable abbrev poE : Pos := ⟨237, 0, 237, 17⟩
noncomputable def ob3F (P : Params) : Obj := oDi [en P "__name__" 165 (.str "law_sc0111_01" 621), en P "__doc__" 166 .none, en P "__package__" 167 .none, en P "__loader__" 168 (.builtin "__main__.__loader__#opaque"), en P "__spec__" 169 .none, en P "__annotations__" 170 (.ref 6), en P "__builtins__" 171 (.ref 4), en P "__file__" 173 (.str "/claim/cut.py" 172), en P "__cached__" 174 .none, en P "_wall" 193 (.ref 21), en P "compute_powers" 215 (.ref 29), en P "_str_to_int_inner" 226 (.ref 36), en P "int_from_string" 233 (.ref 43), en P "_DIV_LIMIT" 235 (.int 4000 234), en P "_div2n1n" 252 (.ref 50), en P "_div3n2n" 266 (.ref 57), en P "_int2digits" 277 (.ref 64), en P "_digits2int" 288 (.ref 71), en P "_divmod_pos" 303 (.ref 78), en P "int_divmod" 313 (.ref 85), en P "Whitespace" 416 (.ref 147), en P "ENDMARKER" 420 (.int 0 419), en P "LPAR" 422 (.int 7 421), en P "RPAR" 424 (.int 8 423), en P "LSQB" 426 (.int 9 425), en P "RSQB" 428 (.int 10 427), en P "COLON" 430 (.int 11 429), en P "COMMA" 432 (.int 12 431), en P "SEMI" 434 (.int 13 433), en P "PLUS" 436 (.int 14 435), en P "MINUS" 438 (.int 15 437), en P "STAR" 440 (.int 16 439), en P "SLASH" 442 (.int 17 441), en P "VBAR" 444 (.int 18 443), en P "AMPER" 446 (.int 19 445), en P "LESS" 448 (.int 20 447), en P "GREATER" 450 (.int 21 449), en P "EQUAL" 452 (.int 22 451), en P "DOT" 454 (.int 23 453), en P "PERCENT" 456 (.int 24 455), en P "LBRACE" 458 (.int 25 457), en P "RBRACE" 460 (.int 26 459), en P "EQEQUAL" 462 (.int 27 461), en P "NOTEQUAL" 464 (.int 28 463), en P "LESSEQUAL" 466 (.int 29 465), en P "GREATEREQUAL" 468 (.int 30 467), en P "TILDE" 470 (.int 31 469), en P "CIRCUMFLEX" 472 (.int 32 471), en P "LEFTSHIFT" 474 (.int 33 473), en P "RIGHTSHIFT" 476 (.int 34 475), en P "DOUBLESTAR" 478 (.int 35 477), en P "PLUSEQUAL" 480 (.int 36 479), en P "MINEQUAL" 482 (.int 37 481), en P "STAREQUAL" 484 (.int 38 483), en P "SLASHEQUAL" 486 (.int 39 485), en P "PERCENTEQUAL" 488 (.int 40 487), en P "AMPEREQUAL" 490 (.int 41 489), en P "VBAREQUAL" 492 (.int 42 491), en P "CIRCUMFLEXEQUAL" 494 (.int 43 493), en P "LEFTSHIFTEQUAL" 496 (.int 44 495), en P "RIGHTSHIFTEQUAL" 498 (.int 45 497), en P "DOUBLESTAREQUAL" 500 (.int 46 499), en P "DOUBLESLASH" 502 (.int 47 501), en P "DOUBLESLASHEQUAL" 504 (.int 48 503), en P "AT" 506 (.int 49 505), en P "ATEQUAL" 508 (.int 50 507), en P "RARROW" 510 (.int 51 509), en P "ELLIPSIS" 512 (.int 52 511), en P "COLONEQUAL" 514 (.int 53 513), en P "EXCLAMATION" 516 (.int 54 515), en P "EXACT_TOKEN_TYPES" 613 (.ref 152), en P "ISEOF" 620 (.ref 161), en P "_law_lead" 631 (.ref 168), en P "_law_stops" 645 (.ref 175), en P "_law_refused" 653 (.ref 182), en P "_law_divided" 668 (.ref 189), en P "_law_numeral" 676 (.ref 196), en P "_law_text" 690 (.ref 203), en P "_law_value" 707 (.ref 210), en P "law" 713 (.ref 215)] 80
noncomputable def ob12F : Obj := oHi [(.int 1 0), (.int 0 0), (.ref 20), (.int 5 0), (.int 0 0), (.ref 28), (.int 46 0), (.int 0 0), (.ref 35), (.int 56 0), (.int 0 0), (.ref 42), (.int 60 0), (.int 0 0), (.ref 49), (.int 76 0), (.int 0 0), (.ref 56), (.int 86 0), (.int 0 0), (.ref 63), (.int 102 0), (.int 0 0), (.ref 70), (.int 111 0), (.int 0 0), (.ref 77), (.int 122 0), (.int 0 0), (.ref 84), (.int 134 0), (.int 0 0), (.ref 91), (.int 238 0), (.int 0 0), (.ref 160), (.int 241 0), (.int 0 0), (.ref 167), (.int 243 0), (.int 0 0), (.ref 174), (.int 254 0), (.int 0 0), (.ref 181), (.int 260 0), (.int 0 0), (.ref 188), (.int 266 0), (.int 0 0), (.ref 195), (.int 268 0), (.int 0 0), (.ref 202), (.int 277 0), (.int 0 0), (.ref 209), (.int 298 0), (.int 0 0), (.ref 214)]
noncomputable def ob157F : Obj := oTu [(.str "x" 617)]
noncomputable def ob159F : Obj := oHf (stI 65) "ISEOF"
noncomputable def ob160F : Obj := oCd "ISEOF" "ISEOF" 614 238 1 155 618
noncomputable def ob161F : Obj := oFn (stI 65) "ISEOF" .none (.str "cpy313.token" 417) (.ref 160)
noncomputable def ob164F : Obj := oTu [(.str "column" 626), (.str "tabs" 627), (.str "blanks" 628)]
noncomputable def ob166F : Obj := oHf (stI 67) "_law_lead"
noncomputable def ob167F : Obj := oCd "_law_lead" "_law_lead" 623 241 3 162 629
noncomputable def ob168F : Obj := oFn (stI 67) "_law_lead" .none (.str "law_sc0111_01" 621) (.ref 167)
noncomputable def ob171F : Obj := oTu [(.str "leads" 635), (.str "top" 636), (.str "low" 637), (.str "picks" 638), (.str "blanks" 639), (.str "rows" 640), (.str "size" 641), (.str "column" 642)]
noncomputable def ob173F : Obj := oHf (stI 68) "_law_stops"
noncomputable def ob174F : Obj := oCd "_law_stops" "_law_stops" 632 243 5 169 643
noncomputable def ob175F : Obj := oFn (stI 68) "_law_stops" .none (.str "law_sc0111_01" 621) (.ref 174)
noncomputable def ob178F : Obj := oTu [(.str "top" 649), (.str "bottom" 650)]
noncomputable def ob180F : Obj := oHf (stI 69) "_law_refused"
noncomputable def ob181F : Obj := oCd "_law_refused" "_law_refused" 646 254 2 176 651
noncomputable def ob182F : Obj := oFn (stI 69) "_law_refused" .none (.str "law_sc0111_01" 621) (.ref 181)
noncomputable def ob185F : Obj := oTu [(.str "rows" 657), (.str "low" 658), (.str "common" 659), (.str "turns" 660), (.str "sign" 661), (.str "count" 662), (.str "size" 663), (.str "after" 664), (.str "more" 665)]
noncomputable def ob187F : Obj := oHf (stI 70) "_law_divided"
noncomputable def ob188F : Obj := oCd "_law_divided" "_law_divided" 654 260 4 183 666
noncomputable def ob189F : Obj := oFn (stI 70) "_law_divided" .none (.str "law_sc0111_01" 621) (.ref 188)
noncomputable def ob192F : Obj := oTu [(.str "number" 672), (.str "blanks" 673)]
noncomputable def ob194F : Obj := oHf (stI 71) "_law_numeral"
noncomputable def ob195F : Obj := oCd "_law_numeral" "_law_numeral" 669 266 2 190 674
noncomputable def ob196F : Obj := oFn (stI 71) "_law_numeral" .none (.str "law_sc0111_01" 621) (.ref 195)
noncomputable def ob199F : Obj := oTu [(.str "rows" 680), (.str "blanks" 681), (.str "turns" 682), (.str "text" 683), (.str "sign" 684), (.str "count" 685), (.str "size" 686), (.str "after" 687)]
noncomputable def ob201F : Obj := oHf (stI 72) "_law_text"
noncomputable def ob202F : Obj := oCd "_law_text" "_law_text" 677 268 3 197 688
noncomputable def ob203F : Obj := oFn (stI 72) "_law_text" .none (.str "law_sc0111_01" 621) (.ref 202)
noncomputable def ob206F : Obj := oTu [(.str "text" 694), (.str "pile" 695), (.str "value" 696), (.str "place" 697), (.str "number" 698), (.str "turn" 699), (.str "before" 700), (.str "start" 701), (.str "found" 702), (.str "sign" 703), (.str "head" 704)]
noncomputable def ob208F : Obj := oHf (stI 73) "_law_value"
noncomputable def ob209F : Obj := oCd "_law_value" "_law_value" 691 277 1 204 705
noncomputable def ob210F : Obj := oFn (stI 73) "_law_value" .none (.str "law_sc0111_01" 621) (.ref 209)
noncomputable def ob213F : Obj := oHf (stI 74) "law"
noncomputable def ob214F : Obj := oCo [(.str "law" 708), (.str "law" 709), (.str "/claim/cut.py" 710), (.int 298 0), (.int 1 0), (.int 0 0), (.int 0 0), (.int 3 0), (.ref 211), (.bool true), (.int 181 0), (.ref 212), .none, .none, .none, (.ref 213), (.int 711 0), (.int 298 0), (.str "/claim/cut.py" 712)]
noncomputable def ob215F : Obj := oFn (stI 74) "law" .none (.str "law_sc0111_01" 621) (.ref 214)
noncomputable def trF (P : Params) : BT := (.node (boot_o_0 P) (.node (boot_o_1 P) (.node (ob3F P) (.node (boot_o_7 P) (.node (oTu []) (.node (oHi []) (.node ob63B (.node (oTu []) .nil .nil) (.node (oHi []) .nil .nil)) (.node ob95C (.node ob159F .nil .nil) .nil)) (.node (oTu []) (.node (oTu []) (.node ob143C .nil .nil) (.node (oTu []) .nil .nil)) (.node (oHi []) (.node ob175F .nil .nil) .nil))) (.node (oTu []) (.node ob39B (.node ob71B (.node ob135C .nil .nil) (.node ob199F .nil .nil)) (.node (oTu []) (.node ob167F .nil .nil) .nil)) (.node ob55B (.node ob87C (.node ob151C .nil .nil) (.node ob215F .nil .nil)) (.node ob119C (.node (oTu []) .nil .nil) .nil)))) (.node (oTu []) (.node ob19B (.node ob35B (.node ob67B (.node (oTu []) .nil .nil) (.node ob195F .nil .nil)) (.node (oTu []) (.node (oHi []) .nil .nil) .nil)) (.node (oTu []) (.node ob83B (.node ob147C .nil .nil) (.node (oTu []) .nil .nil)) (.node ob115C (.node (oTu []) .nil .nil) .nil))) (.node ob27B (.node ob43B (.node (oTu []) (.node (oHi []) .nil .nil) (.node ob203F .nil .nil)) (.node ob107C (.node ob171F .nil .nil) .nil)) (.node (oHi []) (.node ob91C (.node (oTu []) .nil .nil) .nil) (.node ob123C (.node ob187F .nil .nil) .nil))))) (.node (boot_o_5 P) (.node (boot_o_9 P) (.node ob17B (.node ob33B (.node (oTu []) (.node ob129C .nil .nil) (.node (oTu []) .nil .nil)) (.node (oHi []) (.node ob161F .nil .nil) .nil)) (.node ob49B (.node ob81B (.node ob145C .nil .nil) (.node ob209F .nil .nil)) (.node (oTu []) (.node (oHi []) .nil .nil) .nil))) (.node ob25B (.node ob41B (.node (oHi []) (.node ob137C .nil .nil) (.node ob201F .nil .nil)) (.node ob105C (.node (oTu []) .nil .nil) .nil)) (.node ob57B (.node (oTu []) (.node (ob153E P) .nil .nil) .nil) (.node ob121C (.node ob185F .nil .nil) .nil)))) (.node ob13A (.node ob21B (.node (oTu []) (.node ob69B (.node ob133C .nil .nil) (.node (oTu []) .nil .nil)) (.node ob101C (.node (oTu []) .nil .nil) .nil)) (.node ob53B (.node ob85B (.node ob149C .nil .nil) (.node ob213F .nil .nil)) (.node (oTu []) (.node ob181F .nil .nil) .nil))) (.node ob29B (.node (oHi []) (.node ob77B (.node (oTu []) .nil .nil) (.node (oHi []) .nil .nil)) (.node ob109C (.node ob173F .nil .nil) .nil)) (.node ob61B (.node ob93C (.node ob157F .nil .nil) .nil) (.node (oHi []) (.node ob189F .nil .nil) .nil)))))) (.node (boot_o_2 P) (.node (boot_o_4 P) (.node (boot_o_8 P) (.node (oHi []) (.node ob32B (.node ob64B (.node ob128C .nil .nil) (.node ob192F .nil .nil)) (.node (oTu []) (.node ob160F .nil .nil) .nil)) (.node ob48B (.node (oHi []) (.node ob144C .nil .nil) (.node ob208F .nil .nil)) (.node ob112C (.node (oTu []) .nil .nil) .nil))) (.node (oHi []) (.node (oTu []) (.node (oTu []) (.node ob136C .nil .nil) (.node (oTu []) .nil .nil)) (.node (oHi []) (.node ob168F .nil .nil) .nil)) (.node ob56B (.node (ob88C P) (.node (ob152E P) .nil .nil) .nil) (.node (oTu []) (.node (oHi []) .nil .nil) .nil)))) (.node ob12F (.node ob20B (.node ob36B (.node ob68B (.node (oHi []) .nil .nil) (.node ob196F .nil .nil)) (.node ob100C (.node ob164F .nil .nil) .nil)) (.node (oHi []) (.node ob84B (.node ob148C .nil .nil) (.node (oHi []) .nil .nil)) (.node ob116C (.node ob180F .nil .nil) .nil))) (.node ob28B (.node (oTu []) (.node ob76B (.node ob140C .nil .nil) (.node (oTu []) .nil .nil)) (.node ob108C (.node (oTu []) .nil .nil) .nil)) (.node ob60B (.node ob92C (.node (oHi []) .nil .nil) .nil) (.node (oTu []) (.node ob188F .nil .nil) .nil))))) (.node (boot_o_6 P) (.node (boot_o_10 P) (.node (oTu []) (.node ob34B (.node (oHi []) (.node ob130C .nil .nil) (.node ob194F .nil .nil)) (.node ob98C (.node (oTu []) .nil .nil) .nil)) (.node ob50B (.node (oTu []) (.node (ob146C P) .nil .nil) (.node ob210F .nil .nil)) (.node ob114C (.node ob178F .nil .nil) .nil))) (.node (oTu []) (.node ob42B (.node ob74B (.node (oTu []) .nil .nil) (.node ob202F .nil .nil)) (.node (oTu []) (.node (oHi []) .nil .nil) .nil)) (.node (oTu []) (.node ob90C (.node (ob154E P) .nil .nil) .nil) (.node ob122C (.node (oTu []) .nil .nil) .nil)))) (.node ob14A (.node ob22B (.node (oHi []) (.node ob70B (.node (oTu []) .nil .nil) (.node (oHi []) .nil .nil)) (.node ob102C (.node ob166F .nil .nil) .nil)) (.node (oTu []) (.node (oTu []) (.node ob150C .nil .nil) (.node ob214F .nil .nil)) (.node (oHi []) (.node ob182F .nil .nil) .nil))) (.node (oTu []) (.node ob46B (.node ob78B (.node ob142C .nil .nil) (.node ob206F .nil .nil)) (.node (oTu []) (.node ob174F .nil .nil) .nil)) (.node ob62B (.node (oTu []) (.node (oTu []) .nil .nil) .nil) (.node ob126C (.node (oTu []) .nil .nil) .nil)))))))
noncomputable def stF (w : World) (os : OsState) : SharedT := ⟨trF w.params, 216, {}, #[], {}, 714, os⟩
noncomputable abbrev poF : Pos := ⟨298, 0, 320, 118⟩
-- steps: pre 12 block 0 ⟨0, 0, 0, 0⟩ frame ⟨0, 0, 0, 0⟩ A..F 371 493 450 978 303 1
end Mine
end

section
open PySem PySem.W PyProof.Rows PySem.Challenge
set_option Elab.async false
set_option maxRecDepth 100000
set_option maxHeartbeats 0
namespace Mine
/-! the top's run in pieces: the text's statements 0 to 12, 13 (the class), 14 to 63, 64 (the table), 65 to the end -/
noncomputable abbrev bodyT : List Stmt := behindTheImports pw
noncomputable def envT : Env := { scope := pw.main.scope, locals := mainNs, globals := mainNs, cells := [], code := .ref 13, frame := some 14 }
noncomputable def coT : Code := .body bodyT envT
noncomputable abbrev anT : Option Value := some (.ref 6)
noncomputable abbrev bT : List Frame := [topFrame poA]
/-- a piece, in the library's quick words -/
noncomputable abbrev SegOk (n : Nat) (s s' : World → OsState → SharedT) (l : List Stmt) (q q' : Pos) (os : OsState) (w : World) : Prop :=
  Fast.tw10110043849684766642 Fast.tw14364793385576792824 pw w 11 anT 1 n (s w os) ⟨(Fast.tw12563942051412417395 l envT).wrap doneF deadEnd id id, coT, q, bT⟩ = some (.next, s' w os, coT, q')
theorem seg_of {n : Nat} {s s' : World → OsState → SharedT} {l : List Stmt} {q q' : Pos} {os : OsState} {w : World} (h : SegOk n s s' l q q' os w) :
    segRun treeTable pw w 11 anT 1 n (s w os).abs (piecesOf l envT coT q bT) = some (.next, (s' w os).abs, coT, q') := by
  refine segRun_of ?_
  unfold SegOk at h
  rw [← Fast.te10110043849684766642, ← Fast.te14364793385576792824, ← Fast.te12563942051412417395] at h
  exact h
theorem pre_ok (os : OsState) (w : World) : Fast.tw15667345088766844465 Fast.tw14364793385576792824 pw w 11 anT 12 ⟨boot_heap w.params, #[], boot_drawn, boot_toks, os⟩ (topStub pw) = some ((stA w os).abs, ⟨Fast.tw11892475500146522536 Fast.tw14364793385576792824 (.body bodyT envT), coT, poA, bT⟩) := by kernel_rfl
theorem block_ok (os : OsState) (w : World) : segRun treeTable pw w 11 anT 1 1 (stA w os).abs (blockOf bodyT envT coT poA bT) = some (.next, (stA w os).abs, coT, poA) := by kernel_rfl
theorem segA (os : OsState) (w : World) : SegOk 400 stA stB (bodyT.take 13) poA poB os w := by unfold SegOk; kernel_rfl
theorem segB_f (os : OsState) (w : World) : SegOk 500 stB stC ((bodyT.drop 13).take 1) poB poC os (w.withFollow "special-get-raises" false) := by unfold SegOk; kernel_rfl
theorem segB_t (os : OsState) (w : World) : SegOk 500 stB stC ((bodyT.drop 13).take 1) poB poC os (w.withFollow "special-get-raises" true) := by unfold SegOk; kernel_rfl
theorem segC (os : OsState) (w : World) : SegOk 500 stC stD ((bodyT.drop 14).take 50) poC poD os w := by unfold SegOk; kernel_rfl
theorem segD_f (os : OsState) (w : World) : SegOk 1000 stD stE ((bodyT.drop 64).take 1) poD poE os (w.withFollow "special-get-raises" false) := by unfold SegOk; kernel_rfl
theorem segD_t (os : OsState) (w : World) : SegOk 1000 stD stE ((bodyT.drop 64).take 1) poD poE os (w.withFollow "special-get-raises" true) := by unfold SegOk; kernel_rfl
theorem segE (os : OsState) (w : World) : SegOk 400 stE stF (bodyT.drop 65) poE poF os w := by unfold SegOk; kernel_rfl
theorem fin_ok (os : OsState) (w : World) : topRun treeTable pw w 11 anT 2 (stF w os).abs ⟨doneF .next, coT, poF, bT⟩ = some (stF w os).abs := by kernel_rfl
theorem look_tab (os : OsState) (w : World) : (staticsOk (importedModules pw.main.body) (boot_heap w.params) (stF w os).abs.heap && namesBound pw (stF w os).abs.heap && gensDone (stF w os).abs && laidKept (boot_heap w.params) (stF w os).abs.heap) = true := by kernel_rfl
theorem look_open (os : OsState) (w : World) : Fast.tw4187177175401517315 qv looseL (importedModules pw.main.body) (fun _ => true) true (stF w os).abs = openGood qv looseL := by kernel_rfl
theorem look_obs (os : OsState) (w : World) : obsOf (stF w os).abs = obsX w := by kernel_rfl
theorem open_eq : opening pw = plainProg pw.main.scope.names := by kernel_rfl
theorem fence_eq (s : Shared) : fenceModules? pw s = some s := by kernel_rfl
theorem size_ok (P : Params) : ((boot_heap P).isNs mainGlobals && (#[] : Array GenState).size == 0, (boot_heap P).objs.size, (boot_heap P).nsMap mainGlobals "__annotations__") = (true, 11, some (.ref 6)) := by kernel_rfl
theorem cut_at {α : Type} (l : List α) (n k m : Nat) (h : n + k = m) : (l.drop n).take k ++ l.drop m = l.drop n := by
  subst h
  rw [← List.drop_drop, List.take_append_drop]
theorem top_run (w : World) (os : OsState) : topRun treeTable pw w 11 anT 2815 ⟨boot_heap w.params, #[], boot_drawn, boot_toks, os⟩ (topStub pw) = some (stF w os).abs := by
  have e0 : topRun treeTable pw w 11 anT 2 (stF w os).abs (restOf [] envT coT poF bT) = some (stF w os).abs := piece_nil (fin_ok os w)
  have e1 := piece_app (seg_of (segE os w)) e0
  have e2 := piece_app (seg_of (byRow2 (P := SegOk 1000 stD stE ((bodyT.drop 64).take 1) poD poE os) "special-get-raises" (segD_f os) (segD_t os) w)) ((List.append_nil _) ▸ e1)
  rw [cut_at bodyT 64 1 65 rfl] at e2
  have e3 := piece_app (seg_of (segC os w)) e2
  rw [cut_at bodyT 14 50 64 rfl] at e3
  have e4 := piece_app (seg_of (byRow2 (P := SegOk 500 stB stC ((bodyT.drop 13).take 1) poB poC os) "special-get-raises" (segB_f os) (segB_t os) w)) e3
  rw [cut_at bodyT 13 1 14 rfl] at e4
  have e5 := piece_app (seg_of (segA os w)) e4
  rw [List.take_append_drop] at e5
  have e6 := piece_block (block_ok os w) e5
  have p := pre_ok os w
  rw [← Fast.te15667345088766844465, ← Fast.te14364793385576792824, ← Fast.te11892475500146522536] at p
  exact go_top p e6
theorem look_opn (os : OsState) (w : World) : openSeen qv looseL (importedModules pw.main.body) (fun _ => true) true (stF w os).abs = openGood qv looseL := by
  rw [Fast.te4187177175401517315]
  exact look_open os w
theorem left : LeftO pw qv looseL (fun _ => true) obsOf obsX 3000 :=
  LeftO.of_pieces (H₀ := boot_heap) (H₁ := fun P => absHeap (trF P) 216 {}) (gs₁ := #[]) (d₁ := {}) (k₁ := 714) (m₀ := 11) (ann := anT) (M := 2815)
    (boot_open open_eq (by decide +kernel) fence_eq) (fun w => size_ok w.params) top_run (by decide +kernel)
    fun w => funext fun os => looks_pair (look_tab os w) (looks_pair (look_opn os w) (look_obs os w))
end Mine
end

section
open PySem PySem.W PyProof.Rows PySem.Challenge
set_option Elab.async false
set_option maxRecDepth 100000
set_option maxHeartbeats 0
namespace Mine
/-! what is asked of the law's text, a piece at a time -/
noncomputable abbrev lw : OpenLaw := rw_sc0111_01
noncomputable abbrev lp : Program := lw.row.prog
theorem ws_names : namesResolve lp = true := by rw [Fast.te8377067652309620493]; kernel_rfl
theorem road_app (lk : Look) : ∀ a b : List Stmt, noRoadLSs lk (a ++ b) = (noRoadLSs lk a && noRoadLSs lk b)
  | [], b => rfl
  | s :: a, b => by
    rw [List.cons_append, noRoadLSs, noRoadLSs, road_app lk a b, Bool.and_assoc]
noncomputable def lkT : Look := { strict := !(importedModules lp.main.body).all cThrough.contains, foot := none, bare := (["vars", "dir", "locals"] : List Str).filter (readsOut lp lp.main.body) }
noncomputable abbrev lkX : Look := { strict := false, foot := none, bare := [] }
theorem out_vars : readsOut lp lp.main.body "vars" = false := by rw [Fast.te13343964577679436407]; kernel_rfl
theorem out_dir : readsOut lp lp.main.body "dir" = false := by rw [Fast.te13343964577679436407]; kernel_rfl
theorem out_locals : readsOut lp lp.main.body "locals" = false := by rw [Fast.te13343964577679436407]; kernel_rfl
theorem im_all : (!(importedModules lp.main.body).all cThrough.contains) = false := by kernel_rfl
theorem lk_eq : lkT = lkX := by
  unfold lkT
  rw [im_all]
  simp only [List.filter_cons, out_vars, out_dir, out_locals]
  rfl
theorem ws_road1 : noRoadLSs lkX (lp.main.body.take 14) = true := by rw [Fast.te8326940854005059898]; kernel_rfl
theorem ws_road2 : noRoadLSs lkX ((lp.main.body.drop 14).take 58) = true := by rw [Fast.te8326940854005059898]; kernel_rfl
theorem ws_road3 : noRoadLSs lkX ((lp.main.body.drop 14).drop 58) = true := by rw [Fast.te8326940854005059898]; kernel_rfl
theorem ws_road : noRoadLSs { strict := !(importedModules lp.main.body).all cThrough.contains, foot := none, bare := (["vars", "dir", "locals"] : List Str).filter (readsOut lp lp.main.body) } lp.main.body = true := by
  show noRoadLSs lkT _ = true
  rw [lk_eq, ← List.take_append_drop 14 lp.main.body, road_app, ws_road1, Bool.true_and, ← List.take_append_drop 58 (lp.main.body.drop 14), road_app, ws_road2, ws_road3]
  rfl
theorem ws_attr : (namesMeet lp lp.main.body fun _ n => attrL n) = true := by rw [Fast.te17119622794617984870, Fast.te17868728402115742887]; kernel_rfl
theorem ws_looks : looksOpen lp = true := by
  unfold looksOpen
  rw [ws_names, ws_road, ws_attr, Fast.te18344453789297297638]
  kernel_rfl
theorem ws_row : lw.row.wellSaid = true := by
  unfold OpenRow.wellSaid OpenRow.partSaid
  rw [ws_looks, Fast.te18344453789297297638]
  kernel_rfl
theorem ws_rowT : Fast.tw17960256430627541270 (Fast.tw2368527892694137696 rw_sc0111_01) = true := by
  rw [← Fast.te17960256430627541270, ← Fast.te2368527892694137696]
  exact ws_row
theorem well_said : rw_sc0111_01.wellSaid = true := by
  rw [Fast.te9446332074065402090]
  delta Fast.tw9446332074065402090
  rw [ws_rowT]
  kernel_rfl
theorem tab_whole : rw_sc0111_01.row.prog.tablesWhole = true := by
  unfold Program.tablesWhole TablesWhole.wProgram TablesWhole.holds
  rw [Fast.te6116379765354995101, Fast.te15985051520779696433]
  kernel_rfl
end Mine
end

section
open PySem PySem.W PyProof.Rows PySem.Challenge
set_option Elab.async false
set_option maxRecDepth 100000
namespace Mine
noncomputable abbrev mkX (w : World) (s : Shared) : Cx := ⟨pw, w, Ko s.heap, gho s.heap, 147, s.heap.nsMap mainGlobals, s.heap.nsMap builtinsNs⟩
noncomputable def mkA : Ads := ⟨215, 168, 102, 175, 116, 109, 130, 196, 203, 210, 161, 43, 36, 29, 189, 182, 85, 78, 50, 64, 71⟩
theorem b_Law : ∀ fd : FuncData, fd.params = arLaw → fd.defaults = .none → ∀ vals : List Value, vals.length = psLaw.length → bindArgs fd ⟨vals, []⟩ = pure (psLaw.zip vals) := fun fd h1 h2 vals hl => by
  obtain ⟨v0, rfl⟩ := len_1 hl
  cases fd
  cases h1
  cases h2
  kernel_rfl
theorem b_Lead : ∀ fd : FuncData, fd.params = arLead → fd.defaults = .none → ∀ vals : List Value, vals.length = psLead.length → bindArgs fd ⟨vals, []⟩ = pure (psLead.zip vals) := fun fd h1 h2 vals hl => by
  obtain ⟨v0, v1, v2, rfl⟩ := len_3 hl
  cases fd
  cases h1
  cases h2
  kernel_rfl
theorem b_Stops : ∀ fd : FuncData, fd.params = arStops → fd.defaults = .none → ∀ vals : List Value, vals.length = psStops.length → bindArgs fd ⟨vals, []⟩ = pure (psStops.zip vals) := fun fd h1 h2 vals hl => by
  obtain ⟨v0, v1, v2, v3, v4, rfl⟩ := len_5 hl
  cases fd
  cases h1
  cases h2
  kernel_rfl
theorem b_Ref : ∀ fd : FuncData, fd.params = arRef → fd.defaults = .none → ∀ vals : List Value, vals.length = psRef.length → bindArgs fd ⟨vals, []⟩ = pure (psRef.zip vals) := fun fd h1 h2 vals hl => by
  obtain ⟨v0, v1, rfl⟩ := len_2 hl
  cases fd
  cases h1
  cases h2
  kernel_rfl
theorem b_Dvd : ∀ fd : FuncData, fd.params = arDvd → fd.defaults = .none → ∀ vals : List Value, vals.length = psDvd.length → bindArgs fd ⟨vals, []⟩ = pure (psDvd.zip vals) := fun fd h1 h2 vals hl => by
  obtain ⟨v0, v1, v2, v3, rfl⟩ := len_4 hl
  cases fd
  cases h1
  cases h2
  kernel_rfl
theorem b_Num : ∀ fd : FuncData, fd.params = arNum → fd.defaults = .none → ∀ vals : List Value, vals.length = psNum.length → bindArgs fd ⟨vals, []⟩ = pure (psNum.zip vals) := fun fd h1 h2 vals hl => by
  obtain ⟨v0, v1, rfl⟩ := len_2 hl
  cases fd
  cases h1
  cases h2
  kernel_rfl
theorem b_Text : ∀ fd : FuncData, fd.params = arText → fd.defaults = .none → ∀ vals : List Value, vals.length = psText.length → bindArgs fd ⟨vals, []⟩ = pure (psText.zip vals) := fun fd h1 h2 vals hl => by
  obtain ⟨v0, v1, v2, rfl⟩ := len_3 hl
  cases fd
  cases h1
  cases h2
  kernel_rfl
theorem b_Val : ∀ fd : FuncData, fd.params = arVal → fd.defaults = .none → ∀ vals : List Value, vals.length = psVal.length → bindArgs fd ⟨vals, []⟩ = pure (psVal.zip vals) := fun fd h1 h2 vals hl => by
  obtain ⟨v0, rfl⟩ := len_1 hl
  cases fd
  cases h1
  cases h2
  kernel_rfl
theorem b_Eof : ∀ fd : FuncData, fd.params = arEof → fd.defaults = .none → ∀ vals : List Value, vals.length = psEof.length → bindArgs fd ⟨vals, []⟩ = pure (psEof.zip vals) := fun fd h1 h2 vals hl => by
  obtain ⟨v0, rfl⟩ := len_1 hl
  cases fd
  cases h1
  cases h2
  kernel_rfl
theorem b_Str : ∀ fd : FuncData, fd.params = arStr → fd.defaults = .none → ∀ vals : List Value, vals.length = psStr.length → bindArgs fd ⟨vals, []⟩ = pure (psStr.zip vals) := fun fd h1 h2 vals hl => by
  obtain ⟨v0, rfl⟩ := len_1 hl
  cases fd
  cases h1
  cases h2
  kernel_rfl
theorem b_Ifs : ∀ fd : FuncData, fd.params = arIfs → fd.defaults = .none → ∀ vals : List Value, vals.length = psIfs.length → bindArgs fd ⟨vals, []⟩ = pure (psIfs.zip vals) := fun fd h1 h2 vals hl => by
  obtain ⟨v0, rfl⟩ := len_1 hl
  cases fd
  cases h1
  cases h2
  kernel_rfl
theorem b_Div2 : ∀ fd : FuncData, fd.params = arDiv2 → fd.defaults = .none → ∀ vals : List Value, vals.length = psDiv2.length → bindArgs fd ⟨vals, []⟩ = pure (psDiv2.zip vals) := fun fd h1 h2 vals hl => by
  obtain ⟨v0, v1, v2, rfl⟩ := len_3 hl
  cases fd
  cases h1
  cases h2
  kernel_rfl
theorem b_I2d : ∀ fd : FuncData, fd.params = arI2d → fd.defaults = .none → ∀ vals : List Value, vals.length = psI2d.length → bindArgs fd ⟨vals, []⟩ = pure (psI2d.zip vals) := fun fd h1 h2 vals hl => by
  obtain ⟨v0, v1, rfl⟩ := len_2 hl
  cases fd
  cases h1
  cases h2
  kernel_rfl
theorem b_D2i : ∀ fd : FuncData, fd.params = arD2i → fd.defaults = .none → ∀ vals : List Value, vals.length = psD2i.length → bindArgs fd ⟨vals, []⟩ = pure (psD2i.zip vals) := fun fd h1 h2 vals hl => by
  obtain ⟨v0, v1, rfl⟩ := len_2 hl
  cases fd
  cases h1
  cases h2
  kernel_rfl
theorem b_Pos : ∀ fd : FuncData, fd.params = arPos → fd.defaults = .none → ∀ vals : List Value, vals.length = psPos.length → bindArgs fd ⟨vals, []⟩ = pure (psPos.zip vals) := fun fd h1 h2 vals hl => by
  obtain ⟨v0, v1, rfl⟩ := len_2 hl
  cases fd
  cases h1
  cases h2
  kernel_rfl
theorem b_Dm : ∀ fd : FuncData, fd.params = arDm → fd.defaults = .none → ∀ vals : List Value, vals.length = psDm.length → bindArgs fd ⟨vals, []⟩ = pure (psDm.zip vals) := fun fd h1 h2 vals hl => by
  obtain ⟨v0, v1, rfl⟩ := len_2 hl
  cases fd
  cases h1
  cases h2
  kernel_rfl
theorem b_Init : ∀ fd : FuncData, fd.params = arInit → fd.defaults = .none → ∀ vals : List Value, vals.length = psInit.length → bindArgs fd ⟨vals, []⟩ = pure (psInit.zip vals) := fun fd h1 h2 vals hl => by
  obtain ⟨v0, v1, rfl⟩ := len_2 hl
  cases fd
  cases h1
  cases h2
  kernel_rfl
theorem b_Long : ∀ fd : FuncData, fd.params = arLong → fd.defaults = .none → ∀ vals : List Value, vals.length = psLong.length → bindArgs fd ⟨vals, []⟩ = pure (psLong.zip vals) := fun fd h1 h2 vals hl => by
  obtain ⟨v0, rfl⟩ := len_1 hl
  cases fd
  cases h1
  cases h2
  kernel_rfl
theorem b_Ind : ∀ fd : FuncData, fd.params = arInd → fd.defaults = .none → ∀ vals : List Value, vals.length = psInd.length → bindArgs fd ⟨vals, []⟩ = pure (psInd.zip vals) := fun fd h1 h2 vals hl => by
  obtain ⟨v0, v1, rfl⟩ := len_2 hl
  cases fd
  cases h1
  cases h2
  kernel_rfl
theorem b_Wit : ∀ fd : FuncData, fd.params = arWit → fd.defaults = .none → ∀ vals : List Value, vals.length = psWit.length → bindArgs fd ⟨vals, []⟩ = pure (psWit.zip vals) := fun fd h1 h2 vals hl => by
  obtain ⟨v0, v1, rfl⟩ := len_2 hl
  cases fd
  cases h1
  cases h2
  kernel_rfl
theorem x_get {w : World} {s : Shared} {a : Addr} {o : Obj} (e : s.heap.get? a = some o) (n : a ∉ tbs) : (mkX w s).h0.get? a = some o := hideAll_get _ e n
theorem ns_get {w : World} {s : Shared} {a : Addr} {m : Str → Option Value} (x : s.heap.Ns a m) (n : a ∉ tbs) : (mkX w s).h0.Ns a m := let ⟨o, es, ep, e, r⟩ := x; ⟨o, es, ep, x_get (w := w) e n, r⟩
theorem ko_in (h : Heap) (a : Addr) (o : Obj) (e : (Ko h).lookup a = some o) : h.get? a = some o ∧ a ∈ kAs := by
  unfold Ko at e
  generalize kAs = l at e ⊢
  induction l with
  | nil => cases e
  | cons b r ih =>
    rw [List.filterMap_cons] at e
    cases q : h.get? b with
    | none => rw [q] at e; exact ⟨(ih e).1, .tail _ (ih e).2⟩
    | some ob =>
      rw [q] at e
      simp only [Option.map_some, List.lookup_cons] at e
      split at e
      · rename_i z; cases e; rw [eq_of_beq z]; exact ⟨q, .head _⟩
      · exact ⟨(ih e).1, .tail _ (ih e).2⟩
section
variable {w : World} {s : Shared}
theorem fn_at0 {q : Str} {p : Arguments} {b : List Stmt} {ns : Sc} {c : Addr} {d : Value} {a : Addr} (e : fnO s.heap a = some (fnX q p b ns c d)) (ha : a ∉ tbs) (hc : c ∉ tbs) :
    (∃ fd, FnAt0 (mkX w s) a fd b ∧ fd.scope.names = ns ∧ fd.code = .ref c ∧ fd.qualname = q ∧ fd.params = p ∧ fd.defaults = d) ∧ ∃ o fd, (mkX w s).h0.get? a = some o ∧ o.data = .func fd := by
  unfold fnO at e
  split at e
  · rename_i k1 k2 fd k3 ho
    have e := Option.some.inj e
    unfold fnX at e
    injection e with e1 e2 e3 e4 e5 e6 e7 e8 e9 e10 e11 e12 e13
    have hg := x_get (w := w) ho ha
    refine ⟨⟨fd, ⟨⟨_, hg, rfl⟩, ?_, e8, e9, e10, e3, e7, e6, e5⟩, e4, e12, e1, e2, e11⟩, _, fd, hg, rfl⟩
    obtain ⟨c', o', vs, t, f1, f2, f3, f4⟩ := Heap.CodeRec.of_ok e13
    refine ⟨c', o', vs, t, f1, x_get f2 ?_, f3, f4⟩
    rw [e12] at f1
    cases f1
    exact hc
  · cases e
theorem fn_at {q : Str} {p : Arguments} {b : List Stmt} {ns : Sc} {c : Addr} {d : Value} {a : Addr} {ps : List Str} (e : fnO s.heap a = some (fnX q p b ns c d)) (ha : a ∉ tbs) (hc : c ∉ tbs)
    (bd : ∀ fd : FuncData, fd.params = p → fd.defaults = d → ∀ vals : List Value, vals.length = ps.length → bindArgs fd ⟨vals, []⟩ = pure (ps.zip vals)) :
    (∃ fd, FnAt (mkX w s) a fd b ps ∧ fd.scope.names = ns ∧ fd.code = .ref c ∧ fd.qualname = q) ∧ ∃ o fd, (mkX w s).h0.get? a = some o ∧ o.data = .func fd := by
  obtain ⟨⟨fd, Z, h1, h2, h3, h4, h5⟩, r⟩ := fn_at0 (w := w) e ha hc
  exact ⟨⟨fd, ⟨Z, bd fd h4 h5⟩, h1, h2, h3⟩, r⟩
theorem fn_r {n : Str} {q : Str} {p : Arguments} {b : List Stmt} {ns : Sc} {c : Addr} {d : Value} {a : Addr} {ps : List Str} (e : fnO s.heap a = some (fnX q p b ns c d)) (hn : s.heap.nsMap mainGlobals n = some (.ref a)) (ha : a ∉ tbs) (hc : c ∉ tbs)
    (bd : ∀ fd : FuncData, fd.params = p → fd.defaults = d → ∀ vals : List Value, vals.length = ps.length → bindArgs fd ⟨vals, []⟩ = pure (ps.zip vals)) : FnR (mkX w s) n a b ps ns := by
  obtain ⟨⟨fd, Z, h1, _⟩, r⟩ := fn_at (w := w) e ha hc bd
  exact ⟨⟨hn, r⟩, fd, Z, h1⟩
theorem fn_d {n : Str} {q : Str} {p : Arguments} {b : List Stmt} {ns : Sc} {c : Addr} {d : Value} {a : Addr} {ps : List Str} (e : fnO s.heap a = some (fnX q p b ns c d)) (hn : s.heap.nsMap mainGlobals n = some (.ref a)) (ha : a ∉ tbs) (hc : c ∉ tbs)
    (bd : ∀ fd : FuncData, fd.params = p → fd.defaults = d → ∀ vals : List Value, vals.length = ps.length → bindArgs fd ⟨vals, []⟩ = pure (ps.zip vals)) : FnD (mkX w s) n a b ps ns c q := by
  obtain ⟨⟨fd, Z, h1, h2, h3⟩, r⟩ := fn_at (w := w) e ha hc bd
  exact ⟨⟨hn, r⟩, fd, Z, h1, h2, h3⟩
theorem fn_m {n : Str} {q : Str} {p : Arguments} {b : List Stmt} {ns : Sc} {c : Addr} {d : Value} {a : Addr} {ps : List Str} (e : fnO s.heap a = some (fnX q p b ns c d)) (hn : n ∈ methN) (hp : plainGet (Ko s.heap) 147 n = true) (hf : findIn (Ko s.heap) (.ref 147) n = some (some (.ref a))) (ht : typeIn (Ko s.heap) (.ref a) = some (.type "function")) (ha : a ∉ tbs) (hc : c ∉ tbs)
    (bd : ∀ fd : FuncData, fd.params = p → fd.defaults = d → ∀ vals : List Value, vals.length = ps.length → bindArgs fd ⟨vals, []⟩ = pure (ps.zip vals)) : MeR (mkX w s) n a b ps ns := by
  obtain ⟨⟨fd, Z, h1, _⟩, r⟩ := fn_at (w := w) e ha hc bd
  exact ⟨⟨hn, hp, hf, by unfold isFn; rw [ht]; exact beq_self_eq_true _, r⟩, fd, Z, h1⟩
/-! the token table -/
theorem tok_find (f : Value → Option Str) (hf : ∀ v x, f v = some x → ∃ t, v = .str x t) (k : Str) : ∀ (es : List DictEntry) (L : List (Str × Int)), (es.map fun e => (f e.key, intO (some e.val))) = L.map (fun p => (some p.1, some p.2)) →
    match L.lookup k with | some i => ∃ t, (es.find? fun e => Value.isStrOf k e.key).map (·.val) = some (.int i t) | none => (es.find? fun e => Value.isStrOf k e.key).map (·.val) = none
  | [], [], _ => rfl
  | [], _ :: _, h => by simp at h
  | _ :: _, [], h => by simp at h
  | e :: es, (x, i) :: L, h => by
    rw [List.map_cons, List.map_cons] at h
    obtain ⟨h1, h2⟩ := List.cons.inj h
    obtain ⟨h3, h4⟩ := Prod.mk.inj h1
    obtain ⟨t, ht⟩ := hf _ _ h3
    have hv : ∃ u, e.val = .int i u := by
      obtain ⟨eh, ek, ev⟩ := e
      cases ev <;> simp only [intO, Option.some.injEq, reduceCtorEq] at h4
      exact ⟨_, by rw [h4]⟩
    obtain ⟨u, hu⟩ := hv
    rw [List.lookup_cons, List.find?_cons, ht]
    show match (match k == x with | true => some i | false => L.lookup k) with | some i => _ | none => _
    have hk : Value.isStrOf k (.str x t) = (x == k) := rfl
    rw [hk]
    by_cases q : k = x
    · subst q
      rw [beq_self_eq_true]
      exact ⟨u, congrArg some hu⟩
    · have q1 : (k == x) = false := by simpa using q
      have q2 : (x == k) = false := by simpa using Ne.symm q
      rw [q1, q2]
      exact tok_find f hf k es L h2
theorem tok_look (c : Nat) : ∀ L : List (List Nat × Int), (L.map fun p => ((⟨p.1.toArray⟩ : Str), p.2)).lookup ⟨#[c]⟩ = (L.filterMap fun p => match p.1 with | [d] => some (d, p.2) | _ => none).lookup c
  | [] => rfl
  | (k, i) :: L => by
    rw [List.map_cons, List.lookup_cons, List.filterMap_cons]
    have ih := tok_look c L
    match k with
    | [] => exact ih
    | [d] =>
      dsimp only
      rw [List.lookup_cons]
      by_cases q : c = d
      · subst q; rw [beq_self_eq_true, beq_self_eq_true]
      · have q1 : (c == d) = false := by simpa using q
        have q2 : ((⟨#[c]⟩ : Str) == ⟨[d].toArray⟩) = false := by
          rw [beq_eq_false_iff_ne]
          intro z
          injection z with z
          have := congrArg Array.toList z
          simp at this
          exact q this
        rw [q1, q2]
        exact ih
    | a :: b :: r =>
      have q2 : ((⟨#[c]⟩ : Str) == ⟨(a :: b :: r).toArray⟩) = false := by
        rw [beq_eq_false_iff_ne]
        intro z
        injection z with z
        have := congrArg Array.toList z
        simp at this
      dsimp only
      rw [q2]
      exact ih
theorem tok_D (c : Nat) : (tokL.map fun p => ((⟨p.1.toArray⟩ : Str), p.2)).lookup ⟨#[c]⟩ = tokD c := by
  rw [tok_look]
  have e : (tokL.filterMap fun p => match p.1 with | [d] => some (d, p.2) | _ => none) = [(33, 54), (37, 24), (38, 19), (40, 7), (41, 8), (42, 16), (43, 14), (44, 12), (45, 15), (46, 23), (47, 17), (58, 11), (59, 13), (60, 20), (61, 22), (62, 21), (64, 49), (91, 9), (93, 10), (94, 32), (123, 25), (124, 18), (125, 26), (126, 31)] := by rfl
  rw [e]
  unfold tokD
  split <;> simp_all
theorem strO_of (v : Value) (x : Str) (h : strO v = some x) : ∃ t, v = .str x t := by
  cases v <;> simp only [strO, Option.some.injEq, reduceCtorEq] at h
  exact ⟨_, by rw [h]⟩
theorem tok_ok (e : tokO s.heap = some (true, tokX w)) : ∃ f, (mkX w s).h0.MapOf (PySem.strKind pw w) 152 f ∧ ∀ c : Nat, match tokD c with | some i => ∃ t, f ⟨#[c]⟩ = some (.int i t) | none => f ⟨#[c]⟩ = none := by
  unfold tokO at e
  split at e
  · rename_i cl d es ep sl ho
    obtain ⟨e1, e2⟩ := Prod.mk.inj (Option.some.inj e)
    simp only [Bool.and_eq_true, beq_iff_eq, Option.isNone_iff_eq_none] at e1
    obtain ⟨⟨a1, a2⟩, a3⟩ := e1
    have hes : (es.toList.map fun e => (strO e.key, intO (some e.val))) = (tokL.map fun p => ((⟨p.1.toArray⟩ : Str), p.2)).map fun p => (some p.1, some p.2) := by
      have := congrArg (List.map Prod.snd) e2
      unfold tokX at this
      rw [List.map_map, List.map_map] at this
      rw [List.map_map]
      exact this
    refine ⟨fun k => findBy (PySem.strKind pw w).is es k, ⟨_, es, ep, x_get ho (by decide), ⟨a1, a2, by simpa using a3⟩, rfl, fun x hx => ?_, fun k => rfl⟩, fun c => ?_⟩
    · have hm : (x.hash, strO x.key, intO (some x.val)) ∈ es.toList.map fun e => (e.hash, strO e.key, intO (some e.val)) := List.mem_map.mpr ⟨x, Array.mem_toList_iff.mpr hx, rfl⟩
      rw [e2] at hm
      obtain ⟨p, hp, q⟩ := List.mem_map.mp hm
      obtain ⟨q1, q2⟩ := Prod.mk.inj q
      obtain ⟨q2, q3⟩ := Prod.mk.inj q2
      obtain ⟨t, ht⟩ := strO_of _ _ q2.symm
      exact ⟨⟨p.1.toArray⟩, by rw [ht]; exact beq_self_eq_true _, q1.symm⟩
    · have := tok_find strO strO_of ⟨#[c]⟩ es.toList _ hes
      rw [tok_D] at this
      have ef : ∀ k, findBy (PySem.strKind pw w).is es k = (es.toList.find? fun e => Value.isStrOf k e.key).map (·.val) := fun k => by
        unfold findBy
        rw [← Array.find?_toList]
        rfl
      dsimp only
      rw [ef]
      exact this
  · cases e
theorem hd_ok {c P : Addr} (e : hdB s.heap c P = true) (hc : c ∉ tbs) (hP : c ≠ P) : CodeHd (mkX w s).h0 c P := by
  unfold hdB at e
  split at e
  · rename_i o ho
    rw [Bool.and_eq_true] at e
    obtain ⟨e1, e⟩ := e
    split at e
    · rename_i vs hd
      simp only [Bool.and_eq_true, beq_iff_eq] at e
      obtain ⟨⟨⟨⟨⟨a1, a2⟩, a3⟩, a4⟩, a5⟩, a6⟩ := e
      split at a3
      · rename_i f tf h3
        split at a4
        · rename_i g tg h4
          split at a5
          · rename_i i h5
            split at a6
            · rename_i x tt h6
              exact ⟨o, vs, f, tf, g, tg, i, x, tt, x_get ho hc, eq_of_beq e1, hd, a1, a2, h3, h4, h5, h6, hP⟩
            · cases a6
          · cases a5
        · cases a4
      · cases a3
    · cases e
  · cases e
theorem blt_ok {mg : Str → Option Value} {P : Addr} (e : bltB s.heap = true) (hm : mg "__builtins__" = some (.ref 4)) (hP : P ∈ tbs) : (mkX w s).h0.BuiltinsAt mg P := by
  unfold bltB at e
  split at e
  · rename_i c d sl ho
    simp only [Bool.and_eq_true, beq_iff_eq] at e
    refine ⟨4, _, hm, by decide, by decide, by rintro rfl; revert hP; decide, x_get ho (by decide), e.1, e.2, rfl⟩
  · cases e
end
section
variable {w : World} {s : Shared}
theorem obs_get {α : Type} {l l' : List α} (e : l = l') (i : Nat) : l[i]? = l'[i]? := by rw [e]
theorem wd_ok (y : obsOf s = obsX w) : Wd (mkX w s) := by
  have yo : (obsOf s).oks = List.replicate 13 true := congrArg Obs.oks y
  have yf : (obsOf s).fi = fiX := congrArg Obs.fi y
  have yn : (obsOf s).nms = nmX := congrArg Obs.nms y
  have yb : (((("ZeroDivisionError" : Str), Value.type "ZeroDivisionError") :: biL).map fun p => (s.heap.nsMap mainGlobals p.1, s.heap.nsMap builtinsNs p.1)) = (((("ZeroDivisionError" : Str), Value.type "ZeroDivisionError") :: biL).map fun p => (none, some p.2)) := congrArg Obs.bis y
  have ok0 : s.heap.isNs mainGlobals = true := Option.some.inj (obs_get yo 0)
  have ok1 : s.heap.isNs builtinsNs = true := Option.some.inj (obs_get yo 1)
  have ok2 : s.heap.noLimitOk = true := Option.some.inj (obs_get yo 2)
  have ok3 : hdB s.heap 35 31 = true := Option.some.inj (obs_get yo 3)
  have ok4 : hdB s.heap 63 59 = true := Option.some.inj (obs_get yo 4)
  have ok5 : hdB s.heap 70 66 = true := Option.some.inj (obs_get yo 5)
  have ok6 : bltB s.heap = true := Option.some.inj (obs_get yo 6)
  have ok7 : hasDictIn (Ko s.heap) 147 = true := Option.some.inj (obs_get yo 7)
  have f0 : findIn (Ko s.heap) (.ref 147) "norm" = some none := Option.some.inj (obs_get yf 0)
  have f1 : findIn (Ko s.heap) (.ref 147) "nt" = some none := Option.some.inj (obs_get yf 1)
  have f8 : findIn (Ko s.heap) (.ref 147) "__getattribute__" = some (some (.builtin "object.__getattribute__")) := Option.some.inj (obs_get yf 8)
  have f9 : findIn (Ko s.heap) (.ref 147) "__getattr__" = some none := Option.some.inj (obs_get yf 9)
  have n19 : s.heap.nsMap mainGlobals "EXACT_TOKEN_TYPES" = some (.ref 152) := Option.some.inj (obs_get yn 19)
  have n20 : s.heap.nsMap mainGlobals "__builtins__" = some (.ref 4) := Option.some.inj (obs_get yn 20)
  have pg : ∀ n, plainGet (Ko s.heap) 147 n = true := fun n => by
    unfold plainGet
    rw [f8, f9]
    rfl
  have hmem : ∀ t ∈ tabL, (t.c = 35 ∧ t.P = 31) ∨ (t.c = 63 ∧ t.P = 59) ∨ (t.c = 70 ∧ t.P = 66) := by decide
  refine ⟨fun a ha => hideAll_none tbs ha, ns_get (.of_isNs ok0) (by decide), ns_get (.of_isNs ok1) (by decide), ?_, fun a o e => ?_, fun p hp => ?_, ok7, fun t ht => ?_, fun t ht => ?_, fun n hn => ?_, ?_⟩
  · obtain ⟨mc, h1, h2⟩ := Heap.NoLimit.of_ok ok2
    exact ⟨mc, ns_get h1 (by decide), h2⟩
  · obtain ⟨h1, h2⟩ := ko_in _ _ _ e
    exact x_get h1 (by revert h2; generalize a = b; revert b; decide)
  · exact Prod.mk.inj (List.map_inj_left.mp yb p (.tail _ hp))
  · rcases hmem t ht with ⟨e1, e2⟩ | ⟨e1, e2⟩ | ⟨e1, e2⟩ <;> rw [e1, e2]
    · exact hd_ok ok3 (by decide) (by decide)
    · exact hd_ok ok4 (by decide) (by decide)
    · exact hd_ok ok5 (by decide) (by decide)
  · exact blt_ok ok6 n20 (tabL_tbs t ht)
  · refine ⟨pg n, ?_⟩
    simp only [attrN, List.mem_cons, List.not_mem_nil, or_false] at hn
    rcases hn with rfl | rfl
    · exact f0
    · exact f1
  · obtain ⟨f, h1, h2⟩ := tok_ok (congrArg Obs.tok y)
    exact ⟨152, f, n19, h1, by decide, h2⟩

theorem pow_bind {w : World} {s : Shared} {fd : FuncData} (h4 : fd.params = arPow) (h5 : fd.defaults = .ref 22) (yd : dflO s.heap = some (.type "tuple", [.bool false])) (vals : List Value) (s' : Shared) (hl : vals.length = 3) (le : Le (mkX w s).h0.get? (gt s'.heap)) :
    BindsTo s' fd ⟨vals, []⟩ (psPow.zip (vals ++ [.bool false])) := by
  unfold dflO at yd
  split at yd
  · rename_i c d vs n sl ho
    obtain ⟨_, e2⟩ := Prod.mk.inj (Option.some.inj yd)
    have e2 : vs = #[.bool false] := Array.toList_inj.mp e2
    have hg := gt_get (le _ _ (x_get (w := w) ho (by decide)))
    obtain ⟨v0, v1, v2, rfl⟩ := len_3 hl
    cases fd
    cases h4
    cases h5
    subst e2
    exact BindsTo.of_defaults rfl hg rfl rfl (by kernel_rfl)
  · cases yd
theorem wld_ok (y : obsOf s = obsX w) : Wld (mkX w s) mkA := by
  have yo : (obsOf s).oks = List.replicate 13 true := congrArg Obs.oks y
  have yf : (obsOf s).fi = fiX := congrArg Obs.fi y
  have yn : (obsOf s).nms = nmX := congrArg Obs.nms y
  have yu : (obsOf s).numO = [some 0, some 4000] := congrArg Obs.numO y
  have yk : (obsOf s).tk = List.replicate 5 (some none) := congrArg Obs.tk y
  have yy : (obsOf s).ty = [some (.type "function"), some (.type "function"), some (.type "function"), some (.type "function"), some (.type "type")] := congrArg Obs.ty y
  have ys : (obsOf s).st = [some ⟨#[32]⟩, some ⟨#[9]⟩] := congrArg Obs.st y
  have yd : dflO s.heap = some (.type "tuple", [.bool false]) := congrArg Obs.dfl y
  have yb : (((("ZeroDivisionError" : Str), Value.type "ZeroDivisionError") :: biL).map fun p => (s.heap.nsMap mainGlobals p.1, s.heap.nsMap builtinsNs p.1)) = (((("ZeroDivisionError" : Str), Value.type "ZeroDivisionError") :: biL).map fun p => (none, some p.2)) := congrArg Obs.bis y
  have yF : (obsOf s).fns = fnXs.map some := congrArg Obs.fns y
  have W := wd_ok y
  have eLaw : fnO s.heap 215 = some (fnX "law" arLaw bdLaw nnLaw 214 .none) := Option.some.inj (obs_get yF 0)
  have eLead : fnO s.heap 168 = some (fnX "_law_lead" arLead bdLead nnLead 167 .none) := Option.some.inj (obs_get yF 1)
  have eStops : fnO s.heap 175 = some (fnX "_law_stops" arStops bdStops nnStops 174 .none) := Option.some.inj (obs_get yF 2)
  have eRef : fnO s.heap 182 = some (fnX "_law_refused" arRef bdRef nnRef 181 .none) := Option.some.inj (obs_get yF 3)
  have eDvd : fnO s.heap 189 = some (fnX "_law_divided" arDvd bdDvd nnDvd 188 .none) := Option.some.inj (obs_get yF 4)
  have eNum : fnO s.heap 196 = some (fnX "_law_numeral" arNum bdNum nnNum 195 .none) := Option.some.inj (obs_get yF 5)
  have eText : fnO s.heap 203 = some (fnX "_law_text" arText bdText nnText 202 .none) := Option.some.inj (obs_get yF 6)
  have eVal : fnO s.heap 210 = some (fnX "_law_value" arVal bdVal nnVal 209 .none) := Option.some.inj (obs_get yF 7)
  have eEof : fnO s.heap 161 = some (fnX "ISEOF" arEof bdEof nnEof 160 .none) := Option.some.inj (obs_get yF 8)
  have eStr : fnO s.heap 36 = some (fnX "_str_to_int_inner" arStr bdStr nnStr 35 .none) := Option.some.inj (obs_get yF 9)
  have eIfs : fnO s.heap 43 = some (fnX "int_from_string" arIfs bdIfs nnIfs 42 .none) := Option.some.inj (obs_get yF 10)
  have eDiv2 : fnO s.heap 50 = some (fnX "_div2n1n" arDiv2 bdDiv2 nnDiv2 49 .none) := Option.some.inj (obs_get yF 11)
  have eI2d : fnO s.heap 64 = some (fnX "_int2digits" arI2d bdI2d nnI2d 63 .none) := Option.some.inj (obs_get yF 12)
  have eD2i : fnO s.heap 71 = some (fnX "_digits2int" arD2i bdD2i nnD2i 70 .none) := Option.some.inj (obs_get yF 13)
  have ePos : fnO s.heap 78 = some (fnX "_divmod_pos" arPos bdPos nnPos 77 .none) := Option.some.inj (obs_get yF 14)
  have eDm : fnO s.heap 85 = some (fnX "int_divmod" arDm bdDm nnDm 84 .none) := Option.some.inj (obs_get yF 15)
  have eInit : fnO s.heap 102 = some (fnX "Whitespace.__init__" arInit bdInit nnInit 101 .none) := Option.some.inj (obs_get yF 16)
  have eLong : fnO s.heap 109 = some (fnX "Whitespace.longest_run_of_spaces" arLong bdLong nnLong 108 .none) := Option.some.inj (obs_get yF 17)
  have eInd : fnO s.heap 116 = some (fnX "Whitespace.indent_level" arInd bdInd nnInd 115 .none) := Option.some.inj (obs_get yF 18)
  have eWit : fnO s.heap 130 = some (fnX "Whitespace.not_equal_witness" arWit bdWit nnWit 129 .none) := Option.some.inj (obs_get yF 19)
  have ePow : fnO s.heap 29 = some (fnX "compute_powers" arPow bdPow nnPow 28 (.ref 22)) := Option.some.inj (obs_get yF 20)
  have nLaw : s.heap.nsMap mainGlobals "law" = some (.ref 215) := Option.some.inj (obs_get yn 0)
  have nLead : s.heap.nsMap mainGlobals "_law_lead" = some (.ref 168) := Option.some.inj (obs_get yn 1)
  have nStops : s.heap.nsMap mainGlobals "_law_stops" = some (.ref 175) := Option.some.inj (obs_get yn 2)
  have nRef : s.heap.nsMap mainGlobals "_law_refused" = some (.ref 182) := Option.some.inj (obs_get yn 3)
  have nDvd : s.heap.nsMap mainGlobals "_law_divided" = some (.ref 189) := Option.some.inj (obs_get yn 4)
  have nNum : s.heap.nsMap mainGlobals "_law_numeral" = some (.ref 196) := Option.some.inj (obs_get yn 5)
  have nText : s.heap.nsMap mainGlobals "_law_text" = some (.ref 203) := Option.some.inj (obs_get yn 6)
  have nVal : s.heap.nsMap mainGlobals "_law_value" = some (.ref 210) := Option.some.inj (obs_get yn 7)
  have nEof : s.heap.nsMap mainGlobals "ISEOF" = some (.ref 161) := Option.some.inj (obs_get yn 8)
  have nStr : s.heap.nsMap mainGlobals "_str_to_int_inner" = some (.ref 36) := Option.some.inj (obs_get yn 9)
  have nIfs : s.heap.nsMap mainGlobals "int_from_string" = some (.ref 43) := Option.some.inj (obs_get yn 10)
  have nDiv2 : s.heap.nsMap mainGlobals "_div2n1n" = some (.ref 50) := Option.some.inj (obs_get yn 11)
  have nI2d : s.heap.nsMap mainGlobals "_int2digits" = some (.ref 64) := Option.some.inj (obs_get yn 12)
  have nD2i : s.heap.nsMap mainGlobals "_digits2int" = some (.ref 71) := Option.some.inj (obs_get yn 13)
  have nPos : s.heap.nsMap mainGlobals "_divmod_pos" = some (.ref 78) := Option.some.inj (obs_get yn 14)
  have nDm : s.heap.nsMap mainGlobals "int_divmod" = some (.ref 85) := Option.some.inj (obs_get yn 15)
  have nPow : s.heap.nsMap mainGlobals "compute_powers" = some (.ref 29) := Option.some.inj (obs_get yn 16)
  have nWs : s.heap.nsMap mainGlobals "Whitespace" = some (.ref 147) := Option.some.inj (obs_get yn 17)
  have nZ : s.heap.nsMap mainGlobals "ZeroDivisionError" = none := Option.some.inj (obs_get yn 18)
  have f2 : findIn (Ko s.heap) (.ref 147) "longest_run_of_spaces" = some (some (.ref 109)) := Option.some.inj (obs_get yf 2)
  have f3 : findIn (Ko s.heap) (.ref 147) "indent_level" = some (some (.ref 116)) := Option.some.inj (obs_get yf 3)
  have f4 : findIn (Ko s.heap) (.ref 147) "not_equal_witness" = some (some (.ref 130)) := Option.some.inj (obs_get yf 4)
  have f5 : findIn (Ko s.heap) (.ref 147) "__init__" = some (some (.ref 102)) := Option.some.inj (obs_get yf 5)
  have f6 : findIn (Ko s.heap) (.ref 147) "__setattr__" = some (some (.builtin "object.__setattr__")) := Option.some.inj (obs_get yf 6)
  have f7 : findIn (Ko s.heap) (.ref 147) "raw" = some none := Option.some.inj (obs_get yf 7)
  have f8 : findIn (Ko s.heap) (.ref 147) "__getattribute__" = some (some (.builtin "object.__getattribute__")) := Option.some.inj (obs_get yf 8)
  have f9 : findIn (Ko s.heap) (.ref 147) "__getattr__" = some none := Option.some.inj (obs_get yf 9)
  have pg : ∀ n, plainGet (Ko s.heap) 147 n = true := fun n => by
    unfold plainGet
    rw [f8, f9]
    rfl
  have t0 : typeIn (Ko s.heap) (.ref 102) = some (.type "function") := Option.some.inj (obs_get yy 0)
  have t1 : typeIn (Ko s.heap) (.ref 109) = some (.type "function") := Option.some.inj (obs_get yy 1)
  have t2 : typeIn (Ko s.heap) (.ref 116) = some (.type "function") := Option.some.inj (obs_get yy 2)
  have t3 : typeIn (Ko s.heap) (.ref 130) = some (.type "function") := Option.some.inj (obs_get yy 3)
  have t4 : typeIn (Ko s.heap) (.ref 147) = some (.type "type") := Option.some.inj (obs_get yy 4)
  have okM : makesIn (Ko s.heap) 147 = true := Option.some.inj (obs_get yo 8)
  have okK : keepIn (Ko s.heap) (.ref 147) = true := Option.some.inj (obs_get yo 9)
  have okP : plainOver (Ko s.heap) 147 = true := Option.some.inj (obs_get yo 10)
  have okR : readsIn (Ko s.heap) 147 (.type "type") = true := Option.some.inj (obs_get yo 11)
  have zS : kStr s.heap "S" = some ⟨#[32]⟩ := Option.some.inj (obs_get ys 0)
  have zT : kStr s.heap "T" = some ⟨#[9]⟩ := Option.some.inj (obs_get ys 1)
  have hst : ∀ n x, kStr s.heap n = some x → ∃ t, findCls (Ko s.heap) (.ref 147) (.type "type") n = some (.val (.str x t)) := fun n x h => by
    unfold kStr at h
    split at h
    · rename_i z u q; cases h; exact ⟨_, q⟩
    · cases h
  have hio : ∀ (v : Option Value) i, intO v = some i → ∃ t, v = some (.int i t) := fun v i h => by
    unfold intO at h
    split at h
    · cases h; exact ⟨_, rfl⟩
    · cases h
  have nn : ∀ a : Addr, a ∈ [215, 168, 102, 175, 116, 109, 130, 196, 203, 210, 161, 43, 36, 29, 189, 182, 85, 78, 50, 64, 71] → a ∉ tbs := by decide
  exact {
    W := W
    law := fn_r eLaw nLaw (by decide) (by decide) b_Law
    lead := fn_r eLead nLead (by decide) (by decide) b_Lead
    mak := ⟨nWs, okM, okK, f5, t0⟩
    init := by
      obtain ⟨⟨fd, Z, h1, _⟩, _⟩ := fn_at (w := w) eInit (by decide) (by decide) b_Init
      exact ⟨fd, Z, h1⟩
    kls := ⟨⟨f6, okP, fun n hn => List.map_inj_left.mp (show tkL.map (takerIn (Ko s.heap) 147) = tkL.map (fun _ => some none) from yk) n hn⟩, nWs, ⟨_, okR, t4, hst _ _ zS, hst _ _ zT⟩, pg _, f7⟩
    stops := fn_r eStops nStops (by decide) (by decide) b_Stops
    ind := fn_m eInd (by decide) (pg _) f3 t2 (by decide) (by decide) b_Ind
    long := fn_m eLong (by decide) (pg _) f2 t1 (by decide) (by decide) b_Long
    wit := fn_m eWit (by decide) (pg _) f4 t3 (by decide) (by decide) b_Wit
    num := fn_r eNum nNum (by decide) (by decide) b_Num
    text := fn_r eText nText (by decide) (by decide) b_Text
    val := fn_r eVal nVal (by decide) (by decide) b_Val
    eof := fn_r eEof nEof (by decide) (by decide) b_Eof
    em := hio _ _ (Option.some.inj (obs_get yu 0))
    ifs := fn_r eIfs nIfs (by decide) (by decide) b_Ifs
    sti := fn_d eStr nStr (by decide) (by decide) b_Str
    pow := by
      obtain ⟨⟨fd, Z, h1, h2, h3, h4, h5⟩, r⟩ := fn_at0 (w := w) ePow (by decide) (by decide)
      exact ⟨⟨nPow, r⟩, fd, Z, h1, pow_bind h4 h5 yd⟩
    dvd := fn_r eDvd nDvd (by decide) (by decide) b_Dvd
    ref := fn_r eRef nRef (by decide) (by decide) b_Ref
    dm := fn_r eDm nDm (by decide) (by decide) b_Dm
    pos := fn_r ePos nPos (by decide) (by decide) b_Pos
    d2 := fn_r eDiv2 nDiv2 (by decide) (by decide) b_Div2
    lim := hio _ _ (Option.some.inj (obs_get yu 1))
    i2d := fn_d eI2d nI2d (by decide) (by decide) b_I2d
    d2i := fn_d eD2i nD2i (by decide) (by decide) b_D2i
    zde := ⟨nZ, (Prod.mk.inj (List.map_inj_left.mp yb _ (.head _))).2⟩ }
end
end Mine
end

section
open PySem PySem.W PyProof.Rows
set_option Elab.async false
set_option maxRecDepth 100000
namespace Mine
noncomputable def fnSc : Stmt → Option (Scope × Pos)
  | .FunctionDef _ _ _ _ _ _ sc _ _ p => some (sc, p)
  | _ => none
noncomputable def scLaw : Scope × Pos := by
  refine Subtype.val (p := fun x => (stI 74).bind fnSc = some x) ⟨?_, ?_⟩
  rotate_left
  exact rfl
noncomputable def dL : DefRec := ⟨"law", arLaw, bdLaw, scLaw.1, scLaw.2⟩
/-! how great the numbers can be -/
theorem nat_abs_sum (M : Nat) : ∀ l : List Int, (∀ n ∈ l, n.natAbs ≤ M) → l.sum.natAbs ≤ l.length * M
  | [], _ => by simp
  | n :: l, h => by
    have h1 := h n (.head _)
    have h2 := nat_abs_sum M l fun x hx => h x (.tail _ hx)
    rw [List.sum_cons, List.length_cons, Nat.add_mul, Nat.one_mul]
    omega
theorem pickD_mem {α : Type} {xs : List α} {lo hi st : Option Int} {x : α} (h : x ∈ pickD xs lo hi st) : x ∈ xs := by
  unfold pickD at h
  obtain ⟨i, _, e⟩ := List.mem_filterMap.mp h
  exact List.mem_of_getElem? e
theorem abs_weight : ∀ (ns : List Int) (n : Int), n ∈ ns → n.natAbs ≤ 2 ^ WData.weightAll (ofPys (ns.map PyData.int))
  | m :: ns, n, h => by
    rw [List.map_cons, ofPys, WData.weightAll]
    rcases List.mem_cons.mp h with rfl | h
    · have h1 : n.natAbs ≤ 2 ^ (ofPy (PyData.int n)).weight := by
        rw [ofPy, WData.weight]
        by_cases q : n = 0
        · subst q; simp
        · rw [if_neg (by simpa using q)]
          exact Nat.le_of_lt ((Nat.log2_lt (by omega)).mp (Nat.lt_succ_self _))
      exact Nat.le_trans h1 (Nat.pow_le_pow_right (by decide) (by omega))
    · exact Nat.le_trans (abs_weight ns n h) (Nat.pow_le_pow_right (by decide) (by omega))
theorem bits_of {x : Int} {m : Nat} (h : x.natAbs < 2 ^ m) : Builtin.Int.intBits x ≤ m := by
  unfold Builtin.Int.intBits
  by_cases q : x = 0
  · rw [if_pos (by simp [q])]; omega
  · rw [if_neg (by simpa using q)]
    have := (Nat.log2_lt (by omega : x.natAbs ≠ 0)).mpr h
    omega
theorem co_bits {ns : List Int} {m : Nat} (hn : ns.length ≤ 63) (h : ∀ n ∈ ns, n.natAbs ≤ 2 ^ m) (z : Int) (h1 : 1 ≤ z) (h2 : z ≤ 1000) : Builtin.Int.intBits (z * coF ns) ≤ m + 17 := by
  refine bits_of ?_
  have a1 := nat_abs_sum (2 ^ m) (pickD ns (some ((3 : Nat) : Int)) none (some 6)) fun n hn => h n (pickD_mem hn)
  have a2 := pickD_len ns (some ((3 : Nat) : Int)) none (some 6)
  have a3 : (pickD ns (some ((3 : Nat) : Int)) none (some 6)).length * 2 ^ m ≤ 63 * 2 ^ m := Nat.mul_le_mul_right _ (by omega)
  have a4 : bs 3 = -3 := rfl
  have a5 : 1 ≤ 2 ^ m := Nat.pow_pos (by decide)
  have a6 : 2 ^ (m + 17) = 131072 * 2 ^ m := by rw [Nat.pow_add, Nat.mul_comm]
  rw [a6]
  have a7 : (coF ns).natAbs ≤ 66 * 2 ^ m := by
    unfold coF su sm
    rw [a4]
    generalize 2 ^ m = M at *
    split <;> omega
  rw [Int.natAbs_mul]
  have a8 : z.natAbs * (coF ns).natAbs ≤ 1000 * (66 * 2 ^ m) := Nat.mul_le_mul (by omega) a7
  generalize 2 ^ m = M at *
  omega
theorem reps_are {C : Addr} {g : Gt} {vs : List Value} {ns : List Int} (h : IntsAre vs ns) : Reps C g (ns.map .int) vs := by
  induction h with
  | nil => exact .mkN
  | cons n t _ ih => exact .mkC .mkI ih
theorem tab_at {w : World} {s : Shared} (y : obsOf s = obsX w) : (∀ t ∈ tabL, s.heap.get? t.P = some (tabObj #[])) ∧ TI s.heap := by
  have yt : (obsOf s).tabs = [some (tabObj #[]), some (tabObj #[]), some (tabObj #[])] := congrArg Obs.tabs y
  have k0 : s.heap.get? 31 = some (tabObj #[]) := Option.some.inj (obs_get yt 0)
  have k1 : s.heap.get? 59 = some (tabObj #[]) := Option.some.inj (obs_get yt 1)
  have k2 : s.heap.get? 66 = some (tabObj #[]) := Option.some.inj (obs_get yt 2)
  have hmem : ∀ t ∈ tabL, t.P = 31 ∨ t.P = 59 ∨ t.P = 66 := by decide
  have k : ∀ t ∈ tabL, s.heap.get? t.P = some (tabObj #[]) := fun t ht => by
    rcases hmem t ht with e | e | e <;> rw [e] <;> assumption
  refine ⟨k, fun t ht => ⟨#[], k t ht, trivial, .inl rfl⟩, fun a ha => ?_⟩
  simp only [tbs, List.mem_cons, List.not_mem_nil, or_false] at ha
  rcases ha with rfl | rfl | rfl
  · exact Heap.lt_size k0
  · exact Heap.lt_size k1
  · exact Heap.lt_size k2
/-- the call, from the start -/
theorem fin {w : World} {s₀ s₁ : Shared} {mg : Str → Option Value} {fa a : Addr} {vs : List Value} {ns : List Int} (y : obsOf s₀ = obsX w) (k : ∀ b o, s₀.heap.get? b = some o → s₁.heap.get? b = some o) (tk : s₀.toks ≤ s₁.toks)
    (hns : s₁.heap.Ns mainGlobals mg) (hmg : mg "law" = some (.ref fa)) (ho : s₁.heap.get? a = some { cls := .type "list", data := .seq vs.toArray }) (hsz : s₀.heap.objs.size ≤ a) (hi : IntsAre vs ns) (hlen : ns.length ≤ 63) (hw : WData.weightAll (ofPys (ns.map PyData.int)) ≤ 2 ^ 20) (hg : s₁.gens = #[]) :
    wpAny (model pw w) callerA (PySem.call (.ref fa) [.ref a]) (fun v s' => v = .bool true ∧ OldK s₁.heap s'.heap ∧ s'.os = s₁.os ∧ s'.gens = #[]) E0 s₁ := by
  have W := wld_ok y
  obtain ⟨hT, TI0⟩ := tab_at y
  have TI1 : TI s₁.heap := TI0.raw k
  have ok0 : s₀.heap.isNs mainGlobals = true := Option.some.inj (obs_get (congrArg Obs.oks y : (obsOf s₀).oks = List.replicate 13 true) 0)
  have ok12 : Nat.ble 1 s₀.toks = true := Option.some.inj (obs_get (congrArg Obs.oks y : (obsOf s₀).oks = List.replicate 13 true) 12)
  have hfa : fa = 215 := by
    have e1 := (Heap.Ns.of_isNs ok0).keeps k
    have e2 : mg = s₀.heap.nsMap mainGlobals := hns.eq_nsMap.trans e1.eq_nsMap.symm
    have e3 := W.law.g.1
    rw [e2] at hmg
    have e4 : s₀.heap.nsMap mainGlobals "law" = some (.ref 215) := e3
    rw [hmg] at e4
    injection e4 with e4
    injection e4
  have le : Le (mkX w s₀).h0.get? (gt s₁.heap) := fun b o e => by
    have e' : (gho s₀.heap).get? b = some o := e
    rw [gho_get] at e'
    exact (Rw.raw k).1 b o e'
  have at_ : a ∉ tbs := fun q => Nat.lt_irrefl _ (Nat.lt_of_lt_of_le (TI0.2 _ q) hsz)
  have C := ct_law W (ns := ns) (by omega) (fun z h1 h2 => by
    have := co_bits (m := 2 ^ 20) hlen (fun n hn => Nat.le_trans (abs_weight ns n hn) (Nat.pow_le_pow_right (by decide) hw)) z h1 h2
    have e : 2 ^ 20 = 1048576 := by decide
    omega)
  have hr : Reps (mkX w s₀).C (vis [] s₁.heap) [.seq false (ns.map .int)] [.ref a] := .mkC ⟨a, vs, rfl, ⟨_, 0, gt_of ho at_, rfl, rfl, rfl, rfl⟩, reps_are hi⟩ .mkN
  rw [hfa]
  refine wpAny_mono (C callerA s₁ [] [.ref a] [] ⟨rfl, by decide, by decide⟩ rfl (fun e he => nomatch he) le ⟨TI1, fun b hb => nomatch hb⟩ (Nat.le_trans (Nat.le_of_ble_eq_true ok12) tk) hr) (fun v s' h => ?_) fun _ _ e => e
  obtain ⟨kf, rv⟩ := h
  have TI2 := kf.ti TI1
  have old : ∀ b o, s₁.heap.get? b = some o → asItWas s₁.heap s'.heap b o ∧ ∃ o', s'.heap.get? b = some o' := fun b o e => by
    by_cases q : b ∈ tbs
    · have hmem : ∃ t ∈ tabL, t.P = b := by
        clear e rv hr; revert b; decide
      obtain ⟨t, ht, rfl⟩ := hmem
      have e0 := k _ _ (hT t ht)
      rw [e0] at e
      cases e
      obtain ⟨ps, e1, _⟩ := TI2.1 t ht
      have hcd : CodeHd s₁.heap t.c t.P := (W.W.cd t ht).keeps fun b o e => gt_get (le b o e)
      refine ⟨.inr (.inl ⟨(hcd.tab e0).isCodeTable, rfl, #[], ps, rfl, ?_⟩), _, e1⟩
      rw [e1, Array.empty_append]
    · have := gt_get (kf.st b o (gt_of e q) fun z => nomatch z)
      exact ⟨.inl this, o, this⟩
  obtain ⟨h', t', d', e'⟩ := kf.sh
  refine ⟨rv.boolI, ⟨fun b o e => (old b o e).1, fun b o e => (old b o e).2⟩, by rw [e'], by rw [e']; exact hg⟩
theorem walk : WalkX qv looseL (fun _ _ => True) obsOf obsX PySem.Challenge.rw_sc0111_01.row.toRowW dL [] (fun f vs => PySem.call f vs) := by
  intro w s₀ s₁ mg mb G Y fa o pm cd doc dV kV ho hd hcd hD hmg hg args vals as L hpre hlay hrd hwl hlo
  have hmg : mg "law" = some (.ref fa) := hmg
  have hns : s₁.heap.Ns mainGlobals mg := G.T.g
  clear hd hcd hD ho G
  have hs0 := hlay
  wrow_args hpre hlay hrd hwl hlo
  rename_i ns _ _ _ _ _ as1 as2 a vs as3 hL ra w1 r0 hI hr2 hc1 hc2
  have ho := X.script_obj L hL
  have hat := X.script_at L
  have htk := X.script_toks L rfl
  have hw : WData.weightAll (ofPys (ns.map PyData.int)) ≤ 2 ^ 20 := by
    have h1 : (ofPy (PyData.list (ns.map PyData.int))).layable = true := (layW_cons hs0).1
    unfold WData.layable at h1
    simp only [Bool.and_eq_true, decide_eq_true_eq] at h1
    have h2 := h1.2
    rw [ofPy, WData.weight] at h2
    exact h2
  refine wpAny_mono (fin Y L.keeps htk hns hmg ho (Nat.le_of_eq hat.1.symm) hI (by omega) hw hg) (fun v s' h => ?_) fun _ _ e => e.elim
  obtain ⟨rfl, hO, hos, hgs⟩ := h
  exact ⟨.inl ⟨_, .bool true, [], rfl, fun _ => rfl, .bool true, by wrow_post, fun _ => ⟨List.nodup_nil, fun b hb => nomatch hb⟩⟩, hO, hos, .of_eq hgs⟩
end Mine
end

section
open PySem PySem.W PyProof.Rows
set_option Elab.async false
set_option maxRecDepth 100000
set_option maxRecDepth 100000 in
set_option maxHeartbeats 0 in
theorem PySem.Challenge.cw_sc0111_01_holds : PySem.Challenge.rw_sc0111_01.Holds := by
  w_on
  refine holds_law Mine.well_said fun said => ?_
  refine holds_openX (q := Mine.qv) (loose := Mine.looseL) (Xt := fun _ => true) (XP := fun _ _ => True) (Yf := Mine.obsOf) (Ya := Mine.obsX) (d := Mine.dL) (kwd := []) (N := 3000) Mine.left (fun _ _ => trivial) (fun _ _ _ _ _ => trivial) (by rfl) (by rfl) (by rfl) (fun s _ => recFacts_nil rfl) (by rfl) (by first | assumption | decide +kernel) (by decide +kernel) ⟨rfl, rfl, rfl, rfl, rfl, Mine.tab_whole⟩ ?hw Mine.walk
  case hw => w_witness2
#print axioms PySem.Challenge.cw_sc0111_01_holds
end
