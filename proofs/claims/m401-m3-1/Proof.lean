import JvmDerived
import JvmDerived.Pilot.@@N@@Statement
import JvmDerived.Pilot.@@N@@Code
set_option linter.unusedVariables false
set_option linter.unusedSimpArgs false
@@BLOCK:NumsL.lean.txt@@
namespace Jvm.Pilot.@@N@@
open Jvm Jvm.ClassFile Sem Op Lib Jvm.Free Jvm.Stand Jvm.LawKit Jvm.RoadKit Bundle Jvm.Pilot.@@N@@.Jvm.D
/-! ## A. The run goes on: a walk in steps, its end left open -/
section Base
variable {p : Program} {l : Launch} {e : Env} {R : Room} {s : State} {m : MethodId} {args : Array Value} {below : List Frame} {meth : Method} {c : Code} {T T' : State} {locs : List Loc} {cells slots : Nat} {Z : State} {a0 : Array Value} {F : State → Prop} {g g' : JFrame} {n0 : Nat} {h h' : Heap} {a b : Addr} {C n d : String} {v w : Value} {sl : Nat}
/-- the run from T with the frame g on top comes to a state of which F holds -/
def Rn (p : Program) (e : Env) (below : List Frame) (F : State → Prop) (T : State) (g : JFrame) : Prop := ∃ U, Steps p.tables e below (T.setTop g) U ∧ F U
theorem Rn.go (st : ∀ t, Steps p.tables e below (T'.setTop g') t → Steps p.tables e below (T.setTop g) t) (k : Rn p e below F T' g') : Rn p e below F T g := by
  obtain ⟨U, h1, h2⟩ := k; exact ⟨U, st _ h1, h2⟩
theorem Rn.to (st : Steps p.tables e below (T.setTop g) (T'.setTop g')) (k : Rn p e below F T' g') : Rn p e below F T g := by
  obtain ⟨U, h1, h2⟩ := k; exact ⟨U, st.trans h1, h2⟩
theorem own_lcW (x y : Int64) : lcmpW x y = if x > y then 1 else if x = y then 0 else -1 := rfl
theorem own_nat (x : Int32) : x.toNatClampNeg = x.toInt.toNat := rfl
theorem own_remI {x y : Int32} {k : Int} (hy : y.toInt = k) (hx : 0 ≤ x.toInt) : (x % y).toInt = x.toInt % k := by rw [Jvm.Kit.i32_rem_nonneg hx, hy]
theorem own_irem {g : JFrame} {target : State} (h : At T m c below) (hx : p.tables.exec = Jvm.exec) (hg : g.method = m) {x y : Int32} {rest : List Value} (hd : decode c.code g.pc = .ok (.irem, 1)) (hs : g.stack = .int y :: .int x :: rest) (hy : y ≠ 0)
    (hr : Steps p.tables e below (T.setTop { g with pc := g.pc + 1, stack := .int (x % y) :: rest }) target) : Steps p.tables e below (T.setTop g) target := by
  have q : x - x / y * y = x % y := irem_eq_mod x y
  exact XS.irem h hx hg hd hs hy (by rw [q]; exact hr)
/-! ## B. What the heap holds: a list of the objects and arrays that the law has made -/
abbrev Itm : Type := (String × List (String × String × Value)) ⊕ (FieldType × Int32 × List Value)
abbrev ob (a : Addr) (C : String) (fs : List (String × String × Value)) : Addr × Itm := (a, .inl (C, fs))
abbrev ar (a : Addr) (ty : FieldType) (n : Int32) (vs : List Value) : Addr × Itm := (a, .inr (ty, n, vs))
abbrev ari (a : Addr) (ty : FieldType) (n : Int32) (xs : List Int32) : Addr × Itm := ar a ty n (xs.map Value.int)
abbrev arj (a : Addr) (n : Int32) (xs : List Int64) : Addr × Itm := ar a .long n (xs.map Value.long)
def Obj (Z : State) (h : Heap) (a : Addr) (C : String) (fs : List (String × String × Value)) : Prop := Exa Z h a C ∧ (∀ f ∈ fs, Fld Z h a C f.1 f.2.1 f.2.2) ∧ (fs.map fun f => Jvm.RoadKit.slotOf Z C f.1 f.2.1).Nodup
def Ary (Z : State) (h : Heap) (a : Addr) (ty : FieldType) (n : Int32) (vs : List Value) : Prop := (∃ k, Arv Z h a k ty n vs (defaultValue ty) ∧ ∀ C, ty = .object C → Ovr Z k C) ∧ vs.length = n.toNatClampNeg
def itm (Z : State) (h : Heap) (x : Addr × Itm) : Prop := match x.2 with
  | .inl o => Obj Z h x.1 o.1 o.2
  | .inr o => Ary Z h x.1 o.1 o.2.1 o.2.2
/-- made by the law, or an array of no places (which nobody can write) -/
def Frs (n0 : Nat) (x : Addr × Itm) : Prop := n0 ≤ x.1 ∨ ∃ ty n, x.2 = .inr (ty, n, [])
def Hp (Z : State) (n0 : Nat) (h : Heap) (D : List (Addr × Itm)) : Prop := Old Z n0 h ∧ (∀ x ∈ D, Frs n0 x ∧ itm Z h x) ∧ (D.map (·.1)).Nodup
variable {fs : List (String × String × Value)} {vs : List Value} {ty : FieldType} {z : Int32} {x : Addr × Itm} {D : List (Addr × Itm)} {I J : Itm} {i j : Nat}
theorem map_same {α β : Type} (f : α → β) (L : List α) (i : Nat) (x y : α) (h : L[i]? = some x) (q : f y = f x) : (L.set i y).map f = L.map f := by
  apply List.ext_getElem?
  intro k
  rw [List.getElem?_map, List.getElem?_map, List.getElem?_set]
  by_cases e : i = k
  · subst e
    rw [if_pos rfl, if_pos (List.getElem?_eq_some_iff.mp h).1, h]; simp [q]
  · rw [if_neg e]
theorem Obj.lt (O : Obj Z h a C fs) : a < h.size := O.1.lt
theorem Ary.lt (O : Ary Z h a ty z vs) : a < h.size := by obtain ⟨⟨k, V, -⟩, -⟩ := O; exact V.lt
theorem itm.lt (O : itm Z h x) : x.1 < h.size := by
  obtain ⟨a, I⟩ := x
  cases I with
  | inl o => exact Obj.lt (show Obj Z h a o.1 o.2 from O)
  | inr o => exact Ary.lt (show Ary Z h a o.1 o.2.1 o.2.2 from O)
theorem itm.ext (E : Ext h h') (O : itm Z h x) : itm Z h' x := by
  obtain ⟨a, I⟩ := x
  cases I with
  | inl o =>
    have O' : Obj Z h a o.1 o.2 := O
    exact (show Obj Z h' a o.1 o.2 from ⟨O'.1.ext E, fun f hf => (O'.2.1 f hf).ext E, O'.2.2⟩)
  | inr o =>
    have O' : Ary Z h a o.1 o.2.1 o.2.2 := O
    obtain ⟨⟨k, V, u⟩, q⟩ := O'
    exact (show Ary Z h' a o.1 o.2.1 o.2.2 from ⟨⟨k, V.ext E, u⟩, q⟩)
theorem itm.other (W : Wr h h' b sl v) (q : x.1 ≠ b) (O : itm Z h x) : itm Z h' x := by
  obtain ⟨a, I⟩ := x
  cases I with
  | inl o =>
    have O' : Obj Z h a o.1 o.2 := O
    exact (show Obj Z h' a o.1 o.2 from ⟨O'.1.wr W, fun f hf => (O'.2.1 f hf).other W (Or.inl q), O'.2.2⟩)
  | inr o =>
    have O' : Ary Z h a o.1 o.2.1 o.2.2 := O
    obtain ⟨⟨k, V, u⟩, r⟩ := O'
    exact (show Ary Z h' a o.1 o.2.1 o.2.2 from ⟨⟨k, V.other W q, u⟩, r⟩)
theorem Obj.put (hj : fs[j]? = some (n, d, w)) (W : Wr h h' a (Jvm.RoadKit.slotOf Z C n d) v) (O : Obj Z h a C fs) : Obj Z h' a C (fs.set j (n, d, v)) := by
  have hjl : j < fs.length := (List.getElem?_eq_some_iff.mp hj).1
  refine ⟨O.1.wr W, fun f hf => ?_, ?_⟩
  · obtain ⟨i, hi⟩ := List.mem_iff_getElem?.mp hf
    by_cases e : j = i
    · subst e
      rw [List.getElem?_set_self hjl] at hi
      cases hi
      exact (O.2.1 _ (List.mem_of_getElem? hj)).same W
    · rw [List.getElem?_set_ne e] at hi
      refine (O.2.1 f (List.mem_of_getElem? hi)).other W (Or.inr fun q => e ?_)
      have hil : i < fs.length := (List.getElem?_eq_some_iff.mp hi).1
      refine ((List.getElem?_inj (i := i) (j := j) (by simpa using hil) O.2.2).mp ?_).symm
      rw [List.getElem?_map, List.getElem?_map, hi, hj]
      simp [q]
  · rw [map_same _ fs j (n, d, w) (n, d, v) hj rfl]; exact O.2.2
theorem Ary.put {k : Int32} (hk : ¬ k < 0) (hl : k.toNatClampNeg < vs.length) (hv : fits ty v = true) (W : Wr h h' a k.toNatClampNeg v) (O : Ary Z h a ty z vs) : Ary Z h' a ty z (vs.set k.toNatClampNeg v) := by
  obtain ⟨⟨kc, ⟨cl, A, q1, S, q3, H, G⟩, u⟩, q⟩ := O
  exact ⟨⟨kc, Arv.set A q1 S q3 H G hv W _ rfl hl, u⟩, by rw [List.length_set]; exact q⟩
theorem Frs.obj (q : Frs n0 (ob a C fs)) : n0 ≤ a := q.elim id fun ⟨_, _, r⟩ => by cases r
theorem Frs.arr {k : Nat} (q : Frs n0 (ar a ty z vs)) (hl : k < vs.length) : n0 ≤ a := q.elim id fun ⟨_, _, r⟩ => by cases r; cases hl
theorem Hp.get (H : Hp Z n0 h D) (hi : D[i]? = some x) : Frs n0 x ∧ itm Z h x := H.2.1 _ (List.mem_of_getElem? hi)
theorem Hp.obj (H : Hp Z n0 h D) (hi : D[i]? = some (ob a C fs)) : Obj Z h a C fs := (H.get hi).2
theorem Hp.ary (H : Hp Z n0 h D) (hi : D[i]? = some (ar a ty z vs)) : Ary Z h a ty z vs := (H.get hi).2
theorem Hp.fld (H : Hp Z n0 h D) (hi : D[i]? = some (ob a C fs)) (hj : fs[j]? = some (n, d, v)) : Fld Z h a C n d v := (H.obj hi).2.1 _ (List.mem_of_getElem? hj)
theorem Hp.exa (H : Hp Z n0 h D) (hi : D[i]? = some (ob a C fs)) : Exa Z h a C := (H.obj hi).1
theorem Hp.upd (H : Hp Z n0 h D) (hi : D[i]? = some (a, I)) (hfr : n0 ≤ a) (W : Wr h h' a sl v) (q : itm Z h (a, I) → itm Z h' (a, J)) : Hp Z n0 h' (D.set i (a, J)) := by
  have hil : i < D.length := (List.getElem?_eq_some_iff.mp hi).1
  refine ⟨H.1.wr W hfr, fun x hx => ?_, ?_⟩
  · obtain ⟨k, hk⟩ := List.mem_iff_getElem?.mp hx
    by_cases e : i = k
    · subst e
      rw [List.getElem?_set_self hil] at hk
      cases hk
      exact ⟨Or.inl hfr, q (H.get hi).2⟩
    · rw [List.getElem?_set_ne e] at hk
      refine ⟨(H.get hk).1, (H.get hk).2.other W fun r => e ?_⟩
      refine (List.getElem?_inj (i := i) (j := k) (by simpa using hil) H.2.2).mp ?_
      rw [List.getElem?_map, List.getElem?_map, hi, hk]
      simp [r]
  · rw [map_same _ D i (a, I) (a, J) hi rfl]; exact H.2.2
theorem Hp.new (H : Hp Z n0 h D) (E : Ext h h') (q : itm Z h' (h.size, I)) : Hp Z n0 h' (D ++ [(h.size, I)]) := by
  have hsz : n0 ≤ h.size := by rw [← H.1.1]; exact H.1.2.1
  refine ⟨H.1.ext E, fun x hx => ?_, ?_⟩
  · rcases List.mem_append.mp hx with r | r
    · exact ⟨(H.2.1 x r).1, (H.2.1 x r).2.ext E⟩
    · cases List.mem_singleton.mp r; exact ⟨Or.inl hsz, q⟩
  · rw [List.map_append, List.nodup_append]
    refine ⟨H.2.2, by simp, fun y hy z hz => ?_⟩
    obtain ⟨x, hx, rfl⟩ := List.mem_map.mp hy
    have : z = h.size := by simpa using hz
    rw [this]
    exact Nat.ne_of_lt (H.2.1 x hx).2.lt
theorem Hp.nil (Z : State) : Hp Z Z.heap.size Z.heap [] := ⟨Old.start Z, (fun _ q => by cases q), List.nodup_nil⟩
theorem Hp.ext (H : Hp Z n0 h D) (E : Ext h h') : Hp Z n0 h' D := ⟨H.1.ext E, fun x hx => ⟨(H.2.1 x hx).1, (H.2.1 x hx).2.ext E⟩, H.2.2⟩
/-- a walk stands at T, has made so many cells and slots, has written nothing old, and its heap holds D -/
def On (p : Program) (l : Launch) (e : Env) (R : Room) (s : State) (m : MethodId) (args : Array Value) (below : List Frame) (meth : Method) (c : Code) (Z : State) (n0 : Nat) (T : State) (cells slots : Nat) (D : List (Addr × Itm)) : Prop := ∃ locs, Stand p l e R s m args below meth c T locs cells slots ∧ Fr n0 locs ∧ Hp Z n0 T.heap D
theorem On.here (Y : On p l e R s m args below meth c Z n0 T cells slots D) : At T m c below := by obtain ⟨_, X, -⟩ := Y; exact X.here
/-- what is known of the heap may be forgotten -/
theorem On.weak {D D' : List (Addr × Itm)} (Y : On p l e R s m args below meth c Z n0 T cells slots D) (q : D'.Sublist D) : On p l e R s m args below meth c Z n0 T cells slots D' := by
  obtain ⟨locs, X, N, H⟩ := Y
  exact ⟨locs, X, N, H.1, fun x hx => H.2.1 x (q.subset hx), H.2.2.sublist (q.map _)⟩
/-! ## C. One law a step -/
theorem On.getf (Y : On p l e R s m args below meth c Z n0 T cells slots D) (hx : p.tables.exec = Jvm.exec) (hZ : Z.Warmed39 s.vm) {own : String} {index : Nat} (hown : s.vm.findClass own = some m.cls) (w : (Cond.fieldLink own index C n d).before a0 Z = true) (hi : D[i]? = some (ob a C fs)) (hj : fs[j]? = some (n, d, v))
    {g : JFrame} (hg : g.method = m) {rest : List Value} (hs : g.stack = .ref a :: rest) (hd : decode c.code g.pc = .ok (.getfield index, 3)) (k : ∀ T', On p l e R s m args below meth c Z n0 T' cells slots D → Rn p e below F T' { g with pc := g.pc + 3, stack := v :: rest }) : Rn p e below F T g := by
  obtain ⟨locs, X, N, H⟩ := Y
  obtain ⟨T', X', e', st⟩ := getF X hx hZ hown (host := "") (Or.inl w) Via.refl rfl (H.fld hi hj) hg hs hd
  exact Rn.go st (k T' ⟨locs, X', N, by rw [e']; exact H⟩)
theorem On.putf (Y : On p l e R s m args below meth c Z n0 T cells slots D) (hx : p.tables.exec = Jvm.exec) (hZ : Z.Warmed39 s.vm) {own : String} {index kk : Nat} (hown : s.vm.findClass own = some m.cls) (wl : (Cond.fieldLink own index C n d).before a0 Z = true) (hi : D[i]? = some (ob a C fs)) (hj : fs[j]? = some (n, d, w))
    (L : (Cond.lays C C n d).before a0 Z = true ∨ ((Cond.laysFinal C C n d).before a0 Z = true ∧ own = C ∧ meth.name = "<init>")) (wi : (Cond.instantiable C kk).before a0 Z = true) (hty : parseFieldDescriptor d = some ty) {v v' : Value} (hn : narrow ty v = v') (hf : fits ty v' = true)
    {g : JFrame} (hg : g.method = m) {rest : List Value} (hs : g.stack = v :: .ref a :: rest) (hd : decode c.code g.pc = .ok (.putfield index, 3)) (k : ∀ T', On p l e R s m args below meth c Z n0 T' cells slots (D.set i (ob a C (fs.set j (n, d, v')))) → Rn p e below F T' { g with pc := g.pc + 3, stack := rest }) : Rn p e below F T g := by
  obtain ⟨locs, X, N, H⟩ := Y
  obtain ⟨T', h', X', e', W, st⟩ := putFN X hx hZ hown wl Via.refl rfl (H.fld hi hj) (H.exa hi) L wi hty hn hf hg hs hd
  have hfr := (H.get hi).1.obj
  refine Rn.go st (k T' ⟨_, X', Fr.snoc X' N hfr, ?_⟩)
  rw [e']
  exact H.upd hi hfr W fun O => Obj.put hj W O
theorem On.newo (Y : On p l e R s m args below meth c Z n0 T cells slots D) (hx : p.tables.exec = Jvm.exec) (hZ : Z.Warmed39 s.vm) {own : String} {index k : Nat} (hown : s.vm.findClass own = some m.cls) (w : (Cond.classLink own index C).before a0 Z = true) (wi : (Cond.instantiable C k).before a0 Z = true) (wz : (Cond.initialized C).before a0 Z = true)
    (fs : List (String × String × Value)) (hl : ∀ f ∈ fs, Laid Z a0 C C f.1 f.2.1 ∧ ∃ ty, parseFieldDescriptor f.2.1 = some ty ∧ f.2.2 = defaultValue ty) (hn : (fs.map (·.1)).Nodup)
    {g : JFrame} (hg : g.method = m) (hd : decode c.code g.pc = .ok (.new index, 3)) (hc : cells + 1 ≤ R.cells) (hs : slots + k ≤ R.slots)
    (kk : ∀ T' a, On p l e R s m args below meth c Z n0 T' (cells + 1) (slots + k) (D ++ [ob a C fs]) → Rn p e below F T' { g with pc := g.pc + 3, stack := .ref a :: g.stack }) : Rn p e below F T g := by
  obtain ⟨locs, X, N, H⟩ := Y
  obtain ⟨T', h', X', e', E, A, Df, -, st⟩ := newO X hx hZ hown w wi wz rfl hg hd hc hs
  refine Rn.go st (kk T' _ ⟨_, X', N, ?_⟩)
  rw [e']
  refine H.new E (show Obj Z h' _ C fs from ⟨A, fun f hf => ?_, ?_⟩)
  · obtain ⟨L, ty, h1, h2⟩ := hl f hf
    rw [h2]; exact Df L h1
  · rw [List.nodup_iff_pairwise_ne, List.pairwise_map] at hn ⊢
    refine List.Pairwise.imp_of_mem (fun {x y} hx hy q => ?_) hn
    obtain ⟨L, ty, h1, -⟩ := hl x hx
    obtain ⟨L', ty', h1', -⟩ := hl y hy
    exact slot_ne L L' q h1 h1'
theorem On.newp (Y : On p l e R s m args below meth c Z n0 T cells slots D) (hx : p.tables.exec = Jvm.exec) (hZ : Z.Warmed39 s.vm) {aty : ArrayType} (w : (Cond.arrayClass (newarray.typeOf aty)).before a0 Z = true) {g : JFrame} (hg : g.method = m) (hd : decode c.code g.pc = .ok (.newarray aty, 2)) {z : Int32} {rest : List Value} (hs : g.stack = .int z :: rest)
    (hn : ¬ z < 0) {cap N : Nat} (hN : z.toNatClampNeg = N) (hcap : N ≤ cap) (hb : cap * 8 ≤ 536870912) (hc : cells + 1 ≤ R.cells) (hl : slots + cap ≤ R.slots) {dv : Value} (hdv : defaultValue (newarray.typeOf aty) = dv)
    (k : ∀ T' a, On p l e R s m args below meth c Z n0 T' (cells + 1) (slots + cap) (D ++ [ar a (newarray.typeOf aty) z (List.replicate N dv)]) → Rn p e below F T' { g with pc := g.pc + 2, stack := .ref a :: rest }) : Rn p e below F T g := by
  obtain ⟨locs, X, Nl, H⟩ := Y
  subst hN hdv
  obtain ⟨T', h', cA, X', e', E, A, st⟩ := newP X hx hZ w rfl hg hd hs hn hcap hb hc hl
  refine Rn.go st (k T' _ ⟨_, X', Nl, ?_⟩)
  rw [e']
  exact H.new E (show Ary Z h' _ _ z _ from ⟨⟨_, (Arv.new A hn).pad (pad_rep [] _ _), fun C hC => by cases aty <;> cases hC⟩, by simp⟩)
theorem On.newr (Y : On p l e R s m args below meth c Z n0 T cells slots D) (hx : p.tables.exec = Jvm.exec) (hZ : Z.Warmed39 s.vm) {own : String} {index : Nat} (hown : s.vm.findClass own = some m.cls) (w1 : (Cond.classLink own index C).before a0 Z = true) (w2 : (Cond.arrayOver (.object C)).before a0 Z = true) {g : JFrame} (hg : g.method = m) (hd : decode c.code g.pc = .ok (.anewarray index, 3)) {z : Int32} {rest : List Value} (hs : g.stack = .int z :: rest)
    (hn : ¬ z < 0) {cap N : Nat} (hN : z.toNatClampNeg = N) (hcap : N ≤ cap) (hb : cap * 8 ≤ 536870912) (hc : cells + 1 ≤ R.cells) (hl : slots + cap ≤ R.slots)
    (k : ∀ T' a, On p l e R s m args below meth c Z n0 T' (cells + 1) (slots + cap) (D ++ [ar a (.object C) z (List.replicate N .null)]) → Rn p e below F T' { g with pc := g.pc + 3, stack := .ref a :: rest }) : Rn p e below F T g := by
  obtain ⟨locs, X, Nl, H⟩ := Y
  subst hN
  obtain ⟨T', h', cA, X', e', E, A, O, st⟩ := newR X hx hZ hown w1 w2 rfl hg hd hs hn hcap hb hc hl
  refine Rn.go st (k T' _ ⟨_, X', Nl, ?_⟩)
  rw [e']
  exact H.new E (show Ary Z h' _ _ z _ from ⟨⟨_, (Arv.new A hn).pad (pad_rep [] _ _), fun C' hC => by cases hC; exact O⟩, by simp⟩)
theorem On.isto (Y : On p l e R s m args below meth c Z n0 T cells slots D) (hx : p.tables.exec = Jvm.exec) (hZ : Z.Warmed39 s.vm) {xs : List Int32} (hi : D[i]? = some (ari a .int z xs)) {k x : Int32} (hk : ¬ k < 0) (hl : k.toNatClampNeg < xs.length)
    {g : JFrame} (hg : g.method = m) {rest : List Value} (hs : g.stack = .int x :: .int k :: .ref a :: rest) (hd : decode c.code g.pc = .ok (.iastore, 1))
    (kk : ∀ T', On p l e R s m args below meth c Z n0 T' cells slots (D.set i (ari a .int z (xs.set k.toNatClampNeg x))) → Rn p e below F T' { g with pc := g.pc + 1, stack := rest }) : Rn p e below F T g := by
  obtain ⟨locs, X, N, H⟩ := Y
  obtain ⟨⟨kc, ⟨cl, A, q1, S, q3, Hh, G⟩, -⟩, q⟩ := H.ary hi
  have hl' : k.toNatClampNeg < (xs.map Value.int).length := by simpa using hl
  obtain ⟨T', h', X', e', W, st⟩ := stI X hx hZ rfl A (fun r => r.elim hk fun r => absurd hl' (by rw [q, ← S]; exact Nat.not_lt.mpr r)) hg hs hd
  have hfr := (H.get hi).1.arr hl'
  refine Rn.go st (kk T' ⟨_, X', Fr.snoc X' N hfr, ?_⟩)
  rw [e']
  refine H.upd hi hfr W fun O => ?_
  have := Ary.put hk hl' rfl W O
  rw [← List.map_set] at this
  exact this
theorem On.bsto (Y : On p l e R s m args below meth c Z n0 T cells slots D) (hx : p.tables.exec = Jvm.exec) (hZ : Z.Warmed39 s.vm) {xs : List Int32} (hi : D[i]? = some (ari a .byte z xs)) {k x : Int32} (hk : ¬ k < 0) (hl : k.toNatClampNeg < xs.length)
    {g : JFrame} (hg : g.method = m) {rest : List Value} (hs : g.stack = .int x :: .int k :: .ref a :: rest) (hd : decode c.code g.pc = .ok (.bastore, 1))
    (kk : ∀ T', On p l e R s m args below meth c Z n0 T' cells slots (D.set i (ari a .byte z (xs.set k.toNatClampNeg x.toInt8.toInt32))) → Rn p e below F T' { g with pc := g.pc + 1, stack := rest }) : Rn p e below F T g := by
  obtain ⟨locs, X, N, H⟩ := Y
  obtain ⟨⟨kc, ⟨cl, A, q1, S, q3, Hh, G⟩, -⟩, q⟩ := H.ary hi
  have hl' : k.toNatClampNeg < (xs.map Value.int).length := by simpa using hl
  obtain ⟨T', h', X', e', W, st⟩ := stB X hx hZ rfl A (fun r => r.elim hk fun r => absurd hl' (by rw [q, ← S]; exact Nat.not_lt.mpr r)) hg hs hd
  have hfr := (H.get hi).1.arr hl'
  refine Rn.go st (kk T' ⟨_, X', Fr.snoc X' N hfr, ?_⟩)
  rw [e']
  refine H.upd hi hfr W fun O => ?_
  have := Ary.put hk hl' (fits_nar_byte _) W O
  rw [← List.map_set] at this
  exact this
theorem On.zsto (Y : On p l e R s m args below meth c Z n0 T cells slots D) (hx : p.tables.exec = Jvm.exec) (hZ : Z.Warmed39 s.vm) {xs : List Int32} (hi : D[i]? = some (ari a .boolean z xs)) {k x : Int32} (hk : ¬ k < 0) (hl : k.toNatClampNeg < xs.length)
    {g : JFrame} (hg : g.method = m) {rest : List Value} (hs : g.stack = .int x :: .int k :: .ref a :: rest) (hd : decode c.code g.pc = .ok (.bastore, 1))
    (kk : ∀ T', On p l e R s m args below meth c Z n0 T' cells slots (D.set i (ari a .boolean z (xs.set k.toNatClampNeg (x &&& 1)))) → Rn p e below F T' { g with pc := g.pc + 1, stack := rest }) : Rn p e below F T g := by
  obtain ⟨locs, X, N, H⟩ := Y
  obtain ⟨⟨kc, ⟨cl, A, q1, S, q3, Hh, G⟩, -⟩, q⟩ := H.ary hi
  have hl' : k.toNatClampNeg < (xs.map Value.int).length := by simpa using hl
  obtain ⟨T', h', X', e', W, st⟩ := stZ X hx hZ rfl A (fun r => r.elim hk fun r => absurd hl' (by rw [q, ← S]; exact Nat.not_lt.mpr r)) hg hs hd
  have hfr := (H.get hi).1.arr hl'
  refine Rn.go st (kk T' ⟨_, X', Fr.snoc X' N hfr, ?_⟩)
  rw [e']
  refine H.upd hi hfr W fun O => ?_
  have := Ary.put hk hl' (fits_nar_bool _) W O
  rw [← List.map_set] at this
  exact this
theorem On.jsto (Y : On p l e R s m args below meth c Z n0 T cells slots D) (hx : p.tables.exec = Jvm.exec) (hZ : Z.Warmed39 s.vm) {xs : List Int64} (hi : D[i]? = some (arj a z xs)) {k : Int32} {x : Int64} (hk : ¬ k < 0) (hl : k.toNatClampNeg < xs.length)
    {g : JFrame} (hg : g.method = m) {rest : List Value} (hs : g.stack = .long x :: .int k :: .ref a :: rest) (hd : decode c.code g.pc = .ok (.lastore, 1))
    (kk : ∀ T', On p l e R s m args below meth c Z n0 T' cells slots (D.set i (arj a z (xs.set k.toNatClampNeg x))) → Rn p e below F T' { g with pc := g.pc + 1, stack := rest }) : Rn p e below F T g := by
  obtain ⟨locs, X, N, H⟩ := Y
  obtain ⟨⟨kc, ⟨cl, A, q1, S, q3, Hh, G⟩, -⟩, q⟩ := H.ary hi
  have hl' : k.toNatClampNeg < (xs.map Value.long).length := by simpa using hl
  obtain ⟨T', h', X', e', W, st⟩ := stJ X hx hZ rfl A (fun r => r.elim hk fun r => absurd hl' (by rw [q, ← S]; exact Nat.not_lt.mpr r)) hg hs hd
  have hfr := (H.get hi).1.arr hl'
  refine Rn.go st (kk T' ⟨_, X', Fr.snoc X' N hfr, ?_⟩)
  rw [e']
  refine H.upd hi hfr W fun O => ?_
  have := Ary.put hk hl' rfl W O
  rw [← List.map_set] at this
  exact this
/-- the cell of an array, opened for a load -/
theorem Ary.at (O : Ary Z h a ty z vs) {k : Int32} (hk : ¬ k < 0) (hv : vs[k.toNatClampNeg]? = some v) : ∃ cl, Arr Z h a cl ty ∧ ¬ (k < 0 ∨ cl.slots.size ≤ k.toNatClampNeg) ∧ cl.slots[k.toNatClampNeg]? = some v := by
  obtain ⟨⟨kc, ⟨cl, A, q1, S, q3, H, G⟩, -⟩, q⟩ := O
  have hl := (List.getElem?_eq_some_iff.mp hv).1
  have hl2 : k.toNatClampNeg < cl.slots.size := by rw [S, ← q]; exact hl
  exact ⟨cl, A, fun r => r.elim hk (Nat.not_le.mpr hl2), by rw [H _ hl2, List.getD_eq_getElem?_getD, hv]; rfl⟩
theorem On.ild (Y : On p l e R s m args below meth c Z n0 T cells slots D) (hx : p.tables.exec = Jvm.exec) (hZ : Z.Warmed39 s.vm) {xs : List Int32} (hi : D[i]? = some (ari a .int z xs)) {k x : Int32} (hk : ¬ k < 0) (hv : xs[k.toNatClampNeg]? = some x)
    {g : JFrame} (hg : g.method = m) {rest : List Value} (hs : g.stack = .int k :: .ref a :: rest) (hd : decode c.code g.pc = .ok (.iaload, 1))
    (kk : Rn p e below F T { g with pc := g.pc + 1, stack := .int x :: rest }) : Rn p e below F T g := by
  obtain ⟨locs, X, N, H⟩ := Y
  obtain ⟨cl, A, h1, h2⟩ := (H.ary hi).at (v := .int x) hk (by simp [List.getElem?_map, hv])
  exact Rn.go (fun t kt => X.iaload hx A.1 (State.isArrayOf_alike hZ.alike A.2.1) A.2.2 h1 h2 hg hs hd t kt) kk
theorem On.bld (Y : On p l e R s m args below meth c Z n0 T cells slots D) (hx : p.tables.exec = Jvm.exec) (hZ : Z.Warmed39 s.vm) {xs : List Int32} (hi : D[i]? = some (ari a .byte z xs)) {k x : Int32} (hk : ¬ k < 0) (hv : xs[k.toNatClampNeg]? = some x)
    {g : JFrame} (hg : g.method = m) {rest : List Value} (hs : g.stack = .int k :: .ref a :: rest) (hd : decode c.code g.pc = .ok (.baload, 1))
    (kk : Rn p e below F T { g with pc := g.pc + 1, stack := .int x :: rest }) : Rn p e below F T g := by
  obtain ⟨locs, X, N, H⟩ := Y
  obtain ⟨cl, A, h1, h2⟩ := (H.ary hi).at (v := .int x) hk (by simp [List.getElem?_map, hv])
  exact Rn.go (fun t kt => X.baloadBytes hx A.1 (State.isArrayOf_alike hZ.alike A.2.1) A.2.2 h1 h2 hg hs hd t kt) kk
theorem On.zld (Y : On p l e R s m args below meth c Z n0 T cells slots D) (hx : p.tables.exec = Jvm.exec) (hZ : Z.Warmed39 s.vm) {xs : List Int32} (hi : D[i]? = some (ari a .boolean z xs)) {k x : Int32} (hk : ¬ k < 0) (hv : xs[k.toNatClampNeg]? = some x)
    {g : JFrame} (hg : g.method = m) {rest : List Value} (hs : g.stack = .int k :: .ref a :: rest) (hd : decode c.code g.pc = .ok (.baload, 1))
    (kk : Rn p e below F T { g with pc := g.pc + 1, stack := .int x :: rest }) : Rn p e below F T g := by
  obtain ⟨locs, X, N, H⟩ := Y
  obtain ⟨cl, A, h1, h2⟩ := (H.ary hi).at (v := .int x) hk (by simp [List.getElem?_map, hv])
  exact Rn.go (fun t kt => X.baloadBooleans hx A.1 (State.isArrayOf_alike hZ.alike A.2.1) A.2.2 h1 h2 hg hs hd t kt) kk
theorem On.jld (Y : On p l e R s m args below meth c Z n0 T cells slots D) (hx : p.tables.exec = Jvm.exec) (hZ : Z.Warmed39 s.vm) {xs : List Int64} (hi : D[i]? = some (arj a z xs)) {k : Int32} {x : Int64} (hk : ¬ k < 0) (hv : xs[k.toNatClampNeg]? = some x)
    {g : JFrame} (hg : g.method = m) {rest : List Value} (hs : g.stack = .int k :: .ref a :: rest) (hd : decode c.code g.pc = .ok (.laload, 1))
    (kk : Rn p e below F T { g with pc := g.pc + 1, stack := .long x :: rest }) : Rn p e below F T g := by
  obtain ⟨locs, X, N, H⟩ := Y
  obtain ⟨cl, A, h1, h2⟩ := (H.ary hi).at (v := .long x) hk (by simp [List.getElem?_map, hv])
  exact Rn.go (fun t kt => X.laload hx A.1 (State.isArrayOf_alike hZ.alike A.2.1) A.2.2 h1 h2 hg hs hd t kt) kk
theorem On.alen (Y : On p l e R s m args below meth c Z n0 T cells slots D) (hx : p.tables.exec = Jvm.exec) (hZ : Z.Warmed39 s.vm) (hi : D[i]? = some (ar a ty z vs))
    {g : JFrame} (hg : g.method = m) {rest : List Value} (hs : g.stack = .ref a :: rest) (hd : decode c.code g.pc = .ok (.arraylength, 1))
    (kk : Rn p e below F T { g with pc := g.pc + 1, stack := .int z :: rest }) : Rn p e below F T g := by
  obtain ⟨locs, X, N, H⟩ := Y
  obtain ⟨⟨kc, ⟨cl, A, q1, S, q3, Hh, G⟩, -⟩, q⟩ := H.ary hi
  refine Rn.go (fun t kt => X.arraylength hx A.1 (State.isArrayOf_alike hZ.alike A.2.1) hg hs hd t kt) ?_
  rw [len_of S q3]; exact kk
theorem On.ldcI (Y : On p l e R s m args below meth c Z n0 T cells slots D) (hx : p.tables.exec = Jvm.exec) (hZ : Z.Warmed39 s.vm) {own : String} {index : Nat} {x : Int32} (hown : s.vm.findClass own = some m.cls) (w : (Cond.constant own index x).before a0 Z = true)
    {g : JFrame} (hg : g.method = m) (hd : decode c.code g.pc = .ok (.ldc index, 2)) (kk : Rn p e below F T { g with pc := g.pc + 2, stack := .int x :: g.stack }) : Rn p e below F T g := by
  obtain ⟨locs, X, N, H⟩ := Y
  exact Rn.go (X.ldcInt hx hown (mvT hZ w) hg hd) kk
theorem On.ldcJ (Y : On p l e R s m args below meth c Z n0 T cells slots D) (hx : p.tables.exec = Jvm.exec) (hZ : Z.Warmed39 s.vm) {own : String} {index : Nat} {x : Int64} (hown : s.vm.findClass own = some m.cls) (w : (Cond.constantLong own index x).before a0 Z = true)
    {g : JFrame} (hg : g.method = m) (hd : decode c.code g.pc = .ok (.ldc2_w index, 3)) (kk : Rn p e below F T { g with pc := g.pc + 3, stack := .long x :: g.stack }) : Rn p e below F T g := by
  obtain ⟨locs, X, N, H⟩ := Y
  exact Rn.go (X.ldc2Long hx hown (mvT hZ w) hg hd) kk
theorem On.sldcI (Y : On p l e R s m args below meth c Z n0 T cells slots D) (hx : p.tables.exec = Jvm.exec) (hZ : Z.Warmed39 s.vm) {own : String} {index : Nat} {x : Int32} (hown : s.vm.findClass own = some m.cls) (w : (Cond.constant own index x).before a0 Z = true)
    {g : JFrame} (hg : g.method = m) (hd : decode c.code g.pc = .ok (.ldc index, 2)) : ∀ t, Steps p.tables e below (T.setTop { g with pc := g.pc + 2, stack := .int x :: g.stack }) t → Steps p.tables e below (T.setTop g) t := by
  obtain ⟨locs, X, N, H⟩ := Y
  exact X.ldcInt hx hown (mvT hZ w) hg hd
theorem On.sldcJ (Y : On p l e R s m args below meth c Z n0 T cells slots D) (hx : p.tables.exec = Jvm.exec) (hZ : Z.Warmed39 s.vm) {own : String} {index : Nat} {x : Int64} (hown : s.vm.findClass own = some m.cls) (w : (Cond.constantLong own index x).before a0 Z = true)
    {g : JFrame} (hg : g.method = m) (hd : decode c.code g.pc = .ok (.ldc2_w index, 3)) : ∀ t, Steps p.tables e below (T.setTop { g with pc := g.pc + 3, stack := .long x :: g.stack }) t → Steps p.tables e below (T.setTop g) t := by
  obtain ⟨locs, X, N, H⟩ := Y
  exact X.ldc2Long hx hown (mvT hZ w) hg hd
theorem On.ini (Y : On p l e R s m args below meth c Z n0 T cells slots D) (hx : p.tables.exec = Jvm.exec) (hZ : Z.Warmed39 s.vm) {own : String} {idx : Nat} (hown : s.vm.findClass own = some m.cls) (w1 : (Cond.methodLink own idx Lib.objectInit).before a0 Z = true) (w2 : (Cond.instanceMethod Lib.objectInit).before a0 Z = true)
    (w3 : (Cond.code Lib.objectInit ⟨#[0xb1]⟩ 1 none).before a0 Z = true) {g : JFrame} (hg : g.method = m) (hsize : g.locals.size = c.maxLocals) {a : Addr} {rest : List Value} (hs : g.stack = .ref a :: rest) (hd : decode c.code g.pc = .ok (.invokespecial idx, 3))
    (hf : 1 ≤ R.frames) {W : Nat} (hW : 2 * g.monitorRoom + (rest.map fun v => v.category).sum ≤ W) (hl : W + 12 ≤ R.locals)
    (k : ∀ T', On p l e R s m args below meth c Z n0 T' cells slots D → Rn p e below F T' { g with pc := g.pc + 3, stack := rest }) : Rn p e below F T g := by
  obtain ⟨locs, X, N, H⟩ := Y
  obtain ⟨T', X', e', st⟩ := initO X hx hZ hown w1 w2 w3 rfl hg hsize hs hd hf hW hl
  exact Rn.go st (k T' ⟨locs, X', N, by rw [e']; exact H⟩)
/-! ## D. A method's contract: from a heap that holds D, with these arguments, it returns v and leaves a heap that holds D', where P v D' -/
def QP (Z : State) (n0 : Nat) (P : Option Value → List (Addr × Itm) → Prop) (v : Option Value) (h : Heap) (L : List Loc) : Prop := ∃ D', P v D' ∧ Fr n0 L ∧ Hp Z n0 h D'
def Con (l : Launch) (Z : State) (n0 : Nat) (y : MethodName) (bytes : ByteArray) (maxL : Nat) (ret : Option FieldType) (rm : Room) (as : Array Value) (D : List (Addr × Itm)) (P : Option Value → List (Addr × Itm) → Prop) : Prop :=
  ∀ (ws : List Cond) (h0 : Heap), Hp Z n0 h0 D → MetFree l y (head1 (Cond.code y bytes maxL ret :: ws) rm) (fun a U => a = as ∧ Z.Warmed39 U.vm ∧ U.heap = h0) (fun _ _ _ _ _ => True) (fun _ U o U' => ∃ v L, o = .returned v ∧ QP Z n0 P v U'.heap L ∧ FrameEnd U o U' L rm.cells rm.slots)
def Cx (p : Program) (s : State) (m : MethodId) (meth : Method) (c : Code) (Z : State) (y : MethodName) (bytes : ByteArray) (maxL : Nat) (ret : Option FieldType) : Prop :=
  p.tables.exec = Jvm.exec ∧ c.code = bytes ∧ c.maxLocals = maxL ∧ s.vm.findClass y.cls = some m.cls ∧ meth.name = y.name ∧ meth.sig.returnType = ret ∧ meth.locks = false ∧ Z.Warmed39 s.vm
def Fi (Z : State) (n0 : Nat) (below : List Frame) (s : State) (kc ks : Nat) (P : Option Value → List (Addr × Itm) → Prop) (U : State) : Prop := ∃ o, U.status = .running ∧ Ended U below o ∧ ∃ v L, o = .returned v ∧ QP Z n0 P v U.heap L ∧ FrameEnd s o U L kc ks
variable {y : MethodName} {bytes : ByteArray} {maxL : Nat} {ret : Option FieldType} {rm : Room} {as : Array Value} {P : Option Value → List (Addr × Itm) → Prop} {kc ks : Nat}
theorem Con.of (hp : plainFor y = true) (body : ∀ {p : Program} {e : Env} {s : State} {m : MethodId} {below : List Frame} {meth : Method} {c : Code} {T : State}, Cx p s m meth c Z y bytes maxL ret → On p l e rm s m as below meth c Z n0 T 0 0 D → Rn p e below (Fi Z n0 below s rm.cells rm.slots P) T (entryFrame m as maxL)) :
    Con l Z n0 y bytes maxL ret rm as D P := by
  intro ws h0 H
  refine MetFree.of_bodySF hp hisR ?_
  intro p e s m args below meth c s₁ Bd hml0 hP hK
  obtain ⟨rfl, hZ, hh⟩ := hP
  have X0 : Stand p l e rm s m args below meth c s₁ [] 0 0 := Stand.of_body Bd
  have e0 : s₁.heap = h0 := by rw [← hh, Bd.state]; rfl
  obtain ⟨U, h1, o, h2, h3, h4⟩ := body ⟨Bd.exec, Bd.bytes, hml0, findClass_of_methodNamed Bd.named, (name_of_methodNamed Bd.named Bd.method).1, Bd.returns, Bd.notSynchronized, hZ⟩ ⟨[], X0, Fr.nil n0, by rw [e0]; exact H⟩
  exact ⟨U, o, h1, h2, h3, h4⟩
theorem On.out (Y : On p l e R s m args below meth c Z n0 T cells slots D) {v : Option Value} (hv : meth.sig.returnType = none → v = none) (hlk : meth.locks = false) (hc : cells ≤ kc) (hs : slots ≤ ks) (hP : P v D)
    (st : ∀ locs fs, Stand p l e R s m args below meth c T locs cells slots → (∀ (f : JFrame) (acts : List Action), f.method = m → f.locked = none → f.entered = [] → (doReturn e (T.setTop f) acts v).1 = T.setFrames fs) → Steps p.tables e below (T.setTop g) (T.setFrames fs)) : Rn p e below (Fi Z n0 below s kc ks P) T g := by
  obtain ⟨locs, X, N, H⟩ := Y
  obtain ⟨fs, hr, hrun, hended, hW, hsame⟩ := X.leave hv hlk
  exact ⟨_, st locs fs X hr, _, hrun, hended, _, _, rfl, ⟨D, hP, N, H⟩, ⟨_, rfl⟩, hW, hsame.mono hc hs⟩
theorem On.retv (Y : On p l e R s m args below meth c Z n0 T cells slots D) (hx : p.tables.exec = Jvm.exec) (hret : meth.sig.returnType = none) (hlk : meth.locks = false) {pc : Nat} {Ls : Array Slot} (hd : decode c.code pc = .ok (.return_, 1)) (hc : cells ≤ kc) (hs : slots ≤ ks) (hP : P none D) : Rn p e below (Fi Z n0 below s kc ks P) T (mkF m pc Ls []) :=
  Y.out (fun _ => rfl) hlk hc hs hP fun locs fs X hr => X.returnOut hx hret hd hr
theorem On.reti (Y : On p l e R s m args below meth c Z n0 T cells slots D) (hx : p.tables.exec = Jvm.exec) (hret : meth.sig.returnType = some .int) (hlk : meth.locks = false) {pc : Nat} {Ls : Array Slot} {z : Int32} {rest : List Value} (hd : decode c.code pc = .ok (.ireturn, 1)) (hc : cells ≤ kc) (hs : slots ≤ ks) (hP : P (some (.int z)) D) : Rn p e below (Fi Z n0 below s kc ks P) T (mkF m pc Ls (.int z :: rest)) :=
  Y.out (fun q => by rw [hret] at q; cases q) hlk hc hs hP fun locs fs X hr => retOut X hx hret rfl (Or.inl ⟨rfl, Or.inl rfl, _, rfl⟩) hd hr
theorem On.retn (Y : On p l e R s m args below meth c Z n0 T cells slots D) (hx : p.tables.exec = Jvm.exec) {t : FieldType} (hret : meth.sig.returnType = some t) (ht : t = .boolean ∨ t = .byte ∨ t = .char ∨ t = .short) (hlk : meth.locks = false) {pc : Nat} {Ls : Array Slot} {z z' : Int32} (hz : nar t z = z') {rest : List Value} (hd : decode c.code pc = .ok (.ireturn, 1)) (hc : cells ≤ kc) (hs : slots ≤ ks) (hP : P (some (.int z')) D) : Rn p e below (Fi Z n0 below s kc ks P) T (mkF m pc Ls (.int z :: rest)) := by
  subst hz
  exact Y.out (fun q => by rw [hret] at q; cases q) hlk hc hs hP fun locs fs X hr => retN X hx hret ht hd hr
theorem On.retj (Y : On p l e R s m args below meth c Z n0 T cells slots D) (hx : p.tables.exec = Jvm.exec) (hret : meth.sig.returnType = some .long) (hlk : meth.locks = false) {pc : Nat} {Ls : Array Slot} {z : Int64} {rest : List Value} (hd : decode c.code pc = .ok (.lreturn, 1)) (hc : cells ≤ kc) (hs : slots ≤ ks) (hP : P (some (.long z)) D) : Rn p e below (Fi Z n0 below s kc ks P) T (mkF m pc Ls (.long z :: rest)) :=
  Y.out (fun q => by rw [hret] at q; cases q) hlk hc hs hP fun locs fs X hr => retOut X hx hret rfl (Or.inr (Or.inl ⟨rfl, rfl, _, rfl⟩)) hd hr
theorem On.reta (Y : On p l e R s m args below meth c Z n0 T cells slots D) (hx : p.tables.exec = Jvm.exec) {t : FieldType} (hret : meth.sig.returnType = some t) (ht : t.isReference = true) (hlk : meth.locks = false) {pc : Nat} {Ls : Array Slot} {z : Value} (hz : z.isRef = true) (hn : narrow t z = z) {rest : List Value} (hd : decode c.code pc = .ok (.areturn, 1)) (hc : cells ≤ kc) (hs : slots ≤ ks) (hP : P (some z) D) : Rn p e below (Fi Z n0 below s kc ks P) T (mkF m pc Ls (z :: rest)) :=
  Y.out (fun q => by rw [hret] at q; cases q) hlk hc hs hP fun locs fs X hr => retOut X hx hret hn (Or.inr (Or.inr (Or.inr (Or.inr ⟨rfl, ht, hz⟩)))) hd hr
/-! ## E. Calls -/
theorem On.special (Y : On p l e R s m args below meth c Z n0 T cells slots D) (hx : p.tables.exec = Jvm.exec) (hZ : Z.Warmed39 s.vm) {own : String} {index : Nat} (hy1 : y.name = "<init>") (hown : s.vm.findClass own = some m.cls) (w1 : (Cond.methodLink own index y).before a0 Z = true) (w2 : (Cond.instanceMethod y).before a0 Z = true) (w3 : (Cond.code y bytes maxL none).before a0 Z = true) (w4 : (Cond.initialized y.cls).before a0 Z = true)
    (hy : y.cls ≠ "java/lang/invoke/MethodHandle" ∧ y.cls ≠ "java/lang/invoke/VarHandle") {a : Addr} {argsL rest : List Value} (K : Con l Z n0 y bytes maxL none rm (.ref a :: argsL).toArray D P)
    {W : Nat} (hf : rm.frames + 1 ≤ R.frames) (hl : W + (maxL + 11) + rm.locals ≤ R.locals) (hc : cells + rm.cells ≤ R.cells) (hs : slots + rm.slots ≤ R.slots)
    {g : JFrame} (hg : g.method = m) (hsize : g.locals.size = c.maxLocals) (hlen : ∀ sig, parseMethodDescriptor y.desc = some sig → argsL.length = sig.parameters.length) (hstack : g.stack = argsL.reverse ++ .ref a :: rest) (hW : 2 * g.monitorRoom + (rest.map fun v => v.category).sum ≤ W) (hd : decode c.code g.pc = .ok (.invokespecial index, 3))
    (k : ∀ T' v D', P v D' → On p l e R s m args below meth c Z n0 T' (cells + rm.cells) (slots + rm.slots) D' → Rn p e below F T' { g with pc := g.pc + 3, stack := v.toList ++ rest }) : Rn p e below F T g := by
  obtain ⟨locs, X, N, H⟩ := Y
  obtain ⟨v, _, ⟨T', L', k', n'⟩, -, X', ⟨Lc, hQ, l', y', z'⟩, st⟩ := X.specialBack hx hy1 hown (mvT hZ w1) (mvT hZ w2) (mvT hZ w3) hy (backOf (W := W) (K [] T.heap H) hZ w3 w4 hf hl) hg hsize (Steps.refl _) (a := a) (argsL := argsL) (rest := rest) hlen hstack hW hd (fun _ _ => ⟨rfl, rfl, hc, hs⟩)
  dsimp only [Pt.U, Pt.locs, Pt.cells, Pt.slots] at X' l' y' z' st hQ
  subst l' y' z'
  obtain ⟨D', hP, N', H'⟩ := hQ
  exact Rn.to st (k T' v D' hP ⟨_, X', Fr.app N N', H'⟩)
theorem On.virtual (Y : On p l e R s m args below meth c Z n0 T cells slots D) (hx : p.tables.exec = Jvm.exec) (hZ : Z.Warmed39 s.vm) {own : String} {index : Nat} (hown : s.vm.findClass own = some m.cls) (w1 : (Cond.methodLink own index y).before a0 Z = true) (w2 : (Cond.declares y).before a0 Z = true) (w3 : (Cond.instanceMethod y).before a0 Z = true) (w4 : (Cond.selects C y y).before a0 Z = true) (w5 : (Cond.code y bytes maxL ret).before a0 Z = true) (w6 : (Cond.initialized y.cls).before a0 Z = true)
    (hy : y.cls ≠ "java/lang/invoke/MethodHandle" ∧ y.cls ≠ "java/lang/invoke/VarHandle") {a : Addr} {argsL rest : List Value} (hi : D[i]? = some (ob a C fs)) (K : Con l Z n0 y bytes maxL ret rm (.ref a :: argsL).toArray D P)
    {W : Nat} (hf : rm.frames + 1 ≤ R.frames) (hl : W + (maxL + 11) + rm.locals ≤ R.locals) (hc : cells + rm.cells ≤ R.cells) (hs : slots + rm.slots ≤ R.slots)
    {g : JFrame} (hg : g.method = m) (hsize : g.locals.size = c.maxLocals) (hlen : ∀ sig, parseMethodDescriptor y.desc = some sig → argsL.length = sig.parameters.length) (hstack : g.stack = argsL.reverse ++ .ref a :: rest) (hW : 2 * g.monitorRoom + (rest.map fun v => v.category).sum ≤ W) (hd : decode c.code g.pc = .ok (.invokevirtual index, 3))
    (k : ∀ T' v D', P v D' → On p l e R s m args below meth c Z n0 T' (cells + rm.cells) (slots + rm.slots) D' → Rn p e below F T' { g with pc := g.pc + 3, stack := v.toList ++ rest }) : Rn p e below F T g := by
  obtain ⟨locs, X, N, H⟩ := Y
  obtain ⟨cq, kq, qa, qb, qc⟩ := isOf hZ rfl (H.exa hi)
  obtain ⟨v, _, ⟨T', L', k', n'⟩, -, X', ⟨Lc, hQ, l', y', z'⟩, st⟩ := X.virtualBack hx (y := y) (z := y) hown (mvT hZ w1) (mvT hZ w2) (notFace_of_selects (args := #[]) (mvT hZ w4)) (mvT hZ w4) (mvT hZ w3) hy (backOf (W := W) (K [] T.heap H) hZ w5 w6 hf hl) qa qc hg hsize (Steps.refl _) (argsL := argsL) (rest := rest) hlen hstack hW hd (fun _ _ => ⟨rfl, rfl, hc, hs⟩)
  dsimp only [Pt.U, Pt.locs, Pt.cells, Pt.slots] at X' l' y' z' st hQ
  subst l' y' z'
  obtain ⟨D', hP, N', H'⟩ := hQ
  exact Rn.to st (k T' v D' hP ⟨_, X', Fr.app N N', H'⟩)
theorem On.static (Y : On p l e R s m args below meth c Z n0 T cells slots D) (hx : p.tables.exec = Jvm.exec) (hZ : Z.Warmed39 s.vm) {own : String} {index : Nat} (hown : s.vm.findClass own = some m.cls) (w1 : (Cond.methodLink own index y).before a0 Z = true) (w2 : (Cond.static y).before a0 Z = true) (w3 : (Cond.code y bytes maxL ret).before a0 Z = true) (w4 : (Cond.initialized y.cls).before a0 Z = true)
    (hy : y.cls ≠ "java/lang/invoke/MethodHandle" ∧ y.cls ≠ "java/lang/invoke/VarHandle") {argsL rest : List Value} (K : Con l Z n0 y bytes maxL ret rm argsL.toArray D P)
    {W : Nat} (hf : rm.frames + 1 ≤ R.frames) (hl : W + (maxL + 11) + rm.locals ≤ R.locals) (hc : cells + rm.cells ≤ R.cells) (hs : slots + rm.slots ≤ R.slots)
    {g : JFrame} (hg : g.method = m) (hsize : g.locals.size = c.maxLocals) (hlen : ∀ sig, parseMethodDescriptor y.desc = some sig → argsL.length = sig.parameters.length) (hstack : g.stack = argsL.reverse ++ rest) (hW : 2 * g.monitorRoom + (rest.map fun v => v.category).sum ≤ W) (hd : decode c.code g.pc = .ok (.invokestatic index, 3))
    (k : ∀ T' v D', P v D' → On p l e R s m args below meth c Z n0 T' (cells + rm.cells) (slots + rm.slots) D' → Rn p e below F T' { g with pc := g.pc + 3, stack := v.toList ++ rest }) : Rn p e below F T g := by
  obtain ⟨locs, X, N, H⟩ := Y
  obtain ⟨v, _, ⟨T', L', k', n'⟩, -, X', ⟨Lc, hQ, l', y', z'⟩, st⟩ := Jvm.LawKit.callS X hx hown (mvT hZ w1) (mvT hZ w2) (mvT hZ w4) (mvT hZ w3) hy (backOf (W := W) (K [] T.heap H) hZ w3 w4 hf hl) hg hsize (argsL := argsL) (rest := rest) hlen hstack hW hd (fun _ _ => ⟨rfl, rfl, hc, hs⟩)
  dsimp only [Pt.U, Pt.locs, Pt.cells, Pt.slots] at X' l' y' z' st hQ
  subst l' y' z'
  obtain ⟨D', hP, N', H'⟩ := hQ
  exact Rn.go st (k T' v D' hP ⟨_, X', Fr.app N N', H'⟩)
theorem On.priv (Y : On p l e R s m args below meth c Z n0 T cells slots D) (hx : p.tables.exec = Jvm.exec) (hZ : Z.Warmed39 s.vm) {own : String} {index kk : Nat} (hown : s.vm.findClass own = some m.cls) (w1 : (Cond.methodLink own index y).before a0 Z = true) (w2 : (Cond.instanceMethod y).before a0 Z = true) (w3 : (Cond.privateMethod y).before a0 Z = true) (wi : (Cond.instantiable y.cls kk).before a0 Z = true) (w4 : (Cond.code y bytes maxL ret).before a0 Z = true) (w5 : (Cond.initialized y.cls).before a0 Z = true)
    (hy : y.cls ≠ "java/lang/invoke/MethodHandle" ∧ y.cls ≠ "java/lang/invoke/VarHandle") {a : Addr} {argsL rest : List Value} (hi : D[i]? = some (ob a C fs)) (K : Con l Z n0 y bytes maxL ret rm (.ref a :: argsL).toArray D P)
    {W : Nat} (hf : rm.frames + 1 ≤ R.frames) (hl : W + (maxL + 11) + rm.locals ≤ R.locals) (hc : cells + rm.cells ≤ R.cells) (hs : slots + rm.slots ≤ R.slots)
    {g : JFrame} (hg : g.method = m) (hsize : g.locals.size = c.maxLocals) (hlen : ∀ sig, parseMethodDescriptor y.desc = some sig → argsL.length = sig.parameters.length) (hstack : g.stack = argsL.reverse ++ .ref a :: rest) (hW : 2 * g.monitorRoom + (rest.map fun v => v.category).sum ≤ W) (hd : decode c.code g.pc = .ok (.invokevirtual index, 3))
    (k : ∀ T' v D', P v D' → On p l e R s m args below meth c Z n0 T' (cells + rm.cells) (slots + rm.slots) D' → Rn p e below F T' { g with pc := g.pc + 3, stack := v.toList ++ rest }) : Rn p e below F T g := by
  obtain ⟨locs, X, N, H⟩ := Y
  have hp : s.PrivateAt y := Cond.privateMethod_at (mvP hZ w3 (args := #[]))
  have wi' : (Cond.instantiable y.cls kk).before args s = true := mvT hZ wi
  obtain ⟨cc, kc, i1, i2, -, i4, -⟩ := Cond.instantiable_spec wi'
  have hsel : (Cond.selects y.cls y y).before args s = true := selects_self_of_private i1 i2 (by simp at i4; exact i4.1) hp (mvT hZ w2) hy
  obtain ⟨cq, q, q'⟩ := (H.exa hi).cell
  obtain ⟨v, _, ⟨T', L', k', n'⟩, -, X', ⟨Lc, hQ, l', y', z'⟩, st⟩ := X.privateBack hx (y := y) hown (mvT hZ w1) (mvT hZ w2) hsel hp (mvT hZ w4) hy (backOf (W := W) (K [] T.heap H) hZ w4 w5 hf hl) hg hsize (Steps.refl _) (a := a) q q' (argsL := argsL) (rest := rest) hlen hstack hW hd (fun _ _ => ⟨rfl, rfl, hc, hs⟩)
  dsimp only [Pt.U, Pt.locs, Pt.cells, Pt.slots] at X' l' y' z' st hQ
  subst l' y' z'
  obtain ⟨D', hP, N', H'⟩ := hQ
  exact Rn.to st (k T' v D' hP ⟨_, X', Fr.app N N', H'⟩)
theorem On.insY (Y : On p l e R s m args below meth c Z n0 T cells slots D) (hx : p.tables.exec = Jvm.exec) (hZ : Z.Warmed39 s.vm) {own : String} {index : Nat} (hown : s.vm.findClass own = some m.cls) (w : (Cond.classLink own index C).before a0 Z = true) (hi : D[i]? = some (ob a C fs))
    {g : JFrame} (hg : g.method = m) {rest : List Value} (hs : g.stack = .ref a :: rest) (hd : decode c.code g.pc = .ok (.instanceof index, 3)) (k : ∀ T', On p l e R s m args below meth c Z n0 T' cells slots D → Rn p e below F T' { g with pc := g.pc + 3, stack := .int 1 :: rest }) : Rn p e below F T g := by
  obtain ⟨locs, X, N, H⟩ := Y
  obtain ⟨T', X', e', st⟩ := instY X hx hZ hown w rfl (Ins.self (H.exa hi)) hg hs hd
  exact Rn.go st (k T' ⟨locs, X', N, by rw [e']; exact H⟩)
theorem On.castS (Y : On p l e R s m args below meth c Z n0 T cells slots D) (hx : p.tables.exec = Jvm.exec) (hZ : Z.Warmed39 s.vm) {own : String} {index : Nat} (hown : s.vm.findClass own = some m.cls) (w : (Cond.classLink own index C).before a0 Z = true) (hi : D[i]? = some (ob a C fs))
    {g : JFrame} (hg : g.method = m) {rest : List Value} (hs : g.stack = .ref a :: rest) (hd : decode c.code g.pc = .ok (.checkcast index, 3)) (k : ∀ T', On p l e R s m args below meth c Z n0 T' cells slots D → Rn p e below F T' { g with pc := g.pc + 3 }) : Rn p e below F T g := by
  obtain ⟨locs, X, N, H⟩ := Y
  obtain ⟨T', X', e', st⟩ := castY X hx hZ hown w rfl (Ins.self (H.exa hi)) hg hs hd
  exact Rn.go st (k T' ⟨locs, X', N, by rw [e']; exact H⟩)
theorem On.insN (Y : On p l e R s m args below meth c Z n0 T cells slots D) (hx : p.tables.exec = Jvm.exec) (hZ : Z.Warmed39 s.vm) {own K : String} {index kk : Nat} (hown : s.vm.findClass own = some m.cls) (w : (Cond.classLink own index K).before a0 Z = true) (hi : D[i]? = some (ob a C fs)) (wi : (Cond.instantiable K kk).before a0 Z = true) {ch : List String} (hw : ∀ w ∈ Cond.chainWords (C :: ch), w.before a0 Z = true) (hn : K ∉ C :: ch)
    {g : JFrame} (hg : g.method = m) {rest : List Value} (hs : g.stack = .ref a :: rest) (hd : decode c.code g.pc = .ok (.instanceof index, 3)) (k : ∀ T', On p l e R s m args below meth c Z n0 T' cells slots D → Rn p e below F T' { g with pc := g.pc + 3, stack := .int 0 :: rest }) : Rn p e below F T g := by
  obtain ⟨locs, X, N, H⟩ := Y
  obtain ⟨cy, ky, i1, i2, i3, i4, -⟩ := Cond.instantiable_spec wi
  obtain ⟨cx, kx, j1, -⟩ := Cond.chain_head hw
  obtain ⟨T', X', e', st⟩ := instNo X hx hZ hown w rfl (H.exa hi) ⟨cx, cy, j1, i1, Vm.notAssignable_of_chain j1 i1 i2 i3 (by simp at i4; exact i4.1) hw hn⟩ hg hs hd
  exact Rn.go st (k T' ⟨locs, X', N, by rw [e']; exact H⟩)
theorem On.insNull (Y : On p l e R s m args below meth c Z n0 T cells slots D) (hx : p.tables.exec = Jvm.exec) {index : Nat}
    {g : JFrame} (hg : g.method = m) {rest : List Value} (hs : g.stack = .null :: rest) (hd : decode c.code g.pc = .ok (.instanceof index, 3)) (k : Rn p e below F T { g with pc := g.pc + 3, stack := .int 0 :: rest }) : Rn p e below F T g := by
  obtain ⟨locs, X, N, H⟩ := Y
  exact Rn.go (fun t kt => X.instanceofNull hx hg hs hd t kt) k
end Base
theorem own_le2 {v : Int32} (h1 : 0 ≤ v.toInt) (h2 : v.toInt ≤ 2) : v = 0 ∨ v = 1 ∨ v = 2 := by
  have : v.toInt = 0 ∨ v.toInt = 1 ∨ v.toInt = 2 := by omega
  rcases this with h | h | h
  · exact Or.inl (Int32.toInt_inj.mp (h.trans rfl))
  · exact Or.inr (Or.inl (Int32.toInt_inj.mp (h.trans rfl)))
  · exact Or.inr (Or.inr (Int32.toInt_inj.mp (h.trans rfl)))
/-! ## F. The words, the instructions, the names -/
abbrev own_C0 : String := "com/example/arborplan/arborplan/tree/DisjointSets"
abbrev own_F0 (v0 v1 : Value) : List (String × String × Value) := [("parent", "[I", v0), ("size", "[I", v1)]
theorem w0 {Z : State} {a0 : Array Value} (hw : ∀ d ∈ tables_1, d.before a0 Z = true) : (Jvm.Cond.constant "com/example/arborplan/arborplan/tree/DisjointSetsUnionPinLaw" (7 : Nat) (2147483647 : Int32)).before a0 Z = true := hw _ (List.mem_of_getElem? (i := 0) rfl)
theorem w1 {Z : State} {a0 : Array Value} (hw : ∀ d ∈ tables_1, d.before a0 Z = true) : (Jvm.Cond.classLink "com/example/arborplan/arborplan/tree/DisjointSetsUnionPinLaw" (8 : Nat) "com/example/arborplan/arborplan/tree/DisjointSets").before a0 Z = true := hw _ (List.mem_of_getElem? (i := 1) rfl)
theorem w2 {Z : State} {a0 : Array Value} (hw : ∀ d ∈ tables_1, d.before a0 Z = true) : (Jvm.Cond.instantiable "com/example/arborplan/arborplan/tree/DisjointSets" (2 : Nat)).before a0 Z = true := hw _ (List.mem_of_getElem? (i := 2) rfl)
theorem w3 {Z : State} {a0 : Array Value} (hw : ∀ d ∈ tables_1, d.before a0 Z = true) : (Jvm.Cond.initialized "com/example/arborplan/arborplan/tree/DisjointSets").before a0 Z = true := hw _ (List.mem_of_getElem? (i := 3) rfl)
theorem w4 {Z : State} {a0 : Array Value} (hw : ∀ d ∈ tables_1, d.before a0 Z = true) : (Jvm.Cond.methodLink "com/example/arborplan/arborplan/tree/DisjointSetsUnionPinLaw" (10 : Nat) ({ cls := "com/example/arborplan/arborplan/tree/DisjointSets", name := "<init>", desc := "(I)V" } : Jvm.MethodName)).before a0 Z = true := hw _ (List.mem_of_getElem? (i := 4) rfl)
theorem w5 {Z : State} {a0 : Array Value} (hw : ∀ d ∈ tables_1, d.before a0 Z = true) : (Jvm.Cond.instanceMethod ({ cls := "com/example/arborplan/arborplan/tree/DisjointSets", name := "<init>", desc := "(I)V" } : Jvm.MethodName)).before a0 Z = true := hw _ (List.mem_of_getElem? (i := 5) rfl)
theorem w6 {Z : State} {a0 : Array Value} (hw : ∀ d ∈ tables_1, d.before a0 Z = true) : (Jvm.Cond.code ({ cls := "com/example/arborplan/arborplan/tree/DisjointSets", name := "<init>", desc := "(I)V" } : Jvm.MethodName) prog_37_method_1_code (3 : Nat) (Option.none : Option Jvm.ClassFile.FieldType)).before a0 Z = true := hw _ (List.mem_of_getElem? (i := 6) rfl)
theorem w7 {Z : State} {a0 : Array Value} (hw : ∀ d ∈ tables_1, d.before a0 Z = true) : (Jvm.Cond.methodLink "com/example/arborplan/arborplan/tree/DisjointSets" (1 : Nat) ({ cls := "java/lang/Object", name := "<init>", desc := "()V" } : Jvm.MethodName)).before a0 Z = true := hw _ (List.mem_of_getElem? (i := 7) rfl)
theorem w8 {Z : State} {a0 : Array Value} (hw : ∀ d ∈ tables_1, d.before a0 Z = true) : (Jvm.Cond.instanceMethod ({ cls := "java/lang/Object", name := "<init>", desc := "()V" } : Jvm.MethodName)).before a0 Z = true := hw _ (List.mem_of_getElem? (i := 8) rfl)
theorem w9 {Z : State} {a0 : Array Value} (hw : ∀ d ∈ tables_1, d.before a0 Z = true) : (Jvm.Cond.code ({ cls := "java/lang/Object", name := "<init>", desc := "()V" } : Jvm.MethodName) object_method_1_code (1 : Nat) (Option.none : Option Jvm.ClassFile.FieldType)).before a0 Z = true := hw _ (List.mem_of_getElem? (i := 9) rfl)
theorem w10 {Z : State} {a0 : Array Value} (hw : ∀ d ∈ tables_1, d.before a0 Z = true) : (Jvm.Cond.arrayClass Jvm.ClassFile.FieldType.int).before a0 Z = true := hw _ (List.mem_of_getElem? (i := 10) rfl)
theorem w11 {Z : State} {a0 : Array Value} (hw : ∀ d ∈ tables_1, d.before a0 Z = true) : (Jvm.Cond.fieldLink "com/example/arborplan/arborplan/tree/DisjointSets" (7 : Nat) "com/example/arborplan/arborplan/tree/DisjointSets" "parent" "[I").before a0 Z = true := hw _ (List.mem_of_getElem? (i := 11) rfl)
theorem w12 {Z : State} {a0 : Array Value} (hw : ∀ d ∈ tables_1, d.before a0 Z = true) : (Jvm.Cond.laysFinal "com/example/arborplan/arborplan/tree/DisjointSets" "com/example/arborplan/arborplan/tree/DisjointSets" "parent" "[I").before a0 Z = true := hw _ (List.mem_of_getElem? (i := 12) rfl)
theorem w13 {Z : State} {a0 : Array Value} (hw : ∀ d ∈ tables_1, d.before a0 Z = true) : (Jvm.Cond.fieldLink "com/example/arborplan/arborplan/tree/DisjointSets" (13 : Nat) "com/example/arborplan/arborplan/tree/DisjointSets" "size" "[I").before a0 Z = true := hw _ (List.mem_of_getElem? (i := 13) rfl)
theorem w14 {Z : State} {a0 : Array Value} (hw : ∀ d ∈ tables_1, d.before a0 Z = true) : (Jvm.Cond.laysFinal "com/example/arborplan/arborplan/tree/DisjointSets" "com/example/arborplan/arborplan/tree/DisjointSets" "size" "[I").before a0 Z = true := hw _ (List.mem_of_getElem? (i := 14) rfl)
theorem w15 {Z : State} {a0 : Array Value} (hw : ∀ d ∈ tables_1, d.before a0 Z = true) : (Jvm.Cond.methodLink "com/example/arborplan/arborplan/tree/DisjointSetsUnionPinLaw" (13 : Nat) ({ cls := "com/example/arborplan/arborplan/tree/DisjointSets", name := "union", desc := "(II)I" } : Jvm.MethodName)).before a0 Z = true := hw _ (List.mem_of_getElem? (i := 15) rfl)
theorem w16 {Z : State} {a0 : Array Value} (hw : ∀ d ∈ tables_1, d.before a0 Z = true) : (Jvm.Cond.declares ({ cls := "com/example/arborplan/arborplan/tree/DisjointSets", name := "union", desc := "(II)I" } : Jvm.MethodName)).before a0 Z = true := hw _ (List.mem_of_getElem? (i := 16) rfl)
theorem w17 {Z : State} {a0 : Array Value} (hw : ∀ d ∈ tables_1, d.before a0 Z = true) : (Jvm.Cond.instanceMethod ({ cls := "com/example/arborplan/arborplan/tree/DisjointSets", name := "union", desc := "(II)I" } : Jvm.MethodName)).before a0 Z = true := hw _ (List.mem_of_getElem? (i := 17) rfl)
theorem w18 {Z : State} {a0 : Array Value} (hw : ∀ d ∈ tables_1, d.before a0 Z = true) : (Jvm.Cond.selects "com/example/arborplan/arborplan/tree/DisjointSets" ({ cls := "com/example/arborplan/arborplan/tree/DisjointSets", name := "union", desc := "(II)I" } : Jvm.MethodName) ({ cls := "com/example/arborplan/arborplan/tree/DisjointSets", name := "union", desc := "(II)I" } : Jvm.MethodName)).before a0 Z = true := hw _ (List.mem_of_getElem? (i := 18) rfl)
theorem w19 {Z : State} {a0 : Array Value} (hw : ∀ d ∈ tables_1, d.before a0 Z = true) : (Jvm.Cond.code ({ cls := "com/example/arborplan/arborplan/tree/DisjointSets", name := "union", desc := "(II)I" } : Jvm.MethodName) prog_37_method_3_code (5 : Nat) (Option.some Jvm.ClassFile.FieldType.int)).before a0 Z = true := hw _ (List.mem_of_getElem? (i := 19) rfl)
theorem w20 {Z : State} {a0 : Array Value} (hw : ∀ d ∈ tables_1, d.before a0 Z = true) : (Jvm.Cond.methodLink "com/example/arborplan/arborplan/tree/DisjointSetsUnionPinLaw" (17 : Nat) ({ cls := "com/example/arborplan/arborplan/tree/DisjointSets", name := "find", desc := "(I)I" } : Jvm.MethodName)).before a0 Z = true := hw _ (List.mem_of_getElem? (i := 20) rfl)
theorem w21 {Z : State} {a0 : Array Value} (hw : ∀ d ∈ tables_1, d.before a0 Z = true) : (Jvm.Cond.declares ({ cls := "com/example/arborplan/arborplan/tree/DisjointSets", name := "find", desc := "(I)I" } : Jvm.MethodName)).before a0 Z = true := hw _ (List.mem_of_getElem? (i := 21) rfl)
theorem w22 {Z : State} {a0 : Array Value} (hw : ∀ d ∈ tables_1, d.before a0 Z = true) : (Jvm.Cond.instanceMethod ({ cls := "com/example/arborplan/arborplan/tree/DisjointSets", name := "find", desc := "(I)I" } : Jvm.MethodName)).before a0 Z = true := hw _ (List.mem_of_getElem? (i := 22) rfl)
theorem w23 {Z : State} {a0 : Array Value} (hw : ∀ d ∈ tables_1, d.before a0 Z = true) : (Jvm.Cond.selects "com/example/arborplan/arborplan/tree/DisjointSets" ({ cls := "com/example/arborplan/arborplan/tree/DisjointSets", name := "find", desc := "(I)I" } : Jvm.MethodName) ({ cls := "com/example/arborplan/arborplan/tree/DisjointSets", name := "find", desc := "(I)I" } : Jvm.MethodName)).before a0 Z = true := hw _ (List.mem_of_getElem? (i := 23) rfl)
theorem w24 {Z : State} {a0 : Array Value} (hw : ∀ d ∈ tables_1, d.before a0 Z = true) : (Jvm.Cond.code ({ cls := "com/example/arborplan/arborplan/tree/DisjointSets", name := "find", desc := "(I)I" } : Jvm.MethodName) prog_37_method_2_code (3 : Nat) (Option.some Jvm.ClassFile.FieldType.int)).before a0 Z = true := hw _ (List.mem_of_getElem? (i := 24) rfl)
theorem w25 {Z : State} {a0 : Array Value} (hw : ∀ d ∈ tables_1, d.before a0 Z = true) : (Jvm.Cond.methodLink "com/example/arborplan/arborplan/tree/DisjointSetsUnionPinLaw" (21 : Nat) ({ cls := "com/example/arborplan/arborplan/tree/DisjointSetsUnionPinLaw", name := "expectedFind", desc := "(IIII)I" } : Jvm.MethodName)).before a0 Z = true := hw _ (List.mem_of_getElem? (i := 25) rfl)
theorem w26 {Z : State} {a0 : Array Value} (hw : ∀ d ∈ tables_1, d.before a0 Z = true) : (Jvm.Cond.static ({ cls := "com/example/arborplan/arborplan/tree/DisjointSetsUnionPinLaw", name := "expectedFind", desc := "(IIII)I" } : Jvm.MethodName)).before a0 Z = true := hw _ (List.mem_of_getElem? (i := 26) rfl)
theorem w27 {Z : State} {a0 : Array Value} (hw : ∀ d ∈ tables_1, d.before a0 Z = true) : (Jvm.Cond.initialized "com/example/arborplan/arborplan/tree/DisjointSetsUnionPinLaw").before a0 Z = true := hw _ (List.mem_of_getElem? (i := 27) rfl)
theorem w28 {Z : State} {a0 : Array Value} (hw : ∀ d ∈ tables_1, d.before a0 Z = true) : (Jvm.Cond.code ({ cls := "com/example/arborplan/arborplan/tree/DisjointSetsUnionPinLaw", name := "expectedFind", desc := "(IIII)I" } : Jvm.MethodName) method_2_code (4 : Nat) (Option.some Jvm.ClassFile.FieldType.int)).before a0 Z = true := hw _ (List.mem_of_getElem? (i := 28) rfl)
theorem d1_0 : decode prog_37_method_1_code 0 = .ok (.aload_n 0, 1) := by decide +kernel
theorem d1_1 : decode prog_37_method_1_code 1 = .ok (.invokespecial 1, 3) := by decide +kernel
theorem d1_4 : decode prog_37_method_1_code 4 = .ok (.aload_n 0, 1) := by decide +kernel
theorem d1_5 : decode prog_37_method_1_code 5 = .ok (.iload_n 1, 1) := by decide +kernel
theorem d1_6 : decode prog_37_method_1_code 6 = .ok (.newarray .int, 2) := by decide +kernel
theorem d1_8 : decode prog_37_method_1_code 8 = .ok (.putfield 7, 3) := by decide +kernel
theorem d1_11 : decode prog_37_method_1_code 11 = .ok (.aload_n 0, 1) := by decide +kernel
theorem d1_12 : decode prog_37_method_1_code 12 = .ok (.iload_n 1, 1) := by decide +kernel
theorem d1_13 : decode prog_37_method_1_code 13 = .ok (.newarray .int, 2) := by decide +kernel
theorem d1_15 : decode prog_37_method_1_code 15 = .ok (.putfield 13, 3) := by decide +kernel
theorem d1_18 : decode prog_37_method_1_code 18 = .ok (.iconst 0, 1) := by decide +kernel
theorem d1_19 : decode prog_37_method_1_code 19 = .ok (.istore_n 2, 1) := by decide +kernel
theorem d1_20 : decode prog_37_method_1_code 20 = .ok (.iload_n 2, 1) := by decide +kernel
theorem d1_21 : decode prog_37_method_1_code 21 = .ok (.iload_n 1, 1) := by decide +kernel
theorem d1_22 : decode prog_37_method_1_code 22 = .ok (.if_icmp .ge 23, 3) := by decide +kernel
theorem d1_25 : decode prog_37_method_1_code 25 = .ok (.aload_n 0, 1) := by decide +kernel
theorem d1_26 : decode prog_37_method_1_code 26 = .ok (.getfield 7, 3) := by decide +kernel
theorem d1_29 : decode prog_37_method_1_code 29 = .ok (.iload_n 2, 1) := by decide +kernel
theorem d1_30 : decode prog_37_method_1_code 30 = .ok (.iload_n 2, 1) := by decide +kernel
theorem d1_31 : decode prog_37_method_1_code 31 = .ok (.iastore, 1) := by decide +kernel
theorem d1_32 : decode prog_37_method_1_code 32 = .ok (.aload_n 0, 1) := by decide +kernel
theorem d1_33 : decode prog_37_method_1_code 33 = .ok (.getfield 13, 3) := by decide +kernel
theorem d1_36 : decode prog_37_method_1_code 36 = .ok (.iload_n 2, 1) := by decide +kernel
theorem d1_37 : decode prog_37_method_1_code 37 = .ok (.iconst 1, 1) := by decide +kernel
theorem d1_38 : decode prog_37_method_1_code 38 = .ok (.iastore, 1) := by decide +kernel
theorem d1_39 : decode prog_37_method_1_code 39 = .ok (.iinc 2 1, 3) := by decide +kernel
theorem d1_42 : decode prog_37_method_1_code 42 = .ok (.goto (-22), 3) := by decide +kernel
theorem d1_45 : decode prog_37_method_1_code 45 = .ok (.return_, 1) := by decide +kernel
theorem d3_0 : decode prog_37_method_3_code 0 = .ok (.aload_n 0, 1) := by decide +kernel
theorem d3_1 : decode prog_37_method_3_code 1 = .ok (.getfield 13, 3) := by decide +kernel
theorem d3_4 : decode prog_37_method_3_code 4 = .ok (.iload_n 1, 1) := by decide +kernel
theorem d3_5 : decode prog_37_method_3_code 5 = .ok (.iaload, 1) := by decide +kernel
theorem d3_6 : decode prog_37_method_3_code 6 = .ok (.aload_n 0, 1) := by decide +kernel
theorem d3_7 : decode prog_37_method_3_code 7 = .ok (.getfield 13, 3) := by decide +kernel
theorem d3_10 : decode prog_37_method_3_code 10 = .ok (.iload_n 2, 1) := by decide +kernel
theorem d3_11 : decode prog_37_method_3_code 11 = .ok (.iaload, 1) := by decide +kernel
theorem d3_12 : decode prog_37_method_3_code 12 = .ok (.if_icmp .lt 7, 3) := by decide +kernel
theorem d3_15 : decode prog_37_method_3_code 15 = .ok (.iload_n 1, 1) := by decide +kernel
theorem d3_16 : decode prog_37_method_3_code 16 = .ok (.goto 4, 3) := by decide +kernel
theorem d3_19 : decode prog_37_method_3_code 19 = .ok (.iload_n 2, 1) := by decide +kernel
theorem d3_20 : decode prog_37_method_3_code 20 = .ok (.istore_n 3, 1) := by decide +kernel
theorem d3_21 : decode prog_37_method_3_code 21 = .ok (.iload_n 3, 1) := by decide +kernel
theorem d3_22 : decode prog_37_method_3_code 22 = .ok (.iload_n 1, 1) := by decide +kernel
theorem d3_23 : decode prog_37_method_3_code 23 = .ok (.if_icmp .ne 7, 3) := by decide +kernel
theorem d3_26 : decode prog_37_method_3_code 26 = .ok (.iload_n 2, 1) := by decide +kernel
theorem d3_27 : decode prog_37_method_3_code 27 = .ok (.goto 4, 3) := by decide +kernel
theorem d3_30 : decode prog_37_method_3_code 30 = .ok (.iload_n 1, 1) := by decide +kernel
theorem d3_31 : decode prog_37_method_3_code 31 = .ok (.istore 4, 2) := by decide +kernel
theorem d3_33 : decode prog_37_method_3_code 33 = .ok (.aload_n 0, 1) := by decide +kernel
theorem d3_34 : decode prog_37_method_3_code 34 = .ok (.getfield 7, 3) := by decide +kernel
theorem d3_37 : decode prog_37_method_3_code 37 = .ok (.iload 4, 2) := by decide +kernel
theorem d3_39 : decode prog_37_method_3_code 39 = .ok (.iload_n 3, 1) := by decide +kernel
theorem d3_40 : decode prog_37_method_3_code 40 = .ok (.iastore, 1) := by decide +kernel
theorem d3_41 : decode prog_37_method_3_code 41 = .ok (.aload_n 0, 1) := by decide +kernel
theorem d3_42 : decode prog_37_method_3_code 42 = .ok (.getfield 13, 3) := by decide +kernel
theorem d3_45 : decode prog_37_method_3_code 45 = .ok (.iload_n 3, 1) := by decide +kernel
theorem d3_46 : decode prog_37_method_3_code 46 = .ok (.dup2, 1) := by decide +kernel
theorem d3_47 : decode prog_37_method_3_code 47 = .ok (.iaload, 1) := by decide +kernel
theorem d3_48 : decode prog_37_method_3_code 48 = .ok (.aload_n 0, 1) := by decide +kernel
theorem d3_49 : decode prog_37_method_3_code 49 = .ok (.getfield 13, 3) := by decide +kernel
theorem d3_52 : decode prog_37_method_3_code 52 = .ok (.iload 4, 2) := by decide +kernel
theorem d3_54 : decode prog_37_method_3_code 54 = .ok (.iaload, 1) := by decide +kernel
theorem d3_55 : decode prog_37_method_3_code 55 = .ok (.iadd, 1) := by decide +kernel
theorem d3_56 : decode prog_37_method_3_code 56 = .ok (.iastore, 1) := by decide +kernel
theorem d3_57 : decode prog_37_method_3_code 57 = .ok (.iload_n 3, 1) := by decide +kernel
theorem d3_58 : decode prog_37_method_3_code 58 = .ok (.ireturn, 1) := by decide +kernel
theorem d4_0 : decode prog_37_method_2_code 0 = .ok (.iload_n 1, 1) := by decide +kernel
theorem d4_1 : decode prog_37_method_2_code 1 = .ok (.istore_n 2, 1) := by decide +kernel
theorem d4_2 : decode prog_37_method_2_code 2 = .ok (.aload_n 0, 1) := by decide +kernel
theorem d4_3 : decode prog_37_method_2_code 3 = .ok (.getfield 7, 3) := by decide +kernel
theorem d4_6 : decode prog_37_method_2_code 6 = .ok (.iload_n 2, 1) := by decide +kernel
theorem d4_7 : decode prog_37_method_2_code 7 = .ok (.iaload, 1) := by decide +kernel
theorem d4_8 : decode prog_37_method_2_code 8 = .ok (.iload_n 2, 1) := by decide +kernel
theorem d4_9 : decode prog_37_method_2_code 9 = .ok (.if_icmp .eq 30, 3) := by decide +kernel
theorem d4_12 : decode prog_37_method_2_code 12 = .ok (.aload_n 0, 1) := by decide +kernel
theorem d4_13 : decode prog_37_method_2_code 13 = .ok (.getfield 7, 3) := by decide +kernel
theorem d4_16 : decode prog_37_method_2_code 16 = .ok (.iload_n 2, 1) := by decide +kernel
theorem d4_17 : decode prog_37_method_2_code 17 = .ok (.aload_n 0, 1) := by decide +kernel
theorem d4_18 : decode prog_37_method_2_code 18 = .ok (.getfield 7, 3) := by decide +kernel
theorem d4_21 : decode prog_37_method_2_code 21 = .ok (.aload_n 0, 1) := by decide +kernel
theorem d4_22 : decode prog_37_method_2_code 22 = .ok (.getfield 7, 3) := by decide +kernel
theorem d4_25 : decode prog_37_method_2_code 25 = .ok (.iload_n 2, 1) := by decide +kernel
theorem d4_26 : decode prog_37_method_2_code 26 = .ok (.iaload, 1) := by decide +kernel
theorem d4_27 : decode prog_37_method_2_code 27 = .ok (.iaload, 1) := by decide +kernel
theorem d4_28 : decode prog_37_method_2_code 28 = .ok (.iastore, 1) := by decide +kernel
theorem d4_29 : decode prog_37_method_2_code 29 = .ok (.aload_n 0, 1) := by decide +kernel
theorem d4_30 : decode prog_37_method_2_code 30 = .ok (.getfield 7, 3) := by decide +kernel
theorem d4_33 : decode prog_37_method_2_code 33 = .ok (.iload_n 2, 1) := by decide +kernel
theorem d4_34 : decode prog_37_method_2_code 34 = .ok (.iaload, 1) := by decide +kernel
theorem d4_35 : decode prog_37_method_2_code 35 = .ok (.istore_n 2, 1) := by decide +kernel
theorem d4_36 : decode prog_37_method_2_code 36 = .ok (.goto (-34), 3) := by decide +kernel
theorem d4_39 : decode prog_37_method_2_code 39 = .ok (.iload_n 2, 1) := by decide +kernel
theorem d4_40 : decode prog_37_method_2_code 40 = .ok (.ireturn, 1) := by decide +kernel
theorem d5_0 : decode method_2_code 0 = .ok (.iload_n 0, 1) := by decide +kernel
theorem d5_1 : decode method_2_code 1 = .ok (.iload_n 1, 1) := by decide +kernel
theorem d5_2 : decode method_2_code 2 = .ok (.if_icmp .ge 5, 3) := by decide +kernel
theorem d5_5 : decode method_2_code 5 = .ok (.iload_n 3, 1) := by decide +kernel
theorem d5_6 : decode method_2_code 6 = .ok (.ireturn, 1) := by decide +kernel
theorem d5_7 : decode method_2_code 7 = .ok (.iload_n 0, 1) := by decide +kernel
theorem d5_8 : decode method_2_code 8 = .ok (.iconst 3, 1) := by decide +kernel
theorem d5_9 : decode method_2_code 9 = .ok (.if_icmp .lt 12, 3) := by decide +kernel
theorem d5_12 : decode method_2_code 12 = .ok (.iload_n 0, 1) := by decide +kernel
theorem d5_13 : decode method_2_code 13 = .ok (.iconst 3, 1) := by decide +kernel
theorem d5_14 : decode method_2_code 14 = .ok (.iload_n 2, 1) := by decide +kernel
theorem d5_15 : decode method_2_code 15 = .ok (.iadd, 1) := by decide +kernel
theorem d5_16 : decode method_2_code 16 = .ok (.if_icmp .ge 5, 3) := by decide +kernel
theorem d5_19 : decode method_2_code 19 = .ok (.iload_n 3, 1) := by decide +kernel
theorem d5_20 : decode method_2_code 20 = .ok (.ireturn, 1) := by decide +kernel
theorem d5_21 : decode method_2_code 21 = .ok (.iload_n 0, 1) := by decide +kernel
theorem d5_22 : decode method_2_code 22 = .ok (.ireturn, 1) := by decide +kernel
theorem pd0 : parseMethodDescriptor "(I)V" = some ⟨[.int], none⟩ := by decide +kernel
theorem pd1 : parseMethodDescriptor "(II)I" = some ⟨[.int, .int], some .int⟩ := by decide +kernel
theorem pd2 : parseMethodDescriptor "(I)I" = some ⟨[.int], some .int⟩ := by decide +kernel
theorem pd3 : parseMethodDescriptor "(IIII)I" = some ⟨[.int, .int, .int, .int], some .int⟩ := by decide +kernel
theorem pn0 : plainName "com/example/arborplan/arborplan/tree/DisjointSets" = true := by first | (simp [plainName, overriddenIn]; done) | decide +kernel
theorem pn1 : plainName "com/example/arborplan/arborplan/tree/DisjointSetsUnionPinLaw" = true := by first | (simp [plainName, overriddenIn]; done) | decide +kernel
theorem own_lay_0 {Z : State} {a0 : Array Value} (hw : ∀ d ∈ tables_1, d.before a0 Z = true) : ∀ f ∈ ([("parent", "[I", .null), ("size", "[I", .null)] : List (String × String × Value)), Laid Z a0 "com/example/arborplan/arborplan/tree/DisjointSets" "com/example/arborplan/arborplan/tree/DisjointSets" f.1 f.2.1 ∧ ∃ ty, parseFieldDescriptor f.2.1 = some ty ∧ f.2.2 = defaultValue ty := by
  intro f hf
  simp only [List.mem_cons, List.not_mem_nil, or_false] at hf
  rcases hf with rfl | rfl
  · exact ⟨Or.inr (w12 hw), (.array .int), by decide, rfl⟩
  · exact ⟨Or.inr (w14 hw), (.array .int), by decide, rfl⟩
theorem ef_rm1 (m : MethodId) (a : Addr) : entryFrame m #[(.ref a), (.int (6 : Int32))] 3 = (mkF m 0 #[.val (.ref a), .val (.int (6 : Int32)), .unset] []) := by first | (simp [entryFrame, mkF, argsToLocals, Value.category]; done) | rfl
set_option maxRecDepth 65536 in
set_option maxHeartbeats 40000000 in
theorem rm1 (l : Launch) (Z : State) (a0 : Array Value) (hw : ∀ d ∈ tables_1, d.before a0 Z = true) (n0 : Nat) (a : Addr) :
    Con l Z n0 (⟨"com/example/arborplan/arborplan/tree/DisjointSets", "<init>", "(I)V"⟩ : MethodName) prog_37_method_1_code 3 none ({ frames := 1, cells := 2, slots := 12, locals := 12 } : Room) #[(.ref a), (.int (6 : Int32))] [ob a own_C0 (own_F0 .null .null)] (fun v D' => ∃ b1 b2 : Addr, v = none ∧ D' = [ob a own_C0 (own_F0 (.ref b1) (.ref b2)), ari b1 .int (6 : Int32) [(0 : Int32), (1 : Int32), (2 : Int32), (3 : Int32), (4 : Int32), (5 : Int32)], ari b2 .int (6 : Int32) [(1 : Int32), (1 : Int32), (1 : Int32), (1 : Int32), (1 : Int32), (1 : Int32)]]) := by
  refine Con.of (plainFor_of_name pn0) ?_
  intro p e s m below meth c T cx Y
  obtain ⟨hx, hby, hml, hown, hnm, hret, hlk, hZ⟩ := cx
  rw [ef_rm1]
  generalize hF : Fi Z n0 below s _ _ _ = F
  refine Rn.go (T' := T) (g' := (mkF m 1 #[.val (.ref a), .val (.int (6 : Int32)), .unset] [(.ref a)])) (fun t k => ?_) ?_
  · show Steps p.tables e below (T.setTop (mkF m 0 #[.val (.ref a), .val (.int (6 : Int32)), .unset] [])) t
    refine XS.aloadN Y.here hx rfl (hb hby d1_0) rfl rfl ?_
    show Steps p.tables e below (T.setTop (mkF m 1 #[.val (.ref a), .val (.int (6 : Int32)), .unset] [(.ref a)])) t
    exact k
  refine On.ini Y hx hZ hown (w7 hw) (w8 hw) (w9 hw) (g := (mkF m 1 #[.val (.ref a), .val (.int (6 : Int32)), .unset] [(.ref a)])) rfl (by rw [hml]; rfl) rfl (hb hby d1_1) (by decide) (W := 0) (by show 2 * 0 + _ ≤ _; exact Nat.le_of_eq rfl) (by decide) fun T1 Y2 => ?_
  show Rn p e below F T1 (mkF m 4 #[.val (.ref a), .val (.int (6 : Int32)), .unset] [])
  refine Rn.go (T' := T1) (g' := (mkF m 6 #[.val (.ref a), .val (.int (6 : Int32)), .unset] [(.int (6 : Int32)), (.ref a)])) (fun t k => ?_) ?_
  · show Steps p.tables e below (T1.setTop (mkF m 4 #[.val (.ref a), .val (.int (6 : Int32)), .unset] [])) t
    refine XS.aloadN Y2.here hx rfl (hb hby d1_4) rfl rfl ?_
    show Steps p.tables e below (T1.setTop (mkF m 5 #[.val (.ref a), .val (.int (6 : Int32)), .unset] [(.ref a)])) t
    refine XS.iloadN Y2.here hx rfl (hb hby d1_5) rfl ?_
    show Steps p.tables e below (T1.setTop (mkF m 6 #[.val (.ref a), .val (.int (6 : Int32)), .unset] [(.int (6 : Int32)), (.ref a)])) t
    exact k
  refine On.newp Y2 hx hZ (aty := .int) (w10 hw) (g := (mkF m 6 #[.val (.ref a), .val (.int (6 : Int32)), .unset] [(.int (6 : Int32)), (.ref a)])) rfl (hb hby d1_6) rfl (by decide) (N := 6) (cap := 6) rfl (by decide) (by decide) (by decide) (by decide) (dv := (.int (0 : Int32))) rfl fun T3 a5 Y4 => ?_
  replace Y4 : On p l e _ s m _ below meth c Z n0 T3 1 6 [ob a own_C0 (own_F0 .null .null), ari a5 .int (6 : Int32) [(0 : Int32), (0 : Int32), (0 : Int32), (0 : Int32), (0 : Int32), (0 : Int32)]] := Y4
  show Rn p e below F T3 (mkF m 8 #[.val (.ref a), .val (.int (6 : Int32)), .unset] [(.ref a5), (.ref a)])
  refine On.putf Y4 hx hZ hown (w11 hw) (i := 0) (j := 0) rfl rfl (Or.inr ⟨(w12 hw), rfl, hnm⟩) (w2 hw) (ty := (.array .int)) (by decide) (v' := (.ref a5)) rfl rfl (g := (mkF m 8 #[.val (.ref a), .val (.int (6 : Int32)), .unset] [(.ref a5), (.ref a)])) rfl rfl (hb hby d1_8) fun T6 Y7 => ?_
  replace Y7 : On p l e _ s m _ below meth c Z n0 T6 1 6 [ob a own_C0 (own_F0 (.ref a5) .null), ari a5 .int (6 : Int32) [(0 : Int32), (0 : Int32), (0 : Int32), (0 : Int32), (0 : Int32), (0 : Int32)]] := Y7
  show Rn p e below F T6 (mkF m 11 #[.val (.ref a), .val (.int (6 : Int32)), .unset] [])
  refine Rn.go (T' := T6) (g' := (mkF m 13 #[.val (.ref a), .val (.int (6 : Int32)), .unset] [(.int (6 : Int32)), (.ref a)])) (fun t k => ?_) ?_
  · show Steps p.tables e below (T6.setTop (mkF m 11 #[.val (.ref a), .val (.int (6 : Int32)), .unset] [])) t
    refine XS.aloadN Y7.here hx rfl (hb hby d1_11) rfl rfl ?_
    show Steps p.tables e below (T6.setTop (mkF m 12 #[.val (.ref a), .val (.int (6 : Int32)), .unset] [(.ref a)])) t
    refine XS.iloadN Y7.here hx rfl (hb hby d1_12) rfl ?_
    show Steps p.tables e below (T6.setTop (mkF m 13 #[.val (.ref a), .val (.int (6 : Int32)), .unset] [(.int (6 : Int32)), (.ref a)])) t
    exact k
  refine On.newp Y7 hx hZ (aty := .int) (w10 hw) (g := (mkF m 13 #[.val (.ref a), .val (.int (6 : Int32)), .unset] [(.int (6 : Int32)), (.ref a)])) rfl (hb hby d1_13) rfl (by decide) (N := 6) (cap := 6) rfl (by decide) (by decide) (by decide) (by decide) (dv := (.int (0 : Int32))) rfl fun T8 a10 Y9 => ?_
  replace Y9 : On p l e _ s m _ below meth c Z n0 T8 2 12 [ob a own_C0 (own_F0 (.ref a5) .null), ari a5 .int (6 : Int32) [(0 : Int32), (0 : Int32), (0 : Int32), (0 : Int32), (0 : Int32), (0 : Int32)], ari a10 .int (6 : Int32) [(0 : Int32), (0 : Int32), (0 : Int32), (0 : Int32), (0 : Int32), (0 : Int32)]] := Y9
  show Rn p e below F T8 (mkF m 15 #[.val (.ref a), .val (.int (6 : Int32)), .unset] [(.ref a10), (.ref a)])
  refine On.putf Y9 hx hZ hown (w13 hw) (i := 0) (j := 1) rfl rfl (Or.inr ⟨(w14 hw), rfl, hnm⟩) (w2 hw) (ty := (.array .int)) (by decide) (v' := (.ref a10)) rfl rfl (g := (mkF m 15 #[.val (.ref a), .val (.int (6 : Int32)), .unset] [(.ref a10), (.ref a)])) rfl rfl (hb hby d1_15) fun T11 Y12 => ?_
  replace Y12 : On p l e _ s m _ below meth c Z n0 T11 2 12 [ob a own_C0 (own_F0 (.ref a5) (.ref a10)), ari a5 .int (6 : Int32) [(0 : Int32), (0 : Int32), (0 : Int32), (0 : Int32), (0 : Int32), (0 : Int32)], ari a10 .int (6 : Int32) [(0 : Int32), (0 : Int32), (0 : Int32), (0 : Int32), (0 : Int32), (0 : Int32)]] := Y12
  show Rn p e below F T11 (mkF m 18 #[.val (.ref a), .val (.int (6 : Int32)), .unset] [])
  refine Rn.go (T' := T11) (g' := (mkF m 22 #[.val (.ref a), .val (.int (6 : Int32)), .val (.int (0 : Int32))] [(.int (6 : Int32)), (.int (0 : Int32))])) (fun t k => ?_) ?_
  · show Steps p.tables e below (T11.setTop (mkF m 18 #[.val (.ref a), .val (.int (6 : Int32)), .unset] [])) t
    refine XS.iconst Y12.here hx rfl (hb hby d1_18) ?_
    show Steps p.tables e below (T11.setTop (mkF m 19 #[.val (.ref a), .val (.int (6 : Int32)), .unset] [(.int (0 : Int32))])) t
    refine XS.istoreN Y12.here hx rfl (hb hby d1_19) rfl (l' := #[.val (.ref a), .val (.int (6 : Int32)), .val (.int (0 : Int32))]) rfl ?_
    show Steps p.tables e below (T11.setTop (mkF m 20 #[.val (.ref a), .val (.int (6 : Int32)), .val (.int (0 : Int32))] [])) t
    refine XS.iloadN Y12.here hx rfl (hb hby d1_20) rfl ?_
    show Steps p.tables e below (T11.setTop (mkF m 21 #[.val (.ref a), .val (.int (6 : Int32)), .val (.int (0 : Int32))] [(.int (0 : Int32))])) t
    refine XS.iloadN Y12.here hx rfl (hb hby d1_21) rfl ?_
    show Steps p.tables e below (T11.setTop (mkF m 22 #[.val (.ref a), .val (.int (6 : Int32)), .val (.int (0 : Int32))] [(.int (6 : Int32)), (.int (0 : Int32))])) t
    exact k
  refine Rn.go (T' := T11) (g' := (mkF m 25 #[.val (.ref a), .val (.int (6 : Int32)), .val (.int (0 : Int32))] [])) (fun t k => XS.icmpNo Y12.here hx rfl (hb hby d1_22) rfl (tlt (by decide)).2.1 k) ?_
  refine Rn.go (T' := T11) (g' := (mkF m 26 #[.val (.ref a), .val (.int (6 : Int32)), .val (.int (0 : Int32))] [(.ref a)])) (fun t k => ?_) ?_
  · show Steps p.tables e below (T11.setTop (mkF m 25 #[.val (.ref a), .val (.int (6 : Int32)), .val (.int (0 : Int32))] [])) t
    refine XS.aloadN Y12.here hx rfl (hb hby d1_25) rfl rfl ?_
    show Steps p.tables e below (T11.setTop (mkF m 26 #[.val (.ref a), .val (.int (6 : Int32)), .val (.int (0 : Int32))] [(.ref a)])) t
    exact k
  refine On.getf Y12 hx hZ hown (w11 hw) (i := 0) (j := 0) rfl rfl (g := (mkF m 26 #[.val (.ref a), .val (.int (6 : Int32)), .val (.int (0 : Int32))] [(.ref a)])) rfl rfl (hb hby d1_26) fun T13 Y14 => ?_
  show Rn p e below F T13 (mkF m 29 #[.val (.ref a), .val (.int (6 : Int32)), .val (.int (0 : Int32))] [(.ref a5)])
  refine Rn.go (T' := T13) (g' := (mkF m 31 #[.val (.ref a), .val (.int (6 : Int32)), .val (.int (0 : Int32))] [(.int (0 : Int32)), (.int (0 : Int32)), (.ref a5)])) (fun t k => ?_) ?_
  · show Steps p.tables e below (T13.setTop (mkF m 29 #[.val (.ref a), .val (.int (6 : Int32)), .val (.int (0 : Int32))] [(.ref a5)])) t
    refine XS.iloadN Y14.here hx rfl (hb hby d1_29) rfl ?_
    show Steps p.tables e below (T13.setTop (mkF m 30 #[.val (.ref a), .val (.int (6 : Int32)), .val (.int (0 : Int32))] [(.int (0 : Int32)), (.ref a5)])) t
    refine XS.iloadN Y14.here hx rfl (hb hby d1_30) rfl ?_
    show Steps p.tables e below (T13.setTop (mkF m 31 #[.val (.ref a), .val (.int (6 : Int32)), .val (.int (0 : Int32))] [(.int (0 : Int32)), (.int (0 : Int32)), (.ref a5)])) t
    exact k
  refine On.isto Y14 hx hZ (i := 1) rfl (by decide) (by show 0 < 6; decide) (g := (mkF m 31 #[.val (.ref a), .val (.int (6 : Int32)), .val (.int (0 : Int32))] [(.int (0 : Int32)), (.int (0 : Int32)), (.ref a5)])) rfl rfl (hb hby d1_31) fun T15 Y16 => ?_
  replace Y16 : On p l e _ s m _ below meth c Z n0 T15 2 12 [ob a own_C0 (own_F0 (.ref a5) (.ref a10)), ari a5 .int (6 : Int32) [(0 : Int32), (0 : Int32), (0 : Int32), (0 : Int32), (0 : Int32), (0 : Int32)], ari a10 .int (6 : Int32) [(0 : Int32), (0 : Int32), (0 : Int32), (0 : Int32), (0 : Int32), (0 : Int32)]] := Y16
  show Rn p e below F T15 (mkF m 32 #[.val (.ref a), .val (.int (6 : Int32)), .val (.int (0 : Int32))] [])
  refine Rn.go (T' := T15) (g' := (mkF m 33 #[.val (.ref a), .val (.int (6 : Int32)), .val (.int (0 : Int32))] [(.ref a)])) (fun t k => ?_) ?_
  · show Steps p.tables e below (T15.setTop (mkF m 32 #[.val (.ref a), .val (.int (6 : Int32)), .val (.int (0 : Int32))] [])) t
    refine XS.aloadN Y16.here hx rfl (hb hby d1_32) rfl rfl ?_
    show Steps p.tables e below (T15.setTop (mkF m 33 #[.val (.ref a), .val (.int (6 : Int32)), .val (.int (0 : Int32))] [(.ref a)])) t
    exact k
  refine On.getf Y16 hx hZ hown (w13 hw) (i := 0) (j := 1) rfl rfl (g := (mkF m 33 #[.val (.ref a), .val (.int (6 : Int32)), .val (.int (0 : Int32))] [(.ref a)])) rfl rfl (hb hby d1_33) fun T17 Y18 => ?_
  show Rn p e below F T17 (mkF m 36 #[.val (.ref a), .val (.int (6 : Int32)), .val (.int (0 : Int32))] [(.ref a10)])
  refine Rn.go (T' := T17) (g' := (mkF m 38 #[.val (.ref a), .val (.int (6 : Int32)), .val (.int (0 : Int32))] [(.int (1 : Int32)), (.int (0 : Int32)), (.ref a10)])) (fun t k => ?_) ?_
  · show Steps p.tables e below (T17.setTop (mkF m 36 #[.val (.ref a), .val (.int (6 : Int32)), .val (.int (0 : Int32))] [(.ref a10)])) t
    refine XS.iloadN Y18.here hx rfl (hb hby d1_36) rfl ?_
    show Steps p.tables e below (T17.setTop (mkF m 37 #[.val (.ref a), .val (.int (6 : Int32)), .val (.int (0 : Int32))] [(.int (0 : Int32)), (.ref a10)])) t
    refine XS.iconst Y18.here hx rfl (hb hby d1_37) ?_
    show Steps p.tables e below (T17.setTop (mkF m 38 #[.val (.ref a), .val (.int (6 : Int32)), .val (.int (0 : Int32))] [(.int (1 : Int32)), (.int (0 : Int32)), (.ref a10)])) t
    exact k
  refine On.isto Y18 hx hZ (i := 2) rfl (by decide) (by show 0 < 6; decide) (g := (mkF m 38 #[.val (.ref a), .val (.int (6 : Int32)), .val (.int (0 : Int32))] [(.int (1 : Int32)), (.int (0 : Int32)), (.ref a10)])) rfl rfl (hb hby d1_38) fun T19 Y20 => ?_
  replace Y20 : On p l e _ s m _ below meth c Z n0 T19 2 12 [ob a own_C0 (own_F0 (.ref a5) (.ref a10)), ari a5 .int (6 : Int32) [(0 : Int32), (0 : Int32), (0 : Int32), (0 : Int32), (0 : Int32), (0 : Int32)], ari a10 .int (6 : Int32) [(1 : Int32), (0 : Int32), (0 : Int32), (0 : Int32), (0 : Int32), (0 : Int32)]] := Y20
  show Rn p e below F T19 (mkF m 39 #[.val (.ref a), .val (.int (6 : Int32)), .val (.int (0 : Int32))] [])
  refine Rn.go (T' := T19) (g' := (mkF m 22 #[.val (.ref a), .val (.int (6 : Int32)), .val (.int (1 : Int32))] [(.int (6 : Int32)), (.int (1 : Int32))])) (fun t k => ?_) ?_
  · show Steps p.tables e below (T19.setTop (mkF m 39 #[.val (.ref a), .val (.int (6 : Int32)), .val (.int (0 : Int32))] [])) t
    refine XS.iinc Y20.here hx rfl (hb hby d1_39) rfl (l' := #[.val (.ref a), .val (.int (6 : Int32)), .val (.int (1 : Int32))]) rfl ?_
    show Steps p.tables e below (T19.setTop (mkF m 42 #[.val (.ref a), .val (.int (6 : Int32)), .val (.int (1 : Int32))] [])) t
    refine XS.goto Y20.here hx rfl (pc0 := 42) (pc' := 20) rfl (hb hby d1_42) (by decide) (by decide) ?_
    show Steps p.tables e below (T19.setTop (mkF m 20 #[.val (.ref a), .val (.int (6 : Int32)), .val (.int (1 : Int32))] [])) t
    refine XS.iloadN Y20.here hx rfl (hb hby d1_20) rfl ?_
    show Steps p.tables e below (T19.setTop (mkF m 21 #[.val (.ref a), .val (.int (6 : Int32)), .val (.int (1 : Int32))] [(.int (1 : Int32))])) t
    refine XS.iloadN Y20.here hx rfl (hb hby d1_21) rfl ?_
    show Steps p.tables e below (T19.setTop (mkF m 22 #[.val (.ref a), .val (.int (6 : Int32)), .val (.int (1 : Int32))] [(.int (6 : Int32)), (.int (1 : Int32))])) t
    exact k
  refine Rn.go (T' := T19) (g' := (mkF m 25 #[.val (.ref a), .val (.int (6 : Int32)), .val (.int (1 : Int32))] [])) (fun t k => XS.icmpNo Y20.here hx rfl (hb hby d1_22) rfl (tlt (by decide)).2.1 k) ?_
  refine Rn.go (T' := T19) (g' := (mkF m 26 #[.val (.ref a), .val (.int (6 : Int32)), .val (.int (1 : Int32))] [(.ref a)])) (fun t k => ?_) ?_
  · show Steps p.tables e below (T19.setTop (mkF m 25 #[.val (.ref a), .val (.int (6 : Int32)), .val (.int (1 : Int32))] [])) t
    refine XS.aloadN Y20.here hx rfl (hb hby d1_25) rfl rfl ?_
    show Steps p.tables e below (T19.setTop (mkF m 26 #[.val (.ref a), .val (.int (6 : Int32)), .val (.int (1 : Int32))] [(.ref a)])) t
    exact k
  refine On.getf Y20 hx hZ hown (w11 hw) (i := 0) (j := 0) rfl rfl (g := (mkF m 26 #[.val (.ref a), .val (.int (6 : Int32)), .val (.int (1 : Int32))] [(.ref a)])) rfl rfl (hb hby d1_26) fun T21 Y22 => ?_
  show Rn p e below F T21 (mkF m 29 #[.val (.ref a), .val (.int (6 : Int32)), .val (.int (1 : Int32))] [(.ref a5)])
  refine Rn.go (T' := T21) (g' := (mkF m 31 #[.val (.ref a), .val (.int (6 : Int32)), .val (.int (1 : Int32))] [(.int (1 : Int32)), (.int (1 : Int32)), (.ref a5)])) (fun t k => ?_) ?_
  · show Steps p.tables e below (T21.setTop (mkF m 29 #[.val (.ref a), .val (.int (6 : Int32)), .val (.int (1 : Int32))] [(.ref a5)])) t
    refine XS.iloadN Y22.here hx rfl (hb hby d1_29) rfl ?_
    show Steps p.tables e below (T21.setTop (mkF m 30 #[.val (.ref a), .val (.int (6 : Int32)), .val (.int (1 : Int32))] [(.int (1 : Int32)), (.ref a5)])) t
    refine XS.iloadN Y22.here hx rfl (hb hby d1_30) rfl ?_
    show Steps p.tables e below (T21.setTop (mkF m 31 #[.val (.ref a), .val (.int (6 : Int32)), .val (.int (1 : Int32))] [(.int (1 : Int32)), (.int (1 : Int32)), (.ref a5)])) t
    exact k
  refine On.isto Y22 hx hZ (i := 1) rfl (by decide) (by show 1 < 6; decide) (g := (mkF m 31 #[.val (.ref a), .val (.int (6 : Int32)), .val (.int (1 : Int32))] [(.int (1 : Int32)), (.int (1 : Int32)), (.ref a5)])) rfl rfl (hb hby d1_31) fun T23 Y24 => ?_
  replace Y24 : On p l e _ s m _ below meth c Z n0 T23 2 12 [ob a own_C0 (own_F0 (.ref a5) (.ref a10)), ari a5 .int (6 : Int32) [(0 : Int32), (1 : Int32), (0 : Int32), (0 : Int32), (0 : Int32), (0 : Int32)], ari a10 .int (6 : Int32) [(1 : Int32), (0 : Int32), (0 : Int32), (0 : Int32), (0 : Int32), (0 : Int32)]] := Y24
  show Rn p e below F T23 (mkF m 32 #[.val (.ref a), .val (.int (6 : Int32)), .val (.int (1 : Int32))] [])
  refine Rn.go (T' := T23) (g' := (mkF m 33 #[.val (.ref a), .val (.int (6 : Int32)), .val (.int (1 : Int32))] [(.ref a)])) (fun t k => ?_) ?_
  · show Steps p.tables e below (T23.setTop (mkF m 32 #[.val (.ref a), .val (.int (6 : Int32)), .val (.int (1 : Int32))] [])) t
    refine XS.aloadN Y24.here hx rfl (hb hby d1_32) rfl rfl ?_
    show Steps p.tables e below (T23.setTop (mkF m 33 #[.val (.ref a), .val (.int (6 : Int32)), .val (.int (1 : Int32))] [(.ref a)])) t
    exact k
  refine On.getf Y24 hx hZ hown (w13 hw) (i := 0) (j := 1) rfl rfl (g := (mkF m 33 #[.val (.ref a), .val (.int (6 : Int32)), .val (.int (1 : Int32))] [(.ref a)])) rfl rfl (hb hby d1_33) fun T25 Y26 => ?_
  show Rn p e below F T25 (mkF m 36 #[.val (.ref a), .val (.int (6 : Int32)), .val (.int (1 : Int32))] [(.ref a10)])
  refine Rn.go (T' := T25) (g' := (mkF m 38 #[.val (.ref a), .val (.int (6 : Int32)), .val (.int (1 : Int32))] [(.int (1 : Int32)), (.int (1 : Int32)), (.ref a10)])) (fun t k => ?_) ?_
  · show Steps p.tables e below (T25.setTop (mkF m 36 #[.val (.ref a), .val (.int (6 : Int32)), .val (.int (1 : Int32))] [(.ref a10)])) t
    refine XS.iloadN Y26.here hx rfl (hb hby d1_36) rfl ?_
    show Steps p.tables e below (T25.setTop (mkF m 37 #[.val (.ref a), .val (.int (6 : Int32)), .val (.int (1 : Int32))] [(.int (1 : Int32)), (.ref a10)])) t
    refine XS.iconst Y26.here hx rfl (hb hby d1_37) ?_
    show Steps p.tables e below (T25.setTop (mkF m 38 #[.val (.ref a), .val (.int (6 : Int32)), .val (.int (1 : Int32))] [(.int (1 : Int32)), (.int (1 : Int32)), (.ref a10)])) t
    exact k
  refine On.isto Y26 hx hZ (i := 2) rfl (by decide) (by show 1 < 6; decide) (g := (mkF m 38 #[.val (.ref a), .val (.int (6 : Int32)), .val (.int (1 : Int32))] [(.int (1 : Int32)), (.int (1 : Int32)), (.ref a10)])) rfl rfl (hb hby d1_38) fun T27 Y28 => ?_
  replace Y28 : On p l e _ s m _ below meth c Z n0 T27 2 12 [ob a own_C0 (own_F0 (.ref a5) (.ref a10)), ari a5 .int (6 : Int32) [(0 : Int32), (1 : Int32), (0 : Int32), (0 : Int32), (0 : Int32), (0 : Int32)], ari a10 .int (6 : Int32) [(1 : Int32), (1 : Int32), (0 : Int32), (0 : Int32), (0 : Int32), (0 : Int32)]] := Y28
  show Rn p e below F T27 (mkF m 39 #[.val (.ref a), .val (.int (6 : Int32)), .val (.int (1 : Int32))] [])
  refine Rn.go (T' := T27) (g' := (mkF m 22 #[.val (.ref a), .val (.int (6 : Int32)), .val (.int (2 : Int32))] [(.int (6 : Int32)), (.int (2 : Int32))])) (fun t k => ?_) ?_
  · show Steps p.tables e below (T27.setTop (mkF m 39 #[.val (.ref a), .val (.int (6 : Int32)), .val (.int (1 : Int32))] [])) t
    refine XS.iinc Y28.here hx rfl (hb hby d1_39) rfl (l' := #[.val (.ref a), .val (.int (6 : Int32)), .val (.int (2 : Int32))]) rfl ?_
    show Steps p.tables e below (T27.setTop (mkF m 42 #[.val (.ref a), .val (.int (6 : Int32)), .val (.int (2 : Int32))] [])) t
    refine XS.goto Y28.here hx rfl (pc0 := 42) (pc' := 20) rfl (hb hby d1_42) (by decide) (by decide) ?_
    show Steps p.tables e below (T27.setTop (mkF m 20 #[.val (.ref a), .val (.int (6 : Int32)), .val (.int (2 : Int32))] [])) t
    refine XS.iloadN Y28.here hx rfl (hb hby d1_20) rfl ?_
    show Steps p.tables e below (T27.setTop (mkF m 21 #[.val (.ref a), .val (.int (6 : Int32)), .val (.int (2 : Int32))] [(.int (2 : Int32))])) t
    refine XS.iloadN Y28.here hx rfl (hb hby d1_21) rfl ?_
    show Steps p.tables e below (T27.setTop (mkF m 22 #[.val (.ref a), .val (.int (6 : Int32)), .val (.int (2 : Int32))] [(.int (6 : Int32)), (.int (2 : Int32))])) t
    exact k
  refine Rn.go (T' := T27) (g' := (mkF m 25 #[.val (.ref a), .val (.int (6 : Int32)), .val (.int (2 : Int32))] [])) (fun t k => XS.icmpNo Y28.here hx rfl (hb hby d1_22) rfl (tlt (by decide)).2.1 k) ?_
  refine Rn.go (T' := T27) (g' := (mkF m 26 #[.val (.ref a), .val (.int (6 : Int32)), .val (.int (2 : Int32))] [(.ref a)])) (fun t k => ?_) ?_
  · show Steps p.tables e below (T27.setTop (mkF m 25 #[.val (.ref a), .val (.int (6 : Int32)), .val (.int (2 : Int32))] [])) t
    refine XS.aloadN Y28.here hx rfl (hb hby d1_25) rfl rfl ?_
    show Steps p.tables e below (T27.setTop (mkF m 26 #[.val (.ref a), .val (.int (6 : Int32)), .val (.int (2 : Int32))] [(.ref a)])) t
    exact k
  refine On.getf Y28 hx hZ hown (w11 hw) (i := 0) (j := 0) rfl rfl (g := (mkF m 26 #[.val (.ref a), .val (.int (6 : Int32)), .val (.int (2 : Int32))] [(.ref a)])) rfl rfl (hb hby d1_26) fun T29 Y30 => ?_
  show Rn p e below F T29 (mkF m 29 #[.val (.ref a), .val (.int (6 : Int32)), .val (.int (2 : Int32))] [(.ref a5)])
  refine Rn.go (T' := T29) (g' := (mkF m 31 #[.val (.ref a), .val (.int (6 : Int32)), .val (.int (2 : Int32))] [(.int (2 : Int32)), (.int (2 : Int32)), (.ref a5)])) (fun t k => ?_) ?_
  · show Steps p.tables e below (T29.setTop (mkF m 29 #[.val (.ref a), .val (.int (6 : Int32)), .val (.int (2 : Int32))] [(.ref a5)])) t
    refine XS.iloadN Y30.here hx rfl (hb hby d1_29) rfl ?_
    show Steps p.tables e below (T29.setTop (mkF m 30 #[.val (.ref a), .val (.int (6 : Int32)), .val (.int (2 : Int32))] [(.int (2 : Int32)), (.ref a5)])) t
    refine XS.iloadN Y30.here hx rfl (hb hby d1_30) rfl ?_
    show Steps p.tables e below (T29.setTop (mkF m 31 #[.val (.ref a), .val (.int (6 : Int32)), .val (.int (2 : Int32))] [(.int (2 : Int32)), (.int (2 : Int32)), (.ref a5)])) t
    exact k
  refine On.isto Y30 hx hZ (i := 1) rfl (by decide) (by show 2 < 6; decide) (g := (mkF m 31 #[.val (.ref a), .val (.int (6 : Int32)), .val (.int (2 : Int32))] [(.int (2 : Int32)), (.int (2 : Int32)), (.ref a5)])) rfl rfl (hb hby d1_31) fun T31 Y32 => ?_
  replace Y32 : On p l e _ s m _ below meth c Z n0 T31 2 12 [ob a own_C0 (own_F0 (.ref a5) (.ref a10)), ari a5 .int (6 : Int32) [(0 : Int32), (1 : Int32), (2 : Int32), (0 : Int32), (0 : Int32), (0 : Int32)], ari a10 .int (6 : Int32) [(1 : Int32), (1 : Int32), (0 : Int32), (0 : Int32), (0 : Int32), (0 : Int32)]] := Y32
  show Rn p e below F T31 (mkF m 32 #[.val (.ref a), .val (.int (6 : Int32)), .val (.int (2 : Int32))] [])
  refine Rn.go (T' := T31) (g' := (mkF m 33 #[.val (.ref a), .val (.int (6 : Int32)), .val (.int (2 : Int32))] [(.ref a)])) (fun t k => ?_) ?_
  · show Steps p.tables e below (T31.setTop (mkF m 32 #[.val (.ref a), .val (.int (6 : Int32)), .val (.int (2 : Int32))] [])) t
    refine XS.aloadN Y32.here hx rfl (hb hby d1_32) rfl rfl ?_
    show Steps p.tables e below (T31.setTop (mkF m 33 #[.val (.ref a), .val (.int (6 : Int32)), .val (.int (2 : Int32))] [(.ref a)])) t
    exact k
  refine On.getf Y32 hx hZ hown (w13 hw) (i := 0) (j := 1) rfl rfl (g := (mkF m 33 #[.val (.ref a), .val (.int (6 : Int32)), .val (.int (2 : Int32))] [(.ref a)])) rfl rfl (hb hby d1_33) fun T33 Y34 => ?_
  show Rn p e below F T33 (mkF m 36 #[.val (.ref a), .val (.int (6 : Int32)), .val (.int (2 : Int32))] [(.ref a10)])
  refine Rn.go (T' := T33) (g' := (mkF m 38 #[.val (.ref a), .val (.int (6 : Int32)), .val (.int (2 : Int32))] [(.int (1 : Int32)), (.int (2 : Int32)), (.ref a10)])) (fun t k => ?_) ?_
  · show Steps p.tables e below (T33.setTop (mkF m 36 #[.val (.ref a), .val (.int (6 : Int32)), .val (.int (2 : Int32))] [(.ref a10)])) t
    refine XS.iloadN Y34.here hx rfl (hb hby d1_36) rfl ?_
    show Steps p.tables e below (T33.setTop (mkF m 37 #[.val (.ref a), .val (.int (6 : Int32)), .val (.int (2 : Int32))] [(.int (2 : Int32)), (.ref a10)])) t
    refine XS.iconst Y34.here hx rfl (hb hby d1_37) ?_
    show Steps p.tables e below (T33.setTop (mkF m 38 #[.val (.ref a), .val (.int (6 : Int32)), .val (.int (2 : Int32))] [(.int (1 : Int32)), (.int (2 : Int32)), (.ref a10)])) t
    exact k
  refine On.isto Y34 hx hZ (i := 2) rfl (by decide) (by show 2 < 6; decide) (g := (mkF m 38 #[.val (.ref a), .val (.int (6 : Int32)), .val (.int (2 : Int32))] [(.int (1 : Int32)), (.int (2 : Int32)), (.ref a10)])) rfl rfl (hb hby d1_38) fun T35 Y36 => ?_
  replace Y36 : On p l e _ s m _ below meth c Z n0 T35 2 12 [ob a own_C0 (own_F0 (.ref a5) (.ref a10)), ari a5 .int (6 : Int32) [(0 : Int32), (1 : Int32), (2 : Int32), (0 : Int32), (0 : Int32), (0 : Int32)], ari a10 .int (6 : Int32) [(1 : Int32), (1 : Int32), (1 : Int32), (0 : Int32), (0 : Int32), (0 : Int32)]] := Y36
  show Rn p e below F T35 (mkF m 39 #[.val (.ref a), .val (.int (6 : Int32)), .val (.int (2 : Int32))] [])
  refine Rn.go (T' := T35) (g' := (mkF m 22 #[.val (.ref a), .val (.int (6 : Int32)), .val (.int (3 : Int32))] [(.int (6 : Int32)), (.int (3 : Int32))])) (fun t k => ?_) ?_
  · show Steps p.tables e below (T35.setTop (mkF m 39 #[.val (.ref a), .val (.int (6 : Int32)), .val (.int (2 : Int32))] [])) t
    refine XS.iinc Y36.here hx rfl (hb hby d1_39) rfl (l' := #[.val (.ref a), .val (.int (6 : Int32)), .val (.int (3 : Int32))]) rfl ?_
    show Steps p.tables e below (T35.setTop (mkF m 42 #[.val (.ref a), .val (.int (6 : Int32)), .val (.int (3 : Int32))] [])) t
    refine XS.goto Y36.here hx rfl (pc0 := 42) (pc' := 20) rfl (hb hby d1_42) (by decide) (by decide) ?_
    show Steps p.tables e below (T35.setTop (mkF m 20 #[.val (.ref a), .val (.int (6 : Int32)), .val (.int (3 : Int32))] [])) t
    refine XS.iloadN Y36.here hx rfl (hb hby d1_20) rfl ?_
    show Steps p.tables e below (T35.setTop (mkF m 21 #[.val (.ref a), .val (.int (6 : Int32)), .val (.int (3 : Int32))] [(.int (3 : Int32))])) t
    refine XS.iloadN Y36.here hx rfl (hb hby d1_21) rfl ?_
    show Steps p.tables e below (T35.setTop (mkF m 22 #[.val (.ref a), .val (.int (6 : Int32)), .val (.int (3 : Int32))] [(.int (6 : Int32)), (.int (3 : Int32))])) t
    exact k
  refine Rn.go (T' := T35) (g' := (mkF m 25 #[.val (.ref a), .val (.int (6 : Int32)), .val (.int (3 : Int32))] [])) (fun t k => XS.icmpNo Y36.here hx rfl (hb hby d1_22) rfl (tlt (by decide)).2.1 k) ?_
  refine Rn.go (T' := T35) (g' := (mkF m 26 #[.val (.ref a), .val (.int (6 : Int32)), .val (.int (3 : Int32))] [(.ref a)])) (fun t k => ?_) ?_
  · show Steps p.tables e below (T35.setTop (mkF m 25 #[.val (.ref a), .val (.int (6 : Int32)), .val (.int (3 : Int32))] [])) t
    refine XS.aloadN Y36.here hx rfl (hb hby d1_25) rfl rfl ?_
    show Steps p.tables e below (T35.setTop (mkF m 26 #[.val (.ref a), .val (.int (6 : Int32)), .val (.int (3 : Int32))] [(.ref a)])) t
    exact k
  refine On.getf Y36 hx hZ hown (w11 hw) (i := 0) (j := 0) rfl rfl (g := (mkF m 26 #[.val (.ref a), .val (.int (6 : Int32)), .val (.int (3 : Int32))] [(.ref a)])) rfl rfl (hb hby d1_26) fun T37 Y38 => ?_
  show Rn p e below F T37 (mkF m 29 #[.val (.ref a), .val (.int (6 : Int32)), .val (.int (3 : Int32))] [(.ref a5)])
  refine Rn.go (T' := T37) (g' := (mkF m 31 #[.val (.ref a), .val (.int (6 : Int32)), .val (.int (3 : Int32))] [(.int (3 : Int32)), (.int (3 : Int32)), (.ref a5)])) (fun t k => ?_) ?_
  · show Steps p.tables e below (T37.setTop (mkF m 29 #[.val (.ref a), .val (.int (6 : Int32)), .val (.int (3 : Int32))] [(.ref a5)])) t
    refine XS.iloadN Y38.here hx rfl (hb hby d1_29) rfl ?_
    show Steps p.tables e below (T37.setTop (mkF m 30 #[.val (.ref a), .val (.int (6 : Int32)), .val (.int (3 : Int32))] [(.int (3 : Int32)), (.ref a5)])) t
    refine XS.iloadN Y38.here hx rfl (hb hby d1_30) rfl ?_
    show Steps p.tables e below (T37.setTop (mkF m 31 #[.val (.ref a), .val (.int (6 : Int32)), .val (.int (3 : Int32))] [(.int (3 : Int32)), (.int (3 : Int32)), (.ref a5)])) t
    exact k
  refine On.isto Y38 hx hZ (i := 1) rfl (by decide) (by show 3 < 6; decide) (g := (mkF m 31 #[.val (.ref a), .val (.int (6 : Int32)), .val (.int (3 : Int32))] [(.int (3 : Int32)), (.int (3 : Int32)), (.ref a5)])) rfl rfl (hb hby d1_31) fun T39 Y40 => ?_
  replace Y40 : On p l e _ s m _ below meth c Z n0 T39 2 12 [ob a own_C0 (own_F0 (.ref a5) (.ref a10)), ari a5 .int (6 : Int32) [(0 : Int32), (1 : Int32), (2 : Int32), (3 : Int32), (0 : Int32), (0 : Int32)], ari a10 .int (6 : Int32) [(1 : Int32), (1 : Int32), (1 : Int32), (0 : Int32), (0 : Int32), (0 : Int32)]] := Y40
  show Rn p e below F T39 (mkF m 32 #[.val (.ref a), .val (.int (6 : Int32)), .val (.int (3 : Int32))] [])
  refine Rn.go (T' := T39) (g' := (mkF m 33 #[.val (.ref a), .val (.int (6 : Int32)), .val (.int (3 : Int32))] [(.ref a)])) (fun t k => ?_) ?_
  · show Steps p.tables e below (T39.setTop (mkF m 32 #[.val (.ref a), .val (.int (6 : Int32)), .val (.int (3 : Int32))] [])) t
    refine XS.aloadN Y40.here hx rfl (hb hby d1_32) rfl rfl ?_
    show Steps p.tables e below (T39.setTop (mkF m 33 #[.val (.ref a), .val (.int (6 : Int32)), .val (.int (3 : Int32))] [(.ref a)])) t
    exact k
  refine On.getf Y40 hx hZ hown (w13 hw) (i := 0) (j := 1) rfl rfl (g := (mkF m 33 #[.val (.ref a), .val (.int (6 : Int32)), .val (.int (3 : Int32))] [(.ref a)])) rfl rfl (hb hby d1_33) fun T41 Y42 => ?_
  show Rn p e below F T41 (mkF m 36 #[.val (.ref a), .val (.int (6 : Int32)), .val (.int (3 : Int32))] [(.ref a10)])
  refine Rn.go (T' := T41) (g' := (mkF m 38 #[.val (.ref a), .val (.int (6 : Int32)), .val (.int (3 : Int32))] [(.int (1 : Int32)), (.int (3 : Int32)), (.ref a10)])) (fun t k => ?_) ?_
  · show Steps p.tables e below (T41.setTop (mkF m 36 #[.val (.ref a), .val (.int (6 : Int32)), .val (.int (3 : Int32))] [(.ref a10)])) t
    refine XS.iloadN Y42.here hx rfl (hb hby d1_36) rfl ?_
    show Steps p.tables e below (T41.setTop (mkF m 37 #[.val (.ref a), .val (.int (6 : Int32)), .val (.int (3 : Int32))] [(.int (3 : Int32)), (.ref a10)])) t
    refine XS.iconst Y42.here hx rfl (hb hby d1_37) ?_
    show Steps p.tables e below (T41.setTop (mkF m 38 #[.val (.ref a), .val (.int (6 : Int32)), .val (.int (3 : Int32))] [(.int (1 : Int32)), (.int (3 : Int32)), (.ref a10)])) t
    exact k
  refine On.isto Y42 hx hZ (i := 2) rfl (by decide) (by show 3 < 6; decide) (g := (mkF m 38 #[.val (.ref a), .val (.int (6 : Int32)), .val (.int (3 : Int32))] [(.int (1 : Int32)), (.int (3 : Int32)), (.ref a10)])) rfl rfl (hb hby d1_38) fun T43 Y44 => ?_
  replace Y44 : On p l e _ s m _ below meth c Z n0 T43 2 12 [ob a own_C0 (own_F0 (.ref a5) (.ref a10)), ari a5 .int (6 : Int32) [(0 : Int32), (1 : Int32), (2 : Int32), (3 : Int32), (0 : Int32), (0 : Int32)], ari a10 .int (6 : Int32) [(1 : Int32), (1 : Int32), (1 : Int32), (1 : Int32), (0 : Int32), (0 : Int32)]] := Y44
  show Rn p e below F T43 (mkF m 39 #[.val (.ref a), .val (.int (6 : Int32)), .val (.int (3 : Int32))] [])
  refine Rn.go (T' := T43) (g' := (mkF m 22 #[.val (.ref a), .val (.int (6 : Int32)), .val (.int (4 : Int32))] [(.int (6 : Int32)), (.int (4 : Int32))])) (fun t k => ?_) ?_
  · show Steps p.tables e below (T43.setTop (mkF m 39 #[.val (.ref a), .val (.int (6 : Int32)), .val (.int (3 : Int32))] [])) t
    refine XS.iinc Y44.here hx rfl (hb hby d1_39) rfl (l' := #[.val (.ref a), .val (.int (6 : Int32)), .val (.int (4 : Int32))]) rfl ?_
    show Steps p.tables e below (T43.setTop (mkF m 42 #[.val (.ref a), .val (.int (6 : Int32)), .val (.int (4 : Int32))] [])) t
    refine XS.goto Y44.here hx rfl (pc0 := 42) (pc' := 20) rfl (hb hby d1_42) (by decide) (by decide) ?_
    show Steps p.tables e below (T43.setTop (mkF m 20 #[.val (.ref a), .val (.int (6 : Int32)), .val (.int (4 : Int32))] [])) t
    refine XS.iloadN Y44.here hx rfl (hb hby d1_20) rfl ?_
    show Steps p.tables e below (T43.setTop (mkF m 21 #[.val (.ref a), .val (.int (6 : Int32)), .val (.int (4 : Int32))] [(.int (4 : Int32))])) t
    refine XS.iloadN Y44.here hx rfl (hb hby d1_21) rfl ?_
    show Steps p.tables e below (T43.setTop (mkF m 22 #[.val (.ref a), .val (.int (6 : Int32)), .val (.int (4 : Int32))] [(.int (6 : Int32)), (.int (4 : Int32))])) t
    exact k
  refine Rn.go (T' := T43) (g' := (mkF m 25 #[.val (.ref a), .val (.int (6 : Int32)), .val (.int (4 : Int32))] [])) (fun t k => XS.icmpNo Y44.here hx rfl (hb hby d1_22) rfl (tlt (by decide)).2.1 k) ?_
  refine Rn.go (T' := T43) (g' := (mkF m 26 #[.val (.ref a), .val (.int (6 : Int32)), .val (.int (4 : Int32))] [(.ref a)])) (fun t k => ?_) ?_
  · show Steps p.tables e below (T43.setTop (mkF m 25 #[.val (.ref a), .val (.int (6 : Int32)), .val (.int (4 : Int32))] [])) t
    refine XS.aloadN Y44.here hx rfl (hb hby d1_25) rfl rfl ?_
    show Steps p.tables e below (T43.setTop (mkF m 26 #[.val (.ref a), .val (.int (6 : Int32)), .val (.int (4 : Int32))] [(.ref a)])) t
    exact k
  refine On.getf Y44 hx hZ hown (w11 hw) (i := 0) (j := 0) rfl rfl (g := (mkF m 26 #[.val (.ref a), .val (.int (6 : Int32)), .val (.int (4 : Int32))] [(.ref a)])) rfl rfl (hb hby d1_26) fun T45 Y46 => ?_
  show Rn p e below F T45 (mkF m 29 #[.val (.ref a), .val (.int (6 : Int32)), .val (.int (4 : Int32))] [(.ref a5)])
  refine Rn.go (T' := T45) (g' := (mkF m 31 #[.val (.ref a), .val (.int (6 : Int32)), .val (.int (4 : Int32))] [(.int (4 : Int32)), (.int (4 : Int32)), (.ref a5)])) (fun t k => ?_) ?_
  · show Steps p.tables e below (T45.setTop (mkF m 29 #[.val (.ref a), .val (.int (6 : Int32)), .val (.int (4 : Int32))] [(.ref a5)])) t
    refine XS.iloadN Y46.here hx rfl (hb hby d1_29) rfl ?_
    show Steps p.tables e below (T45.setTop (mkF m 30 #[.val (.ref a), .val (.int (6 : Int32)), .val (.int (4 : Int32))] [(.int (4 : Int32)), (.ref a5)])) t
    refine XS.iloadN Y46.here hx rfl (hb hby d1_30) rfl ?_
    show Steps p.tables e below (T45.setTop (mkF m 31 #[.val (.ref a), .val (.int (6 : Int32)), .val (.int (4 : Int32))] [(.int (4 : Int32)), (.int (4 : Int32)), (.ref a5)])) t
    exact k
  refine On.isto Y46 hx hZ (i := 1) rfl (by decide) (by show 4 < 6; decide) (g := (mkF m 31 #[.val (.ref a), .val (.int (6 : Int32)), .val (.int (4 : Int32))] [(.int (4 : Int32)), (.int (4 : Int32)), (.ref a5)])) rfl rfl (hb hby d1_31) fun T47 Y48 => ?_
  replace Y48 : On p l e _ s m _ below meth c Z n0 T47 2 12 [ob a own_C0 (own_F0 (.ref a5) (.ref a10)), ari a5 .int (6 : Int32) [(0 : Int32), (1 : Int32), (2 : Int32), (3 : Int32), (4 : Int32), (0 : Int32)], ari a10 .int (6 : Int32) [(1 : Int32), (1 : Int32), (1 : Int32), (1 : Int32), (0 : Int32), (0 : Int32)]] := Y48
  show Rn p e below F T47 (mkF m 32 #[.val (.ref a), .val (.int (6 : Int32)), .val (.int (4 : Int32))] [])
  refine Rn.go (T' := T47) (g' := (mkF m 33 #[.val (.ref a), .val (.int (6 : Int32)), .val (.int (4 : Int32))] [(.ref a)])) (fun t k => ?_) ?_
  · show Steps p.tables e below (T47.setTop (mkF m 32 #[.val (.ref a), .val (.int (6 : Int32)), .val (.int (4 : Int32))] [])) t
    refine XS.aloadN Y48.here hx rfl (hb hby d1_32) rfl rfl ?_
    show Steps p.tables e below (T47.setTop (mkF m 33 #[.val (.ref a), .val (.int (6 : Int32)), .val (.int (4 : Int32))] [(.ref a)])) t
    exact k
  refine On.getf Y48 hx hZ hown (w13 hw) (i := 0) (j := 1) rfl rfl (g := (mkF m 33 #[.val (.ref a), .val (.int (6 : Int32)), .val (.int (4 : Int32))] [(.ref a)])) rfl rfl (hb hby d1_33) fun T49 Y50 => ?_
  show Rn p e below F T49 (mkF m 36 #[.val (.ref a), .val (.int (6 : Int32)), .val (.int (4 : Int32))] [(.ref a10)])
  refine Rn.go (T' := T49) (g' := (mkF m 38 #[.val (.ref a), .val (.int (6 : Int32)), .val (.int (4 : Int32))] [(.int (1 : Int32)), (.int (4 : Int32)), (.ref a10)])) (fun t k => ?_) ?_
  · show Steps p.tables e below (T49.setTop (mkF m 36 #[.val (.ref a), .val (.int (6 : Int32)), .val (.int (4 : Int32))] [(.ref a10)])) t
    refine XS.iloadN Y50.here hx rfl (hb hby d1_36) rfl ?_
    show Steps p.tables e below (T49.setTop (mkF m 37 #[.val (.ref a), .val (.int (6 : Int32)), .val (.int (4 : Int32))] [(.int (4 : Int32)), (.ref a10)])) t
    refine XS.iconst Y50.here hx rfl (hb hby d1_37) ?_
    show Steps p.tables e below (T49.setTop (mkF m 38 #[.val (.ref a), .val (.int (6 : Int32)), .val (.int (4 : Int32))] [(.int (1 : Int32)), (.int (4 : Int32)), (.ref a10)])) t
    exact k
  refine On.isto Y50 hx hZ (i := 2) rfl (by decide) (by show 4 < 6; decide) (g := (mkF m 38 #[.val (.ref a), .val (.int (6 : Int32)), .val (.int (4 : Int32))] [(.int (1 : Int32)), (.int (4 : Int32)), (.ref a10)])) rfl rfl (hb hby d1_38) fun T51 Y52 => ?_
  replace Y52 : On p l e _ s m _ below meth c Z n0 T51 2 12 [ob a own_C0 (own_F0 (.ref a5) (.ref a10)), ari a5 .int (6 : Int32) [(0 : Int32), (1 : Int32), (2 : Int32), (3 : Int32), (4 : Int32), (0 : Int32)], ari a10 .int (6 : Int32) [(1 : Int32), (1 : Int32), (1 : Int32), (1 : Int32), (1 : Int32), (0 : Int32)]] := Y52
  show Rn p e below F T51 (mkF m 39 #[.val (.ref a), .val (.int (6 : Int32)), .val (.int (4 : Int32))] [])
  refine Rn.go (T' := T51) (g' := (mkF m 22 #[.val (.ref a), .val (.int (6 : Int32)), .val (.int (5 : Int32))] [(.int (6 : Int32)), (.int (5 : Int32))])) (fun t k => ?_) ?_
  · show Steps p.tables e below (T51.setTop (mkF m 39 #[.val (.ref a), .val (.int (6 : Int32)), .val (.int (4 : Int32))] [])) t
    refine XS.iinc Y52.here hx rfl (hb hby d1_39) rfl (l' := #[.val (.ref a), .val (.int (6 : Int32)), .val (.int (5 : Int32))]) rfl ?_
    show Steps p.tables e below (T51.setTop (mkF m 42 #[.val (.ref a), .val (.int (6 : Int32)), .val (.int (5 : Int32))] [])) t
    refine XS.goto Y52.here hx rfl (pc0 := 42) (pc' := 20) rfl (hb hby d1_42) (by decide) (by decide) ?_
    show Steps p.tables e below (T51.setTop (mkF m 20 #[.val (.ref a), .val (.int (6 : Int32)), .val (.int (5 : Int32))] [])) t
    refine XS.iloadN Y52.here hx rfl (hb hby d1_20) rfl ?_
    show Steps p.tables e below (T51.setTop (mkF m 21 #[.val (.ref a), .val (.int (6 : Int32)), .val (.int (5 : Int32))] [(.int (5 : Int32))])) t
    refine XS.iloadN Y52.here hx rfl (hb hby d1_21) rfl ?_
    show Steps p.tables e below (T51.setTop (mkF m 22 #[.val (.ref a), .val (.int (6 : Int32)), .val (.int (5 : Int32))] [(.int (6 : Int32)), (.int (5 : Int32))])) t
    exact k
  refine Rn.go (T' := T51) (g' := (mkF m 25 #[.val (.ref a), .val (.int (6 : Int32)), .val (.int (5 : Int32))] [])) (fun t k => XS.icmpNo Y52.here hx rfl (hb hby d1_22) rfl (tlt (by decide)).2.1 k) ?_
  refine Rn.go (T' := T51) (g' := (mkF m 26 #[.val (.ref a), .val (.int (6 : Int32)), .val (.int (5 : Int32))] [(.ref a)])) (fun t k => ?_) ?_
  · show Steps p.tables e below (T51.setTop (mkF m 25 #[.val (.ref a), .val (.int (6 : Int32)), .val (.int (5 : Int32))] [])) t
    refine XS.aloadN Y52.here hx rfl (hb hby d1_25) rfl rfl ?_
    show Steps p.tables e below (T51.setTop (mkF m 26 #[.val (.ref a), .val (.int (6 : Int32)), .val (.int (5 : Int32))] [(.ref a)])) t
    exact k
  refine On.getf Y52 hx hZ hown (w11 hw) (i := 0) (j := 0) rfl rfl (g := (mkF m 26 #[.val (.ref a), .val (.int (6 : Int32)), .val (.int (5 : Int32))] [(.ref a)])) rfl rfl (hb hby d1_26) fun T53 Y54 => ?_
  show Rn p e below F T53 (mkF m 29 #[.val (.ref a), .val (.int (6 : Int32)), .val (.int (5 : Int32))] [(.ref a5)])
  refine Rn.go (T' := T53) (g' := (mkF m 31 #[.val (.ref a), .val (.int (6 : Int32)), .val (.int (5 : Int32))] [(.int (5 : Int32)), (.int (5 : Int32)), (.ref a5)])) (fun t k => ?_) ?_
  · show Steps p.tables e below (T53.setTop (mkF m 29 #[.val (.ref a), .val (.int (6 : Int32)), .val (.int (5 : Int32))] [(.ref a5)])) t
    refine XS.iloadN Y54.here hx rfl (hb hby d1_29) rfl ?_
    show Steps p.tables e below (T53.setTop (mkF m 30 #[.val (.ref a), .val (.int (6 : Int32)), .val (.int (5 : Int32))] [(.int (5 : Int32)), (.ref a5)])) t
    refine XS.iloadN Y54.here hx rfl (hb hby d1_30) rfl ?_
    show Steps p.tables e below (T53.setTop (mkF m 31 #[.val (.ref a), .val (.int (6 : Int32)), .val (.int (5 : Int32))] [(.int (5 : Int32)), (.int (5 : Int32)), (.ref a5)])) t
    exact k
  refine On.isto Y54 hx hZ (i := 1) rfl (by decide) (by show 5 < 6; decide) (g := (mkF m 31 #[.val (.ref a), .val (.int (6 : Int32)), .val (.int (5 : Int32))] [(.int (5 : Int32)), (.int (5 : Int32)), (.ref a5)])) rfl rfl (hb hby d1_31) fun T55 Y56 => ?_
  replace Y56 : On p l e _ s m _ below meth c Z n0 T55 2 12 [ob a own_C0 (own_F0 (.ref a5) (.ref a10)), ari a5 .int (6 : Int32) [(0 : Int32), (1 : Int32), (2 : Int32), (3 : Int32), (4 : Int32), (5 : Int32)], ari a10 .int (6 : Int32) [(1 : Int32), (1 : Int32), (1 : Int32), (1 : Int32), (1 : Int32), (0 : Int32)]] := Y56
  show Rn p e below F T55 (mkF m 32 #[.val (.ref a), .val (.int (6 : Int32)), .val (.int (5 : Int32))] [])
  refine Rn.go (T' := T55) (g' := (mkF m 33 #[.val (.ref a), .val (.int (6 : Int32)), .val (.int (5 : Int32))] [(.ref a)])) (fun t k => ?_) ?_
  · show Steps p.tables e below (T55.setTop (mkF m 32 #[.val (.ref a), .val (.int (6 : Int32)), .val (.int (5 : Int32))] [])) t
    refine XS.aloadN Y56.here hx rfl (hb hby d1_32) rfl rfl ?_
    show Steps p.tables e below (T55.setTop (mkF m 33 #[.val (.ref a), .val (.int (6 : Int32)), .val (.int (5 : Int32))] [(.ref a)])) t
    exact k
  refine On.getf Y56 hx hZ hown (w13 hw) (i := 0) (j := 1) rfl rfl (g := (mkF m 33 #[.val (.ref a), .val (.int (6 : Int32)), .val (.int (5 : Int32))] [(.ref a)])) rfl rfl (hb hby d1_33) fun T57 Y58 => ?_
  show Rn p e below F T57 (mkF m 36 #[.val (.ref a), .val (.int (6 : Int32)), .val (.int (5 : Int32))] [(.ref a10)])
  refine Rn.go (T' := T57) (g' := (mkF m 38 #[.val (.ref a), .val (.int (6 : Int32)), .val (.int (5 : Int32))] [(.int (1 : Int32)), (.int (5 : Int32)), (.ref a10)])) (fun t k => ?_) ?_
  · show Steps p.tables e below (T57.setTop (mkF m 36 #[.val (.ref a), .val (.int (6 : Int32)), .val (.int (5 : Int32))] [(.ref a10)])) t
    refine XS.iloadN Y58.here hx rfl (hb hby d1_36) rfl ?_
    show Steps p.tables e below (T57.setTop (mkF m 37 #[.val (.ref a), .val (.int (6 : Int32)), .val (.int (5 : Int32))] [(.int (5 : Int32)), (.ref a10)])) t
    refine XS.iconst Y58.here hx rfl (hb hby d1_37) ?_
    show Steps p.tables e below (T57.setTop (mkF m 38 #[.val (.ref a), .val (.int (6 : Int32)), .val (.int (5 : Int32))] [(.int (1 : Int32)), (.int (5 : Int32)), (.ref a10)])) t
    exact k
  refine On.isto Y58 hx hZ (i := 2) rfl (by decide) (by show 5 < 6; decide) (g := (mkF m 38 #[.val (.ref a), .val (.int (6 : Int32)), .val (.int (5 : Int32))] [(.int (1 : Int32)), (.int (5 : Int32)), (.ref a10)])) rfl rfl (hb hby d1_38) fun T59 Y60 => ?_
  replace Y60 : On p l e _ s m _ below meth c Z n0 T59 2 12 [ob a own_C0 (own_F0 (.ref a5) (.ref a10)), ari a5 .int (6 : Int32) [(0 : Int32), (1 : Int32), (2 : Int32), (3 : Int32), (4 : Int32), (5 : Int32)], ari a10 .int (6 : Int32) [(1 : Int32), (1 : Int32), (1 : Int32), (1 : Int32), (1 : Int32), (1 : Int32)]] := Y60
  show Rn p e below F T59 (mkF m 39 #[.val (.ref a), .val (.int (6 : Int32)), .val (.int (5 : Int32))] [])
  refine Rn.go (T' := T59) (g' := (mkF m 22 #[.val (.ref a), .val (.int (6 : Int32)), .val (.int (6 : Int32))] [(.int (6 : Int32)), (.int (6 : Int32))])) (fun t k => ?_) ?_
  · show Steps p.tables e below (T59.setTop (mkF m 39 #[.val (.ref a), .val (.int (6 : Int32)), .val (.int (5 : Int32))] [])) t
    refine XS.iinc Y60.here hx rfl (hb hby d1_39) rfl (l' := #[.val (.ref a), .val (.int (6 : Int32)), .val (.int (6 : Int32))]) rfl ?_
    show Steps p.tables e below (T59.setTop (mkF m 42 #[.val (.ref a), .val (.int (6 : Int32)), .val (.int (6 : Int32))] [])) t
    refine XS.goto Y60.here hx rfl (pc0 := 42) (pc' := 20) rfl (hb hby d1_42) (by decide) (by decide) ?_
    show Steps p.tables e below (T59.setTop (mkF m 20 #[.val (.ref a), .val (.int (6 : Int32)), .val (.int (6 : Int32))] [])) t
    refine XS.iloadN Y60.here hx rfl (hb hby d1_20) rfl ?_
    show Steps p.tables e below (T59.setTop (mkF m 21 #[.val (.ref a), .val (.int (6 : Int32)), .val (.int (6 : Int32))] [(.int (6 : Int32))])) t
    refine XS.iloadN Y60.here hx rfl (hb hby d1_21) rfl ?_
    show Steps p.tables e below (T59.setTop (mkF m 22 #[.val (.ref a), .val (.int (6 : Int32)), .val (.int (6 : Int32))] [(.int (6 : Int32)), (.int (6 : Int32))])) t
    exact k
  refine Rn.go (T' := T59) (g' := (mkF m 45 #[.val (.ref a), .val (.int (6 : Int32)), .val (.int (6 : Int32))] [])) (fun t k => XS.icmpYes Y60.here hx rfl (pc0 := 22) (pc' := 45) rfl (hb hby d1_22) rfl (flt (by decide)).2.1 (by decide) (by decide) k) ?_
  rw [← hF]; exact On.retv Y60 hx hret hlk (hb hby d1_45) (by decide) (by decide) ⟨_, _, rfl, rfl⟩
/-! ## G. union and find, plainly -/
def own_g (xs : List Int32) (k : Int32) : Int32 := xs.getD k.toNatClampNeg 0
def own_ro (ss : List Int32) (x y : Int32) : Int32 := if own_g ss x < own_g ss y then y else x
def own_ch (ss : List Int32) (x y : Int32) : Int32 := if own_ro ss x y = x then y else x
def own_pn (ps ss : List Int32) (x y : Int32) : List Int32 := ps.set (own_ch ss x y).toNatClampNeg (own_ro ss x y)
def own_sn (ss : List Int32) (x y : Int32) : List Int32 := ss.set (own_ro ss x y).toNatClampNeg (own_g ss (own_ro ss x y) + own_g ss (own_ch ss x y))
theorem own_at {xs : List Int32} {j : Int32} (h1 : j.toNatClampNeg < xs.length) : xs[j.toNatClampNeg]? = some (own_g xs j) := by
  unfold own_g; rw [List.getD_eq_getElem?_getD, List.getElem?_eq_getElem h1]; rfl
def own_find : Nat → List Int32 → Int32 → Option (Int32 × List Int32)
  | 0, _, _ => none
  | k + 1, ps, r => if r < 0 then none else match ps[r.toNatClampNeg]? with
    | none => none
    | some q => if q = r then some (r, ps) else if q < 0 then none else match ps[q.toNatClampNeg]? with
      | none => none
      | some z => own_find k (ps.set r.toNatClampNeg z) z
def own_fr (ps : List Int32) (x : Int32) : Int32 := match own_find 8 ps x with
  | some z => z.1
  | none => 0
def own_fp (ps : List Int32) (x : Int32) : List Int32 := match own_find 8 ps x with
  | some z => z.2
  | none => []
theorem ef_rm3 (m : MethodId) (a : Addr) (ux : Int32) (uy : Int32) : entryFrame m #[(.ref a), (.int ux), (.int uy)] 5 = (mkF m 0 #[.val (.ref a), .val (.int ux), .val (.int uy), .unset, .unset] []) := by first | (simp [entryFrame, mkF, argsToLocals, Value.category]; done) | rfl
set_option maxRecDepth 65536 in
set_option maxHeartbeats 40000000 in
theorem rm3 (l : Launch) (Z : State) (a0 : Array Value) (hw : ∀ d ∈ tables_1, d.before a0 Z = true) (n0 : Nat) (a : Addr) (ux : Int32) (uy : Int32) (b1 : Addr) (b2 : Addr) (ps : List Int32) (ss : List Int32) (Dr : List (Addr × Itm)) (hx0 : ¬ ux < 0) (hx1 : ux.toNatClampNeg < 6) (hy0 : ¬ uy < 0) (hy1 : uy.toNatClampNeg < 6) (hps : ps.length = 6) (hss : ss.length = 6) :
    Con l Z n0 (⟨"com/example/arborplan/arborplan/tree/DisjointSets", "union", "(II)I"⟩ : MethodName) prog_37_method_3_code 5 (some .int) ({ frames := 0, cells := 0, slots := 0, locals := 0 } : Room) #[(.ref a), (.int ux), (.int uy)] ((ob a own_C0 (own_F0 (.ref b1) (.ref b2))) :: (ari b1 .int (6 : Int32) ps) :: (ari b2 .int (6 : Int32) ss) :: Dr) (fun v D' => v = some (.int (own_ro ss ux uy)) ∧ D' = ((ob a own_C0 (own_F0 (.ref b1) (.ref b2))) :: (ari b1 .int (6 : Int32) (own_pn ps ss ux uy)) :: (ari b2 .int (6 : Int32) (own_sn ss ux uy)) :: Dr)) := by
  refine Con.of (plainFor_of_name pn0) ?_
  intro p e s m below meth c T cx Y
  obtain ⟨hx, hby, hml, hown, hnm, hret, hlk, hZ⟩ := cx
  rw [ef_rm3]
  generalize hF : Fi Z n0 below s _ _ _ = F
  refine Rn.go (T' := T) (g' := (mkF m 1 #[.val (.ref a), .val (.int ux), .val (.int uy), .unset, .unset] [(.ref a)])) (fun t k => ?_) ?_
  · show Steps p.tables e below (T.setTop (mkF m 0 #[.val (.ref a), .val (.int ux), .val (.int uy), .unset, .unset] [])) t
    refine XS.aloadN Y.here hx rfl (hb hby d3_0) rfl rfl ?_
    show Steps p.tables e below (T.setTop (mkF m 1 #[.val (.ref a), .val (.int ux), .val (.int uy), .unset, .unset] [(.ref a)])) t
    exact k
  refine On.getf Y hx hZ hown (w13 hw) (i := 0) (j := 1) rfl rfl (g := (mkF m 1 #[.val (.ref a), .val (.int ux), .val (.int uy), .unset, .unset] [(.ref a)])) rfl rfl (hb hby d3_1) fun T1 Y2 => ?_
  show Rn p e below F T1 (mkF m 4 #[.val (.ref a), .val (.int ux), .val (.int uy), .unset, .unset] [(.ref b2)])
  refine Rn.go (T' := T1) (g' := (mkF m 5 #[.val (.ref a), .val (.int ux), .val (.int uy), .unset, .unset] [(.int ux), (.ref b2)])) (fun t k => ?_) ?_
  · show Steps p.tables e below (T1.setTop (mkF m 4 #[.val (.ref a), .val (.int ux), .val (.int uy), .unset, .unset] [(.ref b2)])) t
    refine XS.iloadN Y2.here hx rfl (hb hby d3_4) rfl ?_
    show Steps p.tables e below (T1.setTop (mkF m 5 #[.val (.ref a), .val (.int ux), .val (.int uy), .unset, .unset] [(.int ux), (.ref b2)])) t
    exact k
  refine On.ild Y2 hx hZ (i := 2) rfl (k := ux) (x := (own_g ss ux)) hx0 (own_at (by rw [hss]; exact hx1)) (g := (mkF m 5 #[.val (.ref a), .val (.int ux), .val (.int uy), .unset, .unset] [(.int ux), (.ref b2)])) rfl rfl (hb hby d3_5) ?_
  show Rn p e below F T1 (mkF m 6 #[.val (.ref a), .val (.int ux), .val (.int uy), .unset, .unset] [(.int (own_g ss ux))])
  refine Rn.go (T' := T1) (g' := (mkF m 7 #[.val (.ref a), .val (.int ux), .val (.int uy), .unset, .unset] [(.ref a), (.int (own_g ss ux))])) (fun t k => ?_) ?_
  · show Steps p.tables e below (T1.setTop (mkF m 6 #[.val (.ref a), .val (.int ux), .val (.int uy), .unset, .unset] [(.int (own_g ss ux))])) t
    refine XS.aloadN Y2.here hx rfl (hb hby d3_6) rfl rfl ?_
    show Steps p.tables e below (T1.setTop (mkF m 7 #[.val (.ref a), .val (.int ux), .val (.int uy), .unset, .unset] [(.ref a), (.int (own_g ss ux))])) t
    exact k
  refine On.getf Y2 hx hZ hown (w13 hw) (i := 0) (j := 1) rfl rfl (g := (mkF m 7 #[.val (.ref a), .val (.int ux), .val (.int uy), .unset, .unset] [(.ref a), (.int (own_g ss ux))])) rfl rfl (hb hby d3_7) fun T3 Y4 => ?_
  show Rn p e below F T3 (mkF m 10 #[.val (.ref a), .val (.int ux), .val (.int uy), .unset, .unset] [(.ref b2), (.int (own_g ss ux))])
  refine Rn.go (T' := T3) (g' := (mkF m 11 #[.val (.ref a), .val (.int ux), .val (.int uy), .unset, .unset] [(.int uy), (.ref b2), (.int (own_g ss ux))])) (fun t k => ?_) ?_
  · show Steps p.tables e below (T3.setTop (mkF m 10 #[.val (.ref a), .val (.int ux), .val (.int uy), .unset, .unset] [(.ref b2), (.int (own_g ss ux))])) t
    refine XS.iloadN Y4.here hx rfl (hb hby d3_10) rfl ?_
    show Steps p.tables e below (T3.setTop (mkF m 11 #[.val (.ref a), .val (.int ux), .val (.int uy), .unset, .unset] [(.int uy), (.ref b2), (.int (own_g ss ux))])) t
    exact k
  refine On.ild Y4 hx hZ (i := 2) rfl (k := uy) (x := (own_g ss uy)) hy0 (own_at (by rw [hss]; exact hy1)) (g := (mkF m 11 #[.val (.ref a), .val (.int ux), .val (.int uy), .unset, .unset] [(.int uy), (.ref b2), (.int (own_g ss ux))])) rfl rfl (hb hby d3_11) ?_
  show Rn p e below F T3 (mkF m 12 #[.val (.ref a), .val (.int ux), .val (.int uy), .unset, .unset] [(.int (own_g ss uy)), (.int (own_g ss ux))])
  obtain ⟨v20, hv20⟩ : ∃ z : Int32, z = (if (own_g ss ux) < (own_g ss uy) then uy else ux) := ⟨_, rfl⟩
  refine Rn.go (T' := T3) (g' := (mkF m 20 #[.val (.ref a), .val (.int ux), .val (.int uy), .unset, .unset] [(.int v20)])) (fun t k => ?_) ?_
  · show Steps p.tables e below (T3.setTop (mkF m 12 #[.val (.ref a), .val (.int ux), .val (.int uy), .unset, .unset] [(.int (own_g ss uy)), (.int (own_g ss ux))])) t
    by_cases hc12 : (own_g ss ux) < (own_g ss uy)
    · refine XS.icmpYes Y4.here hx rfl (pc0 := 12) (pc' := 19) rfl (hb hby d3_12) rfl (tlt hc12).1 (by decide) (by decide) ?_
      show Steps p.tables e below (T3.setTop (mkF m 19 #[.val (.ref a), .val (.int ux), .val (.int uy), .unset, .unset] [])) t
      refine XS.iloadN Y4.here hx rfl (hb hby d3_19) rfl ?_
      show Steps p.tables e below (T3.setTop (mkF m 20 #[.val (.ref a), .val (.int ux), .val (.int uy), .unset, .unset] [(.int uy)])) t
      rw [hv20, if_pos hc12] at k
      exact k
    · refine XS.icmpNo Y4.here hx rfl (hb hby d3_12) rfl (flt hc12).1 ?_
      show Steps p.tables e below (T3.setTop (mkF m 15 #[.val (.ref a), .val (.int ux), .val (.int uy), .unset, .unset] [])) t
      refine XS.iloadN Y4.here hx rfl (hb hby d3_15) rfl ?_
      show Steps p.tables e below (T3.setTop (mkF m 16 #[.val (.ref a), .val (.int ux), .val (.int uy), .unset, .unset] [(.int ux)])) t
      refine XS.goto Y4.here hx rfl (pc0 := 16) (pc' := 20) rfl (hb hby d3_16) (by decide) (by decide) ?_
      show Steps p.tables e below (T3.setTop (mkF m 20 #[.val (.ref a), .val (.int ux), .val (.int uy), .unset, .unset] [(.int ux)])) t
      rw [hv20, if_neg hc12] at k
      exact k
  refine Rn.go (T' := T3) (g' := (mkF m 23 #[.val (.ref a), .val (.int ux), .val (.int uy), .val (.int v20), .unset] [(.int ux), (.int v20)])) (fun t k => ?_) ?_
  · show Steps p.tables e below (T3.setTop (mkF m 20 #[.val (.ref a), .val (.int ux), .val (.int uy), .unset, .unset] [(.int v20)])) t
    refine XS.istoreN Y4.here hx rfl (hb hby d3_20) rfl (l' := #[.val (.ref a), .val (.int ux), .val (.int uy), .val (.int v20), .unset]) rfl ?_
    show Steps p.tables e below (T3.setTop (mkF m 21 #[.val (.ref a), .val (.int ux), .val (.int uy), .val (.int v20), .unset] [])) t
    refine XS.iloadN Y4.here hx rfl (hb hby d3_21) rfl ?_
    show Steps p.tables e below (T3.setTop (mkF m 22 #[.val (.ref a), .val (.int ux), .val (.int uy), .val (.int v20), .unset] [(.int v20)])) t
    refine XS.iloadN Y4.here hx rfl (hb hby d3_22) rfl ?_
    show Steps p.tables e below (T3.setTop (mkF m 23 #[.val (.ref a), .val (.int ux), .val (.int uy), .val (.int v20), .unset] [(.int ux), (.int v20)])) t
    exact k
  obtain ⟨v31, hv31⟩ : ∃ z : Int32, z = (if v20 = ux then uy else ux) := ⟨_, rfl⟩
  refine Rn.go (T' := T3) (g' := (mkF m 31 #[.val (.ref a), .val (.int ux), .val (.int uy), .val (.int v20), .unset] [(.int v31)])) (fun t k => ?_) ?_
  · show Steps p.tables e below (T3.setTop (mkF m 23 #[.val (.ref a), .val (.int ux), .val (.int uy), .val (.int v20), .unset] [(.int ux), (.int v20)])) t
    by_cases hc23 : v20 = ux
    · refine XS.icmpNo Y4.here hx rfl (hb hby d3_23) rfl (teq hc23).2 ?_
      show Steps p.tables e below (T3.setTop (mkF m 26 #[.val (.ref a), .val (.int ux), .val (.int uy), .val (.int v20), .unset] [])) t
      refine XS.iloadN Y4.here hx rfl (hb hby d3_26) rfl ?_
      show Steps p.tables e below (T3.setTop (mkF m 27 #[.val (.ref a), .val (.int ux), .val (.int uy), .val (.int v20), .unset] [(.int uy)])) t
      refine XS.goto Y4.here hx rfl (pc0 := 27) (pc' := 31) rfl (hb hby d3_27) (by decide) (by decide) ?_
      show Steps p.tables e below (T3.setTop (mkF m 31 #[.val (.ref a), .val (.int ux), .val (.int uy), .val (.int v20), .unset] [(.int uy)])) t
      rw [hv31, if_pos hc23] at k
      exact k
    · refine XS.icmpYes Y4.here hx rfl (pc0 := 23) (pc' := 30) rfl (hb hby d3_23) rfl (feq hc23).2 (by decide) (by decide) ?_
      show Steps p.tables e below (T3.setTop (mkF m 30 #[.val (.ref a), .val (.int ux), .val (.int uy), .val (.int v20), .unset] [])) t
      refine XS.iloadN Y4.here hx rfl (hb hby d3_30) rfl ?_
      show Steps p.tables e below (T3.setTop (mkF m 31 #[.val (.ref a), .val (.int ux), .val (.int uy), .val (.int v20), .unset] [(.int ux)])) t
      rw [hv31, if_neg hc23] at k
      exact k
  refine Rn.go (T' := T3) (g' := (mkF m 33 #[.val (.ref a), .val (.int ux), .val (.int uy), .val (.int v20), .val (.int v31)] [])) (fun t k => ?_) ?_
  · show Steps p.tables e below (T3.setTop (mkF m 31 #[.val (.ref a), .val (.int ux), .val (.int uy), .val (.int v20), .unset] [(.int v31)])) t
    refine XS.istore Y4.here hx rfl (hb hby d3_31) rfl (l' := #[.val (.ref a), .val (.int ux), .val (.int uy), .val (.int v20), .val (.int v31)]) rfl ?_
    show Steps p.tables e below (T3.setTop (mkF m 33 #[.val (.ref a), .val (.int ux), .val (.int uy), .val (.int v20), .val (.int v31)] [])) t
    exact k
  have hr : ¬ v20 < 0 ∧ v20.toNatClampNeg < 6 := by rw [hv20]; split <;> first | exact ⟨hy0, hy1⟩ | exact ⟨hx0, hx1⟩
  have hc : ¬ v31 < 0 ∧ v31.toNatClampNeg < 6 := by rw [hv31]; split <;> first | exact ⟨hy0, hy1⟩ | exact ⟨hx0, hx1⟩
  refine Rn.go (T' := T3) (g' := (mkF m 34 #[.val (.ref a), .val (.int ux), .val (.int uy), .val (.int v20), .val (.int v31)] [(.ref a)])) (fun t k => ?_) ?_
  · show Steps p.tables e below (T3.setTop (mkF m 33 #[.val (.ref a), .val (.int ux), .val (.int uy), .val (.int v20), .val (.int v31)] [])) t
    refine XS.aloadN Y4.here hx rfl (hb hby d3_33) rfl rfl ?_
    show Steps p.tables e below (T3.setTop (mkF m 34 #[.val (.ref a), .val (.int ux), .val (.int uy), .val (.int v20), .val (.int v31)] [(.ref a)])) t
    exact k
  refine On.getf Y4 hx hZ hown (w11 hw) (i := 0) (j := 0) rfl rfl (g := (mkF m 34 #[.val (.ref a), .val (.int ux), .val (.int uy), .val (.int v20), .val (.int v31)] [(.ref a)])) rfl rfl (hb hby d3_34) fun T5 Y6 => ?_
  show Rn p e below F T5 (mkF m 37 #[.val (.ref a), .val (.int ux), .val (.int uy), .val (.int v20), .val (.int v31)] [(.ref b1)])
  refine Rn.go (T' := T5) (g' := (mkF m 40 #[.val (.ref a), .val (.int ux), .val (.int uy), .val (.int v20), .val (.int v31)] [(.int v20), (.int v31), (.ref b1)])) (fun t k => ?_) ?_
  · show Steps p.tables e below (T5.setTop (mkF m 37 #[.val (.ref a), .val (.int ux), .val (.int uy), .val (.int v20), .val (.int v31)] [(.ref b1)])) t
    refine XS.iload Y6.here hx rfl (hb hby d3_37) rfl ?_
    show Steps p.tables e below (T5.setTop (mkF m 39 #[.val (.ref a), .val (.int ux), .val (.int uy), .val (.int v20), .val (.int v31)] [(.int v31), (.ref b1)])) t
    refine XS.iloadN Y6.here hx rfl (hb hby d3_39) rfl ?_
    show Steps p.tables e below (T5.setTop (mkF m 40 #[.val (.ref a), .val (.int ux), .val (.int uy), .val (.int v20), .val (.int v31)] [(.int v20), (.int v31), (.ref b1)])) t
    exact k
  refine On.isto Y6 hx hZ (i := 1) rfl hc.1 (by rw [hps]; exact hc.2) (g := (mkF m 40 #[.val (.ref a), .val (.int ux), .val (.int uy), .val (.int v20), .val (.int v31)] [(.int v20), (.int v31), (.ref b1)])) rfl rfl (hb hby d3_40) fun T7 Y8 => ?_
  replace Y8 : On p l e _ s m _ below meth c Z n0 T7 0 0 ((ob a own_C0 (own_F0 (.ref b1) (.ref b2))) :: (ari b1 .int (6 : Int32) (ps.set v31.toNatClampNeg v20)) :: (ari b2 .int (6 : Int32) ss) :: Dr) := Y8
  show Rn p e below F T7 (mkF m 41 #[.val (.ref a), .val (.int ux), .val (.int uy), .val (.int v20), .val (.int v31)] [])
  refine Rn.go (T' := T7) (g' := (mkF m 42 #[.val (.ref a), .val (.int ux), .val (.int uy), .val (.int v20), .val (.int v31)] [(.ref a)])) (fun t k => ?_) ?_
  · show Steps p.tables e below (T7.setTop (mkF m 41 #[.val (.ref a), .val (.int ux), .val (.int uy), .val (.int v20), .val (.int v31)] [])) t
    refine XS.aloadN Y8.here hx rfl (hb hby d3_41) rfl rfl ?_
    show Steps p.tables e below (T7.setTop (mkF m 42 #[.val (.ref a), .val (.int ux), .val (.int uy), .val (.int v20), .val (.int v31)] [(.ref a)])) t
    exact k
  refine On.getf Y8 hx hZ hown (w13 hw) (i := 0) (j := 1) rfl rfl (g := (mkF m 42 #[.val (.ref a), .val (.int ux), .val (.int uy), .val (.int v20), .val (.int v31)] [(.ref a)])) rfl rfl (hb hby d3_42) fun T9 Y10 => ?_
  show Rn p e below F T9 (mkF m 45 #[.val (.ref a), .val (.int ux), .val (.int uy), .val (.int v20), .val (.int v31)] [(.ref b2)])
  refine Rn.go (T' := T9) (g' := (mkF m 47 #[.val (.ref a), .val (.int ux), .val (.int uy), .val (.int v20), .val (.int v31)] [(.int v20), (.ref b2), (.int v20), (.ref b2)])) (fun t k => ?_) ?_
  · show Steps p.tables e below (T9.setTop (mkF m 45 #[.val (.ref a), .val (.int ux), .val (.int uy), .val (.int v20), .val (.int v31)] [(.ref b2)])) t
    refine XS.iloadN Y10.here hx rfl (hb hby d3_45) rfl ?_
    show Steps p.tables e below (T9.setTop (mkF m 46 #[.val (.ref a), .val (.int ux), .val (.int uy), .val (.int v20), .val (.int v31)] [(.int v20), (.ref b2)])) t
    jvm_step Y10.here [Y10.here.top, hx, (hb hby d3_46), Value.category]
    show Steps p.tables e below (T9.setTop (mkF m 47 #[.val (.ref a), .val (.int ux), .val (.int uy), .val (.int v20), .val (.int v31)] [(.int v20), (.ref b2), (.int v20), (.ref b2)])) t
    exact k
  refine On.ild Y10 hx hZ (i := 2) rfl (k := v20) (x := (own_g ss v20)) hr.1 (own_at (by rw [hss]; exact hr.2)) (g := (mkF m 47 #[.val (.ref a), .val (.int ux), .val (.int uy), .val (.int v20), .val (.int v31)] [(.int v20), (.ref b2), (.int v20), (.ref b2)])) rfl rfl (hb hby d3_47) ?_
  show Rn p e below F T9 (mkF m 48 #[.val (.ref a), .val (.int ux), .val (.int uy), .val (.int v20), .val (.int v31)] [(.int (own_g ss v20)), (.int v20), (.ref b2)])
  refine Rn.go (T' := T9) (g' := (mkF m 49 #[.val (.ref a), .val (.int ux), .val (.int uy), .val (.int v20), .val (.int v31)] [(.ref a), (.int (own_g ss v20)), (.int v20), (.ref b2)])) (fun t k => ?_) ?_
  · show Steps p.tables e below (T9.setTop (mkF m 48 #[.val (.ref a), .val (.int ux), .val (.int uy), .val (.int v20), .val (.int v31)] [(.int (own_g ss v20)), (.int v20), (.ref b2)])) t
    refine XS.aloadN Y10.here hx rfl (hb hby d3_48) rfl rfl ?_
    show Steps p.tables e below (T9.setTop (mkF m 49 #[.val (.ref a), .val (.int ux), .val (.int uy), .val (.int v20), .val (.int v31)] [(.ref a), (.int (own_g ss v20)), (.int v20), (.ref b2)])) t
    exact k
  refine On.getf Y10 hx hZ hown (w13 hw) (i := 0) (j := 1) rfl rfl (g := (mkF m 49 #[.val (.ref a), .val (.int ux), .val (.int uy), .val (.int v20), .val (.int v31)] [(.ref a), (.int (own_g ss v20)), (.int v20), (.ref b2)])) rfl rfl (hb hby d3_49) fun T11 Y12 => ?_
  show Rn p e below F T11 (mkF m 52 #[.val (.ref a), .val (.int ux), .val (.int uy), .val (.int v20), .val (.int v31)] [(.ref b2), (.int (own_g ss v20)), (.int v20), (.ref b2)])
  refine Rn.go (T' := T11) (g' := (mkF m 54 #[.val (.ref a), .val (.int ux), .val (.int uy), .val (.int v20), .val (.int v31)] [(.int v31), (.ref b2), (.int (own_g ss v20)), (.int v20), (.ref b2)])) (fun t k => ?_) ?_
  · show Steps p.tables e below (T11.setTop (mkF m 52 #[.val (.ref a), .val (.int ux), .val (.int uy), .val (.int v20), .val (.int v31)] [(.ref b2), (.int (own_g ss v20)), (.int v20), (.ref b2)])) t
    refine XS.iload Y12.here hx rfl (hb hby d3_52) rfl ?_
    show Steps p.tables e below (T11.setTop (mkF m 54 #[.val (.ref a), .val (.int ux), .val (.int uy), .val (.int v20), .val (.int v31)] [(.int v31), (.ref b2), (.int (own_g ss v20)), (.int v20), (.ref b2)])) t
    exact k
  refine On.ild Y12 hx hZ (i := 2) rfl (k := v31) (x := (own_g ss v31)) hc.1 (own_at (by rw [hss]; exact hc.2)) (g := (mkF m 54 #[.val (.ref a), .val (.int ux), .val (.int uy), .val (.int v20), .val (.int v31)] [(.int v31), (.ref b2), (.int (own_g ss v20)), (.int v20), (.ref b2)])) rfl rfl (hb hby d3_54) ?_
  show Rn p e below F T11 (mkF m 55 #[.val (.ref a), .val (.int ux), .val (.int uy), .val (.int v20), .val (.int v31)] [(.int (own_g ss v31)), (.int (own_g ss v20)), (.int v20), (.ref b2)])
  refine Rn.go (T' := T11) (g' := (mkF m 56 #[.val (.ref a), .val (.int ux), .val (.int uy), .val (.int v20), .val (.int v31)] [(.int ((own_g ss v20) + (own_g ss v31))), (.int v20), (.ref b2)])) (fun t k => ?_) ?_
  · show Steps p.tables e below (T11.setTop (mkF m 55 #[.val (.ref a), .val (.int ux), .val (.int uy), .val (.int v20), .val (.int v31)] [(.int (own_g ss v31)), (.int (own_g ss v20)), (.int v20), (.ref b2)])) t
    refine XS.iadd Y12.here hx rfl (hb hby d3_55) rfl ?_
    show Steps p.tables e below (T11.setTop (mkF m 56 #[.val (.ref a), .val (.int ux), .val (.int uy), .val (.int v20), .val (.int v31)] [(.int ((own_g ss v20) + (own_g ss v31))), (.int v20), (.ref b2)])) t
    exact k
  refine On.isto Y12 hx hZ (i := 2) rfl hr.1 (by rw [hss]; exact hr.2) (g := (mkF m 56 #[.val (.ref a), .val (.int ux), .val (.int uy), .val (.int v20), .val (.int v31)] [(.int ((own_g ss v20) + (own_g ss v31))), (.int v20), (.ref b2)])) rfl rfl (hb hby d3_56) fun T13 Y14 => ?_
  replace Y14 : On p l e _ s m _ below meth c Z n0 T13 0 0 ((ob a own_C0 (own_F0 (.ref b1) (.ref b2))) :: (ari b1 .int (6 : Int32) (ps.set v31.toNatClampNeg v20)) :: (ari b2 .int (6 : Int32) (ss.set v20.toNatClampNeg (((own_g ss v20) + (own_g ss v31))))) :: Dr) := Y14
  show Rn p e below F T13 (mkF m 57 #[.val (.ref a), .val (.int ux), .val (.int uy), .val (.int v20), .val (.int v31)] [])
  refine Rn.go (T' := T13) (g' := (mkF m 58 #[.val (.ref a), .val (.int ux), .val (.int uy), .val (.int v20), .val (.int v31)] [(.int v20)])) (fun t k => ?_) ?_
  · show Steps p.tables e below (T13.setTop (mkF m 57 #[.val (.ref a), .val (.int ux), .val (.int uy), .val (.int v20), .val (.int v31)] [])) t
    refine XS.iloadN Y14.here hx rfl (hb hby d3_57) rfl ?_
    show Steps p.tables e below (T13.setTop (mkF m 58 #[.val (.ref a), .val (.int ux), .val (.int uy), .val (.int v20), .val (.int v31)] [(.int v20)])) t
    exact k
  rw [← hF]; exact On.reti Y14 hx hret hlk (hb hby d3_58) (by decide) (by decide) (by subst hv31; subst hv20; exact ⟨rfl, rfl⟩)
set_option maxRecDepth 65536 in
set_option maxHeartbeats 40000000 in
theorem own_loop {p : Program} {l : Launch} {e : Env} {R : Room} {s : State} {m : MethodId} {args : Array Value} {below : List Frame} {meth : Method} {c : Code} {Z : State} {a0 : Array Value} {n0 : Nat} {F : State → Prop} {cells slots : Nat} (hx : p.tables.exec = Jvm.exec) (hby : c.code = prog_37_method_2_code) (hml : c.maxLocals = 3) (hown : s.vm.findClass "com/example/arborplan/arborplan/tree/DisjointSets" = some m.cls) (hZ : Z.Warmed39 s.vm) (hw : ∀ d ∈ tables_1, d.before a0 Z = true) (a b1 b2 : Addr) (x0 x1 : Int32) (ss ps1 : List Int32) (Dr : List (Addr × Itm)) :
    ∀ (k : Nat) (ps : List Int32) (r : Int32) (T : State), own_find k ps r = some (x1, ps1) → On p l e R s m args below meth c Z n0 T cells slots ((ob a own_C0 (own_F0 (.ref b1) (.ref b2))) :: (ari b1 .int (6 : Int32) ps) :: (ari b2 .int (6 : Int32) ss) :: Dr) → (∀ T', On p l e R s m args below meth c Z n0 T' cells slots ((ob a own_C0 (own_F0 (.ref b1) (.ref b2))) :: (ari b1 .int (6 : Int32) ps1) :: (ari b2 .int (6 : Int32) ss) :: Dr) → Rn p e below F T' (mkF m 39 #[.val (.ref a), .val (.int x0), .val (.int x1)] [])) → Rn p e below F T (mkF m 2 #[.val (.ref a), .val (.int x0), .val (.int r)] []) := by
  intro k
  induction k with
  | zero => intro ps r T h; cases h
  | succ k ih =>
    intro ps r T h Y kk
    rw [own_find] at h
    by_cases hr0 : r < 0
    · rw [if_pos hr0] at h; cases h
    rw [if_neg hr0] at h
    cases hq : ps[r.toNatClampNeg]? with
    | none => rw [hq] at h; cases h
    | some q =>
    rw [hq] at h
    replace h : (if q = r then some (r, ps) else if q < 0 then none else match ps[q.toNatClampNeg]? with
      | none => none
      | some z => own_find k (ps.set r.toNatClampNeg z) z) = some (x1, ps1) := h
    refine Rn.go (T' := T) (g' := (mkF m 3 #[.val (.ref a), .val (.int x0), .val (.int r)] [(.ref a)])) (fun t k => ?_) ?_
    · show Steps p.tables e below (T.setTop (mkF m 2 #[.val (.ref a), .val (.int x0), .val (.int r)] [])) t
      refine XS.aloadN Y.here hx rfl (hb hby d4_2) rfl rfl ?_
      show Steps p.tables e below (T.setTop (mkF m 3 #[.val (.ref a), .val (.int x0), .val (.int r)] [(.ref a)])) t
      exact k
    refine On.getf Y hx hZ hown (w11 hw) (i := 0) (j := 0) rfl rfl (g := (mkF m 3 #[.val (.ref a), .val (.int x0), .val (.int r)] [(.ref a)])) rfl rfl (hb hby d4_3) fun T1 Y2 => ?_
    show Rn p e below F T1 (mkF m 6 #[.val (.ref a), .val (.int x0), .val (.int r)] [(.ref b1)])
    refine Rn.go (T' := T1) (g' := (mkF m 7 #[.val (.ref a), .val (.int x0), .val (.int r)] [(.int r), (.ref b1)])) (fun t k => ?_) ?_
    · show Steps p.tables e below (T1.setTop (mkF m 6 #[.val (.ref a), .val (.int x0), .val (.int r)] [(.ref b1)])) t
      refine XS.iloadN Y2.here hx rfl (hb hby d4_6) rfl ?_
      show Steps p.tables e below (T1.setTop (mkF m 7 #[.val (.ref a), .val (.int x0), .val (.int r)] [(.int r), (.ref b1)])) t
      exact k
    refine On.ild Y2 hx hZ (i := 1) rfl (k := r) (x := q) hr0 hq (g := (mkF m 7 #[.val (.ref a), .val (.int x0), .val (.int r)] [(.int r), (.ref b1)])) rfl rfl (hb hby d4_7) ?_
    show Rn p e below F T1 (mkF m 8 #[.val (.ref a), .val (.int x0), .val (.int r)] [(.int q)])
    refine Rn.go (T' := T1) (g' := (mkF m 9 #[.val (.ref a), .val (.int x0), .val (.int r)] [(.int r), (.int q)])) (fun t k => ?_) ?_
    · show Steps p.tables e below (T1.setTop (mkF m 8 #[.val (.ref a), .val (.int x0), .val (.int r)] [(.int q)])) t
      refine XS.iloadN Y2.here hx rfl (hb hby d4_8) rfl ?_
      show Steps p.tables e below (T1.setTop (mkF m 9 #[.val (.ref a), .val (.int x0), .val (.int r)] [(.int r), (.int q)])) t
      exact k
    by_cases hc9 : q = r
    · refine Rn.go (T' := T1) (g' := (mkF m 39 #[.val (.ref a), .val (.int x0), .val (.int r)] [])) (fun t k => XS.icmpYes Y2.here hx rfl (pc0 := 9) (pc' := 39) rfl (hb hby d4_9) rfl (teq hc9).1 (by decide) (by decide) k) ?_
      rw [if_pos hc9] at h
      cases h
      exact kk _ Y2
    · refine Rn.go (T' := T1) (g' := (mkF m 12 #[.val (.ref a), .val (.int x0), .val (.int r)] [])) (fun t k => XS.icmpNo Y2.here hx rfl (hb hby d4_9) rfl (feq hc9).1 k) ?_
      rw [if_neg hc9] at h
      by_cases hq0 : q < 0
      · rw [if_pos hq0] at h; cases h
      rw [if_neg hq0] at h
      cases hz : ps[q.toNatClampNeg]? with
      | none => rw [hz] at h; cases h
      | some z =>
        rw [hz] at h
        replace h : own_find k (ps.set r.toNatClampNeg z) z = some (x1, ps1) := h
        have hrl : r.toNatClampNeg < ps.length := (List.getElem?_eq_some_iff.mp hq).1
        refine Rn.go (T' := T1) (g' := (mkF m 13 #[.val (.ref a), .val (.int x0), .val (.int r)] [(.ref a)])) (fun t k => ?_) ?_
        · show Steps p.tables e below (T1.setTop (mkF m 12 #[.val (.ref a), .val (.int x0), .val (.int r)] [])) t
          refine XS.aloadN Y2.here hx rfl (hb hby d4_12) rfl rfl ?_
          show Steps p.tables e below (T1.setTop (mkF m 13 #[.val (.ref a), .val (.int x0), .val (.int r)] [(.ref a)])) t
          exact k
        refine On.getf Y2 hx hZ hown (w11 hw) (i := 0) (j := 0) rfl rfl (g := (mkF m 13 #[.val (.ref a), .val (.int x0), .val (.int r)] [(.ref a)])) rfl rfl (hb hby d4_13) fun T3 Y4 => ?_
        show Rn p e below F T3 (mkF m 16 #[.val (.ref a), .val (.int x0), .val (.int r)] [(.ref b1)])
        refine Rn.go (T' := T3) (g' := (mkF m 18 #[.val (.ref a), .val (.int x0), .val (.int r)] [(.ref a), (.int r), (.ref b1)])) (fun t k => ?_) ?_
        · show Steps p.tables e below (T3.setTop (mkF m 16 #[.val (.ref a), .val (.int x0), .val (.int r)] [(.ref b1)])) t
          refine XS.iloadN Y4.here hx rfl (hb hby d4_16) rfl ?_
          show Steps p.tables e below (T3.setTop (mkF m 17 #[.val (.ref a), .val (.int x0), .val (.int r)] [(.int r), (.ref b1)])) t
          refine XS.aloadN Y4.here hx rfl (hb hby d4_17) rfl rfl ?_
          show Steps p.tables e below (T3.setTop (mkF m 18 #[.val (.ref a), .val (.int x0), .val (.int r)] [(.ref a), (.int r), (.ref b1)])) t
          exact k
        refine On.getf Y4 hx hZ hown (w11 hw) (i := 0) (j := 0) rfl rfl (g := (mkF m 18 #[.val (.ref a), .val (.int x0), .val (.int r)] [(.ref a), (.int r), (.ref b1)])) rfl rfl (hb hby d4_18) fun T5 Y6 => ?_
        show Rn p e below F T5 (mkF m 21 #[.val (.ref a), .val (.int x0), .val (.int r)] [(.ref b1), (.int r), (.ref b1)])
        refine Rn.go (T' := T5) (g' := (mkF m 22 #[.val (.ref a), .val (.int x0), .val (.int r)] [(.ref a), (.ref b1), (.int r), (.ref b1)])) (fun t k => ?_) ?_
        · show Steps p.tables e below (T5.setTop (mkF m 21 #[.val (.ref a), .val (.int x0), .val (.int r)] [(.ref b1), (.int r), (.ref b1)])) t
          refine XS.aloadN Y6.here hx rfl (hb hby d4_21) rfl rfl ?_
          show Steps p.tables e below (T5.setTop (mkF m 22 #[.val (.ref a), .val (.int x0), .val (.int r)] [(.ref a), (.ref b1), (.int r), (.ref b1)])) t
          exact k
        refine On.getf Y6 hx hZ hown (w11 hw) (i := 0) (j := 0) rfl rfl (g := (mkF m 22 #[.val (.ref a), .val (.int x0), .val (.int r)] [(.ref a), (.ref b1), (.int r), (.ref b1)])) rfl rfl (hb hby d4_22) fun T7 Y8 => ?_
        show Rn p e below F T7 (mkF m 25 #[.val (.ref a), .val (.int x0), .val (.int r)] [(.ref b1), (.ref b1), (.int r), (.ref b1)])
        refine Rn.go (T' := T7) (g' := (mkF m 26 #[.val (.ref a), .val (.int x0), .val (.int r)] [(.int r), (.ref b1), (.ref b1), (.int r), (.ref b1)])) (fun t k => ?_) ?_
        · show Steps p.tables e below (T7.setTop (mkF m 25 #[.val (.ref a), .val (.int x0), .val (.int r)] [(.ref b1), (.ref b1), (.int r), (.ref b1)])) t
          refine XS.iloadN Y8.here hx rfl (hb hby d4_25) rfl ?_
          show Steps p.tables e below (T7.setTop (mkF m 26 #[.val (.ref a), .val (.int x0), .val (.int r)] [(.int r), (.ref b1), (.ref b1), (.int r), (.ref b1)])) t
          exact k
        refine On.ild Y8 hx hZ (i := 1) rfl (k := r) (x := q) hr0 hq (g := (mkF m 26 #[.val (.ref a), .val (.int x0), .val (.int r)] [(.int r), (.ref b1), (.ref b1), (.int r), (.ref b1)])) rfl rfl (hb hby d4_26) ?_
        show Rn p e below F T7 (mkF m 27 #[.val (.ref a), .val (.int x0), .val (.int r)] [(.int q), (.ref b1), (.int r), (.ref b1)])
        refine On.ild Y8 hx hZ (i := 1) rfl (k := q) (x := z) hq0 hz (g := (mkF m 27 #[.val (.ref a), .val (.int x0), .val (.int r)] [(.int q), (.ref b1), (.int r), (.ref b1)])) rfl rfl (hb hby d4_27) ?_
        show Rn p e below F T7 (mkF m 28 #[.val (.ref a), .val (.int x0), .val (.int r)] [(.int z), (.int r), (.ref b1)])
        refine On.isto Y8 hx hZ (i := 1) rfl hr0 hrl (g := (mkF m 28 #[.val (.ref a), .val (.int x0), .val (.int r)] [(.int z), (.int r), (.ref b1)])) rfl rfl (hb hby d4_28) fun T9 Y10 => ?_
        replace Y10 : On p l e _ s m _ below meth c Z n0 T9 cells slots ((ob a own_C0 (own_F0 (.ref b1) (.ref b2))) :: (ari b1 .int (6 : Int32) (ps.set r.toNatClampNeg z)) :: (ari b2 .int (6 : Int32) ss) :: Dr) := Y10
        show Rn p e below F T9 (mkF m 29 #[.val (.ref a), .val (.int x0), .val (.int r)] [])
        refine Rn.go (T' := T9) (g' := (mkF m 30 #[.val (.ref a), .val (.int x0), .val (.int r)] [(.ref a)])) (fun t k => ?_) ?_
        · show Steps p.tables e below (T9.setTop (mkF m 29 #[.val (.ref a), .val (.int x0), .val (.int r)] [])) t
          refine XS.aloadN Y10.here hx rfl (hb hby d4_29) rfl rfl ?_
          show Steps p.tables e below (T9.setTop (mkF m 30 #[.val (.ref a), .val (.int x0), .val (.int r)] [(.ref a)])) t
          exact k
        refine On.getf Y10 hx hZ hown (w11 hw) (i := 0) (j := 0) rfl rfl (g := (mkF m 30 #[.val (.ref a), .val (.int x0), .val (.int r)] [(.ref a)])) rfl rfl (hb hby d4_30) fun T11 Y12 => ?_
        show Rn p e below F T11 (mkF m 33 #[.val (.ref a), .val (.int x0), .val (.int r)] [(.ref b1)])
        refine Rn.go (T' := T11) (g' := (mkF m 34 #[.val (.ref a), .val (.int x0), .val (.int r)] [(.int r), (.ref b1)])) (fun t k => ?_) ?_
        · show Steps p.tables e below (T11.setTop (mkF m 33 #[.val (.ref a), .val (.int x0), .val (.int r)] [(.ref b1)])) t
          refine XS.iloadN Y12.here hx rfl (hb hby d4_33) rfl ?_
          show Steps p.tables e below (T11.setTop (mkF m 34 #[.val (.ref a), .val (.int x0), .val (.int r)] [(.int r), (.ref b1)])) t
          exact k
        refine On.ild Y12 hx hZ (i := 1) rfl (k := r) (x := z) hr0 (List.getElem?_set_self hrl) (g := (mkF m 34 #[.val (.ref a), .val (.int x0), .val (.int r)] [(.int r), (.ref b1)])) rfl rfl (hb hby d4_34) ?_
        show Rn p e below F T11 (mkF m 35 #[.val (.ref a), .val (.int x0), .val (.int r)] [(.int z)])
        refine Rn.go (T' := T11) (g' := (mkF m 2 #[.val (.ref a), .val (.int x0), .val (.int z)] [])) (fun t k => ?_) ?_
        · show Steps p.tables e below (T11.setTop (mkF m 35 #[.val (.ref a), .val (.int x0), .val (.int r)] [(.int z)])) t
          refine XS.istoreN Y12.here hx rfl (hb hby d4_35) rfl (l' := #[.val (.ref a), .val (.int x0), .val (.int z)]) rfl ?_
          show Steps p.tables e below (T11.setTop (mkF m 36 #[.val (.ref a), .val (.int x0), .val (.int z)] [])) t
          refine XS.goto Y12.here hx rfl (pc0 := 36) (pc' := 2) rfl (hb hby d4_36) (by decide) (by decide) ?_
          show Steps p.tables e below (T11.setTop (mkF m 2 #[.val (.ref a), .val (.int x0), .val (.int z)] [])) t
          exact k
        exact ih _ _ _ h Y12 kk
theorem ef_rm4 (m : MethodId) (a : Addr) (x0 : Int32) : entryFrame m #[(.ref a), (.int x0)] 3 = (mkF m 0 #[.val (.ref a), .val (.int x0), .unset] []) := by first | (simp [entryFrame, mkF, argsToLocals, Value.category]; done) | rfl
set_option maxRecDepth 65536 in
set_option maxHeartbeats 40000000 in
theorem rm4 (l : Launch) (Z : State) (a0 : Array Value) (hw : ∀ d ∈ tables_1, d.before a0 Z = true) (n0 : Nat) (a : Addr) (x0 : Int32) (b1 : Addr) (b2 : Addr) (ps : List Int32) (ss : List Int32) (Dr : List (Addr × Itm)) (hf : own_find 8 ps x0 = some (own_fr ps x0, own_fp ps x0)) :
    Con l Z n0 (⟨"com/example/arborplan/arborplan/tree/DisjointSets", "find", "(I)I"⟩ : MethodName) prog_37_method_2_code 3 (some .int) ({ frames := 0, cells := 0, slots := 0, locals := 0 } : Room) #[(.ref a), (.int x0)] ((ob a own_C0 (own_F0 (.ref b1) (.ref b2))) :: (ari b1 .int (6 : Int32) ps) :: (ari b2 .int (6 : Int32) ss) :: Dr) (fun v D' => v = some (.int (own_fr ps x0)) ∧ D' = ((ob a own_C0 (own_F0 (.ref b1) (.ref b2))) :: (ari b1 .int (6 : Int32) (own_fp ps x0)) :: (ari b2 .int (6 : Int32) ss) :: Dr)) := by
  refine Con.of (plainFor_of_name pn0) ?_
  intro p e s m below meth c T cx Y
  obtain ⟨hx, hby, hml, hown, hnm, hret, hlk, hZ⟩ := cx
  rw [ef_rm4]
  generalize hF : Fi Z n0 below s _ _ _ = F
  refine Rn.go (T' := T) (g' := (mkF m 2 #[.val (.ref a), .val (.int x0), .val (.int x0)] [])) (fun t k => ?_) ?_
  · show Steps p.tables e below (T.setTop (mkF m 0 #[.val (.ref a), .val (.int x0), .unset] [])) t
    refine XS.iloadN Y.here hx rfl (hb hby d4_0) rfl ?_
    show Steps p.tables e below (T.setTop (mkF m 1 #[.val (.ref a), .val (.int x0), .unset] [(.int x0)])) t
    refine XS.istoreN Y.here hx rfl (hb hby d4_1) rfl (l' := #[.val (.ref a), .val (.int x0), .val (.int x0)]) rfl ?_
    show Steps p.tables e below (T.setTop (mkF m 2 #[.val (.ref a), .val (.int x0), .val (.int x0)] [])) t
    exact k
  refine own_loop hx hby hml hown hZ hw a b1 b2 x0 _ ss _ Dr 8 ps x0 T hf Y fun T9 Y9 => ?_
  refine Rn.go (T' := T9) (g' := (mkF m 40 #[.val (.ref a), .val (.int x0), .val (.int (own_fr ps x0))] [(.int (own_fr ps x0))])) (fun t k => ?_) ?_
  · show Steps p.tables e below (T9.setTop (mkF m 39 #[.val (.ref a), .val (.int x0), .val (.int (own_fr ps x0))] [])) t
    refine XS.iloadN Y9.here hx rfl (hb hby d4_39) rfl ?_
    show Steps p.tables e below (T9.setTop (mkF m 40 #[.val (.ref a), .val (.int x0), .val (.int (own_fr ps x0))] [(.int (own_fr ps x0))])) t
    exact k
  rw [← hF]; exact On.reti Y9 hx hret hlk (hb hby d4_40) (by decide) (by decide) ⟨rfl, rfl⟩
def own_ef (x0 : Int32) (x1 : Int32) (x2 : Int32) (x3 : Int32) : Int32 := (if x0 < x1 then x3 else (if x0 < (3 : Int32) then x0 else (if x0 < ((3 : Int32) + x2) then x3 else x0)))
theorem ef_rm5 (m : MethodId) (x0 : Int32) (x1 : Int32) (x2 : Int32) (x3 : Int32) : entryFrame m #[(.int x0), (.int x1), (.int x2), (.int x3)] 4 = (mkF m 0 #[.val (.int x0), .val (.int x1), .val (.int x2), .val (.int x3)] []) := by first | (simp [entryFrame, mkF, argsToLocals, Value.category]; done) | rfl
set_option maxRecDepth 65536 in
set_option maxHeartbeats 40000000 in
theorem rm5 (l : Launch) (Z : State) (a0 : Array Value) (hw : ∀ d ∈ tables_1, d.before a0 Z = true) (n0 : Nat) (x0 : Int32) (x1 : Int32) (x2 : Int32) (x3 : Int32) (Dr : List (Addr × Itm)) :
    Con l Z n0 (⟨"com/example/arborplan/arborplan/tree/DisjointSetsUnionPinLaw", "expectedFind", "(IIII)I"⟩ : MethodName) method_2_code 4 (some .int) ({ frames := 0, cells := 0, slots := 0, locals := 0 } : Room) #[(.int x0), (.int x1), (.int x2), (.int x3)] Dr (fun v D' => v = some (.int (own_ef x0 x1 x2 x3)) ∧ D' = Dr) := by
  refine Con.of (plainFor_of_name pn1) ?_
  intro p e s m below meth c T cx Y
  obtain ⟨hx, hby, hml, hown, hnm, hret, hlk, hZ⟩ := cx
  rw [ef_rm5]
  generalize hF : Fi Z n0 below s _ _ _ = F
  refine Rn.go (T' := T) (g' := (mkF m 2 #[.val (.int x0), .val (.int x1), .val (.int x2), .val (.int x3)] [(.int x1), (.int x0)])) (fun t k => ?_) ?_
  · show Steps p.tables e below (T.setTop (mkF m 0 #[.val (.int x0), .val (.int x1), .val (.int x2), .val (.int x3)] [])) t
    refine XS.iloadN Y.here hx rfl (hb hby d5_0) rfl ?_
    show Steps p.tables e below (T.setTop (mkF m 1 #[.val (.int x0), .val (.int x1), .val (.int x2), .val (.int x3)] [(.int x0)])) t
    refine XS.iloadN Y.here hx rfl (hb hby d5_1) rfl ?_
    show Steps p.tables e below (T.setTop (mkF m 2 #[.val (.int x0), .val (.int x1), .val (.int x2), .val (.int x3)] [(.int x1), (.int x0)])) t
    exact k
  by_cases hc2 : x0 < x1
  · refine Rn.go (T' := T) (g' := (mkF m 5 #[.val (.int x0), .val (.int x1), .val (.int x2), .val (.int x3)] [])) (fun t k => XS.icmpNo Y.here hx rfl (hb hby d5_2) rfl (tlt hc2).2.1 k) ?_
    refine Rn.go (T' := T) (g' := (mkF m 6 #[.val (.int x0), .val (.int x1), .val (.int x2), .val (.int x3)] [(.int x3)])) (fun t k => ?_) ?_
    · show Steps p.tables e below (T.setTop (mkF m 5 #[.val (.int x0), .val (.int x1), .val (.int x2), .val (.int x3)] [])) t
      refine XS.iloadN Y.here hx rfl (hb hby d5_5) rfl ?_
      show Steps p.tables e below (T.setTop (mkF m 6 #[.val (.int x0), .val (.int x1), .val (.int x2), .val (.int x3)] [(.int x3)])) t
      exact k
    rw [← hF]; exact On.reti Y hx hret hlk (hb hby d5_6) (by decide) (by decide) ⟨by unfold own_ef; rw [if_pos hc2] <;> rfl, rfl⟩
  · refine Rn.go (T' := T) (g' := (mkF m 7 #[.val (.int x0), .val (.int x1), .val (.int x2), .val (.int x3)] [])) (fun t k => XS.icmpYes Y.here hx rfl (pc0 := 2) (pc' := 7) rfl (hb hby d5_2) rfl (flt hc2).2.1 (by decide) (by decide) k) ?_
    refine Rn.go (T' := T) (g' := (mkF m 9 #[.val (.int x0), .val (.int x1), .val (.int x2), .val (.int x3)] [(.int (3 : Int32)), (.int x0)])) (fun t k => ?_) ?_
    · show Steps p.tables e below (T.setTop (mkF m 7 #[.val (.int x0), .val (.int x1), .val (.int x2), .val (.int x3)] [])) t
      refine XS.iloadN Y.here hx rfl (hb hby d5_7) rfl ?_
      show Steps p.tables e below (T.setTop (mkF m 8 #[.val (.int x0), .val (.int x1), .val (.int x2), .val (.int x3)] [(.int x0)])) t
      refine XS.iconst Y.here hx rfl (hb hby d5_8) ?_
      show Steps p.tables e below (T.setTop (mkF m 9 #[.val (.int x0), .val (.int x1), .val (.int x2), .val (.int x3)] [(.int (3 : Int32)), (.int x0)])) t
      exact k
    by_cases hc9 : x0 < (3 : Int32)
    · refine Rn.go (T' := T) (g' := (mkF m 21 #[.val (.int x0), .val (.int x1), .val (.int x2), .val (.int x3)] [])) (fun t k => XS.icmpYes Y.here hx rfl (pc0 := 9) (pc' := 21) rfl (hb hby d5_9) rfl (tlt hc9).1 (by decide) (by decide) k) ?_
      refine Rn.go (T' := T) (g' := (mkF m 22 #[.val (.int x0), .val (.int x1), .val (.int x2), .val (.int x3)] [(.int x0)])) (fun t k => ?_) ?_
      · show Steps p.tables e below (T.setTop (mkF m 21 #[.val (.int x0), .val (.int x1), .val (.int x2), .val (.int x3)] [])) t
        refine XS.iloadN Y.here hx rfl (hb hby d5_21) rfl ?_
        show Steps p.tables e below (T.setTop (mkF m 22 #[.val (.int x0), .val (.int x1), .val (.int x2), .val (.int x3)] [(.int x0)])) t
        exact k
      rw [← hF]; exact On.reti Y hx hret hlk (hb hby d5_22) (by decide) (by decide) ⟨by unfold own_ef; rw [if_neg hc2, if_pos hc9] <;> rfl, rfl⟩
    · refine Rn.go (T' := T) (g' := (mkF m 12 #[.val (.int x0), .val (.int x1), .val (.int x2), .val (.int x3)] [])) (fun t k => XS.icmpNo Y.here hx rfl (hb hby d5_9) rfl (flt hc9).1 k) ?_
      refine Rn.go (T' := T) (g' := (mkF m 16 #[.val (.int x0), .val (.int x1), .val (.int x2), .val (.int x3)] [(.int ((3 : Int32) + x2)), (.int x0)])) (fun t k => ?_) ?_
      · show Steps p.tables e below (T.setTop (mkF m 12 #[.val (.int x0), .val (.int x1), .val (.int x2), .val (.int x3)] [])) t
        refine XS.iloadN Y.here hx rfl (hb hby d5_12) rfl ?_
        show Steps p.tables e below (T.setTop (mkF m 13 #[.val (.int x0), .val (.int x1), .val (.int x2), .val (.int x3)] [(.int x0)])) t
        refine XS.iconst Y.here hx rfl (hb hby d5_13) ?_
        show Steps p.tables e below (T.setTop (mkF m 14 #[.val (.int x0), .val (.int x1), .val (.int x2), .val (.int x3)] [(.int (3 : Int32)), (.int x0)])) t
        refine XS.iloadN Y.here hx rfl (hb hby d5_14) rfl ?_
        show Steps p.tables e below (T.setTop (mkF m 15 #[.val (.int x0), .val (.int x1), .val (.int x2), .val (.int x3)] [(.int x2), (.int (3 : Int32)), (.int x0)])) t
        refine XS.iadd Y.here hx rfl (hb hby d5_15) rfl ?_
        show Steps p.tables e below (T.setTop (mkF m 16 #[.val (.int x0), .val (.int x1), .val (.int x2), .val (.int x3)] [(.int ((3 : Int32) + x2)), (.int x0)])) t
        exact k
      by_cases hc16 : x0 < ((3 : Int32) + x2)
      · refine Rn.go (T' := T) (g' := (mkF m 19 #[.val (.int x0), .val (.int x1), .val (.int x2), .val (.int x3)] [])) (fun t k => XS.icmpNo Y.here hx rfl (hb hby d5_16) rfl (tlt hc16).2.1 k) ?_
        refine Rn.go (T' := T) (g' := (mkF m 20 #[.val (.int x0), .val (.int x1), .val (.int x2), .val (.int x3)] [(.int x3)])) (fun t k => ?_) ?_
        · show Steps p.tables e below (T.setTop (mkF m 19 #[.val (.int x0), .val (.int x1), .val (.int x2), .val (.int x3)] [])) t
          refine XS.iloadN Y.here hx rfl (hb hby d5_19) rfl ?_
          show Steps p.tables e below (T.setTop (mkF m 20 #[.val (.int x0), .val (.int x1), .val (.int x2), .val (.int x3)] [(.int x3)])) t
          exact k
        rw [← hF]; exact On.reti Y hx hret hlk (hb hby d5_20) (by decide) (by decide) ⟨by unfold own_ef; rw [if_neg hc2, if_neg hc9, if_pos hc16] <;> rfl, rfl⟩
      · refine Rn.go (T' := T) (g' := (mkF m 21 #[.val (.int x0), .val (.int x1), .val (.int x2), .val (.int x3)] [])) (fun t k => XS.icmpYes Y.here hx rfl (pc0 := 16) (pc' := 21) rfl (hb hby d5_16) rfl (flt hc16).2.1 (by decide) (by decide) k) ?_
        refine Rn.go (T' := T) (g' := (mkF m 22 #[.val (.int x0), .val (.int x1), .val (.int x2), .val (.int x3)] [(.int x0)])) (fun t k => ?_) ?_
        · show Steps p.tables e below (T.setTop (mkF m 21 #[.val (.int x0), .val (.int x1), .val (.int x2), .val (.int x3)] [])) t
          refine XS.iloadN Y.here hx rfl (hb hby d5_21) rfl ?_
          show Steps p.tables e below (T.setTop (mkF m 22 #[.val (.int x0), .val (.int x1), .val (.int x2), .val (.int x3)] [(.int x0)])) t
          exact k
        rw [← hF]; exact On.reti Y hx hret hlk (hb hby d5_22) (by decide) (by decide) ⟨by unfold own_ef; rw [if_neg hc2, if_neg hc9, if_neg hc16] <;> rfl, rfl⟩
/-! ## H. The states of the two blocks -/
def own_da (t : Int32) : Int32 := if t = 0 then 0 else if t = 1 then 1 else if t = 2 then 1 else 2
def own_ra (t : Int32) : Int32 := if t = 2 then 1 else if t = 4 then 1 else 0
def own_rb (t : Int32) : Int32 := if t = 2 then 4 else if t = 4 then 4 else 3
def own_pa (t : Int32) : List Int32 := if t = 0 then [0, 1, 2] else if t = 1 then [0, 0, 2] else if t = 2 then [1, 1, 2] else if t = 3 then [0, 0, 0] else [1, 1, 1]
def own_pb (t : Int32) : List Int32 := if t = 0 then [3, 4, 5] else if t = 1 then [3, 3, 5] else if t = 2 then [4, 4, 5] else if t = 3 then [3, 3, 3] else [4, 4, 4]
def own_sa (t : Int32) : List Int32 := if t = 0 then [1, 1, 1] else if t = 1 then [2, 1, 1] else if t = 2 then [1, 2, 1] else if t = 3 then [3, 1, 1] else [1, 3, 1]
def own_P (t u : Int32) : List Int32 := own_pa t ++ own_pb u
def own_S (t u : Int32) : List Int32 := own_sa t ++ own_sa u
theorem own_d (x : Int32) : 0 ≤ ((x &&& (2147483647 : Int32)) % (3 : Int32)).toInt ∧ ((x &&& (2147483647 : Int32)) % (3 : Int32)).toInt ≤ 2 := by
  have h := Jvm.Kit.i32_mask x 2147483647 (k := 31) (by decide) (by decide)
  rw [own_remI (k := 3) rfl (by omega)]; omega
theorem own_bit {b x : Int32} (h : b = (if x = (0 : Int32) then (1 : Int32) else (0 : Int32))) : b = 0 ∨ b = 1 := by
  rw [h]; by_cases q : x = 0
  · exact Or.inr (if_pos q)
  · exact Or.inl (if_neg q)
set_option maxRecDepth 65536 in
set_option maxHeartbeats 40000000 in
theorem own_f1 {tA : Int32} (hb_tA : tA = 0 ∨ tA = 1 ∨ tA = 2 ∨ tA = 3 ∨ tA = 4) : own_P tA (0 : Int32) = (own_P tA (0 : Int32)) := by
  rcases hb_tA with rfl | rfl | rfl | rfl | rfl <;> decide
set_option maxRecDepth 65536 in
set_option maxHeartbeats 40000000 in
theorem own_f2 {tA : Int32} (hb_tA : tA = 0 ∨ tA = 1 ∨ tA = 2 ∨ tA = 3 ∨ tA = 4) : own_S tA (0 : Int32) = (own_S tA (0 : Int32)) := by
  rcases hb_tA with rfl | rfl | rfl | rfl | rfl <;> decide
set_option maxRecDepth 65536 in
set_option maxHeartbeats 40000000 in
theorem own_f3 : ¬ (3 : Int32) < 0 := by
  decide
set_option maxRecDepth 65536 in
set_option maxHeartbeats 40000000 in
theorem own_f4 : (3 : Int32).toNatClampNeg < 6 := by
  decide
set_option maxRecDepth 65536 in
set_option maxHeartbeats 40000000 in
theorem own_f5 : ¬ (4 : Int32) < 0 := by
  decide
set_option maxRecDepth 65536 in
set_option maxHeartbeats 40000000 in
theorem own_f6 : (4 : Int32).toNatClampNeg < 6 := by
  decide
set_option maxRecDepth 65536 in
set_option maxHeartbeats 40000000 in
theorem own_f7 {tA : Int32} (hb_tA : tA = 0 ∨ tA = 1 ∨ tA = 2 ∨ tA = 3 ∨ tA = 4) : (own_P tA (0 : Int32)).length = 6 := by
  rcases hb_tA with rfl | rfl | rfl | rfl | rfl <;> decide
set_option maxRecDepth 65536 in
set_option maxHeartbeats 40000000 in
theorem own_f8 {tA : Int32} (hb_tA : tA = 0 ∨ tA = 1 ∨ tA = 2 ∨ tA = 3 ∨ tA = 4) : (own_S tA (0 : Int32)).length = 6 := by
  rcases hb_tA with rfl | rfl | rfl | rfl | rfl <;> decide
set_option maxRecDepth 65536 in
set_option maxHeartbeats 40000000 in
theorem own_f9 {tA : Int32} {r214 : Int32} (hb_tA : tA = 0 ∨ tA = 1 ∨ tA = 2 ∨ tA = 3 ∨ tA = 4) (hr214 : r214 = (own_ro (own_S tA (0 : Int32)) (3 : Int32) (4 : Int32))) : r214 = (3 : Int32) := by
  rcases hb_tA with rfl | rfl | rfl | rfl | rfl <;> subst hr214 <;> decide
set_option maxRecDepth 65536 in
set_option maxHeartbeats 40000000 in
theorem own_f10 {tA : Int32} (hb_tA : tA = 0 ∨ tA = 1 ∨ tA = 2 ∨ tA = 3 ∨ tA = 4) : own_P tA (1 : Int32) = (own_pn (own_P tA (0 : Int32)) (own_S tA (0 : Int32)) (3 : Int32) (4 : Int32)) := by
  rcases hb_tA with rfl | rfl | rfl | rfl | rfl <;> decide
set_option maxRecDepth 65536 in
set_option maxHeartbeats 40000000 in
theorem own_f11 {tA : Int32} (hb_tA : tA = 0 ∨ tA = 1 ∨ tA = 2 ∨ tA = 3 ∨ tA = 4) : own_S tA (1 : Int32) = (own_sn (own_S tA (0 : Int32)) (3 : Int32) (4 : Int32)) := by
  rcases hb_tA with rfl | rfl | rfl | rfl | rfl <;> decide
set_option maxRecDepth 65536 in
set_option maxHeartbeats 40000000 in
theorem own_f12 : ¬ (4 : Int32) < 0 := by
  decide
set_option maxRecDepth 65536 in
set_option maxHeartbeats 40000000 in
theorem own_f13 : (4 : Int32).toNatClampNeg < 6 := by
  decide
set_option maxRecDepth 65536 in
set_option maxHeartbeats 40000000 in
theorem own_f14 : ¬ (3 : Int32) < 0 := by
  decide
set_option maxRecDepth 65536 in
set_option maxHeartbeats 40000000 in
theorem own_f15 : (3 : Int32).toNatClampNeg < 6 := by
  decide
set_option maxRecDepth 65536 in
set_option maxHeartbeats 40000000 in
theorem own_f16 {tA : Int32} (hb_tA : tA = 0 ∨ tA = 1 ∨ tA = 2 ∨ tA = 3 ∨ tA = 4) : (own_P tA (0 : Int32)).length = 6 := by
  rcases hb_tA with rfl | rfl | rfl | rfl | rfl <;> decide
set_option maxRecDepth 65536 in
set_option maxHeartbeats 40000000 in
theorem own_f17 {tA : Int32} (hb_tA : tA = 0 ∨ tA = 1 ∨ tA = 2 ∨ tA = 3 ∨ tA = 4) : (own_S tA (0 : Int32)).length = 6 := by
  rcases hb_tA with rfl | rfl | rfl | rfl | rfl <;> decide
set_option maxRecDepth 65536 in
set_option maxHeartbeats 40000000 in
theorem own_f18 {tA : Int32} {r181 : Int32} (hb_tA : tA = 0 ∨ tA = 1 ∨ tA = 2 ∨ tA = 3 ∨ tA = 4) (hr181 : r181 = (own_ro (own_S tA (0 : Int32)) (4 : Int32) (3 : Int32))) : r181 = (4 : Int32) := by
  rcases hb_tA with rfl | rfl | rfl | rfl | rfl <;> subst hr181 <;> decide
set_option maxRecDepth 65536 in
set_option maxHeartbeats 40000000 in
theorem own_f19 {tA : Int32} (hb_tA : tA = 0 ∨ tA = 1 ∨ tA = 2 ∨ tA = 3 ∨ tA = 4) : own_P tA (2 : Int32) = (own_pn (own_P tA (0 : Int32)) (own_S tA (0 : Int32)) (4 : Int32) (3 : Int32)) := by
  rcases hb_tA with rfl | rfl | rfl | rfl | rfl <;> decide
set_option maxRecDepth 65536 in
set_option maxHeartbeats 40000000 in
theorem own_f20 {tA : Int32} (hb_tA : tA = 0 ∨ tA = 1 ∨ tA = 2 ∨ tA = 3 ∨ tA = 4) : own_S tA (2 : Int32) = (own_sn (own_S tA (0 : Int32)) (4 : Int32) (3 : Int32)) := by
  rcases hb_tA with rfl | rfl | rfl | rfl | rfl <;> decide
set_option maxRecDepth 65536 in
set_option maxHeartbeats 40000000 in
theorem own_f21 : ¬ (3 : Int32) < 0 := by
  decide
set_option maxRecDepth 65536 in
set_option maxHeartbeats 40000000 in
theorem own_f22 : (3 : Int32).toNatClampNeg < 6 := by
  decide
set_option maxRecDepth 65536 in
set_option maxHeartbeats 40000000 in
theorem own_f23 : ¬ (4 : Int32) < 0 := by
  decide
set_option maxRecDepth 65536 in
set_option maxHeartbeats 40000000 in
theorem own_f24 : (4 : Int32).toNatClampNeg < 6 := by
  decide
set_option maxRecDepth 65536 in
set_option maxHeartbeats 40000000 in
theorem own_f25 {tA : Int32} (hb_tA : tA = 0 ∨ tA = 1 ∨ tA = 2 ∨ tA = 3 ∨ tA = 4) : (own_P tA (0 : Int32)).length = 6 := by
  rcases hb_tA with rfl | rfl | rfl | rfl | rfl <;> decide
set_option maxRecDepth 65536 in
set_option maxHeartbeats 40000000 in
theorem own_f26 {tA : Int32} (hb_tA : tA = 0 ∨ tA = 1 ∨ tA = 2 ∨ tA = 3 ∨ tA = 4) : (own_S tA (0 : Int32)).length = 6 := by
  rcases hb_tA with rfl | rfl | rfl | rfl | rfl <;> decide
set_option maxRecDepth 65536 in
set_option maxHeartbeats 40000000 in
theorem own_f27 {tA : Int32} {r214 : Int32} (hb_tA : tA = 0 ∨ tA = 1 ∨ tA = 2 ∨ tA = 3 ∨ tA = 4) (hr214 : r214 = (own_ro (own_S tA (0 : Int32)) (3 : Int32) (4 : Int32))) : r214 = (3 : Int32) := by
  rcases hb_tA with rfl | rfl | rfl | rfl | rfl <;> subst hr214 <;> decide
set_option maxRecDepth 65536 in
set_option maxHeartbeats 40000000 in
theorem own_f28 : ¬ (3 : Int32) < 0 := by
  decide
set_option maxRecDepth 65536 in
set_option maxHeartbeats 40000000 in
theorem own_f29 : (3 : Int32).toNatClampNeg < 6 := by
  decide
set_option maxRecDepth 65536 in
set_option maxHeartbeats 40000000 in
theorem own_f30 : ¬ (5 : Int32) < 0 := by
  decide
set_option maxRecDepth 65536 in
set_option maxHeartbeats 40000000 in
theorem own_f31 : (5 : Int32).toNatClampNeg < 6 := by
  decide
set_option maxRecDepth 65536 in
set_option maxHeartbeats 40000000 in
theorem own_f32 {tA : Int32} (hb_tA : tA = 0 ∨ tA = 1 ∨ tA = 2 ∨ tA = 3 ∨ tA = 4) : (own_pn (own_P tA (0 : Int32)) (own_S tA (0 : Int32)) (3 : Int32) (4 : Int32)).length = 6 := by
  rcases hb_tA with rfl | rfl | rfl | rfl | rfl <;> decide
set_option maxRecDepth 65536 in
set_option maxHeartbeats 40000000 in
theorem own_f33 {tA : Int32} (hb_tA : tA = 0 ∨ tA = 1 ∨ tA = 2 ∨ tA = 3 ∨ tA = 4) : (own_sn (own_S tA (0 : Int32)) (3 : Int32) (4 : Int32)).length = 6 := by
  rcases hb_tA with rfl | rfl | rfl | rfl | rfl <;> decide
set_option maxRecDepth 65536 in
set_option maxHeartbeats 40000000 in
theorem own_f34 {tA : Int32} {r271 : Int32} (hb_tA : tA = 0 ∨ tA = 1 ∨ tA = 2 ∨ tA = 3 ∨ tA = 4) (hr271 : r271 = (own_ro (own_sn (own_S tA (0 : Int32)) (3 : Int32) (4 : Int32)) (3 : Int32) (5 : Int32))) : r271 = (3 : Int32) := by
  rcases hb_tA with rfl | rfl | rfl | rfl | rfl <;> subst hr271 <;> decide
set_option maxRecDepth 65536 in
set_option maxHeartbeats 40000000 in
theorem own_f35 {tA : Int32} (hb_tA : tA = 0 ∨ tA = 1 ∨ tA = 2 ∨ tA = 3 ∨ tA = 4) : own_P tA (3 : Int32) = (own_pn (own_pn (own_P tA (0 : Int32)) (own_S tA (0 : Int32)) (3 : Int32) (4 : Int32)) (own_sn (own_S tA (0 : Int32)) (3 : Int32) (4 : Int32)) (3 : Int32) (5 : Int32)) := by
  rcases hb_tA with rfl | rfl | rfl | rfl | rfl <;> decide
set_option maxRecDepth 65536 in
set_option maxHeartbeats 40000000 in
theorem own_f36 {tA : Int32} (hb_tA : tA = 0 ∨ tA = 1 ∨ tA = 2 ∨ tA = 3 ∨ tA = 4) : own_S tA (3 : Int32) = (own_sn (own_sn (own_S tA (0 : Int32)) (3 : Int32) (4 : Int32)) (3 : Int32) (5 : Int32)) := by
  rcases hb_tA with rfl | rfl | rfl | rfl | rfl <;> decide
set_option maxRecDepth 65536 in
set_option maxHeartbeats 40000000 in
theorem own_f37 : ¬ (5 : Int32) < 0 := by
  decide
set_option maxRecDepth 65536 in
set_option maxHeartbeats 40000000 in
theorem own_f38 : (5 : Int32).toNatClampNeg < 6 := by
  decide
set_option maxRecDepth 65536 in
set_option maxHeartbeats 40000000 in
theorem own_f39 : ¬ (3 : Int32) < 0 := by
  decide
set_option maxRecDepth 65536 in
set_option maxHeartbeats 40000000 in
theorem own_f40 : (3 : Int32).toNatClampNeg < 6 := by
  decide
set_option maxRecDepth 65536 in
set_option maxHeartbeats 40000000 in
theorem own_f41 {tA : Int32} (hb_tA : tA = 0 ∨ tA = 1 ∨ tA = 2 ∨ tA = 3 ∨ tA = 4) : (own_pn (own_P tA (0 : Int32)) (own_S tA (0 : Int32)) (3 : Int32) (4 : Int32)).length = 6 := by
  rcases hb_tA with rfl | rfl | rfl | rfl | rfl <;> decide
set_option maxRecDepth 65536 in
set_option maxHeartbeats 40000000 in
theorem own_f42 {tA : Int32} (hb_tA : tA = 0 ∨ tA = 1 ∨ tA = 2 ∨ tA = 3 ∨ tA = 4) : (own_sn (own_S tA (0 : Int32)) (3 : Int32) (4 : Int32)).length = 6 := by
  rcases hb_tA with rfl | rfl | rfl | rfl | rfl <;> decide
set_option maxRecDepth 65536 in
set_option maxHeartbeats 40000000 in
theorem own_f43 {tA : Int32} {r258 : Int32} (hb_tA : tA = 0 ∨ tA = 1 ∨ tA = 2 ∨ tA = 3 ∨ tA = 4) (hr258 : r258 = (own_ro (own_sn (own_S tA (0 : Int32)) (3 : Int32) (4 : Int32)) (5 : Int32) (3 : Int32))) : r258 = (3 : Int32) := by
  rcases hb_tA with rfl | rfl | rfl | rfl | rfl <;> subst hr258 <;> decide
set_option maxRecDepth 65536 in
set_option maxHeartbeats 40000000 in
theorem own_f44 {tA : Int32} (hb_tA : tA = 0 ∨ tA = 1 ∨ tA = 2 ∨ tA = 3 ∨ tA = 4) : own_P tA (3 : Int32) = (own_pn (own_pn (own_P tA (0 : Int32)) (own_S tA (0 : Int32)) (3 : Int32) (4 : Int32)) (own_sn (own_S tA (0 : Int32)) (3 : Int32) (4 : Int32)) (5 : Int32) (3 : Int32)) := by
  rcases hb_tA with rfl | rfl | rfl | rfl | rfl <;> decide
set_option maxRecDepth 65536 in
set_option maxHeartbeats 40000000 in
theorem own_f45 {tA : Int32} (hb_tA : tA = 0 ∨ tA = 1 ∨ tA = 2 ∨ tA = 3 ∨ tA = 4) : own_S tA (3 : Int32) = (own_sn (own_sn (own_S tA (0 : Int32)) (3 : Int32) (4 : Int32)) (5 : Int32) (3 : Int32)) := by
  rcases hb_tA with rfl | rfl | rfl | rfl | rfl <;> decide
set_option maxRecDepth 65536 in
set_option maxHeartbeats 40000000 in
theorem own_f46 : ¬ (4 : Int32) < 0 := by
  decide
set_option maxRecDepth 65536 in
set_option maxHeartbeats 40000000 in
theorem own_f47 : (4 : Int32).toNatClampNeg < 6 := by
  decide
set_option maxRecDepth 65536 in
set_option maxHeartbeats 40000000 in
theorem own_f48 : ¬ (3 : Int32) < 0 := by
  decide
set_option maxRecDepth 65536 in
set_option maxHeartbeats 40000000 in
theorem own_f49 : (3 : Int32).toNatClampNeg < 6 := by
  decide
set_option maxRecDepth 65536 in
set_option maxHeartbeats 40000000 in
theorem own_f50 {tA : Int32} (hb_tA : tA = 0 ∨ tA = 1 ∨ tA = 2 ∨ tA = 3 ∨ tA = 4) : (own_P tA (0 : Int32)).length = 6 := by
  rcases hb_tA with rfl | rfl | rfl | rfl | rfl <;> decide
set_option maxRecDepth 65536 in
set_option maxHeartbeats 40000000 in
theorem own_f51 {tA : Int32} (hb_tA : tA = 0 ∨ tA = 1 ∨ tA = 2 ∨ tA = 3 ∨ tA = 4) : (own_S tA (0 : Int32)).length = 6 := by
  rcases hb_tA with rfl | rfl | rfl | rfl | rfl <;> decide
set_option maxRecDepth 65536 in
set_option maxHeartbeats 40000000 in
theorem own_f52 {tA : Int32} {r181 : Int32} (hb_tA : tA = 0 ∨ tA = 1 ∨ tA = 2 ∨ tA = 3 ∨ tA = 4) (hr181 : r181 = (own_ro (own_S tA (0 : Int32)) (4 : Int32) (3 : Int32))) : r181 = (4 : Int32) := by
  rcases hb_tA with rfl | rfl | rfl | rfl | rfl <;> subst hr181 <;> decide
set_option maxRecDepth 65536 in
set_option maxHeartbeats 40000000 in
theorem own_f53 : ¬ (4 : Int32) < 0 := by
  decide
set_option maxRecDepth 65536 in
set_option maxHeartbeats 40000000 in
theorem own_f54 : (4 : Int32).toNatClampNeg < 6 := by
  decide
set_option maxRecDepth 65536 in
set_option maxHeartbeats 40000000 in
theorem own_f55 : ¬ (5 : Int32) < 0 := by
  decide
set_option maxRecDepth 65536 in
set_option maxHeartbeats 40000000 in
theorem own_f56 : (5 : Int32).toNatClampNeg < 6 := by
  decide
set_option maxRecDepth 65536 in
set_option maxHeartbeats 40000000 in
theorem own_f57 {tA : Int32} (hb_tA : tA = 0 ∨ tA = 1 ∨ tA = 2 ∨ tA = 3 ∨ tA = 4) : (own_pn (own_P tA (0 : Int32)) (own_S tA (0 : Int32)) (4 : Int32) (3 : Int32)).length = 6 := by
  rcases hb_tA with rfl | rfl | rfl | rfl | rfl <;> decide
set_option maxRecDepth 65536 in
set_option maxHeartbeats 40000000 in
theorem own_f58 {tA : Int32} (hb_tA : tA = 0 ∨ tA = 1 ∨ tA = 2 ∨ tA = 3 ∨ tA = 4) : (own_sn (own_S tA (0 : Int32)) (4 : Int32) (3 : Int32)).length = 6 := by
  rcases hb_tA with rfl | rfl | rfl | rfl | rfl <;> decide
set_option maxRecDepth 65536 in
set_option maxHeartbeats 40000000 in
theorem own_f59 {tA : Int32} {r271 : Int32} (hb_tA : tA = 0 ∨ tA = 1 ∨ tA = 2 ∨ tA = 3 ∨ tA = 4) (hr271 : r271 = (own_ro (own_sn (own_S tA (0 : Int32)) (4 : Int32) (3 : Int32)) (4 : Int32) (5 : Int32))) : r271 = (4 : Int32) := by
  rcases hb_tA with rfl | rfl | rfl | rfl | rfl <;> subst hr271 <;> decide
set_option maxRecDepth 65536 in
set_option maxHeartbeats 40000000 in
theorem own_f60 {tA : Int32} (hb_tA : tA = 0 ∨ tA = 1 ∨ tA = 2 ∨ tA = 3 ∨ tA = 4) : own_P tA (4 : Int32) = (own_pn (own_pn (own_P tA (0 : Int32)) (own_S tA (0 : Int32)) (4 : Int32) (3 : Int32)) (own_sn (own_S tA (0 : Int32)) (4 : Int32) (3 : Int32)) (4 : Int32) (5 : Int32)) := by
  rcases hb_tA with rfl | rfl | rfl | rfl | rfl <;> decide
set_option maxRecDepth 65536 in
set_option maxHeartbeats 40000000 in
theorem own_f61 {tA : Int32} (hb_tA : tA = 0 ∨ tA = 1 ∨ tA = 2 ∨ tA = 3 ∨ tA = 4) : own_S tA (4 : Int32) = (own_sn (own_sn (own_S tA (0 : Int32)) (4 : Int32) (3 : Int32)) (4 : Int32) (5 : Int32)) := by
  rcases hb_tA with rfl | rfl | rfl | rfl | rfl <;> decide
set_option maxRecDepth 65536 in
set_option maxHeartbeats 40000000 in
theorem own_f62 : ¬ (5 : Int32) < 0 := by
  decide
set_option maxRecDepth 65536 in
set_option maxHeartbeats 40000000 in
theorem own_f63 : (5 : Int32).toNatClampNeg < 6 := by
  decide
set_option maxRecDepth 65536 in
set_option maxHeartbeats 40000000 in
theorem own_f64 : ¬ (4 : Int32) < 0 := by
  decide
set_option maxRecDepth 65536 in
set_option maxHeartbeats 40000000 in
theorem own_f65 : (4 : Int32).toNatClampNeg < 6 := by
  decide
set_option maxRecDepth 65536 in
set_option maxHeartbeats 40000000 in
theorem own_f66 {tA : Int32} (hb_tA : tA = 0 ∨ tA = 1 ∨ tA = 2 ∨ tA = 3 ∨ tA = 4) : (own_pn (own_P tA (0 : Int32)) (own_S tA (0 : Int32)) (4 : Int32) (3 : Int32)).length = 6 := by
  rcases hb_tA with rfl | rfl | rfl | rfl | rfl <;> decide
set_option maxRecDepth 65536 in
set_option maxHeartbeats 40000000 in
theorem own_f67 {tA : Int32} (hb_tA : tA = 0 ∨ tA = 1 ∨ tA = 2 ∨ tA = 3 ∨ tA = 4) : (own_sn (own_S tA (0 : Int32)) (4 : Int32) (3 : Int32)).length = 6 := by
  rcases hb_tA with rfl | rfl | rfl | rfl | rfl <;> decide
set_option maxRecDepth 65536 in
set_option maxHeartbeats 40000000 in
theorem own_f68 {tA : Int32} {r258 : Int32} (hb_tA : tA = 0 ∨ tA = 1 ∨ tA = 2 ∨ tA = 3 ∨ tA = 4) (hr258 : r258 = (own_ro (own_sn (own_S tA (0 : Int32)) (4 : Int32) (3 : Int32)) (5 : Int32) (4 : Int32))) : r258 = (4 : Int32) := by
  rcases hb_tA with rfl | rfl | rfl | rfl | rfl <;> subst hr258 <;> decide
set_option maxRecDepth 65536 in
set_option maxHeartbeats 40000000 in
theorem own_f69 {tA : Int32} (hb_tA : tA = 0 ∨ tA = 1 ∨ tA = 2 ∨ tA = 3 ∨ tA = 4) : own_P tA (4 : Int32) = (own_pn (own_pn (own_P tA (0 : Int32)) (own_S tA (0 : Int32)) (4 : Int32) (3 : Int32)) (own_sn (own_S tA (0 : Int32)) (4 : Int32) (3 : Int32)) (5 : Int32) (4 : Int32)) := by
  rcases hb_tA with rfl | rfl | rfl | rfl | rfl <;> decide
set_option maxRecDepth 65536 in
set_option maxHeartbeats 40000000 in
theorem own_f70 {tA : Int32} (hb_tA : tA = 0 ∨ tA = 1 ∨ tA = 2 ∨ tA = 3 ∨ tA = 4) : own_S tA (4 : Int32) = (own_sn (own_sn (own_S tA (0 : Int32)) (4 : Int32) (3 : Int32)) (5 : Int32) (4 : Int32)) := by
  rcases hb_tA with rfl | rfl | rfl | rfl | rfl <;> decide
set_option maxRecDepth 65536 in
set_option maxHeartbeats 40000000 in
theorem own_f71 {tA : Int32} {tB : Int32} {aF : Int32} {rA : Int32} {rB : Int32} {v321 : Int32} (hb_tA : tA = 0 ∨ tA = 1 ∨ tA = 2 ∨ tA = 3 ∨ tA = 4) (hb_tB : tB = 0 ∨ tB = 1 ∨ tB = 2 ∨ tB = 3 ∨ tB = 4) (hb_aF : aF = 0 ∨ aF = 1) (erA : rA = (own_ra tA)) (erB : rB = (own_rb tB)) (hv321 : v321 = (if aF = (0 : Int32) then rB else rA)) : ¬ v321 < 0 := by
  rcases hb_tA with rfl | rfl | rfl | rfl | rfl <;> rcases hb_tB with rfl | rfl | rfl | rfl | rfl <;> rcases hb_aF with rfl | rfl <;> subst erA erB hv321 <;> decide
set_option maxRecDepth 65536 in
set_option maxHeartbeats 40000000 in
theorem own_f72 {tA : Int32} {tB : Int32} {aF : Int32} {rA : Int32} {rB : Int32} {v321 : Int32} (hb_tA : tA = 0 ∨ tA = 1 ∨ tA = 2 ∨ tA = 3 ∨ tA = 4) (hb_tB : tB = 0 ∨ tB = 1 ∨ tB = 2 ∨ tB = 3 ∨ tB = 4) (hb_aF : aF = 0 ∨ aF = 1) (erA : rA = (own_ra tA)) (erB : rB = (own_rb tB)) (hv321 : v321 = (if aF = (0 : Int32) then rB else rA)) : v321.toNatClampNeg < 6 := by
  rcases hb_tA with rfl | rfl | rfl | rfl | rfl <;> rcases hb_tB with rfl | rfl | rfl | rfl | rfl <;> rcases hb_aF with rfl | rfl <;> subst erA erB hv321 <;> decide
set_option maxRecDepth 65536 in
set_option maxHeartbeats 40000000 in
theorem own_f73 {tA : Int32} {tB : Int32} {aF : Int32} {rA : Int32} {rB : Int32} {v335 : Int32} (hb_tA : tA = 0 ∨ tA = 1 ∨ tA = 2 ∨ tA = 3 ∨ tA = 4) (hb_tB : tB = 0 ∨ tB = 1 ∨ tB = 2 ∨ tB = 3 ∨ tB = 4) (hb_aF : aF = 0 ∨ aF = 1) (erA : rA = (own_ra tA)) (erB : rB = (own_rb tB)) (hv335 : v335 = (if aF = (0 : Int32) then rA else rB)) : ¬ v335 < 0 := by
  rcases hb_tA with rfl | rfl | rfl | rfl | rfl <;> rcases hb_tB with rfl | rfl | rfl | rfl | rfl <;> rcases hb_aF with rfl | rfl <;> subst erA erB hv335 <;> decide
set_option maxRecDepth 65536 in
set_option maxHeartbeats 40000000 in
theorem own_f74 {tA : Int32} {tB : Int32} {aF : Int32} {rA : Int32} {rB : Int32} {v335 : Int32} (hb_tA : tA = 0 ∨ tA = 1 ∨ tA = 2 ∨ tA = 3 ∨ tA = 4) (hb_tB : tB = 0 ∨ tB = 1 ∨ tB = 2 ∨ tB = 3 ∨ tB = 4) (hb_aF : aF = 0 ∨ aF = 1) (erA : rA = (own_ra tA)) (erB : rB = (own_rb tB)) (hv335 : v335 = (if aF = (0 : Int32) then rA else rB)) : v335.toNatClampNeg < 6 := by
  rcases hb_tA with rfl | rfl | rfl | rfl | rfl <;> rcases hb_tB with rfl | rfl | rfl | rfl | rfl <;> rcases hb_aF with rfl | rfl <;> subst erA erB hv335 <;> decide
set_option maxRecDepth 65536 in
set_option maxHeartbeats 40000000 in
theorem own_f75 {tA : Int32} {tB : Int32} (hb_tA : tA = 0 ∨ tA = 1 ∨ tA = 2 ∨ tA = 3 ∨ tA = 4) (hb_tB : tB = 0 ∨ tB = 1 ∨ tB = 2 ∨ tB = 3 ∨ tB = 4) : (own_P tA tB).length = 6 := by
  rcases hb_tA with rfl | rfl | rfl | rfl | rfl <;> rcases hb_tB with rfl | rfl | rfl | rfl | rfl <;> decide
set_option maxRecDepth 65536 in
set_option maxHeartbeats 40000000 in
theorem own_f76 {tA : Int32} {tB : Int32} (hb_tA : tA = 0 ∨ tA = 1 ∨ tA = 2 ∨ tA = 3 ∨ tA = 4) (hb_tB : tB = 0 ∨ tB = 1 ∨ tB = 2 ∨ tB = 3 ∨ tB = 4) : (own_S tA tB).length = 6 := by
  rcases hb_tA with rfl | rfl | rfl | rfl | rfl <;> rcases hb_tB with rfl | rfl | rfl | rfl | rfl <;> decide
set_option maxRecDepth 65536 in
set_option maxHeartbeats 40000000 in
theorem own_f77 {tA : Int32} {tB : Int32} {aF : Int32} {dA : Int32} {rA : Int32} {dB : Int32} {rB : Int32} {v321 : Int32} {v335 : Int32} {v348 : Int32} {v361 : Int32} {v377 : Int32} {r385 : Int32} (hb_tA : tA = 0 ∨ tA = 1 ∨ tA = 2 ∨ tA = 3 ∨ tA = 4) (hb_tB : tB = 0 ∨ tB = 1 ∨ tB = 2 ∨ tB = 3 ∨ tB = 4) (hb_aF : aF = 0 ∨ aF = 1) (eda : dA = (own_da tA)) (erA : rA = (own_ra tA)) (edb : dB = (own_da tB)) (erB : rB = (own_rb tB)) (hv321 : v321 = (if aF = (0 : Int32) then rB else rA)) (hv335 : v335 = (if aF = (0 : Int32) then rA else rB)) (hv348 : v348 = (if aF = (0 : Int32) then (dB + (1 : Int32)) else (dA + (1 : Int32)))) (hv361 : v361 = (if aF = (0 : Int32) then (dA + (1 : Int32)) else (dB + (1 : Int32)))) (hv377 : v377 = (if v348 < v361 then v335 else v321)) (hr385 : r385 = (own_ro (own_S tA tB) v321 v335)) : r385 = v377 := by
  rcases hb_tA with rfl | rfl | rfl | rfl | rfl <;> rcases hb_tB with rfl | rfl | rfl | rfl | rfl <;> rcases hb_aF with rfl | rfl <;> subst eda erA edb erB hv321 hv335 hv348 hv361 hv377 hr385 <;> decide
set_option maxRecDepth 65536 in
set_option maxHeartbeats 40000000 in
theorem own_f78 {tA : Int32} {tB : Int32} {aF : Int32} {rA : Int32} {rB : Int32} {v321 : Int32} {v335 : Int32} {q100 : List Int32} (hb_tA : tA = 0 ∨ tA = 1 ∨ tA = 2 ∨ tA = 3 ∨ tA = 4) (hb_tB : tB = 0 ∨ tB = 1 ∨ tB = 2 ∨ tB = 3 ∨ tB = 4) (hb_aF : aF = 0 ∨ aF = 1) (erA : rA = (own_ra tA)) (erB : rB = (own_rb tB)) (hv321 : v321 = (if aF = (0 : Int32) then rB else rA)) (hv335 : v335 = (if aF = (0 : Int32) then rA else rB)) (hq100 : q100 = (own_pn (own_P tA tB) (own_S tA tB) v321 v335)) : own_find 8 q100 (0 : Int32) = some (own_fr q100 (0 : Int32), own_fp q100 (0 : Int32)) := by
  rcases hb_tA with rfl | rfl | rfl | rfl | rfl <;> rcases hb_tB with rfl | rfl | rfl | rfl | rfl <;> rcases hb_aF with rfl | rfl <;> subst erA erB hv321 hv335 hq100 <;> decide
set_option maxRecDepth 65536 in
set_option maxHeartbeats 40000000 in
theorem own_f79 {tA : Int32} {tB : Int32} {aF : Int32} {dA : Int32} {rA : Int32} {dB : Int32} {rB : Int32} {v321 : Int32} {v335 : Int32} {v348 : Int32} {v361 : Int32} {v377 : Int32} {q100 : List Int32} {r417 : Int32} {r426 : Int32} (hb_tA : tA = 0 ∨ tA = 1 ∨ tA = 2 ∨ tA = 3 ∨ tA = 4) (hb_tB : tB = 0 ∨ tB = 1 ∨ tB = 2 ∨ tB = 3 ∨ tB = 4) (hb_aF : aF = 0 ∨ aF = 1) (eda : dA = (own_da tA)) (erA : rA = (own_ra tA)) (edb : dB = (own_da tB)) (erB : rB = (own_rb tB)) (hv321 : v321 = (if aF = (0 : Int32) then rB else rA)) (hv335 : v335 = (if aF = (0 : Int32) then rA else rB)) (hv348 : v348 = (if aF = (0 : Int32) then (dB + (1 : Int32)) else (dA + (1 : Int32)))) (hv361 : v361 = (if aF = (0 : Int32) then (dA + (1 : Int32)) else (dB + (1 : Int32)))) (hv377 : v377 = (if v348 < v361 then v335 else v321)) (hq100 : q100 = (own_pn (own_P tA tB) (own_S tA tB) v321 v335)) (hr417 : r417 = (own_fr q100 (0 : Int32))) (hr426 : r426 = (own_ef (0 : Int32) (dA + (1 : Int32)) (dB + (1 : Int32)) v377)) : r417 = r426 := by
  rcases hb_tA with rfl | rfl | rfl | rfl | rfl <;> rcases hb_tB with rfl | rfl | rfl | rfl | rfl <;> rcases hb_aF with rfl | rfl <;> subst eda erA edb erB hv321 hv335 hv348 hv361 hv377 hq100 hr417 hr426 <;> decide
set_option maxRecDepth 65536 in
set_option maxHeartbeats 40000000 in
theorem own_f80 {tA : Int32} {tB : Int32} {aF : Int32} {rA : Int32} {rB : Int32} {v321 : Int32} {v335 : Int32} {q100 : List Int32} {q107 : List Int32} (hb_tA : tA = 0 ∨ tA = 1 ∨ tA = 2 ∨ tA = 3 ∨ tA = 4) (hb_tB : tB = 0 ∨ tB = 1 ∨ tB = 2 ∨ tB = 3 ∨ tB = 4) (hb_aF : aF = 0 ∨ aF = 1) (erA : rA = (own_ra tA)) (erB : rB = (own_rb tB)) (hv321 : v321 = (if aF = (0 : Int32) then rB else rA)) (hv335 : v335 = (if aF = (0 : Int32) then rA else rB)) (hq100 : q100 = (own_pn (own_P tA tB) (own_S tA tB) v321 v335)) (hq107 : q107 = (own_fp q100 (0 : Int32))) : own_find 8 q107 (1 : Int32) = some (own_fr q107 (1 : Int32), own_fp q107 (1 : Int32)) := by
  rcases hb_tA with rfl | rfl | rfl | rfl | rfl <;> rcases hb_tB with rfl | rfl | rfl | rfl | rfl <;> rcases hb_aF with rfl | rfl <;> subst erA erB hv321 hv335 hq100 hq107 <;> decide
set_option maxRecDepth 65536 in
set_option maxHeartbeats 40000000 in
theorem own_f81 {tA : Int32} {tB : Int32} {aF : Int32} {dA : Int32} {rA : Int32} {dB : Int32} {rB : Int32} {v321 : Int32} {v335 : Int32} {v348 : Int32} {v361 : Int32} {v377 : Int32} {q100 : List Int32} {q107 : List Int32} {r447 : Int32} {r456 : Int32} (hb_tA : tA = 0 ∨ tA = 1 ∨ tA = 2 ∨ tA = 3 ∨ tA = 4) (hb_tB : tB = 0 ∨ tB = 1 ∨ tB = 2 ∨ tB = 3 ∨ tB = 4) (hb_aF : aF = 0 ∨ aF = 1) (eda : dA = (own_da tA)) (erA : rA = (own_ra tA)) (edb : dB = (own_da tB)) (erB : rB = (own_rb tB)) (hv321 : v321 = (if aF = (0 : Int32) then rB else rA)) (hv335 : v335 = (if aF = (0 : Int32) then rA else rB)) (hv348 : v348 = (if aF = (0 : Int32) then (dB + (1 : Int32)) else (dA + (1 : Int32)))) (hv361 : v361 = (if aF = (0 : Int32) then (dA + (1 : Int32)) else (dB + (1 : Int32)))) (hv377 : v377 = (if v348 < v361 then v335 else v321)) (hq100 : q100 = (own_pn (own_P tA tB) (own_S tA tB) v321 v335)) (hq107 : q107 = (own_fp q100 (0 : Int32))) (hr447 : r447 = (own_fr q107 (1 : Int32))) (hr456 : r456 = (own_ef (1 : Int32) (dA + (1 : Int32)) (dB + (1 : Int32)) v377)) : r447 = r456 := by
  rcases hb_tA with rfl | rfl | rfl | rfl | rfl <;> rcases hb_tB with rfl | rfl | rfl | rfl | rfl <;> rcases hb_aF with rfl | rfl <;> subst eda erA edb erB hv321 hv335 hv348 hv361 hv377 hq100 hq107 hr447 hr456 <;> decide
set_option maxRecDepth 65536 in
set_option maxHeartbeats 40000000 in
theorem own_f82 {tA : Int32} {tB : Int32} {aF : Int32} {rA : Int32} {rB : Int32} {v321 : Int32} {v335 : Int32} {q100 : List Int32} {q107 : List Int32} {q118 : List Int32} (hb_tA : tA = 0 ∨ tA = 1 ∨ tA = 2 ∨ tA = 3 ∨ tA = 4) (hb_tB : tB = 0 ∨ tB = 1 ∨ tB = 2 ∨ tB = 3 ∨ tB = 4) (hb_aF : aF = 0 ∨ aF = 1) (erA : rA = (own_ra tA)) (erB : rB = (own_rb tB)) (hv321 : v321 = (if aF = (0 : Int32) then rB else rA)) (hv335 : v335 = (if aF = (0 : Int32) then rA else rB)) (hq100 : q100 = (own_pn (own_P tA tB) (own_S tA tB) v321 v335)) (hq107 : q107 = (own_fp q100 (0 : Int32))) (hq118 : q118 = (own_fp q107 (1 : Int32))) : own_find 8 q118 (2 : Int32) = some (own_fr q118 (2 : Int32), own_fp q118 (2 : Int32)) := by
  rcases hb_tA with rfl | rfl | rfl | rfl | rfl <;> rcases hb_tB with rfl | rfl | rfl | rfl | rfl <;> rcases hb_aF with rfl | rfl <;> subst erA erB hv321 hv335 hq100 hq107 hq118 <;> decide
set_option maxRecDepth 65536 in
set_option maxHeartbeats 40000000 in
theorem own_f83 {tA : Int32} {tB : Int32} {aF : Int32} {dA : Int32} {rA : Int32} {dB : Int32} {rB : Int32} {v321 : Int32} {v335 : Int32} {v348 : Int32} {v361 : Int32} {v377 : Int32} {q100 : List Int32} {q107 : List Int32} {q118 : List Int32} {r477 : Int32} {r486 : Int32} (hb_tA : tA = 0 ∨ tA = 1 ∨ tA = 2 ∨ tA = 3 ∨ tA = 4) (hb_tB : tB = 0 ∨ tB = 1 ∨ tB = 2 ∨ tB = 3 ∨ tB = 4) (hb_aF : aF = 0 ∨ aF = 1) (eda : dA = (own_da tA)) (erA : rA = (own_ra tA)) (edb : dB = (own_da tB)) (erB : rB = (own_rb tB)) (hv321 : v321 = (if aF = (0 : Int32) then rB else rA)) (hv335 : v335 = (if aF = (0 : Int32) then rA else rB)) (hv348 : v348 = (if aF = (0 : Int32) then (dB + (1 : Int32)) else (dA + (1 : Int32)))) (hv361 : v361 = (if aF = (0 : Int32) then (dA + (1 : Int32)) else (dB + (1 : Int32)))) (hv377 : v377 = (if v348 < v361 then v335 else v321)) (hq100 : q100 = (own_pn (own_P tA tB) (own_S tA tB) v321 v335)) (hq107 : q107 = (own_fp q100 (0 : Int32))) (hq118 : q118 = (own_fp q107 (1 : Int32))) (hr477 : r477 = (own_fr q118 (2 : Int32))) (hr486 : r486 = (own_ef (2 : Int32) (dA + (1 : Int32)) (dB + (1 : Int32)) v377)) : r477 = r486 := by
  rcases hb_tA with rfl | rfl | rfl | rfl | rfl <;> rcases hb_tB with rfl | rfl | rfl | rfl | rfl <;> rcases hb_aF with rfl | rfl <;> subst eda erA edb erB hv321 hv335 hv348 hv361 hv377 hq100 hq107 hq118 hr477 hr486 <;> decide
set_option maxRecDepth 65536 in
set_option maxHeartbeats 40000000 in
theorem own_f84 {tA : Int32} {tB : Int32} {aF : Int32} {rA : Int32} {rB : Int32} {v321 : Int32} {v335 : Int32} {q100 : List Int32} {q107 : List Int32} {q118 : List Int32} {q129 : List Int32} (hb_tA : tA = 0 ∨ tA = 1 ∨ tA = 2 ∨ tA = 3 ∨ tA = 4) (hb_tB : tB = 0 ∨ tB = 1 ∨ tB = 2 ∨ tB = 3 ∨ tB = 4) (hb_aF : aF = 0 ∨ aF = 1) (erA : rA = (own_ra tA)) (erB : rB = (own_rb tB)) (hv321 : v321 = (if aF = (0 : Int32) then rB else rA)) (hv335 : v335 = (if aF = (0 : Int32) then rA else rB)) (hq100 : q100 = (own_pn (own_P tA tB) (own_S tA tB) v321 v335)) (hq107 : q107 = (own_fp q100 (0 : Int32))) (hq118 : q118 = (own_fp q107 (1 : Int32))) (hq129 : q129 = (own_fp q118 (2 : Int32))) : own_find 8 q129 (3 : Int32) = some (own_fr q129 (3 : Int32), own_fp q129 (3 : Int32)) := by
  rcases hb_tA with rfl | rfl | rfl | rfl | rfl <;> rcases hb_tB with rfl | rfl | rfl | rfl | rfl <;> rcases hb_aF with rfl | rfl <;> subst erA erB hv321 hv335 hq100 hq107 hq118 hq129 <;> decide
set_option maxRecDepth 65536 in
set_option maxHeartbeats 40000000 in
theorem own_f85 {tA : Int32} {tB : Int32} {aF : Int32} {dA : Int32} {rA : Int32} {dB : Int32} {rB : Int32} {v321 : Int32} {v335 : Int32} {v348 : Int32} {v361 : Int32} {v377 : Int32} {q100 : List Int32} {q107 : List Int32} {q118 : List Int32} {q129 : List Int32} {r507 : Int32} {r516 : Int32} (hb_tA : tA = 0 ∨ tA = 1 ∨ tA = 2 ∨ tA = 3 ∨ tA = 4) (hb_tB : tB = 0 ∨ tB = 1 ∨ tB = 2 ∨ tB = 3 ∨ tB = 4) (hb_aF : aF = 0 ∨ aF = 1) (eda : dA = (own_da tA)) (erA : rA = (own_ra tA)) (edb : dB = (own_da tB)) (erB : rB = (own_rb tB)) (hv321 : v321 = (if aF = (0 : Int32) then rB else rA)) (hv335 : v335 = (if aF = (0 : Int32) then rA else rB)) (hv348 : v348 = (if aF = (0 : Int32) then (dB + (1 : Int32)) else (dA + (1 : Int32)))) (hv361 : v361 = (if aF = (0 : Int32) then (dA + (1 : Int32)) else (dB + (1 : Int32)))) (hv377 : v377 = (if v348 < v361 then v335 else v321)) (hq100 : q100 = (own_pn (own_P tA tB) (own_S tA tB) v321 v335)) (hq107 : q107 = (own_fp q100 (0 : Int32))) (hq118 : q118 = (own_fp q107 (1 : Int32))) (hq129 : q129 = (own_fp q118 (2 : Int32))) (hr507 : r507 = (own_fr q129 (3 : Int32))) (hr516 : r516 = (own_ef (3 : Int32) (dA + (1 : Int32)) (dB + (1 : Int32)) v377)) : r507 = r516 := by
  rcases hb_tA with rfl | rfl | rfl | rfl | rfl <;> rcases hb_tB with rfl | rfl | rfl | rfl | rfl <;> rcases hb_aF with rfl | rfl <;> subst eda erA edb erB hv321 hv335 hv348 hv361 hv377 hq100 hq107 hq118 hq129 hr507 hr516 <;> decide
set_option maxRecDepth 65536 in
set_option maxHeartbeats 40000000 in
theorem own_f86 {tA : Int32} {tB : Int32} {aF : Int32} {rA : Int32} {rB : Int32} {v321 : Int32} {v335 : Int32} {q100 : List Int32} {q107 : List Int32} {q118 : List Int32} {q129 : List Int32} {q140 : List Int32} (hb_tA : tA = 0 ∨ tA = 1 ∨ tA = 2 ∨ tA = 3 ∨ tA = 4) (hb_tB : tB = 0 ∨ tB = 1 ∨ tB = 2 ∨ tB = 3 ∨ tB = 4) (hb_aF : aF = 0 ∨ aF = 1) (erA : rA = (own_ra tA)) (erB : rB = (own_rb tB)) (hv321 : v321 = (if aF = (0 : Int32) then rB else rA)) (hv335 : v335 = (if aF = (0 : Int32) then rA else rB)) (hq100 : q100 = (own_pn (own_P tA tB) (own_S tA tB) v321 v335)) (hq107 : q107 = (own_fp q100 (0 : Int32))) (hq118 : q118 = (own_fp q107 (1 : Int32))) (hq129 : q129 = (own_fp q118 (2 : Int32))) (hq140 : q140 = (own_fp q129 (3 : Int32))) : own_find 8 q140 (4 : Int32) = some (own_fr q140 (4 : Int32), own_fp q140 (4 : Int32)) := by
  rcases hb_tA with rfl | rfl | rfl | rfl | rfl <;> rcases hb_tB with rfl | rfl | rfl | rfl | rfl <;> rcases hb_aF with rfl | rfl <;> subst erA erB hv321 hv335 hq100 hq107 hq118 hq129 hq140 <;> decide
set_option maxRecDepth 65536 in
set_option maxHeartbeats 40000000 in
theorem own_f87 {tA : Int32} {tB : Int32} {aF : Int32} {dA : Int32} {rA : Int32} {dB : Int32} {rB : Int32} {v321 : Int32} {v335 : Int32} {v348 : Int32} {v361 : Int32} {v377 : Int32} {q100 : List Int32} {q107 : List Int32} {q118 : List Int32} {q129 : List Int32} {q140 : List Int32} {r537 : Int32} {r546 : Int32} (hb_tA : tA = 0 ∨ tA = 1 ∨ tA = 2 ∨ tA = 3 ∨ tA = 4) (hb_tB : tB = 0 ∨ tB = 1 ∨ tB = 2 ∨ tB = 3 ∨ tB = 4) (hb_aF : aF = 0 ∨ aF = 1) (eda : dA = (own_da tA)) (erA : rA = (own_ra tA)) (edb : dB = (own_da tB)) (erB : rB = (own_rb tB)) (hv321 : v321 = (if aF = (0 : Int32) then rB else rA)) (hv335 : v335 = (if aF = (0 : Int32) then rA else rB)) (hv348 : v348 = (if aF = (0 : Int32) then (dB + (1 : Int32)) else (dA + (1 : Int32)))) (hv361 : v361 = (if aF = (0 : Int32) then (dA + (1 : Int32)) else (dB + (1 : Int32)))) (hv377 : v377 = (if v348 < v361 then v335 else v321)) (hq100 : q100 = (own_pn (own_P tA tB) (own_S tA tB) v321 v335)) (hq107 : q107 = (own_fp q100 (0 : Int32))) (hq118 : q118 = (own_fp q107 (1 : Int32))) (hq129 : q129 = (own_fp q118 (2 : Int32))) (hq140 : q140 = (own_fp q129 (3 : Int32))) (hr537 : r537 = (own_fr q140 (4 : Int32))) (hr546 : r546 = (own_ef (4 : Int32) (dA + (1 : Int32)) (dB + (1 : Int32)) v377)) : r537 = r546 := by
  rcases hb_tA with rfl | rfl | rfl | rfl | rfl <;> rcases hb_tB with rfl | rfl | rfl | rfl | rfl <;> rcases hb_aF with rfl | rfl <;> subst eda erA edb erB hv321 hv335 hv348 hv361 hv377 hq100 hq107 hq118 hq129 hq140 hr537 hr546 <;> decide
set_option maxRecDepth 65536 in
set_option maxHeartbeats 40000000 in
theorem own_f88 {tA : Int32} {tB : Int32} {aF : Int32} {rA : Int32} {rB : Int32} {v321 : Int32} {v335 : Int32} {q100 : List Int32} {q107 : List Int32} {q118 : List Int32} {q129 : List Int32} {q140 : List Int32} {q151 : List Int32} (hb_tA : tA = 0 ∨ tA = 1 ∨ tA = 2 ∨ tA = 3 ∨ tA = 4) (hb_tB : tB = 0 ∨ tB = 1 ∨ tB = 2 ∨ tB = 3 ∨ tB = 4) (hb_aF : aF = 0 ∨ aF = 1) (erA : rA = (own_ra tA)) (erB : rB = (own_rb tB)) (hv321 : v321 = (if aF = (0 : Int32) then rB else rA)) (hv335 : v335 = (if aF = (0 : Int32) then rA else rB)) (hq100 : q100 = (own_pn (own_P tA tB) (own_S tA tB) v321 v335)) (hq107 : q107 = (own_fp q100 (0 : Int32))) (hq118 : q118 = (own_fp q107 (1 : Int32))) (hq129 : q129 = (own_fp q118 (2 : Int32))) (hq140 : q140 = (own_fp q129 (3 : Int32))) (hq151 : q151 = (own_fp q140 (4 : Int32))) : own_find 8 q151 (5 : Int32) = some (own_fr q151 (5 : Int32), own_fp q151 (5 : Int32)) := by
  rcases hb_tA with rfl | rfl | rfl | rfl | rfl <;> rcases hb_tB with rfl | rfl | rfl | rfl | rfl <;> rcases hb_aF with rfl | rfl <;> subst erA erB hv321 hv335 hq100 hq107 hq118 hq129 hq140 hq151 <;> decide
set_option maxRecDepth 65536 in
set_option maxHeartbeats 40000000 in
theorem own_f89 {tA : Int32} {tB : Int32} {aF : Int32} {dA : Int32} {rA : Int32} {dB : Int32} {rB : Int32} {v321 : Int32} {v335 : Int32} {v348 : Int32} {v361 : Int32} {v377 : Int32} {q100 : List Int32} {q107 : List Int32} {q118 : List Int32} {q129 : List Int32} {q140 : List Int32} {q151 : List Int32} {r567 : Int32} {r576 : Int32} (hb_tA : tA = 0 ∨ tA = 1 ∨ tA = 2 ∨ tA = 3 ∨ tA = 4) (hb_tB : tB = 0 ∨ tB = 1 ∨ tB = 2 ∨ tB = 3 ∨ tB = 4) (hb_aF : aF = 0 ∨ aF = 1) (eda : dA = (own_da tA)) (erA : rA = (own_ra tA)) (edb : dB = (own_da tB)) (erB : rB = (own_rb tB)) (hv321 : v321 = (if aF = (0 : Int32) then rB else rA)) (hv335 : v335 = (if aF = (0 : Int32) then rA else rB)) (hv348 : v348 = (if aF = (0 : Int32) then (dB + (1 : Int32)) else (dA + (1 : Int32)))) (hv361 : v361 = (if aF = (0 : Int32) then (dA + (1 : Int32)) else (dB + (1 : Int32)))) (hv377 : v377 = (if v348 < v361 then v335 else v321)) (hq100 : q100 = (own_pn (own_P tA tB) (own_S tA tB) v321 v335)) (hq107 : q107 = (own_fp q100 (0 : Int32))) (hq118 : q118 = (own_fp q107 (1 : Int32))) (hq129 : q129 = (own_fp q118 (2 : Int32))) (hq140 : q140 = (own_fp q129 (3 : Int32))) (hq151 : q151 = (own_fp q140 (4 : Int32))) (hr567 : r567 = (own_fr q151 (5 : Int32))) (hr576 : r576 = (own_ef (5 : Int32) (dA + (1 : Int32)) (dB + (1 : Int32)) v377)) : r567 = r576 := by
  rcases hb_tA with rfl | rfl | rfl | rfl | rfl <;> rcases hb_tB with rfl | rfl | rfl | rfl | rfl <;> rcases hb_aF with rfl | rfl <;> subst eda erA edb erB hv321 hv335 hv348 hv361 hv377 hq100 hq107 hq118 hq129 hq140 hq151 hr567 hr576 <;> decide
theorem ef_rm0 (m : MethodId) (p0 : Int32) (p1 : Int32) (p2 : Int32) : entryFrame m #[(.int p0), (.int p1), (.int p2)] maxLocals = (mkF m 0 #[.val (.int p0), .val (.int p1), .val (.int p2), .unset, .unset, .unset, .unset, .unset, .unset, .unset, .unset, .unset, .unset, .unset, .unset, .unset] []) := by first | (simp [entryFrame, mkF, argsToLocals, Value.category, maxLocals]; done) | rfl
set_option maxRecDepth 65536 in
set_option maxHeartbeats 40000000 in
theorem rm0 (l : Launch) (Z : State) (a0 : Array Value) (hw : ∀ d ∈ tables_1, d.before a0 Z = true) (n0 : Nat) (p0 : Int32) (p1 : Int32) (p2 : Int32) :
    Con l Z n0 x code maxLocals ret room_1 #[(.int p0), (.int p1), (.int p2)] [] (fun v _ => v = some (.int 1)) := by
  refine Con.of (plainFor_of_name pn1) ?_
  intro p e s m below meth c T cx Y
  obtain ⟨hx, hby, hml, hown, hnm, hret, hlk, hZ⟩ := cx
  rw [ef_rm0]
  generalize hF : Fi Z n0 below s _ _ _ = F
  refine Rn.go (T' := T) (g' := (mkF m 6 #[.val (.int p0), .val (.int p1), .val (.int p2), .unset, .unset, .unset, .unset, .unset, .unset, .unset, .unset, .unset, .unset, .unset, .unset, .unset] [(.int ((p0 &&& (2147483647 : Int32)) % (3 : Int32)))])) (fun t k => ?_) ?_
  · show Steps p.tables e below (T.setTop (mkF m 0 #[.val (.int p0), .val (.int p1), .val (.int p2), .unset, .unset, .unset, .unset, .unset, .unset, .unset, .unset, .unset, .unset, .unset, .unset, .unset] [])) t
    refine XS.iloadN Y.here hx rfl (hb hby at_0) rfl ?_
    show Steps p.tables e below (T.setTop (mkF m 1 #[.val (.int p0), .val (.int p1), .val (.int p2), .unset, .unset, .unset, .unset, .unset, .unset, .unset, .unset, .unset, .unset, .unset, .unset, .unset] [(.int p0)])) t
    refine On.sldcI Y hx hZ hown (w0 hw) (g := (mkF m 1 #[.val (.int p0), .val (.int p1), .val (.int p2), .unset, .unset, .unset, .unset, .unset, .unset, .unset, .unset, .unset, .unset, .unset, .unset, .unset] [(.int p0)])) rfl (hb hby at_1) _ ?_
    show Steps p.tables e below (T.setTop (mkF m 3 #[.val (.int p0), .val (.int p1), .val (.int p2), .unset, .unset, .unset, .unset, .unset, .unset, .unset, .unset, .unset, .unset, .unset, .unset, .unset] [(.int (2147483647 : Int32)), (.int p0)])) t
    refine XS.iand Y.here hx rfl (hb hby at_3) rfl ?_
    show Steps p.tables e below (T.setTop (mkF m 4 #[.val (.int p0), .val (.int p1), .val (.int p2), .unset, .unset, .unset, .unset, .unset, .unset, .unset, .unset, .unset, .unset, .unset, .unset, .unset] [(.int (p0 &&& (2147483647 : Int32)))])) t
    refine XS.iconst Y.here hx rfl (hb hby at_4) ?_
    show Steps p.tables e below (T.setTop (mkF m 5 #[.val (.int p0), .val (.int p1), .val (.int p2), .unset, .unset, .unset, .unset, .unset, .unset, .unset, .unset, .unset, .unset, .unset, .unset, .unset] [(.int (3 : Int32)), (.int (p0 &&& (2147483647 : Int32)))])) t
    refine own_irem Y.here hx rfl (hb hby at_5) rfl (by decide) ?_
    show Steps p.tables e below (T.setTop (mkF m 6 #[.val (.int p0), .val (.int p1), .val (.int p2), .unset, .unset, .unset, .unset, .unset, .unset, .unset, .unset, .unset, .unset, .unset, .unset, .unset] [(.int ((p0 &&& (2147483647 : Int32)) % (3 : Int32)))])) t
    exact k
  obtain ⟨dA, hdA⟩ : ∃ z : Int32, z = ((p0 &&& (2147483647 : Int32)) % (3 : Int32)) := ⟨_, rfl⟩
  rw [← hdA]
  have hbdA : 0 ≤ dA.toInt ∧ dA.toInt ≤ 2 := by rw [hdA]; exact own_d _
  refine Rn.go (T' := T) (g' := (mkF m 15 #[.val (.int p0), .val (.int p1), .val (.int p2), .val (.int (dA + (1 : Int32))), .unset, .unset, .unset, .unset, .unset, .unset, .unset, .unset, .unset, .unset, .unset, .unset] [(.int ((p1 &&& (2147483647 : Int32)) % (3 : Int32)))])) (fun t k => ?_) ?_
  · show Steps p.tables e below (T.setTop (mkF m 6 #[.val (.int p0), .val (.int p1), .val (.int p2), .unset, .unset, .unset, .unset, .unset, .unset, .unset, .unset, .unset, .unset, .unset, .unset, .unset] [(.int dA)])) t
    refine XS.iconst Y.here hx rfl (hb hby at_6) ?_
    show Steps p.tables e below (T.setTop (mkF m 7 #[.val (.int p0), .val (.int p1), .val (.int p2), .unset, .unset, .unset, .unset, .unset, .unset, .unset, .unset, .unset, .unset, .unset, .unset, .unset] [(.int (1 : Int32)), (.int dA)])) t
    refine XS.iadd Y.here hx rfl (hb hby at_7) rfl ?_
    show Steps p.tables e below (T.setTop (mkF m 8 #[.val (.int p0), .val (.int p1), .val (.int p2), .unset, .unset, .unset, .unset, .unset, .unset, .unset, .unset, .unset, .unset, .unset, .unset, .unset] [(.int (dA + (1 : Int32)))])) t
    refine XS.istoreN Y.here hx rfl (hb hby at_8) rfl (l' := #[.val (.int p0), .val (.int p1), .val (.int p2), .val (.int (dA + (1 : Int32))), .unset, .unset, .unset, .unset, .unset, .unset, .unset, .unset, .unset, .unset, .unset, .unset]) rfl ?_
    show Steps p.tables e below (T.setTop (mkF m 9 #[.val (.int p0), .val (.int p1), .val (.int p2), .val (.int (dA + (1 : Int32))), .unset, .unset, .unset, .unset, .unset, .unset, .unset, .unset, .unset, .unset, .unset, .unset] [])) t
    refine XS.iloadN Y.here hx rfl (hb hby at_9) rfl ?_
    show Steps p.tables e below (T.setTop (mkF m 10 #[.val (.int p0), .val (.int p1), .val (.int p2), .val (.int (dA + (1 : Int32))), .unset, .unset, .unset, .unset, .unset, .unset, .unset, .unset, .unset, .unset, .unset, .unset] [(.int p1)])) t
    refine On.sldcI Y hx hZ hown (w0 hw) (g := (mkF m 10 #[.val (.int p0), .val (.int p1), .val (.int p2), .val (.int (dA + (1 : Int32))), .unset, .unset, .unset, .unset, .unset, .unset, .unset, .unset, .unset, .unset, .unset, .unset] [(.int p1)])) rfl (hb hby at_10) _ ?_
    show Steps p.tables e below (T.setTop (mkF m 12 #[.val (.int p0), .val (.int p1), .val (.int p2), .val (.int (dA + (1 : Int32))), .unset, .unset, .unset, .unset, .unset, .unset, .unset, .unset, .unset, .unset, .unset, .unset] [(.int (2147483647 : Int32)), (.int p1)])) t
    refine XS.iand Y.here hx rfl (hb hby at_12) rfl ?_
    show Steps p.tables e below (T.setTop (mkF m 13 #[.val (.int p0), .val (.int p1), .val (.int p2), .val (.int (dA + (1 : Int32))), .unset, .unset, .unset, .unset, .unset, .unset, .unset, .unset, .unset, .unset, .unset, .unset] [(.int (p1 &&& (2147483647 : Int32)))])) t
    refine XS.iconst Y.here hx rfl (hb hby at_13) ?_
    show Steps p.tables e below (T.setTop (mkF m 14 #[.val (.int p0), .val (.int p1), .val (.int p2), .val (.int (dA + (1 : Int32))), .unset, .unset, .unset, .unset, .unset, .unset, .unset, .unset, .unset, .unset, .unset, .unset] [(.int (3 : Int32)), (.int (p1 &&& (2147483647 : Int32)))])) t
    refine own_irem Y.here hx rfl (hb hby at_14) rfl (by decide) ?_
    show Steps p.tables e below (T.setTop (mkF m 15 #[.val (.int p0), .val (.int p1), .val (.int p2), .val (.int (dA + (1 : Int32))), .unset, .unset, .unset, .unset, .unset, .unset, .unset, .unset, .unset, .unset, .unset, .unset] [(.int ((p1 &&& (2147483647 : Int32)) % (3 : Int32)))])) t
    exact k
  obtain ⟨dB, hdB⟩ : ∃ z : Int32, z = ((p1 &&& (2147483647 : Int32)) % (3 : Int32)) := ⟨_, rfl⟩
  rw [← hdB]
  have hbdB : 0 ≤ dB.toInt ∧ dB.toInt ≤ 2 := by rw [hdB]; exact own_d _
  refine Rn.go (T' := T) (g' := (mkF m 19 #[.val (.int p0), .val (.int p1), .val (.int p2), .val (.int (dA + (1 : Int32))), .val (.int (dB + (1 : Int32))), .unset, .unset, .unset, .unset, .unset, .unset, .unset, .unset, .unset, .unset, .unset] [])) (fun t k => ?_) ?_
  · show Steps p.tables e below (T.setTop (mkF m 15 #[.val (.int p0), .val (.int p1), .val (.int p2), .val (.int (dA + (1 : Int32))), .unset, .unset, .unset, .unset, .unset, .unset, .unset, .unset, .unset, .unset, .unset, .unset] [(.int dB)])) t
    refine XS.iconst Y.here hx rfl (hb hby at_15) ?_
    show Steps p.tables e below (T.setTop (mkF m 16 #[.val (.int p0), .val (.int p1), .val (.int p2), .val (.int (dA + (1 : Int32))), .unset, .unset, .unset, .unset, .unset, .unset, .unset, .unset, .unset, .unset, .unset, .unset] [(.int (1 : Int32)), (.int dB)])) t
    refine XS.iadd Y.here hx rfl (hb hby at_16) rfl ?_
    show Steps p.tables e below (T.setTop (mkF m 17 #[.val (.int p0), .val (.int p1), .val (.int p2), .val (.int (dA + (1 : Int32))), .unset, .unset, .unset, .unset, .unset, .unset, .unset, .unset, .unset, .unset, .unset, .unset] [(.int (dB + (1 : Int32)))])) t
    refine XS.istore Y.here hx rfl (hb hby at_17) rfl (l' := #[.val (.int p0), .val (.int p1), .val (.int p2), .val (.int (dA + (1 : Int32))), .val (.int (dB + (1 : Int32))), .unset, .unset, .unset, .unset, .unset, .unset, .unset, .unset, .unset, .unset, .unset]) rfl ?_
    show Steps p.tables e below (T.setTop (mkF m 19 #[.val (.int p0), .val (.int p1), .val (.int p2), .val (.int (dA + (1 : Int32))), .val (.int (dB + (1 : Int32))), .unset, .unset, .unset, .unset, .unset, .unset, .unset, .unset, .unset, .unset, .unset] [])) t
    exact k
  refine On.newo Y hx hZ hown (w1 hw) (w2 hw) (w3 hw) _ (own_lay_0 hw) (by decide) (g := (mkF m 19 #[.val (.int p0), .val (.int p1), .val (.int p2), .val (.int (dA + (1 : Int32))), .val (.int (dB + (1 : Int32))), .unset, .unset, .unset, .unset, .unset, .unset, .unset, .unset, .unset, .unset, .unset] [])) rfl (hb hby at_19) (by decide) (by decide) fun T1 a3 Y2 => ?_
  replace Y2 : On p l e _ s m _ below meth c Z n0 T1 1 2 [ob a3 own_C0 (own_F0 .null .null)] := Y2
  show Rn p e below F T1 (mkF m 22 #[.val (.int p0), .val (.int p1), .val (.int p2), .val (.int (dA + (1 : Int32))), .val (.int (dB + (1 : Int32))), .unset, .unset, .unset, .unset, .unset, .unset, .unset, .unset, .unset, .unset, .unset] [(.ref a3)])
  refine Rn.go (T' := T1) (g' := (mkF m 25 #[.val (.int p0), .val (.int p1), .val (.int p2), .val (.int (dA + (1 : Int32))), .val (.int (dB + (1 : Int32))), .unset, .unset, .unset, .unset, .unset, .unset, .unset, .unset, .unset, .unset, .unset] [(.int (6 : Int32)), (.ref a3), (.ref a3)])) (fun t k => ?_) ?_
  · show Steps p.tables e below (T1.setTop (mkF m 22 #[.val (.int p0), .val (.int p1), .val (.int p2), .val (.int (dA + (1 : Int32))), .val (.int (dB + (1 : Int32))), .unset, .unset, .unset, .unset, .unset, .unset, .unset, .unset, .unset, .unset, .unset] [(.ref a3)])) t
    refine XS.dup Y2.here hx rfl (hb hby at_22) rfl rfl ?_
    show Steps p.tables e below (T1.setTop (mkF m 23 #[.val (.int p0), .val (.int p1), .val (.int p2), .val (.int (dA + (1 : Int32))), .val (.int (dB + (1 : Int32))), .unset, .unset, .unset, .unset, .unset, .unset, .unset, .unset, .unset, .unset, .unset] [(.ref a3), (.ref a3)])) t
    refine XS.bipush Y2.here hx rfl (hb hby at_23) ?_
    show Steps p.tables e below (T1.setTop (mkF m 25 #[.val (.int p0), .val (.int p1), .val (.int p2), .val (.int (dA + (1 : Int32))), .val (.int (dB + (1 : Int32))), .unset, .unset, .unset, .unset, .unset, .unset, .unset, .unset, .unset, .unset, .unset] [(.int (6 : Int32)), (.ref a3), (.ref a3)])) t
    exact k
  refine On.special Y2 hx hZ (y := (⟨"com/example/arborplan/arborplan/tree/DisjointSets", "<init>", "(I)V"⟩ : MethodName)) rfl hown (w4 hw) (w5 hw) (w6 hw) (w3 hw) (by decide) (a := a3) (argsL := [(.int (6 : Int32))]) (rest := [(.ref a3)]) (rm1 l Z a0 hw n0 a3) (W := 1) (by decide) (by decide) (by decide) (by decide) (g := (mkF m 25 #[.val (.int p0), .val (.int p1), .val (.int p2), .val (.int (dA + (1 : Int32))), .val (.int (dB + (1 : Int32))), .unset, .unset, .unset, .unset, .unset, .unset, .unset, .unset, .unset, .unset, .unset] [(.int (6 : Int32)), (.ref a3), (.ref a3)])) rfl (by rw [hml]; rfl) (lenOf pd0 rfl) rfl (by show 2 * 0 + _ ≤ _; exact Nat.le_of_eq rfl) (hb hby at_25) ?_
  intro T4 u6 D7 hp8 Y5
  obtain ⟨a9, a10, rfl, rfl⟩ := hp8
  replace Y5 : On p l e _ s m _ below meth c Z n0 T4 3 14 [ob a3 own_C0 (own_F0 (.ref a9) (.ref a10)), ari a9 .int (6 : Int32) [(0 : Int32), (1 : Int32), (2 : Int32), (3 : Int32), (4 : Int32), (5 : Int32)], ari a10 .int (6 : Int32) [(1 : Int32), (1 : Int32), (1 : Int32), (1 : Int32), (1 : Int32), (1 : Int32)]] := Y5
  show Rn p e below F T4 (mkF m 28 #[.val (.int p0), .val (.int p1), .val (.int p2), .val (.int (dA + (1 : Int32))), .val (.int (dB + (1 : Int32))), .unset, .unset, .unset, .unset, .unset, .unset, .unset, .unset, .unset, .unset, .unset] [(.ref a3)])
  refine Rn.go (T' := T4) (g' := (mkF m 36 #[.val (.int p0), .val (.int p1), .val (.int p2), .val (.int (dA + (1 : Int32))), .val (.int (dB + (1 : Int32))), .val (.ref a3), .val (.int (1 : Int32)), .val (.int (0 : Int32)), .unset, .unset, .unset, .unset, .unset, .unset, .unset, .unset] [])) (fun t k => ?_) ?_
  · show Steps p.tables e below (T4.setTop (mkF m 28 #[.val (.int p0), .val (.int p1), .val (.int p2), .val (.int (dA + (1 : Int32))), .val (.int (dB + (1 : Int32))), .unset, .unset, .unset, .unset, .unset, .unset, .unset, .unset, .unset, .unset, .unset] [(.ref a3)])) t
    refine XS.astore Y5.here hx rfl (hb hby at_28) rfl rfl (l' := #[.val (.int p0), .val (.int p1), .val (.int p2), .val (.int (dA + (1 : Int32))), .val (.int (dB + (1 : Int32))), .val (.ref a3), .unset, .unset, .unset, .unset, .unset, .unset, .unset, .unset, .unset, .unset]) rfl ?_
    show Steps p.tables e below (T4.setTop (mkF m 30 #[.val (.int p0), .val (.int p1), .val (.int p2), .val (.int (dA + (1 : Int32))), .val (.int (dB + (1 : Int32))), .val (.ref a3), .unset, .unset, .unset, .unset, .unset, .unset, .unset, .unset, .unset, .unset] [])) t
    refine XS.iconst Y5.here hx rfl (hb hby at_30) ?_
    show Steps p.tables e below (T4.setTop (mkF m 31 #[.val (.int p0), .val (.int p1), .val (.int p2), .val (.int (dA + (1 : Int32))), .val (.int (dB + (1 : Int32))), .val (.ref a3), .unset, .unset, .unset, .unset, .unset, .unset, .unset, .unset, .unset, .unset] [(.int (1 : Int32))])) t
    refine XS.istore Y5.here hx rfl (hb hby at_31) rfl (l' := #[.val (.int p0), .val (.int p1), .val (.int p2), .val (.int (dA + (1 : Int32))), .val (.int (dB + (1 : Int32))), .val (.ref a3), .val (.int (1 : Int32)), .unset, .unset, .unset, .unset, .unset, .unset, .unset, .unset, .unset]) rfl ?_
    show Steps p.tables e below (T4.setTop (mkF m 33 #[.val (.int p0), .val (.int p1), .val (.int p2), .val (.int (dA + (1 : Int32))), .val (.int (dB + (1 : Int32))), .val (.ref a3), .val (.int (1 : Int32)), .unset, .unset, .unset, .unset, .unset, .unset, .unset, .unset, .unset] [])) t
    refine XS.iconst Y5.here hx rfl (hb hby at_33) ?_
    show Steps p.tables e below (T4.setTop (mkF m 34 #[.val (.int p0), .val (.int p1), .val (.int p2), .val (.int (dA + (1 : Int32))), .val (.int (dB + (1 : Int32))), .val (.ref a3), .val (.int (1 : Int32)), .unset, .unset, .unset, .unset, .unset, .unset, .unset, .unset, .unset] [(.int (0 : Int32))])) t
    refine XS.istore Y5.here hx rfl (hb hby at_34) rfl (l' := #[.val (.int p0), .val (.int p1), .val (.int p2), .val (.int (dA + (1 : Int32))), .val (.int (dB + (1 : Int32))), .val (.ref a3), .val (.int (1 : Int32)), .val (.int (0 : Int32)), .unset, .unset, .unset, .unset, .unset, .unset, .unset, .unset]) rfl ?_
    show Steps p.tables e below (T4.setTop (mkF m 36 #[.val (.int p0), .val (.int p1), .val (.int p2), .val (.int (dA + (1 : Int32))), .val (.int (dB + (1 : Int32))), .val (.ref a3), .val (.int (1 : Int32)), .val (.int (0 : Int32)), .unset, .unset, .unset, .unset, .unset, .unset, .unset, .unset] [])) t
    exact k
  suffices HJ165 : ∀ (T11 : State) (tA : Int32) (rA : Int32) (btA : tA = 0 ∨ tA = 1 ∨ tA = 2 ∨ tA = 3 ∨ tA = 4) (eda : dA = own_da tA) (erA : rA = own_ra tA), On p l e room_1 s m #[(.int p0), (.int p1), (.int p2)] below meth c Z n0 T11 3 14 [ob a3 own_C0 (own_F0 (.ref a9) (.ref a10)), ari a9 .int (6 : Int32) (own_P tA (0 : Int32)), ari a10 .int (6 : Int32) (own_S tA (0 : Int32))] → Rn p e below F T11 (mkF m 165 #[.val (.int p0), .val (.int p1), .val (.int p2), .val (.int (dA + (1 : Int32))), .val (.int (dB + (1 : Int32))), .val (.ref a3), .val (.int (1 : Int32)), .val (.int rA), .val (.int (3 : Int32)), .unset, .unset, .unset, .unset, .unset, .unset, .unset] []) by
    rcases own_le2 hbdA.1 hbdA.2 with edA | edA | edA
    · subst edA
      show Rn p e below F T4 (mkF m 36 #[.val (.int p0), .val (.int p1), .val (.int p2), .val (.int (1 : Int32)), .val (.int (dB + (1 : Int32))), .val (.ref a3), .val (.int (1 : Int32)), .val (.int (0 : Int32)), .unset, .unset, .unset, .unset, .unset, .unset, .unset, .unset] [])
      refine Rn.go (T' := T4) (g' := (mkF m 38 #[.val (.int p0), .val (.int p1), .val (.int p2), .val (.int (1 : Int32)), .val (.int (dB + (1 : Int32))), .val (.ref a3), .val (.int (1 : Int32)), .val (.int (0 : Int32)), .unset, .unset, .unset, .unset, .unset, .unset, .unset, .unset] [(.int (2 : Int32)), (.int (1 : Int32))])) (fun t k => ?_) ?_
      · show Steps p.tables e below (T4.setTop (mkF m 36 #[.val (.int p0), .val (.int p1), .val (.int p2), .val (.int (1 : Int32)), .val (.int (dB + (1 : Int32))), .val (.ref a3), .val (.int (1 : Int32)), .val (.int (0 : Int32)), .unset, .unset, .unset, .unset, .unset, .unset, .unset, .unset] [])) t
        refine XS.iloadN Y5.here hx rfl (hb hby at_36) rfl ?_
        show Steps p.tables e below (T4.setTop (mkF m 37 #[.val (.int p0), .val (.int p1), .val (.int p2), .val (.int (1 : Int32)), .val (.int (dB + (1 : Int32))), .val (.ref a3), .val (.int (1 : Int32)), .val (.int (0 : Int32)), .unset, .unset, .unset, .unset, .unset, .unset, .unset, .unset] [(.int (1 : Int32))])) t
        refine XS.iconst Y5.here hx rfl (hb hby at_37) ?_
        show Steps p.tables e below (T4.setTop (mkF m 38 #[.val (.int p0), .val (.int p1), .val (.int p2), .val (.int (1 : Int32)), .val (.int (dB + (1 : Int32))), .val (.ref a3), .val (.int (1 : Int32)), .val (.int (0 : Int32)), .unset, .unset, .unset, .unset, .unset, .unset, .unset, .unset] [(.int (2 : Int32)), (.int (1 : Int32))])) t
        exact k
      refine Rn.go (T' := T4) (g' := (mkF m 109 #[.val (.int p0), .val (.int p1), .val (.int p2), .val (.int (1 : Int32)), .val (.int (dB + (1 : Int32))), .val (.ref a3), .val (.int (1 : Int32)), .val (.int (0 : Int32)), .unset, .unset, .unset, .unset, .unset, .unset, .unset, .unset] [])) (fun t k => XS.icmpYes Y5.here hx rfl (pc0 := 38) (pc' := 109) rfl (hb hby at_38) rfl (tlt (by decide)).1 (by decide) (by decide) k) ?_
      refine Rn.go (T' := T4) (g' := (mkF m 111 #[.val (.int p0), .val (.int p1), .val (.int p2), .val (.int (1 : Int32)), .val (.int (dB + (1 : Int32))), .val (.ref a3), .val (.int (1 : Int32)), .val (.int (0 : Int32)), .unset, .unset, .unset, .unset, .unset, .unset, .unset, .unset] [(.int (3 : Int32)), (.int (1 : Int32))])) (fun t k => ?_) ?_
      · show Steps p.tables e below (T4.setTop (mkF m 109 #[.val (.int p0), .val (.int p1), .val (.int p2), .val (.int (1 : Int32)), .val (.int (dB + (1 : Int32))), .val (.ref a3), .val (.int (1 : Int32)), .val (.int (0 : Int32)), .unset, .unset, .unset, .unset, .unset, .unset, .unset, .unset] [])) t
        refine XS.iloadN Y5.here hx rfl (hb hby at_109) rfl ?_
        show Steps p.tables e below (T4.setTop (mkF m 110 #[.val (.int p0), .val (.int p1), .val (.int p2), .val (.int (1 : Int32)), .val (.int (dB + (1 : Int32))), .val (.ref a3), .val (.int (1 : Int32)), .val (.int (0 : Int32)), .unset, .unset, .unset, .unset, .unset, .unset, .unset, .unset] [(.int (1 : Int32))])) t
        refine XS.iconst Y5.here hx rfl (hb hby at_110) ?_
        show Steps p.tables e below (T4.setTop (mkF m 111 #[.val (.int p0), .val (.int p1), .val (.int p2), .val (.int (1 : Int32)), .val (.int (dB + (1 : Int32))), .val (.ref a3), .val (.int (1 : Int32)), .val (.int (0 : Int32)), .unset, .unset, .unset, .unset, .unset, .unset, .unset, .unset] [(.int (3 : Int32)), (.int (1 : Int32))])) t
        exact k
      refine Rn.go (T' := T4) (g' := (mkF m 162 #[.val (.int p0), .val (.int p1), .val (.int p2), .val (.int (1 : Int32)), .val (.int (dB + (1 : Int32))), .val (.ref a3), .val (.int (1 : Int32)), .val (.int (0 : Int32)), .unset, .unset, .unset, .unset, .unset, .unset, .unset, .unset] [])) (fun t k => XS.icmpYes Y5.here hx rfl (pc0 := 111) (pc' := 162) rfl (hb hby at_111) rfl (feq (by decide)).2 (by decide) (by decide) k) ?_
      refine Rn.go (T' := T4) (g' := (mkF m 165 #[.val (.int p0), .val (.int p1), .val (.int p2), .val (.int (1 : Int32)), .val (.int (dB + (1 : Int32))), .val (.ref a3), .val (.int (1 : Int32)), .val (.int (0 : Int32)), .val (.int (3 : Int32)), .unset, .unset, .unset, .unset, .unset, .unset, .unset] [])) (fun t k => ?_) ?_
      · show Steps p.tables e below (T4.setTop (mkF m 162 #[.val (.int p0), .val (.int p1), .val (.int p2), .val (.int (1 : Int32)), .val (.int (dB + (1 : Int32))), .val (.ref a3), .val (.int (1 : Int32)), .val (.int (0 : Int32)), .unset, .unset, .unset, .unset, .unset, .unset, .unset, .unset] [])) t
        refine XS.iconst Y5.here hx rfl (hb hby at_162) ?_
        show Steps p.tables e below (T4.setTop (mkF m 163 #[.val (.int p0), .val (.int p1), .val (.int p2), .val (.int (1 : Int32)), .val (.int (dB + (1 : Int32))), .val (.ref a3), .val (.int (1 : Int32)), .val (.int (0 : Int32)), .unset, .unset, .unset, .unset, .unset, .unset, .unset, .unset] [(.int (3 : Int32))])) t
        refine XS.istore Y5.here hx rfl (hb hby at_163) rfl (l' := #[.val (.int p0), .val (.int p1), .val (.int p2), .val (.int (1 : Int32)), .val (.int (dB + (1 : Int32))), .val (.ref a3), .val (.int (1 : Int32)), .val (.int (0 : Int32)), .val (.int (3 : Int32)), .unset, .unset, .unset, .unset, .unset, .unset, .unset]) rfl ?_
        show Steps p.tables e below (T4.setTop (mkF m 165 #[.val (.int p0), .val (.int p1), .val (.int p2), .val (.int (1 : Int32)), .val (.int (dB + (1 : Int32))), .val (.ref a3), .val (.int (1 : Int32)), .val (.int (0 : Int32)), .val (.int (3 : Int32)), .unset, .unset, .unset, .unset, .unset, .unset, .unset] [])) t
        exact k
      exact HJ165 _ (0 : Int32) _ (by decide) (by decide) (by decide) (by rw [(by decide : own_P (0 : Int32) (0 : Int32) = [(0 : Int32), (1 : Int32), (2 : Int32), (3 : Int32), (4 : Int32), (5 : Int32)]), (by decide : own_S (0 : Int32) (0 : Int32) = [(1 : Int32), (1 : Int32), (1 : Int32), (1 : Int32), (1 : Int32), (1 : Int32)])]; exact Y5)
    · subst edA
      show Rn p e below F T4 (mkF m 36 #[.val (.int p0), .val (.int p1), .val (.int p2), .val (.int (2 : Int32)), .val (.int (dB + (1 : Int32))), .val (.ref a3), .val (.int (1 : Int32)), .val (.int (0 : Int32)), .unset, .unset, .unset, .unset, .unset, .unset, .unset, .unset] [])
      refine Rn.go (T' := T4) (g' := (mkF m 38 #[.val (.int p0), .val (.int p1), .val (.int p2), .val (.int (2 : Int32)), .val (.int (dB + (1 : Int32))), .val (.ref a3), .val (.int (1 : Int32)), .val (.int (0 : Int32)), .unset, .unset, .unset, .unset, .unset, .unset, .unset, .unset] [(.int (2 : Int32)), (.int (2 : Int32))])) (fun t k => ?_) ?_
      · show Steps p.tables e below (T4.setTop (mkF m 36 #[.val (.int p0), .val (.int p1), .val (.int p2), .val (.int (2 : Int32)), .val (.int (dB + (1 : Int32))), .val (.ref a3), .val (.int (1 : Int32)), .val (.int (0 : Int32)), .unset, .unset, .unset, .unset, .unset, .unset, .unset, .unset] [])) t
        refine XS.iloadN Y5.here hx rfl (hb hby at_36) rfl ?_
        show Steps p.tables e below (T4.setTop (mkF m 37 #[.val (.int p0), .val (.int p1), .val (.int p2), .val (.int (2 : Int32)), .val (.int (dB + (1 : Int32))), .val (.ref a3), .val (.int (1 : Int32)), .val (.int (0 : Int32)), .unset, .unset, .unset, .unset, .unset, .unset, .unset, .unset] [(.int (2 : Int32))])) t
        refine XS.iconst Y5.here hx rfl (hb hby at_37) ?_
        show Steps p.tables e below (T4.setTop (mkF m 38 #[.val (.int p0), .val (.int p1), .val (.int p2), .val (.int (2 : Int32)), .val (.int (dB + (1 : Int32))), .val (.ref a3), .val (.int (1 : Int32)), .val (.int (0 : Int32)), .unset, .unset, .unset, .unset, .unset, .unset, .unset, .unset] [(.int (2 : Int32)), (.int (2 : Int32))])) t
        exact k
      refine Rn.go (T' := T4) (g' := (mkF m 41 #[.val (.int p0), .val (.int p1), .val (.int p2), .val (.int (2 : Int32)), .val (.int (dB + (1 : Int32))), .val (.ref a3), .val (.int (1 : Int32)), .val (.int (0 : Int32)), .unset, .unset, .unset, .unset, .unset, .unset, .unset, .unset] [])) (fun t k => XS.icmpNo Y5.here hx rfl (hb hby at_38) rfl (flt (by decide)).1 k) ?_
      refine Rn.go (T' := T4) (g' := (mkF m 44 #[.val (.int p0), .val (.int p1), .val (.int p2), .val (.int (2 : Int32)), .val (.int (dB + (1 : Int32))), .val (.ref a3), .val (.int (1 : Int32)), .val (.int (0 : Int32)), .unset, .unset, .unset, .unset, .unset, .unset, .unset, .unset] [(.int (p2 &&& (1 : Int32)))])) (fun t k => ?_) ?_
      · show Steps p.tables e below (T4.setTop (mkF m 41 #[.val (.int p0), .val (.int p1), .val (.int p2), .val (.int (2 : Int32)), .val (.int (dB + (1 : Int32))), .val (.ref a3), .val (.int (1 : Int32)), .val (.int (0 : Int32)), .unset, .unset, .unset, .unset, .unset, .unset, .unset, .unset] [])) t
        refine XS.iloadN Y5.here hx rfl (hb hby at_41) rfl ?_
        show Steps p.tables e below (T4.setTop (mkF m 42 #[.val (.int p0), .val (.int p1), .val (.int p2), .val (.int (2 : Int32)), .val (.int (dB + (1 : Int32))), .val (.ref a3), .val (.int (1 : Int32)), .val (.int (0 : Int32)), .unset, .unset, .unset, .unset, .unset, .unset, .unset, .unset] [(.int p2)])) t
        refine XS.iconst Y5.here hx rfl (hb hby at_42) ?_
        show Steps p.tables e below (T4.setTop (mkF m 43 #[.val (.int p0), .val (.int p1), .val (.int p2), .val (.int (2 : Int32)), .val (.int (dB + (1 : Int32))), .val (.ref a3), .val (.int (1 : Int32)), .val (.int (0 : Int32)), .unset, .unset, .unset, .unset, .unset, .unset, .unset, .unset] [(.int (1 : Int32)), (.int p2)])) t
        refine XS.iand Y5.here hx rfl (hb hby at_43) rfl ?_
        show Steps p.tables e below (T4.setTop (mkF m 44 #[.val (.int p0), .val (.int p1), .val (.int p2), .val (.int (2 : Int32)), .val (.int (dB + (1 : Int32))), .val (.ref a3), .val (.int (1 : Int32)), .val (.int (0 : Int32)), .unset, .unset, .unset, .unset, .unset, .unset, .unset, .unset] [(.int (p2 &&& (1 : Int32)))])) t
        exact k
      by_cases hc44 : (p2 &&& (1 : Int32)) = (0 : Int32)
      · refine Rn.go (T' := T4) (g' := (mkF m 80 #[.val (.int p0), .val (.int p1), .val (.int p2), .val (.int (2 : Int32)), .val (.int (dB + (1 : Int32))), .val (.ref a3), .val (.int (1 : Int32)), .val (.int (0 : Int32)), .unset, .unset, .unset, .unset, .unset, .unset, .unset, .unset] [])) (fun t k => XS.ifYes Y5.here hx rfl (pc0 := 44) (pc' := 80) rfl (hb hby at_44) rfl ((if0 _ _).trans (teq hc44).1) (by decide) (by decide) k) ?_
        refine Rn.go (T' := T4) (g' := (mkF m 84 #[.val (.int p0), .val (.int p1), .val (.int p2), .val (.int (2 : Int32)), .val (.int (dB + (1 : Int32))), .val (.ref a3), .val (.int (1 : Int32)), .val (.int (0 : Int32)), .unset, .unset, .unset, .unset, .unset, .unset, .unset, .unset] [(.int (1 : Int32)), (.int (0 : Int32)), (.ref a3)])) (fun t k => ?_) ?_
        · show Steps p.tables e below (T4.setTop (mkF m 80 #[.val (.int p0), .val (.int p1), .val (.int p2), .val (.int (2 : Int32)), .val (.int (dB + (1 : Int32))), .val (.ref a3), .val (.int (1 : Int32)), .val (.int (0 : Int32)), .unset, .unset, .unset, .unset, .unset, .unset, .unset, .unset] [])) t
          refine XS.aload Y5.here hx rfl (hb hby at_80) rfl rfl ?_
          show Steps p.tables e below (T4.setTop (mkF m 82 #[.val (.int p0), .val (.int p1), .val (.int p2), .val (.int (2 : Int32)), .val (.int (dB + (1 : Int32))), .val (.ref a3), .val (.int (1 : Int32)), .val (.int (0 : Int32)), .unset, .unset, .unset, .unset, .unset, .unset, .unset, .unset] [(.ref a3)])) t
          refine XS.iconst Y5.here hx rfl (hb hby at_82) ?_
          show Steps p.tables e below (T4.setTop (mkF m 83 #[.val (.int p0), .val (.int p1), .val (.int p2), .val (.int (2 : Int32)), .val (.int (dB + (1 : Int32))), .val (.ref a3), .val (.int (1 : Int32)), .val (.int (0 : Int32)), .unset, .unset, .unset, .unset, .unset, .unset, .unset, .unset] [(.int (0 : Int32)), (.ref a3)])) t
          refine XS.iconst Y5.here hx rfl (hb hby at_83) ?_
          show Steps p.tables e below (T4.setTop (mkF m 84 #[.val (.int p0), .val (.int p1), .val (.int p2), .val (.int (2 : Int32)), .val (.int (dB + (1 : Int32))), .val (.ref a3), .val (.int (1 : Int32)), .val (.int (0 : Int32)), .unset, .unset, .unset, .unset, .unset, .unset, .unset, .unset] [(.int (1 : Int32)), (.int (0 : Int32)), (.ref a3)])) t
          exact k
        refine On.virtual Y5 hx hZ (y := (⟨"com/example/arborplan/arborplan/tree/DisjointSets", "union", "(II)I"⟩ : MethodName)) (C := "com/example/arborplan/arborplan/tree/DisjointSets") hown (w15 hw) (w16 hw) (w17 hw) (w18 hw) (w19 hw) (w3 hw) (by decide) (a := a3) (argsL := [(.int (0 : Int32)), (.int (1 : Int32))]) (rest := []) (i := 0) rfl (rm3 l Z a0 hw n0 a3 (0 : Int32) (1 : Int32) a9 a10 [(0 : Int32), (1 : Int32), (2 : Int32), (3 : Int32), (4 : Int32), (5 : Int32)] [(1 : Int32), (1 : Int32), (1 : Int32), (1 : Int32), (1 : Int32), (1 : Int32)] [] (by decide) (by decide) (by decide) (by decide) (by decide) (by decide)) (W := 0) (by decide) (by decide) (by decide) (by decide) (g := (mkF m 84 #[.val (.int p0), .val (.int p1), .val (.int p2), .val (.int (2 : Int32)), .val (.int (dB + (1 : Int32))), .val (.ref a3), .val (.int (1 : Int32)), .val (.int (0 : Int32)), .unset, .unset, .unset, .unset, .unset, .unset, .unset, .unset] [(.int (1 : Int32)), (.int (0 : Int32)), (.ref a3)])) rfl (by rw [hml]; rfl) (lenOf pd1 rfl) rfl (by show 2 * 0 + _ ≤ _; exact Nat.le_of_eq rfl) (hb hby at_84) ?_
        intro T13 u15 D16 hp17 Y14
        obtain ⟨r84, hr84, rfl, rfl⟩ : ∃ z : Int32, z = (own_ro [(1 : Int32), (1 : Int32), (1 : Int32), (1 : Int32), (1 : Int32), (1 : Int32)] (0 : Int32) (1 : Int32)) ∧ u15 = some (.int z) ∧ D16 = _ := ⟨_, rfl, hp17.1, hp17.2⟩
        replace Y14 : On p l e _ s m _ below meth c Z n0 T13 3 14 [ob a3 own_C0 (own_F0 (.ref a9) (.ref a10)), ari a9 .int (6 : Int32) (own_pn [(0 : Int32), (1 : Int32), (2 : Int32), (3 : Int32), (4 : Int32), (5 : Int32)] [(1 : Int32), (1 : Int32), (1 : Int32), (1 : Int32), (1 : Int32), (1 : Int32)] (0 : Int32) (1 : Int32)), ari a10 .int (6 : Int32) (own_sn [(1 : Int32), (1 : Int32), (1 : Int32), (1 : Int32), (1 : Int32), (1 : Int32)] (0 : Int32) (1 : Int32))] := Y14
        show Rn p e below F T13 (mkF m 87 #[.val (.int p0), .val (.int p1), .val (.int p2), .val (.int (2 : Int32)), .val (.int (dB + (1 : Int32))), .val (.ref a3), .val (.int (1 : Int32)), .val (.int (0 : Int32)), .unset, .unset, .unset, .unset, .unset, .unset, .unset, .unset] [(.int r84)])
        refine Rn.go (T' := T13) (g' := (mkF m 91 #[.val (.int p0), .val (.int p1), .val (.int p2), .val (.int (2 : Int32)), .val (.int (dB + (1 : Int32))), .val (.ref a3), .val (.int (1 : Int32)), .val (.int (0 : Int32)), .val (.int r84), .unset, .unset, .unset, .unset, .unset, .unset, .unset] [(.int (1 : Int32))])) (fun t k => ?_) ?_
        · show Steps p.tables e below (T13.setTop (mkF m 87 #[.val (.int p0), .val (.int p1), .val (.int p2), .val (.int (2 : Int32)), .val (.int (dB + (1 : Int32))), .val (.ref a3), .val (.int (1 : Int32)), .val (.int (0 : Int32)), .unset, .unset, .unset, .unset, .unset, .unset, .unset, .unset] [(.int r84)])) t
          refine XS.istore Y14.here hx rfl (hb hby at_87) rfl (l' := #[.val (.int p0), .val (.int p1), .val (.int p2), .val (.int (2 : Int32)), .val (.int (dB + (1 : Int32))), .val (.ref a3), .val (.int (1 : Int32)), .val (.int (0 : Int32)), .val (.int r84), .unset, .unset, .unset, .unset, .unset, .unset, .unset]) rfl ?_
          show Steps p.tables e below (T13.setTop (mkF m 89 #[.val (.int p0), .val (.int p1), .val (.int p2), .val (.int (2 : Int32)), .val (.int (dB + (1 : Int32))), .val (.ref a3), .val (.int (1 : Int32)), .val (.int (0 : Int32)), .val (.int r84), .unset, .unset, .unset, .unset, .unset, .unset, .unset] [])) t
          refine XS.iload Y14.here hx rfl (hb hby at_89) rfl ?_
          show Steps p.tables e below (T13.setTop (mkF m 91 #[.val (.int p0), .val (.int p1), .val (.int p2), .val (.int (2 : Int32)), .val (.int (dB + (1 : Int32))), .val (.ref a3), .val (.int (1 : Int32)), .val (.int (0 : Int32)), .val (.int r84), .unset, .unset, .unset, .unset, .unset, .unset, .unset] [(.int (1 : Int32))])) t
          exact k
        refine Rn.go (T' := T13) (g' := (mkF m 94 #[.val (.int p0), .val (.int p1), .val (.int p2), .val (.int (2 : Int32)), .val (.int (dB + (1 : Int32))), .val (.ref a3), .val (.int (1 : Int32)), .val (.int (0 : Int32)), .val (.int r84), .unset, .unset, .unset, .unset, .unset, .unset, .unset] [])) (fun t k => XS.ifNo Y14.here hx rfl (hb hby at_91) rfl ((if0 _ _).trans (feq (by decide)).1) k) ?_
        refine Rn.go (T' := T13) (g' := (mkF m 96 #[.val (.int p0), .val (.int p1), .val (.int p2), .val (.int (2 : Int32)), .val (.int (dB + (1 : Int32))), .val (.ref a3), .val (.int (1 : Int32)), .val (.int (0 : Int32)), .val (.int r84), .unset, .unset, .unset, .unset, .unset, .unset, .unset] [(.int r84)])) (fun t k => ?_) ?_
        · show Steps p.tables e below (T13.setTop (mkF m 94 #[.val (.int p0), .val (.int p1), .val (.int p2), .val (.int (2 : Int32)), .val (.int (dB + (1 : Int32))), .val (.ref a3), .val (.int (1 : Int32)), .val (.int (0 : Int32)), .val (.int r84), .unset, .unset, .unset, .unset, .unset, .unset, .unset] [])) t
          refine XS.iload Y14.here hx rfl (hb hby at_94) rfl ?_
          show Steps p.tables e below (T13.setTop (mkF m 96 #[.val (.int p0), .val (.int p1), .val (.int p2), .val (.int (2 : Int32)), .val (.int (dB + (1 : Int32))), .val (.ref a3), .val (.int (1 : Int32)), .val (.int (0 : Int32)), .val (.int r84), .unset, .unset, .unset, .unset, .unset, .unset, .unset] [(.int r84)])) t
          exact k
        refine Rn.go (T' := T13) (g' := (mkF m 99 #[.val (.int p0), .val (.int p1), .val (.int p2), .val (.int (2 : Int32)), .val (.int (dB + (1 : Int32))), .val (.ref a3), .val (.int (1 : Int32)), .val (.int (0 : Int32)), .val (.int r84), .unset, .unset, .unset, .unset, .unset, .unset, .unset] [])) (fun t k => XS.ifNo Y14.here hx rfl (hb hby at_96) rfl ((if0 _ _).trans (teq (by rw [hr84]; decide)).2) k) ?_
        refine Rn.go (T' := T13) (g' := (mkF m 111 #[.val (.int p0), .val (.int p1), .val (.int p2), .val (.int (2 : Int32)), .val (.int (dB + (1 : Int32))), .val (.ref a3), .val (.int (1 : Int32)), .val (.int (0 : Int32)), .val (.int r84), .unset, .unset, .unset, .unset, .unset, .unset, .unset] [(.int (3 : Int32)), (.int (2 : Int32))])) (fun t k => ?_) ?_
        · show Steps p.tables e below (T13.setTop (mkF m 99 #[.val (.int p0), .val (.int p1), .val (.int p2), .val (.int (2 : Int32)), .val (.int (dB + (1 : Int32))), .val (.ref a3), .val (.int (1 : Int32)), .val (.int (0 : Int32)), .val (.int r84), .unset, .unset, .unset, .unset, .unset, .unset, .unset] [])) t
          refine XS.iconst Y14.here hx rfl (hb hby at_99) ?_
          show Steps p.tables e below (T13.setTop (mkF m 100 #[.val (.int p0), .val (.int p1), .val (.int p2), .val (.int (2 : Int32)), .val (.int (dB + (1 : Int32))), .val (.ref a3), .val (.int (1 : Int32)), .val (.int (0 : Int32)), .val (.int r84), .unset, .unset, .unset, .unset, .unset, .unset, .unset] [(.int (1 : Int32))])) t
          refine XS.goto Y14.here hx rfl (pc0 := 100) (pc' := 104) rfl (hb hby at_100) (by decide) (by decide) ?_
          show Steps p.tables e below (T13.setTop (mkF m 104 #[.val (.int p0), .val (.int p1), .val (.int p2), .val (.int (2 : Int32)), .val (.int (dB + (1 : Int32))), .val (.ref a3), .val (.int (1 : Int32)), .val (.int (0 : Int32)), .val (.int r84), .unset, .unset, .unset, .unset, .unset, .unset, .unset] [(.int (1 : Int32))])) t
          refine XS.istore Y14.here hx rfl (hb hby at_104) rfl (l' := #[.val (.int p0), .val (.int p1), .val (.int p2), .val (.int (2 : Int32)), .val (.int (dB + (1 : Int32))), .val (.ref a3), .val (.int (1 : Int32)), .val (.int (0 : Int32)), .val (.int r84), .unset, .unset, .unset, .unset, .unset, .unset, .unset]) rfl ?_
          show Steps p.tables e below (T13.setTop (mkF m 106 #[.val (.int p0), .val (.int p1), .val (.int p2), .val (.int (2 : Int32)), .val (.int (dB + (1 : Int32))), .val (.ref a3), .val (.int (1 : Int32)), .val (.int (0 : Int32)), .val (.int r84), .unset, .unset, .unset, .unset, .unset, .unset, .unset] [])) t
          refine XS.iconst Y14.here hx rfl (hb hby at_106) ?_
          show Steps p.tables e below (T13.setTop (mkF m 107 #[.val (.int p0), .val (.int p1), .val (.int p2), .val (.int (2 : Int32)), .val (.int (dB + (1 : Int32))), .val (.ref a3), .val (.int (1 : Int32)), .val (.int (0 : Int32)), .val (.int r84), .unset, .unset, .unset, .unset, .unset, .unset, .unset] [(.int (0 : Int32))])) t
          refine XS.istore Y14.here hx rfl (hb hby at_107) rfl (l' := #[.val (.int p0), .val (.int p1), .val (.int p2), .val (.int (2 : Int32)), .val (.int (dB + (1 : Int32))), .val (.ref a3), .val (.int (1 : Int32)), .val (.int (0 : Int32)), .val (.int r84), .unset, .unset, .unset, .unset, .unset, .unset, .unset]) rfl ?_
          show Steps p.tables e below (T13.setTop (mkF m 109 #[.val (.int p0), .val (.int p1), .val (.int p2), .val (.int (2 : Int32)), .val (.int (dB + (1 : Int32))), .val (.ref a3), .val (.int (1 : Int32)), .val (.int (0 : Int32)), .val (.int r84), .unset, .unset, .unset, .unset, .unset, .unset, .unset] [])) t
          refine XS.iloadN Y14.here hx rfl (hb hby at_109) rfl ?_
          show Steps p.tables e below (T13.setTop (mkF m 110 #[.val (.int p0), .val (.int p1), .val (.int p2), .val (.int (2 : Int32)), .val (.int (dB + (1 : Int32))), .val (.ref a3), .val (.int (1 : Int32)), .val (.int (0 : Int32)), .val (.int r84), .unset, .unset, .unset, .unset, .unset, .unset, .unset] [(.int (2 : Int32))])) t
          refine XS.iconst Y14.here hx rfl (hb hby at_110) ?_
          show Steps p.tables e below (T13.setTop (mkF m 111 #[.val (.int p0), .val (.int p1), .val (.int p2), .val (.int (2 : Int32)), .val (.int (dB + (1 : Int32))), .val (.ref a3), .val (.int (1 : Int32)), .val (.int (0 : Int32)), .val (.int r84), .unset, .unset, .unset, .unset, .unset, .unset, .unset] [(.int (3 : Int32)), (.int (2 : Int32))])) t
          exact k
        refine Rn.go (T' := T13) (g' := (mkF m 162 #[.val (.int p0), .val (.int p1), .val (.int p2), .val (.int (2 : Int32)), .val (.int (dB + (1 : Int32))), .val (.ref a3), .val (.int (1 : Int32)), .val (.int (0 : Int32)), .val (.int r84), .unset, .unset, .unset, .unset, .unset, .unset, .unset] [])) (fun t k => XS.icmpYes Y14.here hx rfl (pc0 := 111) (pc' := 162) rfl (hb hby at_111) rfl (feq (by decide)).2 (by decide) (by decide) k) ?_
        refine Rn.go (T' := T13) (g' := (mkF m 165 #[.val (.int p0), .val (.int p1), .val (.int p2), .val (.int (2 : Int32)), .val (.int (dB + (1 : Int32))), .val (.ref a3), .val (.int (1 : Int32)), .val (.int (0 : Int32)), .val (.int (3 : Int32)), .unset, .unset, .unset, .unset, .unset, .unset, .unset] [])) (fun t k => ?_) ?_
        · show Steps p.tables e below (T13.setTop (mkF m 162 #[.val (.int p0), .val (.int p1), .val (.int p2), .val (.int (2 : Int32)), .val (.int (dB + (1 : Int32))), .val (.ref a3), .val (.int (1 : Int32)), .val (.int (0 : Int32)), .val (.int r84), .unset, .unset, .unset, .unset, .unset, .unset, .unset] [])) t
          refine XS.iconst Y14.here hx rfl (hb hby at_162) ?_
          show Steps p.tables e below (T13.setTop (mkF m 163 #[.val (.int p0), .val (.int p1), .val (.int p2), .val (.int (2 : Int32)), .val (.int (dB + (1 : Int32))), .val (.ref a3), .val (.int (1 : Int32)), .val (.int (0 : Int32)), .val (.int r84), .unset, .unset, .unset, .unset, .unset, .unset, .unset] [(.int (3 : Int32))])) t
          refine XS.istore Y14.here hx rfl (hb hby at_163) rfl (l' := #[.val (.int p0), .val (.int p1), .val (.int p2), .val (.int (2 : Int32)), .val (.int (dB + (1 : Int32))), .val (.ref a3), .val (.int (1 : Int32)), .val (.int (0 : Int32)), .val (.int (3 : Int32)), .unset, .unset, .unset, .unset, .unset, .unset, .unset]) rfl ?_
          show Steps p.tables e below (T13.setTop (mkF m 165 #[.val (.int p0), .val (.int p1), .val (.int p2), .val (.int (2 : Int32)), .val (.int (dB + (1 : Int32))), .val (.ref a3), .val (.int (1 : Int32)), .val (.int (0 : Int32)), .val (.int (3 : Int32)), .unset, .unset, .unset, .unset, .unset, .unset, .unset] [])) t
          exact k
        exact HJ165 _ (1 : Int32) _ (by decide) (by decide) (by decide) (by rw [(by decide : own_P (1 : Int32) (0 : Int32) = (own_pn [(0 : Int32), (1 : Int32), (2 : Int32), (3 : Int32), (4 : Int32), (5 : Int32)] [(1 : Int32), (1 : Int32), (1 : Int32), (1 : Int32), (1 : Int32), (1 : Int32)] (0 : Int32) (1 : Int32))), (by decide : own_S (1 : Int32) (0 : Int32) = (own_sn [(1 : Int32), (1 : Int32), (1 : Int32), (1 : Int32), (1 : Int32), (1 : Int32)] (0 : Int32) (1 : Int32)))]; exact Y14)
      · refine Rn.go (T' := T4) (g' := (mkF m 47 #[.val (.int p0), .val (.int p1), .val (.int p2), .val (.int (2 : Int32)), .val (.int (dB + (1 : Int32))), .val (.ref a3), .val (.int (1 : Int32)), .val (.int (0 : Int32)), .unset, .unset, .unset, .unset, .unset, .unset, .unset, .unset] [])) (fun t k => XS.ifNo Y5.here hx rfl (hb hby at_44) rfl ((if0 _ _).trans (feq hc44).1) k) ?_
        refine Rn.go (T' := T4) (g' := (mkF m 51 #[.val (.int p0), .val (.int p1), .val (.int p2), .val (.int (2 : Int32)), .val (.int (dB + (1 : Int32))), .val (.ref a3), .val (.int (1 : Int32)), .val (.int (0 : Int32)), .unset, .unset, .unset, .unset, .unset, .unset, .unset, .unset] [(.int (0 : Int32)), (.int (1 : Int32)), (.ref a3)])) (fun t k => ?_) ?_
        · show Steps p.tables e below (T4.setTop (mkF m 47 #[.val (.int p0), .val (.int p1), .val (.int p2), .val (.int (2 : Int32)), .val (.int (dB + (1 : Int32))), .val (.ref a3), .val (.int (1 : Int32)), .val (.int (0 : Int32)), .unset, .unset, .unset, .unset, .unset, .unset, .unset, .unset] [])) t
          refine XS.aload Y5.here hx rfl (hb hby at_47) rfl rfl ?_
          show Steps p.tables e below (T4.setTop (mkF m 49 #[.val (.int p0), .val (.int p1), .val (.int p2), .val (.int (2 : Int32)), .val (.int (dB + (1 : Int32))), .val (.ref a3), .val (.int (1 : Int32)), .val (.int (0 : Int32)), .unset, .unset, .unset, .unset, .unset, .unset, .unset, .unset] [(.ref a3)])) t
          refine XS.iconst Y5.here hx rfl (hb hby at_49) ?_
          show Steps p.tables e below (T4.setTop (mkF m 50 #[.val (.int p0), .val (.int p1), .val (.int p2), .val (.int (2 : Int32)), .val (.int (dB + (1 : Int32))), .val (.ref a3), .val (.int (1 : Int32)), .val (.int (0 : Int32)), .unset, .unset, .unset, .unset, .unset, .unset, .unset, .unset] [(.int (1 : Int32)), (.ref a3)])) t
          refine XS.iconst Y5.here hx rfl (hb hby at_50) ?_
          show Steps p.tables e below (T4.setTop (mkF m 51 #[.val (.int p0), .val (.int p1), .val (.int p2), .val (.int (2 : Int32)), .val (.int (dB + (1 : Int32))), .val (.ref a3), .val (.int (1 : Int32)), .val (.int (0 : Int32)), .unset, .unset, .unset, .unset, .unset, .unset, .unset, .unset] [(.int (0 : Int32)), (.int (1 : Int32)), (.ref a3)])) t
          exact k
        refine On.virtual Y5 hx hZ (y := (⟨"com/example/arborplan/arborplan/tree/DisjointSets", "union", "(II)I"⟩ : MethodName)) (C := "com/example/arborplan/arborplan/tree/DisjointSets") hown (w15 hw) (w16 hw) (w17 hw) (w18 hw) (w19 hw) (w3 hw) (by decide) (a := a3) (argsL := [(.int (1 : Int32)), (.int (0 : Int32))]) (rest := []) (i := 0) rfl (rm3 l Z a0 hw n0 a3 (1 : Int32) (0 : Int32) a9 a10 [(0 : Int32), (1 : Int32), (2 : Int32), (3 : Int32), (4 : Int32), (5 : Int32)] [(1 : Int32), (1 : Int32), (1 : Int32), (1 : Int32), (1 : Int32), (1 : Int32)] [] (by decide) (by decide) (by decide) (by decide) (by decide) (by decide)) (W := 0) (by decide) (by decide) (by decide) (by decide) (g := (mkF m 51 #[.val (.int p0), .val (.int p1), .val (.int p2), .val (.int (2 : Int32)), .val (.int (dB + (1 : Int32))), .val (.ref a3), .val (.int (1 : Int32)), .val (.int (0 : Int32)), .unset, .unset, .unset, .unset, .unset, .unset, .unset, .unset] [(.int (0 : Int32)), (.int (1 : Int32)), (.ref a3)])) rfl (by rw [hml]; rfl) (lenOf pd1 rfl) rfl (by show 2 * 0 + _ ≤ _; exact Nat.le_of_eq rfl) (hb hby at_51) ?_
        intro T18 u20 D21 hp22 Y19
        obtain ⟨r51, hr51, rfl, rfl⟩ : ∃ z : Int32, z = (own_ro [(1 : Int32), (1 : Int32), (1 : Int32), (1 : Int32), (1 : Int32), (1 : Int32)] (1 : Int32) (0 : Int32)) ∧ u20 = some (.int z) ∧ D21 = _ := ⟨_, rfl, hp22.1, hp22.2⟩
        replace Y19 : On p l e _ s m _ below meth c Z n0 T18 3 14 [ob a3 own_C0 (own_F0 (.ref a9) (.ref a10)), ari a9 .int (6 : Int32) (own_pn [(0 : Int32), (1 : Int32), (2 : Int32), (3 : Int32), (4 : Int32), (5 : Int32)] [(1 : Int32), (1 : Int32), (1 : Int32), (1 : Int32), (1 : Int32), (1 : Int32)] (1 : Int32) (0 : Int32)), ari a10 .int (6 : Int32) (own_sn [(1 : Int32), (1 : Int32), (1 : Int32), (1 : Int32), (1 : Int32), (1 : Int32)] (1 : Int32) (0 : Int32))] := Y19
        show Rn p e below F T18 (mkF m 54 #[.val (.int p0), .val (.int p1), .val (.int p2), .val (.int (2 : Int32)), .val (.int (dB + (1 : Int32))), .val (.ref a3), .val (.int (1 : Int32)), .val (.int (0 : Int32)), .unset, .unset, .unset, .unset, .unset, .unset, .unset, .unset] [(.int r51)])
        refine Rn.go (T' := T18) (g' := (mkF m 58 #[.val (.int p0), .val (.int p1), .val (.int p2), .val (.int (2 : Int32)), .val (.int (dB + (1 : Int32))), .val (.ref a3), .val (.int (1 : Int32)), .val (.int (0 : Int32)), .val (.int r51), .unset, .unset, .unset, .unset, .unset, .unset, .unset] [(.int (1 : Int32))])) (fun t k => ?_) ?_
        · show Steps p.tables e below (T18.setTop (mkF m 54 #[.val (.int p0), .val (.int p1), .val (.int p2), .val (.int (2 : Int32)), .val (.int (dB + (1 : Int32))), .val (.ref a3), .val (.int (1 : Int32)), .val (.int (0 : Int32)), .unset, .unset, .unset, .unset, .unset, .unset, .unset, .unset] [(.int r51)])) t
          refine XS.istore Y19.here hx rfl (hb hby at_54) rfl (l' := #[.val (.int p0), .val (.int p1), .val (.int p2), .val (.int (2 : Int32)), .val (.int (dB + (1 : Int32))), .val (.ref a3), .val (.int (1 : Int32)), .val (.int (0 : Int32)), .val (.int r51), .unset, .unset, .unset, .unset, .unset, .unset, .unset]) rfl ?_
          show Steps p.tables e below (T18.setTop (mkF m 56 #[.val (.int p0), .val (.int p1), .val (.int p2), .val (.int (2 : Int32)), .val (.int (dB + (1 : Int32))), .val (.ref a3), .val (.int (1 : Int32)), .val (.int (0 : Int32)), .val (.int r51), .unset, .unset, .unset, .unset, .unset, .unset, .unset] [])) t
          refine XS.iload Y19.here hx rfl (hb hby at_56) rfl ?_
          show Steps p.tables e below (T18.setTop (mkF m 58 #[.val (.int p0), .val (.int p1), .val (.int p2), .val (.int (2 : Int32)), .val (.int (dB + (1 : Int32))), .val (.ref a3), .val (.int (1 : Int32)), .val (.int (0 : Int32)), .val (.int r51), .unset, .unset, .unset, .unset, .unset, .unset, .unset] [(.int (1 : Int32))])) t
          exact k
        refine Rn.go (T' := T18) (g' := (mkF m 61 #[.val (.int p0), .val (.int p1), .val (.int p2), .val (.int (2 : Int32)), .val (.int (dB + (1 : Int32))), .val (.ref a3), .val (.int (1 : Int32)), .val (.int (0 : Int32)), .val (.int r51), .unset, .unset, .unset, .unset, .unset, .unset, .unset] [])) (fun t k => XS.ifNo Y19.here hx rfl (hb hby at_58) rfl ((if0 _ _).trans (feq (by decide)).1) k) ?_
        refine Rn.go (T' := T18) (g' := (mkF m 64 #[.val (.int p0), .val (.int p1), .val (.int p2), .val (.int (2 : Int32)), .val (.int (dB + (1 : Int32))), .val (.ref a3), .val (.int (1 : Int32)), .val (.int (0 : Int32)), .val (.int r51), .unset, .unset, .unset, .unset, .unset, .unset, .unset] [(.int (1 : Int32)), (.int r51)])) (fun t k => ?_) ?_
        · show Steps p.tables e below (T18.setTop (mkF m 61 #[.val (.int p0), .val (.int p1), .val (.int p2), .val (.int (2 : Int32)), .val (.int (dB + (1 : Int32))), .val (.ref a3), .val (.int (1 : Int32)), .val (.int (0 : Int32)), .val (.int r51), .unset, .unset, .unset, .unset, .unset, .unset, .unset] [])) t
          refine XS.iload Y19.here hx rfl (hb hby at_61) rfl ?_
          show Steps p.tables e below (T18.setTop (mkF m 63 #[.val (.int p0), .val (.int p1), .val (.int p2), .val (.int (2 : Int32)), .val (.int (dB + (1 : Int32))), .val (.ref a3), .val (.int (1 : Int32)), .val (.int (0 : Int32)), .val (.int r51), .unset, .unset, .unset, .unset, .unset, .unset, .unset] [(.int r51)])) t
          refine XS.iconst Y19.here hx rfl (hb hby at_63) ?_
          show Steps p.tables e below (T18.setTop (mkF m 64 #[.val (.int p0), .val (.int p1), .val (.int p2), .val (.int (2 : Int32)), .val (.int (dB + (1 : Int32))), .val (.ref a3), .val (.int (1 : Int32)), .val (.int (0 : Int32)), .val (.int r51), .unset, .unset, .unset, .unset, .unset, .unset, .unset] [(.int (1 : Int32)), (.int r51)])) t
          exact k
        refine Rn.go (T' := T18) (g' := (mkF m 67 #[.val (.int p0), .val (.int p1), .val (.int p2), .val (.int (2 : Int32)), .val (.int (dB + (1 : Int32))), .val (.ref a3), .val (.int (1 : Int32)), .val (.int (0 : Int32)), .val (.int r51), .unset, .unset, .unset, .unset, .unset, .unset, .unset] [])) (fun t k => XS.icmpNo Y19.here hx rfl (hb hby at_64) rfl (teq (by rw [hr51]; decide)).2 k) ?_
        refine Rn.go (T' := T18) (g' := (mkF m 111 #[.val (.int p0), .val (.int p1), .val (.int p2), .val (.int (2 : Int32)), .val (.int (dB + (1 : Int32))), .val (.ref a3), .val (.int (1 : Int32)), .val (.int (1 : Int32)), .val (.int r51), .unset, .unset, .unset, .unset, .unset, .unset, .unset] [(.int (3 : Int32)), (.int (2 : Int32))])) (fun t k => ?_) ?_
        · show Steps p.tables e below (T18.setTop (mkF m 67 #[.val (.int p0), .val (.int p1), .val (.int p2), .val (.int (2 : Int32)), .val (.int (dB + (1 : Int32))), .val (.ref a3), .val (.int (1 : Int32)), .val (.int (0 : Int32)), .val (.int r51), .unset, .unset, .unset, .unset, .unset, .unset, .unset] [])) t
          refine XS.iconst Y19.here hx rfl (hb hby at_67) ?_
          show Steps p.tables e below (T18.setTop (mkF m 68 #[.val (.int p0), .val (.int p1), .val (.int p2), .val (.int (2 : Int32)), .val (.int (dB + (1 : Int32))), .val (.ref a3), .val (.int (1 : Int32)), .val (.int (0 : Int32)), .val (.int r51), .unset, .unset, .unset, .unset, .unset, .unset, .unset] [(.int (1 : Int32))])) t
          refine XS.goto Y19.here hx rfl (pc0 := 68) (pc' := 72) rfl (hb hby at_68) (by decide) (by decide) ?_
          show Steps p.tables e below (T18.setTop (mkF m 72 #[.val (.int p0), .val (.int p1), .val (.int p2), .val (.int (2 : Int32)), .val (.int (dB + (1 : Int32))), .val (.ref a3), .val (.int (1 : Int32)), .val (.int (0 : Int32)), .val (.int r51), .unset, .unset, .unset, .unset, .unset, .unset, .unset] [(.int (1 : Int32))])) t
          refine XS.istore Y19.here hx rfl (hb hby at_72) rfl (l' := #[.val (.int p0), .val (.int p1), .val (.int p2), .val (.int (2 : Int32)), .val (.int (dB + (1 : Int32))), .val (.ref a3), .val (.int (1 : Int32)), .val (.int (0 : Int32)), .val (.int r51), .unset, .unset, .unset, .unset, .unset, .unset, .unset]) rfl ?_
          show Steps p.tables e below (T18.setTop (mkF m 74 #[.val (.int p0), .val (.int p1), .val (.int p2), .val (.int (2 : Int32)), .val (.int (dB + (1 : Int32))), .val (.ref a3), .val (.int (1 : Int32)), .val (.int (0 : Int32)), .val (.int r51), .unset, .unset, .unset, .unset, .unset, .unset, .unset] [])) t
          refine XS.iconst Y19.here hx rfl (hb hby at_74) ?_
          show Steps p.tables e below (T18.setTop (mkF m 75 #[.val (.int p0), .val (.int p1), .val (.int p2), .val (.int (2 : Int32)), .val (.int (dB + (1 : Int32))), .val (.ref a3), .val (.int (1 : Int32)), .val (.int (0 : Int32)), .val (.int r51), .unset, .unset, .unset, .unset, .unset, .unset, .unset] [(.int (1 : Int32))])) t
          refine XS.istore Y19.here hx rfl (hb hby at_75) rfl (l' := #[.val (.int p0), .val (.int p1), .val (.int p2), .val (.int (2 : Int32)), .val (.int (dB + (1 : Int32))), .val (.ref a3), .val (.int (1 : Int32)), .val (.int (1 : Int32)), .val (.int r51), .unset, .unset, .unset, .unset, .unset, .unset, .unset]) rfl ?_
          show Steps p.tables e below (T18.setTop (mkF m 77 #[.val (.int p0), .val (.int p1), .val (.int p2), .val (.int (2 : Int32)), .val (.int (dB + (1 : Int32))), .val (.ref a3), .val (.int (1 : Int32)), .val (.int (1 : Int32)), .val (.int r51), .unset, .unset, .unset, .unset, .unset, .unset, .unset] [])) t
          refine XS.goto Y19.here hx rfl (pc0 := 77) (pc' := 109) rfl (hb hby at_77) (by decide) (by decide) ?_
          show Steps p.tables e below (T18.setTop (mkF m 109 #[.val (.int p0), .val (.int p1), .val (.int p2), .val (.int (2 : Int32)), .val (.int (dB + (1 : Int32))), .val (.ref a3), .val (.int (1 : Int32)), .val (.int (1 : Int32)), .val (.int r51), .unset, .unset, .unset, .unset, .unset, .unset, .unset] [])) t
          refine XS.iloadN Y19.here hx rfl (hb hby at_109) rfl ?_
          show Steps p.tables e below (T18.setTop (mkF m 110 #[.val (.int p0), .val (.int p1), .val (.int p2), .val (.int (2 : Int32)), .val (.int (dB + (1 : Int32))), .val (.ref a3), .val (.int (1 : Int32)), .val (.int (1 : Int32)), .val (.int r51), .unset, .unset, .unset, .unset, .unset, .unset, .unset] [(.int (2 : Int32))])) t
          refine XS.iconst Y19.here hx rfl (hb hby at_110) ?_
          show Steps p.tables e below (T18.setTop (mkF m 111 #[.val (.int p0), .val (.int p1), .val (.int p2), .val (.int (2 : Int32)), .val (.int (dB + (1 : Int32))), .val (.ref a3), .val (.int (1 : Int32)), .val (.int (1 : Int32)), .val (.int r51), .unset, .unset, .unset, .unset, .unset, .unset, .unset] [(.int (3 : Int32)), (.int (2 : Int32))])) t
          exact k
        refine Rn.go (T' := T18) (g' := (mkF m 162 #[.val (.int p0), .val (.int p1), .val (.int p2), .val (.int (2 : Int32)), .val (.int (dB + (1 : Int32))), .val (.ref a3), .val (.int (1 : Int32)), .val (.int (1 : Int32)), .val (.int r51), .unset, .unset, .unset, .unset, .unset, .unset, .unset] [])) (fun t k => XS.icmpYes Y19.here hx rfl (pc0 := 111) (pc' := 162) rfl (hb hby at_111) rfl (feq (by decide)).2 (by decide) (by decide) k) ?_
        refine Rn.go (T' := T18) (g' := (mkF m 165 #[.val (.int p0), .val (.int p1), .val (.int p2), .val (.int (2 : Int32)), .val (.int (dB + (1 : Int32))), .val (.ref a3), .val (.int (1 : Int32)), .val (.int (1 : Int32)), .val (.int (3 : Int32)), .unset, .unset, .unset, .unset, .unset, .unset, .unset] [])) (fun t k => ?_) ?_
        · show Steps p.tables e below (T18.setTop (mkF m 162 #[.val (.int p0), .val (.int p1), .val (.int p2), .val (.int (2 : Int32)), .val (.int (dB + (1 : Int32))), .val (.ref a3), .val (.int (1 : Int32)), .val (.int (1 : Int32)), .val (.int r51), .unset, .unset, .unset, .unset, .unset, .unset, .unset] [])) t
          refine XS.iconst Y19.here hx rfl (hb hby at_162) ?_
          show Steps p.tables e below (T18.setTop (mkF m 163 #[.val (.int p0), .val (.int p1), .val (.int p2), .val (.int (2 : Int32)), .val (.int (dB + (1 : Int32))), .val (.ref a3), .val (.int (1 : Int32)), .val (.int (1 : Int32)), .val (.int r51), .unset, .unset, .unset, .unset, .unset, .unset, .unset] [(.int (3 : Int32))])) t
          refine XS.istore Y19.here hx rfl (hb hby at_163) rfl (l' := #[.val (.int p0), .val (.int p1), .val (.int p2), .val (.int (2 : Int32)), .val (.int (dB + (1 : Int32))), .val (.ref a3), .val (.int (1 : Int32)), .val (.int (1 : Int32)), .val (.int (3 : Int32)), .unset, .unset, .unset, .unset, .unset, .unset, .unset]) rfl ?_
          show Steps p.tables e below (T18.setTop (mkF m 165 #[.val (.int p0), .val (.int p1), .val (.int p2), .val (.int (2 : Int32)), .val (.int (dB + (1 : Int32))), .val (.ref a3), .val (.int (1 : Int32)), .val (.int (1 : Int32)), .val (.int (3 : Int32)), .unset, .unset, .unset, .unset, .unset, .unset, .unset] [])) t
          exact k
        exact HJ165 _ (2 : Int32) _ (by decide) (by decide) (by decide) (by rw [(by decide : own_P (2 : Int32) (0 : Int32) = (own_pn [(0 : Int32), (1 : Int32), (2 : Int32), (3 : Int32), (4 : Int32), (5 : Int32)] [(1 : Int32), (1 : Int32), (1 : Int32), (1 : Int32), (1 : Int32), (1 : Int32)] (1 : Int32) (0 : Int32))), (by decide : own_S (2 : Int32) (0 : Int32) = (own_sn [(1 : Int32), (1 : Int32), (1 : Int32), (1 : Int32), (1 : Int32), (1 : Int32)] (1 : Int32) (0 : Int32)))]; exact Y19)
    · subst edA
      show Rn p e below F T4 (mkF m 36 #[.val (.int p0), .val (.int p1), .val (.int p2), .val (.int (3 : Int32)), .val (.int (dB + (1 : Int32))), .val (.ref a3), .val (.int (1 : Int32)), .val (.int (0 : Int32)), .unset, .unset, .unset, .unset, .unset, .unset, .unset, .unset] [])
      refine Rn.go (T' := T4) (g' := (mkF m 38 #[.val (.int p0), .val (.int p1), .val (.int p2), .val (.int (3 : Int32)), .val (.int (dB + (1 : Int32))), .val (.ref a3), .val (.int (1 : Int32)), .val (.int (0 : Int32)), .unset, .unset, .unset, .unset, .unset, .unset, .unset, .unset] [(.int (2 : Int32)), (.int (3 : Int32))])) (fun t k => ?_) ?_
      · show Steps p.tables e below (T4.setTop (mkF m 36 #[.val (.int p0), .val (.int p1), .val (.int p2), .val (.int (3 : Int32)), .val (.int (dB + (1 : Int32))), .val (.ref a3), .val (.int (1 : Int32)), .val (.int (0 : Int32)), .unset, .unset, .unset, .unset, .unset, .unset, .unset, .unset] [])) t
        refine XS.iloadN Y5.here hx rfl (hb hby at_36) rfl ?_
        show Steps p.tables e below (T4.setTop (mkF m 37 #[.val (.int p0), .val (.int p1), .val (.int p2), .val (.int (3 : Int32)), .val (.int (dB + (1 : Int32))), .val (.ref a3), .val (.int (1 : Int32)), .val (.int (0 : Int32)), .unset, .unset, .unset, .unset, .unset, .unset, .unset, .unset] [(.int (3 : Int32))])) t
        refine XS.iconst Y5.here hx rfl (hb hby at_37) ?_
        show Steps p.tables e below (T4.setTop (mkF m 38 #[.val (.int p0), .val (.int p1), .val (.int p2), .val (.int (3 : Int32)), .val (.int (dB + (1 : Int32))), .val (.ref a3), .val (.int (1 : Int32)), .val (.int (0 : Int32)), .unset, .unset, .unset, .unset, .unset, .unset, .unset, .unset] [(.int (2 : Int32)), (.int (3 : Int32))])) t
        exact k
      refine Rn.go (T' := T4) (g' := (mkF m 41 #[.val (.int p0), .val (.int p1), .val (.int p2), .val (.int (3 : Int32)), .val (.int (dB + (1 : Int32))), .val (.ref a3), .val (.int (1 : Int32)), .val (.int (0 : Int32)), .unset, .unset, .unset, .unset, .unset, .unset, .unset, .unset] [])) (fun t k => XS.icmpNo Y5.here hx rfl (hb hby at_38) rfl (flt (by decide)).1 k) ?_
      refine Rn.go (T' := T4) (g' := (mkF m 44 #[.val (.int p0), .val (.int p1), .val (.int p2), .val (.int (3 : Int32)), .val (.int (dB + (1 : Int32))), .val (.ref a3), .val (.int (1 : Int32)), .val (.int (0 : Int32)), .unset, .unset, .unset, .unset, .unset, .unset, .unset, .unset] [(.int (p2 &&& (1 : Int32)))])) (fun t k => ?_) ?_
      · show Steps p.tables e below (T4.setTop (mkF m 41 #[.val (.int p0), .val (.int p1), .val (.int p2), .val (.int (3 : Int32)), .val (.int (dB + (1 : Int32))), .val (.ref a3), .val (.int (1 : Int32)), .val (.int (0 : Int32)), .unset, .unset, .unset, .unset, .unset, .unset, .unset, .unset] [])) t
        refine XS.iloadN Y5.here hx rfl (hb hby at_41) rfl ?_
        show Steps p.tables e below (T4.setTop (mkF m 42 #[.val (.int p0), .val (.int p1), .val (.int p2), .val (.int (3 : Int32)), .val (.int (dB + (1 : Int32))), .val (.ref a3), .val (.int (1 : Int32)), .val (.int (0 : Int32)), .unset, .unset, .unset, .unset, .unset, .unset, .unset, .unset] [(.int p2)])) t
        refine XS.iconst Y5.here hx rfl (hb hby at_42) ?_
        show Steps p.tables e below (T4.setTop (mkF m 43 #[.val (.int p0), .val (.int p1), .val (.int p2), .val (.int (3 : Int32)), .val (.int (dB + (1 : Int32))), .val (.ref a3), .val (.int (1 : Int32)), .val (.int (0 : Int32)), .unset, .unset, .unset, .unset, .unset, .unset, .unset, .unset] [(.int (1 : Int32)), (.int p2)])) t
        refine XS.iand Y5.here hx rfl (hb hby at_43) rfl ?_
        show Steps p.tables e below (T4.setTop (mkF m 44 #[.val (.int p0), .val (.int p1), .val (.int p2), .val (.int (3 : Int32)), .val (.int (dB + (1 : Int32))), .val (.ref a3), .val (.int (1 : Int32)), .val (.int (0 : Int32)), .unset, .unset, .unset, .unset, .unset, .unset, .unset, .unset] [(.int (p2 &&& (1 : Int32)))])) t
        exact k
      by_cases hc44 : (p2 &&& (1 : Int32)) = (0 : Int32)
      · refine Rn.go (T' := T4) (g' := (mkF m 80 #[.val (.int p0), .val (.int p1), .val (.int p2), .val (.int (3 : Int32)), .val (.int (dB + (1 : Int32))), .val (.ref a3), .val (.int (1 : Int32)), .val (.int (0 : Int32)), .unset, .unset, .unset, .unset, .unset, .unset, .unset, .unset] [])) (fun t k => XS.ifYes Y5.here hx rfl (pc0 := 44) (pc' := 80) rfl (hb hby at_44) rfl ((if0 _ _).trans (teq hc44).1) (by decide) (by decide) k) ?_
        refine Rn.go (T' := T4) (g' := (mkF m 84 #[.val (.int p0), .val (.int p1), .val (.int p2), .val (.int (3 : Int32)), .val (.int (dB + (1 : Int32))), .val (.ref a3), .val (.int (1 : Int32)), .val (.int (0 : Int32)), .unset, .unset, .unset, .unset, .unset, .unset, .unset, .unset] [(.int (1 : Int32)), (.int (0 : Int32)), (.ref a3)])) (fun t k => ?_) ?_
        · show Steps p.tables e below (T4.setTop (mkF m 80 #[.val (.int p0), .val (.int p1), .val (.int p2), .val (.int (3 : Int32)), .val (.int (dB + (1 : Int32))), .val (.ref a3), .val (.int (1 : Int32)), .val (.int (0 : Int32)), .unset, .unset, .unset, .unset, .unset, .unset, .unset, .unset] [])) t
          refine XS.aload Y5.here hx rfl (hb hby at_80) rfl rfl ?_
          show Steps p.tables e below (T4.setTop (mkF m 82 #[.val (.int p0), .val (.int p1), .val (.int p2), .val (.int (3 : Int32)), .val (.int (dB + (1 : Int32))), .val (.ref a3), .val (.int (1 : Int32)), .val (.int (0 : Int32)), .unset, .unset, .unset, .unset, .unset, .unset, .unset, .unset] [(.ref a3)])) t
          refine XS.iconst Y5.here hx rfl (hb hby at_82) ?_
          show Steps p.tables e below (T4.setTop (mkF m 83 #[.val (.int p0), .val (.int p1), .val (.int p2), .val (.int (3 : Int32)), .val (.int (dB + (1 : Int32))), .val (.ref a3), .val (.int (1 : Int32)), .val (.int (0 : Int32)), .unset, .unset, .unset, .unset, .unset, .unset, .unset, .unset] [(.int (0 : Int32)), (.ref a3)])) t
          refine XS.iconst Y5.here hx rfl (hb hby at_83) ?_
          show Steps p.tables e below (T4.setTop (mkF m 84 #[.val (.int p0), .val (.int p1), .val (.int p2), .val (.int (3 : Int32)), .val (.int (dB + (1 : Int32))), .val (.ref a3), .val (.int (1 : Int32)), .val (.int (0 : Int32)), .unset, .unset, .unset, .unset, .unset, .unset, .unset, .unset] [(.int (1 : Int32)), (.int (0 : Int32)), (.ref a3)])) t
          exact k
        refine On.virtual Y5 hx hZ (y := (⟨"com/example/arborplan/arborplan/tree/DisjointSets", "union", "(II)I"⟩ : MethodName)) (C := "com/example/arborplan/arborplan/tree/DisjointSets") hown (w15 hw) (w16 hw) (w17 hw) (w18 hw) (w19 hw) (w3 hw) (by decide) (a := a3) (argsL := [(.int (0 : Int32)), (.int (1 : Int32))]) (rest := []) (i := 0) rfl (rm3 l Z a0 hw n0 a3 (0 : Int32) (1 : Int32) a9 a10 [(0 : Int32), (1 : Int32), (2 : Int32), (3 : Int32), (4 : Int32), (5 : Int32)] [(1 : Int32), (1 : Int32), (1 : Int32), (1 : Int32), (1 : Int32), (1 : Int32)] [] (by decide) (by decide) (by decide) (by decide) (by decide) (by decide)) (W := 0) (by decide) (by decide) (by decide) (by decide) (g := (mkF m 84 #[.val (.int p0), .val (.int p1), .val (.int p2), .val (.int (3 : Int32)), .val (.int (dB + (1 : Int32))), .val (.ref a3), .val (.int (1 : Int32)), .val (.int (0 : Int32)), .unset, .unset, .unset, .unset, .unset, .unset, .unset, .unset] [(.int (1 : Int32)), (.int (0 : Int32)), (.ref a3)])) rfl (by rw [hml]; rfl) (lenOf pd1 rfl) rfl (by show 2 * 0 + _ ≤ _; exact Nat.le_of_eq rfl) (hb hby at_84) ?_
        intro T23 u25 D26 hp27 Y24
        obtain ⟨r84, hr84, rfl, rfl⟩ : ∃ z : Int32, z = (own_ro [(1 : Int32), (1 : Int32), (1 : Int32), (1 : Int32), (1 : Int32), (1 : Int32)] (0 : Int32) (1 : Int32)) ∧ u25 = some (.int z) ∧ D26 = _ := ⟨_, rfl, hp27.1, hp27.2⟩
        replace Y24 : On p l e _ s m _ below meth c Z n0 T23 3 14 [ob a3 own_C0 (own_F0 (.ref a9) (.ref a10)), ari a9 .int (6 : Int32) (own_pn [(0 : Int32), (1 : Int32), (2 : Int32), (3 : Int32), (4 : Int32), (5 : Int32)] [(1 : Int32), (1 : Int32), (1 : Int32), (1 : Int32), (1 : Int32), (1 : Int32)] (0 : Int32) (1 : Int32)), ari a10 .int (6 : Int32) (own_sn [(1 : Int32), (1 : Int32), (1 : Int32), (1 : Int32), (1 : Int32), (1 : Int32)] (0 : Int32) (1 : Int32))] := Y24
        show Rn p e below F T23 (mkF m 87 #[.val (.int p0), .val (.int p1), .val (.int p2), .val (.int (3 : Int32)), .val (.int (dB + (1 : Int32))), .val (.ref a3), .val (.int (1 : Int32)), .val (.int (0 : Int32)), .unset, .unset, .unset, .unset, .unset, .unset, .unset, .unset] [(.int r84)])
        refine Rn.go (T' := T23) (g' := (mkF m 91 #[.val (.int p0), .val (.int p1), .val (.int p2), .val (.int (3 : Int32)), .val (.int (dB + (1 : Int32))), .val (.ref a3), .val (.int (1 : Int32)), .val (.int (0 : Int32)), .val (.int r84), .unset, .unset, .unset, .unset, .unset, .unset, .unset] [(.int (1 : Int32))])) (fun t k => ?_) ?_
        · show Steps p.tables e below (T23.setTop (mkF m 87 #[.val (.int p0), .val (.int p1), .val (.int p2), .val (.int (3 : Int32)), .val (.int (dB + (1 : Int32))), .val (.ref a3), .val (.int (1 : Int32)), .val (.int (0 : Int32)), .unset, .unset, .unset, .unset, .unset, .unset, .unset, .unset] [(.int r84)])) t
          refine XS.istore Y24.here hx rfl (hb hby at_87) rfl (l' := #[.val (.int p0), .val (.int p1), .val (.int p2), .val (.int (3 : Int32)), .val (.int (dB + (1 : Int32))), .val (.ref a3), .val (.int (1 : Int32)), .val (.int (0 : Int32)), .val (.int r84), .unset, .unset, .unset, .unset, .unset, .unset, .unset]) rfl ?_
          show Steps p.tables e below (T23.setTop (mkF m 89 #[.val (.int p0), .val (.int p1), .val (.int p2), .val (.int (3 : Int32)), .val (.int (dB + (1 : Int32))), .val (.ref a3), .val (.int (1 : Int32)), .val (.int (0 : Int32)), .val (.int r84), .unset, .unset, .unset, .unset, .unset, .unset, .unset] [])) t
          refine XS.iload Y24.here hx rfl (hb hby at_89) rfl ?_
          show Steps p.tables e below (T23.setTop (mkF m 91 #[.val (.int p0), .val (.int p1), .val (.int p2), .val (.int (3 : Int32)), .val (.int (dB + (1 : Int32))), .val (.ref a3), .val (.int (1 : Int32)), .val (.int (0 : Int32)), .val (.int r84), .unset, .unset, .unset, .unset, .unset, .unset, .unset] [(.int (1 : Int32))])) t
          exact k
        refine Rn.go (T' := T23) (g' := (mkF m 94 #[.val (.int p0), .val (.int p1), .val (.int p2), .val (.int (3 : Int32)), .val (.int (dB + (1 : Int32))), .val (.ref a3), .val (.int (1 : Int32)), .val (.int (0 : Int32)), .val (.int r84), .unset, .unset, .unset, .unset, .unset, .unset, .unset] [])) (fun t k => XS.ifNo Y24.here hx rfl (hb hby at_91) rfl ((if0 _ _).trans (feq (by decide)).1) k) ?_
        refine Rn.go (T' := T23) (g' := (mkF m 96 #[.val (.int p0), .val (.int p1), .val (.int p2), .val (.int (3 : Int32)), .val (.int (dB + (1 : Int32))), .val (.ref a3), .val (.int (1 : Int32)), .val (.int (0 : Int32)), .val (.int r84), .unset, .unset, .unset, .unset, .unset, .unset, .unset] [(.int r84)])) (fun t k => ?_) ?_
        · show Steps p.tables e below (T23.setTop (mkF m 94 #[.val (.int p0), .val (.int p1), .val (.int p2), .val (.int (3 : Int32)), .val (.int (dB + (1 : Int32))), .val (.ref a3), .val (.int (1 : Int32)), .val (.int (0 : Int32)), .val (.int r84), .unset, .unset, .unset, .unset, .unset, .unset, .unset] [])) t
          refine XS.iload Y24.here hx rfl (hb hby at_94) rfl ?_
          show Steps p.tables e below (T23.setTop (mkF m 96 #[.val (.int p0), .val (.int p1), .val (.int p2), .val (.int (3 : Int32)), .val (.int (dB + (1 : Int32))), .val (.ref a3), .val (.int (1 : Int32)), .val (.int (0 : Int32)), .val (.int r84), .unset, .unset, .unset, .unset, .unset, .unset, .unset] [(.int r84)])) t
          exact k
        refine Rn.go (T' := T23) (g' := (mkF m 99 #[.val (.int p0), .val (.int p1), .val (.int p2), .val (.int (3 : Int32)), .val (.int (dB + (1 : Int32))), .val (.ref a3), .val (.int (1 : Int32)), .val (.int (0 : Int32)), .val (.int r84), .unset, .unset, .unset, .unset, .unset, .unset, .unset] [])) (fun t k => XS.ifNo Y24.here hx rfl (hb hby at_96) rfl ((if0 _ _).trans (teq (by rw [hr84]; decide)).2) k) ?_
        refine Rn.go (T' := T23) (g' := (mkF m 111 #[.val (.int p0), .val (.int p1), .val (.int p2), .val (.int (3 : Int32)), .val (.int (dB + (1 : Int32))), .val (.ref a3), .val (.int (1 : Int32)), .val (.int (0 : Int32)), .val (.int r84), .unset, .unset, .unset, .unset, .unset, .unset, .unset] [(.int (3 : Int32)), (.int (3 : Int32))])) (fun t k => ?_) ?_
        · show Steps p.tables e below (T23.setTop (mkF m 99 #[.val (.int p0), .val (.int p1), .val (.int p2), .val (.int (3 : Int32)), .val (.int (dB + (1 : Int32))), .val (.ref a3), .val (.int (1 : Int32)), .val (.int (0 : Int32)), .val (.int r84), .unset, .unset, .unset, .unset, .unset, .unset, .unset] [])) t
          refine XS.iconst Y24.here hx rfl (hb hby at_99) ?_
          show Steps p.tables e below (T23.setTop (mkF m 100 #[.val (.int p0), .val (.int p1), .val (.int p2), .val (.int (3 : Int32)), .val (.int (dB + (1 : Int32))), .val (.ref a3), .val (.int (1 : Int32)), .val (.int (0 : Int32)), .val (.int r84), .unset, .unset, .unset, .unset, .unset, .unset, .unset] [(.int (1 : Int32))])) t
          refine XS.goto Y24.here hx rfl (pc0 := 100) (pc' := 104) rfl (hb hby at_100) (by decide) (by decide) ?_
          show Steps p.tables e below (T23.setTop (mkF m 104 #[.val (.int p0), .val (.int p1), .val (.int p2), .val (.int (3 : Int32)), .val (.int (dB + (1 : Int32))), .val (.ref a3), .val (.int (1 : Int32)), .val (.int (0 : Int32)), .val (.int r84), .unset, .unset, .unset, .unset, .unset, .unset, .unset] [(.int (1 : Int32))])) t
          refine XS.istore Y24.here hx rfl (hb hby at_104) rfl (l' := #[.val (.int p0), .val (.int p1), .val (.int p2), .val (.int (3 : Int32)), .val (.int (dB + (1 : Int32))), .val (.ref a3), .val (.int (1 : Int32)), .val (.int (0 : Int32)), .val (.int r84), .unset, .unset, .unset, .unset, .unset, .unset, .unset]) rfl ?_
          show Steps p.tables e below (T23.setTop (mkF m 106 #[.val (.int p0), .val (.int p1), .val (.int p2), .val (.int (3 : Int32)), .val (.int (dB + (1 : Int32))), .val (.ref a3), .val (.int (1 : Int32)), .val (.int (0 : Int32)), .val (.int r84), .unset, .unset, .unset, .unset, .unset, .unset, .unset] [])) t
          refine XS.iconst Y24.here hx rfl (hb hby at_106) ?_
          show Steps p.tables e below (T23.setTop (mkF m 107 #[.val (.int p0), .val (.int p1), .val (.int p2), .val (.int (3 : Int32)), .val (.int (dB + (1 : Int32))), .val (.ref a3), .val (.int (1 : Int32)), .val (.int (0 : Int32)), .val (.int r84), .unset, .unset, .unset, .unset, .unset, .unset, .unset] [(.int (0 : Int32))])) t
          refine XS.istore Y24.here hx rfl (hb hby at_107) rfl (l' := #[.val (.int p0), .val (.int p1), .val (.int p2), .val (.int (3 : Int32)), .val (.int (dB + (1 : Int32))), .val (.ref a3), .val (.int (1 : Int32)), .val (.int (0 : Int32)), .val (.int r84), .unset, .unset, .unset, .unset, .unset, .unset, .unset]) rfl ?_
          show Steps p.tables e below (T23.setTop (mkF m 109 #[.val (.int p0), .val (.int p1), .val (.int p2), .val (.int (3 : Int32)), .val (.int (dB + (1 : Int32))), .val (.ref a3), .val (.int (1 : Int32)), .val (.int (0 : Int32)), .val (.int r84), .unset, .unset, .unset, .unset, .unset, .unset, .unset] [])) t
          refine XS.iloadN Y24.here hx rfl (hb hby at_109) rfl ?_
          show Steps p.tables e below (T23.setTop (mkF m 110 #[.val (.int p0), .val (.int p1), .val (.int p2), .val (.int (3 : Int32)), .val (.int (dB + (1 : Int32))), .val (.ref a3), .val (.int (1 : Int32)), .val (.int (0 : Int32)), .val (.int r84), .unset, .unset, .unset, .unset, .unset, .unset, .unset] [(.int (3 : Int32))])) t
          refine XS.iconst Y24.here hx rfl (hb hby at_110) ?_
          show Steps p.tables e below (T23.setTop (mkF m 111 #[.val (.int p0), .val (.int p1), .val (.int p2), .val (.int (3 : Int32)), .val (.int (dB + (1 : Int32))), .val (.ref a3), .val (.int (1 : Int32)), .val (.int (0 : Int32)), .val (.int r84), .unset, .unset, .unset, .unset, .unset, .unset, .unset] [(.int (3 : Int32)), (.int (3 : Int32))])) t
          exact k
        refine Rn.go (T' := T23) (g' := (mkF m 114 #[.val (.int p0), .val (.int p1), .val (.int p2), .val (.int (3 : Int32)), .val (.int (dB + (1 : Int32))), .val (.ref a3), .val (.int (1 : Int32)), .val (.int (0 : Int32)), .val (.int r84), .unset, .unset, .unset, .unset, .unset, .unset, .unset] [])) (fun t k => XS.icmpNo Y24.here hx rfl (hb hby at_111) rfl (teq (by decide)).2 k) ?_
        refine Rn.go (T' := T23) (g' := (mkF m 117 #[.val (.int p0), .val (.int p1), .val (.int p2), .val (.int (3 : Int32)), .val (.int (dB + (1 : Int32))), .val (.ref a3), .val (.int (1 : Int32)), .val (.int (0 : Int32)), .val (.int r84), .unset, .unset, .unset, .unset, .unset, .unset, .unset] [(.int (p2 &&& (2 : Int32)))])) (fun t k => ?_) ?_
        · show Steps p.tables e below (T23.setTop (mkF m 114 #[.val (.int p0), .val (.int p1), .val (.int p2), .val (.int (3 : Int32)), .val (.int (dB + (1 : Int32))), .val (.ref a3), .val (.int (1 : Int32)), .val (.int (0 : Int32)), .val (.int r84), .unset, .unset, .unset, .unset, .unset, .unset, .unset] [])) t
          refine XS.iloadN Y24.here hx rfl (hb hby at_114) rfl ?_
          show Steps p.tables e below (T23.setTop (mkF m 115 #[.val (.int p0), .val (.int p1), .val (.int p2), .val (.int (3 : Int32)), .val (.int (dB + (1 : Int32))), .val (.ref a3), .val (.int (1 : Int32)), .val (.int (0 : Int32)), .val (.int r84), .unset, .unset, .unset, .unset, .unset, .unset, .unset] [(.int p2)])) t
          refine XS.iconst Y24.here hx rfl (hb hby at_115) ?_
          show Steps p.tables e below (T23.setTop (mkF m 116 #[.val (.int p0), .val (.int p1), .val (.int p2), .val (.int (3 : Int32)), .val (.int (dB + (1 : Int32))), .val (.ref a3), .val (.int (1 : Int32)), .val (.int (0 : Int32)), .val (.int r84), .unset, .unset, .unset, .unset, .unset, .unset, .unset] [(.int (2 : Int32)), (.int p2)])) t
          refine XS.iand Y24.here hx rfl (hb hby at_116) rfl ?_
          show Steps p.tables e below (T23.setTop (mkF m 117 #[.val (.int p0), .val (.int p1), .val (.int p2), .val (.int (3 : Int32)), .val (.int (dB + (1 : Int32))), .val (.ref a3), .val (.int (1 : Int32)), .val (.int (0 : Int32)), .val (.int r84), .unset, .unset, .unset, .unset, .unset, .unset, .unset] [(.int (p2 &&& (2 : Int32)))])) t
          exact k
        by_cases hc117 : (p2 &&& (2 : Int32)) = (0 : Int32)
        · refine Rn.go (T' := T23) (g' := (mkF m 133 #[.val (.int p0), .val (.int p1), .val (.int p2), .val (.int (3 : Int32)), .val (.int (dB + (1 : Int32))), .val (.ref a3), .val (.int (1 : Int32)), .val (.int (0 : Int32)), .val (.int r84), .unset, .unset, .unset, .unset, .unset, .unset, .unset] [])) (fun t k => XS.ifYes Y24.here hx rfl (pc0 := 117) (pc' := 133) rfl (hb hby at_117) rfl ((if0 _ _).trans (teq hc117).1) (by decide) (by decide) k) ?_
          refine Rn.go (T' := T23) (g' := (mkF m 138 #[.val (.int p0), .val (.int p1), .val (.int p2), .val (.int (3 : Int32)), .val (.int (dB + (1 : Int32))), .val (.ref a3), .val (.int (1 : Int32)), .val (.int (0 : Int32)), .val (.int r84), .unset, .unset, .unset, .unset, .unset, .unset, .unset] [(.int (2 : Int32)), (.int (0 : Int32)), (.ref a3)])) (fun t k => ?_) ?_
          · show Steps p.tables e below (T23.setTop (mkF m 133 #[.val (.int p0), .val (.int p1), .val (.int p2), .val (.int (3 : Int32)), .val (.int (dB + (1 : Int32))), .val (.ref a3), .val (.int (1 : Int32)), .val (.int (0 : Int32)), .val (.int r84), .unset, .unset, .unset, .unset, .unset, .unset, .unset] [])) t
            refine XS.aload Y24.here hx rfl (hb hby at_133) rfl rfl ?_
            show Steps p.tables e below (T23.setTop (mkF m 135 #[.val (.int p0), .val (.int p1), .val (.int p2), .val (.int (3 : Int32)), .val (.int (dB + (1 : Int32))), .val (.ref a3), .val (.int (1 : Int32)), .val (.int (0 : Int32)), .val (.int r84), .unset, .unset, .unset, .unset, .unset, .unset, .unset] [(.ref a3)])) t
            refine XS.iload Y24.here hx rfl (hb hby at_135) rfl ?_
            show Steps p.tables e below (T23.setTop (mkF m 137 #[.val (.int p0), .val (.int p1), .val (.int p2), .val (.int (3 : Int32)), .val (.int (dB + (1 : Int32))), .val (.ref a3), .val (.int (1 : Int32)), .val (.int (0 : Int32)), .val (.int r84), .unset, .unset, .unset, .unset, .unset, .unset, .unset] [(.int (0 : Int32)), (.ref a3)])) t
            refine XS.iconst Y24.here hx rfl (hb hby at_137) ?_
            show Steps p.tables e below (T23.setTop (mkF m 138 #[.val (.int p0), .val (.int p1), .val (.int p2), .val (.int (3 : Int32)), .val (.int (dB + (1 : Int32))), .val (.ref a3), .val (.int (1 : Int32)), .val (.int (0 : Int32)), .val (.int r84), .unset, .unset, .unset, .unset, .unset, .unset, .unset] [(.int (2 : Int32)), (.int (0 : Int32)), (.ref a3)])) t
            exact k
          refine On.virtual Y24 hx hZ (y := (⟨"com/example/arborplan/arborplan/tree/DisjointSets", "union", "(II)I"⟩ : MethodName)) (C := "com/example/arborplan/arborplan/tree/DisjointSets") hown (w15 hw) (w16 hw) (w17 hw) (w18 hw) (w19 hw) (w3 hw) (by decide) (a := a3) (argsL := [(.int (0 : Int32)), (.int (2 : Int32))]) (rest := []) (i := 0) rfl (rm3 l Z a0 hw n0 a3 (0 : Int32) (2 : Int32) a9 a10 (own_pn [(0 : Int32), (1 : Int32), (2 : Int32), (3 : Int32), (4 : Int32), (5 : Int32)] [(1 : Int32), (1 : Int32), (1 : Int32), (1 : Int32), (1 : Int32), (1 : Int32)] (0 : Int32) (1 : Int32)) (own_sn [(1 : Int32), (1 : Int32), (1 : Int32), (1 : Int32), (1 : Int32), (1 : Int32)] (0 : Int32) (1 : Int32)) [] (by decide) (by decide) (by decide) (by decide) (by decide) (by decide)) (W := 0) (by decide) (by decide) (by decide) (by decide) (g := (mkF m 138 #[.val (.int p0), .val (.int p1), .val (.int p2), .val (.int (3 : Int32)), .val (.int (dB + (1 : Int32))), .val (.ref a3), .val (.int (1 : Int32)), .val (.int (0 : Int32)), .val (.int r84), .unset, .unset, .unset, .unset, .unset, .unset, .unset] [(.int (2 : Int32)), (.int (0 : Int32)), (.ref a3)])) rfl (by rw [hml]; rfl) (lenOf pd1 rfl) rfl (by show 2 * 0 + _ ≤ _; exact Nat.le_of_eq rfl) (hb hby at_138) ?_
          intro T28 u30 D31 hp32 Y29
          obtain ⟨r138, hr138, rfl, rfl⟩ : ∃ z : Int32, z = (own_ro (own_sn [(1 : Int32), (1 : Int32), (1 : Int32), (1 : Int32), (1 : Int32), (1 : Int32)] (0 : Int32) (1 : Int32)) (0 : Int32) (2 : Int32)) ∧ u30 = some (.int z) ∧ D31 = _ := ⟨_, rfl, hp32.1, hp32.2⟩
          replace Y29 : On p l e _ s m _ below meth c Z n0 T28 3 14 [ob a3 own_C0 (own_F0 (.ref a9) (.ref a10)), ari a9 .int (6 : Int32) (own_pn (own_pn [(0 : Int32), (1 : Int32), (2 : Int32), (3 : Int32), (4 : Int32), (5 : Int32)] [(1 : Int32), (1 : Int32), (1 : Int32), (1 : Int32), (1 : Int32), (1 : Int32)] (0 : Int32) (1 : Int32)) (own_sn [(1 : Int32), (1 : Int32), (1 : Int32), (1 : Int32), (1 : Int32), (1 : Int32)] (0 : Int32) (1 : Int32)) (0 : Int32) (2 : Int32)), ari a10 .int (6 : Int32) (own_sn (own_sn [(1 : Int32), (1 : Int32), (1 : Int32), (1 : Int32), (1 : Int32), (1 : Int32)] (0 : Int32) (1 : Int32)) (0 : Int32) (2 : Int32))] := Y29
          show Rn p e below F T28 (mkF m 141 #[.val (.int p0), .val (.int p1), .val (.int p2), .val (.int (3 : Int32)), .val (.int (dB + (1 : Int32))), .val (.ref a3), .val (.int (1 : Int32)), .val (.int (0 : Int32)), .val (.int r84), .unset, .unset, .unset, .unset, .unset, .unset, .unset] [(.int r138)])
          refine Rn.go (T' := T28) (g' := (mkF m 145 #[.val (.int p0), .val (.int p1), .val (.int p2), .val (.int (3 : Int32)), .val (.int (dB + (1 : Int32))), .val (.ref a3), .val (.int (1 : Int32)), .val (.int (0 : Int32)), .val (.int r138), .unset, .unset, .unset, .unset, .unset, .unset, .unset] [(.int (1 : Int32))])) (fun t k => ?_) ?_
          · show Steps p.tables e below (T28.setTop (mkF m 141 #[.val (.int p0), .val (.int p1), .val (.int p2), .val (.int (3 : Int32)), .val (.int (dB + (1 : Int32))), .val (.ref a3), .val (.int (1 : Int32)), .val (.int (0 : Int32)), .val (.int r84), .unset, .unset, .unset, .unset, .unset, .unset, .unset] [(.int r138)])) t
            refine XS.istore Y29.here hx rfl (hb hby at_141) rfl (l' := #[.val (.int p0), .val (.int p1), .val (.int p2), .val (.int (3 : Int32)), .val (.int (dB + (1 : Int32))), .val (.ref a3), .val (.int (1 : Int32)), .val (.int (0 : Int32)), .val (.int r138), .unset, .unset, .unset, .unset, .unset, .unset, .unset]) rfl ?_
            show Steps p.tables e below (T28.setTop (mkF m 143 #[.val (.int p0), .val (.int p1), .val (.int p2), .val (.int (3 : Int32)), .val (.int (dB + (1 : Int32))), .val (.ref a3), .val (.int (1 : Int32)), .val (.int (0 : Int32)), .val (.int r138), .unset, .unset, .unset, .unset, .unset, .unset, .unset] [])) t
            refine XS.iload Y29.here hx rfl (hb hby at_143) rfl ?_
            show Steps p.tables e below (T28.setTop (mkF m 145 #[.val (.int p0), .val (.int p1), .val (.int p2), .val (.int (3 : Int32)), .val (.int (dB + (1 : Int32))), .val (.ref a3), .val (.int (1 : Int32)), .val (.int (0 : Int32)), .val (.int r138), .unset, .unset, .unset, .unset, .unset, .unset, .unset] [(.int (1 : Int32))])) t
            exact k
          refine Rn.go (T' := T28) (g' := (mkF m 148 #[.val (.int p0), .val (.int p1), .val (.int p2), .val (.int (3 : Int32)), .val (.int (dB + (1 : Int32))), .val (.ref a3), .val (.int (1 : Int32)), .val (.int (0 : Int32)), .val (.int r138), .unset, .unset, .unset, .unset, .unset, .unset, .unset] [])) (fun t k => XS.ifNo Y29.here hx rfl (hb hby at_145) rfl ((if0 _ _).trans (feq (by decide)).1) k) ?_
          refine Rn.go (T' := T28) (g' := (mkF m 152 #[.val (.int p0), .val (.int p1), .val (.int p2), .val (.int (3 : Int32)), .val (.int (dB + (1 : Int32))), .val (.ref a3), .val (.int (1 : Int32)), .val (.int (0 : Int32)), .val (.int r138), .unset, .unset, .unset, .unset, .unset, .unset, .unset] [(.int (0 : Int32)), (.int r138)])) (fun t k => ?_) ?_
          · show Steps p.tables e below (T28.setTop (mkF m 148 #[.val (.int p0), .val (.int p1), .val (.int p2), .val (.int (3 : Int32)), .val (.int (dB + (1 : Int32))), .val (.ref a3), .val (.int (1 : Int32)), .val (.int (0 : Int32)), .val (.int r138), .unset, .unset, .unset, .unset, .unset, .unset, .unset] [])) t
            refine XS.iload Y29.here hx rfl (hb hby at_148) rfl ?_
            show Steps p.tables e below (T28.setTop (mkF m 150 #[.val (.int p0), .val (.int p1), .val (.int p2), .val (.int (3 : Int32)), .val (.int (dB + (1 : Int32))), .val (.ref a3), .val (.int (1 : Int32)), .val (.int (0 : Int32)), .val (.int r138), .unset, .unset, .unset, .unset, .unset, .unset, .unset] [(.int r138)])) t
            refine XS.iload Y29.here hx rfl (hb hby at_150) rfl ?_
            show Steps p.tables e below (T28.setTop (mkF m 152 #[.val (.int p0), .val (.int p1), .val (.int p2), .val (.int (3 : Int32)), .val (.int (dB + (1 : Int32))), .val (.ref a3), .val (.int (1 : Int32)), .val (.int (0 : Int32)), .val (.int r138), .unset, .unset, .unset, .unset, .unset, .unset, .unset] [(.int (0 : Int32)), (.int r138)])) t
            exact k
          refine Rn.go (T' := T28) (g' := (mkF m 155 #[.val (.int p0), .val (.int p1), .val (.int p2), .val (.int (3 : Int32)), .val (.int (dB + (1 : Int32))), .val (.ref a3), .val (.int (1 : Int32)), .val (.int (0 : Int32)), .val (.int r138), .unset, .unset, .unset, .unset, .unset, .unset, .unset] [])) (fun t k => XS.icmpNo Y29.here hx rfl (hb hby at_152) rfl (teq (by rw [hr138]; decide)).2 k) ?_
          refine Rn.go (T' := T28) (g' := (mkF m 165 #[.val (.int p0), .val (.int p1), .val (.int p2), .val (.int (3 : Int32)), .val (.int (dB + (1 : Int32))), .val (.ref a3), .val (.int (1 : Int32)), .val (.int (0 : Int32)), .val (.int (3 : Int32)), .unset, .unset, .unset, .unset, .unset, .unset, .unset] [])) (fun t k => ?_) ?_
          · show Steps p.tables e below (T28.setTop (mkF m 155 #[.val (.int p0), .val (.int p1), .val (.int p2), .val (.int (3 : Int32)), .val (.int (dB + (1 : Int32))), .val (.ref a3), .val (.int (1 : Int32)), .val (.int (0 : Int32)), .val (.int r138), .unset, .unset, .unset, .unset, .unset, .unset, .unset] [])) t
            refine XS.iconst Y29.here hx rfl (hb hby at_155) ?_
            show Steps p.tables e below (T28.setTop (mkF m 156 #[.val (.int p0), .val (.int p1), .val (.int p2), .val (.int (3 : Int32)), .val (.int (dB + (1 : Int32))), .val (.ref a3), .val (.int (1 : Int32)), .val (.int (0 : Int32)), .val (.int r138), .unset, .unset, .unset, .unset, .unset, .unset, .unset] [(.int (1 : Int32))])) t
            refine XS.goto Y29.here hx rfl (pc0 := 156) (pc' := 160) rfl (hb hby at_156) (by decide) (by decide) ?_
            show Steps p.tables e below (T28.setTop (mkF m 160 #[.val (.int p0), .val (.int p1), .val (.int p2), .val (.int (3 : Int32)), .val (.int (dB + (1 : Int32))), .val (.ref a3), .val (.int (1 : Int32)), .val (.int (0 : Int32)), .val (.int r138), .unset, .unset, .unset, .unset, .unset, .unset, .unset] [(.int (1 : Int32))])) t
            refine XS.istore Y29.here hx rfl (hb hby at_160) rfl (l' := #[.val (.int p0), .val (.int p1), .val (.int p2), .val (.int (3 : Int32)), .val (.int (dB + (1 : Int32))), .val (.ref a3), .val (.int (1 : Int32)), .val (.int (0 : Int32)), .val (.int r138), .unset, .unset, .unset, .unset, .unset, .unset, .unset]) rfl ?_
            show Steps p.tables e below (T28.setTop (mkF m 162 #[.val (.int p0), .val (.int p1), .val (.int p2), .val (.int (3 : Int32)), .val (.int (dB + (1 : Int32))), .val (.ref a3), .val (.int (1 : Int32)), .val (.int (0 : Int32)), .val (.int r138), .unset, .unset, .unset, .unset, .unset, .unset, .unset] [])) t
            refine XS.iconst Y29.here hx rfl (hb hby at_162) ?_
            show Steps p.tables e below (T28.setTop (mkF m 163 #[.val (.int p0), .val (.int p1), .val (.int p2), .val (.int (3 : Int32)), .val (.int (dB + (1 : Int32))), .val (.ref a3), .val (.int (1 : Int32)), .val (.int (0 : Int32)), .val (.int r138), .unset, .unset, .unset, .unset, .unset, .unset, .unset] [(.int (3 : Int32))])) t
            refine XS.istore Y29.here hx rfl (hb hby at_163) rfl (l' := #[.val (.int p0), .val (.int p1), .val (.int p2), .val (.int (3 : Int32)), .val (.int (dB + (1 : Int32))), .val (.ref a3), .val (.int (1 : Int32)), .val (.int (0 : Int32)), .val (.int (3 : Int32)), .unset, .unset, .unset, .unset, .unset, .unset, .unset]) rfl ?_
            show Steps p.tables e below (T28.setTop (mkF m 165 #[.val (.int p0), .val (.int p1), .val (.int p2), .val (.int (3 : Int32)), .val (.int (dB + (1 : Int32))), .val (.ref a3), .val (.int (1 : Int32)), .val (.int (0 : Int32)), .val (.int (3 : Int32)), .unset, .unset, .unset, .unset, .unset, .unset, .unset] [])) t
            exact k
          exact HJ165 _ (3 : Int32) _ (by decide) (by decide) (by decide) (by rw [(by decide : own_P (3 : Int32) (0 : Int32) = (own_pn (own_pn [(0 : Int32), (1 : Int32), (2 : Int32), (3 : Int32), (4 : Int32), (5 : Int32)] [(1 : Int32), (1 : Int32), (1 : Int32), (1 : Int32), (1 : Int32), (1 : Int32)] (0 : Int32) (1 : Int32)) (own_sn [(1 : Int32), (1 : Int32), (1 : Int32), (1 : Int32), (1 : Int32), (1 : Int32)] (0 : Int32) (1 : Int32)) (0 : Int32) (2 : Int32))), (by decide : own_S (3 : Int32) (0 : Int32) = (own_sn (own_sn [(1 : Int32), (1 : Int32), (1 : Int32), (1 : Int32), (1 : Int32), (1 : Int32)] (0 : Int32) (1 : Int32)) (0 : Int32) (2 : Int32)))]; exact Y29)
        · refine Rn.go (T' := T23) (g' := (mkF m 120 #[.val (.int p0), .val (.int p1), .val (.int p2), .val (.int (3 : Int32)), .val (.int (dB + (1 : Int32))), .val (.ref a3), .val (.int (1 : Int32)), .val (.int (0 : Int32)), .val (.int r84), .unset, .unset, .unset, .unset, .unset, .unset, .unset] [])) (fun t k => XS.ifNo Y24.here hx rfl (hb hby at_117) rfl ((if0 _ _).trans (feq hc117).1) k) ?_
          refine Rn.go (T' := T23) (g' := (mkF m 125 #[.val (.int p0), .val (.int p1), .val (.int p2), .val (.int (3 : Int32)), .val (.int (dB + (1 : Int32))), .val (.ref a3), .val (.int (1 : Int32)), .val (.int (0 : Int32)), .val (.int r84), .unset, .unset, .unset, .unset, .unset, .unset, .unset] [(.int (0 : Int32)), (.int (2 : Int32)), (.ref a3)])) (fun t k => ?_) ?_
          · show Steps p.tables e below (T23.setTop (mkF m 120 #[.val (.int p0), .val (.int p1), .val (.int p2), .val (.int (3 : Int32)), .val (.int (dB + (1 : Int32))), .val (.ref a3), .val (.int (1 : Int32)), .val (.int (0 : Int32)), .val (.int r84), .unset, .unset, .unset, .unset, .unset, .unset, .unset] [])) t
            refine XS.aload Y24.here hx rfl (hb hby at_120) rfl rfl ?_
            show Steps p.tables e below (T23.setTop (mkF m 122 #[.val (.int p0), .val (.int p1), .val (.int p2), .val (.int (3 : Int32)), .val (.int (dB + (1 : Int32))), .val (.ref a3), .val (.int (1 : Int32)), .val (.int (0 : Int32)), .val (.int r84), .unset, .unset, .unset, .unset, .unset, .unset, .unset] [(.ref a3)])) t
            refine XS.iconst Y24.here hx rfl (hb hby at_122) ?_
            show Steps p.tables e below (T23.setTop (mkF m 123 #[.val (.int p0), .val (.int p1), .val (.int p2), .val (.int (3 : Int32)), .val (.int (dB + (1 : Int32))), .val (.ref a3), .val (.int (1 : Int32)), .val (.int (0 : Int32)), .val (.int r84), .unset, .unset, .unset, .unset, .unset, .unset, .unset] [(.int (2 : Int32)), (.ref a3)])) t
            refine XS.iload Y24.here hx rfl (hb hby at_123) rfl ?_
            show Steps p.tables e below (T23.setTop (mkF m 125 #[.val (.int p0), .val (.int p1), .val (.int p2), .val (.int (3 : Int32)), .val (.int (dB + (1 : Int32))), .val (.ref a3), .val (.int (1 : Int32)), .val (.int (0 : Int32)), .val (.int r84), .unset, .unset, .unset, .unset, .unset, .unset, .unset] [(.int (0 : Int32)), (.int (2 : Int32)), (.ref a3)])) t
            exact k
          refine On.virtual Y24 hx hZ (y := (⟨"com/example/arborplan/arborplan/tree/DisjointSets", "union", "(II)I"⟩ : MethodName)) (C := "com/example/arborplan/arborplan/tree/DisjointSets") hown (w15 hw) (w16 hw) (w17 hw) (w18 hw) (w19 hw) (w3 hw) (by decide) (a := a3) (argsL := [(.int (2 : Int32)), (.int (0 : Int32))]) (rest := []) (i := 0) rfl (rm3 l Z a0 hw n0 a3 (2 : Int32) (0 : Int32) a9 a10 (own_pn [(0 : Int32), (1 : Int32), (2 : Int32), (3 : Int32), (4 : Int32), (5 : Int32)] [(1 : Int32), (1 : Int32), (1 : Int32), (1 : Int32), (1 : Int32), (1 : Int32)] (0 : Int32) (1 : Int32)) (own_sn [(1 : Int32), (1 : Int32), (1 : Int32), (1 : Int32), (1 : Int32), (1 : Int32)] (0 : Int32) (1 : Int32)) [] (by decide) (by decide) (by decide) (by decide) (by decide) (by decide)) (W := 0) (by decide) (by decide) (by decide) (by decide) (g := (mkF m 125 #[.val (.int p0), .val (.int p1), .val (.int p2), .val (.int (3 : Int32)), .val (.int (dB + (1 : Int32))), .val (.ref a3), .val (.int (1 : Int32)), .val (.int (0 : Int32)), .val (.int r84), .unset, .unset, .unset, .unset, .unset, .unset, .unset] [(.int (0 : Int32)), (.int (2 : Int32)), (.ref a3)])) rfl (by rw [hml]; rfl) (lenOf pd1 rfl) rfl (by show 2 * 0 + _ ≤ _; exact Nat.le_of_eq rfl) (hb hby at_125) ?_
          intro T33 u35 D36 hp37 Y34
          obtain ⟨r125, hr125, rfl, rfl⟩ : ∃ z : Int32, z = (own_ro (own_sn [(1 : Int32), (1 : Int32), (1 : Int32), (1 : Int32), (1 : Int32), (1 : Int32)] (0 : Int32) (1 : Int32)) (2 : Int32) (0 : Int32)) ∧ u35 = some (.int z) ∧ D36 = _ := ⟨_, rfl, hp37.1, hp37.2⟩
          replace Y34 : On p l e _ s m _ below meth c Z n0 T33 3 14 [ob a3 own_C0 (own_F0 (.ref a9) (.ref a10)), ari a9 .int (6 : Int32) (own_pn (own_pn [(0 : Int32), (1 : Int32), (2 : Int32), (3 : Int32), (4 : Int32), (5 : Int32)] [(1 : Int32), (1 : Int32), (1 : Int32), (1 : Int32), (1 : Int32), (1 : Int32)] (0 : Int32) (1 : Int32)) (own_sn [(1 : Int32), (1 : Int32), (1 : Int32), (1 : Int32), (1 : Int32), (1 : Int32)] (0 : Int32) (1 : Int32)) (2 : Int32) (0 : Int32)), ari a10 .int (6 : Int32) (own_sn (own_sn [(1 : Int32), (1 : Int32), (1 : Int32), (1 : Int32), (1 : Int32), (1 : Int32)] (0 : Int32) (1 : Int32)) (2 : Int32) (0 : Int32))] := Y34
          show Rn p e below F T33 (mkF m 128 #[.val (.int p0), .val (.int p1), .val (.int p2), .val (.int (3 : Int32)), .val (.int (dB + (1 : Int32))), .val (.ref a3), .val (.int (1 : Int32)), .val (.int (0 : Int32)), .val (.int r84), .unset, .unset, .unset, .unset, .unset, .unset, .unset] [(.int r125)])
          refine Rn.go (T' := T33) (g' := (mkF m 145 #[.val (.int p0), .val (.int p1), .val (.int p2), .val (.int (3 : Int32)), .val (.int (dB + (1 : Int32))), .val (.ref a3), .val (.int (1 : Int32)), .val (.int (0 : Int32)), .val (.int r125), .unset, .unset, .unset, .unset, .unset, .unset, .unset] [(.int (1 : Int32))])) (fun t k => ?_) ?_
          · show Steps p.tables e below (T33.setTop (mkF m 128 #[.val (.int p0), .val (.int p1), .val (.int p2), .val (.int (3 : Int32)), .val (.int (dB + (1 : Int32))), .val (.ref a3), .val (.int (1 : Int32)), .val (.int (0 : Int32)), .val (.int r84), .unset, .unset, .unset, .unset, .unset, .unset, .unset] [(.int r125)])) t
            refine XS.istore Y34.here hx rfl (hb hby at_128) rfl (l' := #[.val (.int p0), .val (.int p1), .val (.int p2), .val (.int (3 : Int32)), .val (.int (dB + (1 : Int32))), .val (.ref a3), .val (.int (1 : Int32)), .val (.int (0 : Int32)), .val (.int r125), .unset, .unset, .unset, .unset, .unset, .unset, .unset]) rfl ?_
            show Steps p.tables e below (T33.setTop (mkF m 130 #[.val (.int p0), .val (.int p1), .val (.int p2), .val (.int (3 : Int32)), .val (.int (dB + (1 : Int32))), .val (.ref a3), .val (.int (1 : Int32)), .val (.int (0 : Int32)), .val (.int r125), .unset, .unset, .unset, .unset, .unset, .unset, .unset] [])) t
            refine XS.goto Y34.here hx rfl (pc0 := 130) (pc' := 143) rfl (hb hby at_130) (by decide) (by decide) ?_
            show Steps p.tables e below (T33.setTop (mkF m 143 #[.val (.int p0), .val (.int p1), .val (.int p2), .val (.int (3 : Int32)), .val (.int (dB + (1 : Int32))), .val (.ref a3), .val (.int (1 : Int32)), .val (.int (0 : Int32)), .val (.int r125), .unset, .unset, .unset, .unset, .unset, .unset, .unset] [])) t
            refine XS.iload Y34.here hx rfl (hb hby at_143) rfl ?_
            show Steps p.tables e below (T33.setTop (mkF m 145 #[.val (.int p0), .val (.int p1), .val (.int p2), .val (.int (3 : Int32)), .val (.int (dB + (1 : Int32))), .val (.ref a3), .val (.int (1 : Int32)), .val (.int (0 : Int32)), .val (.int r125), .unset, .unset, .unset, .unset, .unset, .unset, .unset] [(.int (1 : Int32))])) t
            exact k
          refine Rn.go (T' := T33) (g' := (mkF m 148 #[.val (.int p0), .val (.int p1), .val (.int p2), .val (.int (3 : Int32)), .val (.int (dB + (1 : Int32))), .val (.ref a3), .val (.int (1 : Int32)), .val (.int (0 : Int32)), .val (.int r125), .unset, .unset, .unset, .unset, .unset, .unset, .unset] [])) (fun t k => XS.ifNo Y34.here hx rfl (hb hby at_145) rfl ((if0 _ _).trans (feq (by decide)).1) k) ?_
          refine Rn.go (T' := T33) (g' := (mkF m 152 #[.val (.int p0), .val (.int p1), .val (.int p2), .val (.int (3 : Int32)), .val (.int (dB + (1 : Int32))), .val (.ref a3), .val (.int (1 : Int32)), .val (.int (0 : Int32)), .val (.int r125), .unset, .unset, .unset, .unset, .unset, .unset, .unset] [(.int (0 : Int32)), (.int r125)])) (fun t k => ?_) ?_
          · show Steps p.tables e below (T33.setTop (mkF m 148 #[.val (.int p0), .val (.int p1), .val (.int p2), .val (.int (3 : Int32)), .val (.int (dB + (1 : Int32))), .val (.ref a3), .val (.int (1 : Int32)), .val (.int (0 : Int32)), .val (.int r125), .unset, .unset, .unset, .unset, .unset, .unset, .unset] [])) t
            refine XS.iload Y34.here hx rfl (hb hby at_148) rfl ?_
            show Steps p.tables e below (T33.setTop (mkF m 150 #[.val (.int p0), .val (.int p1), .val (.int p2), .val (.int (3 : Int32)), .val (.int (dB + (1 : Int32))), .val (.ref a3), .val (.int (1 : Int32)), .val (.int (0 : Int32)), .val (.int r125), .unset, .unset, .unset, .unset, .unset, .unset, .unset] [(.int r125)])) t
            refine XS.iload Y34.here hx rfl (hb hby at_150) rfl ?_
            show Steps p.tables e below (T33.setTop (mkF m 152 #[.val (.int p0), .val (.int p1), .val (.int p2), .val (.int (3 : Int32)), .val (.int (dB + (1 : Int32))), .val (.ref a3), .val (.int (1 : Int32)), .val (.int (0 : Int32)), .val (.int r125), .unset, .unset, .unset, .unset, .unset, .unset, .unset] [(.int (0 : Int32)), (.int r125)])) t
            exact k
          refine Rn.go (T' := T33) (g' := (mkF m 155 #[.val (.int p0), .val (.int p1), .val (.int p2), .val (.int (3 : Int32)), .val (.int (dB + (1 : Int32))), .val (.ref a3), .val (.int (1 : Int32)), .val (.int (0 : Int32)), .val (.int r125), .unset, .unset, .unset, .unset, .unset, .unset, .unset] [])) (fun t k => XS.icmpNo Y34.here hx rfl (hb hby at_152) rfl (teq (by rw [hr125]; decide)).2 k) ?_
          refine Rn.go (T' := T33) (g' := (mkF m 165 #[.val (.int p0), .val (.int p1), .val (.int p2), .val (.int (3 : Int32)), .val (.int (dB + (1 : Int32))), .val (.ref a3), .val (.int (1 : Int32)), .val (.int (0 : Int32)), .val (.int (3 : Int32)), .unset, .unset, .unset, .unset, .unset, .unset, .unset] [])) (fun t k => ?_) ?_
          · show Steps p.tables e below (T33.setTop (mkF m 155 #[.val (.int p0), .val (.int p1), .val (.int p2), .val (.int (3 : Int32)), .val (.int (dB + (1 : Int32))), .val (.ref a3), .val (.int (1 : Int32)), .val (.int (0 : Int32)), .val (.int r125), .unset, .unset, .unset, .unset, .unset, .unset, .unset] [])) t
            refine XS.iconst Y34.here hx rfl (hb hby at_155) ?_
            show Steps p.tables e below (T33.setTop (mkF m 156 #[.val (.int p0), .val (.int p1), .val (.int p2), .val (.int (3 : Int32)), .val (.int (dB + (1 : Int32))), .val (.ref a3), .val (.int (1 : Int32)), .val (.int (0 : Int32)), .val (.int r125), .unset, .unset, .unset, .unset, .unset, .unset, .unset] [(.int (1 : Int32))])) t
            refine XS.goto Y34.here hx rfl (pc0 := 156) (pc' := 160) rfl (hb hby at_156) (by decide) (by decide) ?_
            show Steps p.tables e below (T33.setTop (mkF m 160 #[.val (.int p0), .val (.int p1), .val (.int p2), .val (.int (3 : Int32)), .val (.int (dB + (1 : Int32))), .val (.ref a3), .val (.int (1 : Int32)), .val (.int (0 : Int32)), .val (.int r125), .unset, .unset, .unset, .unset, .unset, .unset, .unset] [(.int (1 : Int32))])) t
            refine XS.istore Y34.here hx rfl (hb hby at_160) rfl (l' := #[.val (.int p0), .val (.int p1), .val (.int p2), .val (.int (3 : Int32)), .val (.int (dB + (1 : Int32))), .val (.ref a3), .val (.int (1 : Int32)), .val (.int (0 : Int32)), .val (.int r125), .unset, .unset, .unset, .unset, .unset, .unset, .unset]) rfl ?_
            show Steps p.tables e below (T33.setTop (mkF m 162 #[.val (.int p0), .val (.int p1), .val (.int p2), .val (.int (3 : Int32)), .val (.int (dB + (1 : Int32))), .val (.ref a3), .val (.int (1 : Int32)), .val (.int (0 : Int32)), .val (.int r125), .unset, .unset, .unset, .unset, .unset, .unset, .unset] [])) t
            refine XS.iconst Y34.here hx rfl (hb hby at_162) ?_
            show Steps p.tables e below (T33.setTop (mkF m 163 #[.val (.int p0), .val (.int p1), .val (.int p2), .val (.int (3 : Int32)), .val (.int (dB + (1 : Int32))), .val (.ref a3), .val (.int (1 : Int32)), .val (.int (0 : Int32)), .val (.int r125), .unset, .unset, .unset, .unset, .unset, .unset, .unset] [(.int (3 : Int32))])) t
            refine XS.istore Y34.here hx rfl (hb hby at_163) rfl (l' := #[.val (.int p0), .val (.int p1), .val (.int p2), .val (.int (3 : Int32)), .val (.int (dB + (1 : Int32))), .val (.ref a3), .val (.int (1 : Int32)), .val (.int (0 : Int32)), .val (.int (3 : Int32)), .unset, .unset, .unset, .unset, .unset, .unset, .unset]) rfl ?_
            show Steps p.tables e below (T33.setTop (mkF m 165 #[.val (.int p0), .val (.int p1), .val (.int p2), .val (.int (3 : Int32)), .val (.int (dB + (1 : Int32))), .val (.ref a3), .val (.int (1 : Int32)), .val (.int (0 : Int32)), .val (.int (3 : Int32)), .unset, .unset, .unset, .unset, .unset, .unset, .unset] [])) t
            exact k
          exact HJ165 _ (3 : Int32) _ (by decide) (by decide) (by decide) (by rw [(by decide : own_P (3 : Int32) (0 : Int32) = (own_pn (own_pn [(0 : Int32), (1 : Int32), (2 : Int32), (3 : Int32), (4 : Int32), (5 : Int32)] [(1 : Int32), (1 : Int32), (1 : Int32), (1 : Int32), (1 : Int32), (1 : Int32)] (0 : Int32) (1 : Int32)) (own_sn [(1 : Int32), (1 : Int32), (1 : Int32), (1 : Int32), (1 : Int32), (1 : Int32)] (0 : Int32) (1 : Int32)) (2 : Int32) (0 : Int32))), (by decide : own_S (3 : Int32) (0 : Int32) = (own_sn (own_sn [(1 : Int32), (1 : Int32), (1 : Int32), (1 : Int32), (1 : Int32), (1 : Int32)] (0 : Int32) (1 : Int32)) (2 : Int32) (0 : Int32)))]; exact Y34)
      · refine Rn.go (T' := T4) (g' := (mkF m 47 #[.val (.int p0), .val (.int p1), .val (.int p2), .val (.int (3 : Int32)), .val (.int (dB + (1 : Int32))), .val (.ref a3), .val (.int (1 : Int32)), .val (.int (0 : Int32)), .unset, .unset, .unset, .unset, .unset, .unset, .unset, .unset] [])) (fun t k => XS.ifNo Y5.here hx rfl (hb hby at_44) rfl ((if0 _ _).trans (feq hc44).1) k) ?_
        refine Rn.go (T' := T4) (g' := (mkF m 51 #[.val (.int p0), .val (.int p1), .val (.int p2), .val (.int (3 : Int32)), .val (.int (dB + (1 : Int32))), .val (.ref a3), .val (.int (1 : Int32)), .val (.int (0 : Int32)), .unset, .unset, .unset, .unset, .unset, .unset, .unset, .unset] [(.int (0 : Int32)), (.int (1 : Int32)), (.ref a3)])) (fun t k => ?_) ?_
        · show Steps p.tables e below (T4.setTop (mkF m 47 #[.val (.int p0), .val (.int p1), .val (.int p2), .val (.int (3 : Int32)), .val (.int (dB + (1 : Int32))), .val (.ref a3), .val (.int (1 : Int32)), .val (.int (0 : Int32)), .unset, .unset, .unset, .unset, .unset, .unset, .unset, .unset] [])) t
          refine XS.aload Y5.here hx rfl (hb hby at_47) rfl rfl ?_
          show Steps p.tables e below (T4.setTop (mkF m 49 #[.val (.int p0), .val (.int p1), .val (.int p2), .val (.int (3 : Int32)), .val (.int (dB + (1 : Int32))), .val (.ref a3), .val (.int (1 : Int32)), .val (.int (0 : Int32)), .unset, .unset, .unset, .unset, .unset, .unset, .unset, .unset] [(.ref a3)])) t
          refine XS.iconst Y5.here hx rfl (hb hby at_49) ?_
          show Steps p.tables e below (T4.setTop (mkF m 50 #[.val (.int p0), .val (.int p1), .val (.int p2), .val (.int (3 : Int32)), .val (.int (dB + (1 : Int32))), .val (.ref a3), .val (.int (1 : Int32)), .val (.int (0 : Int32)), .unset, .unset, .unset, .unset, .unset, .unset, .unset, .unset] [(.int (1 : Int32)), (.ref a3)])) t
          refine XS.iconst Y5.here hx rfl (hb hby at_50) ?_
          show Steps p.tables e below (T4.setTop (mkF m 51 #[.val (.int p0), .val (.int p1), .val (.int p2), .val (.int (3 : Int32)), .val (.int (dB + (1 : Int32))), .val (.ref a3), .val (.int (1 : Int32)), .val (.int (0 : Int32)), .unset, .unset, .unset, .unset, .unset, .unset, .unset, .unset] [(.int (0 : Int32)), (.int (1 : Int32)), (.ref a3)])) t
          exact k
        refine On.virtual Y5 hx hZ (y := (⟨"com/example/arborplan/arborplan/tree/DisjointSets", "union", "(II)I"⟩ : MethodName)) (C := "com/example/arborplan/arborplan/tree/DisjointSets") hown (w15 hw) (w16 hw) (w17 hw) (w18 hw) (w19 hw) (w3 hw) (by decide) (a := a3) (argsL := [(.int (1 : Int32)), (.int (0 : Int32))]) (rest := []) (i := 0) rfl (rm3 l Z a0 hw n0 a3 (1 : Int32) (0 : Int32) a9 a10 [(0 : Int32), (1 : Int32), (2 : Int32), (3 : Int32), (4 : Int32), (5 : Int32)] [(1 : Int32), (1 : Int32), (1 : Int32), (1 : Int32), (1 : Int32), (1 : Int32)] [] (by decide) (by decide) (by decide) (by decide) (by decide) (by decide)) (W := 0) (by decide) (by decide) (by decide) (by decide) (g := (mkF m 51 #[.val (.int p0), .val (.int p1), .val (.int p2), .val (.int (3 : Int32)), .val (.int (dB + (1 : Int32))), .val (.ref a3), .val (.int (1 : Int32)), .val (.int (0 : Int32)), .unset, .unset, .unset, .unset, .unset, .unset, .unset, .unset] [(.int (0 : Int32)), (.int (1 : Int32)), (.ref a3)])) rfl (by rw [hml]; rfl) (lenOf pd1 rfl) rfl (by show 2 * 0 + _ ≤ _; exact Nat.le_of_eq rfl) (hb hby at_51) ?_
        intro T38 u40 D41 hp42 Y39
        obtain ⟨r51, hr51, rfl, rfl⟩ : ∃ z : Int32, z = (own_ro [(1 : Int32), (1 : Int32), (1 : Int32), (1 : Int32), (1 : Int32), (1 : Int32)] (1 : Int32) (0 : Int32)) ∧ u40 = some (.int z) ∧ D41 = _ := ⟨_, rfl, hp42.1, hp42.2⟩
        replace Y39 : On p l e _ s m _ below meth c Z n0 T38 3 14 [ob a3 own_C0 (own_F0 (.ref a9) (.ref a10)), ari a9 .int (6 : Int32) (own_pn [(0 : Int32), (1 : Int32), (2 : Int32), (3 : Int32), (4 : Int32), (5 : Int32)] [(1 : Int32), (1 : Int32), (1 : Int32), (1 : Int32), (1 : Int32), (1 : Int32)] (1 : Int32) (0 : Int32)), ari a10 .int (6 : Int32) (own_sn [(1 : Int32), (1 : Int32), (1 : Int32), (1 : Int32), (1 : Int32), (1 : Int32)] (1 : Int32) (0 : Int32))] := Y39
        show Rn p e below F T38 (mkF m 54 #[.val (.int p0), .val (.int p1), .val (.int p2), .val (.int (3 : Int32)), .val (.int (dB + (1 : Int32))), .val (.ref a3), .val (.int (1 : Int32)), .val (.int (0 : Int32)), .unset, .unset, .unset, .unset, .unset, .unset, .unset, .unset] [(.int r51)])
        refine Rn.go (T' := T38) (g' := (mkF m 58 #[.val (.int p0), .val (.int p1), .val (.int p2), .val (.int (3 : Int32)), .val (.int (dB + (1 : Int32))), .val (.ref a3), .val (.int (1 : Int32)), .val (.int (0 : Int32)), .val (.int r51), .unset, .unset, .unset, .unset, .unset, .unset, .unset] [(.int (1 : Int32))])) (fun t k => ?_) ?_
        · show Steps p.tables e below (T38.setTop (mkF m 54 #[.val (.int p0), .val (.int p1), .val (.int p2), .val (.int (3 : Int32)), .val (.int (dB + (1 : Int32))), .val (.ref a3), .val (.int (1 : Int32)), .val (.int (0 : Int32)), .unset, .unset, .unset, .unset, .unset, .unset, .unset, .unset] [(.int r51)])) t
          refine XS.istore Y39.here hx rfl (hb hby at_54) rfl (l' := #[.val (.int p0), .val (.int p1), .val (.int p2), .val (.int (3 : Int32)), .val (.int (dB + (1 : Int32))), .val (.ref a3), .val (.int (1 : Int32)), .val (.int (0 : Int32)), .val (.int r51), .unset, .unset, .unset, .unset, .unset, .unset, .unset]) rfl ?_
          show Steps p.tables e below (T38.setTop (mkF m 56 #[.val (.int p0), .val (.int p1), .val (.int p2), .val (.int (3 : Int32)), .val (.int (dB + (1 : Int32))), .val (.ref a3), .val (.int (1 : Int32)), .val (.int (0 : Int32)), .val (.int r51), .unset, .unset, .unset, .unset, .unset, .unset, .unset] [])) t
          refine XS.iload Y39.here hx rfl (hb hby at_56) rfl ?_
          show Steps p.tables e below (T38.setTop (mkF m 58 #[.val (.int p0), .val (.int p1), .val (.int p2), .val (.int (3 : Int32)), .val (.int (dB + (1 : Int32))), .val (.ref a3), .val (.int (1 : Int32)), .val (.int (0 : Int32)), .val (.int r51), .unset, .unset, .unset, .unset, .unset, .unset, .unset] [(.int (1 : Int32))])) t
          exact k
        refine Rn.go (T' := T38) (g' := (mkF m 61 #[.val (.int p0), .val (.int p1), .val (.int p2), .val (.int (3 : Int32)), .val (.int (dB + (1 : Int32))), .val (.ref a3), .val (.int (1 : Int32)), .val (.int (0 : Int32)), .val (.int r51), .unset, .unset, .unset, .unset, .unset, .unset, .unset] [])) (fun t k => XS.ifNo Y39.here hx rfl (hb hby at_58) rfl ((if0 _ _).trans (feq (by decide)).1) k) ?_
        refine Rn.go (T' := T38) (g' := (mkF m 64 #[.val (.int p0), .val (.int p1), .val (.int p2), .val (.int (3 : Int32)), .val (.int (dB + (1 : Int32))), .val (.ref a3), .val (.int (1 : Int32)), .val (.int (0 : Int32)), .val (.int r51), .unset, .unset, .unset, .unset, .unset, .unset, .unset] [(.int (1 : Int32)), (.int r51)])) (fun t k => ?_) ?_
        · show Steps p.tables e below (T38.setTop (mkF m 61 #[.val (.int p0), .val (.int p1), .val (.int p2), .val (.int (3 : Int32)), .val (.int (dB + (1 : Int32))), .val (.ref a3), .val (.int (1 : Int32)), .val (.int (0 : Int32)), .val (.int r51), .unset, .unset, .unset, .unset, .unset, .unset, .unset] [])) t
          refine XS.iload Y39.here hx rfl (hb hby at_61) rfl ?_
          show Steps p.tables e below (T38.setTop (mkF m 63 #[.val (.int p0), .val (.int p1), .val (.int p2), .val (.int (3 : Int32)), .val (.int (dB + (1 : Int32))), .val (.ref a3), .val (.int (1 : Int32)), .val (.int (0 : Int32)), .val (.int r51), .unset, .unset, .unset, .unset, .unset, .unset, .unset] [(.int r51)])) t
          refine XS.iconst Y39.here hx rfl (hb hby at_63) ?_
          show Steps p.tables e below (T38.setTop (mkF m 64 #[.val (.int p0), .val (.int p1), .val (.int p2), .val (.int (3 : Int32)), .val (.int (dB + (1 : Int32))), .val (.ref a3), .val (.int (1 : Int32)), .val (.int (0 : Int32)), .val (.int r51), .unset, .unset, .unset, .unset, .unset, .unset, .unset] [(.int (1 : Int32)), (.int r51)])) t
          exact k
        refine Rn.go (T' := T38) (g' := (mkF m 67 #[.val (.int p0), .val (.int p1), .val (.int p2), .val (.int (3 : Int32)), .val (.int (dB + (1 : Int32))), .val (.ref a3), .val (.int (1 : Int32)), .val (.int (0 : Int32)), .val (.int r51), .unset, .unset, .unset, .unset, .unset, .unset, .unset] [])) (fun t k => XS.icmpNo Y39.here hx rfl (hb hby at_64) rfl (teq (by rw [hr51]; decide)).2 k) ?_
        refine Rn.go (T' := T38) (g' := (mkF m 111 #[.val (.int p0), .val (.int p1), .val (.int p2), .val (.int (3 : Int32)), .val (.int (dB + (1 : Int32))), .val (.ref a3), .val (.int (1 : Int32)), .val (.int (1 : Int32)), .val (.int r51), .unset, .unset, .unset, .unset, .unset, .unset, .unset] [(.int (3 : Int32)), (.int (3 : Int32))])) (fun t k => ?_) ?_
        · show Steps p.tables e below (T38.setTop (mkF m 67 #[.val (.int p0), .val (.int p1), .val (.int p2), .val (.int (3 : Int32)), .val (.int (dB + (1 : Int32))), .val (.ref a3), .val (.int (1 : Int32)), .val (.int (0 : Int32)), .val (.int r51), .unset, .unset, .unset, .unset, .unset, .unset, .unset] [])) t
          refine XS.iconst Y39.here hx rfl (hb hby at_67) ?_
          show Steps p.tables e below (T38.setTop (mkF m 68 #[.val (.int p0), .val (.int p1), .val (.int p2), .val (.int (3 : Int32)), .val (.int (dB + (1 : Int32))), .val (.ref a3), .val (.int (1 : Int32)), .val (.int (0 : Int32)), .val (.int r51), .unset, .unset, .unset, .unset, .unset, .unset, .unset] [(.int (1 : Int32))])) t
          refine XS.goto Y39.here hx rfl (pc0 := 68) (pc' := 72) rfl (hb hby at_68) (by decide) (by decide) ?_
          show Steps p.tables e below (T38.setTop (mkF m 72 #[.val (.int p0), .val (.int p1), .val (.int p2), .val (.int (3 : Int32)), .val (.int (dB + (1 : Int32))), .val (.ref a3), .val (.int (1 : Int32)), .val (.int (0 : Int32)), .val (.int r51), .unset, .unset, .unset, .unset, .unset, .unset, .unset] [(.int (1 : Int32))])) t
          refine XS.istore Y39.here hx rfl (hb hby at_72) rfl (l' := #[.val (.int p0), .val (.int p1), .val (.int p2), .val (.int (3 : Int32)), .val (.int (dB + (1 : Int32))), .val (.ref a3), .val (.int (1 : Int32)), .val (.int (0 : Int32)), .val (.int r51), .unset, .unset, .unset, .unset, .unset, .unset, .unset]) rfl ?_
          show Steps p.tables e below (T38.setTop (mkF m 74 #[.val (.int p0), .val (.int p1), .val (.int p2), .val (.int (3 : Int32)), .val (.int (dB + (1 : Int32))), .val (.ref a3), .val (.int (1 : Int32)), .val (.int (0 : Int32)), .val (.int r51), .unset, .unset, .unset, .unset, .unset, .unset, .unset] [])) t
          refine XS.iconst Y39.here hx rfl (hb hby at_74) ?_
          show Steps p.tables e below (T38.setTop (mkF m 75 #[.val (.int p0), .val (.int p1), .val (.int p2), .val (.int (3 : Int32)), .val (.int (dB + (1 : Int32))), .val (.ref a3), .val (.int (1 : Int32)), .val (.int (0 : Int32)), .val (.int r51), .unset, .unset, .unset, .unset, .unset, .unset, .unset] [(.int (1 : Int32))])) t
          refine XS.istore Y39.here hx rfl (hb hby at_75) rfl (l' := #[.val (.int p0), .val (.int p1), .val (.int p2), .val (.int (3 : Int32)), .val (.int (dB + (1 : Int32))), .val (.ref a3), .val (.int (1 : Int32)), .val (.int (1 : Int32)), .val (.int r51), .unset, .unset, .unset, .unset, .unset, .unset, .unset]) rfl ?_
          show Steps p.tables e below (T38.setTop (mkF m 77 #[.val (.int p0), .val (.int p1), .val (.int p2), .val (.int (3 : Int32)), .val (.int (dB + (1 : Int32))), .val (.ref a3), .val (.int (1 : Int32)), .val (.int (1 : Int32)), .val (.int r51), .unset, .unset, .unset, .unset, .unset, .unset, .unset] [])) t
          refine XS.goto Y39.here hx rfl (pc0 := 77) (pc' := 109) rfl (hb hby at_77) (by decide) (by decide) ?_
          show Steps p.tables e below (T38.setTop (mkF m 109 #[.val (.int p0), .val (.int p1), .val (.int p2), .val (.int (3 : Int32)), .val (.int (dB + (1 : Int32))), .val (.ref a3), .val (.int (1 : Int32)), .val (.int (1 : Int32)), .val (.int r51), .unset, .unset, .unset, .unset, .unset, .unset, .unset] [])) t
          refine XS.iloadN Y39.here hx rfl (hb hby at_109) rfl ?_
          show Steps p.tables e below (T38.setTop (mkF m 110 #[.val (.int p0), .val (.int p1), .val (.int p2), .val (.int (3 : Int32)), .val (.int (dB + (1 : Int32))), .val (.ref a3), .val (.int (1 : Int32)), .val (.int (1 : Int32)), .val (.int r51), .unset, .unset, .unset, .unset, .unset, .unset, .unset] [(.int (3 : Int32))])) t
          refine XS.iconst Y39.here hx rfl (hb hby at_110) ?_
          show Steps p.tables e below (T38.setTop (mkF m 111 #[.val (.int p0), .val (.int p1), .val (.int p2), .val (.int (3 : Int32)), .val (.int (dB + (1 : Int32))), .val (.ref a3), .val (.int (1 : Int32)), .val (.int (1 : Int32)), .val (.int r51), .unset, .unset, .unset, .unset, .unset, .unset, .unset] [(.int (3 : Int32)), (.int (3 : Int32))])) t
          exact k
        refine Rn.go (T' := T38) (g' := (mkF m 114 #[.val (.int p0), .val (.int p1), .val (.int p2), .val (.int (3 : Int32)), .val (.int (dB + (1 : Int32))), .val (.ref a3), .val (.int (1 : Int32)), .val (.int (1 : Int32)), .val (.int r51), .unset, .unset, .unset, .unset, .unset, .unset, .unset] [])) (fun t k => XS.icmpNo Y39.here hx rfl (hb hby at_111) rfl (teq (by decide)).2 k) ?_
        refine Rn.go (T' := T38) (g' := (mkF m 117 #[.val (.int p0), .val (.int p1), .val (.int p2), .val (.int (3 : Int32)), .val (.int (dB + (1 : Int32))), .val (.ref a3), .val (.int (1 : Int32)), .val (.int (1 : Int32)), .val (.int r51), .unset, .unset, .unset, .unset, .unset, .unset, .unset] [(.int (p2 &&& (2 : Int32)))])) (fun t k => ?_) ?_
        · show Steps p.tables e below (T38.setTop (mkF m 114 #[.val (.int p0), .val (.int p1), .val (.int p2), .val (.int (3 : Int32)), .val (.int (dB + (1 : Int32))), .val (.ref a3), .val (.int (1 : Int32)), .val (.int (1 : Int32)), .val (.int r51), .unset, .unset, .unset, .unset, .unset, .unset, .unset] [])) t
          refine XS.iloadN Y39.here hx rfl (hb hby at_114) rfl ?_
          show Steps p.tables e below (T38.setTop (mkF m 115 #[.val (.int p0), .val (.int p1), .val (.int p2), .val (.int (3 : Int32)), .val (.int (dB + (1 : Int32))), .val (.ref a3), .val (.int (1 : Int32)), .val (.int (1 : Int32)), .val (.int r51), .unset, .unset, .unset, .unset, .unset, .unset, .unset] [(.int p2)])) t
          refine XS.iconst Y39.here hx rfl (hb hby at_115) ?_
          show Steps p.tables e below (T38.setTop (mkF m 116 #[.val (.int p0), .val (.int p1), .val (.int p2), .val (.int (3 : Int32)), .val (.int (dB + (1 : Int32))), .val (.ref a3), .val (.int (1 : Int32)), .val (.int (1 : Int32)), .val (.int r51), .unset, .unset, .unset, .unset, .unset, .unset, .unset] [(.int (2 : Int32)), (.int p2)])) t
          refine XS.iand Y39.here hx rfl (hb hby at_116) rfl ?_
          show Steps p.tables e below (T38.setTop (mkF m 117 #[.val (.int p0), .val (.int p1), .val (.int p2), .val (.int (3 : Int32)), .val (.int (dB + (1 : Int32))), .val (.ref a3), .val (.int (1 : Int32)), .val (.int (1 : Int32)), .val (.int r51), .unset, .unset, .unset, .unset, .unset, .unset, .unset] [(.int (p2 &&& (2 : Int32)))])) t
          exact k
        by_cases hc117 : (p2 &&& (2 : Int32)) = (0 : Int32)
        · refine Rn.go (T' := T38) (g' := (mkF m 133 #[.val (.int p0), .val (.int p1), .val (.int p2), .val (.int (3 : Int32)), .val (.int (dB + (1 : Int32))), .val (.ref a3), .val (.int (1 : Int32)), .val (.int (1 : Int32)), .val (.int r51), .unset, .unset, .unset, .unset, .unset, .unset, .unset] [])) (fun t k => XS.ifYes Y39.here hx rfl (pc0 := 117) (pc' := 133) rfl (hb hby at_117) rfl ((if0 _ _).trans (teq hc117).1) (by decide) (by decide) k) ?_
          refine Rn.go (T' := T38) (g' := (mkF m 138 #[.val (.int p0), .val (.int p1), .val (.int p2), .val (.int (3 : Int32)), .val (.int (dB + (1 : Int32))), .val (.ref a3), .val (.int (1 : Int32)), .val (.int (1 : Int32)), .val (.int r51), .unset, .unset, .unset, .unset, .unset, .unset, .unset] [(.int (2 : Int32)), (.int (1 : Int32)), (.ref a3)])) (fun t k => ?_) ?_
          · show Steps p.tables e below (T38.setTop (mkF m 133 #[.val (.int p0), .val (.int p1), .val (.int p2), .val (.int (3 : Int32)), .val (.int (dB + (1 : Int32))), .val (.ref a3), .val (.int (1 : Int32)), .val (.int (1 : Int32)), .val (.int r51), .unset, .unset, .unset, .unset, .unset, .unset, .unset] [])) t
            refine XS.aload Y39.here hx rfl (hb hby at_133) rfl rfl ?_
            show Steps p.tables e below (T38.setTop (mkF m 135 #[.val (.int p0), .val (.int p1), .val (.int p2), .val (.int (3 : Int32)), .val (.int (dB + (1 : Int32))), .val (.ref a3), .val (.int (1 : Int32)), .val (.int (1 : Int32)), .val (.int r51), .unset, .unset, .unset, .unset, .unset, .unset, .unset] [(.ref a3)])) t
            refine XS.iload Y39.here hx rfl (hb hby at_135) rfl ?_
            show Steps p.tables e below (T38.setTop (mkF m 137 #[.val (.int p0), .val (.int p1), .val (.int p2), .val (.int (3 : Int32)), .val (.int (dB + (1 : Int32))), .val (.ref a3), .val (.int (1 : Int32)), .val (.int (1 : Int32)), .val (.int r51), .unset, .unset, .unset, .unset, .unset, .unset, .unset] [(.int (1 : Int32)), (.ref a3)])) t
            refine XS.iconst Y39.here hx rfl (hb hby at_137) ?_
            show Steps p.tables e below (T38.setTop (mkF m 138 #[.val (.int p0), .val (.int p1), .val (.int p2), .val (.int (3 : Int32)), .val (.int (dB + (1 : Int32))), .val (.ref a3), .val (.int (1 : Int32)), .val (.int (1 : Int32)), .val (.int r51), .unset, .unset, .unset, .unset, .unset, .unset, .unset] [(.int (2 : Int32)), (.int (1 : Int32)), (.ref a3)])) t
            exact k
          refine On.virtual Y39 hx hZ (y := (⟨"com/example/arborplan/arborplan/tree/DisjointSets", "union", "(II)I"⟩ : MethodName)) (C := "com/example/arborplan/arborplan/tree/DisjointSets") hown (w15 hw) (w16 hw) (w17 hw) (w18 hw) (w19 hw) (w3 hw) (by decide) (a := a3) (argsL := [(.int (1 : Int32)), (.int (2 : Int32))]) (rest := []) (i := 0) rfl (rm3 l Z a0 hw n0 a3 (1 : Int32) (2 : Int32) a9 a10 (own_pn [(0 : Int32), (1 : Int32), (2 : Int32), (3 : Int32), (4 : Int32), (5 : Int32)] [(1 : Int32), (1 : Int32), (1 : Int32), (1 : Int32), (1 : Int32), (1 : Int32)] (1 : Int32) (0 : Int32)) (own_sn [(1 : Int32), (1 : Int32), (1 : Int32), (1 : Int32), (1 : Int32), (1 : Int32)] (1 : Int32) (0 : Int32)) [] (by decide) (by decide) (by decide) (by decide) (by decide) (by decide)) (W := 0) (by decide) (by decide) (by decide) (by decide) (g := (mkF m 138 #[.val (.int p0), .val (.int p1), .val (.int p2), .val (.int (3 : Int32)), .val (.int (dB + (1 : Int32))), .val (.ref a3), .val (.int (1 : Int32)), .val (.int (1 : Int32)), .val (.int r51), .unset, .unset, .unset, .unset, .unset, .unset, .unset] [(.int (2 : Int32)), (.int (1 : Int32)), (.ref a3)])) rfl (by rw [hml]; rfl) (lenOf pd1 rfl) rfl (by show 2 * 0 + _ ≤ _; exact Nat.le_of_eq rfl) (hb hby at_138) ?_
          intro T43 u45 D46 hp47 Y44
          obtain ⟨r138, hr138, rfl, rfl⟩ : ∃ z : Int32, z = (own_ro (own_sn [(1 : Int32), (1 : Int32), (1 : Int32), (1 : Int32), (1 : Int32), (1 : Int32)] (1 : Int32) (0 : Int32)) (1 : Int32) (2 : Int32)) ∧ u45 = some (.int z) ∧ D46 = _ := ⟨_, rfl, hp47.1, hp47.2⟩
          replace Y44 : On p l e _ s m _ below meth c Z n0 T43 3 14 [ob a3 own_C0 (own_F0 (.ref a9) (.ref a10)), ari a9 .int (6 : Int32) (own_pn (own_pn [(0 : Int32), (1 : Int32), (2 : Int32), (3 : Int32), (4 : Int32), (5 : Int32)] [(1 : Int32), (1 : Int32), (1 : Int32), (1 : Int32), (1 : Int32), (1 : Int32)] (1 : Int32) (0 : Int32)) (own_sn [(1 : Int32), (1 : Int32), (1 : Int32), (1 : Int32), (1 : Int32), (1 : Int32)] (1 : Int32) (0 : Int32)) (1 : Int32) (2 : Int32)), ari a10 .int (6 : Int32) (own_sn (own_sn [(1 : Int32), (1 : Int32), (1 : Int32), (1 : Int32), (1 : Int32), (1 : Int32)] (1 : Int32) (0 : Int32)) (1 : Int32) (2 : Int32))] := Y44
          show Rn p e below F T43 (mkF m 141 #[.val (.int p0), .val (.int p1), .val (.int p2), .val (.int (3 : Int32)), .val (.int (dB + (1 : Int32))), .val (.ref a3), .val (.int (1 : Int32)), .val (.int (1 : Int32)), .val (.int r51), .unset, .unset, .unset, .unset, .unset, .unset, .unset] [(.int r138)])
          refine Rn.go (T' := T43) (g' := (mkF m 145 #[.val (.int p0), .val (.int p1), .val (.int p2), .val (.int (3 : Int32)), .val (.int (dB + (1 : Int32))), .val (.ref a3), .val (.int (1 : Int32)), .val (.int (1 : Int32)), .val (.int r138), .unset, .unset, .unset, .unset, .unset, .unset, .unset] [(.int (1 : Int32))])) (fun t k => ?_) ?_
          · show Steps p.tables e below (T43.setTop (mkF m 141 #[.val (.int p0), .val (.int p1), .val (.int p2), .val (.int (3 : Int32)), .val (.int (dB + (1 : Int32))), .val (.ref a3), .val (.int (1 : Int32)), .val (.int (1 : Int32)), .val (.int r51), .unset, .unset, .unset, .unset, .unset, .unset, .unset] [(.int r138)])) t
            refine XS.istore Y44.here hx rfl (hb hby at_141) rfl (l' := #[.val (.int p0), .val (.int p1), .val (.int p2), .val (.int (3 : Int32)), .val (.int (dB + (1 : Int32))), .val (.ref a3), .val (.int (1 : Int32)), .val (.int (1 : Int32)), .val (.int r138), .unset, .unset, .unset, .unset, .unset, .unset, .unset]) rfl ?_
            show Steps p.tables e below (T43.setTop (mkF m 143 #[.val (.int p0), .val (.int p1), .val (.int p2), .val (.int (3 : Int32)), .val (.int (dB + (1 : Int32))), .val (.ref a3), .val (.int (1 : Int32)), .val (.int (1 : Int32)), .val (.int r138), .unset, .unset, .unset, .unset, .unset, .unset, .unset] [])) t
            refine XS.iload Y44.here hx rfl (hb hby at_143) rfl ?_
            show Steps p.tables e below (T43.setTop (mkF m 145 #[.val (.int p0), .val (.int p1), .val (.int p2), .val (.int (3 : Int32)), .val (.int (dB + (1 : Int32))), .val (.ref a3), .val (.int (1 : Int32)), .val (.int (1 : Int32)), .val (.int r138), .unset, .unset, .unset, .unset, .unset, .unset, .unset] [(.int (1 : Int32))])) t
            exact k
          refine Rn.go (T' := T43) (g' := (mkF m 148 #[.val (.int p0), .val (.int p1), .val (.int p2), .val (.int (3 : Int32)), .val (.int (dB + (1 : Int32))), .val (.ref a3), .val (.int (1 : Int32)), .val (.int (1 : Int32)), .val (.int r138), .unset, .unset, .unset, .unset, .unset, .unset, .unset] [])) (fun t k => XS.ifNo Y44.here hx rfl (hb hby at_145) rfl ((if0 _ _).trans (feq (by decide)).1) k) ?_
          refine Rn.go (T' := T43) (g' := (mkF m 152 #[.val (.int p0), .val (.int p1), .val (.int p2), .val (.int (3 : Int32)), .val (.int (dB + (1 : Int32))), .val (.ref a3), .val (.int (1 : Int32)), .val (.int (1 : Int32)), .val (.int r138), .unset, .unset, .unset, .unset, .unset, .unset, .unset] [(.int (1 : Int32)), (.int r138)])) (fun t k => ?_) ?_
          · show Steps p.tables e below (T43.setTop (mkF m 148 #[.val (.int p0), .val (.int p1), .val (.int p2), .val (.int (3 : Int32)), .val (.int (dB + (1 : Int32))), .val (.ref a3), .val (.int (1 : Int32)), .val (.int (1 : Int32)), .val (.int r138), .unset, .unset, .unset, .unset, .unset, .unset, .unset] [])) t
            refine XS.iload Y44.here hx rfl (hb hby at_148) rfl ?_
            show Steps p.tables e below (T43.setTop (mkF m 150 #[.val (.int p0), .val (.int p1), .val (.int p2), .val (.int (3 : Int32)), .val (.int (dB + (1 : Int32))), .val (.ref a3), .val (.int (1 : Int32)), .val (.int (1 : Int32)), .val (.int r138), .unset, .unset, .unset, .unset, .unset, .unset, .unset] [(.int r138)])) t
            refine XS.iload Y44.here hx rfl (hb hby at_150) rfl ?_
            show Steps p.tables e below (T43.setTop (mkF m 152 #[.val (.int p0), .val (.int p1), .val (.int p2), .val (.int (3 : Int32)), .val (.int (dB + (1 : Int32))), .val (.ref a3), .val (.int (1 : Int32)), .val (.int (1 : Int32)), .val (.int r138), .unset, .unset, .unset, .unset, .unset, .unset, .unset] [(.int (1 : Int32)), (.int r138)])) t
            exact k
          refine Rn.go (T' := T43) (g' := (mkF m 155 #[.val (.int p0), .val (.int p1), .val (.int p2), .val (.int (3 : Int32)), .val (.int (dB + (1 : Int32))), .val (.ref a3), .val (.int (1 : Int32)), .val (.int (1 : Int32)), .val (.int r138), .unset, .unset, .unset, .unset, .unset, .unset, .unset] [])) (fun t k => XS.icmpNo Y44.here hx rfl (hb hby at_152) rfl (teq (by rw [hr138]; decide)).2 k) ?_
          refine Rn.go (T' := T43) (g' := (mkF m 165 #[.val (.int p0), .val (.int p1), .val (.int p2), .val (.int (3 : Int32)), .val (.int (dB + (1 : Int32))), .val (.ref a3), .val (.int (1 : Int32)), .val (.int (1 : Int32)), .val (.int (3 : Int32)), .unset, .unset, .unset, .unset, .unset, .unset, .unset] [])) (fun t k => ?_) ?_
          · show Steps p.tables e below (T43.setTop (mkF m 155 #[.val (.int p0), .val (.int p1), .val (.int p2), .val (.int (3 : Int32)), .val (.int (dB + (1 : Int32))), .val (.ref a3), .val (.int (1 : Int32)), .val (.int (1 : Int32)), .val (.int r138), .unset, .unset, .unset, .unset, .unset, .unset, .unset] [])) t
            refine XS.iconst Y44.here hx rfl (hb hby at_155) ?_
            show Steps p.tables e below (T43.setTop (mkF m 156 #[.val (.int p0), .val (.int p1), .val (.int p2), .val (.int (3 : Int32)), .val (.int (dB + (1 : Int32))), .val (.ref a3), .val (.int (1 : Int32)), .val (.int (1 : Int32)), .val (.int r138), .unset, .unset, .unset, .unset, .unset, .unset, .unset] [(.int (1 : Int32))])) t
            refine XS.goto Y44.here hx rfl (pc0 := 156) (pc' := 160) rfl (hb hby at_156) (by decide) (by decide) ?_
            show Steps p.tables e below (T43.setTop (mkF m 160 #[.val (.int p0), .val (.int p1), .val (.int p2), .val (.int (3 : Int32)), .val (.int (dB + (1 : Int32))), .val (.ref a3), .val (.int (1 : Int32)), .val (.int (1 : Int32)), .val (.int r138), .unset, .unset, .unset, .unset, .unset, .unset, .unset] [(.int (1 : Int32))])) t
            refine XS.istore Y44.here hx rfl (hb hby at_160) rfl (l' := #[.val (.int p0), .val (.int p1), .val (.int p2), .val (.int (3 : Int32)), .val (.int (dB + (1 : Int32))), .val (.ref a3), .val (.int (1 : Int32)), .val (.int (1 : Int32)), .val (.int r138), .unset, .unset, .unset, .unset, .unset, .unset, .unset]) rfl ?_
            show Steps p.tables e below (T43.setTop (mkF m 162 #[.val (.int p0), .val (.int p1), .val (.int p2), .val (.int (3 : Int32)), .val (.int (dB + (1 : Int32))), .val (.ref a3), .val (.int (1 : Int32)), .val (.int (1 : Int32)), .val (.int r138), .unset, .unset, .unset, .unset, .unset, .unset, .unset] [])) t
            refine XS.iconst Y44.here hx rfl (hb hby at_162) ?_
            show Steps p.tables e below (T43.setTop (mkF m 163 #[.val (.int p0), .val (.int p1), .val (.int p2), .val (.int (3 : Int32)), .val (.int (dB + (1 : Int32))), .val (.ref a3), .val (.int (1 : Int32)), .val (.int (1 : Int32)), .val (.int r138), .unset, .unset, .unset, .unset, .unset, .unset, .unset] [(.int (3 : Int32))])) t
            refine XS.istore Y44.here hx rfl (hb hby at_163) rfl (l' := #[.val (.int p0), .val (.int p1), .val (.int p2), .val (.int (3 : Int32)), .val (.int (dB + (1 : Int32))), .val (.ref a3), .val (.int (1 : Int32)), .val (.int (1 : Int32)), .val (.int (3 : Int32)), .unset, .unset, .unset, .unset, .unset, .unset, .unset]) rfl ?_
            show Steps p.tables e below (T43.setTop (mkF m 165 #[.val (.int p0), .val (.int p1), .val (.int p2), .val (.int (3 : Int32)), .val (.int (dB + (1 : Int32))), .val (.ref a3), .val (.int (1 : Int32)), .val (.int (1 : Int32)), .val (.int (3 : Int32)), .unset, .unset, .unset, .unset, .unset, .unset, .unset] [])) t
            exact k
          exact HJ165 _ (4 : Int32) _ (by decide) (by decide) (by decide) (by rw [(by decide : own_P (4 : Int32) (0 : Int32) = (own_pn (own_pn [(0 : Int32), (1 : Int32), (2 : Int32), (3 : Int32), (4 : Int32), (5 : Int32)] [(1 : Int32), (1 : Int32), (1 : Int32), (1 : Int32), (1 : Int32), (1 : Int32)] (1 : Int32) (0 : Int32)) (own_sn [(1 : Int32), (1 : Int32), (1 : Int32), (1 : Int32), (1 : Int32), (1 : Int32)] (1 : Int32) (0 : Int32)) (1 : Int32) (2 : Int32))), (by decide : own_S (4 : Int32) (0 : Int32) = (own_sn (own_sn [(1 : Int32), (1 : Int32), (1 : Int32), (1 : Int32), (1 : Int32), (1 : Int32)] (1 : Int32) (0 : Int32)) (1 : Int32) (2 : Int32)))]; exact Y44)
        · refine Rn.go (T' := T38) (g' := (mkF m 120 #[.val (.int p0), .val (.int p1), .val (.int p2), .val (.int (3 : Int32)), .val (.int (dB + (1 : Int32))), .val (.ref a3), .val (.int (1 : Int32)), .val (.int (1 : Int32)), .val (.int r51), .unset, .unset, .unset, .unset, .unset, .unset, .unset] [])) (fun t k => XS.ifNo Y39.here hx rfl (hb hby at_117) rfl ((if0 _ _).trans (feq hc117).1) k) ?_
          refine Rn.go (T' := T38) (g' := (mkF m 125 #[.val (.int p0), .val (.int p1), .val (.int p2), .val (.int (3 : Int32)), .val (.int (dB + (1 : Int32))), .val (.ref a3), .val (.int (1 : Int32)), .val (.int (1 : Int32)), .val (.int r51), .unset, .unset, .unset, .unset, .unset, .unset, .unset] [(.int (1 : Int32)), (.int (2 : Int32)), (.ref a3)])) (fun t k => ?_) ?_
          · show Steps p.tables e below (T38.setTop (mkF m 120 #[.val (.int p0), .val (.int p1), .val (.int p2), .val (.int (3 : Int32)), .val (.int (dB + (1 : Int32))), .val (.ref a3), .val (.int (1 : Int32)), .val (.int (1 : Int32)), .val (.int r51), .unset, .unset, .unset, .unset, .unset, .unset, .unset] [])) t
            refine XS.aload Y39.here hx rfl (hb hby at_120) rfl rfl ?_
            show Steps p.tables e below (T38.setTop (mkF m 122 #[.val (.int p0), .val (.int p1), .val (.int p2), .val (.int (3 : Int32)), .val (.int (dB + (1 : Int32))), .val (.ref a3), .val (.int (1 : Int32)), .val (.int (1 : Int32)), .val (.int r51), .unset, .unset, .unset, .unset, .unset, .unset, .unset] [(.ref a3)])) t
            refine XS.iconst Y39.here hx rfl (hb hby at_122) ?_
            show Steps p.tables e below (T38.setTop (mkF m 123 #[.val (.int p0), .val (.int p1), .val (.int p2), .val (.int (3 : Int32)), .val (.int (dB + (1 : Int32))), .val (.ref a3), .val (.int (1 : Int32)), .val (.int (1 : Int32)), .val (.int r51), .unset, .unset, .unset, .unset, .unset, .unset, .unset] [(.int (2 : Int32)), (.ref a3)])) t
            refine XS.iload Y39.here hx rfl (hb hby at_123) rfl ?_
            show Steps p.tables e below (T38.setTop (mkF m 125 #[.val (.int p0), .val (.int p1), .val (.int p2), .val (.int (3 : Int32)), .val (.int (dB + (1 : Int32))), .val (.ref a3), .val (.int (1 : Int32)), .val (.int (1 : Int32)), .val (.int r51), .unset, .unset, .unset, .unset, .unset, .unset, .unset] [(.int (1 : Int32)), (.int (2 : Int32)), (.ref a3)])) t
            exact k
          refine On.virtual Y39 hx hZ (y := (⟨"com/example/arborplan/arborplan/tree/DisjointSets", "union", "(II)I"⟩ : MethodName)) (C := "com/example/arborplan/arborplan/tree/DisjointSets") hown (w15 hw) (w16 hw) (w17 hw) (w18 hw) (w19 hw) (w3 hw) (by decide) (a := a3) (argsL := [(.int (2 : Int32)), (.int (1 : Int32))]) (rest := []) (i := 0) rfl (rm3 l Z a0 hw n0 a3 (2 : Int32) (1 : Int32) a9 a10 (own_pn [(0 : Int32), (1 : Int32), (2 : Int32), (3 : Int32), (4 : Int32), (5 : Int32)] [(1 : Int32), (1 : Int32), (1 : Int32), (1 : Int32), (1 : Int32), (1 : Int32)] (1 : Int32) (0 : Int32)) (own_sn [(1 : Int32), (1 : Int32), (1 : Int32), (1 : Int32), (1 : Int32), (1 : Int32)] (1 : Int32) (0 : Int32)) [] (by decide) (by decide) (by decide) (by decide) (by decide) (by decide)) (W := 0) (by decide) (by decide) (by decide) (by decide) (g := (mkF m 125 #[.val (.int p0), .val (.int p1), .val (.int p2), .val (.int (3 : Int32)), .val (.int (dB + (1 : Int32))), .val (.ref a3), .val (.int (1 : Int32)), .val (.int (1 : Int32)), .val (.int r51), .unset, .unset, .unset, .unset, .unset, .unset, .unset] [(.int (1 : Int32)), (.int (2 : Int32)), (.ref a3)])) rfl (by rw [hml]; rfl) (lenOf pd1 rfl) rfl (by show 2 * 0 + _ ≤ _; exact Nat.le_of_eq rfl) (hb hby at_125) ?_
          intro T48 u50 D51 hp52 Y49
          obtain ⟨r125, hr125, rfl, rfl⟩ : ∃ z : Int32, z = (own_ro (own_sn [(1 : Int32), (1 : Int32), (1 : Int32), (1 : Int32), (1 : Int32), (1 : Int32)] (1 : Int32) (0 : Int32)) (2 : Int32) (1 : Int32)) ∧ u50 = some (.int z) ∧ D51 = _ := ⟨_, rfl, hp52.1, hp52.2⟩
          replace Y49 : On p l e _ s m _ below meth c Z n0 T48 3 14 [ob a3 own_C0 (own_F0 (.ref a9) (.ref a10)), ari a9 .int (6 : Int32) (own_pn (own_pn [(0 : Int32), (1 : Int32), (2 : Int32), (3 : Int32), (4 : Int32), (5 : Int32)] [(1 : Int32), (1 : Int32), (1 : Int32), (1 : Int32), (1 : Int32), (1 : Int32)] (1 : Int32) (0 : Int32)) (own_sn [(1 : Int32), (1 : Int32), (1 : Int32), (1 : Int32), (1 : Int32), (1 : Int32)] (1 : Int32) (0 : Int32)) (2 : Int32) (1 : Int32)), ari a10 .int (6 : Int32) (own_sn (own_sn [(1 : Int32), (1 : Int32), (1 : Int32), (1 : Int32), (1 : Int32), (1 : Int32)] (1 : Int32) (0 : Int32)) (2 : Int32) (1 : Int32))] := Y49
          show Rn p e below F T48 (mkF m 128 #[.val (.int p0), .val (.int p1), .val (.int p2), .val (.int (3 : Int32)), .val (.int (dB + (1 : Int32))), .val (.ref a3), .val (.int (1 : Int32)), .val (.int (1 : Int32)), .val (.int r51), .unset, .unset, .unset, .unset, .unset, .unset, .unset] [(.int r125)])
          refine Rn.go (T' := T48) (g' := (mkF m 145 #[.val (.int p0), .val (.int p1), .val (.int p2), .val (.int (3 : Int32)), .val (.int (dB + (1 : Int32))), .val (.ref a3), .val (.int (1 : Int32)), .val (.int (1 : Int32)), .val (.int r125), .unset, .unset, .unset, .unset, .unset, .unset, .unset] [(.int (1 : Int32))])) (fun t k => ?_) ?_
          · show Steps p.tables e below (T48.setTop (mkF m 128 #[.val (.int p0), .val (.int p1), .val (.int p2), .val (.int (3 : Int32)), .val (.int (dB + (1 : Int32))), .val (.ref a3), .val (.int (1 : Int32)), .val (.int (1 : Int32)), .val (.int r51), .unset, .unset, .unset, .unset, .unset, .unset, .unset] [(.int r125)])) t
            refine XS.istore Y49.here hx rfl (hb hby at_128) rfl (l' := #[.val (.int p0), .val (.int p1), .val (.int p2), .val (.int (3 : Int32)), .val (.int (dB + (1 : Int32))), .val (.ref a3), .val (.int (1 : Int32)), .val (.int (1 : Int32)), .val (.int r125), .unset, .unset, .unset, .unset, .unset, .unset, .unset]) rfl ?_
            show Steps p.tables e below (T48.setTop (mkF m 130 #[.val (.int p0), .val (.int p1), .val (.int p2), .val (.int (3 : Int32)), .val (.int (dB + (1 : Int32))), .val (.ref a3), .val (.int (1 : Int32)), .val (.int (1 : Int32)), .val (.int r125), .unset, .unset, .unset, .unset, .unset, .unset, .unset] [])) t
            refine XS.goto Y49.here hx rfl (pc0 := 130) (pc' := 143) rfl (hb hby at_130) (by decide) (by decide) ?_
            show Steps p.tables e below (T48.setTop (mkF m 143 #[.val (.int p0), .val (.int p1), .val (.int p2), .val (.int (3 : Int32)), .val (.int (dB + (1 : Int32))), .val (.ref a3), .val (.int (1 : Int32)), .val (.int (1 : Int32)), .val (.int r125), .unset, .unset, .unset, .unset, .unset, .unset, .unset] [])) t
            refine XS.iload Y49.here hx rfl (hb hby at_143) rfl ?_
            show Steps p.tables e below (T48.setTop (mkF m 145 #[.val (.int p0), .val (.int p1), .val (.int p2), .val (.int (3 : Int32)), .val (.int (dB + (1 : Int32))), .val (.ref a3), .val (.int (1 : Int32)), .val (.int (1 : Int32)), .val (.int r125), .unset, .unset, .unset, .unset, .unset, .unset, .unset] [(.int (1 : Int32))])) t
            exact k
          refine Rn.go (T' := T48) (g' := (mkF m 148 #[.val (.int p0), .val (.int p1), .val (.int p2), .val (.int (3 : Int32)), .val (.int (dB + (1 : Int32))), .val (.ref a3), .val (.int (1 : Int32)), .val (.int (1 : Int32)), .val (.int r125), .unset, .unset, .unset, .unset, .unset, .unset, .unset] [])) (fun t k => XS.ifNo Y49.here hx rfl (hb hby at_145) rfl ((if0 _ _).trans (feq (by decide)).1) k) ?_
          refine Rn.go (T' := T48) (g' := (mkF m 152 #[.val (.int p0), .val (.int p1), .val (.int p2), .val (.int (3 : Int32)), .val (.int (dB + (1 : Int32))), .val (.ref a3), .val (.int (1 : Int32)), .val (.int (1 : Int32)), .val (.int r125), .unset, .unset, .unset, .unset, .unset, .unset, .unset] [(.int (1 : Int32)), (.int r125)])) (fun t k => ?_) ?_
          · show Steps p.tables e below (T48.setTop (mkF m 148 #[.val (.int p0), .val (.int p1), .val (.int p2), .val (.int (3 : Int32)), .val (.int (dB + (1 : Int32))), .val (.ref a3), .val (.int (1 : Int32)), .val (.int (1 : Int32)), .val (.int r125), .unset, .unset, .unset, .unset, .unset, .unset, .unset] [])) t
            refine XS.iload Y49.here hx rfl (hb hby at_148) rfl ?_
            show Steps p.tables e below (T48.setTop (mkF m 150 #[.val (.int p0), .val (.int p1), .val (.int p2), .val (.int (3 : Int32)), .val (.int (dB + (1 : Int32))), .val (.ref a3), .val (.int (1 : Int32)), .val (.int (1 : Int32)), .val (.int r125), .unset, .unset, .unset, .unset, .unset, .unset, .unset] [(.int r125)])) t
            refine XS.iload Y49.here hx rfl (hb hby at_150) rfl ?_
            show Steps p.tables e below (T48.setTop (mkF m 152 #[.val (.int p0), .val (.int p1), .val (.int p2), .val (.int (3 : Int32)), .val (.int (dB + (1 : Int32))), .val (.ref a3), .val (.int (1 : Int32)), .val (.int (1 : Int32)), .val (.int r125), .unset, .unset, .unset, .unset, .unset, .unset, .unset] [(.int (1 : Int32)), (.int r125)])) t
            exact k
          refine Rn.go (T' := T48) (g' := (mkF m 155 #[.val (.int p0), .val (.int p1), .val (.int p2), .val (.int (3 : Int32)), .val (.int (dB + (1 : Int32))), .val (.ref a3), .val (.int (1 : Int32)), .val (.int (1 : Int32)), .val (.int r125), .unset, .unset, .unset, .unset, .unset, .unset, .unset] [])) (fun t k => XS.icmpNo Y49.here hx rfl (hb hby at_152) rfl (teq (by rw [hr125]; decide)).2 k) ?_
          refine Rn.go (T' := T48) (g' := (mkF m 165 #[.val (.int p0), .val (.int p1), .val (.int p2), .val (.int (3 : Int32)), .val (.int (dB + (1 : Int32))), .val (.ref a3), .val (.int (1 : Int32)), .val (.int (1 : Int32)), .val (.int (3 : Int32)), .unset, .unset, .unset, .unset, .unset, .unset, .unset] [])) (fun t k => ?_) ?_
          · show Steps p.tables e below (T48.setTop (mkF m 155 #[.val (.int p0), .val (.int p1), .val (.int p2), .val (.int (3 : Int32)), .val (.int (dB + (1 : Int32))), .val (.ref a3), .val (.int (1 : Int32)), .val (.int (1 : Int32)), .val (.int r125), .unset, .unset, .unset, .unset, .unset, .unset, .unset] [])) t
            refine XS.iconst Y49.here hx rfl (hb hby at_155) ?_
            show Steps p.tables e below (T48.setTop (mkF m 156 #[.val (.int p0), .val (.int p1), .val (.int p2), .val (.int (3 : Int32)), .val (.int (dB + (1 : Int32))), .val (.ref a3), .val (.int (1 : Int32)), .val (.int (1 : Int32)), .val (.int r125), .unset, .unset, .unset, .unset, .unset, .unset, .unset] [(.int (1 : Int32))])) t
            refine XS.goto Y49.here hx rfl (pc0 := 156) (pc' := 160) rfl (hb hby at_156) (by decide) (by decide) ?_
            show Steps p.tables e below (T48.setTop (mkF m 160 #[.val (.int p0), .val (.int p1), .val (.int p2), .val (.int (3 : Int32)), .val (.int (dB + (1 : Int32))), .val (.ref a3), .val (.int (1 : Int32)), .val (.int (1 : Int32)), .val (.int r125), .unset, .unset, .unset, .unset, .unset, .unset, .unset] [(.int (1 : Int32))])) t
            refine XS.istore Y49.here hx rfl (hb hby at_160) rfl (l' := #[.val (.int p0), .val (.int p1), .val (.int p2), .val (.int (3 : Int32)), .val (.int (dB + (1 : Int32))), .val (.ref a3), .val (.int (1 : Int32)), .val (.int (1 : Int32)), .val (.int r125), .unset, .unset, .unset, .unset, .unset, .unset, .unset]) rfl ?_
            show Steps p.tables e below (T48.setTop (mkF m 162 #[.val (.int p0), .val (.int p1), .val (.int p2), .val (.int (3 : Int32)), .val (.int (dB + (1 : Int32))), .val (.ref a3), .val (.int (1 : Int32)), .val (.int (1 : Int32)), .val (.int r125), .unset, .unset, .unset, .unset, .unset, .unset, .unset] [])) t
            refine XS.iconst Y49.here hx rfl (hb hby at_162) ?_
            show Steps p.tables e below (T48.setTop (mkF m 163 #[.val (.int p0), .val (.int p1), .val (.int p2), .val (.int (3 : Int32)), .val (.int (dB + (1 : Int32))), .val (.ref a3), .val (.int (1 : Int32)), .val (.int (1 : Int32)), .val (.int r125), .unset, .unset, .unset, .unset, .unset, .unset, .unset] [(.int (3 : Int32))])) t
            refine XS.istore Y49.here hx rfl (hb hby at_163) rfl (l' := #[.val (.int p0), .val (.int p1), .val (.int p2), .val (.int (3 : Int32)), .val (.int (dB + (1 : Int32))), .val (.ref a3), .val (.int (1 : Int32)), .val (.int (1 : Int32)), .val (.int (3 : Int32)), .unset, .unset, .unset, .unset, .unset, .unset, .unset]) rfl ?_
            show Steps p.tables e below (T48.setTop (mkF m 165 #[.val (.int p0), .val (.int p1), .val (.int p2), .val (.int (3 : Int32)), .val (.int (dB + (1 : Int32))), .val (.ref a3), .val (.int (1 : Int32)), .val (.int (1 : Int32)), .val (.int (3 : Int32)), .unset, .unset, .unset, .unset, .unset, .unset, .unset] [])) t
            exact k
          exact HJ165 _ (4 : Int32) _ (by decide) (by decide) (by decide) (by rw [(by decide : own_P (4 : Int32) (0 : Int32) = (own_pn (own_pn [(0 : Int32), (1 : Int32), (2 : Int32), (3 : Int32), (4 : Int32), (5 : Int32)] [(1 : Int32), (1 : Int32), (1 : Int32), (1 : Int32), (1 : Int32), (1 : Int32)] (1 : Int32) (0 : Int32)) (own_sn [(1 : Int32), (1 : Int32), (1 : Int32), (1 : Int32), (1 : Int32), (1 : Int32)] (1 : Int32) (0 : Int32)) (2 : Int32) (1 : Int32))), (by decide : own_S (4 : Int32) (0 : Int32) = (own_sn (own_sn [(1 : Int32), (1 : Int32), (1 : Int32), (1 : Int32), (1 : Int32), (1 : Int32)] (1 : Int32) (0 : Int32)) (2 : Int32) (1 : Int32)))]; exact Y49)
  intro T11 tA rA btA eda erA Y12
  suffices HJ309 : ∀ (T53 : State) (tB : Int32) (rB : Int32) (aF : Int32) (btB : tB = 0 ∨ tB = 1 ∨ tB = 2 ∨ tB = 3 ∨ tB = 4) (edb : dB = own_da tB) (erB : rB = own_rb tB) (haF : aF = (if (p2 &&& (16 : Int32)) = (0 : Int32) then (1 : Int32) else (0 : Int32))), On p l e room_1 s m #[(.int p0), (.int p1), (.int p2)] below meth c Z n0 T53 3 14 [ob a3 own_C0 (own_F0 (.ref a9) (.ref a10)), ari a9 .int (6 : Int32) (own_P tA tB), ari a10 .int (6 : Int32) (own_S tA tB)] → Rn p e below F T53 (mkF m 309 #[.val (.int p0), .val (.int p1), .val (.int p2), .val (.int (dA + (1 : Int32))), .val (.int (dB + (1 : Int32))), .val (.ref a3), .val (.int (1 : Int32)), .val (.int rA), .val (.int rB), .val (.int aF), .unset, .unset, .unset, .unset, .unset, .unset] []) by
    rcases own_le2 hbdB.1 hbdB.2 with edB | edB | edB
    · subst edB
      show Rn p e below F T11 (mkF m 165 #[.val (.int p0), .val (.int p1), .val (.int p2), .val (.int (dA + (1 : Int32))), .val (.int (1 : Int32)), .val (.ref a3), .val (.int (1 : Int32)), .val (.int rA), .val (.int (3 : Int32)), .unset, .unset, .unset, .unset, .unset, .unset, .unset] [])
      refine Rn.go (T' := T11) (g' := (mkF m 168 #[.val (.int p0), .val (.int p1), .val (.int p2), .val (.int (dA + (1 : Int32))), .val (.int (1 : Int32)), .val (.ref a3), .val (.int (1 : Int32)), .val (.int rA), .val (.int (3 : Int32)), .unset, .unset, .unset, .unset, .unset, .unset, .unset] [(.int (2 : Int32)), (.int (1 : Int32))])) (fun t k => ?_) ?_
      · show Steps p.tables e below (T11.setTop (mkF m 165 #[.val (.int p0), .val (.int p1), .val (.int p2), .val (.int (dA + (1 : Int32))), .val (.int (1 : Int32)), .val (.ref a3), .val (.int (1 : Int32)), .val (.int rA), .val (.int (3 : Int32)), .unset, .unset, .unset, .unset, .unset, .unset, .unset] [])) t
        refine XS.iload Y12.here hx rfl (hb hby at_165) rfl ?_
        show Steps p.tables e below (T11.setTop (mkF m 167 #[.val (.int p0), .val (.int p1), .val (.int p2), .val (.int (dA + (1 : Int32))), .val (.int (1 : Int32)), .val (.ref a3), .val (.int (1 : Int32)), .val (.int rA), .val (.int (3 : Int32)), .unset, .unset, .unset, .unset, .unset, .unset, .unset] [(.int (1 : Int32))])) t
        refine XS.iconst Y12.here hx rfl (hb hby at_167) ?_
        show Steps p.tables e below (T11.setTop (mkF m 168 #[.val (.int p0), .val (.int p1), .val (.int p2), .val (.int (dA + (1 : Int32))), .val (.int (1 : Int32)), .val (.ref a3), .val (.int (1 : Int32)), .val (.int rA), .val (.int (3 : Int32)), .unset, .unset, .unset, .unset, .unset, .unset, .unset] [(.int (2 : Int32)), (.int (1 : Int32))])) t
        exact k
      refine Rn.go (T' := T11) (g' := (mkF m 240 #[.val (.int p0), .val (.int p1), .val (.int p2), .val (.int (dA + (1 : Int32))), .val (.int (1 : Int32)), .val (.ref a3), .val (.int (1 : Int32)), .val (.int rA), .val (.int (3 : Int32)), .unset, .unset, .unset, .unset, .unset, .unset, .unset] [])) (fun t k => XS.icmpYes Y12.here hx rfl (pc0 := 168) (pc' := 240) rfl (hb hby at_168) rfl (tlt (by decide)).1 (by decide) (by decide) k) ?_
      refine Rn.go (T' := T11) (g' := (mkF m 243 #[.val (.int p0), .val (.int p1), .val (.int p2), .val (.int (dA + (1 : Int32))), .val (.int (1 : Int32)), .val (.ref a3), .val (.int (1 : Int32)), .val (.int rA), .val (.int (3 : Int32)), .unset, .unset, .unset, .unset, .unset, .unset, .unset] [(.int (3 : Int32)), (.int (1 : Int32))])) (fun t k => ?_) ?_
      · show Steps p.tables e below (T11.setTop (mkF m 240 #[.val (.int p0), .val (.int p1), .val (.int p2), .val (.int (dA + (1 : Int32))), .val (.int (1 : Int32)), .val (.ref a3), .val (.int (1 : Int32)), .val (.int rA), .val (.int (3 : Int32)), .unset, .unset, .unset, .unset, .unset, .unset, .unset] [])) t
        refine XS.iload Y12.here hx rfl (hb hby at_240) rfl ?_
        show Steps p.tables e below (T11.setTop (mkF m 242 #[.val (.int p0), .val (.int p1), .val (.int p2), .val (.int (dA + (1 : Int32))), .val (.int (1 : Int32)), .val (.ref a3), .val (.int (1 : Int32)), .val (.int rA), .val (.int (3 : Int32)), .unset, .unset, .unset, .unset, .unset, .unset, .unset] [(.int (1 : Int32))])) t
        refine XS.iconst Y12.here hx rfl (hb hby at_242) ?_
        show Steps p.tables e below (T11.setTop (mkF m 243 #[.val (.int p0), .val (.int p1), .val (.int p2), .val (.int (dA + (1 : Int32))), .val (.int (1 : Int32)), .val (.ref a3), .val (.int (1 : Int32)), .val (.int rA), .val (.int (3 : Int32)), .unset, .unset, .unset, .unset, .unset, .unset, .unset] [(.int (3 : Int32)), (.int (1 : Int32))])) t
        exact k
      refine Rn.go (T' := T11) (g' := (mkF m 295 #[.val (.int p0), .val (.int p1), .val (.int p2), .val (.int (dA + (1 : Int32))), .val (.int (1 : Int32)), .val (.ref a3), .val (.int (1 : Int32)), .val (.int rA), .val (.int (3 : Int32)), .unset, .unset, .unset, .unset, .unset, .unset, .unset] [])) (fun t k => XS.icmpYes Y12.here hx rfl (pc0 := 243) (pc' := 295) rfl (hb hby at_243) rfl (feq (by decide)).2 (by decide) (by decide) k) ?_
      refine Rn.go (T' := T11) (g' := (mkF m 299 #[.val (.int p0), .val (.int p1), .val (.int p2), .val (.int (dA + (1 : Int32))), .val (.int (1 : Int32)), .val (.ref a3), .val (.int (1 : Int32)), .val (.int rA), .val (.int (3 : Int32)), .unset, .unset, .unset, .unset, .unset, .unset, .unset] [(.int (p2 &&& (16 : Int32)))])) (fun t k => ?_) ?_
      · show Steps p.tables e below (T11.setTop (mkF m 295 #[.val (.int p0), .val (.int p1), .val (.int p2), .val (.int (dA + (1 : Int32))), .val (.int (1 : Int32)), .val (.ref a3), .val (.int (1 : Int32)), .val (.int rA), .val (.int (3 : Int32)), .unset, .unset, .unset, .unset, .unset, .unset, .unset] [])) t
        refine XS.iloadN Y12.here hx rfl (hb hby at_295) rfl ?_
        show Steps p.tables e below (T11.setTop (mkF m 296 #[.val (.int p0), .val (.int p1), .val (.int p2), .val (.int (dA + (1 : Int32))), .val (.int (1 : Int32)), .val (.ref a3), .val (.int (1 : Int32)), .val (.int rA), .val (.int (3 : Int32)), .unset, .unset, .unset, .unset, .unset, .unset, .unset] [(.int p2)])) t
        refine XS.bipush Y12.here hx rfl (hb hby at_296) ?_
        show Steps p.tables e below (T11.setTop (mkF m 298 #[.val (.int p0), .val (.int p1), .val (.int p2), .val (.int (dA + (1 : Int32))), .val (.int (1 : Int32)), .val (.ref a3), .val (.int (1 : Int32)), .val (.int rA), .val (.int (3 : Int32)), .unset, .unset, .unset, .unset, .unset, .unset, .unset] [(.int (16 : Int32)), (.int p2)])) t
        refine XS.iand Y12.here hx rfl (hb hby at_298) rfl ?_
        show Steps p.tables e below (T11.setTop (mkF m 299 #[.val (.int p0), .val (.int p1), .val (.int p2), .val (.int (dA + (1 : Int32))), .val (.int (1 : Int32)), .val (.ref a3), .val (.int (1 : Int32)), .val (.int rA), .val (.int (3 : Int32)), .unset, .unset, .unset, .unset, .unset, .unset, .unset] [(.int (p2 &&& (16 : Int32)))])) t
        exact k
      obtain ⟨v307, hv307⟩ : ∃ z : Int32, z = (if (p2 &&& (16 : Int32)) = (0 : Int32) then (1 : Int32) else (0 : Int32)) := ⟨_, rfl⟩
      refine Rn.go (T' := T11) (g' := (mkF m 307 #[.val (.int p0), .val (.int p1), .val (.int p2), .val (.int (dA + (1 : Int32))), .val (.int (1 : Int32)), .val (.ref a3), .val (.int (1 : Int32)), .val (.int rA), .val (.int (3 : Int32)), .unset, .unset, .unset, .unset, .unset, .unset, .unset] [(.int v307)])) (fun t k => ?_) ?_
      · show Steps p.tables e below (T11.setTop (mkF m 299 #[.val (.int p0), .val (.int p1), .val (.int p2), .val (.int (dA + (1 : Int32))), .val (.int (1 : Int32)), .val (.ref a3), .val (.int (1 : Int32)), .val (.int rA), .val (.int (3 : Int32)), .unset, .unset, .unset, .unset, .unset, .unset, .unset] [(.int (p2 &&& (16 : Int32)))])) t
        by_cases hc299 : (p2 &&& (16 : Int32)) = (0 : Int32)
        · refine XS.ifNo Y12.here hx rfl (hb hby at_299) rfl ((if0 _ _).trans (teq hc299).2) ?_
          show Steps p.tables e below (T11.setTop (mkF m 302 #[.val (.int p0), .val (.int p1), .val (.int p2), .val (.int (dA + (1 : Int32))), .val (.int (1 : Int32)), .val (.ref a3), .val (.int (1 : Int32)), .val (.int rA), .val (.int (3 : Int32)), .unset, .unset, .unset, .unset, .unset, .unset, .unset] [])) t
          refine XS.iconst Y12.here hx rfl (hb hby at_302) ?_
          show Steps p.tables e below (T11.setTop (mkF m 303 #[.val (.int p0), .val (.int p1), .val (.int p2), .val (.int (dA + (1 : Int32))), .val (.int (1 : Int32)), .val (.ref a3), .val (.int (1 : Int32)), .val (.int rA), .val (.int (3 : Int32)), .unset, .unset, .unset, .unset, .unset, .unset, .unset] [(.int (1 : Int32))])) t
          refine XS.goto Y12.here hx rfl (pc0 := 303) (pc' := 307) rfl (hb hby at_303) (by decide) (by decide) ?_
          show Steps p.tables e below (T11.setTop (mkF m 307 #[.val (.int p0), .val (.int p1), .val (.int p2), .val (.int (dA + (1 : Int32))), .val (.int (1 : Int32)), .val (.ref a3), .val (.int (1 : Int32)), .val (.int rA), .val (.int (3 : Int32)), .unset, .unset, .unset, .unset, .unset, .unset, .unset] [(.int (1 : Int32))])) t
          rw [hv307, if_pos hc299] at k
          exact k
        · refine XS.ifYes Y12.here hx rfl (pc0 := 299) (pc' := 306) rfl (hb hby at_299) rfl ((if0 _ _).trans (feq hc299).2) (by decide) (by decide) ?_
          show Steps p.tables e below (T11.setTop (mkF m 306 #[.val (.int p0), .val (.int p1), .val (.int p2), .val (.int (dA + (1 : Int32))), .val (.int (1 : Int32)), .val (.ref a3), .val (.int (1 : Int32)), .val (.int rA), .val (.int (3 : Int32)), .unset, .unset, .unset, .unset, .unset, .unset, .unset] [])) t
          refine XS.iconst Y12.here hx rfl (hb hby at_306) ?_
          show Steps p.tables e below (T11.setTop (mkF m 307 #[.val (.int p0), .val (.int p1), .val (.int p2), .val (.int (dA + (1 : Int32))), .val (.int (1 : Int32)), .val (.ref a3), .val (.int (1 : Int32)), .val (.int rA), .val (.int (3 : Int32)), .unset, .unset, .unset, .unset, .unset, .unset, .unset] [(.int (0 : Int32))])) t
          rw [hv307, if_neg hc299] at k
          exact k
      refine Rn.go (T' := T11) (g' := (mkF m 309 #[.val (.int p0), .val (.int p1), .val (.int p2), .val (.int (dA + (1 : Int32))), .val (.int (1 : Int32)), .val (.ref a3), .val (.int (1 : Int32)), .val (.int rA), .val (.int (3 : Int32)), .val (.int v307), .unset, .unset, .unset, .unset, .unset, .unset] [])) (fun t k => ?_) ?_
      · show Steps p.tables e below (T11.setTop (mkF m 307 #[.val (.int p0), .val (.int p1), .val (.int p2), .val (.int (dA + (1 : Int32))), .val (.int (1 : Int32)), .val (.ref a3), .val (.int (1 : Int32)), .val (.int rA), .val (.int (3 : Int32)), .unset, .unset, .unset, .unset, .unset, .unset, .unset] [(.int v307)])) t
        refine XS.istore Y12.here hx rfl (hb hby at_307) rfl (l' := #[.val (.int p0), .val (.int p1), .val (.int p2), .val (.int (dA + (1 : Int32))), .val (.int (1 : Int32)), .val (.ref a3), .val (.int (1 : Int32)), .val (.int rA), .val (.int (3 : Int32)), .val (.int v307), .unset, .unset, .unset, .unset, .unset, .unset]) rfl ?_
        show Steps p.tables e below (T11.setTop (mkF m 309 #[.val (.int p0), .val (.int p1), .val (.int p2), .val (.int (dA + (1 : Int32))), .val (.int (1 : Int32)), .val (.ref a3), .val (.int (1 : Int32)), .val (.int rA), .val (.int (3 : Int32)), .val (.int v307), .unset, .unset, .unset, .unset, .unset, .unset] [])) t
        exact k
      exact HJ309 _ (0 : Int32) _ _ (by decide) (by decide) (by decide) hv307 (by rw [(own_f1 btA), (own_f2 btA)]; exact Y12)
    · subst edB
      show Rn p e below F T11 (mkF m 165 #[.val (.int p0), .val (.int p1), .val (.int p2), .val (.int (dA + (1 : Int32))), .val (.int (2 : Int32)), .val (.ref a3), .val (.int (1 : Int32)), .val (.int rA), .val (.int (3 : Int32)), .unset, .unset, .unset, .unset, .unset, .unset, .unset] [])
      refine Rn.go (T' := T11) (g' := (mkF m 168 #[.val (.int p0), .val (.int p1), .val (.int p2), .val (.int (dA + (1 : Int32))), .val (.int (2 : Int32)), .val (.ref a3), .val (.int (1 : Int32)), .val (.int rA), .val (.int (3 : Int32)), .unset, .unset, .unset, .unset, .unset, .unset, .unset] [(.int (2 : Int32)), (.int (2 : Int32))])) (fun t k => ?_) ?_
      · show Steps p.tables e below (T11.setTop (mkF m 165 #[.val (.int p0), .val (.int p1), .val (.int p2), .val (.int (dA + (1 : Int32))), .val (.int (2 : Int32)), .val (.ref a3), .val (.int (1 : Int32)), .val (.int rA), .val (.int (3 : Int32)), .unset, .unset, .unset, .unset, .unset, .unset, .unset] [])) t
        refine XS.iload Y12.here hx rfl (hb hby at_165) rfl ?_
        show Steps p.tables e below (T11.setTop (mkF m 167 #[.val (.int p0), .val (.int p1), .val (.int p2), .val (.int (dA + (1 : Int32))), .val (.int (2 : Int32)), .val (.ref a3), .val (.int (1 : Int32)), .val (.int rA), .val (.int (3 : Int32)), .unset, .unset, .unset, .unset, .unset, .unset, .unset] [(.int (2 : Int32))])) t
        refine XS.iconst Y12.here hx rfl (hb hby at_167) ?_
        show Steps p.tables e below (T11.setTop (mkF m 168 #[.val (.int p0), .val (.int p1), .val (.int p2), .val (.int (dA + (1 : Int32))), .val (.int (2 : Int32)), .val (.ref a3), .val (.int (1 : Int32)), .val (.int rA), .val (.int (3 : Int32)), .unset, .unset, .unset, .unset, .unset, .unset, .unset] [(.int (2 : Int32)), (.int (2 : Int32))])) t
        exact k
      refine Rn.go (T' := T11) (g' := (mkF m 171 #[.val (.int p0), .val (.int p1), .val (.int p2), .val (.int (dA + (1 : Int32))), .val (.int (2 : Int32)), .val (.ref a3), .val (.int (1 : Int32)), .val (.int rA), .val (.int (3 : Int32)), .unset, .unset, .unset, .unset, .unset, .unset, .unset] [])) (fun t k => XS.icmpNo Y12.here hx rfl (hb hby at_168) rfl (flt (by decide)).1 k) ?_
      refine Rn.go (T' := T11) (g' := (mkF m 174 #[.val (.int p0), .val (.int p1), .val (.int p2), .val (.int (dA + (1 : Int32))), .val (.int (2 : Int32)), .val (.ref a3), .val (.int (1 : Int32)), .val (.int rA), .val (.int (3 : Int32)), .unset, .unset, .unset, .unset, .unset, .unset, .unset] [(.int (p2 &&& (4 : Int32)))])) (fun t k => ?_) ?_
      · show Steps p.tables e below (T11.setTop (mkF m 171 #[.val (.int p0), .val (.int p1), .val (.int p2), .val (.int (dA + (1 : Int32))), .val (.int (2 : Int32)), .val (.ref a3), .val (.int (1 : Int32)), .val (.int rA), .val (.int (3 : Int32)), .unset, .unset, .unset, .unset, .unset, .unset, .unset] [])) t
        refine XS.iloadN Y12.here hx rfl (hb hby at_171) rfl ?_
        show Steps p.tables e below (T11.setTop (mkF m 172 #[.val (.int p0), .val (.int p1), .val (.int p2), .val (.int (dA + (1 : Int32))), .val (.int (2 : Int32)), .val (.ref a3), .val (.int (1 : Int32)), .val (.int rA), .val (.int (3 : Int32)), .unset, .unset, .unset, .unset, .unset, .unset, .unset] [(.int p2)])) t
        refine XS.iconst Y12.here hx rfl (hb hby at_172) ?_
        show Steps p.tables e below (T11.setTop (mkF m 173 #[.val (.int p0), .val (.int p1), .val (.int p2), .val (.int (dA + (1 : Int32))), .val (.int (2 : Int32)), .val (.ref a3), .val (.int (1 : Int32)), .val (.int rA), .val (.int (3 : Int32)), .unset, .unset, .unset, .unset, .unset, .unset, .unset] [(.int (4 : Int32)), (.int p2)])) t
        refine XS.iand Y12.here hx rfl (hb hby at_173) rfl ?_
        show Steps p.tables e below (T11.setTop (mkF m 174 #[.val (.int p0), .val (.int p1), .val (.int p2), .val (.int (dA + (1 : Int32))), .val (.int (2 : Int32)), .val (.ref a3), .val (.int (1 : Int32)), .val (.int rA), .val (.int (3 : Int32)), .unset, .unset, .unset, .unset, .unset, .unset, .unset] [(.int (p2 &&& (4 : Int32)))])) t
        exact k
      by_cases hc174 : (p2 &&& (4 : Int32)) = (0 : Int32)
      · refine Rn.go (T' := T11) (g' := (mkF m 210 #[.val (.int p0), .val (.int p1), .val (.int p2), .val (.int (dA + (1 : Int32))), .val (.int (2 : Int32)), .val (.ref a3), .val (.int (1 : Int32)), .val (.int rA), .val (.int (3 : Int32)), .unset, .unset, .unset, .unset, .unset, .unset, .unset] [])) (fun t k => XS.ifYes Y12.here hx rfl (pc0 := 174) (pc' := 210) rfl (hb hby at_174) rfl ((if0 _ _).trans (teq hc174).1) (by decide) (by decide) k) ?_
        refine Rn.go (T' := T11) (g' := (mkF m 214 #[.val (.int p0), .val (.int p1), .val (.int p2), .val (.int (dA + (1 : Int32))), .val (.int (2 : Int32)), .val (.ref a3), .val (.int (1 : Int32)), .val (.int rA), .val (.int (3 : Int32)), .unset, .unset, .unset, .unset, .unset, .unset, .unset] [(.int (4 : Int32)), (.int (3 : Int32)), (.ref a3)])) (fun t k => ?_) ?_
        · show Steps p.tables e below (T11.setTop (mkF m 210 #[.val (.int p0), .val (.int p1), .val (.int p2), .val (.int (dA + (1 : Int32))), .val (.int (2 : Int32)), .val (.ref a3), .val (.int (1 : Int32)), .val (.int rA), .val (.int (3 : Int32)), .unset, .unset, .unset, .unset, .unset, .unset, .unset] [])) t
          refine XS.aload Y12.here hx rfl (hb hby at_210) rfl rfl ?_
          show Steps p.tables e below (T11.setTop (mkF m 212 #[.val (.int p0), .val (.int p1), .val (.int p2), .val (.int (dA + (1 : Int32))), .val (.int (2 : Int32)), .val (.ref a3), .val (.int (1 : Int32)), .val (.int rA), .val (.int (3 : Int32)), .unset, .unset, .unset, .unset, .unset, .unset, .unset] [(.ref a3)])) t
          refine XS.iconst Y12.here hx rfl (hb hby at_212) ?_
          show Steps p.tables e below (T11.setTop (mkF m 213 #[.val (.int p0), .val (.int p1), .val (.int p2), .val (.int (dA + (1 : Int32))), .val (.int (2 : Int32)), .val (.ref a3), .val (.int (1 : Int32)), .val (.int rA), .val (.int (3 : Int32)), .unset, .unset, .unset, .unset, .unset, .unset, .unset] [(.int (3 : Int32)), (.ref a3)])) t
          refine XS.iconst Y12.here hx rfl (hb hby at_213) ?_
          show Steps p.tables e below (T11.setTop (mkF m 214 #[.val (.int p0), .val (.int p1), .val (.int p2), .val (.int (dA + (1 : Int32))), .val (.int (2 : Int32)), .val (.ref a3), .val (.int (1 : Int32)), .val (.int rA), .val (.int (3 : Int32)), .unset, .unset, .unset, .unset, .unset, .unset, .unset] [(.int (4 : Int32)), (.int (3 : Int32)), (.ref a3)])) t
          exact k
        refine On.virtual Y12 hx hZ (y := (⟨"com/example/arborplan/arborplan/tree/DisjointSets", "union", "(II)I"⟩ : MethodName)) (C := "com/example/arborplan/arborplan/tree/DisjointSets") hown (w15 hw) (w16 hw) (w17 hw) (w18 hw) (w19 hw) (w3 hw) (by decide) (a := a3) (argsL := [(.int (3 : Int32)), (.int (4 : Int32))]) (rest := []) (i := 0) rfl (rm3 l Z a0 hw n0 a3 (3 : Int32) (4 : Int32) a9 a10 (own_P tA (0 : Int32)) (own_S tA (0 : Int32)) [] (own_f3 ) (own_f4 ) (own_f5 ) (own_f6 ) (own_f7 btA) (own_f8 btA)) (W := 0) (by decide) (by decide) (by decide) (by decide) (g := (mkF m 214 #[.val (.int p0), .val (.int p1), .val (.int p2), .val (.int (dA + (1 : Int32))), .val (.int (2 : Int32)), .val (.ref a3), .val (.int (1 : Int32)), .val (.int rA), .val (.int (3 : Int32)), .unset, .unset, .unset, .unset, .unset, .unset, .unset] [(.int (4 : Int32)), (.int (3 : Int32)), (.ref a3)])) rfl (by rw [hml]; rfl) (lenOf pd1 rfl) rfl (by show 2 * 0 + _ ≤ _; exact Nat.le_of_eq rfl) (hb hby at_214) ?_
        intro T55 u57 D58 hp59 Y56
        obtain ⟨r214, hr214, rfl, rfl⟩ : ∃ z : Int32, z = (own_ro (own_S tA (0 : Int32)) (3 : Int32) (4 : Int32)) ∧ u57 = some (.int z) ∧ D58 = _ := ⟨_, rfl, hp59.1, hp59.2⟩
        replace Y56 : On p l e _ s m _ below meth c Z n0 T55 3 14 [ob a3 own_C0 (own_F0 (.ref a9) (.ref a10)), ari a9 .int (6 : Int32) (own_pn (own_P tA (0 : Int32)) (own_S tA (0 : Int32)) (3 : Int32) (4 : Int32)), ari a10 .int (6 : Int32) (own_sn (own_S tA (0 : Int32)) (3 : Int32) (4 : Int32))] := Y56
        show Rn p e below F T55 (mkF m 217 #[.val (.int p0), .val (.int p1), .val (.int p2), .val (.int (dA + (1 : Int32))), .val (.int (2 : Int32)), .val (.ref a3), .val (.int (1 : Int32)), .val (.int rA), .val (.int (3 : Int32)), .unset, .unset, .unset, .unset, .unset, .unset, .unset] [(.int r214)])
        refine Rn.go (T' := T55) (g' := (mkF m 221 #[.val (.int p0), .val (.int p1), .val (.int p2), .val (.int (dA + (1 : Int32))), .val (.int (2 : Int32)), .val (.ref a3), .val (.int (1 : Int32)), .val (.int rA), .val (.int (3 : Int32)), .val (.int r214), .unset, .unset, .unset, .unset, .unset, .unset] [(.int (1 : Int32))])) (fun t k => ?_) ?_
        · show Steps p.tables e below (T55.setTop (mkF m 217 #[.val (.int p0), .val (.int p1), .val (.int p2), .val (.int (dA + (1 : Int32))), .val (.int (2 : Int32)), .val (.ref a3), .val (.int (1 : Int32)), .val (.int rA), .val (.int (3 : Int32)), .unset, .unset, .unset, .unset, .unset, .unset, .unset] [(.int r214)])) t
          refine XS.istore Y56.here hx rfl (hb hby at_217) rfl (l' := #[.val (.int p0), .val (.int p1), .val (.int p2), .val (.int (dA + (1 : Int32))), .val (.int (2 : Int32)), .val (.ref a3), .val (.int (1 : Int32)), .val (.int rA), .val (.int (3 : Int32)), .val (.int r214), .unset, .unset, .unset, .unset, .unset, .unset]) rfl ?_
          show Steps p.tables e below (T55.setTop (mkF m 219 #[.val (.int p0), .val (.int p1), .val (.int p2), .val (.int (dA + (1 : Int32))), .val (.int (2 : Int32)), .val (.ref a3), .val (.int (1 : Int32)), .val (.int rA), .val (.int (3 : Int32)), .val (.int r214), .unset, .unset, .unset, .unset, .unset, .unset] [])) t
          refine XS.iload Y56.here hx rfl (hb hby at_219) rfl ?_
          show Steps p.tables e below (T55.setTop (mkF m 221 #[.val (.int p0), .val (.int p1), .val (.int p2), .val (.int (dA + (1 : Int32))), .val (.int (2 : Int32)), .val (.ref a3), .val (.int (1 : Int32)), .val (.int rA), .val (.int (3 : Int32)), .val (.int r214), .unset, .unset, .unset, .unset, .unset, .unset] [(.int (1 : Int32))])) t
          exact k
        refine Rn.go (T' := T55) (g' := (mkF m 224 #[.val (.int p0), .val (.int p1), .val (.int p2), .val (.int (dA + (1 : Int32))), .val (.int (2 : Int32)), .val (.ref a3), .val (.int (1 : Int32)), .val (.int rA), .val (.int (3 : Int32)), .val (.int r214), .unset, .unset, .unset, .unset, .unset, .unset] [])) (fun t k => XS.ifNo Y56.here hx rfl (hb hby at_221) rfl ((if0 _ _).trans (feq (by decide)).1) k) ?_
        refine Rn.go (T' := T55) (g' := (mkF m 227 #[.val (.int p0), .val (.int p1), .val (.int p2), .val (.int (dA + (1 : Int32))), .val (.int (2 : Int32)), .val (.ref a3), .val (.int (1 : Int32)), .val (.int rA), .val (.int (3 : Int32)), .val (.int r214), .unset, .unset, .unset, .unset, .unset, .unset] [(.int (3 : Int32)), (.int r214)])) (fun t k => ?_) ?_
        · show Steps p.tables e below (T55.setTop (mkF m 224 #[.val (.int p0), .val (.int p1), .val (.int p2), .val (.int (dA + (1 : Int32))), .val (.int (2 : Int32)), .val (.ref a3), .val (.int (1 : Int32)), .val (.int rA), .val (.int (3 : Int32)), .val (.int r214), .unset, .unset, .unset, .unset, .unset, .unset] [])) t
          refine XS.iload Y56.here hx rfl (hb hby at_224) rfl ?_
          show Steps p.tables e below (T55.setTop (mkF m 226 #[.val (.int p0), .val (.int p1), .val (.int p2), .val (.int (dA + (1 : Int32))), .val (.int (2 : Int32)), .val (.ref a3), .val (.int (1 : Int32)), .val (.int rA), .val (.int (3 : Int32)), .val (.int r214), .unset, .unset, .unset, .unset, .unset, .unset] [(.int r214)])) t
          refine XS.iconst Y56.here hx rfl (hb hby at_226) ?_
          show Steps p.tables e below (T55.setTop (mkF m 227 #[.val (.int p0), .val (.int p1), .val (.int p2), .val (.int (dA + (1 : Int32))), .val (.int (2 : Int32)), .val (.ref a3), .val (.int (1 : Int32)), .val (.int rA), .val (.int (3 : Int32)), .val (.int r214), .unset, .unset, .unset, .unset, .unset, .unset] [(.int (3 : Int32)), (.int r214)])) t
          exact k
        refine Rn.go (T' := T55) (g' := (mkF m 230 #[.val (.int p0), .val (.int p1), .val (.int p2), .val (.int (dA + (1 : Int32))), .val (.int (2 : Int32)), .val (.ref a3), .val (.int (1 : Int32)), .val (.int rA), .val (.int (3 : Int32)), .val (.int r214), .unset, .unset, .unset, .unset, .unset, .unset] [])) (fun t k => XS.icmpNo Y56.here hx rfl (hb hby at_227) rfl (teq (own_f9 btA hr214)).2 k) ?_
        refine Rn.go (T' := T55) (g' := (mkF m 243 #[.val (.int p0), .val (.int p1), .val (.int p2), .val (.int (dA + (1 : Int32))), .val (.int (2 : Int32)), .val (.ref a3), .val (.int (1 : Int32)), .val (.int rA), .val (.int (3 : Int32)), .val (.int r214), .unset, .unset, .unset, .unset, .unset, .unset] [(.int (3 : Int32)), (.int (2 : Int32))])) (fun t k => ?_) ?_
        · show Steps p.tables e below (T55.setTop (mkF m 230 #[.val (.int p0), .val (.int p1), .val (.int p2), .val (.int (dA + (1 : Int32))), .val (.int (2 : Int32)), .val (.ref a3), .val (.int (1 : Int32)), .val (.int rA), .val (.int (3 : Int32)), .val (.int r214), .unset, .unset, .unset, .unset, .unset, .unset] [])) t
          refine XS.iconst Y56.here hx rfl (hb hby at_230) ?_
          show Steps p.tables e below (T55.setTop (mkF m 231 #[.val (.int p0), .val (.int p1), .val (.int p2), .val (.int (dA + (1 : Int32))), .val (.int (2 : Int32)), .val (.ref a3), .val (.int (1 : Int32)), .val (.int rA), .val (.int (3 : Int32)), .val (.int r214), .unset, .unset, .unset, .unset, .unset, .unset] [(.int (1 : Int32))])) t
          refine XS.goto Y56.here hx rfl (pc0 := 231) (pc' := 235) rfl (hb hby at_231) (by decide) (by decide) ?_
          show Steps p.tables e below (T55.setTop (mkF m 235 #[.val (.int p0), .val (.int p1), .val (.int p2), .val (.int (dA + (1 : Int32))), .val (.int (2 : Int32)), .val (.ref a3), .val (.int (1 : Int32)), .val (.int rA), .val (.int (3 : Int32)), .val (.int r214), .unset, .unset, .unset, .unset, .unset, .unset] [(.int (1 : Int32))])) t
          refine XS.istore Y56.here hx rfl (hb hby at_235) rfl (l' := #[.val (.int p0), .val (.int p1), .val (.int p2), .val (.int (dA + (1 : Int32))), .val (.int (2 : Int32)), .val (.ref a3), .val (.int (1 : Int32)), .val (.int rA), .val (.int (3 : Int32)), .val (.int r214), .unset, .unset, .unset, .unset, .unset, .unset]) rfl ?_
          show Steps p.tables e below (T55.setTop (mkF m 237 #[.val (.int p0), .val (.int p1), .val (.int p2), .val (.int (dA + (1 : Int32))), .val (.int (2 : Int32)), .val (.ref a3), .val (.int (1 : Int32)), .val (.int rA), .val (.int (3 : Int32)), .val (.int r214), .unset, .unset, .unset, .unset, .unset, .unset] [])) t
          refine XS.iconst Y56.here hx rfl (hb hby at_237) ?_
          show Steps p.tables e below (T55.setTop (mkF m 238 #[.val (.int p0), .val (.int p1), .val (.int p2), .val (.int (dA + (1 : Int32))), .val (.int (2 : Int32)), .val (.ref a3), .val (.int (1 : Int32)), .val (.int rA), .val (.int (3 : Int32)), .val (.int r214), .unset, .unset, .unset, .unset, .unset, .unset] [(.int (3 : Int32))])) t
          refine XS.istore Y56.here hx rfl (hb hby at_238) rfl (l' := #[.val (.int p0), .val (.int p1), .val (.int p2), .val (.int (dA + (1 : Int32))), .val (.int (2 : Int32)), .val (.ref a3), .val (.int (1 : Int32)), .val (.int rA), .val (.int (3 : Int32)), .val (.int r214), .unset, .unset, .unset, .unset, .unset, .unset]) rfl ?_
          show Steps p.tables e below (T55.setTop (mkF m 240 #[.val (.int p0), .val (.int p1), .val (.int p2), .val (.int (dA + (1 : Int32))), .val (.int (2 : Int32)), .val (.ref a3), .val (.int (1 : Int32)), .val (.int rA), .val (.int (3 : Int32)), .val (.int r214), .unset, .unset, .unset, .unset, .unset, .unset] [])) t
          refine XS.iload Y56.here hx rfl (hb hby at_240) rfl ?_
          show Steps p.tables e below (T55.setTop (mkF m 242 #[.val (.int p0), .val (.int p1), .val (.int p2), .val (.int (dA + (1 : Int32))), .val (.int (2 : Int32)), .val (.ref a3), .val (.int (1 : Int32)), .val (.int rA), .val (.int (3 : Int32)), .val (.int r214), .unset, .unset, .unset, .unset, .unset, .unset] [(.int (2 : Int32))])) t
          refine XS.iconst Y56.here hx rfl (hb hby at_242) ?_
          show Steps p.tables e below (T55.setTop (mkF m 243 #[.val (.int p0), .val (.int p1), .val (.int p2), .val (.int (dA + (1 : Int32))), .val (.int (2 : Int32)), .val (.ref a3), .val (.int (1 : Int32)), .val (.int rA), .val (.int (3 : Int32)), .val (.int r214), .unset, .unset, .unset, .unset, .unset, .unset] [(.int (3 : Int32)), (.int (2 : Int32))])) t
          exact k
        refine Rn.go (T' := T55) (g' := (mkF m 295 #[.val (.int p0), .val (.int p1), .val (.int p2), .val (.int (dA + (1 : Int32))), .val (.int (2 : Int32)), .val (.ref a3), .val (.int (1 : Int32)), .val (.int rA), .val (.int (3 : Int32)), .val (.int r214), .unset, .unset, .unset, .unset, .unset, .unset] [])) (fun t k => XS.icmpYes Y56.here hx rfl (pc0 := 243) (pc' := 295) rfl (hb hby at_243) rfl (feq (by decide)).2 (by decide) (by decide) k) ?_
        refine Rn.go (T' := T55) (g' := (mkF m 299 #[.val (.int p0), .val (.int p1), .val (.int p2), .val (.int (dA + (1 : Int32))), .val (.int (2 : Int32)), .val (.ref a3), .val (.int (1 : Int32)), .val (.int rA), .val (.int (3 : Int32)), .val (.int r214), .unset, .unset, .unset, .unset, .unset, .unset] [(.int (p2 &&& (16 : Int32)))])) (fun t k => ?_) ?_
        · show Steps p.tables e below (T55.setTop (mkF m 295 #[.val (.int p0), .val (.int p1), .val (.int p2), .val (.int (dA + (1 : Int32))), .val (.int (2 : Int32)), .val (.ref a3), .val (.int (1 : Int32)), .val (.int rA), .val (.int (3 : Int32)), .val (.int r214), .unset, .unset, .unset, .unset, .unset, .unset] [])) t
          refine XS.iloadN Y56.here hx rfl (hb hby at_295) rfl ?_
          show Steps p.tables e below (T55.setTop (mkF m 296 #[.val (.int p0), .val (.int p1), .val (.int p2), .val (.int (dA + (1 : Int32))), .val (.int (2 : Int32)), .val (.ref a3), .val (.int (1 : Int32)), .val (.int rA), .val (.int (3 : Int32)), .val (.int r214), .unset, .unset, .unset, .unset, .unset, .unset] [(.int p2)])) t
          refine XS.bipush Y56.here hx rfl (hb hby at_296) ?_
          show Steps p.tables e below (T55.setTop (mkF m 298 #[.val (.int p0), .val (.int p1), .val (.int p2), .val (.int (dA + (1 : Int32))), .val (.int (2 : Int32)), .val (.ref a3), .val (.int (1 : Int32)), .val (.int rA), .val (.int (3 : Int32)), .val (.int r214), .unset, .unset, .unset, .unset, .unset, .unset] [(.int (16 : Int32)), (.int p2)])) t
          refine XS.iand Y56.here hx rfl (hb hby at_298) rfl ?_
          show Steps p.tables e below (T55.setTop (mkF m 299 #[.val (.int p0), .val (.int p1), .val (.int p2), .val (.int (dA + (1 : Int32))), .val (.int (2 : Int32)), .val (.ref a3), .val (.int (1 : Int32)), .val (.int rA), .val (.int (3 : Int32)), .val (.int r214), .unset, .unset, .unset, .unset, .unset, .unset] [(.int (p2 &&& (16 : Int32)))])) t
          exact k
        obtain ⟨v307, hv307⟩ : ∃ z : Int32, z = (if (p2 &&& (16 : Int32)) = (0 : Int32) then (1 : Int32) else (0 : Int32)) := ⟨_, rfl⟩
        refine Rn.go (T' := T55) (g' := (mkF m 307 #[.val (.int p0), .val (.int p1), .val (.int p2), .val (.int (dA + (1 : Int32))), .val (.int (2 : Int32)), .val (.ref a3), .val (.int (1 : Int32)), .val (.int rA), .val (.int (3 : Int32)), .val (.int r214), .unset, .unset, .unset, .unset, .unset, .unset] [(.int v307)])) (fun t k => ?_) ?_
        · show Steps p.tables e below (T55.setTop (mkF m 299 #[.val (.int p0), .val (.int p1), .val (.int p2), .val (.int (dA + (1 : Int32))), .val (.int (2 : Int32)), .val (.ref a3), .val (.int (1 : Int32)), .val (.int rA), .val (.int (3 : Int32)), .val (.int r214), .unset, .unset, .unset, .unset, .unset, .unset] [(.int (p2 &&& (16 : Int32)))])) t
          by_cases hc299 : (p2 &&& (16 : Int32)) = (0 : Int32)
          · refine XS.ifNo Y56.here hx rfl (hb hby at_299) rfl ((if0 _ _).trans (teq hc299).2) ?_
            show Steps p.tables e below (T55.setTop (mkF m 302 #[.val (.int p0), .val (.int p1), .val (.int p2), .val (.int (dA + (1 : Int32))), .val (.int (2 : Int32)), .val (.ref a3), .val (.int (1 : Int32)), .val (.int rA), .val (.int (3 : Int32)), .val (.int r214), .unset, .unset, .unset, .unset, .unset, .unset] [])) t
            refine XS.iconst Y56.here hx rfl (hb hby at_302) ?_
            show Steps p.tables e below (T55.setTop (mkF m 303 #[.val (.int p0), .val (.int p1), .val (.int p2), .val (.int (dA + (1 : Int32))), .val (.int (2 : Int32)), .val (.ref a3), .val (.int (1 : Int32)), .val (.int rA), .val (.int (3 : Int32)), .val (.int r214), .unset, .unset, .unset, .unset, .unset, .unset] [(.int (1 : Int32))])) t
            refine XS.goto Y56.here hx rfl (pc0 := 303) (pc' := 307) rfl (hb hby at_303) (by decide) (by decide) ?_
            show Steps p.tables e below (T55.setTop (mkF m 307 #[.val (.int p0), .val (.int p1), .val (.int p2), .val (.int (dA + (1 : Int32))), .val (.int (2 : Int32)), .val (.ref a3), .val (.int (1 : Int32)), .val (.int rA), .val (.int (3 : Int32)), .val (.int r214), .unset, .unset, .unset, .unset, .unset, .unset] [(.int (1 : Int32))])) t
            rw [hv307, if_pos hc299] at k
            exact k
          · refine XS.ifYes Y56.here hx rfl (pc0 := 299) (pc' := 306) rfl (hb hby at_299) rfl ((if0 _ _).trans (feq hc299).2) (by decide) (by decide) ?_
            show Steps p.tables e below (T55.setTop (mkF m 306 #[.val (.int p0), .val (.int p1), .val (.int p2), .val (.int (dA + (1 : Int32))), .val (.int (2 : Int32)), .val (.ref a3), .val (.int (1 : Int32)), .val (.int rA), .val (.int (3 : Int32)), .val (.int r214), .unset, .unset, .unset, .unset, .unset, .unset] [])) t
            refine XS.iconst Y56.here hx rfl (hb hby at_306) ?_
            show Steps p.tables e below (T55.setTop (mkF m 307 #[.val (.int p0), .val (.int p1), .val (.int p2), .val (.int (dA + (1 : Int32))), .val (.int (2 : Int32)), .val (.ref a3), .val (.int (1 : Int32)), .val (.int rA), .val (.int (3 : Int32)), .val (.int r214), .unset, .unset, .unset, .unset, .unset, .unset] [(.int (0 : Int32))])) t
            rw [hv307, if_neg hc299] at k
            exact k
        refine Rn.go (T' := T55) (g' := (mkF m 309 #[.val (.int p0), .val (.int p1), .val (.int p2), .val (.int (dA + (1 : Int32))), .val (.int (2 : Int32)), .val (.ref a3), .val (.int (1 : Int32)), .val (.int rA), .val (.int (3 : Int32)), .val (.int v307), .unset, .unset, .unset, .unset, .unset, .unset] [])) (fun t k => ?_) ?_
        · show Steps p.tables e below (T55.setTop (mkF m 307 #[.val (.int p0), .val (.int p1), .val (.int p2), .val (.int (dA + (1 : Int32))), .val (.int (2 : Int32)), .val (.ref a3), .val (.int (1 : Int32)), .val (.int rA), .val (.int (3 : Int32)), .val (.int r214), .unset, .unset, .unset, .unset, .unset, .unset] [(.int v307)])) t
          refine XS.istore Y56.here hx rfl (hb hby at_307) rfl (l' := #[.val (.int p0), .val (.int p1), .val (.int p2), .val (.int (dA + (1 : Int32))), .val (.int (2 : Int32)), .val (.ref a3), .val (.int (1 : Int32)), .val (.int rA), .val (.int (3 : Int32)), .val (.int v307), .unset, .unset, .unset, .unset, .unset, .unset]) rfl ?_
          show Steps p.tables e below (T55.setTop (mkF m 309 #[.val (.int p0), .val (.int p1), .val (.int p2), .val (.int (dA + (1 : Int32))), .val (.int (2 : Int32)), .val (.ref a3), .val (.int (1 : Int32)), .val (.int rA), .val (.int (3 : Int32)), .val (.int v307), .unset, .unset, .unset, .unset, .unset, .unset] [])) t
          exact k
        exact HJ309 _ (1 : Int32) _ _ (by decide) (by decide) (by decide) hv307 (by rw [(own_f10 btA), (own_f11 btA)]; exact Y56)
      · refine Rn.go (T' := T11) (g' := (mkF m 177 #[.val (.int p0), .val (.int p1), .val (.int p2), .val (.int (dA + (1 : Int32))), .val (.int (2 : Int32)), .val (.ref a3), .val (.int (1 : Int32)), .val (.int rA), .val (.int (3 : Int32)), .unset, .unset, .unset, .unset, .unset, .unset, .unset] [])) (fun t k => XS.ifNo Y12.here hx rfl (hb hby at_174) rfl ((if0 _ _).trans (feq hc174).1) k) ?_
        refine Rn.go (T' := T11) (g' := (mkF m 181 #[.val (.int p0), .val (.int p1), .val (.int p2), .val (.int (dA + (1 : Int32))), .val (.int (2 : Int32)), .val (.ref a3), .val (.int (1 : Int32)), .val (.int rA), .val (.int (3 : Int32)), .unset, .unset, .unset, .unset, .unset, .unset, .unset] [(.int (3 : Int32)), (.int (4 : Int32)), (.ref a3)])) (fun t k => ?_) ?_
        · show Steps p.tables e below (T11.setTop (mkF m 177 #[.val (.int p0), .val (.int p1), .val (.int p2), .val (.int (dA + (1 : Int32))), .val (.int (2 : Int32)), .val (.ref a3), .val (.int (1 : Int32)), .val (.int rA), .val (.int (3 : Int32)), .unset, .unset, .unset, .unset, .unset, .unset, .unset] [])) t
          refine XS.aload Y12.here hx rfl (hb hby at_177) rfl rfl ?_
          show Steps p.tables e below (T11.setTop (mkF m 179 #[.val (.int p0), .val (.int p1), .val (.int p2), .val (.int (dA + (1 : Int32))), .val (.int (2 : Int32)), .val (.ref a3), .val (.int (1 : Int32)), .val (.int rA), .val (.int (3 : Int32)), .unset, .unset, .unset, .unset, .unset, .unset, .unset] [(.ref a3)])) t
          refine XS.iconst Y12.here hx rfl (hb hby at_179) ?_
          show Steps p.tables e below (T11.setTop (mkF m 180 #[.val (.int p0), .val (.int p1), .val (.int p2), .val (.int (dA + (1 : Int32))), .val (.int (2 : Int32)), .val (.ref a3), .val (.int (1 : Int32)), .val (.int rA), .val (.int (3 : Int32)), .unset, .unset, .unset, .unset, .unset, .unset, .unset] [(.int (4 : Int32)), (.ref a3)])) t
          refine XS.iconst Y12.here hx rfl (hb hby at_180) ?_
          show Steps p.tables e below (T11.setTop (mkF m 181 #[.val (.int p0), .val (.int p1), .val (.int p2), .val (.int (dA + (1 : Int32))), .val (.int (2 : Int32)), .val (.ref a3), .val (.int (1 : Int32)), .val (.int rA), .val (.int (3 : Int32)), .unset, .unset, .unset, .unset, .unset, .unset, .unset] [(.int (3 : Int32)), (.int (4 : Int32)), (.ref a3)])) t
          exact k
        refine On.virtual Y12 hx hZ (y := (⟨"com/example/arborplan/arborplan/tree/DisjointSets", "union", "(II)I"⟩ : MethodName)) (C := "com/example/arborplan/arborplan/tree/DisjointSets") hown (w15 hw) (w16 hw) (w17 hw) (w18 hw) (w19 hw) (w3 hw) (by decide) (a := a3) (argsL := [(.int (4 : Int32)), (.int (3 : Int32))]) (rest := []) (i := 0) rfl (rm3 l Z a0 hw n0 a3 (4 : Int32) (3 : Int32) a9 a10 (own_P tA (0 : Int32)) (own_S tA (0 : Int32)) [] (own_f12 ) (own_f13 ) (own_f14 ) (own_f15 ) (own_f16 btA) (own_f17 btA)) (W := 0) (by decide) (by decide) (by decide) (by decide) (g := (mkF m 181 #[.val (.int p0), .val (.int p1), .val (.int p2), .val (.int (dA + (1 : Int32))), .val (.int (2 : Int32)), .val (.ref a3), .val (.int (1 : Int32)), .val (.int rA), .val (.int (3 : Int32)), .unset, .unset, .unset, .unset, .unset, .unset, .unset] [(.int (3 : Int32)), (.int (4 : Int32)), (.ref a3)])) rfl (by rw [hml]; rfl) (lenOf pd1 rfl) rfl (by show 2 * 0 + _ ≤ _; exact Nat.le_of_eq rfl) (hb hby at_181) ?_
        intro T60 u62 D63 hp64 Y61
        obtain ⟨r181, hr181, rfl, rfl⟩ : ∃ z : Int32, z = (own_ro (own_S tA (0 : Int32)) (4 : Int32) (3 : Int32)) ∧ u62 = some (.int z) ∧ D63 = _ := ⟨_, rfl, hp64.1, hp64.2⟩
        replace Y61 : On p l e _ s m _ below meth c Z n0 T60 3 14 [ob a3 own_C0 (own_F0 (.ref a9) (.ref a10)), ari a9 .int (6 : Int32) (own_pn (own_P tA (0 : Int32)) (own_S tA (0 : Int32)) (4 : Int32) (3 : Int32)), ari a10 .int (6 : Int32) (own_sn (own_S tA (0 : Int32)) (4 : Int32) (3 : Int32))] := Y61
        show Rn p e below F T60 (mkF m 184 #[.val (.int p0), .val (.int p1), .val (.int p2), .val (.int (dA + (1 : Int32))), .val (.int (2 : Int32)), .val (.ref a3), .val (.int (1 : Int32)), .val (.int rA), .val (.int (3 : Int32)), .unset, .unset, .unset, .unset, .unset, .unset, .unset] [(.int r181)])
        refine Rn.go (T' := T60) (g' := (mkF m 188 #[.val (.int p0), .val (.int p1), .val (.int p2), .val (.int (dA + (1 : Int32))), .val (.int (2 : Int32)), .val (.ref a3), .val (.int (1 : Int32)), .val (.int rA), .val (.int (3 : Int32)), .val (.int r181), .unset, .unset, .unset, .unset, .unset, .unset] [(.int (1 : Int32))])) (fun t k => ?_) ?_
        · show Steps p.tables e below (T60.setTop (mkF m 184 #[.val (.int p0), .val (.int p1), .val (.int p2), .val (.int (dA + (1 : Int32))), .val (.int (2 : Int32)), .val (.ref a3), .val (.int (1 : Int32)), .val (.int rA), .val (.int (3 : Int32)), .unset, .unset, .unset, .unset, .unset, .unset, .unset] [(.int r181)])) t
          refine XS.istore Y61.here hx rfl (hb hby at_184) rfl (l' := #[.val (.int p0), .val (.int p1), .val (.int p2), .val (.int (dA + (1 : Int32))), .val (.int (2 : Int32)), .val (.ref a3), .val (.int (1 : Int32)), .val (.int rA), .val (.int (3 : Int32)), .val (.int r181), .unset, .unset, .unset, .unset, .unset, .unset]) rfl ?_
          show Steps p.tables e below (T60.setTop (mkF m 186 #[.val (.int p0), .val (.int p1), .val (.int p2), .val (.int (dA + (1 : Int32))), .val (.int (2 : Int32)), .val (.ref a3), .val (.int (1 : Int32)), .val (.int rA), .val (.int (3 : Int32)), .val (.int r181), .unset, .unset, .unset, .unset, .unset, .unset] [])) t
          refine XS.iload Y61.here hx rfl (hb hby at_186) rfl ?_
          show Steps p.tables e below (T60.setTop (mkF m 188 #[.val (.int p0), .val (.int p1), .val (.int p2), .val (.int (dA + (1 : Int32))), .val (.int (2 : Int32)), .val (.ref a3), .val (.int (1 : Int32)), .val (.int rA), .val (.int (3 : Int32)), .val (.int r181), .unset, .unset, .unset, .unset, .unset, .unset] [(.int (1 : Int32))])) t
          exact k
        refine Rn.go (T' := T60) (g' := (mkF m 191 #[.val (.int p0), .val (.int p1), .val (.int p2), .val (.int (dA + (1 : Int32))), .val (.int (2 : Int32)), .val (.ref a3), .val (.int (1 : Int32)), .val (.int rA), .val (.int (3 : Int32)), .val (.int r181), .unset, .unset, .unset, .unset, .unset, .unset] [])) (fun t k => XS.ifNo Y61.here hx rfl (hb hby at_188) rfl ((if0 _ _).trans (feq (by decide)).1) k) ?_
        refine Rn.go (T' := T60) (g' := (mkF m 194 #[.val (.int p0), .val (.int p1), .val (.int p2), .val (.int (dA + (1 : Int32))), .val (.int (2 : Int32)), .val (.ref a3), .val (.int (1 : Int32)), .val (.int rA), .val (.int (3 : Int32)), .val (.int r181), .unset, .unset, .unset, .unset, .unset, .unset] [(.int (4 : Int32)), (.int r181)])) (fun t k => ?_) ?_
        · show Steps p.tables e below (T60.setTop (mkF m 191 #[.val (.int p0), .val (.int p1), .val (.int p2), .val (.int (dA + (1 : Int32))), .val (.int (2 : Int32)), .val (.ref a3), .val (.int (1 : Int32)), .val (.int rA), .val (.int (3 : Int32)), .val (.int r181), .unset, .unset, .unset, .unset, .unset, .unset] [])) t
          refine XS.iload Y61.here hx rfl (hb hby at_191) rfl ?_
          show Steps p.tables e below (T60.setTop (mkF m 193 #[.val (.int p0), .val (.int p1), .val (.int p2), .val (.int (dA + (1 : Int32))), .val (.int (2 : Int32)), .val (.ref a3), .val (.int (1 : Int32)), .val (.int rA), .val (.int (3 : Int32)), .val (.int r181), .unset, .unset, .unset, .unset, .unset, .unset] [(.int r181)])) t
          refine XS.iconst Y61.here hx rfl (hb hby at_193) ?_
          show Steps p.tables e below (T60.setTop (mkF m 194 #[.val (.int p0), .val (.int p1), .val (.int p2), .val (.int (dA + (1 : Int32))), .val (.int (2 : Int32)), .val (.ref a3), .val (.int (1 : Int32)), .val (.int rA), .val (.int (3 : Int32)), .val (.int r181), .unset, .unset, .unset, .unset, .unset, .unset] [(.int (4 : Int32)), (.int r181)])) t
          exact k
        refine Rn.go (T' := T60) (g' := (mkF m 197 #[.val (.int p0), .val (.int p1), .val (.int p2), .val (.int (dA + (1 : Int32))), .val (.int (2 : Int32)), .val (.ref a3), .val (.int (1 : Int32)), .val (.int rA), .val (.int (3 : Int32)), .val (.int r181), .unset, .unset, .unset, .unset, .unset, .unset] [])) (fun t k => XS.icmpNo Y61.here hx rfl (hb hby at_194) rfl (teq (own_f18 btA hr181)).2 k) ?_
        refine Rn.go (T' := T60) (g' := (mkF m 243 #[.val (.int p0), .val (.int p1), .val (.int p2), .val (.int (dA + (1 : Int32))), .val (.int (2 : Int32)), .val (.ref a3), .val (.int (1 : Int32)), .val (.int rA), .val (.int (4 : Int32)), .val (.int r181), .unset, .unset, .unset, .unset, .unset, .unset] [(.int (3 : Int32)), (.int (2 : Int32))])) (fun t k => ?_) ?_
        · show Steps p.tables e below (T60.setTop (mkF m 197 #[.val (.int p0), .val (.int p1), .val (.int p2), .val (.int (dA + (1 : Int32))), .val (.int (2 : Int32)), .val (.ref a3), .val (.int (1 : Int32)), .val (.int rA), .val (.int (3 : Int32)), .val (.int r181), .unset, .unset, .unset, .unset, .unset, .unset] [])) t
          refine XS.iconst Y61.here hx rfl (hb hby at_197) ?_
          show Steps p.tables e below (T60.setTop (mkF m 198 #[.val (.int p0), .val (.int p1), .val (.int p2), .val (.int (dA + (1 : Int32))), .val (.int (2 : Int32)), .val (.ref a3), .val (.int (1 : Int32)), .val (.int rA), .val (.int (3 : Int32)), .val (.int r181), .unset, .unset, .unset, .unset, .unset, .unset] [(.int (1 : Int32))])) t
          refine XS.goto Y61.here hx rfl (pc0 := 198) (pc' := 202) rfl (hb hby at_198) (by decide) (by decide) ?_
          show Steps p.tables e below (T60.setTop (mkF m 202 #[.val (.int p0), .val (.int p1), .val (.int p2), .val (.int (dA + (1 : Int32))), .val (.int (2 : Int32)), .val (.ref a3), .val (.int (1 : Int32)), .val (.int rA), .val (.int (3 : Int32)), .val (.int r181), .unset, .unset, .unset, .unset, .unset, .unset] [(.int (1 : Int32))])) t
          refine XS.istore Y61.here hx rfl (hb hby at_202) rfl (l' := #[.val (.int p0), .val (.int p1), .val (.int p2), .val (.int (dA + (1 : Int32))), .val (.int (2 : Int32)), .val (.ref a3), .val (.int (1 : Int32)), .val (.int rA), .val (.int (3 : Int32)), .val (.int r181), .unset, .unset, .unset, .unset, .unset, .unset]) rfl ?_
          show Steps p.tables e below (T60.setTop (mkF m 204 #[.val (.int p0), .val (.int p1), .val (.int p2), .val (.int (dA + (1 : Int32))), .val (.int (2 : Int32)), .val (.ref a3), .val (.int (1 : Int32)), .val (.int rA), .val (.int (3 : Int32)), .val (.int r181), .unset, .unset, .unset, .unset, .unset, .unset] [])) t
          refine XS.iconst Y61.here hx rfl (hb hby at_204) ?_
          show Steps p.tables e below (T60.setTop (mkF m 205 #[.val (.int p0), .val (.int p1), .val (.int p2), .val (.int (dA + (1 : Int32))), .val (.int (2 : Int32)), .val (.ref a3), .val (.int (1 : Int32)), .val (.int rA), .val (.int (3 : Int32)), .val (.int r181), .unset, .unset, .unset, .unset, .unset, .unset] [(.int (4 : Int32))])) t
          refine XS.istore Y61.here hx rfl (hb hby at_205) rfl (l' := #[.val (.int p0), .val (.int p1), .val (.int p2), .val (.int (dA + (1 : Int32))), .val (.int (2 : Int32)), .val (.ref a3), .val (.int (1 : Int32)), .val (.int rA), .val (.int (4 : Int32)), .val (.int r181), .unset, .unset, .unset, .unset, .unset, .unset]) rfl ?_
          show Steps p.tables e below (T60.setTop (mkF m 207 #[.val (.int p0), .val (.int p1), .val (.int p2), .val (.int (dA + (1 : Int32))), .val (.int (2 : Int32)), .val (.ref a3), .val (.int (1 : Int32)), .val (.int rA), .val (.int (4 : Int32)), .val (.int r181), .unset, .unset, .unset, .unset, .unset, .unset] [])) t
          refine XS.goto Y61.here hx rfl (pc0 := 207) (pc' := 240) rfl (hb hby at_207) (by decide) (by decide) ?_
          show Steps p.tables e below (T60.setTop (mkF m 240 #[.val (.int p0), .val (.int p1), .val (.int p2), .val (.int (dA + (1 : Int32))), .val (.int (2 : Int32)), .val (.ref a3), .val (.int (1 : Int32)), .val (.int rA), .val (.int (4 : Int32)), .val (.int r181), .unset, .unset, .unset, .unset, .unset, .unset] [])) t
          refine XS.iload Y61.here hx rfl (hb hby at_240) rfl ?_
          show Steps p.tables e below (T60.setTop (mkF m 242 #[.val (.int p0), .val (.int p1), .val (.int p2), .val (.int (dA + (1 : Int32))), .val (.int (2 : Int32)), .val (.ref a3), .val (.int (1 : Int32)), .val (.int rA), .val (.int (4 : Int32)), .val (.int r181), .unset, .unset, .unset, .unset, .unset, .unset] [(.int (2 : Int32))])) t
          refine XS.iconst Y61.here hx rfl (hb hby at_242) ?_
          show Steps p.tables e below (T60.setTop (mkF m 243 #[.val (.int p0), .val (.int p1), .val (.int p2), .val (.int (dA + (1 : Int32))), .val (.int (2 : Int32)), .val (.ref a3), .val (.int (1 : Int32)), .val (.int rA), .val (.int (4 : Int32)), .val (.int r181), .unset, .unset, .unset, .unset, .unset, .unset] [(.int (3 : Int32)), (.int (2 : Int32))])) t
          exact k
        refine Rn.go (T' := T60) (g' := (mkF m 295 #[.val (.int p0), .val (.int p1), .val (.int p2), .val (.int (dA + (1 : Int32))), .val (.int (2 : Int32)), .val (.ref a3), .val (.int (1 : Int32)), .val (.int rA), .val (.int (4 : Int32)), .val (.int r181), .unset, .unset, .unset, .unset, .unset, .unset] [])) (fun t k => XS.icmpYes Y61.here hx rfl (pc0 := 243) (pc' := 295) rfl (hb hby at_243) rfl (feq (by decide)).2 (by decide) (by decide) k) ?_
        refine Rn.go (T' := T60) (g' := (mkF m 299 #[.val (.int p0), .val (.int p1), .val (.int p2), .val (.int (dA + (1 : Int32))), .val (.int (2 : Int32)), .val (.ref a3), .val (.int (1 : Int32)), .val (.int rA), .val (.int (4 : Int32)), .val (.int r181), .unset, .unset, .unset, .unset, .unset, .unset] [(.int (p2 &&& (16 : Int32)))])) (fun t k => ?_) ?_
        · show Steps p.tables e below (T60.setTop (mkF m 295 #[.val (.int p0), .val (.int p1), .val (.int p2), .val (.int (dA + (1 : Int32))), .val (.int (2 : Int32)), .val (.ref a3), .val (.int (1 : Int32)), .val (.int rA), .val (.int (4 : Int32)), .val (.int r181), .unset, .unset, .unset, .unset, .unset, .unset] [])) t
          refine XS.iloadN Y61.here hx rfl (hb hby at_295) rfl ?_
          show Steps p.tables e below (T60.setTop (mkF m 296 #[.val (.int p0), .val (.int p1), .val (.int p2), .val (.int (dA + (1 : Int32))), .val (.int (2 : Int32)), .val (.ref a3), .val (.int (1 : Int32)), .val (.int rA), .val (.int (4 : Int32)), .val (.int r181), .unset, .unset, .unset, .unset, .unset, .unset] [(.int p2)])) t
          refine XS.bipush Y61.here hx rfl (hb hby at_296) ?_
          show Steps p.tables e below (T60.setTop (mkF m 298 #[.val (.int p0), .val (.int p1), .val (.int p2), .val (.int (dA + (1 : Int32))), .val (.int (2 : Int32)), .val (.ref a3), .val (.int (1 : Int32)), .val (.int rA), .val (.int (4 : Int32)), .val (.int r181), .unset, .unset, .unset, .unset, .unset, .unset] [(.int (16 : Int32)), (.int p2)])) t
          refine XS.iand Y61.here hx rfl (hb hby at_298) rfl ?_
          show Steps p.tables e below (T60.setTop (mkF m 299 #[.val (.int p0), .val (.int p1), .val (.int p2), .val (.int (dA + (1 : Int32))), .val (.int (2 : Int32)), .val (.ref a3), .val (.int (1 : Int32)), .val (.int rA), .val (.int (4 : Int32)), .val (.int r181), .unset, .unset, .unset, .unset, .unset, .unset] [(.int (p2 &&& (16 : Int32)))])) t
          exact k
        obtain ⟨v307, hv307⟩ : ∃ z : Int32, z = (if (p2 &&& (16 : Int32)) = (0 : Int32) then (1 : Int32) else (0 : Int32)) := ⟨_, rfl⟩
        refine Rn.go (T' := T60) (g' := (mkF m 307 #[.val (.int p0), .val (.int p1), .val (.int p2), .val (.int (dA + (1 : Int32))), .val (.int (2 : Int32)), .val (.ref a3), .val (.int (1 : Int32)), .val (.int rA), .val (.int (4 : Int32)), .val (.int r181), .unset, .unset, .unset, .unset, .unset, .unset] [(.int v307)])) (fun t k => ?_) ?_
        · show Steps p.tables e below (T60.setTop (mkF m 299 #[.val (.int p0), .val (.int p1), .val (.int p2), .val (.int (dA + (1 : Int32))), .val (.int (2 : Int32)), .val (.ref a3), .val (.int (1 : Int32)), .val (.int rA), .val (.int (4 : Int32)), .val (.int r181), .unset, .unset, .unset, .unset, .unset, .unset] [(.int (p2 &&& (16 : Int32)))])) t
          by_cases hc299 : (p2 &&& (16 : Int32)) = (0 : Int32)
          · refine XS.ifNo Y61.here hx rfl (hb hby at_299) rfl ((if0 _ _).trans (teq hc299).2) ?_
            show Steps p.tables e below (T60.setTop (mkF m 302 #[.val (.int p0), .val (.int p1), .val (.int p2), .val (.int (dA + (1 : Int32))), .val (.int (2 : Int32)), .val (.ref a3), .val (.int (1 : Int32)), .val (.int rA), .val (.int (4 : Int32)), .val (.int r181), .unset, .unset, .unset, .unset, .unset, .unset] [])) t
            refine XS.iconst Y61.here hx rfl (hb hby at_302) ?_
            show Steps p.tables e below (T60.setTop (mkF m 303 #[.val (.int p0), .val (.int p1), .val (.int p2), .val (.int (dA + (1 : Int32))), .val (.int (2 : Int32)), .val (.ref a3), .val (.int (1 : Int32)), .val (.int rA), .val (.int (4 : Int32)), .val (.int r181), .unset, .unset, .unset, .unset, .unset, .unset] [(.int (1 : Int32))])) t
            refine XS.goto Y61.here hx rfl (pc0 := 303) (pc' := 307) rfl (hb hby at_303) (by decide) (by decide) ?_
            show Steps p.tables e below (T60.setTop (mkF m 307 #[.val (.int p0), .val (.int p1), .val (.int p2), .val (.int (dA + (1 : Int32))), .val (.int (2 : Int32)), .val (.ref a3), .val (.int (1 : Int32)), .val (.int rA), .val (.int (4 : Int32)), .val (.int r181), .unset, .unset, .unset, .unset, .unset, .unset] [(.int (1 : Int32))])) t
            rw [hv307, if_pos hc299] at k
            exact k
          · refine XS.ifYes Y61.here hx rfl (pc0 := 299) (pc' := 306) rfl (hb hby at_299) rfl ((if0 _ _).trans (feq hc299).2) (by decide) (by decide) ?_
            show Steps p.tables e below (T60.setTop (mkF m 306 #[.val (.int p0), .val (.int p1), .val (.int p2), .val (.int (dA + (1 : Int32))), .val (.int (2 : Int32)), .val (.ref a3), .val (.int (1 : Int32)), .val (.int rA), .val (.int (4 : Int32)), .val (.int r181), .unset, .unset, .unset, .unset, .unset, .unset] [])) t
            refine XS.iconst Y61.here hx rfl (hb hby at_306) ?_
            show Steps p.tables e below (T60.setTop (mkF m 307 #[.val (.int p0), .val (.int p1), .val (.int p2), .val (.int (dA + (1 : Int32))), .val (.int (2 : Int32)), .val (.ref a3), .val (.int (1 : Int32)), .val (.int rA), .val (.int (4 : Int32)), .val (.int r181), .unset, .unset, .unset, .unset, .unset, .unset] [(.int (0 : Int32))])) t
            rw [hv307, if_neg hc299] at k
            exact k
        refine Rn.go (T' := T60) (g' := (mkF m 309 #[.val (.int p0), .val (.int p1), .val (.int p2), .val (.int (dA + (1 : Int32))), .val (.int (2 : Int32)), .val (.ref a3), .val (.int (1 : Int32)), .val (.int rA), .val (.int (4 : Int32)), .val (.int v307), .unset, .unset, .unset, .unset, .unset, .unset] [])) (fun t k => ?_) ?_
        · show Steps p.tables e below (T60.setTop (mkF m 307 #[.val (.int p0), .val (.int p1), .val (.int p2), .val (.int (dA + (1 : Int32))), .val (.int (2 : Int32)), .val (.ref a3), .val (.int (1 : Int32)), .val (.int rA), .val (.int (4 : Int32)), .val (.int r181), .unset, .unset, .unset, .unset, .unset, .unset] [(.int v307)])) t
          refine XS.istore Y61.here hx rfl (hb hby at_307) rfl (l' := #[.val (.int p0), .val (.int p1), .val (.int p2), .val (.int (dA + (1 : Int32))), .val (.int (2 : Int32)), .val (.ref a3), .val (.int (1 : Int32)), .val (.int rA), .val (.int (4 : Int32)), .val (.int v307), .unset, .unset, .unset, .unset, .unset, .unset]) rfl ?_
          show Steps p.tables e below (T60.setTop (mkF m 309 #[.val (.int p0), .val (.int p1), .val (.int p2), .val (.int (dA + (1 : Int32))), .val (.int (2 : Int32)), .val (.ref a3), .val (.int (1 : Int32)), .val (.int rA), .val (.int (4 : Int32)), .val (.int v307), .unset, .unset, .unset, .unset, .unset, .unset] [])) t
          exact k
        exact HJ309 _ (2 : Int32) _ _ (by decide) (by decide) (by decide) hv307 (by rw [(own_f19 btA), (own_f20 btA)]; exact Y61)
    · subst edB
      show Rn p e below F T11 (mkF m 165 #[.val (.int p0), .val (.int p1), .val (.int p2), .val (.int (dA + (1 : Int32))), .val (.int (3 : Int32)), .val (.ref a3), .val (.int (1 : Int32)), .val (.int rA), .val (.int (3 : Int32)), .unset, .unset, .unset, .unset, .unset, .unset, .unset] [])
      refine Rn.go (T' := T11) (g' := (mkF m 168 #[.val (.int p0), .val (.int p1), .val (.int p2), .val (.int (dA + (1 : Int32))), .val (.int (3 : Int32)), .val (.ref a3), .val (.int (1 : Int32)), .val (.int rA), .val (.int (3 : Int32)), .unset, .unset, .unset, .unset, .unset, .unset, .unset] [(.int (2 : Int32)), (.int (3 : Int32))])) (fun t k => ?_) ?_
      · show Steps p.tables e below (T11.setTop (mkF m 165 #[.val (.int p0), .val (.int p1), .val (.int p2), .val (.int (dA + (1 : Int32))), .val (.int (3 : Int32)), .val (.ref a3), .val (.int (1 : Int32)), .val (.int rA), .val (.int (3 : Int32)), .unset, .unset, .unset, .unset, .unset, .unset, .unset] [])) t
        refine XS.iload Y12.here hx rfl (hb hby at_165) rfl ?_
        show Steps p.tables e below (T11.setTop (mkF m 167 #[.val (.int p0), .val (.int p1), .val (.int p2), .val (.int (dA + (1 : Int32))), .val (.int (3 : Int32)), .val (.ref a3), .val (.int (1 : Int32)), .val (.int rA), .val (.int (3 : Int32)), .unset, .unset, .unset, .unset, .unset, .unset, .unset] [(.int (3 : Int32))])) t
        refine XS.iconst Y12.here hx rfl (hb hby at_167) ?_
        show Steps p.tables e below (T11.setTop (mkF m 168 #[.val (.int p0), .val (.int p1), .val (.int p2), .val (.int (dA + (1 : Int32))), .val (.int (3 : Int32)), .val (.ref a3), .val (.int (1 : Int32)), .val (.int rA), .val (.int (3 : Int32)), .unset, .unset, .unset, .unset, .unset, .unset, .unset] [(.int (2 : Int32)), (.int (3 : Int32))])) t
        exact k
      refine Rn.go (T' := T11) (g' := (mkF m 171 #[.val (.int p0), .val (.int p1), .val (.int p2), .val (.int (dA + (1 : Int32))), .val (.int (3 : Int32)), .val (.ref a3), .val (.int (1 : Int32)), .val (.int rA), .val (.int (3 : Int32)), .unset, .unset, .unset, .unset, .unset, .unset, .unset] [])) (fun t k => XS.icmpNo Y12.here hx rfl (hb hby at_168) rfl (flt (by decide)).1 k) ?_
      refine Rn.go (T' := T11) (g' := (mkF m 174 #[.val (.int p0), .val (.int p1), .val (.int p2), .val (.int (dA + (1 : Int32))), .val (.int (3 : Int32)), .val (.ref a3), .val (.int (1 : Int32)), .val (.int rA), .val (.int (3 : Int32)), .unset, .unset, .unset, .unset, .unset, .unset, .unset] [(.int (p2 &&& (4 : Int32)))])) (fun t k => ?_) ?_
      · show Steps p.tables e below (T11.setTop (mkF m 171 #[.val (.int p0), .val (.int p1), .val (.int p2), .val (.int (dA + (1 : Int32))), .val (.int (3 : Int32)), .val (.ref a3), .val (.int (1 : Int32)), .val (.int rA), .val (.int (3 : Int32)), .unset, .unset, .unset, .unset, .unset, .unset, .unset] [])) t
        refine XS.iloadN Y12.here hx rfl (hb hby at_171) rfl ?_
        show Steps p.tables e below (T11.setTop (mkF m 172 #[.val (.int p0), .val (.int p1), .val (.int p2), .val (.int (dA + (1 : Int32))), .val (.int (3 : Int32)), .val (.ref a3), .val (.int (1 : Int32)), .val (.int rA), .val (.int (3 : Int32)), .unset, .unset, .unset, .unset, .unset, .unset, .unset] [(.int p2)])) t
        refine XS.iconst Y12.here hx rfl (hb hby at_172) ?_
        show Steps p.tables e below (T11.setTop (mkF m 173 #[.val (.int p0), .val (.int p1), .val (.int p2), .val (.int (dA + (1 : Int32))), .val (.int (3 : Int32)), .val (.ref a3), .val (.int (1 : Int32)), .val (.int rA), .val (.int (3 : Int32)), .unset, .unset, .unset, .unset, .unset, .unset, .unset] [(.int (4 : Int32)), (.int p2)])) t
        refine XS.iand Y12.here hx rfl (hb hby at_173) rfl ?_
        show Steps p.tables e below (T11.setTop (mkF m 174 #[.val (.int p0), .val (.int p1), .val (.int p2), .val (.int (dA + (1 : Int32))), .val (.int (3 : Int32)), .val (.ref a3), .val (.int (1 : Int32)), .val (.int rA), .val (.int (3 : Int32)), .unset, .unset, .unset, .unset, .unset, .unset, .unset] [(.int (p2 &&& (4 : Int32)))])) t
        exact k
      by_cases hc174 : (p2 &&& (4 : Int32)) = (0 : Int32)
      · refine Rn.go (T' := T11) (g' := (mkF m 210 #[.val (.int p0), .val (.int p1), .val (.int p2), .val (.int (dA + (1 : Int32))), .val (.int (3 : Int32)), .val (.ref a3), .val (.int (1 : Int32)), .val (.int rA), .val (.int (3 : Int32)), .unset, .unset, .unset, .unset, .unset, .unset, .unset] [])) (fun t k => XS.ifYes Y12.here hx rfl (pc0 := 174) (pc' := 210) rfl (hb hby at_174) rfl ((if0 _ _).trans (teq hc174).1) (by decide) (by decide) k) ?_
        refine Rn.go (T' := T11) (g' := (mkF m 214 #[.val (.int p0), .val (.int p1), .val (.int p2), .val (.int (dA + (1 : Int32))), .val (.int (3 : Int32)), .val (.ref a3), .val (.int (1 : Int32)), .val (.int rA), .val (.int (3 : Int32)), .unset, .unset, .unset, .unset, .unset, .unset, .unset] [(.int (4 : Int32)), (.int (3 : Int32)), (.ref a3)])) (fun t k => ?_) ?_
        · show Steps p.tables e below (T11.setTop (mkF m 210 #[.val (.int p0), .val (.int p1), .val (.int p2), .val (.int (dA + (1 : Int32))), .val (.int (3 : Int32)), .val (.ref a3), .val (.int (1 : Int32)), .val (.int rA), .val (.int (3 : Int32)), .unset, .unset, .unset, .unset, .unset, .unset, .unset] [])) t
          refine XS.aload Y12.here hx rfl (hb hby at_210) rfl rfl ?_
          show Steps p.tables e below (T11.setTop (mkF m 212 #[.val (.int p0), .val (.int p1), .val (.int p2), .val (.int (dA + (1 : Int32))), .val (.int (3 : Int32)), .val (.ref a3), .val (.int (1 : Int32)), .val (.int rA), .val (.int (3 : Int32)), .unset, .unset, .unset, .unset, .unset, .unset, .unset] [(.ref a3)])) t
          refine XS.iconst Y12.here hx rfl (hb hby at_212) ?_
          show Steps p.tables e below (T11.setTop (mkF m 213 #[.val (.int p0), .val (.int p1), .val (.int p2), .val (.int (dA + (1 : Int32))), .val (.int (3 : Int32)), .val (.ref a3), .val (.int (1 : Int32)), .val (.int rA), .val (.int (3 : Int32)), .unset, .unset, .unset, .unset, .unset, .unset, .unset] [(.int (3 : Int32)), (.ref a3)])) t
          refine XS.iconst Y12.here hx rfl (hb hby at_213) ?_
          show Steps p.tables e below (T11.setTop (mkF m 214 #[.val (.int p0), .val (.int p1), .val (.int p2), .val (.int (dA + (1 : Int32))), .val (.int (3 : Int32)), .val (.ref a3), .val (.int (1 : Int32)), .val (.int rA), .val (.int (3 : Int32)), .unset, .unset, .unset, .unset, .unset, .unset, .unset] [(.int (4 : Int32)), (.int (3 : Int32)), (.ref a3)])) t
          exact k
        refine On.virtual Y12 hx hZ (y := (⟨"com/example/arborplan/arborplan/tree/DisjointSets", "union", "(II)I"⟩ : MethodName)) (C := "com/example/arborplan/arborplan/tree/DisjointSets") hown (w15 hw) (w16 hw) (w17 hw) (w18 hw) (w19 hw) (w3 hw) (by decide) (a := a3) (argsL := [(.int (3 : Int32)), (.int (4 : Int32))]) (rest := []) (i := 0) rfl (rm3 l Z a0 hw n0 a3 (3 : Int32) (4 : Int32) a9 a10 (own_P tA (0 : Int32)) (own_S tA (0 : Int32)) [] (own_f21 ) (own_f22 ) (own_f23 ) (own_f24 ) (own_f25 btA) (own_f26 btA)) (W := 0) (by decide) (by decide) (by decide) (by decide) (g := (mkF m 214 #[.val (.int p0), .val (.int p1), .val (.int p2), .val (.int (dA + (1 : Int32))), .val (.int (3 : Int32)), .val (.ref a3), .val (.int (1 : Int32)), .val (.int rA), .val (.int (3 : Int32)), .unset, .unset, .unset, .unset, .unset, .unset, .unset] [(.int (4 : Int32)), (.int (3 : Int32)), (.ref a3)])) rfl (by rw [hml]; rfl) (lenOf pd1 rfl) rfl (by show 2 * 0 + _ ≤ _; exact Nat.le_of_eq rfl) (hb hby at_214) ?_
        intro T65 u67 D68 hp69 Y66
        obtain ⟨r214, hr214, rfl, rfl⟩ : ∃ z : Int32, z = (own_ro (own_S tA (0 : Int32)) (3 : Int32) (4 : Int32)) ∧ u67 = some (.int z) ∧ D68 = _ := ⟨_, rfl, hp69.1, hp69.2⟩
        replace Y66 : On p l e _ s m _ below meth c Z n0 T65 3 14 [ob a3 own_C0 (own_F0 (.ref a9) (.ref a10)), ari a9 .int (6 : Int32) (own_pn (own_P tA (0 : Int32)) (own_S tA (0 : Int32)) (3 : Int32) (4 : Int32)), ari a10 .int (6 : Int32) (own_sn (own_S tA (0 : Int32)) (3 : Int32) (4 : Int32))] := Y66
        show Rn p e below F T65 (mkF m 217 #[.val (.int p0), .val (.int p1), .val (.int p2), .val (.int (dA + (1 : Int32))), .val (.int (3 : Int32)), .val (.ref a3), .val (.int (1 : Int32)), .val (.int rA), .val (.int (3 : Int32)), .unset, .unset, .unset, .unset, .unset, .unset, .unset] [(.int r214)])
        refine Rn.go (T' := T65) (g' := (mkF m 221 #[.val (.int p0), .val (.int p1), .val (.int p2), .val (.int (dA + (1 : Int32))), .val (.int (3 : Int32)), .val (.ref a3), .val (.int (1 : Int32)), .val (.int rA), .val (.int (3 : Int32)), .val (.int r214), .unset, .unset, .unset, .unset, .unset, .unset] [(.int (1 : Int32))])) (fun t k => ?_) ?_
        · show Steps p.tables e below (T65.setTop (mkF m 217 #[.val (.int p0), .val (.int p1), .val (.int p2), .val (.int (dA + (1 : Int32))), .val (.int (3 : Int32)), .val (.ref a3), .val (.int (1 : Int32)), .val (.int rA), .val (.int (3 : Int32)), .unset, .unset, .unset, .unset, .unset, .unset, .unset] [(.int r214)])) t
          refine XS.istore Y66.here hx rfl (hb hby at_217) rfl (l' := #[.val (.int p0), .val (.int p1), .val (.int p2), .val (.int (dA + (1 : Int32))), .val (.int (3 : Int32)), .val (.ref a3), .val (.int (1 : Int32)), .val (.int rA), .val (.int (3 : Int32)), .val (.int r214), .unset, .unset, .unset, .unset, .unset, .unset]) rfl ?_
          show Steps p.tables e below (T65.setTop (mkF m 219 #[.val (.int p0), .val (.int p1), .val (.int p2), .val (.int (dA + (1 : Int32))), .val (.int (3 : Int32)), .val (.ref a3), .val (.int (1 : Int32)), .val (.int rA), .val (.int (3 : Int32)), .val (.int r214), .unset, .unset, .unset, .unset, .unset, .unset] [])) t
          refine XS.iload Y66.here hx rfl (hb hby at_219) rfl ?_
          show Steps p.tables e below (T65.setTop (mkF m 221 #[.val (.int p0), .val (.int p1), .val (.int p2), .val (.int (dA + (1 : Int32))), .val (.int (3 : Int32)), .val (.ref a3), .val (.int (1 : Int32)), .val (.int rA), .val (.int (3 : Int32)), .val (.int r214), .unset, .unset, .unset, .unset, .unset, .unset] [(.int (1 : Int32))])) t
          exact k
        refine Rn.go (T' := T65) (g' := (mkF m 224 #[.val (.int p0), .val (.int p1), .val (.int p2), .val (.int (dA + (1 : Int32))), .val (.int (3 : Int32)), .val (.ref a3), .val (.int (1 : Int32)), .val (.int rA), .val (.int (3 : Int32)), .val (.int r214), .unset, .unset, .unset, .unset, .unset, .unset] [])) (fun t k => XS.ifNo Y66.here hx rfl (hb hby at_221) rfl ((if0 _ _).trans (feq (by decide)).1) k) ?_
        refine Rn.go (T' := T65) (g' := (mkF m 227 #[.val (.int p0), .val (.int p1), .val (.int p2), .val (.int (dA + (1 : Int32))), .val (.int (3 : Int32)), .val (.ref a3), .val (.int (1 : Int32)), .val (.int rA), .val (.int (3 : Int32)), .val (.int r214), .unset, .unset, .unset, .unset, .unset, .unset] [(.int (3 : Int32)), (.int r214)])) (fun t k => ?_) ?_
        · show Steps p.tables e below (T65.setTop (mkF m 224 #[.val (.int p0), .val (.int p1), .val (.int p2), .val (.int (dA + (1 : Int32))), .val (.int (3 : Int32)), .val (.ref a3), .val (.int (1 : Int32)), .val (.int rA), .val (.int (3 : Int32)), .val (.int r214), .unset, .unset, .unset, .unset, .unset, .unset] [])) t
          refine XS.iload Y66.here hx rfl (hb hby at_224) rfl ?_
          show Steps p.tables e below (T65.setTop (mkF m 226 #[.val (.int p0), .val (.int p1), .val (.int p2), .val (.int (dA + (1 : Int32))), .val (.int (3 : Int32)), .val (.ref a3), .val (.int (1 : Int32)), .val (.int rA), .val (.int (3 : Int32)), .val (.int r214), .unset, .unset, .unset, .unset, .unset, .unset] [(.int r214)])) t
          refine XS.iconst Y66.here hx rfl (hb hby at_226) ?_
          show Steps p.tables e below (T65.setTop (mkF m 227 #[.val (.int p0), .val (.int p1), .val (.int p2), .val (.int (dA + (1 : Int32))), .val (.int (3 : Int32)), .val (.ref a3), .val (.int (1 : Int32)), .val (.int rA), .val (.int (3 : Int32)), .val (.int r214), .unset, .unset, .unset, .unset, .unset, .unset] [(.int (3 : Int32)), (.int r214)])) t
          exact k
        refine Rn.go (T' := T65) (g' := (mkF m 230 #[.val (.int p0), .val (.int p1), .val (.int p2), .val (.int (dA + (1 : Int32))), .val (.int (3 : Int32)), .val (.ref a3), .val (.int (1 : Int32)), .val (.int rA), .val (.int (3 : Int32)), .val (.int r214), .unset, .unset, .unset, .unset, .unset, .unset] [])) (fun t k => XS.icmpNo Y66.here hx rfl (hb hby at_227) rfl (teq (own_f27 btA hr214)).2 k) ?_
        refine Rn.go (T' := T65) (g' := (mkF m 243 #[.val (.int p0), .val (.int p1), .val (.int p2), .val (.int (dA + (1 : Int32))), .val (.int (3 : Int32)), .val (.ref a3), .val (.int (1 : Int32)), .val (.int rA), .val (.int (3 : Int32)), .val (.int r214), .unset, .unset, .unset, .unset, .unset, .unset] [(.int (3 : Int32)), (.int (3 : Int32))])) (fun t k => ?_) ?_
        · show Steps p.tables e below (T65.setTop (mkF m 230 #[.val (.int p0), .val (.int p1), .val (.int p2), .val (.int (dA + (1 : Int32))), .val (.int (3 : Int32)), .val (.ref a3), .val (.int (1 : Int32)), .val (.int rA), .val (.int (3 : Int32)), .val (.int r214), .unset, .unset, .unset, .unset, .unset, .unset] [])) t
          refine XS.iconst Y66.here hx rfl (hb hby at_230) ?_
          show Steps p.tables e below (T65.setTop (mkF m 231 #[.val (.int p0), .val (.int p1), .val (.int p2), .val (.int (dA + (1 : Int32))), .val (.int (3 : Int32)), .val (.ref a3), .val (.int (1 : Int32)), .val (.int rA), .val (.int (3 : Int32)), .val (.int r214), .unset, .unset, .unset, .unset, .unset, .unset] [(.int (1 : Int32))])) t
          refine XS.goto Y66.here hx rfl (pc0 := 231) (pc' := 235) rfl (hb hby at_231) (by decide) (by decide) ?_
          show Steps p.tables e below (T65.setTop (mkF m 235 #[.val (.int p0), .val (.int p1), .val (.int p2), .val (.int (dA + (1 : Int32))), .val (.int (3 : Int32)), .val (.ref a3), .val (.int (1 : Int32)), .val (.int rA), .val (.int (3 : Int32)), .val (.int r214), .unset, .unset, .unset, .unset, .unset, .unset] [(.int (1 : Int32))])) t
          refine XS.istore Y66.here hx rfl (hb hby at_235) rfl (l' := #[.val (.int p0), .val (.int p1), .val (.int p2), .val (.int (dA + (1 : Int32))), .val (.int (3 : Int32)), .val (.ref a3), .val (.int (1 : Int32)), .val (.int rA), .val (.int (3 : Int32)), .val (.int r214), .unset, .unset, .unset, .unset, .unset, .unset]) rfl ?_
          show Steps p.tables e below (T65.setTop (mkF m 237 #[.val (.int p0), .val (.int p1), .val (.int p2), .val (.int (dA + (1 : Int32))), .val (.int (3 : Int32)), .val (.ref a3), .val (.int (1 : Int32)), .val (.int rA), .val (.int (3 : Int32)), .val (.int r214), .unset, .unset, .unset, .unset, .unset, .unset] [])) t
          refine XS.iconst Y66.here hx rfl (hb hby at_237) ?_
          show Steps p.tables e below (T65.setTop (mkF m 238 #[.val (.int p0), .val (.int p1), .val (.int p2), .val (.int (dA + (1 : Int32))), .val (.int (3 : Int32)), .val (.ref a3), .val (.int (1 : Int32)), .val (.int rA), .val (.int (3 : Int32)), .val (.int r214), .unset, .unset, .unset, .unset, .unset, .unset] [(.int (3 : Int32))])) t
          refine XS.istore Y66.here hx rfl (hb hby at_238) rfl (l' := #[.val (.int p0), .val (.int p1), .val (.int p2), .val (.int (dA + (1 : Int32))), .val (.int (3 : Int32)), .val (.ref a3), .val (.int (1 : Int32)), .val (.int rA), .val (.int (3 : Int32)), .val (.int r214), .unset, .unset, .unset, .unset, .unset, .unset]) rfl ?_
          show Steps p.tables e below (T65.setTop (mkF m 240 #[.val (.int p0), .val (.int p1), .val (.int p2), .val (.int (dA + (1 : Int32))), .val (.int (3 : Int32)), .val (.ref a3), .val (.int (1 : Int32)), .val (.int rA), .val (.int (3 : Int32)), .val (.int r214), .unset, .unset, .unset, .unset, .unset, .unset] [])) t
          refine XS.iload Y66.here hx rfl (hb hby at_240) rfl ?_
          show Steps p.tables e below (T65.setTop (mkF m 242 #[.val (.int p0), .val (.int p1), .val (.int p2), .val (.int (dA + (1 : Int32))), .val (.int (3 : Int32)), .val (.ref a3), .val (.int (1 : Int32)), .val (.int rA), .val (.int (3 : Int32)), .val (.int r214), .unset, .unset, .unset, .unset, .unset, .unset] [(.int (3 : Int32))])) t
          refine XS.iconst Y66.here hx rfl (hb hby at_242) ?_
          show Steps p.tables e below (T65.setTop (mkF m 243 #[.val (.int p0), .val (.int p1), .val (.int p2), .val (.int (dA + (1 : Int32))), .val (.int (3 : Int32)), .val (.ref a3), .val (.int (1 : Int32)), .val (.int rA), .val (.int (3 : Int32)), .val (.int r214), .unset, .unset, .unset, .unset, .unset, .unset] [(.int (3 : Int32)), (.int (3 : Int32))])) t
          exact k
        refine Rn.go (T' := T65) (g' := (mkF m 246 #[.val (.int p0), .val (.int p1), .val (.int p2), .val (.int (dA + (1 : Int32))), .val (.int (3 : Int32)), .val (.ref a3), .val (.int (1 : Int32)), .val (.int rA), .val (.int (3 : Int32)), .val (.int r214), .unset, .unset, .unset, .unset, .unset, .unset] [])) (fun t k => XS.icmpNo Y66.here hx rfl (hb hby at_243) rfl (teq (by decide)).2 k) ?_
        refine Rn.go (T' := T65) (g' := (mkF m 250 #[.val (.int p0), .val (.int p1), .val (.int p2), .val (.int (dA + (1 : Int32))), .val (.int (3 : Int32)), .val (.ref a3), .val (.int (1 : Int32)), .val (.int rA), .val (.int (3 : Int32)), .val (.int r214), .unset, .unset, .unset, .unset, .unset, .unset] [(.int (p2 &&& (8 : Int32)))])) (fun t k => ?_) ?_
        · show Steps p.tables e below (T65.setTop (mkF m 246 #[.val (.int p0), .val (.int p1), .val (.int p2), .val (.int (dA + (1 : Int32))), .val (.int (3 : Int32)), .val (.ref a3), .val (.int (1 : Int32)), .val (.int rA), .val (.int (3 : Int32)), .val (.int r214), .unset, .unset, .unset, .unset, .unset, .unset] [])) t
          refine XS.iloadN Y66.here hx rfl (hb hby at_246) rfl ?_
          show Steps p.tables e below (T65.setTop (mkF m 247 #[.val (.int p0), .val (.int p1), .val (.int p2), .val (.int (dA + (1 : Int32))), .val (.int (3 : Int32)), .val (.ref a3), .val (.int (1 : Int32)), .val (.int rA), .val (.int (3 : Int32)), .val (.int r214), .unset, .unset, .unset, .unset, .unset, .unset] [(.int p2)])) t
          refine XS.bipush Y66.here hx rfl (hb hby at_247) ?_
          show Steps p.tables e below (T65.setTop (mkF m 249 #[.val (.int p0), .val (.int p1), .val (.int p2), .val (.int (dA + (1 : Int32))), .val (.int (3 : Int32)), .val (.ref a3), .val (.int (1 : Int32)), .val (.int rA), .val (.int (3 : Int32)), .val (.int r214), .unset, .unset, .unset, .unset, .unset, .unset] [(.int (8 : Int32)), (.int p2)])) t
          refine XS.iand Y66.here hx rfl (hb hby at_249) rfl ?_
          show Steps p.tables e below (T65.setTop (mkF m 250 #[.val (.int p0), .val (.int p1), .val (.int p2), .val (.int (dA + (1 : Int32))), .val (.int (3 : Int32)), .val (.ref a3), .val (.int (1 : Int32)), .val (.int rA), .val (.int (3 : Int32)), .val (.int r214), .unset, .unset, .unset, .unset, .unset, .unset] [(.int (p2 &&& (8 : Int32)))])) t
          exact k
        by_cases hc250 : (p2 &&& (8 : Int32)) = (0 : Int32)
        · refine Rn.go (T' := T65) (g' := (mkF m 266 #[.val (.int p0), .val (.int p1), .val (.int p2), .val (.int (dA + (1 : Int32))), .val (.int (3 : Int32)), .val (.ref a3), .val (.int (1 : Int32)), .val (.int rA), .val (.int (3 : Int32)), .val (.int r214), .unset, .unset, .unset, .unset, .unset, .unset] [])) (fun t k => XS.ifYes Y66.here hx rfl (pc0 := 250) (pc' := 266) rfl (hb hby at_250) rfl ((if0 _ _).trans (teq hc250).1) (by decide) (by decide) k) ?_
          refine Rn.go (T' := T65) (g' := (mkF m 271 #[.val (.int p0), .val (.int p1), .val (.int p2), .val (.int (dA + (1 : Int32))), .val (.int (3 : Int32)), .val (.ref a3), .val (.int (1 : Int32)), .val (.int rA), .val (.int (3 : Int32)), .val (.int r214), .unset, .unset, .unset, .unset, .unset, .unset] [(.int (5 : Int32)), (.int (3 : Int32)), (.ref a3)])) (fun t k => ?_) ?_
          · show Steps p.tables e below (T65.setTop (mkF m 266 #[.val (.int p0), .val (.int p1), .val (.int p2), .val (.int (dA + (1 : Int32))), .val (.int (3 : Int32)), .val (.ref a3), .val (.int (1 : Int32)), .val (.int rA), .val (.int (3 : Int32)), .val (.int r214), .unset, .unset, .unset, .unset, .unset, .unset] [])) t
            refine XS.aload Y66.here hx rfl (hb hby at_266) rfl rfl ?_
            show Steps p.tables e below (T65.setTop (mkF m 268 #[.val (.int p0), .val (.int p1), .val (.int p2), .val (.int (dA + (1 : Int32))), .val (.int (3 : Int32)), .val (.ref a3), .val (.int (1 : Int32)), .val (.int rA), .val (.int (3 : Int32)), .val (.int r214), .unset, .unset, .unset, .unset, .unset, .unset] [(.ref a3)])) t
            refine XS.iload Y66.here hx rfl (hb hby at_268) rfl ?_
            show Steps p.tables e below (T65.setTop (mkF m 270 #[.val (.int p0), .val (.int p1), .val (.int p2), .val (.int (dA + (1 : Int32))), .val (.int (3 : Int32)), .val (.ref a3), .val (.int (1 : Int32)), .val (.int rA), .val (.int (3 : Int32)), .val (.int r214), .unset, .unset, .unset, .unset, .unset, .unset] [(.int (3 : Int32)), (.ref a3)])) t
            refine XS.iconst Y66.here hx rfl (hb hby at_270) ?_
            show Steps p.tables e below (T65.setTop (mkF m 271 #[.val (.int p0), .val (.int p1), .val (.int p2), .val (.int (dA + (1 : Int32))), .val (.int (3 : Int32)), .val (.ref a3), .val (.int (1 : Int32)), .val (.int rA), .val (.int (3 : Int32)), .val (.int r214), .unset, .unset, .unset, .unset, .unset, .unset] [(.int (5 : Int32)), (.int (3 : Int32)), (.ref a3)])) t
            exact k
          refine On.virtual Y66 hx hZ (y := (⟨"com/example/arborplan/arborplan/tree/DisjointSets", "union", "(II)I"⟩ : MethodName)) (C := "com/example/arborplan/arborplan/tree/DisjointSets") hown (w15 hw) (w16 hw) (w17 hw) (w18 hw) (w19 hw) (w3 hw) (by decide) (a := a3) (argsL := [(.int (3 : Int32)), (.int (5 : Int32))]) (rest := []) (i := 0) rfl (rm3 l Z a0 hw n0 a3 (3 : Int32) (5 : Int32) a9 a10 (own_pn (own_P tA (0 : Int32)) (own_S tA (0 : Int32)) (3 : Int32) (4 : Int32)) (own_sn (own_S tA (0 : Int32)) (3 : Int32) (4 : Int32)) [] (own_f28 ) (own_f29 ) (own_f30 ) (own_f31 ) (own_f32 btA) (own_f33 btA)) (W := 0) (by decide) (by decide) (by decide) (by decide) (g := (mkF m 271 #[.val (.int p0), .val (.int p1), .val (.int p2), .val (.int (dA + (1 : Int32))), .val (.int (3 : Int32)), .val (.ref a3), .val (.int (1 : Int32)), .val (.int rA), .val (.int (3 : Int32)), .val (.int r214), .unset, .unset, .unset, .unset, .unset, .unset] [(.int (5 : Int32)), (.int (3 : Int32)), (.ref a3)])) rfl (by rw [hml]; rfl) (lenOf pd1 rfl) rfl (by show 2 * 0 + _ ≤ _; exact Nat.le_of_eq rfl) (hb hby at_271) ?_
          intro T70 u72 D73 hp74 Y71
          obtain ⟨r271, hr271, rfl, rfl⟩ : ∃ z : Int32, z = (own_ro (own_sn (own_S tA (0 : Int32)) (3 : Int32) (4 : Int32)) (3 : Int32) (5 : Int32)) ∧ u72 = some (.int z) ∧ D73 = _ := ⟨_, rfl, hp74.1, hp74.2⟩
          replace Y71 : On p l e _ s m _ below meth c Z n0 T70 3 14 [ob a3 own_C0 (own_F0 (.ref a9) (.ref a10)), ari a9 .int (6 : Int32) (own_pn (own_pn (own_P tA (0 : Int32)) (own_S tA (0 : Int32)) (3 : Int32) (4 : Int32)) (own_sn (own_S tA (0 : Int32)) (3 : Int32) (4 : Int32)) (3 : Int32) (5 : Int32)), ari a10 .int (6 : Int32) (own_sn (own_sn (own_S tA (0 : Int32)) (3 : Int32) (4 : Int32)) (3 : Int32) (5 : Int32))] := Y71
          show Rn p e below F T70 (mkF m 274 #[.val (.int p0), .val (.int p1), .val (.int p2), .val (.int (dA + (1 : Int32))), .val (.int (3 : Int32)), .val (.ref a3), .val (.int (1 : Int32)), .val (.int rA), .val (.int (3 : Int32)), .val (.int r214), .unset, .unset, .unset, .unset, .unset, .unset] [(.int r271)])
          refine Rn.go (T' := T70) (g' := (mkF m 278 #[.val (.int p0), .val (.int p1), .val (.int p2), .val (.int (dA + (1 : Int32))), .val (.int (3 : Int32)), .val (.ref a3), .val (.int (1 : Int32)), .val (.int rA), .val (.int (3 : Int32)), .val (.int r271), .unset, .unset, .unset, .unset, .unset, .unset] [(.int (1 : Int32))])) (fun t k => ?_) ?_
          · show Steps p.tables e below (T70.setTop (mkF m 274 #[.val (.int p0), .val (.int p1), .val (.int p2), .val (.int (dA + (1 : Int32))), .val (.int (3 : Int32)), .val (.ref a3), .val (.int (1 : Int32)), .val (.int rA), .val (.int (3 : Int32)), .val (.int r214), .unset, .unset, .unset, .unset, .unset, .unset] [(.int r271)])) t
            refine XS.istore Y71.here hx rfl (hb hby at_274) rfl (l' := #[.val (.int p0), .val (.int p1), .val (.int p2), .val (.int (dA + (1 : Int32))), .val (.int (3 : Int32)), .val (.ref a3), .val (.int (1 : Int32)), .val (.int rA), .val (.int (3 : Int32)), .val (.int r271), .unset, .unset, .unset, .unset, .unset, .unset]) rfl ?_
            show Steps p.tables e below (T70.setTop (mkF m 276 #[.val (.int p0), .val (.int p1), .val (.int p2), .val (.int (dA + (1 : Int32))), .val (.int (3 : Int32)), .val (.ref a3), .val (.int (1 : Int32)), .val (.int rA), .val (.int (3 : Int32)), .val (.int r271), .unset, .unset, .unset, .unset, .unset, .unset] [])) t
            refine XS.iload Y71.here hx rfl (hb hby at_276) rfl ?_
            show Steps p.tables e below (T70.setTop (mkF m 278 #[.val (.int p0), .val (.int p1), .val (.int p2), .val (.int (dA + (1 : Int32))), .val (.int (3 : Int32)), .val (.ref a3), .val (.int (1 : Int32)), .val (.int rA), .val (.int (3 : Int32)), .val (.int r271), .unset, .unset, .unset, .unset, .unset, .unset] [(.int (1 : Int32))])) t
            exact k
          refine Rn.go (T' := T70) (g' := (mkF m 281 #[.val (.int p0), .val (.int p1), .val (.int p2), .val (.int (dA + (1 : Int32))), .val (.int (3 : Int32)), .val (.ref a3), .val (.int (1 : Int32)), .val (.int rA), .val (.int (3 : Int32)), .val (.int r271), .unset, .unset, .unset, .unset, .unset, .unset] [])) (fun t k => XS.ifNo Y71.here hx rfl (hb hby at_278) rfl ((if0 _ _).trans (feq (by decide)).1) k) ?_
          refine Rn.go (T' := T70) (g' := (mkF m 285 #[.val (.int p0), .val (.int p1), .val (.int p2), .val (.int (dA + (1 : Int32))), .val (.int (3 : Int32)), .val (.ref a3), .val (.int (1 : Int32)), .val (.int rA), .val (.int (3 : Int32)), .val (.int r271), .unset, .unset, .unset, .unset, .unset, .unset] [(.int (3 : Int32)), (.int r271)])) (fun t k => ?_) ?_
          · show Steps p.tables e below (T70.setTop (mkF m 281 #[.val (.int p0), .val (.int p1), .val (.int p2), .val (.int (dA + (1 : Int32))), .val (.int (3 : Int32)), .val (.ref a3), .val (.int (1 : Int32)), .val (.int rA), .val (.int (3 : Int32)), .val (.int r271), .unset, .unset, .unset, .unset, .unset, .unset] [])) t
            refine XS.iload Y71.here hx rfl (hb hby at_281) rfl ?_
            show Steps p.tables e below (T70.setTop (mkF m 283 #[.val (.int p0), .val (.int p1), .val (.int p2), .val (.int (dA + (1 : Int32))), .val (.int (3 : Int32)), .val (.ref a3), .val (.int (1 : Int32)), .val (.int rA), .val (.int (3 : Int32)), .val (.int r271), .unset, .unset, .unset, .unset, .unset, .unset] [(.int r271)])) t
            refine XS.iload Y71.here hx rfl (hb hby at_283) rfl ?_
            show Steps p.tables e below (T70.setTop (mkF m 285 #[.val (.int p0), .val (.int p1), .val (.int p2), .val (.int (dA + (1 : Int32))), .val (.int (3 : Int32)), .val (.ref a3), .val (.int (1 : Int32)), .val (.int rA), .val (.int (3 : Int32)), .val (.int r271), .unset, .unset, .unset, .unset, .unset, .unset] [(.int (3 : Int32)), (.int r271)])) t
            exact k
          refine Rn.go (T' := T70) (g' := (mkF m 288 #[.val (.int p0), .val (.int p1), .val (.int p2), .val (.int (dA + (1 : Int32))), .val (.int (3 : Int32)), .val (.ref a3), .val (.int (1 : Int32)), .val (.int rA), .val (.int (3 : Int32)), .val (.int r271), .unset, .unset, .unset, .unset, .unset, .unset] [])) (fun t k => XS.icmpNo Y71.here hx rfl (hb hby at_285) rfl (teq (own_f34 btA hr271)).2 k) ?_
          refine Rn.go (T' := T70) (g' := (mkF m 299 #[.val (.int p0), .val (.int p1), .val (.int p2), .val (.int (dA + (1 : Int32))), .val (.int (3 : Int32)), .val (.ref a3), .val (.int (1 : Int32)), .val (.int rA), .val (.int (3 : Int32)), .val (.int r271), .unset, .unset, .unset, .unset, .unset, .unset] [(.int (p2 &&& (16 : Int32)))])) (fun t k => ?_) ?_
          · show Steps p.tables e below (T70.setTop (mkF m 288 #[.val (.int p0), .val (.int p1), .val (.int p2), .val (.int (dA + (1 : Int32))), .val (.int (3 : Int32)), .val (.ref a3), .val (.int (1 : Int32)), .val (.int rA), .val (.int (3 : Int32)), .val (.int r271), .unset, .unset, .unset, .unset, .unset, .unset] [])) t
            refine XS.iconst Y71.here hx rfl (hb hby at_288) ?_
            show Steps p.tables e below (T70.setTop (mkF m 289 #[.val (.int p0), .val (.int p1), .val (.int p2), .val (.int (dA + (1 : Int32))), .val (.int (3 : Int32)), .val (.ref a3), .val (.int (1 : Int32)), .val (.int rA), .val (.int (3 : Int32)), .val (.int r271), .unset, .unset, .unset, .unset, .unset, .unset] [(.int (1 : Int32))])) t
            refine XS.goto Y71.here hx rfl (pc0 := 289) (pc' := 293) rfl (hb hby at_289) (by decide) (by decide) ?_
            show Steps p.tables e below (T70.setTop (mkF m 293 #[.val (.int p0), .val (.int p1), .val (.int p2), .val (.int (dA + (1 : Int32))), .val (.int (3 : Int32)), .val (.ref a3), .val (.int (1 : Int32)), .val (.int rA), .val (.int (3 : Int32)), .val (.int r271), .unset, .unset, .unset, .unset, .unset, .unset] [(.int (1 : Int32))])) t
            refine XS.istore Y71.here hx rfl (hb hby at_293) rfl (l' := #[.val (.int p0), .val (.int p1), .val (.int p2), .val (.int (dA + (1 : Int32))), .val (.int (3 : Int32)), .val (.ref a3), .val (.int (1 : Int32)), .val (.int rA), .val (.int (3 : Int32)), .val (.int r271), .unset, .unset, .unset, .unset, .unset, .unset]) rfl ?_
            show Steps p.tables e below (T70.setTop (mkF m 295 #[.val (.int p0), .val (.int p1), .val (.int p2), .val (.int (dA + (1 : Int32))), .val (.int (3 : Int32)), .val (.ref a3), .val (.int (1 : Int32)), .val (.int rA), .val (.int (3 : Int32)), .val (.int r271), .unset, .unset, .unset, .unset, .unset, .unset] [])) t
            refine XS.iloadN Y71.here hx rfl (hb hby at_295) rfl ?_
            show Steps p.tables e below (T70.setTop (mkF m 296 #[.val (.int p0), .val (.int p1), .val (.int p2), .val (.int (dA + (1 : Int32))), .val (.int (3 : Int32)), .val (.ref a3), .val (.int (1 : Int32)), .val (.int rA), .val (.int (3 : Int32)), .val (.int r271), .unset, .unset, .unset, .unset, .unset, .unset] [(.int p2)])) t
            refine XS.bipush Y71.here hx rfl (hb hby at_296) ?_
            show Steps p.tables e below (T70.setTop (mkF m 298 #[.val (.int p0), .val (.int p1), .val (.int p2), .val (.int (dA + (1 : Int32))), .val (.int (3 : Int32)), .val (.ref a3), .val (.int (1 : Int32)), .val (.int rA), .val (.int (3 : Int32)), .val (.int r271), .unset, .unset, .unset, .unset, .unset, .unset] [(.int (16 : Int32)), (.int p2)])) t
            refine XS.iand Y71.here hx rfl (hb hby at_298) rfl ?_
            show Steps p.tables e below (T70.setTop (mkF m 299 #[.val (.int p0), .val (.int p1), .val (.int p2), .val (.int (dA + (1 : Int32))), .val (.int (3 : Int32)), .val (.ref a3), .val (.int (1 : Int32)), .val (.int rA), .val (.int (3 : Int32)), .val (.int r271), .unset, .unset, .unset, .unset, .unset, .unset] [(.int (p2 &&& (16 : Int32)))])) t
            exact k
          obtain ⟨v307, hv307⟩ : ∃ z : Int32, z = (if (p2 &&& (16 : Int32)) = (0 : Int32) then (1 : Int32) else (0 : Int32)) := ⟨_, rfl⟩
          refine Rn.go (T' := T70) (g' := (mkF m 307 #[.val (.int p0), .val (.int p1), .val (.int p2), .val (.int (dA + (1 : Int32))), .val (.int (3 : Int32)), .val (.ref a3), .val (.int (1 : Int32)), .val (.int rA), .val (.int (3 : Int32)), .val (.int r271), .unset, .unset, .unset, .unset, .unset, .unset] [(.int v307)])) (fun t k => ?_) ?_
          · show Steps p.tables e below (T70.setTop (mkF m 299 #[.val (.int p0), .val (.int p1), .val (.int p2), .val (.int (dA + (1 : Int32))), .val (.int (3 : Int32)), .val (.ref a3), .val (.int (1 : Int32)), .val (.int rA), .val (.int (3 : Int32)), .val (.int r271), .unset, .unset, .unset, .unset, .unset, .unset] [(.int (p2 &&& (16 : Int32)))])) t
            by_cases hc299 : (p2 &&& (16 : Int32)) = (0 : Int32)
            · refine XS.ifNo Y71.here hx rfl (hb hby at_299) rfl ((if0 _ _).trans (teq hc299).2) ?_
              show Steps p.tables e below (T70.setTop (mkF m 302 #[.val (.int p0), .val (.int p1), .val (.int p2), .val (.int (dA + (1 : Int32))), .val (.int (3 : Int32)), .val (.ref a3), .val (.int (1 : Int32)), .val (.int rA), .val (.int (3 : Int32)), .val (.int r271), .unset, .unset, .unset, .unset, .unset, .unset] [])) t
              refine XS.iconst Y71.here hx rfl (hb hby at_302) ?_
              show Steps p.tables e below (T70.setTop (mkF m 303 #[.val (.int p0), .val (.int p1), .val (.int p2), .val (.int (dA + (1 : Int32))), .val (.int (3 : Int32)), .val (.ref a3), .val (.int (1 : Int32)), .val (.int rA), .val (.int (3 : Int32)), .val (.int r271), .unset, .unset, .unset, .unset, .unset, .unset] [(.int (1 : Int32))])) t
              refine XS.goto Y71.here hx rfl (pc0 := 303) (pc' := 307) rfl (hb hby at_303) (by decide) (by decide) ?_
              show Steps p.tables e below (T70.setTop (mkF m 307 #[.val (.int p0), .val (.int p1), .val (.int p2), .val (.int (dA + (1 : Int32))), .val (.int (3 : Int32)), .val (.ref a3), .val (.int (1 : Int32)), .val (.int rA), .val (.int (3 : Int32)), .val (.int r271), .unset, .unset, .unset, .unset, .unset, .unset] [(.int (1 : Int32))])) t
              rw [hv307, if_pos hc299] at k
              exact k
            · refine XS.ifYes Y71.here hx rfl (pc0 := 299) (pc' := 306) rfl (hb hby at_299) rfl ((if0 _ _).trans (feq hc299).2) (by decide) (by decide) ?_
              show Steps p.tables e below (T70.setTop (mkF m 306 #[.val (.int p0), .val (.int p1), .val (.int p2), .val (.int (dA + (1 : Int32))), .val (.int (3 : Int32)), .val (.ref a3), .val (.int (1 : Int32)), .val (.int rA), .val (.int (3 : Int32)), .val (.int r271), .unset, .unset, .unset, .unset, .unset, .unset] [])) t
              refine XS.iconst Y71.here hx rfl (hb hby at_306) ?_
              show Steps p.tables e below (T70.setTop (mkF m 307 #[.val (.int p0), .val (.int p1), .val (.int p2), .val (.int (dA + (1 : Int32))), .val (.int (3 : Int32)), .val (.ref a3), .val (.int (1 : Int32)), .val (.int rA), .val (.int (3 : Int32)), .val (.int r271), .unset, .unset, .unset, .unset, .unset, .unset] [(.int (0 : Int32))])) t
              rw [hv307, if_neg hc299] at k
              exact k
          refine Rn.go (T' := T70) (g' := (mkF m 309 #[.val (.int p0), .val (.int p1), .val (.int p2), .val (.int (dA + (1 : Int32))), .val (.int (3 : Int32)), .val (.ref a3), .val (.int (1 : Int32)), .val (.int rA), .val (.int (3 : Int32)), .val (.int v307), .unset, .unset, .unset, .unset, .unset, .unset] [])) (fun t k => ?_) ?_
          · show Steps p.tables e below (T70.setTop (mkF m 307 #[.val (.int p0), .val (.int p1), .val (.int p2), .val (.int (dA + (1 : Int32))), .val (.int (3 : Int32)), .val (.ref a3), .val (.int (1 : Int32)), .val (.int rA), .val (.int (3 : Int32)), .val (.int r271), .unset, .unset, .unset, .unset, .unset, .unset] [(.int v307)])) t
            refine XS.istore Y71.here hx rfl (hb hby at_307) rfl (l' := #[.val (.int p0), .val (.int p1), .val (.int p2), .val (.int (dA + (1 : Int32))), .val (.int (3 : Int32)), .val (.ref a3), .val (.int (1 : Int32)), .val (.int rA), .val (.int (3 : Int32)), .val (.int v307), .unset, .unset, .unset, .unset, .unset, .unset]) rfl ?_
            show Steps p.tables e below (T70.setTop (mkF m 309 #[.val (.int p0), .val (.int p1), .val (.int p2), .val (.int (dA + (1 : Int32))), .val (.int (3 : Int32)), .val (.ref a3), .val (.int (1 : Int32)), .val (.int rA), .val (.int (3 : Int32)), .val (.int v307), .unset, .unset, .unset, .unset, .unset, .unset] [])) t
            exact k
          exact HJ309 _ (3 : Int32) _ _ (by decide) (by decide) (by decide) hv307 (by rw [(own_f35 btA), (own_f36 btA)]; exact Y71)
        · refine Rn.go (T' := T65) (g' := (mkF m 253 #[.val (.int p0), .val (.int p1), .val (.int p2), .val (.int (dA + (1 : Int32))), .val (.int (3 : Int32)), .val (.ref a3), .val (.int (1 : Int32)), .val (.int rA), .val (.int (3 : Int32)), .val (.int r214), .unset, .unset, .unset, .unset, .unset, .unset] [])) (fun t k => XS.ifNo Y66.here hx rfl (hb hby at_250) rfl ((if0 _ _).trans (feq hc250).1) k) ?_
          refine Rn.go (T' := T65) (g' := (mkF m 258 #[.val (.int p0), .val (.int p1), .val (.int p2), .val (.int (dA + (1 : Int32))), .val (.int (3 : Int32)), .val (.ref a3), .val (.int (1 : Int32)), .val (.int rA), .val (.int (3 : Int32)), .val (.int r214), .unset, .unset, .unset, .unset, .unset, .unset] [(.int (3 : Int32)), (.int (5 : Int32)), (.ref a3)])) (fun t k => ?_) ?_
          · show Steps p.tables e below (T65.setTop (mkF m 253 #[.val (.int p0), .val (.int p1), .val (.int p2), .val (.int (dA + (1 : Int32))), .val (.int (3 : Int32)), .val (.ref a3), .val (.int (1 : Int32)), .val (.int rA), .val (.int (3 : Int32)), .val (.int r214), .unset, .unset, .unset, .unset, .unset, .unset] [])) t
            refine XS.aload Y66.here hx rfl (hb hby at_253) rfl rfl ?_
            show Steps p.tables e below (T65.setTop (mkF m 255 #[.val (.int p0), .val (.int p1), .val (.int p2), .val (.int (dA + (1 : Int32))), .val (.int (3 : Int32)), .val (.ref a3), .val (.int (1 : Int32)), .val (.int rA), .val (.int (3 : Int32)), .val (.int r214), .unset, .unset, .unset, .unset, .unset, .unset] [(.ref a3)])) t
            refine XS.iconst Y66.here hx rfl (hb hby at_255) ?_
            show Steps p.tables e below (T65.setTop (mkF m 256 #[.val (.int p0), .val (.int p1), .val (.int p2), .val (.int (dA + (1 : Int32))), .val (.int (3 : Int32)), .val (.ref a3), .val (.int (1 : Int32)), .val (.int rA), .val (.int (3 : Int32)), .val (.int r214), .unset, .unset, .unset, .unset, .unset, .unset] [(.int (5 : Int32)), (.ref a3)])) t
            refine XS.iload Y66.here hx rfl (hb hby at_256) rfl ?_
            show Steps p.tables e below (T65.setTop (mkF m 258 #[.val (.int p0), .val (.int p1), .val (.int p2), .val (.int (dA + (1 : Int32))), .val (.int (3 : Int32)), .val (.ref a3), .val (.int (1 : Int32)), .val (.int rA), .val (.int (3 : Int32)), .val (.int r214), .unset, .unset, .unset, .unset, .unset, .unset] [(.int (3 : Int32)), (.int (5 : Int32)), (.ref a3)])) t
            exact k
          refine On.virtual Y66 hx hZ (y := (⟨"com/example/arborplan/arborplan/tree/DisjointSets", "union", "(II)I"⟩ : MethodName)) (C := "com/example/arborplan/arborplan/tree/DisjointSets") hown (w15 hw) (w16 hw) (w17 hw) (w18 hw) (w19 hw) (w3 hw) (by decide) (a := a3) (argsL := [(.int (5 : Int32)), (.int (3 : Int32))]) (rest := []) (i := 0) rfl (rm3 l Z a0 hw n0 a3 (5 : Int32) (3 : Int32) a9 a10 (own_pn (own_P tA (0 : Int32)) (own_S tA (0 : Int32)) (3 : Int32) (4 : Int32)) (own_sn (own_S tA (0 : Int32)) (3 : Int32) (4 : Int32)) [] (own_f37 ) (own_f38 ) (own_f39 ) (own_f40 ) (own_f41 btA) (own_f42 btA)) (W := 0) (by decide) (by decide) (by decide) (by decide) (g := (mkF m 258 #[.val (.int p0), .val (.int p1), .val (.int p2), .val (.int (dA + (1 : Int32))), .val (.int (3 : Int32)), .val (.ref a3), .val (.int (1 : Int32)), .val (.int rA), .val (.int (3 : Int32)), .val (.int r214), .unset, .unset, .unset, .unset, .unset, .unset] [(.int (3 : Int32)), (.int (5 : Int32)), (.ref a3)])) rfl (by rw [hml]; rfl) (lenOf pd1 rfl) rfl (by show 2 * 0 + _ ≤ _; exact Nat.le_of_eq rfl) (hb hby at_258) ?_
          intro T75 u77 D78 hp79 Y76
          obtain ⟨r258, hr258, rfl, rfl⟩ : ∃ z : Int32, z = (own_ro (own_sn (own_S tA (0 : Int32)) (3 : Int32) (4 : Int32)) (5 : Int32) (3 : Int32)) ∧ u77 = some (.int z) ∧ D78 = _ := ⟨_, rfl, hp79.1, hp79.2⟩
          replace Y76 : On p l e _ s m _ below meth c Z n0 T75 3 14 [ob a3 own_C0 (own_F0 (.ref a9) (.ref a10)), ari a9 .int (6 : Int32) (own_pn (own_pn (own_P tA (0 : Int32)) (own_S tA (0 : Int32)) (3 : Int32) (4 : Int32)) (own_sn (own_S tA (0 : Int32)) (3 : Int32) (4 : Int32)) (5 : Int32) (3 : Int32)), ari a10 .int (6 : Int32) (own_sn (own_sn (own_S tA (0 : Int32)) (3 : Int32) (4 : Int32)) (5 : Int32) (3 : Int32))] := Y76
          show Rn p e below F T75 (mkF m 261 #[.val (.int p0), .val (.int p1), .val (.int p2), .val (.int (dA + (1 : Int32))), .val (.int (3 : Int32)), .val (.ref a3), .val (.int (1 : Int32)), .val (.int rA), .val (.int (3 : Int32)), .val (.int r214), .unset, .unset, .unset, .unset, .unset, .unset] [(.int r258)])
          refine Rn.go (T' := T75) (g' := (mkF m 278 #[.val (.int p0), .val (.int p1), .val (.int p2), .val (.int (dA + (1 : Int32))), .val (.int (3 : Int32)), .val (.ref a3), .val (.int (1 : Int32)), .val (.int rA), .val (.int (3 : Int32)), .val (.int r258), .unset, .unset, .unset, .unset, .unset, .unset] [(.int (1 : Int32))])) (fun t k => ?_) ?_
          · show Steps p.tables e below (T75.setTop (mkF m 261 #[.val (.int p0), .val (.int p1), .val (.int p2), .val (.int (dA + (1 : Int32))), .val (.int (3 : Int32)), .val (.ref a3), .val (.int (1 : Int32)), .val (.int rA), .val (.int (3 : Int32)), .val (.int r214), .unset, .unset, .unset, .unset, .unset, .unset] [(.int r258)])) t
            refine XS.istore Y76.here hx rfl (hb hby at_261) rfl (l' := #[.val (.int p0), .val (.int p1), .val (.int p2), .val (.int (dA + (1 : Int32))), .val (.int (3 : Int32)), .val (.ref a3), .val (.int (1 : Int32)), .val (.int rA), .val (.int (3 : Int32)), .val (.int r258), .unset, .unset, .unset, .unset, .unset, .unset]) rfl ?_
            show Steps p.tables e below (T75.setTop (mkF m 263 #[.val (.int p0), .val (.int p1), .val (.int p2), .val (.int (dA + (1 : Int32))), .val (.int (3 : Int32)), .val (.ref a3), .val (.int (1 : Int32)), .val (.int rA), .val (.int (3 : Int32)), .val (.int r258), .unset, .unset, .unset, .unset, .unset, .unset] [])) t
            refine XS.goto Y76.here hx rfl (pc0 := 263) (pc' := 276) rfl (hb hby at_263) (by decide) (by decide) ?_
            show Steps p.tables e below (T75.setTop (mkF m 276 #[.val (.int p0), .val (.int p1), .val (.int p2), .val (.int (dA + (1 : Int32))), .val (.int (3 : Int32)), .val (.ref a3), .val (.int (1 : Int32)), .val (.int rA), .val (.int (3 : Int32)), .val (.int r258), .unset, .unset, .unset, .unset, .unset, .unset] [])) t
            refine XS.iload Y76.here hx rfl (hb hby at_276) rfl ?_
            show Steps p.tables e below (T75.setTop (mkF m 278 #[.val (.int p0), .val (.int p1), .val (.int p2), .val (.int (dA + (1 : Int32))), .val (.int (3 : Int32)), .val (.ref a3), .val (.int (1 : Int32)), .val (.int rA), .val (.int (3 : Int32)), .val (.int r258), .unset, .unset, .unset, .unset, .unset, .unset] [(.int (1 : Int32))])) t
            exact k
          refine Rn.go (T' := T75) (g' := (mkF m 281 #[.val (.int p0), .val (.int p1), .val (.int p2), .val (.int (dA + (1 : Int32))), .val (.int (3 : Int32)), .val (.ref a3), .val (.int (1 : Int32)), .val (.int rA), .val (.int (3 : Int32)), .val (.int r258), .unset, .unset, .unset, .unset, .unset, .unset] [])) (fun t k => XS.ifNo Y76.here hx rfl (hb hby at_278) rfl ((if0 _ _).trans (feq (by decide)).1) k) ?_
          refine Rn.go (T' := T75) (g' := (mkF m 285 #[.val (.int p0), .val (.int p1), .val (.int p2), .val (.int (dA + (1 : Int32))), .val (.int (3 : Int32)), .val (.ref a3), .val (.int (1 : Int32)), .val (.int rA), .val (.int (3 : Int32)), .val (.int r258), .unset, .unset, .unset, .unset, .unset, .unset] [(.int (3 : Int32)), (.int r258)])) (fun t k => ?_) ?_
          · show Steps p.tables e below (T75.setTop (mkF m 281 #[.val (.int p0), .val (.int p1), .val (.int p2), .val (.int (dA + (1 : Int32))), .val (.int (3 : Int32)), .val (.ref a3), .val (.int (1 : Int32)), .val (.int rA), .val (.int (3 : Int32)), .val (.int r258), .unset, .unset, .unset, .unset, .unset, .unset] [])) t
            refine XS.iload Y76.here hx rfl (hb hby at_281) rfl ?_
            show Steps p.tables e below (T75.setTop (mkF m 283 #[.val (.int p0), .val (.int p1), .val (.int p2), .val (.int (dA + (1 : Int32))), .val (.int (3 : Int32)), .val (.ref a3), .val (.int (1 : Int32)), .val (.int rA), .val (.int (3 : Int32)), .val (.int r258), .unset, .unset, .unset, .unset, .unset, .unset] [(.int r258)])) t
            refine XS.iload Y76.here hx rfl (hb hby at_283) rfl ?_
            show Steps p.tables e below (T75.setTop (mkF m 285 #[.val (.int p0), .val (.int p1), .val (.int p2), .val (.int (dA + (1 : Int32))), .val (.int (3 : Int32)), .val (.ref a3), .val (.int (1 : Int32)), .val (.int rA), .val (.int (3 : Int32)), .val (.int r258), .unset, .unset, .unset, .unset, .unset, .unset] [(.int (3 : Int32)), (.int r258)])) t
            exact k
          refine Rn.go (T' := T75) (g' := (mkF m 288 #[.val (.int p0), .val (.int p1), .val (.int p2), .val (.int (dA + (1 : Int32))), .val (.int (3 : Int32)), .val (.ref a3), .val (.int (1 : Int32)), .val (.int rA), .val (.int (3 : Int32)), .val (.int r258), .unset, .unset, .unset, .unset, .unset, .unset] [])) (fun t k => XS.icmpNo Y76.here hx rfl (hb hby at_285) rfl (teq (own_f43 btA hr258)).2 k) ?_
          refine Rn.go (T' := T75) (g' := (mkF m 299 #[.val (.int p0), .val (.int p1), .val (.int p2), .val (.int (dA + (1 : Int32))), .val (.int (3 : Int32)), .val (.ref a3), .val (.int (1 : Int32)), .val (.int rA), .val (.int (3 : Int32)), .val (.int r258), .unset, .unset, .unset, .unset, .unset, .unset] [(.int (p2 &&& (16 : Int32)))])) (fun t k => ?_) ?_
          · show Steps p.tables e below (T75.setTop (mkF m 288 #[.val (.int p0), .val (.int p1), .val (.int p2), .val (.int (dA + (1 : Int32))), .val (.int (3 : Int32)), .val (.ref a3), .val (.int (1 : Int32)), .val (.int rA), .val (.int (3 : Int32)), .val (.int r258), .unset, .unset, .unset, .unset, .unset, .unset] [])) t
            refine XS.iconst Y76.here hx rfl (hb hby at_288) ?_
            show Steps p.tables e below (T75.setTop (mkF m 289 #[.val (.int p0), .val (.int p1), .val (.int p2), .val (.int (dA + (1 : Int32))), .val (.int (3 : Int32)), .val (.ref a3), .val (.int (1 : Int32)), .val (.int rA), .val (.int (3 : Int32)), .val (.int r258), .unset, .unset, .unset, .unset, .unset, .unset] [(.int (1 : Int32))])) t
            refine XS.goto Y76.here hx rfl (pc0 := 289) (pc' := 293) rfl (hb hby at_289) (by decide) (by decide) ?_
            show Steps p.tables e below (T75.setTop (mkF m 293 #[.val (.int p0), .val (.int p1), .val (.int p2), .val (.int (dA + (1 : Int32))), .val (.int (3 : Int32)), .val (.ref a3), .val (.int (1 : Int32)), .val (.int rA), .val (.int (3 : Int32)), .val (.int r258), .unset, .unset, .unset, .unset, .unset, .unset] [(.int (1 : Int32))])) t
            refine XS.istore Y76.here hx rfl (hb hby at_293) rfl (l' := #[.val (.int p0), .val (.int p1), .val (.int p2), .val (.int (dA + (1 : Int32))), .val (.int (3 : Int32)), .val (.ref a3), .val (.int (1 : Int32)), .val (.int rA), .val (.int (3 : Int32)), .val (.int r258), .unset, .unset, .unset, .unset, .unset, .unset]) rfl ?_
            show Steps p.tables e below (T75.setTop (mkF m 295 #[.val (.int p0), .val (.int p1), .val (.int p2), .val (.int (dA + (1 : Int32))), .val (.int (3 : Int32)), .val (.ref a3), .val (.int (1 : Int32)), .val (.int rA), .val (.int (3 : Int32)), .val (.int r258), .unset, .unset, .unset, .unset, .unset, .unset] [])) t
            refine XS.iloadN Y76.here hx rfl (hb hby at_295) rfl ?_
            show Steps p.tables e below (T75.setTop (mkF m 296 #[.val (.int p0), .val (.int p1), .val (.int p2), .val (.int (dA + (1 : Int32))), .val (.int (3 : Int32)), .val (.ref a3), .val (.int (1 : Int32)), .val (.int rA), .val (.int (3 : Int32)), .val (.int r258), .unset, .unset, .unset, .unset, .unset, .unset] [(.int p2)])) t
            refine XS.bipush Y76.here hx rfl (hb hby at_296) ?_
            show Steps p.tables e below (T75.setTop (mkF m 298 #[.val (.int p0), .val (.int p1), .val (.int p2), .val (.int (dA + (1 : Int32))), .val (.int (3 : Int32)), .val (.ref a3), .val (.int (1 : Int32)), .val (.int rA), .val (.int (3 : Int32)), .val (.int r258), .unset, .unset, .unset, .unset, .unset, .unset] [(.int (16 : Int32)), (.int p2)])) t
            refine XS.iand Y76.here hx rfl (hb hby at_298) rfl ?_
            show Steps p.tables e below (T75.setTop (mkF m 299 #[.val (.int p0), .val (.int p1), .val (.int p2), .val (.int (dA + (1 : Int32))), .val (.int (3 : Int32)), .val (.ref a3), .val (.int (1 : Int32)), .val (.int rA), .val (.int (3 : Int32)), .val (.int r258), .unset, .unset, .unset, .unset, .unset, .unset] [(.int (p2 &&& (16 : Int32)))])) t
            exact k
          obtain ⟨v307, hv307⟩ : ∃ z : Int32, z = (if (p2 &&& (16 : Int32)) = (0 : Int32) then (1 : Int32) else (0 : Int32)) := ⟨_, rfl⟩
          refine Rn.go (T' := T75) (g' := (mkF m 307 #[.val (.int p0), .val (.int p1), .val (.int p2), .val (.int (dA + (1 : Int32))), .val (.int (3 : Int32)), .val (.ref a3), .val (.int (1 : Int32)), .val (.int rA), .val (.int (3 : Int32)), .val (.int r258), .unset, .unset, .unset, .unset, .unset, .unset] [(.int v307)])) (fun t k => ?_) ?_
          · show Steps p.tables e below (T75.setTop (mkF m 299 #[.val (.int p0), .val (.int p1), .val (.int p2), .val (.int (dA + (1 : Int32))), .val (.int (3 : Int32)), .val (.ref a3), .val (.int (1 : Int32)), .val (.int rA), .val (.int (3 : Int32)), .val (.int r258), .unset, .unset, .unset, .unset, .unset, .unset] [(.int (p2 &&& (16 : Int32)))])) t
            by_cases hc299 : (p2 &&& (16 : Int32)) = (0 : Int32)
            · refine XS.ifNo Y76.here hx rfl (hb hby at_299) rfl ((if0 _ _).trans (teq hc299).2) ?_
              show Steps p.tables e below (T75.setTop (mkF m 302 #[.val (.int p0), .val (.int p1), .val (.int p2), .val (.int (dA + (1 : Int32))), .val (.int (3 : Int32)), .val (.ref a3), .val (.int (1 : Int32)), .val (.int rA), .val (.int (3 : Int32)), .val (.int r258), .unset, .unset, .unset, .unset, .unset, .unset] [])) t
              refine XS.iconst Y76.here hx rfl (hb hby at_302) ?_
              show Steps p.tables e below (T75.setTop (mkF m 303 #[.val (.int p0), .val (.int p1), .val (.int p2), .val (.int (dA + (1 : Int32))), .val (.int (3 : Int32)), .val (.ref a3), .val (.int (1 : Int32)), .val (.int rA), .val (.int (3 : Int32)), .val (.int r258), .unset, .unset, .unset, .unset, .unset, .unset] [(.int (1 : Int32))])) t
              refine XS.goto Y76.here hx rfl (pc0 := 303) (pc' := 307) rfl (hb hby at_303) (by decide) (by decide) ?_
              show Steps p.tables e below (T75.setTop (mkF m 307 #[.val (.int p0), .val (.int p1), .val (.int p2), .val (.int (dA + (1 : Int32))), .val (.int (3 : Int32)), .val (.ref a3), .val (.int (1 : Int32)), .val (.int rA), .val (.int (3 : Int32)), .val (.int r258), .unset, .unset, .unset, .unset, .unset, .unset] [(.int (1 : Int32))])) t
              rw [hv307, if_pos hc299] at k
              exact k
            · refine XS.ifYes Y76.here hx rfl (pc0 := 299) (pc' := 306) rfl (hb hby at_299) rfl ((if0 _ _).trans (feq hc299).2) (by decide) (by decide) ?_
              show Steps p.tables e below (T75.setTop (mkF m 306 #[.val (.int p0), .val (.int p1), .val (.int p2), .val (.int (dA + (1 : Int32))), .val (.int (3 : Int32)), .val (.ref a3), .val (.int (1 : Int32)), .val (.int rA), .val (.int (3 : Int32)), .val (.int r258), .unset, .unset, .unset, .unset, .unset, .unset] [])) t
              refine XS.iconst Y76.here hx rfl (hb hby at_306) ?_
              show Steps p.tables e below (T75.setTop (mkF m 307 #[.val (.int p0), .val (.int p1), .val (.int p2), .val (.int (dA + (1 : Int32))), .val (.int (3 : Int32)), .val (.ref a3), .val (.int (1 : Int32)), .val (.int rA), .val (.int (3 : Int32)), .val (.int r258), .unset, .unset, .unset, .unset, .unset, .unset] [(.int (0 : Int32))])) t
              rw [hv307, if_neg hc299] at k
              exact k
          refine Rn.go (T' := T75) (g' := (mkF m 309 #[.val (.int p0), .val (.int p1), .val (.int p2), .val (.int (dA + (1 : Int32))), .val (.int (3 : Int32)), .val (.ref a3), .val (.int (1 : Int32)), .val (.int rA), .val (.int (3 : Int32)), .val (.int v307), .unset, .unset, .unset, .unset, .unset, .unset] [])) (fun t k => ?_) ?_
          · show Steps p.tables e below (T75.setTop (mkF m 307 #[.val (.int p0), .val (.int p1), .val (.int p2), .val (.int (dA + (1 : Int32))), .val (.int (3 : Int32)), .val (.ref a3), .val (.int (1 : Int32)), .val (.int rA), .val (.int (3 : Int32)), .val (.int r258), .unset, .unset, .unset, .unset, .unset, .unset] [(.int v307)])) t
            refine XS.istore Y76.here hx rfl (hb hby at_307) rfl (l' := #[.val (.int p0), .val (.int p1), .val (.int p2), .val (.int (dA + (1 : Int32))), .val (.int (3 : Int32)), .val (.ref a3), .val (.int (1 : Int32)), .val (.int rA), .val (.int (3 : Int32)), .val (.int v307), .unset, .unset, .unset, .unset, .unset, .unset]) rfl ?_
            show Steps p.tables e below (T75.setTop (mkF m 309 #[.val (.int p0), .val (.int p1), .val (.int p2), .val (.int (dA + (1 : Int32))), .val (.int (3 : Int32)), .val (.ref a3), .val (.int (1 : Int32)), .val (.int rA), .val (.int (3 : Int32)), .val (.int v307), .unset, .unset, .unset, .unset, .unset, .unset] [])) t
            exact k
          exact HJ309 _ (3 : Int32) _ _ (by decide) (by decide) (by decide) hv307 (by rw [(own_f44 btA), (own_f45 btA)]; exact Y76)
      · refine Rn.go (T' := T11) (g' := (mkF m 177 #[.val (.int p0), .val (.int p1), .val (.int p2), .val (.int (dA + (1 : Int32))), .val (.int (3 : Int32)), .val (.ref a3), .val (.int (1 : Int32)), .val (.int rA), .val (.int (3 : Int32)), .unset, .unset, .unset, .unset, .unset, .unset, .unset] [])) (fun t k => XS.ifNo Y12.here hx rfl (hb hby at_174) rfl ((if0 _ _).trans (feq hc174).1) k) ?_
        refine Rn.go (T' := T11) (g' := (mkF m 181 #[.val (.int p0), .val (.int p1), .val (.int p2), .val (.int (dA + (1 : Int32))), .val (.int (3 : Int32)), .val (.ref a3), .val (.int (1 : Int32)), .val (.int rA), .val (.int (3 : Int32)), .unset, .unset, .unset, .unset, .unset, .unset, .unset] [(.int (3 : Int32)), (.int (4 : Int32)), (.ref a3)])) (fun t k => ?_) ?_
        · show Steps p.tables e below (T11.setTop (mkF m 177 #[.val (.int p0), .val (.int p1), .val (.int p2), .val (.int (dA + (1 : Int32))), .val (.int (3 : Int32)), .val (.ref a3), .val (.int (1 : Int32)), .val (.int rA), .val (.int (3 : Int32)), .unset, .unset, .unset, .unset, .unset, .unset, .unset] [])) t
          refine XS.aload Y12.here hx rfl (hb hby at_177) rfl rfl ?_
          show Steps p.tables e below (T11.setTop (mkF m 179 #[.val (.int p0), .val (.int p1), .val (.int p2), .val (.int (dA + (1 : Int32))), .val (.int (3 : Int32)), .val (.ref a3), .val (.int (1 : Int32)), .val (.int rA), .val (.int (3 : Int32)), .unset, .unset, .unset, .unset, .unset, .unset, .unset] [(.ref a3)])) t
          refine XS.iconst Y12.here hx rfl (hb hby at_179) ?_
          show Steps p.tables e below (T11.setTop (mkF m 180 #[.val (.int p0), .val (.int p1), .val (.int p2), .val (.int (dA + (1 : Int32))), .val (.int (3 : Int32)), .val (.ref a3), .val (.int (1 : Int32)), .val (.int rA), .val (.int (3 : Int32)), .unset, .unset, .unset, .unset, .unset, .unset, .unset] [(.int (4 : Int32)), (.ref a3)])) t
          refine XS.iconst Y12.here hx rfl (hb hby at_180) ?_
          show Steps p.tables e below (T11.setTop (mkF m 181 #[.val (.int p0), .val (.int p1), .val (.int p2), .val (.int (dA + (1 : Int32))), .val (.int (3 : Int32)), .val (.ref a3), .val (.int (1 : Int32)), .val (.int rA), .val (.int (3 : Int32)), .unset, .unset, .unset, .unset, .unset, .unset, .unset] [(.int (3 : Int32)), (.int (4 : Int32)), (.ref a3)])) t
          exact k
        refine On.virtual Y12 hx hZ (y := (⟨"com/example/arborplan/arborplan/tree/DisjointSets", "union", "(II)I"⟩ : MethodName)) (C := "com/example/arborplan/arborplan/tree/DisjointSets") hown (w15 hw) (w16 hw) (w17 hw) (w18 hw) (w19 hw) (w3 hw) (by decide) (a := a3) (argsL := [(.int (4 : Int32)), (.int (3 : Int32))]) (rest := []) (i := 0) rfl (rm3 l Z a0 hw n0 a3 (4 : Int32) (3 : Int32) a9 a10 (own_P tA (0 : Int32)) (own_S tA (0 : Int32)) [] (own_f46 ) (own_f47 ) (own_f48 ) (own_f49 ) (own_f50 btA) (own_f51 btA)) (W := 0) (by decide) (by decide) (by decide) (by decide) (g := (mkF m 181 #[.val (.int p0), .val (.int p1), .val (.int p2), .val (.int (dA + (1 : Int32))), .val (.int (3 : Int32)), .val (.ref a3), .val (.int (1 : Int32)), .val (.int rA), .val (.int (3 : Int32)), .unset, .unset, .unset, .unset, .unset, .unset, .unset] [(.int (3 : Int32)), (.int (4 : Int32)), (.ref a3)])) rfl (by rw [hml]; rfl) (lenOf pd1 rfl) rfl (by show 2 * 0 + _ ≤ _; exact Nat.le_of_eq rfl) (hb hby at_181) ?_
        intro T80 u82 D83 hp84 Y81
        obtain ⟨r181, hr181, rfl, rfl⟩ : ∃ z : Int32, z = (own_ro (own_S tA (0 : Int32)) (4 : Int32) (3 : Int32)) ∧ u82 = some (.int z) ∧ D83 = _ := ⟨_, rfl, hp84.1, hp84.2⟩
        replace Y81 : On p l e _ s m _ below meth c Z n0 T80 3 14 [ob a3 own_C0 (own_F0 (.ref a9) (.ref a10)), ari a9 .int (6 : Int32) (own_pn (own_P tA (0 : Int32)) (own_S tA (0 : Int32)) (4 : Int32) (3 : Int32)), ari a10 .int (6 : Int32) (own_sn (own_S tA (0 : Int32)) (4 : Int32) (3 : Int32))] := Y81
        show Rn p e below F T80 (mkF m 184 #[.val (.int p0), .val (.int p1), .val (.int p2), .val (.int (dA + (1 : Int32))), .val (.int (3 : Int32)), .val (.ref a3), .val (.int (1 : Int32)), .val (.int rA), .val (.int (3 : Int32)), .unset, .unset, .unset, .unset, .unset, .unset, .unset] [(.int r181)])
        refine Rn.go (T' := T80) (g' := (mkF m 188 #[.val (.int p0), .val (.int p1), .val (.int p2), .val (.int (dA + (1 : Int32))), .val (.int (3 : Int32)), .val (.ref a3), .val (.int (1 : Int32)), .val (.int rA), .val (.int (3 : Int32)), .val (.int r181), .unset, .unset, .unset, .unset, .unset, .unset] [(.int (1 : Int32))])) (fun t k => ?_) ?_
        · show Steps p.tables e below (T80.setTop (mkF m 184 #[.val (.int p0), .val (.int p1), .val (.int p2), .val (.int (dA + (1 : Int32))), .val (.int (3 : Int32)), .val (.ref a3), .val (.int (1 : Int32)), .val (.int rA), .val (.int (3 : Int32)), .unset, .unset, .unset, .unset, .unset, .unset, .unset] [(.int r181)])) t
          refine XS.istore Y81.here hx rfl (hb hby at_184) rfl (l' := #[.val (.int p0), .val (.int p1), .val (.int p2), .val (.int (dA + (1 : Int32))), .val (.int (3 : Int32)), .val (.ref a3), .val (.int (1 : Int32)), .val (.int rA), .val (.int (3 : Int32)), .val (.int r181), .unset, .unset, .unset, .unset, .unset, .unset]) rfl ?_
          show Steps p.tables e below (T80.setTop (mkF m 186 #[.val (.int p0), .val (.int p1), .val (.int p2), .val (.int (dA + (1 : Int32))), .val (.int (3 : Int32)), .val (.ref a3), .val (.int (1 : Int32)), .val (.int rA), .val (.int (3 : Int32)), .val (.int r181), .unset, .unset, .unset, .unset, .unset, .unset] [])) t
          refine XS.iload Y81.here hx rfl (hb hby at_186) rfl ?_
          show Steps p.tables e below (T80.setTop (mkF m 188 #[.val (.int p0), .val (.int p1), .val (.int p2), .val (.int (dA + (1 : Int32))), .val (.int (3 : Int32)), .val (.ref a3), .val (.int (1 : Int32)), .val (.int rA), .val (.int (3 : Int32)), .val (.int r181), .unset, .unset, .unset, .unset, .unset, .unset] [(.int (1 : Int32))])) t
          exact k
        refine Rn.go (T' := T80) (g' := (mkF m 191 #[.val (.int p0), .val (.int p1), .val (.int p2), .val (.int (dA + (1 : Int32))), .val (.int (3 : Int32)), .val (.ref a3), .val (.int (1 : Int32)), .val (.int rA), .val (.int (3 : Int32)), .val (.int r181), .unset, .unset, .unset, .unset, .unset, .unset] [])) (fun t k => XS.ifNo Y81.here hx rfl (hb hby at_188) rfl ((if0 _ _).trans (feq (by decide)).1) k) ?_
        refine Rn.go (T' := T80) (g' := (mkF m 194 #[.val (.int p0), .val (.int p1), .val (.int p2), .val (.int (dA + (1 : Int32))), .val (.int (3 : Int32)), .val (.ref a3), .val (.int (1 : Int32)), .val (.int rA), .val (.int (3 : Int32)), .val (.int r181), .unset, .unset, .unset, .unset, .unset, .unset] [(.int (4 : Int32)), (.int r181)])) (fun t k => ?_) ?_
        · show Steps p.tables e below (T80.setTop (mkF m 191 #[.val (.int p0), .val (.int p1), .val (.int p2), .val (.int (dA + (1 : Int32))), .val (.int (3 : Int32)), .val (.ref a3), .val (.int (1 : Int32)), .val (.int rA), .val (.int (3 : Int32)), .val (.int r181), .unset, .unset, .unset, .unset, .unset, .unset] [])) t
          refine XS.iload Y81.here hx rfl (hb hby at_191) rfl ?_
          show Steps p.tables e below (T80.setTop (mkF m 193 #[.val (.int p0), .val (.int p1), .val (.int p2), .val (.int (dA + (1 : Int32))), .val (.int (3 : Int32)), .val (.ref a3), .val (.int (1 : Int32)), .val (.int rA), .val (.int (3 : Int32)), .val (.int r181), .unset, .unset, .unset, .unset, .unset, .unset] [(.int r181)])) t
          refine XS.iconst Y81.here hx rfl (hb hby at_193) ?_
          show Steps p.tables e below (T80.setTop (mkF m 194 #[.val (.int p0), .val (.int p1), .val (.int p2), .val (.int (dA + (1 : Int32))), .val (.int (3 : Int32)), .val (.ref a3), .val (.int (1 : Int32)), .val (.int rA), .val (.int (3 : Int32)), .val (.int r181), .unset, .unset, .unset, .unset, .unset, .unset] [(.int (4 : Int32)), (.int r181)])) t
          exact k
        refine Rn.go (T' := T80) (g' := (mkF m 197 #[.val (.int p0), .val (.int p1), .val (.int p2), .val (.int (dA + (1 : Int32))), .val (.int (3 : Int32)), .val (.ref a3), .val (.int (1 : Int32)), .val (.int rA), .val (.int (3 : Int32)), .val (.int r181), .unset, .unset, .unset, .unset, .unset, .unset] [])) (fun t k => XS.icmpNo Y81.here hx rfl (hb hby at_194) rfl (teq (own_f52 btA hr181)).2 k) ?_
        refine Rn.go (T' := T80) (g' := (mkF m 243 #[.val (.int p0), .val (.int p1), .val (.int p2), .val (.int (dA + (1 : Int32))), .val (.int (3 : Int32)), .val (.ref a3), .val (.int (1 : Int32)), .val (.int rA), .val (.int (4 : Int32)), .val (.int r181), .unset, .unset, .unset, .unset, .unset, .unset] [(.int (3 : Int32)), (.int (3 : Int32))])) (fun t k => ?_) ?_
        · show Steps p.tables e below (T80.setTop (mkF m 197 #[.val (.int p0), .val (.int p1), .val (.int p2), .val (.int (dA + (1 : Int32))), .val (.int (3 : Int32)), .val (.ref a3), .val (.int (1 : Int32)), .val (.int rA), .val (.int (3 : Int32)), .val (.int r181), .unset, .unset, .unset, .unset, .unset, .unset] [])) t
          refine XS.iconst Y81.here hx rfl (hb hby at_197) ?_
          show Steps p.tables e below (T80.setTop (mkF m 198 #[.val (.int p0), .val (.int p1), .val (.int p2), .val (.int (dA + (1 : Int32))), .val (.int (3 : Int32)), .val (.ref a3), .val (.int (1 : Int32)), .val (.int rA), .val (.int (3 : Int32)), .val (.int r181), .unset, .unset, .unset, .unset, .unset, .unset] [(.int (1 : Int32))])) t
          refine XS.goto Y81.here hx rfl (pc0 := 198) (pc' := 202) rfl (hb hby at_198) (by decide) (by decide) ?_
          show Steps p.tables e below (T80.setTop (mkF m 202 #[.val (.int p0), .val (.int p1), .val (.int p2), .val (.int (dA + (1 : Int32))), .val (.int (3 : Int32)), .val (.ref a3), .val (.int (1 : Int32)), .val (.int rA), .val (.int (3 : Int32)), .val (.int r181), .unset, .unset, .unset, .unset, .unset, .unset] [(.int (1 : Int32))])) t
          refine XS.istore Y81.here hx rfl (hb hby at_202) rfl (l' := #[.val (.int p0), .val (.int p1), .val (.int p2), .val (.int (dA + (1 : Int32))), .val (.int (3 : Int32)), .val (.ref a3), .val (.int (1 : Int32)), .val (.int rA), .val (.int (3 : Int32)), .val (.int r181), .unset, .unset, .unset, .unset, .unset, .unset]) rfl ?_
          show Steps p.tables e below (T80.setTop (mkF m 204 #[.val (.int p0), .val (.int p1), .val (.int p2), .val (.int (dA + (1 : Int32))), .val (.int (3 : Int32)), .val (.ref a3), .val (.int (1 : Int32)), .val (.int rA), .val (.int (3 : Int32)), .val (.int r181), .unset, .unset, .unset, .unset, .unset, .unset] [])) t
          refine XS.iconst Y81.here hx rfl (hb hby at_204) ?_
          show Steps p.tables e below (T80.setTop (mkF m 205 #[.val (.int p0), .val (.int p1), .val (.int p2), .val (.int (dA + (1 : Int32))), .val (.int (3 : Int32)), .val (.ref a3), .val (.int (1 : Int32)), .val (.int rA), .val (.int (3 : Int32)), .val (.int r181), .unset, .unset, .unset, .unset, .unset, .unset] [(.int (4 : Int32))])) t
          refine XS.istore Y81.here hx rfl (hb hby at_205) rfl (l' := #[.val (.int p0), .val (.int p1), .val (.int p2), .val (.int (dA + (1 : Int32))), .val (.int (3 : Int32)), .val (.ref a3), .val (.int (1 : Int32)), .val (.int rA), .val (.int (4 : Int32)), .val (.int r181), .unset, .unset, .unset, .unset, .unset, .unset]) rfl ?_
          show Steps p.tables e below (T80.setTop (mkF m 207 #[.val (.int p0), .val (.int p1), .val (.int p2), .val (.int (dA + (1 : Int32))), .val (.int (3 : Int32)), .val (.ref a3), .val (.int (1 : Int32)), .val (.int rA), .val (.int (4 : Int32)), .val (.int r181), .unset, .unset, .unset, .unset, .unset, .unset] [])) t
          refine XS.goto Y81.here hx rfl (pc0 := 207) (pc' := 240) rfl (hb hby at_207) (by decide) (by decide) ?_
          show Steps p.tables e below (T80.setTop (mkF m 240 #[.val (.int p0), .val (.int p1), .val (.int p2), .val (.int (dA + (1 : Int32))), .val (.int (3 : Int32)), .val (.ref a3), .val (.int (1 : Int32)), .val (.int rA), .val (.int (4 : Int32)), .val (.int r181), .unset, .unset, .unset, .unset, .unset, .unset] [])) t
          refine XS.iload Y81.here hx rfl (hb hby at_240) rfl ?_
          show Steps p.tables e below (T80.setTop (mkF m 242 #[.val (.int p0), .val (.int p1), .val (.int p2), .val (.int (dA + (1 : Int32))), .val (.int (3 : Int32)), .val (.ref a3), .val (.int (1 : Int32)), .val (.int rA), .val (.int (4 : Int32)), .val (.int r181), .unset, .unset, .unset, .unset, .unset, .unset] [(.int (3 : Int32))])) t
          refine XS.iconst Y81.here hx rfl (hb hby at_242) ?_
          show Steps p.tables e below (T80.setTop (mkF m 243 #[.val (.int p0), .val (.int p1), .val (.int p2), .val (.int (dA + (1 : Int32))), .val (.int (3 : Int32)), .val (.ref a3), .val (.int (1 : Int32)), .val (.int rA), .val (.int (4 : Int32)), .val (.int r181), .unset, .unset, .unset, .unset, .unset, .unset] [(.int (3 : Int32)), (.int (3 : Int32))])) t
          exact k
        refine Rn.go (T' := T80) (g' := (mkF m 246 #[.val (.int p0), .val (.int p1), .val (.int p2), .val (.int (dA + (1 : Int32))), .val (.int (3 : Int32)), .val (.ref a3), .val (.int (1 : Int32)), .val (.int rA), .val (.int (4 : Int32)), .val (.int r181), .unset, .unset, .unset, .unset, .unset, .unset] [])) (fun t k => XS.icmpNo Y81.here hx rfl (hb hby at_243) rfl (teq (by decide)).2 k) ?_
        refine Rn.go (T' := T80) (g' := (mkF m 250 #[.val (.int p0), .val (.int p1), .val (.int p2), .val (.int (dA + (1 : Int32))), .val (.int (3 : Int32)), .val (.ref a3), .val (.int (1 : Int32)), .val (.int rA), .val (.int (4 : Int32)), .val (.int r181), .unset, .unset, .unset, .unset, .unset, .unset] [(.int (p2 &&& (8 : Int32)))])) (fun t k => ?_) ?_
        · show Steps p.tables e below (T80.setTop (mkF m 246 #[.val (.int p0), .val (.int p1), .val (.int p2), .val (.int (dA + (1 : Int32))), .val (.int (3 : Int32)), .val (.ref a3), .val (.int (1 : Int32)), .val (.int rA), .val (.int (4 : Int32)), .val (.int r181), .unset, .unset, .unset, .unset, .unset, .unset] [])) t
          refine XS.iloadN Y81.here hx rfl (hb hby at_246) rfl ?_
          show Steps p.tables e below (T80.setTop (mkF m 247 #[.val (.int p0), .val (.int p1), .val (.int p2), .val (.int (dA + (1 : Int32))), .val (.int (3 : Int32)), .val (.ref a3), .val (.int (1 : Int32)), .val (.int rA), .val (.int (4 : Int32)), .val (.int r181), .unset, .unset, .unset, .unset, .unset, .unset] [(.int p2)])) t
          refine XS.bipush Y81.here hx rfl (hb hby at_247) ?_
          show Steps p.tables e below (T80.setTop (mkF m 249 #[.val (.int p0), .val (.int p1), .val (.int p2), .val (.int (dA + (1 : Int32))), .val (.int (3 : Int32)), .val (.ref a3), .val (.int (1 : Int32)), .val (.int rA), .val (.int (4 : Int32)), .val (.int r181), .unset, .unset, .unset, .unset, .unset, .unset] [(.int (8 : Int32)), (.int p2)])) t
          refine XS.iand Y81.here hx rfl (hb hby at_249) rfl ?_
          show Steps p.tables e below (T80.setTop (mkF m 250 #[.val (.int p0), .val (.int p1), .val (.int p2), .val (.int (dA + (1 : Int32))), .val (.int (3 : Int32)), .val (.ref a3), .val (.int (1 : Int32)), .val (.int rA), .val (.int (4 : Int32)), .val (.int r181), .unset, .unset, .unset, .unset, .unset, .unset] [(.int (p2 &&& (8 : Int32)))])) t
          exact k
        by_cases hc250 : (p2 &&& (8 : Int32)) = (0 : Int32)
        · refine Rn.go (T' := T80) (g' := (mkF m 266 #[.val (.int p0), .val (.int p1), .val (.int p2), .val (.int (dA + (1 : Int32))), .val (.int (3 : Int32)), .val (.ref a3), .val (.int (1 : Int32)), .val (.int rA), .val (.int (4 : Int32)), .val (.int r181), .unset, .unset, .unset, .unset, .unset, .unset] [])) (fun t k => XS.ifYes Y81.here hx rfl (pc0 := 250) (pc' := 266) rfl (hb hby at_250) rfl ((if0 _ _).trans (teq hc250).1) (by decide) (by decide) k) ?_
          refine Rn.go (T' := T80) (g' := (mkF m 271 #[.val (.int p0), .val (.int p1), .val (.int p2), .val (.int (dA + (1 : Int32))), .val (.int (3 : Int32)), .val (.ref a3), .val (.int (1 : Int32)), .val (.int rA), .val (.int (4 : Int32)), .val (.int r181), .unset, .unset, .unset, .unset, .unset, .unset] [(.int (5 : Int32)), (.int (4 : Int32)), (.ref a3)])) (fun t k => ?_) ?_
          · show Steps p.tables e below (T80.setTop (mkF m 266 #[.val (.int p0), .val (.int p1), .val (.int p2), .val (.int (dA + (1 : Int32))), .val (.int (3 : Int32)), .val (.ref a3), .val (.int (1 : Int32)), .val (.int rA), .val (.int (4 : Int32)), .val (.int r181), .unset, .unset, .unset, .unset, .unset, .unset] [])) t
            refine XS.aload Y81.here hx rfl (hb hby at_266) rfl rfl ?_
            show Steps p.tables e below (T80.setTop (mkF m 268 #[.val (.int p0), .val (.int p1), .val (.int p2), .val (.int (dA + (1 : Int32))), .val (.int (3 : Int32)), .val (.ref a3), .val (.int (1 : Int32)), .val (.int rA), .val (.int (4 : Int32)), .val (.int r181), .unset, .unset, .unset, .unset, .unset, .unset] [(.ref a3)])) t
            refine XS.iload Y81.here hx rfl (hb hby at_268) rfl ?_
            show Steps p.tables e below (T80.setTop (mkF m 270 #[.val (.int p0), .val (.int p1), .val (.int p2), .val (.int (dA + (1 : Int32))), .val (.int (3 : Int32)), .val (.ref a3), .val (.int (1 : Int32)), .val (.int rA), .val (.int (4 : Int32)), .val (.int r181), .unset, .unset, .unset, .unset, .unset, .unset] [(.int (4 : Int32)), (.ref a3)])) t
            refine XS.iconst Y81.here hx rfl (hb hby at_270) ?_
            show Steps p.tables e below (T80.setTop (mkF m 271 #[.val (.int p0), .val (.int p1), .val (.int p2), .val (.int (dA + (1 : Int32))), .val (.int (3 : Int32)), .val (.ref a3), .val (.int (1 : Int32)), .val (.int rA), .val (.int (4 : Int32)), .val (.int r181), .unset, .unset, .unset, .unset, .unset, .unset] [(.int (5 : Int32)), (.int (4 : Int32)), (.ref a3)])) t
            exact k
          refine On.virtual Y81 hx hZ (y := (⟨"com/example/arborplan/arborplan/tree/DisjointSets", "union", "(II)I"⟩ : MethodName)) (C := "com/example/arborplan/arborplan/tree/DisjointSets") hown (w15 hw) (w16 hw) (w17 hw) (w18 hw) (w19 hw) (w3 hw) (by decide) (a := a3) (argsL := [(.int (4 : Int32)), (.int (5 : Int32))]) (rest := []) (i := 0) rfl (rm3 l Z a0 hw n0 a3 (4 : Int32) (5 : Int32) a9 a10 (own_pn (own_P tA (0 : Int32)) (own_S tA (0 : Int32)) (4 : Int32) (3 : Int32)) (own_sn (own_S tA (0 : Int32)) (4 : Int32) (3 : Int32)) [] (own_f53 ) (own_f54 ) (own_f55 ) (own_f56 ) (own_f57 btA) (own_f58 btA)) (W := 0) (by decide) (by decide) (by decide) (by decide) (g := (mkF m 271 #[.val (.int p0), .val (.int p1), .val (.int p2), .val (.int (dA + (1 : Int32))), .val (.int (3 : Int32)), .val (.ref a3), .val (.int (1 : Int32)), .val (.int rA), .val (.int (4 : Int32)), .val (.int r181), .unset, .unset, .unset, .unset, .unset, .unset] [(.int (5 : Int32)), (.int (4 : Int32)), (.ref a3)])) rfl (by rw [hml]; rfl) (lenOf pd1 rfl) rfl (by show 2 * 0 + _ ≤ _; exact Nat.le_of_eq rfl) (hb hby at_271) ?_
          intro T85 u87 D88 hp89 Y86
          obtain ⟨r271, hr271, rfl, rfl⟩ : ∃ z : Int32, z = (own_ro (own_sn (own_S tA (0 : Int32)) (4 : Int32) (3 : Int32)) (4 : Int32) (5 : Int32)) ∧ u87 = some (.int z) ∧ D88 = _ := ⟨_, rfl, hp89.1, hp89.2⟩
          replace Y86 : On p l e _ s m _ below meth c Z n0 T85 3 14 [ob a3 own_C0 (own_F0 (.ref a9) (.ref a10)), ari a9 .int (6 : Int32) (own_pn (own_pn (own_P tA (0 : Int32)) (own_S tA (0 : Int32)) (4 : Int32) (3 : Int32)) (own_sn (own_S tA (0 : Int32)) (4 : Int32) (3 : Int32)) (4 : Int32) (5 : Int32)), ari a10 .int (6 : Int32) (own_sn (own_sn (own_S tA (0 : Int32)) (4 : Int32) (3 : Int32)) (4 : Int32) (5 : Int32))] := Y86
          show Rn p e below F T85 (mkF m 274 #[.val (.int p0), .val (.int p1), .val (.int p2), .val (.int (dA + (1 : Int32))), .val (.int (3 : Int32)), .val (.ref a3), .val (.int (1 : Int32)), .val (.int rA), .val (.int (4 : Int32)), .val (.int r181), .unset, .unset, .unset, .unset, .unset, .unset] [(.int r271)])
          refine Rn.go (T' := T85) (g' := (mkF m 278 #[.val (.int p0), .val (.int p1), .val (.int p2), .val (.int (dA + (1 : Int32))), .val (.int (3 : Int32)), .val (.ref a3), .val (.int (1 : Int32)), .val (.int rA), .val (.int (4 : Int32)), .val (.int r271), .unset, .unset, .unset, .unset, .unset, .unset] [(.int (1 : Int32))])) (fun t k => ?_) ?_
          · show Steps p.tables e below (T85.setTop (mkF m 274 #[.val (.int p0), .val (.int p1), .val (.int p2), .val (.int (dA + (1 : Int32))), .val (.int (3 : Int32)), .val (.ref a3), .val (.int (1 : Int32)), .val (.int rA), .val (.int (4 : Int32)), .val (.int r181), .unset, .unset, .unset, .unset, .unset, .unset] [(.int r271)])) t
            refine XS.istore Y86.here hx rfl (hb hby at_274) rfl (l' := #[.val (.int p0), .val (.int p1), .val (.int p2), .val (.int (dA + (1 : Int32))), .val (.int (3 : Int32)), .val (.ref a3), .val (.int (1 : Int32)), .val (.int rA), .val (.int (4 : Int32)), .val (.int r271), .unset, .unset, .unset, .unset, .unset, .unset]) rfl ?_
            show Steps p.tables e below (T85.setTop (mkF m 276 #[.val (.int p0), .val (.int p1), .val (.int p2), .val (.int (dA + (1 : Int32))), .val (.int (3 : Int32)), .val (.ref a3), .val (.int (1 : Int32)), .val (.int rA), .val (.int (4 : Int32)), .val (.int r271), .unset, .unset, .unset, .unset, .unset, .unset] [])) t
            refine XS.iload Y86.here hx rfl (hb hby at_276) rfl ?_
            show Steps p.tables e below (T85.setTop (mkF m 278 #[.val (.int p0), .val (.int p1), .val (.int p2), .val (.int (dA + (1 : Int32))), .val (.int (3 : Int32)), .val (.ref a3), .val (.int (1 : Int32)), .val (.int rA), .val (.int (4 : Int32)), .val (.int r271), .unset, .unset, .unset, .unset, .unset, .unset] [(.int (1 : Int32))])) t
            exact k
          refine Rn.go (T' := T85) (g' := (mkF m 281 #[.val (.int p0), .val (.int p1), .val (.int p2), .val (.int (dA + (1 : Int32))), .val (.int (3 : Int32)), .val (.ref a3), .val (.int (1 : Int32)), .val (.int rA), .val (.int (4 : Int32)), .val (.int r271), .unset, .unset, .unset, .unset, .unset, .unset] [])) (fun t k => XS.ifNo Y86.here hx rfl (hb hby at_278) rfl ((if0 _ _).trans (feq (by decide)).1) k) ?_
          refine Rn.go (T' := T85) (g' := (mkF m 285 #[.val (.int p0), .val (.int p1), .val (.int p2), .val (.int (dA + (1 : Int32))), .val (.int (3 : Int32)), .val (.ref a3), .val (.int (1 : Int32)), .val (.int rA), .val (.int (4 : Int32)), .val (.int r271), .unset, .unset, .unset, .unset, .unset, .unset] [(.int (4 : Int32)), (.int r271)])) (fun t k => ?_) ?_
          · show Steps p.tables e below (T85.setTop (mkF m 281 #[.val (.int p0), .val (.int p1), .val (.int p2), .val (.int (dA + (1 : Int32))), .val (.int (3 : Int32)), .val (.ref a3), .val (.int (1 : Int32)), .val (.int rA), .val (.int (4 : Int32)), .val (.int r271), .unset, .unset, .unset, .unset, .unset, .unset] [])) t
            refine XS.iload Y86.here hx rfl (hb hby at_281) rfl ?_
            show Steps p.tables e below (T85.setTop (mkF m 283 #[.val (.int p0), .val (.int p1), .val (.int p2), .val (.int (dA + (1 : Int32))), .val (.int (3 : Int32)), .val (.ref a3), .val (.int (1 : Int32)), .val (.int rA), .val (.int (4 : Int32)), .val (.int r271), .unset, .unset, .unset, .unset, .unset, .unset] [(.int r271)])) t
            refine XS.iload Y86.here hx rfl (hb hby at_283) rfl ?_
            show Steps p.tables e below (T85.setTop (mkF m 285 #[.val (.int p0), .val (.int p1), .val (.int p2), .val (.int (dA + (1 : Int32))), .val (.int (3 : Int32)), .val (.ref a3), .val (.int (1 : Int32)), .val (.int rA), .val (.int (4 : Int32)), .val (.int r271), .unset, .unset, .unset, .unset, .unset, .unset] [(.int (4 : Int32)), (.int r271)])) t
            exact k
          refine Rn.go (T' := T85) (g' := (mkF m 288 #[.val (.int p0), .val (.int p1), .val (.int p2), .val (.int (dA + (1 : Int32))), .val (.int (3 : Int32)), .val (.ref a3), .val (.int (1 : Int32)), .val (.int rA), .val (.int (4 : Int32)), .val (.int r271), .unset, .unset, .unset, .unset, .unset, .unset] [])) (fun t k => XS.icmpNo Y86.here hx rfl (hb hby at_285) rfl (teq (own_f59 btA hr271)).2 k) ?_
          refine Rn.go (T' := T85) (g' := (mkF m 299 #[.val (.int p0), .val (.int p1), .val (.int p2), .val (.int (dA + (1 : Int32))), .val (.int (3 : Int32)), .val (.ref a3), .val (.int (1 : Int32)), .val (.int rA), .val (.int (4 : Int32)), .val (.int r271), .unset, .unset, .unset, .unset, .unset, .unset] [(.int (p2 &&& (16 : Int32)))])) (fun t k => ?_) ?_
          · show Steps p.tables e below (T85.setTop (mkF m 288 #[.val (.int p0), .val (.int p1), .val (.int p2), .val (.int (dA + (1 : Int32))), .val (.int (3 : Int32)), .val (.ref a3), .val (.int (1 : Int32)), .val (.int rA), .val (.int (4 : Int32)), .val (.int r271), .unset, .unset, .unset, .unset, .unset, .unset] [])) t
            refine XS.iconst Y86.here hx rfl (hb hby at_288) ?_
            show Steps p.tables e below (T85.setTop (mkF m 289 #[.val (.int p0), .val (.int p1), .val (.int p2), .val (.int (dA + (1 : Int32))), .val (.int (3 : Int32)), .val (.ref a3), .val (.int (1 : Int32)), .val (.int rA), .val (.int (4 : Int32)), .val (.int r271), .unset, .unset, .unset, .unset, .unset, .unset] [(.int (1 : Int32))])) t
            refine XS.goto Y86.here hx rfl (pc0 := 289) (pc' := 293) rfl (hb hby at_289) (by decide) (by decide) ?_
            show Steps p.tables e below (T85.setTop (mkF m 293 #[.val (.int p0), .val (.int p1), .val (.int p2), .val (.int (dA + (1 : Int32))), .val (.int (3 : Int32)), .val (.ref a3), .val (.int (1 : Int32)), .val (.int rA), .val (.int (4 : Int32)), .val (.int r271), .unset, .unset, .unset, .unset, .unset, .unset] [(.int (1 : Int32))])) t
            refine XS.istore Y86.here hx rfl (hb hby at_293) rfl (l' := #[.val (.int p0), .val (.int p1), .val (.int p2), .val (.int (dA + (1 : Int32))), .val (.int (3 : Int32)), .val (.ref a3), .val (.int (1 : Int32)), .val (.int rA), .val (.int (4 : Int32)), .val (.int r271), .unset, .unset, .unset, .unset, .unset, .unset]) rfl ?_
            show Steps p.tables e below (T85.setTop (mkF m 295 #[.val (.int p0), .val (.int p1), .val (.int p2), .val (.int (dA + (1 : Int32))), .val (.int (3 : Int32)), .val (.ref a3), .val (.int (1 : Int32)), .val (.int rA), .val (.int (4 : Int32)), .val (.int r271), .unset, .unset, .unset, .unset, .unset, .unset] [])) t
            refine XS.iloadN Y86.here hx rfl (hb hby at_295) rfl ?_
            show Steps p.tables e below (T85.setTop (mkF m 296 #[.val (.int p0), .val (.int p1), .val (.int p2), .val (.int (dA + (1 : Int32))), .val (.int (3 : Int32)), .val (.ref a3), .val (.int (1 : Int32)), .val (.int rA), .val (.int (4 : Int32)), .val (.int r271), .unset, .unset, .unset, .unset, .unset, .unset] [(.int p2)])) t
            refine XS.bipush Y86.here hx rfl (hb hby at_296) ?_
            show Steps p.tables e below (T85.setTop (mkF m 298 #[.val (.int p0), .val (.int p1), .val (.int p2), .val (.int (dA + (1 : Int32))), .val (.int (3 : Int32)), .val (.ref a3), .val (.int (1 : Int32)), .val (.int rA), .val (.int (4 : Int32)), .val (.int r271), .unset, .unset, .unset, .unset, .unset, .unset] [(.int (16 : Int32)), (.int p2)])) t
            refine XS.iand Y86.here hx rfl (hb hby at_298) rfl ?_
            show Steps p.tables e below (T85.setTop (mkF m 299 #[.val (.int p0), .val (.int p1), .val (.int p2), .val (.int (dA + (1 : Int32))), .val (.int (3 : Int32)), .val (.ref a3), .val (.int (1 : Int32)), .val (.int rA), .val (.int (4 : Int32)), .val (.int r271), .unset, .unset, .unset, .unset, .unset, .unset] [(.int (p2 &&& (16 : Int32)))])) t
            exact k
          obtain ⟨v307, hv307⟩ : ∃ z : Int32, z = (if (p2 &&& (16 : Int32)) = (0 : Int32) then (1 : Int32) else (0 : Int32)) := ⟨_, rfl⟩
          refine Rn.go (T' := T85) (g' := (mkF m 307 #[.val (.int p0), .val (.int p1), .val (.int p2), .val (.int (dA + (1 : Int32))), .val (.int (3 : Int32)), .val (.ref a3), .val (.int (1 : Int32)), .val (.int rA), .val (.int (4 : Int32)), .val (.int r271), .unset, .unset, .unset, .unset, .unset, .unset] [(.int v307)])) (fun t k => ?_) ?_
          · show Steps p.tables e below (T85.setTop (mkF m 299 #[.val (.int p0), .val (.int p1), .val (.int p2), .val (.int (dA + (1 : Int32))), .val (.int (3 : Int32)), .val (.ref a3), .val (.int (1 : Int32)), .val (.int rA), .val (.int (4 : Int32)), .val (.int r271), .unset, .unset, .unset, .unset, .unset, .unset] [(.int (p2 &&& (16 : Int32)))])) t
            by_cases hc299 : (p2 &&& (16 : Int32)) = (0 : Int32)
            · refine XS.ifNo Y86.here hx rfl (hb hby at_299) rfl ((if0 _ _).trans (teq hc299).2) ?_
              show Steps p.tables e below (T85.setTop (mkF m 302 #[.val (.int p0), .val (.int p1), .val (.int p2), .val (.int (dA + (1 : Int32))), .val (.int (3 : Int32)), .val (.ref a3), .val (.int (1 : Int32)), .val (.int rA), .val (.int (4 : Int32)), .val (.int r271), .unset, .unset, .unset, .unset, .unset, .unset] [])) t
              refine XS.iconst Y86.here hx rfl (hb hby at_302) ?_
              show Steps p.tables e below (T85.setTop (mkF m 303 #[.val (.int p0), .val (.int p1), .val (.int p2), .val (.int (dA + (1 : Int32))), .val (.int (3 : Int32)), .val (.ref a3), .val (.int (1 : Int32)), .val (.int rA), .val (.int (4 : Int32)), .val (.int r271), .unset, .unset, .unset, .unset, .unset, .unset] [(.int (1 : Int32))])) t
              refine XS.goto Y86.here hx rfl (pc0 := 303) (pc' := 307) rfl (hb hby at_303) (by decide) (by decide) ?_
              show Steps p.tables e below (T85.setTop (mkF m 307 #[.val (.int p0), .val (.int p1), .val (.int p2), .val (.int (dA + (1 : Int32))), .val (.int (3 : Int32)), .val (.ref a3), .val (.int (1 : Int32)), .val (.int rA), .val (.int (4 : Int32)), .val (.int r271), .unset, .unset, .unset, .unset, .unset, .unset] [(.int (1 : Int32))])) t
              rw [hv307, if_pos hc299] at k
              exact k
            · refine XS.ifYes Y86.here hx rfl (pc0 := 299) (pc' := 306) rfl (hb hby at_299) rfl ((if0 _ _).trans (feq hc299).2) (by decide) (by decide) ?_
              show Steps p.tables e below (T85.setTop (mkF m 306 #[.val (.int p0), .val (.int p1), .val (.int p2), .val (.int (dA + (1 : Int32))), .val (.int (3 : Int32)), .val (.ref a3), .val (.int (1 : Int32)), .val (.int rA), .val (.int (4 : Int32)), .val (.int r271), .unset, .unset, .unset, .unset, .unset, .unset] [])) t
              refine XS.iconst Y86.here hx rfl (hb hby at_306) ?_
              show Steps p.tables e below (T85.setTop (mkF m 307 #[.val (.int p0), .val (.int p1), .val (.int p2), .val (.int (dA + (1 : Int32))), .val (.int (3 : Int32)), .val (.ref a3), .val (.int (1 : Int32)), .val (.int rA), .val (.int (4 : Int32)), .val (.int r271), .unset, .unset, .unset, .unset, .unset, .unset] [(.int (0 : Int32))])) t
              rw [hv307, if_neg hc299] at k
              exact k
          refine Rn.go (T' := T85) (g' := (mkF m 309 #[.val (.int p0), .val (.int p1), .val (.int p2), .val (.int (dA + (1 : Int32))), .val (.int (3 : Int32)), .val (.ref a3), .val (.int (1 : Int32)), .val (.int rA), .val (.int (4 : Int32)), .val (.int v307), .unset, .unset, .unset, .unset, .unset, .unset] [])) (fun t k => ?_) ?_
          · show Steps p.tables e below (T85.setTop (mkF m 307 #[.val (.int p0), .val (.int p1), .val (.int p2), .val (.int (dA + (1 : Int32))), .val (.int (3 : Int32)), .val (.ref a3), .val (.int (1 : Int32)), .val (.int rA), .val (.int (4 : Int32)), .val (.int r271), .unset, .unset, .unset, .unset, .unset, .unset] [(.int v307)])) t
            refine XS.istore Y86.here hx rfl (hb hby at_307) rfl (l' := #[.val (.int p0), .val (.int p1), .val (.int p2), .val (.int (dA + (1 : Int32))), .val (.int (3 : Int32)), .val (.ref a3), .val (.int (1 : Int32)), .val (.int rA), .val (.int (4 : Int32)), .val (.int v307), .unset, .unset, .unset, .unset, .unset, .unset]) rfl ?_
            show Steps p.tables e below (T85.setTop (mkF m 309 #[.val (.int p0), .val (.int p1), .val (.int p2), .val (.int (dA + (1 : Int32))), .val (.int (3 : Int32)), .val (.ref a3), .val (.int (1 : Int32)), .val (.int rA), .val (.int (4 : Int32)), .val (.int v307), .unset, .unset, .unset, .unset, .unset, .unset] [])) t
            exact k
          exact HJ309 _ (4 : Int32) _ _ (by decide) (by decide) (by decide) hv307 (by rw [(own_f60 btA), (own_f61 btA)]; exact Y86)
        · refine Rn.go (T' := T80) (g' := (mkF m 253 #[.val (.int p0), .val (.int p1), .val (.int p2), .val (.int (dA + (1 : Int32))), .val (.int (3 : Int32)), .val (.ref a3), .val (.int (1 : Int32)), .val (.int rA), .val (.int (4 : Int32)), .val (.int r181), .unset, .unset, .unset, .unset, .unset, .unset] [])) (fun t k => XS.ifNo Y81.here hx rfl (hb hby at_250) rfl ((if0 _ _).trans (feq hc250).1) k) ?_
          refine Rn.go (T' := T80) (g' := (mkF m 258 #[.val (.int p0), .val (.int p1), .val (.int p2), .val (.int (dA + (1 : Int32))), .val (.int (3 : Int32)), .val (.ref a3), .val (.int (1 : Int32)), .val (.int rA), .val (.int (4 : Int32)), .val (.int r181), .unset, .unset, .unset, .unset, .unset, .unset] [(.int (4 : Int32)), (.int (5 : Int32)), (.ref a3)])) (fun t k => ?_) ?_
          · show Steps p.tables e below (T80.setTop (mkF m 253 #[.val (.int p0), .val (.int p1), .val (.int p2), .val (.int (dA + (1 : Int32))), .val (.int (3 : Int32)), .val (.ref a3), .val (.int (1 : Int32)), .val (.int rA), .val (.int (4 : Int32)), .val (.int r181), .unset, .unset, .unset, .unset, .unset, .unset] [])) t
            refine XS.aload Y81.here hx rfl (hb hby at_253) rfl rfl ?_
            show Steps p.tables e below (T80.setTop (mkF m 255 #[.val (.int p0), .val (.int p1), .val (.int p2), .val (.int (dA + (1 : Int32))), .val (.int (3 : Int32)), .val (.ref a3), .val (.int (1 : Int32)), .val (.int rA), .val (.int (4 : Int32)), .val (.int r181), .unset, .unset, .unset, .unset, .unset, .unset] [(.ref a3)])) t
            refine XS.iconst Y81.here hx rfl (hb hby at_255) ?_
            show Steps p.tables e below (T80.setTop (mkF m 256 #[.val (.int p0), .val (.int p1), .val (.int p2), .val (.int (dA + (1 : Int32))), .val (.int (3 : Int32)), .val (.ref a3), .val (.int (1 : Int32)), .val (.int rA), .val (.int (4 : Int32)), .val (.int r181), .unset, .unset, .unset, .unset, .unset, .unset] [(.int (5 : Int32)), (.ref a3)])) t
            refine XS.iload Y81.here hx rfl (hb hby at_256) rfl ?_
            show Steps p.tables e below (T80.setTop (mkF m 258 #[.val (.int p0), .val (.int p1), .val (.int p2), .val (.int (dA + (1 : Int32))), .val (.int (3 : Int32)), .val (.ref a3), .val (.int (1 : Int32)), .val (.int rA), .val (.int (4 : Int32)), .val (.int r181), .unset, .unset, .unset, .unset, .unset, .unset] [(.int (4 : Int32)), (.int (5 : Int32)), (.ref a3)])) t
            exact k
          refine On.virtual Y81 hx hZ (y := (⟨"com/example/arborplan/arborplan/tree/DisjointSets", "union", "(II)I"⟩ : MethodName)) (C := "com/example/arborplan/arborplan/tree/DisjointSets") hown (w15 hw) (w16 hw) (w17 hw) (w18 hw) (w19 hw) (w3 hw) (by decide) (a := a3) (argsL := [(.int (5 : Int32)), (.int (4 : Int32))]) (rest := []) (i := 0) rfl (rm3 l Z a0 hw n0 a3 (5 : Int32) (4 : Int32) a9 a10 (own_pn (own_P tA (0 : Int32)) (own_S tA (0 : Int32)) (4 : Int32) (3 : Int32)) (own_sn (own_S tA (0 : Int32)) (4 : Int32) (3 : Int32)) [] (own_f62 ) (own_f63 ) (own_f64 ) (own_f65 ) (own_f66 btA) (own_f67 btA)) (W := 0) (by decide) (by decide) (by decide) (by decide) (g := (mkF m 258 #[.val (.int p0), .val (.int p1), .val (.int p2), .val (.int (dA + (1 : Int32))), .val (.int (3 : Int32)), .val (.ref a3), .val (.int (1 : Int32)), .val (.int rA), .val (.int (4 : Int32)), .val (.int r181), .unset, .unset, .unset, .unset, .unset, .unset] [(.int (4 : Int32)), (.int (5 : Int32)), (.ref a3)])) rfl (by rw [hml]; rfl) (lenOf pd1 rfl) rfl (by show 2 * 0 + _ ≤ _; exact Nat.le_of_eq rfl) (hb hby at_258) ?_
          intro T90 u92 D93 hp94 Y91
          obtain ⟨r258, hr258, rfl, rfl⟩ : ∃ z : Int32, z = (own_ro (own_sn (own_S tA (0 : Int32)) (4 : Int32) (3 : Int32)) (5 : Int32) (4 : Int32)) ∧ u92 = some (.int z) ∧ D93 = _ := ⟨_, rfl, hp94.1, hp94.2⟩
          replace Y91 : On p l e _ s m _ below meth c Z n0 T90 3 14 [ob a3 own_C0 (own_F0 (.ref a9) (.ref a10)), ari a9 .int (6 : Int32) (own_pn (own_pn (own_P tA (0 : Int32)) (own_S tA (0 : Int32)) (4 : Int32) (3 : Int32)) (own_sn (own_S tA (0 : Int32)) (4 : Int32) (3 : Int32)) (5 : Int32) (4 : Int32)), ari a10 .int (6 : Int32) (own_sn (own_sn (own_S tA (0 : Int32)) (4 : Int32) (3 : Int32)) (5 : Int32) (4 : Int32))] := Y91
          show Rn p e below F T90 (mkF m 261 #[.val (.int p0), .val (.int p1), .val (.int p2), .val (.int (dA + (1 : Int32))), .val (.int (3 : Int32)), .val (.ref a3), .val (.int (1 : Int32)), .val (.int rA), .val (.int (4 : Int32)), .val (.int r181), .unset, .unset, .unset, .unset, .unset, .unset] [(.int r258)])
          refine Rn.go (T' := T90) (g' := (mkF m 278 #[.val (.int p0), .val (.int p1), .val (.int p2), .val (.int (dA + (1 : Int32))), .val (.int (3 : Int32)), .val (.ref a3), .val (.int (1 : Int32)), .val (.int rA), .val (.int (4 : Int32)), .val (.int r258), .unset, .unset, .unset, .unset, .unset, .unset] [(.int (1 : Int32))])) (fun t k => ?_) ?_
          · show Steps p.tables e below (T90.setTop (mkF m 261 #[.val (.int p0), .val (.int p1), .val (.int p2), .val (.int (dA + (1 : Int32))), .val (.int (3 : Int32)), .val (.ref a3), .val (.int (1 : Int32)), .val (.int rA), .val (.int (4 : Int32)), .val (.int r181), .unset, .unset, .unset, .unset, .unset, .unset] [(.int r258)])) t
            refine XS.istore Y91.here hx rfl (hb hby at_261) rfl (l' := #[.val (.int p0), .val (.int p1), .val (.int p2), .val (.int (dA + (1 : Int32))), .val (.int (3 : Int32)), .val (.ref a3), .val (.int (1 : Int32)), .val (.int rA), .val (.int (4 : Int32)), .val (.int r258), .unset, .unset, .unset, .unset, .unset, .unset]) rfl ?_
            show Steps p.tables e below (T90.setTop (mkF m 263 #[.val (.int p0), .val (.int p1), .val (.int p2), .val (.int (dA + (1 : Int32))), .val (.int (3 : Int32)), .val (.ref a3), .val (.int (1 : Int32)), .val (.int rA), .val (.int (4 : Int32)), .val (.int r258), .unset, .unset, .unset, .unset, .unset, .unset] [])) t
            refine XS.goto Y91.here hx rfl (pc0 := 263) (pc' := 276) rfl (hb hby at_263) (by decide) (by decide) ?_
            show Steps p.tables e below (T90.setTop (mkF m 276 #[.val (.int p0), .val (.int p1), .val (.int p2), .val (.int (dA + (1 : Int32))), .val (.int (3 : Int32)), .val (.ref a3), .val (.int (1 : Int32)), .val (.int rA), .val (.int (4 : Int32)), .val (.int r258), .unset, .unset, .unset, .unset, .unset, .unset] [])) t
            refine XS.iload Y91.here hx rfl (hb hby at_276) rfl ?_
            show Steps p.tables e below (T90.setTop (mkF m 278 #[.val (.int p0), .val (.int p1), .val (.int p2), .val (.int (dA + (1 : Int32))), .val (.int (3 : Int32)), .val (.ref a3), .val (.int (1 : Int32)), .val (.int rA), .val (.int (4 : Int32)), .val (.int r258), .unset, .unset, .unset, .unset, .unset, .unset] [(.int (1 : Int32))])) t
            exact k
          refine Rn.go (T' := T90) (g' := (mkF m 281 #[.val (.int p0), .val (.int p1), .val (.int p2), .val (.int (dA + (1 : Int32))), .val (.int (3 : Int32)), .val (.ref a3), .val (.int (1 : Int32)), .val (.int rA), .val (.int (4 : Int32)), .val (.int r258), .unset, .unset, .unset, .unset, .unset, .unset] [])) (fun t k => XS.ifNo Y91.here hx rfl (hb hby at_278) rfl ((if0 _ _).trans (feq (by decide)).1) k) ?_
          refine Rn.go (T' := T90) (g' := (mkF m 285 #[.val (.int p0), .val (.int p1), .val (.int p2), .val (.int (dA + (1 : Int32))), .val (.int (3 : Int32)), .val (.ref a3), .val (.int (1 : Int32)), .val (.int rA), .val (.int (4 : Int32)), .val (.int r258), .unset, .unset, .unset, .unset, .unset, .unset] [(.int (4 : Int32)), (.int r258)])) (fun t k => ?_) ?_
          · show Steps p.tables e below (T90.setTop (mkF m 281 #[.val (.int p0), .val (.int p1), .val (.int p2), .val (.int (dA + (1 : Int32))), .val (.int (3 : Int32)), .val (.ref a3), .val (.int (1 : Int32)), .val (.int rA), .val (.int (4 : Int32)), .val (.int r258), .unset, .unset, .unset, .unset, .unset, .unset] [])) t
            refine XS.iload Y91.here hx rfl (hb hby at_281) rfl ?_
            show Steps p.tables e below (T90.setTop (mkF m 283 #[.val (.int p0), .val (.int p1), .val (.int p2), .val (.int (dA + (1 : Int32))), .val (.int (3 : Int32)), .val (.ref a3), .val (.int (1 : Int32)), .val (.int rA), .val (.int (4 : Int32)), .val (.int r258), .unset, .unset, .unset, .unset, .unset, .unset] [(.int r258)])) t
            refine XS.iload Y91.here hx rfl (hb hby at_283) rfl ?_
            show Steps p.tables e below (T90.setTop (mkF m 285 #[.val (.int p0), .val (.int p1), .val (.int p2), .val (.int (dA + (1 : Int32))), .val (.int (3 : Int32)), .val (.ref a3), .val (.int (1 : Int32)), .val (.int rA), .val (.int (4 : Int32)), .val (.int r258), .unset, .unset, .unset, .unset, .unset, .unset] [(.int (4 : Int32)), (.int r258)])) t
            exact k
          refine Rn.go (T' := T90) (g' := (mkF m 288 #[.val (.int p0), .val (.int p1), .val (.int p2), .val (.int (dA + (1 : Int32))), .val (.int (3 : Int32)), .val (.ref a3), .val (.int (1 : Int32)), .val (.int rA), .val (.int (4 : Int32)), .val (.int r258), .unset, .unset, .unset, .unset, .unset, .unset] [])) (fun t k => XS.icmpNo Y91.here hx rfl (hb hby at_285) rfl (teq (own_f68 btA hr258)).2 k) ?_
          refine Rn.go (T' := T90) (g' := (mkF m 299 #[.val (.int p0), .val (.int p1), .val (.int p2), .val (.int (dA + (1 : Int32))), .val (.int (3 : Int32)), .val (.ref a3), .val (.int (1 : Int32)), .val (.int rA), .val (.int (4 : Int32)), .val (.int r258), .unset, .unset, .unset, .unset, .unset, .unset] [(.int (p2 &&& (16 : Int32)))])) (fun t k => ?_) ?_
          · show Steps p.tables e below (T90.setTop (mkF m 288 #[.val (.int p0), .val (.int p1), .val (.int p2), .val (.int (dA + (1 : Int32))), .val (.int (3 : Int32)), .val (.ref a3), .val (.int (1 : Int32)), .val (.int rA), .val (.int (4 : Int32)), .val (.int r258), .unset, .unset, .unset, .unset, .unset, .unset] [])) t
            refine XS.iconst Y91.here hx rfl (hb hby at_288) ?_
            show Steps p.tables e below (T90.setTop (mkF m 289 #[.val (.int p0), .val (.int p1), .val (.int p2), .val (.int (dA + (1 : Int32))), .val (.int (3 : Int32)), .val (.ref a3), .val (.int (1 : Int32)), .val (.int rA), .val (.int (4 : Int32)), .val (.int r258), .unset, .unset, .unset, .unset, .unset, .unset] [(.int (1 : Int32))])) t
            refine XS.goto Y91.here hx rfl (pc0 := 289) (pc' := 293) rfl (hb hby at_289) (by decide) (by decide) ?_
            show Steps p.tables e below (T90.setTop (mkF m 293 #[.val (.int p0), .val (.int p1), .val (.int p2), .val (.int (dA + (1 : Int32))), .val (.int (3 : Int32)), .val (.ref a3), .val (.int (1 : Int32)), .val (.int rA), .val (.int (4 : Int32)), .val (.int r258), .unset, .unset, .unset, .unset, .unset, .unset] [(.int (1 : Int32))])) t
            refine XS.istore Y91.here hx rfl (hb hby at_293) rfl (l' := #[.val (.int p0), .val (.int p1), .val (.int p2), .val (.int (dA + (1 : Int32))), .val (.int (3 : Int32)), .val (.ref a3), .val (.int (1 : Int32)), .val (.int rA), .val (.int (4 : Int32)), .val (.int r258), .unset, .unset, .unset, .unset, .unset, .unset]) rfl ?_
            show Steps p.tables e below (T90.setTop (mkF m 295 #[.val (.int p0), .val (.int p1), .val (.int p2), .val (.int (dA + (1 : Int32))), .val (.int (3 : Int32)), .val (.ref a3), .val (.int (1 : Int32)), .val (.int rA), .val (.int (4 : Int32)), .val (.int r258), .unset, .unset, .unset, .unset, .unset, .unset] [])) t
            refine XS.iloadN Y91.here hx rfl (hb hby at_295) rfl ?_
            show Steps p.tables e below (T90.setTop (mkF m 296 #[.val (.int p0), .val (.int p1), .val (.int p2), .val (.int (dA + (1 : Int32))), .val (.int (3 : Int32)), .val (.ref a3), .val (.int (1 : Int32)), .val (.int rA), .val (.int (4 : Int32)), .val (.int r258), .unset, .unset, .unset, .unset, .unset, .unset] [(.int p2)])) t
            refine XS.bipush Y91.here hx rfl (hb hby at_296) ?_
            show Steps p.tables e below (T90.setTop (mkF m 298 #[.val (.int p0), .val (.int p1), .val (.int p2), .val (.int (dA + (1 : Int32))), .val (.int (3 : Int32)), .val (.ref a3), .val (.int (1 : Int32)), .val (.int rA), .val (.int (4 : Int32)), .val (.int r258), .unset, .unset, .unset, .unset, .unset, .unset] [(.int (16 : Int32)), (.int p2)])) t
            refine XS.iand Y91.here hx rfl (hb hby at_298) rfl ?_
            show Steps p.tables e below (T90.setTop (mkF m 299 #[.val (.int p0), .val (.int p1), .val (.int p2), .val (.int (dA + (1 : Int32))), .val (.int (3 : Int32)), .val (.ref a3), .val (.int (1 : Int32)), .val (.int rA), .val (.int (4 : Int32)), .val (.int r258), .unset, .unset, .unset, .unset, .unset, .unset] [(.int (p2 &&& (16 : Int32)))])) t
            exact k
          obtain ⟨v307, hv307⟩ : ∃ z : Int32, z = (if (p2 &&& (16 : Int32)) = (0 : Int32) then (1 : Int32) else (0 : Int32)) := ⟨_, rfl⟩
          refine Rn.go (T' := T90) (g' := (mkF m 307 #[.val (.int p0), .val (.int p1), .val (.int p2), .val (.int (dA + (1 : Int32))), .val (.int (3 : Int32)), .val (.ref a3), .val (.int (1 : Int32)), .val (.int rA), .val (.int (4 : Int32)), .val (.int r258), .unset, .unset, .unset, .unset, .unset, .unset] [(.int v307)])) (fun t k => ?_) ?_
          · show Steps p.tables e below (T90.setTop (mkF m 299 #[.val (.int p0), .val (.int p1), .val (.int p2), .val (.int (dA + (1 : Int32))), .val (.int (3 : Int32)), .val (.ref a3), .val (.int (1 : Int32)), .val (.int rA), .val (.int (4 : Int32)), .val (.int r258), .unset, .unset, .unset, .unset, .unset, .unset] [(.int (p2 &&& (16 : Int32)))])) t
            by_cases hc299 : (p2 &&& (16 : Int32)) = (0 : Int32)
            · refine XS.ifNo Y91.here hx rfl (hb hby at_299) rfl ((if0 _ _).trans (teq hc299).2) ?_
              show Steps p.tables e below (T90.setTop (mkF m 302 #[.val (.int p0), .val (.int p1), .val (.int p2), .val (.int (dA + (1 : Int32))), .val (.int (3 : Int32)), .val (.ref a3), .val (.int (1 : Int32)), .val (.int rA), .val (.int (4 : Int32)), .val (.int r258), .unset, .unset, .unset, .unset, .unset, .unset] [])) t
              refine XS.iconst Y91.here hx rfl (hb hby at_302) ?_
              show Steps p.tables e below (T90.setTop (mkF m 303 #[.val (.int p0), .val (.int p1), .val (.int p2), .val (.int (dA + (1 : Int32))), .val (.int (3 : Int32)), .val (.ref a3), .val (.int (1 : Int32)), .val (.int rA), .val (.int (4 : Int32)), .val (.int r258), .unset, .unset, .unset, .unset, .unset, .unset] [(.int (1 : Int32))])) t
              refine XS.goto Y91.here hx rfl (pc0 := 303) (pc' := 307) rfl (hb hby at_303) (by decide) (by decide) ?_
              show Steps p.tables e below (T90.setTop (mkF m 307 #[.val (.int p0), .val (.int p1), .val (.int p2), .val (.int (dA + (1 : Int32))), .val (.int (3 : Int32)), .val (.ref a3), .val (.int (1 : Int32)), .val (.int rA), .val (.int (4 : Int32)), .val (.int r258), .unset, .unset, .unset, .unset, .unset, .unset] [(.int (1 : Int32))])) t
              rw [hv307, if_pos hc299] at k
              exact k
            · refine XS.ifYes Y91.here hx rfl (pc0 := 299) (pc' := 306) rfl (hb hby at_299) rfl ((if0 _ _).trans (feq hc299).2) (by decide) (by decide) ?_
              show Steps p.tables e below (T90.setTop (mkF m 306 #[.val (.int p0), .val (.int p1), .val (.int p2), .val (.int (dA + (1 : Int32))), .val (.int (3 : Int32)), .val (.ref a3), .val (.int (1 : Int32)), .val (.int rA), .val (.int (4 : Int32)), .val (.int r258), .unset, .unset, .unset, .unset, .unset, .unset] [])) t
              refine XS.iconst Y91.here hx rfl (hb hby at_306) ?_
              show Steps p.tables e below (T90.setTop (mkF m 307 #[.val (.int p0), .val (.int p1), .val (.int p2), .val (.int (dA + (1 : Int32))), .val (.int (3 : Int32)), .val (.ref a3), .val (.int (1 : Int32)), .val (.int rA), .val (.int (4 : Int32)), .val (.int r258), .unset, .unset, .unset, .unset, .unset, .unset] [(.int (0 : Int32))])) t
              rw [hv307, if_neg hc299] at k
              exact k
          refine Rn.go (T' := T90) (g' := (mkF m 309 #[.val (.int p0), .val (.int p1), .val (.int p2), .val (.int (dA + (1 : Int32))), .val (.int (3 : Int32)), .val (.ref a3), .val (.int (1 : Int32)), .val (.int rA), .val (.int (4 : Int32)), .val (.int v307), .unset, .unset, .unset, .unset, .unset, .unset] [])) (fun t k => ?_) ?_
          · show Steps p.tables e below (T90.setTop (mkF m 307 #[.val (.int p0), .val (.int p1), .val (.int p2), .val (.int (dA + (1 : Int32))), .val (.int (3 : Int32)), .val (.ref a3), .val (.int (1 : Int32)), .val (.int rA), .val (.int (4 : Int32)), .val (.int r258), .unset, .unset, .unset, .unset, .unset, .unset] [(.int v307)])) t
            refine XS.istore Y91.here hx rfl (hb hby at_307) rfl (l' := #[.val (.int p0), .val (.int p1), .val (.int p2), .val (.int (dA + (1 : Int32))), .val (.int (3 : Int32)), .val (.ref a3), .val (.int (1 : Int32)), .val (.int rA), .val (.int (4 : Int32)), .val (.int v307), .unset, .unset, .unset, .unset, .unset, .unset]) rfl ?_
            show Steps p.tables e below (T90.setTop (mkF m 309 #[.val (.int p0), .val (.int p1), .val (.int p2), .val (.int (dA + (1 : Int32))), .val (.int (3 : Int32)), .val (.ref a3), .val (.int (1 : Int32)), .val (.int rA), .val (.int (4 : Int32)), .val (.int v307), .unset, .unset, .unset, .unset, .unset, .unset] [])) t
            exact k
          exact HJ309 _ (4 : Int32) _ _ (by decide) (by decide) (by decide) hv307 (by rw [(own_f69 btA), (own_f70 btA)]; exact Y91)
  intro T53 tB rB aF btB edb erB haF Y54
  have baF : aF = 0 ∨ aF = 1 := own_bit haF
  refine Rn.go (T' := T53) (g' := (mkF m 311 #[.val (.int p0), .val (.int p1), .val (.int p2), .val (.int (dA + (1 : Int32))), .val (.int (dB + (1 : Int32))), .val (.ref a3), .val (.int (1 : Int32)), .val (.int rA), .val (.int rB), .val (.int aF), .unset, .unset, .unset, .unset, .unset, .unset] [(.int aF)])) (fun t k => ?_) ?_
  · show Steps p.tables e below (T53.setTop (mkF m 309 #[.val (.int p0), .val (.int p1), .val (.int p2), .val (.int (dA + (1 : Int32))), .val (.int (dB + (1 : Int32))), .val (.ref a3), .val (.int (1 : Int32)), .val (.int rA), .val (.int rB), .val (.int aF), .unset, .unset, .unset, .unset, .unset, .unset] [])) t
    refine XS.iload Y54.here hx rfl (hb hby at_309) rfl ?_
    show Steps p.tables e below (T53.setTop (mkF m 311 #[.val (.int p0), .val (.int p1), .val (.int p2), .val (.int (dA + (1 : Int32))), .val (.int (dB + (1 : Int32))), .val (.ref a3), .val (.int (1 : Int32)), .val (.int rA), .val (.int rB), .val (.int aF), .unset, .unset, .unset, .unset, .unset, .unset] [(.int aF)])) t
    exact k
  obtain ⟨v321, hv321⟩ : ∃ z : Int32, z = (if aF = (0 : Int32) then rB else rA) := ⟨_, rfl⟩
  refine Rn.go (T' := T53) (g' := (mkF m 321 #[.val (.int p0), .val (.int p1), .val (.int p2), .val (.int (dA + (1 : Int32))), .val (.int (dB + (1 : Int32))), .val (.ref a3), .val (.int (1 : Int32)), .val (.int rA), .val (.int rB), .val (.int aF), .unset, .unset, .unset, .unset, .unset, .unset] [(.int v321)])) (fun t k => ?_) ?_
  · show Steps p.tables e below (T53.setTop (mkF m 311 #[.val (.int p0), .val (.int p1), .val (.int p2), .val (.int (dA + (1 : Int32))), .val (.int (dB + (1 : Int32))), .val (.ref a3), .val (.int (1 : Int32)), .val (.int rA), .val (.int rB), .val (.int aF), .unset, .unset, .unset, .unset, .unset, .unset] [(.int aF)])) t
    by_cases hc311 : aF = (0 : Int32)
    · refine XS.ifYes Y54.here hx rfl (pc0 := 311) (pc' := 319) rfl (hb hby at_311) rfl ((if0 _ _).trans (teq hc311).1) (by decide) (by decide) ?_
      show Steps p.tables e below (T53.setTop (mkF m 319 #[.val (.int p0), .val (.int p1), .val (.int p2), .val (.int (dA + (1 : Int32))), .val (.int (dB + (1 : Int32))), .val (.ref a3), .val (.int (1 : Int32)), .val (.int rA), .val (.int rB), .val (.int aF), .unset, .unset, .unset, .unset, .unset, .unset] [])) t
      refine XS.iload Y54.here hx rfl (hb hby at_319) rfl ?_
      show Steps p.tables e below (T53.setTop (mkF m 321 #[.val (.int p0), .val (.int p1), .val (.int p2), .val (.int (dA + (1 : Int32))), .val (.int (dB + (1 : Int32))), .val (.ref a3), .val (.int (1 : Int32)), .val (.int rA), .val (.int rB), .val (.int aF), .unset, .unset, .unset, .unset, .unset, .unset] [(.int rB)])) t
      rw [hv321, if_pos hc311] at k
      exact k
    · refine XS.ifNo Y54.here hx rfl (hb hby at_311) rfl ((if0 _ _).trans (feq hc311).1) ?_
      show Steps p.tables e below (T53.setTop (mkF m 314 #[.val (.int p0), .val (.int p1), .val (.int p2), .val (.int (dA + (1 : Int32))), .val (.int (dB + (1 : Int32))), .val (.ref a3), .val (.int (1 : Int32)), .val (.int rA), .val (.int rB), .val (.int aF), .unset, .unset, .unset, .unset, .unset, .unset] [])) t
      refine XS.iload Y54.here hx rfl (hb hby at_314) rfl ?_
      show Steps p.tables e below (T53.setTop (mkF m 316 #[.val (.int p0), .val (.int p1), .val (.int p2), .val (.int (dA + (1 : Int32))), .val (.int (dB + (1 : Int32))), .val (.ref a3), .val (.int (1 : Int32)), .val (.int rA), .val (.int rB), .val (.int aF), .unset, .unset, .unset, .unset, .unset, .unset] [(.int rA)])) t
      refine XS.goto Y54.here hx rfl (pc0 := 316) (pc' := 321) rfl (hb hby at_316) (by decide) (by decide) ?_
      show Steps p.tables e below (T53.setTop (mkF m 321 #[.val (.int p0), .val (.int p1), .val (.int p2), .val (.int (dA + (1 : Int32))), .val (.int (dB + (1 : Int32))), .val (.ref a3), .val (.int (1 : Int32)), .val (.int rA), .val (.int rB), .val (.int aF), .unset, .unset, .unset, .unset, .unset, .unset] [(.int rA)])) t
      rw [hv321, if_neg hc311] at k
      exact k
  refine Rn.go (T' := T53) (g' := (mkF m 325 #[.val (.int p0), .val (.int p1), .val (.int p2), .val (.int (dA + (1 : Int32))), .val (.int (dB + (1 : Int32))), .val (.ref a3), .val (.int (1 : Int32)), .val (.int rA), .val (.int rB), .val (.int aF), .val (.int v321), .unset, .unset, .unset, .unset, .unset] [(.int aF)])) (fun t k => ?_) ?_
  · show Steps p.tables e below (T53.setTop (mkF m 321 #[.val (.int p0), .val (.int p1), .val (.int p2), .val (.int (dA + (1 : Int32))), .val (.int (dB + (1 : Int32))), .val (.ref a3), .val (.int (1 : Int32)), .val (.int rA), .val (.int rB), .val (.int aF), .unset, .unset, .unset, .unset, .unset, .unset] [(.int v321)])) t
    refine XS.istore Y54.here hx rfl (hb hby at_321) rfl (l' := #[.val (.int p0), .val (.int p1), .val (.int p2), .val (.int (dA + (1 : Int32))), .val (.int (dB + (1 : Int32))), .val (.ref a3), .val (.int (1 : Int32)), .val (.int rA), .val (.int rB), .val (.int aF), .val (.int v321), .unset, .unset, .unset, .unset, .unset]) rfl ?_
    show Steps p.tables e below (T53.setTop (mkF m 323 #[.val (.int p0), .val (.int p1), .val (.int p2), .val (.int (dA + (1 : Int32))), .val (.int (dB + (1 : Int32))), .val (.ref a3), .val (.int (1 : Int32)), .val (.int rA), .val (.int rB), .val (.int aF), .val (.int v321), .unset, .unset, .unset, .unset, .unset] [])) t
    refine XS.iload Y54.here hx rfl (hb hby at_323) rfl ?_
    show Steps p.tables e below (T53.setTop (mkF m 325 #[.val (.int p0), .val (.int p1), .val (.int p2), .val (.int (dA + (1 : Int32))), .val (.int (dB + (1 : Int32))), .val (.ref a3), .val (.int (1 : Int32)), .val (.int rA), .val (.int rB), .val (.int aF), .val (.int v321), .unset, .unset, .unset, .unset, .unset] [(.int aF)])) t
    exact k
  obtain ⟨v335, hv335⟩ : ∃ z : Int32, z = (if aF = (0 : Int32) then rA else rB) := ⟨_, rfl⟩
  refine Rn.go (T' := T53) (g' := (mkF m 335 #[.val (.int p0), .val (.int p1), .val (.int p2), .val (.int (dA + (1 : Int32))), .val (.int (dB + (1 : Int32))), .val (.ref a3), .val (.int (1 : Int32)), .val (.int rA), .val (.int rB), .val (.int aF), .val (.int v321), .unset, .unset, .unset, .unset, .unset] [(.int v335)])) (fun t k => ?_) ?_
  · show Steps p.tables e below (T53.setTop (mkF m 325 #[.val (.int p0), .val (.int p1), .val (.int p2), .val (.int (dA + (1 : Int32))), .val (.int (dB + (1 : Int32))), .val (.ref a3), .val (.int (1 : Int32)), .val (.int rA), .val (.int rB), .val (.int aF), .val (.int v321), .unset, .unset, .unset, .unset, .unset] [(.int aF)])) t
    by_cases hc325 : aF = (0 : Int32)
    · refine XS.ifYes Y54.here hx rfl (pc0 := 325) (pc' := 333) rfl (hb hby at_325) rfl ((if0 _ _).trans (teq hc325).1) (by decide) (by decide) ?_
      show Steps p.tables e below (T53.setTop (mkF m 333 #[.val (.int p0), .val (.int p1), .val (.int p2), .val (.int (dA + (1 : Int32))), .val (.int (dB + (1 : Int32))), .val (.ref a3), .val (.int (1 : Int32)), .val (.int rA), .val (.int rB), .val (.int aF), .val (.int v321), .unset, .unset, .unset, .unset, .unset] [])) t
      refine XS.iload Y54.here hx rfl (hb hby at_333) rfl ?_
      show Steps p.tables e below (T53.setTop (mkF m 335 #[.val (.int p0), .val (.int p1), .val (.int p2), .val (.int (dA + (1 : Int32))), .val (.int (dB + (1 : Int32))), .val (.ref a3), .val (.int (1 : Int32)), .val (.int rA), .val (.int rB), .val (.int aF), .val (.int v321), .unset, .unset, .unset, .unset, .unset] [(.int rA)])) t
      rw [hv335, if_pos hc325] at k
      exact k
    · refine XS.ifNo Y54.here hx rfl (hb hby at_325) rfl ((if0 _ _).trans (feq hc325).1) ?_
      show Steps p.tables e below (T53.setTop (mkF m 328 #[.val (.int p0), .val (.int p1), .val (.int p2), .val (.int (dA + (1 : Int32))), .val (.int (dB + (1 : Int32))), .val (.ref a3), .val (.int (1 : Int32)), .val (.int rA), .val (.int rB), .val (.int aF), .val (.int v321), .unset, .unset, .unset, .unset, .unset] [])) t
      refine XS.iload Y54.here hx rfl (hb hby at_328) rfl ?_
      show Steps p.tables e below (T53.setTop (mkF m 330 #[.val (.int p0), .val (.int p1), .val (.int p2), .val (.int (dA + (1 : Int32))), .val (.int (dB + (1 : Int32))), .val (.ref a3), .val (.int (1 : Int32)), .val (.int rA), .val (.int rB), .val (.int aF), .val (.int v321), .unset, .unset, .unset, .unset, .unset] [(.int rB)])) t
      refine XS.goto Y54.here hx rfl (pc0 := 330) (pc' := 335) rfl (hb hby at_330) (by decide) (by decide) ?_
      show Steps p.tables e below (T53.setTop (mkF m 335 #[.val (.int p0), .val (.int p1), .val (.int p2), .val (.int (dA + (1 : Int32))), .val (.int (dB + (1 : Int32))), .val (.ref a3), .val (.int (1 : Int32)), .val (.int rA), .val (.int rB), .val (.int aF), .val (.int v321), .unset, .unset, .unset, .unset, .unset] [(.int rB)])) t
      rw [hv335, if_neg hc325] at k
      exact k
  refine Rn.go (T' := T53) (g' := (mkF m 339 #[.val (.int p0), .val (.int p1), .val (.int p2), .val (.int (dA + (1 : Int32))), .val (.int (dB + (1 : Int32))), .val (.ref a3), .val (.int (1 : Int32)), .val (.int rA), .val (.int rB), .val (.int aF), .val (.int v321), .val (.int v335), .unset, .unset, .unset, .unset] [(.int aF)])) (fun t k => ?_) ?_
  · show Steps p.tables e below (T53.setTop (mkF m 335 #[.val (.int p0), .val (.int p1), .val (.int p2), .val (.int (dA + (1 : Int32))), .val (.int (dB + (1 : Int32))), .val (.ref a3), .val (.int (1 : Int32)), .val (.int rA), .val (.int rB), .val (.int aF), .val (.int v321), .unset, .unset, .unset, .unset, .unset] [(.int v335)])) t
    refine XS.istore Y54.here hx rfl (hb hby at_335) rfl (l' := #[.val (.int p0), .val (.int p1), .val (.int p2), .val (.int (dA + (1 : Int32))), .val (.int (dB + (1 : Int32))), .val (.ref a3), .val (.int (1 : Int32)), .val (.int rA), .val (.int rB), .val (.int aF), .val (.int v321), .val (.int v335), .unset, .unset, .unset, .unset]) rfl ?_
    show Steps p.tables e below (T53.setTop (mkF m 337 #[.val (.int p0), .val (.int p1), .val (.int p2), .val (.int (dA + (1 : Int32))), .val (.int (dB + (1 : Int32))), .val (.ref a3), .val (.int (1 : Int32)), .val (.int rA), .val (.int rB), .val (.int aF), .val (.int v321), .val (.int v335), .unset, .unset, .unset, .unset] [])) t
    refine XS.iload Y54.here hx rfl (hb hby at_337) rfl ?_
    show Steps p.tables e below (T53.setTop (mkF m 339 #[.val (.int p0), .val (.int p1), .val (.int p2), .val (.int (dA + (1 : Int32))), .val (.int (dB + (1 : Int32))), .val (.ref a3), .val (.int (1 : Int32)), .val (.int rA), .val (.int rB), .val (.int aF), .val (.int v321), .val (.int v335), .unset, .unset, .unset, .unset] [(.int aF)])) t
    exact k
  obtain ⟨v348, hv348⟩ : ∃ z : Int32, z = (if aF = (0 : Int32) then (dB + (1 : Int32)) else (dA + (1 : Int32))) := ⟨_, rfl⟩
  refine Rn.go (T' := T53) (g' := (mkF m 348 #[.val (.int p0), .val (.int p1), .val (.int p2), .val (.int (dA + (1 : Int32))), .val (.int (dB + (1 : Int32))), .val (.ref a3), .val (.int (1 : Int32)), .val (.int rA), .val (.int rB), .val (.int aF), .val (.int v321), .val (.int v335), .unset, .unset, .unset, .unset] [(.int v348)])) (fun t k => ?_) ?_
  · show Steps p.tables e below (T53.setTop (mkF m 339 #[.val (.int p0), .val (.int p1), .val (.int p2), .val (.int (dA + (1 : Int32))), .val (.int (dB + (1 : Int32))), .val (.ref a3), .val (.int (1 : Int32)), .val (.int rA), .val (.int rB), .val (.int aF), .val (.int v321), .val (.int v335), .unset, .unset, .unset, .unset] [(.int aF)])) t
    by_cases hc339 : aF = (0 : Int32)
    · refine XS.ifYes Y54.here hx rfl (pc0 := 339) (pc' := 346) rfl (hb hby at_339) rfl ((if0 _ _).trans (teq hc339).1) (by decide) (by decide) ?_
      show Steps p.tables e below (T53.setTop (mkF m 346 #[.val (.int p0), .val (.int p1), .val (.int p2), .val (.int (dA + (1 : Int32))), .val (.int (dB + (1 : Int32))), .val (.ref a3), .val (.int (1 : Int32)), .val (.int rA), .val (.int rB), .val (.int aF), .val (.int v321), .val (.int v335), .unset, .unset, .unset, .unset] [])) t
      refine XS.iload Y54.here hx rfl (hb hby at_346) rfl ?_
      show Steps p.tables e below (T53.setTop (mkF m 348 #[.val (.int p0), .val (.int p1), .val (.int p2), .val (.int (dA + (1 : Int32))), .val (.int (dB + (1 : Int32))), .val (.ref a3), .val (.int (1 : Int32)), .val (.int rA), .val (.int rB), .val (.int aF), .val (.int v321), .val (.int v335), .unset, .unset, .unset, .unset] [(.int (dB + (1 : Int32)))])) t
      rw [hv348, if_pos hc339] at k
      exact k
    · refine XS.ifNo Y54.here hx rfl (hb hby at_339) rfl ((if0 _ _).trans (feq hc339).1) ?_
      show Steps p.tables e below (T53.setTop (mkF m 342 #[.val (.int p0), .val (.int p1), .val (.int p2), .val (.int (dA + (1 : Int32))), .val (.int (dB + (1 : Int32))), .val (.ref a3), .val (.int (1 : Int32)), .val (.int rA), .val (.int rB), .val (.int aF), .val (.int v321), .val (.int v335), .unset, .unset, .unset, .unset] [])) t
      refine XS.iloadN Y54.here hx rfl (hb hby at_342) rfl ?_
      show Steps p.tables e below (T53.setTop (mkF m 343 #[.val (.int p0), .val (.int p1), .val (.int p2), .val (.int (dA + (1 : Int32))), .val (.int (dB + (1 : Int32))), .val (.ref a3), .val (.int (1 : Int32)), .val (.int rA), .val (.int rB), .val (.int aF), .val (.int v321), .val (.int v335), .unset, .unset, .unset, .unset] [(.int (dA + (1 : Int32)))])) t
      refine XS.goto Y54.here hx rfl (pc0 := 343) (pc' := 348) rfl (hb hby at_343) (by decide) (by decide) ?_
      show Steps p.tables e below (T53.setTop (mkF m 348 #[.val (.int p0), .val (.int p1), .val (.int p2), .val (.int (dA + (1 : Int32))), .val (.int (dB + (1 : Int32))), .val (.ref a3), .val (.int (1 : Int32)), .val (.int rA), .val (.int rB), .val (.int aF), .val (.int v321), .val (.int v335), .unset, .unset, .unset, .unset] [(.int (dA + (1 : Int32)))])) t
      rw [hv348, if_neg hc339] at k
      exact k
  refine Rn.go (T' := T53) (g' := (mkF m 352 #[.val (.int p0), .val (.int p1), .val (.int p2), .val (.int (dA + (1 : Int32))), .val (.int (dB + (1 : Int32))), .val (.ref a3), .val (.int (1 : Int32)), .val (.int rA), .val (.int rB), .val (.int aF), .val (.int v321), .val (.int v335), .val (.int v348), .unset, .unset, .unset] [(.int aF)])) (fun t k => ?_) ?_
  · show Steps p.tables e below (T53.setTop (mkF m 348 #[.val (.int p0), .val (.int p1), .val (.int p2), .val (.int (dA + (1 : Int32))), .val (.int (dB + (1 : Int32))), .val (.ref a3), .val (.int (1 : Int32)), .val (.int rA), .val (.int rB), .val (.int aF), .val (.int v321), .val (.int v335), .unset, .unset, .unset, .unset] [(.int v348)])) t
    refine XS.istore Y54.here hx rfl (hb hby at_348) rfl (l' := #[.val (.int p0), .val (.int p1), .val (.int p2), .val (.int (dA + (1 : Int32))), .val (.int (dB + (1 : Int32))), .val (.ref a3), .val (.int (1 : Int32)), .val (.int rA), .val (.int rB), .val (.int aF), .val (.int v321), .val (.int v335), .val (.int v348), .unset, .unset, .unset]) rfl ?_
    show Steps p.tables e below (T53.setTop (mkF m 350 #[.val (.int p0), .val (.int p1), .val (.int p2), .val (.int (dA + (1 : Int32))), .val (.int (dB + (1 : Int32))), .val (.ref a3), .val (.int (1 : Int32)), .val (.int rA), .val (.int rB), .val (.int aF), .val (.int v321), .val (.int v335), .val (.int v348), .unset, .unset, .unset] [])) t
    refine XS.iload Y54.here hx rfl (hb hby at_350) rfl ?_
    show Steps p.tables e below (T53.setTop (mkF m 352 #[.val (.int p0), .val (.int p1), .val (.int p2), .val (.int (dA + (1 : Int32))), .val (.int (dB + (1 : Int32))), .val (.ref a3), .val (.int (1 : Int32)), .val (.int rA), .val (.int rB), .val (.int aF), .val (.int v321), .val (.int v335), .val (.int v348), .unset, .unset, .unset] [(.int aF)])) t
    exact k
  obtain ⟨v361, hv361⟩ : ∃ z : Int32, z = (if aF = (0 : Int32) then (dA + (1 : Int32)) else (dB + (1 : Int32))) := ⟨_, rfl⟩
  refine Rn.go (T' := T53) (g' := (mkF m 361 #[.val (.int p0), .val (.int p1), .val (.int p2), .val (.int (dA + (1 : Int32))), .val (.int (dB + (1 : Int32))), .val (.ref a3), .val (.int (1 : Int32)), .val (.int rA), .val (.int rB), .val (.int aF), .val (.int v321), .val (.int v335), .val (.int v348), .unset, .unset, .unset] [(.int v361)])) (fun t k => ?_) ?_
  · show Steps p.tables e below (T53.setTop (mkF m 352 #[.val (.int p0), .val (.int p1), .val (.int p2), .val (.int (dA + (1 : Int32))), .val (.int (dB + (1 : Int32))), .val (.ref a3), .val (.int (1 : Int32)), .val (.int rA), .val (.int rB), .val (.int aF), .val (.int v321), .val (.int v335), .val (.int v348), .unset, .unset, .unset] [(.int aF)])) t
    by_cases hc352 : aF = (0 : Int32)
    · refine XS.ifYes Y54.here hx rfl (pc0 := 352) (pc' := 360) rfl (hb hby at_352) rfl ((if0 _ _).trans (teq hc352).1) (by decide) (by decide) ?_
      show Steps p.tables e below (T53.setTop (mkF m 360 #[.val (.int p0), .val (.int p1), .val (.int p2), .val (.int (dA + (1 : Int32))), .val (.int (dB + (1 : Int32))), .val (.ref a3), .val (.int (1 : Int32)), .val (.int rA), .val (.int rB), .val (.int aF), .val (.int v321), .val (.int v335), .val (.int v348), .unset, .unset, .unset] [])) t
      refine XS.iloadN Y54.here hx rfl (hb hby at_360) rfl ?_
      show Steps p.tables e below (T53.setTop (mkF m 361 #[.val (.int p0), .val (.int p1), .val (.int p2), .val (.int (dA + (1 : Int32))), .val (.int (dB + (1 : Int32))), .val (.ref a3), .val (.int (1 : Int32)), .val (.int rA), .val (.int rB), .val (.int aF), .val (.int v321), .val (.int v335), .val (.int v348), .unset, .unset, .unset] [(.int (dA + (1 : Int32)))])) t
      rw [hv361, if_pos hc352] at k
      exact k
    · refine XS.ifNo Y54.here hx rfl (hb hby at_352) rfl ((if0 _ _).trans (feq hc352).1) ?_
      show Steps p.tables e below (T53.setTop (mkF m 355 #[.val (.int p0), .val (.int p1), .val (.int p2), .val (.int (dA + (1 : Int32))), .val (.int (dB + (1 : Int32))), .val (.ref a3), .val (.int (1 : Int32)), .val (.int rA), .val (.int rB), .val (.int aF), .val (.int v321), .val (.int v335), .val (.int v348), .unset, .unset, .unset] [])) t
      refine XS.iload Y54.here hx rfl (hb hby at_355) rfl ?_
      show Steps p.tables e below (T53.setTop (mkF m 357 #[.val (.int p0), .val (.int p1), .val (.int p2), .val (.int (dA + (1 : Int32))), .val (.int (dB + (1 : Int32))), .val (.ref a3), .val (.int (1 : Int32)), .val (.int rA), .val (.int rB), .val (.int aF), .val (.int v321), .val (.int v335), .val (.int v348), .unset, .unset, .unset] [(.int (dB + (1 : Int32)))])) t
      refine XS.goto Y54.here hx rfl (pc0 := 357) (pc' := 361) rfl (hb hby at_357) (by decide) (by decide) ?_
      show Steps p.tables e below (T53.setTop (mkF m 361 #[.val (.int p0), .val (.int p1), .val (.int p2), .val (.int (dA + (1 : Int32))), .val (.int (dB + (1 : Int32))), .val (.ref a3), .val (.int (1 : Int32)), .val (.int rA), .val (.int rB), .val (.int aF), .val (.int v321), .val (.int v335), .val (.int v348), .unset, .unset, .unset] [(.int (dB + (1 : Int32)))])) t
      rw [hv361, if_neg hc352] at k
      exact k
  refine Rn.go (T' := T53) (g' := (mkF m 367 #[.val (.int p0), .val (.int p1), .val (.int p2), .val (.int (dA + (1 : Int32))), .val (.int (dB + (1 : Int32))), .val (.ref a3), .val (.int (1 : Int32)), .val (.int rA), .val (.int rB), .val (.int aF), .val (.int v321), .val (.int v335), .val (.int v348), .val (.int v361), .unset, .unset] [(.int v361), (.int v348)])) (fun t k => ?_) ?_
  · show Steps p.tables e below (T53.setTop (mkF m 361 #[.val (.int p0), .val (.int p1), .val (.int p2), .val (.int (dA + (1 : Int32))), .val (.int (dB + (1 : Int32))), .val (.ref a3), .val (.int (1 : Int32)), .val (.int rA), .val (.int rB), .val (.int aF), .val (.int v321), .val (.int v335), .val (.int v348), .unset, .unset, .unset] [(.int v361)])) t
    refine XS.istore Y54.here hx rfl (hb hby at_361) rfl (l' := #[.val (.int p0), .val (.int p1), .val (.int p2), .val (.int (dA + (1 : Int32))), .val (.int (dB + (1 : Int32))), .val (.ref a3), .val (.int (1 : Int32)), .val (.int rA), .val (.int rB), .val (.int aF), .val (.int v321), .val (.int v335), .val (.int v348), .val (.int v361), .unset, .unset]) rfl ?_
    show Steps p.tables e below (T53.setTop (mkF m 363 #[.val (.int p0), .val (.int p1), .val (.int p2), .val (.int (dA + (1 : Int32))), .val (.int (dB + (1 : Int32))), .val (.ref a3), .val (.int (1 : Int32)), .val (.int rA), .val (.int rB), .val (.int aF), .val (.int v321), .val (.int v335), .val (.int v348), .val (.int v361), .unset, .unset] [])) t
    refine XS.iload Y54.here hx rfl (hb hby at_363) rfl ?_
    show Steps p.tables e below (T53.setTop (mkF m 365 #[.val (.int p0), .val (.int p1), .val (.int p2), .val (.int (dA + (1 : Int32))), .val (.int (dB + (1 : Int32))), .val (.ref a3), .val (.int (1 : Int32)), .val (.int rA), .val (.int rB), .val (.int aF), .val (.int v321), .val (.int v335), .val (.int v348), .val (.int v361), .unset, .unset] [(.int v348)])) t
    refine XS.iload Y54.here hx rfl (hb hby at_365) rfl ?_
    show Steps p.tables e below (T53.setTop (mkF m 367 #[.val (.int p0), .val (.int p1), .val (.int p2), .val (.int (dA + (1 : Int32))), .val (.int (dB + (1 : Int32))), .val (.ref a3), .val (.int (1 : Int32)), .val (.int rA), .val (.int rB), .val (.int aF), .val (.int v321), .val (.int v335), .val (.int v348), .val (.int v361), .unset, .unset] [(.int v361), (.int v348)])) t
    exact k
  obtain ⟨v377, hv377⟩ : ∃ z : Int32, z = (if v348 < v361 then v335 else v321) := ⟨_, rfl⟩
  refine Rn.go (T' := T53) (g' := (mkF m 377 #[.val (.int p0), .val (.int p1), .val (.int p2), .val (.int (dA + (1 : Int32))), .val (.int (dB + (1 : Int32))), .val (.ref a3), .val (.int (1 : Int32)), .val (.int rA), .val (.int rB), .val (.int aF), .val (.int v321), .val (.int v335), .val (.int v348), .val (.int v361), .unset, .unset] [(.int v377)])) (fun t k => ?_) ?_
  · show Steps p.tables e below (T53.setTop (mkF m 367 #[.val (.int p0), .val (.int p1), .val (.int p2), .val (.int (dA + (1 : Int32))), .val (.int (dB + (1 : Int32))), .val (.ref a3), .val (.int (1 : Int32)), .val (.int rA), .val (.int rB), .val (.int aF), .val (.int v321), .val (.int v335), .val (.int v348), .val (.int v361), .unset, .unset] [(.int v361), (.int v348)])) t
    by_cases hc367 : v348 < v361
    · refine XS.icmpYes Y54.here hx rfl (pc0 := 367) (pc' := 375) rfl (hb hby at_367) rfl (tlt hc367).1 (by decide) (by decide) ?_
      show Steps p.tables e below (T53.setTop (mkF m 375 #[.val (.int p0), .val (.int p1), .val (.int p2), .val (.int (dA + (1 : Int32))), .val (.int (dB + (1 : Int32))), .val (.ref a3), .val (.int (1 : Int32)), .val (.int rA), .val (.int rB), .val (.int aF), .val (.int v321), .val (.int v335), .val (.int v348), .val (.int v361), .unset, .unset] [])) t
      refine XS.iload Y54.here hx rfl (hb hby at_375) rfl ?_
      show Steps p.tables e below (T53.setTop (mkF m 377 #[.val (.int p0), .val (.int p1), .val (.int p2), .val (.int (dA + (1 : Int32))), .val (.int (dB + (1 : Int32))), .val (.ref a3), .val (.int (1 : Int32)), .val (.int rA), .val (.int rB), .val (.int aF), .val (.int v321), .val (.int v335), .val (.int v348), .val (.int v361), .unset, .unset] [(.int v335)])) t
      rw [hv377, if_pos hc367] at k
      exact k
    · refine XS.icmpNo Y54.here hx rfl (hb hby at_367) rfl (flt hc367).1 ?_
      show Steps p.tables e below (T53.setTop (mkF m 370 #[.val (.int p0), .val (.int p1), .val (.int p2), .val (.int (dA + (1 : Int32))), .val (.int (dB + (1 : Int32))), .val (.ref a3), .val (.int (1 : Int32)), .val (.int rA), .val (.int rB), .val (.int aF), .val (.int v321), .val (.int v335), .val (.int v348), .val (.int v361), .unset, .unset] [])) t
      refine XS.iload Y54.here hx rfl (hb hby at_370) rfl ?_
      show Steps p.tables e below (T53.setTop (mkF m 372 #[.val (.int p0), .val (.int p1), .val (.int p2), .val (.int (dA + (1 : Int32))), .val (.int (dB + (1 : Int32))), .val (.ref a3), .val (.int (1 : Int32)), .val (.int rA), .val (.int rB), .val (.int aF), .val (.int v321), .val (.int v335), .val (.int v348), .val (.int v361), .unset, .unset] [(.int v321)])) t
      refine XS.goto Y54.here hx rfl (pc0 := 372) (pc' := 377) rfl (hb hby at_372) (by decide) (by decide) ?_
      show Steps p.tables e below (T53.setTop (mkF m 377 #[.val (.int p0), .val (.int p1), .val (.int p2), .val (.int (dA + (1 : Int32))), .val (.int (dB + (1 : Int32))), .val (.ref a3), .val (.int (1 : Int32)), .val (.int rA), .val (.int rB), .val (.int aF), .val (.int v321), .val (.int v335), .val (.int v348), .val (.int v361), .unset, .unset] [(.int v321)])) t
      rw [hv377, if_neg hc367] at k
      exact k
  refine Rn.go (T' := T53) (g' := (mkF m 385 #[.val (.int p0), .val (.int p1), .val (.int p2), .val (.int (dA + (1 : Int32))), .val (.int (dB + (1 : Int32))), .val (.ref a3), .val (.int (1 : Int32)), .val (.int rA), .val (.int rB), .val (.int aF), .val (.int v321), .val (.int v335), .val (.int v348), .val (.int v361), .val (.int v377), .unset] [(.int v335), (.int v321), (.ref a3)])) (fun t k => ?_) ?_
  · show Steps p.tables e below (T53.setTop (mkF m 377 #[.val (.int p0), .val (.int p1), .val (.int p2), .val (.int (dA + (1 : Int32))), .val (.int (dB + (1 : Int32))), .val (.ref a3), .val (.int (1 : Int32)), .val (.int rA), .val (.int rB), .val (.int aF), .val (.int v321), .val (.int v335), .val (.int v348), .val (.int v361), .unset, .unset] [(.int v377)])) t
    refine XS.istore Y54.here hx rfl (hb hby at_377) rfl (l' := #[.val (.int p0), .val (.int p1), .val (.int p2), .val (.int (dA + (1 : Int32))), .val (.int (dB + (1 : Int32))), .val (.ref a3), .val (.int (1 : Int32)), .val (.int rA), .val (.int rB), .val (.int aF), .val (.int v321), .val (.int v335), .val (.int v348), .val (.int v361), .val (.int v377), .unset]) rfl ?_
    show Steps p.tables e below (T53.setTop (mkF m 379 #[.val (.int p0), .val (.int p1), .val (.int p2), .val (.int (dA + (1 : Int32))), .val (.int (dB + (1 : Int32))), .val (.ref a3), .val (.int (1 : Int32)), .val (.int rA), .val (.int rB), .val (.int aF), .val (.int v321), .val (.int v335), .val (.int v348), .val (.int v361), .val (.int v377), .unset] [])) t
    refine XS.aload Y54.here hx rfl (hb hby at_379) rfl rfl ?_
    show Steps p.tables e below (T53.setTop (mkF m 381 #[.val (.int p0), .val (.int p1), .val (.int p2), .val (.int (dA + (1 : Int32))), .val (.int (dB + (1 : Int32))), .val (.ref a3), .val (.int (1 : Int32)), .val (.int rA), .val (.int rB), .val (.int aF), .val (.int v321), .val (.int v335), .val (.int v348), .val (.int v361), .val (.int v377), .unset] [(.ref a3)])) t
    refine XS.iload Y54.here hx rfl (hb hby at_381) rfl ?_
    show Steps p.tables e below (T53.setTop (mkF m 383 #[.val (.int p0), .val (.int p1), .val (.int p2), .val (.int (dA + (1 : Int32))), .val (.int (dB + (1 : Int32))), .val (.ref a3), .val (.int (1 : Int32)), .val (.int rA), .val (.int rB), .val (.int aF), .val (.int v321), .val (.int v335), .val (.int v348), .val (.int v361), .val (.int v377), .unset] [(.int v321), (.ref a3)])) t
    refine XS.iload Y54.here hx rfl (hb hby at_383) rfl ?_
    show Steps p.tables e below (T53.setTop (mkF m 385 #[.val (.int p0), .val (.int p1), .val (.int p2), .val (.int (dA + (1 : Int32))), .val (.int (dB + (1 : Int32))), .val (.ref a3), .val (.int (1 : Int32)), .val (.int rA), .val (.int rB), .val (.int aF), .val (.int v321), .val (.int v335), .val (.int v348), .val (.int v361), .val (.int v377), .unset] [(.int v335), (.int v321), (.ref a3)])) t
    exact k
  refine On.virtual Y54 hx hZ (y := (⟨"com/example/arborplan/arborplan/tree/DisjointSets", "union", "(II)I"⟩ : MethodName)) (C := "com/example/arborplan/arborplan/tree/DisjointSets") hown (w15 hw) (w16 hw) (w17 hw) (w18 hw) (w19 hw) (w3 hw) (by decide) (a := a3) (argsL := [(.int v321), (.int v335)]) (rest := []) (i := 0) rfl (rm3 l Z a0 hw n0 a3 v321 v335 a9 a10 (own_P tA tB) (own_S tA tB) [] (own_f71 btA btB baF erA erB hv321) (own_f72 btA btB baF erA erB hv321) (own_f73 btA btB baF erA erB hv335) (own_f74 btA btB baF erA erB hv335) (own_f75 btA btB) (own_f76 btA btB)) (W := 0) (by decide) (by decide) (by decide) (by decide) (g := (mkF m 385 #[.val (.int p0), .val (.int p1), .val (.int p2), .val (.int (dA + (1 : Int32))), .val (.int (dB + (1 : Int32))), .val (.ref a3), .val (.int (1 : Int32)), .val (.int rA), .val (.int rB), .val (.int aF), .val (.int v321), .val (.int v335), .val (.int v348), .val (.int v361), .val (.int v377), .unset] [(.int v335), (.int v321), (.ref a3)])) rfl (by rw [hml]; rfl) (lenOf pd1 rfl) rfl (by show 2 * 0 + _ ≤ _; exact Nat.le_of_eq rfl) (hb hby at_385) ?_
  intro T95 u97 D98 hp99 Y96
  obtain ⟨r385, hr385, rfl, rfl⟩ : ∃ z : Int32, z = (own_ro (own_S tA tB) v321 v335) ∧ u97 = some (.int z) ∧ D98 = _ := ⟨_, rfl, hp99.1, hp99.2⟩
  replace Y96 : On p l e _ s m _ below meth c Z n0 T95 3 14 [ob a3 own_C0 (own_F0 (.ref a9) (.ref a10)), ari a9 .int (6 : Int32) (own_pn (own_P tA tB) (own_S tA tB) v321 v335), ari a10 .int (6 : Int32) (own_sn (own_S tA tB) v321 v335)] := Y96
  show Rn p e below F T95 (mkF m 388 #[.val (.int p0), .val (.int p1), .val (.int p2), .val (.int (dA + (1 : Int32))), .val (.int (dB + (1 : Int32))), .val (.ref a3), .val (.int (1 : Int32)), .val (.int rA), .val (.int rB), .val (.int aF), .val (.int v321), .val (.int v335), .val (.int v348), .val (.int v361), .val (.int v377), .unset] [(.int r385)])
  obtain ⟨q100, hq100⟩ : ∃ z : List Int32, z = (own_pn (own_P tA tB) (own_S tA tB) v321 v335) := ⟨_, rfl⟩
  rw [← hq100] at Y96
  obtain ⟨q101, hq101⟩ : ∃ z : List Int32, z = (own_sn (own_S tA tB) v321 v335) := ⟨_, rfl⟩
  rw [← hq101] at Y96
  refine Rn.go (T' := T95) (g' := (mkF m 392 #[.val (.int p0), .val (.int p1), .val (.int p2), .val (.int (dA + (1 : Int32))), .val (.int (dB + (1 : Int32))), .val (.ref a3), .val (.int (1 : Int32)), .val (.int rA), .val (.int rB), .val (.int aF), .val (.int v321), .val (.int v335), .val (.int v348), .val (.int v361), .val (.int v377), .val (.int r385)] [(.int (1 : Int32))])) (fun t k => ?_) ?_
  · show Steps p.tables e below (T95.setTop (mkF m 388 #[.val (.int p0), .val (.int p1), .val (.int p2), .val (.int (dA + (1 : Int32))), .val (.int (dB + (1 : Int32))), .val (.ref a3), .val (.int (1 : Int32)), .val (.int rA), .val (.int rB), .val (.int aF), .val (.int v321), .val (.int v335), .val (.int v348), .val (.int v361), .val (.int v377), .unset] [(.int r385)])) t
    refine XS.istore Y96.here hx rfl (hb hby at_388) rfl (l' := #[.val (.int p0), .val (.int p1), .val (.int p2), .val (.int (dA + (1 : Int32))), .val (.int (dB + (1 : Int32))), .val (.ref a3), .val (.int (1 : Int32)), .val (.int rA), .val (.int rB), .val (.int aF), .val (.int v321), .val (.int v335), .val (.int v348), .val (.int v361), .val (.int v377), .val (.int r385)]) rfl ?_
    show Steps p.tables e below (T95.setTop (mkF m 390 #[.val (.int p0), .val (.int p1), .val (.int p2), .val (.int (dA + (1 : Int32))), .val (.int (dB + (1 : Int32))), .val (.ref a3), .val (.int (1 : Int32)), .val (.int rA), .val (.int rB), .val (.int aF), .val (.int v321), .val (.int v335), .val (.int v348), .val (.int v361), .val (.int v377), .val (.int r385)] [])) t
    refine XS.iload Y96.here hx rfl (hb hby at_390) rfl ?_
    show Steps p.tables e below (T95.setTop (mkF m 392 #[.val (.int p0), .val (.int p1), .val (.int p2), .val (.int (dA + (1 : Int32))), .val (.int (dB + (1 : Int32))), .val (.ref a3), .val (.int (1 : Int32)), .val (.int rA), .val (.int rB), .val (.int aF), .val (.int v321), .val (.int v335), .val (.int v348), .val (.int v361), .val (.int v377), .val (.int r385)] [(.int (1 : Int32))])) t
    exact k
  refine Rn.go (T' := T95) (g' := (mkF m 395 #[.val (.int p0), .val (.int p1), .val (.int p2), .val (.int (dA + (1 : Int32))), .val (.int (dB + (1 : Int32))), .val (.ref a3), .val (.int (1 : Int32)), .val (.int rA), .val (.int rB), .val (.int aF), .val (.int v321), .val (.int v335), .val (.int v348), .val (.int v361), .val (.int v377), .val (.int r385)] [])) (fun t k => XS.ifNo Y96.here hx rfl (hb hby at_392) rfl ((if0 _ _).trans (feq (by decide)).1) k) ?_
  refine Rn.go (T' := T95) (g' := (mkF m 399 #[.val (.int p0), .val (.int p1), .val (.int p2), .val (.int (dA + (1 : Int32))), .val (.int (dB + (1 : Int32))), .val (.ref a3), .val (.int (1 : Int32)), .val (.int rA), .val (.int rB), .val (.int aF), .val (.int v321), .val (.int v335), .val (.int v348), .val (.int v361), .val (.int v377), .val (.int r385)] [(.int v377), (.int r385)])) (fun t k => ?_) ?_
  · show Steps p.tables e below (T95.setTop (mkF m 395 #[.val (.int p0), .val (.int p1), .val (.int p2), .val (.int (dA + (1 : Int32))), .val (.int (dB + (1 : Int32))), .val (.ref a3), .val (.int (1 : Int32)), .val (.int rA), .val (.int rB), .val (.int aF), .val (.int v321), .val (.int v335), .val (.int v348), .val (.int v361), .val (.int v377), .val (.int r385)] [])) t
    refine XS.iload Y96.here hx rfl (hb hby at_395) rfl ?_
    show Steps p.tables e below (T95.setTop (mkF m 397 #[.val (.int p0), .val (.int p1), .val (.int p2), .val (.int (dA + (1 : Int32))), .val (.int (dB + (1 : Int32))), .val (.ref a3), .val (.int (1 : Int32)), .val (.int rA), .val (.int rB), .val (.int aF), .val (.int v321), .val (.int v335), .val (.int v348), .val (.int v361), .val (.int v377), .val (.int r385)] [(.int r385)])) t
    refine XS.iload Y96.here hx rfl (hb hby at_397) rfl ?_
    show Steps p.tables e below (T95.setTop (mkF m 399 #[.val (.int p0), .val (.int p1), .val (.int p2), .val (.int (dA + (1 : Int32))), .val (.int (dB + (1 : Int32))), .val (.ref a3), .val (.int (1 : Int32)), .val (.int rA), .val (.int rB), .val (.int aF), .val (.int v321), .val (.int v335), .val (.int v348), .val (.int v361), .val (.int v377), .val (.int r385)] [(.int v377), (.int r385)])) t
    exact k
  refine Rn.go (T' := T95) (g' := (mkF m 402 #[.val (.int p0), .val (.int p1), .val (.int p2), .val (.int (dA + (1 : Int32))), .val (.int (dB + (1 : Int32))), .val (.ref a3), .val (.int (1 : Int32)), .val (.int rA), .val (.int rB), .val (.int aF), .val (.int v321), .val (.int v335), .val (.int v348), .val (.int v361), .val (.int v377), .val (.int r385)] [])) (fun t k => XS.icmpNo Y96.here hx rfl (hb hby at_399) rfl (teq (own_f77 btA btB baF eda erA edb erB hv321 hv335 hv348 hv361 hv377 hr385)).2 k) ?_
  refine Rn.go (T' := T95) (g' := (mkF m 411 #[.val (.int p0), .val (.int p1), .val (.int p2), .val (.int (dA + (1 : Int32))), .val (.int (dB + (1 : Int32))), .val (.ref a3), .val (.int (1 : Int32)), .val (.int rA), .val (.int rB), .val (.int aF), .val (.int v321), .val (.int v335), .val (.int v348), .val (.int v361), .val (.int v377), .val (.int r385)] [(.int (1 : Int32))])) (fun t k => ?_) ?_
  · show Steps p.tables e below (T95.setTop (mkF m 402 #[.val (.int p0), .val (.int p1), .val (.int p2), .val (.int (dA + (1 : Int32))), .val (.int (dB + (1 : Int32))), .val (.ref a3), .val (.int (1 : Int32)), .val (.int rA), .val (.int rB), .val (.int aF), .val (.int v321), .val (.int v335), .val (.int v348), .val (.int v361), .val (.int v377), .val (.int r385)] [])) t
    refine XS.iconst Y96.here hx rfl (hb hby at_402) ?_
    show Steps p.tables e below (T95.setTop (mkF m 403 #[.val (.int p0), .val (.int p1), .val (.int p2), .val (.int (dA + (1 : Int32))), .val (.int (dB + (1 : Int32))), .val (.ref a3), .val (.int (1 : Int32)), .val (.int rA), .val (.int rB), .val (.int aF), .val (.int v321), .val (.int v335), .val (.int v348), .val (.int v361), .val (.int v377), .val (.int r385)] [(.int (1 : Int32))])) t
    refine XS.goto Y96.here hx rfl (pc0 := 403) (pc' := 407) rfl (hb hby at_403) (by decide) (by decide) ?_
    show Steps p.tables e below (T95.setTop (mkF m 407 #[.val (.int p0), .val (.int p1), .val (.int p2), .val (.int (dA + (1 : Int32))), .val (.int (dB + (1 : Int32))), .val (.ref a3), .val (.int (1 : Int32)), .val (.int rA), .val (.int rB), .val (.int aF), .val (.int v321), .val (.int v335), .val (.int v348), .val (.int v361), .val (.int v377), .val (.int r385)] [(.int (1 : Int32))])) t
    refine XS.istore Y96.here hx rfl (hb hby at_407) rfl (l' := #[.val (.int p0), .val (.int p1), .val (.int p2), .val (.int (dA + (1 : Int32))), .val (.int (dB + (1 : Int32))), .val (.ref a3), .val (.int (1 : Int32)), .val (.int rA), .val (.int rB), .val (.int aF), .val (.int v321), .val (.int v335), .val (.int v348), .val (.int v361), .val (.int v377), .val (.int r385)]) rfl ?_
    show Steps p.tables e below (T95.setTop (mkF m 409 #[.val (.int p0), .val (.int p1), .val (.int p2), .val (.int (dA + (1 : Int32))), .val (.int (dB + (1 : Int32))), .val (.ref a3), .val (.int (1 : Int32)), .val (.int rA), .val (.int rB), .val (.int aF), .val (.int v321), .val (.int v335), .val (.int v348), .val (.int v361), .val (.int v377), .val (.int r385)] [])) t
    refine XS.iload Y96.here hx rfl (hb hby at_409) rfl ?_
    show Steps p.tables e below (T95.setTop (mkF m 411 #[.val (.int p0), .val (.int p1), .val (.int p2), .val (.int (dA + (1 : Int32))), .val (.int (dB + (1 : Int32))), .val (.ref a3), .val (.int (1 : Int32)), .val (.int rA), .val (.int rB), .val (.int aF), .val (.int v321), .val (.int v335), .val (.int v348), .val (.int v361), .val (.int v377), .val (.int r385)] [(.int (1 : Int32))])) t
    exact k
  refine Rn.go (T' := T95) (g' := (mkF m 414 #[.val (.int p0), .val (.int p1), .val (.int p2), .val (.int (dA + (1 : Int32))), .val (.int (dB + (1 : Int32))), .val (.ref a3), .val (.int (1 : Int32)), .val (.int rA), .val (.int rB), .val (.int aF), .val (.int v321), .val (.int v335), .val (.int v348), .val (.int v361), .val (.int v377), .val (.int r385)] [])) (fun t k => XS.ifNo Y96.here hx rfl (hb hby at_411) rfl ((if0 _ _).trans (feq (by decide)).1) k) ?_
  refine Rn.go (T' := T95) (g' := (mkF m 417 #[.val (.int p0), .val (.int p1), .val (.int p2), .val (.int (dA + (1 : Int32))), .val (.int (dB + (1 : Int32))), .val (.ref a3), .val (.int (1 : Int32)), .val (.int rA), .val (.int rB), .val (.int aF), .val (.int v321), .val (.int v335), .val (.int v348), .val (.int v361), .val (.int v377), .val (.int r385)] [(.int (0 : Int32)), (.ref a3)])) (fun t k => ?_) ?_
  · show Steps p.tables e below (T95.setTop (mkF m 414 #[.val (.int p0), .val (.int p1), .val (.int p2), .val (.int (dA + (1 : Int32))), .val (.int (dB + (1 : Int32))), .val (.ref a3), .val (.int (1 : Int32)), .val (.int rA), .val (.int rB), .val (.int aF), .val (.int v321), .val (.int v335), .val (.int v348), .val (.int v361), .val (.int v377), .val (.int r385)] [])) t
    refine XS.aload Y96.here hx rfl (hb hby at_414) rfl rfl ?_
    show Steps p.tables e below (T95.setTop (mkF m 416 #[.val (.int p0), .val (.int p1), .val (.int p2), .val (.int (dA + (1 : Int32))), .val (.int (dB + (1 : Int32))), .val (.ref a3), .val (.int (1 : Int32)), .val (.int rA), .val (.int rB), .val (.int aF), .val (.int v321), .val (.int v335), .val (.int v348), .val (.int v361), .val (.int v377), .val (.int r385)] [(.ref a3)])) t
    refine XS.iconst Y96.here hx rfl (hb hby at_416) ?_
    show Steps p.tables e below (T95.setTop (mkF m 417 #[.val (.int p0), .val (.int p1), .val (.int p2), .val (.int (dA + (1 : Int32))), .val (.int (dB + (1 : Int32))), .val (.ref a3), .val (.int (1 : Int32)), .val (.int rA), .val (.int rB), .val (.int aF), .val (.int v321), .val (.int v335), .val (.int v348), .val (.int v361), .val (.int v377), .val (.int r385)] [(.int (0 : Int32)), (.ref a3)])) t
    exact k
  refine On.virtual Y96 hx hZ (y := (⟨"com/example/arborplan/arborplan/tree/DisjointSets", "find", "(I)I"⟩ : MethodName)) (C := "com/example/arborplan/arborplan/tree/DisjointSets") hown (w20 hw) (w21 hw) (w22 hw) (w23 hw) (w24 hw) (w3 hw) (by decide) (a := a3) (argsL := [(.int (0 : Int32))]) (rest := []) (i := 0) rfl (rm4 l Z a0 hw n0 a3 (0 : Int32) a9 a10 q100 q101 [] (own_f78 btA btB baF erA erB hv321 hv335 hq100)) (W := 0) (by decide) (by decide) (by decide) (by decide) (g := (mkF m 417 #[.val (.int p0), .val (.int p1), .val (.int p2), .val (.int (dA + (1 : Int32))), .val (.int (dB + (1 : Int32))), .val (.ref a3), .val (.int (1 : Int32)), .val (.int rA), .val (.int rB), .val (.int aF), .val (.int v321), .val (.int v335), .val (.int v348), .val (.int v361), .val (.int v377), .val (.int r385)] [(.int (0 : Int32)), (.ref a3)])) rfl (by rw [hml]; rfl) (lenOf pd2 rfl) rfl (by show 2 * 0 + _ ≤ _; exact Nat.le_of_eq rfl) (hb hby at_417) ?_
  intro T102 u104 D105 hp106 Y103
  obtain ⟨r417, hr417, rfl, rfl⟩ : ∃ z : Int32, z = (own_fr q100 (0 : Int32)) ∧ u104 = some (.int z) ∧ D105 = _ := ⟨_, rfl, hp106.1, hp106.2⟩
  replace Y103 : On p l e _ s m _ below meth c Z n0 T102 3 14 [ob a3 own_C0 (own_F0 (.ref a9) (.ref a10)), ari a9 .int (6 : Int32) (own_fp q100 (0 : Int32)), ari a10 .int (6 : Int32) q101] := Y103
  show Rn p e below F T102 (mkF m 420 #[.val (.int p0), .val (.int p1), .val (.int p2), .val (.int (dA + (1 : Int32))), .val (.int (dB + (1 : Int32))), .val (.ref a3), .val (.int (1 : Int32)), .val (.int rA), .val (.int rB), .val (.int aF), .val (.int v321), .val (.int v335), .val (.int v348), .val (.int v361), .val (.int v377), .val (.int r385)] [(.int r417)])
  obtain ⟨q107, hq107⟩ : ∃ z : List Int32, z = (own_fp q100 (0 : Int32)) := ⟨_, rfl⟩
  rw [← hq107] at Y103
  refine Rn.go (T' := T102) (g' := (mkF m 426 #[.val (.int p0), .val (.int p1), .val (.int p2), .val (.int (dA + (1 : Int32))), .val (.int (dB + (1 : Int32))), .val (.ref a3), .val (.int (1 : Int32)), .val (.int rA), .val (.int rB), .val (.int aF), .val (.int v321), .val (.int v335), .val (.int v348), .val (.int v361), .val (.int v377), .val (.int r385)] [(.int v377), (.int (dB + (1 : Int32))), (.int (dA + (1 : Int32))), (.int (0 : Int32)), (.int r417)])) (fun t k => ?_) ?_
  · show Steps p.tables e below (T102.setTop (mkF m 420 #[.val (.int p0), .val (.int p1), .val (.int p2), .val (.int (dA + (1 : Int32))), .val (.int (dB + (1 : Int32))), .val (.ref a3), .val (.int (1 : Int32)), .val (.int rA), .val (.int rB), .val (.int aF), .val (.int v321), .val (.int v335), .val (.int v348), .val (.int v361), .val (.int v377), .val (.int r385)] [(.int r417)])) t
    refine XS.iconst Y103.here hx rfl (hb hby at_420) ?_
    show Steps p.tables e below (T102.setTop (mkF m 421 #[.val (.int p0), .val (.int p1), .val (.int p2), .val (.int (dA + (1 : Int32))), .val (.int (dB + (1 : Int32))), .val (.ref a3), .val (.int (1 : Int32)), .val (.int rA), .val (.int rB), .val (.int aF), .val (.int v321), .val (.int v335), .val (.int v348), .val (.int v361), .val (.int v377), .val (.int r385)] [(.int (0 : Int32)), (.int r417)])) t
    refine XS.iloadN Y103.here hx rfl (hb hby at_421) rfl ?_
    show Steps p.tables e below (T102.setTop (mkF m 422 #[.val (.int p0), .val (.int p1), .val (.int p2), .val (.int (dA + (1 : Int32))), .val (.int (dB + (1 : Int32))), .val (.ref a3), .val (.int (1 : Int32)), .val (.int rA), .val (.int rB), .val (.int aF), .val (.int v321), .val (.int v335), .val (.int v348), .val (.int v361), .val (.int v377), .val (.int r385)] [(.int (dA + (1 : Int32))), (.int (0 : Int32)), (.int r417)])) t
    refine XS.iload Y103.here hx rfl (hb hby at_422) rfl ?_
    show Steps p.tables e below (T102.setTop (mkF m 424 #[.val (.int p0), .val (.int p1), .val (.int p2), .val (.int (dA + (1 : Int32))), .val (.int (dB + (1 : Int32))), .val (.ref a3), .val (.int (1 : Int32)), .val (.int rA), .val (.int rB), .val (.int aF), .val (.int v321), .val (.int v335), .val (.int v348), .val (.int v361), .val (.int v377), .val (.int r385)] [(.int (dB + (1 : Int32))), (.int (dA + (1 : Int32))), (.int (0 : Int32)), (.int r417)])) t
    refine XS.iload Y103.here hx rfl (hb hby at_424) rfl ?_
    show Steps p.tables e below (T102.setTop (mkF m 426 #[.val (.int p0), .val (.int p1), .val (.int p2), .val (.int (dA + (1 : Int32))), .val (.int (dB + (1 : Int32))), .val (.ref a3), .val (.int (1 : Int32)), .val (.int rA), .val (.int rB), .val (.int aF), .val (.int v321), .val (.int v335), .val (.int v348), .val (.int v361), .val (.int v377), .val (.int r385)] [(.int v377), (.int (dB + (1 : Int32))), (.int (dA + (1 : Int32))), (.int (0 : Int32)), (.int r417)])) t
    exact k
  refine On.static Y103 hx hZ (y := (⟨"com/example/arborplan/arborplan/tree/DisjointSetsUnionPinLaw", "expectedFind", "(IIII)I"⟩ : MethodName)) hown (w25 hw) (w26 hw) (w28 hw) (w27 hw) (by decide) (argsL := [(.int (0 : Int32)), (.int (dA + (1 : Int32))), (.int (dB + (1 : Int32))), (.int v377)]) (rest := [(.int r417)]) (rm5 l Z a0 hw n0 (0 : Int32) (dA + (1 : Int32)) (dB + (1 : Int32)) v377 [ob a3 own_C0 (own_F0 (.ref a9) (.ref a10)), ari a9 .int (6 : Int32) q107, ari a10 .int (6 : Int32) q101]) (W := 1) (by decide) (by decide) (by decide) (by decide) (g := (mkF m 426 #[.val (.int p0), .val (.int p1), .val (.int p2), .val (.int (dA + (1 : Int32))), .val (.int (dB + (1 : Int32))), .val (.ref a3), .val (.int (1 : Int32)), .val (.int rA), .val (.int rB), .val (.int aF), .val (.int v321), .val (.int v335), .val (.int v348), .val (.int v361), .val (.int v377), .val (.int r385)] [(.int v377), (.int (dB + (1 : Int32))), (.int (dA + (1 : Int32))), (.int (0 : Int32)), (.int r417)])) rfl (by rw [hml]; rfl) (lenOf pd3 rfl) rfl (by show 2 * 0 + _ ≤ _; exact Nat.le_of_eq rfl) (hb hby at_426) ?_
  intro T108 u110 D111 hp112 Y109
  obtain ⟨r426, hr426, rfl, rfl⟩ : ∃ z : Int32, z = (own_ef (0 : Int32) (dA + (1 : Int32)) (dB + (1 : Int32)) v377) ∧ u110 = some (.int z) ∧ D111 = _ := ⟨_, rfl, hp112.1, hp112.2⟩
  replace Y109 : On p l e _ s m _ below meth c Z n0 T108 3 14 [ob a3 own_C0 (own_F0 (.ref a9) (.ref a10)), ari a9 .int (6 : Int32) q107, ari a10 .int (6 : Int32) q101] := Y109
  show Rn p e below F T108 (mkF m 429 #[.val (.int p0), .val (.int p1), .val (.int p2), .val (.int (dA + (1 : Int32))), .val (.int (dB + (1 : Int32))), .val (.ref a3), .val (.int (1 : Int32)), .val (.int rA), .val (.int rB), .val (.int aF), .val (.int v321), .val (.int v335), .val (.int v348), .val (.int v361), .val (.int v377), .val (.int r385)] [(.int r426), (.int r417)])
  refine Rn.go (T' := T108) (g' := (mkF m 432 #[.val (.int p0), .val (.int p1), .val (.int p2), .val (.int (dA + (1 : Int32))), .val (.int (dB + (1 : Int32))), .val (.ref a3), .val (.int (1 : Int32)), .val (.int rA), .val (.int rB), .val (.int aF), .val (.int v321), .val (.int v335), .val (.int v348), .val (.int v361), .val (.int v377), .val (.int r385)] [])) (fun t k => XS.icmpNo Y109.here hx rfl (hb hby at_429) rfl (teq (own_f79 btA btB baF eda erA edb erB hv321 hv335 hv348 hv361 hv377 hq100 hr417 hr426)).2 k) ?_
  refine Rn.go (T' := T108) (g' := (mkF m 441 #[.val (.int p0), .val (.int p1), .val (.int p2), .val (.int (dA + (1 : Int32))), .val (.int (dB + (1 : Int32))), .val (.ref a3), .val (.int (1 : Int32)), .val (.int rA), .val (.int rB), .val (.int aF), .val (.int v321), .val (.int v335), .val (.int v348), .val (.int v361), .val (.int v377), .val (.int r385)] [(.int (1 : Int32))])) (fun t k => ?_) ?_
  · show Steps p.tables e below (T108.setTop (mkF m 432 #[.val (.int p0), .val (.int p1), .val (.int p2), .val (.int (dA + (1 : Int32))), .val (.int (dB + (1 : Int32))), .val (.ref a3), .val (.int (1 : Int32)), .val (.int rA), .val (.int rB), .val (.int aF), .val (.int v321), .val (.int v335), .val (.int v348), .val (.int v361), .val (.int v377), .val (.int r385)] [])) t
    refine XS.iconst Y109.here hx rfl (hb hby at_432) ?_
    show Steps p.tables e below (T108.setTop (mkF m 433 #[.val (.int p0), .val (.int p1), .val (.int p2), .val (.int (dA + (1 : Int32))), .val (.int (dB + (1 : Int32))), .val (.ref a3), .val (.int (1 : Int32)), .val (.int rA), .val (.int rB), .val (.int aF), .val (.int v321), .val (.int v335), .val (.int v348), .val (.int v361), .val (.int v377), .val (.int r385)] [(.int (1 : Int32))])) t
    refine XS.goto Y109.here hx rfl (pc0 := 433) (pc' := 437) rfl (hb hby at_433) (by decide) (by decide) ?_
    show Steps p.tables e below (T108.setTop (mkF m 437 #[.val (.int p0), .val (.int p1), .val (.int p2), .val (.int (dA + (1 : Int32))), .val (.int (dB + (1 : Int32))), .val (.ref a3), .val (.int (1 : Int32)), .val (.int rA), .val (.int rB), .val (.int aF), .val (.int v321), .val (.int v335), .val (.int v348), .val (.int v361), .val (.int v377), .val (.int r385)] [(.int (1 : Int32))])) t
    refine XS.istore Y109.here hx rfl (hb hby at_437) rfl (l' := #[.val (.int p0), .val (.int p1), .val (.int p2), .val (.int (dA + (1 : Int32))), .val (.int (dB + (1 : Int32))), .val (.ref a3), .val (.int (1 : Int32)), .val (.int rA), .val (.int rB), .val (.int aF), .val (.int v321), .val (.int v335), .val (.int v348), .val (.int v361), .val (.int v377), .val (.int r385)]) rfl ?_
    show Steps p.tables e below (T108.setTop (mkF m 439 #[.val (.int p0), .val (.int p1), .val (.int p2), .val (.int (dA + (1 : Int32))), .val (.int (dB + (1 : Int32))), .val (.ref a3), .val (.int (1 : Int32)), .val (.int rA), .val (.int rB), .val (.int aF), .val (.int v321), .val (.int v335), .val (.int v348), .val (.int v361), .val (.int v377), .val (.int r385)] [])) t
    refine XS.iload Y109.here hx rfl (hb hby at_439) rfl ?_
    show Steps p.tables e below (T108.setTop (mkF m 441 #[.val (.int p0), .val (.int p1), .val (.int p2), .val (.int (dA + (1 : Int32))), .val (.int (dB + (1 : Int32))), .val (.ref a3), .val (.int (1 : Int32)), .val (.int rA), .val (.int rB), .val (.int aF), .val (.int v321), .val (.int v335), .val (.int v348), .val (.int v361), .val (.int v377), .val (.int r385)] [(.int (1 : Int32))])) t
    exact k
  refine Rn.go (T' := T108) (g' := (mkF m 444 #[.val (.int p0), .val (.int p1), .val (.int p2), .val (.int (dA + (1 : Int32))), .val (.int (dB + (1 : Int32))), .val (.ref a3), .val (.int (1 : Int32)), .val (.int rA), .val (.int rB), .val (.int aF), .val (.int v321), .val (.int v335), .val (.int v348), .val (.int v361), .val (.int v377), .val (.int r385)] [])) (fun t k => XS.ifNo Y109.here hx rfl (hb hby at_441) rfl ((if0 _ _).trans (feq (by decide)).1) k) ?_
  refine Rn.go (T' := T108) (g' := (mkF m 447 #[.val (.int p0), .val (.int p1), .val (.int p2), .val (.int (dA + (1 : Int32))), .val (.int (dB + (1 : Int32))), .val (.ref a3), .val (.int (1 : Int32)), .val (.int rA), .val (.int rB), .val (.int aF), .val (.int v321), .val (.int v335), .val (.int v348), .val (.int v361), .val (.int v377), .val (.int r385)] [(.int (1 : Int32)), (.ref a3)])) (fun t k => ?_) ?_
  · show Steps p.tables e below (T108.setTop (mkF m 444 #[.val (.int p0), .val (.int p1), .val (.int p2), .val (.int (dA + (1 : Int32))), .val (.int (dB + (1 : Int32))), .val (.ref a3), .val (.int (1 : Int32)), .val (.int rA), .val (.int rB), .val (.int aF), .val (.int v321), .val (.int v335), .val (.int v348), .val (.int v361), .val (.int v377), .val (.int r385)] [])) t
    refine XS.aload Y109.here hx rfl (hb hby at_444) rfl rfl ?_
    show Steps p.tables e below (T108.setTop (mkF m 446 #[.val (.int p0), .val (.int p1), .val (.int p2), .val (.int (dA + (1 : Int32))), .val (.int (dB + (1 : Int32))), .val (.ref a3), .val (.int (1 : Int32)), .val (.int rA), .val (.int rB), .val (.int aF), .val (.int v321), .val (.int v335), .val (.int v348), .val (.int v361), .val (.int v377), .val (.int r385)] [(.ref a3)])) t
    refine XS.iconst Y109.here hx rfl (hb hby at_446) ?_
    show Steps p.tables e below (T108.setTop (mkF m 447 #[.val (.int p0), .val (.int p1), .val (.int p2), .val (.int (dA + (1 : Int32))), .val (.int (dB + (1 : Int32))), .val (.ref a3), .val (.int (1 : Int32)), .val (.int rA), .val (.int rB), .val (.int aF), .val (.int v321), .val (.int v335), .val (.int v348), .val (.int v361), .val (.int v377), .val (.int r385)] [(.int (1 : Int32)), (.ref a3)])) t
    exact k
  refine On.virtual Y109 hx hZ (y := (⟨"com/example/arborplan/arborplan/tree/DisjointSets", "find", "(I)I"⟩ : MethodName)) (C := "com/example/arborplan/arborplan/tree/DisjointSets") hown (w20 hw) (w21 hw) (w22 hw) (w23 hw) (w24 hw) (w3 hw) (by decide) (a := a3) (argsL := [(.int (1 : Int32))]) (rest := []) (i := 0) rfl (rm4 l Z a0 hw n0 a3 (1 : Int32) a9 a10 q107 q101 [] (own_f80 btA btB baF erA erB hv321 hv335 hq100 hq107)) (W := 0) (by decide) (by decide) (by decide) (by decide) (g := (mkF m 447 #[.val (.int p0), .val (.int p1), .val (.int p2), .val (.int (dA + (1 : Int32))), .val (.int (dB + (1 : Int32))), .val (.ref a3), .val (.int (1 : Int32)), .val (.int rA), .val (.int rB), .val (.int aF), .val (.int v321), .val (.int v335), .val (.int v348), .val (.int v361), .val (.int v377), .val (.int r385)] [(.int (1 : Int32)), (.ref a3)])) rfl (by rw [hml]; rfl) (lenOf pd2 rfl) rfl (by show 2 * 0 + _ ≤ _; exact Nat.le_of_eq rfl) (hb hby at_447) ?_
  intro T113 u115 D116 hp117 Y114
  obtain ⟨r447, hr447, rfl, rfl⟩ : ∃ z : Int32, z = (own_fr q107 (1 : Int32)) ∧ u115 = some (.int z) ∧ D116 = _ := ⟨_, rfl, hp117.1, hp117.2⟩
  replace Y114 : On p l e _ s m _ below meth c Z n0 T113 3 14 [ob a3 own_C0 (own_F0 (.ref a9) (.ref a10)), ari a9 .int (6 : Int32) (own_fp q107 (1 : Int32)), ari a10 .int (6 : Int32) q101] := Y114
  show Rn p e below F T113 (mkF m 450 #[.val (.int p0), .val (.int p1), .val (.int p2), .val (.int (dA + (1 : Int32))), .val (.int (dB + (1 : Int32))), .val (.ref a3), .val (.int (1 : Int32)), .val (.int rA), .val (.int rB), .val (.int aF), .val (.int v321), .val (.int v335), .val (.int v348), .val (.int v361), .val (.int v377), .val (.int r385)] [(.int r447)])
  obtain ⟨q118, hq118⟩ : ∃ z : List Int32, z = (own_fp q107 (1 : Int32)) := ⟨_, rfl⟩
  rw [← hq118] at Y114
  refine Rn.go (T' := T113) (g' := (mkF m 456 #[.val (.int p0), .val (.int p1), .val (.int p2), .val (.int (dA + (1 : Int32))), .val (.int (dB + (1 : Int32))), .val (.ref a3), .val (.int (1 : Int32)), .val (.int rA), .val (.int rB), .val (.int aF), .val (.int v321), .val (.int v335), .val (.int v348), .val (.int v361), .val (.int v377), .val (.int r385)] [(.int v377), (.int (dB + (1 : Int32))), (.int (dA + (1 : Int32))), (.int (1 : Int32)), (.int r447)])) (fun t k => ?_) ?_
  · show Steps p.tables e below (T113.setTop (mkF m 450 #[.val (.int p0), .val (.int p1), .val (.int p2), .val (.int (dA + (1 : Int32))), .val (.int (dB + (1 : Int32))), .val (.ref a3), .val (.int (1 : Int32)), .val (.int rA), .val (.int rB), .val (.int aF), .val (.int v321), .val (.int v335), .val (.int v348), .val (.int v361), .val (.int v377), .val (.int r385)] [(.int r447)])) t
    refine XS.iconst Y114.here hx rfl (hb hby at_450) ?_
    show Steps p.tables e below (T113.setTop (mkF m 451 #[.val (.int p0), .val (.int p1), .val (.int p2), .val (.int (dA + (1 : Int32))), .val (.int (dB + (1 : Int32))), .val (.ref a3), .val (.int (1 : Int32)), .val (.int rA), .val (.int rB), .val (.int aF), .val (.int v321), .val (.int v335), .val (.int v348), .val (.int v361), .val (.int v377), .val (.int r385)] [(.int (1 : Int32)), (.int r447)])) t
    refine XS.iloadN Y114.here hx rfl (hb hby at_451) rfl ?_
    show Steps p.tables e below (T113.setTop (mkF m 452 #[.val (.int p0), .val (.int p1), .val (.int p2), .val (.int (dA + (1 : Int32))), .val (.int (dB + (1 : Int32))), .val (.ref a3), .val (.int (1 : Int32)), .val (.int rA), .val (.int rB), .val (.int aF), .val (.int v321), .val (.int v335), .val (.int v348), .val (.int v361), .val (.int v377), .val (.int r385)] [(.int (dA + (1 : Int32))), (.int (1 : Int32)), (.int r447)])) t
    refine XS.iload Y114.here hx rfl (hb hby at_452) rfl ?_
    show Steps p.tables e below (T113.setTop (mkF m 454 #[.val (.int p0), .val (.int p1), .val (.int p2), .val (.int (dA + (1 : Int32))), .val (.int (dB + (1 : Int32))), .val (.ref a3), .val (.int (1 : Int32)), .val (.int rA), .val (.int rB), .val (.int aF), .val (.int v321), .val (.int v335), .val (.int v348), .val (.int v361), .val (.int v377), .val (.int r385)] [(.int (dB + (1 : Int32))), (.int (dA + (1 : Int32))), (.int (1 : Int32)), (.int r447)])) t
    refine XS.iload Y114.here hx rfl (hb hby at_454) rfl ?_
    show Steps p.tables e below (T113.setTop (mkF m 456 #[.val (.int p0), .val (.int p1), .val (.int p2), .val (.int (dA + (1 : Int32))), .val (.int (dB + (1 : Int32))), .val (.ref a3), .val (.int (1 : Int32)), .val (.int rA), .val (.int rB), .val (.int aF), .val (.int v321), .val (.int v335), .val (.int v348), .val (.int v361), .val (.int v377), .val (.int r385)] [(.int v377), (.int (dB + (1 : Int32))), (.int (dA + (1 : Int32))), (.int (1 : Int32)), (.int r447)])) t
    exact k
  refine On.static Y114 hx hZ (y := (⟨"com/example/arborplan/arborplan/tree/DisjointSetsUnionPinLaw", "expectedFind", "(IIII)I"⟩ : MethodName)) hown (w25 hw) (w26 hw) (w28 hw) (w27 hw) (by decide) (argsL := [(.int (1 : Int32)), (.int (dA + (1 : Int32))), (.int (dB + (1 : Int32))), (.int v377)]) (rest := [(.int r447)]) (rm5 l Z a0 hw n0 (1 : Int32) (dA + (1 : Int32)) (dB + (1 : Int32)) v377 [ob a3 own_C0 (own_F0 (.ref a9) (.ref a10)), ari a9 .int (6 : Int32) q118, ari a10 .int (6 : Int32) q101]) (W := 1) (by decide) (by decide) (by decide) (by decide) (g := (mkF m 456 #[.val (.int p0), .val (.int p1), .val (.int p2), .val (.int (dA + (1 : Int32))), .val (.int (dB + (1 : Int32))), .val (.ref a3), .val (.int (1 : Int32)), .val (.int rA), .val (.int rB), .val (.int aF), .val (.int v321), .val (.int v335), .val (.int v348), .val (.int v361), .val (.int v377), .val (.int r385)] [(.int v377), (.int (dB + (1 : Int32))), (.int (dA + (1 : Int32))), (.int (1 : Int32)), (.int r447)])) rfl (by rw [hml]; rfl) (lenOf pd3 rfl) rfl (by show 2 * 0 + _ ≤ _; exact Nat.le_of_eq rfl) (hb hby at_456) ?_
  intro T119 u121 D122 hp123 Y120
  obtain ⟨r456, hr456, rfl, rfl⟩ : ∃ z : Int32, z = (own_ef (1 : Int32) (dA + (1 : Int32)) (dB + (1 : Int32)) v377) ∧ u121 = some (.int z) ∧ D122 = _ := ⟨_, rfl, hp123.1, hp123.2⟩
  replace Y120 : On p l e _ s m _ below meth c Z n0 T119 3 14 [ob a3 own_C0 (own_F0 (.ref a9) (.ref a10)), ari a9 .int (6 : Int32) q118, ari a10 .int (6 : Int32) q101] := Y120
  show Rn p e below F T119 (mkF m 459 #[.val (.int p0), .val (.int p1), .val (.int p2), .val (.int (dA + (1 : Int32))), .val (.int (dB + (1 : Int32))), .val (.ref a3), .val (.int (1 : Int32)), .val (.int rA), .val (.int rB), .val (.int aF), .val (.int v321), .val (.int v335), .val (.int v348), .val (.int v361), .val (.int v377), .val (.int r385)] [(.int r456), (.int r447)])
  refine Rn.go (T' := T119) (g' := (mkF m 462 #[.val (.int p0), .val (.int p1), .val (.int p2), .val (.int (dA + (1 : Int32))), .val (.int (dB + (1 : Int32))), .val (.ref a3), .val (.int (1 : Int32)), .val (.int rA), .val (.int rB), .val (.int aF), .val (.int v321), .val (.int v335), .val (.int v348), .val (.int v361), .val (.int v377), .val (.int r385)] [])) (fun t k => XS.icmpNo Y120.here hx rfl (hb hby at_459) rfl (teq (own_f81 btA btB baF eda erA edb erB hv321 hv335 hv348 hv361 hv377 hq100 hq107 hr447 hr456)).2 k) ?_
  refine Rn.go (T' := T119) (g' := (mkF m 471 #[.val (.int p0), .val (.int p1), .val (.int p2), .val (.int (dA + (1 : Int32))), .val (.int (dB + (1 : Int32))), .val (.ref a3), .val (.int (1 : Int32)), .val (.int rA), .val (.int rB), .val (.int aF), .val (.int v321), .val (.int v335), .val (.int v348), .val (.int v361), .val (.int v377), .val (.int r385)] [(.int (1 : Int32))])) (fun t k => ?_) ?_
  · show Steps p.tables e below (T119.setTop (mkF m 462 #[.val (.int p0), .val (.int p1), .val (.int p2), .val (.int (dA + (1 : Int32))), .val (.int (dB + (1 : Int32))), .val (.ref a3), .val (.int (1 : Int32)), .val (.int rA), .val (.int rB), .val (.int aF), .val (.int v321), .val (.int v335), .val (.int v348), .val (.int v361), .val (.int v377), .val (.int r385)] [])) t
    refine XS.iconst Y120.here hx rfl (hb hby at_462) ?_
    show Steps p.tables e below (T119.setTop (mkF m 463 #[.val (.int p0), .val (.int p1), .val (.int p2), .val (.int (dA + (1 : Int32))), .val (.int (dB + (1 : Int32))), .val (.ref a3), .val (.int (1 : Int32)), .val (.int rA), .val (.int rB), .val (.int aF), .val (.int v321), .val (.int v335), .val (.int v348), .val (.int v361), .val (.int v377), .val (.int r385)] [(.int (1 : Int32))])) t
    refine XS.goto Y120.here hx rfl (pc0 := 463) (pc' := 467) rfl (hb hby at_463) (by decide) (by decide) ?_
    show Steps p.tables e below (T119.setTop (mkF m 467 #[.val (.int p0), .val (.int p1), .val (.int p2), .val (.int (dA + (1 : Int32))), .val (.int (dB + (1 : Int32))), .val (.ref a3), .val (.int (1 : Int32)), .val (.int rA), .val (.int rB), .val (.int aF), .val (.int v321), .val (.int v335), .val (.int v348), .val (.int v361), .val (.int v377), .val (.int r385)] [(.int (1 : Int32))])) t
    refine XS.istore Y120.here hx rfl (hb hby at_467) rfl (l' := #[.val (.int p0), .val (.int p1), .val (.int p2), .val (.int (dA + (1 : Int32))), .val (.int (dB + (1 : Int32))), .val (.ref a3), .val (.int (1 : Int32)), .val (.int rA), .val (.int rB), .val (.int aF), .val (.int v321), .val (.int v335), .val (.int v348), .val (.int v361), .val (.int v377), .val (.int r385)]) rfl ?_
    show Steps p.tables e below (T119.setTop (mkF m 469 #[.val (.int p0), .val (.int p1), .val (.int p2), .val (.int (dA + (1 : Int32))), .val (.int (dB + (1 : Int32))), .val (.ref a3), .val (.int (1 : Int32)), .val (.int rA), .val (.int rB), .val (.int aF), .val (.int v321), .val (.int v335), .val (.int v348), .val (.int v361), .val (.int v377), .val (.int r385)] [])) t
    refine XS.iload Y120.here hx rfl (hb hby at_469) rfl ?_
    show Steps p.tables e below (T119.setTop (mkF m 471 #[.val (.int p0), .val (.int p1), .val (.int p2), .val (.int (dA + (1 : Int32))), .val (.int (dB + (1 : Int32))), .val (.ref a3), .val (.int (1 : Int32)), .val (.int rA), .val (.int rB), .val (.int aF), .val (.int v321), .val (.int v335), .val (.int v348), .val (.int v361), .val (.int v377), .val (.int r385)] [(.int (1 : Int32))])) t
    exact k
  refine Rn.go (T' := T119) (g' := (mkF m 474 #[.val (.int p0), .val (.int p1), .val (.int p2), .val (.int (dA + (1 : Int32))), .val (.int (dB + (1 : Int32))), .val (.ref a3), .val (.int (1 : Int32)), .val (.int rA), .val (.int rB), .val (.int aF), .val (.int v321), .val (.int v335), .val (.int v348), .val (.int v361), .val (.int v377), .val (.int r385)] [])) (fun t k => XS.ifNo Y120.here hx rfl (hb hby at_471) rfl ((if0 _ _).trans (feq (by decide)).1) k) ?_
  refine Rn.go (T' := T119) (g' := (mkF m 477 #[.val (.int p0), .val (.int p1), .val (.int p2), .val (.int (dA + (1 : Int32))), .val (.int (dB + (1 : Int32))), .val (.ref a3), .val (.int (1 : Int32)), .val (.int rA), .val (.int rB), .val (.int aF), .val (.int v321), .val (.int v335), .val (.int v348), .val (.int v361), .val (.int v377), .val (.int r385)] [(.int (2 : Int32)), (.ref a3)])) (fun t k => ?_) ?_
  · show Steps p.tables e below (T119.setTop (mkF m 474 #[.val (.int p0), .val (.int p1), .val (.int p2), .val (.int (dA + (1 : Int32))), .val (.int (dB + (1 : Int32))), .val (.ref a3), .val (.int (1 : Int32)), .val (.int rA), .val (.int rB), .val (.int aF), .val (.int v321), .val (.int v335), .val (.int v348), .val (.int v361), .val (.int v377), .val (.int r385)] [])) t
    refine XS.aload Y120.here hx rfl (hb hby at_474) rfl rfl ?_
    show Steps p.tables e below (T119.setTop (mkF m 476 #[.val (.int p0), .val (.int p1), .val (.int p2), .val (.int (dA + (1 : Int32))), .val (.int (dB + (1 : Int32))), .val (.ref a3), .val (.int (1 : Int32)), .val (.int rA), .val (.int rB), .val (.int aF), .val (.int v321), .val (.int v335), .val (.int v348), .val (.int v361), .val (.int v377), .val (.int r385)] [(.ref a3)])) t
    refine XS.iconst Y120.here hx rfl (hb hby at_476) ?_
    show Steps p.tables e below (T119.setTop (mkF m 477 #[.val (.int p0), .val (.int p1), .val (.int p2), .val (.int (dA + (1 : Int32))), .val (.int (dB + (1 : Int32))), .val (.ref a3), .val (.int (1 : Int32)), .val (.int rA), .val (.int rB), .val (.int aF), .val (.int v321), .val (.int v335), .val (.int v348), .val (.int v361), .val (.int v377), .val (.int r385)] [(.int (2 : Int32)), (.ref a3)])) t
    exact k
  refine On.virtual Y120 hx hZ (y := (⟨"com/example/arborplan/arborplan/tree/DisjointSets", "find", "(I)I"⟩ : MethodName)) (C := "com/example/arborplan/arborplan/tree/DisjointSets") hown (w20 hw) (w21 hw) (w22 hw) (w23 hw) (w24 hw) (w3 hw) (by decide) (a := a3) (argsL := [(.int (2 : Int32))]) (rest := []) (i := 0) rfl (rm4 l Z a0 hw n0 a3 (2 : Int32) a9 a10 q118 q101 [] (own_f82 btA btB baF erA erB hv321 hv335 hq100 hq107 hq118)) (W := 0) (by decide) (by decide) (by decide) (by decide) (g := (mkF m 477 #[.val (.int p0), .val (.int p1), .val (.int p2), .val (.int (dA + (1 : Int32))), .val (.int (dB + (1 : Int32))), .val (.ref a3), .val (.int (1 : Int32)), .val (.int rA), .val (.int rB), .val (.int aF), .val (.int v321), .val (.int v335), .val (.int v348), .val (.int v361), .val (.int v377), .val (.int r385)] [(.int (2 : Int32)), (.ref a3)])) rfl (by rw [hml]; rfl) (lenOf pd2 rfl) rfl (by show 2 * 0 + _ ≤ _; exact Nat.le_of_eq rfl) (hb hby at_477) ?_
  intro T124 u126 D127 hp128 Y125
  obtain ⟨r477, hr477, rfl, rfl⟩ : ∃ z : Int32, z = (own_fr q118 (2 : Int32)) ∧ u126 = some (.int z) ∧ D127 = _ := ⟨_, rfl, hp128.1, hp128.2⟩
  replace Y125 : On p l e _ s m _ below meth c Z n0 T124 3 14 [ob a3 own_C0 (own_F0 (.ref a9) (.ref a10)), ari a9 .int (6 : Int32) (own_fp q118 (2 : Int32)), ari a10 .int (6 : Int32) q101] := Y125
  show Rn p e below F T124 (mkF m 480 #[.val (.int p0), .val (.int p1), .val (.int p2), .val (.int (dA + (1 : Int32))), .val (.int (dB + (1 : Int32))), .val (.ref a3), .val (.int (1 : Int32)), .val (.int rA), .val (.int rB), .val (.int aF), .val (.int v321), .val (.int v335), .val (.int v348), .val (.int v361), .val (.int v377), .val (.int r385)] [(.int r477)])
  obtain ⟨q129, hq129⟩ : ∃ z : List Int32, z = (own_fp q118 (2 : Int32)) := ⟨_, rfl⟩
  rw [← hq129] at Y125
  refine Rn.go (T' := T124) (g' := (mkF m 486 #[.val (.int p0), .val (.int p1), .val (.int p2), .val (.int (dA + (1 : Int32))), .val (.int (dB + (1 : Int32))), .val (.ref a3), .val (.int (1 : Int32)), .val (.int rA), .val (.int rB), .val (.int aF), .val (.int v321), .val (.int v335), .val (.int v348), .val (.int v361), .val (.int v377), .val (.int r385)] [(.int v377), (.int (dB + (1 : Int32))), (.int (dA + (1 : Int32))), (.int (2 : Int32)), (.int r477)])) (fun t k => ?_) ?_
  · show Steps p.tables e below (T124.setTop (mkF m 480 #[.val (.int p0), .val (.int p1), .val (.int p2), .val (.int (dA + (1 : Int32))), .val (.int (dB + (1 : Int32))), .val (.ref a3), .val (.int (1 : Int32)), .val (.int rA), .val (.int rB), .val (.int aF), .val (.int v321), .val (.int v335), .val (.int v348), .val (.int v361), .val (.int v377), .val (.int r385)] [(.int r477)])) t
    refine XS.iconst Y125.here hx rfl (hb hby at_480) ?_
    show Steps p.tables e below (T124.setTop (mkF m 481 #[.val (.int p0), .val (.int p1), .val (.int p2), .val (.int (dA + (1 : Int32))), .val (.int (dB + (1 : Int32))), .val (.ref a3), .val (.int (1 : Int32)), .val (.int rA), .val (.int rB), .val (.int aF), .val (.int v321), .val (.int v335), .val (.int v348), .val (.int v361), .val (.int v377), .val (.int r385)] [(.int (2 : Int32)), (.int r477)])) t
    refine XS.iloadN Y125.here hx rfl (hb hby at_481) rfl ?_
    show Steps p.tables e below (T124.setTop (mkF m 482 #[.val (.int p0), .val (.int p1), .val (.int p2), .val (.int (dA + (1 : Int32))), .val (.int (dB + (1 : Int32))), .val (.ref a3), .val (.int (1 : Int32)), .val (.int rA), .val (.int rB), .val (.int aF), .val (.int v321), .val (.int v335), .val (.int v348), .val (.int v361), .val (.int v377), .val (.int r385)] [(.int (dA + (1 : Int32))), (.int (2 : Int32)), (.int r477)])) t
    refine XS.iload Y125.here hx rfl (hb hby at_482) rfl ?_
    show Steps p.tables e below (T124.setTop (mkF m 484 #[.val (.int p0), .val (.int p1), .val (.int p2), .val (.int (dA + (1 : Int32))), .val (.int (dB + (1 : Int32))), .val (.ref a3), .val (.int (1 : Int32)), .val (.int rA), .val (.int rB), .val (.int aF), .val (.int v321), .val (.int v335), .val (.int v348), .val (.int v361), .val (.int v377), .val (.int r385)] [(.int (dB + (1 : Int32))), (.int (dA + (1 : Int32))), (.int (2 : Int32)), (.int r477)])) t
    refine XS.iload Y125.here hx rfl (hb hby at_484) rfl ?_
    show Steps p.tables e below (T124.setTop (mkF m 486 #[.val (.int p0), .val (.int p1), .val (.int p2), .val (.int (dA + (1 : Int32))), .val (.int (dB + (1 : Int32))), .val (.ref a3), .val (.int (1 : Int32)), .val (.int rA), .val (.int rB), .val (.int aF), .val (.int v321), .val (.int v335), .val (.int v348), .val (.int v361), .val (.int v377), .val (.int r385)] [(.int v377), (.int (dB + (1 : Int32))), (.int (dA + (1 : Int32))), (.int (2 : Int32)), (.int r477)])) t
    exact k
  refine On.static Y125 hx hZ (y := (⟨"com/example/arborplan/arborplan/tree/DisjointSetsUnionPinLaw", "expectedFind", "(IIII)I"⟩ : MethodName)) hown (w25 hw) (w26 hw) (w28 hw) (w27 hw) (by decide) (argsL := [(.int (2 : Int32)), (.int (dA + (1 : Int32))), (.int (dB + (1 : Int32))), (.int v377)]) (rest := [(.int r477)]) (rm5 l Z a0 hw n0 (2 : Int32) (dA + (1 : Int32)) (dB + (1 : Int32)) v377 [ob a3 own_C0 (own_F0 (.ref a9) (.ref a10)), ari a9 .int (6 : Int32) q129, ari a10 .int (6 : Int32) q101]) (W := 1) (by decide) (by decide) (by decide) (by decide) (g := (mkF m 486 #[.val (.int p0), .val (.int p1), .val (.int p2), .val (.int (dA + (1 : Int32))), .val (.int (dB + (1 : Int32))), .val (.ref a3), .val (.int (1 : Int32)), .val (.int rA), .val (.int rB), .val (.int aF), .val (.int v321), .val (.int v335), .val (.int v348), .val (.int v361), .val (.int v377), .val (.int r385)] [(.int v377), (.int (dB + (1 : Int32))), (.int (dA + (1 : Int32))), (.int (2 : Int32)), (.int r477)])) rfl (by rw [hml]; rfl) (lenOf pd3 rfl) rfl (by show 2 * 0 + _ ≤ _; exact Nat.le_of_eq rfl) (hb hby at_486) ?_
  intro T130 u132 D133 hp134 Y131
  obtain ⟨r486, hr486, rfl, rfl⟩ : ∃ z : Int32, z = (own_ef (2 : Int32) (dA + (1 : Int32)) (dB + (1 : Int32)) v377) ∧ u132 = some (.int z) ∧ D133 = _ := ⟨_, rfl, hp134.1, hp134.2⟩
  replace Y131 : On p l e _ s m _ below meth c Z n0 T130 3 14 [ob a3 own_C0 (own_F0 (.ref a9) (.ref a10)), ari a9 .int (6 : Int32) q129, ari a10 .int (6 : Int32) q101] := Y131
  show Rn p e below F T130 (mkF m 489 #[.val (.int p0), .val (.int p1), .val (.int p2), .val (.int (dA + (1 : Int32))), .val (.int (dB + (1 : Int32))), .val (.ref a3), .val (.int (1 : Int32)), .val (.int rA), .val (.int rB), .val (.int aF), .val (.int v321), .val (.int v335), .val (.int v348), .val (.int v361), .val (.int v377), .val (.int r385)] [(.int r486), (.int r477)])
  refine Rn.go (T' := T130) (g' := (mkF m 492 #[.val (.int p0), .val (.int p1), .val (.int p2), .val (.int (dA + (1 : Int32))), .val (.int (dB + (1 : Int32))), .val (.ref a3), .val (.int (1 : Int32)), .val (.int rA), .val (.int rB), .val (.int aF), .val (.int v321), .val (.int v335), .val (.int v348), .val (.int v361), .val (.int v377), .val (.int r385)] [])) (fun t k => XS.icmpNo Y131.here hx rfl (hb hby at_489) rfl (teq (own_f83 btA btB baF eda erA edb erB hv321 hv335 hv348 hv361 hv377 hq100 hq107 hq118 hr477 hr486)).2 k) ?_
  refine Rn.go (T' := T130) (g' := (mkF m 501 #[.val (.int p0), .val (.int p1), .val (.int p2), .val (.int (dA + (1 : Int32))), .val (.int (dB + (1 : Int32))), .val (.ref a3), .val (.int (1 : Int32)), .val (.int rA), .val (.int rB), .val (.int aF), .val (.int v321), .val (.int v335), .val (.int v348), .val (.int v361), .val (.int v377), .val (.int r385)] [(.int (1 : Int32))])) (fun t k => ?_) ?_
  · show Steps p.tables e below (T130.setTop (mkF m 492 #[.val (.int p0), .val (.int p1), .val (.int p2), .val (.int (dA + (1 : Int32))), .val (.int (dB + (1 : Int32))), .val (.ref a3), .val (.int (1 : Int32)), .val (.int rA), .val (.int rB), .val (.int aF), .val (.int v321), .val (.int v335), .val (.int v348), .val (.int v361), .val (.int v377), .val (.int r385)] [])) t
    refine XS.iconst Y131.here hx rfl (hb hby at_492) ?_
    show Steps p.tables e below (T130.setTop (mkF m 493 #[.val (.int p0), .val (.int p1), .val (.int p2), .val (.int (dA + (1 : Int32))), .val (.int (dB + (1 : Int32))), .val (.ref a3), .val (.int (1 : Int32)), .val (.int rA), .val (.int rB), .val (.int aF), .val (.int v321), .val (.int v335), .val (.int v348), .val (.int v361), .val (.int v377), .val (.int r385)] [(.int (1 : Int32))])) t
    refine XS.goto Y131.here hx rfl (pc0 := 493) (pc' := 497) rfl (hb hby at_493) (by decide) (by decide) ?_
    show Steps p.tables e below (T130.setTop (mkF m 497 #[.val (.int p0), .val (.int p1), .val (.int p2), .val (.int (dA + (1 : Int32))), .val (.int (dB + (1 : Int32))), .val (.ref a3), .val (.int (1 : Int32)), .val (.int rA), .val (.int rB), .val (.int aF), .val (.int v321), .val (.int v335), .val (.int v348), .val (.int v361), .val (.int v377), .val (.int r385)] [(.int (1 : Int32))])) t
    refine XS.istore Y131.here hx rfl (hb hby at_497) rfl (l' := #[.val (.int p0), .val (.int p1), .val (.int p2), .val (.int (dA + (1 : Int32))), .val (.int (dB + (1 : Int32))), .val (.ref a3), .val (.int (1 : Int32)), .val (.int rA), .val (.int rB), .val (.int aF), .val (.int v321), .val (.int v335), .val (.int v348), .val (.int v361), .val (.int v377), .val (.int r385)]) rfl ?_
    show Steps p.tables e below (T130.setTop (mkF m 499 #[.val (.int p0), .val (.int p1), .val (.int p2), .val (.int (dA + (1 : Int32))), .val (.int (dB + (1 : Int32))), .val (.ref a3), .val (.int (1 : Int32)), .val (.int rA), .val (.int rB), .val (.int aF), .val (.int v321), .val (.int v335), .val (.int v348), .val (.int v361), .val (.int v377), .val (.int r385)] [])) t
    refine XS.iload Y131.here hx rfl (hb hby at_499) rfl ?_
    show Steps p.tables e below (T130.setTop (mkF m 501 #[.val (.int p0), .val (.int p1), .val (.int p2), .val (.int (dA + (1 : Int32))), .val (.int (dB + (1 : Int32))), .val (.ref a3), .val (.int (1 : Int32)), .val (.int rA), .val (.int rB), .val (.int aF), .val (.int v321), .val (.int v335), .val (.int v348), .val (.int v361), .val (.int v377), .val (.int r385)] [(.int (1 : Int32))])) t
    exact k
  refine Rn.go (T' := T130) (g' := (mkF m 504 #[.val (.int p0), .val (.int p1), .val (.int p2), .val (.int (dA + (1 : Int32))), .val (.int (dB + (1 : Int32))), .val (.ref a3), .val (.int (1 : Int32)), .val (.int rA), .val (.int rB), .val (.int aF), .val (.int v321), .val (.int v335), .val (.int v348), .val (.int v361), .val (.int v377), .val (.int r385)] [])) (fun t k => XS.ifNo Y131.here hx rfl (hb hby at_501) rfl ((if0 _ _).trans (feq (by decide)).1) k) ?_
  refine Rn.go (T' := T130) (g' := (mkF m 507 #[.val (.int p0), .val (.int p1), .val (.int p2), .val (.int (dA + (1 : Int32))), .val (.int (dB + (1 : Int32))), .val (.ref a3), .val (.int (1 : Int32)), .val (.int rA), .val (.int rB), .val (.int aF), .val (.int v321), .val (.int v335), .val (.int v348), .val (.int v361), .val (.int v377), .val (.int r385)] [(.int (3 : Int32)), (.ref a3)])) (fun t k => ?_) ?_
  · show Steps p.tables e below (T130.setTop (mkF m 504 #[.val (.int p0), .val (.int p1), .val (.int p2), .val (.int (dA + (1 : Int32))), .val (.int (dB + (1 : Int32))), .val (.ref a3), .val (.int (1 : Int32)), .val (.int rA), .val (.int rB), .val (.int aF), .val (.int v321), .val (.int v335), .val (.int v348), .val (.int v361), .val (.int v377), .val (.int r385)] [])) t
    refine XS.aload Y131.here hx rfl (hb hby at_504) rfl rfl ?_
    show Steps p.tables e below (T130.setTop (mkF m 506 #[.val (.int p0), .val (.int p1), .val (.int p2), .val (.int (dA + (1 : Int32))), .val (.int (dB + (1 : Int32))), .val (.ref a3), .val (.int (1 : Int32)), .val (.int rA), .val (.int rB), .val (.int aF), .val (.int v321), .val (.int v335), .val (.int v348), .val (.int v361), .val (.int v377), .val (.int r385)] [(.ref a3)])) t
    refine XS.iconst Y131.here hx rfl (hb hby at_506) ?_
    show Steps p.tables e below (T130.setTop (mkF m 507 #[.val (.int p0), .val (.int p1), .val (.int p2), .val (.int (dA + (1 : Int32))), .val (.int (dB + (1 : Int32))), .val (.ref a3), .val (.int (1 : Int32)), .val (.int rA), .val (.int rB), .val (.int aF), .val (.int v321), .val (.int v335), .val (.int v348), .val (.int v361), .val (.int v377), .val (.int r385)] [(.int (3 : Int32)), (.ref a3)])) t
    exact k
  refine On.virtual Y131 hx hZ (y := (⟨"com/example/arborplan/arborplan/tree/DisjointSets", "find", "(I)I"⟩ : MethodName)) (C := "com/example/arborplan/arborplan/tree/DisjointSets") hown (w20 hw) (w21 hw) (w22 hw) (w23 hw) (w24 hw) (w3 hw) (by decide) (a := a3) (argsL := [(.int (3 : Int32))]) (rest := []) (i := 0) rfl (rm4 l Z a0 hw n0 a3 (3 : Int32) a9 a10 q129 q101 [] (own_f84 btA btB baF erA erB hv321 hv335 hq100 hq107 hq118 hq129)) (W := 0) (by decide) (by decide) (by decide) (by decide) (g := (mkF m 507 #[.val (.int p0), .val (.int p1), .val (.int p2), .val (.int (dA + (1 : Int32))), .val (.int (dB + (1 : Int32))), .val (.ref a3), .val (.int (1 : Int32)), .val (.int rA), .val (.int rB), .val (.int aF), .val (.int v321), .val (.int v335), .val (.int v348), .val (.int v361), .val (.int v377), .val (.int r385)] [(.int (3 : Int32)), (.ref a3)])) rfl (by rw [hml]; rfl) (lenOf pd2 rfl) rfl (by show 2 * 0 + _ ≤ _; exact Nat.le_of_eq rfl) (hb hby at_507) ?_
  intro T135 u137 D138 hp139 Y136
  obtain ⟨r507, hr507, rfl, rfl⟩ : ∃ z : Int32, z = (own_fr q129 (3 : Int32)) ∧ u137 = some (.int z) ∧ D138 = _ := ⟨_, rfl, hp139.1, hp139.2⟩
  replace Y136 : On p l e _ s m _ below meth c Z n0 T135 3 14 [ob a3 own_C0 (own_F0 (.ref a9) (.ref a10)), ari a9 .int (6 : Int32) (own_fp q129 (3 : Int32)), ari a10 .int (6 : Int32) q101] := Y136
  show Rn p e below F T135 (mkF m 510 #[.val (.int p0), .val (.int p1), .val (.int p2), .val (.int (dA + (1 : Int32))), .val (.int (dB + (1 : Int32))), .val (.ref a3), .val (.int (1 : Int32)), .val (.int rA), .val (.int rB), .val (.int aF), .val (.int v321), .val (.int v335), .val (.int v348), .val (.int v361), .val (.int v377), .val (.int r385)] [(.int r507)])
  obtain ⟨q140, hq140⟩ : ∃ z : List Int32, z = (own_fp q129 (3 : Int32)) := ⟨_, rfl⟩
  rw [← hq140] at Y136
  refine Rn.go (T' := T135) (g' := (mkF m 516 #[.val (.int p0), .val (.int p1), .val (.int p2), .val (.int (dA + (1 : Int32))), .val (.int (dB + (1 : Int32))), .val (.ref a3), .val (.int (1 : Int32)), .val (.int rA), .val (.int rB), .val (.int aF), .val (.int v321), .val (.int v335), .val (.int v348), .val (.int v361), .val (.int v377), .val (.int r385)] [(.int v377), (.int (dB + (1 : Int32))), (.int (dA + (1 : Int32))), (.int (3 : Int32)), (.int r507)])) (fun t k => ?_) ?_
  · show Steps p.tables e below (T135.setTop (mkF m 510 #[.val (.int p0), .val (.int p1), .val (.int p2), .val (.int (dA + (1 : Int32))), .val (.int (dB + (1 : Int32))), .val (.ref a3), .val (.int (1 : Int32)), .val (.int rA), .val (.int rB), .val (.int aF), .val (.int v321), .val (.int v335), .val (.int v348), .val (.int v361), .val (.int v377), .val (.int r385)] [(.int r507)])) t
    refine XS.iconst Y136.here hx rfl (hb hby at_510) ?_
    show Steps p.tables e below (T135.setTop (mkF m 511 #[.val (.int p0), .val (.int p1), .val (.int p2), .val (.int (dA + (1 : Int32))), .val (.int (dB + (1 : Int32))), .val (.ref a3), .val (.int (1 : Int32)), .val (.int rA), .val (.int rB), .val (.int aF), .val (.int v321), .val (.int v335), .val (.int v348), .val (.int v361), .val (.int v377), .val (.int r385)] [(.int (3 : Int32)), (.int r507)])) t
    refine XS.iloadN Y136.here hx rfl (hb hby at_511) rfl ?_
    show Steps p.tables e below (T135.setTop (mkF m 512 #[.val (.int p0), .val (.int p1), .val (.int p2), .val (.int (dA + (1 : Int32))), .val (.int (dB + (1 : Int32))), .val (.ref a3), .val (.int (1 : Int32)), .val (.int rA), .val (.int rB), .val (.int aF), .val (.int v321), .val (.int v335), .val (.int v348), .val (.int v361), .val (.int v377), .val (.int r385)] [(.int (dA + (1 : Int32))), (.int (3 : Int32)), (.int r507)])) t
    refine XS.iload Y136.here hx rfl (hb hby at_512) rfl ?_
    show Steps p.tables e below (T135.setTop (mkF m 514 #[.val (.int p0), .val (.int p1), .val (.int p2), .val (.int (dA + (1 : Int32))), .val (.int (dB + (1 : Int32))), .val (.ref a3), .val (.int (1 : Int32)), .val (.int rA), .val (.int rB), .val (.int aF), .val (.int v321), .val (.int v335), .val (.int v348), .val (.int v361), .val (.int v377), .val (.int r385)] [(.int (dB + (1 : Int32))), (.int (dA + (1 : Int32))), (.int (3 : Int32)), (.int r507)])) t
    refine XS.iload Y136.here hx rfl (hb hby at_514) rfl ?_
    show Steps p.tables e below (T135.setTop (mkF m 516 #[.val (.int p0), .val (.int p1), .val (.int p2), .val (.int (dA + (1 : Int32))), .val (.int (dB + (1 : Int32))), .val (.ref a3), .val (.int (1 : Int32)), .val (.int rA), .val (.int rB), .val (.int aF), .val (.int v321), .val (.int v335), .val (.int v348), .val (.int v361), .val (.int v377), .val (.int r385)] [(.int v377), (.int (dB + (1 : Int32))), (.int (dA + (1 : Int32))), (.int (3 : Int32)), (.int r507)])) t
    exact k
  refine On.static Y136 hx hZ (y := (⟨"com/example/arborplan/arborplan/tree/DisjointSetsUnionPinLaw", "expectedFind", "(IIII)I"⟩ : MethodName)) hown (w25 hw) (w26 hw) (w28 hw) (w27 hw) (by decide) (argsL := [(.int (3 : Int32)), (.int (dA + (1 : Int32))), (.int (dB + (1 : Int32))), (.int v377)]) (rest := [(.int r507)]) (rm5 l Z a0 hw n0 (3 : Int32) (dA + (1 : Int32)) (dB + (1 : Int32)) v377 [ob a3 own_C0 (own_F0 (.ref a9) (.ref a10)), ari a9 .int (6 : Int32) q140, ari a10 .int (6 : Int32) q101]) (W := 1) (by decide) (by decide) (by decide) (by decide) (g := (mkF m 516 #[.val (.int p0), .val (.int p1), .val (.int p2), .val (.int (dA + (1 : Int32))), .val (.int (dB + (1 : Int32))), .val (.ref a3), .val (.int (1 : Int32)), .val (.int rA), .val (.int rB), .val (.int aF), .val (.int v321), .val (.int v335), .val (.int v348), .val (.int v361), .val (.int v377), .val (.int r385)] [(.int v377), (.int (dB + (1 : Int32))), (.int (dA + (1 : Int32))), (.int (3 : Int32)), (.int r507)])) rfl (by rw [hml]; rfl) (lenOf pd3 rfl) rfl (by show 2 * 0 + _ ≤ _; exact Nat.le_of_eq rfl) (hb hby at_516) ?_
  intro T141 u143 D144 hp145 Y142
  obtain ⟨r516, hr516, rfl, rfl⟩ : ∃ z : Int32, z = (own_ef (3 : Int32) (dA + (1 : Int32)) (dB + (1 : Int32)) v377) ∧ u143 = some (.int z) ∧ D144 = _ := ⟨_, rfl, hp145.1, hp145.2⟩
  replace Y142 : On p l e _ s m _ below meth c Z n0 T141 3 14 [ob a3 own_C0 (own_F0 (.ref a9) (.ref a10)), ari a9 .int (6 : Int32) q140, ari a10 .int (6 : Int32) q101] := Y142
  show Rn p e below F T141 (mkF m 519 #[.val (.int p0), .val (.int p1), .val (.int p2), .val (.int (dA + (1 : Int32))), .val (.int (dB + (1 : Int32))), .val (.ref a3), .val (.int (1 : Int32)), .val (.int rA), .val (.int rB), .val (.int aF), .val (.int v321), .val (.int v335), .val (.int v348), .val (.int v361), .val (.int v377), .val (.int r385)] [(.int r516), (.int r507)])
  refine Rn.go (T' := T141) (g' := (mkF m 522 #[.val (.int p0), .val (.int p1), .val (.int p2), .val (.int (dA + (1 : Int32))), .val (.int (dB + (1 : Int32))), .val (.ref a3), .val (.int (1 : Int32)), .val (.int rA), .val (.int rB), .val (.int aF), .val (.int v321), .val (.int v335), .val (.int v348), .val (.int v361), .val (.int v377), .val (.int r385)] [])) (fun t k => XS.icmpNo Y142.here hx rfl (hb hby at_519) rfl (teq (own_f85 btA btB baF eda erA edb erB hv321 hv335 hv348 hv361 hv377 hq100 hq107 hq118 hq129 hr507 hr516)).2 k) ?_
  refine Rn.go (T' := T141) (g' := (mkF m 531 #[.val (.int p0), .val (.int p1), .val (.int p2), .val (.int (dA + (1 : Int32))), .val (.int (dB + (1 : Int32))), .val (.ref a3), .val (.int (1 : Int32)), .val (.int rA), .val (.int rB), .val (.int aF), .val (.int v321), .val (.int v335), .val (.int v348), .val (.int v361), .val (.int v377), .val (.int r385)] [(.int (1 : Int32))])) (fun t k => ?_) ?_
  · show Steps p.tables e below (T141.setTop (mkF m 522 #[.val (.int p0), .val (.int p1), .val (.int p2), .val (.int (dA + (1 : Int32))), .val (.int (dB + (1 : Int32))), .val (.ref a3), .val (.int (1 : Int32)), .val (.int rA), .val (.int rB), .val (.int aF), .val (.int v321), .val (.int v335), .val (.int v348), .val (.int v361), .val (.int v377), .val (.int r385)] [])) t
    refine XS.iconst Y142.here hx rfl (hb hby at_522) ?_
    show Steps p.tables e below (T141.setTop (mkF m 523 #[.val (.int p0), .val (.int p1), .val (.int p2), .val (.int (dA + (1 : Int32))), .val (.int (dB + (1 : Int32))), .val (.ref a3), .val (.int (1 : Int32)), .val (.int rA), .val (.int rB), .val (.int aF), .val (.int v321), .val (.int v335), .val (.int v348), .val (.int v361), .val (.int v377), .val (.int r385)] [(.int (1 : Int32))])) t
    refine XS.goto Y142.here hx rfl (pc0 := 523) (pc' := 527) rfl (hb hby at_523) (by decide) (by decide) ?_
    show Steps p.tables e below (T141.setTop (mkF m 527 #[.val (.int p0), .val (.int p1), .val (.int p2), .val (.int (dA + (1 : Int32))), .val (.int (dB + (1 : Int32))), .val (.ref a3), .val (.int (1 : Int32)), .val (.int rA), .val (.int rB), .val (.int aF), .val (.int v321), .val (.int v335), .val (.int v348), .val (.int v361), .val (.int v377), .val (.int r385)] [(.int (1 : Int32))])) t
    refine XS.istore Y142.here hx rfl (hb hby at_527) rfl (l' := #[.val (.int p0), .val (.int p1), .val (.int p2), .val (.int (dA + (1 : Int32))), .val (.int (dB + (1 : Int32))), .val (.ref a3), .val (.int (1 : Int32)), .val (.int rA), .val (.int rB), .val (.int aF), .val (.int v321), .val (.int v335), .val (.int v348), .val (.int v361), .val (.int v377), .val (.int r385)]) rfl ?_
    show Steps p.tables e below (T141.setTop (mkF m 529 #[.val (.int p0), .val (.int p1), .val (.int p2), .val (.int (dA + (1 : Int32))), .val (.int (dB + (1 : Int32))), .val (.ref a3), .val (.int (1 : Int32)), .val (.int rA), .val (.int rB), .val (.int aF), .val (.int v321), .val (.int v335), .val (.int v348), .val (.int v361), .val (.int v377), .val (.int r385)] [])) t
    refine XS.iload Y142.here hx rfl (hb hby at_529) rfl ?_
    show Steps p.tables e below (T141.setTop (mkF m 531 #[.val (.int p0), .val (.int p1), .val (.int p2), .val (.int (dA + (1 : Int32))), .val (.int (dB + (1 : Int32))), .val (.ref a3), .val (.int (1 : Int32)), .val (.int rA), .val (.int rB), .val (.int aF), .val (.int v321), .val (.int v335), .val (.int v348), .val (.int v361), .val (.int v377), .val (.int r385)] [(.int (1 : Int32))])) t
    exact k
  refine Rn.go (T' := T141) (g' := (mkF m 534 #[.val (.int p0), .val (.int p1), .val (.int p2), .val (.int (dA + (1 : Int32))), .val (.int (dB + (1 : Int32))), .val (.ref a3), .val (.int (1 : Int32)), .val (.int rA), .val (.int rB), .val (.int aF), .val (.int v321), .val (.int v335), .val (.int v348), .val (.int v361), .val (.int v377), .val (.int r385)] [])) (fun t k => XS.ifNo Y142.here hx rfl (hb hby at_531) rfl ((if0 _ _).trans (feq (by decide)).1) k) ?_
  refine Rn.go (T' := T141) (g' := (mkF m 537 #[.val (.int p0), .val (.int p1), .val (.int p2), .val (.int (dA + (1 : Int32))), .val (.int (dB + (1 : Int32))), .val (.ref a3), .val (.int (1 : Int32)), .val (.int rA), .val (.int rB), .val (.int aF), .val (.int v321), .val (.int v335), .val (.int v348), .val (.int v361), .val (.int v377), .val (.int r385)] [(.int (4 : Int32)), (.ref a3)])) (fun t k => ?_) ?_
  · show Steps p.tables e below (T141.setTop (mkF m 534 #[.val (.int p0), .val (.int p1), .val (.int p2), .val (.int (dA + (1 : Int32))), .val (.int (dB + (1 : Int32))), .val (.ref a3), .val (.int (1 : Int32)), .val (.int rA), .val (.int rB), .val (.int aF), .val (.int v321), .val (.int v335), .val (.int v348), .val (.int v361), .val (.int v377), .val (.int r385)] [])) t
    refine XS.aload Y142.here hx rfl (hb hby at_534) rfl rfl ?_
    show Steps p.tables e below (T141.setTop (mkF m 536 #[.val (.int p0), .val (.int p1), .val (.int p2), .val (.int (dA + (1 : Int32))), .val (.int (dB + (1 : Int32))), .val (.ref a3), .val (.int (1 : Int32)), .val (.int rA), .val (.int rB), .val (.int aF), .val (.int v321), .val (.int v335), .val (.int v348), .val (.int v361), .val (.int v377), .val (.int r385)] [(.ref a3)])) t
    refine XS.iconst Y142.here hx rfl (hb hby at_536) ?_
    show Steps p.tables e below (T141.setTop (mkF m 537 #[.val (.int p0), .val (.int p1), .val (.int p2), .val (.int (dA + (1 : Int32))), .val (.int (dB + (1 : Int32))), .val (.ref a3), .val (.int (1 : Int32)), .val (.int rA), .val (.int rB), .val (.int aF), .val (.int v321), .val (.int v335), .val (.int v348), .val (.int v361), .val (.int v377), .val (.int r385)] [(.int (4 : Int32)), (.ref a3)])) t
    exact k
  refine On.virtual Y142 hx hZ (y := (⟨"com/example/arborplan/arborplan/tree/DisjointSets", "find", "(I)I"⟩ : MethodName)) (C := "com/example/arborplan/arborplan/tree/DisjointSets") hown (w20 hw) (w21 hw) (w22 hw) (w23 hw) (w24 hw) (w3 hw) (by decide) (a := a3) (argsL := [(.int (4 : Int32))]) (rest := []) (i := 0) rfl (rm4 l Z a0 hw n0 a3 (4 : Int32) a9 a10 q140 q101 [] (own_f86 btA btB baF erA erB hv321 hv335 hq100 hq107 hq118 hq129 hq140)) (W := 0) (by decide) (by decide) (by decide) (by decide) (g := (mkF m 537 #[.val (.int p0), .val (.int p1), .val (.int p2), .val (.int (dA + (1 : Int32))), .val (.int (dB + (1 : Int32))), .val (.ref a3), .val (.int (1 : Int32)), .val (.int rA), .val (.int rB), .val (.int aF), .val (.int v321), .val (.int v335), .val (.int v348), .val (.int v361), .val (.int v377), .val (.int r385)] [(.int (4 : Int32)), (.ref a3)])) rfl (by rw [hml]; rfl) (lenOf pd2 rfl) rfl (by show 2 * 0 + _ ≤ _; exact Nat.le_of_eq rfl) (hb hby at_537) ?_
  intro T146 u148 D149 hp150 Y147
  obtain ⟨r537, hr537, rfl, rfl⟩ : ∃ z : Int32, z = (own_fr q140 (4 : Int32)) ∧ u148 = some (.int z) ∧ D149 = _ := ⟨_, rfl, hp150.1, hp150.2⟩
  replace Y147 : On p l e _ s m _ below meth c Z n0 T146 3 14 [ob a3 own_C0 (own_F0 (.ref a9) (.ref a10)), ari a9 .int (6 : Int32) (own_fp q140 (4 : Int32)), ari a10 .int (6 : Int32) q101] := Y147
  show Rn p e below F T146 (mkF m 540 #[.val (.int p0), .val (.int p1), .val (.int p2), .val (.int (dA + (1 : Int32))), .val (.int (dB + (1 : Int32))), .val (.ref a3), .val (.int (1 : Int32)), .val (.int rA), .val (.int rB), .val (.int aF), .val (.int v321), .val (.int v335), .val (.int v348), .val (.int v361), .val (.int v377), .val (.int r385)] [(.int r537)])
  obtain ⟨q151, hq151⟩ : ∃ z : List Int32, z = (own_fp q140 (4 : Int32)) := ⟨_, rfl⟩
  rw [← hq151] at Y147
  refine Rn.go (T' := T146) (g' := (mkF m 546 #[.val (.int p0), .val (.int p1), .val (.int p2), .val (.int (dA + (1 : Int32))), .val (.int (dB + (1 : Int32))), .val (.ref a3), .val (.int (1 : Int32)), .val (.int rA), .val (.int rB), .val (.int aF), .val (.int v321), .val (.int v335), .val (.int v348), .val (.int v361), .val (.int v377), .val (.int r385)] [(.int v377), (.int (dB + (1 : Int32))), (.int (dA + (1 : Int32))), (.int (4 : Int32)), (.int r537)])) (fun t k => ?_) ?_
  · show Steps p.tables e below (T146.setTop (mkF m 540 #[.val (.int p0), .val (.int p1), .val (.int p2), .val (.int (dA + (1 : Int32))), .val (.int (dB + (1 : Int32))), .val (.ref a3), .val (.int (1 : Int32)), .val (.int rA), .val (.int rB), .val (.int aF), .val (.int v321), .val (.int v335), .val (.int v348), .val (.int v361), .val (.int v377), .val (.int r385)] [(.int r537)])) t
    refine XS.iconst Y147.here hx rfl (hb hby at_540) ?_
    show Steps p.tables e below (T146.setTop (mkF m 541 #[.val (.int p0), .val (.int p1), .val (.int p2), .val (.int (dA + (1 : Int32))), .val (.int (dB + (1 : Int32))), .val (.ref a3), .val (.int (1 : Int32)), .val (.int rA), .val (.int rB), .val (.int aF), .val (.int v321), .val (.int v335), .val (.int v348), .val (.int v361), .val (.int v377), .val (.int r385)] [(.int (4 : Int32)), (.int r537)])) t
    refine XS.iloadN Y147.here hx rfl (hb hby at_541) rfl ?_
    show Steps p.tables e below (T146.setTop (mkF m 542 #[.val (.int p0), .val (.int p1), .val (.int p2), .val (.int (dA + (1 : Int32))), .val (.int (dB + (1 : Int32))), .val (.ref a3), .val (.int (1 : Int32)), .val (.int rA), .val (.int rB), .val (.int aF), .val (.int v321), .val (.int v335), .val (.int v348), .val (.int v361), .val (.int v377), .val (.int r385)] [(.int (dA + (1 : Int32))), (.int (4 : Int32)), (.int r537)])) t
    refine XS.iload Y147.here hx rfl (hb hby at_542) rfl ?_
    show Steps p.tables e below (T146.setTop (mkF m 544 #[.val (.int p0), .val (.int p1), .val (.int p2), .val (.int (dA + (1 : Int32))), .val (.int (dB + (1 : Int32))), .val (.ref a3), .val (.int (1 : Int32)), .val (.int rA), .val (.int rB), .val (.int aF), .val (.int v321), .val (.int v335), .val (.int v348), .val (.int v361), .val (.int v377), .val (.int r385)] [(.int (dB + (1 : Int32))), (.int (dA + (1 : Int32))), (.int (4 : Int32)), (.int r537)])) t
    refine XS.iload Y147.here hx rfl (hb hby at_544) rfl ?_
    show Steps p.tables e below (T146.setTop (mkF m 546 #[.val (.int p0), .val (.int p1), .val (.int p2), .val (.int (dA + (1 : Int32))), .val (.int (dB + (1 : Int32))), .val (.ref a3), .val (.int (1 : Int32)), .val (.int rA), .val (.int rB), .val (.int aF), .val (.int v321), .val (.int v335), .val (.int v348), .val (.int v361), .val (.int v377), .val (.int r385)] [(.int v377), (.int (dB + (1 : Int32))), (.int (dA + (1 : Int32))), (.int (4 : Int32)), (.int r537)])) t
    exact k
  refine On.static Y147 hx hZ (y := (⟨"com/example/arborplan/arborplan/tree/DisjointSetsUnionPinLaw", "expectedFind", "(IIII)I"⟩ : MethodName)) hown (w25 hw) (w26 hw) (w28 hw) (w27 hw) (by decide) (argsL := [(.int (4 : Int32)), (.int (dA + (1 : Int32))), (.int (dB + (1 : Int32))), (.int v377)]) (rest := [(.int r537)]) (rm5 l Z a0 hw n0 (4 : Int32) (dA + (1 : Int32)) (dB + (1 : Int32)) v377 [ob a3 own_C0 (own_F0 (.ref a9) (.ref a10)), ari a9 .int (6 : Int32) q151, ari a10 .int (6 : Int32) q101]) (W := 1) (by decide) (by decide) (by decide) (by decide) (g := (mkF m 546 #[.val (.int p0), .val (.int p1), .val (.int p2), .val (.int (dA + (1 : Int32))), .val (.int (dB + (1 : Int32))), .val (.ref a3), .val (.int (1 : Int32)), .val (.int rA), .val (.int rB), .val (.int aF), .val (.int v321), .val (.int v335), .val (.int v348), .val (.int v361), .val (.int v377), .val (.int r385)] [(.int v377), (.int (dB + (1 : Int32))), (.int (dA + (1 : Int32))), (.int (4 : Int32)), (.int r537)])) rfl (by rw [hml]; rfl) (lenOf pd3 rfl) rfl (by show 2 * 0 + _ ≤ _; exact Nat.le_of_eq rfl) (hb hby at_546) ?_
  intro T152 u154 D155 hp156 Y153
  obtain ⟨r546, hr546, rfl, rfl⟩ : ∃ z : Int32, z = (own_ef (4 : Int32) (dA + (1 : Int32)) (dB + (1 : Int32)) v377) ∧ u154 = some (.int z) ∧ D155 = _ := ⟨_, rfl, hp156.1, hp156.2⟩
  replace Y153 : On p l e _ s m _ below meth c Z n0 T152 3 14 [ob a3 own_C0 (own_F0 (.ref a9) (.ref a10)), ari a9 .int (6 : Int32) q151, ari a10 .int (6 : Int32) q101] := Y153
  show Rn p e below F T152 (mkF m 549 #[.val (.int p0), .val (.int p1), .val (.int p2), .val (.int (dA + (1 : Int32))), .val (.int (dB + (1 : Int32))), .val (.ref a3), .val (.int (1 : Int32)), .val (.int rA), .val (.int rB), .val (.int aF), .val (.int v321), .val (.int v335), .val (.int v348), .val (.int v361), .val (.int v377), .val (.int r385)] [(.int r546), (.int r537)])
  refine Rn.go (T' := T152) (g' := (mkF m 552 #[.val (.int p0), .val (.int p1), .val (.int p2), .val (.int (dA + (1 : Int32))), .val (.int (dB + (1 : Int32))), .val (.ref a3), .val (.int (1 : Int32)), .val (.int rA), .val (.int rB), .val (.int aF), .val (.int v321), .val (.int v335), .val (.int v348), .val (.int v361), .val (.int v377), .val (.int r385)] [])) (fun t k => XS.icmpNo Y153.here hx rfl (hb hby at_549) rfl (teq (own_f87 btA btB baF eda erA edb erB hv321 hv335 hv348 hv361 hv377 hq100 hq107 hq118 hq129 hq140 hr537 hr546)).2 k) ?_
  refine Rn.go (T' := T152) (g' := (mkF m 561 #[.val (.int p0), .val (.int p1), .val (.int p2), .val (.int (dA + (1 : Int32))), .val (.int (dB + (1 : Int32))), .val (.ref a3), .val (.int (1 : Int32)), .val (.int rA), .val (.int rB), .val (.int aF), .val (.int v321), .val (.int v335), .val (.int v348), .val (.int v361), .val (.int v377), .val (.int r385)] [(.int (1 : Int32))])) (fun t k => ?_) ?_
  · show Steps p.tables e below (T152.setTop (mkF m 552 #[.val (.int p0), .val (.int p1), .val (.int p2), .val (.int (dA + (1 : Int32))), .val (.int (dB + (1 : Int32))), .val (.ref a3), .val (.int (1 : Int32)), .val (.int rA), .val (.int rB), .val (.int aF), .val (.int v321), .val (.int v335), .val (.int v348), .val (.int v361), .val (.int v377), .val (.int r385)] [])) t
    refine XS.iconst Y153.here hx rfl (hb hby at_552) ?_
    show Steps p.tables e below (T152.setTop (mkF m 553 #[.val (.int p0), .val (.int p1), .val (.int p2), .val (.int (dA + (1 : Int32))), .val (.int (dB + (1 : Int32))), .val (.ref a3), .val (.int (1 : Int32)), .val (.int rA), .val (.int rB), .val (.int aF), .val (.int v321), .val (.int v335), .val (.int v348), .val (.int v361), .val (.int v377), .val (.int r385)] [(.int (1 : Int32))])) t
    refine XS.goto Y153.here hx rfl (pc0 := 553) (pc' := 557) rfl (hb hby at_553) (by decide) (by decide) ?_
    show Steps p.tables e below (T152.setTop (mkF m 557 #[.val (.int p0), .val (.int p1), .val (.int p2), .val (.int (dA + (1 : Int32))), .val (.int (dB + (1 : Int32))), .val (.ref a3), .val (.int (1 : Int32)), .val (.int rA), .val (.int rB), .val (.int aF), .val (.int v321), .val (.int v335), .val (.int v348), .val (.int v361), .val (.int v377), .val (.int r385)] [(.int (1 : Int32))])) t
    refine XS.istore Y153.here hx rfl (hb hby at_557) rfl (l' := #[.val (.int p0), .val (.int p1), .val (.int p2), .val (.int (dA + (1 : Int32))), .val (.int (dB + (1 : Int32))), .val (.ref a3), .val (.int (1 : Int32)), .val (.int rA), .val (.int rB), .val (.int aF), .val (.int v321), .val (.int v335), .val (.int v348), .val (.int v361), .val (.int v377), .val (.int r385)]) rfl ?_
    show Steps p.tables e below (T152.setTop (mkF m 559 #[.val (.int p0), .val (.int p1), .val (.int p2), .val (.int (dA + (1 : Int32))), .val (.int (dB + (1 : Int32))), .val (.ref a3), .val (.int (1 : Int32)), .val (.int rA), .val (.int rB), .val (.int aF), .val (.int v321), .val (.int v335), .val (.int v348), .val (.int v361), .val (.int v377), .val (.int r385)] [])) t
    refine XS.iload Y153.here hx rfl (hb hby at_559) rfl ?_
    show Steps p.tables e below (T152.setTop (mkF m 561 #[.val (.int p0), .val (.int p1), .val (.int p2), .val (.int (dA + (1 : Int32))), .val (.int (dB + (1 : Int32))), .val (.ref a3), .val (.int (1 : Int32)), .val (.int rA), .val (.int rB), .val (.int aF), .val (.int v321), .val (.int v335), .val (.int v348), .val (.int v361), .val (.int v377), .val (.int r385)] [(.int (1 : Int32))])) t
    exact k
  refine Rn.go (T' := T152) (g' := (mkF m 564 #[.val (.int p0), .val (.int p1), .val (.int p2), .val (.int (dA + (1 : Int32))), .val (.int (dB + (1 : Int32))), .val (.ref a3), .val (.int (1 : Int32)), .val (.int rA), .val (.int rB), .val (.int aF), .val (.int v321), .val (.int v335), .val (.int v348), .val (.int v361), .val (.int v377), .val (.int r385)] [])) (fun t k => XS.ifNo Y153.here hx rfl (hb hby at_561) rfl ((if0 _ _).trans (feq (by decide)).1) k) ?_
  refine Rn.go (T' := T152) (g' := (mkF m 567 #[.val (.int p0), .val (.int p1), .val (.int p2), .val (.int (dA + (1 : Int32))), .val (.int (dB + (1 : Int32))), .val (.ref a3), .val (.int (1 : Int32)), .val (.int rA), .val (.int rB), .val (.int aF), .val (.int v321), .val (.int v335), .val (.int v348), .val (.int v361), .val (.int v377), .val (.int r385)] [(.int (5 : Int32)), (.ref a3)])) (fun t k => ?_) ?_
  · show Steps p.tables e below (T152.setTop (mkF m 564 #[.val (.int p0), .val (.int p1), .val (.int p2), .val (.int (dA + (1 : Int32))), .val (.int (dB + (1 : Int32))), .val (.ref a3), .val (.int (1 : Int32)), .val (.int rA), .val (.int rB), .val (.int aF), .val (.int v321), .val (.int v335), .val (.int v348), .val (.int v361), .val (.int v377), .val (.int r385)] [])) t
    refine XS.aload Y153.here hx rfl (hb hby at_564) rfl rfl ?_
    show Steps p.tables e below (T152.setTop (mkF m 566 #[.val (.int p0), .val (.int p1), .val (.int p2), .val (.int (dA + (1 : Int32))), .val (.int (dB + (1 : Int32))), .val (.ref a3), .val (.int (1 : Int32)), .val (.int rA), .val (.int rB), .val (.int aF), .val (.int v321), .val (.int v335), .val (.int v348), .val (.int v361), .val (.int v377), .val (.int r385)] [(.ref a3)])) t
    refine XS.iconst Y153.here hx rfl (hb hby at_566) ?_
    show Steps p.tables e below (T152.setTop (mkF m 567 #[.val (.int p0), .val (.int p1), .val (.int p2), .val (.int (dA + (1 : Int32))), .val (.int (dB + (1 : Int32))), .val (.ref a3), .val (.int (1 : Int32)), .val (.int rA), .val (.int rB), .val (.int aF), .val (.int v321), .val (.int v335), .val (.int v348), .val (.int v361), .val (.int v377), .val (.int r385)] [(.int (5 : Int32)), (.ref a3)])) t
    exact k
  refine On.virtual Y153 hx hZ (y := (⟨"com/example/arborplan/arborplan/tree/DisjointSets", "find", "(I)I"⟩ : MethodName)) (C := "com/example/arborplan/arborplan/tree/DisjointSets") hown (w20 hw) (w21 hw) (w22 hw) (w23 hw) (w24 hw) (w3 hw) (by decide) (a := a3) (argsL := [(.int (5 : Int32))]) (rest := []) (i := 0) rfl (rm4 l Z a0 hw n0 a3 (5 : Int32) a9 a10 q151 q101 [] (own_f88 btA btB baF erA erB hv321 hv335 hq100 hq107 hq118 hq129 hq140 hq151)) (W := 0) (by decide) (by decide) (by decide) (by decide) (g := (mkF m 567 #[.val (.int p0), .val (.int p1), .val (.int p2), .val (.int (dA + (1 : Int32))), .val (.int (dB + (1 : Int32))), .val (.ref a3), .val (.int (1 : Int32)), .val (.int rA), .val (.int rB), .val (.int aF), .val (.int v321), .val (.int v335), .val (.int v348), .val (.int v361), .val (.int v377), .val (.int r385)] [(.int (5 : Int32)), (.ref a3)])) rfl (by rw [hml]; rfl) (lenOf pd2 rfl) rfl (by show 2 * 0 + _ ≤ _; exact Nat.le_of_eq rfl) (hb hby at_567) ?_
  intro T157 u159 D160 hp161 Y158
  obtain ⟨r567, hr567, rfl, rfl⟩ : ∃ z : Int32, z = (own_fr q151 (5 : Int32)) ∧ u159 = some (.int z) ∧ D160 = _ := ⟨_, rfl, hp161.1, hp161.2⟩
  replace Y158 : On p l e _ s m _ below meth c Z n0 T157 3 14 [ob a3 own_C0 (own_F0 (.ref a9) (.ref a10)), ari a9 .int (6 : Int32) (own_fp q151 (5 : Int32)), ari a10 .int (6 : Int32) q101] := Y158
  show Rn p e below F T157 (mkF m 570 #[.val (.int p0), .val (.int p1), .val (.int p2), .val (.int (dA + (1 : Int32))), .val (.int (dB + (1 : Int32))), .val (.ref a3), .val (.int (1 : Int32)), .val (.int rA), .val (.int rB), .val (.int aF), .val (.int v321), .val (.int v335), .val (.int v348), .val (.int v361), .val (.int v377), .val (.int r385)] [(.int r567)])
  obtain ⟨q162, hq162⟩ : ∃ z : List Int32, z = (own_fp q151 (5 : Int32)) := ⟨_, rfl⟩
  rw [← hq162] at Y158
  refine Rn.go (T' := T157) (g' := (mkF m 576 #[.val (.int p0), .val (.int p1), .val (.int p2), .val (.int (dA + (1 : Int32))), .val (.int (dB + (1 : Int32))), .val (.ref a3), .val (.int (1 : Int32)), .val (.int rA), .val (.int rB), .val (.int aF), .val (.int v321), .val (.int v335), .val (.int v348), .val (.int v361), .val (.int v377), .val (.int r385)] [(.int v377), (.int (dB + (1 : Int32))), (.int (dA + (1 : Int32))), (.int (5 : Int32)), (.int r567)])) (fun t k => ?_) ?_
  · show Steps p.tables e below (T157.setTop (mkF m 570 #[.val (.int p0), .val (.int p1), .val (.int p2), .val (.int (dA + (1 : Int32))), .val (.int (dB + (1 : Int32))), .val (.ref a3), .val (.int (1 : Int32)), .val (.int rA), .val (.int rB), .val (.int aF), .val (.int v321), .val (.int v335), .val (.int v348), .val (.int v361), .val (.int v377), .val (.int r385)] [(.int r567)])) t
    refine XS.iconst Y158.here hx rfl (hb hby at_570) ?_
    show Steps p.tables e below (T157.setTop (mkF m 571 #[.val (.int p0), .val (.int p1), .val (.int p2), .val (.int (dA + (1 : Int32))), .val (.int (dB + (1 : Int32))), .val (.ref a3), .val (.int (1 : Int32)), .val (.int rA), .val (.int rB), .val (.int aF), .val (.int v321), .val (.int v335), .val (.int v348), .val (.int v361), .val (.int v377), .val (.int r385)] [(.int (5 : Int32)), (.int r567)])) t
    refine XS.iloadN Y158.here hx rfl (hb hby at_571) rfl ?_
    show Steps p.tables e below (T157.setTop (mkF m 572 #[.val (.int p0), .val (.int p1), .val (.int p2), .val (.int (dA + (1 : Int32))), .val (.int (dB + (1 : Int32))), .val (.ref a3), .val (.int (1 : Int32)), .val (.int rA), .val (.int rB), .val (.int aF), .val (.int v321), .val (.int v335), .val (.int v348), .val (.int v361), .val (.int v377), .val (.int r385)] [(.int (dA + (1 : Int32))), (.int (5 : Int32)), (.int r567)])) t
    refine XS.iload Y158.here hx rfl (hb hby at_572) rfl ?_
    show Steps p.tables e below (T157.setTop (mkF m 574 #[.val (.int p0), .val (.int p1), .val (.int p2), .val (.int (dA + (1 : Int32))), .val (.int (dB + (1 : Int32))), .val (.ref a3), .val (.int (1 : Int32)), .val (.int rA), .val (.int rB), .val (.int aF), .val (.int v321), .val (.int v335), .val (.int v348), .val (.int v361), .val (.int v377), .val (.int r385)] [(.int (dB + (1 : Int32))), (.int (dA + (1 : Int32))), (.int (5 : Int32)), (.int r567)])) t
    refine XS.iload Y158.here hx rfl (hb hby at_574) rfl ?_
    show Steps p.tables e below (T157.setTop (mkF m 576 #[.val (.int p0), .val (.int p1), .val (.int p2), .val (.int (dA + (1 : Int32))), .val (.int (dB + (1 : Int32))), .val (.ref a3), .val (.int (1 : Int32)), .val (.int rA), .val (.int rB), .val (.int aF), .val (.int v321), .val (.int v335), .val (.int v348), .val (.int v361), .val (.int v377), .val (.int r385)] [(.int v377), (.int (dB + (1 : Int32))), (.int (dA + (1 : Int32))), (.int (5 : Int32)), (.int r567)])) t
    exact k
  refine On.static Y158 hx hZ (y := (⟨"com/example/arborplan/arborplan/tree/DisjointSetsUnionPinLaw", "expectedFind", "(IIII)I"⟩ : MethodName)) hown (w25 hw) (w26 hw) (w28 hw) (w27 hw) (by decide) (argsL := [(.int (5 : Int32)), (.int (dA + (1 : Int32))), (.int (dB + (1 : Int32))), (.int v377)]) (rest := [(.int r567)]) (rm5 l Z a0 hw n0 (5 : Int32) (dA + (1 : Int32)) (dB + (1 : Int32)) v377 [ob a3 own_C0 (own_F0 (.ref a9) (.ref a10)), ari a9 .int (6 : Int32) q162, ari a10 .int (6 : Int32) q101]) (W := 1) (by decide) (by decide) (by decide) (by decide) (g := (mkF m 576 #[.val (.int p0), .val (.int p1), .val (.int p2), .val (.int (dA + (1 : Int32))), .val (.int (dB + (1 : Int32))), .val (.ref a3), .val (.int (1 : Int32)), .val (.int rA), .val (.int rB), .val (.int aF), .val (.int v321), .val (.int v335), .val (.int v348), .val (.int v361), .val (.int v377), .val (.int r385)] [(.int v377), (.int (dB + (1 : Int32))), (.int (dA + (1 : Int32))), (.int (5 : Int32)), (.int r567)])) rfl (by rw [hml]; rfl) (lenOf pd3 rfl) rfl (by show 2 * 0 + _ ≤ _; exact Nat.le_of_eq rfl) (hb hby at_576) ?_
  intro T163 u165 D166 hp167 Y164
  obtain ⟨r576, hr576, rfl, rfl⟩ : ∃ z : Int32, z = (own_ef (5 : Int32) (dA + (1 : Int32)) (dB + (1 : Int32)) v377) ∧ u165 = some (.int z) ∧ D166 = _ := ⟨_, rfl, hp167.1, hp167.2⟩
  replace Y164 : On p l e _ s m _ below meth c Z n0 T163 3 14 [ob a3 own_C0 (own_F0 (.ref a9) (.ref a10)), ari a9 .int (6 : Int32) q162, ari a10 .int (6 : Int32) q101] := Y164
  show Rn p e below F T163 (mkF m 579 #[.val (.int p0), .val (.int p1), .val (.int p2), .val (.int (dA + (1 : Int32))), .val (.int (dB + (1 : Int32))), .val (.ref a3), .val (.int (1 : Int32)), .val (.int rA), .val (.int rB), .val (.int aF), .val (.int v321), .val (.int v335), .val (.int v348), .val (.int v361), .val (.int v377), .val (.int r385)] [(.int r576), (.int r567)])
  refine Rn.go (T' := T163) (g' := (mkF m 582 #[.val (.int p0), .val (.int p1), .val (.int p2), .val (.int (dA + (1 : Int32))), .val (.int (dB + (1 : Int32))), .val (.ref a3), .val (.int (1 : Int32)), .val (.int rA), .val (.int rB), .val (.int aF), .val (.int v321), .val (.int v335), .val (.int v348), .val (.int v361), .val (.int v377), .val (.int r385)] [])) (fun t k => XS.icmpNo Y164.here hx rfl (hb hby at_579) rfl (teq (own_f89 btA btB baF eda erA edb erB hv321 hv335 hv348 hv361 hv377 hq100 hq107 hq118 hq129 hq140 hq151 hr567 hr576)).2 k) ?_
  refine Rn.go (T' := T163) (g' := (mkF m 591 #[.val (.int p0), .val (.int p1), .val (.int p2), .val (.int (dA + (1 : Int32))), .val (.int (dB + (1 : Int32))), .val (.ref a3), .val (.int (1 : Int32)), .val (.int rA), .val (.int rB), .val (.int aF), .val (.int v321), .val (.int v335), .val (.int v348), .val (.int v361), .val (.int v377), .val (.int r385)] [(.int (1 : Int32))])) (fun t k => ?_) ?_
  · show Steps p.tables e below (T163.setTop (mkF m 582 #[.val (.int p0), .val (.int p1), .val (.int p2), .val (.int (dA + (1 : Int32))), .val (.int (dB + (1 : Int32))), .val (.ref a3), .val (.int (1 : Int32)), .val (.int rA), .val (.int rB), .val (.int aF), .val (.int v321), .val (.int v335), .val (.int v348), .val (.int v361), .val (.int v377), .val (.int r385)] [])) t
    refine XS.iconst Y164.here hx rfl (hb hby at_582) ?_
    show Steps p.tables e below (T163.setTop (mkF m 583 #[.val (.int p0), .val (.int p1), .val (.int p2), .val (.int (dA + (1 : Int32))), .val (.int (dB + (1 : Int32))), .val (.ref a3), .val (.int (1 : Int32)), .val (.int rA), .val (.int rB), .val (.int aF), .val (.int v321), .val (.int v335), .val (.int v348), .val (.int v361), .val (.int v377), .val (.int r385)] [(.int (1 : Int32))])) t
    refine XS.goto Y164.here hx rfl (pc0 := 583) (pc' := 587) rfl (hb hby at_583) (by decide) (by decide) ?_
    show Steps p.tables e below (T163.setTop (mkF m 587 #[.val (.int p0), .val (.int p1), .val (.int p2), .val (.int (dA + (1 : Int32))), .val (.int (dB + (1 : Int32))), .val (.ref a3), .val (.int (1 : Int32)), .val (.int rA), .val (.int rB), .val (.int aF), .val (.int v321), .val (.int v335), .val (.int v348), .val (.int v361), .val (.int v377), .val (.int r385)] [(.int (1 : Int32))])) t
    refine XS.istore Y164.here hx rfl (hb hby at_587) rfl (l' := #[.val (.int p0), .val (.int p1), .val (.int p2), .val (.int (dA + (1 : Int32))), .val (.int (dB + (1 : Int32))), .val (.ref a3), .val (.int (1 : Int32)), .val (.int rA), .val (.int rB), .val (.int aF), .val (.int v321), .val (.int v335), .val (.int v348), .val (.int v361), .val (.int v377), .val (.int r385)]) rfl ?_
    show Steps p.tables e below (T163.setTop (mkF m 589 #[.val (.int p0), .val (.int p1), .val (.int p2), .val (.int (dA + (1 : Int32))), .val (.int (dB + (1 : Int32))), .val (.ref a3), .val (.int (1 : Int32)), .val (.int rA), .val (.int rB), .val (.int aF), .val (.int v321), .val (.int v335), .val (.int v348), .val (.int v361), .val (.int v377), .val (.int r385)] [])) t
    refine XS.iload Y164.here hx rfl (hb hby at_589) rfl ?_
    show Steps p.tables e below (T163.setTop (mkF m 591 #[.val (.int p0), .val (.int p1), .val (.int p2), .val (.int (dA + (1 : Int32))), .val (.int (dB + (1 : Int32))), .val (.ref a3), .val (.int (1 : Int32)), .val (.int rA), .val (.int rB), .val (.int aF), .val (.int v321), .val (.int v335), .val (.int v348), .val (.int v361), .val (.int v377), .val (.int r385)] [(.int (1 : Int32))])) t
    exact k
  rw [← hF]; exact On.retn Y164 hx hret (by simp) hlk (z' := (1 : Int32)) (by decide) (hb hby at_591) (by decide) (by decide) rfl
set_option maxRecDepth 65536 in
set_option maxHeartbeats 40000000 in
theorem comes_1 {Post : Tables → Env → Array Value → State → Outcome → State → Prop} (hpost : ∀ tb e args s v u, (limb_1_1.after args s (.returned v) u = true ∧ limb_1_2.after args s (.returned v) u = true ∧ True) → FrameEnd s (.returned v) u (Jvm.fieldLocs frame_1_writes args s ++ Jvm.arrayLocs frame_1_arrays args s ++ Jvm.staticLocs frame_1_statics s) 16 128 → Post tb e args s (.returned v) u) :
    ArmFor flags0 classFile x code maxLocals ret World_1 tables_1 room_1 Calls_1 rest_1 Pre_1 Post := by
  intro l hfl _ _ p e ha hc hk s m args below hf hA hF happ hP
  obtain ⟨hcalls, hrest, hpre⟩ := hP
  obtain ⟨-, -, -, hnamed, -, -, -, hat⟩ := (Spec.applies_iff hf).mp happ
  obtain ⟨hg, hn⟩ := and_e (Cond.before_iff.mp (show (Jvm.Cond.and given_1 narrow_1).before args s = true from hpre))
  obtain ⟨g1, g2⟩ := and_e hg
  obtain ⟨g3, g4⟩ := and_e g2
  obtain ⟨g5, g6⟩ := and_e g4
  obtain ⟨w0, w1, w2, rfl⟩ : ∃ w0 w1 w2 : Value, args = #[w0, w1, w2] := by
    have hs : args.size = 3 := by simpa [Cond.value, given_1] using g1
    obtain ⟨L⟩ := args
    match L, hs with
    | [w0, w1, w2], _ => exact ⟨w0, w1, w2, rfl⟩
  have hw := fun d (hd : d ∈ tables_1) => atoms_spec (ws := Jvm.Cond.code x code maxLocals ret :: tables_1) hat d (List.mem_cons_of_mem _ hd)
  obtain ⟨i0, ei0⟩ := is_v g3
  obtain rfl : w0 = (.int i0) := Option.some.inj ei0
  obtain ⟨i1, ei1⟩ := is_v g5
  obtain rfl : w1 = (.int i1) := Option.some.inj ei1
  obtain ⟨i2, ei2⟩ := is_v g6
  obtain rfl : w2 = (.int i2) := Option.some.inj ei2
  obtain ⟨n, o, h1, h2, h3, _, L, rfl, ⟨D', rfl, N, -⟩, hq⟩ := rm0 l s _ hw s.heap.size i0 i1 i2 tables_1 s.heap (Hp.nil s) p e ha hc hk s m _ below hf ((Spec.applies_iff_loose hf).mp happ).1 ⟨rfl, State.Warmed39.refl s, rfl⟩ trivial
  refine ⟨n, _, h1, h2, h3, hpost _ _ _ _ _ _ ⟨Cond.after_iff.mpr rfl, Cond.after_iff.mpr (eq_i res_at (Term.int_eval (1)) rfl), trivial⟩ ⟨hq.1, hq.2.1, (hq.2.2.sift fun y hy => Or.inr (N y hy)).mono (by decide) (by decide)⟩⟩
theorem main_1_1 : Claimed_1_1 := comes_1 fun _ _ _ _ _ _ h hF => ⟨h.1, hF⟩
theorem main_1_2 : Claimed_1_2 := comes_1 fun _ _ _ _ _ _ h hF => ⟨h.2.1, hF⟩
end Jvm.Pilot.@@N@@
namespace Jvm.Pilot.@@N@@
open Jvm Jvm.ClassFile Sem Op Lib Jvm.Free Jvm.Stand Jvm.Pilot.@@N@@.Jvm.D
/-! MADE BY PROGRAM (witnessworld.py) out of the Statement's table words and the real class files: 9 classes; the members and pool entries that the words name. The judged class is class 1, her method 2. -/
namespace start1
open Jvm.ClassFile
def u (s : String) : CpInfo := .utf8 (stringToUtf16 s)
/-- a pool by its gaps: so many unusable entries, then the entry; so many at the end -/
def gap : Nat → List CpInfo → List CpInfo
  | 0, r => r
  | n + 1, r => .unusable :: gap n r
def poolList (es : List (Nat × CpInfo)) (last : Nat) : List CpInfo := es.foldr (fun e r => gap e.1 (e.2 :: r)) (gap last [])
def pool (es : List (Nat × CpInfo)) (last : Nat) : Array CpInfo := ⟨poolList es last⟩
def fileOf (pool : Array CpInfo) (this : Nat) (attrs : Array Attribute := #[]) (ms : Array MethodInfo := #[]) (fl : Nat := 33) (sup : Nat := 0) (ifs : Array Nat := #[]) (fds : Array FieldInfo := #[]) : ClassFile where
  minorVersion := 0
  majorVersion := 65
  constantPool := pool
  accessFlags := fl
  thisClass := this
  superClass := sup
  interfaces := ifs
  fields := fds
  methods := ms
  attributes := attrs
def plain (name : String) (sup : Option ClassId) : Class where
  name := name
  kind := .ordinary
  loader := none
  accessFlags := 33
  super := sup
  interfaces := #[]
  cf := none
  fields := #[]
  methods := #[]
  instanceTypes := #[]
  staticTypes := #[]
  resolved := #[]
  callSites := []
  init := .initialized
  statics := none
  mirror := none

def pool0 : Array CpInfo := pool [(5, u "<init>"), (0, u "()V"), (1, .class_ 10), (1, u "java/lang/Object")] 113

def k0c0 : Code := { maxStack := 0, maxLocals := 1, code := object_method_1_code, exceptionTable := #[], attributes := #[] }
def k0m0 : Method := { name := "<init>", desc := "()V", sig := { parameters := [], returnType := none }, accessFlags := 1, code := some k0c0 }
/-- java/lang/Object -/
def k0 : Class := { plain "java/lang/Object" none with
  accessFlags := 33
  interfaces := #[]
  cf := some (fileOf pool0 8 #[] #[{ accessFlags := 1, nameIndex := 5, descriptorIndex := 6, attributes := #[] }] 33 0 #[] #[])
  fields := #[]
  methods := #[k0m0]
  instanceTypes := #[]
  staticTypes := #[]
  resolved := Array.replicate 124 none
  statics := none }

def pool1 : Array CpInfo := pool [(2, .class_ 4), (1, u "java/lang/Object"), (0, u "<init>"), (0, u "()V"), (0, .integer 2147483647), (0, .class_ 9), (0, u "com/example/arborplan/arborplan/tree/DisjointSets"), (0, .methodref 8 11), (0, .nameAndType 5 12), (0, u "(I)V"), (0, .methodref 8 14), (0, .nameAndType 15 16), (0, u "union"), (0, u "(II)I"), (0, .methodref 8 18), (0, .nameAndType 19 20), (0, u "find"), (0, u "(I)I"), (0, .methodref 22 23), (0, .class_ 24), (0, .nameAndType 25 26), (0, u "com/example/arborplan/arborplan/tree/DisjointSetsUnionPinLaw"), (0, u "expectedFind"), (0, u "(IIII)I"), (3, u "law"), (0, u "(III)Z")] 2

def k1m0 : Method := { name := "<init>", desc := "()V", sig := { parameters := [], returnType := none }, accessFlags := 1, code := none }
def k1c1 : Code := { maxStack := 3, maxLocals := 4, code := method_2_code, exceptionTable := #[], attributes := #[] }
def k1m1 : Method := { name := "expectedFind", desc := "(IIII)I", sig := { parameters := [.int, .int, .int, .int], returnType := some .int }, accessFlags := 10, code := some k1c1 }
def k1c2 : Code := { maxStack := 5, maxLocals := 16, code := code, exceptionTable := #[], attributes := #[] }
def k1m2 : Method := { name := "law", desc := "(III)Z", sig := { parameters := [.int, .int, .int], returnType := some .boolean }, accessFlags := 9, code := some k1c2 }
/-- com/example/arborplan/arborplan/tree/DisjointSetsUnionPinLaw -/
def k1 : Class := { plain "com/example/arborplan/arborplan/tree/DisjointSetsUnionPinLaw" (some 0) with
  accessFlags := 49
  interfaces := #[]
  cf := some (fileOf pool1 22 #[] #[{ accessFlags := 1, nameIndex := 5, descriptorIndex := 6, attributes := #[] }, { accessFlags := 10, nameIndex := 25, descriptorIndex := 26, attributes := #[] }, { accessFlags := 9, nameIndex := 30, descriptorIndex := 31, attributes := #[] }] 49 2 #[] #[])
  fields := #[]
  methods := #[k1m0, k1m1, k1m2]
  instanceTypes := #[]
  staticTypes := #[]
  resolved := Array.replicate 34 none
  statics := none }

def pool2 : Array CpInfo := pool [(1, .methodref 2 3), (0, .class_ 4), (0, .nameAndType 5 6), (0, u "java/lang/Object"), (0, u "<init>"), (0, u "()V"), (0, .fieldref 8 9), (0, .class_ 10), (0, .nameAndType 11 12), (0, u "com/example/arborplan/arborplan/tree/DisjointSets"), (0, u "parent"), (0, u "[I"), (0, .fieldref 8 14), (0, .nameAndType 15 12), (0, u "size"), (0, u "(I)V"), (3, u "find"), (0, u "(I)I"), (0, u "union"), (0, u "(II)I")] 2

def k2c0 : Code := { maxStack := 3, maxLocals := 3, code := prog_37_method_1_code, exceptionTable := #[], attributes := #[] }
def k2m0 : Method := { name := "<init>", desc := "(I)V", sig := { parameters := [.int], returnType := none }, accessFlags := 1, code := some k2c0 }
def k2c1 : Code := { maxStack := 5, maxLocals := 3, code := prog_37_method_2_code, exceptionTable := #[], attributes := #[] }
def k2m1 : Method := { name := "find", desc := "(I)I", sig := { parameters := [.int], returnType := some .int }, accessFlags := 1, code := some k2c1 }
def k2c2 : Code := { maxStack := 5, maxLocals := 5, code := prog_37_method_3_code, exceptionTable := #[], attributes := #[] }
def k2m2 : Method := { name := "union", desc := "(II)I", sig := { parameters := [.int, .int], returnType := some .int }, accessFlags := 1, code := some k2c2 }
/-- com/example/arborplan/arborplan/tree/DisjointSets -/
def k2 : Class := { plain "com/example/arborplan/arborplan/tree/DisjointSets" (some 0) with
  accessFlags := 49
  interfaces := #[]
  cf := some (fileOf pool2 8 #[] #[{ accessFlags := 1, nameIndex := 5, descriptorIndex := 16, attributes := #[] }, { accessFlags := 1, nameIndex := 20, descriptorIndex := 21, attributes := #[] }, { accessFlags := 1, nameIndex := 22, descriptorIndex := 23, attributes := #[] }] 49 2 #[] #[{ accessFlags := 18, nameIndex := 11, descriptorIndex := 12, attributes := #[] }, { accessFlags := 18, nameIndex := 15, descriptorIndex := 12, attributes := #[] }])
  fields := #[{ name := "parent", type := (.array .int), accessFlags := 18, slot := 0, constantValue := 0 }, { name := "size", type := (.array .int), accessFlags := 18, slot := 1, constantValue := 0 }]
  methods := #[k2m0, k2m1, k2m2]
  instanceTypes := #[(.array .int), (.array .int)]
  staticTypes := #[]
  resolved := Array.replicate 26 none
  statics := none }

def pool3 : Array CpInfo := pool [(1, u "java/lang/Cloneable"), (0, .class_ 1), (0, u "java/lang/Object"), (0, .class_ 3)] 3

/-- java/lang/Cloneable -/
def k3 : Class := { plain "java/lang/Cloneable" (some 0) with
  accessFlags := 1537
  interfaces := #[]
  cf := some (fileOf pool3 2 #[] #[] 1537 4 #[] #[])
  fields := #[]
  methods := #[]
  instanceTypes := #[]
  staticTypes := #[]
  resolved := Array.replicate 8 none
  statics := none }

def pool4 : Array CpInfo := pool [(1, u "java/io/Serializable"), (0, .class_ 1), (0, u "java/lang/Object"), (0, .class_ 3)] 3

/-- java/io/Serializable -/
def k4 : Class := { plain "java/io/Serializable" (some 0) with
  accessFlags := 1537
  interfaces := #[]
  cf := some (fileOf pool4 2 #[] #[] 1537 4 #[] #[])
  fields := #[]
  methods := #[]
  instanceTypes := #[]
  staticTypes := #[]
  resolved := Array.replicate 8 none
  statics := none }

/-- the primitive byte -/
def k5 : Class := { plain "byte" none with kind := .primitive 'B', accessFlags := 0x411 }
/-- [B -/
def k6 : Class := { plain "[B" (some 0) with kind := .array 5 .byte, interfaces := #[3, 4], accessFlags := 1041 }

/-- the primitive int -/
def k7 : Class := { plain "int" none with kind := .primitive 'I', accessFlags := 0x411 }
/-- [I -/
def k8 : Class := { plain "[I" (some 0) with kind := .array 7 .int, interfaces := #[3, 4], accessFlags := 1041 }

def heap : Heap := #[]
def classes : Array Class := #[k0, k1, k2, k3, k4, k5, k6, k7, k8]
def interned : List (Array UInt16 × Addr) := []
def slotsUsed : Nat := 0
def theMethod : MethodId := ⟨1, 2⟩
def args0 : Array Value := #[.int 1, .int 2, .int 3]
def aboutOver (below : List Frame) : State where
  vm := { classes := classes, interned := interned.toArray }
  heap := heap
  slotsUsed := slotsUsed
  threads := #[{ frames := .invoking theMethod args0 :: below }]
def below0 : List Frame := [.native { method := ⟨0, 0⟩, args := #[] }]
def about1 : State := aboutOver below0
def p0 : Program := .bare "" "" ""
def e0 : Env := launch0.env 0 0 0
theorem w_frames : about1.frames = Frame.invoking theMethod args0 :: below0 := rfl
set_option maxRecDepth 65536 in
theorem w_args : argsFit about1.vm theMethod args0 = true := by decide +kernel
set_option maxRecDepth 65536 in
theorem w_heap : heapFits about1 = true := by decide +kernel
set_option maxRecDepth 65536 in
theorem w_runnable : about1.curStatus? = some .runnable := by decide +kernel
set_option maxRecDepth 65536 in
theorem w_alone : about1.alone = true := by decide +kernel
set_option maxRecDepth 65536 in
theorem w_named : about1.methodNamed? x = some theMethod := by decide +kernel
set_option maxRecDepth 65536 in
theorem w_hears : about1.hears theMethod below0 = true := by decide +kernel
set_option maxRecDepth 65536 in
theorem w_ripe : about1.ripe theMethod args0 below0 = true := by decide +kernel
theorem w_running : about1.status = .running := rfl
set_option maxRecDepth 65536 in
theorem w_room : about1.hasRoom e0.platform room_1 = true :=
  launch0.hasRoom_least _ room_1 (by decide +kernel) (by decide +kernel) (by decide +kernel) (by decide +kernel) (by decide +kernel) (by decide +kernel)
theorem allAtoms_all (ts : List Jvm.Cond) (a : Array Jvm.Value) (st : Jvm.State) : (allAtoms ts).before a st = ts.all (fun c => c.before a st) := by
  induction ts with
  | nil => rfl
  | cons c t ih =>
    show (Jvm.Cond.and c (allAtoms t)).before a st = _
    rw [Jvm.Cond.before_and, ih, List.all_cons]
def words1 : List Jvm.Cond := Jvm.Cond.code x code maxLocals ret :: tables_1
/-- a 'code' word, met by the world's own term for the bytes: nothing is compared byte by byte -/
theorem code_word {y : MethodName} {bytes : ByteArray} {mx : Nat} {rt : Option FieldType} {a : Array Value} {s : State} {m : MethodId} {meth : Method} {c : Code} (h1 : s.methodNamed? y = some m) (h2 : s.vm.method? m = some meth) (h3 : meth.code = some c) (h4 : c.code = bytes)
    (h5 : (c.maxLocals == mx && c.exceptionTable.isEmpty && decide (c.maxStack ≤ mostOperands) && decide (meth.sig.returnType = rt) && !meth.locks && decide (parseMethodDescriptor y.desc = some meth.sig)) = true) : (Jvm.Cond.code y bytes mx rt).before a s = true := by
  simp only [Bool.and_eq_true, beq_iff_eq, Bool.not_eq_true', decide_eq_true_eq] at h5
  obtain ⟨⟨⟨⟨⟨g1, g2⟩, g3⟩, g4⟩, g5⟩, g6⟩ := h5
  simp [Cond.before, Cond.holds, Cond.value, h1, h2, h3, h4, g1, g2, g3, g4, g5, g6]
def isCode : Jvm.Cond → Bool
  | .code _ _ _ _ => true
  | _ => false
theorem all_split {L : List Jvm.Cond} {P : Jvm.Cond → Bool} (h1 : L.all (fun c => isCode c || P c) = true) (h2 : ∀ c ∈ L.filter isCode, P c = true) : L.all P = true := by
  refine List.all_eq_true.mpr fun c hc => ?_
  have h := List.all_eq_true.mp h1 c hc
  rcases Bool.eq_false_or_eq_true (isCode c) with hi | hi
  · exact h2 c (List.mem_filter.mpr ⟨hc, hi⟩)
  · simpa [hi] using h
set_option maxRecDepth 65536 in
theorem w_c0 : (Jvm.Cond.code x code maxLocals ret).before args0 about1 = true := code_word (m := ⟨1, 2⟩) (meth := k1m2) (c := k1c2) (by decide +kernel) rfl rfl rfl (by decide +kernel)
set_option maxRecDepth 65536 in
theorem w_c1 : (Jvm.Cond.code ({ cls := "com/example/arborplan/arborplan/tree/DisjointSets", name := "<init>", desc := "(I)V" } : Jvm.MethodName) prog_37_method_1_code (3 : Nat) (Option.none : Option Jvm.ClassFile.FieldType)).before args0 about1 = true := code_word (m := ⟨2, 0⟩) (meth := k2m0) (c := k2c0) (by decide +kernel) rfl rfl rfl (by decide +kernel)
set_option maxRecDepth 65536 in
theorem w_c2 : (Jvm.Cond.code ({ cls := "java/lang/Object", name := "<init>", desc := "()V" } : Jvm.MethodName) object_method_1_code (1 : Nat) (Option.none : Option Jvm.ClassFile.FieldType)).before args0 about1 = true := code_word (m := ⟨0, 0⟩) (meth := k0m0) (c := k0c0) (by decide +kernel) rfl rfl rfl (by decide +kernel)
set_option maxRecDepth 65536 in
theorem w_c3 : (Jvm.Cond.code ({ cls := "com/example/arborplan/arborplan/tree/DisjointSets", name := "union", desc := "(II)I" } : Jvm.MethodName) prog_37_method_3_code (5 : Nat) (Option.some Jvm.ClassFile.FieldType.int)).before args0 about1 = true := code_word (m := ⟨2, 2⟩) (meth := k2m2) (c := k2c2) (by decide +kernel) rfl rfl rfl (by decide +kernel)
set_option maxRecDepth 65536 in
theorem w_c4 : (Jvm.Cond.code ({ cls := "com/example/arborplan/arborplan/tree/DisjointSets", name := "find", desc := "(I)I" } : Jvm.MethodName) prog_37_method_2_code (3 : Nat) (Option.some Jvm.ClassFile.FieldType.int)).before args0 about1 = true := code_word (m := ⟨2, 1⟩) (meth := k2m1) (c := k2c1) (by decide +kernel) rfl rfl rfl (by decide +kernel)
set_option maxRecDepth 65536 in
theorem w_c5 : (Jvm.Cond.code ({ cls := "com/example/arborplan/arborplan/tree/DisjointSetsUnionPinLaw", name := "expectedFind", desc := "(IIII)I" } : Jvm.MethodName) method_2_code (4 : Nat) (Option.some Jvm.ClassFile.FieldType.int)).before args0 about1 = true := code_word (m := ⟨1, 1⟩) (meth := k1m1) (c := k1c1) (by decide +kernel) rfl rfl rfl (by decide +kernel)
def codes1 : List Jvm.Cond := [Jvm.Cond.code x code maxLocals ret, Jvm.Cond.code ({ cls := "com/example/arborplan/arborplan/tree/DisjointSets", name := "<init>", desc := "(I)V" } : Jvm.MethodName) prog_37_method_1_code (3 : Nat) (Option.none : Option Jvm.ClassFile.FieldType), Jvm.Cond.code ({ cls := "java/lang/Object", name := "<init>", desc := "()V" } : Jvm.MethodName) object_method_1_code (1 : Nat) (Option.none : Option Jvm.ClassFile.FieldType), Jvm.Cond.code ({ cls := "com/example/arborplan/arborplan/tree/DisjointSets", name := "union", desc := "(II)I" } : Jvm.MethodName) prog_37_method_3_code (5 : Nat) (Option.some Jvm.ClassFile.FieldType.int), Jvm.Cond.code ({ cls := "com/example/arborplan/arborplan/tree/DisjointSets", name := "find", desc := "(I)I" } : Jvm.MethodName) prog_37_method_2_code (3 : Nat) (Option.some Jvm.ClassFile.FieldType.int), Jvm.Cond.code ({ cls := "com/example/arborplan/arborplan/tree/DisjointSetsUnionPinLaw", name := "expectedFind", desc := "(IIII)I" } : Jvm.MethodName) method_2_code (4 : Nat) (Option.some Jvm.ClassFile.FieldType.int)]
set_option maxRecDepth 65536 in
theorem codes_eq : words1.filter isCode = codes1 := rfl
theorem w_codes : ∀ c ∈ words1.filter isCode, c.before args0 about1 = true := by
  rw [codes_eq]
  intro c hc
  simp only [codes1, List.mem_cons, List.not_mem_nil, or_false] at hc
  rcases hc with rfl | rfl | rfl | rfl | rfl | rfl
  · exact w_c0
  · exact w_c1
  · exact w_c2
  · exact w_c3
  · exact w_c4
  · exact w_c5
set_option maxRecDepth 65536 in
theorem w_t1 : (words1.take 24).all (fun c => isCode c || c.before args0 about1) = true := by decide +kernel
set_option maxRecDepth 65536 in
theorem w_t2 : (words1.drop 24).all (fun c => isCode c || c.before args0 about1) = true := by decide +kernel
theorem w_tables : (allAtoms (Jvm.Cond.code x code maxLocals ret :: tables_1)).before args0 about1 = true := by
  rw [allAtoms_all]
  show words1.all (fun c => c.before args0 about1) = true
  refine all_split ?_ w_codes
  rw [← List.take_append_drop 24 words1, List.all_append, w_t1, w_t2]
  rfl
set_option maxRecDepth 65536 in
theorem w_case : (Jvm.Cond.and given_1 narrow_1).before args0 about1 = true := by decide +kernel
theorem w_applies : (headSpec (Jvm.Cond.code x code maxLocals ret :: tables_1) room_1).applies x e0.platform about1 = true :=
  (Spec.applies_iff w_frames).mpr ⟨w_running, w_runnable, w_alone, w_named, w_hears, w_ripe, w_room, w_tables⟩
theorem atStart : AtStart classFile x code maxLocals ret World_1 tables_1 room_1 Calls_1 rest_1 Pre_1 launch0 p0 e0 about1 theMethod args0 below0 :=
  ⟨lists_1, trivial, launch0.admits_env _ _ _, launch0.least_env, fairChoices_fair.cas, fairChoices_fair.clock, w_frames, w_args, w_heap, w_applies, trivial, trivial, w_case⟩
end start1
theorem witness_1 : WitnessClaimed_1 := ⟨start1.p0, start1.e0, start1.about1, start1.theMethod, start1.args0, start1.below0, start1.atStart⟩
end Jvm.Pilot.@@N@@
