import JvmDerived
import JvmDerived.Pilot.@@N@@Statement
import JvmDerived.Pilot.@@N@@Code
set_option linter.unusedVariables false
set_option linter.unusedSimpArgs false
@@BLOCK:NumsL.lean.txt@@
namespace Jvm.Pilot.@@N@@
open Jvm Jvm.ClassFile Sem Op Lib Jvm.Free Jvm.Stand Jvm.LawKit Jvm.RoadKit Bundle Jvm.Pilot.@@N@@.Jvm.D
/-! ## A. The run goes on: a walk in steps, its end left open -/
section Base
variable {p : Program} {l : Launch} {e : Env} {R : Room} {s : State} {m : MethodId} {args : Array Value} {below : List Frame} {meth : Method} {c : Code} {T T' : State} {locs : List Loc} {cells slots : Nat} {Z : State} {a0 : Array Value} {F : State → Prop} {g g' : JFrame} {n0 : Nat} {h h' : Heap} {a b : Addr} {C n d : String} {v w : Value} {sl : Nat}
/-- the run from T with the frame g on top comes to a state of which F holds -/
def Rn (p : Program) (e : Env) (below : List Frame) (F : State → Prop) (T : State) (g : JFrame) : Prop := ∃ U, Steps p.tables e below (T.setTop g) U ∧ F U
theorem Rn.go (st : ∀ t, Steps p.tables e below (T'.setTop g') t → Steps p.tables e below (T.setTop g) t) (k : Rn p e below F T' g') : Rn p e below F T g := by
  obtain ⟨U, h1, h2⟩ := k; exact ⟨U, st _ h1, h2⟩
theorem Rn.to (st : Steps p.tables e below (T.setTop g) (T'.setTop g')) (k : Rn p e below F T' g') : Rn p e below F T g := by
  obtain ⟨U, h1, h2⟩ := k; exact ⟨U, st.trans h1, h2⟩
theorem own_lcW (x y : Int64) : lcmpW x y = if x > y then 1 else if x = y then 0 else -1 := rfl
theorem own_nat (x : Int32) : x.toNatClampNeg = x.toInt.toNat := rfl
theorem own_remI {x y : Int32} {k : Int} (hy : y.toInt = k) (hx : 0 ≤ x.toInt) : (x % y).toInt = x.toInt % k := by rw [Jvm.Kit.i32_rem_nonneg hx, hy]
theorem own_irem {g : JFrame} {target : State} (h : At T m c below) (hx : p.tables.exec = Jvm.exec) (hg : g.method = m) {x y : Int32} {rest : List Value} (hd : decode c.code g.pc = .ok (.irem, 1)) (hs : g.stack = .int y :: .int x :: rest) (hy : y ≠ 0)
    (hr : Steps p.tables e below (T.setTop { g with pc := g.pc + 1, stack := .int (x % y) :: rest }) target) : Steps p.tables e below (T.setTop g) target := by
  have q : x - x / y * y = x % y := irem_eq_mod x y
  exact XS.irem h hx hg hd hs hy (by rw [q]; exact hr)
/-! ## B. What the heap holds: a list of the objects and arrays that the law has made -/
abbrev Itm : Type := (String × List (String × String × Value)) ⊕ (FieldType × Int32 × List Value)
abbrev ob (a : Addr) (C : String) (fs : List (String × String × Value)) : Addr × Itm := (a, .inl (C, fs))
abbrev ar (a : Addr) (ty : FieldType) (n : Int32) (vs : List Value) : Addr × Itm := (a, .inr (ty, n, vs))
abbrev ari (a : Addr) (ty : FieldType) (n : Int32) (xs : List Int32) : Addr × Itm := ar a ty n (xs.map Value.int)
abbrev arj (a : Addr) (n : Int32) (xs : List Int64) : Addr × Itm := ar a .long n (xs.map Value.long)
def Obj (Z : State) (h : Heap) (a : Addr) (C : String) (fs : List (String × String × Value)) : Prop := Exa Z h a C ∧ (∀ f ∈ fs, Fld Z h a C f.1 f.2.1 f.2.2) ∧ (fs.map fun f => Jvm.RoadKit.slotOf Z C f.1 f.2.1).Nodup
def Ary (Z : State) (h : Heap) (a : Addr) (ty : FieldType) (n : Int32) (vs : List Value) : Prop := (∃ k, Arv Z h a k ty n vs (defaultValue ty) ∧ ∀ C, ty = .object C → Ovr Z k C) ∧ vs.length = n.toNatClampNeg
def itm (Z : State) (h : Heap) (x : Addr × Itm) : Prop := match x.2 with
  | .inl o => Obj Z h x.1 o.1 o.2
  | .inr o => Ary Z h x.1 o.1 o.2.1 o.2.2
/-- made by the law, or an array of no places (which nobody can write) -/
def Frs (n0 : Nat) (x : Addr × Itm) : Prop := n0 ≤ x.1 ∨ ∃ ty n, x.2 = .inr (ty, n, [])
def Hp (Z : State) (n0 : Nat) (h : Heap) (D : List (Addr × Itm)) : Prop := Old Z n0 h ∧ (∀ x ∈ D, Frs n0 x ∧ itm Z h x) ∧ (D.map (·.1)).Nodup
variable {fs : List (String × String × Value)} {vs : List Value} {ty : FieldType} {z : Int32} {x : Addr × Itm} {D : List (Addr × Itm)} {I J : Itm} {i j : Nat}
theorem map_same {α β : Type} (f : α → β) (L : List α) (i : Nat) (x y : α) (h : L[i]? = some x) (q : f y = f x) : (L.set i y).map f = L.map f := by
  apply List.ext_getElem?
  intro k
  rw [List.getElem?_map, List.getElem?_map, List.getElem?_set]
  by_cases e : i = k
  · subst e
    rw [if_pos rfl, if_pos (List.getElem?_eq_some_iff.mp h).1, h]; simp [q]
  · rw [if_neg e]
theorem Obj.lt (O : Obj Z h a C fs) : a < h.size := O.1.lt
theorem Ary.lt (O : Ary Z h a ty z vs) : a < h.size := by obtain ⟨⟨k, V, -⟩, -⟩ := O; exact V.lt
theorem itm.lt (O : itm Z h x) : x.1 < h.size := by
  obtain ⟨a, I⟩ := x
  cases I with
  | inl o => exact Obj.lt (show Obj Z h a o.1 o.2 from O)
  | inr o => exact Ary.lt (show Ary Z h a o.1 o.2.1 o.2.2 from O)
theorem itm.ext (E : Ext h h') (O : itm Z h x) : itm Z h' x := by
  obtain ⟨a, I⟩ := x
  cases I with
  | inl o =>
    have O' : Obj Z h a o.1 o.2 := O
    exact (show Obj Z h' a o.1 o.2 from ⟨O'.1.ext E, fun f hf => (O'.2.1 f hf).ext E, O'.2.2⟩)
  | inr o =>
    have O' : Ary Z h a o.1 o.2.1 o.2.2 := O
    obtain ⟨⟨k, V, u⟩, q⟩ := O'
    exact (show Ary Z h' a o.1 o.2.1 o.2.2 from ⟨⟨k, V.ext E, u⟩, q⟩)
theorem itm.other (W : Wr h h' b sl v) (q : x.1 ≠ b) (O : itm Z h x) : itm Z h' x := by
  obtain ⟨a, I⟩ := x
  cases I with
  | inl o =>
    have O' : Obj Z h a o.1 o.2 := O
    exact (show Obj Z h' a o.1 o.2 from ⟨O'.1.wr W, fun f hf => (O'.2.1 f hf).other W (Or.inl q), O'.2.2⟩)
  | inr o =>
    have O' : Ary Z h a o.1 o.2.1 o.2.2 := O
    obtain ⟨⟨k, V, u⟩, r⟩ := O'
    exact (show Ary Z h' a o.1 o.2.1 o.2.2 from ⟨⟨k, V.other W q, u⟩, r⟩)
theorem Obj.put (hj : fs[j]? = some (n, d, w)) (W : Wr h h' a (Jvm.RoadKit.slotOf Z C n d) v) (O : Obj Z h a C fs) : Obj Z h' a C (fs.set j (n, d, v)) := by
  have hjl : j < fs.length := (List.getElem?_eq_some_iff.mp hj).1
  refine ⟨O.1.wr W, fun f hf => ?_, ?_⟩
  · obtain ⟨i, hi⟩ := List.mem_iff_getElem?.mp hf
    by_cases e : j = i
    · subst e
      rw [List.getElem?_set_self hjl] at hi
      cases hi
      exact (O.2.1 _ (List.mem_of_getElem? hj)).same W
    · rw [List.getElem?_set_ne e] at hi
      refine (O.2.1 f (List.mem_of_getElem? hi)).other W (Or.inr fun q => e ?_)
      have hil : i < fs.length := (List.getElem?_eq_some_iff.mp hi).1
      refine ((List.getElem?_inj (i := i) (j := j) (by simpa using hil) O.2.2).mp ?_).symm
      rw [List.getElem?_map, List.getElem?_map, hi, hj]
      simp [q]
  · rw [map_same _ fs j (n, d, w) (n, d, v) hj rfl]; exact O.2.2
theorem Ary.put {k : Int32} (hk : ¬ k < 0) (hl : k.toNatClampNeg < vs.length) (hv : fits ty v = true) (W : Wr h h' a k.toNatClampNeg v) (O : Ary Z h a ty z vs) : Ary Z h' a ty z (vs.set k.toNatClampNeg v) := by
  obtain ⟨⟨kc, ⟨cl, A, q1, S, q3, H, G⟩, u⟩, q⟩ := O
  exact ⟨⟨kc, Arv.set A q1 S q3 H G hv W _ rfl hl, u⟩, by rw [List.length_set]; exact q⟩
theorem Frs.obj (q : Frs n0 (ob a C fs)) : n0 ≤ a := q.elim id fun ⟨_, _, r⟩ => by cases r
theorem Frs.arr {k : Nat} (q : Frs n0 (ar a ty z vs)) (hl : k < vs.length) : n0 ≤ a := q.elim id fun ⟨_, _, r⟩ => by cases r; cases hl
theorem Hp.get (H : Hp Z n0 h D) (hi : D[i]? = some x) : Frs n0 x ∧ itm Z h x := H.2.1 _ (List.mem_of_getElem? hi)
theorem Hp.obj (H : Hp Z n0 h D) (hi : D[i]? = some (ob a C fs)) : Obj Z h a C fs := (H.get hi).2
theorem Hp.ary (H : Hp Z n0 h D) (hi : D[i]? = some (ar a ty z vs)) : Ary Z h a ty z vs := (H.get hi).2
theorem Hp.fld (H : Hp Z n0 h D) (hi : D[i]? = some (ob a C fs)) (hj : fs[j]? = some (n, d, v)) : Fld Z h a C n d v := (H.obj hi).2.1 _ (List.mem_of_getElem? hj)
theorem Hp.exa (H : Hp Z n0 h D) (hi : D[i]? = some (ob a C fs)) : Exa Z h a C := (H.obj hi).1
theorem Hp.upd (H : Hp Z n0 h D) (hi : D[i]? = some (a, I)) (hfr : n0 ≤ a) (W : Wr h h' a sl v) (q : itm Z h (a, I) → itm Z h' (a, J)) : Hp Z n0 h' (D.set i (a, J)) := by
  have hil : i < D.length := (List.getElem?_eq_some_iff.mp hi).1
  refine ⟨H.1.wr W hfr, fun x hx => ?_, ?_⟩
  · obtain ⟨k, hk⟩ := List.mem_iff_getElem?.mp hx
    by_cases e : i = k
    · subst e
      rw [List.getElem?_set_self hil] at hk
      cases hk
      exact ⟨Or.inl hfr, q (H.get hi).2⟩
    · rw [List.getElem?_set_ne e] at hk
      refine ⟨(H.get hk).1, (H.get hk).2.other W fun r => e ?_⟩
      refine (List.getElem?_inj (i := i) (j := k) (by simpa using hil) H.2.2).mp ?_
      rw [List.getElem?_map, List.getElem?_map, hi, hk]
      simp [r]
  · rw [map_same _ D i (a, I) (a, J) hi rfl]; exact H.2.2
theorem Hp.new (H : Hp Z n0 h D) (E : Ext h h') (q : itm Z h' (h.size, I)) : Hp Z n0 h' (D ++ [(h.size, I)]) := by
  have hsz : n0 ≤ h.size := by rw [← H.1.1]; exact H.1.2.1
  refine ⟨H.1.ext E, fun x hx => ?_, ?_⟩
  · rcases List.mem_append.mp hx with r | r
    · exact ⟨(H.2.1 x r).1, (H.2.1 x r).2.ext E⟩
    · cases List.mem_singleton.mp r; exact ⟨Or.inl hsz, q⟩
  · rw [List.map_append, List.nodup_append]
    refine ⟨H.2.2, by simp, fun y hy z hz => ?_⟩
    obtain ⟨x, hx, rfl⟩ := List.mem_map.mp hy
    have : z = h.size := by simpa using hz
    rw [this]
    exact Nat.ne_of_lt (H.2.1 x hx).2.lt
theorem Hp.nil (Z : State) : Hp Z Z.heap.size Z.heap [] := ⟨Old.start Z, (fun _ q => by cases q), List.nodup_nil⟩
theorem Hp.ext (H : Hp Z n0 h D) (E : Ext h h') : Hp Z n0 h' D := ⟨H.1.ext E, fun x hx => ⟨(H.2.1 x hx).1, (H.2.1 x hx).2.ext E⟩, H.2.2⟩
/-- a walk stands at T, has made so many cells and slots, has written nothing old, and its heap holds D -/
def On (p : Program) (l : Launch) (e : Env) (R : Room) (s : State) (m : MethodId) (args : Array Value) (below : List Frame) (meth : Method) (c : Code) (Z : State) (n0 : Nat) (T : State) (cells slots : Nat) (D : List (Addr × Itm)) : Prop := ∃ locs, Stand p l e R s m args below meth c T locs cells slots ∧ Fr n0 locs ∧ Hp Z n0 T.heap D
theorem On.here (Y : On p l e R s m args below meth c Z n0 T cells slots D) : At T m c below := by obtain ⟨_, X, -⟩ := Y; exact X.here
/-- what is known of the heap may be forgotten -/
theorem On.weak {D D' : List (Addr × Itm)} (Y : On p l e R s m args below meth c Z n0 T cells slots D) (q : D'.Sublist D) : On p l e R s m args below meth c Z n0 T cells slots D' := by
  obtain ⟨locs, X, N, H⟩ := Y
  exact ⟨locs, X, N, H.1, fun x hx => H.2.1 x (q.subset hx), H.2.2.sublist (q.map _)⟩
/-! ## C. One law a step -/
theorem On.getf (Y : On p l e R s m args below meth c Z n0 T cells slots D) (hx : p.tables.exec = Jvm.exec) (hZ : Z.Warmed39 s.vm) {own : String} {index : Nat} (hown : s.vm.findClass own = some m.cls) (w : (Cond.fieldLink own index C n d).before a0 Z = true) (hi : D[i]? = some (ob a C fs)) (hj : fs[j]? = some (n, d, v))
    {g : JFrame} (hg : g.method = m) {rest : List Value} (hs : g.stack = .ref a :: rest) (hd : decode c.code g.pc = .ok (.getfield index, 3)) (k : ∀ T', On p l e R s m args below meth c Z n0 T' cells slots D → Rn p e below F T' { g with pc := g.pc + 3, stack := v :: rest }) : Rn p e below F T g := by
  obtain ⟨locs, X, N, H⟩ := Y
  obtain ⟨T', X', e', st⟩ := getF X hx hZ hown (host := "") (Or.inl w) Via.refl rfl (H.fld hi hj) hg hs hd
  exact Rn.go st (k T' ⟨locs, X', N, by rw [e']; exact H⟩)
theorem On.putf (Y : On p l e R s m args below meth c Z n0 T cells slots D) (hx : p.tables.exec = Jvm.exec) (hZ : Z.Warmed39 s.vm) {own : String} {index kk : Nat} (hown : s.vm.findClass own = some m.cls) (wl : (Cond.fieldLink own index C n d).before a0 Z = true) (hi : D[i]? = some (ob a C fs)) (hj : fs[j]? = some (n, d, w))
    (L : (Cond.lays C C n d).before a0 Z = true ∨ ((Cond.laysFinal C C n d).before a0 Z = true ∧ own = C ∧ meth.name = "<init>")) (wi : (Cond.instantiable C kk).before a0 Z = true) (hty : parseFieldDescriptor d = some ty) {v v' : Value} (hn : narrow ty v = v') (hf : fits ty v' = true)
    {g : JFrame} (hg : g.method = m) {rest : List Value} (hs : g.stack = v :: .ref a :: rest) (hd : decode c.code g.pc = .ok (.putfield index, 3)) (k : ∀ T', On p l e R s m args below meth c Z n0 T' cells slots (D.set i (ob a C (fs.set j (n, d, v')))) → Rn p e below F T' { g with pc := g.pc + 3, stack := rest }) : Rn p e below F T g := by
  obtain ⟨locs, X, N, H⟩ := Y
  obtain ⟨T', h', X', e', W, st⟩ := putFN X hx hZ hown wl Via.refl rfl (H.fld hi hj) (H.exa hi) L wi hty hn hf hg hs hd
  have hfr := (H.get hi).1.obj
  refine Rn.go st (k T' ⟨_, X', Fr.snoc X' N hfr, ?_⟩)
  rw [e']
  exact H.upd hi hfr W fun O => Obj.put hj W O
theorem On.newo (Y : On p l e R s m args below meth c Z n0 T cells slots D) (hx : p.tables.exec = Jvm.exec) (hZ : Z.Warmed39 s.vm) {own : String} {index k : Nat} (hown : s.vm.findClass own = some m.cls) (w : (Cond.classLink own index C).before a0 Z = true) (wi : (Cond.instantiable C k).before a0 Z = true) (wz : (Cond.initialized C).before a0 Z = true)
    (fs : List (String × String × Value)) (hl : ∀ f ∈ fs, Laid Z a0 C C f.1 f.2.1 ∧ ∃ ty, parseFieldDescriptor f.2.1 = some ty ∧ f.2.2 = defaultValue ty) (hn : (fs.map (·.1)).Nodup)
    {g : JFrame} (hg : g.method = m) (hd : decode c.code g.pc = .ok (.new index, 3)) (hc : cells + 1 ≤ R.cells) (hs : slots + k ≤ R.slots)
    (kk : ∀ T' a, On p l e R s m args below meth c Z n0 T' (cells + 1) (slots + k) (D ++ [ob a C fs]) → Rn p e below F T' { g with pc := g.pc + 3, stack := .ref a :: g.stack }) : Rn p e below F T g := by
  obtain ⟨locs, X, N, H⟩ := Y
  obtain ⟨T', h', X', e', E, A, Df, -, st⟩ := newO X hx hZ hown w wi wz rfl hg hd hc hs
  refine Rn.go st (kk T' _ ⟨_, X', N, ?_⟩)
  rw [e']
  refine H.new E (show Obj Z h' _ C fs from ⟨A, fun f hf => ?_, ?_⟩)
  · obtain ⟨L, ty, h1, h2⟩ := hl f hf
    rw [h2]; exact Df L h1
  · rw [List.nodup_iff_pairwise_ne, List.pairwise_map] at hn ⊢
    refine List.Pairwise.imp_of_mem (fun {x y} hx hy q => ?_) hn
    obtain ⟨L, ty, h1, -⟩ := hl x hx
    obtain ⟨L', ty', h1', -⟩ := hl y hy
    exact slot_ne L L' q h1 h1'
theorem On.newp (Y : On p l e R s m args below meth c Z n0 T cells slots D) (hx : p.tables.exec = Jvm.exec) (hZ : Z.Warmed39 s.vm) {aty : ArrayType} (w : (Cond.arrayClass (newarray.typeOf aty)).before a0 Z = true) {g : JFrame} (hg : g.method = m) (hd : decode c.code g.pc = .ok (.newarray aty, 2)) {z : Int32} {rest : List Value} (hs : g.stack = .int z :: rest)
    (hn : ¬ z < 0) {cap N : Nat} (hN : z.toNatClampNeg = N) (hcap : N ≤ cap) (hb : cap * 8 ≤ 536870912) (hc : cells + 1 ≤ R.cells) (hl : slots + cap ≤ R.slots) {dv : Value} (hdv : defaultValue (newarray.typeOf aty) = dv)
    (k : ∀ T' a, On p l e R s m args below meth c Z n0 T' (cells + 1) (slots + cap) (D ++ [ar a (newarray.typeOf aty) z (List.replicate N dv)]) → Rn p e below F T' { g with pc := g.pc + 2, stack := .ref a :: rest }) : Rn p e below F T g := by
  obtain ⟨locs, X, Nl, H⟩ := Y
  subst hN hdv
  obtain ⟨T', h', cA, X', e', E, A, st⟩ := newP X hx hZ w rfl hg hd hs hn hcap hb hc hl
  refine Rn.go st (k T' _ ⟨_, X', Nl, ?_⟩)
  rw [e']
  exact H.new E (show Ary Z h' _ _ z _ from ⟨⟨_, (Arv.new A hn).pad (pad_rep [] _ _), fun C hC => by cases aty <;> cases hC⟩, by simp⟩)
theorem On.newr (Y : On p l e R s m args below meth c Z n0 T cells slots D) (hx : p.tables.exec = Jvm.exec) (hZ : Z.Warmed39 s.vm) {own : String} {index : Nat} (hown : s.vm.findClass own = some m.cls) (w1 : (Cond.classLink own index C).before a0 Z = true) (w2 : (Cond.arrayOver (.object C)).before a0 Z = true) {g : JFrame} (hg : g.method = m) (hd : decode c.code g.pc = .ok (.anewarray index, 3)) {z : Int32} {rest : List Value} (hs : g.stack = .int z :: rest)
    (hn : ¬ z < 0) {cap N : Nat} (hN : z.toNatClampNeg = N) (hcap : N ≤ cap) (hb : cap * 8 ≤ 536870912) (hc : cells + 1 ≤ R.cells) (hl : slots + cap ≤ R.slots)
    (k : ∀ T' a, On p l e R s m args below meth c Z n0 T' (cells + 1) (slots + cap) (D ++ [ar a (.object C) z (List.replicate N .null)]) → Rn p e below F T' { g with pc := g.pc + 3, stack := .ref a :: rest }) : Rn p e below F T g := by
  obtain ⟨locs, X, Nl, H⟩ := Y
  subst hN
  obtain ⟨T', h', cA, X', e', E, A, O, st⟩ := newR X hx hZ hown w1 w2 rfl hg hd hs hn hcap hb hc hl
  refine Rn.go st (k T' _ ⟨_, X', Nl, ?_⟩)
  rw [e']
  exact H.new E (show Ary Z h' _ _ z _ from ⟨⟨_, (Arv.new A hn).pad (pad_rep [] _ _), fun C' hC => by cases hC; exact O⟩, by simp⟩)
theorem On.isto (Y : On p l e R s m args below meth c Z n0 T cells slots D) (hx : p.tables.exec = Jvm.exec) (hZ : Z.Warmed39 s.vm) {xs : List Int32} (hi : D[i]? = some (ari a .int z xs)) {k x : Int32} (hk : ¬ k < 0) (hl : k.toNatClampNeg < xs.length)
    {g : JFrame} (hg : g.method = m) {rest : List Value} (hs : g.stack = .int x :: .int k :: .ref a :: rest) (hd : decode c.code g.pc = .ok (.iastore, 1))
    (kk : ∀ T', On p l e R s m args below meth c Z n0 T' cells slots (D.set i (ari a .int z (xs.set k.toNatClampNeg x))) → Rn p e below F T' { g with pc := g.pc + 1, stack := rest }) : Rn p e below F T g := by
  obtain ⟨locs, X, N, H⟩ := Y
  obtain ⟨⟨kc, ⟨cl, A, q1, S, q3, Hh, G⟩, -⟩, q⟩ := H.ary hi
  have hl' : k.toNatClampNeg < (xs.map Value.int).length := by simpa using hl
  obtain ⟨T', h', X', e', W, st⟩ := stI X hx hZ rfl A (fun r => r.elim hk fun r => absurd hl' (by rw [q, ← S]; exact Nat.not_lt.mpr r)) hg hs hd
  have hfr := (H.get hi).1.arr hl'
  refine Rn.go st (kk T' ⟨_, X', Fr.snoc X' N hfr, ?_⟩)
  rw [e']
  refine H.upd hi hfr W fun O => ?_
  have := Ary.put hk hl' rfl W O
  rw [← List.map_set] at this
  exact this
theorem On.bsto (Y : On p l e R s m args below meth c Z n0 T cells slots D) (hx : p.tables.exec = Jvm.exec) (hZ : Z.Warmed39 s.vm) {xs : List Int32} (hi : D[i]? = some (ari a .byte z xs)) {k x : Int32} (hk : ¬ k < 0) (hl : k.toNatClampNeg < xs.length)
    {g : JFrame} (hg : g.method = m) {rest : List Value} (hs : g.stack = .int x :: .int k :: .ref a :: rest) (hd : decode c.code g.pc = .ok (.bastore, 1))
    (kk : ∀ T', On p l e R s m args below meth c Z n0 T' cells slots (D.set i (ari a .byte z (xs.set k.toNatClampNeg x.toInt8.toInt32))) → Rn p e below F T' { g with pc := g.pc + 1, stack := rest }) : Rn p e below F T g := by
  obtain ⟨locs, X, N, H⟩ := Y
  obtain ⟨⟨kc, ⟨cl, A, q1, S, q3, Hh, G⟩, -⟩, q⟩ := H.ary hi
  have hl' : k.toNatClampNeg < (xs.map Value.int).length := by simpa using hl
  obtain ⟨T', h', X', e', W, st⟩ := stB X hx hZ rfl A (fun r => r.elim hk fun r => absurd hl' (by rw [q, ← S]; exact Nat.not_lt.mpr r)) hg hs hd
  have hfr := (H.get hi).1.arr hl'
  refine Rn.go st (kk T' ⟨_, X', Fr.snoc X' N hfr, ?_⟩)
  rw [e']
  refine H.upd hi hfr W fun O => ?_
  have := Ary.put hk hl' (fits_nar_byte _) W O
  rw [← List.map_set] at this
  exact this
theorem On.zsto (Y : On p l e R s m args below meth c Z n0 T cells slots D) (hx : p.tables.exec = Jvm.exec) (hZ : Z.Warmed39 s.vm) {xs : List Int32} (hi : D[i]? = some (ari a .boolean z xs)) {k x : Int32} (hk : ¬ k < 0) (hl : k.toNatClampNeg < xs.length)
    {g : JFrame} (hg : g.method = m) {rest : List Value} (hs : g.stack = .int x :: .int k :: .ref a :: rest) (hd : decode c.code g.pc = .ok (.bastore, 1))
    (kk : ∀ T', On p l e R s m args below meth c Z n0 T' cells slots (D.set i (ari a .boolean z (xs.set k.toNatClampNeg (x &&& 1)))) → Rn p e below F T' { g with pc := g.pc + 1, stack := rest }) : Rn p e below F T g := by
  obtain ⟨locs, X, N, H⟩ := Y
  obtain ⟨⟨kc, ⟨cl, A, q1, S, q3, Hh, G⟩, -⟩, q⟩ := H.ary hi
  have hl' : k.toNatClampNeg < (xs.map Value.int).length := by simpa using hl
  obtain ⟨T', h', X', e', W, st⟩ := stZ X hx hZ rfl A (fun r => r.elim hk fun r => absurd hl' (by rw [q, ← S]; exact Nat.not_lt.mpr r)) hg hs hd
  have hfr := (H.get hi).1.arr hl'
  refine Rn.go st (kk T' ⟨_, X', Fr.snoc X' N hfr, ?_⟩)
  rw [e']
  refine H.upd hi hfr W fun O => ?_
  have := Ary.put hk hl' (fits_nar_bool _) W O
  rw [← List.map_set] at this
  exact this
theorem On.jsto (Y : On p l e R s m args below meth c Z n0 T cells slots D) (hx : p.tables.exec = Jvm.exec) (hZ : Z.Warmed39 s.vm) {xs : List Int64} (hi : D[i]? = some (arj a z xs)) {k : Int32} {x : Int64} (hk : ¬ k < 0) (hl : k.toNatClampNeg < xs.length)
    {g : JFrame} (hg : g.method = m) {rest : List Value} (hs : g.stack = .long x :: .int k :: .ref a :: rest) (hd : decode c.code g.pc = .ok (.lastore, 1))
    (kk : ∀ T', On p l e R s m args below meth c Z n0 T' cells slots (D.set i (arj a z (xs.set k.toNatClampNeg x))) → Rn p e below F T' { g with pc := g.pc + 1, stack := rest }) : Rn p e below F T g := by
  obtain ⟨locs, X, N, H⟩ := Y
  obtain ⟨⟨kc, ⟨cl, A, q1, S, q3, Hh, G⟩, -⟩, q⟩ := H.ary hi
  have hl' : k.toNatClampNeg < (xs.map Value.long).length := by simpa using hl
  obtain ⟨T', h', X', e', W, st⟩ := stJ X hx hZ rfl A (fun r => r.elim hk fun r => absurd hl' (by rw [q, ← S]; exact Nat.not_lt.mpr r)) hg hs hd
  have hfr := (H.get hi).1.arr hl'
  refine Rn.go st (kk T' ⟨_, X', Fr.snoc X' N hfr, ?_⟩)
  rw [e']
  refine H.upd hi hfr W fun O => ?_
  have := Ary.put hk hl' rfl W O
  rw [← List.map_set] at this
  exact this
/-- the cell of an array, opened for a load -/
theorem Ary.at (O : Ary Z h a ty z vs) {k : Int32} (hk : ¬ k < 0) (hv : vs[k.toNatClampNeg]? = some v) : ∃ cl, Arr Z h a cl ty ∧ ¬ (k < 0 ∨ cl.slots.size ≤ k.toNatClampNeg) ∧ cl.slots[k.toNatClampNeg]? = some v := by
  obtain ⟨⟨kc, ⟨cl, A, q1, S, q3, H, G⟩, -⟩, q⟩ := O
  have hl := (List.getElem?_eq_some_iff.mp hv).1
  have hl2 : k.toNatClampNeg < cl.slots.size := by rw [S, ← q]; exact hl
  exact ⟨cl, A, fun r => r.elim hk (Nat.not_le.mpr hl2), by rw [H _ hl2, List.getD_eq_getElem?_getD, hv]; rfl⟩
theorem On.ild (Y : On p l e R s m args below meth c Z n0 T cells slots D) (hx : p.tables.exec = Jvm.exec) (hZ : Z.Warmed39 s.vm) {xs : List Int32} (hi : D[i]? = some (ari a .int z xs)) {k x : Int32} (hk : ¬ k < 0) (hv : xs[k.toNatClampNeg]? = some x)
    {g : JFrame} (hg : g.method = m) {rest : List Value} (hs : g.stack = .int k :: .ref a :: rest) (hd : decode c.code g.pc = .ok (.iaload, 1))
    (kk : Rn p e below F T { g with pc := g.pc + 1, stack := .int x :: rest }) : Rn p e below F T g := by
  obtain ⟨locs, X, N, H⟩ := Y
  obtain ⟨cl, A, h1, h2⟩ := (H.ary hi).at (v := .int x) hk (by simp [List.getElem?_map, hv])
  exact Rn.go (fun t kt => X.iaload hx A.1 (State.isArrayOf_alike hZ.alike A.2.1) A.2.2 h1 h2 hg hs hd t kt) kk
theorem On.bld (Y : On p l e R s m args below meth c Z n0 T cells slots D) (hx : p.tables.exec = Jvm.exec) (hZ : Z.Warmed39 s.vm) {xs : List Int32} (hi : D[i]? = some (ari a .byte z xs)) {k x : Int32} (hk : ¬ k < 0) (hv : xs[k.toNatClampNeg]? = some x)
    {g : JFrame} (hg : g.method = m) {rest : List Value} (hs : g.stack = .int k :: .ref a :: rest) (hd : decode c.code g.pc = .ok (.baload, 1))
    (kk : Rn p e below F T { g with pc := g.pc + 1, stack := .int x :: rest }) : Rn p e below F T g := by
  obtain ⟨locs, X, N, H⟩ := Y
  obtain ⟨cl, A, h1, h2⟩ := (H.ary hi).at (v := .int x) hk (by simp [List.getElem?_map, hv])
  exact Rn.go (fun t kt => X.baloadBytes hx A.1 (State.isArrayOf_alike hZ.alike A.2.1) A.2.2 h1 h2 hg hs hd t kt) kk
theorem On.zld (Y : On p l e R s m args below meth c Z n0 T cells slots D) (hx : p.tables.exec = Jvm.exec) (hZ : Z.Warmed39 s.vm) {xs : List Int32} (hi : D[i]? = some (ari a .boolean z xs)) {k x : Int32} (hk : ¬ k < 0) (hv : xs[k.toNatClampNeg]? = some x)
    {g : JFrame} (hg : g.method = m) {rest : List Value} (hs : g.stack = .int k :: .ref a :: rest) (hd : decode c.code g.pc = .ok (.baload, 1))
    (kk : Rn p e below F T { g with pc := g.pc + 1, stack := .int x :: rest }) : Rn p e below F T g := by
  obtain ⟨locs, X, N, H⟩ := Y
  obtain ⟨cl, A, h1, h2⟩ := (H.ary hi).at (v := .int x) hk (by simp [List.getElem?_map, hv])
  exact Rn.go (fun t kt => X.baloadBooleans hx A.1 (State.isArrayOf_alike hZ.alike A.2.1) A.2.2 h1 h2 hg hs hd t kt) kk
theorem On.jld (Y : On p l e R s m args below meth c Z n0 T cells slots D) (hx : p.tables.exec = Jvm.exec) (hZ : Z.Warmed39 s.vm) {xs : List Int64} (hi : D[i]? = some (arj a z xs)) {k : Int32} {x : Int64} (hk : ¬ k < 0) (hv : xs[k.toNatClampNeg]? = some x)
    {g : JFrame} (hg : g.method = m) {rest : List Value} (hs : g.stack = .int k :: .ref a :: rest) (hd : decode c.code g.pc = .ok (.laload, 1))
    (kk : Rn p e below F T { g with pc := g.pc + 1, stack := .long x :: rest }) : Rn p e below F T g := by
  obtain ⟨locs, X, N, H⟩ := Y
  obtain ⟨cl, A, h1, h2⟩ := (H.ary hi).at (v := .long x) hk (by simp [List.getElem?_map, hv])
  exact Rn.go (fun t kt => X.laload hx A.1 (State.isArrayOf_alike hZ.alike A.2.1) A.2.2 h1 h2 hg hs hd t kt) kk
theorem On.alen (Y : On p l e R s m args below meth c Z n0 T cells slots D) (hx : p.tables.exec = Jvm.exec) (hZ : Z.Warmed39 s.vm) (hi : D[i]? = some (ar a ty z vs))
    {g : JFrame} (hg : g.method = m) {rest : List Value} (hs : g.stack = .ref a :: rest) (hd : decode c.code g.pc = .ok (.arraylength, 1))
    (kk : Rn p e below F T { g with pc := g.pc + 1, stack := .int z :: rest }) : Rn p e below F T g := by
  obtain ⟨locs, X, N, H⟩ := Y
  obtain ⟨⟨kc, ⟨cl, A, q1, S, q3, Hh, G⟩, -⟩, q⟩ := H.ary hi
  refine Rn.go (fun t kt => X.arraylength hx A.1 (State.isArrayOf_alike hZ.alike A.2.1) hg hs hd t kt) ?_
  rw [len_of S q3]; exact kk
theorem On.ldcI (Y : On p l e R s m args below meth c Z n0 T cells slots D) (hx : p.tables.exec = Jvm.exec) (hZ : Z.Warmed39 s.vm) {own : String} {index : Nat} {x : Int32} (hown : s.vm.findClass own = some m.cls) (w : (Cond.constant own index x).before a0 Z = true)
    {g : JFrame} (hg : g.method = m) (hd : decode c.code g.pc = .ok (.ldc index, 2)) (kk : Rn p e below F T { g with pc := g.pc + 2, stack := .int x :: g.stack }) : Rn p e below F T g := by
  obtain ⟨locs, X, N, H⟩ := Y
  exact Rn.go (X.ldcInt hx hown (mvT hZ w) hg hd) kk
theorem On.ldcJ (Y : On p l e R s m args below meth c Z n0 T cells slots D) (hx : p.tables.exec = Jvm.exec) (hZ : Z.Warmed39 s.vm) {own : String} {index : Nat} {x : Int64} (hown : s.vm.findClass own = some m.cls) (w : (Cond.constantLong own index x).before a0 Z = true)
    {g : JFrame} (hg : g.method = m) (hd : decode c.code g.pc = .ok (.ldc2_w index, 3)) (kk : Rn p e below F T { g with pc := g.pc + 3, stack := .long x :: g.stack }) : Rn p e below F T g := by
  obtain ⟨locs, X, N, H⟩ := Y
  exact Rn.go (X.ldc2Long hx hown (mvT hZ w) hg hd) kk
theorem On.sldcI (Y : On p l e R s m args below meth c Z n0 T cells slots D) (hx : p.tables.exec = Jvm.exec) (hZ : Z.Warmed39 s.vm) {own : String} {index : Nat} {x : Int32} (hown : s.vm.findClass own = some m.cls) (w : (Cond.constant own index x).before a0 Z = true)
    {g : JFrame} (hg : g.method = m) (hd : decode c.code g.pc = .ok (.ldc index, 2)) : ∀ t, Steps p.tables e below (T.setTop { g with pc := g.pc + 2, stack := .int x :: g.stack }) t → Steps p.tables e below (T.setTop g) t := by
  obtain ⟨locs, X, N, H⟩ := Y
  exact X.ldcInt hx hown (mvT hZ w) hg hd
theorem On.sldcJ (Y : On p l e R s m args below meth c Z n0 T cells slots D) (hx : p.tables.exec = Jvm.exec) (hZ : Z.Warmed39 s.vm) {own : String} {index : Nat} {x : Int64} (hown : s.vm.findClass own = some m.cls) (w : (Cond.constantLong own index x).before a0 Z = true)
    {g : JFrame} (hg : g.method = m) (hd : decode c.code g.pc = .ok (.ldc2_w index, 3)) : ∀ t, Steps p.tables e below (T.setTop { g with pc := g.pc + 3, stack := .long x :: g.stack }) t → Steps p.tables e below (T.setTop g) t := by
  obtain ⟨locs, X, N, H⟩ := Y
  exact X.ldc2Long hx hown (mvT hZ w) hg hd
theorem On.ini (Y : On p l e R s m args below meth c Z n0 T cells slots D) (hx : p.tables.exec = Jvm.exec) (hZ : Z.Warmed39 s.vm) {own : String} {idx : Nat} (hown : s.vm.findClass own = some m.cls) (w1 : (Cond.methodLink own idx Lib.objectInit).before a0 Z = true) (w2 : (Cond.instanceMethod Lib.objectInit).before a0 Z = true)
    (w3 : (Cond.code Lib.objectInit ⟨#[0xb1]⟩ 1 none).before a0 Z = true) {g : JFrame} (hg : g.method = m) (hsize : g.locals.size = c.maxLocals) {a : Addr} {rest : List Value} (hs : g.stack = .ref a :: rest) (hd : decode c.code g.pc = .ok (.invokespecial idx, 3))
    (hf : 1 ≤ R.frames) {W : Nat} (hW : 2 * g.monitorRoom + (rest.map fun v => v.category).sum ≤ W) (hl : W + 12 ≤ R.locals)
    (k : ∀ T', On p l e R s m args below meth c Z n0 T' cells slots D → Rn p e below F T' { g with pc := g.pc + 3, stack := rest }) : Rn p e below F T g := by
  obtain ⟨locs, X, N, H⟩ := Y
  obtain ⟨T', X', e', st⟩ := initO X hx hZ hown w1 w2 w3 rfl hg hsize hs hd hf hW hl
  exact Rn.go st (k T' ⟨locs, X', N, by rw [e']; exact H⟩)
/-! ## D. A method's contract: from a heap that holds D, with these arguments, it returns v and leaves a heap that holds D', where P v D' -/
def QP (Z : State) (n0 : Nat) (P : Option Value → List (Addr × Itm) → Prop) (v : Option Value) (h : Heap) (L : List Loc) : Prop := ∃ D', P v D' ∧ Fr n0 L ∧ Hp Z n0 h D'
def Con (l : Launch) (Z : State) (n0 : Nat) (y : MethodName) (bytes : ByteArray) (maxL : Nat) (ret : Option FieldType) (rm : Room) (as : Array Value) (D : List (Addr × Itm)) (P : Option Value → List (Addr × Itm) → Prop) : Prop :=
  ∀ (ws : List Cond) (h0 : Heap), Hp Z n0 h0 D → MetFree l y (head1 (Cond.code y bytes maxL ret :: ws) rm) (fun a U => a = as ∧ Z.Warmed39 U.vm ∧ U.heap = h0) (fun _ _ _ _ _ => True) (fun _ U o U' => ∃ v L, o = .returned v ∧ QP Z n0 P v U'.heap L ∧ FrameEnd U o U' L rm.cells rm.slots)
def Cx (p : Program) (s : State) (m : MethodId) (meth : Method) (c : Code) (Z : State) (y : MethodName) (bytes : ByteArray) (maxL : Nat) (ret : Option FieldType) : Prop :=
  p.tables.exec = Jvm.exec ∧ c.code = bytes ∧ c.maxLocals = maxL ∧ s.vm.findClass y.cls = some m.cls ∧ meth.name = y.name ∧ meth.sig.returnType = ret ∧ meth.locks = false ∧ Z.Warmed39 s.vm
def Fi (Z : State) (n0 : Nat) (below : List Frame) (s : State) (kc ks : Nat) (P : Option Value → List (Addr × Itm) → Prop) (U : State) : Prop := ∃ o, U.status = .running ∧ Ended U below o ∧ ∃ v L, o = .returned v ∧ QP Z n0 P v U.heap L ∧ FrameEnd s o U L kc ks
variable {y : MethodName} {bytes : ByteArray} {maxL : Nat} {ret : Option FieldType} {rm : Room} {as : Array Value} {P : Option Value → List (Addr × Itm) → Prop} {kc ks : Nat}
theorem Con.of (hp : plainFor y = true) (body : ∀ {p : Program} {e : Env} {s : State} {m : MethodId} {below : List Frame} {meth : Method} {c : Code} {T : State}, Cx p s m meth c Z y bytes maxL ret → On p l e rm s m as below meth c Z n0 T 0 0 D → Rn p e below (Fi Z n0 below s rm.cells rm.slots P) T (entryFrame m as maxL)) :
    Con l Z n0 y bytes maxL ret rm as D P := by
  intro ws h0 H
  refine MetFree.of_bodySF hp hisR ?_
  intro p e s m args below meth c s₁ Bd hml0 hP hK
  obtain ⟨rfl, hZ, hh⟩ := hP
  have X0 : Stand p l e rm s m args below meth c s₁ [] 0 0 := Stand.of_body Bd
  have e0 : s₁.heap = h0 := by rw [← hh, Bd.state]; rfl
  obtain ⟨U, h1, o, h2, h3, h4⟩ := body ⟨Bd.exec, Bd.bytes, hml0, findClass_of_methodNamed Bd.named, (name_of_methodNamed Bd.named Bd.method).1, Bd.returns, Bd.notSynchronized, hZ⟩ ⟨[], X0, Fr.nil n0, by rw [e0]; exact H⟩
  exact ⟨U, o, h1, h2, h3, h4⟩
theorem On.out (Y : On p l e R s m args below meth c Z n0 T cells slots D) {v : Option Value} (hv : meth.sig.returnType = none → v = none) (hlk : meth.locks = false) (hc : cells ≤ kc) (hs : slots ≤ ks) (hP : P v D)
    (st : ∀ locs fs, Stand p l e R s m args below meth c T locs cells slots → (∀ (f : JFrame) (acts : List Action), f.method = m → f.locked = none → f.entered = [] → (doReturn e (T.setTop f) acts v).1 = T.setFrames fs) → Steps p.tables e below (T.setTop g) (T.setFrames fs)) : Rn p e below (Fi Z n0 below s kc ks P) T g := by
  obtain ⟨locs, X, N, H⟩ := Y
  obtain ⟨fs, hr, hrun, hended, hW, hsame⟩ := X.leave hv hlk
  exact ⟨_, st locs fs X hr, _, hrun, hended, _, _, rfl, ⟨D, hP, N, H⟩, ⟨_, rfl⟩, hW, hsame.mono hc hs⟩
theorem On.retv (Y : On p l e R s m args below meth c Z n0 T cells slots D) (hx : p.tables.exec = Jvm.exec) (hret : meth.sig.returnType = none) (hlk : meth.locks = false) {pc : Nat} {Ls : Array Slot} (hd : decode c.code pc = .ok (.return_, 1)) (hc : cells ≤ kc) (hs : slots ≤ ks) (hP : P none D) : Rn p e below (Fi Z n0 below s kc ks P) T (mkF m pc Ls []) :=
  Y.out (fun _ => rfl) hlk hc hs hP fun locs fs X hr => X.returnOut hx hret hd hr
theorem On.reti (Y : On p l e R s m args below meth c Z n0 T cells slots D) (hx : p.tables.exec = Jvm.exec) (hret : meth.sig.returnType = some .int) (hlk : meth.locks = false) {pc : Nat} {Ls : Array Slot} {z : Int32} {rest : List Value} (hd : decode c.code pc = .ok (.ireturn, 1)) (hc : cells ≤ kc) (hs : slots ≤ ks) (hP : P (some (.int z)) D) : Rn p e below (Fi Z n0 below s kc ks P) T (mkF m pc Ls (.int z :: rest)) :=
  Y.out (fun q => by rw [hret] at q; cases q) hlk hc hs hP fun locs fs X hr => retOut X hx hret rfl (Or.inl ⟨rfl, Or.inl rfl, _, rfl⟩) hd hr
theorem On.retn (Y : On p l e R s m args below meth c Z n0 T cells slots D) (hx : p.tables.exec = Jvm.exec) {t : FieldType} (hret : meth.sig.returnType = some t) (ht : t = .boolean ∨ t = .byte ∨ t = .char ∨ t = .short) (hlk : meth.locks = false) {pc : Nat} {Ls : Array Slot} {z z' : Int32} (hz : nar t z = z') {rest : List Value} (hd : decode c.code pc = .ok (.ireturn, 1)) (hc : cells ≤ kc) (hs : slots ≤ ks) (hP : P (some (.int z')) D) : Rn p e below (Fi Z n0 below s kc ks P) T (mkF m pc Ls (.int z :: rest)) := by
  subst hz
  exact Y.out (fun q => by rw [hret] at q; cases q) hlk hc hs hP fun locs fs X hr => retN X hx hret ht hd hr
theorem On.retj (Y : On p l e R s m args below meth c Z n0 T cells slots D) (hx : p.tables.exec = Jvm.exec) (hret : meth.sig.returnType = some .long) (hlk : meth.locks = false) {pc : Nat} {Ls : Array Slot} {z : Int64} {rest : List Value} (hd : decode c.code pc = .ok (.lreturn, 1)) (hc : cells ≤ kc) (hs : slots ≤ ks) (hP : P (some (.long z)) D) : Rn p e below (Fi Z n0 below s kc ks P) T (mkF m pc Ls (.long z :: rest)) :=
  Y.out (fun q => by rw [hret] at q; cases q) hlk hc hs hP fun locs fs X hr => retOut X hx hret rfl (Or.inr (Or.inl ⟨rfl, rfl, _, rfl⟩)) hd hr
theorem On.reta (Y : On p l e R s m args below meth c Z n0 T cells slots D) (hx : p.tables.exec = Jvm.exec) {t : FieldType} (hret : meth.sig.returnType = some t) (ht : t.isReference = true) (hlk : meth.locks = false) {pc : Nat} {Ls : Array Slot} {z : Value} (hz : z.isRef = true) (hn : narrow t z = z) {rest : List Value} (hd : decode c.code pc = .ok (.areturn, 1)) (hc : cells ≤ kc) (hs : slots ≤ ks) (hP : P (some z) D) : Rn p e below (Fi Z n0 below s kc ks P) T (mkF m pc Ls (z :: rest)) :=
  Y.out (fun q => by rw [hret] at q; cases q) hlk hc hs hP fun locs fs X hr => retOut X hx hret hn (Or.inr (Or.inr (Or.inr (Or.inr ⟨rfl, ht, hz⟩)))) hd hr
/-! ## E. Calls -/
theorem On.special (Y : On p l e R s m args below meth c Z n0 T cells slots D) (hx : p.tables.exec = Jvm.exec) (hZ : Z.Warmed39 s.vm) {own : String} {index : Nat} (hy1 : y.name = "<init>") (hown : s.vm.findClass own = some m.cls) (w1 : (Cond.methodLink own index y).before a0 Z = true) (w2 : (Cond.instanceMethod y).before a0 Z = true) (w3 : (Cond.code y bytes maxL none).before a0 Z = true) (w4 : (Cond.initialized y.cls).before a0 Z = true)
    (hy : y.cls ≠ "java/lang/invoke/MethodHandle" ∧ y.cls ≠ "java/lang/invoke/VarHandle") {a : Addr} {argsL rest : List Value} (K : Con l Z n0 y bytes maxL none rm (.ref a :: argsL).toArray D P)
    {W : Nat} (hf : rm.frames + 1 ≤ R.frames) (hl : W + (maxL + 11) + rm.locals ≤ R.locals) (hc : cells + rm.cells ≤ R.cells) (hs : slots + rm.slots ≤ R.slots)
    {g : JFrame} (hg : g.method = m) (hsize : g.locals.size = c.maxLocals) (hlen : ∀ sig, parseMethodDescriptor y.desc = some sig → argsL.length = sig.parameters.length) (hstack : g.stack = argsL.reverse ++ .ref a :: rest) (hW : 2 * g.monitorRoom + (rest.map fun v => v.category).sum ≤ W) (hd : decode c.code g.pc = .ok (.invokespecial index, 3))
    (k : ∀ T' v D', P v D' → On p l e R s m args below meth c Z n0 T' (cells + rm.cells) (slots + rm.slots) D' → Rn p e below F T' { g with pc := g.pc + 3, stack := v.toList ++ rest }) : Rn p e below F T g := by
  obtain ⟨locs, X, N, H⟩ := Y
  obtain ⟨v, _, ⟨T', L', k', n'⟩, -, X', ⟨Lc, hQ, l', y', z'⟩, st⟩ := X.specialBack hx hy1 hown (mvT hZ w1) (mvT hZ w2) (mvT hZ w3) hy (backOf (W := W) (K [] T.heap H) hZ w3 w4 hf hl) hg hsize (Steps.refl _) (a := a) (argsL := argsL) (rest := rest) hlen hstack hW hd (fun _ _ => ⟨rfl, rfl, hc, hs⟩)
  dsimp only [Pt.U, Pt.locs, Pt.cells, Pt.slots] at X' l' y' z' st hQ
  subst l' y' z'
  obtain ⟨D', hP, N', H'⟩ := hQ
  exact Rn.to st (k T' v D' hP ⟨_, X', Fr.app N N', H'⟩)
theorem On.virtual (Y : On p l e R s m args below meth c Z n0 T cells slots D) (hx : p.tables.exec = Jvm.exec) (hZ : Z.Warmed39 s.vm) {own : String} {index : Nat} (hown : s.vm.findClass own = some m.cls) (w1 : (Cond.methodLink own index y).before a0 Z = true) (w2 : (Cond.declares y).before a0 Z = true) (w3 : (Cond.instanceMethod y).before a0 Z = true) (w4 : (Cond.selects C y y).before a0 Z = true) (w5 : (Cond.code y bytes maxL ret).before a0 Z = true) (w6 : (Cond.initialized y.cls).before a0 Z = true)
    (hy : y.cls ≠ "java/lang/invoke/MethodHandle" ∧ y.cls ≠ "java/lang/invoke/VarHandle") {a : Addr} {argsL rest : List Value} (hi : D[i]? = some (ob a C fs)) (K : Con l Z n0 y bytes maxL ret rm (.ref a :: argsL).toArray D P)
    {W : Nat} (hf : rm.frames + 1 ≤ R.frames) (hl : W + (maxL + 11) + rm.locals ≤ R.locals) (hc : cells + rm.cells ≤ R.cells) (hs : slots + rm.slots ≤ R.slots)
    {g : JFrame} (hg : g.method = m) (hsize : g.locals.size = c.maxLocals) (hlen : ∀ sig, parseMethodDescriptor y.desc = some sig → argsL.length = sig.parameters.length) (hstack : g.stack = argsL.reverse ++ .ref a :: rest) (hW : 2 * g.monitorRoom + (rest.map fun v => v.category).sum ≤ W) (hd : decode c.code g.pc = .ok (.invokevirtual index, 3))
    (k : ∀ T' v D', P v D' → On p l e R s m args below meth c Z n0 T' (cells + rm.cells) (slots + rm.slots) D' → Rn p e below F T' { g with pc := g.pc + 3, stack := v.toList ++ rest }) : Rn p e below F T g := by
  obtain ⟨locs, X, N, H⟩ := Y
  obtain ⟨cq, kq, qa, qb, qc⟩ := isOf hZ rfl (H.exa hi)
  obtain ⟨v, _, ⟨T', L', k', n'⟩, -, X', ⟨Lc, hQ, l', y', z'⟩, st⟩ := X.virtualBack hx (y := y) (z := y) hown (mvT hZ w1) (mvT hZ w2) (notFace_of_selects (args := #[]) (mvT hZ w4)) (mvT hZ w4) (mvT hZ w3) hy (backOf (W := W) (K [] T.heap H) hZ w5 w6 hf hl) qa qc hg hsize (Steps.refl _) (argsL := argsL) (rest := rest) hlen hstack hW hd (fun _ _ => ⟨rfl, rfl, hc, hs⟩)
  dsimp only [Pt.U, Pt.locs, Pt.cells, Pt.slots] at X' l' y' z' st hQ
  subst l' y' z'
  obtain ⟨D', hP, N', H'⟩ := hQ
  exact Rn.to st (k T' v D' hP ⟨_, X', Fr.app N N', H'⟩)
theorem On.static (Y : On p l e R s m args below meth c Z n0 T cells slots D) (hx : p.tables.exec = Jvm.exec) (hZ : Z.Warmed39 s.vm) {own : String} {index : Nat} (hown : s.vm.findClass own = some m.cls) (w1 : (Cond.methodLink own index y).before a0 Z = true) (w2 : (Cond.static y).before a0 Z = true) (w3 : (Cond.code y bytes maxL ret).before a0 Z = true) (w4 : (Cond.initialized y.cls).before a0 Z = true)
    (hy : y.cls ≠ "java/lang/invoke/MethodHandle" ∧ y.cls ≠ "java/lang/invoke/VarHandle") {argsL rest : List Value} (K : Con l Z n0 y bytes maxL ret rm argsL.toArray D P)
    {W : Nat} (hf : rm.frames + 1 ≤ R.frames) (hl : W + (maxL + 11) + rm.locals ≤ R.locals) (hc : cells + rm.cells ≤ R.cells) (hs : slots + rm.slots ≤ R.slots)
    {g : JFrame} (hg : g.method = m) (hsize : g.locals.size = c.maxLocals) (hlen : ∀ sig, parseMethodDescriptor y.desc = some sig → argsL.length = sig.parameters.length) (hstack : g.stack = argsL.reverse ++ rest) (hW : 2 * g.monitorRoom + (rest.map fun v => v.category).sum ≤ W) (hd : decode c.code g.pc = .ok (.invokestatic index, 3))
    (k : ∀ T' v D', P v D' → On p l e R s m args below meth c Z n0 T' (cells + rm.cells) (slots + rm.slots) D' → Rn p e below F T' { g with pc := g.pc + 3, stack := v.toList ++ rest }) : Rn p e below F T g := by
  obtain ⟨locs, X, N, H⟩ := Y
  obtain ⟨v, _, ⟨T', L', k', n'⟩, -, X', ⟨Lc, hQ, l', y', z'⟩, st⟩ := Jvm.LawKit.callS X hx hown (mvT hZ w1) (mvT hZ w2) (mvT hZ w4) (mvT hZ w3) hy (backOf (W := W) (K [] T.heap H) hZ w3 w4 hf hl) hg hsize (argsL := argsL) (rest := rest) hlen hstack hW hd (fun _ _ => ⟨rfl, rfl, hc, hs⟩)
  dsimp only [Pt.U, Pt.locs, Pt.cells, Pt.slots] at X' l' y' z' st hQ
  subst l' y' z'
  obtain ⟨D', hP, N', H'⟩ := hQ
  exact Rn.go st (k T' v D' hP ⟨_, X', Fr.app N N', H'⟩)
theorem On.priv (Y : On p l e R s m args below meth c Z n0 T cells slots D) (hx : p.tables.exec = Jvm.exec) (hZ : Z.Warmed39 s.vm) {own : String} {index kk : Nat} (hown : s.vm.findClass own = some m.cls) (w1 : (Cond.methodLink own index y).before a0 Z = true) (w2 : (Cond.instanceMethod y).before a0 Z = true) (w3 : (Cond.privateMethod y).before a0 Z = true) (wi : (Cond.instantiable y.cls kk).before a0 Z = true) (w4 : (Cond.code y bytes maxL ret).before a0 Z = true) (w5 : (Cond.initialized y.cls).before a0 Z = true)
    (hy : y.cls ≠ "java/lang/invoke/MethodHandle" ∧ y.cls ≠ "java/lang/invoke/VarHandle") {a : Addr} {argsL rest : List Value} (hi : D[i]? = some (ob a C fs)) (K : Con l Z n0 y bytes maxL ret rm (.ref a :: argsL).toArray D P)
    {W : Nat} (hf : rm.frames + 1 ≤ R.frames) (hl : W + (maxL + 11) + rm.locals ≤ R.locals) (hc : cells + rm.cells ≤ R.cells) (hs : slots + rm.slots ≤ R.slots)
    {g : JFrame} (hg : g.method = m) (hsize : g.locals.size = c.maxLocals) (hlen : ∀ sig, parseMethodDescriptor y.desc = some sig → argsL.length = sig.parameters.length) (hstack : g.stack = argsL.reverse ++ .ref a :: rest) (hW : 2 * g.monitorRoom + (rest.map fun v => v.category).sum ≤ W) (hd : decode c.code g.pc = .ok (.invokevirtual index, 3))
    (k : ∀ T' v D', P v D' → On p l e R s m args below meth c Z n0 T' (cells + rm.cells) (slots + rm.slots) D' → Rn p e below F T' { g with pc := g.pc + 3, stack := v.toList ++ rest }) : Rn p e below F T g := by
  obtain ⟨locs, X, N, H⟩ := Y
  have hp : s.PrivateAt y := Cond.privateMethod_at (mvP hZ w3 (args := #[]))
  have wi' : (Cond.instantiable y.cls kk).before args s = true := mvT hZ wi
  obtain ⟨cc, kc, i1, i2, -, i4, -⟩ := Cond.instantiable_spec wi'
  have hsel : (Cond.selects y.cls y y).before args s = true := selects_self_of_private i1 i2 (by simp at i4; exact i4.1) hp (mvT hZ w2) hy
  obtain ⟨cq, q, q'⟩ := (H.exa hi).cell
  obtain ⟨v, _, ⟨T', L', k', n'⟩, -, X', ⟨Lc, hQ, l', y', z'⟩, st⟩ := X.privateBack hx (y := y) hown (mvT hZ w1) (mvT hZ w2) hsel hp (mvT hZ w4) hy (backOf (W := W) (K [] T.heap H) hZ w4 w5 hf hl) hg hsize (Steps.refl _) (a := a) q q' (argsL := argsL) (rest := rest) hlen hstack hW hd (fun _ _ => ⟨rfl, rfl, hc, hs⟩)
  dsimp only [Pt.U, Pt.locs, Pt.cells, Pt.slots] at X' l' y' z' st hQ
  subst l' y' z'
  obtain ⟨D', hP, N', H'⟩ := hQ
  exact Rn.to st (k T' v D' hP ⟨_, X', Fr.app N N', H'⟩)
theorem On.insY (Y : On p l e R s m args below meth c Z n0 T cells slots D) (hx : p.tables.exec = Jvm.exec) (hZ : Z.Warmed39 s.vm) {own : String} {index : Nat} (hown : s.vm.findClass own = some m.cls) (w : (Cond.classLink own index C).before a0 Z = true) (hi : D[i]? = some (ob a C fs))
    {g : JFrame} (hg : g.method = m) {rest : List Value} (hs : g.stack = .ref a :: rest) (hd : decode c.code g.pc = .ok (.instanceof index, 3)) (k : ∀ T', On p l e R s m args below meth c Z n0 T' cells slots D → Rn p e below F T' { g with pc := g.pc + 3, stack := .int 1 :: rest }) : Rn p e below F T g := by
  obtain ⟨locs, X, N, H⟩ := Y
  obtain ⟨T', X', e', st⟩ := instY X hx hZ hown w rfl (Ins.self (H.exa hi)) hg hs hd
  exact Rn.go st (k T' ⟨locs, X', N, by rw [e']; exact H⟩)
theorem On.castS (Y : On p l e R s m args below meth c Z n0 T cells slots D) (hx : p.tables.exec = Jvm.exec) (hZ : Z.Warmed39 s.vm) {own : String} {index : Nat} (hown : s.vm.findClass own = some m.cls) (w : (Cond.classLink own index C).before a0 Z = true) (hi : D[i]? = some (ob a C fs))
    {g : JFrame} (hg : g.method = m) {rest : List Value} (hs : g.stack = .ref a :: rest) (hd : decode c.code g.pc = .ok (.checkcast index, 3)) (k : ∀ T', On p l e R s m args below meth c Z n0 T' cells slots D → Rn p e below F T' { g with pc := g.pc + 3 }) : Rn p e below F T g := by
  obtain ⟨locs, X, N, H⟩ := Y
  obtain ⟨T', X', e', st⟩ := castY X hx hZ hown w rfl (Ins.self (H.exa hi)) hg hs hd
  exact Rn.go st (k T' ⟨locs, X', N, by rw [e']; exact H⟩)
theorem On.insN (Y : On p l e R s m args below meth c Z n0 T cells slots D) (hx : p.tables.exec = Jvm.exec) (hZ : Z.Warmed39 s.vm) {own K : String} {index kk : Nat} (hown : s.vm.findClass own = some m.cls) (w : (Cond.classLink own index K).before a0 Z = true) (hi : D[i]? = some (ob a C fs)) (wi : (Cond.instantiable K kk).before a0 Z = true) {ch : List String} (hw : ∀ w ∈ Cond.chainWords (C :: ch), w.before a0 Z = true) (hn : K ∉ C :: ch)
    {g : JFrame} (hg : g.method = m) {rest : List Value} (hs : g.stack = .ref a :: rest) (hd : decode c.code g.pc = .ok (.instanceof index, 3)) (k : ∀ T', On p l e R s m args below meth c Z n0 T' cells slots D → Rn p e below F T' { g with pc := g.pc + 3, stack := .int 0 :: rest }) : Rn p e below F T g := by
  obtain ⟨locs, X, N, H⟩ := Y
  obtain ⟨cy, ky, i1, i2, i3, i4, -⟩ := Cond.instantiable_spec wi
  obtain ⟨cx, kx, j1, -⟩ := Cond.chain_head hw
  obtain ⟨T', X', e', st⟩ := instNo X hx hZ hown w rfl (H.exa hi) ⟨cx, cy, j1, i1, Vm.notAssignable_of_chain j1 i1 i2 i3 (by simp at i4; exact i4.1) hw hn⟩ hg hs hd
  exact Rn.go st (k T' ⟨locs, X', N, by rw [e']; exact H⟩)
theorem On.insNull (Y : On p l e R s m args below meth c Z n0 T cells slots D) (hx : p.tables.exec = Jvm.exec) {index : Nat}
    {g : JFrame} (hg : g.method = m) {rest : List Value} (hs : g.stack = .null :: rest) (hd : decode c.code g.pc = .ok (.instanceof index, 3)) (k : Rn p e below F T { g with pc := g.pc + 3, stack := .int 0 :: rest }) : Rn p e below F T g := by
  obtain ⟨locs, X, N, H⟩ := Y
  exact Rn.go (fun t kt => X.instanceofNull hx hg hs hd t kt) k
end Base
/-! ## F. The words, the instructions, the names -/
theorem w0 {Z : State} {a0 : Array Value} (hw : ∀ d ∈ tables_1, d.before a0 Z = true) : (Jvm.Cond.arrayClass Jvm.ClassFile.FieldType.int).before a0 Z = true := hw _ (List.mem_of_getElem? (i := 0) rfl)
theorem w1 {Z : State} {a0 : Array Value} (hw : ∀ d ∈ tables_1, d.before a0 Z = true) : (Jvm.Cond.methodLink "com/example/cardbench/cardbench/card/Gsm1111ChvNamedPinLaw" (7 : Nat) ({ cls := "com/example/cardbench/cardbench/card/Gsm1111", name := "chvNamed", desc := "(II)I" } : Jvm.MethodName)).before a0 Z = true := hw _ (List.mem_of_getElem? (i := 1) rfl)
theorem w2 {Z : State} {a0 : Array Value} (hw : ∀ d ∈ tables_1, d.before a0 Z = true) : (Jvm.Cond.static ({ cls := "com/example/cardbench/cardbench/card/Gsm1111", name := "chvNamed", desc := "(II)I" } : Jvm.MethodName)).before a0 Z = true := hw _ (List.mem_of_getElem? (i := 2) rfl)
theorem w3 {Z : State} {a0 : Array Value} (hw : ∀ d ∈ tables_1, d.before a0 Z = true) : (Jvm.Cond.initialized "com/example/cardbench/cardbench/card/Gsm1111").before a0 Z = true := hw _ (List.mem_of_getElem? (i := 3) rfl)
theorem w4 {Z : State} {a0 : Array Value} (hw : ∀ d ∈ tables_1, d.before a0 Z = true) : (Jvm.Cond.code ({ cls := "com/example/cardbench/cardbench/card/Gsm1111", name := "chvNamed", desc := "(II)I" } : Jvm.MethodName) prog_7_method_3_code (3 : Nat) (Option.some Jvm.ClassFile.FieldType.int)).before a0 Z = true := hw _ (List.mem_of_getElem? (i := 4) rfl)
theorem w5 {Z : State} {a0 : Array Value} (hw : ∀ d ∈ tables_1, d.before a0 Z = true) : (Jvm.Cond.methodLink "com/example/cardbench/cardbench/card/Gsm1111ChvNamedPinLaw" (13 : Nat) ({ cls := "com/example/cardbench/cardbench/card/Gsm1111ChvNamedPinLaw", name := "expected", desc := "(II)I" } : Jvm.MethodName)).before a0 Z = true := hw _ (List.mem_of_getElem? (i := 5) rfl)
theorem w6 {Z : State} {a0 : Array Value} (hw : ∀ d ∈ tables_1, d.before a0 Z = true) : (Jvm.Cond.static ({ cls := "com/example/cardbench/cardbench/card/Gsm1111ChvNamedPinLaw", name := "expected", desc := "(II)I" } : Jvm.MethodName)).before a0 Z = true := hw _ (List.mem_of_getElem? (i := 6) rfl)
theorem w7 {Z : State} {a0 : Array Value} (hw : ∀ d ∈ tables_1, d.before a0 Z = true) : (Jvm.Cond.initialized "com/example/cardbench/cardbench/card/Gsm1111ChvNamedPinLaw").before a0 Z = true := hw _ (List.mem_of_getElem? (i := 7) rfl)
theorem w8 {Z : State} {a0 : Array Value} (hw : ∀ d ∈ tables_1, d.before a0 Z = true) : (Jvm.Cond.code ({ cls := "com/example/cardbench/cardbench/card/Gsm1111ChvNamedPinLaw", name := "expected", desc := "(II)I" } : Jvm.MethodName) method_3_code (3 : Nat) (Option.some Jvm.ClassFile.FieldType.int)).before a0 Z = true := hw _ (List.mem_of_getElem? (i := 8) rfl)
theorem d1_0 : decode prog_7_method_3_code 0 = .ok (.iload_n 0, 1) := by decide +kernel
theorem d1_1 : decode prog_7_method_3_code 1 = .ok (.bipush 32, 2) := by decide +kernel
theorem d1_3 : decode prog_7_method_3_code 3 = .ok (.if_icmp .eq 27, 3) := by decide +kernel
theorem d1_6 : decode prog_7_method_3_code 6 = .ok (.iload_n 0, 1) := by decide +kernel
theorem d1_7 : decode prog_7_method_3_code 7 = .ok (.bipush 36, 2) := by decide +kernel
theorem d1_9 : decode prog_7_method_3_code 9 = .ok (.if_icmp .eq 21, 3) := by decide +kernel
theorem d1_12 : decode prog_7_method_3_code 12 = .ok (.iload_n 0, 1) := by decide +kernel
theorem d1_13 : decode prog_7_method_3_code 13 = .ok (.bipush 38, 2) := by decide +kernel
theorem d1_15 : decode prog_7_method_3_code 15 = .ok (.if_icmp .eq 15, 3) := by decide +kernel
theorem d1_18 : decode prog_7_method_3_code 18 = .ok (.iload_n 0, 1) := by decide +kernel
theorem d1_19 : decode prog_7_method_3_code 19 = .ok (.bipush 40, 2) := by decide +kernel
theorem d1_21 : decode prog_7_method_3_code 21 = .ok (.if_icmp .eq 9, 3) := by decide +kernel
theorem d1_24 : decode prog_7_method_3_code 24 = .ok (.iload_n 0, 1) := by decide +kernel
theorem d1_25 : decode prog_7_method_3_code 25 = .ok (.bipush 44, 2) := by decide +kernel
theorem d1_27 : decode prog_7_method_3_code 27 = .ok (.if_icmp .ne 7, 3) := by decide +kernel
theorem d1_30 : decode prog_7_method_3_code 30 = .ok (.iconst 1, 1) := by decide +kernel
theorem d1_31 : decode prog_7_method_3_code 31 = .ok (.goto 4, 3) := by decide +kernel
theorem d1_34 : decode prog_7_method_3_code 34 = .ok (.iconst 0, 1) := by decide +kernel
theorem d1_35 : decode prog_7_method_3_code 35 = .ok (.istore_n 2, 1) := by decide +kernel
theorem d1_36 : decode prog_7_method_3_code 36 = .ok (.iload_n 2, 1) := by decide +kernel
theorem d1_37 : decode prog_7_method_3_code 37 = .ok (.ifCond .ne 5, 3) := by decide +kernel
theorem d1_40 : decode prog_7_method_3_code 40 = .ok (.iconst 0, 1) := by decide +kernel
theorem d1_41 : decode prog_7_method_3_code 41 = .ok (.ireturn, 1) := by decide +kernel
theorem d1_42 : decode prog_7_method_3_code 42 = .ok (.iload_n 1, 1) := by decide +kernel
theorem d1_43 : decode prog_7_method_3_code 43 = .ok (.iconst 1, 1) := by decide +kernel
theorem d1_44 : decode prog_7_method_3_code 44 = .ok (.if_icmp .eq 13, 3) := by decide +kernel
theorem d1_47 : decode prog_7_method_3_code 47 = .ok (.iload_n 1, 1) := by decide +kernel
theorem d1_48 : decode prog_7_method_3_code 48 = .ok (.ifCond .ne 11, 3) := by decide +kernel
theorem d1_51 : decode prog_7_method_3_code 51 = .ok (.iload_n 0, 1) := by decide +kernel
theorem d1_52 : decode prog_7_method_3_code 52 = .ok (.bipush 44, 2) := by decide +kernel
theorem d1_54 : decode prog_7_method_3_code 54 = .ok (.if_icmp .ne 5, 3) := by decide +kernel
theorem d1_57 : decode prog_7_method_3_code 57 = .ok (.iconst 1, 1) := by decide +kernel
theorem d1_58 : decode prog_7_method_3_code 58 = .ok (.ireturn, 1) := by decide +kernel
theorem d1_59 : decode prog_7_method_3_code 59 = .ok (.iload_n 1, 1) := by decide +kernel
theorem d1_60 : decode prog_7_method_3_code 60 = .ok (.iconst 2, 1) := by decide +kernel
theorem d1_61 : decode prog_7_method_3_code 61 = .ok (.if_icmp .ne 7, 3) := by decide +kernel
theorem d1_64 : decode prog_7_method_3_code 64 = .ok (.iconst 2, 1) := by decide +kernel
theorem d1_65 : decode prog_7_method_3_code 65 = .ok (.goto 4, 3) := by decide +kernel
theorem d1_68 : decode prog_7_method_3_code 68 = .ok (.iconst 0, 1) := by decide +kernel
theorem d1_69 : decode prog_7_method_3_code 69 = .ok (.ireturn, 1) := by decide +kernel
theorem d2_0 : decode method_3_code 0 = .ok (.iload_n 0, 1) := by decide +kernel
theorem d2_1 : decode method_3_code 1 = .ok (.bipush 44, 2) := by decide +kernel
theorem d2_3 : decode method_3_code 3 = .ok (.if_icmp .ne 8, 3) := by decide +kernel
theorem d2_6 : decode method_3_code 6 = .ok (.iconst 2, 1) := by decide +kernel
theorem d2_7 : decode method_3_code 7 = .ok (.istore_n 2, 1) := by decide +kernel
theorem d2_8 : decode method_3_code 8 = .ok (.goto 34, 3) := by decide +kernel
theorem d2_11 : decode method_3_code 11 = .ok (.iload_n 0, 1) := by decide +kernel
theorem d2_12 : decode method_3_code 12 = .ok (.bipush 32, 2) := by decide +kernel
theorem d2_14 : decode method_3_code 14 = .ok (.if_icmp .eq 21, 3) := by decide +kernel
theorem d2_17 : decode method_3_code 17 = .ok (.iload_n 0, 1) := by decide +kernel
theorem d2_18 : decode method_3_code 18 = .ok (.bipush 36, 2) := by decide +kernel
theorem d2_20 : decode method_3_code 20 = .ok (.if_icmp .eq 15, 3) := by decide +kernel
theorem d2_23 : decode method_3_code 23 = .ok (.iload_n 0, 1) := by decide +kernel
theorem d2_24 : decode method_3_code 24 = .ok (.bipush 38, 2) := by decide +kernel
theorem d2_26 : decode method_3_code 26 = .ok (.if_icmp .eq 9, 3) := by decide +kernel
theorem d2_29 : decode method_3_code 29 = .ok (.iload_n 0, 1) := by decide +kernel
theorem d2_30 : decode method_3_code 30 = .ok (.bipush 40, 2) := by decide +kernel
theorem d2_32 : decode method_3_code 32 = .ok (.if_icmp .ne 8, 3) := by decide +kernel
theorem d2_35 : decode method_3_code 35 = .ok (.iconst 1, 1) := by decide +kernel
theorem d2_36 : decode method_3_code 36 = .ok (.istore_n 2, 1) := by decide +kernel
theorem d2_37 : decode method_3_code 37 = .ok (.goto 5, 3) := by decide +kernel
theorem d2_40 : decode method_3_code 40 = .ok (.iconst 0, 1) := by decide +kernel
theorem d2_41 : decode method_3_code 41 = .ok (.istore_n 2, 1) := by decide +kernel
theorem d2_42 : decode method_3_code 42 = .ok (.iload_n 2, 1) := by decide +kernel
theorem d2_43 : decode method_3_code 43 = .ok (.ifCond .ne 5, 3) := by decide +kernel
theorem d2_46 : decode method_3_code 46 = .ok (.iconst 0, 1) := by decide +kernel
theorem d2_47 : decode method_3_code 47 = .ok (.ireturn, 1) := by decide +kernel
theorem d2_48 : decode method_3_code 48 = .ok (.iload_n 1, 1) := by decide +kernel
theorem d2_49 : decode method_3_code 49 = .ok (.iconst 1, 1) := by decide +kernel
theorem d2_50 : decode method_3_code 50 = .ok (.if_icmp .ne 5, 3) := by decide +kernel
theorem d2_53 : decode method_3_code 53 = .ok (.iconst 1, 1) := by decide +kernel
theorem d2_54 : decode method_3_code 54 = .ok (.ireturn, 1) := by decide +kernel
theorem d2_55 : decode method_3_code 55 = .ok (.iload_n 1, 1) := by decide +kernel
theorem d2_56 : decode method_3_code 56 = .ok (.iconst 2, 1) := by decide +kernel
theorem d2_57 : decode method_3_code 57 = .ok (.if_icmp .ne 5, 3) := by decide +kernel
theorem d2_60 : decode method_3_code 60 = .ok (.iconst 2, 1) := by decide +kernel
theorem d2_61 : decode method_3_code 61 = .ok (.ireturn, 1) := by decide +kernel
theorem d2_62 : decode method_3_code 62 = .ok (.iload_n 1, 1) := by decide +kernel
theorem d2_63 : decode method_3_code 63 = .ok (.ifCond .ne 10, 3) := by decide +kernel
theorem d2_66 : decode method_3_code 66 = .ok (.iload_n 2, 1) := by decide +kernel
theorem d2_67 : decode method_3_code 67 = .ok (.iconst 2, 1) := by decide +kernel
theorem d2_68 : decode method_3_code 68 = .ok (.if_icmp .ne 5, 3) := by decide +kernel
theorem d2_71 : decode method_3_code 71 = .ok (.iconst 1, 1) := by decide +kernel
theorem d2_72 : decode method_3_code 72 = .ok (.ireturn, 1) := by decide +kernel
theorem d2_73 : decode method_3_code 73 = .ok (.iconst 0, 1) := by decide +kernel
theorem d2_74 : decode method_3_code 74 = .ok (.ireturn, 1) := by decide +kernel
theorem pd0 : parseMethodDescriptor "(II)I" = some ⟨[.int, .int], some .int⟩ := by decide +kernel
theorem pn0 : plainName "com/example/cardbench/cardbench/card/Gsm1111" = true := by first | (simp [plainName, overriddenIn]; done) | decide +kernel
theorem pn1 : plainName "com/example/cardbench/cardbench/card/Gsm1111ChvNamedPinLaw" = true := by first | (simp [plainName, overriddenIn]; done) | decide +kernel
/-! ## G. The two methods' values -/
def own_chv (x0 : Int32) (x1 : Int32) : Int32 := (if x0 = (32 : Int32) then (if x1 = (1 : Int32) then (1 : Int32) else (if x1 = (0 : Int32) then (if x0 = (44 : Int32) then (1 : Int32) else (if x1 = (2 : Int32) then (2 : Int32) else (0 : Int32))) else (if x1 = (2 : Int32) then (2 : Int32) else (0 : Int32)))) else (if x0 = (36 : Int32) then (if x1 = (1 : Int32) then (1 : Int32) else (if x1 = (0 : Int32) then (if x0 = (44 : Int32) then (1 : Int32) else (if x1 = (2 : Int32) then (2 : Int32) else (0 : Int32))) else (if x1 = (2 : Int32) then (2 : Int32) else (0 : Int32)))) else (if x0 = (38 : Int32) then (if x1 = (1 : Int32) then (1 : Int32) else (if x1 = (0 : Int32) then (if x0 = (44 : Int32) then (1 : Int32) else (if x1 = (2 : Int32) then (2 : Int32) else (0 : Int32))) else (if x1 = (2 : Int32) then (2 : Int32) else (0 : Int32)))) else (if x0 = (40 : Int32) then (if x1 = (1 : Int32) then (1 : Int32) else (if x1 = (0 : Int32) then (if x0 = (44 : Int32) then (1 : Int32) else (if x1 = (2 : Int32) then (2 : Int32) else (0 : Int32))) else (if x1 = (2 : Int32) then (2 : Int32) else (0 : Int32)))) else (if x0 = (44 : Int32) then (if x1 = (1 : Int32) then (1 : Int32) else (if x1 = (0 : Int32) then (if x0 = (44 : Int32) then (1 : Int32) else (if x1 = (2 : Int32) then (2 : Int32) else (0 : Int32))) else (if x1 = (2 : Int32) then (2 : Int32) else (0 : Int32)))) else (0 : Int32))))))
theorem ef_rm1 (m : MethodId) (x0 : Int32) (x1 : Int32) : entryFrame m #[(.int x0), (.int x1)] 3 = (mkF m 0 #[.val (.int x0), .val (.int x1), .unset] []) := by first | (simp [entryFrame, mkF, argsToLocals, Value.category]; done) | rfl
set_option maxRecDepth 65536 in
set_option maxHeartbeats 40000000 in
theorem rm1 (l : Launch) (Z : State) (a0 : Array Value) (hw : ∀ d ∈ tables_1, d.before a0 Z = true) (n0 : Nat) (x0 : Int32) (x1 : Int32) (Dr : List (Addr × Itm)) :
    Con l Z n0 (⟨"com/example/cardbench/cardbench/card/Gsm1111", "chvNamed", "(II)I"⟩ : MethodName) prog_7_method_3_code 3 (some .int) ({ frames := 0, cells := 0, slots := 0, locals := 0 } : Room) #[(.int x0), (.int x1)] Dr (fun v D' => v = some (.int (own_chv x0 x1)) ∧ D' = Dr) := by
  refine Con.of (plainFor_of_name pn0) ?_
  intro p e s m below meth c T cx Y
  obtain ⟨hx, hby, hml, hown, hnm, hret, hlk, hZ⟩ := cx
  rw [ef_rm1]
  generalize hF : Fi Z n0 below s _ _ _ = F
  refine Rn.go (T' := T) (g' := (mkF m 3 #[.val (.int x0), .val (.int x1), .unset] [(.int (32 : Int32)), (.int x0)])) (fun t k => ?_) ?_
  · show Steps p.tables e below (T.setTop (mkF m 0 #[.val (.int x0), .val (.int x1), .unset] [])) t
    refine XS.iloadN Y.here hx rfl (hb hby d1_0) rfl ?_
    show Steps p.tables e below (T.setTop (mkF m 1 #[.val (.int x0), .val (.int x1), .unset] [(.int x0)])) t
    refine XS.bipush Y.here hx rfl (hb hby d1_1) ?_
    show Steps p.tables e below (T.setTop (mkF m 3 #[.val (.int x0), .val (.int x1), .unset] [(.int (32 : Int32)), (.int x0)])) t
    exact k
  by_cases hc3 : x0 = (32 : Int32)
  · refine Rn.go (T' := T) (g' := (mkF m 30 #[.val (.int x0), .val (.int x1), .unset] [])) (fun t k => XS.icmpYes Y.here hx rfl (pc0 := 3) (pc' := 30) rfl (hb hby d1_3) rfl (teq hc3).1 (by decide) (by decide) k) ?_
    refine Rn.go (T' := T) (g' := (mkF m 37 #[.val (.int x0), .val (.int x1), .val (.int (1 : Int32))] [(.int (1 : Int32))])) (fun t k => ?_) ?_
    · show Steps p.tables e below (T.setTop (mkF m 30 #[.val (.int x0), .val (.int x1), .unset] [])) t
      refine XS.iconst Y.here hx rfl (hb hby d1_30) ?_
      show Steps p.tables e below (T.setTop (mkF m 31 #[.val (.int x0), .val (.int x1), .unset] [(.int (1 : Int32))])) t
      refine XS.goto Y.here hx rfl (pc0 := 31) (pc' := 35) rfl (hb hby d1_31) (by decide) (by decide) ?_
      show Steps p.tables e below (T.setTop (mkF m 35 #[.val (.int x0), .val (.int x1), .unset] [(.int (1 : Int32))])) t
      refine XS.istoreN Y.here hx rfl (hb hby d1_35) rfl (l' := #[.val (.int x0), .val (.int x1), .val (.int (1 : Int32))]) rfl ?_
      show Steps p.tables e below (T.setTop (mkF m 36 #[.val (.int x0), .val (.int x1), .val (.int (1 : Int32))] [])) t
      refine XS.iloadN Y.here hx rfl (hb hby d1_36) rfl ?_
      show Steps p.tables e below (T.setTop (mkF m 37 #[.val (.int x0), .val (.int x1), .val (.int (1 : Int32))] [(.int (1 : Int32))])) t
      exact k
    refine Rn.go (T' := T) (g' := (mkF m 42 #[.val (.int x0), .val (.int x1), .val (.int (1 : Int32))] [])) (fun t k => XS.ifYes Y.here hx rfl (pc0 := 37) (pc' := 42) rfl (hb hby d1_37) rfl ((if0 _ _).trans (feq (by decide)).2) (by decide) (by decide) k) ?_
    refine Rn.go (T' := T) (g' := (mkF m 44 #[.val (.int x0), .val (.int x1), .val (.int (1 : Int32))] [(.int (1 : Int32)), (.int x1)])) (fun t k => ?_) ?_
    · show Steps p.tables e below (T.setTop (mkF m 42 #[.val (.int x0), .val (.int x1), .val (.int (1 : Int32))] [])) t
      refine XS.iloadN Y.here hx rfl (hb hby d1_42) rfl ?_
      show Steps p.tables e below (T.setTop (mkF m 43 #[.val (.int x0), .val (.int x1), .val (.int (1 : Int32))] [(.int x1)])) t
      refine XS.iconst Y.here hx rfl (hb hby d1_43) ?_
      show Steps p.tables e below (T.setTop (mkF m 44 #[.val (.int x0), .val (.int x1), .val (.int (1 : Int32))] [(.int (1 : Int32)), (.int x1)])) t
      exact k
    by_cases hc44 : x1 = (1 : Int32)
    · refine Rn.go (T' := T) (g' := (mkF m 57 #[.val (.int x0), .val (.int x1), .val (.int (1 : Int32))] [])) (fun t k => XS.icmpYes Y.here hx rfl (pc0 := 44) (pc' := 57) rfl (hb hby d1_44) rfl (teq hc44).1 (by decide) (by decide) k) ?_
      refine Rn.go (T' := T) (g' := (mkF m 58 #[.val (.int x0), .val (.int x1), .val (.int (1 : Int32))] [(.int (1 : Int32))])) (fun t k => ?_) ?_
      · show Steps p.tables e below (T.setTop (mkF m 57 #[.val (.int x0), .val (.int x1), .val (.int (1 : Int32))] [])) t
        refine XS.iconst Y.here hx rfl (hb hby d1_57) ?_
        show Steps p.tables e below (T.setTop (mkF m 58 #[.val (.int x0), .val (.int x1), .val (.int (1 : Int32))] [(.int (1 : Int32))])) t
        exact k
      rw [← hF]; exact On.reti Y hx hret hlk (hb hby d1_58) (by decide) (by decide) ⟨by unfold own_chv; rw [if_pos hc3, if_pos hc44], rfl⟩
    · refine Rn.go (T' := T) (g' := (mkF m 47 #[.val (.int x0), .val (.int x1), .val (.int (1 : Int32))] [])) (fun t k => XS.icmpNo Y.here hx rfl (hb hby d1_44) rfl (feq hc44).1 k) ?_
      refine Rn.go (T' := T) (g' := (mkF m 48 #[.val (.int x0), .val (.int x1), .val (.int (1 : Int32))] [(.int x1)])) (fun t k => ?_) ?_
      · show Steps p.tables e below (T.setTop (mkF m 47 #[.val (.int x0), .val (.int x1), .val (.int (1 : Int32))] [])) t
        refine XS.iloadN Y.here hx rfl (hb hby d1_47) rfl ?_
        show Steps p.tables e below (T.setTop (mkF m 48 #[.val (.int x0), .val (.int x1), .val (.int (1 : Int32))] [(.int x1)])) t
        exact k
      by_cases hc48 : x1 = (0 : Int32)
      · refine Rn.go (T' := T) (g' := (mkF m 51 #[.val (.int x0), .val (.int x1), .val (.int (1 : Int32))] [])) (fun t k => XS.ifNo Y.here hx rfl (hb hby d1_48) rfl ((if0 _ _).trans (teq hc48).2) k) ?_
        refine Rn.go (T' := T) (g' := (mkF m 54 #[.val (.int x0), .val (.int x1), .val (.int (1 : Int32))] [(.int (44 : Int32)), (.int x0)])) (fun t k => ?_) ?_
        · show Steps p.tables e below (T.setTop (mkF m 51 #[.val (.int x0), .val (.int x1), .val (.int (1 : Int32))] [])) t
          refine XS.iloadN Y.here hx rfl (hb hby d1_51) rfl ?_
          show Steps p.tables e below (T.setTop (mkF m 52 #[.val (.int x0), .val (.int x1), .val (.int (1 : Int32))] [(.int x0)])) t
          refine XS.bipush Y.here hx rfl (hb hby d1_52) ?_
          show Steps p.tables e below (T.setTop (mkF m 54 #[.val (.int x0), .val (.int x1), .val (.int (1 : Int32))] [(.int (44 : Int32)), (.int x0)])) t
          exact k
        by_cases hc54 : x0 = (44 : Int32)
        · refine Rn.go (T' := T) (g' := (mkF m 57 #[.val (.int x0), .val (.int x1), .val (.int (1 : Int32))] [])) (fun t k => XS.icmpNo Y.here hx rfl (hb hby d1_54) rfl (teq hc54).2 k) ?_
          refine Rn.go (T' := T) (g' := (mkF m 58 #[.val (.int x0), .val (.int x1), .val (.int (1 : Int32))] [(.int (1 : Int32))])) (fun t k => ?_) ?_
          · show Steps p.tables e below (T.setTop (mkF m 57 #[.val (.int x0), .val (.int x1), .val (.int (1 : Int32))] [])) t
            refine XS.iconst Y.here hx rfl (hb hby d1_57) ?_
            show Steps p.tables e below (T.setTop (mkF m 58 #[.val (.int x0), .val (.int x1), .val (.int (1 : Int32))] [(.int (1 : Int32))])) t
            exact k
          rw [← hF]; exact On.reti Y hx hret hlk (hb hby d1_58) (by decide) (by decide) ⟨by unfold own_chv; rw [if_pos hc3, if_neg hc44, if_pos hc48, if_pos hc54], rfl⟩
        · refine Rn.go (T' := T) (g' := (mkF m 59 #[.val (.int x0), .val (.int x1), .val (.int (1 : Int32))] [])) (fun t k => XS.icmpYes Y.here hx rfl (pc0 := 54) (pc' := 59) rfl (hb hby d1_54) rfl (feq hc54).2 (by decide) (by decide) k) ?_
          refine Rn.go (T' := T) (g' := (mkF m 61 #[.val (.int x0), .val (.int x1), .val (.int (1 : Int32))] [(.int (2 : Int32)), (.int x1)])) (fun t k => ?_) ?_
          · show Steps p.tables e below (T.setTop (mkF m 59 #[.val (.int x0), .val (.int x1), .val (.int (1 : Int32))] [])) t
            refine XS.iloadN Y.here hx rfl (hb hby d1_59) rfl ?_
            show Steps p.tables e below (T.setTop (mkF m 60 #[.val (.int x0), .val (.int x1), .val (.int (1 : Int32))] [(.int x1)])) t
            refine XS.iconst Y.here hx rfl (hb hby d1_60) ?_
            show Steps p.tables e below (T.setTop (mkF m 61 #[.val (.int x0), .val (.int x1), .val (.int (1 : Int32))] [(.int (2 : Int32)), (.int x1)])) t
            exact k
          by_cases hc61 : x1 = (2 : Int32)
          · refine Rn.go (T' := T) (g' := (mkF m 64 #[.val (.int x0), .val (.int x1), .val (.int (1 : Int32))] [])) (fun t k => XS.icmpNo Y.here hx rfl (hb hby d1_61) rfl (teq hc61).2 k) ?_
            refine Rn.go (T' := T) (g' := (mkF m 69 #[.val (.int x0), .val (.int x1), .val (.int (1 : Int32))] [(.int (2 : Int32))])) (fun t k => ?_) ?_
            · show Steps p.tables e below (T.setTop (mkF m 64 #[.val (.int x0), .val (.int x1), .val (.int (1 : Int32))] [])) t
              refine XS.iconst Y.here hx rfl (hb hby d1_64) ?_
              show Steps p.tables e below (T.setTop (mkF m 65 #[.val (.int x0), .val (.int x1), .val (.int (1 : Int32))] [(.int (2 : Int32))])) t
              refine XS.goto Y.here hx rfl (pc0 := 65) (pc' := 69) rfl (hb hby d1_65) (by decide) (by decide) ?_
              show Steps p.tables e below (T.setTop (mkF m 69 #[.val (.int x0), .val (.int x1), .val (.int (1 : Int32))] [(.int (2 : Int32))])) t
              exact k
            rw [← hF]; exact On.reti Y hx hret hlk (hb hby d1_69) (by decide) (by decide) ⟨by unfold own_chv; rw [if_pos hc3, if_neg hc44, if_pos hc48, if_neg hc54, if_pos hc61], rfl⟩
          · refine Rn.go (T' := T) (g' := (mkF m 68 #[.val (.int x0), .val (.int x1), .val (.int (1 : Int32))] [])) (fun t k => XS.icmpYes Y.here hx rfl (pc0 := 61) (pc' := 68) rfl (hb hby d1_61) rfl (feq hc61).2 (by decide) (by decide) k) ?_
            refine Rn.go (T' := T) (g' := (mkF m 69 #[.val (.int x0), .val (.int x1), .val (.int (1 : Int32))] [(.int (0 : Int32))])) (fun t k => ?_) ?_
            · show Steps p.tables e below (T.setTop (mkF m 68 #[.val (.int x0), .val (.int x1), .val (.int (1 : Int32))] [])) t
              refine XS.iconst Y.here hx rfl (hb hby d1_68) ?_
              show Steps p.tables e below (T.setTop (mkF m 69 #[.val (.int x0), .val (.int x1), .val (.int (1 : Int32))] [(.int (0 : Int32))])) t
              exact k
            rw [← hF]; exact On.reti Y hx hret hlk (hb hby d1_69) (by decide) (by decide) ⟨by unfold own_chv; rw [if_pos hc3, if_neg hc44, if_pos hc48, if_neg hc54, if_neg hc61], rfl⟩
      · refine Rn.go (T' := T) (g' := (mkF m 59 #[.val (.int x0), .val (.int x1), .val (.int (1 : Int32))] [])) (fun t k => XS.ifYes Y.here hx rfl (pc0 := 48) (pc' := 59) rfl (hb hby d1_48) rfl ((if0 _ _).trans (feq hc48).2) (by decide) (by decide) k) ?_
        refine Rn.go (T' := T) (g' := (mkF m 61 #[.val (.int x0), .val (.int x1), .val (.int (1 : Int32))] [(.int (2 : Int32)), (.int x1)])) (fun t k => ?_) ?_
        · show Steps p.tables e below (T.setTop (mkF m 59 #[.val (.int x0), .val (.int x1), .val (.int (1 : Int32))] [])) t
          refine XS.iloadN Y.here hx rfl (hb hby d1_59) rfl ?_
          show Steps p.tables e below (T.setTop (mkF m 60 #[.val (.int x0), .val (.int x1), .val (.int (1 : Int32))] [(.int x1)])) t
          refine XS.iconst Y.here hx rfl (hb hby d1_60) ?_
          show Steps p.tables e below (T.setTop (mkF m 61 #[.val (.int x0), .val (.int x1), .val (.int (1 : Int32))] [(.int (2 : Int32)), (.int x1)])) t
          exact k
        by_cases hc61 : x1 = (2 : Int32)
        · refine Rn.go (T' := T) (g' := (mkF m 64 #[.val (.int x0), .val (.int x1), .val (.int (1 : Int32))] [])) (fun t k => XS.icmpNo Y.here hx rfl (hb hby d1_61) rfl (teq hc61).2 k) ?_
          refine Rn.go (T' := T) (g' := (mkF m 69 #[.val (.int x0), .val (.int x1), .val (.int (1 : Int32))] [(.int (2 : Int32))])) (fun t k => ?_) ?_
          · show Steps p.tables e below (T.setTop (mkF m 64 #[.val (.int x0), .val (.int x1), .val (.int (1 : Int32))] [])) t
            refine XS.iconst Y.here hx rfl (hb hby d1_64) ?_
            show Steps p.tables e below (T.setTop (mkF m 65 #[.val (.int x0), .val (.int x1), .val (.int (1 : Int32))] [(.int (2 : Int32))])) t
            refine XS.goto Y.here hx rfl (pc0 := 65) (pc' := 69) rfl (hb hby d1_65) (by decide) (by decide) ?_
            show Steps p.tables e below (T.setTop (mkF m 69 #[.val (.int x0), .val (.int x1), .val (.int (1 : Int32))] [(.int (2 : Int32))])) t
            exact k
          rw [← hF]; exact On.reti Y hx hret hlk (hb hby d1_69) (by decide) (by decide) ⟨by unfold own_chv; rw [if_pos hc3, if_neg hc44, if_neg hc48, if_pos hc61], rfl⟩
        · refine Rn.go (T' := T) (g' := (mkF m 68 #[.val (.int x0), .val (.int x1), .val (.int (1 : Int32))] [])) (fun t k => XS.icmpYes Y.here hx rfl (pc0 := 61) (pc' := 68) rfl (hb hby d1_61) rfl (feq hc61).2 (by decide) (by decide) k) ?_
          refine Rn.go (T' := T) (g' := (mkF m 69 #[.val (.int x0), .val (.int x1), .val (.int (1 : Int32))] [(.int (0 : Int32))])) (fun t k => ?_) ?_
          · show Steps p.tables e below (T.setTop (mkF m 68 #[.val (.int x0), .val (.int x1), .val (.int (1 : Int32))] [])) t
            refine XS.iconst Y.here hx rfl (hb hby d1_68) ?_
            show Steps p.tables e below (T.setTop (mkF m 69 #[.val (.int x0), .val (.int x1), .val (.int (1 : Int32))] [(.int (0 : Int32))])) t
            exact k
          rw [← hF]; exact On.reti Y hx hret hlk (hb hby d1_69) (by decide) (by decide) ⟨by unfold own_chv; rw [if_pos hc3, if_neg hc44, if_neg hc48, if_neg hc61], rfl⟩
  · refine Rn.go (T' := T) (g' := (mkF m 6 #[.val (.int x0), .val (.int x1), .unset] [])) (fun t k => XS.icmpNo Y.here hx rfl (hb hby d1_3) rfl (feq hc3).1 k) ?_
    refine Rn.go (T' := T) (g' := (mkF m 9 #[.val (.int x0), .val (.int x1), .unset] [(.int (36 : Int32)), (.int x0)])) (fun t k => ?_) ?_
    · show Steps p.tables e below (T.setTop (mkF m 6 #[.val (.int x0), .val (.int x1), .unset] [])) t
      refine XS.iloadN Y.here hx rfl (hb hby d1_6) rfl ?_
      show Steps p.tables e below (T.setTop (mkF m 7 #[.val (.int x0), .val (.int x1), .unset] [(.int x0)])) t
      refine XS.bipush Y.here hx rfl (hb hby d1_7) ?_
      show Steps p.tables e below (T.setTop (mkF m 9 #[.val (.int x0), .val (.int x1), .unset] [(.int (36 : Int32)), (.int x0)])) t
      exact k
    by_cases hc9 : x0 = (36 : Int32)
    · refine Rn.go (T' := T) (g' := (mkF m 30 #[.val (.int x0), .val (.int x1), .unset] [])) (fun t k => XS.icmpYes Y.here hx rfl (pc0 := 9) (pc' := 30) rfl (hb hby d1_9) rfl (teq hc9).1 (by decide) (by decide) k) ?_
      refine Rn.go (T' := T) (g' := (mkF m 37 #[.val (.int x0), .val (.int x1), .val (.int (1 : Int32))] [(.int (1 : Int32))])) (fun t k => ?_) ?_
      · show Steps p.tables e below (T.setTop (mkF m 30 #[.val (.int x0), .val (.int x1), .unset] [])) t
        refine XS.iconst Y.here hx rfl (hb hby d1_30) ?_
        show Steps p.tables e below (T.setTop (mkF m 31 #[.val (.int x0), .val (.int x1), .unset] [(.int (1 : Int32))])) t
        refine XS.goto Y.here hx rfl (pc0 := 31) (pc' := 35) rfl (hb hby d1_31) (by decide) (by decide) ?_
        show Steps p.tables e below (T.setTop (mkF m 35 #[.val (.int x0), .val (.int x1), .unset] [(.int (1 : Int32))])) t
        refine XS.istoreN Y.here hx rfl (hb hby d1_35) rfl (l' := #[.val (.int x0), .val (.int x1), .val (.int (1 : Int32))]) rfl ?_
        show Steps p.tables e below (T.setTop (mkF m 36 #[.val (.int x0), .val (.int x1), .val (.int (1 : Int32))] [])) t
        refine XS.iloadN Y.here hx rfl (hb hby d1_36) rfl ?_
        show Steps p.tables e below (T.setTop (mkF m 37 #[.val (.int x0), .val (.int x1), .val (.int (1 : Int32))] [(.int (1 : Int32))])) t
        exact k
      refine Rn.go (T' := T) (g' := (mkF m 42 #[.val (.int x0), .val (.int x1), .val (.int (1 : Int32))] [])) (fun t k => XS.ifYes Y.here hx rfl (pc0 := 37) (pc' := 42) rfl (hb hby d1_37) rfl ((if0 _ _).trans (feq (by decide)).2) (by decide) (by decide) k) ?_
      refine Rn.go (T' := T) (g' := (mkF m 44 #[.val (.int x0), .val (.int x1), .val (.int (1 : Int32))] [(.int (1 : Int32)), (.int x1)])) (fun t k => ?_) ?_
      · show Steps p.tables e below (T.setTop (mkF m 42 #[.val (.int x0), .val (.int x1), .val (.int (1 : Int32))] [])) t
        refine XS.iloadN Y.here hx rfl (hb hby d1_42) rfl ?_
        show Steps p.tables e below (T.setTop (mkF m 43 #[.val (.int x0), .val (.int x1), .val (.int (1 : Int32))] [(.int x1)])) t
        refine XS.iconst Y.here hx rfl (hb hby d1_43) ?_
        show Steps p.tables e below (T.setTop (mkF m 44 #[.val (.int x0), .val (.int x1), .val (.int (1 : Int32))] [(.int (1 : Int32)), (.int x1)])) t
        exact k
      by_cases hc44 : x1 = (1 : Int32)
      · refine Rn.go (T' := T) (g' := (mkF m 57 #[.val (.int x0), .val (.int x1), .val (.int (1 : Int32))] [])) (fun t k => XS.icmpYes Y.here hx rfl (pc0 := 44) (pc' := 57) rfl (hb hby d1_44) rfl (teq hc44).1 (by decide) (by decide) k) ?_
        refine Rn.go (T' := T) (g' := (mkF m 58 #[.val (.int x0), .val (.int x1), .val (.int (1 : Int32))] [(.int (1 : Int32))])) (fun t k => ?_) ?_
        · show Steps p.tables e below (T.setTop (mkF m 57 #[.val (.int x0), .val (.int x1), .val (.int (1 : Int32))] [])) t
          refine XS.iconst Y.here hx rfl (hb hby d1_57) ?_
          show Steps p.tables e below (T.setTop (mkF m 58 #[.val (.int x0), .val (.int x1), .val (.int (1 : Int32))] [(.int (1 : Int32))])) t
          exact k
        rw [← hF]; exact On.reti Y hx hret hlk (hb hby d1_58) (by decide) (by decide) ⟨by unfold own_chv; rw [if_neg hc3, if_pos hc9, if_pos hc44], rfl⟩
      · refine Rn.go (T' := T) (g' := (mkF m 47 #[.val (.int x0), .val (.int x1), .val (.int (1 : Int32))] [])) (fun t k => XS.icmpNo Y.here hx rfl (hb hby d1_44) rfl (feq hc44).1 k) ?_
        refine Rn.go (T' := T) (g' := (mkF m 48 #[.val (.int x0), .val (.int x1), .val (.int (1 : Int32))] [(.int x1)])) (fun t k => ?_) ?_
        · show Steps p.tables e below (T.setTop (mkF m 47 #[.val (.int x0), .val (.int x1), .val (.int (1 : Int32))] [])) t
          refine XS.iloadN Y.here hx rfl (hb hby d1_47) rfl ?_
          show Steps p.tables e below (T.setTop (mkF m 48 #[.val (.int x0), .val (.int x1), .val (.int (1 : Int32))] [(.int x1)])) t
          exact k
        by_cases hc48 : x1 = (0 : Int32)
        · refine Rn.go (T' := T) (g' := (mkF m 51 #[.val (.int x0), .val (.int x1), .val (.int (1 : Int32))] [])) (fun t k => XS.ifNo Y.here hx rfl (hb hby d1_48) rfl ((if0 _ _).trans (teq hc48).2) k) ?_
          refine Rn.go (T' := T) (g' := (mkF m 54 #[.val (.int x0), .val (.int x1), .val (.int (1 : Int32))] [(.int (44 : Int32)), (.int x0)])) (fun t k => ?_) ?_
          · show Steps p.tables e below (T.setTop (mkF m 51 #[.val (.int x0), .val (.int x1), .val (.int (1 : Int32))] [])) t
            refine XS.iloadN Y.here hx rfl (hb hby d1_51) rfl ?_
            show Steps p.tables e below (T.setTop (mkF m 52 #[.val (.int x0), .val (.int x1), .val (.int (1 : Int32))] [(.int x0)])) t
            refine XS.bipush Y.here hx rfl (hb hby d1_52) ?_
            show Steps p.tables e below (T.setTop (mkF m 54 #[.val (.int x0), .val (.int x1), .val (.int (1 : Int32))] [(.int (44 : Int32)), (.int x0)])) t
            exact k
          by_cases hc54 : x0 = (44 : Int32)
          · refine Rn.go (T' := T) (g' := (mkF m 57 #[.val (.int x0), .val (.int x1), .val (.int (1 : Int32))] [])) (fun t k => XS.icmpNo Y.here hx rfl (hb hby d1_54) rfl (teq hc54).2 k) ?_
            refine Rn.go (T' := T) (g' := (mkF m 58 #[.val (.int x0), .val (.int x1), .val (.int (1 : Int32))] [(.int (1 : Int32))])) (fun t k => ?_) ?_
            · show Steps p.tables e below (T.setTop (mkF m 57 #[.val (.int x0), .val (.int x1), .val (.int (1 : Int32))] [])) t
              refine XS.iconst Y.here hx rfl (hb hby d1_57) ?_
              show Steps p.tables e below (T.setTop (mkF m 58 #[.val (.int x0), .val (.int x1), .val (.int (1 : Int32))] [(.int (1 : Int32))])) t
              exact k
            rw [← hF]; exact On.reti Y hx hret hlk (hb hby d1_58) (by decide) (by decide) ⟨by unfold own_chv; rw [if_neg hc3, if_pos hc9, if_neg hc44, if_pos hc48, if_pos hc54], rfl⟩
          · refine Rn.go (T' := T) (g' := (mkF m 59 #[.val (.int x0), .val (.int x1), .val (.int (1 : Int32))] [])) (fun t k => XS.icmpYes Y.here hx rfl (pc0 := 54) (pc' := 59) rfl (hb hby d1_54) rfl (feq hc54).2 (by decide) (by decide) k) ?_
            refine Rn.go (T' := T) (g' := (mkF m 61 #[.val (.int x0), .val (.int x1), .val (.int (1 : Int32))] [(.int (2 : Int32)), (.int x1)])) (fun t k => ?_) ?_
            · show Steps p.tables e below (T.setTop (mkF m 59 #[.val (.int x0), .val (.int x1), .val (.int (1 : Int32))] [])) t
              refine XS.iloadN Y.here hx rfl (hb hby d1_59) rfl ?_
              show Steps p.tables e below (T.setTop (mkF m 60 #[.val (.int x0), .val (.int x1), .val (.int (1 : Int32))] [(.int x1)])) t
              refine XS.iconst Y.here hx rfl (hb hby d1_60) ?_
              show Steps p.tables e below (T.setTop (mkF m 61 #[.val (.int x0), .val (.int x1), .val (.int (1 : Int32))] [(.int (2 : Int32)), (.int x1)])) t
              exact k
            by_cases hc61 : x1 = (2 : Int32)
            · refine Rn.go (T' := T) (g' := (mkF m 64 #[.val (.int x0), .val (.int x1), .val (.int (1 : Int32))] [])) (fun t k => XS.icmpNo Y.here hx rfl (hb hby d1_61) rfl (teq hc61).2 k) ?_
              refine Rn.go (T' := T) (g' := (mkF m 69 #[.val (.int x0), .val (.int x1), .val (.int (1 : Int32))] [(.int (2 : Int32))])) (fun t k => ?_) ?_
              · show Steps p.tables e below (T.setTop (mkF m 64 #[.val (.int x0), .val (.int x1), .val (.int (1 : Int32))] [])) t
                refine XS.iconst Y.here hx rfl (hb hby d1_64) ?_
                show Steps p.tables e below (T.setTop (mkF m 65 #[.val (.int x0), .val (.int x1), .val (.int (1 : Int32))] [(.int (2 : Int32))])) t
                refine XS.goto Y.here hx rfl (pc0 := 65) (pc' := 69) rfl (hb hby d1_65) (by decide) (by decide) ?_
                show Steps p.tables e below (T.setTop (mkF m 69 #[.val (.int x0), .val (.int x1), .val (.int (1 : Int32))] [(.int (2 : Int32))])) t
                exact k
              rw [← hF]; exact On.reti Y hx hret hlk (hb hby d1_69) (by decide) (by decide) ⟨by unfold own_chv; rw [if_neg hc3, if_pos hc9, if_neg hc44, if_pos hc48, if_neg hc54, if_pos hc61], rfl⟩
            · refine Rn.go (T' := T) (g' := (mkF m 68 #[.val (.int x0), .val (.int x1), .val (.int (1 : Int32))] [])) (fun t k => XS.icmpYes Y.here hx rfl (pc0 := 61) (pc' := 68) rfl (hb hby d1_61) rfl (feq hc61).2 (by decide) (by decide) k) ?_
              refine Rn.go (T' := T) (g' := (mkF m 69 #[.val (.int x0), .val (.int x1), .val (.int (1 : Int32))] [(.int (0 : Int32))])) (fun t k => ?_) ?_
              · show Steps p.tables e below (T.setTop (mkF m 68 #[.val (.int x0), .val (.int x1), .val (.int (1 : Int32))] [])) t
                refine XS.iconst Y.here hx rfl (hb hby d1_68) ?_
                show Steps p.tables e below (T.setTop (mkF m 69 #[.val (.int x0), .val (.int x1), .val (.int (1 : Int32))] [(.int (0 : Int32))])) t
                exact k
              rw [← hF]; exact On.reti Y hx hret hlk (hb hby d1_69) (by decide) (by decide) ⟨by unfold own_chv; rw [if_neg hc3, if_pos hc9, if_neg hc44, if_pos hc48, if_neg hc54, if_neg hc61], rfl⟩
        · refine Rn.go (T' := T) (g' := (mkF m 59 #[.val (.int x0), .val (.int x1), .val (.int (1 : Int32))] [])) (fun t k => XS.ifYes Y.here hx rfl (pc0 := 48) (pc' := 59) rfl (hb hby d1_48) rfl ((if0 _ _).trans (feq hc48).2) (by decide) (by decide) k) ?_
          refine Rn.go (T' := T) (g' := (mkF m 61 #[.val (.int x0), .val (.int x1), .val (.int (1 : Int32))] [(.int (2 : Int32)), (.int x1)])) (fun t k => ?_) ?_
          · show Steps p.tables e below (T.setTop (mkF m 59 #[.val (.int x0), .val (.int x1), .val (.int (1 : Int32))] [])) t
            refine XS.iloadN Y.here hx rfl (hb hby d1_59) rfl ?_
            show Steps p.tables e below (T.setTop (mkF m 60 #[.val (.int x0), .val (.int x1), .val (.int (1 : Int32))] [(.int x1)])) t
            refine XS.iconst Y.here hx rfl (hb hby d1_60) ?_
            show Steps p.tables e below (T.setTop (mkF m 61 #[.val (.int x0), .val (.int x1), .val (.int (1 : Int32))] [(.int (2 : Int32)), (.int x1)])) t
            exact k
          by_cases hc61 : x1 = (2 : Int32)
          · refine Rn.go (T' := T) (g' := (mkF m 64 #[.val (.int x0), .val (.int x1), .val (.int (1 : Int32))] [])) (fun t k => XS.icmpNo Y.here hx rfl (hb hby d1_61) rfl (teq hc61).2 k) ?_
            refine Rn.go (T' := T) (g' := (mkF m 69 #[.val (.int x0), .val (.int x1), .val (.int (1 : Int32))] [(.int (2 : Int32))])) (fun t k => ?_) ?_
            · show Steps p.tables e below (T.setTop (mkF m 64 #[.val (.int x0), .val (.int x1), .val (.int (1 : Int32))] [])) t
              refine XS.iconst Y.here hx rfl (hb hby d1_64) ?_
              show Steps p.tables e below (T.setTop (mkF m 65 #[.val (.int x0), .val (.int x1), .val (.int (1 : Int32))] [(.int (2 : Int32))])) t
              refine XS.goto Y.here hx rfl (pc0 := 65) (pc' := 69) rfl (hb hby d1_65) (by decide) (by decide) ?_
              show Steps p.tables e below (T.setTop (mkF m 69 #[.val (.int x0), .val (.int x1), .val (.int (1 : Int32))] [(.int (2 : Int32))])) t
              exact k
            rw [← hF]; exact On.reti Y hx hret hlk (hb hby d1_69) (by decide) (by decide) ⟨by unfold own_chv; rw [if_neg hc3, if_pos hc9, if_neg hc44, if_neg hc48, if_pos hc61], rfl⟩
          · refine Rn.go (T' := T) (g' := (mkF m 68 #[.val (.int x0), .val (.int x1), .val (.int (1 : Int32))] [])) (fun t k => XS.icmpYes Y.here hx rfl (pc0 := 61) (pc' := 68) rfl (hb hby d1_61) rfl (feq hc61).2 (by decide) (by decide) k) ?_
            refine Rn.go (T' := T) (g' := (mkF m 69 #[.val (.int x0), .val (.int x1), .val (.int (1 : Int32))] [(.int (0 : Int32))])) (fun t k => ?_) ?_
            · show Steps p.tables e below (T.setTop (mkF m 68 #[.val (.int x0), .val (.int x1), .val (.int (1 : Int32))] [])) t
              refine XS.iconst Y.here hx rfl (hb hby d1_68) ?_
              show Steps p.tables e below (T.setTop (mkF m 69 #[.val (.int x0), .val (.int x1), .val (.int (1 : Int32))] [(.int (0 : Int32))])) t
              exact k
            rw [← hF]; exact On.reti Y hx hret hlk (hb hby d1_69) (by decide) (by decide) ⟨by unfold own_chv; rw [if_neg hc3, if_pos hc9, if_neg hc44, if_neg hc48, if_neg hc61], rfl⟩
    · refine Rn.go (T' := T) (g' := (mkF m 12 #[.val (.int x0), .val (.int x1), .unset] [])) (fun t k => XS.icmpNo Y.here hx rfl (hb hby d1_9) rfl (feq hc9).1 k) ?_
      refine Rn.go (T' := T) (g' := (mkF m 15 #[.val (.int x0), .val (.int x1), .unset] [(.int (38 : Int32)), (.int x0)])) (fun t k => ?_) ?_
      · show Steps p.tables e below (T.setTop (mkF m 12 #[.val (.int x0), .val (.int x1), .unset] [])) t
        refine XS.iloadN Y.here hx rfl (hb hby d1_12) rfl ?_
        show Steps p.tables e below (T.setTop (mkF m 13 #[.val (.int x0), .val (.int x1), .unset] [(.int x0)])) t
        refine XS.bipush Y.here hx rfl (hb hby d1_13) ?_
        show Steps p.tables e below (T.setTop (mkF m 15 #[.val (.int x0), .val (.int x1), .unset] [(.int (38 : Int32)), (.int x0)])) t
        exact k
      by_cases hc15 : x0 = (38 : Int32)
      · refine Rn.go (T' := T) (g' := (mkF m 30 #[.val (.int x0), .val (.int x1), .unset] [])) (fun t k => XS.icmpYes Y.here hx rfl (pc0 := 15) (pc' := 30) rfl (hb hby d1_15) rfl (teq hc15).1 (by decide) (by decide) k) ?_
        refine Rn.go (T' := T) (g' := (mkF m 37 #[.val (.int x0), .val (.int x1), .val (.int (1 : Int32))] [(.int (1 : Int32))])) (fun t k => ?_) ?_
        · show Steps p.tables e below (T.setTop (mkF m 30 #[.val (.int x0), .val (.int x1), .unset] [])) t
          refine XS.iconst Y.here hx rfl (hb hby d1_30) ?_
          show Steps p.tables e below (T.setTop (mkF m 31 #[.val (.int x0), .val (.int x1), .unset] [(.int (1 : Int32))])) t
          refine XS.goto Y.here hx rfl (pc0 := 31) (pc' := 35) rfl (hb hby d1_31) (by decide) (by decide) ?_
          show Steps p.tables e below (T.setTop (mkF m 35 #[.val (.int x0), .val (.int x1), .unset] [(.int (1 : Int32))])) t
          refine XS.istoreN Y.here hx rfl (hb hby d1_35) rfl (l' := #[.val (.int x0), .val (.int x1), .val (.int (1 : Int32))]) rfl ?_
          show Steps p.tables e below (T.setTop (mkF m 36 #[.val (.int x0), .val (.int x1), .val (.int (1 : Int32))] [])) t
          refine XS.iloadN Y.here hx rfl (hb hby d1_36) rfl ?_
          show Steps p.tables e below (T.setTop (mkF m 37 #[.val (.int x0), .val (.int x1), .val (.int (1 : Int32))] [(.int (1 : Int32))])) t
          exact k
        refine Rn.go (T' := T) (g' := (mkF m 42 #[.val (.int x0), .val (.int x1), .val (.int (1 : Int32))] [])) (fun t k => XS.ifYes Y.here hx rfl (pc0 := 37) (pc' := 42) rfl (hb hby d1_37) rfl ((if0 _ _).trans (feq (by decide)).2) (by decide) (by decide) k) ?_
        refine Rn.go (T' := T) (g' := (mkF m 44 #[.val (.int x0), .val (.int x1), .val (.int (1 : Int32))] [(.int (1 : Int32)), (.int x1)])) (fun t k => ?_) ?_
        · show Steps p.tables e below (T.setTop (mkF m 42 #[.val (.int x0), .val (.int x1), .val (.int (1 : Int32))] [])) t
          refine XS.iloadN Y.here hx rfl (hb hby d1_42) rfl ?_
          show Steps p.tables e below (T.setTop (mkF m 43 #[.val (.int x0), .val (.int x1), .val (.int (1 : Int32))] [(.int x1)])) t
          refine XS.iconst Y.here hx rfl (hb hby d1_43) ?_
          show Steps p.tables e below (T.setTop (mkF m 44 #[.val (.int x0), .val (.int x1), .val (.int (1 : Int32))] [(.int (1 : Int32)), (.int x1)])) t
          exact k
        by_cases hc44 : x1 = (1 : Int32)
        · refine Rn.go (T' := T) (g' := (mkF m 57 #[.val (.int x0), .val (.int x1), .val (.int (1 : Int32))] [])) (fun t k => XS.icmpYes Y.here hx rfl (pc0 := 44) (pc' := 57) rfl (hb hby d1_44) rfl (teq hc44).1 (by decide) (by decide) k) ?_
          refine Rn.go (T' := T) (g' := (mkF m 58 #[.val (.int x0), .val (.int x1), .val (.int (1 : Int32))] [(.int (1 : Int32))])) (fun t k => ?_) ?_
          · show Steps p.tables e below (T.setTop (mkF m 57 #[.val (.int x0), .val (.int x1), .val (.int (1 : Int32))] [])) t
            refine XS.iconst Y.here hx rfl (hb hby d1_57) ?_
            show Steps p.tables e below (T.setTop (mkF m 58 #[.val (.int x0), .val (.int x1), .val (.int (1 : Int32))] [(.int (1 : Int32))])) t
            exact k
          rw [← hF]; exact On.reti Y hx hret hlk (hb hby d1_58) (by decide) (by decide) ⟨by unfold own_chv; rw [if_neg hc3, if_neg hc9, if_pos hc15, if_pos hc44], rfl⟩
        · refine Rn.go (T' := T) (g' := (mkF m 47 #[.val (.int x0), .val (.int x1), .val (.int (1 : Int32))] [])) (fun t k => XS.icmpNo Y.here hx rfl (hb hby d1_44) rfl (feq hc44).1 k) ?_
          refine Rn.go (T' := T) (g' := (mkF m 48 #[.val (.int x0), .val (.int x1), .val (.int (1 : Int32))] [(.int x1)])) (fun t k => ?_) ?_
          · show Steps p.tables e below (T.setTop (mkF m 47 #[.val (.int x0), .val (.int x1), .val (.int (1 : Int32))] [])) t
            refine XS.iloadN Y.here hx rfl (hb hby d1_47) rfl ?_
            show Steps p.tables e below (T.setTop (mkF m 48 #[.val (.int x0), .val (.int x1), .val (.int (1 : Int32))] [(.int x1)])) t
            exact k
          by_cases hc48 : x1 = (0 : Int32)
          · refine Rn.go (T' := T) (g' := (mkF m 51 #[.val (.int x0), .val (.int x1), .val (.int (1 : Int32))] [])) (fun t k => XS.ifNo Y.here hx rfl (hb hby d1_48) rfl ((if0 _ _).trans (teq hc48).2) k) ?_
            refine Rn.go (T' := T) (g' := (mkF m 54 #[.val (.int x0), .val (.int x1), .val (.int (1 : Int32))] [(.int (44 : Int32)), (.int x0)])) (fun t k => ?_) ?_
            · show Steps p.tables e below (T.setTop (mkF m 51 #[.val (.int x0), .val (.int x1), .val (.int (1 : Int32))] [])) t
              refine XS.iloadN Y.here hx rfl (hb hby d1_51) rfl ?_
              show Steps p.tables e below (T.setTop (mkF m 52 #[.val (.int x0), .val (.int x1), .val (.int (1 : Int32))] [(.int x0)])) t
              refine XS.bipush Y.here hx rfl (hb hby d1_52) ?_
              show Steps p.tables e below (T.setTop (mkF m 54 #[.val (.int x0), .val (.int x1), .val (.int (1 : Int32))] [(.int (44 : Int32)), (.int x0)])) t
              exact k
            by_cases hc54 : x0 = (44 : Int32)
            · refine Rn.go (T' := T) (g' := (mkF m 57 #[.val (.int x0), .val (.int x1), .val (.int (1 : Int32))] [])) (fun t k => XS.icmpNo Y.here hx rfl (hb hby d1_54) rfl (teq hc54).2 k) ?_
              refine Rn.go (T' := T) (g' := (mkF m 58 #[.val (.int x0), .val (.int x1), .val (.int (1 : Int32))] [(.int (1 : Int32))])) (fun t k => ?_) ?_
              · show Steps p.tables e below (T.setTop (mkF m 57 #[.val (.int x0), .val (.int x1), .val (.int (1 : Int32))] [])) t
                refine XS.iconst Y.here hx rfl (hb hby d1_57) ?_
                show Steps p.tables e below (T.setTop (mkF m 58 #[.val (.int x0), .val (.int x1), .val (.int (1 : Int32))] [(.int (1 : Int32))])) t
                exact k
              rw [← hF]; exact On.reti Y hx hret hlk (hb hby d1_58) (by decide) (by decide) ⟨by unfold own_chv; rw [if_neg hc3, if_neg hc9, if_pos hc15, if_neg hc44, if_pos hc48, if_pos hc54], rfl⟩
            · refine Rn.go (T' := T) (g' := (mkF m 59 #[.val (.int x0), .val (.int x1), .val (.int (1 : Int32))] [])) (fun t k => XS.icmpYes Y.here hx rfl (pc0 := 54) (pc' := 59) rfl (hb hby d1_54) rfl (feq hc54).2 (by decide) (by decide) k) ?_
              refine Rn.go (T' := T) (g' := (mkF m 61 #[.val (.int x0), .val (.int x1), .val (.int (1 : Int32))] [(.int (2 : Int32)), (.int x1)])) (fun t k => ?_) ?_
              · show Steps p.tables e below (T.setTop (mkF m 59 #[.val (.int x0), .val (.int x1), .val (.int (1 : Int32))] [])) t
                refine XS.iloadN Y.here hx rfl (hb hby d1_59) rfl ?_
                show Steps p.tables e below (T.setTop (mkF m 60 #[.val (.int x0), .val (.int x1), .val (.int (1 : Int32))] [(.int x1)])) t
                refine XS.iconst Y.here hx rfl (hb hby d1_60) ?_
                show Steps p.tables e below (T.setTop (mkF m 61 #[.val (.int x0), .val (.int x1), .val (.int (1 : Int32))] [(.int (2 : Int32)), (.int x1)])) t
                exact k
              by_cases hc61 : x1 = (2 : Int32)
              · refine Rn.go (T' := T) (g' := (mkF m 64 #[.val (.int x0), .val (.int x1), .val (.int (1 : Int32))] [])) (fun t k => XS.icmpNo Y.here hx rfl (hb hby d1_61) rfl (teq hc61).2 k) ?_
                refine Rn.go (T' := T) (g' := (mkF m 69 #[.val (.int x0), .val (.int x1), .val (.int (1 : Int32))] [(.int (2 : Int32))])) (fun t k => ?_) ?_
                · show Steps p.tables e below (T.setTop (mkF m 64 #[.val (.int x0), .val (.int x1), .val (.int (1 : Int32))] [])) t
                  refine XS.iconst Y.here hx rfl (hb hby d1_64) ?_
                  show Steps p.tables e below (T.setTop (mkF m 65 #[.val (.int x0), .val (.int x1), .val (.int (1 : Int32))] [(.int (2 : Int32))])) t
                  refine XS.goto Y.here hx rfl (pc0 := 65) (pc' := 69) rfl (hb hby d1_65) (by decide) (by decide) ?_
                  show Steps p.tables e below (T.setTop (mkF m 69 #[.val (.int x0), .val (.int x1), .val (.int (1 : Int32))] [(.int (2 : Int32))])) t
                  exact k
                rw [← hF]; exact On.reti Y hx hret hlk (hb hby d1_69) (by decide) (by decide) ⟨by unfold own_chv; rw [if_neg hc3, if_neg hc9, if_pos hc15, if_neg hc44, if_pos hc48, if_neg hc54, if_pos hc61], rfl⟩
              · refine Rn.go (T' := T) (g' := (mkF m 68 #[.val (.int x0), .val (.int x1), .val (.int (1 : Int32))] [])) (fun t k => XS.icmpYes Y.here hx rfl (pc0 := 61) (pc' := 68) rfl (hb hby d1_61) rfl (feq hc61).2 (by decide) (by decide) k) ?_
                refine Rn.go (T' := T) (g' := (mkF m 69 #[.val (.int x0), .val (.int x1), .val (.int (1 : Int32))] [(.int (0 : Int32))])) (fun t k => ?_) ?_
                · show Steps p.tables e below (T.setTop (mkF m 68 #[.val (.int x0), .val (.int x1), .val (.int (1 : Int32))] [])) t
                  refine XS.iconst Y.here hx rfl (hb hby d1_68) ?_
                  show Steps p.tables e below (T.setTop (mkF m 69 #[.val (.int x0), .val (.int x1), .val (.int (1 : Int32))] [(.int (0 : Int32))])) t
                  exact k
                rw [← hF]; exact On.reti Y hx hret hlk (hb hby d1_69) (by decide) (by decide) ⟨by unfold own_chv; rw [if_neg hc3, if_neg hc9, if_pos hc15, if_neg hc44, if_pos hc48, if_neg hc54, if_neg hc61], rfl⟩
          · refine Rn.go (T' := T) (g' := (mkF m 59 #[.val (.int x0), .val (.int x1), .val (.int (1 : Int32))] [])) (fun t k => XS.ifYes Y.here hx rfl (pc0 := 48) (pc' := 59) rfl (hb hby d1_48) rfl ((if0 _ _).trans (feq hc48).2) (by decide) (by decide) k) ?_
            refine Rn.go (T' := T) (g' := (mkF m 61 #[.val (.int x0), .val (.int x1), .val (.int (1 : Int32))] [(.int (2 : Int32)), (.int x1)])) (fun t k => ?_) ?_
            · show Steps p.tables e below (T.setTop (mkF m 59 #[.val (.int x0), .val (.int x1), .val (.int (1 : Int32))] [])) t
              refine XS.iloadN Y.here hx rfl (hb hby d1_59) rfl ?_
              show Steps p.tables e below (T.setTop (mkF m 60 #[.val (.int x0), .val (.int x1), .val (.int (1 : Int32))] [(.int x1)])) t
              refine XS.iconst Y.here hx rfl (hb hby d1_60) ?_
              show Steps p.tables e below (T.setTop (mkF m 61 #[.val (.int x0), .val (.int x1), .val (.int (1 : Int32))] [(.int (2 : Int32)), (.int x1)])) t
              exact k
            by_cases hc61 : x1 = (2 : Int32)
            · refine Rn.go (T' := T) (g' := (mkF m 64 #[.val (.int x0), .val (.int x1), .val (.int (1 : Int32))] [])) (fun t k => XS.icmpNo Y.here hx rfl (hb hby d1_61) rfl (teq hc61).2 k) ?_
              refine Rn.go (T' := T) (g' := (mkF m 69 #[.val (.int x0), .val (.int x1), .val (.int (1 : Int32))] [(.int (2 : Int32))])) (fun t k => ?_) ?_
              · show Steps p.tables e below (T.setTop (mkF m 64 #[.val (.int x0), .val (.int x1), .val (.int (1 : Int32))] [])) t
                refine XS.iconst Y.here hx rfl (hb hby d1_64) ?_
                show Steps p.tables e below (T.setTop (mkF m 65 #[.val (.int x0), .val (.int x1), .val (.int (1 : Int32))] [(.int (2 : Int32))])) t
                refine XS.goto Y.here hx rfl (pc0 := 65) (pc' := 69) rfl (hb hby d1_65) (by decide) (by decide) ?_
                show Steps p.tables e below (T.setTop (mkF m 69 #[.val (.int x0), .val (.int x1), .val (.int (1 : Int32))] [(.int (2 : Int32))])) t
                exact k
              rw [← hF]; exact On.reti Y hx hret hlk (hb hby d1_69) (by decide) (by decide) ⟨by unfold own_chv; rw [if_neg hc3, if_neg hc9, if_pos hc15, if_neg hc44, if_neg hc48, if_pos hc61], rfl⟩
            · refine Rn.go (T' := T) (g' := (mkF m 68 #[.val (.int x0), .val (.int x1), .val (.int (1 : Int32))] [])) (fun t k => XS.icmpYes Y.here hx rfl (pc0 := 61) (pc' := 68) rfl (hb hby d1_61) rfl (feq hc61).2 (by decide) (by decide) k) ?_
              refine Rn.go (T' := T) (g' := (mkF m 69 #[.val (.int x0), .val (.int x1), .val (.int (1 : Int32))] [(.int (0 : Int32))])) (fun t k => ?_) ?_
              · show Steps p.tables e below (T.setTop (mkF m 68 #[.val (.int x0), .val (.int x1), .val (.int (1 : Int32))] [])) t
                refine XS.iconst Y.here hx rfl (hb hby d1_68) ?_
                show Steps p.tables e below (T.setTop (mkF m 69 #[.val (.int x0), .val (.int x1), .val (.int (1 : Int32))] [(.int (0 : Int32))])) t
                exact k
              rw [← hF]; exact On.reti Y hx hret hlk (hb hby d1_69) (by decide) (by decide) ⟨by unfold own_chv; rw [if_neg hc3, if_neg hc9, if_pos hc15, if_neg hc44, if_neg hc48, if_neg hc61], rfl⟩
      · refine Rn.go (T' := T) (g' := (mkF m 18 #[.val (.int x0), .val (.int x1), .unset] [])) (fun t k => XS.icmpNo Y.here hx rfl (hb hby d1_15) rfl (feq hc15).1 k) ?_
        refine Rn.go (T' := T) (g' := (mkF m 21 #[.val (.int x0), .val (.int x1), .unset] [(.int (40 : Int32)), (.int x0)])) (fun t k => ?_) ?_
        · show Steps p.tables e below (T.setTop (mkF m 18 #[.val (.int x0), .val (.int x1), .unset] [])) t
          refine XS.iloadN Y.here hx rfl (hb hby d1_18) rfl ?_
          show Steps p.tables e below (T.setTop (mkF m 19 #[.val (.int x0), .val (.int x1), .unset] [(.int x0)])) t
          refine XS.bipush Y.here hx rfl (hb hby d1_19) ?_
          show Steps p.tables e below (T.setTop (mkF m 21 #[.val (.int x0), .val (.int x1), .unset] [(.int (40 : Int32)), (.int x0)])) t
          exact k
        by_cases hc21 : x0 = (40 : Int32)
        · refine Rn.go (T' := T) (g' := (mkF m 30 #[.val (.int x0), .val (.int x1), .unset] [])) (fun t k => XS.icmpYes Y.here hx rfl (pc0 := 21) (pc' := 30) rfl (hb hby d1_21) rfl (teq hc21).1 (by decide) (by decide) k) ?_
          refine Rn.go (T' := T) (g' := (mkF m 37 #[.val (.int x0), .val (.int x1), .val (.int (1 : Int32))] [(.int (1 : Int32))])) (fun t k => ?_) ?_
          · show Steps p.tables e below (T.setTop (mkF m 30 #[.val (.int x0), .val (.int x1), .unset] [])) t
            refine XS.iconst Y.here hx rfl (hb hby d1_30) ?_
            show Steps p.tables e below (T.setTop (mkF m 31 #[.val (.int x0), .val (.int x1), .unset] [(.int (1 : Int32))])) t
            refine XS.goto Y.here hx rfl (pc0 := 31) (pc' := 35) rfl (hb hby d1_31) (by decide) (by decide) ?_
            show Steps p.tables e below (T.setTop (mkF m 35 #[.val (.int x0), .val (.int x1), .unset] [(.int (1 : Int32))])) t
            refine XS.istoreN Y.here hx rfl (hb hby d1_35) rfl (l' := #[.val (.int x0), .val (.int x1), .val (.int (1 : Int32))]) rfl ?_
            show Steps p.tables e below (T.setTop (mkF m 36 #[.val (.int x0), .val (.int x1), .val (.int (1 : Int32))] [])) t
            refine XS.iloadN Y.here hx rfl (hb hby d1_36) rfl ?_
            show Steps p.tables e below (T.setTop (mkF m 37 #[.val (.int x0), .val (.int x1), .val (.int (1 : Int32))] [(.int (1 : Int32))])) t
            exact k
          refine Rn.go (T' := T) (g' := (mkF m 42 #[.val (.int x0), .val (.int x1), .val (.int (1 : Int32))] [])) (fun t k => XS.ifYes Y.here hx rfl (pc0 := 37) (pc' := 42) rfl (hb hby d1_37) rfl ((if0 _ _).trans (feq (by decide)).2) (by decide) (by decide) k) ?_
          refine Rn.go (T' := T) (g' := (mkF m 44 #[.val (.int x0), .val (.int x1), .val (.int (1 : Int32))] [(.int (1 : Int32)), (.int x1)])) (fun t k => ?_) ?_
          · show Steps p.tables e below (T.setTop (mkF m 42 #[.val (.int x0), .val (.int x1), .val (.int (1 : Int32))] [])) t
            refine XS.iloadN Y.here hx rfl (hb hby d1_42) rfl ?_
            show Steps p.tables e below (T.setTop (mkF m 43 #[.val (.int x0), .val (.int x1), .val (.int (1 : Int32))] [(.int x1)])) t
            refine XS.iconst Y.here hx rfl (hb hby d1_43) ?_
            show Steps p.tables e below (T.setTop (mkF m 44 #[.val (.int x0), .val (.int x1), .val (.int (1 : Int32))] [(.int (1 : Int32)), (.int x1)])) t
            exact k
          by_cases hc44 : x1 = (1 : Int32)
          · refine Rn.go (T' := T) (g' := (mkF m 57 #[.val (.int x0), .val (.int x1), .val (.int (1 : Int32))] [])) (fun t k => XS.icmpYes Y.here hx rfl (pc0 := 44) (pc' := 57) rfl (hb hby d1_44) rfl (teq hc44).1 (by decide) (by decide) k) ?_
            refine Rn.go (T' := T) (g' := (mkF m 58 #[.val (.int x0), .val (.int x1), .val (.int (1 : Int32))] [(.int (1 : Int32))])) (fun t k => ?_) ?_
            · show Steps p.tables e below (T.setTop (mkF m 57 #[.val (.int x0), .val (.int x1), .val (.int (1 : Int32))] [])) t
              refine XS.iconst Y.here hx rfl (hb hby d1_57) ?_
              show Steps p.tables e below (T.setTop (mkF m 58 #[.val (.int x0), .val (.int x1), .val (.int (1 : Int32))] [(.int (1 : Int32))])) t
              exact k
            rw [← hF]; exact On.reti Y hx hret hlk (hb hby d1_58) (by decide) (by decide) ⟨by unfold own_chv; rw [if_neg hc3, if_neg hc9, if_neg hc15, if_pos hc21, if_pos hc44], rfl⟩
          · refine Rn.go (T' := T) (g' := (mkF m 47 #[.val (.int x0), .val (.int x1), .val (.int (1 : Int32))] [])) (fun t k => XS.icmpNo Y.here hx rfl (hb hby d1_44) rfl (feq hc44).1 k) ?_
            refine Rn.go (T' := T) (g' := (mkF m 48 #[.val (.int x0), .val (.int x1), .val (.int (1 : Int32))] [(.int x1)])) (fun t k => ?_) ?_
            · show Steps p.tables e below (T.setTop (mkF m 47 #[.val (.int x0), .val (.int x1), .val (.int (1 : Int32))] [])) t
              refine XS.iloadN Y.here hx rfl (hb hby d1_47) rfl ?_
              show Steps p.tables e below (T.setTop (mkF m 48 #[.val (.int x0), .val (.int x1), .val (.int (1 : Int32))] [(.int x1)])) t
              exact k
            by_cases hc48 : x1 = (0 : Int32)
            · refine Rn.go (T' := T) (g' := (mkF m 51 #[.val (.int x0), .val (.int x1), .val (.int (1 : Int32))] [])) (fun t k => XS.ifNo Y.here hx rfl (hb hby d1_48) rfl ((if0 _ _).trans (teq hc48).2) k) ?_
              refine Rn.go (T' := T) (g' := (mkF m 54 #[.val (.int x0), .val (.int x1), .val (.int (1 : Int32))] [(.int (44 : Int32)), (.int x0)])) (fun t k => ?_) ?_
              · show Steps p.tables e below (T.setTop (mkF m 51 #[.val (.int x0), .val (.int x1), .val (.int (1 : Int32))] [])) t
                refine XS.iloadN Y.here hx rfl (hb hby d1_51) rfl ?_
                show Steps p.tables e below (T.setTop (mkF m 52 #[.val (.int x0), .val (.int x1), .val (.int (1 : Int32))] [(.int x0)])) t
                refine XS.bipush Y.here hx rfl (hb hby d1_52) ?_
                show Steps p.tables e below (T.setTop (mkF m 54 #[.val (.int x0), .val (.int x1), .val (.int (1 : Int32))] [(.int (44 : Int32)), (.int x0)])) t
                exact k
              by_cases hc54 : x0 = (44 : Int32)
              · refine Rn.go (T' := T) (g' := (mkF m 57 #[.val (.int x0), .val (.int x1), .val (.int (1 : Int32))] [])) (fun t k => XS.icmpNo Y.here hx rfl (hb hby d1_54) rfl (teq hc54).2 k) ?_
                refine Rn.go (T' := T) (g' := (mkF m 58 #[.val (.int x0), .val (.int x1), .val (.int (1 : Int32))] [(.int (1 : Int32))])) (fun t k => ?_) ?_
                · show Steps p.tables e below (T.setTop (mkF m 57 #[.val (.int x0), .val (.int x1), .val (.int (1 : Int32))] [])) t
                  refine XS.iconst Y.here hx rfl (hb hby d1_57) ?_
                  show Steps p.tables e below (T.setTop (mkF m 58 #[.val (.int x0), .val (.int x1), .val (.int (1 : Int32))] [(.int (1 : Int32))])) t
                  exact k
                rw [← hF]; exact On.reti Y hx hret hlk (hb hby d1_58) (by decide) (by decide) ⟨by unfold own_chv; rw [if_neg hc3, if_neg hc9, if_neg hc15, if_pos hc21, if_neg hc44, if_pos hc48, if_pos hc54], rfl⟩
              · refine Rn.go (T' := T) (g' := (mkF m 59 #[.val (.int x0), .val (.int x1), .val (.int (1 : Int32))] [])) (fun t k => XS.icmpYes Y.here hx rfl (pc0 := 54) (pc' := 59) rfl (hb hby d1_54) rfl (feq hc54).2 (by decide) (by decide) k) ?_
                refine Rn.go (T' := T) (g' := (mkF m 61 #[.val (.int x0), .val (.int x1), .val (.int (1 : Int32))] [(.int (2 : Int32)), (.int x1)])) (fun t k => ?_) ?_
                · show Steps p.tables e below (T.setTop (mkF m 59 #[.val (.int x0), .val (.int x1), .val (.int (1 : Int32))] [])) t
                  refine XS.iloadN Y.here hx rfl (hb hby d1_59) rfl ?_
                  show Steps p.tables e below (T.setTop (mkF m 60 #[.val (.int x0), .val (.int x1), .val (.int (1 : Int32))] [(.int x1)])) t
                  refine XS.iconst Y.here hx rfl (hb hby d1_60) ?_
                  show Steps p.tables e below (T.setTop (mkF m 61 #[.val (.int x0), .val (.int x1), .val (.int (1 : Int32))] [(.int (2 : Int32)), (.int x1)])) t
                  exact k
                by_cases hc61 : x1 = (2 : Int32)
                · refine Rn.go (T' := T) (g' := (mkF m 64 #[.val (.int x0), .val (.int x1), .val (.int (1 : Int32))] [])) (fun t k => XS.icmpNo Y.here hx rfl (hb hby d1_61) rfl (teq hc61).2 k) ?_
                  refine Rn.go (T' := T) (g' := (mkF m 69 #[.val (.int x0), .val (.int x1), .val (.int (1 : Int32))] [(.int (2 : Int32))])) (fun t k => ?_) ?_
                  · show Steps p.tables e below (T.setTop (mkF m 64 #[.val (.int x0), .val (.int x1), .val (.int (1 : Int32))] [])) t
                    refine XS.iconst Y.here hx rfl (hb hby d1_64) ?_
                    show Steps p.tables e below (T.setTop (mkF m 65 #[.val (.int x0), .val (.int x1), .val (.int (1 : Int32))] [(.int (2 : Int32))])) t
                    refine XS.goto Y.here hx rfl (pc0 := 65) (pc' := 69) rfl (hb hby d1_65) (by decide) (by decide) ?_
                    show Steps p.tables e below (T.setTop (mkF m 69 #[.val (.int x0), .val (.int x1), .val (.int (1 : Int32))] [(.int (2 : Int32))])) t
                    exact k
                  rw [← hF]; exact On.reti Y hx hret hlk (hb hby d1_69) (by decide) (by decide) ⟨by unfold own_chv; rw [if_neg hc3, if_neg hc9, if_neg hc15, if_pos hc21, if_neg hc44, if_pos hc48, if_neg hc54, if_pos hc61], rfl⟩
                · refine Rn.go (T' := T) (g' := (mkF m 68 #[.val (.int x0), .val (.int x1), .val (.int (1 : Int32))] [])) (fun t k => XS.icmpYes Y.here hx rfl (pc0 := 61) (pc' := 68) rfl (hb hby d1_61) rfl (feq hc61).2 (by decide) (by decide) k) ?_
                  refine Rn.go (T' := T) (g' := (mkF m 69 #[.val (.int x0), .val (.int x1), .val (.int (1 : Int32))] [(.int (0 : Int32))])) (fun t k => ?_) ?_
                  · show Steps p.tables e below (T.setTop (mkF m 68 #[.val (.int x0), .val (.int x1), .val (.int (1 : Int32))] [])) t
                    refine XS.iconst Y.here hx rfl (hb hby d1_68) ?_
                    show Steps p.tables e below (T.setTop (mkF m 69 #[.val (.int x0), .val (.int x1), .val (.int (1 : Int32))] [(.int (0 : Int32))])) t
                    exact k
                  rw [← hF]; exact On.reti Y hx hret hlk (hb hby d1_69) (by decide) (by decide) ⟨by unfold own_chv; rw [if_neg hc3, if_neg hc9, if_neg hc15, if_pos hc21, if_neg hc44, if_pos hc48, if_neg hc54, if_neg hc61], rfl⟩
            · refine Rn.go (T' := T) (g' := (mkF m 59 #[.val (.int x0), .val (.int x1), .val (.int (1 : Int32))] [])) (fun t k => XS.ifYes Y.here hx rfl (pc0 := 48) (pc' := 59) rfl (hb hby d1_48) rfl ((if0 _ _).trans (feq hc48).2) (by decide) (by decide) k) ?_
              refine Rn.go (T' := T) (g' := (mkF m 61 #[.val (.int x0), .val (.int x1), .val (.int (1 : Int32))] [(.int (2 : Int32)), (.int x1)])) (fun t k => ?_) ?_
              · show Steps p.tables e below (T.setTop (mkF m 59 #[.val (.int x0), .val (.int x1), .val (.int (1 : Int32))] [])) t
                refine XS.iloadN Y.here hx rfl (hb hby d1_59) rfl ?_
                show Steps p.tables e below (T.setTop (mkF m 60 #[.val (.int x0), .val (.int x1), .val (.int (1 : Int32))] [(.int x1)])) t
                refine XS.iconst Y.here hx rfl (hb hby d1_60) ?_
                show Steps p.tables e below (T.setTop (mkF m 61 #[.val (.int x0), .val (.int x1), .val (.int (1 : Int32))] [(.int (2 : Int32)), (.int x1)])) t
                exact k
              by_cases hc61 : x1 = (2 : Int32)
              · refine Rn.go (T' := T) (g' := (mkF m 64 #[.val (.int x0), .val (.int x1), .val (.int (1 : Int32))] [])) (fun t k => XS.icmpNo Y.here hx rfl (hb hby d1_61) rfl (teq hc61).2 k) ?_
                refine Rn.go (T' := T) (g' := (mkF m 69 #[.val (.int x0), .val (.int x1), .val (.int (1 : Int32))] [(.int (2 : Int32))])) (fun t k => ?_) ?_
                · show Steps p.tables e below (T.setTop (mkF m 64 #[.val (.int x0), .val (.int x1), .val (.int (1 : Int32))] [])) t
                  refine XS.iconst Y.here hx rfl (hb hby d1_64) ?_
                  show Steps p.tables e below (T.setTop (mkF m 65 #[.val (.int x0), .val (.int x1), .val (.int (1 : Int32))] [(.int (2 : Int32))])) t
                  refine XS.goto Y.here hx rfl (pc0 := 65) (pc' := 69) rfl (hb hby d1_65) (by decide) (by decide) ?_
                  show Steps p.tables e below (T.setTop (mkF m 69 #[.val (.int x0), .val (.int x1), .val (.int (1 : Int32))] [(.int (2 : Int32))])) t
                  exact k
                rw [← hF]; exact On.reti Y hx hret hlk (hb hby d1_69) (by decide) (by decide) ⟨by unfold own_chv; rw [if_neg hc3, if_neg hc9, if_neg hc15, if_pos hc21, if_neg hc44, if_neg hc48, if_pos hc61], rfl⟩
              · refine Rn.go (T' := T) (g' := (mkF m 68 #[.val (.int x0), .val (.int x1), .val (.int (1 : Int32))] [])) (fun t k => XS.icmpYes Y.here hx rfl (pc0 := 61) (pc' := 68) rfl (hb hby d1_61) rfl (feq hc61).2 (by decide) (by decide) k) ?_
                refine Rn.go (T' := T) (g' := (mkF m 69 #[.val (.int x0), .val (.int x1), .val (.int (1 : Int32))] [(.int (0 : Int32))])) (fun t k => ?_) ?_
                · show Steps p.tables e below (T.setTop (mkF m 68 #[.val (.int x0), .val (.int x1), .val (.int (1 : Int32))] [])) t
                  refine XS.iconst Y.here hx rfl (hb hby d1_68) ?_
                  show Steps p.tables e below (T.setTop (mkF m 69 #[.val (.int x0), .val (.int x1), .val (.int (1 : Int32))] [(.int (0 : Int32))])) t
                  exact k
                rw [← hF]; exact On.reti Y hx hret hlk (hb hby d1_69) (by decide) (by decide) ⟨by unfold own_chv; rw [if_neg hc3, if_neg hc9, if_neg hc15, if_pos hc21, if_neg hc44, if_neg hc48, if_neg hc61], rfl⟩
        · refine Rn.go (T' := T) (g' := (mkF m 24 #[.val (.int x0), .val (.int x1), .unset] [])) (fun t k => XS.icmpNo Y.here hx rfl (hb hby d1_21) rfl (feq hc21).1 k) ?_
          refine Rn.go (T' := T) (g' := (mkF m 27 #[.val (.int x0), .val (.int x1), .unset] [(.int (44 : Int32)), (.int x0)])) (fun t k => ?_) ?_
          · show Steps p.tables e below (T.setTop (mkF m 24 #[.val (.int x0), .val (.int x1), .unset] [])) t
            refine XS.iloadN Y.here hx rfl (hb hby d1_24) rfl ?_
            show Steps p.tables e below (T.setTop (mkF m 25 #[.val (.int x0), .val (.int x1), .unset] [(.int x0)])) t
            refine XS.bipush Y.here hx rfl (hb hby d1_25) ?_
            show Steps p.tables e below (T.setTop (mkF m 27 #[.val (.int x0), .val (.int x1), .unset] [(.int (44 : Int32)), (.int x0)])) t
            exact k
          by_cases hc27 : x0 = (44 : Int32)
          · refine Rn.go (T' := T) (g' := (mkF m 30 #[.val (.int x0), .val (.int x1), .unset] [])) (fun t k => XS.icmpNo Y.here hx rfl (hb hby d1_27) rfl (teq hc27).2 k) ?_
            refine Rn.go (T' := T) (g' := (mkF m 37 #[.val (.int x0), .val (.int x1), .val (.int (1 : Int32))] [(.int (1 : Int32))])) (fun t k => ?_) ?_
            · show Steps p.tables e below (T.setTop (mkF m 30 #[.val (.int x0), .val (.int x1), .unset] [])) t
              refine XS.iconst Y.here hx rfl (hb hby d1_30) ?_
              show Steps p.tables e below (T.setTop (mkF m 31 #[.val (.int x0), .val (.int x1), .unset] [(.int (1 : Int32))])) t
              refine XS.goto Y.here hx rfl (pc0 := 31) (pc' := 35) rfl (hb hby d1_31) (by decide) (by decide) ?_
              show Steps p.tables e below (T.setTop (mkF m 35 #[.val (.int x0), .val (.int x1), .unset] [(.int (1 : Int32))])) t
              refine XS.istoreN Y.here hx rfl (hb hby d1_35) rfl (l' := #[.val (.int x0), .val (.int x1), .val (.int (1 : Int32))]) rfl ?_
              show Steps p.tables e below (T.setTop (mkF m 36 #[.val (.int x0), .val (.int x1), .val (.int (1 : Int32))] [])) t
              refine XS.iloadN Y.here hx rfl (hb hby d1_36) rfl ?_
              show Steps p.tables e below (T.setTop (mkF m 37 #[.val (.int x0), .val (.int x1), .val (.int (1 : Int32))] [(.int (1 : Int32))])) t
              exact k
            refine Rn.go (T' := T) (g' := (mkF m 42 #[.val (.int x0), .val (.int x1), .val (.int (1 : Int32))] [])) (fun t k => XS.ifYes Y.here hx rfl (pc0 := 37) (pc' := 42) rfl (hb hby d1_37) rfl ((if0 _ _).trans (feq (by decide)).2) (by decide) (by decide) k) ?_
            refine Rn.go (T' := T) (g' := (mkF m 44 #[.val (.int x0), .val (.int x1), .val (.int (1 : Int32))] [(.int (1 : Int32)), (.int x1)])) (fun t k => ?_) ?_
            · show Steps p.tables e below (T.setTop (mkF m 42 #[.val (.int x0), .val (.int x1), .val (.int (1 : Int32))] [])) t
              refine XS.iloadN Y.here hx rfl (hb hby d1_42) rfl ?_
              show Steps p.tables e below (T.setTop (mkF m 43 #[.val (.int x0), .val (.int x1), .val (.int (1 : Int32))] [(.int x1)])) t
              refine XS.iconst Y.here hx rfl (hb hby d1_43) ?_
              show Steps p.tables e below (T.setTop (mkF m 44 #[.val (.int x0), .val (.int x1), .val (.int (1 : Int32))] [(.int (1 : Int32)), (.int x1)])) t
              exact k
            by_cases hc44 : x1 = (1 : Int32)
            · refine Rn.go (T' := T) (g' := (mkF m 57 #[.val (.int x0), .val (.int x1), .val (.int (1 : Int32))] [])) (fun t k => XS.icmpYes Y.here hx rfl (pc0 := 44) (pc' := 57) rfl (hb hby d1_44) rfl (teq hc44).1 (by decide) (by decide) k) ?_
              refine Rn.go (T' := T) (g' := (mkF m 58 #[.val (.int x0), .val (.int x1), .val (.int (1 : Int32))] [(.int (1 : Int32))])) (fun t k => ?_) ?_
              · show Steps p.tables e below (T.setTop (mkF m 57 #[.val (.int x0), .val (.int x1), .val (.int (1 : Int32))] [])) t
                refine XS.iconst Y.here hx rfl (hb hby d1_57) ?_
                show Steps p.tables e below (T.setTop (mkF m 58 #[.val (.int x0), .val (.int x1), .val (.int (1 : Int32))] [(.int (1 : Int32))])) t
                exact k
              rw [← hF]; exact On.reti Y hx hret hlk (hb hby d1_58) (by decide) (by decide) ⟨by unfold own_chv; rw [if_neg hc3, if_neg hc9, if_neg hc15, if_neg hc21, if_pos hc27, if_pos hc44], rfl⟩
            · refine Rn.go (T' := T) (g' := (mkF m 47 #[.val (.int x0), .val (.int x1), .val (.int (1 : Int32))] [])) (fun t k => XS.icmpNo Y.here hx rfl (hb hby d1_44) rfl (feq hc44).1 k) ?_
              refine Rn.go (T' := T) (g' := (mkF m 48 #[.val (.int x0), .val (.int x1), .val (.int (1 : Int32))] [(.int x1)])) (fun t k => ?_) ?_
              · show Steps p.tables e below (T.setTop (mkF m 47 #[.val (.int x0), .val (.int x1), .val (.int (1 : Int32))] [])) t
                refine XS.iloadN Y.here hx rfl (hb hby d1_47) rfl ?_
                show Steps p.tables e below (T.setTop (mkF m 48 #[.val (.int x0), .val (.int x1), .val (.int (1 : Int32))] [(.int x1)])) t
                exact k
              by_cases hc48 : x1 = (0 : Int32)
              · refine Rn.go (T' := T) (g' := (mkF m 51 #[.val (.int x0), .val (.int x1), .val (.int (1 : Int32))] [])) (fun t k => XS.ifNo Y.here hx rfl (hb hby d1_48) rfl ((if0 _ _).trans (teq hc48).2) k) ?_
                refine Rn.go (T' := T) (g' := (mkF m 54 #[.val (.int x0), .val (.int x1), .val (.int (1 : Int32))] [(.int (44 : Int32)), (.int x0)])) (fun t k => ?_) ?_
                · show Steps p.tables e below (T.setTop (mkF m 51 #[.val (.int x0), .val (.int x1), .val (.int (1 : Int32))] [])) t
                  refine XS.iloadN Y.here hx rfl (hb hby d1_51) rfl ?_
                  show Steps p.tables e below (T.setTop (mkF m 52 #[.val (.int x0), .val (.int x1), .val (.int (1 : Int32))] [(.int x0)])) t
                  refine XS.bipush Y.here hx rfl (hb hby d1_52) ?_
                  show Steps p.tables e below (T.setTop (mkF m 54 #[.val (.int x0), .val (.int x1), .val (.int (1 : Int32))] [(.int (44 : Int32)), (.int x0)])) t
                  exact k
                by_cases hc54 : x0 = (44 : Int32)
                · refine Rn.go (T' := T) (g' := (mkF m 57 #[.val (.int x0), .val (.int x1), .val (.int (1 : Int32))] [])) (fun t k => XS.icmpNo Y.here hx rfl (hb hby d1_54) rfl (teq hc54).2 k) ?_
                  refine Rn.go (T' := T) (g' := (mkF m 58 #[.val (.int x0), .val (.int x1), .val (.int (1 : Int32))] [(.int (1 : Int32))])) (fun t k => ?_) ?_
                  · show Steps p.tables e below (T.setTop (mkF m 57 #[.val (.int x0), .val (.int x1), .val (.int (1 : Int32))] [])) t
                    refine XS.iconst Y.here hx rfl (hb hby d1_57) ?_
                    show Steps p.tables e below (T.setTop (mkF m 58 #[.val (.int x0), .val (.int x1), .val (.int (1 : Int32))] [(.int (1 : Int32))])) t
                    exact k
                  rw [← hF]; exact On.reti Y hx hret hlk (hb hby d1_58) (by decide) (by decide) ⟨by unfold own_chv; rw [if_neg hc3, if_neg hc9, if_neg hc15, if_neg hc21, if_pos hc27, if_neg hc44, if_pos hc48, if_pos hc54], rfl⟩
                · refine Rn.go (T' := T) (g' := (mkF m 59 #[.val (.int x0), .val (.int x1), .val (.int (1 : Int32))] [])) (fun t k => XS.icmpYes Y.here hx rfl (pc0 := 54) (pc' := 59) rfl (hb hby d1_54) rfl (feq hc54).2 (by decide) (by decide) k) ?_
                  refine Rn.go (T' := T) (g' := (mkF m 61 #[.val (.int x0), .val (.int x1), .val (.int (1 : Int32))] [(.int (2 : Int32)), (.int x1)])) (fun t k => ?_) ?_
                  · show Steps p.tables e below (T.setTop (mkF m 59 #[.val (.int x0), .val (.int x1), .val (.int (1 : Int32))] [])) t
                    refine XS.iloadN Y.here hx rfl (hb hby d1_59) rfl ?_
                    show Steps p.tables e below (T.setTop (mkF m 60 #[.val (.int x0), .val (.int x1), .val (.int (1 : Int32))] [(.int x1)])) t
                    refine XS.iconst Y.here hx rfl (hb hby d1_60) ?_
                    show Steps p.tables e below (T.setTop (mkF m 61 #[.val (.int x0), .val (.int x1), .val (.int (1 : Int32))] [(.int (2 : Int32)), (.int x1)])) t
                    exact k
                  by_cases hc61 : x1 = (2 : Int32)
                  · refine Rn.go (T' := T) (g' := (mkF m 64 #[.val (.int x0), .val (.int x1), .val (.int (1 : Int32))] [])) (fun t k => XS.icmpNo Y.here hx rfl (hb hby d1_61) rfl (teq hc61).2 k) ?_
                    refine Rn.go (T' := T) (g' := (mkF m 69 #[.val (.int x0), .val (.int x1), .val (.int (1 : Int32))] [(.int (2 : Int32))])) (fun t k => ?_) ?_
                    · show Steps p.tables e below (T.setTop (mkF m 64 #[.val (.int x0), .val (.int x1), .val (.int (1 : Int32))] [])) t
                      refine XS.iconst Y.here hx rfl (hb hby d1_64) ?_
                      show Steps p.tables e below (T.setTop (mkF m 65 #[.val (.int x0), .val (.int x1), .val (.int (1 : Int32))] [(.int (2 : Int32))])) t
                      refine XS.goto Y.here hx rfl (pc0 := 65) (pc' := 69) rfl (hb hby d1_65) (by decide) (by decide) ?_
                      show Steps p.tables e below (T.setTop (mkF m 69 #[.val (.int x0), .val (.int x1), .val (.int (1 : Int32))] [(.int (2 : Int32))])) t
                      exact k
                    rw [← hF]; exact On.reti Y hx hret hlk (hb hby d1_69) (by decide) (by decide) ⟨by unfold own_chv; rw [if_neg hc3, if_neg hc9, if_neg hc15, if_neg hc21, if_pos hc27, if_neg hc44, if_pos hc48, if_neg hc54, if_pos hc61], rfl⟩
                  · refine Rn.go (T' := T) (g' := (mkF m 68 #[.val (.int x0), .val (.int x1), .val (.int (1 : Int32))] [])) (fun t k => XS.icmpYes Y.here hx rfl (pc0 := 61) (pc' := 68) rfl (hb hby d1_61) rfl (feq hc61).2 (by decide) (by decide) k) ?_
                    refine Rn.go (T' := T) (g' := (mkF m 69 #[.val (.int x0), .val (.int x1), .val (.int (1 : Int32))] [(.int (0 : Int32))])) (fun t k => ?_) ?_
                    · show Steps p.tables e below (T.setTop (mkF m 68 #[.val (.int x0), .val (.int x1), .val (.int (1 : Int32))] [])) t
                      refine XS.iconst Y.here hx rfl (hb hby d1_68) ?_
                      show Steps p.tables e below (T.setTop (mkF m 69 #[.val (.int x0), .val (.int x1), .val (.int (1 : Int32))] [(.int (0 : Int32))])) t
                      exact k
                    rw [← hF]; exact On.reti Y hx hret hlk (hb hby d1_69) (by decide) (by decide) ⟨by unfold own_chv; rw [if_neg hc3, if_neg hc9, if_neg hc15, if_neg hc21, if_pos hc27, if_neg hc44, if_pos hc48, if_neg hc54, if_neg hc61], rfl⟩
              · refine Rn.go (T' := T) (g' := (mkF m 59 #[.val (.int x0), .val (.int x1), .val (.int (1 : Int32))] [])) (fun t k => XS.ifYes Y.here hx rfl (pc0 := 48) (pc' := 59) rfl (hb hby d1_48) rfl ((if0 _ _).trans (feq hc48).2) (by decide) (by decide) k) ?_
                refine Rn.go (T' := T) (g' := (mkF m 61 #[.val (.int x0), .val (.int x1), .val (.int (1 : Int32))] [(.int (2 : Int32)), (.int x1)])) (fun t k => ?_) ?_
                · show Steps p.tables e below (T.setTop (mkF m 59 #[.val (.int x0), .val (.int x1), .val (.int (1 : Int32))] [])) t
                  refine XS.iloadN Y.here hx rfl (hb hby d1_59) rfl ?_
                  show Steps p.tables e below (T.setTop (mkF m 60 #[.val (.int x0), .val (.int x1), .val (.int (1 : Int32))] [(.int x1)])) t
                  refine XS.iconst Y.here hx rfl (hb hby d1_60) ?_
                  show Steps p.tables e below (T.setTop (mkF m 61 #[.val (.int x0), .val (.int x1), .val (.int (1 : Int32))] [(.int (2 : Int32)), (.int x1)])) t
                  exact k
                by_cases hc61 : x1 = (2 : Int32)
                · refine Rn.go (T' := T) (g' := (mkF m 64 #[.val (.int x0), .val (.int x1), .val (.int (1 : Int32))] [])) (fun t k => XS.icmpNo Y.here hx rfl (hb hby d1_61) rfl (teq hc61).2 k) ?_
                  refine Rn.go (T' := T) (g' := (mkF m 69 #[.val (.int x0), .val (.int x1), .val (.int (1 : Int32))] [(.int (2 : Int32))])) (fun t k => ?_) ?_
                  · show Steps p.tables e below (T.setTop (mkF m 64 #[.val (.int x0), .val (.int x1), .val (.int (1 : Int32))] [])) t
                    refine XS.iconst Y.here hx rfl (hb hby d1_64) ?_
                    show Steps p.tables e below (T.setTop (mkF m 65 #[.val (.int x0), .val (.int x1), .val (.int (1 : Int32))] [(.int (2 : Int32))])) t
                    refine XS.goto Y.here hx rfl (pc0 := 65) (pc' := 69) rfl (hb hby d1_65) (by decide) (by decide) ?_
                    show Steps p.tables e below (T.setTop (mkF m 69 #[.val (.int x0), .val (.int x1), .val (.int (1 : Int32))] [(.int (2 : Int32))])) t
                    exact k
                  rw [← hF]; exact On.reti Y hx hret hlk (hb hby d1_69) (by decide) (by decide) ⟨by unfold own_chv; rw [if_neg hc3, if_neg hc9, if_neg hc15, if_neg hc21, if_pos hc27, if_neg hc44, if_neg hc48, if_pos hc61], rfl⟩
                · refine Rn.go (T' := T) (g' := (mkF m 68 #[.val (.int x0), .val (.int x1), .val (.int (1 : Int32))] [])) (fun t k => XS.icmpYes Y.here hx rfl (pc0 := 61) (pc' := 68) rfl (hb hby d1_61) rfl (feq hc61).2 (by decide) (by decide) k) ?_
                  refine Rn.go (T' := T) (g' := (mkF m 69 #[.val (.int x0), .val (.int x1), .val (.int (1 : Int32))] [(.int (0 : Int32))])) (fun t k => ?_) ?_
                  · show Steps p.tables e below (T.setTop (mkF m 68 #[.val (.int x0), .val (.int x1), .val (.int (1 : Int32))] [])) t
                    refine XS.iconst Y.here hx rfl (hb hby d1_68) ?_
                    show Steps p.tables e below (T.setTop (mkF m 69 #[.val (.int x0), .val (.int x1), .val (.int (1 : Int32))] [(.int (0 : Int32))])) t
                    exact k
                  rw [← hF]; exact On.reti Y hx hret hlk (hb hby d1_69) (by decide) (by decide) ⟨by unfold own_chv; rw [if_neg hc3, if_neg hc9, if_neg hc15, if_neg hc21, if_pos hc27, if_neg hc44, if_neg hc48, if_neg hc61], rfl⟩
          · refine Rn.go (T' := T) (g' := (mkF m 34 #[.val (.int x0), .val (.int x1), .unset] [])) (fun t k => XS.icmpYes Y.here hx rfl (pc0 := 27) (pc' := 34) rfl (hb hby d1_27) rfl (feq hc27).2 (by decide) (by decide) k) ?_
            refine Rn.go (T' := T) (g' := (mkF m 37 #[.val (.int x0), .val (.int x1), .val (.int (0 : Int32))] [(.int (0 : Int32))])) (fun t k => ?_) ?_
            · show Steps p.tables e below (T.setTop (mkF m 34 #[.val (.int x0), .val (.int x1), .unset] [])) t
              refine XS.iconst Y.here hx rfl (hb hby d1_34) ?_
              show Steps p.tables e below (T.setTop (mkF m 35 #[.val (.int x0), .val (.int x1), .unset] [(.int (0 : Int32))])) t
              refine XS.istoreN Y.here hx rfl (hb hby d1_35) rfl (l' := #[.val (.int x0), .val (.int x1), .val (.int (0 : Int32))]) rfl ?_
              show Steps p.tables e below (T.setTop (mkF m 36 #[.val (.int x0), .val (.int x1), .val (.int (0 : Int32))] [])) t
              refine XS.iloadN Y.here hx rfl (hb hby d1_36) rfl ?_
              show Steps p.tables e below (T.setTop (mkF m 37 #[.val (.int x0), .val (.int x1), .val (.int (0 : Int32))] [(.int (0 : Int32))])) t
              exact k
            refine Rn.go (T' := T) (g' := (mkF m 40 #[.val (.int x0), .val (.int x1), .val (.int (0 : Int32))] [])) (fun t k => XS.ifNo Y.here hx rfl (hb hby d1_37) rfl ((if0 _ _).trans (teq (by decide)).2) k) ?_
            refine Rn.go (T' := T) (g' := (mkF m 41 #[.val (.int x0), .val (.int x1), .val (.int (0 : Int32))] [(.int (0 : Int32))])) (fun t k => ?_) ?_
            · show Steps p.tables e below (T.setTop (mkF m 40 #[.val (.int x0), .val (.int x1), .val (.int (0 : Int32))] [])) t
              refine XS.iconst Y.here hx rfl (hb hby d1_40) ?_
              show Steps p.tables e below (T.setTop (mkF m 41 #[.val (.int x0), .val (.int x1), .val (.int (0 : Int32))] [(.int (0 : Int32))])) t
              exact k
            rw [← hF]; exact On.reti Y hx hret hlk (hb hby d1_41) (by decide) (by decide) ⟨by unfold own_chv; rw [if_neg hc3, if_neg hc9, if_neg hc15, if_neg hc21, if_neg hc27], rfl⟩
def own_exp (x0 : Int32) (x1 : Int32) : Int32 := (if x0 = (44 : Int32) then (if x1 = (1 : Int32) then (1 : Int32) else (if x1 = (2 : Int32) then (2 : Int32) else (if x1 = (0 : Int32) then (1 : Int32) else (0 : Int32)))) else (if x0 = (32 : Int32) then (if x1 = (1 : Int32) then (1 : Int32) else (if x1 = (2 : Int32) then (2 : Int32) else (0 : Int32))) else (if x0 = (36 : Int32) then (if x1 = (1 : Int32) then (1 : Int32) else (if x1 = (2 : Int32) then (2 : Int32) else (0 : Int32))) else (if x0 = (38 : Int32) then (if x1 = (1 : Int32) then (1 : Int32) else (if x1 = (2 : Int32) then (2 : Int32) else (0 : Int32))) else (if x0 = (40 : Int32) then (if x1 = (1 : Int32) then (1 : Int32) else (if x1 = (2 : Int32) then (2 : Int32) else (0 : Int32))) else (0 : Int32))))))
theorem ef_rm2 (m : MethodId) (x0 : Int32) (x1 : Int32) : entryFrame m #[(.int x0), (.int x1)] 3 = (mkF m 0 #[.val (.int x0), .val (.int x1), .unset] []) := by first | (simp [entryFrame, mkF, argsToLocals, Value.category]; done) | rfl
set_option maxRecDepth 65536 in
set_option maxHeartbeats 40000000 in
theorem rm2 (l : Launch) (Z : State) (a0 : Array Value) (hw : ∀ d ∈ tables_1, d.before a0 Z = true) (n0 : Nat) (x0 : Int32) (x1 : Int32) (Dr : List (Addr × Itm)) :
    Con l Z n0 (⟨"com/example/cardbench/cardbench/card/Gsm1111ChvNamedPinLaw", "expected", "(II)I"⟩ : MethodName) method_3_code 3 (some .int) ({ frames := 0, cells := 0, slots := 0, locals := 0 } : Room) #[(.int x0), (.int x1)] Dr (fun v D' => v = some (.int (own_exp x0 x1)) ∧ D' = Dr) := by
  refine Con.of (plainFor_of_name pn1) ?_
  intro p e s m below meth c T cx Y
  obtain ⟨hx, hby, hml, hown, hnm, hret, hlk, hZ⟩ := cx
  rw [ef_rm2]
  generalize hF : Fi Z n0 below s _ _ _ = F
  refine Rn.go (T' := T) (g' := (mkF m 3 #[.val (.int x0), .val (.int x1), .unset] [(.int (44 : Int32)), (.int x0)])) (fun t k => ?_) ?_
  · show Steps p.tables e below (T.setTop (mkF m 0 #[.val (.int x0), .val (.int x1), .unset] [])) t
    refine XS.iloadN Y.here hx rfl (hb hby d2_0) rfl ?_
    show Steps p.tables e below (T.setTop (mkF m 1 #[.val (.int x0), .val (.int x1), .unset] [(.int x0)])) t
    refine XS.bipush Y.here hx rfl (hb hby d2_1) ?_
    show Steps p.tables e below (T.setTop (mkF m 3 #[.val (.int x0), .val (.int x1), .unset] [(.int (44 : Int32)), (.int x0)])) t
    exact k
  by_cases hc3 : x0 = (44 : Int32)
  · refine Rn.go (T' := T) (g' := (mkF m 6 #[.val (.int x0), .val (.int x1), .unset] [])) (fun t k => XS.icmpNo Y.here hx rfl (hb hby d2_3) rfl (teq hc3).2 k) ?_
    refine Rn.go (T' := T) (g' := (mkF m 43 #[.val (.int x0), .val (.int x1), .val (.int (2 : Int32))] [(.int (2 : Int32))])) (fun t k => ?_) ?_
    · show Steps p.tables e below (T.setTop (mkF m 6 #[.val (.int x0), .val (.int x1), .unset] [])) t
      refine XS.iconst Y.here hx rfl (hb hby d2_6) ?_
      show Steps p.tables e below (T.setTop (mkF m 7 #[.val (.int x0), .val (.int x1), .unset] [(.int (2 : Int32))])) t
      refine XS.istoreN Y.here hx rfl (hb hby d2_7) rfl (l' := #[.val (.int x0), .val (.int x1), .val (.int (2 : Int32))]) rfl ?_
      show Steps p.tables e below (T.setTop (mkF m 8 #[.val (.int x0), .val (.int x1), .val (.int (2 : Int32))] [])) t
      refine XS.goto Y.here hx rfl (pc0 := 8) (pc' := 42) rfl (hb hby d2_8) (by decide) (by decide) ?_
      show Steps p.tables e below (T.setTop (mkF m 42 #[.val (.int x0), .val (.int x1), .val (.int (2 : Int32))] [])) t
      refine XS.iloadN Y.here hx rfl (hb hby d2_42) rfl ?_
      show Steps p.tables e below (T.setTop (mkF m 43 #[.val (.int x0), .val (.int x1), .val (.int (2 : Int32))] [(.int (2 : Int32))])) t
      exact k
    refine Rn.go (T' := T) (g' := (mkF m 48 #[.val (.int x0), .val (.int x1), .val (.int (2 : Int32))] [])) (fun t k => XS.ifYes Y.here hx rfl (pc0 := 43) (pc' := 48) rfl (hb hby d2_43) rfl ((if0 _ _).trans (feq (by decide)).2) (by decide) (by decide) k) ?_
    refine Rn.go (T' := T) (g' := (mkF m 50 #[.val (.int x0), .val (.int x1), .val (.int (2 : Int32))] [(.int (1 : Int32)), (.int x1)])) (fun t k => ?_) ?_
    · show Steps p.tables e below (T.setTop (mkF m 48 #[.val (.int x0), .val (.int x1), .val (.int (2 : Int32))] [])) t
      refine XS.iloadN Y.here hx rfl (hb hby d2_48) rfl ?_
      show Steps p.tables e below (T.setTop (mkF m 49 #[.val (.int x0), .val (.int x1), .val (.int (2 : Int32))] [(.int x1)])) t
      refine XS.iconst Y.here hx rfl (hb hby d2_49) ?_
      show Steps p.tables e below (T.setTop (mkF m 50 #[.val (.int x0), .val (.int x1), .val (.int (2 : Int32))] [(.int (1 : Int32)), (.int x1)])) t
      exact k
    by_cases hc50 : x1 = (1 : Int32)
    · refine Rn.go (T' := T) (g' := (mkF m 53 #[.val (.int x0), .val (.int x1), .val (.int (2 : Int32))] [])) (fun t k => XS.icmpNo Y.here hx rfl (hb hby d2_50) rfl (teq hc50).2 k) ?_
      refine Rn.go (T' := T) (g' := (mkF m 54 #[.val (.int x0), .val (.int x1), .val (.int (2 : Int32))] [(.int (1 : Int32))])) (fun t k => ?_) ?_
      · show Steps p.tables e below (T.setTop (mkF m 53 #[.val (.int x0), .val (.int x1), .val (.int (2 : Int32))] [])) t
        refine XS.iconst Y.here hx rfl (hb hby d2_53) ?_
        show Steps p.tables e below (T.setTop (mkF m 54 #[.val (.int x0), .val (.int x1), .val (.int (2 : Int32))] [(.int (1 : Int32))])) t
        exact k
      rw [← hF]; exact On.reti Y hx hret hlk (hb hby d2_54) (by decide) (by decide) ⟨by unfold own_exp; rw [if_pos hc3, if_pos hc50], rfl⟩
    · refine Rn.go (T' := T) (g' := (mkF m 55 #[.val (.int x0), .val (.int x1), .val (.int (2 : Int32))] [])) (fun t k => XS.icmpYes Y.here hx rfl (pc0 := 50) (pc' := 55) rfl (hb hby d2_50) rfl (feq hc50).2 (by decide) (by decide) k) ?_
      refine Rn.go (T' := T) (g' := (mkF m 57 #[.val (.int x0), .val (.int x1), .val (.int (2 : Int32))] [(.int (2 : Int32)), (.int x1)])) (fun t k => ?_) ?_
      · show Steps p.tables e below (T.setTop (mkF m 55 #[.val (.int x0), .val (.int x1), .val (.int (2 : Int32))] [])) t
        refine XS.iloadN Y.here hx rfl (hb hby d2_55) rfl ?_
        show Steps p.tables e below (T.setTop (mkF m 56 #[.val (.int x0), .val (.int x1), .val (.int (2 : Int32))] [(.int x1)])) t
        refine XS.iconst Y.here hx rfl (hb hby d2_56) ?_
        show Steps p.tables e below (T.setTop (mkF m 57 #[.val (.int x0), .val (.int x1), .val (.int (2 : Int32))] [(.int (2 : Int32)), (.int x1)])) t
        exact k
      by_cases hc57 : x1 = (2 : Int32)
      · refine Rn.go (T' := T) (g' := (mkF m 60 #[.val (.int x0), .val (.int x1), .val (.int (2 : Int32))] [])) (fun t k => XS.icmpNo Y.here hx rfl (hb hby d2_57) rfl (teq hc57).2 k) ?_
        refine Rn.go (T' := T) (g' := (mkF m 61 #[.val (.int x0), .val (.int x1), .val (.int (2 : Int32))] [(.int (2 : Int32))])) (fun t k => ?_) ?_
        · show Steps p.tables e below (T.setTop (mkF m 60 #[.val (.int x0), .val (.int x1), .val (.int (2 : Int32))] [])) t
          refine XS.iconst Y.here hx rfl (hb hby d2_60) ?_
          show Steps p.tables e below (T.setTop (mkF m 61 #[.val (.int x0), .val (.int x1), .val (.int (2 : Int32))] [(.int (2 : Int32))])) t
          exact k
        rw [← hF]; exact On.reti Y hx hret hlk (hb hby d2_61) (by decide) (by decide) ⟨by unfold own_exp; rw [if_pos hc3, if_neg hc50, if_pos hc57], rfl⟩
      · refine Rn.go (T' := T) (g' := (mkF m 62 #[.val (.int x0), .val (.int x1), .val (.int (2 : Int32))] [])) (fun t k => XS.icmpYes Y.here hx rfl (pc0 := 57) (pc' := 62) rfl (hb hby d2_57) rfl (feq hc57).2 (by decide) (by decide) k) ?_
        refine Rn.go (T' := T) (g' := (mkF m 63 #[.val (.int x0), .val (.int x1), .val (.int (2 : Int32))] [(.int x1)])) (fun t k => ?_) ?_
        · show Steps p.tables e below (T.setTop (mkF m 62 #[.val (.int x0), .val (.int x1), .val (.int (2 : Int32))] [])) t
          refine XS.iloadN Y.here hx rfl (hb hby d2_62) rfl ?_
          show Steps p.tables e below (T.setTop (mkF m 63 #[.val (.int x0), .val (.int x1), .val (.int (2 : Int32))] [(.int x1)])) t
          exact k
        by_cases hc63 : x1 = (0 : Int32)
        · refine Rn.go (T' := T) (g' := (mkF m 66 #[.val (.int x0), .val (.int x1), .val (.int (2 : Int32))] [])) (fun t k => XS.ifNo Y.here hx rfl (hb hby d2_63) rfl ((if0 _ _).trans (teq hc63).2) k) ?_
          refine Rn.go (T' := T) (g' := (mkF m 68 #[.val (.int x0), .val (.int x1), .val (.int (2 : Int32))] [(.int (2 : Int32)), (.int (2 : Int32))])) (fun t k => ?_) ?_
          · show Steps p.tables e below (T.setTop (mkF m 66 #[.val (.int x0), .val (.int x1), .val (.int (2 : Int32))] [])) t
            refine XS.iloadN Y.here hx rfl (hb hby d2_66) rfl ?_
            show Steps p.tables e below (T.setTop (mkF m 67 #[.val (.int x0), .val (.int x1), .val (.int (2 : Int32))] [(.int (2 : Int32))])) t
            refine XS.iconst Y.here hx rfl (hb hby d2_67) ?_
            show Steps p.tables e below (T.setTop (mkF m 68 #[.val (.int x0), .val (.int x1), .val (.int (2 : Int32))] [(.int (2 : Int32)), (.int (2 : Int32))])) t
            exact k
          refine Rn.go (T' := T) (g' := (mkF m 71 #[.val (.int x0), .val (.int x1), .val (.int (2 : Int32))] [])) (fun t k => XS.icmpNo Y.here hx rfl (hb hby d2_68) rfl (teq (by decide)).2 k) ?_
          refine Rn.go (T' := T) (g' := (mkF m 72 #[.val (.int x0), .val (.int x1), .val (.int (2 : Int32))] [(.int (1 : Int32))])) (fun t k => ?_) ?_
          · show Steps p.tables e below (T.setTop (mkF m 71 #[.val (.int x0), .val (.int x1), .val (.int (2 : Int32))] [])) t
            refine XS.iconst Y.here hx rfl (hb hby d2_71) ?_
            show Steps p.tables e below (T.setTop (mkF m 72 #[.val (.int x0), .val (.int x1), .val (.int (2 : Int32))] [(.int (1 : Int32))])) t
            exact k
          rw [← hF]; exact On.reti Y hx hret hlk (hb hby d2_72) (by decide) (by decide) ⟨by unfold own_exp; rw [if_pos hc3, if_neg hc50, if_neg hc57, if_pos hc63], rfl⟩
        · refine Rn.go (T' := T) (g' := (mkF m 73 #[.val (.int x0), .val (.int x1), .val (.int (2 : Int32))] [])) (fun t k => XS.ifYes Y.here hx rfl (pc0 := 63) (pc' := 73) rfl (hb hby d2_63) rfl ((if0 _ _).trans (feq hc63).2) (by decide) (by decide) k) ?_
          refine Rn.go (T' := T) (g' := (mkF m 74 #[.val (.int x0), .val (.int x1), .val (.int (2 : Int32))] [(.int (0 : Int32))])) (fun t k => ?_) ?_
          · show Steps p.tables e below (T.setTop (mkF m 73 #[.val (.int x0), .val (.int x1), .val (.int (2 : Int32))] [])) t
            refine XS.iconst Y.here hx rfl (hb hby d2_73) ?_
            show Steps p.tables e below (T.setTop (mkF m 74 #[.val (.int x0), .val (.int x1), .val (.int (2 : Int32))] [(.int (0 : Int32))])) t
            exact k
          rw [← hF]; exact On.reti Y hx hret hlk (hb hby d2_74) (by decide) (by decide) ⟨by unfold own_exp; rw [if_pos hc3, if_neg hc50, if_neg hc57, if_neg hc63], rfl⟩
  · refine Rn.go (T' := T) (g' := (mkF m 11 #[.val (.int x0), .val (.int x1), .unset] [])) (fun t k => XS.icmpYes Y.here hx rfl (pc0 := 3) (pc' := 11) rfl (hb hby d2_3) rfl (feq hc3).2 (by decide) (by decide) k) ?_
    refine Rn.go (T' := T) (g' := (mkF m 14 #[.val (.int x0), .val (.int x1), .unset] [(.int (32 : Int32)), (.int x0)])) (fun t k => ?_) ?_
    · show Steps p.tables e below (T.setTop (mkF m 11 #[.val (.int x0), .val (.int x1), .unset] [])) t
      refine XS.iloadN Y.here hx rfl (hb hby d2_11) rfl ?_
      show Steps p.tables e below (T.setTop (mkF m 12 #[.val (.int x0), .val (.int x1), .unset] [(.int x0)])) t
      refine XS.bipush Y.here hx rfl (hb hby d2_12) ?_
      show Steps p.tables e below (T.setTop (mkF m 14 #[.val (.int x0), .val (.int x1), .unset] [(.int (32 : Int32)), (.int x0)])) t
      exact k
    by_cases hc14 : x0 = (32 : Int32)
    · refine Rn.go (T' := T) (g' := (mkF m 35 #[.val (.int x0), .val (.int x1), .unset] [])) (fun t k => XS.icmpYes Y.here hx rfl (pc0 := 14) (pc' := 35) rfl (hb hby d2_14) rfl (teq hc14).1 (by decide) (by decide) k) ?_
      refine Rn.go (T' := T) (g' := (mkF m 43 #[.val (.int x0), .val (.int x1), .val (.int (1 : Int32))] [(.int (1 : Int32))])) (fun t k => ?_) ?_
      · show Steps p.tables e below (T.setTop (mkF m 35 #[.val (.int x0), .val (.int x1), .unset] [])) t
        refine XS.iconst Y.here hx rfl (hb hby d2_35) ?_
        show Steps p.tables e below (T.setTop (mkF m 36 #[.val (.int x0), .val (.int x1), .unset] [(.int (1 : Int32))])) t
        refine XS.istoreN Y.here hx rfl (hb hby d2_36) rfl (l' := #[.val (.int x0), .val (.int x1), .val (.int (1 : Int32))]) rfl ?_
        show Steps p.tables e below (T.setTop (mkF m 37 #[.val (.int x0), .val (.int x1), .val (.int (1 : Int32))] [])) t
        refine XS.goto Y.here hx rfl (pc0 := 37) (pc' := 42) rfl (hb hby d2_37) (by decide) (by decide) ?_
        show Steps p.tables e below (T.setTop (mkF m 42 #[.val (.int x0), .val (.int x1), .val (.int (1 : Int32))] [])) t
        refine XS.iloadN Y.here hx rfl (hb hby d2_42) rfl ?_
        show Steps p.tables e below (T.setTop (mkF m 43 #[.val (.int x0), .val (.int x1), .val (.int (1 : Int32))] [(.int (1 : Int32))])) t
        exact k
      refine Rn.go (T' := T) (g' := (mkF m 48 #[.val (.int x0), .val (.int x1), .val (.int (1 : Int32))] [])) (fun t k => XS.ifYes Y.here hx rfl (pc0 := 43) (pc' := 48) rfl (hb hby d2_43) rfl ((if0 _ _).trans (feq (by decide)).2) (by decide) (by decide) k) ?_
      refine Rn.go (T' := T) (g' := (mkF m 50 #[.val (.int x0), .val (.int x1), .val (.int (1 : Int32))] [(.int (1 : Int32)), (.int x1)])) (fun t k => ?_) ?_
      · show Steps p.tables e below (T.setTop (mkF m 48 #[.val (.int x0), .val (.int x1), .val (.int (1 : Int32))] [])) t
        refine XS.iloadN Y.here hx rfl (hb hby d2_48) rfl ?_
        show Steps p.tables e below (T.setTop (mkF m 49 #[.val (.int x0), .val (.int x1), .val (.int (1 : Int32))] [(.int x1)])) t
        refine XS.iconst Y.here hx rfl (hb hby d2_49) ?_
        show Steps p.tables e below (T.setTop (mkF m 50 #[.val (.int x0), .val (.int x1), .val (.int (1 : Int32))] [(.int (1 : Int32)), (.int x1)])) t
        exact k
      by_cases hc50 : x1 = (1 : Int32)
      · refine Rn.go (T' := T) (g' := (mkF m 53 #[.val (.int x0), .val (.int x1), .val (.int (1 : Int32))] [])) (fun t k => XS.icmpNo Y.here hx rfl (hb hby d2_50) rfl (teq hc50).2 k) ?_
        refine Rn.go (T' := T) (g' := (mkF m 54 #[.val (.int x0), .val (.int x1), .val (.int (1 : Int32))] [(.int (1 : Int32))])) (fun t k => ?_) ?_
        · show Steps p.tables e below (T.setTop (mkF m 53 #[.val (.int x0), .val (.int x1), .val (.int (1 : Int32))] [])) t
          refine XS.iconst Y.here hx rfl (hb hby d2_53) ?_
          show Steps p.tables e below (T.setTop (mkF m 54 #[.val (.int x0), .val (.int x1), .val (.int (1 : Int32))] [(.int (1 : Int32))])) t
          exact k
        rw [← hF]; exact On.reti Y hx hret hlk (hb hby d2_54) (by decide) (by decide) ⟨by unfold own_exp; rw [if_neg hc3, if_pos hc14, if_pos hc50], rfl⟩
      · refine Rn.go (T' := T) (g' := (mkF m 55 #[.val (.int x0), .val (.int x1), .val (.int (1 : Int32))] [])) (fun t k => XS.icmpYes Y.here hx rfl (pc0 := 50) (pc' := 55) rfl (hb hby d2_50) rfl (feq hc50).2 (by decide) (by decide) k) ?_
        refine Rn.go (T' := T) (g' := (mkF m 57 #[.val (.int x0), .val (.int x1), .val (.int (1 : Int32))] [(.int (2 : Int32)), (.int x1)])) (fun t k => ?_) ?_
        · show Steps p.tables e below (T.setTop (mkF m 55 #[.val (.int x0), .val (.int x1), .val (.int (1 : Int32))] [])) t
          refine XS.iloadN Y.here hx rfl (hb hby d2_55) rfl ?_
          show Steps p.tables e below (T.setTop (mkF m 56 #[.val (.int x0), .val (.int x1), .val (.int (1 : Int32))] [(.int x1)])) t
          refine XS.iconst Y.here hx rfl (hb hby d2_56) ?_
          show Steps p.tables e below (T.setTop (mkF m 57 #[.val (.int x0), .val (.int x1), .val (.int (1 : Int32))] [(.int (2 : Int32)), (.int x1)])) t
          exact k
        by_cases hc57 : x1 = (2 : Int32)
        · refine Rn.go (T' := T) (g' := (mkF m 60 #[.val (.int x0), .val (.int x1), .val (.int (1 : Int32))] [])) (fun t k => XS.icmpNo Y.here hx rfl (hb hby d2_57) rfl (teq hc57).2 k) ?_
          refine Rn.go (T' := T) (g' := (mkF m 61 #[.val (.int x0), .val (.int x1), .val (.int (1 : Int32))] [(.int (2 : Int32))])) (fun t k => ?_) ?_
          · show Steps p.tables e below (T.setTop (mkF m 60 #[.val (.int x0), .val (.int x1), .val (.int (1 : Int32))] [])) t
            refine XS.iconst Y.here hx rfl (hb hby d2_60) ?_
            show Steps p.tables e below (T.setTop (mkF m 61 #[.val (.int x0), .val (.int x1), .val (.int (1 : Int32))] [(.int (2 : Int32))])) t
            exact k
          rw [← hF]; exact On.reti Y hx hret hlk (hb hby d2_61) (by decide) (by decide) ⟨by unfold own_exp; rw [if_neg hc3, if_pos hc14, if_neg hc50, if_pos hc57], rfl⟩
        · refine Rn.go (T' := T) (g' := (mkF m 62 #[.val (.int x0), .val (.int x1), .val (.int (1 : Int32))] [])) (fun t k => XS.icmpYes Y.here hx rfl (pc0 := 57) (pc' := 62) rfl (hb hby d2_57) rfl (feq hc57).2 (by decide) (by decide) k) ?_
          refine Rn.go (T' := T) (g' := (mkF m 63 #[.val (.int x0), .val (.int x1), .val (.int (1 : Int32))] [(.int x1)])) (fun t k => ?_) ?_
          · show Steps p.tables e below (T.setTop (mkF m 62 #[.val (.int x0), .val (.int x1), .val (.int (1 : Int32))] [])) t
            refine XS.iloadN Y.here hx rfl (hb hby d2_62) rfl ?_
            show Steps p.tables e below (T.setTop (mkF m 63 #[.val (.int x0), .val (.int x1), .val (.int (1 : Int32))] [(.int x1)])) t
            exact k
          by_cases hc63 : x1 = (0 : Int32)
          · refine Rn.go (T' := T) (g' := (mkF m 66 #[.val (.int x0), .val (.int x1), .val (.int (1 : Int32))] [])) (fun t k => XS.ifNo Y.here hx rfl (hb hby d2_63) rfl ((if0 _ _).trans (teq hc63).2) k) ?_
            refine Rn.go (T' := T) (g' := (mkF m 68 #[.val (.int x0), .val (.int x1), .val (.int (1 : Int32))] [(.int (2 : Int32)), (.int (1 : Int32))])) (fun t k => ?_) ?_
            · show Steps p.tables e below (T.setTop (mkF m 66 #[.val (.int x0), .val (.int x1), .val (.int (1 : Int32))] [])) t
              refine XS.iloadN Y.here hx rfl (hb hby d2_66) rfl ?_
              show Steps p.tables e below (T.setTop (mkF m 67 #[.val (.int x0), .val (.int x1), .val (.int (1 : Int32))] [(.int (1 : Int32))])) t
              refine XS.iconst Y.here hx rfl (hb hby d2_67) ?_
              show Steps p.tables e below (T.setTop (mkF m 68 #[.val (.int x0), .val (.int x1), .val (.int (1 : Int32))] [(.int (2 : Int32)), (.int (1 : Int32))])) t
              exact k
            refine Rn.go (T' := T) (g' := (mkF m 73 #[.val (.int x0), .val (.int x1), .val (.int (1 : Int32))] [])) (fun t k => XS.icmpYes Y.here hx rfl (pc0 := 68) (pc' := 73) rfl (hb hby d2_68) rfl (feq (by decide)).2 (by decide) (by decide) k) ?_
            refine Rn.go (T' := T) (g' := (mkF m 74 #[.val (.int x0), .val (.int x1), .val (.int (1 : Int32))] [(.int (0 : Int32))])) (fun t k => ?_) ?_
            · show Steps p.tables e below (T.setTop (mkF m 73 #[.val (.int x0), .val (.int x1), .val (.int (1 : Int32))] [])) t
              refine XS.iconst Y.here hx rfl (hb hby d2_73) ?_
              show Steps p.tables e below (T.setTop (mkF m 74 #[.val (.int x0), .val (.int x1), .val (.int (1 : Int32))] [(.int (0 : Int32))])) t
              exact k
            rw [← hF]; exact On.reti Y hx hret hlk (hb hby d2_74) (by decide) (by decide) ⟨by unfold own_exp; rw [if_neg hc3, if_pos hc14, if_neg hc50, if_neg hc57], rfl⟩
          · refine Rn.go (T' := T) (g' := (mkF m 73 #[.val (.int x0), .val (.int x1), .val (.int (1 : Int32))] [])) (fun t k => XS.ifYes Y.here hx rfl (pc0 := 63) (pc' := 73) rfl (hb hby d2_63) rfl ((if0 _ _).trans (feq hc63).2) (by decide) (by decide) k) ?_
            refine Rn.go (T' := T) (g' := (mkF m 74 #[.val (.int x0), .val (.int x1), .val (.int (1 : Int32))] [(.int (0 : Int32))])) (fun t k => ?_) ?_
            · show Steps p.tables e below (T.setTop (mkF m 73 #[.val (.int x0), .val (.int x1), .val (.int (1 : Int32))] [])) t
              refine XS.iconst Y.here hx rfl (hb hby d2_73) ?_
              show Steps p.tables e below (T.setTop (mkF m 74 #[.val (.int x0), .val (.int x1), .val (.int (1 : Int32))] [(.int (0 : Int32))])) t
              exact k
            rw [← hF]; exact On.reti Y hx hret hlk (hb hby d2_74) (by decide) (by decide) ⟨by unfold own_exp; rw [if_neg hc3, if_pos hc14, if_neg hc50, if_neg hc57], rfl⟩
    · refine Rn.go (T' := T) (g' := (mkF m 17 #[.val (.int x0), .val (.int x1), .unset] [])) (fun t k => XS.icmpNo Y.here hx rfl (hb hby d2_14) rfl (feq hc14).1 k) ?_
      refine Rn.go (T' := T) (g' := (mkF m 20 #[.val (.int x0), .val (.int x1), .unset] [(.int (36 : Int32)), (.int x0)])) (fun t k => ?_) ?_
      · show Steps p.tables e below (T.setTop (mkF m 17 #[.val (.int x0), .val (.int x1), .unset] [])) t
        refine XS.iloadN Y.here hx rfl (hb hby d2_17) rfl ?_
        show Steps p.tables e below (T.setTop (mkF m 18 #[.val (.int x0), .val (.int x1), .unset] [(.int x0)])) t
        refine XS.bipush Y.here hx rfl (hb hby d2_18) ?_
        show Steps p.tables e below (T.setTop (mkF m 20 #[.val (.int x0), .val (.int x1), .unset] [(.int (36 : Int32)), (.int x0)])) t
        exact k
      by_cases hc20 : x0 = (36 : Int32)
      · refine Rn.go (T' := T) (g' := (mkF m 35 #[.val (.int x0), .val (.int x1), .unset] [])) (fun t k => XS.icmpYes Y.here hx rfl (pc0 := 20) (pc' := 35) rfl (hb hby d2_20) rfl (teq hc20).1 (by decide) (by decide) k) ?_
        refine Rn.go (T' := T) (g' := (mkF m 43 #[.val (.int x0), .val (.int x1), .val (.int (1 : Int32))] [(.int (1 : Int32))])) (fun t k => ?_) ?_
        · show Steps p.tables e below (T.setTop (mkF m 35 #[.val (.int x0), .val (.int x1), .unset] [])) t
          refine XS.iconst Y.here hx rfl (hb hby d2_35) ?_
          show Steps p.tables e below (T.setTop (mkF m 36 #[.val (.int x0), .val (.int x1), .unset] [(.int (1 : Int32))])) t
          refine XS.istoreN Y.here hx rfl (hb hby d2_36) rfl (l' := #[.val (.int x0), .val (.int x1), .val (.int (1 : Int32))]) rfl ?_
          show Steps p.tables e below (T.setTop (mkF m 37 #[.val (.int x0), .val (.int x1), .val (.int (1 : Int32))] [])) t
          refine XS.goto Y.here hx rfl (pc0 := 37) (pc' := 42) rfl (hb hby d2_37) (by decide) (by decide) ?_
          show Steps p.tables e below (T.setTop (mkF m 42 #[.val (.int x0), .val (.int x1), .val (.int (1 : Int32))] [])) t
          refine XS.iloadN Y.here hx rfl (hb hby d2_42) rfl ?_
          show Steps p.tables e below (T.setTop (mkF m 43 #[.val (.int x0), .val (.int x1), .val (.int (1 : Int32))] [(.int (1 : Int32))])) t
          exact k
        refine Rn.go (T' := T) (g' := (mkF m 48 #[.val (.int x0), .val (.int x1), .val (.int (1 : Int32))] [])) (fun t k => XS.ifYes Y.here hx rfl (pc0 := 43) (pc' := 48) rfl (hb hby d2_43) rfl ((if0 _ _).trans (feq (by decide)).2) (by decide) (by decide) k) ?_
        refine Rn.go (T' := T) (g' := (mkF m 50 #[.val (.int x0), .val (.int x1), .val (.int (1 : Int32))] [(.int (1 : Int32)), (.int x1)])) (fun t k => ?_) ?_
        · show Steps p.tables e below (T.setTop (mkF m 48 #[.val (.int x0), .val (.int x1), .val (.int (1 : Int32))] [])) t
          refine XS.iloadN Y.here hx rfl (hb hby d2_48) rfl ?_
          show Steps p.tables e below (T.setTop (mkF m 49 #[.val (.int x0), .val (.int x1), .val (.int (1 : Int32))] [(.int x1)])) t
          refine XS.iconst Y.here hx rfl (hb hby d2_49) ?_
          show Steps p.tables e below (T.setTop (mkF m 50 #[.val (.int x0), .val (.int x1), .val (.int (1 : Int32))] [(.int (1 : Int32)), (.int x1)])) t
          exact k
        by_cases hc50 : x1 = (1 : Int32)
        · refine Rn.go (T' := T) (g' := (mkF m 53 #[.val (.int x0), .val (.int x1), .val (.int (1 : Int32))] [])) (fun t k => XS.icmpNo Y.here hx rfl (hb hby d2_50) rfl (teq hc50).2 k) ?_
          refine Rn.go (T' := T) (g' := (mkF m 54 #[.val (.int x0), .val (.int x1), .val (.int (1 : Int32))] [(.int (1 : Int32))])) (fun t k => ?_) ?_
          · show Steps p.tables e below (T.setTop (mkF m 53 #[.val (.int x0), .val (.int x1), .val (.int (1 : Int32))] [])) t
            refine XS.iconst Y.here hx rfl (hb hby d2_53) ?_
            show Steps p.tables e below (T.setTop (mkF m 54 #[.val (.int x0), .val (.int x1), .val (.int (1 : Int32))] [(.int (1 : Int32))])) t
            exact k
          rw [← hF]; exact On.reti Y hx hret hlk (hb hby d2_54) (by decide) (by decide) ⟨by unfold own_exp; rw [if_neg hc3, if_neg hc14, if_pos hc20, if_pos hc50], rfl⟩
        · refine Rn.go (T' := T) (g' := (mkF m 55 #[.val (.int x0), .val (.int x1), .val (.int (1 : Int32))] [])) (fun t k => XS.icmpYes Y.here hx rfl (pc0 := 50) (pc' := 55) rfl (hb hby d2_50) rfl (feq hc50).2 (by decide) (by decide) k) ?_
          refine Rn.go (T' := T) (g' := (mkF m 57 #[.val (.int x0), .val (.int x1), .val (.int (1 : Int32))] [(.int (2 : Int32)), (.int x1)])) (fun t k => ?_) ?_
          · show Steps p.tables e below (T.setTop (mkF m 55 #[.val (.int x0), .val (.int x1), .val (.int (1 : Int32))] [])) t
            refine XS.iloadN Y.here hx rfl (hb hby d2_55) rfl ?_
            show Steps p.tables e below (T.setTop (mkF m 56 #[.val (.int x0), .val (.int x1), .val (.int (1 : Int32))] [(.int x1)])) t
            refine XS.iconst Y.here hx rfl (hb hby d2_56) ?_
            show Steps p.tables e below (T.setTop (mkF m 57 #[.val (.int x0), .val (.int x1), .val (.int (1 : Int32))] [(.int (2 : Int32)), (.int x1)])) t
            exact k
          by_cases hc57 : x1 = (2 : Int32)
          · refine Rn.go (T' := T) (g' := (mkF m 60 #[.val (.int x0), .val (.int x1), .val (.int (1 : Int32))] [])) (fun t k => XS.icmpNo Y.here hx rfl (hb hby d2_57) rfl (teq hc57).2 k) ?_
            refine Rn.go (T' := T) (g' := (mkF m 61 #[.val (.int x0), .val (.int x1), .val (.int (1 : Int32))] [(.int (2 : Int32))])) (fun t k => ?_) ?_
            · show Steps p.tables e below (T.setTop (mkF m 60 #[.val (.int x0), .val (.int x1), .val (.int (1 : Int32))] [])) t
              refine XS.iconst Y.here hx rfl (hb hby d2_60) ?_
              show Steps p.tables e below (T.setTop (mkF m 61 #[.val (.int x0), .val (.int x1), .val (.int (1 : Int32))] [(.int (2 : Int32))])) t
              exact k
            rw [← hF]; exact On.reti Y hx hret hlk (hb hby d2_61) (by decide) (by decide) ⟨by unfold own_exp; rw [if_neg hc3, if_neg hc14, if_pos hc20, if_neg hc50, if_pos hc57], rfl⟩
          · refine Rn.go (T' := T) (g' := (mkF m 62 #[.val (.int x0), .val (.int x1), .val (.int (1 : Int32))] [])) (fun t k => XS.icmpYes Y.here hx rfl (pc0 := 57) (pc' := 62) rfl (hb hby d2_57) rfl (feq hc57).2 (by decide) (by decide) k) ?_
            refine Rn.go (T' := T) (g' := (mkF m 63 #[.val (.int x0), .val (.int x1), .val (.int (1 : Int32))] [(.int x1)])) (fun t k => ?_) ?_
            · show Steps p.tables e below (T.setTop (mkF m 62 #[.val (.int x0), .val (.int x1), .val (.int (1 : Int32))] [])) t
              refine XS.iloadN Y.here hx rfl (hb hby d2_62) rfl ?_
              show Steps p.tables e below (T.setTop (mkF m 63 #[.val (.int x0), .val (.int x1), .val (.int (1 : Int32))] [(.int x1)])) t
              exact k
            by_cases hc63 : x1 = (0 : Int32)
            · refine Rn.go (T' := T) (g' := (mkF m 66 #[.val (.int x0), .val (.int x1), .val (.int (1 : Int32))] [])) (fun t k => XS.ifNo Y.here hx rfl (hb hby d2_63) rfl ((if0 _ _).trans (teq hc63).2) k) ?_
              refine Rn.go (T' := T) (g' := (mkF m 68 #[.val (.int x0), .val (.int x1), .val (.int (1 : Int32))] [(.int (2 : Int32)), (.int (1 : Int32))])) (fun t k => ?_) ?_
              · show Steps p.tables e below (T.setTop (mkF m 66 #[.val (.int x0), .val (.int x1), .val (.int (1 : Int32))] [])) t
                refine XS.iloadN Y.here hx rfl (hb hby d2_66) rfl ?_
                show Steps p.tables e below (T.setTop (mkF m 67 #[.val (.int x0), .val (.int x1), .val (.int (1 : Int32))] [(.int (1 : Int32))])) t
                refine XS.iconst Y.here hx rfl (hb hby d2_67) ?_
                show Steps p.tables e below (T.setTop (mkF m 68 #[.val (.int x0), .val (.int x1), .val (.int (1 : Int32))] [(.int (2 : Int32)), (.int (1 : Int32))])) t
                exact k
              refine Rn.go (T' := T) (g' := (mkF m 73 #[.val (.int x0), .val (.int x1), .val (.int (1 : Int32))] [])) (fun t k => XS.icmpYes Y.here hx rfl (pc0 := 68) (pc' := 73) rfl (hb hby d2_68) rfl (feq (by decide)).2 (by decide) (by decide) k) ?_
              refine Rn.go (T' := T) (g' := (mkF m 74 #[.val (.int x0), .val (.int x1), .val (.int (1 : Int32))] [(.int (0 : Int32))])) (fun t k => ?_) ?_
              · show Steps p.tables e below (T.setTop (mkF m 73 #[.val (.int x0), .val (.int x1), .val (.int (1 : Int32))] [])) t
                refine XS.iconst Y.here hx rfl (hb hby d2_73) ?_
                show Steps p.tables e below (T.setTop (mkF m 74 #[.val (.int x0), .val (.int x1), .val (.int (1 : Int32))] [(.int (0 : Int32))])) t
                exact k
              rw [← hF]; exact On.reti Y hx hret hlk (hb hby d2_74) (by decide) (by decide) ⟨by unfold own_exp; rw [if_neg hc3, if_neg hc14, if_pos hc20, if_neg hc50, if_neg hc57], rfl⟩
            · refine Rn.go (T' := T) (g' := (mkF m 73 #[.val (.int x0), .val (.int x1), .val (.int (1 : Int32))] [])) (fun t k => XS.ifYes Y.here hx rfl (pc0 := 63) (pc' := 73) rfl (hb hby d2_63) rfl ((if0 _ _).trans (feq hc63).2) (by decide) (by decide) k) ?_
              refine Rn.go (T' := T) (g' := (mkF m 74 #[.val (.int x0), .val (.int x1), .val (.int (1 : Int32))] [(.int (0 : Int32))])) (fun t k => ?_) ?_
              · show Steps p.tables e below (T.setTop (mkF m 73 #[.val (.int x0), .val (.int x1), .val (.int (1 : Int32))] [])) t
                refine XS.iconst Y.here hx rfl (hb hby d2_73) ?_
                show Steps p.tables e below (T.setTop (mkF m 74 #[.val (.int x0), .val (.int x1), .val (.int (1 : Int32))] [(.int (0 : Int32))])) t
                exact k
              rw [← hF]; exact On.reti Y hx hret hlk (hb hby d2_74) (by decide) (by decide) ⟨by unfold own_exp; rw [if_neg hc3, if_neg hc14, if_pos hc20, if_neg hc50, if_neg hc57], rfl⟩
      · refine Rn.go (T' := T) (g' := (mkF m 23 #[.val (.int x0), .val (.int x1), .unset] [])) (fun t k => XS.icmpNo Y.here hx rfl (hb hby d2_20) rfl (feq hc20).1 k) ?_
        refine Rn.go (T' := T) (g' := (mkF m 26 #[.val (.int x0), .val (.int x1), .unset] [(.int (38 : Int32)), (.int x0)])) (fun t k => ?_) ?_
        · show Steps p.tables e below (T.setTop (mkF m 23 #[.val (.int x0), .val (.int x1), .unset] [])) t
          refine XS.iloadN Y.here hx rfl (hb hby d2_23) rfl ?_
          show Steps p.tables e below (T.setTop (mkF m 24 #[.val (.int x0), .val (.int x1), .unset] [(.int x0)])) t
          refine XS.bipush Y.here hx rfl (hb hby d2_24) ?_
          show Steps p.tables e below (T.setTop (mkF m 26 #[.val (.int x0), .val (.int x1), .unset] [(.int (38 : Int32)), (.int x0)])) t
          exact k
        by_cases hc26 : x0 = (38 : Int32)
        · refine Rn.go (T' := T) (g' := (mkF m 35 #[.val (.int x0), .val (.int x1), .unset] [])) (fun t k => XS.icmpYes Y.here hx rfl (pc0 := 26) (pc' := 35) rfl (hb hby d2_26) rfl (teq hc26).1 (by decide) (by decide) k) ?_
          refine Rn.go (T' := T) (g' := (mkF m 43 #[.val (.int x0), .val (.int x1), .val (.int (1 : Int32))] [(.int (1 : Int32))])) (fun t k => ?_) ?_
          · show Steps p.tables e below (T.setTop (mkF m 35 #[.val (.int x0), .val (.int x1), .unset] [])) t
            refine XS.iconst Y.here hx rfl (hb hby d2_35) ?_
            show Steps p.tables e below (T.setTop (mkF m 36 #[.val (.int x0), .val (.int x1), .unset] [(.int (1 : Int32))])) t
            refine XS.istoreN Y.here hx rfl (hb hby d2_36) rfl (l' := #[.val (.int x0), .val (.int x1), .val (.int (1 : Int32))]) rfl ?_
            show Steps p.tables e below (T.setTop (mkF m 37 #[.val (.int x0), .val (.int x1), .val (.int (1 : Int32))] [])) t
            refine XS.goto Y.here hx rfl (pc0 := 37) (pc' := 42) rfl (hb hby d2_37) (by decide) (by decide) ?_
            show Steps p.tables e below (T.setTop (mkF m 42 #[.val (.int x0), .val (.int x1), .val (.int (1 : Int32))] [])) t
            refine XS.iloadN Y.here hx rfl (hb hby d2_42) rfl ?_
            show Steps p.tables e below (T.setTop (mkF m 43 #[.val (.int x0), .val (.int x1), .val (.int (1 : Int32))] [(.int (1 : Int32))])) t
            exact k
          refine Rn.go (T' := T) (g' := (mkF m 48 #[.val (.int x0), .val (.int x1), .val (.int (1 : Int32))] [])) (fun t k => XS.ifYes Y.here hx rfl (pc0 := 43) (pc' := 48) rfl (hb hby d2_43) rfl ((if0 _ _).trans (feq (by decide)).2) (by decide) (by decide) k) ?_
          refine Rn.go (T' := T) (g' := (mkF m 50 #[.val (.int x0), .val (.int x1), .val (.int (1 : Int32))] [(.int (1 : Int32)), (.int x1)])) (fun t k => ?_) ?_
          · show Steps p.tables e below (T.setTop (mkF m 48 #[.val (.int x0), .val (.int x1), .val (.int (1 : Int32))] [])) t
            refine XS.iloadN Y.here hx rfl (hb hby d2_48) rfl ?_
            show Steps p.tables e below (T.setTop (mkF m 49 #[.val (.int x0), .val (.int x1), .val (.int (1 : Int32))] [(.int x1)])) t
            refine XS.iconst Y.here hx rfl (hb hby d2_49) ?_
            show Steps p.tables e below (T.setTop (mkF m 50 #[.val (.int x0), .val (.int x1), .val (.int (1 : Int32))] [(.int (1 : Int32)), (.int x1)])) t
            exact k
          by_cases hc50 : x1 = (1 : Int32)
          · refine Rn.go (T' := T) (g' := (mkF m 53 #[.val (.int x0), .val (.int x1), .val (.int (1 : Int32))] [])) (fun t k => XS.icmpNo Y.here hx rfl (hb hby d2_50) rfl (teq hc50).2 k) ?_
            refine Rn.go (T' := T) (g' := (mkF m 54 #[.val (.int x0), .val (.int x1), .val (.int (1 : Int32))] [(.int (1 : Int32))])) (fun t k => ?_) ?_
            · show Steps p.tables e below (T.setTop (mkF m 53 #[.val (.int x0), .val (.int x1), .val (.int (1 : Int32))] [])) t
              refine XS.iconst Y.here hx rfl (hb hby d2_53) ?_
              show Steps p.tables e below (T.setTop (mkF m 54 #[.val (.int x0), .val (.int x1), .val (.int (1 : Int32))] [(.int (1 : Int32))])) t
              exact k
            rw [← hF]; exact On.reti Y hx hret hlk (hb hby d2_54) (by decide) (by decide) ⟨by unfold own_exp; rw [if_neg hc3, if_neg hc14, if_neg hc20, if_pos hc26, if_pos hc50], rfl⟩
          · refine Rn.go (T' := T) (g' := (mkF m 55 #[.val (.int x0), .val (.int x1), .val (.int (1 : Int32))] [])) (fun t k => XS.icmpYes Y.here hx rfl (pc0 := 50) (pc' := 55) rfl (hb hby d2_50) rfl (feq hc50).2 (by decide) (by decide) k) ?_
            refine Rn.go (T' := T) (g' := (mkF m 57 #[.val (.int x0), .val (.int x1), .val (.int (1 : Int32))] [(.int (2 : Int32)), (.int x1)])) (fun t k => ?_) ?_
            · show Steps p.tables e below (T.setTop (mkF m 55 #[.val (.int x0), .val (.int x1), .val (.int (1 : Int32))] [])) t
              refine XS.iloadN Y.here hx rfl (hb hby d2_55) rfl ?_
              show Steps p.tables e below (T.setTop (mkF m 56 #[.val (.int x0), .val (.int x1), .val (.int (1 : Int32))] [(.int x1)])) t
              refine XS.iconst Y.here hx rfl (hb hby d2_56) ?_
              show Steps p.tables e below (T.setTop (mkF m 57 #[.val (.int x0), .val (.int x1), .val (.int (1 : Int32))] [(.int (2 : Int32)), (.int x1)])) t
              exact k
            by_cases hc57 : x1 = (2 : Int32)
            · refine Rn.go (T' := T) (g' := (mkF m 60 #[.val (.int x0), .val (.int x1), .val (.int (1 : Int32))] [])) (fun t k => XS.icmpNo Y.here hx rfl (hb hby d2_57) rfl (teq hc57).2 k) ?_
              refine Rn.go (T' := T) (g' := (mkF m 61 #[.val (.int x0), .val (.int x1), .val (.int (1 : Int32))] [(.int (2 : Int32))])) (fun t k => ?_) ?_
              · show Steps p.tables e below (T.setTop (mkF m 60 #[.val (.int x0), .val (.int x1), .val (.int (1 : Int32))] [])) t
                refine XS.iconst Y.here hx rfl (hb hby d2_60) ?_
                show Steps p.tables e below (T.setTop (mkF m 61 #[.val (.int x0), .val (.int x1), .val (.int (1 : Int32))] [(.int (2 : Int32))])) t
                exact k
              rw [← hF]; exact On.reti Y hx hret hlk (hb hby d2_61) (by decide) (by decide) ⟨by unfold own_exp; rw [if_neg hc3, if_neg hc14, if_neg hc20, if_pos hc26, if_neg hc50, if_pos hc57], rfl⟩
            · refine Rn.go (T' := T) (g' := (mkF m 62 #[.val (.int x0), .val (.int x1), .val (.int (1 : Int32))] [])) (fun t k => XS.icmpYes Y.here hx rfl (pc0 := 57) (pc' := 62) rfl (hb hby d2_57) rfl (feq hc57).2 (by decide) (by decide) k) ?_
              refine Rn.go (T' := T) (g' := (mkF m 63 #[.val (.int x0), .val (.int x1), .val (.int (1 : Int32))] [(.int x1)])) (fun t k => ?_) ?_
              · show Steps p.tables e below (T.setTop (mkF m 62 #[.val (.int x0), .val (.int x1), .val (.int (1 : Int32))] [])) t
                refine XS.iloadN Y.here hx rfl (hb hby d2_62) rfl ?_
                show Steps p.tables e below (T.setTop (mkF m 63 #[.val (.int x0), .val (.int x1), .val (.int (1 : Int32))] [(.int x1)])) t
                exact k
              by_cases hc63 : x1 = (0 : Int32)
              · refine Rn.go (T' := T) (g' := (mkF m 66 #[.val (.int x0), .val (.int x1), .val (.int (1 : Int32))] [])) (fun t k => XS.ifNo Y.here hx rfl (hb hby d2_63) rfl ((if0 _ _).trans (teq hc63).2) k) ?_
                refine Rn.go (T' := T) (g' := (mkF m 68 #[.val (.int x0), .val (.int x1), .val (.int (1 : Int32))] [(.int (2 : Int32)), (.int (1 : Int32))])) (fun t k => ?_) ?_
                · show Steps p.tables e below (T.setTop (mkF m 66 #[.val (.int x0), .val (.int x1), .val (.int (1 : Int32))] [])) t
                  refine XS.iloadN Y.here hx rfl (hb hby d2_66) rfl ?_
                  show Steps p.tables e below (T.setTop (mkF m 67 #[.val (.int x0), .val (.int x1), .val (.int (1 : Int32))] [(.int (1 : Int32))])) t
                  refine XS.iconst Y.here hx rfl (hb hby d2_67) ?_
                  show Steps p.tables e below (T.setTop (mkF m 68 #[.val (.int x0), .val (.int x1), .val (.int (1 : Int32))] [(.int (2 : Int32)), (.int (1 : Int32))])) t
                  exact k
                refine Rn.go (T' := T) (g' := (mkF m 73 #[.val (.int x0), .val (.int x1), .val (.int (1 : Int32))] [])) (fun t k => XS.icmpYes Y.here hx rfl (pc0 := 68) (pc' := 73) rfl (hb hby d2_68) rfl (feq (by decide)).2 (by decide) (by decide) k) ?_
                refine Rn.go (T' := T) (g' := (mkF m 74 #[.val (.int x0), .val (.int x1), .val (.int (1 : Int32))] [(.int (0 : Int32))])) (fun t k => ?_) ?_
                · show Steps p.tables e below (T.setTop (mkF m 73 #[.val (.int x0), .val (.int x1), .val (.int (1 : Int32))] [])) t
                  refine XS.iconst Y.here hx rfl (hb hby d2_73) ?_
                  show Steps p.tables e below (T.setTop (mkF m 74 #[.val (.int x0), .val (.int x1), .val (.int (1 : Int32))] [(.int (0 : Int32))])) t
                  exact k
                rw [← hF]; exact On.reti Y hx hret hlk (hb hby d2_74) (by decide) (by decide) ⟨by unfold own_exp; rw [if_neg hc3, if_neg hc14, if_neg hc20, if_pos hc26, if_neg hc50, if_neg hc57], rfl⟩
              · refine Rn.go (T' := T) (g' := (mkF m 73 #[.val (.int x0), .val (.int x1), .val (.int (1 : Int32))] [])) (fun t k => XS.ifYes Y.here hx rfl (pc0 := 63) (pc' := 73) rfl (hb hby d2_63) rfl ((if0 _ _).trans (feq hc63).2) (by decide) (by decide) k) ?_
                refine Rn.go (T' := T) (g' := (mkF m 74 #[.val (.int x0), .val (.int x1), .val (.int (1 : Int32))] [(.int (0 : Int32))])) (fun t k => ?_) ?_
                · show Steps p.tables e below (T.setTop (mkF m 73 #[.val (.int x0), .val (.int x1), .val (.int (1 : Int32))] [])) t
                  refine XS.iconst Y.here hx rfl (hb hby d2_73) ?_
                  show Steps p.tables e below (T.setTop (mkF m 74 #[.val (.int x0), .val (.int x1), .val (.int (1 : Int32))] [(.int (0 : Int32))])) t
                  exact k
                rw [← hF]; exact On.reti Y hx hret hlk (hb hby d2_74) (by decide) (by decide) ⟨by unfold own_exp; rw [if_neg hc3, if_neg hc14, if_neg hc20, if_pos hc26, if_neg hc50, if_neg hc57], rfl⟩
        · refine Rn.go (T' := T) (g' := (mkF m 29 #[.val (.int x0), .val (.int x1), .unset] [])) (fun t k => XS.icmpNo Y.here hx rfl (hb hby d2_26) rfl (feq hc26).1 k) ?_
          refine Rn.go (T' := T) (g' := (mkF m 32 #[.val (.int x0), .val (.int x1), .unset] [(.int (40 : Int32)), (.int x0)])) (fun t k => ?_) ?_
          · show Steps p.tables e below (T.setTop (mkF m 29 #[.val (.int x0), .val (.int x1), .unset] [])) t
            refine XS.iloadN Y.here hx rfl (hb hby d2_29) rfl ?_
            show Steps p.tables e below (T.setTop (mkF m 30 #[.val (.int x0), .val (.int x1), .unset] [(.int x0)])) t
            refine XS.bipush Y.here hx rfl (hb hby d2_30) ?_
            show Steps p.tables e below (T.setTop (mkF m 32 #[.val (.int x0), .val (.int x1), .unset] [(.int (40 : Int32)), (.int x0)])) t
            exact k
          by_cases hc32 : x0 = (40 : Int32)
          · refine Rn.go (T' := T) (g' := (mkF m 35 #[.val (.int x0), .val (.int x1), .unset] [])) (fun t k => XS.icmpNo Y.here hx rfl (hb hby d2_32) rfl (teq hc32).2 k) ?_
            refine Rn.go (T' := T) (g' := (mkF m 43 #[.val (.int x0), .val (.int x1), .val (.int (1 : Int32))] [(.int (1 : Int32))])) (fun t k => ?_) ?_
            · show Steps p.tables e below (T.setTop (mkF m 35 #[.val (.int x0), .val (.int x1), .unset] [])) t
              refine XS.iconst Y.here hx rfl (hb hby d2_35) ?_
              show Steps p.tables e below (T.setTop (mkF m 36 #[.val (.int x0), .val (.int x1), .unset] [(.int (1 : Int32))])) t
              refine XS.istoreN Y.here hx rfl (hb hby d2_36) rfl (l' := #[.val (.int x0), .val (.int x1), .val (.int (1 : Int32))]) rfl ?_
              show Steps p.tables e below (T.setTop (mkF m 37 #[.val (.int x0), .val (.int x1), .val (.int (1 : Int32))] [])) t
              refine XS.goto Y.here hx rfl (pc0 := 37) (pc' := 42) rfl (hb hby d2_37) (by decide) (by decide) ?_
              show Steps p.tables e below (T.setTop (mkF m 42 #[.val (.int x0), .val (.int x1), .val (.int (1 : Int32))] [])) t
              refine XS.iloadN Y.here hx rfl (hb hby d2_42) rfl ?_
              show Steps p.tables e below (T.setTop (mkF m 43 #[.val (.int x0), .val (.int x1), .val (.int (1 : Int32))] [(.int (1 : Int32))])) t
              exact k
            refine Rn.go (T' := T) (g' := (mkF m 48 #[.val (.int x0), .val (.int x1), .val (.int (1 : Int32))] [])) (fun t k => XS.ifYes Y.here hx rfl (pc0 := 43) (pc' := 48) rfl (hb hby d2_43) rfl ((if0 _ _).trans (feq (by decide)).2) (by decide) (by decide) k) ?_
            refine Rn.go (T' := T) (g' := (mkF m 50 #[.val (.int x0), .val (.int x1), .val (.int (1 : Int32))] [(.int (1 : Int32)), (.int x1)])) (fun t k => ?_) ?_
            · show Steps p.tables e below (T.setTop (mkF m 48 #[.val (.int x0), .val (.int x1), .val (.int (1 : Int32))] [])) t
              refine XS.iloadN Y.here hx rfl (hb hby d2_48) rfl ?_
              show Steps p.tables e below (T.setTop (mkF m 49 #[.val (.int x0), .val (.int x1), .val (.int (1 : Int32))] [(.int x1)])) t
              refine XS.iconst Y.here hx rfl (hb hby d2_49) ?_
              show Steps p.tables e below (T.setTop (mkF m 50 #[.val (.int x0), .val (.int x1), .val (.int (1 : Int32))] [(.int (1 : Int32)), (.int x1)])) t
              exact k
            by_cases hc50 : x1 = (1 : Int32)
            · refine Rn.go (T' := T) (g' := (mkF m 53 #[.val (.int x0), .val (.int x1), .val (.int (1 : Int32))] [])) (fun t k => XS.icmpNo Y.here hx rfl (hb hby d2_50) rfl (teq hc50).2 k) ?_
              refine Rn.go (T' := T) (g' := (mkF m 54 #[.val (.int x0), .val (.int x1), .val (.int (1 : Int32))] [(.int (1 : Int32))])) (fun t k => ?_) ?_
              · show Steps p.tables e below (T.setTop (mkF m 53 #[.val (.int x0), .val (.int x1), .val (.int (1 : Int32))] [])) t
                refine XS.iconst Y.here hx rfl (hb hby d2_53) ?_
                show Steps p.tables e below (T.setTop (mkF m 54 #[.val (.int x0), .val (.int x1), .val (.int (1 : Int32))] [(.int (1 : Int32))])) t
                exact k
              rw [← hF]; exact On.reti Y hx hret hlk (hb hby d2_54) (by decide) (by decide) ⟨by unfold own_exp; rw [if_neg hc3, if_neg hc14, if_neg hc20, if_neg hc26, if_pos hc32, if_pos hc50], rfl⟩
            · refine Rn.go (T' := T) (g' := (mkF m 55 #[.val (.int x0), .val (.int x1), .val (.int (1 : Int32))] [])) (fun t k => XS.icmpYes Y.here hx rfl (pc0 := 50) (pc' := 55) rfl (hb hby d2_50) rfl (feq hc50).2 (by decide) (by decide) k) ?_
              refine Rn.go (T' := T) (g' := (mkF m 57 #[.val (.int x0), .val (.int x1), .val (.int (1 : Int32))] [(.int (2 : Int32)), (.int x1)])) (fun t k => ?_) ?_
              · show Steps p.tables e below (T.setTop (mkF m 55 #[.val (.int x0), .val (.int x1), .val (.int (1 : Int32))] [])) t
                refine XS.iloadN Y.here hx rfl (hb hby d2_55) rfl ?_
                show Steps p.tables e below (T.setTop (mkF m 56 #[.val (.int x0), .val (.int x1), .val (.int (1 : Int32))] [(.int x1)])) t
                refine XS.iconst Y.here hx rfl (hb hby d2_56) ?_
                show Steps p.tables e below (T.setTop (mkF m 57 #[.val (.int x0), .val (.int x1), .val (.int (1 : Int32))] [(.int (2 : Int32)), (.int x1)])) t
                exact k
              by_cases hc57 : x1 = (2 : Int32)
              · refine Rn.go (T' := T) (g' := (mkF m 60 #[.val (.int x0), .val (.int x1), .val (.int (1 : Int32))] [])) (fun t k => XS.icmpNo Y.here hx rfl (hb hby d2_57) rfl (teq hc57).2 k) ?_
                refine Rn.go (T' := T) (g' := (mkF m 61 #[.val (.int x0), .val (.int x1), .val (.int (1 : Int32))] [(.int (2 : Int32))])) (fun t k => ?_) ?_
                · show Steps p.tables e below (T.setTop (mkF m 60 #[.val (.int x0), .val (.int x1), .val (.int (1 : Int32))] [])) t
                  refine XS.iconst Y.here hx rfl (hb hby d2_60) ?_
                  show Steps p.tables e below (T.setTop (mkF m 61 #[.val (.int x0), .val (.int x1), .val (.int (1 : Int32))] [(.int (2 : Int32))])) t
                  exact k
                rw [← hF]; exact On.reti Y hx hret hlk (hb hby d2_61) (by decide) (by decide) ⟨by unfold own_exp; rw [if_neg hc3, if_neg hc14, if_neg hc20, if_neg hc26, if_pos hc32, if_neg hc50, if_pos hc57], rfl⟩
              · refine Rn.go (T' := T) (g' := (mkF m 62 #[.val (.int x0), .val (.int x1), .val (.int (1 : Int32))] [])) (fun t k => XS.icmpYes Y.here hx rfl (pc0 := 57) (pc' := 62) rfl (hb hby d2_57) rfl (feq hc57).2 (by decide) (by decide) k) ?_
                refine Rn.go (T' := T) (g' := (mkF m 63 #[.val (.int x0), .val (.int x1), .val (.int (1 : Int32))] [(.int x1)])) (fun t k => ?_) ?_
                · show Steps p.tables e below (T.setTop (mkF m 62 #[.val (.int x0), .val (.int x1), .val (.int (1 : Int32))] [])) t
                  refine XS.iloadN Y.here hx rfl (hb hby d2_62) rfl ?_
                  show Steps p.tables e below (T.setTop (mkF m 63 #[.val (.int x0), .val (.int x1), .val (.int (1 : Int32))] [(.int x1)])) t
                  exact k
                by_cases hc63 : x1 = (0 : Int32)
                · refine Rn.go (T' := T) (g' := (mkF m 66 #[.val (.int x0), .val (.int x1), .val (.int (1 : Int32))] [])) (fun t k => XS.ifNo Y.here hx rfl (hb hby d2_63) rfl ((if0 _ _).trans (teq hc63).2) k) ?_
                  refine Rn.go (T' := T) (g' := (mkF m 68 #[.val (.int x0), .val (.int x1), .val (.int (1 : Int32))] [(.int (2 : Int32)), (.int (1 : Int32))])) (fun t k => ?_) ?_
                  · show Steps p.tables e below (T.setTop (mkF m 66 #[.val (.int x0), .val (.int x1), .val (.int (1 : Int32))] [])) t
                    refine XS.iloadN Y.here hx rfl (hb hby d2_66) rfl ?_
                    show Steps p.tables e below (T.setTop (mkF m 67 #[.val (.int x0), .val (.int x1), .val (.int (1 : Int32))] [(.int (1 : Int32))])) t
                    refine XS.iconst Y.here hx rfl (hb hby d2_67) ?_
                    show Steps p.tables e below (T.setTop (mkF m 68 #[.val (.int x0), .val (.int x1), .val (.int (1 : Int32))] [(.int (2 : Int32)), (.int (1 : Int32))])) t
                    exact k
                  refine Rn.go (T' := T) (g' := (mkF m 73 #[.val (.int x0), .val (.int x1), .val (.int (1 : Int32))] [])) (fun t k => XS.icmpYes Y.here hx rfl (pc0 := 68) (pc' := 73) rfl (hb hby d2_68) rfl (feq (by decide)).2 (by decide) (by decide) k) ?_
                  refine Rn.go (T' := T) (g' := (mkF m 74 #[.val (.int x0), .val (.int x1), .val (.int (1 : Int32))] [(.int (0 : Int32))])) (fun t k => ?_) ?_
                  · show Steps p.tables e below (T.setTop (mkF m 73 #[.val (.int x0), .val (.int x1), .val (.int (1 : Int32))] [])) t
                    refine XS.iconst Y.here hx rfl (hb hby d2_73) ?_
                    show Steps p.tables e below (T.setTop (mkF m 74 #[.val (.int x0), .val (.int x1), .val (.int (1 : Int32))] [(.int (0 : Int32))])) t
                    exact k
                  rw [← hF]; exact On.reti Y hx hret hlk (hb hby d2_74) (by decide) (by decide) ⟨by unfold own_exp; rw [if_neg hc3, if_neg hc14, if_neg hc20, if_neg hc26, if_pos hc32, if_neg hc50, if_neg hc57], rfl⟩
                · refine Rn.go (T' := T) (g' := (mkF m 73 #[.val (.int x0), .val (.int x1), .val (.int (1 : Int32))] [])) (fun t k => XS.ifYes Y.here hx rfl (pc0 := 63) (pc' := 73) rfl (hb hby d2_63) rfl ((if0 _ _).trans (feq hc63).2) (by decide) (by decide) k) ?_
                  refine Rn.go (T' := T) (g' := (mkF m 74 #[.val (.int x0), .val (.int x1), .val (.int (1 : Int32))] [(.int (0 : Int32))])) (fun t k => ?_) ?_
                  · show Steps p.tables e below (T.setTop (mkF m 73 #[.val (.int x0), .val (.int x1), .val (.int (1 : Int32))] [])) t
                    refine XS.iconst Y.here hx rfl (hb hby d2_73) ?_
                    show Steps p.tables e below (T.setTop (mkF m 74 #[.val (.int x0), .val (.int x1), .val (.int (1 : Int32))] [(.int (0 : Int32))])) t
                    exact k
                  rw [← hF]; exact On.reti Y hx hret hlk (hb hby d2_74) (by decide) (by decide) ⟨by unfold own_exp; rw [if_neg hc3, if_neg hc14, if_neg hc20, if_neg hc26, if_pos hc32, if_neg hc50, if_neg hc57], rfl⟩
          · refine Rn.go (T' := T) (g' := (mkF m 40 #[.val (.int x0), .val (.int x1), .unset] [])) (fun t k => XS.icmpYes Y.here hx rfl (pc0 := 32) (pc' := 40) rfl (hb hby d2_32) rfl (feq hc32).2 (by decide) (by decide) k) ?_
            refine Rn.go (T' := T) (g' := (mkF m 43 #[.val (.int x0), .val (.int x1), .val (.int (0 : Int32))] [(.int (0 : Int32))])) (fun t k => ?_) ?_
            · show Steps p.tables e below (T.setTop (mkF m 40 #[.val (.int x0), .val (.int x1), .unset] [])) t
              refine XS.iconst Y.here hx rfl (hb hby d2_40) ?_
              show Steps p.tables e below (T.setTop (mkF m 41 #[.val (.int x0), .val (.int x1), .unset] [(.int (0 : Int32))])) t
              refine XS.istoreN Y.here hx rfl (hb hby d2_41) rfl (l' := #[.val (.int x0), .val (.int x1), .val (.int (0 : Int32))]) rfl ?_
              show Steps p.tables e below (T.setTop (mkF m 42 #[.val (.int x0), .val (.int x1), .val (.int (0 : Int32))] [])) t
              refine XS.iloadN Y.here hx rfl (hb hby d2_42) rfl ?_
              show Steps p.tables e below (T.setTop (mkF m 43 #[.val (.int x0), .val (.int x1), .val (.int (0 : Int32))] [(.int (0 : Int32))])) t
              exact k
            refine Rn.go (T' := T) (g' := (mkF m 46 #[.val (.int x0), .val (.int x1), .val (.int (0 : Int32))] [])) (fun t k => XS.ifNo Y.here hx rfl (hb hby d2_43) rfl ((if0 _ _).trans (teq (by decide)).2) k) ?_
            refine Rn.go (T' := T) (g' := (mkF m 47 #[.val (.int x0), .val (.int x1), .val (.int (0 : Int32))] [(.int (0 : Int32))])) (fun t k => ?_) ?_
            · show Steps p.tables e below (T.setTop (mkF m 46 #[.val (.int x0), .val (.int x1), .val (.int (0 : Int32))] [])) t
              refine XS.iconst Y.here hx rfl (hb hby d2_46) ?_
              show Steps p.tables e below (T.setTop (mkF m 47 #[.val (.int x0), .val (.int x1), .val (.int (0 : Int32))] [(.int (0 : Int32))])) t
              exact k
            rw [← hF]; exact On.reti Y hx hret hlk (hb hby d2_47) (by decide) (by decide) ⟨by unfold own_exp; rw [if_neg hc3, if_neg hc14, if_neg hc20, if_neg hc26, if_neg hc32], rfl⟩
theorem own_same (i q : Int32) : own_chv i q = own_exp i q := by
  unfold own_chv own_exp
  by_cases h1 : i = 32
  · subst h1; by_cases h2 : q = 1 <;> by_cases h3 : q = 2 <;> by_cases h4 : q = 0 <;> simp_all
  by_cases h2 : i = 36
  · subst h2; by_cases h2 : q = 1 <;> by_cases h3 : q = 2 <;> by_cases h4 : q = 0 <;> simp_all
  by_cases h3 : i = 38
  · subst h3; by_cases h2 : q = 1 <;> by_cases h3 : q = 2 <;> by_cases h4 : q = 0 <;> simp_all
  by_cases h4 : i = 40
  · subst h4; by_cases h2 : q = 1 <;> by_cases h3 : q = 2 <;> by_cases h4 : q = 0 <;> simp_all
  by_cases h5 : i = 44
  · subst h5; by_cases h2 : q = 1 <;> by_cases h3 : q = 2 <;> by_cases h4 : q = 0 <;> simp_all
  simp [h1, h2, h3, h4, h5]
theorem own_k (x : Int32) : ¬ (x &&& 7) < 0 := by
  have h := Jvm.Kit.i32_mask x 7 (k := 3) (by decide) (by decide)
  rw [Int32.lt_iff_toInt_lt, h]
  have : (0 : Int32).toInt = 0 := rfl
  omega
theorem own_at (x : Int32) (xs : List Int32) (hx : xs.length = 5) (h5 : (x &&& 7) < 5) : xs[(x &&& 7).toNatClampNeg]? = some (xs.getD (x &&& 7).toNatClampNeg 0) := by
  have hl : (x &&& 7).toNatClampNeg < xs.length := by
    rw [Int32.lt_iff_toInt_lt] at h5
    have : (5 : Int32).toInt = 5 := rfl
    rw [hx]; rw [own_nat]; omega
  rw [List.getD_eq_getElem?_getD, List.getElem?_eq_getElem hl]; rfl
theorem ef_rm0 (m : MethodId) (p0 : Int32) (p1 : Int32) (p2 : Int32) : entryFrame m #[(.int p0), (.int p1), (.int p2)] maxLocals = (mkF m 0 #[.val (.int p0), .val (.int p1), .val (.int p2), .unset, .unset, .unset, .unset, .unset, .unset] []) := by first | (simp [entryFrame, mkF, argsToLocals, Value.category, maxLocals]; done) | rfl
set_option maxRecDepth 65536 in
set_option maxHeartbeats 40000000 in
theorem rm0 (l : Launch) (Z : State) (a0 : Array Value) (hw : ∀ d ∈ tables_1, d.before a0 Z = true) (n0 : Nat) (p0 : Int32) (p1 : Int32) (p2 : Int32) :
    Con l Z n0 x code maxLocals ret room_1 #[(.int p0), (.int p1), (.int p2)] [] (fun v _ => v = some (.int 1)) := by
  refine Con.of (plainFor_of_name pn1) ?_
  intro p e s m below meth c T cx Y
  obtain ⟨hx, hby, hml, hown, hnm, hret, hlk, hZ⟩ := cx
  rw [ef_rm0]
  generalize hF : Fi Z n0 below s _ _ _ = F
  refine Rn.go (T' := T) (g' := (mkF m 1 #[.val (.int p0), .val (.int p1), .val (.int p2), .unset, .unset, .unset, .unset, .unset, .unset] [(.int (5 : Int32))])) (fun t k => ?_) ?_
  · show Steps p.tables e below (T.setTop (mkF m 0 #[.val (.int p0), .val (.int p1), .val (.int p2), .unset, .unset, .unset, .unset, .unset, .unset] [])) t
    refine XS.iconst Y.here hx rfl (hb hby at_0) ?_
    show Steps p.tables e below (T.setTop (mkF m 1 #[.val (.int p0), .val (.int p1), .val (.int p2), .unset, .unset, .unset, .unset, .unset, .unset] [(.int (5 : Int32))])) t
    exact k
  refine On.newp Y hx hZ (aty := .int) (w0 hw) (g := (mkF m 1 #[.val (.int p0), .val (.int p1), .val (.int p2), .unset, .unset, .unset, .unset, .unset, .unset] [(.int (5 : Int32))])) rfl (hb hby at_1) rfl (by decide) (N := 5) (cap := 5) rfl (by decide) (by decide) (by decide) (by decide) (dv := (.int (0 : Int32))) rfl fun T1 a3 Y2 => ?_
  replace Y2 : On p l e _ s m _ below meth c Z n0 T1 1 5 [ari a3 .int (5 : Int32) [(0 : Int32), (0 : Int32), (0 : Int32), (0 : Int32), (0 : Int32)]] := Y2
  show Rn p e below F T1 (mkF m 3 #[.val (.int p0), .val (.int p1), .val (.int p2), .unset, .unset, .unset, .unset, .unset, .unset] [(.ref a3)])
  refine Rn.go (T' := T1) (g' := (mkF m 7 #[.val (.int p0), .val (.int p1), .val (.int p2), .unset, .unset, .unset, .unset, .unset, .unset] [(.int (32 : Int32)), (.int (0 : Int32)), (.ref a3), (.ref a3)])) (fun t k => ?_) ?_
  · show Steps p.tables e below (T1.setTop (mkF m 3 #[.val (.int p0), .val (.int p1), .val (.int p2), .unset, .unset, .unset, .unset, .unset, .unset] [(.ref a3)])) t
    refine XS.dup Y2.here hx rfl (hb hby at_3) rfl rfl ?_
    show Steps p.tables e below (T1.setTop (mkF m 4 #[.val (.int p0), .val (.int p1), .val (.int p2), .unset, .unset, .unset, .unset, .unset, .unset] [(.ref a3), (.ref a3)])) t
    refine XS.iconst Y2.here hx rfl (hb hby at_4) ?_
    show Steps p.tables e below (T1.setTop (mkF m 5 #[.val (.int p0), .val (.int p1), .val (.int p2), .unset, .unset, .unset, .unset, .unset, .unset] [(.int (0 : Int32)), (.ref a3), (.ref a3)])) t
    refine XS.bipush Y2.here hx rfl (hb hby at_5) ?_
    show Steps p.tables e below (T1.setTop (mkF m 7 #[.val (.int p0), .val (.int p1), .val (.int p2), .unset, .unset, .unset, .unset, .unset, .unset] [(.int (32 : Int32)), (.int (0 : Int32)), (.ref a3), (.ref a3)])) t
    exact k
  refine On.isto Y2 hx hZ (i := 0) rfl (by decide) (by show 0 < 5; decide) (g := (mkF m 7 #[.val (.int p0), .val (.int p1), .val (.int p2), .unset, .unset, .unset, .unset, .unset, .unset] [(.int (32 : Int32)), (.int (0 : Int32)), (.ref a3), (.ref a3)])) rfl rfl (hb hby at_7) fun T4 Y5 => ?_
  replace Y5 : On p l e _ s m _ below meth c Z n0 T4 1 5 [ari a3 .int (5 : Int32) [(32 : Int32), (0 : Int32), (0 : Int32), (0 : Int32), (0 : Int32)]] := Y5
  show Rn p e below F T4 (mkF m 8 #[.val (.int p0), .val (.int p1), .val (.int p2), .unset, .unset, .unset, .unset, .unset, .unset] [(.ref a3)])
  refine Rn.go (T' := T4) (g' := (mkF m 12 #[.val (.int p0), .val (.int p1), .val (.int p2), .unset, .unset, .unset, .unset, .unset, .unset] [(.int (36 : Int32)), (.int (1 : Int32)), (.ref a3), (.ref a3)])) (fun t k => ?_) ?_
  · show Steps p.tables e below (T4.setTop (mkF m 8 #[.val (.int p0), .val (.int p1), .val (.int p2), .unset, .unset, .unset, .unset, .unset, .unset] [(.ref a3)])) t
    refine XS.dup Y5.here hx rfl (hb hby at_8) rfl rfl ?_
    show Steps p.tables e below (T4.setTop (mkF m 9 #[.val (.int p0), .val (.int p1), .val (.int p2), .unset, .unset, .unset, .unset, .unset, .unset] [(.ref a3), (.ref a3)])) t
    refine XS.iconst Y5.here hx rfl (hb hby at_9) ?_
    show Steps p.tables e below (T4.setTop (mkF m 10 #[.val (.int p0), .val (.int p1), .val (.int p2), .unset, .unset, .unset, .unset, .unset, .unset] [(.int (1 : Int32)), (.ref a3), (.ref a3)])) t
    refine XS.bipush Y5.here hx rfl (hb hby at_10) ?_
    show Steps p.tables e below (T4.setTop (mkF m 12 #[.val (.int p0), .val (.int p1), .val (.int p2), .unset, .unset, .unset, .unset, .unset, .unset] [(.int (36 : Int32)), (.int (1 : Int32)), (.ref a3), (.ref a3)])) t
    exact k
  refine On.isto Y5 hx hZ (i := 0) rfl (by decide) (by show 1 < 5; decide) (g := (mkF m 12 #[.val (.int p0), .val (.int p1), .val (.int p2), .unset, .unset, .unset, .unset, .unset, .unset] [(.int (36 : Int32)), (.int (1 : Int32)), (.ref a3), (.ref a3)])) rfl rfl (hb hby at_12) fun T6 Y7 => ?_
  replace Y7 : On p l e _ s m _ below meth c Z n0 T6 1 5 [ari a3 .int (5 : Int32) [(32 : Int32), (36 : Int32), (0 : Int32), (0 : Int32), (0 : Int32)]] := Y7
  show Rn p e below F T6 (mkF m 13 #[.val (.int p0), .val (.int p1), .val (.int p2), .unset, .unset, .unset, .unset, .unset, .unset] [(.ref a3)])
  refine Rn.go (T' := T6) (g' := (mkF m 17 #[.val (.int p0), .val (.int p1), .val (.int p2), .unset, .unset, .unset, .unset, .unset, .unset] [(.int (38 : Int32)), (.int (2 : Int32)), (.ref a3), (.ref a3)])) (fun t k => ?_) ?_
  · show Steps p.tables e below (T6.setTop (mkF m 13 #[.val (.int p0), .val (.int p1), .val (.int p2), .unset, .unset, .unset, .unset, .unset, .unset] [(.ref a3)])) t
    refine XS.dup Y7.here hx rfl (hb hby at_13) rfl rfl ?_
    show Steps p.tables e below (T6.setTop (mkF m 14 #[.val (.int p0), .val (.int p1), .val (.int p2), .unset, .unset, .unset, .unset, .unset, .unset] [(.ref a3), (.ref a3)])) t
    refine XS.iconst Y7.here hx rfl (hb hby at_14) ?_
    show Steps p.tables e below (T6.setTop (mkF m 15 #[.val (.int p0), .val (.int p1), .val (.int p2), .unset, .unset, .unset, .unset, .unset, .unset] [(.int (2 : Int32)), (.ref a3), (.ref a3)])) t
    refine XS.bipush Y7.here hx rfl (hb hby at_15) ?_
    show Steps p.tables e below (T6.setTop (mkF m 17 #[.val (.int p0), .val (.int p1), .val (.int p2), .unset, .unset, .unset, .unset, .unset, .unset] [(.int (38 : Int32)), (.int (2 : Int32)), (.ref a3), (.ref a3)])) t
    exact k
  refine On.isto Y7 hx hZ (i := 0) rfl (by decide) (by show 2 < 5; decide) (g := (mkF m 17 #[.val (.int p0), .val (.int p1), .val (.int p2), .unset, .unset, .unset, .unset, .unset, .unset] [(.int (38 : Int32)), (.int (2 : Int32)), (.ref a3), (.ref a3)])) rfl rfl (hb hby at_17) fun T8 Y9 => ?_
  replace Y9 : On p l e _ s m _ below meth c Z n0 T8 1 5 [ari a3 .int (5 : Int32) [(32 : Int32), (36 : Int32), (38 : Int32), (0 : Int32), (0 : Int32)]] := Y9
  show Rn p e below F T8 (mkF m 18 #[.val (.int p0), .val (.int p1), .val (.int p2), .unset, .unset, .unset, .unset, .unset, .unset] [(.ref a3)])
  refine Rn.go (T' := T8) (g' := (mkF m 22 #[.val (.int p0), .val (.int p1), .val (.int p2), .unset, .unset, .unset, .unset, .unset, .unset] [(.int (40 : Int32)), (.int (3 : Int32)), (.ref a3), (.ref a3)])) (fun t k => ?_) ?_
  · show Steps p.tables e below (T8.setTop (mkF m 18 #[.val (.int p0), .val (.int p1), .val (.int p2), .unset, .unset, .unset, .unset, .unset, .unset] [(.ref a3)])) t
    refine XS.dup Y9.here hx rfl (hb hby at_18) rfl rfl ?_
    show Steps p.tables e below (T8.setTop (mkF m 19 #[.val (.int p0), .val (.int p1), .val (.int p2), .unset, .unset, .unset, .unset, .unset, .unset] [(.ref a3), (.ref a3)])) t
    refine XS.iconst Y9.here hx rfl (hb hby at_19) ?_
    show Steps p.tables e below (T8.setTop (mkF m 20 #[.val (.int p0), .val (.int p1), .val (.int p2), .unset, .unset, .unset, .unset, .unset, .unset] [(.int (3 : Int32)), (.ref a3), (.ref a3)])) t
    refine XS.bipush Y9.here hx rfl (hb hby at_20) ?_
    show Steps p.tables e below (T8.setTop (mkF m 22 #[.val (.int p0), .val (.int p1), .val (.int p2), .unset, .unset, .unset, .unset, .unset, .unset] [(.int (40 : Int32)), (.int (3 : Int32)), (.ref a3), (.ref a3)])) t
    exact k
  refine On.isto Y9 hx hZ (i := 0) rfl (by decide) (by show 3 < 5; decide) (g := (mkF m 22 #[.val (.int p0), .val (.int p1), .val (.int p2), .unset, .unset, .unset, .unset, .unset, .unset] [(.int (40 : Int32)), (.int (3 : Int32)), (.ref a3), (.ref a3)])) rfl rfl (hb hby at_22) fun T10 Y11 => ?_
  replace Y11 : On p l e _ s m _ below meth c Z n0 T10 1 5 [ari a3 .int (5 : Int32) [(32 : Int32), (36 : Int32), (38 : Int32), (40 : Int32), (0 : Int32)]] := Y11
  show Rn p e below F T10 (mkF m 23 #[.val (.int p0), .val (.int p1), .val (.int p2), .unset, .unset, .unset, .unset, .unset, .unset] [(.ref a3)])
  refine Rn.go (T' := T10) (g' := (mkF m 27 #[.val (.int p0), .val (.int p1), .val (.int p2), .unset, .unset, .unset, .unset, .unset, .unset] [(.int (44 : Int32)), (.int (4 : Int32)), (.ref a3), (.ref a3)])) (fun t k => ?_) ?_
  · show Steps p.tables e below (T10.setTop (mkF m 23 #[.val (.int p0), .val (.int p1), .val (.int p2), .unset, .unset, .unset, .unset, .unset, .unset] [(.ref a3)])) t
    refine XS.dup Y11.here hx rfl (hb hby at_23) rfl rfl ?_
    show Steps p.tables e below (T10.setTop (mkF m 24 #[.val (.int p0), .val (.int p1), .val (.int p2), .unset, .unset, .unset, .unset, .unset, .unset] [(.ref a3), (.ref a3)])) t
    refine XS.iconst Y11.here hx rfl (hb hby at_24) ?_
    show Steps p.tables e below (T10.setTop (mkF m 25 #[.val (.int p0), .val (.int p1), .val (.int p2), .unset, .unset, .unset, .unset, .unset, .unset] [(.int (4 : Int32)), (.ref a3), (.ref a3)])) t
    refine XS.bipush Y11.here hx rfl (hb hby at_25) ?_
    show Steps p.tables e below (T10.setTop (mkF m 27 #[.val (.int p0), .val (.int p1), .val (.int p2), .unset, .unset, .unset, .unset, .unset, .unset] [(.int (44 : Int32)), (.int (4 : Int32)), (.ref a3), (.ref a3)])) t
    exact k
  refine On.isto Y11 hx hZ (i := 0) rfl (by decide) (by show 4 < 5; decide) (g := (mkF m 27 #[.val (.int p0), .val (.int p1), .val (.int p2), .unset, .unset, .unset, .unset, .unset, .unset] [(.int (44 : Int32)), (.int (4 : Int32)), (.ref a3), (.ref a3)])) rfl rfl (hb hby at_27) fun T12 Y13 => ?_
  replace Y13 : On p l e _ s m _ below meth c Z n0 T12 1 5 [ari a3 .int (5 : Int32) [(32 : Int32), (36 : Int32), (38 : Int32), (40 : Int32), (44 : Int32)]] := Y13
  show Rn p e below F T12 (mkF m 28 #[.val (.int p0), .val (.int p1), .val (.int p2), .unset, .unset, .unset, .unset, .unset, .unset] [(.ref a3)])
  refine Rn.go (T' := T12) (g' := (mkF m 38 #[.val (.int p0), .val (.int p1), .val (.int p2), .val (.ref a3), .val (.int (p0 &&& (7 : Int32))), .unset, .unset, .unset, .unset] [(.int (5 : Int32)), (.int (p0 &&& (7 : Int32)))])) (fun t k => ?_) ?_
  · show Steps p.tables e below (T12.setTop (mkF m 28 #[.val (.int p0), .val (.int p1), .val (.int p2), .unset, .unset, .unset, .unset, .unset, .unset] [(.ref a3)])) t
    refine XS.astoreN Y13.here hx rfl (hb hby at_28) rfl rfl (l' := #[.val (.int p0), .val (.int p1), .val (.int p2), .val (.ref a3), .unset, .unset, .unset, .unset, .unset]) rfl ?_
    show Steps p.tables e below (T12.setTop (mkF m 29 #[.val (.int p0), .val (.int p1), .val (.int p2), .val (.ref a3), .unset, .unset, .unset, .unset, .unset] [])) t
    refine XS.iloadN Y13.here hx rfl (hb hby at_29) rfl ?_
    show Steps p.tables e below (T12.setTop (mkF m 30 #[.val (.int p0), .val (.int p1), .val (.int p2), .val (.ref a3), .unset, .unset, .unset, .unset, .unset] [(.int p0)])) t
    refine XS.bipush Y13.here hx rfl (hb hby at_30) ?_
    show Steps p.tables e below (T12.setTop (mkF m 32 #[.val (.int p0), .val (.int p1), .val (.int p2), .val (.ref a3), .unset, .unset, .unset, .unset, .unset] [(.int (7 : Int32)), (.int p0)])) t
    refine XS.iand Y13.here hx rfl (hb hby at_32) rfl ?_
    show Steps p.tables e below (T12.setTop (mkF m 33 #[.val (.int p0), .val (.int p1), .val (.int p2), .val (.ref a3), .unset, .unset, .unset, .unset, .unset] [(.int (p0 &&& (7 : Int32)))])) t
    refine XS.istore Y13.here hx rfl (hb hby at_33) rfl (l' := #[.val (.int p0), .val (.int p1), .val (.int p2), .val (.ref a3), .val (.int (p0 &&& (7 : Int32))), .unset, .unset, .unset, .unset]) rfl ?_
    show Steps p.tables e below (T12.setTop (mkF m 35 #[.val (.int p0), .val (.int p1), .val (.int p2), .val (.ref a3), .val (.int (p0 &&& (7 : Int32))), .unset, .unset, .unset, .unset] [])) t
    refine XS.iload Y13.here hx rfl (hb hby at_35) rfl ?_
    show Steps p.tables e below (T12.setTop (mkF m 37 #[.val (.int p0), .val (.int p1), .val (.int p2), .val (.ref a3), .val (.int (p0 &&& (7 : Int32))), .unset, .unset, .unset, .unset] [(.int (p0 &&& (7 : Int32)))])) t
    refine XS.iconst Y13.here hx rfl (hb hby at_37) ?_
    show Steps p.tables e below (T12.setTop (mkF m 38 #[.val (.int p0), .val (.int p1), .val (.int p2), .val (.ref a3), .val (.int (p0 &&& (7 : Int32))), .unset, .unset, .unset, .unset] [(.int (5 : Int32)), (.int (p0 &&& (7 : Int32)))])) t
    exact k
  by_cases hc38 : (p0 &&& (7 : Int32)) < (5 : Int32)
  · refine Rn.go (T' := T12) (g' := (mkF m 41 #[.val (.int p0), .val (.int p1), .val (.int p2), .val (.ref a3), .val (.int (p0 &&& (7 : Int32))), .unset, .unset, .unset, .unset] [])) (fun t k => XS.icmpNo Y13.here hx rfl (hb hby at_38) rfl (tlt hc38).2.1 k) ?_
    refine Rn.go (T' := T12) (g' := (mkF m 44 #[.val (.int p0), .val (.int p1), .val (.int p2), .val (.ref a3), .val (.int (p0 &&& (7 : Int32))), .unset, .unset, .unset, .unset] [(.int (p0 &&& (7 : Int32))), (.ref a3)])) (fun t k => ?_) ?_
    · show Steps p.tables e below (T12.setTop (mkF m 41 #[.val (.int p0), .val (.int p1), .val (.int p2), .val (.ref a3), .val (.int (p0 &&& (7 : Int32))), .unset, .unset, .unset, .unset] [])) t
      refine XS.aloadN Y13.here hx rfl (hb hby at_41) rfl rfl ?_
      show Steps p.tables e below (T12.setTop (mkF m 42 #[.val (.int p0), .val (.int p1), .val (.int p2), .val (.ref a3), .val (.int (p0 &&& (7 : Int32))), .unset, .unset, .unset, .unset] [(.ref a3)])) t
      refine XS.iload Y13.here hx rfl (hb hby at_42) rfl ?_
      show Steps p.tables e below (T12.setTop (mkF m 44 #[.val (.int p0), .val (.int p1), .val (.int p2), .val (.ref a3), .val (.int (p0 &&& (7 : Int32))), .unset, .unset, .unset, .unset] [(.int (p0 &&& (7 : Int32))), (.ref a3)])) t
      exact k
    refine On.ild Y13 hx hZ (i := 0) rfl (k := (p0 &&& (7 : Int32))) (x := (List.getD [(32 : Int32), (36 : Int32), (38 : Int32), (40 : Int32), (44 : Int32)] (p0 &&& (7 : Int32)).toNatClampNeg 0)) (own_k _) (own_at _ _ rfl hc38) (g := (mkF m 44 #[.val (.int p0), .val (.int p1), .val (.int p2), .val (.ref a3), .val (.int (p0 &&& (7 : Int32))), .unset, .unset, .unset, .unset] [(.int (p0 &&& (7 : Int32))), (.ref a3)])) rfl rfl (hb hby at_44) ?_
    show Rn p e below F T12 (mkF m 45 #[.val (.int p0), .val (.int p1), .val (.int p2), .val (.ref a3), .val (.int (p0 &&& (7 : Int32))), .unset, .unset, .unset, .unset] [(.int (List.getD [(32 : Int32), (36 : Int32), (38 : Int32), (40 : Int32), (44 : Int32)] (p0 &&& (7 : Int32)).toNatClampNeg 0))])
    refine Rn.go (T' := T12) (g' := (mkF m 49 #[.val (.int p0), .val (.int p1), .val (.int p2), .val (.ref a3), .val (.int (p0 &&& (7 : Int32))), .unset, .unset, .unset, .unset] [(.int (List.getD [(32 : Int32), (36 : Int32), (38 : Int32), (40 : Int32), (44 : Int32)] (p0 &&& (7 : Int32)).toNatClampNeg 0))])) (fun t k => ?_) ?_
    · show Steps p.tables e below (T12.setTop (mkF m 45 #[.val (.int p0), .val (.int p1), .val (.int p2), .val (.ref a3), .val (.int (p0 &&& (7 : Int32))), .unset, .unset, .unset, .unset] [(.int (List.getD [(32 : Int32), (36 : Int32), (38 : Int32), (40 : Int32), (44 : Int32)] (p0 &&& (7 : Int32)).toNatClampNeg 0))])) t
      refine XS.goto Y13.here hx rfl (pc0 := 45) (pc' := 49) rfl (hb hby at_45) (by decide) (by decide) ?_
      show Steps p.tables e below (T12.setTop (mkF m 49 #[.val (.int p0), .val (.int p1), .val (.int p2), .val (.ref a3), .val (.int (p0 &&& (7 : Int32))), .unset, .unset, .unset, .unset] [(.int (List.getD [(32 : Int32), (36 : Int32), (38 : Int32), (40 : Int32), (44 : Int32)] (p0 &&& (7 : Int32)).toNatClampNeg 0))])) t
      exact k
    generalize (List.getD [(32 : Int32), (36 : Int32), (38 : Int32), (40 : Int32), (44 : Int32)] (p0 &&& (7 : Int32)).toNatClampNeg 0) = ins
    refine Rn.go (T' := T12) (g' := (mkF m 61 #[.val (.int p0), .val (.int p1), .val (.int p2), .val (.ref a3), .val (.int (p0 &&& (7 : Int32))), .val (.int ins), .val (.int (((p0.toUInt32 >>> ((3 : Int32) &&& 31).toUInt32).toInt32) &&& (3 : Int32))), .unset, .unset] [(.int (3 : Int32)), (.int (((p0.toUInt32 >>> ((3 : Int32) &&& 31).toUInt32).toInt32) &&& (3 : Int32)))])) (fun t k => ?_) ?_
    · show Steps p.tables e below (T12.setTop (mkF m 49 #[.val (.int p0), .val (.int p1), .val (.int p2), .val (.ref a3), .val (.int (p0 &&& (7 : Int32))), .unset, .unset, .unset, .unset] [(.int ins)])) t
      refine XS.istore Y13.here hx rfl (hb hby at_49) rfl (l' := #[.val (.int p0), .val (.int p1), .val (.int p2), .val (.ref a3), .val (.int (p0 &&& (7 : Int32))), .val (.int ins), .unset, .unset, .unset]) rfl ?_
      show Steps p.tables e below (T12.setTop (mkF m 51 #[.val (.int p0), .val (.int p1), .val (.int p2), .val (.ref a3), .val (.int (p0 &&& (7 : Int32))), .val (.int ins), .unset, .unset, .unset] [])) t
      refine XS.iloadN Y13.here hx rfl (hb hby at_51) rfl ?_
      show Steps p.tables e below (T12.setTop (mkF m 52 #[.val (.int p0), .val (.int p1), .val (.int p2), .val (.ref a3), .val (.int (p0 &&& (7 : Int32))), .val (.int ins), .unset, .unset, .unset] [(.int p0)])) t
      refine XS.iconst Y13.here hx rfl (hb hby at_52) ?_
      show Steps p.tables e below (T12.setTop (mkF m 53 #[.val (.int p0), .val (.int p1), .val (.int p2), .val (.ref a3), .val (.int (p0 &&& (7 : Int32))), .val (.int ins), .unset, .unset, .unset] [(.int (3 : Int32)), (.int p0)])) t
      refine XS.iushr Y13.here hx rfl (hb hby at_53) rfl ?_
      show Steps p.tables e below (T12.setTop (mkF m 54 #[.val (.int p0), .val (.int p1), .val (.int p2), .val (.ref a3), .val (.int (p0 &&& (7 : Int32))), .val (.int ins), .unset, .unset, .unset] [(.int ((p0.toUInt32 >>> ((3 : Int32) &&& 31).toUInt32).toInt32))])) t
      refine XS.iconst Y13.here hx rfl (hb hby at_54) ?_
      show Steps p.tables e below (T12.setTop (mkF m 55 #[.val (.int p0), .val (.int p1), .val (.int p2), .val (.ref a3), .val (.int (p0 &&& (7 : Int32))), .val (.int ins), .unset, .unset, .unset] [(.int (3 : Int32)), (.int ((p0.toUInt32 >>> ((3 : Int32) &&& 31).toUInt32).toInt32))])) t
      refine XS.iand Y13.here hx rfl (hb hby at_55) rfl ?_
      show Steps p.tables e below (T12.setTop (mkF m 56 #[.val (.int p0), .val (.int p1), .val (.int p2), .val (.ref a3), .val (.int (p0 &&& (7 : Int32))), .val (.int ins), .unset, .unset, .unset] [(.int (((p0.toUInt32 >>> ((3 : Int32) &&& 31).toUInt32).toInt32) &&& (3 : Int32)))])) t
      refine XS.istore Y13.here hx rfl (hb hby at_56) rfl (l' := #[.val (.int p0), .val (.int p1), .val (.int p2), .val (.ref a3), .val (.int (p0 &&& (7 : Int32))), .val (.int ins), .val (.int (((p0.toUInt32 >>> ((3 : Int32) &&& 31).toUInt32).toInt32) &&& (3 : Int32))), .unset, .unset]) rfl ?_
      show Steps p.tables e below (T12.setTop (mkF m 58 #[.val (.int p0), .val (.int p1), .val (.int p2), .val (.ref a3), .val (.int (p0 &&& (7 : Int32))), .val (.int ins), .val (.int (((p0.toUInt32 >>> ((3 : Int32) &&& 31).toUInt32).toInt32) &&& (3 : Int32))), .unset, .unset] [])) t
      refine XS.iload Y13.here hx rfl (hb hby at_58) rfl ?_
      show Steps p.tables e below (T12.setTop (mkF m 60 #[.val (.int p0), .val (.int p1), .val (.int p2), .val (.ref a3), .val (.int (p0 &&& (7 : Int32))), .val (.int ins), .val (.int (((p0.toUInt32 >>> ((3 : Int32) &&& 31).toUInt32).toInt32) &&& (3 : Int32))), .unset, .unset] [(.int (((p0.toUInt32 >>> ((3 : Int32) &&& 31).toUInt32).toInt32) &&& (3 : Int32)))])) t
      refine XS.iconst Y13.here hx rfl (hb hby at_60) ?_
      show Steps p.tables e below (T12.setTop (mkF m 61 #[.val (.int p0), .val (.int p1), .val (.int p2), .val (.ref a3), .val (.int (p0 &&& (7 : Int32))), .val (.int ins), .val (.int (((p0.toUInt32 >>> ((3 : Int32) &&& 31).toUInt32).toInt32) &&& (3 : Int32))), .unset, .unset] [(.int (3 : Int32)), (.int (((p0.toUInt32 >>> ((3 : Int32) &&& 31).toUInt32).toInt32) &&& (3 : Int32)))])) t
      exact k
    obtain ⟨v70, hv70⟩ : ∃ z : Int32, z = (if (((p0.toUInt32 >>> ((3 : Int32) &&& 31).toUInt32).toInt32) &&& (3 : Int32)) < (3 : Int32) then (((p0.toUInt32 >>> ((3 : Int32) &&& 31).toUInt32).toInt32) &&& (3 : Int32)) else p2) := ⟨_, rfl⟩
    refine Rn.go (T' := T12) (g' := (mkF m 70 #[.val (.int p0), .val (.int p1), .val (.int p2), .val (.ref a3), .val (.int (p0 &&& (7 : Int32))), .val (.int ins), .val (.int (((p0.toUInt32 >>> ((3 : Int32) &&& 31).toUInt32).toInt32) &&& (3 : Int32))), .unset, .unset] [(.int v70)])) (fun t k => ?_) ?_
    · show Steps p.tables e below (T12.setTop (mkF m 61 #[.val (.int p0), .val (.int p1), .val (.int p2), .val (.ref a3), .val (.int (p0 &&& (7 : Int32))), .val (.int ins), .val (.int (((p0.toUInt32 >>> ((3 : Int32) &&& 31).toUInt32).toInt32) &&& (3 : Int32))), .unset, .unset] [(.int (3 : Int32)), (.int (((p0.toUInt32 >>> ((3 : Int32) &&& 31).toUInt32).toInt32) &&& (3 : Int32)))])) t
      by_cases hc61 : (((p0.toUInt32 >>> ((3 : Int32) &&& 31).toUInt32).toInt32) &&& (3 : Int32)) < (3 : Int32)
      · refine XS.icmpNo Y13.here hx rfl (hb hby at_61) rfl (tlt hc61).2.1 ?_
        show Steps p.tables e below (T12.setTop (mkF m 64 #[.val (.int p0), .val (.int p1), .val (.int p2), .val (.ref a3), .val (.int (p0 &&& (7 : Int32))), .val (.int ins), .val (.int (((p0.toUInt32 >>> ((3 : Int32) &&& 31).toUInt32).toInt32) &&& (3 : Int32))), .unset, .unset] [])) t
        refine XS.iload Y13.here hx rfl (hb hby at_64) rfl ?_
        show Steps p.tables e below (T12.setTop (mkF m 66 #[.val (.int p0), .val (.int p1), .val (.int p2), .val (.ref a3), .val (.int (p0 &&& (7 : Int32))), .val (.int ins), .val (.int (((p0.toUInt32 >>> ((3 : Int32) &&& 31).toUInt32).toInt32) &&& (3 : Int32))), .unset, .unset] [(.int (((p0.toUInt32 >>> ((3 : Int32) &&& 31).toUInt32).toInt32) &&& (3 : Int32)))])) t
        refine XS.goto Y13.here hx rfl (pc0 := 66) (pc' := 70) rfl (hb hby at_66) (by decide) (by decide) ?_
        show Steps p.tables e below (T12.setTop (mkF m 70 #[.val (.int p0), .val (.int p1), .val (.int p2), .val (.ref a3), .val (.int (p0 &&& (7 : Int32))), .val (.int ins), .val (.int (((p0.toUInt32 >>> ((3 : Int32) &&& 31).toUInt32).toInt32) &&& (3 : Int32))), .unset, .unset] [(.int (((p0.toUInt32 >>> ((3 : Int32) &&& 31).toUInt32).toInt32) &&& (3 : Int32)))])) t
        rw [hv70, if_pos hc61] at k
        exact k
      · refine XS.icmpYes Y13.here hx rfl (pc0 := 61) (pc' := 69) rfl (hb hby at_61) rfl (flt hc61).2.1 (by decide) (by decide) ?_
        show Steps p.tables e below (T12.setTop (mkF m 69 #[.val (.int p0), .val (.int p1), .val (.int p2), .val (.ref a3), .val (.int (p0 &&& (7 : Int32))), .val (.int ins), .val (.int (((p0.toUInt32 >>> ((3 : Int32) &&& 31).toUInt32).toInt32) &&& (3 : Int32))), .unset, .unset] [])) t
        refine XS.iloadN Y13.here hx rfl (hb hby at_69) rfl ?_
        show Steps p.tables e below (T12.setTop (mkF m 70 #[.val (.int p0), .val (.int p1), .val (.int p2), .val (.ref a3), .val (.int (p0 &&& (7 : Int32))), .val (.int ins), .val (.int (((p0.toUInt32 >>> ((3 : Int32) &&& 31).toUInt32).toInt32) &&& (3 : Int32))), .unset, .unset] [(.int p2)])) t
        rw [hv70, if_neg hc61] at k
        exact k
    refine Rn.go (T' := T12) (g' := (mkF m 76 #[.val (.int p0), .val (.int p1), .val (.int p2), .val (.ref a3), .val (.int (p0 &&& (7 : Int32))), .val (.int ins), .val (.int (((p0.toUInt32 >>> ((3 : Int32) &&& 31).toUInt32).toInt32) &&& (3 : Int32))), .val (.int v70), .unset] [(.int v70), (.int ins)])) (fun t k => ?_) ?_
    · show Steps p.tables e below (T12.setTop (mkF m 70 #[.val (.int p0), .val (.int p1), .val (.int p2), .val (.ref a3), .val (.int (p0 &&& (7 : Int32))), .val (.int ins), .val (.int (((p0.toUInt32 >>> ((3 : Int32) &&& 31).toUInt32).toInt32) &&& (3 : Int32))), .unset, .unset] [(.int v70)])) t
      refine XS.istore Y13.here hx rfl (hb hby at_70) rfl (l' := #[.val (.int p0), .val (.int p1), .val (.int p2), .val (.ref a3), .val (.int (p0 &&& (7 : Int32))), .val (.int ins), .val (.int (((p0.toUInt32 >>> ((3 : Int32) &&& 31).toUInt32).toInt32) &&& (3 : Int32))), .val (.int v70), .unset]) rfl ?_
      show Steps p.tables e below (T12.setTop (mkF m 72 #[.val (.int p0), .val (.int p1), .val (.int p2), .val (.ref a3), .val (.int (p0 &&& (7 : Int32))), .val (.int ins), .val (.int (((p0.toUInt32 >>> ((3 : Int32) &&& 31).toUInt32).toInt32) &&& (3 : Int32))), .val (.int v70), .unset] [])) t
      refine XS.iload Y13.here hx rfl (hb hby at_72) rfl ?_
      show Steps p.tables e below (T12.setTop (mkF m 74 #[.val (.int p0), .val (.int p1), .val (.int p2), .val (.ref a3), .val (.int (p0 &&& (7 : Int32))), .val (.int ins), .val (.int (((p0.toUInt32 >>> ((3 : Int32) &&& 31).toUInt32).toInt32) &&& (3 : Int32))), .val (.int v70), .unset] [(.int ins)])) t
      refine XS.iload Y13.here hx rfl (hb hby at_74) rfl ?_
      show Steps p.tables e below (T12.setTop (mkF m 76 #[.val (.int p0), .val (.int p1), .val (.int p2), .val (.ref a3), .val (.int (p0 &&& (7 : Int32))), .val (.int ins), .val (.int (((p0.toUInt32 >>> ((3 : Int32) &&& 31).toUInt32).toInt32) &&& (3 : Int32))), .val (.int v70), .unset] [(.int v70), (.int ins)])) t
      exact k
    refine On.static Y13 hx hZ (y := (⟨"com/example/cardbench/cardbench/card/Gsm1111", "chvNamed", "(II)I"⟩ : MethodName)) hown (w1 hw) (w2 hw) (w4 hw) (w3 hw) (by decide) (argsL := [(.int ins), (.int v70)]) (rest := []) (rm1 l Z a0 hw n0 ins v70 [ari a3 .int (5 : Int32) [(32 : Int32), (36 : Int32), (38 : Int32), (40 : Int32), (44 : Int32)]]) (W := 0) (by decide) (by decide) (by decide) (by decide) (g := (mkF m 76 #[.val (.int p0), .val (.int p1), .val (.int p2), .val (.ref a3), .val (.int (p0 &&& (7 : Int32))), .val (.int ins), .val (.int (((p0.toUInt32 >>> ((3 : Int32) &&& 31).toUInt32).toInt32) &&& (3 : Int32))), .val (.int v70), .unset] [(.int v70), (.int ins)])) rfl (by rw [hml]; rfl) (lenOf pd0 rfl) rfl (by show 2 * 0 + _ ≤ _; exact Nat.le_of_eq rfl) (hb hby at_76) ?_
    intro T14 u16 D17 hp18 Y15
    obtain ⟨r76, hr76, rfl, rfl⟩ : ∃ z : Int32, z = (own_chv ins v70) ∧ u16 = some (.int z) ∧ D17 = _ := ⟨_, rfl, hp18.1, hp18.2⟩
    replace Y15 : On p l e _ s m _ below meth c Z n0 T14 1 5 [ari a3 .int (5 : Int32) [(32 : Int32), (36 : Int32), (38 : Int32), (40 : Int32), (44 : Int32)]] := Y15
    show Rn p e below F T14 (mkF m 79 #[.val (.int p0), .val (.int p1), .val (.int p2), .val (.ref a3), .val (.int (p0 &&& (7 : Int32))), .val (.int ins), .val (.int (((p0.toUInt32 >>> ((3 : Int32) &&& 31).toUInt32).toInt32) &&& (3 : Int32))), .val (.int v70), .unset] [(.int r76)])
    refine Rn.go (T' := T14) (g' := (mkF m 87 #[.val (.int p0), .val (.int p1), .val (.int p2), .val (.ref a3), .val (.int (p0 &&& (7 : Int32))), .val (.int ins), .val (.int (((p0.toUInt32 >>> ((3 : Int32) &&& 31).toUInt32).toInt32) &&& (3 : Int32))), .val (.int v70), .val (.int r76)] [(.int v70), (.int ins), (.int r76)])) (fun t k => ?_) ?_
    · show Steps p.tables e below (T14.setTop (mkF m 79 #[.val (.int p0), .val (.int p1), .val (.int p2), .val (.ref a3), .val (.int (p0 &&& (7 : Int32))), .val (.int ins), .val (.int (((p0.toUInt32 >>> ((3 : Int32) &&& 31).toUInt32).toInt32) &&& (3 : Int32))), .val (.int v70), .unset] [(.int r76)])) t
      refine XS.istore Y15.here hx rfl (hb hby at_79) rfl (l' := #[.val (.int p0), .val (.int p1), .val (.int p2), .val (.ref a3), .val (.int (p0 &&& (7 : Int32))), .val (.int ins), .val (.int (((p0.toUInt32 >>> ((3 : Int32) &&& 31).toUInt32).toInt32) &&& (3 : Int32))), .val (.int v70), .val (.int r76)]) rfl ?_
      show Steps p.tables e below (T14.setTop (mkF m 81 #[.val (.int p0), .val (.int p1), .val (.int p2), .val (.ref a3), .val (.int (p0 &&& (7 : Int32))), .val (.int ins), .val (.int (((p0.toUInt32 >>> ((3 : Int32) &&& 31).toUInt32).toInt32) &&& (3 : Int32))), .val (.int v70), .val (.int r76)] [])) t
      refine XS.iload Y15.here hx rfl (hb hby at_81) rfl ?_
      show Steps p.tables e below (T14.setTop (mkF m 83 #[.val (.int p0), .val (.int p1), .val (.int p2), .val (.ref a3), .val (.int (p0 &&& (7 : Int32))), .val (.int ins), .val (.int (((p0.toUInt32 >>> ((3 : Int32) &&& 31).toUInt32).toInt32) &&& (3 : Int32))), .val (.int v70), .val (.int r76)] [(.int r76)])) t
      refine XS.iload Y15.here hx rfl (hb hby at_83) rfl ?_
      show Steps p.tables e below (T14.setTop (mkF m 85 #[.val (.int p0), .val (.int p1), .val (.int p2), .val (.ref a3), .val (.int (p0 &&& (7 : Int32))), .val (.int ins), .val (.int (((p0.toUInt32 >>> ((3 : Int32) &&& 31).toUInt32).toInt32) &&& (3 : Int32))), .val (.int v70), .val (.int r76)] [(.int ins), (.int r76)])) t
      refine XS.iload Y15.here hx rfl (hb hby at_85) rfl ?_
      show Steps p.tables e below (T14.setTop (mkF m 87 #[.val (.int p0), .val (.int p1), .val (.int p2), .val (.ref a3), .val (.int (p0 &&& (7 : Int32))), .val (.int ins), .val (.int (((p0.toUInt32 >>> ((3 : Int32) &&& 31).toUInt32).toInt32) &&& (3 : Int32))), .val (.int v70), .val (.int r76)] [(.int v70), (.int ins), (.int r76)])) t
      exact k
    refine On.static Y15 hx hZ (y := (⟨"com/example/cardbench/cardbench/card/Gsm1111ChvNamedPinLaw", "expected", "(II)I"⟩ : MethodName)) hown (w5 hw) (w6 hw) (w8 hw) (w7 hw) (by decide) (argsL := [(.int ins), (.int v70)]) (rest := [(.int r76)]) (rm2 l Z a0 hw n0 ins v70 [ari a3 .int (5 : Int32) [(32 : Int32), (36 : Int32), (38 : Int32), (40 : Int32), (44 : Int32)]]) (W := 1) (by decide) (by decide) (by decide) (by decide) (g := (mkF m 87 #[.val (.int p0), .val (.int p1), .val (.int p2), .val (.ref a3), .val (.int (p0 &&& (7 : Int32))), .val (.int ins), .val (.int (((p0.toUInt32 >>> ((3 : Int32) &&& 31).toUInt32).toInt32) &&& (3 : Int32))), .val (.int v70), .val (.int r76)] [(.int v70), (.int ins), (.int r76)])) rfl (by rw [hml]; rfl) (lenOf pd0 rfl) rfl (by show 2 * 0 + _ ≤ _; exact Nat.le_of_eq rfl) (hb hby at_87) ?_
    intro T19 u21 D22 hp23 Y20
    obtain ⟨r87, hr87, rfl, rfl⟩ : ∃ z : Int32, z = (own_exp ins v70) ∧ u21 = some (.int z) ∧ D22 = _ := ⟨_, rfl, hp23.1, hp23.2⟩
    replace Y20 : On p l e _ s m _ below meth c Z n0 T19 1 5 [ari a3 .int (5 : Int32) [(32 : Int32), (36 : Int32), (38 : Int32), (40 : Int32), (44 : Int32)]] := Y20
    show Rn p e below F T19 (mkF m 90 #[.val (.int p0), .val (.int p1), .val (.int p2), .val (.ref a3), .val (.int (p0 &&& (7 : Int32))), .val (.int ins), .val (.int (((p0.toUInt32 >>> ((3 : Int32) &&& 31).toUInt32).toInt32) &&& (3 : Int32))), .val (.int v70), .val (.int r76)] [(.int r87), (.int r76)])
    refine Rn.go (T' := T19) (g' := (mkF m 93 #[.val (.int p0), .val (.int p1), .val (.int p2), .val (.ref a3), .val (.int (p0 &&& (7 : Int32))), .val (.int ins), .val (.int (((p0.toUInt32 >>> ((3 : Int32) &&& 31).toUInt32).toInt32) &&& (3 : Int32))), .val (.int v70), .val (.int r76)] [])) (fun t k => XS.icmpNo Y20.here hx rfl (hb hby at_90) rfl (teq (by rw [hr76, hr87]; exact own_same _ _)).2 k) ?_
    refine Rn.go (T' := T19) (g' := (mkF m 98 #[.val (.int p0), .val (.int p1), .val (.int p2), .val (.ref a3), .val (.int (p0 &&& (7 : Int32))), .val (.int ins), .val (.int (((p0.toUInt32 >>> ((3 : Int32) &&& 31).toUInt32).toInt32) &&& (3 : Int32))), .val (.int v70), .val (.int r76)] [(.int (1 : Int32))])) (fun t k => ?_) ?_
    · show Steps p.tables e below (T19.setTop (mkF m 93 #[.val (.int p0), .val (.int p1), .val (.int p2), .val (.ref a3), .val (.int (p0 &&& (7 : Int32))), .val (.int ins), .val (.int (((p0.toUInt32 >>> ((3 : Int32) &&& 31).toUInt32).toInt32) &&& (3 : Int32))), .val (.int v70), .val (.int r76)] [])) t
      refine XS.iconst Y20.here hx rfl (hb hby at_93) ?_
      show Steps p.tables e below (T19.setTop (mkF m 94 #[.val (.int p0), .val (.int p1), .val (.int p2), .val (.ref a3), .val (.int (p0 &&& (7 : Int32))), .val (.int ins), .val (.int (((p0.toUInt32 >>> ((3 : Int32) &&& 31).toUInt32).toInt32) &&& (3 : Int32))), .val (.int v70), .val (.int r76)] [(.int (1 : Int32))])) t
      refine XS.goto Y20.here hx rfl (pc0 := 94) (pc' := 98) rfl (hb hby at_94) (by decide) (by decide) ?_
      show Steps p.tables e below (T19.setTop (mkF m 98 #[.val (.int p0), .val (.int p1), .val (.int p2), .val (.ref a3), .val (.int (p0 &&& (7 : Int32))), .val (.int ins), .val (.int (((p0.toUInt32 >>> ((3 : Int32) &&& 31).toUInt32).toInt32) &&& (3 : Int32))), .val (.int v70), .val (.int r76)] [(.int (1 : Int32))])) t
      exact k
    rw [← hF]; exact On.retn Y20 hx hret (by simp) hlk (z' := (1 : Int32)) (by decide) (hb hby at_98) (by decide) (by decide) rfl
  · refine Rn.go (T' := T12) (g' := (mkF m 48 #[.val (.int p0), .val (.int p1), .val (.int p2), .val (.ref a3), .val (.int (p0 &&& (7 : Int32))), .unset, .unset, .unset, .unset] [])) (fun t k => XS.icmpYes Y13.here hx rfl (pc0 := 38) (pc' := 48) rfl (hb hby at_38) rfl (flt hc38).2.1 (by decide) (by decide) k) ?_
    refine Rn.go (T' := T12) (g' := (mkF m 49 #[.val (.int p0), .val (.int p1), .val (.int p2), .val (.ref a3), .val (.int (p0 &&& (7 : Int32))), .unset, .unset, .unset, .unset] [(.int p1)])) (fun t k => ?_) ?_
    · show Steps p.tables e below (T12.setTop (mkF m 48 #[.val (.int p0), .val (.int p1), .val (.int p2), .val (.ref a3), .val (.int (p0 &&& (7 : Int32))), .unset, .unset, .unset, .unset] [])) t
      refine XS.iloadN Y13.here hx rfl (hb hby at_48) rfl ?_
      show Steps p.tables e below (T12.setTop (mkF m 49 #[.val (.int p0), .val (.int p1), .val (.int p2), .val (.ref a3), .val (.int (p0 &&& (7 : Int32))), .unset, .unset, .unset, .unset] [(.int p1)])) t
      exact k
    refine Rn.go (T' := T12) (g' := (mkF m 61 #[.val (.int p0), .val (.int p1), .val (.int p2), .val (.ref a3), .val (.int (p0 &&& (7 : Int32))), .val (.int p1), .val (.int (((p0.toUInt32 >>> ((3 : Int32) &&& 31).toUInt32).toInt32) &&& (3 : Int32))), .unset, .unset] [(.int (3 : Int32)), (.int (((p0.toUInt32 >>> ((3 : Int32) &&& 31).toUInt32).toInt32) &&& (3 : Int32)))])) (fun t k => ?_) ?_
    · show Steps p.tables e below (T12.setTop (mkF m 49 #[.val (.int p0), .val (.int p1), .val (.int p2), .val (.ref a3), .val (.int (p0 &&& (7 : Int32))), .unset, .unset, .unset, .unset] [(.int p1)])) t
      refine XS.istore Y13.here hx rfl (hb hby at_49) rfl (l' := #[.val (.int p0), .val (.int p1), .val (.int p2), .val (.ref a3), .val (.int (p0 &&& (7 : Int32))), .val (.int p1), .unset, .unset, .unset]) rfl ?_
      show Steps p.tables e below (T12.setTop (mkF m 51 #[.val (.int p0), .val (.int p1), .val (.int p2), .val (.ref a3), .val (.int (p0 &&& (7 : Int32))), .val (.int p1), .unset, .unset, .unset] [])) t
      refine XS.iloadN Y13.here hx rfl (hb hby at_51) rfl ?_
      show Steps p.tables e below (T12.setTop (mkF m 52 #[.val (.int p0), .val (.int p1), .val (.int p2), .val (.ref a3), .val (.int (p0 &&& (7 : Int32))), .val (.int p1), .unset, .unset, .unset] [(.int p0)])) t
      refine XS.iconst Y13.here hx rfl (hb hby at_52) ?_
      show Steps p.tables e below (T12.setTop (mkF m 53 #[.val (.int p0), .val (.int p1), .val (.int p2), .val (.ref a3), .val (.int (p0 &&& (7 : Int32))), .val (.int p1), .unset, .unset, .unset] [(.int (3 : Int32)), (.int p0)])) t
      refine XS.iushr Y13.here hx rfl (hb hby at_53) rfl ?_
      show Steps p.tables e below (T12.setTop (mkF m 54 #[.val (.int p0), .val (.int p1), .val (.int p2), .val (.ref a3), .val (.int (p0 &&& (7 : Int32))), .val (.int p1), .unset, .unset, .unset] [(.int ((p0.toUInt32 >>> ((3 : Int32) &&& 31).toUInt32).toInt32))])) t
      refine XS.iconst Y13.here hx rfl (hb hby at_54) ?_
      show Steps p.tables e below (T12.setTop (mkF m 55 #[.val (.int p0), .val (.int p1), .val (.int p2), .val (.ref a3), .val (.int (p0 &&& (7 : Int32))), .val (.int p1), .unset, .unset, .unset] [(.int (3 : Int32)), (.int ((p0.toUInt32 >>> ((3 : Int32) &&& 31).toUInt32).toInt32))])) t
      refine XS.iand Y13.here hx rfl (hb hby at_55) rfl ?_
      show Steps p.tables e below (T12.setTop (mkF m 56 #[.val (.int p0), .val (.int p1), .val (.int p2), .val (.ref a3), .val (.int (p0 &&& (7 : Int32))), .val (.int p1), .unset, .unset, .unset] [(.int (((p0.toUInt32 >>> ((3 : Int32) &&& 31).toUInt32).toInt32) &&& (3 : Int32)))])) t
      refine XS.istore Y13.here hx rfl (hb hby at_56) rfl (l' := #[.val (.int p0), .val (.int p1), .val (.int p2), .val (.ref a3), .val (.int (p0 &&& (7 : Int32))), .val (.int p1), .val (.int (((p0.toUInt32 >>> ((3 : Int32) &&& 31).toUInt32).toInt32) &&& (3 : Int32))), .unset, .unset]) rfl ?_
      show Steps p.tables e below (T12.setTop (mkF m 58 #[.val (.int p0), .val (.int p1), .val (.int p2), .val (.ref a3), .val (.int (p0 &&& (7 : Int32))), .val (.int p1), .val (.int (((p0.toUInt32 >>> ((3 : Int32) &&& 31).toUInt32).toInt32) &&& (3 : Int32))), .unset, .unset] [])) t
      refine XS.iload Y13.here hx rfl (hb hby at_58) rfl ?_
      show Steps p.tables e below (T12.setTop (mkF m 60 #[.val (.int p0), .val (.int p1), .val (.int p2), .val (.ref a3), .val (.int (p0 &&& (7 : Int32))), .val (.int p1), .val (.int (((p0.toUInt32 >>> ((3 : Int32) &&& 31).toUInt32).toInt32) &&& (3 : Int32))), .unset, .unset] [(.int (((p0.toUInt32 >>> ((3 : Int32) &&& 31).toUInt32).toInt32) &&& (3 : Int32)))])) t
      refine XS.iconst Y13.here hx rfl (hb hby at_60) ?_
      show Steps p.tables e below (T12.setTop (mkF m 61 #[.val (.int p0), .val (.int p1), .val (.int p2), .val (.ref a3), .val (.int (p0 &&& (7 : Int32))), .val (.int p1), .val (.int (((p0.toUInt32 >>> ((3 : Int32) &&& 31).toUInt32).toInt32) &&& (3 : Int32))), .unset, .unset] [(.int (3 : Int32)), (.int (((p0.toUInt32 >>> ((3 : Int32) &&& 31).toUInt32).toInt32) &&& (3 : Int32)))])) t
      exact k
    obtain ⟨v70, hv70⟩ : ∃ z : Int32, z = (if (((p0.toUInt32 >>> ((3 : Int32) &&& 31).toUInt32).toInt32) &&& (3 : Int32)) < (3 : Int32) then (((p0.toUInt32 >>> ((3 : Int32) &&& 31).toUInt32).toInt32) &&& (3 : Int32)) else p2) := ⟨_, rfl⟩
    refine Rn.go (T' := T12) (g' := (mkF m 70 #[.val (.int p0), .val (.int p1), .val (.int p2), .val (.ref a3), .val (.int (p0 &&& (7 : Int32))), .val (.int p1), .val (.int (((p0.toUInt32 >>> ((3 : Int32) &&& 31).toUInt32).toInt32) &&& (3 : Int32))), .unset, .unset] [(.int v70)])) (fun t k => ?_) ?_
    · show Steps p.tables e below (T12.setTop (mkF m 61 #[.val (.int p0), .val (.int p1), .val (.int p2), .val (.ref a3), .val (.int (p0 &&& (7 : Int32))), .val (.int p1), .val (.int (((p0.toUInt32 >>> ((3 : Int32) &&& 31).toUInt32).toInt32) &&& (3 : Int32))), .unset, .unset] [(.int (3 : Int32)), (.int (((p0.toUInt32 >>> ((3 : Int32) &&& 31).toUInt32).toInt32) &&& (3 : Int32)))])) t
      by_cases hc61 : (((p0.toUInt32 >>> ((3 : Int32) &&& 31).toUInt32).toInt32) &&& (3 : Int32)) < (3 : Int32)
      · refine XS.icmpNo Y13.here hx rfl (hb hby at_61) rfl (tlt hc61).2.1 ?_
        show Steps p.tables e below (T12.setTop (mkF m 64 #[.val (.int p0), .val (.int p1), .val (.int p2), .val (.ref a3), .val (.int (p0 &&& (7 : Int32))), .val (.int p1), .val (.int (((p0.toUInt32 >>> ((3 : Int32) &&& 31).toUInt32).toInt32) &&& (3 : Int32))), .unset, .unset] [])) t
        refine XS.iload Y13.here hx rfl (hb hby at_64) rfl ?_
        show Steps p.tables e below (T12.setTop (mkF m 66 #[.val (.int p0), .val (.int p1), .val (.int p2), .val (.ref a3), .val (.int (p0 &&& (7 : Int32))), .val (.int p1), .val (.int (((p0.toUInt32 >>> ((3 : Int32) &&& 31).toUInt32).toInt32) &&& (3 : Int32))), .unset, .unset] [(.int (((p0.toUInt32 >>> ((3 : Int32) &&& 31).toUInt32).toInt32) &&& (3 : Int32)))])) t
        refine XS.goto Y13.here hx rfl (pc0 := 66) (pc' := 70) rfl (hb hby at_66) (by decide) (by decide) ?_
        show Steps p.tables e below (T12.setTop (mkF m 70 #[.val (.int p0), .val (.int p1), .val (.int p2), .val (.ref a3), .val (.int (p0 &&& (7 : Int32))), .val (.int p1), .val (.int (((p0.toUInt32 >>> ((3 : Int32) &&& 31).toUInt32).toInt32) &&& (3 : Int32))), .unset, .unset] [(.int (((p0.toUInt32 >>> ((3 : Int32) &&& 31).toUInt32).toInt32) &&& (3 : Int32)))])) t
        rw [hv70, if_pos hc61] at k
        exact k
      · refine XS.icmpYes Y13.here hx rfl (pc0 := 61) (pc' := 69) rfl (hb hby at_61) rfl (flt hc61).2.1 (by decide) (by decide) ?_
        show Steps p.tables e below (T12.setTop (mkF m 69 #[.val (.int p0), .val (.int p1), .val (.int p2), .val (.ref a3), .val (.int (p0 &&& (7 : Int32))), .val (.int p1), .val (.int (((p0.toUInt32 >>> ((3 : Int32) &&& 31).toUInt32).toInt32) &&& (3 : Int32))), .unset, .unset] [])) t
        refine XS.iloadN Y13.here hx rfl (hb hby at_69) rfl ?_
        show Steps p.tables e below (T12.setTop (mkF m 70 #[.val (.int p0), .val (.int p1), .val (.int p2), .val (.ref a3), .val (.int (p0 &&& (7 : Int32))), .val (.int p1), .val (.int (((p0.toUInt32 >>> ((3 : Int32) &&& 31).toUInt32).toInt32) &&& (3 : Int32))), .unset, .unset] [(.int p2)])) t
        rw [hv70, if_neg hc61] at k
        exact k
    refine Rn.go (T' := T12) (g' := (mkF m 76 #[.val (.int p0), .val (.int p1), .val (.int p2), .val (.ref a3), .val (.int (p0 &&& (7 : Int32))), .val (.int p1), .val (.int (((p0.toUInt32 >>> ((3 : Int32) &&& 31).toUInt32).toInt32) &&& (3 : Int32))), .val (.int v70), .unset] [(.int v70), (.int p1)])) (fun t k => ?_) ?_
    · show Steps p.tables e below (T12.setTop (mkF m 70 #[.val (.int p0), .val (.int p1), .val (.int p2), .val (.ref a3), .val (.int (p0 &&& (7 : Int32))), .val (.int p1), .val (.int (((p0.toUInt32 >>> ((3 : Int32) &&& 31).toUInt32).toInt32) &&& (3 : Int32))), .unset, .unset] [(.int v70)])) t
      refine XS.istore Y13.here hx rfl (hb hby at_70) rfl (l' := #[.val (.int p0), .val (.int p1), .val (.int p2), .val (.ref a3), .val (.int (p0 &&& (7 : Int32))), .val (.int p1), .val (.int (((p0.toUInt32 >>> ((3 : Int32) &&& 31).toUInt32).toInt32) &&& (3 : Int32))), .val (.int v70), .unset]) rfl ?_
      show Steps p.tables e below (T12.setTop (mkF m 72 #[.val (.int p0), .val (.int p1), .val (.int p2), .val (.ref a3), .val (.int (p0 &&& (7 : Int32))), .val (.int p1), .val (.int (((p0.toUInt32 >>> ((3 : Int32) &&& 31).toUInt32).toInt32) &&& (3 : Int32))), .val (.int v70), .unset] [])) t
      refine XS.iload Y13.here hx rfl (hb hby at_72) rfl ?_
      show Steps p.tables e below (T12.setTop (mkF m 74 #[.val (.int p0), .val (.int p1), .val (.int p2), .val (.ref a3), .val (.int (p0 &&& (7 : Int32))), .val (.int p1), .val (.int (((p0.toUInt32 >>> ((3 : Int32) &&& 31).toUInt32).toInt32) &&& (3 : Int32))), .val (.int v70), .unset] [(.int p1)])) t
      refine XS.iload Y13.here hx rfl (hb hby at_74) rfl ?_
      show Steps p.tables e below (T12.setTop (mkF m 76 #[.val (.int p0), .val (.int p1), .val (.int p2), .val (.ref a3), .val (.int (p0 &&& (7 : Int32))), .val (.int p1), .val (.int (((p0.toUInt32 >>> ((3 : Int32) &&& 31).toUInt32).toInt32) &&& (3 : Int32))), .val (.int v70), .unset] [(.int v70), (.int p1)])) t
      exact k
    refine On.static Y13 hx hZ (y := (⟨"com/example/cardbench/cardbench/card/Gsm1111", "chvNamed", "(II)I"⟩ : MethodName)) hown (w1 hw) (w2 hw) (w4 hw) (w3 hw) (by decide) (argsL := [(.int p1), (.int v70)]) (rest := []) (rm1 l Z a0 hw n0 p1 v70 [ari a3 .int (5 : Int32) [(32 : Int32), (36 : Int32), (38 : Int32), (40 : Int32), (44 : Int32)]]) (W := 0) (by decide) (by decide) (by decide) (by decide) (g := (mkF m 76 #[.val (.int p0), .val (.int p1), .val (.int p2), .val (.ref a3), .val (.int (p0 &&& (7 : Int32))), .val (.int p1), .val (.int (((p0.toUInt32 >>> ((3 : Int32) &&& 31).toUInt32).toInt32) &&& (3 : Int32))), .val (.int v70), .unset] [(.int v70), (.int p1)])) rfl (by rw [hml]; rfl) (lenOf pd0 rfl) rfl (by show 2 * 0 + _ ≤ _; exact Nat.le_of_eq rfl) (hb hby at_76) ?_
    intro T24 u26 D27 hp28 Y25
    obtain ⟨r76, hr76, rfl, rfl⟩ : ∃ z : Int32, z = (own_chv p1 v70) ∧ u26 = some (.int z) ∧ D27 = _ := ⟨_, rfl, hp28.1, hp28.2⟩
    replace Y25 : On p l e _ s m _ below meth c Z n0 T24 1 5 [ari a3 .int (5 : Int32) [(32 : Int32), (36 : Int32), (38 : Int32), (40 : Int32), (44 : Int32)]] := Y25
    show Rn p e below F T24 (mkF m 79 #[.val (.int p0), .val (.int p1), .val (.int p2), .val (.ref a3), .val (.int (p0 &&& (7 : Int32))), .val (.int p1), .val (.int (((p0.toUInt32 >>> ((3 : Int32) &&& 31).toUInt32).toInt32) &&& (3 : Int32))), .val (.int v70), .unset] [(.int r76)])
    refine Rn.go (T' := T24) (g' := (mkF m 87 #[.val (.int p0), .val (.int p1), .val (.int p2), .val (.ref a3), .val (.int (p0 &&& (7 : Int32))), .val (.int p1), .val (.int (((p0.toUInt32 >>> ((3 : Int32) &&& 31).toUInt32).toInt32) &&& (3 : Int32))), .val (.int v70), .val (.int r76)] [(.int v70), (.int p1), (.int r76)])) (fun t k => ?_) ?_
    · show Steps p.tables e below (T24.setTop (mkF m 79 #[.val (.int p0), .val (.int p1), .val (.int p2), .val (.ref a3), .val (.int (p0 &&& (7 : Int32))), .val (.int p1), .val (.int (((p0.toUInt32 >>> ((3 : Int32) &&& 31).toUInt32).toInt32) &&& (3 : Int32))), .val (.int v70), .unset] [(.int r76)])) t
      refine XS.istore Y25.here hx rfl (hb hby at_79) rfl (l' := #[.val (.int p0), .val (.int p1), .val (.int p2), .val (.ref a3), .val (.int (p0 &&& (7 : Int32))), .val (.int p1), .val (.int (((p0.toUInt32 >>> ((3 : Int32) &&& 31).toUInt32).toInt32) &&& (3 : Int32))), .val (.int v70), .val (.int r76)]) rfl ?_
      show Steps p.tables e below (T24.setTop (mkF m 81 #[.val (.int p0), .val (.int p1), .val (.int p2), .val (.ref a3), .val (.int (p0 &&& (7 : Int32))), .val (.int p1), .val (.int (((p0.toUInt32 >>> ((3 : Int32) &&& 31).toUInt32).toInt32) &&& (3 : Int32))), .val (.int v70), .val (.int r76)] [])) t
      refine XS.iload Y25.here hx rfl (hb hby at_81) rfl ?_
      show Steps p.tables e below (T24.setTop (mkF m 83 #[.val (.int p0), .val (.int p1), .val (.int p2), .val (.ref a3), .val (.int (p0 &&& (7 : Int32))), .val (.int p1), .val (.int (((p0.toUInt32 >>> ((3 : Int32) &&& 31).toUInt32).toInt32) &&& (3 : Int32))), .val (.int v70), .val (.int r76)] [(.int r76)])) t
      refine XS.iload Y25.here hx rfl (hb hby at_83) rfl ?_
      show Steps p.tables e below (T24.setTop (mkF m 85 #[.val (.int p0), .val (.int p1), .val (.int p2), .val (.ref a3), .val (.int (p0 &&& (7 : Int32))), .val (.int p1), .val (.int (((p0.toUInt32 >>> ((3 : Int32) &&& 31).toUInt32).toInt32) &&& (3 : Int32))), .val (.int v70), .val (.int r76)] [(.int p1), (.int r76)])) t
      refine XS.iload Y25.here hx rfl (hb hby at_85) rfl ?_
      show Steps p.tables e below (T24.setTop (mkF m 87 #[.val (.int p0), .val (.int p1), .val (.int p2), .val (.ref a3), .val (.int (p0 &&& (7 : Int32))), .val (.int p1), .val (.int (((p0.toUInt32 >>> ((3 : Int32) &&& 31).toUInt32).toInt32) &&& (3 : Int32))), .val (.int v70), .val (.int r76)] [(.int v70), (.int p1), (.int r76)])) t
      exact k
    refine On.static Y25 hx hZ (y := (⟨"com/example/cardbench/cardbench/card/Gsm1111ChvNamedPinLaw", "expected", "(II)I"⟩ : MethodName)) hown (w5 hw) (w6 hw) (w8 hw) (w7 hw) (by decide) (argsL := [(.int p1), (.int v70)]) (rest := [(.int r76)]) (rm2 l Z a0 hw n0 p1 v70 [ari a3 .int (5 : Int32) [(32 : Int32), (36 : Int32), (38 : Int32), (40 : Int32), (44 : Int32)]]) (W := 1) (by decide) (by decide) (by decide) (by decide) (g := (mkF m 87 #[.val (.int p0), .val (.int p1), .val (.int p2), .val (.ref a3), .val (.int (p0 &&& (7 : Int32))), .val (.int p1), .val (.int (((p0.toUInt32 >>> ((3 : Int32) &&& 31).toUInt32).toInt32) &&& (3 : Int32))), .val (.int v70), .val (.int r76)] [(.int v70), (.int p1), (.int r76)])) rfl (by rw [hml]; rfl) (lenOf pd0 rfl) rfl (by show 2 * 0 + _ ≤ _; exact Nat.le_of_eq rfl) (hb hby at_87) ?_
    intro T29 u31 D32 hp33 Y30
    obtain ⟨r87, hr87, rfl, rfl⟩ : ∃ z : Int32, z = (own_exp p1 v70) ∧ u31 = some (.int z) ∧ D32 = _ := ⟨_, rfl, hp33.1, hp33.2⟩
    replace Y30 : On p l e _ s m _ below meth c Z n0 T29 1 5 [ari a3 .int (5 : Int32) [(32 : Int32), (36 : Int32), (38 : Int32), (40 : Int32), (44 : Int32)]] := Y30
    show Rn p e below F T29 (mkF m 90 #[.val (.int p0), .val (.int p1), .val (.int p2), .val (.ref a3), .val (.int (p0 &&& (7 : Int32))), .val (.int p1), .val (.int (((p0.toUInt32 >>> ((3 : Int32) &&& 31).toUInt32).toInt32) &&& (3 : Int32))), .val (.int v70), .val (.int r76)] [(.int r87), (.int r76)])
    refine Rn.go (T' := T29) (g' := (mkF m 93 #[.val (.int p0), .val (.int p1), .val (.int p2), .val (.ref a3), .val (.int (p0 &&& (7 : Int32))), .val (.int p1), .val (.int (((p0.toUInt32 >>> ((3 : Int32) &&& 31).toUInt32).toInt32) &&& (3 : Int32))), .val (.int v70), .val (.int r76)] [])) (fun t k => XS.icmpNo Y30.here hx rfl (hb hby at_90) rfl (teq (by rw [hr76, hr87]; exact own_same _ _)).2 k) ?_
    refine Rn.go (T' := T29) (g' := (mkF m 98 #[.val (.int p0), .val (.int p1), .val (.int p2), .val (.ref a3), .val (.int (p0 &&& (7 : Int32))), .val (.int p1), .val (.int (((p0.toUInt32 >>> ((3 : Int32) &&& 31).toUInt32).toInt32) &&& (3 : Int32))), .val (.int v70), .val (.int r76)] [(.int (1 : Int32))])) (fun t k => ?_) ?_
    · show Steps p.tables e below (T29.setTop (mkF m 93 #[.val (.int p0), .val (.int p1), .val (.int p2), .val (.ref a3), .val (.int (p0 &&& (7 : Int32))), .val (.int p1), .val (.int (((p0.toUInt32 >>> ((3 : Int32) &&& 31).toUInt32).toInt32) &&& (3 : Int32))), .val (.int v70), .val (.int r76)] [])) t
      refine XS.iconst Y30.here hx rfl (hb hby at_93) ?_
      show Steps p.tables e below (T29.setTop (mkF m 94 #[.val (.int p0), .val (.int p1), .val (.int p2), .val (.ref a3), .val (.int (p0 &&& (7 : Int32))), .val (.int p1), .val (.int (((p0.toUInt32 >>> ((3 : Int32) &&& 31).toUInt32).toInt32) &&& (3 : Int32))), .val (.int v70), .val (.int r76)] [(.int (1 : Int32))])) t
      refine XS.goto Y30.here hx rfl (pc0 := 94) (pc' := 98) rfl (hb hby at_94) (by decide) (by decide) ?_
      show Steps p.tables e below (T29.setTop (mkF m 98 #[.val (.int p0), .val (.int p1), .val (.int p2), .val (.ref a3), .val (.int (p0 &&& (7 : Int32))), .val (.int p1), .val (.int (((p0.toUInt32 >>> ((3 : Int32) &&& 31).toUInt32).toInt32) &&& (3 : Int32))), .val (.int v70), .val (.int r76)] [(.int (1 : Int32))])) t
      exact k
    rw [← hF]; exact On.retn Y30 hx hret (by simp) hlk (z' := (1 : Int32)) (by decide) (hb hby at_98) (by decide) (by decide) rfl
set_option maxRecDepth 65536 in
set_option maxHeartbeats 40000000 in
theorem comes_1 {Post : Tables → Env → Array Value → State → Outcome → State → Prop} (hpost : ∀ tb e args s v u, (limb_1_1.after args s (.returned v) u = true ∧ limb_1_2.after args s (.returned v) u = true ∧ True) → FrameEnd s (.returned v) u (Jvm.fieldLocs frame_1_writes args s ++ Jvm.arrayLocs frame_1_arrays args s ++ Jvm.staticLocs frame_1_statics s) 16 128 → Post tb e args s (.returned v) u) :
    ArmFor flags0 classFile x code maxLocals ret World_1 tables_1 room_1 Calls_1 rest_1 Pre_1 Post := by
  intro l hfl _ _ p e ha hc hk s m args below hf hA hF happ hP
  obtain ⟨hcalls, hrest, hpre⟩ := hP
  obtain ⟨-, -, -, hnamed, -, -, -, hat⟩ := (Spec.applies_iff hf).mp happ
  obtain ⟨hg, hn⟩ := and_e (Cond.before_iff.mp (show (Jvm.Cond.and given_1 narrow_1).before args s = true from hpre))
  obtain ⟨g1, g2⟩ := and_e hg
  obtain ⟨g3, g4⟩ := and_e g2
  obtain ⟨g5, g6⟩ := and_e g4
  obtain ⟨w0, w1, w2, rfl⟩ : ∃ w0 w1 w2 : Value, args = #[w0, w1, w2] := by
    have hs : args.size = 3 := by simpa [Cond.value, given_1] using g1
    obtain ⟨L⟩ := args
    match L, hs with
    | [w0, w1, w2], _ => exact ⟨w0, w1, w2, rfl⟩
  have hw := fun d (hd : d ∈ tables_1) => atoms_spec (ws := Jvm.Cond.code x code maxLocals ret :: tables_1) hat d (List.mem_cons_of_mem _ hd)
  obtain ⟨i0, ei0⟩ := is_v g3
  obtain rfl : w0 = (.int i0) := Option.some.inj ei0
  obtain ⟨i1, ei1⟩ := is_v g5
  obtain rfl : w1 = (.int i1) := Option.some.inj ei1
  obtain ⟨i2, ei2⟩ := is_v g6
  obtain rfl : w2 = (.int i2) := Option.some.inj ei2
  obtain ⟨n, o, h1, h2, h3, _, L, rfl, ⟨D', rfl, N, -⟩, hq⟩ := rm0 l s _ hw s.heap.size i0 i1 i2 tables_1 s.heap (Hp.nil s) p e ha hc hk s m _ below hf ((Spec.applies_iff_loose hf).mp happ).1 ⟨rfl, State.Warmed39.refl s, rfl⟩ trivial
  refine ⟨n, _, h1, h2, h3, hpost _ _ _ _ _ _ ⟨Cond.after_iff.mpr rfl, Cond.after_iff.mpr (eq_i res_at (Term.int_eval (1)) rfl), trivial⟩ ⟨hq.1, hq.2.1, (hq.2.2.sift fun y hy => Or.inr (N y hy)).mono (by decide) (by decide)⟩⟩
theorem main_1_1 : Claimed_1_1 := comes_1 fun _ _ _ _ _ _ h hF => ⟨h.1, hF⟩
theorem main_1_2 : Claimed_1_2 := comes_1 fun _ _ _ _ _ _ h hF => ⟨h.2.1, hF⟩
end Jvm.Pilot.@@N@@
namespace Jvm.Pilot.@@N@@
open Jvm Jvm.ClassFile Sem Op Lib Jvm.Free Jvm.Stand Jvm.Pilot.@@N@@.Jvm.D
/-! MADE BY PROGRAM (witnessworld.py) out of the Statement's table words and the real class files: 9 classes; the members and pool entries that the words name. The judged class is class 1, her method 1. -/
namespace start1
open Jvm.ClassFile
def u (s : String) : CpInfo := .utf8 (stringToUtf16 s)
/-- a pool by its gaps: so many unusable entries, then the entry; so many at the end -/
def gap : Nat → List CpInfo → List CpInfo
  | 0, r => r
  | n + 1, r => .unusable :: gap n r
def poolList (es : List (Nat × CpInfo)) (last : Nat) : List CpInfo := es.foldr (fun e r => gap e.1 (e.2 :: r)) (gap last [])
def pool (es : List (Nat × CpInfo)) (last : Nat) : Array CpInfo := ⟨poolList es last⟩
def fileOf (pool : Array CpInfo) (this : Nat) (attrs : Array Attribute := #[]) (ms : Array MethodInfo := #[]) (fl : Nat := 33) (sup : Nat := 0) (ifs : Array Nat := #[]) (fds : Array FieldInfo := #[]) : ClassFile where
  minorVersion := 0
  majorVersion := 65
  constantPool := pool
  accessFlags := fl
  thisClass := this
  superClass := sup
  interfaces := ifs
  fields := fds
  methods := ms
  attributes := attrs
def plain (name : String) (sup : Option ClassId) : Class where
  name := name
  kind := .ordinary
  loader := none
  accessFlags := 33
  super := sup
  interfaces := #[]
  cf := none
  fields := #[]
  methods := #[]
  instanceTypes := #[]
  staticTypes := #[]
  resolved := #[]
  callSites := []
  init := .initialized
  statics := none
  mirror := none

def pool0 : Array CpInfo := pool [(5, u "<init>"), (0, u "()V"), (1, .class_ 10), (1, u "java/lang/Object")] 113

def k0m0 : Method := { name := "<init>", desc := "()V", sig := { parameters := [], returnType := none }, accessFlags := 1, code := none }
/-- java/lang/Object -/
def k0 : Class := { plain "java/lang/Object" none with
  accessFlags := 33
  interfaces := #[]
  cf := some (fileOf pool0 8 #[] #[{ accessFlags := 1, nameIndex := 5, descriptorIndex := 6, attributes := #[] }] 33 0 #[] #[])
  fields := #[]
  methods := #[k0m0]
  instanceTypes := #[]
  staticTypes := #[]
  resolved := Array.replicate 124 none
  statics := none }

def pool1 : Array CpInfo := pool [(2, .class_ 4), (1, u "java/lang/Object"), (0, u "<init>"), (0, u "()V"), (0, .methodref 8 9), (0, .class_ 10), (0, .nameAndType 11 12), (0, u "com/example/cardbench/cardbench/card/Gsm1111"), (0, u "chvNamed"), (0, u "(II)I"), (0, .methodref 14 15), (0, .class_ 16), (0, .nameAndType 17 12), (0, u "com/example/cardbench/cardbench/card/Gsm1111ChvNamedPinLaw"), (0, u "expected"), (2, u "law"), (0, u "(III)Z")] 5

def k1m0 : Method := { name := "<init>", desc := "()V", sig := { parameters := [], returnType := none }, accessFlags := 2, code := none }
def k1c1 : Code := { maxStack := 4, maxLocals := 9, code := code, exceptionTable := #[], attributes := #[] }
def k1m1 : Method := { name := "law", desc := "(III)Z", sig := { parameters := [.int, .int, .int], returnType := some .boolean }, accessFlags := 9, code := some k1c1 }
def k1c2 : Code := { maxStack := 2, maxLocals := 3, code := method_3_code, exceptionTable := #[], attributes := #[] }
def k1m2 : Method := { name := "expected", desc := "(II)I", sig := { parameters := [.int, .int], returnType := some .int }, accessFlags := 10, code := some k1c2 }
/-- com/example/cardbench/cardbench/card/Gsm1111ChvNamedPinLaw -/
def k1 : Class := { plain "com/example/cardbench/cardbench/card/Gsm1111ChvNamedPinLaw" (some 0) with
  accessFlags := 49
  interfaces := #[]
  cf := some (fileOf pool1 14 #[] #[{ accessFlags := 2, nameIndex := 5, descriptorIndex := 6, attributes := #[] }, { accessFlags := 9, nameIndex := 20, descriptorIndex := 21, attributes := #[] }, { accessFlags := 10, nameIndex := 17, descriptorIndex := 12, attributes := #[] }] 49 2 #[] #[])
  fields := #[]
  methods := #[k1m0, k1m1, k1m2]
  instanceTypes := #[]
  staticTypes := #[]
  resolved := Array.replicate 27 none
  statics := none }

def pool2 : Array CpInfo := pool [(2, .class_ 4), (1, u "java/lang/Object"), (0, u "<init>"), (0, u "()V"), (0, .class_ 8), (0, u "com/example/cardbench/cardbench/card/Gsm1111"), (20, u "CLASS"), (0, u "I"), (2, u "SELECT"), (1, u "GET_RESPONSE"), (1, u "STATUS"), (1, u "READ_BINARY"), (1, u "UPDATE_BINARY"), (1, u "READ_RECORD"), (1, u "UPDATE_RECORD"), (1, u "SEEK"), (1, u "INCREASE"), (1, u "VERIFY_CHV"), (1, u "CHANGE_CHV"), (1, u "DISABLE_CHV"), (1, u "ENABLE_CHV"), (1, u "UNBLOCK_CHV"), (1, u "INVALIDATE"), (1, u "REHABILITATE"), (1, u "SLEEP"), (1, u "NEXT"), (1, u "PREVIOUS"), (1, u "ABSOLUTE"), (0, u "SEEK_TYPE_1"), (1, u "SEEK_TYPE_2"), (1, u "SEEK_FROM_START"), (0, u "SEEK_FROM_END"), (1, u "SEEK_NEXT"), (0, u "SEEK_PREVIOUS"), (0, u "TRANSPARENT"), (0, u "LINEAR_FIXED"), (0, u "CYCLIC"), (0, u "ALWAYS"), (0, u "CHV1"), (0, u "CHV2"), (0, u "NEVER"), (1, u "CHV1_STATUS_BYTE"), (6, u "chvNamed"), (0, u "(II)I"), (9, .class_ 108), (0, u "com/example/cardbench/cardbench/card/Gsm1111$FileFunction")] 16

def k2m0 : Method := { name := "<init>", desc := "()V", sig := { parameters := [], returnType := none }, accessFlags := 2, code := none }
def k2c1 : Code := { maxStack := 2, maxLocals := 3, code := prog_7_method_3_code, exceptionTable := #[], attributes := #[] }
def k2m1 : Method := { name := "chvNamed", desc := "(II)I", sig := { parameters := [.int, .int], returnType := some .int }, accessFlags := 9, code := some k2c1 }
/-- com/example/cardbench/cardbench/card/Gsm1111 -/
def k2 : Class := { plain "com/example/cardbench/cardbench/card/Gsm1111" (some 0) with
  accessFlags := 49
  interfaces := #[]
  cf := some (fileOf pool2 7 #[.nestMembers #[107]] #[{ accessFlags := 2, nameIndex := 5, descriptorIndex := 6, attributes := #[] }, { accessFlags := 9, nameIndex := 96, descriptorIndex := 97, attributes := #[] }] 49 2 #[] #[{ accessFlags := 25, nameIndex := 29, descriptorIndex := 30, attributes := #[] }, { accessFlags := 25, nameIndex := 33, descriptorIndex := 30, attributes := #[] }, { accessFlags := 25, nameIndex := 35, descriptorIndex := 30, attributes := #[] }, { accessFlags := 25, nameIndex := 37, descriptorIndex := 30, attributes := #[] }, { accessFlags := 25, nameIndex := 39, descriptorIndex := 30, attributes := #[] }, { accessFlags := 25, nameIndex := 41, descriptorIndex := 30, attributes := #[] }, { accessFlags := 25, nameIndex := 43, descriptorIndex := 30, attributes := #[] }, { accessFlags := 25, nameIndex := 45, descriptorIndex := 30, attributes := #[] }, { accessFlags := 25, nameIndex := 47, descriptorIndex := 30, attributes := #[] }, { accessFlags := 25, nameIndex := 49, descriptorIndex := 30, attributes := #[] }, { accessFlags := 25, nameIndex := 51, descriptorIndex := 30, attributes := #[] }, { accessFlags := 25, nameIndex := 53, descriptorIndex := 30, attributes := #[] }, { accessFlags := 25, nameIndex := 55, descriptorIndex := 30, attributes := #[] }, { accessFlags := 25, nameIndex := 57, descriptorIndex := 30, attributes := #[] }, { accessFlags := 25, nameIndex := 59, descriptorIndex := 30, attributes := #[] }, { accessFlags := 25, nameIndex := 61, descriptorIndex := 30, attributes := #[] }, { accessFlags := 25, nameIndex := 63, descriptorIndex := 30, attributes := #[] }, { accessFlags := 25, nameIndex := 65, descriptorIndex := 30, attributes := #[] }, { accessFlags := 25, nameIndex := 67, descriptorIndex := 30, attributes := #[] }, { accessFlags := 25, nameIndex := 69, descriptorIndex := 30, attributes := #[] }, { accessFlags := 25, nameIndex := 71, descriptorIndex := 30, attributes := #[] }, { accessFlags := 25, nameIndex := 72, descriptorIndex := 30, attributes := #[] }, { accessFlags := 25, nameIndex := 74, descriptorIndex := 30, attributes := #[] }, { accessFlags := 25, nameIndex := 76, descriptorIndex := 30, attributes := #[] }, { accessFlags := 25, nameIndex := 77, descriptorIndex := 30, attributes := #[] }, { accessFlags := 25, nameIndex := 79, descriptorIndex := 30, attributes := #[] }, { accessFlags := 25, nameIndex := 80, descriptorIndex := 30, attributes := #[] }, { accessFlags := 25, nameIndex := 81, descriptorIndex := 30, attributes := #[] }, { accessFlags := 25, nameIndex := 82, descriptorIndex := 30, attributes := #[] }, { accessFlags := 25, nameIndex := 83, descriptorIndex := 30, attributes := #[] }, { accessFlags := 25, nameIndex := 84, descriptorIndex := 30, attributes := #[] }, { accessFlags := 25, nameIndex := 85, descriptorIndex := 30, attributes := #[] }, { accessFlags := 25, nameIndex := 86, descriptorIndex := 30, attributes := #[] }, { accessFlags := 25, nameIndex := 87, descriptorIndex := 30, attributes := #[] }, { accessFlags := 26, nameIndex := 89, descriptorIndex := 30, attributes := #[] }])
  fields := #[{ name := "CLASS", type := .int, accessFlags := 25, slot := 0, constantValue := 0 }, { name := "SELECT", type := .int, accessFlags := 25, slot := 1, constantValue := 0 }, { name := "GET_RESPONSE", type := .int, accessFlags := 25, slot := 2, constantValue := 0 }, { name := "STATUS", type := .int, accessFlags := 25, slot := 3, constantValue := 0 }, { name := "READ_BINARY", type := .int, accessFlags := 25, slot := 4, constantValue := 0 }, { name := "UPDATE_BINARY", type := .int, accessFlags := 25, slot := 5, constantValue := 0 }, { name := "READ_RECORD", type := .int, accessFlags := 25, slot := 6, constantValue := 0 }, { name := "UPDATE_RECORD", type := .int, accessFlags := 25, slot := 7, constantValue := 0 }, { name := "SEEK", type := .int, accessFlags := 25, slot := 8, constantValue := 0 }, { name := "INCREASE", type := .int, accessFlags := 25, slot := 9, constantValue := 0 }, { name := "VERIFY_CHV", type := .int, accessFlags := 25, slot := 10, constantValue := 0 }, { name := "CHANGE_CHV", type := .int, accessFlags := 25, slot := 11, constantValue := 0 }, { name := "DISABLE_CHV", type := .int, accessFlags := 25, slot := 12, constantValue := 0 }, { name := "ENABLE_CHV", type := .int, accessFlags := 25, slot := 13, constantValue := 0 }, { name := "UNBLOCK_CHV", type := .int, accessFlags := 25, slot := 14, constantValue := 0 }, { name := "INVALIDATE", type := .int, accessFlags := 25, slot := 15, constantValue := 0 }, { name := "REHABILITATE", type := .int, accessFlags := 25, slot := 16, constantValue := 0 }, { name := "SLEEP", type := .int, accessFlags := 25, slot := 17, constantValue := 0 }, { name := "NEXT", type := .int, accessFlags := 25, slot := 18, constantValue := 0 }, { name := "PREVIOUS", type := .int, accessFlags := 25, slot := 19, constantValue := 0 }, { name := "ABSOLUTE", type := .int, accessFlags := 25, slot := 20, constantValue := 0 }, { name := "SEEK_TYPE_1", type := .int, accessFlags := 25, slot := 21, constantValue := 0 }, { name := "SEEK_TYPE_2", type := .int, accessFlags := 25, slot := 22, constantValue := 0 }, { name := "SEEK_FROM_START", type := .int, accessFlags := 25, slot := 23, constantValue := 0 }, { name := "SEEK_FROM_END", type := .int, accessFlags := 25, slot := 24, constantValue := 0 }, { name := "SEEK_NEXT", type := .int, accessFlags := 25, slot := 25, constantValue := 0 }, { name := "SEEK_PREVIOUS", type := .int, accessFlags := 25, slot := 26, constantValue := 0 }, { name := "TRANSPARENT", type := .int, accessFlags := 25, slot := 27, constantValue := 0 }, { name := "LINEAR_FIXED", type := .int, accessFlags := 25, slot := 28, constantValue := 0 }, { name := "CYCLIC", type := .int, accessFlags := 25, slot := 29, constantValue := 0 }, { name := "ALWAYS", type := .int, accessFlags := 25, slot := 30, constantValue := 0 }, { name := "CHV1", type := .int, accessFlags := 25, slot := 31, constantValue := 0 }, { name := "CHV2", type := .int, accessFlags := 25, slot := 32, constantValue := 0 }, { name := "NEVER", type := .int, accessFlags := 25, slot := 33, constantValue := 0 }, { name := "CHV1_STATUS_BYTE", type := .int, accessFlags := 26, slot := 34, constantValue := 0 }]
  methods := #[k2m0, k2m1]
  instanceTypes := #[]
  staticTypes := #[.int, .int, .int, .int, .int, .int, .int, .int, .int, .int, .int, .int, .int, .int, .int, .int, .int, .int, .int, .int, .int, .int, .int, .int, .int, .int, .int, .int, .int, .int, .int, .int, .int, .int, .int]
  resolved := Array.replicate 125 none
  statics := none }

def pool3 : Array CpInfo := pool [(1, u "java/lang/Cloneable"), (0, .class_ 1), (0, u "java/lang/Object"), (0, .class_ 3)] 3

/-- java/lang/Cloneable -/
def k3 : Class := { plain "java/lang/Cloneable" (some 0) with
  accessFlags := 1537
  interfaces := #[]
  cf := some (fileOf pool3 2 #[] #[] 1537 4 #[] #[])
  fields := #[]
  methods := #[]
  instanceTypes := #[]
  staticTypes := #[]
  resolved := Array.replicate 8 none
  statics := none }

def pool4 : Array CpInfo := pool [(1, u "java/io/Serializable"), (0, .class_ 1), (0, u "java/lang/Object"), (0, .class_ 3)] 3

/-- java/io/Serializable -/
def k4 : Class := { plain "java/io/Serializable" (some 0) with
  accessFlags := 1537
  interfaces := #[]
  cf := some (fileOf pool4 2 #[] #[] 1537 4 #[] #[])
  fields := #[]
  methods := #[]
  instanceTypes := #[]
  staticTypes := #[]
  resolved := Array.replicate 8 none
  statics := none }

/-- the primitive byte -/
def k5 : Class := { plain "byte" none with kind := .primitive 'B', accessFlags := 0x411 }
/-- [B -/
def k6 : Class := { plain "[B" (some 0) with kind := .array 5 .byte, interfaces := #[3, 4], accessFlags := 1041 }

/-- the primitive int -/
def k7 : Class := { plain "int" none with kind := .primitive 'I', accessFlags := 0x411 }
/-- [I -/
def k8 : Class := { plain "[I" (some 0) with kind := .array 7 .int, interfaces := #[3, 4], accessFlags := 1041 }

def heap : Heap := #[]
def classes : Array Class := #[k0, k1, k2, k3, k4, k5, k6, k7, k8]
def interned : List (Array UInt16 × Addr) := []
def slotsUsed : Nat := 0
def theMethod : MethodId := ⟨1, 1⟩
def args0 : Array Value := #[.int 1, .int 5, .int 7]
def aboutOver (below : List Frame) : State where
  vm := { classes := classes, interned := interned.toArray }
  heap := heap
  slotsUsed := slotsUsed
  threads := #[{ frames := .invoking theMethod args0 :: below }]
def below0 : List Frame := [.native { method := ⟨0, 0⟩, args := #[] }]
def about1 : State := aboutOver below0
def p0 : Program := .bare "" "" ""
def e0 : Env := launch0.env 0 0 0
theorem w_frames : about1.frames = Frame.invoking theMethod args0 :: below0 := rfl
set_option maxRecDepth 65536 in
theorem w_args : argsFit about1.vm theMethod args0 = true := by decide +kernel
set_option maxRecDepth 65536 in
theorem w_heap : heapFits about1 = true := by decide +kernel
set_option maxRecDepth 65536 in
theorem w_runnable : about1.curStatus? = some .runnable := by decide +kernel
set_option maxRecDepth 65536 in
theorem w_alone : about1.alone = true := by decide +kernel
set_option maxRecDepth 65536 in
theorem w_named : about1.methodNamed? x = some theMethod := by decide +kernel
set_option maxRecDepth 65536 in
theorem w_hears : about1.hears theMethod below0 = true := by decide +kernel
set_option maxRecDepth 65536 in
theorem w_ripe : about1.ripe theMethod args0 below0 = true := by decide +kernel
theorem w_running : about1.status = .running := rfl
set_option maxRecDepth 65536 in
theorem w_room : about1.hasRoom e0.platform room_1 = true :=
  launch0.hasRoom_least _ room_1 (by decide +kernel) (by decide +kernel) (by decide +kernel) (by decide +kernel) (by decide +kernel) (by decide +kernel)
theorem allAtoms_all (ts : List Jvm.Cond) (a : Array Jvm.Value) (st : Jvm.State) : (allAtoms ts).before a st = ts.all (fun c => c.before a st) := by
  induction ts with
  | nil => rfl
  | cons c t ih =>
    show (Jvm.Cond.and c (allAtoms t)).before a st = _
    rw [Jvm.Cond.before_and, ih, List.all_cons]
def words1 : List Jvm.Cond := Jvm.Cond.code x code maxLocals ret :: tables_1
/-- a 'code' word, met by the world's own term for the bytes: nothing is compared byte by byte -/
theorem code_word {y : MethodName} {bytes : ByteArray} {mx : Nat} {rt : Option FieldType} {a : Array Value} {s : State} {m : MethodId} {meth : Method} {c : Code} (h1 : s.methodNamed? y = some m) (h2 : s.vm.method? m = some meth) (h3 : meth.code = some c) (h4 : c.code = bytes)
    (h5 : (c.maxLocals == mx && c.exceptionTable.isEmpty && decide (c.maxStack ≤ mostOperands) && decide (meth.sig.returnType = rt) && !meth.locks && decide (parseMethodDescriptor y.desc = some meth.sig)) = true) : (Jvm.Cond.code y bytes mx rt).before a s = true := by
  simp only [Bool.and_eq_true, beq_iff_eq, Bool.not_eq_true', decide_eq_true_eq] at h5
  obtain ⟨⟨⟨⟨⟨g1, g2⟩, g3⟩, g4⟩, g5⟩, g6⟩ := h5
  simp [Cond.before, Cond.holds, Cond.value, h1, h2, h3, h4, g1, g2, g3, g4, g5, g6]
def isCode : Jvm.Cond → Bool
  | .code _ _ _ _ => true
  | _ => false
theorem all_split {L : List Jvm.Cond} {P : Jvm.Cond → Bool} (h1 : L.all (fun c => isCode c || P c) = true) (h2 : ∀ c ∈ L.filter isCode, P c = true) : L.all P = true := by
  refine List.all_eq_true.mpr fun c hc => ?_
  have h := List.all_eq_true.mp h1 c hc
  rcases Bool.eq_false_or_eq_true (isCode c) with hi | hi
  · exact h2 c (List.mem_filter.mpr ⟨hc, hi⟩)
  · simpa [hi] using h
set_option maxRecDepth 65536 in
theorem w_c0 : (Jvm.Cond.code x code maxLocals ret).before args0 about1 = true := code_word (m := ⟨1, 1⟩) (meth := k1m1) (c := k1c1) (by decide +kernel) rfl rfl rfl (by decide +kernel)
set_option maxRecDepth 65536 in
theorem w_c1 : (Jvm.Cond.code ({ cls := "com/example/cardbench/cardbench/card/Gsm1111", name := "chvNamed", desc := "(II)I" } : Jvm.MethodName) prog_7_method_3_code (3 : Nat) (Option.some Jvm.ClassFile.FieldType.int)).before args0 about1 = true := code_word (m := ⟨2, 1⟩) (meth := k2m1) (c := k2c1) (by decide +kernel) rfl rfl rfl (by decide +kernel)
set_option maxRecDepth 65536 in
theorem w_c2 : (Jvm.Cond.code ({ cls := "com/example/cardbench/cardbench/card/Gsm1111ChvNamedPinLaw", name := "expected", desc := "(II)I" } : Jvm.MethodName) method_3_code (3 : Nat) (Option.some Jvm.ClassFile.FieldType.int)).before args0 about1 = true := code_word (m := ⟨1, 2⟩) (meth := k1m2) (c := k1c2) (by decide +kernel) rfl rfl rfl (by decide +kernel)
def codes1 : List Jvm.Cond := [Jvm.Cond.code x code maxLocals ret, Jvm.Cond.code ({ cls := "com/example/cardbench/cardbench/card/Gsm1111", name := "chvNamed", desc := "(II)I" } : Jvm.MethodName) prog_7_method_3_code (3 : Nat) (Option.some Jvm.ClassFile.FieldType.int), Jvm.Cond.code ({ cls := "com/example/cardbench/cardbench/card/Gsm1111ChvNamedPinLaw", name := "expected", desc := "(II)I" } : Jvm.MethodName) method_3_code (3 : Nat) (Option.some Jvm.ClassFile.FieldType.int)]
set_option maxRecDepth 65536 in
theorem codes_eq : words1.filter isCode = codes1 := rfl
theorem w_codes : ∀ c ∈ words1.filter isCode, c.before args0 about1 = true := by
  rw [codes_eq]
  intro c hc
  simp only [codes1, List.mem_cons, List.not_mem_nil, or_false] at hc
  rcases hc with rfl | rfl | rfl
  · exact w_c0
  · exact w_c1
  · exact w_c2
set_option maxRecDepth 65536 in
theorem w_t1 : words1.all (fun c => isCode c || c.before args0 about1) = true := by decide +kernel
theorem w_tables : (allAtoms (Jvm.Cond.code x code maxLocals ret :: tables_1)).before args0 about1 = true := by
  rw [allAtoms_all]
  show words1.all (fun c => c.before args0 about1) = true
  refine all_split ?_ w_codes
  rw [w_t1]
set_option maxRecDepth 65536 in
theorem w_case : (Jvm.Cond.and given_1 narrow_1).before args0 about1 = true := by decide +kernel
theorem w_applies : (headSpec (Jvm.Cond.code x code maxLocals ret :: tables_1) room_1).applies x e0.platform about1 = true :=
  (Spec.applies_iff w_frames).mpr ⟨w_running, w_runnable, w_alone, w_named, w_hears, w_ripe, w_room, w_tables⟩
theorem atStart : AtStart classFile x code maxLocals ret World_1 tables_1 room_1 Calls_1 rest_1 Pre_1 launch0 p0 e0 about1 theMethod args0 below0 :=
  ⟨lists_1, trivial, launch0.admits_env _ _ _, launch0.least_env, fairChoices_fair.cas, fairChoices_fair.clock, w_frames, w_args, w_heap, w_applies, trivial, trivial, w_case⟩
end start1
theorem witness_1 : WitnessClaimed_1 := ⟨start1.p0, start1.e0, start1.about1, start1.theMethod, start1.args0, start1.below0, start1.atStart⟩
end Jvm.Pilot.@@N@@
